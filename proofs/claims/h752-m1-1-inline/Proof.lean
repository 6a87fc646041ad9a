import JvmDerived
import JvmDerived.Pilot.@@N@@Statement
import JvmDerived.Pilot.@@N@@Code
set_option linter.unusedVariables false
set_option linter.unusedSimpArgs false
namespace Jvm.OwnS
open Sem ClassFile Op Lib Jvm.Stand Jvm.Free Jvm.LawKit Jvm.RoadKit
/-- x is a String of the chars cs, Latin-1; its bytes lie at t -/
def Str (Z : State) (h : Heap) (x t : Addr) (kb : ClassId) (cs : List Int32) : Prop :=
  Exa Z h x "java/lang/String" ∧ Fld Z h x "java/lang/String" "value" "[B" (.ref t) ∧ Fld Z h x "java/lang/String" "coder" "B" (.int 0) ∧ Arv Z h t kb .byte (Int32.ofNat cs.length) (cs.map fun c => Value.int (c.toInt8.toInt32)) (.int 0) ∧ (∀ c ∈ cs, ¬ c < 0 ∧ ¬ (255 : Int32) < c) ∧ cs.length ≤ 4000
theorem Str.keep {Z : State} {h h' : Heap} {x t : Addr} {kb : ClassId} {cs : List Int32} {ws : List Addr} (F : Str Z h x t kb cs) (K : Keep h h' ws) (q1 : x ∉ ws) (q2 : t ∉ ws) : Str Z h' x t kb cs :=
  ⟨F.1.keep K, F.2.1.keep K q1, F.2.2.1.keep K q1, F.2.2.2.1.keep K q2, F.2.2.2.2⟩
theorem Str.lt {Z : State} {h : Heap} {x t : Addr} {kb : ClassId} {cs : List Int32} (F : Str Z h x t kb cs) : x < h.size := F.1.lt
theorem Str.ltb {Z : State} {h : Heap} {x t : Addr} {kb : ClassId} {cs : List Int32} (F : Str Z h x t kb cs) : t < h.size := F.2.2.2.1.lt
end Jvm.OwnS
namespace Jvm.OwnN
open Sem ClassFile Op Lib Jvm.Stand Jvm.Free Jvm.LawKit Jvm.RoadKit
section Base
variable {p : Program} {l : Launch} {e : Env} {R : Room} {s : State} {m : MethodId} {args : Array Value} {below : List Frame} {meth : Method} {c : Code} {T : State} {h : Heap} {n0 k n : Nat} {Z : State} {a0 : Array Value}
/-- where a walk stands: the state, its heap, how many cells and slots have been made, and that nothing old has been written -/
def On (p : Program) (l : Launch) (e : Env) (R : Room) (s : State) (m : MethodId) (args : Array Value) (below : List Frame) (meth : Method) (c : Code) (n0 : Nat) (T : State) (h : Heap) (k n : Nat) : Prop :=
  ∃ locs, Stand p l e R s m args below meth c T locs k n ∧ T.heap = h ∧ Fr n0 locs
/-- what a walk aims at: from this frame the invocation ends, returns, and Q holds of what it returned and of the heap -/
def Aim (p : Program) (e : Env) (below : List Frame) (s : State) (CC SS n0 : Nat) (Q : Option Value → Heap → Prop) (T : State) (g : JFrame) : Prop :=
  ∃ s₂ o, Steps p.tables e below (T.setTop g) s₂ ∧ s₂.status = .running ∧ Ended s₂ below o ∧ ∃ v L, o = .returned v ∧ (Q v s₂.heap ∧ Fr n0 L) ∧ FrameEnd s o s₂ L CC SS
/-- a contract -/
def Con (l : Launch) (Z : State) (y : MethodName) (bytes : ByteArray) (maxL : Nat) (ret : Option FieldType) (rm : Room) (n0 : Nat) (as' : Array Value) (h0 : Heap) (Q : Option Value → Heap → Prop) : Prop :=
  ∀ ws, MetFree l y (head1 (Cond.code y bytes maxL ret :: ws) rm) (fun a U => a = as' ∧ Z.Warmed39 U.vm ∧ U.heap = h0) (fun _ _ _ _ _ => True) (fun _ U o U' => ∃ v L, o = .returned v ∧ (Q v U'.heap ∧ Fr n0 L) ∧ FrameEnd U o U' L rm.cells rm.slots)
/-- a callee that comes back -/
def Bk (l : Launch) (R : Room) (p : Program) (e : Env) (below : List Frame) (s : State) (sargs : Array Value) (y : MethodName) (len W : Nat) (as' : Array Value) (h : Heap) (dc ds n0 : Nat) (Q : Option Value → Heap → Prop) : Prop :=
  Back l R p e below s sargs y len W (fun A a => a = as' ∧ A.U.heap = h ∧ A.cells + dc ≤ R.cells ∧ A.slots + ds ≤ R.slots) (fun A _ v B => ∃ L, (Q v B.U.heap ∧ Fr n0 L) ∧ B.locs = A.locs ++ L ∧ B.cells = A.cells + dc ∧ B.slots = A.slots + ds)
variable {CC SS : Nat} {Q : Option Value → Heap → Prop}
theorem On.here (P : On p l e R s m args below meth c n0 T h k n) : At T m c below := by obtain ⟨_, X, -⟩ := P; exact X.here
theorem On.more {k' n' : Nat} (P : On p l e R s m args below meth c n0 T h k n) (hk : k ≤ k') (hn : n ≤ n') : On p l e R s m args below meth c n0 T h k' n' := by
  obtain ⟨L, X, r⟩ := P; exact ⟨L, X.more hk hn, r⟩
theorem Aim.of {T' : State} {g g' : JFrame} (st : ∀ t, Steps p.tables e below (T'.setTop g') t → Steps p.tables e below (T.setTop g) t) (a : Aim p e below s CC SS n0 Q T' g') : Aim p e below s CC SS n0 Q T g := by
  obtain ⟨s2, o, h1, r⟩ := a; exact ⟨s2, o, st _ h1, r⟩
theorem Aim.cast {g g' : JFrame} (q : g = g') (a : Aim p e below s CC SS n0 Q T g') : Aim p e below s CC SS n0 Q T g := q ▸ a
theorem Aim.imp {g : JFrame} {Q' : Option Value → Heap → Prop} (a : Aim p e below s CC SS n0 Q' T g) (q : ∀ v h, Q' v h → Q v h) : Aim p e below s CC SS n0 Q T g := by
  obtain ⟨s2, o, h1, h2, h3, v, L, h4, ⟨h5, h6⟩, h7⟩ := a; exact ⟨s2, o, h1, h2, h3, v, L, h4, ⟨q _ _ h5, h6⟩, h7⟩
theorem Con.imp {y : MethodName} {bytes : ByteArray} {maxL : Nat} {ret : Option FieldType} {rm : Room} {as' : Array Value} {Q' : Option Value → Heap → Prop} (a : Con l Z y bytes maxL ret rm n0 as' h Q') (q : ∀ v h, Q' v h → Q v h) : Con l Z y bytes maxL ret rm n0 as' h Q := by
  intro ws p e ha hc hk s m args below hf happ hP hK
  obtain ⟨nn, o, h1, h2, h3, v, L, h4, ⟨h5, h6⟩, h7⟩ := a ws p e ha hc hk s m args below hf happ hP hK
  exact ⟨nn, o, h1, h2, h3, v, L, h4, ⟨q _ _ h5, h6⟩, h7⟩
theorem Con.intro {y : MethodName} {bytes : ByteArray} {maxL : Nat} {ret : Option FieldType} {rm : Room} {as' : Array Value} (pl : plainFor y = true)
    (body : ∀ (p : Program) (e : Env) (s : State) (m : MethodId) (below : List Frame) (meth : Method) (c : Code) (s₁ : State), p.tables.exec = Jvm.exec → c.code = bytes → c.maxLocals = maxL → meth.sig.returnType = ret → meth.name = y.name → s.vm.findClass y.cls = some m.cls → meth.locks = false → Z.Warmed39 s.vm →
      On p l e rm s m as' below meth c n0 s₁ h 0 0 → Aim p e below s rm.cells rm.slots n0 Q s₁ (entryFrame m as' maxL)) : Con l Z y bytes maxL ret rm n0 as' h Q := by
  intro ws
  refine MetFree.of_bodySF pl hisR ?_
  intro p e s m args below meth c s₁ Bd hml0 hP hK
  obtain ⟨rfl, hZ, hh⟩ := hP
  have X0 : Stand p l e rm s m args below meth c s₁ [] 0 0 := Stand.of_body Bd
  obtain ⟨s2, o, h1, h2, h3, v, L, h4, h5, h6⟩ := body p e s m below meth c s₁ Bd.exec Bd.bytes hml0 Bd.returns (name_of_methodNamed Bd.named Bd.method).1 (findClass_of_methodNamed Bd.named) (BodyLoose.notSynchronized Bd) hZ ⟨[], X0, by rw [← hh, Bd.state]; rfl, Fr.nil n0⟩
  exact ⟨s2, o, h1, h2, h3, v, L, h4, h5, h6⟩
theorem Con.back {y : MethodName} {bytes : ByteArray} {maxL : Nat} {ret : Option FieldType} {rm : Room} {as' : Array Value} {len W : Nat} (hM : Con l Z y bytes maxL ret rm n0 as' h Q) (hZ : Z.Warmed39 s.vm) (wc : (Cond.code y bytes maxL ret).before a0 Z = true) (wz : (Cond.initialized y.cls).before a0 Z = true) (hf : rm.frames + 1 ≤ R.frames) (hl : W + (maxL + 11) + rm.locals ≤ R.locals) :
    Bk l R p e below s args y len W as' h rm.cells rm.slots n0 Q := backOf (Q := fun v h L => Q v h ∧ Fr n0 L) (hM []) hZ wc wz hf hl
theorem Bk.imp {y : MethodName} {len W dc ds : Nat} {as' : Array Value} {Q' : Option Value → Heap → Prop} (hK : Bk l R p e below s args y len W as' h dc ds n0 Q') (q : ∀ v h, Q' v h → Q v h) : Bk l R p e below s args y len W as' h dc ds n0 Q :=
  Back.mono hK (fun _ _ hp => hp) (fun _ _ _ _ _ ⟨L, ⟨h1, h2⟩, r⟩ => ⟨L, ⟨q _ _ h1, h2⟩, r⟩)
/-! the ways out -/
theorem Aim.retN {t : FieldType} {pc : Nat} {Ls : Array Slot} {z : Int32} {rest : List Value} (P : On p l e R s m args below meth c n0 T h k n) (hx : p.tables.exec = Jvm.exec) (hlk : meth.locks = false) (hret : meth.sig.returnType = some t) (ht : t = .boolean ∨ t = .byte ∨ t = .char ∨ t = .short) (hd : decode c.code pc = .ok (.ireturn, 1))
    (hk : k ≤ CC) (hn : n ≤ SS) (q : Q (some (.int (nar t z))) h) : Aim p e below s CC SS n0 Q T (mkF m pc Ls (.int z :: rest)) := by
  obtain ⟨L, X, eT, N⟩ := P
  obtain ⟨fs, hr, hrun, hended, hW, hsame⟩ := X.leave (v := some (.int (nar t z))) (fun h => by rw [hret] at h; cases h) hlk
  exact ⟨_, _, Jvm.RoadKit.retN X hx hret ht hd hr, hrun, hended, _, _, rfl, ⟨by show Q _ T.heap; rw [eT]; exact q, N⟩, ⟨_, rfl⟩, hW, hsame.mono hk hn⟩
theorem Aim.retW {t : FieldType} {i : Instr} {pc : Nat} {Ls : Array Slot} {w : Value} {rest : List Value} (P : On p l e R s m args below meth c n0 T h k n) (hx : p.tables.exec = Jvm.exec) (hlk : meth.locks = false) (hret : meth.sig.returnType = some t) (hn' : narrow t w = w)
    (hi : (i = .ireturn ∧ (t = .int ∨ t = .boolean ∨ t = .byte ∨ t = .char ∨ t = .short) ∧ ∃ z, w = .int z) ∨ (i = .lreturn ∧ t = .long ∧ ∃ z, w = .long z) ∨ (i = .dreturn ∧ t = .double ∧ ∃ z, w = .double z) ∨ (i = .freturn ∧ t = .float ∧ ∃ z, w = .float z) ∨ (i = .areturn ∧ t.isReference = true ∧ w.isRef = true)) (hd : decode c.code pc = .ok (i, 1))
    (hk : k ≤ CC) (hn : n ≤ SS) (q : Q (some w) h) : Aim p e below s CC SS n0 Q T (mkF m pc Ls (w :: rest)) := by
  obtain ⟨L, X, eT, N⟩ := P
  obtain ⟨fs, hr, hrun, hended, hW, hsame⟩ := X.leave (v := some w) (fun h => by rw [hret] at h; cases h) hlk
  exact ⟨_, _, Jvm.RoadKit.retOut X hx hret hn' hi hd hr, hrun, hended, _, _, rfl, ⟨by show Q _ T.heap; rw [eT]; exact q, N⟩, ⟨_, rfl⟩, hW, hsame.mono hk hn⟩
theorem Aim.retI {pc : Nat} {Ls : Array Slot} {z : Int32} {rest : List Value} (P : On p l e R s m args below meth c n0 T h k n) (hx : p.tables.exec = Jvm.exec) (hlk : meth.locks = false) (hret : meth.sig.returnType = some .int) (hd : decode c.code pc = .ok (.ireturn, 1))
    (hk : k ≤ CC) (hn : n ≤ SS) (q : Q (some (.int z)) h) : Aim p e below s CC SS n0 Q T (mkF m pc Ls (.int z :: rest)) := Aim.retW P hx hlk hret rfl (Or.inl ⟨rfl, Or.inl rfl, z, rfl⟩) hd hk hn q
theorem Aim.retJ {pc : Nat} {Ls : Array Slot} {z : Int64} {rest : List Value} (P : On p l e R s m args below meth c n0 T h k n) (hx : p.tables.exec = Jvm.exec) (hlk : meth.locks = false) (hret : meth.sig.returnType = some .long) (hd : decode c.code pc = .ok (.lreturn, 1))
    (hk : k ≤ CC) (hn : n ≤ SS) (q : Q (some (.long z)) h) : Aim p e below s CC SS n0 Q T (mkF m pc Ls (.long z :: rest)) := Aim.retW P hx hlk hret rfl (Or.inr (Or.inl ⟨rfl, rfl, z, rfl⟩)) hd hk hn q
theorem Aim.retA {t : FieldType} {pc : Nat} {Ls : Array Slot} {w : Value} {rest : List Value} (P : On p l e R s m args below meth c n0 T h k n) (hx : p.tables.exec = Jvm.exec) (hlk : meth.locks = false) (hret : meth.sig.returnType = some t) (ht : t.isReference = true) (hw : w.isRef = true) (hd : decode c.code pc = .ok (.areturn, 1))
    (hk : k ≤ CC) (hn : n ≤ SS) (q : Q (some w) h) : Aim p e below s CC SS n0 Q T (mkF m pc Ls (w :: rest)) := by
  have hn' : narrow t w = w := by cases t <;> cases w <;> first | rfl | (cases ht; done) | (cases hw; done)
  exact Aim.retW P hx hlk hret hn' (Or.inr (Or.inr (Or.inr (Or.inr ⟨rfl, ht, hw⟩)))) hd hk hn q
theorem Aim.retV {pc : Nat} {Ls : Array Slot} (P : On p l e R s m args below meth c n0 T h k n) (hx : p.tables.exec = Jvm.exec) (hlk : meth.locks = false) (hret : meth.sig.returnType = none) (hd : decode c.code pc = .ok (.return_, 1))
    (hk : k ≤ CC) (hn : n ≤ SS) (q : Q none h) : Aim p e below s CC SS n0 Q T (mkF m pc Ls []) := by
  obtain ⟨L, X, eT, N⟩ := P
  obtain ⟨fs, hr, hrun, hended, hW, hsame⟩ := X.leave (v := none) (fun _ => rfl) hlk
  exact ⟨_, _, X.returnOut hx hret hd hr, hrun, hended, _, _, rfl, ⟨by show Q _ T.heap; rw [eT]; exact q, N⟩, ⟨_, rfl⟩, hW, hsame.mono hk hn⟩
/-! steps that meet the heap -/
theorem Aim.newO {own C : String} {index nn pc : Nat} {Ls : Array Slot} {st : List Value} (P : On p l e R s m args below meth c n0 T h k n) (hx : p.tables.exec = Jvm.exec) (hZ : Z.Warmed39 s.vm) (hown : s.vm.findClass own = some m.cls) (w : (Cond.classLink own index C).before a0 Z = true) (wi : (Cond.instantiable C nn).before a0 Z = true) (wz : (Cond.initialized C).before a0 Z = true)
    (hd : decode c.code pc = .ok (.new index, 3)) (hc : k + 1 ≤ R.cells) (hl : n + nn ≤ R.slots)
    (cont : ∀ T' h' b, b = h.size → On p l e R s m args below meth c n0 T' h' (k + 1) (n + nn) → Ext h h' → Exa Z h' b C → (∀ {O nm d : String} {ty : FieldType}, Laid Z a0 C O nm d → parseFieldDescriptor d = some ty → Fld Z h' b O nm d (defaultValue ty)) → Unt h' b → Aim p e below s CC SS n0 Q T' (mkF m (pc + 3) Ls (.ref b :: st))) :
    Aim p e below s CC SS n0 Q T (mkF m pc Ls st) := by
  obtain ⟨L, X, eT, N⟩ := P
  obtain ⟨T', h', X', e', E, A, D, U, st'⟩ := RoadKit.newO X hx hZ hown w wi wz eT (g := mkF m pc Ls st) rfl hd hc hl
  exact Aim.of st' (cont T' h' _ rfl ⟨L, X', e', N⟩ E A D U)
theorem Aim.newP {aty : ArrayType} {pc : Nat} {Ls : Array Slot} {z : Int32} {st : List Value} (P : On p l e R s m args below meth c n0 T h k n) (hx : p.tables.exec = Jvm.exec) (hZ : Z.Warmed39 s.vm) (w : (Cond.arrayClass (newarray.typeOf aty)).before a0 Z = true) (hd : decode c.code pc = .ok (.newarray aty, 2))
    (hz : ¬ z < 0) {cap : Nat} (hcap : z.toNatClampNeg ≤ cap) (hb : cap * 8 ≤ 536870912) (hc : k + 1 ≤ R.cells) (hl : n + cap ≤ R.slots)
    (cont : ∀ T' h' kk b, b = h.size → On p l e R s m args below meth c n0 T' h' (k + 1) (n + cap) → Ext h h' → Arv Z h' b kk (newarray.typeOf aty) z [] (defaultValue (newarray.typeOf aty)) → Aim p e below s CC SS n0 Q T' (mkF m (pc + 2) Ls (.ref b :: st))) :
    Aim p e below s CC SS n0 Q T (mkF m pc Ls (.int z :: st)) := by
  obtain ⟨L, X, eT, N⟩ := P
  obtain ⟨T', h', kk, X', e', E, A, st'⟩ := RoadKit.newP X hx hZ w eT (g := mkF m pc Ls (.int z :: st)) rfl hd rfl hz hcap hb hc hl
  exact Aim.of st' (cont T' h' kk _ rfl ⟨L, X', e', N⟩ E (Arv.new A hz))
theorem Aim.newR {own C : String} {index pc : Nat} {Ls : Array Slot} {z : Int32} {st : List Value} (P : On p l e R s m args below meth c n0 T h k n) (hx : p.tables.exec = Jvm.exec) (hZ : Z.Warmed39 s.vm) (hown : s.vm.findClass own = some m.cls) (w1 : (Cond.classLink own index C).before a0 Z = true) (w2 : (Cond.arrayOver (.object C)).before a0 Z = true) (hd : decode c.code pc = .ok (.anewarray index, 3))
    (hz : ¬ z < 0) {cap : Nat} (hcap : z.toNatClampNeg ≤ cap) (hb : cap * 8 ≤ 536870912) (hc : k + 1 ≤ R.cells) (hl : n + cap ≤ R.slots)
    (cont : ∀ T' h' kk b, b = h.size → On p l e R s m args below meth c n0 T' h' (k + 1) (n + cap) → Ext h h' → Arv Z h' b kk (.object C) z [] .null → Ovr Z kk C → Aim p e below s CC SS n0 Q T' (mkF m (pc + 3) Ls (.ref b :: st))) :
    Aim p e below s CC SS n0 Q T (mkF m pc Ls (.int z :: st)) := by
  obtain ⟨L, X, eT, N⟩ := P
  obtain ⟨T', h', kk, X', e', E, A, O, st'⟩ := RoadKit.newR X hx hZ hown w1 w2 eT (g := mkF m pc Ls (.int z :: st)) rfl hd rfl hz hcap hb hc hl
  exact Aim.of st' (cont T' h' kk _ rfl ⟨L, X', e', N⟩ E (Arv.new A hz) O)
theorem Aim.getF {own R0 O f d host : String} {index pc : Nat} {Ls : Array Slot} {st : List Value} {a : Addr} {v : Value} (P : On p l e R s m args below meth c n0 T h k n) (hx : p.tables.exec = Jvm.exec) (hZ : Z.Warmed39 s.vm) (hown : s.vm.findClass own = some m.cls) (w : (Cond.fieldLink own index R0 f d).before a0 Z = true ∨ (Cond.fieldLinkNest own index R0 f d host).before a0 Z = true) (via : Via Z R0 O f d)
    (F : Fld Z h a O f d v) (hd : decode c.code pc = .ok (.getfield index, 3)) (cont : ∀ T', On p l e R s m args below meth c n0 T' h k n → Aim p e below s CC SS n0 Q T' (mkF m (pc + 3) Ls (v :: st))) :
    Aim p e below s CC SS n0 Q T (mkF m pc Ls (.ref a :: st)) := by
  obtain ⟨L, X, eT, N⟩ := P
  obtain ⟨T', X', e', st'⟩ := RoadKit.getF X hx hZ hown w via eT F (g := mkF m pc Ls (.ref a :: st)) rfl rfl hd
  exact Aim.of st' (cont T' ⟨L, X', e', N⟩)
theorem Aim.getS {own R0 O f d : String} {index pc : Nat} {Ls : Array Slot} {st : List Value} {v : Value} (P : On p l e R s m args below meth c n0 T h k n) (hx : p.tables.exec = Jvm.exec) (hZ : Z.Warmed39 s.vm) (hown : s.vm.findClass own = some m.cls) (w : (Cond.fieldLink own index R0 f d).before a0 Z = true) (via : Via Z R0 O f d)
    (F : Sta Z h O f d v) (hd : decode c.code pc = .ok (.getstatic index, 3)) (cont : ∀ T', On p l e R s m args below meth c n0 T' h k n → Aim p e below s CC SS n0 Q T' (mkF m (pc + 3) Ls (v :: st))) :
    Aim p e below s CC SS n0 Q T (mkF m pc Ls st) := by
  obtain ⟨L, X, eT, N⟩ := P
  obtain ⟨T', X', e', st'⟩ := RoadKit.getS (host := "") X hx hZ hown w via eT F (g := mkF m pc Ls st) rfl hd
  exact Aim.of st' (cont T' ⟨L, X', e', N⟩)
theorem Aim.getS2 {own R0 O f d host : String} {index pc : Nat} {Ls : Array Slot} {st : List Value} {v : Value} (P : On p l e R s m args below meth c n0 T h k n) (hx : p.tables.exec = Jvm.exec) (hZ : Z.Warmed39 s.vm) (hown : s.vm.findClass own = some m.cls) (w : (Cond.fieldLink own index R0 f d).before a0 Z = true ∨ (Cond.fieldLinkNest own index R0 f d host).before a0 Z = true) (via : Via Z R0 O f d)
    (F : Sta Z h O f d v) (hd : decode c.code pc = .ok (.getstatic index, 3)) (cont : ∀ T', On p l e R s m args below meth c n0 T' h k n → Aim p e below s CC SS n0 Q T' (mkF m (pc + 3) Ls (v :: st))) :
    Aim p e below s CC SS n0 Q T (mkF m pc Ls st) := by
  obtain ⟨L, X, eT, N⟩ := P
  obtain ⟨T', X', e', st'⟩ := RoadKit.getS2 X hx hZ hown w via eT F (g := mkF m pc Ls st) rfl hd
  exact Aim.of st' (cont T' ⟨L, X', e', N⟩)
theorem Aim.putF {own R0 O f d host C : String} {index kk pc : Nat} {ty : FieldType} {Ls : Array Slot} {st : List Value} {a : Addr} {v old : Value} (P : On p l e R s m args below meth c n0 T h k n) (hx : p.tables.exec = Jvm.exec) (hZ : Z.Warmed39 s.vm) (hown : s.vm.findClass own = some m.cls) (w : (Cond.fieldLink own index R0 f d).before a0 Z = true ∨ (Cond.fieldLinkNest own index R0 f d host).before a0 Z = true) (via : Via Z R0 O f d)
    (F : Fld Z h a O f d old) (E : Exa Z h a C) (hL : (Cond.lays C O f d).before a0 Z = true ∨ ((Cond.laysFinal C O f d).before a0 Z = true ∧ own = O ∧ meth.name = "<init>")) (wi : (Cond.instantiable C kk).before a0 Z = true)
    (hty : parseFieldDescriptor d = some ty) (hn : narrow ty v = v) (hf : fits ty v = true) (hd : decode c.code pc = .ok (.putfield index, 3)) (ga : n0 ≤ a)
    (cont : ∀ T' h', On p l e R s m args below meth c n0 T' h' k n → Wr h h' a (Jvm.RoadKit.slotOf Z O f d) v → Aim p e below s CC SS n0 Q T' (mkF m (pc + 3) Ls st)) :
    Aim p e below s CC SS n0 Q T (mkF m pc Ls (v :: .ref a :: st)) := by
  obtain ⟨L, X, eT, N⟩ := P
  obtain ⟨T', h', X', e', W, st'⟩ := RoadKit.putF X hx hZ hown w via eT F E hL wi hty hn hf (g := mkF m pc Ls (v :: .ref a :: st)) rfl rfl hd
  exact Aim.of st' (cont T' h' ⟨_, X', e', Fr.snoc X' N ga⟩ W)
theorem Aim.stC {pc : Nat} {Ls : Array Slot} {st : List Value} {a : Addr} {kk : ClassId} {j x z : Int32} {vs : List Value} {dv : Value} (P : On p l e R s m args below meth c n0 T h k n) (hx : p.tables.exec = Jvm.exec) (hZ : Z.Warmed39 s.vm) (V : Arv Z h a kk .char z vs dv) (hj : ¬ j < 0 ∧ j < z) (i : Nat) (hi : j.toNatClampNeg = i) (hv : i < vs.length)
    (hd : decode c.code pc = .ok (.castore, 1)) (ga : n0 ≤ a) (cont : ∀ T' h', On p l e R s m args below meth c n0 T' h' k n → Keep h h' [a] → Arv Z h' a kk .char z (vs.set i (.int (nar .char x))) dv → Aim p e below s CC SS n0 Q T' (mkF m (pc + 1) Ls st)) :
    Aim p e below s CC SS n0 Q T (mkF m pc Ls (.int x :: .int j :: .ref a :: st)) := by
  obtain ⟨L, X, eT, N⟩ := P
  obtain ⟨cl, A, q, S, M, H, U⟩ := V
  obtain ⟨T', h', X', e', W, st'⟩ := RoadKit.stC X hx hZ eT A (j := j) (inb_of S hj) (g := mkF m pc Ls (.int x :: .int j :: .ref a :: st)) rfl rfl hd
  exact Aim.of st' (cont T' h' ⟨_, X', e', Fr.snoc X' N ga⟩ (Keep.of_wr W) (Arv.set A q S M H U (fits_nar_char _) W i hi hv))
theorem Aim.stB {pc : Nat} {Ls : Array Slot} {st : List Value} {a : Addr} {kk : ClassId} {j x z : Int32} {vs : List Value} {dv : Value} (P : On p l e R s m args below meth c n0 T h k n) (hx : p.tables.exec = Jvm.exec) (hZ : Z.Warmed39 s.vm) (V : Arv Z h a kk .byte z vs dv) (hj : ¬ j < 0 ∧ j < z) (i : Nat) (hi : j.toNatClampNeg = i) (hv : i < vs.length)
    (hd : decode c.code pc = .ok (.bastore, 1)) (ga : n0 ≤ a) (cont : ∀ T' h', On p l e R s m args below meth c n0 T' h' k n → Keep h h' [a] → Arv Z h' a kk .byte z (vs.set i (.int x.toInt8.toInt32)) dv → Aim p e below s CC SS n0 Q T' (mkF m (pc + 1) Ls st)) :
    Aim p e below s CC SS n0 Q T (mkF m pc Ls (.int x :: .int j :: .ref a :: st)) := by
  obtain ⟨L, X, eT, N⟩ := P
  obtain ⟨cl, A, q, S, M, H, U⟩ := V
  obtain ⟨T', h', X', e', W, st'⟩ := RoadKit.stB X hx hZ eT A (j := j) (inb_of S hj) (g := mkF m pc Ls (.int x :: .int j :: .ref a :: st)) rfl rfl hd
  exact Aim.of st' (cont T' h' ⟨_, X', e', Fr.snoc X' N ga⟩ (Keep.of_wr W) (Arv.set A q S M H U (fits_nar_byte _) W i hi hv))
theorem Aim.alen {pc : Nat} {Ls : Array Slot} {st : List Value} {a : Addr} {kk : ClassId} {ty : FieldType} {z : Int32} {vs : List Value} {dv : Value} (P : On p l e R s m args below meth c n0 T h k n) (hx : p.tables.exec = Jvm.exec) (hZ : Z.Warmed39 s.vm) (V : Arv Z h a kk ty z vs dv)
    (hd : decode c.code pc = .ok (.arraylength, 1)) (cont : Aim p e below s CC SS n0 Q T (mkF m (pc + 1) Ls (.int z :: st))) : Aim p e below s CC SS n0 Q T (mkF m pc Ls (.ref a :: st)) := by
  obtain ⟨L, X, eT, N⟩ := P
  obtain ⟨cl, A, q, S, M, H, U⟩ := V
  refine Aim.of (fun t kt => X.arraylength hx (by rw [eT]; exact A.1) (State.isArrayOf_alike hZ.alike A.2.1) (g := mkF m pc Ls (.ref a :: st)) rfl rfl hd t ?_) cont
  rw [len_of S M]; exact kt
theorem Aim.ldC {pc : Nat} {Ls : Array Slot} {st : List Value} {a : Addr} {kk : ClassId} {j z : Int32} {vs : List Value} {dv v : Value} (P : On p l e R s m args below meth c n0 T h k n) (hx : p.tables.exec = Jvm.exec) (hZ : Z.Warmed39 s.vm) (V : Arv Z h a kk .char z vs dv) (hj : ¬ j < 0 ∧ j < z) (hv : vs.getD j.toNatClampNeg dv = v)
    (hd : decode c.code pc = .ok (.caload, 1)) (cont : Aim p e below s CC SS n0 Q T (mkF m (pc + 1) Ls (v :: st))) : Aim p e below s CC SS n0 Q T (mkF m pc Ls (.int j :: .ref a :: st)) := by
  obtain ⟨L, X, eT, N⟩ := P
  obtain ⟨cl, A, q, S, M, H, U⟩ := V
  exact Aim.of (fun t kt => X.caload hx (j := j) (v := v) (by rw [eT]; exact A.1) (State.isArrayOf_alike hZ.alike A.2.1) A.2.2 (inb_of S hj) (H.at (inb_of S hj) hv) (g := mkF m pc Ls (.int j :: .ref a :: st)) rfl rfl hd t kt) cont
theorem Aim.ldB {pc : Nat} {Ls : Array Slot} {st : List Value} {a : Addr} {kk : ClassId} {j z : Int32} {vs : List Value} {dv v : Value} (P : On p l e R s m args below meth c n0 T h k n) (hx : p.tables.exec = Jvm.exec) (hZ : Z.Warmed39 s.vm) (V : Arv Z h a kk .byte z vs dv) (hj : ¬ j < 0 ∧ j < z) (hv : vs.getD j.toNatClampNeg dv = v)
    (hd : decode c.code pc = .ok (.baload, 1)) (cont : Aim p e below s CC SS n0 Q T (mkF m (pc + 1) Ls (v :: st))) : Aim p e below s CC SS n0 Q T (mkF m pc Ls (.int j :: .ref a :: st)) := by
  obtain ⟨L, X, eT, N⟩ := P
  obtain ⟨cl, A, q, S, M, H, U⟩ := V
  exact Aim.of (fun t kt => X.baloadBytes hx (j := j) (v := v) (by rw [eT]; exact A.1) (State.isArrayOf_alike hZ.alike A.2.1) A.2.2 (inb_of S hj) (H.at (inb_of S hj) hv) (g := mkF m pc Ls (.int j :: .ref a :: st)) rfl rfl hd t kt) cont
theorem Aim.initO {own : String} {index pc mx : Nat} {Ls : Array Slot} {st : List Value} {a : Addr} (P : On p l e R s m args below meth c n0 T h k n) (hx : p.tables.exec = Jvm.exec) (hZ : Z.Warmed39 s.vm) (hml : c.maxLocals = mx) (hown : s.vm.findClass own = some m.cls) (w1 : (Cond.methodLink own index Lib.objectInit).before a0 Z = true) (w2 : (Cond.instanceMethod Lib.objectInit).before a0 Z = true)
    (w3 : (Cond.code Lib.objectInit ⟨#[0xb1]⟩ 1 none).before a0 Z = true) (hsz : Ls.size = mx) (hd : decode c.code pc = .ok (.invokespecial index, 3)) (hf : 1 ≤ R.frames) (hl : (st.map fun v => v.category).sum + 12 ≤ R.locals)
    (cont : ∀ T', On p l e R s m args below meth c n0 T' h k n → Aim p e below s CC SS n0 Q T' (mkF m (pc + 3) Ls st)) : Aim p e below s CC SS n0 Q T (mkF m pc Ls (.ref a :: st)) := by
  obtain ⟨L, X, eT, N⟩ := P
  obtain ⟨T', X', e', st'⟩ := RoadKit.initO X hx hZ hown w1 w2 w3 eT (g := mkF m pc Ls (.ref a :: st)) rfl (by rw [hml]; exact hsz) rfl hd hf (W := (st.map fun v => v.category).sum) (by show 2 * 0 + _ ≤ _; omega) hl
  exact Aim.of st' (cont T' ⟨L, X', e', N⟩)
theorem Aim.castY {own K : String} {index pc : Nat} {Ls : Array Slot} {st : List Value} {a : Addr} (P : On p l e R s m args below meth c n0 T h k n) (hx : p.tables.exec = Jvm.exec) (hZ : Z.Warmed39 s.vm) (hown : s.vm.findClass own = some m.cls) (w : (Cond.classLink own index K).before a0 Z = true) (F : Ins Z h a K true) (hd : decode c.code pc = .ok (.checkcast index, 3))
    (cont : ∀ T', On p l e R s m args below meth c n0 T' h k n → Aim p e below s CC SS n0 Q T' (mkF m (pc + 3) Ls (.ref a :: st))) : Aim p e below s CC SS n0 Q T (mkF m pc Ls (.ref a :: st)) := by
  obtain ⟨L, X, eT, N⟩ := P
  obtain ⟨T', X', e', st'⟩ := RoadKit.castY X hx hZ hown w eT F (g := mkF m pc Ls (.ref a :: st)) rfl rfl hd
  exact Aim.of st' (cont T' ⟨L, X', e', N⟩)
theorem Aim.instY {own K : String} {index pc : Nat} {Ls : Array Slot} {st : List Value} {a : Addr} (P : On p l e R s m args below meth c n0 T h k n) (hx : p.tables.exec = Jvm.exec) (hZ : Z.Warmed39 s.vm) (hown : s.vm.findClass own = some m.cls) (w : (Cond.classLink own index K).before a0 Z = true) (F : Ins Z h a K true) (hd : decode c.code pc = .ok (.instanceof index, 3))
    (cont : ∀ T', On p l e R s m args below meth c n0 T' h k n → Aim p e below s CC SS n0 Q T' (mkF m (pc + 3) Ls (.int 1 :: st))) : Aim p e below s CC SS n0 Q T (mkF m pc Ls (.ref a :: st)) := by
  obtain ⟨L, X, eT, N⟩ := P
  obtain ⟨T', X', e', st'⟩ := RoadKit.instY X hx hZ hown w eT F (g := mkF m pc Ls (.ref a :: st)) rfl rfl hd
  exact Aim.of st' (cont T' ⟨L, X', e', N⟩)
theorem Aim.ldcI {own : String} {index pc : Nat} {Ls : Array Slot} {st : List Value} {v : Int32} (P : On p l e R s m args below meth c n0 T h k n) (hx : p.tables.exec = Jvm.exec) (hZ : Z.Warmed39 s.vm) (hown : s.vm.findClass own = some m.cls) (w : (Cond.constant own index v).before a0 Z = true) (hd : decode c.code pc = .ok (.ldc index, 2))
    (cont : Aim p e below s CC SS n0 Q T (mkF m (pc + 2) Ls (.int v :: st))) : Aim p e below s CC SS n0 Q T (mkF m pc Ls st) := by
  obtain ⟨L, X, eT, N⟩ := P
  exact Aim.of (fun t kt => X.ldcInt hx hown (mvT hZ w) (g := mkF m pc Ls st) rfl hd t kt) cont
theorem own_irem {tb : Tables} [Ours tb] {e : Env} {below : List Frame} {T target : State} {m : MethodId} {c : Code} {g : JFrame} (h : At T m c below) (hx : tb.exec = Jvm.exec) (hg : g.method = m) {x y : Int32} {rest : List Value} (hd : decode c.code g.pc = .ok (.irem, 1)) (hs : g.stack = .int y :: .int x :: rest) (hy : y ≠ 0)
    (hr : Steps tb e below (T.setTop { g with pc := g.pc + 1, stack := .int (x % y) :: rest }) target) : Steps tb e below (T.setTop g) target := by
  have q : x - x / y * y = x % y := irem_eq_mod x y
  exact XS.irem h hx hg hd hs hy (by rw [q]; exact hr)
theorem own_lrem {tb : Tables} [Ours tb] {e : Env} {below : List Frame} {T target : State} {m : MethodId} {c : Code} {g : JFrame} (h : At T m c below) (hx : tb.exec = Jvm.exec) (hg : g.method = m) {x y : Int64} {rest : List Value} (hd : decode c.code g.pc = .ok (.lrem, 1)) (hs : g.stack = .long y :: .long x :: rest) (hy : y ≠ 0)
    (hr : Steps tb e below (T.setTop { g with pc := g.pc + 1, stack := .long (x % y) :: rest }) target) : Steps tb e below (T.setTop g) target := by
  have q : x - x / y * y = x % y := lrem_mod x y
  exact XS.lrem h hx hg hd hs hy (by rw [q]; exact hr)
theorem own_acmpEqT {x y : Value} (_ : x.isRef = true) (_ : y.isRef = true) (q : x = y) : XT.acmp .eq x y = true := by simp [XT.acmp, q]
theorem own_acmpNeT {x y : Value} (_ : x.isRef = true) (_ : y.isRef = true) (q : x = y) : XT.acmp .ne x y = false := by simp [XT.acmp, q]
theorem own_acmpEqF {x y : Value} (_ : x.isRef = true) (_ : y.isRef = true) (q : x ≠ y) : XT.acmp .eq x y = false := by simp [XT.acmp, q]
theorem own_acmpNeF {x y : Value} (_ : x.isRef = true) (_ : y.isRef = true) (q : x ≠ y) : XT.acmp .ne x y = true := by simp [XT.acmp, q]
theorem Aim.ldcwI {own : String} {index pc : Nat} {Ls : Array Slot} {st : List Value} {v : Int32} (P : On p l e R s m args below meth c n0 T h k n) (hx : p.tables.exec = Jvm.exec) (hZ : Z.Warmed39 s.vm) (hown : s.vm.findClass own = some m.cls) (w : (Cond.constant own index v).before a0 Z = true) (hd : decode c.code pc = .ok (.ldc_w index, 3))
    (cont : Aim p e below s CC SS n0 Q T (mkF m (pc + 3) Ls (.int v :: st))) : Aim p e below s CC SS n0 Q T (mkF m pc Ls st) := by
  obtain ⟨L, X, eT, N⟩ := P
  exact Aim.of (fun t kt => X.ldcwInt hx hown (mvT hZ w) (g := mkF m pc Ls st) rfl hd t kt) cont
theorem Aim.ldcJ {own : String} {index pc : Nat} {Ls : Array Slot} {st : List Value} {v : Int64} (P : On p l e R s m args below meth c n0 T h k n) (hx : p.tables.exec = Jvm.exec) (hZ : Z.Warmed39 s.vm) (hown : s.vm.findClass own = some m.cls) (w : (Cond.constantLong own index v).before a0 Z = true) (hd : decode c.code pc = .ok (.ldc2_w index, 3))
    (cont : Aim p e below s CC SS n0 Q T (mkF m (pc + 3) Ls (.long v :: st))) : Aim p e below s CC SS n0 Q T (mkF m pc Ls st) := by
  obtain ⟨L, X, eT, N⟩ := P
  exact Aim.of (fun t kt => X.ldc2Long hx hown (mvT hZ w) (g := mkF m pc Ls st) rfl hd t kt) cont
theorem Aim.ldcS {own text : String} {index pc : Nat} {Ls : Array Slot} {st : List Value} {a : Addr} (P : On p l e R s m args below meth c n0 T h k n) (hx : p.tables.exec = Jvm.exec) (hZ : Z.Warmed39 s.vm) (hown : s.vm.findClass own = some m.cls) (w : (Cond.stringRef own index text).before a0 Z = true) (hL : RoadKit.Lit Z own index a) (hd : decode c.code pc = .ok (.ldc index, 2))
    (cont : ∀ T', On p l e R s m args below meth c n0 T' h k n → Aim p e below s CC SS n0 Q T' (mkF m (pc + 2) Ls (.ref a :: st))) : Aim p e below s CC SS n0 Q T (mkF m pc Ls st) := by
  have P' := P
  obtain ⟨L, X, eT, N⟩ := P
  exact Aim.of (fun t kt => RoadKit.ldcR X hx hZ hown w hL (g := mkF m pc Ls st) rfl hd t kt) (cont T P')
theorem Aim.instNull {index pc : Nat} {Ls : Array Slot} {st : List Value} (P : On p l e R s m args below meth c n0 T h k n) (hx : p.tables.exec = Jvm.exec) (hd : decode c.code pc = .ok (.instanceof index, 3))
    (cont : Aim p e below s CC SS n0 Q T (mkF m (pc + 3) Ls (.int 0 :: st))) : Aim p e below s CC SS n0 Q T (mkF m pc Ls (.null :: st)) := by
  obtain ⟨L, X, eT, N⟩ := P
  exact Aim.of (fun t kt => X.instanceofNull hx (g := mkF m pc Ls (.null :: st)) rfl rfl hd t kt) cont
theorem Aim.castNull {index pc : Nat} {Ls : Array Slot} {st : List Value} (P : On p l e R s m args below meth c n0 T h k n) (hx : p.tables.exec = Jvm.exec) (hd : decode c.code pc = .ok (.checkcast index, 3))
    (cont : Aim p e below s CC SS n0 Q T (mkF m (pc + 3) Ls (.null :: st))) : Aim p e below s CC SS n0 Q T (mkF m pc Ls (.null :: st)) := by
  obtain ⟨L, X, eT, N⟩ := P
  exact Aim.of (fun t kt => X.checkcastNull hx (g := mkF m pc Ls (.null :: st)) rfl rfl hd t kt) cont
/-! calls -/
theorem Aim.callS {own : String} {index pc mx maxL dc ds W : Nat} {y : MethodName} {bytes : ByteArray} {ret : Option FieldType} {ps : List FieldType} {r : Option FieldType} {Ls : Array Slot} {argsL rest : List Value} {Q' : Option Value → Heap → Prop} (P : On p l e R s m args below meth c n0 T h k n) (hx : p.tables.exec = Jvm.exec) (hZ : Z.Warmed39 s.vm) (hml : c.maxLocals = mx) (hown : s.vm.findClass own = some m.cls)
    (w1 : (Cond.methodLink own index y).before a0 Z = true) (w2 : (Cond.static y).before a0 Z = true) (w3 : (Cond.initialized y.cls).before a0 Z = true) (w4 : (Cond.code y bytes maxL ret).before a0 Z = true) (hy : y.cls ≠ "java/lang/invoke/MethodHandle" ∧ y.cls ≠ "java/lang/invoke/VarHandle")
    (hK : Bk l R p e below s args y 3 W argsL.toArray h dc ds n0 Q') (hsz : Ls.size = mx) (hpd : parseMethodDescriptor y.desc = some ⟨ps, r⟩) (hln : argsL.length = ps.length) (hW : (rest.map fun v => v.category).sum ≤ W) (hd : decode c.code pc = .ok (.invokestatic index, 3)) (hc : k + dc ≤ R.cells) (hs : n + ds ≤ R.slots)
    (cont : ∀ T' h' v, On p l e R s m args below meth c n0 T' h' (k + dc) (n + ds) → Q' v h' → Aim p e below s CC SS n0 Q T' (mkF m (pc + 3) Ls (v.toList ++ rest))) : Aim p e below s CC SS n0 Q T (mkF m pc Ls (argsL.reverse ++ rest)) := by
  obtain ⟨L, X, eT, N⟩ := P
  obtain ⟨v, vm1, ⟨T', L', k', n'⟩, -, X', ⟨Lc, ⟨hq, N'⟩, l', y', z'⟩, st'⟩ := Jvm.LawKit.callS X hx (y := y) hown (mvT hZ w1) (mvT hZ w2) (mvT hZ w3) (mvT hZ w4) hy hK (g := mkF m pc Ls (argsL.reverse ++ rest)) rfl (by rw [hml]; exact hsz) (argsL := argsL) (rest := rest) (lenOf hpd hln) rfl (by show 2 * 0 + _ ≤ _; omega) hd (fun _ _ => ⟨rfl, eT, hc, hs⟩)
  dsimp only [Pt.U, Pt.locs, Pt.cells, Pt.slots] at X' l' y' z' st' hq
  subst l' y' z'
  exact Aim.of st' (cont T' _ v ⟨_, X', rfl, N.app N'⟩ hq)
theorem Aim.callC {own : String} {index pc mx maxL dc ds W : Nat} {y : MethodName} {bytes : ByteArray} {ps : List FieldType} {r : Option FieldType} {Ls : Array Slot} {a : Addr} {argsL rest : List Value} {Q' : Option Value → Heap → Prop} (P : On p l e R s m args below meth c n0 T h k n) (hx : p.tables.exec = Jvm.exec) (hZ : Z.Warmed39 s.vm) (hml : c.maxLocals = mx) (hown : s.vm.findClass own = some m.cls)
    (hy1 : y.name = "<init>") (w1 : (Cond.methodLink own index y).before a0 Z = true) (w2 : (Cond.instanceMethod y).before a0 Z = true) (w4 : (Cond.code y bytes maxL none).before a0 Z = true) (hy : y.cls ≠ "java/lang/invoke/MethodHandle" ∧ y.cls ≠ "java/lang/invoke/VarHandle")
    (hK : Bk l R p e below s args y 3 W (.ref a :: argsL).toArray h dc ds n0 Q') (hsz : Ls.size = mx) (hpd : parseMethodDescriptor y.desc = some ⟨ps, r⟩) (hln : argsL.length = ps.length) (hW : (rest.map fun v => v.category).sum ≤ W) (hd : decode c.code pc = .ok (.invokespecial index, 3)) (hc : k + dc ≤ R.cells) (hs : n + ds ≤ R.slots)
    (cont : ∀ T' h' v, On p l e R s m args below meth c n0 T' h' (k + dc) (n + ds) → Q' v h' → Aim p e below s CC SS n0 Q T' (mkF m (pc + 3) Ls (v.toList ++ rest))) : Aim p e below s CC SS n0 Q T (mkF m pc Ls (argsL.reverse ++ .ref a :: rest)) := by
  obtain ⟨L, X, eT, N⟩ := P
  obtain ⟨v, vm1, ⟨T', L', k', n'⟩, -, X', ⟨Lc, ⟨hq, N'⟩, l', y', z'⟩, st'⟩ := X.specialBack hx (y := y) hy1 hown (mvT hZ w1) (mvT hZ w2) (mvT hZ w4) hy hK (g := mkF m pc Ls (argsL.reverse ++ .ref a :: rest)) rfl (by rw [hml]; exact hsz) (Steps.refl _) (a := a) (argsL := argsL) (rest := rest) (lenOf hpd hln) rfl (by show 2 * 0 + _ ≤ _; omega) hd (fun _ _ => ⟨rfl, eT, hc, hs⟩)
  dsimp only [Pt.U, Pt.locs, Pt.cells, Pt.slots] at X' l' y' z' st' hq
  subst l' y' z'
  exact Aim.of (fun t kt => st'.trans kt) (cont T' _ v ⟨_, X', rfl, N.app N'⟩ hq)
theorem Aim.callV {own C : String} {index pc mx dc ds W : Nat} {y z : MethodName} {ps : List FieldType} {r : Option FieldType} {Ls : Array Slot} {a : Addr} {argsL rest : List Value} {Q' : Option Value → Heap → Prop} (P : On p l e R s m args below meth c n0 T h k n) (hx : p.tables.exec = Jvm.exec) (hZ : Z.Warmed39 s.vm) (hml : c.maxLocals = mx) (hown : s.vm.findClass own = some m.cls)
    (w1 : (Cond.methodLink own index y).before a0 Z = true) (w2 : (Cond.declares y).before a0 Z = true) (nf : NotFace s y) (w3 : (Cond.selects C y z).before a0 Z = true) (w4 : (Cond.instanceMethod z).before a0 Z = true) (hy : y.cls ≠ "java/lang/invoke/MethodHandle" ∧ y.cls ≠ "java/lang/invoke/VarHandle") (E : Exa Z h a C)
    (hK : Bk l R p e below s args z 3 W (.ref a :: argsL).toArray h dc ds n0 Q') (hsz : Ls.size = mx) (hpd : parseMethodDescriptor y.desc = some ⟨ps, r⟩) (hln : argsL.length = ps.length) (hW : (rest.map fun v => v.category).sum ≤ W) (hd : decode c.code pc = .ok (.invokevirtual index, 3)) (hc : k + dc ≤ R.cells) (hs : n + ds ≤ R.slots)
    (cont : ∀ T' h' v, On p l e R s m args below meth c n0 T' h' (k + dc) (n + ds) → Q' v h' → Aim p e below s CC SS n0 Q T' (mkF m (pc + 3) Ls (v.toList ++ rest))) : Aim p e below s CC SS n0 Q T (mkF m pc Ls (argsL.reverse ++ .ref a :: rest)) := by
  obtain ⟨L, X, eT, N⟩ := P
  obtain ⟨cq, kq, qa, qb, qc⟩ := isOf hZ eT E
  obtain ⟨v, vm1, ⟨T', L', k', n'⟩, -, X', ⟨Lc, ⟨hq, N'⟩, l', y', z'⟩, st'⟩ := X.virtualBack hx (y := y) (z := z) hown (mvT hZ w1) (mvT hZ w2) nf (mvT hZ w3) (mvT hZ w4) hy hK qa qc (g := mkF m pc Ls (argsL.reverse ++ .ref a :: rest)) rfl (by rw [hml]; exact hsz) (Steps.refl _) (argsL := argsL) (rest := rest) (lenOf hpd hln) rfl (by show 2 * 0 + _ ≤ _; omega) hd (fun _ _ => ⟨rfl, eT, hc, hs⟩)
  dsimp only [Pt.U, Pt.locs, Pt.cells, Pt.slots] at X' l' y' z' st' hq
  subst l' y' z'
  exact Aim.of (fun t kt => st'.trans kt) (cont T' _ v ⟨_, X', rfl, N.app N'⟩ hq)
theorem Aim.callI {own C : String} {index count pc mx dc ds W : Nat} {y z : MethodName} {ps : List FieldType} {r : Option FieldType} {Ls : Array Slot} {a : Addr} {argsL rest : List Value} {Q' : Option Value → Heap → Prop} (P : On p l e R s m args below meth c n0 T h k n) (hx : p.tables.exec = Jvm.exec) (hZ : Z.Warmed39 s.vm) (hml : c.maxLocals = mx) (hown : s.vm.findClass own = some m.cls)
    (w1 : (Cond.methodLink own index y).before a0 Z = true) (w2 : (Cond.declares y).before a0 Z = true) (w5 : (Cond.interfaceMethod y.cls y.cls y.name y.desc).before a0 Z = true) (w3 : (Cond.selects C y z).before a0 Z = true) (w4 : (Cond.instanceMethod z).before a0 Z = true) (w6 : (Cond.publicMethod z).before a0 Z = true) (w7 : (Cond.unhidden C y.name y.desc).before a0 Z = true) (w8 : (Cond.castable C y.cls).before a0 Z = true)
    (hy : y.cls ≠ "java/lang/invoke/MethodHandle" ∧ y.cls ≠ "java/lang/invoke/VarHandle") (E : Exa Z h a C)
    (hK : Bk l R p e below s args z 5 W (.ref a :: argsL).toArray h dc ds n0 Q') (hsz : Ls.size = mx) (hpd : parseMethodDescriptor y.desc = some ⟨ps, r⟩) (hln : argsL.length = ps.length) (hW : (rest.map fun v => v.category).sum ≤ W) (hd : decode c.code pc = .ok (.invokeinterface index count, 5)) (hc : k + dc ≤ R.cells) (hs : n + ds ≤ R.slots)
    (cont : ∀ T' h' v, On p l e R s m args below meth c n0 T' h' (k + dc) (n + ds) → Q' v h' → Aim p e below s CC SS n0 Q T' (mkF m (pc + 5) Ls (v.toList ++ rest))) : Aim p e below s CC SS n0 Q T (mkF m pc Ls (argsL.reverse ++ .ref a :: rest)) := by
  obtain ⟨L, X, eT, N⟩ := P
  obtain ⟨cq, kq, qa, qb, qc⟩ := isOf hZ eT E
  obtain ⟨v, vm1, ⟨T', L', k', n'⟩, -, X', ⟨Lc, ⟨hq, N'⟩, l', y', z'⟩, st'⟩ := X.interfaceBack hx (xi := y) (y := z) hown (mvT hZ w1) (mvT hZ w2) (mvT hZ w5 (by simp [Cond.onTables, Cond.keepsFace, Cond.keeps, Cond.steady, Cond.faceAtom, hy.1, hy.2])) (mvT hZ w3) (mvT hZ w4) (mvT hZ w6) (mvT hZ w7) (mvT hZ w8) hy hK qa qb qc (g := mkF m pc Ls (argsL.reverse ++ .ref a :: rest)) rfl (by rw [hml]; exact hsz) (Steps.refl _) (argsL := argsL) (rest := rest) (lenOf hpd hln) rfl (by show 2 * 0 + _ ≤ _; omega) hd (fun _ _ => ⟨rfl, eT, hc, hs⟩)
  dsimp only [Pt.U, Pt.locs, Pt.cells, Pt.slots] at X' l' y' z' st' hq
  subst l' y' z'
  exact Aim.of (fun t kt => st'.trans kt) (cont T' _ v ⟨_, X', rfl, N.app N'⟩ hq)
theorem Aim.cpA {own : String} {index pc mx : Nat} {Ls : Array Slot} {rest : List Value} {a b : Addr} {k1 k2 : ClassId} {ty ty' : FieldType} {z z' sp dp nn : Int32} {vs vd us : List Value} {dv dd : Value} (P : On p l e R s m args below meth c n0 T h k n) (hx : p.tables.exec = Jvm.exec) (hZ : Z.Warmed39 s.vm) (hml : c.maxLocals = mx) (hown : s.vm.findClass own = some m.cls)
    (w1 : (Cond.methodLink own index Jvm.Stand.acN).before a0 Z = true) (w2 : (Cond.native Jvm.Stand.acN).before a0 Z = true) (w3 : (Cond.static Jvm.Stand.acN).before a0 Z = true) (w4 : (Cond.initialized "java/lang/System").before a0 Z = true)
    (A : Arv Z h a k1 ty z vs dv) (B : Arv Z h b k2 ty' z' vd dd) (hty : (ty = ty' ∧ refKind ty = false) ∨ (refKind ty = true ∧ refKind ty' = true ∧ StoL Z h b us))
    (h1 : ¬ sp < 0) (h2 : ¬ dp < 0) (h3 : ¬ nn < 0) (h4 : sp.toNatClampNeg + nn.toNatClampNeg ≤ z.toNatClampNeg) (h5 : dp.toNatClampNeg + nn.toNatClampNeg ≤ z'.toNatClampNeg)
    (hus : us = (List.range nn.toNatClampNeg).map fun i => vs.getD (sp.toNatClampNeg + i) dv) (hl : dp.toNatClampNeg + nn.toNatClampNeg ≤ vd.length) (ge : n0 ≤ b) (hsz : Ls.size = mx) (hd : decode c.code pc = .ok (.invokestatic index, 3))
    (hf : 1 ≤ R.frames) (hlo : (rest.map fun v => v.category).sum + (nativeFrameWords "java/lang/System" "arraycopy" 5 + 11) ≤ R.locals)
    (cont : ∀ T' h', On p l e R s m args below meth c n0 T' h' k n → Keep h h' [b] → Arv Z h' b k2 ty' z' (vd.take dp.toNatClampNeg ++ us ++ vd.drop (dp.toNatClampNeg + nn.toNatClampNeg)) dd → Aim p e below s CC SS n0 Q T' (mkF m (pc + 3) Ls rest)) :
    Aim p e below s CC SS n0 Q T (mkF m pc Ls (.int nn :: .int dp :: .ref b :: .int sp :: .ref a :: rest)) := by
  obtain ⟨L, X, eT, N⟩ := P
  obtain ⟨T', h', L', X', e', N', K, V, st'⟩ := RoadKit.cpA X hx hZ hown w1 w2 w3 w4 eT A B hty h1 h2 h3 h4 h5 hus hl N ge (g := mkF m pc Ls (.int nn :: .int dp :: .ref b :: .int sp :: .ref a :: rest)) rfl (by rw [hml]; exact hsz) rfl hd hf (W := (rest.map fun v => v.category).sum) (by show 2 * 0 + _ ≤ _; omega) hlo
  exact Aim.of st' (cont T' h' ⟨L', X', e', N'⟩ K V)
theorem Aim.newPE {ad : String} {aty : ArrayType} {pc : Nat} {Ls : Array Slot} {z : Int32} {st : List Value} (P : On p l e R s m args below meth c n0 T h k n) (hx : p.tables.exec = Jvm.exec) (hZ : Z.Warmed39 s.vm) (w : (Cond.arrayClass (newarray.typeOf aty)).before a0 Z = true) (had : "[" ++ (newarray.typeOf aty).toString = ad) (hd : decode c.code pc = .ok (.newarray aty, 2))
    (hz : ¬ z < 0) {cap : Nat} (hcap : z.toNatClampNeg ≤ cap) (hb : cap * 8 ≤ 536870912) (hc : k + 1 ≤ R.cells) (hl : n + cap ≤ R.slots)
    (cont : ∀ T' h' kk b, b = h.size → On p l e R s m args below meth c n0 T' h' (k + 1) (n + cap) → Ext h h' → Arv Z h' b kk (newarray.typeOf aty) z [] (defaultValue (newarray.typeOf aty)) → Exa Z h' b ad → Aim p e below s CC SS n0 Q T' (mkF m (pc + 2) Ls (.ref b :: st))) :
    Aim p e below s CC SS n0 Q T (mkF m pc Ls (.int z :: st)) := by
  obtain ⟨L, X, eT, N⟩ := P
  obtain ⟨T', h', kk, X', e', E, A, E2, st'⟩ := RoadKit.newPE X hx hZ w eT (g := mkF m pc Ls (.int z :: st)) rfl hd rfl hz hcap hb hc hl had
  exact Aim.of st' (cont T' h' kk _ rfl ⟨L, X', e', N⟩ E (Arv.new A hz) E2)
theorem Aim.ldX {pc : Nat} {Ls : Array Slot} {st : List Value} {a : Addr} {cl : Cell} {ty : FieldType} {j : Int32} {v : Value} (P : On p l e R s m args below meth c n0 T h k n) (hx : p.tables.exec = Jvm.exec) (hZ : Z.Warmed39 s.vm) (A : Arr Z h a cl ty) (hty : ty.isReference = true) (hj : ¬ (j < 0 ∨ cl.slots.size ≤ j.toNatClampNeg)) (hv : cl.slots[j.toNatClampNeg]? = some v)
    (hd : decode c.code pc = .ok (.aaload, 1)) (cont : Aim p e below s CC SS n0 Q T (mkF m (pc + 1) Ls (v :: st))) : Aim p e below s CC SS n0 Q T (mkF m pc Ls (.int j :: .ref a :: st)) := by
  obtain ⟨L, X, eT, N⟩ := P
  exact Aim.of (fun t kt => X.aaload hx (j := j) (v := v) (by rw [eT]; exact A.1) (State.isArrayOf_alike (T := s) hZ.alike A.2.1) hty A.2.2 hj hv (g := mkF m pc Ls (.int j :: .ref a :: st)) rfl rfl hd t kt) cont
theorem Aim.ldR {pc : Nat} {Ls : Array Slot} {st : List Value} {a : Addr} {kk : ClassId} {ty : FieldType} {j z : Int32} {vs : List Value} {dv v : Value} (P : On p l e R s m args below meth c n0 T h k n) (hx : p.tables.exec = Jvm.exec) (hZ : Z.Warmed39 s.vm) (V : Arv Z h a kk ty z vs dv) (hty : ty.isReference = true) (hj : ¬ j < 0 ∧ j < z) (hv : vs.getD j.toNatClampNeg dv = v)
    (hd : decode c.code pc = .ok (.aaload, 1)) (cont : Aim p e below s CC SS n0 Q T (mkF m (pc + 1) Ls (v :: st))) : Aim p e below s CC SS n0 Q T (mkF m pc Ls (.int j :: .ref a :: st)) := by
  obtain ⟨L, X, eT, N⟩ := P
  obtain ⟨cl, A, q, S, M, H, U⟩ := V
  exact Aim.of (fun t kt => X.aaload hx (j := j) (v := v) (by rw [eT]; exact A.1) (State.isArrayOf_alike (T := s) hZ.alike A.2.1) hty A.2.2 (inb_of S hj) (H.at (inb_of S hj) hv) (g := mkF m pc Ls (.int j :: .ref a :: st)) rfl rfl hd t kt) cont
theorem Aim.stR {C : String} {pc : Nat} {Ls : Array Slot} {st : List Value} {a y : Addr} {kk : ClassId} {j z : Int32} {vs : List Value} {dv : Value} (P : On p l e R s m args below meth c n0 T h k n) (hx : p.tables.exec = Jvm.exec) (hZ : Z.Warmed39 s.vm) (V : Arv Z h a kk (.object C) z vs dv) (O : Ovr Z kk C) (I : Ins Z h y C true) (hj : ¬ j < 0 ∧ j < z) (i : Nat) (hi : j.toNatClampNeg = i) (hv : i < vs.length)
    (hd : decode c.code pc = .ok (.aastore, 1)) (ga : n0 ≤ a) (cont : ∀ T' h', On p l e R s m args below meth c n0 T' h' k n → Keep h h' [a] → Arv Z h' a kk (.object C) z (vs.set i (.ref y)) dv → Aim p e below s CC SS n0 Q T' (mkF m (pc + 1) Ls st)) :
    Aim p e below s CC SS n0 Q T (mkF m pc Ls (.ref y :: .int j :: .ref a :: st)) := by
  obtain ⟨L, X, eT, N⟩ := P
  obtain ⟨cl, A, q, S, M, H, U⟩ := V
  obtain ⟨T', h', X', e', W, st'⟩ := RoadKit.stR X hx hZ eT A (j := j) (v := .ref y) (inb_of S hj) rfl (Sto.ofV A q O I) (g := mkF m pc Ls (.ref y :: .int j :: .ref a :: st)) rfl rfl hd
  exact Aim.of st' (cont T' h' ⟨_, X', e', Fr.snoc X' N ga⟩ (Keep.of_wr W) (Arv.set A q S M H U rfl W i hi hv))
theorem Aim.instNo {own C K : String} {index pc : Nat} {Ls : Array Slot} {st : List Value} {a : Addr} (P : On p l e R s m args below meth c n0 T h k n) (hx : p.tables.exec = Jvm.exec) (hZ : Z.Warmed39 s.vm) (hown : s.vm.findClass own = some m.cls) (w : (Cond.classLink own index K).before a0 Z = true) (E : Exa Z h a C) (F : ∃ c t, Z.vm.findClass C = some c ∧ Z.vm.findClass K = some t ∧ Z.vm.assignable c t = false)
    (hd : decode c.code pc = .ok (.instanceof index, 3)) (cont : ∀ T', On p l e R s m args below meth c n0 T' h k n → Aim p e below s CC SS n0 Q T' (mkF m (pc + 3) Ls (.int 0 :: st))) : Aim p e below s CC SS n0 Q T (mkF m pc Ls (.ref a :: st)) := by
  obtain ⟨L, X, eT, N⟩ := P
  obtain ⟨T', X', e', st'⟩ := RoadKit.instNo X hx hZ hown w eT E F (g := mkF m pc Ls (.ref a :: st)) rfl rfl hd
  exact Aim.of st' (cont T' ⟨L, X', e', N⟩)
theorem no_cast {C S K : String} {nn : Nat} (w : (Cond.superclass C S).before a0 Z = true) (wo : (Cond.noSuperclass S).before a0 Z = true) (wi : (Cond.instantiable K nn).before a0 Z = true) (h1 : C ≠ K) (h2 : S ≠ K) : ∃ c t, Z.vm.findClass C = some c ∧ Z.vm.findClass K = some t ∧ Z.vm.assignable c t = false := by
  obtain ⟨t, kt, g1, g2, g3, g4, -⟩ := Cond.instantiable_spec wi
  obtain ⟨c, h0⟩ := found_sup w
  obtain ⟨q, k, kp, e1, e2, e3, e4, e5, -⟩ := Cond.superclass_spec h0 w
  obtain ⟨o, ko, f1, f2, f3, -⟩ := Cond.noSuperclass_spec wo
  cases e1.symm.trans f1
  have n1 := ids_ne h0 g1 h1
  have n2 := ids_ne f1 g1 h2
  have n3 : ∀ fuel, Z.vm.isSubclassAux fuel c t = false := fun fuel => by
    cases fuel with
    | zero => rfl
    | succ f => cases f with
      | zero => simp [Vm.isSubclassAux, n1, e2, e4]
      | succ f => simp [Vm.isSubclassAux, n1, n2, e2, e4, f2, f3]
  have g7 : kt.isInterface = false := by simp only [Bool.or_eq_false_iff] at g4; exact g4.1
  refine ⟨c, t, h0, g1, ?_⟩
  show Z.vm.assignableAux (255 + 1) c t = false
  simp [Vm.assignableAux, n1, e2, g2, e5, g3, g7, Vm.isSubclass, n3]
theorem own_lsw {tb : Tables} [Ours tb] {e : Env} {below : List Frame} {T target : State} {m : MethodId} {c : Code} {g : JFrame} (h : At T m c below) (hx : tb.exec = Jvm.exec) (hg : g.method = m) {dflt : Int} {pairs : Array (Int × Int)} {len : Nat} {o : Int} {pc0 pc' : Nat} (hpc : g.pc = pc0) (hd : decode c.code g.pc = .ok (.lookupswitch dflt pairs, len)) {i : Int32} {rest : List Value} (hs : g.stack = .int i :: rest)
    (hso : (pairs.toList.zip (pairs.toList.drop 1)).all (fun (a, next) => a.1 < next.1) = true) (hoff : lookupswitch.offset pairs.toList dflt i.toInt = o) (ho : 0 ≤ (pc0 : Int) + o) (hp : ((pc0 : Int) + o).toNat = pc')
    (hr : Steps tb e below (T.setTop { g with pc := pc', stack := rest }) target) : Steps tb e below (T.setTop g) target := by
  subst hg hpc hp
  jvm_step h [h.top, hx, hd, hs, hoff, ho, lookupswitch.wp_chain]
  exact ⟨by simpa using hso, hr⟩
theorem oln_ne {t x n0 n : Nat} (h : t < n0 ∨ n ≤ t) (g : n0 ≤ x) (lt : x < n) : t ≠ x := fun e => h.elim (fun r => Nat.lt_irrefl _ (Nat.lt_of_lt_of_le r (e ▸ g))) (fun r => Nat.lt_irrefl _ (Nat.lt_of_lt_of_le lt (e ▸ r)))
theorem nf_same {y y2 : MethodName} {r2 : MethodId} (h : y.cls = y2.cls) (hn : s.methodNamed? y2 = some r2) (N : NotFace s y2) : NotFace s y := fun r0 h0 => by
  obtain ⟨kr, h1, h2⟩ := N r2 hn
  have e1 := findClass_of_methodNamed h0
  have e2 := findClass_of_methodNamed hn
  rw [h] at e1
  have e3 : r0.cls = r2.cls := Option.some.inj (e1.symm.trans e2)
  exact ⟨kr, by rw [e3]; exact h1, h2⟩
theorem nf_sel {C : String} {y y2 : MethodName} (h : y.cls = y2.cls) (w : (Cond.selects C y2 y2).before args s = true) : NotFace s y := by
  obtain ⟨c2, r2, m2, q1, q2, q3, q4, kP, hkP, hkPi⟩ := Cond.selects_spec w
  exact nf_same h q3 (notFace_of_selects w)
theorem declares_of {y : MethodName} {bytes : ByteArray} {maxL : Nat} {ret : Option FieldType} (wi : (Cond.instanceMethod y).before args s = true) (wc : (Cond.code y bytes maxL ret).before args s = true) : (Cond.declares y).before args s = true := by
  obtain ⟨mk, methM, hnamed, hmethM, hstM, habM⟩ := Cond.instanceMethod_spec wi
  obtain ⟨m2, cM, q1, -, -, -, -, -, -, hsig⟩ := Cond.code_spec hnamed wc
  cases hmethM.symm.trans q1
  simp [Cond.before, Cond.holds, Cond.value, hnamed, hmethM, hstM, hsig]
theorem same_of {y : MethodName} (hy : y.cls ≠ "java/lang/invoke/MethodHandle" ∧ y.cls ≠ "java/lang/invoke/VarHandle") (wi : (Cond.instanceMethod y).before args s = true) (nf : NotFace s y) : (Cond.sameMethod y.cls y.cls y.name y.desc).before args s = true := by
  obtain ⟨mk, methM, hnamed, hmethM, hstM, habM⟩ := Cond.instanceMethod_spec wi
  obtain ⟨kr, h1, h2⟩ := nf mk hnamed
  have hc := findClass_of_methodNamed hnamed
  have hf := State.methodFound?_of_named hnamed hy
  have hnamed' : s.methodNamed? ⟨y.cls, y.name, y.desc⟩ = some mk := hnamed
  simp [Cond.before, Cond.holds, Cond.value, hc, hf, hnamed', h1, h2]
theorem arv_eq {a : Addr} {kk : ClassId} {ty : FieldType} {z : Int32} {vs vs' : List Value} {dv : Value} (F : Arv Z h a kk ty z vs dv) (q : vs = vs') : Arv Z h a kk ty z vs' dv := q ▸ F
theorem arv_len {a : Addr} {kk : ClassId} {ty : FieldType} {z z' : Int32} {vs : List Value} {dv : Value} (F : Arv Z h a kk ty z vs dv) (q : z = z') : Arv Z h a kk ty z' vs dv := q ▸ F
theorem Aim.callU {own K : String} {index pc mx maxL dc ds W : Nat} {y : MethodName} {bytes : ByteArray} {ret : Option FieldType} {ps : List FieldType} {r : Option FieldType} {Ls : Array Slot} {a : Addr} {argsL rest : List Value} {Q' : Option Value → Heap → Prop} (P : On p l e R s m args below meth c n0 T h k n) (hx : p.tables.exec = Jvm.exec) (hZ : Z.Warmed39 s.vm) (hml : c.maxLocals = mx) (hown : s.vm.findClass own = some m.cls)
    (w1 : (Cond.methodLink own index y).before a0 Z = true) (w2 : (Cond.sameMethod y.cls y.cls y.name y.desc).before a0 Z = true) (w3 : (Cond.instanceMethod y).before a0 Z = true) (w5 : (Cond.superclass own y.cls).before a0 Z = true) (hn : y.name ≠ "<init>") (w4 : (Cond.code y bytes maxL ret).before a0 Z = true) (E : Ins Z h a K true)
    (hK : Bk l R p e below s args y 3 W (.ref a :: argsL).toArray h dc ds n0 Q') (hsz : Ls.size = mx) (hpd : parseMethodDescriptor y.desc = some ⟨ps, r⟩) (hln : argsL.length = ps.length) (hW : (rest.map fun v => v.category).sum ≤ W) (hd : decode c.code pc = .ok (.invokespecial index, 3)) (hc : k + dc ≤ R.cells) (hs : n + ds ≤ R.slots)
    (cont : ∀ T' h' v, On p l e R s m args below meth c n0 T' h' (k + dc) (n + ds) → Q' v h' → Aim p e below s CC SS n0 Q T' (mkF m (pc + 3) Ls (v.toList ++ rest))) : Aim p e below s CC SS n0 Q T (mkF m pc Ls (argsL.reverse ++ .ref a :: rest)) := by
  obtain ⟨L, X, eT, N⟩ := P
  obtain ⟨v, vm1, ⟨T', L', k', n'⟩, -, X', ⟨Lc, ⟨hq, N'⟩, l', y', z'⟩, st'⟩ := RoadKit.superBack X hx hZ (y := y) hown w1 w2 w3 w5 hn hK eT E (g := mkF m pc Ls (argsL.reverse ++ .ref a :: rest)) rfl (by rw [hml]; exact hsz) w4 (argsL := argsL) (rest := rest) (lenOf hpd hln) rfl (by show 2 * 0 + _ ≤ _; omega) hd (fun _ _ => ⟨rfl, eT, hc, hs⟩)
  dsimp only [Pt.U, Pt.locs, Pt.cells, Pt.slots] at X' l' y' z' st' hq
  subst l' y' z'
  exact Aim.of (fun t kt => st'.trans kt) (cont T' _ v ⟨_, X', rfl, N.app N'⟩ hq)
end Base
end Jvm.OwnN
namespace Jvm.OwnW
open Sem ClassFile Op Lib Jvm.Stand Jvm.Free Jvm.LawKit Jvm.RoadKit Jvm.OwnS
def cod (t : String) : List Int32 := t.toList.map fun c => Int32.ofNat c.toNat
/-- the constants that were open at the case's start: what the intern table has of their texts is such a String, both its cells in Lc -/
def HA (Z : State) (LC : List (String × Nat × String) × (Array (Array UInt16 × Addr) → Prop)) (it : Array (Array UInt16 × Addr)) (h : Heap) (Lc : List Addr) : Prop :=
  (∀ x ∈ Lc, x < h.size) ∧ (∀ c ∈ LC.1, Z.resolvedAt? c.1 c.2.1 = none → ∀ (units : Array UInt16) (a : Addr), utf16ToString? units = some c.2.2 → it.find? (fun q => q.1 == units) = some (units, a) → ∃ b kk, Str Z h a b kk (cod c.2.2) ∧ a ∈ Lc ∧ b ∈ Lc) ∧ LC.2 it
theorem HA.keep {Z : State} {LC : List (String × Nat × String) × (Array (Array UInt16 × Addr) → Prop)} {it : Array (Array UInt16 × Addr)} {h h' : Heap} {Lc ws : List Addr} (A : HA Z LC it h Lc) (K : Keep h h' ws) (q : ∀ x ∈ ws, x ∉ Lc) : HA Z LC it h' Lc :=
  ⟨fun x hx => Nat.lt_of_lt_of_le (A.1 x hx) K.1, fun c hc ho units a hu hf => by
    obtain ⟨b, kk, F, ha, hb⟩ := A.2.1 c hc ho units a hu hf
    exact ⟨b, kk, F.keep K (fun z => q _ z ha) (fun z => q _ z hb), ha, hb⟩, A.2.2⟩
/-- the literals' cells: none is lost; what came is new -/
def Grow (Lc Lc' : List Addr) (n : Nat) : Prop := (∀ x ∈ Lc', x ∈ Lc ∨ n ≤ x) ∧ ∀ x ∈ Lc, x ∈ Lc'
theorem Grow.refl (Lc : List Addr) (n : Nat) : Grow Lc Lc n := ⟨fun _ q => Or.inl q, fun _ q => q⟩
theorem Grow.trans {Lc Lc1 Lc2 : List Addr} {n n' : Nat} (A : Grow Lc Lc1 n) (B : Grow Lc1 Lc2 n') (q : n ≤ n') : Grow Lc Lc2 n := ⟨fun x hx => (B.1 x hx).elim (A.1 x) (fun r => Or.inr (Nat.le_trans q r)), fun x hx => B.2 x (A.2 x hx)⟩
theorem nl_new {Lc : List Addr} {a n : Nat} (h : ∀ x ∈ Lc, x < n) (g : n ≤ a) : a ∉ Lc := fun q => Nat.lt_irrefl _ (Nat.lt_of_lt_of_le (h a q) g)
theorem nl_step {Lc Lc' : List Addr} {a n : Nat} (old : a ∉ Lc) (rel : Grow Lc Lc' n) (lt : a < n) : a ∉ Lc' := fun q => (rel.1 a q).elim old fun r => Nat.lt_irrefl _ (Nat.lt_of_lt_of_le lt r)
theorem ori_ne {Lc : List Addr} {t x n0 n : Nat} (h : (t < n0 ∨ t ∈ Lc) ∨ n ≤ t) (g : n0 ≤ x) (q : x ∉ Lc) (lt : x < n) : t ≠ x := fun e => h.elim (fun r => r.elim (fun r => Nat.lt_irrefl _ (Nat.lt_of_lt_of_le r (e ▸ g))) (fun r => q (e ▸ r))) (fun r => Nat.lt_irrefl _ (Nat.lt_of_lt_of_le lt (e ▸ r)))
theorem lit_ne {Lc : List Addr} {a x n : Nat} (h : a < n ∨ a ∈ Lc) (g : n ≤ x) (q : x ∉ Lc) : a ≠ x := fun e => h.elim (fun r => Nat.lt_irrefl _ (Nat.lt_of_lt_of_le r (e ▸ g))) (fun r => q (e ▸ r))
section Base
variable {p : Program} {l : Launch} {e : Env} {R : Room} {s : State} {m : MethodId} {args : Array Value} {below : List Frame} {meth : Method} {c : Code} {T : State} {h : Heap} {n0 k n : Nat} {Z : State} {a0 : Array Value} {LC : List (String × Nat × String) × (Array (Array UInt16 × Addr) → Prop)} {Lc : List Addr}
def On (p : Program) (l : Launch) (e : Env) (R : Room) (s : State) (m : MethodId) (args : Array Value) (below : List Frame) (meth : Method) (c : Code) (Z : State) (LC : List (String × Nat × String) × (Array (Array UInt16 × Addr) → Prop)) (n0 : Nat) (T : State) (h : Heap) (k n : Nat) (Lc : List Addr) : Prop :=
  ∃ locs vm0, Stand p l e R (s.setVm vm0) m args below meth c T locs k n ∧ T.heap = h ∧ Fr n0 locs ∧ s.Since vm0 h.size ∧ Z.Warmed39 vm0 ∧ HA Z LC vm0.interned h Lc
def Aim (p : Program) (e : Env) (below : List Frame) (s : State) (CC SS n0 : Nat) (Q : Option Value → Heap → Array (Array UInt16 × Addr) → Prop) (T : State) (g : JFrame) : Prop :=
  ∃ s₂ o, Steps p.tables e below (T.setTop g) s₂ ∧ s₂.status = .running ∧ Ended s₂ below o ∧ ∃ v L, o = .returned v ∧ (Q v s₂.heap s₂.vm.interned ∧ Fr n0 L) ∧ ReturnedEndW s o s₂ L CC SS
def QW (Z : State) (LC : List (String × Nat × String) × (Array (Array UInt16 × Addr) → Prop)) (h0 : Heap) (Lc0 : List Addr) (QH : Option Value → Heap → List Addr → Prop) : Option Value → Heap → Array (Array UInt16 × Addr) → Prop := fun v h it => ∃ Lc, QH v h Lc ∧ HA Z LC it h Lc ∧ Grow Lc0 Lc h0.size
def Con (l : Launch) (Z : State) (LC : List (String × Nat × String) × (Array (Array UInt16 × Addr) → Prop)) (y : MethodName) (bytes : ByteArray) (maxL : Nat) (ret : Option FieldType) (rm : Room) (n0 : Nat) (as' : Array Value) (h0 : Heap) (Lc0 : List Addr) (QH : Option Value → Heap → List Addr → Prop) : Prop :=
  ∀ ws, MetFree l y (head1 (Cond.code y bytes maxL ret :: ws) rm) (fun a U => a = as' ∧ Z.Warmed39 U.vm ∧ U.heap = h0 ∧ HA Z LC U.vm.interned h0 Lc0) (fun _ _ _ _ _ => True) (fun _ U o U' => ∃ v L, o = .returned v ∧ (QW Z LC h0 Lc0 QH v U'.heap U'.vm.interned ∧ Fr n0 L) ∧ ReturnedEndW U o U' L rm.cells rm.slots)
def Bk (l : Launch) (R : Room) (p : Program) (e : Env) (below : List Frame) (s : State) (sargs : Array Value) (y : MethodName) (len W : Nat) (as' : Array Value) (h : Heap) (dc ds : Nat) (Z : State) (LC : List (String × Nat × String) × (Array (Array UInt16 × Addr) → Prop)) (n0 : Nat) (Lc : List Addr) (QH : Option Value → Heap → List Addr → Prop) : Prop :=
  ∀ vm0, Z.Warmed39 vm0 → HA Z LC vm0.interned h Lc → BackS l R p e below (s.setVm vm0) sargs y len W (fun A a => a = as' ∧ A.U.heap = h ∧ A.cells + dc ≤ R.cells ∧ A.slots + ds ≤ R.slots) (fun A _ v B => ∃ L, (QW Z LC h Lc QH v B.U.heap B.U.vm.interned ∧ Fr n0 L) ∧ B.locs = A.locs ++ L ∧ B.cells = A.cells + dc ∧ B.slots = A.slots + ds)
variable {CC SS : Nat} {Q : Option Value → Heap → Array (Array UInt16 × Addr) → Prop} {QH : Option Value → Heap → List Addr → Prop} {QN : Option Value → Heap → Prop} {h0 : Heap} {Lc0 : List Addr}
theorem On.here (P : On p l e R s m args below meth c Z LC n0 T h k n Lc) : At T m c below := by obtain ⟨_, _, X, -⟩ := P; exact X.here
theorem On.ltL (P : On p l e R s m args below meth c Z LC n0 T h k n Lc) : ∀ x ∈ Lc, x < h.size := by obtain ⟨_, _, _, _, _, _, _, A⟩ := P; exact A.1
theorem On.more {k' n' : Nat} (P : On p l e R s m args below meth c Z LC n0 T h k n Lc) (hk : k ≤ k') (hn : n ≤ n') : On p l e R s m args below meth c Z LC n0 T h k' n' Lc := by
  obtain ⟨L, vm0, X, r⟩ := P; exact ⟨L, vm0, X.more hk hn, r⟩
theorem ownAt {own : String} {vm0 : Vm} {n : Nat} (hS : s.Since vm0 n) (hown : s.vm.findClass own = some m.cls) : (s.setVm vm0).vm.findClass own = some m.cls := by rw [show (s.setVm vm0).vm = vm0 from rfl, hS.1.alike.findClass]; exact hown
theorem sinceUp {vm0 : Vm} {n n' : Nat} (hS : s.Since vm0 n) (q : n ≤ n') : s.Since vm0 n' := ⟨hS.1, hS.2.mono q⟩
theorem Aim.of {T' : State} {g g' : JFrame} (st : ∀ t, Steps p.tables e below (T'.setTop g') t → Steps p.tables e below (T.setTop g) t) (a : Aim p e below s CC SS n0 Q T' g') : Aim p e below s CC SS n0 Q T g := by
  obtain ⟨s2, o, h1, r⟩ := a; exact ⟨s2, o, st _ h1, r⟩
theorem Aim.cast {g g' : JFrame} (q : g = g') (a : Aim p e below s CC SS n0 Q T g') : Aim p e below s CC SS n0 Q T g := q ▸ a
theorem Con.intro {y : MethodName} {bytes : ByteArray} {maxL : Nat} {ret : Option FieldType} {rm : Room} {as' : Array Value} (pl : plainFor y = true)
    (body : ∀ (p : Program) (e : Env) (s : State) (m : MethodId) (below : List Frame) (meth : Method) (c : Code) (s₁ : State), p.tables.exec = Jvm.exec → c.code = bytes → c.maxLocals = maxL → meth.sig.returnType = ret → meth.name = y.name → s.vm.findClass y.cls = some m.cls → meth.locks = false → Z.Warmed39 s.vm → s.heap = h0 →
      On p l e rm s m as' below meth c Z LC n0 s₁ h0 0 0 Lc0 → Aim p e below s rm.cells rm.slots n0 (QW Z LC h0 Lc0 QH) s₁ (entryFrame m as' maxL)) : Con l Z LC y bytes maxL ret rm n0 as' h0 Lc0 QH := by
  intro ws
  refine MetFree.of_bodySF pl hisR ?_
  intro p e s m args below meth c s₁ Bd hml0 hP hK
  obtain ⟨rfl, hZ, hh, hA⟩ := hP
  have X0 : Stand p l e rm s m args below meth c s₁ [] 0 0 := Stand.of_body Bd
  obtain ⟨s2, o, h1, h2, h3, v, L, h4, h5, h6⟩ := body p e s m below meth c s₁ Bd.exec Bd.bytes hml0 Bd.returns (name_of_methodNamed Bd.named Bd.method).1 (findClass_of_methodNamed Bd.named) (BodyLoose.notSynchronized Bd) hZ hh ⟨[], s.vm, X0, by rw [← hh, Bd.state]; rfl, Fr.nil n0, (State.WarmedH.refl s).since _, hZ, hA⟩
  exact ⟨s2, o, h1, h2, h3, v, L, h4, h5, h6⟩
theorem Con.back {y : MethodName} {bytes : ByteArray} {maxL : Nat} {ret : Option FieldType} {rm : Room} {as' : Array Value} {len W : Nat} (hM : Con l Z LC y bytes maxL ret rm n0 as' h Lc QH) (wc : (Cond.code y bytes maxL ret).before a0 Z = true) (wz : (Cond.initialized y.cls).before a0 Z = true) (hf : rm.frames + 1 ≤ R.frames) (hl : W + (maxL + 11) + rm.locals ≤ R.locals) :
    Bk l R p e below s args y len W as' h rm.cells rm.slots Z LC n0 Lc QH := by
  intro vm0 hZ hA
  exact BackS.of_freeW (bytes := bytes) (maxL := maxL) (ret := ret) (E := fun _ _ o t L k n => k = rm.cells ∧ n = rm.slots ∧ ∃ v, o = .returned v ∧ (QW Z LC h Lc QH v t.heap t.vm.interned ∧ Fr n0 L)) (hM []) hf hl
    (fun m meth c A a Y hp => have hU : Z.Warmed39 A.U.vm := wtrans (s := s.setVm vm0) hZ Y.warmed
      ⟨by show (Cond.and _ .tt).before a A.U = true; rw [Cond.before_and, mv hU wc]; rfl, mv hU wc, mv hU wz, hp.2.2.1, hp.2.2.2⟩)
    (fun m meth c A a g mk Y hp => ⟨hp.1, wtrans (s := s.setVm vm0) hZ Y.warmed, hp.2.1, by show HA Z LC A.U.vm.interned h Lc; rw [Y.warmed.interned_eq]; exact hA⟩) (fun _ _ _ _ _ _ _ _ _ => trivial)
    (fun _ _ _ _ ⟨v, L, h1, h2, h3⟩ => ⟨L, _, _, h3, rfl, rfl, v, h1, h2⟩)
    (fun m meth c A a g mk v t L k n Y hp _ _ ⟨e1, e2, v', e3, e4⟩ => by cases e3; subst e1 e2; exact ⟨L, e4, rfl, rfl, rfl⟩)
/-! the ways out -/
theorem Aim.retN {t : FieldType} {pc : Nat} {Ls : Array Slot} {z : Int32} {rest : List Value} (P : On p l e R s m args below meth c Z LC n0 T h k n Lc) (hx : p.tables.exec = Jvm.exec) (hlk : meth.locks = false) (hret : meth.sig.returnType = some t) (ht : t = .boolean ∨ t = .byte ∨ t = .char ∨ t = .short) (hd : decode c.code pc = .ok (.ireturn, 1))
    (hk : k ≤ CC) (hn : n ≤ SS) (hl : Grow Lc0 Lc h0.size) (q : QH (some (.int (nar t z))) h Lc) : Aim p e below s CC SS n0 (QW Z LC h0 Lc0 QH) T (mkF m pc Ls (.int z :: rest)) := by
  obtain ⟨L, vm0, X, eT, N, hS, hZ, A⟩ := P
  obtain ⟨fs, hr, hrun, hended, hW, hsame⟩ := X.leave (v := (some (.int (nar t z)))) (fun h => by rw [hret] at h; cases h) hlk
  obtain ⟨r1, r2, r3⟩ := hS.ended hW (by show h.size ≤ T.heap.size; rw [eT]; exact Nat.le_refl _) hsame
  refine ⟨_, _, Jvm.RoadKit.retN X hx hret ht hd hr, hrun, hended, _, _, rfl, ⟨⟨Lc, by show QH _ T.heap Lc; rw [eT]; exact q, ?_, hl⟩, N⟩, ⟨_, rfl⟩, r1, r2, r3.mono hk hn⟩
  have ei : (T.setFrames fs).vm.interned = vm0.interned := hW.interned_eq
  rw [ei]
  show HA Z LC vm0.interned T.heap Lc
  rw [eT]; exact A
theorem Aim.retW {t : FieldType} {i : Instr} {pc : Nat} {Ls : Array Slot} {w : Value} {rest : List Value} (P : On p l e R s m args below meth c Z LC n0 T h k n Lc) (hx : p.tables.exec = Jvm.exec) (hlk : meth.locks = false) (hret : meth.sig.returnType = some t) (hn' : narrow t w = w) (hi : (i = .ireturn ∧ (t = .int ∨ t = .boolean ∨ t = .byte ∨ t = .char ∨ t = .short) ∧ ∃ z, w = .int z) ∨ (i = .lreturn ∧ t = .long ∧ ∃ z, w = .long z) ∨ (i = .dreturn ∧ t = .double ∧ ∃ z, w = .double z) ∨ (i = .freturn ∧ t = .float ∧ ∃ z, w = .float z) ∨ (i = .areturn ∧ t.isReference = true ∧ w.isRef = true)) (hd : decode c.code pc = .ok (i, 1))
    (hk : k ≤ CC) (hn : n ≤ SS) (hl : Grow Lc0 Lc h0.size) (q : QH (some w) h Lc) : Aim p e below s CC SS n0 (QW Z LC h0 Lc0 QH) T (mkF m pc Ls (w :: rest)) := by
  obtain ⟨L, vm0, X, eT, N, hS, hZ, A⟩ := P
  obtain ⟨fs, hr, hrun, hended, hW, hsame⟩ := X.leave (v := (some w)) (fun h => by rw [hret] at h; cases h) hlk
  obtain ⟨r1, r2, r3⟩ := hS.ended hW (by show h.size ≤ T.heap.size; rw [eT]; exact Nat.le_refl _) hsame
  refine ⟨_, _, Jvm.RoadKit.retOut X hx hret hn' hi hd hr, hrun, hended, _, _, rfl, ⟨⟨Lc, by show QH _ T.heap Lc; rw [eT]; exact q, ?_, hl⟩, N⟩, ⟨_, rfl⟩, r1, r2, r3.mono hk hn⟩
  have ei : (T.setFrames fs).vm.interned = vm0.interned := hW.interned_eq
  rw [ei]
  show HA Z LC vm0.interned T.heap Lc
  rw [eT]; exact A
theorem Aim.retV {pc : Nat} {Ls : Array Slot} (P : On p l e R s m args below meth c Z LC n0 T h k n Lc) (hx : p.tables.exec = Jvm.exec) (hlk : meth.locks = false) (hret : meth.sig.returnType = none) (hd : decode c.code pc = .ok (.return_, 1))
    (hk : k ≤ CC) (hn : n ≤ SS) (hl : Grow Lc0 Lc h0.size) (q : QH none h Lc) : Aim p e below s CC SS n0 (QW Z LC h0 Lc0 QH) T (mkF m pc Ls []) := by
  obtain ⟨L, vm0, X, eT, N, hS, hZ, A⟩ := P
  obtain ⟨fs, hr, hrun, hended, hW, hsame⟩ := X.leave (v := none) (fun _ => rfl) hlk
  obtain ⟨r1, r2, r3⟩ := hS.ended hW (by show h.size ≤ T.heap.size; rw [eT]; exact Nat.le_refl _) hsame
  refine ⟨_, _, X.returnOut hx hret hd hr, hrun, hended, _, _, rfl, ⟨⟨Lc, by show QH _ T.heap Lc; rw [eT]; exact q, ?_, hl⟩, N⟩, ⟨_, rfl⟩, r1, r2, r3.mono hk hn⟩
  have ei : (T.setFrames fs).vm.interned = vm0.interned := hW.interned_eq
  rw [ei]
  show HA Z LC vm0.interned T.heap Lc
  rw [eT]; exact A
theorem Aim.retI {pc : Nat} {Ls : Array Slot} {z : Int32} {rest : List Value} (P : On p l e R s m args below meth c Z LC n0 T h k n Lc) (hx : p.tables.exec = Jvm.exec) (hlk : meth.locks = false) (hret : meth.sig.returnType = some .int) (hd : decode c.code pc = .ok (.ireturn, 1))
    (hk : k ≤ CC) (hn : n ≤ SS) (hl : Grow Lc0 Lc h0.size) (q : QH (some (.int z)) h Lc) : Aim p e below s CC SS n0 (QW Z LC h0 Lc0 QH) T (mkF m pc Ls (.int z :: rest)) := Aim.retW P hx hlk hret rfl (Or.inl ⟨rfl, Or.inl rfl, z, rfl⟩) hd hk hn hl q
theorem Aim.retJ {pc : Nat} {Ls : Array Slot} {z : Int64} {rest : List Value} (P : On p l e R s m args below meth c Z LC n0 T h k n Lc) (hx : p.tables.exec = Jvm.exec) (hlk : meth.locks = false) (hret : meth.sig.returnType = some .long) (hd : decode c.code pc = .ok (.lreturn, 1))
    (hk : k ≤ CC) (hn : n ≤ SS) (hl : Grow Lc0 Lc h0.size) (q : QH (some (.long z)) h Lc) : Aim p e below s CC SS n0 (QW Z LC h0 Lc0 QH) T (mkF m pc Ls (.long z :: rest)) := Aim.retW P hx hlk hret rfl (Or.inr (Or.inl ⟨rfl, rfl, z, rfl⟩)) hd hk hn hl q
theorem Aim.retA {t : FieldType} {pc : Nat} {Ls : Array Slot} {w : Value} {rest : List Value} (P : On p l e R s m args below meth c Z LC n0 T h k n Lc) (hx : p.tables.exec = Jvm.exec) (hlk : meth.locks = false) (hret : meth.sig.returnType = some t) (ht : t.isReference = true) (hw : w.isRef = true) (hd : decode c.code pc = .ok (.areturn, 1))
    (hk : k ≤ CC) (hn : n ≤ SS) (hl : Grow Lc0 Lc h0.size) (q : QH (some w) h Lc) : Aim p e below s CC SS n0 (QW Z LC h0 Lc0 QH) T (mkF m pc Ls (w :: rest)) := by
  have hn' : narrow t w = w := by cases t <;> cases w <;> first | rfl | (cases ht; done) | (cases hw; done)
  exact Aim.retW P hx hlk hret hn' (Or.inr (Or.inr (Or.inr (Or.inr ⟨rfl, ht, hw⟩)))) hd hk hn hl q
/-! steps that meet the heap -/
theorem Aim.newO {own C : String} {index nn pc : Nat} {Ls : Array Slot} {st : List Value} (P : On p l e R s m args below meth c Z LC n0 T h k n Lc) (hx : p.tables.exec = Jvm.exec) (hZs : Z.Warmed39 s.vm) (hown : s.vm.findClass own = some m.cls) (w : (Cond.classLink own index C).before a0 Z = true) (wi : (Cond.instantiable C nn).before a0 Z = true) (wz : (Cond.initialized C).before a0 Z = true)
    (hd : decode c.code pc = .ok (.new index, 3)) (hc : k + 1 ≤ R.cells) (hl : n + nn ≤ R.slots)
    (cont : ∀ T' h' b, b = h.size → On p l e R s m args below meth c Z LC n0 T' h' (k + 1) (n + nn) Lc → Ext h h' → Exa Z h' b C → (∀ {O nm d : String} {ty : FieldType}, Laid Z a0 C O nm d → parseFieldDescriptor d = some ty → Fld Z h' b O nm d (defaultValue ty)) → Unt h' b → Aim p e below s CC SS n0 Q T' (mkF m (pc + 3) Ls (.ref b :: st))) :
    Aim p e below s CC SS n0 Q T (mkF m pc Ls st) := by
  obtain ⟨L, vm0, X, eT, N, hS, hZ, A⟩ := P
  have hown' := ownAt hS hown
  obtain ⟨T', h', X', e', E, A', D, U, st'⟩ := RoadKit.newO (s := s.setVm vm0) X hx hZ hown' w wi wz eT (g := mkF m pc Ls st) rfl hd hc hl
  exact Aim.of st' (cont T' h' _ rfl ⟨L, vm0, X', e', N, sinceUp hS E.1, hZ, A.keep ((Keep.refl _ []).ext E) (fun _ q => nomatch q)⟩ E A' D U)
theorem Aim.newP {aty : ArrayType} {pc : Nat} {Ls : Array Slot} {z : Int32} {st : List Value} (P : On p l e R s m args below meth c Z LC n0 T h k n Lc) (hx : p.tables.exec = Jvm.exec) (hZs : Z.Warmed39 s.vm) (w : (Cond.arrayClass (newarray.typeOf aty)).before a0 Z = true) (hd : decode c.code pc = .ok (.newarray aty, 2))
    (hz : ¬ z < 0) {cap : Nat} (hcap : z.toNatClampNeg ≤ cap) (hb : cap * 8 ≤ 536870912) (hc : k + 1 ≤ R.cells) (hl : n + cap ≤ R.slots)
    (cont : ∀ T' h' kk b, b = h.size → On p l e R s m args below meth c Z LC n0 T' h' (k + 1) (n + cap) Lc → Ext h h' → Arv Z h' b kk (newarray.typeOf aty) z [] (defaultValue (newarray.typeOf aty)) → Aim p e below s CC SS n0 Q T' (mkF m (pc + 2) Ls (.ref b :: st))) :
    Aim p e below s CC SS n0 Q T (mkF m pc Ls (.int z :: st)) := by
  obtain ⟨L, vm0, X, eT, N, hS, hZ, A⟩ := P
  obtain ⟨T', h', kk, X', e', E, A', st'⟩ := RoadKit.newP (s := s.setVm vm0) X hx hZ w eT (g := mkF m pc Ls (.int z :: st)) rfl hd rfl hz hcap hb hc hl
  exact Aim.of st' (cont T' h' kk _ rfl ⟨L, vm0, X', e', N, sinceUp hS E.1, hZ, A.keep ((Keep.refl _ []).ext E) (fun _ q => nomatch q)⟩ E (Arv.new A' hz))
theorem Aim.newR {own C : String} {index pc : Nat} {Ls : Array Slot} {z : Int32} {st : List Value} (P : On p l e R s m args below meth c Z LC n0 T h k n Lc) (hx : p.tables.exec = Jvm.exec) (hZs : Z.Warmed39 s.vm) (hown : s.vm.findClass own = some m.cls) (w1 : (Cond.classLink own index C).before a0 Z = true) (w2 : (Cond.arrayOver (.object C)).before a0 Z = true) (hd : decode c.code pc = .ok (.anewarray index, 3))
    (hz : ¬ z < 0) {cap : Nat} (hcap : z.toNatClampNeg ≤ cap) (hb : cap * 8 ≤ 536870912) (hc : k + 1 ≤ R.cells) (hl : n + cap ≤ R.slots)
    (cont : ∀ T' h' kk b, b = h.size → On p l e R s m args below meth c Z LC n0 T' h' (k + 1) (n + cap) Lc → Ext h h' → Arv Z h' b kk (.object C) z [] .null → Ovr Z kk C → Aim p e below s CC SS n0 Q T' (mkF m (pc + 3) Ls (.ref b :: st))) :
    Aim p e below s CC SS n0 Q T (mkF m pc Ls (.int z :: st)) := by
  obtain ⟨L, vm0, X, eT, N, hS, hZ, A⟩ := P
  have hown' := ownAt hS hown
  obtain ⟨T', h', kk, X', e', E, A', O, st'⟩ := RoadKit.newR (s := s.setVm vm0) X hx hZ hown' w1 w2 eT (g := mkF m pc Ls (.int z :: st)) rfl hd rfl hz hcap hb hc hl
  exact Aim.of st' (cont T' h' kk _ rfl ⟨L, vm0, X', e', N, sinceUp hS E.1, hZ, A.keep ((Keep.refl _ []).ext E) (fun _ q => nomatch q)⟩ E (Arv.new A' hz) O)
theorem Aim.getF {own R0 O f d host : String} {index pc : Nat} {Ls : Array Slot} {st : List Value} {a : Addr} {v : Value} (P : On p l e R s m args below meth c Z LC n0 T h k n Lc) (hx : p.tables.exec = Jvm.exec) (hZs : Z.Warmed39 s.vm) (hown : s.vm.findClass own = some m.cls) (w : (Cond.fieldLink own index R0 f d).before a0 Z = true ∨ (Cond.fieldLinkNest own index R0 f d host).before a0 Z = true) (via : Via Z R0 O f d) (F : Fld Z h a O f d v) (hd : decode c.code pc = .ok (.getfield index, 3)) (cont : ∀ T', On p l e R s m args below meth c Z LC n0 T' h k n Lc → Aim p e below s CC SS n0 Q T' (mkF m (pc + 3) Ls (v :: st))) :
    Aim p e below s CC SS n0 Q T (mkF m pc Ls (.ref a :: st)) := by
  obtain ⟨L, vm0, X, eT, N, hS, hZ, A⟩ := P
  have hown' := ownAt hS hown
  obtain ⟨T', X', e', st'⟩ := RoadKit.getF (s := s.setVm vm0) X hx hZ hown' w via eT F (g := (mkF m pc Ls (.ref a :: st))) rfl rfl hd
  exact Aim.of st' (cont T' ⟨L, vm0, X', e', N, hS, hZ, A⟩)
theorem Aim.getS {own R0 O f d : String} {index pc : Nat} {Ls : Array Slot} {st : List Value} {v : Value} (P : On p l e R s m args below meth c Z LC n0 T h k n Lc) (hx : p.tables.exec = Jvm.exec) (hZs : Z.Warmed39 s.vm) (hown : s.vm.findClass own = some m.cls) (w : (Cond.fieldLink own index R0 f d).before a0 Z = true) (via : Via Z R0 O f d) (F : Sta Z h O f d v) (hd : decode c.code pc = .ok (.getstatic index, 3)) (cont : ∀ T', On p l e R s m args below meth c Z LC n0 T' h k n Lc → Aim p e below s CC SS n0 Q T' (mkF m (pc + 3) Ls (v :: st))) :
    Aim p e below s CC SS n0 Q T (mkF m pc Ls st) := by
  obtain ⟨L, vm0, X, eT, N, hS, hZ, A⟩ := P
  have hown' := ownAt hS hown
  obtain ⟨T', X', e', st'⟩ := RoadKit.getS (s := s.setVm vm0) (host := "") X hx hZ hown' w via eT F (g := (mkF m pc Ls st)) rfl hd
  exact Aim.of st' (cont T' ⟨L, vm0, X', e', N, hS, hZ, A⟩)
theorem Aim.getS2 {own R0 O f d host : String} {index pc : Nat} {Ls : Array Slot} {st : List Value} {v : Value} (P : On p l e R s m args below meth c Z LC n0 T h k n Lc) (hx : p.tables.exec = Jvm.exec) (hZs : Z.Warmed39 s.vm) (hown : s.vm.findClass own = some m.cls) (w : (Cond.fieldLink own index R0 f d).before a0 Z = true ∨ (Cond.fieldLinkNest own index R0 f d host).before a0 Z = true) (via : Via Z R0 O f d) (F : Sta Z h O f d v) (hd : decode c.code pc = .ok (.getstatic index, 3)) (cont : ∀ T', On p l e R s m args below meth c Z LC n0 T' h k n Lc → Aim p e below s CC SS n0 Q T' (mkF m (pc + 3) Ls (v :: st))) :
    Aim p e below s CC SS n0 Q T (mkF m pc Ls st) := by
  obtain ⟨L, vm0, X, eT, N, hS, hZ, A⟩ := P
  have hown' := ownAt hS hown
  obtain ⟨T', X', e', st'⟩ := RoadKit.getS2 (s := s.setVm vm0) X hx hZ hown' w via eT F (g := (mkF m pc Ls st)) rfl hd
  exact Aim.of st' (cont T' ⟨L, vm0, X', e', N, hS, hZ, A⟩)
theorem Aim.castY {own K : String} {index pc : Nat} {Ls : Array Slot} {st : List Value} {a : Addr} (P : On p l e R s m args below meth c Z LC n0 T h k n Lc) (hx : p.tables.exec = Jvm.exec) (hZs : Z.Warmed39 s.vm) (hown : s.vm.findClass own = some m.cls) (w : (Cond.classLink own index K).before a0 Z = true) (F : Ins Z h a K true) (hd : decode c.code pc = .ok (.checkcast index, 3)) (cont : ∀ T', On p l e R s m args below meth c Z LC n0 T' h k n Lc → Aim p e below s CC SS n0 Q T' (mkF m (pc + 3) Ls (.ref a :: st))) :
    Aim p e below s CC SS n0 Q T (mkF m pc Ls (.ref a :: st)) := by
  obtain ⟨L, vm0, X, eT, N, hS, hZ, A⟩ := P
  have hown' := ownAt hS hown
  obtain ⟨T', X', e', st'⟩ := RoadKit.castY (s := s.setVm vm0) X hx hZ hown' w eT F (g := (mkF m pc Ls (.ref a :: st))) rfl rfl hd
  exact Aim.of st' (cont T' ⟨L, vm0, X', e', N, hS, hZ, A⟩)
theorem Aim.instY {own K : String} {index pc : Nat} {Ls : Array Slot} {st : List Value} {a : Addr} (P : On p l e R s m args below meth c Z LC n0 T h k n Lc) (hx : p.tables.exec = Jvm.exec) (hZs : Z.Warmed39 s.vm) (hown : s.vm.findClass own = some m.cls) (w : (Cond.classLink own index K).before a0 Z = true) (F : Ins Z h a K true) (hd : decode c.code pc = .ok (.instanceof index, 3)) (cont : ∀ T', On p l e R s m args below meth c Z LC n0 T' h k n Lc → Aim p e below s CC SS n0 Q T' (mkF m (pc + 3) Ls (.int 1 :: st))) :
    Aim p e below s CC SS n0 Q T (mkF m pc Ls (.ref a :: st)) := by
  obtain ⟨L, vm0, X, eT, N, hS, hZ, A⟩ := P
  have hown' := ownAt hS hown
  obtain ⟨T', X', e', st'⟩ := RoadKit.instY (s := s.setVm vm0) X hx hZ hown' w eT F (g := (mkF m pc Ls (.ref a :: st))) rfl rfl hd
  exact Aim.of st' (cont T' ⟨L, vm0, X', e', N, hS, hZ, A⟩)
theorem Aim.putF {own R0 O f d host C : String} {index kk pc : Nat} {ty : FieldType} {Ls : Array Slot} {st : List Value} {a : Addr} {v old : Value} (P : On p l e R s m args below meth c Z LC n0 T h k n Lc) (hx : p.tables.exec = Jvm.exec) (hZs : Z.Warmed39 s.vm) (hown : s.vm.findClass own = some m.cls) (w : (Cond.fieldLink own index R0 f d).before a0 Z = true ∨ (Cond.fieldLinkNest own index R0 f d host).before a0 Z = true) (via : Via Z R0 O f d)
    (F : Fld Z h a O f d old) (E : Exa Z h a C) (hL : (Cond.lays C O f d).before a0 Z = true ∨ ((Cond.laysFinal C O f d).before a0 Z = true ∧ own = O ∧ meth.name = "<init>")) (wi : (Cond.instantiable C kk).before a0 Z = true)
    (hty : parseFieldDescriptor d = some ty) (hn : narrow ty v = v) (hf : fits ty v = true) (hd : decode c.code pc = .ok (.putfield index, 3)) (ga : n0 ≤ a) (nl : a ∉ Lc)
    (cont : ∀ T' h', On p l e R s m args below meth c Z LC n0 T' h' k n Lc → Wr h h' a (Jvm.RoadKit.slotOf Z O f d) v → Aim p e below s CC SS n0 Q T' (mkF m (pc + 3) Ls st)) :
    Aim p e below s CC SS n0 Q T (mkF m pc Ls (v :: .ref a :: st)) := by
  obtain ⟨L, vm0, X, eT, N, hS, hZ, A⟩ := P
  have hown' := ownAt hS hown
  obtain ⟨T', h', X', e', W, st'⟩ := RoadKit.putF (s := s.setVm vm0) X hx hZ hown' w via eT F E hL wi hty hn hf (g := mkF m pc Ls (v :: .ref a :: st)) rfl rfl hd
  exact Aim.of st' (cont T' h' ⟨_, vm0, X', e', Fr.snoc X' N ga, sinceUp hS (Keep.of_wr W).1, hZ, A.keep (Keep.of_wr W) (allS nl all0)⟩ W)
theorem Aim.stC {pc : Nat} {Ls : Array Slot} {st : List Value} {a : Addr} {kk : ClassId} {j x z : Int32} {vs : List Value} {dv : Value} (P : On p l e R s m args below meth c Z LC n0 T h k n Lc) (hx : p.tables.exec = Jvm.exec) (hZs : Z.Warmed39 s.vm) (V : Arv Z h a kk .char z vs dv) (hj : ¬ j < 0 ∧ j < z) (i : Nat) (hi : j.toNatClampNeg = i) (hv : i < vs.length)
    (hd : decode c.code pc = .ok (.castore, 1)) (ga : n0 ≤ a) (nl : a ∉ Lc) (cont : ∀ T' h', On p l e R s m args below meth c Z LC n0 T' h' k n Lc → Keep h h' [a] → Arv Z h' a kk .char z (vs.set i (.int (nar .char x))) dv → Aim p e below s CC SS n0 Q T' (mkF m (pc + 1) Ls st)) :
    Aim p e below s CC SS n0 Q T (mkF m pc Ls (.int x :: .int j :: .ref a :: st)) := by
  obtain ⟨L, vm0, X, eT, N, hS, hZ, A⟩ := P
  obtain ⟨cl, B, q, S, M, H, U⟩ := V
  obtain ⟨T', h', X', e', W, st'⟩ := RoadKit.stC (s := s.setVm vm0) X hx hZ eT B (j := j) (inb_of S hj) (g := mkF m pc Ls (.int x :: .int j :: .ref a :: st)) rfl rfl hd
  exact Aim.of st' (cont T' h' ⟨_, vm0, X', e', Fr.snoc X' N ga, sinceUp hS (Keep.of_wr W).1, hZ, A.keep (Keep.of_wr W) (allS nl all0)⟩ (Keep.of_wr W) (Arv.set B q S M H U (fits_nar_char _) W i hi hv))
theorem Aim.stB {pc : Nat} {Ls : Array Slot} {st : List Value} {a : Addr} {kk : ClassId} {j x z : Int32} {vs : List Value} {dv : Value} (P : On p l e R s m args below meth c Z LC n0 T h k n Lc) (hx : p.tables.exec = Jvm.exec) (hZs : Z.Warmed39 s.vm) (V : Arv Z h a kk .byte z vs dv) (hj : ¬ j < 0 ∧ j < z) (i : Nat) (hi : j.toNatClampNeg = i) (hv : i < vs.length)
    (hd : decode c.code pc = .ok (.bastore, 1)) (ga : n0 ≤ a) (nl : a ∉ Lc) (cont : ∀ T' h', On p l e R s m args below meth c Z LC n0 T' h' k n Lc → Keep h h' [a] → Arv Z h' a kk .byte z (vs.set i (.int x.toInt8.toInt32)) dv → Aim p e below s CC SS n0 Q T' (mkF m (pc + 1) Ls st)) :
    Aim p e below s CC SS n0 Q T (mkF m pc Ls (.int x :: .int j :: .ref a :: st)) := by
  obtain ⟨L, vm0, X, eT, N, hS, hZ, A⟩ := P
  obtain ⟨cl, B, q, S, M, H, U⟩ := V
  obtain ⟨T', h', X', e', W, st'⟩ := RoadKit.stB (s := s.setVm vm0) X hx hZ eT B (j := j) (inb_of S hj) (g := mkF m pc Ls (.int x :: .int j :: .ref a :: st)) rfl rfl hd
  exact Aim.of st' (cont T' h' ⟨_, vm0, X', e', Fr.snoc X' N ga, sinceUp hS (Keep.of_wr W).1, hZ, A.keep (Keep.of_wr W) (allS nl all0)⟩ (Keep.of_wr W) (Arv.set B q S M H U (fits_nar_byte _) W i hi hv))
theorem Aim.alen {pc : Nat} {Ls : Array Slot} {st : List Value} {a : Addr} {kk : ClassId} {ty : FieldType} {z : Int32} {vs : List Value} {dv : Value} (P : On p l e R s m args below meth c Z LC n0 T h k n Lc) (hx : p.tables.exec = Jvm.exec) (hZs : Z.Warmed39 s.vm) (V : Arv Z h a kk ty z vs dv)
    (hd : decode c.code pc = .ok (.arraylength, 1)) (cont : Aim p e below s CC SS n0 Q T (mkF m (pc + 1) Ls (.int z :: st))) : Aim p e below s CC SS n0 Q T (mkF m pc Ls (.ref a :: st)) := by
  obtain ⟨L, vm0, X, eT, N, hS, hZ, A⟩ := P
  obtain ⟨cl, B, q, S, M, H, U⟩ := V
  refine Aim.of (fun t kt => X.arraylength hx (by rw [eT]; exact B.1) (State.isArrayOf_alike (s := Z) (T := s.setVm vm0) hZ.alike B.2.1) (g := mkF m pc Ls (.ref a :: st)) rfl rfl hd t ?_) cont
  rw [len_of S M]; exact kt
theorem Aim.ldC {pc : Nat} {Ls : Array Slot} {st : List Value} {a : Addr} {kk : ClassId} {j z : Int32} {vs : List Value} {dv v : Value} (P : On p l e R s m args below meth c Z LC n0 T h k n Lc) (hx : p.tables.exec = Jvm.exec) (hZs : Z.Warmed39 s.vm) (V : Arv Z h a kk .char z vs dv) (hj : ¬ j < 0 ∧ j < z) (hv : vs.getD j.toNatClampNeg dv = v)
    (hd : decode c.code pc = .ok (.caload, 1)) (cont : Aim p e below s CC SS n0 Q T (mkF m (pc + 1) Ls (v :: st))) : Aim p e below s CC SS n0 Q T (mkF m pc Ls (.int j :: .ref a :: st)) := by
  obtain ⟨L, vm0, X, eT, N, hS, hZ, A⟩ := P
  obtain ⟨cl, B, q, S, M, H, U⟩ := V
  exact Aim.of (fun t kt => X.caload hx (j := j) (v := v) (by rw [eT]; exact B.1) (State.isArrayOf_alike (s := Z) (T := s.setVm vm0) hZ.alike B.2.1) B.2.2 (inb_of S hj) (H.at (inb_of S hj) hv) (g := mkF m pc Ls (.int j :: .ref a :: st)) rfl rfl hd t kt) cont
theorem Aim.ldB {pc : Nat} {Ls : Array Slot} {st : List Value} {a : Addr} {kk : ClassId} {j z : Int32} {vs : List Value} {dv v : Value} (P : On p l e R s m args below meth c Z LC n0 T h k n Lc) (hx : p.tables.exec = Jvm.exec) (hZs : Z.Warmed39 s.vm) (V : Arv Z h a kk .byte z vs dv) (hj : ¬ j < 0 ∧ j < z) (hv : vs.getD j.toNatClampNeg dv = v)
    (hd : decode c.code pc = .ok (.baload, 1)) (cont : Aim p e below s CC SS n0 Q T (mkF m (pc + 1) Ls (v :: st))) : Aim p e below s CC SS n0 Q T (mkF m pc Ls (.int j :: .ref a :: st)) := by
  obtain ⟨L, vm0, X, eT, N, hS, hZ, A⟩ := P
  obtain ⟨cl, B, q, S, M, H, U⟩ := V
  exact Aim.of (fun t kt => X.baloadBytes hx (j := j) (v := v) (by rw [eT]; exact B.1) (State.isArrayOf_alike (s := Z) (T := s.setVm vm0) hZ.alike B.2.1) B.2.2 (inb_of S hj) (H.at (inb_of S hj) hv) (g := mkF m pc Ls (.int j :: .ref a :: st)) rfl rfl hd t kt) cont
theorem Aim.initO {own : String} {index pc mx : Nat} {Ls : Array Slot} {st : List Value} {a : Addr} (P : On p l e R s m args below meth c Z LC n0 T h k n Lc) (hx : p.tables.exec = Jvm.exec) (hZs : Z.Warmed39 s.vm) (hml : c.maxLocals = mx) (hown : s.vm.findClass own = some m.cls) (w1 : (Cond.methodLink own index Lib.objectInit).before a0 Z = true) (w2 : (Cond.instanceMethod Lib.objectInit).before a0 Z = true)
    (w3 : (Cond.code Lib.objectInit ⟨#[0xb1]⟩ 1 none).before a0 Z = true) (hsz : Ls.size = mx) (hd : decode c.code pc = .ok (.invokespecial index, 3)) (hf : 1 ≤ R.frames) (hl : (st.map fun v => v.category).sum + 12 ≤ R.locals)
    (cont : ∀ T', On p l e R s m args below meth c Z LC n0 T' h k n Lc → Aim p e below s CC SS n0 Q T' (mkF m (pc + 3) Ls st)) : Aim p e below s CC SS n0 Q T (mkF m pc Ls (.ref a :: st)) := by
  obtain ⟨L, vm0, X, eT, N, hS, hZ, A⟩ := P
  have hown' := ownAt hS hown
  obtain ⟨T', X', e', st'⟩ := RoadKit.initO (s := s.setVm vm0) X hx hZ hown' w1 w2 w3 eT (g := mkF m pc Ls (.ref a :: st)) rfl (by rw [hml]; exact hsz) rfl hd hf (W := (st.map fun v => v.category).sum) (by show 2 * 0 + _ ≤ _; omega) hl
  exact Aim.of st' (cont T' ⟨L, vm0, X', e', N, hS, hZ, A⟩)
theorem Aim.ldcI {own : String} {index pc : Nat} {Ls : Array Slot} {st : List Value} {v : Int32} (P : On p l e R s m args below meth c Z LC n0 T h k n Lc) (hx : p.tables.exec = Jvm.exec) (hZs : Z.Warmed39 s.vm) (hown : s.vm.findClass own = some m.cls) (w : (Cond.constant own index v).before a0 Z = true) (hd : decode c.code pc = .ok (.ldc index, 2))
    (cont : Aim p e below s CC SS n0 Q T (mkF m (pc + 2) Ls (.int v :: st))) : Aim p e below s CC SS n0 Q T (mkF m pc Ls st) := by
  obtain ⟨L, vm0, X, eT, N, hS, hZ, A⟩ := P
  have hown' := ownAt hS hown
  exact Aim.of (fun t kt => X.ldcInt hx hown' (mvT (s := s.setVm vm0) hZ w) (g := mkF m pc Ls st) rfl hd t kt) cont
theorem Aim.ldcwI {own : String} {index pc : Nat} {Ls : Array Slot} {st : List Value} {v : Int32} (P : On p l e R s m args below meth c Z LC n0 T h k n Lc) (hx : p.tables.exec = Jvm.exec) (hZs : Z.Warmed39 s.vm) (hown : s.vm.findClass own = some m.cls) (w : (Cond.constant own index v).before a0 Z = true) (hd : decode c.code pc = .ok (.ldc_w index, 3))
    (cont : Aim p e below s CC SS n0 Q T (mkF m (pc + 3) Ls (.int v :: st))) : Aim p e below s CC SS n0 Q T (mkF m pc Ls st) := by
  obtain ⟨L, vm0, X, eT, N, hS, hZ, A⟩ := P
  have hown' := ownAt hS hown
  exact Aim.of (fun t kt => X.ldcwInt hx hown' (mvT (s := s.setVm vm0) hZ w) (g := mkF m pc Ls st) rfl hd t kt) cont
theorem Aim.ldcJ {own : String} {index pc : Nat} {Ls : Array Slot} {st : List Value} {v : Int64} (P : On p l e R s m args below meth c Z LC n0 T h k n Lc) (hx : p.tables.exec = Jvm.exec) (hZs : Z.Warmed39 s.vm) (hown : s.vm.findClass own = some m.cls) (w : (Cond.constantLong own index v).before a0 Z = true) (hd : decode c.code pc = .ok (.ldc2_w index, 3))
    (cont : Aim p e below s CC SS n0 Q T (mkF m (pc + 3) Ls (.long v :: st))) : Aim p e below s CC SS n0 Q T (mkF m pc Ls st) := by
  obtain ⟨L, vm0, X, eT, N, hS, hZ, A⟩ := P
  have hown' := ownAt hS hown
  exact Aim.of (fun t kt => X.ldc2Long hx hown' (mvT (s := s.setVm vm0) hZ w) (g := mkF m pc Ls st) rfl hd t kt) cont
theorem Aim.instNull {index pc : Nat} {Ls : Array Slot} {st : List Value} (P : On p l e R s m args below meth c Z LC n0 T h k n Lc) (hx : p.tables.exec = Jvm.exec) (hd : decode c.code pc = .ok (.instanceof index, 3))
    (cont : Aim p e below s CC SS n0 Q T (mkF m (pc + 3) Ls (.int 0 :: st))) : Aim p e below s CC SS n0 Q T (mkF m pc Ls (.null :: st)) := by
  obtain ⟨L, vm0, X, eT, N, hS, hZ, A⟩ := P
  exact Aim.of (fun t kt => X.instanceofNull hx (g := mkF m pc Ls (.null :: st)) rfl rfl hd t kt) cont
theorem Aim.castNull {index pc : Nat} {Ls : Array Slot} {st : List Value} (P : On p l e R s m args below meth c Z LC n0 T h k n Lc) (hx : p.tables.exec = Jvm.exec) (hd : decode c.code pc = .ok (.checkcast index, 3))
    (cont : Aim p e below s CC SS n0 Q T (mkF m (pc + 3) Ls (.null :: st))) : Aim p e below s CC SS n0 Q T (mkF m pc Ls (.null :: st)) := by
  obtain ⟨L, vm0, X, eT, N, hS, hZ, A⟩ := P
  exact Aim.of (fun t kt => X.checkcastNull hx (g := mkF m pc Ls (.null :: st)) rfl rfl hd t kt) cont
/-! calls -/
theorem Aim.callS {own : String} {index pc mx maxL dc ds W : Nat} {y : MethodName} {bytes : ByteArray} {ret : Option FieldType} {ps : List FieldType} {r : Option FieldType} {Ls : Array Slot} {argsL rest : List Value} {ws : List Addr} (P : On p l e R s m args below meth c Z LC n0 T h k n Lc) (hx : p.tables.exec = Jvm.exec) (hZs : Z.Warmed39 s.vm) (hml : c.maxLocals = mx) (hown : s.vm.findClass own = some m.cls)
    (w1 : (Cond.methodLink own index y).before a0 Z = true) (w2 : (Cond.static y).before a0 Z = true) (w3 : (Cond.initialized y.cls).before a0 Z = true) (w4 : (Cond.code y bytes maxL ret).before a0 Z = true) (hy : y.cls ≠ "java/lang/invoke/MethodHandle" ∧ y.cls ≠ "java/lang/invoke/VarHandle")
    (hK : ∀ vm0, Z.Warmed39 vm0 → Jvm.OwnN.Bk l R p e below (s.setVm vm0) args y 3 W argsL.toArray h dc ds n0 QN) (qk : ∀ v h', QN v h' → Keep h h' ws) (hnl : ∀ x ∈ ws, x ∉ Lc) (hsz : Ls.size = mx) (hpd : parseMethodDescriptor y.desc = some ⟨ps, r⟩) (hln : argsL.length = ps.length) (hW : (rest.map fun v => v.category).sum ≤ W) (hd : decode c.code pc = .ok (.invokestatic index, 3)) (hc : k + dc ≤ R.cells) (hs : n + ds ≤ R.slots)
    (cont : ∀ T' h' v, On p l e R s m args below meth c Z LC n0 T' h' (k + dc) (n + ds) Lc → QN v h' → Aim p e below s CC SS n0 Q T' (mkF m (pc + 3) Ls (v.toList ++ rest))) : Aim p e below s CC SS n0 Q T (mkF m pc Ls (argsL.reverse ++ rest)) := by
  obtain ⟨L, vm0, X, eT, N, hS, hZ, A⟩ := P
  have hown' := ownAt hS hown
  have hB := hK vm0 hZ
  obtain ⟨v, vm1, ⟨T', L', k', n'⟩, -, X', ⟨Lc', ⟨hq, N'⟩, l', y', z'⟩, st'⟩ := Jvm.LawKit.callS (s := s.setVm vm0) X hx (y := y) hown' (mvT (s := s.setVm vm0) hZ w1) (mvT (s := s.setVm vm0) hZ w2) (mvT (s := s.setVm vm0) hZ w3) (mvT (s := s.setVm vm0) hZ w4) hy hB (g := mkF m pc Ls (argsL.reverse ++ rest)) rfl (by rw [hml]; exact hsz) (argsL := argsL) (rest := rest) (lenOf hpd hln) rfl (by show 2 * 0 + _ ≤ _; omega) hd (fun _ _ => ⟨rfl, eT, hc, hs⟩)
  dsimp only [Pt.U, Pt.locs, Pt.cells, Pt.slots] at X' l' y' z' st' hq
  subst l' y' z'
  exact Aim.of st' (cont T' _ v ⟨_, vm0, X', rfl, N.app N', sinceUp hS (qk _ _ hq).1, hZ, A.keep (qk _ _ hq) hnl⟩ hq)
theorem Aim.callSW {own : String} {index pc mx maxL dc ds W : Nat} {y : MethodName} {bytes : ByteArray} {ret : Option FieldType} {ps : List FieldType} {r : Option FieldType} {Ls : Array Slot} {argsL rest : List Value} (P : On p l e R s m args below meth c Z LC n0 T h k n Lc) (hx : p.tables.exec = Jvm.exec) (hZs : Z.Warmed39 s.vm) (hml : c.maxLocals = mx) (hown : s.vm.findClass own = some m.cls)
    (w1 : (Cond.methodLink own index y).before a0 Z = true) (w2 : (Cond.static y).before a0 Z = true) (w3 : (Cond.initialized y.cls).before a0 Z = true) (w4 : (Cond.code y bytes maxL ret).before a0 Z = true) (hy : y.cls ≠ "java/lang/invoke/MethodHandle" ∧ y.cls ≠ "java/lang/invoke/VarHandle")
    (hK : Bk l R p e below s args y 3 W argsL.toArray h dc ds Z LC n0 Lc QH) (hsz : Ls.size = mx) (hpd : parseMethodDescriptor y.desc = some ⟨ps, r⟩) (hln : argsL.length = ps.length) (hW : (rest.map fun v => v.category).sum ≤ W) (hd : decode c.code pc = .ok (.invokestatic index, 3)) (hc : k + dc ≤ R.cells) (hs : n + ds ≤ R.slots)
    (cont : ∀ T' h' v Lc', On p l e R s m args below meth c Z LC n0 T' h' (k + dc) (n + ds) Lc' → Grow Lc Lc' h.size → QH v h' Lc' → Aim p e below s CC SS n0 Q T' (mkF m (pc + 3) Ls (v.toList ++ rest))) : Aim p e below s CC SS n0 Q T (mkF m pc Ls (argsL.reverse ++ rest)) := by
  obtain ⟨L, vm0, X, eT, N, hS, hZ, A⟩ := P
  have hown' := ownAt hS hown
  have hB := hK vm0 hZ A
  obtain ⟨v, vm1, ⟨T', L', k', n'⟩, -, X', hS', hgr, ⟨Lx, ⟨⟨Lc', hq, A', rel⟩, N'⟩, l', y', z'⟩, st'⟩ := callSS (s := s.setVm vm0) X hx (y := y) hown' (mvT (s := s.setVm vm0) hZ w1) (mvT (s := s.setVm vm0) hZ w2) (mvT (s := s.setVm vm0) hZ w3) (mvT (s := s.setVm vm0) hZ w4) hy hB (g := mkF m pc Ls (argsL.reverse ++ rest)) rfl (by rw [hml]; exact hsz) (argsL := argsL) (rest := rest) (lenOf hpd hln) rfl (by show 2 * 0 + _ ≤ _; omega) hd (fun _ _ => ⟨rfl, eT, hc, hs⟩)
  dsimp only [Pt.U, Pt.locs, Pt.cells, Pt.slots] at X' l' y' z' st' hq A' hS' hgr
  subst l' y' z'
  have hS2 : s.Since T'.vm T'.heap.size := hS.trans hS' (by rw [← eT]; exact hgr)
  exact Aim.of (fun t kt => st'.trans kt) (cont T' _ v Lc' ⟨_, T'.vm, X', rfl, N.app N', hS2, State.Warmed39.trans (t := s.setVm vm0) hZ hS'.1, A'⟩ rel hq)
theorem Aim.callC {own : String} {index pc mx maxL dc ds W : Nat} {y : MethodName} {bytes : ByteArray} {ps : List FieldType} {r : Option FieldType} {Ls : Array Slot} {a : Addr} {argsL rest : List Value} {ws : List Addr} (P : On p l e R s m args below meth c Z LC n0 T h k n Lc) (hx : p.tables.exec = Jvm.exec) (hZs : Z.Warmed39 s.vm) (hml : c.maxLocals = mx) (hown : s.vm.findClass own = some m.cls)
    (hy1 : y.name = "<init>") (w1 : (Cond.methodLink own index y).before a0 Z = true) (w2 : (Cond.instanceMethod y).before a0 Z = true) (w4 : (Cond.code y bytes maxL none).before a0 Z = true) (hy : y.cls ≠ "java/lang/invoke/MethodHandle" ∧ y.cls ≠ "java/lang/invoke/VarHandle")
    (hK : ∀ vm0, Z.Warmed39 vm0 → Jvm.OwnN.Bk l R p e below (s.setVm vm0) args y 3 W (.ref a :: argsL).toArray h dc ds n0 QN) (qk : ∀ v h', QN v h' → Keep h h' ws) (hnl : ∀ x ∈ ws, x ∉ Lc) (hsz : Ls.size = mx) (hpd : parseMethodDescriptor y.desc = some ⟨ps, r⟩) (hln : argsL.length = ps.length) (hW : (rest.map fun v => v.category).sum ≤ W) (hd : decode c.code pc = .ok (.invokespecial index, 3)) (hc : k + dc ≤ R.cells) (hs : n + ds ≤ R.slots)
    (cont : ∀ T' h' v, On p l e R s m args below meth c Z LC n0 T' h' (k + dc) (n + ds) Lc → QN v h' → Aim p e below s CC SS n0 Q T' (mkF m (pc + 3) Ls (v.toList ++ rest))) : Aim p e below s CC SS n0 Q T (mkF m pc Ls (argsL.reverse ++ .ref a :: rest)) := by
  obtain ⟨L, vm0, X, eT, N, hS, hZ, A⟩ := P
  have hown' := ownAt hS hown
  have hB := hK vm0 hZ
  obtain ⟨v, vm1, ⟨T', L', k', n'⟩, -, X', ⟨Lc', ⟨hq, N'⟩, l', y', z'⟩, st'⟩ := X.specialBack hx (y := y) hy1 hown' (mvT (s := s.setVm vm0) hZ w1) (mvT (s := s.setVm vm0) hZ w2) (mvT (s := s.setVm vm0) hZ w4) hy hB (g := mkF m pc Ls (argsL.reverse ++ .ref a :: rest)) rfl (by rw [hml]; exact hsz) (Steps.refl _) (a := a) (argsL := argsL) (rest := rest) (lenOf hpd hln) rfl (by show 2 * 0 + _ ≤ _; omega) hd (fun _ _ => ⟨rfl, eT, hc, hs⟩)
  dsimp only [Pt.U, Pt.locs, Pt.cells, Pt.slots] at X' l' y' z' st' hq
  subst l' y' z'
  exact Aim.of (fun t kt => st'.trans kt) (cont T' _ v ⟨_, vm0, X', rfl, N.app N', sinceUp hS (qk _ _ hq).1, hZ, A.keep (qk _ _ hq) hnl⟩ hq)
theorem Aim.callCW {own : String} {index pc mx maxL dc ds W : Nat} {y : MethodName} {bytes : ByteArray} {ps : List FieldType} {r : Option FieldType} {Ls : Array Slot} {a : Addr} {argsL rest : List Value} (P : On p l e R s m args below meth c Z LC n0 T h k n Lc) (hx : p.tables.exec = Jvm.exec) (hZs : Z.Warmed39 s.vm) (hml : c.maxLocals = mx) (hown : s.vm.findClass own = some m.cls)
    (hy1 : y.name = "<init>") (w1 : (Cond.methodLink own index y).before a0 Z = true) (w2 : (Cond.instanceMethod y).before a0 Z = true) (w4 : (Cond.code y bytes maxL none).before a0 Z = true) (hy : y.cls ≠ "java/lang/invoke/MethodHandle" ∧ y.cls ≠ "java/lang/invoke/VarHandle")
    (hK : Bk l R p e below s args y 3 W (.ref a :: argsL).toArray h dc ds Z LC n0 Lc QH) (hsz : Ls.size = mx) (hpd : parseMethodDescriptor y.desc = some ⟨ps, r⟩) (hln : argsL.length = ps.length) (hW : (rest.map fun v => v.category).sum ≤ W) (hd : decode c.code pc = .ok (.invokespecial index, 3)) (hc : k + dc ≤ R.cells) (hs : n + ds ≤ R.slots)
    (cont : ∀ T' h' v Lc', On p l e R s m args below meth c Z LC n0 T' h' (k + dc) (n + ds) Lc' → Grow Lc Lc' h.size → QH v h' Lc' → Aim p e below s CC SS n0 Q T' (mkF m (pc + 3) Ls (v.toList ++ rest))) : Aim p e below s CC SS n0 Q T (mkF m pc Ls (argsL.reverse ++ .ref a :: rest)) := by
  obtain ⟨L, vm0, X, eT, N, hS, hZ, A⟩ := P
  have hown' := ownAt hS hown
  have hB := hK vm0 hZ A
  obtain ⟨v, vm1, ⟨T', L', k', n'⟩, -, X', hS', hgr, ⟨Lx, ⟨⟨Lc', hq, A', rel⟩, N'⟩, l', y', z'⟩, st'⟩ := X.specialBackS hx (y := y) hy1 hown' (mvT (s := s.setVm vm0) hZ w1) (mvT (s := s.setVm vm0) hZ w2) (mvT (s := s.setVm vm0) hZ w4) hy hB (g := mkF m pc Ls (argsL.reverse ++ .ref a :: rest)) rfl (by rw [hml]; exact hsz) (Steps.refl _) (a := a) (argsL := argsL) (rest := rest) (lenOf hpd hln) rfl (by show 2 * 0 + _ ≤ _; omega) hd (fun _ _ => ⟨rfl, eT, hc, hs⟩)
  dsimp only [Pt.U, Pt.locs, Pt.cells, Pt.slots] at X' l' y' z' st' hq A' hS' hgr
  subst l' y' z'
  have hS2 : s.Since T'.vm T'.heap.size := hS.trans hS' (by rw [← eT]; exact hgr)
  exact Aim.of (fun t kt => st'.trans kt) (cont T' _ v Lc' ⟨_, T'.vm, X', rfl, N.app N', hS2, State.Warmed39.trans (t := s.setVm vm0) hZ hS'.1, A'⟩ rel hq)
theorem Aim.callV {own C : String} {index pc mx dc ds W : Nat} {y z : MethodName} {ps : List FieldType} {r : Option FieldType} {Ls : Array Slot} {a : Addr} {argsL rest : List Value} {ws : List Addr} (P : On p l e R s m args below meth c Z LC n0 T h k n Lc) (hx : p.tables.exec = Jvm.exec) (hZs : Z.Warmed39 s.vm) (hml : c.maxLocals = mx) (hown : s.vm.findClass own = some m.cls)
    (w1 : (Cond.methodLink own index y).before a0 Z = true) (w2 : (Cond.declares y).before a0 Z = true) (nf : ∀ vm0, Z.Warmed39 vm0 → NotFace (s.setVm vm0) y) (w3 : (Cond.selects C y z).before a0 Z = true) (w4 : (Cond.instanceMethod z).before a0 Z = true) (hy : y.cls ≠ "java/lang/invoke/MethodHandle" ∧ y.cls ≠ "java/lang/invoke/VarHandle") (E : Exa Z h a C)
    (hK : ∀ vm0, Z.Warmed39 vm0 → Jvm.OwnN.Bk l R p e below (s.setVm vm0) args z 3 W (.ref a :: argsL).toArray h dc ds n0 QN) (qk : ∀ v h', QN v h' → Keep h h' ws) (hnl : ∀ x ∈ ws, x ∉ Lc) (hsz : Ls.size = mx) (hpd : parseMethodDescriptor y.desc = some ⟨ps, r⟩) (hln : argsL.length = ps.length) (hW : (rest.map fun v => v.category).sum ≤ W) (hd : decode c.code pc = .ok (.invokevirtual index, 3)) (hc : k + dc ≤ R.cells) (hs : n + ds ≤ R.slots)
    (cont : ∀ T' h' v, On p l e R s m args below meth c Z LC n0 T' h' (k + dc) (n + ds) Lc → QN v h' → Aim p e below s CC SS n0 Q T' (mkF m (pc + 3) Ls (v.toList ++ rest))) : Aim p e below s CC SS n0 Q T (mkF m pc Ls (argsL.reverse ++ .ref a :: rest)) := by
  obtain ⟨L, vm0, X, eT, N, hS, hZ, A⟩ := P
  have hown' := ownAt hS hown
  obtain ⟨cq, kq, qa, qb, qc⟩ := isOf (s := s.setVm vm0) hZ eT E
  have hB := hK vm0 hZ
  obtain ⟨v, vm1, ⟨T', L', k', n'⟩, -, X', ⟨Lc', ⟨hq, N'⟩, l', y', z'⟩, st'⟩ := X.virtualBack hx (y := y) (z := z) hown' (mvT (s := s.setVm vm0) hZ w1) (mvT (s := s.setVm vm0) hZ w2) (nf vm0 hZ) (mvT (s := s.setVm vm0) hZ w3) (mvT (s := s.setVm vm0) hZ w4) hy hB qa qc (g := mkF m pc Ls (argsL.reverse ++ .ref a :: rest)) rfl (by rw [hml]; exact hsz) (Steps.refl _) (argsL := argsL) (rest := rest) (lenOf hpd hln) rfl (by show 2 * 0 + _ ≤ _; omega) hd (fun _ _ => ⟨rfl, eT, hc, hs⟩)
  dsimp only [Pt.U, Pt.locs, Pt.cells, Pt.slots] at X' l' y' z' st' hq
  subst l' y' z'
  exact Aim.of (fun t kt => st'.trans kt) (cont T' _ v ⟨_, vm0, X', rfl, N.app N', sinceUp hS (qk _ _ hq).1, hZ, A.keep (qk _ _ hq) hnl⟩ hq)
theorem Aim.callVW {own C : String} {index pc mx dc ds W : Nat} {y z : MethodName} {ps : List FieldType} {r : Option FieldType} {Ls : Array Slot} {a : Addr} {argsL rest : List Value} (P : On p l e R s m args below meth c Z LC n0 T h k n Lc) (hx : p.tables.exec = Jvm.exec) (hZs : Z.Warmed39 s.vm) (hml : c.maxLocals = mx) (hown : s.vm.findClass own = some m.cls)
    (w1 : (Cond.methodLink own index y).before a0 Z = true) (w2 : (Cond.declares y).before a0 Z = true) (nf : ∀ vm0, Z.Warmed39 vm0 → NotFace (s.setVm vm0) y) (w3 : (Cond.selects C y z).before a0 Z = true) (w4 : (Cond.instanceMethod z).before a0 Z = true) (hy : y.cls ≠ "java/lang/invoke/MethodHandle" ∧ y.cls ≠ "java/lang/invoke/VarHandle") (E : Exa Z h a C)
    (hK : Bk l R p e below s args z 3 W (.ref a :: argsL).toArray h dc ds Z LC n0 Lc QH) (hsz : Ls.size = mx) (hpd : parseMethodDescriptor y.desc = some ⟨ps, r⟩) (hln : argsL.length = ps.length) (hW : (rest.map fun v => v.category).sum ≤ W) (hd : decode c.code pc = .ok (.invokevirtual index, 3)) (hc : k + dc ≤ R.cells) (hs : n + ds ≤ R.slots)
    (cont : ∀ T' h' v Lc', On p l e R s m args below meth c Z LC n0 T' h' (k + dc) (n + ds) Lc' → Grow Lc Lc' h.size → QH v h' Lc' → Aim p e below s CC SS n0 Q T' (mkF m (pc + 3) Ls (v.toList ++ rest))) : Aim p e below s CC SS n0 Q T (mkF m pc Ls (argsL.reverse ++ .ref a :: rest)) := by
  obtain ⟨L, vm0, X, eT, N, hS, hZ, A⟩ := P
  have hown' := ownAt hS hown
  obtain ⟨cq, kq, qa, qb, qc⟩ := isOf (s := s.setVm vm0) hZ eT E
  have hB := hK vm0 hZ A
  obtain ⟨v, vm1, ⟨T', L', k', n'⟩, -, X', hS', hgr, ⟨Lx, ⟨⟨Lc', hq, A', rel⟩, N'⟩, l', y', z'⟩, st'⟩ := X.virtualBackS hx (y := y) (z := z) hown' (mvT (s := s.setVm vm0) hZ w1) (mvT (s := s.setVm vm0) hZ w2) (nf vm0 hZ) (mvT (s := s.setVm vm0) hZ w3) (mvT (s := s.setVm vm0) hZ w4) hy hB qa qc (g := mkF m pc Ls (argsL.reverse ++ .ref a :: rest)) rfl (by rw [hml]; exact hsz) (Steps.refl _) (argsL := argsL) (rest := rest) (lenOf hpd hln) rfl (by show 2 * 0 + _ ≤ _; omega) hd (fun _ _ => ⟨rfl, eT, hc, hs⟩)
  dsimp only [Pt.U, Pt.locs, Pt.cells, Pt.slots] at X' l' y' z' st' hq A' hS' hgr
  subst l' y' z'
  have hS2 : s.Since T'.vm T'.heap.size := hS.trans hS' (by rw [← eT]; exact hgr)
  exact Aim.of (fun t kt => st'.trans kt) (cont T' _ v Lc' ⟨_, T'.vm, X', rfl, N.app N', hS2, State.Warmed39.trans (t := s.setVm vm0) hZ hS'.1, A'⟩ rel hq)
theorem Aim.callI {own C : String} {index count pc mx dc ds W : Nat} {y z : MethodName} {ps : List FieldType} {r : Option FieldType} {Ls : Array Slot} {a : Addr} {argsL rest : List Value} {ws : List Addr} (P : On p l e R s m args below meth c Z LC n0 T h k n Lc) (hx : p.tables.exec = Jvm.exec) (hZs : Z.Warmed39 s.vm) (hml : c.maxLocals = mx) (hown : s.vm.findClass own = some m.cls)
    (w1 : (Cond.methodLink own index y).before a0 Z = true) (w2 : (Cond.declares y).before a0 Z = true) (w5 : (Cond.interfaceMethod y.cls y.cls y.name y.desc).before a0 Z = true) (w3 : (Cond.selects C y z).before a0 Z = true) (w4 : (Cond.instanceMethod z).before a0 Z = true) (w6 : (Cond.publicMethod z).before a0 Z = true) (w7 : (Cond.unhidden C y.name y.desc).before a0 Z = true) (w8 : (Cond.castable C y.cls).before a0 Z = true) (hy : y.cls ≠ "java/lang/invoke/MethodHandle" ∧ y.cls ≠ "java/lang/invoke/VarHandle") (E : Exa Z h a C)
    (hK : ∀ vm0, Z.Warmed39 vm0 → Jvm.OwnN.Bk l R p e below (s.setVm vm0) args z 5 W (.ref a :: argsL).toArray h dc ds n0 QN) (qk : ∀ v h', QN v h' → Keep h h' ws) (hnl : ∀ x ∈ ws, x ∉ Lc) (hsz : Ls.size = mx) (hpd : parseMethodDescriptor y.desc = some ⟨ps, r⟩) (hln : argsL.length = ps.length) (hW : (rest.map fun v => v.category).sum ≤ W) (hd : decode c.code pc = .ok (.invokeinterface index count, 5)) (hc : k + dc ≤ R.cells) (hs : n + ds ≤ R.slots)
    (cont : ∀ T' h' v, On p l e R s m args below meth c Z LC n0 T' h' (k + dc) (n + ds) Lc → QN v h' → Aim p e below s CC SS n0 Q T' (mkF m (pc + 5) Ls (v.toList ++ rest))) : Aim p e below s CC SS n0 Q T (mkF m pc Ls (argsL.reverse ++ .ref a :: rest)) := by
  obtain ⟨L, vm0, X, eT, N, hS, hZ, A⟩ := P
  have hown' := ownAt hS hown
  obtain ⟨cq, kq, qa, qb, qc⟩ := isOf (s := s.setVm vm0) hZ eT E
  have hB := hK vm0 hZ
  obtain ⟨v, vm1, ⟨T', L', k', n'⟩, -, X', ⟨Lc', ⟨hq, N'⟩, l', y', z'⟩, st'⟩ := X.interfaceBack hx (xi := y) (y := z) hown' (mvT (s := s.setVm vm0) hZ w1) (mvT (s := s.setVm vm0) hZ w2) (mvT (s := s.setVm vm0) hZ w5 (by simp [Cond.onTables, Cond.keepsFace, Cond.keeps, Cond.steady, Cond.faceAtom, hy.1, hy.2])) (mvT (s := s.setVm vm0) hZ w3) (mvT (s := s.setVm vm0) hZ w4) (mvT (s := s.setVm vm0) hZ w6) (mvT (s := s.setVm vm0) hZ w7) (mvT (s := s.setVm vm0) hZ w8) hy hB qa qb qc (g := mkF m pc Ls (argsL.reverse ++ .ref a :: rest)) rfl (by rw [hml]; exact hsz) (Steps.refl _) (argsL := argsL) (rest := rest) (lenOf hpd hln) rfl (by show 2 * 0 + _ ≤ _; omega) hd (fun _ _ => ⟨rfl, eT, hc, hs⟩)
  dsimp only [Pt.U, Pt.locs, Pt.cells, Pt.slots] at X' l' y' z' st' hq
  subst l' y' z'
  exact Aim.of (fun t kt => st'.trans kt) (cont T' _ v ⟨_, vm0, X', rfl, N.app N', sinceUp hS (qk _ _ hq).1, hZ, A.keep (qk _ _ hq) hnl⟩ hq)
theorem Aim.callIW {own C : String} {index count pc mx dc ds W : Nat} {y z : MethodName} {ps : List FieldType} {r : Option FieldType} {Ls : Array Slot} {a : Addr} {argsL rest : List Value} (P : On p l e R s m args below meth c Z LC n0 T h k n Lc) (hx : p.tables.exec = Jvm.exec) (hZs : Z.Warmed39 s.vm) (hml : c.maxLocals = mx) (hown : s.vm.findClass own = some m.cls)
    (w1 : (Cond.methodLink own index y).before a0 Z = true) (w2 : (Cond.declares y).before a0 Z = true) (w5 : (Cond.interfaceMethod y.cls y.cls y.name y.desc).before a0 Z = true) (w3 : (Cond.selects C y z).before a0 Z = true) (w4 : (Cond.instanceMethod z).before a0 Z = true) (w6 : (Cond.publicMethod z).before a0 Z = true) (w7 : (Cond.unhidden C y.name y.desc).before a0 Z = true) (w8 : (Cond.castable C y.cls).before a0 Z = true) (hy : y.cls ≠ "java/lang/invoke/MethodHandle" ∧ y.cls ≠ "java/lang/invoke/VarHandle") (E : Exa Z h a C)
    (hK : Bk l R p e below s args z 5 W (.ref a :: argsL).toArray h dc ds Z LC n0 Lc QH) (hsz : Ls.size = mx) (hpd : parseMethodDescriptor y.desc = some ⟨ps, r⟩) (hln : argsL.length = ps.length) (hW : (rest.map fun v => v.category).sum ≤ W) (hd : decode c.code pc = .ok (.invokeinterface index count, 5)) (hc : k + dc ≤ R.cells) (hs : n + ds ≤ R.slots)
    (cont : ∀ T' h' v Lc', On p l e R s m args below meth c Z LC n0 T' h' (k + dc) (n + ds) Lc' → Grow Lc Lc' h.size → QH v h' Lc' → Aim p e below s CC SS n0 Q T' (mkF m (pc + 5) Ls (v.toList ++ rest))) : Aim p e below s CC SS n0 Q T (mkF m pc Ls (argsL.reverse ++ .ref a :: rest)) := by
  obtain ⟨L, vm0, X, eT, N, hS, hZ, A⟩ := P
  have hown' := ownAt hS hown
  obtain ⟨cq, kq, qa, qb, qc⟩ := isOf (s := s.setVm vm0) hZ eT E
  have hB := hK vm0 hZ A
  obtain ⟨v, vm1, ⟨T', L', k', n'⟩, -, X', hS', hgr, ⟨Lx, ⟨⟨Lc', hq, A', rel⟩, N'⟩, l', y', z'⟩, st'⟩ := X.interfaceBackS hx (xi := y) (y := z) hown' (mvT (s := s.setVm vm0) hZ w1) (mvT (s := s.setVm vm0) hZ w2) (mvT (s := s.setVm vm0) hZ w5 (by simp [Cond.onTables, Cond.keepsFace, Cond.keeps, Cond.steady, Cond.faceAtom, hy.1, hy.2])) (mvT (s := s.setVm vm0) hZ w3) (mvT (s := s.setVm vm0) hZ w4) (mvT (s := s.setVm vm0) hZ w6) (mvT (s := s.setVm vm0) hZ w7) (mvT (s := s.setVm vm0) hZ w8) hy hB qa qb qc (g := mkF m pc Ls (argsL.reverse ++ .ref a :: rest)) rfl (by rw [hml]; exact hsz) (Steps.refl _) (argsL := argsL) (rest := rest) (lenOf hpd hln) rfl (by show 2 * 0 + _ ≤ _; omega) hd (fun _ _ => ⟨rfl, eT, hc, hs⟩)
  dsimp only [Pt.U, Pt.locs, Pt.cells, Pt.slots] at X' l' y' z' st' hq A' hS' hgr
  subst l' y' z'
  have hS2 : s.Since T'.vm T'.heap.size := hS.trans hS' (by rw [← eT]; exact hgr)
  exact Aim.of (fun t kt => st'.trans kt) (cont T' _ v Lc' ⟨_, T'.vm, X', rfl, N.app N', hS2, State.Warmed39.trans (t := s.setVm vm0) hZ hS'.1, A'⟩ rel hq)
end Base
end Jvm.OwnW
namespace Jvm.OwnW
open Sem ClassFile Op Lib Jvm.Stand Jvm.Free Jvm.LawKit Jvm.RoadKit Jvm.OwnS
section LitW
theorem Exa.alike {Z U : State} {h : Heap} {a : Addr} {C : String} (hal : Z.vm.Alike U.vm) (F : Exa Z h a C) : Exa U h a C := by
  obtain ⟨cell, k, h1, h2, h3, h4, h5⟩ := F
  obtain ⟨k', q1, q2⟩ := hal.2.2 _ _ h3
  exact ⟨cell, k', h1, by rw [hal.findClass]; exact h2, q1, h4, fun ho => by rw [q2] at ho ⊢; exact h5 ho⟩
theorem Fld.alike {Z U : State} {h : Heap} {a : Addr} {C f d : String} {v : Value} (hal : Z.vm.Alike U.vm) (F : Fld Z h a C f d v) : Fld U h a C f d v := by
  obtain ⟨cell, cf, k, i, fd, h1, h2, h3, h4, h5, h6, h7⟩ := F
  obtain ⟨k', q1, -⟩ := State.fieldFound?_setVm (s := Z) hal h2
  exact ⟨cell, cf, k', i, fd, h1, q1, h3, h4, h5, by rw [hal.assignable]; exact h6, h7⟩
theorem Arv.alike {Z U : State} {h : Heap} {a : Addr} {kk : ClassId} {ty : FieldType} {z : Int32} {vs : List Value} {d : Value} (hal : Z.vm.Alike U.vm) (F : Arv Z h a kk ty z vs d) : Arv U h a kk ty z vs d := by
  obtain ⟨c, ⟨h1, h2, h3⟩, r⟩ := F
  exact ⟨c, ⟨h1, State.isArrayOf_alike hal h2, h3⟩, r⟩
theorem Str.alike {Z U : State} {h : Heap} {x t : Addr} {kb : ClassId} {cs : List Int32} (hal : Z.vm.Alike U.vm) (F : Str Z h x t kb cs) : Str U h x t kb cs :=
  ⟨Exa.alike hal F.1, Fld.alike hal F.2.1, Fld.alike hal F.2.2.1, Arv.alike hal F.2.2.2.1, F.2.2.2.2⟩
theorem byte_code : ∀ k : Fin 256, (Int32.ofNat k.val).toInt8.toInt32 = Jvm.Lit.byteI k.val.toUInt16 ∧ ¬ Int32.ofNat k.val < 0 ∧ ¬ (255 : Int32) < Int32.ofNat k.val := by decide +kernel
theorem ofNat_clamp {n : Nat} (h : n ≤ 4000) : (Int32.ofNat n).toNatClampNeg = n ∧ ¬ Int32.ofNat n < 0 := by
  have e : (Int32.ofNat n).toInt = n := Int32.toInt_ofNat_of_lt (by omega)
  have z : (0 : Int32).toInt = 0 := by decide
  refine ⟨?_, fun q => ?_⟩
  · show (Int32.ofNat n).toInt.toNat = n
    rw [e]; rfl
  · rw [Int32.lt_iff_toInt_lt, e, z] at q; omega
/-- what the library's bundle says of a String, in this walk's words -/
theorem strOf {W : State} {lo hi : Nat} {a : Addr} {units : Array UInt16} {text : String} (H : SlIn lo hi W a units) (htext : utf16ToString? units = some text) (ht : ∀ c ∈ text.toList, c.toNat < 256) (h4 : text.toList.length ≤ 4000) :
    ∃ b kk, Str W W.heap a b kk (cod text) ∧ ((a < lo ∧ b < lo) ∨ (hi ≤ a ∧ hi ≤ b)) := by
  obtain ⟨q, cS, rfl, ⟨L1, hfS, hcS⟩, ⟨kS, k1, k2, k3⟩, hB, hby, hin⟩ := H
  obtain ⟨g1, g2, g3, ⟨cv, kv, iv, f1, f2⟩, ⟨cc, kc, ic, f3, f4⟩, g6, g7, g8, g9, g10, g11, g12, -⟩ := L1
  have hu := Jvm.ClassFile.units_of_text htext ht
  have hlat := Jvm.ClassFile.lat_of_text htext ht
  have hlen : units.size = text.toList.length := by rw [← Array.length_toList, hu, List.length_map]
  have hsl : q.SA.slots = units.map fun u => Value.int (Jvm.Lit.byteI u) := by rw [hby, Jvm.Free.SBG.stringBytes_lat hlat]; rfl
  have hvs : (cod text).map (fun c => Value.int (c.toInt8.toInt32)) = (units.map fun u => Value.int (Jvm.Lit.byteI u)).toList := by
    rw [Array.toList_map, hu]
    simp only [cod, List.map_map]
    refine List.map_congr_left fun c hc => ?_
    have := (byte_code ⟨c.toNat, ht c hc⟩).1
    simp only [Function.comp_apply]
    rw [this]
  have hcl : (cod text).length = text.toList.length := by simp [cod]
  refine ⟨q.sd, q.SA.cls, ⟨⟨q.sC, kS, g1, by rw [hcS]; exact hfS, by rw [hcS]; exact k1, g3, fun _ => k3⟩, ⟨q.sC, cv, kv, iv, q.fSV, g1, f1, g6, g2, g3, f2, g8⟩, ⟨q.sC, cc, kc, ic, q.fSC, g1, f3, g7, g2, g3, f4, g9⟩, ⟨q.SA, ⟨g10, g11, g12⟩, rfl, ?_, ?_, ?_, ?_⟩, ?_, by rw [hcl]; exact h4⟩, hin⟩
  · rw [hcl, (ofNat_clamp h4).1, hsl, Array.size_map, hlen]
  · rw [hcl]; exact (ofNat_clamp h4).2
  · intro j hj
    rw [hvs, hsl]
    rw [hsl] at hj
    rw [List.getD_eq_getElem?_getD, Array.getElem?_toList, Array.getElem?_eq_getElem hj]
    rfl
  · intro j hj
    rw [hvs]
    rw [hsl] at hj
    rw [List.getD_eq_getElem?_getD, Array.getElem?_toList, Array.getElem?_eq_getElem hj]
    simp only [Option.getD_some, Array.getElem_map]
    exact Jvm.Free.SBG.fits_of_int8 _
  · intro c hc
    simp only [cod, List.mem_map] at hc
    obtain ⟨d, hd, rfl⟩ := hc
    exact (byte_code ⟨d.toNat, ht d hd⟩).2
variable {p : Program} {l : Launch} {e : Env} {R : Room} {s : State} {m : MethodId} {args : Array Value} {below : List Frame} {meth : Method} {c : Code} {T : State} {h : Heap} {n0 k n : Nat} {Z : State} {a0 : Array Value} {LC : List (String × Nat × String) × (Array (Array UInt16 × Addr) → Prop)} {Lc : List Addr}
/-- an entry of a String constant that was open at Z and is resolved since: the intern table finds it -/
theorem resolved_found {vm : Vm} {text : String} {index : Nat} {cl : ClassId} {k k' : Class} {cf : ClassFile} {i : Nat} {units : Array UInt16} {a : Addr} (hW : Z.Warmed39 vm) (hk : Z.vm.classes[cl]? = some k) (hcf : k.cf = some cf) (hc : cf.constantPool[index]? = some (.string i)) (hu : cf.constantPool[i]? = some (.utf8 units)) (hnm : namesOf? cf.constantPool index = some (.string text))
    (ho : k.resolved[index]? = some none) (hk' : vm.classes[cl]? = some k') (hr : k'.resolved[index]? = some (some (.string a))) : vm.interned.find? (fun q => q.1 == units) = some (units, a) := by
  obtain ⟨k2, q1, -, -, ee, -⟩ := hW.2.2.2 _ k hk
  cases hk'.symm.trans q1
  rcases ee index with e0 | ⟨-, r, e1, hr' | ⟨a', t, si, us, e2, -, e3, e4, e5⟩⟩
  · rw [e0, ho] at hr; cases hr
  · exfalso
    cases r <;> simp [State.rightAt, hk, hcf, hnm] at hr'
  · subst e2
    rw [hr] at e1
    cases e1
    rw [hcf] at e3 e4
    have i1 : si = i := by simpa using e3.symm.trans hc
    subst i1
    have i2 : us = units := by simpa [ConstantPool.utf8?, hu] using e4.symm
    subst i2
    exact e5
/-- .. and nobody but a load resolves it -/
theorem stays_open {vm : Vm} {text : String} {index : Nat} {cl : ClassId} {k k' : Class} {cf : ClassFile} (hW : s.WarmedH vm) (hk : s.vm.classes[cl]? = some k) (hcf : k.cf = some cf) (hnm : namesOf? cf.constantPool index = some (.string text)) (ho : k.resolved[index]? = some none) (hk' : vm.classes[cl]? = some k') : k'.resolved[index]? = some none := by
  obtain ⟨k2, q1, -, -, ee, -⟩ := hW.2.2 _ k hk
  cases hk'.symm.trans q1
  rcases ee index with e0 | ⟨-, r, -, hr'⟩
  · rw [e0]; exact ho
  · exfalso
    cases r <;> simp [State.rightAt, hk, hcf, hnm] at hr'
/-- a load of an open entry whose text the intern table has: that String; the entry is booked; nothing else moves -/
theorem ldcFound {locs : List Loc} (X : Stand p l e R s m args below meth c T locs k n) (hx : p.tables.exec = Jvm.exec) {text : String} {index pc : Nat} {Ls : Array Slot} {st : List Value} {kc : Class} {cf : ClassFile} {i : Nat} {units : Array UInt16} {a : Addr}
    (hk : s.vm.classes[m.cls]? = some kc) (hcf : kc.cf = some cf) (hc : cf.constantPool[index]? = some (.string i)) (hu : cf.constantPool[i]? = some (.utf8 units)) (hnm : namesOf? cf.constantPool index = some (.string text)) (ho : kc.resolved[index]? = some none)
    (hf : s.vm.interned.find? (fun q => q.1 == units) = some (units, a)) (hd : decode c.code pc = .ok (.ldc index, 2)) :
    ∃ T', Stand p l e R (s.setVm T'.vm) m args below meth c T' locs k n ∧ T'.heap = T.heap ∧ s.Since T'.vm T.heap.size ∧ T'.vm.interned = s.vm.interned ∧ ∀ t, Steps p.tables e below (T'.setTop (mkF m (pc + 2) Ls (.ref a :: st))) t → Steps p.tables e below (T.setTop (mkF m pc Ls st)) t := by
  obtain ⟨k', hk', he⟩ := X.warmed.alike.2.2 _ _ hk
  have hcf' : k'.cf = some cf := by rw [he]; exact hcf
  have ho' : k'.resolved[index]? = some none := stays_open X.warmed hk hcf hnm ho hk'
  have hf' : T.vm.interned.find? (fun q => q.1 == units) = some (units, a) := by rw [X.warmed.interned_eq]; exact hf
  have hW : s.Warmed39 (T.vm.noted m.cls index (.string a)) := X.warmed.wide.notedString hk (Or.inl ho) (text := text) (by rw [hcf]; exact hnm) (si := i) (by rw [hcf]; exact hc) (by rw [hcf]; simp [ConstantPool.utf8?, hu]) hf'
  refine ⟨T.setVm (T.vm.noted m.cls index (.string a)), X.retabled hW, rfl, ⟨hW, X.warmed.no_new_pair _⟩, X.warmed.interned_eq, fun t kt => ?_⟩
  jvm_step X.here [hx, hd, ldc.wp_string_found (e := e) (s := T) (f := mkF m pc Ls st) X.here.top hk' hcf' hc hu ho' hf']
  exact kt
/-- the constant c of the case's start: where its entry is resolved there, to such a String -/
def LitZ (Z : State) (c : String × Nat × String) : Prop := ∀ a, Lit Z c.1 c.2.1 a → ∃ b kk, Str Z Z.heap a b kk (cod c.2.2)
theorem lit_open {own : String} {index : Nat} {cl : ClassId} {k : Class} (hf : Z.vm.findClass own = some cl) (hk : Z.vm.classes[cl]? = some k) : (k.resolved[index]? = some none → Z.resolvedAt? own index = none) ∧ ∀ a, k.resolved[index]? = some (some (.string a)) → Lit Z own index a := by
  refine ⟨fun q => ?_, fun a q => ?_⟩
  · simp [State.resolvedAt?, hf, hk, q]
  · simp [Lit, State.resolvedAt?, hf, hk, q]
variable {CC SS : Nat} {Q : Option Value → Heap → Array (Array UInt16 × Addr) → Prop}
/-- the intern table has the constant's text, if its entry was open at the case's start -/
def Fnd (Z : State) (own : String) (index : Nat) (text : String) (it : Array (Array UInt16 × Addr)) : Prop := Z.resolvedAt? own index = none → ∀ units : Array UInt16, utf16ToString? units = some text → ∃ a, it.find? (fun q => q.1 == units) = some (units, a)
theorem On.weakTo {F : Array (Array UInt16 × Addr) → Prop} (P : On p l e R s m args below meth c Z (LC.1, F) n0 T h k n Lc) (q : ∀ it, F it → LC.2 it) : On p l e R s m args below meth c Z LC n0 T h k n Lc := by
  obtain ⟨L, vm0, X, eT, N, hS, hZ, A1, A2, A3⟩ := P
  exact ⟨L, vm0, X, eT, N, hS, hZ, A1, A2, q _ A3⟩
theorem units_eq {u v : Array UInt16} {text : String} (h1 : utf16ToString? u = some text) (h2 : utf16ToString? v = some text) (ht : ∀ c ∈ text.toList, c.toNat < 256) : u = v := by
  apply Array.ext'
  rw [Jvm.ClassFile.units_of_text h1 ht, Jvm.ClassFile.units_of_text h2 ht]
/-- 'ldc' of a String constant: resolved already, booked by somebody, or made now -/
theorem Aim.ldcK {own text : String} {index pc : Nat} {Ls : Array Slot} {st : List Value} (P : On p l e R s m args below meth c Z LC n0 T h k n Lc) (hx : p.tables.exec = Jvm.exec) (hZs : Z.Warmed39 s.vm) (hown : s.vm.findClass own = some m.cls) (w : (Cond.stringLink own index text).before a0 Z = true) (wS : ∀ a ∈ Bundle.stringAtoms, a.before a0 Z = true) (hm : (own, index, text) ∈ LC.1)
    (ht : ∀ c ∈ text.toList, c.toNat < 256) (h4 : text.toList.length ≤ 4000) (G : LitZ Z (own, index, text)) (O : Old Z n0 h) (hold : ∀ (b : Addr) (cl : Cell), s.heap[b]? = some cl → h[b]? = some cl) (hd : decode c.code pc = .ok (.ldc index, 2)) {cap : Nat} (hcap : 4 * text.toList.length ≤ cap) (hbig : cap ≤ 536870912) (hc : k + 2 ≤ R.cells) (hs : n + (cap + 4) ≤ R.slots)
    (cont : ∀ T' h' a b kk Lc', On p l e R s m args below meth c Z (LC.1, Fnd Z own index text) n0 T' h' (k + 2) (n + (cap + 4)) Lc' → Keep h h' [] → Grow Lc Lc' h.size → Str Z h' a b kk (cod text) → (a < n0 ∨ a ∈ Lc') → (b < n0 ∨ b ∈ Lc') → Aim p e below s CC SS n0 Q T' (mkF m (pc + 2) Ls (.ref a :: st))) :
    Aim p e below s CC SS n0 Q T (mkF m pc Ls st) := by
  obtain ⟨L, vm0, X, eT, N, hS, hZ, A⟩ := P
  have hown' := ownAt hS hown
  have hownZ : Z.vm.findClass own = some m.cls := by rw [← hZ.alike.findClass]; exact hown'
  obtain ⟨kz, cf, i, units, hkz, hcf, hcp, hu, hnm, hdec, hres⟩ := Cond.stringLink_spec hownZ w
  rcases hres with hopen | ⟨a, hra⟩
  · have hoZ := (lit_open hownZ hkz).1 hopen
    have w' : (Cond.stringLink own index text).before args (s.setVm vm0) = true := mvS hZ w
    obtain ⟨kb, cf', i', units', hkb, hcf', hcp', hu', hnm', hdec', hres'⟩ := Cond.stringLink_spec (s := s.setVm vm0) hown' w'
    obtain ⟨kz', hkz', ekz⟩ := hZ.alike.2.2 _ _ hkz
    have ek : kz' = kb := Option.some.inj (hkz'.symm.trans hkb)
    have ecf : cf' = cf := by rw [← ek, ekz] at hcf'; exact Option.some.inj (hcf'.symm.trans hcf)
    subst ecf
    have ei : i' = i := by simpa using hcp'.symm.trans hcp
    subst ei
    have eu : units' = units := by simpa using hu'.symm.trans hu
    subst eu
    rcases hres' with ho | ⟨a, hra⟩
    · cases hf : vm0.interned.find? (fun q => q.1 == units') with
      | some pr =>
        obtain ⟨u, a⟩ := pr
        have e1 : u = units' := by simpa using Array.find?_some hf
        subst e1
        obtain ⟨b, kk, F, ha, hb⟩ := A.2.1 _ hm hoZ _ a hdec hf
        obtain ⟨T', X', e', hS', ei, st'⟩ := ldcFound (s := s.setVm vm0) (T := T) X hx (Ls := Ls) (st := st) hkb hcf' hcp hu hnm' ho hf hd
        refine Aim.of st' (cont T' h a b kk Lc ⟨L, T'.vm, X'.more (by omega) (by omega), e'.trans eT, N, hS.trans (by rw [eT] at hS'; exact hS') (Nat.le_refl _), State.Warmed39.trans (t := s.setVm vm0) hZ hS'.1, ?_⟩ (Keep.refl h []) (Grow.refl _ _) F (Or.inr ha) (Or.inr hb))
        rw [ei]; exact ⟨A.1, A.2.1, fun _ v hv => ⟨a, units_eq hdec hv ht ▸ hf⟩⟩
      | none =>
        have hH : ConstHeldL (s.setVm vm0) own index := by
          intro c1 k1 cf1 i1 u1 a1 q1 q2 q3 q4 q5 q6
          cases hown'.symm.trans q1
          cases hkb.symm.trans q2
          cases hcf'.symm.trans q3
          have j1 : i1 = i' := by simpa using q4.symm.trans hcp
          subst j1
          have j2 : u1 = units' := by simpa using q5.symm.trans hu
          subst j2
          rcases q6 with q6 | ⟨-, q6⟩
          · rw [ho] at q6; cases q6
          · rw [show (s.setVm vm0).vm.interned = vm0.interned from rfl, hf] at q6; cases q6
        have hAt : ∀ a ∈ Bundle.stringAtoms, a.before args (s.setVm vm0) = true := fun d hd => by
          have q := wS d hd
          simp only [Bundle.stringAtoms, List.mem_cons, List.not_mem_nil, or_false] at hd
          rcases hd with rfl | rfl | rfl | rfl | rfl | rfl | rfl
          · exact mv (s := s.setVm vm0) hZ q
          · exact mv (s := s.setVm vm0) hZ q
          · exact mvA (s := s.setVm vm0) hZ q
          · exact mv (s := s.setVm vm0) hZ q
          · exact mv (s := s.setVm vm0) hZ q
          · exact mv (s := s.setVm vm0) hZ q
          · exact mv (s := s.setVm vm0) hZ q
        obtain ⟨a, T', X', hS', ⟨k2, hk2, hr2⟩, hb, -, hint, ⟨u2, hd2, hin⟩, st'⟩ := X.ldcColdF (fun b cl q => by rw [eT]; exact hold b cl q) hx hown' w' hAt hH (fun u q => Jvm.ClassFile.lat_of_text q ht) (g := mkF m pc Ls st) rfl hd hcap hbig hc hs
        have hW' : Z.Warmed39 T'.vm := State.Warmed39.trans (t := s.setVm vm0) hZ hS'.1
        obtain ⟨b, kk, F0, hpos⟩ := strOf hin hd2 ht h4
        have F : Str Z T'.heap a b kk (cod text) := Str.alike hW'.alike.symm F0
        have hfa : T'.vm.interned.find? (fun q => q.1 == units') = some (units', a) := resolved_found (Z := s.setVm vm0) (vm := T'.vm) hS'.1 hkb hcf' hcp hu hnm' ho hk2 hr2
        have hE : Ext h T'.heap := by subst eT; exact ext_of hb
        have hK : Keep h T'.heap [] := (Keep.refl h []).ext hE
        have hTi : T.vm.interned = vm0.interned := X.warmed.interned_eq
        have hnew : h.size ≤ a ∧ h.size ≤ b := by
          have hlo : s.heap.size ≤ h.size := by have := X.same.2.1; rw [← eT]; exact this
          rcases hpos with ⟨q1, q2⟩ | ⟨q1, q2⟩
          · exfalso
            rcases hint with q | ⟨u3, a3, -, q⟩
            · rw [q, hTi, hf] at hfa; cases hfa
            · obtain ⟨-, hB⟩ := hS'
              have hsz : T'.vm.interned[vm0.interned.size]? = some (u3, a3) := by rw [q, hTi]; simp
              have := hB vm0.interned.size (u3, a3) (Nat.le_refl _) hsz
              rw [q, hTi, Array.find?_push, hf] at hfa
              simp only [Option.none_or] at hfa
              split at hfa
              · cases hfa
                exact absurd this.1 (Nat.not_le_of_lt q1)
              · cases hfa
          · subst eT; exact ⟨q1, q2⟩
        refine Aim.of st' (cont T' _ a b kk (a :: b :: Lc) ⟨L, T'.vm, X', rfl, N, hS.trans hS' hE.1, hW', ?_, ?_, fun _ v hv => ⟨a, units_eq hdec hv ht ▸ hfa⟩⟩ hK ?_ F (Or.inr (List.mem_cons_self ..)) (Or.inr (List.mem_cons_of_mem _ (List.mem_cons_self ..))))
        · intro x hx
          rcases List.mem_cons.mp hx with rfl | hx
          · exact F.lt
          · rcases List.mem_cons.mp hx with rfl | hx
            · exact F.ltb
            · exact Nat.lt_of_lt_of_le (A.1 x hx) hE.1
        · intro c1 hc1 ho1 u1 a1 hu1 hf1
          have old' : vm0.interned.find? (fun q => q.1 == u1) = some (u1, a1) → ∃ b2 kk, Str Z T'.heap a1 b2 kk (cod c1.2.2) ∧ a1 ∈ a :: b :: Lc ∧ b2 ∈ a :: b :: Lc := fun q => by
            obtain ⟨b1, kk1, F1, m1, m2⟩ := A.2.1 c1 hc1 ho1 u1 a1 hu1 q
            exact ⟨b1, kk1, F1.keep hK nin0 nin0, List.mem_cons_of_mem _ (List.mem_cons_of_mem _ m1), List.mem_cons_of_mem _ (List.mem_cons_of_mem _ m2)⟩
          rcases hint with q | ⟨u3, a3, hu3, q⟩
          · rw [q, hTi] at hf1
            exact old' hf1
          · by_cases he : u3 = u1
            · subst he
              have et : c1.2.2 = text := Option.some.inj (hu1.symm.trans hu3)
              have e5 : u3 = units' := by
                apply Array.ext'
                rw [Jvm.ClassFile.units_of_text hu3 ht, Jvm.ClassFile.units_of_text hdec ht]
              subst e5
              have ea : a1 = a := by have := hf1.symm.trans hfa; simpa using this
              subst ea
              exact ⟨b, kk, et ▸ F, List.mem_cons_self .., List.mem_cons_of_mem _ (List.mem_cons_self ..)⟩
            · rw [q, hTi, Array.find?_push] at hf1
              cases hq : vm0.interned.find? (fun q => q.1 == u1) with
              | none => rw [hq] at hf1; simp [he] at hf1
              | some pr => rw [hq] at hf1; simp at hf1; subst hf1; exact old' hq
        · refine ⟨fun x hx => ?_, fun x hx => List.mem_cons_of_mem _ (List.mem_cons_of_mem _ hx)⟩
          rcases List.mem_cons.mp hx with rfl | hx
          · exact Or.inr hnew.1
          · rcases List.mem_cons.mp hx with rfl | hx
            · exact Or.inr hnew.2
            · exact Or.inl hx
    · have hf := resolved_found hZ hkz hcf hcp hu hnm hopen hkb hra
      obtain ⟨b, kk, F, ha, hb⟩ := A.2.1 _ hm hoZ _ a hdec hf
      have hL : Lit (s.setVm vm0) own index a := (lit_open (Z := s.setVm vm0) hown' hkb).2 a hra
      exact Aim.of (fun t kt => ldcAgain X hx hZ hown' w hL (g := mkF m pc Ls st) rfl hd t kt) (cont T h a b kk Lc ⟨L, vm0, X.more (by omega) (by omega), eT, N, hS, hZ, A.1, A.2.1, fun _ v hv => ⟨a, units_eq hdec hv ht ▸ hf⟩⟩ (Keep.refl h []) (Grow.refl _ _) F (Or.inr ha) (Or.inr hb))
  · have hL : Lit Z own index a := (lit_open hownZ hkz).2 a hra
    obtain ⟨b, kk, F⟩ := G a hL
    have hK : Keep Z.heap h [] := (Keep.refl _ []).ext O.2
    have hn : Z.heap.size = n0 := O.1
    exact Aim.of (fun t kt => ldcR (s := s.setVm vm0) X hx hZ hown' (refOfLit w hL) hL (g := mkF m pc Ls st) rfl hd t kt) (cont T h a b kk Lc ⟨L, vm0, X.more (by omega) (by omega), eT, N, hS, hZ, A.1, A.2.1, fun q => by rw [show Z.resolvedAt? own index = some (.string a) from hL] at q; cases q⟩ (Keep.refl h []) (Grow.refl _ _) (F.keep hK nin0 nin0) (Or.inl (hn ▸ F.lt)) (Or.inl (hn ▸ F.ltb)))
theorem Aim.ldcL {own text : String} {index pc : Nat} {Ls : Array Slot} {st : List Value} (P : On p l e R s m args below meth c Z LC n0 T h k n Lc) (hx : p.tables.exec = Jvm.exec) (hZs : Z.Warmed39 s.vm) (hown : s.vm.findClass own = some m.cls) (w : (Cond.stringLink own index text).before a0 Z = true) (wS : ∀ a ∈ Bundle.stringAtoms, a.before a0 Z = true) (hm : (own, index, text) ∈ LC.1)
    (ht : ∀ c ∈ text.toList, c.toNat < 256) (h4 : text.toList.length ≤ 4000) (G : LitZ Z (own, index, text)) (O : Old Z n0 h) (hold : ∀ (b : Addr) (cl : Cell), s.heap[b]? = some cl → h[b]? = some cl) (hd : decode c.code pc = .ok (.ldc index, 2)) (hT : ∀ it, LC.2 it) {cap : Nat} (hcap : 4 * text.toList.length ≤ cap) (hbig : cap ≤ 536870912) (hc : k + 2 ≤ R.cells) (hs : n + (cap + 4) ≤ R.slots)
    (cont : ∀ T' h' a b kk Lc', On p l e R s m args below meth c Z LC n0 T' h' (k + 2) (n + (cap + 4)) Lc' → Keep h h' [] → Grow Lc Lc' h.size → Str Z h' a b kk (cod text) → (a < n0 ∨ a ∈ Lc') → (b < n0 ∨ b ∈ Lc') → Aim p e below s CC SS n0 Q T' (mkF m (pc + 2) Ls (.ref a :: st))) :
    Aim p e below s CC SS n0 Q T (mkF m pc Ls st) :=
  Aim.ldcK P hx hZs hown w wS hm ht h4 G O hold hd hcap hbig hc hs fun T' h' a b kk Lc' P' => cont T' h' a b kk Lc' (P'.weakTo fun it _ => hT it)
/-- a second 'ldc' of it -/
theorem Aim.ldcQ {own text : String} {index pc : Nat} {Ls : Array Slot} {st : List Value} (P : On p l e R s m args below meth c Z (LC.1, Fnd Z own index text) n0 T h k n Lc) (hx : p.tables.exec = Jvm.exec) (hown : s.vm.findClass own = some m.cls) (w : (Cond.stringLink own index text).before a0 Z = true) (hm : (own, index, text) ∈ LC.1)
    (ht : ∀ c ∈ text.toList, c.toNat < 256) (F0 : ∀ a, Lit Z own index a → ∃ b kk, Str Z h a b kk (cod text) ∧ a < n0 ∧ b < n0) (hd : decode c.code pc = .ok (.ldc index, 2))
    (cont : ∀ T' a b kk, On p l e R s m args below meth c Z (LC.1, Fnd Z own index text) n0 T' h k n Lc → Str Z h a b kk (cod text) → (a < n0 ∨ a ∈ Lc) → (b < n0 ∨ b ∈ Lc) → Aim p e below s CC SS n0 Q T' (mkF m (pc + 2) Ls (.ref a :: st))) :
    Aim p e below s CC SS n0 Q T (mkF m pc Ls st) := by
  have P' := P
  obtain ⟨L, vm0, X, eT, N, hS, hZ, A⟩ := P
  have hown' := ownAt hS hown
  have hownZ : Z.vm.findClass own = some m.cls := by rw [← hZ.alike.findClass]; exact hown'
  obtain ⟨kz, cf, i, units, hkz, hcf, hcp, hu, hnm, hdec, hres⟩ := Cond.stringLink_spec hownZ w
  rcases hres with hopen | ⟨a, hra⟩
  · have hoZ := (lit_open hownZ hkz).1 hopen
    have w' : (Cond.stringLink own index text).before args (s.setVm vm0) = true := mvS hZ w
    obtain ⟨kb, cf', i', units', hkb, hcf', hcp', hu', hnm', hdec', hres'⟩ := Cond.stringLink_spec (s := s.setVm vm0) hown' w'
    obtain ⟨a, hf⟩ := A.2.2 hoZ units' hdec'
    obtain ⟨b, kk, F, ha, hb⟩ := A.2.1 _ hm hoZ _ a hdec' hf
    rcases hres' with ho | ⟨a2, hra⟩
    · obtain ⟨T', X', e', hS', ei, st'⟩ := ldcFound (s := s.setVm vm0) (T := T) X hx (Ls := Ls) (st := st) hkb hcf' hcp' hu' hnm' ho hf hd
      refine Aim.of st' (cont T' a b kk ⟨L, T'.vm, X', e'.trans eT, N, hS.trans (by rw [eT] at hS'; exact hS') (Nat.le_refl _), State.Warmed39.trans (t := s.setVm vm0) hZ hS'.1, ?_⟩ F (Or.inr ha) (Or.inr hb))
      rw [ei]; exact A
    · obtain ⟨kz', hkz', ekz⟩ := hZ.alike.2.2 _ _ hkz
      have ek : kz' = kb := Option.some.inj (hkz'.symm.trans hkb)
      have ecf : cf' = cf := by rw [← ek, ekz] at hcf'; exact Option.some.inj (hcf'.symm.trans hcf)
      subst ecf
      have ei : i' = i := by simpa using hcp'.symm.trans hcp
      subst ei
      have eu : units' = units := by simpa using hu'.symm.trans hu
      subst eu
      have hf2 := resolved_found hZ hkz hcf hcp hu hnm hopen hkb hra
      have ea : a2 = a := by have := hf2.symm.trans hf; simpa using this
      subst ea
      have hL : Lit (s.setVm vm0) own index a2 := (lit_open (Z := s.setVm vm0) hown' hkb).2 a2 hra
      exact Aim.of (fun t kt => ldcAgain X hx hZ hown' w hL (g := mkF m pc Ls st) rfl hd t kt) (cont T a2 b kk P' F (Or.inr ha) (Or.inr hb))
  · have hL : Lit Z own index a := (lit_open hownZ hkz).2 a hra
    obtain ⟨b, kk, F, h1, h2⟩ := F0 a hL
    exact Aim.of (fun t kt => ldcR (s := s.setVm vm0) X hx hZ hown' (refOfLit w hL) hL (g := mkF m pc Ls st) rfl hd t kt) (cont T a b kk P' F (Or.inl h1) (Or.inl h2))
theorem lit_again {c : String × Nat × String} {h0 : Heap} {ws : List Addr} (G : LitZ Z c) (O : Old Z n0 h0) (K : Keep h0 h ws) (hg : ∀ x ∈ ws, n0 ≤ x) : ∀ a, Lit Z c.1 c.2.1 a → ∃ b kk, Str Z h a b kk (cod c.2.2) ∧ a < n0 ∧ b < n0 := by
  intro a hL
  obtain ⟨b, kk, F⟩ := G a hL
  have hn : Z.heap.size = n0 := O.1
  have ha : a < n0 := hn ▸ F.lt
  have hb : b < n0 := hn ▸ F.ltb
  have F1 := F.keep ((Keep.refl _ []).ext O.2) nin0 nin0
  exact ⟨b, kk, F1.keep K (fun q => Nat.lt_irrefl _ (Nat.lt_of_lt_of_le ha (hg a q))) (fun q => Nat.lt_irrefl _ (Nat.lt_of_lt_of_le hb (hg b q))), ha, hb⟩
/-- what the sheet says of a String constant at the case's start -/
def LitW (Z : State) (a0 : Array Value) (c : String × Nat × String) : Prop := (Cond.stringLink c.1 c.2.1 c.2.2).before a0 Z = true ∧ (∀ d ∈ c.2.2.toList, d.toNat < 256) ∧ c.2.2.toList.length ≤ 4000 ∧ ConstHeldL Z c.1 c.2.1 ∧ ∃ cl, Z.vm.findClass c.1 = some cl
theorem own_found {own text : String} {index : Nat} (w : (Cond.stringLink own index text).before a0 Z = true) : ∃ cl, Z.vm.findClass own = some cl := by
  cases hq : Z.vm.findClass own with
  | some c => exact ⟨c, rfl⟩
  | none => simp [Cond.before, Cond.holds, Cond.value, hq] at w
theorem litz_start {c : String × Nat × String} (H : LitW Z a0 c) : LitZ Z c := by
  intro a hL
  obtain ⟨w, ht, h4, hH, cl, hcl⟩ := H
  obtain ⟨k, cf, i, units, hk, hcf, hp, hu, -, hdec, hres⟩ := Cond.stringLink_spec hcl w
  have hr : k.resolved[c.2.1]? = some (some (.string a)) := by
    rcases hres with q | ⟨a', q⟩
    · exfalso
      have := (lit_open (Z := Z) hcl hk).1 q
      rw [Lit, this] at hL; cases hL
    · have := (lit_open (Z := Z) hcl hk).2 a' q
      rw [Lit] at hL this
      rw [hL] at this
      cases this; exact q
  obtain ⟨b, kk, F, -⟩ := strOf ((hH cl k cf i units a hcl hk hcf hp hu (Or.inl hr)).movedIn Z.heap.size (Vm.Alike.refl _) (fun _ _ q => q)) hdec ht h4
  exact ⟨b, kk, F⟩
theorem ha_start (hT : ∀ it, LC.2 it) (H : ∀ c ∈ LC.1, LitW Z a0 c) : HA Z LC Z.vm.interned Z.heap (List.range Z.heap.size) := by
  refine ⟨fun x hx => List.mem_range.mp hx, fun c hc ho units a hu hf => ?_, hT _⟩
  obtain ⟨w, ht, h4, hH, cl, hcl⟩ := H c hc
  obtain ⟨k, cf, i, units', hk, hcf, hp, hu', -, hdec, hres⟩ := Cond.stringLink_spec hcl w
  have e5 : units' = units := by
    apply Array.ext'
    rw [Jvm.ClassFile.units_of_text hu ht, Jvm.ClassFile.units_of_text hdec ht]
  subst e5
  have hr : k.resolved[c.2.1]? = some none := by
    rcases hres with q | ⟨a', q⟩
    · exact q
    · have := (lit_open (Z := Z) hcl hk).2 a' q
      rw [Lit, ho] at this; cases this
  obtain ⟨b, kk, F, -⟩ := strOf ((hH cl k cf i units' a hcl hk hcf hp hu' (Or.inr ⟨hr, hf⟩)).movedIn Z.heap.size (Vm.Alike.refl _) (fun _ _ q => q)) hdec ht h4
  exact ⟨b, kk, F, List.mem_range.mpr F.lt, List.mem_range.mpr F.ltb⟩
end LitW
end Jvm.OwnW
/- laws to paste: Road.backV (cut by pick.py; bodies as the Statement names them) -/
namespace Jvm.Pilot.@@N@@
namespace StrChars
open Jvm Sem ClassFile Op Lib Jvm.Stand Jvm.Free.XT Jvm.Free.ALB Jvm.Free.JM Jvm.Free
open Jvm.Lib.Cold (StaticIs)
/-- a char array whose places are chars -/
def Ch (a : Addr) (A : Cell) (U : State) : Prop := Arr .char a A U ∧ Typed .char A
theorem Ch.mv {a : Addr} {A : Cell} {U U' : State} (h : Ch a A U) (hal : U.vm.Alike U'.vm) (hh : U'.heap = U.heap) : Ch a A U' := ⟨h.1.mv hal hh, h.2⟩
theorem Ch.keep {a : Addr} {A : Cell} {U U' : State} (h : Ch a A U) (hal : U.vm.Alike U'.vm) (hk : U'.heap[a]? = some A) : Ch a A U' := ⟨h.1.keep hal hk, h.2⟩
/-- what place i of a char[]'s cell holds -/
def cv (A : Cell) (i : Nat) : Int32 := match A.slots[i]? with | some (.int x) => x | _ => 0
theorem Ch.get {a : Addr} {A : Cell} {U : State} (h : Ch a A U) {i : Nat} (hi : i < A.slots.size) : A.slots[i]? = some (.int (cv A i)) := by
  have e := Array.getElem?_eq_getElem hi
  have f := h.2 i _ e
  unfold cv; rw [e]
  generalize A.slots[i] = v at f
  cases v <;> simp [fits] at f ⊢
/-- the byte that i2b leaves of a char -/
def lo8 (x : Int32) : Int32 := x.toInt8.toInt32
theorem fits_lo8 (y : Int32) : fits .byte (.int (lo8 y)) = true := by
  have h1 := y.toInt8.le_toInt
  have h2 := y.toInt8.toInt_lt
  simp only [lo8, fits, Bool.and_eq_true, decide_eq_true_eq, Int32.le_iff_toInt_le, Int8.toInt_toInt32, show (-128 : Int32).toInt = -128 from by decide, show (127 : Int32).toInt = 127 from by decide]
  omega
/-- A' is A but that each place j of lo .. hi - 1 holds f j -/
def Laid (A A' : Cell) (lo hi : Nat) (f : Nat → Value) : Prop := A'.cls = A.cls ∧ A'.vm = A.vm ∧ A'.slots.size = A.slots.size ∧ ∀ i, A'.slots[i]? = if lo ≤ i ∧ i < hi then some (f i) else A.slots[i]?
theorem Laid.zero (A : Cell) (lo : Nat) (f : Nat → Value) : Laid A A lo (lo + 0) f := ⟨rfl, rfl, rfl, fun i => by rw [if_neg (by omega)]⟩
theorem Laid.step {A Ak : Cell} {lo k : Nat} {f : Nat → Value} {v : Value} (h : Laid A Ak lo k f) (hlo : lo ≤ k) (hk : k < Ak.slots.size) (hv : v = f k) : Laid A (Ak.setSlot k v) lo (k + 1) f := by
  refine ⟨h.1, h.2.1, by simpa [Cell.setSlot] using h.2.2.1, fun i => ?_⟩
  by_cases e : k = i
  · subst e; rw [Cell.slots_setSlot_self v hk, if_pos (by omega), hv]
  · rw [Cell.slots_setSlot_ne v e, h.2.2.2 i]
    by_cases q : lo ≤ i ∧ i < k
    · rw [if_pos q, if_pos (by omega)]
    · rw [if_neg q, if_neg (by omega)]
def U16 : String := "java/lang/StringUTF16"
namespace Cmp5
def yN : MethodName := ⟨"java/lang/StringUTF16", "compress", "([CI[BII)I"⟩
abbrev yB : ByteArray := jdk_52_method_21_code
theorem d0 : decode yB 0 = .ok (.iconst 0, 1) := by decide +kernel
theorem d1 : decode yB 1 = .ok (.istore 5, 2) := by decide +kernel
theorem d3 : decode yB 3 = .ok (.iload 5, 2) := by decide +kernel
theorem d5 : decode yB 5 = .ok (.iload 4, 2) := by decide +kernel
theorem d7 : decode yB 7 = .ok (.if_icmp (.ge) 37, 3) := by decide +kernel
theorem d10 : decode yB 10 = .ok (.aload_n 0, 1) := by decide +kernel
theorem d11 : decode yB 11 = .ok (.iload_n 1, 1) := by decide +kernel
theorem d12 : decode yB 12 = .ok (.caload, 1) := by decide +kernel
theorem d13 : decode yB 13 = .ok (.istore 6, 2) := by decide +kernel
theorem d15 : decode yB 15 = .ok (.iload 6, 2) := by decide +kernel
theorem d17 : decode yB 17 = .ok (.sipush 255, 3) := by decide +kernel
theorem d20 : decode yB 20 = .ok (.if_icmp (.le) 6, 3) := by decide +kernel
theorem d26 : decode yB 26 = .ok (.aload_n 2, 1) := by decide +kernel
theorem d27 : decode yB 27 = .ok (.iload_n 3, 1) := by decide +kernel
theorem d28 : decode yB 28 = .ok (.iload 6, 2) := by decide +kernel
theorem d30 : decode yB 30 = .ok (.i2b, 1) := by decide +kernel
theorem d31 : decode yB 31 = .ok (.bastore, 1) := by decide +kernel
theorem d32 : decode yB 32 = .ok (.iinc 1 1, 3) := by decide +kernel
theorem d35 : decode yB 35 = .ok (.iinc 3 1, 3) := by decide +kernel
theorem d38 : decode yB 38 = .ok (.iinc 5 1, 3) := by decide +kernel
theorem d41 : decode yB 41 = .ok (.goto (-38), 3) := by decide +kernel
theorem d44 : decode yB 44 = .ok (.iload 4, 2) := by decide +kernel
theorem d46 : decode yB 46 = .ok (.ireturn, 1) := by decide +kernel
def site : List Cond := []
def tab : Cond := tabOf yN yB 7 (some .int) site
def P (b : Addr) (A : Cell) (d : Addr) (B : Cell) (o q len : Nat) (args : Array Value) (s : State) : Prop := args = #[.ref b, .int (Int32.ofNat o), .ref d, .int (Int32.ofNat q), .int (Int32.ofNat len)] ∧ Ch b A s ∧ Arr .byte d B s ∧ b ≠ d ∧ o + len ≤ A.slots.size ∧ q + len ≤ B.slots.size ∧ ∀ i, i < len → ¬ 255 < cv A (o + i)
def E (b : Addr) (A : Cell) (d : Addr) (B : Cell) (o q len : Nat) (r : Option Value) (s u : State) : Prop := r = some (.int (Int32.ofNat len)) ∧ ∃ B', Put d B' s u ∧ Laid B B' q (q + len) (fun j => Value.int (lo8 (cv A (o + (j - q)))))
/-- no char of the range above 255: len; the places written hold each char's low byte -/
theorem law (l : Launch) (b : Addr) (A : Cell) (d : Addr) (B : Cell) (o q len : Nat) : Law l yN 5 5 0 0 yB 7 (some .int) site (P b A d B o q len) (E b A d B o q len) (copyLocs d q len) 0 0 := by
  refine Law.of_walk (plainFor_of_name (by decide +kernel)) (by decide +kernel) (by decide +kernel) (by decide) (fun _ _ h => by rw [h.1]; rfl) (fun _ U U' hal hh h => ⟨h.1, h.2.1.mv hal hh, h.2.2.1.mv hal hh, h.2.2.2⟩) (fun r U U' V V' h1 hal h2 h => ⟨h.1, h.2.elim fun B' q => ⟨B', q.1.mv h1 h2, q.2⟩⟩) ?_
  intro p e s m args below meth c s₁ X0 hexec hbytes hml hret hlk hnm hown hh0 W hP
  obtain ⟨rfl, hA, hB, hne, l1, l2, hp⟩ := hP
  have c1 : Steps p.tables e below (s₁.setTop (entryFrame m #[.ref b, .int (Int32.ofNat o), .ref d, .int (Int32.ofNat q), .int (Int32.ofNat len)] 7)) (s₁.setTop (mkF m 0 #[.val (.ref b), .val (.int (Int32.ofNat o)), .val (.ref d), .val (.int (Int32.ofNat q)), .val (.int (Int32.ofNat len)), .unset, .unset] [])) := entry rfl
  have hA0 := hA.1.mv X0.warmed.alike hh0
  have hB0 := hB.mv X0.warmed.alike hh0
  have a31 := hA.1.2.2.2
  have c2 : Steps p.tables e below (s₁.setTop (entryFrame m #[.ref b, .int (Int32.ofNat o), .ref d, .int (Int32.ofNat q), .int (Int32.ofNat len)] 7)) (s₁.setTop (mkF m 3 #[.val (.ref b), .val (.int (Int32.ofNat o)), .val (.ref d), .val (.int (Int32.ofNat q)), .val (.int (Int32.ofNat len)), .val (.int 0), .unset] [])) := c1.trans (by
    refine iconstV X0.here hexec rfl 0 (hb hbytes d0) (by decide) ?_
    refine XS.istore X0.here hexec rfl (hb hbytes d1) rfl rfl ?_
    exact Steps.refl _)
  have loop : ∀ (r i : Nat), i + r = len → ∀ (z : Slot), (z = .unset ∨ ∃ w, z = .val w ∧ w.category = 1) → ∀ (Tl : State) (Bk : Cell), Stand p l e { frames := 0, locals := 0, cells := 0, slots := 0 } s m #[.ref b, .int (Int32.ofNat o), .ref d, .int (Int32.ofNat q), .int (Int32.ofNat len)] below meth c Tl ([] ++ copyLocs d q i) 0 0 → Put d Bk s₁ Tl → Laid B Bk q (q + i) (fun j => Value.int (lo8 (cv A (o + (j - q))))) →
      Steps p.tables e below (s₁.setTop (entryFrame m #[.ref b, .int (Int32.ofNat o), .ref d, .int (Int32.ofNat q), .int (Int32.ofNat len)] 7)) (Tl.setTop (mkF m 3 #[.val (.ref b), .val (.int (Int32.ofNat (o + i))), .val (.ref d), .val (.int (Int32.ofNat (q + i))), .val (.int (Int32.ofNat len)), .val (.int (Int32.ofNat i)), z] [])) → ∃ (T' : State) (B' : Cell) (z' : Slot), Stand p l e { frames := 0, locals := 0, cells := 0, slots := 0 } s m #[.ref b, .int (Int32.ofNat o), .ref d, .int (Int32.ofNat q), .int (Int32.ofNat len)] below meth c T' ([] ++ copyLocs d q len) 0 0 ∧ Put d B' s₁ T' ∧ Laid B B' q (q + len) (fun j => Value.int (lo8 (cv A (o + (j - q))))) ∧
      Steps p.tables e below (s₁.setTop (entryFrame m #[.ref b, .int (Int32.ofNat o), .ref d, .int (Int32.ofNat q), .int (Int32.ofNat len)] 7)) (T'.setTop (mkF m 3 #[.val (.ref b), .val (.int (Int32.ofNat (o + len))), .val (.ref d), .val (.int (Int32.ofNat (q + len))), .val (.int (Int32.ofNat len)), .val (.int (Int32.ofNat len)), z'] [])) := by
    intro r
    induction r with
    | zero =>
      intro i hi z hz Tl Bk Xl pl fl cl
      have hil : i = len := by omega
      rw [hil] at Xl fl cl
      exact ⟨Tl, Bk, z, Xl, pl, fl, cl⟩
    | succ r ih =>
      intro i hi z hz Tl Bk Xl pl fl cl
      have all := X0.warmed.alike.symm.trans Xl.warmed.alike
      have hAl := hA0.keep all (pl.other hne hA0.1)
      have hBk := hB0.like all pl.1 fl.1 fl.2.1 fl.2.2.1
      have hlt : q + i < Bk.slots.size := by rw [fl.2.2.1]; omega
      have c3 : Steps p.tables e below (s₁.setTop (entryFrame m #[.ref b, .int (Int32.ofNat o), .ref d, .int (Int32.ofNat q), .int (Int32.ofNat len)] 7)) (Tl.setTop (mkF m 12 #[.val (.ref b), .val (.int (Int32.ofNat (o + i))), .val (.ref d), .val (.int (Int32.ofNat (q + i))), .val (.int (Int32.ofNat len)), .val (.int (Int32.ofNat i)), z] [.int (Int32.ofNat (o + i)), .ref b])) := cl.trans (by
        refine XS.iload Xl.here hexec rfl (hb hbytes d3) rfl ?_
        refine XS.iload Xl.here hexec rfl (hb hbytes d5) rfl ?_
        refine XS.icmpNo Xl.here hexec rfl (hb hbytes d7) rfl (ii_ge_f (lt32 (by omega) (by omega))) ?_
        refine XS.aloadN Xl.here hexec rfl (hb hbytes d10) rfl rfl ?_
        refine XS.iloadN Xl.here hexec rfl (hb hbytes d11) rfl ?_
        exact Steps.refl _)
      have c4 : Steps p.tables e below (s₁.setTop (entryFrame m #[.ref b, .int (Int32.ofNat o), .ref d, .int (Int32.ofNat q), .int (Int32.ofNat len)] 7)) (Tl.setTop (mkF m 13 #[.val (.ref b), .val (.int (Int32.ofNat (o + i))), .val (.ref d), .val (.int (Int32.ofNat (q + i))), .val (.int (Int32.ofNat len)), .val (.int (Int32.ofNat i)), z] [.int (cv A (o + i))])) := c3.trans (by
        refine Xl.aget hexec hAl rfl (hA.get (i := o + i) (by omega)) rfl rfl (hb hbytes d12) ?_
        exact Steps.refl _)
      have c5 : Steps p.tables e below (s₁.setTop (entryFrame m #[.ref b, .int (Int32.ofNat o), .ref d, .int (Int32.ofNat q), .int (Int32.ofNat len)] 7)) (Tl.setTop (mkF m 15 #[.val (.ref b), .val (.int (Int32.ofNat (o + i))), .val (.ref d), .val (.int (Int32.ofNat (q + i))), .val (.int (Int32.ofNat len)), .val (.int (Int32.ofNat i)), .val (.int (cv A (o + i)))] [])) := c4.trans (by
        refine XS.istoreS Xl.here hexec rfl (hb hbytes d13) rfl rfl hz ?_
        exact Steps.refl _)
      have c6 : Steps p.tables e below (s₁.setTop (entryFrame m #[.ref b, .int (Int32.ofNat o), .ref d, .int (Int32.ofNat q), .int (Int32.ofNat len)] 7)) (Tl.setTop (mkF m 31 #[.val (.ref b), .val (.int (Int32.ofNat (o + i))), .val (.ref d), .val (.int (Int32.ofNat (q + i))), .val (.int (Int32.ofNat len)), .val (.int (Int32.ofNat i)), .val (.int (cv A (o + i)))] [.int (lo8 (cv A (o + i))), .int (Int32.ofNat (q + i)), .ref d])) := c5.trans (by
        refine XS.iload Xl.here hexec rfl (hb hbytes d15) rfl ?_
        refine sipushV Xl.here hexec rfl 255 (hb hbytes d17) (by decide) ?_
        refine XS.icmpYes Xl.here hexec rfl (pc0 := 20) rfl (hb hbytes d20) rfl (ii_le_t (hp i (by omega))) (by decide) rfl ?_
        refine XS.aloadN Xl.here hexec rfl (hb hbytes d26) rfl rfl ?_
        refine XS.iloadN Xl.here hexec rfl (hb hbytes d27) rfl ?_
        refine XS.iload Xl.here hexec rfl (hb hbytes d28) rfl ?_
        refine i2b Xl.here hexec rfl (hb hbytes d30) rfl ?_
        exact Steps.refl _)
      obtain ⟨T7, X7, p7, st7⟩ := Xl.aput hexec hBk rfl hlt rfl (fits_lo8 (cv A (o + i))) (g := (mkF m 31 #[.val (.ref b), .val (.int (Int32.ofNat (o + i))), .val (.ref d), .val (.int (Int32.ofNat (q + i))), .val (.int (Int32.ofNat len)), .val (.int (Int32.ofNat i)), .val (.int (cv A (o + i)))] [.int (lo8 (cv A (o + i))), .int (Int32.ofNat (q + i)), .ref d])) rfl (rest := []) rfl (hb hbytes d31)
      have c8 : Steps p.tables e below (s₁.setTop (entryFrame m #[.ref b, .int (Int32.ofNat o), .ref d, .int (Int32.ofNat q), .int (Int32.ofNat len)] 7)) (T7.setTop (mkF m 32 #[.val (.ref b), .val (.int (Int32.ofNat (o + i))), .val (.ref d), .val (.int (Int32.ofNat (q + i))), .val (.int (Int32.ofNat len)), .val (.int (Int32.ofNat i)), .val (.int (cv A (o + i)))] [])) := c6.trans (st7 _ (Steps.refl _))
      have c9 : Steps p.tables e below (s₁.setTop (entryFrame m #[.ref b, .int (Int32.ofNat o), .ref d, .int (Int32.ofNat q), .int (Int32.ofNat len)] 7)) (T7.setTop (mkF m 3 #[.val (.ref b), .val (.int (Int32.ofNat (o + i) + 1)), .val (.ref d), .val (.int (Int32.ofNat (q + i) + 1)), .val (.int (Int32.ofNat len)), .val (.int (Int32.ofNat i + 1)), .val (.int (cv A (o + i)))] [])) := c8.trans (by
        refine iincV X7.here hexec rfl 1 (hb hbytes d32) (by decide) rfl rfl ?_
        refine iincV X7.here hexec rfl 1 (hb hbytes d35) (by decide) rfl rfl ?_
        refine iincV X7.here hexec rfl 1 (hb hbytes d38) (by decide) rfl rfl ?_
        refine XS.goto X7.here hexec rfl (pc0 := 41) rfl (hb hbytes d41) (by decide) rfl ?_
        exact Steps.refl _)
      have c10 : Steps p.tables e below (s₁.setTop (entryFrame m #[.ref b, .int (Int32.ofNat o), .ref d, .int (Int32.ofNat q), .int (Int32.ofNat len)] 7)) (T7.setTop (mkF m 3 #[.val (.ref b), .val (.int (Int32.ofNat (o + (i + 1)))), .val (.ref d), .val (.int (Int32.ofNat (q + (i + 1)))), .val (.int (Int32.ofNat len)), .val (.int (Int32.ofNat (i + 1))), .val (.int (cv A (o + i)))] [])) := by
        have := c9
        rw [succ32, succ32, succ32] at this
        exact this
      exact ih (i + 1) (by omega) _ (Or.inr ⟨_, rfl, rfl⟩) T7 _ (by rw [copyLocs_step, ← List.append_assoc]; exact X7) (pl.trans p7) (fl.step (by omega) hlt (by simp)) c10
  obtain ⟨T9, B9, z9, X9, p9, f9, g9⟩ := loop len 0 (by omega) .unset (Or.inl rfl) s₁ B (by simpa [copyLocs] using X0) ⟨hB0.1, fun _ _ => rfl, rfl⟩ (Laid.zero _ _ _) c2
  have c11 : Steps p.tables e below (s₁.setTop (entryFrame m #[.ref b, .int (Int32.ofNat o), .ref d, .int (Int32.ofNat q), .int (Int32.ofNat len)] 7)) (T9.setTop (mkF m 46 #[.val (.ref b), .val (.int (Int32.ofNat (o + len))), .val (.ref d), .val (.int (Int32.ofNat (q + len))), .val (.int (Int32.ofNat len)), .val (.int (Int32.ofNat len)), z9] [.int (Int32.ofNat len)])) := g9.trans (by
    refine XS.iload X9.here hexec rfl (hb hbytes d3) rfl ?_
    refine XS.iload X9.here hexec rfl (hb hbytes d5) rfl ?_
    refine XS.icmpYes X9.here hexec rfl (pc0 := 7) rfl (hb hbytes d7) rfl (ii_ge_t (nlt32 (by omega) (Nat.le_refl _))) (by decide) rfl ?_
    refine XS.iload X9.here hexec rfl (hb hbytes d44) rfl ?_
    exact Steps.refl _)
  exact ⟨T9, some (.int (Int32.ofNat len)), _, _, _, X9, by simp, rfl, rfl, (fun h => by cases h), ⟨rfl, B9, p9.from hh0, f9⟩, fun fs hl => c11.trans (X9.ireturnOut hexec hret rfl (Or.inl rfl) (hb hbytes d46) hl)⟩
end Cmp5
namespace Cmp3
def yN : MethodName := ⟨"java/lang/StringUTF16", "compress", "([CII)[B"⟩
abbrev yB : ByteArray := jdk_52_method_16_code
theorem d0 : decode yB 0 = .ok (.iload_n 2, 1) := by decide +kernel
theorem d1 : decode yB 1 = .ok (.newarray .byte, 2) := by decide +kernel
theorem d3 : decode yB 3 = .ok (.astore_n 3, 1) := by decide +kernel
theorem d4 : decode yB 4 = .ok (.aload_n 0, 1) := by decide +kernel
theorem d5 : decode yB 5 = .ok (.iload_n 1, 1) := by decide +kernel
theorem d6 : decode yB 6 = .ok (.aload_n 3, 1) := by decide +kernel
theorem d7 : decode yB 7 = .ok (.iconst 0, 1) := by decide +kernel
theorem d8 : decode yB 8 = .ok (.iload_n 2, 1) := by decide +kernel
theorem d9 : decode yB 9 = .ok (.invokestatic 115, 3) := by decide +kernel
theorem d12 : decode yB 12 = .ok (.istore 4, 2) := by decide +kernel
theorem d14 : decode yB 14 = .ok (.iload 4, 2) := by decide +kernel
theorem d16 : decode yB 16 = .ok (.iload_n 2, 1) := by decide +kernel
theorem d17 : decode yB 17 = .ok (.if_icmp (.eq) 40, 3) := by decide +kernel
theorem d57 : decode yB 57 = .ok (.aload_n 3, 1) := by decide +kernel
theorem d58 : decode yB 58 = .ok (.areturn, 1) := by decide +kernel
def site : List Cond := [.arrayClass .byte, Cmp5.tab] ++ staticW U16 115 Cmp5.yN
def tab : Cond := tabOf yN yB 6 (some (.array .byte)) site
def P (b : Addr) (A : Cell) (o len : Nat) (args : Array Value) (s : State) : Prop := args = #[.ref b, .int (Int32.ofNat o), .int (Int32.ofNat len)] ∧ Ch b A s ∧ o + len ≤ A.slots.size ∧ len ≤ 536870912 ∧ ∀ i, i < len → ¬ 255 < cv A (o + i)
def E (b : Addr) (A : Cell) (o len : Nat) (r : Option Value) (s u : State) : Prop := NewArr .byte "[B" len (fun j => .int (lo8 (cv A (o + j)))) r s u ∧ u.heap.size = s.heap.size + 1
/-- no char of the range above 255: a new byte[] of their low bytes -/
theorem law (l : Launch) (b : Addr) (A : Cell) (o len : Nat) : Law l yN 3 3 1 18 yB 6 (some (.array .byte)) site (P b A o len) (E b A o len) [] 1 len := by
  refine Law.of_walk (plainFor_of_name (by decide +kernel)) (by decide +kernel) (by decide +kernel) (by decide) (fun _ _ h => by rw [h.1]; rfl) (fun _ U U' hal hh h => ⟨h.1, h.2.1.mv hal hh, h.2.2⟩) (fun r U U' V V' h1 hal h2 h => ⟨NewArr.mv r U U' V V' h1 hal h2 h.1, by rw [h1, h2]; exact h.2⟩) ?_
  intro p e s m args below meth c s₁ X0 hexec hbytes hml hret hlk hnm hown hh0 W hP
  obtain ⟨rfl, hA, l1, l2, hp⟩ := hP
  have a31 := hA.1.2.2.2
  have c1 : Steps p.tables e below (s₁.setTop (entryFrame m #[.ref b, .int (Int32.ofNat o), .int (Int32.ofNat len)] 6)) (s₁.setTop (mkF m 0 #[.val (.ref b), .val (.int (Int32.ofNat o)), .val (.int (Int32.ofNat len)), .unset, .unset, .unset] [])) := entry rfl
  have c2 : Steps p.tables e below (s₁.setTop (entryFrame m #[.ref b, .int (Int32.ofNat o), .int (Int32.ofNat len)] 6)) (s₁.setTop (mkF m 1 #[.val (.ref b), .val (.int (Int32.ofNat o)), .val (.int (Int32.ofNat len)), .unset, .unset, .unset] [.int (Int32.ofNat len)])) := c1.trans (by
    refine XS.iloadN X0.here hexec rfl (hb hbytes d0) rfl ?_
    exact Steps.refl _)
  obtain ⟨T3, B3, X3, ba3, bs3, bv3, bh3, bf3, st3⟩ := X0.anew hexec (atype := .byte) (wk W (.arrayClass .byte)) rfl (by show len * 1 ≤ _; omega) (by omega) (g := (mkF m 1 #[.val (.ref b), .val (.int (Int32.ofNat o)), .val (.int (Int32.ofNat len)), .unset, .unset, .unset] [.int (Int32.ofNat len)])) rfl (hb hbytes d1) (rest := []) rfl (Nat.le_refl _) (by show 0 + len ≤ len; omega)
  rw [hh0] at ba3 st3
  have kp3 : XT.Kept s T3 := (XT.Kept.of_eq hh0).push bh3
  have hA3 := hA.keep X3.warmed.alike (kp3 _ _ hA.1.1)
  have hne : b ≠ s.heap.size := hA.1.ne
  have c4 : Steps p.tables e below (s₁.setTop (entryFrame m #[.ref b, .int (Int32.ofNat o), .int (Int32.ofNat len)] 6)) (T3.setTop (mkF m 3 #[.val (.ref b), .val (.int (Int32.ofNat o)), .val (.int (Int32.ofNat len)), .unset, .unset, .unset] [.ref s.heap.size])) := c2.trans (st3 _ (Steps.refl _))
  have c5 : Steps p.tables e below (s₁.setTop (entryFrame m #[.ref b, .int (Int32.ofNat o), .int (Int32.ofNat len)] 6)) (T3.setTop (mkF m 9 #[.val (.ref b), .val (.int (Int32.ofNat o)), .val (.int (Int32.ofNat len)), .val (.ref s.heap.size), .unset, .unset] [.int (Int32.ofNat len), .int 0, .ref s.heap.size, .int (Int32.ofNat o), .ref b])) := c4.trans (by
    refine XS.astoreN X3.here hexec rfl (hb hbytes d3) rfl rfl rfl ?_
    refine XS.aloadN X3.here hexec rfl (hb hbytes d4) rfl rfl ?_
    refine XS.iloadN X3.here hexec rfl (hb hbytes d5) rfl ?_
    refine XS.aloadN X3.here hexec rfl (hb hbytes d6) rfl rfl ?_
    refine iconstV X3.here hexec rfl 0 (hb hbytes d7) (by decide) ?_
    refine XS.iloadN X3.here hexec rfl (hb hbytes d8) rfl ?_
    exact Steps.refl _)
  obtain ⟨v6, T6, X6, E6, g6⟩ := X3.callS hexec (Cmp5.law l b A s.heap.size B3 o 0 len) hown (wks W (staticW U16 115 Cmp5.yN)) (wk W Cmp5.tab) (W := 0) (Nat.le_of_ble_eq_true rfl) (Nat.le_of_ble_eq_true rfl) (Nat.le_refl _) (by show 0 + len + 0 ≤ len; omega) (g := (mkF m 9 #[.val (.ref b), .val (.int (Int32.ofNat o)), .val (.int (Int32.ofNat len)), .val (.ref s.heap.size), .unset, .unset] [.int (Int32.ofNat len), .int (Int32.ofNat 0), .ref s.heap.size, .int (Int32.ofNat o), .ref b])) rfl (by rw [hml]; rfl) c5 (argsL := [.ref b, .int (Int32.ofNat o), .ref s.heap.size, .int (Int32.ofNat 0), .int (Int32.ofNat len)]) (rest := []) rfl rfl (by show 2 * 0 + 0 ≤ _; decide) (hb hbytes d9) (⟨rfl, hA3, ba3, hne, l1, by rw [bs3]; simp, hp⟩)
  obtain ⟨rfl, B6, p6, f6⟩ := E6
  have c7 : Steps p.tables e below (s₁.setTop (entryFrame m #[.ref b, .int (Int32.ofNat o), .int (Int32.ofNat len)] 6)) (T6.setTop (mkF m 12 #[.val (.ref b), .val (.int (Int32.ofNat o)), .val (.int (Int32.ofNat len)), .val (.ref s.heap.size), .unset, .unset] [.int (Int32.ofNat len)])) := g6
  have c8 : Steps p.tables e below (s₁.setTop (entryFrame m #[.ref b, .int (Int32.ofNat o), .int (Int32.ofNat len)] 6)) (T6.setTop (mkF m 58 #[.val (.ref b), .val (.int (Int32.ofNat o)), .val (.int (Int32.ofNat len)), .val (.ref s.heap.size), .val (.int (Int32.ofNat len)), .unset] [.ref s.heap.size])) := c7.trans (by
    refine XS.istore X6.here hexec rfl (hb hbytes d12) rfl rfl ?_
    refine XS.iload X6.here hexec rfl (hb hbytes d14) rfl ?_
    refine XS.iloadN X6.here hexec rfl (hb hbytes d16) rfl ?_
    refine XS.icmpYes X6.here hexec rfl (pc0 := 17) rfl (hb hbytes d17) rfl (ii_eq_t rfl) (by decide) rfl ?_
    refine XS.aloadN X6.here hexec rfl (hb hbytes d57) rfl rfl ?_
    exact Steps.refl _)
  have X8 := X6.wide (L' := []) (cells' := 1) (slots' := len) (fun x hx hlt => by
    simp only [List.nil_append, copyLocs, List.mem_map, List.mem_range] at hx
    obtain ⟨i, -, rfl⟩ := hx
    exact absurd hlt (Nat.lt_irrefl _)) (Nat.le_refl _) (by omega)
  exact ⟨T6, some (.ref s.heap.size), _, _, _, X8, rfl, rfl, rfl, (fun h => by cases h), ⟨⟨rfl, B6, ba3.like (X3.warmed.alike.symm.trans X6.warmed.alike) p6.1 f6.1 f6.2.1 f6.2.2.1, f6.2.1.trans bv3, by rw [X6.warmed.alike.findClass, f6.1]; exact bf3, by rw [f6.2.2.1, bs3]; simp, fun j hj => by rw [f6.2.2.2 j, if_pos (by omega)]; rfl, kp3.put p6 (Nat.le_refl _)⟩, by rw [p6.2.2, bh3, hh0]; simp⟩, fun fs hl => c8.trans (X8.areturnOut hexec rfl hret rfl (hb hbytes d58) hl)⟩
end Cmp3
namespace CodL
def yN : MethodName := ⟨"java/lang/StringUTF16", "coderFromArrayLen", "([BI)B"⟩
abbrev yB : ByteArray := jdk_52_method_15_code
theorem d0 : decode yB 0 = .ok (.iload_n 1, 1) := by decide +kernel
theorem d1 : decode yB 1 = .ok (.aload_n 0, 1) := by decide +kernel
theorem d2 : decode yB 2 = .ok (.arraylength, 1) := by decide +kernel
theorem d3 : decode yB 3 = .ok (.isub, 1) := by decide +kernel
theorem d4 : decode yB 4 = .ok (.bipush 31, 2) := by decide +kernel
theorem d6 : decode yB 6 = .ok (.iushr, 1) := by decide +kernel
theorem d7 : decode yB 7 = .ok (.i2b, 1) := by decide +kernel
theorem d8 : decode yB 8 = .ok (.ireturn, 1) := by decide +kernel
def site : List Cond := []
def tab : Cond := tabOf yN yB 2 (some .byte) site
def P (d : Addr) (B : Cell) (args : Array Value) (s : State) : Prop := args = #[.ref d, .int (Int32.ofNat B.slots.size)] ∧ Arr .byte d B s
def E (r : Option Value) (s u : State) : Prop := XT.PureE (some (.int 0)) r s u
/-- an array as long as the number of chars: LATIN1 -/
theorem law (l : Launch) (d : Addr) (B : Cell) : Law l yN 2 2 0 0 yB 2 (some .byte) site (P d B) E [] 0 0 := by
  refine Law.of_walk (plainFor_of_name (by decide +kernel)) (by decide +kernel) (by decide +kernel) (by decide) (fun _ _ h => by rw [h.1]; rfl) (fun _ U U' hal hh h => ⟨h.1, h.2.mv hal hh⟩) (fun r U U' V V' h1 hal h2 h => XT.PureE.mv r U U' V V' h1 hal h2 h) ?_
  intro p e s m args below meth c s₁ X0 hexec hbytes hml hret hlk hnm hown hh0 W hP
  obtain ⟨rfl, hB⟩ := hP
  have hB0 := hB.mv X0.warmed.alike hh0
  have c1 : Steps p.tables e below (s₁.setTop (entryFrame m #[.ref d, .int (Int32.ofNat B.slots.size)] 2)) (s₁.setTop (mkF m 0 #[.val (.ref d), .val (.int (Int32.ofNat B.slots.size))] [])) := entry rfl
  have c2 : Steps p.tables e below (s₁.setTop (entryFrame m #[.ref d, .int (Int32.ofNat B.slots.size)] 2)) (s₁.setTop (mkF m 2 #[.val (.ref d), .val (.int (Int32.ofNat B.slots.size))] [.ref d, .int (Int32.ofNat B.slots.size)])) := c1.trans (by
    refine XS.iloadN X0.here hexec rfl (hb hbytes d0) rfl ?_
    refine XS.aloadN X0.here hexec rfl (hb hbytes d1) rfl rfl ?_
    exact Steps.refl _)
  have c3 : Steps p.tables e below (s₁.setTop (entryFrame m #[.ref d, .int (Int32.ofNat B.slots.size)] 2)) (s₁.setTop (mkF m 8 #[.val (.ref d), .val (.int (Int32.ofNat B.slots.size))] [.int (lo8 (ushr (Int32.ofNat B.slots.size - Int32.ofNat B.slots.size) 31))])) := c2.trans (by
    refine X0.alen hexec hB0 rfl rfl (hb hbytes d2) ?_
    refine XS.isub X0.here hexec rfl (hb hbytes d3) rfl ?_
    refine bipushV X0.here hexec rfl 31 (hb hbytes d4) (by decide) ?_
    refine iushr X0.here hexec rfl (hb hbytes d6) rfl ?_
    refine i2b X0.here hexec rfl (hb hbytes d7) rfl ?_
    exact Steps.refl _)
  have e0 : lo8 (ushr (Int32.ofNat B.slots.size - Int32.ofNat B.slots.size) 31) = 0 := by rw [Int32.sub_self]; decide
  rw [e0] at c3
  exact ⟨s₁, some (.int 0), _, _, _, X0, rfl, rfl, rfl, (fun h => by cases h), ⟨rfl, hh0⟩, fun fs hl => c3.trans (X0.ireturnOut hexec hret rfl (Or.inr (Or.inr (Or.inl rfl))) (hb hbytes d8) hl)⟩
end CodL
/-- the String at a is Latin-1 over a new byte[] (the heap's one new cell): the low bytes of the len chars of A from o on; every cell but a is kept -/
def Got (a : Addr) (D : Cell) (fV fC : Field) (A : Cell) (o len : Nat) (r : Option Value) (s u : State) : Prop := r = none ∧ ∃ D' V : Cell, Blank "java/lang/String" a D' u ∧ Same D D' [fV.slot, fC.slot] ∧ D'.slots[fV.slot]? = some (.ref s.heap.size) ∧ D'.slots[fC.slot]? = some (.int 0) ∧ Arr .byte s.heap.size V u ∧ V.vm = .none ∧ u.vm.findClass "[B" = some V.cls ∧ V.slots.size = len ∧ (∀ j, j < len → V.slots[j]? = some (.int (lo8 (cv A (o + j))))) ∧ (∀ (y : Addr) (c : Cell), y ≠ a → s.heap[y]? = some c → u.heap[y]? = some c) ∧ u.heap.size = s.heap.size + 1
theorem Got.mv {a : Addr} {D A : Cell} {fV fC : Field} {o len : Nat} : ∀ r (U U' V V' : State), U'.heap = U.heap → V.vm.Alike V'.vm → V'.heap = V.heap → Got a D fV fC A o len r U V → Got a D fV fC A o len r U' V' :=
  fun r U U' V V' h1 hal h2 ⟨e0, D', X, a1, a2, a3, a4, a5, a6, a7, a8, a9, a10, a11⟩ => ⟨e0, D', X, a1.mv hal h2, a2, by rw [h1]; exact a3, a4, by rw [h1]; exact a5.mv hal h2, a6, by rw [hal.findClass]; exact a7, a8, a9, by rw [h1, h2]; exact a10, by rw [h1, h2]; exact a11⟩
namespace New4
def yN : MethodName := ⟨"java/lang/String", "<init>", "([CIILjava/lang/Void;)V"⟩
abbrev yB : ByteArray := jdk_42_method_149_code
theorem d0 : decode yB 0 = .ok (.aload_n 0, 1) := by decide +kernel
theorem d1 : decode yB 1 = .ok (.invokespecial 1, 3) := by decide +kernel
theorem d4 : decode yB 4 = .ok (.iload_n 3, 1) := by decide +kernel
theorem d5 : decode yB 5 = .ok (.ifCond (.ne) 22, 3) := by decide +kernel
theorem d27 : decode yB 27 = .ok (.getstatic 38, 3) := by decide +kernel
theorem d30 : decode yB 30 = .ok (.ifCond (.eq) 28, 3) := by decide +kernel
theorem d33 : decode yB 33 = .ok (.aload_n 1, 1) := by decide +kernel
theorem d34 : decode yB 34 = .ok (.iload_n 2, 1) := by decide +kernel
theorem d35 : decode yB 35 = .ok (.iload_n 3, 1) := by decide +kernel
theorem d36 : decode yB 36 = .ok (.invokestatic 177, 3) := by decide +kernel
theorem d39 : decode yB 39 = .ok (.astore 5, 2) := by decide +kernel
theorem d41 : decode yB 41 = .ok (.aload_n 0, 1) := by decide +kernel
theorem d42 : decode yB 42 = .ok (.aload 5, 2) := by decide +kernel
theorem d44 : decode yB 44 = .ok (.iload_n 3, 1) := by decide +kernel
theorem d45 : decode yB 45 = .ok (.invokestatic 47, 3) := by decide +kernel
theorem d48 : decode yB 48 = .ok (.putfield 15, 3) := by decide +kernel
theorem d51 : decode yB 51 = .ok (.aload_n 0, 1) := by decide +kernel
theorem d52 : decode yB 52 = .ok (.aload 5, 2) := by decide +kernel
theorem d54 : decode yB 54 = .ok (.putfield 9, 3) := by decide +kernel
theorem d57 : decode yB 57 = .ok (.return_, 1) := by decide +kernel
def site : List Cond := [.fieldLink "java/lang/String" 38 "java/lang/String" "COMPACT_STRINGS" "Z", Cmp3.tab, CodL.tab, .laysFinal "java/lang/String" "java/lang/String" "value" "[B", .fieldLink "java/lang/String" 9 "java/lang/String" "value" "[B", .laysFinal "java/lang/String" "java/lang/String" "coder" "B", .fieldLink "java/lang/String" 15 "java/lang/String" "coder" "B"] ++ objW "java/lang/String" 1 ++ staticW "java/lang/String" 177 Cmp3.yN ++ staticW "java/lang/String" 47 CodL.yN
def tab : Cond := tabOf yN yB 6 none site
def P (a : Addr) (D : Cell) (fV fC : Field) (b : Addr) (A : Cell) (z : Int32) (o len : Nat) (args : Array Value) (s : State) : Prop := args = #[.ref a, .ref b, .int (Int32.ofNat o), .int (Int32.ofNat len), .null] ∧ Blank "java/lang/String" a D s ∧ Found "java/lang/String" "value" "[B" fV s ∧ Found "java/lang/String" "coder" "B" fC s ∧ Ch b A s ∧ StaticIs s "java/lang/String" "COMPACT_STRINGS" "Z" (.int z) ∧ ¬ z = 0 ∧ 0 < len ∧ o + len ≤ A.slots.size ∧ len ≤ 536870912 ∧ ∀ i, i < len → ¬ 255 < cv A (o + i)
def E (a : Addr) (D : Cell) (fV fC : Field) (A : Cell) (o len : Nat) (r : Option Value) (s u : State) : Prop := Got a D fV fC A o len r s u
/-- len > 0, no char of the range above 255: a Latin-1 String of their low bytes -/
theorem law (l : Launch) (a : Addr) (D : Cell) (fV fC : Field) (b : Addr) (A : Cell) (z : Int32) (o len : Nat) : Law l yN 5 4 2 35 yB 6 none site (P a D fV fC b A z o len) (E a D fV fC A o len) [⟨a, fC.slot⟩, ⟨a, fV.slot⟩] 1 len := by
  refine Law.of_walk (plainFor_of_name (by decide +kernel)) (by decide +kernel) (by decide +kernel) (by decide) (fun _ _ h => by rw [h.1]; rfl) (fun _ U U' hal hh h => ⟨h.1, h.2.1.mv hal hh, h.2.2.1.al hal, h.2.2.2.1.al hal, h.2.2.2.2.1.mv hal hh, h.2.2.2.2.2.1.there hal hh, h.2.2.2.2.2.2⟩) (fun r U U' V V' h1 hal h2 h => Got.mv r U U' V V' h1 hal h2 h) ?_
  intro p e s m args below meth c s₁ X0 hexec hbytes hml hret hlk hnm hown hh0 W hP
  obtain ⟨rfl, hB, f1, f2, hA, s1, hz, l0, l1, l2, hp⟩ := hP
  have a31 := hA.1.2.2.2
  have c1 : Steps p.tables e below (s₁.setTop (entryFrame m #[.ref a, .ref b, .int (Int32.ofNat o), .int (Int32.ofNat len), .null] 6)) (s₁.setTop (mkF m 0 #[.val (.ref a), .val (.ref b), .val (.int (Int32.ofNat o)), .val (.int (Int32.ofNat len)), .val .null, .unset] [])) := entry rfl
  have c2 : Steps p.tables e below (s₁.setTop (entryFrame m #[.ref a, .ref b, .int (Int32.ofNat o), .int (Int32.ofNat len), .null] 6)) (s₁.setTop (mkF m 1 #[.val (.ref a), .val (.ref b), .val (.int (Int32.ofNat o)), .val (.int (Int32.ofNat len)), .val .null, .unset] [.ref a])) := c1.trans (by
    refine XS.aloadN X0.here hexec rfl (hb hbytes d0) rfl rfl ?_
    exact Steps.refl _)
  obtain ⟨T3, X3, q3, st3⟩ := X0.oinit hexec hown (wks W (objW "java/lang/String" 1)) (g := (mkF m 1 #[.val (.ref a), .val (.ref b), .val (.int (Int32.ofNat o)), .val (.int (Int32.ofNat len)), .val .null, .unset] [.ref a])) rfl (by rw [hml]; rfl) (rest := []) rfl (hb hbytes d1) (W := 0) (by show 2 * 0 + 0 ≤ _; decide) (Nat.le_of_ble_eq_true rfl) (Nat.le_of_ble_eq_true rfl)
  have hh3 := q3.trans hh0
  have c4 : Steps p.tables e below (s₁.setTop (entryFrame m #[.ref a, .ref b, .int (Int32.ofNat o), .int (Int32.ofNat len), .null] 6)) (T3.setTop (mkF m 27 #[.val (.ref a), .val (.ref b), .val (.int (Int32.ofNat o)), .val (.int (Int32.ofNat len)), .val .null, .unset] [])) := (c2.trans (st3 _ (Steps.refl _))).trans (by
    refine XS.iloadN X3.here hexec rfl (hb hbytes d4) rfl ?_
    refine XS.ifYes X3.here hexec rfl (pc0 := 5) rfl (hb hbytes d5) rfl (i0_ne_t (nz32 (by omega) l0)) (by decide) rfl ?_
    exact Steps.refl _)
  obtain ⟨T5, X5, q5, st5⟩ := X3.sget hexec hown (wk W (.fieldLink "java/lang/String" 38 "java/lang/String" "COMPACT_STRINGS" "Z")) s1 (fun _ _ h => by rw [hh3]; exact h) (g := (mkF m 27 #[.val (.ref a), .val (.ref b), .val (.int (Int32.ofNat o)), .val (.int (Int32.ofNat len)), .val .null, .unset] [])) rfl (hb hbytes d27)
  have hh5 := q5.trans hh3
  have c6 : Steps p.tables e below (s₁.setTop (entryFrame m #[.ref a, .ref b, .int (Int32.ofNat o), .int (Int32.ofNat len), .null] 6)) (T5.setTop (mkF m 30 #[.val (.ref a), .val (.ref b), .val (.int (Int32.ofNat o)), .val (.int (Int32.ofNat len)), .val .null, .unset] [.int z])) := c4.trans (st5 _ (Steps.refl _))
  have c7 : Steps p.tables e below (s₁.setTop (entryFrame m #[.ref a, .ref b, .int (Int32.ofNat o), .int (Int32.ofNat len), .null] 6)) (T5.setTop (mkF m 36 #[.val (.ref a), .val (.ref b), .val (.int (Int32.ofNat o)), .val (.int (Int32.ofNat len)), .val .null, .unset] [.int (Int32.ofNat len), .int (Int32.ofNat o), .ref b])) := c6.trans (by
    refine XS.ifNo X5.here hexec rfl (hb hbytes d30) rfl (i0_eq_f hz) ?_
    refine XS.aloadN X5.here hexec rfl (hb hbytes d33) rfl rfl ?_
    refine XS.iloadN X5.here hexec rfl (hb hbytes d34) rfl ?_
    refine XS.iloadN X5.here hexec rfl (hb hbytes d35) rfl ?_
    exact Steps.refl _)
  obtain ⟨v8, T8, X8, E8, g8⟩ := X5.callS hexec (Cmp3.law l b A o len) hown (wks W (staticW "java/lang/String" 177 Cmp3.yN)) (wk W Cmp3.tab) (W := 0) (Nat.le_of_ble_eq_true rfl) (Nat.le_of_ble_eq_true rfl) (Nat.le_refl _) (by show 0 + len ≤ len; omega) (g := (mkF m 36 #[.val (.ref a), .val (.ref b), .val (.int (Int32.ofNat o)), .val (.int (Int32.ofNat len)), .val .null, .unset] [.int (Int32.ofNat len), .int (Int32.ofNat o), .ref b])) rfl (by rw [hml]; rfl) c7 (argsL := [.ref b, .int (Int32.ofNat o), .int (Int32.ofNat len)]) (rest := []) rfl rfl (by show 2 * 0 + 0 ≤ _; decide) (hb hbytes d36) (⟨rfl, hA.mv X5.warmed.alike hh5, l1, l2, hp⟩)
  obtain ⟨e8, z8⟩ := E8
  obtain ⟨rfl, N, n1, n2, n3, n4, n5, n6⟩ := NewArr.mv _ T5 s _ _ hh5.symm (Vm.Alike.refl _) rfl e8
  rw [hh5] at z8
  have hB1 := hB.keep X8.warmed.alike (n6 _ _ hB.1)
  have hne : s.heap.size ≠ a := (Nat.ne_of_lt (Array.getElem?_eq_some_iff.mp hB.1).1).symm
  have c9 : Steps p.tables e below (s₁.setTop (entryFrame m #[.ref a, .ref b, .int (Int32.ofNat o), .int (Int32.ofNat len), .null] 6)) (T8.setTop (mkF m 39 #[.val (.ref a), .val (.ref b), .val (.int (Int32.ofNat o)), .val (.int (Int32.ofNat len)), .val .null, .unset] [.ref s.heap.size])) := g8
  have c10 : Steps p.tables e below (s₁.setTop (entryFrame m #[.ref a, .ref b, .int (Int32.ofNat o), .int (Int32.ofNat len), .null] 6)) (T8.setTop (mkF m 45 #[.val (.ref a), .val (.ref b), .val (.int (Int32.ofNat o)), .val (.int (Int32.ofNat len)), .val .null, .val (.ref s.heap.size)] [.int (Int32.ofNat N.slots.size), .ref s.heap.size, .ref a])) := by
    have hc : Steps p.tables e below (s₁.setTop (entryFrame m #[.ref a, .ref b, .int (Int32.ofNat o), .int (Int32.ofNat len), .null] 6)) (T8.setTop (mkF m 45 #[.val (.ref a), .val (.ref b), .val (.int (Int32.ofNat o)), .val (.int (Int32.ofNat len)), .val .null, .val (.ref s.heap.size)] [.int (Int32.ofNat len), .ref s.heap.size, .ref a])) := c9.trans (by
      refine XS.astore X8.here hexec rfl (hb hbytes d39) rfl rfl rfl ?_
      refine XS.aloadN X8.here hexec rfl (hb hbytes d41) rfl rfl ?_
      refine XS.aload X8.here hexec rfl (hb hbytes d42) rfl rfl ?_
      refine XS.iloadN X8.here hexec rfl (hb hbytes d44) rfl ?_
      exact Steps.refl _)
    rw [n4]; exact hc
  obtain ⟨v11, T11, X11, E11, g11⟩ := X8.callS hexec (CodL.law l s.heap.size N) hown (wks W (staticW "java/lang/String" 47 CodL.yN)) (wk W CodL.tab) (W := 1) (Nat.le_of_ble_eq_true rfl) (Nat.le_of_ble_eq_true rfl) (Nat.le_refl _) (by show 0 + len + 0 ≤ len; omega) (g := (mkF m 45 #[.val (.ref a), .val (.ref b), .val (.int (Int32.ofNat o)), .val (.int (Int32.ofNat len)), .val .null, .val (.ref s.heap.size)] [.int (Int32.ofNat N.slots.size), .ref s.heap.size, .ref a])) rfl (by rw [hml]; rfl) c10 (argsL := [.ref s.heap.size, .int (Int32.ofNat N.slots.size)]) (rest := [.ref a]) rfl rfl (by show 2 * 0 + (1 + 0) ≤ _; decide) (hb hbytes d45) (⟨rfl, n1⟩)
  obtain ⟨rfl, q11⟩ := E11
  have hB11 := hB1.mv (X8.warmed.alike.symm.trans X11.warmed.alike) q11
  have c12 : Steps p.tables e below (s₁.setTop (entryFrame m #[.ref a, .ref b, .int (Int32.ofNat o), .int (Int32.ofNat len), .null] 6)) (T11.setTop (mkF m 48 #[.val (.ref a), .val (.ref b), .val (.int (Int32.ofNat o)), .val (.int (Int32.ofNat len)), .val .null, .val (.ref s.heap.size)] [.int 0, .ref a])) := g11
  obtain ⟨T13, X13, p13, bl13, sl13, st13⟩ := X11.finit hexec hown (wk W (.fieldLink "java/lang/String" 15 "java/lang/String" "coder" "B")) (Or.inr ⟨_, (wk W (.laysFinal "java/lang/String" "java/lang/String" "coder" "B"))⟩) (Or.inl ⟨rfl, hnm⟩) f2 (Or.inl rfl) hB11 (t := .byte) (by decide +kernel) rfl (g := (mkF m 48 #[.val (.ref a), .val (.ref b), .val (.int (Int32.ofNat o)), .val (.int (Int32.ofNat len)), .val .null, .val (.ref s.heap.size)] [.int 0, .ref a])) rfl (rest := []) rfl (hb hbytes d48)
  have c14 : Steps p.tables e below (s₁.setTop (entryFrame m #[.ref a, .ref b, .int (Int32.ofNat o), .int (Int32.ofNat len), .null] 6)) (T13.setTop (mkF m 54 #[.val (.ref a), .val (.ref b), .val (.int (Int32.ofNat o)), .val (.int (Int32.ofNat len)), .val .null, .val (.ref s.heap.size)] [.ref s.heap.size, .ref a])) := (c12.trans (st13 _ (Steps.refl _))).trans (by
    refine XS.aloadN X13.here hexec rfl (hb hbytes d51) rfl rfl ?_
    refine XS.aload X13.here hexec rfl (hb hbytes d52) rfl rfl ?_
    exact Steps.refl _)
  obtain ⟨T15, X15, p15, bl15, sl15, st15⟩ := X13.finit hexec hown (wk W (.fieldLink "java/lang/String" 9 "java/lang/String" "value" "[B")) (Or.inr ⟨_, (wk W (.laysFinal "java/lang/String" "java/lang/String" "value" "[B"))⟩) (Or.inl ⟨rfl, hnm⟩) f1 (Or.inl rfl) bl13 (t := (.array .byte)) (by decide +kernel) rfl (g := (mkF m 54 #[.val (.ref a), .val (.ref b), .val (.int (Int32.ofNat o)), .val (.int (Int32.ofNat len)), .val .null, .val (.ref s.heap.size)] [.ref s.heap.size, .ref a])) rfl (rest := []) rfl (hb hbytes d54)
  have c16 : Steps p.tables e below (s₁.setTop (entryFrame m #[.ref a, .ref b, .int (Int32.ofNat o), .int (Int32.ofNat len), .null] 6)) (T15.setTop (mkF m 57 #[.val (.ref a), .val (.ref b), .val (.int (Int32.ofNat o)), .val (.int (Int32.ofNat len)), .val .null, .val (.ref s.heap.size)] [])) := c14.trans (st15 _ (Steps.refl _))
  have ap := apart (Or.inr ⟨_, (wk W (.laysFinal "java/lang/String" "java/lang/String" "value" "[B"))⟩) (Or.inr ⟨_, (wk W (.laysFinal "java/lang/String" "java/lang/String" "coder" "B"))⟩) f1 f2 (t₁ := .array .byte) (t₂ := .byte) (by decide +kernel) (by decide +kernel) (by decide)
  have al := X8.warmed.alike.symm.trans X15.warmed.alike
  have n7 : T11.heap[s.heap.size]? = some N := by rw [q11]; exact n1.1
  exact ⟨T15, none, _, _, _, X15, by simp, rfl, by omega, (fun _ => rfl), ⟨rfl, _, N, bl15, ((Same.refl D _).set _ (by simp)).set _ (by simp), sl15, (Cell.slots_setSlot_ne _ ap).trans sl13, n1.keep al (p15.other hne (p13.other hne n7)), n2, by rw [al.findClass]; exact n3, n4, n5, fun y c h1 h2 => p15.other h1 (p13.other h1 (by rw [q11]; exact n6 y c h2)), by rw [p15.2.2, p13.2.2, q11]; exact z8⟩, fun fs hl => c16.trans (X15.returnOut hexec hret (hb hbytes d57) hl)⟩
end New4
namespace New1
def yN : MethodName := ⟨"java/lang/String", "<init>", "([C)V"⟩
abbrev yB : ByteArray := jdk_42_method_3_code
theorem d0 : decode yB 0 = .ok (.aload_n 0, 1) := by decide +kernel
theorem d1 : decode yB 1 = .ok (.aload_n 1, 1) := by decide +kernel
theorem d2 : decode yB 2 = .ok (.iconst 0, 1) := by decide +kernel
theorem d3 : decode yB 3 = .ok (.aload_n 1, 1) := by decide +kernel
theorem d4 : decode yB 4 = .ok (.arraylength, 1) := by decide +kernel
theorem d5 : decode yB 5 = .ok (.aconst_null, 1) := by decide +kernel
theorem d6 : decode yB 6 = .ok (.invokespecial 27, 3) := by decide +kernel
theorem d9 : decode yB 9 = .ok (.return_, 1) := by decide +kernel
def site : List Cond := [New4.tab] ++ initW "java/lang/String" 27 New4.yN
def tab : Cond := tabOf yN yB 2 none site
def P (a : Addr) (D : Cell) (fV fC : Field) (b : Addr) (A : Cell) (z : Int32) (args : Array Value) (s : State) : Prop := args = #[.ref a, .ref b] ∧ Blank "java/lang/String" a D s ∧ Found "java/lang/String" "value" "[B" fV s ∧ Found "java/lang/String" "coder" "B" fC s ∧ Ch b A s ∧ StaticIs s "java/lang/String" "COMPACT_STRINGS" "Z" (.int z) ∧ ¬ z = 0 ∧ 0 < A.slots.size ∧ A.slots.size ≤ 536870912 ∧ ∀ i, i < A.slots.size → ¬ 255 < cv A i
def E (a : Addr) (D : Cell) (fV fC : Field) (A : Cell) (r : Option Value) (s u : State) : Prop := Got a D fV fC A 0 A.slots.size r s u
/-- new String(chars), not empty, no char above 255: a Latin-1 String of their low bytes -/
theorem law (l : Launch) (a : Addr) (D : Cell) (fV fC : Field) (b : Addr) (A : Cell) (z : Int32) : Law l yN 2 1 3 52 yB 2 none site (P a D fV fC b A z) (E a D fV fC A) [⟨a, fC.slot⟩, ⟨a, fV.slot⟩] 1 A.slots.size := by
  refine Law.of_walk (plainFor_of_name (by decide +kernel)) (by decide +kernel) (by decide +kernel) (by decide) (fun _ _ h => by rw [h.1]; rfl) (fun _ U U' hal hh h => ⟨h.1, h.2.1.mv hal hh, h.2.2.1.al hal, h.2.2.2.1.al hal, h.2.2.2.2.1.mv hal hh, h.2.2.2.2.2.1.there hal hh, h.2.2.2.2.2.2⟩) (fun r U U' V V' h1 hal h2 h => Got.mv r U U' V V' h1 hal h2 h) ?_
  intro p e s m args below meth c s₁ X0 hexec hbytes hml hret hlk hnm hown hh0 W hP
  obtain ⟨rfl, hB, f1, f2, hA, s1, hz, l0, l2, hp⟩ := hP
  have c1 : Steps p.tables e below (s₁.setTop (entryFrame m #[.ref a, .ref b] 2)) (s₁.setTop (mkF m 0 #[.val (.ref a), .val (.ref b)] [])) := entry rfl
  have c2 : Steps p.tables e below (s₁.setTop (entryFrame m #[.ref a, .ref b] 2)) (s₁.setTop (mkF m 6 #[.val (.ref a), .val (.ref b)] [.null, .int (Int32.ofNat A.slots.size), .int 0, .ref b, .ref a])) := c1.trans (by
    refine XS.aloadN X0.here hexec rfl (hb hbytes d0) rfl rfl ?_
    refine XS.aloadN X0.here hexec rfl (hb hbytes d1) rfl rfl ?_
    refine iconstV X0.here hexec rfl 0 (hb hbytes d2) (by decide) ?_
    refine XS.aloadN X0.here hexec rfl (hb hbytes d3) rfl rfl ?_
    refine X0.alen hexec (hA.1.mv X0.warmed.alike hh0) rfl rfl (hb hbytes d4) ?_
    refine XS.aconstNull X0.here hexec rfl (hb hbytes d5) ?_
    exact Steps.refl _)
  obtain ⟨v3, T3, X3, E3, g3⟩ := X0.callN hexec (New4.law l a D fV fC b A z 0 A.slots.size) rfl hown (wks W (initW "java/lang/String" 27 New4.yN)) (W New4.tab (by simp only [site, List.mem_cons, List.mem_append, true_or, or_true])) (W := 0) (Nat.le_of_ble_eq_true rfl) (Nat.le_of_ble_eq_true rfl) (Nat.le_refl _) (by show 0 + A.slots.size ≤ A.slots.size; omega) (g := (mkF m 6 #[.val (.ref a), .val (.ref b)] [.null, .int (Int32.ofNat A.slots.size), .int (Int32.ofNat 0), .ref b, .ref a])) rfl (by rw [hml]; rfl) c2 (argsL := [.ref b, .int (Int32.ofNat 0), .int (Int32.ofNat A.slots.size), .null]) (rest := []) rfl rfl (by show 2 * 0 + 0 ≤ _; decide) (hb hbytes d6) (⟨rfl, hB.mv X0.warmed.alike hh0, f1.al X0.warmed.alike, f2.al X0.warmed.alike, hA.mv X0.warmed.alike hh0, s1.there X0.warmed.alike hh0, hz, l0, by omega, l2, fun i hi => by rw [Nat.zero_add]; exact hp i hi⟩)
  have e0 := Got.mv _ s₁ s _ _ hh0.symm (Vm.Alike.refl _) rfl E3
  obtain rfl := e0.1
  have c4 : Steps p.tables e below (s₁.setTop (entryFrame m #[.ref a, .ref b] 2)) (T3.setTop (mkF m 9 #[.val (.ref a), .val (.ref b)] [])) := g3
  exact ⟨T3, none, _, _, _, X3, by simp, rfl, by omega, (fun _ => rfl), e0, fun fs hl => c4.trans (X3.returnOut hexec hret (hb hbytes d9) hl)⟩
theorem pays {l : Launch} {R : Room} {p : Program} {e : Env} {below : List Frame} {s : State} {sargs : Array Value} {len W : Nat} (a : Addr) (D : Cell) (fV fC : Field) (b : Addr) (A : Cell) (z : Int32) (htab : tab.before sargs s = true) (hfr : 4 ≤ R.frames) (hlo : W + 65 ≤ R.locals) :
    Back l R p e below s sargs yN len W (fun A₁ a₁ => A₁.cells + 1 ≤ R.cells ∧ A₁.slots + A.slots.size ≤ R.slots ∧ P a D fV fC b A z a₁ A₁.U) (fun A₁ _ v₁ B₁ => E a D fV fC A v₁ A₁.U B₁.U ∧ B₁.locs = A₁.locs ++ [⟨a, fC.slot⟩, ⟨a, fV.slot⟩] ∧ B₁.cells = A₁.cells + 1 ∧ B₁.slots = A₁.slots + A.slots.size) :=
  (law l a D fV fC b A z).pays htab hfr (by omega)
end New1
end StrChars
namespace StrChars.Road
open Jvm Sem ClassFile Op Lib Jvm.Stand Jvm.Free Jvm.Free.XT
open Jvm.Lib.Cold (StaticIs)
abbrev ST : String := "java/lang/String"
/-- every table word that New1's law asks, flat -/
abbrev words : List Jvm.Cond := [.code New1.yN New1.yB 2 none, .initialized ST, .methodLink ST 27 New4.yN, .instanceMethod New4.yN,
  .code New4.yN New4.yB 6 none, .fieldLink ST 38 ST "COMPACT_STRINGS" "Z", .laysFinal ST ST "value" "[B", .fieldLink ST 9 ST "value" "[B", .laysFinal ST ST "coder" "B", .fieldLink ST 15 ST "coder" "B",
  .methodLink ST 1 Lib.objectInit, .instanceMethod Lib.objectInit, .code Lib.objectInit ⟨#[0xb1]⟩ 1 none, .methodLink ST 177 Cmp3.yN, .static Cmp3.yN, .methodLink ST 47 CodL.yN, .static CodL.yN,
  .code Cmp3.yN Cmp3.yB 6 (some (.array .byte)), .initialized U16, .arrayClass .byte, .methodLink U16 115 Cmp5.yN, .static Cmp5.yN, .code Cmp5.yN Cmp5.yB 7 (some .int), .code CodL.yN CodL.yB 2 (some .byte)]
theorem tab_of {a : Array Value} {s : State} (h : ∀ w ∈ words, w.before a s = true) : New1.tab.before a s = true := by
  have h5 : Cmp5.tab.before a s = true := unparts (wk h (.code Cmp5.yN Cmp5.yB 7 (some .int))) (wks h (.initialized Cmp5.yN.cls :: Cmp5.site))
  have hc : CodL.tab.before a s = true := unparts (wk h (.code CodL.yN CodL.yB 2 (some .byte))) (wks h (.initialized CodL.yN.cls :: CodL.site))
  have q5 : ∀ w ∈ Cmp5.tab :: words, w.before a s = true := fun w hw => (List.mem_cons.mp hw).elim (fun e => e ▸ h5) (h w)
  have h3 : Cmp3.tab.before a s = true := unparts (wk q5 (.code Cmp3.yN Cmp3.yB 6 (some (.array .byte)))) (wks q5 (.initialized Cmp3.yN.cls :: Cmp3.site))
  have q3 : ∀ w ∈ Cmp3.tab :: CodL.tab :: words, w.before a s = true := fun w hw => (List.mem_cons.mp hw).elim (fun e => e ▸ h3) fun hw => (List.mem_cons.mp hw).elim (fun e => e ▸ hc) (h w)
  have h4 : New4.tab.before a s = true := unparts (wk q3 (.code New4.yN New4.yB 6 none)) (wks q3 (.initialized New4.yN.cls :: New4.site))
  have q4 : ∀ w ∈ New4.tab :: words, w.before a s = true := fun w hw => (List.mem_cons.mp hw).elim (fun e => e ▸ h4) (h w)
  exact unparts (wk q4 (.code New1.yN New1.yB 2 none)) (wks q4 (.initialized New1.yN.cls :: New1.site))
/-- the words ride from the start Z to the walk's own state -/
theorem moved {Z s : State} {a0 args : Array Value} (hZ : Z.Warmed39 s.vm) (hw : ∀ d ∈ words, d.before a0 Z = true) : ∀ d ∈ words, d.before args s = true := fun d hd => by
  have q := hw d hd
  have t : ∀ d ∈ words, d = .arrayClass .byte ∨ (d.onTables && d.keepsFace) = true := by decide +kernel
  rcases t d hd with rfl | t
  · exact RoadKit.mvA hZ q
  · exact RoadKit.mv hZ q t
/-- WHAT COMES BACK, over the tables of the start Z: h the heap at the call, h' behind it -/
def Q (Z : State) (x : Addr) (A : Cell) (h : Heap) (v : Option Value) (h' : Heap) (L : List Loc) : Prop := v = none ∧ (∀ y ∈ L, y.base = x) ∧ RoadKit.Keep h h' [x] ∧ h'.size = h.size + 1 ∧ RoadKit.Exa Z h' x ST ∧ RoadKit.Fld Z h' x ST "value" "[B" (.ref h.size) ∧ RoadKit.Fld Z h' x ST "coder" "B" (.int 0) ∧
  (∃ V : Cell, RoadKit.Arr Z h' h.size V .byte ∧ V.vm = .none ∧ Z.vm.findClass "[B" = some V.cls ∧ V.slots.size = A.slots.size ∧ ∀ j, j < A.slots.size → V.slots[j]? = some (.int (lo8 (cv A j)))) ∧
  ∀ (O n d : String) (w : Value), RoadKit.Fld Z h x O n d w → RoadKit.slotOf Z O n d ≠ RoadKit.slotOf Z ST "value" "[B" → RoadKit.slotOf Z O n d ≠ RoadKit.slotOf Z ST "coder" "B" → RoadKit.Fld Z h' x O n d w
/-- **new String(chars) AT A CALL, IN THE ROAD'S FORM**: for specialBack behind newO: x the fresh String, b the char[] with the cell A -/
theorem back {p : Program} {l : Launch} {e : Env} {R : Room} {s : State} {args : Array Value} {below : List Frame} {len W : Nat} {Z : State} {a0 : Array Value} {h : Heap} (hZ : Z.Warmed39 s.vm) (hw : ∀ d ∈ words, d.before a0 Z = true) {kI : Nat} (wi : (Jvm.Cond.instantiable ST kI).before a0 Z = true)
    {x b : Addr} {A : Cell} {z : Int32} {v0 c0 : Value} (E : RoadKit.Exa Z h x ST) (V : RoadKit.Fld Z h x ST "value" "[B" v0) (C : RoadKit.Fld Z h x ST "coder" "B" c0) (K : RoadKit.Arr Z h b A .char) (hty : Typed .char A) (S : RoadKit.Sta Z h ST "COMPACT_STRINGS" "Z" (.int z)) (hz : ¬ z = 0)
    (l0 : 0 < A.slots.size) (l2 : A.slots.size ≤ 536870912) (hp : ∀ i, i < A.slots.size → ¬ 255 < cv A i) (hfr : 4 ≤ R.frames) (hlo : W + 65 ≤ R.locals) :
    Back l R p e below s args New1.yN len W (fun P a => a = #[.ref x, .ref b] ∧ P.U.heap = h ∧ P.cells + 1 ≤ R.cells ∧ P.slots + A.slots.size ≤ R.slots)
      (fun P _ v B => ∃ L, Q Z x A h v B.U.heap L ∧ B.locs = P.locs ++ L ∧ B.cells = P.cells + 1 ∧ B.slots = P.slots + A.slots.size) := by
  intro m meth c P g ig mk a X hg hsize hdg hW hn hp'
  obtain ⟨rfl, rfl, r1, r2⟩ := hp'
  have al : Z.vm.Alike P.U.vm := hZ.alike.trans X.warmed.alike
  obtain ⟨D, cfV, kV, iV, fV, hD, gV, stV, knV, obV, asV, slV⟩ := id V
  obtain ⟨D', cfC, kC, iC, fC, hD', gC, stC, -, -, asC, slC⟩ := id C
  cases hD.symm.trans hD'
  obtain ⟨D2, kD, e1, e2, e3, e4, e5⟩ := id E
  cases hD.symm.trans e1
  obtain ⟨c2, k2, i1, i2, i3, -⟩ := Cond.instantiable_spec wi
  cases e2.symm.trans i1
  cases e3.symm.trans i2
  obtain ⟨kU, u1, u2⟩ := al.2.2 _ _ e3
  have hB : Blank ST x D P.U := ⟨hD, ⟨knV, fun q hq => by rw [hq] at obV; cases obV⟩, by rw [al.findClass]; exact e2, kU, u1, by rw [u2]; exact i3, by rw [u2]; exact e5 i3⟩
  have F1 : Found ST "value" "[B" fV P.U := ⟨SBG.found_only al ⟨cfV, kV, iV, gV⟩, stV⟩
  have F2 : Found ST "coder" "B" fC P.U := ⟨SBG.found_only al ⟨cfC, kC, iC, gC⟩, stC⟩
  have hA : Ch b A P.U := ⟨⟨K.1, State.isArrayOf_alike al K.2.1, K.2.2, by omega⟩, hty⟩
  have hS : StaticIs P.U ST "COMPACT_STRINGS" "Z" (.int z) := by
    obtain ⟨cfS, iS, kS, fS, st, cS, t1, t2, t3, t4, t5, t6, t7⟩ := S
    exact StaticIs.there (s := { Z with heap := P.U.heap }) ⟨cfS, iS, kS, fS, st, cS, t1, t2, t3, t4, t5, (fun q => by rw [q] at t6; cases t6), t7⟩ al rfl
  obtain ⟨v, B, X', ⟨⟨hv, E', V', q1, q2, q3, q4, q5, q6, q7, q8, q9, q10, q11⟩, hl, hc, hs⟩, st⟩ := New1.pays x D fV fC b A z (tab_of (moved hZ hw)) hfr hlo m meth c P g ig mk _ X hg hsize hdg hW hn ⟨r1, r2, rfl, hB, F1, F2, hA, hS, hz, l0, l2, hp⟩
  have al' : Z.vm.Alike B.U.vm := hZ.alike.trans X'.warmed.alike
  have hsz : E'.slots.size = D.slots.size := by
    obtain ⟨-, -, -, kB, w1, w2, w3⟩ := q1
    obtain ⟨kB', y1, y2⟩ := al'.2.2 _ _ e3
    rw [q2.2.1] at w1
    cases w1.symm.trans y1
    rw [w3, e5 i3, y2]
  refine ⟨v, B, X', ⟨_, ⟨hv, ?_, ⟨by omega, fun y cy hy hn' => q10 y cy (by simpa using hn') hy, fun y cy hy => ?_⟩, q11, ⟨E', _, q1.1, by rw [q2.2.1]; exact e2, by rw [q2.2.1]; exact e3, by rw [q2.1]; exact obV, fun _ => by rw [hsz]; exact e5 i3⟩,
    ⟨E', cfV, kV, iV, fV, q1.1, gV, stV, by rw [q2.1]; exact knV, by rw [q2.1]; exact obV, by rw [q2.2.1]; exact asV, q3⟩, ⟨E', cfC, kC, iC, fC, q1.1, gC, stC, by rw [q2.1]; exact knV, by rw [q2.1]; exact obV, by rw [q2.2.1]; exact asC, q4⟩,
    ⟨V', ⟨q5.1, State.isArrayOf_alike al'.symm q5.2.1, q5.2.2.1⟩, q6, by rw [← al'.findClass]; exact q7, q8, fun j hj => by have := q9 j hj; rwa [Nat.zero_add] at this⟩, fun O n d w F n1 n2 => ?_⟩, hl, hc, hs⟩, st⟩
  · intro y hy
    simp only [List.mem_cons, List.not_mem_nil, or_false] at hy
    rcases hy with rfl | rfl <;> rfl
  · by_cases q : y = x
    · subst q
      cases hD.symm.trans hy
      exact ⟨E', q1.1, q2.2.1, q2.1, hsz⟩
    · exact ⟨cy, q10 y cy q hy, rfl, rfl, rfl⟩
  · obtain ⟨D3, cf, k, i, f, g1, g2, g3, g4, g5, g6, g7⟩ := F
    cases hD.symm.trans g1
    simp only [RoadKit.slotOf, g2, gV, gC, Option.map_some, Option.getD_some] at n1 n2
    exact ⟨E', cf, k, i, f, q1.1, g2, g3, by rw [q2.1]; exact g4, by rw [q2.1]; exact g5, by rw [q2.2.1]; exact g6, by rw [q2.2.2 f.slot (by simp [n1, n2])]; exact g7⟩
end StrChars.Road
namespace StrChars.Road
open Jvm Sem ClassFile Op Lib Jvm.Stand Jvm.Free Jvm.Free.XT
/-- WHAT COMES BACK, the byte[] as a list of values -/
def QA (Z : State) (x : Addr) (zn : Int32) (cs : List Int32) (h : Heap) (v : Option Value) (h' : Heap) (L : List Loc) : Prop := v = none ∧ (∀ y ∈ L, y.base = x) ∧ RoadKit.Keep h h' [x] ∧ h'.size = h.size + 1 ∧ RoadKit.Exa Z h' x ST ∧ RoadKit.Fld Z h' x ST "value" "[B" (.ref h.size) ∧ RoadKit.Fld Z h' x ST "coder" "B" (.int 0) ∧
  (∃ kb, Z.vm.findClass "[B" = some kb ∧ RoadKit.Arv Z h' h.size kb .byte zn (cs.map fun c => .int (lo8 c)) (.int 0)) ∧
  ∀ (O n d : String) (w : Value), RoadKit.Fld Z h x O n d w → RoadKit.slotOf Z O n d ≠ RoadKit.slotOf Z ST "value" "[B" → RoadKit.slotOf Z O n d ≠ RoadKit.slotOf Z ST "coder" "B" → RoadKit.Fld Z h' x O n d w
/-- **new String(chars) AT A CALL, THE ARRAYS AS LISTS**: the char[] at b holds cs, not empty, no char above 255 -/
theorem backArv {p : Program} {l : Launch} {e : Env} {R : Room} {s : State} {args : Array Value} {below : List Frame} {len W : Nat} {Z : State} {a0 : Array Value} {h : Heap} (hZ : Z.Warmed39 s.vm) (hw : ∀ d ∈ words, d.before a0 Z = true) {kI : Nat} (wi : (Jvm.Cond.instantiable ST kI).before a0 Z = true)
    {x b : Addr} {k : ClassId} {zn z : Int32} {cs : List Int32} {dv v0 c0 : Value} (E : RoadKit.Exa Z h x ST) (V : RoadKit.Fld Z h x ST "value" "[B" v0) (C : RoadKit.Fld Z h x ST "coder" "B" c0) (K : RoadKit.Arv Z h b k .char zn (cs.map Value.int) dv) (S : RoadKit.Sta Z h ST "COMPACT_STRINGS" "Z" (.int z)) (hz : ¬ z = 0)
    (hlen : zn.toNatClampNeg = cs.length) (h0 : 0 < cs.length) (hbig : cs.length ≤ 536870912) (hall : ∀ c ∈ cs, ¬ 255 < c) (hfr : 4 ≤ R.frames) (hlo : W + 65 ≤ R.locals) :
    Back l R p e below s args New1.yN len W (fun P a => a = #[.ref x, .ref b] ∧ P.U.heap = h ∧ P.cells + 1 ≤ R.cells ∧ P.slots + cs.length ≤ R.slots)
      (fun P _ v B => ∃ L, QA Z x zn cs h v B.U.heap L ∧ B.locs = P.locs ++ L ∧ B.cells = P.cells + 1 ∧ B.slots = P.slots + cs.length) := by
  obtain ⟨A, K1, K2, K3, K4, K5, K6⟩ := K
  have e : A.slots.size = cs.length := K3.trans hlen
  have hat : ∀ (i : Nat) (hi : i < cs.length), A.slots[i]? = some (.int cs[i]) := fun i hi => by rw [K5 i (by omega)]; simp [List.getD_eq_getElem?_getD, hi]
  have hcv : ∀ (i : Nat) (hi : i < cs.length), cv A i = cs[i] := fun i hi => by unfold cv; rw [hat i hi]
  have hty : Typed .char A := fun i v hv => by
    have hi : i < A.slots.size := (Array.getElem?_eq_some_iff.mp hv).1
    have q := K5 i hi
    rw [hv] at q
    rw [Option.some.inj q]
    exact K6 i hi
  refine Back.mono (back hZ hw wi E V C K1 hty S hz (by omega) (by omega) (fun i hi => by rw [hcv i (by omega)]; exact hall _ (List.getElem_mem _)) hfr hlo) (fun P a hp => ⟨hp.1, hp.2.1, hp.2.2.1, by rw [e]; exact hp.2.2.2⟩) (fun P a v B hp hq => ?_)
  obtain ⟨L, ⟨q1, q2, q3, q4, q5, q6, q7, ⟨V', v1, v2, v3, v4, v5⟩, q9⟩, hl, hc, hs⟩ := hq
  refine ⟨L, ⟨q1, q2, q3, q4, q5, q6, q7, ⟨V'.cls, v3, V', v1, rfl, by rw [v4, e, hlen], K4, fun i hi => ?_, fun i hi => ?_⟩, q9⟩, hl, hc, by rw [hs, e]⟩
  · have hi' : i < cs.length := by omega
    rw [v5 i (by omega), hcv i hi']; simp [List.getD_eq_getElem?_getD, hi']
  · have hi' : i < cs.length := by omega
    simp only [List.getD_eq_getElem?_getD, List.getElem?_map, List.getElem?_eq_getElem hi', Option.map_some, Option.getD_some]
    exact fits_lo8 _
end StrChars.Road
namespace StrChars.Road
open Jvm Sem ClassFile Op Lib Jvm.Stand Jvm.Free Jvm.Free.XT
/-- WHAT COMES BACK, in the writer's own shape -/
def QV (Z : State) (x : Addr) (N : Int32) (bs : List Int32) (h : Heap) (n0 : Nat) (v : Option Value) (h' : Heap) (L : List Loc) : Prop := v = none ∧ RoadKit.Fr n0 L ∧ RoadKit.Keep h h' [x] ∧ RoadKit.Exa Z h' x ST ∧ RoadKit.Fld Z h' x ST "coder" "B" (.int 0) ∧
  ∃ (t : Addr) (kb : ClassId), n0 ≤ t ∧ h.size ≤ t ∧ ¬ t = x ∧ RoadKit.Fld Z h' x ST "value" "[B" (.ref t) ∧ RoadKit.Arv Z h' t kb .byte N (bs.map Value.int) (.int 0)
/-- **new String(chars) AT A CALL, FOR THE WRITER**: a char[] of n known ints, each 0 to 255 -/
theorem backV {p : Program} {l : Launch} {e : Env} {R : Room} {s : State} {args : Array Value} {below : List Frame} {len W : Nat} {Z : State} {a0 : Array Value} {h : Heap} (hZ : Z.Warmed39 s.vm) (hw : ∀ d ∈ words, d.before a0 Z = true) {kI : Nat} (wi : (Jvm.Cond.instantiable ST kI).before a0 Z = true)
    {x b : Addr} {kC : ClassId} {cs bs : List Int32} {d v0 c0 : Value} {z N : Int32} {n n0 : Nat} (hx0 : n0 ≤ x) (hh0 : n0 ≤ h.size) (E : RoadKit.Exa Z h x ST) (V : RoadKit.Fld Z h x ST "value" "[B" v0) (C : RoadKit.Fld Z h x ST "coder" "B" c0) (K : RoadKit.Arv Z h b kC .char N (cs.map Value.int) d) (S : RoadKit.Sta Z h ST "COMPACT_STRINGS" "Z" (.int z)) (hz : ¬ z = 0)
    (hn : cs.length = n) (hN : N = Int32.ofNat n) (l0 : 0 < n) (l2 : n ≤ 4000) (hp : ∀ c ∈ cs, ¬ c < 0 ∧ ¬ (255 : Int32) < c) (hb : bs = cs.map (fun c => c.toInt8.toInt32)) (hfr : 4 ≤ R.frames) (hlo : W + 65 ≤ R.locals) :
    Back l R p e below s args (⟨"java/lang/String", "<init>", "([C)V"⟩ : MethodName) len W (fun P a => a = #[.ref x, .ref b] ∧ P.U.heap = h ∧ P.cells + 1 ≤ R.cells ∧ P.slots + n ≤ R.slots)
      (fun P _ v B => ∃ L, QV Z x N bs h n0 v B.U.heap L ∧ B.locs = P.locs ++ L ∧ B.cells = P.cells + 1 ∧ B.slots = P.slots + n) := by
  subst hn hN hb
  refine Back.mono (backArv hZ hw wi E V C K S hz (n32 (by omega)) l0 (by omega) (fun c hc => (hp c hc).2) hfr hlo) (fun P a hp => hp) (fun P a v B hp hq => ?_)
  obtain ⟨L, ⟨q1, q2, q3, q4, q5, q6, q7, ⟨kb, v1, v2⟩, q9⟩, hl, hc, hs⟩ := hq
  exact ⟨L, ⟨q1, fun y hy => by rw [q2 y hy]; exact hx0, q3, q5, q7, h.size, kb, hh0, Nat.le_refl _, Nat.ne_of_gt E.lt, q6, by rw [List.map_map]; exact v2⟩, hl, hc, hs⟩
end StrChars.Road
end Jvm.Pilot.@@N@@
namespace Jvm.Pilot.@@N@@
open Jvm Jvm.ClassFile Sem Op Lib Jvm.Free Jvm.Stand Jvm.LawKit Jvm.RoadKit Jvm.OwnS Bundle Jvm.Pilot.@@N@@.Jvm.D
/-- String.COMPACT_STRINGS isn't 0 -/
def Cmp (Z : State) : Prop := ∃ z : Int32, ¬ z = 0 ∧ Sta Z Z.heap "java/lang/String" "COMPACT_STRINGS" "Z" (.int z)
theorem own_c255 (x : Int32) : ¬ nar .char ((x &&& (255 : Int32)).toUInt32.toUInt16.toUInt32.toInt32) < 0 ∧ ¬ (255 : Int32) < nar .char ((x &&& (255 : Int32)).toUInt32.toUInt16.toUInt32.toInt32) := by
  have t : ∀ k : Fin 256, ¬ nar .char ((Int32.ofNat k.val).toUInt32.toUInt16.toUInt32.toInt32) < 0 ∧ ¬ (255 : Int32) < nar .char ((Int32.ofNat k.val).toUInt32.toUInt16.toUInt32.toInt32) := by decide +kernel
  have h : (x &&& 255).toBitVec.toNat < 256 := by
    simp only [Int32.toBitVec_and, BitVec.toNat_and]
    exact Nat.lt_succ_of_le Nat.and_le_right
  have e : (x &&& 255) = Int32.ofNat (x &&& 255).toBitVec.toNat := by
    apply Int32.toBitVec_inj.mp
    show _ = BitVec.ofNat 32 _
    rw [BitVec.ofNat_toNat]; simp
  rw [e]
  exact t ⟨_, h⟩
theorem own_char (x : Int32) : ¬ ((x &&& (255 : Int32)).toUInt32.toUInt16.toUInt32.toInt32) < 0 ∧ ¬ (255 : Int32) < ((x &&& (255 : Int32)).toUInt32.toUInt16.toUInt32.toInt32) := by
  have t : ∀ k : Fin 256, ¬ ((Int32.ofNat k.val).toUInt32.toUInt16.toUInt32.toInt32) < 0 ∧ ¬ (255 : Int32) < ((Int32.ofNat k.val).toUInt32.toUInt16.toUInt32.toInt32) := by decide +kernel
  have h : (x &&& 255).toBitVec.toNat < 256 := by
    simp only [Int32.toBitVec_and, BitVec.toNat_and]
    exact Nat.lt_succ_of_le Nat.and_le_right
  have e : (x &&& 255) = Int32.ofNat (x &&& 255).toBitVec.toNat := by
    apply Int32.toBitVec_inj.mp
    show _ = BitVec.ofNat 32 _
    rw [BitVec.ofNat_toNat]; simp
  rw [e]
  exact t ⟨_, h⟩
theorem own_i8 (x : Int32) : x.toInt8.toInt32.toInt8.toInt32 = x.toInt8.toInt32 := by simp
theorem own_words_new : ∀ d ∈ StrChars.Road.words, d ∈ tables_1 := by decide +kernel
/-- new String(char[]) -/
theorem own_newStr {p : Program} {l : Launch} {e : Env} {R : Room} {s : State} {args : Array Value} {below : List Frame} {W : Nat} {Z : State} {a0 : Array Value} (hZ : Z.Warmed39 s.vm) (hfr : 4 ≤ R.frames) (hlo : W + 65 ≤ R.locals) (hw : ∀ d ∈ tables_1, d.before a0 Z = true) (x b : Addr) (kC : ClassId) (cs : List Int32) (N : Int32) (d v0 c0 : Value) (nn : Nat) (h : Heap) (n0 : Nat) (Z0 : n0 ≤ h.size) (g_x : n0 ≤ x)
    (E : Exa Z h x "java/lang/String") (V : Fld Z h x "java/lang/String" "value" "[B" v0) (C : Fld Z h x "java/lang/String" "coder" "B" c0) (K : Arv Z h b kC .char N (cs.map Value.int) d) (O : Old Z n0 h) (hn : cs.length = nn) (hN : N = Int32.ofNat nn) (l0 : 0 < nn) (l2 : nn ≤ 4000) (hp : ∀ c ∈ cs, ¬ c < 0 ∧ ¬ (255 : Int32) < c) (G : Cmp Z) :
    Jvm.OwnN.Bk l R p e below s args (⟨"java/lang/String", "<init>", "([C)V"⟩ : MethodName) 3 W #[.ref x, .ref b] h 1 nn n0 (fun v h' => ∃ (t : Addr) (kb : ClassId), v = none ∧ Keep h h' [x] ∧ h.size ≤ t ∧ Str Z h' x t kb cs) := by
  obtain ⟨z, hz, S⟩ := G
  subst hn
  refine Back.mono (StrChars.Road.backV (W := W) hZ (fun d hd => hw d (own_words_new d hd)) (kI := 4) (hw _ (List.mem_of_getElem? (i := 5) rfl)) g_x Z0 E V C K (S.ext O.2) hz rfl hN l0 l2 hp rfl hfr hlo) (fun P a hp => hp) (fun P a v B _ hq => ?_)
  obtain ⟨L, ⟨q1, q2, q3, q4, q5, t, kb, q6, q7, q8, q9, q10⟩, r⟩ := hq
  refine ⟨L, ⟨⟨t, kb, q1, q3, q7, q4, q9, q5, ?_, hp, l2⟩, q2⟩, r⟩
  subst hN
  rw [List.map_map] at q10
  exact q10
/-- what a builder's array holds: the chars' bytes, then zeros -/
def fill (cs : List Int32) (cap : Nat) : List Value := (cs.map fun c => Value.int (c.toInt8.toInt32)) ++ List.replicate (cap - cs.length) (Value.int (0 : Int32))
theorem fill_length {cs : List Int32} {cap : Nat} (h : cs.length ≤ cap) : (fill cs cap).length = cap := by simp [fill]; omega
theorem own_clamp {n : Nat} (h : n ≤ 100000) : (Int32.ofNat n).toNatClampNeg = n ∧ ¬ Int32.ofNat n < 0 ∧ (Int32.ofNat n).toInt = n := by
  have e : (Int32.ofNat n).toInt = n := Int32.toInt_ofNat_of_lt (by omega)
  have z : (0 : Int32).toInt = 0 := by decide
  refine ⟨?_, fun q => ?_, e⟩
  · show (Int32.ofNat n).toInt.toNat = n
    rw [e]; rfl
  · rw [Int32.lt_iff_toInt_lt, e, z] at q; omega
theorem own_shr0 (x : Int32) : (x >>> ((0 : Int32) &&& 31)) = x := by
  have e : ((0 : Int32) &&& 31) = 0 := by decide
  rw [e]; simp
theorem own_shl0 (x : Int32) : (x <<< ((0 : Int32) &&& 31)) = x := by
  have e : ((0 : Int32) &&& 31) = 0 := by decide
  rw [e]; simp
theorem own_sub0 (x : Int32) : (x - (0 : Int32)) = x := by simp
theorem own_add {a b : Nat} : (Int32.ofNat a + Int32.ofNat b) = Int32.ofNat (a + b) := by simp
theorem own_fits {m cap : Nat} (h : m ≤ cap) (hc : cap ≤ 100000) : ¬ ((0 : Int32) < (Int32.ofNat m - Int32.ofNat cap)) := by
  intro q
  have h1 := (own_clamp (n := m) (by omega)).2.2
  have h2 := (own_clamp hc).2.2
  have z : (0 : Int32).toInt = 0 := by decide
  have h3 := c_isub (Int32.ofNat m) (Int32.ofNat cap)
  have r := rng32 (Int32.ofNat m - Int32.ofNat cap)
  rw [Int32.lt_iff_toInt_lt, z] at q
  rw [h1, h2] at h3
  omega
theorem own_lt {a b : Nat} (h : a < b) (hb : b ≤ 100000) : Int32.ofNat a < Int32.ofNat b := by
  rw [Int32.lt_iff_toInt_lt, (own_clamp (n := a) (by omega)).2.2, (own_clamp hb).2.2]; omega
theorem own_ne {a b : Nat} (h : a ≠ b) (ha : a ≤ 100000) (hb : b ≤ 100000) : ¬ (Int32.ofNat a = Int32.ofNat b) := by
  intro q
  have := congrArg Int32.toInt q
  rw [(own_clamp ha).2.2, (own_clamp hb).2.2] at this
  omega
theorem own_range {vs : List Value} {dv : Value} (n : Nat) (h : n ≤ vs.length) : ((List.range n).map fun i => vs.getD (0 + i) dv) = vs.take n := by
  apply List.ext_getElem?
  intro i
  by_cases hi : i < n
  · have : i < vs.length := by omega
    simp [hi, this, List.getElem?_take]
  · simp [hi, List.getElem?_take]
/-- the law of a copy into a builder's array -/
theorem fill_copy {cs ds : List Int32} {cap : Nat} {dv : Value} (h : cs.length + ds.length ≤ cap) (hc : cap ≤ 100000) :
    ((fill cs cap).take (Int32.ofNat cs.length).toNatClampNeg ++ ((List.range (Int32.ofNat ds.length).toNatClampNeg).map fun i => (ds.map fun c => Value.int (c.toInt8.toInt32)).getD ((0 : Int32).toNatClampNeg + i) dv) ++ (fill cs cap).drop ((Int32.ofNat cs.length).toNatClampNeg + (Int32.ofNat ds.length).toNatClampNeg)) = fill (cs ++ ds) cap := by
  rw [(own_clamp (n := cs.length) (by omega)).1, (own_clamp (n := ds.length) (by omega)).1, show (0 : Int32).toNatClampNeg = 0 from by decide, own_range _ (by simp)]
  have e1 : (fill cs cap).take cs.length = cs.map fun c => Value.int (c.toInt8.toInt32) := by simp [fill]
  have e2 : (fill cs cap).drop (cs.length + ds.length) = List.replicate (cap - (cs ++ ds).length) (Value.int (0 : Int32)) := by
    rw [fill, List.drop_append, List.drop_eq_nil_of_le (by simp), List.nil_append, List.length_map, List.drop_replicate, List.length_append]
    congr 1
    omega
  rw [e1, e2, fill, List.map_append, List.take_of_length_le (by simp)]
/-- the law of a copy out of it -/
theorem fill_out {cs : List Int32} {cap : Nat} {dv : Value} (h : cs.length ≤ cap) (hc : cap ≤ 100000) :
    ((List.replicate cs.length (Value.int (0 : Int32))).take (0 : Int32).toNatClampNeg ++ ((List.range (Int32.ofNat cs.length).toNatClampNeg).map fun i => (fill cs cap).getD ((0 : Int32).toNatClampNeg + i) dv) ++ (List.replicate cs.length (Value.int (0 : Int32))).drop ((0 : Int32).toNatClampNeg + (Int32.ofNat cs.length).toNatClampNeg)) = cs.map fun c => Value.int (c.toInt8.toInt32) := by
  rw [(own_clamp (n := cs.length) (by omega)).1, show (0 : Int32).toNatClampNeg = 0 from by decide, own_range _ (by rw [fill_length h]; exact h)]
  simp [fill]
/-- a builder: its array (of cap bytes) lies at t -/
def Bld (Z : State) (h : Heap) (x t : Addr) (kb : ClassId) (cs : List Int32) (cap : Nat) : Prop :=
  Exa Z h x "java/lang/StringBuilder" ∧ Fld Z h x "java/lang/AbstractStringBuilder" "value" "[B" (.ref t) ∧ Fld Z h x "java/lang/AbstractStringBuilder" "coder" "B" (.int 0) ∧ Fld Z h x "java/lang/AbstractStringBuilder" "count" "I" (.int (Int32.ofNat cs.length)) ∧ Arv Z h t kb .byte (Int32.ofNat cap) (fill cs cap) (.int 0)
theorem Bld.keep {Z : State} {h h' : Heap} {x t : Addr} {kb : ClassId} {cs : List Int32} {cap : Nat} {ws : List Addr} (F : Bld Z h x t kb cs cap) (K : Keep h h' ws) (q1 : x ∉ ws) (q2 : t ∉ ws) : Bld Z h' x t kb cs cap :=
  ⟨F.1.keep K, F.2.1.keep K q1, F.2.2.1.keep K q1, F.2.2.2.1.keep K q1, F.2.2.2.2.keep K q2⟩
theorem own_chr : ∀ k : Fin 256, nar .char ((((Int32.ofNat k.val).toInt8.toInt32) &&& (255 : Int32)).toUInt32.toUInt16.toUInt32.toInt32) = Int32.ofNat k.val := by decide +kernel
theorem own_in {c : Int32} (h : ¬ c < 0 ∧ ¬ (255 : Int32) < c) : ∃ k : Fin 256, c = Int32.ofNat k.val := by
  have z : (0 : Int32).toInt = 0 := by decide
  have y : (255 : Int32).toInt = 255 := by decide
  rw [Int32.lt_iff_toInt_lt, Int32.lt_iff_toInt_lt, z, y] at h
  refine ⟨⟨c.toInt.toNat, by omega⟩, ?_⟩
  apply Int32.toInt_inj.mp
  rw [(own_clamp (n := c.toInt.toNat) (by omega)).2.2]
  omega
theorem own_chr_of {c : Int32} (h : ¬ c < 0 ∧ ¬ (255 : Int32) < c) : nar .char (((c.toInt8.toInt32) &&& (255 : Int32)).toUInt32.toUInt16.toUInt32.toInt32) = c := by
  obtain ⟨k, rfl⟩ := own_in h
  exact own_chr k
theorem own_get {ds : List Int32} {i : Int32} (h0 : ¬ i < 0) (h1 : i < Int32.ofNat ds.length) (h4 : ds.length ≤ 4000) : (ds.map fun c => Value.int (c.toInt8.toInt32)).getD i.toNatClampNeg (.int 0) = .int ((ds.getD i.toNatClampNeg 0).toInt8.toInt32) ∧ ds.getD i.toNatClampNeg 0 ∈ ds := by
  have z : (0 : Int32).toInt = 0 := by decide
  have e := (own_clamp (n := ds.length) (by omega)).2.2
  rw [Int32.lt_iff_toInt_lt, z] at h0
  rw [Int32.lt_iff_toInt_lt, e] at h1
  have hi : i.toNatClampNeg < ds.length := by show i.toInt.toNat < ds.length; omega
  refine ⟨?_, ?_⟩
  · simp [List.getD_eq_getElem?_getD, hi]
  · rw [List.getD_eq_getElem?_getD, List.getElem?_eq_getElem hi]; exact List.getElem_mem hi
theorem own_narC256 : ∀ k : Fin 256, nar .char (Int32.ofNat k.val) = Int32.ofNat k.val := by decide +kernel
theorem own_narC {c : Int32} (h : ¬ c < 0 ∧ ¬ (255 : Int32) < c) : nar .char c = c := by
  obtain ⟨k, rfl⟩ := own_in h
  exact own_narC256 k
def Sio (Z : State) : Prop := ∃ v, Sta Z Z.heap "jdk/internal/util/Preconditions" "SIOOBE_FORMATTER" "Ljava/util/function/BiFunction;" v ∧ v.category = 1
def LC : List (String × Nat × String) × (Array (Array UInt16 × Addr) → Prop) := ([("com/example/asterism/asterism/eac/NameFormNotePinLaw", 32, ""), ("com/example/asterism/asterism/eac/EacCpf$NameForm", 25, ": ")], fun _ => True)
theorem own_atoms {Z : State} {a0 : Array Value} (hw : ∀ d ∈ tables_1, d.before a0 Z = true) : ∀ a ∈ Bundle.stringAtoms, a.before a0 Z = true := by
  intro d hd
  simp only [Bundle.stringAtoms, List.mem_cons, List.not_mem_nil, or_false] at hd
  rcases hd with rfl | rfl | rfl | rfl | rfl | rfl | rfl
  · exact hw _ (List.mem_of_getElem? (i := 6) rfl)
  · exact hw _ (List.mem_of_getElem? (i := 5) rfl)
  · exact hw _ (List.mem_of_getElem? (i := 23) rfl)
  · exact hw _ (List.mem_of_getElem? (i := 33) rfl)
  · exact hw _ (List.mem_of_getElem? (i := 31) rfl)
  · exact hw _ (List.mem_of_getElem? (i := 35) rfl)
  · exact hw _ (List.mem_of_getElem? (i := 36) rfl)
theorem own_lits {Z : State} {a0 : Array Value} (hw : ∀ d ∈ tables_1, d.before a0 Z = true) (hh : Jvm.Lit.constsHeld consts_1 Z) (hcw : Jvm.Lit.compactW.before a0 Z = true) : ∀ d ∈ LC.1, Jvm.OwnW.LitW Z a0 d := by
  have wi : (Cond.instantiable "java/lang/String" 4).before a0 Z = true := (hw _ (List.mem_of_getElem? (i := 5) rfl))
  have wa : (Cond.arrayClass .byte).before a0 Z = true := (hw _ (List.mem_of_getElem? (i := 23) rfl))
  intro d hd
  simp only [LC, List.mem_cons, List.not_mem_nil, or_false] at hd
  rcases hd with rfl | rfl
  · have w1 : (Cond.stringLink "com/example/asterism/asterism/eac/NameFormNotePinLaw" 32 "").before a0 Z = true := (hw _ (List.mem_of_getElem? (i := 34) rfl))
    refine ⟨w1, by decide +kernel, by decide +kernel, heldStart (hh _ (List.mem_of_getElem? (i := 1) rfl)) w1 (by decide +kernel) hcw wa wi, Jvm.OwnW.own_found w1⟩
  · have w1 : (Cond.stringLink "com/example/asterism/asterism/eac/EacCpf$NameForm" 25 ": ").before a0 Z = true := (hw _ (List.mem_of_getElem? (i := 123) rfl))
    refine ⟨w1, by decide +kernel, by decide +kernel, heldStart (hh _ (List.mem_of_getElem? (i := 0) rfl)) w1 (by decide +kernel) hcw wa wi, Jvm.OwnW.own_found w1⟩
theorem d_jdk_43_method_3_0 : decode jdk_43_method_3_code 0 = .ok (.iload_n 0, 1) := by decide +kernel
theorem d_jdk_43_method_3_1 : decode jdk_43_method_3_code 1 = .ok (.sipush 255, 3) := by decide +kernel
theorem d_jdk_43_method_3_4 : decode jdk_43_method_3_code 4 = .ok (.if_icmp .gt 7, 3) := by decide +kernel
theorem d_jdk_43_method_3_7 : decode jdk_43_method_3_code 7 = .ok (.iconst 1, 1) := by decide +kernel
theorem d_jdk_43_method_3_8 : decode jdk_43_method_3_code 8 = .ok (.goto 4, 3) := by decide +kernel
theorem d_jdk_43_method_3_12 : decode jdk_43_method_3_code 12 = .ok (.ireturn, 1) := by decide +kernel
theorem pn_java_lang_StringLatin1 : plainName "java/lang/StringLatin1" = true := by first | (simp [plainName, overriddenIn]; done) | decide +kernel
set_option maxRecDepth 65536 in
set_option maxHeartbeats 40000000 in
theorem own_can (l : Launch) (Z : State) (a0 : Array Value) (hw : ∀ d ∈ tables_1, d.before a0 Z = true) (ch : Int32) (h0 : Heap) (n0 : Nat) (Z0 : n0 ≤ h0.size) (hc : ¬ ((255 : Int32) < ch)) :
    Jvm.OwnN.Con l Z (⟨"java/lang/StringLatin1", "canEncode", "(C)Z"⟩ : MethodName) jdk_43_method_3_code 1 (some .boolean) ({ frames := 0, cells := 0, slots := 0, locals := 0 } : Room) n0 #[(.int ch)] h0 (fun v h => v = some (.int (1 : Int32)) ∧ h0 = h) := by
  refine Jvm.OwnN.Con.intro (plainFor_of_name pn_java_lang_StringLatin1) ?_
  intro p e s m below meth c s₁ hx hby hml hret hnm hown hlk hZ P0
  refine Jvm.OwnN.Aim.cast (by first | (simp [entryFrame, mkF, argsToLocals, Value.category]; done) | rfl : entryFrame m #[(.int ch)] 1 = (mkF m 0 #[.val (.int ch)] [])) ?_
  have H := P0.here
  refine Jvm.OwnN.Aim.of (T := s₁) (T' := s₁) (g := (mkF m 0 #[.val (.int ch)] [])) (g' := (mkF m 12 #[.val (.int ch)] [(.int (1 : Int32))])) (fun tgt kt => ?_) ?_
  · show Steps p.tables e below (s₁.setTop (mkF m 0 #[.val (.int ch)] [])) tgt
    refine XS.iloadN H hx rfl (hb hby d_jdk_43_method_3_0) rfl ?_
    show Steps p.tables e below (s₁.setTop (mkF m 1 #[.val (.int ch)] [(.int ch)])) tgt
    refine XS.sipush H hx rfl (hb hby d_jdk_43_method_3_1) ?_
    show Steps p.tables e below (s₁.setTop (mkF m 4 #[.val (.int ch)] [(.int (255 : Int32)), (.int ch)])) tgt
    refine XS.icmpNo H hx rfl (hb hby d_jdk_43_method_3_4) rfl (flt hc).2.2.1 ?_
    show Steps p.tables e below (s₁.setTop (mkF m 7 #[.val (.int ch)] [])) tgt
    refine XS.iconst H hx rfl (hb hby d_jdk_43_method_3_7) ?_
    show Steps p.tables e below (s₁.setTop (mkF m 8 #[.val (.int ch)] [(.int (1 : Int32))])) tgt
    refine XS.goto H hx rfl (pc0 := 8) (pc' := 12) rfl (hb hby d_jdk_43_method_3_8) (by decide) (by decide) ?_
    exact kt
  clear H
  exact Jvm.OwnN.Aim.retN (t := .boolean) P0 hx hlk hret (by simp) (hb hby d_jdk_43_method_3_12) (by decide) (by decide) ⟨rfl, rfl⟩
theorem d_jdk_43_method_46_0 : decode jdk_43_method_46_code 0 = .ok (.iconst 1, 1) := by decide +kernel
theorem d_jdk_43_method_46_1 : decode jdk_43_method_46_code 1 = .ok (.newarray .byte, 2) := by decide +kernel
theorem d_jdk_43_method_46_3 : decode jdk_43_method_46_code 3 = .ok (.dup, 1) := by decide +kernel
theorem d_jdk_43_method_46_4 : decode jdk_43_method_46_code 4 = .ok (.iconst 0, 1) := by decide +kernel
theorem d_jdk_43_method_46_5 : decode jdk_43_method_46_code 5 = .ok (.iload_n 0, 1) := by decide +kernel
theorem d_jdk_43_method_46_6 : decode jdk_43_method_46_code 6 = .ok (.i2b, 1) := by decide +kernel
theorem d_jdk_43_method_46_7 : decode jdk_43_method_46_code 7 = .ok (.bastore, 1) := by decide +kernel
theorem d_jdk_43_method_46_8 : decode jdk_43_method_46_code 8 = .ok (.areturn, 1) := by decide +kernel
set_option maxRecDepth 65536 in
set_option maxHeartbeats 40000000 in
theorem own_toB (l : Launch) (Z : State) (a0 : Array Value) (hw : ∀ d ∈ tables_1, d.before a0 Z = true) (ch : Int32) (h0 : Heap) (n0 : Nat) (Z0 : n0 ≤ h0.size) :
    Jvm.OwnN.Con l Z (⟨"java/lang/StringLatin1", "toBytes", "(C)[B"⟩ : MethodName) jdk_43_method_46_code 1 (some (.array .byte)) ({ frames := 0, cells := 1, slots := 1, locals := 0 } : Room) n0 #[(.int ch)] h0 (fun v h => ∃ b : Addr, ∃ kk : ClassId, v = some (.ref b) ∧ Keep h0 h [] ∧ h0.size ≤ b ∧ Arv Z h b kk .byte (1 : Int32) [(.int ch.toInt8.toInt32)] (.int 0)) := by
  refine Jvm.OwnN.Con.intro (plainFor_of_name pn_java_lang_StringLatin1) ?_
  intro p e s m below meth c s₁ hx hby hml hret hnm hown hlk hZ P0
  refine Jvm.OwnN.Aim.cast (by first | (simp [entryFrame, mkF, argsToLocals, Value.category]; done) | rfl : entryFrame m #[(.int ch)] 1 = (mkF m 0 #[.val (.int ch)] [])) ?_
  have H := P0.here
  refine Jvm.OwnN.Aim.of (T := s₁) (T' := s₁) (g := (mkF m 0 #[.val (.int ch)] [])) (g' := (mkF m 1 #[.val (.int ch)] [(.int (1 : Int32))])) (fun tgt kt => ?_) ?_
  · show Steps p.tables e below (s₁.setTop (mkF m 0 #[.val (.int ch)] [])) tgt
    refine XS.iconst H hx rfl (hb hby d_jdk_43_method_46_0) ?_
    exact kt
  clear H
  refine Jvm.OwnN.Aim.newP (pc := 1) (Ls := #[.val (.int ch)]) (st := []) (z := (1 : Int32)) P0 hx hZ (hw _ (List.mem_of_getElem? (i := 23) rfl)) (hb hby d_jdk_43_method_46_1) (by decide) (cap := 1) (by decide) (by decide) (by decide) (by decide) ?_
  intro T1 h2 k3 b4 g8 P5 E6 V7
  have K10 : Keep h0 h2 [] := (Keep.refl _ _).ext E6
  have K11 : Keep h0 h2 [] := (Keep.refl h0 []).trans K10 all0
  have V12 : Arv Z h2 b4 k3 .byte (1 : Int32) [(.int (0 : Int32))] (.int (0 : Int32)) := V7.pad (pad_rep [] (.int (0 : Int32)) 1)
  show Jvm.OwnN.Aim p e below s _ _ n0 _ T1 (mkF m 3 #[.val (.int ch)] [(.ref b4)])
  have H := P5.here
  refine Jvm.OwnN.Aim.of (T := T1) (T' := T1) (g := (mkF m 3 #[.val (.int ch)] [(.ref b4)])) (g' := (mkF m 7 #[.val (.int ch)] [(.int (ch.toInt8.toInt32)), (.int (0 : Int32)), (.ref b4), (.ref b4)])) (fun tgt kt => ?_) ?_
  · show Steps p.tables e below (T1.setTop (mkF m 3 #[.val (.int ch)] [(.ref b4)])) tgt
    refine XS.dup H hx rfl (hb hby d_jdk_43_method_46_3) rfl rfl ?_
    show Steps p.tables e below (T1.setTop (mkF m 4 #[.val (.int ch)] [(.ref b4), (.ref b4)])) tgt
    refine XS.iconst H hx rfl (hb hby d_jdk_43_method_46_4) ?_
    show Steps p.tables e below (T1.setTop (mkF m 5 #[.val (.int ch)] [(.int (0 : Int32)), (.ref b4), (.ref b4)])) tgt
    refine XS.iloadN H hx rfl (hb hby d_jdk_43_method_46_5) rfl ?_
    show Steps p.tables e below (T1.setTop (mkF m 6 #[.val (.int ch)] [(.int ch), (.int (0 : Int32)), (.ref b4), (.ref b4)])) tgt
    refine XS.i2b H hx rfl (hb hby d_jdk_43_method_46_6) rfl ?_
    exact kt
  clear H
  refine Jvm.OwnN.Aim.stB (pc := 7) (Ls := #[.val (.int ch)]) (st := [(.ref b4)]) (x := (ch.toInt8.toInt32)) (j := (0 : Int32)) P5 hx hZ V12 ⟨by decide, by decide⟩ 0 rfl (Nat.le_of_ble_eq_true rfl) (hb hby d_jdk_43_method_46_7) (Nat.le_trans Z0 (Nat.le_of_eq g8.symm)) ?_
  intro T13 h14 P15 K16 V17
  replace V17 : Arv Z h14 b4 k3 .byte (1 : Int32) [(.int (ch.toInt8.toInt32).toInt8.toInt32)] (.int (0 : Int32)) := V17
  have K18 : Keep h0 h14 [] := K11.trans K16 (allS (Or.inr (Nat.le_trans (Nat.le_refl _) (Nat.le_of_eq g8.symm))) all0)
  show Jvm.OwnN.Aim p e below s _ _ n0 _ T13 (mkF m 8 #[.val (.int ch)] [(.ref b4)])
  exact Jvm.OwnN.Aim.retA P15 hx hlk hret rfl rfl (hb hby d_jdk_43_method_46_8) (by decide) (by decide) ⟨b4, k3, rfl, K18, (Nat.le_trans (Nat.le_refl _) (Nat.le_of_eq g8.symm)), (own_i8 ch ▸ V17)⟩
theorem d_jdk_42_method_151_0 : decode jdk_42_method_151_code 0 = .ok (.aload_n 0, 1) := by decide +kernel
theorem d_jdk_42_method_151_1 : decode jdk_42_method_151_code 1 = .ok (.invokespecial 1, 3) := by decide +kernel
theorem d_jdk_42_method_151_4 : decode jdk_42_method_151_code 4 = .ok (.aload_n 0, 1) := by decide +kernel
theorem d_jdk_42_method_151_5 : decode jdk_42_method_151_code 5 = .ok (.aload_n 1, 1) := by decide +kernel
theorem d_jdk_42_method_151_6 : decode jdk_42_method_151_code 6 = .ok (.putfield 9, 3) := by decide +kernel
theorem d_jdk_42_method_151_9 : decode jdk_42_method_151_code 9 = .ok (.aload_n 0, 1) := by decide +kernel
theorem d_jdk_42_method_151_10 : decode jdk_42_method_151_code 10 = .ok (.iload_n 2, 1) := by decide +kernel
theorem d_jdk_42_method_151_11 : decode jdk_42_method_151_code 11 = .ok (.putfield 15, 3) := by decide +kernel
theorem d_jdk_42_method_151_14 : decode jdk_42_method_151_code 14 = .ok (.return_, 1) := by decide +kernel
theorem pn_java_lang_String : plainName "java/lang/String" = true := by first | (simp [plainName, overriddenIn]; done) | decide +kernel
set_option maxRecDepth 65536 in
set_option maxHeartbeats 40000000 in
theorem own_sBB (l : Launch) (Z : State) (a0 : Array Value) (hw : ∀ d ∈ tables_1, d.before a0 Z = true) (x : Addr) (b : Addr) (v0 : Value) (c0 : Value) (h0 : Heap) (n0 : Nat) (Z0 : n0 ≤ h0.size) (g_x : n0 ≤ x) (F0 : Exa Z h0 x "java/lang/String") (F1 : Fld Z h0 x "java/lang/String" "value" "[B" v0) (F2 : Fld Z h0 x "java/lang/String" "coder" "B" c0) :
    Jvm.OwnN.Con l Z (⟨"java/lang/String", "<init>", "([BB)V"⟩ : MethodName) jdk_42_method_151_code 3 none ({ frames := 1, cells := 0, slots := 0, locals := 12 } : Room) n0 #[(.ref x), (.ref b), (.int (0 : Int32))] h0 (fun v h => v = none ∧ Keep h0 h [x] ∧ Exa Z h x "java/lang/String" ∧ Fld Z h x "java/lang/String" "value" "[B" (.ref b) ∧ Fld Z h x "java/lang/String" "coder" "B" (.int (0 : Int32))) := by
  refine Jvm.OwnN.Con.intro (plainFor_of_name pn_java_lang_String) ?_
  intro p e s m below meth c s₁ hx hby hml hret hnm hown hlk hZ P0
  refine Jvm.OwnN.Aim.cast (by first | (simp [entryFrame, mkF, argsToLocals, Value.category]; done) | rfl : entryFrame m #[(.ref x), (.ref b), (.int (0 : Int32))] 3 = (mkF m 0 #[.val (.ref x), .val (.ref b), .val (.int (0 : Int32))] [])) ?_
  have H := P0.here
  refine Jvm.OwnN.Aim.of (T := s₁) (T' := s₁) (g := (mkF m 0 #[.val (.ref x), .val (.ref b), .val (.int (0 : Int32))] [])) (g' := (mkF m 1 #[.val (.ref x), .val (.ref b), .val (.int (0 : Int32))] [(.ref x)])) (fun tgt kt => ?_) ?_
  · show Steps p.tables e below (s₁.setTop (mkF m 0 #[.val (.ref x), .val (.ref b), .val (.int (0 : Int32))] [])) tgt
    refine XS.aloadN H hx rfl (hb hby d_jdk_42_method_151_0) rfl rfl ?_
    exact kt
  clear H
  refine Jvm.OwnN.Aim.initO (pc := 1) (Ls := #[.val (.ref x), .val (.ref b), .val (.int (0 : Int32))]) (st := []) P0 hx hZ hml hown (hw _ (List.mem_of_getElem? (i := 15) rfl)) (hw _ (List.mem_of_getElem? (i := 16) rfl)) (hw _ (List.mem_of_getElem? (i := 17) rfl)) rfl (hb hby d_jdk_42_method_151_1) (by decide) (Nat.le_of_ble_eq_true rfl) ?_
  intro T19 P20
  show Jvm.OwnN.Aim p e below s _ _ n0 _ T19 (mkF m 4 #[.val (.ref x), .val (.ref b), .val (.int (0 : Int32))] [])
  have H := P20.here
  refine Jvm.OwnN.Aim.of (T := T19) (T' := T19) (g := (mkF m 4 #[.val (.ref x), .val (.ref b), .val (.int (0 : Int32))] [])) (g' := (mkF m 6 #[.val (.ref x), .val (.ref b), .val (.int (0 : Int32))] [(.ref b), (.ref x)])) (fun tgt kt => ?_) ?_
  · show Steps p.tables e below (T19.setTop (mkF m 4 #[.val (.ref x), .val (.ref b), .val (.int (0 : Int32))] [])) tgt
    refine XS.aloadN H hx rfl (hb hby d_jdk_42_method_151_4) rfl rfl ?_
    show Steps p.tables e below (T19.setTop (mkF m 5 #[.val (.ref x), .val (.ref b), .val (.int (0 : Int32))] [(.ref x)])) tgt
    refine XS.aloadN H hx rfl (hb hby d_jdk_42_method_151_5) rfl rfl ?_
    exact kt
  clear H
  refine Jvm.OwnN.Aim.putF (pc := 6) (Ls := #[.val (.ref x), .val (.ref b), .val (.int (0 : Int32))]) (st := []) (v := (.ref b)) P20 hx hZ hown (host := "") (Or.inl (hw _ (List.mem_of_getElem? (i := 32) rfl))) Via.refl F1 F0 (Or.inr ⟨(hw _ (List.mem_of_getElem? (i := 33) rfl)), rfl, hnm⟩) (hw _ (List.mem_of_getElem? (i := 5) rfl)) (ty := (.array .byte)) (by decide) rfl rfl (hb hby d_jdk_42_method_151_6) g_x ?_
  intro T21 h22 P23 W24
  have K25 := Keep.of_wr W24
  have F26 : Fld Z h22 x "java/lang/String" "value" "[B" (.ref b) := F1.same W24
  have K27 : Keep h0 h22 [x] := (Keep.refl h0 [x]).trans K25 (allS (Or.inl (List.mem_of_getElem? (i := 0) rfl)) all0)
  show Jvm.OwnN.Aim p e below s _ _ n0 _ T21 (mkF m 9 #[.val (.ref x), .val (.ref b), .val (.int (0 : Int32))] [])
  have H := P23.here
  refine Jvm.OwnN.Aim.of (T := T21) (T' := T21) (g := (mkF m 9 #[.val (.ref x), .val (.ref b), .val (.int (0 : Int32))] [])) (g' := (mkF m 11 #[.val (.ref x), .val (.ref b), .val (.int (0 : Int32))] [(.int (0 : Int32)), (.ref x)])) (fun tgt kt => ?_) ?_
  · show Steps p.tables e below (T21.setTop (mkF m 9 #[.val (.ref x), .val (.ref b), .val (.int (0 : Int32))] [])) tgt
    refine XS.aloadN H hx rfl (hb hby d_jdk_42_method_151_9) rfl rfl ?_
    show Steps p.tables e below (T21.setTop (mkF m 10 #[.val (.ref x), .val (.ref b), .val (.int (0 : Int32))] [(.ref x)])) tgt
    refine XS.iloadN H hx rfl (hb hby d_jdk_42_method_151_10) rfl ?_
    exact kt
  clear H
  have F28 : Exa Z h22 x "java/lang/String" := (F0.keep K25)
  have F29 : Fld Z h22 x "java/lang/String" "coder" "B" c0 := (F2.other W24 (Or.inr (slot_ne (Or.inr (hw _ (List.mem_of_getElem? (i := 31) rfl))) (Or.inr (hw _ (List.mem_of_getElem? (i := 33) rfl))) (by decide) (t := .byte) (t' := (.array .byte)) (by decide) (by decide))))
  refine Jvm.OwnN.Aim.putF (pc := 11) (Ls := #[.val (.ref x), .val (.ref b), .val (.int (0 : Int32))]) (st := []) (v := (.int (0 : Int32))) P23 hx hZ hown (host := "") (Or.inl (hw _ (List.mem_of_getElem? (i := 30) rfl))) Via.refl F29 F28 (Or.inr ⟨(hw _ (List.mem_of_getElem? (i := 31) rfl)), rfl, hnm⟩) (hw _ (List.mem_of_getElem? (i := 5) rfl)) (ty := .byte) (by decide) rfl rfl (hb hby d_jdk_42_method_151_11) g_x ?_
  intro T30 h31 P32 W33
  have K34 := Keep.of_wr W33
  have F35 : Fld Z h31 x "java/lang/String" "coder" "B" (.int (0 : Int32)) := F29.same W33
  have K36 : Keep h0 h31 [x] := K27.trans K34 (allS (Or.inl (List.mem_of_getElem? (i := 0) rfl)) all0)
  show Jvm.OwnN.Aim p e below s _ _ n0 _ T30 (mkF m 14 #[.val (.ref x), .val (.ref b), .val (.int (0 : Int32))] [])
  have F37 : Exa Z h31 x "java/lang/String" := (F28.keep K34)
  have F38 : Fld Z h31 x "java/lang/String" "value" "[B" (.ref b) := (F26.other W33 (Or.inr (slot_ne (Or.inr (hw _ (List.mem_of_getElem? (i := 33) rfl))) (Or.inr (hw _ (List.mem_of_getElem? (i := 31) rfl))) (by decide) (t := (.array .byte)) (t' := .byte) (by decide) (by decide))))
  exact Jvm.OwnN.Aim.retV P32 hx hlk hret (hb hby d_jdk_42_method_151_14) (by decide) (by decide) ⟨rfl, K36, F37, F38, F35⟩
theorem d_jdk_42_method_139_0 : decode jdk_42_method_139_code 0 = .ok (.getstatic 38, 3) := by decide +kernel
theorem d_jdk_42_method_139_3 : decode jdk_42_method_139_code 3 = .ok (.ifCond .eq 23, 3) := by decide +kernel
theorem d_jdk_42_method_139_6 : decode jdk_42_method_139_code 6 = .ok (.iload_n 0, 1) := by decide +kernel
theorem d_jdk_42_method_139_7 : decode jdk_42_method_139_code 7 = .ok (.invokestatic 1015, 3) := by decide +kernel
theorem pd__28C_29Z : parseMethodDescriptor "(C)Z" = some ⟨[.char], some .boolean⟩ := by decide +kernel
theorem d_jdk_42_method_139_10 : decode jdk_42_method_139_code 10 = .ok (.ifCond .eq 16, 3) := by decide +kernel
theorem d_jdk_42_method_139_13 : decode jdk_42_method_139_code 13 = .ok (.new 10, 3) := by decide +kernel
theorem d_jdk_42_method_139_16 : decode jdk_42_method_139_code 16 = .ok (.dup, 1) := by decide +kernel
theorem d_jdk_42_method_139_17 : decode jdk_42_method_139_code 17 = .ok (.iload_n 0, 1) := by decide +kernel
theorem d_jdk_42_method_139_18 : decode jdk_42_method_139_code 18 = .ok (.invokestatic 1018, 3) := by decide +kernel
theorem pd__28C_29_5bB : parseMethodDescriptor "(C)[B" = some ⟨[.char], some (.array .byte)⟩ := by decide +kernel
theorem d_jdk_42_method_139_21 : decode jdk_42_method_139_code 21 = .ok (.iconst 0, 1) := by decide +kernel
theorem d_jdk_42_method_139_22 : decode jdk_42_method_139_code 22 = .ok (.invokespecial 209, 3) := by decide +kernel
theorem pd__28_5bBB_29V : parseMethodDescriptor "([BB)V" = some ⟨[(.array .byte), .byte], none⟩ := by decide +kernel
theorem d_jdk_42_method_139_25 : decode jdk_42_method_139_code 25 = .ok (.areturn, 1) := by decide +kernel
set_option maxRecDepth 65536 in
set_option maxHeartbeats 40000000 in
theorem own_valueOf (l : Launch) (Z : State) (a0 : Array Value) (hw : ∀ d ∈ tables_1, d.before a0 Z = true) (ch : Int32) (h0 : Heap) (n0 : Nat) (Z0 : n0 ≤ h0.size) (F0 : Old Z n0 h0) (hc : ¬ ch < 0 ∧ ¬ (255 : Int32) < ch) (G : Cmp Z) :
    Jvm.OwnN.Con l Z (⟨"java/lang/String", "valueOf", "(C)Ljava/lang/String;"⟩ : MethodName) jdk_42_method_139_code 1 (some (.object "java/lang/String")) ({ frames := 2, cells := 2, slots := 5, locals := 27 } : Room) n0 #[(.int ch)] h0 (fun v h => ∃ x : Addr, ∃ t : Addr, ∃ kb : ClassId, v = some (.ref x) ∧ Keep h0 h [] ∧ h0.size ≤ x ∧ h0.size ≤ t ∧ Str Z h x t kb [ch]) := by
  refine Jvm.OwnN.Con.intro (plainFor_of_name pn_java_lang_String) ?_
  intro p e s m below meth c s₁ hx hby hml hret hnm hown hlk hZ P0
  refine Jvm.OwnN.Aim.cast (by first | (simp [entryFrame, mkF, argsToLocals, Value.category]; done) | rfl : entryFrame m #[(.int ch)] 1 = (mkF m 0 #[.val (.int ch)] [])) ?_
  obtain ⟨zc, hzc, Szc⟩ := id G
  refine Jvm.OwnN.Aim.getS (pc := 0) (Ls := #[.val (.int ch)]) (st := []) P0 hx hZ hown (hw _ (List.mem_of_getElem? (i := 18) rfl)) Via.refl (Szc.ext F0.2) (hb hby d_jdk_42_method_139_0) ?_
  intro T39 P40
  show Jvm.OwnN.Aim p e below s _ _ n0 _ T39 (mkF m 3 #[.val (.int ch)] [(.int zc)])
  have H := P40.here
  refine Jvm.OwnN.Aim.of (T := T39) (T' := T39) (g := (mkF m 3 #[.val (.int ch)] [(.int zc)])) (g' := (mkF m 7 #[.val (.int ch)] [(.int ch)])) (fun tgt kt => ?_) ?_
  · show Steps p.tables e below (T39.setTop (mkF m 3 #[.val (.int ch)] [(.int zc)])) tgt
    refine XS.ifNo H hx rfl (hb hby d_jdk_42_method_139_3) rfl ((if0 _ _).trans (feq hzc).1) ?_
    show Steps p.tables e below (T39.setTop (mkF m 6 #[.val (.int ch)] [])) tgt
    refine XS.iloadN H hx rfl (hb hby d_jdk_42_method_139_6) rfl ?_
    exact kt
  clear H
  refine Jvm.OwnN.Aim.callS (pc := 7) (Ls := #[.val (.int ch)]) (argsL := [(.int ch)]) (rest := []) P40 hx hZ hml hown (hw _ (List.mem_of_getElem? (i := 201) rfl)) (hw _ (List.mem_of_getElem? (i := 202) rfl)) (hw _ (List.mem_of_getElem? (i := 185) rfl)) (hw _ (List.mem_of_getElem? (i := 203) rfl)) (by decide) (Jvm.OwnN.Con.back (W := 0) (own_can l Z a0 hw ch h0 n0 Z0 (hc.2)) hZ (hw _ (List.mem_of_getElem? (i := 203) rfl)) (hw _ (List.mem_of_getElem? (i := 185) rfl)) (by decide) (by decide)) rfl pd__28C_29Z rfl (Nat.le_of_eq rfl) (hb hby d_jdk_42_method_139_7) (by decide) (by decide) ?_
  intro T41 h42 v45 P43 hQ44
  obtain ⟨rfl, rfl⟩ := hQ44
  show Jvm.OwnN.Aim p e below s _ _ n0 _ T41 (mkF m 10 #[.val (.int ch)] [(.int (1 : Int32))])
  have H := P43.here
  refine Jvm.OwnN.Aim.of (T := T41) (T' := T41) (g := (mkF m 10 #[.val (.int ch)] [(.int (1 : Int32))])) (g' := (mkF m 13 #[.val (.int ch)] [])) (fun tgt kt => ?_) ?_
  · show Steps p.tables e below (T41.setTop (mkF m 10 #[.val (.int ch)] [(.int (1 : Int32))])) tgt
    refine XS.ifNo H hx rfl (hb hby d_jdk_42_method_139_10) rfl ((if0 _ _).trans (feq (by decide)).1) ?_
    exact kt
  clear H
  refine Jvm.OwnN.Aim.newO (pc := 13) (Ls := #[.val (.int ch)]) (st := []) P43 hx hZ hown (hw _ (List.mem_of_getElem? (i := 204) rfl)) (hw _ (List.mem_of_getElem? (i := 5) rfl)) (hw _ (List.mem_of_getElem? (i := 6) rfl)) (hb hby d_jdk_42_method_139_13) (by decide) (by decide) ?_
  intro T48 h49 b50 g56 P51 E52 E53 D54 U55
  have K57 : Keep h0 h49 [] := (Keep.refl _ _).ext E52
  have K58 : Keep h0 h49 [] := (Keep.refl h0 []).trans K57 all0
  have F59 : Fld Z h49 b50 "java/lang/String" "coder" "B" (.int (0 : Int32)) := D54 (Or.inr (hw _ (List.mem_of_getElem? (i := 31) rfl))) (ty := .byte) (by decide)
  have F60 : Fld Z h49 b50 "java/lang/String" "value" "[B" .null := D54 (Or.inr (hw _ (List.mem_of_getElem? (i := 33) rfl))) (ty := (.array .byte)) (by decide)
  show Jvm.OwnN.Aim p e below s _ _ n0 _ T48 (mkF m 16 #[.val (.int ch)] [(.ref b50)])
  have H := P51.here
  refine Jvm.OwnN.Aim.of (T := T48) (T' := T48) (g := (mkF m 16 #[.val (.int ch)] [(.ref b50)])) (g' := (mkF m 18 #[.val (.int ch)] [(.int ch), (.ref b50), (.ref b50)])) (fun tgt kt => ?_) ?_
  · show Steps p.tables e below (T48.setTop (mkF m 16 #[.val (.int ch)] [(.ref b50)])) tgt
    refine XS.dup H hx rfl (hb hby d_jdk_42_method_139_16) rfl rfl ?_
    show Steps p.tables e below (T48.setTop (mkF m 17 #[.val (.int ch)] [(.ref b50), (.ref b50)])) tgt
    refine XS.iloadN H hx rfl (hb hby d_jdk_42_method_139_17) rfl ?_
    exact kt
  clear H
  refine Jvm.OwnN.Aim.callS (pc := 18) (Ls := #[.val (.int ch)]) (argsL := [(.int ch)]) (rest := [(.ref b50), (.ref b50)]) P51 hx hZ hml hown (hw _ (List.mem_of_getElem? (i := 205) rfl)) (hw _ (List.mem_of_getElem? (i := 206) rfl)) (hw _ (List.mem_of_getElem? (i := 185) rfl)) (hw _ (List.mem_of_getElem? (i := 207) rfl)) (by decide) (Jvm.OwnN.Con.back (W := 2) (own_toB l Z a0 hw ch h49 n0 (Nat.le_trans Z0 (K58.1))) hZ (hw _ (List.mem_of_getElem? (i := 207) rfl)) (hw _ (List.mem_of_getElem? (i := 185) rfl)) (by decide) (by decide)) rfl pd__28C_29_5bB rfl (Nat.le_of_eq rfl) (hb hby d_jdk_42_method_139_18) (by decide) (by decide) ?_
  intro T61 h62 v65 P63 hQ64
  obtain ⟨b_68, kk_69, rfl, K70, g71, F72⟩ := hQ64
  have K73 : Keep h0 h62 [] := K58.trans K70 all0
  show Jvm.OwnN.Aim p e below s _ _ n0 _ T61 (mkF m 21 #[.val (.int ch)] [(.ref b_68), (.ref b50), (.ref b50)])
  have H := P63.here
  refine Jvm.OwnN.Aim.of (T := T61) (T' := T61) (g := (mkF m 21 #[.val (.int ch)] [(.ref b_68), (.ref b50), (.ref b50)])) (g' := (mkF m 22 #[.val (.int ch)] [(.int (0 : Int32)), (.ref b_68), (.ref b50), (.ref b50)])) (fun tgt kt => ?_) ?_
  · show Steps p.tables e below (T61.setTop (mkF m 21 #[.val (.int ch)] [(.ref b_68), (.ref b50), (.ref b50)])) tgt
    refine XS.iconst H hx rfl (hb hby d_jdk_42_method_139_21) ?_
    exact kt
  clear H
  have F74 : Exa Z h62 b50 "java/lang/String" := (E53.keep K70)
  have F75 : Fld Z h62 b50 "java/lang/String" "value" "[B" .null := (F60.keep K70 nin0)
  have F76 : Fld Z h62 b50 "java/lang/String" "coder" "B" (.int (0 : Int32)) := (F59.keep K70 nin0)
  refine Jvm.OwnN.Aim.callC (pc := 22) (Ls := #[.val (.int ch)]) (argsL := [(.ref b_68), (.int (0 : Int32))]) (rest := [(.ref b50)]) P63 hx hZ hml hown rfl (hw _ (List.mem_of_getElem? (i := 208) rfl)) (hw _ (List.mem_of_getElem? (i := 209) rfl)) (hw _ (List.mem_of_getElem? (i := 210) rfl)) (by decide) (Jvm.OwnN.Con.back (W := 1) (own_sBB l Z a0 hw b50 b_68 (.null) (.int (0 : Int32)) h62 n0 (Nat.le_trans Z0 (K73.1)) (Nat.le_trans Z0 (Nat.le_of_eq g56.symm)) F74 F75 F76) hZ (hw _ (List.mem_of_getElem? (i := 210) rfl)) (hw _ (List.mem_of_getElem? (i := 6) rfl)) (by decide) (by decide)) rfl pd__28_5bBB_29V rfl (Nat.le_of_eq rfl) (hb hby d_jdk_42_method_139_22) (by decide) (by decide) ?_
  intro T77 h78 v81 P79 hQ80
  obtain ⟨rfl, K84, F85, F86, F87⟩ := hQ80
  have K88 : Keep h0 h78 [] := K73.trans K84 (allS (Or.inr (Nat.le_trans (Nat.le_refl _) (Nat.le_of_eq g56.symm))) all0)
  show Jvm.OwnN.Aim p e below s _ _ n0 _ T77 (mkF m 25 #[.val (.int ch)] [(.ref b50)])
  have F89 : Arv Z h78 b_68 kk_69 .byte (1 : Int32) [(.int ch.toInt8.toInt32)] (.int 0) := (F72.keep K84 (ninS (Ne.symm (Nat.ne_of_lt (Nat.lt_of_lt_of_le E53.lt g71))) nin0))
  exact Jvm.OwnN.Aim.retA P79 hx hlk hret rfl rfl (hb hby d_jdk_42_method_139_25) (by decide) (by decide) ⟨b50, b_68, kk_69, rfl, K88, (Nat.le_trans (Nat.le_refl _) (Nat.le_of_eq g56.symm)), (Nat.le_trans (K58.1) g71), ⟨F85, F86, F87, F89, fun d q => (List.mem_singleton.mp q) ▸ hc, by simp⟩⟩
theorem d_jdk_42_method_152_0 : decode jdk_42_method_152_code 0 = .ok (.getstatic 38, 3) := by decide +kernel
theorem d_jdk_42_method_152_3 : decode jdk_42_method_152_code 3 = .ok (.ifCond .eq 10, 3) := by decide +kernel
theorem d_jdk_42_method_152_6 : decode jdk_42_method_152_code 6 = .ok (.aload_n 0, 1) := by decide +kernel
theorem d_jdk_42_method_152_7 : decode jdk_42_method_152_code 7 = .ok (.getfield 15, 3) := by decide +kernel
theorem d_jdk_42_method_152_10 : decode jdk_42_method_152_code 10 = .ok (.goto 4, 3) := by decide +kernel
theorem d_jdk_42_method_152_14 : decode jdk_42_method_152_code 14 = .ok (.ireturn, 1) := by decide +kernel
set_option maxRecDepth 65536 in
set_option maxHeartbeats 40000000 in
theorem own_coder (l : Launch) (Z : State) (a0 : Array Value) (hw : ∀ d ∈ tables_1, d.before a0 Z = true) (y : Addr) (h0 : Heap) (n0 : Nat) (Z0 : n0 ≤ h0.size) (F0 : Fld Z h0 y "java/lang/String" "coder" "B" (.int (0 : Int32))) (F1 : Old Z n0 h0) (G : Cmp Z) :
    Jvm.OwnN.Con l Z (⟨"java/lang/String", "coder", "()B"⟩ : MethodName) jdk_42_method_152_code 1 (some .byte) ({ frames := 0, cells := 0, slots := 0, locals := 0 } : Room) n0 #[(.ref y)] h0 (fun v h => v = some (.int (0 : Int32)) ∧ h0 = h) := by
  refine Jvm.OwnN.Con.intro (plainFor_of_name pn_java_lang_String) ?_
  intro p e s m below meth c s₁ hx hby hml hret hnm hown hlk hZ P0
  refine Jvm.OwnN.Aim.cast (by first | (simp [entryFrame, mkF, argsToLocals, Value.category]; done) | rfl : entryFrame m #[(.ref y)] 1 = (mkF m 0 #[.val (.ref y)] [])) ?_
  obtain ⟨zc, hzc, Szc⟩ := id G
  refine Jvm.OwnN.Aim.getS (pc := 0) (Ls := #[.val (.ref y)]) (st := []) P0 hx hZ hown (hw _ (List.mem_of_getElem? (i := 18) rfl)) Via.refl (Szc.ext F1.2) (hb hby d_jdk_42_method_152_0) ?_
  intro T90 P91
  show Jvm.OwnN.Aim p e below s _ _ n0 _ T90 (mkF m 3 #[.val (.ref y)] [(.int zc)])
  have H := P91.here
  refine Jvm.OwnN.Aim.of (T := T90) (T' := T90) (g := (mkF m 3 #[.val (.ref y)] [(.int zc)])) (g' := (mkF m 7 #[.val (.ref y)] [(.ref y)])) (fun tgt kt => ?_) ?_
  · show Steps p.tables e below (T90.setTop (mkF m 3 #[.val (.ref y)] [(.int zc)])) tgt
    refine XS.ifNo H hx rfl (hb hby d_jdk_42_method_152_3) rfl ((if0 _ _).trans (feq hzc).1) ?_
    show Steps p.tables e below (T90.setTop (mkF m 6 #[.val (.ref y)] [])) tgt
    refine XS.aloadN H hx rfl (hb hby d_jdk_42_method_152_6) rfl rfl ?_
    exact kt
  clear H
  refine Jvm.OwnN.Aim.getF (pc := 7) (Ls := #[.val (.ref y)]) (st := []) P91 hx hZ hown (host := "") (Or.inl (hw _ (List.mem_of_getElem? (i := 30) rfl))) Via.refl F0 (hb hby d_jdk_42_method_152_7) ?_
  intro T92 P93
  show Jvm.OwnN.Aim p e below s _ _ n0 _ T92 (mkF m 10 #[.val (.ref y)] [(.int (0 : Int32))])
  have H := P93.here
  refine Jvm.OwnN.Aim.of (T := T92) (T' := T92) (g := (mkF m 10 #[.val (.ref y)] [(.int (0 : Int32))])) (g' := (mkF m 14 #[.val (.ref y)] [(.int (0 : Int32))])) (fun tgt kt => ?_) ?_
  · show Steps p.tables e below (T92.setTop (mkF m 10 #[.val (.ref y)] [(.int (0 : Int32))])) tgt
    refine XS.goto H hx rfl (pc0 := 10) (pc' := 14) rfl (hb hby d_jdk_42_method_152_10) (by decide) (by decide) ?_
    exact kt
  clear H
  exact Jvm.OwnN.Aim.retN (t := .byte) P93 hx hlk hret (by simp) (hb hby d_jdk_42_method_152_14) (by decide) (by decide) ⟨rfl, rfl⟩
theorem d_jdk_42_method_54_0 : decode jdk_42_method_54_code 0 = .ok (.aload_n 0, 1) := by decide +kernel
theorem d_jdk_42_method_54_1 : decode jdk_42_method_54_code 1 = .ok (.getfield 9, 3) := by decide +kernel
theorem d_jdk_42_method_54_4 : decode jdk_42_method_54_code 4 = .ok (.arraylength, 1) := by decide +kernel
theorem d_jdk_42_method_54_5 : decode jdk_42_method_54_code 5 = .ok (.aload_n 0, 1) := by decide +kernel
theorem d_jdk_42_method_54_6 : decode jdk_42_method_54_code 6 = .ok (.invokevirtual 335, 3) := by decide +kernel
theorem pd__28_29B : parseMethodDescriptor "()B" = some ⟨[], some .byte⟩ := by decide +kernel
theorem d_jdk_42_method_54_9 : decode jdk_42_method_54_code 9 = .ok (.ishr, 1) := by decide +kernel
theorem d_jdk_42_method_54_10 : decode jdk_42_method_54_code 10 = .ok (.ireturn, 1) := by decide +kernel
set_option maxRecDepth 65536 in
set_option maxHeartbeats 40000000 in
theorem own_length (l : Launch) (Z : State) (a0 : Array Value) (hw : ∀ d ∈ tables_1, d.before a0 Z = true) (y : Addr) (u : Addr) (ku : ClassId) (ds : List Int32) (h0 : Heap) (n0 : Nat) (Z0 : n0 ≤ h0.size) (F0 : Str Z h0 y u ku ds) (F1 : Old Z n0 h0) (G : Cmp Z) :
    Jvm.OwnN.Con l Z (⟨"java/lang/String", "length", "()I"⟩ : MethodName) jdk_42_method_54_code 1 (some .int) ({ frames := 1, cells := 0, slots := 0, locals := 13 } : Room) n0 #[(.ref y)] h0 (fun v h => v = some (.int (Int32.ofNat ds.length)) ∧ h0 = h) := by
  refine Jvm.OwnN.Con.intro (plainFor_of_name pn_java_lang_String) ?_
  intro p e s m below meth c s₁ hx hby hml hret hnm hown hlk hZ P0
  refine Jvm.OwnN.Aim.cast (by first | (simp [entryFrame, mkF, argsToLocals, Value.category]; done) | rfl : entryFrame m #[(.ref y)] 1 = (mkF m 0 #[.val (.ref y)] [])) ?_
  have H := P0.here
  refine Jvm.OwnN.Aim.of (T := s₁) (T' := s₁) (g := (mkF m 0 #[.val (.ref y)] [])) (g' := (mkF m 1 #[.val (.ref y)] [(.ref y)])) (fun tgt kt => ?_) ?_
  · show Steps p.tables e below (s₁.setTop (mkF m 0 #[.val (.ref y)] [])) tgt
    refine XS.aloadN H hx rfl (hb hby d_jdk_42_method_54_0) rfl rfl ?_
    exact kt
  clear H
  refine Jvm.OwnN.Aim.getF (pc := 1) (Ls := #[.val (.ref y)]) (st := []) P0 hx hZ hown (host := "") (Or.inl (hw _ (List.mem_of_getElem? (i := 32) rfl))) Via.refl F0.2.1 (hb hby d_jdk_42_method_54_1) ?_
  intro T94 P95
  show Jvm.OwnN.Aim p e below s _ _ n0 _ T94 (mkF m 4 #[.val (.ref y)] [(.ref u)])
  refine Jvm.OwnN.Aim.alen (pc := 4) (Ls := #[.val (.ref y)]) (st := []) P95 hx hZ F0.2.2.2.1 (hb hby d_jdk_42_method_54_4) ?_
  show Jvm.OwnN.Aim p e below s _ _ n0 _ T94 (mkF m 5 #[.val (.ref y)] [(.int (Int32.ofNat ds.length))])
  have H := P95.here
  refine Jvm.OwnN.Aim.of (T := T94) (T' := T94) (g := (mkF m 5 #[.val (.ref y)] [(.int (Int32.ofNat ds.length))])) (g' := (mkF m 6 #[.val (.ref y)] [(.ref y), (.int (Int32.ofNat ds.length))])) (fun tgt kt => ?_) ?_
  · show Steps p.tables e below (T94.setTop (mkF m 5 #[.val (.ref y)] [(.int (Int32.ofNat ds.length))])) tgt
    refine XS.aloadN H hx rfl (hb hby d_jdk_42_method_54_5) rfl rfl ?_
    exact kt
  clear H
  refine Jvm.OwnN.Aim.callV (pc := 6) (Ls := #[.val (.ref y)]) (argsL := []) (rest := [(.int (Int32.ofNat ds.length))]) (y := (⟨"java/lang/String", "coder", "()B"⟩ : MethodName)) (z := (⟨"java/lang/String", "coder", "()B"⟩ : MethodName)) P95 hx hZ hml hown (hw _ (List.mem_of_getElem? (i := 91) rfl)) (hw _ (List.mem_of_getElem? (i := 92) rfl)) (notFace_of_selects (args := #[]) (mvT hZ (hw _ (List.mem_of_getElem? (i := 94) rfl)))) (hw _ (List.mem_of_getElem? (i := 94) rfl)) (hw _ (List.mem_of_getElem? (i := 93) rfl)) (by decide) F0.1 (Jvm.OwnN.Con.back (W := 1) (own_coder l Z a0 hw y h0 n0 Z0 F0.2.2.1 F1 G) hZ (hw _ (List.mem_of_getElem? (i := 95) rfl)) (hw _ (List.mem_of_getElem? (i := 6) rfl)) (by decide) (by decide)) rfl pd__28_29B rfl (Nat.le_of_eq rfl) (hb hby d_jdk_42_method_54_6) (by decide) (by decide) ?_
  intro T96 h97 v100 P98 hQ99
  obtain ⟨rfl, rfl⟩ := hQ99
  show Jvm.OwnN.Aim p e below s _ _ n0 _ T96 (mkF m 9 #[.val (.ref y)] [(.int (0 : Int32)), (.int (Int32.ofNat ds.length))])
  have H := P98.here
  refine Jvm.OwnN.Aim.of (T := T96) (T' := T96) (g := (mkF m 9 #[.val (.ref y)] [(.int (0 : Int32)), (.int (Int32.ofNat ds.length))])) (g' := (mkF m 10 #[.val (.ref y)] [(.int ((Int32.ofNat ds.length) >>> ((0 : Int32) &&& 31)))])) (fun tgt kt => ?_) ?_
  · show Steps p.tables e below (T96.setTop (mkF m 9 #[.val (.ref y)] [(.int (0 : Int32)), (.int (Int32.ofNat ds.length))])) tgt
    refine XS.ishr H hx rfl (hb hby d_jdk_42_method_54_9) rfl ?_
    exact kt
  clear H
  rw [show ((Int32.ofNat ds.length) >>> ((0 : Int32) &&& 31)) = (Int32.ofNat ds.length) from own_shr0 _]
  show Jvm.OwnN.Aim p e below s _ _ n0 _ T96 (mkF m 10 #[.val (.ref y)] [(.int (Int32.ofNat ds.length))])
  exact Jvm.OwnN.Aim.retI P98 hx hlk hret (hb hby d_jdk_42_method_54_10) (by decide) (by decide) ⟨rfl, rfl⟩
theorem d_jdk_68_method_2_0 : decode jdk_68_method_2_code 0 = .ok (.aload_n 0, 1) := by decide +kernel
theorem d_jdk_68_method_2_1 : decode jdk_68_method_2_code 1 = .ok (.invokespecial 3, 3) := by decide +kernel
theorem d_jdk_68_method_2_4 : decode jdk_68_method_2_code 4 = .ok (.getstatic 18, 3) := by decide +kernel
theorem d_jdk_68_method_2_7 : decode jdk_68_method_2_code 7 = .ok (.ifCond .eq 18, 3) := by decide +kernel
theorem d_jdk_68_method_2_10 : decode jdk_68_method_2_code 10 = .ok (.aload_n 0, 1) := by decide +kernel
theorem d_jdk_68_method_2_11 : decode jdk_68_method_2_code 11 = .ok (.iload_n 1, 1) := by decide +kernel
theorem d_jdk_68_method_2_12 : decode jdk_68_method_2_code 12 = .ok (.newarray .byte, 2) := by decide +kernel
theorem d_jdk_68_method_2_14 : decode jdk_68_method_2_code 14 = .ok (.putfield 15, 3) := by decide +kernel
theorem d_jdk_68_method_2_17 : decode jdk_68_method_2_code 17 = .ok (.aload_n 0, 1) := by decide +kernel
theorem d_jdk_68_method_2_18 : decode jdk_68_method_2_code 18 = .ok (.iconst 0, 1) := by decide +kernel
theorem d_jdk_68_method_2_19 : decode jdk_68_method_2_code 19 = .ok (.putfield 22, 3) := by decide +kernel
theorem d_jdk_68_method_2_22 : decode jdk_68_method_2_code 22 = .ok (.goto 16, 3) := by decide +kernel
theorem d_jdk_68_method_2_38 : decode jdk_68_method_2_code 38 = .ok (.return_, 1) := by decide +kernel
theorem pn_java_lang_AbstractStringBuilder : plainName "java/lang/AbstractStringBuilder" = true := by first | (simp [plainName, overriddenIn]; done) | decide +kernel
set_option maxRecDepth 65536 in
set_option maxHeartbeats 40000000 in
theorem own_asb (l : Launch) (Z : State) (a0 : Array Value) (hw : ∀ d ∈ tables_1, d.before a0 Z = true) (x : Addr) (v0 : Value) (c0 : Value) (h0 : Heap) (n0 : Nat) (Z0 : n0 ≤ h0.size) (g_x : n0 ≤ x) (F0 : Exa Z h0 x "java/lang/StringBuilder") (F1 : Fld Z h0 x "java/lang/AbstractStringBuilder" "value" "[B" v0) (F2 : Fld Z h0 x "java/lang/AbstractStringBuilder" "coder" "B" c0) (F3 : Fld Z h0 x "java/lang/AbstractStringBuilder" "count" "I" (.int (0 : Int32))) (F4 : Old Z n0 h0) (G : Cmp Z) :
    Jvm.OwnN.Con l Z (⟨"java/lang/AbstractStringBuilder", "<init>", "(I)V"⟩ : MethodName) jdk_68_method_2_code 2 none ({ frames := 1, cells := 1, slots := 16, locals := 12 } : Room) n0 #[(.ref x), (.int (16 : Int32))] h0 (fun v h => ∃ t : Addr, ∃ kb : ClassId, v = none ∧ Keep h0 h [x] ∧ h0.size ≤ t ∧ Bld Z h x t kb ([] : List Int32) 16) := by
  refine Jvm.OwnN.Con.intro (plainFor_of_name pn_java_lang_AbstractStringBuilder) ?_
  intro p e s m below meth c s₁ hx hby hml hret hnm hown hlk hZ P0
  refine Jvm.OwnN.Aim.cast (by first | (simp [entryFrame, mkF, argsToLocals, Value.category]; done) | rfl : entryFrame m #[(.ref x), (.int (16 : Int32))] 2 = (mkF m 0 #[.val (.ref x), .val (.int (16 : Int32))] [])) ?_
  obtain ⟨zc, hzc, Szc⟩ := id G
  have H := P0.here
  refine Jvm.OwnN.Aim.of (T := s₁) (T' := s₁) (g := (mkF m 0 #[.val (.ref x), .val (.int (16 : Int32))] [])) (g' := (mkF m 1 #[.val (.ref x), .val (.int (16 : Int32))] [(.ref x)])) (fun tgt kt => ?_) ?_
  · show Steps p.tables e below (s₁.setTop (mkF m 0 #[.val (.ref x), .val (.int (16 : Int32))] [])) tgt
    refine XS.aloadN H hx rfl (hb hby d_jdk_68_method_2_0) rfl rfl ?_
    exact kt
  clear H
  refine Jvm.OwnN.Aim.initO (pc := 1) (Ls := #[.val (.ref x), .val (.int (16 : Int32))]) (st := []) P0 hx hZ hml hown (hw _ (List.mem_of_getElem? (i := 70) rfl)) (hw _ (List.mem_of_getElem? (i := 16) rfl)) (hw _ (List.mem_of_getElem? (i := 17) rfl)) rfl (hb hby d_jdk_68_method_2_1) (by decide) (Nat.le_of_ble_eq_true rfl) ?_
  intro T103 P104
  show Jvm.OwnN.Aim p e below s _ _ n0 _ T103 (mkF m 4 #[.val (.ref x), .val (.int (16 : Int32))] [])
  refine Jvm.OwnN.Aim.getS (pc := 4) (Ls := #[.val (.ref x), .val (.int (16 : Int32))]) (st := []) P104 hx hZ hown (hw _ (List.mem_of_getElem? (i := 71) rfl)) Via.refl (Szc.ext F4.2) (hb hby d_jdk_68_method_2_4) ?_
  intro T105 P106
  show Jvm.OwnN.Aim p e below s _ _ n0 _ T105 (mkF m 7 #[.val (.ref x), .val (.int (16 : Int32))] [(.int zc)])
  have H := P106.here
  refine Jvm.OwnN.Aim.of (T := T105) (T' := T105) (g := (mkF m 7 #[.val (.ref x), .val (.int (16 : Int32))] [(.int zc)])) (g' := (mkF m 12 #[.val (.ref x), .val (.int (16 : Int32))] [(.int (16 : Int32)), (.ref x)])) (fun tgt kt => ?_) ?_
  · show Steps p.tables e below (T105.setTop (mkF m 7 #[.val (.ref x), .val (.int (16 : Int32))] [(.int zc)])) tgt
    refine XS.ifNo H hx rfl (hb hby d_jdk_68_method_2_7) rfl ((if0 _ _).trans (feq hzc).1) ?_
    show Steps p.tables e below (T105.setTop (mkF m 10 #[.val (.ref x), .val (.int (16 : Int32))] [])) tgt
    refine XS.aloadN H hx rfl (hb hby d_jdk_68_method_2_10) rfl rfl ?_
    show Steps p.tables e below (T105.setTop (mkF m 11 #[.val (.ref x), .val (.int (16 : Int32))] [(.ref x)])) tgt
    refine XS.iloadN H hx rfl (hb hby d_jdk_68_method_2_11) rfl ?_
    exact kt
  clear H
  refine Jvm.OwnN.Aim.newP (pc := 12) (Ls := #[.val (.ref x), .val (.int (16 : Int32))]) (st := [(.ref x)]) (z := (16 : Int32)) P106 hx hZ (hw _ (List.mem_of_getElem? (i := 23) rfl)) (hb hby d_jdk_68_method_2_12) (by decide) (cap := 16) (by decide) (by decide) (by decide) (by decide) ?_
  intro T107 h108 k109 b110 g114 P111 E112 V113
  have K116 : Keep h0 h108 [] := (Keep.refl _ _).ext E112
  have K117 : Keep h0 h108 [x] := (Keep.refl h0 [x]).trans K116 all0
  have V118 : Arv Z h108 b110 k109 .byte (16 : Int32) [(.int (0 : Int32)), (.int (0 : Int32)), (.int (0 : Int32)), (.int (0 : Int32)), (.int (0 : Int32)), (.int (0 : Int32)), (.int (0 : Int32)), (.int (0 : Int32)), (.int (0 : Int32)), (.int (0 : Int32)), (.int (0 : Int32)), (.int (0 : Int32)), (.int (0 : Int32)), (.int (0 : Int32)), (.int (0 : Int32)), (.int (0 : Int32))] (.int (0 : Int32)) := V113.pad (pad_rep [] (.int (0 : Int32)) 16)
  show Jvm.OwnN.Aim p e below s _ _ n0 _ T107 (mkF m 14 #[.val (.ref x), .val (.int (16 : Int32))] [(.ref b110), (.ref x)])
  have F119 : Exa Z h108 x "java/lang/StringBuilder" := (F0.keep K116)
  have F120 : Fld Z h108 x "java/lang/AbstractStringBuilder" "value" "[B" v0 := (F1.keep K116 nin0)
  refine Jvm.OwnN.Aim.putF (pc := 14) (Ls := #[.val (.ref x), .val (.int (16 : Int32))]) (st := []) (v := (.ref b110)) P111 hx hZ hown (host := "") (Or.inl (hw _ (List.mem_of_getElem? (i := 72) rfl))) Via.refl F120 F119 (Or.inl (hw _ (List.mem_of_getElem? (i := 73) rfl))) (hw _ (List.mem_of_getElem? (i := 59) rfl)) (ty := (.array .byte)) (by decide) rfl rfl (hb hby d_jdk_68_method_2_14) g_x ?_
  intro T121 h122 P123 W124
  have K125 := Keep.of_wr W124
  have F126 : Fld Z h122 x "java/lang/AbstractStringBuilder" "value" "[B" (.ref b110) := F120.same W124
  have K127 : Keep h0 h122 [x] := K117.trans K125 (allS (Or.inl (List.mem_of_getElem? (i := 0) rfl)) all0)
  show Jvm.OwnN.Aim p e below s _ _ n0 _ T121 (mkF m 17 #[.val (.ref x), .val (.int (16 : Int32))] [])
  have H := P123.here
  refine Jvm.OwnN.Aim.of (T := T121) (T' := T121) (g := (mkF m 17 #[.val (.ref x), .val (.int (16 : Int32))] [])) (g' := (mkF m 19 #[.val (.ref x), .val (.int (16 : Int32))] [(.int (0 : Int32)), (.ref x)])) (fun tgt kt => ?_) ?_
  · show Steps p.tables e below (T121.setTop (mkF m 17 #[.val (.ref x), .val (.int (16 : Int32))] [])) tgt
    refine XS.aloadN H hx rfl (hb hby d_jdk_68_method_2_17) rfl rfl ?_
    show Steps p.tables e below (T121.setTop (mkF m 18 #[.val (.ref x), .val (.int (16 : Int32))] [(.ref x)])) tgt
    refine XS.iconst H hx rfl (hb hby d_jdk_68_method_2_18) ?_
    exact kt
  clear H
  have F128 : Exa Z h122 x "java/lang/StringBuilder" := (F119.keep K125)
  have F129 : Fld Z h122 x "java/lang/AbstractStringBuilder" "coder" "B" c0 := ((F2.keep K116 nin0).other W124 (Or.inr (slot_ne (Or.inl (hw _ (List.mem_of_getElem? (i := 75) rfl))) (Or.inl (hw _ (List.mem_of_getElem? (i := 73) rfl))) (by decide) (t := .byte) (t' := (.array .byte)) (by decide) (by decide))))
  refine Jvm.OwnN.Aim.putF (pc := 19) (Ls := #[.val (.ref x), .val (.int (16 : Int32))]) (st := []) (v := (.int (0 : Int32))) P123 hx hZ hown (host := "") (Or.inl (hw _ (List.mem_of_getElem? (i := 74) rfl))) Via.refl F129 F128 (Or.inl (hw _ (List.mem_of_getElem? (i := 75) rfl))) (hw _ (List.mem_of_getElem? (i := 59) rfl)) (ty := .byte) (by decide) rfl rfl (hb hby d_jdk_68_method_2_19) g_x ?_
  intro T130 h131 P132 W133
  have K134 := Keep.of_wr W133
  have F135 : Fld Z h131 x "java/lang/AbstractStringBuilder" "coder" "B" (.int (0 : Int32)) := F129.same W133
  have K136 : Keep h0 h131 [x] := K127.trans K134 (allS (Or.inl (List.mem_of_getElem? (i := 0) rfl)) all0)
  show Jvm.OwnN.Aim p e below s _ _ n0 _ T130 (mkF m 22 #[.val (.ref x), .val (.int (16 : Int32))] [])
  have H := P132.here
  refine Jvm.OwnN.Aim.of (T := T130) (T' := T130) (g := (mkF m 22 #[.val (.ref x), .val (.int (16 : Int32))] [])) (g' := (mkF m 38 #[.val (.ref x), .val (.int (16 : Int32))] [])) (fun tgt kt => ?_) ?_
  · show Steps p.tables e below (T130.setTop (mkF m 22 #[.val (.ref x), .val (.int (16 : Int32))] [])) tgt
    refine XS.goto H hx rfl (pc0 := 22) (pc' := 38) rfl (hb hby d_jdk_68_method_2_22) (by decide) (by decide) ?_
    exact kt
  clear H
  have F137 : Exa Z h131 x "java/lang/StringBuilder" := (F128.keep K134)
  have F138 : Fld Z h131 x "java/lang/AbstractStringBuilder" "value" "[B" (.ref b110) := (F126.other W133 (Or.inr (slot_ne (Or.inl (hw _ (List.mem_of_getElem? (i := 73) rfl))) (Or.inl (hw _ (List.mem_of_getElem? (i := 75) rfl))) (by decide) (t := (.array .byte)) (t' := .byte) (by decide) (by decide))))
  have F139 : Fld Z h131 x "java/lang/AbstractStringBuilder" "count" "I" (.int (0 : Int32)) := (((F3.keep K116 nin0).other W124 (Or.inr (slot_ne (Or.inl (hw _ (List.mem_of_getElem? (i := 97) rfl))) (Or.inl (hw _ (List.mem_of_getElem? (i := 73) rfl))) (by decide) (t := .int) (t' := (.array .byte)) (by decide) (by decide)))).other W133 (Or.inr (slot_ne (Or.inl (hw _ (List.mem_of_getElem? (i := 97) rfl))) (Or.inl (hw _ (List.mem_of_getElem? (i := 75) rfl))) (by decide) (t := .int) (t' := .byte) (by decide) (by decide))))
  have F140 : Arv Z h131 b110 k109 .byte (16 : Int32) [(.int (0 : Int32)), (.int (0 : Int32)), (.int (0 : Int32)), (.int (0 : Int32)), (.int (0 : Int32)), (.int (0 : Int32)), (.int (0 : Int32)), (.int (0 : Int32)), (.int (0 : Int32)), (.int (0 : Int32)), (.int (0 : Int32)), (.int (0 : Int32)), (.int (0 : Int32)), (.int (0 : Int32)), (.int (0 : Int32)), (.int (0 : Int32))] (.int (0 : Int32)) := ((V118.keep K125 (ninS (Ne.symm (Nat.ne_of_lt (Nat.lt_of_lt_of_le F0.lt (Nat.le_of_eq g114.symm)))) nin0)).keep K134 (ninS (Ne.symm (Nat.ne_of_lt (Nat.lt_of_lt_of_le F0.lt (Nat.le_of_eq g114.symm)))) nin0))
  exact Jvm.OwnN.Aim.retV P132 hx hlk hret (hb hby d_jdk_68_method_2_38) (by decide) (by decide) ⟨b110, k109, rfl, K136, (Nat.le_trans (Nat.le_refl _) (Nat.le_of_eq g114.symm)), ⟨F137, F138, F135, F139, F140⟩⟩
theorem d_jdk_67_method_1_0 : decode jdk_67_method_1_code 0 = .ok (.aload_n 0, 1) := by decide +kernel
theorem d_jdk_67_method_1_1 : decode jdk_67_method_1_code 1 = .ok (.bipush 16, 2) := by decide +kernel
theorem d_jdk_67_method_1_3 : decode jdk_67_method_1_code 3 = .ok (.invokespecial 1, 3) := by decide +kernel
theorem pd__28I_29V : parseMethodDescriptor "(I)V" = some ⟨[.int], none⟩ := by decide +kernel
theorem d_jdk_67_method_1_6 : decode jdk_67_method_1_code 6 = .ok (.return_, 1) := by decide +kernel
theorem pn_java_lang_StringBuilder : plainName "java/lang/StringBuilder" = true := by first | (simp [plainName, overriddenIn]; done) | decide +kernel
set_option maxRecDepth 65536 in
set_option maxHeartbeats 40000000 in
theorem own_sbi (l : Launch) (Z : State) (a0 : Array Value) (hw : ∀ d ∈ tables_1, d.before a0 Z = true) (x : Addr) (v0 : Value) (c0 : Value) (h0 : Heap) (n0 : Nat) (Z0 : n0 ≤ h0.size) (g_x : n0 ≤ x) (F0 : Exa Z h0 x "java/lang/StringBuilder") (F1 : Fld Z h0 x "java/lang/AbstractStringBuilder" "value" "[B" v0) (F2 : Fld Z h0 x "java/lang/AbstractStringBuilder" "coder" "B" c0) (F3 : Fld Z h0 x "java/lang/AbstractStringBuilder" "count" "I" (.int (0 : Int32))) (F4 : Old Z n0 h0) (G : Cmp Z) :
    Jvm.OwnN.Con l Z (⟨"java/lang/StringBuilder", "<init>", "()V"⟩ : MethodName) jdk_67_method_1_code 1 none ({ frames := 2, cells := 1, slots := 16, locals := 25 } : Room) n0 #[(.ref x)] h0 (fun v h => ∃ t : Addr, ∃ kb : ClassId, v = none ∧ Keep h0 h [x] ∧ h0.size ≤ t ∧ Bld Z h x t kb ([] : List Int32) 16) := by
  refine Jvm.OwnN.Con.intro (plainFor_of_name pn_java_lang_StringBuilder) ?_
  intro p e s m below meth c s₁ hx hby hml hret hnm hown hlk hZ P0
  refine Jvm.OwnN.Aim.cast (by first | (simp [entryFrame, mkF, argsToLocals, Value.category]; done) | rfl : entryFrame m #[(.ref x)] 1 = (mkF m 0 #[.val (.ref x)] [])) ?_
  have H := P0.here
  refine Jvm.OwnN.Aim.of (T := s₁) (T' := s₁) (g := (mkF m 0 #[.val (.ref x)] [])) (g' := (mkF m 3 #[.val (.ref x)] [(.int (16 : Int32)), (.ref x)])) (fun tgt kt => ?_) ?_
  · show Steps p.tables e below (s₁.setTop (mkF m 0 #[.val (.ref x)] [])) tgt
    refine XS.aloadN H hx rfl (hb hby d_jdk_67_method_1_0) rfl rfl ?_
    show Steps p.tables e below (s₁.setTop (mkF m 1 #[.val (.ref x)] [(.ref x)])) tgt
    refine XS.bipush H hx rfl (hb hby d_jdk_67_method_1_1) ?_
    exact kt
  clear H
  refine Jvm.OwnN.Aim.callC (pc := 3) (Ls := #[.val (.ref x)]) (argsL := [(.int (16 : Int32))]) (rest := []) P0 hx hZ hml hown rfl (hw _ (List.mem_of_getElem? (i := 64) rfl)) (hw _ (List.mem_of_getElem? (i := 65) rfl)) (hw _ (List.mem_of_getElem? (i := 69) rfl)) (by decide) (Jvm.OwnN.Con.back (W := 0) (own_asb l Z a0 hw x v0 c0 h0 n0 Z0 g_x F0 F1 F2 F3 F4 G) hZ (hw _ (List.mem_of_getElem? (i := 69) rfl)) (hw _ (List.mem_of_getElem? (i := 68) rfl)) (by decide) (by decide)) rfl pd__28I_29V rfl (Nat.le_of_eq rfl) (hb hby d_jdk_67_method_1_3) (by decide) (by decide) ?_
  intro T141 h142 v145 P143 hQ144
  obtain ⟨t_148, kb_149, rfl, K150, g151, F152⟩ := hQ144
  have K153 : Keep h0 h142 [x] := (Keep.refl h0 [x]).trans K150 (allS (Or.inl (List.mem_of_getElem? (i := 0) rfl)) all0)
  show Jvm.OwnN.Aim p e below s _ _ n0 _ T141 (mkF m 6 #[.val (.ref x)] [])
  exact Jvm.OwnN.Aim.retV P143 hx hlk hret (hb hby d_jdk_67_method_1_6) (by decide) (by decide) ⟨t_148, kb_149, rfl, K153, (Nat.le_trans (Nat.le_refl _) g151), F152⟩
theorem d_jdk_42_method_147_0 : decode jdk_42_method_147_code 0 = .ok (.aload_n 0, 1) := by decide +kernel
theorem d_jdk_42_method_147_1 : decode jdk_42_method_147_code 1 = .ok (.invokevirtual 335, 3) := by decide +kernel
theorem d_jdk_42_method_147_4 : decode jdk_42_method_147_code 4 = .ok (.iload_n 3, 1) := by decide +kernel
theorem d_jdk_42_method_147_5 : decode jdk_42_method_147_code 5 = .ok (.if_icmp .ne 23, 3) := by decide +kernel
theorem d_jdk_42_method_147_8 : decode jdk_42_method_147_code 8 = .ok (.aload_n 0, 1) := by decide +kernel
theorem d_jdk_42_method_147_9 : decode jdk_42_method_147_code 9 = .ok (.getfield 9, 3) := by decide +kernel
theorem d_jdk_42_method_147_12 : decode jdk_42_method_147_code 12 = .ok (.iconst 0, 1) := by decide +kernel
theorem d_jdk_42_method_147_13 : decode jdk_42_method_147_code 13 = .ok (.aload_n 1, 1) := by decide +kernel
theorem d_jdk_42_method_147_14 : decode jdk_42_method_147_code 14 = .ok (.iload_n 2, 1) := by decide +kernel
theorem d_jdk_42_method_147_15 : decode jdk_42_method_147_code 15 = .ok (.iload_n 3, 1) := by decide +kernel
theorem d_jdk_42_method_147_16 : decode jdk_42_method_147_code 16 = .ok (.ishl, 1) := by decide +kernel
theorem d_jdk_42_method_147_17 : decode jdk_42_method_147_code 17 = .ok (.aload_n 0, 1) := by decide +kernel
theorem d_jdk_42_method_147_18 : decode jdk_42_method_147_code 18 = .ok (.getfield 9, 3) := by decide +kernel
theorem d_jdk_42_method_147_21 : decode jdk_42_method_147_code 21 = .ok (.arraylength, 1) := by decide +kernel
theorem d_jdk_42_method_147_22 : decode jdk_42_method_147_code 22 = .ok (.invokestatic 212, 3) := by decide +kernel
theorem d_jdk_42_method_147_25 : decode jdk_42_method_147_code 25 = .ok (.goto 18, 3) := by decide +kernel
theorem d_jdk_42_method_147_43 : decode jdk_42_method_147_code 43 = .ok (.return_, 1) := by decide +kernel
set_option maxRecDepth 65536 in
set_option maxHeartbeats 40000000 in
theorem own_gB (l : Launch) (Z : State) (a0 : Array Value) (hw : ∀ d ∈ tables_1, d.before a0 Z = true) (t : Addr) (kb : ClassId) (cs : List Int32) (cap : Nat) (y : Addr) (u : Addr) (ku : ClassId) (ds : List Int32) (h0 : Heap) (n0 : Nat) (Z0 : n0 ≤ h0.size) (g_t : n0 ≤ t) (F0 : Arv Z h0 t kb .byte (Int32.ofNat cap) (fill cs cap) (.int 0)) (F1 : Str Z h0 y u ku ds) (F2 : Old Z n0 h0) (hl : cs.length + ds.length ≤ cap) (hc : cap ≤ 16) (nut : u ≠ t) (nyt : y ≠ t) (G : Cmp Z) :
    Jvm.OwnN.Con l Z (⟨"java/lang/String", "getBytes", "([BIB)V"⟩ : MethodName) jdk_42_method_147_code 4 none ({ frames := 1, cells := 0, slots := 0, locals := 18 } : Room) n0 #[(.ref y), (.ref t), (.int (Int32.ofNat cs.length)), (.int (0 : Int32))] h0 (fun v h => v = none ∧ Keep h0 h [t] ∧ Arv Z h t kb .byte (Int32.ofNat cap) (fill (cs ++ ds) cap) (.int 0)) := by
  refine Jvm.OwnN.Con.intro (plainFor_of_name pn_java_lang_String) ?_
  intro p e s m below meth c s₁ hx hby hml hret hnm hown hlk hZ P0
  refine Jvm.OwnN.Aim.cast (by first | (simp [entryFrame, mkF, argsToLocals, Value.category]; done) | rfl : entryFrame m #[(.ref y), (.ref t), (.int (Int32.ofNat cs.length)), (.int (0 : Int32))] 4 = (mkF m 0 #[.val (.ref y), .val (.ref t), .val (.int (Int32.ofNat cs.length)), .val (.int (0 : Int32))] [])) ?_
  have H := P0.here
  refine Jvm.OwnN.Aim.of (T := s₁) (T' := s₁) (g := (mkF m 0 #[.val (.ref y), .val (.ref t), .val (.int (Int32.ofNat cs.length)), .val (.int (0 : Int32))] [])) (g' := (mkF m 1 #[.val (.ref y), .val (.ref t), .val (.int (Int32.ofNat cs.length)), .val (.int (0 : Int32))] [(.ref y)])) (fun tgt kt => ?_) ?_
  · show Steps p.tables e below (s₁.setTop (mkF m 0 #[.val (.ref y), .val (.ref t), .val (.int (Int32.ofNat cs.length)), .val (.int (0 : Int32))] [])) tgt
    refine XS.aloadN H hx rfl (hb hby d_jdk_42_method_147_0) rfl rfl ?_
    exact kt
  clear H
  refine Jvm.OwnN.Aim.callV (pc := 1) (Ls := #[.val (.ref y), .val (.ref t), .val (.int (Int32.ofNat cs.length)), .val (.int (0 : Int32))]) (argsL := []) (rest := []) (y := (⟨"java/lang/String", "coder", "()B"⟩ : MethodName)) (z := (⟨"java/lang/String", "coder", "()B"⟩ : MethodName)) P0 hx hZ hml hown (hw _ (List.mem_of_getElem? (i := 91) rfl)) (hw _ (List.mem_of_getElem? (i := 92) rfl)) (notFace_of_selects (args := #[]) (mvT hZ (hw _ (List.mem_of_getElem? (i := 94) rfl)))) (hw _ (List.mem_of_getElem? (i := 94) rfl)) (hw _ (List.mem_of_getElem? (i := 93) rfl)) (by decide) F1.1 (Jvm.OwnN.Con.back (W := 0) (own_coder l Z a0 hw y h0 n0 Z0 F1.2.2.1 F2 G) hZ (hw _ (List.mem_of_getElem? (i := 95) rfl)) (hw _ (List.mem_of_getElem? (i := 6) rfl)) (by decide) (by decide)) rfl pd__28_29B rfl (Nat.le_of_eq rfl) (hb hby d_jdk_42_method_147_1) (by decide) (by decide) ?_
  intro T154 h155 v158 P156 hQ157
  obtain ⟨rfl, rfl⟩ := hQ157
  show Jvm.OwnN.Aim p e below s _ _ n0 _ T154 (mkF m 4 #[.val (.ref y), .val (.ref t), .val (.int (Int32.ofNat cs.length)), .val (.int (0 : Int32))] [(.int (0 : Int32))])
  have H := P156.here
  refine Jvm.OwnN.Aim.of (T := T154) (T' := T154) (g := (mkF m 4 #[.val (.ref y), .val (.ref t), .val (.int (Int32.ofNat cs.length)), .val (.int (0 : Int32))] [(.int (0 : Int32))])) (g' := (mkF m 9 #[.val (.ref y), .val (.ref t), .val (.int (Int32.ofNat cs.length)), .val (.int (0 : Int32))] [(.ref y)])) (fun tgt kt => ?_) ?_
  · show Steps p.tables e below (T154.setTop (mkF m 4 #[.val (.ref y), .val (.ref t), .val (.int (Int32.ofNat cs.length)), .val (.int (0 : Int32))] [(.int (0 : Int32))])) tgt
    refine XS.iloadN H hx rfl (hb hby d_jdk_42_method_147_4) rfl ?_
    show Steps p.tables e below (T154.setTop (mkF m 5 #[.val (.ref y), .val (.ref t), .val (.int (Int32.ofNat cs.length)), .val (.int (0 : Int32))] [(.int (0 : Int32)), (.int (0 : Int32))])) tgt
    refine XS.icmpNo H hx rfl (hb hby d_jdk_42_method_147_5) rfl (teq (by decide)).2 ?_
    show Steps p.tables e below (T154.setTop (mkF m 8 #[.val (.ref y), .val (.ref t), .val (.int (Int32.ofNat cs.length)), .val (.int (0 : Int32))] [])) tgt
    refine XS.aloadN H hx rfl (hb hby d_jdk_42_method_147_8) rfl rfl ?_
    exact kt
  clear H
  refine Jvm.OwnN.Aim.getF (pc := 9) (Ls := #[.val (.ref y), .val (.ref t), .val (.int (Int32.ofNat cs.length)), .val (.int (0 : Int32))]) (st := []) P156 hx hZ hown (host := "") (Or.inl (hw _ (List.mem_of_getElem? (i := 32) rfl))) Via.refl F1.2.1 (hb hby d_jdk_42_method_147_9) ?_
  intro T161 P162
  show Jvm.OwnN.Aim p e below s _ _ n0 _ T161 (mkF m 12 #[.val (.ref y), .val (.ref t), .val (.int (Int32.ofNat cs.length)), .val (.int (0 : Int32))] [(.ref u)])
  have H := P162.here
  refine Jvm.OwnN.Aim.of (T := T161) (T' := T161) (g := (mkF m 12 #[.val (.ref y), .val (.ref t), .val (.int (Int32.ofNat cs.length)), .val (.int (0 : Int32))] [(.ref u)])) (g' := (mkF m 17 #[.val (.ref y), .val (.ref t), .val (.int (Int32.ofNat cs.length)), .val (.int (0 : Int32))] [(.int ((Int32.ofNat cs.length) <<< ((0 : Int32) &&& 31))), (.ref t), (.int (0 : Int32)), (.ref u)])) (fun tgt kt => ?_) ?_
  · show Steps p.tables e below (T161.setTop (mkF m 12 #[.val (.ref y), .val (.ref t), .val (.int (Int32.ofNat cs.length)), .val (.int (0 : Int32))] [(.ref u)])) tgt
    refine XS.iconst H hx rfl (hb hby d_jdk_42_method_147_12) ?_
    show Steps p.tables e below (T161.setTop (mkF m 13 #[.val (.ref y), .val (.ref t), .val (.int (Int32.ofNat cs.length)), .val (.int (0 : Int32))] [(.int (0 : Int32)), (.ref u)])) tgt
    refine XS.aloadN H hx rfl (hb hby d_jdk_42_method_147_13) rfl rfl ?_
    show Steps p.tables e below (T161.setTop (mkF m 14 #[.val (.ref y), .val (.ref t), .val (.int (Int32.ofNat cs.length)), .val (.int (0 : Int32))] [(.ref t), (.int (0 : Int32)), (.ref u)])) tgt
    refine XS.iloadN H hx rfl (hb hby d_jdk_42_method_147_14) rfl ?_
    show Steps p.tables e below (T161.setTop (mkF m 15 #[.val (.ref y), .val (.ref t), .val (.int (Int32.ofNat cs.length)), .val (.int (0 : Int32))] [(.int (Int32.ofNat cs.length)), (.ref t), (.int (0 : Int32)), (.ref u)])) tgt
    refine XS.iloadN H hx rfl (hb hby d_jdk_42_method_147_15) rfl ?_
    show Steps p.tables e below (T161.setTop (mkF m 16 #[.val (.ref y), .val (.ref t), .val (.int (Int32.ofNat cs.length)), .val (.int (0 : Int32))] [(.int (0 : Int32)), (.int (Int32.ofNat cs.length)), (.ref t), (.int (0 : Int32)), (.ref u)])) tgt
    refine XS.ishl H hx rfl (hb hby d_jdk_42_method_147_16) rfl ?_
    exact kt
  clear H
  rw [show ((Int32.ofNat cs.length) <<< ((0 : Int32) &&& 31)) = (Int32.ofNat cs.length) from own_shl0 _]
  show Jvm.OwnN.Aim p e below s _ _ n0 _ T161 (mkF m 17 #[.val (.ref y), .val (.ref t), .val (.int (Int32.ofNat cs.length)), .val (.int (0 : Int32))] [(.int (Int32.ofNat cs.length)), (.ref t), (.int (0 : Int32)), (.ref u)])
  have H := P162.here
  refine Jvm.OwnN.Aim.of (T := T161) (T' := T161) (g := (mkF m 17 #[.val (.ref y), .val (.ref t), .val (.int (Int32.ofNat cs.length)), .val (.int (0 : Int32))] [(.int (Int32.ofNat cs.length)), (.ref t), (.int (0 : Int32)), (.ref u)])) (g' := (mkF m 18 #[.val (.ref y), .val (.ref t), .val (.int (Int32.ofNat cs.length)), .val (.int (0 : Int32))] [(.ref y), (.int (Int32.ofNat cs.length)), (.ref t), (.int (0 : Int32)), (.ref u)])) (fun tgt kt => ?_) ?_
  · show Steps p.tables e below (T161.setTop (mkF m 17 #[.val (.ref y), .val (.ref t), .val (.int (Int32.ofNat cs.length)), .val (.int (0 : Int32))] [(.int (Int32.ofNat cs.length)), (.ref t), (.int (0 : Int32)), (.ref u)])) tgt
    refine XS.aloadN H hx rfl (hb hby d_jdk_42_method_147_17) rfl rfl ?_
    exact kt
  clear H
  refine Jvm.OwnN.Aim.getF (pc := 18) (Ls := #[.val (.ref y), .val (.ref t), .val (.int (Int32.ofNat cs.length)), .val (.int (0 : Int32))]) (st := [(.int (Int32.ofNat cs.length)), (.ref t), (.int (0 : Int32)), (.ref u)]) P162 hx hZ hown (host := "") (Or.inl (hw _ (List.mem_of_getElem? (i := 32) rfl))) Via.refl F1.2.1 (hb hby d_jdk_42_method_147_18) ?_
  intro T163 P164
  show Jvm.OwnN.Aim p e below s _ _ n0 _ T163 (mkF m 21 #[.val (.ref y), .val (.ref t), .val (.int (Int32.ofNat cs.length)), .val (.int (0 : Int32))] [(.ref u), (.int (Int32.ofNat cs.length)), (.ref t), (.int (0 : Int32)), (.ref u)])
  refine Jvm.OwnN.Aim.alen (pc := 21) (Ls := #[.val (.ref y), .val (.ref t), .val (.int (Int32.ofNat cs.length)), .val (.int (0 : Int32))]) (st := [(.int (Int32.ofNat cs.length)), (.ref t), (.int (0 : Int32)), (.ref u)]) P164 hx hZ F1.2.2.2.1 (hb hby d_jdk_42_method_147_21) ?_
  show Jvm.OwnN.Aim p e below s _ _ n0 _ T163 (mkF m 22 #[.val (.ref y), .val (.ref t), .val (.int (Int32.ofNat cs.length)), .val (.int (0 : Int32))] [(.int (Int32.ofNat ds.length)), (.int (Int32.ofNat cs.length)), (.ref t), (.int (0 : Int32)), (.ref u)])
  refine Jvm.OwnN.Aim.cpA (pc := 22) (Ls := #[.val (.ref y), .val (.ref t), .val (.int (Int32.ofNat cs.length)), .val (.int (0 : Int32))]) (rest := []) P164 hx hZ hml hown (hw _ (List.mem_of_getElem? (i := 119) rfl)) (hw _ (List.mem_of_getElem? (i := 122) rfl)) (hw _ (List.mem_of_getElem? (i := 120) rfl)) (hw _ (List.mem_of_getElem? (i := 121) rfl)) F1.2.2.2.1 F0 (Or.inl ⟨rfl, rfl⟩) (by decide) (own_clamp (n := cs.length) (by omega)).2.1 (own_clamp (n := ds.length) (by omega)).2.1 (by rw [show (0 : Int32).toNatClampNeg = 0 from by decide]; omega) (by rw [(own_clamp (n := cs.length) (by omega)).1, (own_clamp (n := ds.length) (by omega)).1, (own_clamp (n := cap) (by omega)).1]; exact hl) rfl (by rw [(own_clamp (n := cs.length) (by omega)).1, (own_clamp (n := ds.length) (by omega)).1, fill_length (by omega)]; exact hl) g_t rfl (hb hby d_jdk_42_method_147_22) (by decide) (by decide) ?_
  intro T165 h166 P167 K168 V169
  have V170 : Arv Z h166 t kb .byte (Int32.ofNat cap) (fill (cs ++ ds) cap) (.int 0) := Jvm.OwnN.arv_eq V169 (fill_copy hl (by omega))
  have K171 : Keep h0 h166 [t] := (Keep.refl h0 [t]).trans K168 (allS (Or.inl (List.mem_of_getElem? (i := 0) rfl)) all0)
  show Jvm.OwnN.Aim p e below s _ _ n0 _ T165 (mkF m 25 #[.val (.ref y), .val (.ref t), .val (.int (Int32.ofNat cs.length)), .val (.int (0 : Int32))] [])
  have H := P167.here
  refine Jvm.OwnN.Aim.of (T := T165) (T' := T165) (g := (mkF m 25 #[.val (.ref y), .val (.ref t), .val (.int (Int32.ofNat cs.length)), .val (.int (0 : Int32))] [])) (g' := (mkF m 43 #[.val (.ref y), .val (.ref t), .val (.int (Int32.ofNat cs.length)), .val (.int (0 : Int32))] [])) (fun tgt kt => ?_) ?_
  · show Steps p.tables e below (T165.setTop (mkF m 25 #[.val (.ref y), .val (.ref t), .val (.int (Int32.ofNat cs.length)), .val (.int (0 : Int32))] [])) tgt
    refine XS.goto H hx rfl (pc0 := 25) (pc' := 43) rfl (hb hby d_jdk_42_method_147_25) (by decide) (by decide) ?_
    exact kt
  clear H
  exact Jvm.OwnN.Aim.retV P167 hx hlk hret (hb hby d_jdk_42_method_147_43) (by decide) (by decide) ⟨rfl, K171, V170⟩
theorem d_jdk_68_method_71_0 : decode jdk_68_method_71_code 0 = .ok (.getstatic 18, 3) := by decide +kernel
theorem d_jdk_68_method_71_3 : decode jdk_68_method_71_code 3 = .ok (.ifCond .eq 18, 3) := by decide +kernel
theorem d_jdk_68_method_71_6 : decode jdk_68_method_71_code 6 = .ok (.aload_n 0, 1) := by decide +kernel
theorem d_jdk_68_method_71_7 : decode jdk_68_method_71_code 7 = .ok (.getfield 22, 3) := by decide +kernel
theorem d_jdk_68_method_71_10 : decode jdk_68_method_71_code 10 = .ok (.aload_n 1, 1) := by decide +kernel
theorem d_jdk_68_method_71_11 : decode jdk_68_method_71_code 11 = .ok (.invokevirtual 40, 3) := by decide +kernel
theorem d_jdk_68_method_71_14 : decode jdk_68_method_71_code 14 = .ok (.if_icmp .eq 7, 3) := by decide +kernel
theorem d_jdk_68_method_71_21 : decode jdk_68_method_71_code 21 = .ok (.return_, 1) := by decide +kernel
set_option maxRecDepth 65536 in
set_option maxHeartbeats 40000000 in
theorem own_infl (l : Launch) (Z : State) (a0 : Array Value) (hw : ∀ d ∈ tables_1, d.before a0 Z = true) (x : Addr) (y : Addr) (h0 : Heap) (n0 : Nat) (Z0 : n0 ≤ h0.size) (F0 : Exa Z h0 x "java/lang/StringBuilder") (F1 : Fld Z h0 x "java/lang/AbstractStringBuilder" "coder" "B" (.int (0 : Int32))) (F2 : Exa Z h0 y "java/lang/String") (F3 : Fld Z h0 y "java/lang/String" "coder" "B" (.int (0 : Int32))) (F4 : Old Z n0 h0) (G : Cmp Z) :
    Jvm.OwnN.Con l Z (⟨"java/lang/AbstractStringBuilder", "inflateIfNeededFor", "(Ljava/lang/String;)V"⟩ : MethodName) jdk_68_method_71_code 2 none ({ frames := 1, cells := 0, slots := 0, locals := 13 } : Room) n0 #[(.ref x), (.ref y)] h0 (fun v h => v = none ∧ h0 = h) := by
  refine Jvm.OwnN.Con.intro (plainFor_of_name pn_java_lang_AbstractStringBuilder) ?_
  intro p e s m below meth c s₁ hx hby hml hret hnm hown hlk hZ P0
  refine Jvm.OwnN.Aim.cast (by first | (simp [entryFrame, mkF, argsToLocals, Value.category]; done) | rfl : entryFrame m #[(.ref x), (.ref y)] 2 = (mkF m 0 #[.val (.ref x), .val (.ref y)] [])) ?_
  obtain ⟨zc, hzc, Szc⟩ := id G
  refine Jvm.OwnN.Aim.getS (pc := 0) (Ls := #[.val (.ref x), .val (.ref y)]) (st := []) P0 hx hZ hown (hw _ (List.mem_of_getElem? (i := 71) rfl)) Via.refl (Szc.ext F4.2) (hb hby d_jdk_68_method_71_0) ?_
  intro T172 P173
  show Jvm.OwnN.Aim p e below s _ _ n0 _ T172 (mkF m 3 #[.val (.ref x), .val (.ref y)] [(.int zc)])
  have H := P173.here
  refine Jvm.OwnN.Aim.of (T := T172) (T' := T172) (g := (mkF m 3 #[.val (.ref x), .val (.ref y)] [(.int zc)])) (g' := (mkF m 7 #[.val (.ref x), .val (.ref y)] [(.ref x)])) (fun tgt kt => ?_) ?_
  · show Steps p.tables e below (T172.setTop (mkF m 3 #[.val (.ref x), .val (.ref y)] [(.int zc)])) tgt
    refine XS.ifNo H hx rfl (hb hby d_jdk_68_method_71_3) rfl ((if0 _ _).trans (feq hzc).1) ?_
    show Steps p.tables e below (T172.setTop (mkF m 6 #[.val (.ref x), .val (.ref y)] [])) tgt
    refine XS.aloadN H hx rfl (hb hby d_jdk_68_method_71_6) rfl rfl ?_
    exact kt
  clear H
  refine Jvm.OwnN.Aim.getF (pc := 7) (Ls := #[.val (.ref x), .val (.ref y)]) (st := []) P173 hx hZ hown (host := "") (Or.inl (hw _ (List.mem_of_getElem? (i := 74) rfl))) Via.refl F1 (hb hby d_jdk_68_method_71_7) ?_
  intro T174 P175
  show Jvm.OwnN.Aim p e below s _ _ n0 _ T174 (mkF m 10 #[.val (.ref x), .val (.ref y)] [(.int (0 : Int32))])
  have H := P175.here
  refine Jvm.OwnN.Aim.of (T := T174) (T' := T174) (g := (mkF m 10 #[.val (.ref x), .val (.ref y)] [(.int (0 : Int32))])) (g' := (mkF m 11 #[.val (.ref x), .val (.ref y)] [(.ref y), (.int (0 : Int32))])) (fun tgt kt => ?_) ?_
  · show Steps p.tables e below (T174.setTop (mkF m 10 #[.val (.ref x), .val (.ref y)] [(.int (0 : Int32))])) tgt
    refine XS.aloadN H hx rfl (hb hby d_jdk_68_method_71_10) rfl rfl ?_
    exact kt
  clear H
  refine Jvm.OwnN.Aim.callV (pc := 11) (Ls := #[.val (.ref x), .val (.ref y)]) (argsL := []) (rest := [(.int (0 : Int32))]) (y := (⟨"java/lang/String", "coder", "()B"⟩ : MethodName)) (z := (⟨"java/lang/String", "coder", "()B"⟩ : MethodName)) P175 hx hZ hml hown (hw _ (List.mem_of_getElem? (i := 113) rfl)) (hw _ (List.mem_of_getElem? (i := 92) rfl)) (notFace_of_selects (args := #[]) (mvT hZ (hw _ (List.mem_of_getElem? (i := 94) rfl)))) (hw _ (List.mem_of_getElem? (i := 94) rfl)) (hw _ (List.mem_of_getElem? (i := 93) rfl)) (by decide) F2 (Jvm.OwnN.Con.back (W := 1) (own_coder l Z a0 hw y h0 n0 Z0 F3 F4 G) hZ (hw _ (List.mem_of_getElem? (i := 95) rfl)) (hw _ (List.mem_of_getElem? (i := 6) rfl)) (by decide) (by decide)) rfl pd__28_29B rfl (Nat.le_of_eq rfl) (hb hby d_jdk_68_method_71_11) (by decide) (by decide) ?_
  intro T176 h177 v180 P178 hQ179
  obtain ⟨rfl, rfl⟩ := hQ179
  show Jvm.OwnN.Aim p e below s _ _ n0 _ T176 (mkF m 14 #[.val (.ref x), .val (.ref y)] [(.int (0 : Int32)), (.int (0 : Int32))])
  have H := P178.here
  refine Jvm.OwnN.Aim.of (T := T176) (T' := T176) (g := (mkF m 14 #[.val (.ref x), .val (.ref y)] [(.int (0 : Int32)), (.int (0 : Int32))])) (g' := (mkF m 21 #[.val (.ref x), .val (.ref y)] [])) (fun tgt kt => ?_) ?_
  · show Steps p.tables e below (T176.setTop (mkF m 14 #[.val (.ref x), .val (.ref y)] [(.int (0 : Int32)), (.int (0 : Int32))])) tgt
    refine XS.icmpYes H hx rfl (pc0 := 14) (pc' := 21) rfl (hb hby d_jdk_68_method_71_14) rfl (teq (by decide)).1 (by decide) (by decide) ?_
    exact kt
  clear H
  exact Jvm.OwnN.Aim.retV P178 hx hlk hret (hb hby d_jdk_68_method_71_21) (by decide) (by decide) ⟨rfl, rfl⟩
theorem d_jdk_68_method_9_0 : decode jdk_68_method_9_code 0 = .ok (.aload_n 0, 1) := by decide +kernel
theorem d_jdk_68_method_9_1 : decode jdk_68_method_9_code 1 = .ok (.getfield 15, 3) := by decide +kernel
theorem d_jdk_68_method_9_4 : decode jdk_68_method_9_code 4 = .ok (.arraylength, 1) := by decide +kernel
theorem d_jdk_68_method_9_5 : decode jdk_68_method_9_code 5 = .ok (.aload_n 0, 1) := by decide +kernel
theorem d_jdk_68_method_9_6 : decode jdk_68_method_9_code 6 = .ok (.getfield 22, 3) := by decide +kernel
theorem d_jdk_68_method_9_9 : decode jdk_68_method_9_code 9 = .ok (.ishr, 1) := by decide +kernel
theorem d_jdk_68_method_9_10 : decode jdk_68_method_9_code 10 = .ok (.istore_n 2, 1) := by decide +kernel
theorem d_jdk_68_method_9_11 : decode jdk_68_method_9_code 11 = .ok (.iload_n 1, 1) := by decide +kernel
theorem d_jdk_68_method_9_12 : decode jdk_68_method_9_code 12 = .ok (.iload_n 2, 1) := by decide +kernel
theorem d_jdk_68_method_9_13 : decode jdk_68_method_9_code 13 = .ok (.isub, 1) := by decide +kernel
theorem d_jdk_68_method_9_14 : decode jdk_68_method_9_code 14 = .ok (.ifCond .le 24, 3) := by decide +kernel
theorem d_jdk_68_method_9_38 : decode jdk_68_method_9_code 38 = .ok (.return_, 1) := by decide +kernel
set_option maxRecDepth 65536 in
set_option maxHeartbeats 40000000 in
theorem own_ens (l : Launch) (Z : State) (a0 : Array Value) (hw : ∀ d ∈ tables_1, d.before a0 Z = true) (x : Addr) (t : Addr) (kb : ClassId) (cs : List Int32) (cap : Nat) (mm : Nat) (h0 : Heap) (n0 : Nat) (Z0 : n0 ≤ h0.size) (F0 : Bld Z h0 x t kb cs cap) (hm : mm ≤ cap) (hc : cap ≤ 16) :
    Jvm.OwnN.Con l Z (⟨"java/lang/AbstractStringBuilder", "ensureCapacityInternal", "(I)V"⟩ : MethodName) jdk_68_method_9_code 3 none ({ frames := 0, cells := 0, slots := 0, locals := 0 } : Room) n0 #[(.ref x), (.int (Int32.ofNat mm))] h0 (fun v h => v = none ∧ h0 = h) := by
  refine Jvm.OwnN.Con.intro (plainFor_of_name pn_java_lang_AbstractStringBuilder) ?_
  intro p e s m below meth c s₁ hx hby hml hret hnm hown hlk hZ P0
  refine Jvm.OwnN.Aim.cast (by first | (simp [entryFrame, mkF, argsToLocals, Value.category]; done) | rfl : entryFrame m #[(.ref x), (.int (Int32.ofNat mm))] 3 = (mkF m 0 #[.val (.ref x), .val (.int (Int32.ofNat mm)), .unset] [])) ?_
  have H := P0.here
  refine Jvm.OwnN.Aim.of (T := s₁) (T' := s₁) (g := (mkF m 0 #[.val (.ref x), .val (.int (Int32.ofNat mm)), .unset] [])) (g' := (mkF m 1 #[.val (.ref x), .val (.int (Int32.ofNat mm)), .unset] [(.ref x)])) (fun tgt kt => ?_) ?_
  · show Steps p.tables e below (s₁.setTop (mkF m 0 #[.val (.ref x), .val (.int (Int32.ofNat mm)), .unset] [])) tgt
    refine XS.aloadN H hx rfl (hb hby d_jdk_68_method_9_0) rfl rfl ?_
    exact kt
  clear H
  refine Jvm.OwnN.Aim.getF (pc := 1) (Ls := #[.val (.ref x), .val (.int (Int32.ofNat mm)), .unset]) (st := []) P0 hx hZ hown (host := "") (Or.inl (hw _ (List.mem_of_getElem? (i := 72) rfl))) Via.refl F0.2.1 (hb hby d_jdk_68_method_9_1) ?_
  intro T183 P184
  show Jvm.OwnN.Aim p e below s _ _ n0 _ T183 (mkF m 4 #[.val (.ref x), .val (.int (Int32.ofNat mm)), .unset] [(.ref t)])
  refine Jvm.OwnN.Aim.alen (pc := 4) (Ls := #[.val (.ref x), .val (.int (Int32.ofNat mm)), .unset]) (st := []) P184 hx hZ F0.2.2.2.2 (hb hby d_jdk_68_method_9_4) ?_
  show Jvm.OwnN.Aim p e below s _ _ n0 _ T183 (mkF m 5 #[.val (.ref x), .val (.int (Int32.ofNat mm)), .unset] [(.int (Int32.ofNat cap))])
  have H := P184.here
  refine Jvm.OwnN.Aim.of (T := T183) (T' := T183) (g := (mkF m 5 #[.val (.ref x), .val (.int (Int32.ofNat mm)), .unset] [(.int (Int32.ofNat cap))])) (g' := (mkF m 6 #[.val (.ref x), .val (.int (Int32.ofNat mm)), .unset] [(.ref x), (.int (Int32.ofNat cap))])) (fun tgt kt => ?_) ?_
  · show Steps p.tables e below (T183.setTop (mkF m 5 #[.val (.ref x), .val (.int (Int32.ofNat mm)), .unset] [(.int (Int32.ofNat cap))])) tgt
    refine XS.aloadN H hx rfl (hb hby d_jdk_68_method_9_5) rfl rfl ?_
    exact kt
  clear H
  refine Jvm.OwnN.Aim.getF (pc := 6) (Ls := #[.val (.ref x), .val (.int (Int32.ofNat mm)), .unset]) (st := [(.int (Int32.ofNat cap))]) P184 hx hZ hown (host := "") (Or.inl (hw _ (List.mem_of_getElem? (i := 74) rfl))) Via.refl F0.2.2.1 (hb hby d_jdk_68_method_9_6) ?_
  intro T185 P186
  show Jvm.OwnN.Aim p e below s _ _ n0 _ T185 (mkF m 9 #[.val (.ref x), .val (.int (Int32.ofNat mm)), .unset] [(.int (0 : Int32)), (.int (Int32.ofNat cap))])
  have H := P186.here
  refine Jvm.OwnN.Aim.of (T := T185) (T' := T185) (g := (mkF m 9 #[.val (.ref x), .val (.int (Int32.ofNat mm)), .unset] [(.int (0 : Int32)), (.int (Int32.ofNat cap))])) (g' := (mkF m 10 #[.val (.ref x), .val (.int (Int32.ofNat mm)), .unset] [(.int ((Int32.ofNat cap) >>> ((0 : Int32) &&& 31)))])) (fun tgt kt => ?_) ?_
  · show Steps p.tables e below (T185.setTop (mkF m 9 #[.val (.ref x), .val (.int (Int32.ofNat mm)), .unset] [(.int (0 : Int32)), (.int (Int32.ofNat cap))])) tgt
    refine XS.ishr H hx rfl (hb hby d_jdk_68_method_9_9) rfl ?_
    exact kt
  clear H
  rw [show ((Int32.ofNat cap) >>> ((0 : Int32) &&& 31)) = (Int32.ofNat cap) from own_shr0 _]
  show Jvm.OwnN.Aim p e below s _ _ n0 _ T185 (mkF m 10 #[.val (.ref x), .val (.int (Int32.ofNat mm)), .unset] [(.int (Int32.ofNat cap))])
  have H := P186.here
  refine Jvm.OwnN.Aim.of (T := T185) (T' := T185) (g := (mkF m 10 #[.val (.ref x), .val (.int (Int32.ofNat mm)), .unset] [(.int (Int32.ofNat cap))])) (g' := (mkF m 38 #[.val (.ref x), .val (.int (Int32.ofNat mm)), .val (.int (Int32.ofNat cap))] [])) (fun tgt kt => ?_) ?_
  · show Steps p.tables e below (T185.setTop (mkF m 10 #[.val (.ref x), .val (.int (Int32.ofNat mm)), .unset] [(.int (Int32.ofNat cap))])) tgt
    refine XS.istoreN H hx rfl (hb hby d_jdk_68_method_9_10) rfl (l' := #[.val (.ref x), .val (.int (Int32.ofNat mm)), .val (.int (Int32.ofNat cap))]) rfl ?_
    show Steps p.tables e below (T185.setTop (mkF m 11 #[.val (.ref x), .val (.int (Int32.ofNat mm)), .val (.int (Int32.ofNat cap))] [])) tgt
    refine XS.iloadN H hx rfl (hb hby d_jdk_68_method_9_11) rfl ?_
    show Steps p.tables e below (T185.setTop (mkF m 12 #[.val (.ref x), .val (.int (Int32.ofNat mm)), .val (.int (Int32.ofNat cap))] [(.int (Int32.ofNat mm))])) tgt
    refine XS.iloadN H hx rfl (hb hby d_jdk_68_method_9_12) rfl ?_
    show Steps p.tables e below (T185.setTop (mkF m 13 #[.val (.ref x), .val (.int (Int32.ofNat mm)), .val (.int (Int32.ofNat cap))] [(.int (Int32.ofNat cap)), (.int (Int32.ofNat mm))])) tgt
    refine XS.isub H hx rfl (hb hby d_jdk_68_method_9_13) rfl ?_
    show Steps p.tables e below (T185.setTop (mkF m 14 #[.val (.ref x), .val (.int (Int32.ofNat mm)), .val (.int (Int32.ofNat cap))] [(.int ((Int32.ofNat mm) - (Int32.ofNat cap)))])) tgt
    refine XS.ifYes H hx rfl (pc0 := 14) (pc' := 38) rfl (hb hby d_jdk_68_method_9_14) rfl ((if0 _ _).trans (flt (own_fits hm (by omega))).2.2.2) (by decide) (by decide) ?_
    exact kt
  clear H
  exact Jvm.OwnN.Aim.retV P186 hx hlk hret (hb hby d_jdk_68_method_9_38) (by decide) (by decide) ⟨rfl, rfl⟩
theorem d_jdk_68_method_73_0 : decode jdk_68_method_73_code 0 = .ok (.aload_n 0, 1) := by decide +kernel
theorem d_jdk_68_method_73_1 : decode jdk_68_method_73_code 1 = .ok (.aload_n 2, 1) := by decide +kernel
theorem d_jdk_68_method_73_2 : decode jdk_68_method_73_code 2 = .ok (.invokevirtual 397, 3) := by decide +kernel
theorem pd__28Ljava_2flang_2fString_3b_29V : parseMethodDescriptor "(Ljava/lang/String;)V" = some ⟨[(.object "java/lang/String")], none⟩ := by decide +kernel
theorem d_jdk_68_method_73_5 : decode jdk_68_method_73_code 5 = .ok (.aload_n 2, 1) := by decide +kernel
theorem d_jdk_68_method_73_6 : decode jdk_68_method_73_code 6 = .ok (.aload_n 0, 1) := by decide +kernel
theorem d_jdk_68_method_73_7 : decode jdk_68_method_73_code 7 = .ok (.getfield 15, 3) := by decide +kernel
theorem d_jdk_68_method_73_10 : decode jdk_68_method_73_code 10 = .ok (.iload_n 1, 1) := by decide +kernel
theorem d_jdk_68_method_73_11 : decode jdk_68_method_73_code 11 = .ok (.aload_n 0, 1) := by decide +kernel
theorem d_jdk_68_method_73_12 : decode jdk_68_method_73_code 12 = .ok (.getfield 22, 3) := by decide +kernel
theorem d_jdk_68_method_73_15 : decode jdk_68_method_73_code 15 = .ok (.invokevirtual 399, 3) := by decide +kernel
theorem pd__28_5bBIB_29V : parseMethodDescriptor "([BIB)V" = some ⟨[(.array .byte), .int, .byte], none⟩ := by decide +kernel
theorem d_jdk_68_method_73_18 : decode jdk_68_method_73_code 18 = .ok (.return_, 1) := by decide +kernel
set_option maxRecDepth 65536 in
set_option maxHeartbeats 40000000 in
theorem own_put (l : Launch) (Z : State) (a0 : Array Value) (hw : ∀ d ∈ tables_1, d.before a0 Z = true) (x : Addr) (t : Addr) (kb : ClassId) (cs : List Int32) (cap : Nat) (y : Addr) (u : Addr) (ku : ClassId) (ds : List Int32) (h0 : Heap) (n0 : Nat) (Z0 : n0 ≤ h0.size) (g_t : n0 ≤ t) (F0 : Bld Z h0 x t kb cs cap) (F1 : Str Z h0 y u ku ds) (F2 : Old Z n0 h0) (hl : cs.length + ds.length ≤ cap) (hc : cap ≤ 16) (nut : u ≠ t) (nux : u ≠ x) (nxt : x ≠ t) (nyt : y ≠ t) (G : Cmp Z) :
    Jvm.OwnN.Con l Z (⟨"java/lang/AbstractStringBuilder", "putStringAt", "(ILjava/lang/String;)V"⟩ : MethodName) jdk_68_method_73_code 3 none ({ frames := 2, cells := 0, slots := 0, locals := 33 } : Room) n0 #[(.ref x), (.int (Int32.ofNat cs.length)), (.ref y)] h0 (fun v h => v = none ∧ Keep h0 h [t] ∧ Arv Z h t kb .byte (Int32.ofNat cap) (fill (cs ++ ds) cap) (.int 0)) := by
  refine Jvm.OwnN.Con.intro (plainFor_of_name pn_java_lang_AbstractStringBuilder) ?_
  intro p e s m below meth c s₁ hx hby hml hret hnm hown hlk hZ P0
  refine Jvm.OwnN.Aim.cast (by first | (simp [entryFrame, mkF, argsToLocals, Value.category]; done) | rfl : entryFrame m #[(.ref x), (.int (Int32.ofNat cs.length)), (.ref y)] 3 = (mkF m 0 #[.val (.ref x), .val (.int (Int32.ofNat cs.length)), .val (.ref y)] [])) ?_
  have H := P0.here
  refine Jvm.OwnN.Aim.of (T := s₁) (T' := s₁) (g := (mkF m 0 #[.val (.ref x), .val (.int (Int32.ofNat cs.length)), .val (.ref y)] [])) (g' := (mkF m 2 #[.val (.ref x), .val (.int (Int32.ofNat cs.length)), .val (.ref y)] [(.ref y), (.ref x)])) (fun tgt kt => ?_) ?_
  · show Steps p.tables e below (s₁.setTop (mkF m 0 #[.val (.ref x), .val (.int (Int32.ofNat cs.length)), .val (.ref y)] [])) tgt
    refine XS.aloadN H hx rfl (hb hby d_jdk_68_method_73_0) rfl rfl ?_
    show Steps p.tables e below (s₁.setTop (mkF m 1 #[.val (.ref x), .val (.int (Int32.ofNat cs.length)), .val (.ref y)] [(.ref x)])) tgt
    refine XS.aloadN H hx rfl (hb hby d_jdk_68_method_73_1) rfl rfl ?_
    exact kt
  clear H
  refine Jvm.OwnN.Aim.callV (pc := 2) (Ls := #[.val (.ref x), .val (.int (Int32.ofNat cs.length)), .val (.ref y)]) (argsL := [(.ref y)]) (rest := []) (y := (⟨"java/lang/AbstractStringBuilder", "inflateIfNeededFor", "(Ljava/lang/String;)V"⟩ : MethodName)) (z := (⟨"java/lang/AbstractStringBuilder", "inflateIfNeededFor", "(Ljava/lang/String;)V"⟩ : MethodName)) P0 hx hZ hml hown (hw _ (List.mem_of_getElem? (i := 108) rfl)) (Jvm.OwnN.declares_of (hw _ (List.mem_of_getElem? (i := 109) rfl)) (hw _ (List.mem_of_getElem? (i := 112) rfl))) (notFace_of_selects (args := #[]) (mvT hZ (hw _ (List.mem_of_getElem? (i := 111) rfl)))) (hw _ (List.mem_of_getElem? (i := 111) rfl)) (hw _ (List.mem_of_getElem? (i := 109) rfl)) (by decide) F0.1 (Jvm.OwnN.Con.back (W := 0) (own_infl l Z a0 hw x y h0 n0 Z0 F0.1 F0.2.2.1 F1.1 F1.2.2.1 F2 G) hZ (hw _ (List.mem_of_getElem? (i := 112) rfl)) (hw _ (List.mem_of_getElem? (i := 68) rfl)) (by decide) (by decide)) rfl pd__28Ljava_2flang_2fString_3b_29V rfl (Nat.le_of_eq rfl) (hb hby d_jdk_68_method_73_2) (by decide) (by decide) ?_
  intro T187 h188 v191 P189 hQ190
  obtain ⟨rfl, rfl⟩ := hQ190
  show Jvm.OwnN.Aim p e below s _ _ n0 _ T187 (mkF m 5 #[.val (.ref x), .val (.int (Int32.ofNat cs.length)), .val (.ref y)] [])
  have H := P189.here
  refine Jvm.OwnN.Aim.of (T := T187) (T' := T187) (g := (mkF m 5 #[.val (.ref x), .val (.int (Int32.ofNat cs.length)), .val (.ref y)] [])) (g' := (mkF m 7 #[.val (.ref x), .val (.int (Int32.ofNat cs.length)), .val (.ref y)] [(.ref x), (.ref y)])) (fun tgt kt => ?_) ?_
  · show Steps p.tables e below (T187.setTop (mkF m 5 #[.val (.ref x), .val (.int (Int32.ofNat cs.length)), .val (.ref y)] [])) tgt
    refine XS.aloadN H hx rfl (hb hby d_jdk_68_method_73_5) rfl rfl ?_
    show Steps p.tables e below (T187.setTop (mkF m 6 #[.val (.ref x), .val (.int (Int32.ofNat cs.length)), .val (.ref y)] [(.ref y)])) tgt
    refine XS.aloadN H hx rfl (hb hby d_jdk_68_method_73_6) rfl rfl ?_
    exact kt
  clear H
  refine Jvm.OwnN.Aim.getF (pc := 7) (Ls := #[.val (.ref x), .val (.int (Int32.ofNat cs.length)), .val (.ref y)]) (st := [(.ref y)]) P189 hx hZ hown (host := "") (Or.inl (hw _ (List.mem_of_getElem? (i := 72) rfl))) Via.refl F0.2.1 (hb hby d_jdk_68_method_73_7) ?_
  intro T194 P195
  show Jvm.OwnN.Aim p e below s _ _ n0 _ T194 (mkF m 10 #[.val (.ref x), .val (.int (Int32.ofNat cs.length)), .val (.ref y)] [(.ref t), (.ref y)])
  have H := P195.here
  refine Jvm.OwnN.Aim.of (T := T194) (T' := T194) (g := (mkF m 10 #[.val (.ref x), .val (.int (Int32.ofNat cs.length)), .val (.ref y)] [(.ref t), (.ref y)])) (g' := (mkF m 12 #[.val (.ref x), .val (.int (Int32.ofNat cs.length)), .val (.ref y)] [(.ref x), (.int (Int32.ofNat cs.length)), (.ref t), (.ref y)])) (fun tgt kt => ?_) ?_
  · show Steps p.tables e below (T194.setTop (mkF m 10 #[.val (.ref x), .val (.int (Int32.ofNat cs.length)), .val (.ref y)] [(.ref t), (.ref y)])) tgt
    refine XS.iloadN H hx rfl (hb hby d_jdk_68_method_73_10) rfl ?_
    show Steps p.tables e below (T194.setTop (mkF m 11 #[.val (.ref x), .val (.int (Int32.ofNat cs.length)), .val (.ref y)] [(.int (Int32.ofNat cs.length)), (.ref t), (.ref y)])) tgt
    refine XS.aloadN H hx rfl (hb hby d_jdk_68_method_73_11) rfl rfl ?_
    exact kt
  clear H
  refine Jvm.OwnN.Aim.getF (pc := 12) (Ls := #[.val (.ref x), .val (.int (Int32.ofNat cs.length)), .val (.ref y)]) (st := [(.int (Int32.ofNat cs.length)), (.ref t), (.ref y)]) P195 hx hZ hown (host := "") (Or.inl (hw _ (List.mem_of_getElem? (i := 74) rfl))) Via.refl F0.2.2.1 (hb hby d_jdk_68_method_73_12) ?_
  intro T196 P197
  show Jvm.OwnN.Aim p e below s _ _ n0 _ T196 (mkF m 15 #[.val (.ref x), .val (.int (Int32.ofNat cs.length)), .val (.ref y)] [(.int (0 : Int32)), (.int (Int32.ofNat cs.length)), (.ref t), (.ref y)])
  refine Jvm.OwnN.Aim.callV (pc := 15) (Ls := #[.val (.ref x), .val (.int (Int32.ofNat cs.length)), .val (.ref y)]) (argsL := [(.ref t), (.int (Int32.ofNat cs.length)), (.int (0 : Int32))]) (rest := []) (y := (⟨"java/lang/String", "getBytes", "([BIB)V"⟩ : MethodName)) (z := (⟨"java/lang/String", "getBytes", "([BIB)V"⟩ : MethodName)) P197 hx hZ hml hown (hw _ (List.mem_of_getElem? (i := 114) rfl)) (hw _ (List.mem_of_getElem? (i := 115) rfl)) (notFace_of_selects (args := #[]) (mvT hZ (hw _ (List.mem_of_getElem? (i := 117) rfl)))) (hw _ (List.mem_of_getElem? (i := 117) rfl)) (hw _ (List.mem_of_getElem? (i := 116) rfl)) (by decide) F1.1 (Jvm.OwnN.Con.back (W := 0) (own_gB l Z a0 hw t kb cs cap y u ku ds h0 n0 Z0 g_t F0.2.2.2.2 F1 F2 hl hc nut nyt G) hZ (hw _ (List.mem_of_getElem? (i := 118) rfl)) (hw _ (List.mem_of_getElem? (i := 6) rfl)) (by decide) (by decide)) rfl pd__28_5bBIB_29V rfl (Nat.le_of_eq rfl) (hb hby d_jdk_68_method_73_15) (by decide) (by decide) ?_
  intro T198 h199 v202 P200 hQ201
  obtain ⟨rfl, K205, F206⟩ := hQ201
  have K207 : Keep h0 h199 [t] := (Keep.refl h0 [t]).trans K205 (allS (Or.inl (List.mem_of_getElem? (i := 0) rfl)) all0)
  show Jvm.OwnN.Aim p e below s _ _ n0 _ T198 (mkF m 18 #[.val (.ref x), .val (.int (Int32.ofNat cs.length)), .val (.ref y)] [])
  exact Jvm.OwnN.Aim.retV P200 hx hlk hret (hb hby d_jdk_68_method_73_18) (by decide) (by decide) ⟨rfl, K207, F206⟩
theorem d_jdk_68_method_22_0 : decode jdk_68_method_22_code 0 = .ok (.aload_n 1, 1) := by decide +kernel
theorem d_jdk_68_method_22_1 : decode jdk_68_method_22_code 1 = .ok (.ifnonnull 8, 3) := by decide +kernel
theorem d_jdk_68_method_22_9 : decode jdk_68_method_22_code 9 = .ok (.aload_n 1, 1) := by decide +kernel
theorem d_jdk_68_method_22_10 : decode jdk_68_method_22_code 10 = .ok (.invokevirtual 32, 3) := by decide +kernel
theorem pd__28_29I : parseMethodDescriptor "()I" = some ⟨[], some .int⟩ := by decide +kernel
theorem d_jdk_68_method_22_13 : decode jdk_68_method_22_code 13 = .ok (.istore_n 2, 1) := by decide +kernel
theorem d_jdk_68_method_22_14 : decode jdk_68_method_22_code 14 = .ok (.aload_n 0, 1) := by decide +kernel
theorem d_jdk_68_method_22_15 : decode jdk_68_method_22_code 15 = .ok (.aload_n 0, 1) := by decide +kernel
theorem d_jdk_68_method_22_16 : decode jdk_68_method_22_code 16 = .ok (.getfield 79, 3) := by decide +kernel
theorem d_jdk_68_method_22_19 : decode jdk_68_method_22_code 19 = .ok (.iload_n 2, 1) := by decide +kernel
theorem d_jdk_68_method_22_20 : decode jdk_68_method_22_code 20 = .ok (.iadd, 1) := by decide +kernel
theorem d_jdk_68_method_22_21 : decode jdk_68_method_22_code 21 = .ok (.invokevirtual 100, 3) := by decide +kernel
theorem d_jdk_68_method_22_24 : decode jdk_68_method_22_code 24 = .ok (.aload_n 0, 1) := by decide +kernel
theorem d_jdk_68_method_22_25 : decode jdk_68_method_22_code 25 = .ok (.aload_n 0, 1) := by decide +kernel
theorem d_jdk_68_method_22_26 : decode jdk_68_method_22_code 26 = .ok (.getfield 79, 3) := by decide +kernel
theorem d_jdk_68_method_22_29 : decode jdk_68_method_22_code 29 = .ok (.aload_n 1, 1) := by decide +kernel
theorem d_jdk_68_method_22_30 : decode jdk_68_method_22_code 30 = .ok (.invokevirtual 208, 3) := by decide +kernel
theorem pd__28ILjava_2flang_2fString_3b_29V : parseMethodDescriptor "(ILjava/lang/String;)V" = some ⟨[.int, (.object "java/lang/String")], none⟩ := by decide +kernel
theorem d_jdk_68_method_22_33 : decode jdk_68_method_22_code 33 = .ok (.aload_n 0, 1) := by decide +kernel
theorem d_jdk_68_method_22_34 : decode jdk_68_method_22_code 34 = .ok (.dup, 1) := by decide +kernel
theorem d_jdk_68_method_22_35 : decode jdk_68_method_22_code 35 = .ok (.getfield 79, 3) := by decide +kernel
theorem d_jdk_68_method_22_38 : decode jdk_68_method_22_code 38 = .ok (.iload_n 2, 1) := by decide +kernel
theorem d_jdk_68_method_22_39 : decode jdk_68_method_22_code 39 = .ok (.iadd, 1) := by decide +kernel
theorem d_jdk_68_method_22_40 : decode jdk_68_method_22_code 40 = .ok (.putfield 79, 3) := by decide +kernel
theorem d_jdk_68_method_22_43 : decode jdk_68_method_22_code 43 = .ok (.aload_n 0, 1) := by decide +kernel
theorem d_jdk_68_method_22_44 : decode jdk_68_method_22_code 44 = .ok (.areturn, 1) := by decide +kernel
set_option maxRecDepth 65536 in
set_option maxHeartbeats 40000000 in
theorem own_app0 (l : Launch) (Z : State) (a0 : Array Value) (hw : ∀ d ∈ tables_1, d.before a0 Z = true) (x : Addr) (t : Addr) (kb : ClassId) (cs : List Int32) (cap : Nat) (y : Addr) (u : Addr) (ku : ClassId) (ds : List Int32) (h0 : Heap) (n0 : Nat) (Z0 : n0 ≤ h0.size) (g_x : n0 ≤ x) (g_t : n0 ≤ t) (F0 : Bld Z h0 x t kb cs cap) (F1 : Str Z h0 y u ku ds) (F2 : Old Z n0 h0) (hl : cs.length + ds.length ≤ cap) (hc : cap ≤ 16) (nut : u ≠ t) (nux : u ≠ x) (nxt : x ≠ t) (nyt : y ≠ t) (G : Cmp Z) :
    Jvm.OwnN.Con l Z (⟨"java/lang/AbstractStringBuilder", "append", "(Ljava/lang/String;)Ljava/lang/AbstractStringBuilder;"⟩ : MethodName) jdk_68_method_22_code 3 (some (.object "java/lang/AbstractStringBuilder")) ({ frames := 3, cells := 0, slots := 0, locals := 47 } : Room) n0 #[(.ref x), (.ref y)] h0 (fun v h => v = some (.ref x) ∧ Keep h0 h [x, t] ∧ Bld Z h x t kb (cs ++ ds) cap) := by
  refine Jvm.OwnN.Con.intro (plainFor_of_name pn_java_lang_AbstractStringBuilder) ?_
  intro p e s m below meth c s₁ hx hby hml hret hnm hown hlk hZ P0
  refine Jvm.OwnN.Aim.cast (by first | (simp [entryFrame, mkF, argsToLocals, Value.category]; done) | rfl : entryFrame m #[(.ref x), (.ref y)] 3 = (mkF m 0 #[.val (.ref x), .val (.ref y), .unset] [])) ?_
  have H := P0.here
  refine Jvm.OwnN.Aim.of (T := s₁) (T' := s₁) (g := (mkF m 0 #[.val (.ref x), .val (.ref y), .unset] [])) (g' := (mkF m 10 #[.val (.ref x), .val (.ref y), .unset] [(.ref y)])) (fun tgt kt => ?_) ?_
  · show Steps p.tables e below (s₁.setTop (mkF m 0 #[.val (.ref x), .val (.ref y), .unset] [])) tgt
    refine XS.aloadN H hx rfl (hb hby d_jdk_68_method_22_0) rfl rfl ?_
    show Steps p.tables e below (s₁.setTop (mkF m 1 #[.val (.ref x), .val (.ref y), .unset] [(.ref y)])) tgt
    refine XS.ifnonnullYes H hx rfl (pc0 := 1) (pc' := 9) rfl (hb hby d_jdk_68_method_22_1) rfl (by decide) (by decide) ?_
    show Steps p.tables e below (s₁.setTop (mkF m 9 #[.val (.ref x), .val (.ref y), .unset] [])) tgt
    refine XS.aloadN H hx rfl (hb hby d_jdk_68_method_22_9) rfl rfl ?_
    exact kt
  clear H
  refine Jvm.OwnN.Aim.callV (pc := 10) (Ls := #[.val (.ref x), .val (.ref y), .unset]) (argsL := []) (rest := []) (y := (⟨"java/lang/String", "length", "()I"⟩ : MethodName)) (z := (⟨"java/lang/String", "length", "()I"⟩ : MethodName)) P0 hx hZ hml hown (hw _ (List.mem_of_getElem? (i := 86) rfl)) (hw _ (List.mem_of_getElem? (i := 87) rfl)) (notFace_of_selects (args := #[]) (mvT hZ (hw _ (List.mem_of_getElem? (i := 89) rfl)))) (hw _ (List.mem_of_getElem? (i := 89) rfl)) (hw _ (List.mem_of_getElem? (i := 88) rfl)) (by decide) F1.1 (Jvm.OwnN.Con.back (W := 0) (own_length l Z a0 hw y u ku ds h0 n0 Z0 F1 F2 G) hZ (hw _ (List.mem_of_getElem? (i := 90) rfl)) (hw _ (List.mem_of_getElem? (i := 6) rfl)) (by decide) (by decide)) rfl pd__28_29I rfl (Nat.le_of_eq rfl) (hb hby d_jdk_68_method_22_10) (by decide) (by decide) ?_
  intro T208 h209 v212 P210 hQ211
  obtain ⟨rfl, rfl⟩ := hQ211
  show Jvm.OwnN.Aim p e below s _ _ n0 _ T208 (mkF m 13 #[.val (.ref x), .val (.ref y), .unset] [(.int (Int32.ofNat ds.length))])
  have H := P210.here
  refine Jvm.OwnN.Aim.of (T := T208) (T' := T208) (g := (mkF m 13 #[.val (.ref x), .val (.ref y), .unset] [(.int (Int32.ofNat ds.length))])) (g' := (mkF m 16 #[.val (.ref x), .val (.ref y), .val (.int (Int32.ofNat ds.length))] [(.ref x), (.ref x)])) (fun tgt kt => ?_) ?_
  · show Steps p.tables e below (T208.setTop (mkF m 13 #[.val (.ref x), .val (.ref y), .unset] [(.int (Int32.ofNat ds.length))])) tgt
    refine XS.istoreN H hx rfl (hb hby d_jdk_68_method_22_13) rfl (l' := #[.val (.ref x), .val (.ref y), .val (.int (Int32.ofNat ds.length))]) rfl ?_
    show Steps p.tables e below (T208.setTop (mkF m 14 #[.val (.ref x), .val (.ref y), .val (.int (Int32.ofNat ds.length))] [])) tgt
    refine XS.aloadN H hx rfl (hb hby d_jdk_68_method_22_14) rfl rfl ?_
    show Steps p.tables e below (T208.setTop (mkF m 15 #[.val (.ref x), .val (.ref y), .val (.int (Int32.ofNat ds.length))] [(.ref x)])) tgt
    refine XS.aloadN H hx rfl (hb hby d_jdk_68_method_22_15) rfl rfl ?_
    exact kt
  clear H
  refine Jvm.OwnN.Aim.getF (pc := 16) (Ls := #[.val (.ref x), .val (.ref y), .val (.int (Int32.ofNat ds.length))]) (st := [(.ref x)]) P210 hx hZ hown (host := "") (Or.inl (hw _ (List.mem_of_getElem? (i := 96) rfl))) Via.refl F0.2.2.2.1 (hb hby d_jdk_68_method_22_16) ?_
  intro T215 P216
  show Jvm.OwnN.Aim p e below s _ _ n0 _ T215 (mkF m 19 #[.val (.ref x), .val (.ref y), .val (.int (Int32.ofNat ds.length))] [(.int (Int32.ofNat cs.length)), (.ref x)])
  have H := P216.here
  refine Jvm.OwnN.Aim.of (T := T215) (T' := T215) (g := (mkF m 19 #[.val (.ref x), .val (.ref y), .val (.int (Int32.ofNat ds.length))] [(.int (Int32.ofNat cs.length)), (.ref x)])) (g' := (mkF m 21 #[.val (.ref x), .val (.ref y), .val (.int (Int32.ofNat ds.length))] [(.int ((Int32.ofNat cs.length) + (Int32.ofNat ds.length))), (.ref x)])) (fun tgt kt => ?_) ?_
  · show Steps p.tables e below (T215.setTop (mkF m 19 #[.val (.ref x), .val (.ref y), .val (.int (Int32.ofNat ds.length))] [(.int (Int32.ofNat cs.length)), (.ref x)])) tgt
    refine XS.iloadN H hx rfl (hb hby d_jdk_68_method_22_19) rfl ?_
    show Steps p.tables e below (T215.setTop (mkF m 20 #[.val (.ref x), .val (.ref y), .val (.int (Int32.ofNat ds.length))] [(.int (Int32.ofNat ds.length)), (.int (Int32.ofNat cs.length)), (.ref x)])) tgt
    refine XS.iadd H hx rfl (hb hby d_jdk_68_method_22_20) rfl ?_
    exact kt
  clear H
  rw [show ((Int32.ofNat cs.length) + (Int32.ofNat ds.length)) = (Int32.ofNat (cs.length + ds.length)) from own_add]
  show Jvm.OwnN.Aim p e below s _ _ n0 _ T215 (mkF m 21 #[.val (.ref x), .val (.ref y), .val (.int (Int32.ofNat ds.length))] [(.int (Int32.ofNat (cs.length + ds.length))), (.ref x)])
  refine Jvm.OwnN.Aim.callV (pc := 21) (Ls := #[.val (.ref x), .val (.ref y), .val (.int (Int32.ofNat ds.length))]) (argsL := [(.int (Int32.ofNat (cs.length + ds.length)))]) (rest := []) (y := (⟨"java/lang/AbstractStringBuilder", "ensureCapacityInternal", "(I)V"⟩ : MethodName)) (z := (⟨"java/lang/AbstractStringBuilder", "ensureCapacityInternal", "(I)V"⟩ : MethodName)) P216 hx hZ hml hown (hw _ (List.mem_of_getElem? (i := 98) rfl)) (Jvm.OwnN.declares_of (hw _ (List.mem_of_getElem? (i := 99) rfl)) (hw _ (List.mem_of_getElem? (i := 102) rfl))) (notFace_of_selects (args := #[]) (mvT hZ (hw _ (List.mem_of_getElem? (i := 101) rfl)))) (hw _ (List.mem_of_getElem? (i := 101) rfl)) (hw _ (List.mem_of_getElem? (i := 99) rfl)) (by decide) F0.1 (Jvm.OwnN.Con.back (W := 0) (own_ens l Z a0 hw x t kb cs cap (cs.length + ds.length) h0 n0 Z0 F0 hl hc) hZ (hw _ (List.mem_of_getElem? (i := 102) rfl)) (hw _ (List.mem_of_getElem? (i := 68) rfl)) (by decide) (by decide)) rfl pd__28I_29V rfl (Nat.le_of_eq rfl) (hb hby d_jdk_68_method_22_21) (by decide) (by decide) ?_
  intro T217 h218 v221 P219 hQ220
  obtain ⟨rfl, rfl⟩ := hQ220
  show Jvm.OwnN.Aim p e below s _ _ n0 _ T217 (mkF m 24 #[.val (.ref x), .val (.ref y), .val (.int (Int32.ofNat ds.length))] [])
  have H := P219.here
  refine Jvm.OwnN.Aim.of (T := T217) (T' := T217) (g := (mkF m 24 #[.val (.ref x), .val (.ref y), .val (.int (Int32.ofNat ds.length))] [])) (g' := (mkF m 26 #[.val (.ref x), .val (.ref y), .val (.int (Int32.ofNat ds.length))] [(.ref x), (.ref x)])) (fun tgt kt => ?_) ?_
  · show Steps p.tables e below (T217.setTop (mkF m 24 #[.val (.ref x), .val (.ref y), .val (.int (Int32.ofNat ds.length))] [])) tgt
    refine XS.aloadN H hx rfl (hb hby d_jdk_68_method_22_24) rfl rfl ?_
    show Steps p.tables e below (T217.setTop (mkF m 25 #[.val (.ref x), .val (.ref y), .val (.int (Int32.ofNat ds.length))] [(.ref x)])) tgt
    refine XS.aloadN H hx rfl (hb hby d_jdk_68_method_22_25) rfl rfl ?_
    exact kt
  clear H
  refine Jvm.OwnN.Aim.getF (pc := 26) (Ls := #[.val (.ref x), .val (.ref y), .val (.int (Int32.ofNat ds.length))]) (st := [(.ref x)]) P219 hx hZ hown (host := "") (Or.inl (hw _ (List.mem_of_getElem? (i := 96) rfl))) Via.refl F0.2.2.2.1 (hb hby d_jdk_68_method_22_26) ?_
  intro T224 P225
  show Jvm.OwnN.Aim p e below s _ _ n0 _ T224 (mkF m 29 #[.val (.ref x), .val (.ref y), .val (.int (Int32.ofNat ds.length))] [(.int (Int32.ofNat cs.length)), (.ref x)])
  have H := P225.here
  refine Jvm.OwnN.Aim.of (T := T224) (T' := T224) (g := (mkF m 29 #[.val (.ref x), .val (.ref y), .val (.int (Int32.ofNat ds.length))] [(.int (Int32.ofNat cs.length)), (.ref x)])) (g' := (mkF m 30 #[.val (.ref x), .val (.ref y), .val (.int (Int32.ofNat ds.length))] [(.ref y), (.int (Int32.ofNat cs.length)), (.ref x)])) (fun tgt kt => ?_) ?_
  · show Steps p.tables e below (T224.setTop (mkF m 29 #[.val (.ref x), .val (.ref y), .val (.int (Int32.ofNat ds.length))] [(.int (Int32.ofNat cs.length)), (.ref x)])) tgt
    refine XS.aloadN H hx rfl (hb hby d_jdk_68_method_22_29) rfl rfl ?_
    exact kt
  clear H
  refine Jvm.OwnN.Aim.callV (pc := 30) (Ls := #[.val (.ref x), .val (.ref y), .val (.int (Int32.ofNat ds.length))]) (argsL := [(.int (Int32.ofNat cs.length)), (.ref y)]) (rest := []) (y := (⟨"java/lang/AbstractStringBuilder", "putStringAt", "(ILjava/lang/String;)V"⟩ : MethodName)) (z := (⟨"java/lang/AbstractStringBuilder", "putStringAt", "(ILjava/lang/String;)V"⟩ : MethodName)) P225 hx hZ hml hown (hw _ (List.mem_of_getElem? (i := 103) rfl)) (Jvm.OwnN.declares_of (hw _ (List.mem_of_getElem? (i := 104) rfl)) (hw _ (List.mem_of_getElem? (i := 107) rfl))) (notFace_of_selects (args := #[]) (mvT hZ (hw _ (List.mem_of_getElem? (i := 106) rfl)))) (hw _ (List.mem_of_getElem? (i := 106) rfl)) (hw _ (List.mem_of_getElem? (i := 104) rfl)) (by decide) F0.1 (Jvm.OwnN.Con.back (W := 0) (own_put l Z a0 hw x t kb cs cap y u ku ds h0 n0 Z0 g_t F0 F1 F2 hl hc nut nux nxt nyt G) hZ (hw _ (List.mem_of_getElem? (i := 107) rfl)) (hw _ (List.mem_of_getElem? (i := 68) rfl)) (by decide) (by decide)) rfl pd__28ILjava_2flang_2fString_3b_29V rfl (Nat.le_of_eq rfl) (hb hby d_jdk_68_method_22_30) (by decide) (by decide) ?_
  intro T226 h227 v230 P228 hQ229
  obtain ⟨rfl, K233, F234⟩ := hQ229
  have K235 : Keep h0 h227 [x, t] := (Keep.refl h0 [x, t]).trans K233 (allS (Or.inl (List.mem_of_getElem? (i := 1) rfl)) all0)
  show Jvm.OwnN.Aim p e below s _ _ n0 _ T226 (mkF m 33 #[.val (.ref x), .val (.ref y), .val (.int (Int32.ofNat ds.length))] [])
  have H := P228.here
  refine Jvm.OwnN.Aim.of (T := T226) (T' := T226) (g := (mkF m 33 #[.val (.ref x), .val (.ref y), .val (.int (Int32.ofNat ds.length))] [])) (g' := (mkF m 35 #[.val (.ref x), .val (.ref y), .val (.int (Int32.ofNat ds.length))] [(.ref x), (.ref x)])) (fun tgt kt => ?_) ?_
  · show Steps p.tables e below (T226.setTop (mkF m 33 #[.val (.ref x), .val (.ref y), .val (.int (Int32.ofNat ds.length))] [])) tgt
    refine XS.aloadN H hx rfl (hb hby d_jdk_68_method_22_33) rfl rfl ?_
    show Steps p.tables e below (T226.setTop (mkF m 34 #[.val (.ref x), .val (.ref y), .val (.int (Int32.ofNat ds.length))] [(.ref x)])) tgt
    refine XS.dup H hx rfl (hb hby d_jdk_68_method_22_34) rfl rfl ?_
    exact kt
  clear H
  have F236 : Fld Z h227 x "java/lang/AbstractStringBuilder" "count" "I" (.int (Int32.ofNat cs.length)) := (F0.2.2.2.1.keep K233 (ninS nxt nin0))
  refine Jvm.OwnN.Aim.getF (pc := 35) (Ls := #[.val (.ref x), .val (.ref y), .val (.int (Int32.ofNat ds.length))]) (st := [(.ref x)]) P228 hx hZ hown (host := "") (Or.inl (hw _ (List.mem_of_getElem? (i := 96) rfl))) Via.refl F236 (hb hby d_jdk_68_method_22_35) ?_
  intro T237 P238
  show Jvm.OwnN.Aim p e below s _ _ n0 _ T237 (mkF m 38 #[.val (.ref x), .val (.ref y), .val (.int (Int32.ofNat ds.length))] [(.int (Int32.ofNat cs.length)), (.ref x)])
  have H := P238.here
  refine Jvm.OwnN.Aim.of (T := T237) (T' := T237) (g := (mkF m 38 #[.val (.ref x), .val (.ref y), .val (.int (Int32.ofNat ds.length))] [(.int (Int32.ofNat cs.length)), (.ref x)])) (g' := (mkF m 40 #[.val (.ref x), .val (.ref y), .val (.int (Int32.ofNat ds.length))] [(.int ((Int32.ofNat cs.length) + (Int32.ofNat ds.length))), (.ref x)])) (fun tgt kt => ?_) ?_
  · show Steps p.tables e below (T237.setTop (mkF m 38 #[.val (.ref x), .val (.ref y), .val (.int (Int32.ofNat ds.length))] [(.int (Int32.ofNat cs.length)), (.ref x)])) tgt
    refine XS.iloadN H hx rfl (hb hby d_jdk_68_method_22_38) rfl ?_
    show Steps p.tables e below (T237.setTop (mkF m 39 #[.val (.ref x), .val (.ref y), .val (.int (Int32.ofNat ds.length))] [(.int (Int32.ofNat ds.length)), (.int (Int32.ofNat cs.length)), (.ref x)])) tgt
    refine XS.iadd H hx rfl (hb hby d_jdk_68_method_22_39) rfl ?_
    exact kt
  clear H
  rw [show ((Int32.ofNat cs.length) + (Int32.ofNat ds.length)) = (Int32.ofNat (cs.length + ds.length)) from own_add]
  show Jvm.OwnN.Aim p e below s _ _ n0 _ T237 (mkF m 40 #[.val (.ref x), .val (.ref y), .val (.int (Int32.ofNat ds.length))] [(.int (Int32.ofNat (cs.length + ds.length))), (.ref x)])
  have F239 : Exa Z h227 x "java/lang/StringBuilder" := (F0.1.keep K233)
  refine Jvm.OwnN.Aim.putF (pc := 40) (Ls := #[.val (.ref x), .val (.ref y), .val (.int (Int32.ofNat ds.length))]) (st := []) (v := (.int (Int32.ofNat (cs.length + ds.length)))) P238 hx hZ hown (host := "") (Or.inl (hw _ (List.mem_of_getElem? (i := 96) rfl))) Via.refl F236 F239 (Or.inl (hw _ (List.mem_of_getElem? (i := 97) rfl))) (hw _ (List.mem_of_getElem? (i := 59) rfl)) (ty := .int) (by decide) rfl rfl (hb hby d_jdk_68_method_22_40) g_x ?_
  intro T240 h241 P242 W243
  have K244 := Keep.of_wr W243
  have F245 : Fld Z h241 x "java/lang/AbstractStringBuilder" "count" "I" (.int (Int32.ofNat (cs.length + ds.length))) := F236.same W243
  have K246 : Keep h0 h241 [x, t] := K235.trans K244 (allS (Or.inl (List.mem_of_getElem? (i := 0) rfl)) all0)
  show Jvm.OwnN.Aim p e below s _ _ n0 _ T240 (mkF m 43 #[.val (.ref x), .val (.ref y), .val (.int (Int32.ofNat ds.length))] [])
  have H := P242.here
  refine Jvm.OwnN.Aim.of (T := T240) (T' := T240) (g := (mkF m 43 #[.val (.ref x), .val (.ref y), .val (.int (Int32.ofNat ds.length))] [])) (g' := (mkF m 44 #[.val (.ref x), .val (.ref y), .val (.int (Int32.ofNat ds.length))] [(.ref x)])) (fun tgt kt => ?_) ?_
  · show Steps p.tables e below (T240.setTop (mkF m 43 #[.val (.ref x), .val (.ref y), .val (.int (Int32.ofNat ds.length))] [])) tgt
    refine XS.aloadN H hx rfl (hb hby d_jdk_68_method_22_43) rfl rfl ?_
    exact kt
  clear H
  have F247 : Exa Z h241 x "java/lang/StringBuilder" := (F239.keep K244)
  have F248 : Fld Z h241 x "java/lang/AbstractStringBuilder" "value" "[B" (.ref t) := ((F0.2.1.keep K233 (ninS nxt nin0)).other W243 (Or.inr (slot_ne (Or.inl (hw _ (List.mem_of_getElem? (i := 73) rfl))) (Or.inl (hw _ (List.mem_of_getElem? (i := 97) rfl))) (by decide) (t := (.array .byte)) (t' := .int) (by decide) (by decide))))
  have F249 : Fld Z h241 x "java/lang/AbstractStringBuilder" "coder" "B" (.int (0 : Int32)) := ((F0.2.2.1.keep K233 (ninS nxt nin0)).other W243 (Or.inr (slot_ne (Or.inl (hw _ (List.mem_of_getElem? (i := 75) rfl))) (Or.inl (hw _ (List.mem_of_getElem? (i := 97) rfl))) (by decide) (t := .byte) (t' := .int) (by decide) (by decide))))
  have F250 : Arv Z h241 t kb .byte (Int32.ofNat cap) (fill (cs ++ ds) cap) (.int 0) := (F234.keep K244 (ninS (Ne.symm nxt) nin0))
  exact Jvm.OwnN.Aim.retA P242 hx hlk hret rfl rfl (hb hby d_jdk_68_method_22_44) (by decide) (by decide) ⟨rfl, K246, ⟨F247, F248, F249, (by rw [List.length_append]; exact F245), F250⟩⟩
theorem d_jdk_67_method_7_0 : decode jdk_67_method_7_code 0 = .ok (.aload_n 0, 1) := by decide +kernel
theorem d_jdk_67_method_7_1 : decode jdk_67_method_7_code 1 = .ok (.aload_n 1, 1) := by decide +kernel
theorem d_jdk_67_method_7_2 : decode jdk_67_method_7_code 2 = .ok (.invokespecial 29, 3) := by decide +kernel
theorem pd__28Ljava_2flang_2fString_3b_29Ljava_2flang_2fAbstractStringBuilder_3b : parseMethodDescriptor "(Ljava/lang/String;)Ljava/lang/AbstractStringBuilder;" = some ⟨[(.object "java/lang/String")], some (.object "java/lang/AbstractStringBuilder")⟩ := by decide +kernel
theorem d_jdk_67_method_7_5 : decode jdk_67_method_7_code 5 = .ok (.pop, 1) := by decide +kernel
theorem d_jdk_67_method_7_6 : decode jdk_67_method_7_code 6 = .ok (.aload_n 0, 1) := by decide +kernel
theorem d_jdk_67_method_7_7 : decode jdk_67_method_7_code 7 = .ok (.areturn, 1) := by decide +kernel
set_option maxRecDepth 65536 in
set_option maxHeartbeats 40000000 in
theorem own_app (l : Launch) (Z : State) (a0 : Array Value) (hw : ∀ d ∈ tables_1, d.before a0 Z = true) (x : Addr) (t : Addr) (kb : ClassId) (cs : List Int32) (cap : Nat) (y : Addr) (u : Addr) (ku : ClassId) (ds : List Int32) (h0 : Heap) (n0 : Nat) (Z0 : n0 ≤ h0.size) (g_x : n0 ≤ x) (g_t : n0 ≤ t) (F0 : Bld Z h0 x t kb cs cap) (F1 : Str Z h0 y u ku ds) (F2 : Old Z n0 h0) (hl : cs.length + ds.length ≤ cap) (hc : cap ≤ 16) (nut : u ≠ t) (nux : u ≠ x) (nxt : x ≠ t) (nyt : y ≠ t) (G : Cmp Z) :
    Jvm.OwnN.Con l Z (⟨"java/lang/StringBuilder", "append", "(Ljava/lang/String;)Ljava/lang/StringBuilder;"⟩ : MethodName) jdk_67_method_7_code 2 (some (.object "java/lang/StringBuilder")) ({ frames := 4, cells := 0, slots := 0, locals := 61 } : Room) n0 #[(.ref x), (.ref y)] h0 (fun v h => v = some (.ref x) ∧ Keep h0 h [x, t] ∧ Bld Z h x t kb (cs ++ ds) cap) := by
  refine Jvm.OwnN.Con.intro (plainFor_of_name pn_java_lang_StringBuilder) ?_
  intro p e s m below meth c s₁ hx hby hml hret hnm hown hlk hZ P0
  refine Jvm.OwnN.Aim.cast (by first | (simp [entryFrame, mkF, argsToLocals, Value.category]; done) | rfl : entryFrame m #[(.ref x), (.ref y)] 2 = (mkF m 0 #[.val (.ref x), .val (.ref y)] [])) ?_
  have H := P0.here
  refine Jvm.OwnN.Aim.of (T := s₁) (T' := s₁) (g := (mkF m 0 #[.val (.ref x), .val (.ref y)] [])) (g' := (mkF m 2 #[.val (.ref x), .val (.ref y)] [(.ref y), (.ref x)])) (fun tgt kt => ?_) ?_
  · show Steps p.tables e below (s₁.setTop (mkF m 0 #[.val (.ref x), .val (.ref y)] [])) tgt
    refine XS.aloadN H hx rfl (hb hby d_jdk_67_method_7_0) rfl rfl ?_
    show Steps p.tables e below (s₁.setTop (mkF m 1 #[.val (.ref x), .val (.ref y)] [(.ref x)])) tgt
    refine XS.aloadN H hx rfl (hb hby d_jdk_67_method_7_1) rfl rfl ?_
    exact kt
  clear H
  refine Jvm.OwnN.Aim.callU (pc := 2) (Ls := #[.val (.ref x), .val (.ref y)]) (argsL := [(.ref y)]) (rest := []) (y := (⟨"java/lang/AbstractStringBuilder", "append", "(Ljava/lang/String;)Ljava/lang/AbstractStringBuilder;"⟩ : MethodName)) P0 hx hZ hml hown (hw _ (List.mem_of_getElem? (i := 81) rfl)) (Jvm.OwnN.same_of (by decide) (hw _ (List.mem_of_getElem? (i := 82) rfl)) (Jvm.OwnN.nf_sel (y := (⟨"java/lang/AbstractStringBuilder", "append", "(Ljava/lang/String;)Ljava/lang/AbstractStringBuilder;"⟩ : MethodName)) (y2 := (⟨"java/lang/AbstractStringBuilder", "ensureCapacityInternal", "(I)V"⟩ : MethodName)) rfl (hw _ (List.mem_of_getElem? (i := 101) rfl)))) (hw _ (List.mem_of_getElem? (i := 82) rfl)) (hw _ (List.mem_of_getElem? (i := 83) rfl)) (by decide) (hw _ (List.mem_of_getElem? (i := 85) rfl)) (Ins.self F0.1) (Jvm.OwnN.Con.back (W := 0) (own_app0 l Z a0 hw x t kb cs cap y u ku ds h0 n0 Z0 g_x g_t F0 F1 F2 hl hc nut nux nxt nyt G) hZ (hw _ (List.mem_of_getElem? (i := 85) rfl)) (hw _ (List.mem_of_getElem? (i := 68) rfl)) (by decide) (by decide)) rfl pd__28Ljava_2flang_2fString_3b_29Ljava_2flang_2fAbstractStringBuilder_3b rfl (Nat.le_of_eq rfl) (hb hby d_jdk_67_method_7_2) (by decide) (by decide) ?_
  intro T251 h252 v255 P253 hQ254
  obtain ⟨rfl, K258, F259⟩ := hQ254
  have K260 : Keep h0 h252 [x, t] := (Keep.refl h0 [x, t]).trans K258 (allS (Or.inl (List.mem_of_getElem? (i := 0) rfl)) (allS (Or.inl (List.mem_of_getElem? (i := 1) rfl)) all0))
  show Jvm.OwnN.Aim p e below s _ _ n0 _ T251 (mkF m 5 #[.val (.ref x), .val (.ref y)] [(.ref x)])
  have H := P253.here
  refine Jvm.OwnN.Aim.of (T := T251) (T' := T251) (g := (mkF m 5 #[.val (.ref x), .val (.ref y)] [(.ref x)])) (g' := (mkF m 7 #[.val (.ref x), .val (.ref y)] [(.ref x)])) (fun tgt kt => ?_) ?_
  · show Steps p.tables e below (T251.setTop (mkF m 5 #[.val (.ref x), .val (.ref y)] [(.ref x)])) tgt
    refine XS.pop H hx rfl (hb hby d_jdk_67_method_7_5) rfl rfl ?_
    show Steps p.tables e below (T251.setTop (mkF m 6 #[.val (.ref x), .val (.ref y)] [])) tgt
    refine XS.aloadN H hx rfl (hb hby d_jdk_67_method_7_6) rfl rfl ?_
    exact kt
  clear H
  exact Jvm.OwnN.Aim.retA P253 hx hlk hret rfl rfl (hb hby d_jdk_67_method_7_7) (by decide) (by decide) ⟨rfl, K260, F259⟩
theorem d_jdk_65_method_131_0 : decode jdk_65_method_131_code 0 = .ok (.iload_n 1, 1) := by decide +kernel
theorem d_jdk_65_method_131_1 : decode jdk_65_method_131_code 1 = .ok (.iload_n 0, 1) := by decide +kernel
theorem d_jdk_65_method_131_2 : decode jdk_65_method_131_code 2 = .ok (.if_icmp .ge 35, 3) := by decide +kernel
theorem d_jdk_65_method_131_37 : decode jdk_65_method_131_code 37 = .ok (.return_, 1) := by decide +kernel
theorem pn_java_util_Arrays : plainName "java/util/Arrays" = true := by first | (simp [plainName, overriddenIn]; done) | decide +kernel
set_option maxRecDepth 65536 in
set_option maxHeartbeats 40000000 in
theorem own_chkL (l : Launch) (Z : State) (a0 : Array Value) (hw : ∀ d ∈ tables_1, d.before a0 Z = true) (n : Int32) (h0 : Heap) (n0 : Nat) (Z0 : n0 ≤ h0.size) (hn : ¬ (n < (0 : Int32))) :
    Jvm.OwnN.Con l Z (⟨"java/util/Arrays", "checkLength", "(II)V"⟩ : MethodName) jdk_65_method_131_code 2 none ({ frames := 0, cells := 0, slots := 0, locals := 0 } : Room) n0 #[(.int (0 : Int32)), (.int n)] h0 (fun v h => v = none ∧ h0 = h) := by
  refine Jvm.OwnN.Con.intro (plainFor_of_name pn_java_util_Arrays) ?_
  intro p e s m below meth c s₁ hx hby hml hret hnm hown hlk hZ P0
  refine Jvm.OwnN.Aim.cast (by first | (simp [entryFrame, mkF, argsToLocals, Value.category]; done) | rfl : entryFrame m #[(.int (0 : Int32)), (.int n)] 2 = (mkF m 0 #[.val (.int (0 : Int32)), .val (.int n)] [])) ?_
  have H := P0.here
  refine Jvm.OwnN.Aim.of (T := s₁) (T' := s₁) (g := (mkF m 0 #[.val (.int (0 : Int32)), .val (.int n)] [])) (g' := (mkF m 37 #[.val (.int (0 : Int32)), .val (.int n)] [])) (fun tgt kt => ?_) ?_
  · show Steps p.tables e below (s₁.setTop (mkF m 0 #[.val (.int (0 : Int32)), .val (.int n)] [])) tgt
    refine XS.iloadN H hx rfl (hb hby d_jdk_65_method_131_0) rfl ?_
    show Steps p.tables e below (s₁.setTop (mkF m 1 #[.val (.int (0 : Int32)), .val (.int n)] [(.int n)])) tgt
    refine XS.iloadN H hx rfl (hb hby d_jdk_65_method_131_1) rfl ?_
    show Steps p.tables e below (s₁.setTop (mkF m 2 #[.val (.int (0 : Int32)), .val (.int n)] [(.int (0 : Int32)), (.int n)])) tgt
    refine XS.icmpYes H hx rfl (pc0 := 2) (pc' := 37) rfl (hb hby d_jdk_65_method_131_2) rfl (flt hn).2.1 (by decide) (by decide) ?_
    exact kt
  clear H
  exact Jvm.OwnN.Aim.retV P0 hx hlk hret (hb hby d_jdk_65_method_131_37) (by decide) (by decide) ⟨rfl, rfl⟩
theorem d_jdk_29_method_69_0 : decode jdk_29_method_69_code 0 = .ok (.iload_n 0, 1) := by decide +kernel
theorem d_jdk_29_method_69_1 : decode jdk_29_method_69_code 1 = .ok (.iload_n 1, 1) := by decide +kernel
theorem d_jdk_29_method_69_2 : decode jdk_29_method_69_code 2 = .ok (.if_icmp .gt 7, 3) := by decide +kernel
theorem d_jdk_29_method_69_9 : decode jdk_29_method_69_code 9 = .ok (.iload_n 1, 1) := by decide +kernel
theorem d_jdk_29_method_69_10 : decode jdk_29_method_69_code 10 = .ok (.ireturn, 1) := by decide +kernel
set_option maxRecDepth 65536 in
set_option maxHeartbeats 40000000 in
theorem own_min (l : Launch) (Z : State) (a0 : Array Value) (hw : ∀ d ∈ tables_1, d.before a0 Z = true) (a : Int32) (b : Int32) (h0 : Heap) (n0 : Nat) (Z0 : n0 ≤ h0.size) (hba : b < a) :
    Jvm.OwnN.Con l Z (⟨"java/lang/Math", "min", "(II)I"⟩ : MethodName) jdk_29_method_69_code 2 (some .int) ({ frames := 0, cells := 0, slots := 0, locals := 0 } : Room) n0 #[(.int a), (.int b)] h0 (fun v h => v = some (.int b) ∧ h0 = h) := by
  refine Jvm.OwnN.Con.intro (Jvm.Free.JP.mathPlain rfl (by decide +kernel)) ?_
  intro p e s m below meth c s₁ hx hby hml hret hnm hown hlk hZ P0
  refine Jvm.OwnN.Aim.cast (by first | (simp [entryFrame, mkF, argsToLocals, Value.category]; done) | rfl : entryFrame m #[(.int a), (.int b)] 2 = (mkF m 0 #[.val (.int a), .val (.int b)] [])) ?_
  have H := P0.here
  refine Jvm.OwnN.Aim.of (T := s₁) (T' := s₁) (g := (mkF m 0 #[.val (.int a), .val (.int b)] [])) (g' := (mkF m 10 #[.val (.int a), .val (.int b)] [(.int b)])) (fun tgt kt => ?_) ?_
  · show Steps p.tables e below (s₁.setTop (mkF m 0 #[.val (.int a), .val (.int b)] [])) tgt
    refine XS.iloadN H hx rfl (hb hby d_jdk_29_method_69_0) rfl ?_
    show Steps p.tables e below (s₁.setTop (mkF m 1 #[.val (.int a), .val (.int b)] [(.int a)])) tgt
    refine XS.iloadN H hx rfl (hb hby d_jdk_29_method_69_1) rfl ?_
    show Steps p.tables e below (s₁.setTop (mkF m 2 #[.val (.int a), .val (.int b)] [(.int b), (.int a)])) tgt
    refine XS.icmpYes H hx rfl (pc0 := 2) (pc' := 9) rfl (hb hby d_jdk_29_method_69_2) rfl (tlt hba).2.2.1 (by decide) (by decide) ?_
    show Steps p.tables e below (s₁.setTop (mkF m 9 #[.val (.int a), .val (.int b)] [])) tgt
    refine XS.iloadN H hx rfl (hb hby d_jdk_29_method_69_9) rfl ?_
    exact kt
  clear H
  exact Jvm.OwnN.Aim.retI P0 hx hlk hret (hb hby d_jdk_29_method_69_10) (by decide) (by decide) ⟨rfl, rfl⟩
theorem d_jdk_65_method_133_0 : decode jdk_65_method_133_code 0 = .ok (.iload_n 1, 1) := by decide +kernel
theorem d_jdk_65_method_133_1 : decode jdk_65_method_133_code 1 = .ok (.iload_n 2, 1) := by decide +kernel
theorem d_jdk_65_method_133_2 : decode jdk_65_method_133_code 2 = .ok (.invokestatic 343, 3) := by decide +kernel
theorem pd__28II_29V : parseMethodDescriptor "(II)V" = some ⟨[.int, .int], none⟩ := by decide +kernel
theorem d_jdk_65_method_133_5 : decode jdk_65_method_133_code 5 = .ok (.iload_n 2, 1) := by decide +kernel
theorem d_jdk_65_method_133_6 : decode jdk_65_method_133_code 6 = .ok (.iload_n 1, 1) := by decide +kernel
theorem d_jdk_65_method_133_7 : decode jdk_65_method_133_code 7 = .ok (.isub, 1) := by decide +kernel
theorem d_jdk_65_method_133_8 : decode jdk_65_method_133_code 8 = .ok (.istore_n 3, 1) := by decide +kernel
theorem d_jdk_65_method_133_9 : decode jdk_65_method_133_code 9 = .ok (.iload_n 3, 1) := by decide +kernel
theorem d_jdk_65_method_133_10 : decode jdk_65_method_133_code 10 = .ok (.newarray .byte, 2) := by decide +kernel
theorem d_jdk_65_method_133_12 : decode jdk_65_method_133_code 12 = .ok (.astore 4, 2) := by decide +kernel
theorem d_jdk_65_method_133_14 : decode jdk_65_method_133_code 14 = .ok (.aload_n 0, 1) := by decide +kernel
theorem d_jdk_65_method_133_15 : decode jdk_65_method_133_code 15 = .ok (.iload_n 1, 1) := by decide +kernel
theorem d_jdk_65_method_133_16 : decode jdk_65_method_133_code 16 = .ok (.aload 4, 2) := by decide +kernel
theorem d_jdk_65_method_133_18 : decode jdk_65_method_133_code 18 = .ok (.iconst 0, 1) := by decide +kernel
theorem d_jdk_65_method_133_19 : decode jdk_65_method_133_code 19 = .ok (.aload_n 0, 1) := by decide +kernel
theorem d_jdk_65_method_133_20 : decode jdk_65_method_133_code 20 = .ok (.arraylength, 1) := by decide +kernel
theorem d_jdk_65_method_133_21 : decode jdk_65_method_133_code 21 = .ok (.iload_n 1, 1) := by decide +kernel
theorem d_jdk_65_method_133_22 : decode jdk_65_method_133_code 22 = .ok (.isub, 1) := by decide +kernel
theorem d_jdk_65_method_133_23 : decode jdk_65_method_133_code 23 = .ok (.iload_n 3, 1) := by decide +kernel
theorem d_jdk_65_method_133_24 : decode jdk_65_method_133_code 24 = .ok (.invokestatic 304, 3) := by decide +kernel
theorem pd__28II_29I : parseMethodDescriptor "(II)I" = some ⟨[.int, .int], some .int⟩ := by decide +kernel
theorem d_jdk_65_method_133_27 : decode jdk_65_method_133_code 27 = .ok (.invokestatic 150, 3) := by decide +kernel
theorem d_jdk_65_method_133_30 : decode jdk_65_method_133_code 30 = .ok (.aload 4, 2) := by decide +kernel
theorem d_jdk_65_method_133_32 : decode jdk_65_method_133_code 32 = .ok (.areturn, 1) := by decide +kernel
set_option maxRecDepth 65536 in
set_option maxHeartbeats 40000000 in
theorem own_crb (l : Launch) (Z : State) (a0 : Array Value) (hw : ∀ d ∈ tables_1, d.before a0 Z = true) (t : Addr) (kb : ClassId) (cs : List Int32) (cap : Nat) (h0 : Heap) (n0 : Nat) (Z0 : n0 ≤ h0.size) (F0 : Arv Z h0 t kb .byte (Int32.ofNat cap) (fill cs cap) (.int 0)) (hl : cs.length < cap) (hc : cap ≤ 16) :
    Jvm.OwnN.Con l Z (⟨"java/util/Arrays", "copyOfRangeByte", "([BII)[B"⟩ : MethodName) jdk_65_method_133_code 5 (some (.array .byte)) ({ frames := 1, cells := 1, slots := 16, locals := 18 } : Room) n0 #[(.ref t), (.int (0 : Int32)), (.int (Int32.ofNat cs.length))] h0 (fun v h => ∃ t2 : Addr, ∃ k2 : ClassId, v = some (.ref t2) ∧ Keep h0 h [] ∧ h0.size ≤ t2 ∧ Arv Z h t2 k2 .byte (Int32.ofNat cs.length) (cs.map fun c => Value.int (c.toInt8.toInt32)) (.int 0)) := by
  refine Jvm.OwnN.Con.intro (plainFor_of_name pn_java_util_Arrays) ?_
  intro p e s m below meth c s₁ hx hby hml hret hnm hown hlk hZ P0
  refine Jvm.OwnN.Aim.cast (by first | (simp [entryFrame, mkF, argsToLocals, Value.category]; done) | rfl : entryFrame m #[(.ref t), (.int (0 : Int32)), (.int (Int32.ofNat cs.length))] 5 = (mkF m 0 #[.val (.ref t), .val (.int (0 : Int32)), .val (.int (Int32.ofNat cs.length)), .unset, .unset] [])) ?_
  have H := P0.here
  refine Jvm.OwnN.Aim.of (T := s₁) (T' := s₁) (g := (mkF m 0 #[.val (.ref t), .val (.int (0 : Int32)), .val (.int (Int32.ofNat cs.length)), .unset, .unset] [])) (g' := (mkF m 2 #[.val (.ref t), .val (.int (0 : Int32)), .val (.int (Int32.ofNat cs.length)), .unset, .unset] [(.int (Int32.ofNat cs.length)), (.int (0 : Int32))])) (fun tgt kt => ?_) ?_
  · show Steps p.tables e below (s₁.setTop (mkF m 0 #[.val (.ref t), .val (.int (0 : Int32)), .val (.int (Int32.ofNat cs.length)), .unset, .unset] [])) tgt
    refine XS.iloadN H hx rfl (hb hby d_jdk_65_method_133_0) rfl ?_
    show Steps p.tables e below (s₁.setTop (mkF m 1 #[.val (.ref t), .val (.int (0 : Int32)), .val (.int (Int32.ofNat cs.length)), .unset, .unset] [(.int (0 : Int32))])) tgt
    refine XS.iloadN H hx rfl (hb hby d_jdk_65_method_133_1) rfl ?_
    exact kt
  clear H
  refine Jvm.OwnN.Aim.callS (pc := 2) (Ls := #[.val (.ref t), .val (.int (0 : Int32)), .val (.int (Int32.ofNat cs.length)), .unset, .unset]) (argsL := [(.int (0 : Int32)), (.int (Int32.ofNat cs.length))]) (rest := []) P0 hx hZ hml hown (hw _ (List.mem_of_getElem? (i := 161) rfl)) (hw _ (List.mem_of_getElem? (i := 162) rfl)) (hw _ (List.mem_of_getElem? (i := 156) rfl)) (hw _ (List.mem_of_getElem? (i := 163) rfl)) (by decide) (Jvm.OwnN.Con.back (W := 0) (own_chkL l Z a0 hw (Int32.ofNat cs.length) h0 n0 Z0 ((own_clamp (n := cs.length) (by omega)).2.1)) hZ (hw _ (List.mem_of_getElem? (i := 163) rfl)) (hw _ (List.mem_of_getElem? (i := 156) rfl)) (by decide) (by decide)) rfl pd__28II_29V rfl (Nat.le_of_eq rfl) (hb hby d_jdk_65_method_133_2) (by decide) (by decide) ?_
  intro T261 h262 v265 P263 hQ264
  obtain ⟨rfl, rfl⟩ := hQ264
  show Jvm.OwnN.Aim p e below s _ _ n0 _ T261 (mkF m 5 #[.val (.ref t), .val (.int (0 : Int32)), .val (.int (Int32.ofNat cs.length)), .unset, .unset] [])
  have H := P263.here
  refine Jvm.OwnN.Aim.of (T := T261) (T' := T261) (g := (mkF m 5 #[.val (.ref t), .val (.int (0 : Int32)), .val (.int (Int32.ofNat cs.length)), .unset, .unset] [])) (g' := (mkF m 8 #[.val (.ref t), .val (.int (0 : Int32)), .val (.int (Int32.ofNat cs.length)), .unset, .unset] [(.int ((Int32.ofNat cs.length) - (0 : Int32)))])) (fun tgt kt => ?_) ?_
  · show Steps p.tables e below (T261.setTop (mkF m 5 #[.val (.ref t), .val (.int (0 : Int32)), .val (.int (Int32.ofNat cs.length)), .unset, .unset] [])) tgt
    refine XS.iloadN H hx rfl (hb hby d_jdk_65_method_133_5) rfl ?_
    show Steps p.tables e below (T261.setTop (mkF m 6 #[.val (.ref t), .val (.int (0 : Int32)), .val (.int (Int32.ofNat cs.length)), .unset, .unset] [(.int (Int32.ofNat cs.length))])) tgt
    refine XS.iloadN H hx rfl (hb hby d_jdk_65_method_133_6) rfl ?_
    show Steps p.tables e below (T261.setTop (mkF m 7 #[.val (.ref t), .val (.int (0 : Int32)), .val (.int (Int32.ofNat cs.length)), .unset, .unset] [(.int (0 : Int32)), (.int (Int32.ofNat cs.length))])) tgt
    refine XS.isub H hx rfl (hb hby d_jdk_65_method_133_7) rfl ?_
    exact kt
  clear H
  rw [show ((Int32.ofNat cs.length) - (0 : Int32)) = (Int32.ofNat cs.length) from own_sub0 _]
  show Jvm.OwnN.Aim p e below s _ _ n0 _ T261 (mkF m 8 #[.val (.ref t), .val (.int (0 : Int32)), .val (.int (Int32.ofNat cs.length)), .unset, .unset] [(.int (Int32.ofNat cs.length))])
  have H := P263.here
  refine Jvm.OwnN.Aim.of (T := T261) (T' := T261) (g := (mkF m 8 #[.val (.ref t), .val (.int (0 : Int32)), .val (.int (Int32.ofNat cs.length)), .unset, .unset] [(.int (Int32.ofNat cs.length))])) (g' := (mkF m 10 #[.val (.ref t), .val (.int (0 : Int32)), .val (.int (Int32.ofNat cs.length)), .val (.int (Int32.ofNat cs.length)), .unset] [(.int (Int32.ofNat cs.length))])) (fun tgt kt => ?_) ?_
  · show Steps p.tables e below (T261.setTop (mkF m 8 #[.val (.ref t), .val (.int (0 : Int32)), .val (.int (Int32.ofNat cs.length)), .unset, .unset] [(.int (Int32.ofNat cs.length))])) tgt
    refine XS.istoreN H hx rfl (hb hby d_jdk_65_method_133_8) rfl (l' := #[.val (.ref t), .val (.int (0 : Int32)), .val (.int (Int32.ofNat cs.length)), .val (.int (Int32.ofNat cs.length)), .unset]) rfl ?_
    show Steps p.tables e below (T261.setTop (mkF m 9 #[.val (.ref t), .val (.int (0 : Int32)), .val (.int (Int32.ofNat cs.length)), .val (.int (Int32.ofNat cs.length)), .unset] [])) tgt
    refine XS.iloadN H hx rfl (hb hby d_jdk_65_method_133_9) rfl ?_
    exact kt
  clear H
  refine Jvm.OwnN.Aim.newP (pc := 10) (Ls := #[.val (.ref t), .val (.int (0 : Int32)), .val (.int (Int32.ofNat cs.length)), .val (.int (Int32.ofNat cs.length)), .unset]) (st := []) (z := (Int32.ofNat cs.length)) P263 hx hZ (hw _ (List.mem_of_getElem? (i := 23) rfl)) (hb hby d_jdk_65_method_133_10) (own_clamp (n := cs.length) (by omega)).2.1 (cap := 16) (Nat.le_trans (Nat.le_of_eq (own_clamp (n := cs.length) (by omega)).1) (by omega)) (by decide) (by decide) (by decide) ?_
  intro T268 h269 k270 b271 g275 P272 E273 V274
  have K277 : Keep h0 h269 [] := (Keep.refl _ _).ext E273
  have K278 : Keep h0 h269 [] := (Keep.refl h0 []).trans K277 all0
  show Jvm.OwnN.Aim p e below s _ _ n0 _ T268 (mkF m 12 #[.val (.ref t), .val (.int (0 : Int32)), .val (.int (Int32.ofNat cs.length)), .val (.int (Int32.ofNat cs.length)), .unset] [(.ref b271)])
  have V279 : Arv Z h269 b271 k270 .byte (Int32.ofNat cs.length) (List.replicate cs.length (Value.int (0 : Int32))) (.int 0) := V274.pad (pad_rep [] (Value.int (0 : Int32)) cs.length)
  have H := P272.here
  refine Jvm.OwnN.Aim.of (T := T268) (T' := T268) (g := (mkF m 12 #[.val (.ref t), .val (.int (0 : Int32)), .val (.int (Int32.ofNat cs.length)), .val (.int (Int32.ofNat cs.length)), .unset] [(.ref b271)])) (g' := (mkF m 20 #[.val (.ref t), .val (.int (0 : Int32)), .val (.int (Int32.ofNat cs.length)), .val (.int (Int32.ofNat cs.length)), .val (.ref b271)] [(.ref t), (.int (0 : Int32)), (.ref b271), (.int (0 : Int32)), (.ref t)])) (fun tgt kt => ?_) ?_
  · show Steps p.tables e below (T268.setTop (mkF m 12 #[.val (.ref t), .val (.int (0 : Int32)), .val (.int (Int32.ofNat cs.length)), .val (.int (Int32.ofNat cs.length)), .unset] [(.ref b271)])) tgt
    refine XS.astore H hx rfl (hb hby d_jdk_65_method_133_12) rfl rfl (l' := #[.val (.ref t), .val (.int (0 : Int32)), .val (.int (Int32.ofNat cs.length)), .val (.int (Int32.ofNat cs.length)), .val (.ref b271)]) rfl ?_
    show Steps p.tables e below (T268.setTop (mkF m 14 #[.val (.ref t), .val (.int (0 : Int32)), .val (.int (Int32.ofNat cs.length)), .val (.int (Int32.ofNat cs.length)), .val (.ref b271)] [])) tgt
    refine XS.aloadN H hx rfl (hb hby d_jdk_65_method_133_14) rfl rfl ?_
    show Steps p.tables e below (T268.setTop (mkF m 15 #[.val (.ref t), .val (.int (0 : Int32)), .val (.int (Int32.ofNat cs.length)), .val (.int (Int32.ofNat cs.length)), .val (.ref b271)] [(.ref t)])) tgt
    refine XS.iloadN H hx rfl (hb hby d_jdk_65_method_133_15) rfl ?_
    show Steps p.tables e below (T268.setTop (mkF m 16 #[.val (.ref t), .val (.int (0 : Int32)), .val (.int (Int32.ofNat cs.length)), .val (.int (Int32.ofNat cs.length)), .val (.ref b271)] [(.int (0 : Int32)), (.ref t)])) tgt
    refine XS.aload H hx rfl (hb hby d_jdk_65_method_133_16) rfl rfl ?_
    show Steps p.tables e below (T268.setTop (mkF m 18 #[.val (.ref t), .val (.int (0 : Int32)), .val (.int (Int32.ofNat cs.length)), .val (.int (Int32.ofNat cs.length)), .val (.ref b271)] [(.ref b271), (.int (0 : Int32)), (.ref t)])) tgt
    refine XS.iconst H hx rfl (hb hby d_jdk_65_method_133_18) ?_
    show Steps p.tables e below (T268.setTop (mkF m 19 #[.val (.ref t), .val (.int (0 : Int32)), .val (.int (Int32.ofNat cs.length)), .val (.int (Int32.ofNat cs.length)), .val (.ref b271)] [(.int (0 : Int32)), (.ref b271), (.int (0 : Int32)), (.ref t)])) tgt
    refine XS.aloadN H hx rfl (hb hby d_jdk_65_method_133_19) rfl rfl ?_
    exact kt
  clear H
  have F280 : Arv Z h269 t kb .byte (Int32.ofNat cap) (fill cs cap) (.int 0) := (F0.keep K277 nin0)
  refine Jvm.OwnN.Aim.alen (pc := 20) (Ls := #[.val (.ref t), .val (.int (0 : Int32)), .val (.int (Int32.ofNat cs.length)), .val (.int (Int32.ofNat cs.length)), .val (.ref b271)]) (st := [(.int (0 : Int32)), (.ref b271), (.int (0 : Int32)), (.ref t)]) P272 hx hZ F280 (hb hby d_jdk_65_method_133_20) ?_
  show Jvm.OwnN.Aim p e below s _ _ n0 _ T268 (mkF m 21 #[.val (.ref t), .val (.int (0 : Int32)), .val (.int (Int32.ofNat cs.length)), .val (.int (Int32.ofNat cs.length)), .val (.ref b271)] [(.int (Int32.ofNat cap)), (.int (0 : Int32)), (.ref b271), (.int (0 : Int32)), (.ref t)])
  have H := P272.here
  refine Jvm.OwnN.Aim.of (T := T268) (T' := T268) (g := (mkF m 21 #[.val (.ref t), .val (.int (0 : Int32)), .val (.int (Int32.ofNat cs.length)), .val (.int (Int32.ofNat cs.length)), .val (.ref b271)] [(.int (Int32.ofNat cap)), (.int (0 : Int32)), (.ref b271), (.int (0 : Int32)), (.ref t)])) (g' := (mkF m 24 #[.val (.ref t), .val (.int (0 : Int32)), .val (.int (Int32.ofNat cs.length)), .val (.int (Int32.ofNat cs.length)), .val (.ref b271)] [(.int (Int32.ofNat cs.length)), (.int ((Int32.ofNat cap) - (0 : Int32))), (.int (0 : Int32)), (.ref b271), (.int (0 : Int32)), (.ref t)])) (fun tgt kt => ?_) ?_
  · show Steps p.tables e below (T268.setTop (mkF m 21 #[.val (.ref t), .val (.int (0 : Int32)), .val (.int (Int32.ofNat cs.length)), .val (.int (Int32.ofNat cs.length)), .val (.ref b271)] [(.int (Int32.ofNat cap)), (.int (0 : Int32)), (.ref b271), (.int (0 : Int32)), (.ref t)])) tgt
    refine XS.iloadN H hx rfl (hb hby d_jdk_65_method_133_21) rfl ?_
    show Steps p.tables e below (T268.setTop (mkF m 22 #[.val (.ref t), .val (.int (0 : Int32)), .val (.int (Int32.ofNat cs.length)), .val (.int (Int32.ofNat cs.length)), .val (.ref b271)] [(.int (0 : Int32)), (.int (Int32.ofNat cap)), (.int (0 : Int32)), (.ref b271), (.int (0 : Int32)), (.ref t)])) tgt
    refine XS.isub H hx rfl (hb hby d_jdk_65_method_133_22) rfl ?_
    show Steps p.tables e below (T268.setTop (mkF m 23 #[.val (.ref t), .val (.int (0 : Int32)), .val (.int (Int32.ofNat cs.length)), .val (.int (Int32.ofNat cs.length)), .val (.ref b271)] [(.int ((Int32.ofNat cap) - (0 : Int32))), (.int (0 : Int32)), (.ref b271), (.int (0 : Int32)), (.ref t)])) tgt
    refine XS.iloadN H hx rfl (hb hby d_jdk_65_method_133_23) rfl ?_
    exact kt
  clear H
  rw [show ((Int32.ofNat cap) - (0 : Int32)) = (Int32.ofNat cap) from own_sub0 _]
  show Jvm.OwnN.Aim p e below s _ _ n0 _ T268 (mkF m 24 #[.val (.ref t), .val (.int (0 : Int32)), .val (.int (Int32.ofNat cs.length)), .val (.int (Int32.ofNat cs.length)), .val (.ref b271)] [(.int (Int32.ofNat cs.length)), (.int (Int32.ofNat cap)), (.int (0 : Int32)), (.ref b271), (.int (0 : Int32)), (.ref t)])
  refine Jvm.OwnN.Aim.callS (pc := 24) (Ls := #[.val (.ref t), .val (.int (0 : Int32)), .val (.int (Int32.ofNat cs.length)), .val (.int (Int32.ofNat cs.length)), .val (.ref b271)]) (argsL := [(.int (Int32.ofNat cap)), (.int (Int32.ofNat cs.length))]) (rest := [(.int (0 : Int32)), (.ref b271), (.int (0 : Int32)), (.ref t)]) P272 hx hZ hml hown (hw _ (List.mem_of_getElem? (i := 164) rfl)) (hw _ (List.mem_of_getElem? (i := 165) rfl)) (hw _ (List.mem_of_getElem? (i := 166) rfl)) (hw _ (List.mem_of_getElem? (i := 167) rfl)) (by decide) (Jvm.OwnN.Con.back (W := 4) (own_min l Z a0 hw (Int32.ofNat cap) (Int32.ofNat cs.length) h269 n0 (Nat.le_trans Z0 (K278.1)) (own_lt hl (by omega))) hZ (hw _ (List.mem_of_getElem? (i := 167) rfl)) (hw _ (List.mem_of_getElem? (i := 166) rfl)) (by decide) (by decide)) rfl pd__28II_29I rfl (Nat.le_of_eq rfl) (hb hby d_jdk_65_method_133_24) (by decide) (by decide) ?_
  intro T281 h282 v285 P283 hQ284
  obtain ⟨rfl, rfl⟩ := hQ284
  show Jvm.OwnN.Aim p e below s _ _ n0 _ T281 (mkF m 27 #[.val (.ref t), .val (.int (0 : Int32)), .val (.int (Int32.ofNat cs.length)), .val (.int (Int32.ofNat cs.length)), .val (.ref b271)] [(.int (Int32.ofNat cs.length)), (.int (0 : Int32)), (.ref b271), (.int (0 : Int32)), (.ref t)])
  refine Jvm.OwnN.Aim.cpA (pc := 27) (Ls := #[.val (.ref t), .val (.int (0 : Int32)), .val (.int (Int32.ofNat cs.length)), .val (.int (Int32.ofNat cs.length)), .val (.ref b271)]) (rest := []) P283 hx hZ hml hown (hw _ (List.mem_of_getElem? (i := 168) rfl)) (hw _ (List.mem_of_getElem? (i := 122) rfl)) (hw _ (List.mem_of_getElem? (i := 120) rfl)) (hw _ (List.mem_of_getElem? (i := 121) rfl)) F280 V279 (Or.inl ⟨rfl, rfl⟩) (by decide) (by decide) (own_clamp (n := cs.length) (by omega)).2.1 (by rw [(own_clamp (n := cs.length) (by omega)).1, (own_clamp (n := cap) (by omega)).1, show (0 : Int32).toNatClampNeg = 0 from by decide]; omega) (by rw [(own_clamp (n := cs.length) (by omega)).1, show (0 : Int32).toNatClampNeg = 0 from by decide]; omega) rfl (by rw [(own_clamp (n := cs.length) (by omega)).1, show (0 : Int32).toNatClampNeg = 0 from by decide]; simp) (Nat.le_trans Z0 (Nat.le_of_eq g275.symm)) rfl (hb hby d_jdk_65_method_133_27) (by decide) (by decide) ?_
  intro T288 h289 P290 K291 V292
  have V293 : Arv Z h289 b271 k270 .byte (Int32.ofNat cs.length) (cs.map fun c => Value.int (c.toInt8.toInt32)) (.int 0) := Jvm.OwnN.arv_eq V292 (fill_out (by omega) (by omega))
  have K294 : Keep h0 h289 [] := K278.trans K291 (allS (Or.inr (Nat.le_trans (Nat.le_refl _) (Nat.le_of_eq g275.symm))) all0)
  show Jvm.OwnN.Aim p e below s _ _ n0 _ T288 (mkF m 30 #[.val (.ref t), .val (.int (0 : Int32)), .val (.int (Int32.ofNat cs.length)), .val (.int (Int32.ofNat cs.length)), .val (.ref b271)] [])
  have H := P290.here
  refine Jvm.OwnN.Aim.of (T := T288) (T' := T288) (g := (mkF m 30 #[.val (.ref t), .val (.int (0 : Int32)), .val (.int (Int32.ofNat cs.length)), .val (.int (Int32.ofNat cs.length)), .val (.ref b271)] [])) (g' := (mkF m 32 #[.val (.ref t), .val (.int (0 : Int32)), .val (.int (Int32.ofNat cs.length)), .val (.int (Int32.ofNat cs.length)), .val (.ref b271)] [(.ref b271)])) (fun tgt kt => ?_) ?_
  · show Steps p.tables e below (T288.setTop (mkF m 30 #[.val (.ref t), .val (.int (0 : Int32)), .val (.int (Int32.ofNat cs.length)), .val (.int (Int32.ofNat cs.length)), .val (.ref b271)] [])) tgt
    refine XS.aload H hx rfl (hb hby d_jdk_65_method_133_30) rfl rfl ?_
    exact kt
  clear H
  exact Jvm.OwnN.Aim.retA P290 hx hlk hret rfl rfl (hb hby d_jdk_65_method_133_32) (by decide) (by decide) ⟨b271, k270, rfl, K294, (Nat.le_trans (Nat.le_refl _) (Nat.le_of_eq g275.symm)), V293⟩
theorem d_jdk_65_method_132_0 : decode jdk_65_method_132_code 0 = .ok (.iload_n 1, 1) := by decide +kernel
theorem d_jdk_65_method_132_1 : decode jdk_65_method_132_code 1 = .ok (.ifCond .ne 9, 3) := by decide +kernel
theorem d_jdk_65_method_132_4 : decode jdk_65_method_132_code 4 = .ok (.iload_n 2, 1) := by decide +kernel
theorem d_jdk_65_method_132_5 : decode jdk_65_method_132_code 5 = .ok (.aload_n 0, 1) := by decide +kernel
theorem d_jdk_65_method_132_6 : decode jdk_65_method_132_code 6 = .ok (.arraylength, 1) := by decide +kernel
theorem d_jdk_65_method_132_7 : decode jdk_65_method_132_code 7 = .ok (.if_icmp .eq 10, 3) := by decide +kernel
theorem d_jdk_65_method_132_10 : decode jdk_65_method_132_code 10 = .ok (.aload_n 0, 1) := by decide +kernel
theorem d_jdk_65_method_132_11 : decode jdk_65_method_132_code 11 = .ok (.iload_n 1, 1) := by decide +kernel
theorem d_jdk_65_method_132_12 : decode jdk_65_method_132_code 12 = .ok (.iload_n 2, 1) := by decide +kernel
theorem d_jdk_65_method_132_13 : decode jdk_65_method_132_code 13 = .ok (.invokestatic 339, 3) := by decide +kernel
theorem pd__28_5bBII_29_5bB : parseMethodDescriptor "([BII)[B" = some ⟨[(.array .byte), .int, .int], some (.array .byte)⟩ := by decide +kernel
theorem d_jdk_65_method_132_16 : decode jdk_65_method_132_code 16 = .ok (.areturn, 1) := by decide +kernel
set_option maxRecDepth 65536 in
set_option maxHeartbeats 40000000 in
theorem own_cr (l : Launch) (Z : State) (a0 : Array Value) (hw : ∀ d ∈ tables_1, d.before a0 Z = true) (t : Addr) (kb : ClassId) (cs : List Int32) (cap : Nat) (h0 : Heap) (n0 : Nat) (Z0 : n0 ≤ h0.size) (F0 : Arv Z h0 t kb .byte (Int32.ofNat cap) (fill cs cap) (.int 0)) (hl : cs.length < cap) (hc : cap ≤ 16) :
    Jvm.OwnN.Con l Z (⟨"java/util/Arrays", "copyOfRange", "([BII)[B"⟩ : MethodName) jdk_65_method_132_code 3 (some (.array .byte)) ({ frames := 2, cells := 1, slots := 16, locals := 34 } : Room) n0 #[(.ref t), (.int (0 : Int32)), (.int (Int32.ofNat cs.length))] h0 (fun v h => ∃ t2 : Addr, ∃ k2 : ClassId, v = some (.ref t2) ∧ Keep h0 h [] ∧ h0.size ≤ t2 ∧ Arv Z h t2 k2 .byte (Int32.ofNat cs.length) (cs.map fun c => Value.int (c.toInt8.toInt32)) (.int 0)) := by
  refine Jvm.OwnN.Con.intro (plainFor_of_name pn_java_util_Arrays) ?_
  intro p e s m below meth c s₁ hx hby hml hret hnm hown hlk hZ P0
  refine Jvm.OwnN.Aim.cast (by first | (simp [entryFrame, mkF, argsToLocals, Value.category]; done) | rfl : entryFrame m #[(.ref t), (.int (0 : Int32)), (.int (Int32.ofNat cs.length))] 3 = (mkF m 0 #[.val (.ref t), .val (.int (0 : Int32)), .val (.int (Int32.ofNat cs.length))] [])) ?_
  have H := P0.here
  refine Jvm.OwnN.Aim.of (T := s₁) (T' := s₁) (g := (mkF m 0 #[.val (.ref t), .val (.int (0 : Int32)), .val (.int (Int32.ofNat cs.length))] [])) (g' := (mkF m 6 #[.val (.ref t), .val (.int (0 : Int32)), .val (.int (Int32.ofNat cs.length))] [(.ref t), (.int (Int32.ofNat cs.length))])) (fun tgt kt => ?_) ?_
  · show Steps p.tables e below (s₁.setTop (mkF m 0 #[.val (.ref t), .val (.int (0 : Int32)), .val (.int (Int32.ofNat cs.length))] [])) tgt
    refine XS.iloadN H hx rfl (hb hby d_jdk_65_method_132_0) rfl ?_
    show Steps p.tables e below (s₁.setTop (mkF m 1 #[.val (.ref t), .val (.int (0 : Int32)), .val (.int (Int32.ofNat cs.length))] [(.int (0 : Int32))])) tgt
    refine XS.ifNo H hx rfl (hb hby d_jdk_65_method_132_1) rfl ((if0 _ _).trans (teq (by decide)).2) ?_
    show Steps p.tables e below (s₁.setTop (mkF m 4 #[.val (.ref t), .val (.int (0 : Int32)), .val (.int (Int32.ofNat cs.length))] [])) tgt
    refine XS.iloadN H hx rfl (hb hby d_jdk_65_method_132_4) rfl ?_
    show Steps p.tables e below (s₁.setTop (mkF m 5 #[.val (.ref t), .val (.int (0 : Int32)), .val (.int (Int32.ofNat cs.length))] [(.int (Int32.ofNat cs.length))])) tgt
    refine XS.aloadN H hx rfl (hb hby d_jdk_65_method_132_5) rfl rfl ?_
    exact kt
  clear H
  refine Jvm.OwnN.Aim.alen (pc := 6) (Ls := #[.val (.ref t), .val (.int (0 : Int32)), .val (.int (Int32.ofNat cs.length))]) (st := [(.int (Int32.ofNat cs.length))]) P0 hx hZ F0 (hb hby d_jdk_65_method_132_6) ?_
  show Jvm.OwnN.Aim p e below s _ _ n0 _ s₁ (mkF m 7 #[.val (.ref t), .val (.int (0 : Int32)), .val (.int (Int32.ofNat cs.length))] [(.int (Int32.ofNat cap)), (.int (Int32.ofNat cs.length))])
  have H := P0.here
  refine Jvm.OwnN.Aim.of (T := s₁) (T' := s₁) (g := (mkF m 7 #[.val (.ref t), .val (.int (0 : Int32)), .val (.int (Int32.ofNat cs.length))] [(.int (Int32.ofNat cap)), (.int (Int32.ofNat cs.length))])) (g' := (mkF m 13 #[.val (.ref t), .val (.int (0 : Int32)), .val (.int (Int32.ofNat cs.length))] [(.int (Int32.ofNat cs.length)), (.int (0 : Int32)), (.ref t)])) (fun tgt kt => ?_) ?_
  · show Steps p.tables e below (s₁.setTop (mkF m 7 #[.val (.ref t), .val (.int (0 : Int32)), .val (.int (Int32.ofNat cs.length))] [(.int (Int32.ofNat cap)), (.int (Int32.ofNat cs.length))])) tgt
    refine XS.icmpNo H hx rfl (hb hby d_jdk_65_method_132_7) rfl (feq (own_ne (by omega) (by omega) (by omega))).1 ?_
    show Steps p.tables e below (s₁.setTop (mkF m 10 #[.val (.ref t), .val (.int (0 : Int32)), .val (.int (Int32.ofNat cs.length))] [])) tgt
    refine XS.aloadN H hx rfl (hb hby d_jdk_65_method_132_10) rfl rfl ?_
    show Steps p.tables e below (s₁.setTop (mkF m 11 #[.val (.ref t), .val (.int (0 : Int32)), .val (.int (Int32.ofNat cs.length))] [(.ref t)])) tgt
    refine XS.iloadN H hx rfl (hb hby d_jdk_65_method_132_11) rfl ?_
    show Steps p.tables e below (s₁.setTop (mkF m 12 #[.val (.ref t), .val (.int (0 : Int32)), .val (.int (Int32.ofNat cs.length))] [(.int (0 : Int32)), (.ref t)])) tgt
    refine XS.iloadN H hx rfl (hb hby d_jdk_65_method_132_12) rfl ?_
    exact kt
  clear H
  refine Jvm.OwnN.Aim.callS (pc := 13) (Ls := #[.val (.ref t), .val (.int (0 : Int32)), .val (.int (Int32.ofNat cs.length))]) (argsL := [(.ref t), (.int (0 : Int32)), (.int (Int32.ofNat cs.length))]) (rest := []) P0 hx hZ hml hown (hw _ (List.mem_of_getElem? (i := 158) rfl)) (hw _ (List.mem_of_getElem? (i := 159) rfl)) (hw _ (List.mem_of_getElem? (i := 156) rfl)) (hw _ (List.mem_of_getElem? (i := 160) rfl)) (by decide) (Jvm.OwnN.Con.back (W := 0) (own_crb l Z a0 hw t kb cs cap h0 n0 Z0 F0 hl hc) hZ (hw _ (List.mem_of_getElem? (i := 160) rfl)) (hw _ (List.mem_of_getElem? (i := 156) rfl)) (by decide) (by decide)) rfl pd__28_5bBII_29_5bB rfl (Nat.le_of_eq rfl) (hb hby d_jdk_65_method_132_13) (by decide) (by decide) ?_
  intro T295 h296 v299 P297 hQ298
  obtain ⟨t_302, k_303, rfl, K304, g305, F306⟩ := hQ298
  have K307 : Keep h0 h296 [] := (Keep.refl h0 []).trans K304 all0
  show Jvm.OwnN.Aim p e below s _ _ n0 _ T295 (mkF m 16 #[.val (.ref t), .val (.int (0 : Int32)), .val (.int (Int32.ofNat cs.length))] [(.ref t_302)])
  exact Jvm.OwnN.Aim.retA P297 hx hlk hret rfl rfl (hb hby d_jdk_65_method_132_16) (by decide) (by decide) ⟨t_302, k_303, rfl, K307, (Nat.le_trans (Nat.le_refl _) g305), F306⟩
theorem d_jdk_68_method_64_0 : decode jdk_68_method_64_code 0 = .ok (.aload_n 0, 1) := by decide +kernel
theorem d_jdk_68_method_64_1 : decode jdk_68_method_64_code 1 = .ok (.getfield 15, 3) := by decide +kernel
theorem d_jdk_68_method_64_4 : decode jdk_68_method_64_code 4 = .ok (.areturn, 1) := by decide +kernel
set_option maxRecDepth 65536 in
set_option maxHeartbeats 40000000 in
theorem own_gv (l : Launch) (Z : State) (a0 : Array Value) (hw : ∀ d ∈ tables_1, d.before a0 Z = true) (x : Addr) (t : Addr) (kb : ClassId) (cs : List Int32) (cap : Nat) (h0 : Heap) (n0 : Nat) (Z0 : n0 ≤ h0.size) (F0 : Bld Z h0 x t kb cs cap) :
    Jvm.OwnN.Con l Z (⟨"java/lang/AbstractStringBuilder", "getValue", "()[B"⟩ : MethodName) jdk_68_method_64_code 1 (some (.array .byte)) ({ frames := 0, cells := 0, slots := 0, locals := 0 } : Room) n0 #[(.ref x)] h0 (fun v h => v = some (.ref t) ∧ h0 = h) := by
  refine Jvm.OwnN.Con.intro (plainFor_of_name pn_java_lang_AbstractStringBuilder) ?_
  intro p e s m below meth c s₁ hx hby hml hret hnm hown hlk hZ P0
  refine Jvm.OwnN.Aim.cast (by first | (simp [entryFrame, mkF, argsToLocals, Value.category]; done) | rfl : entryFrame m #[(.ref x)] 1 = (mkF m 0 #[.val (.ref x)] [])) ?_
  have H := P0.here
  refine Jvm.OwnN.Aim.of (T := s₁) (T' := s₁) (g := (mkF m 0 #[.val (.ref x)] [])) (g' := (mkF m 1 #[.val (.ref x)] [(.ref x)])) (fun tgt kt => ?_) ?_
  · show Steps p.tables e below (s₁.setTop (mkF m 0 #[.val (.ref x)] [])) tgt
    refine XS.aloadN H hx rfl (hb hby d_jdk_68_method_64_0) rfl rfl ?_
    exact kt
  clear H
  refine Jvm.OwnN.Aim.getF (pc := 1) (Ls := #[.val (.ref x)]) (st := []) P0 hx hZ hown (host := "") (Or.inl (hw _ (List.mem_of_getElem? (i := 72) rfl))) Via.refl F0.2.1 (hb hby d_jdk_68_method_64_1) ?_
  intro T308 P309
  show Jvm.OwnN.Aim p e below s _ _ n0 _ T308 (mkF m 4 #[.val (.ref x)] [(.ref t)])
  exact Jvm.OwnN.Aim.retA P309 hx hlk hret rfl rfl (hb hby d_jdk_68_method_64_4) (by decide) (by decide) ⟨rfl, rfl⟩
theorem d_jdk_68_method_6_0 : decode jdk_68_method_6_code 0 = .ok (.aload_n 0, 1) := by decide +kernel
theorem d_jdk_68_method_6_1 : decode jdk_68_method_6_code 1 = .ok (.getfield 79, 3) := by decide +kernel
theorem d_jdk_68_method_6_4 : decode jdk_68_method_6_code 4 = .ok (.ireturn, 1) := by decide +kernel
set_option maxRecDepth 65536 in
set_option maxHeartbeats 40000000 in
theorem own_alen (l : Launch) (Z : State) (a0 : Array Value) (hw : ∀ d ∈ tables_1, d.before a0 Z = true) (x : Addr) (t : Addr) (kb : ClassId) (cs : List Int32) (cap : Nat) (h0 : Heap) (n0 : Nat) (Z0 : n0 ≤ h0.size) (F0 : Bld Z h0 x t kb cs cap) :
    Jvm.OwnN.Con l Z (⟨"java/lang/AbstractStringBuilder", "length", "()I"⟩ : MethodName) jdk_68_method_6_code 1 (some .int) ({ frames := 0, cells := 0, slots := 0, locals := 0 } : Room) n0 #[(.ref x)] h0 (fun v h => v = some (.int (Int32.ofNat cs.length)) ∧ h0 = h) := by
  refine Jvm.OwnN.Con.intro (plainFor_of_name pn_java_lang_AbstractStringBuilder) ?_
  intro p e s m below meth c s₁ hx hby hml hret hnm hown hlk hZ P0
  refine Jvm.OwnN.Aim.cast (by first | (simp [entryFrame, mkF, argsToLocals, Value.category]; done) | rfl : entryFrame m #[(.ref x)] 1 = (mkF m 0 #[.val (.ref x)] [])) ?_
  have H := P0.here
  refine Jvm.OwnN.Aim.of (T := s₁) (T' := s₁) (g := (mkF m 0 #[.val (.ref x)] [])) (g' := (mkF m 1 #[.val (.ref x)] [(.ref x)])) (fun tgt kt => ?_) ?_
  · show Steps p.tables e below (s₁.setTop (mkF m 0 #[.val (.ref x)] [])) tgt
    refine XS.aloadN H hx rfl (hb hby d_jdk_68_method_6_0) rfl rfl ?_
    exact kt
  clear H
  refine Jvm.OwnN.Aim.getF (pc := 1) (Ls := #[.val (.ref x)]) (st := []) P0 hx hZ hown (host := "") (Or.inl (hw _ (List.mem_of_getElem? (i := 96) rfl))) Via.refl F0.2.2.2.1 (hb hby d_jdk_68_method_6_1) ?_
  intro T310 P311
  show Jvm.OwnN.Aim p e below s _ _ n0 _ T310 (mkF m 4 #[.val (.ref x)] [(.int (Int32.ofNat cs.length))])
  exact Jvm.OwnN.Aim.retI P311 hx hlk hret (hb hby d_jdk_68_method_6_4) (by decide) (by decide) ⟨rfl, rfl⟩
theorem d_jdk_67_method_93_0 : decode jdk_67_method_93_code 0 = .ok (.aload_n 0, 1) := by decide +kernel
theorem d_jdk_67_method_93_1 : decode jdk_67_method_93_code 1 = .ok (.invokespecial 343, 3) := by decide +kernel
theorem d_jdk_67_method_93_4 : decode jdk_67_method_93_code 4 = .ok (.ireturn, 1) := by decide +kernel
set_option maxRecDepth 65536 in
set_option maxHeartbeats 40000000 in
theorem own_sblen (l : Launch) (Z : State) (a0 : Array Value) (hw : ∀ d ∈ tables_1, d.before a0 Z = true) (x : Addr) (t : Addr) (kb : ClassId) (cs : List Int32) (cap : Nat) (h0 : Heap) (n0 : Nat) (Z0 : n0 ≤ h0.size) (F0 : Bld Z h0 x t kb cs cap) :
    Jvm.OwnN.Con l Z (⟨"java/lang/StringBuilder", "length", "()I"⟩ : MethodName) jdk_67_method_93_code 1 (some .int) ({ frames := 1, cells := 0, slots := 0, locals := 12 } : Room) n0 #[(.ref x)] h0 (fun v h => v = some (.int (Int32.ofNat cs.length)) ∧ h0 = h) := by
  refine Jvm.OwnN.Con.intro (plainFor_of_name pn_java_lang_StringBuilder) ?_
  intro p e s m below meth c s₁ hx hby hml hret hnm hown hlk hZ P0
  refine Jvm.OwnN.Aim.cast (by first | (simp [entryFrame, mkF, argsToLocals, Value.category]; done) | rfl : entryFrame m #[(.ref x)] 1 = (mkF m 0 #[.val (.ref x)] [])) ?_
  have H := P0.here
  refine Jvm.OwnN.Aim.of (T := s₁) (T' := s₁) (g := (mkF m 0 #[.val (.ref x)] [])) (g' := (mkF m 1 #[.val (.ref x)] [(.ref x)])) (fun tgt kt => ?_) ?_
  · show Steps p.tables e below (s₁.setTop (mkF m 0 #[.val (.ref x)] [])) tgt
    refine XS.aloadN H hx rfl (hb hby d_jdk_67_method_93_0) rfl rfl ?_
    exact kt
  clear H
  refine Jvm.OwnN.Aim.callU (pc := 1) (Ls := #[.val (.ref x)]) (argsL := []) (rest := []) (y := (⟨"java/lang/AbstractStringBuilder", "length", "()I"⟩ : MethodName)) P0 hx hZ hml hown (hw _ (List.mem_of_getElem? (i := 147) rfl)) (Jvm.OwnN.same_of (by decide) (hw _ (List.mem_of_getElem? (i := 143) rfl)) (Jvm.OwnN.nf_sel (y := (⟨"java/lang/AbstractStringBuilder", "length", "()I"⟩ : MethodName)) (y2 := (⟨"java/lang/AbstractStringBuilder", "ensureCapacityInternal", "(I)V"⟩ : MethodName)) rfl (hw _ (List.mem_of_getElem? (i := 101) rfl)))) (hw _ (List.mem_of_getElem? (i := 143) rfl)) (hw _ (List.mem_of_getElem? (i := 83) rfl)) (by decide) (hw _ (List.mem_of_getElem? (i := 148) rfl)) (Ins.self F0.1) (Jvm.OwnN.Con.back (W := 0) (own_alen l Z a0 hw x t kb cs cap h0 n0 Z0 F0) hZ (hw _ (List.mem_of_getElem? (i := 148) rfl)) (hw _ (List.mem_of_getElem? (i := 68) rfl)) (by decide) (by decide)) rfl pd__28_29I rfl (Nat.le_of_eq rfl) (hb hby d_jdk_67_method_93_1) (by decide) (by decide) ?_
  intro T312 h313 v316 P314 hQ315
  obtain ⟨rfl, rfl⟩ := hQ315
  show Jvm.OwnN.Aim p e below s _ _ n0 _ T312 (mkF m 4 #[.val (.ref x)] [(.int (Int32.ofNat cs.length))])
  exact Jvm.OwnN.Aim.retI P314 hx hlk hret (hb hby d_jdk_67_method_93_4) (by decide) (by decide) ⟨rfl, rfl⟩
theorem d_jdk_68_method_68_0 : decode jdk_68_method_68_code 0 = .ok (.getstatic 18, 3) := by decide +kernel
theorem d_jdk_68_method_68_3 : decode jdk_68_method_68_code 3 = .ok (.ifCond .eq 14, 3) := by decide +kernel
theorem d_jdk_68_method_68_6 : decode jdk_68_method_68_code 6 = .ok (.aload_n 0, 1) := by decide +kernel
theorem d_jdk_68_method_68_7 : decode jdk_68_method_68_code 7 = .ok (.getfield 22, 3) := by decide +kernel
theorem d_jdk_68_method_68_10 : decode jdk_68_method_68_code 10 = .ok (.ifCond .ne 7, 3) := by decide +kernel
theorem d_jdk_68_method_68_13 : decode jdk_68_method_68_code 13 = .ok (.iconst 1, 1) := by decide +kernel
theorem d_jdk_68_method_68_14 : decode jdk_68_method_68_code 14 = .ok (.goto 4, 3) := by decide +kernel
theorem d_jdk_68_method_68_18 : decode jdk_68_method_68_code 18 = .ok (.ireturn, 1) := by decide +kernel
set_option maxRecDepth 65536 in
set_option maxHeartbeats 40000000 in
theorem own_isL (l : Launch) (Z : State) (a0 : Array Value) (hw : ∀ d ∈ tables_1, d.before a0 Z = true) (x : Addr) (t : Addr) (kb : ClassId) (cs : List Int32) (cap : Nat) (h0 : Heap) (n0 : Nat) (Z0 : n0 ≤ h0.size) (F0 : Bld Z h0 x t kb cs cap) (F1 : Old Z n0 h0) (G : Cmp Z) :
    Jvm.OwnN.Con l Z (⟨"java/lang/AbstractStringBuilder", "isLatin1", "()Z"⟩ : MethodName) jdk_68_method_68_code 1 (some .boolean) ({ frames := 0, cells := 0, slots := 0, locals := 0 } : Room) n0 #[(.ref x)] h0 (fun v h => v = some (.int (1 : Int32)) ∧ h0 = h) := by
  refine Jvm.OwnN.Con.intro (plainFor_of_name pn_java_lang_AbstractStringBuilder) ?_
  intro p e s m below meth c s₁ hx hby hml hret hnm hown hlk hZ P0
  refine Jvm.OwnN.Aim.cast (by first | (simp [entryFrame, mkF, argsToLocals, Value.category]; done) | rfl : entryFrame m #[(.ref x)] 1 = (mkF m 0 #[.val (.ref x)] [])) ?_
  obtain ⟨zc, hzc, Szc⟩ := id G
  refine Jvm.OwnN.Aim.getS (pc := 0) (Ls := #[.val (.ref x)]) (st := []) P0 hx hZ hown (hw _ (List.mem_of_getElem? (i := 71) rfl)) Via.refl (Szc.ext F1.2) (hb hby d_jdk_68_method_68_0) ?_
  intro T319 P320
  show Jvm.OwnN.Aim p e below s _ _ n0 _ T319 (mkF m 3 #[.val (.ref x)] [(.int zc)])
  have H := P320.here
  refine Jvm.OwnN.Aim.of (T := T319) (T' := T319) (g := (mkF m 3 #[.val (.ref x)] [(.int zc)])) (g' := (mkF m 7 #[.val (.ref x)] [(.ref x)])) (fun tgt kt => ?_) ?_
  · show Steps p.tables e below (T319.setTop (mkF m 3 #[.val (.ref x)] [(.int zc)])) tgt
    refine XS.ifNo H hx rfl (hb hby d_jdk_68_method_68_3) rfl ((if0 _ _).trans (feq hzc).1) ?_
    show Steps p.tables e below (T319.setTop (mkF m 6 #[.val (.ref x)] [])) tgt
    refine XS.aloadN H hx rfl (hb hby d_jdk_68_method_68_6) rfl rfl ?_
    exact kt
  clear H
  refine Jvm.OwnN.Aim.getF (pc := 7) (Ls := #[.val (.ref x)]) (st := []) P320 hx hZ hown (host := "") (Or.inl (hw _ (List.mem_of_getElem? (i := 74) rfl))) Via.refl F0.2.2.1 (hb hby d_jdk_68_method_68_7) ?_
  intro T321 P322
  show Jvm.OwnN.Aim p e below s _ _ n0 _ T321 (mkF m 10 #[.val (.ref x)] [(.int (0 : Int32))])
  have H := P322.here
  refine Jvm.OwnN.Aim.of (T := T321) (T' := T321) (g := (mkF m 10 #[.val (.ref x)] [(.int (0 : Int32))])) (g' := (mkF m 18 #[.val (.ref x)] [(.int (1 : Int32))])) (fun tgt kt => ?_) ?_
  · show Steps p.tables e below (T321.setTop (mkF m 10 #[.val (.ref x)] [(.int (0 : Int32))])) tgt
    refine XS.ifNo H hx rfl (hb hby d_jdk_68_method_68_10) rfl ((if0 _ _).trans (teq (by decide)).2) ?_
    show Steps p.tables e below (T321.setTop (mkF m 13 #[.val (.ref x)] [])) tgt
    refine XS.iconst H hx rfl (hb hby d_jdk_68_method_68_13) ?_
    show Steps p.tables e below (T321.setTop (mkF m 14 #[.val (.ref x)] [(.int (1 : Int32))])) tgt
    refine XS.goto H hx rfl (pc0 := 14) (pc' := 18) rfl (hb hby d_jdk_68_method_68_14) (by decide) (by decide) ?_
    exact kt
  clear H
  exact Jvm.OwnN.Aim.retN (t := .boolean) P322 hx hlk hret (by simp) (hb hby d_jdk_68_method_68_18) (by decide) (by decide) ⟨rfl, rfl⟩
theorem d_jdk_42_method_150_0 : decode jdk_42_method_150_code 0 = .ok (.aload_n 0, 1) := by decide +kernel
theorem d_jdk_42_method_150_1 : decode jdk_42_method_150_code 1 = .ok (.invokespecial 1, 3) := by decide +kernel
theorem d_jdk_42_method_150_4 : decode jdk_42_method_150_code 4 = .ok (.aload_n 1, 1) := by decide +kernel
theorem d_jdk_42_method_150_5 : decode jdk_42_method_150_code 5 = .ok (.invokevirtual 552, 3) := by decide +kernel
theorem pd__28_29_5bB : parseMethodDescriptor "()[B" = some ⟨[], some (.array .byte)⟩ := by decide +kernel
theorem d_jdk_42_method_150_8 : decode jdk_42_method_150_code 8 = .ok (.astore_n 3, 1) := by decide +kernel
theorem d_jdk_42_method_150_9 : decode jdk_42_method_150_code 9 = .ok (.aload_n 1, 1) := by decide +kernel
theorem d_jdk_42_method_150_10 : decode jdk_42_method_150_code 10 = .ok (.invokevirtual 549, 3) := by decide +kernel
theorem d_jdk_42_method_150_13 : decode jdk_42_method_150_code 13 = .ok (.istore 4, 2) := by decide +kernel
theorem d_jdk_42_method_150_15 : decode jdk_42_method_150_code 15 = .ok (.aload_n 1, 1) := by decide +kernel
theorem d_jdk_42_method_150_16 : decode jdk_42_method_150_code 16 = .ok (.invokevirtual 1047, 3) := by decide +kernel
theorem pd__28_29Z : parseMethodDescriptor "()Z" = some ⟨[], some .boolean⟩ := by decide +kernel
theorem d_jdk_42_method_150_19 : decode jdk_42_method_150_code 19 = .ok (.ifCond .eq 22, 3) := by decide +kernel
theorem d_jdk_42_method_150_22 : decode jdk_42_method_150_code 22 = .ok (.aload_n 0, 1) := by decide +kernel
theorem d_jdk_42_method_150_23 : decode jdk_42_method_150_code 23 = .ok (.iconst 0, 1) := by decide +kernel
theorem d_jdk_42_method_150_24 : decode jdk_42_method_150_code 24 = .ok (.putfield 15, 3) := by decide +kernel
theorem d_jdk_42_method_150_27 : decode jdk_42_method_150_code 27 = .ok (.aload_n 0, 1) := by decide +kernel
theorem d_jdk_42_method_150_28 : decode jdk_42_method_150_code 28 = .ok (.aload_n 3, 1) := by decide +kernel
theorem d_jdk_42_method_150_29 : decode jdk_42_method_150_code 29 = .ok (.iconst 0, 1) := by decide +kernel
theorem d_jdk_42_method_150_30 : decode jdk_42_method_150_code 30 = .ok (.iload 4, 2) := by decide +kernel
theorem d_jdk_42_method_150_32 : decode jdk_42_method_150_code 32 = .ok (.invokestatic 54, 3) := by decide +kernel
theorem d_jdk_42_method_150_35 : decode jdk_42_method_150_code 35 = .ok (.putfield 9, 3) := by decide +kernel
theorem d_jdk_42_method_150_38 : decode jdk_42_method_150_code 38 = .ok (.goto 59, 3) := by decide +kernel
theorem d_jdk_42_method_150_97 : decode jdk_42_method_150_code 97 = .ok (.return_, 1) := by decide +kernel
set_option maxRecDepth 65536 in
set_option maxHeartbeats 40000000 in
theorem own_sA (l : Launch) (Z : State) (a0 : Array Value) (hw : ∀ d ∈ tables_1, d.before a0 Z = true) (z : Addr) (x : Addr) (t : Addr) (kb : ClassId) (cs : List Int32) (cap : Nat) (v0 : Value) (c0 : Value) (h0 : Heap) (n0 : Nat) (Z0 : n0 ≤ h0.size) (g_z : n0 ≤ z) (F0 : Exa Z h0 z "java/lang/String") (F1 : Fld Z h0 z "java/lang/String" "value" "[B" v0) (F2 : Fld Z h0 z "java/lang/String" "coder" "B" c0) (F3 : Bld Z h0 x t kb cs cap) (F4 : Old Z n0 h0) (hl : cs.length < cap) (hc : cap ≤ 16) (hr : ∀ c ∈ cs, ¬ c < 0 ∧ ¬ (255 : Int32) < c) (nzx : z ≠ x) (nzt : z ≠ t) (G : Cmp Z) :
    Jvm.OwnN.Con l Z (⟨"java/lang/String", "<init>", "(Ljava/lang/AbstractStringBuilder;Ljava/lang/Void;)V"⟩ : MethodName) jdk_42_method_150_code 5 none ({ frames := 3, cells := 1, slots := 16, locals := 49 } : Room) n0 #[(.ref z), (.ref x), .null] h0 (fun v h => ∃ t2 : Addr, ∃ k2 : ClassId, v = none ∧ Keep h0 h [z] ∧ h0.size ≤ t2 ∧ Str Z h z t2 k2 cs) := by
  refine Jvm.OwnN.Con.intro (plainFor_of_name pn_java_lang_String) ?_
  intro p e s m below meth c s₁ hx hby hml hret hnm hown hlk hZ P0
  refine Jvm.OwnN.Aim.cast (by first | (simp [entryFrame, mkF, argsToLocals, Value.category]; done) | rfl : entryFrame m #[(.ref z), (.ref x), .null] 5 = (mkF m 0 #[.val (.ref z), .val (.ref x), .val .null, .unset, .unset] [])) ?_
  have H := P0.here
  refine Jvm.OwnN.Aim.of (T := s₁) (T' := s₁) (g := (mkF m 0 #[.val (.ref z), .val (.ref x), .val .null, .unset, .unset] [])) (g' := (mkF m 1 #[.val (.ref z), .val (.ref x), .val .null, .unset, .unset] [(.ref z)])) (fun tgt kt => ?_) ?_
  · show Steps p.tables e below (s₁.setTop (mkF m 0 #[.val (.ref z), .val (.ref x), .val .null, .unset, .unset] [])) tgt
    refine XS.aloadN H hx rfl (hb hby d_jdk_42_method_150_0) rfl rfl ?_
    exact kt
  clear H
  refine Jvm.OwnN.Aim.initO (pc := 1) (Ls := #[.val (.ref z), .val (.ref x), .val .null, .unset, .unset]) (st := []) P0 hx hZ hml hown (hw _ (List.mem_of_getElem? (i := 15) rfl)) (hw _ (List.mem_of_getElem? (i := 16) rfl)) (hw _ (List.mem_of_getElem? (i := 17) rfl)) rfl (hb hby d_jdk_42_method_150_1) (by decide) (Nat.le_of_ble_eq_true rfl) ?_
  intro T323 P324
  show Jvm.OwnN.Aim p e below s _ _ n0 _ T323 (mkF m 4 #[.val (.ref z), .val (.ref x), .val .null, .unset, .unset] [])
  have H := P324.here
  refine Jvm.OwnN.Aim.of (T := T323) (T' := T323) (g := (mkF m 4 #[.val (.ref z), .val (.ref x), .val .null, .unset, .unset] [])) (g' := (mkF m 5 #[.val (.ref z), .val (.ref x), .val .null, .unset, .unset] [(.ref x)])) (fun tgt kt => ?_) ?_
  · show Steps p.tables e below (T323.setTop (mkF m 4 #[.val (.ref z), .val (.ref x), .val .null, .unset, .unset] [])) tgt
    refine XS.aloadN H hx rfl (hb hby d_jdk_42_method_150_4) rfl rfl ?_
    exact kt
  clear H
  refine Jvm.OwnN.Aim.callV (pc := 5) (Ls := #[.val (.ref z), .val (.ref x), .val .null, .unset, .unset]) (argsL := []) (rest := []) (y := (⟨"java/lang/AbstractStringBuilder", "getValue", "()[B"⟩ : MethodName)) (z := (⟨"java/lang/AbstractStringBuilder", "getValue", "()[B"⟩ : MethodName)) P324 hx hZ hml hown (hw _ (List.mem_of_getElem? (i := 136) rfl)) (hw _ (List.mem_of_getElem? (i := 137) rfl)) (notFace_of_selects (args := #[]) (mvT hZ (hw _ (List.mem_of_getElem? (i := 139) rfl)))) (hw _ (List.mem_of_getElem? (i := 139) rfl)) (hw _ (List.mem_of_getElem? (i := 138) rfl)) (by decide) F3.1 (Jvm.OwnN.Con.back (W := 0) (own_gv l Z a0 hw x t kb cs cap h0 n0 Z0 F3) hZ (hw _ (List.mem_of_getElem? (i := 140) rfl)) (hw _ (List.mem_of_getElem? (i := 68) rfl)) (by decide) (by decide)) rfl pd__28_29_5bB rfl (Nat.le_of_eq rfl) (hb hby d_jdk_42_method_150_5) (by decide) (by decide) ?_
  intro T325 h326 v329 P327 hQ328
  obtain ⟨rfl, rfl⟩ := hQ328
  show Jvm.OwnN.Aim p e below s _ _ n0 _ T325 (mkF m 8 #[.val (.ref z), .val (.ref x), .val .null, .unset, .unset] [(.ref t)])
  have H := P327.here
  refine Jvm.OwnN.Aim.of (T := T325) (T' := T325) (g := (mkF m 8 #[.val (.ref z), .val (.ref x), .val .null, .unset, .unset] [(.ref t)])) (g' := (mkF m 10 #[.val (.ref z), .val (.ref x), .val .null, .val (.ref t), .unset] [(.ref x)])) (fun tgt kt => ?_) ?_
  · show Steps p.tables e below (T325.setTop (mkF m 8 #[.val (.ref z), .val (.ref x), .val .null, .unset, .unset] [(.ref t)])) tgt
    refine XS.astoreN H hx rfl (hb hby d_jdk_42_method_150_8) rfl rfl (l' := #[.val (.ref z), .val (.ref x), .val .null, .val (.ref t), .unset]) rfl ?_
    show Steps p.tables e below (T325.setTop (mkF m 9 #[.val (.ref z), .val (.ref x), .val .null, .val (.ref t), .unset] [])) tgt
    refine XS.aloadN H hx rfl (hb hby d_jdk_42_method_150_9) rfl rfl ?_
    exact kt
  clear H
  refine Jvm.OwnN.Aim.callV (pc := 10) (Ls := #[.val (.ref z), .val (.ref x), .val .null, .val (.ref t), .unset]) (argsL := []) (rest := []) (y := (⟨"java/lang/AbstractStringBuilder", "length", "()I"⟩ : MethodName)) (z := (⟨"java/lang/StringBuilder", "length", "()I"⟩ : MethodName)) P327 hx hZ hml hown (hw _ (List.mem_of_getElem? (i := 141) rfl)) (hw _ (List.mem_of_getElem? (i := 142) rfl)) (Jvm.OwnN.nf_sel (args := #[]) (y := (⟨"java/lang/AbstractStringBuilder", "length", "()I"⟩ : MethodName)) (y2 := (⟨"java/lang/AbstractStringBuilder", "ensureCapacityInternal", "(I)V"⟩ : MethodName)) rfl (mvT hZ (hw _ (List.mem_of_getElem? (i := 101) rfl)))) (hw _ (List.mem_of_getElem? (i := 144) rfl)) (hw _ (List.mem_of_getElem? (i := 145) rfl)) (by decide) F3.1 (Jvm.OwnN.Con.back (W := 0) (own_sblen l Z a0 hw x t kb cs cap h0 n0 Z0 F3) hZ (hw _ (List.mem_of_getElem? (i := 146) rfl)) (hw _ (List.mem_of_getElem? (i := 60) rfl)) (by decide) (by decide)) rfl pd__28_29I rfl (Nat.le_of_eq rfl) (hb hby d_jdk_42_method_150_10) (by decide) (by decide) ?_
  intro T332 h333 v336 P334 hQ335
  obtain ⟨rfl, rfl⟩ := hQ335
  show Jvm.OwnN.Aim p e below s _ _ n0 _ T332 (mkF m 13 #[.val (.ref z), .val (.ref x), .val .null, .val (.ref t), .unset] [(.int (Int32.ofNat cs.length))])
  have H := P334.here
  refine Jvm.OwnN.Aim.of (T := T332) (T' := T332) (g := (mkF m 13 #[.val (.ref z), .val (.ref x), .val .null, .val (.ref t), .unset] [(.int (Int32.ofNat cs.length))])) (g' := (mkF m 16 #[.val (.ref z), .val (.ref x), .val .null, .val (.ref t), .val (.int (Int32.ofNat cs.length))] [(.ref x)])) (fun tgt kt => ?_) ?_
  · show Steps p.tables e below (T332.setTop (mkF m 13 #[.val (.ref z), .val (.ref x), .val .null, .val (.ref t), .unset] [(.int (Int32.ofNat cs.length))])) tgt
    refine XS.istore H hx rfl (hb hby d_jdk_42_method_150_13) rfl (l' := #[.val (.ref z), .val (.ref x), .val .null, .val (.ref t), .val (.int (Int32.ofNat cs.length))]) rfl ?_
    show Steps p.tables e below (T332.setTop (mkF m 15 #[.val (.ref z), .val (.ref x), .val .null, .val (.ref t), .val (.int (Int32.ofNat cs.length))] [])) tgt
    refine XS.aloadN H hx rfl (hb hby d_jdk_42_method_150_15) rfl rfl ?_
    exact kt
  clear H
  refine Jvm.OwnN.Aim.callV (pc := 16) (Ls := #[.val (.ref z), .val (.ref x), .val .null, .val (.ref t), .val (.int (Int32.ofNat cs.length))]) (argsL := []) (rest := []) (y := (⟨"java/lang/AbstractStringBuilder", "isLatin1", "()Z"⟩ : MethodName)) (z := (⟨"java/lang/AbstractStringBuilder", "isLatin1", "()Z"⟩ : MethodName)) P334 hx hZ hml hown (hw _ (List.mem_of_getElem? (i := 149) rfl)) (hw _ (List.mem_of_getElem? (i := 150) rfl)) (notFace_of_selects (args := #[]) (mvT hZ (hw _ (List.mem_of_getElem? (i := 152) rfl)))) (hw _ (List.mem_of_getElem? (i := 152) rfl)) (hw _ (List.mem_of_getElem? (i := 151) rfl)) (by decide) F3.1 (Jvm.OwnN.Con.back (W := 0) (own_isL l Z a0 hw x t kb cs cap h0 n0 Z0 F3 F4 G) hZ (hw _ (List.mem_of_getElem? (i := 153) rfl)) (hw _ (List.mem_of_getElem? (i := 68) rfl)) (by decide) (by decide)) rfl pd__28_29Z rfl (Nat.le_of_eq rfl) (hb hby d_jdk_42_method_150_16) (by decide) (by decide) ?_
  intro T339 h340 v343 P341 hQ342
  obtain ⟨rfl, rfl⟩ := hQ342
  show Jvm.OwnN.Aim p e below s _ _ n0 _ T339 (mkF m 19 #[.val (.ref z), .val (.ref x), .val .null, .val (.ref t), .val (.int (Int32.ofNat cs.length))] [(.int (1 : Int32))])
  have H := P341.here
  refine Jvm.OwnN.Aim.of (T := T339) (T' := T339) (g := (mkF m 19 #[.val (.ref z), .val (.ref x), .val .null, .val (.ref t), .val (.int (Int32.ofNat cs.length))] [(.int (1 : Int32))])) (g' := (mkF m 24 #[.val (.ref z), .val (.ref x), .val .null, .val (.ref t), .val (.int (Int32.ofNat cs.length))] [(.int (0 : Int32)), (.ref z)])) (fun tgt kt => ?_) ?_
  · show Steps p.tables e below (T339.setTop (mkF m 19 #[.val (.ref z), .val (.ref x), .val .null, .val (.ref t), .val (.int (Int32.ofNat cs.length))] [(.int (1 : Int32))])) tgt
    refine XS.ifNo H hx rfl (hb hby d_jdk_42_method_150_19) rfl ((if0 _ _).trans (feq (by decide)).1) ?_
    show Steps p.tables e below (T339.setTop (mkF m 22 #[.val (.ref z), .val (.ref x), .val .null, .val (.ref t), .val (.int (Int32.ofNat cs.length))] [])) tgt
    refine XS.aloadN H hx rfl (hb hby d_jdk_42_method_150_22) rfl rfl ?_
    show Steps p.tables e below (T339.setTop (mkF m 23 #[.val (.ref z), .val (.ref x), .val .null, .val (.ref t), .val (.int (Int32.ofNat cs.length))] [(.ref z)])) tgt
    refine XS.iconst H hx rfl (hb hby d_jdk_42_method_150_23) ?_
    exact kt
  clear H
  refine Jvm.OwnN.Aim.putF (pc := 24) (Ls := #[.val (.ref z), .val (.ref x), .val .null, .val (.ref t), .val (.int (Int32.ofNat cs.length))]) (st := []) (v := (.int (0 : Int32))) P341 hx hZ hown (host := "") (Or.inl (hw _ (List.mem_of_getElem? (i := 30) rfl))) Via.refl F2 F0 (Or.inr ⟨(hw _ (List.mem_of_getElem? (i := 31) rfl)), rfl, hnm⟩) (hw _ (List.mem_of_getElem? (i := 5) rfl)) (ty := .byte) (by decide) rfl rfl (hb hby d_jdk_42_method_150_24) g_z ?_
  intro T346 h347 P348 W349
  have K350 := Keep.of_wr W349
  have F351 : Fld Z h347 z "java/lang/String" "coder" "B" (.int (0 : Int32)) := F2.same W349
  have K352 : Keep h0 h347 [z] := (Keep.refl h0 [z]).trans K350 (allS (Or.inl (List.mem_of_getElem? (i := 0) rfl)) all0)
  show Jvm.OwnN.Aim p e below s _ _ n0 _ T346 (mkF m 27 #[.val (.ref z), .val (.ref x), .val .null, .val (.ref t), .val (.int (Int32.ofNat cs.length))] [])
  have H := P348.here
  refine Jvm.OwnN.Aim.of (T := T346) (T' := T346) (g := (mkF m 27 #[.val (.ref z), .val (.ref x), .val .null, .val (.ref t), .val (.int (Int32.ofNat cs.length))] [])) (g' := (mkF m 32 #[.val (.ref z), .val (.ref x), .val .null, .val (.ref t), .val (.int (Int32.ofNat cs.length))] [(.int (Int32.ofNat cs.length)), (.int (0 : Int32)), (.ref t), (.ref z)])) (fun tgt kt => ?_) ?_
  · show Steps p.tables e below (T346.setTop (mkF m 27 #[.val (.ref z), .val (.ref x), .val .null, .val (.ref t), .val (.int (Int32.ofNat cs.length))] [])) tgt
    refine XS.aloadN H hx rfl (hb hby d_jdk_42_method_150_27) rfl rfl ?_
    show Steps p.tables e below (T346.setTop (mkF m 28 #[.val (.ref z), .val (.ref x), .val .null, .val (.ref t), .val (.int (Int32.ofNat cs.length))] [(.ref z)])) tgt
    refine XS.aloadN H hx rfl (hb hby d_jdk_42_method_150_28) rfl rfl ?_
    show Steps p.tables e below (T346.setTop (mkF m 29 #[.val (.ref z), .val (.ref x), .val .null, .val (.ref t), .val (.int (Int32.ofNat cs.length))] [(.ref t), (.ref z)])) tgt
    refine XS.iconst H hx rfl (hb hby d_jdk_42_method_150_29) ?_
    show Steps p.tables e below (T346.setTop (mkF m 30 #[.val (.ref z), .val (.ref x), .val .null, .val (.ref t), .val (.int (Int32.ofNat cs.length))] [(.int (0 : Int32)), (.ref t), (.ref z)])) tgt
    refine XS.iload H hx rfl (hb hby d_jdk_42_method_150_30) rfl ?_
    exact kt
  clear H
  have F353 : Arv Z h347 t kb .byte (Int32.ofNat cap) (fill cs cap) (.int 0) := (F3.2.2.2.2.keep K350 (ninS (Ne.symm nzt) nin0))
  refine Jvm.OwnN.Aim.callS (pc := 32) (Ls := #[.val (.ref z), .val (.ref x), .val .null, .val (.ref t), .val (.int (Int32.ofNat cs.length))]) (argsL := [(.ref t), (.int (0 : Int32)), (.int (Int32.ofNat cs.length))]) (rest := [(.ref z)]) P348 hx hZ hml hown (hw _ (List.mem_of_getElem? (i := 154) rfl)) (hw _ (List.mem_of_getElem? (i := 155) rfl)) (hw _ (List.mem_of_getElem? (i := 156) rfl)) (hw _ (List.mem_of_getElem? (i := 157) rfl)) (by decide) (Jvm.OwnN.Con.back (W := 1) (own_cr l Z a0 hw t kb cs cap h347 n0 (Nat.le_trans Z0 (K352.1)) F353 hl hc) hZ (hw _ (List.mem_of_getElem? (i := 157) rfl)) (hw _ (List.mem_of_getElem? (i := 156) rfl)) (by decide) (by decide)) rfl pd__28_5bBII_29_5bB rfl (Nat.le_of_eq rfl) (hb hby d_jdk_42_method_150_32) (by decide) (by decide) ?_
  intro T354 h355 v358 P356 hQ357
  obtain ⟨t_361, k_362, rfl, K363, g364, F365⟩ := hQ357
  have K366 : Keep h0 h355 [z] := K352.trans K363 all0
  show Jvm.OwnN.Aim p e below s _ _ n0 _ T354 (mkF m 35 #[.val (.ref z), .val (.ref x), .val .null, .val (.ref t), .val (.int (Int32.ofNat cs.length))] [(.ref t_361), (.ref z)])
  have F367 : Exa Z h355 z "java/lang/String" := ((F0.keep K350).keep K363)
  have F368 : Fld Z h355 z "java/lang/String" "value" "[B" v0 := ((F1.other W349 (Or.inr (slot_ne (Or.inr (hw _ (List.mem_of_getElem? (i := 33) rfl))) (Or.inr (hw _ (List.mem_of_getElem? (i := 31) rfl))) (by decide) (t := (.array .byte)) (t' := .byte) (by decide) (by decide)))).keep K363 nin0)
  refine Jvm.OwnN.Aim.putF (pc := 35) (Ls := #[.val (.ref z), .val (.ref x), .val .null, .val (.ref t), .val (.int (Int32.ofNat cs.length))]) (st := []) (v := (.ref t_361)) P356 hx hZ hown (host := "") (Or.inl (hw _ (List.mem_of_getElem? (i := 32) rfl))) Via.refl F368 F367 (Or.inr ⟨(hw _ (List.mem_of_getElem? (i := 33) rfl)), rfl, hnm⟩) (hw _ (List.mem_of_getElem? (i := 5) rfl)) (ty := (.array .byte)) (by decide) rfl rfl (hb hby d_jdk_42_method_150_35) g_z ?_
  intro T369 h370 P371 W372
  have K373 := Keep.of_wr W372
  have F374 : Fld Z h370 z "java/lang/String" "value" "[B" (.ref t_361) := F368.same W372
  have K375 : Keep h0 h370 [z] := K366.trans K373 (allS (Or.inl (List.mem_of_getElem? (i := 0) rfl)) all0)
  show Jvm.OwnN.Aim p e below s _ _ n0 _ T369 (mkF m 38 #[.val (.ref z), .val (.ref x), .val .null, .val (.ref t), .val (.int (Int32.ofNat cs.length))] [])
  have H := P371.here
  refine Jvm.OwnN.Aim.of (T := T369) (T' := T369) (g := (mkF m 38 #[.val (.ref z), .val (.ref x), .val .null, .val (.ref t), .val (.int (Int32.ofNat cs.length))] [])) (g' := (mkF m 97 #[.val (.ref z), .val (.ref x), .val .null, .val (.ref t), .val (.int (Int32.ofNat cs.length))] [])) (fun tgt kt => ?_) ?_
  · show Steps p.tables e below (T369.setTop (mkF m 38 #[.val (.ref z), .val (.ref x), .val .null, .val (.ref t), .val (.int (Int32.ofNat cs.length))] [])) tgt
    refine XS.goto H hx rfl (pc0 := 38) (pc' := 97) rfl (hb hby d_jdk_42_method_150_38) (by decide) (by decide) ?_
    exact kt
  clear H
  have F376 : Exa Z h370 z "java/lang/String" := (F367.keep K373)
  have F377 : Fld Z h370 z "java/lang/String" "coder" "B" (.int (0 : Int32)) := ((F351.keep K363 nin0).other W372 (Or.inr (slot_ne (Or.inr (hw _ (List.mem_of_getElem? (i := 31) rfl))) (Or.inr (hw _ (List.mem_of_getElem? (i := 33) rfl))) (by decide) (t := .byte) (t' := (.array .byte)) (by decide) (by decide))))
  have F378 : Arv Z h370 t_361 k_362 .byte (Int32.ofNat cs.length) (cs.map fun c => Value.int (c.toInt8.toInt32)) (.int 0) := (F365.keep K373 (ninS (Ne.symm (Nat.ne_of_lt (Nat.lt_of_lt_of_le (Nat.lt_of_lt_of_le F0.lt (K352.1)) g364))) nin0))
  exact Jvm.OwnN.Aim.retV P371 hx hlk hret (hb hby d_jdk_42_method_150_97) (by decide) (by decide) ⟨t_361, k_362, rfl, K375, (Nat.le_trans (K352.1) g364), ⟨F376, F374, F377, F378, hr, by omega⟩⟩
theorem d_jdk_42_method_53_0 : decode jdk_42_method_53_code 0 = .ok (.aload_n 0, 1) := by decide +kernel
theorem d_jdk_42_method_53_1 : decode jdk_42_method_53_code 1 = .ok (.aload_n 1, 1) := by decide +kernel
theorem d_jdk_42_method_53_2 : decode jdk_42_method_53_code 2 = .ok (.aconst_null, 1) := by decide +kernel
theorem d_jdk_42_method_53_3 : decode jdk_42_method_53_code 3 = .ok (.invokespecial 489, 3) := by decide +kernel
theorem pd__28Ljava_2flang_2fAbstractStringBuilder_3bLjava_2flang_2fVoid_3b_29V : parseMethodDescriptor "(Ljava/lang/AbstractStringBuilder;Ljava/lang/Void;)V" = some ⟨[(.object "java/lang/AbstractStringBuilder"), (.object "java/lang/Void")], none⟩ := by decide +kernel
theorem d_jdk_42_method_53_6 : decode jdk_42_method_53_code 6 = .ok (.return_, 1) := by decide +kernel
set_option maxRecDepth 65536 in
set_option maxHeartbeats 40000000 in
theorem own_sS (l : Launch) (Z : State) (a0 : Array Value) (hw : ∀ d ∈ tables_1, d.before a0 Z = true) (z : Addr) (x : Addr) (t : Addr) (kb : ClassId) (cs : List Int32) (cap : Nat) (v0 : Value) (c0 : Value) (h0 : Heap) (n0 : Nat) (Z0 : n0 ≤ h0.size) (g_z : n0 ≤ z) (F0 : Exa Z h0 z "java/lang/String") (F1 : Fld Z h0 z "java/lang/String" "value" "[B" v0) (F2 : Fld Z h0 z "java/lang/String" "coder" "B" c0) (F3 : Bld Z h0 x t kb cs cap) (F4 : Old Z n0 h0) (hl : cs.length < cap) (hc : cap ≤ 16) (hr : ∀ c ∈ cs, ¬ c < 0 ∧ ¬ (255 : Int32) < c) (nzx : z ≠ x) (nzt : z ≠ t) (G : Cmp Z) :
    Jvm.OwnN.Con l Z (⟨"java/lang/String", "<init>", "(Ljava/lang/StringBuilder;)V"⟩ : MethodName) jdk_42_method_53_code 2 none ({ frames := 4, cells := 1, slots := 16, locals := 65 } : Room) n0 #[(.ref z), (.ref x)] h0 (fun v h => ∃ t2 : Addr, ∃ k2 : ClassId, v = none ∧ Keep h0 h [z] ∧ h0.size ≤ t2 ∧ Str Z h z t2 k2 cs) := by
  refine Jvm.OwnN.Con.intro (plainFor_of_name pn_java_lang_String) ?_
  intro p e s m below meth c s₁ hx hby hml hret hnm hown hlk hZ P0
  refine Jvm.OwnN.Aim.cast (by first | (simp [entryFrame, mkF, argsToLocals, Value.category]; done) | rfl : entryFrame m #[(.ref z), (.ref x)] 2 = (mkF m 0 #[.val (.ref z), .val (.ref x)] [])) ?_
  have H := P0.here
  refine Jvm.OwnN.Aim.of (T := s₁) (T' := s₁) (g := (mkF m 0 #[.val (.ref z), .val (.ref x)] [])) (g' := (mkF m 3 #[.val (.ref z), .val (.ref x)] [.null, (.ref x), (.ref z)])) (fun tgt kt => ?_) ?_
  · show Steps p.tables e below (s₁.setTop (mkF m 0 #[.val (.ref z), .val (.ref x)] [])) tgt
    refine XS.aloadN H hx rfl (hb hby d_jdk_42_method_53_0) rfl rfl ?_
    show Steps p.tables e below (s₁.setTop (mkF m 1 #[.val (.ref z), .val (.ref x)] [(.ref z)])) tgt
    refine XS.aloadN H hx rfl (hb hby d_jdk_42_method_53_1) rfl rfl ?_
    show Steps p.tables e below (s₁.setTop (mkF m 2 #[.val (.ref z), .val (.ref x)] [(.ref x), (.ref z)])) tgt
    refine XS.aconstNull H hx rfl (hb hby d_jdk_42_method_53_2) ?_
    exact kt
  clear H
  refine Jvm.OwnN.Aim.callC (pc := 3) (Ls := #[.val (.ref z), .val (.ref x)]) (argsL := [(.ref x), .null]) (rest := []) P0 hx hZ hml hown rfl (hw _ (List.mem_of_getElem? (i := 133) rfl)) (hw _ (List.mem_of_getElem? (i := 134) rfl)) (hw _ (List.mem_of_getElem? (i := 135) rfl)) (by decide) (Jvm.OwnN.Con.back (W := 0) (own_sA l Z a0 hw z x t kb cs cap v0 c0 h0 n0 Z0 g_z F0 F1 F2 F3 F4 hl hc hr nzx nzt G) hZ (hw _ (List.mem_of_getElem? (i := 135) rfl)) (hw _ (List.mem_of_getElem? (i := 6) rfl)) (by decide) (by decide)) rfl pd__28Ljava_2flang_2fAbstractStringBuilder_3bLjava_2flang_2fVoid_3b_29V rfl (Nat.le_of_eq rfl) (hb hby d_jdk_42_method_53_3) (by decide) (by decide) ?_
  intro T379 h380 v383 P381 hQ382
  obtain ⟨t_386, k_387, rfl, K388, g389, F390⟩ := hQ382
  have K391 : Keep h0 h380 [z] := (Keep.refl h0 [z]).trans K388 (allS (Or.inl (List.mem_of_getElem? (i := 0) rfl)) all0)
  show Jvm.OwnN.Aim p e below s _ _ n0 _ T379 (mkF m 6 #[.val (.ref z), .val (.ref x)] [])
  exact Jvm.OwnN.Aim.retV P381 hx hlk hret (hb hby d_jdk_42_method_53_6) (by decide) (by decide) ⟨t_386, k_387, rfl, K391, (Nat.le_trans (Nat.le_refl _) g389), F390⟩
theorem d_jdk_67_method_42_0 : decode jdk_67_method_42_code 0 = .ok (.new 18, 3) := by decide +kernel
theorem d_jdk_67_method_42_3 : decode jdk_67_method_42_code 3 = .ok (.dup, 1) := by decide +kernel
theorem d_jdk_67_method_42_4 : decode jdk_67_method_42_code 4 = .ok (.aload_n 0, 1) := by decide +kernel
theorem d_jdk_67_method_42_5 : decode jdk_67_method_42_code 5 = .ok (.invokespecial 137, 3) := by decide +kernel
theorem pd__28Ljava_2flang_2fStringBuilder_3b_29V : parseMethodDescriptor "(Ljava/lang/StringBuilder;)V" = some ⟨[(.object "java/lang/StringBuilder")], none⟩ := by decide +kernel
theorem d_jdk_67_method_42_8 : decode jdk_67_method_42_code 8 = .ok (.areturn, 1) := by decide +kernel
set_option maxRecDepth 65536 in
set_option maxHeartbeats 40000000 in
theorem own_ts (l : Launch) (Z : State) (a0 : Array Value) (hw : ∀ d ∈ tables_1, d.before a0 Z = true) (x : Addr) (t : Addr) (kb : ClassId) (cs : List Int32) (cap : Nat) (h0 : Heap) (n0 : Nat) (Z0 : n0 ≤ h0.size) (F0 : Bld Z h0 x t kb cs cap) (F1 : Old Z n0 h0) (hl : cs.length < cap) (hc : cap ≤ 16) (hr : ∀ c ∈ cs, ¬ c < 0 ∧ ¬ (255 : Int32) < c) (G : Cmp Z) :
    Jvm.OwnN.Con l Z (⟨"java/lang/StringBuilder", "toString", "()Ljava/lang/String;"⟩ : MethodName) jdk_67_method_42_code 1 (some (.object "java/lang/String")) ({ frames := 5, cells := 2, slots := 20, locals := 79 } : Room) n0 #[(.ref x)] h0 (fun v h => ∃ z : Addr, ∃ t2 : Addr, ∃ k2 : ClassId, v = some (.ref z) ∧ Keep h0 h [] ∧ h0.size ≤ z ∧ h0.size ≤ t2 ∧ Str Z h z t2 k2 cs) := by
  refine Jvm.OwnN.Con.intro (plainFor_of_name pn_java_lang_StringBuilder) ?_
  intro p e s m below meth c s₁ hx hby hml hret hnm hown hlk hZ P0
  refine Jvm.OwnN.Aim.cast (by first | (simp [entryFrame, mkF, argsToLocals, Value.category]; done) | rfl : entryFrame m #[(.ref x)] 1 = (mkF m 0 #[.val (.ref x)] [])) ?_
  refine Jvm.OwnN.Aim.newO (pc := 0) (Ls := #[.val (.ref x)]) (st := []) P0 hx hZ hown (hw _ (List.mem_of_getElem? (i := 129) rfl)) (hw _ (List.mem_of_getElem? (i := 5) rfl)) (hw _ (List.mem_of_getElem? (i := 6) rfl)) (hb hby d_jdk_67_method_42_0) (by decide) (by decide) ?_
  intro T392 h393 b394 g400 P395 E396 E397 D398 U399
  have K401 : Keep h0 h393 [] := (Keep.refl _ _).ext E396
  have K402 : Keep h0 h393 [] := (Keep.refl h0 []).trans K401 all0
  have F403 : Fld Z h393 b394 "java/lang/String" "coder" "B" (.int (0 : Int32)) := D398 (Or.inr (hw _ (List.mem_of_getElem? (i := 31) rfl))) (ty := .byte) (by decide)
  have F404 : Fld Z h393 b394 "java/lang/String" "value" "[B" .null := D398 (Or.inr (hw _ (List.mem_of_getElem? (i := 33) rfl))) (ty := (.array .byte)) (by decide)
  show Jvm.OwnN.Aim p e below s _ _ n0 _ T392 (mkF m 3 #[.val (.ref x)] [(.ref b394)])
  have H := P395.here
  refine Jvm.OwnN.Aim.of (T := T392) (T' := T392) (g := (mkF m 3 #[.val (.ref x)] [(.ref b394)])) (g' := (mkF m 5 #[.val (.ref x)] [(.ref x), (.ref b394), (.ref b394)])) (fun tgt kt => ?_) ?_
  · show Steps p.tables e below (T392.setTop (mkF m 3 #[.val (.ref x)] [(.ref b394)])) tgt
    refine XS.dup H hx rfl (hb hby d_jdk_67_method_42_3) rfl rfl ?_
    show Steps p.tables e below (T392.setTop (mkF m 4 #[.val (.ref x)] [(.ref b394), (.ref b394)])) tgt
    refine XS.aloadN H hx rfl (hb hby d_jdk_67_method_42_4) rfl rfl ?_
    exact kt
  clear H
  have F405 : Bld Z h393 x t kb cs cap := (F0.keep K401 nin0 nin0)
  have F406 : Old Z n0 h393 := (F1.keep K401 all0)
  refine Jvm.OwnN.Aim.callC (pc := 5) (Ls := #[.val (.ref x)]) (argsL := [(.ref x)]) (rest := [(.ref b394)]) P395 hx hZ hml hown rfl (hw _ (List.mem_of_getElem? (i := 130) rfl)) (hw _ (List.mem_of_getElem? (i := 131) rfl)) (hw _ (List.mem_of_getElem? (i := 132) rfl)) (by decide) (Jvm.OwnN.Con.back (W := 1) (own_sS l Z a0 hw b394 x t kb cs cap (.null) (.int (0 : Int32)) h393 n0 (Nat.le_trans Z0 (K402.1)) (Nat.le_trans Z0 (Nat.le_of_eq g400.symm)) E397 F404 F403 F405 F406 hl hc hr (Ne.symm (Nat.ne_of_lt (Nat.lt_of_lt_of_le F0.1.lt (Nat.le_of_eq g400.symm)))) (Ne.symm (Nat.ne_of_lt (Nat.lt_of_lt_of_le F0.2.2.2.2.lt (Nat.le_of_eq g400.symm)))) G) hZ (hw _ (List.mem_of_getElem? (i := 132) rfl)) (hw _ (List.mem_of_getElem? (i := 6) rfl)) (by decide) (by decide)) rfl pd__28Ljava_2flang_2fStringBuilder_3b_29V rfl (Nat.le_of_eq rfl) (hb hby d_jdk_67_method_42_5) (by decide) (by decide) ?_
  intro T407 h408 v411 P409 hQ410
  obtain ⟨t_414, k_415, rfl, K416, g417, F418⟩ := hQ410
  have K419 : Keep h0 h408 [] := K402.trans K416 (allS (Or.inr (Nat.le_trans (Nat.le_refl _) (Nat.le_of_eq g400.symm))) all0)
  show Jvm.OwnN.Aim p e below s _ _ n0 _ T407 (mkF m 8 #[.val (.ref x)] [(.ref b394)])
  exact Jvm.OwnN.Aim.retA P409 hx hlk hret rfl rfl (hb hby d_jdk_67_method_42_8) (by decide) (by decide) ⟨b394, t_414, k_415, rfl, K419, (Nat.le_trans (Nat.le_refl _) (Nat.le_of_eq g400.symm)), (Nat.le_trans (K402.1) g417), F418⟩
theorem d_jdk_41_method_11_0 : decode jdk_41_method_11_code 0 = .ok (.iload_n 0, 1) := by decide +kernel
theorem d_jdk_41_method_11_1 : decode jdk_41_method_11_code 1 = .ok (.ifCond .lt 8, 3) := by decide +kernel
theorem d_jdk_41_method_11_4 : decode jdk_41_method_11_code 4 = .ok (.iload_n 0, 1) := by decide +kernel
theorem d_jdk_41_method_11_5 : decode jdk_41_method_11_code 5 = .ok (.iload_n 1, 1) := by decide +kernel
theorem d_jdk_41_method_11_6 : decode jdk_41_method_11_code 6 = .ok (.if_icmp .lt 10, 3) := by decide +kernel
theorem d_jdk_41_method_11_16 : decode jdk_41_method_11_code 16 = .ok (.iload_n 0, 1) := by decide +kernel
theorem d_jdk_41_method_11_17 : decode jdk_41_method_11_code 17 = .ok (.ireturn, 1) := by decide +kernel
theorem pn_jdk_internal_util_Preconditions : plainName "jdk/internal/util/Preconditions" = true := by first | (simp [plainName, overriddenIn]; done) | decide +kernel
set_option maxRecDepth 65536 in
set_option maxHeartbeats 40000000 in
theorem own_pci (l : Launch) (Z : State) (a0 : Array Value) (hw : ∀ d ∈ tables_1, d.before a0 Z = true) (i : Int32) (n : Int32) (f : Value) (h0 : Heap) (n0 : Nat) (Z0 : n0 ≤ h0.size) (hf : f.category = 1) (h0_ : ¬ (i < (0 : Int32))) (h1_ : i < n) :
    Jvm.OwnN.Con l Z (⟨"jdk/internal/util/Preconditions", "checkIndex", "(IILjava/util/function/BiFunction;)I"⟩ : MethodName) jdk_41_method_11_code 3 (some .int) ({ frames := 0, cells := 0, slots := 0, locals := 0 } : Room) n0 #[(.int i), (.int n), f] h0 (fun v h => v = some (.int i) ∧ h0 = h) := by
  refine Jvm.OwnN.Con.intro (plainFor_of_name pn_jdk_internal_util_Preconditions) ?_
  intro p e s m below meth c s₁ hx hby hml hret hnm hown hlk hZ P0
  refine Jvm.OwnN.Aim.cast (by cases f <;> first | rfl | (simp [Value.category] at hf; done) : entryFrame m #[(.int i), (.int n), f] 3 = (mkF m 0 #[.val (.int i), .val (.int n), .val f] [])) ?_
  have H := P0.here
  refine Jvm.OwnN.Aim.of (T := s₁) (T' := s₁) (g := (mkF m 0 #[.val (.int i), .val (.int n), .val f] [])) (g' := (mkF m 17 #[.val (.int i), .val (.int n), .val f] [(.int i)])) (fun tgt kt => ?_) ?_
  · show Steps p.tables e below (s₁.setTop (mkF m 0 #[.val (.int i), .val (.int n), .val f] [])) tgt
    refine XS.iloadN H hx rfl (hb hby d_jdk_41_method_11_0) rfl ?_
    show Steps p.tables e below (s₁.setTop (mkF m 1 #[.val (.int i), .val (.int n), .val f] [(.int i)])) tgt
    refine XS.ifNo H hx rfl (hb hby d_jdk_41_method_11_1) rfl ((if0 _ _).trans (flt h0_).1) ?_
    show Steps p.tables e below (s₁.setTop (mkF m 4 #[.val (.int i), .val (.int n), .val f] [])) tgt
    refine XS.iloadN H hx rfl (hb hby d_jdk_41_method_11_4) rfl ?_
    show Steps p.tables e below (s₁.setTop (mkF m 5 #[.val (.int i), .val (.int n), .val f] [(.int i)])) tgt
    refine XS.iloadN H hx rfl (hb hby d_jdk_41_method_11_5) rfl ?_
    show Steps p.tables e below (s₁.setTop (mkF m 6 #[.val (.int i), .val (.int n), .val f] [(.int n), (.int i)])) tgt
    refine XS.icmpYes H hx rfl (pc0 := 6) (pc' := 16) rfl (hb hby d_jdk_41_method_11_6) rfl (tlt h1_).1 (by decide) (by decide) ?_
    show Steps p.tables e below (s₁.setTop (mkF m 16 #[.val (.int i), .val (.int n), .val f] [])) tgt
    refine XS.iloadN H hx rfl (hb hby d_jdk_41_method_11_16) rfl ?_
    exact kt
  clear H
  exact Jvm.OwnN.Aim.retI P0 hx hlk hret (hb hby d_jdk_41_method_11_17) (by decide) (by decide) ⟨rfl, rfl⟩
theorem d_jdk_42_method_155_0 : decode jdk_42_method_155_code 0 = .ok (.iload_n 0, 1) := by decide +kernel
theorem d_jdk_42_method_155_1 : decode jdk_42_method_155_code 1 = .ok (.iload_n 1, 1) := by decide +kernel
theorem d_jdk_42_method_155_2 : decode jdk_42_method_155_code 2 = .ok (.getstatic 1053, 3) := by decide +kernel
theorem d_jdk_42_method_155_5 : decode jdk_42_method_155_code 5 = .ok (.invokestatic 1059, 3) := by decide +kernel
theorem pd__28IILjava_2futil_2ffunction_2fBiFunction_3b_29I : parseMethodDescriptor "(IILjava/util/function/BiFunction;)I" = some ⟨[.int, .int, (.object "java/util/function/BiFunction")], some .int⟩ := by decide +kernel
theorem d_jdk_42_method_155_8 : decode jdk_42_method_155_code 8 = .ok (.pop, 1) := by decide +kernel
theorem d_jdk_42_method_155_9 : decode jdk_42_method_155_code 9 = .ok (.return_, 1) := by decide +kernel
set_option maxRecDepth 65536 in
set_option maxHeartbeats 40000000 in
theorem own_sci (l : Launch) (Z : State) (a0 : Array Value) (hw : ∀ d ∈ tables_1, d.before a0 Z = true) (i : Int32) (n : Int32) (h0 : Heap) (n0 : Nat) (Z0 : n0 ≤ h0.size) (F0 : Old Z n0 h0) (h0_ : ¬ (i < (0 : Int32))) (h1_ : i < n) (GS : Sio Z) :
    Jvm.OwnN.Con l Z (⟨"java/lang/String", "checkIndex", "(II)V"⟩ : MethodName) jdk_42_method_155_code 2 none ({ frames := 1, cells := 0, slots := 0, locals := 14 } : Room) n0 #[(.int i), (.int n)] h0 (fun v h => v = none ∧ h0 = h) := by
  refine Jvm.OwnN.Con.intro (plainFor_of_name pn_java_lang_String) ?_
  intro p e s m below meth c s₁ hx hby hml hret hnm hown hlk hZ P0
  refine Jvm.OwnN.Aim.cast (by first | (simp [entryFrame, mkF, argsToLocals, Value.category]; done) | rfl : entryFrame m #[(.int i), (.int n)] 2 = (mkF m 0 #[.val (.int i), .val (.int n)] [])) ?_
  obtain ⟨vf, Svf, hvf⟩ := id GS
  have H := P0.here
  refine Jvm.OwnN.Aim.of (T := s₁) (T' := s₁) (g := (mkF m 0 #[.val (.int i), .val (.int n)] [])) (g' := (mkF m 2 #[.val (.int i), .val (.int n)] [(.int n), (.int i)])) (fun tgt kt => ?_) ?_
  · show Steps p.tables e below (s₁.setTop (mkF m 0 #[.val (.int i), .val (.int n)] [])) tgt
    refine XS.iloadN H hx rfl (hb hby d_jdk_42_method_155_0) rfl ?_
    show Steps p.tables e below (s₁.setTop (mkF m 1 #[.val (.int i), .val (.int n)] [(.int i)])) tgt
    refine XS.iloadN H hx rfl (hb hby d_jdk_42_method_155_1) rfl ?_
    exact kt
  clear H
  refine Jvm.OwnN.Aim.getS (pc := 2) (Ls := #[.val (.int i), .val (.int n)]) (st := [(.int n), (.int i)]) P0 hx hZ hown (hw _ (List.mem_of_getElem? (i := 190) rfl)) Via.refl (Svf.ext F0.2) (hb hby d_jdk_42_method_155_2) ?_
  intro T420 P421
  show Jvm.OwnN.Aim p e below s _ _ n0 _ T420 (mkF m 5 #[.val (.int i), .val (.int n)] [vf, (.int n), (.int i)])
  refine Jvm.OwnN.Aim.callS (pc := 5) (Ls := #[.val (.int i), .val (.int n)]) (argsL := [(.int i), (.int n), vf]) (rest := []) P421 hx hZ hml hown (hw _ (List.mem_of_getElem? (i := 192) rfl)) (hw _ (List.mem_of_getElem? (i := 193) rfl)) (hw _ (List.mem_of_getElem? (i := 191) rfl)) (hw _ (List.mem_of_getElem? (i := 194) rfl)) (by decide) (Jvm.OwnN.Con.back (W := 0) (own_pci l Z a0 hw i n vf h0 n0 Z0 hvf h0_ h1_) hZ (hw _ (List.mem_of_getElem? (i := 194) rfl)) (hw _ (List.mem_of_getElem? (i := 191) rfl)) (by decide) (by decide)) rfl pd__28IILjava_2futil_2ffunction_2fBiFunction_3b_29I rfl (Nat.le_of_eq rfl) (hb hby d_jdk_42_method_155_5) (by decide) (by decide) ?_
  intro T422 h423 v426 P424 hQ425
  obtain ⟨rfl, rfl⟩ := hQ425
  show Jvm.OwnN.Aim p e below s _ _ n0 _ T422 (mkF m 8 #[.val (.int i), .val (.int n)] [(.int i)])
  have H := P424.here
  refine Jvm.OwnN.Aim.of (T := T422) (T' := T422) (g := (mkF m 8 #[.val (.int i), .val (.int n)] [(.int i)])) (g' := (mkF m 9 #[.val (.int i), .val (.int n)] [])) (fun tgt kt => ?_) ?_
  · show Steps p.tables e below (T422.setTop (mkF m 8 #[.val (.int i), .val (.int n)] [(.int i)])) tgt
    refine XS.pop H hx rfl (hb hby d_jdk_42_method_155_8) rfl rfl ?_
    exact kt
  clear H
  exact Jvm.OwnN.Aim.retV P424 hx hlk hret (hb hby d_jdk_42_method_155_9) (by decide) (by decide) ⟨rfl, rfl⟩
theorem d_jdk_43_method_2_0 : decode jdk_43_method_2_code 0 = .ok (.iload_n 1, 1) := by decide +kernel
theorem d_jdk_43_method_2_1 : decode jdk_43_method_2_code 1 = .ok (.aload_n 0, 1) := by decide +kernel
theorem d_jdk_43_method_2_2 : decode jdk_43_method_2_code 2 = .ok (.arraylength, 1) := by decide +kernel
theorem d_jdk_43_method_2_3 : decode jdk_43_method_2_code 3 = .ok (.invokestatic 9, 3) := by decide +kernel
theorem d_jdk_43_method_2_6 : decode jdk_43_method_2_code 6 = .ok (.aload_n 0, 1) := by decide +kernel
theorem d_jdk_43_method_2_7 : decode jdk_43_method_2_code 7 = .ok (.iload_n 1, 1) := by decide +kernel
theorem d_jdk_43_method_2_8 : decode jdk_43_method_2_code 8 = .ok (.baload, 1) := by decide +kernel
theorem d_jdk_43_method_2_9 : decode jdk_43_method_2_code 9 = .ok (.sipush 255, 3) := by decide +kernel
theorem d_jdk_43_method_2_12 : decode jdk_43_method_2_code 12 = .ok (.iand, 1) := by decide +kernel
theorem d_jdk_43_method_2_13 : decode jdk_43_method_2_code 13 = .ok (.i2c, 1) := by decide +kernel
theorem d_jdk_43_method_2_14 : decode jdk_43_method_2_code 14 = .ok (.ireturn, 1) := by decide +kernel
set_option maxRecDepth 65536 in
set_option maxHeartbeats 40000000 in
theorem own_lca (l : Launch) (Z : State) (a0 : Array Value) (hw : ∀ d ∈ tables_1, d.before a0 Z = true) (u : Addr) (ku : ClassId) (ds : List Int32) (i : Int32) (h0 : Heap) (n0 : Nat) (Z0 : n0 ≤ h0.size) (F0 : Arv Z h0 u ku .byte (Int32.ofNat ds.length) (ds.map fun c => Value.int (c.toInt8.toInt32)) (.int 0)) (F1 : Old Z n0 h0) (h0_ : ¬ (i < (0 : Int32))) (h1_ : i < (Int32.ofNat ds.length)) (hr : ∀ c ∈ ds, ¬ c < 0 ∧ ¬ (255 : Int32) < c) (h4 : ds.length ≤ 4000) (GS : Sio Z) :
    Jvm.OwnN.Con l Z (⟨"java/lang/StringLatin1", "charAt", "([BI)C"⟩ : MethodName) jdk_43_method_2_code 2 (some .char) ({ frames := 2, cells := 0, slots := 0, locals := 27 } : Room) n0 #[(.ref u), (.int i)] h0 (fun v h => v = some (.int (ds.getD i.toNatClampNeg 0)) ∧ h0 = h) := by
  refine Jvm.OwnN.Con.intro (plainFor_of_name pn_java_lang_StringLatin1) ?_
  intro p e s m below meth c s₁ hx hby hml hret hnm hown hlk hZ P0
  refine Jvm.OwnN.Aim.cast (by first | (simp [entryFrame, mkF, argsToLocals, Value.category]; done) | rfl : entryFrame m #[(.ref u), (.int i)] 2 = (mkF m 0 #[.val (.ref u), .val (.int i)] [])) ?_
  have H := P0.here
  refine Jvm.OwnN.Aim.of (T := s₁) (T' := s₁) (g := (mkF m 0 #[.val (.ref u), .val (.int i)] [])) (g' := (mkF m 2 #[.val (.ref u), .val (.int i)] [(.ref u), (.int i)])) (fun tgt kt => ?_) ?_
  · show Steps p.tables e below (s₁.setTop (mkF m 0 #[.val (.ref u), .val (.int i)] [])) tgt
    refine XS.iloadN H hx rfl (hb hby d_jdk_43_method_2_0) rfl ?_
    show Steps p.tables e below (s₁.setTop (mkF m 1 #[.val (.ref u), .val (.int i)] [(.int i)])) tgt
    refine XS.aloadN H hx rfl (hb hby d_jdk_43_method_2_1) rfl rfl ?_
    exact kt
  clear H
  refine Jvm.OwnN.Aim.alen (pc := 2) (Ls := #[.val (.ref u), .val (.int i)]) (st := [(.int i)]) P0 hx hZ F0 (hb hby d_jdk_43_method_2_2) ?_
  show Jvm.OwnN.Aim p e below s _ _ n0 _ s₁ (mkF m 3 #[.val (.ref u), .val (.int i)] [(.int (Int32.ofNat ds.length)), (.int i)])
  refine Jvm.OwnN.Aim.callS (pc := 3) (Ls := #[.val (.ref u), .val (.int i)]) (argsL := [(.int i), (.int (Int32.ofNat ds.length))]) (rest := []) P0 hx hZ hml hown (hw _ (List.mem_of_getElem? (i := 187) rfl)) (hw _ (List.mem_of_getElem? (i := 188) rfl)) (hw _ (List.mem_of_getElem? (i := 6) rfl)) (hw _ (List.mem_of_getElem? (i := 189) rfl)) (by decide) (Jvm.OwnN.Con.back (W := 0) (own_sci l Z a0 hw i (Int32.ofNat ds.length) h0 n0 Z0 F1 h0_ h1_ GS) hZ (hw _ (List.mem_of_getElem? (i := 189) rfl)) (hw _ (List.mem_of_getElem? (i := 6) rfl)) (by decide) (by decide)) rfl pd__28II_29V rfl (Nat.le_of_eq rfl) (hb hby d_jdk_43_method_2_3) (by decide) (by decide) ?_
  intro T429 h430 v433 P431 hQ432
  obtain ⟨rfl, rfl⟩ := hQ432
  show Jvm.OwnN.Aim p e below s _ _ n0 _ T429 (mkF m 6 #[.val (.ref u), .val (.int i)] [])
  have H := P431.here
  refine Jvm.OwnN.Aim.of (T := T429) (T' := T429) (g := (mkF m 6 #[.val (.ref u), .val (.int i)] [])) (g' := (mkF m 8 #[.val (.ref u), .val (.int i)] [(.int i), (.ref u)])) (fun tgt kt => ?_) ?_
  · show Steps p.tables e below (T429.setTop (mkF m 6 #[.val (.ref u), .val (.int i)] [])) tgt
    refine XS.aloadN H hx rfl (hb hby d_jdk_43_method_2_6) rfl rfl ?_
    show Steps p.tables e below (T429.setTop (mkF m 7 #[.val (.ref u), .val (.int i)] [(.ref u)])) tgt
    refine XS.iloadN H hx rfl (hb hby d_jdk_43_method_2_7) rfl ?_
    exact kt
  clear H
  refine Jvm.OwnN.Aim.ldB (pc := 8) (Ls := #[.val (.ref u), .val (.int i)]) (st := []) (j := i) (v := (.int ((ds.getD i.toNatClampNeg 0).toInt8.toInt32))) P431 hx hZ F0 ⟨h0_, h1_⟩ (own_get h0_ h1_ h4).1 (hb hby d_jdk_43_method_2_8) ?_
  show Jvm.OwnN.Aim p e below s _ _ n0 _ T429 (mkF m 9 #[.val (.ref u), .val (.int i)] [(.int ((ds.getD i.toNatClampNeg 0).toInt8.toInt32))])
  have H := P431.here
  refine Jvm.OwnN.Aim.of (T := T429) (T' := T429) (g := (mkF m 9 #[.val (.ref u), .val (.int i)] [(.int ((ds.getD i.toNatClampNeg 0).toInt8.toInt32))])) (g' := (mkF m 14 #[.val (.ref u), .val (.int i)] [(.int ((((ds.getD i.toNatClampNeg 0).toInt8.toInt32) &&& (255 : Int32)).toUInt32.toUInt16.toUInt32.toInt32))])) (fun tgt kt => ?_) ?_
  · show Steps p.tables e below (T429.setTop (mkF m 9 #[.val (.ref u), .val (.int i)] [(.int ((ds.getD i.toNatClampNeg 0).toInt8.toInt32))])) tgt
    refine XS.sipush H hx rfl (hb hby d_jdk_43_method_2_9) ?_
    show Steps p.tables e below (T429.setTop (mkF m 12 #[.val (.ref u), .val (.int i)] [(.int (255 : Int32)), (.int ((ds.getD i.toNatClampNeg 0).toInt8.toInt32))])) tgt
    refine XS.iand H hx rfl (hb hby d_jdk_43_method_2_12) rfl ?_
    show Steps p.tables e below (T429.setTop (mkF m 13 #[.val (.ref u), .val (.int i)] [(.int (((ds.getD i.toNatClampNeg 0).toInt8.toInt32) &&& (255 : Int32)))])) tgt
    refine XS.i2c H hx rfl (hb hby d_jdk_43_method_2_13) rfl ?_
    exact kt
  clear H
  exact Jvm.OwnN.Aim.retN (t := .char) P431 hx hlk hret (by simp) (hb hby d_jdk_43_method_2_14) (by decide) (by decide) ⟨(congrArg some (congrArg Value.int (own_chr_of (hr _ (own_get h0_ h1_ h4).2)))), rfl⟩
theorem d_jdk_42_method_154_0 : decode jdk_42_method_154_code 0 = .ok (.getstatic 38, 3) := by decide +kernel
theorem d_jdk_42_method_154_3 : decode jdk_42_method_154_code 3 = .ok (.ifCond .eq 14, 3) := by decide +kernel
theorem d_jdk_42_method_154_6 : decode jdk_42_method_154_code 6 = .ok (.aload_n 0, 1) := by decide +kernel
theorem d_jdk_42_method_154_7 : decode jdk_42_method_154_code 7 = .ok (.getfield 15, 3) := by decide +kernel
theorem d_jdk_42_method_154_10 : decode jdk_42_method_154_code 10 = .ok (.ifCond .ne 7, 3) := by decide +kernel
theorem d_jdk_42_method_154_13 : decode jdk_42_method_154_code 13 = .ok (.iconst 1, 1) := by decide +kernel
theorem d_jdk_42_method_154_14 : decode jdk_42_method_154_code 14 = .ok (.goto 4, 3) := by decide +kernel
theorem d_jdk_42_method_154_18 : decode jdk_42_method_154_code 18 = .ok (.ireturn, 1) := by decide +kernel
set_option maxRecDepth 65536 in
set_option maxHeartbeats 40000000 in
theorem own_isL1 (l : Launch) (Z : State) (a0 : Array Value) (hw : ∀ d ∈ tables_1, d.before a0 Z = true) (y : Addr) (h0 : Heap) (n0 : Nat) (Z0 : n0 ≤ h0.size) (F0 : Fld Z h0 y "java/lang/String" "coder" "B" (.int (0 : Int32))) (F1 : Old Z n0 h0) (G : Cmp Z) :
    Jvm.OwnN.Con l Z (⟨"java/lang/String", "isLatin1", "()Z"⟩ : MethodName) jdk_42_method_154_code 1 (some .boolean) ({ frames := 0, cells := 0, slots := 0, locals := 0 } : Room) n0 #[(.ref y)] h0 (fun v h => v = some (.int (1 : Int32)) ∧ h0 = h) := by
  refine Jvm.OwnN.Con.intro (plainFor_of_name pn_java_lang_String) ?_
  intro p e s m below meth c s₁ hx hby hml hret hnm hown hlk hZ P0
  refine Jvm.OwnN.Aim.cast (by first | (simp [entryFrame, mkF, argsToLocals, Value.category]; done) | rfl : entryFrame m #[(.ref y)] 1 = (mkF m 0 #[.val (.ref y)] [])) ?_
  obtain ⟨zc, hzc, Szc⟩ := id G
  refine Jvm.OwnN.Aim.getS (pc := 0) (Ls := #[.val (.ref y)]) (st := []) P0 hx hZ hown (hw _ (List.mem_of_getElem? (i := 18) rfl)) Via.refl (Szc.ext F1.2) (hb hby d_jdk_42_method_154_0) ?_
  intro T436 P437
  show Jvm.OwnN.Aim p e below s _ _ n0 _ T436 (mkF m 3 #[.val (.ref y)] [(.int zc)])
  have H := P437.here
  refine Jvm.OwnN.Aim.of (T := T436) (T' := T436) (g := (mkF m 3 #[.val (.ref y)] [(.int zc)])) (g' := (mkF m 7 #[.val (.ref y)] [(.ref y)])) (fun tgt kt => ?_) ?_
  · show Steps p.tables e below (T436.setTop (mkF m 3 #[.val (.ref y)] [(.int zc)])) tgt
    refine XS.ifNo H hx rfl (hb hby d_jdk_42_method_154_3) rfl ((if0 _ _).trans (feq hzc).1) ?_
    show Steps p.tables e below (T436.setTop (mkF m 6 #[.val (.ref y)] [])) tgt
    refine XS.aloadN H hx rfl (hb hby d_jdk_42_method_154_6) rfl rfl ?_
    exact kt
  clear H
  refine Jvm.OwnN.Aim.getF (pc := 7) (Ls := #[.val (.ref y)]) (st := []) P437 hx hZ hown (host := "") (Or.inl (hw _ (List.mem_of_getElem? (i := 30) rfl))) Via.refl F0 (hb hby d_jdk_42_method_154_7) ?_
  intro T438 P439
  show Jvm.OwnN.Aim p e below s _ _ n0 _ T438 (mkF m 10 #[.val (.ref y)] [(.int (0 : Int32))])
  have H := P439.here
  refine Jvm.OwnN.Aim.of (T := T438) (T' := T438) (g := (mkF m 10 #[.val (.ref y)] [(.int (0 : Int32))])) (g' := (mkF m 18 #[.val (.ref y)] [(.int (1 : Int32))])) (fun tgt kt => ?_) ?_
  · show Steps p.tables e below (T438.setTop (mkF m 10 #[.val (.ref y)] [(.int (0 : Int32))])) tgt
    refine XS.ifNo H hx rfl (hb hby d_jdk_42_method_154_10) rfl ((if0 _ _).trans (teq (by decide)).2) ?_
    show Steps p.tables e below (T438.setTop (mkF m 13 #[.val (.ref y)] [])) tgt
    refine XS.iconst H hx rfl (hb hby d_jdk_42_method_154_13) ?_
    show Steps p.tables e below (T438.setTop (mkF m 14 #[.val (.ref y)] [(.int (1 : Int32))])) tgt
    refine XS.goto H hx rfl (pc0 := 14) (pc' := 18) rfl (hb hby d_jdk_42_method_154_14) (by decide) (by decide) ?_
    exact kt
  clear H
  exact Jvm.OwnN.Aim.retN (t := .boolean) P439 hx hlk hret (by simp) (hb hby d_jdk_42_method_154_18) (by decide) (by decide) ⟨rfl, rfl⟩
theorem d_jdk_42_method_56_0 : decode jdk_42_method_56_code 0 = .ok (.aload_n 0, 1) := by decide +kernel
theorem d_jdk_42_method_56_1 : decode jdk_42_method_56_code 1 = .ok (.invokevirtual 492, 3) := by decide +kernel
theorem d_jdk_42_method_56_4 : decode jdk_42_method_56_code 4 = .ok (.ifCond .eq 12, 3) := by decide +kernel
theorem d_jdk_42_method_56_7 : decode jdk_42_method_56_code 7 = .ok (.aload_n 0, 1) := by decide +kernel
theorem d_jdk_42_method_56_8 : decode jdk_42_method_56_code 8 = .ok (.getfield 9, 3) := by decide +kernel
theorem d_jdk_42_method_56_11 : decode jdk_42_method_56_code 11 = .ok (.iload_n 1, 1) := by decide +kernel
theorem d_jdk_42_method_56_12 : decode jdk_42_method_56_code 12 = .ok (.invokestatic 495, 3) := by decide +kernel
theorem pd__28_5bBI_29C : parseMethodDescriptor "([BI)C" = some ⟨[(.array .byte), .int], some .char⟩ := by decide +kernel
theorem d_jdk_42_method_56_15 : decode jdk_42_method_56_code 15 = .ok (.ireturn, 1) := by decide +kernel
set_option maxRecDepth 65536 in
set_option maxHeartbeats 40000000 in
theorem own_charAt (l : Launch) (Z : State) (a0 : Array Value) (hw : ∀ d ∈ tables_1, d.before a0 Z = true) (y : Addr) (u : Addr) (ku : ClassId) (ds : List Int32) (i : Int32) (h0 : Heap) (n0 : Nat) (Z0 : n0 ≤ h0.size) (F0 : Str Z h0 y u ku ds) (F1 : Old Z n0 h0) (h0_ : ¬ (i < (0 : Int32))) (h1_ : i < (Int32.ofNat ds.length)) (G : Cmp Z) (GS : Sio Z) :
    Jvm.OwnN.Con l Z (⟨"java/lang/String", "charAt", "(I)C"⟩ : MethodName) jdk_42_method_56_code 2 (some .char) ({ frames := 3, cells := 0, slots := 0, locals := 40 } : Room) n0 #[(.ref y), (.int i)] h0 (fun v h => v = some (.int (ds.getD i.toNatClampNeg 0)) ∧ h0 = h) := by
  refine Jvm.OwnN.Con.intro (plainFor_of_name pn_java_lang_String) ?_
  intro p e s m below meth c s₁ hx hby hml hret hnm hown hlk hZ P0
  refine Jvm.OwnN.Aim.cast (by first | (simp [entryFrame, mkF, argsToLocals, Value.category]; done) | rfl : entryFrame m #[(.ref y), (.int i)] 2 = (mkF m 0 #[.val (.ref y), .val (.int i)] [])) ?_
  have H := P0.here
  refine Jvm.OwnN.Aim.of (T := s₁) (T' := s₁) (g := (mkF m 0 #[.val (.ref y), .val (.int i)] [])) (g' := (mkF m 1 #[.val (.ref y), .val (.int i)] [(.ref y)])) (fun tgt kt => ?_) ?_
  · show Steps p.tables e below (s₁.setTop (mkF m 0 #[.val (.ref y), .val (.int i)] [])) tgt
    refine XS.aloadN H hx rfl (hb hby d_jdk_42_method_56_0) rfl rfl ?_
    exact kt
  clear H
  refine Jvm.OwnN.Aim.callV (pc := 1) (Ls := #[.val (.ref y), .val (.int i)]) (argsL := []) (rest := []) (y := (⟨"java/lang/String", "isLatin1", "()Z"⟩ : MethodName)) (z := (⟨"java/lang/String", "isLatin1", "()Z"⟩ : MethodName)) P0 hx hZ hml hown (hw _ (List.mem_of_getElem? (i := 178) rfl)) (hw _ (List.mem_of_getElem? (i := 179) rfl)) (notFace_of_selects (args := #[]) (mvT hZ (hw _ (List.mem_of_getElem? (i := 181) rfl)))) (hw _ (List.mem_of_getElem? (i := 181) rfl)) (hw _ (List.mem_of_getElem? (i := 180) rfl)) (by decide) F0.1 (Jvm.OwnN.Con.back (W := 0) (own_isL1 l Z a0 hw y h0 n0 Z0 F0.2.2.1 F1 G) hZ (hw _ (List.mem_of_getElem? (i := 182) rfl)) (hw _ (List.mem_of_getElem? (i := 6) rfl)) (by decide) (by decide)) rfl pd__28_29Z rfl (Nat.le_of_eq rfl) (hb hby d_jdk_42_method_56_1) (by decide) (by decide) ?_
  intro T440 h441 v444 P442 hQ443
  obtain ⟨rfl, rfl⟩ := hQ443
  show Jvm.OwnN.Aim p e below s _ _ n0 _ T440 (mkF m 4 #[.val (.ref y), .val (.int i)] [(.int (1 : Int32))])
  have H := P442.here
  refine Jvm.OwnN.Aim.of (T := T440) (T' := T440) (g := (mkF m 4 #[.val (.ref y), .val (.int i)] [(.int (1 : Int32))])) (g' := (mkF m 8 #[.val (.ref y), .val (.int i)] [(.ref y)])) (fun tgt kt => ?_) ?_
  · show Steps p.tables e below (T440.setTop (mkF m 4 #[.val (.ref y), .val (.int i)] [(.int (1 : Int32))])) tgt
    refine XS.ifNo H hx rfl (hb hby d_jdk_42_method_56_4) rfl ((if0 _ _).trans (feq (by decide)).1) ?_
    show Steps p.tables e below (T440.setTop (mkF m 7 #[.val (.ref y), .val (.int i)] [])) tgt
    refine XS.aloadN H hx rfl (hb hby d_jdk_42_method_56_7) rfl rfl ?_
    exact kt
  clear H
  refine Jvm.OwnN.Aim.getF (pc := 8) (Ls := #[.val (.ref y), .val (.int i)]) (st := []) P442 hx hZ hown (host := "") (Or.inl (hw _ (List.mem_of_getElem? (i := 32) rfl))) Via.refl F0.2.1 (hb hby d_jdk_42_method_56_8) ?_
  intro T447 P448
  show Jvm.OwnN.Aim p e below s _ _ n0 _ T447 (mkF m 11 #[.val (.ref y), .val (.int i)] [(.ref u)])
  have H := P448.here
  refine Jvm.OwnN.Aim.of (T := T447) (T' := T447) (g := (mkF m 11 #[.val (.ref y), .val (.int i)] [(.ref u)])) (g' := (mkF m 12 #[.val (.ref y), .val (.int i)] [(.int i), (.ref u)])) (fun tgt kt => ?_) ?_
  · show Steps p.tables e below (T447.setTop (mkF m 11 #[.val (.ref y), .val (.int i)] [(.ref u)])) tgt
    refine XS.iloadN H hx rfl (hb hby d_jdk_42_method_56_11) rfl ?_
    exact kt
  clear H
  refine Jvm.OwnN.Aim.callS (pc := 12) (Ls := #[.val (.ref y), .val (.int i)]) (argsL := [(.ref u), (.int i)]) (rest := []) P448 hx hZ hml hown (hw _ (List.mem_of_getElem? (i := 183) rfl)) (hw _ (List.mem_of_getElem? (i := 184) rfl)) (hw _ (List.mem_of_getElem? (i := 185) rfl)) (hw _ (List.mem_of_getElem? (i := 186) rfl)) (by decide) (Jvm.OwnN.Con.back (W := 0) (own_lca l Z a0 hw u ku ds i h0 n0 Z0 F0.2.2.2.1 F1 h0_ h1_ (F0.2.2.2.2.1) (F0.2.2.2.2.2) GS) hZ (hw _ (List.mem_of_getElem? (i := 186) rfl)) (hw _ (List.mem_of_getElem? (i := 185) rfl)) (by decide) (by decide)) rfl pd__28_5bBI_29C rfl (Nat.le_of_eq rfl) (hb hby d_jdk_42_method_56_12) (by decide) (by decide) ?_
  intro T449 h450 v453 P451 hQ452
  obtain ⟨rfl, rfl⟩ := hQ452
  show Jvm.OwnN.Aim p e below s _ _ n0 _ T449 (mkF m 15 #[.val (.ref y), .val (.int i)] [(.int (ds.getD i.toNatClampNeg 0))])
  exact Jvm.OwnN.Aim.retN (t := .char) P451 hx hlk hret (by simp) (hb hby d_jdk_42_method_56_15) (by decide) (by decide) ⟨(congrArg some (congrArg Value.int (own_narC (F0.2.2.2.2.1 _ (own_get h0_ h1_ F0.2.2.2.2.2).2)))), rfl⟩
theorem d_jdk_30_method_1_0 : decode jdk_30_method_1_code 0 = .ok (.aload_n 0, 1) := by decide +kernel
theorem d_jdk_30_method_1_1 : decode jdk_30_method_1_code 1 = .ok (.invokespecial 1, 3) := by decide +kernel
theorem d_jdk_30_method_1_4 : decode jdk_30_method_1_code 4 = .ok (.return_, 1) := by decide +kernel
theorem pn_java_lang_Record : plainName "java/lang/Record" = true := by first | (simp [plainName, overriddenIn]; done) | decide +kernel
set_option maxRecDepth 65536 in
set_option maxHeartbeats 40000000 in
theorem own_rec (l : Launch) (Z : State) (a0 : Array Value) (hw : ∀ d ∈ tables_1, d.before a0 Z = true) (a : Addr) (h0 : Heap) (n0 : Nat) (Z0 : n0 ≤ h0.size) :
    Jvm.OwnN.Con l Z (⟨"java/lang/Record", "<init>", "()V"⟩ : MethodName) jdk_30_method_1_code 1 none ({ frames := 1, cells := 0, slots := 0, locals := 12 } : Room) n0 #[(.ref a)] h0 (fun v h => v = none ∧ h0 = h) := by
  refine Jvm.OwnN.Con.intro (plainFor_of_name pn_java_lang_Record) ?_
  intro p e s m below meth c s₁ hx hby hml hret hnm hown hlk hZ P0
  refine Jvm.OwnN.Aim.cast (by first | (simp [entryFrame, mkF, argsToLocals, Value.category]; done) | rfl : entryFrame m #[(.ref a)] 1 = (mkF m 0 #[.val (.ref a)] [])) ?_
  have H := P0.here
  refine Jvm.OwnN.Aim.of (T := s₁) (T' := s₁) (g := (mkF m 0 #[.val (.ref a)] [])) (g' := (mkF m 1 #[.val (.ref a)] [(.ref a)])) (fun tgt kt => ?_) ?_
  · show Steps p.tables e below (s₁.setTop (mkF m 0 #[.val (.ref a)] [])) tgt
    refine XS.aloadN H hx rfl (hb hby d_jdk_30_method_1_0) rfl rfl ?_
    exact kt
  clear H
  refine Jvm.OwnN.Aim.initO (pc := 1) (Ls := #[.val (.ref a)]) (st := []) P0 hx hZ hml hown (hw _ (List.mem_of_getElem? (i := 48) rfl)) (hw _ (List.mem_of_getElem? (i := 16) rfl)) (hw _ (List.mem_of_getElem? (i := 17) rfl)) rfl (hb hby d_jdk_30_method_1_1) (by decide) (Nat.le_of_ble_eq_true rfl) ?_
  intro T456 P457
  show Jvm.OwnN.Aim p e below s _ _ n0 _ T456 (mkF m 4 #[.val (.ref a)] [])
  exact Jvm.OwnN.Aim.retV P457 hx hlk hret (hb hby d_jdk_30_method_1_4) (by decide) (by decide) ⟨rfl, rfl⟩
theorem d_prog_8_method_1_0 : decode prog_8_method_1_code 0 = .ok (.aload_n 0, 1) := by decide +kernel
theorem d_prog_8_method_1_1 : decode prog_8_method_1_code 1 = .ok (.invokespecial 3, 3) := by decide +kernel
theorem pd__28_29V : parseMethodDescriptor "()V" = some ⟨[], none⟩ := by decide +kernel
theorem d_prog_8_method_1_4 : decode prog_8_method_1_code 4 = .ok (.aload_n 0, 1) := by decide +kernel
theorem d_prog_8_method_1_5 : decode prog_8_method_1_code 5 = .ok (.aload_n 1, 1) := by decide +kernel
theorem d_prog_8_method_1_6 : decode prog_8_method_1_code 6 = .ok (.putfield 9, 3) := by decide +kernel
theorem d_prog_8_method_1_9 : decode prog_8_method_1_code 9 = .ok (.aload_n 0, 1) := by decide +kernel
theorem d_prog_8_method_1_10 : decode prog_8_method_1_code 10 = .ok (.aload_n 2, 1) := by decide +kernel
theorem d_prog_8_method_1_11 : decode prog_8_method_1_code 11 = .ok (.putfield 15, 3) := by decide +kernel
theorem d_prog_8_method_1_14 : decode prog_8_method_1_code 14 = .ok (.return_, 1) := by decide +kernel
theorem pn_com_example_asterism_asterism_eac_EacCpf_NameForm : plainName "com/example/asterism/asterism/eac/EacCpf$NameForm" = true := by first | (simp [plainName, overriddenIn]; done) | decide +kernel
set_option maxRecDepth 65536 in
set_option maxHeartbeats 40000000 in
theorem own_nf (l : Launch) (Z : State) (a0 : Array Value) (hw : ∀ d ∈ tables_1, d.before a0 Z = true) (a : Addr) (el : Addr) (t : Addr) (u1 : Value) (u2 : Value) (h0 : Heap) (n0 : Nat) (Z0 : n0 ≤ h0.size) (g_a : n0 ≤ a) (F0 : Exa Z h0 a "com/example/asterism/asterism/eac/EacCpf$NameForm") (F1 : Fld Z h0 a "com/example/asterism/asterism/eac/EacCpf$NameForm" "element" "Ljava/lang/String;" u1) (F2 : Fld Z h0 a "com/example/asterism/asterism/eac/EacCpf$NameForm" "text" "Ljava/lang/String;" u2) :
    Jvm.OwnN.Con l Z (⟨"com/example/asterism/asterism/eac/EacCpf$NameForm", "<init>", "(Ljava/lang/String;Ljava/lang/String;)V"⟩ : MethodName) prog_8_method_1_code 3 none ({ frames := 2, cells := 0, slots := 0, locals := 24 } : Room) n0 #[(.ref a), (.ref el), (.ref t)] h0 (fun v h => v = none ∧ Keep h0 h [a] ∧ Exa Z h a "com/example/asterism/asterism/eac/EacCpf$NameForm" ∧ Fld Z h a "com/example/asterism/asterism/eac/EacCpf$NameForm" "element" "Ljava/lang/String;" (.ref el) ∧ Fld Z h a "com/example/asterism/asterism/eac/EacCpf$NameForm" "text" "Ljava/lang/String;" (.ref t)) := by
  refine Jvm.OwnN.Con.intro (plainFor_of_name pn_com_example_asterism_asterism_eac_EacCpf_NameForm) ?_
  intro p e s m below meth c s₁ hx hby hml hret hnm hown hlk hZ P0
  refine Jvm.OwnN.Aim.cast (by first | (simp [entryFrame, mkF, argsToLocals, Value.category]; done) | rfl : entryFrame m #[(.ref a), (.ref el), (.ref t)] 3 = (mkF m 0 #[.val (.ref a), .val (.ref el), .val (.ref t)] [])) ?_
  have H := P0.here
  refine Jvm.OwnN.Aim.of (T := s₁) (T' := s₁) (g := (mkF m 0 #[.val (.ref a), .val (.ref el), .val (.ref t)] [])) (g' := (mkF m 1 #[.val (.ref a), .val (.ref el), .val (.ref t)] [(.ref a)])) (fun tgt kt => ?_) ?_
  · show Steps p.tables e below (s₁.setTop (mkF m 0 #[.val (.ref a), .val (.ref el), .val (.ref t)] [])) tgt
    refine XS.aloadN H hx rfl (hb hby d_prog_8_method_1_0) rfl rfl ?_
    exact kt
  clear H
  refine Jvm.OwnN.Aim.callC (pc := 1) (Ls := #[.val (.ref a), .val (.ref el), .val (.ref t)]) (argsL := []) (rest := []) P0 hx hZ hml hown rfl (hw _ (List.mem_of_getElem? (i := 43) rfl)) (hw _ (List.mem_of_getElem? (i := 44) rfl)) (hw _ (List.mem_of_getElem? (i := 47) rfl)) (by decide) (Jvm.OwnN.Con.back (W := 0) (own_rec l Z a0 hw a h0 n0 Z0) hZ (hw _ (List.mem_of_getElem? (i := 47) rfl)) (hw _ (List.mem_of_getElem? (i := 46) rfl)) (by decide) (by decide)) rfl pd__28_29V rfl (Nat.le_of_eq rfl) (hb hby d_prog_8_method_1_1) (by decide) (by decide) ?_
  intro T458 h459 v462 P460 hQ461
  obtain ⟨rfl, rfl⟩ := hQ461
  show Jvm.OwnN.Aim p e below s _ _ n0 _ T458 (mkF m 4 #[.val (.ref a), .val (.ref el), .val (.ref t)] [])
  have H := P460.here
  refine Jvm.OwnN.Aim.of (T := T458) (T' := T458) (g := (mkF m 4 #[.val (.ref a), .val (.ref el), .val (.ref t)] [])) (g' := (mkF m 6 #[.val (.ref a), .val (.ref el), .val (.ref t)] [(.ref el), (.ref a)])) (fun tgt kt => ?_) ?_
  · show Steps p.tables e below (T458.setTop (mkF m 4 #[.val (.ref a), .val (.ref el), .val (.ref t)] [])) tgt
    refine XS.aloadN H hx rfl (hb hby d_prog_8_method_1_4) rfl rfl ?_
    show Steps p.tables e below (T458.setTop (mkF m 5 #[.val (.ref a), .val (.ref el), .val (.ref t)] [(.ref a)])) tgt
    refine XS.aloadN H hx rfl (hb hby d_prog_8_method_1_5) rfl rfl ?_
    exact kt
  clear H
  refine Jvm.OwnN.Aim.putF (pc := 6) (Ls := #[.val (.ref a), .val (.ref el), .val (.ref t)]) (st := []) (v := (.ref el)) P460 hx hZ hown (host := "") (Or.inl (hw _ (List.mem_of_getElem? (i := 49) rfl))) Via.refl F1 F0 (Or.inr ⟨(hw _ (List.mem_of_getElem? (i := 50) rfl)), rfl, hnm⟩) (hw _ (List.mem_of_getElem? (i := 38) rfl)) (ty := (.object "java/lang/String")) (by decide) rfl rfl (hb hby d_prog_8_method_1_6) g_a ?_
  intro T465 h466 P467 W468
  have K469 := Keep.of_wr W468
  have F470 : Fld Z h466 a "com/example/asterism/asterism/eac/EacCpf$NameForm" "element" "Ljava/lang/String;" (.ref el) := F1.same W468
  have K471 : Keep h0 h466 [a] := (Keep.refl h0 [a]).trans K469 (allS (Or.inl (List.mem_of_getElem? (i := 0) rfl)) all0)
  show Jvm.OwnN.Aim p e below s _ _ n0 _ T465 (mkF m 9 #[.val (.ref a), .val (.ref el), .val (.ref t)] [])
  have H := P467.here
  refine Jvm.OwnN.Aim.of (T := T465) (T' := T465) (g := (mkF m 9 #[.val (.ref a), .val (.ref el), .val (.ref t)] [])) (g' := (mkF m 11 #[.val (.ref a), .val (.ref el), .val (.ref t)] [(.ref t), (.ref a)])) (fun tgt kt => ?_) ?_
  · show Steps p.tables e below (T465.setTop (mkF m 9 #[.val (.ref a), .val (.ref el), .val (.ref t)] [])) tgt
    refine XS.aloadN H hx rfl (hb hby d_prog_8_method_1_9) rfl rfl ?_
    show Steps p.tables e below (T465.setTop (mkF m 10 #[.val (.ref a), .val (.ref el), .val (.ref t)] [(.ref a)])) tgt
    refine XS.aloadN H hx rfl (hb hby d_prog_8_method_1_10) rfl rfl ?_
    exact kt
  clear H
  have F472 : Exa Z h466 a "com/example/asterism/asterism/eac/EacCpf$NameForm" := (F0.keep K469)
  have F473 : Fld Z h466 a "com/example/asterism/asterism/eac/EacCpf$NameForm" "text" "Ljava/lang/String;" u2 := (F2.other W468 (Or.inr (slot_ne (Or.inr (hw _ (List.mem_of_getElem? (i := 52) rfl))) (Or.inr (hw _ (List.mem_of_getElem? (i := 50) rfl))) (by decide) (t := (.object "java/lang/String")) (t' := (.object "java/lang/String")) (by decide) (by decide))))
  refine Jvm.OwnN.Aim.putF (pc := 11) (Ls := #[.val (.ref a), .val (.ref el), .val (.ref t)]) (st := []) (v := (.ref t)) P467 hx hZ hown (host := "") (Or.inl (hw _ (List.mem_of_getElem? (i := 51) rfl))) Via.refl F473 F472 (Or.inr ⟨(hw _ (List.mem_of_getElem? (i := 52) rfl)), rfl, hnm⟩) (hw _ (List.mem_of_getElem? (i := 38) rfl)) (ty := (.object "java/lang/String")) (by decide) rfl rfl (hb hby d_prog_8_method_1_11) g_a ?_
  intro T474 h475 P476 W477
  have K478 := Keep.of_wr W477
  have F479 : Fld Z h475 a "com/example/asterism/asterism/eac/EacCpf$NameForm" "text" "Ljava/lang/String;" (.ref t) := F473.same W477
  have K480 : Keep h0 h475 [a] := K471.trans K478 (allS (Or.inl (List.mem_of_getElem? (i := 0) rfl)) all0)
  show Jvm.OwnN.Aim p e below s _ _ n0 _ T474 (mkF m 14 #[.val (.ref a), .val (.ref el), .val (.ref t)] [])
  have F481 : Exa Z h475 a "com/example/asterism/asterism/eac/EacCpf$NameForm" := (F472.keep K478)
  have F482 : Fld Z h475 a "com/example/asterism/asterism/eac/EacCpf$NameForm" "element" "Ljava/lang/String;" (.ref el) := (F470.other W477 (Or.inr (slot_ne (Or.inr (hw _ (List.mem_of_getElem? (i := 50) rfl))) (Or.inr (hw _ (List.mem_of_getElem? (i := 52) rfl))) (by decide) (t := (.object "java/lang/String")) (t' := (.object "java/lang/String")) (by decide) (by decide))))
  exact Jvm.OwnN.Aim.retV P476 hx hlk hret (hb hby d_prog_8_method_1_14) (by decide) (by decide) ⟨rfl, K480, F481, F482, F479⟩
def mkc (n c0 c1 : Int32) : List Int32 := if n = 0 then [] else if n = 1 then [c0] else [c0, c1]
theorem cod_e : Jvm.OwnW.cod "" = [] := by decide +kernel
theorem cod_c : Jvm.OwnW.cod ": " = [58, 32] := by decide +kernel
theorem mkc_len {n c0 c1 : Int32} : (mkc n c0 c1).length ≤ 2 := by unfold mkc; split <;> (try split) <;> simp
theorem mkc_in {n c0 c1 : Int32} (h0 : ¬ c0 < 0 ∧ ¬ (255 : Int32) < c0) (h1 : ¬ c1 < 0 ∧ ¬ (255 : Int32) < c1) : ∀ c ∈ mkc n c0 c1, ¬ c < 0 ∧ ¬ (255 : Int32) < c := by
  intro c hc
  unfold mkc at hc
  split at hc
  · cases hc
  · split at hc
    · simp only [List.mem_cons, List.not_mem_nil, or_false] at hc; exact hc ▸ h0
    · simp only [List.mem_cons, List.not_mem_nil, or_false] at hc
      rcases hc with rfl | rfl
      · exact h0
      · exact h1
theorem d_method_3_0 : decode method_3_code 0 = .ok (.iload_n 0, 1) := by decide +kernel
theorem d_method_3_1 : decode method_3_code 1 = .ok (.ifCond .ne 6, 3) := by decide +kernel
theorem d_method_3_4 : decode method_3_code 4 = .ok (.ldc 32, 2) := by decide +kernel
theorem d_method_3_6 : decode method_3_code 6 = .ok (.areturn, 1) := by decide +kernel
theorem d_method_3_7 : decode method_3_code 7 = .ok (.iload_n 0, 1) := by decide +kernel
theorem d_method_3_8 : decode method_3_code 8 = .ok (.iconst 1, 1) := by decide +kernel
theorem d_method_3_9 : decode method_3_code 9 = .ok (.if_icmp .ne 8, 3) := by decide +kernel
theorem d_method_3_12 : decode method_3_code 12 = .ok (.iload_n 1, 1) := by decide +kernel
theorem d_method_3_13 : decode method_3_code 13 = .ok (.invokestatic 34, 3) := by decide +kernel
theorem pd__28C_29Ljava_2flang_2fString_3b : parseMethodDescriptor "(C)Ljava/lang/String;" = some ⟨[.char], some (.object "java/lang/String")⟩ := by decide +kernel
theorem d_method_3_16 : decode method_3_code 16 = .ok (.areturn, 1) := by decide +kernel
theorem d_method_3_17 : decode method_3_code 17 = .ok (.new 23, 3) := by decide +kernel
theorem d_method_3_20 : decode method_3_code 20 = .ok (.dup, 1) := by decide +kernel
theorem d_method_3_21 : decode method_3_code 21 = .ok (.iconst 2, 1) := by decide +kernel
theorem d_method_3_22 : decode method_3_code 22 = .ok (.newarray .char, 2) := by decide +kernel
theorem d_method_3_24 : decode method_3_code 24 = .ok (.dup, 1) := by decide +kernel
theorem d_method_3_25 : decode method_3_code 25 = .ok (.iconst 0, 1) := by decide +kernel
theorem d_method_3_26 : decode method_3_code 26 = .ok (.iload_n 1, 1) := by decide +kernel
theorem d_method_3_27 : decode method_3_code 27 = .ok (.castore, 1) := by decide +kernel
theorem d_method_3_28 : decode method_3_code 28 = .ok (.dup, 1) := by decide +kernel
theorem d_method_3_29 : decode method_3_code 29 = .ok (.iconst 1, 1) := by decide +kernel
theorem d_method_3_30 : decode method_3_code 30 = .ok (.iload_n 2, 1) := by decide +kernel
theorem d_method_3_31 : decode method_3_code 31 = .ok (.castore, 1) := by decide +kernel
theorem d_method_3_32 : decode method_3_code 32 = .ok (.invokespecial 38, 3) := by decide +kernel
theorem pd__28_5bC_29V : parseMethodDescriptor "([C)V" = some ⟨[(.array .char)], none⟩ := by decide +kernel
theorem d_method_3_35 : decode method_3_code 35 = .ok (.areturn, 1) := by decide +kernel
theorem pn_com_example_asterism_asterism_eac_NameFormNotePinLaw : plainName "com/example/asterism/asterism/eac/NameFormNotePinLaw" = true := by first | (simp [plainName, overriddenIn]; done) | decide +kernel
set_option maxRecDepth 65536 in
set_option maxHeartbeats 40000000 in
theorem own_make (l : Launch) (Z : State) (a0 : Array Value) (hw : ∀ d ∈ tables_1, d.before a0 Z = true) (n : Int32) (c0 : Int32) (c1 : Int32) (h0 : Heap) (n0 : Nat) (Z0 : n0 ≤ h0.size) (Lc0 : List Addr) (F0 : Old Z n0 h0) (h0_ : ¬ c0 < 0 ∧ ¬ (255 : Int32) < c0) (h1_ : ¬ c1 < 0 ∧ ¬ (255 : Int32) < c1) (G : Cmp Z) (GL : ∀ c ∈ LC.1, Jvm.OwnW.LitZ Z c) :
    Jvm.OwnW.Con l Z LC (⟨"com/example/asterism/asterism/eac/NameFormNotePinLaw", "make", "(ICC)Ljava/lang/String;"⟩ : MethodName) method_3_code 3 (some (.object "java/lang/String")) ({ frames := 4, cells := 3, slots := 8, locals := 66 } : Room) n0 #[(.int n), (.int c0), (.int c1)] h0 Lc0 (fun v h Lc => ∃ sx : Addr, ∃ t : Addr, ∃ kb : ClassId, v = some (.ref sx) ∧ Keep h0 h [] ∧ ((sx < n0 ∨ sx ∈ Lc) ∨ h0.size ≤ sx) ∧ ((t < n0 ∨ t ∈ Lc) ∨ h0.size ≤ t) ∧ Str Z h sx t kb (mkc n c0 c1)) := by
  refine Jvm.OwnW.Con.intro (plainFor_of_name pn_com_example_asterism_asterism_eac_NameFormNotePinLaw) ?_
  intro p e s m below meth c s₁ hx hby hml hret hnm hown hlk hZ hs0 P0
  refine Jvm.OwnW.Aim.cast (by first | (simp [entryFrame, mkF, argsToLocals, Value.category]; done) | rfl : entryFrame m #[(.int n), (.int c0), (.int c1)] 3 = (mkF m 0 #[.val (.int n), .val (.int c0), .val (.int c1)] [])) ?_
  have H := P0.here
  refine Jvm.OwnW.Aim.of (T := s₁) (T' := s₁) (g := (mkF m 0 #[.val (.int n), .val (.int c0), .val (.int c1)] [])) (g' := (mkF m 1 #[.val (.int n), .val (.int c0), .val (.int c1)] [(.int n)])) (fun tgt kt => ?_) ?_
  · show Steps p.tables e below (s₁.setTop (mkF m 0 #[.val (.int n), .val (.int c0), .val (.int c1)] [])) tgt
    refine XS.iloadN H hx rfl (hb hby d_method_3_0) rfl ?_
    exact kt
  clear H
  by_cases hc483 : n = (0 : Int32)
  · -- n = (0 : Int32)
    have H := P0.here
    refine Jvm.OwnW.Aim.of (T := s₁) (T' := s₁) (g := (mkF m 1 #[.val (.int n), .val (.int c0), .val (.int c1)] [(.int n)])) (g' := (mkF m 4 #[.val (.int n), .val (.int c0), .val (.int c1)] [])) (fun tgt kt => ?_) ?_
    · show Steps p.tables e below (s₁.setTop (mkF m 1 #[.val (.int n), .val (.int c0), .val (.int c1)] [(.int n)])) tgt
      refine XS.ifNo H hx rfl (hb hby d_method_3_1) rfl ((if0 _ _).trans (teq hc483).2) ?_
      exact kt
    clear H
    refine Jvm.OwnW.Aim.ldcL (pc := 4) (Ls := #[.val (.int n), .val (.int c0), .val (.int c1)]) (st := []) P0 hx hZ hown (hw _ (List.mem_of_getElem? (i := 34) rfl)) (own_atoms hw) (LC := LC) (List.mem_of_getElem? (i := 0) rfl) (by decide +kernel) (by decide +kernel) (GL _ (List.mem_of_getElem? (i := 0) rfl)) F0 (fun b cl q => by rw [← hs0]; exact q) (hb hby d_method_3_4) (fun _ => trivial) (cap := 0) (by decide +kernel) (by decide) (by decide) (by decide) ?_
    intro T484 h485 b486 b487 k488 Lc489 P490 K491 rel492 F493 La494 Lb495
    have K496 : Keep h0 h485 [] := (Keep.refl h0 []).trans K491 all0
    have lc497 : Jvm.OwnW.Grow Lc0 Lc489 h0.size := (Jvm.OwnW.Grow.refl _ _).trans rel492 (Nat.le_refl _)
    show Jvm.OwnW.Aim p e below s _ _ n0 _ T484 (mkF m 6 #[.val (.int n), .val (.int c0), .val (.int c1)] [(.ref b486)])
    exact Jvm.OwnW.Aim.retA P490 hx hlk hret rfl rfl (hb hby d_method_3_6) (by decide) (by decide) lc497 ⟨b486, b487, k488, rfl, K496, (Or.inl La494), (Or.inl Lb495), (by have q := F493; rw [cod_e] at q; rw [mkc, if_pos hc483]; exact q)⟩
  · -- not n = (0 : Int32)
    have H := P0.here
    refine Jvm.OwnW.Aim.of (T := s₁) (T' := s₁) (g := (mkF m 1 #[.val (.int n), .val (.int c0), .val (.int c1)] [(.int n)])) (g' := (mkF m 9 #[.val (.int n), .val (.int c0), .val (.int c1)] [(.int (1 : Int32)), (.int n)])) (fun tgt kt => ?_) ?_
    · show Steps p.tables e below (s₁.setTop (mkF m 1 #[.val (.int n), .val (.int c0), .val (.int c1)] [(.int n)])) tgt
      refine XS.ifYes H hx rfl (pc0 := 1) (pc' := 7) rfl (hb hby d_method_3_1) rfl ((if0 _ _).trans (feq hc483).2) (by decide) (by decide) ?_
      show Steps p.tables e below (s₁.setTop (mkF m 7 #[.val (.int n), .val (.int c0), .val (.int c1)] [])) tgt
      refine XS.iloadN H hx rfl (hb hby d_method_3_7) rfl ?_
      show Steps p.tables e below (s₁.setTop (mkF m 8 #[.val (.int n), .val (.int c0), .val (.int c1)] [(.int n)])) tgt
      refine XS.iconst H hx rfl (hb hby d_method_3_8) ?_
      exact kt
    clear H
    by_cases hc498 : n = (1 : Int32)
    · -- n = (1 : Int32)
      have H := P0.here
      refine Jvm.OwnW.Aim.of (T := s₁) (T' := s₁) (g := (mkF m 9 #[.val (.int n), .val (.int c0), .val (.int c1)] [(.int (1 : Int32)), (.int n)])) (g' := (mkF m 13 #[.val (.int n), .val (.int c0), .val (.int c1)] [(.int c0)])) (fun tgt kt => ?_) ?_
      · show Steps p.tables e below (s₁.setTop (mkF m 9 #[.val (.int n), .val (.int c0), .val (.int c1)] [(.int (1 : Int32)), (.int n)])) tgt
        refine XS.icmpNo H hx rfl (hb hby d_method_3_9) rfl (teq hc498).2 ?_
        show Steps p.tables e below (s₁.setTop (mkF m 12 #[.val (.int n), .val (.int c0), .val (.int c1)] [])) tgt
        refine XS.iloadN H hx rfl (hb hby d_method_3_12) rfl ?_
        exact kt
      clear H
      refine Jvm.OwnW.Aim.callS (pc := 13) (Ls := #[.val (.int n), .val (.int c0), .val (.int c1)]) (argsL := [(.int c0)]) (rest := []) P0 hx hZ hml hown (hw _ (List.mem_of_getElem? (i := 198) rfl)) (hw _ (List.mem_of_getElem? (i := 199) rfl)) (hw _ (List.mem_of_getElem? (i := 6) rfl)) (hw _ (List.mem_of_getElem? (i := 200) rfl)) (by decide) (fun vm0 hZ => Jvm.OwnN.Con.back (s := s.setVm vm0) (W := 0) (own_valueOf l Z a0 hw c0 h0 n0 Z0 F0 h0_ G) hZ (hw _ (List.mem_of_getElem? (i := 200) rfl)) (hw _ (List.mem_of_getElem? (i := 6) rfl)) (by decide) (by decide)) (fun _ _ ⟨_, _, _, _, q, _, _, _⟩ => q) all0 rfl pd__28C_29Ljava_2flang_2fString_3b rfl (Nat.le_of_eq rfl) (hb hby d_method_3_13) (by decide) (by decide) ?_
      intro T499 h500 v503 P501 hQ502
      obtain ⟨x_506, t_507, kb_508, rfl, K509, g510, g511, F512⟩ := hQ502
      have K513 : Keep h0 h500 [] := (Keep.refl h0 []).trans K509 all0
      show Jvm.OwnW.Aim p e below s _ _ n0 _ T499 (mkF m 16 #[.val (.int n), .val (.int c0), .val (.int c1)] [(.ref x_506)])
      exact Jvm.OwnW.Aim.retA P501 hx hlk hret rfl rfl (hb hby d_method_3_16) (by decide) (by decide) (Jvm.OwnW.Grow.refl _ _) ⟨x_506, t_507, kb_508, rfl, K513, (Or.inr (Nat.le_trans (Nat.le_refl _) g510)), (Or.inr (Nat.le_trans (Nat.le_refl _) g511)), (by rw [mkc, if_neg hc483, if_pos hc498]; exact F512)⟩
    · -- not n = (1 : Int32)
      have H := P0.here
      refine Jvm.OwnW.Aim.of (T := s₁) (T' := s₁) (g := (mkF m 9 #[.val (.int n), .val (.int c0), .val (.int c1)] [(.int (1 : Int32)), (.int n)])) (g' := (mkF m 17 #[.val (.int n), .val (.int c0), .val (.int c1)] [])) (fun tgt kt => ?_) ?_
      · show Steps p.tables e below (s₁.setTop (mkF m 9 #[.val (.int n), .val (.int c0), .val (.int c1)] [(.int (1 : Int32)), (.int n)])) tgt
        refine XS.icmpYes H hx rfl (pc0 := 9) (pc' := 17) rfl (hb hby d_method_3_9) rfl (feq hc498).2 (by decide) (by decide) ?_
        exact kt
      clear H
      refine Jvm.OwnW.Aim.newO (pc := 17) (Ls := #[.val (.int n), .val (.int c0), .val (.int c1)]) (st := []) P0 hx hZ hown (hw _ (List.mem_of_getElem? (i := 4) rfl)) (hw _ (List.mem_of_getElem? (i := 5) rfl)) (hw _ (List.mem_of_getElem? (i := 6) rfl)) (hb hby d_method_3_17) (by decide) (by decide) ?_
      intro T514 h515 b516 g522 P517 E518 E519 D520 U521
      have K523 : Keep h0 h515 [] := (Keep.refl _ _).ext E518
      have K524 : Keep h0 h515 [] := (Keep.refl h0 []).trans K523 all0
      have F525 : Fld Z h515 b516 "java/lang/String" "coder" "B" (.int (0 : Int32)) := D520 (Or.inr (hw _ (List.mem_of_getElem? (i := 31) rfl))) (ty := .byte) (by decide)
      have F526 : Fld Z h515 b516 "java/lang/String" "value" "[B" .null := D520 (Or.inr (hw _ (List.mem_of_getElem? (i := 33) rfl))) (ty := (.array .byte)) (by decide)
      show Jvm.OwnW.Aim p e below s _ _ n0 _ T514 (mkF m 20 #[.val (.int n), .val (.int c0), .val (.int c1)] [(.ref b516)])
      have H := P517.here
      refine Jvm.OwnW.Aim.of (T := T514) (T' := T514) (g := (mkF m 20 #[.val (.int n), .val (.int c0), .val (.int c1)] [(.ref b516)])) (g' := (mkF m 22 #[.val (.int n), .val (.int c0), .val (.int c1)] [(.int (2 : Int32)), (.ref b516), (.ref b516)])) (fun tgt kt => ?_) ?_
      · show Steps p.tables e below (T514.setTop (mkF m 20 #[.val (.int n), .val (.int c0), .val (.int c1)] [(.ref b516)])) tgt
        refine XS.dup H hx rfl (hb hby d_method_3_20) rfl rfl ?_
        show Steps p.tables e below (T514.setTop (mkF m 21 #[.val (.int n), .val (.int c0), .val (.int c1)] [(.ref b516), (.ref b516)])) tgt
        refine XS.iconst H hx rfl (hb hby d_method_3_21) ?_
        exact kt
      clear H
      refine Jvm.OwnW.Aim.newP (pc := 22) (Ls := #[.val (.int n), .val (.int c0), .val (.int c1)]) (st := [(.ref b516), (.ref b516)]) (z := (2 : Int32)) P517 hx hZ (hw _ (List.mem_of_getElem? (i := 7) rfl)) (hb hby d_method_3_22) (by decide) (cap := 2) (by decide) (by decide) (by decide) (by decide) ?_
      intro T527 h528 k529 b530 g534 P531 E532 V533
      have K536 : Keep h515 h528 [] := (Keep.refl _ _).ext E532
      have K537 : Keep h0 h528 [] := K524.trans K536 all0
      have V538 : Arv Z h528 b530 k529 .char (2 : Int32) [(.int (0 : Int32)), (.int (0 : Int32))] (.int (0 : Int32)) := V533.pad (pad_rep [] (.int (0 : Int32)) 2)
      show Jvm.OwnW.Aim p e below s _ _ n0 _ T527 (mkF m 24 #[.val (.int n), .val (.int c0), .val (.int c1)] [(.ref b530), (.ref b516), (.ref b516)])
      have H := P531.here
      refine Jvm.OwnW.Aim.of (T := T527) (T' := T527) (g := (mkF m 24 #[.val (.int n), .val (.int c0), .val (.int c1)] [(.ref b530), (.ref b516), (.ref b516)])) (g' := (mkF m 27 #[.val (.int n), .val (.int c0), .val (.int c1)] [(.int c0), (.int (0 : Int32)), (.ref b530), (.ref b530), (.ref b516), (.ref b516)])) (fun tgt kt => ?_) ?_
      · show Steps p.tables e below (T527.setTop (mkF m 24 #[.val (.int n), .val (.int c0), .val (.int c1)] [(.ref b530), (.ref b516), (.ref b516)])) tgt
        refine XS.dup H hx rfl (hb hby d_method_3_24) rfl rfl ?_
        show Steps p.tables e below (T527.setTop (mkF m 25 #[.val (.int n), .val (.int c0), .val (.int c1)] [(.ref b530), (.ref b530), (.ref b516), (.ref b516)])) tgt
        refine XS.iconst H hx rfl (hb hby d_method_3_25) ?_
        show Steps p.tables e below (T527.setTop (mkF m 26 #[.val (.int n), .val (.int c0), .val (.int c1)] [(.int (0 : Int32)), (.ref b530), (.ref b530), (.ref b516), (.ref b516)])) tgt
        refine XS.iloadN H hx rfl (hb hby d_method_3_26) rfl ?_
        exact kt
      clear H
      refine Jvm.OwnW.Aim.stC (pc := 27) (Ls := #[.val (.int n), .val (.int c0), .val (.int c1)]) (st := [(.ref b530), (.ref b516), (.ref b516)]) (x := c0) (j := (0 : Int32)) P531 hx hZ V538 ⟨by decide, by decide⟩ 0 rfl (Nat.le_of_ble_eq_true rfl) (hb hby d_method_3_27) (Nat.le_trans (Nat.le_trans Z0 (K524.1)) (Nat.le_of_eq g534.symm)) (Jvm.OwnW.nl_new P0.ltL (Nat.le_trans (K524.1) (Nat.le_of_eq g534.symm))) ?_
      intro T539 h540 P541 K542 V543
      replace V543 : Arv Z h540 b530 k529 .char (2 : Int32) [(.int (nar .char c0)), (.int (0 : Int32))] (.int (0 : Int32)) := V543
      have K544 : Keep h0 h540 [] := K537.trans K542 (allS (Or.inr (Nat.le_trans (K524.1) (Nat.le_of_eq g534.symm))) all0)
      show Jvm.OwnW.Aim p e below s _ _ n0 _ T539 (mkF m 28 #[.val (.int n), .val (.int c0), .val (.int c1)] [(.ref b530), (.ref b516), (.ref b516)])
      have H := P541.here
      refine Jvm.OwnW.Aim.of (T := T539) (T' := T539) (g := (mkF m 28 #[.val (.int n), .val (.int c0), .val (.int c1)] [(.ref b530), (.ref b516), (.ref b516)])) (g' := (mkF m 31 #[.val (.int n), .val (.int c0), .val (.int c1)] [(.int c1), (.int (1 : Int32)), (.ref b530), (.ref b530), (.ref b516), (.ref b516)])) (fun tgt kt => ?_) ?_
      · show Steps p.tables e below (T539.setTop (mkF m 28 #[.val (.int n), .val (.int c0), .val (.int c1)] [(.ref b530), (.ref b516), (.ref b516)])) tgt
        refine XS.dup H hx rfl (hb hby d_method_3_28) rfl rfl ?_
        show Steps p.tables e below (T539.setTop (mkF m 29 #[.val (.int n), .val (.int c0), .val (.int c1)] [(.ref b530), (.ref b530), (.ref b516), (.ref b516)])) tgt
        refine XS.iconst H hx rfl (hb hby d_method_3_29) ?_
        show Steps p.tables e below (T539.setTop (mkF m 30 #[.val (.int n), .val (.int c0), .val (.int c1)] [(.int (1 : Int32)), (.ref b530), (.ref b530), (.ref b516), (.ref b516)])) tgt
        refine XS.iloadN H hx rfl (hb hby d_method_3_30) rfl ?_
        exact kt
      clear H
      refine Jvm.OwnW.Aim.stC (pc := 31) (Ls := #[.val (.int n), .val (.int c0), .val (.int c1)]) (st := [(.ref b530), (.ref b516), (.ref b516)]) (x := c1) (j := (1 : Int32)) P541 hx hZ V543 ⟨by decide, by decide⟩ 1 rfl (Nat.le_of_ble_eq_true rfl) (hb hby d_method_3_31) (Nat.le_trans (Nat.le_trans Z0 (K524.1)) (Nat.le_of_eq g534.symm)) (Jvm.OwnW.nl_new P0.ltL (Nat.le_trans (K524.1) (Nat.le_of_eq g534.symm))) ?_
      intro T545 h546 P547 K548 V549
      replace V549 : Arv Z h546 b530 k529 .char (2 : Int32) [(.int (nar .char c0)), (.int (nar .char c1))] (.int (0 : Int32)) := V549
      have K550 : Keep h0 h546 [] := K544.trans K548 (allS (Or.inr (Nat.le_trans (K524.1) (Nat.le_of_eq g534.symm))) all0)
      show Jvm.OwnW.Aim p e below s _ _ n0 _ T545 (mkF m 32 #[.val (.int n), .val (.int c0), .val (.int c1)] [(.ref b530), (.ref b516), (.ref b516)])
      have F551 : Exa Z h546 b516 "java/lang/String" := (((E519.keep K536).keep K542).keep K548)
      have F552 : Fld Z h546 b516 "java/lang/String" "value" "[B" .null := (((F526.keep K536 nin0).keep K542 (ninS (Nat.ne_of_lt (Nat.lt_of_lt_of_le E519.lt (Nat.le_of_eq g534.symm))) nin0)).keep K548 (ninS (Nat.ne_of_lt (Nat.lt_of_lt_of_le E519.lt (Nat.le_of_eq g534.symm))) nin0))
      have F553 : Fld Z h546 b516 "java/lang/String" "coder" "B" (.int (0 : Int32)) := (((F525.keep K536 nin0).keep K542 (ninS (Nat.ne_of_lt (Nat.lt_of_lt_of_le E519.lt (Nat.le_of_eq g534.symm))) nin0)).keep K548 (ninS (Nat.ne_of_lt (Nat.lt_of_lt_of_le E519.lt (Nat.le_of_eq g534.symm))) nin0))
      have F554 : Old Z n0 h546 := ((((F0.keep K523 all0).keep K536 all0).keep K542 (allS (Nat.le_trans (Nat.le_trans Z0 (K524.1)) (Nat.le_of_eq g534.symm)) all0)).keep K548 (allS (Nat.le_trans (Nat.le_trans Z0 (K524.1)) (Nat.le_of_eq g534.symm)) all0))
      refine Jvm.OwnW.Aim.callC (pc := 32) (Ls := #[.val (.int n), .val (.int c0), .val (.int c1)]) (argsL := [(.ref b530)]) (rest := [(.ref b516)]) P547 hx hZ hml hown rfl (hw _ (List.mem_of_getElem? (i := 8) rfl)) (hw _ (List.mem_of_getElem? (i := 9) rfl)) (hw _ (List.mem_of_getElem? (i := 10) rfl)) (by decide) (fun vm0 hZ => own_newStr (s := s.setVm vm0) (W := 1) hZ (by decide) (by decide) hw b516 b530 k529 ([(nar .char c0), (nar .char c1)] : List Int32) (2 : Int32) (.int (0 : Int32)) (.null) (.int (0 : Int32)) 2 h546 n0 (Nat.le_trans Z0 (K550.1)) (Nat.le_trans Z0 (Nat.le_of_eq g522.symm)) F551 F552 F553 V549 F554 rfl rfl (by decide) (by decide) (by intro c hc; simp only [List.mem_cons, List.not_mem_nil, or_false] at hc; rcases hc with rfl | rfl; exact (own_narC h0_).symm ▸ h0_; exact (own_narC h1_).symm ▸ h1_) G) (fun _ _ ⟨_, _, _, q, _, _⟩ => q) (allS (Jvm.OwnW.nl_new P0.ltL (Nat.le_trans (Nat.le_refl _) (Nat.le_of_eq g522.symm))) all0) rfl pd__28_5bC_29V rfl (Nat.le_of_eq rfl) (hb hby d_method_3_32) (by decide) (by decide) ?_
      intro T555 h556 v559 P557 hQ558
      obtain ⟨t_562, kb_563, rfl, K564, g565, F566⟩ := hQ558
      have K567 : Keep h0 h556 [] := K550.trans K564 (allS (Or.inr (Nat.le_trans (Nat.le_refl _) (Nat.le_of_eq g522.symm))) all0)
      show Jvm.OwnW.Aim p e below s _ _ n0 _ T555 (mkF m 35 #[.val (.int n), .val (.int c0), .val (.int c1)] [(.ref b516)])
      exact Jvm.OwnW.Aim.retA P557 hx hlk hret rfl rfl (hb hby d_method_3_35) (by decide) (by decide) (Jvm.OwnW.Grow.refl _ _) ⟨b516, t_562, kb_563, rfl, K567, (Or.inr (Nat.le_trans (Nat.le_refl _) (Nat.le_of_eq g522.symm))), (Or.inr (Nat.le_trans (K550.1) g565)), (by have q := F566; rw [own_narC h0_, own_narC h1_] at q; rw [mkc, if_neg hc483, if_neg hc498]; exact q)⟩
theorem own_note_in {xs es : List Int32} (h1 : ∀ c ∈ xs, ¬ c < 0 ∧ ¬ (255 : Int32) < c) (h2 : ∀ c ∈ es, ¬ c < 0 ∧ ¬ (255 : Int32) < c) : ∀ c ∈ (([] ++ xs) ++ Jvm.OwnW.cod ": ") ++ es, ¬ c < 0 ∧ ¬ (255 : Int32) < c := by
  intro c hc
  rw [cod_c] at hc
  simp only [List.nil_append, List.mem_append, List.mem_cons, List.not_mem_nil, or_false] at hc
  rcases hc with (q | rfl | rfl) | q
  · exact h1 c q
  · decide
  · decide
  · exact h2 c q
theorem d_prog_8_method_2_0 : decode prog_8_method_2_code 0 = .ok (.new 18, 3) := by decide +kernel
theorem d_prog_8_method_2_3 : decode prog_8_method_2_code 3 = .ok (.dup, 1) := by decide +kernel
theorem d_prog_8_method_2_4 : decode prog_8_method_2_code 4 = .ok (.invokespecial 20, 3) := by decide +kernel
theorem d_prog_8_method_2_7 : decode prog_8_method_2_code 7 = .ok (.aload_n 0, 1) := by decide +kernel
theorem d_prog_8_method_2_8 : decode prog_8_method_2_code 8 = .ok (.getfield 15, 3) := by decide +kernel
theorem d_prog_8_method_2_11 : decode prog_8_method_2_code 11 = .ok (.invokevirtual 21, 3) := by decide +kernel
theorem pd__28Ljava_2flang_2fString_3b_29Ljava_2flang_2fStringBuilder_3b : parseMethodDescriptor "(Ljava/lang/String;)Ljava/lang/StringBuilder;" = some ⟨[(.object "java/lang/String")], some (.object "java/lang/StringBuilder")⟩ := by decide +kernel
theorem d_prog_8_method_2_14 : decode prog_8_method_2_code 14 = .ok (.ldc 25, 2) := by decide +kernel
theorem d_prog_8_method_2_16 : decode prog_8_method_2_code 16 = .ok (.invokevirtual 21, 3) := by decide +kernel
theorem d_prog_8_method_2_19 : decode prog_8_method_2_code 19 = .ok (.aload_n 0, 1) := by decide +kernel
theorem d_prog_8_method_2_20 : decode prog_8_method_2_code 20 = .ok (.getfield 9, 3) := by decide +kernel
theorem d_prog_8_method_2_23 : decode prog_8_method_2_code 23 = .ok (.invokevirtual 21, 3) := by decide +kernel
theorem d_prog_8_method_2_26 : decode prog_8_method_2_code 26 = .ok (.invokevirtual 27, 3) := by decide +kernel
theorem pd__28_29Ljava_2flang_2fString_3b : parseMethodDescriptor "()Ljava/lang/String;" = some ⟨[], some (.object "java/lang/String")⟩ := by decide +kernel
theorem d_prog_8_method_2_29 : decode prog_8_method_2_code 29 = .ok (.areturn, 1) := by decide +kernel
set_option maxRecDepth 65536 in
set_option maxHeartbeats 40000000 in
theorem own_note (l : Launch) (Z : State) (a0 : Array Value) (hw : ∀ d ∈ tables_1, d.before a0 Z = true) (a : Addr) (el : Addr) (te : Addr) (ke : ClassId) (es : List Int32) (x : Addr) (tx : Addr) (kx : ClassId) (xs : List Int32) (h0 : Heap) (n0 : Nat) (Z0 : n0 ≤ h0.size) (Lc0 : List Addr) (F0 : Exa Z h0 a "com/example/asterism/asterism/eac/EacCpf$NameForm") (F1 : Fld Z h0 a "com/example/asterism/asterism/eac/EacCpf$NameForm" "element" "Ljava/lang/String;" (.ref el)) (F2 : Fld Z h0 a "com/example/asterism/asterism/eac/EacCpf$NameForm" "text" "Ljava/lang/String;" (.ref x)) (F3 : Str Z h0 el te ke es) (F4 : Str Z h0 x tx kx xs) (F5 : Old Z n0 h0) (he : es.length ≤ 2) (hx_ : xs.length ≤ 2) (G : Cmp Z) (GL : ∀ c ∈ LC.1, Jvm.OwnW.LitZ Z c) :
    Jvm.OwnW.Con l Z LC (⟨"com/example/asterism/asterism/eac/EacCpf$NameForm", "note", "()Ljava/lang/String;"⟩ : MethodName) prog_8_method_2_code 1 (some (.object "java/lang/String")) ({ frames := 6, cells := 6, slots := 52, locals := 91 } : Room) n0 #[(.ref a)] h0 Lc0 (fun v h Lc => ∃ z : Addr, ∃ t2 : Addr, ∃ k2 : ClassId, v = some (.ref z) ∧ Keep h0 h [] ∧ h0.size ≤ z ∧ h0.size ≤ t2 ∧ Str Z h z t2 k2 (xs ++ [58, 32] ++ es)) := by
  refine Jvm.OwnW.Con.intro (plainFor_of_name pn_com_example_asterism_asterism_eac_EacCpf_NameForm) ?_
  intro p e s m below meth c s₁ hx hby hml hret hnm hown hlk hZ hs0 P0
  refine Jvm.OwnW.Aim.cast (by first | (simp [entryFrame, mkF, argsToLocals, Value.category]; done) | rfl : entryFrame m #[(.ref a)] 1 = (mkF m 0 #[.val (.ref a)] [])) ?_
  refine Jvm.OwnW.Aim.newO (pc := 0) (Ls := #[.val (.ref a)]) (st := []) P0 hx hZ hown (hw _ (List.mem_of_getElem? (i := 58) rfl)) (hw _ (List.mem_of_getElem? (i := 59) rfl)) (hw _ (List.mem_of_getElem? (i := 60) rfl)) (hb hby d_prog_8_method_2_0) (by decide) (by decide) ?_
  intro T568 h569 b570 g576 P571 E572 E573 D574 U575
  have K577 : Keep h0 h569 [] := (Keep.refl _ _).ext E572
  have K578 : Keep h0 h569 [] := (Keep.refl h0 []).trans K577 all0
  have F579 : Fld Z h569 b570 "java/lang/AbstractStringBuilder" "value" "[B" .null := D574 (Or.inl (hw _ (List.mem_of_getElem? (i := 73) rfl))) (ty := (.array .byte)) (by decide)
  have F580 : Fld Z h569 b570 "java/lang/AbstractStringBuilder" "coder" "B" (.int (0 : Int32)) := D574 (Or.inl (hw _ (List.mem_of_getElem? (i := 75) rfl))) (ty := .byte) (by decide)
  have F581 : Fld Z h569 b570 "java/lang/AbstractStringBuilder" "count" "I" (.int (0 : Int32)) := D574 (Or.inl (hw _ (List.mem_of_getElem? (i := 97) rfl))) (ty := .int) (by decide)
  show Jvm.OwnW.Aim p e below s _ _ n0 _ T568 (mkF m 3 #[.val (.ref a)] [(.ref b570)])
  have H := P571.here
  refine Jvm.OwnW.Aim.of (T := T568) (T' := T568) (g := (mkF m 3 #[.val (.ref a)] [(.ref b570)])) (g' := (mkF m 4 #[.val (.ref a)] [(.ref b570), (.ref b570)])) (fun tgt kt => ?_) ?_
  · show Steps p.tables e below (T568.setTop (mkF m 3 #[.val (.ref a)] [(.ref b570)])) tgt
    refine XS.dup H hx rfl (hb hby d_prog_8_method_2_3) rfl rfl ?_
    exact kt
  clear H
  have F582 : Old Z n0 h569 := (F5.keep K577 all0)
  refine Jvm.OwnW.Aim.callC (pc := 4) (Ls := #[.val (.ref a)]) (argsL := []) (rest := [(.ref b570)]) P571 hx hZ hml hown rfl (hw _ (List.mem_of_getElem? (i := 61) rfl)) (hw _ (List.mem_of_getElem? (i := 62) rfl)) (hw _ (List.mem_of_getElem? (i := 63) rfl)) (by decide) (fun vm0 hZ => Jvm.OwnN.Con.back (s := s.setVm vm0) (W := 1) (own_sbi l Z a0 hw b570 (.null) (.int (0 : Int32)) h569 n0 (Nat.le_trans Z0 (K578.1)) (Nat.le_trans Z0 (Nat.le_of_eq g576.symm)) E573 F579 F580 F581 F582 G) hZ (hw _ (List.mem_of_getElem? (i := 63) rfl)) (hw _ (List.mem_of_getElem? (i := 60) rfl)) (by decide) (by decide)) (fun _ _ ⟨_, _, _, q, _, _⟩ => q) (allS (Jvm.OwnW.nl_new P0.ltL (Nat.le_trans (Nat.le_refl _) (Nat.le_of_eq g576.symm))) all0) rfl pd__28_29V rfl (Nat.le_of_eq rfl) (hb hby d_prog_8_method_2_4) (by decide) (by decide) ?_
  intro T583 h584 v587 P585 hQ586
  obtain ⟨t_590, kb_591, rfl, K592, g593, F594⟩ := hQ586
  have K595 : Keep h0 h584 [] := K578.trans K592 (allS (Or.inr (Nat.le_trans (Nat.le_refl _) (Nat.le_of_eq g576.symm))) all0)
  show Jvm.OwnW.Aim p e below s _ _ n0 _ T583 (mkF m 7 #[.val (.ref a)] [(.ref b570)])
  have H := P585.here
  refine Jvm.OwnW.Aim.of (T := T583) (T' := T583) (g := (mkF m 7 #[.val (.ref a)] [(.ref b570)])) (g' := (mkF m 8 #[.val (.ref a)] [(.ref a), (.ref b570)])) (fun tgt kt => ?_) ?_
  · show Steps p.tables e below (T583.setTop (mkF m 7 #[.val (.ref a)] [(.ref b570)])) tgt
    refine XS.aloadN H hx rfl (hb hby d_prog_8_method_2_7) rfl rfl ?_
    exact kt
  clear H
  have F596 : Fld Z h584 a "com/example/asterism/asterism/eac/EacCpf$NameForm" "text" "Ljava/lang/String;" (.ref x) := ((F2.keep K577 nin0).keep K592 (ninS (Nat.ne_of_lt (Nat.lt_of_lt_of_le F0.lt (Nat.le_of_eq g576.symm))) nin0))
  refine Jvm.OwnW.Aim.getF (pc := 8) (Ls := #[.val (.ref a)]) (st := [(.ref b570)]) P585 hx hZ hown (host := "") (Or.inl (hw _ (List.mem_of_getElem? (i := 51) rfl))) Via.refl F596 (hb hby d_prog_8_method_2_8) ?_
  intro T597 P598
  show Jvm.OwnW.Aim p e below s _ _ n0 _ T597 (mkF m 11 #[.val (.ref a)] [(.ref x), (.ref b570)])
  have F599 : Exa Z h584 b570 "java/lang/StringBuilder" := (E573.keep K592)
  have F600 : Str Z h584 x tx kx xs := ((F4.keep K577 nin0 nin0).keep K592 (ninS (Nat.ne_of_lt (Nat.lt_of_lt_of_le F4.lt (Nat.le_of_eq g576.symm))) nin0) (ninS (Nat.ne_of_lt (Nat.lt_of_lt_of_le F4.ltb (Nat.le_of_eq g576.symm))) nin0))
  have F601 : Old Z n0 h584 := (F582.keep K592 (allS (Nat.le_trans Z0 (Nat.le_of_eq g576.symm)) all0))
  refine Jvm.OwnW.Aim.callV (pc := 11) (Ls := #[.val (.ref a)]) (argsL := [(.ref x)]) (rest := []) (y := (⟨"java/lang/StringBuilder", "append", "(Ljava/lang/String;)Ljava/lang/StringBuilder;"⟩ : MethodName)) (z := (⟨"java/lang/StringBuilder", "append", "(Ljava/lang/String;)Ljava/lang/StringBuilder;"⟩ : MethodName)) P598 hx hZ hml hown (hw _ (List.mem_of_getElem? (i := 76) rfl)) (hw _ (List.mem_of_getElem? (i := 77) rfl)) (fun vm0 hZ => notFace_of_selects (args := #[]) (mvT (s := s.setVm vm0) hZ (hw _ (List.mem_of_getElem? (i := 79) rfl)))) (hw _ (List.mem_of_getElem? (i := 79) rfl)) (hw _ (List.mem_of_getElem? (i := 78) rfl)) (by decide) F599 (fun vm0 hZ => Jvm.OwnN.Con.back (s := s.setVm vm0) (W := 0) (own_app l Z a0 hw b570 t_590 kb_591 ([] : List Int32) 16 x tx kx xs h584 n0 (Nat.le_trans Z0 (K595.1)) (Nat.le_trans Z0 (Nat.le_of_eq g576.symm)) (Nat.le_trans (Nat.le_trans Z0 (K578.1)) g593) F594 F600 F601 (by simp only [cod_c, List.length_append, List.length_cons, List.length_nil]; omega) (by decide) (Nat.ne_of_lt (Nat.lt_of_lt_of_le (Nat.lt_of_lt_of_le F4.ltb (K578.1)) g593)) (Nat.ne_of_lt (Nat.lt_of_lt_of_le F4.ltb (Nat.le_of_eq g576.symm))) (Nat.ne_of_lt (Nat.lt_of_lt_of_le E573.lt g593)) (Nat.ne_of_lt (Nat.lt_of_lt_of_le (Nat.lt_of_lt_of_le F4.lt (K578.1)) g593)) G) hZ (hw _ (List.mem_of_getElem? (i := 80) rfl)) (hw _ (List.mem_of_getElem? (i := 60) rfl)) (by decide) (by decide)) (fun _ _ ⟨_, q, _⟩ => q) (allS (Jvm.OwnW.nl_new P0.ltL (Nat.le_trans (Nat.le_refl _) (Nat.le_of_eq g576.symm))) (allS (Jvm.OwnW.nl_new P0.ltL (Nat.le_trans (K578.1) g593)) all0)) rfl pd__28Ljava_2flang_2fString_3b_29Ljava_2flang_2fStringBuilder_3b rfl (Nat.le_of_eq rfl) (hb hby d_prog_8_method_2_11) (by decide) (by decide) ?_
  intro T602 h603 v606 P604 hQ605
  obtain ⟨rfl, K609, F610⟩ := hQ605
  have K611 : Keep h0 h603 [] := K595.trans K609 (allS (Or.inr (Nat.le_trans (Nat.le_refl _) (Nat.le_of_eq g576.symm))) (allS (Or.inr (Nat.le_trans (K578.1) g593)) all0))
  show Jvm.OwnW.Aim p e below s _ _ n0 _ T602 (mkF m 14 #[.val (.ref a)] [(.ref b570)])
  have F624 : Old Z n0 h603 := (F601.keep K609 (allS (Nat.le_trans Z0 (Nat.le_of_eq g576.symm)) (allS (Nat.le_trans (Nat.le_trans Z0 (K578.1)) g593) all0)))
  refine Jvm.OwnW.Aim.ldcL (pc := 14) (Ls := #[.val (.ref a)]) (st := [(.ref b570)]) P604 hx hZ hown (hw _ (List.mem_of_getElem? (i := 123) rfl)) (own_atoms hw) (LC := LC) (List.mem_of_getElem? (i := 1) rfl) (by decide +kernel) (by decide +kernel) (GL _ (List.mem_of_getElem? (i := 1) rfl)) F624 (fun b cl q => K611.2.1 b cl (by rw [← hs0]; exact q) nin0) (hb hby d_prog_8_method_2_14) (fun _ => trivial) (cap := 8) (by decide +kernel) (by decide) (by decide) (by decide) ?_
  intro T612 h613 b614 b615 k616 Lc617 P618 K619 rel620 F621 La622 Lb623
  have K625 : Keep h0 h613 [] := K611.trans K619 all0
  have lc626 : Jvm.OwnW.Grow Lc0 Lc617 h0.size := (Jvm.OwnW.Grow.refl _ _).trans rel620 (K611.1)
  show Jvm.OwnW.Aim p e below s _ _ n0 _ T612 (mkF m 16 #[.val (.ref a)] [(.ref b614), (.ref b570)])
  have F627 : Exa Z h613 b570 "java/lang/StringBuilder" := ((F599.keep K609).keep K619)
  have F628 : Bld Z h613 b570 t_590 kb_591 (([] : List Int32) ++ xs) 16 := (F610.keep K619 nin0 nin0)
  have F629 : Old Z n0 h613 := (F624.keep K619 all0)
  refine Jvm.OwnW.Aim.callV (pc := 16) (Ls := #[.val (.ref a)]) (argsL := [(.ref b614)]) (rest := []) (y := (⟨"java/lang/StringBuilder", "append", "(Ljava/lang/String;)Ljava/lang/StringBuilder;"⟩ : MethodName)) (z := (⟨"java/lang/StringBuilder", "append", "(Ljava/lang/String;)Ljava/lang/StringBuilder;"⟩ : MethodName)) P618 hx hZ hml hown (hw _ (List.mem_of_getElem? (i := 76) rfl)) (hw _ (List.mem_of_getElem? (i := 77) rfl)) (fun vm0 hZ => notFace_of_selects (args := #[]) (mvT (s := s.setVm vm0) hZ (hw _ (List.mem_of_getElem? (i := 79) rfl)))) (hw _ (List.mem_of_getElem? (i := 79) rfl)) (hw _ (List.mem_of_getElem? (i := 78) rfl)) (by decide) F627 (fun vm0 hZ => Jvm.OwnN.Con.back (s := s.setVm vm0) (W := 0) (own_app l Z a0 hw b570 t_590 kb_591 (([] : List Int32) ++ xs) 16 b614 b615 k616 (Jvm.OwnW.cod ": ") h613 n0 (Nat.le_trans Z0 (K625.1)) (Nat.le_trans Z0 (Nat.le_of_eq g576.symm)) (Nat.le_trans (Nat.le_trans Z0 (K578.1)) g593) F628 F621 F629 (by simp only [cod_c, List.length_append, List.length_cons, List.length_nil]; omega) (by decide) (Jvm.OwnW.lit_ne Lb623 (Nat.le_trans (Nat.le_trans Z0 (K578.1)) g593) (Jvm.OwnW.nl_step (Jvm.OwnW.nl_new P0.ltL (Nat.le_trans (K578.1) g593)) rel620 (Nat.lt_of_lt_of_le F594.2.2.2.2.lt (K609.1)))) (Jvm.OwnW.lit_ne Lb623 (Nat.le_trans Z0 (Nat.le_of_eq g576.symm)) (Jvm.OwnW.nl_step (Jvm.OwnW.nl_new P0.ltL (Nat.le_trans (Nat.le_refl _) (Nat.le_of_eq g576.symm))) rel620 (Nat.lt_of_lt_of_le E573.lt (Nat.le_trans K592.1 K609.1)))) (Nat.ne_of_lt (Nat.lt_of_lt_of_le E573.lt g593)) (Jvm.OwnW.lit_ne La622 (Nat.le_trans (Nat.le_trans Z0 (K578.1)) g593) (Jvm.OwnW.nl_step (Jvm.OwnW.nl_new P0.ltL (Nat.le_trans (K578.1) g593)) rel620 (Nat.lt_of_lt_of_le F594.2.2.2.2.lt (K609.1)))) G) hZ (hw _ (List.mem_of_getElem? (i := 80) rfl)) (hw _ (List.mem_of_getElem? (i := 60) rfl)) (by decide) (by decide)) (fun _ _ ⟨_, q, _⟩ => q) (allS (Jvm.OwnW.nl_step (Jvm.OwnW.nl_new P0.ltL (Nat.le_trans (Nat.le_refl _) (Nat.le_of_eq g576.symm))) rel620 (Nat.lt_of_lt_of_le E573.lt (Nat.le_trans K592.1 K609.1))) (allS (Jvm.OwnW.nl_step (Jvm.OwnW.nl_new P0.ltL (Nat.le_trans (K578.1) g593)) rel620 (Nat.lt_of_lt_of_le F594.2.2.2.2.lt (K609.1))) all0)) rfl pd__28Ljava_2flang_2fString_3b_29Ljava_2flang_2fStringBuilder_3b rfl (Nat.le_of_eq rfl) (hb hby d_prog_8_method_2_16) (by decide) (by decide) ?_
  intro T630 h631 v634 P632 hQ633
  obtain ⟨rfl, K637, F638⟩ := hQ633
  have K639 : Keep h0 h631 [] := K625.trans K637 (allS (Or.inr (Nat.le_trans (Nat.le_refl _) (Nat.le_of_eq g576.symm))) (allS (Or.inr (Nat.le_trans (K578.1) g593)) all0))
  show Jvm.OwnW.Aim p e below s _ _ n0 _ T630 (mkF m 19 #[.val (.ref a)] [(.ref b570)])
  have H := P632.here
  refine Jvm.OwnW.Aim.of (T := T630) (T' := T630) (g := (mkF m 19 #[.val (.ref a)] [(.ref b570)])) (g' := (mkF m 20 #[.val (.ref a)] [(.ref a), (.ref b570)])) (fun tgt kt => ?_) ?_
  · show Steps p.tables e below (T630.setTop (mkF m 19 #[.val (.ref a)] [(.ref b570)])) tgt
    refine XS.aloadN H hx rfl (hb hby d_prog_8_method_2_19) rfl rfl ?_
    exact kt
  clear H
  have F640 : Fld Z h631 a "com/example/asterism/asterism/eac/EacCpf$NameForm" "element" "Ljava/lang/String;" (.ref el) := (((((F1.keep K577 nin0).keep K592 (ninS (Nat.ne_of_lt (Nat.lt_of_lt_of_le F0.lt (Nat.le_of_eq g576.symm))) nin0)).keep K609 (ninS (Nat.ne_of_lt (Nat.lt_of_lt_of_le F0.lt (Nat.le_of_eq g576.symm))) (ninS (Nat.ne_of_lt (Nat.lt_of_lt_of_le (Nat.lt_of_lt_of_le F0.lt (K578.1)) g593)) nin0))).keep K619 nin0).keep K637 (ninS (Nat.ne_of_lt (Nat.lt_of_lt_of_le F0.lt (Nat.le_of_eq g576.symm))) (ninS (Nat.ne_of_lt (Nat.lt_of_lt_of_le (Nat.lt_of_lt_of_le F0.lt (K578.1)) g593)) nin0)))
  refine Jvm.OwnW.Aim.getF (pc := 20) (Ls := #[.val (.ref a)]) (st := [(.ref b570)]) P632 hx hZ hown (host := "") (Or.inl (hw _ (List.mem_of_getElem? (i := 49) rfl))) Via.refl F640 (hb hby d_prog_8_method_2_20) ?_
  intro T641 P642
  show Jvm.OwnW.Aim p e below s _ _ n0 _ T641 (mkF m 23 #[.val (.ref a)] [(.ref el), (.ref b570)])
  have F643 : Exa Z h631 b570 "java/lang/StringBuilder" := (F627.keep K637)
  have F644 : Str Z h631 el te ke es := (((((F3.keep K577 nin0 nin0).keep K592 (ninS (Nat.ne_of_lt (Nat.lt_of_lt_of_le F3.lt (Nat.le_of_eq g576.symm))) nin0) (ninS (Nat.ne_of_lt (Nat.lt_of_lt_of_le F3.ltb (Nat.le_of_eq g576.symm))) nin0)).keep K609 (ninS (Nat.ne_of_lt (Nat.lt_of_lt_of_le F3.lt (Nat.le_of_eq g576.symm))) (ninS (Nat.ne_of_lt (Nat.lt_of_lt_of_le (Nat.lt_of_lt_of_le F3.lt (K578.1)) g593)) nin0)) (ninS (Nat.ne_of_lt (Nat.lt_of_lt_of_le F3.ltb (Nat.le_of_eq g576.symm))) (ninS (Nat.ne_of_lt (Nat.lt_of_lt_of_le (Nat.lt_of_lt_of_le F3.ltb (K578.1)) g593)) nin0))).keep K619 nin0 nin0).keep K637 (ninS (Nat.ne_of_lt (Nat.lt_of_lt_of_le F3.lt (Nat.le_of_eq g576.symm))) (ninS (Nat.ne_of_lt (Nat.lt_of_lt_of_le (Nat.lt_of_lt_of_le F3.lt (K578.1)) g593)) nin0)) (ninS (Nat.ne_of_lt (Nat.lt_of_lt_of_le F3.ltb (Nat.le_of_eq g576.symm))) (ninS (Nat.ne_of_lt (Nat.lt_of_lt_of_le (Nat.lt_of_lt_of_le F3.ltb (K578.1)) g593)) nin0)))
  have F645 : Old Z n0 h631 := (F629.keep K637 (allS (Nat.le_trans Z0 (Nat.le_of_eq g576.symm)) (allS (Nat.le_trans (Nat.le_trans Z0 (K578.1)) g593) all0)))
  refine Jvm.OwnW.Aim.callV (pc := 23) (Ls := #[.val (.ref a)]) (argsL := [(.ref el)]) (rest := []) (y := (⟨"java/lang/StringBuilder", "append", "(Ljava/lang/String;)Ljava/lang/StringBuilder;"⟩ : MethodName)) (z := (⟨"java/lang/StringBuilder", "append", "(Ljava/lang/String;)Ljava/lang/StringBuilder;"⟩ : MethodName)) P642 hx hZ hml hown (hw _ (List.mem_of_getElem? (i := 76) rfl)) (hw _ (List.mem_of_getElem? (i := 77) rfl)) (fun vm0 hZ => notFace_of_selects (args := #[]) (mvT (s := s.setVm vm0) hZ (hw _ (List.mem_of_getElem? (i := 79) rfl)))) (hw _ (List.mem_of_getElem? (i := 79) rfl)) (hw _ (List.mem_of_getElem? (i := 78) rfl)) (by decide) F643 (fun vm0 hZ => Jvm.OwnN.Con.back (s := s.setVm vm0) (W := 0) (own_app l Z a0 hw b570 t_590 kb_591 ((([] : List Int32) ++ xs) ++ (Jvm.OwnW.cod ": ")) 16 el te ke es h631 n0 (Nat.le_trans Z0 (K639.1)) (Nat.le_trans Z0 (Nat.le_of_eq g576.symm)) (Nat.le_trans (Nat.le_trans Z0 (K578.1)) g593) F638 F644 F645 (by simp only [cod_c, List.length_append, List.length_cons, List.length_nil]; omega) (by decide) (Nat.ne_of_lt (Nat.lt_of_lt_of_le (Nat.lt_of_lt_of_le F3.ltb (K578.1)) g593)) (Nat.ne_of_lt (Nat.lt_of_lt_of_le F3.ltb (Nat.le_of_eq g576.symm))) (Nat.ne_of_lt (Nat.lt_of_lt_of_le E573.lt g593)) (Nat.ne_of_lt (Nat.lt_of_lt_of_le (Nat.lt_of_lt_of_le F3.lt (K578.1)) g593)) G) hZ (hw _ (List.mem_of_getElem? (i := 80) rfl)) (hw _ (List.mem_of_getElem? (i := 60) rfl)) (by decide) (by decide)) (fun _ _ ⟨_, q, _⟩ => q) (allS (Jvm.OwnW.nl_step (Jvm.OwnW.nl_new P0.ltL (Nat.le_trans (Nat.le_refl _) (Nat.le_of_eq g576.symm))) rel620 (Nat.lt_of_lt_of_le E573.lt (Nat.le_trans K592.1 K609.1))) (allS (Jvm.OwnW.nl_step (Jvm.OwnW.nl_new P0.ltL (Nat.le_trans (K578.1) g593)) rel620 (Nat.lt_of_lt_of_le F594.2.2.2.2.lt (K609.1))) all0)) rfl pd__28Ljava_2flang_2fString_3b_29Ljava_2flang_2fStringBuilder_3b rfl (Nat.le_of_eq rfl) (hb hby d_prog_8_method_2_23) (by decide) (by decide) ?_
  intro T646 h647 v650 P648 hQ649
  obtain ⟨rfl, K653, F654⟩ := hQ649
  have K655 : Keep h0 h647 [] := K639.trans K653 (allS (Or.inr (Nat.le_trans (Nat.le_refl _) (Nat.le_of_eq g576.symm))) (allS (Or.inr (Nat.le_trans (K578.1) g593)) all0))
  show Jvm.OwnW.Aim p e below s _ _ n0 _ T646 (mkF m 26 #[.val (.ref a)] [(.ref b570)])
  have F656 : Exa Z h647 b570 "java/lang/StringBuilder" := (F643.keep K653)
  have F657 : Old Z n0 h647 := (F645.keep K653 (allS (Nat.le_trans Z0 (Nat.le_of_eq g576.symm)) (allS (Nat.le_trans (Nat.le_trans Z0 (K578.1)) g593) all0)))
  refine Jvm.OwnW.Aim.callV (pc := 26) (Ls := #[.val (.ref a)]) (argsL := []) (rest := []) (y := (⟨"java/lang/StringBuilder", "toString", "()Ljava/lang/String;"⟩ : MethodName)) (z := (⟨"java/lang/StringBuilder", "toString", "()Ljava/lang/String;"⟩ : MethodName)) P648 hx hZ hml hown (hw _ (List.mem_of_getElem? (i := 124) rfl)) (hw _ (List.mem_of_getElem? (i := 125) rfl)) (fun vm0 hZ => notFace_of_selects (args := #[]) (mvT (s := s.setVm vm0) hZ (hw _ (List.mem_of_getElem? (i := 127) rfl)))) (hw _ (List.mem_of_getElem? (i := 127) rfl)) (hw _ (List.mem_of_getElem? (i := 126) rfl)) (by decide) F656 (fun vm0 hZ => Jvm.OwnN.Con.back (s := s.setVm vm0) (W := 0) (own_ts l Z a0 hw b570 t_590 kb_591 (((([] : List Int32) ++ xs) ++ (Jvm.OwnW.cod ": ")) ++ es) 16 h647 n0 (Nat.le_trans Z0 (K655.1)) F654 F657 (by simp only [cod_c, List.length_append, List.length_cons, List.length_nil]; omega) (by decide) (own_note_in F4.2.2.2.2.1 F3.2.2.2.2.1) G) hZ (hw _ (List.mem_of_getElem? (i := 128) rfl)) (hw _ (List.mem_of_getElem? (i := 60) rfl)) (by decide) (by decide)) (fun _ _ ⟨_, _, _, _, q, _, _, _⟩ => q) all0 rfl pd__28_29Ljava_2flang_2fString_3b rfl (Nat.le_of_eq rfl) (hb hby d_prog_8_method_2_26) (by decide) (by decide) ?_
  intro T658 h659 v662 P660 hQ661
  obtain ⟨z_665, t_666, k_667, rfl, K668, g669, g670, F671⟩ := hQ661
  have K672 : Keep h0 h659 [] := K655.trans K668 all0
  show Jvm.OwnW.Aim p e below s _ _ n0 _ T658 (mkF m 29 #[.val (.ref a)] [(.ref z_665)])
  exact Jvm.OwnW.Aim.retA P660 hx hlk hret rfl rfl (hb hby d_prog_8_method_2_29) (by decide) (by decide) lc626 ⟨z_665, t_666, k_667, rfl, K672, (Nat.le_trans (K655.1) g669), (Nat.le_trans (K655.1) g670), (by have q := F671; rw [cod_c] at q; exact q)⟩
def expc (i tl t0 t1 e0 e1 : Int32) : Int32 := if i < tl then (if i = 0 then t0 else t1) else if i = tl then 58 else if i = tl + 1 then 32 else if i - tl - 2 = 0 then e0 else e1
def okV (ds : List Int32) (i n tl t0 t1 e0 e1 : Int32) : Int32 := if i < n then (if ds.getD i.toNatClampNeg 0 = expc i tl t0 t1 e0 e1 then 1 else 0) else 1
theorem d_method_4_0 : decode method_4_code 0 = .ok (.iload_n 0, 1) := by decide +kernel
theorem d_method_4_1 : decode method_4_code 1 = .ok (.iload_n 1, 1) := by decide +kernel
theorem d_method_4_2 : decode method_4_code 2 = .ok (.if_icmp .ge 13, 3) := by decide +kernel
theorem d_method_4_5 : decode method_4_code 5 = .ok (.iload_n 0, 1) := by decide +kernel
theorem d_method_4_6 : decode method_4_code 6 = .ok (.ifCond .ne 7, 3) := by decide +kernel
theorem d_method_4_9 : decode method_4_code 9 = .ok (.iload_n 2, 1) := by decide +kernel
theorem d_method_4_10 : decode method_4_code 10 = .ok (.goto 4, 3) := by decide +kernel
theorem d_method_4_14 : decode method_4_code 14 = .ok (.ireturn, 1) := by decide +kernel
theorem d_method_4_13 : decode method_4_code 13 = .ok (.iload_n 3, 1) := by decide +kernel
theorem d_method_4_15 : decode method_4_code 15 = .ok (.iload_n 0, 1) := by decide +kernel
theorem d_method_4_16 : decode method_4_code 16 = .ok (.iload_n 1, 1) := by decide +kernel
theorem d_method_4_17 : decode method_4_code 17 = .ok (.if_icmp .ne 6, 3) := by decide +kernel
theorem d_method_4_20 : decode method_4_code 20 = .ok (.bipush 58, 2) := by decide +kernel
theorem d_method_4_22 : decode method_4_code 22 = .ok (.ireturn, 1) := by decide +kernel
theorem d_method_4_23 : decode method_4_code 23 = .ok (.iload_n 0, 1) := by decide +kernel
theorem d_method_4_24 : decode method_4_code 24 = .ok (.iload_n 1, 1) := by decide +kernel
theorem d_method_4_25 : decode method_4_code 25 = .ok (.iconst 1, 1) := by decide +kernel
theorem d_method_4_26 : decode method_4_code 26 = .ok (.iadd, 1) := by decide +kernel
theorem d_method_4_27 : decode method_4_code 27 = .ok (.if_icmp .ne 6, 3) := by decide +kernel
theorem d_method_4_30 : decode method_4_code 30 = .ok (.bipush 32, 2) := by decide +kernel
theorem d_method_4_32 : decode method_4_code 32 = .ok (.ireturn, 1) := by decide +kernel
theorem d_method_4_33 : decode method_4_code 33 = .ok (.iload_n 0, 1) := by decide +kernel
theorem d_method_4_34 : decode method_4_code 34 = .ok (.iload_n 1, 1) := by decide +kernel
theorem d_method_4_35 : decode method_4_code 35 = .ok (.isub, 1) := by decide +kernel
theorem d_method_4_36 : decode method_4_code 36 = .ok (.iconst 2, 1) := by decide +kernel
theorem d_method_4_37 : decode method_4_code 37 = .ok (.isub, 1) := by decide +kernel
theorem d_method_4_38 : decode method_4_code 38 = .ok (.istore 6, 2) := by decide +kernel
theorem d_method_4_40 : decode method_4_code 40 = .ok (.iload 6, 2) := by decide +kernel
theorem d_method_4_42 : decode method_4_code 42 = .ok (.ifCond .ne 8, 3) := by decide +kernel
theorem d_method_4_45 : decode method_4_code 45 = .ok (.iload 4, 2) := by decide +kernel
theorem d_method_4_47 : decode method_4_code 47 = .ok (.goto 5, 3) := by decide +kernel
theorem d_method_4_52 : decode method_4_code 52 = .ok (.ireturn, 1) := by decide +kernel
theorem d_method_4_50 : decode method_4_code 50 = .ok (.iload 5, 2) := by decide +kernel
set_option maxRecDepth 65536 in
set_option maxHeartbeats 40000000 in
theorem own_exp (l : Launch) (Z : State) (a0 : Array Value) (hw : ∀ d ∈ tables_1, d.before a0 Z = true) (i : Int32) (tl : Int32) (t0 : Int32) (t1 : Int32) (e0 : Int32) (e1 : Int32) (h0 : Heap) (n0 : Nat) (Z0 : n0 ≤ h0.size) (ht0 : ¬ t0 < 0 ∧ ¬ (255 : Int32) < t0) (ht1 : ¬ t1 < 0 ∧ ¬ (255 : Int32) < t1) (he0 : ¬ e0 < 0 ∧ ¬ (255 : Int32) < e0) (he1 : ¬ e1 < 0 ∧ ¬ (255 : Int32) < e1) :
    Jvm.OwnN.Con l Z (⟨"com/example/asterism/asterism/eac/NameFormNotePinLaw", "expected", "(IICCCC)C"⟩ : MethodName) method_4_code 7 (some .char) ({ frames := 0, cells := 0, slots := 0, locals := 0 } : Room) n0 #[(.int i), (.int tl), (.int t0), (.int t1), (.int e0), (.int e1)] h0 (fun v h => v = some (.int (expc i tl t0 t1 e0 e1)) ∧ h0 = h) := by
  refine Jvm.OwnN.Con.intro (plainFor_of_name pn_com_example_asterism_asterism_eac_NameFormNotePinLaw) ?_
  intro p e s m below meth c s₁ hx hby hml hret hnm hown hlk hZ P0
  refine Jvm.OwnN.Aim.cast (by first | (simp [entryFrame, mkF, argsToLocals, Value.category]; done) | rfl : entryFrame m #[(.int i), (.int tl), (.int t0), (.int t1), (.int e0), (.int e1)] 7 = (mkF m 0 #[.val (.int i), .val (.int tl), .val (.int t0), .val (.int t1), .val (.int e0), .val (.int e1), .unset] [])) ?_
  have H := P0.here
  refine Jvm.OwnN.Aim.of (T := s₁) (T' := s₁) (g := (mkF m 0 #[.val (.int i), .val (.int tl), .val (.int t0), .val (.int t1), .val (.int e0), .val (.int e1), .unset] [])) (g' := (mkF m 2 #[.val (.int i), .val (.int tl), .val (.int t0), .val (.int t1), .val (.int e0), .val (.int e1), .unset] [(.int tl), (.int i)])) (fun tgt kt => ?_) ?_
  · show Steps p.tables e below (s₁.setTop (mkF m 0 #[.val (.int i), .val (.int tl), .val (.int t0), .val (.int t1), .val (.int e0), .val (.int e1), .unset] [])) tgt
    refine XS.iloadN H hx rfl (hb hby d_method_4_0) rfl ?_
    show Steps p.tables e below (s₁.setTop (mkF m 1 #[.val (.int i), .val (.int tl), .val (.int t0), .val (.int t1), .val (.int e0), .val (.int e1), .unset] [(.int i)])) tgt
    refine XS.iloadN H hx rfl (hb hby d_method_4_1) rfl ?_
    exact kt
  clear H
  by_cases hc673 : i < tl
  · -- i < tl
    have H := P0.here
    refine Jvm.OwnN.Aim.of (T := s₁) (T' := s₁) (g := (mkF m 2 #[.val (.int i), .val (.int tl), .val (.int t0), .val (.int t1), .val (.int e0), .val (.int e1), .unset] [(.int tl), (.int i)])) (g' := (mkF m 6 #[.val (.int i), .val (.int tl), .val (.int t0), .val (.int t1), .val (.int e0), .val (.int e1), .unset] [(.int i)])) (fun tgt kt => ?_) ?_
    · show Steps p.tables e below (s₁.setTop (mkF m 2 #[.val (.int i), .val (.int tl), .val (.int t0), .val (.int t1), .val (.int e0), .val (.int e1), .unset] [(.int tl), (.int i)])) tgt
      refine XS.icmpNo H hx rfl (hb hby d_method_4_2) rfl (tlt hc673).2.1 ?_
      show Steps p.tables e below (s₁.setTop (mkF m 5 #[.val (.int i), .val (.int tl), .val (.int t0), .val (.int t1), .val (.int e0), .val (.int e1), .unset] [])) tgt
      refine XS.iloadN H hx rfl (hb hby d_method_4_5) rfl ?_
      exact kt
    clear H
    by_cases hc674 : i = (0 : Int32)
    · -- i = (0 : Int32)
      have H := P0.here
      refine Jvm.OwnN.Aim.of (T := s₁) (T' := s₁) (g := (mkF m 6 #[.val (.int i), .val (.int tl), .val (.int t0), .val (.int t1), .val (.int e0), .val (.int e1), .unset] [(.int i)])) (g' := (mkF m 14 #[.val (.int i), .val (.int tl), .val (.int t0), .val (.int t1), .val (.int e0), .val (.int e1), .unset] [(.int t0)])) (fun tgt kt => ?_) ?_
      · show Steps p.tables e below (s₁.setTop (mkF m 6 #[.val (.int i), .val (.int tl), .val (.int t0), .val (.int t1), .val (.int e0), .val (.int e1), .unset] [(.int i)])) tgt
        refine XS.ifNo H hx rfl (hb hby d_method_4_6) rfl ((if0 _ _).trans (teq hc674).2) ?_
        show Steps p.tables e below (s₁.setTop (mkF m 9 #[.val (.int i), .val (.int tl), .val (.int t0), .val (.int t1), .val (.int e0), .val (.int e1), .unset] [])) tgt
        refine XS.iloadN H hx rfl (hb hby d_method_4_9) rfl ?_
        show Steps p.tables e below (s₁.setTop (mkF m 10 #[.val (.int i), .val (.int tl), .val (.int t0), .val (.int t1), .val (.int e0), .val (.int e1), .unset] [(.int t0)])) tgt
        refine XS.goto H hx rfl (pc0 := 10) (pc' := 14) rfl (hb hby d_method_4_10) (by decide) (by decide) ?_
        exact kt
      clear H
      exact Jvm.OwnN.Aim.retN (t := .char) P0 hx hlk hret (by simp) (hb hby d_method_4_14) (by decide) (by decide) ⟨(by rw [expc, if_pos hc673, if_pos hc674]; exact congrArg some (congrArg Value.int (own_narC ht0))), rfl⟩
    · -- not i = (0 : Int32)
      have H := P0.here
      refine Jvm.OwnN.Aim.of (T := s₁) (T' := s₁) (g := (mkF m 6 #[.val (.int i), .val (.int tl), .val (.int t0), .val (.int t1), .val (.int e0), .val (.int e1), .unset] [(.int i)])) (g' := (mkF m 14 #[.val (.int i), .val (.int tl), .val (.int t0), .val (.int t1), .val (.int e0), .val (.int e1), .unset] [(.int t1)])) (fun tgt kt => ?_) ?_
      · show Steps p.tables e below (s₁.setTop (mkF m 6 #[.val (.int i), .val (.int tl), .val (.int t0), .val (.int t1), .val (.int e0), .val (.int e1), .unset] [(.int i)])) tgt
        refine XS.ifYes H hx rfl (pc0 := 6) (pc' := 13) rfl (hb hby d_method_4_6) rfl ((if0 _ _).trans (feq hc674).2) (by decide) (by decide) ?_
        show Steps p.tables e below (s₁.setTop (mkF m 13 #[.val (.int i), .val (.int tl), .val (.int t0), .val (.int t1), .val (.int e0), .val (.int e1), .unset] [])) tgt
        refine XS.iloadN H hx rfl (hb hby d_method_4_13) rfl ?_
        exact kt
      clear H
      exact Jvm.OwnN.Aim.retN (t := .char) P0 hx hlk hret (by simp) (hb hby d_method_4_14) (by decide) (by decide) ⟨(by rw [expc, if_pos hc673, if_neg hc674]; exact congrArg some (congrArg Value.int (own_narC ht1))), rfl⟩
  · -- not i < tl
    have H := P0.here
    refine Jvm.OwnN.Aim.of (T := s₁) (T' := s₁) (g := (mkF m 2 #[.val (.int i), .val (.int tl), .val (.int t0), .val (.int t1), .val (.int e0), .val (.int e1), .unset] [(.int tl), (.int i)])) (g' := (mkF m 17 #[.val (.int i), .val (.int tl), .val (.int t0), .val (.int t1), .val (.int e0), .val (.int e1), .unset] [(.int tl), (.int i)])) (fun tgt kt => ?_) ?_
    · show Steps p.tables e below (s₁.setTop (mkF m 2 #[.val (.int i), .val (.int tl), .val (.int t0), .val (.int t1), .val (.int e0), .val (.int e1), .unset] [(.int tl), (.int i)])) tgt
      refine XS.icmpYes H hx rfl (pc0 := 2) (pc' := 15) rfl (hb hby d_method_4_2) rfl (flt hc673).2.1 (by decide) (by decide) ?_
      show Steps p.tables e below (s₁.setTop (mkF m 15 #[.val (.int i), .val (.int tl), .val (.int t0), .val (.int t1), .val (.int e0), .val (.int e1), .unset] [])) tgt
      refine XS.iloadN H hx rfl (hb hby d_method_4_15) rfl ?_
      show Steps p.tables e below (s₁.setTop (mkF m 16 #[.val (.int i), .val (.int tl), .val (.int t0), .val (.int t1), .val (.int e0), .val (.int e1), .unset] [(.int i)])) tgt
      refine XS.iloadN H hx rfl (hb hby d_method_4_16) rfl ?_
      exact kt
    clear H
    by_cases hc675 : i = tl
    · -- i = tl
      have H := P0.here
      refine Jvm.OwnN.Aim.of (T := s₁) (T' := s₁) (g := (mkF m 17 #[.val (.int i), .val (.int tl), .val (.int t0), .val (.int t1), .val (.int e0), .val (.int e1), .unset] [(.int tl), (.int i)])) (g' := (mkF m 22 #[.val (.int i), .val (.int tl), .val (.int t0), .val (.int t1), .val (.int e0), .val (.int e1), .unset] [(.int (58 : Int32))])) (fun tgt kt => ?_) ?_
      · show Steps p.tables e below (s₁.setTop (mkF m 17 #[.val (.int i), .val (.int tl), .val (.int t0), .val (.int t1), .val (.int e0), .val (.int e1), .unset] [(.int tl), (.int i)])) tgt
        refine XS.icmpNo H hx rfl (hb hby d_method_4_17) rfl (teq hc675).2 ?_
        show Steps p.tables e below (s₁.setTop (mkF m 20 #[.val (.int i), .val (.int tl), .val (.int t0), .val (.int t1), .val (.int e0), .val (.int e1), .unset] [])) tgt
        refine XS.bipush H hx rfl (hb hby d_method_4_20) ?_
        exact kt
      clear H
      exact Jvm.OwnN.Aim.retN (t := .char) P0 hx hlk hret (by simp) (hb hby d_method_4_22) (by decide) (by decide) ⟨(by rw [expc, if_neg hc673, if_pos hc675]; rfl), rfl⟩
    · -- not i = tl
      have H := P0.here
      refine Jvm.OwnN.Aim.of (T := s₁) (T' := s₁) (g := (mkF m 17 #[.val (.int i), .val (.int tl), .val (.int t0), .val (.int t1), .val (.int e0), .val (.int e1), .unset] [(.int tl), (.int i)])) (g' := (mkF m 27 #[.val (.int i), .val (.int tl), .val (.int t0), .val (.int t1), .val (.int e0), .val (.int e1), .unset] [(.int (tl + (1 : Int32))), (.int i)])) (fun tgt kt => ?_) ?_
      · show Steps p.tables e below (s₁.setTop (mkF m 17 #[.val (.int i), .val (.int tl), .val (.int t0), .val (.int t1), .val (.int e0), .val (.int e1), .unset] [(.int tl), (.int i)])) tgt
        refine XS.icmpYes H hx rfl (pc0 := 17) (pc' := 23) rfl (hb hby d_method_4_17) rfl (feq hc675).2 (by decide) (by decide) ?_
        show Steps p.tables e below (s₁.setTop (mkF m 23 #[.val (.int i), .val (.int tl), .val (.int t0), .val (.int t1), .val (.int e0), .val (.int e1), .unset] [])) tgt
        refine XS.iloadN H hx rfl (hb hby d_method_4_23) rfl ?_
        show Steps p.tables e below (s₁.setTop (mkF m 24 #[.val (.int i), .val (.int tl), .val (.int t0), .val (.int t1), .val (.int e0), .val (.int e1), .unset] [(.int i)])) tgt
        refine XS.iloadN H hx rfl (hb hby d_method_4_24) rfl ?_
        show Steps p.tables e below (s₁.setTop (mkF m 25 #[.val (.int i), .val (.int tl), .val (.int t0), .val (.int t1), .val (.int e0), .val (.int e1), .unset] [(.int tl), (.int i)])) tgt
        refine XS.iconst H hx rfl (hb hby d_method_4_25) ?_
        show Steps p.tables e below (s₁.setTop (mkF m 26 #[.val (.int i), .val (.int tl), .val (.int t0), .val (.int t1), .val (.int e0), .val (.int e1), .unset] [(.int (1 : Int32)), (.int tl), (.int i)])) tgt
        refine XS.iadd H hx rfl (hb hby d_method_4_26) rfl ?_
        exact kt
      clear H
      by_cases hc676 : i = (tl + (1 : Int32))
      · -- i = (tl + (1 : Int32))
        have H := P0.here
        refine Jvm.OwnN.Aim.of (T := s₁) (T' := s₁) (g := (mkF m 27 #[.val (.int i), .val (.int tl), .val (.int t0), .val (.int t1), .val (.int e0), .val (.int e1), .unset] [(.int (tl + (1 : Int32))), (.int i)])) (g' := (mkF m 32 #[.val (.int i), .val (.int tl), .val (.int t0), .val (.int t1), .val (.int e0), .val (.int e1), .unset] [(.int (32 : Int32))])) (fun tgt kt => ?_) ?_
        · show Steps p.tables e below (s₁.setTop (mkF m 27 #[.val (.int i), .val (.int tl), .val (.int t0), .val (.int t1), .val (.int e0), .val (.int e1), .unset] [(.int (tl + (1 : Int32))), (.int i)])) tgt
          refine XS.icmpNo H hx rfl (hb hby d_method_4_27) rfl (teq hc676).2 ?_
          show Steps p.tables e below (s₁.setTop (mkF m 30 #[.val (.int i), .val (.int tl), .val (.int t0), .val (.int t1), .val (.int e0), .val (.int e1), .unset] [])) tgt
          refine XS.bipush H hx rfl (hb hby d_method_4_30) ?_
          exact kt
        clear H
        exact Jvm.OwnN.Aim.retN (t := .char) P0 hx hlk hret (by simp) (hb hby d_method_4_32) (by decide) (by decide) ⟨(by rw [expc, if_neg hc673, if_neg hc675, if_pos hc676]; rfl), rfl⟩
      · -- not i = (tl + (1 : Int32))
        have H := P0.here
        refine Jvm.OwnN.Aim.of (T := s₁) (T' := s₁) (g := (mkF m 27 #[.val (.int i), .val (.int tl), .val (.int t0), .val (.int t1), .val (.int e0), .val (.int e1), .unset] [(.int (tl + (1 : Int32))), (.int i)])) (g' := (mkF m 42 #[.val (.int i), .val (.int tl), .val (.int t0), .val (.int t1), .val (.int e0), .val (.int e1), .val (.int ((i - tl) - (2 : Int32)))] [(.int ((i - tl) - (2 : Int32)))])) (fun tgt kt => ?_) ?_
        · show Steps p.tables e below (s₁.setTop (mkF m 27 #[.val (.int i), .val (.int tl), .val (.int t0), .val (.int t1), .val (.int e0), .val (.int e1), .unset] [(.int (tl + (1 : Int32))), (.int i)])) tgt
          refine XS.icmpYes H hx rfl (pc0 := 27) (pc' := 33) rfl (hb hby d_method_4_27) rfl (feq hc676).2 (by decide) (by decide) ?_
          show Steps p.tables e below (s₁.setTop (mkF m 33 #[.val (.int i), .val (.int tl), .val (.int t0), .val (.int t1), .val (.int e0), .val (.int e1), .unset] [])) tgt
          refine XS.iloadN H hx rfl (hb hby d_method_4_33) rfl ?_
          show Steps p.tables e below (s₁.setTop (mkF m 34 #[.val (.int i), .val (.int tl), .val (.int t0), .val (.int t1), .val (.int e0), .val (.int e1), .unset] [(.int i)])) tgt
          refine XS.iloadN H hx rfl (hb hby d_method_4_34) rfl ?_
          show Steps p.tables e below (s₁.setTop (mkF m 35 #[.val (.int i), .val (.int tl), .val (.int t0), .val (.int t1), .val (.int e0), .val (.int e1), .unset] [(.int tl), (.int i)])) tgt
          refine XS.isub H hx rfl (hb hby d_method_4_35) rfl ?_
          show Steps p.tables e below (s₁.setTop (mkF m 36 #[.val (.int i), .val (.int tl), .val (.int t0), .val (.int t1), .val (.int e0), .val (.int e1), .unset] [(.int (i - tl))])) tgt
          refine XS.iconst H hx rfl (hb hby d_method_4_36) ?_
          show Steps p.tables e below (s₁.setTop (mkF m 37 #[.val (.int i), .val (.int tl), .val (.int t0), .val (.int t1), .val (.int e0), .val (.int e1), .unset] [(.int (2 : Int32)), (.int (i - tl))])) tgt
          refine XS.isub H hx rfl (hb hby d_method_4_37) rfl ?_
          show Steps p.tables e below (s₁.setTop (mkF m 38 #[.val (.int i), .val (.int tl), .val (.int t0), .val (.int t1), .val (.int e0), .val (.int e1), .unset] [(.int ((i - tl) - (2 : Int32)))])) tgt
          refine XS.istore H hx rfl (hb hby d_method_4_38) rfl (l' := #[.val (.int i), .val (.int tl), .val (.int t0), .val (.int t1), .val (.int e0), .val (.int e1), .val (.int ((i - tl) - (2 : Int32)))]) rfl ?_
          show Steps p.tables e below (s₁.setTop (mkF m 40 #[.val (.int i), .val (.int tl), .val (.int t0), .val (.int t1), .val (.int e0), .val (.int e1), .val (.int ((i - tl) - (2 : Int32)))] [])) tgt
          refine XS.iload H hx rfl (hb hby d_method_4_40) rfl ?_
          exact kt
        clear H
        by_cases hc677 : ((i - tl) - (2 : Int32)) = (0 : Int32)
        · -- ((i - tl) - (2 : Int32)) = (0 : Int32)
          have H := P0.here
          refine Jvm.OwnN.Aim.of (T := s₁) (T' := s₁) (g := (mkF m 42 #[.val (.int i), .val (.int tl), .val (.int t0), .val (.int t1), .val (.int e0), .val (.int e1), .val (.int ((i - tl) - (2 : Int32)))] [(.int ((i - tl) - (2 : Int32)))])) (g' := (mkF m 52 #[.val (.int i), .val (.int tl), .val (.int t0), .val (.int t1), .val (.int e0), .val (.int e1), .val (.int ((i - tl) - (2 : Int32)))] [(.int e0)])) (fun tgt kt => ?_) ?_
          · show Steps p.tables e below (s₁.setTop (mkF m 42 #[.val (.int i), .val (.int tl), .val (.int t0), .val (.int t1), .val (.int e0), .val (.int e1), .val (.int ((i - tl) - (2 : Int32)))] [(.int ((i - tl) - (2 : Int32)))])) tgt
            refine XS.ifNo H hx rfl (hb hby d_method_4_42) rfl ((if0 _ _).trans (teq hc677).2) ?_
            show Steps p.tables e below (s₁.setTop (mkF m 45 #[.val (.int i), .val (.int tl), .val (.int t0), .val (.int t1), .val (.int e0), .val (.int e1), .val (.int ((i - tl) - (2 : Int32)))] [])) tgt
            refine XS.iload H hx rfl (hb hby d_method_4_45) rfl ?_
            show Steps p.tables e below (s₁.setTop (mkF m 47 #[.val (.int i), .val (.int tl), .val (.int t0), .val (.int t1), .val (.int e0), .val (.int e1), .val (.int ((i - tl) - (2 : Int32)))] [(.int e0)])) tgt
            refine XS.goto H hx rfl (pc0 := 47) (pc' := 52) rfl (hb hby d_method_4_47) (by decide) (by decide) ?_
            exact kt
          clear H
          exact Jvm.OwnN.Aim.retN (t := .char) P0 hx hlk hret (by simp) (hb hby d_method_4_52) (by decide) (by decide) ⟨(by rw [expc, if_neg hc673, if_neg hc675, if_neg hc676, if_pos hc677]; exact congrArg some (congrArg Value.int (own_narC he0))), rfl⟩
        · -- not ((i - tl) - (2 : Int32)) = (0 : Int32)
          have H := P0.here
          refine Jvm.OwnN.Aim.of (T := s₁) (T' := s₁) (g := (mkF m 42 #[.val (.int i), .val (.int tl), .val (.int t0), .val (.int t1), .val (.int e0), .val (.int e1), .val (.int ((i - tl) - (2 : Int32)))] [(.int ((i - tl) - (2 : Int32)))])) (g' := (mkF m 52 #[.val (.int i), .val (.int tl), .val (.int t0), .val (.int t1), .val (.int e0), .val (.int e1), .val (.int ((i - tl) - (2 : Int32)))] [(.int e1)])) (fun tgt kt => ?_) ?_
          · show Steps p.tables e below (s₁.setTop (mkF m 42 #[.val (.int i), .val (.int tl), .val (.int t0), .val (.int t1), .val (.int e0), .val (.int e1), .val (.int ((i - tl) - (2 : Int32)))] [(.int ((i - tl) - (2 : Int32)))])) tgt
            refine XS.ifYes H hx rfl (pc0 := 42) (pc' := 50) rfl (hb hby d_method_4_42) rfl ((if0 _ _).trans (feq hc677).2) (by decide) (by decide) ?_
            show Steps p.tables e below (s₁.setTop (mkF m 50 #[.val (.int i), .val (.int tl), .val (.int t0), .val (.int t1), .val (.int e0), .val (.int e1), .val (.int ((i - tl) - (2 : Int32)))] [])) tgt
            refine XS.iload H hx rfl (hb hby d_method_4_50) rfl ?_
            exact kt
          clear H
          exact Jvm.OwnN.Aim.retN (t := .char) P0 hx hlk hret (by simp) (hb hby d_method_4_52) (by decide) (by decide) ⟨(by rw [expc, if_neg hc673, if_neg hc675, if_neg hc676, if_neg hc677]; exact congrArg some (congrArg Value.int (own_narC he1))), rfl⟩
theorem d_method_5_0 : decode method_5_code 0 = .ok (.iload_n 1, 1) := by decide +kernel
theorem d_method_5_1 : decode method_5_code 1 = .ok (.iload_n 2, 1) := by decide +kernel
theorem d_method_5_2 : decode method_5_code 2 = .ok (.if_icmp .lt 5, 3) := by decide +kernel
theorem d_method_5_7 : decode method_5_code 7 = .ok (.aload_n 0, 1) := by decide +kernel
theorem d_method_5_8 : decode method_5_code 8 = .ok (.iload_n 1, 1) := by decide +kernel
theorem d_method_5_9 : decode method_5_code 9 = .ok (.invokevirtual 41, 3) := by decide +kernel
theorem pd__28I_29C : parseMethodDescriptor "(I)C" = some ⟨[.int], some .char⟩ := by decide +kernel
theorem d_method_5_12 : decode method_5_code 12 = .ok (.iload_n 1, 1) := by decide +kernel
theorem d_method_5_13 : decode method_5_code 13 = .ok (.iload_n 3, 1) := by decide +kernel
theorem d_method_5_14 : decode method_5_code 14 = .ok (.iload 4, 2) := by decide +kernel
theorem d_method_5_16 : decode method_5_code 16 = .ok (.iload 5, 2) := by decide +kernel
theorem d_method_5_18 : decode method_5_code 18 = .ok (.iload 6, 2) := by decide +kernel
theorem d_method_5_20 : decode method_5_code 20 = .ok (.iload 7, 2) := by decide +kernel
theorem d_method_5_22 : decode method_5_code 22 = .ok (.invokestatic 45, 3) := by decide +kernel
theorem pd__28IICCCC_29C : parseMethodDescriptor "(IICCCC)C" = some ⟨[.int, .int, .char, .char, .char, .char], some .char⟩ := by decide +kernel
theorem d_method_5_25 : decode method_5_code 25 = .ok (.if_icmp .ne 7, 3) := by decide +kernel
theorem d_method_5_28 : decode method_5_code 28 = .ok (.iconst 1, 1) := by decide +kernel
theorem d_method_5_29 : decode method_5_code 29 = .ok (.goto 4, 3) := by decide +kernel
theorem d_method_5_33 : decode method_5_code 33 = .ok (.ireturn, 1) := by decide +kernel
theorem d_method_5_32 : decode method_5_code 32 = .ok (.iconst 0, 1) := by decide +kernel
theorem d_method_5_5 : decode method_5_code 5 = .ok (.iconst 1, 1) := by decide +kernel
theorem d_method_5_6 : decode method_5_code 6 = .ok (.ireturn, 1) := by decide +kernel
set_option maxRecDepth 65536 in
set_option maxHeartbeats 40000000 in
theorem own_ok (l : Launch) (Z : State) (a0 : Array Value) (hw : ∀ d ∈ tables_1, d.before a0 Z = true) (y : Addr) (u : Addr) (ku : ClassId) (ds : List Int32) (i : Int32) (n : Int32) (tl : Int32) (t0 : Int32) (t1 : Int32) (e0 : Int32) (e1 : Int32) (h0 : Heap) (n0 : Nat) (Z0 : n0 ≤ h0.size) (F0 : Str Z h0 y u ku ds) (F1 : Old Z n0 h0) (ht0 : ¬ t0 < 0 ∧ ¬ (255 : Int32) < t0) (ht1 : ¬ t1 < 0 ∧ ¬ (255 : Int32) < t1) (he0 : ¬ e0 < 0 ∧ ¬ (255 : Int32) < e0) (he1 : ¬ e1 < 0 ∧ ¬ (255 : Int32) < e1) (hi : ¬ (i < (0 : Int32))) (hn : n = (Int32.ofNat ds.length)) (G : Cmp Z) (GS : Sio Z) :
    Jvm.OwnN.Con l Z (⟨"com/example/asterism/asterism/eac/NameFormNotePinLaw", "ok", "(Ljava/lang/String;IIICCCC)Z"⟩ : MethodName) method_5_code 8 (some .boolean) ({ frames := 4, cells := 0, slots := 0, locals := 53 } : Room) n0 #[(.ref y), (.int i), (.int n), (.int tl), (.int t0), (.int t1), (.int e0), (.int e1)] h0 (fun v h => v = some (.int (okV ds i n tl t0 t1 e0 e1)) ∧ h0 = h) := by
  refine Jvm.OwnN.Con.intro (plainFor_of_name pn_com_example_asterism_asterism_eac_NameFormNotePinLaw) ?_
  intro p e s m below meth c s₁ hx hby hml hret hnm hown hlk hZ P0
  refine Jvm.OwnN.Aim.cast (by first | (simp [entryFrame, mkF, argsToLocals, Value.category]; done) | rfl : entryFrame m #[(.ref y), (.int i), (.int n), (.int tl), (.int t0), (.int t1), (.int e0), (.int e1)] 8 = (mkF m 0 #[.val (.ref y), .val (.int i), .val (.int n), .val (.int tl), .val (.int t0), .val (.int t1), .val (.int e0), .val (.int e1)] [])) ?_
  have H := P0.here
  refine Jvm.OwnN.Aim.of (T := s₁) (T' := s₁) (g := (mkF m 0 #[.val (.ref y), .val (.int i), .val (.int n), .val (.int tl), .val (.int t0), .val (.int t1), .val (.int e0), .val (.int e1)] [])) (g' := (mkF m 2 #[.val (.ref y), .val (.int i), .val (.int n), .val (.int tl), .val (.int t0), .val (.int t1), .val (.int e0), .val (.int e1)] [(.int n), (.int i)])) (fun tgt kt => ?_) ?_
  · show Steps p.tables e below (s₁.setTop (mkF m 0 #[.val (.ref y), .val (.int i), .val (.int n), .val (.int tl), .val (.int t0), .val (.int t1), .val (.int e0), .val (.int e1)] [])) tgt
    refine XS.iloadN H hx rfl (hb hby d_method_5_0) rfl ?_
    show Steps p.tables e below (s₁.setTop (mkF m 1 #[.val (.ref y), .val (.int i), .val (.int n), .val (.int tl), .val (.int t0), .val (.int t1), .val (.int e0), .val (.int e1)] [(.int i)])) tgt
    refine XS.iloadN H hx rfl (hb hby d_method_5_1) rfl ?_
    exact kt
  clear H
  by_cases hc678 : i < n
  · -- i < n
    have h1_ : i < (Int32.ofNat ds.length) := hn ▸ hc678
    have H := P0.here
    refine Jvm.OwnN.Aim.of (T := s₁) (T' := s₁) (g := (mkF m 2 #[.val (.ref y), .val (.int i), .val (.int n), .val (.int tl), .val (.int t0), .val (.int t1), .val (.int e0), .val (.int e1)] [(.int n), (.int i)])) (g' := (mkF m 9 #[.val (.ref y), .val (.int i), .val (.int n), .val (.int tl), .val (.int t0), .val (.int t1), .val (.int e0), .val (.int e1)] [(.int i), (.ref y)])) (fun tgt kt => ?_) ?_
    · show Steps p.tables e below (s₁.setTop (mkF m 2 #[.val (.ref y), .val (.int i), .val (.int n), .val (.int tl), .val (.int t0), .val (.int t1), .val (.int e0), .val (.int e1)] [(.int n), (.int i)])) tgt
      refine XS.icmpYes H hx rfl (pc0 := 2) (pc' := 7) rfl (hb hby d_method_5_2) rfl (tlt hc678).1 (by decide) (by decide) ?_
      show Steps p.tables e below (s₁.setTop (mkF m 7 #[.val (.ref y), .val (.int i), .val (.int n), .val (.int tl), .val (.int t0), .val (.int t1), .val (.int e0), .val (.int e1)] [])) tgt
      refine XS.aloadN H hx rfl (hb hby d_method_5_7) rfl rfl ?_
      show Steps p.tables e below (s₁.setTop (mkF m 8 #[.val (.ref y), .val (.int i), .val (.int n), .val (.int tl), .val (.int t0), .val (.int t1), .val (.int e0), .val (.int e1)] [(.ref y)])) tgt
      refine XS.iloadN H hx rfl (hb hby d_method_5_8) rfl ?_
      exact kt
    clear H
    refine Jvm.OwnN.Aim.callV (pc := 9) (Ls := #[.val (.ref y), .val (.int i), .val (.int n), .val (.int tl), .val (.int t0), .val (.int t1), .val (.int e0), .val (.int e1)]) (argsL := [(.int i)]) (rest := []) (y := (⟨"java/lang/String", "charAt", "(I)C"⟩ : MethodName)) (z := (⟨"java/lang/String", "charAt", "(I)C"⟩ : MethodName)) P0 hx hZ hml hown (hw _ (List.mem_of_getElem? (i := 173) rfl)) (hw _ (List.mem_of_getElem? (i := 174) rfl)) (notFace_of_selects (args := #[]) (mvT hZ (hw _ (List.mem_of_getElem? (i := 176) rfl)))) (hw _ (List.mem_of_getElem? (i := 176) rfl)) (hw _ (List.mem_of_getElem? (i := 175) rfl)) (by decide) F0.1 (Jvm.OwnN.Con.back (W := 0) (own_charAt l Z a0 hw y u ku ds i h0 n0 Z0 F0 F1 hi h1_ G GS) hZ (hw _ (List.mem_of_getElem? (i := 177) rfl)) (hw _ (List.mem_of_getElem? (i := 6) rfl)) (by decide) (by decide)) rfl pd__28I_29C rfl (Nat.le_of_eq rfl) (hb hby d_method_5_9) (by decide) (by decide) ?_
    intro T679 h680 v683 P681 hQ682
    obtain ⟨rfl, rfl⟩ := hQ682
    show Jvm.OwnN.Aim p e below s _ _ n0 _ T679 (mkF m 12 #[.val (.ref y), .val (.int i), .val (.int n), .val (.int tl), .val (.int t0), .val (.int t1), .val (.int e0), .val (.int e1)] [(.int (ds.getD i.toNatClampNeg 0))])
    have H := P681.here
    refine Jvm.OwnN.Aim.of (T := T679) (T' := T679) (g := (mkF m 12 #[.val (.ref y), .val (.int i), .val (.int n), .val (.int tl), .val (.int t0), .val (.int t1), .val (.int e0), .val (.int e1)] [(.int (ds.getD i.toNatClampNeg 0))])) (g' := (mkF m 22 #[.val (.ref y), .val (.int i), .val (.int n), .val (.int tl), .val (.int t0), .val (.int t1), .val (.int e0), .val (.int e1)] [(.int e1), (.int e0), (.int t1), (.int t0), (.int tl), (.int i), (.int (ds.getD i.toNatClampNeg 0))])) (fun tgt kt => ?_) ?_
    · show Steps p.tables e below (T679.setTop (mkF m 12 #[.val (.ref y), .val (.int i), .val (.int n), .val (.int tl), .val (.int t0), .val (.int t1), .val (.int e0), .val (.int e1)] [(.int (ds.getD i.toNatClampNeg 0))])) tgt
      refine XS.iloadN H hx rfl (hb hby d_method_5_12) rfl ?_
      show Steps p.tables e below (T679.setTop (mkF m 13 #[.val (.ref y), .val (.int i), .val (.int n), .val (.int tl), .val (.int t0), .val (.int t1), .val (.int e0), .val (.int e1)] [(.int i), (.int (ds.getD i.toNatClampNeg 0))])) tgt
      refine XS.iloadN H hx rfl (hb hby d_method_5_13) rfl ?_
      show Steps p.tables e below (T679.setTop (mkF m 14 #[.val (.ref y), .val (.int i), .val (.int n), .val (.int tl), .val (.int t0), .val (.int t1), .val (.int e0), .val (.int e1)] [(.int tl), (.int i), (.int (ds.getD i.toNatClampNeg 0))])) tgt
      refine XS.iload H hx rfl (hb hby d_method_5_14) rfl ?_
      show Steps p.tables e below (T679.setTop (mkF m 16 #[.val (.ref y), .val (.int i), .val (.int n), .val (.int tl), .val (.int t0), .val (.int t1), .val (.int e0), .val (.int e1)] [(.int t0), (.int tl), (.int i), (.int (ds.getD i.toNatClampNeg 0))])) tgt
      refine XS.iload H hx rfl (hb hby d_method_5_16) rfl ?_
      show Steps p.tables e below (T679.setTop (mkF m 18 #[.val (.ref y), .val (.int i), .val (.int n), .val (.int tl), .val (.int t0), .val (.int t1), .val (.int e0), .val (.int e1)] [(.int t1), (.int t0), (.int tl), (.int i), (.int (ds.getD i.toNatClampNeg 0))])) tgt
      refine XS.iload H hx rfl (hb hby d_method_5_18) rfl ?_
      show Steps p.tables e below (T679.setTop (mkF m 20 #[.val (.ref y), .val (.int i), .val (.int n), .val (.int tl), .val (.int t0), .val (.int t1), .val (.int e0), .val (.int e1)] [(.int e0), (.int t1), (.int t0), (.int tl), (.int i), (.int (ds.getD i.toNatClampNeg 0))])) tgt
      refine XS.iload H hx rfl (hb hby d_method_5_20) rfl ?_
      exact kt
    clear H
    refine Jvm.OwnN.Aim.callS (pc := 22) (Ls := #[.val (.ref y), .val (.int i), .val (.int n), .val (.int tl), .val (.int t0), .val (.int t1), .val (.int e0), .val (.int e1)]) (argsL := [(.int i), (.int tl), (.int t0), (.int t1), (.int e0), (.int e1)]) (rest := [(.int (ds.getD i.toNatClampNeg 0))]) P681 hx hZ hml hown (hw _ (List.mem_of_getElem? (i := 195) rfl)) (hw _ (List.mem_of_getElem? (i := 196) rfl)) (hw _ (List.mem_of_getElem? (i := 2) rfl)) (hw _ (List.mem_of_getElem? (i := 197) rfl)) (by decide) (Jvm.OwnN.Con.back (W := 1) (own_exp l Z a0 hw i tl t0 t1 e0 e1 h0 n0 Z0 ht0 ht1 he0 he1) hZ (hw _ (List.mem_of_getElem? (i := 197) rfl)) (hw _ (List.mem_of_getElem? (i := 2) rfl)) (by decide) (by decide)) rfl pd__28IICCCC_29C rfl (Nat.le_of_eq rfl) (hb hby d_method_5_22) (by decide) (by decide) ?_
    intro T686 h687 v690 P688 hQ689
    obtain ⟨rfl, rfl⟩ := hQ689
    show Jvm.OwnN.Aim p e below s _ _ n0 _ T686 (mkF m 25 #[.val (.ref y), .val (.int i), .val (.int n), .val (.int tl), .val (.int t0), .val (.int t1), .val (.int e0), .val (.int e1)] [(.int (expc i tl t0 t1 e0 e1)), (.int (ds.getD i.toNatClampNeg 0))])
    by_cases hc693 : (ds.getD i.toNatClampNeg 0) = (expc i tl t0 t1 e0 e1)
    · -- (ds.getD i.toNatClampNeg 0) = (expc i tl t0 t1 e0 e1)
      have H := P688.here
      refine Jvm.OwnN.Aim.of (T := T686) (T' := T686) (g := (mkF m 25 #[.val (.ref y), .val (.int i), .val (.int n), .val (.int tl), .val (.int t0), .val (.int t1), .val (.int e0), .val (.int e1)] [(.int (expc i tl t0 t1 e0 e1)), (.int (ds.getD i.toNatClampNeg 0))])) (g' := (mkF m 33 #[.val (.ref y), .val (.int i), .val (.int n), .val (.int tl), .val (.int t0), .val (.int t1), .val (.int e0), .val (.int e1)] [(.int (1 : Int32))])) (fun tgt kt => ?_) ?_
      · show Steps p.tables e below (T686.setTop (mkF m 25 #[.val (.ref y), .val (.int i), .val (.int n), .val (.int tl), .val (.int t0), .val (.int t1), .val (.int e0), .val (.int e1)] [(.int (expc i tl t0 t1 e0 e1)), (.int (ds.getD i.toNatClampNeg 0))])) tgt
        refine XS.icmpNo H hx rfl (hb hby d_method_5_25) rfl (teq hc693).2 ?_
        show Steps p.tables e below (T686.setTop (mkF m 28 #[.val (.ref y), .val (.int i), .val (.int n), .val (.int tl), .val (.int t0), .val (.int t1), .val (.int e0), .val (.int e1)] [])) tgt
        refine XS.iconst H hx rfl (hb hby d_method_5_28) ?_
        show Steps p.tables e below (T686.setTop (mkF m 29 #[.val (.ref y), .val (.int i), .val (.int n), .val (.int tl), .val (.int t0), .val (.int t1), .val (.int e0), .val (.int e1)] [(.int (1 : Int32))])) tgt
        refine XS.goto H hx rfl (pc0 := 29) (pc' := 33) rfl (hb hby d_method_5_29) (by decide) (by decide) ?_
        exact kt
      clear H
      exact Jvm.OwnN.Aim.retN (t := .boolean) P688 hx hlk hret (by simp) (hb hby d_method_5_33) (by decide) (by decide) ⟨(by rw [okV, if_pos hc678, if_pos hc693]; rfl), rfl⟩
    · -- not (ds.getD i.toNatClampNeg 0) = (expc i tl t0 t1 e0 e1)
      have H := P688.here
      refine Jvm.OwnN.Aim.of (T := T686) (T' := T686) (g := (mkF m 25 #[.val (.ref y), .val (.int i), .val (.int n), .val (.int tl), .val (.int t0), .val (.int t1), .val (.int e0), .val (.int e1)] [(.int (expc i tl t0 t1 e0 e1)), (.int (ds.getD i.toNatClampNeg 0))])) (g' := (mkF m 33 #[.val (.ref y), .val (.int i), .val (.int n), .val (.int tl), .val (.int t0), .val (.int t1), .val (.int e0), .val (.int e1)] [(.int (0 : Int32))])) (fun tgt kt => ?_) ?_
      · show Steps p.tables e below (T686.setTop (mkF m 25 #[.val (.ref y), .val (.int i), .val (.int n), .val (.int tl), .val (.int t0), .val (.int t1), .val (.int e0), .val (.int e1)] [(.int (expc i tl t0 t1 e0 e1)), (.int (ds.getD i.toNatClampNeg 0))])) tgt
        refine XS.icmpYes H hx rfl (pc0 := 25) (pc' := 32) rfl (hb hby d_method_5_25) rfl (feq hc693).2 (by decide) (by decide) ?_
        show Steps p.tables e below (T686.setTop (mkF m 32 #[.val (.ref y), .val (.int i), .val (.int n), .val (.int tl), .val (.int t0), .val (.int t1), .val (.int e0), .val (.int e1)] [])) tgt
        refine XS.iconst H hx rfl (hb hby d_method_5_32) ?_
        exact kt
      clear H
      exact Jvm.OwnN.Aim.retN (t := .boolean) P688 hx hlk hret (by simp) (hb hby d_method_5_33) (by decide) (by decide) ⟨(by rw [okV, if_pos hc678, if_neg hc693]; rfl), rfl⟩
  · -- not i < n
    have H := P0.here
    refine Jvm.OwnN.Aim.of (T := s₁) (T' := s₁) (g := (mkF m 2 #[.val (.ref y), .val (.int i), .val (.int n), .val (.int tl), .val (.int t0), .val (.int t1), .val (.int e0), .val (.int e1)] [(.int n), (.int i)])) (g' := (mkF m 6 #[.val (.ref y), .val (.int i), .val (.int n), .val (.int tl), .val (.int t0), .val (.int t1), .val (.int e0), .val (.int e1)] [(.int (1 : Int32))])) (fun tgt kt => ?_) ?_
    · show Steps p.tables e below (s₁.setTop (mkF m 2 #[.val (.ref y), .val (.int i), .val (.int n), .val (.int tl), .val (.int t0), .val (.int t1), .val (.int e0), .val (.int e1)] [(.int n), (.int i)])) tgt
      refine XS.icmpNo H hx rfl (hb hby d_method_5_2) rfl (flt hc678).1 ?_
      show Steps p.tables e below (s₁.setTop (mkF m 5 #[.val (.ref y), .val (.int i), .val (.int n), .val (.int tl), .val (.int t0), .val (.int t1), .val (.int e0), .val (.int e1)] [])) tgt
      refine XS.iconst H hx rfl (hb hby d_method_5_5) ?_
      exact kt
    clear H
    exact Jvm.OwnN.Aim.retN (t := .boolean) P0 hx hlk hret (by simp) (hb hby d_method_5_6) (by decide) (by decide) ⟨(by rw [okV, if_neg hc678]; rfl), rfl⟩
theorem own_mod3 : ∀ k : Fin 4, ((Int32.ofNat k.val) % 3 = 0 ∨ (Int32.ofNat k.val) % 3 = 1 ∨ (Int32.ofNat k.val) % 3 = 2) := by decide +kernel
theorem own_and3 (x : Int32) : ∃ k : Fin 4, x &&& (3 : Int32) = Int32.ofNat k.val := by
  have h := c_mask x 3 2 (by decide) (by decide)
  have e : ((2 ^ 2 : Nat) : Int) = 4 := by decide
  rw [e] at h
  refine ⟨⟨(x &&& 3).toInt.toNat, by omega⟩, ?_⟩
  apply Int32.toInt_inj.mp
  rw [(own_clamp (n := (x &&& 3).toInt.toNat) (by omega)).2.2]
  omega
theorem own_three (x : Int32) : (x &&& (3 : Int32)) % 3 = 0 ∨ (x &&& (3 : Int32)) % 3 = 1 ∨ (x &&& (3 : Int32)) % 3 = 2 := by
  obtain ⟨k, hk⟩ := own_and3 x
  rw [hk]; exact own_mod3 k
theorem own_n {tl el t0 t1 e0 e1 : Int32} (h1 : tl = 0 ∨ tl = 1 ∨ tl = 2) (h2 : el = 0 ∨ el = 1 ∨ el = 2) : ((tl + (2 : Int32)) + el) = Int32.ofNat (mkc tl t0 t1 ++ [58, 32] ++ mkc el e0 e1).length := by
  rcases h1 with rfl | rfl | rfl <;> rcases h2 with rfl | rfl | rfl <;> rfl
theorem own_okV {tl el t0 t1 e0 e1 : Int32} (h1 : tl = 0 ∨ tl = 1 ∨ tl = 2) (h2 : el = 0 ∨ el = 1 ∨ el = 2) : ∀ i ∈ ([0, 1, 2, 3, 4, 5] : List Int32), okV (mkc tl t0 t1 ++ [58, 32] ++ mkc el e0 e1) i ((tl + (2 : Int32)) + el) tl t0 t1 e0 e1 = 1 := by
  intro i hi
  simp only [List.mem_cons, List.not_mem_nil, or_false] at hi
  rcases h1 with rfl | rfl | rfl <;> rcases h2 with rfl | rfl | rfl <;> rcases hi with rfl | rfl | rfl | rfl | rfl | rfl <;> first | rfl | exact (if_pos (by decide)).trans (if_pos rfl)
theorem pd__28ICC_29Ljava_2flang_2fString_3b : parseMethodDescriptor "(ICC)Ljava/lang/String;" = some ⟨[.int, .char, .char], some (.object "java/lang/String")⟩ := by decide +kernel
theorem pd__28Ljava_2flang_2fString_3bLjava_2flang_2fString_3b_29V : parseMethodDescriptor "(Ljava/lang/String;Ljava/lang/String;)V" = some ⟨[(.object "java/lang/String"), (.object "java/lang/String")], none⟩ := by decide +kernel
theorem pd__28Ljava_2flang_2fString_3bIIICCCC_29Z : parseMethodDescriptor "(Ljava/lang/String;IIICCCC)Z" = some ⟨[(.object "java/lang/String"), .int, .int, .int, .char, .char, .char, .char], some .boolean⟩ := by decide +kernel
set_option maxRecDepth 65536 in
set_option maxHeartbeats 40000000 in
theorem own_law (l : Launch) (Z : State) (a0 : Array Value) (hw : ∀ d ∈ tables_1, d.before a0 Z = true) (p1 : Int32) (p2 : Int32) (p3 : Int32) (h0 : Heap) (n0 : Nat) (Z0 : n0 ≤ h0.size) (Lc0 : List Addr) (F0 : Old Z n0 h0) (G : Cmp Z) (GS : Sio Z) (GL : ∀ c ∈ LC.1, Jvm.OwnW.LitZ Z c) :
    Jvm.OwnW.Con l Z LC x code maxLocals ret room_1 n0 #[(.int p1), (.int p2), (.int p3)] h0 Lc0 (fun v h Lc => v = some (.int (1 : Int32)) ∧ Keep h0 h []) := by
  refine Jvm.OwnW.Con.intro (plainFor_of_name pn_com_example_asterism_asterism_eac_NameFormNotePinLaw) ?_
  intro p e s m below meth c s₁ hx hby hml hret hnm hown hlk hZ hs0 P0
  refine Jvm.OwnW.Aim.cast (by first | (simp [entryFrame, mkF, argsToLocals, Value.category, maxLocals]; done) | rfl : entryFrame m #[(.int p1), (.int p2), (.int p3)] maxLocals = (mkF m 0 #[.val (.int p1), .val (.int p2), .val (.int p3), .unset, .unset, .unset, .unset, .unset, .unset, .unset, .unset, .unset, .unset] [])) ?_
  have H := P0.here
  refine Jvm.OwnW.Aim.of (T := s₁) (T' := s₁) (g := (mkF m 0 #[.val (.int p1), .val (.int p2), .val (.int p3), .unset, .unset, .unset, .unset, .unset, .unset, .unset, .unset, .unset, .unset] [])) (g' := (mkF m 53 #[.val (.int p1), .val (.int p2), .val (.int p3), .val (.int ((p3 &&& (3 : Int32)) % (3 : Int32))), .val (.int ((((p3.toUInt32 >>> ((2 : Int32) &&& 31).toUInt32).toInt32) &&& (3 : Int32)) % (3 : Int32))), .val (.int ((p1 &&& (255 : Int32)).toUInt32.toUInt16.toUInt32.toInt32)), .val (.int ((((p1.toUInt32 >>> ((8 : Int32) &&& 31).toUInt32).toInt32) &&& (255 : Int32)).toUInt32.toUInt16.toUInt32.toInt32)), .val (.int ((p2 &&& (255 : Int32)).toUInt32.toUInt16.toUInt32.toInt32)), .val (.int ((((p2.toUInt32 >>> ((8 : Int32) &&& 31).toUInt32).toInt32) &&& (255 : Int32)).toUInt32.toUInt16.toUInt32.toInt32)), .unset, .unset, .unset, .unset] [])) (fun tgt kt => ?_) ?_
  · show Steps p.tables e below (s₁.setTop (mkF m 0 #[.val (.int p1), .val (.int p2), .val (.int p3), .unset, .unset, .unset, .unset, .unset, .unset, .unset, .unset, .unset, .unset] [])) tgt
    refine XS.iloadN H hx rfl (hb hby at_0) rfl ?_
    show Steps p.tables e below (s₁.setTop (mkF m 1 #[.val (.int p1), .val (.int p2), .val (.int p3), .unset, .unset, .unset, .unset, .unset, .unset, .unset, .unset, .unset, .unset] [(.int p3)])) tgt
    refine XS.iconst H hx rfl (hb hby at_1) ?_
    show Steps p.tables e below (s₁.setTop (mkF m 2 #[.val (.int p1), .val (.int p2), .val (.int p3), .unset, .unset, .unset, .unset, .unset, .unset, .unset, .unset, .unset, .unset] [(.int (3 : Int32)), (.int p3)])) tgt
    refine XS.iand H hx rfl (hb hby at_2) rfl ?_
    show Steps p.tables e below (s₁.setTop (mkF m 3 #[.val (.int p1), .val (.int p2), .val (.int p3), .unset, .unset, .unset, .unset, .unset, .unset, .unset, .unset, .unset, .unset] [(.int (p3 &&& (3 : Int32)))])) tgt
    refine XS.iconst H hx rfl (hb hby at_3) ?_
    show Steps p.tables e below (s₁.setTop (mkF m 4 #[.val (.int p1), .val (.int p2), .val (.int p3), .unset, .unset, .unset, .unset, .unset, .unset, .unset, .unset, .unset, .unset] [(.int (3 : Int32)), (.int (p3 &&& (3 : Int32)))])) tgt
    refine Jvm.OwnN.own_irem H hx rfl (hb hby at_4) rfl (by decide) ?_
    show Steps p.tables e below (s₁.setTop (mkF m 5 #[.val (.int p1), .val (.int p2), .val (.int p3), .unset, .unset, .unset, .unset, .unset, .unset, .unset, .unset, .unset, .unset] [(.int ((p3 &&& (3 : Int32)) % (3 : Int32)))])) tgt
    refine XS.istoreN H hx rfl (hb hby at_5) rfl (l' := #[.val (.int p1), .val (.int p2), .val (.int p3), .val (.int ((p3 &&& (3 : Int32)) % (3 : Int32))), .unset, .unset, .unset, .unset, .unset, .unset, .unset, .unset, .unset]) rfl ?_
    show Steps p.tables e below (s₁.setTop (mkF m 6 #[.val (.int p1), .val (.int p2), .val (.int p3), .val (.int ((p3 &&& (3 : Int32)) % (3 : Int32))), .unset, .unset, .unset, .unset, .unset, .unset, .unset, .unset, .unset] [])) tgt
    refine XS.iloadN H hx rfl (hb hby at_6) rfl ?_
    show Steps p.tables e below (s₁.setTop (mkF m 7 #[.val (.int p1), .val (.int p2), .val (.int p3), .val (.int ((p3 &&& (3 : Int32)) % (3 : Int32))), .unset, .unset, .unset, .unset, .unset, .unset, .unset, .unset, .unset] [(.int p3)])) tgt
    refine XS.iconst H hx rfl (hb hby at_7) ?_
    show Steps p.tables e below (s₁.setTop (mkF m 8 #[.val (.int p1), .val (.int p2), .val (.int p3), .val (.int ((p3 &&& (3 : Int32)) % (3 : Int32))), .unset, .unset, .unset, .unset, .unset, .unset, .unset, .unset, .unset] [(.int (2 : Int32)), (.int p3)])) tgt
    refine XS.iushr H hx rfl (hb hby at_8) rfl ?_
    show Steps p.tables e below (s₁.setTop (mkF m 9 #[.val (.int p1), .val (.int p2), .val (.int p3), .val (.int ((p3 &&& (3 : Int32)) % (3 : Int32))), .unset, .unset, .unset, .unset, .unset, .unset, .unset, .unset, .unset] [(.int ((p3.toUInt32 >>> ((2 : Int32) &&& 31).toUInt32).toInt32))])) tgt
    refine XS.iconst H hx rfl (hb hby at_9) ?_
    show Steps p.tables e below (s₁.setTop (mkF m 10 #[.val (.int p1), .val (.int p2), .val (.int p3), .val (.int ((p3 &&& (3 : Int32)) % (3 : Int32))), .unset, .unset, .unset, .unset, .unset, .unset, .unset, .unset, .unset] [(.int (3 : Int32)), (.int ((p3.toUInt32 >>> ((2 : Int32) &&& 31).toUInt32).toInt32))])) tgt
    refine XS.iand H hx rfl (hb hby at_10) rfl ?_
    show Steps p.tables e below (s₁.setTop (mkF m 11 #[.val (.int p1), .val (.int p2), .val (.int p3), .val (.int ((p3 &&& (3 : Int32)) % (3 : Int32))), .unset, .unset, .unset, .unset, .unset, .unset, .unset, .unset, .unset] [(.int (((p3.toUInt32 >>> ((2 : Int32) &&& 31).toUInt32).toInt32) &&& (3 : Int32)))])) tgt
    refine XS.iconst H hx rfl (hb hby at_11) ?_
    show Steps p.tables e below (s₁.setTop (mkF m 12 #[.val (.int p1), .val (.int p2), .val (.int p3), .val (.int ((p3 &&& (3 : Int32)) % (3 : Int32))), .unset, .unset, .unset, .unset, .unset, .unset, .unset, .unset, .unset] [(.int (3 : Int32)), (.int (((p3.toUInt32 >>> ((2 : Int32) &&& 31).toUInt32).toInt32) &&& (3 : Int32)))])) tgt
    refine Jvm.OwnN.own_irem H hx rfl (hb hby at_12) rfl (by decide) ?_
    show Steps p.tables e below (s₁.setTop (mkF m 13 #[.val (.int p1), .val (.int p2), .val (.int p3), .val (.int ((p3 &&& (3 : Int32)) % (3 : Int32))), .unset, .unset, .unset, .unset, .unset, .unset, .unset, .unset, .unset] [(.int ((((p3.toUInt32 >>> ((2 : Int32) &&& 31).toUInt32).toInt32) &&& (3 : Int32)) % (3 : Int32)))])) tgt
    refine XS.istore H hx rfl (hb hby at_13) rfl (l' := #[.val (.int p1), .val (.int p2), .val (.int p3), .val (.int ((p3 &&& (3 : Int32)) % (3 : Int32))), .val (.int ((((p3.toUInt32 >>> ((2 : Int32) &&& 31).toUInt32).toInt32) &&& (3 : Int32)) % (3 : Int32))), .unset, .unset, .unset, .unset, .unset, .unset, .unset, .unset]) rfl ?_
    show Steps p.tables e below (s₁.setTop (mkF m 15 #[.val (.int p1), .val (.int p2), .val (.int p3), .val (.int ((p3 &&& (3 : Int32)) % (3 : Int32))), .val (.int ((((p3.toUInt32 >>> ((2 : Int32) &&& 31).toUInt32).toInt32) &&& (3 : Int32)) % (3 : Int32))), .unset, .unset, .unset, .unset, .unset, .unset, .unset, .unset] [])) tgt
    refine XS.iloadN H hx rfl (hb hby at_15) rfl ?_
    show Steps p.tables e below (s₁.setTop (mkF m 16 #[.val (.int p1), .val (.int p2), .val (.int p3), .val (.int ((p3 &&& (3 : Int32)) % (3 : Int32))), .val (.int ((((p3.toUInt32 >>> ((2 : Int32) &&& 31).toUInt32).toInt32) &&& (3 : Int32)) % (3 : Int32))), .unset, .unset, .unset, .unset, .unset, .unset, .unset, .unset] [(.int p1)])) tgt
    refine XS.sipush H hx rfl (hb hby at_16) ?_
    show Steps p.tables e below (s₁.setTop (mkF m 19 #[.val (.int p1), .val (.int p2), .val (.int p3), .val (.int ((p3 &&& (3 : Int32)) % (3 : Int32))), .val (.int ((((p3.toUInt32 >>> ((2 : Int32) &&& 31).toUInt32).toInt32) &&& (3 : Int32)) % (3 : Int32))), .unset, .unset, .unset, .unset, .unset, .unset, .unset, .unset] [(.int (255 : Int32)), (.int p1)])) tgt
    refine XS.iand H hx rfl (hb hby at_19) rfl ?_
    show Steps p.tables e below (s₁.setTop (mkF m 20 #[.val (.int p1), .val (.int p2), .val (.int p3), .val (.int ((p3 &&& (3 : Int32)) % (3 : Int32))), .val (.int ((((p3.toUInt32 >>> ((2 : Int32) &&& 31).toUInt32).toInt32) &&& (3 : Int32)) % (3 : Int32))), .unset, .unset, .unset, .unset, .unset, .unset, .unset, .unset] [(.int (p1 &&& (255 : Int32)))])) tgt
    refine XS.i2c H hx rfl (hb hby at_20) rfl ?_
    show Steps p.tables e below (s₁.setTop (mkF m 21 #[.val (.int p1), .val (.int p2), .val (.int p3), .val (.int ((p3 &&& (3 : Int32)) % (3 : Int32))), .val (.int ((((p3.toUInt32 >>> ((2 : Int32) &&& 31).toUInt32).toInt32) &&& (3 : Int32)) % (3 : Int32))), .unset, .unset, .unset, .unset, .unset, .unset, .unset, .unset] [(.int ((p1 &&& (255 : Int32)).toUInt32.toUInt16.toUInt32.toInt32))])) tgt
    refine XS.istore H hx rfl (hb hby at_21) rfl (l' := #[.val (.int p1), .val (.int p2), .val (.int p3), .val (.int ((p3 &&& (3 : Int32)) % (3 : Int32))), .val (.int ((((p3.toUInt32 >>> ((2 : Int32) &&& 31).toUInt32).toInt32) &&& (3 : Int32)) % (3 : Int32))), .val (.int ((p1 &&& (255 : Int32)).toUInt32.toUInt16.toUInt32.toInt32)), .unset, .unset, .unset, .unset, .unset, .unset, .unset]) rfl ?_
    show Steps p.tables e below (s₁.setTop (mkF m 23 #[.val (.int p1), .val (.int p2), .val (.int p3), .val (.int ((p3 &&& (3 : Int32)) % (3 : Int32))), .val (.int ((((p3.toUInt32 >>> ((2 : Int32) &&& 31).toUInt32).toInt32) &&& (3 : Int32)) % (3 : Int32))), .val (.int ((p1 &&& (255 : Int32)).toUInt32.toUInt16.toUInt32.toInt32)), .unset, .unset, .unset, .unset, .unset, .unset, .unset] [])) tgt
    refine XS.iloadN H hx rfl (hb hby at_23) rfl ?_
    show Steps p.tables e below (s₁.setTop (mkF m 24 #[.val (.int p1), .val (.int p2), .val (.int p3), .val (.int ((p3 &&& (3 : Int32)) % (3 : Int32))), .val (.int ((((p3.toUInt32 >>> ((2 : Int32) &&& 31).toUInt32).toInt32) &&& (3 : Int32)) % (3 : Int32))), .val (.int ((p1 &&& (255 : Int32)).toUInt32.toUInt16.toUInt32.toInt32)), .unset, .unset, .unset, .unset, .unset, .unset, .unset] [(.int p1)])) tgt
    refine XS.bipush H hx rfl (hb hby at_24) ?_
    show Steps p.tables e below (s₁.setTop (mkF m 26 #[.val (.int p1), .val (.int p2), .val (.int p3), .val (.int ((p3 &&& (3 : Int32)) % (3 : Int32))), .val (.int ((((p3.toUInt32 >>> ((2 : Int32) &&& 31).toUInt32).toInt32) &&& (3 : Int32)) % (3 : Int32))), .val (.int ((p1 &&& (255 : Int32)).toUInt32.toUInt16.toUInt32.toInt32)), .unset, .unset, .unset, .unset, .unset, .unset, .unset] [(.int (8 : Int32)), (.int p1)])) tgt
    refine XS.iushr H hx rfl (hb hby at_26) rfl ?_
    show Steps p.tables e below (s₁.setTop (mkF m 27 #[.val (.int p1), .val (.int p2), .val (.int p3), .val (.int ((p3 &&& (3 : Int32)) % (3 : Int32))), .val (.int ((((p3.toUInt32 >>> ((2 : Int32) &&& 31).toUInt32).toInt32) &&& (3 : Int32)) % (3 : Int32))), .val (.int ((p1 &&& (255 : Int32)).toUInt32.toUInt16.toUInt32.toInt32)), .unset, .unset, .unset, .unset, .unset, .unset, .unset] [(.int ((p1.toUInt32 >>> ((8 : Int32) &&& 31).toUInt32).toInt32))])) tgt
    refine XS.sipush H hx rfl (hb hby at_27) ?_
    show Steps p.tables e below (s₁.setTop (mkF m 30 #[.val (.int p1), .val (.int p2), .val (.int p3), .val (.int ((p3 &&& (3 : Int32)) % (3 : Int32))), .val (.int ((((p3.toUInt32 >>> ((2 : Int32) &&& 31).toUInt32).toInt32) &&& (3 : Int32)) % (3 : Int32))), .val (.int ((p1 &&& (255 : Int32)).toUInt32.toUInt16.toUInt32.toInt32)), .unset, .unset, .unset, .unset, .unset, .unset, .unset] [(.int (255 : Int32)), (.int ((p1.toUInt32 >>> ((8 : Int32) &&& 31).toUInt32).toInt32))])) tgt
    refine XS.iand H hx rfl (hb hby at_30) rfl ?_
    show Steps p.tables e below (s₁.setTop (mkF m 31 #[.val (.int p1), .val (.int p2), .val (.int p3), .val (.int ((p3 &&& (3 : Int32)) % (3 : Int32))), .val (.int ((((p3.toUInt32 >>> ((2 : Int32) &&& 31).toUInt32).toInt32) &&& (3 : Int32)) % (3 : Int32))), .val (.int ((p1 &&& (255 : Int32)).toUInt32.toUInt16.toUInt32.toInt32)), .unset, .unset, .unset, .unset, .unset, .unset, .unset] [(.int (((p1.toUInt32 >>> ((8 : Int32) &&& 31).toUInt32).toInt32) &&& (255 : Int32)))])) tgt
    refine XS.i2c H hx rfl (hb hby at_31) rfl ?_
    show Steps p.tables e below (s₁.setTop (mkF m 32 #[.val (.int p1), .val (.int p2), .val (.int p3), .val (.int ((p3 &&& (3 : Int32)) % (3 : Int32))), .val (.int ((((p3.toUInt32 >>> ((2 : Int32) &&& 31).toUInt32).toInt32) &&& (3 : Int32)) % (3 : Int32))), .val (.int ((p1 &&& (255 : Int32)).toUInt32.toUInt16.toUInt32.toInt32)), .unset, .unset, .unset, .unset, .unset, .unset, .unset] [(.int ((((p1.toUInt32 >>> ((8 : Int32) &&& 31).toUInt32).toInt32) &&& (255 : Int32)).toUInt32.toUInt16.toUInt32.toInt32))])) tgt
    refine XS.istore H hx rfl (hb hby at_32) rfl (l' := #[.val (.int p1), .val (.int p2), .val (.int p3), .val (.int ((p3 &&& (3 : Int32)) % (3 : Int32))), .val (.int ((((p3.toUInt32 >>> ((2 : Int32) &&& 31).toUInt32).toInt32) &&& (3 : Int32)) % (3 : Int32))), .val (.int ((p1 &&& (255 : Int32)).toUInt32.toUInt16.toUInt32.toInt32)), .val (.int ((((p1.toUInt32 >>> ((8 : Int32) &&& 31).toUInt32).toInt32) &&& (255 : Int32)).toUInt32.toUInt16.toUInt32.toInt32)), .unset, .unset, .unset, .unset, .unset, .unset]) rfl ?_
    show Steps p.tables e below (s₁.setTop (mkF m 34 #[.val (.int p1), .val (.int p2), .val (.int p3), .val (.int ((p3 &&& (3 : Int32)) % (3 : Int32))), .val (.int ((((p3.toUInt32 >>> ((2 : Int32) &&& 31).toUInt32).toInt32) &&& (3 : Int32)) % (3 : Int32))), .val (.int ((p1 &&& (255 : Int32)).toUInt32.toUInt16.toUInt32.toInt32)), .val (.int ((((p1.toUInt32 >>> ((8 : Int32) &&& 31).toUInt32).toInt32) &&& (255 : Int32)).toUInt32.toUInt16.toUInt32.toInt32)), .unset, .unset, .unset, .unset, .unset, .unset] [])) tgt
    refine XS.iloadN H hx rfl (hb hby at_34) rfl ?_
    show Steps p.tables e below (s₁.setTop (mkF m 35 #[.val (.int p1), .val (.int p2), .val (.int p3), .val (.int ((p3 &&& (3 : Int32)) % (3 : Int32))), .val (.int ((((p3.toUInt32 >>> ((2 : Int32) &&& 31).toUInt32).toInt32) &&& (3 : Int32)) % (3 : Int32))), .val (.int ((p1 &&& (255 : Int32)).toUInt32.toUInt16.toUInt32.toInt32)), .val (.int ((((p1.toUInt32 >>> ((8 : Int32) &&& 31).toUInt32).toInt32) &&& (255 : Int32)).toUInt32.toUInt16.toUInt32.toInt32)), .unset, .unset, .unset, .unset, .unset, .unset] [(.int p2)])) tgt
    refine XS.sipush H hx rfl (hb hby at_35) ?_
    show Steps p.tables e below (s₁.setTop (mkF m 38 #[.val (.int p1), .val (.int p2), .val (.int p3), .val (.int ((p3 &&& (3 : Int32)) % (3 : Int32))), .val (.int ((((p3.toUInt32 >>> ((2 : Int32) &&& 31).toUInt32).toInt32) &&& (3 : Int32)) % (3 : Int32))), .val (.int ((p1 &&& (255 : Int32)).toUInt32.toUInt16.toUInt32.toInt32)), .val (.int ((((p1.toUInt32 >>> ((8 : Int32) &&& 31).toUInt32).toInt32) &&& (255 : Int32)).toUInt32.toUInt16.toUInt32.toInt32)), .unset, .unset, .unset, .unset, .unset, .unset] [(.int (255 : Int32)), (.int p2)])) tgt
    refine XS.iand H hx rfl (hb hby at_38) rfl ?_
    show Steps p.tables e below (s₁.setTop (mkF m 39 #[.val (.int p1), .val (.int p2), .val (.int p3), .val (.int ((p3 &&& (3 : Int32)) % (3 : Int32))), .val (.int ((((p3.toUInt32 >>> ((2 : Int32) &&& 31).toUInt32).toInt32) &&& (3 : Int32)) % (3 : Int32))), .val (.int ((p1 &&& (255 : Int32)).toUInt32.toUInt16.toUInt32.toInt32)), .val (.int ((((p1.toUInt32 >>> ((8 : Int32) &&& 31).toUInt32).toInt32) &&& (255 : Int32)).toUInt32.toUInt16.toUInt32.toInt32)), .unset, .unset, .unset, .unset, .unset, .unset] [(.int (p2 &&& (255 : Int32)))])) tgt
    refine XS.i2c H hx rfl (hb hby at_39) rfl ?_
    show Steps p.tables e below (s₁.setTop (mkF m 40 #[.val (.int p1), .val (.int p2), .val (.int p3), .val (.int ((p3 &&& (3 : Int32)) % (3 : Int32))), .val (.int ((((p3.toUInt32 >>> ((2 : Int32) &&& 31).toUInt32).toInt32) &&& (3 : Int32)) % (3 : Int32))), .val (.int ((p1 &&& (255 : Int32)).toUInt32.toUInt16.toUInt32.toInt32)), .val (.int ((((p1.toUInt32 >>> ((8 : Int32) &&& 31).toUInt32).toInt32) &&& (255 : Int32)).toUInt32.toUInt16.toUInt32.toInt32)), .unset, .unset, .unset, .unset, .unset, .unset] [(.int ((p2 &&& (255 : Int32)).toUInt32.toUInt16.toUInt32.toInt32))])) tgt
    refine XS.istore H hx rfl (hb hby at_40) rfl (l' := #[.val (.int p1), .val (.int p2), .val (.int p3), .val (.int ((p3 &&& (3 : Int32)) % (3 : Int32))), .val (.int ((((p3.toUInt32 >>> ((2 : Int32) &&& 31).toUInt32).toInt32) &&& (3 : Int32)) % (3 : Int32))), .val (.int ((p1 &&& (255 : Int32)).toUInt32.toUInt16.toUInt32.toInt32)), .val (.int ((((p1.toUInt32 >>> ((8 : Int32) &&& 31).toUInt32).toInt32) &&& (255 : Int32)).toUInt32.toUInt16.toUInt32.toInt32)), .val (.int ((p2 &&& (255 : Int32)).toUInt32.toUInt16.toUInt32.toInt32)), .unset, .unset, .unset, .unset, .unset]) rfl ?_
    show Steps p.tables e below (s₁.setTop (mkF m 42 #[.val (.int p1), .val (.int p2), .val (.int p3), .val (.int ((p3 &&& (3 : Int32)) % (3 : Int32))), .val (.int ((((p3.toUInt32 >>> ((2 : Int32) &&& 31).toUInt32).toInt32) &&& (3 : Int32)) % (3 : Int32))), .val (.int ((p1 &&& (255 : Int32)).toUInt32.toUInt16.toUInt32.toInt32)), .val (.int ((((p1.toUInt32 >>> ((8 : Int32) &&& 31).toUInt32).toInt32) &&& (255 : Int32)).toUInt32.toUInt16.toUInt32.toInt32)), .val (.int ((p2 &&& (255 : Int32)).toUInt32.toUInt16.toUInt32.toInt32)), .unset, .unset, .unset, .unset, .unset] [])) tgt
    refine XS.iloadN H hx rfl (hb hby at_42) rfl ?_
    show Steps p.tables e below (s₁.setTop (mkF m 43 #[.val (.int p1), .val (.int p2), .val (.int p3), .val (.int ((p3 &&& (3 : Int32)) % (3 : Int32))), .val (.int ((((p3.toUInt32 >>> ((2 : Int32) &&& 31).toUInt32).toInt32) &&& (3 : Int32)) % (3 : Int32))), .val (.int ((p1 &&& (255 : Int32)).toUInt32.toUInt16.toUInt32.toInt32)), .val (.int ((((p1.toUInt32 >>> ((8 : Int32) &&& 31).toUInt32).toInt32) &&& (255 : Int32)).toUInt32.toUInt16.toUInt32.toInt32)), .val (.int ((p2 &&& (255 : Int32)).toUInt32.toUInt16.toUInt32.toInt32)), .unset, .unset, .unset, .unset, .unset] [(.int p2)])) tgt
    refine XS.bipush H hx rfl (hb hby at_43) ?_
    show Steps p.tables e below (s₁.setTop (mkF m 45 #[.val (.int p1), .val (.int p2), .val (.int p3), .val (.int ((p3 &&& (3 : Int32)) % (3 : Int32))), .val (.int ((((p3.toUInt32 >>> ((2 : Int32) &&& 31).toUInt32).toInt32) &&& (3 : Int32)) % (3 : Int32))), .val (.int ((p1 &&& (255 : Int32)).toUInt32.toUInt16.toUInt32.toInt32)), .val (.int ((((p1.toUInt32 >>> ((8 : Int32) &&& 31).toUInt32).toInt32) &&& (255 : Int32)).toUInt32.toUInt16.toUInt32.toInt32)), .val (.int ((p2 &&& (255 : Int32)).toUInt32.toUInt16.toUInt32.toInt32)), .unset, .unset, .unset, .unset, .unset] [(.int (8 : Int32)), (.int p2)])) tgt
    refine XS.iushr H hx rfl (hb hby at_45) rfl ?_
    show Steps p.tables e below (s₁.setTop (mkF m 46 #[.val (.int p1), .val (.int p2), .val (.int p3), .val (.int ((p3 &&& (3 : Int32)) % (3 : Int32))), .val (.int ((((p3.toUInt32 >>> ((2 : Int32) &&& 31).toUInt32).toInt32) &&& (3 : Int32)) % (3 : Int32))), .val (.int ((p1 &&& (255 : Int32)).toUInt32.toUInt16.toUInt32.toInt32)), .val (.int ((((p1.toUInt32 >>> ((8 : Int32) &&& 31).toUInt32).toInt32) &&& (255 : Int32)).toUInt32.toUInt16.toUInt32.toInt32)), .val (.int ((p2 &&& (255 : Int32)).toUInt32.toUInt16.toUInt32.toInt32)), .unset, .unset, .unset, .unset, .unset] [(.int ((p2.toUInt32 >>> ((8 : Int32) &&& 31).toUInt32).toInt32))])) tgt
    refine XS.sipush H hx rfl (hb hby at_46) ?_
    show Steps p.tables e below (s₁.setTop (mkF m 49 #[.val (.int p1), .val (.int p2), .val (.int p3), .val (.int ((p3 &&& (3 : Int32)) % (3 : Int32))), .val (.int ((((p3.toUInt32 >>> ((2 : Int32) &&& 31).toUInt32).toInt32) &&& (3 : Int32)) % (3 : Int32))), .val (.int ((p1 &&& (255 : Int32)).toUInt32.toUInt16.toUInt32.toInt32)), .val (.int ((((p1.toUInt32 >>> ((8 : Int32) &&& 31).toUInt32).toInt32) &&& (255 : Int32)).toUInt32.toUInt16.toUInt32.toInt32)), .val (.int ((p2 &&& (255 : Int32)).toUInt32.toUInt16.toUInt32.toInt32)), .unset, .unset, .unset, .unset, .unset] [(.int (255 : Int32)), (.int ((p2.toUInt32 >>> ((8 : Int32) &&& 31).toUInt32).toInt32))])) tgt
    refine XS.iand H hx rfl (hb hby at_49) rfl ?_
    show Steps p.tables e below (s₁.setTop (mkF m 50 #[.val (.int p1), .val (.int p2), .val (.int p3), .val (.int ((p3 &&& (3 : Int32)) % (3 : Int32))), .val (.int ((((p3.toUInt32 >>> ((2 : Int32) &&& 31).toUInt32).toInt32) &&& (3 : Int32)) % (3 : Int32))), .val (.int ((p1 &&& (255 : Int32)).toUInt32.toUInt16.toUInt32.toInt32)), .val (.int ((((p1.toUInt32 >>> ((8 : Int32) &&& 31).toUInt32).toInt32) &&& (255 : Int32)).toUInt32.toUInt16.toUInt32.toInt32)), .val (.int ((p2 &&& (255 : Int32)).toUInt32.toUInt16.toUInt32.toInt32)), .unset, .unset, .unset, .unset, .unset] [(.int (((p2.toUInt32 >>> ((8 : Int32) &&& 31).toUInt32).toInt32) &&& (255 : Int32)))])) tgt
    refine XS.i2c H hx rfl (hb hby at_50) rfl ?_
    show Steps p.tables e below (s₁.setTop (mkF m 51 #[.val (.int p1), .val (.int p2), .val (.int p3), .val (.int ((p3 &&& (3 : Int32)) % (3 : Int32))), .val (.int ((((p3.toUInt32 >>> ((2 : Int32) &&& 31).toUInt32).toInt32) &&& (3 : Int32)) % (3 : Int32))), .val (.int ((p1 &&& (255 : Int32)).toUInt32.toUInt16.toUInt32.toInt32)), .val (.int ((((p1.toUInt32 >>> ((8 : Int32) &&& 31).toUInt32).toInt32) &&& (255 : Int32)).toUInt32.toUInt16.toUInt32.toInt32)), .val (.int ((p2 &&& (255 : Int32)).toUInt32.toUInt16.toUInt32.toInt32)), .unset, .unset, .unset, .unset, .unset] [(.int ((((p2.toUInt32 >>> ((8 : Int32) &&& 31).toUInt32).toInt32) &&& (255 : Int32)).toUInt32.toUInt16.toUInt32.toInt32))])) tgt
    refine XS.istore H hx rfl (hb hby at_51) rfl (l' := #[.val (.int p1), .val (.int p2), .val (.int p3), .val (.int ((p3 &&& (3 : Int32)) % (3 : Int32))), .val (.int ((((p3.toUInt32 >>> ((2 : Int32) &&& 31).toUInt32).toInt32) &&& (3 : Int32)) % (3 : Int32))), .val (.int ((p1 &&& (255 : Int32)).toUInt32.toUInt16.toUInt32.toInt32)), .val (.int ((((p1.toUInt32 >>> ((8 : Int32) &&& 31).toUInt32).toInt32) &&& (255 : Int32)).toUInt32.toUInt16.toUInt32.toInt32)), .val (.int ((p2 &&& (255 : Int32)).toUInt32.toUInt16.toUInt32.toInt32)), .val (.int ((((p2.toUInt32 >>> ((8 : Int32) &&& 31).toUInt32).toInt32) &&& (255 : Int32)).toUInt32.toUInt16.toUInt32.toInt32)), .unset, .unset, .unset, .unset]) rfl ?_
    exact kt
  clear H
  have htl := own_three p3
  have hel := own_three ((p3.toUInt32 >>> ((2 : Int32) &&& 31).toUInt32).toInt32)
  have H := P0.here
  refine Jvm.OwnW.Aim.of (T := s₁) (T' := s₁) (g := (mkF m 53 #[.val (.int p1), .val (.int p2), .val (.int p3), .val (.int ((p3 &&& (3 : Int32)) % (3 : Int32))), .val (.int ((((p3.toUInt32 >>> ((2 : Int32) &&& 31).toUInt32).toInt32) &&& (3 : Int32)) % (3 : Int32))), .val (.int ((p1 &&& (255 : Int32)).toUInt32.toUInt16.toUInt32.toInt32)), .val (.int ((((p1.toUInt32 >>> ((8 : Int32) &&& 31).toUInt32).toInt32) &&& (255 : Int32)).toUInt32.toUInt16.toUInt32.toInt32)), .val (.int ((p2 &&& (255 : Int32)).toUInt32.toUInt16.toUInt32.toInt32)), .val (.int ((((p2.toUInt32 >>> ((8 : Int32) &&& 31).toUInt32).toInt32) &&& (255 : Int32)).toUInt32.toUInt16.toUInt32.toInt32)), .unset, .unset, .unset, .unset] [])) (g' := (mkF m 58 #[.val (.int p1), .val (.int p2), .val (.int p3), .val (.int ((p3 &&& (3 : Int32)) % (3 : Int32))), .val (.int ((((p3.toUInt32 >>> ((2 : Int32) &&& 31).toUInt32).toInt32) &&& (3 : Int32)) % (3 : Int32))), .val (.int ((p1 &&& (255 : Int32)).toUInt32.toUInt16.toUInt32.toInt32)), .val (.int ((((p1.toUInt32 >>> ((8 : Int32) &&& 31).toUInt32).toInt32) &&& (255 : Int32)).toUInt32.toUInt16.toUInt32.toInt32)), .val (.int ((p2 &&& (255 : Int32)).toUInt32.toUInt16.toUInt32.toInt32)), .val (.int ((((p2.toUInt32 >>> ((8 : Int32) &&& 31).toUInt32).toInt32) &&& (255 : Int32)).toUInt32.toUInt16.toUInt32.toInt32)), .unset, .unset, .unset, .unset] [(.int ((((p1.toUInt32 >>> ((8 : Int32) &&& 31).toUInt32).toInt32) &&& (255 : Int32)).toUInt32.toUInt16.toUInt32.toInt32)), (.int ((p1 &&& (255 : Int32)).toUInt32.toUInt16.toUInt32.toInt32)), (.int ((p3 &&& (3 : Int32)) % (3 : Int32)))])) (fun tgt kt => ?_) ?_
  · show Steps p.tables e below (s₁.setTop (mkF m 53 #[.val (.int p1), .val (.int p2), .val (.int p3), .val (.int ((p3 &&& (3 : Int32)) % (3 : Int32))), .val (.int ((((p3.toUInt32 >>> ((2 : Int32) &&& 31).toUInt32).toInt32) &&& (3 : Int32)) % (3 : Int32))), .val (.int ((p1 &&& (255 : Int32)).toUInt32.toUInt16.toUInt32.toInt32)), .val (.int ((((p1.toUInt32 >>> ((8 : Int32) &&& 31).toUInt32).toInt32) &&& (255 : Int32)).toUInt32.toUInt16.toUInt32.toInt32)), .val (.int ((p2 &&& (255 : Int32)).toUInt32.toUInt16.toUInt32.toInt32)), .val (.int ((((p2.toUInt32 >>> ((8 : Int32) &&& 31).toUInt32).toInt32) &&& (255 : Int32)).toUInt32.toUInt16.toUInt32.toInt32)), .unset, .unset, .unset, .unset] [])) tgt
    refine XS.iloadN H hx rfl (hb hby at_53) rfl ?_
    show Steps p.tables e below (s₁.setTop (mkF m 54 #[.val (.int p1), .val (.int p2), .val (.int p3), .val (.int ((p3 &&& (3 : Int32)) % (3 : Int32))), .val (.int ((((p3.toUInt32 >>> ((2 : Int32) &&& 31).toUInt32).toInt32) &&& (3 : Int32)) % (3 : Int32))), .val (.int ((p1 &&& (255 : Int32)).toUInt32.toUInt16.toUInt32.toInt32)), .val (.int ((((p1.toUInt32 >>> ((8 : Int32) &&& 31).toUInt32).toInt32) &&& (255 : Int32)).toUInt32.toUInt16.toUInt32.toInt32)), .val (.int ((p2 &&& (255 : Int32)).toUInt32.toUInt16.toUInt32.toInt32)), .val (.int ((((p2.toUInt32 >>> ((8 : Int32) &&& 31).toUInt32).toInt32) &&& (255 : Int32)).toUInt32.toUInt16.toUInt32.toInt32)), .unset, .unset, .unset, .unset] [(.int ((p3 &&& (3 : Int32)) % (3 : Int32)))])) tgt
    refine XS.iload H hx rfl (hb hby at_54) rfl ?_
    show Steps p.tables e below (s₁.setTop (mkF m 56 #[.val (.int p1), .val (.int p2), .val (.int p3), .val (.int ((p3 &&& (3 : Int32)) % (3 : Int32))), .val (.int ((((p3.toUInt32 >>> ((2 : Int32) &&& 31).toUInt32).toInt32) &&& (3 : Int32)) % (3 : Int32))), .val (.int ((p1 &&& (255 : Int32)).toUInt32.toUInt16.toUInt32.toInt32)), .val (.int ((((p1.toUInt32 >>> ((8 : Int32) &&& 31).toUInt32).toInt32) &&& (255 : Int32)).toUInt32.toUInt16.toUInt32.toInt32)), .val (.int ((p2 &&& (255 : Int32)).toUInt32.toUInt16.toUInt32.toInt32)), .val (.int ((((p2.toUInt32 >>> ((8 : Int32) &&& 31).toUInt32).toInt32) &&& (255 : Int32)).toUInt32.toUInt16.toUInt32.toInt32)), .unset, .unset, .unset, .unset] [(.int ((p1 &&& (255 : Int32)).toUInt32.toUInt16.toUInt32.toInt32)), (.int ((p3 &&& (3 : Int32)) % (3 : Int32)))])) tgt
    refine XS.iload H hx rfl (hb hby at_56) rfl ?_
    exact kt
  clear H
  refine Jvm.OwnW.Aim.callSW (pc := 58) (Ls := #[.val (.int p1), .val (.int p2), .val (.int p3), .val (.int ((p3 &&& (3 : Int32)) % (3 : Int32))), .val (.int ((((p3.toUInt32 >>> ((2 : Int32) &&& 31).toUInt32).toInt32) &&& (3 : Int32)) % (3 : Int32))), .val (.int ((p1 &&& (255 : Int32)).toUInt32.toUInt16.toUInt32.toInt32)), .val (.int ((((p1.toUInt32 >>> ((8 : Int32) &&& 31).toUInt32).toInt32) &&& (255 : Int32)).toUInt32.toUInt16.toUInt32.toInt32)), .val (.int ((p2 &&& (255 : Int32)).toUInt32.toUInt16.toUInt32.toInt32)), .val (.int ((((p2.toUInt32 >>> ((8 : Int32) &&& 31).toUInt32).toInt32) &&& (255 : Int32)).toUInt32.toUInt16.toUInt32.toInt32)), .unset, .unset, .unset, .unset]) (argsL := [(.int ((p3 &&& (3 : Int32)) % (3 : Int32))), (.int ((p1 &&& (255 : Int32)).toUInt32.toUInt16.toUInt32.toInt32)), (.int ((((p1.toUInt32 >>> ((8 : Int32) &&& 31).toUInt32).toInt32) &&& (255 : Int32)).toUInt32.toUInt16.toUInt32.toInt32))]) (rest := []) P0 hx hZ hml hown (hw _ (List.mem_of_getElem? (i := 0) rfl)) (hw _ (List.mem_of_getElem? (i := 1) rfl)) (hw _ (List.mem_of_getElem? (i := 2) rfl)) (hw _ (List.mem_of_getElem? (i := 3) rfl)) (by decide) (Jvm.OwnW.Con.back (W := 0) (own_make l Z a0 hw ((p3 &&& (3 : Int32)) % (3 : Int32)) ((p1 &&& (255 : Int32)).toUInt32.toUInt16.toUInt32.toInt32) ((((p1.toUInt32 >>> ((8 : Int32) &&& 31).toUInt32).toInt32) &&& (255 : Int32)).toUInt32.toUInt16.toUInt32.toInt32) h0 n0 Z0 Lc0 F0 (own_char _) (own_char _) G GL) (hw _ (List.mem_of_getElem? (i := 3) rfl)) (hw _ (List.mem_of_getElem? (i := 2) rfl)) (by decide) (by decide)) rfl pd__28ICC_29Ljava_2flang_2fString_3b rfl (Nat.le_of_eq rfl) (hb hby at_58) (by decide) (by decide) ?_
  intro T694 h695 v698 Lc699 P696 rel700 hQ697
  obtain ⟨sx_701, t_702, kb_703, rfl, K704, g705, g706, F707⟩ := hQ697
  have K708 : Keep h0 h695 [] := (Keep.refl h0 []).trans K704 all0
  have lc709 : Jvm.OwnW.Grow Lc0 Lc699 h0.size := (Jvm.OwnW.Grow.refl _ _).trans rel700 (Nat.le_refl _)
  show Jvm.OwnW.Aim p e below s _ _ n0 _ T694 (mkF m 61 #[.val (.int p1), .val (.int p2), .val (.int p3), .val (.int ((p3 &&& (3 : Int32)) % (3 : Int32))), .val (.int ((((p3.toUInt32 >>> ((2 : Int32) &&& 31).toUInt32).toInt32) &&& (3 : Int32)) % (3 : Int32))), .val (.int ((p1 &&& (255 : Int32)).toUInt32.toUInt16.toUInt32.toInt32)), .val (.int ((((p1.toUInt32 >>> ((8 : Int32) &&& 31).toUInt32).toInt32) &&& (255 : Int32)).toUInt32.toUInt16.toUInt32.toInt32)), .val (.int ((p2 &&& (255 : Int32)).toUInt32.toUInt16.toUInt32.toInt32)), .val (.int ((((p2.toUInt32 >>> ((8 : Int32) &&& 31).toUInt32).toInt32) &&& (255 : Int32)).toUInt32.toUInt16.toUInt32.toInt32)), .unset, .unset, .unset, .unset] [(.ref sx_701)])
  have H := P696.here
  refine Jvm.OwnW.Aim.of (T := T694) (T' := T694) (g := (mkF m 61 #[.val (.int p1), .val (.int p2), .val (.int p3), .val (.int ((p3 &&& (3 : Int32)) % (3 : Int32))), .val (.int ((((p3.toUInt32 >>> ((2 : Int32) &&& 31).toUInt32).toInt32) &&& (3 : Int32)) % (3 : Int32))), .val (.int ((p1 &&& (255 : Int32)).toUInt32.toUInt16.toUInt32.toInt32)), .val (.int ((((p1.toUInt32 >>> ((8 : Int32) &&& 31).toUInt32).toInt32) &&& (255 : Int32)).toUInt32.toUInt16.toUInt32.toInt32)), .val (.int ((p2 &&& (255 : Int32)).toUInt32.toUInt16.toUInt32.toInt32)), .val (.int ((((p2.toUInt32 >>> ((8 : Int32) &&& 31).toUInt32).toInt32) &&& (255 : Int32)).toUInt32.toUInt16.toUInt32.toInt32)), .unset, .unset, .unset, .unset] [(.ref sx_701)])) (g' := (mkF m 69 #[.val (.int p1), .val (.int p2), .val (.int p3), .val (.int ((p3 &&& (3 : Int32)) % (3 : Int32))), .val (.int ((((p3.toUInt32 >>> ((2 : Int32) &&& 31).toUInt32).toInt32) &&& (3 : Int32)) % (3 : Int32))), .val (.int ((p1 &&& (255 : Int32)).toUInt32.toUInt16.toUInt32.toInt32)), .val (.int ((((p1.toUInt32 >>> ((8 : Int32) &&& 31).toUInt32).toInt32) &&& (255 : Int32)).toUInt32.toUInt16.toUInt32.toInt32)), .val (.int ((p2 &&& (255 : Int32)).toUInt32.toUInt16.toUInt32.toInt32)), .val (.int ((((p2.toUInt32 >>> ((8 : Int32) &&& 31).toUInt32).toInt32) &&& (255 : Int32)).toUInt32.toUInt16.toUInt32.toInt32)), .val (.ref sx_701), .unset, .unset, .unset] [(.int ((((p2.toUInt32 >>> ((8 : Int32) &&& 31).toUInt32).toInt32) &&& (255 : Int32)).toUInt32.toUInt16.toUInt32.toInt32)), (.int ((p2 &&& (255 : Int32)).toUInt32.toUInt16.toUInt32.toInt32)), (.int ((((p3.toUInt32 >>> ((2 : Int32) &&& 31).toUInt32).toInt32) &&& (3 : Int32)) % (3 : Int32)))])) (fun tgt kt => ?_) ?_
  · show Steps p.tables e below (T694.setTop (mkF m 61 #[.val (.int p1), .val (.int p2), .val (.int p3), .val (.int ((p3 &&& (3 : Int32)) % (3 : Int32))), .val (.int ((((p3.toUInt32 >>> ((2 : Int32) &&& 31).toUInt32).toInt32) &&& (3 : Int32)) % (3 : Int32))), .val (.int ((p1 &&& (255 : Int32)).toUInt32.toUInt16.toUInt32.toInt32)), .val (.int ((((p1.toUInt32 >>> ((8 : Int32) &&& 31).toUInt32).toInt32) &&& (255 : Int32)).toUInt32.toUInt16.toUInt32.toInt32)), .val (.int ((p2 &&& (255 : Int32)).toUInt32.toUInt16.toUInt32.toInt32)), .val (.int ((((p2.toUInt32 >>> ((8 : Int32) &&& 31).toUInt32).toInt32) &&& (255 : Int32)).toUInt32.toUInt16.toUInt32.toInt32)), .unset, .unset, .unset, .unset] [(.ref sx_701)])) tgt
    refine XS.astore H hx rfl (hb hby at_61) rfl rfl (l' := #[.val (.int p1), .val (.int p2), .val (.int p3), .val (.int ((p3 &&& (3 : Int32)) % (3 : Int32))), .val (.int ((((p3.toUInt32 >>> ((2 : Int32) &&& 31).toUInt32).toInt32) &&& (3 : Int32)) % (3 : Int32))), .val (.int ((p1 &&& (255 : Int32)).toUInt32.toUInt16.toUInt32.toInt32)), .val (.int ((((p1.toUInt32 >>> ((8 : Int32) &&& 31).toUInt32).toInt32) &&& (255 : Int32)).toUInt32.toUInt16.toUInt32.toInt32)), .val (.int ((p2 &&& (255 : Int32)).toUInt32.toUInt16.toUInt32.toInt32)), .val (.int ((((p2.toUInt32 >>> ((8 : Int32) &&& 31).toUInt32).toInt32) &&& (255 : Int32)).toUInt32.toUInt16.toUInt32.toInt32)), .val (.ref sx_701), .unset, .unset, .unset]) rfl ?_
    show Steps p.tables e below (T694.setTop (mkF m 63 #[.val (.int p1), .val (.int p2), .val (.int p3), .val (.int ((p3 &&& (3 : Int32)) % (3 : Int32))), .val (.int ((((p3.toUInt32 >>> ((2 : Int32) &&& 31).toUInt32).toInt32) &&& (3 : Int32)) % (3 : Int32))), .val (.int ((p1 &&& (255 : Int32)).toUInt32.toUInt16.toUInt32.toInt32)), .val (.int ((((p1.toUInt32 >>> ((8 : Int32) &&& 31).toUInt32).toInt32) &&& (255 : Int32)).toUInt32.toUInt16.toUInt32.toInt32)), .val (.int ((p2 &&& (255 : Int32)).toUInt32.toUInt16.toUInt32.toInt32)), .val (.int ((((p2.toUInt32 >>> ((8 : Int32) &&& 31).toUInt32).toInt32) &&& (255 : Int32)).toUInt32.toUInt16.toUInt32.toInt32)), .val (.ref sx_701), .unset, .unset, .unset] [])) tgt
    refine XS.iload H hx rfl (hb hby at_63) rfl ?_
    show Steps p.tables e below (T694.setTop (mkF m 65 #[.val (.int p1), .val (.int p2), .val (.int p3), .val (.int ((p3 &&& (3 : Int32)) % (3 : Int32))), .val (.int ((((p3.toUInt32 >>> ((2 : Int32) &&& 31).toUInt32).toInt32) &&& (3 : Int32)) % (3 : Int32))), .val (.int ((p1 &&& (255 : Int32)).toUInt32.toUInt16.toUInt32.toInt32)), .val (.int ((((p1.toUInt32 >>> ((8 : Int32) &&& 31).toUInt32).toInt32) &&& (255 : Int32)).toUInt32.toUInt16.toUInt32.toInt32)), .val (.int ((p2 &&& (255 : Int32)).toUInt32.toUInt16.toUInt32.toInt32)), .val (.int ((((p2.toUInt32 >>> ((8 : Int32) &&& 31).toUInt32).toInt32) &&& (255 : Int32)).toUInt32.toUInt16.toUInt32.toInt32)), .val (.ref sx_701), .unset, .unset, .unset] [(.int ((((p3.toUInt32 >>> ((2 : Int32) &&& 31).toUInt32).toInt32) &&& (3 : Int32)) % (3 : Int32)))])) tgt
    refine XS.iload H hx rfl (hb hby at_65) rfl ?_
    show Steps p.tables e below (T694.setTop (mkF m 67 #[.val (.int p1), .val (.int p2), .val (.int p3), .val (.int ((p3 &&& (3 : Int32)) % (3 : Int32))), .val (.int ((((p3.toUInt32 >>> ((2 : Int32) &&& 31).toUInt32).toInt32) &&& (3 : Int32)) % (3 : Int32))), .val (.int ((p1 &&& (255 : Int32)).toUInt32.toUInt16.toUInt32.toInt32)), .val (.int ((((p1.toUInt32 >>> ((8 : Int32) &&& 31).toUInt32).toInt32) &&& (255 : Int32)).toUInt32.toUInt16.toUInt32.toInt32)), .val (.int ((p2 &&& (255 : Int32)).toUInt32.toUInt16.toUInt32.toInt32)), .val (.int ((((p2.toUInt32 >>> ((8 : Int32) &&& 31).toUInt32).toInt32) &&& (255 : Int32)).toUInt32.toUInt16.toUInt32.toInt32)), .val (.ref sx_701), .unset, .unset, .unset] [(.int ((p2 &&& (255 : Int32)).toUInt32.toUInt16.toUInt32.toInt32)), (.int ((((p3.toUInt32 >>> ((2 : Int32) &&& 31).toUInt32).toInt32) &&& (3 : Int32)) % (3 : Int32)))])) tgt
    refine XS.iload H hx rfl (hb hby at_67) rfl ?_
    exact kt
  clear H
  have F710 : Old Z n0 h695 := (F0.keep K704 all0)
  refine Jvm.OwnW.Aim.callSW (pc := 69) (Ls := #[.val (.int p1), .val (.int p2), .val (.int p3), .val (.int ((p3 &&& (3 : Int32)) % (3 : Int32))), .val (.int ((((p3.toUInt32 >>> ((2 : Int32) &&& 31).toUInt32).toInt32) &&& (3 : Int32)) % (3 : Int32))), .val (.int ((p1 &&& (255 : Int32)).toUInt32.toUInt16.toUInt32.toInt32)), .val (.int ((((p1.toUInt32 >>> ((8 : Int32) &&& 31).toUInt32).toInt32) &&& (255 : Int32)).toUInt32.toUInt16.toUInt32.toInt32)), .val (.int ((p2 &&& (255 : Int32)).toUInt32.toUInt16.toUInt32.toInt32)), .val (.int ((((p2.toUInt32 >>> ((8 : Int32) &&& 31).toUInt32).toInt32) &&& (255 : Int32)).toUInt32.toUInt16.toUInt32.toInt32)), .val (.ref sx_701), .unset, .unset, .unset]) (argsL := [(.int ((((p3.toUInt32 >>> ((2 : Int32) &&& 31).toUInt32).toInt32) &&& (3 : Int32)) % (3 : Int32))), (.int ((p2 &&& (255 : Int32)).toUInt32.toUInt16.toUInt32.toInt32)), (.int ((((p2.toUInt32 >>> ((8 : Int32) &&& 31).toUInt32).toInt32) &&& (255 : Int32)).toUInt32.toUInt16.toUInt32.toInt32))]) (rest := []) P696 hx hZ hml hown (hw _ (List.mem_of_getElem? (i := 0) rfl)) (hw _ (List.mem_of_getElem? (i := 1) rfl)) (hw _ (List.mem_of_getElem? (i := 2) rfl)) (hw _ (List.mem_of_getElem? (i := 3) rfl)) (by decide) (Jvm.OwnW.Con.back (W := 0) (own_make l Z a0 hw ((((p3.toUInt32 >>> ((2 : Int32) &&& 31).toUInt32).toInt32) &&& (3 : Int32)) % (3 : Int32)) ((p2 &&& (255 : Int32)).toUInt32.toUInt16.toUInt32.toInt32) ((((p2.toUInt32 >>> ((8 : Int32) &&& 31).toUInt32).toInt32) &&& (255 : Int32)).toUInt32.toUInt16.toUInt32.toInt32) h695 n0 (Nat.le_trans Z0 (K708.1)) Lc699 F710 (own_char _) (own_char _) G GL) (hw _ (List.mem_of_getElem? (i := 3) rfl)) (hw _ (List.mem_of_getElem? (i := 2) rfl)) (by decide) (by decide)) rfl pd__28ICC_29Ljava_2flang_2fString_3b rfl (Nat.le_of_eq rfl) (hb hby at_69) (by decide) (by decide) ?_
  intro T711 h712 v715 Lc716 P713 rel717 hQ714
  obtain ⟨sx_718, t_719, kb_720, rfl, K721, g722, g723, F724⟩ := hQ714
  have K725 : Keep h0 h712 [] := K708.trans K721 all0
  have lc726 : Jvm.OwnW.Grow Lc0 Lc716 h0.size := lc709.trans rel717 (K708.1)
  show Jvm.OwnW.Aim p e below s _ _ n0 _ T711 (mkF m 72 #[.val (.int p1), .val (.int p2), .val (.int p3), .val (.int ((p3 &&& (3 : Int32)) % (3 : Int32))), .val (.int ((((p3.toUInt32 >>> ((2 : Int32) &&& 31).toUInt32).toInt32) &&& (3 : Int32)) % (3 : Int32))), .val (.int ((p1 &&& (255 : Int32)).toUInt32.toUInt16.toUInt32.toInt32)), .val (.int ((((p1.toUInt32 >>> ((8 : Int32) &&& 31).toUInt32).toInt32) &&& (255 : Int32)).toUInt32.toUInt16.toUInt32.toInt32)), .val (.int ((p2 &&& (255 : Int32)).toUInt32.toUInt16.toUInt32.toInt32)), .val (.int ((((p2.toUInt32 >>> ((8 : Int32) &&& 31).toUInt32).toInt32) &&& (255 : Int32)).toUInt32.toUInt16.toUInt32.toInt32)), .val (.ref sx_701), .unset, .unset, .unset] [(.ref sx_718)])
  have H := P713.here
  refine Jvm.OwnW.Aim.of (T := T711) (T' := T711) (g := (mkF m 72 #[.val (.int p1), .val (.int p2), .val (.int p3), .val (.int ((p3 &&& (3 : Int32)) % (3 : Int32))), .val (.int ((((p3.toUInt32 >>> ((2 : Int32) &&& 31).toUInt32).toInt32) &&& (3 : Int32)) % (3 : Int32))), .val (.int ((p1 &&& (255 : Int32)).toUInt32.toUInt16.toUInt32.toInt32)), .val (.int ((((p1.toUInt32 >>> ((8 : Int32) &&& 31).toUInt32).toInt32) &&& (255 : Int32)).toUInt32.toUInt16.toUInt32.toInt32)), .val (.int ((p2 &&& (255 : Int32)).toUInt32.toUInt16.toUInt32.toInt32)), .val (.int ((((p2.toUInt32 >>> ((8 : Int32) &&& 31).toUInt32).toInt32) &&& (255 : Int32)).toUInt32.toUInt16.toUInt32.toInt32)), .val (.ref sx_701), .unset, .unset, .unset] [(.ref sx_718)])) (g' := (mkF m 74 #[.val (.int p1), .val (.int p2), .val (.int p3), .val (.int ((p3 &&& (3 : Int32)) % (3 : Int32))), .val (.int ((((p3.toUInt32 >>> ((2 : Int32) &&& 31).toUInt32).toInt32) &&& (3 : Int32)) % (3 : Int32))), .val (.int ((p1 &&& (255 : Int32)).toUInt32.toUInt16.toUInt32.toInt32)), .val (.int ((((p1.toUInt32 >>> ((8 : Int32) &&& 31).toUInt32).toInt32) &&& (255 : Int32)).toUInt32.toUInt16.toUInt32.toInt32)), .val (.int ((p2 &&& (255 : Int32)).toUInt32.toUInt16.toUInt32.toInt32)), .val (.int ((((p2.toUInt32 >>> ((8 : Int32) &&& 31).toUInt32).toInt32) &&& (255 : Int32)).toUInt32.toUInt16.toUInt32.toInt32)), .val (.ref sx_701), .val (.ref sx_718), .unset, .unset] [])) (fun tgt kt => ?_) ?_
  · show Steps p.tables e below (T711.setTop (mkF m 72 #[.val (.int p1), .val (.int p2), .val (.int p3), .val (.int ((p3 &&& (3 : Int32)) % (3 : Int32))), .val (.int ((((p3.toUInt32 >>> ((2 : Int32) &&& 31).toUInt32).toInt32) &&& (3 : Int32)) % (3 : Int32))), .val (.int ((p1 &&& (255 : Int32)).toUInt32.toUInt16.toUInt32.toInt32)), .val (.int ((((p1.toUInt32 >>> ((8 : Int32) &&& 31).toUInt32).toInt32) &&& (255 : Int32)).toUInt32.toUInt16.toUInt32.toInt32)), .val (.int ((p2 &&& (255 : Int32)).toUInt32.toUInt16.toUInt32.toInt32)), .val (.int ((((p2.toUInt32 >>> ((8 : Int32) &&& 31).toUInt32).toInt32) &&& (255 : Int32)).toUInt32.toUInt16.toUInt32.toInt32)), .val (.ref sx_701), .unset, .unset, .unset] [(.ref sx_718)])) tgt
    refine XS.astore H hx rfl (hb hby at_72) rfl rfl (l' := #[.val (.int p1), .val (.int p2), .val (.int p3), .val (.int ((p3 &&& (3 : Int32)) % (3 : Int32))), .val (.int ((((p3.toUInt32 >>> ((2 : Int32) &&& 31).toUInt32).toInt32) &&& (3 : Int32)) % (3 : Int32))), .val (.int ((p1 &&& (255 : Int32)).toUInt32.toUInt16.toUInt32.toInt32)), .val (.int ((((p1.toUInt32 >>> ((8 : Int32) &&& 31).toUInt32).toInt32) &&& (255 : Int32)).toUInt32.toUInt16.toUInt32.toInt32)), .val (.int ((p2 &&& (255 : Int32)).toUInt32.toUInt16.toUInt32.toInt32)), .val (.int ((((p2.toUInt32 >>> ((8 : Int32) &&& 31).toUInt32).toInt32) &&& (255 : Int32)).toUInt32.toUInt16.toUInt32.toInt32)), .val (.ref sx_701), .val (.ref sx_718), .unset, .unset]) rfl ?_
    exact kt
  clear H
  refine Jvm.OwnW.Aim.newO (pc := 74) (Ls := #[.val (.int p1), .val (.int p2), .val (.int p3), .val (.int ((p3 &&& (3 : Int32)) % (3 : Int32))), .val (.int ((((p3.toUInt32 >>> ((2 : Int32) &&& 31).toUInt32).toInt32) &&& (3 : Int32)) % (3 : Int32))), .val (.int ((p1 &&& (255 : Int32)).toUInt32.toUInt16.toUInt32.toInt32)), .val (.int ((((p1.toUInt32 >>> ((8 : Int32) &&& 31).toUInt32).toInt32) &&& (255 : Int32)).toUInt32.toUInt16.toUInt32.toInt32)), .val (.int ((p2 &&& (255 : Int32)).toUInt32.toUInt16.toUInt32.toInt32)), .val (.int ((((p2.toUInt32 >>> ((8 : Int32) &&& 31).toUInt32).toInt32) &&& (255 : Int32)).toUInt32.toUInt16.toUInt32.toInt32)), .val (.ref sx_701), .val (.ref sx_718), .unset, .unset]) (st := []) P713 hx hZ hown (hw _ (List.mem_of_getElem? (i := 37) rfl)) (hw _ (List.mem_of_getElem? (i := 38) rfl)) (hw _ (List.mem_of_getElem? (i := 39) rfl)) (hb hby at_74) (by decide) (by decide) ?_
  intro T727 h728 b729 g735 P730 E731 E732 D733 U734
  have K736 : Keep h712 h728 [] := (Keep.refl _ _).ext E731
  have K737 : Keep h0 h728 [] := K725.trans K736 all0
  have F738 : Fld Z h728 b729 "com/example/asterism/asterism/eac/EacCpf$NameForm" "element" "Ljava/lang/String;" .null := D733 (Or.inr (hw _ (List.mem_of_getElem? (i := 50) rfl))) (ty := (.object "java/lang/String")) (by decide)
  have F739 : Fld Z h728 b729 "com/example/asterism/asterism/eac/EacCpf$NameForm" "text" "Ljava/lang/String;" .null := D733 (Or.inr (hw _ (List.mem_of_getElem? (i := 52) rfl))) (ty := (.object "java/lang/String")) (by decide)
  show Jvm.OwnW.Aim p e below s _ _ n0 _ T727 (mkF m 77 #[.val (.int p1), .val (.int p2), .val (.int p3), .val (.int ((p3 &&& (3 : Int32)) % (3 : Int32))), .val (.int ((((p3.toUInt32 >>> ((2 : Int32) &&& 31).toUInt32).toInt32) &&& (3 : Int32)) % (3 : Int32))), .val (.int ((p1 &&& (255 : Int32)).toUInt32.toUInt16.toUInt32.toInt32)), .val (.int ((((p1.toUInt32 >>> ((8 : Int32) &&& 31).toUInt32).toInt32) &&& (255 : Int32)).toUInt32.toUInt16.toUInt32.toInt32)), .val (.int ((p2 &&& (255 : Int32)).toUInt32.toUInt16.toUInt32.toInt32)), .val (.int ((((p2.toUInt32 >>> ((8 : Int32) &&& 31).toUInt32).toInt32) &&& (255 : Int32)).toUInt32.toUInt16.toUInt32.toInt32)), .val (.ref sx_701), .val (.ref sx_718), .unset, .unset] [(.ref b729)])
  have H := P730.here
  refine Jvm.OwnW.Aim.of (T := T727) (T' := T727) (g := (mkF m 77 #[.val (.int p1), .val (.int p2), .val (.int p3), .val (.int ((p3 &&& (3 : Int32)) % (3 : Int32))), .val (.int ((((p3.toUInt32 >>> ((2 : Int32) &&& 31).toUInt32).toInt32) &&& (3 : Int32)) % (3 : Int32))), .val (.int ((p1 &&& (255 : Int32)).toUInt32.toUInt16.toUInt32.toInt32)), .val (.int ((((p1.toUInt32 >>> ((8 : Int32) &&& 31).toUInt32).toInt32) &&& (255 : Int32)).toUInt32.toUInt16.toUInt32.toInt32)), .val (.int ((p2 &&& (255 : Int32)).toUInt32.toUInt16.toUInt32.toInt32)), .val (.int ((((p2.toUInt32 >>> ((8 : Int32) &&& 31).toUInt32).toInt32) &&& (255 : Int32)).toUInt32.toUInt16.toUInt32.toInt32)), .val (.ref sx_701), .val (.ref sx_718), .unset, .unset] [(.ref b729)])) (g' := (mkF m 82 #[.val (.int p1), .val (.int p2), .val (.int p3), .val (.int ((p3 &&& (3 : Int32)) % (3 : Int32))), .val (.int ((((p3.toUInt32 >>> ((2 : Int32) &&& 31).toUInt32).toInt32) &&& (3 : Int32)) % (3 : Int32))), .val (.int ((p1 &&& (255 : Int32)).toUInt32.toUInt16.toUInt32.toInt32)), .val (.int ((((p1.toUInt32 >>> ((8 : Int32) &&& 31).toUInt32).toInt32) &&& (255 : Int32)).toUInt32.toUInt16.toUInt32.toInt32)), .val (.int ((p2 &&& (255 : Int32)).toUInt32.toUInt16.toUInt32.toInt32)), .val (.int ((((p2.toUInt32 >>> ((8 : Int32) &&& 31).toUInt32).toInt32) &&& (255 : Int32)).toUInt32.toUInt16.toUInt32.toInt32)), .val (.ref sx_701), .val (.ref sx_718), .unset, .unset] [(.ref sx_701), (.ref sx_718), (.ref b729), (.ref b729)])) (fun tgt kt => ?_) ?_
  · show Steps p.tables e below (T727.setTop (mkF m 77 #[.val (.int p1), .val (.int p2), .val (.int p3), .val (.int ((p3 &&& (3 : Int32)) % (3 : Int32))), .val (.int ((((p3.toUInt32 >>> ((2 : Int32) &&& 31).toUInt32).toInt32) &&& (3 : Int32)) % (3 : Int32))), .val (.int ((p1 &&& (255 : Int32)).toUInt32.toUInt16.toUInt32.toInt32)), .val (.int ((((p1.toUInt32 >>> ((8 : Int32) &&& 31).toUInt32).toInt32) &&& (255 : Int32)).toUInt32.toUInt16.toUInt32.toInt32)), .val (.int ((p2 &&& (255 : Int32)).toUInt32.toUInt16.toUInt32.toInt32)), .val (.int ((((p2.toUInt32 >>> ((8 : Int32) &&& 31).toUInt32).toInt32) &&& (255 : Int32)).toUInt32.toUInt16.toUInt32.toInt32)), .val (.ref sx_701), .val (.ref sx_718), .unset, .unset] [(.ref b729)])) tgt
    refine XS.dup H hx rfl (hb hby at_77) rfl rfl ?_
    show Steps p.tables e below (T727.setTop (mkF m 78 #[.val (.int p1), .val (.int p2), .val (.int p3), .val (.int ((p3 &&& (3 : Int32)) % (3 : Int32))), .val (.int ((((p3.toUInt32 >>> ((2 : Int32) &&& 31).toUInt32).toInt32) &&& (3 : Int32)) % (3 : Int32))), .val (.int ((p1 &&& (255 : Int32)).toUInt32.toUInt16.toUInt32.toInt32)), .val (.int ((((p1.toUInt32 >>> ((8 : Int32) &&& 31).toUInt32).toInt32) &&& (255 : Int32)).toUInt32.toUInt16.toUInt32.toInt32)), .val (.int ((p2 &&& (255 : Int32)).toUInt32.toUInt16.toUInt32.toInt32)), .val (.int ((((p2.toUInt32 >>> ((8 : Int32) &&& 31).toUInt32).toInt32) &&& (255 : Int32)).toUInt32.toUInt16.toUInt32.toInt32)), .val (.ref sx_701), .val (.ref sx_718), .unset, .unset] [(.ref b729), (.ref b729)])) tgt
    refine XS.aload H hx rfl (hb hby at_78) rfl rfl ?_
    show Steps p.tables e below (T727.setTop (mkF m 80 #[.val (.int p1), .val (.int p2), .val (.int p3), .val (.int ((p3 &&& (3 : Int32)) % (3 : Int32))), .val (.int ((((p3.toUInt32 >>> ((2 : Int32) &&& 31).toUInt32).toInt32) &&& (3 : Int32)) % (3 : Int32))), .val (.int ((p1 &&& (255 : Int32)).toUInt32.toUInt16.toUInt32.toInt32)), .val (.int ((((p1.toUInt32 >>> ((8 : Int32) &&& 31).toUInt32).toInt32) &&& (255 : Int32)).toUInt32.toUInt16.toUInt32.toInt32)), .val (.int ((p2 &&& (255 : Int32)).toUInt32.toUInt16.toUInt32.toInt32)), .val (.int ((((p2.toUInt32 >>> ((8 : Int32) &&& 31).toUInt32).toInt32) &&& (255 : Int32)).toUInt32.toUInt16.toUInt32.toInt32)), .val (.ref sx_701), .val (.ref sx_718), .unset, .unset] [(.ref sx_718), (.ref b729), (.ref b729)])) tgt
    refine XS.aload H hx rfl (hb hby at_80) rfl rfl ?_
    exact kt
  clear H
  refine Jvm.OwnW.Aim.callC (pc := 82) (Ls := #[.val (.int p1), .val (.int p2), .val (.int p3), .val (.int ((p3 &&& (3 : Int32)) % (3 : Int32))), .val (.int ((((p3.toUInt32 >>> ((2 : Int32) &&& 31).toUInt32).toInt32) &&& (3 : Int32)) % (3 : Int32))), .val (.int ((p1 &&& (255 : Int32)).toUInt32.toUInt16.toUInt32.toInt32)), .val (.int ((((p1.toUInt32 >>> ((8 : Int32) &&& 31).toUInt32).toInt32) &&& (255 : Int32)).toUInt32.toUInt16.toUInt32.toInt32)), .val (.int ((p2 &&& (255 : Int32)).toUInt32.toUInt16.toUInt32.toInt32)), .val (.int ((((p2.toUInt32 >>> ((8 : Int32) &&& 31).toUInt32).toInt32) &&& (255 : Int32)).toUInt32.toUInt16.toUInt32.toInt32)), .val (.ref sx_701), .val (.ref sx_718), .unset, .unset]) (argsL := [(.ref sx_718), (.ref sx_701)]) (rest := [(.ref b729)]) P730 hx hZ hml hown rfl (hw _ (List.mem_of_getElem? (i := 40) rfl)) (hw _ (List.mem_of_getElem? (i := 41) rfl)) (hw _ (List.mem_of_getElem? (i := 42) rfl)) (by decide) (fun vm0 hZ => Jvm.OwnN.Con.back (s := s.setVm vm0) (W := 1) (own_nf l Z a0 hw b729 sx_718 sx_701 (.null) (.null) h728 n0 (Nat.le_trans Z0 (K737.1)) (Nat.le_trans (Nat.le_trans Z0 (K725.1)) (Nat.le_of_eq g735.symm)) E732 F738 F739) hZ (hw _ (List.mem_of_getElem? (i := 42) rfl)) (hw _ (List.mem_of_getElem? (i := 39) rfl)) (by decide) (by decide)) (fun _ _ ⟨_, q, _, _, _⟩ => q) (allS (Jvm.OwnW.nl_new P713.ltL (Nat.le_trans (Nat.le_refl _) (Nat.le_of_eq g735.symm))) all0) rfl pd__28Ljava_2flang_2fString_3bLjava_2flang_2fString_3b_29V rfl (Nat.le_of_eq rfl) (hb hby at_82) (by decide) (by decide) ?_
  intro T740 h741 v744 P742 hQ743
  obtain ⟨rfl, K747, F748, F749, F750⟩ := hQ743
  have K751 : Keep h0 h741 [] := K737.trans K747 (allS (Or.inr (Nat.le_trans (K725.1) (Nat.le_of_eq g735.symm))) all0)
  show Jvm.OwnW.Aim p e below s _ _ n0 _ T740 (mkF m 85 #[.val (.int p1), .val (.int p2), .val (.int p3), .val (.int ((p3 &&& (3 : Int32)) % (3 : Int32))), .val (.int ((((p3.toUInt32 >>> ((2 : Int32) &&& 31).toUInt32).toInt32) &&& (3 : Int32)) % (3 : Int32))), .val (.int ((p1 &&& (255 : Int32)).toUInt32.toUInt16.toUInt32.toInt32)), .val (.int ((((p1.toUInt32 >>> ((8 : Int32) &&& 31).toUInt32).toInt32) &&& (255 : Int32)).toUInt32.toUInt16.toUInt32.toInt32)), .val (.int ((p2 &&& (255 : Int32)).toUInt32.toUInt16.toUInt32.toInt32)), .val (.int ((((p2.toUInt32 >>> ((8 : Int32) &&& 31).toUInt32).toInt32) &&& (255 : Int32)).toUInt32.toUInt16.toUInt32.toInt32)), .val (.ref sx_701), .val (.ref sx_718), .unset, .unset] [(.ref b729)])
  have F752 : Str Z h741 sx_718 t_719 kb_720 (mkc ((((p3.toUInt32 >>> ((2 : Int32) &&& 31).toUInt32).toInt32) &&& (3 : Int32)) % (3 : Int32)) ((p2 &&& (255 : Int32)).toUInt32.toUInt16.toUInt32.toInt32) ((((p2.toUInt32 >>> ((8 : Int32) &&& 31).toUInt32).toInt32) &&& (255 : Int32)).toUInt32.toUInt16.toUInt32.toInt32)) := ((F724.keep K736 nin0 nin0).keep K747 (ninS (Nat.ne_of_lt (Nat.lt_of_lt_of_le F724.lt (Nat.le_of_eq g735.symm))) nin0) (ninS (Nat.ne_of_lt (Nat.lt_of_lt_of_le F724.ltb (Nat.le_of_eq g735.symm))) nin0))
  have F753 : Str Z h741 sx_701 t_702 kb_703 (mkc ((p3 &&& (3 : Int32)) % (3 : Int32)) ((p1 &&& (255 : Int32)).toUInt32.toUInt16.toUInt32.toInt32) ((((p1.toUInt32 >>> ((8 : Int32) &&& 31).toUInt32).toInt32) &&& (255 : Int32)).toUInt32.toUInt16.toUInt32.toInt32)) := (((F707.keep K721 nin0 nin0).keep K736 nin0 nin0).keep K747 (ninS (Nat.ne_of_lt (Nat.lt_of_lt_of_le (Nat.lt_of_lt_of_le F707.lt (K721.1)) (Nat.le_of_eq g735.symm))) nin0) (ninS (Nat.ne_of_lt (Nat.lt_of_lt_of_le (Nat.lt_of_lt_of_le F707.ltb (K721.1)) (Nat.le_of_eq g735.symm))) nin0))
  have F754 : Old Z n0 h741 := (((F710.keep K721 all0).keep K736 all0).keep K747 (allS (Nat.le_trans (Nat.le_trans Z0 (K725.1)) (Nat.le_of_eq g735.symm)) all0))
  refine Jvm.OwnW.Aim.callVW (pc := 85) (Ls := #[.val (.int p1), .val (.int p2), .val (.int p3), .val (.int ((p3 &&& (3 : Int32)) % (3 : Int32))), .val (.int ((((p3.toUInt32 >>> ((2 : Int32) &&& 31).toUInt32).toInt32) &&& (3 : Int32)) % (3 : Int32))), .val (.int ((p1 &&& (255 : Int32)).toUInt32.toUInt16.toUInt32.toInt32)), .val (.int ((((p1.toUInt32 >>> ((8 : Int32) &&& 31).toUInt32).toInt32) &&& (255 : Int32)).toUInt32.toUInt16.toUInt32.toInt32)), .val (.int ((p2 &&& (255 : Int32)).toUInt32.toUInt16.toUInt32.toInt32)), .val (.int ((((p2.toUInt32 >>> ((8 : Int32) &&& 31).toUInt32).toInt32) &&& (255 : Int32)).toUInt32.toUInt16.toUInt32.toInt32)), .val (.ref sx_701), .val (.ref sx_718), .unset, .unset]) (argsL := []) (rest := []) (y := (⟨"com/example/asterism/asterism/eac/EacCpf$NameForm", "note", "()Ljava/lang/String;"⟩ : MethodName)) (z := (⟨"com/example/asterism/asterism/eac/EacCpf$NameForm", "note", "()Ljava/lang/String;"⟩ : MethodName)) P742 hx hZ hml hown (hw _ (List.mem_of_getElem? (i := 53) rfl)) (hw _ (List.mem_of_getElem? (i := 54) rfl)) (fun vm0 hZ => notFace_of_selects (args := #[]) (mvT (s := s.setVm vm0) hZ (hw _ (List.mem_of_getElem? (i := 56) rfl)))) (hw _ (List.mem_of_getElem? (i := 56) rfl)) (hw _ (List.mem_of_getElem? (i := 55) rfl)) (by decide) F748 (Jvm.OwnW.Con.back (W := 0) (own_note l Z a0 hw b729 sx_718 t_719 kb_720 (mkc ((((p3.toUInt32 >>> ((2 : Int32) &&& 31).toUInt32).toInt32) &&& (3 : Int32)) % (3 : Int32)) ((p2 &&& (255 : Int32)).toUInt32.toUInt16.toUInt32.toInt32) ((((p2.toUInt32 >>> ((8 : Int32) &&& 31).toUInt32).toInt32) &&& (255 : Int32)).toUInt32.toUInt16.toUInt32.toInt32)) sx_701 t_702 kb_703 (mkc ((p3 &&& (3 : Int32)) % (3 : Int32)) ((p1 &&& (255 : Int32)).toUInt32.toUInt16.toUInt32.toInt32) ((((p1.toUInt32 >>> ((8 : Int32) &&& 31).toUInt32).toInt32) &&& (255 : Int32)).toUInt32.toUInt16.toUInt32.toInt32)) h741 n0 (Nat.le_trans Z0 (K751.1)) Lc716 F748 F749 F750 F752 F753 F754 mkc_len mkc_len G GL) (hw _ (List.mem_of_getElem? (i := 57) rfl)) (hw _ (List.mem_of_getElem? (i := 39) rfl)) (by decide) (by decide)) rfl pd__28_29Ljava_2flang_2fString_3b rfl (Nat.le_of_eq rfl) (hb hby at_85) (by decide) (by decide) ?_
  intro T755 h756 v759 Lc760 P757 rel761 hQ758
  obtain ⟨z_762, t_763, k_764, rfl, K765, g766, g767, F768⟩ := hQ758
  have K769 : Keep h0 h756 [] := K751.trans K765 all0
  have lc770 : Jvm.OwnW.Grow Lc0 Lc760 h0.size := lc726.trans rel761 (K751.1)
  show Jvm.OwnW.Aim p e below s _ _ n0 _ T755 (mkF m 88 #[.val (.int p1), .val (.int p2), .val (.int p3), .val (.int ((p3 &&& (3 : Int32)) % (3 : Int32))), .val (.int ((((p3.toUInt32 >>> ((2 : Int32) &&& 31).toUInt32).toInt32) &&& (3 : Int32)) % (3 : Int32))), .val (.int ((p1 &&& (255 : Int32)).toUInt32.toUInt16.toUInt32.toInt32)), .val (.int ((((p1.toUInt32 >>> ((8 : Int32) &&& 31).toUInt32).toInt32) &&& (255 : Int32)).toUInt32.toUInt16.toUInt32.toInt32)), .val (.int ((p2 &&& (255 : Int32)).toUInt32.toUInt16.toUInt32.toInt32)), .val (.int ((((p2.toUInt32 >>> ((8 : Int32) &&& 31).toUInt32).toInt32) &&& (255 : Int32)).toUInt32.toUInt16.toUInt32.toInt32)), .val (.ref sx_701), .val (.ref sx_718), .unset, .unset] [(.ref z_762)])
  have H := P757.here
  refine Jvm.OwnW.Aim.of (T := T755) (T' := T755) (g := (mkF m 88 #[.val (.int p1), .val (.int p2), .val (.int p3), .val (.int ((p3 &&& (3 : Int32)) % (3 : Int32))), .val (.int ((((p3.toUInt32 >>> ((2 : Int32) &&& 31).toUInt32).toInt32) &&& (3 : Int32)) % (3 : Int32))), .val (.int ((p1 &&& (255 : Int32)).toUInt32.toUInt16.toUInt32.toInt32)), .val (.int ((((p1.toUInt32 >>> ((8 : Int32) &&& 31).toUInt32).toInt32) &&& (255 : Int32)).toUInt32.toUInt16.toUInt32.toInt32)), .val (.int ((p2 &&& (255 : Int32)).toUInt32.toUInt16.toUInt32.toInt32)), .val (.int ((((p2.toUInt32 >>> ((8 : Int32) &&& 31).toUInt32).toInt32) &&& (255 : Int32)).toUInt32.toUInt16.toUInt32.toInt32)), .val (.ref sx_701), .val (.ref sx_718), .unset, .unset] [(.ref z_762)])) (g' := (mkF m 105 #[.val (.int p1), .val (.int p2), .val (.int p3), .val (.int ((p3 &&& (3 : Int32)) % (3 : Int32))), .val (.int ((((p3.toUInt32 >>> ((2 : Int32) &&& 31).toUInt32).toInt32) &&& (3 : Int32)) % (3 : Int32))), .val (.int ((p1 &&& (255 : Int32)).toUInt32.toUInt16.toUInt32.toInt32)), .val (.int ((((p1.toUInt32 >>> ((8 : Int32) &&& 31).toUInt32).toInt32) &&& (255 : Int32)).toUInt32.toUInt16.toUInt32.toInt32)), .val (.int ((p2 &&& (255 : Int32)).toUInt32.toUInt16.toUInt32.toInt32)), .val (.int ((((p2.toUInt32 >>> ((8 : Int32) &&& 31).toUInt32).toInt32) &&& (255 : Int32)).toUInt32.toUInt16.toUInt32.toInt32)), .val (.ref sx_701), .val (.ref sx_718), .val (.ref z_762), .val (.int ((((p3 &&& (3 : Int32)) % (3 : Int32)) + (2 : Int32)) + ((((p3.toUInt32 >>> ((2 : Int32) &&& 31).toUInt32).toInt32) &&& (3 : Int32)) % (3 : Int32))))] [(.ref z_762)])) (fun tgt kt => ?_) ?_
  · show Steps p.tables e below (T755.setTop (mkF m 88 #[.val (.int p1), .val (.int p2), .val (.int p3), .val (.int ((p3 &&& (3 : Int32)) % (3 : Int32))), .val (.int ((((p3.toUInt32 >>> ((2 : Int32) &&& 31).toUInt32).toInt32) &&& (3 : Int32)) % (3 : Int32))), .val (.int ((p1 &&& (255 : Int32)).toUInt32.toUInt16.toUInt32.toInt32)), .val (.int ((((p1.toUInt32 >>> ((8 : Int32) &&& 31).toUInt32).toInt32) &&& (255 : Int32)).toUInt32.toUInt16.toUInt32.toInt32)), .val (.int ((p2 &&& (255 : Int32)).toUInt32.toUInt16.toUInt32.toInt32)), .val (.int ((((p2.toUInt32 >>> ((8 : Int32) &&& 31).toUInt32).toInt32) &&& (255 : Int32)).toUInt32.toUInt16.toUInt32.toInt32)), .val (.ref sx_701), .val (.ref sx_718), .unset, .unset] [(.ref z_762)])) tgt
    refine XS.astore H hx rfl (hb hby at_88) rfl rfl (l' := #[.val (.int p1), .val (.int p2), .val (.int p3), .val (.int ((p3 &&& (3 : Int32)) % (3 : Int32))), .val (.int ((((p3.toUInt32 >>> ((2 : Int32) &&& 31).toUInt32).toInt32) &&& (3 : Int32)) % (3 : Int32))), .val (.int ((p1 &&& (255 : Int32)).toUInt32.toUInt16.toUInt32.toInt32)), .val (.int ((((p1.toUInt32 >>> ((8 : Int32) &&& 31).toUInt32).toInt32) &&& (255 : Int32)).toUInt32.toUInt16.toUInt32.toInt32)), .val (.int ((p2 &&& (255 : Int32)).toUInt32.toUInt16.toUInt32.toInt32)), .val (.int ((((p2.toUInt32 >>> ((8 : Int32) &&& 31).toUInt32).toInt32) &&& (255 : Int32)).toUInt32.toUInt16.toUInt32.toInt32)), .val (.ref sx_701), .val (.ref sx_718), .val (.ref z_762), .unset]) rfl ?_
    show Steps p.tables e below (T755.setTop (mkF m 90 #[.val (.int p1), .val (.int p2), .val (.int p3), .val (.int ((p3 &&& (3 : Int32)) % (3 : Int32))), .val (.int ((((p3.toUInt32 >>> ((2 : Int32) &&& 31).toUInt32).toInt32) &&& (3 : Int32)) % (3 : Int32))), .val (.int ((p1 &&& (255 : Int32)).toUInt32.toUInt16.toUInt32.toInt32)), .val (.int ((((p1.toUInt32 >>> ((8 : Int32) &&& 31).toUInt32).toInt32) &&& (255 : Int32)).toUInt32.toUInt16.toUInt32.toInt32)), .val (.int ((p2 &&& (255 : Int32)).toUInt32.toUInt16.toUInt32.toInt32)), .val (.int ((((p2.toUInt32 >>> ((8 : Int32) &&& 31).toUInt32).toInt32) &&& (255 : Int32)).toUInt32.toUInt16.toUInt32.toInt32)), .val (.ref sx_701), .val (.ref sx_718), .val (.ref z_762), .unset] [])) tgt
    refine XS.iloadN H hx rfl (hb hby at_90) rfl ?_
    show Steps p.tables e below (T755.setTop (mkF m 91 #[.val (.int p1), .val (.int p2), .val (.int p3), .val (.int ((p3 &&& (3 : Int32)) % (3 : Int32))), .val (.int ((((p3.toUInt32 >>> ((2 : Int32) &&& 31).toUInt32).toInt32) &&& (3 : Int32)) % (3 : Int32))), .val (.int ((p1 &&& (255 : Int32)).toUInt32.toUInt16.toUInt32.toInt32)), .val (.int ((((p1.toUInt32 >>> ((8 : Int32) &&& 31).toUInt32).toInt32) &&& (255 : Int32)).toUInt32.toUInt16.toUInt32.toInt32)), .val (.int ((p2 &&& (255 : Int32)).toUInt32.toUInt16.toUInt32.toInt32)), .val (.int ((((p2.toUInt32 >>> ((8 : Int32) &&& 31).toUInt32).toInt32) &&& (255 : Int32)).toUInt32.toUInt16.toUInt32.toInt32)), .val (.ref sx_701), .val (.ref sx_718), .val (.ref z_762), .unset] [(.int ((p3 &&& (3 : Int32)) % (3 : Int32)))])) tgt
    refine XS.iconst H hx rfl (hb hby at_91) ?_
    show Steps p.tables e below (T755.setTop (mkF m 92 #[.val (.int p1), .val (.int p2), .val (.int p3), .val (.int ((p3 &&& (3 : Int32)) % (3 : Int32))), .val (.int ((((p3.toUInt32 >>> ((2 : Int32) &&& 31).toUInt32).toInt32) &&& (3 : Int32)) % (3 : Int32))), .val (.int ((p1 &&& (255 : Int32)).toUInt32.toUInt16.toUInt32.toInt32)), .val (.int ((((p1.toUInt32 >>> ((8 : Int32) &&& 31).toUInt32).toInt32) &&& (255 : Int32)).toUInt32.toUInt16.toUInt32.toInt32)), .val (.int ((p2 &&& (255 : Int32)).toUInt32.toUInt16.toUInt32.toInt32)), .val (.int ((((p2.toUInt32 >>> ((8 : Int32) &&& 31).toUInt32).toInt32) &&& (255 : Int32)).toUInt32.toUInt16.toUInt32.toInt32)), .val (.ref sx_701), .val (.ref sx_718), .val (.ref z_762), .unset] [(.int (2 : Int32)), (.int ((p3 &&& (3 : Int32)) % (3 : Int32)))])) tgt
    refine XS.iadd H hx rfl (hb hby at_92) rfl ?_
    show Steps p.tables e below (T755.setTop (mkF m 93 #[.val (.int p1), .val (.int p2), .val (.int p3), .val (.int ((p3 &&& (3 : Int32)) % (3 : Int32))), .val (.int ((((p3.toUInt32 >>> ((2 : Int32) &&& 31).toUInt32).toInt32) &&& (3 : Int32)) % (3 : Int32))), .val (.int ((p1 &&& (255 : Int32)).toUInt32.toUInt16.toUInt32.toInt32)), .val (.int ((((p1.toUInt32 >>> ((8 : Int32) &&& 31).toUInt32).toInt32) &&& (255 : Int32)).toUInt32.toUInt16.toUInt32.toInt32)), .val (.int ((p2 &&& (255 : Int32)).toUInt32.toUInt16.toUInt32.toInt32)), .val (.int ((((p2.toUInt32 >>> ((8 : Int32) &&& 31).toUInt32).toInt32) &&& (255 : Int32)).toUInt32.toUInt16.toUInt32.toInt32)), .val (.ref sx_701), .val (.ref sx_718), .val (.ref z_762), .unset] [(.int (((p3 &&& (3 : Int32)) % (3 : Int32)) + (2 : Int32)))])) tgt
    refine XS.iload H hx rfl (hb hby at_93) rfl ?_
    show Steps p.tables e below (T755.setTop (mkF m 95 #[.val (.int p1), .val (.int p2), .val (.int p3), .val (.int ((p3 &&& (3 : Int32)) % (3 : Int32))), .val (.int ((((p3.toUInt32 >>> ((2 : Int32) &&& 31).toUInt32).toInt32) &&& (3 : Int32)) % (3 : Int32))), .val (.int ((p1 &&& (255 : Int32)).toUInt32.toUInt16.toUInt32.toInt32)), .val (.int ((((p1.toUInt32 >>> ((8 : Int32) &&& 31).toUInt32).toInt32) &&& (255 : Int32)).toUInt32.toUInt16.toUInt32.toInt32)), .val (.int ((p2 &&& (255 : Int32)).toUInt32.toUInt16.toUInt32.toInt32)), .val (.int ((((p2.toUInt32 >>> ((8 : Int32) &&& 31).toUInt32).toInt32) &&& (255 : Int32)).toUInt32.toUInt16.toUInt32.toInt32)), .val (.ref sx_701), .val (.ref sx_718), .val (.ref z_762), .unset] [(.int ((((p3.toUInt32 >>> ((2 : Int32) &&& 31).toUInt32).toInt32) &&& (3 : Int32)) % (3 : Int32))), (.int (((p3 &&& (3 : Int32)) % (3 : Int32)) + (2 : Int32)))])) tgt
    refine XS.iadd H hx rfl (hb hby at_95) rfl ?_
    show Steps p.tables e below (T755.setTop (mkF m 96 #[.val (.int p1), .val (.int p2), .val (.int p3), .val (.int ((p3 &&& (3 : Int32)) % (3 : Int32))), .val (.int ((((p3.toUInt32 >>> ((2 : Int32) &&& 31).toUInt32).toInt32) &&& (3 : Int32)) % (3 : Int32))), .val (.int ((p1 &&& (255 : Int32)).toUInt32.toUInt16.toUInt32.toInt32)), .val (.int ((((p1.toUInt32 >>> ((8 : Int32) &&& 31).toUInt32).toInt32) &&& (255 : Int32)).toUInt32.toUInt16.toUInt32.toInt32)), .val (.int ((p2 &&& (255 : Int32)).toUInt32.toUInt16.toUInt32.toInt32)), .val (.int ((((p2.toUInt32 >>> ((8 : Int32) &&& 31).toUInt32).toInt32) &&& (255 : Int32)).toUInt32.toUInt16.toUInt32.toInt32)), .val (.ref sx_701), .val (.ref sx_718), .val (.ref z_762), .unset] [(.int ((((p3 &&& (3 : Int32)) % (3 : Int32)) + (2 : Int32)) + ((((p3.toUInt32 >>> ((2 : Int32) &&& 31).toUInt32).toInt32) &&& (3 : Int32)) % (3 : Int32))))])) tgt
    refine XS.istore H hx rfl (hb hby at_96) rfl (l' := #[.val (.int p1), .val (.int p2), .val (.int p3), .val (.int ((p3 &&& (3 : Int32)) % (3 : Int32))), .val (.int ((((p3.toUInt32 >>> ((2 : Int32) &&& 31).toUInt32).toInt32) &&& (3 : Int32)) % (3 : Int32))), .val (.int ((p1 &&& (255 : Int32)).toUInt32.toUInt16.toUInt32.toInt32)), .val (.int ((((p1.toUInt32 >>> ((8 : Int32) &&& 31).toUInt32).toInt32) &&& (255 : Int32)).toUInt32.toUInt16.toUInt32.toInt32)), .val (.int ((p2 &&& (255 : Int32)).toUInt32.toUInt16.toUInt32.toInt32)), .val (.int ((((p2.toUInt32 >>> ((8 : Int32) &&& 31).toUInt32).toInt32) &&& (255 : Int32)).toUInt32.toUInt16.toUInt32.toInt32)), .val (.ref sx_701), .val (.ref sx_718), .val (.ref z_762), .val (.int ((((p3 &&& (3 : Int32)) % (3 : Int32)) + (2 : Int32)) + ((((p3.toUInt32 >>> ((2 : Int32) &&& 31).toUInt32).toInt32) &&& (3 : Int32)) % (3 : Int32))))]) rfl ?_
    show Steps p.tables e below (T755.setTop (mkF m 98 #[.val (.int p1), .val (.int p2), .val (.int p3), .val (.int ((p3 &&& (3 : Int32)) % (3 : Int32))), .val (.int ((((p3.toUInt32 >>> ((2 : Int32) &&& 31).toUInt32).toInt32) &&& (3 : Int32)) % (3 : Int32))), .val (.int ((p1 &&& (255 : Int32)).toUInt32.toUInt16.toUInt32.toInt32)), .val (.int ((((p1.toUInt32 >>> ((8 : Int32) &&& 31).toUInt32).toInt32) &&& (255 : Int32)).toUInt32.toUInt16.toUInt32.toInt32)), .val (.int ((p2 &&& (255 : Int32)).toUInt32.toUInt16.toUInt32.toInt32)), .val (.int ((((p2.toUInt32 >>> ((8 : Int32) &&& 31).toUInt32).toInt32) &&& (255 : Int32)).toUInt32.toUInt16.toUInt32.toInt32)), .val (.ref sx_701), .val (.ref sx_718), .val (.ref z_762), .val (.int ((((p3 &&& (3 : Int32)) % (3 : Int32)) + (2 : Int32)) + ((((p3.toUInt32 >>> ((2 : Int32) &&& 31).toUInt32).toInt32) &&& (3 : Int32)) % (3 : Int32))))] [])) tgt
    refine XS.aload H hx rfl (hb hby at_98) rfl rfl ?_
    show Steps p.tables e below (T755.setTop (mkF m 100 #[.val (.int p1), .val (.int p2), .val (.int p3), .val (.int ((p3 &&& (3 : Int32)) % (3 : Int32))), .val (.int ((((p3.toUInt32 >>> ((2 : Int32) &&& 31).toUInt32).toInt32) &&& (3 : Int32)) % (3 : Int32))), .val (.int ((p1 &&& (255 : Int32)).toUInt32.toUInt16.toUInt32.toInt32)), .val (.int ((((p1.toUInt32 >>> ((8 : Int32) &&& 31).toUInt32).toInt32) &&& (255 : Int32)).toUInt32.toUInt16.toUInt32.toInt32)), .val (.int ((p2 &&& (255 : Int32)).toUInt32.toUInt16.toUInt32.toInt32)), .val (.int ((((p2.toUInt32 >>> ((8 : Int32) &&& 31).toUInt32).toInt32) &&& (255 : Int32)).toUInt32.toUInt16.toUInt32.toInt32)), .val (.ref sx_701), .val (.ref sx_718), .val (.ref z_762), .val (.int ((((p3 &&& (3 : Int32)) % (3 : Int32)) + (2 : Int32)) + ((((p3.toUInt32 >>> ((2 : Int32) &&& 31).toUInt32).toInt32) &&& (3 : Int32)) % (3 : Int32))))] [(.ref z_762)])) tgt
    refine XS.ifnullNo H hx rfl (hb hby at_100) rfl ?_
    show Steps p.tables e below (T755.setTop (mkF m 103 #[.val (.int p1), .val (.int p2), .val (.int p3), .val (.int ((p3 &&& (3 : Int32)) % (3 : Int32))), .val (.int ((((p3.toUInt32 >>> ((2 : Int32) &&& 31).toUInt32).toInt32) &&& (3 : Int32)) % (3 : Int32))), .val (.int ((p1 &&& (255 : Int32)).toUInt32.toUInt16.toUInt32.toInt32)), .val (.int ((((p1.toUInt32 >>> ((8 : Int32) &&& 31).toUInt32).toInt32) &&& (255 : Int32)).toUInt32.toUInt16.toUInt32.toInt32)), .val (.int ((p2 &&& (255 : Int32)).toUInt32.toUInt16.toUInt32.toInt32)), .val (.int ((((p2.toUInt32 >>> ((8 : Int32) &&& 31).toUInt32).toInt32) &&& (255 : Int32)).toUInt32.toUInt16.toUInt32.toInt32)), .val (.ref sx_701), .val (.ref sx_718), .val (.ref z_762), .val (.int ((((p3 &&& (3 : Int32)) % (3 : Int32)) + (2 : Int32)) + ((((p3.toUInt32 >>> ((2 : Int32) &&& 31).toUInt32).toInt32) &&& (3 : Int32)) % (3 : Int32))))] [])) tgt
    refine XS.aload H hx rfl (hb hby at_103) rfl rfl ?_
    exact kt
  clear H
  have F771 : Old Z n0 h756 := (F754.keep K765 all0)
  refine Jvm.OwnW.Aim.callV (pc := 105) (Ls := #[.val (.int p1), .val (.int p2), .val (.int p3), .val (.int ((p3 &&& (3 : Int32)) % (3 : Int32))), .val (.int ((((p3.toUInt32 >>> ((2 : Int32) &&& 31).toUInt32).toInt32) &&& (3 : Int32)) % (3 : Int32))), .val (.int ((p1 &&& (255 : Int32)).toUInt32.toUInt16.toUInt32.toInt32)), .val (.int ((((p1.toUInt32 >>> ((8 : Int32) &&& 31).toUInt32).toInt32) &&& (255 : Int32)).toUInt32.toUInt16.toUInt32.toInt32)), .val (.int ((p2 &&& (255 : Int32)).toUInt32.toUInt16.toUInt32.toInt32)), .val (.int ((((p2.toUInt32 >>> ((8 : Int32) &&& 31).toUInt32).toInt32) &&& (255 : Int32)).toUInt32.toUInt16.toUInt32.toInt32)), .val (.ref sx_701), .val (.ref sx_718), .val (.ref z_762), .val (.int ((((p3 &&& (3 : Int32)) % (3 : Int32)) + (2 : Int32)) + ((((p3.toUInt32 >>> ((2 : Int32) &&& 31).toUInt32).toInt32) &&& (3 : Int32)) % (3 : Int32))))]) (argsL := []) (rest := []) (y := (⟨"java/lang/String", "length", "()I"⟩ : MethodName)) (z := (⟨"java/lang/String", "length", "()I"⟩ : MethodName)) P757 hx hZ hml hown (hw _ (List.mem_of_getElem? (i := 169) rfl)) (hw _ (List.mem_of_getElem? (i := 87) rfl)) (fun vm0 hZ => notFace_of_selects (args := #[]) (mvT (s := s.setVm vm0) hZ (hw _ (List.mem_of_getElem? (i := 89) rfl)))) (hw _ (List.mem_of_getElem? (i := 89) rfl)) (hw _ (List.mem_of_getElem? (i := 88) rfl)) (by decide) F768.1 (fun vm0 hZ => Jvm.OwnN.Con.back (s := s.setVm vm0) (W := 0) (own_length l Z a0 hw z_762 t_763 k_764 ((mkc ((p3 &&& (3 : Int32)) % (3 : Int32)) ((p1 &&& (255 : Int32)).toUInt32.toUInt16.toUInt32.toInt32) ((((p1.toUInt32 >>> ((8 : Int32) &&& 31).toUInt32).toInt32) &&& (255 : Int32)).toUInt32.toUInt16.toUInt32.toInt32)) ++ [58, 32] ++ (mkc ((((p3.toUInt32 >>> ((2 : Int32) &&& 31).toUInt32).toInt32) &&& (3 : Int32)) % (3 : Int32)) ((p2 &&& (255 : Int32)).toUInt32.toUInt16.toUInt32.toInt32) ((((p2.toUInt32 >>> ((8 : Int32) &&& 31).toUInt32).toInt32) &&& (255 : Int32)).toUInt32.toUInt16.toUInt32.toInt32))) h756 n0 (Nat.le_trans Z0 (K769.1)) F768 F771 G) hZ (hw _ (List.mem_of_getElem? (i := 90) rfl)) (hw _ (List.mem_of_getElem? (i := 6) rfl)) (by decide) (by decide)) (fun _ _ ⟨_, q⟩ => (by subst q; exact Keep.refl _ [])) all0 rfl pd__28_29I rfl (Nat.le_of_eq rfl) (hb hby at_105) (by decide) (by decide) ?_
  intro T772 h773 v776 P774 hQ775
  obtain ⟨rfl, rfl⟩ := hQ775
  show Jvm.OwnW.Aim p e below s _ _ n0 _ T772 (mkF m 108 #[.val (.int p1), .val (.int p2), .val (.int p3), .val (.int ((p3 &&& (3 : Int32)) % (3 : Int32))), .val (.int ((((p3.toUInt32 >>> ((2 : Int32) &&& 31).toUInt32).toInt32) &&& (3 : Int32)) % (3 : Int32))), .val (.int ((p1 &&& (255 : Int32)).toUInt32.toUInt16.toUInt32.toInt32)), .val (.int ((((p1.toUInt32 >>> ((8 : Int32) &&& 31).toUInt32).toInt32) &&& (255 : Int32)).toUInt32.toUInt16.toUInt32.toInt32)), .val (.int ((p2 &&& (255 : Int32)).toUInt32.toUInt16.toUInt32.toInt32)), .val (.int ((((p2.toUInt32 >>> ((8 : Int32) &&& 31).toUInt32).toInt32) &&& (255 : Int32)).toUInt32.toUInt16.toUInt32.toInt32)), .val (.ref sx_701), .val (.ref sx_718), .val (.ref z_762), .val (.int ((((p3 &&& (3 : Int32)) % (3 : Int32)) + (2 : Int32)) + ((((p3.toUInt32 >>> ((2 : Int32) &&& 31).toUInt32).toInt32) &&& (3 : Int32)) % (3 : Int32))))] [(.int (Int32.ofNat ((mkc ((p3 &&& (3 : Int32)) % (3 : Int32)) ((p1 &&& (255 : Int32)).toUInt32.toUInt16.toUInt32.toInt32) ((((p1.toUInt32 >>> ((8 : Int32) &&& 31).toUInt32).toInt32) &&& (255 : Int32)).toUInt32.toUInt16.toUInt32.toInt32)) ++ [58, 32] ++ (mkc ((((p3.toUInt32 >>> ((2 : Int32) &&& 31).toUInt32).toInt32) &&& (3 : Int32)) % (3 : Int32)) ((p2 &&& (255 : Int32)).toUInt32.toUInt16.toUInt32.toInt32) ((((p2.toUInt32 >>> ((8 : Int32) &&& 31).toUInt32).toInt32) &&& (255 : Int32)).toUInt32.toUInt16.toUInt32.toInt32))).length))])
  have H := P774.here
  refine Jvm.OwnW.Aim.of (T := T772) (T' := T772) (g := (mkF m 108 #[.val (.int p1), .val (.int p2), .val (.int p3), .val (.int ((p3 &&& (3 : Int32)) % (3 : Int32))), .val (.int ((((p3.toUInt32 >>> ((2 : Int32) &&& 31).toUInt32).toInt32) &&& (3 : Int32)) % (3 : Int32))), .val (.int ((p1 &&& (255 : Int32)).toUInt32.toUInt16.toUInt32.toInt32)), .val (.int ((((p1.toUInt32 >>> ((8 : Int32) &&& 31).toUInt32).toInt32) &&& (255 : Int32)).toUInt32.toUInt16.toUInt32.toInt32)), .val (.int ((p2 &&& (255 : Int32)).toUInt32.toUInt16.toUInt32.toInt32)), .val (.int ((((p2.toUInt32 >>> ((8 : Int32) &&& 31).toUInt32).toInt32) &&& (255 : Int32)).toUInt32.toUInt16.toUInt32.toInt32)), .val (.ref sx_701), .val (.ref sx_718), .val (.ref z_762), .val (.int ((((p3 &&& (3 : Int32)) % (3 : Int32)) + (2 : Int32)) + ((((p3.toUInt32 >>> ((2 : Int32) &&& 31).toUInt32).toInt32) &&& (3 : Int32)) % (3 : Int32))))] [(.int (Int32.ofNat ((mkc ((p3 &&& (3 : Int32)) % (3 : Int32)) ((p1 &&& (255 : Int32)).toUInt32.toUInt16.toUInt32.toInt32) ((((p1.toUInt32 >>> ((8 : Int32) &&& 31).toUInt32).toInt32) &&& (255 : Int32)).toUInt32.toUInt16.toUInt32.toInt32)) ++ [58, 32] ++ (mkc ((((p3.toUInt32 >>> ((2 : Int32) &&& 31).toUInt32).toInt32) &&& (3 : Int32)) % (3 : Int32)) ((p2 &&& (255 : Int32)).toUInt32.toUInt16.toUInt32.toInt32) ((((p2.toUInt32 >>> ((8 : Int32) &&& 31).toUInt32).toInt32) &&& (255 : Int32)).toUInt32.toUInt16.toUInt32.toInt32))).length))])) (g' := (mkF m 129 #[.val (.int p1), .val (.int p2), .val (.int p3), .val (.int ((p3 &&& (3 : Int32)) % (3 : Int32))), .val (.int ((((p3.toUInt32 >>> ((2 : Int32) &&& 31).toUInt32).toInt32) &&& (3 : Int32)) % (3 : Int32))), .val (.int ((p1 &&& (255 : Int32)).toUInt32.toUInt16.toUInt32.toInt32)), .val (.int ((((p1.toUInt32 >>> ((8 : Int32) &&& 31).toUInt32).toInt32) &&& (255 : Int32)).toUInt32.toUInt16.toUInt32.toInt32)), .val (.int ((p2 &&& (255 : Int32)).toUInt32.toUInt16.toUInt32.toInt32)), .val (.int ((((p2.toUInt32 >>> ((8 : Int32) &&& 31).toUInt32).toInt32) &&& (255 : Int32)).toUInt32.toUInt16.toUInt32.toInt32)), .val (.ref sx_701), .val (.ref sx_718), .val (.ref z_762), .val (.int ((((p3 &&& (3 : Int32)) % (3 : Int32)) + (2 : Int32)) + ((((p3.toUInt32 >>> ((2 : Int32) &&& 31).toUInt32).toInt32) &&& (3 : Int32)) % (3 : Int32))))] [(.int ((((p2.toUInt32 >>> ((8 : Int32) &&& 31).toUInt32).toInt32) &&& (255 : Int32)).toUInt32.toUInt16.toUInt32.toInt32)), (.int ((p2 &&& (255 : Int32)).toUInt32.toUInt16.toUInt32.toInt32)), (.int ((((p1.toUInt32 >>> ((8 : Int32) &&& 31).toUInt32).toInt32) &&& (255 : Int32)).toUInt32.toUInt16.toUInt32.toInt32)), (.int ((p1 &&& (255 : Int32)).toUInt32.toUInt16.toUInt32.toInt32)), (.int ((p3 &&& (3 : Int32)) % (3 : Int32))), (.int ((((p3 &&& (3 : Int32)) % (3 : Int32)) + (2 : Int32)) + ((((p3.toUInt32 >>> ((2 : Int32) &&& 31).toUInt32).toInt32) &&& (3 : Int32)) % (3 : Int32)))), (.int (0 : Int32)), (.ref z_762)])) (fun tgt kt => ?_) ?_
  · show Steps p.tables e below (T772.setTop (mkF m 108 #[.val (.int p1), .val (.int p2), .val (.int p3), .val (.int ((p3 &&& (3 : Int32)) % (3 : Int32))), .val (.int ((((p3.toUInt32 >>> ((2 : Int32) &&& 31).toUInt32).toInt32) &&& (3 : Int32)) % (3 : Int32))), .val (.int ((p1 &&& (255 : Int32)).toUInt32.toUInt16.toUInt32.toInt32)), .val (.int ((((p1.toUInt32 >>> ((8 : Int32) &&& 31).toUInt32).toInt32) &&& (255 : Int32)).toUInt32.toUInt16.toUInt32.toInt32)), .val (.int ((p2 &&& (255 : Int32)).toUInt32.toUInt16.toUInt32.toInt32)), .val (.int ((((p2.toUInt32 >>> ((8 : Int32) &&& 31).toUInt32).toInt32) &&& (255 : Int32)).toUInt32.toUInt16.toUInt32.toInt32)), .val (.ref sx_701), .val (.ref sx_718), .val (.ref z_762), .val (.int ((((p3 &&& (3 : Int32)) % (3 : Int32)) + (2 : Int32)) + ((((p3.toUInt32 >>> ((2 : Int32) &&& 31).toUInt32).toInt32) &&& (3 : Int32)) % (3 : Int32))))] [(.int (Int32.ofNat ((mkc ((p3 &&& (3 : Int32)) % (3 : Int32)) ((p1 &&& (255 : Int32)).toUInt32.toUInt16.toUInt32.toInt32) ((((p1.toUInt32 >>> ((8 : Int32) &&& 31).toUInt32).toInt32) &&& (255 : Int32)).toUInt32.toUInt16.toUInt32.toInt32)) ++ [58, 32] ++ (mkc ((((p3.toUInt32 >>> ((2 : Int32) &&& 31).toUInt32).toInt32) &&& (3 : Int32)) % (3 : Int32)) ((p2 &&& (255 : Int32)).toUInt32.toUInt16.toUInt32.toInt32) ((((p2.toUInt32 >>> ((8 : Int32) &&& 31).toUInt32).toInt32) &&& (255 : Int32)).toUInt32.toUInt16.toUInt32.toInt32))).length))])) tgt
    refine XS.iload H hx rfl (hb hby at_108) rfl ?_
    show Steps p.tables e below (T772.setTop (mkF m 110 #[.val (.int p1), .val (.int p2), .val (.int p3), .val (.int ((p3 &&& (3 : Int32)) % (3 : Int32))), .val (.int ((((p3.toUInt32 >>> ((2 : Int32) &&& 31).toUInt32).toInt32) &&& (3 : Int32)) % (3 : Int32))), .val (.int ((p1 &&& (255 : Int32)).toUInt32.toUInt16.toUInt32.toInt32)), .val (.int ((((p1.toUInt32 >>> ((8 : Int32) &&& 31).toUInt32).toInt32) &&& (255 : Int32)).toUInt32.toUInt16.toUInt32.toInt32)), .val (.int ((p2 &&& (255 : Int32)).toUInt32.toUInt16.toUInt32.toInt32)), .val (.int ((((p2.toUInt32 >>> ((8 : Int32) &&& 31).toUInt32).toInt32) &&& (255 : Int32)).toUInt32.toUInt16.toUInt32.toInt32)), .val (.ref sx_701), .val (.ref sx_718), .val (.ref z_762), .val (.int ((((p3 &&& (3 : Int32)) % (3 : Int32)) + (2 : Int32)) + ((((p3.toUInt32 >>> ((2 : Int32) &&& 31).toUInt32).toInt32) &&& (3 : Int32)) % (3 : Int32))))] [(.int ((((p3 &&& (3 : Int32)) % (3 : Int32)) + (2 : Int32)) + ((((p3.toUInt32 >>> ((2 : Int32) &&& 31).toUInt32).toInt32) &&& (3 : Int32)) % (3 : Int32)))), (.int (Int32.ofNat ((mkc ((p3 &&& (3 : Int32)) % (3 : Int32)) ((p1 &&& (255 : Int32)).toUInt32.toUInt16.toUInt32.toInt32) ((((p1.toUInt32 >>> ((8 : Int32) &&& 31).toUInt32).toInt32) &&& (255 : Int32)).toUInt32.toUInt16.toUInt32.toInt32)) ++ [58, 32] ++ (mkc ((((p3.toUInt32 >>> ((2 : Int32) &&& 31).toUInt32).toInt32) &&& (3 : Int32)) % (3 : Int32)) ((p2 &&& (255 : Int32)).toUInt32.toUInt16.toUInt32.toInt32) ((((p2.toUInt32 >>> ((8 : Int32) &&& 31).toUInt32).toInt32) &&& (255 : Int32)).toUInt32.toUInt16.toUInt32.toInt32))).length))])) tgt
    refine XS.icmpYes H hx rfl (pc0 := 110) (pc' := 115) rfl (hb hby at_110) rfl (teq (own_n htl hel).symm).1 (by decide) (by decide) ?_
    show Steps p.tables e below (T772.setTop (mkF m 115 #[.val (.int p1), .val (.int p2), .val (.int p3), .val (.int ((p3 &&& (3 : Int32)) % (3 : Int32))), .val (.int ((((p3.toUInt32 >>> ((2 : Int32) &&& 31).toUInt32).toInt32) &&& (3 : Int32)) % (3 : Int32))), .val (.int ((p1 &&& (255 : Int32)).toUInt32.toUInt16.toUInt32.toInt32)), .val (.int ((((p1.toUInt32 >>> ((8 : Int32) &&& 31).toUInt32).toInt32) &&& (255 : Int32)).toUInt32.toUInt16.toUInt32.toInt32)), .val (.int ((p2 &&& (255 : Int32)).toUInt32.toUInt16.toUInt32.toInt32)), .val (.int ((((p2.toUInt32 >>> ((8 : Int32) &&& 31).toUInt32).toInt32) &&& (255 : Int32)).toUInt32.toUInt16.toUInt32.toInt32)), .val (.ref sx_701), .val (.ref sx_718), .val (.ref z_762), .val (.int ((((p3 &&& (3 : Int32)) % (3 : Int32)) + (2 : Int32)) + ((((p3.toUInt32 >>> ((2 : Int32) &&& 31).toUInt32).toInt32) &&& (3 : Int32)) % (3 : Int32))))] [])) tgt
    refine XS.aload H hx rfl (hb hby at_115) rfl rfl ?_
    show Steps p.tables e below (T772.setTop (mkF m 117 #[.val (.int p1), .val (.int p2), .val (.int p3), .val (.int ((p3 &&& (3 : Int32)) % (3 : Int32))), .val (.int ((((p3.toUInt32 >>> ((2 : Int32) &&& 31).toUInt32).toInt32) &&& (3 : Int32)) % (3 : Int32))), .val (.int ((p1 &&& (255 : Int32)).toUInt32.toUInt16.toUInt32.toInt32)), .val (.int ((((p1.toUInt32 >>> ((8 : Int32) &&& 31).toUInt32).toInt32) &&& (255 : Int32)).toUInt32.toUInt16.toUInt32.toInt32)), .val (.int ((p2 &&& (255 : Int32)).toUInt32.toUInt16.toUInt32.toInt32)), .val (.int ((((p2.toUInt32 >>> ((8 : Int32) &&& 31).toUInt32).toInt32) &&& (255 : Int32)).toUInt32.toUInt16.toUInt32.toInt32)), .val (.ref sx_701), .val (.ref sx_718), .val (.ref z_762), .val (.int ((((p3 &&& (3 : Int32)) % (3 : Int32)) + (2 : Int32)) + ((((p3.toUInt32 >>> ((2 : Int32) &&& 31).toUInt32).toInt32) &&& (3 : Int32)) % (3 : Int32))))] [(.ref z_762)])) tgt
    refine XS.iconst H hx rfl (hb hby at_117) ?_
    show Steps p.tables e below (T772.setTop (mkF m 118 #[.val (.int p1), .val (.int p2), .val (.int p3), .val (.int ((p3 &&& (3 : Int32)) % (3 : Int32))), .val (.int ((((p3.toUInt32 >>> ((2 : Int32) &&& 31).toUInt32).toInt32) &&& (3 : Int32)) % (3 : Int32))), .val (.int ((p1 &&& (255 : Int32)).toUInt32.toUInt16.toUInt32.toInt32)), .val (.int ((((p1.toUInt32 >>> ((8 : Int32) &&& 31).toUInt32).toInt32) &&& (255 : Int32)).toUInt32.toUInt16.toUInt32.toInt32)), .val (.int ((p2 &&& (255 : Int32)).toUInt32.toUInt16.toUInt32.toInt32)), .val (.int ((((p2.toUInt32 >>> ((8 : Int32) &&& 31).toUInt32).toInt32) &&& (255 : Int32)).toUInt32.toUInt16.toUInt32.toInt32)), .val (.ref sx_701), .val (.ref sx_718), .val (.ref z_762), .val (.int ((((p3 &&& (3 : Int32)) % (3 : Int32)) + (2 : Int32)) + ((((p3.toUInt32 >>> ((2 : Int32) &&& 31).toUInt32).toInt32) &&& (3 : Int32)) % (3 : Int32))))] [(.int (0 : Int32)), (.ref z_762)])) tgt
    refine XS.iload H hx rfl (hb hby at_118) rfl ?_
    show Steps p.tables e below (T772.setTop (mkF m 120 #[.val (.int p1), .val (.int p2), .val (.int p3), .val (.int ((p3 &&& (3 : Int32)) % (3 : Int32))), .val (.int ((((p3.toUInt32 >>> ((2 : Int32) &&& 31).toUInt32).toInt32) &&& (3 : Int32)) % (3 : Int32))), .val (.int ((p1 &&& (255 : Int32)).toUInt32.toUInt16.toUInt32.toInt32)), .val (.int ((((p1.toUInt32 >>> ((8 : Int32) &&& 31).toUInt32).toInt32) &&& (255 : Int32)).toUInt32.toUInt16.toUInt32.toInt32)), .val (.int ((p2 &&& (255 : Int32)).toUInt32.toUInt16.toUInt32.toInt32)), .val (.int ((((p2.toUInt32 >>> ((8 : Int32) &&& 31).toUInt32).toInt32) &&& (255 : Int32)).toUInt32.toUInt16.toUInt32.toInt32)), .val (.ref sx_701), .val (.ref sx_718), .val (.ref z_762), .val (.int ((((p3 &&& (3 : Int32)) % (3 : Int32)) + (2 : Int32)) + ((((p3.toUInt32 >>> ((2 : Int32) &&& 31).toUInt32).toInt32) &&& (3 : Int32)) % (3 : Int32))))] [(.int ((((p3 &&& (3 : Int32)) % (3 : Int32)) + (2 : Int32)) + ((((p3.toUInt32 >>> ((2 : Int32) &&& 31).toUInt32).toInt32) &&& (3 : Int32)) % (3 : Int32)))), (.int (0 : Int32)), (.ref z_762)])) tgt
    refine XS.iloadN H hx rfl (hb hby at_120) rfl ?_
    show Steps p.tables e below (T772.setTop (mkF m 121 #[.val (.int p1), .val (.int p2), .val (.int p3), .val (.int ((p3 &&& (3 : Int32)) % (3 : Int32))), .val (.int ((((p3.toUInt32 >>> ((2 : Int32) &&& 31).toUInt32).toInt32) &&& (3 : Int32)) % (3 : Int32))), .val (.int ((p1 &&& (255 : Int32)).toUInt32.toUInt16.toUInt32.toInt32)), .val (.int ((((p1.toUInt32 >>> ((8 : Int32) &&& 31).toUInt32).toInt32) &&& (255 : Int32)).toUInt32.toUInt16.toUInt32.toInt32)), .val (.int ((p2 &&& (255 : Int32)).toUInt32.toUInt16.toUInt32.toInt32)), .val (.int ((((p2.toUInt32 >>> ((8 : Int32) &&& 31).toUInt32).toInt32) &&& (255 : Int32)).toUInt32.toUInt16.toUInt32.toInt32)), .val (.ref sx_701), .val (.ref sx_718), .val (.ref z_762), .val (.int ((((p3 &&& (3 : Int32)) % (3 : Int32)) + (2 : Int32)) + ((((p3.toUInt32 >>> ((2 : Int32) &&& 31).toUInt32).toInt32) &&& (3 : Int32)) % (3 : Int32))))] [(.int ((p3 &&& (3 : Int32)) % (3 : Int32))), (.int ((((p3 &&& (3 : Int32)) % (3 : Int32)) + (2 : Int32)) + ((((p3.toUInt32 >>> ((2 : Int32) &&& 31).toUInt32).toInt32) &&& (3 : Int32)) % (3 : Int32)))), (.int (0 : Int32)), (.ref z_762)])) tgt
    refine XS.iload H hx rfl (hb hby at_121) rfl ?_
    show Steps p.tables e below (T772.setTop (mkF m 123 #[.val (.int p1), .val (.int p2), .val (.int p3), .val (.int ((p3 &&& (3 : Int32)) % (3 : Int32))), .val (.int ((((p3.toUInt32 >>> ((2 : Int32) &&& 31).toUInt32).toInt32) &&& (3 : Int32)) % (3 : Int32))), .val (.int ((p1 &&& (255 : Int32)).toUInt32.toUInt16.toUInt32.toInt32)), .val (.int ((((p1.toUInt32 >>> ((8 : Int32) &&& 31).toUInt32).toInt32) &&& (255 : Int32)).toUInt32.toUInt16.toUInt32.toInt32)), .val (.int ((p2 &&& (255 : Int32)).toUInt32.toUInt16.toUInt32.toInt32)), .val (.int ((((p2.toUInt32 >>> ((8 : Int32) &&& 31).toUInt32).toInt32) &&& (255 : Int32)).toUInt32.toUInt16.toUInt32.toInt32)), .val (.ref sx_701), .val (.ref sx_718), .val (.ref z_762), .val (.int ((((p3 &&& (3 : Int32)) % (3 : Int32)) + (2 : Int32)) + ((((p3.toUInt32 >>> ((2 : Int32) &&& 31).toUInt32).toInt32) &&& (3 : Int32)) % (3 : Int32))))] [(.int ((p1 &&& (255 : Int32)).toUInt32.toUInt16.toUInt32.toInt32)), (.int ((p3 &&& (3 : Int32)) % (3 : Int32))), (.int ((((p3 &&& (3 : Int32)) % (3 : Int32)) + (2 : Int32)) + ((((p3.toUInt32 >>> ((2 : Int32) &&& 31).toUInt32).toInt32) &&& (3 : Int32)) % (3 : Int32)))), (.int (0 : Int32)), (.ref z_762)])) tgt
    refine XS.iload H hx rfl (hb hby at_123) rfl ?_
    show Steps p.tables e below (T772.setTop (mkF m 125 #[.val (.int p1), .val (.int p2), .val (.int p3), .val (.int ((p3 &&& (3 : Int32)) % (3 : Int32))), .val (.int ((((p3.toUInt32 >>> ((2 : Int32) &&& 31).toUInt32).toInt32) &&& (3 : Int32)) % (3 : Int32))), .val (.int ((p1 &&& (255 : Int32)).toUInt32.toUInt16.toUInt32.toInt32)), .val (.int ((((p1.toUInt32 >>> ((8 : Int32) &&& 31).toUInt32).toInt32) &&& (255 : Int32)).toUInt32.toUInt16.toUInt32.toInt32)), .val (.int ((p2 &&& (255 : Int32)).toUInt32.toUInt16.toUInt32.toInt32)), .val (.int ((((p2.toUInt32 >>> ((8 : Int32) &&& 31).toUInt32).toInt32) &&& (255 : Int32)).toUInt32.toUInt16.toUInt32.toInt32)), .val (.ref sx_701), .val (.ref sx_718), .val (.ref z_762), .val (.int ((((p3 &&& (3 : Int32)) % (3 : Int32)) + (2 : Int32)) + ((((p3.toUInt32 >>> ((2 : Int32) &&& 31).toUInt32).toInt32) &&& (3 : Int32)) % (3 : Int32))))] [(.int ((((p1.toUInt32 >>> ((8 : Int32) &&& 31).toUInt32).toInt32) &&& (255 : Int32)).toUInt32.toUInt16.toUInt32.toInt32)), (.int ((p1 &&& (255 : Int32)).toUInt32.toUInt16.toUInt32.toInt32)), (.int ((p3 &&& (3 : Int32)) % (3 : Int32))), (.int ((((p3 &&& (3 : Int32)) % (3 : Int32)) + (2 : Int32)) + ((((p3.toUInt32 >>> ((2 : Int32) &&& 31).toUInt32).toInt32) &&& (3 : Int32)) % (3 : Int32)))), (.int (0 : Int32)), (.ref z_762)])) tgt
    refine XS.iload H hx rfl (hb hby at_125) rfl ?_
    show Steps p.tables e below (T772.setTop (mkF m 127 #[.val (.int p1), .val (.int p2), .val (.int p3), .val (.int ((p3 &&& (3 : Int32)) % (3 : Int32))), .val (.int ((((p3.toUInt32 >>> ((2 : Int32) &&& 31).toUInt32).toInt32) &&& (3 : Int32)) % (3 : Int32))), .val (.int ((p1 &&& (255 : Int32)).toUInt32.toUInt16.toUInt32.toInt32)), .val (.int ((((p1.toUInt32 >>> ((8 : Int32) &&& 31).toUInt32).toInt32) &&& (255 : Int32)).toUInt32.toUInt16.toUInt32.toInt32)), .val (.int ((p2 &&& (255 : Int32)).toUInt32.toUInt16.toUInt32.toInt32)), .val (.int ((((p2.toUInt32 >>> ((8 : Int32) &&& 31).toUInt32).toInt32) &&& (255 : Int32)).toUInt32.toUInt16.toUInt32.toInt32)), .val (.ref sx_701), .val (.ref sx_718), .val (.ref z_762), .val (.int ((((p3 &&& (3 : Int32)) % (3 : Int32)) + (2 : Int32)) + ((((p3.toUInt32 >>> ((2 : Int32) &&& 31).toUInt32).toInt32) &&& (3 : Int32)) % (3 : Int32))))] [(.int ((p2 &&& (255 : Int32)).toUInt32.toUInt16.toUInt32.toInt32)), (.int ((((p1.toUInt32 >>> ((8 : Int32) &&& 31).toUInt32).toInt32) &&& (255 : Int32)).toUInt32.toUInt16.toUInt32.toInt32)), (.int ((p1 &&& (255 : Int32)).toUInt32.toUInt16.toUInt32.toInt32)), (.int ((p3 &&& (3 : Int32)) % (3 : Int32))), (.int ((((p3 &&& (3 : Int32)) % (3 : Int32)) + (2 : Int32)) + ((((p3.toUInt32 >>> ((2 : Int32) &&& 31).toUInt32).toInt32) &&& (3 : Int32)) % (3 : Int32)))), (.int (0 : Int32)), (.ref z_762)])) tgt
    refine XS.iload H hx rfl (hb hby at_127) rfl ?_
    exact kt
  clear H
  refine Jvm.OwnW.Aim.callS (pc := 129) (Ls := #[.val (.int p1), .val (.int p2), .val (.int p3), .val (.int ((p3 &&& (3 : Int32)) % (3 : Int32))), .val (.int ((((p3.toUInt32 >>> ((2 : Int32) &&& 31).toUInt32).toInt32) &&& (3 : Int32)) % (3 : Int32))), .val (.int ((p1 &&& (255 : Int32)).toUInt32.toUInt16.toUInt32.toInt32)), .val (.int ((((p1.toUInt32 >>> ((8 : Int32) &&& 31).toUInt32).toInt32) &&& (255 : Int32)).toUInt32.toUInt16.toUInt32.toInt32)), .val (.int ((p2 &&& (255 : Int32)).toUInt32.toUInt16.toUInt32.toInt32)), .val (.int ((((p2.toUInt32 >>> ((8 : Int32) &&& 31).toUInt32).toInt32) &&& (255 : Int32)).toUInt32.toUInt16.toUInt32.toInt32)), .val (.ref sx_701), .val (.ref sx_718), .val (.ref z_762), .val (.int ((((p3 &&& (3 : Int32)) % (3 : Int32)) + (2 : Int32)) + ((((p3.toUInt32 >>> ((2 : Int32) &&& 31).toUInt32).toInt32) &&& (3 : Int32)) % (3 : Int32))))]) (argsL := [(.ref z_762), (.int (0 : Int32)), (.int ((((p3 &&& (3 : Int32)) % (3 : Int32)) + (2 : Int32)) + ((((p3.toUInt32 >>> ((2 : Int32) &&& 31).toUInt32).toInt32) &&& (3 : Int32)) % (3 : Int32)))), (.int ((p3 &&& (3 : Int32)) % (3 : Int32))), (.int ((p1 &&& (255 : Int32)).toUInt32.toUInt16.toUInt32.toInt32)), (.int ((((p1.toUInt32 >>> ((8 : Int32) &&& 31).toUInt32).toInt32) &&& (255 : Int32)).toUInt32.toUInt16.toUInt32.toInt32)), (.int ((p2 &&& (255 : Int32)).toUInt32.toUInt16.toUInt32.toInt32)), (.int ((((p2.toUInt32 >>> ((8 : Int32) &&& 31).toUInt32).toInt32) &&& (255 : Int32)).toUInt32.toUInt16.toUInt32.toInt32))]) (rest := []) P774 hx hZ hml hown (hw _ (List.mem_of_getElem? (i := 170) rfl)) (hw _ (List.mem_of_getElem? (i := 171) rfl)) (hw _ (List.mem_of_getElem? (i := 2) rfl)) (hw _ (List.mem_of_getElem? (i := 172) rfl)) (by decide) (fun vm0 hZ => Jvm.OwnN.Con.back (s := s.setVm vm0) (W := 0) (own_ok l Z a0 hw z_762 t_763 k_764 ((mkc ((p3 &&& (3 : Int32)) % (3 : Int32)) ((p1 &&& (255 : Int32)).toUInt32.toUInt16.toUInt32.toInt32) ((((p1.toUInt32 >>> ((8 : Int32) &&& 31).toUInt32).toInt32) &&& (255 : Int32)).toUInt32.toUInt16.toUInt32.toInt32)) ++ [58, 32] ++ (mkc ((((p3.toUInt32 >>> ((2 : Int32) &&& 31).toUInt32).toInt32) &&& (3 : Int32)) % (3 : Int32)) ((p2 &&& (255 : Int32)).toUInt32.toUInt16.toUInt32.toInt32) ((((p2.toUInt32 >>> ((8 : Int32) &&& 31).toUInt32).toInt32) &&& (255 : Int32)).toUInt32.toUInt16.toUInt32.toInt32))) (0 : Int32) ((((p3 &&& (3 : Int32)) % (3 : Int32)) + (2 : Int32)) + ((((p3.toUInt32 >>> ((2 : Int32) &&& 31).toUInt32).toInt32) &&& (3 : Int32)) % (3 : Int32))) ((p3 &&& (3 : Int32)) % (3 : Int32)) ((p1 &&& (255 : Int32)).toUInt32.toUInt16.toUInt32.toInt32) ((((p1.toUInt32 >>> ((8 : Int32) &&& 31).toUInt32).toInt32) &&& (255 : Int32)).toUInt32.toUInt16.toUInt32.toInt32) ((p2 &&& (255 : Int32)).toUInt32.toUInt16.toUInt32.toInt32) ((((p2.toUInt32 >>> ((8 : Int32) &&& 31).toUInt32).toInt32) &&& (255 : Int32)).toUInt32.toUInt16.toUInt32.toInt32) h756 n0 (Nat.le_trans Z0 (K769.1)) F768 F771 (own_char _) (own_char _) (own_char _) (own_char _) (by decide) (own_n htl hel) G GS) hZ (hw _ (List.mem_of_getElem? (i := 172) rfl)) (hw _ (List.mem_of_getElem? (i := 2) rfl)) (by decide) (by decide)) (fun _ _ ⟨_, q⟩ => (by subst q; exact Keep.refl _ [])) all0 rfl pd__28Ljava_2flang_2fString_3bIIICCCC_29Z rfl (Nat.le_of_eq rfl) (hb hby at_129) (by decide) (by decide) ?_
  intro T779 h780 v783 P781 hQ782
  obtain ⟨rfl, rfl⟩ := hQ782
  show Jvm.OwnW.Aim p e below s _ _ n0 _ T779 (mkF m 132 #[.val (.int p1), .val (.int p2), .val (.int p3), .val (.int ((p3 &&& (3 : Int32)) % (3 : Int32))), .val (.int ((((p3.toUInt32 >>> ((2 : Int32) &&& 31).toUInt32).toInt32) &&& (3 : Int32)) % (3 : Int32))), .val (.int ((p1 &&& (255 : Int32)).toUInt32.toUInt16.toUInt32.toInt32)), .val (.int ((((p1.toUInt32 >>> ((8 : Int32) &&& 31).toUInt32).toInt32) &&& (255 : Int32)).toUInt32.toUInt16.toUInt32.toInt32)), .val (.int ((p2 &&& (255 : Int32)).toUInt32.toUInt16.toUInt32.toInt32)), .val (.int ((((p2.toUInt32 >>> ((8 : Int32) &&& 31).toUInt32).toInt32) &&& (255 : Int32)).toUInt32.toUInt16.toUInt32.toInt32)), .val (.ref sx_701), .val (.ref sx_718), .val (.ref z_762), .val (.int ((((p3 &&& (3 : Int32)) % (3 : Int32)) + (2 : Int32)) + ((((p3.toUInt32 >>> ((2 : Int32) &&& 31).toUInt32).toInt32) &&& (3 : Int32)) % (3 : Int32))))] [(.int (okV ((mkc ((p3 &&& (3 : Int32)) % (3 : Int32)) ((p1 &&& (255 : Int32)).toUInt32.toUInt16.toUInt32.toInt32) ((((p1.toUInt32 >>> ((8 : Int32) &&& 31).toUInt32).toInt32) &&& (255 : Int32)).toUInt32.toUInt16.toUInt32.toInt32)) ++ [58, 32] ++ (mkc ((((p3.toUInt32 >>> ((2 : Int32) &&& 31).toUInt32).toInt32) &&& (3 : Int32)) % (3 : Int32)) ((p2 &&& (255 : Int32)).toUInt32.toUInt16.toUInt32.toInt32) ((((p2.toUInt32 >>> ((8 : Int32) &&& 31).toUInt32).toInt32) &&& (255 : Int32)).toUInt32.toUInt16.toUInt32.toInt32))) (0 : Int32) ((((p3 &&& (3 : Int32)) % (3 : Int32)) + (2 : Int32)) + ((((p3.toUInt32 >>> ((2 : Int32) &&& 31).toUInt32).toInt32) &&& (3 : Int32)) % (3 : Int32))) ((p3 &&& (3 : Int32)) % (3 : Int32)) ((p1 &&& (255 : Int32)).toUInt32.toUInt16.toUInt32.toInt32) ((((p1.toUInt32 >>> ((8 : Int32) &&& 31).toUInt32).toInt32) &&& (255 : Int32)).toUInt32.toUInt16.toUInt32.toInt32) ((p2 &&& (255 : Int32)).toUInt32.toUInt16.toUInt32.toInt32) ((((p2.toUInt32 >>> ((8 : Int32) &&& 31).toUInt32).toInt32) &&& (255 : Int32)).toUInt32.toUInt16.toUInt32.toInt32)))])
  have H := P781.here
  refine Jvm.OwnW.Aim.of (T := T779) (T' := T779) (g := (mkF m 132 #[.val (.int p1), .val (.int p2), .val (.int p3), .val (.int ((p3 &&& (3 : Int32)) % (3 : Int32))), .val (.int ((((p3.toUInt32 >>> ((2 : Int32) &&& 31).toUInt32).toInt32) &&& (3 : Int32)) % (3 : Int32))), .val (.int ((p1 &&& (255 : Int32)).toUInt32.toUInt16.toUInt32.toInt32)), .val (.int ((((p1.toUInt32 >>> ((8 : Int32) &&& 31).toUInt32).toInt32) &&& (255 : Int32)).toUInt32.toUInt16.toUInt32.toInt32)), .val (.int ((p2 &&& (255 : Int32)).toUInt32.toUInt16.toUInt32.toInt32)), .val (.int ((((p2.toUInt32 >>> ((8 : Int32) &&& 31).toUInt32).toInt32) &&& (255 : Int32)).toUInt32.toUInt16.toUInt32.toInt32)), .val (.ref sx_701), .val (.ref sx_718), .val (.ref z_762), .val (.int ((((p3 &&& (3 : Int32)) % (3 : Int32)) + (2 : Int32)) + ((((p3.toUInt32 >>> ((2 : Int32) &&& 31).toUInt32).toInt32) &&& (3 : Int32)) % (3 : Int32))))] [(.int (okV ((mkc ((p3 &&& (3 : Int32)) % (3 : Int32)) ((p1 &&& (255 : Int32)).toUInt32.toUInt16.toUInt32.toInt32) ((((p1.toUInt32 >>> ((8 : Int32) &&& 31).toUInt32).toInt32) &&& (255 : Int32)).toUInt32.toUInt16.toUInt32.toInt32)) ++ [58, 32] ++ (mkc ((((p3.toUInt32 >>> ((2 : Int32) &&& 31).toUInt32).toInt32) &&& (3 : Int32)) % (3 : Int32)) ((p2 &&& (255 : Int32)).toUInt32.toUInt16.toUInt32.toInt32) ((((p2.toUInt32 >>> ((8 : Int32) &&& 31).toUInt32).toInt32) &&& (255 : Int32)).toUInt32.toUInt16.toUInt32.toInt32))) (0 : Int32) ((((p3 &&& (3 : Int32)) % (3 : Int32)) + (2 : Int32)) + ((((p3.toUInt32 >>> ((2 : Int32) &&& 31).toUInt32).toInt32) &&& (3 : Int32)) % (3 : Int32))) ((p3 &&& (3 : Int32)) % (3 : Int32)) ((p1 &&& (255 : Int32)).toUInt32.toUInt16.toUInt32.toInt32) ((((p1.toUInt32 >>> ((8 : Int32) &&& 31).toUInt32).toInt32) &&& (255 : Int32)).toUInt32.toUInt16.toUInt32.toInt32) ((p2 &&& (255 : Int32)).toUInt32.toUInt16.toUInt32.toInt32) ((((p2.toUInt32 >>> ((8 : Int32) &&& 31).toUInt32).toInt32) &&& (255 : Int32)).toUInt32.toUInt16.toUInt32.toInt32)))])) (g' := (mkF m 149 #[.val (.int p1), .val (.int p2), .val (.int p3), .val (.int ((p3 &&& (3 : Int32)) % (3 : Int32))), .val (.int ((((p3.toUInt32 >>> ((2 : Int32) &&& 31).toUInt32).toInt32) &&& (3 : Int32)) % (3 : Int32))), .val (.int ((p1 &&& (255 : Int32)).toUInt32.toUInt16.toUInt32.toInt32)), .val (.int ((((p1.toUInt32 >>> ((8 : Int32) &&& 31).toUInt32).toInt32) &&& (255 : Int32)).toUInt32.toUInt16.toUInt32.toInt32)), .val (.int ((p2 &&& (255 : Int32)).toUInt32.toUInt16.toUInt32.toInt32)), .val (.int ((((p2.toUInt32 >>> ((8 : Int32) &&& 31).toUInt32).toInt32) &&& (255 : Int32)).toUInt32.toUInt16.toUInt32.toInt32)), .val (.ref sx_701), .val (.ref sx_718), .val (.ref z_762), .val (.int ((((p3 &&& (3 : Int32)) % (3 : Int32)) + (2 : Int32)) + ((((p3.toUInt32 >>> ((2 : Int32) &&& 31).toUInt32).toInt32) &&& (3 : Int32)) % (3 : Int32))))] [(.int ((((p2.toUInt32 >>> ((8 : Int32) &&& 31).toUInt32).toInt32) &&& (255 : Int32)).toUInt32.toUInt16.toUInt32.toInt32)), (.int ((p2 &&& (255 : Int32)).toUInt32.toUInt16.toUInt32.toInt32)), (.int ((((p1.toUInt32 >>> ((8 : Int32) &&& 31).toUInt32).toInt32) &&& (255 : Int32)).toUInt32.toUInt16.toUInt32.toInt32)), (.int ((p1 &&& (255 : Int32)).toUInt32.toUInt16.toUInt32.toInt32)), (.int ((p3 &&& (3 : Int32)) % (3 : Int32))), (.int ((((p3 &&& (3 : Int32)) % (3 : Int32)) + (2 : Int32)) + ((((p3.toUInt32 >>> ((2 : Int32) &&& 31).toUInt32).toInt32) &&& (3 : Int32)) % (3 : Int32)))), (.int (1 : Int32)), (.ref z_762)])) (fun tgt kt => ?_) ?_
  · show Steps p.tables e below (T779.setTop (mkF m 132 #[.val (.int p1), .val (.int p2), .val (.int p3), .val (.int ((p3 &&& (3 : Int32)) % (3 : Int32))), .val (.int ((((p3.toUInt32 >>> ((2 : Int32) &&& 31).toUInt32).toInt32) &&& (3 : Int32)) % (3 : Int32))), .val (.int ((p1 &&& (255 : Int32)).toUInt32.toUInt16.toUInt32.toInt32)), .val (.int ((((p1.toUInt32 >>> ((8 : Int32) &&& 31).toUInt32).toInt32) &&& (255 : Int32)).toUInt32.toUInt16.toUInt32.toInt32)), .val (.int ((p2 &&& (255 : Int32)).toUInt32.toUInt16.toUInt32.toInt32)), .val (.int ((((p2.toUInt32 >>> ((8 : Int32) &&& 31).toUInt32).toInt32) &&& (255 : Int32)).toUInt32.toUInt16.toUInt32.toInt32)), .val (.ref sx_701), .val (.ref sx_718), .val (.ref z_762), .val (.int ((((p3 &&& (3 : Int32)) % (3 : Int32)) + (2 : Int32)) + ((((p3.toUInt32 >>> ((2 : Int32) &&& 31).toUInt32).toInt32) &&& (3 : Int32)) % (3 : Int32))))] [(.int (okV ((mkc ((p3 &&& (3 : Int32)) % (3 : Int32)) ((p1 &&& (255 : Int32)).toUInt32.toUInt16.toUInt32.toInt32) ((((p1.toUInt32 >>> ((8 : Int32) &&& 31).toUInt32).toInt32) &&& (255 : Int32)).toUInt32.toUInt16.toUInt32.toInt32)) ++ [58, 32] ++ (mkc ((((p3.toUInt32 >>> ((2 : Int32) &&& 31).toUInt32).toInt32) &&& (3 : Int32)) % (3 : Int32)) ((p2 &&& (255 : Int32)).toUInt32.toUInt16.toUInt32.toInt32) ((((p2.toUInt32 >>> ((8 : Int32) &&& 31).toUInt32).toInt32) &&& (255 : Int32)).toUInt32.toUInt16.toUInt32.toInt32))) (0 : Int32) ((((p3 &&& (3 : Int32)) % (3 : Int32)) + (2 : Int32)) + ((((p3.toUInt32 >>> ((2 : Int32) &&& 31).toUInt32).toInt32) &&& (3 : Int32)) % (3 : Int32))) ((p3 &&& (3 : Int32)) % (3 : Int32)) ((p1 &&& (255 : Int32)).toUInt32.toUInt16.toUInt32.toInt32) ((((p1.toUInt32 >>> ((8 : Int32) &&& 31).toUInt32).toInt32) &&& (255 : Int32)).toUInt32.toUInt16.toUInt32.toInt32) ((p2 &&& (255 : Int32)).toUInt32.toUInt16.toUInt32.toInt32) ((((p2.toUInt32 >>> ((8 : Int32) &&& 31).toUInt32).toInt32) &&& (255 : Int32)).toUInt32.toUInt16.toUInt32.toInt32)))])) tgt
    refine XS.ifNo H hx rfl (hb hby at_132) rfl ((if0 _ _).trans (feq (by rw [own_okV htl hel _ (by simp)]; decide)).1) ?_
    show Steps p.tables e below (T779.setTop (mkF m 135 #[.val (.int p1), .val (.int p2), .val (.int p3), .val (.int ((p3 &&& (3 : Int32)) % (3 : Int32))), .val (.int ((((p3.toUInt32 >>> ((2 : Int32) &&& 31).toUInt32).toInt32) &&& (3 : Int32)) % (3 : Int32))), .val (.int ((p1 &&& (255 : Int32)).toUInt32.toUInt16.toUInt32.toInt32)), .val (.int ((((p1.toUInt32 >>> ((8 : Int32) &&& 31).toUInt32).toInt32) &&& (255 : Int32)).toUInt32.toUInt16.toUInt32.toInt32)), .val (.int ((p2 &&& (255 : Int32)).toUInt32.toUInt16.toUInt32.toInt32)), .val (.int ((((p2.toUInt32 >>> ((8 : Int32) &&& 31).toUInt32).toInt32) &&& (255 : Int32)).toUInt32.toUInt16.toUInt32.toInt32)), .val (.ref sx_701), .val (.ref sx_718), .val (.ref z_762), .val (.int ((((p3 &&& (3 : Int32)) % (3 : Int32)) + (2 : Int32)) + ((((p3.toUInt32 >>> ((2 : Int32) &&& 31).toUInt32).toInt32) &&& (3 : Int32)) % (3 : Int32))))] [])) tgt
    refine XS.aload H hx rfl (hb hby at_135) rfl rfl ?_
    show Steps p.tables e below (T779.setTop (mkF m 137 #[.val (.int p1), .val (.int p2), .val (.int p3), .val (.int ((p3 &&& (3 : Int32)) % (3 : Int32))), .val (.int ((((p3.toUInt32 >>> ((2 : Int32) &&& 31).toUInt32).toInt32) &&& (3 : Int32)) % (3 : Int32))), .val (.int ((p1 &&& (255 : Int32)).toUInt32.toUInt16.toUInt32.toInt32)), .val (.int ((((p1.toUInt32 >>> ((8 : Int32) &&& 31).toUInt32).toInt32) &&& (255 : Int32)).toUInt32.toUInt16.toUInt32.toInt32)), .val (.int ((p2 &&& (255 : Int32)).toUInt32.toUInt16.toUInt32.toInt32)), .val (.int ((((p2.toUInt32 >>> ((8 : Int32) &&& 31).toUInt32).toInt32) &&& (255 : Int32)).toUInt32.toUInt16.toUInt32.toInt32)), .val (.ref sx_701), .val (.ref sx_718), .val (.ref z_762), .val (.int ((((p3 &&& (3 : Int32)) % (3 : Int32)) + (2 : Int32)) + ((((p3.toUInt32 >>> ((2 : Int32) &&& 31).toUInt32).toInt32) &&& (3 : Int32)) % (3 : Int32))))] [(.ref z_762)])) tgt
    refine XS.iconst H hx rfl (hb hby at_137) ?_
    show Steps p.tables e below (T779.setTop (mkF m 138 #[.val (.int p1), .val (.int p2), .val (.int p3), .val (.int ((p3 &&& (3 : Int32)) % (3 : Int32))), .val (.int ((((p3.toUInt32 >>> ((2 : Int32) &&& 31).toUInt32).toInt32) &&& (3 : Int32)) % (3 : Int32))), .val (.int ((p1 &&& (255 : Int32)).toUInt32.toUInt16.toUInt32.toInt32)), .val (.int ((((p1.toUInt32 >>> ((8 : Int32) &&& 31).toUInt32).toInt32) &&& (255 : Int32)).toUInt32.toUInt16.toUInt32.toInt32)), .val (.int ((p2 &&& (255 : Int32)).toUInt32.toUInt16.toUInt32.toInt32)), .val (.int ((((p2.toUInt32 >>> ((8 : Int32) &&& 31).toUInt32).toInt32) &&& (255 : Int32)).toUInt32.toUInt16.toUInt32.toInt32)), .val (.ref sx_701), .val (.ref sx_718), .val (.ref z_762), .val (.int ((((p3 &&& (3 : Int32)) % (3 : Int32)) + (2 : Int32)) + ((((p3.toUInt32 >>> ((2 : Int32) &&& 31).toUInt32).toInt32) &&& (3 : Int32)) % (3 : Int32))))] [(.int (1 : Int32)), (.ref z_762)])) tgt
    refine XS.iload H hx rfl (hb hby at_138) rfl ?_
    show Steps p.tables e below (T779.setTop (mkF m 140 #[.val (.int p1), .val (.int p2), .val (.int p3), .val (.int ((p3 &&& (3 : Int32)) % (3 : Int32))), .val (.int ((((p3.toUInt32 >>> ((2 : Int32) &&& 31).toUInt32).toInt32) &&& (3 : Int32)) % (3 : Int32))), .val (.int ((p1 &&& (255 : Int32)).toUInt32.toUInt16.toUInt32.toInt32)), .val (.int ((((p1.toUInt32 >>> ((8 : Int32) &&& 31).toUInt32).toInt32) &&& (255 : Int32)).toUInt32.toUInt16.toUInt32.toInt32)), .val (.int ((p2 &&& (255 : Int32)).toUInt32.toUInt16.toUInt32.toInt32)), .val (.int ((((p2.toUInt32 >>> ((8 : Int32) &&& 31).toUInt32).toInt32) &&& (255 : Int32)).toUInt32.toUInt16.toUInt32.toInt32)), .val (.ref sx_701), .val (.ref sx_718), .val (.ref z_762), .val (.int ((((p3 &&& (3 : Int32)) % (3 : Int32)) + (2 : Int32)) + ((((p3.toUInt32 >>> ((2 : Int32) &&& 31).toUInt32).toInt32) &&& (3 : Int32)) % (3 : Int32))))] [(.int ((((p3 &&& (3 : Int32)) % (3 : Int32)) + (2 : Int32)) + ((((p3.toUInt32 >>> ((2 : Int32) &&& 31).toUInt32).toInt32) &&& (3 : Int32)) % (3 : Int32)))), (.int (1 : Int32)), (.ref z_762)])) tgt
    refine XS.iloadN H hx rfl (hb hby at_140) rfl ?_
    show Steps p.tables e below (T779.setTop (mkF m 141 #[.val (.int p1), .val (.int p2), .val (.int p3), .val (.int ((p3 &&& (3 : Int32)) % (3 : Int32))), .val (.int ((((p3.toUInt32 >>> ((2 : Int32) &&& 31).toUInt32).toInt32) &&& (3 : Int32)) % (3 : Int32))), .val (.int ((p1 &&& (255 : Int32)).toUInt32.toUInt16.toUInt32.toInt32)), .val (.int ((((p1.toUInt32 >>> ((8 : Int32) &&& 31).toUInt32).toInt32) &&& (255 : Int32)).toUInt32.toUInt16.toUInt32.toInt32)), .val (.int ((p2 &&& (255 : Int32)).toUInt32.toUInt16.toUInt32.toInt32)), .val (.int ((((p2.toUInt32 >>> ((8 : Int32) &&& 31).toUInt32).toInt32) &&& (255 : Int32)).toUInt32.toUInt16.toUInt32.toInt32)), .val (.ref sx_701), .val (.ref sx_718), .val (.ref z_762), .val (.int ((((p3 &&& (3 : Int32)) % (3 : Int32)) + (2 : Int32)) + ((((p3.toUInt32 >>> ((2 : Int32) &&& 31).toUInt32).toInt32) &&& (3 : Int32)) % (3 : Int32))))] [(.int ((p3 &&& (3 : Int32)) % (3 : Int32))), (.int ((((p3 &&& (3 : Int32)) % (3 : Int32)) + (2 : Int32)) + ((((p3.toUInt32 >>> ((2 : Int32) &&& 31).toUInt32).toInt32) &&& (3 : Int32)) % (3 : Int32)))), (.int (1 : Int32)), (.ref z_762)])) tgt
    refine XS.iload H hx rfl (hb hby at_141) rfl ?_
    show Steps p.tables e below (T779.setTop (mkF m 143 #[.val (.int p1), .val (.int p2), .val (.int p3), .val (.int ((p3 &&& (3 : Int32)) % (3 : Int32))), .val (.int ((((p3.toUInt32 >>> ((2 : Int32) &&& 31).toUInt32).toInt32) &&& (3 : Int32)) % (3 : Int32))), .val (.int ((p1 &&& (255 : Int32)).toUInt32.toUInt16.toUInt32.toInt32)), .val (.int ((((p1.toUInt32 >>> ((8 : Int32) &&& 31).toUInt32).toInt32) &&& (255 : Int32)).toUInt32.toUInt16.toUInt32.toInt32)), .val (.int ((p2 &&& (255 : Int32)).toUInt32.toUInt16.toUInt32.toInt32)), .val (.int ((((p2.toUInt32 >>> ((8 : Int32) &&& 31).toUInt32).toInt32) &&& (255 : Int32)).toUInt32.toUInt16.toUInt32.toInt32)), .val (.ref sx_701), .val (.ref sx_718), .val (.ref z_762), .val (.int ((((p3 &&& (3 : Int32)) % (3 : Int32)) + (2 : Int32)) + ((((p3.toUInt32 >>> ((2 : Int32) &&& 31).toUInt32).toInt32) &&& (3 : Int32)) % (3 : Int32))))] [(.int ((p1 &&& (255 : Int32)).toUInt32.toUInt16.toUInt32.toInt32)), (.int ((p3 &&& (3 : Int32)) % (3 : Int32))), (.int ((((p3 &&& (3 : Int32)) % (3 : Int32)) + (2 : Int32)) + ((((p3.toUInt32 >>> ((2 : Int32) &&& 31).toUInt32).toInt32) &&& (3 : Int32)) % (3 : Int32)))), (.int (1 : Int32)), (.ref z_762)])) tgt
    refine XS.iload H hx rfl (hb hby at_143) rfl ?_
    show Steps p.tables e below (T779.setTop (mkF m 145 #[.val (.int p1), .val (.int p2), .val (.int p3), .val (.int ((p3 &&& (3 : Int32)) % (3 : Int32))), .val (.int ((((p3.toUInt32 >>> ((2 : Int32) &&& 31).toUInt32).toInt32) &&& (3 : Int32)) % (3 : Int32))), .val (.int ((p1 &&& (255 : Int32)).toUInt32.toUInt16.toUInt32.toInt32)), .val (.int ((((p1.toUInt32 >>> ((8 : Int32) &&& 31).toUInt32).toInt32) &&& (255 : Int32)).toUInt32.toUInt16.toUInt32.toInt32)), .val (.int ((p2 &&& (255 : Int32)).toUInt32.toUInt16.toUInt32.toInt32)), .val (.int ((((p2.toUInt32 >>> ((8 : Int32) &&& 31).toUInt32).toInt32) &&& (255 : Int32)).toUInt32.toUInt16.toUInt32.toInt32)), .val (.ref sx_701), .val (.ref sx_718), .val (.ref z_762), .val (.int ((((p3 &&& (3 : Int32)) % (3 : Int32)) + (2 : Int32)) + ((((p3.toUInt32 >>> ((2 : Int32) &&& 31).toUInt32).toInt32) &&& (3 : Int32)) % (3 : Int32))))] [(.int ((((p1.toUInt32 >>> ((8 : Int32) &&& 31).toUInt32).toInt32) &&& (255 : Int32)).toUInt32.toUInt16.toUInt32.toInt32)), (.int ((p1 &&& (255 : Int32)).toUInt32.toUInt16.toUInt32.toInt32)), (.int ((p3 &&& (3 : Int32)) % (3 : Int32))), (.int ((((p3 &&& (3 : Int32)) % (3 : Int32)) + (2 : Int32)) + ((((p3.toUInt32 >>> ((2 : Int32) &&& 31).toUInt32).toInt32) &&& (3 : Int32)) % (3 : Int32)))), (.int (1 : Int32)), (.ref z_762)])) tgt
    refine XS.iload H hx rfl (hb hby at_145) rfl ?_
    show Steps p.tables e below (T779.setTop (mkF m 147 #[.val (.int p1), .val (.int p2), .val (.int p3), .val (.int ((p3 &&& (3 : Int32)) % (3 : Int32))), .val (.int ((((p3.toUInt32 >>> ((2 : Int32) &&& 31).toUInt32).toInt32) &&& (3 : Int32)) % (3 : Int32))), .val (.int ((p1 &&& (255 : Int32)).toUInt32.toUInt16.toUInt32.toInt32)), .val (.int ((((p1.toUInt32 >>> ((8 : Int32) &&& 31).toUInt32).toInt32) &&& (255 : Int32)).toUInt32.toUInt16.toUInt32.toInt32)), .val (.int ((p2 &&& (255 : Int32)).toUInt32.toUInt16.toUInt32.toInt32)), .val (.int ((((p2.toUInt32 >>> ((8 : Int32) &&& 31).toUInt32).toInt32) &&& (255 : Int32)).toUInt32.toUInt16.toUInt32.toInt32)), .val (.ref sx_701), .val (.ref sx_718), .val (.ref z_762), .val (.int ((((p3 &&& (3 : Int32)) % (3 : Int32)) + (2 : Int32)) + ((((p3.toUInt32 >>> ((2 : Int32) &&& 31).toUInt32).toInt32) &&& (3 : Int32)) % (3 : Int32))))] [(.int ((p2 &&& (255 : Int32)).toUInt32.toUInt16.toUInt32.toInt32)), (.int ((((p1.toUInt32 >>> ((8 : Int32) &&& 31).toUInt32).toInt32) &&& (255 : Int32)).toUInt32.toUInt16.toUInt32.toInt32)), (.int ((p1 &&& (255 : Int32)).toUInt32.toUInt16.toUInt32.toInt32)), (.int ((p3 &&& (3 : Int32)) % (3 : Int32))), (.int ((((p3 &&& (3 : Int32)) % (3 : Int32)) + (2 : Int32)) + ((((p3.toUInt32 >>> ((2 : Int32) &&& 31).toUInt32).toInt32) &&& (3 : Int32)) % (3 : Int32)))), (.int (1 : Int32)), (.ref z_762)])) tgt
    refine XS.iload H hx rfl (hb hby at_147) rfl ?_
    exact kt
  clear H
  refine Jvm.OwnW.Aim.callS (pc := 149) (Ls := #[.val (.int p1), .val (.int p2), .val (.int p3), .val (.int ((p3 &&& (3 : Int32)) % (3 : Int32))), .val (.int ((((p3.toUInt32 >>> ((2 : Int32) &&& 31).toUInt32).toInt32) &&& (3 : Int32)) % (3 : Int32))), .val (.int ((p1 &&& (255 : Int32)).toUInt32.toUInt16.toUInt32.toInt32)), .val (.int ((((p1.toUInt32 >>> ((8 : Int32) &&& 31).toUInt32).toInt32) &&& (255 : Int32)).toUInt32.toUInt16.toUInt32.toInt32)), .val (.int ((p2 &&& (255 : Int32)).toUInt32.toUInt16.toUInt32.toInt32)), .val (.int ((((p2.toUInt32 >>> ((8 : Int32) &&& 31).toUInt32).toInt32) &&& (255 : Int32)).toUInt32.toUInt16.toUInt32.toInt32)), .val (.ref sx_701), .val (.ref sx_718), .val (.ref z_762), .val (.int ((((p3 &&& (3 : Int32)) % (3 : Int32)) + (2 : Int32)) + ((((p3.toUInt32 >>> ((2 : Int32) &&& 31).toUInt32).toInt32) &&& (3 : Int32)) % (3 : Int32))))]) (argsL := [(.ref z_762), (.int (1 : Int32)), (.int ((((p3 &&& (3 : Int32)) % (3 : Int32)) + (2 : Int32)) + ((((p3.toUInt32 >>> ((2 : Int32) &&& 31).toUInt32).toInt32) &&& (3 : Int32)) % (3 : Int32)))), (.int ((p3 &&& (3 : Int32)) % (3 : Int32))), (.int ((p1 &&& (255 : Int32)).toUInt32.toUInt16.toUInt32.toInt32)), (.int ((((p1.toUInt32 >>> ((8 : Int32) &&& 31).toUInt32).toInt32) &&& (255 : Int32)).toUInt32.toUInt16.toUInt32.toInt32)), (.int ((p2 &&& (255 : Int32)).toUInt32.toUInt16.toUInt32.toInt32)), (.int ((((p2.toUInt32 >>> ((8 : Int32) &&& 31).toUInt32).toInt32) &&& (255 : Int32)).toUInt32.toUInt16.toUInt32.toInt32))]) (rest := []) P781 hx hZ hml hown (hw _ (List.mem_of_getElem? (i := 170) rfl)) (hw _ (List.mem_of_getElem? (i := 171) rfl)) (hw _ (List.mem_of_getElem? (i := 2) rfl)) (hw _ (List.mem_of_getElem? (i := 172) rfl)) (by decide) (fun vm0 hZ => Jvm.OwnN.Con.back (s := s.setVm vm0) (W := 0) (own_ok l Z a0 hw z_762 t_763 k_764 ((mkc ((p3 &&& (3 : Int32)) % (3 : Int32)) ((p1 &&& (255 : Int32)).toUInt32.toUInt16.toUInt32.toInt32) ((((p1.toUInt32 >>> ((8 : Int32) &&& 31).toUInt32).toInt32) &&& (255 : Int32)).toUInt32.toUInt16.toUInt32.toInt32)) ++ [58, 32] ++ (mkc ((((p3.toUInt32 >>> ((2 : Int32) &&& 31).toUInt32).toInt32) &&& (3 : Int32)) % (3 : Int32)) ((p2 &&& (255 : Int32)).toUInt32.toUInt16.toUInt32.toInt32) ((((p2.toUInt32 >>> ((8 : Int32) &&& 31).toUInt32).toInt32) &&& (255 : Int32)).toUInt32.toUInt16.toUInt32.toInt32))) (1 : Int32) ((((p3 &&& (3 : Int32)) % (3 : Int32)) + (2 : Int32)) + ((((p3.toUInt32 >>> ((2 : Int32) &&& 31).toUInt32).toInt32) &&& (3 : Int32)) % (3 : Int32))) ((p3 &&& (3 : Int32)) % (3 : Int32)) ((p1 &&& (255 : Int32)).toUInt32.toUInt16.toUInt32.toInt32) ((((p1.toUInt32 >>> ((8 : Int32) &&& 31).toUInt32).toInt32) &&& (255 : Int32)).toUInt32.toUInt16.toUInt32.toInt32) ((p2 &&& (255 : Int32)).toUInt32.toUInt16.toUInt32.toInt32) ((((p2.toUInt32 >>> ((8 : Int32) &&& 31).toUInt32).toInt32) &&& (255 : Int32)).toUInt32.toUInt16.toUInt32.toInt32) h756 n0 (Nat.le_trans Z0 (K769.1)) F768 F771 (own_char _) (own_char _) (own_char _) (own_char _) (by decide) (own_n htl hel) G GS) hZ (hw _ (List.mem_of_getElem? (i := 172) rfl)) (hw _ (List.mem_of_getElem? (i := 2) rfl)) (by decide) (by decide)) (fun _ _ ⟨_, q⟩ => (by subst q; exact Keep.refl _ [])) all0 rfl pd__28Ljava_2flang_2fString_3bIIICCCC_29Z rfl (Nat.le_of_eq rfl) (hb hby at_149) (by decide) (by decide) ?_
  intro T786 h787 v790 P788 hQ789
  obtain ⟨rfl, rfl⟩ := hQ789
  show Jvm.OwnW.Aim p e below s _ _ n0 _ T786 (mkF m 152 #[.val (.int p1), .val (.int p2), .val (.int p3), .val (.int ((p3 &&& (3 : Int32)) % (3 : Int32))), .val (.int ((((p3.toUInt32 >>> ((2 : Int32) &&& 31).toUInt32).toInt32) &&& (3 : Int32)) % (3 : Int32))), .val (.int ((p1 &&& (255 : Int32)).toUInt32.toUInt16.toUInt32.toInt32)), .val (.int ((((p1.toUInt32 >>> ((8 : Int32) &&& 31).toUInt32).toInt32) &&& (255 : Int32)).toUInt32.toUInt16.toUInt32.toInt32)), .val (.int ((p2 &&& (255 : Int32)).toUInt32.toUInt16.toUInt32.toInt32)), .val (.int ((((p2.toUInt32 >>> ((8 : Int32) &&& 31).toUInt32).toInt32) &&& (255 : Int32)).toUInt32.toUInt16.toUInt32.toInt32)), .val (.ref sx_701), .val (.ref sx_718), .val (.ref z_762), .val (.int ((((p3 &&& (3 : Int32)) % (3 : Int32)) + (2 : Int32)) + ((((p3.toUInt32 >>> ((2 : Int32) &&& 31).toUInt32).toInt32) &&& (3 : Int32)) % (3 : Int32))))] [(.int (okV ((mkc ((p3 &&& (3 : Int32)) % (3 : Int32)) ((p1 &&& (255 : Int32)).toUInt32.toUInt16.toUInt32.toInt32) ((((p1.toUInt32 >>> ((8 : Int32) &&& 31).toUInt32).toInt32) &&& (255 : Int32)).toUInt32.toUInt16.toUInt32.toInt32)) ++ [58, 32] ++ (mkc ((((p3.toUInt32 >>> ((2 : Int32) &&& 31).toUInt32).toInt32) &&& (3 : Int32)) % (3 : Int32)) ((p2 &&& (255 : Int32)).toUInt32.toUInt16.toUInt32.toInt32) ((((p2.toUInt32 >>> ((8 : Int32) &&& 31).toUInt32).toInt32) &&& (255 : Int32)).toUInt32.toUInt16.toUInt32.toInt32))) (1 : Int32) ((((p3 &&& (3 : Int32)) % (3 : Int32)) + (2 : Int32)) + ((((p3.toUInt32 >>> ((2 : Int32) &&& 31).toUInt32).toInt32) &&& (3 : Int32)) % (3 : Int32))) ((p3 &&& (3 : Int32)) % (3 : Int32)) ((p1 &&& (255 : Int32)).toUInt32.toUInt16.toUInt32.toInt32) ((((p1.toUInt32 >>> ((8 : Int32) &&& 31).toUInt32).toInt32) &&& (255 : Int32)).toUInt32.toUInt16.toUInt32.toInt32) ((p2 &&& (255 : Int32)).toUInt32.toUInt16.toUInt32.toInt32) ((((p2.toUInt32 >>> ((8 : Int32) &&& 31).toUInt32).toInt32) &&& (255 : Int32)).toUInt32.toUInt16.toUInt32.toInt32)))])
  have H := P788.here
  refine Jvm.OwnW.Aim.of (T := T786) (T' := T786) (g := (mkF m 152 #[.val (.int p1), .val (.int p2), .val (.int p3), .val (.int ((p3 &&& (3 : Int32)) % (3 : Int32))), .val (.int ((((p3.toUInt32 >>> ((2 : Int32) &&& 31).toUInt32).toInt32) &&& (3 : Int32)) % (3 : Int32))), .val (.int ((p1 &&& (255 : Int32)).toUInt32.toUInt16.toUInt32.toInt32)), .val (.int ((((p1.toUInt32 >>> ((8 : Int32) &&& 31).toUInt32).toInt32) &&& (255 : Int32)).toUInt32.toUInt16.toUInt32.toInt32)), .val (.int ((p2 &&& (255 : Int32)).toUInt32.toUInt16.toUInt32.toInt32)), .val (.int ((((p2.toUInt32 >>> ((8 : Int32) &&& 31).toUInt32).toInt32) &&& (255 : Int32)).toUInt32.toUInt16.toUInt32.toInt32)), .val (.ref sx_701), .val (.ref sx_718), .val (.ref z_762), .val (.int ((((p3 &&& (3 : Int32)) % (3 : Int32)) + (2 : Int32)) + ((((p3.toUInt32 >>> ((2 : Int32) &&& 31).toUInt32).toInt32) &&& (3 : Int32)) % (3 : Int32))))] [(.int (okV ((mkc ((p3 &&& (3 : Int32)) % (3 : Int32)) ((p1 &&& (255 : Int32)).toUInt32.toUInt16.toUInt32.toInt32) ((((p1.toUInt32 >>> ((8 : Int32) &&& 31).toUInt32).toInt32) &&& (255 : Int32)).toUInt32.toUInt16.toUInt32.toInt32)) ++ [58, 32] ++ (mkc ((((p3.toUInt32 >>> ((2 : Int32) &&& 31).toUInt32).toInt32) &&& (3 : Int32)) % (3 : Int32)) ((p2 &&& (255 : Int32)).toUInt32.toUInt16.toUInt32.toInt32) ((((p2.toUInt32 >>> ((8 : Int32) &&& 31).toUInt32).toInt32) &&& (255 : Int32)).toUInt32.toUInt16.toUInt32.toInt32))) (1 : Int32) ((((p3 &&& (3 : Int32)) % (3 : Int32)) + (2 : Int32)) + ((((p3.toUInt32 >>> ((2 : Int32) &&& 31).toUInt32).toInt32) &&& (3 : Int32)) % (3 : Int32))) ((p3 &&& (3 : Int32)) % (3 : Int32)) ((p1 &&& (255 : Int32)).toUInt32.toUInt16.toUInt32.toInt32) ((((p1.toUInt32 >>> ((8 : Int32) &&& 31).toUInt32).toInt32) &&& (255 : Int32)).toUInt32.toUInt16.toUInt32.toInt32) ((p2 &&& (255 : Int32)).toUInt32.toUInt16.toUInt32.toInt32) ((((p2.toUInt32 >>> ((8 : Int32) &&& 31).toUInt32).toInt32) &&& (255 : Int32)).toUInt32.toUInt16.toUInt32.toInt32)))])) (g' := (mkF m 169 #[.val (.int p1), .val (.int p2), .val (.int p3), .val (.int ((p3 &&& (3 : Int32)) % (3 : Int32))), .val (.int ((((p3.toUInt32 >>> ((2 : Int32) &&& 31).toUInt32).toInt32) &&& (3 : Int32)) % (3 : Int32))), .val (.int ((p1 &&& (255 : Int32)).toUInt32.toUInt16.toUInt32.toInt32)), .val (.int ((((p1.toUInt32 >>> ((8 : Int32) &&& 31).toUInt32).toInt32) &&& (255 : Int32)).toUInt32.toUInt16.toUInt32.toInt32)), .val (.int ((p2 &&& (255 : Int32)).toUInt32.toUInt16.toUInt32.toInt32)), .val (.int ((((p2.toUInt32 >>> ((8 : Int32) &&& 31).toUInt32).toInt32) &&& (255 : Int32)).toUInt32.toUInt16.toUInt32.toInt32)), .val (.ref sx_701), .val (.ref sx_718), .val (.ref z_762), .val (.int ((((p3 &&& (3 : Int32)) % (3 : Int32)) + (2 : Int32)) + ((((p3.toUInt32 >>> ((2 : Int32) &&& 31).toUInt32).toInt32) &&& (3 : Int32)) % (3 : Int32))))] [(.int ((((p2.toUInt32 >>> ((8 : Int32) &&& 31).toUInt32).toInt32) &&& (255 : Int32)).toUInt32.toUInt16.toUInt32.toInt32)), (.int ((p2 &&& (255 : Int32)).toUInt32.toUInt16.toUInt32.toInt32)), (.int ((((p1.toUInt32 >>> ((8 : Int32) &&& 31).toUInt32).toInt32) &&& (255 : Int32)).toUInt32.toUInt16.toUInt32.toInt32)), (.int ((p1 &&& (255 : Int32)).toUInt32.toUInt16.toUInt32.toInt32)), (.int ((p3 &&& (3 : Int32)) % (3 : Int32))), (.int ((((p3 &&& (3 : Int32)) % (3 : Int32)) + (2 : Int32)) + ((((p3.toUInt32 >>> ((2 : Int32) &&& 31).toUInt32).toInt32) &&& (3 : Int32)) % (3 : Int32)))), (.int (2 : Int32)), (.ref z_762)])) (fun tgt kt => ?_) ?_
  · show Steps p.tables e below (T786.setTop (mkF m 152 #[.val (.int p1), .val (.int p2), .val (.int p3), .val (.int ((p3 &&& (3 : Int32)) % (3 : Int32))), .val (.int ((((p3.toUInt32 >>> ((2 : Int32) &&& 31).toUInt32).toInt32) &&& (3 : Int32)) % (3 : Int32))), .val (.int ((p1 &&& (255 : Int32)).toUInt32.toUInt16.toUInt32.toInt32)), .val (.int ((((p1.toUInt32 >>> ((8 : Int32) &&& 31).toUInt32).toInt32) &&& (255 : Int32)).toUInt32.toUInt16.toUInt32.toInt32)), .val (.int ((p2 &&& (255 : Int32)).toUInt32.toUInt16.toUInt32.toInt32)), .val (.int ((((p2.toUInt32 >>> ((8 : Int32) &&& 31).toUInt32).toInt32) &&& (255 : Int32)).toUInt32.toUInt16.toUInt32.toInt32)), .val (.ref sx_701), .val (.ref sx_718), .val (.ref z_762), .val (.int ((((p3 &&& (3 : Int32)) % (3 : Int32)) + (2 : Int32)) + ((((p3.toUInt32 >>> ((2 : Int32) &&& 31).toUInt32).toInt32) &&& (3 : Int32)) % (3 : Int32))))] [(.int (okV ((mkc ((p3 &&& (3 : Int32)) % (3 : Int32)) ((p1 &&& (255 : Int32)).toUInt32.toUInt16.toUInt32.toInt32) ((((p1.toUInt32 >>> ((8 : Int32) &&& 31).toUInt32).toInt32) &&& (255 : Int32)).toUInt32.toUInt16.toUInt32.toInt32)) ++ [58, 32] ++ (mkc ((((p3.toUInt32 >>> ((2 : Int32) &&& 31).toUInt32).toInt32) &&& (3 : Int32)) % (3 : Int32)) ((p2 &&& (255 : Int32)).toUInt32.toUInt16.toUInt32.toInt32) ((((p2.toUInt32 >>> ((8 : Int32) &&& 31).toUInt32).toInt32) &&& (255 : Int32)).toUInt32.toUInt16.toUInt32.toInt32))) (1 : Int32) ((((p3 &&& (3 : Int32)) % (3 : Int32)) + (2 : Int32)) + ((((p3.toUInt32 >>> ((2 : Int32) &&& 31).toUInt32).toInt32) &&& (3 : Int32)) % (3 : Int32))) ((p3 &&& (3 : Int32)) % (3 : Int32)) ((p1 &&& (255 : Int32)).toUInt32.toUInt16.toUInt32.toInt32) ((((p1.toUInt32 >>> ((8 : Int32) &&& 31).toUInt32).toInt32) &&& (255 : Int32)).toUInt32.toUInt16.toUInt32.toInt32) ((p2 &&& (255 : Int32)).toUInt32.toUInt16.toUInt32.toInt32) ((((p2.toUInt32 >>> ((8 : Int32) &&& 31).toUInt32).toInt32) &&& (255 : Int32)).toUInt32.toUInt16.toUInt32.toInt32)))])) tgt
    refine XS.ifNo H hx rfl (hb hby at_152) rfl ((if0 _ _).trans (feq (by rw [own_okV htl hel _ (by simp)]; decide)).1) ?_
    show Steps p.tables e below (T786.setTop (mkF m 155 #[.val (.int p1), .val (.int p2), .val (.int p3), .val (.int ((p3 &&& (3 : Int32)) % (3 : Int32))), .val (.int ((((p3.toUInt32 >>> ((2 : Int32) &&& 31).toUInt32).toInt32) &&& (3 : Int32)) % (3 : Int32))), .val (.int ((p1 &&& (255 : Int32)).toUInt32.toUInt16.toUInt32.toInt32)), .val (.int ((((p1.toUInt32 >>> ((8 : Int32) &&& 31).toUInt32).toInt32) &&& (255 : Int32)).toUInt32.toUInt16.toUInt32.toInt32)), .val (.int ((p2 &&& (255 : Int32)).toUInt32.toUInt16.toUInt32.toInt32)), .val (.int ((((p2.toUInt32 >>> ((8 : Int32) &&& 31).toUInt32).toInt32) &&& (255 : Int32)).toUInt32.toUInt16.toUInt32.toInt32)), .val (.ref sx_701), .val (.ref sx_718), .val (.ref z_762), .val (.int ((((p3 &&& (3 : Int32)) % (3 : Int32)) + (2 : Int32)) + ((((p3.toUInt32 >>> ((2 : Int32) &&& 31).toUInt32).toInt32) &&& (3 : Int32)) % (3 : Int32))))] [])) tgt
    refine XS.aload H hx rfl (hb hby at_155) rfl rfl ?_
    show Steps p.tables e below (T786.setTop (mkF m 157 #[.val (.int p1), .val (.int p2), .val (.int p3), .val (.int ((p3 &&& (3 : Int32)) % (3 : Int32))), .val (.int ((((p3.toUInt32 >>> ((2 : Int32) &&& 31).toUInt32).toInt32) &&& (3 : Int32)) % (3 : Int32))), .val (.int ((p1 &&& (255 : Int32)).toUInt32.toUInt16.toUInt32.toInt32)), .val (.int ((((p1.toUInt32 >>> ((8 : Int32) &&& 31).toUInt32).toInt32) &&& (255 : Int32)).toUInt32.toUInt16.toUInt32.toInt32)), .val (.int ((p2 &&& (255 : Int32)).toUInt32.toUInt16.toUInt32.toInt32)), .val (.int ((((p2.toUInt32 >>> ((8 : Int32) &&& 31).toUInt32).toInt32) &&& (255 : Int32)).toUInt32.toUInt16.toUInt32.toInt32)), .val (.ref sx_701), .val (.ref sx_718), .val (.ref z_762), .val (.int ((((p3 &&& (3 : Int32)) % (3 : Int32)) + (2 : Int32)) + ((((p3.toUInt32 >>> ((2 : Int32) &&& 31).toUInt32).toInt32) &&& (3 : Int32)) % (3 : Int32))))] [(.ref z_762)])) tgt
    refine XS.iconst H hx rfl (hb hby at_157) ?_
    show Steps p.tables e below (T786.setTop (mkF m 158 #[.val (.int p1), .val (.int p2), .val (.int p3), .val (.int ((p3 &&& (3 : Int32)) % (3 : Int32))), .val (.int ((((p3.toUInt32 >>> ((2 : Int32) &&& 31).toUInt32).toInt32) &&& (3 : Int32)) % (3 : Int32))), .val (.int ((p1 &&& (255 : Int32)).toUInt32.toUInt16.toUInt32.toInt32)), .val (.int ((((p1.toUInt32 >>> ((8 : Int32) &&& 31).toUInt32).toInt32) &&& (255 : Int32)).toUInt32.toUInt16.toUInt32.toInt32)), .val (.int ((p2 &&& (255 : Int32)).toUInt32.toUInt16.toUInt32.toInt32)), .val (.int ((((p2.toUInt32 >>> ((8 : Int32) &&& 31).toUInt32).toInt32) &&& (255 : Int32)).toUInt32.toUInt16.toUInt32.toInt32)), .val (.ref sx_701), .val (.ref sx_718), .val (.ref z_762), .val (.int ((((p3 &&& (3 : Int32)) % (3 : Int32)) + (2 : Int32)) + ((((p3.toUInt32 >>> ((2 : Int32) &&& 31).toUInt32).toInt32) &&& (3 : Int32)) % (3 : Int32))))] [(.int (2 : Int32)), (.ref z_762)])) tgt
    refine XS.iload H hx rfl (hb hby at_158) rfl ?_
    show Steps p.tables e below (T786.setTop (mkF m 160 #[.val (.int p1), .val (.int p2), .val (.int p3), .val (.int ((p3 &&& (3 : Int32)) % (3 : Int32))), .val (.int ((((p3.toUInt32 >>> ((2 : Int32) &&& 31).toUInt32).toInt32) &&& (3 : Int32)) % (3 : Int32))), .val (.int ((p1 &&& (255 : Int32)).toUInt32.toUInt16.toUInt32.toInt32)), .val (.int ((((p1.toUInt32 >>> ((8 : Int32) &&& 31).toUInt32).toInt32) &&& (255 : Int32)).toUInt32.toUInt16.toUInt32.toInt32)), .val (.int ((p2 &&& (255 : Int32)).toUInt32.toUInt16.toUInt32.toInt32)), .val (.int ((((p2.toUInt32 >>> ((8 : Int32) &&& 31).toUInt32).toInt32) &&& (255 : Int32)).toUInt32.toUInt16.toUInt32.toInt32)), .val (.ref sx_701), .val (.ref sx_718), .val (.ref z_762), .val (.int ((((p3 &&& (3 : Int32)) % (3 : Int32)) + (2 : Int32)) + ((((p3.toUInt32 >>> ((2 : Int32) &&& 31).toUInt32).toInt32) &&& (3 : Int32)) % (3 : Int32))))] [(.int ((((p3 &&& (3 : Int32)) % (3 : Int32)) + (2 : Int32)) + ((((p3.toUInt32 >>> ((2 : Int32) &&& 31).toUInt32).toInt32) &&& (3 : Int32)) % (3 : Int32)))), (.int (2 : Int32)), (.ref z_762)])) tgt
    refine XS.iloadN H hx rfl (hb hby at_160) rfl ?_
    show Steps p.tables e below (T786.setTop (mkF m 161 #[.val (.int p1), .val (.int p2), .val (.int p3), .val (.int ((p3 &&& (3 : Int32)) % (3 : Int32))), .val (.int ((((p3.toUInt32 >>> ((2 : Int32) &&& 31).toUInt32).toInt32) &&& (3 : Int32)) % (3 : Int32))), .val (.int ((p1 &&& (255 : Int32)).toUInt32.toUInt16.toUInt32.toInt32)), .val (.int ((((p1.toUInt32 >>> ((8 : Int32) &&& 31).toUInt32).toInt32) &&& (255 : Int32)).toUInt32.toUInt16.toUInt32.toInt32)), .val (.int ((p2 &&& (255 : Int32)).toUInt32.toUInt16.toUInt32.toInt32)), .val (.int ((((p2.toUInt32 >>> ((8 : Int32) &&& 31).toUInt32).toInt32) &&& (255 : Int32)).toUInt32.toUInt16.toUInt32.toInt32)), .val (.ref sx_701), .val (.ref sx_718), .val (.ref z_762), .val (.int ((((p3 &&& (3 : Int32)) % (3 : Int32)) + (2 : Int32)) + ((((p3.toUInt32 >>> ((2 : Int32) &&& 31).toUInt32).toInt32) &&& (3 : Int32)) % (3 : Int32))))] [(.int ((p3 &&& (3 : Int32)) % (3 : Int32))), (.int ((((p3 &&& (3 : Int32)) % (3 : Int32)) + (2 : Int32)) + ((((p3.toUInt32 >>> ((2 : Int32) &&& 31).toUInt32).toInt32) &&& (3 : Int32)) % (3 : Int32)))), (.int (2 : Int32)), (.ref z_762)])) tgt
    refine XS.iload H hx rfl (hb hby at_161) rfl ?_
    show Steps p.tables e below (T786.setTop (mkF m 163 #[.val (.int p1), .val (.int p2), .val (.int p3), .val (.int ((p3 &&& (3 : Int32)) % (3 : Int32))), .val (.int ((((p3.toUInt32 >>> ((2 : Int32) &&& 31).toUInt32).toInt32) &&& (3 : Int32)) % (3 : Int32))), .val (.int ((p1 &&& (255 : Int32)).toUInt32.toUInt16.toUInt32.toInt32)), .val (.int ((((p1.toUInt32 >>> ((8 : Int32) &&& 31).toUInt32).toInt32) &&& (255 : Int32)).toUInt32.toUInt16.toUInt32.toInt32)), .val (.int ((p2 &&& (255 : Int32)).toUInt32.toUInt16.toUInt32.toInt32)), .val (.int ((((p2.toUInt32 >>> ((8 : Int32) &&& 31).toUInt32).toInt32) &&& (255 : Int32)).toUInt32.toUInt16.toUInt32.toInt32)), .val (.ref sx_701), .val (.ref sx_718), .val (.ref z_762), .val (.int ((((p3 &&& (3 : Int32)) % (3 : Int32)) + (2 : Int32)) + ((((p3.toUInt32 >>> ((2 : Int32) &&& 31).toUInt32).toInt32) &&& (3 : Int32)) % (3 : Int32))))] [(.int ((p1 &&& (255 : Int32)).toUInt32.toUInt16.toUInt32.toInt32)), (.int ((p3 &&& (3 : Int32)) % (3 : Int32))), (.int ((((p3 &&& (3 : Int32)) % (3 : Int32)) + (2 : Int32)) + ((((p3.toUInt32 >>> ((2 : Int32) &&& 31).toUInt32).toInt32) &&& (3 : Int32)) % (3 : Int32)))), (.int (2 : Int32)), (.ref z_762)])) tgt
    refine XS.iload H hx rfl (hb hby at_163) rfl ?_
    show Steps p.tables e below (T786.setTop (mkF m 165 #[.val (.int p1), .val (.int p2), .val (.int p3), .val (.int ((p3 &&& (3 : Int32)) % (3 : Int32))), .val (.int ((((p3.toUInt32 >>> ((2 : Int32) &&& 31).toUInt32).toInt32) &&& (3 : Int32)) % (3 : Int32))), .val (.int ((p1 &&& (255 : Int32)).toUInt32.toUInt16.toUInt32.toInt32)), .val (.int ((((p1.toUInt32 >>> ((8 : Int32) &&& 31).toUInt32).toInt32) &&& (255 : Int32)).toUInt32.toUInt16.toUInt32.toInt32)), .val (.int ((p2 &&& (255 : Int32)).toUInt32.toUInt16.toUInt32.toInt32)), .val (.int ((((p2.toUInt32 >>> ((8 : Int32) &&& 31).toUInt32).toInt32) &&& (255 : Int32)).toUInt32.toUInt16.toUInt32.toInt32)), .val (.ref sx_701), .val (.ref sx_718), .val (.ref z_762), .val (.int ((((p3 &&& (3 : Int32)) % (3 : Int32)) + (2 : Int32)) + ((((p3.toUInt32 >>> ((2 : Int32) &&& 31).toUInt32).toInt32) &&& (3 : Int32)) % (3 : Int32))))] [(.int ((((p1.toUInt32 >>> ((8 : Int32) &&& 31).toUInt32).toInt32) &&& (255 : Int32)).toUInt32.toUInt16.toUInt32.toInt32)), (.int ((p1 &&& (255 : Int32)).toUInt32.toUInt16.toUInt32.toInt32)), (.int ((p3 &&& (3 : Int32)) % (3 : Int32))), (.int ((((p3 &&& (3 : Int32)) % (3 : Int32)) + (2 : Int32)) + ((((p3.toUInt32 >>> ((2 : Int32) &&& 31).toUInt32).toInt32) &&& (3 : Int32)) % (3 : Int32)))), (.int (2 : Int32)), (.ref z_762)])) tgt
    refine XS.iload H hx rfl (hb hby at_165) rfl ?_
    show Steps p.tables e below (T786.setTop (mkF m 167 #[.val (.int p1), .val (.int p2), .val (.int p3), .val (.int ((p3 &&& (3 : Int32)) % (3 : Int32))), .val (.int ((((p3.toUInt32 >>> ((2 : Int32) &&& 31).toUInt32).toInt32) &&& (3 : Int32)) % (3 : Int32))), .val (.int ((p1 &&& (255 : Int32)).toUInt32.toUInt16.toUInt32.toInt32)), .val (.int ((((p1.toUInt32 >>> ((8 : Int32) &&& 31).toUInt32).toInt32) &&& (255 : Int32)).toUInt32.toUInt16.toUInt32.toInt32)), .val (.int ((p2 &&& (255 : Int32)).toUInt32.toUInt16.toUInt32.toInt32)), .val (.int ((((p2.toUInt32 >>> ((8 : Int32) &&& 31).toUInt32).toInt32) &&& (255 : Int32)).toUInt32.toUInt16.toUInt32.toInt32)), .val (.ref sx_701), .val (.ref sx_718), .val (.ref z_762), .val (.int ((((p3 &&& (3 : Int32)) % (3 : Int32)) + (2 : Int32)) + ((((p3.toUInt32 >>> ((2 : Int32) &&& 31).toUInt32).toInt32) &&& (3 : Int32)) % (3 : Int32))))] [(.int ((p2 &&& (255 : Int32)).toUInt32.toUInt16.toUInt32.toInt32)), (.int ((((p1.toUInt32 >>> ((8 : Int32) &&& 31).toUInt32).toInt32) &&& (255 : Int32)).toUInt32.toUInt16.toUInt32.toInt32)), (.int ((p1 &&& (255 : Int32)).toUInt32.toUInt16.toUInt32.toInt32)), (.int ((p3 &&& (3 : Int32)) % (3 : Int32))), (.int ((((p3 &&& (3 : Int32)) % (3 : Int32)) + (2 : Int32)) + ((((p3.toUInt32 >>> ((2 : Int32) &&& 31).toUInt32).toInt32) &&& (3 : Int32)) % (3 : Int32)))), (.int (2 : Int32)), (.ref z_762)])) tgt
    refine XS.iload H hx rfl (hb hby at_167) rfl ?_
    exact kt
  clear H
  refine Jvm.OwnW.Aim.callS (pc := 169) (Ls := #[.val (.int p1), .val (.int p2), .val (.int p3), .val (.int ((p3 &&& (3 : Int32)) % (3 : Int32))), .val (.int ((((p3.toUInt32 >>> ((2 : Int32) &&& 31).toUInt32).toInt32) &&& (3 : Int32)) % (3 : Int32))), .val (.int ((p1 &&& (255 : Int32)).toUInt32.toUInt16.toUInt32.toInt32)), .val (.int ((((p1.toUInt32 >>> ((8 : Int32) &&& 31).toUInt32).toInt32) &&& (255 : Int32)).toUInt32.toUInt16.toUInt32.toInt32)), .val (.int ((p2 &&& (255 : Int32)).toUInt32.toUInt16.toUInt32.toInt32)), .val (.int ((((p2.toUInt32 >>> ((8 : Int32) &&& 31).toUInt32).toInt32) &&& (255 : Int32)).toUInt32.toUInt16.toUInt32.toInt32)), .val (.ref sx_701), .val (.ref sx_718), .val (.ref z_762), .val (.int ((((p3 &&& (3 : Int32)) % (3 : Int32)) + (2 : Int32)) + ((((p3.toUInt32 >>> ((2 : Int32) &&& 31).toUInt32).toInt32) &&& (3 : Int32)) % (3 : Int32))))]) (argsL := [(.ref z_762), (.int (2 : Int32)), (.int ((((p3 &&& (3 : Int32)) % (3 : Int32)) + (2 : Int32)) + ((((p3.toUInt32 >>> ((2 : Int32) &&& 31).toUInt32).toInt32) &&& (3 : Int32)) % (3 : Int32)))), (.int ((p3 &&& (3 : Int32)) % (3 : Int32))), (.int ((p1 &&& (255 : Int32)).toUInt32.toUInt16.toUInt32.toInt32)), (.int ((((p1.toUInt32 >>> ((8 : Int32) &&& 31).toUInt32).toInt32) &&& (255 : Int32)).toUInt32.toUInt16.toUInt32.toInt32)), (.int ((p2 &&& (255 : Int32)).toUInt32.toUInt16.toUInt32.toInt32)), (.int ((((p2.toUInt32 >>> ((8 : Int32) &&& 31).toUInt32).toInt32) &&& (255 : Int32)).toUInt32.toUInt16.toUInt32.toInt32))]) (rest := []) P788 hx hZ hml hown (hw _ (List.mem_of_getElem? (i := 170) rfl)) (hw _ (List.mem_of_getElem? (i := 171) rfl)) (hw _ (List.mem_of_getElem? (i := 2) rfl)) (hw _ (List.mem_of_getElem? (i := 172) rfl)) (by decide) (fun vm0 hZ => Jvm.OwnN.Con.back (s := s.setVm vm0) (W := 0) (own_ok l Z a0 hw z_762 t_763 k_764 ((mkc ((p3 &&& (3 : Int32)) % (3 : Int32)) ((p1 &&& (255 : Int32)).toUInt32.toUInt16.toUInt32.toInt32) ((((p1.toUInt32 >>> ((8 : Int32) &&& 31).toUInt32).toInt32) &&& (255 : Int32)).toUInt32.toUInt16.toUInt32.toInt32)) ++ [58, 32] ++ (mkc ((((p3.toUInt32 >>> ((2 : Int32) &&& 31).toUInt32).toInt32) &&& (3 : Int32)) % (3 : Int32)) ((p2 &&& (255 : Int32)).toUInt32.toUInt16.toUInt32.toInt32) ((((p2.toUInt32 >>> ((8 : Int32) &&& 31).toUInt32).toInt32) &&& (255 : Int32)).toUInt32.toUInt16.toUInt32.toInt32))) (2 : Int32) ((((p3 &&& (3 : Int32)) % (3 : Int32)) + (2 : Int32)) + ((((p3.toUInt32 >>> ((2 : Int32) &&& 31).toUInt32).toInt32) &&& (3 : Int32)) % (3 : Int32))) ((p3 &&& (3 : Int32)) % (3 : Int32)) ((p1 &&& (255 : Int32)).toUInt32.toUInt16.toUInt32.toInt32) ((((p1.toUInt32 >>> ((8 : Int32) &&& 31).toUInt32).toInt32) &&& (255 : Int32)).toUInt32.toUInt16.toUInt32.toInt32) ((p2 &&& (255 : Int32)).toUInt32.toUInt16.toUInt32.toInt32) ((((p2.toUInt32 >>> ((8 : Int32) &&& 31).toUInt32).toInt32) &&& (255 : Int32)).toUInt32.toUInt16.toUInt32.toInt32) h756 n0 (Nat.le_trans Z0 (K769.1)) F768 F771 (own_char _) (own_char _) (own_char _) (own_char _) (by decide) (own_n htl hel) G GS) hZ (hw _ (List.mem_of_getElem? (i := 172) rfl)) (hw _ (List.mem_of_getElem? (i := 2) rfl)) (by decide) (by decide)) (fun _ _ ⟨_, q⟩ => (by subst q; exact Keep.refl _ [])) all0 rfl pd__28Ljava_2flang_2fString_3bIIICCCC_29Z rfl (Nat.le_of_eq rfl) (hb hby at_169) (by decide) (by decide) ?_
  intro T793 h794 v797 P795 hQ796
  obtain ⟨rfl, rfl⟩ := hQ796
  show Jvm.OwnW.Aim p e below s _ _ n0 _ T793 (mkF m 172 #[.val (.int p1), .val (.int p2), .val (.int p3), .val (.int ((p3 &&& (3 : Int32)) % (3 : Int32))), .val (.int ((((p3.toUInt32 >>> ((2 : Int32) &&& 31).toUInt32).toInt32) &&& (3 : Int32)) % (3 : Int32))), .val (.int ((p1 &&& (255 : Int32)).toUInt32.toUInt16.toUInt32.toInt32)), .val (.int ((((p1.toUInt32 >>> ((8 : Int32) &&& 31).toUInt32).toInt32) &&& (255 : Int32)).toUInt32.toUInt16.toUInt32.toInt32)), .val (.int ((p2 &&& (255 : Int32)).toUInt32.toUInt16.toUInt32.toInt32)), .val (.int ((((p2.toUInt32 >>> ((8 : Int32) &&& 31).toUInt32).toInt32) &&& (255 : Int32)).toUInt32.toUInt16.toUInt32.toInt32)), .val (.ref sx_701), .val (.ref sx_718), .val (.ref z_762), .val (.int ((((p3 &&& (3 : Int32)) % (3 : Int32)) + (2 : Int32)) + ((((p3.toUInt32 >>> ((2 : Int32) &&& 31).toUInt32).toInt32) &&& (3 : Int32)) % (3 : Int32))))] [(.int (okV ((mkc ((p3 &&& (3 : Int32)) % (3 : Int32)) ((p1 &&& (255 : Int32)).toUInt32.toUInt16.toUInt32.toInt32) ((((p1.toUInt32 >>> ((8 : Int32) &&& 31).toUInt32).toInt32) &&& (255 : Int32)).toUInt32.toUInt16.toUInt32.toInt32)) ++ [58, 32] ++ (mkc ((((p3.toUInt32 >>> ((2 : Int32) &&& 31).toUInt32).toInt32) &&& (3 : Int32)) % (3 : Int32)) ((p2 &&& (255 : Int32)).toUInt32.toUInt16.toUInt32.toInt32) ((((p2.toUInt32 >>> ((8 : Int32) &&& 31).toUInt32).toInt32) &&& (255 : Int32)).toUInt32.toUInt16.toUInt32.toInt32))) (2 : Int32) ((((p3 &&& (3 : Int32)) % (3 : Int32)) + (2 : Int32)) + ((((p3.toUInt32 >>> ((2 : Int32) &&& 31).toUInt32).toInt32) &&& (3 : Int32)) % (3 : Int32))) ((p3 &&& (3 : Int32)) % (3 : Int32)) ((p1 &&& (255 : Int32)).toUInt32.toUInt16.toUInt32.toInt32) ((((p1.toUInt32 >>> ((8 : Int32) &&& 31).toUInt32).toInt32) &&& (255 : Int32)).toUInt32.toUInt16.toUInt32.toInt32) ((p2 &&& (255 : Int32)).toUInt32.toUInt16.toUInt32.toInt32) ((((p2.toUInt32 >>> ((8 : Int32) &&& 31).toUInt32).toInt32) &&& (255 : Int32)).toUInt32.toUInt16.toUInt32.toInt32)))])
  have H := P795.here
  refine Jvm.OwnW.Aim.of (T := T793) (T' := T793) (g := (mkF m 172 #[.val (.int p1), .val (.int p2), .val (.int p3), .val (.int ((p3 &&& (3 : Int32)) % (3 : Int32))), .val (.int ((((p3.toUInt32 >>> ((2 : Int32) &&& 31).toUInt32).toInt32) &&& (3 : Int32)) % (3 : Int32))), .val (.int ((p1 &&& (255 : Int32)).toUInt32.toUInt16.toUInt32.toInt32)), .val (.int ((((p1.toUInt32 >>> ((8 : Int32) &&& 31).toUInt32).toInt32) &&& (255 : Int32)).toUInt32.toUInt16.toUInt32.toInt32)), .val (.int ((p2 &&& (255 : Int32)).toUInt32.toUInt16.toUInt32.toInt32)), .val (.int ((((p2.toUInt32 >>> ((8 : Int32) &&& 31).toUInt32).toInt32) &&& (255 : Int32)).toUInt32.toUInt16.toUInt32.toInt32)), .val (.ref sx_701), .val (.ref sx_718), .val (.ref z_762), .val (.int ((((p3 &&& (3 : Int32)) % (3 : Int32)) + (2 : Int32)) + ((((p3.toUInt32 >>> ((2 : Int32) &&& 31).toUInt32).toInt32) &&& (3 : Int32)) % (3 : Int32))))] [(.int (okV ((mkc ((p3 &&& (3 : Int32)) % (3 : Int32)) ((p1 &&& (255 : Int32)).toUInt32.toUInt16.toUInt32.toInt32) ((((p1.toUInt32 >>> ((8 : Int32) &&& 31).toUInt32).toInt32) &&& (255 : Int32)).toUInt32.toUInt16.toUInt32.toInt32)) ++ [58, 32] ++ (mkc ((((p3.toUInt32 >>> ((2 : Int32) &&& 31).toUInt32).toInt32) &&& (3 : Int32)) % (3 : Int32)) ((p2 &&& (255 : Int32)).toUInt32.toUInt16.toUInt32.toInt32) ((((p2.toUInt32 >>> ((8 : Int32) &&& 31).toUInt32).toInt32) &&& (255 : Int32)).toUInt32.toUInt16.toUInt32.toInt32))) (2 : Int32) ((((p3 &&& (3 : Int32)) % (3 : Int32)) + (2 : Int32)) + ((((p3.toUInt32 >>> ((2 : Int32) &&& 31).toUInt32).toInt32) &&& (3 : Int32)) % (3 : Int32))) ((p3 &&& (3 : Int32)) % (3 : Int32)) ((p1 &&& (255 : Int32)).toUInt32.toUInt16.toUInt32.toInt32) ((((p1.toUInt32 >>> ((8 : Int32) &&& 31).toUInt32).toInt32) &&& (255 : Int32)).toUInt32.toUInt16.toUInt32.toInt32) ((p2 &&& (255 : Int32)).toUInt32.toUInt16.toUInt32.toInt32) ((((p2.toUInt32 >>> ((8 : Int32) &&& 31).toUInt32).toInt32) &&& (255 : Int32)).toUInt32.toUInt16.toUInt32.toInt32)))])) (g' := (mkF m 189 #[.val (.int p1), .val (.int p2), .val (.int p3), .val (.int ((p3 &&& (3 : Int32)) % (3 : Int32))), .val (.int ((((p3.toUInt32 >>> ((2 : Int32) &&& 31).toUInt32).toInt32) &&& (3 : Int32)) % (3 : Int32))), .val (.int ((p1 &&& (255 : Int32)).toUInt32.toUInt16.toUInt32.toInt32)), .val (.int ((((p1.toUInt32 >>> ((8 : Int32) &&& 31).toUInt32).toInt32) &&& (255 : Int32)).toUInt32.toUInt16.toUInt32.toInt32)), .val (.int ((p2 &&& (255 : Int32)).toUInt32.toUInt16.toUInt32.toInt32)), .val (.int ((((p2.toUInt32 >>> ((8 : Int32) &&& 31).toUInt32).toInt32) &&& (255 : Int32)).toUInt32.toUInt16.toUInt32.toInt32)), .val (.ref sx_701), .val (.ref sx_718), .val (.ref z_762), .val (.int ((((p3 &&& (3 : Int32)) % (3 : Int32)) + (2 : Int32)) + ((((p3.toUInt32 >>> ((2 : Int32) &&& 31).toUInt32).toInt32) &&& (3 : Int32)) % (3 : Int32))))] [(.int ((((p2.toUInt32 >>> ((8 : Int32) &&& 31).toUInt32).toInt32) &&& (255 : Int32)).toUInt32.toUInt16.toUInt32.toInt32)), (.int ((p2 &&& (255 : Int32)).toUInt32.toUInt16.toUInt32.toInt32)), (.int ((((p1.toUInt32 >>> ((8 : Int32) &&& 31).toUInt32).toInt32) &&& (255 : Int32)).toUInt32.toUInt16.toUInt32.toInt32)), (.int ((p1 &&& (255 : Int32)).toUInt32.toUInt16.toUInt32.toInt32)), (.int ((p3 &&& (3 : Int32)) % (3 : Int32))), (.int ((((p3 &&& (3 : Int32)) % (3 : Int32)) + (2 : Int32)) + ((((p3.toUInt32 >>> ((2 : Int32) &&& 31).toUInt32).toInt32) &&& (3 : Int32)) % (3 : Int32)))), (.int (3 : Int32)), (.ref z_762)])) (fun tgt kt => ?_) ?_
  · show Steps p.tables e below (T793.setTop (mkF m 172 #[.val (.int p1), .val (.int p2), .val (.int p3), .val (.int ((p3 &&& (3 : Int32)) % (3 : Int32))), .val (.int ((((p3.toUInt32 >>> ((2 : Int32) &&& 31).toUInt32).toInt32) &&& (3 : Int32)) % (3 : Int32))), .val (.int ((p1 &&& (255 : Int32)).toUInt32.toUInt16.toUInt32.toInt32)), .val (.int ((((p1.toUInt32 >>> ((8 : Int32) &&& 31).toUInt32).toInt32) &&& (255 : Int32)).toUInt32.toUInt16.toUInt32.toInt32)), .val (.int ((p2 &&& (255 : Int32)).toUInt32.toUInt16.toUInt32.toInt32)), .val (.int ((((p2.toUInt32 >>> ((8 : Int32) &&& 31).toUInt32).toInt32) &&& (255 : Int32)).toUInt32.toUInt16.toUInt32.toInt32)), .val (.ref sx_701), .val (.ref sx_718), .val (.ref z_762), .val (.int ((((p3 &&& (3 : Int32)) % (3 : Int32)) + (2 : Int32)) + ((((p3.toUInt32 >>> ((2 : Int32) &&& 31).toUInt32).toInt32) &&& (3 : Int32)) % (3 : Int32))))] [(.int (okV ((mkc ((p3 &&& (3 : Int32)) % (3 : Int32)) ((p1 &&& (255 : Int32)).toUInt32.toUInt16.toUInt32.toInt32) ((((p1.toUInt32 >>> ((8 : Int32) &&& 31).toUInt32).toInt32) &&& (255 : Int32)).toUInt32.toUInt16.toUInt32.toInt32)) ++ [58, 32] ++ (mkc ((((p3.toUInt32 >>> ((2 : Int32) &&& 31).toUInt32).toInt32) &&& (3 : Int32)) % (3 : Int32)) ((p2 &&& (255 : Int32)).toUInt32.toUInt16.toUInt32.toInt32) ((((p2.toUInt32 >>> ((8 : Int32) &&& 31).toUInt32).toInt32) &&& (255 : Int32)).toUInt32.toUInt16.toUInt32.toInt32))) (2 : Int32) ((((p3 &&& (3 : Int32)) % (3 : Int32)) + (2 : Int32)) + ((((p3.toUInt32 >>> ((2 : Int32) &&& 31).toUInt32).toInt32) &&& (3 : Int32)) % (3 : Int32))) ((p3 &&& (3 : Int32)) % (3 : Int32)) ((p1 &&& (255 : Int32)).toUInt32.toUInt16.toUInt32.toInt32) ((((p1.toUInt32 >>> ((8 : Int32) &&& 31).toUInt32).toInt32) &&& (255 : Int32)).toUInt32.toUInt16.toUInt32.toInt32) ((p2 &&& (255 : Int32)).toUInt32.toUInt16.toUInt32.toInt32) ((((p2.toUInt32 >>> ((8 : Int32) &&& 31).toUInt32).toInt32) &&& (255 : Int32)).toUInt32.toUInt16.toUInt32.toInt32)))])) tgt
    refine XS.ifNo H hx rfl (hb hby at_172) rfl ((if0 _ _).trans (feq (by rw [own_okV htl hel _ (by simp)]; decide)).1) ?_
    show Steps p.tables e below (T793.setTop (mkF m 175 #[.val (.int p1), .val (.int p2), .val (.int p3), .val (.int ((p3 &&& (3 : Int32)) % (3 : Int32))), .val (.int ((((p3.toUInt32 >>> ((2 : Int32) &&& 31).toUInt32).toInt32) &&& (3 : Int32)) % (3 : Int32))), .val (.int ((p1 &&& (255 : Int32)).toUInt32.toUInt16.toUInt32.toInt32)), .val (.int ((((p1.toUInt32 >>> ((8 : Int32) &&& 31).toUInt32).toInt32) &&& (255 : Int32)).toUInt32.toUInt16.toUInt32.toInt32)), .val (.int ((p2 &&& (255 : Int32)).toUInt32.toUInt16.toUInt32.toInt32)), .val (.int ((((p2.toUInt32 >>> ((8 : Int32) &&& 31).toUInt32).toInt32) &&& (255 : Int32)).toUInt32.toUInt16.toUInt32.toInt32)), .val (.ref sx_701), .val (.ref sx_718), .val (.ref z_762), .val (.int ((((p3 &&& (3 : Int32)) % (3 : Int32)) + (2 : Int32)) + ((((p3.toUInt32 >>> ((2 : Int32) &&& 31).toUInt32).toInt32) &&& (3 : Int32)) % (3 : Int32))))] [])) tgt
    refine XS.aload H hx rfl (hb hby at_175) rfl rfl ?_
    show Steps p.tables e below (T793.setTop (mkF m 177 #[.val (.int p1), .val (.int p2), .val (.int p3), .val (.int ((p3 &&& (3 : Int32)) % (3 : Int32))), .val (.int ((((p3.toUInt32 >>> ((2 : Int32) &&& 31).toUInt32).toInt32) &&& (3 : Int32)) % (3 : Int32))), .val (.int ((p1 &&& (255 : Int32)).toUInt32.toUInt16.toUInt32.toInt32)), .val (.int ((((p1.toUInt32 >>> ((8 : Int32) &&& 31).toUInt32).toInt32) &&& (255 : Int32)).toUInt32.toUInt16.toUInt32.toInt32)), .val (.int ((p2 &&& (255 : Int32)).toUInt32.toUInt16.toUInt32.toInt32)), .val (.int ((((p2.toUInt32 >>> ((8 : Int32) &&& 31).toUInt32).toInt32) &&& (255 : Int32)).toUInt32.toUInt16.toUInt32.toInt32)), .val (.ref sx_701), .val (.ref sx_718), .val (.ref z_762), .val (.int ((((p3 &&& (3 : Int32)) % (3 : Int32)) + (2 : Int32)) + ((((p3.toUInt32 >>> ((2 : Int32) &&& 31).toUInt32).toInt32) &&& (3 : Int32)) % (3 : Int32))))] [(.ref z_762)])) tgt
    refine XS.iconst H hx rfl (hb hby at_177) ?_
    show Steps p.tables e below (T793.setTop (mkF m 178 #[.val (.int p1), .val (.int p2), .val (.int p3), .val (.int ((p3 &&& (3 : Int32)) % (3 : Int32))), .val (.int ((((p3.toUInt32 >>> ((2 : Int32) &&& 31).toUInt32).toInt32) &&& (3 : Int32)) % (3 : Int32))), .val (.int ((p1 &&& (255 : Int32)).toUInt32.toUInt16.toUInt32.toInt32)), .val (.int ((((p1.toUInt32 >>> ((8 : Int32) &&& 31).toUInt32).toInt32) &&& (255 : Int32)).toUInt32.toUInt16.toUInt32.toInt32)), .val (.int ((p2 &&& (255 : Int32)).toUInt32.toUInt16.toUInt32.toInt32)), .val (.int ((((p2.toUInt32 >>> ((8 : Int32) &&& 31).toUInt32).toInt32) &&& (255 : Int32)).toUInt32.toUInt16.toUInt32.toInt32)), .val (.ref sx_701), .val (.ref sx_718), .val (.ref z_762), .val (.int ((((p3 &&& (3 : Int32)) % (3 : Int32)) + (2 : Int32)) + ((((p3.toUInt32 >>> ((2 : Int32) &&& 31).toUInt32).toInt32) &&& (3 : Int32)) % (3 : Int32))))] [(.int (3 : Int32)), (.ref z_762)])) tgt
    refine XS.iload H hx rfl (hb hby at_178) rfl ?_
    show Steps p.tables e below (T793.setTop (mkF m 180 #[.val (.int p1), .val (.int p2), .val (.int p3), .val (.int ((p3 &&& (3 : Int32)) % (3 : Int32))), .val (.int ((((p3.toUInt32 >>> ((2 : Int32) &&& 31).toUInt32).toInt32) &&& (3 : Int32)) % (3 : Int32))), .val (.int ((p1 &&& (255 : Int32)).toUInt32.toUInt16.toUInt32.toInt32)), .val (.int ((((p1.toUInt32 >>> ((8 : Int32) &&& 31).toUInt32).toInt32) &&& (255 : Int32)).toUInt32.toUInt16.toUInt32.toInt32)), .val (.int ((p2 &&& (255 : Int32)).toUInt32.toUInt16.toUInt32.toInt32)), .val (.int ((((p2.toUInt32 >>> ((8 : Int32) &&& 31).toUInt32).toInt32) &&& (255 : Int32)).toUInt32.toUInt16.toUInt32.toInt32)), .val (.ref sx_701), .val (.ref sx_718), .val (.ref z_762), .val (.int ((((p3 &&& (3 : Int32)) % (3 : Int32)) + (2 : Int32)) + ((((p3.toUInt32 >>> ((2 : Int32) &&& 31).toUInt32).toInt32) &&& (3 : Int32)) % (3 : Int32))))] [(.int ((((p3 &&& (3 : Int32)) % (3 : Int32)) + (2 : Int32)) + ((((p3.toUInt32 >>> ((2 : Int32) &&& 31).toUInt32).toInt32) &&& (3 : Int32)) % (3 : Int32)))), (.int (3 : Int32)), (.ref z_762)])) tgt
    refine XS.iloadN H hx rfl (hb hby at_180) rfl ?_
    show Steps p.tables e below (T793.setTop (mkF m 181 #[.val (.int p1), .val (.int p2), .val (.int p3), .val (.int ((p3 &&& (3 : Int32)) % (3 : Int32))), .val (.int ((((p3.toUInt32 >>> ((2 : Int32) &&& 31).toUInt32).toInt32) &&& (3 : Int32)) % (3 : Int32))), .val (.int ((p1 &&& (255 : Int32)).toUInt32.toUInt16.toUInt32.toInt32)), .val (.int ((((p1.toUInt32 >>> ((8 : Int32) &&& 31).toUInt32).toInt32) &&& (255 : Int32)).toUInt32.toUInt16.toUInt32.toInt32)), .val (.int ((p2 &&& (255 : Int32)).toUInt32.toUInt16.toUInt32.toInt32)), .val (.int ((((p2.toUInt32 >>> ((8 : Int32) &&& 31).toUInt32).toInt32) &&& (255 : Int32)).toUInt32.toUInt16.toUInt32.toInt32)), .val (.ref sx_701), .val (.ref sx_718), .val (.ref z_762), .val (.int ((((p3 &&& (3 : Int32)) % (3 : Int32)) + (2 : Int32)) + ((((p3.toUInt32 >>> ((2 : Int32) &&& 31).toUInt32).toInt32) &&& (3 : Int32)) % (3 : Int32))))] [(.int ((p3 &&& (3 : Int32)) % (3 : Int32))), (.int ((((p3 &&& (3 : Int32)) % (3 : Int32)) + (2 : Int32)) + ((((p3.toUInt32 >>> ((2 : Int32) &&& 31).toUInt32).toInt32) &&& (3 : Int32)) % (3 : Int32)))), (.int (3 : Int32)), (.ref z_762)])) tgt
    refine XS.iload H hx rfl (hb hby at_181) rfl ?_
    show Steps p.tables e below (T793.setTop (mkF m 183 #[.val (.int p1), .val (.int p2), .val (.int p3), .val (.int ((p3 &&& (3 : Int32)) % (3 : Int32))), .val (.int ((((p3.toUInt32 >>> ((2 : Int32) &&& 31).toUInt32).toInt32) &&& (3 : Int32)) % (3 : Int32))), .val (.int ((p1 &&& (255 : Int32)).toUInt32.toUInt16.toUInt32.toInt32)), .val (.int ((((p1.toUInt32 >>> ((8 : Int32) &&& 31).toUInt32).toInt32) &&& (255 : Int32)).toUInt32.toUInt16.toUInt32.toInt32)), .val (.int ((p2 &&& (255 : Int32)).toUInt32.toUInt16.toUInt32.toInt32)), .val (.int ((((p2.toUInt32 >>> ((8 : Int32) &&& 31).toUInt32).toInt32) &&& (255 : Int32)).toUInt32.toUInt16.toUInt32.toInt32)), .val (.ref sx_701), .val (.ref sx_718), .val (.ref z_762), .val (.int ((((p3 &&& (3 : Int32)) % (3 : Int32)) + (2 : Int32)) + ((((p3.toUInt32 >>> ((2 : Int32) &&& 31).toUInt32).toInt32) &&& (3 : Int32)) % (3 : Int32))))] [(.int ((p1 &&& (255 : Int32)).toUInt32.toUInt16.toUInt32.toInt32)), (.int ((p3 &&& (3 : Int32)) % (3 : Int32))), (.int ((((p3 &&& (3 : Int32)) % (3 : Int32)) + (2 : Int32)) + ((((p3.toUInt32 >>> ((2 : Int32) &&& 31).toUInt32).toInt32) &&& (3 : Int32)) % (3 : Int32)))), (.int (3 : Int32)), (.ref z_762)])) tgt
    refine XS.iload H hx rfl (hb hby at_183) rfl ?_
    show Steps p.tables e below (T793.setTop (mkF m 185 #[.val (.int p1), .val (.int p2), .val (.int p3), .val (.int ((p3 &&& (3 : Int32)) % (3 : Int32))), .val (.int ((((p3.toUInt32 >>> ((2 : Int32) &&& 31).toUInt32).toInt32) &&& (3 : Int32)) % (3 : Int32))), .val (.int ((p1 &&& (255 : Int32)).toUInt32.toUInt16.toUInt32.toInt32)), .val (.int ((((p1.toUInt32 >>> ((8 : Int32) &&& 31).toUInt32).toInt32) &&& (255 : Int32)).toUInt32.toUInt16.toUInt32.toInt32)), .val (.int ((p2 &&& (255 : Int32)).toUInt32.toUInt16.toUInt32.toInt32)), .val (.int ((((p2.toUInt32 >>> ((8 : Int32) &&& 31).toUInt32).toInt32) &&& (255 : Int32)).toUInt32.toUInt16.toUInt32.toInt32)), .val (.ref sx_701), .val (.ref sx_718), .val (.ref z_762), .val (.int ((((p3 &&& (3 : Int32)) % (3 : Int32)) + (2 : Int32)) + ((((p3.toUInt32 >>> ((2 : Int32) &&& 31).toUInt32).toInt32) &&& (3 : Int32)) % (3 : Int32))))] [(.int ((((p1.toUInt32 >>> ((8 : Int32) &&& 31).toUInt32).toInt32) &&& (255 : Int32)).toUInt32.toUInt16.toUInt32.toInt32)), (.int ((p1 &&& (255 : Int32)).toUInt32.toUInt16.toUInt32.toInt32)), (.int ((p3 &&& (3 : Int32)) % (3 : Int32))), (.int ((((p3 &&& (3 : Int32)) % (3 : Int32)) + (2 : Int32)) + ((((p3.toUInt32 >>> ((2 : Int32) &&& 31).toUInt32).toInt32) &&& (3 : Int32)) % (3 : Int32)))), (.int (3 : Int32)), (.ref z_762)])) tgt
    refine XS.iload H hx rfl (hb hby at_185) rfl ?_
    show Steps p.tables e below (T793.setTop (mkF m 187 #[.val (.int p1), .val (.int p2), .val (.int p3), .val (.int ((p3 &&& (3 : Int32)) % (3 : Int32))), .val (.int ((((p3.toUInt32 >>> ((2 : Int32) &&& 31).toUInt32).toInt32) &&& (3 : Int32)) % (3 : Int32))), .val (.int ((p1 &&& (255 : Int32)).toUInt32.toUInt16.toUInt32.toInt32)), .val (.int ((((p1.toUInt32 >>> ((8 : Int32) &&& 31).toUInt32).toInt32) &&& (255 : Int32)).toUInt32.toUInt16.toUInt32.toInt32)), .val (.int ((p2 &&& (255 : Int32)).toUInt32.toUInt16.toUInt32.toInt32)), .val (.int ((((p2.toUInt32 >>> ((8 : Int32) &&& 31).toUInt32).toInt32) &&& (255 : Int32)).toUInt32.toUInt16.toUInt32.toInt32)), .val (.ref sx_701), .val (.ref sx_718), .val (.ref z_762), .val (.int ((((p3 &&& (3 : Int32)) % (3 : Int32)) + (2 : Int32)) + ((((p3.toUInt32 >>> ((2 : Int32) &&& 31).toUInt32).toInt32) &&& (3 : Int32)) % (3 : Int32))))] [(.int ((p2 &&& (255 : Int32)).toUInt32.toUInt16.toUInt32.toInt32)), (.int ((((p1.toUInt32 >>> ((8 : Int32) &&& 31).toUInt32).toInt32) &&& (255 : Int32)).toUInt32.toUInt16.toUInt32.toInt32)), (.int ((p1 &&& (255 : Int32)).toUInt32.toUInt16.toUInt32.toInt32)), (.int ((p3 &&& (3 : Int32)) % (3 : Int32))), (.int ((((p3 &&& (3 : Int32)) % (3 : Int32)) + (2 : Int32)) + ((((p3.toUInt32 >>> ((2 : Int32) &&& 31).toUInt32).toInt32) &&& (3 : Int32)) % (3 : Int32)))), (.int (3 : Int32)), (.ref z_762)])) tgt
    refine XS.iload H hx rfl (hb hby at_187) rfl ?_
    exact kt
  clear H
  refine Jvm.OwnW.Aim.callS (pc := 189) (Ls := #[.val (.int p1), .val (.int p2), .val (.int p3), .val (.int ((p3 &&& (3 : Int32)) % (3 : Int32))), .val (.int ((((p3.toUInt32 >>> ((2 : Int32) &&& 31).toUInt32).toInt32) &&& (3 : Int32)) % (3 : Int32))), .val (.int ((p1 &&& (255 : Int32)).toUInt32.toUInt16.toUInt32.toInt32)), .val (.int ((((p1.toUInt32 >>> ((8 : Int32) &&& 31).toUInt32).toInt32) &&& (255 : Int32)).toUInt32.toUInt16.toUInt32.toInt32)), .val (.int ((p2 &&& (255 : Int32)).toUInt32.toUInt16.toUInt32.toInt32)), .val (.int ((((p2.toUInt32 >>> ((8 : Int32) &&& 31).toUInt32).toInt32) &&& (255 : Int32)).toUInt32.toUInt16.toUInt32.toInt32)), .val (.ref sx_701), .val (.ref sx_718), .val (.ref z_762), .val (.int ((((p3 &&& (3 : Int32)) % (3 : Int32)) + (2 : Int32)) + ((((p3.toUInt32 >>> ((2 : Int32) &&& 31).toUInt32).toInt32) &&& (3 : Int32)) % (3 : Int32))))]) (argsL := [(.ref z_762), (.int (3 : Int32)), (.int ((((p3 &&& (3 : Int32)) % (3 : Int32)) + (2 : Int32)) + ((((p3.toUInt32 >>> ((2 : Int32) &&& 31).toUInt32).toInt32) &&& (3 : Int32)) % (3 : Int32)))), (.int ((p3 &&& (3 : Int32)) % (3 : Int32))), (.int ((p1 &&& (255 : Int32)).toUInt32.toUInt16.toUInt32.toInt32)), (.int ((((p1.toUInt32 >>> ((8 : Int32) &&& 31).toUInt32).toInt32) &&& (255 : Int32)).toUInt32.toUInt16.toUInt32.toInt32)), (.int ((p2 &&& (255 : Int32)).toUInt32.toUInt16.toUInt32.toInt32)), (.int ((((p2.toUInt32 >>> ((8 : Int32) &&& 31).toUInt32).toInt32) &&& (255 : Int32)).toUInt32.toUInt16.toUInt32.toInt32))]) (rest := []) P795 hx hZ hml hown (hw _ (List.mem_of_getElem? (i := 170) rfl)) (hw _ (List.mem_of_getElem? (i := 171) rfl)) (hw _ (List.mem_of_getElem? (i := 2) rfl)) (hw _ (List.mem_of_getElem? (i := 172) rfl)) (by decide) (fun vm0 hZ => Jvm.OwnN.Con.back (s := s.setVm vm0) (W := 0) (own_ok l Z a0 hw z_762 t_763 k_764 ((mkc ((p3 &&& (3 : Int32)) % (3 : Int32)) ((p1 &&& (255 : Int32)).toUInt32.toUInt16.toUInt32.toInt32) ((((p1.toUInt32 >>> ((8 : Int32) &&& 31).toUInt32).toInt32) &&& (255 : Int32)).toUInt32.toUInt16.toUInt32.toInt32)) ++ [58, 32] ++ (mkc ((((p3.toUInt32 >>> ((2 : Int32) &&& 31).toUInt32).toInt32) &&& (3 : Int32)) % (3 : Int32)) ((p2 &&& (255 : Int32)).toUInt32.toUInt16.toUInt32.toInt32) ((((p2.toUInt32 >>> ((8 : Int32) &&& 31).toUInt32).toInt32) &&& (255 : Int32)).toUInt32.toUInt16.toUInt32.toInt32))) (3 : Int32) ((((p3 &&& (3 : Int32)) % (3 : Int32)) + (2 : Int32)) + ((((p3.toUInt32 >>> ((2 : Int32) &&& 31).toUInt32).toInt32) &&& (3 : Int32)) % (3 : Int32))) ((p3 &&& (3 : Int32)) % (3 : Int32)) ((p1 &&& (255 : Int32)).toUInt32.toUInt16.toUInt32.toInt32) ((((p1.toUInt32 >>> ((8 : Int32) &&& 31).toUInt32).toInt32) &&& (255 : Int32)).toUInt32.toUInt16.toUInt32.toInt32) ((p2 &&& (255 : Int32)).toUInt32.toUInt16.toUInt32.toInt32) ((((p2.toUInt32 >>> ((8 : Int32) &&& 31).toUInt32).toInt32) &&& (255 : Int32)).toUInt32.toUInt16.toUInt32.toInt32) h756 n0 (Nat.le_trans Z0 (K769.1)) F768 F771 (own_char _) (own_char _) (own_char _) (own_char _) (by decide) (own_n htl hel) G GS) hZ (hw _ (List.mem_of_getElem? (i := 172) rfl)) (hw _ (List.mem_of_getElem? (i := 2) rfl)) (by decide) (by decide)) (fun _ _ ⟨_, q⟩ => (by subst q; exact Keep.refl _ [])) all0 rfl pd__28Ljava_2flang_2fString_3bIIICCCC_29Z rfl (Nat.le_of_eq rfl) (hb hby at_189) (by decide) (by decide) ?_
  intro T800 h801 v804 P802 hQ803
  obtain ⟨rfl, rfl⟩ := hQ803
  show Jvm.OwnW.Aim p e below s _ _ n0 _ T800 (mkF m 192 #[.val (.int p1), .val (.int p2), .val (.int p3), .val (.int ((p3 &&& (3 : Int32)) % (3 : Int32))), .val (.int ((((p3.toUInt32 >>> ((2 : Int32) &&& 31).toUInt32).toInt32) &&& (3 : Int32)) % (3 : Int32))), .val (.int ((p1 &&& (255 : Int32)).toUInt32.toUInt16.toUInt32.toInt32)), .val (.int ((((p1.toUInt32 >>> ((8 : Int32) &&& 31).toUInt32).toInt32) &&& (255 : Int32)).toUInt32.toUInt16.toUInt32.toInt32)), .val (.int ((p2 &&& (255 : Int32)).toUInt32.toUInt16.toUInt32.toInt32)), .val (.int ((((p2.toUInt32 >>> ((8 : Int32) &&& 31).toUInt32).toInt32) &&& (255 : Int32)).toUInt32.toUInt16.toUInt32.toInt32)), .val (.ref sx_701), .val (.ref sx_718), .val (.ref z_762), .val (.int ((((p3 &&& (3 : Int32)) % (3 : Int32)) + (2 : Int32)) + ((((p3.toUInt32 >>> ((2 : Int32) &&& 31).toUInt32).toInt32) &&& (3 : Int32)) % (3 : Int32))))] [(.int (okV ((mkc ((p3 &&& (3 : Int32)) % (3 : Int32)) ((p1 &&& (255 : Int32)).toUInt32.toUInt16.toUInt32.toInt32) ((((p1.toUInt32 >>> ((8 : Int32) &&& 31).toUInt32).toInt32) &&& (255 : Int32)).toUInt32.toUInt16.toUInt32.toInt32)) ++ [58, 32] ++ (mkc ((((p3.toUInt32 >>> ((2 : Int32) &&& 31).toUInt32).toInt32) &&& (3 : Int32)) % (3 : Int32)) ((p2 &&& (255 : Int32)).toUInt32.toUInt16.toUInt32.toInt32) ((((p2.toUInt32 >>> ((8 : Int32) &&& 31).toUInt32).toInt32) &&& (255 : Int32)).toUInt32.toUInt16.toUInt32.toInt32))) (3 : Int32) ((((p3 &&& (3 : Int32)) % (3 : Int32)) + (2 : Int32)) + ((((p3.toUInt32 >>> ((2 : Int32) &&& 31).toUInt32).toInt32) &&& (3 : Int32)) % (3 : Int32))) ((p3 &&& (3 : Int32)) % (3 : Int32)) ((p1 &&& (255 : Int32)).toUInt32.toUInt16.toUInt32.toInt32) ((((p1.toUInt32 >>> ((8 : Int32) &&& 31).toUInt32).toInt32) &&& (255 : Int32)).toUInt32.toUInt16.toUInt32.toInt32) ((p2 &&& (255 : Int32)).toUInt32.toUInt16.toUInt32.toInt32) ((((p2.toUInt32 >>> ((8 : Int32) &&& 31).toUInt32).toInt32) &&& (255 : Int32)).toUInt32.toUInt16.toUInt32.toInt32)))])
  have H := P802.here
  refine Jvm.OwnW.Aim.of (T := T800) (T' := T800) (g := (mkF m 192 #[.val (.int p1), .val (.int p2), .val (.int p3), .val (.int ((p3 &&& (3 : Int32)) % (3 : Int32))), .val (.int ((((p3.toUInt32 >>> ((2 : Int32) &&& 31).toUInt32).toInt32) &&& (3 : Int32)) % (3 : Int32))), .val (.int ((p1 &&& (255 : Int32)).toUInt32.toUInt16.toUInt32.toInt32)), .val (.int ((((p1.toUInt32 >>> ((8 : Int32) &&& 31).toUInt32).toInt32) &&& (255 : Int32)).toUInt32.toUInt16.toUInt32.toInt32)), .val (.int ((p2 &&& (255 : Int32)).toUInt32.toUInt16.toUInt32.toInt32)), .val (.int ((((p2.toUInt32 >>> ((8 : Int32) &&& 31).toUInt32).toInt32) &&& (255 : Int32)).toUInt32.toUInt16.toUInt32.toInt32)), .val (.ref sx_701), .val (.ref sx_718), .val (.ref z_762), .val (.int ((((p3 &&& (3 : Int32)) % (3 : Int32)) + (2 : Int32)) + ((((p3.toUInt32 >>> ((2 : Int32) &&& 31).toUInt32).toInt32) &&& (3 : Int32)) % (3 : Int32))))] [(.int (okV ((mkc ((p3 &&& (3 : Int32)) % (3 : Int32)) ((p1 &&& (255 : Int32)).toUInt32.toUInt16.toUInt32.toInt32) ((((p1.toUInt32 >>> ((8 : Int32) &&& 31).toUInt32).toInt32) &&& (255 : Int32)).toUInt32.toUInt16.toUInt32.toInt32)) ++ [58, 32] ++ (mkc ((((p3.toUInt32 >>> ((2 : Int32) &&& 31).toUInt32).toInt32) &&& (3 : Int32)) % (3 : Int32)) ((p2 &&& (255 : Int32)).toUInt32.toUInt16.toUInt32.toInt32) ((((p2.toUInt32 >>> ((8 : Int32) &&& 31).toUInt32).toInt32) &&& (255 : Int32)).toUInt32.toUInt16.toUInt32.toInt32))) (3 : Int32) ((((p3 &&& (3 : Int32)) % (3 : Int32)) + (2 : Int32)) + ((((p3.toUInt32 >>> ((2 : Int32) &&& 31).toUInt32).toInt32) &&& (3 : Int32)) % (3 : Int32))) ((p3 &&& (3 : Int32)) % (3 : Int32)) ((p1 &&& (255 : Int32)).toUInt32.toUInt16.toUInt32.toInt32) ((((p1.toUInt32 >>> ((8 : Int32) &&& 31).toUInt32).toInt32) &&& (255 : Int32)).toUInt32.toUInt16.toUInt32.toInt32) ((p2 &&& (255 : Int32)).toUInt32.toUInt16.toUInt32.toInt32) ((((p2.toUInt32 >>> ((8 : Int32) &&& 31).toUInt32).toInt32) &&& (255 : Int32)).toUInt32.toUInt16.toUInt32.toInt32)))])) (g' := (mkF m 209 #[.val (.int p1), .val (.int p2), .val (.int p3), .val (.int ((p3 &&& (3 : Int32)) % (3 : Int32))), .val (.int ((((p3.toUInt32 >>> ((2 : Int32) &&& 31).toUInt32).toInt32) &&& (3 : Int32)) % (3 : Int32))), .val (.int ((p1 &&& (255 : Int32)).toUInt32.toUInt16.toUInt32.toInt32)), .val (.int ((((p1.toUInt32 >>> ((8 : Int32) &&& 31).toUInt32).toInt32) &&& (255 : Int32)).toUInt32.toUInt16.toUInt32.toInt32)), .val (.int ((p2 &&& (255 : Int32)).toUInt32.toUInt16.toUInt32.toInt32)), .val (.int ((((p2.toUInt32 >>> ((8 : Int32) &&& 31).toUInt32).toInt32) &&& (255 : Int32)).toUInt32.toUInt16.toUInt32.toInt32)), .val (.ref sx_701), .val (.ref sx_718), .val (.ref z_762), .val (.int ((((p3 &&& (3 : Int32)) % (3 : Int32)) + (2 : Int32)) + ((((p3.toUInt32 >>> ((2 : Int32) &&& 31).toUInt32).toInt32) &&& (3 : Int32)) % (3 : Int32))))] [(.int ((((p2.toUInt32 >>> ((8 : Int32) &&& 31).toUInt32).toInt32) &&& (255 : Int32)).toUInt32.toUInt16.toUInt32.toInt32)), (.int ((p2 &&& (255 : Int32)).toUInt32.toUInt16.toUInt32.toInt32)), (.int ((((p1.toUInt32 >>> ((8 : Int32) &&& 31).toUInt32).toInt32) &&& (255 : Int32)).toUInt32.toUInt16.toUInt32.toInt32)), (.int ((p1 &&& (255 : Int32)).toUInt32.toUInt16.toUInt32.toInt32)), (.int ((p3 &&& (3 : Int32)) % (3 : Int32))), (.int ((((p3 &&& (3 : Int32)) % (3 : Int32)) + (2 : Int32)) + ((((p3.toUInt32 >>> ((2 : Int32) &&& 31).toUInt32).toInt32) &&& (3 : Int32)) % (3 : Int32)))), (.int (4 : Int32)), (.ref z_762)])) (fun tgt kt => ?_) ?_
  · show Steps p.tables e below (T800.setTop (mkF m 192 #[.val (.int p1), .val (.int p2), .val (.int p3), .val (.int ((p3 &&& (3 : Int32)) % (3 : Int32))), .val (.int ((((p3.toUInt32 >>> ((2 : Int32) &&& 31).toUInt32).toInt32) &&& (3 : Int32)) % (3 : Int32))), .val (.int ((p1 &&& (255 : Int32)).toUInt32.toUInt16.toUInt32.toInt32)), .val (.int ((((p1.toUInt32 >>> ((8 : Int32) &&& 31).toUInt32).toInt32) &&& (255 : Int32)).toUInt32.toUInt16.toUInt32.toInt32)), .val (.int ((p2 &&& (255 : Int32)).toUInt32.toUInt16.toUInt32.toInt32)), .val (.int ((((p2.toUInt32 >>> ((8 : Int32) &&& 31).toUInt32).toInt32) &&& (255 : Int32)).toUInt32.toUInt16.toUInt32.toInt32)), .val (.ref sx_701), .val (.ref sx_718), .val (.ref z_762), .val (.int ((((p3 &&& (3 : Int32)) % (3 : Int32)) + (2 : Int32)) + ((((p3.toUInt32 >>> ((2 : Int32) &&& 31).toUInt32).toInt32) &&& (3 : Int32)) % (3 : Int32))))] [(.int (okV ((mkc ((p3 &&& (3 : Int32)) % (3 : Int32)) ((p1 &&& (255 : Int32)).toUInt32.toUInt16.toUInt32.toInt32) ((((p1.toUInt32 >>> ((8 : Int32) &&& 31).toUInt32).toInt32) &&& (255 : Int32)).toUInt32.toUInt16.toUInt32.toInt32)) ++ [58, 32] ++ (mkc ((((p3.toUInt32 >>> ((2 : Int32) &&& 31).toUInt32).toInt32) &&& (3 : Int32)) % (3 : Int32)) ((p2 &&& (255 : Int32)).toUInt32.toUInt16.toUInt32.toInt32) ((((p2.toUInt32 >>> ((8 : Int32) &&& 31).toUInt32).toInt32) &&& (255 : Int32)).toUInt32.toUInt16.toUInt32.toInt32))) (3 : Int32) ((((p3 &&& (3 : Int32)) % (3 : Int32)) + (2 : Int32)) + ((((p3.toUInt32 >>> ((2 : Int32) &&& 31).toUInt32).toInt32) &&& (3 : Int32)) % (3 : Int32))) ((p3 &&& (3 : Int32)) % (3 : Int32)) ((p1 &&& (255 : Int32)).toUInt32.toUInt16.toUInt32.toInt32) ((((p1.toUInt32 >>> ((8 : Int32) &&& 31).toUInt32).toInt32) &&& (255 : Int32)).toUInt32.toUInt16.toUInt32.toInt32) ((p2 &&& (255 : Int32)).toUInt32.toUInt16.toUInt32.toInt32) ((((p2.toUInt32 >>> ((8 : Int32) &&& 31).toUInt32).toInt32) &&& (255 : Int32)).toUInt32.toUInt16.toUInt32.toInt32)))])) tgt
    refine XS.ifNo H hx rfl (hb hby at_192) rfl ((if0 _ _).trans (feq (by rw [own_okV htl hel _ (by simp)]; decide)).1) ?_
    show Steps p.tables e below (T800.setTop (mkF m 195 #[.val (.int p1), .val (.int p2), .val (.int p3), .val (.int ((p3 &&& (3 : Int32)) % (3 : Int32))), .val (.int ((((p3.toUInt32 >>> ((2 : Int32) &&& 31).toUInt32).toInt32) &&& (3 : Int32)) % (3 : Int32))), .val (.int ((p1 &&& (255 : Int32)).toUInt32.toUInt16.toUInt32.toInt32)), .val (.int ((((p1.toUInt32 >>> ((8 : Int32) &&& 31).toUInt32).toInt32) &&& (255 : Int32)).toUInt32.toUInt16.toUInt32.toInt32)), .val (.int ((p2 &&& (255 : Int32)).toUInt32.toUInt16.toUInt32.toInt32)), .val (.int ((((p2.toUInt32 >>> ((8 : Int32) &&& 31).toUInt32).toInt32) &&& (255 : Int32)).toUInt32.toUInt16.toUInt32.toInt32)), .val (.ref sx_701), .val (.ref sx_718), .val (.ref z_762), .val (.int ((((p3 &&& (3 : Int32)) % (3 : Int32)) + (2 : Int32)) + ((((p3.toUInt32 >>> ((2 : Int32) &&& 31).toUInt32).toInt32) &&& (3 : Int32)) % (3 : Int32))))] [])) tgt
    refine XS.aload H hx rfl (hb hby at_195) rfl rfl ?_
    show Steps p.tables e below (T800.setTop (mkF m 197 #[.val (.int p1), .val (.int p2), .val (.int p3), .val (.int ((p3 &&& (3 : Int32)) % (3 : Int32))), .val (.int ((((p3.toUInt32 >>> ((2 : Int32) &&& 31).toUInt32).toInt32) &&& (3 : Int32)) % (3 : Int32))), .val (.int ((p1 &&& (255 : Int32)).toUInt32.toUInt16.toUInt32.toInt32)), .val (.int ((((p1.toUInt32 >>> ((8 : Int32) &&& 31).toUInt32).toInt32) &&& (255 : Int32)).toUInt32.toUInt16.toUInt32.toInt32)), .val (.int ((p2 &&& (255 : Int32)).toUInt32.toUInt16.toUInt32.toInt32)), .val (.int ((((p2.toUInt32 >>> ((8 : Int32) &&& 31).toUInt32).toInt32) &&& (255 : Int32)).toUInt32.toUInt16.toUInt32.toInt32)), .val (.ref sx_701), .val (.ref sx_718), .val (.ref z_762), .val (.int ((((p3 &&& (3 : Int32)) % (3 : Int32)) + (2 : Int32)) + ((((p3.toUInt32 >>> ((2 : Int32) &&& 31).toUInt32).toInt32) &&& (3 : Int32)) % (3 : Int32))))] [(.ref z_762)])) tgt
    refine XS.iconst H hx rfl (hb hby at_197) ?_
    show Steps p.tables e below (T800.setTop (mkF m 198 #[.val (.int p1), .val (.int p2), .val (.int p3), .val (.int ((p3 &&& (3 : Int32)) % (3 : Int32))), .val (.int ((((p3.toUInt32 >>> ((2 : Int32) &&& 31).toUInt32).toInt32) &&& (3 : Int32)) % (3 : Int32))), .val (.int ((p1 &&& (255 : Int32)).toUInt32.toUInt16.toUInt32.toInt32)), .val (.int ((((p1.toUInt32 >>> ((8 : Int32) &&& 31).toUInt32).toInt32) &&& (255 : Int32)).toUInt32.toUInt16.toUInt32.toInt32)), .val (.int ((p2 &&& (255 : Int32)).toUInt32.toUInt16.toUInt32.toInt32)), .val (.int ((((p2.toUInt32 >>> ((8 : Int32) &&& 31).toUInt32).toInt32) &&& (255 : Int32)).toUInt32.toUInt16.toUInt32.toInt32)), .val (.ref sx_701), .val (.ref sx_718), .val (.ref z_762), .val (.int ((((p3 &&& (3 : Int32)) % (3 : Int32)) + (2 : Int32)) + ((((p3.toUInt32 >>> ((2 : Int32) &&& 31).toUInt32).toInt32) &&& (3 : Int32)) % (3 : Int32))))] [(.int (4 : Int32)), (.ref z_762)])) tgt
    refine XS.iload H hx rfl (hb hby at_198) rfl ?_
    show Steps p.tables e below (T800.setTop (mkF m 200 #[.val (.int p1), .val (.int p2), .val (.int p3), .val (.int ((p3 &&& (3 : Int32)) % (3 : Int32))), .val (.int ((((p3.toUInt32 >>> ((2 : Int32) &&& 31).toUInt32).toInt32) &&& (3 : Int32)) % (3 : Int32))), .val (.int ((p1 &&& (255 : Int32)).toUInt32.toUInt16.toUInt32.toInt32)), .val (.int ((((p1.toUInt32 >>> ((8 : Int32) &&& 31).toUInt32).toInt32) &&& (255 : Int32)).toUInt32.toUInt16.toUInt32.toInt32)), .val (.int ((p2 &&& (255 : Int32)).toUInt32.toUInt16.toUInt32.toInt32)), .val (.int ((((p2.toUInt32 >>> ((8 : Int32) &&& 31).toUInt32).toInt32) &&& (255 : Int32)).toUInt32.toUInt16.toUInt32.toInt32)), .val (.ref sx_701), .val (.ref sx_718), .val (.ref z_762), .val (.int ((((p3 &&& (3 : Int32)) % (3 : Int32)) + (2 : Int32)) + ((((p3.toUInt32 >>> ((2 : Int32) &&& 31).toUInt32).toInt32) &&& (3 : Int32)) % (3 : Int32))))] [(.int ((((p3 &&& (3 : Int32)) % (3 : Int32)) + (2 : Int32)) + ((((p3.toUInt32 >>> ((2 : Int32) &&& 31).toUInt32).toInt32) &&& (3 : Int32)) % (3 : Int32)))), (.int (4 : Int32)), (.ref z_762)])) tgt
    refine XS.iloadN H hx rfl (hb hby at_200) rfl ?_
    show Steps p.tables e below (T800.setTop (mkF m 201 #[.val (.int p1), .val (.int p2), .val (.int p3), .val (.int ((p3 &&& (3 : Int32)) % (3 : Int32))), .val (.int ((((p3.toUInt32 >>> ((2 : Int32) &&& 31).toUInt32).toInt32) &&& (3 : Int32)) % (3 : Int32))), .val (.int ((p1 &&& (255 : Int32)).toUInt32.toUInt16.toUInt32.toInt32)), .val (.int ((((p1.toUInt32 >>> ((8 : Int32) &&& 31).toUInt32).toInt32) &&& (255 : Int32)).toUInt32.toUInt16.toUInt32.toInt32)), .val (.int ((p2 &&& (255 : Int32)).toUInt32.toUInt16.toUInt32.toInt32)), .val (.int ((((p2.toUInt32 >>> ((8 : Int32) &&& 31).toUInt32).toInt32) &&& (255 : Int32)).toUInt32.toUInt16.toUInt32.toInt32)), .val (.ref sx_701), .val (.ref sx_718), .val (.ref z_762), .val (.int ((((p3 &&& (3 : Int32)) % (3 : Int32)) + (2 : Int32)) + ((((p3.toUInt32 >>> ((2 : Int32) &&& 31).toUInt32).toInt32) &&& (3 : Int32)) % (3 : Int32))))] [(.int ((p3 &&& (3 : Int32)) % (3 : Int32))), (.int ((((p3 &&& (3 : Int32)) % (3 : Int32)) + (2 : Int32)) + ((((p3.toUInt32 >>> ((2 : Int32) &&& 31).toUInt32).toInt32) &&& (3 : Int32)) % (3 : Int32)))), (.int (4 : Int32)), (.ref z_762)])) tgt
    refine XS.iload H hx rfl (hb hby at_201) rfl ?_
    show Steps p.tables e below (T800.setTop (mkF m 203 #[.val (.int p1), .val (.int p2), .val (.int p3), .val (.int ((p3 &&& (3 : Int32)) % (3 : Int32))), .val (.int ((((p3.toUInt32 >>> ((2 : Int32) &&& 31).toUInt32).toInt32) &&& (3 : Int32)) % (3 : Int32))), .val (.int ((p1 &&& (255 : Int32)).toUInt32.toUInt16.toUInt32.toInt32)), .val (.int ((((p1.toUInt32 >>> ((8 : Int32) &&& 31).toUInt32).toInt32) &&& (255 : Int32)).toUInt32.toUInt16.toUInt32.toInt32)), .val (.int ((p2 &&& (255 : Int32)).toUInt32.toUInt16.toUInt32.toInt32)), .val (.int ((((p2.toUInt32 >>> ((8 : Int32) &&& 31).toUInt32).toInt32) &&& (255 : Int32)).toUInt32.toUInt16.toUInt32.toInt32)), .val (.ref sx_701), .val (.ref sx_718), .val (.ref z_762), .val (.int ((((p3 &&& (3 : Int32)) % (3 : Int32)) + (2 : Int32)) + ((((p3.toUInt32 >>> ((2 : Int32) &&& 31).toUInt32).toInt32) &&& (3 : Int32)) % (3 : Int32))))] [(.int ((p1 &&& (255 : Int32)).toUInt32.toUInt16.toUInt32.toInt32)), (.int ((p3 &&& (3 : Int32)) % (3 : Int32))), (.int ((((p3 &&& (3 : Int32)) % (3 : Int32)) + (2 : Int32)) + ((((p3.toUInt32 >>> ((2 : Int32) &&& 31).toUInt32).toInt32) &&& (3 : Int32)) % (3 : Int32)))), (.int (4 : Int32)), (.ref z_762)])) tgt
    refine XS.iload H hx rfl (hb hby at_203) rfl ?_
    show Steps p.tables e below (T800.setTop (mkF m 205 #[.val (.int p1), .val (.int p2), .val (.int p3), .val (.int ((p3 &&& (3 : Int32)) % (3 : Int32))), .val (.int ((((p3.toUInt32 >>> ((2 : Int32) &&& 31).toUInt32).toInt32) &&& (3 : Int32)) % (3 : Int32))), .val (.int ((p1 &&& (255 : Int32)).toUInt32.toUInt16.toUInt32.toInt32)), .val (.int ((((p1.toUInt32 >>> ((8 : Int32) &&& 31).toUInt32).toInt32) &&& (255 : Int32)).toUInt32.toUInt16.toUInt32.toInt32)), .val (.int ((p2 &&& (255 : Int32)).toUInt32.toUInt16.toUInt32.toInt32)), .val (.int ((((p2.toUInt32 >>> ((8 : Int32) &&& 31).toUInt32).toInt32) &&& (255 : Int32)).toUInt32.toUInt16.toUInt32.toInt32)), .val (.ref sx_701), .val (.ref sx_718), .val (.ref z_762), .val (.int ((((p3 &&& (3 : Int32)) % (3 : Int32)) + (2 : Int32)) + ((((p3.toUInt32 >>> ((2 : Int32) &&& 31).toUInt32).toInt32) &&& (3 : Int32)) % (3 : Int32))))] [(.int ((((p1.toUInt32 >>> ((8 : Int32) &&& 31).toUInt32).toInt32) &&& (255 : Int32)).toUInt32.toUInt16.toUInt32.toInt32)), (.int ((p1 &&& (255 : Int32)).toUInt32.toUInt16.toUInt32.toInt32)), (.int ((p3 &&& (3 : Int32)) % (3 : Int32))), (.int ((((p3 &&& (3 : Int32)) % (3 : Int32)) + (2 : Int32)) + ((((p3.toUInt32 >>> ((2 : Int32) &&& 31).toUInt32).toInt32) &&& (3 : Int32)) % (3 : Int32)))), (.int (4 : Int32)), (.ref z_762)])) tgt
    refine XS.iload H hx rfl (hb hby at_205) rfl ?_
    show Steps p.tables e below (T800.setTop (mkF m 207 #[.val (.int p1), .val (.int p2), .val (.int p3), .val (.int ((p3 &&& (3 : Int32)) % (3 : Int32))), .val (.int ((((p3.toUInt32 >>> ((2 : Int32) &&& 31).toUInt32).toInt32) &&& (3 : Int32)) % (3 : Int32))), .val (.int ((p1 &&& (255 : Int32)).toUInt32.toUInt16.toUInt32.toInt32)), .val (.int ((((p1.toUInt32 >>> ((8 : Int32) &&& 31).toUInt32).toInt32) &&& (255 : Int32)).toUInt32.toUInt16.toUInt32.toInt32)), .val (.int ((p2 &&& (255 : Int32)).toUInt32.toUInt16.toUInt32.toInt32)), .val (.int ((((p2.toUInt32 >>> ((8 : Int32) &&& 31).toUInt32).toInt32) &&& (255 : Int32)).toUInt32.toUInt16.toUInt32.toInt32)), .val (.ref sx_701), .val (.ref sx_718), .val (.ref z_762), .val (.int ((((p3 &&& (3 : Int32)) % (3 : Int32)) + (2 : Int32)) + ((((p3.toUInt32 >>> ((2 : Int32) &&& 31).toUInt32).toInt32) &&& (3 : Int32)) % (3 : Int32))))] [(.int ((p2 &&& (255 : Int32)).toUInt32.toUInt16.toUInt32.toInt32)), (.int ((((p1.toUInt32 >>> ((8 : Int32) &&& 31).toUInt32).toInt32) &&& (255 : Int32)).toUInt32.toUInt16.toUInt32.toInt32)), (.int ((p1 &&& (255 : Int32)).toUInt32.toUInt16.toUInt32.toInt32)), (.int ((p3 &&& (3 : Int32)) % (3 : Int32))), (.int ((((p3 &&& (3 : Int32)) % (3 : Int32)) + (2 : Int32)) + ((((p3.toUInt32 >>> ((2 : Int32) &&& 31).toUInt32).toInt32) &&& (3 : Int32)) % (3 : Int32)))), (.int (4 : Int32)), (.ref z_762)])) tgt
    refine XS.iload H hx rfl (hb hby at_207) rfl ?_
    exact kt
  clear H
  refine Jvm.OwnW.Aim.callS (pc := 209) (Ls := #[.val (.int p1), .val (.int p2), .val (.int p3), .val (.int ((p3 &&& (3 : Int32)) % (3 : Int32))), .val (.int ((((p3.toUInt32 >>> ((2 : Int32) &&& 31).toUInt32).toInt32) &&& (3 : Int32)) % (3 : Int32))), .val (.int ((p1 &&& (255 : Int32)).toUInt32.toUInt16.toUInt32.toInt32)), .val (.int ((((p1.toUInt32 >>> ((8 : Int32) &&& 31).toUInt32).toInt32) &&& (255 : Int32)).toUInt32.toUInt16.toUInt32.toInt32)), .val (.int ((p2 &&& (255 : Int32)).toUInt32.toUInt16.toUInt32.toInt32)), .val (.int ((((p2.toUInt32 >>> ((8 : Int32) &&& 31).toUInt32).toInt32) &&& (255 : Int32)).toUInt32.toUInt16.toUInt32.toInt32)), .val (.ref sx_701), .val (.ref sx_718), .val (.ref z_762), .val (.int ((((p3 &&& (3 : Int32)) % (3 : Int32)) + (2 : Int32)) + ((((p3.toUInt32 >>> ((2 : Int32) &&& 31).toUInt32).toInt32) &&& (3 : Int32)) % (3 : Int32))))]) (argsL := [(.ref z_762), (.int (4 : Int32)), (.int ((((p3 &&& (3 : Int32)) % (3 : Int32)) + (2 : Int32)) + ((((p3.toUInt32 >>> ((2 : Int32) &&& 31).toUInt32).toInt32) &&& (3 : Int32)) % (3 : Int32)))), (.int ((p3 &&& (3 : Int32)) % (3 : Int32))), (.int ((p1 &&& (255 : Int32)).toUInt32.toUInt16.toUInt32.toInt32)), (.int ((((p1.toUInt32 >>> ((8 : Int32) &&& 31).toUInt32).toInt32) &&& (255 : Int32)).toUInt32.toUInt16.toUInt32.toInt32)), (.int ((p2 &&& (255 : Int32)).toUInt32.toUInt16.toUInt32.toInt32)), (.int ((((p2.toUInt32 >>> ((8 : Int32) &&& 31).toUInt32).toInt32) &&& (255 : Int32)).toUInt32.toUInt16.toUInt32.toInt32))]) (rest := []) P802 hx hZ hml hown (hw _ (List.mem_of_getElem? (i := 170) rfl)) (hw _ (List.mem_of_getElem? (i := 171) rfl)) (hw _ (List.mem_of_getElem? (i := 2) rfl)) (hw _ (List.mem_of_getElem? (i := 172) rfl)) (by decide) (fun vm0 hZ => Jvm.OwnN.Con.back (s := s.setVm vm0) (W := 0) (own_ok l Z a0 hw z_762 t_763 k_764 ((mkc ((p3 &&& (3 : Int32)) % (3 : Int32)) ((p1 &&& (255 : Int32)).toUInt32.toUInt16.toUInt32.toInt32) ((((p1.toUInt32 >>> ((8 : Int32) &&& 31).toUInt32).toInt32) &&& (255 : Int32)).toUInt32.toUInt16.toUInt32.toInt32)) ++ [58, 32] ++ (mkc ((((p3.toUInt32 >>> ((2 : Int32) &&& 31).toUInt32).toInt32) &&& (3 : Int32)) % (3 : Int32)) ((p2 &&& (255 : Int32)).toUInt32.toUInt16.toUInt32.toInt32) ((((p2.toUInt32 >>> ((8 : Int32) &&& 31).toUInt32).toInt32) &&& (255 : Int32)).toUInt32.toUInt16.toUInt32.toInt32))) (4 : Int32) ((((p3 &&& (3 : Int32)) % (3 : Int32)) + (2 : Int32)) + ((((p3.toUInt32 >>> ((2 : Int32) &&& 31).toUInt32).toInt32) &&& (3 : Int32)) % (3 : Int32))) ((p3 &&& (3 : Int32)) % (3 : Int32)) ((p1 &&& (255 : Int32)).toUInt32.toUInt16.toUInt32.toInt32) ((((p1.toUInt32 >>> ((8 : Int32) &&& 31).toUInt32).toInt32) &&& (255 : Int32)).toUInt32.toUInt16.toUInt32.toInt32) ((p2 &&& (255 : Int32)).toUInt32.toUInt16.toUInt32.toInt32) ((((p2.toUInt32 >>> ((8 : Int32) &&& 31).toUInt32).toInt32) &&& (255 : Int32)).toUInt32.toUInt16.toUInt32.toInt32) h756 n0 (Nat.le_trans Z0 (K769.1)) F768 F771 (own_char _) (own_char _) (own_char _) (own_char _) (by decide) (own_n htl hel) G GS) hZ (hw _ (List.mem_of_getElem? (i := 172) rfl)) (hw _ (List.mem_of_getElem? (i := 2) rfl)) (by decide) (by decide)) (fun _ _ ⟨_, q⟩ => (by subst q; exact Keep.refl _ [])) all0 rfl pd__28Ljava_2flang_2fString_3bIIICCCC_29Z rfl (Nat.le_of_eq rfl) (hb hby at_209) (by decide) (by decide) ?_
  intro T807 h808 v811 P809 hQ810
  obtain ⟨rfl, rfl⟩ := hQ810
  show Jvm.OwnW.Aim p e below s _ _ n0 _ T807 (mkF m 212 #[.val (.int p1), .val (.int p2), .val (.int p3), .val (.int ((p3 &&& (3 : Int32)) % (3 : Int32))), .val (.int ((((p3.toUInt32 >>> ((2 : Int32) &&& 31).toUInt32).toInt32) &&& (3 : Int32)) % (3 : Int32))), .val (.int ((p1 &&& (255 : Int32)).toUInt32.toUInt16.toUInt32.toInt32)), .val (.int ((((p1.toUInt32 >>> ((8 : Int32) &&& 31).toUInt32).toInt32) &&& (255 : Int32)).toUInt32.toUInt16.toUInt32.toInt32)), .val (.int ((p2 &&& (255 : Int32)).toUInt32.toUInt16.toUInt32.toInt32)), .val (.int ((((p2.toUInt32 >>> ((8 : Int32) &&& 31).toUInt32).toInt32) &&& (255 : Int32)).toUInt32.toUInt16.toUInt32.toInt32)), .val (.ref sx_701), .val (.ref sx_718), .val (.ref z_762), .val (.int ((((p3 &&& (3 : Int32)) % (3 : Int32)) + (2 : Int32)) + ((((p3.toUInt32 >>> ((2 : Int32) &&& 31).toUInt32).toInt32) &&& (3 : Int32)) % (3 : Int32))))] [(.int (okV ((mkc ((p3 &&& (3 : Int32)) % (3 : Int32)) ((p1 &&& (255 : Int32)).toUInt32.toUInt16.toUInt32.toInt32) ((((p1.toUInt32 >>> ((8 : Int32) &&& 31).toUInt32).toInt32) &&& (255 : Int32)).toUInt32.toUInt16.toUInt32.toInt32)) ++ [58, 32] ++ (mkc ((((p3.toUInt32 >>> ((2 : Int32) &&& 31).toUInt32).toInt32) &&& (3 : Int32)) % (3 : Int32)) ((p2 &&& (255 : Int32)).toUInt32.toUInt16.toUInt32.toInt32) ((((p2.toUInt32 >>> ((8 : Int32) &&& 31).toUInt32).toInt32) &&& (255 : Int32)).toUInt32.toUInt16.toUInt32.toInt32))) (4 : Int32) ((((p3 &&& (3 : Int32)) % (3 : Int32)) + (2 : Int32)) + ((((p3.toUInt32 >>> ((2 : Int32) &&& 31).toUInt32).toInt32) &&& (3 : Int32)) % (3 : Int32))) ((p3 &&& (3 : Int32)) % (3 : Int32)) ((p1 &&& (255 : Int32)).toUInt32.toUInt16.toUInt32.toInt32) ((((p1.toUInt32 >>> ((8 : Int32) &&& 31).toUInt32).toInt32) &&& (255 : Int32)).toUInt32.toUInt16.toUInt32.toInt32) ((p2 &&& (255 : Int32)).toUInt32.toUInt16.toUInt32.toInt32) ((((p2.toUInt32 >>> ((8 : Int32) &&& 31).toUInt32).toInt32) &&& (255 : Int32)).toUInt32.toUInt16.toUInt32.toInt32)))])
  have H := P809.here
  refine Jvm.OwnW.Aim.of (T := T807) (T' := T807) (g := (mkF m 212 #[.val (.int p1), .val (.int p2), .val (.int p3), .val (.int ((p3 &&& (3 : Int32)) % (3 : Int32))), .val (.int ((((p3.toUInt32 >>> ((2 : Int32) &&& 31).toUInt32).toInt32) &&& (3 : Int32)) % (3 : Int32))), .val (.int ((p1 &&& (255 : Int32)).toUInt32.toUInt16.toUInt32.toInt32)), .val (.int ((((p1.toUInt32 >>> ((8 : Int32) &&& 31).toUInt32).toInt32) &&& (255 : Int32)).toUInt32.toUInt16.toUInt32.toInt32)), .val (.int ((p2 &&& (255 : Int32)).toUInt32.toUInt16.toUInt32.toInt32)), .val (.int ((((p2.toUInt32 >>> ((8 : Int32) &&& 31).toUInt32).toInt32) &&& (255 : Int32)).toUInt32.toUInt16.toUInt32.toInt32)), .val (.ref sx_701), .val (.ref sx_718), .val (.ref z_762), .val (.int ((((p3 &&& (3 : Int32)) % (3 : Int32)) + (2 : Int32)) + ((((p3.toUInt32 >>> ((2 : Int32) &&& 31).toUInt32).toInt32) &&& (3 : Int32)) % (3 : Int32))))] [(.int (okV ((mkc ((p3 &&& (3 : Int32)) % (3 : Int32)) ((p1 &&& (255 : Int32)).toUInt32.toUInt16.toUInt32.toInt32) ((((p1.toUInt32 >>> ((8 : Int32) &&& 31).toUInt32).toInt32) &&& (255 : Int32)).toUInt32.toUInt16.toUInt32.toInt32)) ++ [58, 32] ++ (mkc ((((p3.toUInt32 >>> ((2 : Int32) &&& 31).toUInt32).toInt32) &&& (3 : Int32)) % (3 : Int32)) ((p2 &&& (255 : Int32)).toUInt32.toUInt16.toUInt32.toInt32) ((((p2.toUInt32 >>> ((8 : Int32) &&& 31).toUInt32).toInt32) &&& (255 : Int32)).toUInt32.toUInt16.toUInt32.toInt32))) (4 : Int32) ((((p3 &&& (3 : Int32)) % (3 : Int32)) + (2 : Int32)) + ((((p3.toUInt32 >>> ((2 : Int32) &&& 31).toUInt32).toInt32) &&& (3 : Int32)) % (3 : Int32))) ((p3 &&& (3 : Int32)) % (3 : Int32)) ((p1 &&& (255 : Int32)).toUInt32.toUInt16.toUInt32.toInt32) ((((p1.toUInt32 >>> ((8 : Int32) &&& 31).toUInt32).toInt32) &&& (255 : Int32)).toUInt32.toUInt16.toUInt32.toInt32) ((p2 &&& (255 : Int32)).toUInt32.toUInt16.toUInt32.toInt32) ((((p2.toUInt32 >>> ((8 : Int32) &&& 31).toUInt32).toInt32) &&& (255 : Int32)).toUInt32.toUInt16.toUInt32.toInt32)))])) (g' := (mkF m 229 #[.val (.int p1), .val (.int p2), .val (.int p3), .val (.int ((p3 &&& (3 : Int32)) % (3 : Int32))), .val (.int ((((p3.toUInt32 >>> ((2 : Int32) &&& 31).toUInt32).toInt32) &&& (3 : Int32)) % (3 : Int32))), .val (.int ((p1 &&& (255 : Int32)).toUInt32.toUInt16.toUInt32.toInt32)), .val (.int ((((p1.toUInt32 >>> ((8 : Int32) &&& 31).toUInt32).toInt32) &&& (255 : Int32)).toUInt32.toUInt16.toUInt32.toInt32)), .val (.int ((p2 &&& (255 : Int32)).toUInt32.toUInt16.toUInt32.toInt32)), .val (.int ((((p2.toUInt32 >>> ((8 : Int32) &&& 31).toUInt32).toInt32) &&& (255 : Int32)).toUInt32.toUInt16.toUInt32.toInt32)), .val (.ref sx_701), .val (.ref sx_718), .val (.ref z_762), .val (.int ((((p3 &&& (3 : Int32)) % (3 : Int32)) + (2 : Int32)) + ((((p3.toUInt32 >>> ((2 : Int32) &&& 31).toUInt32).toInt32) &&& (3 : Int32)) % (3 : Int32))))] [(.int ((((p2.toUInt32 >>> ((8 : Int32) &&& 31).toUInt32).toInt32) &&& (255 : Int32)).toUInt32.toUInt16.toUInt32.toInt32)), (.int ((p2 &&& (255 : Int32)).toUInt32.toUInt16.toUInt32.toInt32)), (.int ((((p1.toUInt32 >>> ((8 : Int32) &&& 31).toUInt32).toInt32) &&& (255 : Int32)).toUInt32.toUInt16.toUInt32.toInt32)), (.int ((p1 &&& (255 : Int32)).toUInt32.toUInt16.toUInt32.toInt32)), (.int ((p3 &&& (3 : Int32)) % (3 : Int32))), (.int ((((p3 &&& (3 : Int32)) % (3 : Int32)) + (2 : Int32)) + ((((p3.toUInt32 >>> ((2 : Int32) &&& 31).toUInt32).toInt32) &&& (3 : Int32)) % (3 : Int32)))), (.int (5 : Int32)), (.ref z_762)])) (fun tgt kt => ?_) ?_
  · show Steps p.tables e below (T807.setTop (mkF m 212 #[.val (.int p1), .val (.int p2), .val (.int p3), .val (.int ((p3 &&& (3 : Int32)) % (3 : Int32))), .val (.int ((((p3.toUInt32 >>> ((2 : Int32) &&& 31).toUInt32).toInt32) &&& (3 : Int32)) % (3 : Int32))), .val (.int ((p1 &&& (255 : Int32)).toUInt32.toUInt16.toUInt32.toInt32)), .val (.int ((((p1.toUInt32 >>> ((8 : Int32) &&& 31).toUInt32).toInt32) &&& (255 : Int32)).toUInt32.toUInt16.toUInt32.toInt32)), .val (.int ((p2 &&& (255 : Int32)).toUInt32.toUInt16.toUInt32.toInt32)), .val (.int ((((p2.toUInt32 >>> ((8 : Int32) &&& 31).toUInt32).toInt32) &&& (255 : Int32)).toUInt32.toUInt16.toUInt32.toInt32)), .val (.ref sx_701), .val (.ref sx_718), .val (.ref z_762), .val (.int ((((p3 &&& (3 : Int32)) % (3 : Int32)) + (2 : Int32)) + ((((p3.toUInt32 >>> ((2 : Int32) &&& 31).toUInt32).toInt32) &&& (3 : Int32)) % (3 : Int32))))] [(.int (okV ((mkc ((p3 &&& (3 : Int32)) % (3 : Int32)) ((p1 &&& (255 : Int32)).toUInt32.toUInt16.toUInt32.toInt32) ((((p1.toUInt32 >>> ((8 : Int32) &&& 31).toUInt32).toInt32) &&& (255 : Int32)).toUInt32.toUInt16.toUInt32.toInt32)) ++ [58, 32] ++ (mkc ((((p3.toUInt32 >>> ((2 : Int32) &&& 31).toUInt32).toInt32) &&& (3 : Int32)) % (3 : Int32)) ((p2 &&& (255 : Int32)).toUInt32.toUInt16.toUInt32.toInt32) ((((p2.toUInt32 >>> ((8 : Int32) &&& 31).toUInt32).toInt32) &&& (255 : Int32)).toUInt32.toUInt16.toUInt32.toInt32))) (4 : Int32) ((((p3 &&& (3 : Int32)) % (3 : Int32)) + (2 : Int32)) + ((((p3.toUInt32 >>> ((2 : Int32) &&& 31).toUInt32).toInt32) &&& (3 : Int32)) % (3 : Int32))) ((p3 &&& (3 : Int32)) % (3 : Int32)) ((p1 &&& (255 : Int32)).toUInt32.toUInt16.toUInt32.toInt32) ((((p1.toUInt32 >>> ((8 : Int32) &&& 31).toUInt32).toInt32) &&& (255 : Int32)).toUInt32.toUInt16.toUInt32.toInt32) ((p2 &&& (255 : Int32)).toUInt32.toUInt16.toUInt32.toInt32) ((((p2.toUInt32 >>> ((8 : Int32) &&& 31).toUInt32).toInt32) &&& (255 : Int32)).toUInt32.toUInt16.toUInt32.toInt32)))])) tgt
    refine XS.ifNo H hx rfl (hb hby at_212) rfl ((if0 _ _).trans (feq (by rw [own_okV htl hel _ (by simp)]; decide)).1) ?_
    show Steps p.tables e below (T807.setTop (mkF m 215 #[.val (.int p1), .val (.int p2), .val (.int p3), .val (.int ((p3 &&& (3 : Int32)) % (3 : Int32))), .val (.int ((((p3.toUInt32 >>> ((2 : Int32) &&& 31).toUInt32).toInt32) &&& (3 : Int32)) % (3 : Int32))), .val (.int ((p1 &&& (255 : Int32)).toUInt32.toUInt16.toUInt32.toInt32)), .val (.int ((((p1.toUInt32 >>> ((8 : Int32) &&& 31).toUInt32).toInt32) &&& (255 : Int32)).toUInt32.toUInt16.toUInt32.toInt32)), .val (.int ((p2 &&& (255 : Int32)).toUInt32.toUInt16.toUInt32.toInt32)), .val (.int ((((p2.toUInt32 >>> ((8 : Int32) &&& 31).toUInt32).toInt32) &&& (255 : Int32)).toUInt32.toUInt16.toUInt32.toInt32)), .val (.ref sx_701), .val (.ref sx_718), .val (.ref z_762), .val (.int ((((p3 &&& (3 : Int32)) % (3 : Int32)) + (2 : Int32)) + ((((p3.toUInt32 >>> ((2 : Int32) &&& 31).toUInt32).toInt32) &&& (3 : Int32)) % (3 : Int32))))] [])) tgt
    refine XS.aload H hx rfl (hb hby at_215) rfl rfl ?_
    show Steps p.tables e below (T807.setTop (mkF m 217 #[.val (.int p1), .val (.int p2), .val (.int p3), .val (.int ((p3 &&& (3 : Int32)) % (3 : Int32))), .val (.int ((((p3.toUInt32 >>> ((2 : Int32) &&& 31).toUInt32).toInt32) &&& (3 : Int32)) % (3 : Int32))), .val (.int ((p1 &&& (255 : Int32)).toUInt32.toUInt16.toUInt32.toInt32)), .val (.int ((((p1.toUInt32 >>> ((8 : Int32) &&& 31).toUInt32).toInt32) &&& (255 : Int32)).toUInt32.toUInt16.toUInt32.toInt32)), .val (.int ((p2 &&& (255 : Int32)).toUInt32.toUInt16.toUInt32.toInt32)), .val (.int ((((p2.toUInt32 >>> ((8 : Int32) &&& 31).toUInt32).toInt32) &&& (255 : Int32)).toUInt32.toUInt16.toUInt32.toInt32)), .val (.ref sx_701), .val (.ref sx_718), .val (.ref z_762), .val (.int ((((p3 &&& (3 : Int32)) % (3 : Int32)) + (2 : Int32)) + ((((p3.toUInt32 >>> ((2 : Int32) &&& 31).toUInt32).toInt32) &&& (3 : Int32)) % (3 : Int32))))] [(.ref z_762)])) tgt
    refine XS.iconst H hx rfl (hb hby at_217) ?_
    show Steps p.tables e below (T807.setTop (mkF m 218 #[.val (.int p1), .val (.int p2), .val (.int p3), .val (.int ((p3 &&& (3 : Int32)) % (3 : Int32))), .val (.int ((((p3.toUInt32 >>> ((2 : Int32) &&& 31).toUInt32).toInt32) &&& (3 : Int32)) % (3 : Int32))), .val (.int ((p1 &&& (255 : Int32)).toUInt32.toUInt16.toUInt32.toInt32)), .val (.int ((((p1.toUInt32 >>> ((8 : Int32) &&& 31).toUInt32).toInt32) &&& (255 : Int32)).toUInt32.toUInt16.toUInt32.toInt32)), .val (.int ((p2 &&& (255 : Int32)).toUInt32.toUInt16.toUInt32.toInt32)), .val (.int ((((p2.toUInt32 >>> ((8 : Int32) &&& 31).toUInt32).toInt32) &&& (255 : Int32)).toUInt32.toUInt16.toUInt32.toInt32)), .val (.ref sx_701), .val (.ref sx_718), .val (.ref z_762), .val (.int ((((p3 &&& (3 : Int32)) % (3 : Int32)) + (2 : Int32)) + ((((p3.toUInt32 >>> ((2 : Int32) &&& 31).toUInt32).toInt32) &&& (3 : Int32)) % (3 : Int32))))] [(.int (5 : Int32)), (.ref z_762)])) tgt
    refine XS.iload H hx rfl (hb hby at_218) rfl ?_
    show Steps p.tables e below (T807.setTop (mkF m 220 #[.val (.int p1), .val (.int p2), .val (.int p3), .val (.int ((p3 &&& (3 : Int32)) % (3 : Int32))), .val (.int ((((p3.toUInt32 >>> ((2 : Int32) &&& 31).toUInt32).toInt32) &&& (3 : Int32)) % (3 : Int32))), .val (.int ((p1 &&& (255 : Int32)).toUInt32.toUInt16.toUInt32.toInt32)), .val (.int ((((p1.toUInt32 >>> ((8 : Int32) &&& 31).toUInt32).toInt32) &&& (255 : Int32)).toUInt32.toUInt16.toUInt32.toInt32)), .val (.int ((p2 &&& (255 : Int32)).toUInt32.toUInt16.toUInt32.toInt32)), .val (.int ((((p2.toUInt32 >>> ((8 : Int32) &&& 31).toUInt32).toInt32) &&& (255 : Int32)).toUInt32.toUInt16.toUInt32.toInt32)), .val (.ref sx_701), .val (.ref sx_718), .val (.ref z_762), .val (.int ((((p3 &&& (3 : Int32)) % (3 : Int32)) + (2 : Int32)) + ((((p3.toUInt32 >>> ((2 : Int32) &&& 31).toUInt32).toInt32) &&& (3 : Int32)) % (3 : Int32))))] [(.int ((((p3 &&& (3 : Int32)) % (3 : Int32)) + (2 : Int32)) + ((((p3.toUInt32 >>> ((2 : Int32) &&& 31).toUInt32).toInt32) &&& (3 : Int32)) % (3 : Int32)))), (.int (5 : Int32)), (.ref z_762)])) tgt
    refine XS.iloadN H hx rfl (hb hby at_220) rfl ?_
    show Steps p.tables e below (T807.setTop (mkF m 221 #[.val (.int p1), .val (.int p2), .val (.int p3), .val (.int ((p3 &&& (3 : Int32)) % (3 : Int32))), .val (.int ((((p3.toUInt32 >>> ((2 : Int32) &&& 31).toUInt32).toInt32) &&& (3 : Int32)) % (3 : Int32))), .val (.int ((p1 &&& (255 : Int32)).toUInt32.toUInt16.toUInt32.toInt32)), .val (.int ((((p1.toUInt32 >>> ((8 : Int32) &&& 31).toUInt32).toInt32) &&& (255 : Int32)).toUInt32.toUInt16.toUInt32.toInt32)), .val (.int ((p2 &&& (255 : Int32)).toUInt32.toUInt16.toUInt32.toInt32)), .val (.int ((((p2.toUInt32 >>> ((8 : Int32) &&& 31).toUInt32).toInt32) &&& (255 : Int32)).toUInt32.toUInt16.toUInt32.toInt32)), .val (.ref sx_701), .val (.ref sx_718), .val (.ref z_762), .val (.int ((((p3 &&& (3 : Int32)) % (3 : Int32)) + (2 : Int32)) + ((((p3.toUInt32 >>> ((2 : Int32) &&& 31).toUInt32).toInt32) &&& (3 : Int32)) % (3 : Int32))))] [(.int ((p3 &&& (3 : Int32)) % (3 : Int32))), (.int ((((p3 &&& (3 : Int32)) % (3 : Int32)) + (2 : Int32)) + ((((p3.toUInt32 >>> ((2 : Int32) &&& 31).toUInt32).toInt32) &&& (3 : Int32)) % (3 : Int32)))), (.int (5 : Int32)), (.ref z_762)])) tgt
    refine XS.iload H hx rfl (hb hby at_221) rfl ?_
    show Steps p.tables e below (T807.setTop (mkF m 223 #[.val (.int p1), .val (.int p2), .val (.int p3), .val (.int ((p3 &&& (3 : Int32)) % (3 : Int32))), .val (.int ((((p3.toUInt32 >>> ((2 : Int32) &&& 31).toUInt32).toInt32) &&& (3 : Int32)) % (3 : Int32))), .val (.int ((p1 &&& (255 : Int32)).toUInt32.toUInt16.toUInt32.toInt32)), .val (.int ((((p1.toUInt32 >>> ((8 : Int32) &&& 31).toUInt32).toInt32) &&& (255 : Int32)).toUInt32.toUInt16.toUInt32.toInt32)), .val (.int ((p2 &&& (255 : Int32)).toUInt32.toUInt16.toUInt32.toInt32)), .val (.int ((((p2.toUInt32 >>> ((8 : Int32) &&& 31).toUInt32).toInt32) &&& (255 : Int32)).toUInt32.toUInt16.toUInt32.toInt32)), .val (.ref sx_701), .val (.ref sx_718), .val (.ref z_762), .val (.int ((((p3 &&& (3 : Int32)) % (3 : Int32)) + (2 : Int32)) + ((((p3.toUInt32 >>> ((2 : Int32) &&& 31).toUInt32).toInt32) &&& (3 : Int32)) % (3 : Int32))))] [(.int ((p1 &&& (255 : Int32)).toUInt32.toUInt16.toUInt32.toInt32)), (.int ((p3 &&& (3 : Int32)) % (3 : Int32))), (.int ((((p3 &&& (3 : Int32)) % (3 : Int32)) + (2 : Int32)) + ((((p3.toUInt32 >>> ((2 : Int32) &&& 31).toUInt32).toInt32) &&& (3 : Int32)) % (3 : Int32)))), (.int (5 : Int32)), (.ref z_762)])) tgt
    refine XS.iload H hx rfl (hb hby at_223) rfl ?_
    show Steps p.tables e below (T807.setTop (mkF m 225 #[.val (.int p1), .val (.int p2), .val (.int p3), .val (.int ((p3 &&& (3 : Int32)) % (3 : Int32))), .val (.int ((((p3.toUInt32 >>> ((2 : Int32) &&& 31).toUInt32).toInt32) &&& (3 : Int32)) % (3 : Int32))), .val (.int ((p1 &&& (255 : Int32)).toUInt32.toUInt16.toUInt32.toInt32)), .val (.int ((((p1.toUInt32 >>> ((8 : Int32) &&& 31).toUInt32).toInt32) &&& (255 : Int32)).toUInt32.toUInt16.toUInt32.toInt32)), .val (.int ((p2 &&& (255 : Int32)).toUInt32.toUInt16.toUInt32.toInt32)), .val (.int ((((p2.toUInt32 >>> ((8 : Int32) &&& 31).toUInt32).toInt32) &&& (255 : Int32)).toUInt32.toUInt16.toUInt32.toInt32)), .val (.ref sx_701), .val (.ref sx_718), .val (.ref z_762), .val (.int ((((p3 &&& (3 : Int32)) % (3 : Int32)) + (2 : Int32)) + ((((p3.toUInt32 >>> ((2 : Int32) &&& 31).toUInt32).toInt32) &&& (3 : Int32)) % (3 : Int32))))] [(.int ((((p1.toUInt32 >>> ((8 : Int32) &&& 31).toUInt32).toInt32) &&& (255 : Int32)).toUInt32.toUInt16.toUInt32.toInt32)), (.int ((p1 &&& (255 : Int32)).toUInt32.toUInt16.toUInt32.toInt32)), (.int ((p3 &&& (3 : Int32)) % (3 : Int32))), (.int ((((p3 &&& (3 : Int32)) % (3 : Int32)) + (2 : Int32)) + ((((p3.toUInt32 >>> ((2 : Int32) &&& 31).toUInt32).toInt32) &&& (3 : Int32)) % (3 : Int32)))), (.int (5 : Int32)), (.ref z_762)])) tgt
    refine XS.iload H hx rfl (hb hby at_225) rfl ?_
    show Steps p.tables e below (T807.setTop (mkF m 227 #[.val (.int p1), .val (.int p2), .val (.int p3), .val (.int ((p3 &&& (3 : Int32)) % (3 : Int32))), .val (.int ((((p3.toUInt32 >>> ((2 : Int32) &&& 31).toUInt32).toInt32) &&& (3 : Int32)) % (3 : Int32))), .val (.int ((p1 &&& (255 : Int32)).toUInt32.toUInt16.toUInt32.toInt32)), .val (.int ((((p1.toUInt32 >>> ((8 : Int32) &&& 31).toUInt32).toInt32) &&& (255 : Int32)).toUInt32.toUInt16.toUInt32.toInt32)), .val (.int ((p2 &&& (255 : Int32)).toUInt32.toUInt16.toUInt32.toInt32)), .val (.int ((((p2.toUInt32 >>> ((8 : Int32) &&& 31).toUInt32).toInt32) &&& (255 : Int32)).toUInt32.toUInt16.toUInt32.toInt32)), .val (.ref sx_701), .val (.ref sx_718), .val (.ref z_762), .val (.int ((((p3 &&& (3 : Int32)) % (3 : Int32)) + (2 : Int32)) + ((((p3.toUInt32 >>> ((2 : Int32) &&& 31).toUInt32).toInt32) &&& (3 : Int32)) % (3 : Int32))))] [(.int ((p2 &&& (255 : Int32)).toUInt32.toUInt16.toUInt32.toInt32)), (.int ((((p1.toUInt32 >>> ((8 : Int32) &&& 31).toUInt32).toInt32) &&& (255 : Int32)).toUInt32.toUInt16.toUInt32.toInt32)), (.int ((p1 &&& (255 : Int32)).toUInt32.toUInt16.toUInt32.toInt32)), (.int ((p3 &&& (3 : Int32)) % (3 : Int32))), (.int ((((p3 &&& (3 : Int32)) % (3 : Int32)) + (2 : Int32)) + ((((p3.toUInt32 >>> ((2 : Int32) &&& 31).toUInt32).toInt32) &&& (3 : Int32)) % (3 : Int32)))), (.int (5 : Int32)), (.ref z_762)])) tgt
    refine XS.iload H hx rfl (hb hby at_227) rfl ?_
    exact kt
  clear H
  refine Jvm.OwnW.Aim.callS (pc := 229) (Ls := #[.val (.int p1), .val (.int p2), .val (.int p3), .val (.int ((p3 &&& (3 : Int32)) % (3 : Int32))), .val (.int ((((p3.toUInt32 >>> ((2 : Int32) &&& 31).toUInt32).toInt32) &&& (3 : Int32)) % (3 : Int32))), .val (.int ((p1 &&& (255 : Int32)).toUInt32.toUInt16.toUInt32.toInt32)), .val (.int ((((p1.toUInt32 >>> ((8 : Int32) &&& 31).toUInt32).toInt32) &&& (255 : Int32)).toUInt32.toUInt16.toUInt32.toInt32)), .val (.int ((p2 &&& (255 : Int32)).toUInt32.toUInt16.toUInt32.toInt32)), .val (.int ((((p2.toUInt32 >>> ((8 : Int32) &&& 31).toUInt32).toInt32) &&& (255 : Int32)).toUInt32.toUInt16.toUInt32.toInt32)), .val (.ref sx_701), .val (.ref sx_718), .val (.ref z_762), .val (.int ((((p3 &&& (3 : Int32)) % (3 : Int32)) + (2 : Int32)) + ((((p3.toUInt32 >>> ((2 : Int32) &&& 31).toUInt32).toInt32) &&& (3 : Int32)) % (3 : Int32))))]) (argsL := [(.ref z_762), (.int (5 : Int32)), (.int ((((p3 &&& (3 : Int32)) % (3 : Int32)) + (2 : Int32)) + ((((p3.toUInt32 >>> ((2 : Int32) &&& 31).toUInt32).toInt32) &&& (3 : Int32)) % (3 : Int32)))), (.int ((p3 &&& (3 : Int32)) % (3 : Int32))), (.int ((p1 &&& (255 : Int32)).toUInt32.toUInt16.toUInt32.toInt32)), (.int ((((p1.toUInt32 >>> ((8 : Int32) &&& 31).toUInt32).toInt32) &&& (255 : Int32)).toUInt32.toUInt16.toUInt32.toInt32)), (.int ((p2 &&& (255 : Int32)).toUInt32.toUInt16.toUInt32.toInt32)), (.int ((((p2.toUInt32 >>> ((8 : Int32) &&& 31).toUInt32).toInt32) &&& (255 : Int32)).toUInt32.toUInt16.toUInt32.toInt32))]) (rest := []) P809 hx hZ hml hown (hw _ (List.mem_of_getElem? (i := 170) rfl)) (hw _ (List.mem_of_getElem? (i := 171) rfl)) (hw _ (List.mem_of_getElem? (i := 2) rfl)) (hw _ (List.mem_of_getElem? (i := 172) rfl)) (by decide) (fun vm0 hZ => Jvm.OwnN.Con.back (s := s.setVm vm0) (W := 0) (own_ok l Z a0 hw z_762 t_763 k_764 ((mkc ((p3 &&& (3 : Int32)) % (3 : Int32)) ((p1 &&& (255 : Int32)).toUInt32.toUInt16.toUInt32.toInt32) ((((p1.toUInt32 >>> ((8 : Int32) &&& 31).toUInt32).toInt32) &&& (255 : Int32)).toUInt32.toUInt16.toUInt32.toInt32)) ++ [58, 32] ++ (mkc ((((p3.toUInt32 >>> ((2 : Int32) &&& 31).toUInt32).toInt32) &&& (3 : Int32)) % (3 : Int32)) ((p2 &&& (255 : Int32)).toUInt32.toUInt16.toUInt32.toInt32) ((((p2.toUInt32 >>> ((8 : Int32) &&& 31).toUInt32).toInt32) &&& (255 : Int32)).toUInt32.toUInt16.toUInt32.toInt32))) (5 : Int32) ((((p3 &&& (3 : Int32)) % (3 : Int32)) + (2 : Int32)) + ((((p3.toUInt32 >>> ((2 : Int32) &&& 31).toUInt32).toInt32) &&& (3 : Int32)) % (3 : Int32))) ((p3 &&& (3 : Int32)) % (3 : Int32)) ((p1 &&& (255 : Int32)).toUInt32.toUInt16.toUInt32.toInt32) ((((p1.toUInt32 >>> ((8 : Int32) &&& 31).toUInt32).toInt32) &&& (255 : Int32)).toUInt32.toUInt16.toUInt32.toInt32) ((p2 &&& (255 : Int32)).toUInt32.toUInt16.toUInt32.toInt32) ((((p2.toUInt32 >>> ((8 : Int32) &&& 31).toUInt32).toInt32) &&& (255 : Int32)).toUInt32.toUInt16.toUInt32.toInt32) h756 n0 (Nat.le_trans Z0 (K769.1)) F768 F771 (own_char _) (own_char _) (own_char _) (own_char _) (by decide) (own_n htl hel) G GS) hZ (hw _ (List.mem_of_getElem? (i := 172) rfl)) (hw _ (List.mem_of_getElem? (i := 2) rfl)) (by decide) (by decide)) (fun _ _ ⟨_, q⟩ => (by subst q; exact Keep.refl _ [])) all0 rfl pd__28Ljava_2flang_2fString_3bIIICCCC_29Z rfl (Nat.le_of_eq rfl) (hb hby at_229) (by decide) (by decide) ?_
  intro T814 h815 v818 P816 hQ817
  obtain ⟨rfl, rfl⟩ := hQ817
  show Jvm.OwnW.Aim p e below s _ _ n0 _ T814 (mkF m 232 #[.val (.int p1), .val (.int p2), .val (.int p3), .val (.int ((p3 &&& (3 : Int32)) % (3 : Int32))), .val (.int ((((p3.toUInt32 >>> ((2 : Int32) &&& 31).toUInt32).toInt32) &&& (3 : Int32)) % (3 : Int32))), .val (.int ((p1 &&& (255 : Int32)).toUInt32.toUInt16.toUInt32.toInt32)), .val (.int ((((p1.toUInt32 >>> ((8 : Int32) &&& 31).toUInt32).toInt32) &&& (255 : Int32)).toUInt32.toUInt16.toUInt32.toInt32)), .val (.int ((p2 &&& (255 : Int32)).toUInt32.toUInt16.toUInt32.toInt32)), .val (.int ((((p2.toUInt32 >>> ((8 : Int32) &&& 31).toUInt32).toInt32) &&& (255 : Int32)).toUInt32.toUInt16.toUInt32.toInt32)), .val (.ref sx_701), .val (.ref sx_718), .val (.ref z_762), .val (.int ((((p3 &&& (3 : Int32)) % (3 : Int32)) + (2 : Int32)) + ((((p3.toUInt32 >>> ((2 : Int32) &&& 31).toUInt32).toInt32) &&& (3 : Int32)) % (3 : Int32))))] [(.int (okV ((mkc ((p3 &&& (3 : Int32)) % (3 : Int32)) ((p1 &&& (255 : Int32)).toUInt32.toUInt16.toUInt32.toInt32) ((((p1.toUInt32 >>> ((8 : Int32) &&& 31).toUInt32).toInt32) &&& (255 : Int32)).toUInt32.toUInt16.toUInt32.toInt32)) ++ [58, 32] ++ (mkc ((((p3.toUInt32 >>> ((2 : Int32) &&& 31).toUInt32).toInt32) &&& (3 : Int32)) % (3 : Int32)) ((p2 &&& (255 : Int32)).toUInt32.toUInt16.toUInt32.toInt32) ((((p2.toUInt32 >>> ((8 : Int32) &&& 31).toUInt32).toInt32) &&& (255 : Int32)).toUInt32.toUInt16.toUInt32.toInt32))) (5 : Int32) ((((p3 &&& (3 : Int32)) % (3 : Int32)) + (2 : Int32)) + ((((p3.toUInt32 >>> ((2 : Int32) &&& 31).toUInt32).toInt32) &&& (3 : Int32)) % (3 : Int32))) ((p3 &&& (3 : Int32)) % (3 : Int32)) ((p1 &&& (255 : Int32)).toUInt32.toUInt16.toUInt32.toInt32) ((((p1.toUInt32 >>> ((8 : Int32) &&& 31).toUInt32).toInt32) &&& (255 : Int32)).toUInt32.toUInt16.toUInt32.toInt32) ((p2 &&& (255 : Int32)).toUInt32.toUInt16.toUInt32.toInt32) ((((p2.toUInt32 >>> ((8 : Int32) &&& 31).toUInt32).toInt32) &&& (255 : Int32)).toUInt32.toUInt16.toUInt32.toInt32)))])
  have H := P816.here
  refine Jvm.OwnW.Aim.of (T := T814) (T' := T814) (g := (mkF m 232 #[.val (.int p1), .val (.int p2), .val (.int p3), .val (.int ((p3 &&& (3 : Int32)) % (3 : Int32))), .val (.int ((((p3.toUInt32 >>> ((2 : Int32) &&& 31).toUInt32).toInt32) &&& (3 : Int32)) % (3 : Int32))), .val (.int ((p1 &&& (255 : Int32)).toUInt32.toUInt16.toUInt32.toInt32)), .val (.int ((((p1.toUInt32 >>> ((8 : Int32) &&& 31).toUInt32).toInt32) &&& (255 : Int32)).toUInt32.toUInt16.toUInt32.toInt32)), .val (.int ((p2 &&& (255 : Int32)).toUInt32.toUInt16.toUInt32.toInt32)), .val (.int ((((p2.toUInt32 >>> ((8 : Int32) &&& 31).toUInt32).toInt32) &&& (255 : Int32)).toUInt32.toUInt16.toUInt32.toInt32)), .val (.ref sx_701), .val (.ref sx_718), .val (.ref z_762), .val (.int ((((p3 &&& (3 : Int32)) % (3 : Int32)) + (2 : Int32)) + ((((p3.toUInt32 >>> ((2 : Int32) &&& 31).toUInt32).toInt32) &&& (3 : Int32)) % (3 : Int32))))] [(.int (okV ((mkc ((p3 &&& (3 : Int32)) % (3 : Int32)) ((p1 &&& (255 : Int32)).toUInt32.toUInt16.toUInt32.toInt32) ((((p1.toUInt32 >>> ((8 : Int32) &&& 31).toUInt32).toInt32) &&& (255 : Int32)).toUInt32.toUInt16.toUInt32.toInt32)) ++ [58, 32] ++ (mkc ((((p3.toUInt32 >>> ((2 : Int32) &&& 31).toUInt32).toInt32) &&& (3 : Int32)) % (3 : Int32)) ((p2 &&& (255 : Int32)).toUInt32.toUInt16.toUInt32.toInt32) ((((p2.toUInt32 >>> ((8 : Int32) &&& 31).toUInt32).toInt32) &&& (255 : Int32)).toUInt32.toUInt16.toUInt32.toInt32))) (5 : Int32) ((((p3 &&& (3 : Int32)) % (3 : Int32)) + (2 : Int32)) + ((((p3.toUInt32 >>> ((2 : Int32) &&& 31).toUInt32).toInt32) &&& (3 : Int32)) % (3 : Int32))) ((p3 &&& (3 : Int32)) % (3 : Int32)) ((p1 &&& (255 : Int32)).toUInt32.toUInt16.toUInt32.toInt32) ((((p1.toUInt32 >>> ((8 : Int32) &&& 31).toUInt32).toInt32) &&& (255 : Int32)).toUInt32.toUInt16.toUInt32.toInt32) ((p2 &&& (255 : Int32)).toUInt32.toUInt16.toUInt32.toInt32) ((((p2.toUInt32 >>> ((8 : Int32) &&& 31).toUInt32).toInt32) &&& (255 : Int32)).toUInt32.toUInt16.toUInt32.toInt32)))])) (g' := (mkF m 240 #[.val (.int p1), .val (.int p2), .val (.int p3), .val (.int ((p3 &&& (3 : Int32)) % (3 : Int32))), .val (.int ((((p3.toUInt32 >>> ((2 : Int32) &&& 31).toUInt32).toInt32) &&& (3 : Int32)) % (3 : Int32))), .val (.int ((p1 &&& (255 : Int32)).toUInt32.toUInt16.toUInt32.toInt32)), .val (.int ((((p1.toUInt32 >>> ((8 : Int32) &&& 31).toUInt32).toInt32) &&& (255 : Int32)).toUInt32.toUInt16.toUInt32.toInt32)), .val (.int ((p2 &&& (255 : Int32)).toUInt32.toUInt16.toUInt32.toInt32)), .val (.int ((((p2.toUInt32 >>> ((8 : Int32) &&& 31).toUInt32).toInt32) &&& (255 : Int32)).toUInt32.toUInt16.toUInt32.toInt32)), .val (.ref sx_701), .val (.ref sx_718), .val (.ref z_762), .val (.int ((((p3 &&& (3 : Int32)) % (3 : Int32)) + (2 : Int32)) + ((((p3.toUInt32 >>> ((2 : Int32) &&& 31).toUInt32).toInt32) &&& (3 : Int32)) % (3 : Int32))))] [(.int (1 : Int32))])) (fun tgt kt => ?_) ?_
  · show Steps p.tables e below (T814.setTop (mkF m 232 #[.val (.int p1), .val (.int p2), .val (.int p3), .val (.int ((p3 &&& (3 : Int32)) % (3 : Int32))), .val (.int ((((p3.toUInt32 >>> ((2 : Int32) &&& 31).toUInt32).toInt32) &&& (3 : Int32)) % (3 : Int32))), .val (.int ((p1 &&& (255 : Int32)).toUInt32.toUInt16.toUInt32.toInt32)), .val (.int ((((p1.toUInt32 >>> ((8 : Int32) &&& 31).toUInt32).toInt32) &&& (255 : Int32)).toUInt32.toUInt16.toUInt32.toInt32)), .val (.int ((p2 &&& (255 : Int32)).toUInt32.toUInt16.toUInt32.toInt32)), .val (.int ((((p2.toUInt32 >>> ((8 : Int32) &&& 31).toUInt32).toInt32) &&& (255 : Int32)).toUInt32.toUInt16.toUInt32.toInt32)), .val (.ref sx_701), .val (.ref sx_718), .val (.ref z_762), .val (.int ((((p3 &&& (3 : Int32)) % (3 : Int32)) + (2 : Int32)) + ((((p3.toUInt32 >>> ((2 : Int32) &&& 31).toUInt32).toInt32) &&& (3 : Int32)) % (3 : Int32))))] [(.int (okV ((mkc ((p3 &&& (3 : Int32)) % (3 : Int32)) ((p1 &&& (255 : Int32)).toUInt32.toUInt16.toUInt32.toInt32) ((((p1.toUInt32 >>> ((8 : Int32) &&& 31).toUInt32).toInt32) &&& (255 : Int32)).toUInt32.toUInt16.toUInt32.toInt32)) ++ [58, 32] ++ (mkc ((((p3.toUInt32 >>> ((2 : Int32) &&& 31).toUInt32).toInt32) &&& (3 : Int32)) % (3 : Int32)) ((p2 &&& (255 : Int32)).toUInt32.toUInt16.toUInt32.toInt32) ((((p2.toUInt32 >>> ((8 : Int32) &&& 31).toUInt32).toInt32) &&& (255 : Int32)).toUInt32.toUInt16.toUInt32.toInt32))) (5 : Int32) ((((p3 &&& (3 : Int32)) % (3 : Int32)) + (2 : Int32)) + ((((p3.toUInt32 >>> ((2 : Int32) &&& 31).toUInt32).toInt32) &&& (3 : Int32)) % (3 : Int32))) ((p3 &&& (3 : Int32)) % (3 : Int32)) ((p1 &&& (255 : Int32)).toUInt32.toUInt16.toUInt32.toInt32) ((((p1.toUInt32 >>> ((8 : Int32) &&& 31).toUInt32).toInt32) &&& (255 : Int32)).toUInt32.toUInt16.toUInt32.toInt32) ((p2 &&& (255 : Int32)).toUInt32.toUInt16.toUInt32.toInt32) ((((p2.toUInt32 >>> ((8 : Int32) &&& 31).toUInt32).toInt32) &&& (255 : Int32)).toUInt32.toUInt16.toUInt32.toInt32)))])) tgt
    refine XS.ifNo H hx rfl (hb hby at_232) rfl ((if0 _ _).trans (feq (by rw [own_okV htl hel _ (by simp)]; decide)).1) ?_
    show Steps p.tables e below (T814.setTop (mkF m 235 #[.val (.int p1), .val (.int p2), .val (.int p3), .val (.int ((p3 &&& (3 : Int32)) % (3 : Int32))), .val (.int ((((p3.toUInt32 >>> ((2 : Int32) &&& 31).toUInt32).toInt32) &&& (3 : Int32)) % (3 : Int32))), .val (.int ((p1 &&& (255 : Int32)).toUInt32.toUInt16.toUInt32.toInt32)), .val (.int ((((p1.toUInt32 >>> ((8 : Int32) &&& 31).toUInt32).toInt32) &&& (255 : Int32)).toUInt32.toUInt16.toUInt32.toInt32)), .val (.int ((p2 &&& (255 : Int32)).toUInt32.toUInt16.toUInt32.toInt32)), .val (.int ((((p2.toUInt32 >>> ((8 : Int32) &&& 31).toUInt32).toInt32) &&& (255 : Int32)).toUInt32.toUInt16.toUInt32.toInt32)), .val (.ref sx_701), .val (.ref sx_718), .val (.ref z_762), .val (.int ((((p3 &&& (3 : Int32)) % (3 : Int32)) + (2 : Int32)) + ((((p3.toUInt32 >>> ((2 : Int32) &&& 31).toUInt32).toInt32) &&& (3 : Int32)) % (3 : Int32))))] [])) tgt
    refine XS.iconst H hx rfl (hb hby at_235) ?_
    show Steps p.tables e below (T814.setTop (mkF m 236 #[.val (.int p1), .val (.int p2), .val (.int p3), .val (.int ((p3 &&& (3 : Int32)) % (3 : Int32))), .val (.int ((((p3.toUInt32 >>> ((2 : Int32) &&& 31).toUInt32).toInt32) &&& (3 : Int32)) % (3 : Int32))), .val (.int ((p1 &&& (255 : Int32)).toUInt32.toUInt16.toUInt32.toInt32)), .val (.int ((((p1.toUInt32 >>> ((8 : Int32) &&& 31).toUInt32).toInt32) &&& (255 : Int32)).toUInt32.toUInt16.toUInt32.toInt32)), .val (.int ((p2 &&& (255 : Int32)).toUInt32.toUInt16.toUInt32.toInt32)), .val (.int ((((p2.toUInt32 >>> ((8 : Int32) &&& 31).toUInt32).toInt32) &&& (255 : Int32)).toUInt32.toUInt16.toUInt32.toInt32)), .val (.ref sx_701), .val (.ref sx_718), .val (.ref z_762), .val (.int ((((p3 &&& (3 : Int32)) % (3 : Int32)) + (2 : Int32)) + ((((p3.toUInt32 >>> ((2 : Int32) &&& 31).toUInt32).toInt32) &&& (3 : Int32)) % (3 : Int32))))] [(.int (1 : Int32))])) tgt
    refine XS.goto H hx rfl (pc0 := 236) (pc' := 240) rfl (hb hby at_236) (by decide) (by decide) ?_
    exact kt
  clear H
  exact Jvm.OwnW.Aim.retN (t := .boolean) P816 hx hlk hret (by simp) (hb hby at_240) (by decide) (by decide) lc770 ⟨rfl, K769⟩
set_option maxRecDepth 65536 in
set_option maxHeartbeats 40000000 in
theorem comes_1 {Post : Tables → Env → Array Value → State → Outcome → State → Prop} (hpost : ∀ tb e args s v u, (limb_1_1.after args s (.returned v) u = true ∧ limb_1_2.after args s (.returned v) u = true ∧ True) → FramedW s (.returned v) u (Jvm.fieldLocs frame_1_writes args s ++ Jvm.arrayLocs frame_1_arrays args s ++ Jvm.staticLocs frame_1_statics s) 40 2240 → Post tb e args s (.returned v) u) :
    ArmFor flags0 classFile x code maxLocals ret World_1 tables_1 room_1 Calls_1 rest_1 Pre_1 Post := by
  intro l hfl _ _ p e ha hc hk s m args below hf hA hF happ hP
  obtain ⟨hcalls, hrest, hpre⟩ := hP
  obtain ⟨-, -, -, hnamed, -, -, -, hat⟩ := (Spec.applies_iff hf).mp happ
  obtain ⟨hg, hn⟩ := and_e (Cond.before_iff.mp (show (Jvm.Cond.and given_1 narrow_1).before args s = true from hpre))
  obtain ⟨hcnt, hg0⟩ := and_e hg
  obtain ⟨ga0, hg1⟩ := and_e hg0
  obtain ⟨ga1, hg2⟩ := and_e hg1
  have ga2 := hg2
  obtain ⟨w0, w1, w2, rfl⟩ : ∃ w0 w1 w2 : Value, args = #[w0, w1, w2] := by
    have hs : args.size = 3 := by simpa [Cond.value, given_1] using hcnt
    obtain ⟨L⟩ := args
    match L, hs with
    | [w0, w1, w2], _ => exact ⟨w0, w1, w2, rfl⟩
  have hw := fun d (hd : d ∈ tables_1) => atoms_spec (ws := Jvm.Cond.code x code maxLocals ret :: tables_1) hat d (List.mem_cons_of_mem _ hd)
  have hfit : Fit s := fun {y c} hc i hi => by
    obtain ⟨ha, rfl⟩ := Array.getElem?_eq_some_iff.mp hc
    have q := List.all_eq_true.mp ((Array.all_eq_true_iff_forall_mem.mp hF) _ (Array.getElem_mem ha)) i (List.mem_range.mpr hi)
    simpa [Array.getElem?_eq_getElem hi] using q
  obtain ⟨hsets, hown0⟩ := atoms_of _ (rest_1_c_eq ▸ (show rest_1_c.before _ s = true from hrest))
  obtain ⟨i0, ei0⟩ := is_v ga0
  obtain rfl : w0 = (.int i0) := Option.some.inj ei0
  obtain ⟨i1, ei1⟩ := is_v ga1
  obtain rfl : w1 = (.int i1) := Option.some.inj ei1
  obtain ⟨i2, ei2⟩ := is_v ga2
  obtain rfl : w2 = (.int i2) := Option.some.inj ei2
  have ncs := not_v (Cond.before_iff.mp (hsets _ (List.mem_of_getElem? (i := 2) rfl)))
  obtain ⟨zcs, ecs⟩ := is_v (Cond.before_iff.mp (hsets _ (List.mem_of_getElem? (i := 1) rfl)))
  have Scs : Sta s s.heap "java/lang/String" "COMPACT_STRINGS" "Z" (.int zcs) := Sta.start ecs (Or.inl (hsets _ (List.mem_of_getElem? (i := 0) rfl)))
  have Gcs : Cmp s := ⟨zcs, gotF (Cond.eq_ints ecs (Term.int_eval (0))) ncs, Scs⟩
  obtain ⟨vsf, esf, qsf⟩ := isR_v (Cond.before_iff.mp (hsets _ (List.mem_of_getElem? (i := 8) rfl)))
  have Gsf : Sio s := ⟨vsf, Sta.start esf (Or.inl (hsets _ (List.mem_of_getElem? (i := 7) rfl))), by cases vsf <;> first | rfl | cases qsf⟩
  have hcl : ∀ d ∈ LC.1, Jvm.OwnW.LitW s _ d := own_lits hw hcalls.1 (hsets _ (List.mem_of_getElem? (i := 2) rfl))
  obtain ⟨n, o, h1, h2, h3, _, L, rfl, ⟨⟨_, ⟨rfl, _⟩, _, _⟩, N⟩, hq⟩ := own_law l s _ hw i0 i1 i2 s.heap s.heap.size (Nat.le_refl _) (List.range s.heap.size) (Old.start s) Gcs Gsf (fun c hc => Jvm.OwnW.litz_start (hcl c hc)) tables_1 p e ha hc hk s m _ below hf ((Spec.applies_iff_loose hf).mp happ).1 ⟨rfl, State.Warmed39.refl s, rfl, Jvm.OwnW.ha_start (fun _ => trivial) hcl⟩ trivial
  refine ⟨n, _, h1, h2, h3, hpost _ _ _ _ _ _ ⟨Cond.after_iff.mpr rfl, Cond.after_iff.mpr (eq_i res_at (Term.int_eval (1)) rfl), trivial⟩ ⟨hq.1, hq.2.1, hq.2.2.1, (hq.2.2.2.sift fun y hy => Or.inr (N y hy)).mono (by decide) (by decide)⟩⟩
theorem main_1_1 : Claimed_1_1 := comes_1 fun _ _ _ _ _ _ h hF => ⟨h.1, hF⟩
theorem main_1_2 : Claimed_1_2 := comes_1 fun _ _ _ _ _ _ h hF => ⟨h.2.1, hF⟩
end Jvm.Pilot.@@N@@
namespace Jvm.Pilot.@@N@@
open Jvm Jvm.ClassFile Sem Op Lib Jvm.Free Jvm.Stand Jvm.Pilot.@@N@@.Jvm.D
/-! MADE BY PROGRAM (witnessworld.py) out of the Statement's table words and the real class files: 27 classes; the members and pool entries that the words name. The judged class is class 1, her method 1. -/
namespace start1
open Jvm.ClassFile
def u (s : String) : CpInfo := .utf8 (stringToUtf16 s)
/-- a pool by its gaps: so many unusable entries, then the entry; so many at the end -/
def gap : Nat → List CpInfo → List CpInfo
  | 0, r => r
  | n + 1, r => .unusable :: gap n r
def poolList (es : List (Nat × CpInfo)) (last : Nat) : List CpInfo := es.foldr (fun e r => gap e.1 (e.2 :: r)) (gap last [])
def pool (es : List (Nat × CpInfo)) (last : Nat) : Array CpInfo := ⟨poolList es last⟩
def fileOf (pool : Array CpInfo) (this : Nat) (attrs : Array Attribute := #[]) (ms : Array MethodInfo := #[]) (fl : Nat := 33) (sup : Nat := 0) (ifs : Array Nat := #[]) (fds : Array FieldInfo := #[]) : ClassFile where
  minorVersion := 0
  majorVersion := 65
  constantPool := pool
  accessFlags := fl
  thisClass := this
  superClass := sup
  interfaces := ifs
  fields := fds
  methods := ms
  attributes := attrs
def plain (name : String) (sup : Option ClassId) : Class where
  name := name
  kind := .ordinary
  loader := none
  accessFlags := 33
  super := sup
  interfaces := #[]
  cf := none
  fields := #[]
  methods := #[]
  instanceTypes := #[]
  staticTypes := #[]
  resolved := #[]
  callSites := []
  init := .initialized
  statics := none
  mirror := none

def pool0 : Array CpInfo := pool [(5, u "<init>"), (0, u "()V"), (1, .class_ 10), (1, u "java/lang/Object")] 113

def k0c0 : Code := { maxStack := 0, maxLocals := 1, code := object_method_1_code, exceptionTable := #[], attributes := #[] }
def k0m0 : Method := { name := "<init>", desc := "()V", sig := { parameters := [], returnType := none }, accessFlags := 1, code := some k0c0 }
/-- java/lang/Object -/
def k0 : Class := { plain "java/lang/Object" none with
  accessFlags := 33
  interfaces := #[]
  cf := some (fileOf pool0 8 #[] #[{ accessFlags := 1, nameIndex := 5, descriptorIndex := 6, attributes := #[] }] 33 0 #[] #[])
  fields := #[]
  methods := #[k0m0]
  instanceTypes := #[]
  staticTypes := #[]
  resolved := Array.replicate 124 none
  statics := none }

def pool1 : Array CpInfo := pool [(2, .class_ 4), (1, u "java/lang/Object"), (0, u "<init>"), (0, u "()V"), (0, .methodref 8 9), (0, .class_ 10), (0, .nameAndType 11 12), (0, u "com/example/asterism/asterism/eac/NameFormNotePinLaw"), (0, u "make"), (0, u "(ICC)Ljava/lang/String;"), (0, .class_ 14), (0, u "com/example/asterism/asterism/eac/EacCpf$NameForm"), (0, .methodref 13 16), (0, .nameAndType 5 17), (0, u "(Ljava/lang/String;Ljava/lang/String;)V"), (0, .methodref 13 19), (0, .nameAndType 20 21), (0, u "note"), (0, u "()Ljava/lang/String;"), (0, .methodref 23 24), (0, .class_ 25), (0, .nameAndType 26 27), (0, u "java/lang/String"), (0, u "length"), (0, u "()I"), (0, .methodref 8 29), (0, .nameAndType 30 31), (0, u "ok"), (0, u "(Ljava/lang/String;IIICCCC)Z"), (0, .string 33), (0, u ""), (0, .methodref 23 35), (0, .nameAndType 36 37), (0, u "valueOf"), (0, u "(C)Ljava/lang/String;"), (0, .methodref 23 39), (0, .nameAndType 5 40), (0, u "([C)V"), (0, .methodref 23 42), (0, .nameAndType 43 44), (0, u "charAt"), (0, u "(I)C"), (0, .methodref 8 46), (0, .nameAndType 47 48), (0, u "expected"), (0, u "(IICCCC)C"), (2, u "law"), (0, u "(III)Z")] 7

def k1m0 : Method := { name := "<init>", desc := "()V", sig := { parameters := [], returnType := none }, accessFlags := 1, code := none }
def k1c1 : Code := { maxStack := 8, maxLocals := 13, code := code, exceptionTable := #[], attributes := #[] }
def k1m1 : Method := { name := "law", desc := "(III)Z", sig := { parameters := [.int, .int, .int], returnType := some .boolean }, accessFlags := 9, code := some k1c1 }
def k1c2 : Code := { maxStack := 6, maxLocals := 3, code := method_3_code, exceptionTable := #[], attributes := #[] }
def k1m2 : Method := { name := "make", desc := "(ICC)Ljava/lang/String;", sig := { parameters := [.int, .char, .char], returnType := some (.object "java/lang/String") }, accessFlags := 10, code := some k1c2 }
def k1c3 : Code := { maxStack := 3, maxLocals := 7, code := method_4_code, exceptionTable := #[], attributes := #[] }
def k1m3 : Method := { name := "expected", desc := "(IICCCC)C", sig := { parameters := [.int, .int, .char, .char, .char, .char], returnType := some .char }, accessFlags := 10, code := some k1c3 }
def k1c4 : Code := { maxStack := 7, maxLocals := 8, code := method_5_code, exceptionTable := #[], attributes := #[] }
def k1m4 : Method := { name := "ok", desc := "(Ljava/lang/String;IIICCCC)Z", sig := { parameters := [(.object "java/lang/String"), .int, .int, .int, .char, .char, .char, .char], returnType := some .boolean }, accessFlags := 10, code := some k1c4 }
/-- com/example/asterism/asterism/eac/NameFormNotePinLaw -/
def k1 : Class := { plain "com/example/asterism/asterism/eac/NameFormNotePinLaw" (some 0) with
  accessFlags := 49
  interfaces := #[]
  cf := some (fileOf pool1 8 #[] #[{ accessFlags := 1, nameIndex := 5, descriptorIndex := 6, attributes := #[] }, { accessFlags := 9, nameIndex := 51, descriptorIndex := 52, attributes := #[] }, { accessFlags := 10, nameIndex := 11, descriptorIndex := 12, attributes := #[] }, { accessFlags := 10, nameIndex := 47, descriptorIndex := 48, attributes := #[] }, { accessFlags := 10, nameIndex := 30, descriptorIndex := 31, attributes := #[] }] 49 2 #[] #[])
  fields := #[]
  methods := #[k1m0, k1m1, k1m2, k1m3, k1m4]
  instanceTypes := #[]
  staticTypes := #[]
  resolved := Array.replicate 60 none
  statics := none }

def pool2 : Array CpInfo := pool [(1, .class_ 2), (0, u "java/io/Serializable"), (0, .class_ 4), (0, u "java/lang/Object")] 2

/-- java/io/Serializable -/
def k2 : Class := { plain "java/io/Serializable" (some 0) with
  accessFlags := 1537
  interfaces := #[]
  cf := some (fileOf pool2 1 #[] #[] 1537 3 #[] #[])
  fields := #[]
  methods := #[]
  instanceTypes := #[]
  staticTypes := #[]
  resolved := Array.replicate 7 none
  statics := none }

def pool3 : Array CpInfo := pool [(1, .class_ 2), (0, u "java/lang/Comparable"), (0, .class_ 4), (0, u "java/lang/Object")] 7

/-- java/lang/Comparable -/
def k3 : Class := { plain "java/lang/Comparable" (some 0) with
  accessFlags := 1537
  interfaces := #[]
  cf := some (fileOf pool3 1 #[] #[] 1537 3 #[] #[])
  fields := #[]
  methods := #[]
  instanceTypes := #[]
  staticTypes := #[]
  resolved := Array.replicate 12 none
  statics := none }

def pool4 : Array CpInfo := pool [(2, .class_ 4), (1, u "java/lang/CharSequence"), (42, .class_ 48), (0, u "java/lang/CharSequence$1CodePointIterator"), (10, .class_ 60), (0, u "java/lang/CharSequence$1CharIterator"), (5, .class_ 67), (0, u "java/lang/Object")] 63

/-- java/lang/CharSequence -/
def k4 : Class := { plain "java/lang/CharSequence" (some 0) with
  accessFlags := 1537
  interfaces := #[]
  cf := some (fileOf pool4 2 #[.nestMembers #[47, 59]] #[] 1537 66 #[] #[])
  fields := #[]
  methods := #[]
  instanceTypes := #[]
  staticTypes := #[]
  resolved := Array.replicate 131 none
  statics := none }

def pool5 : Array CpInfo := pool [(1, .class_ 2), (0, u "java/lang/constant/Constable"), (0, .class_ 4), (0, u "java/lang/Object")] 6

/-- java/lang/constant/Constable -/
def k5 : Class := { plain "java/lang/constant/Constable" (some 0) with
  accessFlags := 1537
  interfaces := #[]
  cf := some (fileOf pool5 1 #[] #[] 1537 3 #[] #[])
  fields := #[]
  methods := #[]
  instanceTypes := #[]
  staticTypes := #[]
  resolved := Array.replicate 11 none
  statics := none }

def pool6 : Array CpInfo := pool [(1, .class_ 2), (0, u "java/lang/constant/ConstantDesc"), (0, .class_ 4), (0, u "java/lang/Object")] 32

/-- java/lang/constant/ConstantDesc -/
def k6 : Class := { plain "java/lang/constant/ConstantDesc" (some 0) with
  accessFlags := 1537
  interfaces := #[]
  cf := some (fileOf pool6 1 #[] #[] 1537 3 #[] #[])
  fields := #[]
  methods := #[]
  instanceTypes := #[]
  staticTypes := #[]
  resolved := Array.replicate 37 none
  statics := none }

def pool7 : Array CpInfo := pool [(1, .methodref 2 3), (0, .class_ 4), (0, .nameAndType 5 6), (0, u "java/lang/Object"), (0, u "<init>"), (0, u "()V"), (2, .fieldref 10 11), (0, .class_ 12), (0, .nameAndType 13 14), (0, u "java/lang/String"), (0, u "value"), (0, u "[B"), (0, .fieldref 10 16), (0, .nameAndType 17 18), (0, u "coder"), (0, u "B"), (2, u "hash"), (0, u "I"), (2, u "hashIsZero"), (0, u "Z"), (0, .methodref 10 28), (0, .nameAndType 5 29), (0, u "([CIILjava/lang/Void;)V"), (8, .fieldref 10 39), (0, .nameAndType 40 26), (0, u "COMPACT_STRINGS"), (1, .class_ 44), (1, u "java/lang/StringUTF16"), (0, u "compress"), (1, .methodref 42 48), (0, .nameAndType 49 50), (0, u "coderFromArrayLen"), (0, u "([BI)B"), (2, u "toBytes"), (0, .methodref 55 56), (0, .class_ 57), (0, .nameAndType 58 59), (0, u "java/util/Arrays"), (0, u "copyOfRange"), (0, u "([BII)[B"), (47, .class_ 109), (1, u "java/lang/StringLatin1"), (32, u "()Z"), (34, .methodref 42 178), (0, .nameAndType 45 179), (0, u "([CII)[B"), (13, .class_ 195), (1, u "java/lang/System"), (13, .methodref 10 210), (0, .nameAndType 5 211), (0, u "([BB)V"), (0, .methodref 193 213), (0, .nameAndType 214 215), (0, u "arraycopy"), (0, u "(Ljava/lang/Object;ILjava/lang/Object;II)V"), (118, u "()I"), (0, .methodref 10 336), (0, .nameAndType 17 337), (0, u "()B"), (2, u "()[B"), (22, u "([BI)C"), (5, u "(C)Z"), (21, u "(II)V"), (35, u "(I)C"), (61, .methodref 10 490), (0, .nameAndType 5 491), (0, u "(Ljava/lang/AbstractStringBuilder;Ljava/lang/Void;)V"), (0, .methodref 10 493), (0, .nameAndType 494 142), (0, u "isLatin1"), (0, .methodref 107 496), (0, .nameAndType 497 363), (0, u "charAt"), (3, u "checkIndex"), (4, .nameAndType 507 334), (0, u "length"), (24, u "getBytes"), (16, .methodref 550 506), (0, .class_ 551), (0, u "java/lang/AbstractStringBuilder"), (0, .methodref 550 553), (0, .nameAndType 554 340), (0, u "getValue"), (20, .class_ 576), (0, u "java/lang/CharSequence"), (22, u "CASE_INSENSITIVE_ORDER"), (0, u "Ljava/util/Comparator;"), (181, u "valueOf"), (0, u "(C)Ljava/lang/String;"), (37, u "([BIB)V"), (188, u "([C)V"), (4, .methodref 107 1016), (0, .nameAndType 1017 369), (0, u "canEncode"), (0, .methodref 107 1019), (0, .nameAndType 53 1020), (0, u "(C)[B"), (26, .methodref 550 493), (5, .fieldref 1054 1055), (0, .class_ 1056), (0, .nameAndType 1057 1058), (0, u "jdk/internal/util/Preconditions"), (0, u "SIOOBE_FORMATTER"), (0, u "Ljava/util/function/BiFunction;"), (0, .methodref 1054 1060), (0, .nameAndType 501 1061), (0, u "(IILjava/util/function/BiFunction;)I"), (39, u "serialPersistentFields"), (0, u "[Ljava/io/ObjectStreamField;"), (0, .class_ 1104), (0, u "java/lang/String$CaseInsensitiveComparator"), (1, .class_ 1107), (0, u "java/io/Serializable"), (0, .class_ 1109), (0, u "java/lang/Comparable"), (0, .class_ 1111), (0, u "java/lang/constant/Constable"), (0, .class_ 1113), (0, u "java/lang/constant/ConstantDesc"), (2, u "serialVersionUID"), (0, u "J"), (3, u "REPL"), (0, u "C"), (2, u "LATIN1"), (1, u "UTF16"), (105, u "(Ljava/lang/StringBuilder;)V")] 217

def k7m0 : Method := { name := "<init>", desc := "()V", sig := { parameters := [], returnType := none }, accessFlags := 1, code := none }
def k7c1 : Code := { maxStack := 5, maxLocals := 2, code := jdk_42_method_3_code, exceptionTable := #[], attributes := #[] }
def k7m1 : Method := { name := "<init>", desc := "([C)V", sig := { parameters := [(.array .char)], returnType := none }, accessFlags := 1, code := some k7c1 }
def k7c2 : Code := { maxStack := 3, maxLocals := 2, code := jdk_42_method_53_code, exceptionTable := #[], attributes := #[] }
def k7m2 : Method := { name := "<init>", desc := "(Ljava/lang/StringBuilder;)V", sig := { parameters := [(.object "java/lang/StringBuilder")], returnType := none }, accessFlags := 1, code := some k7c2 }
def k7c3 : Code := { maxStack := 2, maxLocals := 1, code := jdk_42_method_54_code, exceptionTable := #[], attributes := #[] }
def k7m3 : Method := { name := "length", desc := "()I", sig := { parameters := [], returnType := some .int }, accessFlags := 1, code := some k7c3 }
def k7c4 : Code := { maxStack := 2, maxLocals := 2, code := jdk_42_method_56_code, exceptionTable := #[], attributes := #[] }
def k7m4 : Method := { name := "charAt", desc := "(I)C", sig := { parameters := [.int], returnType := some .char }, accessFlags := 1, code := some k7c4 }
def k7c5 : Code := { maxStack := 4, maxLocals := 1, code := jdk_42_method_139_code, exceptionTable := #[], attributes := #[] }
def k7m5 : Method := { name := "valueOf", desc := "(C)Ljava/lang/String;", sig := { parameters := [.char], returnType := some (.object "java/lang/String") }, accessFlags := 9, code := some k7c5 }
def k7c6 : Code := { maxStack := 5, maxLocals := 4, code := jdk_42_method_147_code, exceptionTable := #[], attributes := #[] }
def k7m6 : Method := { name := "getBytes", desc := "([BIB)V", sig := { parameters := [(.array .byte), .int, .byte], returnType := none }, accessFlags := 0, code := some k7c6 }
def k7c7 : Code := { maxStack := 4, maxLocals := 6, code := jdk_42_method_149_code, exceptionTable := #[], attributes := #[] }
def k7m7 : Method := { name := "<init>", desc := "([CIILjava/lang/Void;)V", sig := { parameters := [(.array .char), .int, .int, (.object "java/lang/Void")], returnType := none }, accessFlags := 2, code := some k7c7 }
def k7c8 : Code := { maxStack := 5, maxLocals := 5, code := jdk_42_method_150_code, exceptionTable := #[], attributes := #[] }
def k7m8 : Method := { name := "<init>", desc := "(Ljava/lang/AbstractStringBuilder;Ljava/lang/Void;)V", sig := { parameters := [(.object "java/lang/AbstractStringBuilder"), (.object "java/lang/Void")], returnType := none }, accessFlags := 0, code := some k7c8 }
def k7c9 : Code := { maxStack := 2, maxLocals := 3, code := jdk_42_method_151_code, exceptionTable := #[], attributes := #[] }
def k7m9 : Method := { name := "<init>", desc := "([BB)V", sig := { parameters := [(.array .byte), .byte], returnType := none }, accessFlags := 0, code := some k7c9 }
def k7c10 : Code := { maxStack := 1, maxLocals := 1, code := jdk_42_method_152_code, exceptionTable := #[], attributes := #[] }
def k7m10 : Method := { name := "coder", desc := "()B", sig := { parameters := [], returnType := some .byte }, accessFlags := 0, code := some k7c10 }
def k7c11 : Code := { maxStack := 1, maxLocals := 1, code := jdk_42_method_154_code, exceptionTable := #[], attributes := #[] }
def k7m11 : Method := { name := "isLatin1", desc := "()Z", sig := { parameters := [], returnType := some .boolean }, accessFlags := 0, code := some k7c11 }
def k7c12 : Code := { maxStack := 3, maxLocals := 2, code := jdk_42_method_155_code, exceptionTable := #[], attributes := #[] }
def k7m12 : Method := { name := "checkIndex", desc := "(II)V", sig := { parameters := [.int, .int], returnType := none }, accessFlags := 8, code := some k7c12 }
/-- java/lang/String -/
def k7 : Class := { plain "java/lang/String" (some 0) with
  accessFlags := 49
  interfaces := #[2, 3, 4, 5, 6]
  cf := some (fileOf pool7 10 #[.nestMembers #[1103]] #[{ accessFlags := 1, nameIndex := 5, descriptorIndex := 6, attributes := #[] }, { accessFlags := 1, nameIndex := 5, descriptorIndex := 1010, attributes := #[] }, { accessFlags := 1, nameIndex := 5, descriptorIndex := 1233, attributes := #[] }, { accessFlags := 1, nameIndex := 507, descriptorIndex := 334, attributes := #[] }, { accessFlags := 1, nameIndex := 497, descriptorIndex := 427, attributes := #[] }, { accessFlags := 9, nameIndex := 782, descriptorIndex := 783, attributes := #[] }, { accessFlags := 0, nameIndex := 532, descriptorIndex := 821, attributes := #[] }, { accessFlags := 2, nameIndex := 5, descriptorIndex := 29, attributes := #[] }, { accessFlags := 0, nameIndex := 5, descriptorIndex := 491, attributes := #[] }, { accessFlags := 0, nameIndex := 5, descriptorIndex := 211, attributes := #[] }, { accessFlags := 0, nameIndex := 17, descriptorIndex := 337, attributes := #[] }, { accessFlags := 0, nameIndex := 494, descriptorIndex := 142, attributes := #[] }, { accessFlags := 8, nameIndex := 501, descriptorIndex := 391, attributes := #[] }] 49 2 #[1106, 1108, 575, 1110, 1112] #[{ accessFlags := 18, nameIndex := 13, descriptorIndex := 14, attributes := #[] }, { accessFlags := 18, nameIndex := 17, descriptorIndex := 18, attributes := #[] }, { accessFlags := 2, nameIndex := 21, descriptorIndex := 22, attributes := #[] }, { accessFlags := 2, nameIndex := 25, descriptorIndex := 26, attributes := #[] }, { accessFlags := 26, nameIndex := 1116, descriptorIndex := 1117, attributes := #[] }, { accessFlags := 24, nameIndex := 40, descriptorIndex := 26, attributes := #[] }, { accessFlags := 26, nameIndex := 1101, descriptorIndex := 1102, attributes := #[] }, { accessFlags := 26, nameIndex := 1121, descriptorIndex := 1122, attributes := #[] }, { accessFlags := 25, nameIndex := 599, descriptorIndex := 600, attributes := #[] }, { accessFlags := 24, nameIndex := 1125, descriptorIndex := 18, attributes := #[] }, { accessFlags := 24, nameIndex := 1127, descriptorIndex := 18, attributes := #[] }])
  fields := #[{ name := "value", type := (.array .byte), accessFlags := 18, slot := 0, constantValue := 0 }, { name := "coder", type := .byte, accessFlags := 18, slot := 1, constantValue := 0 }, { name := "hash", type := .int, accessFlags := 2, slot := 2, constantValue := 0 }, { name := "hashIsZero", type := .boolean, accessFlags := 2, slot := 3, constantValue := 0 }, { name := "serialVersionUID", type := .long, accessFlags := 26, slot := 0, constantValue := 0 }, { name := "COMPACT_STRINGS", type := .boolean, accessFlags := 24, slot := 1, constantValue := 0 }, { name := "serialPersistentFields", type := (.array (.object "java/io/ObjectStreamField")), accessFlags := 26, slot := 2, constantValue := 0 }, { name := "REPL", type := .char, accessFlags := 26, slot := 3, constantValue := 0 }, { name := "CASE_INSENSITIVE_ORDER", type := (.object "java/util/Comparator"), accessFlags := 25, slot := 4, constantValue := 0 }, { name := "LATIN1", type := .byte, accessFlags := 24, slot := 5, constantValue := 0 }, { name := "UTF16", type := .byte, accessFlags := 24, slot := 6, constantValue := 0 }]
  methods := #[k7m0, k7m1, k7m2, k7m3, k7m4, k7m5, k7m6, k7m7, k7m8, k7m9, k7m10, k7m11, k7m12]
  instanceTypes := #[(.array .byte), .byte, .int, .boolean]
  staticTypes := #[.long, .boolean, (.array (.object "java/io/ObjectStreamField")), .char, (.object "java/util/Comparator"), .byte, .byte]
  resolved := Array.replicate 1451 none
  statics := some 0 }

def pool8 : Array CpInfo := pool [(6, .class_ 8), (1, u "java/lang/Object"), (0, u "<init>"), (0, u "()V"), (1, .class_ 14), (1, u "java/lang/StringUTF16"), (31, u "$assertionsDisabled"), (0, u "Z"), (13, u "HI_BYTE_SHIFT"), (0, u "I"), (2, u "LO_BYTE_SHIFT"), (49, .methodref 12 116), (0, .nameAndType 117 118), (0, u "compress"), (0, u "([CI[BII)I"), (3, u "([CII)[B"), (138, u "coderFromArrayLen"), (0, u "([BI)B"), (106, .class_ 371), (1, u "java/lang/StringUTF16$LinesSpliterator"), (58, u "MAX_LENGTH"), (196, .class_ 628), (0, u "java/lang/StringUTF16$CodePointsSpliterator"), (0, .class_ 630), (0, u "java/lang/StringUTF16$CharsSpliterator")] 4

def k8m0 : Method := { name := "<init>", desc := "()V", sig := { parameters := [], returnType := none }, accessFlags := 0, code := none }
def k8c1 : Code := { maxStack := 2, maxLocals := 2, code := jdk_52_method_15_code, exceptionTable := #[], attributes := #[] }
def k8m1 : Method := { name := "coderFromArrayLen", desc := "([BI)B", sig := { parameters := [(.array .byte), .int], returnType := some .byte }, accessFlags := 8, code := some k8c1 }
def k8c2 : Code := { maxStack := 5, maxLocals := 6, code := jdk_52_method_16_code, exceptionTable := #[], attributes := #[] }
def k8m2 : Method := { name := "compress", desc := "([CII)[B", sig := { parameters := [(.array .char), .int, .int], returnType := some (.array .byte) }, accessFlags := 9, code := some k8c2 }
def k8c3 : Code := { maxStack := 3, maxLocals := 7, code := jdk_52_method_21_code, exceptionTable := #[], attributes := #[] }
def k8m3 : Method := { name := "compress", desc := "([CI[BII)I", sig := { parameters := [(.array .char), .int, (.array .byte), .int, .int], returnType := some .int }, accessFlags := 9, code := some k8c3 }
/-- java/lang/StringUTF16 -/
def k8 : Class := { plain "java/lang/StringUTF16" (some 0) with
  accessFlags := 48
  interfaces := #[]
  cf := some (fileOf pool8 12 #[.nestMembers #[627, 629, 369]] #[{ accessFlags := 0, nameIndex := 9, descriptorIndex := 10, attributes := #[] }, { accessFlags := 8, nameIndex := 261, descriptorIndex := 262, attributes := #[] }, { accessFlags := 9, nameIndex := 117, descriptorIndex := 122, attributes := #[] }, { accessFlags := 9, nameIndex := 117, descriptorIndex := 118, attributes := #[] }] 48 6 #[] #[{ accessFlags := 26, nameIndex := 61, descriptorIndex := 62, attributes := #[] }, { accessFlags := 26, nameIndex := 65, descriptorIndex := 62, attributes := #[] }, { accessFlags := 24, nameIndex := 430, descriptorIndex := 62, attributes := #[] }, { accessFlags := 4120, nameIndex := 46, descriptorIndex := 47, attributes := #[] }])
  fields := #[{ name := "HI_BYTE_SHIFT", type := .int, accessFlags := 26, slot := 0, constantValue := 0 }, { name := "LO_BYTE_SHIFT", type := .int, accessFlags := 26, slot := 1, constantValue := 0 }, { name := "MAX_LENGTH", type := .int, accessFlags := 24, slot := 2, constantValue := 0 }, { name := "$assertionsDisabled", type := .boolean, accessFlags := 4120, slot := 3, constantValue := 0 }]
  methods := #[k8m0, k8m1, k8m2, k8m3]
  instanceTypes := #[]
  staticTypes := #[.int, .int, .int, .boolean]
  resolved := Array.replicate 635 none
  statics := none }

def pool9 : Array CpInfo := pool [(1, .methodref 2 3), (0, .class_ 4), (0, .nameAndType 5 6), (0, u "java/lang/Object"), (0, u "<init>"), (0, u "()V"), (0, .class_ 8), (0, u "java/lang/Record")] 13

def k9c0 : Code := { maxStack := 1, maxLocals := 1, code := jdk_30_method_1_code, exceptionTable := #[], attributes := #[] }
def k9m0 : Method := { name := "<init>", desc := "()V", sig := { parameters := [], returnType := none }, accessFlags := 4, code := some k9c0 }
/-- java/lang/Record -/
def k9 : Class := { plain "java/lang/Record" (some 0) with
  accessFlags := 1057
  interfaces := #[]
  cf := some (fileOf pool9 7 #[] #[{ accessFlags := 4, nameIndex := 5, descriptorIndex := 6, attributes := #[] }] 1057 2 #[] #[])
  fields := #[]
  methods := #[k9m0]
  instanceTypes := #[]
  staticTypes := #[]
  resolved := Array.replicate 22 none
  statics := none }

def pool10 : Array CpInfo := pool [(1, .class_ 2), (0, u "com/example/asterism/asterism/eac/EacCpf"), (0, .methodref 4 5), (0, .class_ 6), (0, .nameAndType 7 8), (0, u "java/lang/Record"), (0, u "<init>"), (0, u "()V"), (0, .fieldref 10 11), (0, .class_ 12), (0, .nameAndType 13 14), (0, u "com/example/asterism/asterism/eac/EacCpf$NameForm"), (0, u "element"), (0, u "Ljava/lang/String;"), (0, .fieldref 10 16), (0, .nameAndType 17 14), (0, u "text"), (0, .class_ 19), (0, u "java/lang/StringBuilder"), (0, .methodref 18 5), (0, .methodref 18 22), (0, .nameAndType 23 24), (0, u "append"), (0, u "(Ljava/lang/String;)Ljava/lang/StringBuilder;"), (0, .string 26), (0, u ": "), (0, .methodref 18 28), (0, .nameAndType 29 30), (0, u "toString"), (0, u "()Ljava/lang/String;"), (35, u "(Ljava/lang/String;Ljava/lang/String;)V"), (18, u "note")] 27

def k10c0 : Code := { maxStack := 2, maxLocals := 3, code := prog_8_method_1_code, exceptionTable := #[], attributes := #[] }
def k10m0 : Method := { name := "<init>", desc := "(Ljava/lang/String;Ljava/lang/String;)V", sig := { parameters := [(.object "java/lang/String"), (.object "java/lang/String")], returnType := none }, accessFlags := 0, code := some k10c0 }
def k10c1 : Code := { maxStack := 2, maxLocals := 1, code := prog_8_method_2_code, exceptionTable := #[], attributes := #[] }
def k10m1 : Method := { name := "note", desc := "()Ljava/lang/String;", sig := { parameters := [], returnType := some (.object "java/lang/String") }, accessFlags := 0, code := some k10c1 }
/-- com/example/asterism/asterism/eac/EacCpf$NameForm -/
def k10 : Class := { plain "com/example/asterism/asterism/eac/EacCpf$NameForm" (some 9) with
  accessFlags := 48
  interfaces := #[]
  cf := some (fileOf pool10 10 #[.nestHost 1] #[{ accessFlags := 0, nameIndex := 7, descriptorIndex := 66, attributes := #[] }, { accessFlags := 0, nameIndex := 85, descriptorIndex := 30, attributes := #[] }] 48 4 #[] #[{ accessFlags := 18, nameIndex := 13, descriptorIndex := 14, attributes := #[] }, { accessFlags := 18, nameIndex := 17, descriptorIndex := 14, attributes := #[] }])
  fields := #[{ name := "element", type := (.object "java/lang/String"), accessFlags := 18, slot := 0, constantValue := 0 }, { name := "text", type := (.object "java/lang/String"), accessFlags := 18, slot := 1, constantValue := 0 }]
  methods := #[k10m0, k10m1]
  instanceTypes := #[(.object "java/lang/String"), (.object "java/lang/String")]
  staticTypes := #[]
  resolved := Array.replicate 113 none
  statics := none }

def pool11 : Array CpInfo := pool [(1, .class_ 2), (0, u "java/lang/Appendable"), (0, .class_ 4), (0, u "java/lang/Object")] 9

/-- java/lang/Appendable -/
def k11 : Class := { plain "java/lang/Appendable" (some 0) with
  accessFlags := 1537
  interfaces := #[]
  cf := some (fileOf pool11 1 #[] #[] 1537 3 #[] #[])
  fields := #[]
  methods := #[]
  instanceTypes := #[]
  staticTypes := #[]
  resolved := Array.replicate 14 none
  statics := none }

def pool12 : Array CpInfo := pool [(1, .class_ 2), (0, u "java/lang/String"), (0, .methodref 4 5), (0, .class_ 6), (0, .nameAndType 7 8), (0, u "java/lang/Object"), (0, u "<init>"), (0, u "()V"), (1, .class_ 12), (1, u "java/lang/AbstractStringBuilder"), (0, u "EMPTYVALUE"), (0, u "[B"), (0, .fieldref 10 16), (0, .nameAndType 17 14), (0, u "value"), (0, .fieldref 1 19), (0, .nameAndType 20 21), (0, u "COMPACT_STRINGS"), (0, u "Z"), (0, .fieldref 10 23), (0, .nameAndType 24 25), (0, u "coder"), (0, u "B"), (6, .methodref 1 33), (0, .nameAndType 34 35), (0, u "length"), (0, u "()I"), (4, .methodref 1 41), (0, .nameAndType 24 42), (0, u "()B"), (2, u "append"), (0, u "(Ljava/lang/String;)Ljava/lang/AbstractStringBuilder;"), (1, .class_ 49), (0, u "java/lang/CharSequence"), (19, u "(Ljava/lang/String;)V"), (5, u "maybeLatin1"), (3, .fieldref 10 80), (0, .nameAndType 81 82), (0, u "count"), (0, u "I"), (2, u "isLatin1"), (0, u "()Z"), (13, .methodref 10 101), (0, .nameAndType 102 103), (0, u "ensureCapacityInternal"), (0, u "(I)V"), (104, .methodref 10 209), (0, .nameAndType 210 211), (0, u "putStringAt"), (0, u "(ILjava/lang/String;)V"), (5, u "inflateIfNeededFor"), (2, .nameAndType 221 222), (0, u "getBytes"), (0, u "([BIB)V"), (174, .methodref 10 398), (0, .nameAndType 217 69), (0, .methodref 1 220), (3, u "()[B"), (40, .class_ 445), (0, u "java/lang/Appendable"), (106, u "getValue")] 56

def k12m0 : Method := { name := "<init>", desc := "()V", sig := { parameters := [], returnType := none }, accessFlags := 0, code := none }
def k12c1 : Code := { maxStack := 2, maxLocals := 2, code := jdk_68_method_2_code, exceptionTable := #[], attributes := #[] }
def k12m1 : Method := { name := "<init>", desc := "(I)V", sig := { parameters := [.int], returnType := none }, accessFlags := 0, code := some k12c1 }
def k12c2 : Code := { maxStack := 1, maxLocals := 1, code := jdk_68_method_6_code, exceptionTable := #[], attributes := #[] }
def k12m2 : Method := { name := "length", desc := "()I", sig := { parameters := [], returnType := some .int }, accessFlags := 1, code := some k12c2 }
def k12c3 : Code := { maxStack := 4, maxLocals := 3, code := jdk_68_method_9_code, exceptionTable := #[], attributes := #[] }
def k12m3 : Method := { name := "ensureCapacityInternal", desc := "(I)V", sig := { parameters := [.int], returnType := none }, accessFlags := 2, code := some k12c3 }
def k12c4 : Code := { maxStack := 3, maxLocals := 3, code := jdk_68_method_22_code, exceptionTable := #[], attributes := #[] }
def k12m4 : Method := { name := "append", desc := "(Ljava/lang/String;)Ljava/lang/AbstractStringBuilder;", sig := { parameters := [(.object "java/lang/String")], returnType := some (.object "java/lang/AbstractStringBuilder") }, accessFlags := 1, code := some k12c4 }
def k12c5 : Code := { maxStack := 1, maxLocals := 1, code := jdk_68_method_64_code, exceptionTable := #[], attributes := #[] }
def k12m5 : Method := { name := "getValue", desc := "()[B", sig := { parameters := [], returnType := some (.array .byte) }, accessFlags := 16, code := some k12c5 }
def k12c6 : Code := { maxStack := 1, maxLocals := 1, code := jdk_68_method_68_code, exceptionTable := #[], attributes := #[] }
def k12m6 : Method := { name := "isLatin1", desc := "()Z", sig := { parameters := [], returnType := some .boolean }, accessFlags := 16, code := some k12c6 }
def k12c7 : Code := { maxStack := 2, maxLocals := 2, code := jdk_68_method_71_code, exceptionTable := #[], attributes := #[] }
def k12m7 : Method := { name := "inflateIfNeededFor", desc := "(Ljava/lang/String;)V", sig := { parameters := [(.object "java/lang/String")], returnType := none }, accessFlags := 2, code := some k12c7 }
def k12c8 : Code := { maxStack := 4, maxLocals := 3, code := jdk_68_method_73_code, exceptionTable := #[], attributes := #[] }
def k12m8 : Method := { name := "putStringAt", desc := "(ILjava/lang/String;)V", sig := { parameters := [.int, (.object "java/lang/String")], returnType := none }, accessFlags := 2, code := some k12c8 }
/-- java/lang/AbstractStringBuilder -/
def k12 : Class := { plain "java/lang/AbstractStringBuilder" (some 0) with
  accessFlags := 1056
  interfaces := #[11, 4]
  cf := some (fileOf pool12 10 #[] #[{ accessFlags := 0, nameIndex := 7, descriptorIndex := 8, attributes := #[] }, { accessFlags := 0, nameIndex := 7, descriptorIndex := 103, attributes := #[] }, { accessFlags := 1, nameIndex := 34, descriptorIndex := 35, attributes := #[] }, { accessFlags := 2, nameIndex := 102, descriptorIndex := 103, attributes := #[] }, { accessFlags := 1, nameIndex := 45, descriptorIndex := 46, attributes := #[] }, { accessFlags := 16, nameIndex := 552, descriptorIndex := 403, attributes := #[] }, { accessFlags := 16, nameIndex := 85, descriptorIndex := 86, attributes := #[] }, { accessFlags := 2, nameIndex := 217, descriptorIndex := 69, attributes := #[] }, { accessFlags := 2, nameIndex := 210, descriptorIndex := 211, attributes := #[] }] 1056 4 #[444, 48] #[{ accessFlags := 0, nameIndex := 17, descriptorIndex := 14, attributes := #[] }, { accessFlags := 0, nameIndex := 24, descriptorIndex := 25, attributes := #[] }, { accessFlags := 0, nameIndex := 75, descriptorIndex := 21, attributes := #[] }, { accessFlags := 0, nameIndex := 81, descriptorIndex := 82, attributes := #[] }, { accessFlags := 26, nameIndex := 13, descriptorIndex := 14, attributes := #[] }])
  fields := #[{ name := "value", type := (.array .byte), accessFlags := 0, slot := 0, constantValue := 0 }, { name := "coder", type := .byte, accessFlags := 0, slot := 1, constantValue := 0 }, { name := "maybeLatin1", type := .boolean, accessFlags := 0, slot := 2, constantValue := 0 }, { name := "count", type := .int, accessFlags := 0, slot := 3, constantValue := 0 }, { name := "EMPTYVALUE", type := (.array .byte), accessFlags := 26, slot := 0, constantValue := 0 }]
  methods := #[k12m0, k12m1, k12m2, k12m3, k12m4, k12m5, k12m6, k12m7, k12m8]
  instanceTypes := #[(.array .byte), .byte, .boolean, .int]
  staticTypes := #[(.array .byte)]
  resolved := Array.replicate 609 none
  statics := none }

def pool13 : Array CpInfo := pool [(1, .methodref 2 3), (0, .class_ 4), (0, .nameAndType 5 6), (0, u "java/lang/AbstractStringBuilder"), (0, u "<init>"), (0, u "(I)V"), (11, .class_ 20), (1, u "java/lang/String"), (3, .class_ 26), (1, u "java/lang/StringBuilder"), (0, u "append"), (0, u "(Ljava/lang/String;)Ljava/lang/StringBuilder;"), (0, .methodref 2 30), (0, .nameAndType 27 31), (0, u "(Ljava/lang/String;)Ljava/lang/AbstractStringBuilder;"), (105, .methodref 18 138), (0, .nameAndType 5 139), (0, u "(Ljava/lang/StringBuilder;)V"), (5, u "()V"), (10, u "()I"), (186, .methodref 2 344), (0, .nameAndType 345 156), (0, u "length"), (3, .class_ 350), (0, u "java/lang/Appendable"), (0, .class_ 352), (0, u "java/io/Serializable"), (0, .class_ 354), (0, u "java/lang/Comparable"), (0, .class_ 356), (0, u "java/lang/CharSequence"), (0, u "serialVersionUID"), (0, u "J"), (40, u "toString"), (0, u "()Ljava/lang/String;")] 21

def k13c0 : Code := { maxStack := 2, maxLocals := 1, code := jdk_67_method_1_code, exceptionTable := #[], attributes := #[] }
def k13m0 : Method := { name := "<init>", desc := "()V", sig := { parameters := [], returnType := none }, accessFlags := 1, code := some k13c0 }
def k13c1 : Code := { maxStack := 2, maxLocals := 2, code := jdk_67_method_7_code, exceptionTable := #[], attributes := #[] }
def k13m1 : Method := { name := "append", desc := "(Ljava/lang/String;)Ljava/lang/StringBuilder;", sig := { parameters := [(.object "java/lang/String")], returnType := some (.object "java/lang/StringBuilder") }, accessFlags := 1, code := some k13c1 }
def k13c2 : Code := { maxStack := 3, maxLocals := 1, code := jdk_67_method_42_code, exceptionTable := #[], attributes := #[] }
def k13m2 : Method := { name := "toString", desc := "()Ljava/lang/String;", sig := { parameters := [], returnType := some (.object "java/lang/String") }, accessFlags := 1, code := some k13c2 }
def k13c3 : Code := { maxStack := 1, maxLocals := 1, code := jdk_67_method_93_code, exceptionTable := #[], attributes := #[] }
def k13m3 : Method := { name := "length", desc := "()I", sig := { parameters := [], returnType := some .int }, accessFlags := 4161, code := some k13c3 }
/-- java/lang/StringBuilder -/
def k13 : Class := { plain "java/lang/StringBuilder" (some 12) with
  accessFlags := 49
  interfaces := #[11, 2, 3, 4]
  cf := some (fileOf pool13 24 #[] #[{ accessFlags := 1, nameIndex := 5, descriptorIndex := 145, attributes := #[] }, { accessFlags := 1, nameIndex := 27, descriptorIndex := 28, attributes := #[] }, { accessFlags := 1, nameIndex := 399, descriptorIndex := 400, attributes := #[] }, { accessFlags := 4161, nameIndex := 345, descriptorIndex := 156, attributes := #[] }] 49 2 #[349, 351, 353, 355] #[{ accessFlags := 24, nameIndex := 357, descriptorIndex := 358, attributes := #[] }])
  fields := #[{ name := "serialVersionUID", type := .long, accessFlags := 24, slot := 0, constantValue := 0 }]
  methods := #[k13m0, k13m1, k13m2, k13m3]
  instanceTypes := #[(.array .byte), .byte, .boolean, .int]
  staticTypes := #[.long]
  resolved := Array.replicate 422 none
  statics := none }

def pool14 : Array CpInfo := pool [(2, .class_ 4), (1, u "java/lang/Object"), (0, u "<init>"), (0, u "()V"), (1, .class_ 10), (1, u "java/lang/System"), (0, u "allowSecurityManager"), (0, u "I"), (16, u "cons"), (0, u "Ljava/io/Console;"), (77, .class_ 110), (1, u "java/lang/System$CallersHolder"), (43, u "initialErrStream"), (0, u "Ljava/io/PrintStream;"), (19, u "security"), (0, u "Ljava/lang/SecurityManager;"), (31, .class_ 209), (0, u "java/lang/System$1"), (7, u "props"), (0, u "Ljava/util/Properties;"), (2, u "lineSeparator"), (0, u "Ljava/lang/String;"), (96, .class_ 321), (1, u "java/lang/System$LoggerFinder"), (5, .class_ 328), (0, u "java/lang/System$Logger"), (67, u "err"), (2, u "out"), (91, u "notSupportedJnuEncoding"), (15, u "in"), (17, u "initialIn"), (0, u "Ljava/io/InputStream;"), (35, u "bootLayer"), (0, u "Ljava/lang/ModuleLayer;"), (99, .class_ 664), (0, u "java/lang/System$2"), (9, u "NEVER"), (2, u "MAYBE"), (49, u "arraycopy"), (0, u "(Ljava/lang/Object;ILjava/lang/Object;II)V"), (72, .class_ 802), (0, u "java/lang/System$Logger$Level")] 31

def k14m0 : Method := { name := "<init>", desc := "()V", sig := { parameters := [], returnType := none }, accessFlags := 2, code := none }
def k14m1 : Method := { name := "arraycopy", desc := "(Ljava/lang/Object;ILjava/lang/Object;II)V", sig := { parameters := [(.object "java/lang/Object"), .int, (.object "java/lang/Object"), .int, .int], returnType := none }, accessFlags := 265, code := none }
/-- java/lang/System -/
def k14 : Class := { plain "java/lang/System" (some 0) with
  accessFlags := 49
  interfaces := #[]
  cf := some (fileOf pool14 8 #[.nestMembers #[319, 327, 801, 108, 663, 208]] #[{ accessFlags := 2, nameIndex := 5, descriptorIndex := 6, attributes := #[] }, { accessFlags := 265, nameIndex := 727, descriptorIndex := 728, attributes := #[] }] 49 2 #[] #[{ accessFlags := 25, nameIndex := 507, descriptorIndex := 526, attributes := #[] }, { accessFlags := 25, nameIndex := 399, descriptorIndex := 155, attributes := #[] }, { accessFlags := 25, nameIndex := 396, descriptorIndex := 155, attributes := #[] }, { accessFlags := 10, nameIndex := 525, descriptorIndex := 526, attributes := #[] }, { accessFlags := 26, nameIndex := 674, descriptorIndex := 12, attributes := #[] }, { accessFlags := 26, nameIndex := 677, descriptorIndex := 12, attributes := #[] }, { accessFlags := 10, nameIndex := 11, descriptorIndex := 12, attributes := #[] }, { accessFlags := 74, nameIndex := 175, descriptorIndex := 176, attributes := #[] }, { accessFlags := 10, nameIndex := 491, descriptorIndex := 222, attributes := #[] }, { accessFlags := 74, nameIndex := 29, descriptorIndex := 30, attributes := #[] }, { accessFlags := 74, nameIndex := 154, descriptorIndex := 155, attributes := #[] }, { accessFlags := 10, nameIndex := 217, descriptorIndex := 218, attributes := #[] }, { accessFlags := 10, nameIndex := 221, descriptorIndex := 222, attributes := #[] }, { accessFlags := 8, nameIndex := 562, descriptorIndex := 563, attributes := #[] }])
  fields := #[{ name := "in", type := (.object "java/io/InputStream"), accessFlags := 25, slot := 0, constantValue := 0 }, { name := "out", type := (.object "java/io/PrintStream"), accessFlags := 25, slot := 1, constantValue := 0 }, { name := "err", type := (.object "java/io/PrintStream"), accessFlags := 25, slot := 2, constantValue := 0 }, { name := "initialIn", type := (.object "java/io/InputStream"), accessFlags := 10, slot := 3, constantValue := 0 }, { name := "NEVER", type := .int, accessFlags := 26, slot := 4, constantValue := 0 }, { name := "MAYBE", type := .int, accessFlags := 26, slot := 5, constantValue := 0 }, { name := "allowSecurityManager", type := .int, accessFlags := 10, slot := 6, constantValue := 0 }, { name := "security", type := (.object "java/lang/SecurityManager"), accessFlags := 74, slot := 7, constantValue := 0 }, { name := "notSupportedJnuEncoding", type := (.object "java/lang/String"), accessFlags := 10, slot := 8, constantValue := 0 }, { name := "cons", type := (.object "java/io/Console"), accessFlags := 74, slot := 9, constantValue := 0 }, { name := "initialErrStream", type := (.object "java/io/PrintStream"), accessFlags := 74, slot := 10, constantValue := 0 }, { name := "props", type := (.object "java/util/Properties"), accessFlags := 10, slot := 11, constantValue := 0 }, { name := "lineSeparator", type := (.object "java/lang/String"), accessFlags := 10, slot := 12, constantValue := 0 }, { name := "bootLayer", type := (.object "java/lang/ModuleLayer"), accessFlags := 8, slot := 13, constantValue := 0 }]
  methods := #[k14m0, k14m1]
  instanceTypes := #[]
  staticTypes := #[(.object "java/io/InputStream"), (.object "java/io/PrintStream"), (.object "java/io/PrintStream"), (.object "java/io/InputStream"), .int, .int, .int, (.object "java/lang/SecurityManager"), (.object "java/lang/String"), (.object "java/io/Console"), (.object "java/io/PrintStream"), (.object "java/util/Properties"), (.object "java/lang/String"), (.object "java/lang/ModuleLayer")]
  resolved := Array.replicate 834 none
  statics := none }

def pool15 : Array CpInfo := pool [(2, .class_ 4), (1, u "java/lang/Object"), (0, u "<init>"), (0, u "()V"), (7, .class_ 16), (1, u "java/util/Arrays"), (57, .class_ 76), (1, u "java/util/Arrays$NaturalOrder"), (36, .class_ 115), (1, u "java/util/Arrays$LegacyMergeSort"), (1, u "Z"), (21, u "copyOfRange"), (10, .methodref 151 152), (0, .class_ 153), (0, .nameAndType 154 155), (0, u "java/lang/System"), (0, u "arraycopy"), (0, u "(Ljava/lang/Object;ILjava/lang/Object;II)V"), (148, .methodref 305 306), (0, .class_ 307), (0, .nameAndType 308 309), (0, u "java/lang/Math"), (0, u "min"), (0, u "(II)I"), (29, .methodref 14 340), (0, .nameAndType 341 342), (0, u "copyOfRangeByte"), (0, u "([BII)[B"), (0, .methodref 14 344), (0, .nameAndType 345 346), (0, u "checkLength"), (0, u "(II)V"), (28, .class_ 376), (0, u "java/util/Arrays$ArrayList"), (68, u "$assertionsDisabled"), (269, u "MIN_ARRAY_SORT_GRAN"), (0, u "I"), (2, u "INSERTIONSORT_THRESHOLD"), (255, .class_ 976), (0, u "java/util/Arrays$ArrayItr")] 52

def k15m0 : Method := { name := "<init>", desc := "()V", sig := { parameters := [], returnType := none }, accessFlags := 2, code := none }
def k15c1 : Code := { maxStack := 4, maxLocals := 2, code := jdk_65_method_131_code, exceptionTable := #[], attributes := #[] }
def k15m1 : Method := { name := "checkLength", desc := "(II)V", sig := { parameters := [.int, .int], returnType := none }, accessFlags := 10, code := some k15c1 }
def k15c2 : Code := { maxStack := 3, maxLocals := 3, code := jdk_65_method_132_code, exceptionTable := #[], attributes := #[] }
def k15m2 : Method := { name := "copyOfRange", desc := "([BII)[B", sig := { parameters := [(.array .byte), .int, .int], returnType := some (.array .byte) }, accessFlags := 9, code := some k15c2 }
def k15c3 : Code := { maxStack := 6, maxLocals := 5, code := jdk_65_method_133_code, exceptionTable := #[], attributes := #[] }
def k15m3 : Method := { name := "copyOfRangeByte", desc := "([BII)[B", sig := { parameters := [(.array .byte), .int, .int], returnType := some (.array .byte) }, accessFlags := 10, code := some k15c3 }
/-- java/util/Arrays -/
def k15 : Class := { plain "java/util/Arrays" (some 0) with
  accessFlags := 49
  interfaces := #[]
  cf := some (fileOf pool15 14 #[.nestMembers #[975, 375, 113, 74]] #[{ accessFlags := 2, nameIndex := 5, descriptorIndex := 6, attributes := #[] }, { accessFlags := 10, nameIndex := 345, descriptorIndex := 346, attributes := #[] }, { accessFlags := 9, nameIndex := 139, descriptorIndex := 342, attributes := #[] }, { accessFlags := 10, nameIndex := 341, descriptorIndex := 342, attributes := #[] }] 49 2 #[] #[{ accessFlags := 26, nameIndex := 715, descriptorIndex := 716, attributes := #[] }, { accessFlags := 26, nameIndex := 719, descriptorIndex := 716, attributes := #[] }, { accessFlags := 4120, nameIndex := 445, descriptorIndex := 117, attributes := #[] }])
  fields := #[{ name := "MIN_ARRAY_SORT_GRAN", type := .int, accessFlags := 26, slot := 0, constantValue := 0 }, { name := "INSERTIONSORT_THRESHOLD", type := .int, accessFlags := 26, slot := 1, constantValue := 0 }, { name := "$assertionsDisabled", type := .boolean, accessFlags := 4120, slot := 2, constantValue := 0 }]
  methods := #[k15m0, k15m1, k15m2, k15m3]
  instanceTypes := #[]
  staticTypes := #[.int, .int, .boolean]
  resolved := Array.replicate 1029 none
  statics := none }

def pool16 : Array CpInfo := pool [(1, .class_ 2), (0, u "java/lang/Math"), (1, .class_ 6), (1, u "java/lang/Object"), (0, u "<init>"), (0, u "()V"), (89, .class_ 100), (1, u "java/lang/Math$RandomNumberGeneratorHolder"), (71, u "negativeZeroFloatBits"), (0, u "J"), (2, u "negativeZeroDoubleBits"), (24, u "min"), (43, u "$assertionsDisabled"), (0, u "Z"), (88, u "(II)I"), (2, u "twoToTheDoubleScaleDown"), (0, u "D"), (4, u "twoToTheDoubleScaleUp"), (9, u "E"), (3, u "PI"), (2, u "TAU"), (2, u "DEGREES_TO_RADIANS"), (0, u "RADIANS_TO_DEGREES")] 94

def k16m0 : Method := { name := "<init>", desc := "()V", sig := { parameters := [], returnType := none }, accessFlags := 2, code := none }
def k16c1 : Code := { maxStack := 2, maxLocals := 2, code := jdk_29_method_69_code, exceptionTable := #[], attributes := #[] }
def k16m1 : Method := { name := "min", desc := "(II)I", sig := { parameters := [.int, .int], returnType := some .int }, accessFlags := 9, code := some k16c1 }
/-- java/lang/Math -/
def k16 : Class := { plain "java/lang/Math" (some 0) with
  accessFlags := 49
  interfaces := #[]
  cf := some (fileOf pool16 1 #[.nestMembers #[98]] #[{ accessFlags := 2, nameIndex := 7, descriptorIndex := 8, attributes := #[] }, { accessFlags := 9, nameIndex := 201, descriptorIndex := 335, attributes := #[] }] 49 4 #[] #[{ accessFlags := 25, nameIndex := 354, descriptorIndex := 339, attributes := #[] }, { accessFlags := 25, nameIndex := 358, descriptorIndex := 339, attributes := #[] }, { accessFlags := 25, nameIndex := 361, descriptorIndex := 339, attributes := #[] }, { accessFlags := 26, nameIndex := 364, descriptorIndex := 339, attributes := #[] }, { accessFlags := 26, nameIndex := 365, descriptorIndex := 339, attributes := #[] }, { accessFlags := 26, nameIndex := 172, descriptorIndex := 173, attributes := #[] }, { accessFlags := 26, nameIndex := 176, descriptorIndex := 173, attributes := #[] }, { accessFlags := 8, nameIndex := 344, descriptorIndex := 339, attributes := #[] }, { accessFlags := 8, nameIndex := 338, descriptorIndex := 339, attributes := #[] }, { accessFlags := 4120, nameIndex := 245, descriptorIndex := 246, attributes := #[] }])
  fields := #[{ name := "E", type := .double, accessFlags := 25, slot := 0, constantValue := 0 }, { name := "PI", type := .double, accessFlags := 25, slot := 1, constantValue := 0 }, { name := "TAU", type := .double, accessFlags := 25, slot := 2, constantValue := 0 }, { name := "DEGREES_TO_RADIANS", type := .double, accessFlags := 26, slot := 3, constantValue := 0 }, { name := "RADIANS_TO_DEGREES", type := .double, accessFlags := 26, slot := 4, constantValue := 0 }, { name := "negativeZeroFloatBits", type := .long, accessFlags := 26, slot := 5, constantValue := 0 }, { name := "negativeZeroDoubleBits", type := .long, accessFlags := 26, slot := 6, constantValue := 0 }, { name := "twoToTheDoubleScaleUp", type := .double, accessFlags := 8, slot := 7, constantValue := 0 }, { name := "twoToTheDoubleScaleDown", type := .double, accessFlags := 8, slot := 8, constantValue := 0 }, { name := "$assertionsDisabled", type := .boolean, accessFlags := 4120, slot := 9, constantValue := 0 }]
  methods := #[k16m0, k16m1]
  instanceTypes := #[]
  staticTypes := #[.double, .double, .double, .double, .double, .long, .long, .double, .double, .boolean]
  resolved := Array.replicate 460 none
  statics := none }

def pool17 : Array CpInfo := pool [(1, .class_ 2), (0, u "java/lang/String"), (1, .class_ 6), (1, u "java/lang/Object"), (0, u "<init>"), (0, u "()V"), (0, .methodref 1 10), (0, .nameAndType 11 12), (0, u "checkIndex"), (0, u "(II)V"), (1, .class_ 16), (1, u "java/lang/StringLatin1"), (36, u "([BI)C"), (36, u "canEncode"), (14, u "(C)Z"), (15, u "$assertionsDisabled"), (0, u "Z"), (98, .class_ 223), (1, u "java/lang/StringLatin1$LinesSpliterator"), (28, u "charAt"), (127, u "toBytes"), (1, u "(C)[B"), (7, .class_ 391), (0, u "java/lang/StringLatin1$CharsSpliterator")] 3

def k17m0 : Method := { name := "<init>", desc := "()V", sig := { parameters := [], returnType := none }, accessFlags := 0, code := none }
def k17c1 : Code := { maxStack := 2, maxLocals := 2, code := jdk_43_method_2_code, exceptionTable := #[], attributes := #[] }
def k17m1 : Method := { name := "charAt", desc := "([BI)C", sig := { parameters := [(.array .byte), .int], returnType := some .char }, accessFlags := 9, code := some k17c1 }
def k17c2 : Code := { maxStack := 2, maxLocals := 1, code := jdk_43_method_3_code, exceptionTable := #[], attributes := #[] }
def k17m2 : Method := { name := "canEncode", desc := "(C)Z", sig := { parameters := [.char], returnType := some .boolean }, accessFlags := 9, code := some k17c2 }
def k17c3 : Code := { maxStack := 4, maxLocals := 1, code := jdk_43_method_46_code, exceptionTable := #[], attributes := #[] }
def k17m3 : Method := { name := "toBytes", desc := "(C)[B", sig := { parameters := [.char], returnType := some (.array .byte) }, accessFlags := 9, code := some k17c3 }
/-- java/lang/StringLatin1 -/
def k17 : Class := { plain "java/lang/StringLatin1" (some 0) with
  accessFlags := 48
  interfaces := #[]
  cf := some (fileOf pool17 14 #[.nestMembers #[390, 221]] #[{ accessFlags := 0, nameIndex := 7, descriptorIndex := 8, attributes := #[] }, { accessFlags := 9, nameIndex := 252, descriptorIndex := 53, attributes := #[] }, { accessFlags := 9, nameIndex := 90, descriptorIndex := 105, attributes := #[] }, { accessFlags := 9, nameIndex := 380, descriptorIndex := 382, attributes := #[] }] 48 4 #[] #[{ accessFlags := 4120, nameIndex := 121, descriptorIndex := 122, attributes := #[] }])
  fields := #[{ name := "$assertionsDisabled", type := .boolean, accessFlags := 4120, slot := 0, constantValue := 0 }]
  methods := #[k17m0, k17m1, k17m2, k17m3]
  instanceTypes := #[]
  staticTypes := #[.boolean]
  resolved := Array.replicate 395 none
  statics := none }

def pool18 : Array CpInfo := pool [(2, .class_ 4), (1, u "java/lang/Object"), (0, u "<init>"), (0, u "()V"), (17, .class_ 26), (1, u "jdk/internal/util/Preconditions"), (6, u "checkIndex"), (21, .class_ 56), (0, u "jdk/internal/util/Preconditions$4"), (57, .class_ 115), (0, u "jdk/internal/util/Preconditions$1"), (7, u "SIOOBE_FORMATTER"), (0, u "Ljava/util/function/BiFunction;"), (0, .class_ 126), (0, u "jdk/internal/util/Preconditions$2"), (3, u "AIOOBE_FORMATTER"), (0, .class_ 132), (0, u "jdk/internal/util/Preconditions$3"), (3, u "IOOBE_FORMATTER"), (41, u "(IILjava/util/function/BiFunction;)I")] 15

def k18m0 : Method := { name := "<init>", desc := "()V", sig := { parameters := [], returnType := none }, accessFlags := 1, code := none }
def k18c1 : Code := { maxStack := 3, maxLocals := 3, code := jdk_41_method_11_code, exceptionTable := #[], attributes := #[] }
def k18m1 : Method := { name := "checkIndex", desc := "(IILjava/util/function/BiFunction;)I", sig := { parameters := [.int, .int, (.object "java/util/function/BiFunction")], returnType := some .int }, accessFlags := 9, code := some k18c1 }
/-- jdk/internal/util/Preconditions -/
def k18 : Class := { plain "jdk/internal/util/Preconditions" (some 0) with
  accessFlags := 33
  interfaces := #[]
  cf := some (fileOf pool18 24 #[.nestMembers #[55, 131, 125, 114]] #[{ accessFlags := 1, nameIndex := 5, descriptorIndex := 6, attributes := #[] }, { accessFlags := 9, nameIndex := 33, descriptorIndex := 178, attributes := #[] }] 33 2 #[] #[{ accessFlags := 25, nameIndex := 123, descriptorIndex := 124, attributes := #[] }, { accessFlags := 25, nameIndex := 130, descriptorIndex := 124, attributes := #[] }, { accessFlags := 25, nameIndex := 136, descriptorIndex := 124, attributes := #[] }])
  fields := #[{ name := "SIOOBE_FORMATTER", type := (.object "java/util/function/BiFunction"), accessFlags := 25, slot := 0, constantValue := 0 }, { name := "AIOOBE_FORMATTER", type := (.object "java/util/function/BiFunction"), accessFlags := 25, slot := 1, constantValue := 0 }, { name := "IOOBE_FORMATTER", type := (.object "java/util/function/BiFunction"), accessFlags := 25, slot := 2, constantValue := 0 }]
  methods := #[k18m0, k18m1]
  instanceTypes := #[]
  staticTypes := #[(.object "java/util/function/BiFunction"), (.object "java/util/function/BiFunction"), (.object "java/util/function/BiFunction")]
  resolved := Array.replicate 194 none
  statics := some 1 }

def pool19 : Array CpInfo := pool [(9, u "<init>"), (6, .class_ 18), (1, u "java/lang/Object"), (0, u "()V"), (1, .class_ 23), (1, u "jdk/internal/util/ArraysSupport"), (0, u "LOG2_ARRAY_LONG_INDEX_SCALE"), (0, u "I"), (2, u "U"), (0, u "Ljdk/internal/misc/Unsafe;"), (8, u "BIG_ENDIAN"), (0, u "Z"), (8, u "LOG2_BYTE_BIT_SIZE"), (4, u "LOG2_ARRAY_INT_INDEX_SCALE"), (54, u "JLA"), (0, u "Ljdk/internal/access/JavaLangAccess;"), (11, u "LOG2_ARRAY_BOOLEAN_INDEX_SCALE"), (9, u "LOG2_ARRAY_BYTE_INDEX_SCALE"), (5, u "LOG2_ARRAY_CHAR_INDEX_SCALE"), (5, u "LOG2_ARRAY_SHORT_INDEX_SCALE"), (18, u "LOG2_ARRAY_FLOAT_INDEX_SCALE"), (24, u "LOG2_ARRAY_DOUBLE_INDEX_SCALE"), (89, u "T_BOOLEAN"), (2, u "T_CHAR"), (1, u "T_FLOAT"), (1, u "T_DOUBLE"), (1, u "T_BYTE"), (1, u "T_SHORT"), (1, u "T_INT"), (1, u "T_LONG"), (1, u "SOFT_MAX_ARRAY_LENGTH")] 83

def k19m0 : Method := { name := "<init>", desc := "()V", sig := { parameters := [], returnType := none }, accessFlags := 2, code := none }
/-- jdk/internal/util/ArraysSupport -/
def k19 : Class := { plain "jdk/internal/util/ArraysSupport" (some 0) with
  accessFlags := 33
  interfaces := #[]
  cf := some (fileOf pool19 21 #[] #[{ accessFlags := 2, nameIndex := 9, descriptorIndex := 19, attributes := #[] }] 33 16 #[] #[{ accessFlags := 24, nameIndex := 28, descriptorIndex := 29, attributes := #[] }, { accessFlags := 26, nameIndex := 38, descriptorIndex := 39, attributes := #[] }, { accessFlags := 25, nameIndex := 121, descriptorIndex := 25, attributes := #[] }, { accessFlags := 25, nameIndex := 131, descriptorIndex := 25, attributes := #[] }, { accessFlags := 25, nameIndex := 137, descriptorIndex := 25, attributes := #[] }, { accessFlags := 25, nameIndex := 143, descriptorIndex := 25, attributes := #[] }, { accessFlags := 25, nameIndex := 53, descriptorIndex := 25, attributes := #[] }, { accessFlags := 25, nameIndex := 24, descriptorIndex := 25, attributes := #[] }, { accessFlags := 25, nameIndex := 162, descriptorIndex := 25, attributes := #[] }, { accessFlags := 25, nameIndex := 187, descriptorIndex := 25, attributes := #[] }, { accessFlags := 26, nameIndex := 48, descriptorIndex := 25, attributes := #[] }, { accessFlags := 25, nameIndex := 277, descriptorIndex := 25, attributes := #[] }, { accessFlags := 25, nameIndex := 280, descriptorIndex := 25, attributes := #[] }, { accessFlags := 25, nameIndex := 282, descriptorIndex := 25, attributes := #[] }, { accessFlags := 25, nameIndex := 284, descriptorIndex := 25, attributes := #[] }, { accessFlags := 25, nameIndex := 286, descriptorIndex := 25, attributes := #[] }, { accessFlags := 25, nameIndex := 288, descriptorIndex := 25, attributes := #[] }, { accessFlags := 25, nameIndex := 290, descriptorIndex := 25, attributes := #[] }, { accessFlags := 25, nameIndex := 292, descriptorIndex := 25, attributes := #[] }, { accessFlags := 26, nameIndex := 108, descriptorIndex := 109, attributes := #[] }, { accessFlags := 25, nameIndex := 294, descriptorIndex := 25, attributes := #[] }])
  fields := #[{ name := "U", type := (.object "jdk/internal/misc/Unsafe"), accessFlags := 24, slot := 0, constantValue := 0 }, { name := "BIG_ENDIAN", type := .boolean, accessFlags := 26, slot := 1, constantValue := 0 }, { name := "LOG2_ARRAY_BOOLEAN_INDEX_SCALE", type := .int, accessFlags := 25, slot := 2, constantValue := 0 }, { name := "LOG2_ARRAY_BYTE_INDEX_SCALE", type := .int, accessFlags := 25, slot := 3, constantValue := 0 }, { name := "LOG2_ARRAY_CHAR_INDEX_SCALE", type := .int, accessFlags := 25, slot := 4, constantValue := 0 }, { name := "LOG2_ARRAY_SHORT_INDEX_SCALE", type := .int, accessFlags := 25, slot := 5, constantValue := 0 }, { name := "LOG2_ARRAY_INT_INDEX_SCALE", type := .int, accessFlags := 25, slot := 6, constantValue := 0 }, { name := "LOG2_ARRAY_LONG_INDEX_SCALE", type := .int, accessFlags := 25, slot := 7, constantValue := 0 }, { name := "LOG2_ARRAY_FLOAT_INDEX_SCALE", type := .int, accessFlags := 25, slot := 8, constantValue := 0 }, { name := "LOG2_ARRAY_DOUBLE_INDEX_SCALE", type := .int, accessFlags := 25, slot := 9, constantValue := 0 }, { name := "LOG2_BYTE_BIT_SIZE", type := .int, accessFlags := 26, slot := 10, constantValue := 0 }, { name := "T_BOOLEAN", type := .int, accessFlags := 25, slot := 11, constantValue := 0 }, { name := "T_CHAR", type := .int, accessFlags := 25, slot := 12, constantValue := 0 }, { name := "T_FLOAT", type := .int, accessFlags := 25, slot := 13, constantValue := 0 }, { name := "T_DOUBLE", type := .int, accessFlags := 25, slot := 14, constantValue := 0 }, { name := "T_BYTE", type := .int, accessFlags := 25, slot := 15, constantValue := 0 }, { name := "T_SHORT", type := .int, accessFlags := 25, slot := 16, constantValue := 0 }, { name := "T_INT", type := .int, accessFlags := 25, slot := 17, constantValue := 0 }, { name := "T_LONG", type := .int, accessFlags := 25, slot := 18, constantValue := 0 }, { name := "JLA", type := (.object "jdk/internal/access/JavaLangAccess"), accessFlags := 26, slot := 19, constantValue := 0 }, { name := "SOFT_MAX_ARRAY_LENGTH", type := .int, accessFlags := 25, slot := 20, constantValue := 0 }]
  methods := #[k19m0]
  instanceTypes := #[]
  staticTypes := #[(.object "jdk/internal/misc/Unsafe"), .boolean, .int, .int, .int, .int, .int, .int, .int, .int, .int, .int, .int, .int, .int, .int, .int, .int, .int, (.object "jdk/internal/access/JavaLangAccess"), .int]
  resolved := Array.replicate 378 none
  statics := none }

def pool20 : Array CpInfo := pool [(1, u "java/lang/Cloneable"), (0, .class_ 1), (0, u "java/lang/Object"), (0, .class_ 3)] 3

/-- java/lang/Cloneable -/
def k20 : Class := { plain "java/lang/Cloneable" (some 0) with
  accessFlags := 1537
  interfaces := #[]
  cf := some (fileOf pool20 2 #[] #[] 1537 4 #[] #[])
  fields := #[]
  methods := #[]
  instanceTypes := #[]
  staticTypes := #[]
  resolved := Array.replicate 8 none
  statics := none }

/-- the primitive byte -/
def k21 : Class := { plain "byte" none with kind := .primitive 'B', accessFlags := 0x411 }
/-- [B -/
def k22 : Class := { plain "[B" (some 0) with kind := .array 21 .byte, interfaces := #[20, 2], accessFlags := 1041 }

/-- the primitive char -/
def k23 : Class := { plain "char" none with kind := .primitive 'C', accessFlags := 0x411 }
/-- [C -/
def k24 : Class := { plain "[C" (some 0) with kind := .array 23 .char, interfaces := #[20, 2], accessFlags := 1041 }

/-- the primitive int -/
def k25 : Class := { plain "int" none with kind := .primitive 'I', accessFlags := 0x411 }
/-- [I -/
def k26 : Class := { plain "[I" (some 0) with kind := .array 25 .int, interfaces := #[20, 2], accessFlags := 1041 }

def heap : Heap := #[{ cls := 7, slots := #[.long 0, .int 1, .null, .int 0, .null, .int 0, .int 0], vm := .statics 7 },
  { cls := 18, slots := #[.null, .null, .null], vm := .statics 18 }]
def classes : Array Class := #[k0, k1, k2, k3, k4, k5, k6, k7, k8, k9, k10, k11, k12, k13, k14, k15, k16, k17, k18, k19, k20, k21, k22, k23, k24, k25, k26]
def interned : List (Array UInt16 × Addr) := []
def slotsUsed : Nat := 10
def theMethod : MethodId := ⟨1, 1⟩
def args0 : Array Value := #[.int 5, .int 6, .int 7]
def aboutOver (below : List Frame) : State where
  vm := { classes := classes, interned := interned.toArray }
  heap := heap
  slotsUsed := slotsUsed
  threads := #[{ frames := .invoking theMethod args0 :: below }]
def below0 : List Frame := [.native { method := ⟨0, 0⟩, args := #[] }]
def about1 : State := aboutOver below0
def p0 : Program := .bare "" "" ""
def e0 : Env := launch0.env 0 0 0
theorem w_frames : about1.frames = Frame.invoking theMethod args0 :: below0 := rfl
set_option maxRecDepth 65536 in
theorem w_args : argsFit about1.vm theMethod args0 = true := by decide +kernel
set_option maxRecDepth 65536 in
theorem w_heap : heapFits about1 = true := by decide +kernel
set_option maxRecDepth 65536 in
theorem w_runnable : about1.curStatus? = some .runnable := by decide +kernel
set_option maxRecDepth 65536 in
theorem w_alone : about1.alone = true := by decide +kernel
set_option maxRecDepth 65536 in
theorem w_named : about1.methodNamed? x = some theMethod := by decide +kernel
set_option maxRecDepth 65536 in
theorem w_hears : about1.hears theMethod below0 = true := by decide +kernel
set_option maxRecDepth 65536 in
theorem w_ripe : about1.ripe theMethod args0 below0 = true := by decide +kernel
theorem w_running : about1.status = .running := rfl
set_option maxRecDepth 65536 in
theorem w_room : about1.hasRoom e0.platform room_1 = true :=
  launch0.hasRoom_least _ room_1 (by decide +kernel) (by decide +kernel) (by decide +kernel) (by decide +kernel) (by decide +kernel) (by decide +kernel)
theorem allAtoms_all (ts : List Jvm.Cond) (a : Array Jvm.Value) (st : Jvm.State) : (allAtoms ts).before a st = ts.all (fun c => c.before a st) := by
  induction ts with
  | nil => rfl
  | cons c t ih =>
    show (Jvm.Cond.and c (allAtoms t)).before a st = _
    rw [Jvm.Cond.before_and, ih, List.all_cons]
def words1 : List Jvm.Cond := Jvm.Cond.code x code maxLocals ret :: tables_1
/-- a 'code' word, met by the world's own term for the bytes: nothing is compared byte by byte -/
theorem code_word {y : MethodName} {bytes : ByteArray} {mx : Nat} {rt : Option FieldType} {a : Array Value} {s : State} {m : MethodId} {meth : Method} {c : Code} (h1 : s.methodNamed? y = some m) (h2 : s.vm.method? m = some meth) (h3 : meth.code = some c) (h4 : c.code = bytes)
    (h5 : (c.maxLocals == mx && c.exceptionTable.isEmpty && decide (c.maxStack ≤ mostOperands) && decide (meth.sig.returnType = rt) && !meth.locks && decide (parseMethodDescriptor y.desc = some meth.sig)) = true) : (Jvm.Cond.code y bytes mx rt).before a s = true := by
  simp only [Bool.and_eq_true, beq_iff_eq, Bool.not_eq_true', decide_eq_true_eq] at h5
  obtain ⟨⟨⟨⟨⟨g1, g2⟩, g3⟩, g4⟩, g5⟩, g6⟩ := h5
  simp [Cond.before, Cond.holds, Cond.value, h1, h2, h3, h4, g1, g2, g3, g4, g5, g6]
def isCode : Jvm.Cond → Bool
  | .code _ _ _ _ => true
  | _ => false
theorem all_split {L : List Jvm.Cond} {P : Jvm.Cond → Bool} (h1 : L.all (fun c => isCode c || P c) = true) (h2 : ∀ c ∈ L.filter isCode, P c = true) : L.all P = true := by
  refine List.all_eq_true.mpr fun c hc => ?_
  have h := List.all_eq_true.mp h1 c hc
  rcases Bool.eq_false_or_eq_true (isCode c) with hi | hi
  · exact h2 c (List.mem_filter.mpr ⟨hc, hi⟩)
  · simpa [hi] using h
set_option maxRecDepth 65536 in
theorem w_c0 : (Jvm.Cond.code x code maxLocals ret).before args0 about1 = true := code_word (m := ⟨1, 1⟩) (meth := k1m1) (c := k1c1) (by decide +kernel) rfl rfl rfl (by decide +kernel)
set_option maxRecDepth 65536 in
theorem w_c1 : (Jvm.Cond.code ({ cls := "com/example/asterism/asterism/eac/NameFormNotePinLaw", name := "make", desc := "(ICC)Ljava/lang/String;" } : Jvm.MethodName) method_3_code (3 : Nat) (Option.some (Jvm.ClassFile.FieldType.object "java/lang/String"))).before args0 about1 = true := code_word (m := ⟨1, 2⟩) (meth := k1m2) (c := k1c2) (by decide +kernel) rfl rfl rfl (by decide +kernel)
set_option maxRecDepth 65536 in
theorem w_c2 : (Jvm.Cond.code ({ cls := "java/lang/String", name := "<init>", desc := "([C)V" } : Jvm.MethodName) jdk_42_method_3_code (2 : Nat) (Option.none : Option Jvm.ClassFile.FieldType)).before args0 about1 = true := code_word (m := ⟨7, 1⟩) (meth := k7m1) (c := k7c1) (by decide +kernel) rfl rfl rfl (by decide +kernel)
set_option maxRecDepth 65536 in
theorem w_c3 : (Jvm.Cond.code ({ cls := "java/lang/String", name := "<init>", desc := "([CIILjava/lang/Void;)V" } : Jvm.MethodName) jdk_42_method_149_code (6 : Nat) (Option.none : Option Jvm.ClassFile.FieldType)).before args0 about1 = true := code_word (m := ⟨7, 7⟩) (meth := k7m7) (c := k7c7) (by decide +kernel) rfl rfl rfl (by decide +kernel)
set_option maxRecDepth 65536 in
theorem w_c4 : (Jvm.Cond.code ({ cls := "java/lang/Object", name := "<init>", desc := "()V" } : Jvm.MethodName) object_method_1_code (1 : Nat) (Option.none : Option Jvm.ClassFile.FieldType)).before args0 about1 = true := code_word (m := ⟨0, 0⟩) (meth := k0m0) (c := k0c0) (by decide +kernel) rfl rfl rfl (by decide +kernel)
set_option maxRecDepth 65536 in
theorem w_c5 : (Jvm.Cond.code ({ cls := "java/lang/StringUTF16", name := "compress", desc := "([CII)[B" } : Jvm.MethodName) jdk_52_method_16_code (6 : Nat) (Option.some (Jvm.ClassFile.FieldType.array Jvm.ClassFile.FieldType.byte))).before args0 about1 = true := code_word (m := ⟨8, 2⟩) (meth := k8m2) (c := k8c2) (by decide +kernel) rfl rfl rfl (by decide +kernel)
set_option maxRecDepth 65536 in
theorem w_c6 : (Jvm.Cond.code ({ cls := "java/lang/StringUTF16", name := "compress", desc := "([CI[BII)I" } : Jvm.MethodName) jdk_52_method_21_code (7 : Nat) (Option.some Jvm.ClassFile.FieldType.int)).before args0 about1 = true := code_word (m := ⟨8, 3⟩) (meth := k8m3) (c := k8c3) (by decide +kernel) rfl rfl rfl (by decide +kernel)
set_option maxRecDepth 65536 in
theorem w_c7 : (Jvm.Cond.code ({ cls := "java/lang/StringUTF16", name := "coderFromArrayLen", desc := "([BI)B" } : Jvm.MethodName) jdk_52_method_15_code (2 : Nat) (Option.some Jvm.ClassFile.FieldType.byte)).before args0 about1 = true := code_word (m := ⟨8, 1⟩) (meth := k8m1) (c := k8c1) (by decide +kernel) rfl rfl rfl (by decide +kernel)
set_option maxRecDepth 65536 in
theorem w_c8 : (Jvm.Cond.code ({ cls := "com/example/asterism/asterism/eac/EacCpf$NameForm", name := "<init>", desc := "(Ljava/lang/String;Ljava/lang/String;)V" } : Jvm.MethodName) prog_8_method_1_code (3 : Nat) (Option.none : Option Jvm.ClassFile.FieldType)).before args0 about1 = true := code_word (m := ⟨10, 0⟩) (meth := k10m0) (c := k10c0) (by decide +kernel) rfl rfl rfl (by decide +kernel)
set_option maxRecDepth 65536 in
theorem w_c9 : (Jvm.Cond.code ({ cls := "java/lang/Record", name := "<init>", desc := "()V" } : Jvm.MethodName) jdk_30_method_1_code (1 : Nat) (Option.none : Option Jvm.ClassFile.FieldType)).before args0 about1 = true := code_word (m := ⟨9, 0⟩) (meth := k9m0) (c := k9c0) (by decide +kernel) rfl rfl rfl (by decide +kernel)
set_option maxRecDepth 65536 in
theorem w_c10 : (Jvm.Cond.code ({ cls := "com/example/asterism/asterism/eac/EacCpf$NameForm", name := "note", desc := "()Ljava/lang/String;" } : Jvm.MethodName) prog_8_method_2_code (1 : Nat) (Option.some (Jvm.ClassFile.FieldType.object "java/lang/String"))).before args0 about1 = true := code_word (m := ⟨10, 1⟩) (meth := k10m1) (c := k10c1) (by decide +kernel) rfl rfl rfl (by decide +kernel)
set_option maxRecDepth 65536 in
theorem w_c11 : (Jvm.Cond.code ({ cls := "java/lang/StringBuilder", name := "<init>", desc := "()V" } : Jvm.MethodName) jdk_67_method_1_code (1 : Nat) (Option.none : Option Jvm.ClassFile.FieldType)).before args0 about1 = true := code_word (m := ⟨13, 0⟩) (meth := k13m0) (c := k13c0) (by decide +kernel) rfl rfl rfl (by decide +kernel)
set_option maxRecDepth 65536 in
theorem w_c12 : (Jvm.Cond.code ({ cls := "java/lang/AbstractStringBuilder", name := "<init>", desc := "(I)V" } : Jvm.MethodName) jdk_68_method_2_code (2 : Nat) (Option.none : Option Jvm.ClassFile.FieldType)).before args0 about1 = true := code_word (m := ⟨12, 1⟩) (meth := k12m1) (c := k12c1) (by decide +kernel) rfl rfl rfl (by decide +kernel)
set_option maxRecDepth 65536 in
theorem w_c13 : (Jvm.Cond.code ({ cls := "java/lang/StringBuilder", name := "append", desc := "(Ljava/lang/String;)Ljava/lang/StringBuilder;" } : Jvm.MethodName) jdk_67_method_7_code (2 : Nat) (Option.some (Jvm.ClassFile.FieldType.object "java/lang/StringBuilder"))).before args0 about1 = true := code_word (m := ⟨13, 1⟩) (meth := k13m1) (c := k13c1) (by decide +kernel) rfl rfl rfl (by decide +kernel)
set_option maxRecDepth 65536 in
theorem w_c14 : (Jvm.Cond.code ({ cls := "java/lang/AbstractStringBuilder", name := "append", desc := "(Ljava/lang/String;)Ljava/lang/AbstractStringBuilder;" } : Jvm.MethodName) jdk_68_method_22_code (3 : Nat) (Option.some (Jvm.ClassFile.FieldType.object "java/lang/AbstractStringBuilder"))).before args0 about1 = true := code_word (m := ⟨12, 4⟩) (meth := k12m4) (c := k12c4) (by decide +kernel) rfl rfl rfl (by decide +kernel)
set_option maxRecDepth 65536 in
theorem w_c15 : (Jvm.Cond.code ({ cls := "java/lang/String", name := "length", desc := "()I" } : Jvm.MethodName) jdk_42_method_54_code (1 : Nat) (Option.some Jvm.ClassFile.FieldType.int)).before args0 about1 = true := code_word (m := ⟨7, 3⟩) (meth := k7m3) (c := k7c3) (by decide +kernel) rfl rfl rfl (by decide +kernel)
set_option maxRecDepth 65536 in
theorem w_c16 : (Jvm.Cond.code ({ cls := "java/lang/String", name := "coder", desc := "()B" } : Jvm.MethodName) jdk_42_method_152_code (1 : Nat) (Option.some Jvm.ClassFile.FieldType.byte)).before args0 about1 = true := code_word (m := ⟨7, 10⟩) (meth := k7m10) (c := k7c10) (by decide +kernel) rfl rfl rfl (by decide +kernel)
set_option maxRecDepth 65536 in
theorem w_c17 : (Jvm.Cond.code ({ cls := "java/lang/AbstractStringBuilder", name := "ensureCapacityInternal", desc := "(I)V" } : Jvm.MethodName) jdk_68_method_9_code (3 : Nat) (Option.none : Option Jvm.ClassFile.FieldType)).before args0 about1 = true := code_word (m := ⟨12, 3⟩) (meth := k12m3) (c := k12c3) (by decide +kernel) rfl rfl rfl (by decide +kernel)
set_option maxRecDepth 65536 in
theorem w_c18 : (Jvm.Cond.code ({ cls := "java/lang/AbstractStringBuilder", name := "putStringAt", desc := "(ILjava/lang/String;)V" } : Jvm.MethodName) jdk_68_method_73_code (3 : Nat) (Option.none : Option Jvm.ClassFile.FieldType)).before args0 about1 = true := code_word (m := ⟨12, 8⟩) (meth := k12m8) (c := k12c8) (by decide +kernel) rfl rfl rfl (by decide +kernel)
set_option maxRecDepth 65536 in
theorem w_c19 : (Jvm.Cond.code ({ cls := "java/lang/AbstractStringBuilder", name := "inflateIfNeededFor", desc := "(Ljava/lang/String;)V" } : Jvm.MethodName) jdk_68_method_71_code (2 : Nat) (Option.none : Option Jvm.ClassFile.FieldType)).before args0 about1 = true := code_word (m := ⟨12, 7⟩) (meth := k12m7) (c := k12c7) (by decide +kernel) rfl rfl rfl (by decide +kernel)
set_option maxRecDepth 65536 in
theorem w_c20 : (Jvm.Cond.code ({ cls := "java/lang/String", name := "getBytes", desc := "([BIB)V" } : Jvm.MethodName) jdk_42_method_147_code (4 : Nat) (Option.none : Option Jvm.ClassFile.FieldType)).before args0 about1 = true := code_word (m := ⟨7, 6⟩) (meth := k7m6) (c := k7c6) (by decide +kernel) rfl rfl rfl (by decide +kernel)
set_option maxRecDepth 65536 in
theorem w_c21 : (Jvm.Cond.code ({ cls := "java/lang/StringBuilder", name := "toString", desc := "()Ljava/lang/String;" } : Jvm.MethodName) jdk_67_method_42_code (1 : Nat) (Option.some (Jvm.ClassFile.FieldType.object "java/lang/String"))).before args0 about1 = true := code_word (m := ⟨13, 2⟩) (meth := k13m2) (c := k13c2) (by decide +kernel) rfl rfl rfl (by decide +kernel)
set_option maxRecDepth 65536 in
theorem w_c22 : (Jvm.Cond.code ({ cls := "java/lang/String", name := "<init>", desc := "(Ljava/lang/StringBuilder;)V" } : Jvm.MethodName) jdk_42_method_53_code (2 : Nat) (Option.none : Option Jvm.ClassFile.FieldType)).before args0 about1 = true := code_word (m := ⟨7, 2⟩) (meth := k7m2) (c := k7c2) (by decide +kernel) rfl rfl rfl (by decide +kernel)
set_option maxRecDepth 65536 in
theorem w_c23 : (Jvm.Cond.code ({ cls := "java/lang/String", name := "<init>", desc := "(Ljava/lang/AbstractStringBuilder;Ljava/lang/Void;)V" } : Jvm.MethodName) jdk_42_method_150_code (5 : Nat) (Option.none : Option Jvm.ClassFile.FieldType)).before args0 about1 = true := code_word (m := ⟨7, 8⟩) (meth := k7m8) (c := k7c8) (by decide +kernel) rfl rfl rfl (by decide +kernel)
set_option maxRecDepth 65536 in
theorem w_c24 : (Jvm.Cond.code ({ cls := "java/lang/AbstractStringBuilder", name := "getValue", desc := "()[B" } : Jvm.MethodName) jdk_68_method_64_code (1 : Nat) (Option.some (Jvm.ClassFile.FieldType.array Jvm.ClassFile.FieldType.byte))).before args0 about1 = true := code_word (m := ⟨12, 5⟩) (meth := k12m5) (c := k12c5) (by decide +kernel) rfl rfl rfl (by decide +kernel)
set_option maxRecDepth 65536 in
theorem w_c25 : (Jvm.Cond.code ({ cls := "java/lang/StringBuilder", name := "length", desc := "()I" } : Jvm.MethodName) jdk_67_method_93_code (1 : Nat) (Option.some Jvm.ClassFile.FieldType.int)).before args0 about1 = true := code_word (m := ⟨13, 3⟩) (meth := k13m3) (c := k13c3) (by decide +kernel) rfl rfl rfl (by decide +kernel)
set_option maxRecDepth 65536 in
theorem w_c26 : (Jvm.Cond.code ({ cls := "java/lang/AbstractStringBuilder", name := "length", desc := "()I" } : Jvm.MethodName) jdk_68_method_6_code (1 : Nat) (Option.some Jvm.ClassFile.FieldType.int)).before args0 about1 = true := code_word (m := ⟨12, 2⟩) (meth := k12m2) (c := k12c2) (by decide +kernel) rfl rfl rfl (by decide +kernel)
set_option maxRecDepth 65536 in
theorem w_c27 : (Jvm.Cond.code ({ cls := "java/lang/AbstractStringBuilder", name := "isLatin1", desc := "()Z" } : Jvm.MethodName) jdk_68_method_68_code (1 : Nat) (Option.some Jvm.ClassFile.FieldType.boolean)).before args0 about1 = true := code_word (m := ⟨12, 6⟩) (meth := k12m6) (c := k12c6) (by decide +kernel) rfl rfl rfl (by decide +kernel)
set_option maxRecDepth 65536 in
theorem w_c28 : (Jvm.Cond.code ({ cls := "java/util/Arrays", name := "copyOfRange", desc := "([BII)[B" } : Jvm.MethodName) jdk_65_method_132_code (3 : Nat) (Option.some (Jvm.ClassFile.FieldType.array Jvm.ClassFile.FieldType.byte))).before args0 about1 = true := code_word (m := ⟨15, 2⟩) (meth := k15m2) (c := k15c2) (by decide +kernel) rfl rfl rfl (by decide +kernel)
set_option maxRecDepth 65536 in
theorem w_c29 : (Jvm.Cond.code ({ cls := "java/util/Arrays", name := "copyOfRangeByte", desc := "([BII)[B" } : Jvm.MethodName) jdk_65_method_133_code (5 : Nat) (Option.some (Jvm.ClassFile.FieldType.array Jvm.ClassFile.FieldType.byte))).before args0 about1 = true := code_word (m := ⟨15, 3⟩) (meth := k15m3) (c := k15c3) (by decide +kernel) rfl rfl rfl (by decide +kernel)
set_option maxRecDepth 65536 in
theorem w_c30 : (Jvm.Cond.code ({ cls := "java/util/Arrays", name := "checkLength", desc := "(II)V" } : Jvm.MethodName) jdk_65_method_131_code (2 : Nat) (Option.none : Option Jvm.ClassFile.FieldType)).before args0 about1 = true := code_word (m := ⟨15, 1⟩) (meth := k15m1) (c := k15c1) (by decide +kernel) rfl rfl rfl (by decide +kernel)
set_option maxRecDepth 65536 in
theorem w_c31 : (Jvm.Cond.code ({ cls := "java/lang/Math", name := "min", desc := "(II)I" } : Jvm.MethodName) jdk_29_method_69_code (2 : Nat) (Option.some Jvm.ClassFile.FieldType.int)).before args0 about1 = true := code_word (m := ⟨16, 1⟩) (meth := k16m1) (c := k16c1) (by decide +kernel) rfl rfl rfl (by decide +kernel)
set_option maxRecDepth 65536 in
theorem w_c32 : (Jvm.Cond.code ({ cls := "com/example/asterism/asterism/eac/NameFormNotePinLaw", name := "ok", desc := "(Ljava/lang/String;IIICCCC)Z" } : Jvm.MethodName) method_5_code (8 : Nat) (Option.some Jvm.ClassFile.FieldType.boolean)).before args0 about1 = true := code_word (m := ⟨1, 4⟩) (meth := k1m4) (c := k1c4) (by decide +kernel) rfl rfl rfl (by decide +kernel)
set_option maxRecDepth 65536 in
theorem w_c33 : (Jvm.Cond.code ({ cls := "java/lang/String", name := "charAt", desc := "(I)C" } : Jvm.MethodName) jdk_42_method_56_code (2 : Nat) (Option.some Jvm.ClassFile.FieldType.char)).before args0 about1 = true := code_word (m := ⟨7, 4⟩) (meth := k7m4) (c := k7c4) (by decide +kernel) rfl rfl rfl (by decide +kernel)
set_option maxRecDepth 65536 in
theorem w_c34 : (Jvm.Cond.code ({ cls := "java/lang/String", name := "isLatin1", desc := "()Z" } : Jvm.MethodName) jdk_42_method_154_code (1 : Nat) (Option.some Jvm.ClassFile.FieldType.boolean)).before args0 about1 = true := code_word (m := ⟨7, 11⟩) (meth := k7m11) (c := k7c11) (by decide +kernel) rfl rfl rfl (by decide +kernel)
set_option maxRecDepth 65536 in
theorem w_c35 : (Jvm.Cond.code ({ cls := "java/lang/StringLatin1", name := "charAt", desc := "([BI)C" } : Jvm.MethodName) jdk_43_method_2_code (2 : Nat) (Option.some Jvm.ClassFile.FieldType.char)).before args0 about1 = true := code_word (m := ⟨17, 1⟩) (meth := k17m1) (c := k17c1) (by decide +kernel) rfl rfl rfl (by decide +kernel)
set_option maxRecDepth 65536 in
theorem w_c36 : (Jvm.Cond.code ({ cls := "java/lang/String", name := "checkIndex", desc := "(II)V" } : Jvm.MethodName) jdk_42_method_155_code (2 : Nat) (Option.none : Option Jvm.ClassFile.FieldType)).before args0 about1 = true := code_word (m := ⟨7, 12⟩) (meth := k7m12) (c := k7c12) (by decide +kernel) rfl rfl rfl (by decide +kernel)
set_option maxRecDepth 65536 in
theorem w_c37 : (Jvm.Cond.code ({ cls := "jdk/internal/util/Preconditions", name := "checkIndex", desc := "(IILjava/util/function/BiFunction;)I" } : Jvm.MethodName) jdk_41_method_11_code (3 : Nat) (Option.some Jvm.ClassFile.FieldType.int)).before args0 about1 = true := code_word (m := ⟨18, 1⟩) (meth := k18m1) (c := k18c1) (by decide +kernel) rfl rfl rfl (by decide +kernel)
set_option maxRecDepth 65536 in
theorem w_c38 : (Jvm.Cond.code ({ cls := "com/example/asterism/asterism/eac/NameFormNotePinLaw", name := "expected", desc := "(IICCCC)C" } : Jvm.MethodName) method_4_code (7 : Nat) (Option.some Jvm.ClassFile.FieldType.char)).before args0 about1 = true := code_word (m := ⟨1, 3⟩) (meth := k1m3) (c := k1c3) (by decide +kernel) rfl rfl rfl (by decide +kernel)
set_option maxRecDepth 65536 in
theorem w_c39 : (Jvm.Cond.code ({ cls := "java/lang/String", name := "valueOf", desc := "(C)Ljava/lang/String;" } : Jvm.MethodName) jdk_42_method_139_code (1 : Nat) (Option.some (Jvm.ClassFile.FieldType.object "java/lang/String"))).before args0 about1 = true := code_word (m := ⟨7, 5⟩) (meth := k7m5) (c := k7c5) (by decide +kernel) rfl rfl rfl (by decide +kernel)
set_option maxRecDepth 65536 in
theorem w_c40 : (Jvm.Cond.code ({ cls := "java/lang/StringLatin1", name := "canEncode", desc := "(C)Z" } : Jvm.MethodName) jdk_43_method_3_code (1 : Nat) (Option.some Jvm.ClassFile.FieldType.boolean)).before args0 about1 = true := code_word (m := ⟨17, 2⟩) (meth := k17m2) (c := k17c2) (by decide +kernel) rfl rfl rfl (by decide +kernel)
set_option maxRecDepth 65536 in
theorem w_c41 : (Jvm.Cond.code ({ cls := "java/lang/StringLatin1", name := "toBytes", desc := "(C)[B" } : Jvm.MethodName) jdk_43_method_46_code (1 : Nat) (Option.some (Jvm.ClassFile.FieldType.array Jvm.ClassFile.FieldType.byte))).before args0 about1 = true := code_word (m := ⟨17, 3⟩) (meth := k17m3) (c := k17c3) (by decide +kernel) rfl rfl rfl (by decide +kernel)
set_option maxRecDepth 65536 in
theorem w_c42 : (Jvm.Cond.code ({ cls := "java/lang/String", name := "<init>", desc := "([BB)V" } : Jvm.MethodName) jdk_42_method_151_code (3 : Nat) (Option.none : Option Jvm.ClassFile.FieldType)).before args0 about1 = true := code_word (m := ⟨7, 9⟩) (meth := k7m9) (c := k7c9) (by decide +kernel) rfl rfl rfl (by decide +kernel)
def codes1 : List Jvm.Cond := [Jvm.Cond.code x code maxLocals ret, Jvm.Cond.code ({ cls := "com/example/asterism/asterism/eac/NameFormNotePinLaw", name := "make", desc := "(ICC)Ljava/lang/String;" } : Jvm.MethodName) method_3_code (3 : Nat) (Option.some (Jvm.ClassFile.FieldType.object "java/lang/String")), Jvm.Cond.code ({ cls := "java/lang/String", name := "<init>", desc := "([C)V" } : Jvm.MethodName) jdk_42_method_3_code (2 : Nat) (Option.none : Option Jvm.ClassFile.FieldType), Jvm.Cond.code ({ cls := "java/lang/String", name := "<init>", desc := "([CIILjava/lang/Void;)V" } : Jvm.MethodName) jdk_42_method_149_code (6 : Nat) (Option.none : Option Jvm.ClassFile.FieldType), Jvm.Cond.code ({ cls := "java/lang/Object", name := "<init>", desc := "()V" } : Jvm.MethodName) object_method_1_code (1 : Nat) (Option.none : Option Jvm.ClassFile.FieldType), Jvm.Cond.code ({ cls := "java/lang/StringUTF16", name := "compress", desc := "([CII)[B" } : Jvm.MethodName) jdk_52_method_16_code (6 : Nat) (Option.some (Jvm.ClassFile.FieldType.array Jvm.ClassFile.FieldType.byte)), Jvm.Cond.code ({ cls := "java/lang/StringUTF16", name := "compress", desc := "([CI[BII)I" } : Jvm.MethodName) jdk_52_method_21_code (7 : Nat) (Option.some Jvm.ClassFile.FieldType.int), Jvm.Cond.code ({ cls := "java/lang/StringUTF16", name := "coderFromArrayLen", desc := "([BI)B" } : Jvm.MethodName) jdk_52_method_15_code (2 : Nat) (Option.some Jvm.ClassFile.FieldType.byte), Jvm.Cond.code ({ cls := "com/example/asterism/asterism/eac/EacCpf$NameForm", name := "<init>", desc := "(Ljava/lang/String;Ljava/lang/String;)V" } : Jvm.MethodName) prog_8_method_1_code (3 : Nat) (Option.none : Option Jvm.ClassFile.FieldType), Jvm.Cond.code ({ cls := "java/lang/Record", name := "<init>", desc := "()V" } : Jvm.MethodName) jdk_30_method_1_code (1 : Nat) (Option.none : Option Jvm.ClassFile.FieldType), Jvm.Cond.code ({ cls := "com/example/asterism/asterism/eac/EacCpf$NameForm", name := "note", desc := "()Ljava/lang/String;" } : Jvm.MethodName) prog_8_method_2_code (1 : Nat) (Option.some (Jvm.ClassFile.FieldType.object "java/lang/String")), Jvm.Cond.code ({ cls := "java/lang/StringBuilder", name := "<init>", desc := "()V" } : Jvm.MethodName) jdk_67_method_1_code (1 : Nat) (Option.none : Option Jvm.ClassFile.FieldType), Jvm.Cond.code ({ cls := "java/lang/AbstractStringBuilder", name := "<init>", desc := "(I)V" } : Jvm.MethodName) jdk_68_method_2_code (2 : Nat) (Option.none : Option Jvm.ClassFile.FieldType), Jvm.Cond.code ({ cls := "java/lang/StringBuilder", name := "append", desc := "(Ljava/lang/String;)Ljava/lang/StringBuilder;" } : Jvm.MethodName) jdk_67_method_7_code (2 : Nat) (Option.some (Jvm.ClassFile.FieldType.object "java/lang/StringBuilder")), Jvm.Cond.code ({ cls := "java/lang/AbstractStringBuilder", name := "append", desc := "(Ljava/lang/String;)Ljava/lang/AbstractStringBuilder;" } : Jvm.MethodName) jdk_68_method_22_code (3 : Nat) (Option.some (Jvm.ClassFile.FieldType.object "java/lang/AbstractStringBuilder")), Jvm.Cond.code ({ cls := "java/lang/String", name := "length", desc := "()I" } : Jvm.MethodName) jdk_42_method_54_code (1 : Nat) (Option.some Jvm.ClassFile.FieldType.int), Jvm.Cond.code ({ cls := "java/lang/String", name := "coder", desc := "()B" } : Jvm.MethodName) jdk_42_method_152_code (1 : Nat) (Option.some Jvm.ClassFile.FieldType.byte), Jvm.Cond.code ({ cls := "java/lang/AbstractStringBuilder", name := "ensureCapacityInternal", desc := "(I)V" } : Jvm.MethodName) jdk_68_method_9_code (3 : Nat) (Option.none : Option Jvm.ClassFile.FieldType), Jvm.Cond.code ({ cls := "java/lang/AbstractStringBuilder", name := "putStringAt", desc := "(ILjava/lang/String;)V" } : Jvm.MethodName) jdk_68_method_73_code (3 : Nat) (Option.none : Option Jvm.ClassFile.FieldType), Jvm.Cond.code ({ cls := "java/lang/AbstractStringBuilder", name := "inflateIfNeededFor", desc := "(Ljava/lang/String;)V" } : Jvm.MethodName) jdk_68_method_71_code (2 : Nat) (Option.none : Option Jvm.ClassFile.FieldType), Jvm.Cond.code ({ cls := "java/lang/String", name := "getBytes", desc := "([BIB)V" } : Jvm.MethodName) jdk_42_method_147_code (4 : Nat) (Option.none : Option Jvm.ClassFile.FieldType), Jvm.Cond.code ({ cls := "java/lang/StringBuilder", name := "toString", desc := "()Ljava/lang/String;" } : Jvm.MethodName) jdk_67_method_42_code (1 : Nat) (Option.some (Jvm.ClassFile.FieldType.object "java/lang/String")), Jvm.Cond.code ({ cls := "java/lang/String", name := "<init>", desc := "(Ljava/lang/StringBuilder;)V" } : Jvm.MethodName) jdk_42_method_53_code (2 : Nat) (Option.none : Option Jvm.ClassFile.FieldType), Jvm.Cond.code ({ cls := "java/lang/String", name := "<init>", desc := "(Ljava/lang/AbstractStringBuilder;Ljava/lang/Void;)V" } : Jvm.MethodName) jdk_42_method_150_code (5 : Nat) (Option.none : Option Jvm.ClassFile.FieldType), Jvm.Cond.code ({ cls := "java/lang/AbstractStringBuilder", name := "getValue", desc := "()[B" } : Jvm.MethodName) jdk_68_method_64_code (1 : Nat) (Option.some (Jvm.ClassFile.FieldType.array Jvm.ClassFile.FieldType.byte)), Jvm.Cond.code ({ cls := "java/lang/StringBuilder", name := "length", desc := "()I" } : Jvm.MethodName) jdk_67_method_93_code (1 : Nat) (Option.some Jvm.ClassFile.FieldType.int), Jvm.Cond.code ({ cls := "java/lang/AbstractStringBuilder", name := "length", desc := "()I" } : Jvm.MethodName) jdk_68_method_6_code (1 : Nat) (Option.some Jvm.ClassFile.FieldType.int), Jvm.Cond.code ({ cls := "java/lang/AbstractStringBuilder", name := "isLatin1", desc := "()Z" } : Jvm.MethodName) jdk_68_method_68_code (1 : Nat) (Option.some Jvm.ClassFile.FieldType.boolean), Jvm.Cond.code ({ cls := "java/util/Arrays", name := "copyOfRange", desc := "([BII)[B" } : Jvm.MethodName) jdk_65_method_132_code (3 : Nat) (Option.some (Jvm.ClassFile.FieldType.array Jvm.ClassFile.FieldType.byte)), Jvm.Cond.code ({ cls := "java/util/Arrays", name := "copyOfRangeByte", desc := "([BII)[B" } : Jvm.MethodName) jdk_65_method_133_code (5 : Nat) (Option.some (Jvm.ClassFile.FieldType.array Jvm.ClassFile.FieldType.byte)), Jvm.Cond.code ({ cls := "java/util/Arrays", name := "checkLength", desc := "(II)V" } : Jvm.MethodName) jdk_65_method_131_code (2 : Nat) (Option.none : Option Jvm.ClassFile.FieldType), Jvm.Cond.code ({ cls := "java/lang/Math", name := "min", desc := "(II)I" } : Jvm.MethodName) jdk_29_method_69_code (2 : Nat) (Option.some Jvm.ClassFile.FieldType.int), Jvm.Cond.code ({ cls := "com/example/asterism/asterism/eac/NameFormNotePinLaw", name := "ok", desc := "(Ljava/lang/String;IIICCCC)Z" } : Jvm.MethodName) method_5_code (8 : Nat) (Option.some Jvm.ClassFile.FieldType.boolean), Jvm.Cond.code ({ cls := "java/lang/String", name := "charAt", desc := "(I)C" } : Jvm.MethodName) jdk_42_method_56_code (2 : Nat) (Option.some Jvm.ClassFile.FieldType.char), Jvm.Cond.code ({ cls := "java/lang/String", name := "isLatin1", desc := "()Z" } : Jvm.MethodName) jdk_42_method_154_code (1 : Nat) (Option.some Jvm.ClassFile.FieldType.boolean), Jvm.Cond.code ({ cls := "java/lang/StringLatin1", name := "charAt", desc := "([BI)C" } : Jvm.MethodName) jdk_43_method_2_code (2 : Nat) (Option.some Jvm.ClassFile.FieldType.char), Jvm.Cond.code ({ cls := "java/lang/String", name := "checkIndex", desc := "(II)V" } : Jvm.MethodName) jdk_42_method_155_code (2 : Nat) (Option.none : Option Jvm.ClassFile.FieldType), Jvm.Cond.code ({ cls := "jdk/internal/util/Preconditions", name := "checkIndex", desc := "(IILjava/util/function/BiFunction;)I" } : Jvm.MethodName) jdk_41_method_11_code (3 : Nat) (Option.some Jvm.ClassFile.FieldType.int), Jvm.Cond.code ({ cls := "com/example/asterism/asterism/eac/NameFormNotePinLaw", name := "expected", desc := "(IICCCC)C" } : Jvm.MethodName) method_4_code (7 : Nat) (Option.some Jvm.ClassFile.FieldType.char), Jvm.Cond.code ({ cls := "java/lang/String", name := "valueOf", desc := "(C)Ljava/lang/String;" } : Jvm.MethodName) jdk_42_method_139_code (1 : Nat) (Option.some (Jvm.ClassFile.FieldType.object "java/lang/String")), Jvm.Cond.code ({ cls := "java/lang/StringLatin1", name := "canEncode", desc := "(C)Z" } : Jvm.MethodName) jdk_43_method_3_code (1 : Nat) (Option.some Jvm.ClassFile.FieldType.boolean), Jvm.Cond.code ({ cls := "java/lang/StringLatin1", name := "toBytes", desc := "(C)[B" } : Jvm.MethodName) jdk_43_method_46_code (1 : Nat) (Option.some (Jvm.ClassFile.FieldType.array Jvm.ClassFile.FieldType.byte)), Jvm.Cond.code ({ cls := "java/lang/String", name := "<init>", desc := "([BB)V" } : Jvm.MethodName) jdk_42_method_151_code (3 : Nat) (Option.none : Option Jvm.ClassFile.FieldType)]
set_option maxRecDepth 65536 in
theorem codes_eq : words1.filter isCode = codes1 := rfl
theorem w_codes : ∀ c ∈ words1.filter isCode, c.before args0 about1 = true := by
  rw [codes_eq]
  intro c hc
  simp only [codes1, List.mem_cons, List.not_mem_nil, or_false] at hc
  rcases hc with rfl | rfl | rfl | rfl | rfl | rfl | rfl | rfl | rfl | rfl | rfl | rfl | rfl | rfl | rfl | rfl | rfl | rfl | rfl | rfl | rfl | rfl | rfl | rfl | rfl | rfl | rfl | rfl | rfl | rfl | rfl | rfl | rfl | rfl | rfl | rfl | rfl | rfl | rfl | rfl | rfl | rfl | rfl
  · exact w_c0
  · exact w_c1
  · exact w_c2
  · exact w_c3
  · exact w_c4
  · exact w_c5
  · exact w_c6
  · exact w_c7
  · exact w_c8
  · exact w_c9
  · exact w_c10
  · exact w_c11
  · exact w_c12
  · exact w_c13
  · exact w_c14
  · exact w_c15
  · exact w_c16
  · exact w_c17
  · exact w_c18
  · exact w_c19
  · exact w_c20
  · exact w_c21
  · exact w_c22
  · exact w_c23
  · exact w_c24
  · exact w_c25
  · exact w_c26
  · exact w_c27
  · exact w_c28
  · exact w_c29
  · exact w_c30
  · exact w_c31
  · exact w_c32
  · exact w_c33
  · exact w_c34
  · exact w_c35
  · exact w_c36
  · exact w_c37
  · exact w_c38
  · exact w_c39
  · exact w_c40
  · exact w_c41
  · exact w_c42
set_option maxRecDepth 65536 in
theorem w_t1 : (words1.take 24).all (fun c => isCode c || c.before args0 about1) = true := by decide +kernel
set_option maxRecDepth 65536 in
theorem w_t2 : ((words1.drop 24).take 24).all (fun c => isCode c || c.before args0 about1) = true := by decide +kernel
set_option maxRecDepth 65536 in
theorem w_t3 : (((words1.drop 24).drop 24).take 24).all (fun c => isCode c || c.before args0 about1) = true := by decide +kernel
set_option maxRecDepth 65536 in
theorem w_t4 : ((((words1.drop 24).drop 24).drop 24).take 24).all (fun c => isCode c || c.before args0 about1) = true := by decide +kernel
set_option maxRecDepth 65536 in
theorem w_t5 : (((((words1.drop 24).drop 24).drop 24).drop 24).take 24).all (fun c => isCode c || c.before args0 about1) = true := by decide +kernel
set_option maxRecDepth 65536 in
theorem w_t6 : ((((((words1.drop 24).drop 24).drop 24).drop 24).drop 24).take 24).all (fun c => isCode c || c.before args0 about1) = true := by decide +kernel
set_option maxRecDepth 65536 in
theorem w_t7 : (((((((words1.drop 24).drop 24).drop 24).drop 24).drop 24).drop 24).take 24).all (fun c => isCode c || c.before args0 about1) = true := by decide +kernel
set_option maxRecDepth 65536 in
theorem w_t8 : ((((((((words1.drop 24).drop 24).drop 24).drop 24).drop 24).drop 24).drop 24).take 24).all (fun c => isCode c || c.before args0 about1) = true := by decide +kernel
set_option maxRecDepth 65536 in
theorem w_t9 : ((((((((words1.drop 24).drop 24).drop 24).drop 24).drop 24).drop 24).drop 24).drop 24).all (fun c => isCode c || c.before args0 about1) = true := by decide +kernel
theorem w_tables : (allAtoms (Jvm.Cond.code x code maxLocals ret :: tables_1)).before args0 about1 = true := by
  rw [allAtoms_all]
  show words1.all (fun c => c.before args0 about1) = true
  refine all_split ?_ w_codes
  rw [← List.take_append_drop 24 words1, List.all_append, w_t1, ← List.take_append_drop 24 (words1.drop 24), List.all_append, w_t2, ← List.take_append_drop 24 ((words1.drop 24).drop 24), List.all_append, w_t3, ← List.take_append_drop 24 (((words1.drop 24).drop 24).drop 24), List.all_append, w_t4, ← List.take_append_drop 24 ((((words1.drop 24).drop 24).drop 24).drop 24), List.all_append, w_t5, ← List.take_append_drop 24 (((((words1.drop 24).drop 24).drop 24).drop 24).drop 24), List.all_append, w_t6, ← List.take_append_drop 24 ((((((words1.drop 24).drop 24).drop 24).drop 24).drop 24).drop 24), List.all_append, w_t7, ← List.take_append_drop 24 (((((((words1.drop 24).drop 24).drop 24).drop 24).drop 24).drop 24).drop 24), List.all_append, w_t8, w_t9]
  rfl
set_option maxRecDepth 65536 in
theorem w_rest : rest_1_c.before args0 about1 = true := by decide +kernel
set_option maxRecDepth 65536 in
theorem w_case : (Jvm.Cond.and given_1 narrow_1).before args0 about1 = true := by decide +kernel
set_option maxRecDepth 65536 in
theorem w_consts : constsHeld consts_1 about1 := Jvm.Lit.constsHeldB_iff.mp (by decide +kernel)
theorem w_applies : (headSpec (Jvm.Cond.code x code maxLocals ret :: tables_1) room_1).applies x e0.platform about1 = true :=
  (Spec.applies_iff w_frames).mpr ⟨w_running, w_runnable, w_alone, w_named, w_hears, w_ripe, w_room, w_tables⟩
theorem atStart : AtStart classFile x code maxLocals ret World_1 tables_1 room_1 Calls_1 rest_1 Pre_1 launch0 p0 e0 about1 theMethod args0 below0 :=
  ⟨lists_1, trivial, launch0.admits_env _ _ _, launch0.least_env, fairChoices_fair.cas, fairChoices_fair.clock, w_frames, w_args, w_heap, w_applies, ⟨w_consts, trivial⟩, w_rest, w_case⟩
end start1
theorem witness_1 : WitnessClaimed_1 := ⟨start1.p0, start1.e0, start1.about1, start1.theMethod, start1.args0, start1.below0, start1.atStart⟩
end Jvm.Pilot.@@N@@
