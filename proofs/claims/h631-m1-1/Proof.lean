import JvmDerived
import JvmDerived.Pilot.@@N@@Statement
import JvmDerived.Pilot.@@N@@Code
set_option linter.unusedVariables false
set_option linter.unusedSimpArgs false
set_option maxRecDepth 65536
set_option maxHeartbeats 40000000
namespace Jvm.S9
open Sem ClassFile Op Lib Jvm.Stand Jvm.Free Jvm.LawKit Jvm.RoadKit
def Str (Z : State) (h : Heap) (x t : Addr) (kb : ClassId) (cs : List Int32) : Prop :=
  Exa Z h x "java/lang/String" ∧ Fld Z h x "java/lang/String" "value" "[B" (.ref t) ∧ Fld Z h x "java/lang/String" "coder" "B" (.int 0) ∧ Arv Z h t kb .byte (Int32.ofNat cs.length) (cs.map fun c => Value.int (c.toInt8.toInt32)) (.int 0) ∧ (∀ c ∈ cs, ¬ c < 0 ∧ ¬ (255 : Int32) < c) ∧ cs.length ≤ 4000
theorem Str.keep {Z : State} {h h' : Heap} {x t : Addr} {kb : ClassId} {cs : List Int32} {ws : List Addr} (F : Str Z h x t kb cs) (K : Keep h h' ws) (q1 : x ∉ ws) (q2 : t ∉ ws) : Str Z h' x t kb cs :=
  ⟨F.1.keep K, F.2.1.keep K q1, F.2.2.1.keep K q1, F.2.2.2.1.keep K q2, F.2.2.2.2⟩
theorem Str.lt {Z : State} {h : Heap} {x t : Addr} {kb : ClassId} {cs : List Int32} (F : Str Z h x t kb cs) : x < h.size := F.1.lt
theorem Str.ltb {Z : State} {h : Heap} {x t : Addr} {kb : ClassId} {cs : List Int32} (F : Str Z h x t kb cs) : t < h.size := F.2.2.2.1.lt
end Jvm.S9
namespace Jvm.Y9
open Sem ClassFile Op Lib Jvm.Stand Jvm.Free Jvm.LawKit Jvm.RoadKit
section Base
variable {p : Program} {l : Launch} {e : Env} {R : Room} {s : State} {m : MethodId} {args : Array Value} {below : List Frame} {meth : Method} {c : Code} {T : State} {h : Heap} {n0 k n : Nat} {Z : State} {a0 : Array Value}
def On (p : Program) (l : Launch) (e : Env) (R : Room) (s : State) (m : MethodId) (args : Array Value) (below : List Frame) (meth : Method) (c : Code) (n0 : Nat) (T : State) (h : Heap) (k n : Nat) : Prop :=
  ∃ locs, Stand p l e R s m args below meth c T locs k n ∧ T.heap = h ∧ Fr n0 locs
def Aim (p : Program) (e : Env) (below : List Frame) (s : State) (CC SS n0 : Nat) (Q : Option Value → Heap → Prop) (T : State) (g : JFrame) : Prop :=
  ∃ s₂ o, Steps p.tables e below (T.setTop g) s₂ ∧ s₂.status = .running ∧ Ended s₂ below o ∧ ∃ v L, o = .returned v ∧ (Q v s₂.heap ∧ Fr n0 L) ∧ FrameEnd s o s₂ L CC SS
def Con (l : Launch) (Z : State) (y : MethodName) (bytes : ByteArray) (maxL : Nat) (ret : Option FieldType) (rm : Room) (n0 : Nat) (as' : Array Value) (h0 : Heap) (Q : Option Value → Heap → Prop) : Prop :=
  ∀ ws, MetFree l y (head1 (Cond.code y bytes maxL ret :: ws) rm) (fun a U => a = as' ∧ Z.Warmed39 U.vm ∧ U.heap = h0) (fun _ _ _ _ _ => True) (fun _ U o U' => ∃ v L, o = .returned v ∧ (Q v U'.heap ∧ Fr n0 L) ∧ FrameEnd U o U' L rm.cells rm.slots)
def Bk (l : Launch) (R : Room) (p : Program) (e : Env) (below : List Frame) (s : State) (sargs : Array Value) (y : MethodName) (len W : Nat) (as' : Array Value) (h : Heap) (dc ds n0 : Nat) (Q : Option Value → Heap → Prop) : Prop :=
  Back l R p e below s sargs y len W (fun A a => a = as' ∧ A.U.heap = h ∧ A.cells + dc ≤ R.cells ∧ A.slots + ds ≤ R.slots) (fun A _ v B => ∃ L, (Q v B.U.heap ∧ Fr n0 L) ∧ B.locs = A.locs ++ L ∧ B.cells = A.cells + dc ∧ B.slots = A.slots + ds)
variable {CC SS : Nat} {Q : Option Value → Heap → Prop}
theorem On.here (P : On p l e R s m args below meth c n0 T h k n) : At T m c below := by obtain ⟨_, X, -⟩ := P; exact X.here
theorem On.more {k' n' : Nat} (P : On p l e R s m args below meth c n0 T h k n) (hk : k ≤ k') (hn : n ≤ n') : On p l e R s m args below meth c n0 T h k' n' := by
  obtain ⟨L, X, r⟩ := P; exact ⟨L, X.more hk hn, r⟩
theorem Aim.of {T' : State} {g g' : JFrame} (st : ∀ t, Steps p.tables e below (T'.setTop g') t → Steps p.tables e below (T.setTop g) t) (a : Aim p e below s CC SS n0 Q T' g') : Aim p e below s CC SS n0 Q T g := by
  obtain ⟨s2, o, h1, r⟩ := a; exact ⟨s2, o, st _ h1, r⟩
theorem Aim.cast {g g' : JFrame} (q : g = g') (a : Aim p e below s CC SS n0 Q T g') : Aim p e below s CC SS n0 Q T g := q ▸ a
theorem Aim.imp {g : JFrame} {Q' : Option Value → Heap → Prop} (a : Aim p e below s CC SS n0 Q' T g) (q : ∀ v h, Q' v h → Q v h) : Aim p e below s CC SS n0 Q T g := by
  obtain ⟨s2, o, h1, h2, h3, v, L, h4, ⟨h5, h6⟩, h7⟩ := a; exact ⟨s2, o, h1, h2, h3, v, L, h4, ⟨q _ _ h5, h6⟩, h7⟩
theorem Con.imp {y : MethodName} {bytes : ByteArray} {maxL : Nat} {ret : Option FieldType} {rm : Room} {as' : Array Value} {Q' : Option Value → Heap → Prop} (a : Con l Z y bytes maxL ret rm n0 as' h Q') (q : ∀ v h, Q' v h → Q v h) : Con l Z y bytes maxL ret rm n0 as' h Q := by
  intro ws p e ha hc hk s m args below hf happ hP hK
  obtain ⟨nn, o, h1, h2, h3, v, L, h4, ⟨h5, h6⟩, h7⟩ := a ws p e ha hc hk s m args below hf happ hP hK
  exact ⟨nn, o, h1, h2, h3, v, L, h4, ⟨q _ _ h5, h6⟩, h7⟩
theorem Con.intro {y : MethodName} {bytes : ByteArray} {maxL : Nat} {ret : Option FieldType} {rm : Room} {as' : Array Value} (pl : plainFor y = true)
    (body : ∀ (p : Program) (e : Env) (s : State) (m : MethodId) (below : List Frame) (meth : Method) (c : Code) (s₁ : State), p.tables.exec = Jvm.exec → c.code = bytes → c.maxLocals = maxL → meth.sig.returnType = ret → meth.name = y.name → s.vm.findClass y.cls = some m.cls → meth.locks = false → Z.Warmed39 s.vm →
      On p l e rm s m as' below meth c n0 s₁ h 0 0 → Aim p e below s rm.cells rm.slots n0 Q s₁ (entryFrame m as' maxL)) : Con l Z y bytes maxL ret rm n0 as' h Q := by
  intro ws
  refine MetFree.of_bodySF pl hisR ?_
  intro p e s m args below meth c s₁ Bd hml0 hP hK
  obtain ⟨rfl, hZ, hh⟩ := hP
  have X0 : Stand p l e rm s m args below meth c s₁ [] 0 0 := Stand.of_body Bd
  obtain ⟨s2, o, h1, h2, h3, v, L, h4, h5, h6⟩ := body p e s m below meth c s₁ Bd.exec Bd.bytes hml0 Bd.returns (name_of_methodNamed Bd.named Bd.method).1 (findClass_of_methodNamed Bd.named) (BodyLoose.notSynchronized Bd) hZ ⟨[], X0, by rw [← hh, Bd.state]; rfl, Fr.nil n0⟩
  exact ⟨s2, o, h1, h2, h3, v, L, h4, h5, h6⟩
theorem Con.back {y : MethodName} {bytes : ByteArray} {maxL : Nat} {ret : Option FieldType} {rm : Room} {as' : Array Value} {len W : Nat} (hM : Con l Z y bytes maxL ret rm n0 as' h Q) (hZ : Z.Warmed39 s.vm) (wc : (Cond.code y bytes maxL ret).before a0 Z = true) (wz : (Cond.initialized y.cls).before a0 Z = true) (hf : rm.frames + 1 ≤ R.frames) (hl : W + (maxL + 11) + rm.locals ≤ R.locals) :
    Bk l R p e below s args y len W as' h rm.cells rm.slots n0 Q := backOf (Q := fun v h L => Q v h ∧ Fr n0 L) (hM []) hZ wc wz hf hl
theorem Bk.imp {y : MethodName} {len W dc ds : Nat} {as' : Array Value} {Q' : Option Value → Heap → Prop} (hK : Bk l R p e below s args y len W as' h dc ds n0 Q') (q : ∀ v h, Q' v h → Q v h) : Bk l R p e below s args y len W as' h dc ds n0 Q :=
  Back.mono hK (fun _ _ hp => hp) (fun _ _ _ _ _ ⟨L, ⟨h1, h2⟩, r⟩ => ⟨L, ⟨q _ _ h1, h2⟩, r⟩)
/-! the ways out -/
theorem Aim.retN {t : FieldType} {pc : Nat} {Ls : Array Slot} {z : Int32} {rest : List Value} (P : On p l e R s m args below meth c n0 T h k n) (hx : p.tables.exec = Jvm.exec) (hlk : meth.locks = false) (hret : meth.sig.returnType = some t) (ht : t = .boolean ∨ t = .byte ∨ t = .char ∨ t = .short) (hd : decode c.code pc = .ok (.ireturn, 1))
    (hk : k ≤ CC) (hn : n ≤ SS) (q : Q (some (.int (nar t z))) h) : Aim p e below s CC SS n0 Q T (mkF m pc Ls (.int z :: rest)) := by
  obtain ⟨L, X, eT, N⟩ := P
  obtain ⟨fs, hr, hrun, hended, hW, hsame⟩ := X.leave (v := some (.int (nar t z))) (fun h => by rw [hret] at h; cases h) hlk
  exact ⟨_, _, Jvm.RoadKit.retN X hx hret ht hd hr, hrun, hended, _, _, rfl, ⟨by show Q _ T.heap; rw [eT]; exact q, N⟩, ⟨_, rfl⟩, hW, hsame.mono hk hn⟩
theorem Aim.retW {t : FieldType} {i : Instr} {pc : Nat} {Ls : Array Slot} {w : Value} {rest : List Value} (P : On p l e R s m args below meth c n0 T h k n) (hx : p.tables.exec = Jvm.exec) (hlk : meth.locks = false) (hret : meth.sig.returnType = some t) (hn' : narrow t w = w)
    (hi : (i = .ireturn ∧ (t = .int ∨ t = .boolean ∨ t = .byte ∨ t = .char ∨ t = .short) ∧ ∃ z, w = .int z) ∨ (i = .lreturn ∧ t = .long ∧ ∃ z, w = .long z) ∨ (i = .dreturn ∧ t = .double ∧ ∃ z, w = .double z) ∨ (i = .freturn ∧ t = .float ∧ ∃ z, w = .float z) ∨ (i = .areturn ∧ t.isReference = true ∧ w.isRef = true)) (hd : decode c.code pc = .ok (i, 1))
    (hk : k ≤ CC) (hn : n ≤ SS) (q : Q (some w) h) : Aim p e below s CC SS n0 Q T (mkF m pc Ls (w :: rest)) := by
  obtain ⟨L, X, eT, N⟩ := P
  obtain ⟨fs, hr, hrun, hended, hW, hsame⟩ := X.leave (v := some w) (fun h => by rw [hret] at h; cases h) hlk
  exact ⟨_, _, Jvm.RoadKit.retOut X hx hret hn' hi hd hr, hrun, hended, _, _, rfl, ⟨by show Q _ T.heap; rw [eT]; exact q, N⟩, ⟨_, rfl⟩, hW, hsame.mono hk hn⟩
theorem Aim.retI {pc : Nat} {Ls : Array Slot} {z : Int32} {rest : List Value} (P : On p l e R s m args below meth c n0 T h k n) (hx : p.tables.exec = Jvm.exec) (hlk : meth.locks = false) (hret : meth.sig.returnType = some .int) (hd : decode c.code pc = .ok (.ireturn, 1))
    (hk : k ≤ CC) (hn : n ≤ SS) (q : Q (some (.int z)) h) : Aim p e below s CC SS n0 Q T (mkF m pc Ls (.int z :: rest)) := Aim.retW P hx hlk hret rfl (Or.inl ⟨rfl, Or.inl rfl, z, rfl⟩) hd hk hn q
theorem Aim.retJ {pc : Nat} {Ls : Array Slot} {z : Int64} {rest : List Value} (P : On p l e R s m args below meth c n0 T h k n) (hx : p.tables.exec = Jvm.exec) (hlk : meth.locks = false) (hret : meth.sig.returnType = some .long) (hd : decode c.code pc = .ok (.lreturn, 1))
    (hk : k ≤ CC) (hn : n ≤ SS) (q : Q (some (.long z)) h) : Aim p e below s CC SS n0 Q T (mkF m pc Ls (.long z :: rest)) := Aim.retW P hx hlk hret rfl (Or.inr (Or.inl ⟨rfl, rfl, z, rfl⟩)) hd hk hn q
theorem Aim.retA {t : FieldType} {pc : Nat} {Ls : Array Slot} {w : Value} {rest : List Value} (P : On p l e R s m args below meth c n0 T h k n) (hx : p.tables.exec = Jvm.exec) (hlk : meth.locks = false) (hret : meth.sig.returnType = some t) (ht : t.isReference = true) (hw : w.isRef = true) (hd : decode c.code pc = .ok (.areturn, 1))
    (hk : k ≤ CC) (hn : n ≤ SS) (q : Q (some w) h) : Aim p e below s CC SS n0 Q T (mkF m pc Ls (w :: rest)) := by
  have hn' : narrow t w = w := by cases t <;> cases w <;> first | rfl | (cases ht; done) | (cases hw; done)
  exact Aim.retW P hx hlk hret hn' (Or.inr (Or.inr (Or.inr (Or.inr ⟨rfl, ht, hw⟩)))) hd hk hn q
theorem Aim.retV {pc : Nat} {Ls : Array Slot} (P : On p l e R s m args below meth c n0 T h k n) (hx : p.tables.exec = Jvm.exec) (hlk : meth.locks = false) (hret : meth.sig.returnType = none) (hd : decode c.code pc = .ok (.return_, 1))
    (hk : k ≤ CC) (hn : n ≤ SS) (q : Q none h) : Aim p e below s CC SS n0 Q T (mkF m pc Ls []) := by
  obtain ⟨L, X, eT, N⟩ := P
  obtain ⟨fs, hr, hrun, hended, hW, hsame⟩ := X.leave (v := none) (fun _ => rfl) hlk
  exact ⟨_, _, X.returnOut hx hret hd hr, hrun, hended, _, _, rfl, ⟨by show Q _ T.heap; rw [eT]; exact q, N⟩, ⟨_, rfl⟩, hW, hsame.mono hk hn⟩
/-! steps that meet the heap -/
theorem Aim.newO {own C : String} {index nn pc : Nat} {Ls : Array Slot} {st : List Value} (P : On p l e R s m args below meth c n0 T h k n) (hx : p.tables.exec = Jvm.exec) (hZ : Z.Warmed39 s.vm) (hown : s.vm.findClass own = some m.cls) (w : (Cond.classLink own index C).before a0 Z = true) (wi : (Cond.instantiable C nn).before a0 Z = true) (wz : (Cond.initialized C).before a0 Z = true)
    (hd : decode c.code pc = .ok (.new index, 3)) (hc : k + 1 ≤ R.cells) (hl : n + nn ≤ R.slots)
    (cont : ∀ T' h' b, b = h.size → On p l e R s m args below meth c n0 T' h' (k + 1) (n + nn) → Ext h h' → Exa Z h' b C → (∀ {O nm d : String} {ty : FieldType}, Laid Z a0 C O nm d → parseFieldDescriptor d = some ty → Fld Z h' b O nm d (defaultValue ty)) → Unt h' b → Aim p e below s CC SS n0 Q T' (mkF m (pc + 3) Ls (.ref b :: st))) :
    Aim p e below s CC SS n0 Q T (mkF m pc Ls st) := by
  obtain ⟨L, X, eT, N⟩ := P
  obtain ⟨T', h', X', e', E, A, D, U, st'⟩ := RoadKit.newO X hx hZ hown w wi wz eT (g := mkF m pc Ls st) rfl hd hc hl
  exact Aim.of st' (cont T' h' _ rfl ⟨L, X', e', N⟩ E A D U)
theorem Aim.newP {aty : ArrayType} {pc : Nat} {Ls : Array Slot} {z : Int32} {st : List Value} (P : On p l e R s m args below meth c n0 T h k n) (hx : p.tables.exec = Jvm.exec) (hZ : Z.Warmed39 s.vm) (w : (Cond.arrayClass (newarray.typeOf aty)).before a0 Z = true) (hd : decode c.code pc = .ok (.newarray aty, 2))
    (hz : ¬ z < 0) {cap : Nat} (hcap : z.toNatClampNeg ≤ cap) (hb : cap * 8 ≤ 536870912) (hc : k + 1 ≤ R.cells) (hl : n + cap ≤ R.slots)
    (cont : ∀ T' h' kk b, b = h.size → On p l e R s m args below meth c n0 T' h' (k + 1) (n + cap) → Ext h h' → Arv Z h' b kk (newarray.typeOf aty) z [] (defaultValue (newarray.typeOf aty)) → Aim p e below s CC SS n0 Q T' (mkF m (pc + 2) Ls (.ref b :: st))) :
    Aim p e below s CC SS n0 Q T (mkF m pc Ls (.int z :: st)) := by
  obtain ⟨L, X, eT, N⟩ := P
  obtain ⟨T', h', kk, X', e', E, A, st'⟩ := RoadKit.newP X hx hZ w eT (g := mkF m pc Ls (.int z :: st)) rfl hd rfl hz hcap hb hc hl
  exact Aim.of st' (cont T' h' kk _ rfl ⟨L, X', e', N⟩ E (Arv.new A hz))
theorem Aim.newR {own C : String} {index pc : Nat} {Ls : Array Slot} {z : Int32} {st : List Value} (P : On p l e R s m args below meth c n0 T h k n) (hx : p.tables.exec = Jvm.exec) (hZ : Z.Warmed39 s.vm) (hown : s.vm.findClass own = some m.cls) (w1 : (Cond.classLink own index C).before a0 Z = true) (w2 : (Cond.arrayOver (.object C)).before a0 Z = true) (hd : decode c.code pc = .ok (.anewarray index, 3))
    (hz : ¬ z < 0) {cap : Nat} (hcap : z.toNatClampNeg ≤ cap) (hb : cap * 8 ≤ 536870912) (hc : k + 1 ≤ R.cells) (hl : n + cap ≤ R.slots)
    (cont : ∀ T' h' kk b, b = h.size → On p l e R s m args below meth c n0 T' h' (k + 1) (n + cap) → Ext h h' → Arv Z h' b kk (.object C) z [] .null → Ovr Z kk C → Aim p e below s CC SS n0 Q T' (mkF m (pc + 3) Ls (.ref b :: st))) :
    Aim p e below s CC SS n0 Q T (mkF m pc Ls (.int z :: st)) := by
  obtain ⟨L, X, eT, N⟩ := P
  obtain ⟨T', h', kk, X', e', E, A, O, st'⟩ := RoadKit.newR X hx hZ hown w1 w2 eT (g := mkF m pc Ls (.int z :: st)) rfl hd rfl hz hcap hb hc hl
  exact Aim.of st' (cont T' h' kk _ rfl ⟨L, X', e', N⟩ E (Arv.new A hz) O)
theorem Aim.getF {own R0 O f d host : String} {index pc : Nat} {Ls : Array Slot} {st : List Value} {a : Addr} {v : Value} (P : On p l e R s m args below meth c n0 T h k n) (hx : p.tables.exec = Jvm.exec) (hZ : Z.Warmed39 s.vm) (hown : s.vm.findClass own = some m.cls) (w : (Cond.fieldLink own index R0 f d).before a0 Z = true ∨ (Cond.fieldLinkNest own index R0 f d host).before a0 Z = true) (via : Via Z R0 O f d)
    (F : Fld Z h a O f d v) (hd : decode c.code pc = .ok (.getfield index, 3)) (cont : ∀ T', On p l e R s m args below meth c n0 T' h k n → Aim p e below s CC SS n0 Q T' (mkF m (pc + 3) Ls (v :: st))) :
    Aim p e below s CC SS n0 Q T (mkF m pc Ls (.ref a :: st)) := by
  obtain ⟨L, X, eT, N⟩ := P
  obtain ⟨T', X', e', st'⟩ := RoadKit.getF X hx hZ hown w via eT F (g := mkF m pc Ls (.ref a :: st)) rfl rfl hd
  exact Aim.of st' (cont T' ⟨L, X', e', N⟩)
theorem Aim.getS {own R0 O f d : String} {index pc : Nat} {Ls : Array Slot} {st : List Value} {v : Value} (P : On p l e R s m args below meth c n0 T h k n) (hx : p.tables.exec = Jvm.exec) (hZ : Z.Warmed39 s.vm) (hown : s.vm.findClass own = some m.cls) (w : (Cond.fieldLink own index R0 f d).before a0 Z = true) (via : Via Z R0 O f d)
    (F : Sta Z h O f d v) (hd : decode c.code pc = .ok (.getstatic index, 3)) (cont : ∀ T', On p l e R s m args below meth c n0 T' h k n → Aim p e below s CC SS n0 Q T' (mkF m (pc + 3) Ls (v :: st))) :
    Aim p e below s CC SS n0 Q T (mkF m pc Ls st) := by
  obtain ⟨L, X, eT, N⟩ := P
  obtain ⟨T', X', e', st'⟩ := RoadKit.getS (host := "") X hx hZ hown w via eT F (g := mkF m pc Ls st) rfl hd
  exact Aim.of st' (cont T' ⟨L, X', e', N⟩)
theorem Aim.getS2 {own R0 O f d host : String} {index pc : Nat} {Ls : Array Slot} {st : List Value} {v : Value} (P : On p l e R s m args below meth c n0 T h k n) (hx : p.tables.exec = Jvm.exec) (hZ : Z.Warmed39 s.vm) (hown : s.vm.findClass own = some m.cls) (w : (Cond.fieldLink own index R0 f d).before a0 Z = true ∨ (Cond.fieldLinkNest own index R0 f d host).before a0 Z = true) (via : Via Z R0 O f d)
    (F : Sta Z h O f d v) (hd : decode c.code pc = .ok (.getstatic index, 3)) (cont : ∀ T', On p l e R s m args below meth c n0 T' h k n → Aim p e below s CC SS n0 Q T' (mkF m (pc + 3) Ls (v :: st))) :
    Aim p e below s CC SS n0 Q T (mkF m pc Ls st) := by
  obtain ⟨L, X, eT, N⟩ := P
  obtain ⟨T', X', e', st'⟩ := RoadKit.getS2 X hx hZ hown w via eT F (g := mkF m pc Ls st) rfl hd
  exact Aim.of st' (cont T' ⟨L, X', e', N⟩)
theorem Aim.putF {own R0 O f d host C : String} {index kk pc : Nat} {ty : FieldType} {Ls : Array Slot} {st : List Value} {a : Addr} {v old : Value} (P : On p l e R s m args below meth c n0 T h k n) (hx : p.tables.exec = Jvm.exec) (hZ : Z.Warmed39 s.vm) (hown : s.vm.findClass own = some m.cls) (w : (Cond.fieldLink own index R0 f d).before a0 Z = true ∨ (Cond.fieldLinkNest own index R0 f d host).before a0 Z = true) (via : Via Z R0 O f d)
    (F : Fld Z h a O f d old) (E : Exa Z h a C) (hL : (Cond.lays C O f d).before a0 Z = true ∨ ((Cond.laysFinal C O f d).before a0 Z = true ∧ own = O ∧ meth.name = "<init>")) (wi : (Cond.instantiable C kk).before a0 Z = true)
    (hty : parseFieldDescriptor d = some ty) (hn : narrow ty v = v) (hf : fits ty v = true) (hd : decode c.code pc = .ok (.putfield index, 3)) (ga : n0 ≤ a)
    (cont : ∀ T' h', On p l e R s m args below meth c n0 T' h' k n → Wr h h' a (Jvm.RoadKit.slotOf Z O f d) v → Aim p e below s CC SS n0 Q T' (mkF m (pc + 3) Ls st)) :
    Aim p e below s CC SS n0 Q T (mkF m pc Ls (v :: .ref a :: st)) := by
  obtain ⟨L, X, eT, N⟩ := P
  obtain ⟨T', h', X', e', W, st'⟩ := RoadKit.putF X hx hZ hown w via eT F E hL wi hty hn hf (g := mkF m pc Ls (v :: .ref a :: st)) rfl rfl hd
  exact Aim.of st' (cont T' h' ⟨_, X', e', Fr.snoc X' N ga⟩ W)
theorem Aim.stC {pc : Nat} {Ls : Array Slot} {st : List Value} {a : Addr} {kk : ClassId} {j x z : Int32} {vs : List Value} {dv : Value} (P : On p l e R s m args below meth c n0 T h k n) (hx : p.tables.exec = Jvm.exec) (hZ : Z.Warmed39 s.vm) (V : Arv Z h a kk .char z vs dv) (hj : ¬ j < 0 ∧ j < z) (i : Nat) (hi : j.toNatClampNeg = i) (hv : i < vs.length)
    (hd : decode c.code pc = .ok (.castore, 1)) (ga : n0 ≤ a) (cont : ∀ T' h', On p l e R s m args below meth c n0 T' h' k n → Keep h h' [a] → Arv Z h' a kk .char z (vs.set i (.int (nar .char x))) dv → Aim p e below s CC SS n0 Q T' (mkF m (pc + 1) Ls st)) :
    Aim p e below s CC SS n0 Q T (mkF m pc Ls (.int x :: .int j :: .ref a :: st)) := by
  obtain ⟨L, X, eT, N⟩ := P
  obtain ⟨cl, A, q, S, M, H, U⟩ := V
  obtain ⟨T', h', X', e', W, st'⟩ := RoadKit.stC X hx hZ eT A (j := j) (inb_of S hj) (g := mkF m pc Ls (.int x :: .int j :: .ref a :: st)) rfl rfl hd
  exact Aim.of st' (cont T' h' ⟨_, X', e', Fr.snoc X' N ga⟩ (Keep.of_wr W) (Arv.set A q S M H U (fits_nar_char _) W i hi hv))
theorem Aim.stB {pc : Nat} {Ls : Array Slot} {st : List Value} {a : Addr} {kk : ClassId} {j x z : Int32} {vs : List Value} {dv : Value} (P : On p l e R s m args below meth c n0 T h k n) (hx : p.tables.exec = Jvm.exec) (hZ : Z.Warmed39 s.vm) (V : Arv Z h a kk .byte z vs dv) (hj : ¬ j < 0 ∧ j < z) (i : Nat) (hi : j.toNatClampNeg = i) (hv : i < vs.length)
    (hd : decode c.code pc = .ok (.bastore, 1)) (ga : n0 ≤ a) (cont : ∀ T' h', On p l e R s m args below meth c n0 T' h' k n → Keep h h' [a] → Arv Z h' a kk .byte z (vs.set i (.int x.toInt8.toInt32)) dv → Aim p e below s CC SS n0 Q T' (mkF m (pc + 1) Ls st)) :
    Aim p e below s CC SS n0 Q T (mkF m pc Ls (.int x :: .int j :: .ref a :: st)) := by
  obtain ⟨L, X, eT, N⟩ := P
  obtain ⟨cl, A, q, S, M, H, U⟩ := V
  obtain ⟨T', h', X', e', W, st'⟩ := RoadKit.stB X hx hZ eT A (j := j) (inb_of S hj) (g := mkF m pc Ls (.int x :: .int j :: .ref a :: st)) rfl rfl hd
  exact Aim.of st' (cont T' h' ⟨_, X', e', Fr.snoc X' N ga⟩ (Keep.of_wr W) (Arv.set A q S M H U (fits_nar_byte _) W i hi hv))
theorem Aim.alen {pc : Nat} {Ls : Array Slot} {st : List Value} {a : Addr} {kk : ClassId} {ty : FieldType} {z : Int32} {vs : List Value} {dv : Value} (P : On p l e R s m args below meth c n0 T h k n) (hx : p.tables.exec = Jvm.exec) (hZ : Z.Warmed39 s.vm) (V : Arv Z h a kk ty z vs dv)
    (hd : decode c.code pc = .ok (.arraylength, 1)) (cont : Aim p e below s CC SS n0 Q T (mkF m (pc + 1) Ls (.int z :: st))) : Aim p e below s CC SS n0 Q T (mkF m pc Ls (.ref a :: st)) := by
  obtain ⟨L, X, eT, N⟩ := P
  obtain ⟨cl, A, q, S, M, H, U⟩ := V
  refine Aim.of (fun t kt => X.arraylength hx (by rw [eT]; exact A.1) (State.isArrayOf_alike hZ.alike A.2.1) (g := mkF m pc Ls (.ref a :: st)) rfl rfl hd t ?_) cont
  rw [len_of S M]; exact kt
theorem Aim.ldC {pc : Nat} {Ls : Array Slot} {st : List Value} {a : Addr} {kk : ClassId} {j z : Int32} {vs : List Value} {dv v : Value} (P : On p l e R s m args below meth c n0 T h k n) (hx : p.tables.exec = Jvm.exec) (hZ : Z.Warmed39 s.vm) (V : Arv Z h a kk .char z vs dv) (hj : ¬ j < 0 ∧ j < z) (hv : vs.getD j.toNatClampNeg dv = v)
    (hd : decode c.code pc = .ok (.caload, 1)) (cont : Aim p e below s CC SS n0 Q T (mkF m (pc + 1) Ls (v :: st))) : Aim p e below s CC SS n0 Q T (mkF m pc Ls (.int j :: .ref a :: st)) := by
  obtain ⟨L, X, eT, N⟩ := P
  obtain ⟨cl, A, q, S, M, H, U⟩ := V
  exact Aim.of (fun t kt => X.caload hx (j := j) (v := v) (by rw [eT]; exact A.1) (State.isArrayOf_alike hZ.alike A.2.1) A.2.2 (inb_of S hj) (H.at (inb_of S hj) hv) (g := mkF m pc Ls (.int j :: .ref a :: st)) rfl rfl hd t kt) cont
theorem Aim.ldB {pc : Nat} {Ls : Array Slot} {st : List Value} {a : Addr} {kk : ClassId} {j z : Int32} {vs : List Value} {dv v : Value} (P : On p l e R s m args below meth c n0 T h k n) (hx : p.tables.exec = Jvm.exec) (hZ : Z.Warmed39 s.vm) (V : Arv Z h a kk .byte z vs dv) (hj : ¬ j < 0 ∧ j < z) (hv : vs.getD j.toNatClampNeg dv = v)
    (hd : decode c.code pc = .ok (.baload, 1)) (cont : Aim p e below s CC SS n0 Q T (mkF m (pc + 1) Ls (v :: st))) : Aim p e below s CC SS n0 Q T (mkF m pc Ls (.int j :: .ref a :: st)) := by
  obtain ⟨L, X, eT, N⟩ := P
  obtain ⟨cl, A, q, S, M, H, U⟩ := V
  exact Aim.of (fun t kt => X.baloadBytes hx (j := j) (v := v) (by rw [eT]; exact A.1) (State.isArrayOf_alike hZ.alike A.2.1) A.2.2 (inb_of S hj) (H.at (inb_of S hj) hv) (g := mkF m pc Ls (.int j :: .ref a :: st)) rfl rfl hd t kt) cont
theorem Aim.initO {own : String} {index pc mx : Nat} {Ls : Array Slot} {st : List Value} {a : Addr} (P : On p l e R s m args below meth c n0 T h k n) (hx : p.tables.exec = Jvm.exec) (hZ : Z.Warmed39 s.vm) (hml : c.maxLocals = mx) (hown : s.vm.findClass own = some m.cls) (w1 : (Cond.methodLink own index Lib.objectInit).before a0 Z = true) (w2 : (Cond.instanceMethod Lib.objectInit).before a0 Z = true)
    (w3 : (Cond.code Lib.objectInit ⟨#[0xb1]⟩ 1 none).before a0 Z = true) (hsz : Ls.size = mx) (hd : decode c.code pc = .ok (.invokespecial index, 3)) (hf : 1 ≤ R.frames) (hl : (st.map fun v => v.category).sum + 12 ≤ R.locals)
    (cont : ∀ T', On p l e R s m args below meth c n0 T' h k n → Aim p e below s CC SS n0 Q T' (mkF m (pc + 3) Ls st)) : Aim p e below s CC SS n0 Q T (mkF m pc Ls (.ref a :: st)) := by
  obtain ⟨L, X, eT, N⟩ := P
  obtain ⟨T', X', e', st'⟩ := RoadKit.initO X hx hZ hown w1 w2 w3 eT (g := mkF m pc Ls (.ref a :: st)) rfl (by rw [hml]; exact hsz) rfl hd hf (W := (st.map fun v => v.category).sum) (by show 2 * 0 + _ ≤ _; omega) hl
  exact Aim.of st' (cont T' ⟨L, X', e', N⟩)
theorem Aim.castY {own K : String} {index pc : Nat} {Ls : Array Slot} {st : List Value} {a : Addr} (P : On p l e R s m args below meth c n0 T h k n) (hx : p.tables.exec = Jvm.exec) (hZ : Z.Warmed39 s.vm) (hown : s.vm.findClass own = some m.cls) (w : (Cond.classLink own index K).before a0 Z = true) (F : Ins Z h a K true) (hd : decode c.code pc = .ok (.checkcast index, 3))
    (cont : ∀ T', On p l e R s m args below meth c n0 T' h k n → Aim p e below s CC SS n0 Q T' (mkF m (pc + 3) Ls (.ref a :: st))) : Aim p e below s CC SS n0 Q T (mkF m pc Ls (.ref a :: st)) := by
  obtain ⟨L, X, eT, N⟩ := P
  obtain ⟨T', X', e', st'⟩ := RoadKit.castY X hx hZ hown w eT F (g := mkF m pc Ls (.ref a :: st)) rfl rfl hd
  exact Aim.of st' (cont T' ⟨L, X', e', N⟩)
theorem Aim.instY {own K : String} {index pc : Nat} {Ls : Array Slot} {st : List Value} {a : Addr} (P : On p l e R s m args below meth c n0 T h k n) (hx : p.tables.exec = Jvm.exec) (hZ : Z.Warmed39 s.vm) (hown : s.vm.findClass own = some m.cls) (w : (Cond.classLink own index K).before a0 Z = true) (F : Ins Z h a K true) (hd : decode c.code pc = .ok (.instanceof index, 3))
    (cont : ∀ T', On p l e R s m args below meth c n0 T' h k n → Aim p e below s CC SS n0 Q T' (mkF m (pc + 3) Ls (.int 1 :: st))) : Aim p e below s CC SS n0 Q T (mkF m pc Ls (.ref a :: st)) := by
  obtain ⟨L, X, eT, N⟩ := P
  obtain ⟨T', X', e', st'⟩ := RoadKit.instY X hx hZ hown w eT F (g := mkF m pc Ls (.ref a :: st)) rfl rfl hd
  exact Aim.of st' (cont T' ⟨L, X', e', N⟩)
theorem Aim.ldcI {own : String} {index pc : Nat} {Ls : Array Slot} {st : List Value} {v : Int32} (P : On p l e R s m args below meth c n0 T h k n) (hx : p.tables.exec = Jvm.exec) (hZ : Z.Warmed39 s.vm) (hown : s.vm.findClass own = some m.cls) (w : (Cond.constant own index v).before a0 Z = true) (hd : decode c.code pc = .ok (.ldc index, 2))
    (cont : Aim p e below s CC SS n0 Q T (mkF m (pc + 2) Ls (.int v :: st))) : Aim p e below s CC SS n0 Q T (mkF m pc Ls st) := by
  obtain ⟨L, X, eT, N⟩ := P
  exact Aim.of (fun t kt => X.ldcInt hx hown (mvT hZ w) (g := mkF m pc Ls st) rfl hd t kt) cont
theorem own_irem {tb : Tables} [Ours tb] {e : Env} {below : List Frame} {T target : State} {m : MethodId} {c : Code} {g : JFrame} (h : At T m c below) (hx : tb.exec = Jvm.exec) (hg : g.method = m) {x y : Int32} {rest : List Value} (hd : decode c.code g.pc = .ok (.irem, 1)) (hs : g.stack = .int y :: .int x :: rest) (hy : y ≠ 0)
    (hr : Steps tb e below (T.setTop { g with pc := g.pc + 1, stack := .int (x % y) :: rest }) target) : Steps tb e below (T.setTop g) target := by
  have q : x - x / y * y = x % y := irem_eq_mod x y
  exact XS.irem h hx hg hd hs hy (by rw [q]; exact hr)
theorem Aim.ldcwI {own : String} {index pc : Nat} {Ls : Array Slot} {st : List Value} {v : Int32} (P : On p l e R s m args below meth c n0 T h k n) (hx : p.tables.exec = Jvm.exec) (hZ : Z.Warmed39 s.vm) (hown : s.vm.findClass own = some m.cls) (w : (Cond.constant own index v).before a0 Z = true) (hd : decode c.code pc = .ok (.ldc_w index, 3))
    (cont : Aim p e below s CC SS n0 Q T (mkF m (pc + 3) Ls (.int v :: st))) : Aim p e below s CC SS n0 Q T (mkF m pc Ls st) := by
  obtain ⟨L, X, eT, N⟩ := P
  exact Aim.of (fun t kt => X.ldcwInt hx hown (mvT hZ w) (g := mkF m pc Ls st) rfl hd t kt) cont
theorem Aim.ldcJ {own : String} {index pc : Nat} {Ls : Array Slot} {st : List Value} {v : Int64} (P : On p l e R s m args below meth c n0 T h k n) (hx : p.tables.exec = Jvm.exec) (hZ : Z.Warmed39 s.vm) (hown : s.vm.findClass own = some m.cls) (w : (Cond.constantLong own index v).before a0 Z = true) (hd : decode c.code pc = .ok (.ldc2_w index, 3))
    (cont : Aim p e below s CC SS n0 Q T (mkF m (pc + 3) Ls (.long v :: st))) : Aim p e below s CC SS n0 Q T (mkF m pc Ls st) := by
  obtain ⟨L, X, eT, N⟩ := P
  exact Aim.of (fun t kt => X.ldc2Long hx hown (mvT hZ w) (g := mkF m pc Ls st) rfl hd t kt) cont
theorem Aim.instNull {index pc : Nat} {Ls : Array Slot} {st : List Value} (P : On p l e R s m args below meth c n0 T h k n) (hx : p.tables.exec = Jvm.exec) (hd : decode c.code pc = .ok (.instanceof index, 3))
    (cont : Aim p e below s CC SS n0 Q T (mkF m (pc + 3) Ls (.int 0 :: st))) : Aim p e below s CC SS n0 Q T (mkF m pc Ls (.null :: st)) := by
  obtain ⟨L, X, eT, N⟩ := P
  exact Aim.of (fun t kt => X.instanceofNull hx (g := mkF m pc Ls (.null :: st)) rfl rfl hd t kt) cont
theorem Aim.castNull {index pc : Nat} {Ls : Array Slot} {st : List Value} (P : On p l e R s m args below meth c n0 T h k n) (hx : p.tables.exec = Jvm.exec) (hd : decode c.code pc = .ok (.checkcast index, 3))
    (cont : Aim p e below s CC SS n0 Q T (mkF m (pc + 3) Ls (.null :: st))) : Aim p e below s CC SS n0 Q T (mkF m pc Ls (.null :: st)) := by
  obtain ⟨L, X, eT, N⟩ := P
  exact Aim.of (fun t kt => X.checkcastNull hx (g := mkF m pc Ls (.null :: st)) rfl rfl hd t kt) cont
/-! calls -/
theorem Aim.callS {own : String} {index pc mx maxL dc ds W : Nat} {y : MethodName} {bytes : ByteArray} {ret : Option FieldType} {ps : List FieldType} {r : Option FieldType} {Ls : Array Slot} {argsL rest : List Value} {Q' : Option Value → Heap → Prop} (P : On p l e R s m args below meth c n0 T h k n) (hx : p.tables.exec = Jvm.exec) (hZ : Z.Warmed39 s.vm) (hml : c.maxLocals = mx) (hown : s.vm.findClass own = some m.cls)
    (w1 : (Cond.methodLink own index y).before a0 Z = true) (w2 : (Cond.static y).before a0 Z = true) (w3 : (Cond.initialized y.cls).before a0 Z = true) (w4 : (Cond.code y bytes maxL ret).before a0 Z = true) (hy : y.cls ≠ "java/lang/invoke/MethodHandle" ∧ y.cls ≠ "java/lang/invoke/VarHandle")
    (hK : Bk l R p e below s args y 3 W argsL.toArray h dc ds n0 Q') (hsz : Ls.size = mx) (hpd : parseMethodDescriptor y.desc = some ⟨ps, r⟩) (hln : argsL.length = ps.length) (hW : (rest.map fun v => v.category).sum ≤ W) (hd : decode c.code pc = .ok (.invokestatic index, 3)) (hc : k + dc ≤ R.cells) (hs : n + ds ≤ R.slots)
    (cont : ∀ T' h' v, On p l e R s m args below meth c n0 T' h' (k + dc) (n + ds) → Q' v h' → Aim p e below s CC SS n0 Q T' (mkF m (pc + 3) Ls (v.toList ++ rest))) : Aim p e below s CC SS n0 Q T (mkF m pc Ls (argsL.reverse ++ rest)) := by
  obtain ⟨L, X, eT, N⟩ := P
  obtain ⟨v, vm1, ⟨T', L', k', n'⟩, -, X', ⟨Lc, ⟨hq, N'⟩, l', y', z'⟩, st'⟩ := Jvm.LawKit.callS X hx (y := y) hown (mvT hZ w1) (mvT hZ w2) (mvT hZ w3) (mvT hZ w4) hy hK (g := mkF m pc Ls (argsL.reverse ++ rest)) rfl (by rw [hml]; exact hsz) (argsL := argsL) (rest := rest) (lenOf hpd hln) rfl (by show 2 * 0 + _ ≤ _; omega) hd (fun _ _ => ⟨rfl, eT, hc, hs⟩)
  dsimp only [Pt.U, Pt.locs, Pt.cells, Pt.slots] at X' l' y' z' st' hq
  subst l' y' z'
  exact Aim.of st' (cont T' _ v ⟨_, X', rfl, N.app N'⟩ hq)
theorem Aim.callC {own : String} {index pc mx maxL dc ds W : Nat} {y : MethodName} {bytes : ByteArray} {ps : List FieldType} {r : Option FieldType} {Ls : Array Slot} {a : Addr} {argsL rest : List Value} {Q' : Option Value → Heap → Prop} (P : On p l e R s m args below meth c n0 T h k n) (hx : p.tables.exec = Jvm.exec) (hZ : Z.Warmed39 s.vm) (hml : c.maxLocals = mx) (hown : s.vm.findClass own = some m.cls)
    (hy1 : y.name = "<init>") (w1 : (Cond.methodLink own index y).before a0 Z = true) (w2 : (Cond.instanceMethod y).before a0 Z = true) (w4 : (Cond.code y bytes maxL none).before a0 Z = true) (hy : y.cls ≠ "java/lang/invoke/MethodHandle" ∧ y.cls ≠ "java/lang/invoke/VarHandle")
    (hK : Bk l R p e below s args y 3 W (.ref a :: argsL).toArray h dc ds n0 Q') (hsz : Ls.size = mx) (hpd : parseMethodDescriptor y.desc = some ⟨ps, r⟩) (hln : argsL.length = ps.length) (hW : (rest.map fun v => v.category).sum ≤ W) (hd : decode c.code pc = .ok (.invokespecial index, 3)) (hc : k + dc ≤ R.cells) (hs : n + ds ≤ R.slots)
    (cont : ∀ T' h' v, On p l e R s m args below meth c n0 T' h' (k + dc) (n + ds) → Q' v h' → Aim p e below s CC SS n0 Q T' (mkF m (pc + 3) Ls (v.toList ++ rest))) : Aim p e below s CC SS n0 Q T (mkF m pc Ls (argsL.reverse ++ .ref a :: rest)) := by
  obtain ⟨L, X, eT, N⟩ := P
  obtain ⟨v, vm1, ⟨T', L', k', n'⟩, -, X', ⟨Lc, ⟨hq, N'⟩, l', y', z'⟩, st'⟩ := X.specialBack hx (y := y) hy1 hown (mvT hZ w1) (mvT hZ w2) (mvT hZ w4) hy hK (g := mkF m pc Ls (argsL.reverse ++ .ref a :: rest)) rfl (by rw [hml]; exact hsz) (Steps.refl _) (a := a) (argsL := argsL) (rest := rest) (lenOf hpd hln) rfl (by show 2 * 0 + _ ≤ _; omega) hd (fun _ _ => ⟨rfl, eT, hc, hs⟩)
  dsimp only [Pt.U, Pt.locs, Pt.cells, Pt.slots] at X' l' y' z' st' hq
  subst l' y' z'
  exact Aim.of (fun t kt => st'.trans kt) (cont T' _ v ⟨_, X', rfl, N.app N'⟩ hq)
theorem Aim.callV {own C : String} {index pc mx dc ds W : Nat} {y z : MethodName} {ps : List FieldType} {r : Option FieldType} {Ls : Array Slot} {a : Addr} {argsL rest : List Value} {Q' : Option Value → Heap → Prop} (P : On p l e R s m args below meth c n0 T h k n) (hx : p.tables.exec = Jvm.exec) (hZ : Z.Warmed39 s.vm) (hml : c.maxLocals = mx) (hown : s.vm.findClass own = some m.cls)
    (w1 : (Cond.methodLink own index y).before a0 Z = true) (w2 : (Cond.declares y).before a0 Z = true) (nf : NotFace s y) (w3 : (Cond.selects C y z).before a0 Z = true) (w4 : (Cond.instanceMethod z).before a0 Z = true) (hy : y.cls ≠ "java/lang/invoke/MethodHandle" ∧ y.cls ≠ "java/lang/invoke/VarHandle") (E : Exa Z h a C)
    (hK : Bk l R p e below s args z 3 W (.ref a :: argsL).toArray h dc ds n0 Q') (hsz : Ls.size = mx) (hpd : parseMethodDescriptor y.desc = some ⟨ps, r⟩) (hln : argsL.length = ps.length) (hW : (rest.map fun v => v.category).sum ≤ W) (hd : decode c.code pc = .ok (.invokevirtual index, 3)) (hc : k + dc ≤ R.cells) (hs : n + ds ≤ R.slots)
    (cont : ∀ T' h' v, On p l e R s m args below meth c n0 T' h' (k + dc) (n + ds) → Q' v h' → Aim p e below s CC SS n0 Q T' (mkF m (pc + 3) Ls (v.toList ++ rest))) : Aim p e below s CC SS n0 Q T (mkF m pc Ls (argsL.reverse ++ .ref a :: rest)) := by
  obtain ⟨L, X, eT, N⟩ := P
  obtain ⟨cq, kq, qa, qb, qc⟩ := isOf hZ eT E
  obtain ⟨v, vm1, ⟨T', L', k', n'⟩, -, X', ⟨Lc, ⟨hq, N'⟩, l', y', z'⟩, st'⟩ := X.virtualBack hx (y := y) (z := z) hown (mvT hZ w1) (mvT hZ w2) nf (mvT hZ w3) (mvT hZ w4) hy hK qa qc (g := mkF m pc Ls (argsL.reverse ++ .ref a :: rest)) rfl (by rw [hml]; exact hsz) (Steps.refl _) (argsL := argsL) (rest := rest) (lenOf hpd hln) rfl (by show 2 * 0 + _ ≤ _; omega) hd (fun _ _ => ⟨rfl, eT, hc, hs⟩)
  dsimp only [Pt.U, Pt.locs, Pt.cells, Pt.slots] at X' l' y' z' st' hq
  subst l' y' z'
  exact Aim.of (fun t kt => st'.trans kt) (cont T' _ v ⟨_, X', rfl, N.app N'⟩ hq)
theorem Aim.callI {own C : String} {index count pc mx dc ds W : Nat} {y z : MethodName} {ps : List FieldType} {r : Option FieldType} {Ls : Array Slot} {a : Addr} {argsL rest : List Value} {Q' : Option Value → Heap → Prop} (P : On p l e R s m args below meth c n0 T h k n) (hx : p.tables.exec = Jvm.exec) (hZ : Z.Warmed39 s.vm) (hml : c.maxLocals = mx) (hown : s.vm.findClass own = some m.cls)
    (w1 : (Cond.methodLink own index y).before a0 Z = true) (w2 : (Cond.declares y).before a0 Z = true) (w5 : (Cond.interfaceMethod y.cls y.cls y.name y.desc).before a0 Z = true) (w3 : (Cond.selects C y z).before a0 Z = true) (w4 : (Cond.instanceMethod z).before a0 Z = true) (w6 : (Cond.publicMethod z).before a0 Z = true) (w7 : (Cond.unhidden C y.name y.desc).before a0 Z = true) (w8 : (Cond.castable C y.cls).before a0 Z = true)
    (hy : y.cls ≠ "java/lang/invoke/MethodHandle" ∧ y.cls ≠ "java/lang/invoke/VarHandle") (E : Exa Z h a C)
    (hK : Bk l R p e below s args z 5 W (.ref a :: argsL).toArray h dc ds n0 Q') (hsz : Ls.size = mx) (hpd : parseMethodDescriptor y.desc = some ⟨ps, r⟩) (hln : argsL.length = ps.length) (hW : (rest.map fun v => v.category).sum ≤ W) (hd : decode c.code pc = .ok (.invokeinterface index count, 5)) (hc : k + dc ≤ R.cells) (hs : n + ds ≤ R.slots)
    (cont : ∀ T' h' v, On p l e R s m args below meth c n0 T' h' (k + dc) (n + ds) → Q' v h' → Aim p e below s CC SS n0 Q T' (mkF m (pc + 5) Ls (v.toList ++ rest))) : Aim p e below s CC SS n0 Q T (mkF m pc Ls (argsL.reverse ++ .ref a :: rest)) := by
  obtain ⟨L, X, eT, N⟩ := P
  obtain ⟨cq, kq, qa, qb, qc⟩ := isOf hZ eT E
  obtain ⟨v, vm1, ⟨T', L', k', n'⟩, -, X', ⟨Lc, ⟨hq, N'⟩, l', y', z'⟩, st'⟩ := X.interfaceBack hx (xi := y) (y := z) hown (mvT hZ w1) (mvT hZ w2) (mvT hZ w5 (by simp [Cond.onTables, Cond.keepsFace, Cond.keeps, Cond.steady, Cond.faceAtom, hy.1, hy.2])) (mvT hZ w3) (mvT hZ w4) (mvT hZ w6) (mvT hZ w7) (mvT hZ w8) hy hK qa qb qc (g := mkF m pc Ls (argsL.reverse ++ .ref a :: rest)) rfl (by rw [hml]; exact hsz) (Steps.refl _) (argsL := argsL) (rest := rest) (lenOf hpd hln) rfl (by show 2 * 0 + _ ≤ _; omega) hd (fun _ _ => ⟨rfl, eT, hc, hs⟩)
  dsimp only [Pt.U, Pt.locs, Pt.cells, Pt.slots] at X' l' y' z' st' hq
  subst l' y' z'
  exact Aim.of (fun t kt => st'.trans kt) (cont T' _ v ⟨_, X', rfl, N.app N'⟩ hq)
theorem Aim.newPE {ad : String} {aty : ArrayType} {pc : Nat} {Ls : Array Slot} {z : Int32} {st : List Value} (P : On p l e R s m args below meth c n0 T h k n) (hx : p.tables.exec = Jvm.exec) (hZ : Z.Warmed39 s.vm) (w : (Cond.arrayClass (newarray.typeOf aty)).before a0 Z = true) (had : "[" ++ (newarray.typeOf aty).toString = ad) (hd : decode c.code pc = .ok (.newarray aty, 2))
    (hz : ¬ z < 0) {cap : Nat} (hcap : z.toNatClampNeg ≤ cap) (hb : cap * 8 ≤ 536870912) (hc : k + 1 ≤ R.cells) (hl : n + cap ≤ R.slots)
    (cont : ∀ T' h' kk b, b = h.size → On p l e R s m args below meth c n0 T' h' (k + 1) (n + cap) → Ext h h' → Arv Z h' b kk (newarray.typeOf aty) z [] (defaultValue (newarray.typeOf aty)) → Exa Z h' b ad → Aim p e below s CC SS n0 Q T' (mkF m (pc + 2) Ls (.ref b :: st))) :
    Aim p e below s CC SS n0 Q T (mkF m pc Ls (.int z :: st)) := by
  obtain ⟨L, X, eT, N⟩ := P
  obtain ⟨T', h', kk, X', e', E, A, E2, st'⟩ := RoadKit.newPE X hx hZ w eT (g := mkF m pc Ls (.int z :: st)) rfl hd rfl hz hcap hb hc hl had
  exact Aim.of st' (cont T' h' kk _ rfl ⟨L, X', e', N⟩ E (Arv.new A hz) E2)
theorem Aim.ldX {pc : Nat} {Ls : Array Slot} {st : List Value} {a : Addr} {cl : Cell} {ty : FieldType} {j : Int32} {v : Value} (P : On p l e R s m args below meth c n0 T h k n) (hx : p.tables.exec = Jvm.exec) (hZ : Z.Warmed39 s.vm) (A : Arr Z h a cl ty) (hty : ty.isReference = true) (hj : ¬ (j < 0 ∨ cl.slots.size ≤ j.toNatClampNeg)) (hv : cl.slots[j.toNatClampNeg]? = some v)
    (hd : decode c.code pc = .ok (.aaload, 1)) (cont : Aim p e below s CC SS n0 Q T (mkF m (pc + 1) Ls (v :: st))) : Aim p e below s CC SS n0 Q T (mkF m pc Ls (.int j :: .ref a :: st)) := by
  obtain ⟨L, X, eT, N⟩ := P
  exact Aim.of (fun t kt => X.aaload hx (j := j) (v := v) (by rw [eT]; exact A.1) (State.isArrayOf_alike (T := s) hZ.alike A.2.1) hty A.2.2 hj hv (g := mkF m pc Ls (.int j :: .ref a :: st)) rfl rfl hd t kt) cont
theorem Aim.ldR {pc : Nat} {Ls : Array Slot} {st : List Value} {a : Addr} {kk : ClassId} {ty : FieldType} {j z : Int32} {vs : List Value} {dv v : Value} (P : On p l e R s m args below meth c n0 T h k n) (hx : p.tables.exec = Jvm.exec) (hZ : Z.Warmed39 s.vm) (V : Arv Z h a kk ty z vs dv) (hty : ty.isReference = true) (hj : ¬ j < 0 ∧ j < z) (hv : vs.getD j.toNatClampNeg dv = v)
    (hd : decode c.code pc = .ok (.aaload, 1)) (cont : Aim p e below s CC SS n0 Q T (mkF m (pc + 1) Ls (v :: st))) : Aim p e below s CC SS n0 Q T (mkF m pc Ls (.int j :: .ref a :: st)) := by
  obtain ⟨L, X, eT, N⟩ := P
  obtain ⟨cl, A, q, S, M, H, U⟩ := V
  exact Aim.of (fun t kt => X.aaload hx (j := j) (v := v) (by rw [eT]; exact A.1) (State.isArrayOf_alike (T := s) hZ.alike A.2.1) hty A.2.2 (inb_of S hj) (H.at (inb_of S hj) hv) (g := mkF m pc Ls (.int j :: .ref a :: st)) rfl rfl hd t kt) cont
theorem Aim.stR {C : String} {pc : Nat} {Ls : Array Slot} {st : List Value} {a y : Addr} {kk : ClassId} {j z : Int32} {vs : List Value} {dv : Value} (P : On p l e R s m args below meth c n0 T h k n) (hx : p.tables.exec = Jvm.exec) (hZ : Z.Warmed39 s.vm) (V : Arv Z h a kk (.object C) z vs dv) (O : Ovr Z kk C) (I : Ins Z h y C true) (hj : ¬ j < 0 ∧ j < z) (i : Nat) (hi : j.toNatClampNeg = i) (hv : i < vs.length)
    (hd : decode c.code pc = .ok (.aastore, 1)) (ga : n0 ≤ a) (cont : ∀ T' h', On p l e R s m args below meth c n0 T' h' k n → Keep h h' [a] → Arv Z h' a kk (.object C) z (vs.set i (.ref y)) dv → Aim p e below s CC SS n0 Q T' (mkF m (pc + 1) Ls st)) :
    Aim p e below s CC SS n0 Q T (mkF m pc Ls (.ref y :: .int j :: .ref a :: st)) := by
  obtain ⟨L, X, eT, N⟩ := P
  obtain ⟨cl, A, q, S, M, H, U⟩ := V
  obtain ⟨T', h', X', e', W, st'⟩ := RoadKit.stR X hx hZ eT A (j := j) (v := .ref y) (inb_of S hj) rfl (Sto.ofV A q O I) (g := mkF m pc Ls (.ref y :: .int j :: .ref a :: st)) rfl rfl hd
  exact Aim.of st' (cont T' h' ⟨_, X', e', Fr.snoc X' N ga⟩ (Keep.of_wr W) (Arv.set A q S M H U rfl W i hi hv))
theorem Aim.instNo {own C K : String} {index pc : Nat} {Ls : Array Slot} {st : List Value} {a : Addr} (P : On p l e R s m args below meth c n0 T h k n) (hx : p.tables.exec = Jvm.exec) (hZ : Z.Warmed39 s.vm) (hown : s.vm.findClass own = some m.cls) (w : (Cond.classLink own index K).before a0 Z = true) (E : Exa Z h a C) (F : ∃ c t, Z.vm.findClass C = some c ∧ Z.vm.findClass K = some t ∧ Z.vm.assignable c t = false)
    (hd : decode c.code pc = .ok (.instanceof index, 3)) (cont : ∀ T', On p l e R s m args below meth c n0 T' h k n → Aim p e below s CC SS n0 Q T' (mkF m (pc + 3) Ls (.int 0 :: st))) : Aim p e below s CC SS n0 Q T (mkF m pc Ls (.ref a :: st)) := by
  obtain ⟨L, X, eT, N⟩ := P
  obtain ⟨T', X', e', st'⟩ := RoadKit.instNo X hx hZ hown w eT E F (g := mkF m pc Ls (.ref a :: st)) rfl rfl hd
  exact Aim.of st' (cont T' ⟨L, X', e', N⟩)
theorem no_cast {C S K : String} {nn : Nat} (w : (Cond.superclass C S).before a0 Z = true) (wo : (Cond.noSuperclass S).before a0 Z = true) (wi : (Cond.instantiable K nn).before a0 Z = true) (h1 : C ≠ K) (h2 : S ≠ K) : ∃ c t, Z.vm.findClass C = some c ∧ Z.vm.findClass K = some t ∧ Z.vm.assignable c t = false := by
  obtain ⟨t, kt, g1, g2, g3, g4, -⟩ := Cond.instantiable_spec wi
  obtain ⟨c, h0⟩ := found_sup w
  obtain ⟨q, k, kp, e1, e2, e3, e4, e5, -⟩ := Cond.superclass_spec h0 w
  obtain ⟨o, ko, f1, f2, f3, -⟩ := Cond.noSuperclass_spec wo
  cases e1.symm.trans f1
  have n1 := ids_ne h0 g1 h1
  have n2 := ids_ne f1 g1 h2
  have n3 : ∀ fuel, Z.vm.isSubclassAux fuel c t = false := fun fuel => by
    cases fuel with
    | zero => rfl
    | succ f => cases f with
      | zero => simp [Vm.isSubclassAux, n1, e2, e4]
      | succ f => simp [Vm.isSubclassAux, n1, n2, e2, e4, f2, f3]
  have g7 : kt.isInterface = false := by simp only [Bool.or_eq_false_iff] at g4; exact g4.1
  refine ⟨c, t, h0, g1, ?_⟩
  show Z.vm.assignableAux (255 + 1) c t = false
  simp [Vm.assignableAux, n1, e2, g2, e5, g3, g7, Vm.isSubclass, n3]
theorem own_lsw {tb : Tables} [Ours tb] {e : Env} {below : List Frame} {T target : State} {m : MethodId} {c : Code} {g : JFrame} (h : At T m c below) (hx : tb.exec = Jvm.exec) (hg : g.method = m) {dflt : Int} {pairs : Array (Int × Int)} {len : Nat} {o : Int} {pc0 pc' : Nat} (hpc : g.pc = pc0) (hd : decode c.code g.pc = .ok (.lookupswitch dflt pairs, len)) {i : Int32} {rest : List Value} (hs : g.stack = .int i :: rest)
    (hso : (pairs.toList.zip (pairs.toList.drop 1)).all (fun (a, next) => a.1 < next.1) = true) (hoff : lookupswitch.offset pairs.toList dflt i.toInt = o) (ho : 0 ≤ (pc0 : Int) + o) (hp : ((pc0 : Int) + o).toNat = pc')
    (hr : Steps tb e below (T.setTop { g with pc := pc', stack := rest }) target) : Steps tb e below (T.setTop g) target := by
  subst hg hpc hp
  jvm_step h [h.top, hx, hd, hs, hoff, ho, lookupswitch.wp_chain]
  exact ⟨by simpa using hso, hr⟩
theorem oln_ne {t x n0 n : Nat} (h : t < n0 ∨ n ≤ t) (g : n0 ≤ x) (lt : x < n) : t ≠ x := fun e => h.elim (fun r => Nat.lt_irrefl _ (Nat.lt_of_lt_of_le r (e ▸ g))) (fun r => Nat.lt_irrefl _ (Nat.lt_of_lt_of_le lt (e ▸ r)))
end Base
end Jvm.Y9
namespace Jvm.Q9
open Sem ClassFile Op Lib Jvm.Stand Jvm.Free Jvm.LawKit Jvm.RoadKit Jvm.S9
def cod (t : String) : List Int32 := t.toList.map fun c => Int32.ofNat c.toNat
def HA (Z : State) (LC : List (String × Nat × String) × (Array (Array UInt16 × Addr) → Prop)) (it : Array (Array UInt16 × Addr)) (h : Heap) (Lc : List Addr) : Prop :=
  (∀ x ∈ Lc, x < h.size) ∧ (∀ c ∈ LC.1, Z.resolvedAt? c.1 c.2.1 = none → ∀ (units : Array UInt16) (a : Addr), utf16ToString? units = some c.2.2 → it.find? (fun q => q.1 == units) = some (units, a) → ∃ b kk, Str Z h a b kk (cod c.2.2) ∧ a ∈ Lc ∧ b ∈ Lc) ∧ LC.2 it
theorem HA.keep {Z : State} {LC : List (String × Nat × String) × (Array (Array UInt16 × Addr) → Prop)} {it : Array (Array UInt16 × Addr)} {h h' : Heap} {Lc ws : List Addr} (A : HA Z LC it h Lc) (K : Keep h h' ws) (q : ∀ x ∈ ws, x ∉ Lc) : HA Z LC it h' Lc :=
  ⟨fun x hx => Nat.lt_of_lt_of_le (A.1 x hx) K.1, fun c hc ho units a hu hf => by
    obtain ⟨b, kk, F, ha, hb⟩ := A.2.1 c hc ho units a hu hf
    exact ⟨b, kk, F.keep K (fun z => q _ z ha) (fun z => q _ z hb), ha, hb⟩, A.2.2⟩
def Grow (Lc Lc' : List Addr) (n : Nat) : Prop := (∀ x ∈ Lc', x ∈ Lc ∨ n ≤ x) ∧ ∀ x ∈ Lc, x ∈ Lc'
theorem Grow.refl (Lc : List Addr) (n : Nat) : Grow Lc Lc n := ⟨fun _ q => Or.inl q, fun _ q => q⟩
theorem Grow.trans {Lc Lc1 Lc2 : List Addr} {n n' : Nat} (A : Grow Lc Lc1 n) (B : Grow Lc1 Lc2 n') (q : n ≤ n') : Grow Lc Lc2 n := ⟨fun x hx => (B.1 x hx).elim (A.1 x) (fun r => Or.inr (Nat.le_trans q r)), fun x hx => B.2 x (A.2 x hx)⟩
theorem nl_new {Lc : List Addr} {a n : Nat} (h : ∀ x ∈ Lc, x < n) (g : n ≤ a) : a ∉ Lc := fun q => Nat.lt_irrefl _ (Nat.lt_of_lt_of_le (h a q) g)
theorem nl_step {Lc Lc' : List Addr} {a n : Nat} (old : a ∉ Lc) (rel : Grow Lc Lc' n) (lt : a < n) : a ∉ Lc' := fun q => (rel.1 a q).elim old fun r => Nat.lt_irrefl _ (Nat.lt_of_lt_of_le lt r)
theorem ori_ne {Lc : List Addr} {t x n0 n : Nat} (h : (t < n0 ∨ t ∈ Lc) ∨ n ≤ t) (g : n0 ≤ x) (q : x ∉ Lc) (lt : x < n) : t ≠ x := fun e => h.elim (fun r => r.elim (fun r => Nat.lt_irrefl _ (Nat.lt_of_lt_of_le r (e ▸ g))) (fun r => q (e ▸ r))) (fun r => Nat.lt_irrefl _ (Nat.lt_of_lt_of_le lt (e ▸ r)))
theorem lit_ne {Lc : List Addr} {a x n : Nat} (h : a < n ∨ a ∈ Lc) (g : n ≤ x) (q : x ∉ Lc) : a ≠ x := fun e => h.elim (fun r => Nat.lt_irrefl _ (Nat.lt_of_lt_of_le r (e ▸ g))) (fun r => q (e ▸ r))
section Base
variable {p : Program} {l : Launch} {e : Env} {R : Room} {s : State} {m : MethodId} {args : Array Value} {below : List Frame} {meth : Method} {c : Code} {T : State} {h : Heap} {n0 k n : Nat} {Z : State} {a0 : Array Value} {LC : List (String × Nat × String) × (Array (Array UInt16 × Addr) → Prop)} {Lc : List Addr}
def On (p : Program) (l : Launch) (e : Env) (R : Room) (s : State) (m : MethodId) (args : Array Value) (below : List Frame) (meth : Method) (c : Code) (Z : State) (LC : List (String × Nat × String) × (Array (Array UInt16 × Addr) → Prop)) (n0 : Nat) (T : State) (h : Heap) (k n : Nat) (Lc : List Addr) : Prop :=
  ∃ locs vm0, Stand p l e R (s.setVm vm0) m args below meth c T locs k n ∧ T.heap = h ∧ Fr n0 locs ∧ s.Since vm0 h.size ∧ Z.Warmed39 vm0 ∧ HA Z LC vm0.interned h Lc
def Aim (p : Program) (e : Env) (below : List Frame) (s : State) (CC SS n0 : Nat) (Q : Option Value → Heap → Array (Array UInt16 × Addr) → Prop) (T : State) (g : JFrame) : Prop :=
  ∃ s₂ o, Steps p.tables e below (T.setTop g) s₂ ∧ s₂.status = .running ∧ Ended s₂ below o ∧ ∃ v L, o = .returned v ∧ (Q v s₂.heap s₂.vm.interned ∧ Fr n0 L) ∧ ReturnedEndW s o s₂ L CC SS
def QW (Z : State) (LC : List (String × Nat × String) × (Array (Array UInt16 × Addr) → Prop)) (h0 : Heap) (Lc0 : List Addr) (QH : Option Value → Heap → List Addr → Prop) : Option Value → Heap → Array (Array UInt16 × Addr) → Prop := fun v h it => ∃ Lc, QH v h Lc ∧ HA Z LC it h Lc ∧ Grow Lc0 Lc h0.size
def Con (l : Launch) (Z : State) (LC : List (String × Nat × String) × (Array (Array UInt16 × Addr) → Prop)) (y : MethodName) (bytes : ByteArray) (maxL : Nat) (ret : Option FieldType) (rm : Room) (n0 : Nat) (as' : Array Value) (h0 : Heap) (Lc0 : List Addr) (QH : Option Value → Heap → List Addr → Prop) : Prop :=
  ∀ ws, MetFree l y (head1 (Cond.code y bytes maxL ret :: ws) rm) (fun a U => a = as' ∧ Z.Warmed39 U.vm ∧ U.heap = h0 ∧ HA Z LC U.vm.interned h0 Lc0) (fun _ _ _ _ _ => True) (fun _ U o U' => ∃ v L, o = .returned v ∧ (QW Z LC h0 Lc0 QH v U'.heap U'.vm.interned ∧ Fr n0 L) ∧ ReturnedEndW U o U' L rm.cells rm.slots)
def Bk (l : Launch) (R : Room) (p : Program) (e : Env) (below : List Frame) (s : State) (sargs : Array Value) (y : MethodName) (len W : Nat) (as' : Array Value) (h : Heap) (dc ds : Nat) (Z : State) (LC : List (String × Nat × String) × (Array (Array UInt16 × Addr) → Prop)) (n0 : Nat) (Lc : List Addr) (QH : Option Value → Heap → List Addr → Prop) : Prop :=
  ∀ vm0, Z.Warmed39 vm0 → HA Z LC vm0.interned h Lc → BackS l R p e below (s.setVm vm0) sargs y len W (fun A a => a = as' ∧ A.U.heap = h ∧ A.cells + dc ≤ R.cells ∧ A.slots + ds ≤ R.slots) (fun A _ v B => ∃ L, (QW Z LC h Lc QH v B.U.heap B.U.vm.interned ∧ Fr n0 L) ∧ B.locs = A.locs ++ L ∧ B.cells = A.cells + dc ∧ B.slots = A.slots + ds)
variable {CC SS : Nat} {Q : Option Value → Heap → Array (Array UInt16 × Addr) → Prop} {QH : Option Value → Heap → List Addr → Prop} {QN : Option Value → Heap → Prop} {h0 : Heap} {Lc0 : List Addr}
theorem On.here (P : On p l e R s m args below meth c Z LC n0 T h k n Lc) : At T m c below := by obtain ⟨_, _, X, -⟩ := P; exact X.here
theorem On.ltL (P : On p l e R s m args below meth c Z LC n0 T h k n Lc) : ∀ x ∈ Lc, x < h.size := by obtain ⟨_, _, _, _, _, _, _, A⟩ := P; exact A.1
theorem On.more {k' n' : Nat} (P : On p l e R s m args below meth c Z LC n0 T h k n Lc) (hk : k ≤ k') (hn : n ≤ n') : On p l e R s m args below meth c Z LC n0 T h k' n' Lc := by
  obtain ⟨L, vm0, X, r⟩ := P; exact ⟨L, vm0, X.more hk hn, r⟩
theorem ownAt {own : String} {vm0 : Vm} {n : Nat} (hS : s.Since vm0 n) (hown : s.vm.findClass own = some m.cls) : (s.setVm vm0).vm.findClass own = some m.cls := by rw [show (s.setVm vm0).vm = vm0 from rfl, hS.1.alike.findClass]; exact hown
theorem sinceUp {vm0 : Vm} {n n' : Nat} (hS : s.Since vm0 n) (q : n ≤ n') : s.Since vm0 n' := ⟨hS.1, hS.2.mono q⟩
theorem Aim.of {T' : State} {g g' : JFrame} (st : ∀ t, Steps p.tables e below (T'.setTop g') t → Steps p.tables e below (T.setTop g) t) (a : Aim p e below s CC SS n0 Q T' g') : Aim p e below s CC SS n0 Q T g := by
  obtain ⟨s2, o, h1, r⟩ := a; exact ⟨s2, o, st _ h1, r⟩
theorem Aim.cast {g g' : JFrame} (q : g = g') (a : Aim p e below s CC SS n0 Q T g') : Aim p e below s CC SS n0 Q T g := q ▸ a
theorem Con.intro {y : MethodName} {bytes : ByteArray} {maxL : Nat} {ret : Option FieldType} {rm : Room} {as' : Array Value} (pl : plainFor y = true)
    (body : ∀ (p : Program) (e : Env) (s : State) (m : MethodId) (below : List Frame) (meth : Method) (c : Code) (s₁ : State), p.tables.exec = Jvm.exec → c.code = bytes → c.maxLocals = maxL → meth.sig.returnType = ret → meth.name = y.name → s.vm.findClass y.cls = some m.cls → meth.locks = false → Z.Warmed39 s.vm → s.heap = h0 →
      On p l e rm s m as' below meth c Z LC n0 s₁ h0 0 0 Lc0 → Aim p e below s rm.cells rm.slots n0 (QW Z LC h0 Lc0 QH) s₁ (entryFrame m as' maxL)) : Con l Z LC y bytes maxL ret rm n0 as' h0 Lc0 QH := by
  intro ws
  refine MetFree.of_bodySF pl hisR ?_
  intro p e s m args below meth c s₁ Bd hml0 hP hK
  obtain ⟨rfl, hZ, hh, hA⟩ := hP
  have X0 : Stand p l e rm s m args below meth c s₁ [] 0 0 := Stand.of_body Bd
  obtain ⟨s2, o, h1, h2, h3, v, L, h4, h5, h6⟩ := body p e s m below meth c s₁ Bd.exec Bd.bytes hml0 Bd.returns (name_of_methodNamed Bd.named Bd.method).1 (findClass_of_methodNamed Bd.named) (BodyLoose.notSynchronized Bd) hZ hh ⟨[], s.vm, X0, by rw [← hh, Bd.state]; rfl, Fr.nil n0, (State.WarmedH.refl s).since _, hZ, hA⟩
  exact ⟨s2, o, h1, h2, h3, v, L, h4, h5, h6⟩
theorem Con.back {y : MethodName} {bytes : ByteArray} {maxL : Nat} {ret : Option FieldType} {rm : Room} {as' : Array Value} {len W : Nat} (hM : Con l Z LC y bytes maxL ret rm n0 as' h Lc QH) (wc : (Cond.code y bytes maxL ret).before a0 Z = true) (wz : (Cond.initialized y.cls).before a0 Z = true) (hf : rm.frames + 1 ≤ R.frames) (hl : W + (maxL + 11) + rm.locals ≤ R.locals) :
    Bk l R p e below s args y len W as' h rm.cells rm.slots Z LC n0 Lc QH := by
  intro vm0 hZ hA
  exact BackS.of_freeW (bytes := bytes) (maxL := maxL) (ret := ret) (E := fun _ _ o t L k n => k = rm.cells ∧ n = rm.slots ∧ ∃ v, o = .returned v ∧ (QW Z LC h Lc QH v t.heap t.vm.interned ∧ Fr n0 L)) (hM []) hf hl
    (fun m meth c A a Y hp => have hU : Z.Warmed39 A.U.vm := wtrans (s := s.setVm vm0) hZ Y.warmed
      ⟨by show (Cond.and _ .tt).before a A.U = true; rw [Cond.before_and, mv hU wc]; rfl, mv hU wc, mv hU wz, hp.2.2.1, hp.2.2.2⟩)
    (fun m meth c A a g mk Y hp => ⟨hp.1, wtrans (s := s.setVm vm0) hZ Y.warmed, hp.2.1, by show HA Z LC A.U.vm.interned h Lc; rw [Y.warmed.interned_eq]; exact hA⟩) (fun _ _ _ _ _ _ _ _ _ => trivial)
    (fun _ _ _ _ ⟨v, L, h1, h2, h3⟩ => ⟨L, _, _, h3, rfl, rfl, v, h1, h2⟩)
    (fun m meth c A a g mk v t L k n Y hp _ _ ⟨e1, e2, v', e3, e4⟩ => by cases e3; subst e1 e2; exact ⟨L, e4, rfl, rfl, rfl⟩)
/-! the ways out -/
theorem Aim.retN {t : FieldType} {pc : Nat} {Ls : Array Slot} {z : Int32} {rest : List Value} (P : On p l e R s m args below meth c Z LC n0 T h k n Lc) (hx : p.tables.exec = Jvm.exec) (hlk : meth.locks = false) (hret : meth.sig.returnType = some t) (ht : t = .boolean ∨ t = .byte ∨ t = .char ∨ t = .short) (hd : decode c.code pc = .ok (.ireturn, 1))
    (hk : k ≤ CC) (hn : n ≤ SS) (hl : Grow Lc0 Lc h0.size) (q : QH (some (.int (nar t z))) h Lc) : Aim p e below s CC SS n0 (QW Z LC h0 Lc0 QH) T (mkF m pc Ls (.int z :: rest)) := by
  obtain ⟨L, vm0, X, eT, N, hS, hZ, A⟩ := P
  obtain ⟨fs, hr, hrun, hended, hW, hsame⟩ := X.leave (v := (some (.int (nar t z)))) (fun h => by rw [hret] at h; cases h) hlk
  obtain ⟨r1, r2, r3⟩ := hS.ended hW (by show h.size ≤ T.heap.size; rw [eT]; exact Nat.le_refl _) hsame
  refine ⟨_, _, Jvm.RoadKit.retN X hx hret ht hd hr, hrun, hended, _, _, rfl, ⟨⟨Lc, by show QH _ T.heap Lc; rw [eT]; exact q, ?_, hl⟩, N⟩, ⟨_, rfl⟩, r1, r2, r3.mono hk hn⟩
  have ei : (T.setFrames fs).vm.interned = vm0.interned := hW.interned_eq
  rw [ei]
  show HA Z LC vm0.interned T.heap Lc
  rw [eT]; exact A
theorem Aim.retW {t : FieldType} {i : Instr} {pc : Nat} {Ls : Array Slot} {w : Value} {rest : List Value} (P : On p l e R s m args below meth c Z LC n0 T h k n Lc) (hx : p.tables.exec = Jvm.exec) (hlk : meth.locks = false) (hret : meth.sig.returnType = some t) (hn' : narrow t w = w) (hi : (i = .ireturn ∧ (t = .int ∨ t = .boolean ∨ t = .byte ∨ t = .char ∨ t = .short) ∧ ∃ z, w = .int z) ∨ (i = .lreturn ∧ t = .long ∧ ∃ z, w = .long z) ∨ (i = .dreturn ∧ t = .double ∧ ∃ z, w = .double z) ∨ (i = .freturn ∧ t = .float ∧ ∃ z, w = .float z) ∨ (i = .areturn ∧ t.isReference = true ∧ w.isRef = true)) (hd : decode c.code pc = .ok (i, 1))
    (hk : k ≤ CC) (hn : n ≤ SS) (hl : Grow Lc0 Lc h0.size) (q : QH (some w) h Lc) : Aim p e below s CC SS n0 (QW Z LC h0 Lc0 QH) T (mkF m pc Ls (w :: rest)) := by
  obtain ⟨L, vm0, X, eT, N, hS, hZ, A⟩ := P
  obtain ⟨fs, hr, hrun, hended, hW, hsame⟩ := X.leave (v := (some w)) (fun h => by rw [hret] at h; cases h) hlk
  obtain ⟨r1, r2, r3⟩ := hS.ended hW (by show h.size ≤ T.heap.size; rw [eT]; exact Nat.le_refl _) hsame
  refine ⟨_, _, Jvm.RoadKit.retOut X hx hret hn' hi hd hr, hrun, hended, _, _, rfl, ⟨⟨Lc, by show QH _ T.heap Lc; rw [eT]; exact q, ?_, hl⟩, N⟩, ⟨_, rfl⟩, r1, r2, r3.mono hk hn⟩
  have ei : (T.setFrames fs).vm.interned = vm0.interned := hW.interned_eq
  rw [ei]
  show HA Z LC vm0.interned T.heap Lc
  rw [eT]; exact A
theorem Aim.retV {pc : Nat} {Ls : Array Slot} (P : On p l e R s m args below meth c Z LC n0 T h k n Lc) (hx : p.tables.exec = Jvm.exec) (hlk : meth.locks = false) (hret : meth.sig.returnType = none) (hd : decode c.code pc = .ok (.return_, 1))
    (hk : k ≤ CC) (hn : n ≤ SS) (hl : Grow Lc0 Lc h0.size) (q : QH none h Lc) : Aim p e below s CC SS n0 (QW Z LC h0 Lc0 QH) T (mkF m pc Ls []) := by
  obtain ⟨L, vm0, X, eT, N, hS, hZ, A⟩ := P
  obtain ⟨fs, hr, hrun, hended, hW, hsame⟩ := X.leave (v := none) (fun _ => rfl) hlk
  obtain ⟨r1, r2, r3⟩ := hS.ended hW (by show h.size ≤ T.heap.size; rw [eT]; exact Nat.le_refl _) hsame
  refine ⟨_, _, X.returnOut hx hret hd hr, hrun, hended, _, _, rfl, ⟨⟨Lc, by show QH _ T.heap Lc; rw [eT]; exact q, ?_, hl⟩, N⟩, ⟨_, rfl⟩, r1, r2, r3.mono hk hn⟩
  have ei : (T.setFrames fs).vm.interned = vm0.interned := hW.interned_eq
  rw [ei]
  show HA Z LC vm0.interned T.heap Lc
  rw [eT]; exact A
theorem Aim.retI {pc : Nat} {Ls : Array Slot} {z : Int32} {rest : List Value} (P : On p l e R s m args below meth c Z LC n0 T h k n Lc) (hx : p.tables.exec = Jvm.exec) (hlk : meth.locks = false) (hret : meth.sig.returnType = some .int) (hd : decode c.code pc = .ok (.ireturn, 1))
    (hk : k ≤ CC) (hn : n ≤ SS) (hl : Grow Lc0 Lc h0.size) (q : QH (some (.int z)) h Lc) : Aim p e below s CC SS n0 (QW Z LC h0 Lc0 QH) T (mkF m pc Ls (.int z :: rest)) := Aim.retW P hx hlk hret rfl (Or.inl ⟨rfl, Or.inl rfl, z, rfl⟩) hd hk hn hl q
theorem Aim.retJ {pc : Nat} {Ls : Array Slot} {z : Int64} {rest : List Value} (P : On p l e R s m args below meth c Z LC n0 T h k n Lc) (hx : p.tables.exec = Jvm.exec) (hlk : meth.locks = false) (hret : meth.sig.returnType = some .long) (hd : decode c.code pc = .ok (.lreturn, 1))
    (hk : k ≤ CC) (hn : n ≤ SS) (hl : Grow Lc0 Lc h0.size) (q : QH (some (.long z)) h Lc) : Aim p e below s CC SS n0 (QW Z LC h0 Lc0 QH) T (mkF m pc Ls (.long z :: rest)) := Aim.retW P hx hlk hret rfl (Or.inr (Or.inl ⟨rfl, rfl, z, rfl⟩)) hd hk hn hl q
theorem Aim.retA {t : FieldType} {pc : Nat} {Ls : Array Slot} {w : Value} {rest : List Value} (P : On p l e R s m args below meth c Z LC n0 T h k n Lc) (hx : p.tables.exec = Jvm.exec) (hlk : meth.locks = false) (hret : meth.sig.returnType = some t) (ht : t.isReference = true) (hw : w.isRef = true) (hd : decode c.code pc = .ok (.areturn, 1))
    (hk : k ≤ CC) (hn : n ≤ SS) (hl : Grow Lc0 Lc h0.size) (q : QH (some w) h Lc) : Aim p e below s CC SS n0 (QW Z LC h0 Lc0 QH) T (mkF m pc Ls (w :: rest)) := by
  have hn' : narrow t w = w := by cases t <;> cases w <;> first | rfl | (cases ht; done) | (cases hw; done)
  exact Aim.retW P hx hlk hret hn' (Or.inr (Or.inr (Or.inr (Or.inr ⟨rfl, ht, hw⟩)))) hd hk hn hl q
/-! steps that meet the heap -/
theorem Aim.newO {own C : String} {index nn pc : Nat} {Ls : Array Slot} {st : List Value} (P : On p l e R s m args below meth c Z LC n0 T h k n Lc) (hx : p.tables.exec = Jvm.exec) (hZs : Z.Warmed39 s.vm) (hown : s.vm.findClass own = some m.cls) (w : (Cond.classLink own index C).before a0 Z = true) (wi : (Cond.instantiable C nn).before a0 Z = true) (wz : (Cond.initialized C).before a0 Z = true)
    (hd : decode c.code pc = .ok (.new index, 3)) (hc : k + 1 ≤ R.cells) (hl : n + nn ≤ R.slots)
    (cont : ∀ T' h' b, b = h.size → On p l e R s m args below meth c Z LC n0 T' h' (k + 1) (n + nn) Lc → Ext h h' → Exa Z h' b C → (∀ {O nm d : String} {ty : FieldType}, Laid Z a0 C O nm d → parseFieldDescriptor d = some ty → Fld Z h' b O nm d (defaultValue ty)) → Unt h' b → Aim p e below s CC SS n0 Q T' (mkF m (pc + 3) Ls (.ref b :: st))) :
    Aim p e below s CC SS n0 Q T (mkF m pc Ls st) := by
  obtain ⟨L, vm0, X, eT, N, hS, hZ, A⟩ := P
  have hown' := ownAt hS hown
  obtain ⟨T', h', X', e', E, A', D, U, st'⟩ := RoadKit.newO (s := s.setVm vm0) X hx hZ hown' w wi wz eT (g := mkF m pc Ls st) rfl hd hc hl
  exact Aim.of st' (cont T' h' _ rfl ⟨L, vm0, X', e', N, sinceUp hS E.1, hZ, A.keep ((Keep.refl _ []).ext E) (fun _ q => nomatch q)⟩ E A' D U)
theorem Aim.newP {aty : ArrayType} {pc : Nat} {Ls : Array Slot} {z : Int32} {st : List Value} (P : On p l e R s m args below meth c Z LC n0 T h k n Lc) (hx : p.tables.exec = Jvm.exec) (hZs : Z.Warmed39 s.vm) (w : (Cond.arrayClass (newarray.typeOf aty)).before a0 Z = true) (hd : decode c.code pc = .ok (.newarray aty, 2))
    (hz : ¬ z < 0) {cap : Nat} (hcap : z.toNatClampNeg ≤ cap) (hb : cap * 8 ≤ 536870912) (hc : k + 1 ≤ R.cells) (hl : n + cap ≤ R.slots)
    (cont : ∀ T' h' kk b, b = h.size → On p l e R s m args below meth c Z LC n0 T' h' (k + 1) (n + cap) Lc → Ext h h' → Arv Z h' b kk (newarray.typeOf aty) z [] (defaultValue (newarray.typeOf aty)) → Aim p e below s CC SS n0 Q T' (mkF m (pc + 2) Ls (.ref b :: st))) :
    Aim p e below s CC SS n0 Q T (mkF m pc Ls (.int z :: st)) := by
  obtain ⟨L, vm0, X, eT, N, hS, hZ, A⟩ := P
  obtain ⟨T', h', kk, X', e', E, A', st'⟩ := RoadKit.newP (s := s.setVm vm0) X hx hZ w eT (g := mkF m pc Ls (.int z :: st)) rfl hd rfl hz hcap hb hc hl
  exact Aim.of st' (cont T' h' kk _ rfl ⟨L, vm0, X', e', N, sinceUp hS E.1, hZ, A.keep ((Keep.refl _ []).ext E) (fun _ q => nomatch q)⟩ E (Arv.new A' hz))
theorem Aim.newR {own C : String} {index pc : Nat} {Ls : Array Slot} {z : Int32} {st : List Value} (P : On p l e R s m args below meth c Z LC n0 T h k n Lc) (hx : p.tables.exec = Jvm.exec) (hZs : Z.Warmed39 s.vm) (hown : s.vm.findClass own = some m.cls) (w1 : (Cond.classLink own index C).before a0 Z = true) (w2 : (Cond.arrayOver (.object C)).before a0 Z = true) (hd : decode c.code pc = .ok (.anewarray index, 3))
    (hz : ¬ z < 0) {cap : Nat} (hcap : z.toNatClampNeg ≤ cap) (hb : cap * 8 ≤ 536870912) (hc : k + 1 ≤ R.cells) (hl : n + cap ≤ R.slots)
    (cont : ∀ T' h' kk b, b = h.size → On p l e R s m args below meth c Z LC n0 T' h' (k + 1) (n + cap) Lc → Ext h h' → Arv Z h' b kk (.object C) z [] .null → Ovr Z kk C → Aim p e below s CC SS n0 Q T' (mkF m (pc + 3) Ls (.ref b :: st))) :
    Aim p e below s CC SS n0 Q T (mkF m pc Ls (.int z :: st)) := by
  obtain ⟨L, vm0, X, eT, N, hS, hZ, A⟩ := P
  have hown' := ownAt hS hown
  obtain ⟨T', h', kk, X', e', E, A', O, st'⟩ := RoadKit.newR (s := s.setVm vm0) X hx hZ hown' w1 w2 eT (g := mkF m pc Ls (.int z :: st)) rfl hd rfl hz hcap hb hc hl
  exact Aim.of st' (cont T' h' kk _ rfl ⟨L, vm0, X', e', N, sinceUp hS E.1, hZ, A.keep ((Keep.refl _ []).ext E) (fun _ q => nomatch q)⟩ E (Arv.new A' hz) O)
theorem Aim.getF {own R0 O f d host : String} {index pc : Nat} {Ls : Array Slot} {st : List Value} {a : Addr} {v : Value} (P : On p l e R s m args below meth c Z LC n0 T h k n Lc) (hx : p.tables.exec = Jvm.exec) (hZs : Z.Warmed39 s.vm) (hown : s.vm.findClass own = some m.cls) (w : (Cond.fieldLink own index R0 f d).before a0 Z = true ∨ (Cond.fieldLinkNest own index R0 f d host).before a0 Z = true) (via : Via Z R0 O f d) (F : Fld Z h a O f d v) (hd : decode c.code pc = .ok (.getfield index, 3)) (cont : ∀ T', On p l e R s m args below meth c Z LC n0 T' h k n Lc → Aim p e below s CC SS n0 Q T' (mkF m (pc + 3) Ls (v :: st))) :
    Aim p e below s CC SS n0 Q T (mkF m pc Ls (.ref a :: st)) := by
  obtain ⟨L, vm0, X, eT, N, hS, hZ, A⟩ := P
  have hown' := ownAt hS hown
  obtain ⟨T', X', e', st'⟩ := RoadKit.getF (s := s.setVm vm0) X hx hZ hown' w via eT F (g := (mkF m pc Ls (.ref a :: st))) rfl rfl hd
  exact Aim.of st' (cont T' ⟨L, vm0, X', e', N, hS, hZ, A⟩)
theorem Aim.getS {own R0 O f d : String} {index pc : Nat} {Ls : Array Slot} {st : List Value} {v : Value} (P : On p l e R s m args below meth c Z LC n0 T h k n Lc) (hx : p.tables.exec = Jvm.exec) (hZs : Z.Warmed39 s.vm) (hown : s.vm.findClass own = some m.cls) (w : (Cond.fieldLink own index R0 f d).before a0 Z = true) (via : Via Z R0 O f d) (F : Sta Z h O f d v) (hd : decode c.code pc = .ok (.getstatic index, 3)) (cont : ∀ T', On p l e R s m args below meth c Z LC n0 T' h k n Lc → Aim p e below s CC SS n0 Q T' (mkF m (pc + 3) Ls (v :: st))) :
    Aim p e below s CC SS n0 Q T (mkF m pc Ls st) := by
  obtain ⟨L, vm0, X, eT, N, hS, hZ, A⟩ := P
  have hown' := ownAt hS hown
  obtain ⟨T', X', e', st'⟩ := RoadKit.getS (s := s.setVm vm0) (host := "") X hx hZ hown' w via eT F (g := (mkF m pc Ls st)) rfl hd
  exact Aim.of st' (cont T' ⟨L, vm0, X', e', N, hS, hZ, A⟩)
theorem Aim.getS2 {own R0 O f d host : String} {index pc : Nat} {Ls : Array Slot} {st : List Value} {v : Value} (P : On p l e R s m args below meth c Z LC n0 T h k n Lc) (hx : p.tables.exec = Jvm.exec) (hZs : Z.Warmed39 s.vm) (hown : s.vm.findClass own = some m.cls) (w : (Cond.fieldLink own index R0 f d).before a0 Z = true ∨ (Cond.fieldLinkNest own index R0 f d host).before a0 Z = true) (via : Via Z R0 O f d) (F : Sta Z h O f d v) (hd : decode c.code pc = .ok (.getstatic index, 3)) (cont : ∀ T', On p l e R s m args below meth c Z LC n0 T' h k n Lc → Aim p e below s CC SS n0 Q T' (mkF m (pc + 3) Ls (v :: st))) :
    Aim p e below s CC SS n0 Q T (mkF m pc Ls st) := by
  obtain ⟨L, vm0, X, eT, N, hS, hZ, A⟩ := P
  have hown' := ownAt hS hown
  obtain ⟨T', X', e', st'⟩ := RoadKit.getS2 (s := s.setVm vm0) X hx hZ hown' w via eT F (g := (mkF m pc Ls st)) rfl hd
  exact Aim.of st' (cont T' ⟨L, vm0, X', e', N, hS, hZ, A⟩)
theorem Aim.castY {own K : String} {index pc : Nat} {Ls : Array Slot} {st : List Value} {a : Addr} (P : On p l e R s m args below meth c Z LC n0 T h k n Lc) (hx : p.tables.exec = Jvm.exec) (hZs : Z.Warmed39 s.vm) (hown : s.vm.findClass own = some m.cls) (w : (Cond.classLink own index K).before a0 Z = true) (F : Ins Z h a K true) (hd : decode c.code pc = .ok (.checkcast index, 3)) (cont : ∀ T', On p l e R s m args below meth c Z LC n0 T' h k n Lc → Aim p e below s CC SS n0 Q T' (mkF m (pc + 3) Ls (.ref a :: st))) :
    Aim p e below s CC SS n0 Q T (mkF m pc Ls (.ref a :: st)) := by
  obtain ⟨L, vm0, X, eT, N, hS, hZ, A⟩ := P
  have hown' := ownAt hS hown
  obtain ⟨T', X', e', st'⟩ := RoadKit.castY (s := s.setVm vm0) X hx hZ hown' w eT F (g := (mkF m pc Ls (.ref a :: st))) rfl rfl hd
  exact Aim.of st' (cont T' ⟨L, vm0, X', e', N, hS, hZ, A⟩)
theorem Aim.instY {own K : String} {index pc : Nat} {Ls : Array Slot} {st : List Value} {a : Addr} (P : On p l e R s m args below meth c Z LC n0 T h k n Lc) (hx : p.tables.exec = Jvm.exec) (hZs : Z.Warmed39 s.vm) (hown : s.vm.findClass own = some m.cls) (w : (Cond.classLink own index K).before a0 Z = true) (F : Ins Z h a K true) (hd : decode c.code pc = .ok (.instanceof index, 3)) (cont : ∀ T', On p l e R s m args below meth c Z LC n0 T' h k n Lc → Aim p e below s CC SS n0 Q T' (mkF m (pc + 3) Ls (.int 1 :: st))) :
    Aim p e below s CC SS n0 Q T (mkF m pc Ls (.ref a :: st)) := by
  obtain ⟨L, vm0, X, eT, N, hS, hZ, A⟩ := P
  have hown' := ownAt hS hown
  obtain ⟨T', X', e', st'⟩ := RoadKit.instY (s := s.setVm vm0) X hx hZ hown' w eT F (g := (mkF m pc Ls (.ref a :: st))) rfl rfl hd
  exact Aim.of st' (cont T' ⟨L, vm0, X', e', N, hS, hZ, A⟩)
theorem Aim.putF {own R0 O f d host C : String} {index kk pc : Nat} {ty : FieldType} {Ls : Array Slot} {st : List Value} {a : Addr} {v old : Value} (P : On p l e R s m args below meth c Z LC n0 T h k n Lc) (hx : p.tables.exec = Jvm.exec) (hZs : Z.Warmed39 s.vm) (hown : s.vm.findClass own = some m.cls) (w : (Cond.fieldLink own index R0 f d).before a0 Z = true ∨ (Cond.fieldLinkNest own index R0 f d host).before a0 Z = true) (via : Via Z R0 O f d)
    (F : Fld Z h a O f d old) (E : Exa Z h a C) (hL : (Cond.lays C O f d).before a0 Z = true ∨ ((Cond.laysFinal C O f d).before a0 Z = true ∧ own = O ∧ meth.name = "<init>")) (wi : (Cond.instantiable C kk).before a0 Z = true)
    (hty : parseFieldDescriptor d = some ty) (hn : narrow ty v = v) (hf : fits ty v = true) (hd : decode c.code pc = .ok (.putfield index, 3)) (ga : n0 ≤ a) (nl : a ∉ Lc)
    (cont : ∀ T' h', On p l e R s m args below meth c Z LC n0 T' h' k n Lc → Wr h h' a (Jvm.RoadKit.slotOf Z O f d) v → Aim p e below s CC SS n0 Q T' (mkF m (pc + 3) Ls st)) :
    Aim p e below s CC SS n0 Q T (mkF m pc Ls (v :: .ref a :: st)) := by
  obtain ⟨L, vm0, X, eT, N, hS, hZ, A⟩ := P
  have hown' := ownAt hS hown
  obtain ⟨T', h', X', e', W, st'⟩ := RoadKit.putF (s := s.setVm vm0) X hx hZ hown' w via eT F E hL wi hty hn hf (g := mkF m pc Ls (v :: .ref a :: st)) rfl rfl hd
  exact Aim.of st' (cont T' h' ⟨_, vm0, X', e', Fr.snoc X' N ga, sinceUp hS (Keep.of_wr W).1, hZ, A.keep (Keep.of_wr W) (allS nl all0)⟩ W)
theorem Aim.stC {pc : Nat} {Ls : Array Slot} {st : List Value} {a : Addr} {kk : ClassId} {j x z : Int32} {vs : List Value} {dv : Value} (P : On p l e R s m args below meth c Z LC n0 T h k n Lc) (hx : p.tables.exec = Jvm.exec) (hZs : Z.Warmed39 s.vm) (V : Arv Z h a kk .char z vs dv) (hj : ¬ j < 0 ∧ j < z) (i : Nat) (hi : j.toNatClampNeg = i) (hv : i < vs.length)
    (hd : decode c.code pc = .ok (.castore, 1)) (ga : n0 ≤ a) (nl : a ∉ Lc) (cont : ∀ T' h', On p l e R s m args below meth c Z LC n0 T' h' k n Lc → Keep h h' [a] → Arv Z h' a kk .char z (vs.set i (.int (nar .char x))) dv → Aim p e below s CC SS n0 Q T' (mkF m (pc + 1) Ls st)) :
    Aim p e below s CC SS n0 Q T (mkF m pc Ls (.int x :: .int j :: .ref a :: st)) := by
  obtain ⟨L, vm0, X, eT, N, hS, hZ, A⟩ := P
  obtain ⟨cl, B, q, S, M, H, U⟩ := V
  obtain ⟨T', h', X', e', W, st'⟩ := RoadKit.stC (s := s.setVm vm0) X hx hZ eT B (j := j) (inb_of S hj) (g := mkF m pc Ls (.int x :: .int j :: .ref a :: st)) rfl rfl hd
  exact Aim.of st' (cont T' h' ⟨_, vm0, X', e', Fr.snoc X' N ga, sinceUp hS (Keep.of_wr W).1, hZ, A.keep (Keep.of_wr W) (allS nl all0)⟩ (Keep.of_wr W) (Arv.set B q S M H U (fits_nar_char _) W i hi hv))
theorem Aim.stB {pc : Nat} {Ls : Array Slot} {st : List Value} {a : Addr} {kk : ClassId} {j x z : Int32} {vs : List Value} {dv : Value} (P : On p l e R s m args below meth c Z LC n0 T h k n Lc) (hx : p.tables.exec = Jvm.exec) (hZs : Z.Warmed39 s.vm) (V : Arv Z h a kk .byte z vs dv) (hj : ¬ j < 0 ∧ j < z) (i : Nat) (hi : j.toNatClampNeg = i) (hv : i < vs.length)
    (hd : decode c.code pc = .ok (.bastore, 1)) (ga : n0 ≤ a) (nl : a ∉ Lc) (cont : ∀ T' h', On p l e R s m args below meth c Z LC n0 T' h' k n Lc → Keep h h' [a] → Arv Z h' a kk .byte z (vs.set i (.int x.toInt8.toInt32)) dv → Aim p e below s CC SS n0 Q T' (mkF m (pc + 1) Ls st)) :
    Aim p e below s CC SS n0 Q T (mkF m pc Ls (.int x :: .int j :: .ref a :: st)) := by
  obtain ⟨L, vm0, X, eT, N, hS, hZ, A⟩ := P
  obtain ⟨cl, B, q, S, M, H, U⟩ := V
  obtain ⟨T', h', X', e', W, st'⟩ := RoadKit.stB (s := s.setVm vm0) X hx hZ eT B (j := j) (inb_of S hj) (g := mkF m pc Ls (.int x :: .int j :: .ref a :: st)) rfl rfl hd
  exact Aim.of st' (cont T' h' ⟨_, vm0, X', e', Fr.snoc X' N ga, sinceUp hS (Keep.of_wr W).1, hZ, A.keep (Keep.of_wr W) (allS nl all0)⟩ (Keep.of_wr W) (Arv.set B q S M H U (fits_nar_byte _) W i hi hv))
theorem Aim.alen {pc : Nat} {Ls : Array Slot} {st : List Value} {a : Addr} {kk : ClassId} {ty : FieldType} {z : Int32} {vs : List Value} {dv : Value} (P : On p l e R s m args below meth c Z LC n0 T h k n Lc) (hx : p.tables.exec = Jvm.exec) (hZs : Z.Warmed39 s.vm) (V : Arv Z h a kk ty z vs dv)
    (hd : decode c.code pc = .ok (.arraylength, 1)) (cont : Aim p e below s CC SS n0 Q T (mkF m (pc + 1) Ls (.int z :: st))) : Aim p e below s CC SS n0 Q T (mkF m pc Ls (.ref a :: st)) := by
  obtain ⟨L, vm0, X, eT, N, hS, hZ, A⟩ := P
  obtain ⟨cl, B, q, S, M, H, U⟩ := V
  refine Aim.of (fun t kt => X.arraylength hx (by rw [eT]; exact B.1) (State.isArrayOf_alike (s := Z) (T := s.setVm vm0) hZ.alike B.2.1) (g := mkF m pc Ls (.ref a :: st)) rfl rfl hd t ?_) cont
  rw [len_of S M]; exact kt
theorem Aim.ldC {pc : Nat} {Ls : Array Slot} {st : List Value} {a : Addr} {kk : ClassId} {j z : Int32} {vs : List Value} {dv v : Value} (P : On p l e R s m args below meth c Z LC n0 T h k n Lc) (hx : p.tables.exec = Jvm.exec) (hZs : Z.Warmed39 s.vm) (V : Arv Z h a kk .char z vs dv) (hj : ¬ j < 0 ∧ j < z) (hv : vs.getD j.toNatClampNeg dv = v)
    (hd : decode c.code pc = .ok (.caload, 1)) (cont : Aim p e below s CC SS n0 Q T (mkF m (pc + 1) Ls (v :: st))) : Aim p e below s CC SS n0 Q T (mkF m pc Ls (.int j :: .ref a :: st)) := by
  obtain ⟨L, vm0, X, eT, N, hS, hZ, A⟩ := P
  obtain ⟨cl, B, q, S, M, H, U⟩ := V
  exact Aim.of (fun t kt => X.caload hx (j := j) (v := v) (by rw [eT]; exact B.1) (State.isArrayOf_alike (s := Z) (T := s.setVm vm0) hZ.alike B.2.1) B.2.2 (inb_of S hj) (H.at (inb_of S hj) hv) (g := mkF m pc Ls (.int j :: .ref a :: st)) rfl rfl hd t kt) cont
theorem Aim.ldB {pc : Nat} {Ls : Array Slot} {st : List Value} {a : Addr} {kk : ClassId} {j z : Int32} {vs : List Value} {dv v : Value} (P : On p l e R s m args below meth c Z LC n0 T h k n Lc) (hx : p.tables.exec = Jvm.exec) (hZs : Z.Warmed39 s.vm) (V : Arv Z h a kk .byte z vs dv) (hj : ¬ j < 0 ∧ j < z) (hv : vs.getD j.toNatClampNeg dv = v)
    (hd : decode c.code pc = .ok (.baload, 1)) (cont : Aim p e below s CC SS n0 Q T (mkF m (pc + 1) Ls (v :: st))) : Aim p e below s CC SS n0 Q T (mkF m pc Ls (.int j :: .ref a :: st)) := by
  obtain ⟨L, vm0, X, eT, N, hS, hZ, A⟩ := P
  obtain ⟨cl, B, q, S, M, H, U⟩ := V
  exact Aim.of (fun t kt => X.baloadBytes hx (j := j) (v := v) (by rw [eT]; exact B.1) (State.isArrayOf_alike (s := Z) (T := s.setVm vm0) hZ.alike B.2.1) B.2.2 (inb_of S hj) (H.at (inb_of S hj) hv) (g := mkF m pc Ls (.int j :: .ref a :: st)) rfl rfl hd t kt) cont
theorem Aim.initO {own : String} {index pc mx : Nat} {Ls : Array Slot} {st : List Value} {a : Addr} (P : On p l e R s m args below meth c Z LC n0 T h k n Lc) (hx : p.tables.exec = Jvm.exec) (hZs : Z.Warmed39 s.vm) (hml : c.maxLocals = mx) (hown : s.vm.findClass own = some m.cls) (w1 : (Cond.methodLink own index Lib.objectInit).before a0 Z = true) (w2 : (Cond.instanceMethod Lib.objectInit).before a0 Z = true)
    (w3 : (Cond.code Lib.objectInit ⟨#[0xb1]⟩ 1 none).before a0 Z = true) (hsz : Ls.size = mx) (hd : decode c.code pc = .ok (.invokespecial index, 3)) (hf : 1 ≤ R.frames) (hl : (st.map fun v => v.category).sum + 12 ≤ R.locals)
    (cont : ∀ T', On p l e R s m args below meth c Z LC n0 T' h k n Lc → Aim p e below s CC SS n0 Q T' (mkF m (pc + 3) Ls st)) : Aim p e below s CC SS n0 Q T (mkF m pc Ls (.ref a :: st)) := by
  obtain ⟨L, vm0, X, eT, N, hS, hZ, A⟩ := P
  have hown' := ownAt hS hown
  obtain ⟨T', X', e', st'⟩ := RoadKit.initO (s := s.setVm vm0) X hx hZ hown' w1 w2 w3 eT (g := mkF m pc Ls (.ref a :: st)) rfl (by rw [hml]; exact hsz) rfl hd hf (W := (st.map fun v => v.category).sum) (by show 2 * 0 + _ ≤ _; omega) hl
  exact Aim.of st' (cont T' ⟨L, vm0, X', e', N, hS, hZ, A⟩)
theorem Aim.ldcI {own : String} {index pc : Nat} {Ls : Array Slot} {st : List Value} {v : Int32} (P : On p l e R s m args below meth c Z LC n0 T h k n Lc) (hx : p.tables.exec = Jvm.exec) (hZs : Z.Warmed39 s.vm) (hown : s.vm.findClass own = some m.cls) (w : (Cond.constant own index v).before a0 Z = true) (hd : decode c.code pc = .ok (.ldc index, 2))
    (cont : Aim p e below s CC SS n0 Q T (mkF m (pc + 2) Ls (.int v :: st))) : Aim p e below s CC SS n0 Q T (mkF m pc Ls st) := by
  obtain ⟨L, vm0, X, eT, N, hS, hZ, A⟩ := P
  have hown' := ownAt hS hown
  exact Aim.of (fun t kt => X.ldcInt hx hown' (mvT (s := s.setVm vm0) hZ w) (g := mkF m pc Ls st) rfl hd t kt) cont
theorem Aim.ldcwI {own : String} {index pc : Nat} {Ls : Array Slot} {st : List Value} {v : Int32} (P : On p l e R s m args below meth c Z LC n0 T h k n Lc) (hx : p.tables.exec = Jvm.exec) (hZs : Z.Warmed39 s.vm) (hown : s.vm.findClass own = some m.cls) (w : (Cond.constant own index v).before a0 Z = true) (hd : decode c.code pc = .ok (.ldc_w index, 3))
    (cont : Aim p e below s CC SS n0 Q T (mkF m (pc + 3) Ls (.int v :: st))) : Aim p e below s CC SS n0 Q T (mkF m pc Ls st) := by
  obtain ⟨L, vm0, X, eT, N, hS, hZ, A⟩ := P
  have hown' := ownAt hS hown
  exact Aim.of (fun t kt => X.ldcwInt hx hown' (mvT (s := s.setVm vm0) hZ w) (g := mkF m pc Ls st) rfl hd t kt) cont
theorem Aim.ldcJ {own : String} {index pc : Nat} {Ls : Array Slot} {st : List Value} {v : Int64} (P : On p l e R s m args below meth c Z LC n0 T h k n Lc) (hx : p.tables.exec = Jvm.exec) (hZs : Z.Warmed39 s.vm) (hown : s.vm.findClass own = some m.cls) (w : (Cond.constantLong own index v).before a0 Z = true) (hd : decode c.code pc = .ok (.ldc2_w index, 3))
    (cont : Aim p e below s CC SS n0 Q T (mkF m (pc + 3) Ls (.long v :: st))) : Aim p e below s CC SS n0 Q T (mkF m pc Ls st) := by
  obtain ⟨L, vm0, X, eT, N, hS, hZ, A⟩ := P
  have hown' := ownAt hS hown
  exact Aim.of (fun t kt => X.ldc2Long hx hown' (mvT (s := s.setVm vm0) hZ w) (g := mkF m pc Ls st) rfl hd t kt) cont
theorem Aim.instNull {index pc : Nat} {Ls : Array Slot} {st : List Value} (P : On p l e R s m args below meth c Z LC n0 T h k n Lc) (hx : p.tables.exec = Jvm.exec) (hd : decode c.code pc = .ok (.instanceof index, 3))
    (cont : Aim p e below s CC SS n0 Q T (mkF m (pc + 3) Ls (.int 0 :: st))) : Aim p e below s CC SS n0 Q T (mkF m pc Ls (.null :: st)) := by
  obtain ⟨L, vm0, X, eT, N, hS, hZ, A⟩ := P
  exact Aim.of (fun t kt => X.instanceofNull hx (g := mkF m pc Ls (.null :: st)) rfl rfl hd t kt) cont
theorem Aim.castNull {index pc : Nat} {Ls : Array Slot} {st : List Value} (P : On p l e R s m args below meth c Z LC n0 T h k n Lc) (hx : p.tables.exec = Jvm.exec) (hd : decode c.code pc = .ok (.checkcast index, 3))
    (cont : Aim p e below s CC SS n0 Q T (mkF m (pc + 3) Ls (.null :: st))) : Aim p e below s CC SS n0 Q T (mkF m pc Ls (.null :: st)) := by
  obtain ⟨L, vm0, X, eT, N, hS, hZ, A⟩ := P
  exact Aim.of (fun t kt => X.checkcastNull hx (g := mkF m pc Ls (.null :: st)) rfl rfl hd t kt) cont
/-! calls -/
theorem Aim.callS {own : String} {index pc mx maxL dc ds W : Nat} {y : MethodName} {bytes : ByteArray} {ret : Option FieldType} {ps : List FieldType} {r : Option FieldType} {Ls : Array Slot} {argsL rest : List Value} {ws : List Addr} (P : On p l e R s m args below meth c Z LC n0 T h k n Lc) (hx : p.tables.exec = Jvm.exec) (hZs : Z.Warmed39 s.vm) (hml : c.maxLocals = mx) (hown : s.vm.findClass own = some m.cls)
    (w1 : (Cond.methodLink own index y).before a0 Z = true) (w2 : (Cond.static y).before a0 Z = true) (w3 : (Cond.initialized y.cls).before a0 Z = true) (w4 : (Cond.code y bytes maxL ret).before a0 Z = true) (hy : y.cls ≠ "java/lang/invoke/MethodHandle" ∧ y.cls ≠ "java/lang/invoke/VarHandle")
    (hK : ∀ vm0, Z.Warmed39 vm0 → Jvm.Y9.Bk l R p e below (s.setVm vm0) args y 3 W argsL.toArray h dc ds n0 QN) (qk : ∀ v h', QN v h' → Keep h h' ws) (hnl : ∀ x ∈ ws, x ∉ Lc) (hsz : Ls.size = mx) (hpd : parseMethodDescriptor y.desc = some ⟨ps, r⟩) (hln : argsL.length = ps.length) (hW : (rest.map fun v => v.category).sum ≤ W) (hd : decode c.code pc = .ok (.invokestatic index, 3)) (hc : k + dc ≤ R.cells) (hs : n + ds ≤ R.slots)
    (cont : ∀ T' h' v, On p l e R s m args below meth c Z LC n0 T' h' (k + dc) (n + ds) Lc → QN v h' → Aim p e below s CC SS n0 Q T' (mkF m (pc + 3) Ls (v.toList ++ rest))) : Aim p e below s CC SS n0 Q T (mkF m pc Ls (argsL.reverse ++ rest)) := by
  obtain ⟨L, vm0, X, eT, N, hS, hZ, A⟩ := P
  have hown' := ownAt hS hown
  have hB := hK vm0 hZ
  obtain ⟨v, vm1, ⟨T', L', k', n'⟩, -, X', ⟨Lc', ⟨hq, N'⟩, l', y', z'⟩, st'⟩ := Jvm.LawKit.callS (s := s.setVm vm0) X hx (y := y) hown' (mvT (s := s.setVm vm0) hZ w1) (mvT (s := s.setVm vm0) hZ w2) (mvT (s := s.setVm vm0) hZ w3) (mvT (s := s.setVm vm0) hZ w4) hy hB (g := mkF m pc Ls (argsL.reverse ++ rest)) rfl (by rw [hml]; exact hsz) (argsL := argsL) (rest := rest) (lenOf hpd hln) rfl (by show 2 * 0 + _ ≤ _; omega) hd (fun _ _ => ⟨rfl, eT, hc, hs⟩)
  dsimp only [Pt.U, Pt.locs, Pt.cells, Pt.slots] at X' l' y' z' st' hq
  subst l' y' z'
  exact Aim.of st' (cont T' _ v ⟨_, vm0, X', rfl, N.app N', sinceUp hS (qk _ _ hq).1, hZ, A.keep (qk _ _ hq) hnl⟩ hq)
theorem Aim.callC {own : String} {index pc mx maxL dc ds W : Nat} {y : MethodName} {bytes : ByteArray} {ps : List FieldType} {r : Option FieldType} {Ls : Array Slot} {a : Addr} {argsL rest : List Value} {ws : List Addr} (P : On p l e R s m args below meth c Z LC n0 T h k n Lc) (hx : p.tables.exec = Jvm.exec) (hZs : Z.Warmed39 s.vm) (hml : c.maxLocals = mx) (hown : s.vm.findClass own = some m.cls)
    (hy1 : y.name = "<init>") (w1 : (Cond.methodLink own index y).before a0 Z = true) (w2 : (Cond.instanceMethod y).before a0 Z = true) (w4 : (Cond.code y bytes maxL none).before a0 Z = true) (hy : y.cls ≠ "java/lang/invoke/MethodHandle" ∧ y.cls ≠ "java/lang/invoke/VarHandle")
    (hK : ∀ vm0, Z.Warmed39 vm0 → Jvm.Y9.Bk l R p e below (s.setVm vm0) args y 3 W (.ref a :: argsL).toArray h dc ds n0 QN) (qk : ∀ v h', QN v h' → Keep h h' ws) (hnl : ∀ x ∈ ws, x ∉ Lc) (hsz : Ls.size = mx) (hpd : parseMethodDescriptor y.desc = some ⟨ps, r⟩) (hln : argsL.length = ps.length) (hW : (rest.map fun v => v.category).sum ≤ W) (hd : decode c.code pc = .ok (.invokespecial index, 3)) (hc : k + dc ≤ R.cells) (hs : n + ds ≤ R.slots)
    (cont : ∀ T' h' v, On p l e R s m args below meth c Z LC n0 T' h' (k + dc) (n + ds) Lc → QN v h' → Aim p e below s CC SS n0 Q T' (mkF m (pc + 3) Ls (v.toList ++ rest))) : Aim p e below s CC SS n0 Q T (mkF m pc Ls (argsL.reverse ++ .ref a :: rest)) := by
  obtain ⟨L, vm0, X, eT, N, hS, hZ, A⟩ := P
  have hown' := ownAt hS hown
  have hB := hK vm0 hZ
  obtain ⟨v, vm1, ⟨T', L', k', n'⟩, -, X', ⟨Lc', ⟨hq, N'⟩, l', y', z'⟩, st'⟩ := X.specialBack hx (y := y) hy1 hown' (mvT (s := s.setVm vm0) hZ w1) (mvT (s := s.setVm vm0) hZ w2) (mvT (s := s.setVm vm0) hZ w4) hy hB (g := mkF m pc Ls (argsL.reverse ++ .ref a :: rest)) rfl (by rw [hml]; exact hsz) (Steps.refl _) (a := a) (argsL := argsL) (rest := rest) (lenOf hpd hln) rfl (by show 2 * 0 + _ ≤ _; omega) hd (fun _ _ => ⟨rfl, eT, hc, hs⟩)
  dsimp only [Pt.U, Pt.locs, Pt.cells, Pt.slots] at X' l' y' z' st' hq
  subst l' y' z'
  exact Aim.of (fun t kt => st'.trans kt) (cont T' _ v ⟨_, vm0, X', rfl, N.app N', sinceUp hS (qk _ _ hq).1, hZ, A.keep (qk _ _ hq) hnl⟩ hq)
theorem Aim.callCW {own : String} {index pc mx maxL dc ds W : Nat} {y : MethodName} {bytes : ByteArray} {ps : List FieldType} {r : Option FieldType} {Ls : Array Slot} {a : Addr} {argsL rest : List Value} (P : On p l e R s m args below meth c Z LC n0 T h k n Lc) (hx : p.tables.exec = Jvm.exec) (hZs : Z.Warmed39 s.vm) (hml : c.maxLocals = mx) (hown : s.vm.findClass own = some m.cls)
    (hy1 : y.name = "<init>") (w1 : (Cond.methodLink own index y).before a0 Z = true) (w2 : (Cond.instanceMethod y).before a0 Z = true) (w4 : (Cond.code y bytes maxL none).before a0 Z = true) (hy : y.cls ≠ "java/lang/invoke/MethodHandle" ∧ y.cls ≠ "java/lang/invoke/VarHandle")
    (hK : Bk l R p e below s args y 3 W (.ref a :: argsL).toArray h dc ds Z LC n0 Lc QH) (hsz : Ls.size = mx) (hpd : parseMethodDescriptor y.desc = some ⟨ps, r⟩) (hln : argsL.length = ps.length) (hW : (rest.map fun v => v.category).sum ≤ W) (hd : decode c.code pc = .ok (.invokespecial index, 3)) (hc : k + dc ≤ R.cells) (hs : n + ds ≤ R.slots)
    (cont : ∀ T' h' v Lc', On p l e R s m args below meth c Z LC n0 T' h' (k + dc) (n + ds) Lc' → Grow Lc Lc' h.size → QH v h' Lc' → Aim p e below s CC SS n0 Q T' (mkF m (pc + 3) Ls (v.toList ++ rest))) : Aim p e below s CC SS n0 Q T (mkF m pc Ls (argsL.reverse ++ .ref a :: rest)) := by
  obtain ⟨L, vm0, X, eT, N, hS, hZ, A⟩ := P
  have hown' := ownAt hS hown
  have hB := hK vm0 hZ A
  obtain ⟨v, vm1, ⟨T', L', k', n'⟩, -, X', hS', hgr, ⟨Lx, ⟨⟨Lc', hq, A', rel⟩, N'⟩, l', y', z'⟩, st'⟩ := X.specialBackS hx (y := y) hy1 hown' (mvT (s := s.setVm vm0) hZ w1) (mvT (s := s.setVm vm0) hZ w2) (mvT (s := s.setVm vm0) hZ w4) hy hB (g := mkF m pc Ls (argsL.reverse ++ .ref a :: rest)) rfl (by rw [hml]; exact hsz) (Steps.refl _) (a := a) (argsL := argsL) (rest := rest) (lenOf hpd hln) rfl (by show 2 * 0 + _ ≤ _; omega) hd (fun _ _ => ⟨rfl, eT, hc, hs⟩)
  dsimp only [Pt.U, Pt.locs, Pt.cells, Pt.slots] at X' l' y' z' st' hq A' hS' hgr
  subst l' y' z'
  have hS2 : s.Since T'.vm T'.heap.size := hS.trans hS' (by rw [← eT]; exact hgr)
  exact Aim.of (fun t kt => st'.trans kt) (cont T' _ v Lc' ⟨_, T'.vm, X', rfl, N.app N', hS2, State.Warmed39.trans (t := s.setVm vm0) hZ hS'.1, A'⟩ rel hq)
theorem Aim.callV {own C : String} {index pc mx dc ds W : Nat} {y z : MethodName} {ps : List FieldType} {r : Option FieldType} {Ls : Array Slot} {a : Addr} {argsL rest : List Value} {ws : List Addr} (P : On p l e R s m args below meth c Z LC n0 T h k n Lc) (hx : p.tables.exec = Jvm.exec) (hZs : Z.Warmed39 s.vm) (hml : c.maxLocals = mx) (hown : s.vm.findClass own = some m.cls)
    (w1 : (Cond.methodLink own index y).before a0 Z = true) (w2 : (Cond.declares y).before a0 Z = true) (nf : ∀ vm0, Z.Warmed39 vm0 → NotFace (s.setVm vm0) y) (w3 : (Cond.selects C y z).before a0 Z = true) (w4 : (Cond.instanceMethod z).before a0 Z = true) (hy : y.cls ≠ "java/lang/invoke/MethodHandle" ∧ y.cls ≠ "java/lang/invoke/VarHandle") (E : Exa Z h a C)
    (hK : ∀ vm0, Z.Warmed39 vm0 → Jvm.Y9.Bk l R p e below (s.setVm vm0) args z 3 W (.ref a :: argsL).toArray h dc ds n0 QN) (qk : ∀ v h', QN v h' → Keep h h' ws) (hnl : ∀ x ∈ ws, x ∉ Lc) (hsz : Ls.size = mx) (hpd : parseMethodDescriptor y.desc = some ⟨ps, r⟩) (hln : argsL.length = ps.length) (hW : (rest.map fun v => v.category).sum ≤ W) (hd : decode c.code pc = .ok (.invokevirtual index, 3)) (hc : k + dc ≤ R.cells) (hs : n + ds ≤ R.slots)
    (cont : ∀ T' h' v, On p l e R s m args below meth c Z LC n0 T' h' (k + dc) (n + ds) Lc → QN v h' → Aim p e below s CC SS n0 Q T' (mkF m (pc + 3) Ls (v.toList ++ rest))) : Aim p e below s CC SS n0 Q T (mkF m pc Ls (argsL.reverse ++ .ref a :: rest)) := by
  obtain ⟨L, vm0, X, eT, N, hS, hZ, A⟩ := P
  have hown' := ownAt hS hown
  obtain ⟨cq, kq, qa, qb, qc⟩ := isOf (s := s.setVm vm0) hZ eT E
  have hB := hK vm0 hZ
  obtain ⟨v, vm1, ⟨T', L', k', n'⟩, -, X', ⟨Lc', ⟨hq, N'⟩, l', y', z'⟩, st'⟩ := X.virtualBack hx (y := y) (z := z) hown' (mvT (s := s.setVm vm0) hZ w1) (mvT (s := s.setVm vm0) hZ w2) (nf vm0 hZ) (mvT (s := s.setVm vm0) hZ w3) (mvT (s := s.setVm vm0) hZ w4) hy hB qa qc (g := mkF m pc Ls (argsL.reverse ++ .ref a :: rest)) rfl (by rw [hml]; exact hsz) (Steps.refl _) (argsL := argsL) (rest := rest) (lenOf hpd hln) rfl (by show 2 * 0 + _ ≤ _; omega) hd (fun _ _ => ⟨rfl, eT, hc, hs⟩)
  dsimp only [Pt.U, Pt.locs, Pt.cells, Pt.slots] at X' l' y' z' st' hq
  subst l' y' z'
  exact Aim.of (fun t kt => st'.trans kt) (cont T' _ v ⟨_, vm0, X', rfl, N.app N', sinceUp hS (qk _ _ hq).1, hZ, A.keep (qk _ _ hq) hnl⟩ hq)
theorem Aim.callI {own C : String} {index count pc mx dc ds W : Nat} {y z : MethodName} {ps : List FieldType} {r : Option FieldType} {Ls : Array Slot} {a : Addr} {argsL rest : List Value} {ws : List Addr} (P : On p l e R s m args below meth c Z LC n0 T h k n Lc) (hx : p.tables.exec = Jvm.exec) (hZs : Z.Warmed39 s.vm) (hml : c.maxLocals = mx) (hown : s.vm.findClass own = some m.cls)
    (w1 : (Cond.methodLink own index y).before a0 Z = true) (w2 : (Cond.declares y).before a0 Z = true) (w5 : (Cond.interfaceMethod y.cls y.cls y.name y.desc).before a0 Z = true) (w3 : (Cond.selects C y z).before a0 Z = true) (w4 : (Cond.instanceMethod z).before a0 Z = true) (w6 : (Cond.publicMethod z).before a0 Z = true) (w7 : (Cond.unhidden C y.name y.desc).before a0 Z = true) (w8 : (Cond.castable C y.cls).before a0 Z = true) (hy : y.cls ≠ "java/lang/invoke/MethodHandle" ∧ y.cls ≠ "java/lang/invoke/VarHandle") (E : Exa Z h a C)
    (hK : ∀ vm0, Z.Warmed39 vm0 → Jvm.Y9.Bk l R p e below (s.setVm vm0) args z 5 W (.ref a :: argsL).toArray h dc ds n0 QN) (qk : ∀ v h', QN v h' → Keep h h' ws) (hnl : ∀ x ∈ ws, x ∉ Lc) (hsz : Ls.size = mx) (hpd : parseMethodDescriptor y.desc = some ⟨ps, r⟩) (hln : argsL.length = ps.length) (hW : (rest.map fun v => v.category).sum ≤ W) (hd : decode c.code pc = .ok (.invokeinterface index count, 5)) (hc : k + dc ≤ R.cells) (hs : n + ds ≤ R.slots)
    (cont : ∀ T' h' v, On p l e R s m args below meth c Z LC n0 T' h' (k + dc) (n + ds) Lc → QN v h' → Aim p e below s CC SS n0 Q T' (mkF m (pc + 5) Ls (v.toList ++ rest))) : Aim p e below s CC SS n0 Q T (mkF m pc Ls (argsL.reverse ++ .ref a :: rest)) := by
  obtain ⟨L, vm0, X, eT, N, hS, hZ, A⟩ := P
  have hown' := ownAt hS hown
  obtain ⟨cq, kq, qa, qb, qc⟩ := isOf (s := s.setVm vm0) hZ eT E
  have hB := hK vm0 hZ
  obtain ⟨v, vm1, ⟨T', L', k', n'⟩, -, X', ⟨Lc', ⟨hq, N'⟩, l', y', z'⟩, st'⟩ := X.interfaceBack hx (xi := y) (y := z) hown' (mvT (s := s.setVm vm0) hZ w1) (mvT (s := s.setVm vm0) hZ w2) (mvT (s := s.setVm vm0) hZ w5 (by simp [Cond.onTables, Cond.keepsFace, Cond.keeps, Cond.steady, Cond.faceAtom, hy.1, hy.2])) (mvT (s := s.setVm vm0) hZ w3) (mvT (s := s.setVm vm0) hZ w4) (mvT (s := s.setVm vm0) hZ w6) (mvT (s := s.setVm vm0) hZ w7) (mvT (s := s.setVm vm0) hZ w8) hy hB qa qb qc (g := mkF m pc Ls (argsL.reverse ++ .ref a :: rest)) rfl (by rw [hml]; exact hsz) (Steps.refl _) (argsL := argsL) (rest := rest) (lenOf hpd hln) rfl (by show 2 * 0 + _ ≤ _; omega) hd (fun _ _ => ⟨rfl, eT, hc, hs⟩)
  dsimp only [Pt.U, Pt.locs, Pt.cells, Pt.slots] at X' l' y' z' st' hq
  subst l' y' z'
  exact Aim.of (fun t kt => st'.trans kt) (cont T' _ v ⟨_, vm0, X', rfl, N.app N', sinceUp hS (qk _ _ hq).1, hZ, A.keep (qk _ _ hq) hnl⟩ hq)
end Base
end Jvm.Q9
namespace Jvm.Q9
open Sem ClassFile Op Lib Jvm.Stand Jvm.Free Jvm.LawKit Jvm.RoadKit Jvm.S9
section LitW
theorem Exa.alike {Z U : State} {h : Heap} {a : Addr} {C : String} (hal : Z.vm.Alike U.vm) (F : Exa Z h a C) : Exa U h a C := by
  obtain ⟨cell, k, h1, h2, h3, h4, h5⟩ := F
  obtain ⟨k', q1, q2⟩ := hal.2.2 _ _ h3
  exact ⟨cell, k', h1, by rw [hal.findClass]; exact h2, q1, h4, fun ho => by rw [q2] at ho ⊢; exact h5 ho⟩
theorem Fld.alike {Z U : State} {h : Heap} {a : Addr} {C f d : String} {v : Value} (hal : Z.vm.Alike U.vm) (F : Fld Z h a C f d v) : Fld U h a C f d v := by
  obtain ⟨cell, cf, k, i, fd, h1, h2, h3, h4, h5, h6, h7⟩ := F
  obtain ⟨k', q1, -⟩ := State.fieldFound?_setVm (s := Z) hal h2
  exact ⟨cell, cf, k', i, fd, h1, q1, h3, h4, h5, by rw [hal.assignable]; exact h6, h7⟩
theorem Arv.alike {Z U : State} {h : Heap} {a : Addr} {kk : ClassId} {ty : FieldType} {z : Int32} {vs : List Value} {d : Value} (hal : Z.vm.Alike U.vm) (F : Arv Z h a kk ty z vs d) : Arv U h a kk ty z vs d := by
  obtain ⟨c, ⟨h1, h2, h3⟩, r⟩ := F
  exact ⟨c, ⟨h1, State.isArrayOf_alike hal h2, h3⟩, r⟩
theorem Str.alike {Z U : State} {h : Heap} {x t : Addr} {kb : ClassId} {cs : List Int32} (hal : Z.vm.Alike U.vm) (F : Str Z h x t kb cs) : Str U h x t kb cs :=
  ⟨Exa.alike hal F.1, Fld.alike hal F.2.1, Fld.alike hal F.2.2.1, Arv.alike hal F.2.2.2.1, F.2.2.2.2⟩
theorem byte_code : ∀ k : Fin 256, (Int32.ofNat k.val).toInt8.toInt32 = Jvm.Lit.byteI k.val.toUInt16 ∧ ¬ Int32.ofNat k.val < 0 ∧ ¬ (255 : Int32) < Int32.ofNat k.val := by decide +kernel
theorem ofNat_clamp {n : Nat} (h : n ≤ 4000) : (Int32.ofNat n).toNatClampNeg = n ∧ ¬ Int32.ofNat n < 0 := by
  have e : (Int32.ofNat n).toInt = n := Int32.toInt_ofNat_of_lt (by omega)
  have z : (0 : Int32).toInt = 0 := by decide
  refine ⟨?_, fun q => ?_⟩
  · show (Int32.ofNat n).toInt.toNat = n
    rw [e]; rfl
  · rw [Int32.lt_iff_toInt_lt, e, z] at q; omega
theorem strOf {W : State} {lo hi : Nat} {a : Addr} {units : Array UInt16} {text : String} (H : SlIn lo hi W a units) (htext : utf16ToString? units = some text) (ht : ∀ c ∈ text.toList, c.toNat < 256) (h4 : text.toList.length ≤ 4000) :
    ∃ b kk, Str W W.heap a b kk (cod text) ∧ ((a < lo ∧ b < lo) ∨ (hi ≤ a ∧ hi ≤ b)) := by
  obtain ⟨q, cS, rfl, ⟨L1, hfS, hcS⟩, ⟨kS, k1, k2, k3⟩, hB, hby, hin⟩ := H
  obtain ⟨g1, g2, g3, ⟨cv, kv, iv, f1, f2⟩, ⟨cc, kc, ic, f3, f4⟩, g6, g7, g8, g9, g10, g11, g12, -⟩ := L1
  have hu := Jvm.ClassFile.units_of_text htext ht
  have hlat := Jvm.ClassFile.lat_of_text htext ht
  have hlen : units.size = text.toList.length := by rw [← Array.length_toList, hu, List.length_map]
  have hsl : q.SA.slots = units.map fun u => Value.int (Jvm.Lit.byteI u) := by rw [hby, Jvm.Free.SBG.stringBytes_lat hlat]; rfl
  have hvs : (cod text).map (fun c => Value.int (c.toInt8.toInt32)) = (units.map fun u => Value.int (Jvm.Lit.byteI u)).toList := by
    rw [Array.toList_map, hu]
    simp only [cod, List.map_map]
    refine List.map_congr_left fun c hc => ?_
    have := (byte_code ⟨c.toNat, ht c hc⟩).1
    simp only [Function.comp_apply]
    rw [this]
  have hcl : (cod text).length = text.toList.length := by simp [cod]
  refine ⟨q.sd, q.SA.cls, ⟨⟨q.sC, kS, g1, by rw [hcS]; exact hfS, by rw [hcS]; exact k1, g3, fun _ => k3⟩, ⟨q.sC, cv, kv, iv, q.fSV, g1, f1, g6, g2, g3, f2, g8⟩, ⟨q.sC, cc, kc, ic, q.fSC, g1, f3, g7, g2, g3, f4, g9⟩, ⟨q.SA, ⟨g10, g11, g12⟩, rfl, ?_, ?_, ?_, ?_⟩, ?_, by rw [hcl]; exact h4⟩, hin⟩
  · rw [hcl, (ofNat_clamp h4).1, hsl, Array.size_map, hlen]
  · rw [hcl]; exact (ofNat_clamp h4).2
  · intro j hj
    rw [hvs, hsl]
    rw [hsl] at hj
    rw [List.getD_eq_getElem?_getD, Array.getElem?_toList, Array.getElem?_eq_getElem hj]
    rfl
  · intro j hj
    rw [hvs]
    rw [hsl] at hj
    rw [List.getD_eq_getElem?_getD, Array.getElem?_toList, Array.getElem?_eq_getElem hj]
    simp only [Option.getD_some, Array.getElem_map]
    exact Jvm.Free.SBG.fits_of_int8 _
  · intro c hc
    simp only [cod, List.mem_map] at hc
    obtain ⟨d, hd, rfl⟩ := hc
    exact (byte_code ⟨d.toNat, ht d hd⟩).2
variable {p : Program} {l : Launch} {e : Env} {R : Room} {s : State} {m : MethodId} {args : Array Value} {below : List Frame} {meth : Method} {c : Code} {T : State} {h : Heap} {n0 k n : Nat} {Z : State} {a0 : Array Value} {LC : List (String × Nat × String) × (Array (Array UInt16 × Addr) → Prop)} {Lc : List Addr}
theorem resolved_found {vm : Vm} {text : String} {index : Nat} {cl : ClassId} {k k' : Class} {cf : ClassFile} {i : Nat} {units : Array UInt16} {a : Addr} (hW : Z.Warmed39 vm) (hk : Z.vm.classes[cl]? = some k) (hcf : k.cf = some cf) (hc : cf.constantPool[index]? = some (.string i)) (hu : cf.constantPool[i]? = some (.utf8 units)) (hnm : namesOf? cf.constantPool index = some (.string text))
    (ho : k.resolved[index]? = some none) (hk' : vm.classes[cl]? = some k') (hr : k'.resolved[index]? = some (some (.string a))) : vm.interned.find? (fun q => q.1 == units) = some (units, a) := by
  obtain ⟨k2, q1, -, -, ee, -⟩ := hW.2.2.2 _ k hk
  cases hk'.symm.trans q1
  rcases ee index with e0 | ⟨-, r, e1, hr' | ⟨a', t, si, us, e2, -, e3, e4, e5⟩⟩
  · rw [e0, ho] at hr; cases hr
  · exfalso
    cases r <;> simp [State.rightAt, hk, hcf, hnm] at hr'
  · subst e2
    rw [hr] at e1
    cases e1
    rw [hcf] at e3 e4
    have i1 : si = i := by simpa using e3.symm.trans hc
    subst i1
    have i2 : us = units := by simpa [ConstantPool.utf8?, hu] using e4.symm
    subst i2
    exact e5
theorem stays_open {vm : Vm} {text : String} {index : Nat} {cl : ClassId} {k k' : Class} {cf : ClassFile} (hW : s.WarmedH vm) (hk : s.vm.classes[cl]? = some k) (hcf : k.cf = some cf) (hnm : namesOf? cf.constantPool index = some (.string text)) (ho : k.resolved[index]? = some none) (hk' : vm.classes[cl]? = some k') : k'.resolved[index]? = some none := by
  obtain ⟨k2, q1, -, -, ee, -⟩ := hW.2.2 _ k hk
  cases hk'.symm.trans q1
  rcases ee index with e0 | ⟨-, r, -, hr'⟩
  · rw [e0]; exact ho
  · exfalso
    cases r <;> simp [State.rightAt, hk, hcf, hnm] at hr'
theorem ldcFound {locs : List Loc} (X : Stand p l e R s m args below meth c T locs k n) (hx : p.tables.exec = Jvm.exec) {text : String} {index pc : Nat} {Ls : Array Slot} {st : List Value} {kc : Class} {cf : ClassFile} {i : Nat} {units : Array UInt16} {a : Addr}
    (hk : s.vm.classes[m.cls]? = some kc) (hcf : kc.cf = some cf) (hc : cf.constantPool[index]? = some (.string i)) (hu : cf.constantPool[i]? = some (.utf8 units)) (hnm : namesOf? cf.constantPool index = some (.string text)) (ho : kc.resolved[index]? = some none)
    (hf : s.vm.interned.find? (fun q => q.1 == units) = some (units, a)) (hd : decode c.code pc = .ok (.ldc index, 2)) :
    ∃ T', Stand p l e R (s.setVm T'.vm) m args below meth c T' locs k n ∧ T'.heap = T.heap ∧ s.Since T'.vm T.heap.size ∧ T'.vm.interned = s.vm.interned ∧ ∀ t, Steps p.tables e below (T'.setTop (mkF m (pc + 2) Ls (.ref a :: st))) t → Steps p.tables e below (T.setTop (mkF m pc Ls st)) t := by
  obtain ⟨k', hk', he⟩ := X.warmed.alike.2.2 _ _ hk
  have hcf' : k'.cf = some cf := by rw [he]; exact hcf
  have ho' : k'.resolved[index]? = some none := stays_open X.warmed hk hcf hnm ho hk'
  have hf' : T.vm.interned.find? (fun q => q.1 == units) = some (units, a) := by rw [X.warmed.interned_eq]; exact hf
  have hW : s.Warmed39 (T.vm.noted m.cls index (.string a)) := X.warmed.wide.notedString hk (Or.inl ho) (text := text) (by rw [hcf]; exact hnm) (si := i) (by rw [hcf]; exact hc) (by rw [hcf]; simp [ConstantPool.utf8?, hu]) hf'
  refine ⟨T.setVm (T.vm.noted m.cls index (.string a)), X.retabled hW, rfl, ⟨hW, X.warmed.no_new_pair _⟩, X.warmed.interned_eq, fun t kt => ?_⟩
  jvm_step X.here [hx, hd, ldc.wp_string_found (e := e) (s := T) (f := mkF m pc Ls st) X.here.top hk' hcf' hc hu ho' hf']
  exact kt
def LitZ (Z : State) (c : String × Nat × String) : Prop := ∀ a, Lit Z c.1 c.2.1 a → ∃ b kk, Str Z Z.heap a b kk (cod c.2.2)
theorem lit_open {own : String} {index : Nat} {cl : ClassId} {k : Class} (hf : Z.vm.findClass own = some cl) (hk : Z.vm.classes[cl]? = some k) : (k.resolved[index]? = some none → Z.resolvedAt? own index = none) ∧ ∀ a, k.resolved[index]? = some (some (.string a)) → Lit Z own index a := by
  refine ⟨fun q => ?_, fun a q => ?_⟩
  · simp [State.resolvedAt?, hf, hk, q]
  · simp [Lit, State.resolvedAt?, hf, hk, q]
variable {CC SS : Nat} {Q : Option Value → Heap → Array (Array UInt16 × Addr) → Prop}
def Fnd (Z : State) (own : String) (index : Nat) (text : String) (it : Array (Array UInt16 × Addr)) : Prop := Z.resolvedAt? own index = none → ∀ units : Array UInt16, utf16ToString? units = some text → ∃ a, it.find? (fun q => q.1 == units) = some (units, a)
theorem On.weakTo {F : Array (Array UInt16 × Addr) → Prop} (P : On p l e R s m args below meth c Z (LC.1, F) n0 T h k n Lc) (q : ∀ it, F it → LC.2 it) : On p l e R s m args below meth c Z LC n0 T h k n Lc := by
  obtain ⟨L, vm0, X, eT, N, hS, hZ, A1, A2, A3⟩ := P
  exact ⟨L, vm0, X, eT, N, hS, hZ, A1, A2, q _ A3⟩
theorem units_eq {u v : Array UInt16} {text : String} (h1 : utf16ToString? u = some text) (h2 : utf16ToString? v = some text) (ht : ∀ c ∈ text.toList, c.toNat < 256) : u = v := by
  apply Array.ext'
  rw [Jvm.ClassFile.units_of_text h1 ht, Jvm.ClassFile.units_of_text h2 ht]
theorem Aim.ldcK {own text : String} {index pc : Nat} {Ls : Array Slot} {st : List Value} (P : On p l e R s m args below meth c Z LC n0 T h k n Lc) (hx : p.tables.exec = Jvm.exec) (hZs : Z.Warmed39 s.vm) (hown : s.vm.findClass own = some m.cls) (w : (Cond.stringLink own index text).before a0 Z = true) (wS : ∀ a ∈ Bundle.stringAtoms, a.before a0 Z = true) (hm : (own, index, text) ∈ LC.1)
    (ht : ∀ c ∈ text.toList, c.toNat < 256) (h4 : text.toList.length ≤ 4000) (G : LitZ Z (own, index, text)) (O : Old Z n0 h) (hold : ∀ (b : Addr) (cl : Cell), s.heap[b]? = some cl → h[b]? = some cl) (hd : decode c.code pc = .ok (.ldc index, 2)) {cap : Nat} (hcap : 4 * text.toList.length ≤ cap) (hbig : cap ≤ 536870912) (hc : k + 2 ≤ R.cells) (hs : n + (cap + 4) ≤ R.slots)
    (cont : ∀ T' h' a b kk Lc', On p l e R s m args below meth c Z (LC.1, Fnd Z own index text) n0 T' h' (k + 2) (n + (cap + 4)) Lc' → Keep h h' [] → Grow Lc Lc' h.size → Str Z h' a b kk (cod text) → (a < n0 ∨ a ∈ Lc') → (b < n0 ∨ b ∈ Lc') → Aim p e below s CC SS n0 Q T' (mkF m (pc + 2) Ls (.ref a :: st))) :
    Aim p e below s CC SS n0 Q T (mkF m pc Ls st) := by
  obtain ⟨L, vm0, X, eT, N, hS, hZ, A⟩ := P
  have hown' := ownAt hS hown
  have hownZ : Z.vm.findClass own = some m.cls := by rw [← hZ.alike.findClass]; exact hown'
  obtain ⟨kz, cf, i, units, hkz, hcf, hcp, hu, hnm, hdec, hres⟩ := Cond.stringLink_spec hownZ w
  rcases hres with hopen | ⟨a, hra⟩
  · have hoZ := (lit_open hownZ hkz).1 hopen
    have w' : (Cond.stringLink own index text).before args (s.setVm vm0) = true := mvS hZ w
    obtain ⟨kb, cf', i', units', hkb, hcf', hcp', hu', hnm', hdec', hres'⟩ := Cond.stringLink_spec (s := s.setVm vm0) hown' w'
    obtain ⟨kz', hkz', ekz⟩ := hZ.alike.2.2 _ _ hkz
    have ek : kz' = kb := Option.some.inj (hkz'.symm.trans hkb)
    have ecf : cf' = cf := by rw [← ek, ekz] at hcf'; exact Option.some.inj (hcf'.symm.trans hcf)
    subst ecf
    have ei : i' = i := by simpa using hcp'.symm.trans hcp
    subst ei
    have eu : units' = units := by simpa using hu'.symm.trans hu
    subst eu
    rcases hres' with ho | ⟨a, hra⟩
    · cases hf : vm0.interned.find? (fun q => q.1 == units') with
      | some pr =>
        obtain ⟨u, a⟩ := pr
        have e1 : u = units' := by simpa using Array.find?_some hf
        subst e1
        obtain ⟨b, kk, F, ha, hb⟩ := A.2.1 _ hm hoZ _ a hdec hf
        obtain ⟨T', X', e', hS', ei, st'⟩ := ldcFound (s := s.setVm vm0) (T := T) X hx (Ls := Ls) (st := st) hkb hcf' hcp hu hnm' ho hf hd
        refine Aim.of st' (cont T' h a b kk Lc ⟨L, T'.vm, X'.more (by omega) (by omega), e'.trans eT, N, hS.trans (by rw [eT] at hS'; exact hS') (Nat.le_refl _), State.Warmed39.trans (t := s.setVm vm0) hZ hS'.1, ?_⟩ (Keep.refl h []) (Grow.refl _ _) F (Or.inr ha) (Or.inr hb))
        rw [ei]; exact ⟨A.1, A.2.1, fun _ v hv => ⟨a, units_eq hdec hv ht ▸ hf⟩⟩
      | none =>
        have hH : ConstHeldL (s.setVm vm0) own index := by
          intro c1 k1 cf1 i1 u1 a1 q1 q2 q3 q4 q5 q6
          cases hown'.symm.trans q1
          cases hkb.symm.trans q2
          cases hcf'.symm.trans q3
          have j1 : i1 = i' := by simpa using q4.symm.trans hcp
          subst j1
          have j2 : u1 = units' := by simpa using q5.symm.trans hu
          subst j2
          rcases q6 with q6 | ⟨-, q6⟩
          · rw [ho] at q6; cases q6
          · rw [show (s.setVm vm0).vm.interned = vm0.interned from rfl, hf] at q6; cases q6
        have hAt : ∀ a ∈ Bundle.stringAtoms, a.before args (s.setVm vm0) = true := fun d hd => by
          have q := wS d hd
          simp only [Bundle.stringAtoms, List.mem_cons, List.not_mem_nil, or_false] at hd
          rcases hd with rfl | rfl | rfl | rfl | rfl | rfl | rfl
          · exact mv (s := s.setVm vm0) hZ q
          · exact mv (s := s.setVm vm0) hZ q
          · exact mvA (s := s.setVm vm0) hZ q
          · exact mv (s := s.setVm vm0) hZ q
          · exact mv (s := s.setVm vm0) hZ q
          · exact mv (s := s.setVm vm0) hZ q
          · exact mv (s := s.setVm vm0) hZ q
        obtain ⟨a, T', X', hS', ⟨k2, hk2, hr2⟩, hb, -, hint, ⟨u2, hd2, hin⟩, st'⟩ := X.ldcColdF (fun b cl q => by rw [eT]; exact hold b cl q) hx hown' w' hAt hH (fun u q => Jvm.ClassFile.lat_of_text q ht) (g := mkF m pc Ls st) rfl hd hcap hbig hc hs
        have hW' : Z.Warmed39 T'.vm := State.Warmed39.trans (t := s.setVm vm0) hZ hS'.1
        obtain ⟨b, kk, F0, hpos⟩ := strOf hin hd2 ht h4
        have F : Str Z T'.heap a b kk (cod text) := Str.alike hW'.alike.symm F0
        have hfa : T'.vm.interned.find? (fun q => q.1 == units') = some (units', a) := resolved_found (Z := s.setVm vm0) (vm := T'.vm) hS'.1 hkb hcf' hcp hu hnm' ho hk2 hr2
        have hE : Ext h T'.heap := by subst eT; exact ext_of hb
        have hK : Keep h T'.heap [] := (Keep.refl h []).ext hE
        have hTi : T.vm.interned = vm0.interned := X.warmed.interned_eq
        have hnew : h.size ≤ a ∧ h.size ≤ b := by
          have hlo : s.heap.size ≤ h.size := by have := X.same.2.1; rw [← eT]; exact this
          rcases hpos with ⟨q1, q2⟩ | ⟨q1, q2⟩
          · exfalso
            rcases hint with q | ⟨u3, a3, -, q⟩
            · rw [q, hTi, hf] at hfa; cases hfa
            · obtain ⟨-, hB⟩ := hS'
              have hsz : T'.vm.interned[vm0.interned.size]? = some (u3, a3) := by rw [q, hTi]; simp
              have := hB vm0.interned.size (u3, a3) (Nat.le_refl _) hsz
              rw [q, hTi, Array.find?_push, hf] at hfa
              simp only [Option.none_or] at hfa
              split at hfa
              · cases hfa
                exact absurd this.1 (Nat.not_le_of_lt q1)
              · cases hfa
          · subst eT; exact ⟨q1, q2⟩
        refine Aim.of st' (cont T' _ a b kk (a :: b :: Lc) ⟨L, T'.vm, X', rfl, N, hS.trans hS' hE.1, hW', ?_, ?_, fun _ v hv => ⟨a, units_eq hdec hv ht ▸ hfa⟩⟩ hK ?_ F (Or.inr (List.mem_cons_self ..)) (Or.inr (List.mem_cons_of_mem _ (List.mem_cons_self ..))))
        · intro x hx
          rcases List.mem_cons.mp hx with rfl | hx
          · exact F.lt
          · rcases List.mem_cons.mp hx with rfl | hx
            · exact F.ltb
            · exact Nat.lt_of_lt_of_le (A.1 x hx) hE.1
        · intro c1 hc1 ho1 u1 a1 hu1 hf1
          have old' : vm0.interned.find? (fun q => q.1 == u1) = some (u1, a1) → ∃ b2 kk, Str Z T'.heap a1 b2 kk (cod c1.2.2) ∧ a1 ∈ a :: b :: Lc ∧ b2 ∈ a :: b :: Lc := fun q => by
            obtain ⟨b1, kk1, F1, m1, m2⟩ := A.2.1 c1 hc1 ho1 u1 a1 hu1 q
            exact ⟨b1, kk1, F1.keep hK nin0 nin0, List.mem_cons_of_mem _ (List.mem_cons_of_mem _ m1), List.mem_cons_of_mem _ (List.mem_cons_of_mem _ m2)⟩
          rcases hint with q | ⟨u3, a3, hu3, q⟩
          · rw [q, hTi] at hf1
            exact old' hf1
          · by_cases he : u3 = u1
            · subst he
              have et : c1.2.2 = text := Option.some.inj (hu1.symm.trans hu3)
              have e5 : u3 = units' := by
                apply Array.ext'
                rw [Jvm.ClassFile.units_of_text hu3 ht, Jvm.ClassFile.units_of_text hdec ht]
              subst e5
              have ea : a1 = a := by have := hf1.symm.trans hfa; simpa using this
              subst ea
              exact ⟨b, kk, et ▸ F, List.mem_cons_self .., List.mem_cons_of_mem _ (List.mem_cons_self ..)⟩
            · rw [q, hTi, Array.find?_push] at hf1
              cases hq : vm0.interned.find? (fun q => q.1 == u1) with
              | none => rw [hq] at hf1; simp [he] at hf1
              | some pr => rw [hq] at hf1; simp at hf1; subst hf1; exact old' hq
        · refine ⟨fun x hx => ?_, fun x hx => List.mem_cons_of_mem _ (List.mem_cons_of_mem _ hx)⟩
          rcases List.mem_cons.mp hx with rfl | hx
          · exact Or.inr hnew.1
          · rcases List.mem_cons.mp hx with rfl | hx
            · exact Or.inr hnew.2
            · exact Or.inl hx
    · have hf := resolved_found hZ hkz hcf hcp hu hnm hopen hkb hra
      obtain ⟨b, kk, F, ha, hb⟩ := A.2.1 _ hm hoZ _ a hdec hf
      have hL : Lit (s.setVm vm0) own index a := (lit_open (Z := s.setVm vm0) hown' hkb).2 a hra
      exact Aim.of (fun t kt => ldcAgain X hx hZ hown' w hL (g := mkF m pc Ls st) rfl hd t kt) (cont T h a b kk Lc ⟨L, vm0, X.more (by omega) (by omega), eT, N, hS, hZ, A.1, A.2.1, fun _ v hv => ⟨a, units_eq hdec hv ht ▸ hf⟩⟩ (Keep.refl h []) (Grow.refl _ _) F (Or.inr ha) (Or.inr hb))
  · have hL : Lit Z own index a := (lit_open hownZ hkz).2 a hra
    obtain ⟨b, kk, F⟩ := G a hL
    have hK : Keep Z.heap h [] := (Keep.refl _ []).ext O.2
    have hn : Z.heap.size = n0 := O.1
    exact Aim.of (fun t kt => ldcR (s := s.setVm vm0) X hx hZ hown' (refOfLit w hL) hL (g := mkF m pc Ls st) rfl hd t kt) (cont T h a b kk Lc ⟨L, vm0, X.more (by omega) (by omega), eT, N, hS, hZ, A.1, A.2.1, fun q => by rw [show Z.resolvedAt? own index = some (.string a) from hL] at q; cases q⟩ (Keep.refl h []) (Grow.refl _ _) (F.keep hK nin0 nin0) (Or.inl (hn ▸ F.lt)) (Or.inl (hn ▸ F.ltb)))
theorem Aim.ldcQ {own text : String} {index pc : Nat} {Ls : Array Slot} {st : List Value} (P : On p l e R s m args below meth c Z (LC.1, Fnd Z own index text) n0 T h k n Lc) (hx : p.tables.exec = Jvm.exec) (hown : s.vm.findClass own = some m.cls) (w : (Cond.stringLink own index text).before a0 Z = true) (hm : (own, index, text) ∈ LC.1)
    (ht : ∀ c ∈ text.toList, c.toNat < 256) (F0 : ∀ a, Lit Z own index a → ∃ b kk, Str Z h a b kk (cod text) ∧ a < n0 ∧ b < n0) (hd : decode c.code pc = .ok (.ldc index, 2))
    (cont : ∀ T' a b kk, On p l e R s m args below meth c Z (LC.1, Fnd Z own index text) n0 T' h k n Lc → Str Z h a b kk (cod text) → (a < n0 ∨ a ∈ Lc) → (b < n0 ∨ b ∈ Lc) → Aim p e below s CC SS n0 Q T' (mkF m (pc + 2) Ls (.ref a :: st))) :
    Aim p e below s CC SS n0 Q T (mkF m pc Ls st) := by
  have P' := P
  obtain ⟨L, vm0, X, eT, N, hS, hZ, A⟩ := P
  have hown' := ownAt hS hown
  have hownZ : Z.vm.findClass own = some m.cls := by rw [← hZ.alike.findClass]; exact hown'
  obtain ⟨kz, cf, i, units, hkz, hcf, hcp, hu, hnm, hdec, hres⟩ := Cond.stringLink_spec hownZ w
  rcases hres with hopen | ⟨a, hra⟩
  · have hoZ := (lit_open hownZ hkz).1 hopen
    have w' : (Cond.stringLink own index text).before args (s.setVm vm0) = true := mvS hZ w
    obtain ⟨kb, cf', i', units', hkb, hcf', hcp', hu', hnm', hdec', hres'⟩ := Cond.stringLink_spec (s := s.setVm vm0) hown' w'
    obtain ⟨a, hf⟩ := A.2.2 hoZ units' hdec'
    obtain ⟨b, kk, F, ha, hb⟩ := A.2.1 _ hm hoZ _ a hdec' hf
    rcases hres' with ho | ⟨a2, hra⟩
    · obtain ⟨T', X', e', hS', ei, st'⟩ := ldcFound (s := s.setVm vm0) (T := T) X hx (Ls := Ls) (st := st) hkb hcf' hcp' hu' hnm' ho hf hd
      refine Aim.of st' (cont T' a b kk ⟨L, T'.vm, X', e'.trans eT, N, hS.trans (by rw [eT] at hS'; exact hS') (Nat.le_refl _), State.Warmed39.trans (t := s.setVm vm0) hZ hS'.1, ?_⟩ F (Or.inr ha) (Or.inr hb))
      rw [ei]; exact A
    · obtain ⟨kz', hkz', ekz⟩ := hZ.alike.2.2 _ _ hkz
      have ek : kz' = kb := Option.some.inj (hkz'.symm.trans hkb)
      have ecf : cf' = cf := by rw [← ek, ekz] at hcf'; exact Option.some.inj (hcf'.symm.trans hcf)
      subst ecf
      have ei : i' = i := by simpa using hcp'.symm.trans hcp
      subst ei
      have eu : units' = units := by simpa using hu'.symm.trans hu
      subst eu
      have hf2 := resolved_found hZ hkz hcf hcp hu hnm hopen hkb hra
      have ea : a2 = a := by have := hf2.symm.trans hf; simpa using this
      subst ea
      have hL : Lit (s.setVm vm0) own index a2 := (lit_open (Z := s.setVm vm0) hown' hkb).2 a2 hra
      exact Aim.of (fun t kt => ldcAgain X hx hZ hown' w hL (g := mkF m pc Ls st) rfl hd t kt) (cont T a2 b kk P' F (Or.inr ha) (Or.inr hb))
  · have hL : Lit Z own index a := (lit_open hownZ hkz).2 a hra
    obtain ⟨b, kk, F, h1, h2⟩ := F0 a hL
    exact Aim.of (fun t kt => ldcR (s := s.setVm vm0) X hx hZ hown' (refOfLit w hL) hL (g := mkF m pc Ls st) rfl hd t kt) (cont T a b kk P' F (Or.inl h1) (Or.inl h2))
theorem lit_again {c : String × Nat × String} {h0 : Heap} {ws : List Addr} (G : LitZ Z c) (O : Old Z n0 h0) (K : Keep h0 h ws) (hg : ∀ x ∈ ws, n0 ≤ x) : ∀ a, Lit Z c.1 c.2.1 a → ∃ b kk, Str Z h a b kk (cod c.2.2) ∧ a < n0 ∧ b < n0 := by
  intro a hL
  obtain ⟨b, kk, F⟩ := G a hL
  have hn : Z.heap.size = n0 := O.1
  have ha : a < n0 := hn ▸ F.lt
  have hb : b < n0 := hn ▸ F.ltb
  have F1 := F.keep ((Keep.refl _ []).ext O.2) nin0 nin0
  exact ⟨b, kk, F1.keep K (fun q => Nat.lt_irrefl _ (Nat.lt_of_lt_of_le ha (hg a q))) (fun q => Nat.lt_irrefl _ (Nat.lt_of_lt_of_le hb (hg b q))), ha, hb⟩
def LitW (Z : State) (a0 : Array Value) (c : String × Nat × String) : Prop := (Cond.stringLink c.1 c.2.1 c.2.2).before a0 Z = true ∧ (∀ d ∈ c.2.2.toList, d.toNat < 256) ∧ c.2.2.toList.length ≤ 4000 ∧ ConstHeldL Z c.1 c.2.1 ∧ ∃ cl, Z.vm.findClass c.1 = some cl
theorem own_found {own text : String} {index : Nat} (w : (Cond.stringLink own index text).before a0 Z = true) : ∃ cl, Z.vm.findClass own = some cl := by
  cases hq : Z.vm.findClass own with
  | some c => exact ⟨c, rfl⟩
  | none => simp [Cond.before, Cond.holds, Cond.value, hq] at w
theorem litz_start {c : String × Nat × String} (H : LitW Z a0 c) : LitZ Z c := by
  intro a hL
  obtain ⟨w, ht, h4, hH, cl, hcl⟩ := H
  obtain ⟨k, cf, i, units, hk, hcf, hp, hu, -, hdec, hres⟩ := Cond.stringLink_spec hcl w
  have hr : k.resolved[c.2.1]? = some (some (.string a)) := by
    rcases hres with q | ⟨a', q⟩
    · exfalso
      have := (lit_open (Z := Z) hcl hk).1 q
      rw [Lit, this] at hL; cases hL
    · have := (lit_open (Z := Z) hcl hk).2 a' q
      rw [Lit] at hL this
      rw [hL] at this
      cases this; exact q
  obtain ⟨b, kk, F, -⟩ := strOf ((hH cl k cf i units a hcl hk hcf hp hu (Or.inl hr)).movedIn Z.heap.size (Vm.Alike.refl _) (fun _ _ q => q)) hdec ht h4
  exact ⟨b, kk, F⟩
theorem ha_start (hT : ∀ it, LC.2 it) (H : ∀ c ∈ LC.1, LitW Z a0 c) : HA Z LC Z.vm.interned Z.heap (List.range Z.heap.size) := by
  refine ⟨fun x hx => List.mem_range.mp hx, fun c hc ho units a hu hf => ?_, hT _⟩
  obtain ⟨w, ht, h4, hH, cl, hcl⟩ := H c hc
  obtain ⟨k, cf, i, units', hk, hcf, hp, hu', -, hdec, hres⟩ := Cond.stringLink_spec hcl w
  have e5 : units' = units := by
    apply Array.ext'
    rw [Jvm.ClassFile.units_of_text hu ht, Jvm.ClassFile.units_of_text hdec ht]
  subst e5
  have hr : k.resolved[c.2.1]? = some none := by
    rcases hres with q | ⟨a', q⟩
    · exact q
    · have := (lit_open (Z := Z) hcl hk).2 a' q
      rw [Lit, ho] at this; cases this
  obtain ⟨b, kk, F, -⟩ := strOf ((hH cl k cf i units' a hcl hk hcf hp hu' (Or.inr ⟨hr, hf⟩)).movedIn Z.heap.size (Vm.Alike.refl _) (fun _ _ q => q)) hdec ht h4
  exact ⟨b, kk, F, List.mem_range.mpr F.lt, List.mem_range.mpr F.ltb⟩
end LitW
end Jvm.Q9
/- laws to paste: Road.eqW (cut by pick.py; bodies as the Statement names them) -/
namespace Jvm.Pilot.@@N@@
namespace StrChars
open Jvm Sem ClassFile Op Lib Jvm.Stand Jvm.Free.XT Jvm.Free.ALB Jvm.Free.JM Jvm.Free
open Jvm.Lib.Cold (StaticIs)
def lo8 (x : Int32) : Int32 := x.toInt8.toInt32
theorem fits_lo8 (y : Int32) : fits .byte (.int (lo8 y)) = true := by
  have h1 := y.toInt8.le_toInt
  have h2 := y.toInt8.toInt_lt
  simp only [lo8, fits, Bool.and_eq_true, decide_eq_true_eq, Int32.le_iff_toInt_le, Int8.toInt_toInt32, show (-128 : Int32).toInt = -128 from by decide, show (127 : Int32).toInt = 127 from by decide]
  omega
def U16 : String := "java/lang/StringUTF16"
namespace Cmp5
def yN : MethodName := ⟨"java/lang/StringUTF16", "compress", "([CI[BII)I"⟩
abbrev yB : ByteArray := jdk_52_method_21_code
end Cmp5
namespace Cmp3
def yN : MethodName := ⟨"java/lang/StringUTF16", "compress", "([CII)[B"⟩
abbrev yB : ByteArray := jdk_52_method_16_code
end Cmp3
namespace CodL
def yN : MethodName := ⟨"java/lang/StringUTF16", "coderFromArrayLen", "([BI)B"⟩
abbrev yB : ByteArray := jdk_52_method_15_code
end CodL
namespace New4
def yN : MethodName := ⟨"java/lang/String", "<init>", "([CIILjava/lang/Void;)V"⟩
abbrev yB : ByteArray := jdk_42_method_149_code
end New4
namespace New1
def yN : MethodName := ⟨"java/lang/String", "<init>", "([C)V"⟩
abbrev yB : ByteArray := jdk_42_method_3_code
end New1
theorem lo8_mask {x : Int32} (h0 : ¬ x < 0) (h1 : ¬ 255 < x) : lo8 x &&& 255 = x := by
  have t : ∀ k : Fin 256, lo8 (Int32.ofNat k.val) &&& 255 = Int32.ofNat k.val := by decide +kernel
  rw [Int32.lt_iff_toInt_lt] at h0 h1
  have e0 : (0 : Int32).toInt = 0 := rfl
  have e1 : (255 : Int32).toInt = 255 := rfl
  obtain ⟨k, hk⟩ : ∃ k : Nat, x.toInt = k := ⟨x.toInt.toNat, by omega⟩
  have hx : x = Int32.ofNat k := Int32.toInt_inj.mp (by rw [hk, Int32.toInt_ofNat_small (by omega)])
  rw [hx]
  exact t ⟨k, by omega⟩
end StrChars
namespace StrChars.Road
open Jvm Sem ClassFile Op Lib Jvm.Stand Jvm.Free Jvm.Free.XT
open Jvm.Lib.Cold (StaticIs)
abbrev ST : String := "java/lang/String"
/-- every table word that New1's law asks, flat -/
abbrev words : List Jvm.Cond := [.code New1.yN New1.yB 2 none, .initialized ST, .methodLink ST 27 New4.yN, .instanceMethod New4.yN,
  .code New4.yN New4.yB 6 none, .fieldLink ST 38 ST "COMPACT_STRINGS" "Z", .laysFinal ST ST "value" "[B", .fieldLink ST 9 ST "value" "[B", .laysFinal ST ST "coder" "B", .fieldLink ST 15 ST "coder" "B",
  .methodLink ST 1 Lib.objectInit, .instanceMethod Lib.objectInit, .code Lib.objectInit ⟨#[0xb1]⟩ 1 none, .methodLink ST 177 Cmp3.yN, .static Cmp3.yN, .methodLink ST 47 CodL.yN, .static CodL.yN,
  .code Cmp3.yN Cmp3.yB 6 (some (.array .byte)), .initialized U16, .arrayClass .byte, .methodLink U16 115 Cmp5.yN, .static Cmp5.yN, .code Cmp5.yN Cmp5.yB 7 (some .int), .code CodL.yN CodL.yB 2 (some .byte)]
end StrChars.Road
namespace StrChars
open Jvm Sem ClassFile Op Lib Jvm.Stand Jvm.Free.XT Jvm.Free.ALB Jvm.Free.JM Jvm.Free
open Jvm.Lib.Cold (StaticIs)
def hi8 (x : Int32) : Int32 := lo8 (x >>> ((8 : Int32) &&& 31))
def pairCh (u v : Int32) : Int32 := (((u &&& 255) <<< ((0 : Int32) &&& 31)) ||| ((v &&& 255) <<< ((8 : Int32) &&& 31))).toUInt32.toUInt16.toUInt32.toInt32
theorem lo8_and (x : Int32) : (lo8 x &&& 255).toBitVec.toNat = x.toBitVec.toNat % 256 := by
  have h : (lo8 x).toBitVec = (x.toBitVec.signExtend 8).signExtend 32 := by rw [lo8, Int8.toBitVec_toInt32, Int32.toBitVec_toInt8]
  rw [Int32.toBitVec_and, BitVec.toNat_and, h]
  have e : ((x.toBitVec.signExtend 8).signExtend 32).toNat % 256 = x.toBitVec.toNat % 256 := by
    rw [BitVec.toNat_signExtend]
    have hlt := x.toBitVec.isLt
    simp only [BitVec.toNat_setWidth, BitVec.toNat_signExtend]
    split <;> split <;> omega
  rw [← e]
  exact Nat.and_two_pow_sub_one_eq_mod _ 8
theorem pair_says {c : Int32} (h0 : ¬ c < 0) (h1 : ¬ 65535 < c) : pairCh (lo8 c) (hi8 c) = c := by
  rw [Int32.lt_iff_toInt_lt] at h0 h1
  have e0 : (0 : Int32).toInt = 0 := rfl
  have e1 : (65535 : Int32).toInt = 65535 := rfl
  have hc : c.toInt = c.toBitVec.toNat := by
    have := c.toBitVec.isLt
    have e : c.toInt = c.toBitVec.toInt := rfl
    rw [e] at h0 h1
    rw [e]
    rw [BitVec.toInt_eq_toNat_cond] at h0 h1 ⊢
    split at h0 <;> split <;> omega
  have hn : c.toBitVec.toNat < 65536 := by omega
  have a1 := lo8_and c
  have a2 : (hi8 c &&& 255).toBitVec.toNat = c.toBitVec.toNat / 256 := by
    rw [hi8, lo8_and]
    have e : ((8 : Int32) &&& 31) = 8 := by decide
    rw [e, Int32.toBitVec_shiftRight]
    have e2 : ((8 : Int32).toBitVec.smod 32) = 8#32 := by decide
    rw [e2, BitVec.sshiftRight_eq', BitVec.toNat_sshiftRight_of_msb_false (by rw [BitVec.msb_eq_false_iff_two_mul_lt]; omega)]
    show c.toBitVec.toNat >>> 8 % 256 = _
    rw [Nat.shiftRight_eq_div_pow]
    omega
  unfold pairCh
  apply Int32.toBitVec_inj.mp
  apply BitVec.eq_of_toNat_eq
  have f0 : ((0 : Int32) &&& 31) = 0 := by decide
  have f8 : ((8 : Int32) &&& 31) = 8 := by decide
  rw [f0, f8]
  have g : (((lo8 c &&& 255) <<< (0 : Int32)) ||| ((hi8 c &&& 255) <<< (8 : Int32))).toBitVec.toNat = c.toBitVec.toNat := by
    rw [Int32.toBitVec_or, Int32.toBitVec_shiftLeft, Int32.toBitVec_shiftLeft]
    have s0 : ((0 : Int32).toBitVec.smod 32) = 0#32 := by decide
    have s8 : ((8 : Int32).toBitVec.smod 32) = 8#32 := by decide
    rw [s0, s8, BitVec.toNat_or]
    simp only [BitVec.shiftLeft_eq', BitVec.toNat_shiftLeft, a1, a2]
    show (c.toBitVec.toNat % 256) <<< 0 % 2 ^ 32 ||| (c.toBitVec.toNat / 256) <<< 8 % 2 ^ 32 = _
    rw [Nat.shiftLeft_zero, Nat.mod_eq_of_lt (show c.toBitVec.toNat % 256 < 2 ^ 32 by omega), Nat.mod_eq_of_lt (show (c.toBitVec.toNat / 256) <<< 8 < 2 ^ 32 by rw [Nat.shiftLeft_eq]; omega), Nat.or_comm, ← Nat.shiftLeft_add_eq_or_of_lt (by omega), Nat.shiftLeft_eq]
    omega
  show BitVec.toNat (((((lo8 c &&& 255) <<< (0 : Int32)) ||| ((hi8 c &&& 255) <<< (8 : Int32))).toBitVec.setWidth 16).setWidth 32) = _
  rw [BitVec.toNat_setWidth, BitVec.toNat_setWidth, g]
  omega
end StrChars
namespace StrChars
open Jvm Sem ClassFile Op Lib Jvm.Stand Jvm.Free.XT Jvm.Free.ALB Jvm.Free.JM Jvm.Free
open Jvm.Lib.Cold (StaticIs)
def Cod (cd : Int32) (n : Nat) (f : Nat → Int32) (V : Cell) : Prop := (cd = 0 ∧ V.slots.size = n ∧ ∀ j, j < n → V.slots[j]? = some (.int (lo8 (f j))) ∧ ¬ 255 < f j) ∨ (cd = 1 ∧ V.slots.size = 2 * n ∧ (∀ j, j < n → V.slots[2 * j]? = some (.int (lo8 (f j))) ∧ V.slots[2 * j + 1]? = some (.int (hi8 (f j)))) ∧ ∃ j, j < n ∧ 255 < f j)
def Txt (x t : Addr) (V : Cell) (cd : Int32) (n : Nat) (f : Nat → Int32) (U : State) : Prop := Exact "java/lang/String" x U ∧ Has x "java/lang/String" "value" "[B" (.ref t) U ∧ Has x "java/lang/String" "coder" "B" (.int cd) U ∧ XT.Arr .byte t V U ∧ Cod cd n f V ∧ ∀ j, j < n → ¬ f j < 0 ∧ ¬ 65535 < f j
theorem Txt.mv {x t : Addr} {V : Cell} {cd : Int32} {n : Nat} {f : Nat → Int32} {U U' : State} (h : Txt x t V cd n f U) (hal : U.vm.Alike U'.vm) (hh : U'.heap = U.heap) : Txt x t V cd n f U' := ⟨h.1.mv hal hh, h.2.1.mv hal hh, h.2.2.1.mv hal hh, h.2.2.2.1.mv hal hh, h.2.2.2.2⟩
end StrChars
namespace StrChars.Road
open Jvm Sem ClassFile Op Lib Jvm.Stand Jvm.Free Jvm.Free.XT
open Jvm.Lib.Cold (StaticIs)
theorem consq {a : Array Value} {s : State} {c : Jvm.Cond} {L : List Jvm.Cond} (h0 : c.before a s = true) (h : ∀ w ∈ L, w.before a s = true) : ∀ w ∈ c :: L, w.before a s = true := fun w hw => (List.mem_cons.mp hw).elim (fun e => e ▸ h0) (h w)
def wideBytes : List Int32 → List Value
  | [] => []
  | c :: cs => .int (lo8 c) :: .int (hi8 c) :: wideBytes cs
theorem wide_lo (d : Value) : ∀ (cs : List Int32) (j : Nat), j < cs.length → (wideBytes cs).getD (2 * j) d = .int (lo8 (cs.getD j 0))
  | [], j, h => absurd h (Nat.not_lt_zero j)
  | c :: cs, 0, _ => rfl
  | c :: cs, j + 1, h => by
    have q := wide_lo d cs j (by simpa using h)
    rw [show 2 * (j + 1) = 2 * j + 1 + 1 from by omega]
    simpa [wideBytes] using q
theorem wide_hi (d : Value) : ∀ (cs : List Int32) (j : Nat), j < cs.length → (wideBytes cs).getD (2 * j + 1) d = .int (hi8 (cs.getD j 0))
  | [], j, h => absurd h (Nat.not_lt_zero j)
  | c :: cs, 0, _ => rfl
  | c :: cs, j + 1, h => by
    have q := wide_hi d cs j (by simpa using h)
    rw [show 2 * (j + 1) + 1 = 2 * j + 1 + 1 + 1 from by omega]
    simpa [wideBytes] using q
theorem low_at (d : Value) (cs : List Int32) (j : Nat) (h : j < cs.length) : (cs.map fun c => Value.int (lo8 c)).getD j d = .int (lo8 (cs.getD j 0)) := by
  simp [List.getD_eq_getElem?_getD, h]
def CodA (cs : List Int32) (cd N2 : Int32) (vs : List Value) : Prop := (cd = 0 ∧ N2 = Int32.ofNat cs.length ∧ vs = (cs.map fun c => Value.int (lo8 c)) ∧ ∀ c ∈ cs, ¬ 255 < c) ∨ (cd = 1 ∧ N2 = Int32.ofNat (2 * cs.length) ∧ vs = wideBytes cs ∧ ∃ c ∈ cs, 255 < c)
theorem CodA.cod {cs : List Int32} {cd N2 : Int32} {vs : List Value} {V : Cell} (h : CodA cs cd N2 vs) (hn : 2 * cs.length < 2 ^ 31) (hs : V.slots.size = N2.toNatClampNeg) (hv : RoadKit.Has V vs (.int 0)) : Cod cd cs.length (fun j => cs.getD j 0) V := by
  rcases h with ⟨rfl, rfl, rfl, h⟩ | ⟨rfl, rfl, rfl, c, hc, hw⟩
  · rw [n32 (by omega)] at hs
    exact Or.inl ⟨rfl, hs, fun j hj => ⟨by rw [hv j (by omega), low_at _ _ _ hj], by
      have e : cs.getD j 0 = cs[j] := by simp [List.getD_eq_getElem?_getD, hj]
      show ¬ 255 < cs.getD j 0
      rw [e]; exact h _ (List.getElem_mem _)⟩⟩
  · rw [n32 (by omega)] at hs
    obtain ⟨j, hj, rfl⟩ := List.getElem_of_mem hc
    exact Or.inr ⟨rfl, hs, fun j hj => ⟨by rw [hv _ (by omega), wide_lo _ _ _ hj], by rw [hv _ (by omega), wide_hi _ _ _ hj]⟩, j, hj, by
      have e : cs.getD j 0 = cs[j] := by simp [List.getD_eq_getElem?_getD, hj]
      show 255 < cs.getD j 0
      rw [e]; exact hw⟩
theorem strObj {Z U : State} {a0 : Array Value} {kI : Nat} (wi : (Jvm.Cond.instantiable ST kI).before a0 Z = true) (al : Z.vm.Alike U.vm) {x : Addr} {v0 c0 : Value} (E : RoadKit.Exa Z U.heap x ST) (V : RoadKit.Fld Z U.heap x ST "value" "[B" v0) (C : RoadKit.Fld Z U.heap x ST "coder" "B" c0) :
    ∃ (D : Cell) (fV fC : Field), Blank ST x D U ∧ Found ST "value" "[B" fV U ∧ Found ST "coder" "B" fC U ∧ D.slots[fV.slot]? = some v0 ∧ D.slots[fC.slot]? = some c0 ∧ RoadKit.slotOf Z ST "value" "[B" = fV.slot ∧ RoadKit.slotOf Z ST "coder" "B" = fC.slot := by
  obtain ⟨D, cfV, kV, iV, fV, hD, gV, stV, knV, obV, asV, slV⟩ := V
  obtain ⟨D', cfC, kC, iC, fC, hD', gC, stC, -, -, asC, slC⟩ := C
  cases hD.symm.trans hD'
  obtain ⟨D2, kD, e1, e2, e3, e4, e5⟩ := E
  cases hD.symm.trans e1
  obtain ⟨c2, k2, i1, i2, i3, -⟩ := Cond.instantiable_spec wi
  cases e2.symm.trans i1
  cases e3.symm.trans i2
  obtain ⟨kU, u1, u2⟩ := al.2.2 _ _ e3
  exact ⟨D, fV, fC, ⟨hD, ⟨knV, fun q hq => by rw [hq] at obV; cases obV⟩, by rw [al.findClass]; exact e2, kU, u1, by rw [u2]; exact i3, by rw [u2]; exact e5 i3⟩, ⟨SBG.found_only al ⟨cfV, kV, iV, gV⟩, stV⟩, ⟨SBG.found_only al ⟨cfC, kC, iC, gC⟩, stC⟩, slV, slC, by simp [RoadKit.slotOf, gV], by simp [RoadKit.slotOf, gC]⟩
theorem sta_is {Z U : State} (al : Z.vm.Alike U.vm) {C n d : String} {v : Value} (S : RoadKit.Sta Z U.heap C n d v) : StaticIs U C n d v := by
  obtain ⟨cfS, iS, kS, fS, st, cS, t1, t2, t3, t4, t5, t6, t7⟩ := S
  exact StaticIs.there (s := { Z with heap := U.heap }) ⟨cfS, iS, kS, fS, st, cS, t1, t2, t3, t4, t5, (fun q => by rw [q] at t6; cases t6), t7⟩ al rfl
end StrChars.Road
namespace StrChars
open Jvm Sem ClassFile Op Lib Jvm.Stand Jvm.Free.XT Jvm.Free.ALB Jvm.Free.JM Jvm.Free
open Jvm.Lib.Cold (StaticIs)
def yv (A : Cell) (i : Nat) : Int32 := match A.slots[i]? with | some (.int x) => x | _ => 0
theorem yv_get {a : Addr} {A : Cell} {U : State} (h : XT.Arr .byte a A U) (ht : Typed .byte A) {i : Nat} (hi : i < A.slots.size) : A.slots[i]? = some (.int (yv A i)) := by
  have e := Array.getElem?_eq_getElem hi
  have f := ht i _ e
  unfold yv; rw [e]
  generalize A.slots[i] = v at f
  cases v <;> simp [fits] at f ⊢
def EqC (A B : Cell) : Prop := A.slots.size = B.slots.size ∧ ∀ i, i < A.slots.size → yv A i = yv B i
def Says01 (q : Prop) (r : Option Value) (s u : State) : Prop := ∃ v : Int32, r = some (.int v) ∧ u.heap = s.heap ∧ ((v = 1 ∧ q) ∨ (v = 0 ∧ ¬ q))
theorem Says01.mv {q : Prop} : ∀ r (U U' V V' : State), U'.heap = U.heap → V.vm.Alike V'.vm → V'.heap = V.heap → Says01 q r U V → Says01 q r U' V' :=
  fun r U U' V V' h1 _ h2 ⟨v, a, b, c⟩ => ⟨v, a, by rw [h1, h2]; exact b, c⟩
namespace LEq
def yN : MethodName := ⟨"java/lang/StringLatin1", "equals", "([B[B)Z"⟩
abbrev yB : ByteArray := jdk_43_method_13_code
theorem d0 : decode yB 0 = .ok (.aload_n 0, 1) := by decide +kernel
theorem d1 : decode yB 1 = .ok (.arraylength, 1) := by decide +kernel
theorem d2 : decode yB 2 = .ok (.aload_n 1, 1) := by decide +kernel
theorem d3 : decode yB 3 = .ok (.arraylength, 1) := by decide +kernel
theorem d4 : decode yB 4 = .ok (.if_icmp (.ne) 30, 3) := by decide +kernel
theorem d7 : decode yB 7 = .ok (.iconst 0, 1) := by decide +kernel
theorem d8 : decode yB 8 = .ok (.istore_n 2, 1) := by decide +kernel
theorem d9 : decode yB 9 = .ok (.iload_n 2, 1) := by decide +kernel
theorem d10 : decode yB 10 = .ok (.aload_n 0, 1) := by decide +kernel
theorem d11 : decode yB 11 = .ok (.arraylength, 1) := by decide +kernel
theorem d12 : decode yB 12 = .ok (.if_icmp (.ge) 20, 3) := by decide +kernel
theorem d15 : decode yB 15 = .ok (.aload_n 0, 1) := by decide +kernel
theorem d16 : decode yB 16 = .ok (.iload_n 2, 1) := by decide +kernel
theorem d17 : decode yB 17 = .ok (.baload, 1) := by decide +kernel
theorem d18 : decode yB 18 = .ok (.aload_n 1, 1) := by decide +kernel
theorem d19 : decode yB 19 = .ok (.iload_n 2, 1) := by decide +kernel
theorem d20 : decode yB 20 = .ok (.baload, 1) := by decide +kernel
theorem d21 : decode yB 21 = .ok (.if_icmp (.eq) 5, 3) := by decide +kernel
theorem d24 : decode yB 24 = .ok (.iconst 0, 1) := by decide +kernel
theorem d25 : decode yB 25 = .ok (.ireturn, 1) := by decide +kernel
theorem d26 : decode yB 26 = .ok (.iinc 2 1, 3) := by decide +kernel
theorem d29 : decode yB 29 = .ok (.goto (-20), 3) := by decide +kernel
theorem d32 : decode yB 32 = .ok (.iconst 1, 1) := by decide +kernel
theorem d33 : decode yB 33 = .ok (.ireturn, 1) := by decide +kernel
theorem d34 : decode yB 34 = .ok (.iconst 0, 1) := by decide +kernel
theorem d35 : decode yB 35 = .ok (.ireturn, 1) := by decide +kernel
def site : List Cond := []
def tab : Cond := tabOf yN yB 3 (some .boolean) site
def P (a : Addr) (A : Cell) (b : Addr) (B : Cell) (args : Array Value) (s : State) : Prop := args = #[.ref a, .ref b] ∧ XT.Arr .byte a A s ∧ Typed .byte A ∧ XT.Arr .byte b B s ∧ Typed .byte B
theorem law (l : Launch) (a : Addr) (A : Cell) (b : Addr) (B : Cell) : Law l yN 2 2 0 0 yB 3 (some .boolean) site (P a A b B) (Says01 (EqC A B)) [] 0 0 := by
  refine Law.of_walk (plainFor_of_name (by decide +kernel)) (by decide +kernel) (by decide +kernel) (by decide) (fun _ _ h => by rw [h.1]; rfl) (fun _ U U' hal hh h => ⟨h.1, h.2.1.mv hal hh, h.2.2.1, h.2.2.2.1.mv hal hh, h.2.2.2.2⟩) (fun r U U' V V' h1 hal h2 h => Says01.mv r U U' V V' h1 hal h2 h) ?_
  intro p e s m args below meth c s₁ X0 hexec hbytes hml hret hlk hnm hown hh0 W hP
  obtain ⟨rfl, hA, tA, hB, tB⟩ := hP
  have a31 := hA.2.2.2
  have b31 := hB.2.2.2
  have hA0 := hA.mv X0.warmed.alike hh0
  have hB0 := hB.mv X0.warmed.alike hh0
  have c1 : Steps p.tables e below (s₁.setTop (entryFrame m #[.ref a, .ref b] 3)) (s₁.setTop (mkF m 0 #[.val (.ref a), .val (.ref b), .unset] [])) := entry rfl
  have c2 : Steps p.tables e below (s₁.setTop (entryFrame m #[.ref a, .ref b] 3)) (s₁.setTop (mkF m 4 #[.val (.ref a), .val (.ref b), .unset] [.int (Int32.ofNat B.slots.size), .int (Int32.ofNat A.slots.size)])) := c1.trans (by
    refine XS.aloadN X0.here hexec rfl (hb hbytes d0) rfl rfl ?_
    refine X0.alen hexec hA0 rfl rfl (hb hbytes d1) ?_
    refine XS.aloadN X0.here hexec rfl (hb hbytes d2) rfl rfl ?_
    refine X0.alen hexec hB0 rfl rfl (hb hbytes d3) ?_
    exact Steps.refl _)
  by_cases hs : A.slots.size = B.slots.size
  · have c3 : Steps p.tables e below (s₁.setTop (entryFrame m #[.ref a, .ref b] 3)) (s₁.setTop (mkF m 9 #[.val (.ref a), .val (.ref b), .val (.int 0)] [])) := c2.trans (by
      refine XS.icmpNo X0.here hexec rfl (hb hbytes d4) rfl (ii_ne_f (by rw [hs])) ?_
      refine iconstV X0.here hexec rfl 0 (hb hbytes d7) (by decide) ?_
      refine XS.istoreN X0.here hexec rfl (hb hbytes d8) rfl rfl ?_
      exact Steps.refl _)
    have loop : ∀ (r i : Nat), i + r = A.slots.size → (∀ j, j < i → yv A j = yv B j) → Steps p.tables e below (s₁.setTop (entryFrame m #[.ref a, .ref b] 3)) (s₁.setTop (mkF m 9 #[.val (.ref a), .val (.ref b), .val (.int (Int32.ofNat i))] [])) → ∃ (pc : Nat) (Ls : Array Slot) (v : Int32), (pc = 25 ∨ pc = 33) ∧ ((v = 1 ∧ EqC A B) ∨ (v = 0 ∧ ¬ EqC A B)) ∧ Steps p.tables e below (s₁.setTop (entryFrame m #[.ref a, .ref b] 3)) (s₁.setTop (mkF m pc Ls [.int v])) := by
      intro r
      induction r with
      | zero =>
        intro i hi he cl
        exact ⟨33, _, 1, Or.inr rfl, Or.inl ⟨rfl, hs, fun j hj => he j (by omega)⟩, cl.trans (by
          refine XS.iloadN X0.here hexec rfl (hb hbytes d9) rfl ?_
          refine XS.aloadN X0.here hexec rfl (hb hbytes d10) rfl rfl ?_
          refine X0.alen hexec hA0 rfl rfl (hb hbytes d11) ?_
          refine XS.icmpYes X0.here hexec rfl (pc0 := 12) rfl (hb hbytes d12) rfl (ii_ge_t (nlt32 (by omega) (by omega))) (by decide) rfl ?_
          refine iconstV X0.here hexec rfl 1 (hb hbytes d32) (by decide) ?_
          exact Steps.refl _)⟩
      | succ r ih =>
        intro i hi he cl
        have c4 : Steps p.tables e below (s₁.setTop (entryFrame m #[.ref a, .ref b] 3)) (s₁.setTop (mkF m 21 #[.val (.ref a), .val (.ref b), .val (.int (Int32.ofNat i))] [.int (yv B i), .int (yv A i)])) := cl.trans (by
          refine XS.iloadN X0.here hexec rfl (hb hbytes d9) rfl ?_
          refine XS.aloadN X0.here hexec rfl (hb hbytes d10) rfl rfl ?_
          refine X0.alen hexec hA0 rfl rfl (hb hbytes d11) ?_
          refine XS.icmpNo X0.here hexec rfl (hb hbytes d12) rfl (ii_ge_f (lt32 (by omega) (by omega))) ?_
          refine XS.aloadN X0.here hexec rfl (hb hbytes d15) rfl rfl ?_
          refine XS.iloadN X0.here hexec rfl (hb hbytes d16) rfl ?_
          refine X0.aget hexec hA0 rfl (yv_get hA tA (i := i) (by omega)) rfl rfl (hb hbytes d17) ?_
          refine XS.aloadN X0.here hexec rfl (hb hbytes d18) rfl rfl ?_
          refine XS.iloadN X0.here hexec rfl (hb hbytes d19) rfl ?_
          refine X0.aget hexec hB0 rfl (yv_get hB tB (i := i) (by omega)) rfl rfl (hb hbytes d20) ?_
          exact Steps.refl _)
        by_cases hv : yv A i = yv B i
        · have c5 : Steps p.tables e below (s₁.setTop (entryFrame m #[.ref a, .ref b] 3)) (s₁.setTop (mkF m 9 #[.val (.ref a), .val (.ref b), .val (.int (Int32.ofNat i + 1))] [])) := c4.trans (by
            refine XS.icmpYes X0.here hexec rfl (pc0 := 21) rfl (hb hbytes d21) rfl (ii_eq_t hv) (by decide) rfl ?_
            refine iincV X0.here hexec rfl 1 (hb hbytes d26) (by decide) rfl rfl ?_
            refine XS.goto X0.here hexec rfl (pc0 := 29) rfl (hb hbytes d29) (by decide) rfl ?_
            exact Steps.refl _)
          rw [succ32] at c5
          exact ih (i + 1) (by omega) (fun j hj => by
            by_cases e : j = i
            · rw [e]; exact hv
            · exact he j (by omega)) c5
        · exact ⟨25, _, 0, Or.inl rfl, Or.inr ⟨rfl, fun q => hv (q.2 i (by omega))⟩, c4.trans (by
            refine XS.icmpNo X0.here hexec rfl (hb hbytes d21) rfl (ii_eq_f hv) ?_
            refine iconstV X0.here hexec rfl 0 (hb hbytes d24) (by decide) ?_
            exact Steps.refl _)⟩
    obtain ⟨pc, Ls, v, hpc, hv, cz⟩ := loop A.slots.size 0 (by omega) (fun j hj => absurd hj (Nat.not_lt_zero j)) c3
    have nv : narrow .boolean (.int v) = .int v := by rcases hv with ⟨rfl, -⟩ | ⟨rfl, -⟩ <;> rfl
    rcases hpc with rfl | rfl
    · exact ⟨s₁, some (.int v), _, _, _, X0, rfl, rfl, rfl, (fun h => by cases h), ⟨v, rfl, hh0, hv⟩, fun fs hl => cz.trans (X0.ireturnOut hexec hret nv (Or.inr (Or.inl rfl)) (hb hbytes d25) hl)⟩
    · exact ⟨s₁, some (.int v), _, _, _, X0, rfl, rfl, rfl, (fun h => by cases h), ⟨v, rfl, hh0, hv⟩, fun fs hl => cz.trans (X0.ireturnOut hexec hret nv (Or.inr (Or.inl rfl)) (hb hbytes d33) hl)⟩
  · have c3 : Steps p.tables e below (s₁.setTop (entryFrame m #[.ref a, .ref b] 3)) (s₁.setTop (mkF m 35 #[.val (.ref a), .val (.ref b), .unset] [.int 0])) := c2.trans (by
      refine XS.icmpYes X0.here hexec rfl (pc0 := 4) rfl (hb hbytes d4) rfl (ii_ne_t (ne32 a31 b31 hs)) (by decide) rfl ?_
      refine iconstV X0.here hexec rfl 0 (hb hbytes d34) (by decide) ?_
      exact Steps.refl _)
    exact ⟨s₁, some (.int 0), _, _, _, X0, rfl, rfl, rfl, (fun h => by cases h), ⟨0, rfl, hh0, Or.inr ⟨rfl, fun q => hs q.1⟩⟩, fun fs hl => c3.trans (X0.ireturnOut hexec hret rfl (Or.inr (Or.inl rfl)) (hb hbytes d35) hl)⟩
end LEq
theorem Cod.ty {cd : Int32} {n : Nat} {f : Nat → Int32} {V : Cell} (h : Cod cd n f V) : Typed .byte V := fun i v hv => by
  have hi : i < V.slots.size := (Array.getElem?_eq_some_iff.mp hv).1
  rcases h with ⟨-, k1, k2⟩ | ⟨-, k1, k2, -⟩
  · rw [(k2 i (by omega)).1] at hv; cases hv; exact fits_lo8 _
  · rcases Nat.mod_two_eq_zero_or_one i with e | e
    · obtain ⟨j, rfl⟩ : ∃ j, i = 2 * j := ⟨i / 2, by omega⟩
      rw [(k2 j (by omega)).1] at hv; cases hv; exact fits_lo8 _
    · obtain ⟨j, rfl⟩ : ∃ j, i = 2 * j + 1 := ⟨i / 2, by omega⟩
      rw [(k2 j (by omega)).2] at hv; cases hv; exact fits_lo8 _
def SameT (n : Nat) (f : Nat → Int32) (k : Nat) (g : Nat → Int32) : Prop := n = k ∧ ∀ j, j < n → f j = g j
theorem lo8_inj {x y : Int32} (h0 : ¬ x < 0) (h1 : ¬ 255 < x) (k0 : ¬ y < 0) (k1 : ¬ 255 < y) (h : lo8 x = lo8 y) : x = y := by
  rw [← lo8_mask h0 h1, ← lo8_mask k0 k1, h]
theorem Cod.eqv {cd : Int32} {n k : Nat} {f g : Nat → Int32} {V V' : Cell} (h : Cod cd n f V) (h' : Cod cd k g V') (hf : ∀ j, j < n → ¬ f j < 0 ∧ ¬ 65535 < f j) (hg : ∀ j, j < k → ¬ g j < 0 ∧ ¬ 65535 < g j) : EqC V V' ↔ SameT n f k g := by
  have yvv : ∀ {W : Cell} {i : Nat} {x : Int32}, W.slots[i]? = some (.int x) → yv W i = x := fun q => by unfold yv; rw [q]
  rcases h with ⟨rfl, k1, k2⟩ | ⟨rfl, k1, k2, -⟩
  · rcases h' with ⟨-, m1, m2⟩ | ⟨e, -⟩
    · constructor
      · rintro ⟨e1, e2⟩
        refine ⟨by omega, fun j hj => ?_⟩
        have q := e2 j (by omega)
        rw [yvv (k2 j hj).1, yvv (m2 j (by omega)).1] at q
        exact lo8_inj (hf j hj).1 (k2 j hj).2 (hg j (by omega)).1 (m2 j (by omega)).2 q
      · rintro ⟨rfl, e2⟩
        refine ⟨by omega, fun j hj => ?_⟩
        rw [yvv (k2 j (by omega)).1, yvv (m2 j (by omega)).1, e2 j (by omega)]
    · exact absurd e (by decide)
  · rcases h' with ⟨e, -⟩ | ⟨-, m1, m2, -⟩
    · exact absurd e (by decide)
    · constructor
      · rintro ⟨e1, e2⟩
        refine ⟨by omega, fun j hj => ?_⟩
        have q1 := e2 (2 * j) (by omega)
        have q2 := e2 (2 * j + 1) (by omega)
        rw [yvv (k2 j hj).1, yvv (m2 j (by omega)).1] at q1
        rw [yvv (k2 j hj).2, yvv (m2 j (by omega)).2] at q2
        rw [← pair_says (hf j hj).1 (hf j hj).2, ← pair_says (hg j (by omega)).1 (hg j (by omega)).2, q1, q2]
      · rintro ⟨rfl, e2⟩
        refine ⟨by omega, fun i hi => ?_⟩
        rcases Nat.mod_two_eq_zero_or_one i with e | e
        · obtain ⟨j, rfl⟩ : ∃ j, i = 2 * j := ⟨i / 2, by omega⟩
          rw [yvv (k2 j (by omega)).1, yvv (m2 j (by omega)).1, e2 j (by omega)]
        · obtain ⟨j, rfl⟩ : ∃ j, i = 2 * j + 1 := ⟨i / 2, by omega⟩
          rw [yvv (k2 j (by omega)).2, yvv (m2 j (by omega)).2, e2 j (by omega)]
theorem Cod.dif {cd cd' : Int32} {n k : Nat} {f g : Nat → Int32} {V V' : Cell} (h : Cod cd n f V) (h' : Cod cd' k g V') (hne : ¬ cd = cd') : ¬ SameT n f k g := by
  rintro ⟨rfl, e⟩
  rcases h with ⟨rfl, -, k2⟩ | ⟨rfl, -, -, j, hj, hw⟩
  · rcases h' with ⟨rfl, -⟩ | ⟨-, -, -, j, hj, hw⟩
    · exact hne rfl
    · exact (k2 j hj).2 (by rw [e j hj]; exact hw)
  · rcases h' with ⟨-, -, m2⟩ | ⟨rfl, -⟩
    · exact (m2 j hj).2 (by rw [← e j hj]; exact hw)
    · exact hne rfl
theorem cinst {p : Program} {l : Launch} {e : Env} {R : Room} {s : State} {m : MethodId} {args : Array Value} {below : List Frame} {meth : Method} {c : Code} {T : State} {locs : List Loc} {cells slots : Nat} (X : Stand p l e R s m args below meth c T locs cells slots) (hexec : p.tables.exec = Jvm.exec) {own C : String} {index : Nat} (hown : s.vm.findClass own = some m.cls) (hlink : (Cond.classLink own index C).before args s = true) {a : Addr} (hE : Exact C a T)
    {g : JFrame} (hg : g.method = m) {rest : List Value} (hstack : g.stack = .ref a :: rest) (hdg : decode c.code g.pc = .ok (.instanceof index, 3)) :
    ∃ T', Stand p l e R s m args below meth c T' locs cells slots ∧ T'.heap = T.heap ∧ ∀ target, Steps p.tables e below (T'.setTop { g with pc := g.pc + 3, stack := .int 1 :: rest }) target → Steps p.tables e below (T.setTop g) target := by
  obtain ⟨cB, h1, D, h2, h3, h4⟩ := hE
  have h1' : s.vm.findClass C = some cB := by rw [← X.warmed.alike.findClass]; exact h1
  obtain ⟨vm', X', st⟩ := X.instanceofYes hexec hown hlink h2 h4 h1' (by rw [h3]; exact Jvm.Free.SB.assignable_self _ _) hg hstack hdg
  exact ⟨_, X', rfl, st⟩
theorem cself {p : Program} {l : Launch} {e : Env} {R : Room} {s : State} {m : MethodId} {args : Array Value} {below : List Frame} {meth : Method} {c : Code} {T : State} {locs : List Loc} {cells slots : Nat} (X : Stand p l e R s m args below meth c T locs cells slots) (hexec : p.tables.exec = Jvm.exec) {own C : String} {index : Nat} (hown : s.vm.findClass own = some m.cls) (hlink : (Cond.classLink own index C).before args s = true) {a : Addr} (hE : Exact C a T)
    {g : JFrame} (hg : g.method = m) {rest : List Value} (hstack : g.stack = .ref a :: rest) (hdg : decode c.code g.pc = .ok (.checkcast index, 3)) :
    ∃ T', Stand p l e R s m args below meth c T' locs cells slots ∧ T'.heap = T.heap ∧ ∀ target, Steps p.tables e below (T'.setTop { g with pc := g.pc + 3, stack := .ref a :: rest }) target → Steps p.tables e below (T.setTop g) target := by
  obtain ⟨cB, h1, D, h2, h3, h4⟩ := hE
  have h1' : s.vm.findClass C = some cB := by rw [← X.warmed.alike.findClass]; exact h1
  obtain ⟨vm', X', st⟩ := X.checkcastYes hexec hown hlink h2 h4 h1' (by rw [h3]; exact Jvm.Free.SB.assignable_self _ _) hg hstack hdg
  exact ⟨_, X', rfl, fun t h => st t (by rw [← hstack] at h; exact h)⟩
namespace SEq
def yN : MethodName := ⟨"java/lang/String", "equals", "(Ljava/lang/Object;)Z"⟩
abbrev yB : ByteArray := jdk_42_method_66_code
theorem d0 : decode yB 0 = .ok (.aload_n 0, 1) := by decide +kernel
theorem d1 : decode yB 1 = .ok (.aload_n 1, 1) := by decide +kernel
theorem d2 : decode yB 2 = .ok (.if_acmp (.ne) 5, 3) := by decide +kernel
theorem d5 : decode yB 5 = .ok (.iconst 1, 1) := by decide +kernel
theorem d6 : decode yB 6 = .ok (.ireturn, 1) := by decide +kernel
theorem d7 : decode yB 7 = .ok (.aload_n 1, 1) := by decide +kernel
theorem d8 : decode yB 8 = .ok (.instanceof 10, 3) := by decide +kernel
theorem d11 : decode yB 11 = .ok (.ifCond (.eq) 43, 3) := by decide +kernel
theorem d14 : decode yB 14 = .ok (.aload_n 1, 1) := by decide +kernel
theorem d15 : decode yB 15 = .ok (.checkcast 10, 3) := by decide +kernel
theorem d18 : decode yB 18 = .ok (.astore_n 2, 1) := by decide +kernel
theorem d19 : decode yB 19 = .ok (.getstatic 38, 3) := by decide +kernel
theorem d22 : decode yB 22 = .ok (.ifCond (.eq) 14, 3) := by decide +kernel
theorem d25 : decode yB 25 = .ok (.aload_n 0, 1) := by decide +kernel
theorem d26 : decode yB 26 = .ok (.getfield 15, 3) := by decide +kernel
theorem d29 : decode yB 29 = .ok (.aload_n 2, 1) := by decide +kernel
theorem d30 : decode yB 30 = .ok (.getfield 15, 3) := by decide +kernel
theorem d33 : decode yB 33 = .ok (.if_icmp (.ne) 21, 3) := by decide +kernel
theorem d36 : decode yB 36 = .ok (.aload_n 0, 1) := by decide +kernel
theorem d37 : decode yB 37 = .ok (.getfield 9, 3) := by decide +kernel
theorem d40 : decode yB 40 = .ok (.aload_n 2, 1) := by decide +kernel
theorem d41 : decode yB 41 = .ok (.getfield 9, 3) := by decide +kernel
theorem d44 : decode yB 44 = .ok (.invokestatic 541, 3) := by decide +kernel
theorem d47 : decode yB 47 = .ok (.ifCond (.eq) 7, 3) := by decide +kernel
theorem d50 : decode yB 50 = .ok (.iconst 1, 1) := by decide +kernel
theorem d51 : decode yB 51 = .ok (.goto 4, 3) := by decide +kernel
theorem d54 : decode yB 54 = .ok (.iconst 0, 1) := by decide +kernel
theorem d55 : decode yB 55 = .ok (.ireturn, 1) := by decide +kernel
def site : List Cond := [.classLink "java/lang/String" 10 "java/lang/String", .fieldLink "java/lang/String" 38 "java/lang/String" "COMPACT_STRINGS" "Z", .fieldLink "java/lang/String" 15 "java/lang/String" "coder" "B", .fieldLink "java/lang/String" 9 "java/lang/String" "value" "[B", LEq.tab] ++ staticW "java/lang/String" 541 LEq.yN
def tab : Cond := tabOf yN yB 3 (some .boolean) site
def P (x t : Addr) (V : Cell) (cd : Int32) (n : Nat) (f : Nat → Int32) (y t' : Addr) (V' : Cell) (cd' : Int32) (k : Nat) (g : Nat → Int32) (z : Int32) (args : Array Value) (s : State) : Prop := args = #[.ref x, .ref y] ∧ Txt x t V cd n f s ∧ Txt y t' V' cd' k g s ∧ StaticIs s "java/lang/String" "COMPACT_STRINGS" "Z" (.int z) ∧ ¬ z = 0
theorem law (l : Launch) (x t : Addr) (V : Cell) (cd : Int32) (n : Nat) (f : Nat → Int32) (y t' : Addr) (V' : Cell) (cd' : Int32) (k : Nat) (g : Nat → Int32) (z : Int32) : Law l yN 2 1 1 14 yB 3 (some .boolean) site (P x t V cd n f y t' V' cd' k g z) (Says01 (SameT n f k g)) [] 0 0 := by
  refine Law.of_walk (plainFor_of_name (by decide +kernel)) (by decide +kernel) (by decide +kernel) (by decide) (fun _ _ h => by rw [h.1]; rfl) (fun _ U U' hal hh h => ⟨h.1, h.2.1.mv hal hh, h.2.2.1.mv hal hh, h.2.2.2.1.there hal hh, h.2.2.2.2⟩) (fun r U U' V V' h1 hal h2 h => Says01.mv r U U' V V' h1 hal h2 h) ?_
  intro p e s m args below meth c s₁ X0 hexec hbytes hml hret hlk hnm hown hh0 W hP
  obtain ⟨rfl, hx, hy, s1, hz⟩ := hP
  have c1 : Steps p.tables e below (s₁.setTop (entryFrame m #[.ref x, .ref y] 3)) (s₁.setTop (mkF m 2 #[.val (.ref x), .val (.ref y), .unset] [.ref y, .ref x])) := Steps.trans (entry rfl) (by
    show Steps p.tables e below (s₁.setTop (mkF m 0 #[.val (.ref x), .val (.ref y), .unset] [])) _
    refine XS.aloadN X0.here hexec rfl (hb hbytes d0) rfl rfl ?_
    refine XS.aloadN X0.here hexec rfl (hb hbytes d1) rfl rfl ?_
    exact Steps.refl _)
  by_cases hxy : x = y
  · have c2 : Steps p.tables e below (s₁.setTop (entryFrame m #[.ref x, .ref y] 3)) (s₁.setTop (mkF m 6 #[.val (.ref x), .val (.ref y), .unset] [.int 1])) := c1.trans (by
      refine acmpNo X0.here hexec rfl (hb hbytes d2) rfl rfl rfl (by simp [acmp, hxy]) ?_
      refine iconstV X0.here hexec rfl 1 (hb hbytes d5) (by decide) ?_
      exact Steps.refl _)
    subst hxy
    have ec : cd = cd' := by
      obtain ⟨D, fd, a1, a2, a3⟩ := hx.2.2.1
      obtain ⟨D', fd', b1, b2, b3⟩ := hy.2.2.1
      cases a1.symm.trans b1
      obtain ⟨q1, q2, q3, q4⟩ := a2.1
      obtain ⟨r1, r2, r3, r4⟩ := b2.1
      cases q4.symm.trans r4
      cases a3.symm.trans b3; rfl
    have et : t = t' := by
      obtain ⟨D, fd, a1, a2, a3⟩ := hx.2.1
      obtain ⟨D', fd', b1, b2, b3⟩ := hy.2.1
      cases a1.symm.trans b1
      obtain ⟨q1, q2, q3, q4⟩ := a2.1
      obtain ⟨r1, r2, r3, r4⟩ := b2.1
      cases q4.symm.trans r4
      cases a3.symm.trans b3; rfl
    subst ec et
    have ev : V = V' := by cases hx.2.2.2.1.1.symm.trans hy.2.2.2.1.1; rfl
    subst ev
    have hs : SameT n f k g := (Cod.eqv hx.2.2.2.2.1 hy.2.2.2.2.1 hx.2.2.2.2.2 hy.2.2.2.2.2).mp ⟨rfl, fun _ _ => rfl⟩
    exact ⟨s₁, some (.int 1), _, _, _, X0, rfl, rfl, rfl, (fun h => by cases h), ⟨1, rfl, hh0, Or.inl ⟨rfl, hs⟩⟩, fun fs hl => c2.trans (X0.ireturnOut hexec hret rfl (Or.inr (Or.inl rfl)) (hb hbytes d6) hl)⟩
  · have c2 : Steps p.tables e below (s₁.setTop (entryFrame m #[.ref x, .ref y] 3)) (s₁.setTop (mkF m 8 #[.val (.ref x), .val (.ref y), .unset] [.ref y])) := c1.trans (by
      refine acmpYes X0.here hexec rfl (pc0 := 2) rfl (hb hbytes d2) rfl rfl rfl (by simp [acmp, hxy]) (by decide) rfl ?_
      refine XS.aloadN X0.here hexec rfl (hb hbytes d7) rfl rfl ?_
      exact Steps.refl _)
    obtain ⟨T3, X3, q3, st3⟩ := cinst X0 hexec hown (wk W (.classLink "java/lang/String" 10 "java/lang/String")) (hy.mv X0.warmed.alike hh0).1 (g := (mkF m 8 #[.val (.ref x), .val (.ref y), .unset] [.ref y])) rfl (rest := []) rfl (hb hbytes d8)
    have hh3 := q3.trans hh0
    have c4 : Steps p.tables e below (s₁.setTop (entryFrame m #[.ref x, .ref y] 3)) (T3.setTop (mkF m 15 #[.val (.ref x), .val (.ref y), .unset] [.ref y])) := (c2.trans (st3 _ (Steps.refl _))).trans (by
      refine XS.ifNo X3.here hexec rfl (hb hbytes d11) rfl (i0_eq_f (by decide)) ?_
      refine XS.aloadN X3.here hexec rfl (hb hbytes d14) rfl rfl ?_
      exact Steps.refl _)
    obtain ⟨T5, X5, q5, st5⟩ := cself X3 hexec hown (wk W (.classLink "java/lang/String" 10 "java/lang/String")) (hy.mv X3.warmed.alike hh3).1 (g := (mkF m 15 #[.val (.ref x), .val (.ref y), .unset] [.ref y])) rfl (rest := []) rfl (hb hbytes d15)
    have hh5 := q5.trans hh3
    have c6 : Steps p.tables e below (s₁.setTop (entryFrame m #[.ref x, .ref y] 3)) (T5.setTop (mkF m 19 #[.val (.ref x), .val (.ref y), .val (.ref y)] [])) := (c4.trans (st5 _ (Steps.refl _))).trans (by
      refine XS.astoreN X5.here hexec rfl (hb hbytes d18) rfl rfl rfl ?_
      exact Steps.refl _)
    obtain ⟨T7, X7, q7, st7⟩ := X5.sget hexec hown (wk W (.fieldLink "java/lang/String" 38 "java/lang/String" "COMPACT_STRINGS" "Z")) s1 (fun _ _ h => by rw [hh5]; exact h) (g := (mkF m 19 #[.val (.ref x), .val (.ref y), .val (.ref y)] [])) rfl (hb hbytes d19)
    have hh7 := q7.trans hh5
    have c8 : Steps p.tables e below (s₁.setTop (entryFrame m #[.ref x, .ref y] 3)) (T7.setTop (mkF m 26 #[.val (.ref x), .val (.ref y), .val (.ref y)] [.ref x])) := (c6.trans (st7 _ (Steps.refl _))).trans (by
      refine XS.ifNo X7.here hexec rfl (hb hbytes d22) rfl (i0_eq_f hz) ?_
      refine XS.aloadN X7.here hexec rfl (hb hbytes d25) rfl rfl ?_
      exact Steps.refl _)
    obtain ⟨T9, X9, q9, st9⟩ := X7.hget hexec hown (wk W (.fieldLink "java/lang/String" 15 "java/lang/String" "coder" "B")) (hx.mv X7.warmed.alike hh7).2.2.1 (g := (mkF m 26 #[.val (.ref x), .val (.ref y), .val (.ref y)] [.ref x])) rfl (rest := []) rfl (hb hbytes d26)
    have hh9 := q9.trans hh7
    have c10 : Steps p.tables e below (s₁.setTop (entryFrame m #[.ref x, .ref y] 3)) (T9.setTop (mkF m 30 #[.val (.ref x), .val (.ref y), .val (.ref y)] [.ref y, .int cd])) := (c8.trans (st9 _ (Steps.refl _))).trans (by
      refine XS.aloadN X9.here hexec rfl (hb hbytes d29) rfl rfl ?_
      exact Steps.refl _)
    obtain ⟨T11, X11, q11, st11⟩ := X9.hget hexec hown (wk W (.fieldLink "java/lang/String" 15 "java/lang/String" "coder" "B")) (hy.mv X9.warmed.alike hh9).2.2.1 (g := (mkF m 30 #[.val (.ref x), .val (.ref y), .val (.ref y)] [.ref y, .int cd])) rfl (rest := [.int cd]) rfl (hb hbytes d30)
    have hh11 := q11.trans hh9
    have c12 : Steps p.tables e below (s₁.setTop (entryFrame m #[.ref x, .ref y] 3)) (T11.setTop (mkF m 33 #[.val (.ref x), .val (.ref y), .val (.ref y)] [.int cd', .int cd])) := c10.trans (st11 _ (Steps.refl _))
    by_cases hcd : cd = cd'
    · subst hcd
      have c13 : Steps p.tables e below (s₁.setTop (entryFrame m #[.ref x, .ref y] 3)) (T11.setTop (mkF m 37 #[.val (.ref x), .val (.ref y), .val (.ref y)] [.ref x])) := c12.trans (by
        refine XS.icmpNo X11.here hexec rfl (hb hbytes d33) rfl (ii_ne_f rfl) ?_
        refine XS.aloadN X11.here hexec rfl (hb hbytes d36) rfl rfl ?_
        exact Steps.refl _)
      obtain ⟨T14, X14, q14, st14⟩ := X11.hget hexec hown (wk W (.fieldLink "java/lang/String" 9 "java/lang/String" "value" "[B")) (hx.mv X11.warmed.alike hh11).2.1 (g := (mkF m 37 #[.val (.ref x), .val (.ref y), .val (.ref y)] [.ref x])) rfl (rest := []) rfl (hb hbytes d37)
      have hh14 := q14.trans hh11
      have c15 : Steps p.tables e below (s₁.setTop (entryFrame m #[.ref x, .ref y] 3)) (T14.setTop (mkF m 41 #[.val (.ref x), .val (.ref y), .val (.ref y)] [.ref y, .ref t])) := (c13.trans (st14 _ (Steps.refl _))).trans (by
        refine XS.aloadN X14.here hexec rfl (hb hbytes d40) rfl rfl ?_
        exact Steps.refl _)
      obtain ⟨T16, X16, q16, st16⟩ := X14.hget hexec hown (wk W (.fieldLink "java/lang/String" 9 "java/lang/String" "value" "[B")) (hy.mv X14.warmed.alike hh14).2.1 (g := (mkF m 41 #[.val (.ref x), .val (.ref y), .val (.ref y)] [.ref y, .ref t])) rfl (rest := [.ref t]) rfl (hb hbytes d41)
      have hh16 := q16.trans hh14
      have c17 : Steps p.tables e below (s₁.setTop (entryFrame m #[.ref x, .ref y] 3)) (T16.setTop (mkF m 44 #[.val (.ref x), .val (.ref y), .val (.ref y)] [.ref t', .ref t])) := c15.trans (st16 _ (Steps.refl _))
      obtain ⟨v18, T18, X18, E18, g18⟩ := X16.callS hexec (LEq.law l t V t' V') hown (wks W (staticW "java/lang/String" 541 LEq.yN)) (wk W LEq.tab) (W := 0) (Nat.le_of_ble_eq_true rfl) (Nat.le_of_ble_eq_true rfl) (Nat.le_refl _) (Nat.le_refl _) (g := (mkF m 44 #[.val (.ref x), .val (.ref y), .val (.ref y)] [.ref t', .ref t])) rfl (by rw [hml]; rfl) c17 (argsL := [.ref t, .ref t']) (rest := []) rfl rfl (by show 2 * 0 + 0 ≤ _; decide) (hb hbytes d44) (⟨rfl, hx.2.2.2.1.mv X16.warmed.alike hh16, hx.2.2.2.2.1.ty, hy.2.2.2.1.mv X16.warmed.alike hh16, hy.2.2.2.2.1.ty⟩)
      obtain ⟨v, rfl, q18, hv⟩ := E18
      have iff := Cod.eqv hx.2.2.2.2.1 hy.2.2.2.2.1 hx.2.2.2.2.2 hy.2.2.2.2.2
      rcases hv with ⟨rfl, he⟩ | ⟨rfl, he⟩
      · have c19 : Steps p.tables e below (s₁.setTop (entryFrame m #[.ref x, .ref y] 3)) (T18.setTop (mkF m 55 #[.val (.ref x), .val (.ref y), .val (.ref y)] [.int 1])) := Steps.trans g18 (by
          refine XS.ifNo X18.here hexec rfl (hb hbytes d47) rfl (i0_eq_f (by decide)) ?_
          refine iconstV X18.here hexec rfl 1 (hb hbytes d50) (by decide) ?_
          refine XS.goto X18.here hexec rfl (pc0 := 51) rfl (hb hbytes d51) (by decide) rfl ?_
          exact Steps.refl _)
        exact ⟨T18, some (.int 1), _, _, _, X18, rfl, rfl, rfl, (fun h => by cases h), ⟨1, rfl, q18.trans hh16, Or.inl ⟨rfl, iff.mp he⟩⟩, fun fs hl => c19.trans (X18.ireturnOut hexec hret rfl (Or.inr (Or.inl rfl)) (hb hbytes d55) hl)⟩
      · have c19 : Steps p.tables e below (s₁.setTop (entryFrame m #[.ref x, .ref y] 3)) (T18.setTop (mkF m 55 #[.val (.ref x), .val (.ref y), .val (.ref y)] [.int 0])) := Steps.trans g18 (by
          refine XS.ifYes X18.here hexec rfl (pc0 := 47) rfl (hb hbytes d47) rfl (i0_eq_t rfl) (by decide) rfl ?_
          refine iconstV X18.here hexec rfl 0 (hb hbytes d54) (by decide) ?_
          exact Steps.refl _)
        exact ⟨T18, some (.int 0), _, _, _, X18, rfl, rfl, rfl, (fun h => by cases h), ⟨0, rfl, q18.trans hh16, Or.inr ⟨rfl, fun q => he (iff.mpr q)⟩⟩, fun fs hl => c19.trans (X18.ireturnOut hexec hret rfl (Or.inr (Or.inl rfl)) (hb hbytes d55) hl)⟩
    · have c13 : Steps p.tables e below (s₁.setTop (entryFrame m #[.ref x, .ref y] 3)) (T11.setTop (mkF m 55 #[.val (.ref x), .val (.ref y), .val (.ref y)] [.int 0])) := c12.trans (by
        refine XS.icmpYes X11.here hexec rfl (pc0 := 33) rfl (hb hbytes d33) rfl (ii_ne_t hcd) (by decide) rfl ?_
        refine iconstV X11.here hexec rfl 0 (hb hbytes d54) (by decide) ?_
        exact Steps.refl _)
      exact ⟨T11, some (.int 0), _, _, _, X11, rfl, rfl, rfl, (fun h => by cases h), ⟨0, rfl, hh11, Or.inr ⟨rfl, Cod.dif hx.2.2.2.2.1 hy.2.2.2.2.1 hcd⟩⟩, fun fs hl => c13.trans (X11.ireturnOut hexec hret rfl (Or.inr (Or.inl rfl)) (hb hbytes d55) hl)⟩
theorem pays {l : Launch} {R : Room} {p : Program} {e : Env} {below : List Frame} {s : State} {sargs : Array Value} {len W : Nat} (x t : Addr) (V : Cell) (cd : Int32) (n : Nat) (f : Nat → Int32) (y t' : Addr) (V' : Cell) (cd' : Int32) (k : Nat) (g : Nat → Int32) (z : Int32) (htab : tab.before sargs s = true) (hfr : 2 ≤ R.frames) (hlo : W + 28 ≤ R.locals) :
    Back l R p e below s sargs yN len W (fun A₁ a₁ => A₁.cells + 0 ≤ R.cells ∧ A₁.slots + 0 ≤ R.slots ∧ P x t V cd n f y t' V' cd' k g z a₁ A₁.U) (fun A₁ _ v₁ B₁ => Says01 (SameT n f k g) v₁ A₁.U B₁.U ∧ B₁.locs = A₁.locs ++ [] ∧ B₁.cells = A₁.cells + 0 ∧ B₁.slots = A₁.slots + 0) :=
  (law l x t V cd n f y t' V' cd' k g z).pays htab hfr (by omega)
end SEq
end StrChars
namespace StrChars.Road
open Jvm Sem ClassFile Op Lib Jvm.Stand Jvm.Free Jvm.Free.XT
open Jvm.Lib.Cold (StaticIs)
/-- the words of String.equals(Object) -/
abbrev wordsEq : List Jvm.Cond := [.code SEq.yN SEq.yB 3 (some .boolean), .initialized ST, .classLink ST 10 ST, .fieldLink ST 38 ST "COMPACT_STRINGS" "Z", .fieldLink ST 15 ST "coder" "B", .fieldLink ST 9 ST "value" "[B", .methodLink ST 541 LEq.yN, .static LEq.yN, .code LEq.yN LEq.yB 3 (some .boolean), .initialized "java/lang/StringLatin1"]
theorem tabEq_of {a : Array Value} {s : State} (h : ∀ w ∈ wordsEq, w.before a s = true) : SEq.tab.before a s = true := by
  have hl : LEq.tab.before a s = true := unparts (wk h (.code LEq.yN LEq.yB 3 (some .boolean))) (wks h (.initialized LEq.yN.cls :: LEq.site))
  have q := consq hl h
  exact unparts (wk q (.code SEq.yN SEq.yB 3 (some .boolean))) (wks q (.initialized SEq.yN.cls :: SEq.site))
theorem movedEq {Z s : State} {a0 args : Array Value} (hZ : Z.Warmed39 s.vm) (hw : ∀ d ∈ wordsEq, d.before a0 Z = true) : ∀ d ∈ wordsEq, d.before args s = true := fun d hd => by
  have t : ∀ d ∈ wordsEq, (d.onTables && d.keepsFace) = true := by decide +kernel
  exact RoadKit.mv hZ (hw d hd) (t d hd)
theorem txt_of {Z U : State} {a0 : Array Value} {kI : Nat} (wi : (Jvm.Cond.instantiable ST kI).before a0 Z = true) (al : Z.vm.Alike U.vm) {x t : Addr} {kb : ClassId} {cs : List Int32} {cd N2 : Int32} {vs : List Value} (E : RoadKit.Exa Z U.heap x ST) (V : RoadKit.Fld Z U.heap x ST "value" "[B" (.ref t)) (C : RoadKit.Fld Z U.heap x ST "coder" "B" (.int cd)) (K : RoadKit.Arv Z U.heap t kb .byte N2 vs (.int 0)) (hc : CodA cs cd N2 vs) (hb : ∀ c ∈ cs, ¬ c < 0 ∧ ¬ (65535 : Int32) < c) (l2 : cs.length ≤ 4000) :
    ∃ A, Txt x t A cd cs.length (fun j => cs.getD j 0) U := by
  obtain ⟨A, K1, K2, K3, K4, K5, K6⟩ := K
  have hcod := hc.cod (by omega) K3 K5
  obtain ⟨D, fV, fC, hB, F1, F2, g1, g2, -, -⟩ := strObj wi al E V C
  exact ⟨A, ⟨_, hB.2.2.1, D, hB.1, rfl, by cases q : D.vm <;> first | rfl | exact absurd q (hB.2.1.2 _)⟩, Has.of hB F1 g1, Has.of hB F2 g2, ⟨K1.1, State.isArrayOf_alike al K1.2.1, K1.2.2, by rcases hcod with ⟨-, q, -⟩ | ⟨-, q, -⟩ <;> omega⟩, hcod, fun j hj => by
    have e : cs.getD j 0 = cs[j] := by simp [List.getD_eq_getElem?_getD, hj]
    show ¬ cs.getD j 0 < 0 ∧ ¬ 65535 < cs.getD j 0
    rw [e]; exact hb _ (List.getElem_mem _)⟩
theorem same_list (cs ds : List Int32) : SameT cs.length (fun j => cs.getD j 0) ds.length (fun j => ds.getD j 0) ↔ cs = ds := by
  constructor
  · rintro ⟨e, q⟩
    refine List.ext_getElem e fun j h1 h2 => ?_
    have := q j h1
    simpa [List.getD_eq_getElem?_getD, h1, h2] using this
  · rintro rfl
    exact ⟨rfl, fun _ _ => rfl⟩
theorem eqW {p : Program} {l : Launch} {e : Env} {R : Room} {s : State} {args : Array Value} {below : List Frame} {len W : Nat} {Z : State} {a0 : Array Value} {h : Heap} (hZ : Z.Warmed39 s.vm) (hw : ∀ d ∈ wordsEq, d.before a0 Z = true) {kI : Nat} (wi : (Jvm.Cond.instantiable ST kI).before a0 Z = true)
    {x t : Addr} {kb : ClassId} {cs : List Int32} {cd N2 : Int32} {vs : List Value} (E : RoadKit.Exa Z h x ST) (V : RoadKit.Fld Z h x ST "value" "[B" (.ref t)) (C : RoadKit.Fld Z h x ST "coder" "B" (.int cd)) (K : RoadKit.Arv Z h t kb .byte N2 vs (.int 0)) (hc : CodA cs cd N2 vs) (hb : ∀ c ∈ cs, ¬ c < 0 ∧ ¬ (65535 : Int32) < c) (l2 : cs.length ≤ 4000)
    {y t' : Addr} {kb' : ClassId} {ds : List Int32} {cd' N2' : Int32} {vs' : List Value} (E' : RoadKit.Exa Z h y ST) (V' : RoadKit.Fld Z h y ST "value" "[B" (.ref t')) (C' : RoadKit.Fld Z h y ST "coder" "B" (.int cd')) (K' : RoadKit.Arv Z h t' kb' .byte N2' vs' (.int 0)) (hc' : CodA ds cd' N2' vs') (hb' : ∀ c ∈ ds, ¬ c < 0 ∧ ¬ (65535 : Int32) < c) (l2' : ds.length ≤ 4000)
    {z : Int32} (S : RoadKit.Sta Z h ST "COMPACT_STRINGS" "Z" (.int z)) (hz : ¬ z = 0) (hfr : 2 ≤ R.frames) (hlo : W + 28 ≤ R.locals) :
    Back l R p e below s args (⟨"java/lang/String", "equals", "(Ljava/lang/Object;)Z"⟩ : MethodName) len W (fun P a => a = #[.ref x, .ref y] ∧ P.U.heap = h ∧ P.cells + 0 ≤ R.cells ∧ P.slots + 0 ≤ R.slots)
      (fun P _ v B => ∃ L, (((v = some (.int 1) ∧ cs = ds) ∨ (v = some (.int 0) ∧ ¬ cs = ds)) ∧ L = [] ∧ B.U.heap = h) ∧ B.locs = P.locs ++ L ∧ B.cells = P.cells + 0 ∧ B.slots = P.slots + 0) := by
  intro m meth c P g ig mk a X hg hsize hdg hW hn hp'
  obtain ⟨rfl, rfl, r1, r2⟩ := hp'
  have al : Z.vm.Alike P.U.vm := hZ.alike.trans X.warmed.alike
  obtain ⟨A, hx⟩ := txt_of wi al E V C K hc hb l2
  obtain ⟨A', hy⟩ := txt_of wi al E' V' C' K' hc' hb' l2'
  obtain ⟨v, B, X', ⟨⟨w, hv, hh, hq⟩, hl, hk, hs⟩, st⟩ := SEq.pays x t A cd cs.length (fun j => cs.getD j 0) y t' A' cd' ds.length (fun j => ds.getD j 0) z (tabEq_of (movedEq hZ hw)) hfr hlo m meth c P g ig mk _ X hg hsize hdg hW hn ⟨r1, r2, rfl, hx, hy, sta_is al S, hz⟩
  refine ⟨v, B, X', ⟨[], ⟨?_, rfl, hh⟩, hl, hk, hs⟩, st⟩
  rcases hq with ⟨rfl, q⟩ | ⟨rfl, q⟩
  · exact Or.inl ⟨hv, (same_list cs ds).mp q⟩
  · exact Or.inr ⟨hv, fun e => q ((same_list cs ds).mpr e)⟩
end StrChars.Road
end Jvm.Pilot.@@N@@
namespace Jvm.Pilot.@@N@@
open Jvm Jvm.ClassFile Sem Op Lib Jvm.Free Jvm.Stand Jvm.LawKit Jvm.RoadKit Jvm.S9 Bundle Jvm.Pilot.@@N@@.Jvm.D
theorem wI {a0 : Array Value} {Z : State} (hw : ∀ d ∈ tables_1, d.before a0 Z = true) (i : Nat) {d : Cond} (h : tables_1[i]? = some d) : d.before a0 Z = true := hw d (List.mem_of_getElem? h)
theorem lT {a b c : Nat} (h : a ≤ b) (k : b ≤ c) : a ≤ c := Nat.le_trans h k
theorem lL {a b c : Nat} (h : a < b) (k : b ≤ c) : a < c := Nat.lt_of_lt_of_le h k
theorem nL {a b : Nat} (h : a < b) : a ≠ b := Nat.ne_of_lt h
def Cmp (Z : State) : Prop := ∃ z : Int32, ¬ z = 0 ∧ Sta Z Z.heap "java/lang/String" "COMPACT_STRINGS" "Z" (.int z)
theorem own_char (x : Int32) : ¬ ((x &&& (255 : Int32)).toUInt32.toUInt16.toUInt32.toInt32) < 0 ∧ ¬ (255 : Int32) < ((x &&& (255 : Int32)).toUInt32.toUInt16.toUInt32.toInt32) := by
  have t : ∀ k : Fin 256, ¬ ((Int32.ofNat k.val).toUInt32.toUInt16.toUInt32.toInt32) < 0 ∧ ¬ (255 : Int32) < ((Int32.ofNat k.val).toUInt32.toUInt16.toUInt32.toInt32) := by decide +kernel
  have h : (x &&& 255).toBitVec.toNat < 256 := by
    simp only [Int32.toBitVec_and, BitVec.toNat_and]
    exact Nat.lt_succ_of_le Nat.and_le_right
  have e : (x &&& 255) = Int32.ofNat (x &&& 255).toBitVec.toNat := by
    apply Int32.toBitVec_inj.mp
    show _ = BitVec.ofNat 32 _
    rw [BitVec.ofNat_toNat]; simp
  rw [e]
  exact t ⟨_, h⟩
theorem own_i8 (x : Int32) : x.toInt8.toInt32.toInt8.toInt32 = x.toInt8.toInt32 := by simp
theorem own_words_eq : ∀ d ∈ StrChars.Road.wordsEq, d ∈ tables_1 := by decide +kernel
theorem own_codA {cs : List Int32} (h : ∀ c ∈ cs, ¬ c < 0 ∧ ¬ (255 : Int32) < c) : StrChars.Road.CodA cs 0 (Int32.ofNat cs.length) (cs.map fun c => Value.int (c.toInt8.toInt32)) := Or.inl ⟨rfl, rfl, rfl, fun c hc => (h c hc).2⟩
theorem own_up {cs : List Int32} (h : ∀ c ∈ cs, ¬ c < 0 ∧ ¬ (255 : Int32) < c) : ∀ c ∈ cs, ¬ c < 0 ∧ ¬ (65535 : Int32) < c := fun c hc => ⟨(h c hc).1, fun q => (h c hc).2 (by rw [Int32.lt_iff_toInt_lt] at q ⊢; have e1 : (65535 : Int32).toInt = 65535 := rfl; have e2 : (255 : Int32).toInt = 255 := rfl; omega)⟩
theorem own_eqStr {p : Program} {l : Launch} {e : Env} {R : Room} {s : State} {args : Array Value} {below : List Frame} {W : Nat} {Z : State} {a0 : Array Value} (hZ : Z.Warmed39 s.vm) (hfr : 2 ≤ R.frames) (hlo : W + 28 ≤ R.locals) (hw : ∀ d ∈ tables_1, d.before a0 Z = true) (x t : Addr) (kb : ClassId) (cs : List Int32) (y t' : Addr) (kb' : ClassId) (ds : List Int32) (h : Heap) (n0 : Nat) (Z0 : n0 ≤ h.size)
    (F : Str Z h x t kb cs) (F' : Str Z h y t' kb' ds) (O : Old Z n0 h) (G : Cmp Z) :
    Jvm.Y9.Bk l R p e below s args (⟨"java/lang/String", "equals", "(Ljava/lang/Object;)Z"⟩ : MethodName) 3 W #[.ref x, .ref y] h 0 0 n0 (fun v h' => v = some (.int (if cs = ds then (1 : Int32) else (0 : Int32))) ∧ h = h') := by
  obtain ⟨z, hz, S⟩ := G
  refine Back.mono (StrChars.Road.eqW (W := W) hZ (fun d hd => hw d (own_words_eq d hd)) (kI := 4) (wI hw 9 rfl) F.1 F.2.1 F.2.2.1 F.2.2.2.1 (own_codA F.2.2.2.2.1) (own_up F.2.2.2.2.1) F.2.2.2.2.2 F'.1 F'.2.1 F'.2.2.1 F'.2.2.2.1 (own_codA F'.2.2.2.2.1) (own_up F'.2.2.2.2.1) F'.2.2.2.2.2 (S.ext O.2) hz hfr hlo) (fun P a hp => hp) (fun P a v B _ hq => ?_)
  obtain ⟨L, ⟨q1, rfl, q3⟩, r⟩ := hq
  refine ⟨[], ⟨⟨?_, q3.symm⟩, Fr.nil n0⟩, r⟩
  rcases q1 with ⟨rfl, q⟩ | ⟨rfl, q⟩
  · rw [if_pos q]
  · rw [if_neg q]
def fill (cs : List Int32) (cap : Nat) : List Value := (cs.map fun c => Value.int (c.toInt8.toInt32)) ++ List.replicate (cap - cs.length) (Value.int (0 : Int32))
theorem own_clamp {n : Nat} (h : n ≤ 100000) : (Int32.ofNat n).toNatClampNeg = n ∧ ¬ Int32.ofNat n < 0 ∧ (Int32.ofNat n).toInt = n := by
  have e : (Int32.ofNat n).toInt = n := Int32.toInt_ofNat_of_lt (by omega)
  have z : (0 : Int32).toInt = 0 := by decide
  refine ⟨?_, fun q => ?_, e⟩
  · show (Int32.ofNat n).toInt.toNat = n
    rw [e]; rfl
  · rw [Int32.lt_iff_toInt_lt, e, z] at q; omega
def Bld (Z : State) (h : Heap) (x t : Addr) (kb : ClassId) (cs : List Int32) (cap : Nat) : Prop :=
  Exa Z h x "java/lang/StringBuilder" ∧ Fld Z h x "java/lang/AbstractStringBuilder" "value" "[B" (.ref t) ∧ Fld Z h x "java/lang/AbstractStringBuilder" "coder" "B" (.int 0) ∧ Fld Z h x "java/lang/AbstractStringBuilder" "count" "I" (.int (Int32.ofNat cs.length)) ∧ Arv Z h t kb .byte (Int32.ofNat cap) (fill cs cap) (.int 0)
theorem Bld.keep {Z : State} {h h' : Heap} {x t : Addr} {kb : ClassId} {cs : List Int32} {cap : Nat} {ws : List Addr} (F : Bld Z h x t kb cs cap) (K : Keep h h' ws) (q1 : x ∉ ws) (q2 : t ∉ ws) : Bld Z h' x t kb cs cap :=
  ⟨F.1.keep K, F.2.1.keep K q1, F.2.2.1.keep K q1, F.2.2.2.1.keep K q1, F.2.2.2.2.keep K q2⟩
theorem own_in {c : Int32} (h : ¬ c < 0 ∧ ¬ (255 : Int32) < c) : ∃ k : Fin 256, c = Int32.ofNat k.val := by
  have z : (0 : Int32).toInt = 0 := by decide
  have y : (255 : Int32).toInt = 255 := by decide
  rw [Int32.lt_iff_toInt_lt, Int32.lt_iff_toInt_lt, z, y] at h
  refine ⟨⟨c.toInt.toNat, by omega⟩, ?_⟩
  apply Int32.toInt_inj.mp
  rw [(own_clamp (n := c.toInt.toNat) (by omega)).2.2]
  omega
theorem own_narC256 : ∀ k : Fin 256, nar .char (Int32.ofNat k.val) = Int32.ofNat k.val := by decide +kernel
theorem own_narC {c : Int32} (h : ¬ c < 0 ∧ ¬ (255 : Int32) < c) : nar .char c = c := by
  obtain ⟨k, rfl⟩ := own_in h
  exact own_narC256 k
def Ica (Z : State) : Prop := ∃ (ca : Addr) (cc : Cell), Sta Z Z.heap "java/lang/Integer$IntegerCache" "high" "I" (.int 127) ∧ Sta Z Z.heap "java/lang/Integer$IntegerCache" "cache" "[Ljava/lang/Integer;" (.ref ca) ∧ Bxs Z ca cc "java/lang/Integer" "I" 256 (fun j => .int (j - 128))
theorem own_ic {i : Int32} (h1 : ¬ i < (-128 : Int32)) (h2 : ¬ (127 : Int32) < i) {n : Nat} (hn : n = (256 : Int32).toNatClampNeg) : ¬ ((i + (128 : Int32)) < 0 ∨ n ≤ (i + (128 : Int32)).toNatClampNeg) := by
  have a1 : (-128 : Int32).toInt = -128 := by decide
  have a2 : (127 : Int32).toInt = 127 := by decide
  have a3 : (128 : Int32).toInt = 128 := by decide
  have a4 : (256 : Int32).toNatClampNeg = 256 := by decide
  have a5 : (0 : Int32).toInt = 0 := by decide
  rw [Int32.lt_iff_toInt_lt, a1] at h1
  rw [Int32.lt_iff_toInt_lt, a2] at h2
  have h3 := c_iadd i 128
  rw [a3] at h3
  have r := rng32 (i + 128)
  rw [Int32.lt_iff_toInt_lt, a5, hn, a4]
  show ¬ ((i + 128).toInt < 0 ∨ 256 ≤ (i + 128).toInt.toNat)
  omega
theorem own_ic2 (i : Int32) : (i + (128 : Int32)) - 128 = i := by simp
def c0 (b : Int32) : Int32 := ((((b.toUInt32 >>> ((2 : Int32) &&& 31).toUInt32).toInt32) &&& (255 : Int32)).toUInt32.toUInt16.toUInt32.toInt32)
def c1 (b : Int32) : Int32 := ((((b.toUInt32 >>> ((10 : Int32) &&& 31).toUInt32).toInt32) &&& (255 : Int32)).toUInt32.toUInt16.toUInt32.toInt32)
def txt (b : Int32) : List Int32 := if (b &&& (3 : Int32)) % 3 = 0 then [] else if (b &&& (3 : Int32)) % 3 = 1 then [c0 b] else [c0 b, c1 b]
theorem txt0 {b : Int32} (h : (b &&& (3 : Int32)) % 3 = 0) : txt b = [] := if_pos h
theorem txt1 {b : Int32} (h : (b &&& (3 : Int32)) % 3 = 1) : txt b = [c0 b] := by rw [txt, if_neg (by rw [h]; decide), if_pos h]
theorem txt2 {b : Int32} (h : (b &&& (3 : Int32)) % 3 = 2) : txt b = [c0 b, c1 b] := by rw [txt, if_neg (by rw [h]; decide), if_neg (by rw [h]; decide)]
theorem own_mod3 : ∀ k : Fin 4, ((Int32.ofNat k.val) % 3 = 0 ∨ (Int32.ofNat k.val) % 3 = 1 ∨ (Int32.ofNat k.val) % 3 = 2) := by decide +kernel
theorem own_and3 (x : Int32) : ∃ k : Fin 4, x &&& (3 : Int32) = Int32.ofNat k.val := by
  have h := c_mask x 3 2 (by decide) (by decide)
  have e : ((2 ^ 2 : Nat) : Int) = 4 := by decide
  rw [e] at h
  refine ⟨⟨(x &&& 3).toInt.toNat, by omega⟩, ?_⟩
  apply Int32.toInt_inj.mp
  rw [(own_clamp (n := (x &&& 3).toInt.toNat) (by omega)).2.2]
  omega
theorem own_three (x : Int32) : (x &&& (3 : Int32)) % 3 = 0 ∨ (x &&& (3 : Int32)) % 3 = 1 ∨ (x &&& (3 : Int32)) % 3 = 2 := by
  obtain ⟨k, hk⟩ := own_and3 x
  rw [hk]; exact own_mod3 k
theorem txt_len (b : Int32) : (txt b).length ≤ 2 := by
  rcases own_three b with h | h | h
  · rw [txt0 h]; simp
  · rw [txt1 h]; simp
  · rw [txt2 h]; simp
theorem txt_in (b : Int32) : ∀ c ∈ txt b, ¬ c < 0 ∧ ¬ (255 : Int32) < c := by
  intro c hc
  rcases own_three b with h | h | h
  · rw [txt0 h] at hc; cases hc
  · rw [txt1 h] at hc
    simp only [List.mem_cons, List.not_mem_nil, or_false] at hc
    subst hc; exact own_char _
  · rw [txt2 h] at hc
    simp only [List.mem_cons, List.not_mem_nil, or_false] at hc
    rcases hc with rfl | rfl
    · exact own_char _
    · exact own_char _
def eqV (y1 y2 : Int32) (xs xs' zs zs' : List Int32) : Int32 := if y1 = y2 ∧ xs = xs' ∧ zs = zs' then 1 else 0
theorem own_arrOf {Z : State} {args : Array Value} {C f d : String} {ty : FieldType} (h : (Cond.arrayOf (.static C f d) ty).before args Z = true) : ∃ (a : Addr) (c : Cell), (∀ idx, (Term.static C f d).eval args Z none idx Z = some (.ref a)) ∧ Arr Z Z.heap a c ty := by
  have h' := Cond.before_iff.mp h
  obtain ⟨a, ea⟩ := arr_v h'
  obtain ⟨c, A⟩ := Arr.start ea h'
  exact ⟨a, c, fun idx => by rw [← ea]; simp only [Term.eval], A⟩
theorem own_boxes {Z : State} {args : Array Value} {t : Term} {a : Addr} {c : Cell} (et : ∀ idx, t.eval args Z none idx Z = some (.ref a)) (A : Arr Z Z.heap a c (.object "java/lang/Integer")) (hl : (Cond.eq (.length t) (.int 256)).before args Z = true)
    (ha : (Cond.all t (.and (.exactly (.elem t (.index 0)) "java/lang/Integer") (.eq (.field (.elem t (.index 0)) "java/lang/Integer" "value" "I") (.sub (.index 0) (.int 128))))).before args Z = true) : Bxs Z a c "java/lang/Integer" "I" 256 (fun j => .int (j - 128)) := by
  have el := eqv_i (Z := Z) (Term.int_eval (256)) (Cond.before_iff.mp hl)
  have hat := A.fin (Vm.Alike.refl _)
  have hq : c.slots.size < 2 ^ 31 ∧ c.slots.size.toInt32 = 256 := by
    by_cases q : c.slots.size < 2 ^ 31
    · have := (len_f (et []) hat q).symm.trans el
      exact ⟨q, by simpa using this⟩
    · simp [Term.eval, et, hat, q] at el
  refine Bxs.start et A hq.1 hq.2 (by decide) (Cond.before_iff.mp ha) (fun X j nn hq => eqv_i ?_ hq)
  have := idx_at (args := args) (s := Z) (first := Z) (o := none) nn
  rw [Term.eval, this]
  rfl
def LC : List (String × Nat × String) × (Array (Array UInt16 × Addr) → Prop) := ([("java/lang/String", 7, "")], fun _ => True)
theorem own_atoms {Z : State} {a0 : Array Value} (hw : ∀ d ∈ tables_1, d.before a0 Z = true) : ∀ a ∈ Bundle.stringAtoms, a.before a0 Z = true := by
  intro d hd
  simp only [Bundle.stringAtoms, List.mem_cons, List.not_mem_nil, or_false] at hd
  rcases hd with rfl | rfl | rfl | rfl | rfl | rfl | rfl
  · exact hw _ (List.mem_of_getElem? (i := 10) rfl)
  · exact hw _ (List.mem_of_getElem? (i := 9) rfl)
  · exact hw _ (List.mem_of_getElem? (i := 22) rfl)
  · exact hw _ (List.mem_of_getElem? (i := 23) rfl)
  · exact hw _ (List.mem_of_getElem? (i := 24) rfl)
  · exact hw _ (List.mem_of_getElem? (i := 25) rfl)
  · exact hw _ (List.mem_of_getElem? (i := 26) rfl)
theorem own_lits {Z : State} {a0 : Array Value} (hw : ∀ d ∈ tables_1, d.before a0 Z = true) (hh : Jvm.Lit.constsHeld consts_1 Z) (hcw : Jvm.Lit.compactW.before a0 Z = true) : ∀ d ∈ LC.1, Jvm.Q9.LitW Z a0 d := by
  have wi : (Cond.instantiable "java/lang/String" 4).before a0 Z = true := (wI hw 9 rfl)
  have wa : (Cond.arrayClass .byte).before a0 Z = true := (wI hw 22 rfl)
  intro d hd
  simp only [LC, List.mem_cons, List.not_mem_nil, or_false] at hd
  rcases hd with rfl
  · have w1 : (Cond.stringLink "java/lang/String" 7 "").before a0 Z = true := (wI hw 21 rfl)
    refine ⟨w1, by decide +kernel, by decide +kernel, heldStart (hh _ (List.mem_of_getElem? (i := 0) rfl)) w1 (by decide +kernel) hcw wa wi, Jvm.Q9.own_found w1⟩
theorem dh_0 : decode method_3_code 0 = .ok (.iload_n 0, 1) := by decide +kernel
theorem dh_1 : decode method_3_code 1 = .ok (.iconst 3, 1) := by decide +kernel
theorem dh_2 : decode method_3_code 2 = .ok (.iand, 1) := by decide +kernel
theorem dh_3 : decode method_3_code 3 = .ok (.iconst 3, 1) := by decide +kernel
theorem dh_4 : decode method_3_code 4 = .ok (.irem, 1) := by decide +kernel
theorem dh_5 : decode method_3_code 5 = .ok (.istore_n 1, 1) := by decide +kernel
theorem dh_6 : decode method_3_code 6 = .ok (.iload_n 1, 1) := by decide +kernel
theorem dh_7 : decode method_3_code 7 = .ok (.newarray .char, 2) := by decide +kernel
theorem dh_9 : decode method_3_code 9 = .ok (.astore_n 2, 1) := by decide +kernel
theorem dh_10 : decode method_3_code 10 = .ok (.iload_n 1, 1) := by decide +kernel
theorem dh_11 : decode method_3_code 11 = .ok (.ifCond .le 14, 3) := by decide +kernel
theorem dh_25 : decode method_3_code 25 = .ok (.iload_n 1, 1) := by decide +kernel
theorem dh_26 : decode method_3_code 26 = .ok (.iconst 1, 1) := by decide +kernel
theorem dh_27 : decode method_3_code 27 = .ok (.if_icmp .le 15, 3) := by decide +kernel
theorem dh_42 : decode method_3_code 42 = .ok (.aload_n 2, 1) := by decide +kernel
theorem dh_43 : decode method_3_code 43 = .ok (.areturn, 1) := by decide +kernel
theorem dh_14 : decode method_3_code 14 = .ok (.aload_n 2, 1) := by decide +kernel
theorem dh_15 : decode method_3_code 15 = .ok (.iconst 0, 1) := by decide +kernel
theorem dh_16 : decode method_3_code 16 = .ok (.iload_n 0, 1) := by decide +kernel
theorem dh_17 : decode method_3_code 17 = .ok (.iconst 2, 1) := by decide +kernel
theorem dh_18 : decode method_3_code 18 = .ok (.iushr, 1) := by decide +kernel
theorem dh_19 : decode method_3_code 19 = .ok (.sipush 255, 3) := by decide +kernel
theorem dh_22 : decode method_3_code 22 = .ok (.iand, 1) := by decide +kernel
theorem dh_23 : decode method_3_code 23 = .ok (.i2c, 1) := by decide +kernel
theorem dh_24 : decode method_3_code 24 = .ok (.castore, 1) := by decide +kernel
theorem dh_30 : decode method_3_code 30 = .ok (.aload_n 2, 1) := by decide +kernel
theorem dh_31 : decode method_3_code 31 = .ok (.iconst 1, 1) := by decide +kernel
theorem dh_32 : decode method_3_code 32 = .ok (.iload_n 0, 1) := by decide +kernel
theorem dh_33 : decode method_3_code 33 = .ok (.bipush 10, 2) := by decide +kernel
theorem dh_35 : decode method_3_code 35 = .ok (.iushr, 1) := by decide +kernel
theorem dh_36 : decode method_3_code 36 = .ok (.sipush 255, 3) := by decide +kernel
theorem dh_39 : decode method_3_code 39 = .ok (.iand, 1) := by decide +kernel
theorem dh_40 : decode method_3_code 40 = .ok (.i2c, 1) := by decide +kernel
theorem dh_41 : decode method_3_code 41 = .ok (.castore, 1) := by decide +kernel
theorem pn_com_example_tophat_ledger_tophatledger_HoldingGroupEqualsPinLaw : plainName "com/example/tophat_ledger/tophatledger/HoldingGroupEqualsPinLaw" = true := by first | (simp [plainName, overriddenIn]; done) | decide +kernel
theorem own_text (l : Launch) (Z : State) (a0 : Array Value) (hw : ∀ d ∈ tables_1, d.before a0 Z = true) (b : Int32) (h0 : Heap) (n0 : Nat) (Z0 : n0 ≤ h0.size) :
    Jvm.Y9.Con l Z (⟨"com/example/tophat_ledger/tophatledger/HoldingGroupEqualsPinLaw", "text", "(I)[C"⟩ : MethodName) method_3_code 3 (some (.array .char)) ({ frames := 0, cells := 1, slots := 2, locals := 0 } : Room) n0 #[(.int b)] h0 (fun v h => ∃ c : Addr, ∃ kC : ClassId, v = some (.ref c) ∧ Keep h0 h [] ∧ h0.size ≤ c ∧ Arv Z h c kC .char (Int32.ofNat (txt b).length) ((txt b).map Value.int) (.int 0)) := by
  refine Jvm.Y9.Con.intro (plainFor_of_name pn_com_example_tophat_ledger_tophatledger_HoldingGroupEqualsPinLaw) ?_
  intro p e s m below meth c s₁ hx hby hml hret hnm hown hlk hZ P0
  refine Jvm.Y9.Aim.cast (by first | (simp [entryFrame, mkF, argsToLocals, Value.category]; done) | rfl : entryFrame m #[(.int b)] 3 = (mkF m 0 #[.val (.int b), .unset, .unset] [])) ?_
  have H := P0.here
  refine Jvm.Y9.Aim.of (T' := s₁) (g' := (mkF m 7 #[.val (.int b), .val (.int ((b &&& (3 : Int32)) % (3 : Int32))), .unset] [(.int ((b &&& (3 : Int32)) % (3 : Int32)))])) (fun tgt kt => ?_) ?_
  · refine XS.iloadN H hx rfl (hb hby dh_0) rfl ?_
    refine XS.iconst H hx rfl (hb hby dh_1) ?_
    refine XS.iand H hx rfl (hb hby dh_2) rfl ?_
    refine XS.iconst H hx rfl (hb hby dh_3) ?_
    refine Jvm.Y9.own_irem H hx rfl (hb hby dh_4) rfl (by decide) ?_
    refine XS.istoreN H hx rfl (hb hby dh_5) rfl (l' := #[.val (.int b), .val (.int ((b &&& (3 : Int32)) % (3 : Int32))), .unset]) rfl ?_
    refine XS.iloadN H hx rfl (hb hby dh_6) rfl ?_
    exact kt
  rcases own_three b with hl | hl | hl
  · rw [hl]
    show Jvm.Y9.Aim p e below s _ _ n0 _ s₁ (mkF m 7 #[.val (.int b), .val (.int 0), .unset] [(.int 0)])
    refine Jvm.Y9.Aim.newP (z := (0 : Int32)) P0 hx hZ (wI hw 4 rfl) (hb hby dh_7) (by decide) (cap := 0) (by decide) (by decide) (by decide) (by decide) ?_
    intro T1 h2 k3 b4 g8 P5 E6 V7
    have K10 : Keep h0 h2 [] := (Keep.refl _ _).ext E6
    have K11 : Keep h0 h2 [] := (Keep.refl h0 []).trans K10 all0
    have V12 : Arv Z h2 b4 k3 .char (0 : Int32) [] (.int 0) := V7.pad (pad_rep [] (.int 0) 0)
    have H := P5.here
    refine Jvm.Y9.Aim.of (T' := T1) (g' := (mkF m 43 #[.val (.int b), .val (.int 0), .val (.ref b4)] [(.ref b4)])) (fun tgt kt => ?_) ?_
    · refine XS.astoreN H hx rfl (hb hby dh_9) rfl rfl (l' := #[.val (.int b), .val (.int 0), .val (.ref b4)]) rfl ?_
      refine XS.iloadN H hx rfl (hb hby dh_10) rfl ?_
      refine XS.ifYes H hx rfl (pc0 := 11) (pc' := 25) rfl (hb hby dh_11) rfl ((if0 _ _).trans (flt (by decide)).2.2.2) (by decide) (by decide) ?_
      refine XS.iloadN H hx rfl (hb hby dh_25) rfl ?_
      refine XS.iconst H hx rfl (hb hby dh_26) ?_
      refine XS.icmpYes H hx rfl (pc0 := 27) (pc' := 42) rfl (hb hby dh_27) rfl (flt (by decide)).2.2.2 (by decide) (by decide) ?_
      refine XS.aloadN H hx rfl (hb hby dh_42) rfl rfl ?_
      exact kt
    exact Jvm.Y9.Aim.retA P5 hx hlk hret rfl rfl (hb hby dh_43) (by decide) (by decide) ⟨b4, k3, rfl, K11, (lT (Nat.le_refl _) (Nat.le_of_eq g8.symm)), (by have q := V12; rw [txt0 hl]; exact q)⟩
  · rw [hl]
    show Jvm.Y9.Aim p e below s _ _ n0 _ s₁ (mkF m 7 #[.val (.int b), .val (.int 1), .unset] [(.int 1)])
    refine Jvm.Y9.Aim.newP (z := (1 : Int32)) P0 hx hZ (wI hw 4 rfl) (hb hby dh_7) (by decide) (cap := 1) (by decide) (by decide) (by decide) (by decide) ?_
    intro T13 h14 k15 b16 g20 P17 E18 V19
    have K22 : Keep h0 h14 [] := (Keep.refl _ _).ext E18
    have K23 : Keep h0 h14 [] := (Keep.refl h0 []).trans K22 all0
    have V24 : Arv Z h14 b16 k15 .char (1 : Int32) [(.int 0)] (.int 0) := V19.pad (pad_rep [] (.int 0) 1)
    have H := P17.here
    refine Jvm.Y9.Aim.of (T' := T13) (g' := (mkF m 24 #[.val (.int b), .val (.int 1), .val (.ref b16)] [(.int ((((b.toUInt32 >>> ((2 : Int32) &&& 31).toUInt32).toInt32) &&& (255 : Int32)).toUInt32.toUInt16.toUInt32.toInt32)), (.int 0), (.ref b16)])) (fun tgt kt => ?_) ?_
    · refine XS.astoreN H hx rfl (hb hby dh_9) rfl rfl (l' := #[.val (.int b), .val (.int 1), .val (.ref b16)]) rfl ?_
      refine XS.iloadN H hx rfl (hb hby dh_10) rfl ?_
      refine XS.ifNo H hx rfl (hb hby dh_11) rfl ((if0 _ _).trans (tlt (by decide)).2.2.2) ?_
      refine XS.aloadN H hx rfl (hb hby dh_14) rfl rfl ?_
      refine XS.iconst H hx rfl (hb hby dh_15) ?_
      refine XS.iloadN H hx rfl (hb hby dh_16) rfl ?_
      refine XS.iconst H hx rfl (hb hby dh_17) ?_
      refine XS.iushr H hx rfl (hb hby dh_18) rfl ?_
      refine XS.sipush H hx rfl (hb hby dh_19) ?_
      refine XS.iand H hx rfl (hb hby dh_22) rfl ?_
      refine XS.i2c H hx rfl (hb hby dh_23) rfl ?_
      exact kt
    refine Jvm.Y9.Aim.stC (x := ((((b.toUInt32 >>> ((2 : Int32) &&& 31).toUInt32).toInt32) &&& (255 : Int32)).toUInt32.toUInt16.toUInt32.toInt32)) (j := (0 : Int32)) P17 hx hZ V24 ⟨by decide, by decide⟩ 0 rfl (Nat.le_of_ble_eq_true rfl) (hb hby dh_24) (lT Z0 (Nat.le_of_eq g20.symm)) ?_
    intro T25 h26 P27 K28 V29
    replace V29 : Arv Z h26 b16 k15 .char (1 : Int32) [(.int (nar .char ((((b.toUInt32 >>> ((2 : Int32) &&& 31).toUInt32).toInt32) &&& (255 : Int32)).toUInt32.toUInt16.toUInt32.toInt32)))] (.int 0) := V29
    have K30 : Keep h0 h26 [] := K23.trans K28 (allS (Or.inr (lT (Nat.le_refl _) (Nat.le_of_eq g20.symm))) all0)
    have H := P27.here
    refine Jvm.Y9.Aim.of (T' := T25) (g' := (mkF m 43 #[.val (.int b), .val (.int 1), .val (.ref b16)] [(.ref b16)])) (fun tgt kt => ?_) ?_
    · refine XS.iloadN H hx rfl (hb hby dh_25) rfl ?_
      refine XS.iconst H hx rfl (hb hby dh_26) ?_
      refine XS.icmpYes H hx rfl (pc0 := 27) (pc' := 42) rfl (hb hby dh_27) rfl (flt (by decide)).2.2.2 (by decide) (by decide) ?_
      refine XS.aloadN H hx rfl (hb hby dh_42) rfl rfl ?_
      exact kt
    exact Jvm.Y9.Aim.retA P27 hx hlk hret rfl rfl (hb hby dh_43) (by decide) (by decide) ⟨b16, k15, rfl, K30, (lT (Nat.le_refl _) (Nat.le_of_eq g20.symm)), (by have q := V29; rw [own_narC (own_char _)] at q; rw [txt1 hl]; exact q)⟩
  · rw [hl]
    show Jvm.Y9.Aim p e below s _ _ n0 _ s₁ (mkF m 7 #[.val (.int b), .val (.int 2), .unset] [(.int 2)])
    refine Jvm.Y9.Aim.newP (z := (2 : Int32)) P0 hx hZ (wI hw 4 rfl) (hb hby dh_7) (by decide) (cap := 2) (by decide) (by decide) (by decide) (by decide) ?_
    intro T31 h32 k33 b34 g38 P35 E36 V37
    have K40 : Keep h0 h32 [] := (Keep.refl _ _).ext E36
    have K41 : Keep h0 h32 [] := (Keep.refl h0 []).trans K40 all0
    have V42 : Arv Z h32 b34 k33 .char (2 : Int32) [(.int 0), (.int 0)] (.int 0) := V37.pad (pad_rep [] (.int 0) 2)
    have H := P35.here
    refine Jvm.Y9.Aim.of (T' := T31) (g' := (mkF m 24 #[.val (.int b), .val (.int 2), .val (.ref b34)] [(.int ((((b.toUInt32 >>> ((2 : Int32) &&& 31).toUInt32).toInt32) &&& (255 : Int32)).toUInt32.toUInt16.toUInt32.toInt32)), (.int 0), (.ref b34)])) (fun tgt kt => ?_) ?_
    · refine XS.astoreN H hx rfl (hb hby dh_9) rfl rfl (l' := #[.val (.int b), .val (.int 2), .val (.ref b34)]) rfl ?_
      refine XS.iloadN H hx rfl (hb hby dh_10) rfl ?_
      refine XS.ifNo H hx rfl (hb hby dh_11) rfl ((if0 _ _).trans (tlt (by decide)).2.2.2) ?_
      refine XS.aloadN H hx rfl (hb hby dh_14) rfl rfl ?_
      refine XS.iconst H hx rfl (hb hby dh_15) ?_
      refine XS.iloadN H hx rfl (hb hby dh_16) rfl ?_
      refine XS.iconst H hx rfl (hb hby dh_17) ?_
      refine XS.iushr H hx rfl (hb hby dh_18) rfl ?_
      refine XS.sipush H hx rfl (hb hby dh_19) ?_
      refine XS.iand H hx rfl (hb hby dh_22) rfl ?_
      refine XS.i2c H hx rfl (hb hby dh_23) rfl ?_
      exact kt
    refine Jvm.Y9.Aim.stC (x := ((((b.toUInt32 >>> ((2 : Int32) &&& 31).toUInt32).toInt32) &&& (255 : Int32)).toUInt32.toUInt16.toUInt32.toInt32)) (j := (0 : Int32)) P35 hx hZ V42 ⟨by decide, by decide⟩ 0 rfl (Nat.le_of_ble_eq_true rfl) (hb hby dh_24) (lT Z0 (Nat.le_of_eq g38.symm)) ?_
    intro T43 h44 P45 K46 V47
    replace V47 : Arv Z h44 b34 k33 .char (2 : Int32) [(.int (nar .char ((((b.toUInt32 >>> ((2 : Int32) &&& 31).toUInt32).toInt32) &&& (255 : Int32)).toUInt32.toUInt16.toUInt32.toInt32))), (.int 0)] (.int 0) := V47
    have K48 : Keep h0 h44 [] := K41.trans K46 (allS (Or.inr (lT (Nat.le_refl _) (Nat.le_of_eq g38.symm))) all0)
    have H := P45.here
    refine Jvm.Y9.Aim.of (T' := T43) (g' := (mkF m 41 #[.val (.int b), .val (.int 2), .val (.ref b34)] [(.int ((((b.toUInt32 >>> ((10 : Int32) &&& 31).toUInt32).toInt32) &&& (255 : Int32)).toUInt32.toUInt16.toUInt32.toInt32)), (.int 1), (.ref b34)])) (fun tgt kt => ?_) ?_
    · refine XS.iloadN H hx rfl (hb hby dh_25) rfl ?_
      refine XS.iconst H hx rfl (hb hby dh_26) ?_
      refine XS.icmpNo H hx rfl (hb hby dh_27) rfl (tlt (by decide)).2.2.2 ?_
      refine XS.aloadN H hx rfl (hb hby dh_30) rfl rfl ?_
      refine XS.iconst H hx rfl (hb hby dh_31) ?_
      refine XS.iloadN H hx rfl (hb hby dh_32) rfl ?_
      refine XS.bipush H hx rfl (hb hby dh_33) ?_
      refine XS.iushr H hx rfl (hb hby dh_35) rfl ?_
      refine XS.sipush H hx rfl (hb hby dh_36) ?_
      refine XS.iand H hx rfl (hb hby dh_39) rfl ?_
      refine XS.i2c H hx rfl (hb hby dh_40) rfl ?_
      exact kt
    refine Jvm.Y9.Aim.stC (x := ((((b.toUInt32 >>> ((10 : Int32) &&& 31).toUInt32).toInt32) &&& (255 : Int32)).toUInt32.toUInt16.toUInt32.toInt32)) (j := (1 : Int32)) P45 hx hZ V47 ⟨by decide, by decide⟩ 1 rfl (Nat.le_of_ble_eq_true rfl) (hb hby dh_41) (lT Z0 (Nat.le_of_eq g38.symm)) ?_
    intro T49 h50 P51 K52 V53
    replace V53 : Arv Z h50 b34 k33 .char (2 : Int32) [(.int (nar .char ((((b.toUInt32 >>> ((2 : Int32) &&& 31).toUInt32).toInt32) &&& (255 : Int32)).toUInt32.toUInt16.toUInt32.toInt32))), (.int (nar .char ((((b.toUInt32 >>> ((10 : Int32) &&& 31).toUInt32).toInt32) &&& (255 : Int32)).toUInt32.toUInt16.toUInt32.toInt32)))] (.int 0) := V53
    have K54 : Keep h0 h50 [] := K48.trans K52 (allS (Or.inr (lT (Nat.le_refl _) (Nat.le_of_eq g38.symm))) all0)
    have H := P51.here
    refine Jvm.Y9.Aim.of (T' := T49) (g' := (mkF m 43 #[.val (.int b), .val (.int 2), .val (.ref b34)] [(.ref b34)])) (fun tgt kt => ?_) ?_
    · refine XS.aloadN H hx rfl (hb hby dh_42) rfl rfl ?_
      exact kt
    exact Jvm.Y9.Aim.retA P51 hx hlk hret rfl rfl (hb hby dh_43) (by decide) (by decide) ⟨b34, k33, rfl, K54, (lT (Nat.le_refl _) (Nat.le_of_eq g38.symm)), (by have q := V53; rw [own_narC (own_char _), own_narC (own_char _)] at q; rw [txt2 hl]; exact q)⟩
theorem df_0 : decode jdk_52_method_21_code 0 = .ok (.iconst 0, 1) := by decide +kernel
theorem df_1 : decode jdk_52_method_21_code 1 = .ok (.istore 5, 2) := by decide +kernel
theorem df_3 : decode jdk_52_method_21_code 3 = .ok (.iload 5, 2) := by decide +kernel
theorem df_5 : decode jdk_52_method_21_code 5 = .ok (.iload 4, 2) := by decide +kernel
theorem df_7 : decode jdk_52_method_21_code 7 = .ok (.if_icmp .ge 37, 3) := by decide +kernel
theorem df_10 : decode jdk_52_method_21_code 10 = .ok (.aload_n 0, 1) := by decide +kernel
theorem df_11 : decode jdk_52_method_21_code 11 = .ok (.iload_n 1, 1) := by decide +kernel
theorem df_12 : decode jdk_52_method_21_code 12 = .ok (.caload, 1) := by decide +kernel
theorem df_13 : decode jdk_52_method_21_code 13 = .ok (.istore 6, 2) := by decide +kernel
theorem df_15 : decode jdk_52_method_21_code 15 = .ok (.iload 6, 2) := by decide +kernel
theorem df_17 : decode jdk_52_method_21_code 17 = .ok (.sipush 255, 3) := by decide +kernel
theorem df_20 : decode jdk_52_method_21_code 20 = .ok (.if_icmp .le 6, 3) := by decide +kernel
theorem df_26 : decode jdk_52_method_21_code 26 = .ok (.aload_n 2, 1) := by decide +kernel
theorem df_27 : decode jdk_52_method_21_code 27 = .ok (.iload_n 3, 1) := by decide +kernel
theorem df_28 : decode jdk_52_method_21_code 28 = .ok (.iload 6, 2) := by decide +kernel
theorem df_30 : decode jdk_52_method_21_code 30 = .ok (.i2b, 1) := by decide +kernel
theorem df_31 : decode jdk_52_method_21_code 31 = .ok (.bastore, 1) := by decide +kernel
theorem df_32 : decode jdk_52_method_21_code 32 = .ok (.iinc 1 1, 3) := by decide +kernel
theorem df_35 : decode jdk_52_method_21_code 35 = .ok (.iinc 3 1, 3) := by decide +kernel
theorem df_38 : decode jdk_52_method_21_code 38 = .ok (.iinc 5 1, 3) := by decide +kernel
theorem df_41 : decode jdk_52_method_21_code 41 = .ok (.goto (-38), 3) := by decide +kernel
theorem df_44 : decode jdk_52_method_21_code 44 = .ok (.iload 4, 2) := by decide +kernel
theorem df_46 : decode jdk_52_method_21_code 46 = .ok (.ireturn, 1) := by decide +kernel
theorem pn_java_lang_StringUTF16 : plainName "java/lang/StringUTF16" = true := by first | (simp [plainName, overriddenIn]; done) | decide +kernel
theorem own_cps1 (l : Launch) (Z : State) (a0 : Array Value) (hw : ∀ d ∈ tables_1, d.before a0 Z = true) (b : Addr) (kC : ClassId) (t : Addr) (kb : ClassId) (a_ : Int32) (h0 : Heap) (n0 : Nat) (Z0 : n0 ≤ h0.size) (g_t : n0 ≤ t) (F0 : Arv Z h0 b kC .char (1 : Int32) [(.int a_)] (.int 0)) (F1 : Arv Z h0 t kb .byte (1 : Int32) [(.int 0)] (.int 0)) (ha_ : ¬ ((255 : Int32) < a_)) (nbt : b ≠ t) :
    Jvm.Y9.Con l Z (⟨"java/lang/StringUTF16", "compress", "([CI[BII)I"⟩ : MethodName) jdk_52_method_21_code 7 (some .int) ({ frames := 0, cells := 0, slots := 0, locals := 0 } : Room) n0 #[(.ref b), (.int 0), (.ref t), (.int 0), (.int 1)] h0 (fun v h => v = some (.int 1) ∧ Keep h0 h [t] ∧ Arv Z h t kb .byte (1 : Int32) [(.int (a_.toInt8.toInt32))] (.int 0)) := by
  refine Jvm.Y9.Con.intro (plainFor_of_name pn_java_lang_StringUTF16) ?_
  intro p e s m below meth c s₁ hx hby hml hret hnm hown hlk hZ P0
  refine Jvm.Y9.Aim.cast (by first | (simp [entryFrame, mkF, argsToLocals, Value.category]; done) | rfl : entryFrame m #[(.ref b), (.int 0), (.ref t), (.int 0), (.int 1)] 7 = (mkF m 0 #[.val (.ref b), .val (.int 0), .val (.ref t), .val (.int 0), .val (.int 1), .unset, .unset] [])) ?_
  have H := P0.here
  refine Jvm.Y9.Aim.of (T' := s₁) (g' := (mkF m 12 #[.val (.ref b), .val (.int 0), .val (.ref t), .val (.int 0), .val (.int 1), .val (.int 0), .unset] [(.int 0), (.ref b)])) (fun tgt kt => ?_) ?_
  · refine XS.iconst H hx rfl (hb hby df_0) ?_
    refine XS.istore H hx rfl (hb hby df_1) rfl (l' := #[.val (.ref b), .val (.int 0), .val (.ref t), .val (.int 0), .val (.int 1), .val (.int 0), .unset]) rfl ?_
    refine XS.iload H hx rfl (hb hby df_3) rfl ?_
    refine XS.iload H hx rfl (hb hby df_5) rfl ?_
    refine XS.icmpNo H hx rfl (hb hby df_7) rfl (tlt (by decide)).2.1 ?_
    refine XS.aloadN H hx rfl (hb hby df_10) rfl rfl ?_
    refine XS.iloadN H hx rfl (hb hby df_11) rfl ?_
    exact kt
  refine Jvm.Y9.Aim.ldC (j := (0 : Int32)) (v := (.int a_)) P0 hx hZ F0 ⟨by decide, by decide⟩ rfl (hb hby df_12) ?_
  have H := P0.here
  refine Jvm.Y9.Aim.of (T' := s₁) (g' := (mkF m 31 #[.val (.ref b), .val (.int 0), .val (.ref t), .val (.int 0), .val (.int 1), .val (.int 0), .val (.int a_)] [(.int (a_.toInt8.toInt32)), (.int 0), (.ref t)])) (fun tgt kt => ?_) ?_
  · refine XS.istore H hx rfl (hb hby df_13) rfl (l' := #[.val (.ref b), .val (.int 0), .val (.ref t), .val (.int 0), .val (.int 1), .val (.int 0), .val (.int a_)]) rfl ?_
    refine XS.iload H hx rfl (hb hby df_15) rfl ?_
    refine XS.sipush H hx rfl (hb hby df_17) ?_
    refine XS.icmpYes H hx rfl (pc0 := 20) (pc' := 26) rfl (hb hby df_20) rfl (flt ha_).2.2.2 (by decide) (by decide) ?_
    refine XS.aloadN H hx rfl (hb hby df_26) rfl rfl ?_
    refine XS.iloadN H hx rfl (hb hby df_27) rfl ?_
    refine XS.iload H hx rfl (hb hby df_28) rfl ?_
    refine XS.i2b H hx rfl (hb hby df_30) rfl ?_
    exact kt
  refine Jvm.Y9.Aim.stB (x := (a_.toInt8.toInt32)) (j := (0 : Int32)) P0 hx hZ F1 ⟨by decide, by decide⟩ 0 rfl (Nat.le_of_ble_eq_true rfl) (hb hby df_31) g_t ?_
  intro T55 h56 P57 K58 V59
  replace V59 : Arv Z h56 t kb .byte (1 : Int32) [(.int (a_.toInt8.toInt32).toInt8.toInt32)] (.int 0) := V59
  have K60 : Keep h0 h56 [t] := (Keep.refl h0 [t]).trans K58 (allS (Or.inl (List.mem_of_getElem? (i := 0) rfl)) all0)
  have H := P57.here
  refine Jvm.Y9.Aim.of (T' := T55) (g' := (mkF m 46 #[.val (.ref b), .val (.int 1), .val (.ref t), .val (.int 1), .val (.int 1), .val (.int 1), .val (.int a_)] [(.int 1)])) (fun tgt kt => ?_) ?_
  · refine XS.iinc H hx rfl (hb hby df_32) rfl (l' := #[.val (.ref b), .val (.int 1), .val (.ref t), .val (.int 0), .val (.int 1), .val (.int 0), .val (.int a_)]) rfl ?_
    refine XS.iinc H hx rfl (hb hby df_35) rfl (l' := #[.val (.ref b), .val (.int 1), .val (.ref t), .val (.int 1), .val (.int 1), .val (.int 0), .val (.int a_)]) rfl ?_
    refine XS.iinc H hx rfl (hb hby df_38) rfl (l' := #[.val (.ref b), .val (.int 1), .val (.ref t), .val (.int 1), .val (.int 1), .val (.int 1), .val (.int a_)]) rfl ?_
    refine XS.goto H hx rfl (pc0 := 41) (pc' := 3) rfl (hb hby df_41) (by decide) (by decide) ?_
    refine XS.iload H hx rfl (hb hby df_3) rfl ?_
    refine XS.iload H hx rfl (hb hby df_5) rfl ?_
    refine XS.icmpYes H hx rfl (pc0 := 7) (pc' := 44) rfl (hb hby df_7) rfl (flt (by decide)).2.1 (by decide) (by decide) ?_
    refine XS.iload H hx rfl (hb hby df_44) rfl ?_
    exact kt
  exact Jvm.Y9.Aim.retI P57 hx hlk hret (hb hby df_46) (by decide) (by decide) ⟨rfl, K60, (by have q := V59; rw [own_i8] at q; exact q)⟩
theorem de_0 : decode jdk_52_method_16_code 0 = .ok (.iload_n 2, 1) := by decide +kernel
theorem de_1 : decode jdk_52_method_16_code 1 = .ok (.newarray .byte, 2) := by decide +kernel
theorem de_3 : decode jdk_52_method_16_code 3 = .ok (.astore_n 3, 1) := by decide +kernel
theorem de_4 : decode jdk_52_method_16_code 4 = .ok (.aload_n 0, 1) := by decide +kernel
theorem de_5 : decode jdk_52_method_16_code 5 = .ok (.iload_n 1, 1) := by decide +kernel
theorem de_6 : decode jdk_52_method_16_code 6 = .ok (.aload_n 3, 1) := by decide +kernel
theorem de_7 : decode jdk_52_method_16_code 7 = .ok (.iconst 0, 1) := by decide +kernel
theorem de_8 : decode jdk_52_method_16_code 8 = .ok (.iload_n 2, 1) := by decide +kernel
theorem de_9 : decode jdk_52_method_16_code 9 = .ok (.invokestatic 115, 3) := by decide +kernel
theorem pd__28_5bCI_5bBII_29I : parseMethodDescriptor "([CI[BII)I" = some ⟨[(.array .char), .int, (.array .byte), .int, .int], some .int⟩ := by decide +kernel
theorem de_12 : decode jdk_52_method_16_code 12 = .ok (.istore 4, 2) := by decide +kernel
theorem de_14 : decode jdk_52_method_16_code 14 = .ok (.iload 4, 2) := by decide +kernel
theorem de_16 : decode jdk_52_method_16_code 16 = .ok (.iload_n 2, 1) := by decide +kernel
theorem de_17 : decode jdk_52_method_16_code 17 = .ok (.if_icmp .eq 40, 3) := by decide +kernel
theorem de_57 : decode jdk_52_method_16_code 57 = .ok (.aload_n 3, 1) := by decide +kernel
theorem de_58 : decode jdk_52_method_16_code 58 = .ok (.areturn, 1) := by decide +kernel
theorem own_cmp1 (l : Launch) (Z : State) (a0 : Array Value) (hw : ∀ d ∈ tables_1, d.before a0 Z = true) (b : Addr) (kC : ClassId) (a_ : Int32) (h0 : Heap) (n0 : Nat) (Z0 : n0 ≤ h0.size) (F0 : Arv Z h0 b kC .char (1 : Int32) [(.int a_)] (.int 0)) (ha_ : ¬ ((255 : Int32) < a_)) :
    Jvm.Y9.Con l Z (⟨"java/lang/StringUTF16", "compress", "([CII)[B"⟩ : MethodName) jdk_52_method_16_code 6 (some (.array .byte)) ({ frames := 1, cells := 1, slots := 1, locals := 18 } : Room) n0 #[(.ref b), (.int 0), (.int 1)] h0 (fun v h => ∃ t : Addr, ∃ kb : ClassId, v = some (.ref t) ∧ Keep h0 h [] ∧ h0.size ≤ t ∧ Arv Z h t kb .byte (1 : Int32) [(.int (a_.toInt8.toInt32))] (.int 0) ∧ Exa Z h t "[B") := by
  refine Jvm.Y9.Con.intro (plainFor_of_name pn_java_lang_StringUTF16) ?_
  intro p e s m below meth c s₁ hx hby hml hret hnm hown hlk hZ P0
  refine Jvm.Y9.Aim.cast (by first | (simp [entryFrame, mkF, argsToLocals, Value.category]; done) | rfl : entryFrame m #[(.ref b), (.int 0), (.int 1)] 6 = (mkF m 0 #[.val (.ref b), .val (.int 0), .val (.int 1), .unset, .unset, .unset] [])) ?_
  have H := P0.here
  refine Jvm.Y9.Aim.of (T' := s₁) (g' := (mkF m 1 #[.val (.ref b), .val (.int 0), .val (.int 1), .unset, .unset, .unset] [(.int 1)])) (fun tgt kt => ?_) ?_
  · refine XS.iloadN H hx rfl (hb hby de_0) rfl ?_
    exact kt
  refine Jvm.Y9.Aim.newPE (z := (1 : Int32)) P0 hx hZ (wI hw 22 rfl) (ad := "[B") (by decide) (hb hby de_1) (by decide) (cap := 1) (by decide) (by decide) (by decide) (by decide) ?_
  intro T61 h62 k63 b64 g68 P65 E66 V67 E69
  have K70 : Keep h0 h62 [] := (Keep.refl _ _).ext E66
  have K71 : Keep h0 h62 [] := (Keep.refl h0 []).trans K70 all0
  have V72 : Arv Z h62 b64 k63 .byte (1 : Int32) [(.int 0)] (.int 0) := V67.pad (pad_rep [] (.int 0) 1)
  have H := P65.here
  refine Jvm.Y9.Aim.of (T' := T61) (g' := (mkF m 9 #[.val (.ref b), .val (.int 0), .val (.int 1), .val (.ref b64), .unset, .unset] [(.int 1), (.int 0), (.ref b64), (.int 0), (.ref b)])) (fun tgt kt => ?_) ?_
  · refine XS.astoreN H hx rfl (hb hby de_3) rfl rfl (l' := #[.val (.ref b), .val (.int 0), .val (.int 1), .val (.ref b64), .unset, .unset]) rfl ?_
    refine XS.aloadN H hx rfl (hb hby de_4) rfl rfl ?_
    refine XS.iloadN H hx rfl (hb hby de_5) rfl ?_
    refine XS.aloadN H hx rfl (hb hby de_6) rfl rfl ?_
    refine XS.iconst H hx rfl (hb hby de_7) ?_
    refine XS.iloadN H hx rfl (hb hby de_8) rfl ?_
    exact kt
  have F73 : Arv Z h62 b kC .char (1 : Int32) [(.int a_)] (.int 0) := (F0.keep K70 nin0)
  refine Jvm.Y9.Aim.callS (argsL := [(.ref b), (.int 0), (.ref b64), (.int 0), (.int 1)]) (rest := []) P65 hx hZ hml hown (wI hw 111 rfl) (wI hw 112 rfl) (wI hw 109 rfl) (wI hw 113 rfl) (by decide) (Jvm.Y9.Con.back (W := 0) (own_cps1 l Z a0 hw b kC b64 k63 a_ h62 n0 (lT Z0 (K71.1)) (lT Z0 (Nat.le_of_eq g68.symm)) F73 V72 ha_ (nL (lL F0.lt (Nat.le_of_eq g68.symm)))) hZ (wI hw 113 rfl) (wI hw 109 rfl) (by decide) (by decide)) rfl pd__28_5bCI_5bBII_29I rfl (Nat.le_of_eq rfl) (hb hby de_9) (by decide) (by decide) ?_
  intro T74 h75 v78 P76 hQ77
  obtain ⟨rfl, K81, F82⟩ := hQ77
  have K83 : Keep h0 h75 [] := K71.trans K81 (allS (Or.inr (lT (Nat.le_refl _) (Nat.le_of_eq g68.symm))) all0)
  have H := P76.here
  refine Jvm.Y9.Aim.of (T' := T74) (g' := (mkF m 58 #[.val (.ref b), .val (.int 0), .val (.int 1), .val (.ref b64), .val (.int 1), .unset] [(.ref b64)])) (fun tgt kt => ?_) ?_
  · refine XS.istore H hx rfl (hb hby de_12) rfl (l' := #[.val (.ref b), .val (.int 0), .val (.int 1), .val (.ref b64), .val (.int 1), .unset]) rfl ?_
    refine XS.iload H hx rfl (hb hby de_14) rfl ?_
    refine XS.iloadN H hx rfl (hb hby de_16) rfl ?_
    refine XS.icmpYes H hx rfl (pc0 := 17) (pc' := 57) rfl (hb hby de_17) rfl (teq (by decide)).1 (by decide) (by decide) ?_
    refine XS.aloadN H hx rfl (hb hby de_57) rfl rfl ?_
    exact kt
  have F84 : Exa Z h75 b64 "[B" := (E69.keep K81)
  exact Jvm.Y9.Aim.retA P76 hx hlk hret rfl rfl (hb hby de_58) (by decide) (by decide) ⟨b64, k63, rfl, K83, (lT (Nat.le_refl _) (Nat.le_of_eq g68.symm)), F82, F84⟩
theorem dd_0 : decode jdk_52_method_15_code 0 = .ok (.iload_n 1, 1) := by decide +kernel
theorem dd_1 : decode jdk_52_method_15_code 1 = .ok (.aload_n 0, 1) := by decide +kernel
theorem dd_2 : decode jdk_52_method_15_code 2 = .ok (.arraylength, 1) := by decide +kernel
theorem dd_3 : decode jdk_52_method_15_code 3 = .ok (.isub, 1) := by decide +kernel
theorem dd_4 : decode jdk_52_method_15_code 4 = .ok (.bipush 31, 2) := by decide +kernel
theorem dd_6 : decode jdk_52_method_15_code 6 = .ok (.iushr, 1) := by decide +kernel
theorem dd_7 : decode jdk_52_method_15_code 7 = .ok (.i2b, 1) := by decide +kernel
theorem dd_8 : decode jdk_52_method_15_code 8 = .ok (.ireturn, 1) := by decide +kernel
theorem own_cfl1 (l : Launch) (Z : State) (a0 : Array Value) (hw : ∀ d ∈ tables_1, d.before a0 Z = true) (t : Addr) (kb : ClassId) (a_ : Int32) (h0 : Heap) (n0 : Nat) (Z0 : n0 ≤ h0.size) (F0 : Arv Z h0 t kb .byte (1 : Int32) [(.int (a_.toInt8.toInt32))] (.int 0)) :
    Jvm.Y9.Con l Z (⟨"java/lang/StringUTF16", "coderFromArrayLen", "([BI)B"⟩ : MethodName) jdk_52_method_15_code 2 (some .byte) ({ frames := 0, cells := 0, slots := 0, locals := 0 } : Room) n0 #[(.ref t), (.int 1)] h0 (fun v h => v = some (.int 0) ∧ h0 = h) := by
  refine Jvm.Y9.Con.intro (plainFor_of_name pn_java_lang_StringUTF16) ?_
  intro p e s m below meth c s₁ hx hby hml hret hnm hown hlk hZ P0
  refine Jvm.Y9.Aim.cast (by first | (simp [entryFrame, mkF, argsToLocals, Value.category]; done) | rfl : entryFrame m #[(.ref t), (.int 1)] 2 = (mkF m 0 #[.val (.ref t), .val (.int 1)] [])) ?_
  have H := P0.here
  refine Jvm.Y9.Aim.of (T' := s₁) (g' := (mkF m 2 #[.val (.ref t), .val (.int 1)] [(.ref t), (.int 1)])) (fun tgt kt => ?_) ?_
  · refine XS.iloadN H hx rfl (hb hby dd_0) rfl ?_
    refine XS.aloadN H hx rfl (hb hby dd_1) rfl rfl ?_
    exact kt
  refine Jvm.Y9.Aim.alen P0 hx hZ F0 (hb hby dd_2) ?_
  have H := P0.here
  refine Jvm.Y9.Aim.of (T' := s₁) (g' := (mkF m 8 #[.val (.ref t), .val (.int 1)] [(.int ((((0 : Int32).toUInt32 >>> ((31 : Int32) &&& 31).toUInt32).toInt32).toInt8.toInt32))])) (fun tgt kt => ?_) ?_
  · refine XS.isub H hx rfl (hb hby dd_3) rfl ?_
    refine XS.bipush H hx rfl (hb hby dd_4) ?_
    refine XS.iushr H hx rfl (hb hby dd_6) rfl ?_
    refine XS.i2b H hx rfl (hb hby dd_7) rfl ?_
    exact kt
  exact Jvm.Y9.Aim.retN (t := .byte) P0 hx hlk hret (by simp) (hb hby dd_8) (by decide) (by decide) ⟨rfl, rfl⟩
theorem own_cps2 (l : Launch) (Z : State) (a0 : Array Value) (hw : ∀ d ∈ tables_1, d.before a0 Z = true) (b : Addr) (kC : ClassId) (t : Addr) (kb : ClassId) (a_ : Int32) (b_ : Int32) (h0 : Heap) (n0 : Nat) (Z0 : n0 ≤ h0.size) (g_t : n0 ≤ t) (F0 : Arv Z h0 b kC .char (2 : Int32) [(.int a_), (.int b_)] (.int 0)) (F1 : Arv Z h0 t kb .byte (2 : Int32) [(.int 0), (.int 0)] (.int 0)) (ha_ : ¬ ((255 : Int32) < a_)) (hb_ : ¬ ((255 : Int32) < b_)) (nbt : b ≠ t) :
    Jvm.Y9.Con l Z (⟨"java/lang/StringUTF16", "compress", "([CI[BII)I"⟩ : MethodName) jdk_52_method_21_code 7 (some .int) ({ frames := 0, cells := 0, slots := 0, locals := 0 } : Room) n0 #[(.ref b), (.int 0), (.ref t), (.int 0), (.int 2)] h0 (fun v h => v = some (.int 2) ∧ Keep h0 h [t] ∧ Arv Z h t kb .byte (2 : Int32) [(.int (a_.toInt8.toInt32)), (.int (b_.toInt8.toInt32))] (.int 0)) := by
  refine Jvm.Y9.Con.intro (plainFor_of_name pn_java_lang_StringUTF16) ?_
  intro p e s m below meth c s₁ hx hby hml hret hnm hown hlk hZ P0
  refine Jvm.Y9.Aim.cast (by first | (simp [entryFrame, mkF, argsToLocals, Value.category]; done) | rfl : entryFrame m #[(.ref b), (.int 0), (.ref t), (.int 0), (.int 2)] 7 = (mkF m 0 #[.val (.ref b), .val (.int 0), .val (.ref t), .val (.int 0), .val (.int 2), .unset, .unset] [])) ?_
  have H := P0.here
  refine Jvm.Y9.Aim.of (T' := s₁) (g' := (mkF m 12 #[.val (.ref b), .val (.int 0), .val (.ref t), .val (.int 0), .val (.int 2), .val (.int 0), .unset] [(.int 0), (.ref b)])) (fun tgt kt => ?_) ?_
  · refine XS.iconst H hx rfl (hb hby df_0) ?_
    refine XS.istore H hx rfl (hb hby df_1) rfl (l' := #[.val (.ref b), .val (.int 0), .val (.ref t), .val (.int 0), .val (.int 2), .val (.int 0), .unset]) rfl ?_
    refine XS.iload H hx rfl (hb hby df_3) rfl ?_
    refine XS.iload H hx rfl (hb hby df_5) rfl ?_
    refine XS.icmpNo H hx rfl (hb hby df_7) rfl (tlt (by decide)).2.1 ?_
    refine XS.aloadN H hx rfl (hb hby df_10) rfl rfl ?_
    refine XS.iloadN H hx rfl (hb hby df_11) rfl ?_
    exact kt
  refine Jvm.Y9.Aim.ldC (j := (0 : Int32)) (v := (.int a_)) P0 hx hZ F0 ⟨by decide, by decide⟩ rfl (hb hby df_12) ?_
  have H := P0.here
  refine Jvm.Y9.Aim.of (T' := s₁) (g' := (mkF m 31 #[.val (.ref b), .val (.int 0), .val (.ref t), .val (.int 0), .val (.int 2), .val (.int 0), .val (.int a_)] [(.int (a_.toInt8.toInt32)), (.int 0), (.ref t)])) (fun tgt kt => ?_) ?_
  · refine XS.istore H hx rfl (hb hby df_13) rfl (l' := #[.val (.ref b), .val (.int 0), .val (.ref t), .val (.int 0), .val (.int 2), .val (.int 0), .val (.int a_)]) rfl ?_
    refine XS.iload H hx rfl (hb hby df_15) rfl ?_
    refine XS.sipush H hx rfl (hb hby df_17) ?_
    refine XS.icmpYes H hx rfl (pc0 := 20) (pc' := 26) rfl (hb hby df_20) rfl (flt ha_).2.2.2 (by decide) (by decide) ?_
    refine XS.aloadN H hx rfl (hb hby df_26) rfl rfl ?_
    refine XS.iloadN H hx rfl (hb hby df_27) rfl ?_
    refine XS.iload H hx rfl (hb hby df_28) rfl ?_
    refine XS.i2b H hx rfl (hb hby df_30) rfl ?_
    exact kt
  refine Jvm.Y9.Aim.stB (x := (a_.toInt8.toInt32)) (j := (0 : Int32)) P0 hx hZ F1 ⟨by decide, by decide⟩ 0 rfl (Nat.le_of_ble_eq_true rfl) (hb hby df_31) g_t ?_
  intro T85 h86 P87 K88 V89
  replace V89 : Arv Z h86 t kb .byte (2 : Int32) [(.int (a_.toInt8.toInt32).toInt8.toInt32), (.int 0)] (.int 0) := V89
  have K90 : Keep h0 h86 [t] := (Keep.refl h0 [t]).trans K88 (allS (Or.inl (List.mem_of_getElem? (i := 0) rfl)) all0)
  have H := P87.here
  refine Jvm.Y9.Aim.of (T' := T85) (g' := (mkF m 12 #[.val (.ref b), .val (.int 1), .val (.ref t), .val (.int 1), .val (.int 2), .val (.int 1), .val (.int a_)] [(.int 1), (.ref b)])) (fun tgt kt => ?_) ?_
  · refine XS.iinc H hx rfl (hb hby df_32) rfl (l' := #[.val (.ref b), .val (.int 1), .val (.ref t), .val (.int 0), .val (.int 2), .val (.int 0), .val (.int a_)]) rfl ?_
    refine XS.iinc H hx rfl (hb hby df_35) rfl (l' := #[.val (.ref b), .val (.int 1), .val (.ref t), .val (.int 1), .val (.int 2), .val (.int 0), .val (.int a_)]) rfl ?_
    refine XS.iinc H hx rfl (hb hby df_38) rfl (l' := #[.val (.ref b), .val (.int 1), .val (.ref t), .val (.int 1), .val (.int 2), .val (.int 1), .val (.int a_)]) rfl ?_
    refine XS.goto H hx rfl (pc0 := 41) (pc' := 3) rfl (hb hby df_41) (by decide) (by decide) ?_
    refine XS.iload H hx rfl (hb hby df_3) rfl ?_
    refine XS.iload H hx rfl (hb hby df_5) rfl ?_
    refine XS.icmpNo H hx rfl (hb hby df_7) rfl (tlt (by decide)).2.1 ?_
    refine XS.aloadN H hx rfl (hb hby df_10) rfl rfl ?_
    refine XS.iloadN H hx rfl (hb hby df_11) rfl ?_
    exact kt
  have F91 : Arv Z h86 b kC .char (2 : Int32) [(.int a_), (.int b_)] (.int 0) := (F0.keep K88 (ninS nbt nin0))
  refine Jvm.Y9.Aim.ldC (j := (1 : Int32)) (v := (.int b_)) P87 hx hZ F91 ⟨by decide, by decide⟩ rfl (hb hby df_12) ?_
  have H := P87.here
  refine Jvm.Y9.Aim.of (T' := T85) (g' := (mkF m 31 #[.val (.ref b), .val (.int 1), .val (.ref t), .val (.int 1), .val (.int 2), .val (.int 1), .val (.int b_)] [(.int (b_.toInt8.toInt32)), (.int 1), (.ref t)])) (fun tgt kt => ?_) ?_
  · refine XS.istore H hx rfl (hb hby df_13) rfl (l' := #[.val (.ref b), .val (.int 1), .val (.ref t), .val (.int 1), .val (.int 2), .val (.int 1), .val (.int b_)]) rfl ?_
    refine XS.iload H hx rfl (hb hby df_15) rfl ?_
    refine XS.sipush H hx rfl (hb hby df_17) ?_
    refine XS.icmpYes H hx rfl (pc0 := 20) (pc' := 26) rfl (hb hby df_20) rfl (flt hb_).2.2.2 (by decide) (by decide) ?_
    refine XS.aloadN H hx rfl (hb hby df_26) rfl rfl ?_
    refine XS.iloadN H hx rfl (hb hby df_27) rfl ?_
    refine XS.iload H hx rfl (hb hby df_28) rfl ?_
    refine XS.i2b H hx rfl (hb hby df_30) rfl ?_
    exact kt
  refine Jvm.Y9.Aim.stB (x := (b_.toInt8.toInt32)) (j := (1 : Int32)) P87 hx hZ V89 ⟨by decide, by decide⟩ 1 rfl (Nat.le_of_ble_eq_true rfl) (hb hby df_31) g_t ?_
  intro T92 h93 P94 K95 V96
  replace V96 : Arv Z h93 t kb .byte (2 : Int32) [(.int (a_.toInt8.toInt32).toInt8.toInt32), (.int (b_.toInt8.toInt32).toInt8.toInt32)] (.int 0) := V96
  have K97 : Keep h0 h93 [t] := K90.trans K95 (allS (Or.inl (List.mem_of_getElem? (i := 0) rfl)) all0)
  have H := P94.here
  refine Jvm.Y9.Aim.of (T' := T92) (g' := (mkF m 46 #[.val (.ref b), .val (.int 2), .val (.ref t), .val (.int 2), .val (.int 2), .val (.int 2), .val (.int b_)] [(.int 2)])) (fun tgt kt => ?_) ?_
  · refine XS.iinc H hx rfl (hb hby df_32) rfl (l' := #[.val (.ref b), .val (.int 2), .val (.ref t), .val (.int 1), .val (.int 2), .val (.int 1), .val (.int b_)]) rfl ?_
    refine XS.iinc H hx rfl (hb hby df_35) rfl (l' := #[.val (.ref b), .val (.int 2), .val (.ref t), .val (.int 2), .val (.int 2), .val (.int 1), .val (.int b_)]) rfl ?_
    refine XS.iinc H hx rfl (hb hby df_38) rfl (l' := #[.val (.ref b), .val (.int 2), .val (.ref t), .val (.int 2), .val (.int 2), .val (.int 2), .val (.int b_)]) rfl ?_
    refine XS.goto H hx rfl (pc0 := 41) (pc' := 3) rfl (hb hby df_41) (by decide) (by decide) ?_
    refine XS.iload H hx rfl (hb hby df_3) rfl ?_
    refine XS.iload H hx rfl (hb hby df_5) rfl ?_
    refine XS.icmpYes H hx rfl (pc0 := 7) (pc' := 44) rfl (hb hby df_7) rfl (flt (by decide)).2.1 (by decide) (by decide) ?_
    refine XS.iload H hx rfl (hb hby df_44) rfl ?_
    exact kt
  exact Jvm.Y9.Aim.retI P94 hx hlk hret (hb hby df_46) (by decide) (by decide) ⟨rfl, K97, (by have q := V96; rw [own_i8, own_i8] at q; exact q)⟩
theorem own_cmp2 (l : Launch) (Z : State) (a0 : Array Value) (hw : ∀ d ∈ tables_1, d.before a0 Z = true) (b : Addr) (kC : ClassId) (a_ : Int32) (b_ : Int32) (h0 : Heap) (n0 : Nat) (Z0 : n0 ≤ h0.size) (F0 : Arv Z h0 b kC .char (2 : Int32) [(.int a_), (.int b_)] (.int 0)) (ha_ : ¬ ((255 : Int32) < a_)) (hb_ : ¬ ((255 : Int32) < b_)) :
    Jvm.Y9.Con l Z (⟨"java/lang/StringUTF16", "compress", "([CII)[B"⟩ : MethodName) jdk_52_method_16_code 6 (some (.array .byte)) ({ frames := 1, cells := 1, slots := 2, locals := 18 } : Room) n0 #[(.ref b), (.int 0), (.int 2)] h0 (fun v h => ∃ t : Addr, ∃ kb : ClassId, v = some (.ref t) ∧ Keep h0 h [] ∧ h0.size ≤ t ∧ Arv Z h t kb .byte (2 : Int32) [(.int (a_.toInt8.toInt32)), (.int (b_.toInt8.toInt32))] (.int 0) ∧ Exa Z h t "[B") := by
  refine Jvm.Y9.Con.intro (plainFor_of_name pn_java_lang_StringUTF16) ?_
  intro p e s m below meth c s₁ hx hby hml hret hnm hown hlk hZ P0
  refine Jvm.Y9.Aim.cast (by first | (simp [entryFrame, mkF, argsToLocals, Value.category]; done) | rfl : entryFrame m #[(.ref b), (.int 0), (.int 2)] 6 = (mkF m 0 #[.val (.ref b), .val (.int 0), .val (.int 2), .unset, .unset, .unset] [])) ?_
  have H := P0.here
  refine Jvm.Y9.Aim.of (T' := s₁) (g' := (mkF m 1 #[.val (.ref b), .val (.int 0), .val (.int 2), .unset, .unset, .unset] [(.int 2)])) (fun tgt kt => ?_) ?_
  · refine XS.iloadN H hx rfl (hb hby de_0) rfl ?_
    exact kt
  refine Jvm.Y9.Aim.newPE (z := (2 : Int32)) P0 hx hZ (wI hw 22 rfl) (ad := "[B") (by decide) (hb hby de_1) (by decide) (cap := 2) (by decide) (by decide) (by decide) (by decide) ?_
  intro T98 h99 z0 z1 z2 z3 z4 z5 z6
  have z7 : Keep h0 h99 [] := (Keep.refl _ _).ext z4
  have z8 : Keep h0 h99 [] := (Keep.refl h0 []).trans z7 all0
  have z9 : Arv Z h99 z1 z0 .byte (2 : Int32) [(.int 0), (.int 0)] (.int 0) := z5.pad (pad_rep [] (.int 0) 2)
  have H := z3.here
  refine Jvm.Y9.Aim.of (T' := T98) (g' := (mkF m 9 #[.val (.ref b), .val (.int 0), .val (.int 2), .val (.ref z1), .unset, .unset] [(.int 2), (.int 0), (.ref z1), (.int 0), (.ref b)])) (fun tgt kt => ?_) ?_
  · refine XS.astoreN H hx rfl (hb hby de_3) rfl rfl (l' := #[.val (.ref b), .val (.int 0), .val (.int 2), .val (.ref z1), .unset, .unset]) rfl ?_
    refine XS.aloadN H hx rfl (hb hby de_4) rfl rfl ?_
    refine XS.iloadN H hx rfl (hb hby de_5) rfl ?_
    refine XS.aloadN H hx rfl (hb hby de_6) rfl rfl ?_
    refine XS.iconst H hx rfl (hb hby de_7) ?_
    refine XS.iloadN H hx rfl (hb hby de_8) rfl ?_
    exact kt
  have za : Arv Z h99 b kC .char (2 : Int32) [(.int a_), (.int b_)] (.int 0) := (F0.keep z7 nin0)
  refine Jvm.Y9.Aim.callS (argsL := [(.ref b), (.int 0), (.ref z1), (.int 0), (.int 2)]) (rest := []) z3 hx hZ hml hown (wI hw 111 rfl) (wI hw 112 rfl) (wI hw 109 rfl) (wI hw 113 rfl) (by decide) (Jvm.Y9.Con.back (W := 0) (own_cps2 l Z a0 hw b kC z1 z0 a_ b_ h99 n0 (lT Z0 (z8.1)) (lT Z0 (Nat.le_of_eq z2.symm)) za z9 ha_ hb_ (nL (lL F0.lt (Nat.le_of_eq z2.symm)))) hZ (wI hw 113 rfl) (wI hw 109 rfl) (by decide) (by decide)) rfl pd__28_5bCI_5bBII_29I rfl (Nat.le_of_eq rfl) (hb hby de_9) (by decide) (by decide) ?_
  intro zb zc zd ze zf
  obtain ⟨rfl, zg, zh⟩ := zf
  have zi : Keep h0 zc [] := z8.trans zg (allS (Or.inr (lT (Nat.le_refl _) (Nat.le_of_eq z2.symm))) all0)
  have H := ze.here
  refine Jvm.Y9.Aim.of (T' := zb) (g' := (mkF m 58 #[.val (.ref b), .val (.int 0), .val (.int 2), .val (.ref z1), .val (.int 2), .unset] [(.ref z1)])) (fun tgt kt => ?_) ?_
  · refine XS.istore H hx rfl (hb hby de_12) rfl (l' := #[.val (.ref b), .val (.int 0), .val (.int 2), .val (.ref z1), .val (.int 2), .unset]) rfl ?_
    refine XS.iload H hx rfl (hb hby de_14) rfl ?_
    refine XS.iloadN H hx rfl (hb hby de_16) rfl ?_
    refine XS.icmpYes H hx rfl (pc0 := 17) (pc' := 57) rfl (hb hby de_17) rfl (teq (by decide)).1 (by decide) (by decide) ?_
    refine XS.aloadN H hx rfl (hb hby de_57) rfl rfl ?_
    exact kt
  have zj : Exa Z zc z1 "[B" := (z6.keep zg)
  exact Jvm.Y9.Aim.retA ze hx hlk hret rfl rfl (hb hby de_58) (by decide) (by decide) ⟨z1, z0, rfl, zi, (lT (Nat.le_refl _) (Nat.le_of_eq z2.symm)), zh, zj⟩
theorem own_cfl2 (l : Launch) (Z : State) (a0 : Array Value) (hw : ∀ d ∈ tables_1, d.before a0 Z = true) (t : Addr) (kb : ClassId) (a_ : Int32) (b_ : Int32) (h0 : Heap) (n0 : Nat) (Z0 : n0 ≤ h0.size) (F0 : Arv Z h0 t kb .byte (2 : Int32) [(.int (a_.toInt8.toInt32)), (.int (b_.toInt8.toInt32))] (.int 0)) :
    Jvm.Y9.Con l Z (⟨"java/lang/StringUTF16", "coderFromArrayLen", "([BI)B"⟩ : MethodName) jdk_52_method_15_code 2 (some .byte) ({ frames := 0, cells := 0, slots := 0, locals := 0 } : Room) n0 #[(.ref t), (.int 2)] h0 (fun v h => v = some (.int 0) ∧ h0 = h) := by
  refine Jvm.Y9.Con.intro (plainFor_of_name pn_java_lang_StringUTF16) ?_
  intro p e s m below meth c s₁ hx hby hml hret hnm hown hlk hZ P0
  refine Jvm.Y9.Aim.cast (by first | (simp [entryFrame, mkF, argsToLocals, Value.category]; done) | rfl : entryFrame m #[(.ref t), (.int 2)] 2 = (mkF m 0 #[.val (.ref t), .val (.int 2)] [])) ?_
  have H := P0.here
  refine Jvm.Y9.Aim.of (T' := s₁) (g' := (mkF m 2 #[.val (.ref t), .val (.int 2)] [(.ref t), (.int 2)])) (fun tgt kt => ?_) ?_
  · refine XS.iloadN H hx rfl (hb hby dd_0) rfl ?_
    refine XS.aloadN H hx rfl (hb hby dd_1) rfl rfl ?_
    exact kt
  refine Jvm.Y9.Aim.alen P0 hx hZ F0 (hb hby dd_2) ?_
  have H := P0.here
  refine Jvm.Y9.Aim.of (T' := s₁) (g' := (mkF m 8 #[.val (.ref t), .val (.int 2)] [(.int ((((0 : Int32).toUInt32 >>> ((31 : Int32) &&& 31).toUInt32).toInt32).toInt8.toInt32))])) (fun tgt kt => ?_) ?_
  · refine XS.isub H hx rfl (hb hby dd_3) rfl ?_
    refine XS.bipush H hx rfl (hb hby dd_4) ?_
    refine XS.iushr H hx rfl (hb hby dd_6) rfl ?_
    refine XS.i2b H hx rfl (hb hby dd_7) rfl ?_
    exact kt
  exact Jvm.Y9.Aim.retN (t := .byte) P0 hx hlk hret (by simp) (hb hby dd_8) (by decide) (by decide) ⟨rfl, rfl⟩
theorem cod_empty : Jvm.Q9.cod "" = [] := by decide +kernel
theorem d6_0 : decode jdk_42_method_149_code 0 = .ok (.aload_n 0, 1) := by decide +kernel
theorem d6_1 : decode jdk_42_method_149_code 1 = .ok (.invokespecial 1, 3) := by decide +kernel
theorem d6_4 : decode jdk_42_method_149_code 4 = .ok (.iload_n 3, 1) := by decide +kernel
theorem d6_5 : decode jdk_42_method_149_code 5 = .ok (.ifCond .ne 22, 3) := by decide +kernel
theorem d6_8 : decode jdk_42_method_149_code 8 = .ok (.aload_n 0, 1) := by decide +kernel
theorem d6_9 : decode jdk_42_method_149_code 9 = .ok (.ldc 7, 2) := by decide +kernel
theorem d6_11 : decode jdk_42_method_149_code 11 = .ok (.getfield 9, 3) := by decide +kernel
theorem d6_14 : decode jdk_42_method_149_code 14 = .ok (.putfield 9, 3) := by decide +kernel
theorem d6_17 : decode jdk_42_method_149_code 17 = .ok (.aload_n 0, 1) := by decide +kernel
theorem d6_18 : decode jdk_42_method_149_code 18 = .ok (.ldc 7, 2) := by decide +kernel
theorem d6_20 : decode jdk_42_method_149_code 20 = .ok (.getfield 15, 3) := by decide +kernel
theorem d6_23 : decode jdk_42_method_149_code 23 = .ok (.putfield 15, 3) := by decide +kernel
theorem d6_26 : decode jdk_42_method_149_code 26 = .ok (.return_, 1) := by decide +kernel
theorem d6_27 : decode jdk_42_method_149_code 27 = .ok (.getstatic 38, 3) := by decide +kernel
theorem d6_30 : decode jdk_42_method_149_code 30 = .ok (.ifCond .eq 28, 3) := by decide +kernel
theorem d6_33 : decode jdk_42_method_149_code 33 = .ok (.aload_n 1, 1) := by decide +kernel
theorem d6_34 : decode jdk_42_method_149_code 34 = .ok (.iload_n 2, 1) := by decide +kernel
theorem d6_35 : decode jdk_42_method_149_code 35 = .ok (.iload_n 3, 1) := by decide +kernel
theorem d6_36 : decode jdk_42_method_149_code 36 = .ok (.invokestatic 177, 3) := by decide +kernel
theorem pd__28_5bCII_29_5bB : parseMethodDescriptor "([CII)[B" = some ⟨[(.array .char), .int, .int], some (.array .byte)⟩ := by decide +kernel
theorem d6_39 : decode jdk_42_method_149_code 39 = .ok (.astore 5, 2) := by decide +kernel
theorem d6_41 : decode jdk_42_method_149_code 41 = .ok (.aload_n 0, 1) := by decide +kernel
theorem d6_42 : decode jdk_42_method_149_code 42 = .ok (.aload 5, 2) := by decide +kernel
theorem d6_44 : decode jdk_42_method_149_code 44 = .ok (.iload_n 3, 1) := by decide +kernel
theorem d6_45 : decode jdk_42_method_149_code 45 = .ok (.invokestatic 47, 3) := by decide +kernel
theorem pd__28_5bBI_29B : parseMethodDescriptor "([BI)B" = some ⟨[(.array .byte), .int], some .byte⟩ := by decide +kernel
theorem d6_48 : decode jdk_42_method_149_code 48 = .ok (.putfield 15, 3) := by decide +kernel
theorem d6_51 : decode jdk_42_method_149_code 51 = .ok (.aload_n 0, 1) := by decide +kernel
theorem d6_52 : decode jdk_42_method_149_code 52 = .ok (.aload 5, 2) := by decide +kernel
theorem d6_54 : decode jdk_42_method_149_code 54 = .ok (.putfield 9, 3) := by decide +kernel
theorem d6_57 : decode jdk_42_method_149_code 57 = .ok (.return_, 1) := by decide +kernel
theorem pn_java_lang_String : plainName "java/lang/String" = true := by first | (simp [plainName, overriddenIn]; done) | decide +kernel
theorem own_s4 (l : Launch) (Z : State) (a0 : Array Value) (hw : ∀ d ∈ tables_1, d.before a0 Z = true) (x : Addr) (b : Addr) (kC : ClassId) (cs : List Int32) (v0 : Value) (c0 : Value) (h0 : Heap) (n0 : Nat) (Z0 : n0 ≤ h0.size) (Lc0 : List Addr) (g_x : n0 ≤ x) (nl_x : x ∉ Lc0) (F0 : Exa Z h0 x "java/lang/String") (F1 : Fld Z h0 x "java/lang/String" "value" "[B" v0) (F2 : Fld Z h0 x "java/lang/String" "coder" "B" c0) (F3 : Fld Z h0 x "java/lang/String" "hash" "I" (.int 0)) (F4 : Fld Z h0 x "java/lang/String" "hashIsZero" "Z" (.int 0)) (F5 : Arv Z h0 b kC .char (Int32.ofNat cs.length) (cs.map Value.int) (.int 0)) (F6 : Old Z n0 h0) (h2_ : cs.length ≤ 2) (hp : ∀ c ∈ cs, ¬ c < 0 ∧ ¬ (255 : Int32) < c) (G : Cmp Z) (GL : ∀ c ∈ LC.1, Jvm.Q9.LitZ Z c) :
    Jvm.Q9.Con l Z LC (⟨"java/lang/String", "<init>", "([CIILjava/lang/Void;)V"⟩ : MethodName) jdk_42_method_149_code 6 none ({ frames := 2, cells := 2, slots := 4, locals := 35 } : Room) n0 #[(.ref x), (.ref b), (.int 0), (.int (Int32.ofNat cs.length)), .null] h0 Lc0 (fun v h Lc => ∃ t : Addr, ∃ kb : ClassId, v = none ∧ Keep h0 h [x] ∧ ((t < n0 ∨ t ∈ Lc) ∨ h0.size ≤ t) ∧ Str Z h x t kb cs ∧ (2 ≤ cs.length → Exa Z h t "[B") ∧ Fld Z h x "java/lang/String" "hash" "I" (.int 0) ∧ Fld Z h x "java/lang/String" "hashIsZero" "Z" (.int 0)) := by
  refine Jvm.Q9.Con.intro (plainFor_of_name pn_java_lang_String) ?_
  intro p e s m below meth c s₁ hx hby hml hret hnm hown hlk hZ hs0 P0
  refine Jvm.Q9.Aim.cast (by first | (simp [entryFrame, mkF, argsToLocals, Value.category]; done) | rfl : entryFrame m #[(.ref x), (.ref b), (.int 0), (.int (Int32.ofNat cs.length)), .null] 6 = (mkF m 0 #[.val (.ref x), .val (.ref b), .val (.int 0), .val (.int (Int32.ofNat cs.length)), .val .null, .unset] [])) ?_
  rcases cs with _ | ⟨a_, _ | ⟨b_, _ | ⟨d_, cr⟩⟩⟩
  · skip
    have z0 : Arv Z h0 b kC .char (0 : Int32) [] (.int 0) := F5
    obtain ⟨zc, hzc, Szc⟩ := id G
    have H := P0.here
    refine Jvm.Q9.Aim.of (T' := s₁) (g' := (mkF m 1 #[.val (.ref x), .val (.ref b), .val (.int 0), .val (.int 0), .val .null, .unset] [(.ref x)])) (fun tgt kt => ?_) ?_
    · refine XS.aloadN H hx rfl (hb hby d6_0) rfl rfl ?_
      exact kt
    refine Jvm.Q9.Aim.initO P0 hx hZ hml hown (wI hw 18 rfl) (wI hw 19 rfl) (wI hw 20 rfl) rfl (hb hby d6_1) (by decide) (Nat.le_of_ble_eq_true rfl) ?_
    intro z1 z2
    have H := z2.here
    refine Jvm.Q9.Aim.of (T' := z1) (g' := (mkF m 9 #[.val (.ref x), .val (.ref b), .val (.int 0), .val (.int 0), .val .null, .unset] [(.ref x)])) (fun tgt kt => ?_) ?_
    · refine XS.iloadN H hx rfl (hb hby d6_4) rfl ?_
      refine XS.ifNo H hx rfl (hb hby d6_5) rfl ((if0 _ _).trans (teq (by decide)).2) ?_
      refine XS.aloadN H hx rfl (hb hby d6_8) rfl rfl ?_
      exact kt
    refine Jvm.Q9.Aim.ldcK z2 hx hZ hown (wI hw 21 rfl) (own_atoms hw) (LC := LC) (List.mem_of_getElem? (i := 0) rfl) (by decide +kernel) (by decide +kernel) (GL _ (List.mem_of_getElem? (i := 0) rfl)) F6 (fun b cl q => by rw [← hs0]; exact q) (hb hby d6_9) (cap := 0) (by decide +kernel) (by decide) (by decide) (by decide) ?_
    intro z3 z4 z5 z6 z7 z8 z9 za zb zd ze zf
    have zg : Keep h0 z4 [x] := (Keep.refl h0 [x]).trans za all0
    have zh : Jvm.Q9.Grow Lc0 z8 h0.size := (Jvm.Q9.Grow.refl _ _).trans zb (Nat.le_refl _)
    refine Jvm.Q9.Aim.getF z9 hx hZ hown (host := "") (Or.inl (wI hw 27 rfl)) Via.refl zd.2.1 (hb hby d6_11) ?_
    intro zi zj
    have zk : Exa Z z4 x "java/lang/String" := (F0.keep za)
    have zl : Fld Z z4 x "java/lang/String" "value" "[B" v0 := (F1.keep za nin0)
    refine Jvm.Q9.Aim.putF (v := (.ref z6)) zj hx hZ hown (host := "") (Or.inl (wI hw 27 rfl)) Via.refl zl zk (Or.inr ⟨(wI hw 23 rfl), rfl, hnm⟩) (wI hw 9 rfl) (ty := (.array .byte)) (by decide) rfl rfl (hb hby d6_14) g_x (Jvm.Q9.nl_step nl_x zb F0.lt) ?_
    intro zm zn zo zp
    have zq := Keep.of_wr zp
    have zr : Fld Z zn x "java/lang/String" "value" "[B" (.ref z6) := zl.same zp
    have zs : Keep h0 zn [x] := zg.trans zq (allS (Or.inl (List.mem_of_getElem? (i := 0) rfl)) all0)
    have H := zo.here
    refine Jvm.Q9.Aim.of (T' := zm) (g' := (mkF m 18 #[.val (.ref x), .val (.ref b), .val (.int 0), .val (.int 0), .val .null, .unset] [(.ref x)])) (fun tgt kt => ?_) ?_
    · refine XS.aloadN H hx rfl (hb hby d6_17) rfl rfl ?_
      exact kt
    have zt : Old Z n0 zn := ((F6.keep za all0).keep zq (allS g_x all0))
    refine Jvm.Q9.Aim.ldcQ (LC := LC) zo hx hown (wI hw 21 rfl) (List.mem_of_getElem? (i := 0) rfl) (by decide +kernel) (Jvm.Q9.lit_again (GL _ (List.mem_of_getElem? (i := 0) rfl)) F6 zs (allS g_x all0)) (hb hby d6_18) ?_
    intro zu zv zw zx zy zz z10 z11
    have z12 : Jvm.Q9.On p l e _ s m _ below meth c Z LC n0 zu zn 2 4 z8 := zy.weakTo (fun _ _ => trivial)
    refine Jvm.Q9.Aim.getF z12 hx hZ hown (host := "") (Or.inl (wI hw 28 rfl)) Via.refl zz.2.2.1 (hb hby d6_20) ?_
    intro z13 z14
    have z15 : Exa Z zn x "java/lang/String" := (zk.keep zq)
    have z16 : Fld Z zn x "java/lang/String" "coder" "B" c0 := ((F2.keep za nin0).other zp (Or.inr (slot_ne (Or.inr (wI hw 24 rfl)) (Or.inr (wI hw 23 rfl)) (by decide) (t := .byte) (t' := (.array .byte)) (by decide) (by decide))))
    refine Jvm.Q9.Aim.putF (v := (.int 0)) z14 hx hZ hown (host := "") (Or.inl (wI hw 28 rfl)) Via.refl z16 z15 (Or.inr ⟨(wI hw 24 rfl), rfl, hnm⟩) (wI hw 9 rfl) (ty := .byte) (by decide) rfl rfl (hb hby d6_23) g_x (Jvm.Q9.nl_step nl_x zb F0.lt) ?_
    intro z17 z18 z19 z1a
    have z1b := Keep.of_wr z1a
    have z1c : Fld Z z18 x "java/lang/String" "coder" "B" (.int 0) := z16.same z1a
    have z1d : Keep h0 z18 [x] := zs.trans z1b (allS (Or.inl (List.mem_of_getElem? (i := 0) rfl)) all0)
    have z1e : Str Z z18 z5 z6 z7 (Jvm.Q9.cod "") := ((zd.keep zq (ninS (Jvm.Q9.lit_ne ze g_x (Jvm.Q9.nl_step nl_x zb F0.lt)) nin0) (ninS (Jvm.Q9.lit_ne zf g_x (Jvm.Q9.nl_step nl_x zb F0.lt)) nin0)).keep z1b (ninS (Jvm.Q9.lit_ne ze g_x (Jvm.Q9.nl_step nl_x zb F0.lt)) nin0) (ninS (Jvm.Q9.lit_ne zf g_x (Jvm.Q9.nl_step nl_x zb F0.lt)) nin0))
    have z1f : Exa Z z18 x "java/lang/String" := (z15.keep z1b)
    have z1g : Fld Z z18 x "java/lang/String" "value" "[B" (.ref z6) := (zr.other z1a (Or.inr (slot_ne (Or.inr (wI hw 23 rfl)) (Or.inr (wI hw 24 rfl)) (by decide) (t := (.array .byte)) (t' := .byte) (by decide) (by decide))))
    have z1h : Fld Z z18 x "java/lang/String" "hash" "I" (.int 0) := (((F3.keep za nin0).other zp (Or.inr (slot_ne (Or.inl (wI hw 65 rfl)) (Or.inr (wI hw 23 rfl)) (by decide) (t := .int) (t' := (.array .byte)) (by decide) (by decide)))).other z1a (Or.inr (slot_ne (Or.inl (wI hw 65 rfl)) (Or.inr (wI hw 24 rfl)) (by decide) (t := .int) (t' := .byte) (by decide) (by decide))))
    have z1i : Fld Z z18 x "java/lang/String" "hashIsZero" "Z" (.int 0) := (((F4.keep za nin0).other zp (Or.inr (slot_ne (Or.inl (wI hw 67 rfl)) (Or.inr (wI hw 23 rfl)) (by decide) (t := .boolean) (t' := (.array .byte)) (by decide) (by decide)))).other z1a (Or.inr (slot_ne (Or.inl (wI hw 67 rfl)) (Or.inr (wI hw 24 rfl)) (by decide) (t := .boolean) (t' := .byte) (by decide) (by decide))))
    exact Jvm.Q9.Aim.retV z19 hx hlk hret (hb hby d6_26) (by decide) (by decide) zh ⟨z6, z7, rfl, z1d, (Or.inl zf), ⟨z1f, z1g, z1c, (cod_empty ▸ z1e.2.2.2.1), hp, by simp⟩, (fun q => absurd q (by decide)), z1h, z1i⟩
  · skip
    have z1j : Arv Z h0 b kC .char (1 : Int32) [(.int a_)] (.int 0) := F5
    obtain ⟨zc, hzc, Szc⟩ := id G
    have qa_ : ¬ ((255 : Int32) < a_) := (hp a_ (by simp)).2
    have H := P0.here
    refine Jvm.Q9.Aim.of (T' := s₁) (g' := (mkF m 1 #[.val (.ref x), .val (.ref b), .val (.int 0), .val (.int 1), .val .null, .unset] [(.ref x)])) (fun tgt kt => ?_) ?_
    · refine XS.aloadN H hx rfl (hb hby d6_0) rfl rfl ?_
      exact kt
    refine Jvm.Q9.Aim.initO P0 hx hZ hml hown (wI hw 18 rfl) (wI hw 19 rfl) (wI hw 20 rfl) rfl (hb hby d6_1) (by decide) (Nat.le_of_ble_eq_true rfl) ?_
    intro z1k z1l
    have H := z1l.here
    refine Jvm.Q9.Aim.of (T' := z1k) (g' := (mkF m 27 #[.val (.ref x), .val (.ref b), .val (.int 0), .val (.int 1), .val .null, .unset] [])) (fun tgt kt => ?_) ?_
    · refine XS.iloadN H hx rfl (hb hby d6_4) rfl ?_
      refine XS.ifYes H hx rfl (pc0 := 5) (pc' := 27) rfl (hb hby d6_5) rfl ((if0 _ _).trans (feq (by decide)).2) (by decide) (by decide) ?_
      exact kt
    refine Jvm.Q9.Aim.getS z1l hx hZ hown (wI hw 73 rfl) Via.refl (Szc.ext F6.2) (hb hby d6_27) ?_
    intro z1m z1n
    have H := z1n.here
    refine Jvm.Q9.Aim.of (T' := z1m) (g' := (mkF m 36 #[.val (.ref x), .val (.ref b), .val (.int 0), .val (.int 1), .val .null, .unset] [(.int 1), (.int 0), (.ref b)])) (fun tgt kt => ?_) ?_
    · refine XS.ifNo H hx rfl (hb hby d6_30) rfl ((if0 _ _).trans (feq hzc).1) ?_
      refine XS.aloadN H hx rfl (hb hby d6_33) rfl rfl ?_
      refine XS.iloadN H hx rfl (hb hby d6_34) rfl ?_
      refine XS.iloadN H hx rfl (hb hby d6_35) rfl ?_
      exact kt
    refine Jvm.Q9.Aim.callS (argsL := [(.ref b), (.int 0), (.int 1)]) (rest := []) z1n hx hZ hml hown (wI hw 107 rfl) (wI hw 108 rfl) (wI hw 109 rfl) (wI hw 110 rfl) (by decide) (fun vm0 hZ => Jvm.Y9.Con.back (s := s.setVm vm0) (W := 0) (own_cmp1 l Z a0 hw b kC a_ h0 n0 Z0 z1j qa_) hZ (wI hw 110 rfl) (wI hw 109 rfl) (by decide) (by decide)) (fun _ _ ⟨_, _, _, q, _, _, _⟩ => q) all0 rfl pd__28_5bCII_29_5bB rfl (Nat.le_of_eq rfl) (hb hby d6_36) (by decide) (by decide) ?_
    intro z1o z1p z1q z1r z1s
    obtain ⟨t_192, kb_193, rfl, z1t, z1u, z1v, z1w⟩ := z1s
    have z1x : Keep h0 z1p [x] := (Keep.refl h0 [x]).trans z1t all0
    have H := z1r.here
    refine Jvm.Q9.Aim.of (T' := z1o) (g' := (mkF m 45 #[.val (.ref x), .val (.ref b), .val (.int 0), .val (.int 1), .val .null, .val (.ref t_192)] [(.int 1), (.ref t_192), (.ref x)])) (fun tgt kt => ?_) ?_
    · refine XS.astore H hx rfl (hb hby d6_39) rfl rfl (l' := #[.val (.ref x), .val (.ref b), .val (.int 0), .val (.int 1), .val .null, .val (.ref t_192)]) rfl ?_
      refine XS.aloadN H hx rfl (hb hby d6_41) rfl rfl ?_
      refine XS.aload H hx rfl (hb hby d6_42) rfl rfl ?_
      refine XS.iloadN H hx rfl (hb hby d6_44) rfl ?_
      exact kt
    refine Jvm.Q9.Aim.callS (argsL := [(.ref t_192), (.int 1)]) (rest := [(.ref x)]) z1r hx hZ hml hown (wI hw 114 rfl) (wI hw 115 rfl) (wI hw 109 rfl) (wI hw 116 rfl) (by decide) (fun vm0 hZ => Jvm.Y9.Con.back (s := s.setVm vm0) (W := 1) (own_cfl1 l Z a0 hw t_192 kb_193 a_ z1p n0 (lT Z0 (z1x.1)) z1v) hZ (wI hw 116 rfl) (wI hw 109 rfl) (by decide) (by decide)) (fun _ _ ⟨_, q⟩ => (by subst q; exact Keep.refl _ [])) all0 rfl pd__28_5bBI_29B rfl (Nat.le_of_eq rfl) (hb hby d6_45) (by decide) (by decide) ?_
    intro z1y z1z z20 z21 z22
    obtain ⟨rfl, rfl⟩ := z22
    have z23 : Exa Z z1p x "java/lang/String" := (F0.keep z1t)
    have z24 : Fld Z z1p x "java/lang/String" "coder" "B" c0 := (F2.keep z1t nin0)
    refine Jvm.Q9.Aim.putF (v := (.int 0)) z21 hx hZ hown (host := "") (Or.inl (wI hw 28 rfl)) Via.refl z24 z23 (Or.inr ⟨(wI hw 24 rfl), rfl, hnm⟩) (wI hw 9 rfl) (ty := .byte) (by decide) rfl rfl (hb hby d6_48) g_x nl_x ?_
    intro z25 z26 z27 z28
    have z29 := Keep.of_wr z28
    have z2a : Fld Z z26 x "java/lang/String" "coder" "B" (.int 0) := z24.same z28
    have z2b : Keep h0 z26 [x] := z1x.trans z29 (allS (Or.inl (List.mem_of_getElem? (i := 0) rfl)) all0)
    have H := z27.here
    refine Jvm.Q9.Aim.of (T' := z25) (g' := (mkF m 54 #[.val (.ref x), .val (.ref b), .val (.int 0), .val (.int 1), .val .null, .val (.ref t_192)] [(.ref t_192), (.ref x)])) (fun tgt kt => ?_) ?_
    · refine XS.aloadN H hx rfl (hb hby d6_51) rfl rfl ?_
      refine XS.aload H hx rfl (hb hby d6_52) rfl rfl ?_
      exact kt
    have z2c : Exa Z z26 x "java/lang/String" := (z23.keep z29)
    have z2d : Fld Z z26 x "java/lang/String" "value" "[B" v0 := ((F1.keep z1t nin0).other z28 (Or.inr (slot_ne (Or.inr (wI hw 23 rfl)) (Or.inr (wI hw 24 rfl)) (by decide) (t := (.array .byte)) (t' := .byte) (by decide) (by decide))))
    refine Jvm.Q9.Aim.putF (v := (.ref t_192)) z27 hx hZ hown (host := "") (Or.inl (wI hw 27 rfl)) Via.refl z2d z2c (Or.inr ⟨(wI hw 23 rfl), rfl, hnm⟩) (wI hw 9 rfl) (ty := (.array .byte)) (by decide) rfl rfl (hb hby d6_54) g_x nl_x ?_
    intro z2e z2f z2g z2h
    have z2i := Keep.of_wr z2h
    have z2j : Fld Z z2f x "java/lang/String" "value" "[B" (.ref t_192) := z2d.same z2h
    have z2k : Keep h0 z2f [x] := z2b.trans z2i (allS (Or.inl (List.mem_of_getElem? (i := 0) rfl)) all0)
    have z2l : Arv Z z2f t_192 kb_193 .byte (1 : Int32) [(.int (a_.toInt8.toInt32))] (.int 0) := ((z1v.keep z29 (ninS (Ne.symm (nL (lL F0.lt z1u))) nin0)).keep z2i (ninS (Ne.symm (nL (lL F0.lt z1u))) nin0))
    have z2m : Exa Z z2f t_192 "[B" := ((z1w.keep z29).keep z2i)
    have z2n : Exa Z z2f x "java/lang/String" := (z2c.keep z2i)
    have z2o : Fld Z z2f x "java/lang/String" "coder" "B" (.int 0) := (z2a.other z2h (Or.inr (slot_ne (Or.inr (wI hw 24 rfl)) (Or.inr (wI hw 23 rfl)) (by decide) (t := .byte) (t' := (.array .byte)) (by decide) (by decide))))
    have z2p : Fld Z z2f x "java/lang/String" "hash" "I" (.int 0) := (((F3.keep z1t nin0).other z28 (Or.inr (slot_ne (Or.inl (wI hw 65 rfl)) (Or.inr (wI hw 24 rfl)) (by decide) (t := .int) (t' := .byte) (by decide) (by decide)))).other z2h (Or.inr (slot_ne (Or.inl (wI hw 65 rfl)) (Or.inr (wI hw 23 rfl)) (by decide) (t := .int) (t' := (.array .byte)) (by decide) (by decide))))
    have z2q : Fld Z z2f x "java/lang/String" "hashIsZero" "Z" (.int 0) := (((F4.keep z1t nin0).other z28 (Or.inr (slot_ne (Or.inl (wI hw 67 rfl)) (Or.inr (wI hw 24 rfl)) (by decide) (t := .boolean) (t' := .byte) (by decide) (by decide)))).other z2h (Or.inr (slot_ne (Or.inl (wI hw 67 rfl)) (Or.inr (wI hw 23 rfl)) (by decide) (t := .boolean) (t' := (.array .byte)) (by decide) (by decide))))
    exact Jvm.Q9.Aim.retV z2g hx hlk hret (hb hby d6_57) (by decide) (by decide) (Jvm.Q9.Grow.refl _ _) ⟨t_192, kb_193, rfl, z2k, (Or.inr (lT (Nat.le_refl _) z1u)), ⟨z2n, z2j, z2o, z2l, hp, by simp⟩, (fun _ => z2m), z2p, z2q⟩
  · skip
    have z2r : Arv Z h0 b kC .char (2 : Int32) [(.int a_), (.int b_)] (.int 0) := F5
    obtain ⟨zc, hzc, Szc⟩ := id G
    have qa_ : ¬ ((255 : Int32) < a_) := (hp a_ (by simp)).2
    have qb_ : ¬ ((255 : Int32) < b_) := (hp b_ (by simp)).2
    have H := P0.here
    refine Jvm.Q9.Aim.of (T' := s₁) (g' := (mkF m 1 #[.val (.ref x), .val (.ref b), .val (.int 0), .val (.int 2), .val .null, .unset] [(.ref x)])) (fun tgt kt => ?_) ?_
    · refine XS.aloadN H hx rfl (hb hby d6_0) rfl rfl ?_
      exact kt
    refine Jvm.Q9.Aim.initO P0 hx hZ hml hown (wI hw 18 rfl) (wI hw 19 rfl) (wI hw 20 rfl) rfl (hb hby d6_1) (by decide) (Nat.le_of_ble_eq_true rfl) ?_
    intro z2s z2t
    have H := z2t.here
    refine Jvm.Q9.Aim.of (T' := z2s) (g' := (mkF m 27 #[.val (.ref x), .val (.ref b), .val (.int 0), .val (.int 2), .val .null, .unset] [])) (fun tgt kt => ?_) ?_
    · refine XS.iloadN H hx rfl (hb hby d6_4) rfl ?_
      refine XS.ifYes H hx rfl (pc0 := 5) (pc' := 27) rfl (hb hby d6_5) rfl ((if0 _ _).trans (feq (by decide)).2) (by decide) (by decide) ?_
      exact kt
    refine Jvm.Q9.Aim.getS z2t hx hZ hown (wI hw 73 rfl) Via.refl (Szc.ext F6.2) (hb hby d6_27) ?_
    intro z2u z2v
    have H := z2v.here
    refine Jvm.Q9.Aim.of (T' := z2u) (g' := (mkF m 36 #[.val (.ref x), .val (.ref b), .val (.int 0), .val (.int 2), .val .null, .unset] [(.int 2), (.int 0), (.ref b)])) (fun tgt kt => ?_) ?_
    · refine XS.ifNo H hx rfl (hb hby d6_30) rfl ((if0 _ _).trans (feq hzc).1) ?_
      refine XS.aloadN H hx rfl (hb hby d6_33) rfl rfl ?_
      refine XS.iloadN H hx rfl (hb hby d6_34) rfl ?_
      refine XS.iloadN H hx rfl (hb hby d6_35) rfl ?_
      exact kt
    refine Jvm.Q9.Aim.callS (argsL := [(.ref b), (.int 0), (.int 2)]) (rest := []) z2v hx hZ hml hown (wI hw 107 rfl) (wI hw 108 rfl) (wI hw 109 rfl) (wI hw 110 rfl) (by decide) (fun vm0 hZ => Jvm.Y9.Con.back (s := s.setVm vm0) (W := 0) (own_cmp2 l Z a0 hw b kC a_ b_ h0 n0 Z0 z2r qa_ qb_) hZ (wI hw 110 rfl) (wI hw 109 rfl) (by decide) (by decide)) (fun _ _ ⟨_, _, _, q, _, _, _⟩ => q) all0 rfl pd__28_5bCII_29_5bB rfl (Nat.le_of_eq rfl) (hb hby d6_36) (by decide) (by decide) ?_
    intro z2w z2x z2y z2z z30
    obtain ⟨t_242, kb_243, rfl, z31, z32, z33, z34⟩ := z30
    have z35 : Keep h0 z2x [x] := (Keep.refl h0 [x]).trans z31 all0
    have H := z2z.here
    refine Jvm.Q9.Aim.of (T' := z2w) (g' := (mkF m 45 #[.val (.ref x), .val (.ref b), .val (.int 0), .val (.int 2), .val .null, .val (.ref t_242)] [(.int 2), (.ref t_242), (.ref x)])) (fun tgt kt => ?_) ?_
    · refine XS.astore H hx rfl (hb hby d6_39) rfl rfl (l' := #[.val (.ref x), .val (.ref b), .val (.int 0), .val (.int 2), .val .null, .val (.ref t_242)]) rfl ?_
      refine XS.aloadN H hx rfl (hb hby d6_41) rfl rfl ?_
      refine XS.aload H hx rfl (hb hby d6_42) rfl rfl ?_
      refine XS.iloadN H hx rfl (hb hby d6_44) rfl ?_
      exact kt
    refine Jvm.Q9.Aim.callS (argsL := [(.ref t_242), (.int 2)]) (rest := [(.ref x)]) z2z hx hZ hml hown (wI hw 114 rfl) (wI hw 115 rfl) (wI hw 109 rfl) (wI hw 116 rfl) (by decide) (fun vm0 hZ => Jvm.Y9.Con.back (s := s.setVm vm0) (W := 1) (own_cfl2 l Z a0 hw t_242 kb_243 a_ b_ z2x n0 (lT Z0 (z35.1)) z33) hZ (wI hw 116 rfl) (wI hw 109 rfl) (by decide) (by decide)) (fun _ _ ⟨_, q⟩ => (by subst q; exact Keep.refl _ [])) all0 rfl pd__28_5bBI_29B rfl (Nat.le_of_eq rfl) (hb hby d6_45) (by decide) (by decide) ?_
    intro z36 z37 z38 z39 z3a
    obtain ⟨rfl, rfl⟩ := z3a
    have z3b : Exa Z z2x x "java/lang/String" := (F0.keep z31)
    have z3c : Fld Z z2x x "java/lang/String" "coder" "B" c0 := (F2.keep z31 nin0)
    refine Jvm.Q9.Aim.putF (v := (.int 0)) z39 hx hZ hown (host := "") (Or.inl (wI hw 28 rfl)) Via.refl z3c z3b (Or.inr ⟨(wI hw 24 rfl), rfl, hnm⟩) (wI hw 9 rfl) (ty := .byte) (by decide) rfl rfl (hb hby d6_48) g_x nl_x ?_
    intro z3d z3e z3f z3g
    have z3h := Keep.of_wr z3g
    have z3i : Fld Z z3e x "java/lang/String" "coder" "B" (.int 0) := z3c.same z3g
    have z3j : Keep h0 z3e [x] := z35.trans z3h (allS (Or.inl (List.mem_of_getElem? (i := 0) rfl)) all0)
    have H := z3f.here
    refine Jvm.Q9.Aim.of (T' := z3d) (g' := (mkF m 54 #[.val (.ref x), .val (.ref b), .val (.int 0), .val (.int 2), .val .null, .val (.ref t_242)] [(.ref t_242), (.ref x)])) (fun tgt kt => ?_) ?_
    · refine XS.aloadN H hx rfl (hb hby d6_51) rfl rfl ?_
      refine XS.aload H hx rfl (hb hby d6_52) rfl rfl ?_
      exact kt
    have z3k : Exa Z z3e x "java/lang/String" := (z3b.keep z3h)
    have z3l : Fld Z z3e x "java/lang/String" "value" "[B" v0 := ((F1.keep z31 nin0).other z3g (Or.inr (slot_ne (Or.inr (wI hw 23 rfl)) (Or.inr (wI hw 24 rfl)) (by decide) (t := (.array .byte)) (t' := .byte) (by decide) (by decide))))
    refine Jvm.Q9.Aim.putF (v := (.ref t_242)) z3f hx hZ hown (host := "") (Or.inl (wI hw 27 rfl)) Via.refl z3l z3k (Or.inr ⟨(wI hw 23 rfl), rfl, hnm⟩) (wI hw 9 rfl) (ty := (.array .byte)) (by decide) rfl rfl (hb hby d6_54) g_x nl_x ?_
    intro z3m z3n z3o z3p
    have z3q := Keep.of_wr z3p
    have z3r : Fld Z z3n x "java/lang/String" "value" "[B" (.ref t_242) := z3l.same z3p
    have z3s : Keep h0 z3n [x] := z3j.trans z3q (allS (Or.inl (List.mem_of_getElem? (i := 0) rfl)) all0)
    have z3t : Arv Z z3n t_242 kb_243 .byte (2 : Int32) [(.int (a_.toInt8.toInt32)), (.int (b_.toInt8.toInt32))] (.int 0) := ((z33.keep z3h (ninS (Ne.symm (nL (lL F0.lt z32))) nin0)).keep z3q (ninS (Ne.symm (nL (lL F0.lt z32))) nin0))
    have z3u : Exa Z z3n t_242 "[B" := ((z34.keep z3h).keep z3q)
    have z3v : Exa Z z3n x "java/lang/String" := (z3k.keep z3q)
    have z3w : Fld Z z3n x "java/lang/String" "coder" "B" (.int 0) := (z3i.other z3p (Or.inr (slot_ne (Or.inr (wI hw 24 rfl)) (Or.inr (wI hw 23 rfl)) (by decide) (t := .byte) (t' := (.array .byte)) (by decide) (by decide))))
    have z3x : Fld Z z3n x "java/lang/String" "hash" "I" (.int 0) := (((F3.keep z31 nin0).other z3g (Or.inr (slot_ne (Or.inl (wI hw 65 rfl)) (Or.inr (wI hw 24 rfl)) (by decide) (t := .int) (t' := .byte) (by decide) (by decide)))).other z3p (Or.inr (slot_ne (Or.inl (wI hw 65 rfl)) (Or.inr (wI hw 23 rfl)) (by decide) (t := .int) (t' := (.array .byte)) (by decide) (by decide))))
    have z3y : Fld Z z3n x "java/lang/String" "hashIsZero" "Z" (.int 0) := (((F4.keep z31 nin0).other z3g (Or.inr (slot_ne (Or.inl (wI hw 67 rfl)) (Or.inr (wI hw 24 rfl)) (by decide) (t := .boolean) (t' := .byte) (by decide) (by decide)))).other z3p (Or.inr (slot_ne (Or.inl (wI hw 67 rfl)) (Or.inr (wI hw 23 rfl)) (by decide) (t := .boolean) (t' := (.array .byte)) (by decide) (by decide))))
    exact Jvm.Q9.Aim.retV z3o hx hlk hret (hb hby d6_57) (by decide) (by decide) (Jvm.Q9.Grow.refl _ _) ⟨t_242, kb_243, rfl, z3s, (Or.inr (lT (Nat.le_refl _) z32)), ⟨z3v, z3r, z3w, z3t, hp, by simp⟩, (fun _ => z3u), z3x, z3y⟩
  · exact absurd h2_ (by simp only [List.length_cons]; omega)
theorem d8_0 : decode jdk_42_method_3_code 0 = .ok (.aload_n 0, 1) := by decide +kernel
theorem d8_1 : decode jdk_42_method_3_code 1 = .ok (.aload_n 1, 1) := by decide +kernel
theorem d8_2 : decode jdk_42_method_3_code 2 = .ok (.iconst 0, 1) := by decide +kernel
theorem d8_3 : decode jdk_42_method_3_code 3 = .ok (.aload_n 1, 1) := by decide +kernel
theorem d8_4 : decode jdk_42_method_3_code 4 = .ok (.arraylength, 1) := by decide +kernel
theorem d8_5 : decode jdk_42_method_3_code 5 = .ok (.aconst_null, 1) := by decide +kernel
theorem d8_6 : decode jdk_42_method_3_code 6 = .ok (.invokespecial 27, 3) := by decide +kernel
theorem pd__28_5bCIILjava_2flang_2fVoid_3b_29V : parseMethodDescriptor "([CIILjava/lang/Void;)V" = some ⟨[(.array .char), .int, .int, (.object "java/lang/Void")], none⟩ := by decide +kernel
theorem d8_9 : decode jdk_42_method_3_code 9 = .ok (.return_, 1) := by decide +kernel
theorem own_sC (l : Launch) (Z : State) (a0 : Array Value) (hw : ∀ d ∈ tables_1, d.before a0 Z = true) (x : Addr) (b : Addr) (kC : ClassId) (cs : List Int32) (v0 : Value) (c0 : Value) (h0 : Heap) (n0 : Nat) (Z0 : n0 ≤ h0.size) (Lc0 : List Addr) (g_x : n0 ≤ x) (nl_x : x ∉ Lc0) (F0 : Exa Z h0 x "java/lang/String") (F1 : Fld Z h0 x "java/lang/String" "value" "[B" v0) (F2 : Fld Z h0 x "java/lang/String" "coder" "B" c0) (F3 : Fld Z h0 x "java/lang/String" "hash" "I" (.int 0)) (F4 : Fld Z h0 x "java/lang/String" "hashIsZero" "Z" (.int 0)) (F5 : Arv Z h0 b kC .char (Int32.ofNat cs.length) (cs.map Value.int) (.int 0)) (F6 : Old Z n0 h0) (h2_ : cs.length ≤ 2) (hp : ∀ c ∈ cs, ¬ c < 0 ∧ ¬ (255 : Int32) < c) (G : Cmp Z) (GL : ∀ c ∈ LC.1, Jvm.Q9.LitZ Z c) :
    Jvm.Q9.Con l Z LC (⟨"java/lang/String", "<init>", "([C)V"⟩ : MethodName) jdk_42_method_3_code 2 none ({ frames := 3, cells := 2, slots := 4, locals := 52 } : Room) n0 #[(.ref x), (.ref b)] h0 Lc0 (fun v h Lc => ∃ t : Addr, ∃ kb : ClassId, v = none ∧ Keep h0 h [x] ∧ ((t < n0 ∨ t ∈ Lc) ∨ h0.size ≤ t) ∧ Str Z h x t kb cs ∧ (2 ≤ cs.length → Exa Z h t "[B") ∧ Fld Z h x "java/lang/String" "hash" "I" (.int 0) ∧ Fld Z h x "java/lang/String" "hashIsZero" "Z" (.int 0)) := by
  refine Jvm.Q9.Con.intro (plainFor_of_name pn_java_lang_String) ?_
  intro p e s m below meth c s₁ hx hby hml hret hnm hown hlk hZ hs0 P0
  refine Jvm.Q9.Aim.cast (by first | (simp [entryFrame, mkF, argsToLocals, Value.category]; done) | rfl : entryFrame m #[(.ref x), (.ref b)] 2 = (mkF m 0 #[.val (.ref x), .val (.ref b)] [])) ?_
  have H := P0.here
  refine Jvm.Q9.Aim.of (T' := s₁) (g' := (mkF m 4 #[.val (.ref x), .val (.ref b)] [(.ref b), (.int 0), (.ref b), (.ref x)])) (fun tgt kt => ?_) ?_
  · refine XS.aloadN H hx rfl (hb hby d8_0) rfl rfl ?_
    refine XS.aloadN H hx rfl (hb hby d8_1) rfl rfl ?_
    refine XS.iconst H hx rfl (hb hby d8_2) ?_
    refine XS.aloadN H hx rfl (hb hby d8_3) rfl rfl ?_
    exact kt
  refine Jvm.Q9.Aim.alen P0 hx hZ F5 (hb hby d8_4) ?_
  have H := P0.here
  refine Jvm.Q9.Aim.of (T' := s₁) (g' := (mkF m 6 #[.val (.ref x), .val (.ref b)] [.null, (.int (Int32.ofNat cs.length)), (.int 0), (.ref b), (.ref x)])) (fun tgt kt => ?_) ?_
  · refine XS.aconstNull H hx rfl (hb hby d8_5) ?_
    exact kt
  refine Jvm.Q9.Aim.callCW (argsL := [(.ref b), (.int 0), (.int (Int32.ofNat cs.length)), .null]) (rest := []) P0 hx hZ hml hown rfl (wI hw 14 rfl) (wI hw 15 rfl) (wI hw 17 rfl) (by decide) (Jvm.Q9.Con.back (W := 0) (own_s4 l Z a0 hw x b kC cs v0 c0 h0 n0 Z0 Lc0 g_x nl_x F0 F1 F2 F3 F4 F5 F6 h2_ hp G GL) (wI hw 17 rfl) (wI hw 10 rfl) (by decide) (by decide)) rfl pd__28_5bCIILjava_2flang_2fVoid_3b_29V rfl (Nat.le_of_eq rfl) (hb hby d8_6) (by decide) (by decide) ?_
  intro z0 z1 z2 z3 z4 z5 z6
  obtain ⟨t_287, kb_288, rfl, z7, z8, z9, za, zb, zc⟩ := z6
  have zd : Keep h0 z1 [x] := (Keep.refl h0 [x]).trans z7 (allS (Or.inl (List.mem_of_getElem? (i := 0) rfl)) all0)
  have ze : Jvm.Q9.Grow Lc0 z3 h0.size := (Jvm.Q9.Grow.refl _ _).trans z5 (Nat.le_refl _)
  exact Jvm.Q9.Aim.retV z4 hx hlk hret (hb hby d8_9) (by decide) (by decide) ze ⟨t_287, kb_288, rfl, zd, (z8.elim (fun r => Or.inl r) (fun r => Or.inr (lT (Nat.le_refl _) r))), z9, za, zb, zc⟩
theorem d0_0 : decode jdk_18_method_1_code 0 = .ok (.aload_n 0, 1) := by decide +kernel
theorem d0_1 : decode jdk_18_method_1_code 1 = .ok (.invokespecial 1, 3) := by decide +kernel
theorem d0_4 : decode jdk_18_method_1_code 4 = .ok (.return_, 1) := by decide +kernel
theorem pn_java_lang_Number : plainName "java/lang/Number" = true := by first | (simp [plainName, overriddenIn]; done) | decide +kernel
theorem own_num (l : Launch) (Z : State) (a0 : Array Value) (hw : ∀ d ∈ tables_1, d.before a0 Z = true) (a : Addr) (h0 : Heap) (n0 : Nat) (Z0 : n0 ≤ h0.size) :
    Jvm.Y9.Con l Z (⟨"java/lang/Number", "<init>", "()V"⟩ : MethodName) jdk_18_method_1_code 1 none ({ frames := 1, cells := 0, slots := 0, locals := 12 } : Room) n0 #[(.ref a)] h0 (fun v h => v = none ∧ h0 = h) := by
  refine Jvm.Y9.Con.intro (plainFor_of_name pn_java_lang_Number) ?_
  intro p e s m below meth c s₁ hx hby hml hret hnm hown hlk hZ P0
  refine Jvm.Y9.Aim.cast (by first | (simp [entryFrame, mkF, argsToLocals, Value.category]; done) | rfl : entryFrame m #[(.ref a)] 1 = (mkF m 0 #[.val (.ref a)] [])) ?_
  have H := P0.here
  refine Jvm.Y9.Aim.of (T' := s₁) (g' := (mkF m 1 #[.val (.ref a)] [(.ref a)])) (fun tgt kt => ?_) ?_
  · refine XS.aloadN H hx rfl (hb hby d0_0) rfl rfl ?_
    exact kt
  refine Jvm.Y9.Aim.initO P0 hx hZ hml hown (wI hw 138 rfl) (wI hw 19 rfl) (wI hw 20 rfl) rfl (hb hby d0_1) (by decide) (Nat.le_of_ble_eq_true rfl) ?_
  intro T297 P298
  exact Jvm.Y9.Aim.retV P298 hx hlk hret (hb hby d0_4) (by decide) (by decide) ⟨rfl, rfl⟩
theorem d3_0 : decode jdk_33_method_23_code 0 = .ok (.aload_n 0, 1) := by decide +kernel
theorem d3_1 : decode jdk_33_method_23_code 1 = .ok (.invokespecial 202, 3) := by decide +kernel
theorem pd__28_29V : parseMethodDescriptor "()V" = some ⟨[], none⟩ := by decide +kernel
theorem d3_4 : decode jdk_33_method_23_code 4 = .ok (.aload_n 0, 1) := by decide +kernel
theorem d3_5 : decode jdk_33_method_23_code 5 = .ok (.iload_n 1, 1) := by decide +kernel
theorem d3_6 : decode jdk_33_method_23_code 6 = .ok (.putfield 205, 3) := by decide +kernel
theorem d3_9 : decode jdk_33_method_23_code 9 = .ok (.return_, 1) := by decide +kernel
theorem pn_java_lang_Integer : plainName "java/lang/Integer" = true := by first | (simp [plainName, overriddenIn]; done) | decide +kernel
theorem own_iini (l : Launch) (Z : State) (a0 : Array Value) (hw : ∀ d ∈ tables_1, d.before a0 Z = true) (a : Addr) (i : Int32) (u : Value) (h0 : Heap) (n0 : Nat) (Z0 : n0 ≤ h0.size) (g_a : n0 ≤ a) (F0 : Exa Z h0 a "java/lang/Integer") (F1 : Fld Z h0 a "java/lang/Integer" "value" "I" u) :
    Jvm.Y9.Con l Z (⟨"java/lang/Integer", "<init>", "(I)V"⟩ : MethodName) jdk_33_method_23_code 2 none ({ frames := 2, cells := 0, slots := 0, locals := 24 } : Room) n0 #[(.ref a), (.int i)] h0 (fun v h => v = none ∧ Keep h0 h [a] ∧ Exa Z h a "java/lang/Integer" ∧ Fld Z h a "java/lang/Integer" "value" "I" (.int i)) := by
  refine Jvm.Y9.Con.intro (plainFor_of_name pn_java_lang_Integer) ?_
  intro p e s m below meth c s₁ hx hby hml hret hnm hown hlk hZ P0
  refine Jvm.Y9.Aim.cast (by first | (simp [entryFrame, mkF, argsToLocals, Value.category]; done) | rfl : entryFrame m #[(.ref a), (.int i)] 2 = (mkF m 0 #[.val (.ref a), .val (.int i)] [])) ?_
  have H := P0.here
  refine Jvm.Y9.Aim.of (T' := s₁) (g' := (mkF m 1 #[.val (.ref a), .val (.int i)] [(.ref a)])) (fun tgt kt => ?_) ?_
  · refine XS.aloadN H hx rfl (hb hby d3_0) rfl rfl ?_
    exact kt
  refine Jvm.Y9.Aim.callC (argsL := []) (rest := []) P0 hx hZ hml hown rfl (wI hw 132 rfl) (wI hw 133 rfl) (wI hw 137 rfl) (by decide) (Jvm.Y9.Con.back (W := 0) (own_num l Z a0 hw a h0 n0 Z0) hZ (wI hw 137 rfl) (wI hw 136 rfl) (by decide) (by decide)) rfl pd__28_29V rfl (Nat.le_of_eq rfl) (hb hby d3_1) (by decide) (by decide) ?_
  intro z0 z1 z2 z3 z4
  obtain ⟨rfl, rfl⟩ := z4
  have H := z3.here
  refine Jvm.Y9.Aim.of (T' := z0) (g' := (mkF m 6 #[.val (.ref a), .val (.int i)] [(.int i), (.ref a)])) (fun tgt kt => ?_) ?_
  · refine XS.aloadN H hx rfl (hb hby d3_4) rfl rfl ?_
    refine XS.iloadN H hx rfl (hb hby d3_5) rfl ?_
    exact kt
  refine Jvm.Y9.Aim.putF (v := (.int i)) z3 hx hZ hown (host := "") (Or.inl (wI hw 81 rfl)) Via.refl F1 F0 (Or.inr ⟨(wI hw 82 rfl), rfl, hnm⟩) (wI hw 127 rfl) (ty := .int) (by decide) rfl rfl (hb hby d3_6) g_a ?_
  intro z5 z6 z7 z8
  have z9 := Keep.of_wr z8
  have za : Fld Z z6 a "java/lang/Integer" "value" "I" (.int i) := F1.same z8
  have zb : Keep h0 z6 [a] := (Keep.refl h0 [a]).trans z9 (allS (Or.inl (List.mem_of_getElem? (i := 0) rfl)) all0)
  have zc : Exa Z z6 a "java/lang/Integer" := (F0.keep z9)
  exact Jvm.Y9.Aim.retV z7 hx hlk hret (hb hby d3_9) (by decide) (by decide) ⟨rfl, zb, zc, za⟩
theorem d2_0 : decode jdk_33_method_22_code 0 = .ok (.iload_n 0, 1) := by decide +kernel
theorem d2_1 : decode jdk_33_method_22_code 1 = .ok (.bipush (-128), 2) := by decide +kernel
theorem d2_3 : decode jdk_33_method_22_code 3 = .ok (.if_icmp .lt 20, 3) := by decide +kernel
theorem d2_23 : decode jdk_33_method_22_code 23 = .ok (.new 1, 3) := by decide +kernel
theorem d2_26 : decode jdk_33_method_22_code 26 = .ok (.dup, 1) := by decide +kernel
theorem d2_27 : decode jdk_33_method_22_code 27 = .ok (.iload_n 0, 1) := by decide +kernel
theorem d2_28 : decode jdk_33_method_22_code 28 = .ok (.invokespecial 199, 3) := by decide +kernel
theorem pd__28I_29V : parseMethodDescriptor "(I)V" = some ⟨[.int], none⟩ := by decide +kernel
theorem d2_31 : decode jdk_33_method_22_code 31 = .ok (.areturn, 1) := by decide +kernel
theorem d2_6 : decode jdk_33_method_22_code 6 = .ok (.iload_n 0, 1) := by decide +kernel
theorem d2_7 : decode jdk_33_method_22_code 7 = .ok (.getstatic 191, 3) := by decide +kernel
theorem d2_10 : decode jdk_33_method_22_code 10 = .ok (.if_icmp .gt 13, 3) := by decide +kernel
theorem d2_13 : decode jdk_33_method_22_code 13 = .ok (.getstatic 195, 3) := by decide +kernel
theorem d2_16 : decode jdk_33_method_22_code 16 = .ok (.iload_n 0, 1) := by decide +kernel
theorem d2_17 : decode jdk_33_method_22_code 17 = .ok (.sipush 128, 3) := by decide +kernel
theorem d2_20 : decode jdk_33_method_22_code 20 = .ok (.iadd, 1) := by decide +kernel
theorem d2_21 : decode jdk_33_method_22_code 21 = .ok (.aaload, 1) := by decide +kernel
theorem d2_22 : decode jdk_33_method_22_code 22 = .ok (.areturn, 1) := by decide +kernel
theorem own_ivo (l : Launch) (Z : State) (a0 : Array Value) (hw : ∀ d ∈ tables_1, d.before a0 Z = true) (i : Int32) (h0 : Heap) (n0 : Nat) (Z0 : n0 ≤ h0.size) (F0 : Old Z n0 h0) (GI : Ica Z) :
    Jvm.Y9.Con l Z (⟨"java/lang/Integer", "valueOf", "(I)Ljava/lang/Integer;"⟩ : MethodName) jdk_33_method_22_code 1 (some (.object "java/lang/Integer")) ({ frames := 3, cells := 1, slots := 1, locals := 38 } : Room) n0 #[(.int i)] h0 (fun v h => ∃ b : Addr, v = some (.ref b) ∧ Keep h0 h [] ∧ (b < n0 ∨ h0.size ≤ b) ∧ Exa Z h b "java/lang/Integer" ∧ Fld Z h b "java/lang/Integer" "value" "I" (.int i)) := by
  refine Jvm.Y9.Con.intro (plainFor_of_name pn_java_lang_Integer) ?_
  intro p e s m below meth c s₁ hx hby hml hret hnm hown hlk hZ P0
  refine Jvm.Y9.Aim.cast (by first | (simp [entryFrame, mkF, argsToLocals, Value.category]; done) | rfl : entryFrame m #[(.int i)] 1 = (mkF m 0 #[.val (.int i)] [])) ?_
  obtain ⟨ca, cc, Shi, Sca, Bx⟩ := GI
  have H := P0.here
  refine Jvm.Y9.Aim.of (T' := s₁) (g' := (mkF m 3 #[.val (.int i)] [(.int (-128 : Int32)), (.int i)])) (fun tgt kt => ?_) ?_
  · refine XS.iloadN H hx rfl (hb hby d2_0) rfl ?_
    refine XS.bipush H hx rfl (hb hby d2_1) ?_
    exact kt
  by_cases z0 : i < (-128 : Int32)
  · skip
    have H := P0.here
    refine Jvm.Y9.Aim.of (T' := s₁) (g' := (mkF m 23 #[.val (.int i)] [])) (fun tgt kt => ?_) ?_
    · refine XS.icmpYes H hx rfl (pc0 := 3) (pc' := 23) rfl (hb hby d2_3) rfl (tlt z0).1 (by decide) (by decide) ?_
      exact kt
    refine Jvm.Y9.Aim.newO P0 hx hZ hown (wI hw 126 rfl) (wI hw 127 rfl) (wI hw 44 rfl) (hb hby d2_23) (by decide) (by decide) ?_
    intro z1 z2 z3 z4 z5 z6 z7 z8 z9
    have za : Keep h0 z2 [] := (Keep.refl _ _).ext z6
    have zb : Keep h0 z2 [] := (Keep.refl h0 []).trans za all0
    have zc : Fld Z z2 z3 "java/lang/Integer" "value" "I" (.int 0) := z8 (Or.inr (wI hw 82 rfl)) (ty := .int) (by decide)
    have H := z5.here
    refine Jvm.Y9.Aim.of (T' := z1) (g' := (mkF m 28 #[.val (.int i)] [(.int i), (.ref z3), (.ref z3)])) (fun tgt kt => ?_) ?_
    · refine XS.dup H hx rfl (hb hby d2_26) rfl rfl ?_
      refine XS.iloadN H hx rfl (hb hby d2_27) rfl ?_
      exact kt
    refine Jvm.Y9.Aim.callC (argsL := [(.int i)]) (rest := [(.ref z3)]) z5 hx hZ hml hown rfl (wI hw 128 rfl) (wI hw 129 rfl) (wI hw 131 rfl) (by decide) (Jvm.Y9.Con.back (W := 1) (own_iini l Z a0 hw z3 i (.int 0) z2 n0 (lT Z0 (zb.1)) (lT Z0 (Nat.le_of_eq z4.symm)) z7 zc) hZ (wI hw 131 rfl) (wI hw 44 rfl) (by decide) (by decide)) rfl pd__28I_29V rfl (Nat.le_of_eq rfl) (hb hby d2_28) (by decide) (by decide) ?_
    intro zd ze zf zg zh
    obtain ⟨rfl, zi, zj, zk⟩ := zh
    have zl : Keep h0 ze [] := zb.trans zi (allS (Or.inr (lT (Nat.le_refl _) (Nat.le_of_eq z4.symm))) all0)
    exact Jvm.Y9.Aim.retA zg hx hlk hret rfl rfl (hb hby d2_31) (by decide) (by decide) ⟨z3, rfl, zl, (Or.inr (lT (Nat.le_refl _) (Nat.le_of_eq z4.symm))), zj, zk⟩
  · skip
    have H := P0.here
    refine Jvm.Y9.Aim.of (T' := s₁) (g' := (mkF m 7 #[.val (.int i)] [(.int i)])) (fun tgt kt => ?_) ?_
    · refine XS.icmpNo H hx rfl (hb hby d2_3) rfl (flt z0).1 ?_
      refine XS.iloadN H hx rfl (hb hby d2_6) rfl ?_
      exact kt
    refine Jvm.Y9.Aim.getS P0 hx hZ hown (wI hw 46 rfl) Via.refl (Shi.ext F0.2) (hb hby d2_7) ?_
    intro zm zn
    by_cases zo : (127 : Int32) < i
    · skip
      have H := zn.here
      refine Jvm.Y9.Aim.of (T' := zm) (g' := (mkF m 23 #[.val (.int i)] [])) (fun tgt kt => ?_) ?_
      · refine XS.icmpYes H hx rfl (pc0 := 10) (pc' := 23) rfl (hb hby d2_10) rfl (tlt zo).2.2.1 (by decide) (by decide) ?_
        exact kt
      refine Jvm.Y9.Aim.newO zn hx hZ hown (wI hw 126 rfl) (wI hw 127 rfl) (wI hw 44 rfl) (hb hby d2_23) (by decide) (by decide) ?_
      intro zp zq zr zs zt zu zv zw zx
      have zy : Keep h0 zq [] := (Keep.refl _ _).ext zu
      have zz : Keep h0 zq [] := (Keep.refl h0 []).trans zy all0
      have z10 : Fld Z zq zr "java/lang/Integer" "value" "I" (.int 0) := zw (Or.inr (wI hw 82 rfl)) (ty := .int) (by decide)
      have H := zt.here
      refine Jvm.Y9.Aim.of (T' := zp) (g' := (mkF m 28 #[.val (.int i)] [(.int i), (.ref zr), (.ref zr)])) (fun tgt kt => ?_) ?_
      · refine XS.dup H hx rfl (hb hby d2_26) rfl rfl ?_
        refine XS.iloadN H hx rfl (hb hby d2_27) rfl ?_
        exact kt
      refine Jvm.Y9.Aim.callC (argsL := [(.int i)]) (rest := [(.ref zr)]) zt hx hZ hml hown rfl (wI hw 128 rfl) (wI hw 129 rfl) (wI hw 131 rfl) (by decide) (Jvm.Y9.Con.back (W := 1) (own_iini l Z a0 hw zr i (.int 0) zq n0 (lT Z0 (zz.1)) (lT Z0 (Nat.le_of_eq zs.symm)) zv z10) hZ (wI hw 131 rfl) (wI hw 44 rfl) (by decide) (by decide)) rfl pd__28I_29V rfl (Nat.le_of_eq rfl) (hb hby d2_28) (by decide) (by decide) ?_
      intro z11 z12 z13 z14 z15
      obtain ⟨rfl, z16, z17, z18⟩ := z15
      have z19 : Keep h0 z12 [] := zz.trans z16 (allS (Or.inr (lT (Nat.le_refl _) (Nat.le_of_eq zs.symm))) all0)
      exact Jvm.Y9.Aim.retA z14 hx hlk hret rfl rfl (hb hby d2_31) (by decide) (by decide) ⟨zr, rfl, z19, (Or.inr (lT (Nat.le_refl _) (Nat.le_of_eq zs.symm))), z17, z18⟩
    · skip
      have H := zn.here
      refine Jvm.Y9.Aim.of (T' := zm) (g' := (mkF m 13 #[.val (.int i)] [])) (fun tgt kt => ?_) ?_
      · refine XS.icmpNo H hx rfl (hb hby d2_10) rfl (flt zo).2.2.1 ?_
        exact kt
      refine Jvm.Y9.Aim.getS zn hx hZ hown (wI hw 48 rfl) Via.refl (Sca.ext F0.2) (hb hby d2_13) ?_
      intro z1a z1b
      have H := z1b.here
      refine Jvm.Y9.Aim.of (T' := z1a) (g' := (mkF m 21 #[.val (.int i)] [(.int (i + (128 : Int32))), (.ref ca)])) (fun tgt kt => ?_) ?_
      · refine XS.iloadN H hx rfl (hb hby d2_16) rfl ?_
        refine XS.sipush H hx rfl (hb hby d2_17) ?_
        refine XS.iadd H hx rfl (hb hby d2_20) rfl ?_
        exact kt
      obtain ⟨bx, ebx, Ebx, Fbx⟩ := Bx.2.2.2 (i + 128) (own_ic z0 zo Bx.2.1)
      replace Fbx : Fld Z Z.heap bx "java/lang/Integer" "value" "I" (.int i) := by have q := Fbx; simp only [own_ic2] at q; exact q
      have lbx : bx < n0 := F0.1 ▸ Ebx.lt
      refine Jvm.Y9.Aim.ldX (j := (i + (128 : Int32))) (v := (.ref bx)) z1b hx hZ (Bx.ext F0.2).1 rfl (own_ic z0 zo Bx.2.1) ebx (hb hby d2_21) ?_
      have z1c : Exa Z h0 bx "java/lang/Integer" := Ebx.keep ((Keep.refl _ []).ext F0.2)
      have z1d : Fld Z h0 bx "java/lang/Integer" "value" "I" (.int i) := Fbx.keep ((Keep.refl _ []).ext F0.2) nin0
      exact Jvm.Y9.Aim.retA z1b hx hlk hret rfl rfl (hb hby d2_22) (by decide) (by decide) ⟨bx, rfl, (Keep.refl h0 []), (Or.inl lbx), z1c, z1d⟩
theorem d5_0 : decode jdk_33_method_33_code 0 = .ok (.iload_n 0, 1) := by decide +kernel
theorem d5_1 : decode jdk_33_method_33_code 1 = .ok (.ireturn, 1) := by decide +kernel
theorem own_ihi (l : Launch) (Z : State) (a0 : Array Value) (hw : ∀ d ∈ tables_1, d.before a0 Z = true) (i : Int32) (h0 : Heap) (n0 : Nat) (Z0 : n0 ≤ h0.size) :
    Jvm.Y9.Con l Z (⟨"java/lang/Integer", "hashCode", "(I)I"⟩ : MethodName) jdk_33_method_33_code 1 (some .int) ({ frames := 0, cells := 0, slots := 0, locals := 0 } : Room) n0 #[(.int i)] h0 (fun v h => v = some (.int i) ∧ h0 = h) := by
  refine Jvm.Y9.Con.intro (plainFor_of_name pn_java_lang_Integer) ?_
  intro p e s m below meth c s₁ hx hby hml hret hnm hown hlk hZ P0
  refine Jvm.Y9.Aim.cast (by first | (simp [entryFrame, mkF, argsToLocals, Value.category]; done) | rfl : entryFrame m #[(.int i)] 1 = (mkF m 0 #[.val (.int i)] [])) ?_
  have H := P0.here
  refine Jvm.Y9.Aim.of (T' := s₁) (g' := (mkF m 1 #[.val (.int i)] [(.int i)])) (fun tgt kt => ?_) ?_
  · refine XS.iloadN H hx rfl (hb hby d5_0) rfl ?_
    exact kt
  exact Jvm.Y9.Aim.retI P0 hx hlk hret (hb hby d5_1) (by decide) (by decide) ⟨rfl, rfl⟩
theorem d4_0 : decode jdk_33_method_32_code 0 = .ok (.aload_n 0, 1) := by decide +kernel
theorem d4_1 : decode jdk_33_method_32_code 1 = .ok (.getfield 205, 3) := by decide +kernel
theorem d4_4 : decode jdk_33_method_32_code 4 = .ok (.invokestatic 208, 3) := by decide +kernel
theorem pd__28I_29I : parseMethodDescriptor "(I)I" = some ⟨[.int], some .int⟩ := by decide +kernel
theorem d4_7 : decode jdk_33_method_32_code 7 = .ok (.ireturn, 1) := by decide +kernel
theorem own_ihc (l : Launch) (Z : State) (a0 : Array Value) (hw : ∀ d ∈ tables_1, d.before a0 Z = true) (b : Addr) (i : Int32) (h0 : Heap) (n0 : Nat) (Z0 : n0 ≤ h0.size) (F0 : Fld Z h0 b "java/lang/Integer" "value" "I" (.int i)) :
    Jvm.Y9.Con l Z (⟨"java/lang/Integer", "hashCode", "()I"⟩ : MethodName) jdk_33_method_32_code 1 (some .int) ({ frames := 1, cells := 0, slots := 0, locals := 12 } : Room) n0 #[(.ref b)] h0 (fun v h => v = some (.int i) ∧ h0 = h) := by
  refine Jvm.Y9.Con.intro (plainFor_of_name pn_java_lang_Integer) ?_
  intro p e s m below meth c s₁ hx hby hml hret hnm hown hlk hZ P0
  refine Jvm.Y9.Aim.cast (by first | (simp [entryFrame, mkF, argsToLocals, Value.category]; done) | rfl : entryFrame m #[(.ref b)] 1 = (mkF m 0 #[.val (.ref b)] [])) ?_
  have H := P0.here
  refine Jvm.Y9.Aim.of (T' := s₁) (g' := (mkF m 1 #[.val (.ref b)] [(.ref b)])) (fun tgt kt => ?_) ?_
  · refine XS.aloadN H hx rfl (hb hby d4_0) rfl rfl ?_
    exact kt
  refine Jvm.Y9.Aim.getF P0 hx hZ hown (host := "") (Or.inl (wI hw 81 rfl)) Via.refl F0 (hb hby d4_1) ?_
  intro z0 z1
  refine Jvm.Y9.Aim.callS (argsL := [(.int i)]) (rest := []) z1 hx hZ hml hown (wI hw 83 rfl) (wI hw 84 rfl) (wI hw 44 rfl) (wI hw 85 rfl) (by decide) (Jvm.Y9.Con.back (W := 0) (own_ihi l Z a0 hw i h0 n0 Z0) hZ (wI hw 85 rfl) (wI hw 44 rfl) (by decide) (by decide)) rfl pd__28I_29I rfl (Nat.le_of_eq rfl) (hb hby d4_4) (by decide) (by decide) ?_
  intro z2 z3 z4 z5 z6
  obtain ⟨rfl, rfl⟩ := z6
  exact Jvm.Y9.Aim.retI z5 hx hlk hret (hb hby d4_7) (by decide) (by decide) ⟨rfl, rfl⟩
theorem dc_0 : decode jdk_48_method_5_code 0 = .ok (.iload_n 2, 1) := by decide +kernel
theorem dc_1 : decode jdk_48_method_5_code 1 = .ok (.iload_n 3, 1) := by decide +kernel
theorem dc_2 : decode jdk_48_method_5_code 2 = .ok (.iadd, 1) := by decide +kernel
theorem dc_3 : decode jdk_48_method_5_code 3 = .ok (.istore 4, 2) := by decide +kernel
theorem dc_5 : decode jdk_48_method_5_code 5 = .ok (.iload_n 2, 1) := by decide +kernel
theorem dc_6 : decode jdk_48_method_5_code 6 = .ok (.istore 5, 2) := by decide +kernel
theorem dc_8 : decode jdk_48_method_5_code 8 = .ok (.iload 5, 2) := by decide +kernel
theorem dc_10 : decode jdk_48_method_5_code 10 = .ok (.iload 4, 2) := by decide +kernel
theorem dc_12 : decode jdk_48_method_5_code 12 = .ok (.if_icmp .ge 23, 3) := by decide +kernel
theorem dc_15 : decode jdk_48_method_5_code 15 = .ok (.bipush 31, 2) := by decide +kernel
theorem dc_17 : decode jdk_48_method_5_code 17 = .ok (.iload_n 0, 1) := by decide +kernel
theorem dc_18 : decode jdk_48_method_5_code 18 = .ok (.imul, 1) := by decide +kernel
theorem dc_19 : decode jdk_48_method_5_code 19 = .ok (.aload_n 1, 1) := by decide +kernel
theorem dc_20 : decode jdk_48_method_5_code 20 = .ok (.iload 5, 2) := by decide +kernel
theorem dc_22 : decode jdk_48_method_5_code 22 = .ok (.baload, 1) := by decide +kernel
theorem dc_23 : decode jdk_48_method_5_code 23 = .ok (.sipush 255, 3) := by decide +kernel
theorem dc_26 : decode jdk_48_method_5_code 26 = .ok (.iand, 1) := by decide +kernel
theorem dc_27 : decode jdk_48_method_5_code 27 = .ok (.iadd, 1) := by decide +kernel
theorem dc_28 : decode jdk_48_method_5_code 28 = .ok (.istore_n 0, 1) := by decide +kernel
theorem dc_29 : decode jdk_48_method_5_code 29 = .ok (.iinc 5 1, 3) := by decide +kernel
theorem dc_32 : decode jdk_48_method_5_code 32 = .ok (.goto (-24), 3) := by decide +kernel
theorem dc_35 : decode jdk_48_method_5_code 35 = .ok (.iload_n 0, 1) := by decide +kernel
theorem dc_36 : decode jdk_48_method_5_code 36 = .ok (.ireturn, 1) := by decide +kernel
theorem pn_jdk_internal_util_ArraysSupport : plainName "jdk/internal/util/ArraysSupport" = true := by first | (simp [plainName, overriddenIn]; done) | decide +kernel
theorem own_sgn (l : Launch) (Z : State) (a0 : Array Value) (hw : ∀ d ∈ tables_1, d.before a0 Z = true) (t : Addr) (kb : ClassId) (u_ : Int32) (v_ : Int32) (h0 : Heap) (n0 : Nat) (Z0 : n0 ≤ h0.size) (F0 : Arv Z h0 t kb .byte (2 : Int32) [(.int u_), (.int v_)] (.int 0)) :
    Jvm.Y9.Con l Z (⟨"jdk/internal/util/ArraysSupport", "signedHashCode", "(I[BII)I"⟩ : MethodName) jdk_48_method_5_code 6 (some .int) ({ frames := 0, cells := 0, slots := 0, locals := 0 } : Room) n0 #[(.int 0), (.ref t), (.int 0), (.int 2)] h0 (fun v h => ∃ hv : Int32, v = some (.int hv) ∧ h0 = h) := by
  refine Jvm.Y9.Con.intro (plainFor_of_name pn_jdk_internal_util_ArraysSupport) ?_
  intro p e s m below meth c s₁ hx hby hml hret hnm hown hlk hZ P0
  refine Jvm.Y9.Aim.cast (by first | (simp [entryFrame, mkF, argsToLocals, Value.category]; done) | rfl : entryFrame m #[(.int 0), (.ref t), (.int 0), (.int 2)] 6 = (mkF m 0 #[.val (.int 0), .val (.ref t), .val (.int 0), .val (.int 2), .unset, .unset] [])) ?_
  have H := P0.here
  refine Jvm.Y9.Aim.of (T' := s₁) (g' := (mkF m 22 #[.val (.int 0), .val (.ref t), .val (.int 0), .val (.int 2), .val (.int 2), .val (.int 0)] [(.int 0), (.ref t), (.int ((31 : Int32) * (0 : Int32)))])) (fun tgt kt => ?_) ?_
  · refine XS.iloadN H hx rfl (hb hby dc_0) rfl ?_
    refine XS.iloadN H hx rfl (hb hby dc_1) rfl ?_
    refine XS.iadd H hx rfl (hb hby dc_2) rfl ?_
    refine XS.istore H hx rfl (hb hby dc_3) rfl (l' := #[.val (.int 0), .val (.ref t), .val (.int 0), .val (.int 2), .val (.int 2), .unset]) rfl ?_
    refine XS.iloadN H hx rfl (hb hby dc_5) rfl ?_
    refine XS.istore H hx rfl (hb hby dc_6) rfl (l' := #[.val (.int 0), .val (.ref t), .val (.int 0), .val (.int 2), .val (.int 2), .val (.int 0)]) rfl ?_
    refine XS.iload H hx rfl (hb hby dc_8) rfl ?_
    refine XS.iload H hx rfl (hb hby dc_10) rfl ?_
    refine XS.icmpNo H hx rfl (hb hby dc_12) rfl (tlt (by decide)).2.1 ?_
    refine XS.bipush H hx rfl (hb hby dc_15) ?_
    refine XS.iloadN H hx rfl (hb hby dc_17) rfl ?_
    refine XS.imul H hx rfl (hb hby dc_18) rfl ?_
    refine XS.aloadN H hx rfl (hb hby dc_19) rfl rfl ?_
    refine XS.iload H hx rfl (hb hby dc_20) rfl ?_
    exact kt
  refine Jvm.Y9.Aim.ldB (j := (0 : Int32)) (v := (.int u_)) P0 hx hZ F0 ⟨by decide, by decide⟩ rfl (hb hby dc_22) ?_
  have H := P0.here
  refine Jvm.Y9.Aim.of (T' := s₁) (g' := (mkF m 22 #[.val (.int (((31 : Int32) * (0 : Int32)) + (u_ &&& (255 : Int32)))), .val (.ref t), .val (.int 0), .val (.int 2), .val (.int 2), .val (.int 1)] [(.int 1), (.ref t), (.int ((31 : Int32) * (((31 : Int32) * (0 : Int32)) + (u_ &&& (255 : Int32)))))])) (fun tgt kt => ?_) ?_
  · refine XS.sipush H hx rfl (hb hby dc_23) ?_
    refine XS.iand H hx rfl (hb hby dc_26) rfl ?_
    refine XS.iadd H hx rfl (hb hby dc_27) rfl ?_
    refine XS.istoreN H hx rfl (hb hby dc_28) rfl (l' := #[.val (.int (((31 : Int32) * (0 : Int32)) + (u_ &&& (255 : Int32)))), .val (.ref t), .val (.int 0), .val (.int 2), .val (.int 2), .val (.int 0)]) rfl ?_
    refine XS.iinc H hx rfl (hb hby dc_29) rfl (l' := #[.val (.int (((31 : Int32) * (0 : Int32)) + (u_ &&& (255 : Int32)))), .val (.ref t), .val (.int 0), .val (.int 2), .val (.int 2), .val (.int 1)]) rfl ?_
    refine XS.goto H hx rfl (pc0 := 32) (pc' := 8) rfl (hb hby dc_32) (by decide) (by decide) ?_
    refine XS.iload H hx rfl (hb hby dc_8) rfl ?_
    refine XS.iload H hx rfl (hb hby dc_10) rfl ?_
    refine XS.icmpNo H hx rfl (hb hby dc_12) rfl (tlt (by decide)).2.1 ?_
    refine XS.bipush H hx rfl (hb hby dc_15) ?_
    refine XS.iloadN H hx rfl (hb hby dc_17) rfl ?_
    refine XS.imul H hx rfl (hb hby dc_18) rfl ?_
    refine XS.aloadN H hx rfl (hb hby dc_19) rfl rfl ?_
    refine XS.iload H hx rfl (hb hby dc_20) rfl ?_
    exact kt
  refine Jvm.Y9.Aim.ldB (j := (1 : Int32)) (v := (.int v_)) P0 hx hZ F0 ⟨by decide, by decide⟩ rfl (hb hby dc_22) ?_
  have H := P0.here
  refine Jvm.Y9.Aim.of (T' := s₁) (g' := (mkF m 36 #[.val (.int (((31 : Int32) * (((31 : Int32) * (0 : Int32)) + (u_ &&& (255 : Int32)))) + (v_ &&& (255 : Int32)))), .val (.ref t), .val (.int 0), .val (.int 2), .val (.int 2), .val (.int 2)] [(.int (((31 : Int32) * (((31 : Int32) * (0 : Int32)) + (u_ &&& (255 : Int32)))) + (v_ &&& (255 : Int32))))])) (fun tgt kt => ?_) ?_
  · refine XS.sipush H hx rfl (hb hby dc_23) ?_
    refine XS.iand H hx rfl (hb hby dc_26) rfl ?_
    refine XS.iadd H hx rfl (hb hby dc_27) rfl ?_
    refine XS.istoreN H hx rfl (hb hby dc_28) rfl (l' := #[.val (.int (((31 : Int32) * (((31 : Int32) * (0 : Int32)) + (u_ &&& (255 : Int32)))) + (v_ &&& (255 : Int32)))), .val (.ref t), .val (.int 0), .val (.int 2), .val (.int 2), .val (.int 1)]) rfl ?_
    refine XS.iinc H hx rfl (hb hby dc_29) rfl (l' := #[.val (.int (((31 : Int32) * (((31 : Int32) * (0 : Int32)) + (u_ &&& (255 : Int32)))) + (v_ &&& (255 : Int32)))), .val (.ref t), .val (.int 0), .val (.int 2), .val (.int 2), .val (.int 2)]) rfl ?_
    refine XS.goto H hx rfl (pc0 := 32) (pc' := 8) rfl (hb hby dc_32) (by decide) (by decide) ?_
    refine XS.iload H hx rfl (hb hby dc_8) rfl ?_
    refine XS.iload H hx rfl (hb hby dc_10) rfl ?_
    refine XS.icmpYes H hx rfl (pc0 := 12) (pc' := 35) rfl (hb hby dc_12) rfl (flt (by decide)).2.1 (by decide) (by decide) ?_
    refine XS.iloadN H hx rfl (hb hby dc_35) rfl ?_
    exact kt
  exact Jvm.Y9.Aim.retI P0 hx hlk hret (hb hby dc_36) (by decide) (by decide) ⟨(((31 : Int32) * (((31 : Int32) * (0 : Int32)) + (u_ &&& (255 : Int32)))) + (v_ &&& (255 : Int32))), rfl, rfl⟩
theorem db_0 : decode jdk_48_method_4_code 0 = .ok (.iload 4, 2) := by decide +kernel
theorem db_2 : decode jdk_48_method_4_code 2 = .ok (.tableswitch 127 4 10 #[42, 55, 127, 127, 88, 101, 114], 42) := by decide +kernel
theorem db_44 : decode jdk_48_method_4_code 44 = .ok (.iload_n 3, 1) := by decide +kernel
theorem db_45 : decode jdk_48_method_4_code 45 = .ok (.aload_n 0, 1) := by decide +kernel
theorem db_46 : decode jdk_48_method_4_code 46 = .ok (.checkcast 60, 3) := by decide +kernel
theorem db_49 : decode jdk_48_method_4_code 49 = .ok (.iload_n 1, 1) := by decide +kernel
theorem db_50 : decode jdk_48_method_4_code 50 = .ok (.iload_n 2, 1) := by decide +kernel
theorem db_51 : decode jdk_48_method_4_code 51 = .ok (.invokestatic 62, 3) := by decide +kernel
theorem pd__28I_5bBII_29I : parseMethodDescriptor "(I[BII)I" = some ⟨[.int, (.array .byte), .int, .int], some .int⟩ := by decide +kernel
theorem db_54 : decode jdk_48_method_4_code 54 = .ok (.goto 103, 3) := by decide +kernel
theorem db_157 : decode jdk_48_method_4_code 157 = .ok (.ireturn, 1) := by decide +kernel
theorem own_vhc (l : Launch) (Z : State) (a0 : Array Value) (hw : ∀ d ∈ tables_1, d.before a0 Z = true) (t : Addr) (kb : ClassId) (u_ : Int32) (v_ : Int32) (h0 : Heap) (n0 : Nat) (Z0 : n0 ≤ h0.size) (F0 : Exa Z h0 t "[B") (F1 : Arv Z h0 t kb .byte (2 : Int32) [(.int u_), (.int v_)] (.int 0)) :
    Jvm.Y9.Con l Z (⟨"jdk/internal/util/ArraysSupport", "vectorizedHashCode", "(Ljava/lang/Object;IIII)I"⟩ : MethodName) jdk_48_method_4_code 5 (some .int) ({ frames := 1, cells := 0, slots := 0, locals := 17 } : Room) n0 #[(.ref t), (.int 0), (.int 2), (.int 0), (.int 4)] h0 (fun v h => ∃ hv : Int32, v = some (.int hv) ∧ h0 = h) := by
  refine Jvm.Y9.Con.intro (plainFor_of_name pn_jdk_internal_util_ArraysSupport) ?_
  intro p e s m below meth c s₁ hx hby hml hret hnm hown hlk hZ P0
  refine Jvm.Y9.Aim.cast (by first | (simp [entryFrame, mkF, argsToLocals, Value.category]; done) | rfl : entryFrame m #[(.ref t), (.int 0), (.int 2), (.int 0), (.int 4)] 5 = (mkF m 0 #[.val (.ref t), .val (.int 0), .val (.int 2), .val (.int 0), .val (.int 4)] [])) ?_
  have H := P0.here
  refine Jvm.Y9.Aim.of (T' := s₁) (g' := (mkF m 46 #[.val (.ref t), .val (.int 0), .val (.int 2), .val (.int 0), .val (.int 4)] [(.ref t), (.int 0)])) (fun tgt kt => ?_) ?_
  · refine XS.iload H hx rfl (hb hby db_0) rfl ?_
    refine XS.tswIn H hx rfl (pc0 := 2) (pc' := 44) rfl (hb hby db_2) rfl (by decide) (o := 42) rfl (by decide) (by decide) ?_
    refine XS.iloadN H hx rfl (hb hby db_44) rfl ?_
    refine XS.aloadN H hx rfl (hb hby db_45) rfl rfl ?_
    exact kt
  refine Jvm.Y9.Aim.castY P0 hx hZ hown (wI hw 121 rfl) (Ins.self F0) (hb hby db_46) ?_
  intro z0 z1
  have H := z1.here
  refine Jvm.Y9.Aim.of (T' := z0) (g' := (mkF m 51 #[.val (.ref t), .val (.int 0), .val (.int 2), .val (.int 0), .val (.int 4)] [(.int 2), (.int 0), (.ref t), (.int 0)])) (fun tgt kt => ?_) ?_
  · refine XS.iloadN H hx rfl (hb hby db_49) rfl ?_
    refine XS.iloadN H hx rfl (hb hby db_50) rfl ?_
    exact kt
  refine Jvm.Y9.Aim.callS (argsL := [(.int 0), (.ref t), (.int 0), (.int 2)]) (rest := []) z1 hx hZ hml hown (wI hw 123 rfl) (wI hw 124 rfl) (wI hw 119 rfl) (wI hw 125 rfl) (by decide) (Jvm.Y9.Con.back (W := 0) (own_sgn l Z a0 hw t kb u_ v_ h0 n0 Z0 F1) hZ (wI hw 125 rfl) (wI hw 119 rfl) (by decide) (by decide)) rfl pd__28I_5bBII_29I rfl (Nat.le_of_eq rfl) (hb hby db_51) (by decide) (by decide) ?_
  intro z2 z3 z4 z5 z6
  obtain ⟨hv_386, rfl, rfl⟩ := z6
  have H := z5.here
  refine Jvm.Y9.Aim.of (T' := z2) (g' := (mkF m 157 #[.val (.ref t), .val (.int 0), .val (.int 2), .val (.int 0), .val (.int 4)] [(.int hv_386)])) (fun tgt kt => ?_) ?_
  · refine XS.goto H hx rfl (pc0 := 54) (pc' := 157) rfl (hb hby db_54) (by decide) (by decide) ?_
    exact kt
  exact Jvm.Y9.Aim.retI z5 hx hlk hret (hb hby db_157) (by decide) (by decide) ⟨hv_386, rfl, rfl⟩
theorem da_0 : decode jdk_43_method_21_code 0 = .ok (.aload_n 0, 1) := by decide +kernel
theorem da_1 : decode jdk_43_method_21_code 1 = .ok (.arraylength, 1) := by decide +kernel
theorem da_2 : decode jdk_43_method_21_code 2 = .ok (.lookupswitch 40 #[(0, 26), (1, 30)], 26) := by decide +kernel
theorem da_28 : decode jdk_43_method_21_code 28 = .ok (.iconst 0, 1) := by decide +kernel
theorem da_29 : decode jdk_43_method_21_code 29 = .ok (.goto 22, 3) := by decide +kernel
theorem da_51 : decode jdk_43_method_21_code 51 = .ok (.ireturn, 1) := by decide +kernel
theorem da_32 : decode jdk_43_method_21_code 32 = .ok (.aload_n 0, 1) := by decide +kernel
theorem da_33 : decode jdk_43_method_21_code 33 = .ok (.iconst 0, 1) := by decide +kernel
theorem da_34 : decode jdk_43_method_21_code 34 = .ok (.baload, 1) := by decide +kernel
theorem da_35 : decode jdk_43_method_21_code 35 = .ok (.sipush 255, 3) := by decide +kernel
theorem da_38 : decode jdk_43_method_21_code 38 = .ok (.iand, 1) := by decide +kernel
theorem da_39 : decode jdk_43_method_21_code 39 = .ok (.goto 12, 3) := by decide +kernel
theorem da_42 : decode jdk_43_method_21_code 42 = .ok (.aload_n 0, 1) := by decide +kernel
theorem da_43 : decode jdk_43_method_21_code 43 = .ok (.iconst 0, 1) := by decide +kernel
theorem da_44 : decode jdk_43_method_21_code 44 = .ok (.aload_n 0, 1) := by decide +kernel
theorem da_45 : decode jdk_43_method_21_code 45 = .ok (.arraylength, 1) := by decide +kernel
theorem da_46 : decode jdk_43_method_21_code 46 = .ok (.iconst 0, 1) := by decide +kernel
theorem da_47 : decode jdk_43_method_21_code 47 = .ok (.iconst 4, 1) := by decide +kernel
theorem da_48 : decode jdk_43_method_21_code 48 = .ok (.invokestatic 84, 3) := by decide +kernel
theorem pd__28Ljava_2flang_2fObject_3bIIII_29I : parseMethodDescriptor "(Ljava/lang/Object;IIII)I" = some ⟨[(.object "java/lang/Object"), .int, .int, .int, .int], some .int⟩ := by decide +kernel
theorem pn_java_lang_StringLatin1 : plainName "java/lang/StringLatin1" = true := by first | (simp [plainName, overriddenIn]; done) | decide +kernel
theorem own_lhc (l : Launch) (Z : State) (a0 : Array Value) (hw : ∀ d ∈ tables_1, d.before a0 Z = true) (t : Addr) (kb : ClassId) (cs : List Int32) (h0 : Heap) (n0 : Nat) (Z0 : n0 ≤ h0.size) (F0 : Arv Z h0 t kb .byte (Int32.ofNat cs.length) (cs.map fun c => Value.int (c.toInt8.toInt32)) (.int 0)) (F1 : (2 ≤ cs.length → Exa Z h0 t "[B")) (h2_ : cs.length ≤ 2) :
    Jvm.Y9.Con l Z (⟨"java/lang/StringLatin1", "hashCode", "([B)I"⟩ : MethodName) jdk_43_method_21_code 1 (some .int) ({ frames := 2, cells := 0, slots := 0, locals := 33 } : Room) n0 #[(.ref t)] h0 (fun v h => ∃ hv : Int32, v = some (.int hv) ∧ h0 = h) := by
  refine Jvm.Y9.Con.intro (plainFor_of_name pn_java_lang_StringLatin1) ?_
  intro p e s m below meth c s₁ hx hby hml hret hnm hown hlk hZ P0
  refine Jvm.Y9.Aim.cast (by first | (simp [entryFrame, mkF, argsToLocals, Value.category]; done) | rfl : entryFrame m #[(.ref t)] 1 = (mkF m 0 #[.val (.ref t)] [])) ?_
  rcases cs with _ | ⟨a_, _ | ⟨b_, _ | ⟨d_, cr⟩⟩⟩
  · skip
    have z0 : Arv Z h0 t kb .byte (0 : Int32) [] (.int 0) := F0
    have H := P0.here
    refine Jvm.Y9.Aim.of (T' := s₁) (g' := (mkF m 1 #[.val (.ref t)] [(.ref t)])) (fun tgt kt => ?_) ?_
    · refine XS.aloadN H hx rfl (hb hby da_0) rfl rfl ?_
      exact kt
    refine Jvm.Y9.Aim.alen P0 hx hZ z0 (hb hby da_1) ?_
    have H := P0.here
    refine Jvm.Y9.Aim.of (T' := s₁) (g' := (mkF m 51 #[.val (.ref t)] [(.int 0)])) (fun tgt kt => ?_) ?_
    · refine Jvm.Y9.own_lsw H hx rfl (pc0 := 2) (pc' := 28) rfl (hb hby da_2) rfl (by decide) (o := 26) (by decide) (by decide) (by decide) ?_
      refine XS.iconst H hx rfl (hb hby da_28) ?_
      refine XS.goto H hx rfl (pc0 := 29) (pc' := 51) rfl (hb hby da_29) (by decide) (by decide) ?_
      exact kt
    exact Jvm.Y9.Aim.retI P0 hx hlk hret (hb hby da_51) (by decide) (by decide) ⟨(0 : Int32), rfl, rfl⟩
  · skip
    have z1 : Arv Z h0 t kb .byte (1 : Int32) [(.int (a_.toInt8.toInt32))] (.int 0) := F0
    have H := P0.here
    refine Jvm.Y9.Aim.of (T' := s₁) (g' := (mkF m 1 #[.val (.ref t)] [(.ref t)])) (fun tgt kt => ?_) ?_
    · refine XS.aloadN H hx rfl (hb hby da_0) rfl rfl ?_
      exact kt
    refine Jvm.Y9.Aim.alen P0 hx hZ z1 (hb hby da_1) ?_
    have H := P0.here
    refine Jvm.Y9.Aim.of (T' := s₁) (g' := (mkF m 34 #[.val (.ref t)] [(.int 0), (.ref t)])) (fun tgt kt => ?_) ?_
    · refine Jvm.Y9.own_lsw H hx rfl (pc0 := 2) (pc' := 32) rfl (hb hby da_2) rfl (by decide) (o := 30) (by decide) (by decide) (by decide) ?_
      refine XS.aloadN H hx rfl (hb hby da_32) rfl rfl ?_
      refine XS.iconst H hx rfl (hb hby da_33) ?_
      exact kt
    refine Jvm.Y9.Aim.ldB (j := (0 : Int32)) (v := (.int (a_.toInt8.toInt32))) P0 hx hZ z1 ⟨by decide, by decide⟩ rfl (hb hby da_34) ?_
    have H := P0.here
    refine Jvm.Y9.Aim.of (T' := s₁) (g' := (mkF m 51 #[.val (.ref t)] [(.int ((a_.toInt8.toInt32) &&& (255 : Int32)))])) (fun tgt kt => ?_) ?_
    · refine XS.sipush H hx rfl (hb hby da_35) ?_
      refine XS.iand H hx rfl (hb hby da_38) rfl ?_
      refine XS.goto H hx rfl (pc0 := 39) (pc' := 51) rfl (hb hby da_39) (by decide) (by decide) ?_
      exact kt
    exact Jvm.Y9.Aim.retI P0 hx hlk hret (hb hby da_51) (by decide) (by decide) ⟨((a_.toInt8.toInt32) &&& (255 : Int32)), rfl, rfl⟩
  · skip
    have z2 : Arv Z h0 t kb .byte (2 : Int32) [(.int (a_.toInt8.toInt32)), (.int (b_.toInt8.toInt32))] (.int 0) := F0
    have Et : Exa Z h0 t "[B" := F1 (by simp)
    have H := P0.here
    refine Jvm.Y9.Aim.of (T' := s₁) (g' := (mkF m 1 #[.val (.ref t)] [(.ref t)])) (fun tgt kt => ?_) ?_
    · refine XS.aloadN H hx rfl (hb hby da_0) rfl rfl ?_
      exact kt
    refine Jvm.Y9.Aim.alen P0 hx hZ z2 (hb hby da_1) ?_
    have H := P0.here
    refine Jvm.Y9.Aim.of (T' := s₁) (g' := (mkF m 45 #[.val (.ref t)] [(.ref t), (.int 0), (.ref t)])) (fun tgt kt => ?_) ?_
    · refine Jvm.Y9.own_lsw H hx rfl (pc0 := 2) (pc' := 42) rfl (hb hby da_2) rfl (by decide) (o := 40) (by decide) (by decide) (by decide) ?_
      refine XS.aloadN H hx rfl (hb hby da_42) rfl rfl ?_
      refine XS.iconst H hx rfl (hb hby da_43) ?_
      refine XS.aloadN H hx rfl (hb hby da_44) rfl rfl ?_
      exact kt
    refine Jvm.Y9.Aim.alen P0 hx hZ z2 (hb hby da_45) ?_
    have H := P0.here
    refine Jvm.Y9.Aim.of (T' := s₁) (g' := (mkF m 48 #[.val (.ref t)] [(.int 4), (.int 0), (.int 2), (.int 0), (.ref t)])) (fun tgt kt => ?_) ?_
    · refine XS.iconst H hx rfl (hb hby da_46) ?_
      refine XS.iconst H hx rfl (hb hby da_47) ?_
      exact kt
    refine Jvm.Y9.Aim.callS (argsL := [(.ref t), (.int 0), (.int 2), (.int 0), (.int 4)]) (rest := []) P0 hx hZ hml hown (wI hw 117 rfl) (wI hw 118 rfl) (wI hw 119 rfl) (wI hw 120 rfl) (by decide) (Jvm.Y9.Con.back (W := 0) (own_vhc l Z a0 hw t kb (a_.toInt8.toInt32) (b_.toInt8.toInt32) h0 n0 Z0 Et z2) hZ (wI hw 120 rfl) (wI hw 119 rfl) (by decide) (by decide)) rfl pd__28Ljava_2flang_2fObject_3bIIII_29I rfl (Nat.le_of_eq rfl) (hb hby da_48) (by decide) (by decide) ?_
    intro z3 z4 z5 z6 z7
    obtain ⟨hv_397, rfl, rfl⟩ := z7
    exact Jvm.Y9.Aim.retI z6 hx hlk hret (hb hby da_51) (by decide) (by decide) ⟨hv_397, rfl, rfl⟩
  · exact absurd h2_ (by simp only [List.length_cons]; omega)
theorem d7_0 : decode jdk_42_method_154_code 0 = .ok (.getstatic 38, 3) := by decide +kernel
theorem d7_3 : decode jdk_42_method_154_code 3 = .ok (.ifCond .eq 14, 3) := by decide +kernel
theorem d7_6 : decode jdk_42_method_154_code 6 = .ok (.aload_n 0, 1) := by decide +kernel
theorem d7_7 : decode jdk_42_method_154_code 7 = .ok (.getfield 15, 3) := by decide +kernel
theorem d7_10 : decode jdk_42_method_154_code 10 = .ok (.ifCond .ne 7, 3) := by decide +kernel
theorem d7_13 : decode jdk_42_method_154_code 13 = .ok (.iconst 1, 1) := by decide +kernel
theorem d7_14 : decode jdk_42_method_154_code 14 = .ok (.goto 4, 3) := by decide +kernel
theorem d7_18 : decode jdk_42_method_154_code 18 = .ok (.ireturn, 1) := by decide +kernel
theorem own_isL1 (l : Launch) (Z : State) (a0 : Array Value) (hw : ∀ d ∈ tables_1, d.before a0 Z = true) (y : Addr) (h0 : Heap) (n0 : Nat) (Z0 : n0 ≤ h0.size) (F0 : Fld Z h0 y "java/lang/String" "coder" "B" (.int 0)) (F1 : Old Z n0 h0) (G : Cmp Z) :
    Jvm.Y9.Con l Z (⟨"java/lang/String", "isLatin1", "()Z"⟩ : MethodName) jdk_42_method_154_code 1 (some .boolean) ({ frames := 0, cells := 0, slots := 0, locals := 0 } : Room) n0 #[(.ref y)] h0 (fun v h => v = some (.int 1) ∧ h0 = h) := by
  refine Jvm.Y9.Con.intro (plainFor_of_name pn_java_lang_String) ?_
  intro p e s m below meth c s₁ hx hby hml hret hnm hown hlk hZ P0
  refine Jvm.Y9.Aim.cast (by first | (simp [entryFrame, mkF, argsToLocals, Value.category]; done) | rfl : entryFrame m #[(.ref y)] 1 = (mkF m 0 #[.val (.ref y)] [])) ?_
  obtain ⟨zc, hzc, Szc⟩ := id G
  refine Jvm.Y9.Aim.getS P0 hx hZ hown (wI hw 73 rfl) Via.refl (Szc.ext F1.2) (hb hby d7_0) ?_
  intro T398 P399
  have H := P399.here
  refine Jvm.Y9.Aim.of (T' := T398) (g' := (mkF m 7 #[.val (.ref y)] [(.ref y)])) (fun tgt kt => ?_) ?_
  · refine XS.ifNo H hx rfl (hb hby d7_3) rfl ((if0 _ _).trans (feq hzc).1) ?_
    refine XS.aloadN H hx rfl (hb hby d7_6) rfl rfl ?_
    exact kt
  refine Jvm.Y9.Aim.getF P399 hx hZ hown (host := "") (Or.inl (wI hw 28 rfl)) Via.refl F0 (hb hby d7_7) ?_
  intro T400 P401
  have H := P401.here
  refine Jvm.Y9.Aim.of (T' := T400) (g' := (mkF m 18 #[.val (.ref y)] [(.int 1)])) (fun tgt kt => ?_) ?_
  · refine XS.ifNo H hx rfl (hb hby d7_10) rfl ((if0 _ _).trans (teq (by decide)).2) ?_
    refine XS.iconst H hx rfl (hb hby d7_13) ?_
    refine XS.goto H hx rfl (pc0 := 14) (pc' := 18) rfl (hb hby d7_14) (by decide) (by decide) ?_
    exact kt
  exact Jvm.Y9.Aim.retN (t := .boolean) P401 hx hlk hret (by simp) (hb hby d7_18) (by decide) (by decide) ⟨rfl, rfl⟩
theorem d9_0 : decode jdk_42_method_78_code 0 = .ok (.aload_n 0, 1) := by decide +kernel
theorem d9_1 : decode jdk_42_method_78_code 1 = .ok (.getfield 19, 3) := by decide +kernel
theorem d9_4 : decode jdk_42_method_78_code 4 = .ok (.istore_n 1, 1) := by decide +kernel
theorem d9_5 : decode jdk_42_method_78_code 5 = .ok (.iload_n 1, 1) := by decide +kernel
theorem d9_6 : decode jdk_42_method_78_code 6 = .ok (.ifCond .ne 52, 3) := by decide +kernel
theorem d9_9 : decode jdk_42_method_78_code 9 = .ok (.aload_n 0, 1) := by decide +kernel
theorem d9_10 : decode jdk_42_method_78_code 10 = .ok (.getfield 23, 3) := by decide +kernel
theorem d9_13 : decode jdk_42_method_78_code 13 = .ok (.ifCond .ne 45, 3) := by decide +kernel
theorem d9_16 : decode jdk_42_method_78_code 16 = .ok (.aload_n 0, 1) := by decide +kernel
theorem d9_17 : decode jdk_42_method_78_code 17 = .ok (.invokevirtual 492, 3) := by decide +kernel
theorem pd__28_29Z : parseMethodDescriptor "()Z" = some ⟨[], some .boolean⟩ := by decide +kernel
theorem d9_20 : decode jdk_42_method_78_code 20 = .ok (.ifCond .eq 13, 3) := by decide +kernel
theorem d9_23 : decode jdk_42_method_78_code 23 = .ok (.aload_n 0, 1) := by decide +kernel
theorem d9_24 : decode jdk_42_method_78_code 24 = .ok (.getfield 9, 3) := by decide +kernel
theorem d9_27 : decode jdk_42_method_78_code 27 = .ok (.invokestatic 628, 3) := by decide +kernel
theorem pd__28_5bB_29I : parseMethodDescriptor "([B)I" = some ⟨[(.array .byte)], some .int⟩ := by decide +kernel
theorem d9_30 : decode jdk_42_method_78_code 30 = .ok (.goto 10, 3) := by decide +kernel
theorem d9_40 : decode jdk_42_method_78_code 40 = .ok (.istore_n 1, 1) := by decide +kernel
theorem d9_41 : decode jdk_42_method_78_code 41 = .ok (.iload_n 1, 1) := by decide +kernel
theorem d9_42 : decode jdk_42_method_78_code 42 = .ok (.ifCond .ne 11, 3) := by decide +kernel
theorem d9_45 : decode jdk_42_method_78_code 45 = .ok (.aload_n 0, 1) := by decide +kernel
theorem d9_46 : decode jdk_42_method_78_code 46 = .ok (.iconst 1, 1) := by decide +kernel
theorem d9_47 : decode jdk_42_method_78_code 47 = .ok (.putfield 23, 3) := by decide +kernel
theorem d9_50 : decode jdk_42_method_78_code 50 = .ok (.goto 8, 3) := by decide +kernel
theorem d9_58 : decode jdk_42_method_78_code 58 = .ok (.iload_n 1, 1) := by decide +kernel
theorem d9_59 : decode jdk_42_method_78_code 59 = .ok (.ireturn, 1) := by decide +kernel
theorem d9_53 : decode jdk_42_method_78_code 53 = .ok (.aload_n 0, 1) := by decide +kernel
theorem d9_54 : decode jdk_42_method_78_code 54 = .ok (.iload_n 1, 1) := by decide +kernel
theorem d9_55 : decode jdk_42_method_78_code 55 = .ok (.putfield 19, 3) := by decide +kernel
theorem own_shc (l : Launch) (Z : State) (a0 : Array Value) (hw : ∀ d ∈ tables_1, d.before a0 Z = true) (x : Addr) (t : Addr) (kb : ClassId) (cs : List Int32) (h0 : Heap) (n0 : Nat) (Z0 : n0 ≤ h0.size) (g_x : n0 ≤ x) (F0 : Str Z h0 x t kb cs) (F1 : (2 ≤ cs.length → Exa Z h0 t "[B")) (F2 : Fld Z h0 x "java/lang/String" "hash" "I" (.int 0)) (F3 : Fld Z h0 x "java/lang/String" "hashIsZero" "Z" (.int 0)) (F4 : Old Z n0 h0) (h2_ : cs.length ≤ 2) (ntx : t ≠ x) (G : Cmp Z) :
    Jvm.Y9.Con l Z (⟨"java/lang/String", "hashCode", "()I"⟩ : MethodName) jdk_42_method_78_code 2 (some .int) ({ frames := 3, cells := 0, slots := 0, locals := 45 } : Room) n0 #[(.ref x)] h0 (fun v h => ∃ hv : Int32, v = some (.int hv) ∧ Keep h0 h [x] ∧ Str Z h x t kb cs) := by
  refine Jvm.Y9.Con.intro (plainFor_of_name pn_java_lang_String) ?_
  intro p e s m below meth c s₁ hx hby hml hret hnm hown hlk hZ P0
  refine Jvm.Y9.Aim.cast (by first | (simp [entryFrame, mkF, argsToLocals, Value.category]; done) | rfl : entryFrame m #[(.ref x)] 2 = (mkF m 0 #[.val (.ref x), .unset] [])) ?_
  have H := P0.here
  refine Jvm.Y9.Aim.of (T' := s₁) (g' := (mkF m 1 #[.val (.ref x), .unset] [(.ref x)])) (fun tgt kt => ?_) ?_
  · refine XS.aloadN H hx rfl (hb hby d9_0) rfl rfl ?_
    exact kt
  refine Jvm.Y9.Aim.getF P0 hx hZ hown (host := "") (Or.inl (wI hw 64 rfl)) Via.refl F2 (hb hby d9_1) ?_
  intro z0 z1
  have H := z1.here
  refine Jvm.Y9.Aim.of (T' := z0) (g' := (mkF m 10 #[.val (.ref x), .val (.int 0)] [(.ref x)])) (fun tgt kt => ?_) ?_
  · refine XS.istoreN H hx rfl (hb hby d9_4) rfl (l' := #[.val (.ref x), .val (.int 0)]) rfl ?_
    refine XS.iloadN H hx rfl (hb hby d9_5) rfl ?_
    refine XS.ifNo H hx rfl (hb hby d9_6) rfl ((if0 _ _).trans (teq (by decide)).2) ?_
    refine XS.aloadN H hx rfl (hb hby d9_9) rfl rfl ?_
    exact kt
  refine Jvm.Y9.Aim.getF z1 hx hZ hown (host := "") (Or.inl (wI hw 66 rfl)) Via.refl F3 (hb hby d9_10) ?_
  intro z2 z3
  have H := z3.here
  refine Jvm.Y9.Aim.of (T' := z2) (g' := (mkF m 17 #[.val (.ref x), .val (.int 0)] [(.ref x)])) (fun tgt kt => ?_) ?_
  · refine XS.ifNo H hx rfl (hb hby d9_13) rfl ((if0 _ _).trans (teq (by decide)).2) ?_
    refine XS.aloadN H hx rfl (hb hby d9_16) rfl rfl ?_
    exact kt
  refine Jvm.Y9.Aim.callV (argsL := []) (rest := []) (y := (⟨"java/lang/String", "isLatin1", "()Z"⟩ : MethodName)) (z := (⟨"java/lang/String", "isLatin1", "()Z"⟩ : MethodName)) z3 hx hZ hml hown (wI hw 68 rfl) (wI hw 69 rfl) (notFace_of_selects (args := #[]) (mvT hZ (wI hw 71 rfl))) (wI hw 71 rfl) (wI hw 70 rfl) (by decide) F0.1 (Jvm.Y9.Con.back (W := 0) (own_isL1 l Z a0 hw x h0 n0 Z0 F0.2.2.1 F4 G) hZ (wI hw 72 rfl) (wI hw 10 rfl) (by decide) (by decide)) rfl pd__28_29Z rfl (Nat.le_of_eq rfl) (hb hby d9_17) (by decide) (by decide) ?_
  intro z4 z5 z6 z7 z8
  obtain ⟨rfl, rfl⟩ := z8
  have H := z7.here
  refine Jvm.Y9.Aim.of (T' := z4) (g' := (mkF m 24 #[.val (.ref x), .val (.int 0)] [(.ref x)])) (fun tgt kt => ?_) ?_
  · refine XS.ifNo H hx rfl (hb hby d9_20) rfl ((if0 _ _).trans (feq (by decide)).1) ?_
    refine XS.aloadN H hx rfl (hb hby d9_23) rfl rfl ?_
    exact kt
  refine Jvm.Y9.Aim.getF z7 hx hZ hown (host := "") (Or.inl (wI hw 27 rfl)) Via.refl F0.2.1 (hb hby d9_24) ?_
  intro z9 za
  refine Jvm.Y9.Aim.callS (argsL := [(.ref t)]) (rest := []) za hx hZ hml hown (wI hw 74 rfl) (wI hw 75 rfl) (wI hw 76 rfl) (wI hw 77 rfl) (by decide) (Jvm.Y9.Con.back (W := 0) (own_lhc l Z a0 hw t kb cs h0 n0 Z0 F0.2.2.2.1 F1 h2_) hZ (wI hw 77 rfl) (wI hw 76 rfl) (by decide) (by decide)) rfl pd__28_5bB_29I rfl (Nat.le_of_eq rfl) (hb hby d9_27) (by decide) (by decide) ?_
  intro zb zc zd ze zf
  obtain ⟨hv_422, rfl, rfl⟩ := zf
  have H := ze.here
  refine Jvm.Y9.Aim.of (T' := zb) (g' := (mkF m 42 #[.val (.ref x), .val (.int hv_422)] [(.int hv_422)])) (fun tgt kt => ?_) ?_
  · refine XS.goto H hx rfl (pc0 := 30) (pc' := 40) rfl (hb hby d9_30) (by decide) (by decide) ?_
    refine XS.istoreN H hx rfl (hb hby d9_40) rfl (l' := #[.val (.ref x), .val (.int hv_422)]) rfl ?_
    refine XS.iloadN H hx rfl (hb hby d9_41) rfl ?_
    exact kt
  by_cases zg : hv_422 = (0 : Int32)
  · skip
    have H := ze.here
    refine Jvm.Y9.Aim.of (T' := zb) (g' := (mkF m 47 #[.val (.ref x), .val (.int hv_422)] [(.int 1), (.ref x)])) (fun tgt kt => ?_) ?_
    · refine XS.ifNo H hx rfl (hb hby d9_42) rfl ((if0 _ _).trans (teq zg).2) ?_
      refine XS.aloadN H hx rfl (hb hby d9_45) rfl rfl ?_
      refine XS.iconst H hx rfl (hb hby d9_46) ?_
      exact kt
    refine Jvm.Y9.Aim.putF (v := (.int 1)) ze hx hZ hown (host := "") (Or.inl (wI hw 66 rfl)) Via.refl F3 F0.1 (Or.inl (wI hw 67 rfl)) (wI hw 9 rfl) (ty := .boolean) (by decide) rfl rfl (hb hby d9_47) g_x ?_
    intro zh zi zj zk
    have zl := Keep.of_wr zk
    have zm : Fld Z zi x "java/lang/String" "hashIsZero" "Z" (.int 1) := F3.same zk
    have zn : Keep h0 zi [x] := (Keep.refl h0 [x]).trans zl (allS (Or.inl (List.mem_of_getElem? (i := 0) rfl)) all0)
    have H := zj.here
    refine Jvm.Y9.Aim.of (T' := zh) (g' := (mkF m 59 #[.val (.ref x), .val (.int hv_422)] [(.int hv_422)])) (fun tgt kt => ?_) ?_
    · refine XS.goto H hx rfl (pc0 := 50) (pc' := 58) rfl (hb hby d9_50) (by decide) (by decide) ?_
      refine XS.iloadN H hx rfl (hb hby d9_58) rfl ?_
      exact kt
    have zo : Exa Z zi x "java/lang/String" := (F0.1.keep zl)
    have zp : Fld Z zi x "java/lang/String" "value" "[B" (.ref t) := (F0.2.1.other zk (Or.inr (slot_ne (Or.inr (wI hw 23 rfl)) (Or.inl (wI hw 67 rfl)) (by decide) (t := (.array .byte)) (t' := .boolean) (by decide) (by decide))))
    have zq : Fld Z zi x "java/lang/String" "coder" "B" (.int 0) := (F0.2.2.1.other zk (Or.inr (slot_ne (Or.inr (wI hw 24 rfl)) (Or.inl (wI hw 67 rfl)) (by decide) (t := .byte) (t' := .boolean) (by decide) (by decide))))
    have zr : Arv Z zi t kb .byte (Int32.ofNat cs.length) (cs.map fun c => Value.int (c.toInt8.toInt32)) (.int 0) := (F0.2.2.2.1.keep zl (ninS ntx nin0))
    exact Jvm.Y9.Aim.retI zj hx hlk hret (hb hby d9_59) (by decide) (by decide) ⟨hv_422, rfl, zn, ⟨zo, zp, zq, zr, F0.2.2.2.2⟩⟩
  · skip
    have H := ze.here
    refine Jvm.Y9.Aim.of (T' := zb) (g' := (mkF m 55 #[.val (.ref x), .val (.int hv_422)] [(.int hv_422), (.ref x)])) (fun tgt kt => ?_) ?_
    · refine XS.ifYes H hx rfl (pc0 := 42) (pc' := 53) rfl (hb hby d9_42) rfl ((if0 _ _).trans (feq zg).2) (by decide) (by decide) ?_
      refine XS.aloadN H hx rfl (hb hby d9_53) rfl rfl ?_
      refine XS.iloadN H hx rfl (hb hby d9_54) rfl ?_
      exact kt
    refine Jvm.Y9.Aim.putF (v := (.int hv_422)) ze hx hZ hown (host := "") (Or.inl (wI hw 64 rfl)) Via.refl F2 F0.1 (Or.inl (wI hw 65 rfl)) (wI hw 9 rfl) (ty := .int) (by decide) rfl rfl (hb hby d9_55) g_x ?_
    intro zs zt zu zv
    have zw := Keep.of_wr zv
    have zx : Fld Z zt x "java/lang/String" "hash" "I" (.int hv_422) := F2.same zv
    have zy : Keep h0 zt [x] := (Keep.refl h0 [x]).trans zw (allS (Or.inl (List.mem_of_getElem? (i := 0) rfl)) all0)
    have H := zu.here
    refine Jvm.Y9.Aim.of (T' := zs) (g' := (mkF m 59 #[.val (.ref x), .val (.int hv_422)] [(.int hv_422)])) (fun tgt kt => ?_) ?_
    · refine XS.iloadN H hx rfl (hb hby d9_58) rfl ?_
      exact kt
    have zz : Exa Z zt x "java/lang/String" := (F0.1.keep zw)
    have z10 : Fld Z zt x "java/lang/String" "value" "[B" (.ref t) := (F0.2.1.other zv (Or.inr (slot_ne (Or.inr (wI hw 23 rfl)) (Or.inl (wI hw 65 rfl)) (by decide) (t := (.array .byte)) (t' := .int) (by decide) (by decide))))
    have z11 : Fld Z zt x "java/lang/String" "coder" "B" (.int 0) := (F0.2.2.1.other zv (Or.inr (slot_ne (Or.inr (wI hw 24 rfl)) (Or.inl (wI hw 65 rfl)) (by decide) (t := .byte) (t' := .int) (by decide) (by decide))))
    have z12 : Arv Z zt t kb .byte (Int32.ofNat cs.length) (cs.map fun c => Value.int (c.toInt8.toInt32)) (.int 0) := (F0.2.2.2.1.keep zw (ninS ntx nin0))
    exact Jvm.Y9.Aim.retI zu hx hlk hret (hb hby d9_59) (by decide) (by decide) ⟨hv_422, rfl, zy, ⟨zz, z10, z11, z12, F0.2.2.2.2⟩⟩
theorem dg_0 : decode jdk_65_method_157_code 0 = .ok (.aload_n 0, 1) := by decide +kernel
theorem dg_1 : decode jdk_65_method_157_code 1 = .ok (.ifnonnull 5, 3) := by decide +kernel
theorem dg_6 : decode jdk_65_method_157_code 6 = .ok (.iconst 1, 1) := by decide +kernel
theorem dg_7 : decode jdk_65_method_157_code 7 = .ok (.istore_n 1, 1) := by decide +kernel
theorem dg_8 : decode jdk_65_method_157_code 8 = .ok (.aload_n 0, 1) := by decide +kernel
theorem dg_9 : decode jdk_65_method_157_code 9 = .ok (.astore_n 2, 1) := by decide +kernel
theorem dg_10 : decode jdk_65_method_157_code 10 = .ok (.aload_n 2, 1) := by decide +kernel
theorem dg_11 : decode jdk_65_method_157_code 11 = .ok (.arraylength, 1) := by decide +kernel
theorem dg_12 : decode jdk_65_method_157_code 12 = .ok (.istore_n 3, 1) := by decide +kernel
theorem dg_13 : decode jdk_65_method_157_code 13 = .ok (.iconst 0, 1) := by decide +kernel
theorem dg_14 : decode jdk_65_method_157_code 14 = .ok (.istore 4, 2) := by decide +kernel
theorem dg_16 : decode jdk_65_method_157_code 16 = .ok (.iload 4, 2) := by decide +kernel
theorem dg_18 : decode jdk_65_method_157_code 18 = .ok (.iload_n 3, 1) := by decide +kernel
theorem dg_19 : decode jdk_65_method_157_code 19 = .ok (.if_icmp .ge 35, 3) := by decide +kernel
theorem dg_22 : decode jdk_65_method_157_code 22 = .ok (.aload_n 2, 1) := by decide +kernel
theorem dg_23 : decode jdk_65_method_157_code 23 = .ok (.iload 4, 2) := by decide +kernel
theorem dg_25 : decode jdk_65_method_157_code 25 = .ok (.aaload, 1) := by decide +kernel
theorem dg_26 : decode jdk_65_method_157_code 26 = .ok (.astore 5, 2) := by decide +kernel
theorem dg_28 : decode jdk_65_method_157_code 28 = .ok (.bipush 31, 2) := by decide +kernel
theorem dg_30 : decode jdk_65_method_157_code 30 = .ok (.iload_n 1, 1) := by decide +kernel
theorem dg_31 : decode jdk_65_method_157_code 31 = .ok (.imul, 1) := by decide +kernel
theorem dg_32 : decode jdk_65_method_157_code 32 = .ok (.aload 5, 2) := by decide +kernel
theorem dg_34 : decode jdk_65_method_157_code 34 = .ok (.ifnonnull 7, 3) := by decide +kernel
theorem dg_41 : decode jdk_65_method_157_code 41 = .ok (.aload 5, 2) := by decide +kernel
theorem dg_43 : decode jdk_65_method_157_code 43 = .ok (.invokevirtual 383, 3) := by decide +kernel
theorem pd__28_29I : parseMethodDescriptor "()I" = some ⟨[], some .int⟩ := by decide +kernel
theorem dg_46 : decode jdk_65_method_157_code 46 = .ok (.iadd, 1) := by decide +kernel
theorem dg_47 : decode jdk_65_method_157_code 47 = .ok (.istore_n 1, 1) := by decide +kernel
theorem dg_48 : decode jdk_65_method_157_code 48 = .ok (.iinc 4 1, 3) := by decide +kernel
theorem dg_51 : decode jdk_65_method_157_code 51 = .ok (.goto (-35), 3) := by decide +kernel
theorem dg_54 : decode jdk_65_method_157_code 54 = .ok (.iload_n 1, 1) := by decide +kernel
theorem dg_55 : decode jdk_65_method_157_code 55 = .ok (.ireturn, 1) := by decide +kernel
theorem pn_java_util_Arrays : plainName "java/util/Arrays" = true := by first | (simp [plainName, overriddenIn]; done) | decide +kernel
theorem own_ahc (l : Launch) (Z : State) (a0 : Array Value) (hw : ∀ d ∈ tables_1, d.before a0 Z = true) (r : Addr) (kr : ClassId) (b : Addr) (i : Int32) (x : Addr) (tx : Addr) (kx : ClassId) (xs : List Int32) (z : Addr) (tz : Addr) (kz : ClassId) (zs : List Int32) (h0 : Heap) (n0 : Nat) (Z0 : n0 ≤ h0.size) (g_x : n0 ≤ x) (g_z : n0 ≤ z) (F0 : Arv Z h0 r kr (.object "java/lang/Object") (3 : Int32) [(.ref x), (.ref b), (.ref z)] (.null)) (F1 : Exa Z h0 b "java/lang/Integer") (F2 : Fld Z h0 b "java/lang/Integer" "value" "I" (.int i)) (F3 : Str Z h0 x tx kx xs) (F4 : (2 ≤ xs.length → Exa Z h0 tx "[B")) (F5 : Fld Z h0 x "java/lang/String" "hash" "I" (.int 0)) (F6 : Fld Z h0 x "java/lang/String" "hashIsZero" "Z" (.int 0)) (F7 : Str Z h0 z tz kz zs) (F8 : (2 ≤ zs.length → Exa Z h0 tz "[B")) (F9 : Fld Z h0 z "java/lang/String" "hash" "I" (.int 0)) (F10 : Fld Z h0 z "java/lang/String" "hashIsZero" "Z" (.int 0)) (F11 : Old Z n0 h0) (nx_z : x ≠ z) (ntx_x : tx ≠ x) (ntx_z : tx ≠ z) (ntz_x : tz ≠ x) (ntz_z : tz ≠ z) (hxl : xs.length ≤ 2) (hzl : zs.length ≤ 2) (nr_x : r ≠ x) (nr_z : r ≠ z) (G : Cmp Z) :
    Jvm.Y9.Con l Z (⟨"java/util/Arrays", "hashCode", "([Ljava/lang/Object;)I"⟩ : MethodName) jdk_65_method_157_code 6 (some .int) ({ frames := 4, cells := 0, slots := 0, locals := 59 } : Room) n0 #[(.ref r)] h0 (fun v h => ∃ hv : Int32, v = some (.int hv) ∧ Keep h0 h [x, z] ∧ Str Z h x tx kx xs ∧ Str Z h z tz kz zs) := by
  refine Jvm.Y9.Con.intro (plainFor_of_name pn_java_util_Arrays) ?_
  intro p e s m below meth c s₁ hx hby hml hret hnm hown hlk hZ P0
  refine Jvm.Y9.Aim.cast (by first | (simp [entryFrame, mkF, argsToLocals, Value.category]; done) | rfl : entryFrame m #[(.ref r)] 6 = (mkF m 0 #[.val (.ref r), .unset, .unset, .unset, .unset, .unset] [])) ?_
  have H := P0.here
  refine Jvm.Y9.Aim.of (T' := s₁) (g' := (mkF m 11 #[.val (.ref r), .val (.int 1), .val (.ref r), .unset, .unset, .unset] [(.ref r)])) (fun tgt kt => ?_) ?_
  · refine XS.aloadN H hx rfl (hb hby dg_0) rfl rfl ?_
    refine XS.ifnonnullYes H hx rfl (pc0 := 1) (pc' := 6) rfl (hb hby dg_1) rfl (by decide) (by decide) ?_
    refine XS.iconst H hx rfl (hb hby dg_6) ?_
    refine XS.istoreN H hx rfl (hb hby dg_7) rfl (l' := #[.val (.ref r), .val (.int 1), .unset, .unset, .unset, .unset]) rfl ?_
    refine XS.aloadN H hx rfl (hb hby dg_8) rfl rfl ?_
    refine XS.astoreN H hx rfl (hb hby dg_9) rfl rfl (l' := #[.val (.ref r), .val (.int 1), .val (.ref r), .unset, .unset, .unset]) rfl ?_
    refine XS.aloadN H hx rfl (hb hby dg_10) rfl rfl ?_
    exact kt
  refine Jvm.Y9.Aim.alen P0 hx hZ F0 (hb hby dg_11) ?_
  have H := P0.here
  refine Jvm.Y9.Aim.of (T' := s₁) (g' := (mkF m 25 #[.val (.ref r), .val (.int 1), .val (.ref r), .val (.int 3), .val (.int 0), .unset] [(.int 0), (.ref r)])) (fun tgt kt => ?_) ?_
  · refine XS.istoreN H hx rfl (hb hby dg_12) rfl (l' := #[.val (.ref r), .val (.int 1), .val (.ref r), .val (.int 3), .unset, .unset]) rfl ?_
    refine XS.iconst H hx rfl (hb hby dg_13) ?_
    refine XS.istore H hx rfl (hb hby dg_14) rfl (l' := #[.val (.ref r), .val (.int 1), .val (.ref r), .val (.int 3), .val (.int 0), .unset]) rfl ?_
    refine XS.iload H hx rfl (hb hby dg_16) rfl ?_
    refine XS.iloadN H hx rfl (hb hby dg_18) rfl ?_
    refine XS.icmpNo H hx rfl (hb hby dg_19) rfl (tlt (by decide)).2.1 ?_
    refine XS.aloadN H hx rfl (hb hby dg_22) rfl rfl ?_
    refine XS.iload H hx rfl (hb hby dg_23) rfl ?_
    exact kt
  refine Jvm.Y9.Aim.ldR (j := (0 : Int32)) (v := (.ref x)) P0 hx hZ F0 rfl ⟨by decide, by decide⟩ rfl (hb hby dg_25) ?_
  have H := P0.here
  refine Jvm.Y9.Aim.of (T' := s₁) (g' := (mkF m 43 #[.val (.ref r), .val (.int 1), .val (.ref r), .val (.int 3), .val (.int 0), .val (.ref x)] [(.ref x), (.int ((31 : Int32) * (1 : Int32)))])) (fun tgt kt => ?_) ?_
  · refine XS.astore H hx rfl (hb hby dg_26) rfl rfl (l' := #[.val (.ref r), .val (.int 1), .val (.ref r), .val (.int 3), .val (.int 0), .val (.ref x)]) rfl ?_
    refine XS.bipush H hx rfl (hb hby dg_28) ?_
    refine XS.iloadN H hx rfl (hb hby dg_30) rfl ?_
    refine XS.imul H hx rfl (hb hby dg_31) rfl ?_
    refine XS.aload H hx rfl (hb hby dg_32) rfl rfl ?_
    refine XS.ifnonnullYes H hx rfl (pc0 := 34) (pc' := 41) rfl (hb hby dg_34) rfl (by decide) (by decide) ?_
    refine XS.aload H hx rfl (hb hby dg_41) rfl rfl ?_
    exact kt
  refine Jvm.Y9.Aim.callV (argsL := []) (rest := [(.int ((31 : Int32) * (1 : Int32)))]) (y := (⟨"java/lang/Object", "hashCode", "()I"⟩ : MethodName)) (z := (⟨"java/lang/String", "hashCode", "()I"⟩ : MethodName)) P0 hx hZ hml hown (wI hw 58 rfl) (wI hw 59 rfl) (nf_top (args := #[]) (mvT hZ (wI hw 140 rfl))) (wI hw 61 rfl) (wI hw 62 rfl) (by decide) F3.1 (Jvm.Y9.Con.back (W := 1) (own_shc l Z a0 hw x tx kx xs h0 n0 Z0 g_x F3 F4 F5 F6 F11 hxl ntx_x G) hZ (wI hw 63 rfl) (wI hw 10 rfl) (by decide) (by decide)) rfl pd__28_29I rfl (Nat.le_of_eq rfl) (hb hby dg_43) (by decide) (by decide) ?_
  intro z0 z1 z2 z3 z4
  obtain ⟨hv_453, rfl, z5, z6⟩ := z4
  have z7 : Keep h0 z1 [x, z] := (Keep.refl h0 [x, z]).trans z5 (allS (Or.inl (List.mem_of_getElem? (i := 0) rfl)) all0)
  have H := z3.here
  refine Jvm.Y9.Aim.of (T' := z0) (g' := (mkF m 25 #[.val (.ref r), .val (.int (((31 : Int32) * (1 : Int32)) + hv_453)), .val (.ref r), .val (.int 3), .val (.int 1), .val (.ref x)] [(.int 1), (.ref r)])) (fun tgt kt => ?_) ?_
  · refine XS.iadd H hx rfl (hb hby dg_46) rfl ?_
    refine XS.istoreN H hx rfl (hb hby dg_47) rfl (l' := #[.val (.ref r), .val (.int (((31 : Int32) * (1 : Int32)) + hv_453)), .val (.ref r), .val (.int 3), .val (.int 0), .val (.ref x)]) rfl ?_
    refine XS.iinc H hx rfl (hb hby dg_48) rfl (l' := #[.val (.ref r), .val (.int (((31 : Int32) * (1 : Int32)) + hv_453)), .val (.ref r), .val (.int 3), .val (.int 1), .val (.ref x)]) rfl ?_
    refine XS.goto H hx rfl (pc0 := 51) (pc' := 16) rfl (hb hby dg_51) (by decide) (by decide) ?_
    refine XS.iload H hx rfl (hb hby dg_16) rfl ?_
    refine XS.iloadN H hx rfl (hb hby dg_18) rfl ?_
    refine XS.icmpNo H hx rfl (hb hby dg_19) rfl (tlt (by decide)).2.1 ?_
    refine XS.aloadN H hx rfl (hb hby dg_22) rfl rfl ?_
    refine XS.iload H hx rfl (hb hby dg_23) rfl ?_
    exact kt
  have z8 : Arv Z z1 r kr (.object "java/lang/Object") (3 : Int32) [(.ref x), (.ref b), (.ref z)] (.null) := (F0.keep z5 (ninS nr_x nin0))
  refine Jvm.Y9.Aim.ldR (j := (1 : Int32)) (v := (.ref b)) z3 hx hZ z8 rfl ⟨by decide, by decide⟩ rfl (hb hby dg_25) ?_
  have H := z3.here
  refine Jvm.Y9.Aim.of (T' := z0) (g' := (mkF m 43 #[.val (.ref r), .val (.int (((31 : Int32) * (1 : Int32)) + hv_453)), .val (.ref r), .val (.int 3), .val (.int 1), .val (.ref b)] [(.ref b), (.int ((31 : Int32) * (((31 : Int32) * (1 : Int32)) + hv_453)))])) (fun tgt kt => ?_) ?_
  · refine XS.astore H hx rfl (hb hby dg_26) rfl rfl (l' := #[.val (.ref r), .val (.int (((31 : Int32) * (1 : Int32)) + hv_453)), .val (.ref r), .val (.int 3), .val (.int 1), .val (.ref b)]) rfl ?_
    refine XS.bipush H hx rfl (hb hby dg_28) ?_
    refine XS.iloadN H hx rfl (hb hby dg_30) rfl ?_
    refine XS.imul H hx rfl (hb hby dg_31) rfl ?_
    refine XS.aload H hx rfl (hb hby dg_32) rfl rfl ?_
    refine XS.ifnonnullYes H hx rfl (pc0 := 34) (pc' := 41) rfl (hb hby dg_34) rfl (by decide) (by decide) ?_
    refine XS.aload H hx rfl (hb hby dg_41) rfl rfl ?_
    exact kt
  have z9 : Exa Z z1 b "java/lang/Integer" := (F1.keep z5)
  have za : Exa Z z1 x "java/lang/String" := (F3.1.keep z5)
  have zb : Fld Z z1 b "java/lang/Integer" "value" "I" (.int i) := (F2.keep z5 (ninS (ne_exa z9 za (by decide)) nin0))
  refine Jvm.Y9.Aim.callV (argsL := []) (rest := [(.int ((31 : Int32) * (((31 : Int32) * (1 : Int32)) + hv_453)))]) (y := (⟨"java/lang/Object", "hashCode", "()I"⟩ : MethodName)) (z := (⟨"java/lang/Integer", "hashCode", "()I"⟩ : MethodName)) z3 hx hZ hml hown (wI hw 58 rfl) (wI hw 59 rfl) (nf_top (args := #[]) (mvT hZ (wI hw 140 rfl))) (wI hw 78 rfl) (wI hw 79 rfl) (by decide) z9 (Jvm.Y9.Con.back (W := 1) (own_ihc l Z a0 hw b i z1 n0 (lT Z0 (z7.1)) zb) hZ (wI hw 80 rfl) (wI hw 44 rfl) (by decide) (by decide)) rfl pd__28_29I rfl (Nat.le_of_eq rfl) (hb hby dg_43) (by decide) (by decide) ?_
  intro zc zd ze zf zg
  obtain ⟨rfl, rfl⟩ := zg
  have H := zf.here
  refine Jvm.Y9.Aim.of (T' := zc) (g' := (mkF m 25 #[.val (.ref r), .val (.int (((31 : Int32) * (((31 : Int32) * (1 : Int32)) + hv_453)) + i)), .val (.ref r), .val (.int 3), .val (.int 2), .val (.ref b)] [(.int 2), (.ref r)])) (fun tgt kt => ?_) ?_
  · refine XS.iadd H hx rfl (hb hby dg_46) rfl ?_
    refine XS.istoreN H hx rfl (hb hby dg_47) rfl (l' := #[.val (.ref r), .val (.int (((31 : Int32) * (((31 : Int32) * (1 : Int32)) + hv_453)) + i)), .val (.ref r), .val (.int 3), .val (.int 1), .val (.ref b)]) rfl ?_
    refine XS.iinc H hx rfl (hb hby dg_48) rfl (l' := #[.val (.ref r), .val (.int (((31 : Int32) * (((31 : Int32) * (1 : Int32)) + hv_453)) + i)), .val (.ref r), .val (.int 3), .val (.int 2), .val (.ref b)]) rfl ?_
    refine XS.goto H hx rfl (pc0 := 51) (pc' := 16) rfl (hb hby dg_51) (by decide) (by decide) ?_
    refine XS.iload H hx rfl (hb hby dg_16) rfl ?_
    refine XS.iloadN H hx rfl (hb hby dg_18) rfl ?_
    refine XS.icmpNo H hx rfl (hb hby dg_19) rfl (tlt (by decide)).2.1 ?_
    refine XS.aloadN H hx rfl (hb hby dg_22) rfl rfl ?_
    refine XS.iload H hx rfl (hb hby dg_23) rfl ?_
    exact kt
  refine Jvm.Y9.Aim.ldR (j := (2 : Int32)) (v := (.ref z)) zf hx hZ z8 rfl ⟨by decide, by decide⟩ rfl (hb hby dg_25) ?_
  have H := zf.here
  refine Jvm.Y9.Aim.of (T' := zc) (g' := (mkF m 43 #[.val (.ref r), .val (.int (((31 : Int32) * (((31 : Int32) * (1 : Int32)) + hv_453)) + i)), .val (.ref r), .val (.int 3), .val (.int 2), .val (.ref z)] [(.ref z), (.int ((31 : Int32) * (((31 : Int32) * (((31 : Int32) * (1 : Int32)) + hv_453)) + i)))])) (fun tgt kt => ?_) ?_
  · refine XS.astore H hx rfl (hb hby dg_26) rfl rfl (l' := #[.val (.ref r), .val (.int (((31 : Int32) * (((31 : Int32) * (1 : Int32)) + hv_453)) + i)), .val (.ref r), .val (.int 3), .val (.int 2), .val (.ref z)]) rfl ?_
    refine XS.bipush H hx rfl (hb hby dg_28) ?_
    refine XS.iloadN H hx rfl (hb hby dg_30) rfl ?_
    refine XS.imul H hx rfl (hb hby dg_31) rfl ?_
    refine XS.aload H hx rfl (hb hby dg_32) rfl rfl ?_
    refine XS.ifnonnullYes H hx rfl (pc0 := 34) (pc' := 41) rfl (hb hby dg_34) rfl (by decide) (by decide) ?_
    refine XS.aload H hx rfl (hb hby dg_41) rfl rfl ?_
    exact kt
  have zh : Exa Z z1 z "java/lang/String" := (F7.1.keep z5)
  have zi : Str Z z1 z tz kz zs := (F7.keep z5 (ninS (Ne.symm nx_z) nin0) (ninS ntz_x nin0))
  have zj : (2 ≤ zs.length → Exa Z z1 tz "[B") := (fun q => (F8 q).keep z5)
  have zk : Fld Z z1 z "java/lang/String" "hash" "I" (.int 0) := (F9.keep z5 (ninS (Ne.symm nx_z) nin0))
  have zl : Fld Z z1 z "java/lang/String" "hashIsZero" "Z" (.int 0) := (F10.keep z5 (ninS (Ne.symm nx_z) nin0))
  have zm : Old Z n0 z1 := (F11.keep z5 (allS g_x all0))
  refine Jvm.Y9.Aim.callV (argsL := []) (rest := [(.int ((31 : Int32) * (((31 : Int32) * (((31 : Int32) * (1 : Int32)) + hv_453)) + i)))]) (y := (⟨"java/lang/Object", "hashCode", "()I"⟩ : MethodName)) (z := (⟨"java/lang/String", "hashCode", "()I"⟩ : MethodName)) zf hx hZ hml hown (wI hw 58 rfl) (wI hw 59 rfl) (nf_top (args := #[]) (mvT hZ (wI hw 140 rfl))) (wI hw 61 rfl) (wI hw 62 rfl) (by decide) zh (Jvm.Y9.Con.back (W := 1) (own_shc l Z a0 hw z tz kz zs z1 n0 (lT Z0 (z7.1)) g_z zi zj zk zl zm hzl ntz_z G) hZ (wI hw 63 rfl) (wI hw 10 rfl) (by decide) (by decide)) rfl pd__28_29I rfl (Nat.le_of_eq rfl) (hb hby dg_43) (by decide) (by decide) ?_
  intro zn zo zp zq zr
  obtain ⟨hv_481, rfl, zt, zu⟩ := zr
  have zv : Keep h0 zo [x, z] := z7.trans zt (allS (Or.inl (List.mem_of_getElem? (i := 1) rfl)) all0)
  have H := zq.here
  refine Jvm.Y9.Aim.of (T' := zn) (g' := (mkF m 55 #[.val (.ref r), .val (.int (((31 : Int32) * (((31 : Int32) * (((31 : Int32) * (1 : Int32)) + hv_453)) + i)) + hv_481)), .val (.ref r), .val (.int 3), .val (.int 3), .val (.ref z)] [(.int (((31 : Int32) * (((31 : Int32) * (((31 : Int32) * (1 : Int32)) + hv_453)) + i)) + hv_481))])) (fun tgt kt => ?_) ?_
  · refine XS.iadd H hx rfl (hb hby dg_46) rfl ?_
    refine XS.istoreN H hx rfl (hb hby dg_47) rfl (l' := #[.val (.ref r), .val (.int (((31 : Int32) * (((31 : Int32) * (((31 : Int32) * (1 : Int32)) + hv_453)) + i)) + hv_481)), .val (.ref r), .val (.int 3), .val (.int 2), .val (.ref z)]) rfl ?_
    refine XS.iinc H hx rfl (hb hby dg_48) rfl (l' := #[.val (.ref r), .val (.int (((31 : Int32) * (((31 : Int32) * (((31 : Int32) * (1 : Int32)) + hv_453)) + i)) + hv_481)), .val (.ref r), .val (.int 3), .val (.int 3), .val (.ref z)]) rfl ?_
    refine XS.goto H hx rfl (pc0 := 51) (pc' := 16) rfl (hb hby dg_51) (by decide) (by decide) ?_
    refine XS.iload H hx rfl (hb hby dg_16) rfl ?_
    refine XS.iloadN H hx rfl (hb hby dg_18) rfl ?_
    refine XS.icmpYes H hx rfl (pc0 := 19) (pc' := 54) rfl (hb hby dg_19) rfl (flt (by decide)).2.1 (by decide) (by decide) ?_
    refine XS.iloadN H hx rfl (hb hby dg_54) rfl ?_
    exact kt
  have zw : Str Z zo x tx kx xs := (z6.keep zt (ninS nx_z nin0) (ninS ntx_z nin0))
  exact Jvm.Y9.Aim.retI zq hx hlk hret (hb hby dg_55) (by decide) (by decide) ⟨(((31 : Int32) * (((31 : Int32) * (((31 : Int32) * (1 : Int32)) + hv_453)) + i)) + hv_481), rfl, zv, zw, zu⟩
theorem d1_0 : decode jdk_31_method_5_code 0 = .ok (.aload_n 0, 1) := by decide +kernel
theorem d1_1 : decode jdk_31_method_5_code 1 = .ok (.invokestatic 28, 3) := by decide +kernel
theorem pd__28_5bLjava_2flang_2fObject_3b_29I : parseMethodDescriptor "([Ljava/lang/Object;)I" = some ⟨[(.array (.object "java/lang/Object"))], some .int⟩ := by decide +kernel
theorem d1_4 : decode jdk_31_method_5_code 4 = .ok (.ireturn, 1) := by decide +kernel
theorem pn_java_util_Objects : plainName "java/util/Objects" = true := by first | (simp [plainName, overriddenIn]; done) | decide +kernel
theorem own_ohs (l : Launch) (Z : State) (a0 : Array Value) (hw : ∀ d ∈ tables_1, d.before a0 Z = true) (r : Addr) (kr : ClassId) (b : Addr) (i : Int32) (x : Addr) (tx : Addr) (kx : ClassId) (xs : List Int32) (z : Addr) (tz : Addr) (kz : ClassId) (zs : List Int32) (h0 : Heap) (n0 : Nat) (Z0 : n0 ≤ h0.size) (g_x : n0 ≤ x) (g_z : n0 ≤ z) (F0 : Arv Z h0 r kr (.object "java/lang/Object") (3 : Int32) [(.ref x), (.ref b), (.ref z)] (.null)) (F1 : Exa Z h0 b "java/lang/Integer") (F2 : Fld Z h0 b "java/lang/Integer" "value" "I" (.int i)) (F3 : Str Z h0 x tx kx xs) (F4 : (2 ≤ xs.length → Exa Z h0 tx "[B")) (F5 : Fld Z h0 x "java/lang/String" "hash" "I" (.int 0)) (F6 : Fld Z h0 x "java/lang/String" "hashIsZero" "Z" (.int 0)) (F7 : Str Z h0 z tz kz zs) (F8 : (2 ≤ zs.length → Exa Z h0 tz "[B")) (F9 : Fld Z h0 z "java/lang/String" "hash" "I" (.int 0)) (F10 : Fld Z h0 z "java/lang/String" "hashIsZero" "Z" (.int 0)) (F11 : Old Z n0 h0) (nx_z : x ≠ z) (ntx_x : tx ≠ x) (ntx_z : tx ≠ z) (ntz_x : tz ≠ x) (ntz_z : tz ≠ z) (hxl : xs.length ≤ 2) (hzl : zs.length ≤ 2) (nr_x : r ≠ x) (nr_z : r ≠ z) (G : Cmp Z) :
    Jvm.Y9.Con l Z (⟨"java/util/Objects", "hash", "([Ljava/lang/Object;)I"⟩ : MethodName) jdk_31_method_5_code 1 (some .int) ({ frames := 5, cells := 0, slots := 0, locals := 76 } : Room) n0 #[(.ref r)] h0 (fun v h => ∃ hv : Int32, v = some (.int hv) ∧ Keep h0 h [x, z] ∧ Str Z h x tx kx xs ∧ Str Z h z tz kz zs) := by
  refine Jvm.Y9.Con.intro (plainFor_of_name pn_java_util_Objects) ?_
  intro p e s m below meth c s₁ hx hby hml hret hnm hown hlk hZ P0
  refine Jvm.Y9.Aim.cast (by first | (simp [entryFrame, mkF, argsToLocals, Value.category]; done) | rfl : entryFrame m #[(.ref r)] 1 = (mkF m 0 #[.val (.ref r)] [])) ?_
  have H := P0.here
  refine Jvm.Y9.Aim.of (T' := s₁) (g' := (mkF m 1 #[.val (.ref r)] [(.ref r)])) (fun tgt kt => ?_) ?_
  · refine XS.aloadN H hx rfl (hb hby d1_0) rfl rfl ?_
    exact kt
  refine Jvm.Y9.Aim.callS (argsL := [(.ref r)]) (rest := []) P0 hx hZ hml hown (wI hw 54 rfl) (wI hw 55 rfl) (wI hw 56 rfl) (wI hw 57 rfl) (by decide) (Jvm.Y9.Con.back (W := 0) (own_ahc l Z a0 hw r kr b i x tx kx xs z tz kz zs h0 n0 Z0 g_x g_z F0 F1 F2 F3 F4 F5 F6 F7 F8 F9 F10 F11 nx_z ntx_x ntx_z ntz_x ntz_z hxl hzl nr_x nr_z G) hZ (wI hw 57 rfl) (wI hw 56 rfl) (by decide) (by decide)) rfl pd__28_5bLjava_2flang_2fObject_3b_29I rfl (Nat.le_of_eq rfl) (hb hby d1_1) (by decide) (by decide) ?_
  intro z0 z1 z2 z3 z4
  obtain ⟨hv_493, rfl, z5, z6, z7⟩ := z4
  have z8 : Keep h0 z1 [x, z] := (Keep.refl h0 [x, z]).trans z5 (allS (Or.inl (List.mem_of_getElem? (i := 0) rfl)) (allS (Or.inl (List.mem_of_getElem? (i := 1) rfl)) all0))
  exact Jvm.Y9.Aim.retI z3 hx hlk hret (hb hby d1_4) (by decide) (by decide) ⟨hv_493, rfl, z8, z6, z7⟩
theorem dj_0 : decode prog_11_method_1_code 0 = .ok (.aload_n 0, 1) := by decide +kernel
theorem dj_1 : decode prog_11_method_1_code 1 = .ok (.invokespecial 1, 3) := by decide +kernel
theorem dj_4 : decode prog_11_method_1_code 4 = .ok (.aload_n 0, 1) := by decide +kernel
theorem dj_5 : decode prog_11_method_1_code 5 = .ok (.aload_n 1, 1) := by decide +kernel
theorem dj_6 : decode prog_11_method_1_code 6 = .ok (.putfield 7, 3) := by decide +kernel
theorem dj_9 : decode prog_11_method_1_code 9 = .ok (.aload_n 0, 1) := by decide +kernel
theorem dj_10 : decode prog_11_method_1_code 10 = .ok (.iload_n 2, 1) := by decide +kernel
theorem dj_11 : decode prog_11_method_1_code 11 = .ok (.putfield 13, 3) := by decide +kernel
theorem dj_14 : decode prog_11_method_1_code 14 = .ok (.aload_n 0, 1) := by decide +kernel
theorem dj_15 : decode prog_11_method_1_code 15 = .ok (.aload_n 3, 1) := by decide +kernel
theorem dj_16 : decode prog_11_method_1_code 16 = .ok (.putfield 17, 3) := by decide +kernel
theorem dj_19 : decode prog_11_method_1_code 19 = .ok (.aload_n 0, 1) := by decide +kernel
theorem dj_20 : decode prog_11_method_1_code 20 = .ok (.iconst 3, 1) := by decide +kernel
theorem dj_21 : decode prog_11_method_1_code 21 = .ok (.anewarray 2, 3) := by decide +kernel
theorem dj_24 : decode prog_11_method_1_code 24 = .ok (.dup, 1) := by decide +kernel
theorem dj_25 : decode prog_11_method_1_code 25 = .ok (.iconst 0, 1) := by decide +kernel
theorem dj_26 : decode prog_11_method_1_code 26 = .ok (.aload_n 1, 1) := by decide +kernel
theorem dj_27 : decode prog_11_method_1_code 27 = .ok (.aastore, 1) := by decide +kernel
theorem dj_28 : decode prog_11_method_1_code 28 = .ok (.dup, 1) := by decide +kernel
theorem dj_29 : decode prog_11_method_1_code 29 = .ok (.iconst 1, 1) := by decide +kernel
theorem dj_30 : decode prog_11_method_1_code 30 = .ok (.iload_n 2, 1) := by decide +kernel
theorem dj_31 : decode prog_11_method_1_code 31 = .ok (.invokestatic 20, 3) := by decide +kernel
theorem pd__28I_29Ljava_2flang_2fInteger_3b : parseMethodDescriptor "(I)Ljava/lang/Integer;" = some ⟨[.int], some (.object "java/lang/Integer")⟩ := by decide +kernel
theorem dj_34 : decode prog_11_method_1_code 34 = .ok (.aastore, 1) := by decide +kernel
theorem dj_35 : decode prog_11_method_1_code 35 = .ok (.dup, 1) := by decide +kernel
theorem dj_36 : decode prog_11_method_1_code 36 = .ok (.iconst 2, 1) := by decide +kernel
theorem dj_37 : decode prog_11_method_1_code 37 = .ok (.aload_n 3, 1) := by decide +kernel
theorem dj_38 : decode prog_11_method_1_code 38 = .ok (.aastore, 1) := by decide +kernel
theorem dj_39 : decode prog_11_method_1_code 39 = .ok (.invokestatic 26, 3) := by decide +kernel
theorem dj_42 : decode prog_11_method_1_code 42 = .ok (.putfield 32, 3) := by decide +kernel
theorem dj_45 : decode prog_11_method_1_code 45 = .ok (.return_, 1) := by decide +kernel
theorem pn_com_example_tophat_ledger_tophatledger_HoldingGroup : plainName "com/example/tophat_ledger/tophatledger/HoldingGroup" = true := by first | (simp [plainName, overriddenIn]; done) | decide +kernel
theorem own_hg (l : Launch) (Z : State) (a0 : Array Value) (hw : ∀ d ∈ tables_1, d.before a0 Z = true) (a : Addr) (y : Int32) (u1 : Value) (u2 : Value) (u3 : Value) (u4 : Value) (x : Addr) (tx : Addr) (kx : ClassId) (xs : List Int32) (z : Addr) (tz : Addr) (kz : ClassId) (zs : List Int32) (h0 : Heap) (n0 : Nat) (Z0 : n0 ≤ h0.size) (g_a : n0 ≤ a) (g_x : n0 ≤ x) (g_z : n0 ≤ z) (F0 : Exa Z h0 a "com/example/tophat_ledger/tophatledger/HoldingGroup") (F1 : Fld Z h0 a "com/example/tophat_ledger/tophatledger/HoldingGroup" "participant" "Ljava/lang/String;" u1) (F2 : Fld Z h0 a "com/example/tophat_ledger/tophatledger/HoldingGroup" "year" "I" u2) (F3 : Fld Z h0 a "com/example/tophat_ledger/tophatledger/HoldingGroup" "source" "Ljava/lang/String;" u3) (F4 : Fld Z h0 a "com/example/tophat_ledger/tophatledger/HoldingGroup" "hash" "I" u4) (F5 : Str Z h0 x tx kx xs) (F6 : (2 ≤ xs.length → Exa Z h0 tx "[B")) (F7 : Fld Z h0 x "java/lang/String" "hash" "I" (.int 0)) (F8 : Fld Z h0 x "java/lang/String" "hashIsZero" "Z" (.int 0)) (F9 : Str Z h0 z tz kz zs) (F10 : (2 ≤ zs.length → Exa Z h0 tz "[B")) (F11 : Fld Z h0 z "java/lang/String" "hash" "I" (.int 0)) (F12 : Fld Z h0 z "java/lang/String" "hashIsZero" "Z" (.int 0)) (F13 : Old Z n0 h0) (nx_z : x ≠ z) (ntx_x : tx ≠ x) (ntx_z : tx ≠ z) (ntz_x : tz ≠ x) (ntz_z : tz ≠ z) (hxl : xs.length ≤ 2) (hzl : zs.length ≤ 2) (ntx_a : tx ≠ a) (ntz_a : tz ≠ a) (G : Cmp Z) (GI : Ica Z) :
    Jvm.Y9.Con l Z (⟨"com/example/tophat_ledger/tophatledger/HoldingGroup", "<init>", "(Ljava/lang/String;ILjava/lang/String;)V"⟩ : MethodName) prog_11_method_1_code 4 none ({ frames := 6, cells := 2, slots := 4, locals := 89 } : Room) n0 #[(.ref a), (.ref x), (.int y), (.ref z)] h0 (fun v h => v = none ∧ Keep h0 h [a, x, z] ∧ Exa Z h a "com/example/tophat_ledger/tophatledger/HoldingGroup" ∧ Fld Z h a "com/example/tophat_ledger/tophatledger/HoldingGroup" "participant" "Ljava/lang/String;" (.ref x) ∧ Fld Z h a "com/example/tophat_ledger/tophatledger/HoldingGroup" "year" "I" (.int y) ∧ Fld Z h a "com/example/tophat_ledger/tophatledger/HoldingGroup" "source" "Ljava/lang/String;" (.ref z) ∧ Str Z h x tx kx xs ∧ Str Z h z tz kz zs) := by
  refine Jvm.Y9.Con.intro (plainFor_of_name pn_com_example_tophat_ledger_tophatledger_HoldingGroup) ?_
  intro p e s m below meth c s₁ hx hby hml hret hnm hown hlk hZ P0
  refine Jvm.Y9.Aim.cast (by first | (simp [entryFrame, mkF, argsToLocals, Value.category]; done) | rfl : entryFrame m #[(.ref a), (.ref x), (.int y), (.ref z)] 4 = (mkF m 0 #[.val (.ref a), .val (.ref x), .val (.int y), .val (.ref z)] [])) ?_
  have H := P0.here
  refine Jvm.Y9.Aim.of (T' := s₁) (g' := (mkF m 1 #[.val (.ref a), .val (.ref x), .val (.int y), .val (.ref z)] [(.ref a)])) (fun tgt kt => ?_) ?_
  · refine XS.aloadN H hx rfl (hb hby dj_0) rfl rfl ?_
    exact kt
  refine Jvm.Y9.Aim.initO P0 hx hZ hml hown (wI hw 32 rfl) (wI hw 19 rfl) (wI hw 20 rfl) rfl (hb hby dj_1) (by decide) (Nat.le_of_ble_eq_true rfl) ?_
  intro z0 z1
  have H := z1.here
  refine Jvm.Y9.Aim.of (T' := z0) (g' := (mkF m 6 #[.val (.ref a), .val (.ref x), .val (.int y), .val (.ref z)] [(.ref x), (.ref a)])) (fun tgt kt => ?_) ?_
  · refine XS.aloadN H hx rfl (hb hby dj_4) rfl rfl ?_
    refine XS.aloadN H hx rfl (hb hby dj_5) rfl rfl ?_
    exact kt
  refine Jvm.Y9.Aim.putF (v := (.ref x)) z1 hx hZ hown (host := "") (Or.inl (wI hw 33 rfl)) Via.refl F1 F0 (Or.inr ⟨(wI hw 34 rfl), rfl, hnm⟩) (wI hw 6 rfl) (ty := (.object "java/lang/String")) (by decide) rfl rfl (hb hby dj_6) g_a ?_
  intro z2 z3 z4 z5
  have z6 := Keep.of_wr z5
  have z7 : Fld Z z3 a "com/example/tophat_ledger/tophatledger/HoldingGroup" "participant" "Ljava/lang/String;" (.ref x) := F1.same z5
  have z8 : Keep h0 z3 [a, x, z] := (Keep.refl h0 [a, x, z]).trans z6 (allS (Or.inl (List.mem_of_getElem? (i := 0) rfl)) all0)
  have H := z4.here
  refine Jvm.Y9.Aim.of (T' := z2) (g' := (mkF m 11 #[.val (.ref a), .val (.ref x), .val (.int y), .val (.ref z)] [(.int y), (.ref a)])) (fun tgt kt => ?_) ?_
  · refine XS.aloadN H hx rfl (hb hby dj_9) rfl rfl ?_
    refine XS.iloadN H hx rfl (hb hby dj_10) rfl ?_
    exact kt
  have z9 : Exa Z z3 a "com/example/tophat_ledger/tophatledger/HoldingGroup" := (F0.keep z6)
  have za : Fld Z z3 a "com/example/tophat_ledger/tophatledger/HoldingGroup" "year" "I" u2 := (F2.other z5 (Or.inr (slot_ne (Or.inr (wI hw 36 rfl)) (Or.inr (wI hw 34 rfl)) (by decide) (t := .int) (t' := (.object "java/lang/String")) (by decide) (by decide))))
  refine Jvm.Y9.Aim.putF (v := (.int y)) z4 hx hZ hown (host := "") (Or.inl (wI hw 35 rfl)) Via.refl za z9 (Or.inr ⟨(wI hw 36 rfl), rfl, hnm⟩) (wI hw 6 rfl) (ty := .int) (by decide) rfl rfl (hb hby dj_11) g_a ?_
  intro zb zc zd ze
  have zf := Keep.of_wr ze
  have zg : Fld Z zc a "com/example/tophat_ledger/tophatledger/HoldingGroup" "year" "I" (.int y) := za.same ze
  have zh : Keep h0 zc [a, x, z] := z8.trans zf (allS (Or.inl (List.mem_of_getElem? (i := 0) rfl)) all0)
  have H := zd.here
  refine Jvm.Y9.Aim.of (T' := zb) (g' := (mkF m 16 #[.val (.ref a), .val (.ref x), .val (.int y), .val (.ref z)] [(.ref z), (.ref a)])) (fun tgt kt => ?_) ?_
  · refine XS.aloadN H hx rfl (hb hby dj_14) rfl rfl ?_
    refine XS.aloadN H hx rfl (hb hby dj_15) rfl rfl ?_
    exact kt
  have zi : Exa Z zc a "com/example/tophat_ledger/tophatledger/HoldingGroup" := (z9.keep zf)
  have zj : Fld Z zc a "com/example/tophat_ledger/tophatledger/HoldingGroup" "source" "Ljava/lang/String;" u3 := ((F3.other z5 (Or.inr (slot_ne (Or.inr (wI hw 38 rfl)) (Or.inr (wI hw 34 rfl)) (by decide) (t := (.object "java/lang/String")) (t' := (.object "java/lang/String")) (by decide) (by decide)))).other ze (Or.inr (slot_ne (Or.inr (wI hw 38 rfl)) (Or.inr (wI hw 36 rfl)) (by decide) (t := (.object "java/lang/String")) (t' := .int) (by decide) (by decide))))
  refine Jvm.Y9.Aim.putF (v := (.ref z)) zd hx hZ hown (host := "") (Or.inl (wI hw 37 rfl)) Via.refl zj zi (Or.inr ⟨(wI hw 38 rfl), rfl, hnm⟩) (wI hw 6 rfl) (ty := (.object "java/lang/String")) (by decide) rfl rfl (hb hby dj_16) g_a ?_
  intro zk zl zm zn
  have zo := Keep.of_wr zn
  have zp : Fld Z zl a "com/example/tophat_ledger/tophatledger/HoldingGroup" "source" "Ljava/lang/String;" (.ref z) := zj.same zn
  have zq : Keep h0 zl [a, x, z] := zh.trans zo (allS (Or.inl (List.mem_of_getElem? (i := 0) rfl)) all0)
  have H := zm.here
  refine Jvm.Y9.Aim.of (T' := zk) (g' := (mkF m 21 #[.val (.ref a), .val (.ref x), .val (.int y), .val (.ref z)] [(.int 3), (.ref a)])) (fun tgt kt => ?_) ?_
  · refine XS.aloadN H hx rfl (hb hby dj_19) rfl rfl ?_
    refine XS.iconst H hx rfl (hb hby dj_20) ?_
    exact kt
  refine Jvm.Y9.Aim.newR (z := (3 : Int32)) zm hx hZ hown (wI hw 39 rfl) (wI hw 40 rfl) (hb hby dj_21) (by decide) (cap := 3) (by decide) (by decide) (by decide) (by decide) ?_
  intro zr zt zu zv zw zx zy zz z10
  have z11 : Keep zl zt [] := (Keep.refl _ _).ext zy
  have z12 : Keep h0 zt [a, x, z] := zq.trans z11 all0
  have z13 : Arv Z zt zv zu (.object "java/lang/Object") (3 : Int32) [.null, .null, .null] (.null) := zz.pad (pad_rep [] .null 3)
  have H := zx.here
  refine Jvm.Y9.Aim.of (T' := zr) (g' := (mkF m 27 #[.val (.ref a), .val (.ref x), .val (.int y), .val (.ref z)] [(.ref x), (.int 0), (.ref zv), (.ref zv), (.ref a)])) (fun tgt kt => ?_) ?_
  · refine XS.dup H hx rfl (hb hby dj_24) rfl rfl ?_
    refine XS.iconst H hx rfl (hb hby dj_25) ?_
    refine XS.aloadN H hx rfl (hb hby dj_26) rfl rfl ?_
    exact kt
  have z14 : Exa Z zt x "java/lang/String" := ((((F5.1.keep z6).keep zf).keep zo).keep z11)
  refine Jvm.Y9.Aim.stR (j := (0 : Int32)) zx hx hZ z13 z10 (Ins.of_exa z14 (wI hw 41 rfl)) ⟨by decide, by decide⟩ 0 rfl (Nat.le_of_ble_eq_true rfl) (hb hby dj_27) (lT (lT Z0 (zq.1)) (Nat.le_of_eq zw.symm)) ?_
  intro z15 z16 z17 z18 z19
  replace z19 : Arv Z z16 zv zu (.object "java/lang/Object") (3 : Int32) [(.ref x), .null, .null] (.null) := z19
  have z1a : Keep h0 z16 [a, x, z] := z12.trans z18 (allS (Or.inr (lT (zq.1) (Nat.le_of_eq zw.symm))) all0)
  have H := z17.here
  refine Jvm.Y9.Aim.of (T' := z15) (g' := (mkF m 31 #[.val (.ref a), .val (.ref x), .val (.int y), .val (.ref z)] [(.int y), (.int 1), (.ref zv), (.ref zv), (.ref a)])) (fun tgt kt => ?_) ?_
  · refine XS.dup H hx rfl (hb hby dj_28) rfl rfl ?_
    refine XS.iconst H hx rfl (hb hby dj_29) ?_
    refine XS.iloadN H hx rfl (hb hby dj_30) rfl ?_
    exact kt
  have z1b : Old Z n0 z16 := (((((F13.keep z6 (allS g_a all0)).keep zf (allS g_a all0)).keep zo (allS g_a all0)).keep z11 all0).keep z18 (allS (lT (lT Z0 (zq.1)) (Nat.le_of_eq zw.symm)) all0))
  refine Jvm.Y9.Aim.callS (argsL := [(.int y)]) (rest := [(.int 1), (.ref zv), (.ref zv), (.ref a)]) z17 hx hZ hml hown (wI hw 42 rfl) (wI hw 43 rfl) (wI hw 44 rfl) (wI hw 45 rfl) (by decide) (Jvm.Y9.Con.back (W := 4) (own_ivo l Z a0 hw y z16 n0 (lT Z0 (z1a.1)) z1b GI) hZ (wI hw 45 rfl) (wI hw 44 rfl) (by decide) (by decide)) rfl pd__28I_29Ljava_2flang_2fInteger_3b rfl (Nat.le_of_eq rfl) (hb hby dj_31) (by decide) (by decide) ?_
  intro z1c z1d z1e z1f z1g
  obtain ⟨b_552, rfl, z1h, z1i, z1j, z1k⟩ := z1g
  have z1l : Keep h0 z1d [a, x, z] := z1a.trans z1h all0
  have z1m : Arv Z z1d zv zu (.object "java/lang/Object") (3 : Int32) [(.ref x), .null, .null] (.null) := (z19.keep z1h nin0)
  refine Jvm.Y9.Aim.stR (j := (1 : Int32)) z1f hx hZ z1m z10 (Ins.of_exa z1j (wI hw 49 rfl)) ⟨by decide, by decide⟩ 1 rfl (Nat.le_of_ble_eq_true rfl) (hb hby dj_34) (lT (lT Z0 (zq.1)) (Nat.le_of_eq zw.symm)) ?_
  intro z1n z1o z1p z1q z1r
  replace z1r : Arv Z z1o zv zu (.object "java/lang/Object") (3 : Int32) [(.ref x), (.ref b_552), .null] (.null) := z1r
  have z1s : Keep h0 z1o [a, x, z] := z1l.trans z1q (allS (Or.inr (lT (zq.1) (Nat.le_of_eq zw.symm))) all0)
  have H := z1p.here
  refine Jvm.Y9.Aim.of (T' := z1n) (g' := (mkF m 38 #[.val (.ref a), .val (.ref x), .val (.int y), .val (.ref z)] [(.ref z), (.int 2), (.ref zv), (.ref zv), (.ref a)])) (fun tgt kt => ?_) ?_
  · refine XS.dup H hx rfl (hb hby dj_35) rfl rfl ?_
    refine XS.iconst H hx rfl (hb hby dj_36) ?_
    refine XS.aloadN H hx rfl (hb hby dj_37) rfl rfl ?_
    exact kt
  have z1t : Exa Z z1o z "java/lang/String" := (((((((F9.1.keep z6).keep zf).keep zo).keep z11).keep z18).keep z1h).keep z1q)
  refine Jvm.Y9.Aim.stR (j := (2 : Int32)) z1p hx hZ z1r z10 (Ins.of_exa z1t (wI hw 41 rfl)) ⟨by decide, by decide⟩ 2 rfl (Nat.le_of_ble_eq_true rfl) (hb hby dj_38) (lT (lT Z0 (zq.1)) (Nat.le_of_eq zw.symm)) ?_
  intro z1u z1v z1w z1x z1y
  replace z1y : Arv Z z1v zv zu (.object "java/lang/Object") (3 : Int32) [(.ref x), (.ref b_552), (.ref z)] (.null) := z1y
  have z1z : Keep h0 z1v [a, x, z] := z1s.trans z1x (allS (Or.inr (lT (zq.1) (Nat.le_of_eq zw.symm))) all0)
  have z20 : Exa Z z1v b_552 "java/lang/Integer" := ((z1j.keep z1q).keep z1x)
  have z21 : Fld Z z1v b_552 "java/lang/Integer" "value" "I" (.int y) := ((z1k.keep z1q (ninS (Jvm.Y9.oln_ne z1i (lT (lT Z0 (zq.1)) (Nat.le_of_eq zw.symm)) (lL z13.lt (z18.1))) nin0)).keep z1x (ninS (Jvm.Y9.oln_ne z1i (lT (lT Z0 (zq.1)) (Nat.le_of_eq zw.symm)) (lL z13.lt (z18.1))) nin0))
  have z22 : Exa Z z1v x "java/lang/String" := ((((z14.keep z18).keep z1h).keep z1q).keep z1x)
  have z23 : Exa Z z1v a "com/example/tophat_ledger/tophatledger/HoldingGroup" := ((((((zi.keep zo).keep z11).keep z18).keep z1h).keep z1q).keep z1x)
  have z24 : Str Z z1v x tx kx xs := ((((((((F5.keep z6 (ninS (ne_exa z22 z23 (by decide)) nin0) (ninS ntx_a nin0)).keep zf (ninS (ne_exa z22 z23 (by decide)) nin0) (ninS ntx_a nin0)).keep zo (ninS (ne_exa z22 z23 (by decide)) nin0) (ninS ntx_a nin0)).keep z11 nin0 nin0).keep z18 (ninS (nL (lL (lL F5.lt (zq.1)) (Nat.le_of_eq zw.symm))) nin0) (ninS (nL (lL (lL F5.ltb (zq.1)) (Nat.le_of_eq zw.symm))) nin0)).keep z1h nin0 nin0).keep z1q (ninS (nL (lL (lL F5.lt (zq.1)) (Nat.le_of_eq zw.symm))) nin0) (ninS (nL (lL (lL F5.ltb (zq.1)) (Nat.le_of_eq zw.symm))) nin0)).keep z1x (ninS (nL (lL (lL F5.lt (zq.1)) (Nat.le_of_eq zw.symm))) nin0) (ninS (nL (lL (lL F5.ltb (zq.1)) (Nat.le_of_eq zw.symm))) nin0))
  have z25 : (2 ≤ xs.length → Exa Z z1v tx "[B") := (fun q => ((fun q => ((fun q => ((fun q => ((fun q => ((fun q => ((fun q => ((fun q => (F6 q).keep z6) q).keep zf) q).keep zo) q).keep z11) q).keep z18) q).keep z1h) q).keep z1q) q).keep z1x)
  have z26 : Fld Z z1v x "java/lang/String" "hash" "I" (.int 0) := ((((((((F7.keep z6 (ninS (ne_exa z22 z23 (by decide)) nin0)).keep zf (ninS (ne_exa z22 z23 (by decide)) nin0)).keep zo (ninS (ne_exa z22 z23 (by decide)) nin0)).keep z11 nin0).keep z18 (ninS (nL (lL (lL F5.lt (zq.1)) (Nat.le_of_eq zw.symm))) nin0)).keep z1h nin0).keep z1q (ninS (nL (lL (lL F5.lt (zq.1)) (Nat.le_of_eq zw.symm))) nin0)).keep z1x (ninS (nL (lL (lL F5.lt (zq.1)) (Nat.le_of_eq zw.symm))) nin0))
  have z27 : Fld Z z1v x "java/lang/String" "hashIsZero" "Z" (.int 0) := ((((((((F8.keep z6 (ninS (ne_exa z22 z23 (by decide)) nin0)).keep zf (ninS (ne_exa z22 z23 (by decide)) nin0)).keep zo (ninS (ne_exa z22 z23 (by decide)) nin0)).keep z11 nin0).keep z18 (ninS (nL (lL (lL F5.lt (zq.1)) (Nat.le_of_eq zw.symm))) nin0)).keep z1h nin0).keep z1q (ninS (nL (lL (lL F5.lt (zq.1)) (Nat.le_of_eq zw.symm))) nin0)).keep z1x (ninS (nL (lL (lL F5.lt (zq.1)) (Nat.le_of_eq zw.symm))) nin0))
  have z28 : Exa Z z1v z "java/lang/String" := (z1t.keep z1x)
  have z29 : Str Z z1v z tz kz zs := ((((((((F9.keep z6 (ninS (ne_exa z28 z23 (by decide)) nin0) (ninS ntz_a nin0)).keep zf (ninS (ne_exa z28 z23 (by decide)) nin0) (ninS ntz_a nin0)).keep zo (ninS (ne_exa z28 z23 (by decide)) nin0) (ninS ntz_a nin0)).keep z11 nin0 nin0).keep z18 (ninS (nL (lL (lL F9.lt (zq.1)) (Nat.le_of_eq zw.symm))) nin0) (ninS (nL (lL (lL F9.ltb (zq.1)) (Nat.le_of_eq zw.symm))) nin0)).keep z1h nin0 nin0).keep z1q (ninS (nL (lL (lL F9.lt (zq.1)) (Nat.le_of_eq zw.symm))) nin0) (ninS (nL (lL (lL F9.ltb (zq.1)) (Nat.le_of_eq zw.symm))) nin0)).keep z1x (ninS (nL (lL (lL F9.lt (zq.1)) (Nat.le_of_eq zw.symm))) nin0) (ninS (nL (lL (lL F9.ltb (zq.1)) (Nat.le_of_eq zw.symm))) nin0))
  have z2a : (2 ≤ zs.length → Exa Z z1v tz "[B") := (fun q => ((fun q => ((fun q => ((fun q => ((fun q => ((fun q => ((fun q => ((fun q => (F10 q).keep z6) q).keep zf) q).keep zo) q).keep z11) q).keep z18) q).keep z1h) q).keep z1q) q).keep z1x)
  have z2b : Fld Z z1v z "java/lang/String" "hash" "I" (.int 0) := ((((((((F11.keep z6 (ninS (ne_exa z28 z23 (by decide)) nin0)).keep zf (ninS (ne_exa z28 z23 (by decide)) nin0)).keep zo (ninS (ne_exa z28 z23 (by decide)) nin0)).keep z11 nin0).keep z18 (ninS (nL (lL (lL F9.lt (zq.1)) (Nat.le_of_eq zw.symm))) nin0)).keep z1h nin0).keep z1q (ninS (nL (lL (lL F9.lt (zq.1)) (Nat.le_of_eq zw.symm))) nin0)).keep z1x (ninS (nL (lL (lL F9.lt (zq.1)) (Nat.le_of_eq zw.symm))) nin0))
  have z2c : Fld Z z1v z "java/lang/String" "hashIsZero" "Z" (.int 0) := ((((((((F12.keep z6 (ninS (ne_exa z28 z23 (by decide)) nin0)).keep zf (ninS (ne_exa z28 z23 (by decide)) nin0)).keep zo (ninS (ne_exa z28 z23 (by decide)) nin0)).keep z11 nin0).keep z18 (ninS (nL (lL (lL F9.lt (zq.1)) (Nat.le_of_eq zw.symm))) nin0)).keep z1h nin0).keep z1q (ninS (nL (lL (lL F9.lt (zq.1)) (Nat.le_of_eq zw.symm))) nin0)).keep z1x (ninS (nL (lL (lL F9.lt (zq.1)) (Nat.le_of_eq zw.symm))) nin0))
  have z2d : Old Z n0 z1v := (((z1b.keep z1h all0).keep z1q (allS (lT (lT Z0 (zq.1)) (Nat.le_of_eq zw.symm)) all0)).keep z1x (allS (lT (lT Z0 (zq.1)) (Nat.le_of_eq zw.symm)) all0))
  refine Jvm.Y9.Aim.callS (argsL := [(.ref zv)]) (rest := [(.ref a)]) z1w hx hZ hml hown (wI hw 50 rfl) (wI hw 51 rfl) (wI hw 52 rfl) (wI hw 53 rfl) (by decide) (Jvm.Y9.Con.back (W := 1) (own_ohs l Z a0 hw zv zu b_552 y x tx kx xs z tz kz zs z1v n0 (lT Z0 (z1z.1)) g_x g_z z1y z20 z21 z24 z25 z26 z27 z29 z2a z2b z2c z2d nx_z ntx_x ntx_z ntz_x ntz_z hxl hzl (Ne.symm (nL (lL (lL F5.lt (zq.1)) (Nat.le_of_eq zw.symm)))) (Ne.symm (nL (lL (lL F9.lt (zq.1)) (Nat.le_of_eq zw.symm)))) G) hZ (wI hw 53 rfl) (wI hw 52 rfl) (by decide) (by decide)) rfl pd__28_5bLjava_2flang_2fObject_3b_29I rfl (Nat.le_of_eq rfl) (hb hby dj_39) (by decide) (by decide) ?_
  intro z2e z2f z2g z2h z2i
  obtain ⟨hv_593, rfl, z2j, z2k, z2l⟩ := z2i
  have z2m : Keep h0 z2f [a, x, z] := z1z.trans z2j (allS (Or.inl (List.mem_of_getElem? (i := 1) rfl)) (allS (Or.inl (List.mem_of_getElem? (i := 2) rfl)) all0))
  have z2n : Exa Z z2f a "com/example/tophat_ledger/tophatledger/HoldingGroup" := (z23.keep z2j)
  have z2o : Exa Z z2f z "java/lang/String" := (z28.keep z2j)
  have z2p : Exa Z z2f x "java/lang/String" := (z22.keep z2j)
  have z2q : Fld Z z2f a "com/example/tophat_ledger/tophatledger/HoldingGroup" "hash" "I" u4 := (((((((((F4.other z5 (Or.inr (slot_ne (Or.inr (wI hw 87 rfl)) (Or.inr (wI hw 34 rfl)) (by decide) (t := .int) (t' := (.object "java/lang/String")) (by decide) (by decide)))).other ze (Or.inr (slot_ne (Or.inr (wI hw 87 rfl)) (Or.inr (wI hw 36 rfl)) (by decide) (t := .int) (t' := .int) (by decide) (by decide)))).other zn (Or.inr (slot_ne (Or.inr (wI hw 87 rfl)) (Or.inr (wI hw 38 rfl)) (by decide) (t := .int) (t' := (.object "java/lang/String")) (by decide) (by decide)))).keep z11 nin0).keep z18 (ninS (nL (lL (lL F0.lt (zq.1)) (Nat.le_of_eq zw.symm))) nin0)).keep z1h nin0).keep z1q (ninS (nL (lL (lL F0.lt (zq.1)) (Nat.le_of_eq zw.symm))) nin0)).keep z1x (ninS (nL (lL (lL F0.lt (zq.1)) (Nat.le_of_eq zw.symm))) nin0)).keep z2j (ninS (ne_exa z2n z2p (by decide)) (ninS (ne_exa z2n z2o (by decide)) nin0)))
  refine Jvm.Y9.Aim.putF (v := (.int hv_593)) z2h hx hZ hown (host := "") (Or.inl (wI hw 86 rfl)) Via.refl z2q z2n (Or.inr ⟨(wI hw 87 rfl), rfl, hnm⟩) (wI hw 6 rfl) (ty := .int) (by decide) rfl rfl (hb hby dj_42) g_a ?_
  intro z2r z2s z2t z2u
  have z2v := Keep.of_wr z2u
  have z2w : Fld Z z2s a "com/example/tophat_ledger/tophatledger/HoldingGroup" "hash" "I" (.int hv_593) := z2q.same z2u
  have z2x : Keep h0 z2s [a, x, z] := z2m.trans z2v (allS (Or.inl (List.mem_of_getElem? (i := 0) rfl)) all0)
  have z2y : Exa Z z2s a "com/example/tophat_ledger/tophatledger/HoldingGroup" := (z2n.keep z2v)
  have z2z : Exa Z z2s z "java/lang/String" := (z2o.keep z2v)
  have z30 : Exa Z z2s x "java/lang/String" := (z2p.keep z2v)
  have z31 : Fld Z z2s a "com/example/tophat_ledger/tophatledger/HoldingGroup" "participant" "Ljava/lang/String;" (.ref x) := (((((((((z7.other ze (Or.inr (slot_ne (Or.inr (wI hw 34 rfl)) (Or.inr (wI hw 36 rfl)) (by decide) (t := (.object "java/lang/String")) (t' := .int) (by decide) (by decide)))).other zn (Or.inr (slot_ne (Or.inr (wI hw 34 rfl)) (Or.inr (wI hw 38 rfl)) (by decide) (t := (.object "java/lang/String")) (t' := (.object "java/lang/String")) (by decide) (by decide)))).keep z11 nin0).keep z18 (ninS (nL (lL (lL F0.lt (zq.1)) (Nat.le_of_eq zw.symm))) nin0)).keep z1h nin0).keep z1q (ninS (nL (lL (lL F0.lt (zq.1)) (Nat.le_of_eq zw.symm))) nin0)).keep z1x (ninS (nL (lL (lL F0.lt (zq.1)) (Nat.le_of_eq zw.symm))) nin0)).keep z2j (ninS (ne_exa z2y z30 (by decide)) (ninS (ne_exa z2y z2z (by decide)) nin0))).other z2u (Or.inr (slot_ne (Or.inr (wI hw 34 rfl)) (Or.inr (wI hw 87 rfl)) (by decide) (t := (.object "java/lang/String")) (t' := .int) (by decide) (by decide))))
  have z32 : Fld Z z2s a "com/example/tophat_ledger/tophatledger/HoldingGroup" "year" "I" (.int y) := ((((((((zg.other zn (Or.inr (slot_ne (Or.inr (wI hw 36 rfl)) (Or.inr (wI hw 38 rfl)) (by decide) (t := .int) (t' := (.object "java/lang/String")) (by decide) (by decide)))).keep z11 nin0).keep z18 (ninS (nL (lL (lL F0.lt (zq.1)) (Nat.le_of_eq zw.symm))) nin0)).keep z1h nin0).keep z1q (ninS (nL (lL (lL F0.lt (zq.1)) (Nat.le_of_eq zw.symm))) nin0)).keep z1x (ninS (nL (lL (lL F0.lt (zq.1)) (Nat.le_of_eq zw.symm))) nin0)).keep z2j (ninS (ne_exa z2y z30 (by decide)) (ninS (ne_exa z2y z2z (by decide)) nin0))).other z2u (Or.inr (slot_ne (Or.inr (wI hw 36 rfl)) (Or.inr (wI hw 87 rfl)) (by decide) (t := .int) (t' := .int) (by decide) (by decide))))
  have z33 : Fld Z z2s a "com/example/tophat_ledger/tophatledger/HoldingGroup" "source" "Ljava/lang/String;" (.ref z) := (((((((zp.keep z11 nin0).keep z18 (ninS (nL (lL (lL F0.lt (zq.1)) (Nat.le_of_eq zw.symm))) nin0)).keep z1h nin0).keep z1q (ninS (nL (lL (lL F0.lt (zq.1)) (Nat.le_of_eq zw.symm))) nin0)).keep z1x (ninS (nL (lL (lL F0.lt (zq.1)) (Nat.le_of_eq zw.symm))) nin0)).keep z2j (ninS (ne_exa z2y z30 (by decide)) (ninS (ne_exa z2y z2z (by decide)) nin0))).other z2u (Or.inr (slot_ne (Or.inr (wI hw 38 rfl)) (Or.inr (wI hw 87 rfl)) (by decide) (t := (.object "java/lang/String")) (t' := .int) (by decide) (by decide))))
  have z34 : Str Z z2s x tx kx xs := (z2k.keep z2v (ninS (ne_exa z30 z2y (by decide)) nin0) (ninS ntx_a nin0))
  have z35 : Str Z z2s z tz kz zs := (z2l.keep z2v (ninS (ne_exa z2z z2y (by decide)) nin0) (ninS ntz_a nin0))
  exact Jvm.Y9.Aim.retV z2t hx hlk hret (hb hby dj_45) (by decide) (by decide) ⟨rfl, z2x, z2y, z31, z32, z33, z34, z35⟩
theorem di_0 : decode method_4_code 0 = .ok (.aload_n 0, 1) := by decide +kernel
theorem di_1 : decode method_4_code 1 = .ok (.arraylength, 1) := by decide +kernel
theorem di_2 : decode method_4_code 2 = .ok (.aload_n 1, 1) := by decide +kernel
theorem di_3 : decode method_4_code 3 = .ok (.arraylength, 1) := by decide +kernel
theorem di_4 : decode method_4_code 4 = .ok (.if_icmp .ne 37, 3) := by decide +kernel
theorem di_7 : decode method_4_code 7 = .ok (.aload_n 0, 1) := by decide +kernel
theorem di_8 : decode method_4_code 8 = .ok (.arraylength, 1) := by decide +kernel
theorem di_9 : decode method_4_code 9 = .ok (.iconst 1, 1) := by decide +kernel
theorem di_10 : decode method_4_code 10 = .ok (.if_icmp .lt 12, 3) := by decide +kernel
theorem di_22 : decode method_4_code 22 = .ok (.aload_n 0, 1) := by decide +kernel
theorem di_23 : decode method_4_code 23 = .ok (.arraylength, 1) := by decide +kernel
theorem di_24 : decode method_4_code 24 = .ok (.iconst 2, 1) := by decide +kernel
theorem di_25 : decode method_4_code 25 = .ok (.if_icmp .lt 12, 3) := by decide +kernel
theorem di_37 : decode method_4_code 37 = .ok (.iconst 1, 1) := by decide +kernel
theorem di_38 : decode method_4_code 38 = .ok (.goto 4, 3) := by decide +kernel
theorem di_42 : decode method_4_code 42 = .ok (.ireturn, 1) := by decide +kernel
theorem di_41 : decode method_4_code 41 = .ok (.iconst 0, 1) := by decide +kernel
theorem di_13 : decode method_4_code 13 = .ok (.aload_n 0, 1) := by decide +kernel
theorem di_14 : decode method_4_code 14 = .ok (.iconst 0, 1) := by decide +kernel
theorem di_15 : decode method_4_code 15 = .ok (.caload, 1) := by decide +kernel
theorem di_16 : decode method_4_code 16 = .ok (.aload_n 1, 1) := by decide +kernel
theorem di_17 : decode method_4_code 17 = .ok (.iconst 0, 1) := by decide +kernel
theorem di_18 : decode method_4_code 18 = .ok (.caload, 1) := by decide +kernel
theorem di_19 : decode method_4_code 19 = .ok (.if_icmp .ne 22, 3) := by decide +kernel
theorem di_28 : decode method_4_code 28 = .ok (.aload_n 0, 1) := by decide +kernel
theorem di_29 : decode method_4_code 29 = .ok (.iconst 1, 1) := by decide +kernel
theorem di_30 : decode method_4_code 30 = .ok (.caload, 1) := by decide +kernel
theorem di_31 : decode method_4_code 31 = .ok (.aload_n 1, 1) := by decide +kernel
theorem di_32 : decode method_4_code 32 = .ok (.iconst 1, 1) := by decide +kernel
theorem di_33 : decode method_4_code 33 = .ok (.caload, 1) := by decide +kernel
theorem di_34 : decode method_4_code 34 = .ok (.if_icmp .ne 7, 3) := by decide +kernel
theorem own_same (l : Launch) (Z : State) (a0 : Array Value) (hw : ∀ d ∈ tables_1, d.before a0 Z = true) (a : Addr) (ka : ClassId) (xs : List Int32) (b : Addr) (kb : ClassId) (zs : List Int32) (h0 : Heap) (n0 : Nat) (Z0 : n0 ≤ h0.size) (F0 : Arv Z h0 a ka .char (Int32.ofNat xs.length) (xs.map Value.int) (.int 0)) (F1 : Arv Z h0 b kb .char (Int32.ofNat zs.length) (zs.map Value.int) (.int 0)) (h1_ : xs.length ≤ 2) (h2_ : zs.length ≤ 2) :
    Jvm.Y9.Con l Z (⟨"com/example/tophat_ledger/tophatledger/HoldingGroupEqualsPinLaw", "same", "([C[C)Z"⟩ : MethodName) method_4_code 2 (some .boolean) ({ frames := 0, cells := 0, slots := 0, locals := 0 } : Room) n0 #[(.ref a), (.ref b)] h0 (fun v h => v = some (.int (if xs = zs then (1 : Int32) else (0 : Int32))) ∧ h0 = h) := by
  refine Jvm.Y9.Con.intro (plainFor_of_name pn_com_example_tophat_ledger_tophatledger_HoldingGroupEqualsPinLaw) ?_
  intro p e s m below meth c s₁ hx hby hml hret hnm hown hlk hZ P0
  refine Jvm.Y9.Aim.cast (by first | (simp [entryFrame, mkF, argsToLocals, Value.category]; done) | rfl : entryFrame m #[(.ref a), (.ref b)] 2 = (mkF m 0 #[.val (.ref a), .val (.ref b)] [])) ?_
  rcases xs with _ | ⟨a_, _ | ⟨b_, _ | ⟨d_, cr⟩⟩⟩
  · skip
    have z0 : Arv Z h0 a ka .char (0 : Int32) [] (.int 0) := F0
    rcases zs with _ | ⟨u_, _ | ⟨v_, _ | ⟨w_, cr⟩⟩⟩
    · skip
      have z1 : Arv Z h0 b kb .char (0 : Int32) [] (.int 0) := F1
      have H := P0.here
      refine Jvm.Y9.Aim.of (T' := s₁) (g' := (mkF m 1 #[.val (.ref a), .val (.ref b)] [(.ref a)])) (fun tgt kt => ?_) ?_
      · refine XS.aloadN H hx rfl (hb hby di_0) rfl rfl ?_
        exact kt
      refine Jvm.Y9.Aim.alen P0 hx hZ z0 (hb hby di_1) ?_
      have H := P0.here
      refine Jvm.Y9.Aim.of (T' := s₁) (g' := (mkF m 3 #[.val (.ref a), .val (.ref b)] [(.ref b), (.int 0)])) (fun tgt kt => ?_) ?_
      · refine XS.aloadN H hx rfl (hb hby di_2) rfl rfl ?_
        exact kt
      refine Jvm.Y9.Aim.alen P0 hx hZ z1 (hb hby di_3) ?_
      have H := P0.here
      refine Jvm.Y9.Aim.of (T' := s₁) (g' := (mkF m 8 #[.val (.ref a), .val (.ref b)] [(.ref a)])) (fun tgt kt => ?_) ?_
      · refine XS.icmpNo H hx rfl (hb hby di_4) rfl (teq (by decide)).2 ?_
        refine XS.aloadN H hx rfl (hb hby di_7) rfl rfl ?_
        exact kt
      refine Jvm.Y9.Aim.alen P0 hx hZ z0 (hb hby di_8) ?_
      have H := P0.here
      refine Jvm.Y9.Aim.of (T' := s₁) (g' := (mkF m 23 #[.val (.ref a), .val (.ref b)] [(.ref a)])) (fun tgt kt => ?_) ?_
      · refine XS.iconst H hx rfl (hb hby di_9) ?_
        refine XS.icmpYes H hx rfl (pc0 := 10) (pc' := 22) rfl (hb hby di_10) rfl (tlt (by decide)).1 (by decide) (by decide) ?_
        refine XS.aloadN H hx rfl (hb hby di_22) rfl rfl ?_
        exact kt
      refine Jvm.Y9.Aim.alen P0 hx hZ z0 (hb hby di_23) ?_
      have H := P0.here
      refine Jvm.Y9.Aim.of (T' := s₁) (g' := (mkF m 42 #[.val (.ref a), .val (.ref b)] [(.int 1)])) (fun tgt kt => ?_) ?_
      · refine XS.iconst H hx rfl (hb hby di_24) ?_
        refine XS.icmpYes H hx rfl (pc0 := 25) (pc' := 37) rfl (hb hby di_25) rfl (tlt (by decide)).1 (by decide) (by decide) ?_
        refine XS.iconst H hx rfl (hb hby di_37) ?_
        refine XS.goto H hx rfl (pc0 := 38) (pc' := 42) rfl (hb hby di_38) (by decide) (by decide) ?_
        exact kt
      exact Jvm.Y9.Aim.retN (t := .boolean) P0 hx hlk hret (by simp) (hb hby di_42) (by decide) (by decide) ⟨(by simp [nar]), rfl⟩
    · skip
      have z2 : Arv Z h0 b kb .char (1 : Int32) [(.int u_)] (.int 0) := F1
      have H := P0.here
      refine Jvm.Y9.Aim.of (T' := s₁) (g' := (mkF m 1 #[.val (.ref a), .val (.ref b)] [(.ref a)])) (fun tgt kt => ?_) ?_
      · refine XS.aloadN H hx rfl (hb hby di_0) rfl rfl ?_
        exact kt
      refine Jvm.Y9.Aim.alen P0 hx hZ z0 (hb hby di_1) ?_
      have H := P0.here
      refine Jvm.Y9.Aim.of (T' := s₁) (g' := (mkF m 3 #[.val (.ref a), .val (.ref b)] [(.ref b), (.int 0)])) (fun tgt kt => ?_) ?_
      · refine XS.aloadN H hx rfl (hb hby di_2) rfl rfl ?_
        exact kt
      refine Jvm.Y9.Aim.alen P0 hx hZ z2 (hb hby di_3) ?_
      have H := P0.here
      refine Jvm.Y9.Aim.of (T' := s₁) (g' := (mkF m 42 #[.val (.ref a), .val (.ref b)] [(.int 0)])) (fun tgt kt => ?_) ?_
      · refine XS.icmpYes H hx rfl (pc0 := 4) (pc' := 41) rfl (hb hby di_4) rfl (feq (by decide)).2 (by decide) (by decide) ?_
        refine XS.iconst H hx rfl (hb hby di_41) ?_
        exact kt
      exact Jvm.Y9.Aim.retN (t := .boolean) P0 hx hlk hret (by simp) (hb hby di_42) (by decide) (by decide) ⟨(by simp [nar]), rfl⟩
    · skip
      have z3 : Arv Z h0 b kb .char (2 : Int32) [(.int u_), (.int v_)] (.int 0) := F1
      have H := P0.here
      refine Jvm.Y9.Aim.of (T' := s₁) (g' := (mkF m 1 #[.val (.ref a), .val (.ref b)] [(.ref a)])) (fun tgt kt => ?_) ?_
      · refine XS.aloadN H hx rfl (hb hby di_0) rfl rfl ?_
        exact kt
      refine Jvm.Y9.Aim.alen P0 hx hZ z0 (hb hby di_1) ?_
      have H := P0.here
      refine Jvm.Y9.Aim.of (T' := s₁) (g' := (mkF m 3 #[.val (.ref a), .val (.ref b)] [(.ref b), (.int 0)])) (fun tgt kt => ?_) ?_
      · refine XS.aloadN H hx rfl (hb hby di_2) rfl rfl ?_
        exact kt
      refine Jvm.Y9.Aim.alen P0 hx hZ z3 (hb hby di_3) ?_
      have H := P0.here
      refine Jvm.Y9.Aim.of (T' := s₁) (g' := (mkF m 42 #[.val (.ref a), .val (.ref b)] [(.int 0)])) (fun tgt kt => ?_) ?_
      · refine XS.icmpYes H hx rfl (pc0 := 4) (pc' := 41) rfl (hb hby di_4) rfl (feq (by decide)).2 (by decide) (by decide) ?_
        refine XS.iconst H hx rfl (hb hby di_41) ?_
        exact kt
      exact Jvm.Y9.Aim.retN (t := .boolean) P0 hx hlk hret (by simp) (hb hby di_42) (by decide) (by decide) ⟨(by simp [nar]), rfl⟩
    · exact absurd h2_ (by simp only [List.length_cons]; omega)
  · skip
    have z4 : Arv Z h0 a ka .char (1 : Int32) [(.int a_)] (.int 0) := F0
    rcases zs with _ | ⟨u_, _ | ⟨v_, _ | ⟨w_, cr⟩⟩⟩
    · skip
      have z5 : Arv Z h0 b kb .char (0 : Int32) [] (.int 0) := F1
      have H := P0.here
      refine Jvm.Y9.Aim.of (T' := s₁) (g' := (mkF m 1 #[.val (.ref a), .val (.ref b)] [(.ref a)])) (fun tgt kt => ?_) ?_
      · refine XS.aloadN H hx rfl (hb hby di_0) rfl rfl ?_
        exact kt
      refine Jvm.Y9.Aim.alen P0 hx hZ z4 (hb hby di_1) ?_
      have H := P0.here
      refine Jvm.Y9.Aim.of (T' := s₁) (g' := (mkF m 3 #[.val (.ref a), .val (.ref b)] [(.ref b), (.int 1)])) (fun tgt kt => ?_) ?_
      · refine XS.aloadN H hx rfl (hb hby di_2) rfl rfl ?_
        exact kt
      refine Jvm.Y9.Aim.alen P0 hx hZ z5 (hb hby di_3) ?_
      have H := P0.here
      refine Jvm.Y9.Aim.of (T' := s₁) (g' := (mkF m 42 #[.val (.ref a), .val (.ref b)] [(.int 0)])) (fun tgt kt => ?_) ?_
      · refine XS.icmpYes H hx rfl (pc0 := 4) (pc' := 41) rfl (hb hby di_4) rfl (feq (by decide)).2 (by decide) (by decide) ?_
        refine XS.iconst H hx rfl (hb hby di_41) ?_
        exact kt
      exact Jvm.Y9.Aim.retN (t := .boolean) P0 hx hlk hret (by simp) (hb hby di_42) (by decide) (by decide) ⟨(by simp [h1_, nar]), rfl⟩
    · skip
      have z6 : Arv Z h0 b kb .char (1 : Int32) [(.int u_)] (.int 0) := F1
      have H := P0.here
      refine Jvm.Y9.Aim.of (T' := s₁) (g' := (mkF m 1 #[.val (.ref a), .val (.ref b)] [(.ref a)])) (fun tgt kt => ?_) ?_
      · refine XS.aloadN H hx rfl (hb hby di_0) rfl rfl ?_
        exact kt
      refine Jvm.Y9.Aim.alen P0 hx hZ z4 (hb hby di_1) ?_
      have H := P0.here
      refine Jvm.Y9.Aim.of (T' := s₁) (g' := (mkF m 3 #[.val (.ref a), .val (.ref b)] [(.ref b), (.int 1)])) (fun tgt kt => ?_) ?_
      · refine XS.aloadN H hx rfl (hb hby di_2) rfl rfl ?_
        exact kt
      refine Jvm.Y9.Aim.alen P0 hx hZ z6 (hb hby di_3) ?_
      have H := P0.here
      refine Jvm.Y9.Aim.of (T' := s₁) (g' := (mkF m 8 #[.val (.ref a), .val (.ref b)] [(.ref a)])) (fun tgt kt => ?_) ?_
      · refine XS.icmpNo H hx rfl (hb hby di_4) rfl (teq (by decide)).2 ?_
        refine XS.aloadN H hx rfl (hb hby di_7) rfl rfl ?_
        exact kt
      refine Jvm.Y9.Aim.alen P0 hx hZ z4 (hb hby di_8) ?_
      have H := P0.here
      refine Jvm.Y9.Aim.of (T' := s₁) (g' := (mkF m 15 #[.val (.ref a), .val (.ref b)] [(.int 0), (.ref a)])) (fun tgt kt => ?_) ?_
      · refine XS.iconst H hx rfl (hb hby di_9) ?_
        refine XS.icmpNo H hx rfl (hb hby di_10) rfl (flt (by decide)).1 ?_
        refine XS.aloadN H hx rfl (hb hby di_13) rfl rfl ?_
        refine XS.iconst H hx rfl (hb hby di_14) ?_
        exact kt
      refine Jvm.Y9.Aim.ldC (j := (0 : Int32)) (v := (.int a_)) P0 hx hZ z4 ⟨by decide, by decide⟩ rfl (hb hby di_15) ?_
      have H := P0.here
      refine Jvm.Y9.Aim.of (T' := s₁) (g' := (mkF m 18 #[.val (.ref a), .val (.ref b)] [(.int 0), (.ref b), (.int a_)])) (fun tgt kt => ?_) ?_
      · refine XS.aloadN H hx rfl (hb hby di_16) rfl rfl ?_
        refine XS.iconst H hx rfl (hb hby di_17) ?_
        exact kt
      refine Jvm.Y9.Aim.ldC (j := (0 : Int32)) (v := (.int u_)) P0 hx hZ z6 ⟨by decide, by decide⟩ rfl (hb hby di_18) ?_
      by_cases z7 : a_ = u_
      · skip
        have H := P0.here
        refine Jvm.Y9.Aim.of (T' := s₁) (g' := (mkF m 23 #[.val (.ref a), .val (.ref b)] [(.ref a)])) (fun tgt kt => ?_) ?_
        · refine XS.icmpNo H hx rfl (hb hby di_19) rfl (teq z7).2 ?_
          refine XS.aloadN H hx rfl (hb hby di_22) rfl rfl ?_
          exact kt
        refine Jvm.Y9.Aim.alen P0 hx hZ z4 (hb hby di_23) ?_
        have H := P0.here
        refine Jvm.Y9.Aim.of (T' := s₁) (g' := (mkF m 42 #[.val (.ref a), .val (.ref b)] [(.int 1)])) (fun tgt kt => ?_) ?_
        · refine XS.iconst H hx rfl (hb hby di_24) ?_
          refine XS.icmpYes H hx rfl (pc0 := 25) (pc' := 37) rfl (hb hby di_25) rfl (tlt (by decide)).1 (by decide) (by decide) ?_
          refine XS.iconst H hx rfl (hb hby di_37) ?_
          refine XS.goto H hx rfl (pc0 := 38) (pc' := 42) rfl (hb hby di_38) (by decide) (by decide) ?_
          exact kt
        exact Jvm.Y9.Aim.retN (t := .boolean) P0 hx hlk hret (by simp) (hb hby di_42) (by decide) (by decide) ⟨(by simp [h1_, z7, nar]), rfl⟩
      · skip
        have H := P0.here
        refine Jvm.Y9.Aim.of (T' := s₁) (g' := (mkF m 42 #[.val (.ref a), .val (.ref b)] [(.int 0)])) (fun tgt kt => ?_) ?_
        · refine XS.icmpYes H hx rfl (pc0 := 19) (pc' := 41) rfl (hb hby di_19) rfl (feq z7).2 (by decide) (by decide) ?_
          refine XS.iconst H hx rfl (hb hby di_41) ?_
          exact kt
        exact Jvm.Y9.Aim.retN (t := .boolean) P0 hx hlk hret (by simp) (hb hby di_42) (by decide) (by decide) ⟨(by simp [h1_, z7, nar]), rfl⟩
    · skip
      have z8 : Arv Z h0 b kb .char (2 : Int32) [(.int u_), (.int v_)] (.int 0) := F1
      have H := P0.here
      refine Jvm.Y9.Aim.of (T' := s₁) (g' := (mkF m 1 #[.val (.ref a), .val (.ref b)] [(.ref a)])) (fun tgt kt => ?_) ?_
      · refine XS.aloadN H hx rfl (hb hby di_0) rfl rfl ?_
        exact kt
      refine Jvm.Y9.Aim.alen P0 hx hZ z4 (hb hby di_1) ?_
      have H := P0.here
      refine Jvm.Y9.Aim.of (T' := s₁) (g' := (mkF m 3 #[.val (.ref a), .val (.ref b)] [(.ref b), (.int 1)])) (fun tgt kt => ?_) ?_
      · refine XS.aloadN H hx rfl (hb hby di_2) rfl rfl ?_
        exact kt
      refine Jvm.Y9.Aim.alen P0 hx hZ z8 (hb hby di_3) ?_
      have H := P0.here
      refine Jvm.Y9.Aim.of (T' := s₁) (g' := (mkF m 42 #[.val (.ref a), .val (.ref b)] [(.int 0)])) (fun tgt kt => ?_) ?_
      · refine XS.icmpYes H hx rfl (pc0 := 4) (pc' := 41) rfl (hb hby di_4) rfl (feq (by decide)).2 (by decide) (by decide) ?_
        refine XS.iconst H hx rfl (hb hby di_41) ?_
        exact kt
      exact Jvm.Y9.Aim.retN (t := .boolean) P0 hx hlk hret (by simp) (hb hby di_42) (by decide) (by decide) ⟨(by simp [h1_, nar]), rfl⟩
    · exact absurd h2_ (by simp only [List.length_cons]; omega)
  · skip
    have z9 : Arv Z h0 a ka .char (2 : Int32) [(.int a_), (.int b_)] (.int 0) := F0
    rcases zs with _ | ⟨u_, _ | ⟨v_, _ | ⟨w_, cr⟩⟩⟩
    · skip
      have za : Arv Z h0 b kb .char (0 : Int32) [] (.int 0) := F1
      have H := P0.here
      refine Jvm.Y9.Aim.of (T' := s₁) (g' := (mkF m 1 #[.val (.ref a), .val (.ref b)] [(.ref a)])) (fun tgt kt => ?_) ?_
      · refine XS.aloadN H hx rfl (hb hby di_0) rfl rfl ?_
        exact kt
      refine Jvm.Y9.Aim.alen P0 hx hZ z9 (hb hby di_1) ?_
      have H := P0.here
      refine Jvm.Y9.Aim.of (T' := s₁) (g' := (mkF m 3 #[.val (.ref a), .val (.ref b)] [(.ref b), (.int 2)])) (fun tgt kt => ?_) ?_
      · refine XS.aloadN H hx rfl (hb hby di_2) rfl rfl ?_
        exact kt
      refine Jvm.Y9.Aim.alen P0 hx hZ za (hb hby di_3) ?_
      have H := P0.here
      refine Jvm.Y9.Aim.of (T' := s₁) (g' := (mkF m 42 #[.val (.ref a), .val (.ref b)] [(.int 0)])) (fun tgt kt => ?_) ?_
      · refine XS.icmpYes H hx rfl (pc0 := 4) (pc' := 41) rfl (hb hby di_4) rfl (feq (by decide)).2 (by decide) (by decide) ?_
        refine XS.iconst H hx rfl (hb hby di_41) ?_
        exact kt
      exact Jvm.Y9.Aim.retN (t := .boolean) P0 hx hlk hret (by simp) (hb hby di_42) (by decide) (by decide) ⟨(by simp [h1_, nar]), rfl⟩
    · skip
      have zb : Arv Z h0 b kb .char (1 : Int32) [(.int u_)] (.int 0) := F1
      have H := P0.here
      refine Jvm.Y9.Aim.of (T' := s₁) (g' := (mkF m 1 #[.val (.ref a), .val (.ref b)] [(.ref a)])) (fun tgt kt => ?_) ?_
      · refine XS.aloadN H hx rfl (hb hby di_0) rfl rfl ?_
        exact kt
      refine Jvm.Y9.Aim.alen P0 hx hZ z9 (hb hby di_1) ?_
      have H := P0.here
      refine Jvm.Y9.Aim.of (T' := s₁) (g' := (mkF m 3 #[.val (.ref a), .val (.ref b)] [(.ref b), (.int 2)])) (fun tgt kt => ?_) ?_
      · refine XS.aloadN H hx rfl (hb hby di_2) rfl rfl ?_
        exact kt
      refine Jvm.Y9.Aim.alen P0 hx hZ zb (hb hby di_3) ?_
      have H := P0.here
      refine Jvm.Y9.Aim.of (T' := s₁) (g' := (mkF m 42 #[.val (.ref a), .val (.ref b)] [(.int 0)])) (fun tgt kt => ?_) ?_
      · refine XS.icmpYes H hx rfl (pc0 := 4) (pc' := 41) rfl (hb hby di_4) rfl (feq (by decide)).2 (by decide) (by decide) ?_
        refine XS.iconst H hx rfl (hb hby di_41) ?_
        exact kt
      exact Jvm.Y9.Aim.retN (t := .boolean) P0 hx hlk hret (by simp) (hb hby di_42) (by decide) (by decide) ⟨(by simp [h1_, nar]), rfl⟩
    · skip
      have zc : Arv Z h0 b kb .char (2 : Int32) [(.int u_), (.int v_)] (.int 0) := F1
      have H := P0.here
      refine Jvm.Y9.Aim.of (T' := s₁) (g' := (mkF m 1 #[.val (.ref a), .val (.ref b)] [(.ref a)])) (fun tgt kt => ?_) ?_
      · refine XS.aloadN H hx rfl (hb hby di_0) rfl rfl ?_
        exact kt
      refine Jvm.Y9.Aim.alen P0 hx hZ z9 (hb hby di_1) ?_
      have H := P0.here
      refine Jvm.Y9.Aim.of (T' := s₁) (g' := (mkF m 3 #[.val (.ref a), .val (.ref b)] [(.ref b), (.int 2)])) (fun tgt kt => ?_) ?_
      · refine XS.aloadN H hx rfl (hb hby di_2) rfl rfl ?_
        exact kt
      refine Jvm.Y9.Aim.alen P0 hx hZ zc (hb hby di_3) ?_
      have H := P0.here
      refine Jvm.Y9.Aim.of (T' := s₁) (g' := (mkF m 8 #[.val (.ref a), .val (.ref b)] [(.ref a)])) (fun tgt kt => ?_) ?_
      · refine XS.icmpNo H hx rfl (hb hby di_4) rfl (teq (by decide)).2 ?_
        refine XS.aloadN H hx rfl (hb hby di_7) rfl rfl ?_
        exact kt
      refine Jvm.Y9.Aim.alen P0 hx hZ z9 (hb hby di_8) ?_
      have H := P0.here
      refine Jvm.Y9.Aim.of (T' := s₁) (g' := (mkF m 15 #[.val (.ref a), .val (.ref b)] [(.int 0), (.ref a)])) (fun tgt kt => ?_) ?_
      · refine XS.iconst H hx rfl (hb hby di_9) ?_
        refine XS.icmpNo H hx rfl (hb hby di_10) rfl (flt (by decide)).1 ?_
        refine XS.aloadN H hx rfl (hb hby di_13) rfl rfl ?_
        refine XS.iconst H hx rfl (hb hby di_14) ?_
        exact kt
      refine Jvm.Y9.Aim.ldC (j := (0 : Int32)) (v := (.int a_)) P0 hx hZ z9 ⟨by decide, by decide⟩ rfl (hb hby di_15) ?_
      have H := P0.here
      refine Jvm.Y9.Aim.of (T' := s₁) (g' := (mkF m 18 #[.val (.ref a), .val (.ref b)] [(.int 0), (.ref b), (.int a_)])) (fun tgt kt => ?_) ?_
      · refine XS.aloadN H hx rfl (hb hby di_16) rfl rfl ?_
        refine XS.iconst H hx rfl (hb hby di_17) ?_
        exact kt
      refine Jvm.Y9.Aim.ldC (j := (0 : Int32)) (v := (.int u_)) P0 hx hZ zc ⟨by decide, by decide⟩ rfl (hb hby di_18) ?_
      by_cases zd : a_ = u_
      · skip
        have H := P0.here
        refine Jvm.Y9.Aim.of (T' := s₁) (g' := (mkF m 23 #[.val (.ref a), .val (.ref b)] [(.ref a)])) (fun tgt kt => ?_) ?_
        · refine XS.icmpNo H hx rfl (hb hby di_19) rfl (teq zd).2 ?_
          refine XS.aloadN H hx rfl (hb hby di_22) rfl rfl ?_
          exact kt
        refine Jvm.Y9.Aim.alen P0 hx hZ z9 (hb hby di_23) ?_
        have H := P0.here
        refine Jvm.Y9.Aim.of (T' := s₁) (g' := (mkF m 30 #[.val (.ref a), .val (.ref b)] [(.int 1), (.ref a)])) (fun tgt kt => ?_) ?_
        · refine XS.iconst H hx rfl (hb hby di_24) ?_
          refine XS.icmpNo H hx rfl (hb hby di_25) rfl (flt (by decide)).1 ?_
          refine XS.aloadN H hx rfl (hb hby di_28) rfl rfl ?_
          refine XS.iconst H hx rfl (hb hby di_29) ?_
          exact kt
        refine Jvm.Y9.Aim.ldC (j := (1 : Int32)) (v := (.int b_)) P0 hx hZ z9 ⟨by decide, by decide⟩ rfl (hb hby di_30) ?_
        have H := P0.here
        refine Jvm.Y9.Aim.of (T' := s₁) (g' := (mkF m 33 #[.val (.ref a), .val (.ref b)] [(.int 1), (.ref b), (.int b_)])) (fun tgt kt => ?_) ?_
        · refine XS.aloadN H hx rfl (hb hby di_31) rfl rfl ?_
          refine XS.iconst H hx rfl (hb hby di_32) ?_
          exact kt
        refine Jvm.Y9.Aim.ldC (j := (1 : Int32)) (v := (.int v_)) P0 hx hZ zc ⟨by decide, by decide⟩ rfl (hb hby di_33) ?_
        by_cases ze : b_ = v_
        · skip
          have H := P0.here
          refine Jvm.Y9.Aim.of (T' := s₁) (g' := (mkF m 42 #[.val (.ref a), .val (.ref b)] [(.int 1)])) (fun tgt kt => ?_) ?_
          · refine XS.icmpNo H hx rfl (hb hby di_34) rfl (teq ze).2 ?_
            refine XS.iconst H hx rfl (hb hby di_37) ?_
            refine XS.goto H hx rfl (pc0 := 38) (pc' := 42) rfl (hb hby di_38) (by decide) (by decide) ?_
            exact kt
          exact Jvm.Y9.Aim.retN (t := .boolean) P0 hx hlk hret (by simp) (hb hby di_42) (by decide) (by decide) ⟨(by simp [h1_, zd, ze, nar]), rfl⟩
        · skip
          have H := P0.here
          refine Jvm.Y9.Aim.of (T' := s₁) (g' := (mkF m 42 #[.val (.ref a), .val (.ref b)] [(.int 0)])) (fun tgt kt => ?_) ?_
          · refine XS.icmpYes H hx rfl (pc0 := 34) (pc' := 41) rfl (hb hby di_34) rfl (feq ze).2 (by decide) (by decide) ?_
            refine XS.iconst H hx rfl (hb hby di_41) ?_
            exact kt
          exact Jvm.Y9.Aim.retN (t := .boolean) P0 hx hlk hret (by simp) (hb hby di_42) (by decide) (by decide) ⟨(by simp [h1_, zd, ze, nar]), rfl⟩
      · skip
        have H := P0.here
        refine Jvm.Y9.Aim.of (T' := s₁) (g' := (mkF m 42 #[.val (.ref a), .val (.ref b)] [(.int 0)])) (fun tgt kt => ?_) ?_
        · refine XS.icmpYes H hx rfl (pc0 := 19) (pc' := 41) rfl (hb hby di_19) rfl (feq zd).2 (by decide) (by decide) ?_
          refine XS.iconst H hx rfl (hb hby di_41) ?_
          exact kt
        exact Jvm.Y9.Aim.retN (t := .boolean) P0 hx hlk hret (by simp) (hb hby di_42) (by decide) (by decide) ⟨(by simp [h1_, zd, nar]), rfl⟩
    · exact absurd h2_ (by simp only [List.length_cons]; omega)
  · exact absurd h1_ (by simp only [List.length_cons]; omega)
theorem dk_0 : decode prog_11_method_6_code 0 = .ok (.aload_n 1, 1) := by decide +kernel
theorem dk_1 : decode prog_11_method_6_code 1 = .ok (.instanceof 8, 3) := by decide +kernel
theorem dk_4 : decode prog_11_method_6_code 4 = .ok (.ifCond .ne 5, 3) := by decide +kernel
theorem dk_7 : decode prog_11_method_6_code 7 = .ok (.iconst 0, 1) := by decide +kernel
theorem dk_8 : decode prog_11_method_6_code 8 = .ok (.ireturn, 1) := by decide +kernel
theorem own_eqN (l : Launch) (Z : State) (a0 : Array Value) (hw : ∀ d ∈ tables_1, d.before a0 Z = true) (a : Addr) (h0 : Heap) (n0 : Nat) (Z0 : n0 ≤ h0.size) :
    Jvm.Y9.Con l Z (⟨"com/example/tophat_ledger/tophatledger/HoldingGroup", "equals", "(Ljava/lang/Object;)Z"⟩ : MethodName) prog_11_method_6_code 3 (some .boolean) ({ frames := 0, cells := 0, slots := 0, locals := 0 } : Room) n0 #[(.ref a), .null] h0 (fun v h => v = some (.int 0) ∧ h0 = h) := by
  refine Jvm.Y9.Con.intro (plainFor_of_name pn_com_example_tophat_ledger_tophatledger_HoldingGroup) ?_
  intro p e s m below meth c s₁ hx hby hml hret hnm hown hlk hZ P0
  refine Jvm.Y9.Aim.cast (by first | (simp [entryFrame, mkF, argsToLocals, Value.category]; done) | rfl : entryFrame m #[(.ref a), .null] 3 = (mkF m 0 #[.val (.ref a), .val .null, .unset] [])) ?_
  have H := P0.here
  refine Jvm.Y9.Aim.of (T' := s₁) (g' := (mkF m 1 #[.val (.ref a), .val .null, .unset] [.null])) (fun tgt kt => ?_) ?_
  · refine XS.aloadN H hx rfl (hb hby dk_0) rfl rfl ?_
    exact kt
  refine Jvm.Y9.Aim.instNull P0 hx (hb hby dk_1) ?_
  have H := P0.here
  refine Jvm.Y9.Aim.of (T' := s₁) (g' := (mkF m 8 #[.val (.ref a), .val .null, .unset] [(.int 0)])) (fun tgt kt => ?_) ?_
  · refine XS.ifNo H hx rfl (hb hby dk_4) rfl ((if0 _ _).trans (teq (by decide)).2) ?_
    refine XS.iconst H hx rfl (hb hby dk_7) ?_
    exact kt
  exact Jvm.Y9.Aim.retN (t := .boolean) P0 hx hlk hret (by simp) (hb hby dk_8) (by decide) (by decide) ⟨rfl, rfl⟩
theorem own_eqS (l : Launch) (Z : State) (a0 : Array Value) (hw : ∀ d ∈ tables_1, d.before a0 Z = true) (a : Addr) (o : Addr) (h0 : Heap) (n0 : Nat) (Z0 : n0 ≤ h0.size) (F0 : Exa Z h0 o "java/lang/String") :
    Jvm.Y9.Con l Z (⟨"com/example/tophat_ledger/tophatledger/HoldingGroup", "equals", "(Ljava/lang/Object;)Z"⟩ : MethodName) prog_11_method_6_code 3 (some .boolean) ({ frames := 0, cells := 0, slots := 0, locals := 0 } : Room) n0 #[(.ref a), (.ref o)] h0 (fun v h => v = some (.int 0) ∧ h0 = h) := by
  refine Jvm.Y9.Con.intro (plainFor_of_name pn_com_example_tophat_ledger_tophatledger_HoldingGroup) ?_
  intro p e s m below meth c s₁ hx hby hml hret hnm hown hlk hZ P0
  refine Jvm.Y9.Aim.cast (by first | (simp [entryFrame, mkF, argsToLocals, Value.category]; done) | rfl : entryFrame m #[(.ref a), (.ref o)] 3 = (mkF m 0 #[.val (.ref a), .val (.ref o), .unset] [])) ?_
  have H := P0.here
  refine Jvm.Y9.Aim.of (T' := s₁) (g' := (mkF m 1 #[.val (.ref a), .val (.ref o), .unset] [(.ref o)])) (fun tgt kt => ?_) ?_
  · refine XS.aloadN H hx rfl (hb hby dk_0) rfl rfl ?_
    exact kt
  refine Jvm.Y9.Aim.instNo P0 hx hZ hown (wI hw 96 rfl) F0 (Jvm.Y9.no_cast (wI hw 139 rfl) (wI hw 140 rfl) (wI hw 6 rfl) (by decide) (by decide)) (hb hby dk_1) ?_
  intro T634 P635
  have H := P635.here
  refine Jvm.Y9.Aim.of (T' := T634) (g' := (mkF m 8 #[.val (.ref a), .val (.ref o), .unset] [(.int 0)])) (fun tgt kt => ?_) ?_
  · refine XS.ifNo H hx rfl (hb hby dk_4) rfl ((if0 _ _).trans (teq (by decide)).2) ?_
    refine XS.iconst H hx rfl (hb hby dk_7) ?_
    exact kt
  exact Jvm.Y9.Aim.retN (t := .boolean) P635 hx hlk hret (by simp) (hb hby dk_8) (by decide) (by decide) ⟨rfl, rfl⟩
theorem by_contra_if {p : Prop} [Decidable p] (h : ¬ (if p then (1 : Int32) else (0 : Int32)) = 0) : p := by
  by_cases q : p
  · exact q
  · exact absurd (if_neg q) h
theorem dk_9 : decode prog_11_method_6_code 9 = .ok (.aload_n 1, 1) := by decide +kernel
theorem dk_10 : decode prog_11_method_6_code 10 = .ok (.checkcast 8, 3) := by decide +kernel
theorem dk_13 : decode prog_11_method_6_code 13 = .ok (.astore_n 2, 1) := by decide +kernel
theorem dk_14 : decode prog_11_method_6_code 14 = .ok (.aload_n 0, 1) := by decide +kernel
theorem dk_15 : decode prog_11_method_6_code 15 = .ok (.getfield 13, 3) := by decide +kernel
theorem dk_18 : decode prog_11_method_6_code 18 = .ok (.aload_n 2, 1) := by decide +kernel
theorem dk_19 : decode prog_11_method_6_code 19 = .ok (.getfield 13, 3) := by decide +kernel
theorem dk_22 : decode prog_11_method_6_code 22 = .ok (.if_icmp .ne 35, 3) := by decide +kernel
theorem dk_25 : decode prog_11_method_6_code 25 = .ok (.aload_n 0, 1) := by decide +kernel
theorem dk_26 : decode prog_11_method_6_code 26 = .ok (.getfield 7, 3) := by decide +kernel
theorem dk_29 : decode prog_11_method_6_code 29 = .ok (.aload_n 2, 1) := by decide +kernel
theorem dk_30 : decode prog_11_method_6_code 30 = .ok (.getfield 7, 3) := by decide +kernel
theorem dk_33 : decode prog_11_method_6_code 33 = .ok (.invokevirtual 44, 3) := by decide +kernel
theorem pd__28Ljava_2flang_2fObject_3b_29Z : parseMethodDescriptor "(Ljava/lang/Object;)Z" = some ⟨[(.object "java/lang/Object")], some .boolean⟩ := by decide +kernel
theorem dk_36 : decode prog_11_method_6_code 36 = .ok (.ifCond .eq 21, 3) := by decide +kernel
theorem dk_57 : decode prog_11_method_6_code 57 = .ok (.iconst 0, 1) := by decide +kernel
theorem dk_58 : decode prog_11_method_6_code 58 = .ok (.ireturn, 1) := by decide +kernel
theorem dk_39 : decode prog_11_method_6_code 39 = .ok (.aload_n 0, 1) := by decide +kernel
theorem dk_40 : decode prog_11_method_6_code 40 = .ok (.getfield 17, 3) := by decide +kernel
theorem dk_43 : decode prog_11_method_6_code 43 = .ok (.aload_n 2, 1) := by decide +kernel
theorem dk_44 : decode prog_11_method_6_code 44 = .ok (.getfield 17, 3) := by decide +kernel
theorem dk_47 : decode prog_11_method_6_code 47 = .ok (.invokevirtual 44, 3) := by decide +kernel
theorem dk_50 : decode prog_11_method_6_code 50 = .ok (.ifCond .eq 7, 3) := by decide +kernel
theorem dk_53 : decode prog_11_method_6_code 53 = .ok (.iconst 1, 1) := by decide +kernel
theorem dk_54 : decode prog_11_method_6_code 54 = .ok (.goto 4, 3) := by decide +kernel
theorem own_eqH (l : Launch) (Z : State) (a0 : Array Value) (hw : ∀ d ∈ tables_1, d.before a0 Z = true) (a : Addr) (y : Int32) (x : Addr) (tx : Addr) (kx : ClassId) (xs : List Int32) (z : Addr) (tz : Addr) (kz : ClassId) (zs : List Int32) (a' : Addr) (y' : Int32) (x' : Addr) (tx' : Addr) (kx' : ClassId) (xs' : List Int32) (z' : Addr) (tz' : Addr) (kz' : ClassId) (zs' : List Int32) (h0 : Heap) (n0 : Nat) (Z0 : n0 ≤ h0.size) (F0 : Exa Z h0 a "com/example/tophat_ledger/tophatledger/HoldingGroup") (F1 : Fld Z h0 a "com/example/tophat_ledger/tophatledger/HoldingGroup" "participant" "Ljava/lang/String;" (.ref x)) (F2 : Fld Z h0 a "com/example/tophat_ledger/tophatledger/HoldingGroup" "year" "I" (.int y)) (F3 : Fld Z h0 a "com/example/tophat_ledger/tophatledger/HoldingGroup" "source" "Ljava/lang/String;" (.ref z)) (F4 : Str Z h0 x tx kx xs) (F5 : Str Z h0 z tz kz zs) (F6 : Exa Z h0 a' "com/example/tophat_ledger/tophatledger/HoldingGroup") (F7 : Fld Z h0 a' "com/example/tophat_ledger/tophatledger/HoldingGroup" "participant" "Ljava/lang/String;" (.ref x')) (F8 : Fld Z h0 a' "com/example/tophat_ledger/tophatledger/HoldingGroup" "year" "I" (.int y')) (F9 : Fld Z h0 a' "com/example/tophat_ledger/tophatledger/HoldingGroup" "source" "Ljava/lang/String;" (.ref z')) (F10 : Str Z h0 x' tx' kx' xs') (F11 : Str Z h0 z' tz' kz' zs') (F12 : Old Z n0 h0) (G : Cmp Z) :
    Jvm.Y9.Con l Z (⟨"com/example/tophat_ledger/tophatledger/HoldingGroup", "equals", "(Ljava/lang/Object;)Z"⟩ : MethodName) prog_11_method_6_code 3 (some .boolean) ({ frames := 2, cells := 0, slots := 0, locals := 28 } : Room) n0 #[(.ref a), (.ref a')] h0 (fun v h => v = some (.int (eqV y y' xs xs' zs zs')) ∧ h0 = h) := by
  refine Jvm.Y9.Con.intro (plainFor_of_name pn_com_example_tophat_ledger_tophatledger_HoldingGroup) ?_
  intro p e s m below meth c s₁ hx hby hml hret hnm hown hlk hZ P0
  refine Jvm.Y9.Aim.cast (by first | (simp [entryFrame, mkF, argsToLocals, Value.category]; done) | rfl : entryFrame m #[(.ref a), (.ref a')] 3 = (mkF m 0 #[.val (.ref a), .val (.ref a'), .unset] [])) ?_
  have H := P0.here
  refine Jvm.Y9.Aim.of (T' := s₁) (g' := (mkF m 1 #[.val (.ref a), .val (.ref a'), .unset] [(.ref a')])) (fun tgt kt => ?_) ?_
  · refine XS.aloadN H hx rfl (hb hby dk_0) rfl rfl ?_
    exact kt
  refine Jvm.Y9.Aim.instY P0 hx hZ hown (wI hw 96 rfl) (Ins.self F6) (hb hby dk_1) ?_
  intro z0 z1
  have H := z1.here
  refine Jvm.Y9.Aim.of (T' := z0) (g' := (mkF m 10 #[.val (.ref a), .val (.ref a'), .unset] [(.ref a')])) (fun tgt kt => ?_) ?_
  · refine XS.ifYes H hx rfl (pc0 := 4) (pc' := 9) rfl (hb hby dk_4) rfl ((if0 _ _).trans (feq (by decide)).2) (by decide) (by decide) ?_
    refine XS.aloadN H hx rfl (hb hby dk_9) rfl rfl ?_
    exact kt
  refine Jvm.Y9.Aim.castY z1 hx hZ hown (wI hw 96 rfl) (Ins.self F6) (hb hby dk_10) ?_
  intro z2 z3
  have H := z3.here
  refine Jvm.Y9.Aim.of (T' := z2) (g' := (mkF m 15 #[.val (.ref a), .val (.ref a'), .val (.ref a')] [(.ref a)])) (fun tgt kt => ?_) ?_
  · refine XS.astoreN H hx rfl (hb hby dk_13) rfl rfl (l' := #[.val (.ref a), .val (.ref a'), .val (.ref a')]) rfl ?_
    refine XS.aloadN H hx rfl (hb hby dk_14) rfl rfl ?_
    exact kt
  refine Jvm.Y9.Aim.getF z3 hx hZ hown (host := "") (Or.inl (wI hw 35 rfl)) Via.refl F2 (hb hby dk_15) ?_
  intro z4 z5
  have H := z5.here
  refine Jvm.Y9.Aim.of (T' := z4) (g' := (mkF m 19 #[.val (.ref a), .val (.ref a'), .val (.ref a')] [(.ref a'), (.int y)])) (fun tgt kt => ?_) ?_
  · refine XS.aloadN H hx rfl (hb hby dk_18) rfl rfl ?_
    exact kt
  refine Jvm.Y9.Aim.getF z5 hx hZ hown (host := "") (Or.inl (wI hw 35 rfl)) Via.refl F8 (hb hby dk_19) ?_
  intro z6 z7
  by_cases z8 : y = y'
  · skip
    have H := z7.here
    refine Jvm.Y9.Aim.of (T' := z6) (g' := (mkF m 26 #[.val (.ref a), .val (.ref a'), .val (.ref a')] [(.ref a)])) (fun tgt kt => ?_) ?_
    · refine XS.icmpNo H hx rfl (hb hby dk_22) rfl (teq z8).2 ?_
      refine XS.aloadN H hx rfl (hb hby dk_25) rfl rfl ?_
      exact kt
    refine Jvm.Y9.Aim.getF z7 hx hZ hown (host := "") (Or.inl (wI hw 33 rfl)) Via.refl F1 (hb hby dk_26) ?_
    intro z9 za
    have H := za.here
    refine Jvm.Y9.Aim.of (T' := z9) (g' := (mkF m 30 #[.val (.ref a), .val (.ref a'), .val (.ref a')] [(.ref a'), (.ref x)])) (fun tgt kt => ?_) ?_
    · refine XS.aloadN H hx rfl (hb hby dk_29) rfl rfl ?_
      exact kt
    refine Jvm.Y9.Aim.getF za hx hZ hown (host := "") (Or.inl (wI hw 33 rfl)) Via.refl F7 (hb hby dk_30) ?_
    intro zb zc
    refine Jvm.Y9.Aim.callV (argsL := [(.ref x')]) (rest := []) (y := (⟨"java/lang/String", "equals", "(Ljava/lang/Object;)Z"⟩ : MethodName)) (z := (⟨"java/lang/String", "equals", "(Ljava/lang/Object;)Z"⟩ : MethodName)) zc hx hZ hml hown (wI hw 98 rfl) (wI hw 99 rfl) (notFace_of_selects (args := #[]) (mvT hZ (wI hw 101 rfl))) (wI hw 101 rfl) (wI hw 100 rfl) (by decide) F4.1 (own_eqStr (W := 0) hZ (by decide) (by decide) hw x tx kx xs x' tx' kx' xs' h0 n0 Z0 F4 F10 F12 G) rfl pd__28Ljava_2flang_2fObject_3b_29Z rfl (Nat.le_of_eq rfl) (hb hby dk_33) (by decide) (by decide) ?_
    intro zd ze zf zg zh
    obtain ⟨rfl, rfl⟩ := zh
    by_cases zi : (if xs = xs' then (1 : Int32) else (0 : Int32)) = (0 : Int32)
    · skip
      have H := zg.here
      refine Jvm.Y9.Aim.of (T' := zd) (g' := (mkF m 58 #[.val (.ref a), .val (.ref a'), .val (.ref a')] [(.int 0)])) (fun tgt kt => ?_) ?_
      · refine XS.ifYes H hx rfl (pc0 := 36) (pc' := 57) rfl (hb hby dk_36) rfl ((if0 _ _).trans (teq zi).1) (by decide) (by decide) ?_
        refine XS.iconst H hx rfl (hb hby dk_57) ?_
        exact kt
      exact Jvm.Y9.Aim.retN (t := .boolean) zg hx hlk hret (by simp) (hb hby dk_58) (by decide) (by decide) ⟨(by rw [eqV, if_neg (fun q => by rw [if_pos q.2.1] at zi; cases zi)]; rfl), rfl⟩
    · skip
      have H := zg.here
      refine Jvm.Y9.Aim.of (T' := zd) (g' := (mkF m 40 #[.val (.ref a), .val (.ref a'), .val (.ref a')] [(.ref a)])) (fun tgt kt => ?_) ?_
      · refine XS.ifNo H hx rfl (hb hby dk_36) rfl ((if0 _ _).trans (feq zi).1) ?_
        refine XS.aloadN H hx rfl (hb hby dk_39) rfl rfl ?_
        exact kt
      refine Jvm.Y9.Aim.getF zg hx hZ hown (host := "") (Or.inl (wI hw 37 rfl)) Via.refl F3 (hb hby dk_40) ?_
      intro zj zk
      have H := zk.here
      refine Jvm.Y9.Aim.of (T' := zj) (g' := (mkF m 44 #[.val (.ref a), .val (.ref a'), .val (.ref a')] [(.ref a'), (.ref z)])) (fun tgt kt => ?_) ?_
      · refine XS.aloadN H hx rfl (hb hby dk_43) rfl rfl ?_
        exact kt
      refine Jvm.Y9.Aim.getF zk hx hZ hown (host := "") (Or.inl (wI hw 37 rfl)) Via.refl F9 (hb hby dk_44) ?_
      intro zl zm
      refine Jvm.Y9.Aim.callV (argsL := [(.ref z')]) (rest := []) (y := (⟨"java/lang/String", "equals", "(Ljava/lang/Object;)Z"⟩ : MethodName)) (z := (⟨"java/lang/String", "equals", "(Ljava/lang/Object;)Z"⟩ : MethodName)) zm hx hZ hml hown (wI hw 98 rfl) (wI hw 99 rfl) (notFace_of_selects (args := #[]) (mvT hZ (wI hw 101 rfl))) (wI hw 101 rfl) (wI hw 100 rfl) (by decide) F5.1 (own_eqStr (W := 0) hZ (by decide) (by decide) hw z tz kz zs z' tz' kz' zs' h0 n0 Z0 F5 F11 F12 G) rfl pd__28Ljava_2flang_2fObject_3b_29Z rfl (Nat.le_of_eq rfl) (hb hby dk_47) (by decide) (by decide) ?_
      intro zn zo zp zq zr
      obtain ⟨rfl, rfl⟩ := zr
      by_cases zt : (if zs = zs' then (1 : Int32) else (0 : Int32)) = (0 : Int32)
      · skip
        have H := zq.here
        refine Jvm.Y9.Aim.of (T' := zn) (g' := (mkF m 58 #[.val (.ref a), .val (.ref a'), .val (.ref a')] [(.int 0)])) (fun tgt kt => ?_) ?_
        · refine XS.ifYes H hx rfl (pc0 := 50) (pc' := 57) rfl (hb hby dk_50) rfl ((if0 _ _).trans (teq zt).1) (by decide) (by decide) ?_
          refine XS.iconst H hx rfl (hb hby dk_57) ?_
          exact kt
        exact Jvm.Y9.Aim.retN (t := .boolean) zq hx hlk hret (by simp) (hb hby dk_58) (by decide) (by decide) ⟨(by rw [eqV, if_neg (fun q => by rw [if_pos q.2.2] at zt; cases zt)]; rfl), rfl⟩
      · skip
        have H := zq.here
        refine Jvm.Y9.Aim.of (T' := zn) (g' := (mkF m 58 #[.val (.ref a), .val (.ref a'), .val (.ref a')] [(.int 1)])) (fun tgt kt => ?_) ?_
        · refine XS.ifNo H hx rfl (hb hby dk_50) rfl ((if0 _ _).trans (feq zt).1) ?_
          refine XS.iconst H hx rfl (hb hby dk_53) ?_
          refine XS.goto H hx rfl (pc0 := 54) (pc' := 58) rfl (hb hby dk_54) (by decide) (by decide) ?_
          exact kt
        exact Jvm.Y9.Aim.retN (t := .boolean) zq hx hlk hret (by simp) (hb hby dk_58) (by decide) (by decide) ⟨(by rw [eqV, if_pos ⟨z8, by_contra_if zi, by_contra_if zt⟩]; rfl), rfl⟩
  · skip
    have H := z7.here
    refine Jvm.Y9.Aim.of (T' := z6) (g' := (mkF m 58 #[.val (.ref a), .val (.ref a'), .val (.ref a')] [(.int 0)])) (fun tgt kt => ?_) ?_
    · refine XS.icmpYes H hx rfl (pc0 := 22) (pc' := 57) rfl (hb hby dk_22) rfl (feq z8).2 (by decide) (by decide) ?_
      refine XS.iconst H hx rfl (hb hby dk_57) ?_
      exact kt
    exact Jvm.Y9.Aim.retN (t := .boolean) z7 hx hlk hret (by simp) (hb hby dk_58) (by decide) (by decide) ⟨(by rw [eqV, if_neg (fun q => z8 q.1)]; rfl), rfl⟩
theorem pd__28I_29_5bC : parseMethodDescriptor "(I)[C" = some ⟨[.int], some (.array .char)⟩ := by decide +kernel
theorem pd__28_5bC_29V : parseMethodDescriptor "([C)V" = some ⟨[(.array .char)], none⟩ := by decide +kernel
theorem pd__28Ljava_2flang_2fString_3bILjava_2flang_2fString_3b_29V : parseMethodDescriptor "(Ljava/lang/String;ILjava/lang/String;)V" = some ⟨[(.object "java/lang/String"), .int, (.object "java/lang/String")], none⟩ := by decide +kernel
theorem pd__28_5bC_5bC_29Z : parseMethodDescriptor "([C[C)Z" = some ⟨[(.array .char), (.array .char)], some .boolean⟩ := by decide +kernel
theorem own_law (l : Launch) (Z : State) (a0 : Array Value) (hw : ∀ d ∈ tables_1, d.before a0 Z = true) (p1 : Int32) (p2 : Int32) (p3 : Int32) (p4 : Int32) (p5 : Int32) (p6 : Int32) (h0 : Heap) (n0 : Nat) (Z0 : n0 ≤ h0.size) (Lc0 : List Addr) (F0 : Old Z n0 h0) (G : Cmp Z) (GI : Ica Z) (GL : ∀ c ∈ LC.1, Jvm.Q9.LitZ Z c) :
    Jvm.Q9.Con l Z LC x code maxLocals ret room_1 n0 #[(.int p1), (.int p2), (.int p3), (.int p4), (.int p5), (.int p6)] h0 Lc0 (fun v h Lc => v = some (.int 1) ∧ Keep h0 h []) := by
  refine Jvm.Q9.Con.intro (plainFor_of_name pn_com_example_tophat_ledger_tophatledger_HoldingGroupEqualsPinLaw) ?_
  intro p e s m below meth c s₁ hx hby hml hret hnm hown hlk hZ hs0 P0
  refine Jvm.Q9.Aim.cast (by first | (simp [entryFrame, mkF, argsToLocals, Value.category, maxLocals]; done) | rfl : entryFrame m #[(.int p1), (.int p2), (.int p3), (.int p4), (.int p5), (.int p6)] maxLocals = (mkF m 0 #[.val (.int p1), .val (.int p2), .val (.int p3), .val (.int p4), .val (.int p5), .val (.int p6), .unset, .unset, .unset, .unset, .unset, .unset, .unset, .unset, .unset] [])) ?_
  have H := P0.here
  refine Jvm.Q9.Aim.of (T' := s₁) (g' := (mkF m 1 #[.val (.int p1), .val (.int p2), .val (.int p3), .val (.int p4), .val (.int p5), .val (.int p6), .unset, .unset, .unset, .unset, .unset, .unset, .unset, .unset, .unset] [(.int p1)])) (fun tgt kt => ?_) ?_
  · refine XS.iloadN H hx rfl (hb hby at_0) rfl ?_
    exact kt
  refine Jvm.Q9.Aim.callS (argsL := [(.int p1)]) (rest := []) P0 hx hZ hml hown (wI hw 0 rfl) (wI hw 1 rfl) (wI hw 2 rfl) (wI hw 3 rfl) (by decide) (fun vm0 hZ => Jvm.Y9.Con.back (s := s.setVm vm0) (W := 0) (own_text l Z a0 hw p1 h0 n0 Z0) hZ (wI hw 3 rfl) (wI hw 2 rfl) (by decide) (by decide)) (fun _ _ ⟨_, _, _, q, _, _⟩ => q) all0 rfl pd__28I_29_5bC rfl (Nat.le_of_eq rfl) (hb hby at_1) (by decide) (by decide) ?_
  intro z0 z1 z2 z3 z4
  obtain ⟨c_676, kC_677, rfl, z5, z6, z7⟩ := z4
  have z8 : Keep h0 z1 [] := (Keep.refl h0 []).trans z5 all0
  have H := z3.here
  refine Jvm.Q9.Aim.of (T' := z0) (g' := (mkF m 10 #[.val (.int p1), .val (.int p2), .val (.int p3), .val (.int p4), .val (.int p5), .val (.int p6), .val (.ref c_676), .unset, .unset, .unset, .unset, .unset, .unset, .unset, .unset] [(.int (p6 &&& (1 : Int32)))])) (fun tgt kt => ?_) ?_
  · refine XS.astore H hx rfl (hb hby at_4) rfl rfl (l' := #[.val (.int p1), .val (.int p2), .val (.int p3), .val (.int p4), .val (.int p5), .val (.int p6), .val (.ref c_676), .unset, .unset, .unset, .unset, .unset, .unset, .unset, .unset]) rfl ?_
    refine XS.iload H hx rfl (hb hby at_6) rfl ?_
    refine XS.iconst H hx rfl (hb hby at_8) ?_
    refine XS.iand H hx rfl (hb hby at_9) rfl ?_
    exact kt
  by_cases z9 : (p6 &&& (1 : Int32)) = (0 : Int32)
  · skip
    have H := z3.here
    refine Jvm.Q9.Aim.of (T' := z0) (g' := (mkF m 21 #[.val (.int p1), .val (.int p2), .val (.int p3), .val (.int p4), .val (.int p5), .val (.int p6), .val (.ref c_676), .unset, .unset, .unset, .unset, .unset, .unset, .unset, .unset] [(.int p2)])) (fun tgt kt => ?_) ?_
    · refine XS.ifYes H hx rfl (pc0 := 10) (pc' := 20) rfl (hb hby at_10) rfl ((if0 _ _).trans (teq z9).1) (by decide) (by decide) ?_
      refine XS.iloadN H hx rfl (hb hby at_20) rfl ?_
      exact kt
    refine Jvm.Q9.Aim.callS (argsL := [(.int p2)]) (rest := []) z3 hx hZ hml hown (wI hw 0 rfl) (wI hw 1 rfl) (wI hw 2 rfl) (wI hw 3 rfl) (by decide) (fun vm0 hZ => Jvm.Y9.Con.back (s := s.setVm vm0) (W := 0) (own_text l Z a0 hw p2 z1 n0 (lT Z0 (z8.1))) hZ (wI hw 3 rfl) (wI hw 2 rfl) (by decide) (by decide)) (fun _ _ ⟨_, _, _, q, _, _⟩ => q) all0 rfl pd__28I_29_5bC rfl (Nat.le_of_eq rfl) (hb hby at_21) (by decide) (by decide) ?_
    intro za zb zc zd ze
    obtain ⟨c_690, kC_691, rfl, zf, zg, zh⟩ := ze
    have zi : Keep h0 zb [] := z8.trans zf all0
    have H := zd.here
    refine Jvm.Q9.Aim.of (T' := za) (g' := (mkF m 28 #[.val (.int p1), .val (.int p2), .val (.int p3), .val (.int p4), .val (.int p5), .val (.int p6), .val (.ref c_676), .val (.ref c_690), .unset, .unset, .unset, .unset, .unset, .unset, .unset] [(.int p5)])) (fun tgt kt => ?_) ?_
    · refine XS.astore H hx rfl (hb hby at_24) rfl rfl (l' := #[.val (.int p1), .val (.int p2), .val (.int p3), .val (.int p4), .val (.int p5), .val (.int p6), .val (.ref c_676), .val (.ref c_690), .unset, .unset, .unset, .unset, .unset, .unset, .unset]) rfl ?_
      refine XS.iload H hx rfl (hb hby at_26) rfl ?_
      exact kt
    refine Jvm.Q9.Aim.callS (argsL := [(.int p5)]) (rest := []) zd hx hZ hml hown (wI hw 0 rfl) (wI hw 1 rfl) (wI hw 2 rfl) (wI hw 3 rfl) (by decide) (fun vm0 hZ => Jvm.Y9.Con.back (s := s.setVm vm0) (W := 0) (own_text l Z a0 hw p5 zb n0 (lT Z0 (zi.1))) hZ (wI hw 3 rfl) (wI hw 2 rfl) (by decide) (by decide)) (fun _ _ ⟨_, _, _, q, _, _⟩ => q) all0 rfl pd__28I_29_5bC rfl (Nat.le_of_eq rfl) (hb hby at_28) (by decide) (by decide) ?_
    intro zj zk zl zm zn
    obtain ⟨c_703, kC_704, rfl, zo, zp, zq⟩ := zn
    have zr : Keep h0 zk [] := zi.trans zo all0
    have H := zm.here
    refine Jvm.Q9.Aim.of (T' := zj) (g' := (mkF m 37 #[.val (.int p1), .val (.int p2), .val (.int p3), .val (.int p4), .val (.int p5), .val (.int p6), .val (.ref c_676), .val (.ref c_690), .val (.ref c_703), .unset, .unset, .unset, .unset, .unset, .unset] [(.int (p6 &&& (4 : Int32)))])) (fun tgt kt => ?_) ?_
    · refine XS.astore H hx rfl (hb hby at_31) rfl rfl (l' := #[.val (.int p1), .val (.int p2), .val (.int p3), .val (.int p4), .val (.int p5), .val (.int p6), .val (.ref c_676), .val (.ref c_690), .val (.ref c_703), .unset, .unset, .unset, .unset, .unset, .unset]) rfl ?_
      refine XS.iload H hx rfl (hb hby at_33) rfl ?_
      refine XS.iconst H hx rfl (hb hby at_35) ?_
      refine XS.iand H hx rfl (hb hby at_36) rfl ?_
      exact kt
    by_cases zs : (p6 &&& (4 : Int32)) = (0 : Int32)
    · skip
      have H := zm.here
      refine Jvm.Q9.Aim.of (T' := zj) (g' := (mkF m 52 #[.val (.int p1), .val (.int p2), .val (.int p3), .val (.int p4), .val (.int p5), .val (.int p6), .val (.ref c_676), .val (.ref c_690), .val (.ref c_703), .unset, .unset, .unset, .unset, .unset, .unset] [(.int ((p6.toUInt32 >>> ((3 : Int32) &&& 31).toUInt32).toInt32))])) (fun tgt kt => ?_) ?_
      · refine XS.ifYes H hx rfl (pc0 := 37) (pc' := 48) rfl (hb hby at_37) rfl ((if0 _ _).trans (teq zs).1) (by decide) (by decide) ?_
        refine XS.iload H hx rfl (hb hby at_48) rfl ?_
        refine XS.iconst H hx rfl (hb hby at_50) ?_
        refine XS.iushr H hx rfl (hb hby at_51) rfl ?_
        exact kt
      refine Jvm.Q9.Aim.callS (argsL := [(.int ((p6.toUInt32 >>> ((3 : Int32) &&& 31).toUInt32).toInt32))]) (rest := []) zm hx hZ hml hown (wI hw 0 rfl) (wI hw 1 rfl) (wI hw 2 rfl) (wI hw 3 rfl) (by decide) (fun vm0 hZ => Jvm.Y9.Con.back (s := s.setVm vm0) (W := 0) (own_text l Z a0 hw ((p6.toUInt32 >>> ((3 : Int32) &&& 31).toUInt32).toInt32) zk n0 (lT Z0 (zr.1))) hZ (wI hw 3 rfl) (wI hw 2 rfl) (by decide) (by decide)) (fun _ _ ⟨_, _, _, q, _, _⟩ => q) all0 rfl pd__28I_29_5bC rfl (Nat.le_of_eq rfl) (hb hby at_52) (by decide) (by decide) ?_
      intro zt zu zv zw zx
      obtain ⟨c_717, kC_718, rfl, zy, zz, z10⟩ := zx
      have z11 : Keep h0 zu [] := zr.trans zy all0
      have H := zw.here
      refine Jvm.Q9.Aim.of (T' := zt) (g' := (mkF m 61 #[.val (.int p1), .val (.int p2), .val (.int p3), .val (.int p4), .val (.int p5), .val (.int p6), .val (.ref c_676), .val (.ref c_690), .val (.ref c_703), .val (.ref c_717), .unset, .unset, .unset, .unset, .unset] [(.int (p6 &&& (2 : Int32)))])) (fun tgt kt => ?_) ?_
      · refine XS.astore H hx rfl (hb hby at_55) rfl rfl (l' := #[.val (.int p1), .val (.int p2), .val (.int p3), .val (.int p4), .val (.int p5), .val (.int p6), .val (.ref c_676), .val (.ref c_690), .val (.ref c_703), .val (.ref c_717), .unset, .unset, .unset, .unset, .unset]) rfl ?_
        refine XS.iload H hx rfl (hb hby at_57) rfl ?_
        refine XS.iconst H hx rfl (hb hby at_59) ?_
        refine XS.iand H hx rfl (hb hby at_60) rfl ?_
        exact kt
      have z12 : ∀ z13 : Int32, z13 = (if (p6 &&& (2 : Int32)) = (0 : Int32) then p4 else p3) → Jvm.Q9.Aim p e below s (room_1 : Room).cells (room_1 : Room).slots n0 (Jvm.Q9.QW Z LC h0 Lc0 (fun v h Lc => v = some (.int 1) ∧ Keep h0 h [])) zt (mkF m 69 #[.val (.int p1), .val (.int p2), .val (.int p3), .val (.int p4), .val (.int p5), .val (.int p6), .val (.ref c_676), .val (.ref c_690), .val (.ref c_703), .val (.ref c_717), .unset, .unset, .unset, .unset, .unset] [(.int z13)]) := by
        intro z13 z14
        have H := zw.here
        refine Jvm.Q9.Aim.of (T' := zt) (g' := (mkF m 71 #[.val (.int p1), .val (.int p2), .val (.int p3), .val (.int p4), .val (.int p5), .val (.int p6), .val (.ref c_676), .val (.ref c_690), .val (.ref c_703), .val (.ref c_717), .val (.int z13), .unset, .unset, .unset, .unset] [])) (fun tgt kt => ?_) ?_
        · refine XS.istore H hx rfl (hb hby at_69) rfl (l' := #[.val (.int p1), .val (.int p2), .val (.int p3), .val (.int p4), .val (.int p5), .val (.int p6), .val (.ref c_676), .val (.ref c_690), .val (.ref c_703), .val (.ref c_717), .val (.int z13), .unset, .unset, .unset, .unset]) rfl ?_
          exact kt
        refine Jvm.Q9.Aim.newO zw hx hZ hown (wI hw 5 rfl) (wI hw 6 rfl) (wI hw 7 rfl) (hb hby at_71) (by decide) (by decide) ?_
        intro z15 z16 z17 z18 z19 z1a z1b z1c z1d
        have z1e : Keep zu z16 [] := (Keep.refl _ _).ext z1a
        have z1f : Keep h0 z16 [] := z11.trans z1e all0
        have z1g : Fld Z z16 z17 "com/example/tophat_ledger/tophatledger/HoldingGroup" "participant" "Ljava/lang/String;" .null := z1c (Or.inr (wI hw 34 rfl)) (ty := (.object "java/lang/String")) (by decide)
        have z1h : Fld Z z16 z17 "com/example/tophat_ledger/tophatledger/HoldingGroup" "year" "I" (.int 0) := z1c (Or.inr (wI hw 36 rfl)) (ty := .int) (by decide)
        have z1i : Fld Z z16 z17 "com/example/tophat_ledger/tophatledger/HoldingGroup" "source" "Ljava/lang/String;" .null := z1c (Or.inr (wI hw 38 rfl)) (ty := (.object "java/lang/String")) (by decide)
        have z1j : Fld Z z16 z17 "com/example/tophat_ledger/tophatledger/HoldingGroup" "hash" "I" (.int 0) := z1c (Or.inr (wI hw 87 rfl)) (ty := .int) (by decide)
        have H := z19.here
        refine Jvm.Q9.Aim.of (T' := z15) (g' := (mkF m 75 #[.val (.int p1), .val (.int p2), .val (.int p3), .val (.int p4), .val (.int p5), .val (.int p6), .val (.ref c_676), .val (.ref c_690), .val (.ref c_703), .val (.ref c_717), .val (.int z13), .unset, .unset, .unset, .unset] [(.ref z17), (.ref z17)])) (fun tgt kt => ?_) ?_
        · refine XS.dup H hx rfl (hb hby at_74) rfl rfl ?_
          exact kt
        refine Jvm.Q9.Aim.newO z19 hx hZ hown (wI hw 8 rfl) (wI hw 9 rfl) (wI hw 10 rfl) (hb hby at_75) (by decide) (by decide) ?_
        intro z1k z1l z1m z1n z1o z1p z1q z1r z1s
        have z1t : Keep z16 z1l [] := (Keep.refl _ _).ext z1p
        have z1u : Keep h0 z1l [] := z1f.trans z1t all0
        have z1v : Fld Z z1l z1m "java/lang/String" "value" "[B" .null := z1r (Or.inr (wI hw 23 rfl)) (ty := (.array .byte)) (by decide)
        have z1w : Fld Z z1l z1m "java/lang/String" "coder" "B" (.int 0) := z1r (Or.inr (wI hw 24 rfl)) (ty := .byte) (by decide)
        have z1x : Fld Z z1l z1m "java/lang/String" "hash" "I" (.int 0) := z1r (Or.inl (wI hw 65 rfl)) (ty := .int) (by decide)
        have z1y : Fld Z z1l z1m "java/lang/String" "hashIsZero" "Z" (.int 0) := z1r (Or.inl (wI hw 67 rfl)) (ty := .boolean) (by decide)
        have H := z1o.here
        refine Jvm.Q9.Aim.of (T' := z1k) (g' := (mkF m 81 #[.val (.int p1), .val (.int p2), .val (.int p3), .val (.int p4), .val (.int p5), .val (.int p6), .val (.ref c_676), .val (.ref c_690), .val (.ref c_703), .val (.ref c_717), .val (.int z13), .unset, .unset, .unset, .unset] [(.ref c_676), (.ref z1m), (.ref z1m), (.ref z17), (.ref z17)])) (fun tgt kt => ?_) ?_
        · refine XS.dup H hx rfl (hb hby at_78) rfl rfl ?_
          refine XS.aload H hx rfl (hb hby at_79) rfl rfl ?_
          exact kt
        have z1z : Arv Z z1l c_676 kC_677 .char (Int32.ofNat (txt p1).length) ((txt p1).map Value.int) (.int 0) := (((((z7.keep zf nin0).keep zo nin0).keep zy nin0).keep z1e nin0).keep z1t nin0)
        have z20 : Old Z n0 z1l := ((((((F0.keep z5 all0).keep zf all0).keep zo all0).keep zy all0).keep z1e all0).keep z1t all0)
        refine Jvm.Q9.Aim.callCW (argsL := [(.ref c_676)]) (rest := [(.ref z1m), (.ref z17), (.ref z17)]) z1o hx hZ hml hown rfl (wI hw 11 rfl) (wI hw 12 rfl) (wI hw 13 rfl) (by decide) (Jvm.Q9.Con.back (W := 3) (own_sC l Z a0 hw z1m c_676 kC_677 (txt p1) (.null) (.int 0) z1l n0 (lT Z0 (z1u.1)) Lc0 (lT (lT Z0 (z1f.1)) (Nat.le_of_eq z1n.symm)) (Jvm.Q9.nl_new P0.ltL (lT (z1f.1) (Nat.le_of_eq z1n.symm))) z1q z1v z1w z1x z1y z1z z20 (txt_len _) (txt_in _) G GL) (wI hw 13 rfl) (wI hw 10 rfl) (by decide) (by decide)) rfl pd__28_5bC_29V rfl (Nat.le_of_eq rfl) (hb hby at_81) (by decide) (by decide) ?_
        intro z21 z22 z23 z24 z25 z26 z27
        obtain ⟨t_764, kb_765, rfl, z28, z29, z2a, z2b, z2c, z2d⟩ := z27
        have z2e : Keep h0 z22 [] := z1u.trans z28 (allS (Or.inr (lT (z1f.1) (Nat.le_of_eq z1n.symm))) all0)
        have z2f : Jvm.Q9.Grow Lc0 z24 h0.size := (Jvm.Q9.Grow.refl _ _).trans z26 (z1u.1)
        have H := z25.here
        refine Jvm.Q9.Aim.of (T' := z21) (g' := (mkF m 85 #[.val (.int p1), .val (.int p2), .val (.int p3), .val (.int p4), .val (.int p5), .val (.int p6), .val (.ref c_676), .val (.ref c_690), .val (.ref c_703), .val (.ref c_717), .val (.int z13), .unset, .unset, .unset, .unset] [(.int p3), (.ref z1m), (.ref z17), (.ref z17)])) (fun tgt kt => ?_) ?_
        · refine XS.iloadN H hx rfl (hb hby at_84) rfl ?_
          exact kt
        refine Jvm.Q9.Aim.newO z25 hx hZ hown (wI hw 8 rfl) (wI hw 9 rfl) (wI hw 10 rfl) (hb hby at_85) (by decide) (by decide) ?_
        intro z2g z2h z2i z2j z2k z2l z2m z2n z2o
        have z2p : Keep z22 z2h [] := (Keep.refl _ _).ext z2l
        have z2q : Keep h0 z2h [] := z2e.trans z2p all0
        have z2r : Fld Z z2h z2i "java/lang/String" "value" "[B" .null := z2n (Or.inr (wI hw 23 rfl)) (ty := (.array .byte)) (by decide)
        have z2s : Fld Z z2h z2i "java/lang/String" "coder" "B" (.int 0) := z2n (Or.inr (wI hw 24 rfl)) (ty := .byte) (by decide)
        have z2t : Fld Z z2h z2i "java/lang/String" "hash" "I" (.int 0) := z2n (Or.inl (wI hw 65 rfl)) (ty := .int) (by decide)
        have z2u : Fld Z z2h z2i "java/lang/String" "hashIsZero" "Z" (.int 0) := z2n (Or.inl (wI hw 67 rfl)) (ty := .boolean) (by decide)
        have H := z2k.here
        refine Jvm.Q9.Aim.of (T' := z2g) (g' := (mkF m 91 #[.val (.int p1), .val (.int p2), .val (.int p3), .val (.int p4), .val (.int p5), .val (.int p6), .val (.ref c_676), .val (.ref c_690), .val (.ref c_703), .val (.ref c_717), .val (.int z13), .unset, .unset, .unset, .unset] [(.ref c_703), (.ref z2i), (.ref z2i), (.int p3), (.ref z1m), (.ref z17), (.ref z17)])) (fun tgt kt => ?_) ?_
        · refine XS.dup H hx rfl (hb hby at_88) rfl rfl ?_
          refine XS.aload H hx rfl (hb hby at_89) rfl rfl ?_
          exact kt
        have z2v : Arv Z z2h c_703 kC_704 .char (Int32.ofNat (txt p5).length) ((txt p5).map Value.int) (.int 0) := (((((zq.keep zy nin0).keep z1e nin0).keep z1t nin0).keep z28 (ninS (nL (lL (lL zq.lt (lT zy.1 z1e.1)) (Nat.le_of_eq z1n.symm))) nin0)).keep z2p nin0)
        have z2w : Old Z n0 z2h := ((z20.keep z28 (allS (lT (lT Z0 (z1f.1)) (Nat.le_of_eq z1n.symm)) all0)).keep z2p all0)
        refine Jvm.Q9.Aim.callCW (argsL := [(.ref c_703)]) (rest := [(.ref z2i), (.int p3), (.ref z1m), (.ref z17), (.ref z17)]) z2k hx hZ hml hown rfl (wI hw 11 rfl) (wI hw 12 rfl) (wI hw 13 rfl) (by decide) (Jvm.Q9.Con.back (W := 5) (own_sC l Z a0 hw z2i c_703 kC_704 (txt p5) (.null) (.int 0) z2h n0 (lT Z0 (z2q.1)) z24 (lT (lT Z0 (z2e.1)) (Nat.le_of_eq z2j.symm)) (Jvm.Q9.nl_new z25.ltL (lT (Nat.le_refl _) (Nat.le_of_eq z2j.symm))) z2m z2r z2s z2t z2u z2v z2w (txt_len _) (txt_in _) G GL) (wI hw 13 rfl) (wI hw 10 rfl) (by decide) (by decide)) rfl pd__28_5bC_29V rfl (Nat.le_of_eq rfl) (hb hby at_91) (by decide) (by decide) ?_
        intro z2x z2y z2z z30 z31 z32 z33
        obtain ⟨t_798, kb_799, rfl, z34, z35, z36, z37, z38, z39⟩ := z33
        have z3a : Keep h0 z2y [] := z2q.trans z34 (allS (Or.inr (lT (z2e.1) (Nat.le_of_eq z2j.symm))) all0)
        have z3b : Jvm.Q9.Grow Lc0 z30 h0.size := z2f.trans z32 (z2q.1)
        have z3c : Exa Z z2y z17 "com/example/tophat_ledger/tophatledger/HoldingGroup" := ((((z1b.keep z1t).keep z28).keep z2p).keep z34)
        have z3d : Fld Z z2y z17 "com/example/tophat_ledger/tophatledger/HoldingGroup" "participant" "Ljava/lang/String;" .null := ((((z1g.keep z1t nin0).keep z28 (ninS (nL (lL z1b.lt (Nat.le_of_eq z1n.symm))) nin0)).keep z2p nin0).keep z34 (ninS (nL (lL (lL z1b.lt (lT z1t.1 z28.1)) (Nat.le_of_eq z2j.symm))) nin0))
        have z3e : Fld Z z2y z17 "com/example/tophat_ledger/tophatledger/HoldingGroup" "year" "I" (.int 0) := ((((z1h.keep z1t nin0).keep z28 (ninS (nL (lL z1b.lt (Nat.le_of_eq z1n.symm))) nin0)).keep z2p nin0).keep z34 (ninS (nL (lL (lL z1b.lt (lT z1t.1 z28.1)) (Nat.le_of_eq z2j.symm))) nin0))
        have z3f : Fld Z z2y z17 "com/example/tophat_ledger/tophatledger/HoldingGroup" "source" "Ljava/lang/String;" .null := ((((z1i.keep z1t nin0).keep z28 (ninS (nL (lL z1b.lt (Nat.le_of_eq z1n.symm))) nin0)).keep z2p nin0).keep z34 (ninS (nL (lL (lL z1b.lt (lT z1t.1 z28.1)) (Nat.le_of_eq z2j.symm))) nin0))
        have z3g : Fld Z z2y z17 "com/example/tophat_ledger/tophatledger/HoldingGroup" "hash" "I" (.int 0) := ((((z1j.keep z1t nin0).keep z28 (ninS (nL (lL z1b.lt (Nat.le_of_eq z1n.symm))) nin0)).keep z2p nin0).keep z34 (ninS (nL (lL (lL z1b.lt (lT z1t.1 z28.1)) (Nat.le_of_eq z2j.symm))) nin0))
        have z3h : Str Z z2y z1m t_764 kb_765 (txt p1) := ((z2a.keep z2p nin0 nin0).keep z34 (ninS (nL (lL (lL z1q.lt (z28.1)) (Nat.le_of_eq z2j.symm))) nin0) (ninS (nL (lL z2a.ltb (Nat.le_of_eq z2j.symm))) nin0))
        have z3i : (2 ≤ (txt p1).length → Exa Z z2y t_764 "[B") := (fun q => ((fun q => (z2b q).keep z2p) q).keep z34)
        have z3j : Fld Z z2y z1m "java/lang/String" "hash" "I" (.int 0) := ((z2c.keep z2p nin0).keep z34 (ninS (nL (lL (lL z1q.lt (z28.1)) (Nat.le_of_eq z2j.symm))) nin0))
        have z3k : Fld Z z2y z1m "java/lang/String" "hashIsZero" "Z" (.int 0) := ((z2d.keep z2p nin0).keep z34 (ninS (nL (lL (lL z1q.lt (z28.1)) (Nat.le_of_eq z2j.symm))) nin0))
        have z3l : Old Z n0 z2y := (z2w.keep z34 (allS (lT (lT Z0 (z2e.1)) (Nat.le_of_eq z2j.symm)) all0))
        have z3m : Exa Z z2y z1m "java/lang/String" := (((z1q.keep z28).keep z2p).keep z34)
        have z3n : Exa Z z2y z2i "java/lang/String" := (z2m.keep z34)
        refine Jvm.Q9.Aim.callC (argsL := [(.ref z1m), (.int p3), (.ref z2i)]) (rest := [(.ref z17)]) z31 hx hZ hml hown rfl (wI hw 29 rfl) (wI hw 30 rfl) (wI hw 31 rfl) (by decide) (fun vm0 hZ => Jvm.Y9.Con.back (s := s.setVm vm0) (W := 1) (own_hg l Z a0 hw z17 p3 (.null) (.int 0) (.null) (.int 0) z1m t_764 kb_765 (txt p1) z2i t_798 kb_799 (txt p5) z2y n0 (lT Z0 (z3a.1)) (lT (lT Z0 (z11.1)) (Nat.le_of_eq z18.symm)) (lT (lT Z0 (z1f.1)) (Nat.le_of_eq z1n.symm)) (lT (lT Z0 (z2e.1)) (Nat.le_of_eq z2j.symm)) z3c z3d z3e z3f z3g z3h z3i z3j z3k z36 z37 z38 z39 z3l (nL (lL (lL z1q.lt (z28.1)) (Nat.le_of_eq z2j.symm))) (Jvm.Q9.ori_ne z29 (lT (lT Z0 (z1f.1)) (Nat.le_of_eq z1n.symm)) (Jvm.Q9.nl_step (Jvm.Q9.nl_new P0.ltL (lT (z1f.1) (Nat.le_of_eq z1n.symm))) z26 z1q.lt) z1q.lt) (nL (lL z2a.ltb (Nat.le_of_eq z2j.symm))) (Jvm.Q9.ori_ne z35 (lT (lT Z0 (z1f.1)) (Nat.le_of_eq z1n.symm)) (Jvm.Q9.nl_step (Jvm.Q9.nl_step (Jvm.Q9.nl_new P0.ltL (lT (z1f.1) (Nat.le_of_eq z1n.symm))) z26 z1q.lt) z32 (lL z1q.lt (lT z28.1 z2p.1))) (lL z1q.lt (lT z28.1 z2p.1))) (Jvm.Q9.ori_ne z35 (lT (lT Z0 (z2e.1)) (Nat.le_of_eq z2j.symm)) (Jvm.Q9.nl_step (Jvm.Q9.nl_new z25.ltL (lT (Nat.le_refl _) (Nat.le_of_eq z2j.symm))) z32 z2m.lt) z2m.lt) (txt_len _) (txt_len _) (Jvm.Q9.ori_ne z29 (lT (lT Z0 (z11.1)) (Nat.le_of_eq z18.symm)) (Jvm.Q9.nl_step (Jvm.Q9.nl_new P0.ltL (lT (z11.1) (Nat.le_of_eq z18.symm))) z26 (lL z1b.lt (z1t.1))) (lL z1b.lt (z1t.1))) (Jvm.Q9.ori_ne z35 (lT (lT Z0 (z11.1)) (Nat.le_of_eq z18.symm)) (Jvm.Q9.nl_step (Jvm.Q9.nl_step (Jvm.Q9.nl_new P0.ltL (lT (z11.1) (Nat.le_of_eq z18.symm))) z26 (lL z1b.lt (z1t.1))) z32 (lL z1b.lt (lT (lT z1t.1 z28.1) z2p.1))) (lL z1b.lt (lT (lT z1t.1 z28.1) z2p.1))) G GI) hZ (wI hw 31 rfl) (wI hw 7 rfl) (by decide) (by decide)) (fun _ _ ⟨_, q, _, _, _, _, _, _⟩ => q) (allS (Jvm.Q9.nl_step (Jvm.Q9.nl_step (Jvm.Q9.nl_new P0.ltL (lT (z11.1) (Nat.le_of_eq z18.symm))) z26 (lL z1b.lt (z1t.1))) z32 (lL z1b.lt (lT (lT z1t.1 z28.1) z2p.1))) (allS (Jvm.Q9.nl_step (Jvm.Q9.nl_step (Jvm.Q9.nl_new P0.ltL (lT (z1f.1) (Nat.le_of_eq z1n.symm))) z26 z1q.lt) z32 (lL z1q.lt (lT z28.1 z2p.1))) (allS (Jvm.Q9.nl_step (Jvm.Q9.nl_new z25.ltL (lT (Nat.le_refl _) (Nat.le_of_eq z2j.symm))) z32 z2m.lt) all0))) rfl pd__28Ljava_2flang_2fString_3bILjava_2flang_2fString_3b_29V rfl (Nat.le_of_eq rfl) (hb hby at_94) (by decide) (by decide) ?_
        intro z3o z3p z3q z3r z3s
        obtain ⟨rfl, z3t, z3u, z3v, z3w, z3x, z3y, z3z⟩ := z3s
        have z40 : Keep h0 z3p [] := z3a.trans z3t (allS (Or.inr (lT (z11.1) (Nat.le_of_eq z18.symm))) (allS (Or.inr (lT (z1f.1) (Nat.le_of_eq z1n.symm))) (allS (Or.inr (lT (z2e.1) (Nat.le_of_eq z2j.symm))) all0)))
        have H := z3r.here
        refine Jvm.Q9.Aim.of (T' := z3o) (g' := (mkF m 112 #[.val (.int p1), .val (.int p2), .val (.int p3), .val (.int p4), .val (.int p5), .val (.int p6), .val (.ref c_676), .val (.ref c_690), .val (.ref c_703), .val (.ref c_717), .val (.int z13), .val (.ref z17), .val (.int (((p6.toUInt32 >>> ((21 : Int32) &&& 31).toUInt32).toInt32) &&& (7 : Int32))), .unset, .unset] [(.int 5), (.int (((p6.toUInt32 >>> ((21 : Int32) &&& 31).toUInt32).toInt32) &&& (7 : Int32)))])) (fun tgt kt => ?_) ?_
        · refine XS.astore H hx rfl (hb hby at_97) rfl rfl (l' := #[.val (.int p1), .val (.int p2), .val (.int p3), .val (.int p4), .val (.int p5), .val (.int p6), .val (.ref c_676), .val (.ref c_690), .val (.ref c_703), .val (.ref c_717), .val (.int z13), .val (.ref z17), .unset, .unset, .unset]) rfl ?_
          refine XS.iload H hx rfl (hb hby at_99) rfl ?_
          refine XS.bipush H hx rfl (hb hby at_101) ?_
          refine XS.iushr H hx rfl (hb hby at_103) rfl ?_
          refine XS.bipush H hx rfl (hb hby at_104) ?_
          refine XS.iand H hx rfl (hb hby at_106) rfl ?_
          refine XS.istore H hx rfl (hb hby at_107) rfl (l' := #[.val (.int p1), .val (.int p2), .val (.int p3), .val (.int p4), .val (.int p5), .val (.int p6), .val (.ref c_676), .val (.ref c_690), .val (.ref c_703), .val (.ref c_717), .val (.int z13), .val (.ref z17), .val (.int (((p6.toUInt32 >>> ((21 : Int32) &&& 31).toUInt32).toInt32) &&& (7 : Int32))), .unset, .unset]) rfl ?_
          refine XS.iload H hx rfl (hb hby at_109) rfl ?_
          refine XS.iconst H hx rfl (hb hby at_111) ?_
          exact kt
        by_cases z41 : (((p6.toUInt32 >>> ((21 : Int32) &&& 31).toUInt32).toInt32) &&& (7 : Int32)) = (5 : Int32)
        · skip
          have H := z3r.here
          refine Jvm.Q9.Aim.of (T' := z3o) (g' := (mkF m 118 #[.val (.int p1), .val (.int p2), .val (.int p3), .val (.int p4), .val (.int p5), .val (.int p6), .val (.ref c_676), .val (.ref c_690), .val (.ref c_703), .val (.ref c_717), .val (.int z13), .val (.ref z17), .val (.int (((p6.toUInt32 >>> ((21 : Int32) &&& 31).toUInt32).toInt32) &&& (7 : Int32))), .unset, .unset] [.null, (.ref z17)])) (fun tgt kt => ?_) ?_
          · refine XS.icmpNo H hx rfl (hb hby at_112) rfl (teq z41).2 ?_
            refine XS.aload H hx rfl (hb hby at_115) rfl rfl ?_
            refine XS.aconstNull H hx rfl (hb hby at_117) ?_
            exact kt
          refine Jvm.Q9.Aim.callV (argsL := [.null]) (rest := []) (y := (⟨"com/example/tophat_ledger/tophatledger/HoldingGroup", "equals", "(Ljava/lang/Object;)Z"⟩ : MethodName)) (z := (⟨"com/example/tophat_ledger/tophatledger/HoldingGroup", "equals", "(Ljava/lang/Object;)Z"⟩ : MethodName)) z3r hx hZ hml hown (wI hw 91 rfl) (wI hw 92 rfl) (fun vm0 hZ => notFace_of_selects (args := #[]) (mvT (s := s.setVm vm0) hZ (wI hw 94 rfl))) (wI hw 94 rfl) (wI hw 93 rfl) (by decide) z3u (fun vm0 hZ => Jvm.Y9.Con.back (s := s.setVm vm0) (W := 0) (own_eqN l Z a0 hw z17 z3p n0 (lT Z0 (z40.1))) hZ (wI hw 95 rfl) (wI hw 7 rfl) (by decide) (by decide)) (fun _ _ ⟨_, q⟩ => (by subst q; exact Keep.refl _ [])) all0 rfl pd__28Ljava_2flang_2fObject_3b_29Z rfl (Nat.le_of_eq rfl) (hb hby at_118) (by decide) (by decide) ?_
          intro z42 z43 z44 z45 z46
          obtain ⟨rfl, rfl⟩ := z46
          have H := z45.here
          refine Jvm.Q9.Aim.of (T' := z42) (g' := (mkF m 129 #[.val (.int p1), .val (.int p2), .val (.int p3), .val (.int p4), .val (.int p5), .val (.int p6), .val (.ref c_676), .val (.ref c_690), .val (.ref c_703), .val (.ref c_717), .val (.int z13), .val (.ref z17), .val (.int (((p6.toUInt32 >>> ((21 : Int32) &&& 31).toUInt32).toInt32) &&& (7 : Int32))), .unset, .unset] [(.int 1)])) (fun tgt kt => ?_) ?_
          · refine XS.ifNo H hx rfl (hb hby at_121) rfl ((if0 _ _).trans (teq (by decide)).2) ?_
            refine XS.iconst H hx rfl (hb hby at_124) ?_
            refine XS.goto H hx rfl (pc0 := 125) (pc' := 129) rfl (hb hby at_125) (by decide) (by decide) ?_
            exact kt
          exact Jvm.Q9.Aim.retN (t := .boolean) z45 hx hlk hret (by simp) (hb hby at_129) (by decide) (by decide) z3b ⟨rfl, z40⟩
        · skip
          have H := z3r.here
          refine Jvm.Q9.Aim.of (T' := z3o) (g' := (mkF m 134 #[.val (.int p1), .val (.int p2), .val (.int p3), .val (.int p4), .val (.int p5), .val (.int p6), .val (.ref c_676), .val (.ref c_690), .val (.ref c_703), .val (.ref c_717), .val (.int z13), .val (.ref z17), .val (.int (((p6.toUInt32 >>> ((21 : Int32) &&& 31).toUInt32).toInt32) &&& (7 : Int32))), .unset, .unset] [(.int 6), (.int (((p6.toUInt32 >>> ((21 : Int32) &&& 31).toUInt32).toInt32) &&& (7 : Int32)))])) (fun tgt kt => ?_) ?_
          · refine XS.icmpYes H hx rfl (pc0 := 112) (pc' := 130) rfl (hb hby at_112) rfl (feq z41).2 (by decide) (by decide) ?_
            refine XS.iload H hx rfl (hb hby at_130) rfl ?_
            refine XS.bipush H hx rfl (hb hby at_132) ?_
            exact kt
          by_cases z47 : (((p6.toUInt32 >>> ((21 : Int32) &&& 31).toUInt32).toInt32) &&& (7 : Int32)) = (6 : Int32)
          · skip
            have H := z3r.here
            refine Jvm.Q9.Aim.of (T' := z3o) (g' := (mkF m 139 #[.val (.int p1), .val (.int p2), .val (.int p3), .val (.int p4), .val (.int p5), .val (.int p6), .val (.ref c_676), .val (.ref c_690), .val (.ref c_703), .val (.ref c_717), .val (.int z13), .val (.ref z17), .val (.int (((p6.toUInt32 >>> ((21 : Int32) &&& 31).toUInt32).toInt32) &&& (7 : Int32))), .unset, .unset] [(.ref z17)])) (fun tgt kt => ?_) ?_
            · refine XS.icmpNo H hx rfl (hb hby at_134) rfl (teq z47).2 ?_
              refine XS.aload H hx rfl (hb hby at_137) rfl rfl ?_
              exact kt
            refine Jvm.Q9.Aim.newO z3r hx hZ hown (wI hw 8 rfl) (wI hw 9 rfl) (wI hw 10 rfl) (hb hby at_139) (by decide) (by decide) ?_
            intro z48 z49 z4a z4b z4c z4d z4e z4f z4g
            have z4h : Keep z3p z49 [] := (Keep.refl _ _).ext z4d
            have z4i : Keep h0 z49 [] := z40.trans z4h all0
            have z4j : Fld Z z49 z4a "java/lang/String" "value" "[B" .null := z4f (Or.inr (wI hw 23 rfl)) (ty := (.array .byte)) (by decide)
            have z4k : Fld Z z49 z4a "java/lang/String" "coder" "B" (.int 0) := z4f (Or.inr (wI hw 24 rfl)) (ty := .byte) (by decide)
            have z4l : Fld Z z49 z4a "java/lang/String" "hash" "I" (.int 0) := z4f (Or.inl (wI hw 65 rfl)) (ty := .int) (by decide)
            have z4m : Fld Z z49 z4a "java/lang/String" "hashIsZero" "Z" (.int 0) := z4f (Or.inl (wI hw 67 rfl)) (ty := .boolean) (by decide)
            have H := z4c.here
            refine Jvm.Q9.Aim.of (T' := z48) (g' := (mkF m 145 #[.val (.int p1), .val (.int p2), .val (.int p3), .val (.int p4), .val (.int p5), .val (.int p6), .val (.ref c_676), .val (.ref c_690), .val (.ref c_703), .val (.ref c_717), .val (.int z13), .val (.ref z17), .val (.int (((p6.toUInt32 >>> ((21 : Int32) &&& 31).toUInt32).toInt32) &&& (7 : Int32))), .unset, .unset] [(.ref c_676), (.ref z4a), (.ref z4a), (.ref z17)])) (fun tgt kt => ?_) ?_
            · refine XS.dup H hx rfl (hb hby at_142) rfl rfl ?_
              refine XS.aload H hx rfl (hb hby at_143) rfl rfl ?_
              exact kt
            have z4n : Arv Z z49 c_676 kC_677 .char (Int32.ofNat (txt p1).length) ((txt p1).map Value.int) (.int 0) := (((((z1z.keep z28 (ninS (nL (lL (lL z7.lt (lT (lT (lT zf.1 zo.1) zy.1) z1e.1)) (Nat.le_of_eq z1n.symm))) nin0)).keep z2p nin0).keep z34 (ninS (nL (lL (lL z7.lt (lT (lT (lT (lT (lT zf.1 zo.1) zy.1) z1e.1) z1t.1) z28.1)) (Nat.le_of_eq z2j.symm))) nin0)).keep z3t (ninS (nL (lL (lL z7.lt (lT (lT zf.1 zo.1) zy.1)) (Nat.le_of_eq z18.symm))) (ninS (nL (lL (lL z7.lt (lT (lT (lT zf.1 zo.1) zy.1) z1e.1)) (Nat.le_of_eq z1n.symm))) (ninS (nL (lL (lL z7.lt (lT (lT (lT (lT (lT zf.1 zo.1) zy.1) z1e.1) z1t.1) z28.1)) (Nat.le_of_eq z2j.symm))) nin0)))).keep z4h nin0)
            have z4o : Old Z n0 z49 := ((z3l.keep z3t (allS (lT (lT Z0 (z11.1)) (Nat.le_of_eq z18.symm)) (allS (lT (lT Z0 (z1f.1)) (Nat.le_of_eq z1n.symm)) (allS (lT (lT Z0 (z2e.1)) (Nat.le_of_eq z2j.symm)) all0)))).keep z4h all0)
            refine Jvm.Q9.Aim.callCW (argsL := [(.ref c_676)]) (rest := [(.ref z4a), (.ref z17)]) z4c hx hZ hml hown rfl (wI hw 11 rfl) (wI hw 12 rfl) (wI hw 13 rfl) (by decide) (Jvm.Q9.Con.back (W := 2) (own_sC l Z a0 hw z4a c_676 kC_677 (txt p1) (.null) (.int 0) z49 n0 (lT Z0 (z4i.1)) z30 (lT (lT Z0 (z40.1)) (Nat.le_of_eq z4b.symm)) (Jvm.Q9.nl_new z31.ltL (lT (z3t.1) (Nat.le_of_eq z4b.symm))) z4e z4j z4k z4l z4m z4n z4o (txt_len _) (txt_in _) G GL) (wI hw 13 rfl) (wI hw 10 rfl) (by decide) (by decide)) rfl pd__28_5bC_29V rfl (Nat.le_of_eq rfl) (hb hby at_145) (by decide) (by decide) ?_
            intro z4p z4q z4r z4s z4t z4u z4v
            obtain ⟨t_868, kb_869, rfl, z4w, z4x, z4y, z4z, z50, z51⟩ := z4v
            have z52 : Keep h0 z4q [] := z4i.trans z4w (allS (Or.inr (lT (z40.1) (Nat.le_of_eq z4b.symm))) all0)
            have z53 : Jvm.Q9.Grow Lc0 z4s h0.size := z3b.trans z4u (z4i.1)
            have z54 : Exa Z z4q z17 "com/example/tophat_ledger/tophatledger/HoldingGroup" := ((z3u.keep z4h).keep z4w)
            have z55 : Exa Z z4q z4a "java/lang/String" := (z4e.keep z4w)
            refine Jvm.Q9.Aim.callV (argsL := [(.ref z4a)]) (rest := []) (y := (⟨"com/example/tophat_ledger/tophatledger/HoldingGroup", "equals", "(Ljava/lang/Object;)Z"⟩ : MethodName)) (z := (⟨"com/example/tophat_ledger/tophatledger/HoldingGroup", "equals", "(Ljava/lang/Object;)Z"⟩ : MethodName)) z4t hx hZ hml hown (wI hw 91 rfl) (wI hw 92 rfl) (fun vm0 hZ => notFace_of_selects (args := #[]) (mvT (s := s.setVm vm0) hZ (wI hw 94 rfl))) (wI hw 94 rfl) (wI hw 93 rfl) (by decide) z54 (fun vm0 hZ => Jvm.Y9.Con.back (s := s.setVm vm0) (W := 0) (own_eqS l Z a0 hw z17 z4a z4q n0 (lT Z0 (z52.1)) z55) hZ (wI hw 95 rfl) (wI hw 7 rfl) (by decide) (by decide)) (fun _ _ ⟨_, q⟩ => (by subst q; exact Keep.refl _ [])) all0 rfl pd__28Ljava_2flang_2fObject_3b_29Z rfl (Nat.le_of_eq rfl) (hb hby at_148) (by decide) (by decide) ?_
            intro z56 z57 z58 z59 z5a
            obtain ⟨rfl, rfl⟩ := z5a
            have H := z59.here
            refine Jvm.Q9.Aim.of (T' := z56) (g' := (mkF m 159 #[.val (.int p1), .val (.int p2), .val (.int p3), .val (.int p4), .val (.int p5), .val (.int p6), .val (.ref c_676), .val (.ref c_690), .val (.ref c_703), .val (.ref c_717), .val (.int z13), .val (.ref z17), .val (.int (((p6.toUInt32 >>> ((21 : Int32) &&& 31).toUInt32).toInt32) &&& (7 : Int32))), .unset, .unset] [(.int 1)])) (fun tgt kt => ?_) ?_
            · refine XS.ifNo H hx rfl (hb hby at_151) rfl ((if0 _ _).trans (teq (by decide)).2) ?_
              refine XS.iconst H hx rfl (hb hby at_154) ?_
              refine XS.goto H hx rfl (pc0 := 155) (pc' := 159) rfl (hb hby at_155) (by decide) (by decide) ?_
              exact kt
            exact Jvm.Q9.Aim.retN (t := .boolean) z59 hx hlk hret (by simp) (hb hby at_159) (by decide) (by decide) z53 ⟨rfl, z52⟩
          · skip
            have H := z3r.here
            refine Jvm.Q9.Aim.of (T' := z3o) (g' := (mkF m 164 #[.val (.int p1), .val (.int p2), .val (.int p3), .val (.int p4), .val (.int p5), .val (.int p6), .val (.ref c_676), .val (.ref c_690), .val (.ref c_703), .val (.ref c_717), .val (.int z13), .val (.ref z17), .val (.int (((p6.toUInt32 >>> ((21 : Int32) &&& 31).toUInt32).toInt32) &&& (7 : Int32))), .unset, .unset] [(.int 7), (.int (((p6.toUInt32 >>> ((21 : Int32) &&& 31).toUInt32).toInt32) &&& (7 : Int32)))])) (fun tgt kt => ?_) ?_
            · refine XS.icmpYes H hx rfl (pc0 := 134) (pc' := 160) rfl (hb hby at_134) rfl (feq z47).2 (by decide) (by decide) ?_
              refine XS.iload H hx rfl (hb hby at_160) rfl ?_
              refine XS.bipush H hx rfl (hb hby at_162) ?_
              exact kt
            by_cases z5b : (((p6.toUInt32 >>> ((21 : Int32) &&& 31).toUInt32).toInt32) &&& (7 : Int32)) = (7 : Int32)
            · skip
              have H := z3r.here
              refine Jvm.Q9.Aim.of (T' := z3o) (g' := (mkF m 171 #[.val (.int p1), .val (.int p2), .val (.int p3), .val (.int p4), .val (.int p5), .val (.int p6), .val (.ref c_676), .val (.ref c_690), .val (.ref c_703), .val (.ref c_717), .val (.int z13), .val (.ref z17), .val (.int (((p6.toUInt32 >>> ((21 : Int32) &&& 31).toUInt32).toInt32) &&& (7 : Int32))), .unset, .unset] [(.ref z17), (.ref z17)])) (fun tgt kt => ?_) ?_
              · refine XS.icmpNo H hx rfl (hb hby at_164) rfl (teq z5b).2 ?_
                refine XS.aload H hx rfl (hb hby at_167) rfl rfl ?_
                refine XS.aload H hx rfl (hb hby at_169) rfl rfl ?_
                exact kt
              have z5c : Old Z n0 z3p := (z3l.keep z3t (allS (lT (lT Z0 (z11.1)) (Nat.le_of_eq z18.symm)) (allS (lT (lT Z0 (z1f.1)) (Nat.le_of_eq z1n.symm)) (allS (lT (lT Z0 (z2e.1)) (Nat.le_of_eq z2j.symm)) all0))))
              refine Jvm.Q9.Aim.callV (argsL := [(.ref z17)]) (rest := []) (y := (⟨"com/example/tophat_ledger/tophatledger/HoldingGroup", "equals", "(Ljava/lang/Object;)Z"⟩ : MethodName)) (z := (⟨"com/example/tophat_ledger/tophatledger/HoldingGroup", "equals", "(Ljava/lang/Object;)Z"⟩ : MethodName)) z3r hx hZ hml hown (wI hw 91 rfl) (wI hw 92 rfl) (fun vm0 hZ => notFace_of_selects (args := #[]) (mvT (s := s.setVm vm0) hZ (wI hw 94 rfl))) (wI hw 94 rfl) (wI hw 93 rfl) (by decide) z3u (fun vm0 hZ => Jvm.Y9.Con.back (s := s.setVm vm0) (W := 0) (own_eqH l Z a0 hw z17 p3 z1m t_764 kb_765 (txt p1) z2i t_798 kb_799 (txt p5) z17 p3 z1m t_764 kb_765 (txt p1) z2i t_798 kb_799 (txt p5) z3p n0 (lT Z0 (z40.1)) z3u z3v z3w z3x z3y z3z z3u z3v z3w z3x z3y z3z z5c G) hZ (wI hw 95 rfl) (wI hw 7 rfl) (by decide) (by decide)) (fun _ _ ⟨_, q⟩ => (by subst q; exact Keep.refl _ [])) all0 rfl pd__28Ljava_2flang_2fObject_3b_29Z rfl (Nat.le_of_eq rfl) (hb hby at_171) (by decide) (by decide) ?_
              intro z5d z5e z5f z5g z5h
              obtain ⟨rfl, rfl⟩ := z5h
              exact Jvm.Q9.Aim.retN (t := .boolean) z5g hx hlk hret (by simp) (hb hby at_174) (by decide) (by decide) z3b ⟨(by rw [eqV, if_pos ⟨rfl, rfl, rfl⟩]; rfl), z40⟩
            · skip
              have H := z3r.here
              refine Jvm.Q9.Aim.of (T' := z3o) (g' := (mkF m 175 #[.val (.int p1), .val (.int p2), .val (.int p3), .val (.int p4), .val (.int p5), .val (.int p6), .val (.ref c_676), .val (.ref c_690), .val (.ref c_703), .val (.ref c_717), .val (.int z13), .val (.ref z17), .val (.int (((p6.toUInt32 >>> ((21 : Int32) &&& 31).toUInt32).toInt32) &&& (7 : Int32))), .unset, .unset] [])) (fun tgt kt => ?_) ?_
              · refine XS.icmpYes H hx rfl (pc0 := 164) (pc' := 175) rfl (hb hby at_164) rfl (feq z5b).2 (by decide) (by decide) ?_
                exact kt
              refine Jvm.Q9.Aim.newO z3r hx hZ hown (wI hw 5 rfl) (wI hw 6 rfl) (wI hw 7 rfl) (hb hby at_175) (by decide) (by decide) ?_
              intro z5i z5j z5k z5l z5m z5n z5o z5p z5q
              have z5r : Keep z3p z5j [] := (Keep.refl _ _).ext z5n
              have z5s : Keep h0 z5j [] := z40.trans z5r all0
              have z5t : Fld Z z5j z5k "com/example/tophat_ledger/tophatledger/HoldingGroup" "participant" "Ljava/lang/String;" .null := z5p (Or.inr (wI hw 34 rfl)) (ty := (.object "java/lang/String")) (by decide)
              have z5u : Fld Z z5j z5k "com/example/tophat_ledger/tophatledger/HoldingGroup" "year" "I" (.int 0) := z5p (Or.inr (wI hw 36 rfl)) (ty := .int) (by decide)
              have z5v : Fld Z z5j z5k "com/example/tophat_ledger/tophatledger/HoldingGroup" "source" "Ljava/lang/String;" .null := z5p (Or.inr (wI hw 38 rfl)) (ty := (.object "java/lang/String")) (by decide)
              have z5w : Fld Z z5j z5k "com/example/tophat_ledger/tophatledger/HoldingGroup" "hash" "I" (.int 0) := z5p (Or.inr (wI hw 87 rfl)) (ty := .int) (by decide)
              have H := z5m.here
              refine Jvm.Q9.Aim.of (T' := z5i) (g' := (mkF m 179 #[.val (.int p1), .val (.int p2), .val (.int p3), .val (.int p4), .val (.int p5), .val (.int p6), .val (.ref c_676), .val (.ref c_690), .val (.ref c_703), .val (.ref c_717), .val (.int z13), .val (.ref z17), .val (.int (((p6.toUInt32 >>> ((21 : Int32) &&& 31).toUInt32).toInt32) &&& (7 : Int32))), .unset, .unset] [(.ref z5k), (.ref z5k)])) (fun tgt kt => ?_) ?_
              · refine XS.dup H hx rfl (hb hby at_178) rfl rfl ?_
                exact kt
              refine Jvm.Q9.Aim.newO z5m hx hZ hown (wI hw 8 rfl) (wI hw 9 rfl) (wI hw 10 rfl) (hb hby at_179) (by decide) (by decide) ?_
              intro z5x z5y z5z z60 z61 z62 z63 z64 z65
              have z66 : Keep z5j z5y [] := (Keep.refl _ _).ext z62
              have z67 : Keep h0 z5y [] := z5s.trans z66 all0
              have z68 : Fld Z z5y z5z "java/lang/String" "value" "[B" .null := z64 (Or.inr (wI hw 23 rfl)) (ty := (.array .byte)) (by decide)
              have z69 : Fld Z z5y z5z "java/lang/String" "coder" "B" (.int 0) := z64 (Or.inr (wI hw 24 rfl)) (ty := .byte) (by decide)
              have z6a : Fld Z z5y z5z "java/lang/String" "hash" "I" (.int 0) := z64 (Or.inl (wI hw 65 rfl)) (ty := .int) (by decide)
              have z6b : Fld Z z5y z5z "java/lang/String" "hashIsZero" "Z" (.int 0) := z64 (Or.inl (wI hw 67 rfl)) (ty := .boolean) (by decide)
              have H := z61.here
              refine Jvm.Q9.Aim.of (T' := z5x) (g' := (mkF m 185 #[.val (.int p1), .val (.int p2), .val (.int p3), .val (.int p4), .val (.int p5), .val (.int p6), .val (.ref c_676), .val (.ref c_690), .val (.ref c_703), .val (.ref c_717), .val (.int z13), .val (.ref z17), .val (.int (((p6.toUInt32 >>> ((21 : Int32) &&& 31).toUInt32).toInt32) &&& (7 : Int32))), .unset, .unset] [(.ref c_690), (.ref z5z), (.ref z5z), (.ref z5k), (.ref z5k)])) (fun tgt kt => ?_) ?_
              · refine XS.dup H hx rfl (hb hby at_182) rfl rfl ?_
                refine XS.aload H hx rfl (hb hby at_183) rfl rfl ?_
                exact kt
              have z6c : Arv Z z5y c_690 kC_691 .char (Int32.ofNat (txt p2).length) ((txt p2).map Value.int) (.int 0) := ((((((((((zh.keep zo nin0).keep zy nin0).keep z1e nin0).keep z1t nin0).keep z28 (ninS (nL (lL (lL zh.lt (lT (lT zo.1 zy.1) z1e.1)) (Nat.le_of_eq z1n.symm))) nin0)).keep z2p nin0).keep z34 (ninS (nL (lL (lL zh.lt (lT (lT (lT (lT zo.1 zy.1) z1e.1) z1t.1) z28.1)) (Nat.le_of_eq z2j.symm))) nin0)).keep z3t (ninS (nL (lL (lL zh.lt (lT zo.1 zy.1)) (Nat.le_of_eq z18.symm))) (ninS (nL (lL (lL zh.lt (lT (lT zo.1 zy.1) z1e.1)) (Nat.le_of_eq z1n.symm))) (ninS (nL (lL (lL zh.lt (lT (lT (lT (lT zo.1 zy.1) z1e.1) z1t.1) z28.1)) (Nat.le_of_eq z2j.symm))) nin0)))).keep z5r nin0).keep z66 nin0)
              have z6d : Old Z n0 z5y := (((z3l.keep z3t (allS (lT (lT Z0 (z11.1)) (Nat.le_of_eq z18.symm)) (allS (lT (lT Z0 (z1f.1)) (Nat.le_of_eq z1n.symm)) (allS (lT (lT Z0 (z2e.1)) (Nat.le_of_eq z2j.symm)) all0)))).keep z5r all0).keep z66 all0)
              refine Jvm.Q9.Aim.callCW (argsL := [(.ref c_690)]) (rest := [(.ref z5z), (.ref z5k), (.ref z5k)]) z61 hx hZ hml hown rfl (wI hw 11 rfl) (wI hw 12 rfl) (wI hw 13 rfl) (by decide) (Jvm.Q9.Con.back (W := 3) (own_sC l Z a0 hw z5z c_690 kC_691 (txt p2) (.null) (.int 0) z5y n0 (lT Z0 (z67.1)) z30 (lT (lT Z0 (z5s.1)) (Nat.le_of_eq z60.symm)) (Jvm.Q9.nl_new z31.ltL (lT (lT z3t.1 z5r.1) (Nat.le_of_eq z60.symm))) z63 z68 z69 z6a z6b z6c z6d (txt_len _) (txt_in _) G GL) (wI hw 13 rfl) (wI hw 10 rfl) (by decide) (by decide)) rfl pd__28_5bC_29V rfl (Nat.le_of_eq rfl) (hb hby at_185) (by decide) (by decide) ?_
              intro z6e z6f z6g z6h z6i z6j z6k
              obtain ⟨t_935, kb_936, rfl, z6l, z6m, z6n, z6o, z6p, z6q⟩ := z6k
              have z6r : Keep h0 z6f [] := z67.trans z6l (allS (Or.inr (lT (z5s.1) (Nat.le_of_eq z60.symm))) all0)
              have z6s : Jvm.Q9.Grow Lc0 z6h h0.size := z3b.trans z6j (z67.1)
              have H := z6i.here
              refine Jvm.Q9.Aim.of (T' := z6e) (g' := (mkF m 190 #[.val (.int p1), .val (.int p2), .val (.int p3), .val (.int p4), .val (.int p5), .val (.int p6), .val (.ref c_676), .val (.ref c_690), .val (.ref c_703), .val (.ref c_717), .val (.int z13), .val (.ref z17), .val (.int (((p6.toUInt32 >>> ((21 : Int32) &&& 31).toUInt32).toInt32) &&& (7 : Int32))), .unset, .unset] [(.int z13), (.ref z5z), (.ref z5k), (.ref z5k)])) (fun tgt kt => ?_) ?_
              · refine XS.iload H hx rfl (hb hby at_188) rfl ?_
                exact kt
              refine Jvm.Q9.Aim.newO z6i hx hZ hown (wI hw 8 rfl) (wI hw 9 rfl) (wI hw 10 rfl) (hb hby at_190) (by decide) (by decide) ?_
              intro z6t z6u z6v z6w z6x z6y z6z z70 z71
              have z72 : Keep z6f z6u [] := (Keep.refl _ _).ext z6y
              have z73 : Keep h0 z6u [] := z6r.trans z72 all0
              have z74 : Fld Z z6u z6v "java/lang/String" "value" "[B" .null := z70 (Or.inr (wI hw 23 rfl)) (ty := (.array .byte)) (by decide)
              have z75 : Fld Z z6u z6v "java/lang/String" "coder" "B" (.int 0) := z70 (Or.inr (wI hw 24 rfl)) (ty := .byte) (by decide)
              have z76 : Fld Z z6u z6v "java/lang/String" "hash" "I" (.int 0) := z70 (Or.inl (wI hw 65 rfl)) (ty := .int) (by decide)
              have z77 : Fld Z z6u z6v "java/lang/String" "hashIsZero" "Z" (.int 0) := z70 (Or.inl (wI hw 67 rfl)) (ty := .boolean) (by decide)
              have H := z6x.here
              refine Jvm.Q9.Aim.of (T' := z6t) (g' := (mkF m 196 #[.val (.int p1), .val (.int p2), .val (.int p3), .val (.int p4), .val (.int p5), .val (.int p6), .val (.ref c_676), .val (.ref c_690), .val (.ref c_703), .val (.ref c_717), .val (.int z13), .val (.ref z17), .val (.int (((p6.toUInt32 >>> ((21 : Int32) &&& 31).toUInt32).toInt32) &&& (7 : Int32))), .unset, .unset] [(.ref c_717), (.ref z6v), (.ref z6v), (.int z13), (.ref z5z), (.ref z5k), (.ref z5k)])) (fun tgt kt => ?_) ?_
              · refine XS.dup H hx rfl (hb hby at_193) rfl rfl ?_
                refine XS.aload H hx rfl (hb hby at_194) rfl rfl ?_
                exact kt
              have z78 : Arv Z z6u c_717 kC_718 .char (Int32.ofNat (txt ((p6.toUInt32 >>> ((3 : Int32) &&& 31).toUInt32).toInt32)).length) ((txt ((p6.toUInt32 >>> ((3 : Int32) &&& 31).toUInt32).toInt32)).map Value.int) (.int 0) := ((((((((((z10.keep z1e nin0).keep z1t nin0).keep z28 (ninS (nL (lL (lL z10.lt (z1e.1)) (Nat.le_of_eq z1n.symm))) nin0)).keep z2p nin0).keep z34 (ninS (nL (lL (lL z10.lt (lT (lT z1e.1 z1t.1) z28.1)) (Nat.le_of_eq z2j.symm))) nin0)).keep z3t (ninS (nL (lL z10.lt (Nat.le_of_eq z18.symm))) (ninS (nL (lL (lL z10.lt (z1e.1)) (Nat.le_of_eq z1n.symm))) (ninS (nL (lL (lL z10.lt (lT (lT z1e.1 z1t.1) z28.1)) (Nat.le_of_eq z2j.symm))) nin0)))).keep z5r nin0).keep z66 nin0).keep z6l (ninS (nL (lL (lL z10.lt (lT (lT (lT (lT (lT (lT z1e.1 z1t.1) z28.1) z2p.1) z34.1) z3t.1) z5r.1)) (Nat.le_of_eq z60.symm))) nin0)).keep z72 nin0)
              have z79 : Old Z n0 z6u := ((z6d.keep z6l (allS (lT (lT Z0 (z5s.1)) (Nat.le_of_eq z60.symm)) all0)).keep z72 all0)
              refine Jvm.Q9.Aim.callCW (argsL := [(.ref c_717)]) (rest := [(.ref z6v), (.int z13), (.ref z5z), (.ref z5k), (.ref z5k)]) z6x hx hZ hml hown rfl (wI hw 11 rfl) (wI hw 12 rfl) (wI hw 13 rfl) (by decide) (Jvm.Q9.Con.back (W := 5) (own_sC l Z a0 hw z6v c_717 kC_718 (txt ((p6.toUInt32 >>> ((3 : Int32) &&& 31).toUInt32).toInt32)) (.null) (.int 0) z6u n0 (lT Z0 (z73.1)) z6h (lT (lT Z0 (z6r.1)) (Nat.le_of_eq z6w.symm)) (Jvm.Q9.nl_new z6i.ltL (lT (Nat.le_refl _) (Nat.le_of_eq z6w.symm))) z6z z74 z75 z76 z77 z78 z79 (txt_len _) (txt_in _) G GL) (wI hw 13 rfl) (wI hw 10 rfl) (by decide) (by decide)) rfl pd__28_5bC_29V rfl (Nat.le_of_eq rfl) (hb hby at_196) (by decide) (by decide) ?_
              intro z7a z7b z7c z7d z7e z7f z7g
              obtain ⟨t_969, kb_970, rfl, z7h, z7i, z7j, z7k, z7l, z7m⟩ := z7g
              have z7n : Keep h0 z7b [] := z73.trans z7h (allS (Or.inr (lT (z6r.1) (Nat.le_of_eq z6w.symm))) all0)
              have z7o : Jvm.Q9.Grow Lc0 z7d h0.size := z6s.trans z7f (z73.1)
              have z7p : Exa Z z7b z5k "com/example/tophat_ledger/tophatledger/HoldingGroup" := ((((z5o.keep z66).keep z6l).keep z72).keep z7h)
              have z7q : Fld Z z7b z5k "com/example/tophat_ledger/tophatledger/HoldingGroup" "participant" "Ljava/lang/String;" .null := ((((z5t.keep z66 nin0).keep z6l (ninS (nL (lL z5o.lt (Nat.le_of_eq z60.symm))) nin0)).keep z72 nin0).keep z7h (ninS (nL (lL (lL z5o.lt (lT z66.1 z6l.1)) (Nat.le_of_eq z6w.symm))) nin0))
              have z7r : Fld Z z7b z5k "com/example/tophat_ledger/tophatledger/HoldingGroup" "year" "I" (.int 0) := ((((z5u.keep z66 nin0).keep z6l (ninS (nL (lL z5o.lt (Nat.le_of_eq z60.symm))) nin0)).keep z72 nin0).keep z7h (ninS (nL (lL (lL z5o.lt (lT z66.1 z6l.1)) (Nat.le_of_eq z6w.symm))) nin0))
              have z7s : Fld Z z7b z5k "com/example/tophat_ledger/tophatledger/HoldingGroup" "source" "Ljava/lang/String;" .null := ((((z5v.keep z66 nin0).keep z6l (ninS (nL (lL z5o.lt (Nat.le_of_eq z60.symm))) nin0)).keep z72 nin0).keep z7h (ninS (nL (lL (lL z5o.lt (lT z66.1 z6l.1)) (Nat.le_of_eq z6w.symm))) nin0))
              have z7t : Fld Z z7b z5k "com/example/tophat_ledger/tophatledger/HoldingGroup" "hash" "I" (.int 0) := ((((z5w.keep z66 nin0).keep z6l (ninS (nL (lL z5o.lt (Nat.le_of_eq z60.symm))) nin0)).keep z72 nin0).keep z7h (ninS (nL (lL (lL z5o.lt (lT z66.1 z6l.1)) (Nat.le_of_eq z6w.symm))) nin0))
              have z7u : Str Z z7b z5z t_935 kb_936 (txt p2) := ((z6n.keep z72 nin0 nin0).keep z7h (ninS (nL (lL (lL z63.lt (z6l.1)) (Nat.le_of_eq z6w.symm))) nin0) (ninS (nL (lL z6n.ltb (Nat.le_of_eq z6w.symm))) nin0))
              have z7v : (2 ≤ (txt p2).length → Exa Z z7b t_935 "[B") := (fun q => ((fun q => (z6o q).keep z72) q).keep z7h)
              have z7w : Fld Z z7b z5z "java/lang/String" "hash" "I" (.int 0) := ((z6p.keep z72 nin0).keep z7h (ninS (nL (lL (lL z63.lt (z6l.1)) (Nat.le_of_eq z6w.symm))) nin0))
              have z7x : Fld Z z7b z5z "java/lang/String" "hashIsZero" "Z" (.int 0) := ((z6q.keep z72 nin0).keep z7h (ninS (nL (lL (lL z63.lt (z6l.1)) (Nat.le_of_eq z6w.symm))) nin0))
              have z7y : Old Z n0 z7b := (z79.keep z7h (allS (lT (lT Z0 (z6r.1)) (Nat.le_of_eq z6w.symm)) all0))
              have z7z : Exa Z z7b z5z "java/lang/String" := (((z63.keep z6l).keep z72).keep z7h)
              have z80 : Exa Z z7b z6v "java/lang/String" := (z6z.keep z7h)
              refine Jvm.Q9.Aim.callC (argsL := [(.ref z5z), (.int z13), (.ref z6v)]) (rest := [(.ref z5k)]) z7e hx hZ hml hown rfl (wI hw 29 rfl) (wI hw 30 rfl) (wI hw 31 rfl) (by decide) (fun vm0 hZ => Jvm.Y9.Con.back (s := s.setVm vm0) (W := 1) (own_hg l Z a0 hw z5k z13 (.null) (.int 0) (.null) (.int 0) z5z t_935 kb_936 (txt p2) z6v t_969 kb_970 (txt ((p6.toUInt32 >>> ((3 : Int32) &&& 31).toUInt32).toInt32)) z7b n0 (lT Z0 (z7n.1)) (lT (lT Z0 (z40.1)) (Nat.le_of_eq z5l.symm)) (lT (lT Z0 (z5s.1)) (Nat.le_of_eq z60.symm)) (lT (lT Z0 (z6r.1)) (Nat.le_of_eq z6w.symm)) z7p z7q z7r z7s z7t z7u z7v z7w z7x z7j z7k z7l z7m z7y (nL (lL (lL z63.lt (z6l.1)) (Nat.le_of_eq z6w.symm))) (Jvm.Q9.ori_ne z6m (lT (lT Z0 (z5s.1)) (Nat.le_of_eq z60.symm)) (Jvm.Q9.nl_step (Jvm.Q9.nl_new z31.ltL (lT (lT z3t.1 z5r.1) (Nat.le_of_eq z60.symm))) z6j z63.lt) z63.lt) (nL (lL z6n.ltb (Nat.le_of_eq z6w.symm))) (Jvm.Q9.ori_ne z7i (lT (lT Z0 (z5s.1)) (Nat.le_of_eq z60.symm)) (Jvm.Q9.nl_step (Jvm.Q9.nl_step (Jvm.Q9.nl_new z31.ltL (lT (lT z3t.1 z5r.1) (Nat.le_of_eq z60.symm))) z6j z63.lt) z7f (lL z63.lt (lT z6l.1 z72.1))) (lL z63.lt (lT z6l.1 z72.1))) (Jvm.Q9.ori_ne z7i (lT (lT Z0 (z6r.1)) (Nat.le_of_eq z6w.symm)) (Jvm.Q9.nl_step (Jvm.Q9.nl_new z6i.ltL (lT (Nat.le_refl _) (Nat.le_of_eq z6w.symm))) z7f z6z.lt) z6z.lt) (txt_len _) (txt_len _) (Jvm.Q9.ori_ne z6m (lT (lT Z0 (z40.1)) (Nat.le_of_eq z5l.symm)) (Jvm.Q9.nl_step (Jvm.Q9.nl_new z31.ltL (lT (z3t.1) (Nat.le_of_eq z5l.symm))) z6j (lL z5o.lt (z66.1))) (lL z5o.lt (z66.1))) (Jvm.Q9.ori_ne z7i (lT (lT Z0 (z40.1)) (Nat.le_of_eq z5l.symm)) (Jvm.Q9.nl_step (Jvm.Q9.nl_step (Jvm.Q9.nl_new z31.ltL (lT (z3t.1) (Nat.le_of_eq z5l.symm))) z6j (lL z5o.lt (z66.1))) z7f (lL z5o.lt (lT (lT z66.1 z6l.1) z72.1))) (lL z5o.lt (lT (lT z66.1 z6l.1) z72.1))) G GI) hZ (wI hw 31 rfl) (wI hw 7 rfl) (by decide) (by decide)) (fun _ _ ⟨_, q, _, _, _, _, _, _⟩ => q) (allS (Jvm.Q9.nl_step (Jvm.Q9.nl_step (Jvm.Q9.nl_new z31.ltL (lT (z3t.1) (Nat.le_of_eq z5l.symm))) z6j (lL z5o.lt (z66.1))) z7f (lL z5o.lt (lT (lT z66.1 z6l.1) z72.1))) (allS (Jvm.Q9.nl_step (Jvm.Q9.nl_step (Jvm.Q9.nl_new z31.ltL (lT (lT z3t.1 z5r.1) (Nat.le_of_eq z60.symm))) z6j z63.lt) z7f (lL z63.lt (lT z6l.1 z72.1))) (allS (Jvm.Q9.nl_step (Jvm.Q9.nl_new z6i.ltL (lT (Nat.le_refl _) (Nat.le_of_eq z6w.symm))) z7f z6z.lt) all0))) rfl pd__28Ljava_2flang_2fString_3bILjava_2flang_2fString_3b_29V rfl (Nat.le_of_eq rfl) (hb hby at_199) (by decide) (by decide) ?_
              intro z81 z82 z83 z84 z85
              obtain ⟨rfl, z86, z87, z88, z89, z8a, z8b, z8c⟩ := z85
              have z8d : Keep h0 z82 [] := z7n.trans z86 (allS (Or.inr (lT (z40.1) (Nat.le_of_eq z5l.symm))) (allS (Or.inr (lT (z5s.1) (Nat.le_of_eq z60.symm))) (allS (Or.inr (lT (z6r.1) (Nat.le_of_eq z6w.symm))) all0)))
              have H := z84.here
              refine Jvm.Q9.Aim.of (T' := z81) (g' := (mkF m 207 #[.val (.int p1), .val (.int p2), .val (.int p3), .val (.int p4), .val (.int p5), .val (.int p6), .val (.ref c_676), .val (.ref c_690), .val (.ref c_703), .val (.ref c_717), .val (.int z13), .val (.ref z17), .val (.int (((p6.toUInt32 >>> ((21 : Int32) &&& 31).toUInt32).toInt32) &&& (7 : Int32))), .val (.ref z5k), .unset] [(.int p3), (.int z13)])) (fun tgt kt => ?_) ?_
              · refine XS.astore H hx rfl (hb hby at_202) rfl rfl (l' := #[.val (.int p1), .val (.int p2), .val (.int p3), .val (.int p4), .val (.int p5), .val (.int p6), .val (.ref c_676), .val (.ref c_690), .val (.ref c_703), .val (.ref c_717), .val (.int z13), .val (.ref z17), .val (.int (((p6.toUInt32 >>> ((21 : Int32) &&& 31).toUInt32).toInt32) &&& (7 : Int32))), .val (.ref z5k), .unset]) rfl ?_
                refine XS.iload H hx rfl (hb hby at_204) rfl ?_
                refine XS.iloadN H hx rfl (hb hby at_206) rfl ?_
                exact kt
              by_cases z8e : z13 = p3
              · skip
                have H := z84.here
                refine Jvm.Q9.Aim.of (T' := z81) (g' := (mkF m 214 #[.val (.int p1), .val (.int p2), .val (.int p3), .val (.int p4), .val (.int p5), .val (.int p6), .val (.ref c_676), .val (.ref c_690), .val (.ref c_703), .val (.ref c_717), .val (.int z13), .val (.ref z17), .val (.int (((p6.toUInt32 >>> ((21 : Int32) &&& 31).toUInt32).toInt32) &&& (7 : Int32))), .val (.ref z5k), .unset] [(.ref c_690), (.ref c_676)])) (fun tgt kt => ?_) ?_
                · refine XS.icmpNo H hx rfl (hb hby at_207) rfl (teq z8e).2 ?_
                  refine XS.aload H hx rfl (hb hby at_210) rfl rfl ?_
                  refine XS.aload H hx rfl (hb hby at_212) rfl rfl ?_
                  exact kt
                have z8f : Arv Z z82 c_676 kC_677 .char (Int32.ofNat (txt p1).length) ((txt p1).map Value.int) (.int 0) := ((((((((((z1z.keep z28 (ninS (nL (lL (lL z7.lt (lT (lT (lT zf.1 zo.1) zy.1) z1e.1)) (Nat.le_of_eq z1n.symm))) nin0)).keep z2p nin0).keep z34 (ninS (nL (lL (lL z7.lt (lT (lT (lT (lT (lT zf.1 zo.1) zy.1) z1e.1) z1t.1) z28.1)) (Nat.le_of_eq z2j.symm))) nin0)).keep z3t (ninS (nL (lL (lL z7.lt (lT (lT zf.1 zo.1) zy.1)) (Nat.le_of_eq z18.symm))) (ninS (nL (lL (lL z7.lt (lT (lT (lT zf.1 zo.1) zy.1) z1e.1)) (Nat.le_of_eq z1n.symm))) (ninS (nL (lL (lL z7.lt (lT (lT (lT (lT (lT zf.1 zo.1) zy.1) z1e.1) z1t.1) z28.1)) (Nat.le_of_eq z2j.symm))) nin0)))).keep z5r nin0).keep z66 nin0).keep z6l (ninS (nL (lL (lL z7.lt (lT (lT (lT (lT (lT (lT (lT (lT (lT zf.1 zo.1) zy.1) z1e.1) z1t.1) z28.1) z2p.1) z34.1) z3t.1) z5r.1)) (Nat.le_of_eq z60.symm))) nin0)).keep z72 nin0).keep z7h (ninS (nL (lL (lL z7.lt (lT (lT (lT (lT (lT (lT (lT (lT (lT (lT (lT zf.1 zo.1) zy.1) z1e.1) z1t.1) z28.1) z2p.1) z34.1) z3t.1) z5r.1) z66.1) z6l.1)) (Nat.le_of_eq z6w.symm))) nin0)).keep z86 (ninS (nL (lL (lL z7.lt (lT (lT (lT (lT (lT (lT (lT (lT zf.1 zo.1) zy.1) z1e.1) z1t.1) z28.1) z2p.1) z34.1) z3t.1)) (Nat.le_of_eq z5l.symm))) (ninS (nL (lL (lL z7.lt (lT (lT (lT (lT (lT (lT (lT (lT (lT zf.1 zo.1) zy.1) z1e.1) z1t.1) z28.1) z2p.1) z34.1) z3t.1) z5r.1)) (Nat.le_of_eq z60.symm))) (ninS (nL (lL (lL z7.lt (lT (lT (lT (lT (lT (lT (lT (lT (lT (lT (lT zf.1 zo.1) zy.1) z1e.1) z1t.1) z28.1) z2p.1) z34.1) z3t.1) z5r.1) z66.1) z6l.1)) (Nat.le_of_eq z6w.symm))) nin0))))
                have z8g : Arv Z z82 c_690 kC_691 .char (Int32.ofNat (txt p2).length) ((txt p2).map Value.int) (.int 0) := ((((z6c.keep z6l (ninS (nL (lL (lL zh.lt (lT (lT (lT (lT (lT (lT (lT (lT zo.1 zy.1) z1e.1) z1t.1) z28.1) z2p.1) z34.1) z3t.1) z5r.1)) (Nat.le_of_eq z60.symm))) nin0)).keep z72 nin0).keep z7h (ninS (nL (lL (lL zh.lt (lT (lT (lT (lT (lT (lT (lT (lT (lT (lT zo.1 zy.1) z1e.1) z1t.1) z28.1) z2p.1) z34.1) z3t.1) z5r.1) z66.1) z6l.1)) (Nat.le_of_eq z6w.symm))) nin0)).keep z86 (ninS (nL (lL (lL zh.lt (lT (lT (lT (lT (lT (lT (lT zo.1 zy.1) z1e.1) z1t.1) z28.1) z2p.1) z34.1) z3t.1)) (Nat.le_of_eq z5l.symm))) (ninS (nL (lL (lL zh.lt (lT (lT (lT (lT (lT (lT (lT (lT zo.1 zy.1) z1e.1) z1t.1) z28.1) z2p.1) z34.1) z3t.1) z5r.1)) (Nat.le_of_eq z60.symm))) (ninS (nL (lL (lL zh.lt (lT (lT (lT (lT (lT (lT (lT (lT (lT (lT zo.1 zy.1) z1e.1) z1t.1) z28.1) z2p.1) z34.1) z3t.1) z5r.1) z66.1) z6l.1)) (Nat.le_of_eq z6w.symm))) nin0))))
                refine Jvm.Q9.Aim.callS (argsL := [(.ref c_676), (.ref c_690)]) (rest := []) z84 hx hZ hml hown (wI hw 88 rfl) (wI hw 89 rfl) (wI hw 2 rfl) (wI hw 90 rfl) (by decide) (fun vm0 hZ => Jvm.Y9.Con.back (s := s.setVm vm0) (W := 0) (own_same l Z a0 hw c_676 kC_677 (txt p1) c_690 kC_691 (txt p2) z82 n0 (lT Z0 (z8d.1)) z8f z8g (txt_len _) (txt_len _)) hZ (wI hw 90 rfl) (wI hw 2 rfl) (by decide) (by decide)) (fun _ _ ⟨_, q⟩ => (by subst q; exact Keep.refl _ [])) all0 rfl pd__28_5bC_5bC_29Z rfl (Nat.le_of_eq rfl) (hb hby at_214) (by decide) (by decide) ?_
                intro z8h z8i z8j z8k z8l
                obtain ⟨rfl, rfl⟩ := z8l
                by_cases z8m : (if (txt p1) = (txt p2) then (1 : Int32) else (0 : Int32)) = (0 : Int32)
                · skip
                  have H := z8k.here
                  refine Jvm.Q9.Aim.of (T' := z8h) (g' := (mkF m 241 #[.val (.int p1), .val (.int p2), .val (.int p3), .val (.int p4), .val (.int p5), .val (.int p6), .val (.ref c_676), .val (.ref c_690), .val (.ref c_703), .val (.ref c_717), .val (.int z13), .val (.ref z17), .val (.int (((p6.toUInt32 >>> ((21 : Int32) &&& 31).toUInt32).toInt32) &&& (7 : Int32))), .val (.ref z5k), .val (.int 0)] [(.ref z5k), (.ref z17)])) (fun tgt kt => ?_) ?_
                  · refine XS.ifYes H hx rfl (pc0 := 217) (pc' := 234) rfl (hb hby at_217) rfl ((if0 _ _).trans (teq z8m).1) (by decide) (by decide) ?_
                    refine XS.iconst H hx rfl (hb hby at_234) ?_
                    refine XS.istore H hx rfl (hb hby at_235) rfl (l' := #[.val (.int p1), .val (.int p2), .val (.int p3), .val (.int p4), .val (.int p5), .val (.int p6), .val (.ref c_676), .val (.ref c_690), .val (.ref c_703), .val (.ref c_717), .val (.int z13), .val (.ref z17), .val (.int (((p6.toUInt32 >>> ((21 : Int32) &&& 31).toUInt32).toInt32) &&& (7 : Int32))), .val (.ref z5k), .val (.int 0)]) rfl ?_
                    refine XS.aload H hx rfl (hb hby at_237) rfl rfl ?_
                    refine XS.aload H hx rfl (hb hby at_239) rfl rfl ?_
                    exact kt
                  have z8n : Exa Z z82 z17 "com/example/tophat_ledger/tophatledger/HoldingGroup" := ((((((z3u.keep z5r).keep z66).keep z6l).keep z72).keep z7h).keep z86)
                  have z8o : Fld Z z82 z17 "com/example/tophat_ledger/tophatledger/HoldingGroup" "participant" "Ljava/lang/String;" (.ref z1m) := ((((((z3v.keep z5r nin0).keep z66 nin0).keep z6l (ninS (nL (lL (lL z1b.lt (lT (lT (lT (lT (lT z1t.1 z28.1) z2p.1) z34.1) z3t.1) z5r.1)) (Nat.le_of_eq z60.symm))) nin0)).keep z72 nin0).keep z7h (ninS (nL (lL (lL z1b.lt (lT (lT (lT (lT (lT (lT (lT z1t.1 z28.1) z2p.1) z34.1) z3t.1) z5r.1) z66.1) z6l.1)) (Nat.le_of_eq z6w.symm))) nin0)).keep z86 (ninS (nL (lL (lL z1b.lt (lT (lT (lT (lT z1t.1 z28.1) z2p.1) z34.1) z3t.1)) (Nat.le_of_eq z5l.symm))) (ninS (nL (lL (lL z1b.lt (lT (lT (lT (lT (lT z1t.1 z28.1) z2p.1) z34.1) z3t.1) z5r.1)) (Nat.le_of_eq z60.symm))) (ninS (nL (lL (lL z1b.lt (lT (lT (lT (lT (lT (lT (lT z1t.1 z28.1) z2p.1) z34.1) z3t.1) z5r.1) z66.1) z6l.1)) (Nat.le_of_eq z6w.symm))) nin0))))
                  have z8p : Fld Z z82 z17 "com/example/tophat_ledger/tophatledger/HoldingGroup" "year" "I" (.int p3) := ((((((z3w.keep z5r nin0).keep z66 nin0).keep z6l (ninS (nL (lL (lL z1b.lt (lT (lT (lT (lT (lT z1t.1 z28.1) z2p.1) z34.1) z3t.1) z5r.1)) (Nat.le_of_eq z60.symm))) nin0)).keep z72 nin0).keep z7h (ninS (nL (lL (lL z1b.lt (lT (lT (lT (lT (lT (lT (lT z1t.1 z28.1) z2p.1) z34.1) z3t.1) z5r.1) z66.1) z6l.1)) (Nat.le_of_eq z6w.symm))) nin0)).keep z86 (ninS (nL (lL (lL z1b.lt (lT (lT (lT (lT z1t.1 z28.1) z2p.1) z34.1) z3t.1)) (Nat.le_of_eq z5l.symm))) (ninS (nL (lL (lL z1b.lt (lT (lT (lT (lT (lT z1t.1 z28.1) z2p.1) z34.1) z3t.1) z5r.1)) (Nat.le_of_eq z60.symm))) (ninS (nL (lL (lL z1b.lt (lT (lT (lT (lT (lT (lT (lT z1t.1 z28.1) z2p.1) z34.1) z3t.1) z5r.1) z66.1) z6l.1)) (Nat.le_of_eq z6w.symm))) nin0))))
                  have z8q : Fld Z z82 z17 "com/example/tophat_ledger/tophatledger/HoldingGroup" "source" "Ljava/lang/String;" (.ref z2i) := ((((((z3x.keep z5r nin0).keep z66 nin0).keep z6l (ninS (nL (lL (lL z1b.lt (lT (lT (lT (lT (lT z1t.1 z28.1) z2p.1) z34.1) z3t.1) z5r.1)) (Nat.le_of_eq z60.symm))) nin0)).keep z72 nin0).keep z7h (ninS (nL (lL (lL z1b.lt (lT (lT (lT (lT (lT (lT (lT z1t.1 z28.1) z2p.1) z34.1) z3t.1) z5r.1) z66.1) z6l.1)) (Nat.le_of_eq z6w.symm))) nin0)).keep z86 (ninS (nL (lL (lL z1b.lt (lT (lT (lT (lT z1t.1 z28.1) z2p.1) z34.1) z3t.1)) (Nat.le_of_eq z5l.symm))) (ninS (nL (lL (lL z1b.lt (lT (lT (lT (lT (lT z1t.1 z28.1) z2p.1) z34.1) z3t.1) z5r.1)) (Nat.le_of_eq z60.symm))) (ninS (nL (lL (lL z1b.lt (lT (lT (lT (lT (lT (lT (lT z1t.1 z28.1) z2p.1) z34.1) z3t.1) z5r.1) z66.1) z6l.1)) (Nat.le_of_eq z6w.symm))) nin0))))
                  have z8r : Str Z z82 z1m t_764 kb_765 (txt p1) := ((((((z3y.keep z5r nin0 nin0).keep z66 nin0 nin0).keep z6l (ninS (nL (lL (lL z1q.lt (lT (lT (lT (lT z28.1 z2p.1) z34.1) z3t.1) z5r.1)) (Nat.le_of_eq z60.symm))) nin0) (ninS (nL (lL (lL z2a.ltb (lT (lT (lT z2p.1 z34.1) z3t.1) z5r.1)) (Nat.le_of_eq z60.symm))) nin0)).keep z72 nin0 nin0).keep z7h (ninS (nL (lL (lL z1q.lt (lT (lT (lT (lT (lT (lT z28.1 z2p.1) z34.1) z3t.1) z5r.1) z66.1) z6l.1)) (Nat.le_of_eq z6w.symm))) nin0) (ninS (nL (lL (lL z2a.ltb (lT (lT (lT (lT (lT z2p.1 z34.1) z3t.1) z5r.1) z66.1) z6l.1)) (Nat.le_of_eq z6w.symm))) nin0)).keep z86 (ninS (nL (lL (lL z1q.lt (lT (lT (lT z28.1 z2p.1) z34.1) z3t.1)) (Nat.le_of_eq z5l.symm))) (ninS (nL (lL (lL z1q.lt (lT (lT (lT (lT z28.1 z2p.1) z34.1) z3t.1) z5r.1)) (Nat.le_of_eq z60.symm))) (ninS (nL (lL (lL z1q.lt (lT (lT (lT (lT (lT (lT z28.1 z2p.1) z34.1) z3t.1) z5r.1) z66.1) z6l.1)) (Nat.le_of_eq z6w.symm))) nin0))) (ninS (nL (lL (lL z2a.ltb (lT (lT z2p.1 z34.1) z3t.1)) (Nat.le_of_eq z5l.symm))) (ninS (nL (lL (lL z2a.ltb (lT (lT (lT z2p.1 z34.1) z3t.1) z5r.1)) (Nat.le_of_eq z60.symm))) (ninS (nL (lL (lL z2a.ltb (lT (lT (lT (lT (lT z2p.1 z34.1) z3t.1) z5r.1) z66.1) z6l.1)) (Nat.le_of_eq z6w.symm))) nin0))))
                  have z8s : Str Z z82 z2i t_798 kb_799 (txt p5) := ((((((z3z.keep z5r nin0 nin0).keep z66 nin0 nin0).keep z6l (ninS (nL (lL (lL z2m.lt (lT (lT z34.1 z3t.1) z5r.1)) (Nat.le_of_eq z60.symm))) nin0) (ninS (nL (lL (lL z36.ltb (lT z3t.1 z5r.1)) (Nat.le_of_eq z60.symm))) nin0)).keep z72 nin0 nin0).keep z7h (ninS (nL (lL (lL z2m.lt (lT (lT (lT (lT z34.1 z3t.1) z5r.1) z66.1) z6l.1)) (Nat.le_of_eq z6w.symm))) nin0) (ninS (nL (lL (lL z36.ltb (lT (lT (lT z3t.1 z5r.1) z66.1) z6l.1)) (Nat.le_of_eq z6w.symm))) nin0)).keep z86 (ninS (nL (lL (lL z2m.lt (lT z34.1 z3t.1)) (Nat.le_of_eq z5l.symm))) (ninS (nL (lL (lL z2m.lt (lT (lT z34.1 z3t.1) z5r.1)) (Nat.le_of_eq z60.symm))) (ninS (nL (lL (lL z2m.lt (lT (lT (lT (lT z34.1 z3t.1) z5r.1) z66.1) z6l.1)) (Nat.le_of_eq z6w.symm))) nin0))) (ninS (nL (lL (lL z36.ltb (z3t.1)) (Nat.le_of_eq z5l.symm))) (ninS (nL (lL (lL z36.ltb (lT z3t.1 z5r.1)) (Nat.le_of_eq z60.symm))) (ninS (nL (lL (lL z36.ltb (lT (lT (lT z3t.1 z5r.1) z66.1) z6l.1)) (Nat.le_of_eq z6w.symm))) nin0))))
                  have z8t : Old Z n0 z82 := (z7y.keep z86 (allS (lT (lT Z0 (z40.1)) (Nat.le_of_eq z5l.symm)) (allS (lT (lT Z0 (z5s.1)) (Nat.le_of_eq z60.symm)) (allS (lT (lT Z0 (z6r.1)) (Nat.le_of_eq z6w.symm)) all0))))
                  refine Jvm.Q9.Aim.callV (argsL := [(.ref z5k)]) (rest := []) (y := (⟨"com/example/tophat_ledger/tophatledger/HoldingGroup", "equals", "(Ljava/lang/Object;)Z"⟩ : MethodName)) (z := (⟨"com/example/tophat_ledger/tophatledger/HoldingGroup", "equals", "(Ljava/lang/Object;)Z"⟩ : MethodName)) z8k hx hZ hml hown (wI hw 91 rfl) (wI hw 92 rfl) (fun vm0 hZ => notFace_of_selects (args := #[]) (mvT (s := s.setVm vm0) hZ (wI hw 94 rfl))) (wI hw 94 rfl) (wI hw 93 rfl) (by decide) z8n (fun vm0 hZ => Jvm.Y9.Con.back (s := s.setVm vm0) (W := 0) (own_eqH l Z a0 hw z17 p3 z1m t_764 kb_765 (txt p1) z2i t_798 kb_799 (txt p5) z5k z13 z5z t_935 kb_936 (txt p2) z6v t_969 kb_970 (txt ((p6.toUInt32 >>> ((3 : Int32) &&& 31).toUInt32).toInt32)) z82 n0 (lT Z0 (z8d.1)) z8n z8o z8p z8q z8r z8s z87 z88 z89 z8a z8b z8c z8t G) hZ (wI hw 95 rfl) (wI hw 7 rfl) (by decide) (by decide)) (fun _ _ ⟨_, q⟩ => (by subst q; exact Keep.refl _ [])) all0 rfl pd__28Ljava_2flang_2fObject_3b_29Z rfl (Nat.le_of_eq rfl) (hb hby at_241) (by decide) (by decide) ?_
                  intro z8u z8v z8w z8x z8y
                  obtain ⟨rfl, rfl⟩ := z8y
                  have H := z8x.here
                  refine Jvm.Q9.Aim.of (T' := z8u) (g' := (mkF m 253 #[.val (.int p1), .val (.int p2), .val (.int p3), .val (.int p4), .val (.int p5), .val (.int p6), .val (.ref c_676), .val (.ref c_690), .val (.ref c_703), .val (.ref c_717), .val (.int z13), .val (.ref z17), .val (.int (((p6.toUInt32 >>> ((21 : Int32) &&& 31).toUInt32).toInt32) &&& (7 : Int32))), .val (.ref z5k), .val (.int 0)] [(.ref z17), (.ref z5k)])) (fun tgt kt => ?_) ?_
                  · refine XS.iload H hx rfl (hb hby at_244) rfl ?_
                    refine XS.icmpNo H hx rfl (hb hby at_246) rfl (teq (if_neg (fun q => (fun q => by rw [if_pos q] at z8m; cases z8m) q.2.1))).2 ?_
                    refine XS.aload H hx rfl (hb hby at_249) rfl rfl ?_
                    refine XS.aload H hx rfl (hb hby at_251) rfl rfl ?_
                    exact kt
                  refine Jvm.Q9.Aim.callV (argsL := [(.ref z17)]) (rest := []) (y := (⟨"com/example/tophat_ledger/tophatledger/HoldingGroup", "equals", "(Ljava/lang/Object;)Z"⟩ : MethodName)) (z := (⟨"com/example/tophat_ledger/tophatledger/HoldingGroup", "equals", "(Ljava/lang/Object;)Z"⟩ : MethodName)) z8x hx hZ hml hown (wI hw 91 rfl) (wI hw 92 rfl) (fun vm0 hZ => notFace_of_selects (args := #[]) (mvT (s := s.setVm vm0) hZ (wI hw 94 rfl))) (wI hw 94 rfl) (wI hw 93 rfl) (by decide) z87 (fun vm0 hZ => Jvm.Y9.Con.back (s := s.setVm vm0) (W := 0) (own_eqH l Z a0 hw z5k z13 z5z t_935 kb_936 (txt p2) z6v t_969 kb_970 (txt ((p6.toUInt32 >>> ((3 : Int32) &&& 31).toUInt32).toInt32)) z17 p3 z1m t_764 kb_765 (txt p1) z2i t_798 kb_799 (txt p5) z82 n0 (lT Z0 (z8d.1)) z87 z88 z89 z8a z8b z8c z8n z8o z8p z8q z8r z8s z8t G) hZ (wI hw 95 rfl) (wI hw 7 rfl) (by decide) (by decide)) (fun _ _ ⟨_, q⟩ => (by subst q; exact Keep.refl _ [])) all0 rfl pd__28Ljava_2flang_2fObject_3b_29Z rfl (Nat.le_of_eq rfl) (hb hby at_253) (by decide) (by decide) ?_
                  intro z8z z90 z91 z92 z93
                  obtain ⟨rfl, rfl⟩ := z93
                  have H := z92.here
                  refine Jvm.Q9.Aim.of (T' := z8z) (g' := (mkF m 266 #[.val (.int p1), .val (.int p2), .val (.int p3), .val (.int p4), .val (.int p5), .val (.int p6), .val (.ref c_676), .val (.ref c_690), .val (.ref c_703), .val (.ref c_717), .val (.int z13), .val (.ref z17), .val (.int (((p6.toUInt32 >>> ((21 : Int32) &&& 31).toUInt32).toInt32) &&& (7 : Int32))), .val (.ref z5k), .val (.int 0)] [(.int 1)])) (fun tgt kt => ?_) ?_
                  · refine XS.iload H hx rfl (hb hby at_256) rfl ?_
                    refine XS.icmpNo H hx rfl (hb hby at_258) rfl (teq (if_neg (fun q => (fun q => by rw [if_pos (Eq.symm q)] at z8m; cases z8m) q.2.1))).2 ?_
                    refine XS.iconst H hx rfl (hb hby at_261) ?_
                    refine XS.goto H hx rfl (pc0 := 262) (pc' := 266) rfl (hb hby at_262) (by decide) (by decide) ?_
                    exact kt
                  exact Jvm.Q9.Aim.retN (t := .boolean) z92 hx hlk hret (by simp) (hb hby at_266) (by decide) (by decide) z7o ⟨rfl, z8d⟩
                · skip
                  have H := z8k.here
                  refine Jvm.Q9.Aim.of (T' := z8h) (g' := (mkF m 224 #[.val (.int p1), .val (.int p2), .val (.int p3), .val (.int p4), .val (.int p5), .val (.int p6), .val (.ref c_676), .val (.ref c_690), .val (.ref c_703), .val (.ref c_717), .val (.int z13), .val (.ref z17), .val (.int (((p6.toUInt32 >>> ((21 : Int32) &&& 31).toUInt32).toInt32) &&& (7 : Int32))), .val (.ref z5k), .unset] [(.ref c_717), (.ref c_703)])) (fun tgt kt => ?_) ?_
                  · refine XS.ifNo H hx rfl (hb hby at_217) rfl ((if0 _ _).trans (feq z8m).1) ?_
                    refine XS.aload H hx rfl (hb hby at_220) rfl rfl ?_
                    refine XS.aload H hx rfl (hb hby at_222) rfl rfl ?_
                    exact kt
                  have z94 : Arv Z z82 c_703 kC_704 .char (Int32.ofNat (txt p5).length) ((txt p5).map Value.int) (.int 0) := ((((((((z2v.keep z34 (ninS (nL (lL (lL zq.lt (lT (lT (lT zy.1 z1e.1) z1t.1) z28.1)) (Nat.le_of_eq z2j.symm))) nin0)).keep z3t (ninS (nL (lL (lL zq.lt (zy.1)) (Nat.le_of_eq z18.symm))) (ninS (nL (lL (lL zq.lt (lT zy.1 z1e.1)) (Nat.le_of_eq z1n.symm))) (ninS (nL (lL (lL zq.lt (lT (lT (lT zy.1 z1e.1) z1t.1) z28.1)) (Nat.le_of_eq z2j.symm))) nin0)))).keep z5r nin0).keep z66 nin0).keep z6l (ninS (nL (lL (lL zq.lt (lT (lT (lT (lT (lT (lT (lT zy.1 z1e.1) z1t.1) z28.1) z2p.1) z34.1) z3t.1) z5r.1)) (Nat.le_of_eq z60.symm))) nin0)).keep z72 nin0).keep z7h (ninS (nL (lL (lL zq.lt (lT (lT (lT (lT (lT (lT (lT (lT (lT zy.1 z1e.1) z1t.1) z28.1) z2p.1) z34.1) z3t.1) z5r.1) z66.1) z6l.1)) (Nat.le_of_eq z6w.symm))) nin0)).keep z86 (ninS (nL (lL (lL zq.lt (lT (lT (lT (lT (lT (lT zy.1 z1e.1) z1t.1) z28.1) z2p.1) z34.1) z3t.1)) (Nat.le_of_eq z5l.symm))) (ninS (nL (lL (lL zq.lt (lT (lT (lT (lT (lT (lT (lT zy.1 z1e.1) z1t.1) z28.1) z2p.1) z34.1) z3t.1) z5r.1)) (Nat.le_of_eq z60.symm))) (ninS (nL (lL (lL zq.lt (lT (lT (lT (lT (lT (lT (lT (lT (lT zy.1 z1e.1) z1t.1) z28.1) z2p.1) z34.1) z3t.1) z5r.1) z66.1) z6l.1)) (Nat.le_of_eq z6w.symm))) nin0))))
                  have z95 : Arv Z z82 c_717 kC_718 .char (Int32.ofNat (txt ((p6.toUInt32 >>> ((3 : Int32) &&& 31).toUInt32).toInt32)).length) ((txt ((p6.toUInt32 >>> ((3 : Int32) &&& 31).toUInt32).toInt32)).map Value.int) (.int 0) := ((z78.keep z7h (ninS (nL (lL (lL z10.lt (lT (lT (lT (lT (lT (lT (lT (lT z1e.1 z1t.1) z28.1) z2p.1) z34.1) z3t.1) z5r.1) z66.1) z6l.1)) (Nat.le_of_eq z6w.symm))) nin0)).keep z86 (ninS (nL (lL (lL z10.lt (lT (lT (lT (lT (lT z1e.1 z1t.1) z28.1) z2p.1) z34.1) z3t.1)) (Nat.le_of_eq z5l.symm))) (ninS (nL (lL (lL z10.lt (lT (lT (lT (lT (lT (lT z1e.1 z1t.1) z28.1) z2p.1) z34.1) z3t.1) z5r.1)) (Nat.le_of_eq z60.symm))) (ninS (nL (lL (lL z10.lt (lT (lT (lT (lT (lT (lT (lT (lT z1e.1 z1t.1) z28.1) z2p.1) z34.1) z3t.1) z5r.1) z66.1) z6l.1)) (Nat.le_of_eq z6w.symm))) nin0))))
                  refine Jvm.Q9.Aim.callS (argsL := [(.ref c_703), (.ref c_717)]) (rest := []) z8k hx hZ hml hown (wI hw 88 rfl) (wI hw 89 rfl) (wI hw 2 rfl) (wI hw 90 rfl) (by decide) (fun vm0 hZ => Jvm.Y9.Con.back (s := s.setVm vm0) (W := 0) (own_same l Z a0 hw c_703 kC_704 (txt p5) c_717 kC_718 (txt ((p6.toUInt32 >>> ((3 : Int32) &&& 31).toUInt32).toInt32)) z82 n0 (lT Z0 (z8d.1)) z94 z95 (txt_len _) (txt_len _)) hZ (wI hw 90 rfl) (wI hw 2 rfl) (by decide) (by decide)) (fun _ _ ⟨_, q⟩ => (by subst q; exact Keep.refl _ [])) all0 rfl pd__28_5bC_5bC_29Z rfl (Nat.le_of_eq rfl) (hb hby at_224) (by decide) (by decide) ?_
                  intro z96 z97 z98 z99 z9a
                  obtain ⟨rfl, rfl⟩ := z9a
                  by_cases z9b : (if (txt p5) = (txt ((p6.toUInt32 >>> ((3 : Int32) &&& 31).toUInt32).toInt32)) then (1 : Int32) else (0 : Int32)) = (0 : Int32)
                  · skip
                    have H := z99.here
                    refine Jvm.Q9.Aim.of (T' := z96) (g' := (mkF m 241 #[.val (.int p1), .val (.int p2), .val (.int p3), .val (.int p4), .val (.int p5), .val (.int p6), .val (.ref c_676), .val (.ref c_690), .val (.ref c_703), .val (.ref c_717), .val (.int z13), .val (.ref z17), .val (.int (((p6.toUInt32 >>> ((21 : Int32) &&& 31).toUInt32).toInt32) &&& (7 : Int32))), .val (.ref z5k), .val (.int 0)] [(.ref z5k), (.ref z17)])) (fun tgt kt => ?_) ?_
                    · refine XS.ifYes H hx rfl (pc0 := 227) (pc' := 234) rfl (hb hby at_227) rfl ((if0 _ _).trans (teq z9b).1) (by decide) (by decide) ?_
                      refine XS.iconst H hx rfl (hb hby at_234) ?_
                      refine XS.istore H hx rfl (hb hby at_235) rfl (l' := #[.val (.int p1), .val (.int p2), .val (.int p3), .val (.int p4), .val (.int p5), .val (.int p6), .val (.ref c_676), .val (.ref c_690), .val (.ref c_703), .val (.ref c_717), .val (.int z13), .val (.ref z17), .val (.int (((p6.toUInt32 >>> ((21 : Int32) &&& 31).toUInt32).toInt32) &&& (7 : Int32))), .val (.ref z5k), .val (.int 0)]) rfl ?_
                      refine XS.aload H hx rfl (hb hby at_237) rfl rfl ?_
                      refine XS.aload H hx rfl (hb hby at_239) rfl rfl ?_
                      exact kt
                    have z9c : Exa Z z82 z17 "com/example/tophat_ledger/tophatledger/HoldingGroup" := ((((((z3u.keep z5r).keep z66).keep z6l).keep z72).keep z7h).keep z86)
                    have z9d : Fld Z z82 z17 "com/example/tophat_ledger/tophatledger/HoldingGroup" "participant" "Ljava/lang/String;" (.ref z1m) := ((((((z3v.keep z5r nin0).keep z66 nin0).keep z6l (ninS (nL (lL (lL z1b.lt (lT (lT (lT (lT (lT z1t.1 z28.1) z2p.1) z34.1) z3t.1) z5r.1)) (Nat.le_of_eq z60.symm))) nin0)).keep z72 nin0).keep z7h (ninS (nL (lL (lL z1b.lt (lT (lT (lT (lT (lT (lT (lT z1t.1 z28.1) z2p.1) z34.1) z3t.1) z5r.1) z66.1) z6l.1)) (Nat.le_of_eq z6w.symm))) nin0)).keep z86 (ninS (nL (lL (lL z1b.lt (lT (lT (lT (lT z1t.1 z28.1) z2p.1) z34.1) z3t.1)) (Nat.le_of_eq z5l.symm))) (ninS (nL (lL (lL z1b.lt (lT (lT (lT (lT (lT z1t.1 z28.1) z2p.1) z34.1) z3t.1) z5r.1)) (Nat.le_of_eq z60.symm))) (ninS (nL (lL (lL z1b.lt (lT (lT (lT (lT (lT (lT (lT z1t.1 z28.1) z2p.1) z34.1) z3t.1) z5r.1) z66.1) z6l.1)) (Nat.le_of_eq z6w.symm))) nin0))))
                    have z9e : Fld Z z82 z17 "com/example/tophat_ledger/tophatledger/HoldingGroup" "year" "I" (.int p3) := ((((((z3w.keep z5r nin0).keep z66 nin0).keep z6l (ninS (nL (lL (lL z1b.lt (lT (lT (lT (lT (lT z1t.1 z28.1) z2p.1) z34.1) z3t.1) z5r.1)) (Nat.le_of_eq z60.symm))) nin0)).keep z72 nin0).keep z7h (ninS (nL (lL (lL z1b.lt (lT (lT (lT (lT (lT (lT (lT z1t.1 z28.1) z2p.1) z34.1) z3t.1) z5r.1) z66.1) z6l.1)) (Nat.le_of_eq z6w.symm))) nin0)).keep z86 (ninS (nL (lL (lL z1b.lt (lT (lT (lT (lT z1t.1 z28.1) z2p.1) z34.1) z3t.1)) (Nat.le_of_eq z5l.symm))) (ninS (nL (lL (lL z1b.lt (lT (lT (lT (lT (lT z1t.1 z28.1) z2p.1) z34.1) z3t.1) z5r.1)) (Nat.le_of_eq z60.symm))) (ninS (nL (lL (lL z1b.lt (lT (lT (lT (lT (lT (lT (lT z1t.1 z28.1) z2p.1) z34.1) z3t.1) z5r.1) z66.1) z6l.1)) (Nat.le_of_eq z6w.symm))) nin0))))
                    have z9f : Fld Z z82 z17 "com/example/tophat_ledger/tophatledger/HoldingGroup" "source" "Ljava/lang/String;" (.ref z2i) := ((((((z3x.keep z5r nin0).keep z66 nin0).keep z6l (ninS (nL (lL (lL z1b.lt (lT (lT (lT (lT (lT z1t.1 z28.1) z2p.1) z34.1) z3t.1) z5r.1)) (Nat.le_of_eq z60.symm))) nin0)).keep z72 nin0).keep z7h (ninS (nL (lL (lL z1b.lt (lT (lT (lT (lT (lT (lT (lT z1t.1 z28.1) z2p.1) z34.1) z3t.1) z5r.1) z66.1) z6l.1)) (Nat.le_of_eq z6w.symm))) nin0)).keep z86 (ninS (nL (lL (lL z1b.lt (lT (lT (lT (lT z1t.1 z28.1) z2p.1) z34.1) z3t.1)) (Nat.le_of_eq z5l.symm))) (ninS (nL (lL (lL z1b.lt (lT (lT (lT (lT (lT z1t.1 z28.1) z2p.1) z34.1) z3t.1) z5r.1)) (Nat.le_of_eq z60.symm))) (ninS (nL (lL (lL z1b.lt (lT (lT (lT (lT (lT (lT (lT z1t.1 z28.1) z2p.1) z34.1) z3t.1) z5r.1) z66.1) z6l.1)) (Nat.le_of_eq z6w.symm))) nin0))))
                    have z9g : Str Z z82 z1m t_764 kb_765 (txt p1) := ((((((z3y.keep z5r nin0 nin0).keep z66 nin0 nin0).keep z6l (ninS (nL (lL (lL z1q.lt (lT (lT (lT (lT z28.1 z2p.1) z34.1) z3t.1) z5r.1)) (Nat.le_of_eq z60.symm))) nin0) (ninS (nL (lL (lL z2a.ltb (lT (lT (lT z2p.1 z34.1) z3t.1) z5r.1)) (Nat.le_of_eq z60.symm))) nin0)).keep z72 nin0 nin0).keep z7h (ninS (nL (lL (lL z1q.lt (lT (lT (lT (lT (lT (lT z28.1 z2p.1) z34.1) z3t.1) z5r.1) z66.1) z6l.1)) (Nat.le_of_eq z6w.symm))) nin0) (ninS (nL (lL (lL z2a.ltb (lT (lT (lT (lT (lT z2p.1 z34.1) z3t.1) z5r.1) z66.1) z6l.1)) (Nat.le_of_eq z6w.symm))) nin0)).keep z86 (ninS (nL (lL (lL z1q.lt (lT (lT (lT z28.1 z2p.1) z34.1) z3t.1)) (Nat.le_of_eq z5l.symm))) (ninS (nL (lL (lL z1q.lt (lT (lT (lT (lT z28.1 z2p.1) z34.1) z3t.1) z5r.1)) (Nat.le_of_eq z60.symm))) (ninS (nL (lL (lL z1q.lt (lT (lT (lT (lT (lT (lT z28.1 z2p.1) z34.1) z3t.1) z5r.1) z66.1) z6l.1)) (Nat.le_of_eq z6w.symm))) nin0))) (ninS (nL (lL (lL z2a.ltb (lT (lT z2p.1 z34.1) z3t.1)) (Nat.le_of_eq z5l.symm))) (ninS (nL (lL (lL z2a.ltb (lT (lT (lT z2p.1 z34.1) z3t.1) z5r.1)) (Nat.le_of_eq z60.symm))) (ninS (nL (lL (lL z2a.ltb (lT (lT (lT (lT (lT z2p.1 z34.1) z3t.1) z5r.1) z66.1) z6l.1)) (Nat.le_of_eq z6w.symm))) nin0))))
                    have z9h : Str Z z82 z2i t_798 kb_799 (txt p5) := ((((((z3z.keep z5r nin0 nin0).keep z66 nin0 nin0).keep z6l (ninS (nL (lL (lL z2m.lt (lT (lT z34.1 z3t.1) z5r.1)) (Nat.le_of_eq z60.symm))) nin0) (ninS (nL (lL (lL z36.ltb (lT z3t.1 z5r.1)) (Nat.le_of_eq z60.symm))) nin0)).keep z72 nin0 nin0).keep z7h (ninS (nL (lL (lL z2m.lt (lT (lT (lT (lT z34.1 z3t.1) z5r.1) z66.1) z6l.1)) (Nat.le_of_eq z6w.symm))) nin0) (ninS (nL (lL (lL z36.ltb (lT (lT (lT z3t.1 z5r.1) z66.1) z6l.1)) (Nat.le_of_eq z6w.symm))) nin0)).keep z86 (ninS (nL (lL (lL z2m.lt (lT z34.1 z3t.1)) (Nat.le_of_eq z5l.symm))) (ninS (nL (lL (lL z2m.lt (lT (lT z34.1 z3t.1) z5r.1)) (Nat.le_of_eq z60.symm))) (ninS (nL (lL (lL z2m.lt (lT (lT (lT (lT z34.1 z3t.1) z5r.1) z66.1) z6l.1)) (Nat.le_of_eq z6w.symm))) nin0))) (ninS (nL (lL (lL z36.ltb (z3t.1)) (Nat.le_of_eq z5l.symm))) (ninS (nL (lL (lL z36.ltb (lT z3t.1 z5r.1)) (Nat.le_of_eq z60.symm))) (ninS (nL (lL (lL z36.ltb (lT (lT (lT z3t.1 z5r.1) z66.1) z6l.1)) (Nat.le_of_eq z6w.symm))) nin0))))
                    have z9i : Old Z n0 z82 := (z7y.keep z86 (allS (lT (lT Z0 (z40.1)) (Nat.le_of_eq z5l.symm)) (allS (lT (lT Z0 (z5s.1)) (Nat.le_of_eq z60.symm)) (allS (lT (lT Z0 (z6r.1)) (Nat.le_of_eq z6w.symm)) all0))))
                    refine Jvm.Q9.Aim.callV (argsL := [(.ref z5k)]) (rest := []) (y := (⟨"com/example/tophat_ledger/tophatledger/HoldingGroup", "equals", "(Ljava/lang/Object;)Z"⟩ : MethodName)) (z := (⟨"com/example/tophat_ledger/tophatledger/HoldingGroup", "equals", "(Ljava/lang/Object;)Z"⟩ : MethodName)) z99 hx hZ hml hown (wI hw 91 rfl) (wI hw 92 rfl) (fun vm0 hZ => notFace_of_selects (args := #[]) (mvT (s := s.setVm vm0) hZ (wI hw 94 rfl))) (wI hw 94 rfl) (wI hw 93 rfl) (by decide) z9c (fun vm0 hZ => Jvm.Y9.Con.back (s := s.setVm vm0) (W := 0) (own_eqH l Z a0 hw z17 p3 z1m t_764 kb_765 (txt p1) z2i t_798 kb_799 (txt p5) z5k z13 z5z t_935 kb_936 (txt p2) z6v t_969 kb_970 (txt ((p6.toUInt32 >>> ((3 : Int32) &&& 31).toUInt32).toInt32)) z82 n0 (lT Z0 (z8d.1)) z9c z9d z9e z9f z9g z9h z87 z88 z89 z8a z8b z8c z9i G) hZ (wI hw 95 rfl) (wI hw 7 rfl) (by decide) (by decide)) (fun _ _ ⟨_, q⟩ => (by subst q; exact Keep.refl _ [])) all0 rfl pd__28Ljava_2flang_2fObject_3b_29Z rfl (Nat.le_of_eq rfl) (hb hby at_241) (by decide) (by decide) ?_
                    intro z9j z9k z9l z9m z9n
                    obtain ⟨rfl, rfl⟩ := z9n
                    have H := z9m.here
                    refine Jvm.Q9.Aim.of (T' := z9j) (g' := (mkF m 253 #[.val (.int p1), .val (.int p2), .val (.int p3), .val (.int p4), .val (.int p5), .val (.int p6), .val (.ref c_676), .val (.ref c_690), .val (.ref c_703), .val (.ref c_717), .val (.int z13), .val (.ref z17), .val (.int (((p6.toUInt32 >>> ((21 : Int32) &&& 31).toUInt32).toInt32) &&& (7 : Int32))), .val (.ref z5k), .val (.int 0)] [(.ref z17), (.ref z5k)])) (fun tgt kt => ?_) ?_
                    · refine XS.iload H hx rfl (hb hby at_244) rfl ?_
                      refine XS.icmpNo H hx rfl (hb hby at_246) rfl (teq (if_neg (fun q => (fun q => by rw [if_pos q] at z9b; cases z9b) q.2.2))).2 ?_
                      refine XS.aload H hx rfl (hb hby at_249) rfl rfl ?_
                      refine XS.aload H hx rfl (hb hby at_251) rfl rfl ?_
                      exact kt
                    refine Jvm.Q9.Aim.callV (argsL := [(.ref z17)]) (rest := []) (y := (⟨"com/example/tophat_ledger/tophatledger/HoldingGroup", "equals", "(Ljava/lang/Object;)Z"⟩ : MethodName)) (z := (⟨"com/example/tophat_ledger/tophatledger/HoldingGroup", "equals", "(Ljava/lang/Object;)Z"⟩ : MethodName)) z9m hx hZ hml hown (wI hw 91 rfl) (wI hw 92 rfl) (fun vm0 hZ => notFace_of_selects (args := #[]) (mvT (s := s.setVm vm0) hZ (wI hw 94 rfl))) (wI hw 94 rfl) (wI hw 93 rfl) (by decide) z87 (fun vm0 hZ => Jvm.Y9.Con.back (s := s.setVm vm0) (W := 0) (own_eqH l Z a0 hw z5k z13 z5z t_935 kb_936 (txt p2) z6v t_969 kb_970 (txt ((p6.toUInt32 >>> ((3 : Int32) &&& 31).toUInt32).toInt32)) z17 p3 z1m t_764 kb_765 (txt p1) z2i t_798 kb_799 (txt p5) z82 n0 (lT Z0 (z8d.1)) z87 z88 z89 z8a z8b z8c z9c z9d z9e z9f z9g z9h z9i G) hZ (wI hw 95 rfl) (wI hw 7 rfl) (by decide) (by decide)) (fun _ _ ⟨_, q⟩ => (by subst q; exact Keep.refl _ [])) all0 rfl pd__28Ljava_2flang_2fObject_3b_29Z rfl (Nat.le_of_eq rfl) (hb hby at_253) (by decide) (by decide) ?_
                    intro z9o z9p z9q z9r z9s
                    obtain ⟨rfl, rfl⟩ := z9s
                    have H := z9r.here
                    refine Jvm.Q9.Aim.of (T' := z9o) (g' := (mkF m 266 #[.val (.int p1), .val (.int p2), .val (.int p3), .val (.int p4), .val (.int p5), .val (.int p6), .val (.ref c_676), .val (.ref c_690), .val (.ref c_703), .val (.ref c_717), .val (.int z13), .val (.ref z17), .val (.int (((p6.toUInt32 >>> ((21 : Int32) &&& 31).toUInt32).toInt32) &&& (7 : Int32))), .val (.ref z5k), .val (.int 0)] [(.int 1)])) (fun tgt kt => ?_) ?_
                    · refine XS.iload H hx rfl (hb hby at_256) rfl ?_
                      refine XS.icmpNo H hx rfl (hb hby at_258) rfl (teq (if_neg (fun q => (fun q => by rw [if_pos (Eq.symm q)] at z9b; cases z9b) q.2.2))).2 ?_
                      refine XS.iconst H hx rfl (hb hby at_261) ?_
                      refine XS.goto H hx rfl (pc0 := 262) (pc' := 266) rfl (hb hby at_262) (by decide) (by decide) ?_
                      exact kt
                    exact Jvm.Q9.Aim.retN (t := .boolean) z9r hx hlk hret (by simp) (hb hby at_266) (by decide) (by decide) z7o ⟨rfl, z8d⟩
                  · skip
                    have H := z99.here
                    refine Jvm.Q9.Aim.of (T' := z96) (g' := (mkF m 241 #[.val (.int p1), .val (.int p2), .val (.int p3), .val (.int p4), .val (.int p5), .val (.int p6), .val (.ref c_676), .val (.ref c_690), .val (.ref c_703), .val (.ref c_717), .val (.int z13), .val (.ref z17), .val (.int (((p6.toUInt32 >>> ((21 : Int32) &&& 31).toUInt32).toInt32) &&& (7 : Int32))), .val (.ref z5k), .val (.int 1)] [(.ref z5k), (.ref z17)])) (fun tgt kt => ?_) ?_
                    · refine XS.ifNo H hx rfl (hb hby at_227) rfl ((if0 _ _).trans (feq z9b).1) ?_
                      refine XS.iconst H hx rfl (hb hby at_230) ?_
                      refine XS.goto H hx rfl (pc0 := 231) (pc' := 235) rfl (hb hby at_231) (by decide) (by decide) ?_
                      refine XS.istore H hx rfl (hb hby at_235) rfl (l' := #[.val (.int p1), .val (.int p2), .val (.int p3), .val (.int p4), .val (.int p5), .val (.int p6), .val (.ref c_676), .val (.ref c_690), .val (.ref c_703), .val (.ref c_717), .val (.int z13), .val (.ref z17), .val (.int (((p6.toUInt32 >>> ((21 : Int32) &&& 31).toUInt32).toInt32) &&& (7 : Int32))), .val (.ref z5k), .val (.int 1)]) rfl ?_
                      refine XS.aload H hx rfl (hb hby at_237) rfl rfl ?_
                      refine XS.aload H hx rfl (hb hby at_239) rfl rfl ?_
                      exact kt
                    have z9t : Exa Z z82 z17 "com/example/tophat_ledger/tophatledger/HoldingGroup" := ((((((z3u.keep z5r).keep z66).keep z6l).keep z72).keep z7h).keep z86)
                    have z9u : Fld Z z82 z17 "com/example/tophat_ledger/tophatledger/HoldingGroup" "participant" "Ljava/lang/String;" (.ref z1m) := ((((((z3v.keep z5r nin0).keep z66 nin0).keep z6l (ninS (nL (lL (lL z1b.lt (lT (lT (lT (lT (lT z1t.1 z28.1) z2p.1) z34.1) z3t.1) z5r.1)) (Nat.le_of_eq z60.symm))) nin0)).keep z72 nin0).keep z7h (ninS (nL (lL (lL z1b.lt (lT (lT (lT (lT (lT (lT (lT z1t.1 z28.1) z2p.1) z34.1) z3t.1) z5r.1) z66.1) z6l.1)) (Nat.le_of_eq z6w.symm))) nin0)).keep z86 (ninS (nL (lL (lL z1b.lt (lT (lT (lT (lT z1t.1 z28.1) z2p.1) z34.1) z3t.1)) (Nat.le_of_eq z5l.symm))) (ninS (nL (lL (lL z1b.lt (lT (lT (lT (lT (lT z1t.1 z28.1) z2p.1) z34.1) z3t.1) z5r.1)) (Nat.le_of_eq z60.symm))) (ninS (nL (lL (lL z1b.lt (lT (lT (lT (lT (lT (lT (lT z1t.1 z28.1) z2p.1) z34.1) z3t.1) z5r.1) z66.1) z6l.1)) (Nat.le_of_eq z6w.symm))) nin0))))
                    have z9v : Fld Z z82 z17 "com/example/tophat_ledger/tophatledger/HoldingGroup" "year" "I" (.int p3) := ((((((z3w.keep z5r nin0).keep z66 nin0).keep z6l (ninS (nL (lL (lL z1b.lt (lT (lT (lT (lT (lT z1t.1 z28.1) z2p.1) z34.1) z3t.1) z5r.1)) (Nat.le_of_eq z60.symm))) nin0)).keep z72 nin0).keep z7h (ninS (nL (lL (lL z1b.lt (lT (lT (lT (lT (lT (lT (lT z1t.1 z28.1) z2p.1) z34.1) z3t.1) z5r.1) z66.1) z6l.1)) (Nat.le_of_eq z6w.symm))) nin0)).keep z86 (ninS (nL (lL (lL z1b.lt (lT (lT (lT (lT z1t.1 z28.1) z2p.1) z34.1) z3t.1)) (Nat.le_of_eq z5l.symm))) (ninS (nL (lL (lL z1b.lt (lT (lT (lT (lT (lT z1t.1 z28.1) z2p.1) z34.1) z3t.1) z5r.1)) (Nat.le_of_eq z60.symm))) (ninS (nL (lL (lL z1b.lt (lT (lT (lT (lT (lT (lT (lT z1t.1 z28.1) z2p.1) z34.1) z3t.1) z5r.1) z66.1) z6l.1)) (Nat.le_of_eq z6w.symm))) nin0))))
                    have z9w : Fld Z z82 z17 "com/example/tophat_ledger/tophatledger/HoldingGroup" "source" "Ljava/lang/String;" (.ref z2i) := ((((((z3x.keep z5r nin0).keep z66 nin0).keep z6l (ninS (nL (lL (lL z1b.lt (lT (lT (lT (lT (lT z1t.1 z28.1) z2p.1) z34.1) z3t.1) z5r.1)) (Nat.le_of_eq z60.symm))) nin0)).keep z72 nin0).keep z7h (ninS (nL (lL (lL z1b.lt (lT (lT (lT (lT (lT (lT (lT z1t.1 z28.1) z2p.1) z34.1) z3t.1) z5r.1) z66.1) z6l.1)) (Nat.le_of_eq z6w.symm))) nin0)).keep z86 (ninS (nL (lL (lL z1b.lt (lT (lT (lT (lT z1t.1 z28.1) z2p.1) z34.1) z3t.1)) (Nat.le_of_eq z5l.symm))) (ninS (nL (lL (lL z1b.lt (lT (lT (lT (lT (lT z1t.1 z28.1) z2p.1) z34.1) z3t.1) z5r.1)) (Nat.le_of_eq z60.symm))) (ninS (nL (lL (lL z1b.lt (lT (lT (lT (lT (lT (lT (lT z1t.1 z28.1) z2p.1) z34.1) z3t.1) z5r.1) z66.1) z6l.1)) (Nat.le_of_eq z6w.symm))) nin0))))
                    have z9x : Str Z z82 z1m t_764 kb_765 (txt p1) := ((((((z3y.keep z5r nin0 nin0).keep z66 nin0 nin0).keep z6l (ninS (nL (lL (lL z1q.lt (lT (lT (lT (lT z28.1 z2p.1) z34.1) z3t.1) z5r.1)) (Nat.le_of_eq z60.symm))) nin0) (ninS (nL (lL (lL z2a.ltb (lT (lT (lT z2p.1 z34.1) z3t.1) z5r.1)) (Nat.le_of_eq z60.symm))) nin0)).keep z72 nin0 nin0).keep z7h (ninS (nL (lL (lL z1q.lt (lT (lT (lT (lT (lT (lT z28.1 z2p.1) z34.1) z3t.1) z5r.1) z66.1) z6l.1)) (Nat.le_of_eq z6w.symm))) nin0) (ninS (nL (lL (lL z2a.ltb (lT (lT (lT (lT (lT z2p.1 z34.1) z3t.1) z5r.1) z66.1) z6l.1)) (Nat.le_of_eq z6w.symm))) nin0)).keep z86 (ninS (nL (lL (lL z1q.lt (lT (lT (lT z28.1 z2p.1) z34.1) z3t.1)) (Nat.le_of_eq z5l.symm))) (ninS (nL (lL (lL z1q.lt (lT (lT (lT (lT z28.1 z2p.1) z34.1) z3t.1) z5r.1)) (Nat.le_of_eq z60.symm))) (ninS (nL (lL (lL z1q.lt (lT (lT (lT (lT (lT (lT z28.1 z2p.1) z34.1) z3t.1) z5r.1) z66.1) z6l.1)) (Nat.le_of_eq z6w.symm))) nin0))) (ninS (nL (lL (lL z2a.ltb (lT (lT z2p.1 z34.1) z3t.1)) (Nat.le_of_eq z5l.symm))) (ninS (nL (lL (lL z2a.ltb (lT (lT (lT z2p.1 z34.1) z3t.1) z5r.1)) (Nat.le_of_eq z60.symm))) (ninS (nL (lL (lL z2a.ltb (lT (lT (lT (lT (lT z2p.1 z34.1) z3t.1) z5r.1) z66.1) z6l.1)) (Nat.le_of_eq z6w.symm))) nin0))))
                    have z9y : Str Z z82 z2i t_798 kb_799 (txt p5) := ((((((z3z.keep z5r nin0 nin0).keep z66 nin0 nin0).keep z6l (ninS (nL (lL (lL z2m.lt (lT (lT z34.1 z3t.1) z5r.1)) (Nat.le_of_eq z60.symm))) nin0) (ninS (nL (lL (lL z36.ltb (lT z3t.1 z5r.1)) (Nat.le_of_eq z60.symm))) nin0)).keep z72 nin0 nin0).keep z7h (ninS (nL (lL (lL z2m.lt (lT (lT (lT (lT z34.1 z3t.1) z5r.1) z66.1) z6l.1)) (Nat.le_of_eq z6w.symm))) nin0) (ninS (nL (lL (lL z36.ltb (lT (lT (lT z3t.1 z5r.1) z66.1) z6l.1)) (Nat.le_of_eq z6w.symm))) nin0)).keep z86 (ninS (nL (lL (lL z2m.lt (lT z34.1 z3t.1)) (Nat.le_of_eq z5l.symm))) (ninS (nL (lL (lL z2m.lt (lT (lT z34.1 z3t.1) z5r.1)) (Nat.le_of_eq z60.symm))) (ninS (nL (lL (lL z2m.lt (lT (lT (lT (lT z34.1 z3t.1) z5r.1) z66.1) z6l.1)) (Nat.le_of_eq z6w.symm))) nin0))) (ninS (nL (lL (lL z36.ltb (z3t.1)) (Nat.le_of_eq z5l.symm))) (ninS (nL (lL (lL z36.ltb (lT z3t.1 z5r.1)) (Nat.le_of_eq z60.symm))) (ninS (nL (lL (lL z36.ltb (lT (lT (lT z3t.1 z5r.1) z66.1) z6l.1)) (Nat.le_of_eq z6w.symm))) nin0))))
                    have z9z : Old Z n0 z82 := (z7y.keep z86 (allS (lT (lT Z0 (z40.1)) (Nat.le_of_eq z5l.symm)) (allS (lT (lT Z0 (z5s.1)) (Nat.le_of_eq z60.symm)) (allS (lT (lT Z0 (z6r.1)) (Nat.le_of_eq z6w.symm)) all0))))
                    refine Jvm.Q9.Aim.callV (argsL := [(.ref z5k)]) (rest := []) (y := (⟨"com/example/tophat_ledger/tophatledger/HoldingGroup", "equals", "(Ljava/lang/Object;)Z"⟩ : MethodName)) (z := (⟨"com/example/tophat_ledger/tophatledger/HoldingGroup", "equals", "(Ljava/lang/Object;)Z"⟩ : MethodName)) z99 hx hZ hml hown (wI hw 91 rfl) (wI hw 92 rfl) (fun vm0 hZ => notFace_of_selects (args := #[]) (mvT (s := s.setVm vm0) hZ (wI hw 94 rfl))) (wI hw 94 rfl) (wI hw 93 rfl) (by decide) z9t (fun vm0 hZ => Jvm.Y9.Con.back (s := s.setVm vm0) (W := 0) (own_eqH l Z a0 hw z17 p3 z1m t_764 kb_765 (txt p1) z2i t_798 kb_799 (txt p5) z5k z13 z5z t_935 kb_936 (txt p2) z6v t_969 kb_970 (txt ((p6.toUInt32 >>> ((3 : Int32) &&& 31).toUInt32).toInt32)) z82 n0 (lT Z0 (z8d.1)) z9t z9u z9v z9w z9x z9y z87 z88 z89 z8a z8b z8c z9z G) hZ (wI hw 95 rfl) (wI hw 7 rfl) (by decide) (by decide)) (fun _ _ ⟨_, q⟩ => (by subst q; exact Keep.refl _ [])) all0 rfl pd__28Ljava_2flang_2fObject_3b_29Z rfl (Nat.le_of_eq rfl) (hb hby at_241) (by decide) (by decide) ?_
                    intro za0 za1 za2 za3 za4
                    obtain ⟨rfl, rfl⟩ := za4
                    have H := za3.here
                    refine Jvm.Q9.Aim.of (T' := za0) (g' := (mkF m 253 #[.val (.int p1), .val (.int p2), .val (.int p3), .val (.int p4), .val (.int p5), .val (.int p6), .val (.ref c_676), .val (.ref c_690), .val (.ref c_703), .val (.ref c_717), .val (.int z13), .val (.ref z17), .val (.int (((p6.toUInt32 >>> ((21 : Int32) &&& 31).toUInt32).toInt32) &&& (7 : Int32))), .val (.ref z5k), .val (.int 1)] [(.ref z17), (.ref z5k)])) (fun tgt kt => ?_) ?_
                    · refine XS.iload H hx rfl (hb hby at_244) rfl ?_
                      refine XS.icmpNo H hx rfl (hb hby at_246) rfl (teq (if_pos ⟨(Eq.symm z8e), (by_contra_if z8m), (by_contra_if z9b)⟩)).2 ?_
                      refine XS.aload H hx rfl (hb hby at_249) rfl rfl ?_
                      refine XS.aload H hx rfl (hb hby at_251) rfl rfl ?_
                      exact kt
                    refine Jvm.Q9.Aim.callV (argsL := [(.ref z17)]) (rest := []) (y := (⟨"com/example/tophat_ledger/tophatledger/HoldingGroup", "equals", "(Ljava/lang/Object;)Z"⟩ : MethodName)) (z := (⟨"com/example/tophat_ledger/tophatledger/HoldingGroup", "equals", "(Ljava/lang/Object;)Z"⟩ : MethodName)) za3 hx hZ hml hown (wI hw 91 rfl) (wI hw 92 rfl) (fun vm0 hZ => notFace_of_selects (args := #[]) (mvT (s := s.setVm vm0) hZ (wI hw 94 rfl))) (wI hw 94 rfl) (wI hw 93 rfl) (by decide) z87 (fun vm0 hZ => Jvm.Y9.Con.back (s := s.setVm vm0) (W := 0) (own_eqH l Z a0 hw z5k z13 z5z t_935 kb_936 (txt p2) z6v t_969 kb_970 (txt ((p6.toUInt32 >>> ((3 : Int32) &&& 31).toUInt32).toInt32)) z17 p3 z1m t_764 kb_765 (txt p1) z2i t_798 kb_799 (txt p5) z82 n0 (lT Z0 (z8d.1)) z87 z88 z89 z8a z8b z8c z9t z9u z9v z9w z9x z9y z9z G) hZ (wI hw 95 rfl) (wI hw 7 rfl) (by decide) (by decide)) (fun _ _ ⟨_, q⟩ => (by subst q; exact Keep.refl _ [])) all0 rfl pd__28Ljava_2flang_2fObject_3b_29Z rfl (Nat.le_of_eq rfl) (hb hby at_253) (by decide) (by decide) ?_
                    intro za5 za6 za7 za8 za9
                    obtain ⟨rfl, rfl⟩ := za9
                    have H := za8.here
                    refine Jvm.Q9.Aim.of (T' := za5) (g' := (mkF m 266 #[.val (.int p1), .val (.int p2), .val (.int p3), .val (.int p4), .val (.int p5), .val (.int p6), .val (.ref c_676), .val (.ref c_690), .val (.ref c_703), .val (.ref c_717), .val (.int z13), .val (.ref z17), .val (.int (((p6.toUInt32 >>> ((21 : Int32) &&& 31).toUInt32).toInt32) &&& (7 : Int32))), .val (.ref z5k), .val (.int 1)] [(.int 1)])) (fun tgt kt => ?_) ?_
                    · refine XS.iload H hx rfl (hb hby at_256) rfl ?_
                      refine XS.icmpNo H hx rfl (hb hby at_258) rfl (teq (if_pos ⟨z8e, (Eq.symm (by_contra_if z8m)), (Eq.symm (by_contra_if z9b))⟩)).2 ?_
                      refine XS.iconst H hx rfl (hb hby at_261) ?_
                      refine XS.goto H hx rfl (pc0 := 262) (pc' := 266) rfl (hb hby at_262) (by decide) (by decide) ?_
                      exact kt
                    exact Jvm.Q9.Aim.retN (t := .boolean) za8 hx hlk hret (by simp) (hb hby at_266) (by decide) (by decide) z7o ⟨rfl, z8d⟩
              · skip
                have H := z84.here
                refine Jvm.Q9.Aim.of (T' := z81) (g' := (mkF m 241 #[.val (.int p1), .val (.int p2), .val (.int p3), .val (.int p4), .val (.int p5), .val (.int p6), .val (.ref c_676), .val (.ref c_690), .val (.ref c_703), .val (.ref c_717), .val (.int z13), .val (.ref z17), .val (.int (((p6.toUInt32 >>> ((21 : Int32) &&& 31).toUInt32).toInt32) &&& (7 : Int32))), .val (.ref z5k), .val (.int 0)] [(.ref z5k), (.ref z17)])) (fun tgt kt => ?_) ?_
                · refine XS.icmpYes H hx rfl (pc0 := 207) (pc' := 234) rfl (hb hby at_207) rfl (feq z8e).2 (by decide) (by decide) ?_
                  refine XS.iconst H hx rfl (hb hby at_234) ?_
                  refine XS.istore H hx rfl (hb hby at_235) rfl (l' := #[.val (.int p1), .val (.int p2), .val (.int p3), .val (.int p4), .val (.int p5), .val (.int p6), .val (.ref c_676), .val (.ref c_690), .val (.ref c_703), .val (.ref c_717), .val (.int z13), .val (.ref z17), .val (.int (((p6.toUInt32 >>> ((21 : Int32) &&& 31).toUInt32).toInt32) &&& (7 : Int32))), .val (.ref z5k), .val (.int 0)]) rfl ?_
                  refine XS.aload H hx rfl (hb hby at_237) rfl rfl ?_
                  refine XS.aload H hx rfl (hb hby at_239) rfl rfl ?_
                  exact kt
                have zaa : Exa Z z82 z17 "com/example/tophat_ledger/tophatledger/HoldingGroup" := ((((((z3u.keep z5r).keep z66).keep z6l).keep z72).keep z7h).keep z86)
                have zab : Fld Z z82 z17 "com/example/tophat_ledger/tophatledger/HoldingGroup" "participant" "Ljava/lang/String;" (.ref z1m) := ((((((z3v.keep z5r nin0).keep z66 nin0).keep z6l (ninS (nL (lL (lL z1b.lt (lT (lT (lT (lT (lT z1t.1 z28.1) z2p.1) z34.1) z3t.1) z5r.1)) (Nat.le_of_eq z60.symm))) nin0)).keep z72 nin0).keep z7h (ninS (nL (lL (lL z1b.lt (lT (lT (lT (lT (lT (lT (lT z1t.1 z28.1) z2p.1) z34.1) z3t.1) z5r.1) z66.1) z6l.1)) (Nat.le_of_eq z6w.symm))) nin0)).keep z86 (ninS (nL (lL (lL z1b.lt (lT (lT (lT (lT z1t.1 z28.1) z2p.1) z34.1) z3t.1)) (Nat.le_of_eq z5l.symm))) (ninS (nL (lL (lL z1b.lt (lT (lT (lT (lT (lT z1t.1 z28.1) z2p.1) z34.1) z3t.1) z5r.1)) (Nat.le_of_eq z60.symm))) (ninS (nL (lL (lL z1b.lt (lT (lT (lT (lT (lT (lT (lT z1t.1 z28.1) z2p.1) z34.1) z3t.1) z5r.1) z66.1) z6l.1)) (Nat.le_of_eq z6w.symm))) nin0))))
                have zac : Fld Z z82 z17 "com/example/tophat_ledger/tophatledger/HoldingGroup" "year" "I" (.int p3) := ((((((z3w.keep z5r nin0).keep z66 nin0).keep z6l (ninS (nL (lL (lL z1b.lt (lT (lT (lT (lT (lT z1t.1 z28.1) z2p.1) z34.1) z3t.1) z5r.1)) (Nat.le_of_eq z60.symm))) nin0)).keep z72 nin0).keep z7h (ninS (nL (lL (lL z1b.lt (lT (lT (lT (lT (lT (lT (lT z1t.1 z28.1) z2p.1) z34.1) z3t.1) z5r.1) z66.1) z6l.1)) (Nat.le_of_eq z6w.symm))) nin0)).keep z86 (ninS (nL (lL (lL z1b.lt (lT (lT (lT (lT z1t.1 z28.1) z2p.1) z34.1) z3t.1)) (Nat.le_of_eq z5l.symm))) (ninS (nL (lL (lL z1b.lt (lT (lT (lT (lT (lT z1t.1 z28.1) z2p.1) z34.1) z3t.1) z5r.1)) (Nat.le_of_eq z60.symm))) (ninS (nL (lL (lL z1b.lt (lT (lT (lT (lT (lT (lT (lT z1t.1 z28.1) z2p.1) z34.1) z3t.1) z5r.1) z66.1) z6l.1)) (Nat.le_of_eq z6w.symm))) nin0))))
                have zad : Fld Z z82 z17 "com/example/tophat_ledger/tophatledger/HoldingGroup" "source" "Ljava/lang/String;" (.ref z2i) := ((((((z3x.keep z5r nin0).keep z66 nin0).keep z6l (ninS (nL (lL (lL z1b.lt (lT (lT (lT (lT (lT z1t.1 z28.1) z2p.1) z34.1) z3t.1) z5r.1)) (Nat.le_of_eq z60.symm))) nin0)).keep z72 nin0).keep z7h (ninS (nL (lL (lL z1b.lt (lT (lT (lT (lT (lT (lT (lT z1t.1 z28.1) z2p.1) z34.1) z3t.1) z5r.1) z66.1) z6l.1)) (Nat.le_of_eq z6w.symm))) nin0)).keep z86 (ninS (nL (lL (lL z1b.lt (lT (lT (lT (lT z1t.1 z28.1) z2p.1) z34.1) z3t.1)) (Nat.le_of_eq z5l.symm))) (ninS (nL (lL (lL z1b.lt (lT (lT (lT (lT (lT z1t.1 z28.1) z2p.1) z34.1) z3t.1) z5r.1)) (Nat.le_of_eq z60.symm))) (ninS (nL (lL (lL z1b.lt (lT (lT (lT (lT (lT (lT (lT z1t.1 z28.1) z2p.1) z34.1) z3t.1) z5r.1) z66.1) z6l.1)) (Nat.le_of_eq z6w.symm))) nin0))))
                have zae : Str Z z82 z1m t_764 kb_765 (txt p1) := ((((((z3y.keep z5r nin0 nin0).keep z66 nin0 nin0).keep z6l (ninS (nL (lL (lL z1q.lt (lT (lT (lT (lT z28.1 z2p.1) z34.1) z3t.1) z5r.1)) (Nat.le_of_eq z60.symm))) nin0) (ninS (nL (lL (lL z2a.ltb (lT (lT (lT z2p.1 z34.1) z3t.1) z5r.1)) (Nat.le_of_eq z60.symm))) nin0)).keep z72 nin0 nin0).keep z7h (ninS (nL (lL (lL z1q.lt (lT (lT (lT (lT (lT (lT z28.1 z2p.1) z34.1) z3t.1) z5r.1) z66.1) z6l.1)) (Nat.le_of_eq z6w.symm))) nin0) (ninS (nL (lL (lL z2a.ltb (lT (lT (lT (lT (lT z2p.1 z34.1) z3t.1) z5r.1) z66.1) z6l.1)) (Nat.le_of_eq z6w.symm))) nin0)).keep z86 (ninS (nL (lL (lL z1q.lt (lT (lT (lT z28.1 z2p.1) z34.1) z3t.1)) (Nat.le_of_eq z5l.symm))) (ninS (nL (lL (lL z1q.lt (lT (lT (lT (lT z28.1 z2p.1) z34.1) z3t.1) z5r.1)) (Nat.le_of_eq z60.symm))) (ninS (nL (lL (lL z1q.lt (lT (lT (lT (lT (lT (lT z28.1 z2p.1) z34.1) z3t.1) z5r.1) z66.1) z6l.1)) (Nat.le_of_eq z6w.symm))) nin0))) (ninS (nL (lL (lL z2a.ltb (lT (lT z2p.1 z34.1) z3t.1)) (Nat.le_of_eq z5l.symm))) (ninS (nL (lL (lL z2a.ltb (lT (lT (lT z2p.1 z34.1) z3t.1) z5r.1)) (Nat.le_of_eq z60.symm))) (ninS (nL (lL (lL z2a.ltb (lT (lT (lT (lT (lT z2p.1 z34.1) z3t.1) z5r.1) z66.1) z6l.1)) (Nat.le_of_eq z6w.symm))) nin0))))
                have zaf : Str Z z82 z2i t_798 kb_799 (txt p5) := ((((((z3z.keep z5r nin0 nin0).keep z66 nin0 nin0).keep z6l (ninS (nL (lL (lL z2m.lt (lT (lT z34.1 z3t.1) z5r.1)) (Nat.le_of_eq z60.symm))) nin0) (ninS (nL (lL (lL z36.ltb (lT z3t.1 z5r.1)) (Nat.le_of_eq z60.symm))) nin0)).keep z72 nin0 nin0).keep z7h (ninS (nL (lL (lL z2m.lt (lT (lT (lT (lT z34.1 z3t.1) z5r.1) z66.1) z6l.1)) (Nat.le_of_eq z6w.symm))) nin0) (ninS (nL (lL (lL z36.ltb (lT (lT (lT z3t.1 z5r.1) z66.1) z6l.1)) (Nat.le_of_eq z6w.symm))) nin0)).keep z86 (ninS (nL (lL (lL z2m.lt (lT z34.1 z3t.1)) (Nat.le_of_eq z5l.symm))) (ninS (nL (lL (lL z2m.lt (lT (lT z34.1 z3t.1) z5r.1)) (Nat.le_of_eq z60.symm))) (ninS (nL (lL (lL z2m.lt (lT (lT (lT (lT z34.1 z3t.1) z5r.1) z66.1) z6l.1)) (Nat.le_of_eq z6w.symm))) nin0))) (ninS (nL (lL (lL z36.ltb (z3t.1)) (Nat.le_of_eq z5l.symm))) (ninS (nL (lL (lL z36.ltb (lT z3t.1 z5r.1)) (Nat.le_of_eq z60.symm))) (ninS (nL (lL (lL z36.ltb (lT (lT (lT z3t.1 z5r.1) z66.1) z6l.1)) (Nat.le_of_eq z6w.symm))) nin0))))
                have zag : Old Z n0 z82 := (z7y.keep z86 (allS (lT (lT Z0 (z40.1)) (Nat.le_of_eq z5l.symm)) (allS (lT (lT Z0 (z5s.1)) (Nat.le_of_eq z60.symm)) (allS (lT (lT Z0 (z6r.1)) (Nat.le_of_eq z6w.symm)) all0))))
                refine Jvm.Q9.Aim.callV (argsL := [(.ref z5k)]) (rest := []) (y := (⟨"com/example/tophat_ledger/tophatledger/HoldingGroup", "equals", "(Ljava/lang/Object;)Z"⟩ : MethodName)) (z := (⟨"com/example/tophat_ledger/tophatledger/HoldingGroup", "equals", "(Ljava/lang/Object;)Z"⟩ : MethodName)) z84 hx hZ hml hown (wI hw 91 rfl) (wI hw 92 rfl) (fun vm0 hZ => notFace_of_selects (args := #[]) (mvT (s := s.setVm vm0) hZ (wI hw 94 rfl))) (wI hw 94 rfl) (wI hw 93 rfl) (by decide) zaa (fun vm0 hZ => Jvm.Y9.Con.back (s := s.setVm vm0) (W := 0) (own_eqH l Z a0 hw z17 p3 z1m t_764 kb_765 (txt p1) z2i t_798 kb_799 (txt p5) z5k z13 z5z t_935 kb_936 (txt p2) z6v t_969 kb_970 (txt ((p6.toUInt32 >>> ((3 : Int32) &&& 31).toUInt32).toInt32)) z82 n0 (lT Z0 (z8d.1)) zaa zab zac zad zae zaf z87 z88 z89 z8a z8b z8c zag G) hZ (wI hw 95 rfl) (wI hw 7 rfl) (by decide) (by decide)) (fun _ _ ⟨_, q⟩ => (by subst q; exact Keep.refl _ [])) all0 rfl pd__28Ljava_2flang_2fObject_3b_29Z rfl (Nat.le_of_eq rfl) (hb hby at_241) (by decide) (by decide) ?_
                intro zah zai zaj zak zal
                obtain ⟨rfl, rfl⟩ := zal
                have H := zak.here
                refine Jvm.Q9.Aim.of (T' := zah) (g' := (mkF m 253 #[.val (.int p1), .val (.int p2), .val (.int p3), .val (.int p4), .val (.int p5), .val (.int p6), .val (.ref c_676), .val (.ref c_690), .val (.ref c_703), .val (.ref c_717), .val (.int z13), .val (.ref z17), .val (.int (((p6.toUInt32 >>> ((21 : Int32) &&& 31).toUInt32).toInt32) &&& (7 : Int32))), .val (.ref z5k), .val (.int 0)] [(.ref z17), (.ref z5k)])) (fun tgt kt => ?_) ?_
                · refine XS.iload H hx rfl (hb hby at_244) rfl ?_
                  refine XS.icmpNo H hx rfl (hb hby at_246) rfl (teq (if_neg (fun q => (fun q => z8e (Eq.symm q)) q.1))).2 ?_
                  refine XS.aload H hx rfl (hb hby at_249) rfl rfl ?_
                  refine XS.aload H hx rfl (hb hby at_251) rfl rfl ?_
                  exact kt
                refine Jvm.Q9.Aim.callV (argsL := [(.ref z17)]) (rest := []) (y := (⟨"com/example/tophat_ledger/tophatledger/HoldingGroup", "equals", "(Ljava/lang/Object;)Z"⟩ : MethodName)) (z := (⟨"com/example/tophat_ledger/tophatledger/HoldingGroup", "equals", "(Ljava/lang/Object;)Z"⟩ : MethodName)) zak hx hZ hml hown (wI hw 91 rfl) (wI hw 92 rfl) (fun vm0 hZ => notFace_of_selects (args := #[]) (mvT (s := s.setVm vm0) hZ (wI hw 94 rfl))) (wI hw 94 rfl) (wI hw 93 rfl) (by decide) z87 (fun vm0 hZ => Jvm.Y9.Con.back (s := s.setVm vm0) (W := 0) (own_eqH l Z a0 hw z5k z13 z5z t_935 kb_936 (txt p2) z6v t_969 kb_970 (txt ((p6.toUInt32 >>> ((3 : Int32) &&& 31).toUInt32).toInt32)) z17 p3 z1m t_764 kb_765 (txt p1) z2i t_798 kb_799 (txt p5) z82 n0 (lT Z0 (z8d.1)) z87 z88 z89 z8a z8b z8c zaa zab zac zad zae zaf zag G) hZ (wI hw 95 rfl) (wI hw 7 rfl) (by decide) (by decide)) (fun _ _ ⟨_, q⟩ => (by subst q; exact Keep.refl _ [])) all0 rfl pd__28Ljava_2flang_2fObject_3b_29Z rfl (Nat.le_of_eq rfl) (hb hby at_253) (by decide) (by decide) ?_
                intro zam zan zao zap zaq
                obtain ⟨rfl, rfl⟩ := zaq
                have H := zap.here
                refine Jvm.Q9.Aim.of (T' := zam) (g' := (mkF m 266 #[.val (.int p1), .val (.int p2), .val (.int p3), .val (.int p4), .val (.int p5), .val (.int p6), .val (.ref c_676), .val (.ref c_690), .val (.ref c_703), .val (.ref c_717), .val (.int z13), .val (.ref z17), .val (.int (((p6.toUInt32 >>> ((21 : Int32) &&& 31).toUInt32).toInt32) &&& (7 : Int32))), .val (.ref z5k), .val (.int 0)] [(.int 1)])) (fun tgt kt => ?_) ?_
                · refine XS.iload H hx rfl (hb hby at_256) rfl ?_
                  refine XS.icmpNo H hx rfl (hb hby at_258) rfl (teq (if_neg (fun q => z8e q.1))).2 ?_
                  refine XS.iconst H hx rfl (hb hby at_261) ?_
                  refine XS.goto H hx rfl (pc0 := 262) (pc' := 266) rfl (hb hby at_262) (by decide) (by decide) ?_
                  exact kt
                exact Jvm.Q9.Aim.retN (t := .boolean) zap hx hlk hret (by simp) (hb hby at_266) (by decide) (by decide) z7o ⟨rfl, z8d⟩
      by_cases zar : (p6 &&& (2 : Int32)) = (0 : Int32)
      · skip
        have H := zw.here
        refine Jvm.Q9.Aim.of (T' := zt) (g' := (mkF m 69 #[.val (.int p1), .val (.int p2), .val (.int p3), .val (.int p4), .val (.int p5), .val (.int p6), .val (.ref c_676), .val (.ref c_690), .val (.ref c_703), .val (.ref c_717), .unset, .unset, .unset, .unset, .unset] [(.int p4)])) (fun tgt kt => ?_) ?_
        · refine XS.ifYes H hx rfl (pc0 := 61) (pc' := 68) rfl (hb hby at_61) rfl ((if0 _ _).trans (teq zar).1) (by decide) (by decide) ?_
          refine XS.iloadN H hx rfl (hb hby at_68) rfl ?_
          exact kt
        exact z12 _ (if_pos zar).symm
      · skip
        have H := zw.here
        refine Jvm.Q9.Aim.of (T' := zt) (g' := (mkF m 69 #[.val (.int p1), .val (.int p2), .val (.int p3), .val (.int p4), .val (.int p5), .val (.int p6), .val (.ref c_676), .val (.ref c_690), .val (.ref c_703), .val (.ref c_717), .unset, .unset, .unset, .unset, .unset] [(.int p3)])) (fun tgt kt => ?_) ?_
        · refine XS.ifNo H hx rfl (hb hby at_61) rfl ((if0 _ _).trans (feq zar).1) ?_
          refine XS.iloadN H hx rfl (hb hby at_64) rfl ?_
          refine XS.goto H hx rfl (pc0 := 65) (pc' := 69) rfl (hb hby at_65) (by decide) (by decide) ?_
          exact kt
        exact z12 _ (if_neg zar).symm
    · skip
      have H := zm.here
      refine Jvm.Q9.Aim.of (T' := zj) (g' := (mkF m 42 #[.val (.int p1), .val (.int p2), .val (.int p3), .val (.int p4), .val (.int p5), .val (.int p6), .val (.ref c_676), .val (.ref c_690), .val (.ref c_703), .unset, .unset, .unset, .unset, .unset, .unset] [(.int p5)])) (fun tgt kt => ?_) ?_
      · refine XS.ifNo H hx rfl (hb hby at_37) rfl ((if0 _ _).trans (feq zs).1) ?_
        refine XS.iload H hx rfl (hb hby at_40) rfl ?_
        exact kt
      refine Jvm.Q9.Aim.callS (argsL := [(.int p5)]) (rest := []) zm hx hZ hml hown (wI hw 0 rfl) (wI hw 1 rfl) (wI hw 2 rfl) (wI hw 3 rfl) (by decide) (fun vm0 hZ => Jvm.Y9.Con.back (s := s.setVm vm0) (W := 0) (own_text l Z a0 hw p5 zk n0 (lT Z0 (zr.1))) hZ (wI hw 3 rfl) (wI hw 2 rfl) (by decide) (by decide)) (fun _ _ ⟨_, _, _, q, _, _⟩ => q) all0 rfl pd__28I_29_5bC rfl (Nat.le_of_eq rfl) (hb hby at_42) (by decide) (by decide) ?_
      intro zas zat zau zav zaw
      obtain ⟨c_1119, kC_1120, rfl, zax, zay, zaz⟩ := zaw
      have zb0 : Keep h0 zat [] := zr.trans zax all0
      have H := zav.here
      refine Jvm.Q9.Aim.of (T' := zas) (g' := (mkF m 61 #[.val (.int p1), .val (.int p2), .val (.int p3), .val (.int p4), .val (.int p5), .val (.int p6), .val (.ref c_676), .val (.ref c_690), .val (.ref c_703), .val (.ref c_1119), .unset, .unset, .unset, .unset, .unset] [(.int (p6 &&& (2 : Int32)))])) (fun tgt kt => ?_) ?_
      · refine XS.goto H hx rfl (pc0 := 45) (pc' := 55) rfl (hb hby at_45) (by decide) (by decide) ?_
        refine XS.astore H hx rfl (hb hby at_55) rfl rfl (l' := #[.val (.int p1), .val (.int p2), .val (.int p3), .val (.int p4), .val (.int p5), .val (.int p6), .val (.ref c_676), .val (.ref c_690), .val (.ref c_703), .val (.ref c_1119), .unset, .unset, .unset, .unset, .unset]) rfl ?_
        refine XS.iload H hx rfl (hb hby at_57) rfl ?_
        refine XS.iconst H hx rfl (hb hby at_59) ?_
        refine XS.iand H hx rfl (hb hby at_60) rfl ?_
        exact kt
      have zb1 : ∀ zb2 : Int32, zb2 = (if (p6 &&& (2 : Int32)) = (0 : Int32) then p4 else p3) → Jvm.Q9.Aim p e below s (room_1 : Room).cells (room_1 : Room).slots n0 (Jvm.Q9.QW Z LC h0 Lc0 (fun v h Lc => v = some (.int 1) ∧ Keep h0 h [])) zas (mkF m 69 #[.val (.int p1), .val (.int p2), .val (.int p3), .val (.int p4), .val (.int p5), .val (.int p6), .val (.ref c_676), .val (.ref c_690), .val (.ref c_703), .val (.ref c_1119), .unset, .unset, .unset, .unset, .unset] [(.int zb2)]) := by
        intro zb2 zb3
        have H := zav.here
        refine Jvm.Q9.Aim.of (T' := zas) (g' := (mkF m 71 #[.val (.int p1), .val (.int p2), .val (.int p3), .val (.int p4), .val (.int p5), .val (.int p6), .val (.ref c_676), .val (.ref c_690), .val (.ref c_703), .val (.ref c_1119), .val (.int zb2), .unset, .unset, .unset, .unset] [])) (fun tgt kt => ?_) ?_
        · refine XS.istore H hx rfl (hb hby at_69) rfl (l' := #[.val (.int p1), .val (.int p2), .val (.int p3), .val (.int p4), .val (.int p5), .val (.int p6), .val (.ref c_676), .val (.ref c_690), .val (.ref c_703), .val (.ref c_1119), .val (.int zb2), .unset, .unset, .unset, .unset]) rfl ?_
          exact kt
        refine Jvm.Q9.Aim.newO zav hx hZ hown (wI hw 5 rfl) (wI hw 6 rfl) (wI hw 7 rfl) (hb hby at_71) (by decide) (by decide) ?_
        intro zb4 zb5 zb6 zb7 zb8 zb9 zba zbb zbc
        have zbd : Keep zat zb5 [] := (Keep.refl _ _).ext zb9
        have zbe : Keep h0 zb5 [] := zb0.trans zbd all0
        have zbf : Fld Z zb5 zb6 "com/example/tophat_ledger/tophatledger/HoldingGroup" "participant" "Ljava/lang/String;" .null := zbb (Or.inr (wI hw 34 rfl)) (ty := (.object "java/lang/String")) (by decide)
        have zbg : Fld Z zb5 zb6 "com/example/tophat_ledger/tophatledger/HoldingGroup" "year" "I" (.int 0) := zbb (Or.inr (wI hw 36 rfl)) (ty := .int) (by decide)
        have zbh : Fld Z zb5 zb6 "com/example/tophat_ledger/tophatledger/HoldingGroup" "source" "Ljava/lang/String;" .null := zbb (Or.inr (wI hw 38 rfl)) (ty := (.object "java/lang/String")) (by decide)
        have zbi : Fld Z zb5 zb6 "com/example/tophat_ledger/tophatledger/HoldingGroup" "hash" "I" (.int 0) := zbb (Or.inr (wI hw 87 rfl)) (ty := .int) (by decide)
        have H := zb8.here
        refine Jvm.Q9.Aim.of (T' := zb4) (g' := (mkF m 75 #[.val (.int p1), .val (.int p2), .val (.int p3), .val (.int p4), .val (.int p5), .val (.int p6), .val (.ref c_676), .val (.ref c_690), .val (.ref c_703), .val (.ref c_1119), .val (.int zb2), .unset, .unset, .unset, .unset] [(.ref zb6), (.ref zb6)])) (fun tgt kt => ?_) ?_
        · refine XS.dup H hx rfl (hb hby at_74) rfl rfl ?_
          exact kt
        refine Jvm.Q9.Aim.newO zb8 hx hZ hown (wI hw 8 rfl) (wI hw 9 rfl) (wI hw 10 rfl) (hb hby at_75) (by decide) (by decide) ?_
        intro zbj zbk zbl zbm zbn zbo zbp zbq zbr
        have zbs : Keep zb5 zbk [] := (Keep.refl _ _).ext zbo
        have zbt : Keep h0 zbk [] := zbe.trans zbs all0
        have zbu : Fld Z zbk zbl "java/lang/String" "value" "[B" .null := zbq (Or.inr (wI hw 23 rfl)) (ty := (.array .byte)) (by decide)
        have zbv : Fld Z zbk zbl "java/lang/String" "coder" "B" (.int 0) := zbq (Or.inr (wI hw 24 rfl)) (ty := .byte) (by decide)
        have zbw : Fld Z zbk zbl "java/lang/String" "hash" "I" (.int 0) := zbq (Or.inl (wI hw 65 rfl)) (ty := .int) (by decide)
        have zbx : Fld Z zbk zbl "java/lang/String" "hashIsZero" "Z" (.int 0) := zbq (Or.inl (wI hw 67 rfl)) (ty := .boolean) (by decide)
        have H := zbn.here
        refine Jvm.Q9.Aim.of (T' := zbj) (g' := (mkF m 81 #[.val (.int p1), .val (.int p2), .val (.int p3), .val (.int p4), .val (.int p5), .val (.int p6), .val (.ref c_676), .val (.ref c_690), .val (.ref c_703), .val (.ref c_1119), .val (.int zb2), .unset, .unset, .unset, .unset] [(.ref c_676), (.ref zbl), (.ref zbl), (.ref zb6), (.ref zb6)])) (fun tgt kt => ?_) ?_
        · refine XS.dup H hx rfl (hb hby at_78) rfl rfl ?_
          refine XS.aload H hx rfl (hb hby at_79) rfl rfl ?_
          exact kt
        have zby : Arv Z zbk c_676 kC_677 .char (Int32.ofNat (txt p1).length) ((txt p1).map Value.int) (.int 0) := (((((z7.keep zf nin0).keep zo nin0).keep zax nin0).keep zbd nin0).keep zbs nin0)
        have zbz : Old Z n0 zbk := ((((((F0.keep z5 all0).keep zf all0).keep zo all0).keep zax all0).keep zbd all0).keep zbs all0)
        refine Jvm.Q9.Aim.callCW (argsL := [(.ref c_676)]) (rest := [(.ref zbl), (.ref zb6), (.ref zb6)]) zbn hx hZ hml hown rfl (wI hw 11 rfl) (wI hw 12 rfl) (wI hw 13 rfl) (by decide) (Jvm.Q9.Con.back (W := 3) (own_sC l Z a0 hw zbl c_676 kC_677 (txt p1) (.null) (.int 0) zbk n0 (lT Z0 (zbt.1)) Lc0 (lT (lT Z0 (zbe.1)) (Nat.le_of_eq zbm.symm)) (Jvm.Q9.nl_new P0.ltL (lT (zbe.1) (Nat.le_of_eq zbm.symm))) zbp zbu zbv zbw zbx zby zbz (txt_len _) (txt_in _) G GL) (wI hw 13 rfl) (wI hw 10 rfl) (by decide) (by decide)) rfl pd__28_5bC_29V rfl (Nat.le_of_eq rfl) (hb hby at_81) (by decide) (by decide) ?_
        intro zc0 zc1 zc2 zc3 zc4 zc5 zc6
        obtain ⟨t_1166, kb_1167, rfl, zc7, zc8, zc9, zca, zcb, zcc⟩ := zc6
        have zcd : Keep h0 zc1 [] := zbt.trans zc7 (allS (Or.inr (lT (zbe.1) (Nat.le_of_eq zbm.symm))) all0)
        have zce : Jvm.Q9.Grow Lc0 zc3 h0.size := (Jvm.Q9.Grow.refl _ _).trans zc5 (zbt.1)
        have H := zc4.here
        refine Jvm.Q9.Aim.of (T' := zc0) (g' := (mkF m 85 #[.val (.int p1), .val (.int p2), .val (.int p3), .val (.int p4), .val (.int p5), .val (.int p6), .val (.ref c_676), .val (.ref c_690), .val (.ref c_703), .val (.ref c_1119), .val (.int zb2), .unset, .unset, .unset, .unset] [(.int p3), (.ref zbl), (.ref zb6), (.ref zb6)])) (fun tgt kt => ?_) ?_
        · refine XS.iloadN H hx rfl (hb hby at_84) rfl ?_
          exact kt
        refine Jvm.Q9.Aim.newO zc4 hx hZ hown (wI hw 8 rfl) (wI hw 9 rfl) (wI hw 10 rfl) (hb hby at_85) (by decide) (by decide) ?_
        intro zcf zcg zch zci zcj zck zcl zcm zcn
        have zco : Keep zc1 zcg [] := (Keep.refl _ _).ext zck
        have zcp : Keep h0 zcg [] := zcd.trans zco all0
        have zcq : Fld Z zcg zch "java/lang/String" "value" "[B" .null := zcm (Or.inr (wI hw 23 rfl)) (ty := (.array .byte)) (by decide)
        have zcr : Fld Z zcg zch "java/lang/String" "coder" "B" (.int 0) := zcm (Or.inr (wI hw 24 rfl)) (ty := .byte) (by decide)
        have zcs : Fld Z zcg zch "java/lang/String" "hash" "I" (.int 0) := zcm (Or.inl (wI hw 65 rfl)) (ty := .int) (by decide)
        have zct : Fld Z zcg zch "java/lang/String" "hashIsZero" "Z" (.int 0) := zcm (Or.inl (wI hw 67 rfl)) (ty := .boolean) (by decide)
        have H := zcj.here
        refine Jvm.Q9.Aim.of (T' := zcf) (g' := (mkF m 91 #[.val (.int p1), .val (.int p2), .val (.int p3), .val (.int p4), .val (.int p5), .val (.int p6), .val (.ref c_676), .val (.ref c_690), .val (.ref c_703), .val (.ref c_1119), .val (.int zb2), .unset, .unset, .unset, .unset] [(.ref c_703), (.ref zch), (.ref zch), (.int p3), (.ref zbl), (.ref zb6), (.ref zb6)])) (fun tgt kt => ?_) ?_
        · refine XS.dup H hx rfl (hb hby at_88) rfl rfl ?_
          refine XS.aload H hx rfl (hb hby at_89) rfl rfl ?_
          exact kt
        have zcu : Arv Z zcg c_703 kC_704 .char (Int32.ofNat (txt p5).length) ((txt p5).map Value.int) (.int 0) := (((((zq.keep zax nin0).keep zbd nin0).keep zbs nin0).keep zc7 (ninS (nL (lL (lL zq.lt (lT zax.1 zbd.1)) (Nat.le_of_eq zbm.symm))) nin0)).keep zco nin0)
        have zcv : Old Z n0 zcg := ((zbz.keep zc7 (allS (lT (lT Z0 (zbe.1)) (Nat.le_of_eq zbm.symm)) all0)).keep zco all0)
        refine Jvm.Q9.Aim.callCW (argsL := [(.ref c_703)]) (rest := [(.ref zch), (.int p3), (.ref zbl), (.ref zb6), (.ref zb6)]) zcj hx hZ hml hown rfl (wI hw 11 rfl) (wI hw 12 rfl) (wI hw 13 rfl) (by decide) (Jvm.Q9.Con.back (W := 5) (own_sC l Z a0 hw zch c_703 kC_704 (txt p5) (.null) (.int 0) zcg n0 (lT Z0 (zcp.1)) zc3 (lT (lT Z0 (zcd.1)) (Nat.le_of_eq zci.symm)) (Jvm.Q9.nl_new zc4.ltL (lT (Nat.le_refl _) (Nat.le_of_eq zci.symm))) zcl zcq zcr zcs zct zcu zcv (txt_len _) (txt_in _) G GL) (wI hw 13 rfl) (wI hw 10 rfl) (by decide) (by decide)) rfl pd__28_5bC_29V rfl (Nat.le_of_eq rfl) (hb hby at_91) (by decide) (by decide) ?_
        intro zcw zcx zcy zcz zd0 zd1 zd2
        obtain ⟨t_1200, kb_1201, rfl, zd3, zd4, zd5, zd6, zd7, zd8⟩ := zd2
        have zd9 : Keep h0 zcx [] := zcp.trans zd3 (allS (Or.inr (lT (zcd.1) (Nat.le_of_eq zci.symm))) all0)
        have zda : Jvm.Q9.Grow Lc0 zcz h0.size := zce.trans zd1 (zcp.1)
        have zdb : Exa Z zcx zb6 "com/example/tophat_ledger/tophatledger/HoldingGroup" := ((((zba.keep zbs).keep zc7).keep zco).keep zd3)
        have zdc : Fld Z zcx zb6 "com/example/tophat_ledger/tophatledger/HoldingGroup" "participant" "Ljava/lang/String;" .null := ((((zbf.keep zbs nin0).keep zc7 (ninS (nL (lL zba.lt (Nat.le_of_eq zbm.symm))) nin0)).keep zco nin0).keep zd3 (ninS (nL (lL (lL zba.lt (lT zbs.1 zc7.1)) (Nat.le_of_eq zci.symm))) nin0))
        have zdd : Fld Z zcx zb6 "com/example/tophat_ledger/tophatledger/HoldingGroup" "year" "I" (.int 0) := ((((zbg.keep zbs nin0).keep zc7 (ninS (nL (lL zba.lt (Nat.le_of_eq zbm.symm))) nin0)).keep zco nin0).keep zd3 (ninS (nL (lL (lL zba.lt (lT zbs.1 zc7.1)) (Nat.le_of_eq zci.symm))) nin0))
        have zde : Fld Z zcx zb6 "com/example/tophat_ledger/tophatledger/HoldingGroup" "source" "Ljava/lang/String;" .null := ((((zbh.keep zbs nin0).keep zc7 (ninS (nL (lL zba.lt (Nat.le_of_eq zbm.symm))) nin0)).keep zco nin0).keep zd3 (ninS (nL (lL (lL zba.lt (lT zbs.1 zc7.1)) (Nat.le_of_eq zci.symm))) nin0))
        have zdf : Fld Z zcx zb6 "com/example/tophat_ledger/tophatledger/HoldingGroup" "hash" "I" (.int 0) := ((((zbi.keep zbs nin0).keep zc7 (ninS (nL (lL zba.lt (Nat.le_of_eq zbm.symm))) nin0)).keep zco nin0).keep zd3 (ninS (nL (lL (lL zba.lt (lT zbs.1 zc7.1)) (Nat.le_of_eq zci.symm))) nin0))
        have zdg : Str Z zcx zbl t_1166 kb_1167 (txt p1) := ((zc9.keep zco nin0 nin0).keep zd3 (ninS (nL (lL (lL zbp.lt (zc7.1)) (Nat.le_of_eq zci.symm))) nin0) (ninS (nL (lL zc9.ltb (Nat.le_of_eq zci.symm))) nin0))
        have zdh : (2 ≤ (txt p1).length → Exa Z zcx t_1166 "[B") := (fun q => ((fun q => (zca q).keep zco) q).keep zd3)
        have zdi : Fld Z zcx zbl "java/lang/String" "hash" "I" (.int 0) := ((zcb.keep zco nin0).keep zd3 (ninS (nL (lL (lL zbp.lt (zc7.1)) (Nat.le_of_eq zci.symm))) nin0))
        have zdj : Fld Z zcx zbl "java/lang/String" "hashIsZero" "Z" (.int 0) := ((zcc.keep zco nin0).keep zd3 (ninS (nL (lL (lL zbp.lt (zc7.1)) (Nat.le_of_eq zci.symm))) nin0))
        have zdk : Old Z n0 zcx := (zcv.keep zd3 (allS (lT (lT Z0 (zcd.1)) (Nat.le_of_eq zci.symm)) all0))
        have zdl : Exa Z zcx zbl "java/lang/String" := (((zbp.keep zc7).keep zco).keep zd3)
        have zdm : Exa Z zcx zch "java/lang/String" := (zcl.keep zd3)
        refine Jvm.Q9.Aim.callC (argsL := [(.ref zbl), (.int p3), (.ref zch)]) (rest := [(.ref zb6)]) zd0 hx hZ hml hown rfl (wI hw 29 rfl) (wI hw 30 rfl) (wI hw 31 rfl) (by decide) (fun vm0 hZ => Jvm.Y9.Con.back (s := s.setVm vm0) (W := 1) (own_hg l Z a0 hw zb6 p3 (.null) (.int 0) (.null) (.int 0) zbl t_1166 kb_1167 (txt p1) zch t_1200 kb_1201 (txt p5) zcx n0 (lT Z0 (zd9.1)) (lT (lT Z0 (zb0.1)) (Nat.le_of_eq zb7.symm)) (lT (lT Z0 (zbe.1)) (Nat.le_of_eq zbm.symm)) (lT (lT Z0 (zcd.1)) (Nat.le_of_eq zci.symm)) zdb zdc zdd zde zdf zdg zdh zdi zdj zd5 zd6 zd7 zd8 zdk (nL (lL (lL zbp.lt (zc7.1)) (Nat.le_of_eq zci.symm))) (Jvm.Q9.ori_ne zc8 (lT (lT Z0 (zbe.1)) (Nat.le_of_eq zbm.symm)) (Jvm.Q9.nl_step (Jvm.Q9.nl_new P0.ltL (lT (zbe.1) (Nat.le_of_eq zbm.symm))) zc5 zbp.lt) zbp.lt) (nL (lL zc9.ltb (Nat.le_of_eq zci.symm))) (Jvm.Q9.ori_ne zd4 (lT (lT Z0 (zbe.1)) (Nat.le_of_eq zbm.symm)) (Jvm.Q9.nl_step (Jvm.Q9.nl_step (Jvm.Q9.nl_new P0.ltL (lT (zbe.1) (Nat.le_of_eq zbm.symm))) zc5 zbp.lt) zd1 (lL zbp.lt (lT zc7.1 zco.1))) (lL zbp.lt (lT zc7.1 zco.1))) (Jvm.Q9.ori_ne zd4 (lT (lT Z0 (zcd.1)) (Nat.le_of_eq zci.symm)) (Jvm.Q9.nl_step (Jvm.Q9.nl_new zc4.ltL (lT (Nat.le_refl _) (Nat.le_of_eq zci.symm))) zd1 zcl.lt) zcl.lt) (txt_len _) (txt_len _) (Jvm.Q9.ori_ne zc8 (lT (lT Z0 (zb0.1)) (Nat.le_of_eq zb7.symm)) (Jvm.Q9.nl_step (Jvm.Q9.nl_new P0.ltL (lT (zb0.1) (Nat.le_of_eq zb7.symm))) zc5 (lL zba.lt (zbs.1))) (lL zba.lt (zbs.1))) (Jvm.Q9.ori_ne zd4 (lT (lT Z0 (zb0.1)) (Nat.le_of_eq zb7.symm)) (Jvm.Q9.nl_step (Jvm.Q9.nl_step (Jvm.Q9.nl_new P0.ltL (lT (zb0.1) (Nat.le_of_eq zb7.symm))) zc5 (lL zba.lt (zbs.1))) zd1 (lL zba.lt (lT (lT zbs.1 zc7.1) zco.1))) (lL zba.lt (lT (lT zbs.1 zc7.1) zco.1))) G GI) hZ (wI hw 31 rfl) (wI hw 7 rfl) (by decide) (by decide)) (fun _ _ ⟨_, q, _, _, _, _, _, _⟩ => q) (allS (Jvm.Q9.nl_step (Jvm.Q9.nl_step (Jvm.Q9.nl_new P0.ltL (lT (zb0.1) (Nat.le_of_eq zb7.symm))) zc5 (lL zba.lt (zbs.1))) zd1 (lL zba.lt (lT (lT zbs.1 zc7.1) zco.1))) (allS (Jvm.Q9.nl_step (Jvm.Q9.nl_step (Jvm.Q9.nl_new P0.ltL (lT (zbe.1) (Nat.le_of_eq zbm.symm))) zc5 zbp.lt) zd1 (lL zbp.lt (lT zc7.1 zco.1))) (allS (Jvm.Q9.nl_step (Jvm.Q9.nl_new zc4.ltL (lT (Nat.le_refl _) (Nat.le_of_eq zci.symm))) zd1 zcl.lt) all0))) rfl pd__28Ljava_2flang_2fString_3bILjava_2flang_2fString_3b_29V rfl (Nat.le_of_eq rfl) (hb hby at_94) (by decide) (by decide) ?_
        intro zdn zdo zdp zdq zdr
        obtain ⟨rfl, zds, zdt, zdu, zdv, zdw, zdx, zdy⟩ := zdr
        have zdz : Keep h0 zdo [] := zd9.trans zds (allS (Or.inr (lT (zb0.1) (Nat.le_of_eq zb7.symm))) (allS (Or.inr (lT (zbe.1) (Nat.le_of_eq zbm.symm))) (allS (Or.inr (lT (zcd.1) (Nat.le_of_eq zci.symm))) all0)))
        have H := zdq.here
        refine Jvm.Q9.Aim.of (T' := zdn) (g' := (mkF m 112 #[.val (.int p1), .val (.int p2), .val (.int p3), .val (.int p4), .val (.int p5), .val (.int p6), .val (.ref c_676), .val (.ref c_690), .val (.ref c_703), .val (.ref c_1119), .val (.int zb2), .val (.ref zb6), .val (.int (((p6.toUInt32 >>> ((21 : Int32) &&& 31).toUInt32).toInt32) &&& (7 : Int32))), .unset, .unset] [(.int 5), (.int (((p6.toUInt32 >>> ((21 : Int32) &&& 31).toUInt32).toInt32) &&& (7 : Int32)))])) (fun tgt kt => ?_) ?_
        · refine XS.astore H hx rfl (hb hby at_97) rfl rfl (l' := #[.val (.int p1), .val (.int p2), .val (.int p3), .val (.int p4), .val (.int p5), .val (.int p6), .val (.ref c_676), .val (.ref c_690), .val (.ref c_703), .val (.ref c_1119), .val (.int zb2), .val (.ref zb6), .unset, .unset, .unset]) rfl ?_
          refine XS.iload H hx rfl (hb hby at_99) rfl ?_
          refine XS.bipush H hx rfl (hb hby at_101) ?_
          refine XS.iushr H hx rfl (hb hby at_103) rfl ?_
          refine XS.bipush H hx rfl (hb hby at_104) ?_
          refine XS.iand H hx rfl (hb hby at_106) rfl ?_
          refine XS.istore H hx rfl (hb hby at_107) rfl (l' := #[.val (.int p1), .val (.int p2), .val (.int p3), .val (.int p4), .val (.int p5), .val (.int p6), .val (.ref c_676), .val (.ref c_690), .val (.ref c_703), .val (.ref c_1119), .val (.int zb2), .val (.ref zb6), .val (.int (((p6.toUInt32 >>> ((21 : Int32) &&& 31).toUInt32).toInt32) &&& (7 : Int32))), .unset, .unset]) rfl ?_
          refine XS.iload H hx rfl (hb hby at_109) rfl ?_
          refine XS.iconst H hx rfl (hb hby at_111) ?_
          exact kt
        by_cases ze0 : (((p6.toUInt32 >>> ((21 : Int32) &&& 31).toUInt32).toInt32) &&& (7 : Int32)) = (5 : Int32)
        · skip
          have H := zdq.here
          refine Jvm.Q9.Aim.of (T' := zdn) (g' := (mkF m 118 #[.val (.int p1), .val (.int p2), .val (.int p3), .val (.int p4), .val (.int p5), .val (.int p6), .val (.ref c_676), .val (.ref c_690), .val (.ref c_703), .val (.ref c_1119), .val (.int zb2), .val (.ref zb6), .val (.int (((p6.toUInt32 >>> ((21 : Int32) &&& 31).toUInt32).toInt32) &&& (7 : Int32))), .unset, .unset] [.null, (.ref zb6)])) (fun tgt kt => ?_) ?_
          · refine XS.icmpNo H hx rfl (hb hby at_112) rfl (teq ze0).2 ?_
            refine XS.aload H hx rfl (hb hby at_115) rfl rfl ?_
            refine XS.aconstNull H hx rfl (hb hby at_117) ?_
            exact kt
          refine Jvm.Q9.Aim.callV (argsL := [.null]) (rest := []) (y := (⟨"com/example/tophat_ledger/tophatledger/HoldingGroup", "equals", "(Ljava/lang/Object;)Z"⟩ : MethodName)) (z := (⟨"com/example/tophat_ledger/tophatledger/HoldingGroup", "equals", "(Ljava/lang/Object;)Z"⟩ : MethodName)) zdq hx hZ hml hown (wI hw 91 rfl) (wI hw 92 rfl) (fun vm0 hZ => notFace_of_selects (args := #[]) (mvT (s := s.setVm vm0) hZ (wI hw 94 rfl))) (wI hw 94 rfl) (wI hw 93 rfl) (by decide) zdt (fun vm0 hZ => Jvm.Y9.Con.back (s := s.setVm vm0) (W := 0) (own_eqN l Z a0 hw zb6 zdo n0 (lT Z0 (zdz.1))) hZ (wI hw 95 rfl) (wI hw 7 rfl) (by decide) (by decide)) (fun _ _ ⟨_, q⟩ => (by subst q; exact Keep.refl _ [])) all0 rfl pd__28Ljava_2flang_2fObject_3b_29Z rfl (Nat.le_of_eq rfl) (hb hby at_118) (by decide) (by decide) ?_
          intro ze1 ze2 ze3 ze4 ze5
          obtain ⟨rfl, rfl⟩ := ze5
          have H := ze4.here
          refine Jvm.Q9.Aim.of (T' := ze1) (g' := (mkF m 129 #[.val (.int p1), .val (.int p2), .val (.int p3), .val (.int p4), .val (.int p5), .val (.int p6), .val (.ref c_676), .val (.ref c_690), .val (.ref c_703), .val (.ref c_1119), .val (.int zb2), .val (.ref zb6), .val (.int (((p6.toUInt32 >>> ((21 : Int32) &&& 31).toUInt32).toInt32) &&& (7 : Int32))), .unset, .unset] [(.int 1)])) (fun tgt kt => ?_) ?_
          · refine XS.ifNo H hx rfl (hb hby at_121) rfl ((if0 _ _).trans (teq (by decide)).2) ?_
            refine XS.iconst H hx rfl (hb hby at_124) ?_
            refine XS.goto H hx rfl (pc0 := 125) (pc' := 129) rfl (hb hby at_125) (by decide) (by decide) ?_
            exact kt
          exact Jvm.Q9.Aim.retN (t := .boolean) ze4 hx hlk hret (by simp) (hb hby at_129) (by decide) (by decide) zda ⟨rfl, zdz⟩
        · skip
          have H := zdq.here
          refine Jvm.Q9.Aim.of (T' := zdn) (g' := (mkF m 134 #[.val (.int p1), .val (.int p2), .val (.int p3), .val (.int p4), .val (.int p5), .val (.int p6), .val (.ref c_676), .val (.ref c_690), .val (.ref c_703), .val (.ref c_1119), .val (.int zb2), .val (.ref zb6), .val (.int (((p6.toUInt32 >>> ((21 : Int32) &&& 31).toUInt32).toInt32) &&& (7 : Int32))), .unset, .unset] [(.int 6), (.int (((p6.toUInt32 >>> ((21 : Int32) &&& 31).toUInt32).toInt32) &&& (7 : Int32)))])) (fun tgt kt => ?_) ?_
          · refine XS.icmpYes H hx rfl (pc0 := 112) (pc' := 130) rfl (hb hby at_112) rfl (feq ze0).2 (by decide) (by decide) ?_
            refine XS.iload H hx rfl (hb hby at_130) rfl ?_
            refine XS.bipush H hx rfl (hb hby at_132) ?_
            exact kt
          by_cases ze6 : (((p6.toUInt32 >>> ((21 : Int32) &&& 31).toUInt32).toInt32) &&& (7 : Int32)) = (6 : Int32)
          · skip
            have H := zdq.here
            refine Jvm.Q9.Aim.of (T' := zdn) (g' := (mkF m 139 #[.val (.int p1), .val (.int p2), .val (.int p3), .val (.int p4), .val (.int p5), .val (.int p6), .val (.ref c_676), .val (.ref c_690), .val (.ref c_703), .val (.ref c_1119), .val (.int zb2), .val (.ref zb6), .val (.int (((p6.toUInt32 >>> ((21 : Int32) &&& 31).toUInt32).toInt32) &&& (7 : Int32))), .unset, .unset] [(.ref zb6)])) (fun tgt kt => ?_) ?_
            · refine XS.icmpNo H hx rfl (hb hby at_134) rfl (teq ze6).2 ?_
              refine XS.aload H hx rfl (hb hby at_137) rfl rfl ?_
              exact kt
            refine Jvm.Q9.Aim.newO zdq hx hZ hown (wI hw 8 rfl) (wI hw 9 rfl) (wI hw 10 rfl) (hb hby at_139) (by decide) (by decide) ?_
            intro ze7 ze8 ze9 zea zeb zec zed zee zef
            have zeg : Keep zdo ze8 [] := (Keep.refl _ _).ext zec
            have zeh : Keep h0 ze8 [] := zdz.trans zeg all0
            have zei : Fld Z ze8 ze9 "java/lang/String" "value" "[B" .null := zee (Or.inr (wI hw 23 rfl)) (ty := (.array .byte)) (by decide)
            have zej : Fld Z ze8 ze9 "java/lang/String" "coder" "B" (.int 0) := zee (Or.inr (wI hw 24 rfl)) (ty := .byte) (by decide)
            have zek : Fld Z ze8 ze9 "java/lang/String" "hash" "I" (.int 0) := zee (Or.inl (wI hw 65 rfl)) (ty := .int) (by decide)
            have zel : Fld Z ze8 ze9 "java/lang/String" "hashIsZero" "Z" (.int 0) := zee (Or.inl (wI hw 67 rfl)) (ty := .boolean) (by decide)
            have H := zeb.here
            refine Jvm.Q9.Aim.of (T' := ze7) (g' := (mkF m 145 #[.val (.int p1), .val (.int p2), .val (.int p3), .val (.int p4), .val (.int p5), .val (.int p6), .val (.ref c_676), .val (.ref c_690), .val (.ref c_703), .val (.ref c_1119), .val (.int zb2), .val (.ref zb6), .val (.int (((p6.toUInt32 >>> ((21 : Int32) &&& 31).toUInt32).toInt32) &&& (7 : Int32))), .unset, .unset] [(.ref c_676), (.ref ze9), (.ref ze9), (.ref zb6)])) (fun tgt kt => ?_) ?_
            · refine XS.dup H hx rfl (hb hby at_142) rfl rfl ?_
              refine XS.aload H hx rfl (hb hby at_143) rfl rfl ?_
              exact kt
            have zem : Arv Z ze8 c_676 kC_677 .char (Int32.ofNat (txt p1).length) ((txt p1).map Value.int) (.int 0) := (((((zby.keep zc7 (ninS (nL (lL (lL z7.lt (lT (lT (lT zf.1 zo.1) zax.1) zbd.1)) (Nat.le_of_eq zbm.symm))) nin0)).keep zco nin0).keep zd3 (ninS (nL (lL (lL z7.lt (lT (lT (lT (lT (lT zf.1 zo.1) zax.1) zbd.1) zbs.1) zc7.1)) (Nat.le_of_eq zci.symm))) nin0)).keep zds (ninS (nL (lL (lL z7.lt (lT (lT zf.1 zo.1) zax.1)) (Nat.le_of_eq zb7.symm))) (ninS (nL (lL (lL z7.lt (lT (lT (lT zf.1 zo.1) zax.1) zbd.1)) (Nat.le_of_eq zbm.symm))) (ninS (nL (lL (lL z7.lt (lT (lT (lT (lT (lT zf.1 zo.1) zax.1) zbd.1) zbs.1) zc7.1)) (Nat.le_of_eq zci.symm))) nin0)))).keep zeg nin0)
            have zen : Old Z n0 ze8 := ((zdk.keep zds (allS (lT (lT Z0 (zb0.1)) (Nat.le_of_eq zb7.symm)) (allS (lT (lT Z0 (zbe.1)) (Nat.le_of_eq zbm.symm)) (allS (lT (lT Z0 (zcd.1)) (Nat.le_of_eq zci.symm)) all0)))).keep zeg all0)
            refine Jvm.Q9.Aim.callCW (argsL := [(.ref c_676)]) (rest := [(.ref ze9), (.ref zb6)]) zeb hx hZ hml hown rfl (wI hw 11 rfl) (wI hw 12 rfl) (wI hw 13 rfl) (by decide) (Jvm.Q9.Con.back (W := 2) (own_sC l Z a0 hw ze9 c_676 kC_677 (txt p1) (.null) (.int 0) ze8 n0 (lT Z0 (zeh.1)) zcz (lT (lT Z0 (zdz.1)) (Nat.le_of_eq zea.symm)) (Jvm.Q9.nl_new zd0.ltL (lT (zds.1) (Nat.le_of_eq zea.symm))) zed zei zej zek zel zem zen (txt_len _) (txt_in _) G GL) (wI hw 13 rfl) (wI hw 10 rfl) (by decide) (by decide)) rfl pd__28_5bC_29V rfl (Nat.le_of_eq rfl) (hb hby at_145) (by decide) (by decide) ?_
            intro zeo zep zeq zer zes zet zeu
            obtain ⟨t_1270, kb_1271, rfl, zev, zew, zex, zey, zez, zf0⟩ := zeu
            have zf1 : Keep h0 zep [] := zeh.trans zev (allS (Or.inr (lT (zdz.1) (Nat.le_of_eq zea.symm))) all0)
            have zf2 : Jvm.Q9.Grow Lc0 zer h0.size := zda.trans zet (zeh.1)
            have zf3 : Exa Z zep zb6 "com/example/tophat_ledger/tophatledger/HoldingGroup" := ((zdt.keep zeg).keep zev)
            have zf4 : Exa Z zep ze9 "java/lang/String" := (zed.keep zev)
            refine Jvm.Q9.Aim.callV (argsL := [(.ref ze9)]) (rest := []) (y := (⟨"com/example/tophat_ledger/tophatledger/HoldingGroup", "equals", "(Ljava/lang/Object;)Z"⟩ : MethodName)) (z := (⟨"com/example/tophat_ledger/tophatledger/HoldingGroup", "equals", "(Ljava/lang/Object;)Z"⟩ : MethodName)) zes hx hZ hml hown (wI hw 91 rfl) (wI hw 92 rfl) (fun vm0 hZ => notFace_of_selects (args := #[]) (mvT (s := s.setVm vm0) hZ (wI hw 94 rfl))) (wI hw 94 rfl) (wI hw 93 rfl) (by decide) zf3 (fun vm0 hZ => Jvm.Y9.Con.back (s := s.setVm vm0) (W := 0) (own_eqS l Z a0 hw zb6 ze9 zep n0 (lT Z0 (zf1.1)) zf4) hZ (wI hw 95 rfl) (wI hw 7 rfl) (by decide) (by decide)) (fun _ _ ⟨_, q⟩ => (by subst q; exact Keep.refl _ [])) all0 rfl pd__28Ljava_2flang_2fObject_3b_29Z rfl (Nat.le_of_eq rfl) (hb hby at_148) (by decide) (by decide) ?_
            intro zf5 zf6 zf7 zf8 zf9
            obtain ⟨rfl, rfl⟩ := zf9
            have H := zf8.here
            refine Jvm.Q9.Aim.of (T' := zf5) (g' := (mkF m 159 #[.val (.int p1), .val (.int p2), .val (.int p3), .val (.int p4), .val (.int p5), .val (.int p6), .val (.ref c_676), .val (.ref c_690), .val (.ref c_703), .val (.ref c_1119), .val (.int zb2), .val (.ref zb6), .val (.int (((p6.toUInt32 >>> ((21 : Int32) &&& 31).toUInt32).toInt32) &&& (7 : Int32))), .unset, .unset] [(.int 1)])) (fun tgt kt => ?_) ?_
            · refine XS.ifNo H hx rfl (hb hby at_151) rfl ((if0 _ _).trans (teq (by decide)).2) ?_
              refine XS.iconst H hx rfl (hb hby at_154) ?_
              refine XS.goto H hx rfl (pc0 := 155) (pc' := 159) rfl (hb hby at_155) (by decide) (by decide) ?_
              exact kt
            exact Jvm.Q9.Aim.retN (t := .boolean) zf8 hx hlk hret (by simp) (hb hby at_159) (by decide) (by decide) zf2 ⟨rfl, zf1⟩
          · skip
            have H := zdq.here
            refine Jvm.Q9.Aim.of (T' := zdn) (g' := (mkF m 164 #[.val (.int p1), .val (.int p2), .val (.int p3), .val (.int p4), .val (.int p5), .val (.int p6), .val (.ref c_676), .val (.ref c_690), .val (.ref c_703), .val (.ref c_1119), .val (.int zb2), .val (.ref zb6), .val (.int (((p6.toUInt32 >>> ((21 : Int32) &&& 31).toUInt32).toInt32) &&& (7 : Int32))), .unset, .unset] [(.int 7), (.int (((p6.toUInt32 >>> ((21 : Int32) &&& 31).toUInt32).toInt32) &&& (7 : Int32)))])) (fun tgt kt => ?_) ?_
            · refine XS.icmpYes H hx rfl (pc0 := 134) (pc' := 160) rfl (hb hby at_134) rfl (feq ze6).2 (by decide) (by decide) ?_
              refine XS.iload H hx rfl (hb hby at_160) rfl ?_
              refine XS.bipush H hx rfl (hb hby at_162) ?_
              exact kt
            by_cases zfa : (((p6.toUInt32 >>> ((21 : Int32) &&& 31).toUInt32).toInt32) &&& (7 : Int32)) = (7 : Int32)
            · skip
              have H := zdq.here
              refine Jvm.Q9.Aim.of (T' := zdn) (g' := (mkF m 171 #[.val (.int p1), .val (.int p2), .val (.int p3), .val (.int p4), .val (.int p5), .val (.int p6), .val (.ref c_676), .val (.ref c_690), .val (.ref c_703), .val (.ref c_1119), .val (.int zb2), .val (.ref zb6), .val (.int (((p6.toUInt32 >>> ((21 : Int32) &&& 31).toUInt32).toInt32) &&& (7 : Int32))), .unset, .unset] [(.ref zb6), (.ref zb6)])) (fun tgt kt => ?_) ?_
              · refine XS.icmpNo H hx rfl (hb hby at_164) rfl (teq zfa).2 ?_
                refine XS.aload H hx rfl (hb hby at_167) rfl rfl ?_
                refine XS.aload H hx rfl (hb hby at_169) rfl rfl ?_
                exact kt
              have zfb : Old Z n0 zdo := (zdk.keep zds (allS (lT (lT Z0 (zb0.1)) (Nat.le_of_eq zb7.symm)) (allS (lT (lT Z0 (zbe.1)) (Nat.le_of_eq zbm.symm)) (allS (lT (lT Z0 (zcd.1)) (Nat.le_of_eq zci.symm)) all0))))
              refine Jvm.Q9.Aim.callV (argsL := [(.ref zb6)]) (rest := []) (y := (⟨"com/example/tophat_ledger/tophatledger/HoldingGroup", "equals", "(Ljava/lang/Object;)Z"⟩ : MethodName)) (z := (⟨"com/example/tophat_ledger/tophatledger/HoldingGroup", "equals", "(Ljava/lang/Object;)Z"⟩ : MethodName)) zdq hx hZ hml hown (wI hw 91 rfl) (wI hw 92 rfl) (fun vm0 hZ => notFace_of_selects (args := #[]) (mvT (s := s.setVm vm0) hZ (wI hw 94 rfl))) (wI hw 94 rfl) (wI hw 93 rfl) (by decide) zdt (fun vm0 hZ => Jvm.Y9.Con.back (s := s.setVm vm0) (W := 0) (own_eqH l Z a0 hw zb6 p3 zbl t_1166 kb_1167 (txt p1) zch t_1200 kb_1201 (txt p5) zb6 p3 zbl t_1166 kb_1167 (txt p1) zch t_1200 kb_1201 (txt p5) zdo n0 (lT Z0 (zdz.1)) zdt zdu zdv zdw zdx zdy zdt zdu zdv zdw zdx zdy zfb G) hZ (wI hw 95 rfl) (wI hw 7 rfl) (by decide) (by decide)) (fun _ _ ⟨_, q⟩ => (by subst q; exact Keep.refl _ [])) all0 rfl pd__28Ljava_2flang_2fObject_3b_29Z rfl (Nat.le_of_eq rfl) (hb hby at_171) (by decide) (by decide) ?_
              intro zfc zfd zfe zff zfg
              obtain ⟨rfl, rfl⟩ := zfg
              exact Jvm.Q9.Aim.retN (t := .boolean) zff hx hlk hret (by simp) (hb hby at_174) (by decide) (by decide) zda ⟨(by rw [eqV, if_pos ⟨rfl, rfl, rfl⟩]; rfl), zdz⟩
            · skip
              have H := zdq.here
              refine Jvm.Q9.Aim.of (T' := zdn) (g' := (mkF m 175 #[.val (.int p1), .val (.int p2), .val (.int p3), .val (.int p4), .val (.int p5), .val (.int p6), .val (.ref c_676), .val (.ref c_690), .val (.ref c_703), .val (.ref c_1119), .val (.int zb2), .val (.ref zb6), .val (.int (((p6.toUInt32 >>> ((21 : Int32) &&& 31).toUInt32).toInt32) &&& (7 : Int32))), .unset, .unset] [])) (fun tgt kt => ?_) ?_
              · refine XS.icmpYes H hx rfl (pc0 := 164) (pc' := 175) rfl (hb hby at_164) rfl (feq zfa).2 (by decide) (by decide) ?_
                exact kt
              refine Jvm.Q9.Aim.newO zdq hx hZ hown (wI hw 5 rfl) (wI hw 6 rfl) (wI hw 7 rfl) (hb hby at_175) (by decide) (by decide) ?_
              intro zfh zfi zfj zfk zfl zfm zfn zfo zfp
              have zfq : Keep zdo zfi [] := (Keep.refl _ _).ext zfm
              have zfr : Keep h0 zfi [] := zdz.trans zfq all0
              have zfs : Fld Z zfi zfj "com/example/tophat_ledger/tophatledger/HoldingGroup" "participant" "Ljava/lang/String;" .null := zfo (Or.inr (wI hw 34 rfl)) (ty := (.object "java/lang/String")) (by decide)
              have zft : Fld Z zfi zfj "com/example/tophat_ledger/tophatledger/HoldingGroup" "year" "I" (.int 0) := zfo (Or.inr (wI hw 36 rfl)) (ty := .int) (by decide)
              have zfu : Fld Z zfi zfj "com/example/tophat_ledger/tophatledger/HoldingGroup" "source" "Ljava/lang/String;" .null := zfo (Or.inr (wI hw 38 rfl)) (ty := (.object "java/lang/String")) (by decide)
              have zfv : Fld Z zfi zfj "com/example/tophat_ledger/tophatledger/HoldingGroup" "hash" "I" (.int 0) := zfo (Or.inr (wI hw 87 rfl)) (ty := .int) (by decide)
              have H := zfl.here
              refine Jvm.Q9.Aim.of (T' := zfh) (g' := (mkF m 179 #[.val (.int p1), .val (.int p2), .val (.int p3), .val (.int p4), .val (.int p5), .val (.int p6), .val (.ref c_676), .val (.ref c_690), .val (.ref c_703), .val (.ref c_1119), .val (.int zb2), .val (.ref zb6), .val (.int (((p6.toUInt32 >>> ((21 : Int32) &&& 31).toUInt32).toInt32) &&& (7 : Int32))), .unset, .unset] [(.ref zfj), (.ref zfj)])) (fun tgt kt => ?_) ?_
              · refine XS.dup H hx rfl (hb hby at_178) rfl rfl ?_
                exact kt
              refine Jvm.Q9.Aim.newO zfl hx hZ hown (wI hw 8 rfl) (wI hw 9 rfl) (wI hw 10 rfl) (hb hby at_179) (by decide) (by decide) ?_
              intro zfw zfx zfy zfz zg0 zg1 zg2 zg3 zg4
              have zg5 : Keep zfi zfx [] := (Keep.refl _ _).ext zg1
              have zg6 : Keep h0 zfx [] := zfr.trans zg5 all0
              have zg7 : Fld Z zfx zfy "java/lang/String" "value" "[B" .null := zg3 (Or.inr (wI hw 23 rfl)) (ty := (.array .byte)) (by decide)
              have zg8 : Fld Z zfx zfy "java/lang/String" "coder" "B" (.int 0) := zg3 (Or.inr (wI hw 24 rfl)) (ty := .byte) (by decide)
              have zg9 : Fld Z zfx zfy "java/lang/String" "hash" "I" (.int 0) := zg3 (Or.inl (wI hw 65 rfl)) (ty := .int) (by decide)
              have zga : Fld Z zfx zfy "java/lang/String" "hashIsZero" "Z" (.int 0) := zg3 (Or.inl (wI hw 67 rfl)) (ty := .boolean) (by decide)
              have H := zg0.here
              refine Jvm.Q9.Aim.of (T' := zfw) (g' := (mkF m 185 #[.val (.int p1), .val (.int p2), .val (.int p3), .val (.int p4), .val (.int p5), .val (.int p6), .val (.ref c_676), .val (.ref c_690), .val (.ref c_703), .val (.ref c_1119), .val (.int zb2), .val (.ref zb6), .val (.int (((p6.toUInt32 >>> ((21 : Int32) &&& 31).toUInt32).toInt32) &&& (7 : Int32))), .unset, .unset] [(.ref c_690), (.ref zfy), (.ref zfy), (.ref zfj), (.ref zfj)])) (fun tgt kt => ?_) ?_
              · refine XS.dup H hx rfl (hb hby at_182) rfl rfl ?_
                refine XS.aload H hx rfl (hb hby at_183) rfl rfl ?_
                exact kt
              have zgb : Arv Z zfx c_690 kC_691 .char (Int32.ofNat (txt p2).length) ((txt p2).map Value.int) (.int 0) := ((((((((((zh.keep zo nin0).keep zax nin0).keep zbd nin0).keep zbs nin0).keep zc7 (ninS (nL (lL (lL zh.lt (lT (lT zo.1 zax.1) zbd.1)) (Nat.le_of_eq zbm.symm))) nin0)).keep zco nin0).keep zd3 (ninS (nL (lL (lL zh.lt (lT (lT (lT (lT zo.1 zax.1) zbd.1) zbs.1) zc7.1)) (Nat.le_of_eq zci.symm))) nin0)).keep zds (ninS (nL (lL (lL zh.lt (lT zo.1 zax.1)) (Nat.le_of_eq zb7.symm))) (ninS (nL (lL (lL zh.lt (lT (lT zo.1 zax.1) zbd.1)) (Nat.le_of_eq zbm.symm))) (ninS (nL (lL (lL zh.lt (lT (lT (lT (lT zo.1 zax.1) zbd.1) zbs.1) zc7.1)) (Nat.le_of_eq zci.symm))) nin0)))).keep zfq nin0).keep zg5 nin0)
              have zgc : Old Z n0 zfx := (((zdk.keep zds (allS (lT (lT Z0 (zb0.1)) (Nat.le_of_eq zb7.symm)) (allS (lT (lT Z0 (zbe.1)) (Nat.le_of_eq zbm.symm)) (allS (lT (lT Z0 (zcd.1)) (Nat.le_of_eq zci.symm)) all0)))).keep zfq all0).keep zg5 all0)
              refine Jvm.Q9.Aim.callCW (argsL := [(.ref c_690)]) (rest := [(.ref zfy), (.ref zfj), (.ref zfj)]) zg0 hx hZ hml hown rfl (wI hw 11 rfl) (wI hw 12 rfl) (wI hw 13 rfl) (by decide) (Jvm.Q9.Con.back (W := 3) (own_sC l Z a0 hw zfy c_690 kC_691 (txt p2) (.null) (.int 0) zfx n0 (lT Z0 (zg6.1)) zcz (lT (lT Z0 (zfr.1)) (Nat.le_of_eq zfz.symm)) (Jvm.Q9.nl_new zd0.ltL (lT (lT zds.1 zfq.1) (Nat.le_of_eq zfz.symm))) zg2 zg7 zg8 zg9 zga zgb zgc (txt_len _) (txt_in _) G GL) (wI hw 13 rfl) (wI hw 10 rfl) (by decide) (by decide)) rfl pd__28_5bC_29V rfl (Nat.le_of_eq rfl) (hb hby at_185) (by decide) (by decide) ?_
              intro zgd zge zgf zgg zgh zgi zgj
              obtain ⟨t_1337, kb_1338, rfl, zgk, zgl, zgm, zgn, zgo, zgp⟩ := zgj
              have zgq : Keep h0 zge [] := zg6.trans zgk (allS (Or.inr (lT (zfr.1) (Nat.le_of_eq zfz.symm))) all0)
              have zgr : Jvm.Q9.Grow Lc0 zgg h0.size := zda.trans zgi (zg6.1)
              have H := zgh.here
              refine Jvm.Q9.Aim.of (T' := zgd) (g' := (mkF m 190 #[.val (.int p1), .val (.int p2), .val (.int p3), .val (.int p4), .val (.int p5), .val (.int p6), .val (.ref c_676), .val (.ref c_690), .val (.ref c_703), .val (.ref c_1119), .val (.int zb2), .val (.ref zb6), .val (.int (((p6.toUInt32 >>> ((21 : Int32) &&& 31).toUInt32).toInt32) &&& (7 : Int32))), .unset, .unset] [(.int zb2), (.ref zfy), (.ref zfj), (.ref zfj)])) (fun tgt kt => ?_) ?_
              · refine XS.iload H hx rfl (hb hby at_188) rfl ?_
                exact kt
              refine Jvm.Q9.Aim.newO zgh hx hZ hown (wI hw 8 rfl) (wI hw 9 rfl) (wI hw 10 rfl) (hb hby at_190) (by decide) (by decide) ?_
              intro zgs zgt zgu zgv zgw zgx zgy zgz zh0
              have zh1 : Keep zge zgt [] := (Keep.refl _ _).ext zgx
              have zh2 : Keep h0 zgt [] := zgq.trans zh1 all0
              have zh3 : Fld Z zgt zgu "java/lang/String" "value" "[B" .null := zgz (Or.inr (wI hw 23 rfl)) (ty := (.array .byte)) (by decide)
              have zh4 : Fld Z zgt zgu "java/lang/String" "coder" "B" (.int 0) := zgz (Or.inr (wI hw 24 rfl)) (ty := .byte) (by decide)
              have zh5 : Fld Z zgt zgu "java/lang/String" "hash" "I" (.int 0) := zgz (Or.inl (wI hw 65 rfl)) (ty := .int) (by decide)
              have zh6 : Fld Z zgt zgu "java/lang/String" "hashIsZero" "Z" (.int 0) := zgz (Or.inl (wI hw 67 rfl)) (ty := .boolean) (by decide)
              have H := zgw.here
              refine Jvm.Q9.Aim.of (T' := zgs) (g' := (mkF m 196 #[.val (.int p1), .val (.int p2), .val (.int p3), .val (.int p4), .val (.int p5), .val (.int p6), .val (.ref c_676), .val (.ref c_690), .val (.ref c_703), .val (.ref c_1119), .val (.int zb2), .val (.ref zb6), .val (.int (((p6.toUInt32 >>> ((21 : Int32) &&& 31).toUInt32).toInt32) &&& (7 : Int32))), .unset, .unset] [(.ref c_1119), (.ref zgu), (.ref zgu), (.int zb2), (.ref zfy), (.ref zfj), (.ref zfj)])) (fun tgt kt => ?_) ?_
              · refine XS.dup H hx rfl (hb hby at_193) rfl rfl ?_
                refine XS.aload H hx rfl (hb hby at_194) rfl rfl ?_
                exact kt
              have zh7 : Arv Z zgt c_1119 kC_1120 .char (Int32.ofNat (txt p5).length) ((txt p5).map Value.int) (.int 0) := ((((((((((zaz.keep zbd nin0).keep zbs nin0).keep zc7 (ninS (nL (lL (lL zaz.lt (zbd.1)) (Nat.le_of_eq zbm.symm))) nin0)).keep zco nin0).keep zd3 (ninS (nL (lL (lL zaz.lt (lT (lT zbd.1 zbs.1) zc7.1)) (Nat.le_of_eq zci.symm))) nin0)).keep zds (ninS (nL (lL zaz.lt (Nat.le_of_eq zb7.symm))) (ninS (nL (lL (lL zaz.lt (zbd.1)) (Nat.le_of_eq zbm.symm))) (ninS (nL (lL (lL zaz.lt (lT (lT zbd.1 zbs.1) zc7.1)) (Nat.le_of_eq zci.symm))) nin0)))).keep zfq nin0).keep zg5 nin0).keep zgk (ninS (nL (lL (lL zaz.lt (lT (lT (lT (lT (lT (lT zbd.1 zbs.1) zc7.1) zco.1) zd3.1) zds.1) zfq.1)) (Nat.le_of_eq zfz.symm))) nin0)).keep zh1 nin0)
              have zh8 : Old Z n0 zgt := ((zgc.keep zgk (allS (lT (lT Z0 (zfr.1)) (Nat.le_of_eq zfz.symm)) all0)).keep zh1 all0)
              refine Jvm.Q9.Aim.callCW (argsL := [(.ref c_1119)]) (rest := [(.ref zgu), (.int zb2), (.ref zfy), (.ref zfj), (.ref zfj)]) zgw hx hZ hml hown rfl (wI hw 11 rfl) (wI hw 12 rfl) (wI hw 13 rfl) (by decide) (Jvm.Q9.Con.back (W := 5) (own_sC l Z a0 hw zgu c_1119 kC_1120 (txt p5) (.null) (.int 0) zgt n0 (lT Z0 (zh2.1)) zgg (lT (lT Z0 (zgq.1)) (Nat.le_of_eq zgv.symm)) (Jvm.Q9.nl_new zgh.ltL (lT (Nat.le_refl _) (Nat.le_of_eq zgv.symm))) zgy zh3 zh4 zh5 zh6 zh7 zh8 (txt_len _) (txt_in _) G GL) (wI hw 13 rfl) (wI hw 10 rfl) (by decide) (by decide)) rfl pd__28_5bC_29V rfl (Nat.le_of_eq rfl) (hb hby at_196) (by decide) (by decide) ?_
              intro zh9 zha zhb zhc zhd zhe zhf
              obtain ⟨t_1371, kb_1372, rfl, zhg, zhh, zhi, zhj, zhk, zhl⟩ := zhf
              have zhm : Keep h0 zha [] := zh2.trans zhg (allS (Or.inr (lT (zgq.1) (Nat.le_of_eq zgv.symm))) all0)
              have zhn : Jvm.Q9.Grow Lc0 zhc h0.size := zgr.trans zhe (zh2.1)
              have zho : Exa Z zha zfj "com/example/tophat_ledger/tophatledger/HoldingGroup" := ((((zfn.keep zg5).keep zgk).keep zh1).keep zhg)
              have zhp : Fld Z zha zfj "com/example/tophat_ledger/tophatledger/HoldingGroup" "participant" "Ljava/lang/String;" .null := ((((zfs.keep zg5 nin0).keep zgk (ninS (nL (lL zfn.lt (Nat.le_of_eq zfz.symm))) nin0)).keep zh1 nin0).keep zhg (ninS (nL (lL (lL zfn.lt (lT zg5.1 zgk.1)) (Nat.le_of_eq zgv.symm))) nin0))
              have zhq : Fld Z zha zfj "com/example/tophat_ledger/tophatledger/HoldingGroup" "year" "I" (.int 0) := ((((zft.keep zg5 nin0).keep zgk (ninS (nL (lL zfn.lt (Nat.le_of_eq zfz.symm))) nin0)).keep zh1 nin0).keep zhg (ninS (nL (lL (lL zfn.lt (lT zg5.1 zgk.1)) (Nat.le_of_eq zgv.symm))) nin0))
              have zhr : Fld Z zha zfj "com/example/tophat_ledger/tophatledger/HoldingGroup" "source" "Ljava/lang/String;" .null := ((((zfu.keep zg5 nin0).keep zgk (ninS (nL (lL zfn.lt (Nat.le_of_eq zfz.symm))) nin0)).keep zh1 nin0).keep zhg (ninS (nL (lL (lL zfn.lt (lT zg5.1 zgk.1)) (Nat.le_of_eq zgv.symm))) nin0))
              have zhs : Fld Z zha zfj "com/example/tophat_ledger/tophatledger/HoldingGroup" "hash" "I" (.int 0) := ((((zfv.keep zg5 nin0).keep zgk (ninS (nL (lL zfn.lt (Nat.le_of_eq zfz.symm))) nin0)).keep zh1 nin0).keep zhg (ninS (nL (lL (lL zfn.lt (lT zg5.1 zgk.1)) (Nat.le_of_eq zgv.symm))) nin0))
              have zht : Str Z zha zfy t_1337 kb_1338 (txt p2) := ((zgm.keep zh1 nin0 nin0).keep zhg (ninS (nL (lL (lL zg2.lt (zgk.1)) (Nat.le_of_eq zgv.symm))) nin0) (ninS (nL (lL zgm.ltb (Nat.le_of_eq zgv.symm))) nin0))
              have zhu : (2 ≤ (txt p2).length → Exa Z zha t_1337 "[B") := (fun q => ((fun q => (zgn q).keep zh1) q).keep zhg)
              have zhv : Fld Z zha zfy "java/lang/String" "hash" "I" (.int 0) := ((zgo.keep zh1 nin0).keep zhg (ninS (nL (lL (lL zg2.lt (zgk.1)) (Nat.le_of_eq zgv.symm))) nin0))
              have zhw : Fld Z zha zfy "java/lang/String" "hashIsZero" "Z" (.int 0) := ((zgp.keep zh1 nin0).keep zhg (ninS (nL (lL (lL zg2.lt (zgk.1)) (Nat.le_of_eq zgv.symm))) nin0))
              have zhx : Old Z n0 zha := (zh8.keep zhg (allS (lT (lT Z0 (zgq.1)) (Nat.le_of_eq zgv.symm)) all0))
              have zhy : Exa Z zha zfy "java/lang/String" := (((zg2.keep zgk).keep zh1).keep zhg)
              have zhz : Exa Z zha zgu "java/lang/String" := (zgy.keep zhg)
              refine Jvm.Q9.Aim.callC (argsL := [(.ref zfy), (.int zb2), (.ref zgu)]) (rest := [(.ref zfj)]) zhd hx hZ hml hown rfl (wI hw 29 rfl) (wI hw 30 rfl) (wI hw 31 rfl) (by decide) (fun vm0 hZ => Jvm.Y9.Con.back (s := s.setVm vm0) (W := 1) (own_hg l Z a0 hw zfj zb2 (.null) (.int 0) (.null) (.int 0) zfy t_1337 kb_1338 (txt p2) zgu t_1371 kb_1372 (txt p5) zha n0 (lT Z0 (zhm.1)) (lT (lT Z0 (zdz.1)) (Nat.le_of_eq zfk.symm)) (lT (lT Z0 (zfr.1)) (Nat.le_of_eq zfz.symm)) (lT (lT Z0 (zgq.1)) (Nat.le_of_eq zgv.symm)) zho zhp zhq zhr zhs zht zhu zhv zhw zhi zhj zhk zhl zhx (nL (lL (lL zg2.lt (zgk.1)) (Nat.le_of_eq zgv.symm))) (Jvm.Q9.ori_ne zgl (lT (lT Z0 (zfr.1)) (Nat.le_of_eq zfz.symm)) (Jvm.Q9.nl_step (Jvm.Q9.nl_new zd0.ltL (lT (lT zds.1 zfq.1) (Nat.le_of_eq zfz.symm))) zgi zg2.lt) zg2.lt) (nL (lL zgm.ltb (Nat.le_of_eq zgv.symm))) (Jvm.Q9.ori_ne zhh (lT (lT Z0 (zfr.1)) (Nat.le_of_eq zfz.symm)) (Jvm.Q9.nl_step (Jvm.Q9.nl_step (Jvm.Q9.nl_new zd0.ltL (lT (lT zds.1 zfq.1) (Nat.le_of_eq zfz.symm))) zgi zg2.lt) zhe (lL zg2.lt (lT zgk.1 zh1.1))) (lL zg2.lt (lT zgk.1 zh1.1))) (Jvm.Q9.ori_ne zhh (lT (lT Z0 (zgq.1)) (Nat.le_of_eq zgv.symm)) (Jvm.Q9.nl_step (Jvm.Q9.nl_new zgh.ltL (lT (Nat.le_refl _) (Nat.le_of_eq zgv.symm))) zhe zgy.lt) zgy.lt) (txt_len _) (txt_len _) (Jvm.Q9.ori_ne zgl (lT (lT Z0 (zdz.1)) (Nat.le_of_eq zfk.symm)) (Jvm.Q9.nl_step (Jvm.Q9.nl_new zd0.ltL (lT (zds.1) (Nat.le_of_eq zfk.symm))) zgi (lL zfn.lt (zg5.1))) (lL zfn.lt (zg5.1))) (Jvm.Q9.ori_ne zhh (lT (lT Z0 (zdz.1)) (Nat.le_of_eq zfk.symm)) (Jvm.Q9.nl_step (Jvm.Q9.nl_step (Jvm.Q9.nl_new zd0.ltL (lT (zds.1) (Nat.le_of_eq zfk.symm))) zgi (lL zfn.lt (zg5.1))) zhe (lL zfn.lt (lT (lT zg5.1 zgk.1) zh1.1))) (lL zfn.lt (lT (lT zg5.1 zgk.1) zh1.1))) G GI) hZ (wI hw 31 rfl) (wI hw 7 rfl) (by decide) (by decide)) (fun _ _ ⟨_, q, _, _, _, _, _, _⟩ => q) (allS (Jvm.Q9.nl_step (Jvm.Q9.nl_step (Jvm.Q9.nl_new zd0.ltL (lT (zds.1) (Nat.le_of_eq zfk.symm))) zgi (lL zfn.lt (zg5.1))) zhe (lL zfn.lt (lT (lT zg5.1 zgk.1) zh1.1))) (allS (Jvm.Q9.nl_step (Jvm.Q9.nl_step (Jvm.Q9.nl_new zd0.ltL (lT (lT zds.1 zfq.1) (Nat.le_of_eq zfz.symm))) zgi zg2.lt) zhe (lL zg2.lt (lT zgk.1 zh1.1))) (allS (Jvm.Q9.nl_step (Jvm.Q9.nl_new zgh.ltL (lT (Nat.le_refl _) (Nat.le_of_eq zgv.symm))) zhe zgy.lt) all0))) rfl pd__28Ljava_2flang_2fString_3bILjava_2flang_2fString_3b_29V rfl (Nat.le_of_eq rfl) (hb hby at_199) (by decide) (by decide) ?_
              intro zi0 zi1 zi2 zi3 zi4
              obtain ⟨rfl, zi5, zi6, zi7, zi8, zi9, zia, zib⟩ := zi4
              have zic : Keep h0 zi1 [] := zhm.trans zi5 (allS (Or.inr (lT (zdz.1) (Nat.le_of_eq zfk.symm))) (allS (Or.inr (lT (zfr.1) (Nat.le_of_eq zfz.symm))) (allS (Or.inr (lT (zgq.1) (Nat.le_of_eq zgv.symm))) all0)))
              have H := zi3.here
              refine Jvm.Q9.Aim.of (T' := zi0) (g' := (mkF m 207 #[.val (.int p1), .val (.int p2), .val (.int p3), .val (.int p4), .val (.int p5), .val (.int p6), .val (.ref c_676), .val (.ref c_690), .val (.ref c_703), .val (.ref c_1119), .val (.int zb2), .val (.ref zb6), .val (.int (((p6.toUInt32 >>> ((21 : Int32) &&& 31).toUInt32).toInt32) &&& (7 : Int32))), .val (.ref zfj), .unset] [(.int p3), (.int zb2)])) (fun tgt kt => ?_) ?_
              · refine XS.astore H hx rfl (hb hby at_202) rfl rfl (l' := #[.val (.int p1), .val (.int p2), .val (.int p3), .val (.int p4), .val (.int p5), .val (.int p6), .val (.ref c_676), .val (.ref c_690), .val (.ref c_703), .val (.ref c_1119), .val (.int zb2), .val (.ref zb6), .val (.int (((p6.toUInt32 >>> ((21 : Int32) &&& 31).toUInt32).toInt32) &&& (7 : Int32))), .val (.ref zfj), .unset]) rfl ?_
                refine XS.iload H hx rfl (hb hby at_204) rfl ?_
                refine XS.iloadN H hx rfl (hb hby at_206) rfl ?_
                exact kt
              by_cases zid : zb2 = p3
              · skip
                have H := zi3.here
                refine Jvm.Q9.Aim.of (T' := zi0) (g' := (mkF m 214 #[.val (.int p1), .val (.int p2), .val (.int p3), .val (.int p4), .val (.int p5), .val (.int p6), .val (.ref c_676), .val (.ref c_690), .val (.ref c_703), .val (.ref c_1119), .val (.int zb2), .val (.ref zb6), .val (.int (((p6.toUInt32 >>> ((21 : Int32) &&& 31).toUInt32).toInt32) &&& (7 : Int32))), .val (.ref zfj), .unset] [(.ref c_690), (.ref c_676)])) (fun tgt kt => ?_) ?_
                · refine XS.icmpNo H hx rfl (hb hby at_207) rfl (teq zid).2 ?_
                  refine XS.aload H hx rfl (hb hby at_210) rfl rfl ?_
                  refine XS.aload H hx rfl (hb hby at_212) rfl rfl ?_
                  exact kt
                have zie : Arv Z zi1 c_676 kC_677 .char (Int32.ofNat (txt p1).length) ((txt p1).map Value.int) (.int 0) := ((((((((((zby.keep zc7 (ninS (nL (lL (lL z7.lt (lT (lT (lT zf.1 zo.1) zax.1) zbd.1)) (Nat.le_of_eq zbm.symm))) nin0)).keep zco nin0).keep zd3 (ninS (nL (lL (lL z7.lt (lT (lT (lT (lT (lT zf.1 zo.1) zax.1) zbd.1) zbs.1) zc7.1)) (Nat.le_of_eq zci.symm))) nin0)).keep zds (ninS (nL (lL (lL z7.lt (lT (lT zf.1 zo.1) zax.1)) (Nat.le_of_eq zb7.symm))) (ninS (nL (lL (lL z7.lt (lT (lT (lT zf.1 zo.1) zax.1) zbd.1)) (Nat.le_of_eq zbm.symm))) (ninS (nL (lL (lL z7.lt (lT (lT (lT (lT (lT zf.1 zo.1) zax.1) zbd.1) zbs.1) zc7.1)) (Nat.le_of_eq zci.symm))) nin0)))).keep zfq nin0).keep zg5 nin0).keep zgk (ninS (nL (lL (lL z7.lt (lT (lT (lT (lT (lT (lT (lT (lT (lT zf.1 zo.1) zax.1) zbd.1) zbs.1) zc7.1) zco.1) zd3.1) zds.1) zfq.1)) (Nat.le_of_eq zfz.symm))) nin0)).keep zh1 nin0).keep zhg (ninS (nL (lL (lL z7.lt (lT (lT (lT (lT (lT (lT (lT (lT (lT (lT (lT zf.1 zo.1) zax.1) zbd.1) zbs.1) zc7.1) zco.1) zd3.1) zds.1) zfq.1) zg5.1) zgk.1)) (Nat.le_of_eq zgv.symm))) nin0)).keep zi5 (ninS (nL (lL (lL z7.lt (lT (lT (lT (lT (lT (lT (lT (lT zf.1 zo.1) zax.1) zbd.1) zbs.1) zc7.1) zco.1) zd3.1) zds.1)) (Nat.le_of_eq zfk.symm))) (ninS (nL (lL (lL z7.lt (lT (lT (lT (lT (lT (lT (lT (lT (lT zf.1 zo.1) zax.1) zbd.1) zbs.1) zc7.1) zco.1) zd3.1) zds.1) zfq.1)) (Nat.le_of_eq zfz.symm))) (ninS (nL (lL (lL z7.lt (lT (lT (lT (lT (lT (lT (lT (lT (lT (lT (lT zf.1 zo.1) zax.1) zbd.1) zbs.1) zc7.1) zco.1) zd3.1) zds.1) zfq.1) zg5.1) zgk.1)) (Nat.le_of_eq zgv.symm))) nin0))))
                have zif : Arv Z zi1 c_690 kC_691 .char (Int32.ofNat (txt p2).length) ((txt p2).map Value.int) (.int 0) := ((((zgb.keep zgk (ninS (nL (lL (lL zh.lt (lT (lT (lT (lT (lT (lT (lT (lT zo.1 zax.1) zbd.1) zbs.1) zc7.1) zco.1) zd3.1) zds.1) zfq.1)) (Nat.le_of_eq zfz.symm))) nin0)).keep zh1 nin0).keep zhg (ninS (nL (lL (lL zh.lt (lT (lT (lT (lT (lT (lT (lT (lT (lT (lT zo.1 zax.1) zbd.1) zbs.1) zc7.1) zco.1) zd3.1) zds.1) zfq.1) zg5.1) zgk.1)) (Nat.le_of_eq zgv.symm))) nin0)).keep zi5 (ninS (nL (lL (lL zh.lt (lT (lT (lT (lT (lT (lT (lT zo.1 zax.1) zbd.1) zbs.1) zc7.1) zco.1) zd3.1) zds.1)) (Nat.le_of_eq zfk.symm))) (ninS (nL (lL (lL zh.lt (lT (lT (lT (lT (lT (lT (lT (lT zo.1 zax.1) zbd.1) zbs.1) zc7.1) zco.1) zd3.1) zds.1) zfq.1)) (Nat.le_of_eq zfz.symm))) (ninS (nL (lL (lL zh.lt (lT (lT (lT (lT (lT (lT (lT (lT (lT (lT zo.1 zax.1) zbd.1) zbs.1) zc7.1) zco.1) zd3.1) zds.1) zfq.1) zg5.1) zgk.1)) (Nat.le_of_eq zgv.symm))) nin0))))
                refine Jvm.Q9.Aim.callS (argsL := [(.ref c_676), (.ref c_690)]) (rest := []) zi3 hx hZ hml hown (wI hw 88 rfl) (wI hw 89 rfl) (wI hw 2 rfl) (wI hw 90 rfl) (by decide) (fun vm0 hZ => Jvm.Y9.Con.back (s := s.setVm vm0) (W := 0) (own_same l Z a0 hw c_676 kC_677 (txt p1) c_690 kC_691 (txt p2) zi1 n0 (lT Z0 (zic.1)) zie zif (txt_len _) (txt_len _)) hZ (wI hw 90 rfl) (wI hw 2 rfl) (by decide) (by decide)) (fun _ _ ⟨_, q⟩ => (by subst q; exact Keep.refl _ [])) all0 rfl pd__28_5bC_5bC_29Z rfl (Nat.le_of_eq rfl) (hb hby at_214) (by decide) (by decide) ?_
                intro zig zih zii zij zik
                obtain ⟨rfl, rfl⟩ := zik
                by_cases zil : (if (txt p1) = (txt p2) then (1 : Int32) else (0 : Int32)) = (0 : Int32)
                · skip
                  have H := zij.here
                  refine Jvm.Q9.Aim.of (T' := zig) (g' := (mkF m 241 #[.val (.int p1), .val (.int p2), .val (.int p3), .val (.int p4), .val (.int p5), .val (.int p6), .val (.ref c_676), .val (.ref c_690), .val (.ref c_703), .val (.ref c_1119), .val (.int zb2), .val (.ref zb6), .val (.int (((p6.toUInt32 >>> ((21 : Int32) &&& 31).toUInt32).toInt32) &&& (7 : Int32))), .val (.ref zfj), .val (.int 0)] [(.ref zfj), (.ref zb6)])) (fun tgt kt => ?_) ?_
                  · refine XS.ifYes H hx rfl (pc0 := 217) (pc' := 234) rfl (hb hby at_217) rfl ((if0 _ _).trans (teq zil).1) (by decide) (by decide) ?_
                    refine XS.iconst H hx rfl (hb hby at_234) ?_
                    refine XS.istore H hx rfl (hb hby at_235) rfl (l' := #[.val (.int p1), .val (.int p2), .val (.int p3), .val (.int p4), .val (.int p5), .val (.int p6), .val (.ref c_676), .val (.ref c_690), .val (.ref c_703), .val (.ref c_1119), .val (.int zb2), .val (.ref zb6), .val (.int (((p6.toUInt32 >>> ((21 : Int32) &&& 31).toUInt32).toInt32) &&& (7 : Int32))), .val (.ref zfj), .val (.int 0)]) rfl ?_
                    refine XS.aload H hx rfl (hb hby at_237) rfl rfl ?_
                    refine XS.aload H hx rfl (hb hby at_239) rfl rfl ?_
                    exact kt
                  have zim : Exa Z zi1 zb6 "com/example/tophat_ledger/tophatledger/HoldingGroup" := ((((((zdt.keep zfq).keep zg5).keep zgk).keep zh1).keep zhg).keep zi5)
                  have zin : Fld Z zi1 zb6 "com/example/tophat_ledger/tophatledger/HoldingGroup" "participant" "Ljava/lang/String;" (.ref zbl) := ((((((zdu.keep zfq nin0).keep zg5 nin0).keep zgk (ninS (nL (lL (lL zba.lt (lT (lT (lT (lT (lT zbs.1 zc7.1) zco.1) zd3.1) zds.1) zfq.1)) (Nat.le_of_eq zfz.symm))) nin0)).keep zh1 nin0).keep zhg (ninS (nL (lL (lL zba.lt (lT (lT (lT (lT (lT (lT (lT zbs.1 zc7.1) zco.1) zd3.1) zds.1) zfq.1) zg5.1) zgk.1)) (Nat.le_of_eq zgv.symm))) nin0)).keep zi5 (ninS (nL (lL (lL zba.lt (lT (lT (lT (lT zbs.1 zc7.1) zco.1) zd3.1) zds.1)) (Nat.le_of_eq zfk.symm))) (ninS (nL (lL (lL zba.lt (lT (lT (lT (lT (lT zbs.1 zc7.1) zco.1) zd3.1) zds.1) zfq.1)) (Nat.le_of_eq zfz.symm))) (ninS (nL (lL (lL zba.lt (lT (lT (lT (lT (lT (lT (lT zbs.1 zc7.1) zco.1) zd3.1) zds.1) zfq.1) zg5.1) zgk.1)) (Nat.le_of_eq zgv.symm))) nin0))))
                  have zio : Fld Z zi1 zb6 "com/example/tophat_ledger/tophatledger/HoldingGroup" "year" "I" (.int p3) := ((((((zdv.keep zfq nin0).keep zg5 nin0).keep zgk (ninS (nL (lL (lL zba.lt (lT (lT (lT (lT (lT zbs.1 zc7.1) zco.1) zd3.1) zds.1) zfq.1)) (Nat.le_of_eq zfz.symm))) nin0)).keep zh1 nin0).keep zhg (ninS (nL (lL (lL zba.lt (lT (lT (lT (lT (lT (lT (lT zbs.1 zc7.1) zco.1) zd3.1) zds.1) zfq.1) zg5.1) zgk.1)) (Nat.le_of_eq zgv.symm))) nin0)).keep zi5 (ninS (nL (lL (lL zba.lt (lT (lT (lT (lT zbs.1 zc7.1) zco.1) zd3.1) zds.1)) (Nat.le_of_eq zfk.symm))) (ninS (nL (lL (lL zba.lt (lT (lT (lT (lT (lT zbs.1 zc7.1) zco.1) zd3.1) zds.1) zfq.1)) (Nat.le_of_eq zfz.symm))) (ninS (nL (lL (lL zba.lt (lT (lT (lT (lT (lT (lT (lT zbs.1 zc7.1) zco.1) zd3.1) zds.1) zfq.1) zg5.1) zgk.1)) (Nat.le_of_eq zgv.symm))) nin0))))
                  have zip : Fld Z zi1 zb6 "com/example/tophat_ledger/tophatledger/HoldingGroup" "source" "Ljava/lang/String;" (.ref zch) := ((((((zdw.keep zfq nin0).keep zg5 nin0).keep zgk (ninS (nL (lL (lL zba.lt (lT (lT (lT (lT (lT zbs.1 zc7.1) zco.1) zd3.1) zds.1) zfq.1)) (Nat.le_of_eq zfz.symm))) nin0)).keep zh1 nin0).keep zhg (ninS (nL (lL (lL zba.lt (lT (lT (lT (lT (lT (lT (lT zbs.1 zc7.1) zco.1) zd3.1) zds.1) zfq.1) zg5.1) zgk.1)) (Nat.le_of_eq zgv.symm))) nin0)).keep zi5 (ninS (nL (lL (lL zba.lt (lT (lT (lT (lT zbs.1 zc7.1) zco.1) zd3.1) zds.1)) (Nat.le_of_eq zfk.symm))) (ninS (nL (lL (lL zba.lt (lT (lT (lT (lT (lT zbs.1 zc7.1) zco.1) zd3.1) zds.1) zfq.1)) (Nat.le_of_eq zfz.symm))) (ninS (nL (lL (lL zba.lt (lT (lT (lT (lT (lT (lT (lT zbs.1 zc7.1) zco.1) zd3.1) zds.1) zfq.1) zg5.1) zgk.1)) (Nat.le_of_eq zgv.symm))) nin0))))
                  have ziq : Str Z zi1 zbl t_1166 kb_1167 (txt p1) := ((((((zdx.keep zfq nin0 nin0).keep zg5 nin0 nin0).keep zgk (ninS (nL (lL (lL zbp.lt (lT (lT (lT (lT zc7.1 zco.1) zd3.1) zds.1) zfq.1)) (Nat.le_of_eq zfz.symm))) nin0) (ninS (nL (lL (lL zc9.ltb (lT (lT (lT zco.1 zd3.1) zds.1) zfq.1)) (Nat.le_of_eq zfz.symm))) nin0)).keep zh1 nin0 nin0).keep zhg (ninS (nL (lL (lL zbp.lt (lT (lT (lT (lT (lT (lT zc7.1 zco.1) zd3.1) zds.1) zfq.1) zg5.1) zgk.1)) (Nat.le_of_eq zgv.symm))) nin0) (ninS (nL (lL (lL zc9.ltb (lT (lT (lT (lT (lT zco.1 zd3.1) zds.1) zfq.1) zg5.1) zgk.1)) (Nat.le_of_eq zgv.symm))) nin0)).keep zi5 (ninS (nL (lL (lL zbp.lt (lT (lT (lT zc7.1 zco.1) zd3.1) zds.1)) (Nat.le_of_eq zfk.symm))) (ninS (nL (lL (lL zbp.lt (lT (lT (lT (lT zc7.1 zco.1) zd3.1) zds.1) zfq.1)) (Nat.le_of_eq zfz.symm))) (ninS (nL (lL (lL zbp.lt (lT (lT (lT (lT (lT (lT zc7.1 zco.1) zd3.1) zds.1) zfq.1) zg5.1) zgk.1)) (Nat.le_of_eq zgv.symm))) nin0))) (ninS (nL (lL (lL zc9.ltb (lT (lT zco.1 zd3.1) zds.1)) (Nat.le_of_eq zfk.symm))) (ninS (nL (lL (lL zc9.ltb (lT (lT (lT zco.1 zd3.1) zds.1) zfq.1)) (Nat.le_of_eq zfz.symm))) (ninS (nL (lL (lL zc9.ltb (lT (lT (lT (lT (lT zco.1 zd3.1) zds.1) zfq.1) zg5.1) zgk.1)) (Nat.le_of_eq zgv.symm))) nin0))))
                  have zir : Str Z zi1 zch t_1200 kb_1201 (txt p5) := ((((((zdy.keep zfq nin0 nin0).keep zg5 nin0 nin0).keep zgk (ninS (nL (lL (lL zcl.lt (lT (lT zd3.1 zds.1) zfq.1)) (Nat.le_of_eq zfz.symm))) nin0) (ninS (nL (lL (lL zd5.ltb (lT zds.1 zfq.1)) (Nat.le_of_eq zfz.symm))) nin0)).keep zh1 nin0 nin0).keep zhg (ninS (nL (lL (lL zcl.lt (lT (lT (lT (lT zd3.1 zds.1) zfq.1) zg5.1) zgk.1)) (Nat.le_of_eq zgv.symm))) nin0) (ninS (nL (lL (lL zd5.ltb (lT (lT (lT zds.1 zfq.1) zg5.1) zgk.1)) (Nat.le_of_eq zgv.symm))) nin0)).keep zi5 (ninS (nL (lL (lL zcl.lt (lT zd3.1 zds.1)) (Nat.le_of_eq zfk.symm))) (ninS (nL (lL (lL zcl.lt (lT (lT zd3.1 zds.1) zfq.1)) (Nat.le_of_eq zfz.symm))) (ninS (nL (lL (lL zcl.lt (lT (lT (lT (lT zd3.1 zds.1) zfq.1) zg5.1) zgk.1)) (Nat.le_of_eq zgv.symm))) nin0))) (ninS (nL (lL (lL zd5.ltb (zds.1)) (Nat.le_of_eq zfk.symm))) (ninS (nL (lL (lL zd5.ltb (lT zds.1 zfq.1)) (Nat.le_of_eq zfz.symm))) (ninS (nL (lL (lL zd5.ltb (lT (lT (lT zds.1 zfq.1) zg5.1) zgk.1)) (Nat.le_of_eq zgv.symm))) nin0))))
                  have zis : Old Z n0 zi1 := (zhx.keep zi5 (allS (lT (lT Z0 (zdz.1)) (Nat.le_of_eq zfk.symm)) (allS (lT (lT Z0 (zfr.1)) (Nat.le_of_eq zfz.symm)) (allS (lT (lT Z0 (zgq.1)) (Nat.le_of_eq zgv.symm)) all0))))
                  refine Jvm.Q9.Aim.callV (argsL := [(.ref zfj)]) (rest := []) (y := (⟨"com/example/tophat_ledger/tophatledger/HoldingGroup", "equals", "(Ljava/lang/Object;)Z"⟩ : MethodName)) (z := (⟨"com/example/tophat_ledger/tophatledger/HoldingGroup", "equals", "(Ljava/lang/Object;)Z"⟩ : MethodName)) zij hx hZ hml hown (wI hw 91 rfl) (wI hw 92 rfl) (fun vm0 hZ => notFace_of_selects (args := #[]) (mvT (s := s.setVm vm0) hZ (wI hw 94 rfl))) (wI hw 94 rfl) (wI hw 93 rfl) (by decide) zim (fun vm0 hZ => Jvm.Y9.Con.back (s := s.setVm vm0) (W := 0) (own_eqH l Z a0 hw zb6 p3 zbl t_1166 kb_1167 (txt p1) zch t_1200 kb_1201 (txt p5) zfj zb2 zfy t_1337 kb_1338 (txt p2) zgu t_1371 kb_1372 (txt p5) zi1 n0 (lT Z0 (zic.1)) zim zin zio zip ziq zir zi6 zi7 zi8 zi9 zia zib zis G) hZ (wI hw 95 rfl) (wI hw 7 rfl) (by decide) (by decide)) (fun _ _ ⟨_, q⟩ => (by subst q; exact Keep.refl _ [])) all0 rfl pd__28Ljava_2flang_2fObject_3b_29Z rfl (Nat.le_of_eq rfl) (hb hby at_241) (by decide) (by decide) ?_
                  intro zit ziu ziv ziw zix
                  obtain ⟨rfl, rfl⟩ := zix
                  have H := ziw.here
                  refine Jvm.Q9.Aim.of (T' := zit) (g' := (mkF m 253 #[.val (.int p1), .val (.int p2), .val (.int p3), .val (.int p4), .val (.int p5), .val (.int p6), .val (.ref c_676), .val (.ref c_690), .val (.ref c_703), .val (.ref c_1119), .val (.int zb2), .val (.ref zb6), .val (.int (((p6.toUInt32 >>> ((21 : Int32) &&& 31).toUInt32).toInt32) &&& (7 : Int32))), .val (.ref zfj), .val (.int 0)] [(.ref zb6), (.ref zfj)])) (fun tgt kt => ?_) ?_
                  · refine XS.iload H hx rfl (hb hby at_244) rfl ?_
                    refine XS.icmpNo H hx rfl (hb hby at_246) rfl (teq (if_neg (fun q => (fun q => by rw [if_pos q] at zil; cases zil) q.2.1))).2 ?_
                    refine XS.aload H hx rfl (hb hby at_249) rfl rfl ?_
                    refine XS.aload H hx rfl (hb hby at_251) rfl rfl ?_
                    exact kt
                  refine Jvm.Q9.Aim.callV (argsL := [(.ref zb6)]) (rest := []) (y := (⟨"com/example/tophat_ledger/tophatledger/HoldingGroup", "equals", "(Ljava/lang/Object;)Z"⟩ : MethodName)) (z := (⟨"com/example/tophat_ledger/tophatledger/HoldingGroup", "equals", "(Ljava/lang/Object;)Z"⟩ : MethodName)) ziw hx hZ hml hown (wI hw 91 rfl) (wI hw 92 rfl) (fun vm0 hZ => notFace_of_selects (args := #[]) (mvT (s := s.setVm vm0) hZ (wI hw 94 rfl))) (wI hw 94 rfl) (wI hw 93 rfl) (by decide) zi6 (fun vm0 hZ => Jvm.Y9.Con.back (s := s.setVm vm0) (W := 0) (own_eqH l Z a0 hw zfj zb2 zfy t_1337 kb_1338 (txt p2) zgu t_1371 kb_1372 (txt p5) zb6 p3 zbl t_1166 kb_1167 (txt p1) zch t_1200 kb_1201 (txt p5) zi1 n0 (lT Z0 (zic.1)) zi6 zi7 zi8 zi9 zia zib zim zin zio zip ziq zir zis G) hZ (wI hw 95 rfl) (wI hw 7 rfl) (by decide) (by decide)) (fun _ _ ⟨_, q⟩ => (by subst q; exact Keep.refl _ [])) all0 rfl pd__28Ljava_2flang_2fObject_3b_29Z rfl (Nat.le_of_eq rfl) (hb hby at_253) (by decide) (by decide) ?_
                  intro ziy ziz zj0 zj1 zj2
                  obtain ⟨rfl, rfl⟩ := zj2
                  have H := zj1.here
                  refine Jvm.Q9.Aim.of (T' := ziy) (g' := (mkF m 266 #[.val (.int p1), .val (.int p2), .val (.int p3), .val (.int p4), .val (.int p5), .val (.int p6), .val (.ref c_676), .val (.ref c_690), .val (.ref c_703), .val (.ref c_1119), .val (.int zb2), .val (.ref zb6), .val (.int (((p6.toUInt32 >>> ((21 : Int32) &&& 31).toUInt32).toInt32) &&& (7 : Int32))), .val (.ref zfj), .val (.int 0)] [(.int 1)])) (fun tgt kt => ?_) ?_
                  · refine XS.iload H hx rfl (hb hby at_256) rfl ?_
                    refine XS.icmpNo H hx rfl (hb hby at_258) rfl (teq (if_neg (fun q => (fun q => by rw [if_pos (Eq.symm q)] at zil; cases zil) q.2.1))).2 ?_
                    refine XS.iconst H hx rfl (hb hby at_261) ?_
                    refine XS.goto H hx rfl (pc0 := 262) (pc' := 266) rfl (hb hby at_262) (by decide) (by decide) ?_
                    exact kt
                  exact Jvm.Q9.Aim.retN (t := .boolean) zj1 hx hlk hret (by simp) (hb hby at_266) (by decide) (by decide) zhn ⟨rfl, zic⟩
                · skip
                  have H := zij.here
                  refine Jvm.Q9.Aim.of (T' := zig) (g' := (mkF m 224 #[.val (.int p1), .val (.int p2), .val (.int p3), .val (.int p4), .val (.int p5), .val (.int p6), .val (.ref c_676), .val (.ref c_690), .val (.ref c_703), .val (.ref c_1119), .val (.int zb2), .val (.ref zb6), .val (.int (((p6.toUInt32 >>> ((21 : Int32) &&& 31).toUInt32).toInt32) &&& (7 : Int32))), .val (.ref zfj), .unset] [(.ref c_1119), (.ref c_703)])) (fun tgt kt => ?_) ?_
                  · refine XS.ifNo H hx rfl (hb hby at_217) rfl ((if0 _ _).trans (feq zil).1) ?_
                    refine XS.aload H hx rfl (hb hby at_220) rfl rfl ?_
                    refine XS.aload H hx rfl (hb hby at_222) rfl rfl ?_
                    exact kt
                  have zj3 : Arv Z zi1 c_703 kC_704 .char (Int32.ofNat (txt p5).length) ((txt p5).map Value.int) (.int 0) := ((((((((zcu.keep zd3 (ninS (nL (lL (lL zq.lt (lT (lT (lT zax.1 zbd.1) zbs.1) zc7.1)) (Nat.le_of_eq zci.symm))) nin0)).keep zds (ninS (nL (lL (lL zq.lt (zax.1)) (Nat.le_of_eq zb7.symm))) (ninS (nL (lL (lL zq.lt (lT zax.1 zbd.1)) (Nat.le_of_eq zbm.symm))) (ninS (nL (lL (lL zq.lt (lT (lT (lT zax.1 zbd.1) zbs.1) zc7.1)) (Nat.le_of_eq zci.symm))) nin0)))).keep zfq nin0).keep zg5 nin0).keep zgk (ninS (nL (lL (lL zq.lt (lT (lT (lT (lT (lT (lT (lT zax.1 zbd.1) zbs.1) zc7.1) zco.1) zd3.1) zds.1) zfq.1)) (Nat.le_of_eq zfz.symm))) nin0)).keep zh1 nin0).keep zhg (ninS (nL (lL (lL zq.lt (lT (lT (lT (lT (lT (lT (lT (lT (lT zax.1 zbd.1) zbs.1) zc7.1) zco.1) zd3.1) zds.1) zfq.1) zg5.1) zgk.1)) (Nat.le_of_eq zgv.symm))) nin0)).keep zi5 (ninS (nL (lL (lL zq.lt (lT (lT (lT (lT (lT (lT zax.1 zbd.1) zbs.1) zc7.1) zco.1) zd3.1) zds.1)) (Nat.le_of_eq zfk.symm))) (ninS (nL (lL (lL zq.lt (lT (lT (lT (lT (lT (lT (lT zax.1 zbd.1) zbs.1) zc7.1) zco.1) zd3.1) zds.1) zfq.1)) (Nat.le_of_eq zfz.symm))) (ninS (nL (lL (lL zq.lt (lT (lT (lT (lT (lT (lT (lT (lT (lT zax.1 zbd.1) zbs.1) zc7.1) zco.1) zd3.1) zds.1) zfq.1) zg5.1) zgk.1)) (Nat.le_of_eq zgv.symm))) nin0))))
                  have zj4 : Arv Z zi1 c_1119 kC_1120 .char (Int32.ofNat (txt p5).length) ((txt p5).map Value.int) (.int 0) := ((zh7.keep zhg (ninS (nL (lL (lL zaz.lt (lT (lT (lT (lT (lT (lT (lT (lT zbd.1 zbs.1) zc7.1) zco.1) zd3.1) zds.1) zfq.1) zg5.1) zgk.1)) (Nat.le_of_eq zgv.symm))) nin0)).keep zi5 (ninS (nL (lL (lL zaz.lt (lT (lT (lT (lT (lT zbd.1 zbs.1) zc7.1) zco.1) zd3.1) zds.1)) (Nat.le_of_eq zfk.symm))) (ninS (nL (lL (lL zaz.lt (lT (lT (lT (lT (lT (lT zbd.1 zbs.1) zc7.1) zco.1) zd3.1) zds.1) zfq.1)) (Nat.le_of_eq zfz.symm))) (ninS (nL (lL (lL zaz.lt (lT (lT (lT (lT (lT (lT (lT (lT zbd.1 zbs.1) zc7.1) zco.1) zd3.1) zds.1) zfq.1) zg5.1) zgk.1)) (Nat.le_of_eq zgv.symm))) nin0))))
                  refine Jvm.Q9.Aim.callS (argsL := [(.ref c_703), (.ref c_1119)]) (rest := []) zij hx hZ hml hown (wI hw 88 rfl) (wI hw 89 rfl) (wI hw 2 rfl) (wI hw 90 rfl) (by decide) (fun vm0 hZ => Jvm.Y9.Con.back (s := s.setVm vm0) (W := 0) (own_same l Z a0 hw c_703 kC_704 (txt p5) c_1119 kC_1120 (txt p5) zi1 n0 (lT Z0 (zic.1)) zj3 zj4 (txt_len _) (txt_len _)) hZ (wI hw 90 rfl) (wI hw 2 rfl) (by decide) (by decide)) (fun _ _ ⟨_, q⟩ => (by subst q; exact Keep.refl _ [])) all0 rfl pd__28_5bC_5bC_29Z rfl (Nat.le_of_eq rfl) (hb hby at_224) (by decide) (by decide) ?_
                  intro zj5 zj6 zj7 zj8 zj9
                  obtain ⟨rfl, rfl⟩ := zj9
                  have H := zj8.here
                  refine Jvm.Q9.Aim.of (T' := zj5) (g' := (mkF m 241 #[.val (.int p1), .val (.int p2), .val (.int p3), .val (.int p4), .val (.int p5), .val (.int p6), .val (.ref c_676), .val (.ref c_690), .val (.ref c_703), .val (.ref c_1119), .val (.int zb2), .val (.ref zb6), .val (.int (((p6.toUInt32 >>> ((21 : Int32) &&& 31).toUInt32).toInt32) &&& (7 : Int32))), .val (.ref zfj), .val (.int 1)] [(.ref zfj), (.ref zb6)])) (fun tgt kt => ?_) ?_
                  · refine XS.ifNo H hx rfl (hb hby at_227) rfl ((if0 _ _).trans (feq (by rw [if_pos rfl]; decide)).1) ?_
                    refine XS.iconst H hx rfl (hb hby at_230) ?_
                    refine XS.goto H hx rfl (pc0 := 231) (pc' := 235) rfl (hb hby at_231) (by decide) (by decide) ?_
                    refine XS.istore H hx rfl (hb hby at_235) rfl (l' := #[.val (.int p1), .val (.int p2), .val (.int p3), .val (.int p4), .val (.int p5), .val (.int p6), .val (.ref c_676), .val (.ref c_690), .val (.ref c_703), .val (.ref c_1119), .val (.int zb2), .val (.ref zb6), .val (.int (((p6.toUInt32 >>> ((21 : Int32) &&& 31).toUInt32).toInt32) &&& (7 : Int32))), .val (.ref zfj), .val (.int 1)]) rfl ?_
                    refine XS.aload H hx rfl (hb hby at_237) rfl rfl ?_
                    refine XS.aload H hx rfl (hb hby at_239) rfl rfl ?_
                    exact kt
                  have zja : Exa Z zi1 zb6 "com/example/tophat_ledger/tophatledger/HoldingGroup" := ((((((zdt.keep zfq).keep zg5).keep zgk).keep zh1).keep zhg).keep zi5)
                  have zjb : Fld Z zi1 zb6 "com/example/tophat_ledger/tophatledger/HoldingGroup" "participant" "Ljava/lang/String;" (.ref zbl) := ((((((zdu.keep zfq nin0).keep zg5 nin0).keep zgk (ninS (nL (lL (lL zba.lt (lT (lT (lT (lT (lT zbs.1 zc7.1) zco.1) zd3.1) zds.1) zfq.1)) (Nat.le_of_eq zfz.symm))) nin0)).keep zh1 nin0).keep zhg (ninS (nL (lL (lL zba.lt (lT (lT (lT (lT (lT (lT (lT zbs.1 zc7.1) zco.1) zd3.1) zds.1) zfq.1) zg5.1) zgk.1)) (Nat.le_of_eq zgv.symm))) nin0)).keep zi5 (ninS (nL (lL (lL zba.lt (lT (lT (lT (lT zbs.1 zc7.1) zco.1) zd3.1) zds.1)) (Nat.le_of_eq zfk.symm))) (ninS (nL (lL (lL zba.lt (lT (lT (lT (lT (lT zbs.1 zc7.1) zco.1) zd3.1) zds.1) zfq.1)) (Nat.le_of_eq zfz.symm))) (ninS (nL (lL (lL zba.lt (lT (lT (lT (lT (lT (lT (lT zbs.1 zc7.1) zco.1) zd3.1) zds.1) zfq.1) zg5.1) zgk.1)) (Nat.le_of_eq zgv.symm))) nin0))))
                  have zjc : Fld Z zi1 zb6 "com/example/tophat_ledger/tophatledger/HoldingGroup" "year" "I" (.int p3) := ((((((zdv.keep zfq nin0).keep zg5 nin0).keep zgk (ninS (nL (lL (lL zba.lt (lT (lT (lT (lT (lT zbs.1 zc7.1) zco.1) zd3.1) zds.1) zfq.1)) (Nat.le_of_eq zfz.symm))) nin0)).keep zh1 nin0).keep zhg (ninS (nL (lL (lL zba.lt (lT (lT (lT (lT (lT (lT (lT zbs.1 zc7.1) zco.1) zd3.1) zds.1) zfq.1) zg5.1) zgk.1)) (Nat.le_of_eq zgv.symm))) nin0)).keep zi5 (ninS (nL (lL (lL zba.lt (lT (lT (lT (lT zbs.1 zc7.1) zco.1) zd3.1) zds.1)) (Nat.le_of_eq zfk.symm))) (ninS (nL (lL (lL zba.lt (lT (lT (lT (lT (lT zbs.1 zc7.1) zco.1) zd3.1) zds.1) zfq.1)) (Nat.le_of_eq zfz.symm))) (ninS (nL (lL (lL zba.lt (lT (lT (lT (lT (lT (lT (lT zbs.1 zc7.1) zco.1) zd3.1) zds.1) zfq.1) zg5.1) zgk.1)) (Nat.le_of_eq zgv.symm))) nin0))))
                  have zjd : Fld Z zi1 zb6 "com/example/tophat_ledger/tophatledger/HoldingGroup" "source" "Ljava/lang/String;" (.ref zch) := ((((((zdw.keep zfq nin0).keep zg5 nin0).keep zgk (ninS (nL (lL (lL zba.lt (lT (lT (lT (lT (lT zbs.1 zc7.1) zco.1) zd3.1) zds.1) zfq.1)) (Nat.le_of_eq zfz.symm))) nin0)).keep zh1 nin0).keep zhg (ninS (nL (lL (lL zba.lt (lT (lT (lT (lT (lT (lT (lT zbs.1 zc7.1) zco.1) zd3.1) zds.1) zfq.1) zg5.1) zgk.1)) (Nat.le_of_eq zgv.symm))) nin0)).keep zi5 (ninS (nL (lL (lL zba.lt (lT (lT (lT (lT zbs.1 zc7.1) zco.1) zd3.1) zds.1)) (Nat.le_of_eq zfk.symm))) (ninS (nL (lL (lL zba.lt (lT (lT (lT (lT (lT zbs.1 zc7.1) zco.1) zd3.1) zds.1) zfq.1)) (Nat.le_of_eq zfz.symm))) (ninS (nL (lL (lL zba.lt (lT (lT (lT (lT (lT (lT (lT zbs.1 zc7.1) zco.1) zd3.1) zds.1) zfq.1) zg5.1) zgk.1)) (Nat.le_of_eq zgv.symm))) nin0))))
                  have zje : Str Z zi1 zbl t_1166 kb_1167 (txt p1) := ((((((zdx.keep zfq nin0 nin0).keep zg5 nin0 nin0).keep zgk (ninS (nL (lL (lL zbp.lt (lT (lT (lT (lT zc7.1 zco.1) zd3.1) zds.1) zfq.1)) (Nat.le_of_eq zfz.symm))) nin0) (ninS (nL (lL (lL zc9.ltb (lT (lT (lT zco.1 zd3.1) zds.1) zfq.1)) (Nat.le_of_eq zfz.symm))) nin0)).keep zh1 nin0 nin0).keep zhg (ninS (nL (lL (lL zbp.lt (lT (lT (lT (lT (lT (lT zc7.1 zco.1) zd3.1) zds.1) zfq.1) zg5.1) zgk.1)) (Nat.le_of_eq zgv.symm))) nin0) (ninS (nL (lL (lL zc9.ltb (lT (lT (lT (lT (lT zco.1 zd3.1) zds.1) zfq.1) zg5.1) zgk.1)) (Nat.le_of_eq zgv.symm))) nin0)).keep zi5 (ninS (nL (lL (lL zbp.lt (lT (lT (lT zc7.1 zco.1) zd3.1) zds.1)) (Nat.le_of_eq zfk.symm))) (ninS (nL (lL (lL zbp.lt (lT (lT (lT (lT zc7.1 zco.1) zd3.1) zds.1) zfq.1)) (Nat.le_of_eq zfz.symm))) (ninS (nL (lL (lL zbp.lt (lT (lT (lT (lT (lT (lT zc7.1 zco.1) zd3.1) zds.1) zfq.1) zg5.1) zgk.1)) (Nat.le_of_eq zgv.symm))) nin0))) (ninS (nL (lL (lL zc9.ltb (lT (lT zco.1 zd3.1) zds.1)) (Nat.le_of_eq zfk.symm))) (ninS (nL (lL (lL zc9.ltb (lT (lT (lT zco.1 zd3.1) zds.1) zfq.1)) (Nat.le_of_eq zfz.symm))) (ninS (nL (lL (lL zc9.ltb (lT (lT (lT (lT (lT zco.1 zd3.1) zds.1) zfq.1) zg5.1) zgk.1)) (Nat.le_of_eq zgv.symm))) nin0))))
                  have zjf : Str Z zi1 zch t_1200 kb_1201 (txt p5) := ((((((zdy.keep zfq nin0 nin0).keep zg5 nin0 nin0).keep zgk (ninS (nL (lL (lL zcl.lt (lT (lT zd3.1 zds.1) zfq.1)) (Nat.le_of_eq zfz.symm))) nin0) (ninS (nL (lL (lL zd5.ltb (lT zds.1 zfq.1)) (Nat.le_of_eq zfz.symm))) nin0)).keep zh1 nin0 nin0).keep zhg (ninS (nL (lL (lL zcl.lt (lT (lT (lT (lT zd3.1 zds.1) zfq.1) zg5.1) zgk.1)) (Nat.le_of_eq zgv.symm))) nin0) (ninS (nL (lL (lL zd5.ltb (lT (lT (lT zds.1 zfq.1) zg5.1) zgk.1)) (Nat.le_of_eq zgv.symm))) nin0)).keep zi5 (ninS (nL (lL (lL zcl.lt (lT zd3.1 zds.1)) (Nat.le_of_eq zfk.symm))) (ninS (nL (lL (lL zcl.lt (lT (lT zd3.1 zds.1) zfq.1)) (Nat.le_of_eq zfz.symm))) (ninS (nL (lL (lL zcl.lt (lT (lT (lT (lT zd3.1 zds.1) zfq.1) zg5.1) zgk.1)) (Nat.le_of_eq zgv.symm))) nin0))) (ninS (nL (lL (lL zd5.ltb (zds.1)) (Nat.le_of_eq zfk.symm))) (ninS (nL (lL (lL zd5.ltb (lT zds.1 zfq.1)) (Nat.le_of_eq zfz.symm))) (ninS (nL (lL (lL zd5.ltb (lT (lT (lT zds.1 zfq.1) zg5.1) zgk.1)) (Nat.le_of_eq zgv.symm))) nin0))))
                  have zjg : Old Z n0 zi1 := (zhx.keep zi5 (allS (lT (lT Z0 (zdz.1)) (Nat.le_of_eq zfk.symm)) (allS (lT (lT Z0 (zfr.1)) (Nat.le_of_eq zfz.symm)) (allS (lT (lT Z0 (zgq.1)) (Nat.le_of_eq zgv.symm)) all0))))
                  refine Jvm.Q9.Aim.callV (argsL := [(.ref zfj)]) (rest := []) (y := (⟨"com/example/tophat_ledger/tophatledger/HoldingGroup", "equals", "(Ljava/lang/Object;)Z"⟩ : MethodName)) (z := (⟨"com/example/tophat_ledger/tophatledger/HoldingGroup", "equals", "(Ljava/lang/Object;)Z"⟩ : MethodName)) zj8 hx hZ hml hown (wI hw 91 rfl) (wI hw 92 rfl) (fun vm0 hZ => notFace_of_selects (args := #[]) (mvT (s := s.setVm vm0) hZ (wI hw 94 rfl))) (wI hw 94 rfl) (wI hw 93 rfl) (by decide) zja (fun vm0 hZ => Jvm.Y9.Con.back (s := s.setVm vm0) (W := 0) (own_eqH l Z a0 hw zb6 p3 zbl t_1166 kb_1167 (txt p1) zch t_1200 kb_1201 (txt p5) zfj zb2 zfy t_1337 kb_1338 (txt p2) zgu t_1371 kb_1372 (txt p5) zi1 n0 (lT Z0 (zic.1)) zja zjb zjc zjd zje zjf zi6 zi7 zi8 zi9 zia zib zjg G) hZ (wI hw 95 rfl) (wI hw 7 rfl) (by decide) (by decide)) (fun _ _ ⟨_, q⟩ => (by subst q; exact Keep.refl _ [])) all0 rfl pd__28Ljava_2flang_2fObject_3b_29Z rfl (Nat.le_of_eq rfl) (hb hby at_241) (by decide) (by decide) ?_
                  intro zjh zji zjj zjk zjl
                  obtain ⟨rfl, rfl⟩ := zjl
                  have H := zjk.here
                  refine Jvm.Q9.Aim.of (T' := zjh) (g' := (mkF m 253 #[.val (.int p1), .val (.int p2), .val (.int p3), .val (.int p4), .val (.int p5), .val (.int p6), .val (.ref c_676), .val (.ref c_690), .val (.ref c_703), .val (.ref c_1119), .val (.int zb2), .val (.ref zb6), .val (.int (((p6.toUInt32 >>> ((21 : Int32) &&& 31).toUInt32).toInt32) &&& (7 : Int32))), .val (.ref zfj), .val (.int 1)] [(.ref zb6), (.ref zfj)])) (fun tgt kt => ?_) ?_
                  · refine XS.iload H hx rfl (hb hby at_244) rfl ?_
                    refine XS.icmpNo H hx rfl (hb hby at_246) rfl (teq (if_pos ⟨(Eq.symm zid), (by_contra_if zil), rfl⟩)).2 ?_
                    refine XS.aload H hx rfl (hb hby at_249) rfl rfl ?_
                    refine XS.aload H hx rfl (hb hby at_251) rfl rfl ?_
                    exact kt
                  refine Jvm.Q9.Aim.callV (argsL := [(.ref zb6)]) (rest := []) (y := (⟨"com/example/tophat_ledger/tophatledger/HoldingGroup", "equals", "(Ljava/lang/Object;)Z"⟩ : MethodName)) (z := (⟨"com/example/tophat_ledger/tophatledger/HoldingGroup", "equals", "(Ljava/lang/Object;)Z"⟩ : MethodName)) zjk hx hZ hml hown (wI hw 91 rfl) (wI hw 92 rfl) (fun vm0 hZ => notFace_of_selects (args := #[]) (mvT (s := s.setVm vm0) hZ (wI hw 94 rfl))) (wI hw 94 rfl) (wI hw 93 rfl) (by decide) zi6 (fun vm0 hZ => Jvm.Y9.Con.back (s := s.setVm vm0) (W := 0) (own_eqH l Z a0 hw zfj zb2 zfy t_1337 kb_1338 (txt p2) zgu t_1371 kb_1372 (txt p5) zb6 p3 zbl t_1166 kb_1167 (txt p1) zch t_1200 kb_1201 (txt p5) zi1 n0 (lT Z0 (zic.1)) zi6 zi7 zi8 zi9 zia zib zja zjb zjc zjd zje zjf zjg G) hZ (wI hw 95 rfl) (wI hw 7 rfl) (by decide) (by decide)) (fun _ _ ⟨_, q⟩ => (by subst q; exact Keep.refl _ [])) all0 rfl pd__28Ljava_2flang_2fObject_3b_29Z rfl (Nat.le_of_eq rfl) (hb hby at_253) (by decide) (by decide) ?_
                  intro zjm zjn zjo zjp zjq
                  obtain ⟨rfl, rfl⟩ := zjq
                  have H := zjp.here
                  refine Jvm.Q9.Aim.of (T' := zjm) (g' := (mkF m 266 #[.val (.int p1), .val (.int p2), .val (.int p3), .val (.int p4), .val (.int p5), .val (.int p6), .val (.ref c_676), .val (.ref c_690), .val (.ref c_703), .val (.ref c_1119), .val (.int zb2), .val (.ref zb6), .val (.int (((p6.toUInt32 >>> ((21 : Int32) &&& 31).toUInt32).toInt32) &&& (7 : Int32))), .val (.ref zfj), .val (.int 1)] [(.int 1)])) (fun tgt kt => ?_) ?_
                  · refine XS.iload H hx rfl (hb hby at_256) rfl ?_
                    refine XS.icmpNo H hx rfl (hb hby at_258) rfl (teq (if_pos ⟨zid, (Eq.symm (by_contra_if zil)), rfl⟩)).2 ?_
                    refine XS.iconst H hx rfl (hb hby at_261) ?_
                    refine XS.goto H hx rfl (pc0 := 262) (pc' := 266) rfl (hb hby at_262) (by decide) (by decide) ?_
                    exact kt
                  exact Jvm.Q9.Aim.retN (t := .boolean) zjp hx hlk hret (by simp) (hb hby at_266) (by decide) (by decide) zhn ⟨rfl, zic⟩
              · skip
                have H := zi3.here
                refine Jvm.Q9.Aim.of (T' := zi0) (g' := (mkF m 241 #[.val (.int p1), .val (.int p2), .val (.int p3), .val (.int p4), .val (.int p5), .val (.int p6), .val (.ref c_676), .val (.ref c_690), .val (.ref c_703), .val (.ref c_1119), .val (.int zb2), .val (.ref zb6), .val (.int (((p6.toUInt32 >>> ((21 : Int32) &&& 31).toUInt32).toInt32) &&& (7 : Int32))), .val (.ref zfj), .val (.int 0)] [(.ref zfj), (.ref zb6)])) (fun tgt kt => ?_) ?_
                · refine XS.icmpYes H hx rfl (pc0 := 207) (pc' := 234) rfl (hb hby at_207) rfl (feq zid).2 (by decide) (by decide) ?_
                  refine XS.iconst H hx rfl (hb hby at_234) ?_
                  refine XS.istore H hx rfl (hb hby at_235) rfl (l' := #[.val (.int p1), .val (.int p2), .val (.int p3), .val (.int p4), .val (.int p5), .val (.int p6), .val (.ref c_676), .val (.ref c_690), .val (.ref c_703), .val (.ref c_1119), .val (.int zb2), .val (.ref zb6), .val (.int (((p6.toUInt32 >>> ((21 : Int32) &&& 31).toUInt32).toInt32) &&& (7 : Int32))), .val (.ref zfj), .val (.int 0)]) rfl ?_
                  refine XS.aload H hx rfl (hb hby at_237) rfl rfl ?_
                  refine XS.aload H hx rfl (hb hby at_239) rfl rfl ?_
                  exact kt
                have zjr : Exa Z zi1 zb6 "com/example/tophat_ledger/tophatledger/HoldingGroup" := ((((((zdt.keep zfq).keep zg5).keep zgk).keep zh1).keep zhg).keep zi5)
                have zjs : Fld Z zi1 zb6 "com/example/tophat_ledger/tophatledger/HoldingGroup" "participant" "Ljava/lang/String;" (.ref zbl) := ((((((zdu.keep zfq nin0).keep zg5 nin0).keep zgk (ninS (nL (lL (lL zba.lt (lT (lT (lT (lT (lT zbs.1 zc7.1) zco.1) zd3.1) zds.1) zfq.1)) (Nat.le_of_eq zfz.symm))) nin0)).keep zh1 nin0).keep zhg (ninS (nL (lL (lL zba.lt (lT (lT (lT (lT (lT (lT (lT zbs.1 zc7.1) zco.1) zd3.1) zds.1) zfq.1) zg5.1) zgk.1)) (Nat.le_of_eq zgv.symm))) nin0)).keep zi5 (ninS (nL (lL (lL zba.lt (lT (lT (lT (lT zbs.1 zc7.1) zco.1) zd3.1) zds.1)) (Nat.le_of_eq zfk.symm))) (ninS (nL (lL (lL zba.lt (lT (lT (lT (lT (lT zbs.1 zc7.1) zco.1) zd3.1) zds.1) zfq.1)) (Nat.le_of_eq zfz.symm))) (ninS (nL (lL (lL zba.lt (lT (lT (lT (lT (lT (lT (lT zbs.1 zc7.1) zco.1) zd3.1) zds.1) zfq.1) zg5.1) zgk.1)) (Nat.le_of_eq zgv.symm))) nin0))))
                have zjt : Fld Z zi1 zb6 "com/example/tophat_ledger/tophatledger/HoldingGroup" "year" "I" (.int p3) := ((((((zdv.keep zfq nin0).keep zg5 nin0).keep zgk (ninS (nL (lL (lL zba.lt (lT (lT (lT (lT (lT zbs.1 zc7.1) zco.1) zd3.1) zds.1) zfq.1)) (Nat.le_of_eq zfz.symm))) nin0)).keep zh1 nin0).keep zhg (ninS (nL (lL (lL zba.lt (lT (lT (lT (lT (lT (lT (lT zbs.1 zc7.1) zco.1) zd3.1) zds.1) zfq.1) zg5.1) zgk.1)) (Nat.le_of_eq zgv.symm))) nin0)).keep zi5 (ninS (nL (lL (lL zba.lt (lT (lT (lT (lT zbs.1 zc7.1) zco.1) zd3.1) zds.1)) (Nat.le_of_eq zfk.symm))) (ninS (nL (lL (lL zba.lt (lT (lT (lT (lT (lT zbs.1 zc7.1) zco.1) zd3.1) zds.1) zfq.1)) (Nat.le_of_eq zfz.symm))) (ninS (nL (lL (lL zba.lt (lT (lT (lT (lT (lT (lT (lT zbs.1 zc7.1) zco.1) zd3.1) zds.1) zfq.1) zg5.1) zgk.1)) (Nat.le_of_eq zgv.symm))) nin0))))
                have zju : Fld Z zi1 zb6 "com/example/tophat_ledger/tophatledger/HoldingGroup" "source" "Ljava/lang/String;" (.ref zch) := ((((((zdw.keep zfq nin0).keep zg5 nin0).keep zgk (ninS (nL (lL (lL zba.lt (lT (lT (lT (lT (lT zbs.1 zc7.1) zco.1) zd3.1) zds.1) zfq.1)) (Nat.le_of_eq zfz.symm))) nin0)).keep zh1 nin0).keep zhg (ninS (nL (lL (lL zba.lt (lT (lT (lT (lT (lT (lT (lT zbs.1 zc7.1) zco.1) zd3.1) zds.1) zfq.1) zg5.1) zgk.1)) (Nat.le_of_eq zgv.symm))) nin0)).keep zi5 (ninS (nL (lL (lL zba.lt (lT (lT (lT (lT zbs.1 zc7.1) zco.1) zd3.1) zds.1)) (Nat.le_of_eq zfk.symm))) (ninS (nL (lL (lL zba.lt (lT (lT (lT (lT (lT zbs.1 zc7.1) zco.1) zd3.1) zds.1) zfq.1)) (Nat.le_of_eq zfz.symm))) (ninS (nL (lL (lL zba.lt (lT (lT (lT (lT (lT (lT (lT zbs.1 zc7.1) zco.1) zd3.1) zds.1) zfq.1) zg5.1) zgk.1)) (Nat.le_of_eq zgv.symm))) nin0))))
                have zjv : Str Z zi1 zbl t_1166 kb_1167 (txt p1) := ((((((zdx.keep zfq nin0 nin0).keep zg5 nin0 nin0).keep zgk (ninS (nL (lL (lL zbp.lt (lT (lT (lT (lT zc7.1 zco.1) zd3.1) zds.1) zfq.1)) (Nat.le_of_eq zfz.symm))) nin0) (ninS (nL (lL (lL zc9.ltb (lT (lT (lT zco.1 zd3.1) zds.1) zfq.1)) (Nat.le_of_eq zfz.symm))) nin0)).keep zh1 nin0 nin0).keep zhg (ninS (nL (lL (lL zbp.lt (lT (lT (lT (lT (lT (lT zc7.1 zco.1) zd3.1) zds.1) zfq.1) zg5.1) zgk.1)) (Nat.le_of_eq zgv.symm))) nin0) (ninS (nL (lL (lL zc9.ltb (lT (lT (lT (lT (lT zco.1 zd3.1) zds.1) zfq.1) zg5.1) zgk.1)) (Nat.le_of_eq zgv.symm))) nin0)).keep zi5 (ninS (nL (lL (lL zbp.lt (lT (lT (lT zc7.1 zco.1) zd3.1) zds.1)) (Nat.le_of_eq zfk.symm))) (ninS (nL (lL (lL zbp.lt (lT (lT (lT (lT zc7.1 zco.1) zd3.1) zds.1) zfq.1)) (Nat.le_of_eq zfz.symm))) (ninS (nL (lL (lL zbp.lt (lT (lT (lT (lT (lT (lT zc7.1 zco.1) zd3.1) zds.1) zfq.1) zg5.1) zgk.1)) (Nat.le_of_eq zgv.symm))) nin0))) (ninS (nL (lL (lL zc9.ltb (lT (lT zco.1 zd3.1) zds.1)) (Nat.le_of_eq zfk.symm))) (ninS (nL (lL (lL zc9.ltb (lT (lT (lT zco.1 zd3.1) zds.1) zfq.1)) (Nat.le_of_eq zfz.symm))) (ninS (nL (lL (lL zc9.ltb (lT (lT (lT (lT (lT zco.1 zd3.1) zds.1) zfq.1) zg5.1) zgk.1)) (Nat.le_of_eq zgv.symm))) nin0))))
                have zjw : Str Z zi1 zch t_1200 kb_1201 (txt p5) := ((((((zdy.keep zfq nin0 nin0).keep zg5 nin0 nin0).keep zgk (ninS (nL (lL (lL zcl.lt (lT (lT zd3.1 zds.1) zfq.1)) (Nat.le_of_eq zfz.symm))) nin0) (ninS (nL (lL (lL zd5.ltb (lT zds.1 zfq.1)) (Nat.le_of_eq zfz.symm))) nin0)).keep zh1 nin0 nin0).keep zhg (ninS (nL (lL (lL zcl.lt (lT (lT (lT (lT zd3.1 zds.1) zfq.1) zg5.1) zgk.1)) (Nat.le_of_eq zgv.symm))) nin0) (ninS (nL (lL (lL zd5.ltb (lT (lT (lT zds.1 zfq.1) zg5.1) zgk.1)) (Nat.le_of_eq zgv.symm))) nin0)).keep zi5 (ninS (nL (lL (lL zcl.lt (lT zd3.1 zds.1)) (Nat.le_of_eq zfk.symm))) (ninS (nL (lL (lL zcl.lt (lT (lT zd3.1 zds.1) zfq.1)) (Nat.le_of_eq zfz.symm))) (ninS (nL (lL (lL zcl.lt (lT (lT (lT (lT zd3.1 zds.1) zfq.1) zg5.1) zgk.1)) (Nat.le_of_eq zgv.symm))) nin0))) (ninS (nL (lL (lL zd5.ltb (zds.1)) (Nat.le_of_eq zfk.symm))) (ninS (nL (lL (lL zd5.ltb (lT zds.1 zfq.1)) (Nat.le_of_eq zfz.symm))) (ninS (nL (lL (lL zd5.ltb (lT (lT (lT zds.1 zfq.1) zg5.1) zgk.1)) (Nat.le_of_eq zgv.symm))) nin0))))
                have zjx : Old Z n0 zi1 := (zhx.keep zi5 (allS (lT (lT Z0 (zdz.1)) (Nat.le_of_eq zfk.symm)) (allS (lT (lT Z0 (zfr.1)) (Nat.le_of_eq zfz.symm)) (allS (lT (lT Z0 (zgq.1)) (Nat.le_of_eq zgv.symm)) all0))))
                refine Jvm.Q9.Aim.callV (argsL := [(.ref zfj)]) (rest := []) (y := (⟨"com/example/tophat_ledger/tophatledger/HoldingGroup", "equals", "(Ljava/lang/Object;)Z"⟩ : MethodName)) (z := (⟨"com/example/tophat_ledger/tophatledger/HoldingGroup", "equals", "(Ljava/lang/Object;)Z"⟩ : MethodName)) zi3 hx hZ hml hown (wI hw 91 rfl) (wI hw 92 rfl) (fun vm0 hZ => notFace_of_selects (args := #[]) (mvT (s := s.setVm vm0) hZ (wI hw 94 rfl))) (wI hw 94 rfl) (wI hw 93 rfl) (by decide) zjr (fun vm0 hZ => Jvm.Y9.Con.back (s := s.setVm vm0) (W := 0) (own_eqH l Z a0 hw zb6 p3 zbl t_1166 kb_1167 (txt p1) zch t_1200 kb_1201 (txt p5) zfj zb2 zfy t_1337 kb_1338 (txt p2) zgu t_1371 kb_1372 (txt p5) zi1 n0 (lT Z0 (zic.1)) zjr zjs zjt zju zjv zjw zi6 zi7 zi8 zi9 zia zib zjx G) hZ (wI hw 95 rfl) (wI hw 7 rfl) (by decide) (by decide)) (fun _ _ ⟨_, q⟩ => (by subst q; exact Keep.refl _ [])) all0 rfl pd__28Ljava_2flang_2fObject_3b_29Z rfl (Nat.le_of_eq rfl) (hb hby at_241) (by decide) (by decide) ?_
                intro zjy zjz zk0 zk1 zk2
                obtain ⟨rfl, rfl⟩ := zk2
                have H := zk1.here
                refine Jvm.Q9.Aim.of (T' := zjy) (g' := (mkF m 253 #[.val (.int p1), .val (.int p2), .val (.int p3), .val (.int p4), .val (.int p5), .val (.int p6), .val (.ref c_676), .val (.ref c_690), .val (.ref c_703), .val (.ref c_1119), .val (.int zb2), .val (.ref zb6), .val (.int (((p6.toUInt32 >>> ((21 : Int32) &&& 31).toUInt32).toInt32) &&& (7 : Int32))), .val (.ref zfj), .val (.int 0)] [(.ref zb6), (.ref zfj)])) (fun tgt kt => ?_) ?_
                · refine XS.iload H hx rfl (hb hby at_244) rfl ?_
                  refine XS.icmpNo H hx rfl (hb hby at_246) rfl (teq (if_neg (fun q => (fun q => zid (Eq.symm q)) q.1))).2 ?_
                  refine XS.aload H hx rfl (hb hby at_249) rfl rfl ?_
                  refine XS.aload H hx rfl (hb hby at_251) rfl rfl ?_
                  exact kt
                refine Jvm.Q9.Aim.callV (argsL := [(.ref zb6)]) (rest := []) (y := (⟨"com/example/tophat_ledger/tophatledger/HoldingGroup", "equals", "(Ljava/lang/Object;)Z"⟩ : MethodName)) (z := (⟨"com/example/tophat_ledger/tophatledger/HoldingGroup", "equals", "(Ljava/lang/Object;)Z"⟩ : MethodName)) zk1 hx hZ hml hown (wI hw 91 rfl) (wI hw 92 rfl) (fun vm0 hZ => notFace_of_selects (args := #[]) (mvT (s := s.setVm vm0) hZ (wI hw 94 rfl))) (wI hw 94 rfl) (wI hw 93 rfl) (by decide) zi6 (fun vm0 hZ => Jvm.Y9.Con.back (s := s.setVm vm0) (W := 0) (own_eqH l Z a0 hw zfj zb2 zfy t_1337 kb_1338 (txt p2) zgu t_1371 kb_1372 (txt p5) zb6 p3 zbl t_1166 kb_1167 (txt p1) zch t_1200 kb_1201 (txt p5) zi1 n0 (lT Z0 (zic.1)) zi6 zi7 zi8 zi9 zia zib zjr zjs zjt zju zjv zjw zjx G) hZ (wI hw 95 rfl) (wI hw 7 rfl) (by decide) (by decide)) (fun _ _ ⟨_, q⟩ => (by subst q; exact Keep.refl _ [])) all0 rfl pd__28Ljava_2flang_2fObject_3b_29Z rfl (Nat.le_of_eq rfl) (hb hby at_253) (by decide) (by decide) ?_
                intro zk3 zk4 zk5 zk6 zk7
                obtain ⟨rfl, rfl⟩ := zk7
                have H := zk6.here
                refine Jvm.Q9.Aim.of (T' := zk3) (g' := (mkF m 266 #[.val (.int p1), .val (.int p2), .val (.int p3), .val (.int p4), .val (.int p5), .val (.int p6), .val (.ref c_676), .val (.ref c_690), .val (.ref c_703), .val (.ref c_1119), .val (.int zb2), .val (.ref zb6), .val (.int (((p6.toUInt32 >>> ((21 : Int32) &&& 31).toUInt32).toInt32) &&& (7 : Int32))), .val (.ref zfj), .val (.int 0)] [(.int 1)])) (fun tgt kt => ?_) ?_
                · refine XS.iload H hx rfl (hb hby at_256) rfl ?_
                  refine XS.icmpNo H hx rfl (hb hby at_258) rfl (teq (if_neg (fun q => zid q.1))).2 ?_
                  refine XS.iconst H hx rfl (hb hby at_261) ?_
                  refine XS.goto H hx rfl (pc0 := 262) (pc' := 266) rfl (hb hby at_262) (by decide) (by decide) ?_
                  exact kt
                exact Jvm.Q9.Aim.retN (t := .boolean) zk6 hx hlk hret (by simp) (hb hby at_266) (by decide) (by decide) zhn ⟨rfl, zic⟩
      by_cases zk8 : (p6 &&& (2 : Int32)) = (0 : Int32)
      · skip
        have H := zav.here
        refine Jvm.Q9.Aim.of (T' := zas) (g' := (mkF m 69 #[.val (.int p1), .val (.int p2), .val (.int p3), .val (.int p4), .val (.int p5), .val (.int p6), .val (.ref c_676), .val (.ref c_690), .val (.ref c_703), .val (.ref c_1119), .unset, .unset, .unset, .unset, .unset] [(.int p4)])) (fun tgt kt => ?_) ?_
        · refine XS.ifYes H hx rfl (pc0 := 61) (pc' := 68) rfl (hb hby at_61) rfl ((if0 _ _).trans (teq zk8).1) (by decide) (by decide) ?_
          refine XS.iloadN H hx rfl (hb hby at_68) rfl ?_
          exact kt
        exact zb1 _ (if_pos zk8).symm
      · skip
        have H := zav.here
        refine Jvm.Q9.Aim.of (T' := zas) (g' := (mkF m 69 #[.val (.int p1), .val (.int p2), .val (.int p3), .val (.int p4), .val (.int p5), .val (.int p6), .val (.ref c_676), .val (.ref c_690), .val (.ref c_703), .val (.ref c_1119), .unset, .unset, .unset, .unset, .unset] [(.int p3)])) (fun tgt kt => ?_) ?_
        · refine XS.ifNo H hx rfl (hb hby at_61) rfl ((if0 _ _).trans (feq zk8).1) ?_
          refine XS.iloadN H hx rfl (hb hby at_64) rfl ?_
          refine XS.goto H hx rfl (pc0 := 65) (pc' := 69) rfl (hb hby at_65) (by decide) (by decide) ?_
          exact kt
        exact zb1 _ (if_neg zk8).symm
  · skip
    have H := z3.here
    refine Jvm.Q9.Aim.of (T' := z0) (g' := (mkF m 14 #[.val (.int p1), .val (.int p2), .val (.int p3), .val (.int p4), .val (.int p5), .val (.int p6), .val (.ref c_676), .unset, .unset, .unset, .unset, .unset, .unset, .unset, .unset] [(.int p1)])) (fun tgt kt => ?_) ?_
    · refine XS.ifNo H hx rfl (hb hby at_10) rfl ((if0 _ _).trans (feq z9).1) ?_
      refine XS.iloadN H hx rfl (hb hby at_13) rfl ?_
      exact kt
    refine Jvm.Q9.Aim.callS (argsL := [(.int p1)]) (rest := []) z3 hx hZ hml hown (wI hw 0 rfl) (wI hw 1 rfl) (wI hw 2 rfl) (wI hw 3 rfl) (by decide) (fun vm0 hZ => Jvm.Y9.Con.back (s := s.setVm vm0) (W := 0) (own_text l Z a0 hw p1 z1 n0 (lT Z0 (z8.1))) hZ (wI hw 3 rfl) (wI hw 2 rfl) (by decide) (by decide)) (fun _ _ ⟨_, _, _, q, _, _⟩ => q) all0 rfl pd__28I_29_5bC rfl (Nat.le_of_eq rfl) (hb hby at_14) (by decide) (by decide) ?_
    intro zk9 zka zkb zkc zkd
    obtain ⟨c_1499, kC_1500, rfl, zke, zkf, zkg⟩ := zkd
    have zkh : Keep h0 zka [] := z8.trans zke all0
    have H := zkc.here
    refine Jvm.Q9.Aim.of (T' := zk9) (g' := (mkF m 28 #[.val (.int p1), .val (.int p2), .val (.int p3), .val (.int p4), .val (.int p5), .val (.int p6), .val (.ref c_676), .val (.ref c_1499), .unset, .unset, .unset, .unset, .unset, .unset, .unset] [(.int p5)])) (fun tgt kt => ?_) ?_
    · refine XS.goto H hx rfl (pc0 := 17) (pc' := 24) rfl (hb hby at_17) (by decide) (by decide) ?_
      refine XS.astore H hx rfl (hb hby at_24) rfl rfl (l' := #[.val (.int p1), .val (.int p2), .val (.int p3), .val (.int p4), .val (.int p5), .val (.int p6), .val (.ref c_676), .val (.ref c_1499), .unset, .unset, .unset, .unset, .unset, .unset, .unset]) rfl ?_
      refine XS.iload H hx rfl (hb hby at_26) rfl ?_
      exact kt
    refine Jvm.Q9.Aim.callS (argsL := [(.int p5)]) (rest := []) zkc hx hZ hml hown (wI hw 0 rfl) (wI hw 1 rfl) (wI hw 2 rfl) (wI hw 3 rfl) (by decide) (fun vm0 hZ => Jvm.Y9.Con.back (s := s.setVm vm0) (W := 0) (own_text l Z a0 hw p5 zka n0 (lT Z0 (zkh.1))) hZ (wI hw 3 rfl) (wI hw 2 rfl) (by decide) (by decide)) (fun _ _ ⟨_, _, _, q, _, _⟩ => q) all0 rfl pd__28I_29_5bC rfl (Nat.le_of_eq rfl) (hb hby at_28) (by decide) (by decide) ?_
    intro zki zkj zkk zkl zkm
    obtain ⟨c_1512, kC_1513, rfl, zkn, zko, zkp⟩ := zkm
    have zkq : Keep h0 zkj [] := zkh.trans zkn all0
    have H := zkl.here
    refine Jvm.Q9.Aim.of (T' := zki) (g' := (mkF m 37 #[.val (.int p1), .val (.int p2), .val (.int p3), .val (.int p4), .val (.int p5), .val (.int p6), .val (.ref c_676), .val (.ref c_1499), .val (.ref c_1512), .unset, .unset, .unset, .unset, .unset, .unset] [(.int (p6 &&& (4 : Int32)))])) (fun tgt kt => ?_) ?_
    · refine XS.astore H hx rfl (hb hby at_31) rfl rfl (l' := #[.val (.int p1), .val (.int p2), .val (.int p3), .val (.int p4), .val (.int p5), .val (.int p6), .val (.ref c_676), .val (.ref c_1499), .val (.ref c_1512), .unset, .unset, .unset, .unset, .unset, .unset]) rfl ?_
      refine XS.iload H hx rfl (hb hby at_33) rfl ?_
      refine XS.iconst H hx rfl (hb hby at_35) ?_
      refine XS.iand H hx rfl (hb hby at_36) rfl ?_
      exact kt
    by_cases zkr : (p6 &&& (4 : Int32)) = (0 : Int32)
    · skip
      have H := zkl.here
      refine Jvm.Q9.Aim.of (T' := zki) (g' := (mkF m 52 #[.val (.int p1), .val (.int p2), .val (.int p3), .val (.int p4), .val (.int p5), .val (.int p6), .val (.ref c_676), .val (.ref c_1499), .val (.ref c_1512), .unset, .unset, .unset, .unset, .unset, .unset] [(.int ((p6.toUInt32 >>> ((3 : Int32) &&& 31).toUInt32).toInt32))])) (fun tgt kt => ?_) ?_
      · refine XS.ifYes H hx rfl (pc0 := 37) (pc' := 48) rfl (hb hby at_37) rfl ((if0 _ _).trans (teq zkr).1) (by decide) (by decide) ?_
        refine XS.iload H hx rfl (hb hby at_48) rfl ?_
        refine XS.iconst H hx rfl (hb hby at_50) ?_
        refine XS.iushr H hx rfl (hb hby at_51) rfl ?_
        exact kt
      refine Jvm.Q9.Aim.callS (argsL := [(.int ((p6.toUInt32 >>> ((3 : Int32) &&& 31).toUInt32).toInt32))]) (rest := []) zkl hx hZ hml hown (wI hw 0 rfl) (wI hw 1 rfl) (wI hw 2 rfl) (wI hw 3 rfl) (by decide) (fun vm0 hZ => Jvm.Y9.Con.back (s := s.setVm vm0) (W := 0) (own_text l Z a0 hw ((p6.toUInt32 >>> ((3 : Int32) &&& 31).toUInt32).toInt32) zkj n0 (lT Z0 (zkq.1))) hZ (wI hw 3 rfl) (wI hw 2 rfl) (by decide) (by decide)) (fun _ _ ⟨_, _, _, q, _, _⟩ => q) all0 rfl pd__28I_29_5bC rfl (Nat.le_of_eq rfl) (hb hby at_52) (by decide) (by decide) ?_
      intro zks zkt zku zkv zkw
      obtain ⟨c_1526, kC_1527, rfl, zkx, zky, zkz⟩ := zkw
      have zl0 : Keep h0 zkt [] := zkq.trans zkx all0
      have H := zkv.here
      refine Jvm.Q9.Aim.of (T' := zks) (g' := (mkF m 61 #[.val (.int p1), .val (.int p2), .val (.int p3), .val (.int p4), .val (.int p5), .val (.int p6), .val (.ref c_676), .val (.ref c_1499), .val (.ref c_1512), .val (.ref c_1526), .unset, .unset, .unset, .unset, .unset] [(.int (p6 &&& (2 : Int32)))])) (fun tgt kt => ?_) ?_
      · refine XS.astore H hx rfl (hb hby at_55) rfl rfl (l' := #[.val (.int p1), .val (.int p2), .val (.int p3), .val (.int p4), .val (.int p5), .val (.int p6), .val (.ref c_676), .val (.ref c_1499), .val (.ref c_1512), .val (.ref c_1526), .unset, .unset, .unset, .unset, .unset]) rfl ?_
        refine XS.iload H hx rfl (hb hby at_57) rfl ?_
        refine XS.iconst H hx rfl (hb hby at_59) ?_
        refine XS.iand H hx rfl (hb hby at_60) rfl ?_
        exact kt
      have zl1 : ∀ zl2 : Int32, zl2 = (if (p6 &&& (2 : Int32)) = (0 : Int32) then p4 else p3) → Jvm.Q9.Aim p e below s (room_1 : Room).cells (room_1 : Room).slots n0 (Jvm.Q9.QW Z LC h0 Lc0 (fun v h Lc => v = some (.int 1) ∧ Keep h0 h [])) zks (mkF m 69 #[.val (.int p1), .val (.int p2), .val (.int p3), .val (.int p4), .val (.int p5), .val (.int p6), .val (.ref c_676), .val (.ref c_1499), .val (.ref c_1512), .val (.ref c_1526), .unset, .unset, .unset, .unset, .unset] [(.int zl2)]) := by
        intro zl2 zl3
        have H := zkv.here
        refine Jvm.Q9.Aim.of (T' := zks) (g' := (mkF m 71 #[.val (.int p1), .val (.int p2), .val (.int p3), .val (.int p4), .val (.int p5), .val (.int p6), .val (.ref c_676), .val (.ref c_1499), .val (.ref c_1512), .val (.ref c_1526), .val (.int zl2), .unset, .unset, .unset, .unset] [])) (fun tgt kt => ?_) ?_
        · refine XS.istore H hx rfl (hb hby at_69) rfl (l' := #[.val (.int p1), .val (.int p2), .val (.int p3), .val (.int p4), .val (.int p5), .val (.int p6), .val (.ref c_676), .val (.ref c_1499), .val (.ref c_1512), .val (.ref c_1526), .val (.int zl2), .unset, .unset, .unset, .unset]) rfl ?_
          exact kt
        refine Jvm.Q9.Aim.newO zkv hx hZ hown (wI hw 5 rfl) (wI hw 6 rfl) (wI hw 7 rfl) (hb hby at_71) (by decide) (by decide) ?_
        intro zl4 zl5 zl6 zl7 zl8 zl9 zla zlb zlc
        have zld : Keep zkt zl5 [] := (Keep.refl _ _).ext zl9
        have zle : Keep h0 zl5 [] := zl0.trans zld all0
        have zlf : Fld Z zl5 zl6 "com/example/tophat_ledger/tophatledger/HoldingGroup" "participant" "Ljava/lang/String;" .null := zlb (Or.inr (wI hw 34 rfl)) (ty := (.object "java/lang/String")) (by decide)
        have zlg : Fld Z zl5 zl6 "com/example/tophat_ledger/tophatledger/HoldingGroup" "year" "I" (.int 0) := zlb (Or.inr (wI hw 36 rfl)) (ty := .int) (by decide)
        have zlh : Fld Z zl5 zl6 "com/example/tophat_ledger/tophatledger/HoldingGroup" "source" "Ljava/lang/String;" .null := zlb (Or.inr (wI hw 38 rfl)) (ty := (.object "java/lang/String")) (by decide)
        have zli : Fld Z zl5 zl6 "com/example/tophat_ledger/tophatledger/HoldingGroup" "hash" "I" (.int 0) := zlb (Or.inr (wI hw 87 rfl)) (ty := .int) (by decide)
        have H := zl8.here
        refine Jvm.Q9.Aim.of (T' := zl4) (g' := (mkF m 75 #[.val (.int p1), .val (.int p2), .val (.int p3), .val (.int p4), .val (.int p5), .val (.int p6), .val (.ref c_676), .val (.ref c_1499), .val (.ref c_1512), .val (.ref c_1526), .val (.int zl2), .unset, .unset, .unset, .unset] [(.ref zl6), (.ref zl6)])) (fun tgt kt => ?_) ?_
        · refine XS.dup H hx rfl (hb hby at_74) rfl rfl ?_
          exact kt
        refine Jvm.Q9.Aim.newO zl8 hx hZ hown (wI hw 8 rfl) (wI hw 9 rfl) (wI hw 10 rfl) (hb hby at_75) (by decide) (by decide) ?_
        intro zlj zlk zll zlm zln zlo zlp zlq zlr
        have zls : Keep zl5 zlk [] := (Keep.refl _ _).ext zlo
        have zlt : Keep h0 zlk [] := zle.trans zls all0
        have zlu : Fld Z zlk zll "java/lang/String" "value" "[B" .null := zlq (Or.inr (wI hw 23 rfl)) (ty := (.array .byte)) (by decide)
        have zlv : Fld Z zlk zll "java/lang/String" "coder" "B" (.int 0) := zlq (Or.inr (wI hw 24 rfl)) (ty := .byte) (by decide)
        have zlw : Fld Z zlk zll "java/lang/String" "hash" "I" (.int 0) := zlq (Or.inl (wI hw 65 rfl)) (ty := .int) (by decide)
        have zlx : Fld Z zlk zll "java/lang/String" "hashIsZero" "Z" (.int 0) := zlq (Or.inl (wI hw 67 rfl)) (ty := .boolean) (by decide)
        have H := zln.here
        refine Jvm.Q9.Aim.of (T' := zlj) (g' := (mkF m 81 #[.val (.int p1), .val (.int p2), .val (.int p3), .val (.int p4), .val (.int p5), .val (.int p6), .val (.ref c_676), .val (.ref c_1499), .val (.ref c_1512), .val (.ref c_1526), .val (.int zl2), .unset, .unset, .unset, .unset] [(.ref c_676), (.ref zll), (.ref zll), (.ref zl6), (.ref zl6)])) (fun tgt kt => ?_) ?_
        · refine XS.dup H hx rfl (hb hby at_78) rfl rfl ?_
          refine XS.aload H hx rfl (hb hby at_79) rfl rfl ?_
          exact kt
        have zly : Arv Z zlk c_676 kC_677 .char (Int32.ofNat (txt p1).length) ((txt p1).map Value.int) (.int 0) := (((((z7.keep zke nin0).keep zkn nin0).keep zkx nin0).keep zld nin0).keep zls nin0)
        have zlz : Old Z n0 zlk := ((((((F0.keep z5 all0).keep zke all0).keep zkn all0).keep zkx all0).keep zld all0).keep zls all0)
        refine Jvm.Q9.Aim.callCW (argsL := [(.ref c_676)]) (rest := [(.ref zll), (.ref zl6), (.ref zl6)]) zln hx hZ hml hown rfl (wI hw 11 rfl) (wI hw 12 rfl) (wI hw 13 rfl) (by decide) (Jvm.Q9.Con.back (W := 3) (own_sC l Z a0 hw zll c_676 kC_677 (txt p1) (.null) (.int 0) zlk n0 (lT Z0 (zlt.1)) Lc0 (lT (lT Z0 (zle.1)) (Nat.le_of_eq zlm.symm)) (Jvm.Q9.nl_new P0.ltL (lT (zle.1) (Nat.le_of_eq zlm.symm))) zlp zlu zlv zlw zlx zly zlz (txt_len _) (txt_in _) G GL) (wI hw 13 rfl) (wI hw 10 rfl) (by decide) (by decide)) rfl pd__28_5bC_29V rfl (Nat.le_of_eq rfl) (hb hby at_81) (by decide) (by decide) ?_
        intro zm0 zm1 zm2 zm3 zm4 zm5 zm6
        obtain ⟨t_1573, kb_1574, rfl, zm7, zm8, zm9, zma, zmb, zmc⟩ := zm6
        have zmd : Keep h0 zm1 [] := zlt.trans zm7 (allS (Or.inr (lT (zle.1) (Nat.le_of_eq zlm.symm))) all0)
        have zme : Jvm.Q9.Grow Lc0 zm3 h0.size := (Jvm.Q9.Grow.refl _ _).trans zm5 (zlt.1)
        have H := zm4.here
        refine Jvm.Q9.Aim.of (T' := zm0) (g' := (mkF m 85 #[.val (.int p1), .val (.int p2), .val (.int p3), .val (.int p4), .val (.int p5), .val (.int p6), .val (.ref c_676), .val (.ref c_1499), .val (.ref c_1512), .val (.ref c_1526), .val (.int zl2), .unset, .unset, .unset, .unset] [(.int p3), (.ref zll), (.ref zl6), (.ref zl6)])) (fun tgt kt => ?_) ?_
        · refine XS.iloadN H hx rfl (hb hby at_84) rfl ?_
          exact kt
        refine Jvm.Q9.Aim.newO zm4 hx hZ hown (wI hw 8 rfl) (wI hw 9 rfl) (wI hw 10 rfl) (hb hby at_85) (by decide) (by decide) ?_
        intro zmf zmg zmh zmi zmj zmk zml zmm zmn
        have zmo : Keep zm1 zmg [] := (Keep.refl _ _).ext zmk
        have zmp : Keep h0 zmg [] := zmd.trans zmo all0
        have zmq : Fld Z zmg zmh "java/lang/String" "value" "[B" .null := zmm (Or.inr (wI hw 23 rfl)) (ty := (.array .byte)) (by decide)
        have zmr : Fld Z zmg zmh "java/lang/String" "coder" "B" (.int 0) := zmm (Or.inr (wI hw 24 rfl)) (ty := .byte) (by decide)
        have zms : Fld Z zmg zmh "java/lang/String" "hash" "I" (.int 0) := zmm (Or.inl (wI hw 65 rfl)) (ty := .int) (by decide)
        have zmt : Fld Z zmg zmh "java/lang/String" "hashIsZero" "Z" (.int 0) := zmm (Or.inl (wI hw 67 rfl)) (ty := .boolean) (by decide)
        have H := zmj.here
        refine Jvm.Q9.Aim.of (T' := zmf) (g' := (mkF m 91 #[.val (.int p1), .val (.int p2), .val (.int p3), .val (.int p4), .val (.int p5), .val (.int p6), .val (.ref c_676), .val (.ref c_1499), .val (.ref c_1512), .val (.ref c_1526), .val (.int zl2), .unset, .unset, .unset, .unset] [(.ref c_1512), (.ref zmh), (.ref zmh), (.int p3), (.ref zll), (.ref zl6), (.ref zl6)])) (fun tgt kt => ?_) ?_
        · refine XS.dup H hx rfl (hb hby at_88) rfl rfl ?_
          refine XS.aload H hx rfl (hb hby at_89) rfl rfl ?_
          exact kt
        have zmu : Arv Z zmg c_1512 kC_1513 .char (Int32.ofNat (txt p5).length) ((txt p5).map Value.int) (.int 0) := (((((zkp.keep zkx nin0).keep zld nin0).keep zls nin0).keep zm7 (ninS (nL (lL (lL zkp.lt (lT zkx.1 zld.1)) (Nat.le_of_eq zlm.symm))) nin0)).keep zmo nin0)
        have zmv : Old Z n0 zmg := ((zlz.keep zm7 (allS (lT (lT Z0 (zle.1)) (Nat.le_of_eq zlm.symm)) all0)).keep zmo all0)
        refine Jvm.Q9.Aim.callCW (argsL := [(.ref c_1512)]) (rest := [(.ref zmh), (.int p3), (.ref zll), (.ref zl6), (.ref zl6)]) zmj hx hZ hml hown rfl (wI hw 11 rfl) (wI hw 12 rfl) (wI hw 13 rfl) (by decide) (Jvm.Q9.Con.back (W := 5) (own_sC l Z a0 hw zmh c_1512 kC_1513 (txt p5) (.null) (.int 0) zmg n0 (lT Z0 (zmp.1)) zm3 (lT (lT Z0 (zmd.1)) (Nat.le_of_eq zmi.symm)) (Jvm.Q9.nl_new zm4.ltL (lT (Nat.le_refl _) (Nat.le_of_eq zmi.symm))) zml zmq zmr zms zmt zmu zmv (txt_len _) (txt_in _) G GL) (wI hw 13 rfl) (wI hw 10 rfl) (by decide) (by decide)) rfl pd__28_5bC_29V rfl (Nat.le_of_eq rfl) (hb hby at_91) (by decide) (by decide) ?_
        intro zmw zmx zmy zmz zn0 zn1 zn2
        obtain ⟨t_1607, kb_1608, rfl, zn3, zn4, zn5, zn6, zn7, zn8⟩ := zn2
        have zn9 : Keep h0 zmx [] := zmp.trans zn3 (allS (Or.inr (lT (zmd.1) (Nat.le_of_eq zmi.symm))) all0)
        have zna : Jvm.Q9.Grow Lc0 zmz h0.size := zme.trans zn1 (zmp.1)
        have znb : Exa Z zmx zl6 "com/example/tophat_ledger/tophatledger/HoldingGroup" := ((((zla.keep zls).keep zm7).keep zmo).keep zn3)
        have znc : Fld Z zmx zl6 "com/example/tophat_ledger/tophatledger/HoldingGroup" "participant" "Ljava/lang/String;" .null := ((((zlf.keep zls nin0).keep zm7 (ninS (nL (lL zla.lt (Nat.le_of_eq zlm.symm))) nin0)).keep zmo nin0).keep zn3 (ninS (nL (lL (lL zla.lt (lT zls.1 zm7.1)) (Nat.le_of_eq zmi.symm))) nin0))
        have znd : Fld Z zmx zl6 "com/example/tophat_ledger/tophatledger/HoldingGroup" "year" "I" (.int 0) := ((((zlg.keep zls nin0).keep zm7 (ninS (nL (lL zla.lt (Nat.le_of_eq zlm.symm))) nin0)).keep zmo nin0).keep zn3 (ninS (nL (lL (lL zla.lt (lT zls.1 zm7.1)) (Nat.le_of_eq zmi.symm))) nin0))
        have zne : Fld Z zmx zl6 "com/example/tophat_ledger/tophatledger/HoldingGroup" "source" "Ljava/lang/String;" .null := ((((zlh.keep zls nin0).keep zm7 (ninS (nL (lL zla.lt (Nat.le_of_eq zlm.symm))) nin0)).keep zmo nin0).keep zn3 (ninS (nL (lL (lL zla.lt (lT zls.1 zm7.1)) (Nat.le_of_eq zmi.symm))) nin0))
        have znf : Fld Z zmx zl6 "com/example/tophat_ledger/tophatledger/HoldingGroup" "hash" "I" (.int 0) := ((((zli.keep zls nin0).keep zm7 (ninS (nL (lL zla.lt (Nat.le_of_eq zlm.symm))) nin0)).keep zmo nin0).keep zn3 (ninS (nL (lL (lL zla.lt (lT zls.1 zm7.1)) (Nat.le_of_eq zmi.symm))) nin0))
        have zng : Str Z zmx zll t_1573 kb_1574 (txt p1) := ((zm9.keep zmo nin0 nin0).keep zn3 (ninS (nL (lL (lL zlp.lt (zm7.1)) (Nat.le_of_eq zmi.symm))) nin0) (ninS (nL (lL zm9.ltb (Nat.le_of_eq zmi.symm))) nin0))
        have znh : (2 ≤ (txt p1).length → Exa Z zmx t_1573 "[B") := (fun q => ((fun q => (zma q).keep zmo) q).keep zn3)
        have zni : Fld Z zmx zll "java/lang/String" "hash" "I" (.int 0) := ((zmb.keep zmo nin0).keep zn3 (ninS (nL (lL (lL zlp.lt (zm7.1)) (Nat.le_of_eq zmi.symm))) nin0))
        have znj : Fld Z zmx zll "java/lang/String" "hashIsZero" "Z" (.int 0) := ((zmc.keep zmo nin0).keep zn3 (ninS (nL (lL (lL zlp.lt (zm7.1)) (Nat.le_of_eq zmi.symm))) nin0))
        have znk : Old Z n0 zmx := (zmv.keep zn3 (allS (lT (lT Z0 (zmd.1)) (Nat.le_of_eq zmi.symm)) all0))
        have znl : Exa Z zmx zll "java/lang/String" := (((zlp.keep zm7).keep zmo).keep zn3)
        have znm : Exa Z zmx zmh "java/lang/String" := (zml.keep zn3)
        refine Jvm.Q9.Aim.callC (argsL := [(.ref zll), (.int p3), (.ref zmh)]) (rest := [(.ref zl6)]) zn0 hx hZ hml hown rfl (wI hw 29 rfl) (wI hw 30 rfl) (wI hw 31 rfl) (by decide) (fun vm0 hZ => Jvm.Y9.Con.back (s := s.setVm vm0) (W := 1) (own_hg l Z a0 hw zl6 p3 (.null) (.int 0) (.null) (.int 0) zll t_1573 kb_1574 (txt p1) zmh t_1607 kb_1608 (txt p5) zmx n0 (lT Z0 (zn9.1)) (lT (lT Z0 (zl0.1)) (Nat.le_of_eq zl7.symm)) (lT (lT Z0 (zle.1)) (Nat.le_of_eq zlm.symm)) (lT (lT Z0 (zmd.1)) (Nat.le_of_eq zmi.symm)) znb znc znd zne znf zng znh zni znj zn5 zn6 zn7 zn8 znk (nL (lL (lL zlp.lt (zm7.1)) (Nat.le_of_eq zmi.symm))) (Jvm.Q9.ori_ne zm8 (lT (lT Z0 (zle.1)) (Nat.le_of_eq zlm.symm)) (Jvm.Q9.nl_step (Jvm.Q9.nl_new P0.ltL (lT (zle.1) (Nat.le_of_eq zlm.symm))) zm5 zlp.lt) zlp.lt) (nL (lL zm9.ltb (Nat.le_of_eq zmi.symm))) (Jvm.Q9.ori_ne zn4 (lT (lT Z0 (zle.1)) (Nat.le_of_eq zlm.symm)) (Jvm.Q9.nl_step (Jvm.Q9.nl_step (Jvm.Q9.nl_new P0.ltL (lT (zle.1) (Nat.le_of_eq zlm.symm))) zm5 zlp.lt) zn1 (lL zlp.lt (lT zm7.1 zmo.1))) (lL zlp.lt (lT zm7.1 zmo.1))) (Jvm.Q9.ori_ne zn4 (lT (lT Z0 (zmd.1)) (Nat.le_of_eq zmi.symm)) (Jvm.Q9.nl_step (Jvm.Q9.nl_new zm4.ltL (lT (Nat.le_refl _) (Nat.le_of_eq zmi.symm))) zn1 zml.lt) zml.lt) (txt_len _) (txt_len _) (Jvm.Q9.ori_ne zm8 (lT (lT Z0 (zl0.1)) (Nat.le_of_eq zl7.symm)) (Jvm.Q9.nl_step (Jvm.Q9.nl_new P0.ltL (lT (zl0.1) (Nat.le_of_eq zl7.symm))) zm5 (lL zla.lt (zls.1))) (lL zla.lt (zls.1))) (Jvm.Q9.ori_ne zn4 (lT (lT Z0 (zl0.1)) (Nat.le_of_eq zl7.symm)) (Jvm.Q9.nl_step (Jvm.Q9.nl_step (Jvm.Q9.nl_new P0.ltL (lT (zl0.1) (Nat.le_of_eq zl7.symm))) zm5 (lL zla.lt (zls.1))) zn1 (lL zla.lt (lT (lT zls.1 zm7.1) zmo.1))) (lL zla.lt (lT (lT zls.1 zm7.1) zmo.1))) G GI) hZ (wI hw 31 rfl) (wI hw 7 rfl) (by decide) (by decide)) (fun _ _ ⟨_, q, _, _, _, _, _, _⟩ => q) (allS (Jvm.Q9.nl_step (Jvm.Q9.nl_step (Jvm.Q9.nl_new P0.ltL (lT (zl0.1) (Nat.le_of_eq zl7.symm))) zm5 (lL zla.lt (zls.1))) zn1 (lL zla.lt (lT (lT zls.1 zm7.1) zmo.1))) (allS (Jvm.Q9.nl_step (Jvm.Q9.nl_step (Jvm.Q9.nl_new P0.ltL (lT (zle.1) (Nat.le_of_eq zlm.symm))) zm5 zlp.lt) zn1 (lL zlp.lt (lT zm7.1 zmo.1))) (allS (Jvm.Q9.nl_step (Jvm.Q9.nl_new zm4.ltL (lT (Nat.le_refl _) (Nat.le_of_eq zmi.symm))) zn1 zml.lt) all0))) rfl pd__28Ljava_2flang_2fString_3bILjava_2flang_2fString_3b_29V rfl (Nat.le_of_eq rfl) (hb hby at_94) (by decide) (by decide) ?_
        intro znn zno znp znq znr
        obtain ⟨rfl, zns, znt, znu, znv, znw, znx, zny⟩ := znr
        have znz : Keep h0 zno [] := zn9.trans zns (allS (Or.inr (lT (zl0.1) (Nat.le_of_eq zl7.symm))) (allS (Or.inr (lT (zle.1) (Nat.le_of_eq zlm.symm))) (allS (Or.inr (lT (zmd.1) (Nat.le_of_eq zmi.symm))) all0)))
        have H := znq.here
        refine Jvm.Q9.Aim.of (T' := znn) (g' := (mkF m 112 #[.val (.int p1), .val (.int p2), .val (.int p3), .val (.int p4), .val (.int p5), .val (.int p6), .val (.ref c_676), .val (.ref c_1499), .val (.ref c_1512), .val (.ref c_1526), .val (.int zl2), .val (.ref zl6), .val (.int (((p6.toUInt32 >>> ((21 : Int32) &&& 31).toUInt32).toInt32) &&& (7 : Int32))), .unset, .unset] [(.int 5), (.int (((p6.toUInt32 >>> ((21 : Int32) &&& 31).toUInt32).toInt32) &&& (7 : Int32)))])) (fun tgt kt => ?_) ?_
        · refine XS.astore H hx rfl (hb hby at_97) rfl rfl (l' := #[.val (.int p1), .val (.int p2), .val (.int p3), .val (.int p4), .val (.int p5), .val (.int p6), .val (.ref c_676), .val (.ref c_1499), .val (.ref c_1512), .val (.ref c_1526), .val (.int zl2), .val (.ref zl6), .unset, .unset, .unset]) rfl ?_
          refine XS.iload H hx rfl (hb hby at_99) rfl ?_
          refine XS.bipush H hx rfl (hb hby at_101) ?_
          refine XS.iushr H hx rfl (hb hby at_103) rfl ?_
          refine XS.bipush H hx rfl (hb hby at_104) ?_
          refine XS.iand H hx rfl (hb hby at_106) rfl ?_
          refine XS.istore H hx rfl (hb hby at_107) rfl (l' := #[.val (.int p1), .val (.int p2), .val (.int p3), .val (.int p4), .val (.int p5), .val (.int p6), .val (.ref c_676), .val (.ref c_1499), .val (.ref c_1512), .val (.ref c_1526), .val (.int zl2), .val (.ref zl6), .val (.int (((p6.toUInt32 >>> ((21 : Int32) &&& 31).toUInt32).toInt32) &&& (7 : Int32))), .unset, .unset]) rfl ?_
          refine XS.iload H hx rfl (hb hby at_109) rfl ?_
          refine XS.iconst H hx rfl (hb hby at_111) ?_
          exact kt
        by_cases zo0 : (((p6.toUInt32 >>> ((21 : Int32) &&& 31).toUInt32).toInt32) &&& (7 : Int32)) = (5 : Int32)
        · skip
          have H := znq.here
          refine Jvm.Q9.Aim.of (T' := znn) (g' := (mkF m 118 #[.val (.int p1), .val (.int p2), .val (.int p3), .val (.int p4), .val (.int p5), .val (.int p6), .val (.ref c_676), .val (.ref c_1499), .val (.ref c_1512), .val (.ref c_1526), .val (.int zl2), .val (.ref zl6), .val (.int (((p6.toUInt32 >>> ((21 : Int32) &&& 31).toUInt32).toInt32) &&& (7 : Int32))), .unset, .unset] [.null, (.ref zl6)])) (fun tgt kt => ?_) ?_
          · refine XS.icmpNo H hx rfl (hb hby at_112) rfl (teq zo0).2 ?_
            refine XS.aload H hx rfl (hb hby at_115) rfl rfl ?_
            refine XS.aconstNull H hx rfl (hb hby at_117) ?_
            exact kt
          refine Jvm.Q9.Aim.callV (argsL := [.null]) (rest := []) (y := (⟨"com/example/tophat_ledger/tophatledger/HoldingGroup", "equals", "(Ljava/lang/Object;)Z"⟩ : MethodName)) (z := (⟨"com/example/tophat_ledger/tophatledger/HoldingGroup", "equals", "(Ljava/lang/Object;)Z"⟩ : MethodName)) znq hx hZ hml hown (wI hw 91 rfl) (wI hw 92 rfl) (fun vm0 hZ => notFace_of_selects (args := #[]) (mvT (s := s.setVm vm0) hZ (wI hw 94 rfl))) (wI hw 94 rfl) (wI hw 93 rfl) (by decide) znt (fun vm0 hZ => Jvm.Y9.Con.back (s := s.setVm vm0) (W := 0) (own_eqN l Z a0 hw zl6 zno n0 (lT Z0 (znz.1))) hZ (wI hw 95 rfl) (wI hw 7 rfl) (by decide) (by decide)) (fun _ _ ⟨_, q⟩ => (by subst q; exact Keep.refl _ [])) all0 rfl pd__28Ljava_2flang_2fObject_3b_29Z rfl (Nat.le_of_eq rfl) (hb hby at_118) (by decide) (by decide) ?_
          intro zo1 zo2 zo3 zo4 zo5
          obtain ⟨rfl, rfl⟩ := zo5
          have H := zo4.here
          refine Jvm.Q9.Aim.of (T' := zo1) (g' := (mkF m 129 #[.val (.int p1), .val (.int p2), .val (.int p3), .val (.int p4), .val (.int p5), .val (.int p6), .val (.ref c_676), .val (.ref c_1499), .val (.ref c_1512), .val (.ref c_1526), .val (.int zl2), .val (.ref zl6), .val (.int (((p6.toUInt32 >>> ((21 : Int32) &&& 31).toUInt32).toInt32) &&& (7 : Int32))), .unset, .unset] [(.int 1)])) (fun tgt kt => ?_) ?_
          · refine XS.ifNo H hx rfl (hb hby at_121) rfl ((if0 _ _).trans (teq (by decide)).2) ?_
            refine XS.iconst H hx rfl (hb hby at_124) ?_
            refine XS.goto H hx rfl (pc0 := 125) (pc' := 129) rfl (hb hby at_125) (by decide) (by decide) ?_
            exact kt
          exact Jvm.Q9.Aim.retN (t := .boolean) zo4 hx hlk hret (by simp) (hb hby at_129) (by decide) (by decide) zna ⟨rfl, znz⟩
        · skip
          have H := znq.here
          refine Jvm.Q9.Aim.of (T' := znn) (g' := (mkF m 134 #[.val (.int p1), .val (.int p2), .val (.int p3), .val (.int p4), .val (.int p5), .val (.int p6), .val (.ref c_676), .val (.ref c_1499), .val (.ref c_1512), .val (.ref c_1526), .val (.int zl2), .val (.ref zl6), .val (.int (((p6.toUInt32 >>> ((21 : Int32) &&& 31).toUInt32).toInt32) &&& (7 : Int32))), .unset, .unset] [(.int 6), (.int (((p6.toUInt32 >>> ((21 : Int32) &&& 31).toUInt32).toInt32) &&& (7 : Int32)))])) (fun tgt kt => ?_) ?_
          · refine XS.icmpYes H hx rfl (pc0 := 112) (pc' := 130) rfl (hb hby at_112) rfl (feq zo0).2 (by decide) (by decide) ?_
            refine XS.iload H hx rfl (hb hby at_130) rfl ?_
            refine XS.bipush H hx rfl (hb hby at_132) ?_
            exact kt
          by_cases zo6 : (((p6.toUInt32 >>> ((21 : Int32) &&& 31).toUInt32).toInt32) &&& (7 : Int32)) = (6 : Int32)
          · skip
            have H := znq.here
            refine Jvm.Q9.Aim.of (T' := znn) (g' := (mkF m 139 #[.val (.int p1), .val (.int p2), .val (.int p3), .val (.int p4), .val (.int p5), .val (.int p6), .val (.ref c_676), .val (.ref c_1499), .val (.ref c_1512), .val (.ref c_1526), .val (.int zl2), .val (.ref zl6), .val (.int (((p6.toUInt32 >>> ((21 : Int32) &&& 31).toUInt32).toInt32) &&& (7 : Int32))), .unset, .unset] [(.ref zl6)])) (fun tgt kt => ?_) ?_
            · refine XS.icmpNo H hx rfl (hb hby at_134) rfl (teq zo6).2 ?_
              refine XS.aload H hx rfl (hb hby at_137) rfl rfl ?_
              exact kt
            refine Jvm.Q9.Aim.newO znq hx hZ hown (wI hw 8 rfl) (wI hw 9 rfl) (wI hw 10 rfl) (hb hby at_139) (by decide) (by decide) ?_
            intro zo7 zo8 zo9 zoa zob zoc zod zoe zof
            have zog : Keep zno zo8 [] := (Keep.refl _ _).ext zoc
            have zoh : Keep h0 zo8 [] := znz.trans zog all0
            have zoi : Fld Z zo8 zo9 "java/lang/String" "value" "[B" .null := zoe (Or.inr (wI hw 23 rfl)) (ty := (.array .byte)) (by decide)
            have zoj : Fld Z zo8 zo9 "java/lang/String" "coder" "B" (.int 0) := zoe (Or.inr (wI hw 24 rfl)) (ty := .byte) (by decide)
            have zok : Fld Z zo8 zo9 "java/lang/String" "hash" "I" (.int 0) := zoe (Or.inl (wI hw 65 rfl)) (ty := .int) (by decide)
            have zol : Fld Z zo8 zo9 "java/lang/String" "hashIsZero" "Z" (.int 0) := zoe (Or.inl (wI hw 67 rfl)) (ty := .boolean) (by decide)
            have H := zob.here
            refine Jvm.Q9.Aim.of (T' := zo7) (g' := (mkF m 145 #[.val (.int p1), .val (.int p2), .val (.int p3), .val (.int p4), .val (.int p5), .val (.int p6), .val (.ref c_676), .val (.ref c_1499), .val (.ref c_1512), .val (.ref c_1526), .val (.int zl2), .val (.ref zl6), .val (.int (((p6.toUInt32 >>> ((21 : Int32) &&& 31).toUInt32).toInt32) &&& (7 : Int32))), .unset, .unset] [(.ref c_676), (.ref zo9), (.ref zo9), (.ref zl6)])) (fun tgt kt => ?_) ?_
            · refine XS.dup H hx rfl (hb hby at_142) rfl rfl ?_
              refine XS.aload H hx rfl (hb hby at_143) rfl rfl ?_
              exact kt
            have zom : Arv Z zo8 c_676 kC_677 .char (Int32.ofNat (txt p1).length) ((txt p1).map Value.int) (.int 0) := (((((zly.keep zm7 (ninS (nL (lL (lL z7.lt (lT (lT (lT zke.1 zkn.1) zkx.1) zld.1)) (Nat.le_of_eq zlm.symm))) nin0)).keep zmo nin0).keep zn3 (ninS (nL (lL (lL z7.lt (lT (lT (lT (lT (lT zke.1 zkn.1) zkx.1) zld.1) zls.1) zm7.1)) (Nat.le_of_eq zmi.symm))) nin0)).keep zns (ninS (nL (lL (lL z7.lt (lT (lT zke.1 zkn.1) zkx.1)) (Nat.le_of_eq zl7.symm))) (ninS (nL (lL (lL z7.lt (lT (lT (lT zke.1 zkn.1) zkx.1) zld.1)) (Nat.le_of_eq zlm.symm))) (ninS (nL (lL (lL z7.lt (lT (lT (lT (lT (lT zke.1 zkn.1) zkx.1) zld.1) zls.1) zm7.1)) (Nat.le_of_eq zmi.symm))) nin0)))).keep zog nin0)
            have zon : Old Z n0 zo8 := ((znk.keep zns (allS (lT (lT Z0 (zl0.1)) (Nat.le_of_eq zl7.symm)) (allS (lT (lT Z0 (zle.1)) (Nat.le_of_eq zlm.symm)) (allS (lT (lT Z0 (zmd.1)) (Nat.le_of_eq zmi.symm)) all0)))).keep zog all0)
            refine Jvm.Q9.Aim.callCW (argsL := [(.ref c_676)]) (rest := [(.ref zo9), (.ref zl6)]) zob hx hZ hml hown rfl (wI hw 11 rfl) (wI hw 12 rfl) (wI hw 13 rfl) (by decide) (Jvm.Q9.Con.back (W := 2) (own_sC l Z a0 hw zo9 c_676 kC_677 (txt p1) (.null) (.int 0) zo8 n0 (lT Z0 (zoh.1)) zmz (lT (lT Z0 (znz.1)) (Nat.le_of_eq zoa.symm)) (Jvm.Q9.nl_new zn0.ltL (lT (zns.1) (Nat.le_of_eq zoa.symm))) zod zoi zoj zok zol zom zon (txt_len _) (txt_in _) G GL) (wI hw 13 rfl) (wI hw 10 rfl) (by decide) (by decide)) rfl pd__28_5bC_29V rfl (Nat.le_of_eq rfl) (hb hby at_145) (by decide) (by decide) ?_
            intro zoo zop zoq zor zos zot zou
            obtain ⟨t_1677, kb_1678, rfl, zov, zow, zox, zoy, zoz, zp0⟩ := zou
            have zp1 : Keep h0 zop [] := zoh.trans zov (allS (Or.inr (lT (znz.1) (Nat.le_of_eq zoa.symm))) all0)
            have zp2 : Jvm.Q9.Grow Lc0 zor h0.size := zna.trans zot (zoh.1)
            have zp3 : Exa Z zop zl6 "com/example/tophat_ledger/tophatledger/HoldingGroup" := ((znt.keep zog).keep zov)
            have zp4 : Exa Z zop zo9 "java/lang/String" := (zod.keep zov)
            refine Jvm.Q9.Aim.callV (argsL := [(.ref zo9)]) (rest := []) (y := (⟨"com/example/tophat_ledger/tophatledger/HoldingGroup", "equals", "(Ljava/lang/Object;)Z"⟩ : MethodName)) (z := (⟨"com/example/tophat_ledger/tophatledger/HoldingGroup", "equals", "(Ljava/lang/Object;)Z"⟩ : MethodName)) zos hx hZ hml hown (wI hw 91 rfl) (wI hw 92 rfl) (fun vm0 hZ => notFace_of_selects (args := #[]) (mvT (s := s.setVm vm0) hZ (wI hw 94 rfl))) (wI hw 94 rfl) (wI hw 93 rfl) (by decide) zp3 (fun vm0 hZ => Jvm.Y9.Con.back (s := s.setVm vm0) (W := 0) (own_eqS l Z a0 hw zl6 zo9 zop n0 (lT Z0 (zp1.1)) zp4) hZ (wI hw 95 rfl) (wI hw 7 rfl) (by decide) (by decide)) (fun _ _ ⟨_, q⟩ => (by subst q; exact Keep.refl _ [])) all0 rfl pd__28Ljava_2flang_2fObject_3b_29Z rfl (Nat.le_of_eq rfl) (hb hby at_148) (by decide) (by decide) ?_
            intro zp5 zp6 zp7 zp8 zp9
            obtain ⟨rfl, rfl⟩ := zp9
            have H := zp8.here
            refine Jvm.Q9.Aim.of (T' := zp5) (g' := (mkF m 159 #[.val (.int p1), .val (.int p2), .val (.int p3), .val (.int p4), .val (.int p5), .val (.int p6), .val (.ref c_676), .val (.ref c_1499), .val (.ref c_1512), .val (.ref c_1526), .val (.int zl2), .val (.ref zl6), .val (.int (((p6.toUInt32 >>> ((21 : Int32) &&& 31).toUInt32).toInt32) &&& (7 : Int32))), .unset, .unset] [(.int 1)])) (fun tgt kt => ?_) ?_
            · refine XS.ifNo H hx rfl (hb hby at_151) rfl ((if0 _ _).trans (teq (by decide)).2) ?_
              refine XS.iconst H hx rfl (hb hby at_154) ?_
              refine XS.goto H hx rfl (pc0 := 155) (pc' := 159) rfl (hb hby at_155) (by decide) (by decide) ?_
              exact kt
            exact Jvm.Q9.Aim.retN (t := .boolean) zp8 hx hlk hret (by simp) (hb hby at_159) (by decide) (by decide) zp2 ⟨rfl, zp1⟩
          · skip
            have H := znq.here
            refine Jvm.Q9.Aim.of (T' := znn) (g' := (mkF m 164 #[.val (.int p1), .val (.int p2), .val (.int p3), .val (.int p4), .val (.int p5), .val (.int p6), .val (.ref c_676), .val (.ref c_1499), .val (.ref c_1512), .val (.ref c_1526), .val (.int zl2), .val (.ref zl6), .val (.int (((p6.toUInt32 >>> ((21 : Int32) &&& 31).toUInt32).toInt32) &&& (7 : Int32))), .unset, .unset] [(.int 7), (.int (((p6.toUInt32 >>> ((21 : Int32) &&& 31).toUInt32).toInt32) &&& (7 : Int32)))])) (fun tgt kt => ?_) ?_
            · refine XS.icmpYes H hx rfl (pc0 := 134) (pc' := 160) rfl (hb hby at_134) rfl (feq zo6).2 (by decide) (by decide) ?_
              refine XS.iload H hx rfl (hb hby at_160) rfl ?_
              refine XS.bipush H hx rfl (hb hby at_162) ?_
              exact kt
            by_cases zpa : (((p6.toUInt32 >>> ((21 : Int32) &&& 31).toUInt32).toInt32) &&& (7 : Int32)) = (7 : Int32)
            · skip
              have H := znq.here
              refine Jvm.Q9.Aim.of (T' := znn) (g' := (mkF m 171 #[.val (.int p1), .val (.int p2), .val (.int p3), .val (.int p4), .val (.int p5), .val (.int p6), .val (.ref c_676), .val (.ref c_1499), .val (.ref c_1512), .val (.ref c_1526), .val (.int zl2), .val (.ref zl6), .val (.int (((p6.toUInt32 >>> ((21 : Int32) &&& 31).toUInt32).toInt32) &&& (7 : Int32))), .unset, .unset] [(.ref zl6), (.ref zl6)])) (fun tgt kt => ?_) ?_
              · refine XS.icmpNo H hx rfl (hb hby at_164) rfl (teq zpa).2 ?_
                refine XS.aload H hx rfl (hb hby at_167) rfl rfl ?_
                refine XS.aload H hx rfl (hb hby at_169) rfl rfl ?_
                exact kt
              have zpb : Old Z n0 zno := (znk.keep zns (allS (lT (lT Z0 (zl0.1)) (Nat.le_of_eq zl7.symm)) (allS (lT (lT Z0 (zle.1)) (Nat.le_of_eq zlm.symm)) (allS (lT (lT Z0 (zmd.1)) (Nat.le_of_eq zmi.symm)) all0))))
              refine Jvm.Q9.Aim.callV (argsL := [(.ref zl6)]) (rest := []) (y := (⟨"com/example/tophat_ledger/tophatledger/HoldingGroup", "equals", "(Ljava/lang/Object;)Z"⟩ : MethodName)) (z := (⟨"com/example/tophat_ledger/tophatledger/HoldingGroup", "equals", "(Ljava/lang/Object;)Z"⟩ : MethodName)) znq hx hZ hml hown (wI hw 91 rfl) (wI hw 92 rfl) (fun vm0 hZ => notFace_of_selects (args := #[]) (mvT (s := s.setVm vm0) hZ (wI hw 94 rfl))) (wI hw 94 rfl) (wI hw 93 rfl) (by decide) znt (fun vm0 hZ => Jvm.Y9.Con.back (s := s.setVm vm0) (W := 0) (own_eqH l Z a0 hw zl6 p3 zll t_1573 kb_1574 (txt p1) zmh t_1607 kb_1608 (txt p5) zl6 p3 zll t_1573 kb_1574 (txt p1) zmh t_1607 kb_1608 (txt p5) zno n0 (lT Z0 (znz.1)) znt znu znv znw znx zny znt znu znv znw znx zny zpb G) hZ (wI hw 95 rfl) (wI hw 7 rfl) (by decide) (by decide)) (fun _ _ ⟨_, q⟩ => (by subst q; exact Keep.refl _ [])) all0 rfl pd__28Ljava_2flang_2fObject_3b_29Z rfl (Nat.le_of_eq rfl) (hb hby at_171) (by decide) (by decide) ?_
              intro zpc zpd zpe zpf zpg
              obtain ⟨rfl, rfl⟩ := zpg
              exact Jvm.Q9.Aim.retN (t := .boolean) zpf hx hlk hret (by simp) (hb hby at_174) (by decide) (by decide) zna ⟨(by rw [eqV, if_pos ⟨rfl, rfl, rfl⟩]; rfl), znz⟩
            · skip
              have H := znq.here
              refine Jvm.Q9.Aim.of (T' := znn) (g' := (mkF m 175 #[.val (.int p1), .val (.int p2), .val (.int p3), .val (.int p4), .val (.int p5), .val (.int p6), .val (.ref c_676), .val (.ref c_1499), .val (.ref c_1512), .val (.ref c_1526), .val (.int zl2), .val (.ref zl6), .val (.int (((p6.toUInt32 >>> ((21 : Int32) &&& 31).toUInt32).toInt32) &&& (7 : Int32))), .unset, .unset] [])) (fun tgt kt => ?_) ?_
              · refine XS.icmpYes H hx rfl (pc0 := 164) (pc' := 175) rfl (hb hby at_164) rfl (feq zpa).2 (by decide) (by decide) ?_
                exact kt
              refine Jvm.Q9.Aim.newO znq hx hZ hown (wI hw 5 rfl) (wI hw 6 rfl) (wI hw 7 rfl) (hb hby at_175) (by decide) (by decide) ?_
              intro zph zpi zpj zpk zpl zpm zpn zpo zpp
              have zpq : Keep zno zpi [] := (Keep.refl _ _).ext zpm
              have zpr : Keep h0 zpi [] := znz.trans zpq all0
              have zps : Fld Z zpi zpj "com/example/tophat_ledger/tophatledger/HoldingGroup" "participant" "Ljava/lang/String;" .null := zpo (Or.inr (wI hw 34 rfl)) (ty := (.object "java/lang/String")) (by decide)
              have zpt : Fld Z zpi zpj "com/example/tophat_ledger/tophatledger/HoldingGroup" "year" "I" (.int 0) := zpo (Or.inr (wI hw 36 rfl)) (ty := .int) (by decide)
              have zpu : Fld Z zpi zpj "com/example/tophat_ledger/tophatledger/HoldingGroup" "source" "Ljava/lang/String;" .null := zpo (Or.inr (wI hw 38 rfl)) (ty := (.object "java/lang/String")) (by decide)
              have zpv : Fld Z zpi zpj "com/example/tophat_ledger/tophatledger/HoldingGroup" "hash" "I" (.int 0) := zpo (Or.inr (wI hw 87 rfl)) (ty := .int) (by decide)
              have H := zpl.here
              refine Jvm.Q9.Aim.of (T' := zph) (g' := (mkF m 179 #[.val (.int p1), .val (.int p2), .val (.int p3), .val (.int p4), .val (.int p5), .val (.int p6), .val (.ref c_676), .val (.ref c_1499), .val (.ref c_1512), .val (.ref c_1526), .val (.int zl2), .val (.ref zl6), .val (.int (((p6.toUInt32 >>> ((21 : Int32) &&& 31).toUInt32).toInt32) &&& (7 : Int32))), .unset, .unset] [(.ref zpj), (.ref zpj)])) (fun tgt kt => ?_) ?_
              · refine XS.dup H hx rfl (hb hby at_178) rfl rfl ?_
                exact kt
              refine Jvm.Q9.Aim.newO zpl hx hZ hown (wI hw 8 rfl) (wI hw 9 rfl) (wI hw 10 rfl) (hb hby at_179) (by decide) (by decide) ?_
              intro zpw zpx zpy zpz zq0 zq1 zq2 zq3 zq4
              have zq5 : Keep zpi zpx [] := (Keep.refl _ _).ext zq1
              have zq6 : Keep h0 zpx [] := zpr.trans zq5 all0
              have zq7 : Fld Z zpx zpy "java/lang/String" "value" "[B" .null := zq3 (Or.inr (wI hw 23 rfl)) (ty := (.array .byte)) (by decide)
              have zq8 : Fld Z zpx zpy "java/lang/String" "coder" "B" (.int 0) := zq3 (Or.inr (wI hw 24 rfl)) (ty := .byte) (by decide)
              have zq9 : Fld Z zpx zpy "java/lang/String" "hash" "I" (.int 0) := zq3 (Or.inl (wI hw 65 rfl)) (ty := .int) (by decide)
              have zqa : Fld Z zpx zpy "java/lang/String" "hashIsZero" "Z" (.int 0) := zq3 (Or.inl (wI hw 67 rfl)) (ty := .boolean) (by decide)
              have H := zq0.here
              refine Jvm.Q9.Aim.of (T' := zpw) (g' := (mkF m 185 #[.val (.int p1), .val (.int p2), .val (.int p3), .val (.int p4), .val (.int p5), .val (.int p6), .val (.ref c_676), .val (.ref c_1499), .val (.ref c_1512), .val (.ref c_1526), .val (.int zl2), .val (.ref zl6), .val (.int (((p6.toUInt32 >>> ((21 : Int32) &&& 31).toUInt32).toInt32) &&& (7 : Int32))), .unset, .unset] [(.ref c_1499), (.ref zpy), (.ref zpy), (.ref zpj), (.ref zpj)])) (fun tgt kt => ?_) ?_
              · refine XS.dup H hx rfl (hb hby at_182) rfl rfl ?_
                refine XS.aload H hx rfl (hb hby at_183) rfl rfl ?_
                exact kt
              have zqb : Arv Z zpx c_1499 kC_1500 .char (Int32.ofNat (txt p1).length) ((txt p1).map Value.int) (.int 0) := ((((((((((zkg.keep zkn nin0).keep zkx nin0).keep zld nin0).keep zls nin0).keep zm7 (ninS (nL (lL (lL zkg.lt (lT (lT zkn.1 zkx.1) zld.1)) (Nat.le_of_eq zlm.symm))) nin0)).keep zmo nin0).keep zn3 (ninS (nL (lL (lL zkg.lt (lT (lT (lT (lT zkn.1 zkx.1) zld.1) zls.1) zm7.1)) (Nat.le_of_eq zmi.symm))) nin0)).keep zns (ninS (nL (lL (lL zkg.lt (lT zkn.1 zkx.1)) (Nat.le_of_eq zl7.symm))) (ninS (nL (lL (lL zkg.lt (lT (lT zkn.1 zkx.1) zld.1)) (Nat.le_of_eq zlm.symm))) (ninS (nL (lL (lL zkg.lt (lT (lT (lT (lT zkn.1 zkx.1) zld.1) zls.1) zm7.1)) (Nat.le_of_eq zmi.symm))) nin0)))).keep zpq nin0).keep zq5 nin0)
              have zqc : Old Z n0 zpx := (((znk.keep zns (allS (lT (lT Z0 (zl0.1)) (Nat.le_of_eq zl7.symm)) (allS (lT (lT Z0 (zle.1)) (Nat.le_of_eq zlm.symm)) (allS (lT (lT Z0 (zmd.1)) (Nat.le_of_eq zmi.symm)) all0)))).keep zpq all0).keep zq5 all0)
              refine Jvm.Q9.Aim.callCW (argsL := [(.ref c_1499)]) (rest := [(.ref zpy), (.ref zpj), (.ref zpj)]) zq0 hx hZ hml hown rfl (wI hw 11 rfl) (wI hw 12 rfl) (wI hw 13 rfl) (by decide) (Jvm.Q9.Con.back (W := 3) (own_sC l Z a0 hw zpy c_1499 kC_1500 (txt p1) (.null) (.int 0) zpx n0 (lT Z0 (zq6.1)) zmz (lT (lT Z0 (zpr.1)) (Nat.le_of_eq zpz.symm)) (Jvm.Q9.nl_new zn0.ltL (lT (lT zns.1 zpq.1) (Nat.le_of_eq zpz.symm))) zq2 zq7 zq8 zq9 zqa zqb zqc (txt_len _) (txt_in _) G GL) (wI hw 13 rfl) (wI hw 10 rfl) (by decide) (by decide)) rfl pd__28_5bC_29V rfl (Nat.le_of_eq rfl) (hb hby at_185) (by decide) (by decide) ?_
              intro zqd zqe zqf zqg zqh zqi zqj
              obtain ⟨t_1744, kb_1745, rfl, zqk, zql, zqm, zqn, zqo, zqp⟩ := zqj
              have zqq : Keep h0 zqe [] := zq6.trans zqk (allS (Or.inr (lT (zpr.1) (Nat.le_of_eq zpz.symm))) all0)
              have zqr : Jvm.Q9.Grow Lc0 zqg h0.size := zna.trans zqi (zq6.1)
              have H := zqh.here
              refine Jvm.Q9.Aim.of (T' := zqd) (g' := (mkF m 190 #[.val (.int p1), .val (.int p2), .val (.int p3), .val (.int p4), .val (.int p5), .val (.int p6), .val (.ref c_676), .val (.ref c_1499), .val (.ref c_1512), .val (.ref c_1526), .val (.int zl2), .val (.ref zl6), .val (.int (((p6.toUInt32 >>> ((21 : Int32) &&& 31).toUInt32).toInt32) &&& (7 : Int32))), .unset, .unset] [(.int zl2), (.ref zpy), (.ref zpj), (.ref zpj)])) (fun tgt kt => ?_) ?_
              · refine XS.iload H hx rfl (hb hby at_188) rfl ?_
                exact kt
              refine Jvm.Q9.Aim.newO zqh hx hZ hown (wI hw 8 rfl) (wI hw 9 rfl) (wI hw 10 rfl) (hb hby at_190) (by decide) (by decide) ?_
              intro zqs zqt zqu zqv zqw zqx zqy zqz zr0
              have zr1 : Keep zqe zqt [] := (Keep.refl _ _).ext zqx
              have zr2 : Keep h0 zqt [] := zqq.trans zr1 all0
              have zr3 : Fld Z zqt zqu "java/lang/String" "value" "[B" .null := zqz (Or.inr (wI hw 23 rfl)) (ty := (.array .byte)) (by decide)
              have zr4 : Fld Z zqt zqu "java/lang/String" "coder" "B" (.int 0) := zqz (Or.inr (wI hw 24 rfl)) (ty := .byte) (by decide)
              have zr5 : Fld Z zqt zqu "java/lang/String" "hash" "I" (.int 0) := zqz (Or.inl (wI hw 65 rfl)) (ty := .int) (by decide)
              have zr6 : Fld Z zqt zqu "java/lang/String" "hashIsZero" "Z" (.int 0) := zqz (Or.inl (wI hw 67 rfl)) (ty := .boolean) (by decide)
              have H := zqw.here
              refine Jvm.Q9.Aim.of (T' := zqs) (g' := (mkF m 196 #[.val (.int p1), .val (.int p2), .val (.int p3), .val (.int p4), .val (.int p5), .val (.int p6), .val (.ref c_676), .val (.ref c_1499), .val (.ref c_1512), .val (.ref c_1526), .val (.int zl2), .val (.ref zl6), .val (.int (((p6.toUInt32 >>> ((21 : Int32) &&& 31).toUInt32).toInt32) &&& (7 : Int32))), .unset, .unset] [(.ref c_1526), (.ref zqu), (.ref zqu), (.int zl2), (.ref zpy), (.ref zpj), (.ref zpj)])) (fun tgt kt => ?_) ?_
              · refine XS.dup H hx rfl (hb hby at_193) rfl rfl ?_
                refine XS.aload H hx rfl (hb hby at_194) rfl rfl ?_
                exact kt
              have zr7 : Arv Z zqt c_1526 kC_1527 .char (Int32.ofNat (txt ((p6.toUInt32 >>> ((3 : Int32) &&& 31).toUInt32).toInt32)).length) ((txt ((p6.toUInt32 >>> ((3 : Int32) &&& 31).toUInt32).toInt32)).map Value.int) (.int 0) := ((((((((((zkz.keep zld nin0).keep zls nin0).keep zm7 (ninS (nL (lL (lL zkz.lt (zld.1)) (Nat.le_of_eq zlm.symm))) nin0)).keep zmo nin0).keep zn3 (ninS (nL (lL (lL zkz.lt (lT (lT zld.1 zls.1) zm7.1)) (Nat.le_of_eq zmi.symm))) nin0)).keep zns (ninS (nL (lL zkz.lt (Nat.le_of_eq zl7.symm))) (ninS (nL (lL (lL zkz.lt (zld.1)) (Nat.le_of_eq zlm.symm))) (ninS (nL (lL (lL zkz.lt (lT (lT zld.1 zls.1) zm7.1)) (Nat.le_of_eq zmi.symm))) nin0)))).keep zpq nin0).keep zq5 nin0).keep zqk (ninS (nL (lL (lL zkz.lt (lT (lT (lT (lT (lT (lT zld.1 zls.1) zm7.1) zmo.1) zn3.1) zns.1) zpq.1)) (Nat.le_of_eq zpz.symm))) nin0)).keep zr1 nin0)
              have zr8 : Old Z n0 zqt := ((zqc.keep zqk (allS (lT (lT Z0 (zpr.1)) (Nat.le_of_eq zpz.symm)) all0)).keep zr1 all0)
              refine Jvm.Q9.Aim.callCW (argsL := [(.ref c_1526)]) (rest := [(.ref zqu), (.int zl2), (.ref zpy), (.ref zpj), (.ref zpj)]) zqw hx hZ hml hown rfl (wI hw 11 rfl) (wI hw 12 rfl) (wI hw 13 rfl) (by decide) (Jvm.Q9.Con.back (W := 5) (own_sC l Z a0 hw zqu c_1526 kC_1527 (txt ((p6.toUInt32 >>> ((3 : Int32) &&& 31).toUInt32).toInt32)) (.null) (.int 0) zqt n0 (lT Z0 (zr2.1)) zqg (lT (lT Z0 (zqq.1)) (Nat.le_of_eq zqv.symm)) (Jvm.Q9.nl_new zqh.ltL (lT (Nat.le_refl _) (Nat.le_of_eq zqv.symm))) zqy zr3 zr4 zr5 zr6 zr7 zr8 (txt_len _) (txt_in _) G GL) (wI hw 13 rfl) (wI hw 10 rfl) (by decide) (by decide)) rfl pd__28_5bC_29V rfl (Nat.le_of_eq rfl) (hb hby at_196) (by decide) (by decide) ?_
              intro zr9 zra zrb zrc zrd zre zrf
              obtain ⟨t_1778, kb_1779, rfl, zrg, zrh, zri, zrj, zrk, zrl⟩ := zrf
              have zrm : Keep h0 zra [] := zr2.trans zrg (allS (Or.inr (lT (zqq.1) (Nat.le_of_eq zqv.symm))) all0)
              have zrn : Jvm.Q9.Grow Lc0 zrc h0.size := zqr.trans zre (zr2.1)
              have zro : Exa Z zra zpj "com/example/tophat_ledger/tophatledger/HoldingGroup" := ((((zpn.keep zq5).keep zqk).keep zr1).keep zrg)
              have zrp : Fld Z zra zpj "com/example/tophat_ledger/tophatledger/HoldingGroup" "participant" "Ljava/lang/String;" .null := ((((zps.keep zq5 nin0).keep zqk (ninS (nL (lL zpn.lt (Nat.le_of_eq zpz.symm))) nin0)).keep zr1 nin0).keep zrg (ninS (nL (lL (lL zpn.lt (lT zq5.1 zqk.1)) (Nat.le_of_eq zqv.symm))) nin0))
              have zrq : Fld Z zra zpj "com/example/tophat_ledger/tophatledger/HoldingGroup" "year" "I" (.int 0) := ((((zpt.keep zq5 nin0).keep zqk (ninS (nL (lL zpn.lt (Nat.le_of_eq zpz.symm))) nin0)).keep zr1 nin0).keep zrg (ninS (nL (lL (lL zpn.lt (lT zq5.1 zqk.1)) (Nat.le_of_eq zqv.symm))) nin0))
              have zrr : Fld Z zra zpj "com/example/tophat_ledger/tophatledger/HoldingGroup" "source" "Ljava/lang/String;" .null := ((((zpu.keep zq5 nin0).keep zqk (ninS (nL (lL zpn.lt (Nat.le_of_eq zpz.symm))) nin0)).keep zr1 nin0).keep zrg (ninS (nL (lL (lL zpn.lt (lT zq5.1 zqk.1)) (Nat.le_of_eq zqv.symm))) nin0))
              have zrs : Fld Z zra zpj "com/example/tophat_ledger/tophatledger/HoldingGroup" "hash" "I" (.int 0) := ((((zpv.keep zq5 nin0).keep zqk (ninS (nL (lL zpn.lt (Nat.le_of_eq zpz.symm))) nin0)).keep zr1 nin0).keep zrg (ninS (nL (lL (lL zpn.lt (lT zq5.1 zqk.1)) (Nat.le_of_eq zqv.symm))) nin0))
              have zrt : Str Z zra zpy t_1744 kb_1745 (txt p1) := ((zqm.keep zr1 nin0 nin0).keep zrg (ninS (nL (lL (lL zq2.lt (zqk.1)) (Nat.le_of_eq zqv.symm))) nin0) (ninS (nL (lL zqm.ltb (Nat.le_of_eq zqv.symm))) nin0))
              have zru : (2 ≤ (txt p1).length → Exa Z zra t_1744 "[B") := (fun q => ((fun q => (zqn q).keep zr1) q).keep zrg)
              have zrv : Fld Z zra zpy "java/lang/String" "hash" "I" (.int 0) := ((zqo.keep zr1 nin0).keep zrg (ninS (nL (lL (lL zq2.lt (zqk.1)) (Nat.le_of_eq zqv.symm))) nin0))
              have zrw : Fld Z zra zpy "java/lang/String" "hashIsZero" "Z" (.int 0) := ((zqp.keep zr1 nin0).keep zrg (ninS (nL (lL (lL zq2.lt (zqk.1)) (Nat.le_of_eq zqv.symm))) nin0))
              have zrx : Old Z n0 zra := (zr8.keep zrg (allS (lT (lT Z0 (zqq.1)) (Nat.le_of_eq zqv.symm)) all0))
              have zry : Exa Z zra zpy "java/lang/String" := (((zq2.keep zqk).keep zr1).keep zrg)
              have zrz : Exa Z zra zqu "java/lang/String" := (zqy.keep zrg)
              refine Jvm.Q9.Aim.callC (argsL := [(.ref zpy), (.int zl2), (.ref zqu)]) (rest := [(.ref zpj)]) zrd hx hZ hml hown rfl (wI hw 29 rfl) (wI hw 30 rfl) (wI hw 31 rfl) (by decide) (fun vm0 hZ => Jvm.Y9.Con.back (s := s.setVm vm0) (W := 1) (own_hg l Z a0 hw zpj zl2 (.null) (.int 0) (.null) (.int 0) zpy t_1744 kb_1745 (txt p1) zqu t_1778 kb_1779 (txt ((p6.toUInt32 >>> ((3 : Int32) &&& 31).toUInt32).toInt32)) zra n0 (lT Z0 (zrm.1)) (lT (lT Z0 (znz.1)) (Nat.le_of_eq zpk.symm)) (lT (lT Z0 (zpr.1)) (Nat.le_of_eq zpz.symm)) (lT (lT Z0 (zqq.1)) (Nat.le_of_eq zqv.symm)) zro zrp zrq zrr zrs zrt zru zrv zrw zri zrj zrk zrl zrx (nL (lL (lL zq2.lt (zqk.1)) (Nat.le_of_eq zqv.symm))) (Jvm.Q9.ori_ne zql (lT (lT Z0 (zpr.1)) (Nat.le_of_eq zpz.symm)) (Jvm.Q9.nl_step (Jvm.Q9.nl_new zn0.ltL (lT (lT zns.1 zpq.1) (Nat.le_of_eq zpz.symm))) zqi zq2.lt) zq2.lt) (nL (lL zqm.ltb (Nat.le_of_eq zqv.symm))) (Jvm.Q9.ori_ne zrh (lT (lT Z0 (zpr.1)) (Nat.le_of_eq zpz.symm)) (Jvm.Q9.nl_step (Jvm.Q9.nl_step (Jvm.Q9.nl_new zn0.ltL (lT (lT zns.1 zpq.1) (Nat.le_of_eq zpz.symm))) zqi zq2.lt) zre (lL zq2.lt (lT zqk.1 zr1.1))) (lL zq2.lt (lT zqk.1 zr1.1))) (Jvm.Q9.ori_ne zrh (lT (lT Z0 (zqq.1)) (Nat.le_of_eq zqv.symm)) (Jvm.Q9.nl_step (Jvm.Q9.nl_new zqh.ltL (lT (Nat.le_refl _) (Nat.le_of_eq zqv.symm))) zre zqy.lt) zqy.lt) (txt_len _) (txt_len _) (Jvm.Q9.ori_ne zql (lT (lT Z0 (znz.1)) (Nat.le_of_eq zpk.symm)) (Jvm.Q9.nl_step (Jvm.Q9.nl_new zn0.ltL (lT (zns.1) (Nat.le_of_eq zpk.symm))) zqi (lL zpn.lt (zq5.1))) (lL zpn.lt (zq5.1))) (Jvm.Q9.ori_ne zrh (lT (lT Z0 (znz.1)) (Nat.le_of_eq zpk.symm)) (Jvm.Q9.nl_step (Jvm.Q9.nl_step (Jvm.Q9.nl_new zn0.ltL (lT (zns.1) (Nat.le_of_eq zpk.symm))) zqi (lL zpn.lt (zq5.1))) zre (lL zpn.lt (lT (lT zq5.1 zqk.1) zr1.1))) (lL zpn.lt (lT (lT zq5.1 zqk.1) zr1.1))) G GI) hZ (wI hw 31 rfl) (wI hw 7 rfl) (by decide) (by decide)) (fun _ _ ⟨_, q, _, _, _, _, _, _⟩ => q) (allS (Jvm.Q9.nl_step (Jvm.Q9.nl_step (Jvm.Q9.nl_new zn0.ltL (lT (zns.1) (Nat.le_of_eq zpk.symm))) zqi (lL zpn.lt (zq5.1))) zre (lL zpn.lt (lT (lT zq5.1 zqk.1) zr1.1))) (allS (Jvm.Q9.nl_step (Jvm.Q9.nl_step (Jvm.Q9.nl_new zn0.ltL (lT (lT zns.1 zpq.1) (Nat.le_of_eq zpz.symm))) zqi zq2.lt) zre (lL zq2.lt (lT zqk.1 zr1.1))) (allS (Jvm.Q9.nl_step (Jvm.Q9.nl_new zqh.ltL (lT (Nat.le_refl _) (Nat.le_of_eq zqv.symm))) zre zqy.lt) all0))) rfl pd__28Ljava_2flang_2fString_3bILjava_2flang_2fString_3b_29V rfl (Nat.le_of_eq rfl) (hb hby at_199) (by decide) (by decide) ?_
              intro zs0 zs1 zs2 zs3 zs4
              obtain ⟨rfl, zs5, zs6, zs7, zs8, zs9, zsa, zsb⟩ := zs4
              have zsc : Keep h0 zs1 [] := zrm.trans zs5 (allS (Or.inr (lT (znz.1) (Nat.le_of_eq zpk.symm))) (allS (Or.inr (lT (zpr.1) (Nat.le_of_eq zpz.symm))) (allS (Or.inr (lT (zqq.1) (Nat.le_of_eq zqv.symm))) all0)))
              have H := zs3.here
              refine Jvm.Q9.Aim.of (T' := zs0) (g' := (mkF m 207 #[.val (.int p1), .val (.int p2), .val (.int p3), .val (.int p4), .val (.int p5), .val (.int p6), .val (.ref c_676), .val (.ref c_1499), .val (.ref c_1512), .val (.ref c_1526), .val (.int zl2), .val (.ref zl6), .val (.int (((p6.toUInt32 >>> ((21 : Int32) &&& 31).toUInt32).toInt32) &&& (7 : Int32))), .val (.ref zpj), .unset] [(.int p3), (.int zl2)])) (fun tgt kt => ?_) ?_
              · refine XS.astore H hx rfl (hb hby at_202) rfl rfl (l' := #[.val (.int p1), .val (.int p2), .val (.int p3), .val (.int p4), .val (.int p5), .val (.int p6), .val (.ref c_676), .val (.ref c_1499), .val (.ref c_1512), .val (.ref c_1526), .val (.int zl2), .val (.ref zl6), .val (.int (((p6.toUInt32 >>> ((21 : Int32) &&& 31).toUInt32).toInt32) &&& (7 : Int32))), .val (.ref zpj), .unset]) rfl ?_
                refine XS.iload H hx rfl (hb hby at_204) rfl ?_
                refine XS.iloadN H hx rfl (hb hby at_206) rfl ?_
                exact kt
              by_cases zsd : zl2 = p3
              · skip
                have H := zs3.here
                refine Jvm.Q9.Aim.of (T' := zs0) (g' := (mkF m 214 #[.val (.int p1), .val (.int p2), .val (.int p3), .val (.int p4), .val (.int p5), .val (.int p6), .val (.ref c_676), .val (.ref c_1499), .val (.ref c_1512), .val (.ref c_1526), .val (.int zl2), .val (.ref zl6), .val (.int (((p6.toUInt32 >>> ((21 : Int32) &&& 31).toUInt32).toInt32) &&& (7 : Int32))), .val (.ref zpj), .unset] [(.ref c_1499), (.ref c_676)])) (fun tgt kt => ?_) ?_
                · refine XS.icmpNo H hx rfl (hb hby at_207) rfl (teq zsd).2 ?_
                  refine XS.aload H hx rfl (hb hby at_210) rfl rfl ?_
                  refine XS.aload H hx rfl (hb hby at_212) rfl rfl ?_
                  exact kt
                have zse : Arv Z zs1 c_676 kC_677 .char (Int32.ofNat (txt p1).length) ((txt p1).map Value.int) (.int 0) := ((((((((((zly.keep zm7 (ninS (nL (lL (lL z7.lt (lT (lT (lT zke.1 zkn.1) zkx.1) zld.1)) (Nat.le_of_eq zlm.symm))) nin0)).keep zmo nin0).keep zn3 (ninS (nL (lL (lL z7.lt (lT (lT (lT (lT (lT zke.1 zkn.1) zkx.1) zld.1) zls.1) zm7.1)) (Nat.le_of_eq zmi.symm))) nin0)).keep zns (ninS (nL (lL (lL z7.lt (lT (lT zke.1 zkn.1) zkx.1)) (Nat.le_of_eq zl7.symm))) (ninS (nL (lL (lL z7.lt (lT (lT (lT zke.1 zkn.1) zkx.1) zld.1)) (Nat.le_of_eq zlm.symm))) (ninS (nL (lL (lL z7.lt (lT (lT (lT (lT (lT zke.1 zkn.1) zkx.1) zld.1) zls.1) zm7.1)) (Nat.le_of_eq zmi.symm))) nin0)))).keep zpq nin0).keep zq5 nin0).keep zqk (ninS (nL (lL (lL z7.lt (lT (lT (lT (lT (lT (lT (lT (lT (lT zke.1 zkn.1) zkx.1) zld.1) zls.1) zm7.1) zmo.1) zn3.1) zns.1) zpq.1)) (Nat.le_of_eq zpz.symm))) nin0)).keep zr1 nin0).keep zrg (ninS (nL (lL (lL z7.lt (lT (lT (lT (lT (lT (lT (lT (lT (lT (lT (lT zke.1 zkn.1) zkx.1) zld.1) zls.1) zm7.1) zmo.1) zn3.1) zns.1) zpq.1) zq5.1) zqk.1)) (Nat.le_of_eq zqv.symm))) nin0)).keep zs5 (ninS (nL (lL (lL z7.lt (lT (lT (lT (lT (lT (lT (lT (lT zke.1 zkn.1) zkx.1) zld.1) zls.1) zm7.1) zmo.1) zn3.1) zns.1)) (Nat.le_of_eq zpk.symm))) (ninS (nL (lL (lL z7.lt (lT (lT (lT (lT (lT (lT (lT (lT (lT zke.1 zkn.1) zkx.1) zld.1) zls.1) zm7.1) zmo.1) zn3.1) zns.1) zpq.1)) (Nat.le_of_eq zpz.symm))) (ninS (nL (lL (lL z7.lt (lT (lT (lT (lT (lT (lT (lT (lT (lT (lT (lT zke.1 zkn.1) zkx.1) zld.1) zls.1) zm7.1) zmo.1) zn3.1) zns.1) zpq.1) zq5.1) zqk.1)) (Nat.le_of_eq zqv.symm))) nin0))))
                have zsf : Arv Z zs1 c_1499 kC_1500 .char (Int32.ofNat (txt p1).length) ((txt p1).map Value.int) (.int 0) := ((((zqb.keep zqk (ninS (nL (lL (lL zkg.lt (lT (lT (lT (lT (lT (lT (lT (lT zkn.1 zkx.1) zld.1) zls.1) zm7.1) zmo.1) zn3.1) zns.1) zpq.1)) (Nat.le_of_eq zpz.symm))) nin0)).keep zr1 nin0).keep zrg (ninS (nL (lL (lL zkg.lt (lT (lT (lT (lT (lT (lT (lT (lT (lT (lT zkn.1 zkx.1) zld.1) zls.1) zm7.1) zmo.1) zn3.1) zns.1) zpq.1) zq5.1) zqk.1)) (Nat.le_of_eq zqv.symm))) nin0)).keep zs5 (ninS (nL (lL (lL zkg.lt (lT (lT (lT (lT (lT (lT (lT zkn.1 zkx.1) zld.1) zls.1) zm7.1) zmo.1) zn3.1) zns.1)) (Nat.le_of_eq zpk.symm))) (ninS (nL (lL (lL zkg.lt (lT (lT (lT (lT (lT (lT (lT (lT zkn.1 zkx.1) zld.1) zls.1) zm7.1) zmo.1) zn3.1) zns.1) zpq.1)) (Nat.le_of_eq zpz.symm))) (ninS (nL (lL (lL zkg.lt (lT (lT (lT (lT (lT (lT (lT (lT (lT (lT zkn.1 zkx.1) zld.1) zls.1) zm7.1) zmo.1) zn3.1) zns.1) zpq.1) zq5.1) zqk.1)) (Nat.le_of_eq zqv.symm))) nin0))))
                refine Jvm.Q9.Aim.callS (argsL := [(.ref c_676), (.ref c_1499)]) (rest := []) zs3 hx hZ hml hown (wI hw 88 rfl) (wI hw 89 rfl) (wI hw 2 rfl) (wI hw 90 rfl) (by decide) (fun vm0 hZ => Jvm.Y9.Con.back (s := s.setVm vm0) (W := 0) (own_same l Z a0 hw c_676 kC_677 (txt p1) c_1499 kC_1500 (txt p1) zs1 n0 (lT Z0 (zsc.1)) zse zsf (txt_len _) (txt_len _)) hZ (wI hw 90 rfl) (wI hw 2 rfl) (by decide) (by decide)) (fun _ _ ⟨_, q⟩ => (by subst q; exact Keep.refl _ [])) all0 rfl pd__28_5bC_5bC_29Z rfl (Nat.le_of_eq rfl) (hb hby at_214) (by decide) (by decide) ?_
                intro zsg zsh zsi zsj zsk
                obtain ⟨rfl, rfl⟩ := zsk
                have H := zsj.here
                refine Jvm.Q9.Aim.of (T' := zsg) (g' := (mkF m 224 #[.val (.int p1), .val (.int p2), .val (.int p3), .val (.int p4), .val (.int p5), .val (.int p6), .val (.ref c_676), .val (.ref c_1499), .val (.ref c_1512), .val (.ref c_1526), .val (.int zl2), .val (.ref zl6), .val (.int (((p6.toUInt32 >>> ((21 : Int32) &&& 31).toUInt32).toInt32) &&& (7 : Int32))), .val (.ref zpj), .unset] [(.ref c_1526), (.ref c_1512)])) (fun tgt kt => ?_) ?_
                · refine XS.ifNo H hx rfl (hb hby at_217) rfl ((if0 _ _).trans (feq (by rw [if_pos rfl]; decide)).1) ?_
                  refine XS.aload H hx rfl (hb hby at_220) rfl rfl ?_
                  refine XS.aload H hx rfl (hb hby at_222) rfl rfl ?_
                  exact kt
                have zsl : Arv Z zs1 c_1512 kC_1513 .char (Int32.ofNat (txt p5).length) ((txt p5).map Value.int) (.int 0) := ((((((((zmu.keep zn3 (ninS (nL (lL (lL zkp.lt (lT (lT (lT zkx.1 zld.1) zls.1) zm7.1)) (Nat.le_of_eq zmi.symm))) nin0)).keep zns (ninS (nL (lL (lL zkp.lt (zkx.1)) (Nat.le_of_eq zl7.symm))) (ninS (nL (lL (lL zkp.lt (lT zkx.1 zld.1)) (Nat.le_of_eq zlm.symm))) (ninS (nL (lL (lL zkp.lt (lT (lT (lT zkx.1 zld.1) zls.1) zm7.1)) (Nat.le_of_eq zmi.symm))) nin0)))).keep zpq nin0).keep zq5 nin0).keep zqk (ninS (nL (lL (lL zkp.lt (lT (lT (lT (lT (lT (lT (lT zkx.1 zld.1) zls.1) zm7.1) zmo.1) zn3.1) zns.1) zpq.1)) (Nat.le_of_eq zpz.symm))) nin0)).keep zr1 nin0).keep zrg (ninS (nL (lL (lL zkp.lt (lT (lT (lT (lT (lT (lT (lT (lT (lT zkx.1 zld.1) zls.1) zm7.1) zmo.1) zn3.1) zns.1) zpq.1) zq5.1) zqk.1)) (Nat.le_of_eq zqv.symm))) nin0)).keep zs5 (ninS (nL (lL (lL zkp.lt (lT (lT (lT (lT (lT (lT zkx.1 zld.1) zls.1) zm7.1) zmo.1) zn3.1) zns.1)) (Nat.le_of_eq zpk.symm))) (ninS (nL (lL (lL zkp.lt (lT (lT (lT (lT (lT (lT (lT zkx.1 zld.1) zls.1) zm7.1) zmo.1) zn3.1) zns.1) zpq.1)) (Nat.le_of_eq zpz.symm))) (ninS (nL (lL (lL zkp.lt (lT (lT (lT (lT (lT (lT (lT (lT (lT zkx.1 zld.1) zls.1) zm7.1) zmo.1) zn3.1) zns.1) zpq.1) zq5.1) zqk.1)) (Nat.le_of_eq zqv.symm))) nin0))))
                have zsm : Arv Z zs1 c_1526 kC_1527 .char (Int32.ofNat (txt ((p6.toUInt32 >>> ((3 : Int32) &&& 31).toUInt32).toInt32)).length) ((txt ((p6.toUInt32 >>> ((3 : Int32) &&& 31).toUInt32).toInt32)).map Value.int) (.int 0) := ((zr7.keep zrg (ninS (nL (lL (lL zkz.lt (lT (lT (lT (lT (lT (lT (lT (lT zld.1 zls.1) zm7.1) zmo.1) zn3.1) zns.1) zpq.1) zq5.1) zqk.1)) (Nat.le_of_eq zqv.symm))) nin0)).keep zs5 (ninS (nL (lL (lL zkz.lt (lT (lT (lT (lT (lT zld.1 zls.1) zm7.1) zmo.1) zn3.1) zns.1)) (Nat.le_of_eq zpk.symm))) (ninS (nL (lL (lL zkz.lt (lT (lT (lT (lT (lT (lT zld.1 zls.1) zm7.1) zmo.1) zn3.1) zns.1) zpq.1)) (Nat.le_of_eq zpz.symm))) (ninS (nL (lL (lL zkz.lt (lT (lT (lT (lT (lT (lT (lT (lT zld.1 zls.1) zm7.1) zmo.1) zn3.1) zns.1) zpq.1) zq5.1) zqk.1)) (Nat.le_of_eq zqv.symm))) nin0))))
                refine Jvm.Q9.Aim.callS (argsL := [(.ref c_1512), (.ref c_1526)]) (rest := []) zsj hx hZ hml hown (wI hw 88 rfl) (wI hw 89 rfl) (wI hw 2 rfl) (wI hw 90 rfl) (by decide) (fun vm0 hZ => Jvm.Y9.Con.back (s := s.setVm vm0) (W := 0) (own_same l Z a0 hw c_1512 kC_1513 (txt p5) c_1526 kC_1527 (txt ((p6.toUInt32 >>> ((3 : Int32) &&& 31).toUInt32).toInt32)) zs1 n0 (lT Z0 (zsc.1)) zsl zsm (txt_len _) (txt_len _)) hZ (wI hw 90 rfl) (wI hw 2 rfl) (by decide) (by decide)) (fun _ _ ⟨_, q⟩ => (by subst q; exact Keep.refl _ [])) all0 rfl pd__28_5bC_5bC_29Z rfl (Nat.le_of_eq rfl) (hb hby at_224) (by decide) (by decide) ?_
                intro zsn zso zsp zsq zsr
                obtain ⟨rfl, rfl⟩ := zsr
                by_cases zss : (if (txt p5) = (txt ((p6.toUInt32 >>> ((3 : Int32) &&& 31).toUInt32).toInt32)) then (1 : Int32) else (0 : Int32)) = (0 : Int32)
                · skip
                  have H := zsq.here
                  refine Jvm.Q9.Aim.of (T' := zsn) (g' := (mkF m 241 #[.val (.int p1), .val (.int p2), .val (.int p3), .val (.int p4), .val (.int p5), .val (.int p6), .val (.ref c_676), .val (.ref c_1499), .val (.ref c_1512), .val (.ref c_1526), .val (.int zl2), .val (.ref zl6), .val (.int (((p6.toUInt32 >>> ((21 : Int32) &&& 31).toUInt32).toInt32) &&& (7 : Int32))), .val (.ref zpj), .val (.int 0)] [(.ref zpj), (.ref zl6)])) (fun tgt kt => ?_) ?_
                  · refine XS.ifYes H hx rfl (pc0 := 227) (pc' := 234) rfl (hb hby at_227) rfl ((if0 _ _).trans (teq zss).1) (by decide) (by decide) ?_
                    refine XS.iconst H hx rfl (hb hby at_234) ?_
                    refine XS.istore H hx rfl (hb hby at_235) rfl (l' := #[.val (.int p1), .val (.int p2), .val (.int p3), .val (.int p4), .val (.int p5), .val (.int p6), .val (.ref c_676), .val (.ref c_1499), .val (.ref c_1512), .val (.ref c_1526), .val (.int zl2), .val (.ref zl6), .val (.int (((p6.toUInt32 >>> ((21 : Int32) &&& 31).toUInt32).toInt32) &&& (7 : Int32))), .val (.ref zpj), .val (.int 0)]) rfl ?_
                    refine XS.aload H hx rfl (hb hby at_237) rfl rfl ?_
                    refine XS.aload H hx rfl (hb hby at_239) rfl rfl ?_
                    exact kt
                  have zst : Exa Z zs1 zl6 "com/example/tophat_ledger/tophatledger/HoldingGroup" := ((((((znt.keep zpq).keep zq5).keep zqk).keep zr1).keep zrg).keep zs5)
                  have zsu : Fld Z zs1 zl6 "com/example/tophat_ledger/tophatledger/HoldingGroup" "participant" "Ljava/lang/String;" (.ref zll) := ((((((znu.keep zpq nin0).keep zq5 nin0).keep zqk (ninS (nL (lL (lL zla.lt (lT (lT (lT (lT (lT zls.1 zm7.1) zmo.1) zn3.1) zns.1) zpq.1)) (Nat.le_of_eq zpz.symm))) nin0)).keep zr1 nin0).keep zrg (ninS (nL (lL (lL zla.lt (lT (lT (lT (lT (lT (lT (lT zls.1 zm7.1) zmo.1) zn3.1) zns.1) zpq.1) zq5.1) zqk.1)) (Nat.le_of_eq zqv.symm))) nin0)).keep zs5 (ninS (nL (lL (lL zla.lt (lT (lT (lT (lT zls.1 zm7.1) zmo.1) zn3.1) zns.1)) (Nat.le_of_eq zpk.symm))) (ninS (nL (lL (lL zla.lt (lT (lT (lT (lT (lT zls.1 zm7.1) zmo.1) zn3.1) zns.1) zpq.1)) (Nat.le_of_eq zpz.symm))) (ninS (nL (lL (lL zla.lt (lT (lT (lT (lT (lT (lT (lT zls.1 zm7.1) zmo.1) zn3.1) zns.1) zpq.1) zq5.1) zqk.1)) (Nat.le_of_eq zqv.symm))) nin0))))
                  have zsv : Fld Z zs1 zl6 "com/example/tophat_ledger/tophatledger/HoldingGroup" "year" "I" (.int p3) := ((((((znv.keep zpq nin0).keep zq5 nin0).keep zqk (ninS (nL (lL (lL zla.lt (lT (lT (lT (lT (lT zls.1 zm7.1) zmo.1) zn3.1) zns.1) zpq.1)) (Nat.le_of_eq zpz.symm))) nin0)).keep zr1 nin0).keep zrg (ninS (nL (lL (lL zla.lt (lT (lT (lT (lT (lT (lT (lT zls.1 zm7.1) zmo.1) zn3.1) zns.1) zpq.1) zq5.1) zqk.1)) (Nat.le_of_eq zqv.symm))) nin0)).keep zs5 (ninS (nL (lL (lL zla.lt (lT (lT (lT (lT zls.1 zm7.1) zmo.1) zn3.1) zns.1)) (Nat.le_of_eq zpk.symm))) (ninS (nL (lL (lL zla.lt (lT (lT (lT (lT (lT zls.1 zm7.1) zmo.1) zn3.1) zns.1) zpq.1)) (Nat.le_of_eq zpz.symm))) (ninS (nL (lL (lL zla.lt (lT (lT (lT (lT (lT (lT (lT zls.1 zm7.1) zmo.1) zn3.1) zns.1) zpq.1) zq5.1) zqk.1)) (Nat.le_of_eq zqv.symm))) nin0))))
                  have zsw : Fld Z zs1 zl6 "com/example/tophat_ledger/tophatledger/HoldingGroup" "source" "Ljava/lang/String;" (.ref zmh) := ((((((znw.keep zpq nin0).keep zq5 nin0).keep zqk (ninS (nL (lL (lL zla.lt (lT (lT (lT (lT (lT zls.1 zm7.1) zmo.1) zn3.1) zns.1) zpq.1)) (Nat.le_of_eq zpz.symm))) nin0)).keep zr1 nin0).keep zrg (ninS (nL (lL (lL zla.lt (lT (lT (lT (lT (lT (lT (lT zls.1 zm7.1) zmo.1) zn3.1) zns.1) zpq.1) zq5.1) zqk.1)) (Nat.le_of_eq zqv.symm))) nin0)).keep zs5 (ninS (nL (lL (lL zla.lt (lT (lT (lT (lT zls.1 zm7.1) zmo.1) zn3.1) zns.1)) (Nat.le_of_eq zpk.symm))) (ninS (nL (lL (lL zla.lt (lT (lT (lT (lT (lT zls.1 zm7.1) zmo.1) zn3.1) zns.1) zpq.1)) (Nat.le_of_eq zpz.symm))) (ninS (nL (lL (lL zla.lt (lT (lT (lT (lT (lT (lT (lT zls.1 zm7.1) zmo.1) zn3.1) zns.1) zpq.1) zq5.1) zqk.1)) (Nat.le_of_eq zqv.symm))) nin0))))
                  have zsx : Str Z zs1 zll t_1573 kb_1574 (txt p1) := ((((((znx.keep zpq nin0 nin0).keep zq5 nin0 nin0).keep zqk (ninS (nL (lL (lL zlp.lt (lT (lT (lT (lT zm7.1 zmo.1) zn3.1) zns.1) zpq.1)) (Nat.le_of_eq zpz.symm))) nin0) (ninS (nL (lL (lL zm9.ltb (lT (lT (lT zmo.1 zn3.1) zns.1) zpq.1)) (Nat.le_of_eq zpz.symm))) nin0)).keep zr1 nin0 nin0).keep zrg (ninS (nL (lL (lL zlp.lt (lT (lT (lT (lT (lT (lT zm7.1 zmo.1) zn3.1) zns.1) zpq.1) zq5.1) zqk.1)) (Nat.le_of_eq zqv.symm))) nin0) (ninS (nL (lL (lL zm9.ltb (lT (lT (lT (lT (lT zmo.1 zn3.1) zns.1) zpq.1) zq5.1) zqk.1)) (Nat.le_of_eq zqv.symm))) nin0)).keep zs5 (ninS (nL (lL (lL zlp.lt (lT (lT (lT zm7.1 zmo.1) zn3.1) zns.1)) (Nat.le_of_eq zpk.symm))) (ninS (nL (lL (lL zlp.lt (lT (lT (lT (lT zm7.1 zmo.1) zn3.1) zns.1) zpq.1)) (Nat.le_of_eq zpz.symm))) (ninS (nL (lL (lL zlp.lt (lT (lT (lT (lT (lT (lT zm7.1 zmo.1) zn3.1) zns.1) zpq.1) zq5.1) zqk.1)) (Nat.le_of_eq zqv.symm))) nin0))) (ninS (nL (lL (lL zm9.ltb (lT (lT zmo.1 zn3.1) zns.1)) (Nat.le_of_eq zpk.symm))) (ninS (nL (lL (lL zm9.ltb (lT (lT (lT zmo.1 zn3.1) zns.1) zpq.1)) (Nat.le_of_eq zpz.symm))) (ninS (nL (lL (lL zm9.ltb (lT (lT (lT (lT (lT zmo.1 zn3.1) zns.1) zpq.1) zq5.1) zqk.1)) (Nat.le_of_eq zqv.symm))) nin0))))
                  have zsy : Str Z zs1 zmh t_1607 kb_1608 (txt p5) := ((((((zny.keep zpq nin0 nin0).keep zq5 nin0 nin0).keep zqk (ninS (nL (lL (lL zml.lt (lT (lT zn3.1 zns.1) zpq.1)) (Nat.le_of_eq zpz.symm))) nin0) (ninS (nL (lL (lL zn5.ltb (lT zns.1 zpq.1)) (Nat.le_of_eq zpz.symm))) nin0)).keep zr1 nin0 nin0).keep zrg (ninS (nL (lL (lL zml.lt (lT (lT (lT (lT zn3.1 zns.1) zpq.1) zq5.1) zqk.1)) (Nat.le_of_eq zqv.symm))) nin0) (ninS (nL (lL (lL zn5.ltb (lT (lT (lT zns.1 zpq.1) zq5.1) zqk.1)) (Nat.le_of_eq zqv.symm))) nin0)).keep zs5 (ninS (nL (lL (lL zml.lt (lT zn3.1 zns.1)) (Nat.le_of_eq zpk.symm))) (ninS (nL (lL (lL zml.lt (lT (lT zn3.1 zns.1) zpq.1)) (Nat.le_of_eq zpz.symm))) (ninS (nL (lL (lL zml.lt (lT (lT (lT (lT zn3.1 zns.1) zpq.1) zq5.1) zqk.1)) (Nat.le_of_eq zqv.symm))) nin0))) (ninS (nL (lL (lL zn5.ltb (zns.1)) (Nat.le_of_eq zpk.symm))) (ninS (nL (lL (lL zn5.ltb (lT zns.1 zpq.1)) (Nat.le_of_eq zpz.symm))) (ninS (nL (lL (lL zn5.ltb (lT (lT (lT zns.1 zpq.1) zq5.1) zqk.1)) (Nat.le_of_eq zqv.symm))) nin0))))
                  have zsz : Old Z n0 zs1 := (zrx.keep zs5 (allS (lT (lT Z0 (znz.1)) (Nat.le_of_eq zpk.symm)) (allS (lT (lT Z0 (zpr.1)) (Nat.le_of_eq zpz.symm)) (allS (lT (lT Z0 (zqq.1)) (Nat.le_of_eq zqv.symm)) all0))))
                  refine Jvm.Q9.Aim.callV (argsL := [(.ref zpj)]) (rest := []) (y := (⟨"com/example/tophat_ledger/tophatledger/HoldingGroup", "equals", "(Ljava/lang/Object;)Z"⟩ : MethodName)) (z := (⟨"com/example/tophat_ledger/tophatledger/HoldingGroup", "equals", "(Ljava/lang/Object;)Z"⟩ : MethodName)) zsq hx hZ hml hown (wI hw 91 rfl) (wI hw 92 rfl) (fun vm0 hZ => notFace_of_selects (args := #[]) (mvT (s := s.setVm vm0) hZ (wI hw 94 rfl))) (wI hw 94 rfl) (wI hw 93 rfl) (by decide) zst (fun vm0 hZ => Jvm.Y9.Con.back (s := s.setVm vm0) (W := 0) (own_eqH l Z a0 hw zl6 p3 zll t_1573 kb_1574 (txt p1) zmh t_1607 kb_1608 (txt p5) zpj zl2 zpy t_1744 kb_1745 (txt p1) zqu t_1778 kb_1779 (txt ((p6.toUInt32 >>> ((3 : Int32) &&& 31).toUInt32).toInt32)) zs1 n0 (lT Z0 (zsc.1)) zst zsu zsv zsw zsx zsy zs6 zs7 zs8 zs9 zsa zsb zsz G) hZ (wI hw 95 rfl) (wI hw 7 rfl) (by decide) (by decide)) (fun _ _ ⟨_, q⟩ => (by subst q; exact Keep.refl _ [])) all0 rfl pd__28Ljava_2flang_2fObject_3b_29Z rfl (Nat.le_of_eq rfl) (hb hby at_241) (by decide) (by decide) ?_
                  intro zt0 zt1 zt2 zt3 zt4
                  obtain ⟨rfl, rfl⟩ := zt4
                  have H := zt3.here
                  refine Jvm.Q9.Aim.of (T' := zt0) (g' := (mkF m 253 #[.val (.int p1), .val (.int p2), .val (.int p3), .val (.int p4), .val (.int p5), .val (.int p6), .val (.ref c_676), .val (.ref c_1499), .val (.ref c_1512), .val (.ref c_1526), .val (.int zl2), .val (.ref zl6), .val (.int (((p6.toUInt32 >>> ((21 : Int32) &&& 31).toUInt32).toInt32) &&& (7 : Int32))), .val (.ref zpj), .val (.int 0)] [(.ref zl6), (.ref zpj)])) (fun tgt kt => ?_) ?_
                  · refine XS.iload H hx rfl (hb hby at_244) rfl ?_
                    refine XS.icmpNo H hx rfl (hb hby at_246) rfl (teq (if_neg (fun q => (fun q => by rw [if_pos q] at zss; cases zss) q.2.2))).2 ?_
                    refine XS.aload H hx rfl (hb hby at_249) rfl rfl ?_
                    refine XS.aload H hx rfl (hb hby at_251) rfl rfl ?_
                    exact kt
                  refine Jvm.Q9.Aim.callV (argsL := [(.ref zl6)]) (rest := []) (y := (⟨"com/example/tophat_ledger/tophatledger/HoldingGroup", "equals", "(Ljava/lang/Object;)Z"⟩ : MethodName)) (z := (⟨"com/example/tophat_ledger/tophatledger/HoldingGroup", "equals", "(Ljava/lang/Object;)Z"⟩ : MethodName)) zt3 hx hZ hml hown (wI hw 91 rfl) (wI hw 92 rfl) (fun vm0 hZ => notFace_of_selects (args := #[]) (mvT (s := s.setVm vm0) hZ (wI hw 94 rfl))) (wI hw 94 rfl) (wI hw 93 rfl) (by decide) zs6 (fun vm0 hZ => Jvm.Y9.Con.back (s := s.setVm vm0) (W := 0) (own_eqH l Z a0 hw zpj zl2 zpy t_1744 kb_1745 (txt p1) zqu t_1778 kb_1779 (txt ((p6.toUInt32 >>> ((3 : Int32) &&& 31).toUInt32).toInt32)) zl6 p3 zll t_1573 kb_1574 (txt p1) zmh t_1607 kb_1608 (txt p5) zs1 n0 (lT Z0 (zsc.1)) zs6 zs7 zs8 zs9 zsa zsb zst zsu zsv zsw zsx zsy zsz G) hZ (wI hw 95 rfl) (wI hw 7 rfl) (by decide) (by decide)) (fun _ _ ⟨_, q⟩ => (by subst q; exact Keep.refl _ [])) all0 rfl pd__28Ljava_2flang_2fObject_3b_29Z rfl (Nat.le_of_eq rfl) (hb hby at_253) (by decide) (by decide) ?_
                  intro zt5 zt6 zt7 zt8 zt9
                  obtain ⟨rfl, rfl⟩ := zt9
                  have H := zt8.here
                  refine Jvm.Q9.Aim.of (T' := zt5) (g' := (mkF m 266 #[.val (.int p1), .val (.int p2), .val (.int p3), .val (.int p4), .val (.int p5), .val (.int p6), .val (.ref c_676), .val (.ref c_1499), .val (.ref c_1512), .val (.ref c_1526), .val (.int zl2), .val (.ref zl6), .val (.int (((p6.toUInt32 >>> ((21 : Int32) &&& 31).toUInt32).toInt32) &&& (7 : Int32))), .val (.ref zpj), .val (.int 0)] [(.int 1)])) (fun tgt kt => ?_) ?_
                  · refine XS.iload H hx rfl (hb hby at_256) rfl ?_
                    refine XS.icmpNo H hx rfl (hb hby at_258) rfl (teq (if_neg (fun q => (fun q => by rw [if_pos (Eq.symm q)] at zss; cases zss) q.2.2))).2 ?_
                    refine XS.iconst H hx rfl (hb hby at_261) ?_
                    refine XS.goto H hx rfl (pc0 := 262) (pc' := 266) rfl (hb hby at_262) (by decide) (by decide) ?_
                    exact kt
                  exact Jvm.Q9.Aim.retN (t := .boolean) zt8 hx hlk hret (by simp) (hb hby at_266) (by decide) (by decide) zrn ⟨rfl, zsc⟩
                · skip
                  have H := zsq.here
                  refine Jvm.Q9.Aim.of (T' := zsn) (g' := (mkF m 241 #[.val (.int p1), .val (.int p2), .val (.int p3), .val (.int p4), .val (.int p5), .val (.int p6), .val (.ref c_676), .val (.ref c_1499), .val (.ref c_1512), .val (.ref c_1526), .val (.int zl2), .val (.ref zl6), .val (.int (((p6.toUInt32 >>> ((21 : Int32) &&& 31).toUInt32).toInt32) &&& (7 : Int32))), .val (.ref zpj), .val (.int 1)] [(.ref zpj), (.ref zl6)])) (fun tgt kt => ?_) ?_
                  · refine XS.ifNo H hx rfl (hb hby at_227) rfl ((if0 _ _).trans (feq zss).1) ?_
                    refine XS.iconst H hx rfl (hb hby at_230) ?_
                    refine XS.goto H hx rfl (pc0 := 231) (pc' := 235) rfl (hb hby at_231) (by decide) (by decide) ?_
                    refine XS.istore H hx rfl (hb hby at_235) rfl (l' := #[.val (.int p1), .val (.int p2), .val (.int p3), .val (.int p4), .val (.int p5), .val (.int p6), .val (.ref c_676), .val (.ref c_1499), .val (.ref c_1512), .val (.ref c_1526), .val (.int zl2), .val (.ref zl6), .val (.int (((p6.toUInt32 >>> ((21 : Int32) &&& 31).toUInt32).toInt32) &&& (7 : Int32))), .val (.ref zpj), .val (.int 1)]) rfl ?_
                    refine XS.aload H hx rfl (hb hby at_237) rfl rfl ?_
                    refine XS.aload H hx rfl (hb hby at_239) rfl rfl ?_
                    exact kt
                  have zta : Exa Z zs1 zl6 "com/example/tophat_ledger/tophatledger/HoldingGroup" := ((((((znt.keep zpq).keep zq5).keep zqk).keep zr1).keep zrg).keep zs5)
                  have ztb : Fld Z zs1 zl6 "com/example/tophat_ledger/tophatledger/HoldingGroup" "participant" "Ljava/lang/String;" (.ref zll) := ((((((znu.keep zpq nin0).keep zq5 nin0).keep zqk (ninS (nL (lL (lL zla.lt (lT (lT (lT (lT (lT zls.1 zm7.1) zmo.1) zn3.1) zns.1) zpq.1)) (Nat.le_of_eq zpz.symm))) nin0)).keep zr1 nin0).keep zrg (ninS (nL (lL (lL zla.lt (lT (lT (lT (lT (lT (lT (lT zls.1 zm7.1) zmo.1) zn3.1) zns.1) zpq.1) zq5.1) zqk.1)) (Nat.le_of_eq zqv.symm))) nin0)).keep zs5 (ninS (nL (lL (lL zla.lt (lT (lT (lT (lT zls.1 zm7.1) zmo.1) zn3.1) zns.1)) (Nat.le_of_eq zpk.symm))) (ninS (nL (lL (lL zla.lt (lT (lT (lT (lT (lT zls.1 zm7.1) zmo.1) zn3.1) zns.1) zpq.1)) (Nat.le_of_eq zpz.symm))) (ninS (nL (lL (lL zla.lt (lT (lT (lT (lT (lT (lT (lT zls.1 zm7.1) zmo.1) zn3.1) zns.1) zpq.1) zq5.1) zqk.1)) (Nat.le_of_eq zqv.symm))) nin0))))
                  have ztc : Fld Z zs1 zl6 "com/example/tophat_ledger/tophatledger/HoldingGroup" "year" "I" (.int p3) := ((((((znv.keep zpq nin0).keep zq5 nin0).keep zqk (ninS (nL (lL (lL zla.lt (lT (lT (lT (lT (lT zls.1 zm7.1) zmo.1) zn3.1) zns.1) zpq.1)) (Nat.le_of_eq zpz.symm))) nin0)).keep zr1 nin0).keep zrg (ninS (nL (lL (lL zla.lt (lT (lT (lT (lT (lT (lT (lT zls.1 zm7.1) zmo.1) zn3.1) zns.1) zpq.1) zq5.1) zqk.1)) (Nat.le_of_eq zqv.symm))) nin0)).keep zs5 (ninS (nL (lL (lL zla.lt (lT (lT (lT (lT zls.1 zm7.1) zmo.1) zn3.1) zns.1)) (Nat.le_of_eq zpk.symm))) (ninS (nL (lL (lL zla.lt (lT (lT (lT (lT (lT zls.1 zm7.1) zmo.1) zn3.1) zns.1) zpq.1)) (Nat.le_of_eq zpz.symm))) (ninS (nL (lL (lL zla.lt (lT (lT (lT (lT (lT (lT (lT zls.1 zm7.1) zmo.1) zn3.1) zns.1) zpq.1) zq5.1) zqk.1)) (Nat.le_of_eq zqv.symm))) nin0))))
                  have ztd : Fld Z zs1 zl6 "com/example/tophat_ledger/tophatledger/HoldingGroup" "source" "Ljava/lang/String;" (.ref zmh) := ((((((znw.keep zpq nin0).keep zq5 nin0).keep zqk (ninS (nL (lL (lL zla.lt (lT (lT (lT (lT (lT zls.1 zm7.1) zmo.1) zn3.1) zns.1) zpq.1)) (Nat.le_of_eq zpz.symm))) nin0)).keep zr1 nin0).keep zrg (ninS (nL (lL (lL zla.lt (lT (lT (lT (lT (lT (lT (lT zls.1 zm7.1) zmo.1) zn3.1) zns.1) zpq.1) zq5.1) zqk.1)) (Nat.le_of_eq zqv.symm))) nin0)).keep zs5 (ninS (nL (lL (lL zla.lt (lT (lT (lT (lT zls.1 zm7.1) zmo.1) zn3.1) zns.1)) (Nat.le_of_eq zpk.symm))) (ninS (nL (lL (lL zla.lt (lT (lT (lT (lT (lT zls.1 zm7.1) zmo.1) zn3.1) zns.1) zpq.1)) (Nat.le_of_eq zpz.symm))) (ninS (nL (lL (lL zla.lt (lT (lT (lT (lT (lT (lT (lT zls.1 zm7.1) zmo.1) zn3.1) zns.1) zpq.1) zq5.1) zqk.1)) (Nat.le_of_eq zqv.symm))) nin0))))
                  have zte : Str Z zs1 zll t_1573 kb_1574 (txt p1) := ((((((znx.keep zpq nin0 nin0).keep zq5 nin0 nin0).keep zqk (ninS (nL (lL (lL zlp.lt (lT (lT (lT (lT zm7.1 zmo.1) zn3.1) zns.1) zpq.1)) (Nat.le_of_eq zpz.symm))) nin0) (ninS (nL (lL (lL zm9.ltb (lT (lT (lT zmo.1 zn3.1) zns.1) zpq.1)) (Nat.le_of_eq zpz.symm))) nin0)).keep zr1 nin0 nin0).keep zrg (ninS (nL (lL (lL zlp.lt (lT (lT (lT (lT (lT (lT zm7.1 zmo.1) zn3.1) zns.1) zpq.1) zq5.1) zqk.1)) (Nat.le_of_eq zqv.symm))) nin0) (ninS (nL (lL (lL zm9.ltb (lT (lT (lT (lT (lT zmo.1 zn3.1) zns.1) zpq.1) zq5.1) zqk.1)) (Nat.le_of_eq zqv.symm))) nin0)).keep zs5 (ninS (nL (lL (lL zlp.lt (lT (lT (lT zm7.1 zmo.1) zn3.1) zns.1)) (Nat.le_of_eq zpk.symm))) (ninS (nL (lL (lL zlp.lt (lT (lT (lT (lT zm7.1 zmo.1) zn3.1) zns.1) zpq.1)) (Nat.le_of_eq zpz.symm))) (ninS (nL (lL (lL zlp.lt (lT (lT (lT (lT (lT (lT zm7.1 zmo.1) zn3.1) zns.1) zpq.1) zq5.1) zqk.1)) (Nat.le_of_eq zqv.symm))) nin0))) (ninS (nL (lL (lL zm9.ltb (lT (lT zmo.1 zn3.1) zns.1)) (Nat.le_of_eq zpk.symm))) (ninS (nL (lL (lL zm9.ltb (lT (lT (lT zmo.1 zn3.1) zns.1) zpq.1)) (Nat.le_of_eq zpz.symm))) (ninS (nL (lL (lL zm9.ltb (lT (lT (lT (lT (lT zmo.1 zn3.1) zns.1) zpq.1) zq5.1) zqk.1)) (Nat.le_of_eq zqv.symm))) nin0))))
                  have ztf : Str Z zs1 zmh t_1607 kb_1608 (txt p5) := ((((((zny.keep zpq nin0 nin0).keep zq5 nin0 nin0).keep zqk (ninS (nL (lL (lL zml.lt (lT (lT zn3.1 zns.1) zpq.1)) (Nat.le_of_eq zpz.symm))) nin0) (ninS (nL (lL (lL zn5.ltb (lT zns.1 zpq.1)) (Nat.le_of_eq zpz.symm))) nin0)).keep zr1 nin0 nin0).keep zrg (ninS (nL (lL (lL zml.lt (lT (lT (lT (lT zn3.1 zns.1) zpq.1) zq5.1) zqk.1)) (Nat.le_of_eq zqv.symm))) nin0) (ninS (nL (lL (lL zn5.ltb (lT (lT (lT zns.1 zpq.1) zq5.1) zqk.1)) (Nat.le_of_eq zqv.symm))) nin0)).keep zs5 (ninS (nL (lL (lL zml.lt (lT zn3.1 zns.1)) (Nat.le_of_eq zpk.symm))) (ninS (nL (lL (lL zml.lt (lT (lT zn3.1 zns.1) zpq.1)) (Nat.le_of_eq zpz.symm))) (ninS (nL (lL (lL zml.lt (lT (lT (lT (lT zn3.1 zns.1) zpq.1) zq5.1) zqk.1)) (Nat.le_of_eq zqv.symm))) nin0))) (ninS (nL (lL (lL zn5.ltb (zns.1)) (Nat.le_of_eq zpk.symm))) (ninS (nL (lL (lL zn5.ltb (lT zns.1 zpq.1)) (Nat.le_of_eq zpz.symm))) (ninS (nL (lL (lL zn5.ltb (lT (lT (lT zns.1 zpq.1) zq5.1) zqk.1)) (Nat.le_of_eq zqv.symm))) nin0))))
                  have ztg : Old Z n0 zs1 := (zrx.keep zs5 (allS (lT (lT Z0 (znz.1)) (Nat.le_of_eq zpk.symm)) (allS (lT (lT Z0 (zpr.1)) (Nat.le_of_eq zpz.symm)) (allS (lT (lT Z0 (zqq.1)) (Nat.le_of_eq zqv.symm)) all0))))
                  refine Jvm.Q9.Aim.callV (argsL := [(.ref zpj)]) (rest := []) (y := (⟨"com/example/tophat_ledger/tophatledger/HoldingGroup", "equals", "(Ljava/lang/Object;)Z"⟩ : MethodName)) (z := (⟨"com/example/tophat_ledger/tophatledger/HoldingGroup", "equals", "(Ljava/lang/Object;)Z"⟩ : MethodName)) zsq hx hZ hml hown (wI hw 91 rfl) (wI hw 92 rfl) (fun vm0 hZ => notFace_of_selects (args := #[]) (mvT (s := s.setVm vm0) hZ (wI hw 94 rfl))) (wI hw 94 rfl) (wI hw 93 rfl) (by decide) zta (fun vm0 hZ => Jvm.Y9.Con.back (s := s.setVm vm0) (W := 0) (own_eqH l Z a0 hw zl6 p3 zll t_1573 kb_1574 (txt p1) zmh t_1607 kb_1608 (txt p5) zpj zl2 zpy t_1744 kb_1745 (txt p1) zqu t_1778 kb_1779 (txt ((p6.toUInt32 >>> ((3 : Int32) &&& 31).toUInt32).toInt32)) zs1 n0 (lT Z0 (zsc.1)) zta ztb ztc ztd zte ztf zs6 zs7 zs8 zs9 zsa zsb ztg G) hZ (wI hw 95 rfl) (wI hw 7 rfl) (by decide) (by decide)) (fun _ _ ⟨_, q⟩ => (by subst q; exact Keep.refl _ [])) all0 rfl pd__28Ljava_2flang_2fObject_3b_29Z rfl (Nat.le_of_eq rfl) (hb hby at_241) (by decide) (by decide) ?_
                  intro zth zti ztj ztk ztl
                  obtain ⟨rfl, rfl⟩ := ztl
                  have H := ztk.here
                  refine Jvm.Q9.Aim.of (T' := zth) (g' := (mkF m 253 #[.val (.int p1), .val (.int p2), .val (.int p3), .val (.int p4), .val (.int p5), .val (.int p6), .val (.ref c_676), .val (.ref c_1499), .val (.ref c_1512), .val (.ref c_1526), .val (.int zl2), .val (.ref zl6), .val (.int (((p6.toUInt32 >>> ((21 : Int32) &&& 31).toUInt32).toInt32) &&& (7 : Int32))), .val (.ref zpj), .val (.int 1)] [(.ref zl6), (.ref zpj)])) (fun tgt kt => ?_) ?_
                  · refine XS.iload H hx rfl (hb hby at_244) rfl ?_
                    refine XS.icmpNo H hx rfl (hb hby at_246) rfl (teq (if_pos ⟨(Eq.symm zsd), rfl, (by_contra_if zss)⟩)).2 ?_
                    refine XS.aload H hx rfl (hb hby at_249) rfl rfl ?_
                    refine XS.aload H hx rfl (hb hby at_251) rfl rfl ?_
                    exact kt
                  refine Jvm.Q9.Aim.callV (argsL := [(.ref zl6)]) (rest := []) (y := (⟨"com/example/tophat_ledger/tophatledger/HoldingGroup", "equals", "(Ljava/lang/Object;)Z"⟩ : MethodName)) (z := (⟨"com/example/tophat_ledger/tophatledger/HoldingGroup", "equals", "(Ljava/lang/Object;)Z"⟩ : MethodName)) ztk hx hZ hml hown (wI hw 91 rfl) (wI hw 92 rfl) (fun vm0 hZ => notFace_of_selects (args := #[]) (mvT (s := s.setVm vm0) hZ (wI hw 94 rfl))) (wI hw 94 rfl) (wI hw 93 rfl) (by decide) zs6 (fun vm0 hZ => Jvm.Y9.Con.back (s := s.setVm vm0) (W := 0) (own_eqH l Z a0 hw zpj zl2 zpy t_1744 kb_1745 (txt p1) zqu t_1778 kb_1779 (txt ((p6.toUInt32 >>> ((3 : Int32) &&& 31).toUInt32).toInt32)) zl6 p3 zll t_1573 kb_1574 (txt p1) zmh t_1607 kb_1608 (txt p5) zs1 n0 (lT Z0 (zsc.1)) zs6 zs7 zs8 zs9 zsa zsb zta ztb ztc ztd zte ztf ztg G) hZ (wI hw 95 rfl) (wI hw 7 rfl) (by decide) (by decide)) (fun _ _ ⟨_, q⟩ => (by subst q; exact Keep.refl _ [])) all0 rfl pd__28Ljava_2flang_2fObject_3b_29Z rfl (Nat.le_of_eq rfl) (hb hby at_253) (by decide) (by decide) ?_
                  intro ztm ztn zto ztp ztq
                  obtain ⟨rfl, rfl⟩ := ztq
                  have H := ztp.here
                  refine Jvm.Q9.Aim.of (T' := ztm) (g' := (mkF m 266 #[.val (.int p1), .val (.int p2), .val (.int p3), .val (.int p4), .val (.int p5), .val (.int p6), .val (.ref c_676), .val (.ref c_1499), .val (.ref c_1512), .val (.ref c_1526), .val (.int zl2), .val (.ref zl6), .val (.int (((p6.toUInt32 >>> ((21 : Int32) &&& 31).toUInt32).toInt32) &&& (7 : Int32))), .val (.ref zpj), .val (.int 1)] [(.int 1)])) (fun tgt kt => ?_) ?_
                  · refine XS.iload H hx rfl (hb hby at_256) rfl ?_
                    refine XS.icmpNo H hx rfl (hb hby at_258) rfl (teq (if_pos ⟨zsd, rfl, (Eq.symm (by_contra_if zss))⟩)).2 ?_
                    refine XS.iconst H hx rfl (hb hby at_261) ?_
                    refine XS.goto H hx rfl (pc0 := 262) (pc' := 266) rfl (hb hby at_262) (by decide) (by decide) ?_
                    exact kt
                  exact Jvm.Q9.Aim.retN (t := .boolean) ztp hx hlk hret (by simp) (hb hby at_266) (by decide) (by decide) zrn ⟨rfl, zsc⟩
              · skip
                have H := zs3.here
                refine Jvm.Q9.Aim.of (T' := zs0) (g' := (mkF m 241 #[.val (.int p1), .val (.int p2), .val (.int p3), .val (.int p4), .val (.int p5), .val (.int p6), .val (.ref c_676), .val (.ref c_1499), .val (.ref c_1512), .val (.ref c_1526), .val (.int zl2), .val (.ref zl6), .val (.int (((p6.toUInt32 >>> ((21 : Int32) &&& 31).toUInt32).toInt32) &&& (7 : Int32))), .val (.ref zpj), .val (.int 0)] [(.ref zpj), (.ref zl6)])) (fun tgt kt => ?_) ?_
                · refine XS.icmpYes H hx rfl (pc0 := 207) (pc' := 234) rfl (hb hby at_207) rfl (feq zsd).2 (by decide) (by decide) ?_
                  refine XS.iconst H hx rfl (hb hby at_234) ?_
                  refine XS.istore H hx rfl (hb hby at_235) rfl (l' := #[.val (.int p1), .val (.int p2), .val (.int p3), .val (.int p4), .val (.int p5), .val (.int p6), .val (.ref c_676), .val (.ref c_1499), .val (.ref c_1512), .val (.ref c_1526), .val (.int zl2), .val (.ref zl6), .val (.int (((p6.toUInt32 >>> ((21 : Int32) &&& 31).toUInt32).toInt32) &&& (7 : Int32))), .val (.ref zpj), .val (.int 0)]) rfl ?_
                  refine XS.aload H hx rfl (hb hby at_237) rfl rfl ?_
                  refine XS.aload H hx rfl (hb hby at_239) rfl rfl ?_
                  exact kt
                have ztr : Exa Z zs1 zl6 "com/example/tophat_ledger/tophatledger/HoldingGroup" := ((((((znt.keep zpq).keep zq5).keep zqk).keep zr1).keep zrg).keep zs5)
                have zts : Fld Z zs1 zl6 "com/example/tophat_ledger/tophatledger/HoldingGroup" "participant" "Ljava/lang/String;" (.ref zll) := ((((((znu.keep zpq nin0).keep zq5 nin0).keep zqk (ninS (nL (lL (lL zla.lt (lT (lT (lT (lT (lT zls.1 zm7.1) zmo.1) zn3.1) zns.1) zpq.1)) (Nat.le_of_eq zpz.symm))) nin0)).keep zr1 nin0).keep zrg (ninS (nL (lL (lL zla.lt (lT (lT (lT (lT (lT (lT (lT zls.1 zm7.1) zmo.1) zn3.1) zns.1) zpq.1) zq5.1) zqk.1)) (Nat.le_of_eq zqv.symm))) nin0)).keep zs5 (ninS (nL (lL (lL zla.lt (lT (lT (lT (lT zls.1 zm7.1) zmo.1) zn3.1) zns.1)) (Nat.le_of_eq zpk.symm))) (ninS (nL (lL (lL zla.lt (lT (lT (lT (lT (lT zls.1 zm7.1) zmo.1) zn3.1) zns.1) zpq.1)) (Nat.le_of_eq zpz.symm))) (ninS (nL (lL (lL zla.lt (lT (lT (lT (lT (lT (lT (lT zls.1 zm7.1) zmo.1) zn3.1) zns.1) zpq.1) zq5.1) zqk.1)) (Nat.le_of_eq zqv.symm))) nin0))))
                have ztt : Fld Z zs1 zl6 "com/example/tophat_ledger/tophatledger/HoldingGroup" "year" "I" (.int p3) := ((((((znv.keep zpq nin0).keep zq5 nin0).keep zqk (ninS (nL (lL (lL zla.lt (lT (lT (lT (lT (lT zls.1 zm7.1) zmo.1) zn3.1) zns.1) zpq.1)) (Nat.le_of_eq zpz.symm))) nin0)).keep zr1 nin0).keep zrg (ninS (nL (lL (lL zla.lt (lT (lT (lT (lT (lT (lT (lT zls.1 zm7.1) zmo.1) zn3.1) zns.1) zpq.1) zq5.1) zqk.1)) (Nat.le_of_eq zqv.symm))) nin0)).keep zs5 (ninS (nL (lL (lL zla.lt (lT (lT (lT (lT zls.1 zm7.1) zmo.1) zn3.1) zns.1)) (Nat.le_of_eq zpk.symm))) (ninS (nL (lL (lL zla.lt (lT (lT (lT (lT (lT zls.1 zm7.1) zmo.1) zn3.1) zns.1) zpq.1)) (Nat.le_of_eq zpz.symm))) (ninS (nL (lL (lL zla.lt (lT (lT (lT (lT (lT (lT (lT zls.1 zm7.1) zmo.1) zn3.1) zns.1) zpq.1) zq5.1) zqk.1)) (Nat.le_of_eq zqv.symm))) nin0))))
                have ztu : Fld Z zs1 zl6 "com/example/tophat_ledger/tophatledger/HoldingGroup" "source" "Ljava/lang/String;" (.ref zmh) := ((((((znw.keep zpq nin0).keep zq5 nin0).keep zqk (ninS (nL (lL (lL zla.lt (lT (lT (lT (lT (lT zls.1 zm7.1) zmo.1) zn3.1) zns.1) zpq.1)) (Nat.le_of_eq zpz.symm))) nin0)).keep zr1 nin0).keep zrg (ninS (nL (lL (lL zla.lt (lT (lT (lT (lT (lT (lT (lT zls.1 zm7.1) zmo.1) zn3.1) zns.1) zpq.1) zq5.1) zqk.1)) (Nat.le_of_eq zqv.symm))) nin0)).keep zs5 (ninS (nL (lL (lL zla.lt (lT (lT (lT (lT zls.1 zm7.1) zmo.1) zn3.1) zns.1)) (Nat.le_of_eq zpk.symm))) (ninS (nL (lL (lL zla.lt (lT (lT (lT (lT (lT zls.1 zm7.1) zmo.1) zn3.1) zns.1) zpq.1)) (Nat.le_of_eq zpz.symm))) (ninS (nL (lL (lL zla.lt (lT (lT (lT (lT (lT (lT (lT zls.1 zm7.1) zmo.1) zn3.1) zns.1) zpq.1) zq5.1) zqk.1)) (Nat.le_of_eq zqv.symm))) nin0))))
                have ztv : Str Z zs1 zll t_1573 kb_1574 (txt p1) := ((((((znx.keep zpq nin0 nin0).keep zq5 nin0 nin0).keep zqk (ninS (nL (lL (lL zlp.lt (lT (lT (lT (lT zm7.1 zmo.1) zn3.1) zns.1) zpq.1)) (Nat.le_of_eq zpz.symm))) nin0) (ninS (nL (lL (lL zm9.ltb (lT (lT (lT zmo.1 zn3.1) zns.1) zpq.1)) (Nat.le_of_eq zpz.symm))) nin0)).keep zr1 nin0 nin0).keep zrg (ninS (nL (lL (lL zlp.lt (lT (lT (lT (lT (lT (lT zm7.1 zmo.1) zn3.1) zns.1) zpq.1) zq5.1) zqk.1)) (Nat.le_of_eq zqv.symm))) nin0) (ninS (nL (lL (lL zm9.ltb (lT (lT (lT (lT (lT zmo.1 zn3.1) zns.1) zpq.1) zq5.1) zqk.1)) (Nat.le_of_eq zqv.symm))) nin0)).keep zs5 (ninS (nL (lL (lL zlp.lt (lT (lT (lT zm7.1 zmo.1) zn3.1) zns.1)) (Nat.le_of_eq zpk.symm))) (ninS (nL (lL (lL zlp.lt (lT (lT (lT (lT zm7.1 zmo.1) zn3.1) zns.1) zpq.1)) (Nat.le_of_eq zpz.symm))) (ninS (nL (lL (lL zlp.lt (lT (lT (lT (lT (lT (lT zm7.1 zmo.1) zn3.1) zns.1) zpq.1) zq5.1) zqk.1)) (Nat.le_of_eq zqv.symm))) nin0))) (ninS (nL (lL (lL zm9.ltb (lT (lT zmo.1 zn3.1) zns.1)) (Nat.le_of_eq zpk.symm))) (ninS (nL (lL (lL zm9.ltb (lT (lT (lT zmo.1 zn3.1) zns.1) zpq.1)) (Nat.le_of_eq zpz.symm))) (ninS (nL (lL (lL zm9.ltb (lT (lT (lT (lT (lT zmo.1 zn3.1) zns.1) zpq.1) zq5.1) zqk.1)) (Nat.le_of_eq zqv.symm))) nin0))))
                have ztw : Str Z zs1 zmh t_1607 kb_1608 (txt p5) := ((((((zny.keep zpq nin0 nin0).keep zq5 nin0 nin0).keep zqk (ninS (nL (lL (lL zml.lt (lT (lT zn3.1 zns.1) zpq.1)) (Nat.le_of_eq zpz.symm))) nin0) (ninS (nL (lL (lL zn5.ltb (lT zns.1 zpq.1)) (Nat.le_of_eq zpz.symm))) nin0)).keep zr1 nin0 nin0).keep zrg (ninS (nL (lL (lL zml.lt (lT (lT (lT (lT zn3.1 zns.1) zpq.1) zq5.1) zqk.1)) (Nat.le_of_eq zqv.symm))) nin0) (ninS (nL (lL (lL zn5.ltb (lT (lT (lT zns.1 zpq.1) zq5.1) zqk.1)) (Nat.le_of_eq zqv.symm))) nin0)).keep zs5 (ninS (nL (lL (lL zml.lt (lT zn3.1 zns.1)) (Nat.le_of_eq zpk.symm))) (ninS (nL (lL (lL zml.lt (lT (lT zn3.1 zns.1) zpq.1)) (Nat.le_of_eq zpz.symm))) (ninS (nL (lL (lL zml.lt (lT (lT (lT (lT zn3.1 zns.1) zpq.1) zq5.1) zqk.1)) (Nat.le_of_eq zqv.symm))) nin0))) (ninS (nL (lL (lL zn5.ltb (zns.1)) (Nat.le_of_eq zpk.symm))) (ninS (nL (lL (lL zn5.ltb (lT zns.1 zpq.1)) (Nat.le_of_eq zpz.symm))) (ninS (nL (lL (lL zn5.ltb (lT (lT (lT zns.1 zpq.1) zq5.1) zqk.1)) (Nat.le_of_eq zqv.symm))) nin0))))
                have ztx : Old Z n0 zs1 := (zrx.keep zs5 (allS (lT (lT Z0 (znz.1)) (Nat.le_of_eq zpk.symm)) (allS (lT (lT Z0 (zpr.1)) (Nat.le_of_eq zpz.symm)) (allS (lT (lT Z0 (zqq.1)) (Nat.le_of_eq zqv.symm)) all0))))
                refine Jvm.Q9.Aim.callV (argsL := [(.ref zpj)]) (rest := []) (y := (⟨"com/example/tophat_ledger/tophatledger/HoldingGroup", "equals", "(Ljava/lang/Object;)Z"⟩ : MethodName)) (z := (⟨"com/example/tophat_ledger/tophatledger/HoldingGroup", "equals", "(Ljava/lang/Object;)Z"⟩ : MethodName)) zs3 hx hZ hml hown (wI hw 91 rfl) (wI hw 92 rfl) (fun vm0 hZ => notFace_of_selects (args := #[]) (mvT (s := s.setVm vm0) hZ (wI hw 94 rfl))) (wI hw 94 rfl) (wI hw 93 rfl) (by decide) ztr (fun vm0 hZ => Jvm.Y9.Con.back (s := s.setVm vm0) (W := 0) (own_eqH l Z a0 hw zl6 p3 zll t_1573 kb_1574 (txt p1) zmh t_1607 kb_1608 (txt p5) zpj zl2 zpy t_1744 kb_1745 (txt p1) zqu t_1778 kb_1779 (txt ((p6.toUInt32 >>> ((3 : Int32) &&& 31).toUInt32).toInt32)) zs1 n0 (lT Z0 (zsc.1)) ztr zts ztt ztu ztv ztw zs6 zs7 zs8 zs9 zsa zsb ztx G) hZ (wI hw 95 rfl) (wI hw 7 rfl) (by decide) (by decide)) (fun _ _ ⟨_, q⟩ => (by subst q; exact Keep.refl _ [])) all0 rfl pd__28Ljava_2flang_2fObject_3b_29Z rfl (Nat.le_of_eq rfl) (hb hby at_241) (by decide) (by decide) ?_
                intro zty ztz zu0 zu1 zu2
                obtain ⟨rfl, rfl⟩ := zu2
                have H := zu1.here
                refine Jvm.Q9.Aim.of (T' := zty) (g' := (mkF m 253 #[.val (.int p1), .val (.int p2), .val (.int p3), .val (.int p4), .val (.int p5), .val (.int p6), .val (.ref c_676), .val (.ref c_1499), .val (.ref c_1512), .val (.ref c_1526), .val (.int zl2), .val (.ref zl6), .val (.int (((p6.toUInt32 >>> ((21 : Int32) &&& 31).toUInt32).toInt32) &&& (7 : Int32))), .val (.ref zpj), .val (.int 0)] [(.ref zl6), (.ref zpj)])) (fun tgt kt => ?_) ?_
                · refine XS.iload H hx rfl (hb hby at_244) rfl ?_
                  refine XS.icmpNo H hx rfl (hb hby at_246) rfl (teq (if_neg (fun q => (fun q => zsd (Eq.symm q)) q.1))).2 ?_
                  refine XS.aload H hx rfl (hb hby at_249) rfl rfl ?_
                  refine XS.aload H hx rfl (hb hby at_251) rfl rfl ?_
                  exact kt
                refine Jvm.Q9.Aim.callV (argsL := [(.ref zl6)]) (rest := []) (y := (⟨"com/example/tophat_ledger/tophatledger/HoldingGroup", "equals", "(Ljava/lang/Object;)Z"⟩ : MethodName)) (z := (⟨"com/example/tophat_ledger/tophatledger/HoldingGroup", "equals", "(Ljava/lang/Object;)Z"⟩ : MethodName)) zu1 hx hZ hml hown (wI hw 91 rfl) (wI hw 92 rfl) (fun vm0 hZ => notFace_of_selects (args := #[]) (mvT (s := s.setVm vm0) hZ (wI hw 94 rfl))) (wI hw 94 rfl) (wI hw 93 rfl) (by decide) zs6 (fun vm0 hZ => Jvm.Y9.Con.back (s := s.setVm vm0) (W := 0) (own_eqH l Z a0 hw zpj zl2 zpy t_1744 kb_1745 (txt p1) zqu t_1778 kb_1779 (txt ((p6.toUInt32 >>> ((3 : Int32) &&& 31).toUInt32).toInt32)) zl6 p3 zll t_1573 kb_1574 (txt p1) zmh t_1607 kb_1608 (txt p5) zs1 n0 (lT Z0 (zsc.1)) zs6 zs7 zs8 zs9 zsa zsb ztr zts ztt ztu ztv ztw ztx G) hZ (wI hw 95 rfl) (wI hw 7 rfl) (by decide) (by decide)) (fun _ _ ⟨_, q⟩ => (by subst q; exact Keep.refl _ [])) all0 rfl pd__28Ljava_2flang_2fObject_3b_29Z rfl (Nat.le_of_eq rfl) (hb hby at_253) (by decide) (by decide) ?_
                intro zu3 zu4 zu5 zu6 zu7
                obtain ⟨rfl, rfl⟩ := zu7
                have H := zu6.here
                refine Jvm.Q9.Aim.of (T' := zu3) (g' := (mkF m 266 #[.val (.int p1), .val (.int p2), .val (.int p3), .val (.int p4), .val (.int p5), .val (.int p6), .val (.ref c_676), .val (.ref c_1499), .val (.ref c_1512), .val (.ref c_1526), .val (.int zl2), .val (.ref zl6), .val (.int (((p6.toUInt32 >>> ((21 : Int32) &&& 31).toUInt32).toInt32) &&& (7 : Int32))), .val (.ref zpj), .val (.int 0)] [(.int 1)])) (fun tgt kt => ?_) ?_
                · refine XS.iload H hx rfl (hb hby at_256) rfl ?_
                  refine XS.icmpNo H hx rfl (hb hby at_258) rfl (teq (if_neg (fun q => zsd q.1))).2 ?_
                  refine XS.iconst H hx rfl (hb hby at_261) ?_
                  refine XS.goto H hx rfl (pc0 := 262) (pc' := 266) rfl (hb hby at_262) (by decide) (by decide) ?_
                  exact kt
                exact Jvm.Q9.Aim.retN (t := .boolean) zu6 hx hlk hret (by simp) (hb hby at_266) (by decide) (by decide) zrn ⟨rfl, zsc⟩
      by_cases zu8 : (p6 &&& (2 : Int32)) = (0 : Int32)
      · skip
        have H := zkv.here
        refine Jvm.Q9.Aim.of (T' := zks) (g' := (mkF m 69 #[.val (.int p1), .val (.int p2), .val (.int p3), .val (.int p4), .val (.int p5), .val (.int p6), .val (.ref c_676), .val (.ref c_1499), .val (.ref c_1512), .val (.ref c_1526), .unset, .unset, .unset, .unset, .unset] [(.int p4)])) (fun tgt kt => ?_) ?_
        · refine XS.ifYes H hx rfl (pc0 := 61) (pc' := 68) rfl (hb hby at_61) rfl ((if0 _ _).trans (teq zu8).1) (by decide) (by decide) ?_
          refine XS.iloadN H hx rfl (hb hby at_68) rfl ?_
          exact kt
        exact zl1 _ (if_pos zu8).symm
      · skip
        have H := zkv.here
        refine Jvm.Q9.Aim.of (T' := zks) (g' := (mkF m 69 #[.val (.int p1), .val (.int p2), .val (.int p3), .val (.int p4), .val (.int p5), .val (.int p6), .val (.ref c_676), .val (.ref c_1499), .val (.ref c_1512), .val (.ref c_1526), .unset, .unset, .unset, .unset, .unset] [(.int p3)])) (fun tgt kt => ?_) ?_
        · refine XS.ifNo H hx rfl (hb hby at_61) rfl ((if0 _ _).trans (feq zu8).1) ?_
          refine XS.iloadN H hx rfl (hb hby at_64) rfl ?_
          refine XS.goto H hx rfl (pc0 := 65) (pc' := 69) rfl (hb hby at_65) (by decide) (by decide) ?_
          exact kt
        exact zl1 _ (if_neg zu8).symm
    · skip
      have H := zkl.here
      refine Jvm.Q9.Aim.of (T' := zki) (g' := (mkF m 42 #[.val (.int p1), .val (.int p2), .val (.int p3), .val (.int p4), .val (.int p5), .val (.int p6), .val (.ref c_676), .val (.ref c_1499), .val (.ref c_1512), .unset, .unset, .unset, .unset, .unset, .unset] [(.int p5)])) (fun tgt kt => ?_) ?_
      · refine XS.ifNo H hx rfl (hb hby at_37) rfl ((if0 _ _).trans (feq zkr).1) ?_
        refine XS.iload H hx rfl (hb hby at_40) rfl ?_
        exact kt
      refine Jvm.Q9.Aim.callS (argsL := [(.int p5)]) (rest := []) zkl hx hZ hml hown (wI hw 0 rfl) (wI hw 1 rfl) (wI hw 2 rfl) (wI hw 3 rfl) (by decide) (fun vm0 hZ => Jvm.Y9.Con.back (s := s.setVm vm0) (W := 0) (own_text l Z a0 hw p5 zkj n0 (lT Z0 (zkq.1))) hZ (wI hw 3 rfl) (wI hw 2 rfl) (by decide) (by decide)) (fun _ _ ⟨_, _, _, q, _, _⟩ => q) all0 rfl pd__28I_29_5bC rfl (Nat.le_of_eq rfl) (hb hby at_42) (by decide) (by decide) ?_
      intro zu9 zua zub zuc zud
      obtain ⟨c_1906, kC_1907, rfl, zue, zuf, zug⟩ := zud
      have zuh : Keep h0 zua [] := zkq.trans zue all0
      have H := zuc.here
      refine Jvm.Q9.Aim.of (T' := zu9) (g' := (mkF m 61 #[.val (.int p1), .val (.int p2), .val (.int p3), .val (.int p4), .val (.int p5), .val (.int p6), .val (.ref c_676), .val (.ref c_1499), .val (.ref c_1512), .val (.ref c_1906), .unset, .unset, .unset, .unset, .unset] [(.int (p6 &&& (2 : Int32)))])) (fun tgt kt => ?_) ?_
      · refine XS.goto H hx rfl (pc0 := 45) (pc' := 55) rfl (hb hby at_45) (by decide) (by decide) ?_
        refine XS.astore H hx rfl (hb hby at_55) rfl rfl (l' := #[.val (.int p1), .val (.int p2), .val (.int p3), .val (.int p4), .val (.int p5), .val (.int p6), .val (.ref c_676), .val (.ref c_1499), .val (.ref c_1512), .val (.ref c_1906), .unset, .unset, .unset, .unset, .unset]) rfl ?_
        refine XS.iload H hx rfl (hb hby at_57) rfl ?_
        refine XS.iconst H hx rfl (hb hby at_59) ?_
        refine XS.iand H hx rfl (hb hby at_60) rfl ?_
        exact kt
      have zui : ∀ zuj : Int32, zuj = (if (p6 &&& (2 : Int32)) = (0 : Int32) then p4 else p3) → Jvm.Q9.Aim p e below s (room_1 : Room).cells (room_1 : Room).slots n0 (Jvm.Q9.QW Z LC h0 Lc0 (fun v h Lc => v = some (.int 1) ∧ Keep h0 h [])) zu9 (mkF m 69 #[.val (.int p1), .val (.int p2), .val (.int p3), .val (.int p4), .val (.int p5), .val (.int p6), .val (.ref c_676), .val (.ref c_1499), .val (.ref c_1512), .val (.ref c_1906), .unset, .unset, .unset, .unset, .unset] [(.int zuj)]) := by
        intro zuj zuk
        have H := zuc.here
        refine Jvm.Q9.Aim.of (T' := zu9) (g' := (mkF m 71 #[.val (.int p1), .val (.int p2), .val (.int p3), .val (.int p4), .val (.int p5), .val (.int p6), .val (.ref c_676), .val (.ref c_1499), .val (.ref c_1512), .val (.ref c_1906), .val (.int zuj), .unset, .unset, .unset, .unset] [])) (fun tgt kt => ?_) ?_
        · refine XS.istore H hx rfl (hb hby at_69) rfl (l' := #[.val (.int p1), .val (.int p2), .val (.int p3), .val (.int p4), .val (.int p5), .val (.int p6), .val (.ref c_676), .val (.ref c_1499), .val (.ref c_1512), .val (.ref c_1906), .val (.int zuj), .unset, .unset, .unset, .unset]) rfl ?_
          exact kt
        refine Jvm.Q9.Aim.newO zuc hx hZ hown (wI hw 5 rfl) (wI hw 6 rfl) (wI hw 7 rfl) (hb hby at_71) (by decide) (by decide) ?_
        intro zul zum zun zuo zup zuq zur zus zut
        have zuu : Keep zua zum [] := (Keep.refl _ _).ext zuq
        have zuv : Keep h0 zum [] := zuh.trans zuu all0
        have zuw : Fld Z zum zun "com/example/tophat_ledger/tophatledger/HoldingGroup" "participant" "Ljava/lang/String;" .null := zus (Or.inr (wI hw 34 rfl)) (ty := (.object "java/lang/String")) (by decide)
        have zux : Fld Z zum zun "com/example/tophat_ledger/tophatledger/HoldingGroup" "year" "I" (.int 0) := zus (Or.inr (wI hw 36 rfl)) (ty := .int) (by decide)
        have zuy : Fld Z zum zun "com/example/tophat_ledger/tophatledger/HoldingGroup" "source" "Ljava/lang/String;" .null := zus (Or.inr (wI hw 38 rfl)) (ty := (.object "java/lang/String")) (by decide)
        have zuz : Fld Z zum zun "com/example/tophat_ledger/tophatledger/HoldingGroup" "hash" "I" (.int 0) := zus (Or.inr (wI hw 87 rfl)) (ty := .int) (by decide)
        have H := zup.here
        refine Jvm.Q9.Aim.of (T' := zul) (g' := (mkF m 75 #[.val (.int p1), .val (.int p2), .val (.int p3), .val (.int p4), .val (.int p5), .val (.int p6), .val (.ref c_676), .val (.ref c_1499), .val (.ref c_1512), .val (.ref c_1906), .val (.int zuj), .unset, .unset, .unset, .unset] [(.ref zun), (.ref zun)])) (fun tgt kt => ?_) ?_
        · refine XS.dup H hx rfl (hb hby at_74) rfl rfl ?_
          exact kt
        refine Jvm.Q9.Aim.newO zup hx hZ hown (wI hw 8 rfl) (wI hw 9 rfl) (wI hw 10 rfl) (hb hby at_75) (by decide) (by decide) ?_
        intro zv0 zv1 zv2 zv3 zv4 zv5 zv6 zv7 zv8
        have zv9 : Keep zum zv1 [] := (Keep.refl _ _).ext zv5
        have zva : Keep h0 zv1 [] := zuv.trans zv9 all0
        have zvb : Fld Z zv1 zv2 "java/lang/String" "value" "[B" .null := zv7 (Or.inr (wI hw 23 rfl)) (ty := (.array .byte)) (by decide)
        have zvc : Fld Z zv1 zv2 "java/lang/String" "coder" "B" (.int 0) := zv7 (Or.inr (wI hw 24 rfl)) (ty := .byte) (by decide)
        have zvd : Fld Z zv1 zv2 "java/lang/String" "hash" "I" (.int 0) := zv7 (Or.inl (wI hw 65 rfl)) (ty := .int) (by decide)
        have zve : Fld Z zv1 zv2 "java/lang/String" "hashIsZero" "Z" (.int 0) := zv7 (Or.inl (wI hw 67 rfl)) (ty := .boolean) (by decide)
        have H := zv4.here
        refine Jvm.Q9.Aim.of (T' := zv0) (g' := (mkF m 81 #[.val (.int p1), .val (.int p2), .val (.int p3), .val (.int p4), .val (.int p5), .val (.int p6), .val (.ref c_676), .val (.ref c_1499), .val (.ref c_1512), .val (.ref c_1906), .val (.int zuj), .unset, .unset, .unset, .unset] [(.ref c_676), (.ref zv2), (.ref zv2), (.ref zun), (.ref zun)])) (fun tgt kt => ?_) ?_
        · refine XS.dup H hx rfl (hb hby at_78) rfl rfl ?_
          refine XS.aload H hx rfl (hb hby at_79) rfl rfl ?_
          exact kt
        have zvf : Arv Z zv1 c_676 kC_677 .char (Int32.ofNat (txt p1).length) ((txt p1).map Value.int) (.int 0) := (((((z7.keep zke nin0).keep zkn nin0).keep zue nin0).keep zuu nin0).keep zv9 nin0)
        have zvg : Old Z n0 zv1 := ((((((F0.keep z5 all0).keep zke all0).keep zkn all0).keep zue all0).keep zuu all0).keep zv9 all0)
        refine Jvm.Q9.Aim.callCW (argsL := [(.ref c_676)]) (rest := [(.ref zv2), (.ref zun), (.ref zun)]) zv4 hx hZ hml hown rfl (wI hw 11 rfl) (wI hw 12 rfl) (wI hw 13 rfl) (by decide) (Jvm.Q9.Con.back (W := 3) (own_sC l Z a0 hw zv2 c_676 kC_677 (txt p1) (.null) (.int 0) zv1 n0 (lT Z0 (zva.1)) Lc0 (lT (lT Z0 (zuv.1)) (Nat.le_of_eq zv3.symm)) (Jvm.Q9.nl_new P0.ltL (lT (zuv.1) (Nat.le_of_eq zv3.symm))) zv6 zvb zvc zvd zve zvf zvg (txt_len _) (txt_in _) G GL) (wI hw 13 rfl) (wI hw 10 rfl) (by decide) (by decide)) rfl pd__28_5bC_29V rfl (Nat.le_of_eq rfl) (hb hby at_81) (by decide) (by decide) ?_
        intro zvh zvi zvj zvk zvl zvm zvn
        obtain ⟨t_1953, kb_1954, rfl, zvo, zvp, zvq, zvr, zvs, zvt⟩ := zvn
        have zvu : Keep h0 zvi [] := zva.trans zvo (allS (Or.inr (lT (zuv.1) (Nat.le_of_eq zv3.symm))) all0)
        have zvv : Jvm.Q9.Grow Lc0 zvk h0.size := (Jvm.Q9.Grow.refl _ _).trans zvm (zva.1)
        have H := zvl.here
        refine Jvm.Q9.Aim.of (T' := zvh) (g' := (mkF m 85 #[.val (.int p1), .val (.int p2), .val (.int p3), .val (.int p4), .val (.int p5), .val (.int p6), .val (.ref c_676), .val (.ref c_1499), .val (.ref c_1512), .val (.ref c_1906), .val (.int zuj), .unset, .unset, .unset, .unset] [(.int p3), (.ref zv2), (.ref zun), (.ref zun)])) (fun tgt kt => ?_) ?_
        · refine XS.iloadN H hx rfl (hb hby at_84) rfl ?_
          exact kt
        refine Jvm.Q9.Aim.newO zvl hx hZ hown (wI hw 8 rfl) (wI hw 9 rfl) (wI hw 10 rfl) (hb hby at_85) (by decide) (by decide) ?_
        intro zvw zvx zvy zvz zw0 zw1 zw2 zw3 zw4
        have zw5 : Keep zvi zvx [] := (Keep.refl _ _).ext zw1
        have zw6 : Keep h0 zvx [] := zvu.trans zw5 all0
        have zw7 : Fld Z zvx zvy "java/lang/String" "value" "[B" .null := zw3 (Or.inr (wI hw 23 rfl)) (ty := (.array .byte)) (by decide)
        have zw8 : Fld Z zvx zvy "java/lang/String" "coder" "B" (.int 0) := zw3 (Or.inr (wI hw 24 rfl)) (ty := .byte) (by decide)
        have zw9 : Fld Z zvx zvy "java/lang/String" "hash" "I" (.int 0) := zw3 (Or.inl (wI hw 65 rfl)) (ty := .int) (by decide)
        have zwa : Fld Z zvx zvy "java/lang/String" "hashIsZero" "Z" (.int 0) := zw3 (Or.inl (wI hw 67 rfl)) (ty := .boolean) (by decide)
        have H := zw0.here
        refine Jvm.Q9.Aim.of (T' := zvw) (g' := (mkF m 91 #[.val (.int p1), .val (.int p2), .val (.int p3), .val (.int p4), .val (.int p5), .val (.int p6), .val (.ref c_676), .val (.ref c_1499), .val (.ref c_1512), .val (.ref c_1906), .val (.int zuj), .unset, .unset, .unset, .unset] [(.ref c_1512), (.ref zvy), (.ref zvy), (.int p3), (.ref zv2), (.ref zun), (.ref zun)])) (fun tgt kt => ?_) ?_
        · refine XS.dup H hx rfl (hb hby at_88) rfl rfl ?_
          refine XS.aload H hx rfl (hb hby at_89) rfl rfl ?_
          exact kt
        have zwb : Arv Z zvx c_1512 kC_1513 .char (Int32.ofNat (txt p5).length) ((txt p5).map Value.int) (.int 0) := (((((zkp.keep zue nin0).keep zuu nin0).keep zv9 nin0).keep zvo (ninS (nL (lL (lL zkp.lt (lT zue.1 zuu.1)) (Nat.le_of_eq zv3.symm))) nin0)).keep zw5 nin0)
        have zwc : Old Z n0 zvx := ((zvg.keep zvo (allS (lT (lT Z0 (zuv.1)) (Nat.le_of_eq zv3.symm)) all0)).keep zw5 all0)
        refine Jvm.Q9.Aim.callCW (argsL := [(.ref c_1512)]) (rest := [(.ref zvy), (.int p3), (.ref zv2), (.ref zun), (.ref zun)]) zw0 hx hZ hml hown rfl (wI hw 11 rfl) (wI hw 12 rfl) (wI hw 13 rfl) (by decide) (Jvm.Q9.Con.back (W := 5) (own_sC l Z a0 hw zvy c_1512 kC_1513 (txt p5) (.null) (.int 0) zvx n0 (lT Z0 (zw6.1)) zvk (lT (lT Z0 (zvu.1)) (Nat.le_of_eq zvz.symm)) (Jvm.Q9.nl_new zvl.ltL (lT (Nat.le_refl _) (Nat.le_of_eq zvz.symm))) zw2 zw7 zw8 zw9 zwa zwb zwc (txt_len _) (txt_in _) G GL) (wI hw 13 rfl) (wI hw 10 rfl) (by decide) (by decide)) rfl pd__28_5bC_29V rfl (Nat.le_of_eq rfl) (hb hby at_91) (by decide) (by decide) ?_
        intro zwd zwe zwf zwg zwh zwi zwj
        obtain ⟨t_1987, kb_1988, rfl, zwk, zwl, zwm, zwn, zwo, zwp⟩ := zwj
        have zwq : Keep h0 zwe [] := zw6.trans zwk (allS (Or.inr (lT (zvu.1) (Nat.le_of_eq zvz.symm))) all0)
        have zwr : Jvm.Q9.Grow Lc0 zwg h0.size := zvv.trans zwi (zw6.1)
        have zws : Exa Z zwe zun "com/example/tophat_ledger/tophatledger/HoldingGroup" := ((((zur.keep zv9).keep zvo).keep zw5).keep zwk)
        have zwt : Fld Z zwe zun "com/example/tophat_ledger/tophatledger/HoldingGroup" "participant" "Ljava/lang/String;" .null := ((((zuw.keep zv9 nin0).keep zvo (ninS (nL (lL zur.lt (Nat.le_of_eq zv3.symm))) nin0)).keep zw5 nin0).keep zwk (ninS (nL (lL (lL zur.lt (lT zv9.1 zvo.1)) (Nat.le_of_eq zvz.symm))) nin0))
        have zwu : Fld Z zwe zun "com/example/tophat_ledger/tophatledger/HoldingGroup" "year" "I" (.int 0) := ((((zux.keep zv9 nin0).keep zvo (ninS (nL (lL zur.lt (Nat.le_of_eq zv3.symm))) nin0)).keep zw5 nin0).keep zwk (ninS (nL (lL (lL zur.lt (lT zv9.1 zvo.1)) (Nat.le_of_eq zvz.symm))) nin0))
        have zwv : Fld Z zwe zun "com/example/tophat_ledger/tophatledger/HoldingGroup" "source" "Ljava/lang/String;" .null := ((((zuy.keep zv9 nin0).keep zvo (ninS (nL (lL zur.lt (Nat.le_of_eq zv3.symm))) nin0)).keep zw5 nin0).keep zwk (ninS (nL (lL (lL zur.lt (lT zv9.1 zvo.1)) (Nat.le_of_eq zvz.symm))) nin0))
        have zww : Fld Z zwe zun "com/example/tophat_ledger/tophatledger/HoldingGroup" "hash" "I" (.int 0) := ((((zuz.keep zv9 nin0).keep zvo (ninS (nL (lL zur.lt (Nat.le_of_eq zv3.symm))) nin0)).keep zw5 nin0).keep zwk (ninS (nL (lL (lL zur.lt (lT zv9.1 zvo.1)) (Nat.le_of_eq zvz.symm))) nin0))
        have zwx : Str Z zwe zv2 t_1953 kb_1954 (txt p1) := ((zvq.keep zw5 nin0 nin0).keep zwk (ninS (nL (lL (lL zv6.lt (zvo.1)) (Nat.le_of_eq zvz.symm))) nin0) (ninS (nL (lL zvq.ltb (Nat.le_of_eq zvz.symm))) nin0))
        have zwy : (2 ≤ (txt p1).length → Exa Z zwe t_1953 "[B") := (fun q => ((fun q => (zvr q).keep zw5) q).keep zwk)
        have zwz : Fld Z zwe zv2 "java/lang/String" "hash" "I" (.int 0) := ((zvs.keep zw5 nin0).keep zwk (ninS (nL (lL (lL zv6.lt (zvo.1)) (Nat.le_of_eq zvz.symm))) nin0))
        have zx0 : Fld Z zwe zv2 "java/lang/String" "hashIsZero" "Z" (.int 0) := ((zvt.keep zw5 nin0).keep zwk (ninS (nL (lL (lL zv6.lt (zvo.1)) (Nat.le_of_eq zvz.symm))) nin0))
        have zx1 : Old Z n0 zwe := (zwc.keep zwk (allS (lT (lT Z0 (zvu.1)) (Nat.le_of_eq zvz.symm)) all0))
        have zx2 : Exa Z zwe zv2 "java/lang/String" := (((zv6.keep zvo).keep zw5).keep zwk)
        have zx3 : Exa Z zwe zvy "java/lang/String" := (zw2.keep zwk)
        refine Jvm.Q9.Aim.callC (argsL := [(.ref zv2), (.int p3), (.ref zvy)]) (rest := [(.ref zun)]) zwh hx hZ hml hown rfl (wI hw 29 rfl) (wI hw 30 rfl) (wI hw 31 rfl) (by decide) (fun vm0 hZ => Jvm.Y9.Con.back (s := s.setVm vm0) (W := 1) (own_hg l Z a0 hw zun p3 (.null) (.int 0) (.null) (.int 0) zv2 t_1953 kb_1954 (txt p1) zvy t_1987 kb_1988 (txt p5) zwe n0 (lT Z0 (zwq.1)) (lT (lT Z0 (zuh.1)) (Nat.le_of_eq zuo.symm)) (lT (lT Z0 (zuv.1)) (Nat.le_of_eq zv3.symm)) (lT (lT Z0 (zvu.1)) (Nat.le_of_eq zvz.symm)) zws zwt zwu zwv zww zwx zwy zwz zx0 zwm zwn zwo zwp zx1 (nL (lL (lL zv6.lt (zvo.1)) (Nat.le_of_eq zvz.symm))) (Jvm.Q9.ori_ne zvp (lT (lT Z0 (zuv.1)) (Nat.le_of_eq zv3.symm)) (Jvm.Q9.nl_step (Jvm.Q9.nl_new P0.ltL (lT (zuv.1) (Nat.le_of_eq zv3.symm))) zvm zv6.lt) zv6.lt) (nL (lL zvq.ltb (Nat.le_of_eq zvz.symm))) (Jvm.Q9.ori_ne zwl (lT (lT Z0 (zuv.1)) (Nat.le_of_eq zv3.symm)) (Jvm.Q9.nl_step (Jvm.Q9.nl_step (Jvm.Q9.nl_new P0.ltL (lT (zuv.1) (Nat.le_of_eq zv3.symm))) zvm zv6.lt) zwi (lL zv6.lt (lT zvo.1 zw5.1))) (lL zv6.lt (lT zvo.1 zw5.1))) (Jvm.Q9.ori_ne zwl (lT (lT Z0 (zvu.1)) (Nat.le_of_eq zvz.symm)) (Jvm.Q9.nl_step (Jvm.Q9.nl_new zvl.ltL (lT (Nat.le_refl _) (Nat.le_of_eq zvz.symm))) zwi zw2.lt) zw2.lt) (txt_len _) (txt_len _) (Jvm.Q9.ori_ne zvp (lT (lT Z0 (zuh.1)) (Nat.le_of_eq zuo.symm)) (Jvm.Q9.nl_step (Jvm.Q9.nl_new P0.ltL (lT (zuh.1) (Nat.le_of_eq zuo.symm))) zvm (lL zur.lt (zv9.1))) (lL zur.lt (zv9.1))) (Jvm.Q9.ori_ne zwl (lT (lT Z0 (zuh.1)) (Nat.le_of_eq zuo.symm)) (Jvm.Q9.nl_step (Jvm.Q9.nl_step (Jvm.Q9.nl_new P0.ltL (lT (zuh.1) (Nat.le_of_eq zuo.symm))) zvm (lL zur.lt (zv9.1))) zwi (lL zur.lt (lT (lT zv9.1 zvo.1) zw5.1))) (lL zur.lt (lT (lT zv9.1 zvo.1) zw5.1))) G GI) hZ (wI hw 31 rfl) (wI hw 7 rfl) (by decide) (by decide)) (fun _ _ ⟨_, q, _, _, _, _, _, _⟩ => q) (allS (Jvm.Q9.nl_step (Jvm.Q9.nl_step (Jvm.Q9.nl_new P0.ltL (lT (zuh.1) (Nat.le_of_eq zuo.symm))) zvm (lL zur.lt (zv9.1))) zwi (lL zur.lt (lT (lT zv9.1 zvo.1) zw5.1))) (allS (Jvm.Q9.nl_step (Jvm.Q9.nl_step (Jvm.Q9.nl_new P0.ltL (lT (zuv.1) (Nat.le_of_eq zv3.symm))) zvm zv6.lt) zwi (lL zv6.lt (lT zvo.1 zw5.1))) (allS (Jvm.Q9.nl_step (Jvm.Q9.nl_new zvl.ltL (lT (Nat.le_refl _) (Nat.le_of_eq zvz.symm))) zwi zw2.lt) all0))) rfl pd__28Ljava_2flang_2fString_3bILjava_2flang_2fString_3b_29V rfl (Nat.le_of_eq rfl) (hb hby at_94) (by decide) (by decide) ?_
        intro zx4 zx5 zx6 zx7 zx8
        obtain ⟨rfl, zx9, zxa, zxb, zxc, zxd, zxe, zxf⟩ := zx8
        have zxg : Keep h0 zx5 [] := zwq.trans zx9 (allS (Or.inr (lT (zuh.1) (Nat.le_of_eq zuo.symm))) (allS (Or.inr (lT (zuv.1) (Nat.le_of_eq zv3.symm))) (allS (Or.inr (lT (zvu.1) (Nat.le_of_eq zvz.symm))) all0)))
        have H := zx7.here
        refine Jvm.Q9.Aim.of (T' := zx4) (g' := (mkF m 112 #[.val (.int p1), .val (.int p2), .val (.int p3), .val (.int p4), .val (.int p5), .val (.int p6), .val (.ref c_676), .val (.ref c_1499), .val (.ref c_1512), .val (.ref c_1906), .val (.int zuj), .val (.ref zun), .val (.int (((p6.toUInt32 >>> ((21 : Int32) &&& 31).toUInt32).toInt32) &&& (7 : Int32))), .unset, .unset] [(.int 5), (.int (((p6.toUInt32 >>> ((21 : Int32) &&& 31).toUInt32).toInt32) &&& (7 : Int32)))])) (fun tgt kt => ?_) ?_
        · refine XS.astore H hx rfl (hb hby at_97) rfl rfl (l' := #[.val (.int p1), .val (.int p2), .val (.int p3), .val (.int p4), .val (.int p5), .val (.int p6), .val (.ref c_676), .val (.ref c_1499), .val (.ref c_1512), .val (.ref c_1906), .val (.int zuj), .val (.ref zun), .unset, .unset, .unset]) rfl ?_
          refine XS.iload H hx rfl (hb hby at_99) rfl ?_
          refine XS.bipush H hx rfl (hb hby at_101) ?_
          refine XS.iushr H hx rfl (hb hby at_103) rfl ?_
          refine XS.bipush H hx rfl (hb hby at_104) ?_
          refine XS.iand H hx rfl (hb hby at_106) rfl ?_
          refine XS.istore H hx rfl (hb hby at_107) rfl (l' := #[.val (.int p1), .val (.int p2), .val (.int p3), .val (.int p4), .val (.int p5), .val (.int p6), .val (.ref c_676), .val (.ref c_1499), .val (.ref c_1512), .val (.ref c_1906), .val (.int zuj), .val (.ref zun), .val (.int (((p6.toUInt32 >>> ((21 : Int32) &&& 31).toUInt32).toInt32) &&& (7 : Int32))), .unset, .unset]) rfl ?_
          refine XS.iload H hx rfl (hb hby at_109) rfl ?_
          refine XS.iconst H hx rfl (hb hby at_111) ?_
          exact kt
        by_cases zxh : (((p6.toUInt32 >>> ((21 : Int32) &&& 31).toUInt32).toInt32) &&& (7 : Int32)) = (5 : Int32)
        · skip
          have H := zx7.here
          refine Jvm.Q9.Aim.of (T' := zx4) (g' := (mkF m 118 #[.val (.int p1), .val (.int p2), .val (.int p3), .val (.int p4), .val (.int p5), .val (.int p6), .val (.ref c_676), .val (.ref c_1499), .val (.ref c_1512), .val (.ref c_1906), .val (.int zuj), .val (.ref zun), .val (.int (((p6.toUInt32 >>> ((21 : Int32) &&& 31).toUInt32).toInt32) &&& (7 : Int32))), .unset, .unset] [.null, (.ref zun)])) (fun tgt kt => ?_) ?_
          · refine XS.icmpNo H hx rfl (hb hby at_112) rfl (teq zxh).2 ?_
            refine XS.aload H hx rfl (hb hby at_115) rfl rfl ?_
            refine XS.aconstNull H hx rfl (hb hby at_117) ?_
            exact kt
          refine Jvm.Q9.Aim.callV (argsL := [.null]) (rest := []) (y := (⟨"com/example/tophat_ledger/tophatledger/HoldingGroup", "equals", "(Ljava/lang/Object;)Z"⟩ : MethodName)) (z := (⟨"com/example/tophat_ledger/tophatledger/HoldingGroup", "equals", "(Ljava/lang/Object;)Z"⟩ : MethodName)) zx7 hx hZ hml hown (wI hw 91 rfl) (wI hw 92 rfl) (fun vm0 hZ => notFace_of_selects (args := #[]) (mvT (s := s.setVm vm0) hZ (wI hw 94 rfl))) (wI hw 94 rfl) (wI hw 93 rfl) (by decide) zxa (fun vm0 hZ => Jvm.Y9.Con.back (s := s.setVm vm0) (W := 0) (own_eqN l Z a0 hw zun zx5 n0 (lT Z0 (zxg.1))) hZ (wI hw 95 rfl) (wI hw 7 rfl) (by decide) (by decide)) (fun _ _ ⟨_, q⟩ => (by subst q; exact Keep.refl _ [])) all0 rfl pd__28Ljava_2flang_2fObject_3b_29Z rfl (Nat.le_of_eq rfl) (hb hby at_118) (by decide) (by decide) ?_
          intro zxi zxj zxk zxl zxm
          obtain ⟨rfl, rfl⟩ := zxm
          have H := zxl.here
          refine Jvm.Q9.Aim.of (T' := zxi) (g' := (mkF m 129 #[.val (.int p1), .val (.int p2), .val (.int p3), .val (.int p4), .val (.int p5), .val (.int p6), .val (.ref c_676), .val (.ref c_1499), .val (.ref c_1512), .val (.ref c_1906), .val (.int zuj), .val (.ref zun), .val (.int (((p6.toUInt32 >>> ((21 : Int32) &&& 31).toUInt32).toInt32) &&& (7 : Int32))), .unset, .unset] [(.int 1)])) (fun tgt kt => ?_) ?_
          · refine XS.ifNo H hx rfl (hb hby at_121) rfl ((if0 _ _).trans (teq (by decide)).2) ?_
            refine XS.iconst H hx rfl (hb hby at_124) ?_
            refine XS.goto H hx rfl (pc0 := 125) (pc' := 129) rfl (hb hby at_125) (by decide) (by decide) ?_
            exact kt
          exact Jvm.Q9.Aim.retN (t := .boolean) zxl hx hlk hret (by simp) (hb hby at_129) (by decide) (by decide) zwr ⟨rfl, zxg⟩
        · skip
          have H := zx7.here
          refine Jvm.Q9.Aim.of (T' := zx4) (g' := (mkF m 134 #[.val (.int p1), .val (.int p2), .val (.int p3), .val (.int p4), .val (.int p5), .val (.int p6), .val (.ref c_676), .val (.ref c_1499), .val (.ref c_1512), .val (.ref c_1906), .val (.int zuj), .val (.ref zun), .val (.int (((p6.toUInt32 >>> ((21 : Int32) &&& 31).toUInt32).toInt32) &&& (7 : Int32))), .unset, .unset] [(.int 6), (.int (((p6.toUInt32 >>> ((21 : Int32) &&& 31).toUInt32).toInt32) &&& (7 : Int32)))])) (fun tgt kt => ?_) ?_
          · refine XS.icmpYes H hx rfl (pc0 := 112) (pc' := 130) rfl (hb hby at_112) rfl (feq zxh).2 (by decide) (by decide) ?_
            refine XS.iload H hx rfl (hb hby at_130) rfl ?_
            refine XS.bipush H hx rfl (hb hby at_132) ?_
            exact kt
          by_cases zxn : (((p6.toUInt32 >>> ((21 : Int32) &&& 31).toUInt32).toInt32) &&& (7 : Int32)) = (6 : Int32)
          · skip
            have H := zx7.here
            refine Jvm.Q9.Aim.of (T' := zx4) (g' := (mkF m 139 #[.val (.int p1), .val (.int p2), .val (.int p3), .val (.int p4), .val (.int p5), .val (.int p6), .val (.ref c_676), .val (.ref c_1499), .val (.ref c_1512), .val (.ref c_1906), .val (.int zuj), .val (.ref zun), .val (.int (((p6.toUInt32 >>> ((21 : Int32) &&& 31).toUInt32).toInt32) &&& (7 : Int32))), .unset, .unset] [(.ref zun)])) (fun tgt kt => ?_) ?_
            · refine XS.icmpNo H hx rfl (hb hby at_134) rfl (teq zxn).2 ?_
              refine XS.aload H hx rfl (hb hby at_137) rfl rfl ?_
              exact kt
            refine Jvm.Q9.Aim.newO zx7 hx hZ hown (wI hw 8 rfl) (wI hw 9 rfl) (wI hw 10 rfl) (hb hby at_139) (by decide) (by decide) ?_
            intro zxo zxp zxq zxr zxs zxt zxu zxv zxw
            have zxx : Keep zx5 zxp [] := (Keep.refl _ _).ext zxt
            have zxy : Keep h0 zxp [] := zxg.trans zxx all0
            have zxz : Fld Z zxp zxq "java/lang/String" "value" "[B" .null := zxv (Or.inr (wI hw 23 rfl)) (ty := (.array .byte)) (by decide)
            have zy0 : Fld Z zxp zxq "java/lang/String" "coder" "B" (.int 0) := zxv (Or.inr (wI hw 24 rfl)) (ty := .byte) (by decide)
            have zy1 : Fld Z zxp zxq "java/lang/String" "hash" "I" (.int 0) := zxv (Or.inl (wI hw 65 rfl)) (ty := .int) (by decide)
            have zy2 : Fld Z zxp zxq "java/lang/String" "hashIsZero" "Z" (.int 0) := zxv (Or.inl (wI hw 67 rfl)) (ty := .boolean) (by decide)
            have H := zxs.here
            refine Jvm.Q9.Aim.of (T' := zxo) (g' := (mkF m 145 #[.val (.int p1), .val (.int p2), .val (.int p3), .val (.int p4), .val (.int p5), .val (.int p6), .val (.ref c_676), .val (.ref c_1499), .val (.ref c_1512), .val (.ref c_1906), .val (.int zuj), .val (.ref zun), .val (.int (((p6.toUInt32 >>> ((21 : Int32) &&& 31).toUInt32).toInt32) &&& (7 : Int32))), .unset, .unset] [(.ref c_676), (.ref zxq), (.ref zxq), (.ref zun)])) (fun tgt kt => ?_) ?_
            · refine XS.dup H hx rfl (hb hby at_142) rfl rfl ?_
              refine XS.aload H hx rfl (hb hby at_143) rfl rfl ?_
              exact kt
            have zy3 : Arv Z zxp c_676 kC_677 .char (Int32.ofNat (txt p1).length) ((txt p1).map Value.int) (.int 0) := (((((zvf.keep zvo (ninS (nL (lL (lL z7.lt (lT (lT (lT zke.1 zkn.1) zue.1) zuu.1)) (Nat.le_of_eq zv3.symm))) nin0)).keep zw5 nin0).keep zwk (ninS (nL (lL (lL z7.lt (lT (lT (lT (lT (lT zke.1 zkn.1) zue.1) zuu.1) zv9.1) zvo.1)) (Nat.le_of_eq zvz.symm))) nin0)).keep zx9 (ninS (nL (lL (lL z7.lt (lT (lT zke.1 zkn.1) zue.1)) (Nat.le_of_eq zuo.symm))) (ninS (nL (lL (lL z7.lt (lT (lT (lT zke.1 zkn.1) zue.1) zuu.1)) (Nat.le_of_eq zv3.symm))) (ninS (nL (lL (lL z7.lt (lT (lT (lT (lT (lT zke.1 zkn.1) zue.1) zuu.1) zv9.1) zvo.1)) (Nat.le_of_eq zvz.symm))) nin0)))).keep zxx nin0)
            have zy4 : Old Z n0 zxp := ((zx1.keep zx9 (allS (lT (lT Z0 (zuh.1)) (Nat.le_of_eq zuo.symm)) (allS (lT (lT Z0 (zuv.1)) (Nat.le_of_eq zv3.symm)) (allS (lT (lT Z0 (zvu.1)) (Nat.le_of_eq zvz.symm)) all0)))).keep zxx all0)
            refine Jvm.Q9.Aim.callCW (argsL := [(.ref c_676)]) (rest := [(.ref zxq), (.ref zun)]) zxs hx hZ hml hown rfl (wI hw 11 rfl) (wI hw 12 rfl) (wI hw 13 rfl) (by decide) (Jvm.Q9.Con.back (W := 2) (own_sC l Z a0 hw zxq c_676 kC_677 (txt p1) (.null) (.int 0) zxp n0 (lT Z0 (zxy.1)) zwg (lT (lT Z0 (zxg.1)) (Nat.le_of_eq zxr.symm)) (Jvm.Q9.nl_new zwh.ltL (lT (zx9.1) (Nat.le_of_eq zxr.symm))) zxu zxz zy0 zy1 zy2 zy3 zy4 (txt_len _) (txt_in _) G GL) (wI hw 13 rfl) (wI hw 10 rfl) (by decide) (by decide)) rfl pd__28_5bC_29V rfl (Nat.le_of_eq rfl) (hb hby at_145) (by decide) (by decide) ?_
            intro zy5 zy6 zy7 zy8 zy9 zya zyb
            obtain ⟨t_2057, kb_2058, rfl, zyc, zyd, zye, zyf, zyg, zyh⟩ := zyb
            have zyi : Keep h0 zy6 [] := zxy.trans zyc (allS (Or.inr (lT (zxg.1) (Nat.le_of_eq zxr.symm))) all0)
            have zyj : Jvm.Q9.Grow Lc0 zy8 h0.size := zwr.trans zya (zxy.1)
            have zyk : Exa Z zy6 zun "com/example/tophat_ledger/tophatledger/HoldingGroup" := ((zxa.keep zxx).keep zyc)
            have zyl : Exa Z zy6 zxq "java/lang/String" := (zxu.keep zyc)
            refine Jvm.Q9.Aim.callV (argsL := [(.ref zxq)]) (rest := []) (y := (⟨"com/example/tophat_ledger/tophatledger/HoldingGroup", "equals", "(Ljava/lang/Object;)Z"⟩ : MethodName)) (z := (⟨"com/example/tophat_ledger/tophatledger/HoldingGroup", "equals", "(Ljava/lang/Object;)Z"⟩ : MethodName)) zy9 hx hZ hml hown (wI hw 91 rfl) (wI hw 92 rfl) (fun vm0 hZ => notFace_of_selects (args := #[]) (mvT (s := s.setVm vm0) hZ (wI hw 94 rfl))) (wI hw 94 rfl) (wI hw 93 rfl) (by decide) zyk (fun vm0 hZ => Jvm.Y9.Con.back (s := s.setVm vm0) (W := 0) (own_eqS l Z a0 hw zun zxq zy6 n0 (lT Z0 (zyi.1)) zyl) hZ (wI hw 95 rfl) (wI hw 7 rfl) (by decide) (by decide)) (fun _ _ ⟨_, q⟩ => (by subst q; exact Keep.refl _ [])) all0 rfl pd__28Ljava_2flang_2fObject_3b_29Z rfl (Nat.le_of_eq rfl) (hb hby at_148) (by decide) (by decide) ?_
            intro zym zyn zyo zyp zyq
            obtain ⟨rfl, rfl⟩ := zyq
            have H := zyp.here
            refine Jvm.Q9.Aim.of (T' := zym) (g' := (mkF m 159 #[.val (.int p1), .val (.int p2), .val (.int p3), .val (.int p4), .val (.int p5), .val (.int p6), .val (.ref c_676), .val (.ref c_1499), .val (.ref c_1512), .val (.ref c_1906), .val (.int zuj), .val (.ref zun), .val (.int (((p6.toUInt32 >>> ((21 : Int32) &&& 31).toUInt32).toInt32) &&& (7 : Int32))), .unset, .unset] [(.int 1)])) (fun tgt kt => ?_) ?_
            · refine XS.ifNo H hx rfl (hb hby at_151) rfl ((if0 _ _).trans (teq (by decide)).2) ?_
              refine XS.iconst H hx rfl (hb hby at_154) ?_
              refine XS.goto H hx rfl (pc0 := 155) (pc' := 159) rfl (hb hby at_155) (by decide) (by decide) ?_
              exact kt
            exact Jvm.Q9.Aim.retN (t := .boolean) zyp hx hlk hret (by simp) (hb hby at_159) (by decide) (by decide) zyj ⟨rfl, zyi⟩
          · skip
            have H := zx7.here
            refine Jvm.Q9.Aim.of (T' := zx4) (g' := (mkF m 164 #[.val (.int p1), .val (.int p2), .val (.int p3), .val (.int p4), .val (.int p5), .val (.int p6), .val (.ref c_676), .val (.ref c_1499), .val (.ref c_1512), .val (.ref c_1906), .val (.int zuj), .val (.ref zun), .val (.int (((p6.toUInt32 >>> ((21 : Int32) &&& 31).toUInt32).toInt32) &&& (7 : Int32))), .unset, .unset] [(.int 7), (.int (((p6.toUInt32 >>> ((21 : Int32) &&& 31).toUInt32).toInt32) &&& (7 : Int32)))])) (fun tgt kt => ?_) ?_
            · refine XS.icmpYes H hx rfl (pc0 := 134) (pc' := 160) rfl (hb hby at_134) rfl (feq zxn).2 (by decide) (by decide) ?_
              refine XS.iload H hx rfl (hb hby at_160) rfl ?_
              refine XS.bipush H hx rfl (hb hby at_162) ?_
              exact kt
            by_cases zyr : (((p6.toUInt32 >>> ((21 : Int32) &&& 31).toUInt32).toInt32) &&& (7 : Int32)) = (7 : Int32)
            · skip
              have H := zx7.here
              refine Jvm.Q9.Aim.of (T' := zx4) (g' := (mkF m 171 #[.val (.int p1), .val (.int p2), .val (.int p3), .val (.int p4), .val (.int p5), .val (.int p6), .val (.ref c_676), .val (.ref c_1499), .val (.ref c_1512), .val (.ref c_1906), .val (.int zuj), .val (.ref zun), .val (.int (((p6.toUInt32 >>> ((21 : Int32) &&& 31).toUInt32).toInt32) &&& (7 : Int32))), .unset, .unset] [(.ref zun), (.ref zun)])) (fun tgt kt => ?_) ?_
              · refine XS.icmpNo H hx rfl (hb hby at_164) rfl (teq zyr).2 ?_
                refine XS.aload H hx rfl (hb hby at_167) rfl rfl ?_
                refine XS.aload H hx rfl (hb hby at_169) rfl rfl ?_
                exact kt
              have zys : Old Z n0 zx5 := (zx1.keep zx9 (allS (lT (lT Z0 (zuh.1)) (Nat.le_of_eq zuo.symm)) (allS (lT (lT Z0 (zuv.1)) (Nat.le_of_eq zv3.symm)) (allS (lT (lT Z0 (zvu.1)) (Nat.le_of_eq zvz.symm)) all0))))
              refine Jvm.Q9.Aim.callV (argsL := [(.ref zun)]) (rest := []) (y := (⟨"com/example/tophat_ledger/tophatledger/HoldingGroup", "equals", "(Ljava/lang/Object;)Z"⟩ : MethodName)) (z := (⟨"com/example/tophat_ledger/tophatledger/HoldingGroup", "equals", "(Ljava/lang/Object;)Z"⟩ : MethodName)) zx7 hx hZ hml hown (wI hw 91 rfl) (wI hw 92 rfl) (fun vm0 hZ => notFace_of_selects (args := #[]) (mvT (s := s.setVm vm0) hZ (wI hw 94 rfl))) (wI hw 94 rfl) (wI hw 93 rfl) (by decide) zxa (fun vm0 hZ => Jvm.Y9.Con.back (s := s.setVm vm0) (W := 0) (own_eqH l Z a0 hw zun p3 zv2 t_1953 kb_1954 (txt p1) zvy t_1987 kb_1988 (txt p5) zun p3 zv2 t_1953 kb_1954 (txt p1) zvy t_1987 kb_1988 (txt p5) zx5 n0 (lT Z0 (zxg.1)) zxa zxb zxc zxd zxe zxf zxa zxb zxc zxd zxe zxf zys G) hZ (wI hw 95 rfl) (wI hw 7 rfl) (by decide) (by decide)) (fun _ _ ⟨_, q⟩ => (by subst q; exact Keep.refl _ [])) all0 rfl pd__28Ljava_2flang_2fObject_3b_29Z rfl (Nat.le_of_eq rfl) (hb hby at_171) (by decide) (by decide) ?_
              intro zyt zyu zyv zyw zyx
              obtain ⟨rfl, rfl⟩ := zyx
              exact Jvm.Q9.Aim.retN (t := .boolean) zyw hx hlk hret (by simp) (hb hby at_174) (by decide) (by decide) zwr ⟨(by rw [eqV, if_pos ⟨rfl, rfl, rfl⟩]; rfl), zxg⟩
            · skip
              have H := zx7.here
              refine Jvm.Q9.Aim.of (T' := zx4) (g' := (mkF m 175 #[.val (.int p1), .val (.int p2), .val (.int p3), .val (.int p4), .val (.int p5), .val (.int p6), .val (.ref c_676), .val (.ref c_1499), .val (.ref c_1512), .val (.ref c_1906), .val (.int zuj), .val (.ref zun), .val (.int (((p6.toUInt32 >>> ((21 : Int32) &&& 31).toUInt32).toInt32) &&& (7 : Int32))), .unset, .unset] [])) (fun tgt kt => ?_) ?_
              · refine XS.icmpYes H hx rfl (pc0 := 164) (pc' := 175) rfl (hb hby at_164) rfl (feq zyr).2 (by decide) (by decide) ?_
                exact kt
              refine Jvm.Q9.Aim.newO zx7 hx hZ hown (wI hw 5 rfl) (wI hw 6 rfl) (wI hw 7 rfl) (hb hby at_175) (by decide) (by decide) ?_
              intro zyy zyz zz0 zz1 zz2 zz3 zz4 zz5 zz6
              have zz7 : Keep zx5 zyz [] := (Keep.refl _ _).ext zz3
              have zz8 : Keep h0 zyz [] := zxg.trans zz7 all0
              have zz9 : Fld Z zyz zz0 "com/example/tophat_ledger/tophatledger/HoldingGroup" "participant" "Ljava/lang/String;" .null := zz5 (Or.inr (wI hw 34 rfl)) (ty := (.object "java/lang/String")) (by decide)
              have zza : Fld Z zyz zz0 "com/example/tophat_ledger/tophatledger/HoldingGroup" "year" "I" (.int 0) := zz5 (Or.inr (wI hw 36 rfl)) (ty := .int) (by decide)
              have zzb : Fld Z zyz zz0 "com/example/tophat_ledger/tophatledger/HoldingGroup" "source" "Ljava/lang/String;" .null := zz5 (Or.inr (wI hw 38 rfl)) (ty := (.object "java/lang/String")) (by decide)
              have zzc : Fld Z zyz zz0 "com/example/tophat_ledger/tophatledger/HoldingGroup" "hash" "I" (.int 0) := zz5 (Or.inr (wI hw 87 rfl)) (ty := .int) (by decide)
              have H := zz2.here
              refine Jvm.Q9.Aim.of (T' := zyy) (g' := (mkF m 179 #[.val (.int p1), .val (.int p2), .val (.int p3), .val (.int p4), .val (.int p5), .val (.int p6), .val (.ref c_676), .val (.ref c_1499), .val (.ref c_1512), .val (.ref c_1906), .val (.int zuj), .val (.ref zun), .val (.int (((p6.toUInt32 >>> ((21 : Int32) &&& 31).toUInt32).toInt32) &&& (7 : Int32))), .unset, .unset] [(.ref zz0), (.ref zz0)])) (fun tgt kt => ?_) ?_
              · refine XS.dup H hx rfl (hb hby at_178) rfl rfl ?_
                exact kt
              refine Jvm.Q9.Aim.newO zz2 hx hZ hown (wI hw 8 rfl) (wI hw 9 rfl) (wI hw 10 rfl) (hb hby at_179) (by decide) (by decide) ?_
              intro zzd zze zzf zzg zzh zzi zzj zzk zzl
              have zzm : Keep zyz zze [] := (Keep.refl _ _).ext zzi
              have zzn : Keep h0 zze [] := zz8.trans zzm all0
              have zzo : Fld Z zze zzf "java/lang/String" "value" "[B" .null := zzk (Or.inr (wI hw 23 rfl)) (ty := (.array .byte)) (by decide)
              have zzp : Fld Z zze zzf "java/lang/String" "coder" "B" (.int 0) := zzk (Or.inr (wI hw 24 rfl)) (ty := .byte) (by decide)
              have zzq : Fld Z zze zzf "java/lang/String" "hash" "I" (.int 0) := zzk (Or.inl (wI hw 65 rfl)) (ty := .int) (by decide)
              have zzr : Fld Z zze zzf "java/lang/String" "hashIsZero" "Z" (.int 0) := zzk (Or.inl (wI hw 67 rfl)) (ty := .boolean) (by decide)
              have H := zzh.here
              refine Jvm.Q9.Aim.of (T' := zzd) (g' := (mkF m 185 #[.val (.int p1), .val (.int p2), .val (.int p3), .val (.int p4), .val (.int p5), .val (.int p6), .val (.ref c_676), .val (.ref c_1499), .val (.ref c_1512), .val (.ref c_1906), .val (.int zuj), .val (.ref zun), .val (.int (((p6.toUInt32 >>> ((21 : Int32) &&& 31).toUInt32).toInt32) &&& (7 : Int32))), .unset, .unset] [(.ref c_1499), (.ref zzf), (.ref zzf), (.ref zz0), (.ref zz0)])) (fun tgt kt => ?_) ?_
              · refine XS.dup H hx rfl (hb hby at_182) rfl rfl ?_
                refine XS.aload H hx rfl (hb hby at_183) rfl rfl ?_
                exact kt
              have zzs : Arv Z zze c_1499 kC_1500 .char (Int32.ofNat (txt p1).length) ((txt p1).map Value.int) (.int 0) := ((((((((((zkg.keep zkn nin0).keep zue nin0).keep zuu nin0).keep zv9 nin0).keep zvo (ninS (nL (lL (lL zkg.lt (lT (lT zkn.1 zue.1) zuu.1)) (Nat.le_of_eq zv3.symm))) nin0)).keep zw5 nin0).keep zwk (ninS (nL (lL (lL zkg.lt (lT (lT (lT (lT zkn.1 zue.1) zuu.1) zv9.1) zvo.1)) (Nat.le_of_eq zvz.symm))) nin0)).keep zx9 (ninS (nL (lL (lL zkg.lt (lT zkn.1 zue.1)) (Nat.le_of_eq zuo.symm))) (ninS (nL (lL (lL zkg.lt (lT (lT zkn.1 zue.1) zuu.1)) (Nat.le_of_eq zv3.symm))) (ninS (nL (lL (lL zkg.lt (lT (lT (lT (lT zkn.1 zue.1) zuu.1) zv9.1) zvo.1)) (Nat.le_of_eq zvz.symm))) nin0)))).keep zz7 nin0).keep zzm nin0)
              have zzt : Old Z n0 zze := (((zx1.keep zx9 (allS (lT (lT Z0 (zuh.1)) (Nat.le_of_eq zuo.symm)) (allS (lT (lT Z0 (zuv.1)) (Nat.le_of_eq zv3.symm)) (allS (lT (lT Z0 (zvu.1)) (Nat.le_of_eq zvz.symm)) all0)))).keep zz7 all0).keep zzm all0)
              refine Jvm.Q9.Aim.callCW (argsL := [(.ref c_1499)]) (rest := [(.ref zzf), (.ref zz0), (.ref zz0)]) zzh hx hZ hml hown rfl (wI hw 11 rfl) (wI hw 12 rfl) (wI hw 13 rfl) (by decide) (Jvm.Q9.Con.back (W := 3) (own_sC l Z a0 hw zzf c_1499 kC_1500 (txt p1) (.null) (.int 0) zze n0 (lT Z0 (zzn.1)) zwg (lT (lT Z0 (zz8.1)) (Nat.le_of_eq zzg.symm)) (Jvm.Q9.nl_new zwh.ltL (lT (lT zx9.1 zz7.1) (Nat.le_of_eq zzg.symm))) zzj zzo zzp zzq zzr zzs zzt (txt_len _) (txt_in _) G GL) (wI hw 13 rfl) (wI hw 10 rfl) (by decide) (by decide)) rfl pd__28_5bC_29V rfl (Nat.le_of_eq rfl) (hb hby at_185) (by decide) (by decide) ?_
              intro zzu zzv zzw zzx zzy zzz z100
              obtain ⟨t_2124, kb_2125, rfl, z101, z102, z103, z104, z105, z106⟩ := z100
              have z107 : Keep h0 zzv [] := zzn.trans z101 (allS (Or.inr (lT (zz8.1) (Nat.le_of_eq zzg.symm))) all0)
              have z108 : Jvm.Q9.Grow Lc0 zzx h0.size := zwr.trans zzz (zzn.1)
              have H := zzy.here
              refine Jvm.Q9.Aim.of (T' := zzu) (g' := (mkF m 190 #[.val (.int p1), .val (.int p2), .val (.int p3), .val (.int p4), .val (.int p5), .val (.int p6), .val (.ref c_676), .val (.ref c_1499), .val (.ref c_1512), .val (.ref c_1906), .val (.int zuj), .val (.ref zun), .val (.int (((p6.toUInt32 >>> ((21 : Int32) &&& 31).toUInt32).toInt32) &&& (7 : Int32))), .unset, .unset] [(.int zuj), (.ref zzf), (.ref zz0), (.ref zz0)])) (fun tgt kt => ?_) ?_
              · refine XS.iload H hx rfl (hb hby at_188) rfl ?_
                exact kt
              refine Jvm.Q9.Aim.newO zzy hx hZ hown (wI hw 8 rfl) (wI hw 9 rfl) (wI hw 10 rfl) (hb hby at_190) (by decide) (by decide) ?_
              intro z109 z10a z10b z10c z10d z10e z10f z10g z10h
              have z10i : Keep zzv z10a [] := (Keep.refl _ _).ext z10e
              have z10j : Keep h0 z10a [] := z107.trans z10i all0
              have z10k : Fld Z z10a z10b "java/lang/String" "value" "[B" .null := z10g (Or.inr (wI hw 23 rfl)) (ty := (.array .byte)) (by decide)
              have z10l : Fld Z z10a z10b "java/lang/String" "coder" "B" (.int 0) := z10g (Or.inr (wI hw 24 rfl)) (ty := .byte) (by decide)
              have z10m : Fld Z z10a z10b "java/lang/String" "hash" "I" (.int 0) := z10g (Or.inl (wI hw 65 rfl)) (ty := .int) (by decide)
              have z10n : Fld Z z10a z10b "java/lang/String" "hashIsZero" "Z" (.int 0) := z10g (Or.inl (wI hw 67 rfl)) (ty := .boolean) (by decide)
              have H := z10d.here
              refine Jvm.Q9.Aim.of (T' := z109) (g' := (mkF m 196 #[.val (.int p1), .val (.int p2), .val (.int p3), .val (.int p4), .val (.int p5), .val (.int p6), .val (.ref c_676), .val (.ref c_1499), .val (.ref c_1512), .val (.ref c_1906), .val (.int zuj), .val (.ref zun), .val (.int (((p6.toUInt32 >>> ((21 : Int32) &&& 31).toUInt32).toInt32) &&& (7 : Int32))), .unset, .unset] [(.ref c_1906), (.ref z10b), (.ref z10b), (.int zuj), (.ref zzf), (.ref zz0), (.ref zz0)])) (fun tgt kt => ?_) ?_
              · refine XS.dup H hx rfl (hb hby at_193) rfl rfl ?_
                refine XS.aload H hx rfl (hb hby at_194) rfl rfl ?_
                exact kt
              have z10o : Arv Z z10a c_1906 kC_1907 .char (Int32.ofNat (txt p5).length) ((txt p5).map Value.int) (.int 0) := ((((((((((zug.keep zuu nin0).keep zv9 nin0).keep zvo (ninS (nL (lL (lL zug.lt (zuu.1)) (Nat.le_of_eq zv3.symm))) nin0)).keep zw5 nin0).keep zwk (ninS (nL (lL (lL zug.lt (lT (lT zuu.1 zv9.1) zvo.1)) (Nat.le_of_eq zvz.symm))) nin0)).keep zx9 (ninS (nL (lL zug.lt (Nat.le_of_eq zuo.symm))) (ninS (nL (lL (lL zug.lt (zuu.1)) (Nat.le_of_eq zv3.symm))) (ninS (nL (lL (lL zug.lt (lT (lT zuu.1 zv9.1) zvo.1)) (Nat.le_of_eq zvz.symm))) nin0)))).keep zz7 nin0).keep zzm nin0).keep z101 (ninS (nL (lL (lL zug.lt (lT (lT (lT (lT (lT (lT zuu.1 zv9.1) zvo.1) zw5.1) zwk.1) zx9.1) zz7.1)) (Nat.le_of_eq zzg.symm))) nin0)).keep z10i nin0)
              have z10p : Old Z n0 z10a := ((zzt.keep z101 (allS (lT (lT Z0 (zz8.1)) (Nat.le_of_eq zzg.symm)) all0)).keep z10i all0)
              refine Jvm.Q9.Aim.callCW (argsL := [(.ref c_1906)]) (rest := [(.ref z10b), (.int zuj), (.ref zzf), (.ref zz0), (.ref zz0)]) z10d hx hZ hml hown rfl (wI hw 11 rfl) (wI hw 12 rfl) (wI hw 13 rfl) (by decide) (Jvm.Q9.Con.back (W := 5) (own_sC l Z a0 hw z10b c_1906 kC_1907 (txt p5) (.null) (.int 0) z10a n0 (lT Z0 (z10j.1)) zzx (lT (lT Z0 (z107.1)) (Nat.le_of_eq z10c.symm)) (Jvm.Q9.nl_new zzy.ltL (lT (Nat.le_refl _) (Nat.le_of_eq z10c.symm))) z10f z10k z10l z10m z10n z10o z10p (txt_len _) (txt_in _) G GL) (wI hw 13 rfl) (wI hw 10 rfl) (by decide) (by decide)) rfl pd__28_5bC_29V rfl (Nat.le_of_eq rfl) (hb hby at_196) (by decide) (by decide) ?_
              intro z10q z10r z10s z10t z10u z10v z10w
              obtain ⟨t_2158, kb_2159, rfl, z10x, z10y, z10z, z110, z111, z112⟩ := z10w
              have z113 : Keep h0 z10r [] := z10j.trans z10x (allS (Or.inr (lT (z107.1) (Nat.le_of_eq z10c.symm))) all0)
              have z114 : Jvm.Q9.Grow Lc0 z10t h0.size := z108.trans z10v (z10j.1)
              have z115 : Exa Z z10r zz0 "com/example/tophat_ledger/tophatledger/HoldingGroup" := ((((zz4.keep zzm).keep z101).keep z10i).keep z10x)
              have z116 : Fld Z z10r zz0 "com/example/tophat_ledger/tophatledger/HoldingGroup" "participant" "Ljava/lang/String;" .null := ((((zz9.keep zzm nin0).keep z101 (ninS (nL (lL zz4.lt (Nat.le_of_eq zzg.symm))) nin0)).keep z10i nin0).keep z10x (ninS (nL (lL (lL zz4.lt (lT zzm.1 z101.1)) (Nat.le_of_eq z10c.symm))) nin0))
              have z117 : Fld Z z10r zz0 "com/example/tophat_ledger/tophatledger/HoldingGroup" "year" "I" (.int 0) := ((((zza.keep zzm nin0).keep z101 (ninS (nL (lL zz4.lt (Nat.le_of_eq zzg.symm))) nin0)).keep z10i nin0).keep z10x (ninS (nL (lL (lL zz4.lt (lT zzm.1 z101.1)) (Nat.le_of_eq z10c.symm))) nin0))
              have z118 : Fld Z z10r zz0 "com/example/tophat_ledger/tophatledger/HoldingGroup" "source" "Ljava/lang/String;" .null := ((((zzb.keep zzm nin0).keep z101 (ninS (nL (lL zz4.lt (Nat.le_of_eq zzg.symm))) nin0)).keep z10i nin0).keep z10x (ninS (nL (lL (lL zz4.lt (lT zzm.1 z101.1)) (Nat.le_of_eq z10c.symm))) nin0))
              have z119 : Fld Z z10r zz0 "com/example/tophat_ledger/tophatledger/HoldingGroup" "hash" "I" (.int 0) := ((((zzc.keep zzm nin0).keep z101 (ninS (nL (lL zz4.lt (Nat.le_of_eq zzg.symm))) nin0)).keep z10i nin0).keep z10x (ninS (nL (lL (lL zz4.lt (lT zzm.1 z101.1)) (Nat.le_of_eq z10c.symm))) nin0))
              have z11a : Str Z z10r zzf t_2124 kb_2125 (txt p1) := ((z103.keep z10i nin0 nin0).keep z10x (ninS (nL (lL (lL zzj.lt (z101.1)) (Nat.le_of_eq z10c.symm))) nin0) (ninS (nL (lL z103.ltb (Nat.le_of_eq z10c.symm))) nin0))
              have z11b : (2 ≤ (txt p1).length → Exa Z z10r t_2124 "[B") := (fun q => ((fun q => (z104 q).keep z10i) q).keep z10x)
              have z11c : Fld Z z10r zzf "java/lang/String" "hash" "I" (.int 0) := ((z105.keep z10i nin0).keep z10x (ninS (nL (lL (lL zzj.lt (z101.1)) (Nat.le_of_eq z10c.symm))) nin0))
              have z11d : Fld Z z10r zzf "java/lang/String" "hashIsZero" "Z" (.int 0) := ((z106.keep z10i nin0).keep z10x (ninS (nL (lL (lL zzj.lt (z101.1)) (Nat.le_of_eq z10c.symm))) nin0))
              have z11e : Old Z n0 z10r := (z10p.keep z10x (allS (lT (lT Z0 (z107.1)) (Nat.le_of_eq z10c.symm)) all0))
              have z11f : Exa Z z10r zzf "java/lang/String" := (((zzj.keep z101).keep z10i).keep z10x)
              have z11g : Exa Z z10r z10b "java/lang/String" := (z10f.keep z10x)
              refine Jvm.Q9.Aim.callC (argsL := [(.ref zzf), (.int zuj), (.ref z10b)]) (rest := [(.ref zz0)]) z10u hx hZ hml hown rfl (wI hw 29 rfl) (wI hw 30 rfl) (wI hw 31 rfl) (by decide) (fun vm0 hZ => Jvm.Y9.Con.back (s := s.setVm vm0) (W := 1) (own_hg l Z a0 hw zz0 zuj (.null) (.int 0) (.null) (.int 0) zzf t_2124 kb_2125 (txt p1) z10b t_2158 kb_2159 (txt p5) z10r n0 (lT Z0 (z113.1)) (lT (lT Z0 (zxg.1)) (Nat.le_of_eq zz1.symm)) (lT (lT Z0 (zz8.1)) (Nat.le_of_eq zzg.symm)) (lT (lT Z0 (z107.1)) (Nat.le_of_eq z10c.symm)) z115 z116 z117 z118 z119 z11a z11b z11c z11d z10z z110 z111 z112 z11e (nL (lL (lL zzj.lt (z101.1)) (Nat.le_of_eq z10c.symm))) (Jvm.Q9.ori_ne z102 (lT (lT Z0 (zz8.1)) (Nat.le_of_eq zzg.symm)) (Jvm.Q9.nl_step (Jvm.Q9.nl_new zwh.ltL (lT (lT zx9.1 zz7.1) (Nat.le_of_eq zzg.symm))) zzz zzj.lt) zzj.lt) (nL (lL z103.ltb (Nat.le_of_eq z10c.symm))) (Jvm.Q9.ori_ne z10y (lT (lT Z0 (zz8.1)) (Nat.le_of_eq zzg.symm)) (Jvm.Q9.nl_step (Jvm.Q9.nl_step (Jvm.Q9.nl_new zwh.ltL (lT (lT zx9.1 zz7.1) (Nat.le_of_eq zzg.symm))) zzz zzj.lt) z10v (lL zzj.lt (lT z101.1 z10i.1))) (lL zzj.lt (lT z101.1 z10i.1))) (Jvm.Q9.ori_ne z10y (lT (lT Z0 (z107.1)) (Nat.le_of_eq z10c.symm)) (Jvm.Q9.nl_step (Jvm.Q9.nl_new zzy.ltL (lT (Nat.le_refl _) (Nat.le_of_eq z10c.symm))) z10v z10f.lt) z10f.lt) (txt_len _) (txt_len _) (Jvm.Q9.ori_ne z102 (lT (lT Z0 (zxg.1)) (Nat.le_of_eq zz1.symm)) (Jvm.Q9.nl_step (Jvm.Q9.nl_new zwh.ltL (lT (zx9.1) (Nat.le_of_eq zz1.symm))) zzz (lL zz4.lt (zzm.1))) (lL zz4.lt (zzm.1))) (Jvm.Q9.ori_ne z10y (lT (lT Z0 (zxg.1)) (Nat.le_of_eq zz1.symm)) (Jvm.Q9.nl_step (Jvm.Q9.nl_step (Jvm.Q9.nl_new zwh.ltL (lT (zx9.1) (Nat.le_of_eq zz1.symm))) zzz (lL zz4.lt (zzm.1))) z10v (lL zz4.lt (lT (lT zzm.1 z101.1) z10i.1))) (lL zz4.lt (lT (lT zzm.1 z101.1) z10i.1))) G GI) hZ (wI hw 31 rfl) (wI hw 7 rfl) (by decide) (by decide)) (fun _ _ ⟨_, q, _, _, _, _, _, _⟩ => q) (allS (Jvm.Q9.nl_step (Jvm.Q9.nl_step (Jvm.Q9.nl_new zwh.ltL (lT (zx9.1) (Nat.le_of_eq zz1.symm))) zzz (lL zz4.lt (zzm.1))) z10v (lL zz4.lt (lT (lT zzm.1 z101.1) z10i.1))) (allS (Jvm.Q9.nl_step (Jvm.Q9.nl_step (Jvm.Q9.nl_new zwh.ltL (lT (lT zx9.1 zz7.1) (Nat.le_of_eq zzg.symm))) zzz zzj.lt) z10v (lL zzj.lt (lT z101.1 z10i.1))) (allS (Jvm.Q9.nl_step (Jvm.Q9.nl_new zzy.ltL (lT (Nat.le_refl _) (Nat.le_of_eq z10c.symm))) z10v z10f.lt) all0))) rfl pd__28Ljava_2flang_2fString_3bILjava_2flang_2fString_3b_29V rfl (Nat.le_of_eq rfl) (hb hby at_199) (by decide) (by decide) ?_
              intro z11h z11i z11j z11k z11l
              obtain ⟨rfl, z11m, z11n, z11o, z11p, z11q, z11r, z11s⟩ := z11l
              have z11t : Keep h0 z11i [] := z113.trans z11m (allS (Or.inr (lT (zxg.1) (Nat.le_of_eq zz1.symm))) (allS (Or.inr (lT (zz8.1) (Nat.le_of_eq zzg.symm))) (allS (Or.inr (lT (z107.1) (Nat.le_of_eq z10c.symm))) all0)))
              have H := z11k.here
              refine Jvm.Q9.Aim.of (T' := z11h) (g' := (mkF m 207 #[.val (.int p1), .val (.int p2), .val (.int p3), .val (.int p4), .val (.int p5), .val (.int p6), .val (.ref c_676), .val (.ref c_1499), .val (.ref c_1512), .val (.ref c_1906), .val (.int zuj), .val (.ref zun), .val (.int (((p6.toUInt32 >>> ((21 : Int32) &&& 31).toUInt32).toInt32) &&& (7 : Int32))), .val (.ref zz0), .unset] [(.int p3), (.int zuj)])) (fun tgt kt => ?_) ?_
              · refine XS.astore H hx rfl (hb hby at_202) rfl rfl (l' := #[.val (.int p1), .val (.int p2), .val (.int p3), .val (.int p4), .val (.int p5), .val (.int p6), .val (.ref c_676), .val (.ref c_1499), .val (.ref c_1512), .val (.ref c_1906), .val (.int zuj), .val (.ref zun), .val (.int (((p6.toUInt32 >>> ((21 : Int32) &&& 31).toUInt32).toInt32) &&& (7 : Int32))), .val (.ref zz0), .unset]) rfl ?_
                refine XS.iload H hx rfl (hb hby at_204) rfl ?_
                refine XS.iloadN H hx rfl (hb hby at_206) rfl ?_
                exact kt
              by_cases z11u : zuj = p3
              · skip
                have H := z11k.here
                refine Jvm.Q9.Aim.of (T' := z11h) (g' := (mkF m 214 #[.val (.int p1), .val (.int p2), .val (.int p3), .val (.int p4), .val (.int p5), .val (.int p6), .val (.ref c_676), .val (.ref c_1499), .val (.ref c_1512), .val (.ref c_1906), .val (.int zuj), .val (.ref zun), .val (.int (((p6.toUInt32 >>> ((21 : Int32) &&& 31).toUInt32).toInt32) &&& (7 : Int32))), .val (.ref zz0), .unset] [(.ref c_1499), (.ref c_676)])) (fun tgt kt => ?_) ?_
                · refine XS.icmpNo H hx rfl (hb hby at_207) rfl (teq z11u).2 ?_
                  refine XS.aload H hx rfl (hb hby at_210) rfl rfl ?_
                  refine XS.aload H hx rfl (hb hby at_212) rfl rfl ?_
                  exact kt
                have z11v : Arv Z z11i c_676 kC_677 .char (Int32.ofNat (txt p1).length) ((txt p1).map Value.int) (.int 0) := ((((((((((zvf.keep zvo (ninS (nL (lL (lL z7.lt (lT (lT (lT zke.1 zkn.1) zue.1) zuu.1)) (Nat.le_of_eq zv3.symm))) nin0)).keep zw5 nin0).keep zwk (ninS (nL (lL (lL z7.lt (lT (lT (lT (lT (lT zke.1 zkn.1) zue.1) zuu.1) zv9.1) zvo.1)) (Nat.le_of_eq zvz.symm))) nin0)).keep zx9 (ninS (nL (lL (lL z7.lt (lT (lT zke.1 zkn.1) zue.1)) (Nat.le_of_eq zuo.symm))) (ninS (nL (lL (lL z7.lt (lT (lT (lT zke.1 zkn.1) zue.1) zuu.1)) (Nat.le_of_eq zv3.symm))) (ninS (nL (lL (lL z7.lt (lT (lT (lT (lT (lT zke.1 zkn.1) zue.1) zuu.1) zv9.1) zvo.1)) (Nat.le_of_eq zvz.symm))) nin0)))).keep zz7 nin0).keep zzm nin0).keep z101 (ninS (nL (lL (lL z7.lt (lT (lT (lT (lT (lT (lT (lT (lT (lT zke.1 zkn.1) zue.1) zuu.1) zv9.1) zvo.1) zw5.1) zwk.1) zx9.1) zz7.1)) (Nat.le_of_eq zzg.symm))) nin0)).keep z10i nin0).keep z10x (ninS (nL (lL (lL z7.lt (lT (lT (lT (lT (lT (lT (lT (lT (lT (lT (lT zke.1 zkn.1) zue.1) zuu.1) zv9.1) zvo.1) zw5.1) zwk.1) zx9.1) zz7.1) zzm.1) z101.1)) (Nat.le_of_eq z10c.symm))) nin0)).keep z11m (ninS (nL (lL (lL z7.lt (lT (lT (lT (lT (lT (lT (lT (lT zke.1 zkn.1) zue.1) zuu.1) zv9.1) zvo.1) zw5.1) zwk.1) zx9.1)) (Nat.le_of_eq zz1.symm))) (ninS (nL (lL (lL z7.lt (lT (lT (lT (lT (lT (lT (lT (lT (lT zke.1 zkn.1) zue.1) zuu.1) zv9.1) zvo.1) zw5.1) zwk.1) zx9.1) zz7.1)) (Nat.le_of_eq zzg.symm))) (ninS (nL (lL (lL z7.lt (lT (lT (lT (lT (lT (lT (lT (lT (lT (lT (lT zke.1 zkn.1) zue.1) zuu.1) zv9.1) zvo.1) zw5.1) zwk.1) zx9.1) zz7.1) zzm.1) z101.1)) (Nat.le_of_eq z10c.symm))) nin0))))
                have z11w : Arv Z z11i c_1499 kC_1500 .char (Int32.ofNat (txt p1).length) ((txt p1).map Value.int) (.int 0) := ((((zzs.keep z101 (ninS (nL (lL (lL zkg.lt (lT (lT (lT (lT (lT (lT (lT (lT zkn.1 zue.1) zuu.1) zv9.1) zvo.1) zw5.1) zwk.1) zx9.1) zz7.1)) (Nat.le_of_eq zzg.symm))) nin0)).keep z10i nin0).keep z10x (ninS (nL (lL (lL zkg.lt (lT (lT (lT (lT (lT (lT (lT (lT (lT (lT zkn.1 zue.1) zuu.1) zv9.1) zvo.1) zw5.1) zwk.1) zx9.1) zz7.1) zzm.1) z101.1)) (Nat.le_of_eq z10c.symm))) nin0)).keep z11m (ninS (nL (lL (lL zkg.lt (lT (lT (lT (lT (lT (lT (lT zkn.1 zue.1) zuu.1) zv9.1) zvo.1) zw5.1) zwk.1) zx9.1)) (Nat.le_of_eq zz1.symm))) (ninS (nL (lL (lL zkg.lt (lT (lT (lT (lT (lT (lT (lT (lT zkn.1 zue.1) zuu.1) zv9.1) zvo.1) zw5.1) zwk.1) zx9.1) zz7.1)) (Nat.le_of_eq zzg.symm))) (ninS (nL (lL (lL zkg.lt (lT (lT (lT (lT (lT (lT (lT (lT (lT (lT zkn.1 zue.1) zuu.1) zv9.1) zvo.1) zw5.1) zwk.1) zx9.1) zz7.1) zzm.1) z101.1)) (Nat.le_of_eq z10c.symm))) nin0))))
                refine Jvm.Q9.Aim.callS (argsL := [(.ref c_676), (.ref c_1499)]) (rest := []) z11k hx hZ hml hown (wI hw 88 rfl) (wI hw 89 rfl) (wI hw 2 rfl) (wI hw 90 rfl) (by decide) (fun vm0 hZ => Jvm.Y9.Con.back (s := s.setVm vm0) (W := 0) (own_same l Z a0 hw c_676 kC_677 (txt p1) c_1499 kC_1500 (txt p1) z11i n0 (lT Z0 (z11t.1)) z11v z11w (txt_len _) (txt_len _)) hZ (wI hw 90 rfl) (wI hw 2 rfl) (by decide) (by decide)) (fun _ _ ⟨_, q⟩ => (by subst q; exact Keep.refl _ [])) all0 rfl pd__28_5bC_5bC_29Z rfl (Nat.le_of_eq rfl) (hb hby at_214) (by decide) (by decide) ?_
                intro z11x z11y z11z z120 z121
                obtain ⟨rfl, rfl⟩ := z121
                have H := z120.here
                refine Jvm.Q9.Aim.of (T' := z11x) (g' := (mkF m 224 #[.val (.int p1), .val (.int p2), .val (.int p3), .val (.int p4), .val (.int p5), .val (.int p6), .val (.ref c_676), .val (.ref c_1499), .val (.ref c_1512), .val (.ref c_1906), .val (.int zuj), .val (.ref zun), .val (.int (((p6.toUInt32 >>> ((21 : Int32) &&& 31).toUInt32).toInt32) &&& (7 : Int32))), .val (.ref zz0), .unset] [(.ref c_1906), (.ref c_1512)])) (fun tgt kt => ?_) ?_
                · refine XS.ifNo H hx rfl (hb hby at_217) rfl ((if0 _ _).trans (feq (by rw [if_pos rfl]; decide)).1) ?_
                  refine XS.aload H hx rfl (hb hby at_220) rfl rfl ?_
                  refine XS.aload H hx rfl (hb hby at_222) rfl rfl ?_
                  exact kt
                have z122 : Arv Z z11i c_1512 kC_1513 .char (Int32.ofNat (txt p5).length) ((txt p5).map Value.int) (.int 0) := ((((((((zwb.keep zwk (ninS (nL (lL (lL zkp.lt (lT (lT (lT zue.1 zuu.1) zv9.1) zvo.1)) (Nat.le_of_eq zvz.symm))) nin0)).keep zx9 (ninS (nL (lL (lL zkp.lt (zue.1)) (Nat.le_of_eq zuo.symm))) (ninS (nL (lL (lL zkp.lt (lT zue.1 zuu.1)) (Nat.le_of_eq zv3.symm))) (ninS (nL (lL (lL zkp.lt (lT (lT (lT zue.1 zuu.1) zv9.1) zvo.1)) (Nat.le_of_eq zvz.symm))) nin0)))).keep zz7 nin0).keep zzm nin0).keep z101 (ninS (nL (lL (lL zkp.lt (lT (lT (lT (lT (lT (lT (lT zue.1 zuu.1) zv9.1) zvo.1) zw5.1) zwk.1) zx9.1) zz7.1)) (Nat.le_of_eq zzg.symm))) nin0)).keep z10i nin0).keep z10x (ninS (nL (lL (lL zkp.lt (lT (lT (lT (lT (lT (lT (lT (lT (lT zue.1 zuu.1) zv9.1) zvo.1) zw5.1) zwk.1) zx9.1) zz7.1) zzm.1) z101.1)) (Nat.le_of_eq z10c.symm))) nin0)).keep z11m (ninS (nL (lL (lL zkp.lt (lT (lT (lT (lT (lT (lT zue.1 zuu.1) zv9.1) zvo.1) zw5.1) zwk.1) zx9.1)) (Nat.le_of_eq zz1.symm))) (ninS (nL (lL (lL zkp.lt (lT (lT (lT (lT (lT (lT (lT zue.1 zuu.1) zv9.1) zvo.1) zw5.1) zwk.1) zx9.1) zz7.1)) (Nat.le_of_eq zzg.symm))) (ninS (nL (lL (lL zkp.lt (lT (lT (lT (lT (lT (lT (lT (lT (lT zue.1 zuu.1) zv9.1) zvo.1) zw5.1) zwk.1) zx9.1) zz7.1) zzm.1) z101.1)) (Nat.le_of_eq z10c.symm))) nin0))))
                have z123 : Arv Z z11i c_1906 kC_1907 .char (Int32.ofNat (txt p5).length) ((txt p5).map Value.int) (.int 0) := ((z10o.keep z10x (ninS (nL (lL (lL zug.lt (lT (lT (lT (lT (lT (lT (lT (lT zuu.1 zv9.1) zvo.1) zw5.1) zwk.1) zx9.1) zz7.1) zzm.1) z101.1)) (Nat.le_of_eq z10c.symm))) nin0)).keep z11m (ninS (nL (lL (lL zug.lt (lT (lT (lT (lT (lT zuu.1 zv9.1) zvo.1) zw5.1) zwk.1) zx9.1)) (Nat.le_of_eq zz1.symm))) (ninS (nL (lL (lL zug.lt (lT (lT (lT (lT (lT (lT zuu.1 zv9.1) zvo.1) zw5.1) zwk.1) zx9.1) zz7.1)) (Nat.le_of_eq zzg.symm))) (ninS (nL (lL (lL zug.lt (lT (lT (lT (lT (lT (lT (lT (lT zuu.1 zv9.1) zvo.1) zw5.1) zwk.1) zx9.1) zz7.1) zzm.1) z101.1)) (Nat.le_of_eq z10c.symm))) nin0))))
                refine Jvm.Q9.Aim.callS (argsL := [(.ref c_1512), (.ref c_1906)]) (rest := []) z120 hx hZ hml hown (wI hw 88 rfl) (wI hw 89 rfl) (wI hw 2 rfl) (wI hw 90 rfl) (by decide) (fun vm0 hZ => Jvm.Y9.Con.back (s := s.setVm vm0) (W := 0) (own_same l Z a0 hw c_1512 kC_1513 (txt p5) c_1906 kC_1907 (txt p5) z11i n0 (lT Z0 (z11t.1)) z122 z123 (txt_len _) (txt_len _)) hZ (wI hw 90 rfl) (wI hw 2 rfl) (by decide) (by decide)) (fun _ _ ⟨_, q⟩ => (by subst q; exact Keep.refl _ [])) all0 rfl pd__28_5bC_5bC_29Z rfl (Nat.le_of_eq rfl) (hb hby at_224) (by decide) (by decide) ?_
                intro z124 z125 z126 z127 z128
                obtain ⟨rfl, rfl⟩ := z128
                have H := z127.here
                refine Jvm.Q9.Aim.of (T' := z124) (g' := (mkF m 241 #[.val (.int p1), .val (.int p2), .val (.int p3), .val (.int p4), .val (.int p5), .val (.int p6), .val (.ref c_676), .val (.ref c_1499), .val (.ref c_1512), .val (.ref c_1906), .val (.int zuj), .val (.ref zun), .val (.int (((p6.toUInt32 >>> ((21 : Int32) &&& 31).toUInt32).toInt32) &&& (7 : Int32))), .val (.ref zz0), .val (.int 1)] [(.ref zz0), (.ref zun)])) (fun tgt kt => ?_) ?_
                · refine XS.ifNo H hx rfl (hb hby at_227) rfl ((if0 _ _).trans (feq (by rw [if_pos rfl]; decide)).1) ?_
                  refine XS.iconst H hx rfl (hb hby at_230) ?_
                  refine XS.goto H hx rfl (pc0 := 231) (pc' := 235) rfl (hb hby at_231) (by decide) (by decide) ?_
                  refine XS.istore H hx rfl (hb hby at_235) rfl (l' := #[.val (.int p1), .val (.int p2), .val (.int p3), .val (.int p4), .val (.int p5), .val (.int p6), .val (.ref c_676), .val (.ref c_1499), .val (.ref c_1512), .val (.ref c_1906), .val (.int zuj), .val (.ref zun), .val (.int (((p6.toUInt32 >>> ((21 : Int32) &&& 31).toUInt32).toInt32) &&& (7 : Int32))), .val (.ref zz0), .val (.int 1)]) rfl ?_
                  refine XS.aload H hx rfl (hb hby at_237) rfl rfl ?_
                  refine XS.aload H hx rfl (hb hby at_239) rfl rfl ?_
                  exact kt
                have z129 : Exa Z z11i zun "com/example/tophat_ledger/tophatledger/HoldingGroup" := ((((((zxa.keep zz7).keep zzm).keep z101).keep z10i).keep z10x).keep z11m)
                have z12a : Fld Z z11i zun "com/example/tophat_ledger/tophatledger/HoldingGroup" "participant" "Ljava/lang/String;" (.ref zv2) := ((((((zxb.keep zz7 nin0).keep zzm nin0).keep z101 (ninS (nL (lL (lL zur.lt (lT (lT (lT (lT (lT zv9.1 zvo.1) zw5.1) zwk.1) zx9.1) zz7.1)) (Nat.le_of_eq zzg.symm))) nin0)).keep z10i nin0).keep z10x (ninS (nL (lL (lL zur.lt (lT (lT (lT (lT (lT (lT (lT zv9.1 zvo.1) zw5.1) zwk.1) zx9.1) zz7.1) zzm.1) z101.1)) (Nat.le_of_eq z10c.symm))) nin0)).keep z11m (ninS (nL (lL (lL zur.lt (lT (lT (lT (lT zv9.1 zvo.1) zw5.1) zwk.1) zx9.1)) (Nat.le_of_eq zz1.symm))) (ninS (nL (lL (lL zur.lt (lT (lT (lT (lT (lT zv9.1 zvo.1) zw5.1) zwk.1) zx9.1) zz7.1)) (Nat.le_of_eq zzg.symm))) (ninS (nL (lL (lL zur.lt (lT (lT (lT (lT (lT (lT (lT zv9.1 zvo.1) zw5.1) zwk.1) zx9.1) zz7.1) zzm.1) z101.1)) (Nat.le_of_eq z10c.symm))) nin0))))
                have z12b : Fld Z z11i zun "com/example/tophat_ledger/tophatledger/HoldingGroup" "year" "I" (.int p3) := ((((((zxc.keep zz7 nin0).keep zzm nin0).keep z101 (ninS (nL (lL (lL zur.lt (lT (lT (lT (lT (lT zv9.1 zvo.1) zw5.1) zwk.1) zx9.1) zz7.1)) (Nat.le_of_eq zzg.symm))) nin0)).keep z10i nin0).keep z10x (ninS (nL (lL (lL zur.lt (lT (lT (lT (lT (lT (lT (lT zv9.1 zvo.1) zw5.1) zwk.1) zx9.1) zz7.1) zzm.1) z101.1)) (Nat.le_of_eq z10c.symm))) nin0)).keep z11m (ninS (nL (lL (lL zur.lt (lT (lT (lT (lT zv9.1 zvo.1) zw5.1) zwk.1) zx9.1)) (Nat.le_of_eq zz1.symm))) (ninS (nL (lL (lL zur.lt (lT (lT (lT (lT (lT zv9.1 zvo.1) zw5.1) zwk.1) zx9.1) zz7.1)) (Nat.le_of_eq zzg.symm))) (ninS (nL (lL (lL zur.lt (lT (lT (lT (lT (lT (lT (lT zv9.1 zvo.1) zw5.1) zwk.1) zx9.1) zz7.1) zzm.1) z101.1)) (Nat.le_of_eq z10c.symm))) nin0))))
                have z12c : Fld Z z11i zun "com/example/tophat_ledger/tophatledger/HoldingGroup" "source" "Ljava/lang/String;" (.ref zvy) := ((((((zxd.keep zz7 nin0).keep zzm nin0).keep z101 (ninS (nL (lL (lL zur.lt (lT (lT (lT (lT (lT zv9.1 zvo.1) zw5.1) zwk.1) zx9.1) zz7.1)) (Nat.le_of_eq zzg.symm))) nin0)).keep z10i nin0).keep z10x (ninS (nL (lL (lL zur.lt (lT (lT (lT (lT (lT (lT (lT zv9.1 zvo.1) zw5.1) zwk.1) zx9.1) zz7.1) zzm.1) z101.1)) (Nat.le_of_eq z10c.symm))) nin0)).keep z11m (ninS (nL (lL (lL zur.lt (lT (lT (lT (lT zv9.1 zvo.1) zw5.1) zwk.1) zx9.1)) (Nat.le_of_eq zz1.symm))) (ninS (nL (lL (lL zur.lt (lT (lT (lT (lT (lT zv9.1 zvo.1) zw5.1) zwk.1) zx9.1) zz7.1)) (Nat.le_of_eq zzg.symm))) (ninS (nL (lL (lL zur.lt (lT (lT (lT (lT (lT (lT (lT zv9.1 zvo.1) zw5.1) zwk.1) zx9.1) zz7.1) zzm.1) z101.1)) (Nat.le_of_eq z10c.symm))) nin0))))
                have z12d : Str Z z11i zv2 t_1953 kb_1954 (txt p1) := ((((((zxe.keep zz7 nin0 nin0).keep zzm nin0 nin0).keep z101 (ninS (nL (lL (lL zv6.lt (lT (lT (lT (lT zvo.1 zw5.1) zwk.1) zx9.1) zz7.1)) (Nat.le_of_eq zzg.symm))) nin0) (ninS (nL (lL (lL zvq.ltb (lT (lT (lT zw5.1 zwk.1) zx9.1) zz7.1)) (Nat.le_of_eq zzg.symm))) nin0)).keep z10i nin0 nin0).keep z10x (ninS (nL (lL (lL zv6.lt (lT (lT (lT (lT (lT (lT zvo.1 zw5.1) zwk.1) zx9.1) zz7.1) zzm.1) z101.1)) (Nat.le_of_eq z10c.symm))) nin0) (ninS (nL (lL (lL zvq.ltb (lT (lT (lT (lT (lT zw5.1 zwk.1) zx9.1) zz7.1) zzm.1) z101.1)) (Nat.le_of_eq z10c.symm))) nin0)).keep z11m (ninS (nL (lL (lL zv6.lt (lT (lT (lT zvo.1 zw5.1) zwk.1) zx9.1)) (Nat.le_of_eq zz1.symm))) (ninS (nL (lL (lL zv6.lt (lT (lT (lT (lT zvo.1 zw5.1) zwk.1) zx9.1) zz7.1)) (Nat.le_of_eq zzg.symm))) (ninS (nL (lL (lL zv6.lt (lT (lT (lT (lT (lT (lT zvo.1 zw5.1) zwk.1) zx9.1) zz7.1) zzm.1) z101.1)) (Nat.le_of_eq z10c.symm))) nin0))) (ninS (nL (lL (lL zvq.ltb (lT (lT zw5.1 zwk.1) zx9.1)) (Nat.le_of_eq zz1.symm))) (ninS (nL (lL (lL zvq.ltb (lT (lT (lT zw5.1 zwk.1) zx9.1) zz7.1)) (Nat.le_of_eq zzg.symm))) (ninS (nL (lL (lL zvq.ltb (lT (lT (lT (lT (lT zw5.1 zwk.1) zx9.1) zz7.1) zzm.1) z101.1)) (Nat.le_of_eq z10c.symm))) nin0))))
                have z12e : Str Z z11i zvy t_1987 kb_1988 (txt p5) := ((((((zxf.keep zz7 nin0 nin0).keep zzm nin0 nin0).keep z101 (ninS (nL (lL (lL zw2.lt (lT (lT zwk.1 zx9.1) zz7.1)) (Nat.le_of_eq zzg.symm))) nin0) (ninS (nL (lL (lL zwm.ltb (lT zx9.1 zz7.1)) (Nat.le_of_eq zzg.symm))) nin0)).keep z10i nin0 nin0).keep z10x (ninS (nL (lL (lL zw2.lt (lT (lT (lT (lT zwk.1 zx9.1) zz7.1) zzm.1) z101.1)) (Nat.le_of_eq z10c.symm))) nin0) (ninS (nL (lL (lL zwm.ltb (lT (lT (lT zx9.1 zz7.1) zzm.1) z101.1)) (Nat.le_of_eq z10c.symm))) nin0)).keep z11m (ninS (nL (lL (lL zw2.lt (lT zwk.1 zx9.1)) (Nat.le_of_eq zz1.symm))) (ninS (nL (lL (lL zw2.lt (lT (lT zwk.1 zx9.1) zz7.1)) (Nat.le_of_eq zzg.symm))) (ninS (nL (lL (lL zw2.lt (lT (lT (lT (lT zwk.1 zx9.1) zz7.1) zzm.1) z101.1)) (Nat.le_of_eq z10c.symm))) nin0))) (ninS (nL (lL (lL zwm.ltb (zx9.1)) (Nat.le_of_eq zz1.symm))) (ninS (nL (lL (lL zwm.ltb (lT zx9.1 zz7.1)) (Nat.le_of_eq zzg.symm))) (ninS (nL (lL (lL zwm.ltb (lT (lT (lT zx9.1 zz7.1) zzm.1) z101.1)) (Nat.le_of_eq z10c.symm))) nin0))))
                have z12f : Old Z n0 z11i := (z11e.keep z11m (allS (lT (lT Z0 (zxg.1)) (Nat.le_of_eq zz1.symm)) (allS (lT (lT Z0 (zz8.1)) (Nat.le_of_eq zzg.symm)) (allS (lT (lT Z0 (z107.1)) (Nat.le_of_eq z10c.symm)) all0))))
                refine Jvm.Q9.Aim.callV (argsL := [(.ref zz0)]) (rest := []) (y := (⟨"com/example/tophat_ledger/tophatledger/HoldingGroup", "equals", "(Ljava/lang/Object;)Z"⟩ : MethodName)) (z := (⟨"com/example/tophat_ledger/tophatledger/HoldingGroup", "equals", "(Ljava/lang/Object;)Z"⟩ : MethodName)) z127 hx hZ hml hown (wI hw 91 rfl) (wI hw 92 rfl) (fun vm0 hZ => notFace_of_selects (args := #[]) (mvT (s := s.setVm vm0) hZ (wI hw 94 rfl))) (wI hw 94 rfl) (wI hw 93 rfl) (by decide) z129 (fun vm0 hZ => Jvm.Y9.Con.back (s := s.setVm vm0) (W := 0) (own_eqH l Z a0 hw zun p3 zv2 t_1953 kb_1954 (txt p1) zvy t_1987 kb_1988 (txt p5) zz0 zuj zzf t_2124 kb_2125 (txt p1) z10b t_2158 kb_2159 (txt p5) z11i n0 (lT Z0 (z11t.1)) z129 z12a z12b z12c z12d z12e z11n z11o z11p z11q z11r z11s z12f G) hZ (wI hw 95 rfl) (wI hw 7 rfl) (by decide) (by decide)) (fun _ _ ⟨_, q⟩ => (by subst q; exact Keep.refl _ [])) all0 rfl pd__28Ljava_2flang_2fObject_3b_29Z rfl (Nat.le_of_eq rfl) (hb hby at_241) (by decide) (by decide) ?_
                intro z12g z12h z12i z12j z12k
                obtain ⟨rfl, rfl⟩ := z12k
                have H := z12j.here
                refine Jvm.Q9.Aim.of (T' := z12g) (g' := (mkF m 253 #[.val (.int p1), .val (.int p2), .val (.int p3), .val (.int p4), .val (.int p5), .val (.int p6), .val (.ref c_676), .val (.ref c_1499), .val (.ref c_1512), .val (.ref c_1906), .val (.int zuj), .val (.ref zun), .val (.int (((p6.toUInt32 >>> ((21 : Int32) &&& 31).toUInt32).toInt32) &&& (7 : Int32))), .val (.ref zz0), .val (.int 1)] [(.ref zun), (.ref zz0)])) (fun tgt kt => ?_) ?_
                · refine XS.iload H hx rfl (hb hby at_244) rfl ?_
                  refine XS.icmpNo H hx rfl (hb hby at_246) rfl (teq (if_pos ⟨(Eq.symm z11u), rfl, rfl⟩)).2 ?_
                  refine XS.aload H hx rfl (hb hby at_249) rfl rfl ?_
                  refine XS.aload H hx rfl (hb hby at_251) rfl rfl ?_
                  exact kt
                refine Jvm.Q9.Aim.callV (argsL := [(.ref zun)]) (rest := []) (y := (⟨"com/example/tophat_ledger/tophatledger/HoldingGroup", "equals", "(Ljava/lang/Object;)Z"⟩ : MethodName)) (z := (⟨"com/example/tophat_ledger/tophatledger/HoldingGroup", "equals", "(Ljava/lang/Object;)Z"⟩ : MethodName)) z12j hx hZ hml hown (wI hw 91 rfl) (wI hw 92 rfl) (fun vm0 hZ => notFace_of_selects (args := #[]) (mvT (s := s.setVm vm0) hZ (wI hw 94 rfl))) (wI hw 94 rfl) (wI hw 93 rfl) (by decide) z11n (fun vm0 hZ => Jvm.Y9.Con.back (s := s.setVm vm0) (W := 0) (own_eqH l Z a0 hw zz0 zuj zzf t_2124 kb_2125 (txt p1) z10b t_2158 kb_2159 (txt p5) zun p3 zv2 t_1953 kb_1954 (txt p1) zvy t_1987 kb_1988 (txt p5) z11i n0 (lT Z0 (z11t.1)) z11n z11o z11p z11q z11r z11s z129 z12a z12b z12c z12d z12e z12f G) hZ (wI hw 95 rfl) (wI hw 7 rfl) (by decide) (by decide)) (fun _ _ ⟨_, q⟩ => (by subst q; exact Keep.refl _ [])) all0 rfl pd__28Ljava_2flang_2fObject_3b_29Z rfl (Nat.le_of_eq rfl) (hb hby at_253) (by decide) (by decide) ?_
                intro z12l z12m z12n z12o z12p
                obtain ⟨rfl, rfl⟩ := z12p
                have H := z12o.here
                refine Jvm.Q9.Aim.of (T' := z12l) (g' := (mkF m 266 #[.val (.int p1), .val (.int p2), .val (.int p3), .val (.int p4), .val (.int p5), .val (.int p6), .val (.ref c_676), .val (.ref c_1499), .val (.ref c_1512), .val (.ref c_1906), .val (.int zuj), .val (.ref zun), .val (.int (((p6.toUInt32 >>> ((21 : Int32) &&& 31).toUInt32).toInt32) &&& (7 : Int32))), .val (.ref zz0), .val (.int 1)] [(.int 1)])) (fun tgt kt => ?_) ?_
                · refine XS.iload H hx rfl (hb hby at_256) rfl ?_
                  refine XS.icmpNo H hx rfl (hb hby at_258) rfl (teq (if_pos ⟨z11u, rfl, rfl⟩)).2 ?_
                  refine XS.iconst H hx rfl (hb hby at_261) ?_
                  refine XS.goto H hx rfl (pc0 := 262) (pc' := 266) rfl (hb hby at_262) (by decide) (by decide) ?_
                  exact kt
                exact Jvm.Q9.Aim.retN (t := .boolean) z12o hx hlk hret (by simp) (hb hby at_266) (by decide) (by decide) z114 ⟨rfl, z11t⟩
              · skip
                have H := z11k.here
                refine Jvm.Q9.Aim.of (T' := z11h) (g' := (mkF m 241 #[.val (.int p1), .val (.int p2), .val (.int p3), .val (.int p4), .val (.int p5), .val (.int p6), .val (.ref c_676), .val (.ref c_1499), .val (.ref c_1512), .val (.ref c_1906), .val (.int zuj), .val (.ref zun), .val (.int (((p6.toUInt32 >>> ((21 : Int32) &&& 31).toUInt32).toInt32) &&& (7 : Int32))), .val (.ref zz0), .val (.int 0)] [(.ref zz0), (.ref zun)])) (fun tgt kt => ?_) ?_
                · refine XS.icmpYes H hx rfl (pc0 := 207) (pc' := 234) rfl (hb hby at_207) rfl (feq z11u).2 (by decide) (by decide) ?_
                  refine XS.iconst H hx rfl (hb hby at_234) ?_
                  refine XS.istore H hx rfl (hb hby at_235) rfl (l' := #[.val (.int p1), .val (.int p2), .val (.int p3), .val (.int p4), .val (.int p5), .val (.int p6), .val (.ref c_676), .val (.ref c_1499), .val (.ref c_1512), .val (.ref c_1906), .val (.int zuj), .val (.ref zun), .val (.int (((p6.toUInt32 >>> ((21 : Int32) &&& 31).toUInt32).toInt32) &&& (7 : Int32))), .val (.ref zz0), .val (.int 0)]) rfl ?_
                  refine XS.aload H hx rfl (hb hby at_237) rfl rfl ?_
                  refine XS.aload H hx rfl (hb hby at_239) rfl rfl ?_
                  exact kt
                have z12q : Exa Z z11i zun "com/example/tophat_ledger/tophatledger/HoldingGroup" := ((((((zxa.keep zz7).keep zzm).keep z101).keep z10i).keep z10x).keep z11m)
                have z12r : Fld Z z11i zun "com/example/tophat_ledger/tophatledger/HoldingGroup" "participant" "Ljava/lang/String;" (.ref zv2) := ((((((zxb.keep zz7 nin0).keep zzm nin0).keep z101 (ninS (nL (lL (lL zur.lt (lT (lT (lT (lT (lT zv9.1 zvo.1) zw5.1) zwk.1) zx9.1) zz7.1)) (Nat.le_of_eq zzg.symm))) nin0)).keep z10i nin0).keep z10x (ninS (nL (lL (lL zur.lt (lT (lT (lT (lT (lT (lT (lT zv9.1 zvo.1) zw5.1) zwk.1) zx9.1) zz7.1) zzm.1) z101.1)) (Nat.le_of_eq z10c.symm))) nin0)).keep z11m (ninS (nL (lL (lL zur.lt (lT (lT (lT (lT zv9.1 zvo.1) zw5.1) zwk.1) zx9.1)) (Nat.le_of_eq zz1.symm))) (ninS (nL (lL (lL zur.lt (lT (lT (lT (lT (lT zv9.1 zvo.1) zw5.1) zwk.1) zx9.1) zz7.1)) (Nat.le_of_eq zzg.symm))) (ninS (nL (lL (lL zur.lt (lT (lT (lT (lT (lT (lT (lT zv9.1 zvo.1) zw5.1) zwk.1) zx9.1) zz7.1) zzm.1) z101.1)) (Nat.le_of_eq z10c.symm))) nin0))))
                have z12s : Fld Z z11i zun "com/example/tophat_ledger/tophatledger/HoldingGroup" "year" "I" (.int p3) := ((((((zxc.keep zz7 nin0).keep zzm nin0).keep z101 (ninS (nL (lL (lL zur.lt (lT (lT (lT (lT (lT zv9.1 zvo.1) zw5.1) zwk.1) zx9.1) zz7.1)) (Nat.le_of_eq zzg.symm))) nin0)).keep z10i nin0).keep z10x (ninS (nL (lL (lL zur.lt (lT (lT (lT (lT (lT (lT (lT zv9.1 zvo.1) zw5.1) zwk.1) zx9.1) zz7.1) zzm.1) z101.1)) (Nat.le_of_eq z10c.symm))) nin0)).keep z11m (ninS (nL (lL (lL zur.lt (lT (lT (lT (lT zv9.1 zvo.1) zw5.1) zwk.1) zx9.1)) (Nat.le_of_eq zz1.symm))) (ninS (nL (lL (lL zur.lt (lT (lT (lT (lT (lT zv9.1 zvo.1) zw5.1) zwk.1) zx9.1) zz7.1)) (Nat.le_of_eq zzg.symm))) (ninS (nL (lL (lL zur.lt (lT (lT (lT (lT (lT (lT (lT zv9.1 zvo.1) zw5.1) zwk.1) zx9.1) zz7.1) zzm.1) z101.1)) (Nat.le_of_eq z10c.symm))) nin0))))
                have z12t : Fld Z z11i zun "com/example/tophat_ledger/tophatledger/HoldingGroup" "source" "Ljava/lang/String;" (.ref zvy) := ((((((zxd.keep zz7 nin0).keep zzm nin0).keep z101 (ninS (nL (lL (lL zur.lt (lT (lT (lT (lT (lT zv9.1 zvo.1) zw5.1) zwk.1) zx9.1) zz7.1)) (Nat.le_of_eq zzg.symm))) nin0)).keep z10i nin0).keep z10x (ninS (nL (lL (lL zur.lt (lT (lT (lT (lT (lT (lT (lT zv9.1 zvo.1) zw5.1) zwk.1) zx9.1) zz7.1) zzm.1) z101.1)) (Nat.le_of_eq z10c.symm))) nin0)).keep z11m (ninS (nL (lL (lL zur.lt (lT (lT (lT (lT zv9.1 zvo.1) zw5.1) zwk.1) zx9.1)) (Nat.le_of_eq zz1.symm))) (ninS (nL (lL (lL zur.lt (lT (lT (lT (lT (lT zv9.1 zvo.1) zw5.1) zwk.1) zx9.1) zz7.1)) (Nat.le_of_eq zzg.symm))) (ninS (nL (lL (lL zur.lt (lT (lT (lT (lT (lT (lT (lT zv9.1 zvo.1) zw5.1) zwk.1) zx9.1) zz7.1) zzm.1) z101.1)) (Nat.le_of_eq z10c.symm))) nin0))))
                have z12u : Str Z z11i zv2 t_1953 kb_1954 (txt p1) := ((((((zxe.keep zz7 nin0 nin0).keep zzm nin0 nin0).keep z101 (ninS (nL (lL (lL zv6.lt (lT (lT (lT (lT zvo.1 zw5.1) zwk.1) zx9.1) zz7.1)) (Nat.le_of_eq zzg.symm))) nin0) (ninS (nL (lL (lL zvq.ltb (lT (lT (lT zw5.1 zwk.1) zx9.1) zz7.1)) (Nat.le_of_eq zzg.symm))) nin0)).keep z10i nin0 nin0).keep z10x (ninS (nL (lL (lL zv6.lt (lT (lT (lT (lT (lT (lT zvo.1 zw5.1) zwk.1) zx9.1) zz7.1) zzm.1) z101.1)) (Nat.le_of_eq z10c.symm))) nin0) (ninS (nL (lL (lL zvq.ltb (lT (lT (lT (lT (lT zw5.1 zwk.1) zx9.1) zz7.1) zzm.1) z101.1)) (Nat.le_of_eq z10c.symm))) nin0)).keep z11m (ninS (nL (lL (lL zv6.lt (lT (lT (lT zvo.1 zw5.1) zwk.1) zx9.1)) (Nat.le_of_eq zz1.symm))) (ninS (nL (lL (lL zv6.lt (lT (lT (lT (lT zvo.1 zw5.1) zwk.1) zx9.1) zz7.1)) (Nat.le_of_eq zzg.symm))) (ninS (nL (lL (lL zv6.lt (lT (lT (lT (lT (lT (lT zvo.1 zw5.1) zwk.1) zx9.1) zz7.1) zzm.1) z101.1)) (Nat.le_of_eq z10c.symm))) nin0))) (ninS (nL (lL (lL zvq.ltb (lT (lT zw5.1 zwk.1) zx9.1)) (Nat.le_of_eq zz1.symm))) (ninS (nL (lL (lL zvq.ltb (lT (lT (lT zw5.1 zwk.1) zx9.1) zz7.1)) (Nat.le_of_eq zzg.symm))) (ninS (nL (lL (lL zvq.ltb (lT (lT (lT (lT (lT zw5.1 zwk.1) zx9.1) zz7.1) zzm.1) z101.1)) (Nat.le_of_eq z10c.symm))) nin0))))
                have z12v : Str Z z11i zvy t_1987 kb_1988 (txt p5) := ((((((zxf.keep zz7 nin0 nin0).keep zzm nin0 nin0).keep z101 (ninS (nL (lL (lL zw2.lt (lT (lT zwk.1 zx9.1) zz7.1)) (Nat.le_of_eq zzg.symm))) nin0) (ninS (nL (lL (lL zwm.ltb (lT zx9.1 zz7.1)) (Nat.le_of_eq zzg.symm))) nin0)).keep z10i nin0 nin0).keep z10x (ninS (nL (lL (lL zw2.lt (lT (lT (lT (lT zwk.1 zx9.1) zz7.1) zzm.1) z101.1)) (Nat.le_of_eq z10c.symm))) nin0) (ninS (nL (lL (lL zwm.ltb (lT (lT (lT zx9.1 zz7.1) zzm.1) z101.1)) (Nat.le_of_eq z10c.symm))) nin0)).keep z11m (ninS (nL (lL (lL zw2.lt (lT zwk.1 zx9.1)) (Nat.le_of_eq zz1.symm))) (ninS (nL (lL (lL zw2.lt (lT (lT zwk.1 zx9.1) zz7.1)) (Nat.le_of_eq zzg.symm))) (ninS (nL (lL (lL zw2.lt (lT (lT (lT (lT zwk.1 zx9.1) zz7.1) zzm.1) z101.1)) (Nat.le_of_eq z10c.symm))) nin0))) (ninS (nL (lL (lL zwm.ltb (zx9.1)) (Nat.le_of_eq zz1.symm))) (ninS (nL (lL (lL zwm.ltb (lT zx9.1 zz7.1)) (Nat.le_of_eq zzg.symm))) (ninS (nL (lL (lL zwm.ltb (lT (lT (lT zx9.1 zz7.1) zzm.1) z101.1)) (Nat.le_of_eq z10c.symm))) nin0))))
                have z12w : Old Z n0 z11i := (z11e.keep z11m (allS (lT (lT Z0 (zxg.1)) (Nat.le_of_eq zz1.symm)) (allS (lT (lT Z0 (zz8.1)) (Nat.le_of_eq zzg.symm)) (allS (lT (lT Z0 (z107.1)) (Nat.le_of_eq z10c.symm)) all0))))
                refine Jvm.Q9.Aim.callV (argsL := [(.ref zz0)]) (rest := []) (y := (⟨"com/example/tophat_ledger/tophatledger/HoldingGroup", "equals", "(Ljava/lang/Object;)Z"⟩ : MethodName)) (z := (⟨"com/example/tophat_ledger/tophatledger/HoldingGroup", "equals", "(Ljava/lang/Object;)Z"⟩ : MethodName)) z11k hx hZ hml hown (wI hw 91 rfl) (wI hw 92 rfl) (fun vm0 hZ => notFace_of_selects (args := #[]) (mvT (s := s.setVm vm0) hZ (wI hw 94 rfl))) (wI hw 94 rfl) (wI hw 93 rfl) (by decide) z12q (fun vm0 hZ => Jvm.Y9.Con.back (s := s.setVm vm0) (W := 0) (own_eqH l Z a0 hw zun p3 zv2 t_1953 kb_1954 (txt p1) zvy t_1987 kb_1988 (txt p5) zz0 zuj zzf t_2124 kb_2125 (txt p1) z10b t_2158 kb_2159 (txt p5) z11i n0 (lT Z0 (z11t.1)) z12q z12r z12s z12t z12u z12v z11n z11o z11p z11q z11r z11s z12w G) hZ (wI hw 95 rfl) (wI hw 7 rfl) (by decide) (by decide)) (fun _ _ ⟨_, q⟩ => (by subst q; exact Keep.refl _ [])) all0 rfl pd__28Ljava_2flang_2fObject_3b_29Z rfl (Nat.le_of_eq rfl) (hb hby at_241) (by decide) (by decide) ?_
                intro z12x z12y z12z z130 z131
                obtain ⟨rfl, rfl⟩ := z131
                have H := z130.here
                refine Jvm.Q9.Aim.of (T' := z12x) (g' := (mkF m 253 #[.val (.int p1), .val (.int p2), .val (.int p3), .val (.int p4), .val (.int p5), .val (.int p6), .val (.ref c_676), .val (.ref c_1499), .val (.ref c_1512), .val (.ref c_1906), .val (.int zuj), .val (.ref zun), .val (.int (((p6.toUInt32 >>> ((21 : Int32) &&& 31).toUInt32).toInt32) &&& (7 : Int32))), .val (.ref zz0), .val (.int 0)] [(.ref zun), (.ref zz0)])) (fun tgt kt => ?_) ?_
                · refine XS.iload H hx rfl (hb hby at_244) rfl ?_
                  refine XS.icmpNo H hx rfl (hb hby at_246) rfl (teq (if_neg (fun q => (fun q => z11u (Eq.symm q)) q.1))).2 ?_
                  refine XS.aload H hx rfl (hb hby at_249) rfl rfl ?_
                  refine XS.aload H hx rfl (hb hby at_251) rfl rfl ?_
                  exact kt
                refine Jvm.Q9.Aim.callV (argsL := [(.ref zun)]) (rest := []) (y := (⟨"com/example/tophat_ledger/tophatledger/HoldingGroup", "equals", "(Ljava/lang/Object;)Z"⟩ : MethodName)) (z := (⟨"com/example/tophat_ledger/tophatledger/HoldingGroup", "equals", "(Ljava/lang/Object;)Z"⟩ : MethodName)) z130 hx hZ hml hown (wI hw 91 rfl) (wI hw 92 rfl) (fun vm0 hZ => notFace_of_selects (args := #[]) (mvT (s := s.setVm vm0) hZ (wI hw 94 rfl))) (wI hw 94 rfl) (wI hw 93 rfl) (by decide) z11n (fun vm0 hZ => Jvm.Y9.Con.back (s := s.setVm vm0) (W := 0) (own_eqH l Z a0 hw zz0 zuj zzf t_2124 kb_2125 (txt p1) z10b t_2158 kb_2159 (txt p5) zun p3 zv2 t_1953 kb_1954 (txt p1) zvy t_1987 kb_1988 (txt p5) z11i n0 (lT Z0 (z11t.1)) z11n z11o z11p z11q z11r z11s z12q z12r z12s z12t z12u z12v z12w G) hZ (wI hw 95 rfl) (wI hw 7 rfl) (by decide) (by decide)) (fun _ _ ⟨_, q⟩ => (by subst q; exact Keep.refl _ [])) all0 rfl pd__28Ljava_2flang_2fObject_3b_29Z rfl (Nat.le_of_eq rfl) (hb hby at_253) (by decide) (by decide) ?_
                intro z132 z133 z134 z135 z136
                obtain ⟨rfl, rfl⟩ := z136
                have H := z135.here
                refine Jvm.Q9.Aim.of (T' := z132) (g' := (mkF m 266 #[.val (.int p1), .val (.int p2), .val (.int p3), .val (.int p4), .val (.int p5), .val (.int p6), .val (.ref c_676), .val (.ref c_1499), .val (.ref c_1512), .val (.ref c_1906), .val (.int zuj), .val (.ref zun), .val (.int (((p6.toUInt32 >>> ((21 : Int32) &&& 31).toUInt32).toInt32) &&& (7 : Int32))), .val (.ref zz0), .val (.int 0)] [(.int 1)])) (fun tgt kt => ?_) ?_
                · refine XS.iload H hx rfl (hb hby at_256) rfl ?_
                  refine XS.icmpNo H hx rfl (hb hby at_258) rfl (teq (if_neg (fun q => z11u q.1))).2 ?_
                  refine XS.iconst H hx rfl (hb hby at_261) ?_
                  refine XS.goto H hx rfl (pc0 := 262) (pc' := 266) rfl (hb hby at_262) (by decide) (by decide) ?_
                  exact kt
                exact Jvm.Q9.Aim.retN (t := .boolean) z135 hx hlk hret (by simp) (hb hby at_266) (by decide) (by decide) z114 ⟨rfl, z11t⟩
      by_cases z137 : (p6 &&& (2 : Int32)) = (0 : Int32)
      · skip
        have H := zuc.here
        refine Jvm.Q9.Aim.of (T' := zu9) (g' := (mkF m 69 #[.val (.int p1), .val (.int p2), .val (.int p3), .val (.int p4), .val (.int p5), .val (.int p6), .val (.ref c_676), .val (.ref c_1499), .val (.ref c_1512), .val (.ref c_1906), .unset, .unset, .unset, .unset, .unset] [(.int p4)])) (fun tgt kt => ?_) ?_
        · refine XS.ifYes H hx rfl (pc0 := 61) (pc' := 68) rfl (hb hby at_61) rfl ((if0 _ _).trans (teq z137).1) (by decide) (by decide) ?_
          refine XS.iloadN H hx rfl (hb hby at_68) rfl ?_
          exact kt
        exact zui _ (if_pos z137).symm
      · skip
        have H := zuc.here
        refine Jvm.Q9.Aim.of (T' := zu9) (g' := (mkF m 69 #[.val (.int p1), .val (.int p2), .val (.int p3), .val (.int p4), .val (.int p5), .val (.int p6), .val (.ref c_676), .val (.ref c_1499), .val (.ref c_1512), .val (.ref c_1906), .unset, .unset, .unset, .unset, .unset] [(.int p3)])) (fun tgt kt => ?_) ?_
        · refine XS.ifNo H hx rfl (hb hby at_61) rfl ((if0 _ _).trans (feq z137).1) ?_
          refine XS.iloadN H hx rfl (hb hby at_64) rfl ?_
          refine XS.goto H hx rfl (pc0 := 65) (pc' := 69) rfl (hb hby at_65) (by decide) (by decide) ?_
          exact kt
        exact zui _ (if_neg z137).symm
theorem comes_1 {Post : Tables → Env → Array Value → State → Outcome → State → Prop} (hpost : ∀ tb e args s v u, (limb_1_1.after args s (.returned v) u = true ∧ limb_1_2.after args s (.returned v) u = true ∧ True) → FramedW s (.returned v) u (Jvm.fieldLocs frame_1_writes args s ++ Jvm.arrayLocs frame_1_arrays args s ++ Jvm.staticLocs frame_1_statics s) 48 1216 → Post tb e args s (.returned v) u) :
    ArmFor flags0 classFile x code maxLocals ret World_1 tables_1 room_1 Calls_1 rest_1 Pre_1 Post := by
  intro l hfl _ _ p e ha hc hk s m args below hf hA hF happ hP
  obtain ⟨hcalls, hrest, hpre⟩ := hP
  obtain ⟨-, -, -, hnamed, -, -, -, hat⟩ := (Spec.applies_iff hf).mp happ
  obtain ⟨hg, hn⟩ := and_e (Cond.before_iff.mp (show (Jvm.Cond.and given_1 narrow_1).before args s = true from hpre))
  obtain ⟨hcnt, hg0⟩ := and_e hg
  obtain ⟨ga0, hg1⟩ := and_e hg0
  obtain ⟨ga1, hg2⟩ := and_e hg1
  obtain ⟨ga2, hg3⟩ := and_e hg2
  obtain ⟨ga3, hg4⟩ := and_e hg3
  obtain ⟨ga4, hg5⟩ := and_e hg4
  have ga5 := hg5
  obtain ⟨w0, w1, w2, w3, w4, w5, rfl⟩ : ∃ w0 w1 w2 w3 w4 w5 : Value, args = #[w0, w1, w2, w3, w4, w5] := by
    have hs : args.size = 6 := by simpa [Cond.value, given_1] using hcnt
    obtain ⟨L⟩ := args
    match L, hs with
    | [w0, w1, w2, w3, w4, w5], _ => exact ⟨w0, w1, w2, w3, w4, w5, rfl⟩
  have hw := fun d (hd : d ∈ tables_1) => atoms_spec (ws := Jvm.Cond.code x code maxLocals ret :: tables_1) hat d (List.mem_cons_of_mem _ hd)
  have hfit : Fit s := fun {y c} hc i hi => by
    obtain ⟨ha, rfl⟩ := Array.getElem?_eq_some_iff.mp hc
    have q := List.all_eq_true.mp ((Array.all_eq_true_iff_forall_mem.mp hF) _ (Array.getElem_mem ha)) i (List.mem_range.mpr hi)
    simpa [Array.getElem?_eq_getElem hi] using q
  obtain ⟨hsets, hown0⟩ := atoms_of _ (rest_1_c_eq ▸ (show rest_1_c.before _ s = true from hrest))
  obtain ⟨i0, ei0⟩ := is_v ga0
  obtain rfl : w0 = (.int i0) := Option.some.inj ei0
  obtain ⟨i1, ei1⟩ := is_v ga1
  obtain rfl : w1 = (.int i1) := Option.some.inj ei1
  obtain ⟨i2, ei2⟩ := is_v ga2
  obtain rfl : w2 = (.int i2) := Option.some.inj ei2
  obtain ⟨i3, ei3⟩ := is_v ga3
  obtain rfl : w3 = (.int i3) := Option.some.inj ei3
  obtain ⟨i4, ei4⟩ := is_v ga4
  obtain rfl : w4 = (.int i4) := Option.some.inj ei4
  obtain ⟨i5, ei5⟩ := is_v ga5
  obtain rfl : w5 = (.int i5) := Option.some.inj ei5
  have ncs := not_v (Cond.before_iff.mp (hsets _ (List.mem_of_getElem? (i := 10) rfl)))
  obtain ⟨zcs, ecs⟩ := is_v (Cond.before_iff.mp (hsets _ (List.mem_of_getElem? (i := 9) rfl)))
  have Scs : Sta s s.heap "java/lang/String" "COMPACT_STRINGS" "Z" (.int zcs) := Sta.start ecs (Or.inl (hsets _ (List.mem_of_getElem? (i := 8) rfl)))
  have Gcs : Cmp s := ⟨zcs, gotF (Cond.eq_ints ecs (Term.int_eval (0))) ncs, Scs⟩
  have ehi := eqv_i (Z := s) (Term.int_eval (127)) (Cond.before_iff.mp (hsets _ (List.mem_of_getElem? (i := 3) rfl)))
  have Shi : Sta s s.heap "java/lang/Integer$IntegerCache" "high" "I" (.int 127) := Sta.start ehi (Or.inl (hsets _ (List.mem_of_getElem? (i := 1) rfl)))
  obtain ⟨ca, cc, eca, Aca⟩ := own_arrOf (Z := s) (hsets _ (List.mem_of_getElem? (i := 4) rfl))
  have Sca : Sta s s.heap "java/lang/Integer$IntegerCache" "cache" "[Ljava/lang/Integer;" (.ref ca) := Sta.start (eca []) (Or.inr ⟨hw _ (List.mem_of_getElem? (i := 47) rfl), (hsets _ (List.mem_of_getElem? (i := 2) rfl))⟩)
  have Gic : Ica s := ⟨ca, cc, Shi, Sca, own_boxes eca Aca (hsets _ (List.mem_of_getElem? (i := 6) rfl)) (hsets _ (List.mem_of_getElem? (i := 7) rfl))⟩
  have hcl : ∀ d ∈ LC.1, Jvm.Q9.LitW s _ d := own_lits hw hcalls.1 (hsets _ (List.mem_of_getElem? (i := 10) rfl))
  obtain ⟨n, o, h1, h2, h3, _, L, rfl, ⟨⟨_, ⟨rfl, _⟩, _, _⟩, N⟩, hq⟩ := own_law l s _ hw i0 i1 i2 i3 i4 i5 s.heap s.heap.size (Nat.le_refl _) (List.range s.heap.size) (Old.start s) Gcs Gic (fun c hc => Jvm.Q9.litz_start (hcl c hc)) tables_1 p e ha hc hk s m _ below hf ((Spec.applies_iff_loose hf).mp happ).1 ⟨rfl, State.Warmed39.refl s, rfl, Jvm.Q9.ha_start (fun _ => trivial) hcl⟩ trivial
  refine ⟨n, _, h1, h2, h3, hpost _ _ _ _ _ _ ⟨Cond.after_iff.mpr rfl, Cond.after_iff.mpr (eq_i res_at (Term.int_eval (1)) rfl), trivial⟩ ⟨hq.1, hq.2.1, hq.2.2.1, (hq.2.2.2.sift fun y hy => Or.inr (N y hy)).mono (by decide) (by decide)⟩⟩
theorem main_1_1 : Claimed_1_1 := comes_1 fun _ _ _ _ _ _ h hF => ⟨h.1, hF⟩
theorem main_1_2 : Claimed_1_2 := comes_1 fun _ _ _ _ _ _ h hF => ⟨h.2.1, hF⟩
end Jvm.Pilot.@@N@@
namespace Jvm.Pilot.@@N@@
open Jvm Jvm.ClassFile Sem Op Lib Jvm.Free Jvm.Stand Jvm.Pilot.@@N@@.Jvm.D
/-! MADE BY PROGRAM (witnessworld.py) out of the Statement's table words and the real class files: 27 classes; the members and pool entries that the words name. The judged class is class 1, her method 1. -/
namespace start1
open Jvm.ClassFile
def u (s : String) : CpInfo := .utf8 (stringToUtf16 s)
def gap : Nat → List CpInfo → List CpInfo
  | 0, r => r
  | n + 1, r => .unusable :: gap n r
def poolList (es : List (Nat × CpInfo)) (last : Nat) : List CpInfo := es.foldr (fun e r => gap e.1 (e.2 :: r)) (gap last [])
def pool (es : List (Nat × CpInfo)) (last : Nat) : Array CpInfo := ⟨poolList es last⟩
def fileOf (pool : Array CpInfo) (this : Nat) (attrs : Array Attribute := #[]) (ms : Array MethodInfo := #[]) (fl : Nat := 33) (sup : Nat := 0) (ifs : Array Nat := #[]) (fds : Array FieldInfo := #[]) : ClassFile where
  minorVersion := 0
  majorVersion := 65
  constantPool := pool
  accessFlags := fl
  thisClass := this
  superClass := sup
  interfaces := ifs
  fields := fds
  methods := ms
  attributes := attrs
def plain (name : String) (sup : Option ClassId) : Class where
  name := name
  kind := .ordinary
  loader := none
  accessFlags := 33
  super := sup
  interfaces := #[]
  cf := none
  fields := #[]
  methods := #[]
  instanceTypes := #[]
  staticTypes := #[]
  resolved := #[]
  callSites := []
  init := .initialized
  statics := none
  mirror := none

def pool0 : Array CpInfo := pool [(5, u "<init>"), (0, u "()V"), (1, .class_ 10), (1, u "java/lang/Object"), (16, u "hashCode"), (0, u "()I")] 95

def k0c0 : Code := { maxStack := 0, maxLocals := 1, code := object_method_1_code, exceptionTable := #[], attributes := #[] }
def k0m0 : Method := { name := "<init>", desc := "()V", sig := { parameters := [], returnType := none }, accessFlags := 1, code := some k0c0 }
def k0m1 : Method := { name := "hashCode", desc := "()I", sig := { parameters := [], returnType := some .int }, accessFlags := 257, code := none }
def k0 : Class := { plain "java/lang/Object" none with
  accessFlags := 33
  interfaces := #[]
  cf := some (fileOf pool0 8 #[] #[{ accessFlags := 1, nameIndex := 5, descriptorIndex := 6, attributes := #[] }, { accessFlags := 257, nameIndex := 27, descriptorIndex := 28, attributes := #[] }] 33 0 #[] #[])
  fields := #[]
  methods := #[k0m0, k0m1]
  instanceTypes := #[]
  staticTypes := #[]
  resolved := Array.replicate 124 none
  statics := none }

def pool1 : Array CpInfo := pool [(2, .class_ 4), (1, u "java/lang/Object"), (0, u "<init>"), (0, u "()V"), (0, .methodref 8 9), (0, .class_ 10), (0, .nameAndType 11 12), (0, u "com/example/tophat_ledger/tophatledger/HoldingGroupEqualsPinLaw"), (0, u "text"), (0, u "(I)[C"), (0, .class_ 14), (0, u "com/example/tophat_ledger/tophatledger/HoldingGroup"), (0, .class_ 16), (0, u "java/lang/String"), (0, .methodref 15 18), (0, .nameAndType 5 19), (0, u "([C)V"), (0, .methodref 13 21), (0, .nameAndType 5 22), (0, u "(Ljava/lang/String;ILjava/lang/String;)V"), (0, .methodref 13 24), (0, .nameAndType 25 26), (0, u "equals"), (0, u "(Ljava/lang/Object;)Z"), (0, .methodref 8 28), (0, .nameAndType 29 30), (0, u "same"), (0, u "([C[C)Z"), (2, u "law"), (0, u "(IIIIII)Z")] 5

def k1m0 : Method := { name := "<init>", desc := "()V", sig := { parameters := [], returnType := none }, accessFlags := 2, code := none }
def k1c1 : Code := { maxStack := 7, maxLocals := 15, code := code, exceptionTable := #[], attributes := #[] }
def k1m1 : Method := { name := "law", desc := "(IIIIII)Z", sig := { parameters := [.int, .int, .int, .int, .int, .int], returnType := some .boolean }, accessFlags := 9, code := some k1c1 }
def k1c2 : Code := { maxStack := 4, maxLocals := 3, code := method_3_code, exceptionTable := #[], attributes := #[] }
def k1m2 : Method := { name := "text", desc := "(I)[C", sig := { parameters := [.int], returnType := some (.array .char) }, accessFlags := 10, code := some k1c2 }
def k1c3 : Code := { maxStack := 3, maxLocals := 2, code := method_4_code, exceptionTable := #[], attributes := #[] }
def k1m3 : Method := { name := "same", desc := "([C[C)Z", sig := { parameters := [(.array .char), (.array .char)], returnType := some .boolean }, accessFlags := 10, code := some k1c3 }
def k1 : Class := { plain "com/example/tophat_ledger/tophatledger/HoldingGroupEqualsPinLaw" (some 0) with
  accessFlags := 49
  interfaces := #[]
  cf := some (fileOf pool1 8 #[] #[{ accessFlags := 2, nameIndex := 5, descriptorIndex := 6, attributes := #[] }, { accessFlags := 9, nameIndex := 33, descriptorIndex := 34, attributes := #[] }, { accessFlags := 10, nameIndex := 11, descriptorIndex := 12, attributes := #[] }, { accessFlags := 10, nameIndex := 29, descriptorIndex := 30, attributes := #[] }] 49 2 #[] #[])
  fields := #[]
  methods := #[k1m0, k1m1, k1m2, k1m3]
  instanceTypes := #[]
  staticTypes := #[]
  resolved := Array.replicate 40 none
  statics := none }

def pool2 : Array CpInfo := pool [(1, .class_ 2), (0, u "java/lang/Comparable"), (0, .class_ 4), (0, u "java/lang/Object")] 7

def k2 : Class := { plain "java/lang/Comparable" (some 0) with
  accessFlags := 1537
  interfaces := #[]
  cf := some (fileOf pool2 1 #[] #[] 1537 3 #[] #[])
  fields := #[]
  methods := #[]
  instanceTypes := #[]
  staticTypes := #[]
  resolved := Array.replicate 12 none
  statics := none }

def pool3 : Array CpInfo := pool [(1, .methodref 2 3), (0, .class_ 4), (0, .nameAndType 5 6), (0, u "java/lang/Object"), (0, u "<init>"), (0, u "()V"), (0, .fieldref 8 9), (0, .class_ 10), (0, .nameAndType 11 12), (0, u "com/example/tophat_ledger/tophatledger/HoldingGroup"), (0, u "participant"), (0, u "Ljava/lang/String;"), (0, .fieldref 8 14), (0, .nameAndType 15 16), (0, u "year"), (0, u "I"), (0, .fieldref 8 18), (0, .nameAndType 19 12), (0, u "source"), (0, .methodref 21 22), (0, .class_ 23), (0, .nameAndType 24 25), (0, u "java/lang/Integer"), (0, u "valueOf"), (0, u "(I)Ljava/lang/Integer;"), (0, .methodref 27 28), (0, .class_ 29), (0, .nameAndType 30 31), (0, u "java/util/Objects"), (0, u "hash"), (0, u "([Ljava/lang/Object;)I"), (0, .fieldref 8 33), (0, .nameAndType 30 16), (2, u "ORDER"), (0, u "Ljava/util/Comparator;"), (6, .methodref 45 46), (0, .class_ 47), (0, .nameAndType 48 49), (0, u "java/lang/String"), (0, u "equals"), (0, u "(Ljava/lang/Object;)Z"), (27, u "COLUMNS"), (0, u "Lcom/example/tophat_ledger/tophatledger/Columns;"), (15, .class_ 95), (0, u "java/lang/Comparable"), (3, u "(Ljava/lang/String;ILjava/lang/String;)V")] 45

def k3c0 : Code := { maxStack := 5, maxLocals := 4, code := prog_11_method_1_code, exceptionTable := #[], attributes := #[] }
def k3m0 : Method := { name := "<init>", desc := "(Ljava/lang/String;ILjava/lang/String;)V", sig := { parameters := [(.object "java/lang/String"), .int, (.object "java/lang/String")], returnType := none }, accessFlags := 0, code := some k3c0 }
def k3c1 : Code := { maxStack := 2, maxLocals := 3, code := prog_11_method_6_code, exceptionTable := #[], attributes := #[] }
def k3m1 : Method := { name := "equals", desc := "(Ljava/lang/Object;)Z", sig := { parameters := [(.object "java/lang/Object")], returnType := some .boolean }, accessFlags := 1, code := some k3c1 }
def k3 : Class := { plain "com/example/tophat_ledger/tophatledger/HoldingGroup" (some 0) with
  accessFlags := 48
  interfaces := #[2]
  cf := some (fileOf pool3 8 #[] #[{ accessFlags := 0, nameIndex := 5, descriptorIndex := 99, attributes := #[] }, { accessFlags := 1, nameIndex := 48, descriptorIndex := 49, attributes := #[] }] 48 2 #[94] #[{ accessFlags := 24, nameIndex := 77, descriptorIndex := 78, attributes := #[] }, { accessFlags := 26, nameIndex := 36, descriptorIndex := 37, attributes := #[] }, { accessFlags := 18, nameIndex := 11, descriptorIndex := 12, attributes := #[] }, { accessFlags := 18, nameIndex := 15, descriptorIndex := 16, attributes := #[] }, { accessFlags := 18, nameIndex := 19, descriptorIndex := 12, attributes := #[] }, { accessFlags := 18, nameIndex := 30, descriptorIndex := 16, attributes := #[] }])
  fields := #[{ name := "COLUMNS", type := (.object "com/example/tophat_ledger/tophatledger/Columns"), accessFlags := 24, slot := 0, constantValue := 0 }, { name := "ORDER", type := (.object "java/util/Comparator"), accessFlags := 26, slot := 1, constantValue := 0 }, { name := "participant", type := (.object "java/lang/String"), accessFlags := 18, slot := 0, constantValue := 0 }, { name := "year", type := .int, accessFlags := 18, slot := 1, constantValue := 0 }, { name := "source", type := (.object "java/lang/String"), accessFlags := 18, slot := 2, constantValue := 0 }, { name := "hash", type := .int, accessFlags := 18, slot := 3, constantValue := 0 }]
  methods := #[k3m0, k3m1]
  instanceTypes := #[(.object "java/lang/String"), .int, (.object "java/lang/String"), .int]
  staticTypes := #[(.object "com/example/tophat_ledger/tophatledger/Columns"), (.object "java/util/Comparator")]
  resolved := Array.replicate 145 none
  statics := none }

def pool4 : Array CpInfo := pool [(1, .class_ 2), (0, u "java/io/Serializable"), (0, .class_ 4), (0, u "java/lang/Object")] 2

def k4 : Class := { plain "java/io/Serializable" (some 0) with
  accessFlags := 1537
  interfaces := #[]
  cf := some (fileOf pool4 1 #[] #[] 1537 3 #[] #[])
  fields := #[]
  methods := #[]
  instanceTypes := #[]
  staticTypes := #[]
  resolved := Array.replicate 7 none
  statics := none }

def pool5 : Array CpInfo := pool [(2, .class_ 4), (1, u "java/lang/CharSequence"), (42, .class_ 48), (0, u "java/lang/CharSequence$1CodePointIterator"), (10, .class_ 60), (0, u "java/lang/CharSequence$1CharIterator"), (5, .class_ 67), (0, u "java/lang/Object")] 63

def k5 : Class := { plain "java/lang/CharSequence" (some 0) with
  accessFlags := 1537
  interfaces := #[]
  cf := some (fileOf pool5 2 #[.nestMembers #[47, 59]] #[] 1537 66 #[] #[])
  fields := #[]
  methods := #[]
  instanceTypes := #[]
  staticTypes := #[]
  resolved := Array.replicate 131 none
  statics := none }

def pool6 : Array CpInfo := pool [(1, .class_ 2), (0, u "java/lang/constant/Constable"), (0, .class_ 4), (0, u "java/lang/Object")] 6

def k6 : Class := { plain "java/lang/constant/Constable" (some 0) with
  accessFlags := 1537
  interfaces := #[]
  cf := some (fileOf pool6 1 #[] #[] 1537 3 #[] #[])
  fields := #[]
  methods := #[]
  instanceTypes := #[]
  staticTypes := #[]
  resolved := Array.replicate 11 none
  statics := none }

def pool7 : Array CpInfo := pool [(1, .class_ 2), (0, u "java/lang/constant/ConstantDesc"), (0, .class_ 4), (0, u "java/lang/Object")] 32

def k7 : Class := { plain "java/lang/constant/ConstantDesc" (some 0) with
  accessFlags := 1537
  interfaces := #[]
  cf := some (fileOf pool7 1 #[] #[] 1537 3 #[] #[])
  fields := #[]
  methods := #[]
  instanceTypes := #[]
  staticTypes := #[]
  resolved := Array.replicate 37 none
  statics := none }

def pool8 : Array CpInfo := pool [(1, .methodref 2 3), (0, .class_ 4), (0, .nameAndType 5 6), (0, u "java/lang/Object"), (0, u "<init>"), (0, u "()V"), (0, .string 8), (0, u ""), (0, .fieldref 10 11), (0, .class_ 12), (0, .nameAndType 13 14), (0, u "java/lang/String"), (0, u "value"), (0, u "[B"), (0, .fieldref 10 16), (0, .nameAndType 17 18), (0, u "coder"), (0, u "B"), (0, .fieldref 10 20), (0, .nameAndType 21 22), (0, u "hash"), (0, u "I"), (0, .fieldref 10 24), (0, .nameAndType 25 26), (0, u "hashIsZero"), (0, u "Z"), (0, .methodref 10 28), (0, .nameAndType 5 29), (0, u "([CIILjava/lang/Void;)V"), (8, .fieldref 10 39), (0, .nameAndType 40 26), (0, u "COMPACT_STRINGS"), (1, .class_ 44), (1, u "java/lang/StringUTF16"), (0, u "compress"), (1, .methodref 42 48), (0, .nameAndType 49 50), (0, u "coderFromArrayLen"), (0, u "([BI)B"), (56, .class_ 109), (1, u "java/lang/StringLatin1"), (32, u "()Z"), (34, .methodref 42 178), (0, .nameAndType 45 179), (0, u "([CII)[B"), (154, u "()I"), (157, .methodref 10 493), (0, .nameAndType 494 142), (0, u "isLatin1"), (46, .methodref 107 542), (0, .nameAndType 543 544), (0, u "equals"), (0, u "([B[B)Z"), (28, u "(Ljava/lang/Object;)Z"), (1, .class_ 576), (0, u "java/lang/CharSequence"), (22, u "CASE_INSENSITIVE_ORDER"), (0, u "Ljava/util/Comparator;"), (27, .methodref 107 629), (0, .nameAndType 630 631), (0, u "hashCode"), (0, u "([B)I"), (378, u "([C)V"), (90, u "serialPersistentFields"), (0, u "[Ljava/io/ObjectStreamField;"), (0, .class_ 1104), (0, u "java/lang/String$CaseInsensitiveComparator"), (1, .class_ 1107), (0, u "java/io/Serializable"), (0, .class_ 1109), (0, u "java/lang/Comparable"), (0, .class_ 1111), (0, u "java/lang/constant/Constable"), (0, .class_ 1113), (0, u "java/lang/constant/ConstantDesc"), (2, u "serialVersionUID"), (0, u "J"), (3, u "REPL"), (0, u "C"), (2, u "LATIN1"), (1, u "UTF16")] 323

def k8m0 : Method := { name := "<init>", desc := "()V", sig := { parameters := [], returnType := none }, accessFlags := 1, code := none }
def k8c1 : Code := { maxStack := 5, maxLocals := 2, code := jdk_42_method_3_code, exceptionTable := #[], attributes := #[] }
def k8m1 : Method := { name := "<init>", desc := "([C)V", sig := { parameters := [(.array .char)], returnType := none }, accessFlags := 1, code := some k8c1 }
def k8c2 : Code := { maxStack := 2, maxLocals := 3, code := jdk_42_method_66_code, exceptionTable := #[], attributes := #[] }
def k8m2 : Method := { name := "equals", desc := "(Ljava/lang/Object;)Z", sig := { parameters := [(.object "java/lang/Object")], returnType := some .boolean }, accessFlags := 1, code := some k8c2 }
def k8c3 : Code := { maxStack := 2, maxLocals := 2, code := jdk_42_method_78_code, exceptionTable := #[], attributes := #[] }
def k8m3 : Method := { name := "hashCode", desc := "()I", sig := { parameters := [], returnType := some .int }, accessFlags := 1, code := some k8c3 }
def k8c4 : Code := { maxStack := 4, maxLocals := 6, code := jdk_42_method_149_code, exceptionTable := #[], attributes := #[] }
def k8m4 : Method := { name := "<init>", desc := "([CIILjava/lang/Void;)V", sig := { parameters := [(.array .char), .int, .int, (.object "java/lang/Void")], returnType := none }, accessFlags := 2, code := some k8c4 }
def k8c5 : Code := { maxStack := 1, maxLocals := 1, code := jdk_42_method_154_code, exceptionTable := #[], attributes := #[] }
def k8m5 : Method := { name := "isLatin1", desc := "()Z", sig := { parameters := [], returnType := some .boolean }, accessFlags := 0, code := some k8c5 }
def k8 : Class := { plain "java/lang/String" (some 0) with
  accessFlags := 49
  interfaces := #[4, 2, 5, 6, 7]
  cf := some (fileOf pool8 10 #[.nestMembers #[1103]] #[{ accessFlags := 1, nameIndex := 5, descriptorIndex := 6, attributes := #[] }, { accessFlags := 1, nameIndex := 5, descriptorIndex := 1010, attributes := #[] }, { accessFlags := 1, nameIndex := 543, descriptorIndex := 573, attributes := #[] }, { accessFlags := 1, nameIndex := 630, descriptorIndex := 334, attributes := #[] }, { accessFlags := 2, nameIndex := 5, descriptorIndex := 29, attributes := #[] }, { accessFlags := 0, nameIndex := 494, descriptorIndex := 142, attributes := #[] }] 49 2 #[1106, 1108, 575, 1110, 1112] #[{ accessFlags := 18, nameIndex := 13, descriptorIndex := 14, attributes := #[] }, { accessFlags := 18, nameIndex := 17, descriptorIndex := 18, attributes := #[] }, { accessFlags := 2, nameIndex := 21, descriptorIndex := 22, attributes := #[] }, { accessFlags := 2, nameIndex := 25, descriptorIndex := 26, attributes := #[] }, { accessFlags := 26, nameIndex := 1116, descriptorIndex := 1117, attributes := #[] }, { accessFlags := 24, nameIndex := 40, descriptorIndex := 26, attributes := #[] }, { accessFlags := 26, nameIndex := 1101, descriptorIndex := 1102, attributes := #[] }, { accessFlags := 26, nameIndex := 1121, descriptorIndex := 1122, attributes := #[] }, { accessFlags := 25, nameIndex := 599, descriptorIndex := 600, attributes := #[] }, { accessFlags := 24, nameIndex := 1125, descriptorIndex := 18, attributes := #[] }, { accessFlags := 24, nameIndex := 1127, descriptorIndex := 18, attributes := #[] }])
  fields := #[{ name := "value", type := (.array .byte), accessFlags := 18, slot := 0, constantValue := 0 }, { name := "coder", type := .byte, accessFlags := 18, slot := 1, constantValue := 0 }, { name := "hash", type := .int, accessFlags := 2, slot := 2, constantValue := 0 }, { name := "hashIsZero", type := .boolean, accessFlags := 2, slot := 3, constantValue := 0 }, { name := "serialVersionUID", type := .long, accessFlags := 26, slot := 0, constantValue := 0 }, { name := "COMPACT_STRINGS", type := .boolean, accessFlags := 24, slot := 1, constantValue := 0 }, { name := "serialPersistentFields", type := (.array (.object "java/io/ObjectStreamField")), accessFlags := 26, slot := 2, constantValue := 0 }, { name := "REPL", type := .char, accessFlags := 26, slot := 3, constantValue := 0 }, { name := "CASE_INSENSITIVE_ORDER", type := (.object "java/util/Comparator"), accessFlags := 25, slot := 4, constantValue := 0 }, { name := "LATIN1", type := .byte, accessFlags := 24, slot := 5, constantValue := 0 }, { name := "UTF16", type := .byte, accessFlags := 24, slot := 6, constantValue := 0 }]
  methods := #[k8m0, k8m1, k8m2, k8m3, k8m4, k8m5]
  instanceTypes := #[(.array .byte), .byte, .int, .boolean]
  staticTypes := #[.long, .boolean, (.array (.object "java/io/ObjectStreamField")), .char, (.object "java/util/Comparator"), .byte, .byte]
  resolved := Array.replicate 1451 none
  statics := some 0 }

def pool9 : Array CpInfo := pool [(1, .methodref 2 3), (0, .class_ 4), (0, .nameAndType 5 6), (0, u "java/lang/Object"), (0, u "<init>"), (0, u "()V"), (1, .class_ 10), (1, u "java/lang/Number"), (2, .class_ 14), (0, u "java/io/Serializable"), (0, u "serialVersionUID"), (0, u "J")] 20

def k9c0 : Code := { maxStack := 1, maxLocals := 1, code := jdk_18_method_1_code, exceptionTable := #[], attributes := #[] }
def k9m0 : Method := { name := "<init>", desc := "()V", sig := { parameters := [], returnType := none }, accessFlags := 1, code := some k9c0 }
def k9 : Class := { plain "java/lang/Number" (some 0) with
  accessFlags := 1057
  interfaces := #[4]
  cf := some (fileOf pool9 8 #[] #[{ accessFlags := 1, nameIndex := 5, descriptorIndex := 6, attributes := #[] }] 1057 2 #[13] #[{ accessFlags := 26, nameIndex := 15, descriptorIndex := 16, attributes := #[] }])
  fields := #[{ name := "serialVersionUID", type := .long, accessFlags := 26, slot := 0, constantValue := 0 }]
  methods := #[k9m0]
  instanceTypes := #[]
  staticTypes := #[.long]
  resolved := Array.replicate 37 none
  statics := none }

def pool10 : Array CpInfo := pool [(1, .class_ 2), (0, u "java/lang/Integer"), (16, u "digits"), (0, u "[C"), (33, u "(I)I"), (12, u "<init>"), (17, u "DigitOnes"), (0, u "[B"), (2, u "DigitTens"), (10, .nameAndType 67 101), (0, u "()V"), (19, u "()I"), (65, u "valueOf"), (0, u "(I)Ljava/lang/Integer;"), (0, .class_ 190), (0, u "java/lang/Integer$IntegerCache"), (0, .fieldref 189 192), (0, .nameAndType 193 194), (0, u "high"), (0, u "I"), (0, .fieldref 189 196), (0, .nameAndType 197 198), (0, u "cache"), (0, u "[Ljava/lang/Integer;"), (0, .methodref 1 200), (0, .nameAndType 67 201), (0, u "(I)V"), (0, .methodref 203 100), (0, .class_ 204), (0, u "java/lang/Number"), (0, .fieldref 1 206), (0, .nameAndType 207 194), (0, u "value"), (0, .methodref 1 209), (0, .nameAndType 210 54), (0, u "hashCode"), (91, u "TYPE"), (0, u "Ljava/lang/Class;"), (0, .class_ 305), (0, u "java/lang/Comparable"), (0, .class_ 307), (0, u "java/lang/constant/Constable"), (0, .class_ 309), (0, u "java/lang/constant/ConstantDesc"), (0, u "MIN_VALUE"), (1, u "MAX_VALUE"), (3, u "SIZE"), (1, u "BYTES"), (1, u "serialVersionUID"), (0, u "J")] 131

def k10c0 : Code := { maxStack := 3, maxLocals := 1, code := jdk_33_method_22_code, exceptionTable := #[], attributes := #[] }
def k10m0 : Method := { name := "valueOf", desc := "(I)Ljava/lang/Integer;", sig := { parameters := [.int], returnType := some (.object "java/lang/Integer") }, accessFlags := 9, code := some k10c0 }
def k10c1 : Code := { maxStack := 2, maxLocals := 2, code := jdk_33_method_23_code, exceptionTable := #[], attributes := #[] }
def k10m1 : Method := { name := "<init>", desc := "(I)V", sig := { parameters := [.int], returnType := none }, accessFlags := 1, code := some k10c1 }
def k10c2 : Code := { maxStack := 1, maxLocals := 1, code := jdk_33_method_32_code, exceptionTable := #[], attributes := #[] }
def k10m2 : Method := { name := "hashCode", desc := "()I", sig := { parameters := [], returnType := some .int }, accessFlags := 1, code := some k10c2 }
def k10c3 : Code := { maxStack := 1, maxLocals := 1, code := jdk_33_method_33_code, exceptionTable := #[], attributes := #[] }
def k10m3 : Method := { name := "hashCode", desc := "(I)I", sig := { parameters := [.int], returnType := some .int }, accessFlags := 9, code := some k10c3 }
def k10 : Class := { plain "java/lang/Integer" (some 9) with
  accessFlags := 49
  interfaces := #[2, 6, 7]
  cf := some (fileOf pool10 1 #[.nestMembers #[189]] #[{ accessFlags := 9, nameIndex := 187, descriptorIndex := 188, attributes := #[] }, { accessFlags := 1, nameIndex := 67, descriptorIndex := 201, attributes := #[] }, { accessFlags := 1, nameIndex := 210, descriptorIndex := 121, attributes := #[] }, { accessFlags := 9, nameIndex := 210, descriptorIndex := 54, attributes := #[] }] 49 203 #[304, 306, 308] #[{ accessFlags := 25, nameIndex := 310, descriptorIndex := 194, attributes := #[] }, { accessFlags := 25, nameIndex := 312, descriptorIndex := 194, attributes := #[] }, { accessFlags := 25, nameIndex := 302, descriptorIndex := 303, attributes := #[] }, { accessFlags := 24, nameIndex := 19, descriptorIndex := 20, attributes := #[] }, { accessFlags := 24, nameIndex := 89, descriptorIndex := 86, attributes := #[] }, { accessFlags := 24, nameIndex := 85, descriptorIndex := 86, attributes := #[] }, { accessFlags := 18, nameIndex := 207, descriptorIndex := 194, attributes := #[] }, { accessFlags := 25, nameIndex := 316, descriptorIndex := 194, attributes := #[] }, { accessFlags := 25, nameIndex := 318, descriptorIndex := 194, attributes := #[] }, { accessFlags := 26, nameIndex := 320, descriptorIndex := 321, attributes := #[] }])
  fields := #[{ name := "MIN_VALUE", type := .int, accessFlags := 25, slot := 0, constantValue := 0 }, { name := "MAX_VALUE", type := .int, accessFlags := 25, slot := 1, constantValue := 0 }, { name := "TYPE", type := (.object "java/lang/Class"), accessFlags := 25, slot := 2, constantValue := 0 }, { name := "digits", type := (.array .char), accessFlags := 24, slot := 3, constantValue := 0 }, { name := "DigitTens", type := (.array .byte), accessFlags := 24, slot := 4, constantValue := 0 }, { name := "DigitOnes", type := (.array .byte), accessFlags := 24, slot := 5, constantValue := 0 }, { name := "value", type := .int, accessFlags := 18, slot := 0, constantValue := 0 }, { name := "SIZE", type := .int, accessFlags := 25, slot := 6, constantValue := 0 }, { name := "BYTES", type := .int, accessFlags := 25, slot := 7, constantValue := 0 }, { name := "serialVersionUID", type := .long, accessFlags := 26, slot := 8, constantValue := 0 }]
  methods := #[k10m0, k10m1, k10m2, k10m3]
  instanceTypes := #[.int]
  staticTypes := #[.int, .int, (.object "java/lang/Class"), (.array .char), (.array .byte), (.array .byte), .int, .int, .long]
  resolved := Array.replicate 453 none
  statics := none }

def pool11 : Array CpInfo := pool [(2, .class_ 4), (1, u "java/lang/Object"), (0, u "<init>"), (0, u "()V"), (0, .class_ 8), (0, u "java/lang/Integer"), (7, .class_ 18), (1, u "java/lang/Integer$IntegerCache"), (0, u "$assertionsDisabled"), (0, u "Z"), (26, u "high"), (0, u "I"), (8, u "archivedCache"), (0, u "[Ljava/lang/Integer;"), (12, u "cache"), (0, u "low")] 27

def k11m0 : Method := { name := "<init>", desc := "()V", sig := { parameters := [], returnType := none }, accessFlags := 2, code := none }
def k11 : Class := { plain "java/lang/Integer$IntegerCache" (some 0) with
  accessFlags := 48
  interfaces := #[]
  cf := some (fileOf pool11 16 #[.nestHost 7] #[{ accessFlags := 2, nameIndex := 5, descriptorIndex := 6, attributes := #[] }] 48 2 #[] #[{ accessFlags := 24, nameIndex := 72, descriptorIndex := 48, attributes := #[] }, { accessFlags := 24, nameIndex := 47, descriptorIndex := 48, attributes := #[] }, { accessFlags := 24, nameIndex := 71, descriptorIndex := 58, attributes := #[] }, { accessFlags := 8, nameIndex := 57, descriptorIndex := 58, attributes := #[] }, { accessFlags := 4120, nameIndex := 19, descriptorIndex := 20, attributes := #[] }])
  fields := #[{ name := "low", type := .int, accessFlags := 24, slot := 0, constantValue := 0 }, { name := "high", type := .int, accessFlags := 24, slot := 1, constantValue := 0 }, { name := "cache", type := (.array (.object "java/lang/Integer")), accessFlags := 24, slot := 2, constantValue := 0 }, { name := "archivedCache", type := (.array (.object "java/lang/Integer")), accessFlags := 8, slot := 3, constantValue := 0 }, { name := "$assertionsDisabled", type := .boolean, accessFlags := 4120, slot := 4, constantValue := 0 }]
  methods := #[k11m0]
  instanceTypes := #[]
  staticTypes := #[.int, .int, (.array (.object "java/lang/Integer")), (.array (.object "java/lang/Integer")), .boolean]
  resolved := Array.replicate 100 none
  statics := some 1 }

def pool12 : Array CpInfo := pool [(2, .class_ 4), (1, u "java/lang/Object"), (0, u "<init>"), (0, u "()V"), (12, .class_ 21), (1, u "java/util/Arrays"), (4, u "hashCode"), (1, .methodref 19 29), (0, .nameAndType 26 30), (0, u "([Ljava/lang/Object;)I"), (11, .class_ 44), (1, u "java/util/Objects"), (92, u "hash")] 46

def k12m0 : Method := { name := "<init>", desc := "()V", sig := { parameters := [], returnType := none }, accessFlags := 2, code := none }
def k12c1 : Code := { maxStack := 1, maxLocals := 1, code := jdk_31_method_5_code, exceptionTable := #[], attributes := #[] }
def k12m1 : Method := { name := "hash", desc := "([Ljava/lang/Object;)I", sig := { parameters := [(.array (.object "java/lang/Object"))], returnType := some .int }, accessFlags := 137, code := some k12c1 }
def k12 : Class := { plain "java/util/Objects" (some 0) with
  accessFlags := 49
  interfaces := #[]
  cf := some (fileOf pool12 42 #[] #[{ accessFlags := 2, nameIndex := 5, descriptorIndex := 6, attributes := #[] }, { accessFlags := 137, nameIndex := 137, descriptorIndex := 30, attributes := #[] }] 49 2 #[] #[])
  fields := #[]
  methods := #[k12m0, k12m1]
  instanceTypes := #[]
  staticTypes := #[]
  resolved := Array.replicate 184 none
  statics := none }

def pool13 : Array CpInfo := pool [(2, .class_ 4), (1, u "java/lang/Object"), (0, u "<init>"), (0, u "()V"), (7, .class_ 16), (1, u "java/util/Arrays"), (25, u "()I"), (31, .class_ 76), (1, u "java/util/Arrays$NaturalOrder"), (36, .class_ 115), (1, u "java/util/Arrays$LegacyMergeSort"), (1, u "Z"), (257, .class_ 376), (0, u "java/util/Arrays$ArrayList"), (6, .methodref 2 384), (0, .nameAndType 385 42), (0, u "hashCode"), (3, u "([Ljava/lang/Object;)I"), (55, u "$assertionsDisabled"), (269, u "MIN_ARRAY_SORT_GRAN"), (0, u "I"), (2, u "INSERTIONSORT_THRESHOLD"), (255, .class_ 976), (0, u "java/util/Arrays$ArrayItr")] 52

def k13m0 : Method := { name := "<init>", desc := "()V", sig := { parameters := [], returnType := none }, accessFlags := 2, code := none }
def k13c1 : Code := { maxStack := 2, maxLocals := 6, code := jdk_65_method_157_code, exceptionTable := #[], attributes := #[] }
def k13m1 : Method := { name := "hashCode", desc := "([Ljava/lang/Object;)I", sig := { parameters := [(.array (.object "java/lang/Object"))], returnType := some .int }, accessFlags := 9, code := some k13c1 }
def k13 : Class := { plain "java/util/Arrays" (some 0) with
  accessFlags := 49
  interfaces := #[]
  cf := some (fileOf pool13 14 #[.nestMembers #[975, 375, 113, 74]] #[{ accessFlags := 2, nameIndex := 5, descriptorIndex := 6, attributes := #[] }, { accessFlags := 9, nameIndex := 385, descriptorIndex := 389, attributes := #[] }] 49 2 #[] #[{ accessFlags := 26, nameIndex := 715, descriptorIndex := 716, attributes := #[] }, { accessFlags := 26, nameIndex := 719, descriptorIndex := 716, attributes := #[] }, { accessFlags := 4120, nameIndex := 445, descriptorIndex := 117, attributes := #[] }])
  fields := #[{ name := "MIN_ARRAY_SORT_GRAN", type := .int, accessFlags := 26, slot := 0, constantValue := 0 }, { name := "INSERTIONSORT_THRESHOLD", type := .int, accessFlags := 26, slot := 1, constantValue := 0 }, { name := "$assertionsDisabled", type := .boolean, accessFlags := 4120, slot := 2, constantValue := 0 }]
  methods := #[k13m0, k13m1]
  instanceTypes := #[]
  staticTypes := #[.int, .int, .boolean]
  resolved := Array.replicate 1029 none
  statics := none }

def pool14 : Array CpInfo := pool [(4, .class_ 6), (1, u "java/lang/Object"), (0, u "<init>"), (0, u "()V"), (5, .class_ 16), (1, u "java/lang/StringLatin1"), (28, .class_ 47), (1, u "jdk/internal/util/ArraysSupport"), (9, u "([B)I"), (26, .methodref 45 85), (0, .nameAndType 86 87), (0, u "vectorizedHashCode"), (0, u "(Ljava/lang/Object;IIII)I"), (33, u "$assertionsDisabled"), (0, u "Z"), (98, .class_ 223), (1, u "java/lang/StringLatin1$LinesSpliterator"), (57, u "equals"), (0, u "([B[B)Z"), (15, u "hashCode"), (91, .class_ 391), (0, u "java/lang/StringLatin1$CharsSpliterator")] 3

def k14m0 : Method := { name := "<init>", desc := "()V", sig := { parameters := [], returnType := none }, accessFlags := 0, code := none }
def k14c1 : Code := { maxStack := 3, maxLocals := 3, code := jdk_43_method_13_code, exceptionTable := #[], attributes := #[] }
def k14m1 : Method := { name := "equals", desc := "([B[B)Z", sig := { parameters := [(.array .byte), (.array .byte)], returnType := some .boolean }, accessFlags := 9, code := some k14c1 }
def k14c2 : Code := { maxStack := 5, maxLocals := 1, code := jdk_43_method_21_code, exceptionTable := #[], attributes := #[] }
def k14m2 : Method := { name := "hashCode", desc := "([B)I", sig := { parameters := [(.array .byte)], returnType := some .int }, accessFlags := 9, code := some k14c2 }
def k14 : Class := { plain "java/lang/StringLatin1" (some 0) with
  accessFlags := 48
  interfaces := #[]
  cf := some (fileOf pool14 14 #[.nestMembers #[390, 221]] #[{ accessFlags := 0, nameIndex := 7, descriptorIndex := 8, attributes := #[] }, { accessFlags := 9, nameIndex := 281, descriptorIndex := 282, attributes := #[] }, { accessFlags := 9, nameIndex := 298, descriptorIndex := 57, attributes := #[] }] 48 4 #[] #[{ accessFlags := 4120, nameIndex := 121, descriptorIndex := 122, attributes := #[] }])
  fields := #[{ name := "$assertionsDisabled", type := .boolean, accessFlags := 4120, slot := 0, constantValue := 0 }]
  methods := #[k14m0, k14m1, k14m2]
  instanceTypes := #[]
  staticTypes := #[.boolean]
  resolved := Array.replicate 395 none
  statics := none }

def pool15 : Array CpInfo := pool [(6, .class_ 8), (1, u "java/lang/Object"), (0, u "<init>"), (0, u "()V"), (1, .class_ 14), (1, u "java/lang/StringUTF16"), (31, u "$assertionsDisabled"), (0, u "Z"), (13, u "HI_BYTE_SHIFT"), (0, u "I"), (2, u "LO_BYTE_SHIFT"), (49, .methodref 12 116), (0, .nameAndType 117 118), (0, u "compress"), (0, u "([CI[BII)I"), (3, u "([CII)[B"), (138, u "coderFromArrayLen"), (0, u "([BI)B"), (106, .class_ 371), (1, u "java/lang/StringUTF16$LinesSpliterator"), (58, u "MAX_LENGTH"), (196, .class_ 628), (0, u "java/lang/StringUTF16$CodePointsSpliterator"), (0, .class_ 630), (0, u "java/lang/StringUTF16$CharsSpliterator")] 4

def k15m0 : Method := { name := "<init>", desc := "()V", sig := { parameters := [], returnType := none }, accessFlags := 0, code := none }
def k15c1 : Code := { maxStack := 2, maxLocals := 2, code := jdk_52_method_15_code, exceptionTable := #[], attributes := #[] }
def k15m1 : Method := { name := "coderFromArrayLen", desc := "([BI)B", sig := { parameters := [(.array .byte), .int], returnType := some .byte }, accessFlags := 8, code := some k15c1 }
def k15c2 : Code := { maxStack := 5, maxLocals := 6, code := jdk_52_method_16_code, exceptionTable := #[], attributes := #[] }
def k15m2 : Method := { name := "compress", desc := "([CII)[B", sig := { parameters := [(.array .char), .int, .int], returnType := some (.array .byte) }, accessFlags := 9, code := some k15c2 }
def k15c3 : Code := { maxStack := 3, maxLocals := 7, code := jdk_52_method_21_code, exceptionTable := #[], attributes := #[] }
def k15m3 : Method := { name := "compress", desc := "([CI[BII)I", sig := { parameters := [(.array .char), .int, (.array .byte), .int, .int], returnType := some .int }, accessFlags := 9, code := some k15c3 }
def k15 : Class := { plain "java/lang/StringUTF16" (some 0) with
  accessFlags := 48
  interfaces := #[]
  cf := some (fileOf pool15 12 #[.nestMembers #[627, 629, 369]] #[{ accessFlags := 0, nameIndex := 9, descriptorIndex := 10, attributes := #[] }, { accessFlags := 8, nameIndex := 261, descriptorIndex := 262, attributes := #[] }, { accessFlags := 9, nameIndex := 117, descriptorIndex := 122, attributes := #[] }, { accessFlags := 9, nameIndex := 117, descriptorIndex := 118, attributes := #[] }] 48 6 #[] #[{ accessFlags := 26, nameIndex := 61, descriptorIndex := 62, attributes := #[] }, { accessFlags := 26, nameIndex := 65, descriptorIndex := 62, attributes := #[] }, { accessFlags := 24, nameIndex := 430, descriptorIndex := 62, attributes := #[] }, { accessFlags := 4120, nameIndex := 46, descriptorIndex := 47, attributes := #[] }])
  fields := #[{ name := "HI_BYTE_SHIFT", type := .int, accessFlags := 26, slot := 0, constantValue := 0 }, { name := "LO_BYTE_SHIFT", type := .int, accessFlags := 26, slot := 1, constantValue := 0 }, { name := "MAX_LENGTH", type := .int, accessFlags := 24, slot := 2, constantValue := 0 }, { name := "$assertionsDisabled", type := .boolean, accessFlags := 4120, slot := 3, constantValue := 0 }]
  methods := #[k15m0, k15m1, k15m2, k15m3]
  instanceTypes := #[]
  staticTypes := #[.int, .int, .int, .boolean]
  resolved := Array.replicate 635 none
  statics := none }

def pool16 : Array CpInfo := pool [(9, u "<init>"), (6, .class_ 18), (1, u "java/lang/Object"), (0, u "()V"), (1, .class_ 23), (1, u "jdk/internal/util/ArraysSupport"), (0, u "LOG2_ARRAY_LONG_INDEX_SCALE"), (0, u "I"), (2, u "U"), (0, u "Ljdk/internal/misc/Unsafe;"), (8, u "BIG_ENDIAN"), (0, u "Z"), (8, u "LOG2_BYTE_BIT_SIZE"), (4, u "LOG2_ARRAY_INT_INDEX_SCALE"), (6, .class_ 61), (0, u "[B"), (0, .methodref 21 63), (0, .nameAndType 64 65), (0, u "signedHashCode"), (0, u "(I[BII)I"), (42, u "JLA"), (0, u "Ljdk/internal/access/JavaLangAccess;"), (11, u "LOG2_ARRAY_BOOLEAN_INDEX_SCALE"), (9, u "LOG2_ARRAY_BYTE_INDEX_SCALE"), (5, u "LOG2_ARRAY_CHAR_INDEX_SCALE"), (5, u "LOG2_ARRAY_SHORT_INDEX_SCALE"), (18, u "LOG2_ARRAY_FLOAT_INDEX_SCALE"), (24, u "LOG2_ARRAY_DOUBLE_INDEX_SCALE"), (89, u "T_BOOLEAN"), (2, u "T_CHAR"), (1, u "T_FLOAT"), (1, u "T_DOUBLE"), (1, u "T_BYTE"), (1, u "T_SHORT"), (1, u "T_INT"), (1, u "T_LONG"), (1, u "SOFT_MAX_ARRAY_LENGTH"), (26, u "vectorizedHashCode"), (0, u "(Ljava/lang/Object;IIII)I")] 55

def k16m0 : Method := { name := "<init>", desc := "()V", sig := { parameters := [], returnType := none }, accessFlags := 2, code := none }
def k16c1 : Code := { maxStack := 4, maxLocals := 5, code := jdk_48_method_4_code, exceptionTable := #[], attributes := #[] }
def k16m1 : Method := { name := "vectorizedHashCode", desc := "(Ljava/lang/Object;IIII)I", sig := { parameters := [(.object "java/lang/Object"), .int, .int, .int, .int], returnType := some .int }, accessFlags := 9, code := some k16c1 }
def k16c2 : Code := { maxStack := 3, maxLocals := 6, code := jdk_48_method_5_code, exceptionTable := #[], attributes := #[] }
def k16m2 : Method := { name := "signedHashCode", desc := "(I[BII)I", sig := { parameters := [.int, (.array .byte), .int, .int], returnType := some .int }, accessFlags := 10, code := some k16c2 }
def k16 : Class := { plain "jdk/internal/util/ArraysSupport" (some 0) with
  accessFlags := 33
  interfaces := #[]
  cf := some (fileOf pool16 21 #[] #[{ accessFlags := 2, nameIndex := 9, descriptorIndex := 19, attributes := #[] }, { accessFlags := 9, nameIndex := 321, descriptorIndex := 322, attributes := #[] }, { accessFlags := 10, nameIndex := 64, descriptorIndex := 65, attributes := #[] }] 33 16 #[] #[{ accessFlags := 24, nameIndex := 28, descriptorIndex := 29, attributes := #[] }, { accessFlags := 26, nameIndex := 38, descriptorIndex := 39, attributes := #[] }, { accessFlags := 25, nameIndex := 121, descriptorIndex := 25, attributes := #[] }, { accessFlags := 25, nameIndex := 131, descriptorIndex := 25, attributes := #[] }, { accessFlags := 25, nameIndex := 137, descriptorIndex := 25, attributes := #[] }, { accessFlags := 25, nameIndex := 143, descriptorIndex := 25, attributes := #[] }, { accessFlags := 25, nameIndex := 53, descriptorIndex := 25, attributes := #[] }, { accessFlags := 25, nameIndex := 24, descriptorIndex := 25, attributes := #[] }, { accessFlags := 25, nameIndex := 162, descriptorIndex := 25, attributes := #[] }, { accessFlags := 25, nameIndex := 187, descriptorIndex := 25, attributes := #[] }, { accessFlags := 26, nameIndex := 48, descriptorIndex := 25, attributes := #[] }, { accessFlags := 25, nameIndex := 277, descriptorIndex := 25, attributes := #[] }, { accessFlags := 25, nameIndex := 280, descriptorIndex := 25, attributes := #[] }, { accessFlags := 25, nameIndex := 282, descriptorIndex := 25, attributes := #[] }, { accessFlags := 25, nameIndex := 284, descriptorIndex := 25, attributes := #[] }, { accessFlags := 25, nameIndex := 286, descriptorIndex := 25, attributes := #[] }, { accessFlags := 25, nameIndex := 288, descriptorIndex := 25, attributes := #[] }, { accessFlags := 25, nameIndex := 290, descriptorIndex := 25, attributes := #[] }, { accessFlags := 25, nameIndex := 292, descriptorIndex := 25, attributes := #[] }, { accessFlags := 26, nameIndex := 108, descriptorIndex := 109, attributes := #[] }, { accessFlags := 25, nameIndex := 294, descriptorIndex := 25, attributes := #[] }])
  fields := #[{ name := "U", type := (.object "jdk/internal/misc/Unsafe"), accessFlags := 24, slot := 0, constantValue := 0 }, { name := "BIG_ENDIAN", type := .boolean, accessFlags := 26, slot := 1, constantValue := 0 }, { name := "LOG2_ARRAY_BOOLEAN_INDEX_SCALE", type := .int, accessFlags := 25, slot := 2, constantValue := 0 }, { name := "LOG2_ARRAY_BYTE_INDEX_SCALE", type := .int, accessFlags := 25, slot := 3, constantValue := 0 }, { name := "LOG2_ARRAY_CHAR_INDEX_SCALE", type := .int, accessFlags := 25, slot := 4, constantValue := 0 }, { name := "LOG2_ARRAY_SHORT_INDEX_SCALE", type := .int, accessFlags := 25, slot := 5, constantValue := 0 }, { name := "LOG2_ARRAY_INT_INDEX_SCALE", type := .int, accessFlags := 25, slot := 6, constantValue := 0 }, { name := "LOG2_ARRAY_LONG_INDEX_SCALE", type := .int, accessFlags := 25, slot := 7, constantValue := 0 }, { name := "LOG2_ARRAY_FLOAT_INDEX_SCALE", type := .int, accessFlags := 25, slot := 8, constantValue := 0 }, { name := "LOG2_ARRAY_DOUBLE_INDEX_SCALE", type := .int, accessFlags := 25, slot := 9, constantValue := 0 }, { name := "LOG2_BYTE_BIT_SIZE", type := .int, accessFlags := 26, slot := 10, constantValue := 0 }, { name := "T_BOOLEAN", type := .int, accessFlags := 25, slot := 11, constantValue := 0 }, { name := "T_CHAR", type := .int, accessFlags := 25, slot := 12, constantValue := 0 }, { name := "T_FLOAT", type := .int, accessFlags := 25, slot := 13, constantValue := 0 }, { name := "T_DOUBLE", type := .int, accessFlags := 25, slot := 14, constantValue := 0 }, { name := "T_BYTE", type := .int, accessFlags := 25, slot := 15, constantValue := 0 }, { name := "T_SHORT", type := .int, accessFlags := 25, slot := 16, constantValue := 0 }, { name := "T_INT", type := .int, accessFlags := 25, slot := 17, constantValue := 0 }, { name := "T_LONG", type := .int, accessFlags := 25, slot := 18, constantValue := 0 }, { name := "JLA", type := (.object "jdk/internal/access/JavaLangAccess"), accessFlags := 26, slot := 19, constantValue := 0 }, { name := "SOFT_MAX_ARRAY_LENGTH", type := .int, accessFlags := 25, slot := 20, constantValue := 0 }]
  methods := #[k16m0, k16m1, k16m2]
  instanceTypes := #[]
  staticTypes := #[(.object "jdk/internal/misc/Unsafe"), .boolean, .int, .int, .int, .int, .int, .int, .int, .int, .int, .int, .int, .int, .int, .int, .int, .int, .int, (.object "jdk/internal/access/JavaLangAccess"), .int]
  resolved := Array.replicate 378 none
  statics := none }

def pool17 : Array CpInfo := pool [(2, .class_ 4), (1, u "java/lang/Object"), (0, u "<init>"), (0, u "()V"), (17, .class_ 26), (1, u "jdk/internal/util/Preconditions"), (28, .class_ 56), (0, u "jdk/internal/util/Preconditions$4"), (57, .class_ 115), (0, u "jdk/internal/util/Preconditions$1"), (7, u "SIOOBE_FORMATTER"), (0, u "Ljava/util/function/BiFunction;"), (0, .class_ 126), (0, u "jdk/internal/util/Preconditions$2"), (3, u "AIOOBE_FORMATTER"), (0, .class_ 132), (0, u "jdk/internal/util/Preconditions$3"), (3, u "IOOBE_FORMATTER")] 57

def k17m0 : Method := { name := "<init>", desc := "()V", sig := { parameters := [], returnType := none }, accessFlags := 1, code := none }
def k17 : Class := { plain "jdk/internal/util/Preconditions" (some 0) with
  accessFlags := 33
  interfaces := #[]
  cf := some (fileOf pool17 24 #[.nestMembers #[55, 131, 125, 114]] #[{ accessFlags := 1, nameIndex := 5, descriptorIndex := 6, attributes := #[] }] 33 2 #[] #[{ accessFlags := 25, nameIndex := 123, descriptorIndex := 124, attributes := #[] }, { accessFlags := 25, nameIndex := 130, descriptorIndex := 124, attributes := #[] }, { accessFlags := 25, nameIndex := 136, descriptorIndex := 124, attributes := #[] }])
  fields := #[{ name := "SIOOBE_FORMATTER", type := (.object "java/util/function/BiFunction"), accessFlags := 25, slot := 0, constantValue := 0 }, { name := "AIOOBE_FORMATTER", type := (.object "java/util/function/BiFunction"), accessFlags := 25, slot := 1, constantValue := 0 }, { name := "IOOBE_FORMATTER", type := (.object "java/util/function/BiFunction"), accessFlags := 25, slot := 2, constantValue := 0 }]
  methods := #[k17m0]
  instanceTypes := #[]
  staticTypes := #[(.object "java/util/function/BiFunction"), (.object "java/util/function/BiFunction"), (.object "java/util/function/BiFunction")]
  resolved := Array.replicate 194 none
  statics := some 2 }

def pool18 : Array CpInfo := pool [(1, u "java/lang/Cloneable"), (0, .class_ 1), (0, u "java/lang/Object"), (0, .class_ 3)] 3

def k18 : Class := { plain "java/lang/Cloneable" (some 0) with
  accessFlags := 1537
  interfaces := #[]
  cf := some (fileOf pool18 2 #[] #[] 1537 4 #[] #[])
  fields := #[]
  methods := #[]
  instanceTypes := #[]
  staticTypes := #[]
  resolved := Array.replicate 8 none
  statics := none }

def k19 : Class := { plain "byte" none with kind := .primitive 'B', accessFlags := 0x411 }
def k20 : Class := { plain "[B" (some 0) with kind := .array 19 .byte, interfaces := #[18, 4], accessFlags := 1041 }

def k21 : Class := { plain "char" none with kind := .primitive 'C', accessFlags := 0x411 }
def k22 : Class := { plain "[C" (some 0) with kind := .array 21 .char, interfaces := #[18, 4], accessFlags := 1041 }

def k23 : Class := { plain "int" none with kind := .primitive 'I', accessFlags := 0x411 }
def k24 : Class := { plain "[I" (some 0) with kind := .array 23 .int, interfaces := #[18, 4], accessFlags := 1041 }

def k25 : Class := { plain "[Ljava/lang/Integer;" (some 0) with kind := .array 10 (.object "java/lang/Integer"), interfaces := #[18, 4], accessFlags := 1041 }

def k26 : Class := { plain "[Ljava/lang/Object;" (some 0) with kind := .array 0 (.object "java/lang/Object"), interfaces := #[18, 4], accessFlags := 1041 }

def heap : Heap := #[{ cls := 8, slots := #[.long 0, .int 1, .null, .int 0, .null, .int 0, .int 0], vm := .statics 8 },
  { cls := 11, slots := #[.int 0, .int 127, .ref 3, .null, .int 0], vm := .statics 11 },
  { cls := 17, slots := #[.null, .null, .null], vm := .statics 17 },
  { cls := 25, slots := #[.ref 4, .ref 5, .ref 6, .ref 7, .ref 8, .ref 9, .ref 10, .ref 11, .ref 12, .ref 13, .ref 14, .ref 15, .ref 16, .ref 17, .ref 18, .ref 19, .ref 20, .ref 21, .ref 22, .ref 23, .ref 24, .ref 25, .ref 26, .ref 27, .ref 28, .ref 29, .ref 30, .ref 31, .ref 32, .ref 33, .ref 34, .ref 35, .ref 36, .ref 37, .ref 38, .ref 39, .ref 40, .ref 41, .ref 42, .ref 43, .ref 44, .ref 45, .ref 46, .ref 47, .ref 48, .ref 49, .ref 50, .ref 51, .ref 52, .ref 53, .ref 54, .ref 55, .ref 56, .ref 57, .ref 58, .ref 59, .ref 60, .ref 61, .ref 62, .ref 63, .ref 64, .ref 65, .ref 66, .ref 67, .ref 68, .ref 69, .ref 70, .ref 71, .ref 72, .ref 73, .ref 74, .ref 75, .ref 76, .ref 77, .ref 78, .ref 79, .ref 80, .ref 81, .ref 82, .ref 83, .ref 84, .ref 85, .ref 86, .ref 87, .ref 88, .ref 89, .ref 90, .ref 91, .ref 92, .ref 93, .ref 94, .ref 95, .ref 96, .ref 97, .ref 98, .ref 99, .ref 100, .ref 101, .ref 102, .ref 103, .ref 104, .ref 105, .ref 106, .ref 107, .ref 108, .ref 109, .ref 110, .ref 111, .ref 112, .ref 113, .ref 114, .ref 115, .ref 116, .ref 117, .ref 118, .ref 119, .ref 120, .ref 121, .ref 122, .ref 123, .ref 124, .ref 125, .ref 126, .ref 127, .ref 128, .ref 129, .ref 130, .ref 131, .ref 132, .ref 133, .ref 134, .ref 135, .ref 136, .ref 137, .ref 138, .ref 139, .ref 140, .ref 141, .ref 142, .ref 143, .ref 144, .ref 145, .ref 146, .ref 147, .ref 148, .ref 149, .ref 150, .ref 151, .ref 152, .ref 153, .ref 154, .ref 155, .ref 156, .ref 157, .ref 158, .ref 159, .ref 160, .ref 161, .ref 162, .ref 163, .ref 164, .ref 165, .ref 166, .ref 167, .ref 168, .ref 169, .ref 170, .ref 171, .ref 172, .ref 173, .ref 174, .ref 175, .ref 176, .ref 177, .ref 178, .ref 179, .ref 180, .ref 181, .ref 182, .ref 183, .ref 184, .ref 185, .ref 186, .ref 187, .ref 188, .ref 189, .ref 190, .ref 191, .ref 192, .ref 193, .ref 194, .ref 195, .ref 196, .ref 197, .ref 198, .ref 199, .ref 200, .ref 201, .ref 202, .ref 203, .ref 204, .ref 205, .ref 206, .ref 207, .ref 208, .ref 209, .ref 210, .ref 211, .ref 212, .ref 213, .ref 214, .ref 215, .ref 216, .ref 217, .ref 218, .ref 219, .ref 220, .ref 221, .ref 222, .ref 223, .ref 224, .ref 225, .ref 226, .ref 227, .ref 228, .ref 229, .ref 230, .ref 231, .ref 232, .ref 233, .ref 234, .ref 235, .ref 236, .ref 237, .ref 238, .ref 239, .ref 240, .ref 241, .ref 242, .ref 243, .ref 244, .ref 245, .ref 246, .ref 247, .ref 248, .ref 249, .ref 250, .ref 251, .ref 252, .ref 253, .ref 254, .ref 255, .ref 256, .ref 257, .ref 258, .ref 259], vm := .none },
  { cls := 10, slots := #[.int (-128)], vm := .none },
  { cls := 10, slots := #[.int (-127)], vm := .none },
  { cls := 10, slots := #[.int (-126)], vm := .none },
  { cls := 10, slots := #[.int (-125)], vm := .none },
  { cls := 10, slots := #[.int (-124)], vm := .none },
  { cls := 10, slots := #[.int (-123)], vm := .none },
  { cls := 10, slots := #[.int (-122)], vm := .none },
  { cls := 10, slots := #[.int (-121)], vm := .none },
  { cls := 10, slots := #[.int (-120)], vm := .none },
  { cls := 10, slots := #[.int (-119)], vm := .none },
  { cls := 10, slots := #[.int (-118)], vm := .none },
  { cls := 10, slots := #[.int (-117)], vm := .none },
  { cls := 10, slots := #[.int (-116)], vm := .none },
  { cls := 10, slots := #[.int (-115)], vm := .none },
  { cls := 10, slots := #[.int (-114)], vm := .none },
  { cls := 10, slots := #[.int (-113)], vm := .none },
  { cls := 10, slots := #[.int (-112)], vm := .none },
  { cls := 10, slots := #[.int (-111)], vm := .none },
  { cls := 10, slots := #[.int (-110)], vm := .none },
  { cls := 10, slots := #[.int (-109)], vm := .none },
  { cls := 10, slots := #[.int (-108)], vm := .none },
  { cls := 10, slots := #[.int (-107)], vm := .none },
  { cls := 10, slots := #[.int (-106)], vm := .none },
  { cls := 10, slots := #[.int (-105)], vm := .none },
  { cls := 10, slots := #[.int (-104)], vm := .none },
  { cls := 10, slots := #[.int (-103)], vm := .none },
  { cls := 10, slots := #[.int (-102)], vm := .none },
  { cls := 10, slots := #[.int (-101)], vm := .none },
  { cls := 10, slots := #[.int (-100)], vm := .none },
  { cls := 10, slots := #[.int (-99)], vm := .none },
  { cls := 10, slots := #[.int (-98)], vm := .none },
  { cls := 10, slots := #[.int (-97)], vm := .none },
  { cls := 10, slots := #[.int (-96)], vm := .none },
  { cls := 10, slots := #[.int (-95)], vm := .none },
  { cls := 10, slots := #[.int (-94)], vm := .none },
  { cls := 10, slots := #[.int (-93)], vm := .none },
  { cls := 10, slots := #[.int (-92)], vm := .none },
  { cls := 10, slots := #[.int (-91)], vm := .none },
  { cls := 10, slots := #[.int (-90)], vm := .none },
  { cls := 10, slots := #[.int (-89)], vm := .none },
  { cls := 10, slots := #[.int (-88)], vm := .none },
  { cls := 10, slots := #[.int (-87)], vm := .none },
  { cls := 10, slots := #[.int (-86)], vm := .none },
  { cls := 10, slots := #[.int (-85)], vm := .none },
  { cls := 10, slots := #[.int (-84)], vm := .none },
  { cls := 10, slots := #[.int (-83)], vm := .none },
  { cls := 10, slots := #[.int (-82)], vm := .none },
  { cls := 10, slots := #[.int (-81)], vm := .none },
  { cls := 10, slots := #[.int (-80)], vm := .none },
  { cls := 10, slots := #[.int (-79)], vm := .none },
  { cls := 10, slots := #[.int (-78)], vm := .none },
  { cls := 10, slots := #[.int (-77)], vm := .none },
  { cls := 10, slots := #[.int (-76)], vm := .none },
  { cls := 10, slots := #[.int (-75)], vm := .none },
  { cls := 10, slots := #[.int (-74)], vm := .none },
  { cls := 10, slots := #[.int (-73)], vm := .none },
  { cls := 10, slots := #[.int (-72)], vm := .none },
  { cls := 10, slots := #[.int (-71)], vm := .none },
  { cls := 10, slots := #[.int (-70)], vm := .none },
  { cls := 10, slots := #[.int (-69)], vm := .none },
  { cls := 10, slots := #[.int (-68)], vm := .none },
  { cls := 10, slots := #[.int (-67)], vm := .none },
  { cls := 10, slots := #[.int (-66)], vm := .none },
  { cls := 10, slots := #[.int (-65)], vm := .none },
  { cls := 10, slots := #[.int (-64)], vm := .none },
  { cls := 10, slots := #[.int (-63)], vm := .none },
  { cls := 10, slots := #[.int (-62)], vm := .none },
  { cls := 10, slots := #[.int (-61)], vm := .none },
  { cls := 10, slots := #[.int (-60)], vm := .none },
  { cls := 10, slots := #[.int (-59)], vm := .none },
  { cls := 10, slots := #[.int (-58)], vm := .none },
  { cls := 10, slots := #[.int (-57)], vm := .none },
  { cls := 10, slots := #[.int (-56)], vm := .none },
  { cls := 10, slots := #[.int (-55)], vm := .none },
  { cls := 10, slots := #[.int (-54)], vm := .none },
  { cls := 10, slots := #[.int (-53)], vm := .none },
  { cls := 10, slots := #[.int (-52)], vm := .none },
  { cls := 10, slots := #[.int (-51)], vm := .none },
  { cls := 10, slots := #[.int (-50)], vm := .none },
  { cls := 10, slots := #[.int (-49)], vm := .none },
  { cls := 10, slots := #[.int (-48)], vm := .none },
  { cls := 10, slots := #[.int (-47)], vm := .none },
  { cls := 10, slots := #[.int (-46)], vm := .none },
  { cls := 10, slots := #[.int (-45)], vm := .none },
  { cls := 10, slots := #[.int (-44)], vm := .none },
  { cls := 10, slots := #[.int (-43)], vm := .none },
  { cls := 10, slots := #[.int (-42)], vm := .none },
  { cls := 10, slots := #[.int (-41)], vm := .none },
  { cls := 10, slots := #[.int (-40)], vm := .none },
  { cls := 10, slots := #[.int (-39)], vm := .none },
  { cls := 10, slots := #[.int (-38)], vm := .none },
  { cls := 10, slots := #[.int (-37)], vm := .none },
  { cls := 10, slots := #[.int (-36)], vm := .none },
  { cls := 10, slots := #[.int (-35)], vm := .none },
  { cls := 10, slots := #[.int (-34)], vm := .none },
  { cls := 10, slots := #[.int (-33)], vm := .none },
  { cls := 10, slots := #[.int (-32)], vm := .none },
  { cls := 10, slots := #[.int (-31)], vm := .none },
  { cls := 10, slots := #[.int (-30)], vm := .none },
  { cls := 10, slots := #[.int (-29)], vm := .none },
  { cls := 10, slots := #[.int (-28)], vm := .none },
  { cls := 10, slots := #[.int (-27)], vm := .none },
  { cls := 10, slots := #[.int (-26)], vm := .none },
  { cls := 10, slots := #[.int (-25)], vm := .none },
  { cls := 10, slots := #[.int (-24)], vm := .none },
  { cls := 10, slots := #[.int (-23)], vm := .none },
  { cls := 10, slots := #[.int (-22)], vm := .none },
  { cls := 10, slots := #[.int (-21)], vm := .none },
  { cls := 10, slots := #[.int (-20)], vm := .none },
  { cls := 10, slots := #[.int (-19)], vm := .none },
  { cls := 10, slots := #[.int (-18)], vm := .none },
  { cls := 10, slots := #[.int (-17)], vm := .none },
  { cls := 10, slots := #[.int (-16)], vm := .none },
  { cls := 10, slots := #[.int (-15)], vm := .none },
  { cls := 10, slots := #[.int (-14)], vm := .none },
  { cls := 10, slots := #[.int (-13)], vm := .none },
  { cls := 10, slots := #[.int (-12)], vm := .none },
  { cls := 10, slots := #[.int (-11)], vm := .none },
  { cls := 10, slots := #[.int (-10)], vm := .none },
  { cls := 10, slots := #[.int (-9)], vm := .none },
  { cls := 10, slots := #[.int (-8)], vm := .none },
  { cls := 10, slots := #[.int (-7)], vm := .none },
  { cls := 10, slots := #[.int (-6)], vm := .none },
  { cls := 10, slots := #[.int (-5)], vm := .none },
  { cls := 10, slots := #[.int (-4)], vm := .none },
  { cls := 10, slots := #[.int (-3)], vm := .none },
  { cls := 10, slots := #[.int (-2)], vm := .none },
  { cls := 10, slots := #[.int (-1)], vm := .none },
  { cls := 10, slots := #[.int (0)], vm := .none },
  { cls := 10, slots := #[.int (1)], vm := .none },
  { cls := 10, slots := #[.int (2)], vm := .none },
  { cls := 10, slots := #[.int (3)], vm := .none },
  { cls := 10, slots := #[.int (4)], vm := .none },
  { cls := 10, slots := #[.int (5)], vm := .none },
  { cls := 10, slots := #[.int (6)], vm := .none },
  { cls := 10, slots := #[.int (7)], vm := .none },
  { cls := 10, slots := #[.int (8)], vm := .none },
  { cls := 10, slots := #[.int (9)], vm := .none },
  { cls := 10, slots := #[.int (10)], vm := .none },
  { cls := 10, slots := #[.int (11)], vm := .none },
  { cls := 10, slots := #[.int (12)], vm := .none },
  { cls := 10, slots := #[.int (13)], vm := .none },
  { cls := 10, slots := #[.int (14)], vm := .none },
  { cls := 10, slots := #[.int (15)], vm := .none },
  { cls := 10, slots := #[.int (16)], vm := .none },
  { cls := 10, slots := #[.int (17)], vm := .none },
  { cls := 10, slots := #[.int (18)], vm := .none },
  { cls := 10, slots := #[.int (19)], vm := .none },
  { cls := 10, slots := #[.int (20)], vm := .none },
  { cls := 10, slots := #[.int (21)], vm := .none },
  { cls := 10, slots := #[.int (22)], vm := .none },
  { cls := 10, slots := #[.int (23)], vm := .none },
  { cls := 10, slots := #[.int (24)], vm := .none },
  { cls := 10, slots := #[.int (25)], vm := .none },
  { cls := 10, slots := #[.int (26)], vm := .none },
  { cls := 10, slots := #[.int (27)], vm := .none },
  { cls := 10, slots := #[.int (28)], vm := .none },
  { cls := 10, slots := #[.int (29)], vm := .none },
  { cls := 10, slots := #[.int (30)], vm := .none },
  { cls := 10, slots := #[.int (31)], vm := .none },
  { cls := 10, slots := #[.int (32)], vm := .none },
  { cls := 10, slots := #[.int (33)], vm := .none },
  { cls := 10, slots := #[.int (34)], vm := .none },
  { cls := 10, slots := #[.int (35)], vm := .none },
  { cls := 10, slots := #[.int (36)], vm := .none },
  { cls := 10, slots := #[.int (37)], vm := .none },
  { cls := 10, slots := #[.int (38)], vm := .none },
  { cls := 10, slots := #[.int (39)], vm := .none },
  { cls := 10, slots := #[.int (40)], vm := .none },
  { cls := 10, slots := #[.int (41)], vm := .none },
  { cls := 10, slots := #[.int (42)], vm := .none },
  { cls := 10, slots := #[.int (43)], vm := .none },
  { cls := 10, slots := #[.int (44)], vm := .none },
  { cls := 10, slots := #[.int (45)], vm := .none },
  { cls := 10, slots := #[.int (46)], vm := .none },
  { cls := 10, slots := #[.int (47)], vm := .none },
  { cls := 10, slots := #[.int (48)], vm := .none },
  { cls := 10, slots := #[.int (49)], vm := .none },
  { cls := 10, slots := #[.int (50)], vm := .none },
  { cls := 10, slots := #[.int (51)], vm := .none },
  { cls := 10, slots := #[.int (52)], vm := .none },
  { cls := 10, slots := #[.int (53)], vm := .none },
  { cls := 10, slots := #[.int (54)], vm := .none },
  { cls := 10, slots := #[.int (55)], vm := .none },
  { cls := 10, slots := #[.int (56)], vm := .none },
  { cls := 10, slots := #[.int (57)], vm := .none },
  { cls := 10, slots := #[.int (58)], vm := .none },
  { cls := 10, slots := #[.int (59)], vm := .none },
  { cls := 10, slots := #[.int (60)], vm := .none },
  { cls := 10, slots := #[.int (61)], vm := .none },
  { cls := 10, slots := #[.int (62)], vm := .none },
  { cls := 10, slots := #[.int (63)], vm := .none },
  { cls := 10, slots := #[.int (64)], vm := .none },
  { cls := 10, slots := #[.int (65)], vm := .none },
  { cls := 10, slots := #[.int (66)], vm := .none },
  { cls := 10, slots := #[.int (67)], vm := .none },
  { cls := 10, slots := #[.int (68)], vm := .none },
  { cls := 10, slots := #[.int (69)], vm := .none },
  { cls := 10, slots := #[.int (70)], vm := .none },
  { cls := 10, slots := #[.int (71)], vm := .none },
  { cls := 10, slots := #[.int (72)], vm := .none },
  { cls := 10, slots := #[.int (73)], vm := .none },
  { cls := 10, slots := #[.int (74)], vm := .none },
  { cls := 10, slots := #[.int (75)], vm := .none },
  { cls := 10, slots := #[.int (76)], vm := .none },
  { cls := 10, slots := #[.int (77)], vm := .none },
  { cls := 10, slots := #[.int (78)], vm := .none },
  { cls := 10, slots := #[.int (79)], vm := .none },
  { cls := 10, slots := #[.int (80)], vm := .none },
  { cls := 10, slots := #[.int (81)], vm := .none },
  { cls := 10, slots := #[.int (82)], vm := .none },
  { cls := 10, slots := #[.int (83)], vm := .none },
  { cls := 10, slots := #[.int (84)], vm := .none },
  { cls := 10, slots := #[.int (85)], vm := .none },
  { cls := 10, slots := #[.int (86)], vm := .none },
  { cls := 10, slots := #[.int (87)], vm := .none },
  { cls := 10, slots := #[.int (88)], vm := .none },
  { cls := 10, slots := #[.int (89)], vm := .none },
  { cls := 10, slots := #[.int (90)], vm := .none },
  { cls := 10, slots := #[.int (91)], vm := .none },
  { cls := 10, slots := #[.int (92)], vm := .none },
  { cls := 10, slots := #[.int (93)], vm := .none },
  { cls := 10, slots := #[.int (94)], vm := .none },
  { cls := 10, slots := #[.int (95)], vm := .none },
  { cls := 10, slots := #[.int (96)], vm := .none },
  { cls := 10, slots := #[.int (97)], vm := .none },
  { cls := 10, slots := #[.int (98)], vm := .none },
  { cls := 10, slots := #[.int (99)], vm := .none },
  { cls := 10, slots := #[.int (100)], vm := .none },
  { cls := 10, slots := #[.int (101)], vm := .none },
  { cls := 10, slots := #[.int (102)], vm := .none },
  { cls := 10, slots := #[.int (103)], vm := .none },
  { cls := 10, slots := #[.int (104)], vm := .none },
  { cls := 10, slots := #[.int (105)], vm := .none },
  { cls := 10, slots := #[.int (106)], vm := .none },
  { cls := 10, slots := #[.int (107)], vm := .none },
  { cls := 10, slots := #[.int (108)], vm := .none },
  { cls := 10, slots := #[.int (109)], vm := .none },
  { cls := 10, slots := #[.int (110)], vm := .none },
  { cls := 10, slots := #[.int (111)], vm := .none },
  { cls := 10, slots := #[.int (112)], vm := .none },
  { cls := 10, slots := #[.int (113)], vm := .none },
  { cls := 10, slots := #[.int (114)], vm := .none },
  { cls := 10, slots := #[.int (115)], vm := .none },
  { cls := 10, slots := #[.int (116)], vm := .none },
  { cls := 10, slots := #[.int (117)], vm := .none },
  { cls := 10, slots := #[.int (118)], vm := .none },
  { cls := 10, slots := #[.int (119)], vm := .none },
  { cls := 10, slots := #[.int (120)], vm := .none },
  { cls := 10, slots := #[.int (121)], vm := .none },
  { cls := 10, slots := #[.int (122)], vm := .none },
  { cls := 10, slots := #[.int (123)], vm := .none },
  { cls := 10, slots := #[.int (124)], vm := .none },
  { cls := 10, slots := #[.int (125)], vm := .none },
  { cls := 10, slots := #[.int (126)], vm := .none },
  { cls := 10, slots := #[.int (127)], vm := .none }]
def classes : Array Class := #[k0, k1, k2, k3, k4, k5, k6, k7, k8, k9, k10, k11, k12, k13, k14, k15, k16, k17, k18, k19, k20, k21, k22, k23, k24, k25, k26]
def interned : List (Array UInt16 × Addr) := []
def slotsUsed : Nat := 527
def theMethod : MethodId := ⟨1, 1⟩
def args0 : Array Value := #[.int 5, .int 6, .int 7, .int 8, .int 9, .int 10]
def aboutOver (below : List Frame) : State where
  vm := { classes := classes, interned := interned.toArray }
  heap := heap
  slotsUsed := slotsUsed
  threads := #[{ frames := .invoking theMethod args0 :: below }]
def below0 : List Frame := [.native { method := ⟨0, 0⟩, args := #[] }]
def about1 : State := aboutOver below0
def p0 : Program := .bare "" "" ""
def e0 : Env := launch0.env 0 0 0
theorem w_frames : about1.frames = Frame.invoking theMethod args0 :: below0 := rfl
set_option maxRecDepth 65536 in
theorem w_args : argsFit about1.vm theMethod args0 = true := by decide +kernel
set_option maxRecDepth 65536 in
theorem w_heap : heapFits about1 = true := by decide +kernel
set_option maxRecDepth 65536 in
theorem w_runnable : about1.curStatus? = some .runnable := by decide +kernel
set_option maxRecDepth 65536 in
theorem w_alone : about1.alone = true := by decide +kernel
set_option maxRecDepth 65536 in
theorem w_named : about1.methodNamed? x = some theMethod := by decide +kernel
set_option maxRecDepth 65536 in
theorem w_hears : about1.hears theMethod below0 = true := by decide +kernel
set_option maxRecDepth 65536 in
theorem w_ripe : about1.ripe theMethod args0 below0 = true := by decide +kernel
theorem w_running : about1.status = .running := rfl
set_option maxRecDepth 65536 in
theorem w_room : about1.hasRoom e0.platform room_1 = true :=
  launch0.hasRoom_least _ room_1 (by decide +kernel) (by decide +kernel) (by decide +kernel) (by decide +kernel) (by decide +kernel) (by decide +kernel)
theorem allAtoms_all (ts : List Jvm.Cond) (a : Array Jvm.Value) (st : Jvm.State) : (allAtoms ts).before a st = ts.all (fun c => c.before a st) := by
  induction ts with
  | nil => rfl
  | cons c t ih =>
    show (Jvm.Cond.and c (allAtoms t)).before a st = _
    rw [Jvm.Cond.before_and, ih, List.all_cons]
def words1 : List Jvm.Cond := Jvm.Cond.code x code maxLocals ret :: tables_1
theorem code_word {y : MethodName} {bytes : ByteArray} {mx : Nat} {rt : Option FieldType} {a : Array Value} {s : State} {m : MethodId} {meth : Method} {c : Code} (h1 : s.methodNamed? y = some m) (h2 : s.vm.method? m = some meth) (h3 : meth.code = some c) (h4 : c.code = bytes)
    (h5 : (c.maxLocals == mx && c.exceptionTable.isEmpty && decide (c.maxStack ≤ mostOperands) && decide (meth.sig.returnType = rt) && !meth.locks && decide (parseMethodDescriptor y.desc = some meth.sig)) = true) : (Jvm.Cond.code y bytes mx rt).before a s = true := by
  simp only [Bool.and_eq_true, beq_iff_eq, Bool.not_eq_true', decide_eq_true_eq] at h5
  obtain ⟨⟨⟨⟨⟨g1, g2⟩, g3⟩, g4⟩, g5⟩, g6⟩ := h5
  simp [Cond.before, Cond.holds, Cond.value, h1, h2, h3, h4, g1, g2, g3, g4, g5, g6]
def isCode : Jvm.Cond → Bool
  | .code _ _ _ _ => true
  | _ => false
theorem all_split {L : List Jvm.Cond} {P : Jvm.Cond → Bool} (h1 : L.all (fun c => isCode c || P c) = true) (h2 : ∀ c ∈ L.filter isCode, P c = true) : L.all P = true := by
  refine List.all_eq_true.mpr fun c hc => ?_
  have h := List.all_eq_true.mp h1 c hc
  rcases Bool.eq_false_or_eq_true (isCode c) with hi | hi
  · exact h2 c (List.mem_filter.mpr ⟨hc, hi⟩)
  · simpa [hi] using h
set_option maxRecDepth 65536 in
theorem w_c0 : (Jvm.Cond.code x code maxLocals ret).before args0 about1 = true := code_word (m := ⟨1, 1⟩) (meth := k1m1) (c := k1c1) (by decide +kernel) rfl rfl rfl (by decide +kernel)
set_option maxRecDepth 65536 in
theorem w_c1 : (Jvm.Cond.code ({ cls := "com/example/tophat_ledger/tophatledger/HoldingGroupEqualsPinLaw", name := "text", desc := "(I)[C" } : Jvm.MethodName) method_3_code (3 : Nat) (Option.some (Jvm.ClassFile.FieldType.array Jvm.ClassFile.FieldType.char))).before args0 about1 = true := code_word (m := ⟨1, 2⟩) (meth := k1m2) (c := k1c2) (by decide +kernel) rfl rfl rfl (by decide +kernel)
set_option maxRecDepth 65536 in
theorem w_c2 : (Jvm.Cond.code ({ cls := "java/lang/String", name := "<init>", desc := "([C)V" } : Jvm.MethodName) jdk_42_method_3_code (2 : Nat) (Option.none : Option Jvm.ClassFile.FieldType)).before args0 about1 = true := code_word (m := ⟨8, 1⟩) (meth := k8m1) (c := k8c1) (by decide +kernel) rfl rfl rfl (by decide +kernel)
set_option maxRecDepth 65536 in
theorem w_c3 : (Jvm.Cond.code ({ cls := "java/lang/String", name := "<init>", desc := "([CIILjava/lang/Void;)V" } : Jvm.MethodName) jdk_42_method_149_code (6 : Nat) (Option.none : Option Jvm.ClassFile.FieldType)).before args0 about1 = true := code_word (m := ⟨8, 4⟩) (meth := k8m4) (c := k8c4) (by decide +kernel) rfl rfl rfl (by decide +kernel)
set_option maxRecDepth 65536 in
theorem w_c4 : (Jvm.Cond.code ({ cls := "java/lang/Object", name := "<init>", desc := "()V" } : Jvm.MethodName) object_method_1_code (1 : Nat) (Option.none : Option Jvm.ClassFile.FieldType)).before args0 about1 = true := code_word (m := ⟨0, 0⟩) (meth := k0m0) (c := k0c0) (by decide +kernel) rfl rfl rfl (by decide +kernel)
set_option maxRecDepth 65536 in
theorem w_c5 : (Jvm.Cond.code ({ cls := "com/example/tophat_ledger/tophatledger/HoldingGroup", name := "<init>", desc := "(Ljava/lang/String;ILjava/lang/String;)V" } : Jvm.MethodName) prog_11_method_1_code (4 : Nat) (Option.none : Option Jvm.ClassFile.FieldType)).before args0 about1 = true := code_word (m := ⟨3, 0⟩) (meth := k3m0) (c := k3c0) (by decide +kernel) rfl rfl rfl (by decide +kernel)
set_option maxRecDepth 65536 in
theorem w_c6 : (Jvm.Cond.code ({ cls := "java/lang/Integer", name := "valueOf", desc := "(I)Ljava/lang/Integer;" } : Jvm.MethodName) jdk_33_method_22_code (1 : Nat) (Option.some (Jvm.ClassFile.FieldType.object "java/lang/Integer"))).before args0 about1 = true := code_word (m := ⟨10, 0⟩) (meth := k10m0) (c := k10c0) (by decide +kernel) rfl rfl rfl (by decide +kernel)
set_option maxRecDepth 65536 in
theorem w_c7 : (Jvm.Cond.code ({ cls := "java/util/Objects", name := "hash", desc := "([Ljava/lang/Object;)I" } : Jvm.MethodName) jdk_31_method_5_code (1 : Nat) (Option.some Jvm.ClassFile.FieldType.int)).before args0 about1 = true := code_word (m := ⟨12, 1⟩) (meth := k12m1) (c := k12c1) (by decide +kernel) rfl rfl rfl (by decide +kernel)
set_option maxRecDepth 65536 in
theorem w_c8 : (Jvm.Cond.code ({ cls := "java/util/Arrays", name := "hashCode", desc := "([Ljava/lang/Object;)I" } : Jvm.MethodName) jdk_65_method_157_code (6 : Nat) (Option.some Jvm.ClassFile.FieldType.int)).before args0 about1 = true := code_word (m := ⟨13, 1⟩) (meth := k13m1) (c := k13c1) (by decide +kernel) rfl rfl rfl (by decide +kernel)
set_option maxRecDepth 65536 in
theorem w_c9 : (Jvm.Cond.code ({ cls := "java/lang/String", name := "hashCode", desc := "()I" } : Jvm.MethodName) jdk_42_method_78_code (2 : Nat) (Option.some Jvm.ClassFile.FieldType.int)).before args0 about1 = true := code_word (m := ⟨8, 3⟩) (meth := k8m3) (c := k8c3) (by decide +kernel) rfl rfl rfl (by decide +kernel)
set_option maxRecDepth 65536 in
theorem w_c10 : (Jvm.Cond.code ({ cls := "java/lang/String", name := "isLatin1", desc := "()Z" } : Jvm.MethodName) jdk_42_method_154_code (1 : Nat) (Option.some Jvm.ClassFile.FieldType.boolean)).before args0 about1 = true := code_word (m := ⟨8, 5⟩) (meth := k8m5) (c := k8c5) (by decide +kernel) rfl rfl rfl (by decide +kernel)
set_option maxRecDepth 65536 in
theorem w_c11 : (Jvm.Cond.code ({ cls := "java/lang/StringLatin1", name := "hashCode", desc := "([B)I" } : Jvm.MethodName) jdk_43_method_21_code (1 : Nat) (Option.some Jvm.ClassFile.FieldType.int)).before args0 about1 = true := code_word (m := ⟨14, 2⟩) (meth := k14m2) (c := k14c2) (by decide +kernel) rfl rfl rfl (by decide +kernel)
set_option maxRecDepth 65536 in
theorem w_c12 : (Jvm.Cond.code ({ cls := "java/lang/Integer", name := "hashCode", desc := "()I" } : Jvm.MethodName) jdk_33_method_32_code (1 : Nat) (Option.some Jvm.ClassFile.FieldType.int)).before args0 about1 = true := code_word (m := ⟨10, 2⟩) (meth := k10m2) (c := k10c2) (by decide +kernel) rfl rfl rfl (by decide +kernel)
set_option maxRecDepth 65536 in
theorem w_c13 : (Jvm.Cond.code ({ cls := "java/lang/Integer", name := "hashCode", desc := "(I)I" } : Jvm.MethodName) jdk_33_method_33_code (1 : Nat) (Option.some Jvm.ClassFile.FieldType.int)).before args0 about1 = true := code_word (m := ⟨10, 3⟩) (meth := k10m3) (c := k10c3) (by decide +kernel) rfl rfl rfl (by decide +kernel)
set_option maxRecDepth 65536 in
theorem w_c14 : (Jvm.Cond.code ({ cls := "com/example/tophat_ledger/tophatledger/HoldingGroupEqualsPinLaw", name := "same", desc := "([C[C)Z" } : Jvm.MethodName) method_4_code (2 : Nat) (Option.some Jvm.ClassFile.FieldType.boolean)).before args0 about1 = true := code_word (m := ⟨1, 3⟩) (meth := k1m3) (c := k1c3) (by decide +kernel) rfl rfl rfl (by decide +kernel)
set_option maxRecDepth 65536 in
theorem w_c15 : (Jvm.Cond.code ({ cls := "com/example/tophat_ledger/tophatledger/HoldingGroup", name := "equals", desc := "(Ljava/lang/Object;)Z" } : Jvm.MethodName) prog_11_method_6_code (3 : Nat) (Option.some Jvm.ClassFile.FieldType.boolean)).before args0 about1 = true := code_word (m := ⟨3, 1⟩) (meth := k3m1) (c := k3c1) (by decide +kernel) rfl rfl rfl (by decide +kernel)
set_option maxRecDepth 65536 in
theorem w_c16 : (Jvm.Cond.code ({ cls := "java/lang/String", name := "equals", desc := "(Ljava/lang/Object;)Z" } : Jvm.MethodName) jdk_42_method_66_code (3 : Nat) (Option.some Jvm.ClassFile.FieldType.boolean)).before args0 about1 = true := code_word (m := ⟨8, 2⟩) (meth := k8m2) (c := k8c2) (by decide +kernel) rfl rfl rfl (by decide +kernel)
set_option maxRecDepth 65536 in
theorem w_c17 : (Jvm.Cond.code ({ cls := "java/lang/StringLatin1", name := "equals", desc := "([B[B)Z" } : Jvm.MethodName) jdk_43_method_13_code (3 : Nat) (Option.some Jvm.ClassFile.FieldType.boolean)).before args0 about1 = true := code_word (m := ⟨14, 1⟩) (meth := k14m1) (c := k14c1) (by decide +kernel) rfl rfl rfl (by decide +kernel)
set_option maxRecDepth 65536 in
theorem w_c18 : (Jvm.Cond.code ({ cls := "java/lang/StringUTF16", name := "compress", desc := "([CII)[B" } : Jvm.MethodName) jdk_52_method_16_code (6 : Nat) (Option.some (Jvm.ClassFile.FieldType.array Jvm.ClassFile.FieldType.byte))).before args0 about1 = true := code_word (m := ⟨15, 2⟩) (meth := k15m2) (c := k15c2) (by decide +kernel) rfl rfl rfl (by decide +kernel)
set_option maxRecDepth 65536 in
theorem w_c19 : (Jvm.Cond.code ({ cls := "java/lang/StringUTF16", name := "compress", desc := "([CI[BII)I" } : Jvm.MethodName) jdk_52_method_21_code (7 : Nat) (Option.some Jvm.ClassFile.FieldType.int)).before args0 about1 = true := code_word (m := ⟨15, 3⟩) (meth := k15m3) (c := k15c3) (by decide +kernel) rfl rfl rfl (by decide +kernel)
set_option maxRecDepth 65536 in
theorem w_c20 : (Jvm.Cond.code ({ cls := "java/lang/StringUTF16", name := "coderFromArrayLen", desc := "([BI)B" } : Jvm.MethodName) jdk_52_method_15_code (2 : Nat) (Option.some Jvm.ClassFile.FieldType.byte)).before args0 about1 = true := code_word (m := ⟨15, 1⟩) (meth := k15m1) (c := k15c1) (by decide +kernel) rfl rfl rfl (by decide +kernel)
set_option maxRecDepth 65536 in
theorem w_c21 : (Jvm.Cond.code ({ cls := "jdk/internal/util/ArraysSupport", name := "vectorizedHashCode", desc := "(Ljava/lang/Object;IIII)I" } : Jvm.MethodName) jdk_48_method_4_code (5 : Nat) (Option.some Jvm.ClassFile.FieldType.int)).before args0 about1 = true := code_word (m := ⟨16, 1⟩) (meth := k16m1) (c := k16c1) (by decide +kernel) rfl rfl rfl (by decide +kernel)
set_option maxRecDepth 65536 in
theorem w_c22 : (Jvm.Cond.code ({ cls := "jdk/internal/util/ArraysSupport", name := "signedHashCode", desc := "(I[BII)I" } : Jvm.MethodName) jdk_48_method_5_code (6 : Nat) (Option.some Jvm.ClassFile.FieldType.int)).before args0 about1 = true := code_word (m := ⟨16, 2⟩) (meth := k16m2) (c := k16c2) (by decide +kernel) rfl rfl rfl (by decide +kernel)
set_option maxRecDepth 65536 in
theorem w_c23 : (Jvm.Cond.code ({ cls := "java/lang/Integer", name := "<init>", desc := "(I)V" } : Jvm.MethodName) jdk_33_method_23_code (2 : Nat) (Option.none : Option Jvm.ClassFile.FieldType)).before args0 about1 = true := code_word (m := ⟨10, 1⟩) (meth := k10m1) (c := k10c1) (by decide +kernel) rfl rfl rfl (by decide +kernel)
set_option maxRecDepth 65536 in
theorem w_c24 : (Jvm.Cond.code ({ cls := "java/lang/Number", name := "<init>", desc := "()V" } : Jvm.MethodName) jdk_18_method_1_code (1 : Nat) (Option.none : Option Jvm.ClassFile.FieldType)).before args0 about1 = true := code_word (m := ⟨9, 0⟩) (meth := k9m0) (c := k9c0) (by decide +kernel) rfl rfl rfl (by decide +kernel)
def codes1 : List Jvm.Cond := [Jvm.Cond.code x code maxLocals ret, Jvm.Cond.code ({ cls := "com/example/tophat_ledger/tophatledger/HoldingGroupEqualsPinLaw", name := "text", desc := "(I)[C" } : Jvm.MethodName) method_3_code (3 : Nat) (Option.some (Jvm.ClassFile.FieldType.array Jvm.ClassFile.FieldType.char)), Jvm.Cond.code ({ cls := "java/lang/String", name := "<init>", desc := "([C)V" } : Jvm.MethodName) jdk_42_method_3_code (2 : Nat) (Option.none : Option Jvm.ClassFile.FieldType), Jvm.Cond.code ({ cls := "java/lang/String", name := "<init>", desc := "([CIILjava/lang/Void;)V" } : Jvm.MethodName) jdk_42_method_149_code (6 : Nat) (Option.none : Option Jvm.ClassFile.FieldType), Jvm.Cond.code ({ cls := "java/lang/Object", name := "<init>", desc := "()V" } : Jvm.MethodName) object_method_1_code (1 : Nat) (Option.none : Option Jvm.ClassFile.FieldType), Jvm.Cond.code ({ cls := "com/example/tophat_ledger/tophatledger/HoldingGroup", name := "<init>", desc := "(Ljava/lang/String;ILjava/lang/String;)V" } : Jvm.MethodName) prog_11_method_1_code (4 : Nat) (Option.none : Option Jvm.ClassFile.FieldType), Jvm.Cond.code ({ cls := "java/lang/Integer", name := "valueOf", desc := "(I)Ljava/lang/Integer;" } : Jvm.MethodName) jdk_33_method_22_code (1 : Nat) (Option.some (Jvm.ClassFile.FieldType.object "java/lang/Integer")), Jvm.Cond.code ({ cls := "java/util/Objects", name := "hash", desc := "([Ljava/lang/Object;)I" } : Jvm.MethodName) jdk_31_method_5_code (1 : Nat) (Option.some Jvm.ClassFile.FieldType.int), Jvm.Cond.code ({ cls := "java/util/Arrays", name := "hashCode", desc := "([Ljava/lang/Object;)I" } : Jvm.MethodName) jdk_65_method_157_code (6 : Nat) (Option.some Jvm.ClassFile.FieldType.int), Jvm.Cond.code ({ cls := "java/lang/String", name := "hashCode", desc := "()I" } : Jvm.MethodName) jdk_42_method_78_code (2 : Nat) (Option.some Jvm.ClassFile.FieldType.int), Jvm.Cond.code ({ cls := "java/lang/String", name := "isLatin1", desc := "()Z" } : Jvm.MethodName) jdk_42_method_154_code (1 : Nat) (Option.some Jvm.ClassFile.FieldType.boolean), Jvm.Cond.code ({ cls := "java/lang/StringLatin1", name := "hashCode", desc := "([B)I" } : Jvm.MethodName) jdk_43_method_21_code (1 : Nat) (Option.some Jvm.ClassFile.FieldType.int), Jvm.Cond.code ({ cls := "java/lang/Integer", name := "hashCode", desc := "()I" } : Jvm.MethodName) jdk_33_method_32_code (1 : Nat) (Option.some Jvm.ClassFile.FieldType.int), Jvm.Cond.code ({ cls := "java/lang/Integer", name := "hashCode", desc := "(I)I" } : Jvm.MethodName) jdk_33_method_33_code (1 : Nat) (Option.some Jvm.ClassFile.FieldType.int), Jvm.Cond.code ({ cls := "com/example/tophat_ledger/tophatledger/HoldingGroupEqualsPinLaw", name := "same", desc := "([C[C)Z" } : Jvm.MethodName) method_4_code (2 : Nat) (Option.some Jvm.ClassFile.FieldType.boolean), Jvm.Cond.code ({ cls := "com/example/tophat_ledger/tophatledger/HoldingGroup", name := "equals", desc := "(Ljava/lang/Object;)Z" } : Jvm.MethodName) prog_11_method_6_code (3 : Nat) (Option.some Jvm.ClassFile.FieldType.boolean), Jvm.Cond.code ({ cls := "java/lang/String", name := "equals", desc := "(Ljava/lang/Object;)Z" } : Jvm.MethodName) jdk_42_method_66_code (3 : Nat) (Option.some Jvm.ClassFile.FieldType.boolean), Jvm.Cond.code ({ cls := "java/lang/StringLatin1", name := "equals", desc := "([B[B)Z" } : Jvm.MethodName) jdk_43_method_13_code (3 : Nat) (Option.some Jvm.ClassFile.FieldType.boolean), Jvm.Cond.code ({ cls := "java/lang/StringUTF16", name := "compress", desc := "([CII)[B" } : Jvm.MethodName) jdk_52_method_16_code (6 : Nat) (Option.some (Jvm.ClassFile.FieldType.array Jvm.ClassFile.FieldType.byte)), Jvm.Cond.code ({ cls := "java/lang/StringUTF16", name := "compress", desc := "([CI[BII)I" } : Jvm.MethodName) jdk_52_method_21_code (7 : Nat) (Option.some Jvm.ClassFile.FieldType.int), Jvm.Cond.code ({ cls := "java/lang/StringUTF16", name := "coderFromArrayLen", desc := "([BI)B" } : Jvm.MethodName) jdk_52_method_15_code (2 : Nat) (Option.some Jvm.ClassFile.FieldType.byte), Jvm.Cond.code ({ cls := "jdk/internal/util/ArraysSupport", name := "vectorizedHashCode", desc := "(Ljava/lang/Object;IIII)I" } : Jvm.MethodName) jdk_48_method_4_code (5 : Nat) (Option.some Jvm.ClassFile.FieldType.int), Jvm.Cond.code ({ cls := "jdk/internal/util/ArraysSupport", name := "signedHashCode", desc := "(I[BII)I" } : Jvm.MethodName) jdk_48_method_5_code (6 : Nat) (Option.some Jvm.ClassFile.FieldType.int), Jvm.Cond.code ({ cls := "java/lang/Integer", name := "<init>", desc := "(I)V" } : Jvm.MethodName) jdk_33_method_23_code (2 : Nat) (Option.none : Option Jvm.ClassFile.FieldType), Jvm.Cond.code ({ cls := "java/lang/Number", name := "<init>", desc := "()V" } : Jvm.MethodName) jdk_18_method_1_code (1 : Nat) (Option.none : Option Jvm.ClassFile.FieldType)]
set_option maxRecDepth 65536 in
theorem codes_eq : words1.filter isCode = codes1 := rfl
theorem w_codes : ∀ c ∈ words1.filter isCode, c.before args0 about1 = true := by
  rw [codes_eq]
  intro c hc
  simp only [codes1, List.mem_cons, List.not_mem_nil, or_false] at hc
  rcases hc with rfl | rfl | rfl | rfl | rfl | rfl | rfl | rfl | rfl | rfl | rfl | rfl | rfl | rfl | rfl | rfl | rfl | rfl | rfl | rfl | rfl | rfl | rfl | rfl | rfl
  · exact w_c0
  · exact w_c1
  · exact w_c2
  · exact w_c3
  · exact w_c4
  · exact w_c5
  · exact w_c6
  · exact w_c7
  · exact w_c8
  · exact w_c9
  · exact w_c10
  · exact w_c11
  · exact w_c12
  · exact w_c13
  · exact w_c14
  · exact w_c15
  · exact w_c16
  · exact w_c17
  · exact w_c18
  · exact w_c19
  · exact w_c20
  · exact w_c21
  · exact w_c22
  · exact w_c23
  · exact w_c24
set_option maxRecDepth 65536 in
theorem w_t1 : (words1.take 24).all (fun c => isCode c || c.before args0 about1) = true := by decide +kernel
set_option maxRecDepth 65536 in
theorem w_t2 : ((words1.drop 24).take 24).all (fun c => isCode c || c.before args0 about1) = true := by decide +kernel
set_option maxRecDepth 65536 in
theorem w_t3 : (((words1.drop 24).drop 24).take 24).all (fun c => isCode c || c.before args0 about1) = true := by decide +kernel
set_option maxRecDepth 65536 in
theorem w_t4 : ((((words1.drop 24).drop 24).drop 24).take 24).all (fun c => isCode c || c.before args0 about1) = true := by decide +kernel
set_option maxRecDepth 65536 in
theorem w_t5 : (((((words1.drop 24).drop 24).drop 24).drop 24).take 24).all (fun c => isCode c || c.before args0 about1) = true := by decide +kernel
set_option maxRecDepth 65536 in
theorem w_t6 : (((((words1.drop 24).drop 24).drop 24).drop 24).drop 24).all (fun c => isCode c || c.before args0 about1) = true := by decide +kernel
theorem w_tables : (allAtoms (Jvm.Cond.code x code maxLocals ret :: tables_1)).before args0 about1 = true := by
  rw [allAtoms_all]
  show words1.all (fun c => c.before args0 about1) = true
  refine all_split ?_ w_codes
  rw [← List.take_append_drop 24 words1, List.all_append, w_t1, ← List.take_append_drop 24 (words1.drop 24), List.all_append, w_t2, ← List.take_append_drop 24 ((words1.drop 24).drop 24), List.all_append, w_t3, ← List.take_append_drop 24 (((words1.drop 24).drop 24).drop 24), List.all_append, w_t4, ← List.take_append_drop 24 ((((words1.drop 24).drop 24).drop 24).drop 24), List.all_append, w_t5, w_t6]
  rfl
set_option maxRecDepth 65536 in
theorem w_rest : rest_1_c.before args0 about1 = true := by decide +kernel
set_option maxRecDepth 65536 in
theorem w_case : (Jvm.Cond.and given_1 narrow_1).before args0 about1 = true := by decide +kernel
set_option maxRecDepth 65536 in
theorem w_consts : constsHeld consts_1 about1 := Jvm.Lit.constsHeldB_iff.mp (by decide +kernel)
theorem w_applies : (headSpec (Jvm.Cond.code x code maxLocals ret :: tables_1) room_1).applies x e0.platform about1 = true :=
  (Spec.applies_iff w_frames).mpr ⟨w_running, w_runnable, w_alone, w_named, w_hears, w_ripe, w_room, w_tables⟩
theorem atStart : AtStart classFile x code maxLocals ret World_1 tables_1 room_1 Calls_1 rest_1 Pre_1 launch0 p0 e0 about1 theMethod args0 below0 :=
  ⟨lists_1, trivial, launch0.admits_env _ _ _, launch0.least_env, fairChoices_fair.cas, fairChoices_fair.clock, w_frames, w_args, w_heap, w_applies, ⟨w_consts, trivial⟩, w_rest, w_case⟩
end start1
theorem witness_1 : WitnessClaimed_1 := ⟨start1.p0, start1.e0, start1.about1, start1.theMethod, start1.args0, start1.below0, start1.atStart⟩
end Jvm.Pilot.@@N@@
