import JvmDerived
import JvmDerived.Pilot.@@N@@Statement
import JvmDerived.Pilot.@@N@@Code
set_option linter.unusedVariables false
set_option linter.unusedSimpArgs false
set_option maxRecDepth 65536
set_option maxHeartbeats 40000000
namespace Jvm.S9
open Sem ClassFile Op Lib Jvm.Stand Jvm.Free Jvm.LawKit Jvm.RoadKit
def Str (Z : State) (h : Heap) (x t : Addr) (kb : ClassId) (cs : List Int32) : Prop :=
  Exa Z h x "java/lang/String" ∧ Fld Z h x "java/lang/String" "value" "[B" (.ref t) ∧ Fld Z h x "java/lang/String" "coder" "B" (.int 0) ∧ Arv Z h t kb .byte (Int32.ofNat cs.length) (cs.map fun c => Value.int (c.toInt8.toInt32)) (.int 0) ∧ (∀ c ∈ cs, ¬ c < 0 ∧ ¬ (255 : Int32) < c) ∧ cs.length ≤ 4000
theorem Str.keep {Z : State} {h h' : Heap} {x t : Addr} {kb : ClassId} {cs : List Int32} {ws : List Addr} (F : Str Z h x t kb cs) (K : Keep h h' ws) (q1 : x ∉ ws) (q2 : t ∉ ws) : Str Z h' x t kb cs :=
  ⟨F.1.keep K, F.2.1.keep K q1, F.2.2.1.keep K q1, F.2.2.2.1.keep K q2, F.2.2.2.2⟩
theorem Str.lt {Z : State} {h : Heap} {x t : Addr} {kb : ClassId} {cs : List Int32} (F : Str Z h x t kb cs) : x < h.size := F.1.lt
theorem Str.ltb {Z : State} {h : Heap} {x t : Addr} {kb : ClassId} {cs : List Int32} (F : Str Z h x t kb cs) : t < h.size := F.2.2.2.1.lt
end Jvm.S9
namespace Jvm.Y9
open Sem ClassFile Op Lib Jvm.Stand Jvm.Free Jvm.LawKit Jvm.RoadKit
section Base
variable {p : Program} {l : Launch} {e : Env} {R : Room} {s : State} {m : MethodId} {args : Array Value} {below : List Frame} {meth : Method} {c : Code} {T : State} {h : Heap} {n0 k n : Nat} {Z : State} {a0 : Array Value}
def On (p : Program) (l : Launch) (e : Env) (R : Room) (s : State) (m : MethodId) (args : Array Value) (below : List Frame) (meth : Method) (c : Code) (n0 : Nat) (T : State) (h : Heap) (k n : Nat) : Prop :=
  ∃ locs, Stand p l e R s m args below meth c T locs k n ∧ T.heap = h ∧ Fr n0 locs
def Aim (p : Program) (e : Env) (below : List Frame) (s : State) (CC SS n0 : Nat) (Q : Option Value → Heap → Prop) (T : State) (g : JFrame) : Prop :=
  ∃ s₂ o, Steps p.tables e below (T.setTop g) s₂ ∧ s₂.status = .running ∧ Ended s₂ below o ∧ ∃ v L, o = .returned v ∧ (Q v s₂.heap ∧ Fr n0 L) ∧ FrameEnd s o s₂ L CC SS
def Con (l : Launch) (Z : State) (y : MethodName) (bytes : ByteArray) (maxL : Nat) (ret : Option FieldType) (rm : Room) (n0 : Nat) (as' : Array Value) (h0 : Heap) (Q : Option Value → Heap → Prop) : Prop :=
  ∀ ws, MetFree l y (head1 (Cond.code y bytes maxL ret :: ws) rm) (fun a U => a = as' ∧ Z.Warmed39 U.vm ∧ U.heap = h0) (fun _ _ _ _ _ => True) (fun _ U o U' => ∃ v L, o = .returned v ∧ (Q v U'.heap ∧ Fr n0 L) ∧ FrameEnd U o U' L rm.cells rm.slots)
def Bk (l : Launch) (R : Room) (p : Program) (e : Env) (below : List Frame) (s : State) (sargs : Array Value) (y : MethodName) (len W : Nat) (as' : Array Value) (h : Heap) (dc ds n0 : Nat) (Q : Option Value → Heap → Prop) : Prop :=
  Back l R p e below s sargs y len W (fun A a => a = as' ∧ A.U.heap = h ∧ A.cells + dc ≤ R.cells ∧ A.slots + ds ≤ R.slots) (fun A _ v B => ∃ L, (Q v B.U.heap ∧ Fr n0 L) ∧ B.locs = A.locs ++ L ∧ B.cells = A.cells + dc ∧ B.slots = A.slots + ds)
variable {CC SS : Nat} {Q : Option Value → Heap → Prop}
theorem On.here (P : On p l e R s m args below meth c n0 T h k n) : At T m c below := by obtain ⟨_, X, -⟩ := P; exact X.here
theorem On.more {k' n' : Nat} (P : On p l e R s m args below meth c n0 T h k n) (hk : k ≤ k') (hn : n ≤ n') : On p l e R s m args below meth c n0 T h k' n' := by
  obtain ⟨L, X, r⟩ := P; exact ⟨L, X.more hk hn, r⟩
theorem Aim.of {T' : State} {g g' : JFrame} (st : ∀ t, Steps p.tables e below (T'.setTop g') t → Steps p.tables e below (T.setTop g) t) (a : Aim p e below s CC SS n0 Q T' g') : Aim p e below s CC SS n0 Q T g := by
  obtain ⟨s2, o, h1, r⟩ := a; exact ⟨s2, o, st _ h1, r⟩
theorem Aim.cast {g g' : JFrame} (q : g = g') (a : Aim p e below s CC SS n0 Q T g') : Aim p e below s CC SS n0 Q T g := q ▸ a
theorem Aim.imp {g : JFrame} {Q' : Option Value → Heap → Prop} (a : Aim p e below s CC SS n0 Q' T g) (q : ∀ v h, Q' v h → Q v h) : Aim p e below s CC SS n0 Q T g := by
  obtain ⟨s2, o, h1, h2, h3, v, L, h4, ⟨h5, h6⟩, h7⟩ := a; exact ⟨s2, o, h1, h2, h3, v, L, h4, ⟨q _ _ h5, h6⟩, h7⟩
theorem Con.imp {y : MethodName} {bytes : ByteArray} {maxL : Nat} {ret : Option FieldType} {rm : Room} {as' : Array Value} {Q' : Option Value → Heap → Prop} (a : Con l Z y bytes maxL ret rm n0 as' h Q') (q : ∀ v h, Q' v h → Q v h) : Con l Z y bytes maxL ret rm n0 as' h Q := by
  intro ws p e ha hc hk s m args below hf happ hP hK
  obtain ⟨nn, o, h1, h2, h3, v, L, h4, ⟨h5, h6⟩, h7⟩ := a ws p e ha hc hk s m args below hf happ hP hK
  exact ⟨nn, o, h1, h2, h3, v, L, h4, ⟨q _ _ h5, h6⟩, h7⟩
theorem Con.intro {y : MethodName} {bytes : ByteArray} {maxL : Nat} {ret : Option FieldType} {rm : Room} {as' : Array Value} (pl : plainFor y = true)
    (body : ∀ (p : Program) (e : Env) (s : State) (m : MethodId) (below : List Frame) (meth : Method) (c : Code) (s₁ : State), p.tables.exec = Jvm.exec → c.code = bytes → c.maxLocals = maxL → meth.sig.returnType = ret → meth.name = y.name → s.vm.findClass y.cls = some m.cls → meth.locks = false → Z.Warmed39 s.vm →
      On p l e rm s m as' below meth c n0 s₁ h 0 0 → Aim p e below s rm.cells rm.slots n0 Q s₁ (entryFrame m as' maxL)) : Con l Z y bytes maxL ret rm n0 as' h Q := by
  intro ws
  refine MetFree.of_bodySF pl hisR ?_
  intro p e s m args below meth c s₁ Bd hml0 hP hK
  obtain ⟨rfl, hZ, hh⟩ := hP
  have X0 : Stand p l e rm s m args below meth c s₁ [] 0 0 := Stand.of_body Bd
  obtain ⟨s2, o, h1, h2, h3, v, L, h4, h5, h6⟩ := body p e s m below meth c s₁ Bd.exec Bd.bytes hml0 Bd.returns (name_of_methodNamed Bd.named Bd.method).1 (findClass_of_methodNamed Bd.named) (BodyLoose.notSynchronized Bd) hZ ⟨[], X0, by rw [← hh, Bd.state]; rfl, Fr.nil n0⟩
  exact ⟨s2, o, h1, h2, h3, v, L, h4, h5, h6⟩
theorem Con.back {y : MethodName} {bytes : ByteArray} {maxL : Nat} {ret : Option FieldType} {rm : Room} {as' : Array Value} {len W : Nat} (hM : Con l Z y bytes maxL ret rm n0 as' h Q) (hZ : Z.Warmed39 s.vm) (wc : (Cond.code y bytes maxL ret).before a0 Z = true) (wz : (Cond.initialized y.cls).before a0 Z = true) (hf : rm.frames + 1 ≤ R.frames) (hl : W + (maxL + 11) + rm.locals ≤ R.locals) :
    Bk l R p e below s args y len W as' h rm.cells rm.slots n0 Q := backOf (Q := fun v h L => Q v h ∧ Fr n0 L) (hM []) hZ wc wz hf hl
theorem Bk.imp {y : MethodName} {len W dc ds : Nat} {as' : Array Value} {Q' : Option Value → Heap → Prop} (hK : Bk l R p e below s args y len W as' h dc ds n0 Q') (q : ∀ v h, Q' v h → Q v h) : Bk l R p e below s args y len W as' h dc ds n0 Q :=
  Back.mono hK (fun _ _ hp => hp) (fun _ _ _ _ _ ⟨L, ⟨h1, h2⟩, r⟩ => ⟨L, ⟨q _ _ h1, h2⟩, r⟩)
/-! the ways out -/
theorem Aim.retN {t : FieldType} {pc : Nat} {Ls : Array Slot} {z : Int32} {rest : List Value} (P : On p l e R s m args below meth c n0 T h k n) (hx : p.tables.exec = Jvm.exec) (hlk : meth.locks = false) (hret : meth.sig.returnType = some t) (ht : t = .boolean ∨ t = .byte ∨ t = .char ∨ t = .short) (hd : decode c.code pc = .ok (.ireturn, 1))
    (hk : k ≤ CC) (hn : n ≤ SS) (q : Q (some (.int (nar t z))) h) : Aim p e below s CC SS n0 Q T (mkF m pc Ls (.int z :: rest)) := by
  obtain ⟨L, X, eT, N⟩ := P
  obtain ⟨fs, hr, hrun, hended, hW, hsame⟩ := X.leave (v := some (.int (nar t z))) (fun h => by rw [hret] at h; cases h) hlk
  exact ⟨_, _, Jvm.RoadKit.retN X hx hret ht hd hr, hrun, hended, _, _, rfl, ⟨by show Q _ T.heap; rw [eT]; exact q, N⟩, ⟨_, rfl⟩, hW, hsame.mono hk hn⟩
theorem Aim.retW {t : FieldType} {i : Instr} {pc : Nat} {Ls : Array Slot} {w : Value} {rest : List Value} (P : On p l e R s m args below meth c n0 T h k n) (hx : p.tables.exec = Jvm.exec) (hlk : meth.locks = false) (hret : meth.sig.returnType = some t) (hn' : narrow t w = w)
    (hi : (i = .ireturn ∧ (t = .int ∨ t = .boolean ∨ t = .byte ∨ t = .char ∨ t = .short) ∧ ∃ z, w = .int z) ∨ (i = .lreturn ∧ t = .long ∧ ∃ z, w = .long z) ∨ (i = .dreturn ∧ t = .double ∧ ∃ z, w = .double z) ∨ (i = .freturn ∧ t = .float ∧ ∃ z, w = .float z) ∨ (i = .areturn ∧ t.isReference = true ∧ w.isRef = true)) (hd : decode c.code pc = .ok (i, 1))
    (hk : k ≤ CC) (hn : n ≤ SS) (q : Q (some w) h) : Aim p e below s CC SS n0 Q T (mkF m pc Ls (w :: rest)) := by
  obtain ⟨L, X, eT, N⟩ := P
  obtain ⟨fs, hr, hrun, hended, hW, hsame⟩ := X.leave (v := some w) (fun h => by rw [hret] at h; cases h) hlk
  exact ⟨_, _, Jvm.RoadKit.retOut X hx hret hn' hi hd hr, hrun, hended, _, _, rfl, ⟨by show Q _ T.heap; rw [eT]; exact q, N⟩, ⟨_, rfl⟩, hW, hsame.mono hk hn⟩
theorem Aim.retI {pc : Nat} {Ls : Array Slot} {z : Int32} {rest : List Value} (P : On p l e R s m args below meth c n0 T h k n) (hx : p.tables.exec = Jvm.exec) (hlk : meth.locks = false) (hret : meth.sig.returnType = some .int) (hd : decode c.code pc = .ok (.ireturn, 1))
    (hk : k ≤ CC) (hn : n ≤ SS) (q : Q (some (.int z)) h) : Aim p e below s CC SS n0 Q T (mkF m pc Ls (.int z :: rest)) := Aim.retW P hx hlk hret rfl (Or.inl ⟨rfl, Or.inl rfl, z, rfl⟩) hd hk hn q
theorem Aim.retJ {pc : Nat} {Ls : Array Slot} {z : Int64} {rest : List Value} (P : On p l e R s m args below meth c n0 T h k n) (hx : p.tables.exec = Jvm.exec) (hlk : meth.locks = false) (hret : meth.sig.returnType = some .long) (hd : decode c.code pc = .ok (.lreturn, 1))
    (hk : k ≤ CC) (hn : n ≤ SS) (q : Q (some (.long z)) h) : Aim p e below s CC SS n0 Q T (mkF m pc Ls (.long z :: rest)) := Aim.retW P hx hlk hret rfl (Or.inr (Or.inl ⟨rfl, rfl, z, rfl⟩)) hd hk hn q
theorem Aim.retA {t : FieldType} {pc : Nat} {Ls : Array Slot} {w : Value} {rest : List Value} (P : On p l e R s m args below meth c n0 T h k n) (hx : p.tables.exec = Jvm.exec) (hlk : meth.locks = false) (hret : meth.sig.returnType = some t) (ht : t.isReference = true) (hw : w.isRef = true) (hd : decode c.code pc = .ok (.areturn, 1))
    (hk : k ≤ CC) (hn : n ≤ SS) (q : Q (some w) h) : Aim p e below s CC SS n0 Q T (mkF m pc Ls (w :: rest)) := by
  have hn' : narrow t w = w := by cases t <;> cases w <;> first | rfl | (cases ht; done) | (cases hw; done)
  exact Aim.retW P hx hlk hret hn' (Or.inr (Or.inr (Or.inr (Or.inr ⟨rfl, ht, hw⟩)))) hd hk hn q
theorem Aim.retV {pc : Nat} {Ls : Array Slot} (P : On p l e R s m args below meth c n0 T h k n) (hx : p.tables.exec = Jvm.exec) (hlk : meth.locks = false) (hret : meth.sig.returnType = none) (hd : decode c.code pc = .ok (.return_, 1))
    (hk : k ≤ CC) (hn : n ≤ SS) (q : Q none h) : Aim p e below s CC SS n0 Q T (mkF m pc Ls []) := by
  obtain ⟨L, X, eT, N⟩ := P
  obtain ⟨fs, hr, hrun, hended, hW, hsame⟩ := X.leave (v := none) (fun _ => rfl) hlk
  exact ⟨_, _, X.returnOut hx hret hd hr, hrun, hended, _, _, rfl, ⟨by show Q _ T.heap; rw [eT]; exact q, N⟩, ⟨_, rfl⟩, hW, hsame.mono hk hn⟩
/-! steps that meet the heap -/
theorem Aim.newO {own C : String} {index nn pc : Nat} {Ls : Array Slot} {st : List Value} (P : On p l e R s m args below meth c n0 T h k n) (hx : p.tables.exec = Jvm.exec) (hZ : Z.Warmed39 s.vm) (hown : s.vm.findClass own = some m.cls) (w : (Cond.classLink own index C).before a0 Z = true) (wi : (Cond.instantiable C nn).before a0 Z = true) (wz : (Cond.initialized C).before a0 Z = true)
    (hd : decode c.code pc = .ok (.new index, 3)) (hc : k + 1 ≤ R.cells) (hl : n + nn ≤ R.slots)
    (cont : ∀ T' h' b, b = h.size → On p l e R s m args below meth c n0 T' h' (k + 1) (n + nn) → Ext h h' → Exa Z h' b C → (∀ {O nm d : String} {ty : FieldType}, Laid Z a0 C O nm d → parseFieldDescriptor d = some ty → Fld Z h' b O nm d (defaultValue ty)) → Unt h' b → Aim p e below s CC SS n0 Q T' (mkF m (pc + 3) Ls (.ref b :: st))) :
    Aim p e below s CC SS n0 Q T (mkF m pc Ls st) := by
  obtain ⟨L, X, eT, N⟩ := P
  obtain ⟨T', h', X', e', E, A, D, U, st'⟩ := RoadKit.newO X hx hZ hown w wi wz eT (g := mkF m pc Ls st) rfl hd hc hl
  exact Aim.of st' (cont T' h' _ rfl ⟨L, X', e', N⟩ E A D U)
theorem Aim.newP {aty : ArrayType} {pc : Nat} {Ls : Array Slot} {z : Int32} {st : List Value} (P : On p l e R s m args below meth c n0 T h k n) (hx : p.tables.exec = Jvm.exec) (hZ : Z.Warmed39 s.vm) (w : (Cond.arrayClass (newarray.typeOf aty)).before a0 Z = true) (hd : decode c.code pc = .ok (.newarray aty, 2))
    (hz : ¬ z < 0) {cap : Nat} (hcap : z.toNatClampNeg ≤ cap) (hb : cap * 8 ≤ 536870912) (hc : k + 1 ≤ R.cells) (hl : n + cap ≤ R.slots)
    (cont : ∀ T' h' kk b, b = h.size → On p l e R s m args below meth c n0 T' h' (k + 1) (n + cap) → Ext h h' → Arv Z h' b kk (newarray.typeOf aty) z [] (defaultValue (newarray.typeOf aty)) → Aim p e below s CC SS n0 Q T' (mkF m (pc + 2) Ls (.ref b :: st))) :
    Aim p e below s CC SS n0 Q T (mkF m pc Ls (.int z :: st)) := by
  obtain ⟨L, X, eT, N⟩ := P
  obtain ⟨T', h', kk, X', e', E, A, st'⟩ := RoadKit.newP X hx hZ w eT (g := mkF m pc Ls (.int z :: st)) rfl hd rfl hz hcap hb hc hl
  exact Aim.of st' (cont T' h' kk _ rfl ⟨L, X', e', N⟩ E (Arv.new A hz))
theorem Aim.newR {own C : String} {index pc : Nat} {Ls : Array Slot} {z : Int32} {st : List Value} (P : On p l e R s m args below meth c n0 T h k n) (hx : p.tables.exec = Jvm.exec) (hZ : Z.Warmed39 s.vm) (hown : s.vm.findClass own = some m.cls) (w1 : (Cond.classLink own index C).before a0 Z = true) (w2 : (Cond.arrayOver (.object C)).before a0 Z = true) (hd : decode c.code pc = .ok (.anewarray index, 3))
    (hz : ¬ z < 0) {cap : Nat} (hcap : z.toNatClampNeg ≤ cap) (hb : cap * 8 ≤ 536870912) (hc : k + 1 ≤ R.cells) (hl : n + cap ≤ R.slots)
    (cont : ∀ T' h' kk b, b = h.size → On p l e R s m args below meth c n0 T' h' (k + 1) (n + cap) → Ext h h' → Arv Z h' b kk (.object C) z [] .null → Ovr Z kk C → Aim p e below s CC SS n0 Q T' (mkF m (pc + 3) Ls (.ref b :: st))) :
    Aim p e below s CC SS n0 Q T (mkF m pc Ls (.int z :: st)) := by
  obtain ⟨L, X, eT, N⟩ := P
  obtain ⟨T', h', kk, X', e', E, A, O, st'⟩ := RoadKit.newR X hx hZ hown w1 w2 eT (g := mkF m pc Ls (.int z :: st)) rfl hd rfl hz hcap hb hc hl
  exact Aim.of st' (cont T' h' kk _ rfl ⟨L, X', e', N⟩ E (Arv.new A hz) O)
theorem Aim.getF {own R0 O f d host : String} {index pc : Nat} {Ls : Array Slot} {st : List Value} {a : Addr} {v : Value} (P : On p l e R s m args below meth c n0 T h k n) (hx : p.tables.exec = Jvm.exec) (hZ : Z.Warmed39 s.vm) (hown : s.vm.findClass own = some m.cls) (w : (Cond.fieldLink own index R0 f d).before a0 Z = true ∨ (Cond.fieldLinkNest own index R0 f d host).before a0 Z = true) (via : Via Z R0 O f d)
    (F : Fld Z h a O f d v) (hd : decode c.code pc = .ok (.getfield index, 3)) (cont : ∀ T', On p l e R s m args below meth c n0 T' h k n → Aim p e below s CC SS n0 Q T' (mkF m (pc + 3) Ls (v :: st))) :
    Aim p e below s CC SS n0 Q T (mkF m pc Ls (.ref a :: st)) := by
  obtain ⟨L, X, eT, N⟩ := P
  obtain ⟨T', X', e', st'⟩ := RoadKit.getF X hx hZ hown w via eT F (g := mkF m pc Ls (.ref a :: st)) rfl rfl hd
  exact Aim.of st' (cont T' ⟨L, X', e', N⟩)
theorem Aim.getS {own R0 O f d : String} {index pc : Nat} {Ls : Array Slot} {st : List Value} {v : Value} (P : On p l e R s m args below meth c n0 T h k n) (hx : p.tables.exec = Jvm.exec) (hZ : Z.Warmed39 s.vm) (hown : s.vm.findClass own = some m.cls) (w : (Cond.fieldLink own index R0 f d).before a0 Z = true) (via : Via Z R0 O f d)
    (F : Sta Z h O f d v) (hd : decode c.code pc = .ok (.getstatic index, 3)) (cont : ∀ T', On p l e R s m args below meth c n0 T' h k n → Aim p e below s CC SS n0 Q T' (mkF m (pc + 3) Ls (v :: st))) :
    Aim p e below s CC SS n0 Q T (mkF m pc Ls st) := by
  obtain ⟨L, X, eT, N⟩ := P
  obtain ⟨T', X', e', st'⟩ := RoadKit.getS (host := "") X hx hZ hown w via eT F (g := mkF m pc Ls st) rfl hd
  exact Aim.of st' (cont T' ⟨L, X', e', N⟩)
theorem Aim.getS2 {own R0 O f d host : String} {index pc : Nat} {Ls : Array Slot} {st : List Value} {v : Value} (P : On p l e R s m args below meth c n0 T h k n) (hx : p.tables.exec = Jvm.exec) (hZ : Z.Warmed39 s.vm) (hown : s.vm.findClass own = some m.cls) (w : (Cond.fieldLink own index R0 f d).before a0 Z = true ∨ (Cond.fieldLinkNest own index R0 f d host).before a0 Z = true) (via : Via Z R0 O f d)
    (F : Sta Z h O f d v) (hd : decode c.code pc = .ok (.getstatic index, 3)) (cont : ∀ T', On p l e R s m args below meth c n0 T' h k n → Aim p e below s CC SS n0 Q T' (mkF m (pc + 3) Ls (v :: st))) :
    Aim p e below s CC SS n0 Q T (mkF m pc Ls st) := by
  obtain ⟨L, X, eT, N⟩ := P
  obtain ⟨T', X', e', st'⟩ := RoadKit.getS2 X hx hZ hown w via eT F (g := mkF m pc Ls st) rfl hd
  exact Aim.of st' (cont T' ⟨L, X', e', N⟩)
theorem Aim.putF {own R0 O f d host C : String} {index kk pc : Nat} {ty : FieldType} {Ls : Array Slot} {st : List Value} {a : Addr} {v old : Value} (P : On p l e R s m args below meth c n0 T h k n) (hx : p.tables.exec = Jvm.exec) (hZ : Z.Warmed39 s.vm) (hown : s.vm.findClass own = some m.cls) (w : (Cond.fieldLink own index R0 f d).before a0 Z = true ∨ (Cond.fieldLinkNest own index R0 f d host).before a0 Z = true) (via : Via Z R0 O f d)
    (F : Fld Z h a O f d old) (E : Exa Z h a C) (hL : (Cond.lays C O f d).before a0 Z = true ∨ ((Cond.laysFinal C O f d).before a0 Z = true ∧ own = O ∧ meth.name = "<init>")) (wi : (Cond.instantiable C kk).before a0 Z = true)
    (hty : parseFieldDescriptor d = some ty) (hn : narrow ty v = v) (hf : fits ty v = true) (hd : decode c.code pc = .ok (.putfield index, 3)) (ga : n0 ≤ a)
    (cont : ∀ T' h', On p l e R s m args below meth c n0 T' h' k n → Wr h h' a (Jvm.RoadKit.slotOf Z O f d) v → Aim p e below s CC SS n0 Q T' (mkF m (pc + 3) Ls st)) :
    Aim p e below s CC SS n0 Q T (mkF m pc Ls (v :: .ref a :: st)) := by
  obtain ⟨L, X, eT, N⟩ := P
  obtain ⟨T', h', X', e', W, st'⟩ := RoadKit.putF X hx hZ hown w via eT F E hL wi hty hn hf (g := mkF m pc Ls (v :: .ref a :: st)) rfl rfl hd
  exact Aim.of st' (cont T' h' ⟨_, X', e', Fr.snoc X' N ga⟩ W)
theorem Aim.stC {pc : Nat} {Ls : Array Slot} {st : List Value} {a : Addr} {kk : ClassId} {j x z : Int32} {vs : List Value} {dv : Value} (P : On p l e R s m args below meth c n0 T h k n) (hx : p.tables.exec = Jvm.exec) (hZ : Z.Warmed39 s.vm) (V : Arv Z h a kk .char z vs dv) (hj : ¬ j < 0 ∧ j < z) (i : Nat) (hi : j.toNatClampNeg = i) (hv : i < vs.length)
    (hd : decode c.code pc = .ok (.castore, 1)) (ga : n0 ≤ a) (cont : ∀ T' h', On p l e R s m args below meth c n0 T' h' k n → Keep h h' [a] → Arv Z h' a kk .char z (vs.set i (.int (nar .char x))) dv → Aim p e below s CC SS n0 Q T' (mkF m (pc + 1) Ls st)) :
    Aim p e below s CC SS n0 Q T (mkF m pc Ls (.int x :: .int j :: .ref a :: st)) := by
  obtain ⟨L, X, eT, N⟩ := P
  obtain ⟨cl, A, q, S, M, H, U⟩ := V
  obtain ⟨T', h', X', e', W, st'⟩ := RoadKit.stC X hx hZ eT A (j := j) (inb_of S hj) (g := mkF m pc Ls (.int x :: .int j :: .ref a :: st)) rfl rfl hd
  exact Aim.of st' (cont T' h' ⟨_, X', e', Fr.snoc X' N ga⟩ (Keep.of_wr W) (Arv.set A q S M H U (fits_nar_char _) W i hi hv))
theorem Aim.stB {pc : Nat} {Ls : Array Slot} {st : List Value} {a : Addr} {kk : ClassId} {j x z : Int32} {vs : List Value} {dv : Value} (P : On p l e R s m args below meth c n0 T h k n) (hx : p.tables.exec = Jvm.exec) (hZ : Z.Warmed39 s.vm) (V : Arv Z h a kk .byte z vs dv) (hj : ¬ j < 0 ∧ j < z) (i : Nat) (hi : j.toNatClampNeg = i) (hv : i < vs.length)
    (hd : decode c.code pc = .ok (.bastore, 1)) (ga : n0 ≤ a) (cont : ∀ T' h', On p l e R s m args below meth c n0 T' h' k n → Keep h h' [a] → Arv Z h' a kk .byte z (vs.set i (.int x.toInt8.toInt32)) dv → Aim p e below s CC SS n0 Q T' (mkF m (pc + 1) Ls st)) :
    Aim p e below s CC SS n0 Q T (mkF m pc Ls (.int x :: .int j :: .ref a :: st)) := by
  obtain ⟨L, X, eT, N⟩ := P
  obtain ⟨cl, A, q, S, M, H, U⟩ := V
  obtain ⟨T', h', X', e', W, st'⟩ := RoadKit.stB X hx hZ eT A (j := j) (inb_of S hj) (g := mkF m pc Ls (.int x :: .int j :: .ref a :: st)) rfl rfl hd
  exact Aim.of st' (cont T' h' ⟨_, X', e', Fr.snoc X' N ga⟩ (Keep.of_wr W) (Arv.set A q S M H U (fits_nar_byte _) W i hi hv))
theorem Aim.alen {pc : Nat} {Ls : Array Slot} {st : List Value} {a : Addr} {kk : ClassId} {ty : FieldType} {z : Int32} {vs : List Value} {dv : Value} (P : On p l e R s m args below meth c n0 T h k n) (hx : p.tables.exec = Jvm.exec) (hZ : Z.Warmed39 s.vm) (V : Arv Z h a kk ty z vs dv)
    (hd : decode c.code pc = .ok (.arraylength, 1)) (cont : Aim p e below s CC SS n0 Q T (mkF m (pc + 1) Ls (.int z :: st))) : Aim p e below s CC SS n0 Q T (mkF m pc Ls (.ref a :: st)) := by
  obtain ⟨L, X, eT, N⟩ := P
  obtain ⟨cl, A, q, S, M, H, U⟩ := V
  refine Aim.of (fun t kt => X.arraylength hx (by rw [eT]; exact A.1) (State.isArrayOf_alike hZ.alike A.2.1) (g := mkF m pc Ls (.ref a :: st)) rfl rfl hd t ?_) cont
  rw [len_of S M]; exact kt
theorem Aim.ldC {pc : Nat} {Ls : Array Slot} {st : List Value} {a : Addr} {kk : ClassId} {j z : Int32} {vs : List Value} {dv v : Value} (P : On p l e R s m args below meth c n0 T h k n) (hx : p.tables.exec = Jvm.exec) (hZ : Z.Warmed39 s.vm) (V : Arv Z h a kk .char z vs dv) (hj : ¬ j < 0 ∧ j < z) (hv : vs.getD j.toNatClampNeg dv = v)
    (hd : decode c.code pc = .ok (.caload, 1)) (cont : Aim p e below s CC SS n0 Q T (mkF m (pc + 1) Ls (v :: st))) : Aim p e below s CC SS n0 Q T (mkF m pc Ls (.int j :: .ref a :: st)) := by
  obtain ⟨L, X, eT, N⟩ := P
  obtain ⟨cl, A, q, S, M, H, U⟩ := V
  exact Aim.of (fun t kt => X.caload hx (j := j) (v := v) (by rw [eT]; exact A.1) (State.isArrayOf_alike hZ.alike A.2.1) A.2.2 (inb_of S hj) (H.at (inb_of S hj) hv) (g := mkF m pc Ls (.int j :: .ref a :: st)) rfl rfl hd t kt) cont
theorem Aim.ldB {pc : Nat} {Ls : Array Slot} {st : List Value} {a : Addr} {kk : ClassId} {j z : Int32} {vs : List Value} {dv v : Value} (P : On p l e R s m args below meth c n0 T h k n) (hx : p.tables.exec = Jvm.exec) (hZ : Z.Warmed39 s.vm) (V : Arv Z h a kk .byte z vs dv) (hj : ¬ j < 0 ∧ j < z) (hv : vs.getD j.toNatClampNeg dv = v)
    (hd : decode c.code pc = .ok (.baload, 1)) (cont : Aim p e below s CC SS n0 Q T (mkF m (pc + 1) Ls (v :: st))) : Aim p e below s CC SS n0 Q T (mkF m pc Ls (.int j :: .ref a :: st)) := by
  obtain ⟨L, X, eT, N⟩ := P
  obtain ⟨cl, A, q, S, M, H, U⟩ := V
  exact Aim.of (fun t kt => X.baloadBytes hx (j := j) (v := v) (by rw [eT]; exact A.1) (State.isArrayOf_alike hZ.alike A.2.1) A.2.2 (inb_of S hj) (H.at (inb_of S hj) hv) (g := mkF m pc Ls (.int j :: .ref a :: st)) rfl rfl hd t kt) cont
theorem Aim.initO {own : String} {index pc mx : Nat} {Ls : Array Slot} {st : List Value} {a : Addr} (P : On p l e R s m args below meth c n0 T h k n) (hx : p.tables.exec = Jvm.exec) (hZ : Z.Warmed39 s.vm) (hml : c.maxLocals = mx) (hown : s.vm.findClass own = some m.cls) (w1 : (Cond.methodLink own index Lib.objectInit).before a0 Z = true) (w2 : (Cond.instanceMethod Lib.objectInit).before a0 Z = true)
    (w3 : (Cond.code Lib.objectInit ⟨#[0xb1]⟩ 1 none).before a0 Z = true) (hsz : Ls.size = mx) (hd : decode c.code pc = .ok (.invokespecial index, 3)) (hf : 1 ≤ R.frames) (hl : (st.map fun v => v.category).sum + 12 ≤ R.locals)
    (cont : ∀ T', On p l e R s m args below meth c n0 T' h k n → Aim p e below s CC SS n0 Q T' (mkF m (pc + 3) Ls st)) : Aim p e below s CC SS n0 Q T (mkF m pc Ls (.ref a :: st)) := by
  obtain ⟨L, X, eT, N⟩ := P
  obtain ⟨T', X', e', st'⟩ := RoadKit.initO X hx hZ hown w1 w2 w3 eT (g := mkF m pc Ls (.ref a :: st)) rfl (by rw [hml]; exact hsz) rfl hd hf (W := (st.map fun v => v.category).sum) (by show 2 * 0 + _ ≤ _; omega) hl
  exact Aim.of st' (cont T' ⟨L, X', e', N⟩)
theorem Aim.castY {own K : String} {index pc : Nat} {Ls : Array Slot} {st : List Value} {a : Addr} (P : On p l e R s m args below meth c n0 T h k n) (hx : p.tables.exec = Jvm.exec) (hZ : Z.Warmed39 s.vm) (hown : s.vm.findClass own = some m.cls) (w : (Cond.classLink own index K).before a0 Z = true) (F : Ins Z h a K true) (hd : decode c.code pc = .ok (.checkcast index, 3))
    (cont : ∀ T', On p l e R s m args below meth c n0 T' h k n → Aim p e below s CC SS n0 Q T' (mkF m (pc + 3) Ls (.ref a :: st))) : Aim p e below s CC SS n0 Q T (mkF m pc Ls (.ref a :: st)) := by
  obtain ⟨L, X, eT, N⟩ := P
  obtain ⟨T', X', e', st'⟩ := RoadKit.castY X hx hZ hown w eT F (g := mkF m pc Ls (.ref a :: st)) rfl rfl hd
  exact Aim.of st' (cont T' ⟨L, X', e', N⟩)
theorem Aim.instY {own K : String} {index pc : Nat} {Ls : Array Slot} {st : List Value} {a : Addr} (P : On p l e R s m args below meth c n0 T h k n) (hx : p.tables.exec = Jvm.exec) (hZ : Z.Warmed39 s.vm) (hown : s.vm.findClass own = some m.cls) (w : (Cond.classLink own index K).before a0 Z = true) (F : Ins Z h a K true) (hd : decode c.code pc = .ok (.instanceof index, 3))
    (cont : ∀ T', On p l e R s m args below meth c n0 T' h k n → Aim p e below s CC SS n0 Q T' (mkF m (pc + 3) Ls (.int 1 :: st))) : Aim p e below s CC SS n0 Q T (mkF m pc Ls (.ref a :: st)) := by
  obtain ⟨L, X, eT, N⟩ := P
  obtain ⟨T', X', e', st'⟩ := RoadKit.instY X hx hZ hown w eT F (g := mkF m pc Ls (.ref a :: st)) rfl rfl hd
  exact Aim.of st' (cont T' ⟨L, X', e', N⟩)
theorem Aim.ldcI {own : String} {index pc : Nat} {Ls : Array Slot} {st : List Value} {v : Int32} (P : On p l e R s m args below meth c n0 T h k n) (hx : p.tables.exec = Jvm.exec) (hZ : Z.Warmed39 s.vm) (hown : s.vm.findClass own = some m.cls) (w : (Cond.constant own index v).before a0 Z = true) (hd : decode c.code pc = .ok (.ldc index, 2))
    (cont : Aim p e below s CC SS n0 Q T (mkF m (pc + 2) Ls (.int v :: st))) : Aim p e below s CC SS n0 Q T (mkF m pc Ls st) := by
  obtain ⟨L, X, eT, N⟩ := P
  exact Aim.of (fun t kt => X.ldcInt hx hown (mvT hZ w) (g := mkF m pc Ls st) rfl hd t kt) cont
theorem own_irem {tb : Tables} [Ours tb] {e : Env} {below : List Frame} {T target : State} {m : MethodId} {c : Code} {g : JFrame} (h : At T m c below) (hx : tb.exec = Jvm.exec) (hg : g.method = m) {x y : Int32} {rest : List Value} (hd : decode c.code g.pc = .ok (.irem, 1)) (hs : g.stack = .int y :: .int x :: rest) (hy : y ≠ 0)
    (hr : Steps tb e below (T.setTop { g with pc := g.pc + 1, stack := .int (x % y) :: rest }) target) : Steps tb e below (T.setTop g) target := by
  have q : x - x / y * y = x % y := irem_eq_mod x y
  exact XS.irem h hx hg hd hs hy (by rw [q]; exact hr)
theorem Aim.ldcwI {own : String} {index pc : Nat} {Ls : Array Slot} {st : List Value} {v : Int32} (P : On p l e R s m args below meth c n0 T h k n) (hx : p.tables.exec = Jvm.exec) (hZ : Z.Warmed39 s.vm) (hown : s.vm.findClass own = some m.cls) (w : (Cond.constant own index v).before a0 Z = true) (hd : decode c.code pc = .ok (.ldc_w index, 3))
    (cont : Aim p e below s CC SS n0 Q T (mkF m (pc + 3) Ls (.int v :: st))) : Aim p e below s CC SS n0 Q T (mkF m pc Ls st) := by
  obtain ⟨L, X, eT, N⟩ := P
  exact Aim.of (fun t kt => X.ldcwInt hx hown (mvT hZ w) (g := mkF m pc Ls st) rfl hd t kt) cont
theorem Aim.ldcJ {own : String} {index pc : Nat} {Ls : Array Slot} {st : List Value} {v : Int64} (P : On p l e R s m args below meth c n0 T h k n) (hx : p.tables.exec = Jvm.exec) (hZ : Z.Warmed39 s.vm) (hown : s.vm.findClass own = some m.cls) (w : (Cond.constantLong own index v).before a0 Z = true) (hd : decode c.code pc = .ok (.ldc2_w index, 3))
    (cont : Aim p e below s CC SS n0 Q T (mkF m (pc + 3) Ls (.long v :: st))) : Aim p e below s CC SS n0 Q T (mkF m pc Ls st) := by
  obtain ⟨L, X, eT, N⟩ := P
  exact Aim.of (fun t kt => X.ldc2Long hx hown (mvT hZ w) (g := mkF m pc Ls st) rfl hd t kt) cont
theorem Aim.instNull {index pc : Nat} {Ls : Array Slot} {st : List Value} (P : On p l e R s m args below meth c n0 T h k n) (hx : p.tables.exec = Jvm.exec) (hd : decode c.code pc = .ok (.instanceof index, 3))
    (cont : Aim p e below s CC SS n0 Q T (mkF m (pc + 3) Ls (.int 0 :: st))) : Aim p e below s CC SS n0 Q T (mkF m pc Ls (.null :: st)) := by
  obtain ⟨L, X, eT, N⟩ := P
  exact Aim.of (fun t kt => X.instanceofNull hx (g := mkF m pc Ls (.null :: st)) rfl rfl hd t kt) cont
theorem Aim.castNull {index pc : Nat} {Ls : Array Slot} {st : List Value} (P : On p l e R s m args below meth c n0 T h k n) (hx : p.tables.exec = Jvm.exec) (hd : decode c.code pc = .ok (.checkcast index, 3))
    (cont : Aim p e below s CC SS n0 Q T (mkF m (pc + 3) Ls (.null :: st))) : Aim p e below s CC SS n0 Q T (mkF m pc Ls (.null :: st)) := by
  obtain ⟨L, X, eT, N⟩ := P
  exact Aim.of (fun t kt => X.checkcastNull hx (g := mkF m pc Ls (.null :: st)) rfl rfl hd t kt) cont
/-! calls -/
theorem Aim.callS {own : String} {index pc mx maxL dc ds W : Nat} {y : MethodName} {bytes : ByteArray} {ret : Option FieldType} {ps : List FieldType} {r : Option FieldType} {Ls : Array Slot} {argsL rest : List Value} {Q' : Option Value → Heap → Prop} (P : On p l e R s m args below meth c n0 T h k n) (hx : p.tables.exec = Jvm.exec) (hZ : Z.Warmed39 s.vm) (hml : c.maxLocals = mx) (hown : s.vm.findClass own = some m.cls)
    (w1 : (Cond.methodLink own index y).before a0 Z = true) (w2 : (Cond.static y).before a0 Z = true) (w3 : (Cond.initialized y.cls).before a0 Z = true) (w4 : (Cond.code y bytes maxL ret).before a0 Z = true) (hy : y.cls ≠ "java/lang/invoke/MethodHandle" ∧ y.cls ≠ "java/lang/invoke/VarHandle")
    (hK : Bk l R p e below s args y 3 W argsL.toArray h dc ds n0 Q') (hsz : Ls.size = mx) (hpd : parseMethodDescriptor y.desc = some ⟨ps, r⟩) (hln : argsL.length = ps.length) (hW : (rest.map fun v => v.category).sum ≤ W) (hd : decode c.code pc = .ok (.invokestatic index, 3)) (hc : k + dc ≤ R.cells) (hs : n + ds ≤ R.slots)
    (cont : ∀ T' h' v, On p l e R s m args below meth c n0 T' h' (k + dc) (n + ds) → Q' v h' → Aim p e below s CC SS n0 Q T' (mkF m (pc + 3) Ls (v.toList ++ rest))) : Aim p e below s CC SS n0 Q T (mkF m pc Ls (argsL.reverse ++ rest)) := by
  obtain ⟨L, X, eT, N⟩ := P
  obtain ⟨v, vm1, ⟨T', L', k', n'⟩, -, X', ⟨Lc, ⟨hq, N'⟩, l', y', z'⟩, st'⟩ := Jvm.LawKit.callS X hx (y := y) hown (mvT hZ w1) (mvT hZ w2) (mvT hZ w3) (mvT hZ w4) hy hK (g := mkF m pc Ls (argsL.reverse ++ rest)) rfl (by rw [hml]; exact hsz) (argsL := argsL) (rest := rest) (lenOf hpd hln) rfl (by show 2 * 0 + _ ≤ _; omega) hd (fun _ _ => ⟨rfl, eT, hc, hs⟩)
  dsimp only [Pt.U, Pt.locs, Pt.cells, Pt.slots] at X' l' y' z' st' hq
  subst l' y' z'
  exact Aim.of st' (cont T' _ v ⟨_, X', rfl, N.app N'⟩ hq)
theorem Aim.callC {own : String} {index pc mx maxL dc ds W : Nat} {y : MethodName} {bytes : ByteArray} {ps : List FieldType} {r : Option FieldType} {Ls : Array Slot} {a : Addr} {argsL rest : List Value} {Q' : Option Value → Heap → Prop} (P : On p l e R s m args below meth c n0 T h k n) (hx : p.tables.exec = Jvm.exec) (hZ : Z.Warmed39 s.vm) (hml : c.maxLocals = mx) (hown : s.vm.findClass own = some m.cls)
    (hy1 : y.name = "<init>") (w1 : (Cond.methodLink own index y).before a0 Z = true) (w2 : (Cond.instanceMethod y).before a0 Z = true) (w4 : (Cond.code y bytes maxL none).before a0 Z = true) (hy : y.cls ≠ "java/lang/invoke/MethodHandle" ∧ y.cls ≠ "java/lang/invoke/VarHandle")
    (hK : Bk l R p e below s args y 3 W (.ref a :: argsL).toArray h dc ds n0 Q') (hsz : Ls.size = mx) (hpd : parseMethodDescriptor y.desc = some ⟨ps, r⟩) (hln : argsL.length = ps.length) (hW : (rest.map fun v => v.category).sum ≤ W) (hd : decode c.code pc = .ok (.invokespecial index, 3)) (hc : k + dc ≤ R.cells) (hs : n + ds ≤ R.slots)
    (cont : ∀ T' h' v, On p l e R s m args below meth c n0 T' h' (k + dc) (n + ds) → Q' v h' → Aim p e below s CC SS n0 Q T' (mkF m (pc + 3) Ls (v.toList ++ rest))) : Aim p e below s CC SS n0 Q T (mkF m pc Ls (argsL.reverse ++ .ref a :: rest)) := by
  obtain ⟨L, X, eT, N⟩ := P
  obtain ⟨v, vm1, ⟨T', L', k', n'⟩, -, X', ⟨Lc, ⟨hq, N'⟩, l', y', z'⟩, st'⟩ := X.specialBack hx (y := y) hy1 hown (mvT hZ w1) (mvT hZ w2) (mvT hZ w4) hy hK (g := mkF m pc Ls (argsL.reverse ++ .ref a :: rest)) rfl (by rw [hml]; exact hsz) (Steps.refl _) (a := a) (argsL := argsL) (rest := rest) (lenOf hpd hln) rfl (by show 2 * 0 + _ ≤ _; omega) hd (fun _ _ => ⟨rfl, eT, hc, hs⟩)
  dsimp only [Pt.U, Pt.locs, Pt.cells, Pt.slots] at X' l' y' z' st' hq
  subst l' y' z'
  exact Aim.of (fun t kt => st'.trans kt) (cont T' _ v ⟨_, X', rfl, N.app N'⟩ hq)
theorem Aim.callV {own C : String} {index pc mx dc ds W : Nat} {y z : MethodName} {ps : List FieldType} {r : Option FieldType} {Ls : Array Slot} {a : Addr} {argsL rest : List Value} {Q' : Option Value → Heap → Prop} (P : On p l e R s m args below meth c n0 T h k n) (hx : p.tables.exec = Jvm.exec) (hZ : Z.Warmed39 s.vm) (hml : c.maxLocals = mx) (hown : s.vm.findClass own = some m.cls)
    (w1 : (Cond.methodLink own index y).before a0 Z = true) (w2 : (Cond.declares y).before a0 Z = true) (nf : NotFace s y) (w3 : (Cond.selects C y z).before a0 Z = true) (w4 : (Cond.instanceMethod z).before a0 Z = true) (hy : y.cls ≠ "java/lang/invoke/MethodHandle" ∧ y.cls ≠ "java/lang/invoke/VarHandle") (E : Exa Z h a C)
    (hK : Bk l R p e below s args z 3 W (.ref a :: argsL).toArray h dc ds n0 Q') (hsz : Ls.size = mx) (hpd : parseMethodDescriptor y.desc = some ⟨ps, r⟩) (hln : argsL.length = ps.length) (hW : (rest.map fun v => v.category).sum ≤ W) (hd : decode c.code pc = .ok (.invokevirtual index, 3)) (hc : k + dc ≤ R.cells) (hs : n + ds ≤ R.slots)
    (cont : ∀ T' h' v, On p l e R s m args below meth c n0 T' h' (k + dc) (n + ds) → Q' v h' → Aim p e below s CC SS n0 Q T' (mkF m (pc + 3) Ls (v.toList ++ rest))) : Aim p e below s CC SS n0 Q T (mkF m pc Ls (argsL.reverse ++ .ref a :: rest)) := by
  obtain ⟨L, X, eT, N⟩ := P
  obtain ⟨cq, kq, qa, qb, qc⟩ := isOf hZ eT E
  obtain ⟨v, vm1, ⟨T', L', k', n'⟩, -, X', ⟨Lc, ⟨hq, N'⟩, l', y', z'⟩, st'⟩ := X.virtualBack hx (y := y) (z := z) hown (mvT hZ w1) (mvT hZ w2) nf (mvT hZ w3) (mvT hZ w4) hy hK qa qc (g := mkF m pc Ls (argsL.reverse ++ .ref a :: rest)) rfl (by rw [hml]; exact hsz) (Steps.refl _) (argsL := argsL) (rest := rest) (lenOf hpd hln) rfl (by show 2 * 0 + _ ≤ _; omega) hd (fun _ _ => ⟨rfl, eT, hc, hs⟩)
  dsimp only [Pt.U, Pt.locs, Pt.cells, Pt.slots] at X' l' y' z' st' hq
  subst l' y' z'
  exact Aim.of (fun t kt => st'.trans kt) (cont T' _ v ⟨_, X', rfl, N.app N'⟩ hq)
theorem Aim.callI {own C : String} {index count pc mx dc ds W : Nat} {y z : MethodName} {ps : List FieldType} {r : Option FieldType} {Ls : Array Slot} {a : Addr} {argsL rest : List Value} {Q' : Option Value → Heap → Prop} (P : On p l e R s m args below meth c n0 T h k n) (hx : p.tables.exec = Jvm.exec) (hZ : Z.Warmed39 s.vm) (hml : c.maxLocals = mx) (hown : s.vm.findClass own = some m.cls)
    (w1 : (Cond.methodLink own index y).before a0 Z = true) (w2 : (Cond.declares y).before a0 Z = true) (w5 : (Cond.interfaceMethod y.cls y.cls y.name y.desc).before a0 Z = true) (w3 : (Cond.selects C y z).before a0 Z = true) (w4 : (Cond.instanceMethod z).before a0 Z = true) (w6 : (Cond.publicMethod z).before a0 Z = true) (w7 : (Cond.unhidden C y.name y.desc).before a0 Z = true) (w8 : (Cond.castable C y.cls).before a0 Z = true)
    (hy : y.cls ≠ "java/lang/invoke/MethodHandle" ∧ y.cls ≠ "java/lang/invoke/VarHandle") (E : Exa Z h a C)
    (hK : Bk l R p e below s args z 5 W (.ref a :: argsL).toArray h dc ds n0 Q') (hsz : Ls.size = mx) (hpd : parseMethodDescriptor y.desc = some ⟨ps, r⟩) (hln : argsL.length = ps.length) (hW : (rest.map fun v => v.category).sum ≤ W) (hd : decode c.code pc = .ok (.invokeinterface index count, 5)) (hc : k + dc ≤ R.cells) (hs : n + ds ≤ R.slots)
    (cont : ∀ T' h' v, On p l e R s m args below meth c n0 T' h' (k + dc) (n + ds) → Q' v h' → Aim p e below s CC SS n0 Q T' (mkF m (pc + 5) Ls (v.toList ++ rest))) : Aim p e below s CC SS n0 Q T (mkF m pc Ls (argsL.reverse ++ .ref a :: rest)) := by
  obtain ⟨L, X, eT, N⟩ := P
  obtain ⟨cq, kq, qa, qb, qc⟩ := isOf hZ eT E
  obtain ⟨v, vm1, ⟨T', L', k', n'⟩, -, X', ⟨Lc, ⟨hq, N'⟩, l', y', z'⟩, st'⟩ := X.interfaceBack hx (xi := y) (y := z) hown (mvT hZ w1) (mvT hZ w2) (mvT hZ w5 (by simp [Cond.onTables, Cond.keepsFace, Cond.keeps, Cond.steady, Cond.faceAtom, hy.1, hy.2])) (mvT hZ w3) (mvT hZ w4) (mvT hZ w6) (mvT hZ w7) (mvT hZ w8) hy hK qa qb qc (g := mkF m pc Ls (argsL.reverse ++ .ref a :: rest)) rfl (by rw [hml]; exact hsz) (Steps.refl _) (argsL := argsL) (rest := rest) (lenOf hpd hln) rfl (by show 2 * 0 + _ ≤ _; omega) hd (fun _ _ => ⟨rfl, eT, hc, hs⟩)
  dsimp only [Pt.U, Pt.locs, Pt.cells, Pt.slots] at X' l' y' z' st' hq
  subst l' y' z'
  exact Aim.of (fun t kt => st'.trans kt) (cont T' _ v ⟨_, X', rfl, N.app N'⟩ hq)
theorem Aim.cpA {own : String} {index pc mx : Nat} {Ls : Array Slot} {rest : List Value} {a b : Addr} {k1 k2 : ClassId} {ty ty' : FieldType} {z z' sp dp nn : Int32} {vs vd us : List Value} {dv dd : Value} (P : On p l e R s m args below meth c n0 T h k n) (hx : p.tables.exec = Jvm.exec) (hZ : Z.Warmed39 s.vm) (hml : c.maxLocals = mx) (hown : s.vm.findClass own = some m.cls)
    (w1 : (Cond.methodLink own index Jvm.Stand.acN).before a0 Z = true) (w2 : (Cond.native Jvm.Stand.acN).before a0 Z = true) (w3 : (Cond.static Jvm.Stand.acN).before a0 Z = true) (w4 : (Cond.initialized "java/lang/System").before a0 Z = true)
    (A : Arv Z h a k1 ty z vs dv) (B : Arv Z h b k2 ty' z' vd dd) (hty : (ty = ty' ∧ refKind ty = false) ∨ (refKind ty = true ∧ refKind ty' = true ∧ StoL Z h b us))
    (h1 : ¬ sp < 0) (h2 : ¬ dp < 0) (h3 : ¬ nn < 0) (h4 : sp.toNatClampNeg + nn.toNatClampNeg ≤ z.toNatClampNeg) (h5 : dp.toNatClampNeg + nn.toNatClampNeg ≤ z'.toNatClampNeg)
    (hus : us = (List.range nn.toNatClampNeg).map fun i => vs.getD (sp.toNatClampNeg + i) dv) (hl : dp.toNatClampNeg + nn.toNatClampNeg ≤ vd.length) (ge : n0 ≤ b) (hsz : Ls.size = mx) (hd : decode c.code pc = .ok (.invokestatic index, 3))
    (hf : 1 ≤ R.frames) (hlo : (rest.map fun v => v.category).sum + (nativeFrameWords "java/lang/System" "arraycopy" 5 + 11) ≤ R.locals)
    (cont : ∀ T' h', On p l e R s m args below meth c n0 T' h' k n → Keep h h' [b] → Arv Z h' b k2 ty' z' (vd.take dp.toNatClampNeg ++ us ++ vd.drop (dp.toNatClampNeg + nn.toNatClampNeg)) dd → Aim p e below s CC SS n0 Q T' (mkF m (pc + 3) Ls rest)) :
    Aim p e below s CC SS n0 Q T (mkF m pc Ls (.int nn :: .int dp :: .ref b :: .int sp :: .ref a :: rest)) := by
  obtain ⟨L, X, eT, N⟩ := P
  obtain ⟨T', h', L', X', e', N', K, V, st'⟩ := RoadKit.cpA X hx hZ hown w1 w2 w3 w4 eT A B hty h1 h2 h3 h4 h5 hus hl N ge (g := mkF m pc Ls (.int nn :: .int dp :: .ref b :: .int sp :: .ref a :: rest)) rfl (by rw [hml]; exact hsz) rfl hd hf (W := (rest.map fun v => v.category).sum) (by show 2 * 0 + _ ≤ _; omega) hlo
  exact Aim.of st' (cont T' h' ⟨L', X', e', N'⟩ K V)
theorem nf_same {y y2 : MethodName} {r2 : MethodId} (h : y.cls = y2.cls) (hn : s.methodNamed? y2 = some r2) (N : NotFace s y2) : NotFace s y := fun r0 h0 => by
  obtain ⟨kr, h1, h2⟩ := N r2 hn
  have e1 := findClass_of_methodNamed h0
  have e2 := findClass_of_methodNamed hn
  rw [h] at e1
  have e3 : r0.cls = r2.cls := Option.some.inj (e1.symm.trans e2)
  exact ⟨kr, by rw [e3]; exact h1, h2⟩
theorem nf_sel {C : String} {y y2 : MethodName} (h : y.cls = y2.cls) (w : (Cond.selects C y2 y2).before args s = true) : NotFace s y := by
  obtain ⟨c2, r2, m2, q1, q2, q3, q4, kP, hkP, hkPi⟩ := Cond.selects_spec w
  exact nf_same h q3 (notFace_of_selects w)
theorem declares_of {y : MethodName} {bytes : ByteArray} {maxL : Nat} {ret : Option FieldType} (wi : (Cond.instanceMethod y).before args s = true) (wc : (Cond.code y bytes maxL ret).before args s = true) : (Cond.declares y).before args s = true := by
  obtain ⟨mk, methM, hnamed, hmethM, hstM, habM⟩ := Cond.instanceMethod_spec wi
  obtain ⟨m2, cM, q1, -, -, -, -, -, -, hsig⟩ := Cond.code_spec hnamed wc
  cases hmethM.symm.trans q1
  simp [Cond.before, Cond.holds, Cond.value, hnamed, hmethM, hstM, hsig]
theorem same_of {y : MethodName} (hy : y.cls ≠ "java/lang/invoke/MethodHandle" ∧ y.cls ≠ "java/lang/invoke/VarHandle") (wi : (Cond.instanceMethod y).before args s = true) (nf : NotFace s y) : (Cond.sameMethod y.cls y.cls y.name y.desc).before args s = true := by
  obtain ⟨mk, methM, hnamed, hmethM, hstM, habM⟩ := Cond.instanceMethod_spec wi
  obtain ⟨kr, h1, h2⟩ := nf mk hnamed
  have hc := findClass_of_methodNamed hnamed
  have hf := State.methodFound?_of_named hnamed hy
  have hnamed' : s.methodNamed? ⟨y.cls, y.name, y.desc⟩ = some mk := hnamed
  simp [Cond.before, Cond.holds, Cond.value, hc, hf, hnamed', h1, h2]
theorem arv_eq {a : Addr} {kk : ClassId} {ty : FieldType} {z : Int32} {vs vs' : List Value} {dv : Value} (F : Arv Z h a kk ty z vs dv) (q : vs = vs') : Arv Z h a kk ty z vs' dv := q ▸ F
theorem Aim.callU {own K : String} {index pc mx maxL dc ds W : Nat} {y : MethodName} {bytes : ByteArray} {ret : Option FieldType} {ps : List FieldType} {r : Option FieldType} {Ls : Array Slot} {a : Addr} {argsL rest : List Value} {Q' : Option Value → Heap → Prop} (P : On p l e R s m args below meth c n0 T h k n) (hx : p.tables.exec = Jvm.exec) (hZ : Z.Warmed39 s.vm) (hml : c.maxLocals = mx) (hown : s.vm.findClass own = some m.cls)
    (w1 : (Cond.methodLink own index y).before a0 Z = true) (w2 : (Cond.sameMethod y.cls y.cls y.name y.desc).before a0 Z = true) (w3 : (Cond.instanceMethod y).before a0 Z = true) (w5 : (Cond.superclass own y.cls).before a0 Z = true) (hn : y.name ≠ "<init>") (w4 : (Cond.code y bytes maxL ret).before a0 Z = true) (E : Ins Z h a K true)
    (hK : Bk l R p e below s args y 3 W (.ref a :: argsL).toArray h dc ds n0 Q') (hsz : Ls.size = mx) (hpd : parseMethodDescriptor y.desc = some ⟨ps, r⟩) (hln : argsL.length = ps.length) (hW : (rest.map fun v => v.category).sum ≤ W) (hd : decode c.code pc = .ok (.invokespecial index, 3)) (hc : k + dc ≤ R.cells) (hs : n + ds ≤ R.slots)
    (cont : ∀ T' h' v, On p l e R s m args below meth c n0 T' h' (k + dc) (n + ds) → Q' v h' → Aim p e below s CC SS n0 Q T' (mkF m (pc + 3) Ls (v.toList ++ rest))) : Aim p e below s CC SS n0 Q T (mkF m pc Ls (argsL.reverse ++ .ref a :: rest)) := by
  obtain ⟨L, X, eT, N⟩ := P
  obtain ⟨v, vm1, ⟨T', L', k', n'⟩, -, X', ⟨Lc, ⟨hq, N'⟩, l', y', z'⟩, st'⟩ := RoadKit.superBack X hx hZ (y := y) hown w1 w2 w3 w5 hn hK eT E (g := mkF m pc Ls (argsL.reverse ++ .ref a :: rest)) rfl (by rw [hml]; exact hsz) w4 (argsL := argsL) (rest := rest) (lenOf hpd hln) rfl (by show 2 * 0 + _ ≤ _; omega) hd (fun _ _ => ⟨rfl, eT, hc, hs⟩)
  dsimp only [Pt.U, Pt.locs, Pt.cells, Pt.slots] at X' l' y' z' st' hq
  subst l' y' z'
  exact Aim.of (fun t kt => st'.trans kt) (cont T' _ v ⟨_, X', rfl, N.app N'⟩ hq)
end Base
end Jvm.Y9
namespace Jvm.Q9
open Sem ClassFile Op Lib Jvm.Stand Jvm.Free Jvm.LawKit Jvm.RoadKit Jvm.S9
def cod (t : String) : List Int32 := t.toList.map fun c => Int32.ofNat c.toNat
def HA (Z : State) (LC : List (String × Nat × String) × (Array (Array UInt16 × Addr) → Prop)) (it : Array (Array UInt16 × Addr)) (h : Heap) (Lc : List Addr) : Prop :=
  (∀ x ∈ Lc, x < h.size) ∧ (∀ c ∈ LC.1, Z.resolvedAt? c.1 c.2.1 = none → ∀ (units : Array UInt16) (a : Addr), utf16ToString? units = some c.2.2 → it.find? (fun q => q.1 == units) = some (units, a) → ∃ b kk, Str Z h a b kk (cod c.2.2) ∧ a ∈ Lc ∧ b ∈ Lc) ∧ LC.2 it
theorem HA.keep {Z : State} {LC : List (String × Nat × String) × (Array (Array UInt16 × Addr) → Prop)} {it : Array (Array UInt16 × Addr)} {h h' : Heap} {Lc ws : List Addr} (A : HA Z LC it h Lc) (K : Keep h h' ws) (q : ∀ x ∈ ws, x ∉ Lc) : HA Z LC it h' Lc :=
  ⟨fun x hx => Nat.lt_of_lt_of_le (A.1 x hx) K.1, fun c hc ho units a hu hf => by
    obtain ⟨b, kk, F, ha, hb⟩ := A.2.1 c hc ho units a hu hf
    exact ⟨b, kk, F.keep K (fun z => q _ z ha) (fun z => q _ z hb), ha, hb⟩, A.2.2⟩
def Grow (Lc Lc' : List Addr) (n : Nat) : Prop := (∀ x ∈ Lc', x ∈ Lc ∨ n ≤ x) ∧ ∀ x ∈ Lc, x ∈ Lc'
theorem Grow.refl (Lc : List Addr) (n : Nat) : Grow Lc Lc n := ⟨fun _ q => Or.inl q, fun _ q => q⟩
theorem Grow.trans {Lc Lc1 Lc2 : List Addr} {n n' : Nat} (A : Grow Lc Lc1 n) (B : Grow Lc1 Lc2 n') (q : n ≤ n') : Grow Lc Lc2 n := ⟨fun x hx => (B.1 x hx).elim (A.1 x) (fun r => Or.inr (Nat.le_trans q r)), fun x hx => B.2 x (A.2 x hx)⟩
theorem nl_new {Lc : List Addr} {a n : Nat} (h : ∀ x ∈ Lc, x < n) (g : n ≤ a) : a ∉ Lc := fun q => Nat.lt_irrefl _ (Nat.lt_of_lt_of_le (h a q) g)
theorem nl_step {Lc Lc' : List Addr} {a n : Nat} (old : a ∉ Lc) (rel : Grow Lc Lc' n) (lt : a < n) : a ∉ Lc' := fun q => (rel.1 a q).elim old fun r => Nat.lt_irrefl _ (Nat.lt_of_lt_of_le lt r)
theorem lit_ne {Lc : List Addr} {a x n : Nat} (h : a < n ∨ a ∈ Lc) (g : n ≤ x) (q : x ∉ Lc) : a ≠ x := fun e => h.elim (fun r => Nat.lt_irrefl _ (Nat.lt_of_lt_of_le r (e ▸ g))) (fun r => q (e ▸ r))
section Base
variable {p : Program} {l : Launch} {e : Env} {R : Room} {s : State} {m : MethodId} {args : Array Value} {below : List Frame} {meth : Method} {c : Code} {T : State} {h : Heap} {n0 k n : Nat} {Z : State} {a0 : Array Value} {LC : List (String × Nat × String) × (Array (Array UInt16 × Addr) → Prop)} {Lc : List Addr}
def On (p : Program) (l : Launch) (e : Env) (R : Room) (s : State) (m : MethodId) (args : Array Value) (below : List Frame) (meth : Method) (c : Code) (Z : State) (LC : List (String × Nat × String) × (Array (Array UInt16 × Addr) → Prop)) (n0 : Nat) (T : State) (h : Heap) (k n : Nat) (Lc : List Addr) : Prop :=
  ∃ locs vm0, Stand p l e R (s.setVm vm0) m args below meth c T locs k n ∧ T.heap = h ∧ Fr n0 locs ∧ s.Since vm0 h.size ∧ Z.Warmed39 vm0 ∧ HA Z LC vm0.interned h Lc
def Aim (p : Program) (e : Env) (below : List Frame) (s : State) (CC SS n0 : Nat) (Q : Option Value → Heap → Array (Array UInt16 × Addr) → Prop) (T : State) (g : JFrame) : Prop :=
  ∃ s₂ o, Steps p.tables e below (T.setTop g) s₂ ∧ s₂.status = .running ∧ Ended s₂ below o ∧ ∃ v L, o = .returned v ∧ (Q v s₂.heap s₂.vm.interned ∧ Fr n0 L) ∧ ReturnedEndW s o s₂ L CC SS
def QW (Z : State) (LC : List (String × Nat × String) × (Array (Array UInt16 × Addr) → Prop)) (h0 : Heap) (Lc0 : List Addr) (QH : Option Value → Heap → List Addr → Prop) : Option Value → Heap → Array (Array UInt16 × Addr) → Prop := fun v h it => ∃ Lc, QH v h Lc ∧ HA Z LC it h Lc ∧ Grow Lc0 Lc h0.size
def Con (l : Launch) (Z : State) (LC : List (String × Nat × String) × (Array (Array UInt16 × Addr) → Prop)) (y : MethodName) (bytes : ByteArray) (maxL : Nat) (ret : Option FieldType) (rm : Room) (n0 : Nat) (as' : Array Value) (h0 : Heap) (Lc0 : List Addr) (QH : Option Value → Heap → List Addr → Prop) : Prop :=
  ∀ ws, MetFree l y (head1 (Cond.code y bytes maxL ret :: ws) rm) (fun a U => a = as' ∧ Z.Warmed39 U.vm ∧ U.heap = h0 ∧ HA Z LC U.vm.interned h0 Lc0) (fun _ _ _ _ _ => True) (fun _ U o U' => ∃ v L, o = .returned v ∧ (QW Z LC h0 Lc0 QH v U'.heap U'.vm.interned ∧ Fr n0 L) ∧ ReturnedEndW U o U' L rm.cells rm.slots)
def Bk (l : Launch) (R : Room) (p : Program) (e : Env) (below : List Frame) (s : State) (sargs : Array Value) (y : MethodName) (len W : Nat) (as' : Array Value) (h : Heap) (dc ds : Nat) (Z : State) (LC : List (String × Nat × String) × (Array (Array UInt16 × Addr) → Prop)) (n0 : Nat) (Lc : List Addr) (QH : Option Value → Heap → List Addr → Prop) : Prop :=
  ∀ vm0, Z.Warmed39 vm0 → HA Z LC vm0.interned h Lc → BackS l R p e below (s.setVm vm0) sargs y len W (fun A a => a = as' ∧ A.U.heap = h ∧ A.cells + dc ≤ R.cells ∧ A.slots + ds ≤ R.slots) (fun A _ v B => ∃ L, (QW Z LC h Lc QH v B.U.heap B.U.vm.interned ∧ Fr n0 L) ∧ B.locs = A.locs ++ L ∧ B.cells = A.cells + dc ∧ B.slots = A.slots + ds)
variable {CC SS : Nat} {Q : Option Value → Heap → Array (Array UInt16 × Addr) → Prop} {QH : Option Value → Heap → List Addr → Prop} {QN : Option Value → Heap → Prop} {h0 : Heap} {Lc0 : List Addr}
theorem On.here (P : On p l e R s m args below meth c Z LC n0 T h k n Lc) : At T m c below := by obtain ⟨_, _, X, -⟩ := P; exact X.here
theorem On.ltL (P : On p l e R s m args below meth c Z LC n0 T h k n Lc) : ∀ x ∈ Lc, x < h.size := by obtain ⟨_, _, _, _, _, _, _, A⟩ := P; exact A.1
theorem On.more {k' n' : Nat} (P : On p l e R s m args below meth c Z LC n0 T h k n Lc) (hk : k ≤ k') (hn : n ≤ n') : On p l e R s m args below meth c Z LC n0 T h k' n' Lc := by
  obtain ⟨L, vm0, X, r⟩ := P; exact ⟨L, vm0, X.more hk hn, r⟩
theorem ownAt {own : String} {vm0 : Vm} {n : Nat} (hS : s.Since vm0 n) (hown : s.vm.findClass own = some m.cls) : (s.setVm vm0).vm.findClass own = some m.cls := by rw [show (s.setVm vm0).vm = vm0 from rfl, hS.1.alike.findClass]; exact hown
theorem sinceUp {vm0 : Vm} {n n' : Nat} (hS : s.Since vm0 n) (q : n ≤ n') : s.Since vm0 n' := ⟨hS.1, hS.2.mono q⟩
theorem Aim.of {T' : State} {g g' : JFrame} (st : ∀ t, Steps p.tables e below (T'.setTop g') t → Steps p.tables e below (T.setTop g) t) (a : Aim p e below s CC SS n0 Q T' g') : Aim p e below s CC SS n0 Q T g := by
  obtain ⟨s2, o, h1, r⟩ := a; exact ⟨s2, o, st _ h1, r⟩
theorem Aim.cast {g g' : JFrame} (q : g = g') (a : Aim p e below s CC SS n0 Q T g') : Aim p e below s CC SS n0 Q T g := q ▸ a
theorem Con.intro {y : MethodName} {bytes : ByteArray} {maxL : Nat} {ret : Option FieldType} {rm : Room} {as' : Array Value} (pl : plainFor y = true)
    (body : ∀ (p : Program) (e : Env) (s : State) (m : MethodId) (below : List Frame) (meth : Method) (c : Code) (s₁ : State), p.tables.exec = Jvm.exec → c.code = bytes → c.maxLocals = maxL → meth.sig.returnType = ret → meth.name = y.name → s.vm.findClass y.cls = some m.cls → meth.locks = false → Z.Warmed39 s.vm → s.heap = h0 →
      On p l e rm s m as' below meth c Z LC n0 s₁ h0 0 0 Lc0 → Aim p e below s rm.cells rm.slots n0 (QW Z LC h0 Lc0 QH) s₁ (entryFrame m as' maxL)) : Con l Z LC y bytes maxL ret rm n0 as' h0 Lc0 QH := by
  intro ws
  refine MetFree.of_bodySF pl hisR ?_
  intro p e s m args below meth c s₁ Bd hml0 hP hK
  obtain ⟨rfl, hZ, hh, hA⟩ := hP
  have X0 : Stand p l e rm s m args below meth c s₁ [] 0 0 := Stand.of_body Bd
  obtain ⟨s2, o, h1, h2, h3, v, L, h4, h5, h6⟩ := body p e s m below meth c s₁ Bd.exec Bd.bytes hml0 Bd.returns (name_of_methodNamed Bd.named Bd.method).1 (findClass_of_methodNamed Bd.named) (BodyLoose.notSynchronized Bd) hZ hh ⟨[], s.vm, X0, by rw [← hh, Bd.state]; rfl, Fr.nil n0, (State.WarmedH.refl s).since _, hZ, hA⟩
  exact ⟨s2, o, h1, h2, h3, v, L, h4, h5, h6⟩
theorem Con.back {y : MethodName} {bytes : ByteArray} {maxL : Nat} {ret : Option FieldType} {rm : Room} {as' : Array Value} {len W : Nat} (hM : Con l Z LC y bytes maxL ret rm n0 as' h Lc QH) (wc : (Cond.code y bytes maxL ret).before a0 Z = true) (wz : (Cond.initialized y.cls).before a0 Z = true) (hf : rm.frames + 1 ≤ R.frames) (hl : W + (maxL + 11) + rm.locals ≤ R.locals) :
    Bk l R p e below s args y len W as' h rm.cells rm.slots Z LC n0 Lc QH := by
  intro vm0 hZ hA
  exact BackS.of_freeW (bytes := bytes) (maxL := maxL) (ret := ret) (E := fun _ _ o t L k n => k = rm.cells ∧ n = rm.slots ∧ ∃ v, o = .returned v ∧ (QW Z LC h Lc QH v t.heap t.vm.interned ∧ Fr n0 L)) (hM []) hf hl
    (fun m meth c A a Y hp => have hU : Z.Warmed39 A.U.vm := wtrans (s := s.setVm vm0) hZ Y.warmed
      ⟨by show (Cond.and _ .tt).before a A.U = true; rw [Cond.before_and, mv hU wc]; rfl, mv hU wc, mv hU wz, hp.2.2.1, hp.2.2.2⟩)
    (fun m meth c A a g mk Y hp => ⟨hp.1, wtrans (s := s.setVm vm0) hZ Y.warmed, hp.2.1, by show HA Z LC A.U.vm.interned h Lc; rw [Y.warmed.interned_eq]; exact hA⟩) (fun _ _ _ _ _ _ _ _ _ => trivial)
    (fun _ _ _ _ ⟨v, L, h1, h2, h3⟩ => ⟨L, _, _, h3, rfl, rfl, v, h1, h2⟩)
    (fun m meth c A a g mk v t L k n Y hp _ _ ⟨e1, e2, v', e3, e4⟩ => by cases e3; subst e1 e2; exact ⟨L, e4, rfl, rfl, rfl⟩)
/-! the ways out -/
theorem Aim.retN {t : FieldType} {pc : Nat} {Ls : Array Slot} {z : Int32} {rest : List Value} (P : On p l e R s m args below meth c Z LC n0 T h k n Lc) (hx : p.tables.exec = Jvm.exec) (hlk : meth.locks = false) (hret : meth.sig.returnType = some t) (ht : t = .boolean ∨ t = .byte ∨ t = .char ∨ t = .short) (hd : decode c.code pc = .ok (.ireturn, 1))
    (hk : k ≤ CC) (hn : n ≤ SS) (hl : Grow Lc0 Lc h0.size) (q : QH (some (.int (nar t z))) h Lc) : Aim p e below s CC SS n0 (QW Z LC h0 Lc0 QH) T (mkF m pc Ls (.int z :: rest)) := by
  obtain ⟨L, vm0, X, eT, N, hS, hZ, A⟩ := P
  obtain ⟨fs, hr, hrun, hended, hW, hsame⟩ := X.leave (v := (some (.int (nar t z)))) (fun h => by rw [hret] at h; cases h) hlk
  obtain ⟨r1, r2, r3⟩ := hS.ended hW (by show h.size ≤ T.heap.size; rw [eT]; exact Nat.le_refl _) hsame
  refine ⟨_, _, Jvm.RoadKit.retN X hx hret ht hd hr, hrun, hended, _, _, rfl, ⟨⟨Lc, by show QH _ T.heap Lc; rw [eT]; exact q, ?_, hl⟩, N⟩, ⟨_, rfl⟩, r1, r2, r3.mono hk hn⟩
  have ei : (T.setFrames fs).vm.interned = vm0.interned := hW.interned_eq
  rw [ei]
  show HA Z LC vm0.interned T.heap Lc
  rw [eT]; exact A
theorem Aim.retW {t : FieldType} {i : Instr} {pc : Nat} {Ls : Array Slot} {w : Value} {rest : List Value} (P : On p l e R s m args below meth c Z LC n0 T h k n Lc) (hx : p.tables.exec = Jvm.exec) (hlk : meth.locks = false) (hret : meth.sig.returnType = some t) (hn' : narrow t w = w) (hi : (i = .ireturn ∧ (t = .int ∨ t = .boolean ∨ t = .byte ∨ t = .char ∨ t = .short) ∧ ∃ z, w = .int z) ∨ (i = .lreturn ∧ t = .long ∧ ∃ z, w = .long z) ∨ (i = .dreturn ∧ t = .double ∧ ∃ z, w = .double z) ∨ (i = .freturn ∧ t = .float ∧ ∃ z, w = .float z) ∨ (i = .areturn ∧ t.isReference = true ∧ w.isRef = true)) (hd : decode c.code pc = .ok (i, 1))
    (hk : k ≤ CC) (hn : n ≤ SS) (hl : Grow Lc0 Lc h0.size) (q : QH (some w) h Lc) : Aim p e below s CC SS n0 (QW Z LC h0 Lc0 QH) T (mkF m pc Ls (w :: rest)) := by
  obtain ⟨L, vm0, X, eT, N, hS, hZ, A⟩ := P
  obtain ⟨fs, hr, hrun, hended, hW, hsame⟩ := X.leave (v := (some w)) (fun h => by rw [hret] at h; cases h) hlk
  obtain ⟨r1, r2, r3⟩ := hS.ended hW (by show h.size ≤ T.heap.size; rw [eT]; exact Nat.le_refl _) hsame
  refine ⟨_, _, Jvm.RoadKit.retOut X hx hret hn' hi hd hr, hrun, hended, _, _, rfl, ⟨⟨Lc, by show QH _ T.heap Lc; rw [eT]; exact q, ?_, hl⟩, N⟩, ⟨_, rfl⟩, r1, r2, r3.mono hk hn⟩
  have ei : (T.setFrames fs).vm.interned = vm0.interned := hW.interned_eq
  rw [ei]
  show HA Z LC vm0.interned T.heap Lc
  rw [eT]; exact A
theorem Aim.retV {pc : Nat} {Ls : Array Slot} (P : On p l e R s m args below meth c Z LC n0 T h k n Lc) (hx : p.tables.exec = Jvm.exec) (hlk : meth.locks = false) (hret : meth.sig.returnType = none) (hd : decode c.code pc = .ok (.return_, 1))
    (hk : k ≤ CC) (hn : n ≤ SS) (hl : Grow Lc0 Lc h0.size) (q : QH none h Lc) : Aim p e below s CC SS n0 (QW Z LC h0 Lc0 QH) T (mkF m pc Ls []) := by
  obtain ⟨L, vm0, X, eT, N, hS, hZ, A⟩ := P
  obtain ⟨fs, hr, hrun, hended, hW, hsame⟩ := X.leave (v := none) (fun _ => rfl) hlk
  obtain ⟨r1, r2, r3⟩ := hS.ended hW (by show h.size ≤ T.heap.size; rw [eT]; exact Nat.le_refl _) hsame
  refine ⟨_, _, X.returnOut hx hret hd hr, hrun, hended, _, _, rfl, ⟨⟨Lc, by show QH _ T.heap Lc; rw [eT]; exact q, ?_, hl⟩, N⟩, ⟨_, rfl⟩, r1, r2, r3.mono hk hn⟩
  have ei : (T.setFrames fs).vm.interned = vm0.interned := hW.interned_eq
  rw [ei]
  show HA Z LC vm0.interned T.heap Lc
  rw [eT]; exact A
theorem Aim.retI {pc : Nat} {Ls : Array Slot} {z : Int32} {rest : List Value} (P : On p l e R s m args below meth c Z LC n0 T h k n Lc) (hx : p.tables.exec = Jvm.exec) (hlk : meth.locks = false) (hret : meth.sig.returnType = some .int) (hd : decode c.code pc = .ok (.ireturn, 1))
    (hk : k ≤ CC) (hn : n ≤ SS) (hl : Grow Lc0 Lc h0.size) (q : QH (some (.int z)) h Lc) : Aim p e below s CC SS n0 (QW Z LC h0 Lc0 QH) T (mkF m pc Ls (.int z :: rest)) := Aim.retW P hx hlk hret rfl (Or.inl ⟨rfl, Or.inl rfl, z, rfl⟩) hd hk hn hl q
theorem Aim.retJ {pc : Nat} {Ls : Array Slot} {z : Int64} {rest : List Value} (P : On p l e R s m args below meth c Z LC n0 T h k n Lc) (hx : p.tables.exec = Jvm.exec) (hlk : meth.locks = false) (hret : meth.sig.returnType = some .long) (hd : decode c.code pc = .ok (.lreturn, 1))
    (hk : k ≤ CC) (hn : n ≤ SS) (hl : Grow Lc0 Lc h0.size) (q : QH (some (.long z)) h Lc) : Aim p e below s CC SS n0 (QW Z LC h0 Lc0 QH) T (mkF m pc Ls (.long z :: rest)) := Aim.retW P hx hlk hret rfl (Or.inr (Or.inl ⟨rfl, rfl, z, rfl⟩)) hd hk hn hl q
theorem Aim.retA {t : FieldType} {pc : Nat} {Ls : Array Slot} {w : Value} {rest : List Value} (P : On p l e R s m args below meth c Z LC n0 T h k n Lc) (hx : p.tables.exec = Jvm.exec) (hlk : meth.locks = false) (hret : meth.sig.returnType = some t) (ht : t.isReference = true) (hw : w.isRef = true) (hd : decode c.code pc = .ok (.areturn, 1))
    (hk : k ≤ CC) (hn : n ≤ SS) (hl : Grow Lc0 Lc h0.size) (q : QH (some w) h Lc) : Aim p e below s CC SS n0 (QW Z LC h0 Lc0 QH) T (mkF m pc Ls (w :: rest)) := by
  have hn' : narrow t w = w := by cases t <;> cases w <;> first | rfl | (cases ht; done) | (cases hw; done)
  exact Aim.retW P hx hlk hret hn' (Or.inr (Or.inr (Or.inr (Or.inr ⟨rfl, ht, hw⟩)))) hd hk hn hl q
/-! steps that meet the heap -/
theorem Aim.newO {own C : String} {index nn pc : Nat} {Ls : Array Slot} {st : List Value} (P : On p l e R s m args below meth c Z LC n0 T h k n Lc) (hx : p.tables.exec = Jvm.exec) (hZs : Z.Warmed39 s.vm) (hown : s.vm.findClass own = some m.cls) (w : (Cond.classLink own index C).before a0 Z = true) (wi : (Cond.instantiable C nn).before a0 Z = true) (wz : (Cond.initialized C).before a0 Z = true)
    (hd : decode c.code pc = .ok (.new index, 3)) (hc : k + 1 ≤ R.cells) (hl : n + nn ≤ R.slots)
    (cont : ∀ T' h' b, b = h.size → On p l e R s m args below meth c Z LC n0 T' h' (k + 1) (n + nn) Lc → Ext h h' → Exa Z h' b C → (∀ {O nm d : String} {ty : FieldType}, Laid Z a0 C O nm d → parseFieldDescriptor d = some ty → Fld Z h' b O nm d (defaultValue ty)) → Unt h' b → Aim p e below s CC SS n0 Q T' (mkF m (pc + 3) Ls (.ref b :: st))) :
    Aim p e below s CC SS n0 Q T (mkF m pc Ls st) := by
  obtain ⟨L, vm0, X, eT, N, hS, hZ, A⟩ := P
  have hown' := ownAt hS hown
  obtain ⟨T', h', X', e', E, A', D, U, st'⟩ := RoadKit.newO (s := s.setVm vm0) X hx hZ hown' w wi wz eT (g := mkF m pc Ls st) rfl hd hc hl
  exact Aim.of st' (cont T' h' _ rfl ⟨L, vm0, X', e', N, sinceUp hS E.1, hZ, A.keep ((Keep.refl _ []).ext E) (fun _ q => nomatch q)⟩ E A' D U)
theorem Aim.newP {aty : ArrayType} {pc : Nat} {Ls : Array Slot} {z : Int32} {st : List Value} (P : On p l e R s m args below meth c Z LC n0 T h k n Lc) (hx : p.tables.exec = Jvm.exec) (hZs : Z.Warmed39 s.vm) (w : (Cond.arrayClass (newarray.typeOf aty)).before a0 Z = true) (hd : decode c.code pc = .ok (.newarray aty, 2))
    (hz : ¬ z < 0) {cap : Nat} (hcap : z.toNatClampNeg ≤ cap) (hb : cap * 8 ≤ 536870912) (hc : k + 1 ≤ R.cells) (hl : n + cap ≤ R.slots)
    (cont : ∀ T' h' kk b, b = h.size → On p l e R s m args below meth c Z LC n0 T' h' (k + 1) (n + cap) Lc → Ext h h' → Arv Z h' b kk (newarray.typeOf aty) z [] (defaultValue (newarray.typeOf aty)) → Aim p e below s CC SS n0 Q T' (mkF m (pc + 2) Ls (.ref b :: st))) :
    Aim p e below s CC SS n0 Q T (mkF m pc Ls (.int z :: st)) := by
  obtain ⟨L, vm0, X, eT, N, hS, hZ, A⟩ := P
  obtain ⟨T', h', kk, X', e', E, A', st'⟩ := RoadKit.newP (s := s.setVm vm0) X hx hZ w eT (g := mkF m pc Ls (.int z :: st)) rfl hd rfl hz hcap hb hc hl
  exact Aim.of st' (cont T' h' kk _ rfl ⟨L, vm0, X', e', N, sinceUp hS E.1, hZ, A.keep ((Keep.refl _ []).ext E) (fun _ q => nomatch q)⟩ E (Arv.new A' hz))
theorem Aim.newR {own C : String} {index pc : Nat} {Ls : Array Slot} {z : Int32} {st : List Value} (P : On p l e R s m args below meth c Z LC n0 T h k n Lc) (hx : p.tables.exec = Jvm.exec) (hZs : Z.Warmed39 s.vm) (hown : s.vm.findClass own = some m.cls) (w1 : (Cond.classLink own index C).before a0 Z = true) (w2 : (Cond.arrayOver (.object C)).before a0 Z = true) (hd : decode c.code pc = .ok (.anewarray index, 3))
    (hz : ¬ z < 0) {cap : Nat} (hcap : z.toNatClampNeg ≤ cap) (hb : cap * 8 ≤ 536870912) (hc : k + 1 ≤ R.cells) (hl : n + cap ≤ R.slots)
    (cont : ∀ T' h' kk b, b = h.size → On p l e R s m args below meth c Z LC n0 T' h' (k + 1) (n + cap) Lc → Ext h h' → Arv Z h' b kk (.object C) z [] .null → Ovr Z kk C → Aim p e below s CC SS n0 Q T' (mkF m (pc + 3) Ls (.ref b :: st))) :
    Aim p e below s CC SS n0 Q T (mkF m pc Ls (.int z :: st)) := by
  obtain ⟨L, vm0, X, eT, N, hS, hZ, A⟩ := P
  have hown' := ownAt hS hown
  obtain ⟨T', h', kk, X', e', E, A', O, st'⟩ := RoadKit.newR (s := s.setVm vm0) X hx hZ hown' w1 w2 eT (g := mkF m pc Ls (.int z :: st)) rfl hd rfl hz hcap hb hc hl
  exact Aim.of st' (cont T' h' kk _ rfl ⟨L, vm0, X', e', N, sinceUp hS E.1, hZ, A.keep ((Keep.refl _ []).ext E) (fun _ q => nomatch q)⟩ E (Arv.new A' hz) O)
theorem Aim.getF {own R0 O f d host : String} {index pc : Nat} {Ls : Array Slot} {st : List Value} {a : Addr} {v : Value} (P : On p l e R s m args below meth c Z LC n0 T h k n Lc) (hx : p.tables.exec = Jvm.exec) (hZs : Z.Warmed39 s.vm) (hown : s.vm.findClass own = some m.cls) (w : (Cond.fieldLink own index R0 f d).before a0 Z = true ∨ (Cond.fieldLinkNest own index R0 f d host).before a0 Z = true) (via : Via Z R0 O f d) (F : Fld Z h a O f d v) (hd : decode c.code pc = .ok (.getfield index, 3)) (cont : ∀ T', On p l e R s m args below meth c Z LC n0 T' h k n Lc → Aim p e below s CC SS n0 Q T' (mkF m (pc + 3) Ls (v :: st))) :
    Aim p e below s CC SS n0 Q T (mkF m pc Ls (.ref a :: st)) := by
  obtain ⟨L, vm0, X, eT, N, hS, hZ, A⟩ := P
  have hown' := ownAt hS hown
  obtain ⟨T', X', e', st'⟩ := RoadKit.getF (s := s.setVm vm0) X hx hZ hown' w via eT F (g := (mkF m pc Ls (.ref a :: st))) rfl rfl hd
  exact Aim.of st' (cont T' ⟨L, vm0, X', e', N, hS, hZ, A⟩)
theorem Aim.getS {own R0 O f d : String} {index pc : Nat} {Ls : Array Slot} {st : List Value} {v : Value} (P : On p l e R s m args below meth c Z LC n0 T h k n Lc) (hx : p.tables.exec = Jvm.exec) (hZs : Z.Warmed39 s.vm) (hown : s.vm.findClass own = some m.cls) (w : (Cond.fieldLink own index R0 f d).before a0 Z = true) (via : Via Z R0 O f d) (F : Sta Z h O f d v) (hd : decode c.code pc = .ok (.getstatic index, 3)) (cont : ∀ T', On p l e R s m args below meth c Z LC n0 T' h k n Lc → Aim p e below s CC SS n0 Q T' (mkF m (pc + 3) Ls (v :: st))) :
    Aim p e below s CC SS n0 Q T (mkF m pc Ls st) := by
  obtain ⟨L, vm0, X, eT, N, hS, hZ, A⟩ := P
  have hown' := ownAt hS hown
  obtain ⟨T', X', e', st'⟩ := RoadKit.getS (s := s.setVm vm0) (host := "") X hx hZ hown' w via eT F (g := (mkF m pc Ls st)) rfl hd
  exact Aim.of st' (cont T' ⟨L, vm0, X', e', N, hS, hZ, A⟩)
theorem Aim.getS2 {own R0 O f d host : String} {index pc : Nat} {Ls : Array Slot} {st : List Value} {v : Value} (P : On p l e R s m args below meth c Z LC n0 T h k n Lc) (hx : p.tables.exec = Jvm.exec) (hZs : Z.Warmed39 s.vm) (hown : s.vm.findClass own = some m.cls) (w : (Cond.fieldLink own index R0 f d).before a0 Z = true ∨ (Cond.fieldLinkNest own index R0 f d host).before a0 Z = true) (via : Via Z R0 O f d) (F : Sta Z h O f d v) (hd : decode c.code pc = .ok (.getstatic index, 3)) (cont : ∀ T', On p l e R s m args below meth c Z LC n0 T' h k n Lc → Aim p e below s CC SS n0 Q T' (mkF m (pc + 3) Ls (v :: st))) :
    Aim p e below s CC SS n0 Q T (mkF m pc Ls st) := by
  obtain ⟨L, vm0, X, eT, N, hS, hZ, A⟩ := P
  have hown' := ownAt hS hown
  obtain ⟨T', X', e', st'⟩ := RoadKit.getS2 (s := s.setVm vm0) X hx hZ hown' w via eT F (g := (mkF m pc Ls st)) rfl hd
  exact Aim.of st' (cont T' ⟨L, vm0, X', e', N, hS, hZ, A⟩)
theorem Aim.castY {own K : String} {index pc : Nat} {Ls : Array Slot} {st : List Value} {a : Addr} (P : On p l e R s m args below meth c Z LC n0 T h k n Lc) (hx : p.tables.exec = Jvm.exec) (hZs : Z.Warmed39 s.vm) (hown : s.vm.findClass own = some m.cls) (w : (Cond.classLink own index K).before a0 Z = true) (F : Ins Z h a K true) (hd : decode c.code pc = .ok (.checkcast index, 3)) (cont : ∀ T', On p l e R s m args below meth c Z LC n0 T' h k n Lc → Aim p e below s CC SS n0 Q T' (mkF m (pc + 3) Ls (.ref a :: st))) :
    Aim p e below s CC SS n0 Q T (mkF m pc Ls (.ref a :: st)) := by
  obtain ⟨L, vm0, X, eT, N, hS, hZ, A⟩ := P
  have hown' := ownAt hS hown
  obtain ⟨T', X', e', st'⟩ := RoadKit.castY (s := s.setVm vm0) X hx hZ hown' w eT F (g := (mkF m pc Ls (.ref a :: st))) rfl rfl hd
  exact Aim.of st' (cont T' ⟨L, vm0, X', e', N, hS, hZ, A⟩)
theorem Aim.instY {own K : String} {index pc : Nat} {Ls : Array Slot} {st : List Value} {a : Addr} (P : On p l e R s m args below meth c Z LC n0 T h k n Lc) (hx : p.tables.exec = Jvm.exec) (hZs : Z.Warmed39 s.vm) (hown : s.vm.findClass own = some m.cls) (w : (Cond.classLink own index K).before a0 Z = true) (F : Ins Z h a K true) (hd : decode c.code pc = .ok (.instanceof index, 3)) (cont : ∀ T', On p l e R s m args below meth c Z LC n0 T' h k n Lc → Aim p e below s CC SS n0 Q T' (mkF m (pc + 3) Ls (.int 1 :: st))) :
    Aim p e below s CC SS n0 Q T (mkF m pc Ls (.ref a :: st)) := by
  obtain ⟨L, vm0, X, eT, N, hS, hZ, A⟩ := P
  have hown' := ownAt hS hown
  obtain ⟨T', X', e', st'⟩ := RoadKit.instY (s := s.setVm vm0) X hx hZ hown' w eT F (g := (mkF m pc Ls (.ref a :: st))) rfl rfl hd
  exact Aim.of st' (cont T' ⟨L, vm0, X', e', N, hS, hZ, A⟩)
theorem Aim.putF {own R0 O f d host C : String} {index kk pc : Nat} {ty : FieldType} {Ls : Array Slot} {st : List Value} {a : Addr} {v old : Value} (P : On p l e R s m args below meth c Z LC n0 T h k n Lc) (hx : p.tables.exec = Jvm.exec) (hZs : Z.Warmed39 s.vm) (hown : s.vm.findClass own = some m.cls) (w : (Cond.fieldLink own index R0 f d).before a0 Z = true ∨ (Cond.fieldLinkNest own index R0 f d host).before a0 Z = true) (via : Via Z R0 O f d)
    (F : Fld Z h a O f d old) (E : Exa Z h a C) (hL : (Cond.lays C O f d).before a0 Z = true ∨ ((Cond.laysFinal C O f d).before a0 Z = true ∧ own = O ∧ meth.name = "<init>")) (wi : (Cond.instantiable C kk).before a0 Z = true)
    (hty : parseFieldDescriptor d = some ty) (hn : narrow ty v = v) (hf : fits ty v = true) (hd : decode c.code pc = .ok (.putfield index, 3)) (ga : n0 ≤ a) (nl : a ∉ Lc)
    (cont : ∀ T' h', On p l e R s m args below meth c Z LC n0 T' h' k n Lc → Wr h h' a (Jvm.RoadKit.slotOf Z O f d) v → Aim p e below s CC SS n0 Q T' (mkF m (pc + 3) Ls st)) :
    Aim p e below s CC SS n0 Q T (mkF m pc Ls (v :: .ref a :: st)) := by
  obtain ⟨L, vm0, X, eT, N, hS, hZ, A⟩ := P
  have hown' := ownAt hS hown
  obtain ⟨T', h', X', e', W, st'⟩ := RoadKit.putF (s := s.setVm vm0) X hx hZ hown' w via eT F E hL wi hty hn hf (g := mkF m pc Ls (v :: .ref a :: st)) rfl rfl hd
  exact Aim.of st' (cont T' h' ⟨_, vm0, X', e', Fr.snoc X' N ga, sinceUp hS (Keep.of_wr W).1, hZ, A.keep (Keep.of_wr W) (allS nl all0)⟩ W)
theorem Aim.stC {pc : Nat} {Ls : Array Slot} {st : List Value} {a : Addr} {kk : ClassId} {j x z : Int32} {vs : List Value} {dv : Value} (P : On p l e R s m args below meth c Z LC n0 T h k n Lc) (hx : p.tables.exec = Jvm.exec) (hZs : Z.Warmed39 s.vm) (V : Arv Z h a kk .char z vs dv) (hj : ¬ j < 0 ∧ j < z) (i : Nat) (hi : j.toNatClampNeg = i) (hv : i < vs.length)
    (hd : decode c.code pc = .ok (.castore, 1)) (ga : n0 ≤ a) (nl : a ∉ Lc) (cont : ∀ T' h', On p l e R s m args below meth c Z LC n0 T' h' k n Lc → Keep h h' [a] → Arv Z h' a kk .char z (vs.set i (.int (nar .char x))) dv → Aim p e below s CC SS n0 Q T' (mkF m (pc + 1) Ls st)) :
    Aim p e below s CC SS n0 Q T (mkF m pc Ls (.int x :: .int j :: .ref a :: st)) := by
  obtain ⟨L, vm0, X, eT, N, hS, hZ, A⟩ := P
  obtain ⟨cl, B, q, S, M, H, U⟩ := V
  obtain ⟨T', h', X', e', W, st'⟩ := RoadKit.stC (s := s.setVm vm0) X hx hZ eT B (j := j) (inb_of S hj) (g := mkF m pc Ls (.int x :: .int j :: .ref a :: st)) rfl rfl hd
  exact Aim.of st' (cont T' h' ⟨_, vm0, X', e', Fr.snoc X' N ga, sinceUp hS (Keep.of_wr W).1, hZ, A.keep (Keep.of_wr W) (allS nl all0)⟩ (Keep.of_wr W) (Arv.set B q S M H U (fits_nar_char _) W i hi hv))
theorem Aim.stB {pc : Nat} {Ls : Array Slot} {st : List Value} {a : Addr} {kk : ClassId} {j x z : Int32} {vs : List Value} {dv : Value} (P : On p l e R s m args below meth c Z LC n0 T h k n Lc) (hx : p.tables.exec = Jvm.exec) (hZs : Z.Warmed39 s.vm) (V : Arv Z h a kk .byte z vs dv) (hj : ¬ j < 0 ∧ j < z) (i : Nat) (hi : j.toNatClampNeg = i) (hv : i < vs.length)
    (hd : decode c.code pc = .ok (.bastore, 1)) (ga : n0 ≤ a) (nl : a ∉ Lc) (cont : ∀ T' h', On p l e R s m args below meth c Z LC n0 T' h' k n Lc → Keep h h' [a] → Arv Z h' a kk .byte z (vs.set i (.int x.toInt8.toInt32)) dv → Aim p e below s CC SS n0 Q T' (mkF m (pc + 1) Ls st)) :
    Aim p e below s CC SS n0 Q T (mkF m pc Ls (.int x :: .int j :: .ref a :: st)) := by
  obtain ⟨L, vm0, X, eT, N, hS, hZ, A⟩ := P
  obtain ⟨cl, B, q, S, M, H, U⟩ := V
  obtain ⟨T', h', X', e', W, st'⟩ := RoadKit.stB (s := s.setVm vm0) X hx hZ eT B (j := j) (inb_of S hj) (g := mkF m pc Ls (.int x :: .int j :: .ref a :: st)) rfl rfl hd
  exact Aim.of st' (cont T' h' ⟨_, vm0, X', e', Fr.snoc X' N ga, sinceUp hS (Keep.of_wr W).1, hZ, A.keep (Keep.of_wr W) (allS nl all0)⟩ (Keep.of_wr W) (Arv.set B q S M H U (fits_nar_byte _) W i hi hv))
theorem Aim.alen {pc : Nat} {Ls : Array Slot} {st : List Value} {a : Addr} {kk : ClassId} {ty : FieldType} {z : Int32} {vs : List Value} {dv : Value} (P : On p l e R s m args below meth c Z LC n0 T h k n Lc) (hx : p.tables.exec = Jvm.exec) (hZs : Z.Warmed39 s.vm) (V : Arv Z h a kk ty z vs dv)
    (hd : decode c.code pc = .ok (.arraylength, 1)) (cont : Aim p e below s CC SS n0 Q T (mkF m (pc + 1) Ls (.int z :: st))) : Aim p e below s CC SS n0 Q T (mkF m pc Ls (.ref a :: st)) := by
  obtain ⟨L, vm0, X, eT, N, hS, hZ, A⟩ := P
  obtain ⟨cl, B, q, S, M, H, U⟩ := V
  refine Aim.of (fun t kt => X.arraylength hx (by rw [eT]; exact B.1) (State.isArrayOf_alike (s := Z) (T := s.setVm vm0) hZ.alike B.2.1) (g := mkF m pc Ls (.ref a :: st)) rfl rfl hd t ?_) cont
  rw [len_of S M]; exact kt
theorem Aim.ldC {pc : Nat} {Ls : Array Slot} {st : List Value} {a : Addr} {kk : ClassId} {j z : Int32} {vs : List Value} {dv v : Value} (P : On p l e R s m args below meth c Z LC n0 T h k n Lc) (hx : p.tables.exec = Jvm.exec) (hZs : Z.Warmed39 s.vm) (V : Arv Z h a kk .char z vs dv) (hj : ¬ j < 0 ∧ j < z) (hv : vs.getD j.toNatClampNeg dv = v)
    (hd : decode c.code pc = .ok (.caload, 1)) (cont : Aim p e below s CC SS n0 Q T (mkF m (pc + 1) Ls (v :: st))) : Aim p e below s CC SS n0 Q T (mkF m pc Ls (.int j :: .ref a :: st)) := by
  obtain ⟨L, vm0, X, eT, N, hS, hZ, A⟩ := P
  obtain ⟨cl, B, q, S, M, H, U⟩ := V
  exact Aim.of (fun t kt => X.caload hx (j := j) (v := v) (by rw [eT]; exact B.1) (State.isArrayOf_alike (s := Z) (T := s.setVm vm0) hZ.alike B.2.1) B.2.2 (inb_of S hj) (H.at (inb_of S hj) hv) (g := mkF m pc Ls (.int j :: .ref a :: st)) rfl rfl hd t kt) cont
theorem Aim.ldB {pc : Nat} {Ls : Array Slot} {st : List Value} {a : Addr} {kk : ClassId} {j z : Int32} {vs : List Value} {dv v : Value} (P : On p l e R s m args below meth c Z LC n0 T h k n Lc) (hx : p.tables.exec = Jvm.exec) (hZs : Z.Warmed39 s.vm) (V : Arv Z h a kk .byte z vs dv) (hj : ¬ j < 0 ∧ j < z) (hv : vs.getD j.toNatClampNeg dv = v)
    (hd : decode c.code pc = .ok (.baload, 1)) (cont : Aim p e below s CC SS n0 Q T (mkF m (pc + 1) Ls (v :: st))) : Aim p e below s CC SS n0 Q T (mkF m pc Ls (.int j :: .ref a :: st)) := by
  obtain ⟨L, vm0, X, eT, N, hS, hZ, A⟩ := P
  obtain ⟨cl, B, q, S, M, H, U⟩ := V
  exact Aim.of (fun t kt => X.baloadBytes hx (j := j) (v := v) (by rw [eT]; exact B.1) (State.isArrayOf_alike (s := Z) (T := s.setVm vm0) hZ.alike B.2.1) B.2.2 (inb_of S hj) (H.at (inb_of S hj) hv) (g := mkF m pc Ls (.int j :: .ref a :: st)) rfl rfl hd t kt) cont
theorem Aim.initO {own : String} {index pc mx : Nat} {Ls : Array Slot} {st : List Value} {a : Addr} (P : On p l e R s m args below meth c Z LC n0 T h k n Lc) (hx : p.tables.exec = Jvm.exec) (hZs : Z.Warmed39 s.vm) (hml : c.maxLocals = mx) (hown : s.vm.findClass own = some m.cls) (w1 : (Cond.methodLink own index Lib.objectInit).before a0 Z = true) (w2 : (Cond.instanceMethod Lib.objectInit).before a0 Z = true)
    (w3 : (Cond.code Lib.objectInit ⟨#[0xb1]⟩ 1 none).before a0 Z = true) (hsz : Ls.size = mx) (hd : decode c.code pc = .ok (.invokespecial index, 3)) (hf : 1 ≤ R.frames) (hl : (st.map fun v => v.category).sum + 12 ≤ R.locals)
    (cont : ∀ T', On p l e R s m args below meth c Z LC n0 T' h k n Lc → Aim p e below s CC SS n0 Q T' (mkF m (pc + 3) Ls st)) : Aim p e below s CC SS n0 Q T (mkF m pc Ls (.ref a :: st)) := by
  obtain ⟨L, vm0, X, eT, N, hS, hZ, A⟩ := P
  have hown' := ownAt hS hown
  obtain ⟨T', X', e', st'⟩ := RoadKit.initO (s := s.setVm vm0) X hx hZ hown' w1 w2 w3 eT (g := mkF m pc Ls (.ref a :: st)) rfl (by rw [hml]; exact hsz) rfl hd hf (W := (st.map fun v => v.category).sum) (by show 2 * 0 + _ ≤ _; omega) hl
  exact Aim.of st' (cont T' ⟨L, vm0, X', e', N, hS, hZ, A⟩)
theorem Aim.ldcI {own : String} {index pc : Nat} {Ls : Array Slot} {st : List Value} {v : Int32} (P : On p l e R s m args below meth c Z LC n0 T h k n Lc) (hx : p.tables.exec = Jvm.exec) (hZs : Z.Warmed39 s.vm) (hown : s.vm.findClass own = some m.cls) (w : (Cond.constant own index v).before a0 Z = true) (hd : decode c.code pc = .ok (.ldc index, 2))
    (cont : Aim p e below s CC SS n0 Q T (mkF m (pc + 2) Ls (.int v :: st))) : Aim p e below s CC SS n0 Q T (mkF m pc Ls st) := by
  obtain ⟨L, vm0, X, eT, N, hS, hZ, A⟩ := P
  have hown' := ownAt hS hown
  exact Aim.of (fun t kt => X.ldcInt hx hown' (mvT (s := s.setVm vm0) hZ w) (g := mkF m pc Ls st) rfl hd t kt) cont
theorem Aim.ldcwI {own : String} {index pc : Nat} {Ls : Array Slot} {st : List Value} {v : Int32} (P : On p l e R s m args below meth c Z LC n0 T h k n Lc) (hx : p.tables.exec = Jvm.exec) (hZs : Z.Warmed39 s.vm) (hown : s.vm.findClass own = some m.cls) (w : (Cond.constant own index v).before a0 Z = true) (hd : decode c.code pc = .ok (.ldc_w index, 3))
    (cont : Aim p e below s CC SS n0 Q T (mkF m (pc + 3) Ls (.int v :: st))) : Aim p e below s CC SS n0 Q T (mkF m pc Ls st) := by
  obtain ⟨L, vm0, X, eT, N, hS, hZ, A⟩ := P
  have hown' := ownAt hS hown
  exact Aim.of (fun t kt => X.ldcwInt hx hown' (mvT (s := s.setVm vm0) hZ w) (g := mkF m pc Ls st) rfl hd t kt) cont
theorem Aim.ldcJ {own : String} {index pc : Nat} {Ls : Array Slot} {st : List Value} {v : Int64} (P : On p l e R s m args below meth c Z LC n0 T h k n Lc) (hx : p.tables.exec = Jvm.exec) (hZs : Z.Warmed39 s.vm) (hown : s.vm.findClass own = some m.cls) (w : (Cond.constantLong own index v).before a0 Z = true) (hd : decode c.code pc = .ok (.ldc2_w index, 3))
    (cont : Aim p e below s CC SS n0 Q T (mkF m (pc + 3) Ls (.long v :: st))) : Aim p e below s CC SS n0 Q T (mkF m pc Ls st) := by
  obtain ⟨L, vm0, X, eT, N, hS, hZ, A⟩ := P
  have hown' := ownAt hS hown
  exact Aim.of (fun t kt => X.ldc2Long hx hown' (mvT (s := s.setVm vm0) hZ w) (g := mkF m pc Ls st) rfl hd t kt) cont
theorem Aim.instNull {index pc : Nat} {Ls : Array Slot} {st : List Value} (P : On p l e R s m args below meth c Z LC n0 T h k n Lc) (hx : p.tables.exec = Jvm.exec) (hd : decode c.code pc = .ok (.instanceof index, 3))
    (cont : Aim p e below s CC SS n0 Q T (mkF m (pc + 3) Ls (.int 0 :: st))) : Aim p e below s CC SS n0 Q T (mkF m pc Ls (.null :: st)) := by
  obtain ⟨L, vm0, X, eT, N, hS, hZ, A⟩ := P
  exact Aim.of (fun t kt => X.instanceofNull hx (g := mkF m pc Ls (.null :: st)) rfl rfl hd t kt) cont
theorem Aim.castNull {index pc : Nat} {Ls : Array Slot} {st : List Value} (P : On p l e R s m args below meth c Z LC n0 T h k n Lc) (hx : p.tables.exec = Jvm.exec) (hd : decode c.code pc = .ok (.checkcast index, 3))
    (cont : Aim p e below s CC SS n0 Q T (mkF m (pc + 3) Ls (.null :: st))) : Aim p e below s CC SS n0 Q T (mkF m pc Ls (.null :: st)) := by
  obtain ⟨L, vm0, X, eT, N, hS, hZ, A⟩ := P
  exact Aim.of (fun t kt => X.checkcastNull hx (g := mkF m pc Ls (.null :: st)) rfl rfl hd t kt) cont
/-! calls -/
theorem Aim.callS {own : String} {index pc mx maxL dc ds W : Nat} {y : MethodName} {bytes : ByteArray} {ret : Option FieldType} {ps : List FieldType} {r : Option FieldType} {Ls : Array Slot} {argsL rest : List Value} {ws : List Addr} (P : On p l e R s m args below meth c Z LC n0 T h k n Lc) (hx : p.tables.exec = Jvm.exec) (hZs : Z.Warmed39 s.vm) (hml : c.maxLocals = mx) (hown : s.vm.findClass own = some m.cls)
    (w1 : (Cond.methodLink own index y).before a0 Z = true) (w2 : (Cond.static y).before a0 Z = true) (w3 : (Cond.initialized y.cls).before a0 Z = true) (w4 : (Cond.code y bytes maxL ret).before a0 Z = true) (hy : y.cls ≠ "java/lang/invoke/MethodHandle" ∧ y.cls ≠ "java/lang/invoke/VarHandle")
    (hK : ∀ vm0, Z.Warmed39 vm0 → Jvm.Y9.Bk l R p e below (s.setVm vm0) args y 3 W argsL.toArray h dc ds n0 QN) (qk : ∀ v h', QN v h' → Keep h h' ws) (hnl : ∀ x ∈ ws, x ∉ Lc) (hsz : Ls.size = mx) (hpd : parseMethodDescriptor y.desc = some ⟨ps, r⟩) (hln : argsL.length = ps.length) (hW : (rest.map fun v => v.category).sum ≤ W) (hd : decode c.code pc = .ok (.invokestatic index, 3)) (hc : k + dc ≤ R.cells) (hs : n + ds ≤ R.slots)
    (cont : ∀ T' h' v, On p l e R s m args below meth c Z LC n0 T' h' (k + dc) (n + ds) Lc → QN v h' → Aim p e below s CC SS n0 Q T' (mkF m (pc + 3) Ls (v.toList ++ rest))) : Aim p e below s CC SS n0 Q T (mkF m pc Ls (argsL.reverse ++ rest)) := by
  obtain ⟨L, vm0, X, eT, N, hS, hZ, A⟩ := P
  have hown' := ownAt hS hown
  have hB := hK vm0 hZ
  obtain ⟨v, vm1, ⟨T', L', k', n'⟩, -, X', ⟨Lc', ⟨hq, N'⟩, l', y', z'⟩, st'⟩ := Jvm.LawKit.callS (s := s.setVm vm0) X hx (y := y) hown' (mvT (s := s.setVm vm0) hZ w1) (mvT (s := s.setVm vm0) hZ w2) (mvT (s := s.setVm vm0) hZ w3) (mvT (s := s.setVm vm0) hZ w4) hy hB (g := mkF m pc Ls (argsL.reverse ++ rest)) rfl (by rw [hml]; exact hsz) (argsL := argsL) (rest := rest) (lenOf hpd hln) rfl (by show 2 * 0 + _ ≤ _; omega) hd (fun _ _ => ⟨rfl, eT, hc, hs⟩)
  dsimp only [Pt.U, Pt.locs, Pt.cells, Pt.slots] at X' l' y' z' st' hq
  subst l' y' z'
  exact Aim.of st' (cont T' _ v ⟨_, vm0, X', rfl, N.app N', sinceUp hS (qk _ _ hq).1, hZ, A.keep (qk _ _ hq) hnl⟩ hq)
theorem Aim.callSW {own : String} {index pc mx maxL dc ds W : Nat} {y : MethodName} {bytes : ByteArray} {ret : Option FieldType} {ps : List FieldType} {r : Option FieldType} {Ls : Array Slot} {argsL rest : List Value} (P : On p l e R s m args below meth c Z LC n0 T h k n Lc) (hx : p.tables.exec = Jvm.exec) (hZs : Z.Warmed39 s.vm) (hml : c.maxLocals = mx) (hown : s.vm.findClass own = some m.cls)
    (w1 : (Cond.methodLink own index y).before a0 Z = true) (w2 : (Cond.static y).before a0 Z = true) (w3 : (Cond.initialized y.cls).before a0 Z = true) (w4 : (Cond.code y bytes maxL ret).before a0 Z = true) (hy : y.cls ≠ "java/lang/invoke/MethodHandle" ∧ y.cls ≠ "java/lang/invoke/VarHandle")
    (hK : Bk l R p e below s args y 3 W argsL.toArray h dc ds Z LC n0 Lc QH) (hsz : Ls.size = mx) (hpd : parseMethodDescriptor y.desc = some ⟨ps, r⟩) (hln : argsL.length = ps.length) (hW : (rest.map fun v => v.category).sum ≤ W) (hd : decode c.code pc = .ok (.invokestatic index, 3)) (hc : k + dc ≤ R.cells) (hs : n + ds ≤ R.slots)
    (cont : ∀ T' h' v Lc', On p l e R s m args below meth c Z LC n0 T' h' (k + dc) (n + ds) Lc' → Grow Lc Lc' h.size → QH v h' Lc' → Aim p e below s CC SS n0 Q T' (mkF m (pc + 3) Ls (v.toList ++ rest))) : Aim p e below s CC SS n0 Q T (mkF m pc Ls (argsL.reverse ++ rest)) := by
  obtain ⟨L, vm0, X, eT, N, hS, hZ, A⟩ := P
  have hown' := ownAt hS hown
  have hB := hK vm0 hZ A
  obtain ⟨v, vm1, ⟨T', L', k', n'⟩, -, X', hS', hgr, ⟨Lx, ⟨⟨Lc', hq, A', rel⟩, N'⟩, l', y', z'⟩, st'⟩ := callSS (s := s.setVm vm0) X hx (y := y) hown' (mvT (s := s.setVm vm0) hZ w1) (mvT (s := s.setVm vm0) hZ w2) (mvT (s := s.setVm vm0) hZ w3) (mvT (s := s.setVm vm0) hZ w4) hy hB (g := mkF m pc Ls (argsL.reverse ++ rest)) rfl (by rw [hml]; exact hsz) (argsL := argsL) (rest := rest) (lenOf hpd hln) rfl (by show 2 * 0 + _ ≤ _; omega) hd (fun _ _ => ⟨rfl, eT, hc, hs⟩)
  dsimp only [Pt.U, Pt.locs, Pt.cells, Pt.slots] at X' l' y' z' st' hq A' hS' hgr
  subst l' y' z'
  have hS2 : s.Since T'.vm T'.heap.size := hS.trans hS' (by rw [← eT]; exact hgr)
  exact Aim.of (fun t kt => st'.trans kt) (cont T' _ v Lc' ⟨_, T'.vm, X', rfl, N.app N', hS2, State.Warmed39.trans (t := s.setVm vm0) hZ hS'.1, A'⟩ rel hq)
theorem Aim.callC {own : String} {index pc mx maxL dc ds W : Nat} {y : MethodName} {bytes : ByteArray} {ps : List FieldType} {r : Option FieldType} {Ls : Array Slot} {a : Addr} {argsL rest : List Value} {ws : List Addr} (P : On p l e R s m args below meth c Z LC n0 T h k n Lc) (hx : p.tables.exec = Jvm.exec) (hZs : Z.Warmed39 s.vm) (hml : c.maxLocals = mx) (hown : s.vm.findClass own = some m.cls)
    (hy1 : y.name = "<init>") (w1 : (Cond.methodLink own index y).before a0 Z = true) (w2 : (Cond.instanceMethod y).before a0 Z = true) (w4 : (Cond.code y bytes maxL none).before a0 Z = true) (hy : y.cls ≠ "java/lang/invoke/MethodHandle" ∧ y.cls ≠ "java/lang/invoke/VarHandle")
    (hK : ∀ vm0, Z.Warmed39 vm0 → Jvm.Y9.Bk l R p e below (s.setVm vm0) args y 3 W (.ref a :: argsL).toArray h dc ds n0 QN) (qk : ∀ v h', QN v h' → Keep h h' ws) (hnl : ∀ x ∈ ws, x ∉ Lc) (hsz : Ls.size = mx) (hpd : parseMethodDescriptor y.desc = some ⟨ps, r⟩) (hln : argsL.length = ps.length) (hW : (rest.map fun v => v.category).sum ≤ W) (hd : decode c.code pc = .ok (.invokespecial index, 3)) (hc : k + dc ≤ R.cells) (hs : n + ds ≤ R.slots)
    (cont : ∀ T' h' v, On p l e R s m args below meth c Z LC n0 T' h' (k + dc) (n + ds) Lc → QN v h' → Aim p e below s CC SS n0 Q T' (mkF m (pc + 3) Ls (v.toList ++ rest))) : Aim p e below s CC SS n0 Q T (mkF m pc Ls (argsL.reverse ++ .ref a :: rest)) := by
  obtain ⟨L, vm0, X, eT, N, hS, hZ, A⟩ := P
  have hown' := ownAt hS hown
  have hB := hK vm0 hZ
  obtain ⟨v, vm1, ⟨T', L', k', n'⟩, -, X', ⟨Lc', ⟨hq, N'⟩, l', y', z'⟩, st'⟩ := X.specialBack hx (y := y) hy1 hown' (mvT (s := s.setVm vm0) hZ w1) (mvT (s := s.setVm vm0) hZ w2) (mvT (s := s.setVm vm0) hZ w4) hy hB (g := mkF m pc Ls (argsL.reverse ++ .ref a :: rest)) rfl (by rw [hml]; exact hsz) (Steps.refl _) (a := a) (argsL := argsL) (rest := rest) (lenOf hpd hln) rfl (by show 2 * 0 + _ ≤ _; omega) hd (fun _ _ => ⟨rfl, eT, hc, hs⟩)
  dsimp only [Pt.U, Pt.locs, Pt.cells, Pt.slots] at X' l' y' z' st' hq
  subst l' y' z'
  exact Aim.of (fun t kt => st'.trans kt) (cont T' _ v ⟨_, vm0, X', rfl, N.app N', sinceUp hS (qk _ _ hq).1, hZ, A.keep (qk _ _ hq) hnl⟩ hq)
theorem Aim.callCW {own : String} {index pc mx maxL dc ds W : Nat} {y : MethodName} {bytes : ByteArray} {ps : List FieldType} {r : Option FieldType} {Ls : Array Slot} {a : Addr} {argsL rest : List Value} (P : On p l e R s m args below meth c Z LC n0 T h k n Lc) (hx : p.tables.exec = Jvm.exec) (hZs : Z.Warmed39 s.vm) (hml : c.maxLocals = mx) (hown : s.vm.findClass own = some m.cls)
    (hy1 : y.name = "<init>") (w1 : (Cond.methodLink own index y).before a0 Z = true) (w2 : (Cond.instanceMethod y).before a0 Z = true) (w4 : (Cond.code y bytes maxL none).before a0 Z = true) (hy : y.cls ≠ "java/lang/invoke/MethodHandle" ∧ y.cls ≠ "java/lang/invoke/VarHandle")
    (hK : Bk l R p e below s args y 3 W (.ref a :: argsL).toArray h dc ds Z LC n0 Lc QH) (hsz : Ls.size = mx) (hpd : parseMethodDescriptor y.desc = some ⟨ps, r⟩) (hln : argsL.length = ps.length) (hW : (rest.map fun v => v.category).sum ≤ W) (hd : decode c.code pc = .ok (.invokespecial index, 3)) (hc : k + dc ≤ R.cells) (hs : n + ds ≤ R.slots)
    (cont : ∀ T' h' v Lc', On p l e R s m args below meth c Z LC n0 T' h' (k + dc) (n + ds) Lc' → Grow Lc Lc' h.size → QH v h' Lc' → Aim p e below s CC SS n0 Q T' (mkF m (pc + 3) Ls (v.toList ++ rest))) : Aim p e below s CC SS n0 Q T (mkF m pc Ls (argsL.reverse ++ .ref a :: rest)) := by
  obtain ⟨L, vm0, X, eT, N, hS, hZ, A⟩ := P
  have hown' := ownAt hS hown
  have hB := hK vm0 hZ A
  obtain ⟨v, vm1, ⟨T', L', k', n'⟩, -, X', hS', hgr, ⟨Lx, ⟨⟨Lc', hq, A', rel⟩, N'⟩, l', y', z'⟩, st'⟩ := X.specialBackS hx (y := y) hy1 hown' (mvT (s := s.setVm vm0) hZ w1) (mvT (s := s.setVm vm0) hZ w2) (mvT (s := s.setVm vm0) hZ w4) hy hB (g := mkF m pc Ls (argsL.reverse ++ .ref a :: rest)) rfl (by rw [hml]; exact hsz) (Steps.refl _) (a := a) (argsL := argsL) (rest := rest) (lenOf hpd hln) rfl (by show 2 * 0 + _ ≤ _; omega) hd (fun _ _ => ⟨rfl, eT, hc, hs⟩)
  dsimp only [Pt.U, Pt.locs, Pt.cells, Pt.slots] at X' l' y' z' st' hq A' hS' hgr
  subst l' y' z'
  have hS2 : s.Since T'.vm T'.heap.size := hS.trans hS' (by rw [← eT]; exact hgr)
  exact Aim.of (fun t kt => st'.trans kt) (cont T' _ v Lc' ⟨_, T'.vm, X', rfl, N.app N', hS2, State.Warmed39.trans (t := s.setVm vm0) hZ hS'.1, A'⟩ rel hq)
theorem Aim.callV {own C : String} {index pc mx dc ds W : Nat} {y z : MethodName} {ps : List FieldType} {r : Option FieldType} {Ls : Array Slot} {a : Addr} {argsL rest : List Value} {ws : List Addr} (P : On p l e R s m args below meth c Z LC n0 T h k n Lc) (hx : p.tables.exec = Jvm.exec) (hZs : Z.Warmed39 s.vm) (hml : c.maxLocals = mx) (hown : s.vm.findClass own = some m.cls)
    (w1 : (Cond.methodLink own index y).before a0 Z = true) (w2 : (Cond.declares y).before a0 Z = true) (nf : ∀ vm0, Z.Warmed39 vm0 → NotFace (s.setVm vm0) y) (w3 : (Cond.selects C y z).before a0 Z = true) (w4 : (Cond.instanceMethod z).before a0 Z = true) (hy : y.cls ≠ "java/lang/invoke/MethodHandle" ∧ y.cls ≠ "java/lang/invoke/VarHandle") (E : Exa Z h a C)
    (hK : ∀ vm0, Z.Warmed39 vm0 → Jvm.Y9.Bk l R p e below (s.setVm vm0) args z 3 W (.ref a :: argsL).toArray h dc ds n0 QN) (qk : ∀ v h', QN v h' → Keep h h' ws) (hnl : ∀ x ∈ ws, x ∉ Lc) (hsz : Ls.size = mx) (hpd : parseMethodDescriptor y.desc = some ⟨ps, r⟩) (hln : argsL.length = ps.length) (hW : (rest.map fun v => v.category).sum ≤ W) (hd : decode c.code pc = .ok (.invokevirtual index, 3)) (hc : k + dc ≤ R.cells) (hs : n + ds ≤ R.slots)
    (cont : ∀ T' h' v, On p l e R s m args below meth c Z LC n0 T' h' (k + dc) (n + ds) Lc → QN v h' → Aim p e below s CC SS n0 Q T' (mkF m (pc + 3) Ls (v.toList ++ rest))) : Aim p e below s CC SS n0 Q T (mkF m pc Ls (argsL.reverse ++ .ref a :: rest)) := by
  obtain ⟨L, vm0, X, eT, N, hS, hZ, A⟩ := P
  have hown' := ownAt hS hown
  obtain ⟨cq, kq, qa, qb, qc⟩ := isOf (s := s.setVm vm0) hZ eT E
  have hB := hK vm0 hZ
  obtain ⟨v, vm1, ⟨T', L', k', n'⟩, -, X', ⟨Lc', ⟨hq, N'⟩, l', y', z'⟩, st'⟩ := X.virtualBack hx (y := y) (z := z) hown' (mvT (s := s.setVm vm0) hZ w1) (mvT (s := s.setVm vm0) hZ w2) (nf vm0 hZ) (mvT (s := s.setVm vm0) hZ w3) (mvT (s := s.setVm vm0) hZ w4) hy hB qa qc (g := mkF m pc Ls (argsL.reverse ++ .ref a :: rest)) rfl (by rw [hml]; exact hsz) (Steps.refl _) (argsL := argsL) (rest := rest) (lenOf hpd hln) rfl (by show 2 * 0 + _ ≤ _; omega) hd (fun _ _ => ⟨rfl, eT, hc, hs⟩)
  dsimp only [Pt.U, Pt.locs, Pt.cells, Pt.slots] at X' l' y' z' st' hq
  subst l' y' z'
  exact Aim.of (fun t kt => st'.trans kt) (cont T' _ v ⟨_, vm0, X', rfl, N.app N', sinceUp hS (qk _ _ hq).1, hZ, A.keep (qk _ _ hq) hnl⟩ hq)
theorem Aim.callI {own C : String} {index count pc mx dc ds W : Nat} {y z : MethodName} {ps : List FieldType} {r : Option FieldType} {Ls : Array Slot} {a : Addr} {argsL rest : List Value} {ws : List Addr} (P : On p l e R s m args below meth c Z LC n0 T h k n Lc) (hx : p.tables.exec = Jvm.exec) (hZs : Z.Warmed39 s.vm) (hml : c.maxLocals = mx) (hown : s.vm.findClass own = some m.cls)
    (w1 : (Cond.methodLink own index y).before a0 Z = true) (w2 : (Cond.declares y).before a0 Z = true) (w5 : (Cond.interfaceMethod y.cls y.cls y.name y.desc).before a0 Z = true) (w3 : (Cond.selects C y z).before a0 Z = true) (w4 : (Cond.instanceMethod z).before a0 Z = true) (w6 : (Cond.publicMethod z).before a0 Z = true) (w7 : (Cond.unhidden C y.name y.desc).before a0 Z = true) (w8 : (Cond.castable C y.cls).before a0 Z = true) (hy : y.cls ≠ "java/lang/invoke/MethodHandle" ∧ y.cls ≠ "java/lang/invoke/VarHandle") (E : Exa Z h a C)
    (hK : ∀ vm0, Z.Warmed39 vm0 → Jvm.Y9.Bk l R p e below (s.setVm vm0) args z 5 W (.ref a :: argsL).toArray h dc ds n0 QN) (qk : ∀ v h', QN v h' → Keep h h' ws) (hnl : ∀ x ∈ ws, x ∉ Lc) (hsz : Ls.size = mx) (hpd : parseMethodDescriptor y.desc = some ⟨ps, r⟩) (hln : argsL.length = ps.length) (hW : (rest.map fun v => v.category).sum ≤ W) (hd : decode c.code pc = .ok (.invokeinterface index count, 5)) (hc : k + dc ≤ R.cells) (hs : n + ds ≤ R.slots)
    (cont : ∀ T' h' v, On p l e R s m args below meth c Z LC n0 T' h' (k + dc) (n + ds) Lc → QN v h' → Aim p e below s CC SS n0 Q T' (mkF m (pc + 5) Ls (v.toList ++ rest))) : Aim p e below s CC SS n0 Q T (mkF m pc Ls (argsL.reverse ++ .ref a :: rest)) := by
  obtain ⟨L, vm0, X, eT, N, hS, hZ, A⟩ := P
  have hown' := ownAt hS hown
  obtain ⟨cq, kq, qa, qb, qc⟩ := isOf (s := s.setVm vm0) hZ eT E
  have hB := hK vm0 hZ
  obtain ⟨v, vm1, ⟨T', L', k', n'⟩, -, X', ⟨Lc', ⟨hq, N'⟩, l', y', z'⟩, st'⟩ := X.interfaceBack hx (xi := y) (y := z) hown' (mvT (s := s.setVm vm0) hZ w1) (mvT (s := s.setVm vm0) hZ w2) (mvT (s := s.setVm vm0) hZ w5 (by simp [Cond.onTables, Cond.keepsFace, Cond.keeps, Cond.steady, Cond.faceAtom, hy.1, hy.2])) (mvT (s := s.setVm vm0) hZ w3) (mvT (s := s.setVm vm0) hZ w4) (mvT (s := s.setVm vm0) hZ w6) (mvT (s := s.setVm vm0) hZ w7) (mvT (s := s.setVm vm0) hZ w8) hy hB qa qb qc (g := mkF m pc Ls (argsL.reverse ++ .ref a :: rest)) rfl (by rw [hml]; exact hsz) (Steps.refl _) (argsL := argsL) (rest := rest) (lenOf hpd hln) rfl (by show 2 * 0 + _ ≤ _; omega) hd (fun _ _ => ⟨rfl, eT, hc, hs⟩)
  dsimp only [Pt.U, Pt.locs, Pt.cells, Pt.slots] at X' l' y' z' st' hq
  subst l' y' z'
  exact Aim.of (fun t kt => st'.trans kt) (cont T' _ v ⟨_, vm0, X', rfl, N.app N', sinceUp hS (qk _ _ hq).1, hZ, A.keep (qk _ _ hq) hnl⟩ hq)
end Base
end Jvm.Q9
namespace Jvm.Q9
open Sem ClassFile Op Lib Jvm.Stand Jvm.Free Jvm.LawKit Jvm.RoadKit Jvm.S9
section LitW
theorem Exa.alike {Z U : State} {h : Heap} {a : Addr} {C : String} (hal : Z.vm.Alike U.vm) (F : Exa Z h a C) : Exa U h a C := by
  obtain ⟨cell, k, h1, h2, h3, h4, h5⟩ := F
  obtain ⟨k', q1, q2⟩ := hal.2.2 _ _ h3
  exact ⟨cell, k', h1, by rw [hal.findClass]; exact h2, q1, h4, fun ho => by rw [q2] at ho ⊢; exact h5 ho⟩
theorem Fld.alike {Z U : State} {h : Heap} {a : Addr} {C f d : String} {v : Value} (hal : Z.vm.Alike U.vm) (F : Fld Z h a C f d v) : Fld U h a C f d v := by
  obtain ⟨cell, cf, k, i, fd, h1, h2, h3, h4, h5, h6, h7⟩ := F
  obtain ⟨k', q1, -⟩ := State.fieldFound?_setVm (s := Z) hal h2
  exact ⟨cell, cf, k', i, fd, h1, q1, h3, h4, h5, by rw [hal.assignable]; exact h6, h7⟩
theorem Arv.alike {Z U : State} {h : Heap} {a : Addr} {kk : ClassId} {ty : FieldType} {z : Int32} {vs : List Value} {d : Value} (hal : Z.vm.Alike U.vm) (F : Arv Z h a kk ty z vs d) : Arv U h a kk ty z vs d := by
  obtain ⟨c, ⟨h1, h2, h3⟩, r⟩ := F
  exact ⟨c, ⟨h1, State.isArrayOf_alike hal h2, h3⟩, r⟩
theorem Str.alike {Z U : State} {h : Heap} {x t : Addr} {kb : ClassId} {cs : List Int32} (hal : Z.vm.Alike U.vm) (F : Str Z h x t kb cs) : Str U h x t kb cs :=
  ⟨Exa.alike hal F.1, Fld.alike hal F.2.1, Fld.alike hal F.2.2.1, Arv.alike hal F.2.2.2.1, F.2.2.2.2⟩
theorem byte_code : ∀ k : Fin 256, (Int32.ofNat k.val).toInt8.toInt32 = Jvm.Lit.byteI k.val.toUInt16 ∧ ¬ Int32.ofNat k.val < 0 ∧ ¬ (255 : Int32) < Int32.ofNat k.val := by decide +kernel
theorem ofNat_clamp {n : Nat} (h : n ≤ 4000) : (Int32.ofNat n).toNatClampNeg = n ∧ ¬ Int32.ofNat n < 0 := by
  have e : (Int32.ofNat n).toInt = n := Int32.toInt_ofNat_of_lt (by omega)
  have z : (0 : Int32).toInt = 0 := by decide
  refine ⟨?_, fun q => ?_⟩
  · show (Int32.ofNat n).toInt.toNat = n
    rw [e]; rfl
  · rw [Int32.lt_iff_toInt_lt, e, z] at q; omega
theorem strOf {W : State} {lo hi : Nat} {a : Addr} {units : Array UInt16} {text : String} (H : SlIn lo hi W a units) (htext : utf16ToString? units = some text) (ht : ∀ c ∈ text.toList, c.toNat < 256) (h4 : text.toList.length ≤ 4000) :
    ∃ b kk, Str W W.heap a b kk (cod text) ∧ ((a < lo ∧ b < lo) ∨ (hi ≤ a ∧ hi ≤ b)) := by
  obtain ⟨q, cS, rfl, ⟨L1, hfS, hcS⟩, ⟨kS, k1, k2, k3⟩, hB, hby, hin⟩ := H
  obtain ⟨g1, g2, g3, ⟨cv, kv, iv, f1, f2⟩, ⟨cc, kc, ic, f3, f4⟩, g6, g7, g8, g9, g10, g11, g12, -⟩ := L1
  have hu := Jvm.ClassFile.units_of_text htext ht
  have hlat := Jvm.ClassFile.lat_of_text htext ht
  have hlen : units.size = text.toList.length := by rw [← Array.length_toList, hu, List.length_map]
  have hsl : q.SA.slots = units.map fun u => Value.int (Jvm.Lit.byteI u) := by rw [hby, Jvm.Free.SBG.stringBytes_lat hlat]; rfl
  have hvs : (cod text).map (fun c => Value.int (c.toInt8.toInt32)) = (units.map fun u => Value.int (Jvm.Lit.byteI u)).toList := by
    rw [Array.toList_map, hu]
    simp only [cod, List.map_map]
    refine List.map_congr_left fun c hc => ?_
    have := (byte_code ⟨c.toNat, ht c hc⟩).1
    simp only [Function.comp_apply]
    rw [this]
  have hcl : (cod text).length = text.toList.length := by simp [cod]
  refine ⟨q.sd, q.SA.cls, ⟨⟨q.sC, kS, g1, by rw [hcS]; exact hfS, by rw [hcS]; exact k1, g3, fun _ => k3⟩, ⟨q.sC, cv, kv, iv, q.fSV, g1, f1, g6, g2, g3, f2, g8⟩, ⟨q.sC, cc, kc, ic, q.fSC, g1, f3, g7, g2, g3, f4, g9⟩, ⟨q.SA, ⟨g10, g11, g12⟩, rfl, ?_, ?_, ?_, ?_⟩, ?_, by rw [hcl]; exact h4⟩, hin⟩
  · rw [hcl, (ofNat_clamp h4).1, hsl, Array.size_map, hlen]
  · rw [hcl]; exact (ofNat_clamp h4).2
  · intro j hj
    rw [hvs, hsl]
    rw [hsl] at hj
    rw [List.getD_eq_getElem?_getD, Array.getElem?_toList, Array.getElem?_eq_getElem hj]
    rfl
  · intro j hj
    rw [hvs]
    rw [hsl] at hj
    rw [List.getD_eq_getElem?_getD, Array.getElem?_toList, Array.getElem?_eq_getElem hj]
    simp only [Option.getD_some, Array.getElem_map]
    exact Jvm.Free.SBG.fits_of_int8 _
  · intro c hc
    simp only [cod, List.mem_map] at hc
    obtain ⟨d, hd, rfl⟩ := hc
    exact (byte_code ⟨d.toNat, ht d hd⟩).2
variable {p : Program} {l : Launch} {e : Env} {R : Room} {s : State} {m : MethodId} {args : Array Value} {below : List Frame} {meth : Method} {c : Code} {T : State} {h : Heap} {n0 k n : Nat} {Z : State} {a0 : Array Value} {LC : List (String × Nat × String) × (Array (Array UInt16 × Addr) → Prop)} {Lc : List Addr}
theorem resolved_found {vm : Vm} {text : String} {index : Nat} {cl : ClassId} {k k' : Class} {cf : ClassFile} {i : Nat} {units : Array UInt16} {a : Addr} (hW : Z.Warmed39 vm) (hk : Z.vm.classes[cl]? = some k) (hcf : k.cf = some cf) (hc : cf.constantPool[index]? = some (.string i)) (hu : cf.constantPool[i]? = some (.utf8 units)) (hnm : namesOf? cf.constantPool index = some (.string text))
    (ho : k.resolved[index]? = some none) (hk' : vm.classes[cl]? = some k') (hr : k'.resolved[index]? = some (some (.string a))) : vm.interned.find? (fun q => q.1 == units) = some (units, a) := by
  obtain ⟨k2, q1, -, -, ee, -⟩ := hW.2.2.2 _ k hk
  cases hk'.symm.trans q1
  rcases ee index with e0 | ⟨-, r, e1, hr' | ⟨a', t, si, us, e2, -, e3, e4, e5⟩⟩
  · rw [e0, ho] at hr; cases hr
  · exfalso
    cases r <;> simp [State.rightAt, hk, hcf, hnm] at hr'
  · subst e2
    rw [hr] at e1
    cases e1
    rw [hcf] at e3 e4
    have i1 : si = i := by simpa using e3.symm.trans hc
    subst i1
    have i2 : us = units := by simpa [ConstantPool.utf8?, hu] using e4.symm
    subst i2
    exact e5
theorem stays_open {vm : Vm} {text : String} {index : Nat} {cl : ClassId} {k k' : Class} {cf : ClassFile} (hW : s.WarmedH vm) (hk : s.vm.classes[cl]? = some k) (hcf : k.cf = some cf) (hnm : namesOf? cf.constantPool index = some (.string text)) (ho : k.resolved[index]? = some none) (hk' : vm.classes[cl]? = some k') : k'.resolved[index]? = some none := by
  obtain ⟨k2, q1, -, -, ee, -⟩ := hW.2.2 _ k hk
  cases hk'.symm.trans q1
  rcases ee index with e0 | ⟨-, r, -, hr'⟩
  · rw [e0]; exact ho
  · exfalso
    cases r <;> simp [State.rightAt, hk, hcf, hnm] at hr'
theorem ldcFound {locs : List Loc} (X : Stand p l e R s m args below meth c T locs k n) (hx : p.tables.exec = Jvm.exec) {text : String} {index pc : Nat} {Ls : Array Slot} {st : List Value} {kc : Class} {cf : ClassFile} {i : Nat} {units : Array UInt16} {a : Addr}
    (hk : s.vm.classes[m.cls]? = some kc) (hcf : kc.cf = some cf) (hc : cf.constantPool[index]? = some (.string i)) (hu : cf.constantPool[i]? = some (.utf8 units)) (hnm : namesOf? cf.constantPool index = some (.string text)) (ho : kc.resolved[index]? = some none)
    (hf : s.vm.interned.find? (fun q => q.1 == units) = some (units, a)) (hd : decode c.code pc = .ok (.ldc index, 2)) :
    ∃ T', Stand p l e R (s.setVm T'.vm) m args below meth c T' locs k n ∧ T'.heap = T.heap ∧ s.Since T'.vm T.heap.size ∧ T'.vm.interned = s.vm.interned ∧ ∀ t, Steps p.tables e below (T'.setTop (mkF m (pc + 2) Ls (.ref a :: st))) t → Steps p.tables e below (T.setTop (mkF m pc Ls st)) t := by
  obtain ⟨k', hk', he⟩ := X.warmed.alike.2.2 _ _ hk
  have hcf' : k'.cf = some cf := by rw [he]; exact hcf
  have ho' : k'.resolved[index]? = some none := stays_open X.warmed hk hcf hnm ho hk'
  have hf' : T.vm.interned.find? (fun q => q.1 == units) = some (units, a) := by rw [X.warmed.interned_eq]; exact hf
  have hW : s.Warmed39 (T.vm.noted m.cls index (.string a)) := X.warmed.wide.notedString hk (Or.inl ho) (text := text) (by rw [hcf]; exact hnm) (si := i) (by rw [hcf]; exact hc) (by rw [hcf]; simp [ConstantPool.utf8?, hu]) hf'
  refine ⟨T.setVm (T.vm.noted m.cls index (.string a)), X.retabled hW, rfl, ⟨hW, X.warmed.no_new_pair _⟩, X.warmed.interned_eq, fun t kt => ?_⟩
  jvm_step X.here [hx, hd, ldc.wp_string_found (e := e) (s := T) (f := mkF m pc Ls st) X.here.top hk' hcf' hc hu ho' hf']
  exact kt
def LitZ (Z : State) (c : String × Nat × String) : Prop := ∀ a, Lit Z c.1 c.2.1 a → ∃ b kk, Str Z Z.heap a b kk (cod c.2.2)
theorem lit_open {own : String} {index : Nat} {cl : ClassId} {k : Class} (hf : Z.vm.findClass own = some cl) (hk : Z.vm.classes[cl]? = some k) : (k.resolved[index]? = some none → Z.resolvedAt? own index = none) ∧ ∀ a, k.resolved[index]? = some (some (.string a)) → Lit Z own index a := by
  refine ⟨fun q => ?_, fun a q => ?_⟩
  · simp [State.resolvedAt?, hf, hk, q]
  · simp [Lit, State.resolvedAt?, hf, hk, q]
variable {CC SS : Nat} {Q : Option Value → Heap → Array (Array UInt16 × Addr) → Prop}
def Fnd (Z : State) (own : String) (index : Nat) (text : String) (it : Array (Array UInt16 × Addr)) : Prop := Z.resolvedAt? own index = none → ∀ units : Array UInt16, utf16ToString? units = some text → ∃ a, it.find? (fun q => q.1 == units) = some (units, a)
theorem On.weakTo {F : Array (Array UInt16 × Addr) → Prop} (P : On p l e R s m args below meth c Z (LC.1, F) n0 T h k n Lc) (q : ∀ it, F it → LC.2 it) : On p l e R s m args below meth c Z LC n0 T h k n Lc := by
  obtain ⟨L, vm0, X, eT, N, hS, hZ, A1, A2, A3⟩ := P
  exact ⟨L, vm0, X, eT, N, hS, hZ, A1, A2, q _ A3⟩
theorem units_eq {u v : Array UInt16} {text : String} (h1 : utf16ToString? u = some text) (h2 : utf16ToString? v = some text) (ht : ∀ c ∈ text.toList, c.toNat < 256) : u = v := by
  apply Array.ext'
  rw [Jvm.ClassFile.units_of_text h1 ht, Jvm.ClassFile.units_of_text h2 ht]
theorem Aim.ldcK {own text : String} {index pc : Nat} {Ls : Array Slot} {st : List Value} (P : On p l e R s m args below meth c Z LC n0 T h k n Lc) (hx : p.tables.exec = Jvm.exec) (hZs : Z.Warmed39 s.vm) (hown : s.vm.findClass own = some m.cls) (w : (Cond.stringLink own index text).before a0 Z = true) (wS : ∀ a ∈ Bundle.stringAtoms, a.before a0 Z = true) (hm : (own, index, text) ∈ LC.1)
    (ht : ∀ c ∈ text.toList, c.toNat < 256) (h4 : text.toList.length ≤ 4000) (G : LitZ Z (own, index, text)) (O : Old Z n0 h) (hold : ∀ (b : Addr) (cl : Cell), s.heap[b]? = some cl → h[b]? = some cl) (hd : decode c.code pc = .ok (.ldc index, 2)) {cap : Nat} (hcap : 4 * text.toList.length ≤ cap) (hbig : cap ≤ 536870912) (hc : k + 2 ≤ R.cells) (hs : n + (cap + 4) ≤ R.slots)
    (cont : ∀ T' h' a b kk Lc', On p l e R s m args below meth c Z (LC.1, Fnd Z own index text) n0 T' h' (k + 2) (n + (cap + 4)) Lc' → Keep h h' [] → Grow Lc Lc' h.size → Str Z h' a b kk (cod text) → (a < n0 ∨ a ∈ Lc') → (b < n0 ∨ b ∈ Lc') → Aim p e below s CC SS n0 Q T' (mkF m (pc + 2) Ls (.ref a :: st))) :
    Aim p e below s CC SS n0 Q T (mkF m pc Ls st) := by
  obtain ⟨L, vm0, X, eT, N, hS, hZ, A⟩ := P
  have hown' := ownAt hS hown
  have hownZ : Z.vm.findClass own = some m.cls := by rw [← hZ.alike.findClass]; exact hown'
  obtain ⟨kz, cf, i, units, hkz, hcf, hcp, hu, hnm, hdec, hres⟩ := Cond.stringLink_spec hownZ w
  rcases hres with hopen | ⟨a, hra⟩
  · have hoZ := (lit_open hownZ hkz).1 hopen
    have w' : (Cond.stringLink own index text).before args (s.setVm vm0) = true := mvS hZ w
    obtain ⟨kb, cf', i', units', hkb, hcf', hcp', hu', hnm', hdec', hres'⟩ := Cond.stringLink_spec (s := s.setVm vm0) hown' w'
    obtain ⟨kz', hkz', ekz⟩ := hZ.alike.2.2 _ _ hkz
    have ek : kz' = kb := Option.some.inj (hkz'.symm.trans hkb)
    have ecf : cf' = cf := by rw [← ek, ekz] at hcf'; exact Option.some.inj (hcf'.symm.trans hcf)
    subst ecf
    have ei : i' = i := by simpa using hcp'.symm.trans hcp
    subst ei
    have eu : units' = units := by simpa using hu'.symm.trans hu
    subst eu
    rcases hres' with ho | ⟨a, hra⟩
    · cases hf : vm0.interned.find? (fun q => q.1 == units') with
      | some pr =>
        obtain ⟨u, a⟩ := pr
        have e1 : u = units' := by simpa using Array.find?_some hf
        subst e1
        obtain ⟨b, kk, F, ha, hb⟩ := A.2.1 _ hm hoZ _ a hdec hf
        obtain ⟨T', X', e', hS', ei, st'⟩ := ldcFound (s := s.setVm vm0) (T := T) X hx (Ls := Ls) (st := st) hkb hcf' hcp hu hnm' ho hf hd
        refine Aim.of st' (cont T' h a b kk Lc ⟨L, T'.vm, X'.more (by omega) (by omega), e'.trans eT, N, hS.trans (by rw [eT] at hS'; exact hS') (Nat.le_refl _), State.Warmed39.trans (t := s.setVm vm0) hZ hS'.1, ?_⟩ (Keep.refl h []) (Grow.refl _ _) F (Or.inr ha) (Or.inr hb))
        rw [ei]; exact ⟨A.1, A.2.1, fun _ v hv => ⟨a, units_eq hdec hv ht ▸ hf⟩⟩
      | none =>
        have hH : ConstHeldL (s.setVm vm0) own index := by
          intro c1 k1 cf1 i1 u1 a1 q1 q2 q3 q4 q5 q6
          cases hown'.symm.trans q1
          cases hkb.symm.trans q2
          cases hcf'.symm.trans q3
          have j1 : i1 = i' := by simpa using q4.symm.trans hcp
          subst j1
          have j2 : u1 = units' := by simpa using q5.symm.trans hu
          subst j2
          rcases q6 with q6 | ⟨-, q6⟩
          · rw [ho] at q6; cases q6
          · rw [show (s.setVm vm0).vm.interned = vm0.interned from rfl, hf] at q6; cases q6
        have hAt : ∀ a ∈ Bundle.stringAtoms, a.before args (s.setVm vm0) = true := fun d hd => by
          have q := wS d hd
          simp only [Bundle.stringAtoms, List.mem_cons, List.not_mem_nil, or_false] at hd
          rcases hd with rfl | rfl | rfl | rfl | rfl | rfl | rfl
          · exact mv (s := s.setVm vm0) hZ q
          · exact mv (s := s.setVm vm0) hZ q
          · exact mvA (s := s.setVm vm0) hZ q
          · exact mv (s := s.setVm vm0) hZ q
          · exact mv (s := s.setVm vm0) hZ q
          · exact mv (s := s.setVm vm0) hZ q
          · exact mv (s := s.setVm vm0) hZ q
        obtain ⟨a, T', X', hS', ⟨k2, hk2, hr2⟩, hb, -, hint, ⟨u2, hd2, hin⟩, st'⟩ := X.ldcColdF (fun b cl q => by rw [eT]; exact hold b cl q) hx hown' w' hAt hH (fun u q => Jvm.ClassFile.lat_of_text q ht) (g := mkF m pc Ls st) rfl hd hcap hbig hc hs
        have hW' : Z.Warmed39 T'.vm := State.Warmed39.trans (t := s.setVm vm0) hZ hS'.1
        obtain ⟨b, kk, F0, hpos⟩ := strOf hin hd2 ht h4
        have F : Str Z T'.heap a b kk (cod text) := Str.alike hW'.alike.symm F0
        have hfa : T'.vm.interned.find? (fun q => q.1 == units') = some (units', a) := resolved_found (Z := s.setVm vm0) (vm := T'.vm) hS'.1 hkb hcf' hcp hu hnm' ho hk2 hr2
        have hE : Ext h T'.heap := by subst eT; exact ext_of hb
        have hK : Keep h T'.heap [] := (Keep.refl h []).ext hE
        have hTi : T.vm.interned = vm0.interned := X.warmed.interned_eq
        have hnew : h.size ≤ a ∧ h.size ≤ b := by
          have hlo : s.heap.size ≤ h.size := by have := X.same.2.1; rw [← eT]; exact this
          rcases hpos with ⟨q1, q2⟩ | ⟨q1, q2⟩
          · exfalso
            rcases hint with q | ⟨u3, a3, -, q⟩
            · rw [q, hTi, hf] at hfa; cases hfa
            · obtain ⟨-, hB⟩ := hS'
              have hsz : T'.vm.interned[vm0.interned.size]? = some (u3, a3) := by rw [q, hTi]; simp
              have := hB vm0.interned.size (u3, a3) (Nat.le_refl _) hsz
              rw [q, hTi, Array.find?_push, hf] at hfa
              simp only [Option.none_or] at hfa
              split at hfa
              · cases hfa
                exact absurd this.1 (Nat.not_le_of_lt q1)
              · cases hfa
          · subst eT; exact ⟨q1, q2⟩
        refine Aim.of st' (cont T' _ a b kk (a :: b :: Lc) ⟨L, T'.vm, X', rfl, N, hS.trans hS' hE.1, hW', ?_, ?_, fun _ v hv => ⟨a, units_eq hdec hv ht ▸ hfa⟩⟩ hK ?_ F (Or.inr (List.mem_cons_self ..)) (Or.inr (List.mem_cons_of_mem _ (List.mem_cons_self ..))))
        · intro x hx
          rcases List.mem_cons.mp hx with rfl | hx
          · exact F.lt
          · rcases List.mem_cons.mp hx with rfl | hx
            · exact F.ltb
            · exact Nat.lt_of_lt_of_le (A.1 x hx) hE.1
        · intro c1 hc1 ho1 u1 a1 hu1 hf1
          have old' : vm0.interned.find? (fun q => q.1 == u1) = some (u1, a1) → ∃ b2 kk, Str Z T'.heap a1 b2 kk (cod c1.2.2) ∧ a1 ∈ a :: b :: Lc ∧ b2 ∈ a :: b :: Lc := fun q => by
            obtain ⟨b1, kk1, F1, m1, m2⟩ := A.2.1 c1 hc1 ho1 u1 a1 hu1 q
            exact ⟨b1, kk1, F1.keep hK nin0 nin0, List.mem_cons_of_mem _ (List.mem_cons_of_mem _ m1), List.mem_cons_of_mem _ (List.mem_cons_of_mem _ m2)⟩
          rcases hint with q | ⟨u3, a3, hu3, q⟩
          · rw [q, hTi] at hf1
            exact old' hf1
          · by_cases he : u3 = u1
            · subst he
              have et : c1.2.2 = text := Option.some.inj (hu1.symm.trans hu3)
              have e5 : u3 = units' := by
                apply Array.ext'
                rw [Jvm.ClassFile.units_of_text hu3 ht, Jvm.ClassFile.units_of_text hdec ht]
              subst e5
              have ea : a1 = a := by have := hf1.symm.trans hfa; simpa using this
              subst ea
              exact ⟨b, kk, et ▸ F, List.mem_cons_self .., List.mem_cons_of_mem _ (List.mem_cons_self ..)⟩
            · rw [q, hTi, Array.find?_push] at hf1
              cases hq : vm0.interned.find? (fun q => q.1 == u1) with
              | none => rw [hq] at hf1; simp [he] at hf1
              | some pr => rw [hq] at hf1; simp at hf1; subst hf1; exact old' hq
        · refine ⟨fun x hx => ?_, fun x hx => List.mem_cons_of_mem _ (List.mem_cons_of_mem _ hx)⟩
          rcases List.mem_cons.mp hx with rfl | hx
          · exact Or.inr hnew.1
          · rcases List.mem_cons.mp hx with rfl | hx
            · exact Or.inr hnew.2
            · exact Or.inl hx
    · have hf := resolved_found hZ hkz hcf hcp hu hnm hopen hkb hra
      obtain ⟨b, kk, F, ha, hb⟩ := A.2.1 _ hm hoZ _ a hdec hf
      have hL : Lit (s.setVm vm0) own index a := (lit_open (Z := s.setVm vm0) hown' hkb).2 a hra
      exact Aim.of (fun t kt => ldcAgain X hx hZ hown' w hL (g := mkF m pc Ls st) rfl hd t kt) (cont T h a b kk Lc ⟨L, vm0, X.more (by omega) (by omega), eT, N, hS, hZ, A.1, A.2.1, fun _ v hv => ⟨a, units_eq hdec hv ht ▸ hf⟩⟩ (Keep.refl h []) (Grow.refl _ _) F (Or.inr ha) (Or.inr hb))
  · have hL : Lit Z own index a := (lit_open hownZ hkz).2 a hra
    obtain ⟨b, kk, F⟩ := G a hL
    have hK : Keep Z.heap h [] := (Keep.refl _ []).ext O.2
    have hn : Z.heap.size = n0 := O.1
    exact Aim.of (fun t kt => ldcR (s := s.setVm vm0) X hx hZ hown' (refOfLit w hL) hL (g := mkF m pc Ls st) rfl hd t kt) (cont T h a b kk Lc ⟨L, vm0, X.more (by omega) (by omega), eT, N, hS, hZ, A.1, A.2.1, fun q => by rw [show Z.resolvedAt? own index = some (.string a) from hL] at q; cases q⟩ (Keep.refl h []) (Grow.refl _ _) (F.keep hK nin0 nin0) (Or.inl (hn ▸ F.lt)) (Or.inl (hn ▸ F.ltb)))
theorem Aim.ldcL {own text : String} {index pc : Nat} {Ls : Array Slot} {st : List Value} (P : On p l e R s m args below meth c Z LC n0 T h k n Lc) (hx : p.tables.exec = Jvm.exec) (hZs : Z.Warmed39 s.vm) (hown : s.vm.findClass own = some m.cls) (w : (Cond.stringLink own index text).before a0 Z = true) (wS : ∀ a ∈ Bundle.stringAtoms, a.before a0 Z = true) (hm : (own, index, text) ∈ LC.1)
    (ht : ∀ c ∈ text.toList, c.toNat < 256) (h4 : text.toList.length ≤ 4000) (G : LitZ Z (own, index, text)) (O : Old Z n0 h) (hold : ∀ (b : Addr) (cl : Cell), s.heap[b]? = some cl → h[b]? = some cl) (hd : decode c.code pc = .ok (.ldc index, 2)) (hT : ∀ it, LC.2 it) {cap : Nat} (hcap : 4 * text.toList.length ≤ cap) (hbig : cap ≤ 536870912) (hc : k + 2 ≤ R.cells) (hs : n + (cap + 4) ≤ R.slots)
    (cont : ∀ T' h' a b kk Lc', On p l e R s m args below meth c Z LC n0 T' h' (k + 2) (n + (cap + 4)) Lc' → Keep h h' [] → Grow Lc Lc' h.size → Str Z h' a b kk (cod text) → (a < n0 ∨ a ∈ Lc') → (b < n0 ∨ b ∈ Lc') → Aim p e below s CC SS n0 Q T' (mkF m (pc + 2) Ls (.ref a :: st))) :
    Aim p e below s CC SS n0 Q T (mkF m pc Ls st) :=
  Aim.ldcK P hx hZs hown w wS hm ht h4 G O hold hd hcap hbig hc hs fun T' h' a b kk Lc' P' => cont T' h' a b kk Lc' (P'.weakTo fun it _ => hT it)
theorem Aim.ldcQ {own text : String} {index pc : Nat} {Ls : Array Slot} {st : List Value} (P : On p l e R s m args below meth c Z (LC.1, Fnd Z own index text) n0 T h k n Lc) (hx : p.tables.exec = Jvm.exec) (hown : s.vm.findClass own = some m.cls) (w : (Cond.stringLink own index text).before a0 Z = true) (hm : (own, index, text) ∈ LC.1)
    (ht : ∀ c ∈ text.toList, c.toNat < 256) (F0 : ∀ a, Lit Z own index a → ∃ b kk, Str Z h a b kk (cod text) ∧ a < n0 ∧ b < n0) (hd : decode c.code pc = .ok (.ldc index, 2))
    (cont : ∀ T' a b kk, On p l e R s m args below meth c Z (LC.1, Fnd Z own index text) n0 T' h k n Lc → Str Z h a b kk (cod text) → (a < n0 ∨ a ∈ Lc) → (b < n0 ∨ b ∈ Lc) → Aim p e below s CC SS n0 Q T' (mkF m (pc + 2) Ls (.ref a :: st))) :
    Aim p e below s CC SS n0 Q T (mkF m pc Ls st) := by
  have P' := P
  obtain ⟨L, vm0, X, eT, N, hS, hZ, A⟩ := P
  have hown' := ownAt hS hown
  have hownZ : Z.vm.findClass own = some m.cls := by rw [← hZ.alike.findClass]; exact hown'
  obtain ⟨kz, cf, i, units, hkz, hcf, hcp, hu, hnm, hdec, hres⟩ := Cond.stringLink_spec hownZ w
  rcases hres with hopen | ⟨a, hra⟩
  · have hoZ := (lit_open hownZ hkz).1 hopen
    have w' : (Cond.stringLink own index text).before args (s.setVm vm0) = true := mvS hZ w
    obtain ⟨kb, cf', i', units', hkb, hcf', hcp', hu', hnm', hdec', hres'⟩ := Cond.stringLink_spec (s := s.setVm vm0) hown' w'
    obtain ⟨a, hf⟩ := A.2.2 hoZ units' hdec'
    obtain ⟨b, kk, F, ha, hb⟩ := A.2.1 _ hm hoZ _ a hdec' hf
    rcases hres' with ho | ⟨a2, hra⟩
    · obtain ⟨T', X', e', hS', ei, st'⟩ := ldcFound (s := s.setVm vm0) (T := T) X hx (Ls := Ls) (st := st) hkb hcf' hcp' hu' hnm' ho hf hd
      refine Aim.of st' (cont T' a b kk ⟨L, T'.vm, X', e'.trans eT, N, hS.trans (by rw [eT] at hS'; exact hS') (Nat.le_refl _), State.Warmed39.trans (t := s.setVm vm0) hZ hS'.1, ?_⟩ F (Or.inr ha) (Or.inr hb))
      rw [ei]; exact A
    · obtain ⟨kz', hkz', ekz⟩ := hZ.alike.2.2 _ _ hkz
      have ek : kz' = kb := Option.some.inj (hkz'.symm.trans hkb)
      have ecf : cf' = cf := by rw [← ek, ekz] at hcf'; exact Option.some.inj (hcf'.symm.trans hcf)
      subst ecf
      have ei : i' = i := by simpa using hcp'.symm.trans hcp
      subst ei
      have eu : units' = units := by simpa using hu'.symm.trans hu
      subst eu
      have hf2 := resolved_found hZ hkz hcf hcp hu hnm hopen hkb hra
      have ea : a2 = a := by have := hf2.symm.trans hf; simpa using this
      subst ea
      have hL : Lit (s.setVm vm0) own index a2 := (lit_open (Z := s.setVm vm0) hown' hkb).2 a2 hra
      exact Aim.of (fun t kt => ldcAgain X hx hZ hown' w hL (g := mkF m pc Ls st) rfl hd t kt) (cont T a2 b kk P' F (Or.inr ha) (Or.inr hb))
  · have hL : Lit Z own index a := (lit_open hownZ hkz).2 a hra
    obtain ⟨b, kk, F, h1, h2⟩ := F0 a hL
    exact Aim.of (fun t kt => ldcR (s := s.setVm vm0) X hx hZ hown' (refOfLit w hL) hL (g := mkF m pc Ls st) rfl hd t kt) (cont T a b kk P' F (Or.inl h1) (Or.inl h2))
theorem lit_again {c : String × Nat × String} {h0 : Heap} {ws : List Addr} (G : LitZ Z c) (O : Old Z n0 h0) (K : Keep h0 h ws) (hg : ∀ x ∈ ws, n0 ≤ x) : ∀ a, Lit Z c.1 c.2.1 a → ∃ b kk, Str Z h a b kk (cod c.2.2) ∧ a < n0 ∧ b < n0 := by
  intro a hL
  obtain ⟨b, kk, F⟩ := G a hL
  have hn : Z.heap.size = n0 := O.1
  have ha : a < n0 := hn ▸ F.lt
  have hb : b < n0 := hn ▸ F.ltb
  have F1 := F.keep ((Keep.refl _ []).ext O.2) nin0 nin0
  exact ⟨b, kk, F1.keep K (fun q => Nat.lt_irrefl _ (Nat.lt_of_lt_of_le ha (hg a q))) (fun q => Nat.lt_irrefl _ (Nat.lt_of_lt_of_le hb (hg b q))), ha, hb⟩
def LitW (Z : State) (a0 : Array Value) (c : String × Nat × String) : Prop := (Cond.stringLink c.1 c.2.1 c.2.2).before a0 Z = true ∧ (∀ d ∈ c.2.2.toList, d.toNat < 256) ∧ c.2.2.toList.length ≤ 4000 ∧ ConstHeldL Z c.1 c.2.1 ∧ ∃ cl, Z.vm.findClass c.1 = some cl
theorem own_found {own text : String} {index : Nat} (w : (Cond.stringLink own index text).before a0 Z = true) : ∃ cl, Z.vm.findClass own = some cl := by
  cases hq : Z.vm.findClass own with
  | some c => exact ⟨c, rfl⟩
  | none => simp [Cond.before, Cond.holds, Cond.value, hq] at w
theorem litz_start {c : String × Nat × String} (H : LitW Z a0 c) : LitZ Z c := by
  intro a hL
  obtain ⟨w, ht, h4, hH, cl, hcl⟩ := H
  obtain ⟨k, cf, i, units, hk, hcf, hp, hu, -, hdec, hres⟩ := Cond.stringLink_spec hcl w
  have hr : k.resolved[c.2.1]? = some (some (.string a)) := by
    rcases hres with q | ⟨a', q⟩
    · exfalso
      have := (lit_open (Z := Z) hcl hk).1 q
      rw [Lit, this] at hL; cases hL
    · have := (lit_open (Z := Z) hcl hk).2 a' q
      rw [Lit] at hL this
      rw [hL] at this
      cases this; exact q
  obtain ⟨b, kk, F, -⟩ := strOf ((hH cl k cf i units a hcl hk hcf hp hu (Or.inl hr)).movedIn Z.heap.size (Vm.Alike.refl _) (fun _ _ q => q)) hdec ht h4
  exact ⟨b, kk, F⟩
theorem ha_start (hT : ∀ it, LC.2 it) (H : ∀ c ∈ LC.1, LitW Z a0 c) : HA Z LC Z.vm.interned Z.heap (List.range Z.heap.size) := by
  refine ⟨fun x hx => List.mem_range.mp hx, fun c hc ho units a hu hf => ?_, hT _⟩
  obtain ⟨w, ht, h4, hH, cl, hcl⟩ := H c hc
  obtain ⟨k, cf, i, units', hk, hcf, hp, hu', -, hdec, hres⟩ := Cond.stringLink_spec hcl w
  have e5 : units' = units := by
    apply Array.ext'
    rw [Jvm.ClassFile.units_of_text hu ht, Jvm.ClassFile.units_of_text hdec ht]
  subst e5
  have hr : k.resolved[c.2.1]? = some none := by
    rcases hres with q | ⟨a', q⟩
    · exact q
    · have := (lit_open (Z := Z) hcl hk).2 a' q
      rw [Lit, ho] at this; cases this
  obtain ⟨b, kk, F, -⟩ := strOf ((hH cl k cf i units' a hcl hk hcf hp hu' (Or.inr ⟨hr, hf⟩)).movedIn Z.heap.size (Vm.Alike.refl _) (fun _ _ q => q)) hdec ht h4
  exact ⟨b, kk, F, List.mem_range.mpr F.lt, List.mem_range.mpr F.ltb⟩
end LitW
end Jvm.Q9
namespace Jvm.Q9
theorem Aim.imp {p : Program} {e : Env} {below : List Frame} {s : State} {CC SS n0 : Nat} {Q Q' : Option Value → Heap → Array (Array UInt16 × Addr) → Prop} {T : State} {g : JFrame} (a : Aim p e below s CC SS n0 Q' T g) (q : ∀ v h it, Q' v h it → Q v h it) : Aim p e below s CC SS n0 Q T g := by
  obtain ⟨s2, o, h1, h2, h3, v, L, h4, ⟨h5, h6⟩, h7⟩ := a; exact ⟨s2, o, h1, h2, h3, v, L, h4, ⟨q _ _ _ h5, h6⟩, h7⟩
end Jvm.Q9
/- laws to paste: Road.backV, Road.eqW (cut by pick.py; bodies as the Statement names them) -/
namespace Jvm.Pilot.@@N@@
namespace StrChars
open Jvm Sem ClassFile Op Lib Jvm.Stand Jvm.Free.XT Jvm.Free.ALB Jvm.Free.JM Jvm.Free
open Jvm.Lib.Cold (StaticIs)
def Ch (a : Addr) (A : Cell) (U : State) : Prop := Arr .char a A U ∧ Typed .char A
theorem Ch.mv {a : Addr} {A : Cell} {U U' : State} (h : Ch a A U) (hal : U.vm.Alike U'.vm) (hh : U'.heap = U.heap) : Ch a A U' := ⟨h.1.mv hal hh, h.2⟩
theorem Ch.keep {a : Addr} {A : Cell} {U U' : State} (h : Ch a A U) (hal : U.vm.Alike U'.vm) (hk : U'.heap[a]? = some A) : Ch a A U' := ⟨h.1.keep hal hk, h.2⟩
def cv (A : Cell) (i : Nat) : Int32 := match A.slots[i]? with | some (.int x) => x | _ => 0
theorem Ch.get {a : Addr} {A : Cell} {U : State} (h : Ch a A U) {i : Nat} (hi : i < A.slots.size) : A.slots[i]? = some (.int (cv A i)) := by
  have e := Array.getElem?_eq_getElem hi
  have f := h.2 i _ e
  unfold cv; rw [e]
  generalize A.slots[i] = v at f
  cases v <;> simp [fits] at f ⊢
def lo8 (x : Int32) : Int32 := x.toInt8.toInt32
theorem fits_lo8 (y : Int32) : fits .byte (.int (lo8 y)) = true := by
  have h1 := y.toInt8.le_toInt
  have h2 := y.toInt8.toInt_lt
  simp only [lo8, fits, Bool.and_eq_true, decide_eq_true_eq, Int32.le_iff_toInt_le, Int8.toInt_toInt32, show (-128 : Int32).toInt = -128 from by decide, show (127 : Int32).toInt = 127 from by decide]
  omega
def Laid (A A' : Cell) (lo hi : Nat) (f : Nat → Value) : Prop := A'.cls = A.cls ∧ A'.vm = A.vm ∧ A'.slots.size = A.slots.size ∧ ∀ i, A'.slots[i]? = if lo ≤ i ∧ i < hi then some (f i) else A.slots[i]?
theorem Laid.zero (A : Cell) (lo : Nat) (f : Nat → Value) : Laid A A lo (lo + 0) f := ⟨rfl, rfl, rfl, fun i => by rw [if_neg (by omega)]⟩
theorem Laid.step {A Ak : Cell} {lo k : Nat} {f : Nat → Value} {v : Value} (h : Laid A Ak lo k f) (hlo : lo ≤ k) (hk : k < Ak.slots.size) (hv : v = f k) : Laid A (Ak.setSlot k v) lo (k + 1) f := by
  refine ⟨h.1, h.2.1, by simpa [Cell.setSlot] using h.2.2.1, fun i => ?_⟩
  by_cases e : k = i
  · subst e; rw [Cell.slots_setSlot_self v hk, if_pos (by omega), hv]
  · rw [Cell.slots_setSlot_ne v e, h.2.2.2 i]
    by_cases q : lo ≤ i ∧ i < k
    · rw [if_pos q, if_pos (by omega)]
    · rw [if_neg q, if_neg (by omega)]
def U16 : String := "java/lang/StringUTF16"
namespace Cmp5
def yN : MethodName := ⟨"java/lang/StringUTF16", "compress", "([CI[BII)I"⟩
abbrev yB : ByteArray := jdk_52_method_21_code
theorem d0 : decode yB 0 = .ok (.iconst 0, 1) := by decide +kernel
theorem d1 : decode yB 1 = .ok (.istore 5, 2) := by decide +kernel
theorem d3 : decode yB 3 = .ok (.iload 5, 2) := by decide +kernel
theorem d5 : decode yB 5 = .ok (.iload 4, 2) := by decide +kernel
theorem d7 : decode yB 7 = .ok (.if_icmp (.ge) 37, 3) := by decide +kernel
theorem d10 : decode yB 10 = .ok (.aload_n 0, 1) := by decide +kernel
theorem d11 : decode yB 11 = .ok (.iload_n 1, 1) := by decide +kernel
theorem d12 : decode yB 12 = .ok (.caload, 1) := by decide +kernel
theorem d13 : decode yB 13 = .ok (.istore 6, 2) := by decide +kernel
theorem d15 : decode yB 15 = .ok (.iload 6, 2) := by decide +kernel
theorem d17 : decode yB 17 = .ok (.sipush 255, 3) := by decide +kernel
theorem d20 : decode yB 20 = .ok (.if_icmp (.le) 6, 3) := by decide +kernel
theorem d26 : decode yB 26 = .ok (.aload_n 2, 1) := by decide +kernel
theorem d27 : decode yB 27 = .ok (.iload_n 3, 1) := by decide +kernel
theorem d28 : decode yB 28 = .ok (.iload 6, 2) := by decide +kernel
theorem d30 : decode yB 30 = .ok (.i2b, 1) := by decide +kernel
theorem d31 : decode yB 31 = .ok (.bastore, 1) := by decide +kernel
theorem d32 : decode yB 32 = .ok (.iinc 1 1, 3) := by decide +kernel
theorem d35 : decode yB 35 = .ok (.iinc 3 1, 3) := by decide +kernel
theorem d38 : decode yB 38 = .ok (.iinc 5 1, 3) := by decide +kernel
theorem d41 : decode yB 41 = .ok (.goto (-38), 3) := by decide +kernel
theorem d44 : decode yB 44 = .ok (.iload 4, 2) := by decide +kernel
theorem d46 : decode yB 46 = .ok (.ireturn, 1) := by decide +kernel
def site : List Cond := []
def tab : Cond := tabOf yN yB 7 (some .int) site
def P (b : Addr) (A : Cell) (d : Addr) (B : Cell) (o q len : Nat) (args : Array Value) (s : State) : Prop := args = #[.ref b, .int (Int32.ofNat o), .ref d, .int (Int32.ofNat q), .int (Int32.ofNat len)] ∧ Ch b A s ∧ Arr .byte d B s ∧ b ≠ d ∧ o + len ≤ A.slots.size ∧ q + len ≤ B.slots.size ∧ ∀ i, i < len → ¬ 255 < cv A (o + i)
def E (b : Addr) (A : Cell) (d : Addr) (B : Cell) (o q len : Nat) (r : Option Value) (s u : State) : Prop := r = some (.int (Int32.ofNat len)) ∧ ∃ B', Put d B' s u ∧ Laid B B' q (q + len) (fun j => Value.int (lo8 (cv A (o + (j - q)))))
theorem law (l : Launch) (b : Addr) (A : Cell) (d : Addr) (B : Cell) (o q len : Nat) : Law l yN 5 5 0 0 yB 7 (some .int) site (P b A d B o q len) (E b A d B o q len) (copyLocs d q len) 0 0 := by
  refine Law.of_walk (plainFor_of_name (by decide +kernel)) (by decide +kernel) (by decide +kernel) (by decide) (fun _ _ h => by rw [h.1]; rfl) (fun _ U U' hal hh h => ⟨h.1, h.2.1.mv hal hh, h.2.2.1.mv hal hh, h.2.2.2⟩) (fun r U U' V V' h1 hal h2 h => ⟨h.1, h.2.elim fun B' q => ⟨B', q.1.mv h1 h2, q.2⟩⟩) ?_
  intro p e s m args below meth c s₁ X0 hexec hbytes hml hret hlk hnm hown hh0 W hP
  obtain ⟨rfl, hA, hB, hne, l1, l2, hp⟩ := hP
  have c1 : Steps p.tables e below (s₁.setTop (entryFrame m #[.ref b, .int (Int32.ofNat o), .ref d, .int (Int32.ofNat q), .int (Int32.ofNat len)] 7)) (s₁.setTop (mkF m 0 #[.val (.ref b), .val (.int (Int32.ofNat o)), .val (.ref d), .val (.int (Int32.ofNat q)), .val (.int (Int32.ofNat len)), .unset, .unset] [])) := entry rfl
  have hA0 := hA.1.mv X0.warmed.alike hh0
  have hB0 := hB.mv X0.warmed.alike hh0
  have a31 := hA.1.2.2.2
  have c2 : Steps p.tables e below (s₁.setTop (entryFrame m #[.ref b, .int (Int32.ofNat o), .ref d, .int (Int32.ofNat q), .int (Int32.ofNat len)] 7)) (s₁.setTop (mkF m 3 #[.val (.ref b), .val (.int (Int32.ofNat o)), .val (.ref d), .val (.int (Int32.ofNat q)), .val (.int (Int32.ofNat len)), .val (.int 0), .unset] [])) := c1.trans (by
    refine iconstV X0.here hexec rfl 0 (hb hbytes d0) (by decide) ?_
    refine XS.istore X0.here hexec rfl (hb hbytes d1) rfl rfl ?_
    exact Steps.refl _)
  have loop : ∀ (r i : Nat), i + r = len → ∀ (z : Slot), (z = .unset ∨ ∃ w, z = .val w ∧ w.category = 1) → ∀ (Tl : State) (Bk : Cell), Stand p l e { frames := 0, locals := 0, cells := 0, slots := 0 } s m #[.ref b, .int (Int32.ofNat o), .ref d, .int (Int32.ofNat q), .int (Int32.ofNat len)] below meth c Tl ([] ++ copyLocs d q i) 0 0 → Put d Bk s₁ Tl → Laid B Bk q (q + i) (fun j => Value.int (lo8 (cv A (o + (j - q))))) →
      Steps p.tables e below (s₁.setTop (entryFrame m #[.ref b, .int (Int32.ofNat o), .ref d, .int (Int32.ofNat q), .int (Int32.ofNat len)] 7)) (Tl.setTop (mkF m 3 #[.val (.ref b), .val (.int (Int32.ofNat (o + i))), .val (.ref d), .val (.int (Int32.ofNat (q + i))), .val (.int (Int32.ofNat len)), .val (.int (Int32.ofNat i)), z] [])) → ∃ (T' : State) (B' : Cell) (z' : Slot), Stand p l e { frames := 0, locals := 0, cells := 0, slots := 0 } s m #[.ref b, .int (Int32.ofNat o), .ref d, .int (Int32.ofNat q), .int (Int32.ofNat len)] below meth c T' ([] ++ copyLocs d q len) 0 0 ∧ Put d B' s₁ T' ∧ Laid B B' q (q + len) (fun j => Value.int (lo8 (cv A (o + (j - q))))) ∧
      Steps p.tables e below (s₁.setTop (entryFrame m #[.ref b, .int (Int32.ofNat o), .ref d, .int (Int32.ofNat q), .int (Int32.ofNat len)] 7)) (T'.setTop (mkF m 3 #[.val (.ref b), .val (.int (Int32.ofNat (o + len))), .val (.ref d), .val (.int (Int32.ofNat (q + len))), .val (.int (Int32.ofNat len)), .val (.int (Int32.ofNat len)), z'] [])) := by
    intro r
    induction r with
    | zero =>
      intro i hi z hz Tl Bk Xl pl fl cl
      have hil : i = len := by omega
      rw [hil] at Xl fl cl
      exact ⟨Tl, Bk, z, Xl, pl, fl, cl⟩
    | succ r ih =>
      intro i hi z hz Tl Bk Xl pl fl cl
      have all := X0.warmed.alike.symm.trans Xl.warmed.alike
      have hAl := hA0.keep all (pl.other hne hA0.1)
      have hBk := hB0.like all pl.1 fl.1 fl.2.1 fl.2.2.1
      have hlt : q + i < Bk.slots.size := by rw [fl.2.2.1]; omega
      have c3 : Steps p.tables e below (s₁.setTop (entryFrame m #[.ref b, .int (Int32.ofNat o), .ref d, .int (Int32.ofNat q), .int (Int32.ofNat len)] 7)) (Tl.setTop (mkF m 12 #[.val (.ref b), .val (.int (Int32.ofNat (o + i))), .val (.ref d), .val (.int (Int32.ofNat (q + i))), .val (.int (Int32.ofNat len)), .val (.int (Int32.ofNat i)), z] [.int (Int32.ofNat (o + i)), .ref b])) := cl.trans (by
        refine XS.iload Xl.here hexec rfl (hb hbytes d3) rfl ?_
        refine XS.iload Xl.here hexec rfl (hb hbytes d5) rfl ?_
        refine XS.icmpNo Xl.here hexec rfl (hb hbytes d7) rfl (ii_ge_f (lt32 (by omega) (by omega))) ?_
        refine XS.aloadN Xl.here hexec rfl (hb hbytes d10) rfl rfl ?_
        refine XS.iloadN Xl.here hexec rfl (hb hbytes d11) rfl ?_
        exact Steps.refl _)
      have c4 : Steps p.tables e below (s₁.setTop (entryFrame m #[.ref b, .int (Int32.ofNat o), .ref d, .int (Int32.ofNat q), .int (Int32.ofNat len)] 7)) (Tl.setTop (mkF m 13 #[.val (.ref b), .val (.int (Int32.ofNat (o + i))), .val (.ref d), .val (.int (Int32.ofNat (q + i))), .val (.int (Int32.ofNat len)), .val (.int (Int32.ofNat i)), z] [.int (cv A (o + i))])) := c3.trans (by
        refine Xl.aget hexec hAl rfl (hA.get (i := o + i) (by omega)) rfl rfl (hb hbytes d12) ?_
        exact Steps.refl _)
      have c5 : Steps p.tables e below (s₁.setTop (entryFrame m #[.ref b, .int (Int32.ofNat o), .ref d, .int (Int32.ofNat q), .int (Int32.ofNat len)] 7)) (Tl.setTop (mkF m 15 #[.val (.ref b), .val (.int (Int32.ofNat (o + i))), .val (.ref d), .val (.int (Int32.ofNat (q + i))), .val (.int (Int32.ofNat len)), .val (.int (Int32.ofNat i)), .val (.int (cv A (o + i)))] [])) := c4.trans (by
        refine XS.istoreS Xl.here hexec rfl (hb hbytes d13) rfl rfl hz ?_
        exact Steps.refl _)
      have c6 : Steps p.tables e below (s₁.setTop (entryFrame m #[.ref b, .int (Int32.ofNat o), .ref d, .int (Int32.ofNat q), .int (Int32.ofNat len)] 7)) (Tl.setTop (mkF m 31 #[.val (.ref b), .val (.int (Int32.ofNat (o + i))), .val (.ref d), .val (.int (Int32.ofNat (q + i))), .val (.int (Int32.ofNat len)), .val (.int (Int32.ofNat i)), .val (.int (cv A (o + i)))] [.int (lo8 (cv A (o + i))), .int (Int32.ofNat (q + i)), .ref d])) := c5.trans (by
        refine XS.iload Xl.here hexec rfl (hb hbytes d15) rfl ?_
        refine sipushV Xl.here hexec rfl 255 (hb hbytes d17) (by decide) ?_
        refine XS.icmpYes Xl.here hexec rfl (pc0 := 20) rfl (hb hbytes d20) rfl (ii_le_t (hp i (by omega))) (by decide) rfl ?_
        refine XS.aloadN Xl.here hexec rfl (hb hbytes d26) rfl rfl ?_
        refine XS.iloadN Xl.here hexec rfl (hb hbytes d27) rfl ?_
        refine XS.iload Xl.here hexec rfl (hb hbytes d28) rfl ?_
        refine i2b Xl.here hexec rfl (hb hbytes d30) rfl ?_
        exact Steps.refl _)
      obtain ⟨T7, X7, p7, st7⟩ := Xl.aput hexec hBk rfl hlt rfl (fits_lo8 (cv A (o + i))) (g := (mkF m 31 #[.val (.ref b), .val (.int (Int32.ofNat (o + i))), .val (.ref d), .val (.int (Int32.ofNat (q + i))), .val (.int (Int32.ofNat len)), .val (.int (Int32.ofNat i)), .val (.int (cv A (o + i)))] [.int (lo8 (cv A (o + i))), .int (Int32.ofNat (q + i)), .ref d])) rfl (rest := []) rfl (hb hbytes d31)
      have c8 : Steps p.tables e below (s₁.setTop (entryFrame m #[.ref b, .int (Int32.ofNat o), .ref d, .int (Int32.ofNat q), .int (Int32.ofNat len)] 7)) (T7.setTop (mkF m 32 #[.val (.ref b), .val (.int (Int32.ofNat (o + i))), .val (.ref d), .val (.int (Int32.ofNat (q + i))), .val (.int (Int32.ofNat len)), .val (.int (Int32.ofNat i)), .val (.int (cv A (o + i)))] [])) := c6.trans (st7 _ (Steps.refl _))
      have c9 : Steps p.tables e below (s₁.setTop (entryFrame m #[.ref b, .int (Int32.ofNat o), .ref d, .int (Int32.ofNat q), .int (Int32.ofNat len)] 7)) (T7.setTop (mkF m 3 #[.val (.ref b), .val (.int (Int32.ofNat (o + i) + 1)), .val (.ref d), .val (.int (Int32.ofNat (q + i) + 1)), .val (.int (Int32.ofNat len)), .val (.int (Int32.ofNat i + 1)), .val (.int (cv A (o + i)))] [])) := c8.trans (by
        refine iincV X7.here hexec rfl 1 (hb hbytes d32) (by decide) rfl rfl ?_
        refine iincV X7.here hexec rfl 1 (hb hbytes d35) (by decide) rfl rfl ?_
        refine iincV X7.here hexec rfl 1 (hb hbytes d38) (by decide) rfl rfl ?_
        refine XS.goto X7.here hexec rfl (pc0 := 41) rfl (hb hbytes d41) (by decide) rfl ?_
        exact Steps.refl _)
      have c10 : Steps p.tables e below (s₁.setTop (entryFrame m #[.ref b, .int (Int32.ofNat o), .ref d, .int (Int32.ofNat q), .int (Int32.ofNat len)] 7)) (T7.setTop (mkF m 3 #[.val (.ref b), .val (.int (Int32.ofNat (o + (i + 1)))), .val (.ref d), .val (.int (Int32.ofNat (q + (i + 1)))), .val (.int (Int32.ofNat len)), .val (.int (Int32.ofNat (i + 1))), .val (.int (cv A (o + i)))] [])) := by
        have := c9
        rw [succ32, succ32, succ32] at this
        exact this
      exact ih (i + 1) (by omega) _ (Or.inr ⟨_, rfl, rfl⟩) T7 _ (by rw [copyLocs_step, ← List.append_assoc]; exact X7) (pl.trans p7) (fl.step (by omega) hlt (by simp)) c10
  obtain ⟨T9, B9, z9, X9, p9, f9, g9⟩ := loop len 0 (by omega) .unset (Or.inl rfl) s₁ B (by simpa [copyLocs] using X0) ⟨hB0.1, fun _ _ => rfl, rfl⟩ (Laid.zero _ _ _) c2
  have c11 : Steps p.tables e below (s₁.setTop (entryFrame m #[.ref b, .int (Int32.ofNat o), .ref d, .int (Int32.ofNat q), .int (Int32.ofNat len)] 7)) (T9.setTop (mkF m 46 #[.val (.ref b), .val (.int (Int32.ofNat (o + len))), .val (.ref d), .val (.int (Int32.ofNat (q + len))), .val (.int (Int32.ofNat len)), .val (.int (Int32.ofNat len)), z9] [.int (Int32.ofNat len)])) := g9.trans (by
    refine XS.iload X9.here hexec rfl (hb hbytes d3) rfl ?_
    refine XS.iload X9.here hexec rfl (hb hbytes d5) rfl ?_
    refine XS.icmpYes X9.here hexec rfl (pc0 := 7) rfl (hb hbytes d7) rfl (ii_ge_t (nlt32 (by omega) (Nat.le_refl _))) (by decide) rfl ?_
    refine XS.iload X9.here hexec rfl (hb hbytes d44) rfl ?_
    exact Steps.refl _)
  exact ⟨T9, some (.int (Int32.ofNat len)), _, _, _, X9, by simp, rfl, rfl, (fun h => by cases h), ⟨rfl, B9, p9.from hh0, f9⟩, fun fs hl => c11.trans (X9.ireturnOut hexec hret rfl (Or.inl rfl) (hb hbytes d46) hl)⟩
end Cmp5
namespace Cmp3
def yN : MethodName := ⟨"java/lang/StringUTF16", "compress", "([CII)[B"⟩
abbrev yB : ByteArray := jdk_52_method_16_code
theorem d0 : decode yB 0 = .ok (.iload_n 2, 1) := by decide +kernel
theorem d1 : decode yB 1 = .ok (.newarray .byte, 2) := by decide +kernel
theorem d3 : decode yB 3 = .ok (.astore_n 3, 1) := by decide +kernel
theorem d4 : decode yB 4 = .ok (.aload_n 0, 1) := by decide +kernel
theorem d5 : decode yB 5 = .ok (.iload_n 1, 1) := by decide +kernel
theorem d6 : decode yB 6 = .ok (.aload_n 3, 1) := by decide +kernel
theorem d7 : decode yB 7 = .ok (.iconst 0, 1) := by decide +kernel
theorem d8 : decode yB 8 = .ok (.iload_n 2, 1) := by decide +kernel
theorem d9 : decode yB 9 = .ok (.invokestatic 115, 3) := by decide +kernel
theorem d12 : decode yB 12 = .ok (.istore 4, 2) := by decide +kernel
theorem d14 : decode yB 14 = .ok (.iload 4, 2) := by decide +kernel
theorem d16 : decode yB 16 = .ok (.iload_n 2, 1) := by decide +kernel
theorem d17 : decode yB 17 = .ok (.if_icmp (.eq) 40, 3) := by decide +kernel
theorem d57 : decode yB 57 = .ok (.aload_n 3, 1) := by decide +kernel
theorem d58 : decode yB 58 = .ok (.areturn, 1) := by decide +kernel
def site : List Cond := [.arrayClass .byte, Cmp5.tab] ++ staticW U16 115 Cmp5.yN
def tab : Cond := tabOf yN yB 6 (some (.array .byte)) site
def P (b : Addr) (A : Cell) (o len : Nat) (args : Array Value) (s : State) : Prop := args = #[.ref b, .int (Int32.ofNat o), .int (Int32.ofNat len)] ∧ Ch b A s ∧ o + len ≤ A.slots.size ∧ len ≤ 536870912 ∧ ∀ i, i < len → ¬ 255 < cv A (o + i)
def E (b : Addr) (A : Cell) (o len : Nat) (r : Option Value) (s u : State) : Prop := NewArr .byte "[B" len (fun j => .int (lo8 (cv A (o + j)))) r s u ∧ u.heap.size = s.heap.size + 1
theorem law (l : Launch) (b : Addr) (A : Cell) (o len : Nat) : Law l yN 3 3 1 18 yB 6 (some (.array .byte)) site (P b A o len) (E b A o len) [] 1 len := by
  refine Law.of_walk (plainFor_of_name (by decide +kernel)) (by decide +kernel) (by decide +kernel) (by decide) (fun _ _ h => by rw [h.1]; rfl) (fun _ U U' hal hh h => ⟨h.1, h.2.1.mv hal hh, h.2.2⟩) (fun r U U' V V' h1 hal h2 h => ⟨NewArr.mv r U U' V V' h1 hal h2 h.1, by rw [h1, h2]; exact h.2⟩) ?_
  intro p e s m args below meth c s₁ X0 hexec hbytes hml hret hlk hnm hown hh0 W hP
  obtain ⟨rfl, hA, l1, l2, hp⟩ := hP
  have a31 := hA.1.2.2.2
  have c1 : Steps p.tables e below (s₁.setTop (entryFrame m #[.ref b, .int (Int32.ofNat o), .int (Int32.ofNat len)] 6)) (s₁.setTop (mkF m 0 #[.val (.ref b), .val (.int (Int32.ofNat o)), .val (.int (Int32.ofNat len)), .unset, .unset, .unset] [])) := entry rfl
  have c2 : Steps p.tables e below (s₁.setTop (entryFrame m #[.ref b, .int (Int32.ofNat o), .int (Int32.ofNat len)] 6)) (s₁.setTop (mkF m 1 #[.val (.ref b), .val (.int (Int32.ofNat o)), .val (.int (Int32.ofNat len)), .unset, .unset, .unset] [.int (Int32.ofNat len)])) := c1.trans (by
    refine XS.iloadN X0.here hexec rfl (hb hbytes d0) rfl ?_
    exact Steps.refl _)
  obtain ⟨T3, B3, X3, ba3, bs3, bv3, bh3, bf3, st3⟩ := X0.anew hexec (atype := .byte) (wk W (.arrayClass .byte)) rfl (by show len * 1 ≤ _; omega) (by omega) (g := (mkF m 1 #[.val (.ref b), .val (.int (Int32.ofNat o)), .val (.int (Int32.ofNat len)), .unset, .unset, .unset] [.int (Int32.ofNat len)])) rfl (hb hbytes d1) (rest := []) rfl (Nat.le_refl _) (by show 0 + len ≤ len; omega)
  rw [hh0] at ba3 st3
  have kp3 : XT.Kept s T3 := (XT.Kept.of_eq hh0).push bh3
  have hA3 := hA.keep X3.warmed.alike (kp3 _ _ hA.1.1)
  have hne : b ≠ s.heap.size := hA.1.ne
  have c4 : Steps p.tables e below (s₁.setTop (entryFrame m #[.ref b, .int (Int32.ofNat o), .int (Int32.ofNat len)] 6)) (T3.setTop (mkF m 3 #[.val (.ref b), .val (.int (Int32.ofNat o)), .val (.int (Int32.ofNat len)), .unset, .unset, .unset] [.ref s.heap.size])) := c2.trans (st3 _ (Steps.refl _))
  have c5 : Steps p.tables e below (s₁.setTop (entryFrame m #[.ref b, .int (Int32.ofNat o), .int (Int32.ofNat len)] 6)) (T3.setTop (mkF m 9 #[.val (.ref b), .val (.int (Int32.ofNat o)), .val (.int (Int32.ofNat len)), .val (.ref s.heap.size), .unset, .unset] [.int (Int32.ofNat len), .int 0, .ref s.heap.size, .int (Int32.ofNat o), .ref b])) := c4.trans (by
    refine XS.astoreN X3.here hexec rfl (hb hbytes d3) rfl rfl rfl ?_
    refine XS.aloadN X3.here hexec rfl (hb hbytes d4) rfl rfl ?_
    refine XS.iloadN X3.here hexec rfl (hb hbytes d5) rfl ?_
    refine XS.aloadN X3.here hexec rfl (hb hbytes d6) rfl rfl ?_
    refine iconstV X3.here hexec rfl 0 (hb hbytes d7) (by decide) ?_
    refine XS.iloadN X3.here hexec rfl (hb hbytes d8) rfl ?_
    exact Steps.refl _)
  obtain ⟨v6, T6, X6, E6, g6⟩ := X3.callS hexec (Cmp5.law l b A s.heap.size B3 o 0 len) hown (wks W (staticW U16 115 Cmp5.yN)) (wk W Cmp5.tab) (W := 0) (Nat.le_of_ble_eq_true rfl) (Nat.le_of_ble_eq_true rfl) (Nat.le_refl _) (by show 0 + len + 0 ≤ len; omega) (g := (mkF m 9 #[.val (.ref b), .val (.int (Int32.ofNat o)), .val (.int (Int32.ofNat len)), .val (.ref s.heap.size), .unset, .unset] [.int (Int32.ofNat len), .int (Int32.ofNat 0), .ref s.heap.size, .int (Int32.ofNat o), .ref b])) rfl (by rw [hml]; rfl) c5 (argsL := [.ref b, .int (Int32.ofNat o), .ref s.heap.size, .int (Int32.ofNat 0), .int (Int32.ofNat len)]) (rest := []) rfl rfl (by show 2 * 0 + 0 ≤ _; decide) (hb hbytes d9) (⟨rfl, hA3, ba3, hne, l1, by rw [bs3]; simp, hp⟩)
  obtain ⟨rfl, B6, p6, f6⟩ := E6
  have c7 : Steps p.tables e below (s₁.setTop (entryFrame m #[.ref b, .int (Int32.ofNat o), .int (Int32.ofNat len)] 6)) (T6.setTop (mkF m 12 #[.val (.ref b), .val (.int (Int32.ofNat o)), .val (.int (Int32.ofNat len)), .val (.ref s.heap.size), .unset, .unset] [.int (Int32.ofNat len)])) := g6
  have c8 : Steps p.tables e below (s₁.setTop (entryFrame m #[.ref b, .int (Int32.ofNat o), .int (Int32.ofNat len)] 6)) (T6.setTop (mkF m 58 #[.val (.ref b), .val (.int (Int32.ofNat o)), .val (.int (Int32.ofNat len)), .val (.ref s.heap.size), .val (.int (Int32.ofNat len)), .unset] [.ref s.heap.size])) := c7.trans (by
    refine XS.istore X6.here hexec rfl (hb hbytes d12) rfl rfl ?_
    refine XS.iload X6.here hexec rfl (hb hbytes d14) rfl ?_
    refine XS.iloadN X6.here hexec rfl (hb hbytes d16) rfl ?_
    refine XS.icmpYes X6.here hexec rfl (pc0 := 17) rfl (hb hbytes d17) rfl (ii_eq_t rfl) (by decide) rfl ?_
    refine XS.aloadN X6.here hexec rfl (hb hbytes d57) rfl rfl ?_
    exact Steps.refl _)
  have X8 := X6.wide (L' := []) (cells' := 1) (slots' := len) (fun x hx hlt => by
    simp only [List.nil_append, copyLocs, List.mem_map, List.mem_range] at hx
    obtain ⟨i, -, rfl⟩ := hx
    exact absurd hlt (Nat.lt_irrefl _)) (Nat.le_refl _) (by omega)
  exact ⟨T6, some (.ref s.heap.size), _, _, _, X8, rfl, rfl, rfl, (fun h => by cases h), ⟨⟨rfl, B6, ba3.like (X3.warmed.alike.symm.trans X6.warmed.alike) p6.1 f6.1 f6.2.1 f6.2.2.1, f6.2.1.trans bv3, by rw [X6.warmed.alike.findClass, f6.1]; exact bf3, by rw [f6.2.2.1, bs3]; simp, fun j hj => by rw [f6.2.2.2 j, if_pos (by omega)]; rfl, kp3.put p6 (Nat.le_refl _)⟩, by rw [p6.2.2, bh3, hh0]; simp⟩, fun fs hl => c8.trans (X8.areturnOut hexec rfl hret rfl (hb hbytes d58) hl)⟩
end Cmp3
namespace CodL
def yN : MethodName := ⟨"java/lang/StringUTF16", "coderFromArrayLen", "([BI)B"⟩
abbrev yB : ByteArray := jdk_52_method_15_code
theorem d0 : decode yB 0 = .ok (.iload_n 1, 1) := by decide +kernel
theorem d1 : decode yB 1 = .ok (.aload_n 0, 1) := by decide +kernel
theorem d2 : decode yB 2 = .ok (.arraylength, 1) := by decide +kernel
theorem d3 : decode yB 3 = .ok (.isub, 1) := by decide +kernel
theorem d4 : decode yB 4 = .ok (.bipush 31, 2) := by decide +kernel
theorem d6 : decode yB 6 = .ok (.iushr, 1) := by decide +kernel
theorem d7 : decode yB 7 = .ok (.i2b, 1) := by decide +kernel
theorem d8 : decode yB 8 = .ok (.ireturn, 1) := by decide +kernel
def site : List Cond := []
def tab : Cond := tabOf yN yB 2 (some .byte) site
def P (d : Addr) (B : Cell) (args : Array Value) (s : State) : Prop := args = #[.ref d, .int (Int32.ofNat B.slots.size)] ∧ Arr .byte d B s
def E (r : Option Value) (s u : State) : Prop := XT.PureE (some (.int 0)) r s u
theorem law (l : Launch) (d : Addr) (B : Cell) : Law l yN 2 2 0 0 yB 2 (some .byte) site (P d B) E [] 0 0 := by
  refine Law.of_walk (plainFor_of_name (by decide +kernel)) (by decide +kernel) (by decide +kernel) (by decide) (fun _ _ h => by rw [h.1]; rfl) (fun _ U U' hal hh h => ⟨h.1, h.2.mv hal hh⟩) (fun r U U' V V' h1 hal h2 h => XT.PureE.mv r U U' V V' h1 hal h2 h) ?_
  intro p e s m args below meth c s₁ X0 hexec hbytes hml hret hlk hnm hown hh0 W hP
  obtain ⟨rfl, hB⟩ := hP
  have hB0 := hB.mv X0.warmed.alike hh0
  have c1 : Steps p.tables e below (s₁.setTop (entryFrame m #[.ref d, .int (Int32.ofNat B.slots.size)] 2)) (s₁.setTop (mkF m 0 #[.val (.ref d), .val (.int (Int32.ofNat B.slots.size))] [])) := entry rfl
  have c2 : Steps p.tables e below (s₁.setTop (entryFrame m #[.ref d, .int (Int32.ofNat B.slots.size)] 2)) (s₁.setTop (mkF m 2 #[.val (.ref d), .val (.int (Int32.ofNat B.slots.size))] [.ref d, .int (Int32.ofNat B.slots.size)])) := c1.trans (by
    refine XS.iloadN X0.here hexec rfl (hb hbytes d0) rfl ?_
    refine XS.aloadN X0.here hexec rfl (hb hbytes d1) rfl rfl ?_
    exact Steps.refl _)
  have c3 : Steps p.tables e below (s₁.setTop (entryFrame m #[.ref d, .int (Int32.ofNat B.slots.size)] 2)) (s₁.setTop (mkF m 8 #[.val (.ref d), .val (.int (Int32.ofNat B.slots.size))] [.int (lo8 (ushr (Int32.ofNat B.slots.size - Int32.ofNat B.slots.size) 31))])) := c2.trans (by
    refine X0.alen hexec hB0 rfl rfl (hb hbytes d2) ?_
    refine XS.isub X0.here hexec rfl (hb hbytes d3) rfl ?_
    refine bipushV X0.here hexec rfl 31 (hb hbytes d4) (by decide) ?_
    refine iushr X0.here hexec rfl (hb hbytes d6) rfl ?_
    refine i2b X0.here hexec rfl (hb hbytes d7) rfl ?_
    exact Steps.refl _)
  have e0 : lo8 (ushr (Int32.ofNat B.slots.size - Int32.ofNat B.slots.size) 31) = 0 := by rw [Int32.sub_self]; decide
  rw [e0] at c3
  exact ⟨s₁, some (.int 0), _, _, _, X0, rfl, rfl, rfl, (fun h => by cases h), ⟨rfl, hh0⟩, fun fs hl => c3.trans (X0.ireturnOut hexec hret rfl (Or.inr (Or.inr (Or.inl rfl))) (hb hbytes d8) hl)⟩
end CodL
def Got (a : Addr) (D : Cell) (fV fC : Field) (A : Cell) (o len : Nat) (r : Option Value) (s u : State) : Prop := r = none ∧ ∃ D' V : Cell, Blank "java/lang/String" a D' u ∧ Same D D' [fV.slot, fC.slot] ∧ D'.slots[fV.slot]? = some (.ref s.heap.size) ∧ D'.slots[fC.slot]? = some (.int 0) ∧ Arr .byte s.heap.size V u ∧ V.vm = .none ∧ u.vm.findClass "[B" = some V.cls ∧ V.slots.size = len ∧ (∀ j, j < len → V.slots[j]? = some (.int (lo8 (cv A (o + j))))) ∧ (∀ (y : Addr) (c : Cell), y ≠ a → s.heap[y]? = some c → u.heap[y]? = some c) ∧ u.heap.size = s.heap.size + 1
theorem Got.mv {a : Addr} {D A : Cell} {fV fC : Field} {o len : Nat} : ∀ r (U U' V V' : State), U'.heap = U.heap → V.vm.Alike V'.vm → V'.heap = V.heap → Got a D fV fC A o len r U V → Got a D fV fC A o len r U' V' :=
  fun r U U' V V' h1 hal h2 ⟨e0, D', X, a1, a2, a3, a4, a5, a6, a7, a8, a9, a10, a11⟩ => ⟨e0, D', X, a1.mv hal h2, a2, by rw [h1]; exact a3, a4, by rw [h1]; exact a5.mv hal h2, a6, by rw [hal.findClass]; exact a7, a8, a9, by rw [h1, h2]; exact a10, by rw [h1, h2]; exact a11⟩
namespace New4
def yN : MethodName := ⟨"java/lang/String", "<init>", "([CIILjava/lang/Void;)V"⟩
abbrev yB : ByteArray := jdk_42_method_149_code
theorem d0 : decode yB 0 = .ok (.aload_n 0, 1) := by decide +kernel
theorem d1 : decode yB 1 = .ok (.invokespecial 1, 3) := by decide +kernel
theorem d4 : decode yB 4 = .ok (.iload_n 3, 1) := by decide +kernel
theorem d5 : decode yB 5 = .ok (.ifCond (.ne) 22, 3) := by decide +kernel
theorem d27 : decode yB 27 = .ok (.getstatic 38, 3) := by decide +kernel
theorem d30 : decode yB 30 = .ok (.ifCond (.eq) 28, 3) := by decide +kernel
theorem d33 : decode yB 33 = .ok (.aload_n 1, 1) := by decide +kernel
theorem d34 : decode yB 34 = .ok (.iload_n 2, 1) := by decide +kernel
theorem d35 : decode yB 35 = .ok (.iload_n 3, 1) := by decide +kernel
theorem d36 : decode yB 36 = .ok (.invokestatic 177, 3) := by decide +kernel
theorem d39 : decode yB 39 = .ok (.astore 5, 2) := by decide +kernel
theorem d41 : decode yB 41 = .ok (.aload_n 0, 1) := by decide +kernel
theorem d42 : decode yB 42 = .ok (.aload 5, 2) := by decide +kernel
theorem d44 : decode yB 44 = .ok (.iload_n 3, 1) := by decide +kernel
theorem d45 : decode yB 45 = .ok (.invokestatic 47, 3) := by decide +kernel
theorem d48 : decode yB 48 = .ok (.putfield 15, 3) := by decide +kernel
theorem d51 : decode yB 51 = .ok (.aload_n 0, 1) := by decide +kernel
theorem d52 : decode yB 52 = .ok (.aload 5, 2) := by decide +kernel
theorem d54 : decode yB 54 = .ok (.putfield 9, 3) := by decide +kernel
theorem d57 : decode yB 57 = .ok (.return_, 1) := by decide +kernel
def site : List Cond := [.fieldLink "java/lang/String" 38 "java/lang/String" "COMPACT_STRINGS" "Z", Cmp3.tab, CodL.tab, .laysFinal "java/lang/String" "java/lang/String" "value" "[B", .fieldLink "java/lang/String" 9 "java/lang/String" "value" "[B", .laysFinal "java/lang/String" "java/lang/String" "coder" "B", .fieldLink "java/lang/String" 15 "java/lang/String" "coder" "B"] ++ objW "java/lang/String" 1 ++ staticW "java/lang/String" 177 Cmp3.yN ++ staticW "java/lang/String" 47 CodL.yN
def tab : Cond := tabOf yN yB 6 none site
def P (a : Addr) (D : Cell) (fV fC : Field) (b : Addr) (A : Cell) (z : Int32) (o len : Nat) (args : Array Value) (s : State) : Prop := args = #[.ref a, .ref b, .int (Int32.ofNat o), .int (Int32.ofNat len), .null] ∧ Blank "java/lang/String" a D s ∧ Found "java/lang/String" "value" "[B" fV s ∧ Found "java/lang/String" "coder" "B" fC s ∧ Ch b A s ∧ StaticIs s "java/lang/String" "COMPACT_STRINGS" "Z" (.int z) ∧ ¬ z = 0 ∧ 0 < len ∧ o + len ≤ A.slots.size ∧ len ≤ 536870912 ∧ ∀ i, i < len → ¬ 255 < cv A (o + i)
def E (a : Addr) (D : Cell) (fV fC : Field) (A : Cell) (o len : Nat) (r : Option Value) (s u : State) : Prop := Got a D fV fC A o len r s u
theorem law (l : Launch) (a : Addr) (D : Cell) (fV fC : Field) (b : Addr) (A : Cell) (z : Int32) (o len : Nat) : Law l yN 5 4 2 35 yB 6 none site (P a D fV fC b A z o len) (E a D fV fC A o len) [⟨a, fC.slot⟩, ⟨a, fV.slot⟩] 1 len := by
  refine Law.of_walk (plainFor_of_name (by decide +kernel)) (by decide +kernel) (by decide +kernel) (by decide) (fun _ _ h => by rw [h.1]; rfl) (fun _ U U' hal hh h => ⟨h.1, h.2.1.mv hal hh, h.2.2.1.al hal, h.2.2.2.1.al hal, h.2.2.2.2.1.mv hal hh, h.2.2.2.2.2.1.there hal hh, h.2.2.2.2.2.2⟩) (fun r U U' V V' h1 hal h2 h => Got.mv r U U' V V' h1 hal h2 h) ?_
  intro p e s m args below meth c s₁ X0 hexec hbytes hml hret hlk hnm hown hh0 W hP
  obtain ⟨rfl, hB, f1, f2, hA, s1, hz, l0, l1, l2, hp⟩ := hP
  have a31 := hA.1.2.2.2
  have c1 : Steps p.tables e below (s₁.setTop (entryFrame m #[.ref a, .ref b, .int (Int32.ofNat o), .int (Int32.ofNat len), .null] 6)) (s₁.setTop (mkF m 0 #[.val (.ref a), .val (.ref b), .val (.int (Int32.ofNat o)), .val (.int (Int32.ofNat len)), .val .null, .unset] [])) := entry rfl
  have c2 : Steps p.tables e below (s₁.setTop (entryFrame m #[.ref a, .ref b, .int (Int32.ofNat o), .int (Int32.ofNat len), .null] 6)) (s₁.setTop (mkF m 1 #[.val (.ref a), .val (.ref b), .val (.int (Int32.ofNat o)), .val (.int (Int32.ofNat len)), .val .null, .unset] [.ref a])) := c1.trans (by
    refine XS.aloadN X0.here hexec rfl (hb hbytes d0) rfl rfl ?_
    exact Steps.refl _)
  obtain ⟨T3, X3, q3, st3⟩ := X0.oinit hexec hown (wks W (objW "java/lang/String" 1)) (g := (mkF m 1 #[.val (.ref a), .val (.ref b), .val (.int (Int32.ofNat o)), .val (.int (Int32.ofNat len)), .val .null, .unset] [.ref a])) rfl (by rw [hml]; rfl) (rest := []) rfl (hb hbytes d1) (W := 0) (by show 2 * 0 + 0 ≤ _; decide) (Nat.le_of_ble_eq_true rfl) (Nat.le_of_ble_eq_true rfl)
  have hh3 := q3.trans hh0
  have c4 : Steps p.tables e below (s₁.setTop (entryFrame m #[.ref a, .ref b, .int (Int32.ofNat o), .int (Int32.ofNat len), .null] 6)) (T3.setTop (mkF m 27 #[.val (.ref a), .val (.ref b), .val (.int (Int32.ofNat o)), .val (.int (Int32.ofNat len)), .val .null, .unset] [])) := (c2.trans (st3 _ (Steps.refl _))).trans (by
    refine XS.iloadN X3.here hexec rfl (hb hbytes d4) rfl ?_
    refine XS.ifYes X3.here hexec rfl (pc0 := 5) rfl (hb hbytes d5) rfl (i0_ne_t (nz32 (by omega) l0)) (by decide) rfl ?_
    exact Steps.refl _)
  obtain ⟨T5, X5, q5, st5⟩ := X3.sget hexec hown (wk W (.fieldLink "java/lang/String" 38 "java/lang/String" "COMPACT_STRINGS" "Z")) s1 (fun _ _ h => by rw [hh3]; exact h) (g := (mkF m 27 #[.val (.ref a), .val (.ref b), .val (.int (Int32.ofNat o)), .val (.int (Int32.ofNat len)), .val .null, .unset] [])) rfl (hb hbytes d27)
  have hh5 := q5.trans hh3
  have c6 : Steps p.tables e below (s₁.setTop (entryFrame m #[.ref a, .ref b, .int (Int32.ofNat o), .int (Int32.ofNat len), .null] 6)) (T5.setTop (mkF m 30 #[.val (.ref a), .val (.ref b), .val (.int (Int32.ofNat o)), .val (.int (Int32.ofNat len)), .val .null, .unset] [.int z])) := c4.trans (st5 _ (Steps.refl _))
  have c7 : Steps p.tables e below (s₁.setTop (entryFrame m #[.ref a, .ref b, .int (Int32.ofNat o), .int (Int32.ofNat len), .null] 6)) (T5.setTop (mkF m 36 #[.val (.ref a), .val (.ref b), .val (.int (Int32.ofNat o)), .val (.int (Int32.ofNat len)), .val .null, .unset] [.int (Int32.ofNat len), .int (Int32.ofNat o), .ref b])) := c6.trans (by
    refine XS.ifNo X5.here hexec rfl (hb hbytes d30) rfl (i0_eq_f hz) ?_
    refine XS.aloadN X5.here hexec rfl (hb hbytes d33) rfl rfl ?_
    refine XS.iloadN X5.here hexec rfl (hb hbytes d34) rfl ?_
    refine XS.iloadN X5.here hexec rfl (hb hbytes d35) rfl ?_
    exact Steps.refl _)
  obtain ⟨v8, T8, X8, E8, g8⟩ := X5.callS hexec (Cmp3.law l b A o len) hown (wks W (staticW "java/lang/String" 177 Cmp3.yN)) (wk W Cmp3.tab) (W := 0) (Nat.le_of_ble_eq_true rfl) (Nat.le_of_ble_eq_true rfl) (Nat.le_refl _) (by show 0 + len ≤ len; omega) (g := (mkF m 36 #[.val (.ref a), .val (.ref b), .val (.int (Int32.ofNat o)), .val (.int (Int32.ofNat len)), .val .null, .unset] [.int (Int32.ofNat len), .int (Int32.ofNat o), .ref b])) rfl (by rw [hml]; rfl) c7 (argsL := [.ref b, .int (Int32.ofNat o), .int (Int32.ofNat len)]) (rest := []) rfl rfl (by show 2 * 0 + 0 ≤ _; decide) (hb hbytes d36) (⟨rfl, hA.mv X5.warmed.alike hh5, l1, l2, hp⟩)
  obtain ⟨e8, z8⟩ := E8
  obtain ⟨rfl, N, n1, n2, n3, n4, n5, n6⟩ := NewArr.mv _ T5 s _ _ hh5.symm (Vm.Alike.refl _) rfl e8
  rw [hh5] at z8
  have hB1 := hB.keep X8.warmed.alike (n6 _ _ hB.1)
  have hne : s.heap.size ≠ a := (Nat.ne_of_lt (Array.getElem?_eq_some_iff.mp hB.1).1).symm
  have c9 : Steps p.tables e below (s₁.setTop (entryFrame m #[.ref a, .ref b, .int (Int32.ofNat o), .int (Int32.ofNat len), .null] 6)) (T8.setTop (mkF m 39 #[.val (.ref a), .val (.ref b), .val (.int (Int32.ofNat o)), .val (.int (Int32.ofNat len)), .val .null, .unset] [.ref s.heap.size])) := g8
  have c10 : Steps p.tables e below (s₁.setTop (entryFrame m #[.ref a, .ref b, .int (Int32.ofNat o), .int (Int32.ofNat len), .null] 6)) (T8.setTop (mkF m 45 #[.val (.ref a), .val (.ref b), .val (.int (Int32.ofNat o)), .val (.int (Int32.ofNat len)), .val .null, .val (.ref s.heap.size)] [.int (Int32.ofNat N.slots.size), .ref s.heap.size, .ref a])) := by
    have hc : Steps p.tables e below (s₁.setTop (entryFrame m #[.ref a, .ref b, .int (Int32.ofNat o), .int (Int32.ofNat len), .null] 6)) (T8.setTop (mkF m 45 #[.val (.ref a), .val (.ref b), .val (.int (Int32.ofNat o)), .val (.int (Int32.ofNat len)), .val .null, .val (.ref s.heap.size)] [.int (Int32.ofNat len), .ref s.heap.size, .ref a])) := c9.trans (by
      refine XS.astore X8.here hexec rfl (hb hbytes d39) rfl rfl rfl ?_
      refine XS.aloadN X8.here hexec rfl (hb hbytes d41) rfl rfl ?_
      refine XS.aload X8.here hexec rfl (hb hbytes d42) rfl rfl ?_
      refine XS.iloadN X8.here hexec rfl (hb hbytes d44) rfl ?_
      exact Steps.refl _)
    rw [n4]; exact hc
  obtain ⟨v11, T11, X11, E11, g11⟩ := X8.callS hexec (CodL.law l s.heap.size N) hown (wks W (staticW "java/lang/String" 47 CodL.yN)) (wk W CodL.tab) (W := 1) (Nat.le_of_ble_eq_true rfl) (Nat.le_of_ble_eq_true rfl) (Nat.le_refl _) (by show 0 + len + 0 ≤ len; omega) (g := (mkF m 45 #[.val (.ref a), .val (.ref b), .val (.int (Int32.ofNat o)), .val (.int (Int32.ofNat len)), .val .null, .val (.ref s.heap.size)] [.int (Int32.ofNat N.slots.size), .ref s.heap.size, .ref a])) rfl (by rw [hml]; rfl) c10 (argsL := [.ref s.heap.size, .int (Int32.ofNat N.slots.size)]) (rest := [.ref a]) rfl rfl (by show 2 * 0 + (1 + 0) ≤ _; decide) (hb hbytes d45) (⟨rfl, n1⟩)
  obtain ⟨rfl, q11⟩ := E11
  have hB11 := hB1.mv (X8.warmed.alike.symm.trans X11.warmed.alike) q11
  have c12 : Steps p.tables e below (s₁.setTop (entryFrame m #[.ref a, .ref b, .int (Int32.ofNat o), .int (Int32.ofNat len), .null] 6)) (T11.setTop (mkF m 48 #[.val (.ref a), .val (.ref b), .val (.int (Int32.ofNat o)), .val (.int (Int32.ofNat len)), .val .null, .val (.ref s.heap.size)] [.int 0, .ref a])) := g11
  obtain ⟨T13, X13, p13, bl13, sl13, st13⟩ := X11.finit hexec hown (wk W (.fieldLink "java/lang/String" 15 "java/lang/String" "coder" "B")) (Or.inr ⟨_, (wk W (.laysFinal "java/lang/String" "java/lang/String" "coder" "B"))⟩) (Or.inl ⟨rfl, hnm⟩) f2 (Or.inl rfl) hB11 (t := .byte) (by decide +kernel) rfl (g := (mkF m 48 #[.val (.ref a), .val (.ref b), .val (.int (Int32.ofNat o)), .val (.int (Int32.ofNat len)), .val .null, .val (.ref s.heap.size)] [.int 0, .ref a])) rfl (rest := []) rfl (hb hbytes d48)
  have c14 : Steps p.tables e below (s₁.setTop (entryFrame m #[.ref a, .ref b, .int (Int32.ofNat o), .int (Int32.ofNat len), .null] 6)) (T13.setTop (mkF m 54 #[.val (.ref a), .val (.ref b), .val (.int (Int32.ofNat o)), .val (.int (Int32.ofNat len)), .val .null, .val (.ref s.heap.size)] [.ref s.heap.size, .ref a])) := (c12.trans (st13 _ (Steps.refl _))).trans (by
    refine XS.aloadN X13.here hexec rfl (hb hbytes d51) rfl rfl ?_
    refine XS.aload X13.here hexec rfl (hb hbytes d52) rfl rfl ?_
    exact Steps.refl _)
  obtain ⟨T15, X15, p15, bl15, sl15, st15⟩ := X13.finit hexec hown (wk W (.fieldLink "java/lang/String" 9 "java/lang/String" "value" "[B")) (Or.inr ⟨_, (wk W (.laysFinal "java/lang/String" "java/lang/String" "value" "[B"))⟩) (Or.inl ⟨rfl, hnm⟩) f1 (Or.inl rfl) bl13 (t := (.array .byte)) (by decide +kernel) rfl (g := (mkF m 54 #[.val (.ref a), .val (.ref b), .val (.int (Int32.ofNat o)), .val (.int (Int32.ofNat len)), .val .null, .val (.ref s.heap.size)] [.ref s.heap.size, .ref a])) rfl (rest := []) rfl (hb hbytes d54)
  have c16 : Steps p.tables e below (s₁.setTop (entryFrame m #[.ref a, .ref b, .int (Int32.ofNat o), .int (Int32.ofNat len), .null] 6)) (T15.setTop (mkF m 57 #[.val (.ref a), .val (.ref b), .val (.int (Int32.ofNat o)), .val (.int (Int32.ofNat len)), .val .null, .val (.ref s.heap.size)] [])) := c14.trans (st15 _ (Steps.refl _))
  have ap := apart (Or.inr ⟨_, (wk W (.laysFinal "java/lang/String" "java/lang/String" "value" "[B"))⟩) (Or.inr ⟨_, (wk W (.laysFinal "java/lang/String" "java/lang/String" "coder" "B"))⟩) f1 f2 (t₁ := .array .byte) (t₂ := .byte) (by decide +kernel) (by decide +kernel) (by decide)
  have al := X8.warmed.alike.symm.trans X15.warmed.alike
  have n7 : T11.heap[s.heap.size]? = some N := by rw [q11]; exact n1.1
  exact ⟨T15, none, _, _, _, X15, by simp, rfl, by omega, (fun _ => rfl), ⟨rfl, _, N, bl15, ((Same.refl D _).set _ (by simp)).set _ (by simp), sl15, (Cell.slots_setSlot_ne _ ap).trans sl13, n1.keep al (p15.other hne (p13.other hne n7)), n2, by rw [al.findClass]; exact n3, n4, n5, fun y c h1 h2 => p15.other h1 (p13.other h1 (by rw [q11]; exact n6 y c h2)), by rw [p15.2.2, p13.2.2, q11]; exact z8⟩, fun fs hl => c16.trans (X15.returnOut hexec hret (hb hbytes d57) hl)⟩
end New4
namespace New1
def yN : MethodName := ⟨"java/lang/String", "<init>", "([C)V"⟩
abbrev yB : ByteArray := jdk_42_method_3_code
theorem d0 : decode yB 0 = .ok (.aload_n 0, 1) := by decide +kernel
theorem d1 : decode yB 1 = .ok (.aload_n 1, 1) := by decide +kernel
theorem d2 : decode yB 2 = .ok (.iconst 0, 1) := by decide +kernel
theorem d3 : decode yB 3 = .ok (.aload_n 1, 1) := by decide +kernel
theorem d4 : decode yB 4 = .ok (.arraylength, 1) := by decide +kernel
theorem d5 : decode yB 5 = .ok (.aconst_null, 1) := by decide +kernel
theorem d6 : decode yB 6 = .ok (.invokespecial 27, 3) := by decide +kernel
theorem d9 : decode yB 9 = .ok (.return_, 1) := by decide +kernel
def site : List Cond := [New4.tab] ++ initW "java/lang/String" 27 New4.yN
def tab : Cond := tabOf yN yB 2 none site
def P (a : Addr) (D : Cell) (fV fC : Field) (b : Addr) (A : Cell) (z : Int32) (args : Array Value) (s : State) : Prop := args = #[.ref a, .ref b] ∧ Blank "java/lang/String" a D s ∧ Found "java/lang/String" "value" "[B" fV s ∧ Found "java/lang/String" "coder" "B" fC s ∧ Ch b A s ∧ StaticIs s "java/lang/String" "COMPACT_STRINGS" "Z" (.int z) ∧ ¬ z = 0 ∧ 0 < A.slots.size ∧ A.slots.size ≤ 536870912 ∧ ∀ i, i < A.slots.size → ¬ 255 < cv A i
def E (a : Addr) (D : Cell) (fV fC : Field) (A : Cell) (r : Option Value) (s u : State) : Prop := Got a D fV fC A 0 A.slots.size r s u
theorem law (l : Launch) (a : Addr) (D : Cell) (fV fC : Field) (b : Addr) (A : Cell) (z : Int32) : Law l yN 2 1 3 52 yB 2 none site (P a D fV fC b A z) (E a D fV fC A) [⟨a, fC.slot⟩, ⟨a, fV.slot⟩] 1 A.slots.size := by
  refine Law.of_walk (plainFor_of_name (by decide +kernel)) (by decide +kernel) (by decide +kernel) (by decide) (fun _ _ h => by rw [h.1]; rfl) (fun _ U U' hal hh h => ⟨h.1, h.2.1.mv hal hh, h.2.2.1.al hal, h.2.2.2.1.al hal, h.2.2.2.2.1.mv hal hh, h.2.2.2.2.2.1.there hal hh, h.2.2.2.2.2.2⟩) (fun r U U' V V' h1 hal h2 h => Got.mv r U U' V V' h1 hal h2 h) ?_
  intro p e s m args below meth c s₁ X0 hexec hbytes hml hret hlk hnm hown hh0 W hP
  obtain ⟨rfl, hB, f1, f2, hA, s1, hz, l0, l2, hp⟩ := hP
  have c1 : Steps p.tables e below (s₁.setTop (entryFrame m #[.ref a, .ref b] 2)) (s₁.setTop (mkF m 0 #[.val (.ref a), .val (.ref b)] [])) := entry rfl
  have c2 : Steps p.tables e below (s₁.setTop (entryFrame m #[.ref a, .ref b] 2)) (s₁.setTop (mkF m 6 #[.val (.ref a), .val (.ref b)] [.null, .int (Int32.ofNat A.slots.size), .int 0, .ref b, .ref a])) := c1.trans (by
    refine XS.aloadN X0.here hexec rfl (hb hbytes d0) rfl rfl ?_
    refine XS.aloadN X0.here hexec rfl (hb hbytes d1) rfl rfl ?_
    refine iconstV X0.here hexec rfl 0 (hb hbytes d2) (by decide) ?_
    refine XS.aloadN X0.here hexec rfl (hb hbytes d3) rfl rfl ?_
    refine X0.alen hexec (hA.1.mv X0.warmed.alike hh0) rfl rfl (hb hbytes d4) ?_
    refine XS.aconstNull X0.here hexec rfl (hb hbytes d5) ?_
    exact Steps.refl _)
  obtain ⟨v3, T3, X3, E3, g3⟩ := X0.callN hexec (New4.law l a D fV fC b A z 0 A.slots.size) rfl hown (wks W (initW "java/lang/String" 27 New4.yN)) (W New4.tab (by simp only [site, List.mem_cons, List.mem_append, true_or, or_true])) (W := 0) (Nat.le_of_ble_eq_true rfl) (Nat.le_of_ble_eq_true rfl) (Nat.le_refl _) (by show 0 + A.slots.size ≤ A.slots.size; omega) (g := (mkF m 6 #[.val (.ref a), .val (.ref b)] [.null, .int (Int32.ofNat A.slots.size), .int (Int32.ofNat 0), .ref b, .ref a])) rfl (by rw [hml]; rfl) c2 (argsL := [.ref b, .int (Int32.ofNat 0), .int (Int32.ofNat A.slots.size), .null]) (rest := []) rfl rfl (by show 2 * 0 + 0 ≤ _; decide) (hb hbytes d6) (⟨rfl, hB.mv X0.warmed.alike hh0, f1.al X0.warmed.alike, f2.al X0.warmed.alike, hA.mv X0.warmed.alike hh0, s1.there X0.warmed.alike hh0, hz, l0, by omega, l2, fun i hi => by rw [Nat.zero_add]; exact hp i hi⟩)
  have e0 := Got.mv _ s₁ s _ _ hh0.symm (Vm.Alike.refl _) rfl E3
  obtain rfl := e0.1
  have c4 : Steps p.tables e below (s₁.setTop (entryFrame m #[.ref a, .ref b] 2)) (T3.setTop (mkF m 9 #[.val (.ref a), .val (.ref b)] [])) := g3
  exact ⟨T3, none, _, _, _, X3, by simp, rfl, by omega, (fun _ => rfl), e0, fun fs hl => c4.trans (X3.returnOut hexec hret (hb hbytes d9) hl)⟩
theorem pays {l : Launch} {R : Room} {p : Program} {e : Env} {below : List Frame} {s : State} {sargs : Array Value} {len W : Nat} (a : Addr) (D : Cell) (fV fC : Field) (b : Addr) (A : Cell) (z : Int32) (htab : tab.before sargs s = true) (hfr : 4 ≤ R.frames) (hlo : W + 65 ≤ R.locals) :
    Back l R p e below s sargs yN len W (fun A₁ a₁ => A₁.cells + 1 ≤ R.cells ∧ A₁.slots + A.slots.size ≤ R.slots ∧ P a D fV fC b A z a₁ A₁.U) (fun A₁ _ v₁ B₁ => E a D fV fC A v₁ A₁.U B₁.U ∧ B₁.locs = A₁.locs ++ [⟨a, fC.slot⟩, ⟨a, fV.slot⟩] ∧ B₁.cells = A₁.cells + 1 ∧ B₁.slots = A₁.slots + A.slots.size) :=
  (law l a D fV fC b A z).pays htab hfr (by omega)
end New1
theorem lo8_mask {x : Int32} (h0 : ¬ x < 0) (h1 : ¬ 255 < x) : lo8 x &&& 255 = x := by
  have t : ∀ k : Fin 256, lo8 (Int32.ofNat k.val) &&& 255 = Int32.ofNat k.val := by decide +kernel
  rw [Int32.lt_iff_toInt_lt] at h0 h1
  have e0 : (0 : Int32).toInt = 0 := rfl
  have e1 : (255 : Int32).toInt = 255 := rfl
  obtain ⟨k, hk⟩ : ∃ k : Nat, x.toInt = k := ⟨x.toInt.toNat, by omega⟩
  have hx : x = Int32.ofNat k := Int32.toInt_inj.mp (by rw [hk, Int32.toInt_ofNat_small (by omega)])
  rw [hx]
  exact t ⟨k, by omega⟩
end StrChars
namespace StrChars.Road
open Jvm Sem ClassFile Op Lib Jvm.Stand Jvm.Free Jvm.Free.XT
open Jvm.Lib.Cold (StaticIs)
abbrev ST : String := "java/lang/String"
/-- every table word that New1's law asks, flat -/
abbrev words : List Jvm.Cond := [.code New1.yN New1.yB 2 none, .initialized ST, .methodLink ST 27 New4.yN, .instanceMethod New4.yN,
  .code New4.yN New4.yB 6 none, .fieldLink ST 38 ST "COMPACT_STRINGS" "Z", .laysFinal ST ST "value" "[B", .fieldLink ST 9 ST "value" "[B", .laysFinal ST ST "coder" "B", .fieldLink ST 15 ST "coder" "B",
  .methodLink ST 1 Lib.objectInit, .instanceMethod Lib.objectInit, .code Lib.objectInit ⟨#[0xb1]⟩ 1 none, .methodLink ST 177 Cmp3.yN, .static Cmp3.yN, .methodLink ST 47 CodL.yN, .static CodL.yN,
  .code Cmp3.yN Cmp3.yB 6 (some (.array .byte)), .initialized U16, .arrayClass .byte, .methodLink U16 115 Cmp5.yN, .static Cmp5.yN, .code Cmp5.yN Cmp5.yB 7 (some .int), .code CodL.yN CodL.yB 2 (some .byte)]
theorem tab_of {a : Array Value} {s : State} (h : ∀ w ∈ words, w.before a s = true) : New1.tab.before a s = true := by
  have h5 : Cmp5.tab.before a s = true := unparts (wk h (.code Cmp5.yN Cmp5.yB 7 (some .int))) (wks h (.initialized Cmp5.yN.cls :: Cmp5.site))
  have hc : CodL.tab.before a s = true := unparts (wk h (.code CodL.yN CodL.yB 2 (some .byte))) (wks h (.initialized CodL.yN.cls :: CodL.site))
  have q5 : ∀ w ∈ Cmp5.tab :: words, w.before a s = true := fun w hw => (List.mem_cons.mp hw).elim (fun e => e ▸ h5) (h w)
  have h3 : Cmp3.tab.before a s = true := unparts (wk q5 (.code Cmp3.yN Cmp3.yB 6 (some (.array .byte)))) (wks q5 (.initialized Cmp3.yN.cls :: Cmp3.site))
  have q3 : ∀ w ∈ Cmp3.tab :: CodL.tab :: words, w.before a s = true := fun w hw => (List.mem_cons.mp hw).elim (fun e => e ▸ h3) fun hw => (List.mem_cons.mp hw).elim (fun e => e ▸ hc) (h w)
  have h4 : New4.tab.before a s = true := unparts (wk q3 (.code New4.yN New4.yB 6 none)) (wks q3 (.initialized New4.yN.cls :: New4.site))
  have q4 : ∀ w ∈ New4.tab :: words, w.before a s = true := fun w hw => (List.mem_cons.mp hw).elim (fun e => e ▸ h4) (h w)
  exact unparts (wk q4 (.code New1.yN New1.yB 2 none)) (wks q4 (.initialized New1.yN.cls :: New1.site))
theorem moved {Z s : State} {a0 args : Array Value} (hZ : Z.Warmed39 s.vm) (hw : ∀ d ∈ words, d.before a0 Z = true) : ∀ d ∈ words, d.before args s = true := fun d hd => by
  have q := hw d hd
  have t : ∀ d ∈ words, d = .arrayClass .byte ∨ (d.onTables && d.keepsFace) = true := by decide +kernel
  rcases t d hd with rfl | t
  · exact RoadKit.mvA hZ q
  · exact RoadKit.mv hZ q t
def Q (Z : State) (x : Addr) (A : Cell) (h : Heap) (v : Option Value) (h' : Heap) (L : List Loc) : Prop := v = none ∧ (∀ y ∈ L, y.base = x) ∧ RoadKit.Keep h h' [x] ∧ h'.size = h.size + 1 ∧ RoadKit.Exa Z h' x ST ∧ RoadKit.Fld Z h' x ST "value" "[B" (.ref h.size) ∧ RoadKit.Fld Z h' x ST "coder" "B" (.int 0) ∧
  (∃ V : Cell, RoadKit.Arr Z h' h.size V .byte ∧ V.vm = .none ∧ Z.vm.findClass "[B" = some V.cls ∧ V.slots.size = A.slots.size ∧ ∀ j, j < A.slots.size → V.slots[j]? = some (.int (lo8 (cv A j)))) ∧
  ∀ (O n d : String) (w : Value), RoadKit.Fld Z h x O n d w → RoadKit.slotOf Z O n d ≠ RoadKit.slotOf Z ST "value" "[B" → RoadKit.slotOf Z O n d ≠ RoadKit.slotOf Z ST "coder" "B" → RoadKit.Fld Z h' x O n d w
theorem back {p : Program} {l : Launch} {e : Env} {R : Room} {s : State} {args : Array Value} {below : List Frame} {len W : Nat} {Z : State} {a0 : Array Value} {h : Heap} (hZ : Z.Warmed39 s.vm) (hw : ∀ d ∈ words, d.before a0 Z = true) {kI : Nat} (wi : (Jvm.Cond.instantiable ST kI).before a0 Z = true)
    {x b : Addr} {A : Cell} {z : Int32} {v0 c0 : Value} (E : RoadKit.Exa Z h x ST) (V : RoadKit.Fld Z h x ST "value" "[B" v0) (C : RoadKit.Fld Z h x ST "coder" "B" c0) (K : RoadKit.Arr Z h b A .char) (hty : Typed .char A) (S : RoadKit.Sta Z h ST "COMPACT_STRINGS" "Z" (.int z)) (hz : ¬ z = 0)
    (l0 : 0 < A.slots.size) (l2 : A.slots.size ≤ 536870912) (hp : ∀ i, i < A.slots.size → ¬ 255 < cv A i) (hfr : 4 ≤ R.frames) (hlo : W + 65 ≤ R.locals) :
    Back l R p e below s args New1.yN len W (fun P a => a = #[.ref x, .ref b] ∧ P.U.heap = h ∧ P.cells + 1 ≤ R.cells ∧ P.slots + A.slots.size ≤ R.slots)
      (fun P _ v B => ∃ L, Q Z x A h v B.U.heap L ∧ B.locs = P.locs ++ L ∧ B.cells = P.cells + 1 ∧ B.slots = P.slots + A.slots.size) := by
  intro m meth c P g ig mk a X hg hsize hdg hW hn hp'
  obtain ⟨rfl, rfl, r1, r2⟩ := hp'
  have al : Z.vm.Alike P.U.vm := hZ.alike.trans X.warmed.alike
  obtain ⟨D, cfV, kV, iV, fV, hD, gV, stV, knV, obV, asV, slV⟩ := id V
  obtain ⟨D', cfC, kC, iC, fC, hD', gC, stC, -, -, asC, slC⟩ := id C
  cases hD.symm.trans hD'
  obtain ⟨D2, kD, e1, e2, e3, e4, e5⟩ := id E
  cases hD.symm.trans e1
  obtain ⟨c2, k2, i1, i2, i3, -⟩ := Cond.instantiable_spec wi
  cases e2.symm.trans i1
  cases e3.symm.trans i2
  obtain ⟨kU, u1, u2⟩ := al.2.2 _ _ e3
  have hB : Blank ST x D P.U := ⟨hD, ⟨knV, fun q hq => by rw [hq] at obV; cases obV⟩, by rw [al.findClass]; exact e2, kU, u1, by rw [u2]; exact i3, by rw [u2]; exact e5 i3⟩
  have F1 : Found ST "value" "[B" fV P.U := ⟨SBG.found_only al ⟨cfV, kV, iV, gV⟩, stV⟩
  have F2 : Found ST "coder" "B" fC P.U := ⟨SBG.found_only al ⟨cfC, kC, iC, gC⟩, stC⟩
  have hA : Ch b A P.U := ⟨⟨K.1, State.isArrayOf_alike al K.2.1, K.2.2, by omega⟩, hty⟩
  have hS : StaticIs P.U ST "COMPACT_STRINGS" "Z" (.int z) := by
    obtain ⟨cfS, iS, kS, fS, st, cS, t1, t2, t3, t4, t5, t6, t7⟩ := S
    exact StaticIs.there (s := { Z with heap := P.U.heap }) ⟨cfS, iS, kS, fS, st, cS, t1, t2, t3, t4, t5, (fun q => by rw [q] at t6; cases t6), t7⟩ al rfl
  obtain ⟨v, B, X', ⟨⟨hv, E', V', q1, q2, q3, q4, q5, q6, q7, q8, q9, q10, q11⟩, hl, hc, hs⟩, st⟩ := New1.pays x D fV fC b A z (tab_of (moved hZ hw)) hfr hlo m meth c P g ig mk _ X hg hsize hdg hW hn ⟨r1, r2, rfl, hB, F1, F2, hA, hS, hz, l0, l2, hp⟩
  have al' : Z.vm.Alike B.U.vm := hZ.alike.trans X'.warmed.alike
  have hsz : E'.slots.size = D.slots.size := by
    obtain ⟨-, -, -, kB, w1, w2, w3⟩ := q1
    obtain ⟨kB', y1, y2⟩ := al'.2.2 _ _ e3
    rw [q2.2.1] at w1
    cases w1.symm.trans y1
    rw [w3, e5 i3, y2]
  refine ⟨v, B, X', ⟨_, ⟨hv, ?_, ⟨by omega, fun y cy hy hn' => q10 y cy (by simpa using hn') hy, fun y cy hy => ?_⟩, q11, ⟨E', _, q1.1, by rw [q2.2.1]; exact e2, by rw [q2.2.1]; exact e3, by rw [q2.1]; exact obV, fun _ => by rw [hsz]; exact e5 i3⟩,
    ⟨E', cfV, kV, iV, fV, q1.1, gV, stV, by rw [q2.1]; exact knV, by rw [q2.1]; exact obV, by rw [q2.2.1]; exact asV, q3⟩, ⟨E', cfC, kC, iC, fC, q1.1, gC, stC, by rw [q2.1]; exact knV, by rw [q2.1]; exact obV, by rw [q2.2.1]; exact asC, q4⟩,
    ⟨V', ⟨q5.1, State.isArrayOf_alike al'.symm q5.2.1, q5.2.2.1⟩, q6, by rw [← al'.findClass]; exact q7, q8, fun j hj => by have := q9 j hj; rwa [Nat.zero_add] at this⟩, fun O n d w F n1 n2 => ?_⟩, hl, hc, hs⟩, st⟩
  · intro y hy
    simp only [List.mem_cons, List.not_mem_nil, or_false] at hy
    rcases hy with rfl | rfl <;> rfl
  · by_cases q : y = x
    · subst q
      cases hD.symm.trans hy
      exact ⟨E', q1.1, q2.2.1, q2.1, hsz⟩
    · exact ⟨cy, q10 y cy q hy, rfl, rfl, rfl⟩
  · obtain ⟨D3, cf, k, i, f, g1, g2, g3, g4, g5, g6, g7⟩ := F
    cases hD.symm.trans g1
    simp only [RoadKit.slotOf, g2, gV, gC, Option.map_some, Option.getD_some] at n1 n2
    exact ⟨E', cf, k, i, f, q1.1, g2, g3, by rw [q2.1]; exact g4, by rw [q2.1]; exact g5, by rw [q2.2.1]; exact g6, by rw [q2.2.2 f.slot (by simp [n1, n2])]; exact g7⟩
end StrChars.Road
namespace StrChars.Road
open Jvm Sem ClassFile Op Lib Jvm.Stand Jvm.Free Jvm.Free.XT
def QA (Z : State) (x : Addr) (zn : Int32) (cs : List Int32) (h : Heap) (v : Option Value) (h' : Heap) (L : List Loc) : Prop := v = none ∧ (∀ y ∈ L, y.base = x) ∧ RoadKit.Keep h h' [x] ∧ h'.size = h.size + 1 ∧ RoadKit.Exa Z h' x ST ∧ RoadKit.Fld Z h' x ST "value" "[B" (.ref h.size) ∧ RoadKit.Fld Z h' x ST "coder" "B" (.int 0) ∧
  (∃ kb, Z.vm.findClass "[B" = some kb ∧ RoadKit.Arv Z h' h.size kb .byte zn (cs.map fun c => .int (lo8 c)) (.int 0)) ∧
  ∀ (O n d : String) (w : Value), RoadKit.Fld Z h x O n d w → RoadKit.slotOf Z O n d ≠ RoadKit.slotOf Z ST "value" "[B" → RoadKit.slotOf Z O n d ≠ RoadKit.slotOf Z ST "coder" "B" → RoadKit.Fld Z h' x O n d w
theorem backArv {p : Program} {l : Launch} {e : Env} {R : Room} {s : State} {args : Array Value} {below : List Frame} {len W : Nat} {Z : State} {a0 : Array Value} {h : Heap} (hZ : Z.Warmed39 s.vm) (hw : ∀ d ∈ words, d.before a0 Z = true) {kI : Nat} (wi : (Jvm.Cond.instantiable ST kI).before a0 Z = true)
    {x b : Addr} {k : ClassId} {zn z : Int32} {cs : List Int32} {dv v0 c0 : Value} (E : RoadKit.Exa Z h x ST) (V : RoadKit.Fld Z h x ST "value" "[B" v0) (C : RoadKit.Fld Z h x ST "coder" "B" c0) (K : RoadKit.Arv Z h b k .char zn (cs.map Value.int) dv) (S : RoadKit.Sta Z h ST "COMPACT_STRINGS" "Z" (.int z)) (hz : ¬ z = 0)
    (hlen : zn.toNatClampNeg = cs.length) (h0 : 0 < cs.length) (hbig : cs.length ≤ 536870912) (hall : ∀ c ∈ cs, ¬ 255 < c) (hfr : 4 ≤ R.frames) (hlo : W + 65 ≤ R.locals) :
    Back l R p e below s args New1.yN len W (fun P a => a = #[.ref x, .ref b] ∧ P.U.heap = h ∧ P.cells + 1 ≤ R.cells ∧ P.slots + cs.length ≤ R.slots)
      (fun P _ v B => ∃ L, QA Z x zn cs h v B.U.heap L ∧ B.locs = P.locs ++ L ∧ B.cells = P.cells + 1 ∧ B.slots = P.slots + cs.length) := by
  obtain ⟨A, K1, K2, K3, K4, K5, K6⟩ := K
  have e : A.slots.size = cs.length := K3.trans hlen
  have hat : ∀ (i : Nat) (hi : i < cs.length), A.slots[i]? = some (.int cs[i]) := fun i hi => by rw [K5 i (by omega)]; simp [List.getD_eq_getElem?_getD, hi]
  have hcv : ∀ (i : Nat) (hi : i < cs.length), cv A i = cs[i] := fun i hi => by unfold cv; rw [hat i hi]
  have hty : Typed .char A := fun i v hv => by
    have hi : i < A.slots.size := (Array.getElem?_eq_some_iff.mp hv).1
    have q := K5 i hi
    rw [hv] at q
    rw [Option.some.inj q]
    exact K6 i hi
  refine Back.mono (back hZ hw wi E V C K1 hty S hz (by omega) (by omega) (fun i hi => by rw [hcv i (by omega)]; exact hall _ (List.getElem_mem _)) hfr hlo) (fun P a hp => ⟨hp.1, hp.2.1, hp.2.2.1, by rw [e]; exact hp.2.2.2⟩) (fun P a v B hp hq => ?_)
  obtain ⟨L, ⟨q1, q2, q3, q4, q5, q6, q7, ⟨V', v1, v2, v3, v4, v5⟩, q9⟩, hl, hc, hs⟩ := hq
  refine ⟨L, ⟨q1, q2, q3, q4, q5, q6, q7, ⟨V'.cls, v3, V', v1, rfl, by rw [v4, e, hlen], K4, fun i hi => ?_, fun i hi => ?_⟩, q9⟩, hl, hc, by rw [hs, e]⟩
  · have hi' : i < cs.length := by omega
    rw [v5 i (by omega), hcv i hi']; simp [List.getD_eq_getElem?_getD, hi']
  · have hi' : i < cs.length := by omega
    simp only [List.getD_eq_getElem?_getD, List.getElem?_map, List.getElem?_eq_getElem hi', Option.map_some, Option.getD_some]
    exact fits_lo8 _
end StrChars.Road
namespace StrChars.Road
open Jvm Sem ClassFile Op Lib Jvm.Stand Jvm.Free Jvm.Free.XT
def QV (Z : State) (x : Addr) (N : Int32) (bs : List Int32) (h : Heap) (n0 : Nat) (v : Option Value) (h' : Heap) (L : List Loc) : Prop := v = none ∧ RoadKit.Fr n0 L ∧ RoadKit.Keep h h' [x] ∧ RoadKit.Exa Z h' x ST ∧ RoadKit.Fld Z h' x ST "coder" "B" (.int 0) ∧
  ∃ (t : Addr) (kb : ClassId), n0 ≤ t ∧ h.size ≤ t ∧ ¬ t = x ∧ RoadKit.Fld Z h' x ST "value" "[B" (.ref t) ∧ RoadKit.Arv Z h' t kb .byte N (bs.map Value.int) (.int 0)
theorem backV {p : Program} {l : Launch} {e : Env} {R : Room} {s : State} {args : Array Value} {below : List Frame} {len W : Nat} {Z : State} {a0 : Array Value} {h : Heap} (hZ : Z.Warmed39 s.vm) (hw : ∀ d ∈ words, d.before a0 Z = true) {kI : Nat} (wi : (Jvm.Cond.instantiable ST kI).before a0 Z = true)
    {x b : Addr} {kC : ClassId} {cs bs : List Int32} {d v0 c0 : Value} {z N : Int32} {n n0 : Nat} (hx0 : n0 ≤ x) (hh0 : n0 ≤ h.size) (E : RoadKit.Exa Z h x ST) (V : RoadKit.Fld Z h x ST "value" "[B" v0) (C : RoadKit.Fld Z h x ST "coder" "B" c0) (K : RoadKit.Arv Z h b kC .char N (cs.map Value.int) d) (S : RoadKit.Sta Z h ST "COMPACT_STRINGS" "Z" (.int z)) (hz : ¬ z = 0)
    (hn : cs.length = n) (hN : N = Int32.ofNat n) (l0 : 0 < n) (l2 : n ≤ 4000) (hp : ∀ c ∈ cs, ¬ c < 0 ∧ ¬ (255 : Int32) < c) (hb : bs = cs.map (fun c => c.toInt8.toInt32)) (hfr : 4 ≤ R.frames) (hlo : W + 65 ≤ R.locals) :
    Back l R p e below s args (⟨"java/lang/String", "<init>", "([C)V"⟩ : MethodName) len W (fun P a => a = #[.ref x, .ref b] ∧ P.U.heap = h ∧ P.cells + 1 ≤ R.cells ∧ P.slots + n ≤ R.slots)
      (fun P _ v B => ∃ L, QV Z x N bs h n0 v B.U.heap L ∧ B.locs = P.locs ++ L ∧ B.cells = P.cells + 1 ∧ B.slots = P.slots + n) := by
  subst hn hN hb
  refine Back.mono (backArv hZ hw wi E V C K S hz (n32 (by omega)) l0 (by omega) (fun c hc => (hp c hc).2) hfr hlo) (fun P a hp => hp) (fun P a v B hp hq => ?_)
  obtain ⟨L, ⟨q1, q2, q3, q4, q5, q6, q7, ⟨kb, v1, v2⟩, q9⟩, hl, hc, hs⟩ := hq
  exact ⟨L, ⟨q1, fun y hy => by rw [q2 y hy]; exact hx0, q3, q5, q7, h.size, kb, hh0, Nat.le_refl _, Nat.ne_of_gt E.lt, q6, by rw [List.map_map]; exact v2⟩, hl, hc, hs⟩
end StrChars.Road
namespace StrChars
open Jvm Sem ClassFile Op Lib Jvm.Stand Jvm.Free.XT Jvm.Free.ALB Jvm.Free.JM Jvm.Free
open Jvm.Lib.Cold (StaticIs)
def hi8 (x : Int32) : Int32 := lo8 (x >>> ((8 : Int32) &&& 31))
def pairCh (u v : Int32) : Int32 := (((u &&& 255) <<< ((0 : Int32) &&& 31)) ||| ((v &&& 255) <<< ((8 : Int32) &&& 31))).toUInt32.toUInt16.toUInt32.toInt32
theorem lo8_and (x : Int32) : (lo8 x &&& 255).toBitVec.toNat = x.toBitVec.toNat % 256 := by
  have h : (lo8 x).toBitVec = (x.toBitVec.signExtend 8).signExtend 32 := by rw [lo8, Int8.toBitVec_toInt32, Int32.toBitVec_toInt8]
  rw [Int32.toBitVec_and, BitVec.toNat_and, h]
  have e : ((x.toBitVec.signExtend 8).signExtend 32).toNat % 256 = x.toBitVec.toNat % 256 := by
    rw [BitVec.toNat_signExtend]
    have hlt := x.toBitVec.isLt
    simp only [BitVec.toNat_setWidth, BitVec.toNat_signExtend]
    split <;> split <;> omega
  rw [← e]
  exact Nat.and_two_pow_sub_one_eq_mod _ 8
theorem pair_says {c : Int32} (h0 : ¬ c < 0) (h1 : ¬ 65535 < c) : pairCh (lo8 c) (hi8 c) = c := by
  rw [Int32.lt_iff_toInt_lt] at h0 h1
  have e0 : (0 : Int32).toInt = 0 := rfl
  have e1 : (65535 : Int32).toInt = 65535 := rfl
  have hc : c.toInt = c.toBitVec.toNat := by
    have := c.toBitVec.isLt
    have e : c.toInt = c.toBitVec.toInt := rfl
    rw [e] at h0 h1
    rw [e]
    rw [BitVec.toInt_eq_toNat_cond] at h0 h1 ⊢
    split at h0 <;> split <;> omega
  have hn : c.toBitVec.toNat < 65536 := by omega
  have a1 := lo8_and c
  have a2 : (hi8 c &&& 255).toBitVec.toNat = c.toBitVec.toNat / 256 := by
    rw [hi8, lo8_and]
    have e : ((8 : Int32) &&& 31) = 8 := by decide
    rw [e, Int32.toBitVec_shiftRight]
    have e2 : ((8 : Int32).toBitVec.smod 32) = 8#32 := by decide
    rw [e2, BitVec.sshiftRight_eq', BitVec.toNat_sshiftRight_of_msb_false (by rw [BitVec.msb_eq_false_iff_two_mul_lt]; omega)]
    show c.toBitVec.toNat >>> 8 % 256 = _
    rw [Nat.shiftRight_eq_div_pow]
    omega
  unfold pairCh
  apply Int32.toBitVec_inj.mp
  apply BitVec.eq_of_toNat_eq
  have f0 : ((0 : Int32) &&& 31) = 0 := by decide
  have f8 : ((8 : Int32) &&& 31) = 8 := by decide
  rw [f0, f8]
  have g : (((lo8 c &&& 255) <<< (0 : Int32)) ||| ((hi8 c &&& 255) <<< (8 : Int32))).toBitVec.toNat = c.toBitVec.toNat := by
    rw [Int32.toBitVec_or, Int32.toBitVec_shiftLeft, Int32.toBitVec_shiftLeft]
    have s0 : ((0 : Int32).toBitVec.smod 32) = 0#32 := by decide
    have s8 : ((8 : Int32).toBitVec.smod 32) = 8#32 := by decide
    rw [s0, s8, BitVec.toNat_or]
    simp only [BitVec.shiftLeft_eq', BitVec.toNat_shiftLeft, a1, a2]
    show (c.toBitVec.toNat % 256) <<< 0 % 2 ^ 32 ||| (c.toBitVec.toNat / 256) <<< 8 % 2 ^ 32 = _
    rw [Nat.shiftLeft_zero, Nat.mod_eq_of_lt (show c.toBitVec.toNat % 256 < 2 ^ 32 by omega), Nat.mod_eq_of_lt (show (c.toBitVec.toNat / 256) <<< 8 < 2 ^ 32 by rw [Nat.shiftLeft_eq]; omega), Nat.or_comm, ← Nat.shiftLeft_add_eq_or_of_lt (by omega), Nat.shiftLeft_eq]
    omega
  show BitVec.toNat (((((lo8 c &&& 255) <<< (0 : Int32)) ||| ((hi8 c &&& 255) <<< (8 : Int32))).toBitVec.setWidth 16).setWidth 32) = _
  rw [BitVec.toNat_setWidth, BitVec.toNat_setWidth, g]
  omega
end StrChars
namespace StrChars
open Jvm Sem ClassFile Op Lib Jvm.Stand Jvm.Free.XT Jvm.Free.ALB Jvm.Free.JM Jvm.Free
open Jvm.Lib.Cold (StaticIs)
def Cod (cd : Int32) (n : Nat) (f : Nat → Int32) (V : Cell) : Prop := (cd = 0 ∧ V.slots.size = n ∧ ∀ j, j < n → V.slots[j]? = some (.int (lo8 (f j))) ∧ ¬ 255 < f j) ∨ (cd = 1 ∧ V.slots.size = 2 * n ∧ (∀ j, j < n → V.slots[2 * j]? = some (.int (lo8 (f j))) ∧ V.slots[2 * j + 1]? = some (.int (hi8 (f j)))) ∧ ∃ j, j < n ∧ 255 < f j)
def Txt (x t : Addr) (V : Cell) (cd : Int32) (n : Nat) (f : Nat → Int32) (U : State) : Prop := Exact "java/lang/String" x U ∧ Has x "java/lang/String" "value" "[B" (.ref t) U ∧ Has x "java/lang/String" "coder" "B" (.int cd) U ∧ XT.Arr .byte t V U ∧ Cod cd n f V ∧ ∀ j, j < n → ¬ f j < 0 ∧ ¬ 65535 < f j
theorem Txt.mv {x t : Addr} {V : Cell} {cd : Int32} {n : Nat} {f : Nat → Int32} {U U' : State} (h : Txt x t V cd n f U) (hal : U.vm.Alike U'.vm) (hh : U'.heap = U.heap) : Txt x t V cd n f U' := ⟨h.1.mv hal hh, h.2.1.mv hal hh, h.2.2.1.mv hal hh, h.2.2.2.1.mv hal hh, h.2.2.2.2⟩
end StrChars
namespace StrChars.Road
open Jvm Sem ClassFile Op Lib Jvm.Stand Jvm.Free Jvm.Free.XT
open Jvm.Lib.Cold (StaticIs)
theorem consq {a : Array Value} {s : State} {c : Jvm.Cond} {L : List Jvm.Cond} (h0 : c.before a s = true) (h : ∀ w ∈ L, w.before a s = true) : ∀ w ∈ c :: L, w.before a s = true := fun w hw => (List.mem_cons.mp hw).elim (fun e => e ▸ h0) (h w)
def wideBytes : List Int32 → List Value
  | [] => []
  | c :: cs => .int (lo8 c) :: .int (hi8 c) :: wideBytes cs
theorem wide_lo (d : Value) : ∀ (cs : List Int32) (j : Nat), j < cs.length → (wideBytes cs).getD (2 * j) d = .int (lo8 (cs.getD j 0))
  | [], j, h => absurd h (Nat.not_lt_zero j)
  | c :: cs, 0, _ => rfl
  | c :: cs, j + 1, h => by
    have q := wide_lo d cs j (by simpa using h)
    rw [show 2 * (j + 1) = 2 * j + 1 + 1 from by omega]
    simpa [wideBytes] using q
theorem wide_hi (d : Value) : ∀ (cs : List Int32) (j : Nat), j < cs.length → (wideBytes cs).getD (2 * j + 1) d = .int (hi8 (cs.getD j 0))
  | [], j, h => absurd h (Nat.not_lt_zero j)
  | c :: cs, 0, _ => rfl
  | c :: cs, j + 1, h => by
    have q := wide_hi d cs j (by simpa using h)
    rw [show 2 * (j + 1) + 1 = 2 * j + 1 + 1 + 1 from by omega]
    simpa [wideBytes] using q
theorem low_at (d : Value) (cs : List Int32) (j : Nat) (h : j < cs.length) : (cs.map fun c => Value.int (lo8 c)).getD j d = .int (lo8 (cs.getD j 0)) := by
  simp [List.getD_eq_getElem?_getD, h]
def CodA (cs : List Int32) (cd N2 : Int32) (vs : List Value) : Prop := (cd = 0 ∧ N2 = Int32.ofNat cs.length ∧ vs = (cs.map fun c => Value.int (lo8 c)) ∧ ∀ c ∈ cs, ¬ 255 < c) ∨ (cd = 1 ∧ N2 = Int32.ofNat (2 * cs.length) ∧ vs = wideBytes cs ∧ ∃ c ∈ cs, 255 < c)
theorem CodA.cod {cs : List Int32} {cd N2 : Int32} {vs : List Value} {V : Cell} (h : CodA cs cd N2 vs) (hn : 2 * cs.length < 2 ^ 31) (hs : V.slots.size = N2.toNatClampNeg) (hv : RoadKit.Has V vs (.int 0)) : Cod cd cs.length (fun j => cs.getD j 0) V := by
  rcases h with ⟨rfl, rfl, rfl, h⟩ | ⟨rfl, rfl, rfl, c, hc, hw⟩
  · rw [n32 (by omega)] at hs
    exact Or.inl ⟨rfl, hs, fun j hj => ⟨by rw [hv j (by omega), low_at _ _ _ hj], by
      have e : cs.getD j 0 = cs[j] := by simp [List.getD_eq_getElem?_getD, hj]
      show ¬ 255 < cs.getD j 0
      rw [e]; exact h _ (List.getElem_mem _)⟩⟩
  · rw [n32 (by omega)] at hs
    obtain ⟨j, hj, rfl⟩ := List.getElem_of_mem hc
    exact Or.inr ⟨rfl, hs, fun j hj => ⟨by rw [hv _ (by omega), wide_lo _ _ _ hj], by rw [hv _ (by omega), wide_hi _ _ _ hj]⟩, j, hj, by
      have e : cs.getD j 0 = cs[j] := by simp [List.getD_eq_getElem?_getD, hj]
      show 255 < cs.getD j 0
      rw [e]; exact hw⟩
theorem strObj {Z U : State} {a0 : Array Value} {kI : Nat} (wi : (Jvm.Cond.instantiable ST kI).before a0 Z = true) (al : Z.vm.Alike U.vm) {x : Addr} {v0 c0 : Value} (E : RoadKit.Exa Z U.heap x ST) (V : RoadKit.Fld Z U.heap x ST "value" "[B" v0) (C : RoadKit.Fld Z U.heap x ST "coder" "B" c0) :
    ∃ (D : Cell) (fV fC : Field), Blank ST x D U ∧ Found ST "value" "[B" fV U ∧ Found ST "coder" "B" fC U ∧ D.slots[fV.slot]? = some v0 ∧ D.slots[fC.slot]? = some c0 ∧ RoadKit.slotOf Z ST "value" "[B" = fV.slot ∧ RoadKit.slotOf Z ST "coder" "B" = fC.slot := by
  obtain ⟨D, cfV, kV, iV, fV, hD, gV, stV, knV, obV, asV, slV⟩ := V
  obtain ⟨D', cfC, kC, iC, fC, hD', gC, stC, -, -, asC, slC⟩ := C
  cases hD.symm.trans hD'
  obtain ⟨D2, kD, e1, e2, e3, e4, e5⟩ := E
  cases hD.symm.trans e1
  obtain ⟨c2, k2, i1, i2, i3, -⟩ := Cond.instantiable_spec wi
  cases e2.symm.trans i1
  cases e3.symm.trans i2
  obtain ⟨kU, u1, u2⟩ := al.2.2 _ _ e3
  exact ⟨D, fV, fC, ⟨hD, ⟨knV, fun q hq => by rw [hq] at obV; cases obV⟩, by rw [al.findClass]; exact e2, kU, u1, by rw [u2]; exact i3, by rw [u2]; exact e5 i3⟩, ⟨SBG.found_only al ⟨cfV, kV, iV, gV⟩, stV⟩, ⟨SBG.found_only al ⟨cfC, kC, iC, gC⟩, stC⟩, slV, slC, by simp [RoadKit.slotOf, gV], by simp [RoadKit.slotOf, gC]⟩
theorem sta_is {Z U : State} (al : Z.vm.Alike U.vm) {C n d : String} {v : Value} (S : RoadKit.Sta Z U.heap C n d v) : StaticIs U C n d v := by
  obtain ⟨cfS, iS, kS, fS, st, cS, t1, t2, t3, t4, t5, t6, t7⟩ := S
  exact StaticIs.there (s := { Z with heap := U.heap }) ⟨cfS, iS, kS, fS, st, cS, t1, t2, t3, t4, t5, (fun q => by rw [q] at t6; cases t6), t7⟩ al rfl
end StrChars.Road
namespace StrChars
open Jvm Sem ClassFile Op Lib Jvm.Stand Jvm.Free.XT Jvm.Free.ALB Jvm.Free.JM Jvm.Free
open Jvm.Lib.Cold (StaticIs)
def yv (A : Cell) (i : Nat) : Int32 := match A.slots[i]? with | some (.int x) => x | _ => 0
theorem yv_get {a : Addr} {A : Cell} {U : State} (h : XT.Arr .byte a A U) (ht : Typed .byte A) {i : Nat} (hi : i < A.slots.size) : A.slots[i]? = some (.int (yv A i)) := by
  have e := Array.getElem?_eq_getElem hi
  have f := ht i _ e
  unfold yv; rw [e]
  generalize A.slots[i] = v at f
  cases v <;> simp [fits] at f ⊢
def EqC (A B : Cell) : Prop := A.slots.size = B.slots.size ∧ ∀ i, i < A.slots.size → yv A i = yv B i
def Says01 (q : Prop) (r : Option Value) (s u : State) : Prop := ∃ v : Int32, r = some (.int v) ∧ u.heap = s.heap ∧ ((v = 1 ∧ q) ∨ (v = 0 ∧ ¬ q))
theorem Says01.mv {q : Prop} : ∀ r (U U' V V' : State), U'.heap = U.heap → V.vm.Alike V'.vm → V'.heap = V.heap → Says01 q r U V → Says01 q r U' V' :=
  fun r U U' V V' h1 _ h2 ⟨v, a, b, c⟩ => ⟨v, a, by rw [h1, h2]; exact b, c⟩
namespace LEq
def yN : MethodName := ⟨"java/lang/StringLatin1", "equals", "([B[B)Z"⟩
abbrev yB : ByteArray := jdk_43_method_13_code
theorem d0 : decode yB 0 = .ok (.aload_n 0, 1) := by decide +kernel
theorem d1 : decode yB 1 = .ok (.arraylength, 1) := by decide +kernel
theorem d2 : decode yB 2 = .ok (.aload_n 1, 1) := by decide +kernel
theorem d3 : decode yB 3 = .ok (.arraylength, 1) := by decide +kernel
theorem d4 : decode yB 4 = .ok (.if_icmp (.ne) 30, 3) := by decide +kernel
theorem d7 : decode yB 7 = .ok (.iconst 0, 1) := by decide +kernel
theorem d8 : decode yB 8 = .ok (.istore_n 2, 1) := by decide +kernel
theorem d9 : decode yB 9 = .ok (.iload_n 2, 1) := by decide +kernel
theorem d10 : decode yB 10 = .ok (.aload_n 0, 1) := by decide +kernel
theorem d11 : decode yB 11 = .ok (.arraylength, 1) := by decide +kernel
theorem d12 : decode yB 12 = .ok (.if_icmp (.ge) 20, 3) := by decide +kernel
theorem d15 : decode yB 15 = .ok (.aload_n 0, 1) := by decide +kernel
theorem d16 : decode yB 16 = .ok (.iload_n 2, 1) := by decide +kernel
theorem d17 : decode yB 17 = .ok (.baload, 1) := by decide +kernel
theorem d18 : decode yB 18 = .ok (.aload_n 1, 1) := by decide +kernel
theorem d19 : decode yB 19 = .ok (.iload_n 2, 1) := by decide +kernel
theorem d20 : decode yB 20 = .ok (.baload, 1) := by decide +kernel
theorem d21 : decode yB 21 = .ok (.if_icmp (.eq) 5, 3) := by decide +kernel
theorem d24 : decode yB 24 = .ok (.iconst 0, 1) := by decide +kernel
theorem d25 : decode yB 25 = .ok (.ireturn, 1) := by decide +kernel
theorem d26 : decode yB 26 = .ok (.iinc 2 1, 3) := by decide +kernel
theorem d29 : decode yB 29 = .ok (.goto (-20), 3) := by decide +kernel
theorem d32 : decode yB 32 = .ok (.iconst 1, 1) := by decide +kernel
theorem d33 : decode yB 33 = .ok (.ireturn, 1) := by decide +kernel
theorem d34 : decode yB 34 = .ok (.iconst 0, 1) := by decide +kernel
theorem d35 : decode yB 35 = .ok (.ireturn, 1) := by decide +kernel
def site : List Cond := []
def tab : Cond := tabOf yN yB 3 (some .boolean) site
def P (a : Addr) (A : Cell) (b : Addr) (B : Cell) (args : Array Value) (s : State) : Prop := args = #[.ref a, .ref b] ∧ XT.Arr .byte a A s ∧ Typed .byte A ∧ XT.Arr .byte b B s ∧ Typed .byte B
theorem law (l : Launch) (a : Addr) (A : Cell) (b : Addr) (B : Cell) : Law l yN 2 2 0 0 yB 3 (some .boolean) site (P a A b B) (Says01 (EqC A B)) [] 0 0 := by
  refine Law.of_walk (plainFor_of_name (by decide +kernel)) (by decide +kernel) (by decide +kernel) (by decide) (fun _ _ h => by rw [h.1]; rfl) (fun _ U U' hal hh h => ⟨h.1, h.2.1.mv hal hh, h.2.2.1, h.2.2.2.1.mv hal hh, h.2.2.2.2⟩) (fun r U U' V V' h1 hal h2 h => Says01.mv r U U' V V' h1 hal h2 h) ?_
  intro p e s m args below meth c s₁ X0 hexec hbytes hml hret hlk hnm hown hh0 W hP
  obtain ⟨rfl, hA, tA, hB, tB⟩ := hP
  have a31 := hA.2.2.2
  have b31 := hB.2.2.2
  have hA0 := hA.mv X0.warmed.alike hh0
  have hB0 := hB.mv X0.warmed.alike hh0
  have c1 : Steps p.tables e below (s₁.setTop (entryFrame m #[.ref a, .ref b] 3)) (s₁.setTop (mkF m 0 #[.val (.ref a), .val (.ref b), .unset] [])) := entry rfl
  have c2 : Steps p.tables e below (s₁.setTop (entryFrame m #[.ref a, .ref b] 3)) (s₁.setTop (mkF m 4 #[.val (.ref a), .val (.ref b), .unset] [.int (Int32.ofNat B.slots.size), .int (Int32.ofNat A.slots.size)])) := c1.trans (by
    refine XS.aloadN X0.here hexec rfl (hb hbytes d0) rfl rfl ?_
    refine X0.alen hexec hA0 rfl rfl (hb hbytes d1) ?_
    refine XS.aloadN X0.here hexec rfl (hb hbytes d2) rfl rfl ?_
    refine X0.alen hexec hB0 rfl rfl (hb hbytes d3) ?_
    exact Steps.refl _)
  by_cases hs : A.slots.size = B.slots.size
  · have c3 : Steps p.tables e below (s₁.setTop (entryFrame m #[.ref a, .ref b] 3)) (s₁.setTop (mkF m 9 #[.val (.ref a), .val (.ref b), .val (.int 0)] [])) := c2.trans (by
      refine XS.icmpNo X0.here hexec rfl (hb hbytes d4) rfl (ii_ne_f (by rw [hs])) ?_
      refine iconstV X0.here hexec rfl 0 (hb hbytes d7) (by decide) ?_
      refine XS.istoreN X0.here hexec rfl (hb hbytes d8) rfl rfl ?_
      exact Steps.refl _)
    have loop : ∀ (r i : Nat), i + r = A.slots.size → (∀ j, j < i → yv A j = yv B j) → Steps p.tables e below (s₁.setTop (entryFrame m #[.ref a, .ref b] 3)) (s₁.setTop (mkF m 9 #[.val (.ref a), .val (.ref b), .val (.int (Int32.ofNat i))] [])) → ∃ (pc : Nat) (Ls : Array Slot) (v : Int32), (pc = 25 ∨ pc = 33) ∧ ((v = 1 ∧ EqC A B) ∨ (v = 0 ∧ ¬ EqC A B)) ∧ Steps p.tables e below (s₁.setTop (entryFrame m #[.ref a, .ref b] 3)) (s₁.setTop (mkF m pc Ls [.int v])) := by
      intro r
      induction r with
      | zero =>
        intro i hi he cl
        exact ⟨33, _, 1, Or.inr rfl, Or.inl ⟨rfl, hs, fun j hj => he j (by omega)⟩, cl.trans (by
          refine XS.iloadN X0.here hexec rfl (hb hbytes d9) rfl ?_
          refine XS.aloadN X0.here hexec rfl (hb hbytes d10) rfl rfl ?_
          refine X0.alen hexec hA0 rfl rfl (hb hbytes d11) ?_
          refine XS.icmpYes X0.here hexec rfl (pc0 := 12) rfl (hb hbytes d12) rfl (ii_ge_t (nlt32 (by omega) (by omega))) (by decide) rfl ?_
          refine iconstV X0.here hexec rfl 1 (hb hbytes d32) (by decide) ?_
          exact Steps.refl _)⟩
      | succ r ih =>
        intro i hi he cl
        have c4 : Steps p.tables e below (s₁.setTop (entryFrame m #[.ref a, .ref b] 3)) (s₁.setTop (mkF m 21 #[.val (.ref a), .val (.ref b), .val (.int (Int32.ofNat i))] [.int (yv B i), .int (yv A i)])) := cl.trans (by
          refine XS.iloadN X0.here hexec rfl (hb hbytes d9) rfl ?_
          refine XS.aloadN X0.here hexec rfl (hb hbytes d10) rfl rfl ?_
          refine X0.alen hexec hA0 rfl rfl (hb hbytes d11) ?_
          refine XS.icmpNo X0.here hexec rfl (hb hbytes d12) rfl (ii_ge_f (lt32 (by omega) (by omega))) ?_
          refine XS.aloadN X0.here hexec rfl (hb hbytes d15) rfl rfl ?_
          refine XS.iloadN X0.here hexec rfl (hb hbytes d16) rfl ?_
          refine X0.aget hexec hA0 rfl (yv_get hA tA (i := i) (by omega)) rfl rfl (hb hbytes d17) ?_
          refine XS.aloadN X0.here hexec rfl (hb hbytes d18) rfl rfl ?_
          refine XS.iloadN X0.here hexec rfl (hb hbytes d19) rfl ?_
          refine X0.aget hexec hB0 rfl (yv_get hB tB (i := i) (by omega)) rfl rfl (hb hbytes d20) ?_
          exact Steps.refl _)
        by_cases hv : yv A i = yv B i
        · have c5 : Steps p.tables e below (s₁.setTop (entryFrame m #[.ref a, .ref b] 3)) (s₁.setTop (mkF m 9 #[.val (.ref a), .val (.ref b), .val (.int (Int32.ofNat i + 1))] [])) := c4.trans (by
            refine XS.icmpYes X0.here hexec rfl (pc0 := 21) rfl (hb hbytes d21) rfl (ii_eq_t hv) (by decide) rfl ?_
            refine iincV X0.here hexec rfl 1 (hb hbytes d26) (by decide) rfl rfl ?_
            refine XS.goto X0.here hexec rfl (pc0 := 29) rfl (hb hbytes d29) (by decide) rfl ?_
            exact Steps.refl _)
          rw [succ32] at c5
          exact ih (i + 1) (by omega) (fun j hj => by
            by_cases e : j = i
            · rw [e]; exact hv
            · exact he j (by omega)) c5
        · exact ⟨25, _, 0, Or.inl rfl, Or.inr ⟨rfl, fun q => hv (q.2 i (by omega))⟩, c4.trans (by
            refine XS.icmpNo X0.here hexec rfl (hb hbytes d21) rfl (ii_eq_f hv) ?_
            refine iconstV X0.here hexec rfl 0 (hb hbytes d24) (by decide) ?_
            exact Steps.refl _)⟩
    obtain ⟨pc, Ls, v, hpc, hv, cz⟩ := loop A.slots.size 0 (by omega) (fun j hj => absurd hj (Nat.not_lt_zero j)) c3
    have nv : narrow .boolean (.int v) = .int v := by rcases hv with ⟨rfl, -⟩ | ⟨rfl, -⟩ <;> rfl
    rcases hpc with rfl | rfl
    · exact ⟨s₁, some (.int v), _, _, _, X0, rfl, rfl, rfl, (fun h => by cases h), ⟨v, rfl, hh0, hv⟩, fun fs hl => cz.trans (X0.ireturnOut hexec hret nv (Or.inr (Or.inl rfl)) (hb hbytes d25) hl)⟩
    · exact ⟨s₁, some (.int v), _, _, _, X0, rfl, rfl, rfl, (fun h => by cases h), ⟨v, rfl, hh0, hv⟩, fun fs hl => cz.trans (X0.ireturnOut hexec hret nv (Or.inr (Or.inl rfl)) (hb hbytes d33) hl)⟩
  · have c3 : Steps p.tables e below (s₁.setTop (entryFrame m #[.ref a, .ref b] 3)) (s₁.setTop (mkF m 35 #[.val (.ref a), .val (.ref b), .unset] [.int 0])) := c2.trans (by
      refine XS.icmpYes X0.here hexec rfl (pc0 := 4) rfl (hb hbytes d4) rfl (ii_ne_t (ne32 a31 b31 hs)) (by decide) rfl ?_
      refine iconstV X0.here hexec rfl 0 (hb hbytes d34) (by decide) ?_
      exact Steps.refl _)
    exact ⟨s₁, some (.int 0), _, _, _, X0, rfl, rfl, rfl, (fun h => by cases h), ⟨0, rfl, hh0, Or.inr ⟨rfl, fun q => hs q.1⟩⟩, fun fs hl => c3.trans (X0.ireturnOut hexec hret rfl (Or.inr (Or.inl rfl)) (hb hbytes d35) hl)⟩
end LEq
theorem Cod.ty {cd : Int32} {n : Nat} {f : Nat → Int32} {V : Cell} (h : Cod cd n f V) : Typed .byte V := fun i v hv => by
  have hi : i < V.slots.size := (Array.getElem?_eq_some_iff.mp hv).1
  rcases h with ⟨-, k1, k2⟩ | ⟨-, k1, k2, -⟩
  · rw [(k2 i (by omega)).1] at hv; cases hv; exact fits_lo8 _
  · rcases Nat.mod_two_eq_zero_or_one i with e | e
    · obtain ⟨j, rfl⟩ : ∃ j, i = 2 * j := ⟨i / 2, by omega⟩
      rw [(k2 j (by omega)).1] at hv; cases hv; exact fits_lo8 _
    · obtain ⟨j, rfl⟩ : ∃ j, i = 2 * j + 1 := ⟨i / 2, by omega⟩
      rw [(k2 j (by omega)).2] at hv; cases hv; exact fits_lo8 _
def SameT (n : Nat) (f : Nat → Int32) (k : Nat) (g : Nat → Int32) : Prop := n = k ∧ ∀ j, j < n → f j = g j
theorem lo8_inj {x y : Int32} (h0 : ¬ x < 0) (h1 : ¬ 255 < x) (k0 : ¬ y < 0) (k1 : ¬ 255 < y) (h : lo8 x = lo8 y) : x = y := by
  rw [← lo8_mask h0 h1, ← lo8_mask k0 k1, h]
theorem Cod.eqv {cd : Int32} {n k : Nat} {f g : Nat → Int32} {V V' : Cell} (h : Cod cd n f V) (h' : Cod cd k g V') (hf : ∀ j, j < n → ¬ f j < 0 ∧ ¬ 65535 < f j) (hg : ∀ j, j < k → ¬ g j < 0 ∧ ¬ 65535 < g j) : EqC V V' ↔ SameT n f k g := by
  have yvv : ∀ {W : Cell} {i : Nat} {x : Int32}, W.slots[i]? = some (.int x) → yv W i = x := fun q => by unfold yv; rw [q]
  rcases h with ⟨rfl, k1, k2⟩ | ⟨rfl, k1, k2, -⟩
  · rcases h' with ⟨-, m1, m2⟩ | ⟨e, -⟩
    · constructor
      · rintro ⟨e1, e2⟩
        refine ⟨by omega, fun j hj => ?_⟩
        have q := e2 j (by omega)
        rw [yvv (k2 j hj).1, yvv (m2 j (by omega)).1] at q
        exact lo8_inj (hf j hj).1 (k2 j hj).2 (hg j (by omega)).1 (m2 j (by omega)).2 q
      · rintro ⟨rfl, e2⟩
        refine ⟨by omega, fun j hj => ?_⟩
        rw [yvv (k2 j (by omega)).1, yvv (m2 j (by omega)).1, e2 j (by omega)]
    · exact absurd e (by decide)
  · rcases h' with ⟨e, -⟩ | ⟨-, m1, m2, -⟩
    · exact absurd e (by decide)
    · constructor
      · rintro ⟨e1, e2⟩
        refine ⟨by omega, fun j hj => ?_⟩
        have q1 := e2 (2 * j) (by omega)
        have q2 := e2 (2 * j + 1) (by omega)
        rw [yvv (k2 j hj).1, yvv (m2 j (by omega)).1] at q1
        rw [yvv (k2 j hj).2, yvv (m2 j (by omega)).2] at q2
        rw [← pair_says (hf j hj).1 (hf j hj).2, ← pair_says (hg j (by omega)).1 (hg j (by omega)).2, q1, q2]
      · rintro ⟨rfl, e2⟩
        refine ⟨by omega, fun i hi => ?_⟩
        rcases Nat.mod_two_eq_zero_or_one i with e | e
        · obtain ⟨j, rfl⟩ : ∃ j, i = 2 * j := ⟨i / 2, by omega⟩
          rw [yvv (k2 j (by omega)).1, yvv (m2 j (by omega)).1, e2 j (by omega)]
        · obtain ⟨j, rfl⟩ : ∃ j, i = 2 * j + 1 := ⟨i / 2, by omega⟩
          rw [yvv (k2 j (by omega)).2, yvv (m2 j (by omega)).2, e2 j (by omega)]
theorem Cod.dif {cd cd' : Int32} {n k : Nat} {f g : Nat → Int32} {V V' : Cell} (h : Cod cd n f V) (h' : Cod cd' k g V') (hne : ¬ cd = cd') : ¬ SameT n f k g := by
  rintro ⟨rfl, e⟩
  rcases h with ⟨rfl, -, k2⟩ | ⟨rfl, -, -, j, hj, hw⟩
  · rcases h' with ⟨rfl, -⟩ | ⟨-, -, -, j, hj, hw⟩
    · exact hne rfl
    · exact (k2 j hj).2 (by rw [e j hj]; exact hw)
  · rcases h' with ⟨-, -, m2⟩ | ⟨rfl, -⟩
    · exact (m2 j hj).2 (by rw [← e j hj]; exact hw)
    · exact hne rfl
theorem cinst {p : Program} {l : Launch} {e : Env} {R : Room} {s : State} {m : MethodId} {args : Array Value} {below : List Frame} {meth : Method} {c : Code} {T : State} {locs : List Loc} {cells slots : Nat} (X : Stand p l e R s m args below meth c T locs cells slots) (hexec : p.tables.exec = Jvm.exec) {own C : String} {index : Nat} (hown : s.vm.findClass own = some m.cls) (hlink : (Cond.classLink own index C).before args s = true) {a : Addr} (hE : Exact C a T)
    {g : JFrame} (hg : g.method = m) {rest : List Value} (hstack : g.stack = .ref a :: rest) (hdg : decode c.code g.pc = .ok (.instanceof index, 3)) :
    ∃ T', Stand p l e R s m args below meth c T' locs cells slots ∧ T'.heap = T.heap ∧ ∀ target, Steps p.tables e below (T'.setTop { g with pc := g.pc + 3, stack := .int 1 :: rest }) target → Steps p.tables e below (T.setTop g) target := by
  obtain ⟨cB, h1, D, h2, h3, h4⟩ := hE
  have h1' : s.vm.findClass C = some cB := by rw [← X.warmed.alike.findClass]; exact h1
  obtain ⟨vm', X', st⟩ := X.instanceofYes hexec hown hlink h2 h4 h1' (by rw [h3]; exact Jvm.Free.SB.assignable_self _ _) hg hstack hdg
  exact ⟨_, X', rfl, st⟩
theorem cself {p : Program} {l : Launch} {e : Env} {R : Room} {s : State} {m : MethodId} {args : Array Value} {below : List Frame} {meth : Method} {c : Code} {T : State} {locs : List Loc} {cells slots : Nat} (X : Stand p l e R s m args below meth c T locs cells slots) (hexec : p.tables.exec = Jvm.exec) {own C : String} {index : Nat} (hown : s.vm.findClass own = some m.cls) (hlink : (Cond.classLink own index C).before args s = true) {a : Addr} (hE : Exact C a T)
    {g : JFrame} (hg : g.method = m) {rest : List Value} (hstack : g.stack = .ref a :: rest) (hdg : decode c.code g.pc = .ok (.checkcast index, 3)) :
    ∃ T', Stand p l e R s m args below meth c T' locs cells slots ∧ T'.heap = T.heap ∧ ∀ target, Steps p.tables e below (T'.setTop { g with pc := g.pc + 3, stack := .ref a :: rest }) target → Steps p.tables e below (T.setTop g) target := by
  obtain ⟨cB, h1, D, h2, h3, h4⟩ := hE
  have h1' : s.vm.findClass C = some cB := by rw [← X.warmed.alike.findClass]; exact h1
  obtain ⟨vm', X', st⟩ := X.checkcastYes hexec hown hlink h2 h4 h1' (by rw [h3]; exact Jvm.Free.SB.assignable_self _ _) hg hstack hdg
  exact ⟨_, X', rfl, fun t h => st t (by rw [← hstack] at h; exact h)⟩
namespace SEq
def yN : MethodName := ⟨"java/lang/String", "equals", "(Ljava/lang/Object;)Z"⟩
abbrev yB : ByteArray := jdk_42_method_66_code
theorem d0 : decode yB 0 = .ok (.aload_n 0, 1) := by decide +kernel
theorem d1 : decode yB 1 = .ok (.aload_n 1, 1) := by decide +kernel
theorem d2 : decode yB 2 = .ok (.if_acmp (.ne) 5, 3) := by decide +kernel
theorem d5 : decode yB 5 = .ok (.iconst 1, 1) := by decide +kernel
theorem d6 : decode yB 6 = .ok (.ireturn, 1) := by decide +kernel
theorem d7 : decode yB 7 = .ok (.aload_n 1, 1) := by decide +kernel
theorem d8 : decode yB 8 = .ok (.instanceof 10, 3) := by decide +kernel
theorem d11 : decode yB 11 = .ok (.ifCond (.eq) 43, 3) := by decide +kernel
theorem d14 : decode yB 14 = .ok (.aload_n 1, 1) := by decide +kernel
theorem d15 : decode yB 15 = .ok (.checkcast 10, 3) := by decide +kernel
theorem d18 : decode yB 18 = .ok (.astore_n 2, 1) := by decide +kernel
theorem d19 : decode yB 19 = .ok (.getstatic 38, 3) := by decide +kernel
theorem d22 : decode yB 22 = .ok (.ifCond (.eq) 14, 3) := by decide +kernel
theorem d25 : decode yB 25 = .ok (.aload_n 0, 1) := by decide +kernel
theorem d26 : decode yB 26 = .ok (.getfield 15, 3) := by decide +kernel
theorem d29 : decode yB 29 = .ok (.aload_n 2, 1) := by decide +kernel
theorem d30 : decode yB 30 = .ok (.getfield 15, 3) := by decide +kernel
theorem d33 : decode yB 33 = .ok (.if_icmp (.ne) 21, 3) := by decide +kernel
theorem d36 : decode yB 36 = .ok (.aload_n 0, 1) := by decide +kernel
theorem d37 : decode yB 37 = .ok (.getfield 9, 3) := by decide +kernel
theorem d40 : decode yB 40 = .ok (.aload_n 2, 1) := by decide +kernel
theorem d41 : decode yB 41 = .ok (.getfield 9, 3) := by decide +kernel
theorem d44 : decode yB 44 = .ok (.invokestatic 541, 3) := by decide +kernel
theorem d47 : decode yB 47 = .ok (.ifCond (.eq) 7, 3) := by decide +kernel
theorem d50 : decode yB 50 = .ok (.iconst 1, 1) := by decide +kernel
theorem d51 : decode yB 51 = .ok (.goto 4, 3) := by decide +kernel
theorem d54 : decode yB 54 = .ok (.iconst 0, 1) := by decide +kernel
theorem d55 : decode yB 55 = .ok (.ireturn, 1) := by decide +kernel
def site : List Cond := [.classLink "java/lang/String" 10 "java/lang/String", .fieldLink "java/lang/String" 38 "java/lang/String" "COMPACT_STRINGS" "Z", .fieldLink "java/lang/String" 15 "java/lang/String" "coder" "B", .fieldLink "java/lang/String" 9 "java/lang/String" "value" "[B", LEq.tab] ++ staticW "java/lang/String" 541 LEq.yN
def tab : Cond := tabOf yN yB 3 (some .boolean) site
def P (x t : Addr) (V : Cell) (cd : Int32) (n : Nat) (f : Nat → Int32) (y t' : Addr) (V' : Cell) (cd' : Int32) (k : Nat) (g : Nat → Int32) (z : Int32) (args : Array Value) (s : State) : Prop := args = #[.ref x, .ref y] ∧ Txt x t V cd n f s ∧ Txt y t' V' cd' k g s ∧ StaticIs s "java/lang/String" "COMPACT_STRINGS" "Z" (.int z) ∧ ¬ z = 0
theorem law (l : Launch) (x t : Addr) (V : Cell) (cd : Int32) (n : Nat) (f : Nat → Int32) (y t' : Addr) (V' : Cell) (cd' : Int32) (k : Nat) (g : Nat → Int32) (z : Int32) : Law l yN 2 1 1 14 yB 3 (some .boolean) site (P x t V cd n f y t' V' cd' k g z) (Says01 (SameT n f k g)) [] 0 0 := by
  refine Law.of_walk (plainFor_of_name (by decide +kernel)) (by decide +kernel) (by decide +kernel) (by decide) (fun _ _ h => by rw [h.1]; rfl) (fun _ U U' hal hh h => ⟨h.1, h.2.1.mv hal hh, h.2.2.1.mv hal hh, h.2.2.2.1.there hal hh, h.2.2.2.2⟩) (fun r U U' V V' h1 hal h2 h => Says01.mv r U U' V V' h1 hal h2 h) ?_
  intro p e s m args below meth c s₁ X0 hexec hbytes hml hret hlk hnm hown hh0 W hP
  obtain ⟨rfl, hx, hy, s1, hz⟩ := hP
  have c1 : Steps p.tables e below (s₁.setTop (entryFrame m #[.ref x, .ref y] 3)) (s₁.setTop (mkF m 2 #[.val (.ref x), .val (.ref y), .unset] [.ref y, .ref x])) := Steps.trans (entry rfl) (by
    show Steps p.tables e below (s₁.setTop (mkF m 0 #[.val (.ref x), .val (.ref y), .unset] [])) _
    refine XS.aloadN X0.here hexec rfl (hb hbytes d0) rfl rfl ?_
    refine XS.aloadN X0.here hexec rfl (hb hbytes d1) rfl rfl ?_
    exact Steps.refl _)
  by_cases hxy : x = y
  · have c2 : Steps p.tables e below (s₁.setTop (entryFrame m #[.ref x, .ref y] 3)) (s₁.setTop (mkF m 6 #[.val (.ref x), .val (.ref y), .unset] [.int 1])) := c1.trans (by
      refine acmpNo X0.here hexec rfl (hb hbytes d2) rfl rfl rfl (by simp [acmp, hxy]) ?_
      refine iconstV X0.here hexec rfl 1 (hb hbytes d5) (by decide) ?_
      exact Steps.refl _)
    subst hxy
    have ec : cd = cd' := by
      obtain ⟨D, fd, a1, a2, a3⟩ := hx.2.2.1
      obtain ⟨D', fd', b1, b2, b3⟩ := hy.2.2.1
      cases a1.symm.trans b1
      obtain ⟨q1, q2, q3, q4⟩ := a2.1
      obtain ⟨r1, r2, r3, r4⟩ := b2.1
      cases q4.symm.trans r4
      cases a3.symm.trans b3; rfl
    have et : t = t' := by
      obtain ⟨D, fd, a1, a2, a3⟩ := hx.2.1
      obtain ⟨D', fd', b1, b2, b3⟩ := hy.2.1
      cases a1.symm.trans b1
      obtain ⟨q1, q2, q3, q4⟩ := a2.1
      obtain ⟨r1, r2, r3, r4⟩ := b2.1
      cases q4.symm.trans r4
      cases a3.symm.trans b3; rfl
    subst ec et
    have ev : V = V' := by cases hx.2.2.2.1.1.symm.trans hy.2.2.2.1.1; rfl
    subst ev
    have hs : SameT n f k g := (Cod.eqv hx.2.2.2.2.1 hy.2.2.2.2.1 hx.2.2.2.2.2 hy.2.2.2.2.2).mp ⟨rfl, fun _ _ => rfl⟩
    exact ⟨s₁, some (.int 1), _, _, _, X0, rfl, rfl, rfl, (fun h => by cases h), ⟨1, rfl, hh0, Or.inl ⟨rfl, hs⟩⟩, fun fs hl => c2.trans (X0.ireturnOut hexec hret rfl (Or.inr (Or.inl rfl)) (hb hbytes d6) hl)⟩
  · have c2 : Steps p.tables e below (s₁.setTop (entryFrame m #[.ref x, .ref y] 3)) (s₁.setTop (mkF m 8 #[.val (.ref x), .val (.ref y), .unset] [.ref y])) := c1.trans (by
      refine acmpYes X0.here hexec rfl (pc0 := 2) rfl (hb hbytes d2) rfl rfl rfl (by simp [acmp, hxy]) (by decide) rfl ?_
      refine XS.aloadN X0.here hexec rfl (hb hbytes d7) rfl rfl ?_
      exact Steps.refl _)
    obtain ⟨T3, X3, q3, st3⟩ := cinst X0 hexec hown (wk W (.classLink "java/lang/String" 10 "java/lang/String")) (hy.mv X0.warmed.alike hh0).1 (g := (mkF m 8 #[.val (.ref x), .val (.ref y), .unset] [.ref y])) rfl (rest := []) rfl (hb hbytes d8)
    have hh3 := q3.trans hh0
    have c4 : Steps p.tables e below (s₁.setTop (entryFrame m #[.ref x, .ref y] 3)) (T3.setTop (mkF m 15 #[.val (.ref x), .val (.ref y), .unset] [.ref y])) := (c2.trans (st3 _ (Steps.refl _))).trans (by
      refine XS.ifNo X3.here hexec rfl (hb hbytes d11) rfl (i0_eq_f (by decide)) ?_
      refine XS.aloadN X3.here hexec rfl (hb hbytes d14) rfl rfl ?_
      exact Steps.refl _)
    obtain ⟨T5, X5, q5, st5⟩ := cself X3 hexec hown (wk W (.classLink "java/lang/String" 10 "java/lang/String")) (hy.mv X3.warmed.alike hh3).1 (g := (mkF m 15 #[.val (.ref x), .val (.ref y), .unset] [.ref y])) rfl (rest := []) rfl (hb hbytes d15)
    have hh5 := q5.trans hh3
    have c6 : Steps p.tables e below (s₁.setTop (entryFrame m #[.ref x, .ref y] 3)) (T5.setTop (mkF m 19 #[.val (.ref x), .val (.ref y), .val (.ref y)] [])) := (c4.trans (st5 _ (Steps.refl _))).trans (by
      refine XS.astoreN X5.here hexec rfl (hb hbytes d18) rfl rfl rfl ?_
      exact Steps.refl _)
    obtain ⟨T7, X7, q7, st7⟩ := X5.sget hexec hown (wk W (.fieldLink "java/lang/String" 38 "java/lang/String" "COMPACT_STRINGS" "Z")) s1 (fun _ _ h => by rw [hh5]; exact h) (g := (mkF m 19 #[.val (.ref x), .val (.ref y), .val (.ref y)] [])) rfl (hb hbytes d19)
    have hh7 := q7.trans hh5
    have c8 : Steps p.tables e below (s₁.setTop (entryFrame m #[.ref x, .ref y] 3)) (T7.setTop (mkF m 26 #[.val (.ref x), .val (.ref y), .val (.ref y)] [.ref x])) := (c6.trans (st7 _ (Steps.refl _))).trans (by
      refine XS.ifNo X7.here hexec rfl (hb hbytes d22) rfl (i0_eq_f hz) ?_
      refine XS.aloadN X7.here hexec rfl (hb hbytes d25) rfl rfl ?_
      exact Steps.refl _)
    obtain ⟨T9, X9, q9, st9⟩ := X7.hget hexec hown (wk W (.fieldLink "java/lang/String" 15 "java/lang/String" "coder" "B")) (hx.mv X7.warmed.alike hh7).2.2.1 (g := (mkF m 26 #[.val (.ref x), .val (.ref y), .val (.ref y)] [.ref x])) rfl (rest := []) rfl (hb hbytes d26)
    have hh9 := q9.trans hh7
    have c10 : Steps p.tables e below (s₁.setTop (entryFrame m #[.ref x, .ref y] 3)) (T9.setTop (mkF m 30 #[.val (.ref x), .val (.ref y), .val (.ref y)] [.ref y, .int cd])) := (c8.trans (st9 _ (Steps.refl _))).trans (by
      refine XS.aloadN X9.here hexec rfl (hb hbytes d29) rfl rfl ?_
      exact Steps.refl _)
    obtain ⟨T11, X11, q11, st11⟩ := X9.hget hexec hown (wk W (.fieldLink "java/lang/String" 15 "java/lang/String" "coder" "B")) (hy.mv X9.warmed.alike hh9).2.2.1 (g := (mkF m 30 #[.val (.ref x), .val (.ref y), .val (.ref y)] [.ref y, .int cd])) rfl (rest := [.int cd]) rfl (hb hbytes d30)
    have hh11 := q11.trans hh9
    have c12 : Steps p.tables e below (s₁.setTop (entryFrame m #[.ref x, .ref y] 3)) (T11.setTop (mkF m 33 #[.val (.ref x), .val (.ref y), .val (.ref y)] [.int cd', .int cd])) := c10.trans (st11 _ (Steps.refl _))
    by_cases hcd : cd = cd'
    · subst hcd
      have c13 : Steps p.tables e below (s₁.setTop (entryFrame m #[.ref x, .ref y] 3)) (T11.setTop (mkF m 37 #[.val (.ref x), .val (.ref y), .val (.ref y)] [.ref x])) := c12.trans (by
        refine XS.icmpNo X11.here hexec rfl (hb hbytes d33) rfl (ii_ne_f rfl) ?_
        refine XS.aloadN X11.here hexec rfl (hb hbytes d36) rfl rfl ?_
        exact Steps.refl _)
      obtain ⟨T14, X14, q14, st14⟩ := X11.hget hexec hown (wk W (.fieldLink "java/lang/String" 9 "java/lang/String" "value" "[B")) (hx.mv X11.warmed.alike hh11).2.1 (g := (mkF m 37 #[.val (.ref x), .val (.ref y), .val (.ref y)] [.ref x])) rfl (rest := []) rfl (hb hbytes d37)
      have hh14 := q14.trans hh11
      have c15 : Steps p.tables e below (s₁.setTop (entryFrame m #[.ref x, .ref y] 3)) (T14.setTop (mkF m 41 #[.val (.ref x), .val (.ref y), .val (.ref y)] [.ref y, .ref t])) := (c13.trans (st14 _ (Steps.refl _))).trans (by
        refine XS.aloadN X14.here hexec rfl (hb hbytes d40) rfl rfl ?_
        exact Steps.refl _)
      obtain ⟨T16, X16, q16, st16⟩ := X14.hget hexec hown (wk W (.fieldLink "java/lang/String" 9 "java/lang/String" "value" "[B")) (hy.mv X14.warmed.alike hh14).2.1 (g := (mkF m 41 #[.val (.ref x), .val (.ref y), .val (.ref y)] [.ref y, .ref t])) rfl (rest := [.ref t]) rfl (hb hbytes d41)
      have hh16 := q16.trans hh14
      have c17 : Steps p.tables e below (s₁.setTop (entryFrame m #[.ref x, .ref y] 3)) (T16.setTop (mkF m 44 #[.val (.ref x), .val (.ref y), .val (.ref y)] [.ref t', .ref t])) := c15.trans (st16 _ (Steps.refl _))
      obtain ⟨v18, T18, X18, E18, g18⟩ := X16.callS hexec (LEq.law l t V t' V') hown (wks W (staticW "java/lang/String" 541 LEq.yN)) (wk W LEq.tab) (W := 0) (Nat.le_of_ble_eq_true rfl) (Nat.le_of_ble_eq_true rfl) (Nat.le_refl _) (Nat.le_refl _) (g := (mkF m 44 #[.val (.ref x), .val (.ref y), .val (.ref y)] [.ref t', .ref t])) rfl (by rw [hml]; rfl) c17 (argsL := [.ref t, .ref t']) (rest := []) rfl rfl (by show 2 * 0 + 0 ≤ _; decide) (hb hbytes d44) (⟨rfl, hx.2.2.2.1.mv X16.warmed.alike hh16, hx.2.2.2.2.1.ty, hy.2.2.2.1.mv X16.warmed.alike hh16, hy.2.2.2.2.1.ty⟩)
      obtain ⟨v, rfl, q18, hv⟩ := E18
      have iff := Cod.eqv hx.2.2.2.2.1 hy.2.2.2.2.1 hx.2.2.2.2.2 hy.2.2.2.2.2
      rcases hv with ⟨rfl, he⟩ | ⟨rfl, he⟩
      · have c19 : Steps p.tables e below (s₁.setTop (entryFrame m #[.ref x, .ref y] 3)) (T18.setTop (mkF m 55 #[.val (.ref x), .val (.ref y), .val (.ref y)] [.int 1])) := Steps.trans g18 (by
          refine XS.ifNo X18.here hexec rfl (hb hbytes d47) rfl (i0_eq_f (by decide)) ?_
          refine iconstV X18.here hexec rfl 1 (hb hbytes d50) (by decide) ?_
          refine XS.goto X18.here hexec rfl (pc0 := 51) rfl (hb hbytes d51) (by decide) rfl ?_
          exact Steps.refl _)
        exact ⟨T18, some (.int 1), _, _, _, X18, rfl, rfl, rfl, (fun h => by cases h), ⟨1, rfl, q18.trans hh16, Or.inl ⟨rfl, iff.mp he⟩⟩, fun fs hl => c19.trans (X18.ireturnOut hexec hret rfl (Or.inr (Or.inl rfl)) (hb hbytes d55) hl)⟩
      · have c19 : Steps p.tables e below (s₁.setTop (entryFrame m #[.ref x, .ref y] 3)) (T18.setTop (mkF m 55 #[.val (.ref x), .val (.ref y), .val (.ref y)] [.int 0])) := Steps.trans g18 (by
          refine XS.ifYes X18.here hexec rfl (pc0 := 47) rfl (hb hbytes d47) rfl (i0_eq_t rfl) (by decide) rfl ?_
          refine iconstV X18.here hexec rfl 0 (hb hbytes d54) (by decide) ?_
          exact Steps.refl _)
        exact ⟨T18, some (.int 0), _, _, _, X18, rfl, rfl, rfl, (fun h => by cases h), ⟨0, rfl, q18.trans hh16, Or.inr ⟨rfl, fun q => he (iff.mpr q)⟩⟩, fun fs hl => c19.trans (X18.ireturnOut hexec hret rfl (Or.inr (Or.inl rfl)) (hb hbytes d55) hl)⟩
    · have c13 : Steps p.tables e below (s₁.setTop (entryFrame m #[.ref x, .ref y] 3)) (T11.setTop (mkF m 55 #[.val (.ref x), .val (.ref y), .val (.ref y)] [.int 0])) := c12.trans (by
        refine XS.icmpYes X11.here hexec rfl (pc0 := 33) rfl (hb hbytes d33) rfl (ii_ne_t hcd) (by decide) rfl ?_
        refine iconstV X11.here hexec rfl 0 (hb hbytes d54) (by decide) ?_
        exact Steps.refl _)
      exact ⟨T11, some (.int 0), _, _, _, X11, rfl, rfl, rfl, (fun h => by cases h), ⟨0, rfl, hh11, Or.inr ⟨rfl, Cod.dif hx.2.2.2.2.1 hy.2.2.2.2.1 hcd⟩⟩, fun fs hl => c13.trans (X11.ireturnOut hexec hret rfl (Or.inr (Or.inl rfl)) (hb hbytes d55) hl)⟩
theorem pays {l : Launch} {R : Room} {p : Program} {e : Env} {below : List Frame} {s : State} {sargs : Array Value} {len W : Nat} (x t : Addr) (V : Cell) (cd : Int32) (n : Nat) (f : Nat → Int32) (y t' : Addr) (V' : Cell) (cd' : Int32) (k : Nat) (g : Nat → Int32) (z : Int32) (htab : tab.before sargs s = true) (hfr : 2 ≤ R.frames) (hlo : W + 28 ≤ R.locals) :
    Back l R p e below s sargs yN len W (fun A₁ a₁ => A₁.cells + 0 ≤ R.cells ∧ A₁.slots + 0 ≤ R.slots ∧ P x t V cd n f y t' V' cd' k g z a₁ A₁.U) (fun A₁ _ v₁ B₁ => Says01 (SameT n f k g) v₁ A₁.U B₁.U ∧ B₁.locs = A₁.locs ++ [] ∧ B₁.cells = A₁.cells + 0 ∧ B₁.slots = A₁.slots + 0) :=
  (law l x t V cd n f y t' V' cd' k g z).pays htab hfr (by omega)
end SEq
end StrChars
namespace StrChars.Road
open Jvm Sem ClassFile Op Lib Jvm.Stand Jvm.Free Jvm.Free.XT
open Jvm.Lib.Cold (StaticIs)
/-- the words of String.equals(Object) -/
abbrev wordsEq : List Jvm.Cond := [.code SEq.yN SEq.yB 3 (some .boolean), .initialized ST, .classLink ST 10 ST, .fieldLink ST 38 ST "COMPACT_STRINGS" "Z", .fieldLink ST 15 ST "coder" "B", .fieldLink ST 9 ST "value" "[B", .methodLink ST 541 LEq.yN, .static LEq.yN, .code LEq.yN LEq.yB 3 (some .boolean), .initialized "java/lang/StringLatin1"]
theorem tabEq_of {a : Array Value} {s : State} (h : ∀ w ∈ wordsEq, w.before a s = true) : SEq.tab.before a s = true := by
  have hl : LEq.tab.before a s = true := unparts (wk h (.code LEq.yN LEq.yB 3 (some .boolean))) (wks h (.initialized LEq.yN.cls :: LEq.site))
  have q := consq hl h
  exact unparts (wk q (.code SEq.yN SEq.yB 3 (some .boolean))) (wks q (.initialized SEq.yN.cls :: SEq.site))
theorem movedEq {Z s : State} {a0 args : Array Value} (hZ : Z.Warmed39 s.vm) (hw : ∀ d ∈ wordsEq, d.before a0 Z = true) : ∀ d ∈ wordsEq, d.before args s = true := fun d hd => by
  have t : ∀ d ∈ wordsEq, (d.onTables && d.keepsFace) = true := by decide +kernel
  exact RoadKit.mv hZ (hw d hd) (t d hd)
theorem txt_of {Z U : State} {a0 : Array Value} {kI : Nat} (wi : (Jvm.Cond.instantiable ST kI).before a0 Z = true) (al : Z.vm.Alike U.vm) {x t : Addr} {kb : ClassId} {cs : List Int32} {cd N2 : Int32} {vs : List Value} (E : RoadKit.Exa Z U.heap x ST) (V : RoadKit.Fld Z U.heap x ST "value" "[B" (.ref t)) (C : RoadKit.Fld Z U.heap x ST "coder" "B" (.int cd)) (K : RoadKit.Arv Z U.heap t kb .byte N2 vs (.int 0)) (hc : CodA cs cd N2 vs) (hb : ∀ c ∈ cs, ¬ c < 0 ∧ ¬ (65535 : Int32) < c) (l2 : cs.length ≤ 4000) :
    ∃ A, Txt x t A cd cs.length (fun j => cs.getD j 0) U := by
  obtain ⟨A, K1, K2, K3, K4, K5, K6⟩ := K
  have hcod := hc.cod (by omega) K3 K5
  obtain ⟨D, fV, fC, hB, F1, F2, g1, g2, -, -⟩ := strObj wi al E V C
  exact ⟨A, ⟨_, hB.2.2.1, D, hB.1, rfl, by cases q : D.vm <;> first | rfl | exact absurd q (hB.2.1.2 _)⟩, Has.of hB F1 g1, Has.of hB F2 g2, ⟨K1.1, State.isArrayOf_alike al K1.2.1, K1.2.2, by rcases hcod with ⟨-, q, -⟩ | ⟨-, q, -⟩ <;> omega⟩, hcod, fun j hj => by
    have e : cs.getD j 0 = cs[j] := by simp [List.getD_eq_getElem?_getD, hj]
    show ¬ cs.getD j 0 < 0 ∧ ¬ 65535 < cs.getD j 0
    rw [e]; exact hb _ (List.getElem_mem _)⟩
theorem same_list (cs ds : List Int32) : SameT cs.length (fun j => cs.getD j 0) ds.length (fun j => ds.getD j 0) ↔ cs = ds := by
  constructor
  · rintro ⟨e, q⟩
    refine List.ext_getElem e fun j h1 h2 => ?_
    have := q j h1
    simpa [List.getD_eq_getElem?_getD, h1, h2] using this
  · rintro rfl
    exact ⟨rfl, fun _ _ => rfl⟩
theorem eqW {p : Program} {l : Launch} {e : Env} {R : Room} {s : State} {args : Array Value} {below : List Frame} {len W : Nat} {Z : State} {a0 : Array Value} {h : Heap} (hZ : Z.Warmed39 s.vm) (hw : ∀ d ∈ wordsEq, d.before a0 Z = true) {kI : Nat} (wi : (Jvm.Cond.instantiable ST kI).before a0 Z = true)
    {x t : Addr} {kb : ClassId} {cs : List Int32} {cd N2 : Int32} {vs : List Value} (E : RoadKit.Exa Z h x ST) (V : RoadKit.Fld Z h x ST "value" "[B" (.ref t)) (C : RoadKit.Fld Z h x ST "coder" "B" (.int cd)) (K : RoadKit.Arv Z h t kb .byte N2 vs (.int 0)) (hc : CodA cs cd N2 vs) (hb : ∀ c ∈ cs, ¬ c < 0 ∧ ¬ (65535 : Int32) < c) (l2 : cs.length ≤ 4000)
    {y t' : Addr} {kb' : ClassId} {ds : List Int32} {cd' N2' : Int32} {vs' : List Value} (E' : RoadKit.Exa Z h y ST) (V' : RoadKit.Fld Z h y ST "value" "[B" (.ref t')) (C' : RoadKit.Fld Z h y ST "coder" "B" (.int cd')) (K' : RoadKit.Arv Z h t' kb' .byte N2' vs' (.int 0)) (hc' : CodA ds cd' N2' vs') (hb' : ∀ c ∈ ds, ¬ c < 0 ∧ ¬ (65535 : Int32) < c) (l2' : ds.length ≤ 4000)
    {z : Int32} (S : RoadKit.Sta Z h ST "COMPACT_STRINGS" "Z" (.int z)) (hz : ¬ z = 0) (hfr : 2 ≤ R.frames) (hlo : W + 28 ≤ R.locals) :
    Back l R p e below s args (⟨"java/lang/String", "equals", "(Ljava/lang/Object;)Z"⟩ : MethodName) len W (fun P a => a = #[.ref x, .ref y] ∧ P.U.heap = h ∧ P.cells + 0 ≤ R.cells ∧ P.slots + 0 ≤ R.slots)
      (fun P _ v B => ∃ L, (((v = some (.int 1) ∧ cs = ds) ∨ (v = some (.int 0) ∧ ¬ cs = ds)) ∧ L = [] ∧ B.U.heap = h) ∧ B.locs = P.locs ++ L ∧ B.cells = P.cells + 0 ∧ B.slots = P.slots + 0) := by
  intro m meth c P g ig mk a X hg hsize hdg hW hn hp'
  obtain ⟨rfl, rfl, r1, r2⟩ := hp'
  have al : Z.vm.Alike P.U.vm := hZ.alike.trans X.warmed.alike
  obtain ⟨A, hx⟩ := txt_of wi al E V C K hc hb l2
  obtain ⟨A', hy⟩ := txt_of wi al E' V' C' K' hc' hb' l2'
  obtain ⟨v, B, X', ⟨⟨w, hv, hh, hq⟩, hl, hk, hs⟩, st⟩ := SEq.pays x t A cd cs.length (fun j => cs.getD j 0) y t' A' cd' ds.length (fun j => ds.getD j 0) z (tabEq_of (movedEq hZ hw)) hfr hlo m meth c P g ig mk _ X hg hsize hdg hW hn ⟨r1, r2, rfl, hx, hy, sta_is al S, hz⟩
  refine ⟨v, B, X', ⟨[], ⟨?_, rfl, hh⟩, hl, hk, hs⟩, st⟩
  rcases hq with ⟨rfl, q⟩ | ⟨rfl, q⟩
  · exact Or.inl ⟨hv, (same_list cs ds).mp q⟩
  · exact Or.inr ⟨hv, fun e => q ((same_list cs ds).mpr e)⟩
end StrChars.Road
end Jvm.Pilot.@@N@@
namespace Jvm.Pilot.@@N@@
open Jvm Jvm.ClassFile Sem Op Lib Jvm.Free Jvm.Stand Jvm.LawKit Jvm.RoadKit Jvm.S9 Bundle Jvm.Pilot.@@N@@.Jvm.D
theorem wI {a0 : Array Value} {Z : State} (hw : ∀ d ∈ tables_1, d.before a0 Z = true) (i : Nat) {d : Cond} (h : tables_1[i]? = some d) : d.before a0 Z = true := hw d (List.mem_of_getElem? h)
theorem lT {a b c : Nat} (h : a ≤ b) (k : b ≤ c) : a ≤ c := Nat.le_trans h k
theorem lL {a b c : Nat} (h : a < b) (k : b ≤ c) : a < c := Nat.lt_of_lt_of_le h k
theorem nL {a b : Nat} (h : a < b) : a ≠ b := Nat.ne_of_lt h
def Cmp (Z : State) : Prop := ∃ z : Int32, ¬ z = 0 ∧ Sta Z Z.heap "java/lang/String" "COMPACT_STRINGS" "Z" (.int z)
theorem own_char (x : Int32) : ¬ ((x &&& (255 : Int32)).toUInt32.toUInt16.toUInt32.toInt32) < 0 ∧ ¬ (255 : Int32) < ((x &&& (255 : Int32)).toUInt32.toUInt16.toUInt32.toInt32) := by
  have t : ∀ k : Fin 256, ¬ ((Int32.ofNat k.val).toUInt32.toUInt16.toUInt32.toInt32) < 0 ∧ ¬ (255 : Int32) < ((Int32.ofNat k.val).toUInt32.toUInt16.toUInt32.toInt32) := by decide +kernel
  have h : (x &&& 255).toBitVec.toNat < 256 := by
    simp only [Int32.toBitVec_and, BitVec.toNat_and]
    exact Nat.lt_succ_of_le Nat.and_le_right
  have e : (x &&& 255) = Int32.ofNat (x &&& 255).toBitVec.toNat := by
    apply Int32.toBitVec_inj.mp
    show _ = BitVec.ofNat 32 _
    rw [BitVec.ofNat_toNat]; simp
  rw [e]
  exact t ⟨_, h⟩
theorem own_words_new : ∀ d ∈ StrChars.Road.words, d ∈ tables_1 := by decide +kernel
theorem own_newStr {p : Program} {l : Launch} {e : Env} {R : Room} {s : State} {args : Array Value} {below : List Frame} {W : Nat} {Z : State} {a0 : Array Value} (hZ : Z.Warmed39 s.vm) (hfr : 4 ≤ R.frames) (hlo : W + 65 ≤ R.locals) (hw : ∀ d ∈ tables_1, d.before a0 Z = true) (x b : Addr) (kC : ClassId) (cs : List Int32) (N : Int32) (d v0 c0 : Value) (nn : Nat) (h : Heap) (n0 : Nat) (Z0 : n0 ≤ h.size) (g_x : n0 ≤ x)
    (E : Exa Z h x "java/lang/String") (V : Fld Z h x "java/lang/String" "value" "[B" v0) (C : Fld Z h x "java/lang/String" "coder" "B" c0) (K : Arv Z h b kC .char N (cs.map Value.int) d) (O : Old Z n0 h) (hn : cs.length = nn) (hN : N = Int32.ofNat nn) (l0 : 0 < nn) (l2 : nn ≤ 4000) (hp : ∀ c ∈ cs, ¬ c < 0 ∧ ¬ (255 : Int32) < c) (G : Cmp Z) :
    Jvm.Y9.Bk l R p e below s args (⟨"java/lang/String", "<init>", "([C)V"⟩ : MethodName) 3 W #[.ref x, .ref b] h 1 nn n0 (fun v h' => ∃ (t : Addr) (kb : ClassId), v = none ∧ Keep h h' [x] ∧ h.size ≤ t ∧ Str Z h' x t kb cs) := by
  obtain ⟨z, hz, S⟩ := G
  subst hn
  refine Back.mono (StrChars.Road.backV (W := W) hZ (fun d hd => hw d (own_words_new d hd)) (kI := 4) (wI hw 3 rfl) g_x Z0 E V C K (S.ext O.2) hz rfl hN l0 l2 hp rfl hfr hlo) (fun P a hp => hp) (fun P a v B _ hq => ?_)
  obtain ⟨L, ⟨q1, q2, q3, q4, q5, t, kb, q6, q7, q8, q9, q10⟩, r⟩ := hq
  refine ⟨L, ⟨⟨t, kb, q1, q3, q7, q4, q9, q5, ?_, hp, l2⟩, q2⟩, r⟩
  subst hN
  rw [List.map_map] at q10
  exact q10
theorem own_words_eq : ∀ d ∈ StrChars.Road.wordsEq, d ∈ tables_1 := by decide +kernel
theorem own_codA {cs : List Int32} (h : ∀ c ∈ cs, ¬ c < 0 ∧ ¬ (255 : Int32) < c) : StrChars.Road.CodA cs 0 (Int32.ofNat cs.length) (cs.map fun c => Value.int (c.toInt8.toInt32)) := Or.inl ⟨rfl, rfl, rfl, fun c hc => (h c hc).2⟩
theorem own_up {cs : List Int32} (h : ∀ c ∈ cs, ¬ c < 0 ∧ ¬ (255 : Int32) < c) : ∀ c ∈ cs, ¬ c < 0 ∧ ¬ (65535 : Int32) < c := fun c hc => ⟨(h c hc).1, fun q => (h c hc).2 (by rw [Int32.lt_iff_toInt_lt] at q ⊢; have e1 : (65535 : Int32).toInt = 65535 := rfl; have e2 : (255 : Int32).toInt = 255 := rfl; omega)⟩
theorem own_eqStr {p : Program} {l : Launch} {e : Env} {R : Room} {s : State} {args : Array Value} {below : List Frame} {W : Nat} {Z : State} {a0 : Array Value} (hZ : Z.Warmed39 s.vm) (hfr : 2 ≤ R.frames) (hlo : W + 28 ≤ R.locals) (hw : ∀ d ∈ tables_1, d.before a0 Z = true) (x t : Addr) (kb : ClassId) (cs : List Int32) (y t' : Addr) (kb' : ClassId) (ds : List Int32) (h : Heap) (n0 : Nat) (Z0 : n0 ≤ h.size)
    (F : Str Z h x t kb cs) (F' : Str Z h y t' kb' ds) (O : Old Z n0 h) (G : Cmp Z) :
    Jvm.Y9.Bk l R p e below s args (⟨"java/lang/String", "equals", "(Ljava/lang/Object;)Z"⟩ : MethodName) 3 W #[.ref x, .ref y] h 0 0 n0 (fun v h' => v = some (.int (if cs = ds then (1 : Int32) else (0 : Int32))) ∧ h = h') := by
  obtain ⟨z, hz, S⟩ := G
  refine Back.mono (StrChars.Road.eqW (W := W) hZ (fun d hd => hw d (own_words_eq d hd)) (kI := 4) (wI hw 3 rfl) F.1 F.2.1 F.2.2.1 F.2.2.2.1 (own_codA F.2.2.2.2.1) (own_up F.2.2.2.2.1) F.2.2.2.2.2 F'.1 F'.2.1 F'.2.2.1 F'.2.2.2.1 (own_codA F'.2.2.2.2.1) (own_up F'.2.2.2.2.1) F'.2.2.2.2.2 (S.ext O.2) hz hfr hlo) (fun P a hp => hp) (fun P a v B _ hq => ?_)
  obtain ⟨L, ⟨q1, rfl, q3⟩, r⟩ := hq
  refine ⟨[], ⟨⟨?_, q3.symm⟩, Fr.nil n0⟩, r⟩
  rcases q1 with ⟨rfl, q⟩ | ⟨rfl, q⟩
  · rw [if_pos q]
  · rw [if_neg q]
def fill (cs : List Int32) (cap : Nat) : List Value := (cs.map fun c => Value.int (c.toInt8.toInt32)) ++ List.replicate (cap - cs.length) (Value.int (0 : Int32))
theorem fill_length {cs : List Int32} {cap : Nat} (h : cs.length ≤ cap) : (fill cs cap).length = cap := by simp [fill]; omega
theorem own_clamp {n : Nat} (h : n ≤ 100000) : (Int32.ofNat n).toNatClampNeg = n ∧ ¬ Int32.ofNat n < 0 ∧ (Int32.ofNat n).toInt = n := by
  have e : (Int32.ofNat n).toInt = n := Int32.toInt_ofNat_of_lt (by omega)
  have z : (0 : Int32).toInt = 0 := by decide
  refine ⟨?_, fun q => ?_, e⟩
  · show (Int32.ofNat n).toInt.toNat = n
    rw [e]; rfl
  · rw [Int32.lt_iff_toInt_lt, e, z] at q; omega
theorem own_shr0 (x : Int32) : (x >>> ((0 : Int32) &&& 31)) = x := by
  have e : ((0 : Int32) &&& 31) = 0 := by decide
  rw [e]; simp
theorem own_shl0 (x : Int32) : (x <<< ((0 : Int32) &&& 31)) = x := by
  have e : ((0 : Int32) &&& 31) = 0 := by decide
  rw [e]; simp
theorem own_sub0 (x : Int32) : (x - (0 : Int32)) = x := by simp
theorem own_add {a b : Nat} : (Int32.ofNat a + Int32.ofNat b) = Int32.ofNat (a + b) := by simp
theorem own_fits {m cap : Nat} (h : m ≤ cap) (hc : cap ≤ 100000) : ¬ ((0 : Int32) < (Int32.ofNat m - Int32.ofNat cap)) := by
  intro q
  have h1 := (own_clamp (n := m) (by omega)).2.2
  have h2 := (own_clamp hc).2.2
  have z : (0 : Int32).toInt = 0 := by decide
  have h3 := c_isub (Int32.ofNat m) (Int32.ofNat cap)
  have r := rng32 (Int32.ofNat m - Int32.ofNat cap)
  rw [Int32.lt_iff_toInt_lt, z] at q
  rw [h1, h2] at h3
  omega
theorem own_lt {a b : Nat} (h : a < b) (hb : b ≤ 100000) : Int32.ofNat a < Int32.ofNat b := by
  rw [Int32.lt_iff_toInt_lt, (own_clamp (n := a) (by omega)).2.2, (own_clamp hb).2.2]; omega
theorem own_ne {a b : Nat} (h : a ≠ b) (ha : a ≤ 100000) (hb : b ≤ 100000) : ¬ (Int32.ofNat a = Int32.ofNat b) := by
  intro q
  have := congrArg Int32.toInt q
  rw [(own_clamp ha).2.2, (own_clamp hb).2.2] at this
  omega
theorem own_range {vs : List Value} {dv : Value} (n : Nat) (h : n ≤ vs.length) : ((List.range n).map fun i => vs.getD (0 + i) dv) = vs.take n := by
  apply List.ext_getElem?
  intro i
  by_cases hi : i < n
  · have : i < vs.length := by omega
    simp [hi, this, List.getElem?_take]
  · simp [hi, List.getElem?_take]
theorem fill_copy {cs ds : List Int32} {cap : Nat} {dv : Value} (h : cs.length + ds.length ≤ cap) (hc : cap ≤ 100000) :
    ((fill cs cap).take (Int32.ofNat cs.length).toNatClampNeg ++ ((List.range (Int32.ofNat ds.length).toNatClampNeg).map fun i => (ds.map fun c => Value.int (c.toInt8.toInt32)).getD ((0 : Int32).toNatClampNeg + i) dv) ++ (fill cs cap).drop ((Int32.ofNat cs.length).toNatClampNeg + (Int32.ofNat ds.length).toNatClampNeg)) = fill (cs ++ ds) cap := by
  rw [(own_clamp (n := cs.length) (by omega)).1, (own_clamp (n := ds.length) (by omega)).1, show (0 : Int32).toNatClampNeg = 0 from by decide, own_range _ (by simp)]
  have e1 : (fill cs cap).take cs.length = cs.map fun c => Value.int (c.toInt8.toInt32) := by simp [fill]
  have e2 : (fill cs cap).drop (cs.length + ds.length) = List.replicate (cap - (cs ++ ds).length) (Value.int (0 : Int32)) := by
    rw [fill, List.drop_append, List.drop_eq_nil_of_le (by simp), List.nil_append, List.length_map, List.drop_replicate, List.length_append]
    congr 1
    omega
  rw [e1, e2, fill, List.map_append, List.take_of_length_le (by simp)]
theorem fill_out {cs : List Int32} {cap : Nat} {dv : Value} (h : cs.length ≤ cap) (hc : cap ≤ 100000) :
    ((List.replicate cs.length (Value.int (0 : Int32))).take (0 : Int32).toNatClampNeg ++ ((List.range (Int32.ofNat cs.length).toNatClampNeg).map fun i => (fill cs cap).getD ((0 : Int32).toNatClampNeg + i) dv) ++ (List.replicate cs.length (Value.int (0 : Int32))).drop ((0 : Int32).toNatClampNeg + (Int32.ofNat cs.length).toNatClampNeg)) = cs.map fun c => Value.int (c.toInt8.toInt32) := by
  rw [(own_clamp (n := cs.length) (by omega)).1, show (0 : Int32).toNatClampNeg = 0 from by decide, own_range _ (by rw [fill_length h]; exact h)]
  simp [fill]
def Bld (Z : State) (h : Heap) (x t : Addr) (kb : ClassId) (cs : List Int32) (cap : Nat) : Prop :=
  Exa Z h x "java/lang/StringBuilder" ∧ Fld Z h x "java/lang/AbstractStringBuilder" "value" "[B" (.ref t) ∧ Fld Z h x "java/lang/AbstractStringBuilder" "coder" "B" (.int 0) ∧ Fld Z h x "java/lang/AbstractStringBuilder" "count" "I" (.int (Int32.ofNat cs.length)) ∧ Arv Z h t kb .byte (Int32.ofNat cap) (fill cs cap) (.int 0)
theorem Bld.keep {Z : State} {h h' : Heap} {x t : Addr} {kb : ClassId} {cs : List Int32} {cap : Nat} {ws : List Addr} (F : Bld Z h x t kb cs cap) (K : Keep h h' ws) (q1 : x ∉ ws) (q2 : t ∉ ws) : Bld Z h' x t kb cs cap :=
  ⟨F.1.keep K, F.2.1.keep K q1, F.2.2.1.keep K q1, F.2.2.2.1.keep K q1, F.2.2.2.2.keep K q2⟩
theorem own_chr : ∀ k : Fin 256, nar .char ((((Int32.ofNat k.val).toInt8.toInt32) &&& (255 : Int32)).toUInt32.toUInt16.toUInt32.toInt32) = Int32.ofNat k.val := by decide +kernel
theorem own_in {c : Int32} (h : ¬ c < 0 ∧ ¬ (255 : Int32) < c) : ∃ k : Fin 256, c = Int32.ofNat k.val := by
  have z : (0 : Int32).toInt = 0 := by decide
  have y : (255 : Int32).toInt = 255 := by decide
  rw [Int32.lt_iff_toInt_lt, Int32.lt_iff_toInt_lt, z, y] at h
  refine ⟨⟨c.toInt.toNat, by omega⟩, ?_⟩
  apply Int32.toInt_inj.mp
  rw [(own_clamp (n := c.toInt.toNat) (by omega)).2.2]
  omega
theorem own_chr_of {c : Int32} (h : ¬ c < 0 ∧ ¬ (255 : Int32) < c) : nar .char (((c.toInt8.toInt32) &&& (255 : Int32)).toUInt32.toUInt16.toUInt32.toInt32) = c := by
  obtain ⟨k, rfl⟩ := own_in h
  exact own_chr k
theorem own_get {ds : List Int32} {i : Int32} (h0 : ¬ i < 0) (h1 : i < Int32.ofNat ds.length) (h4 : ds.length ≤ 4000) : (ds.map fun c => Value.int (c.toInt8.toInt32)).getD i.toNatClampNeg (.int 0) = .int ((ds.getD i.toNatClampNeg 0).toInt8.toInt32) ∧ ds.getD i.toNatClampNeg 0 ∈ ds := by
  have z : (0 : Int32).toInt = 0 := by decide
  have e := (own_clamp (n := ds.length) (by omega)).2.2
  rw [Int32.lt_iff_toInt_lt, z] at h0
  rw [Int32.lt_iff_toInt_lt, e] at h1
  have hi : i.toNatClampNeg < ds.length := by show i.toInt.toNat < ds.length; omega
  refine ⟨?_, ?_⟩
  · simp [List.getD_eq_getElem?_getD, hi]
  · rw [List.getD_eq_getElem?_getD, List.getElem?_eq_getElem hi]; exact List.getElem_mem hi
theorem own_narC256 : ∀ k : Fin 256, nar .char (Int32.ofNat k.val) = Int32.ofNat k.val := by decide +kernel
theorem own_narC {c : Int32} (h : ¬ c < 0 ∧ ¬ (255 : Int32) < c) : nar .char c = c := by
  obtain ⟨k, rfl⟩ := own_in h
  exact own_narC256 k
def Sio (Z : State) : Prop := ∃ v, Sta Z Z.heap "jdk/internal/util/Preconditions" "SIOOBE_FORMATTER" "Ljava/util/function/BiFunction;" v ∧ v.category = 1
def ncap (cap m : Nat) : Nat := cap + max (m - cap) (cap + 2)
def capN (cap m : Nat) : Nat := if m ≤ cap then cap else ncap cap m
theorem own_subN {a b : Nat} (h : b ≤ a) : (Int32.ofNat a - Int32.ofNat b) = Int32.ofNat (a - b) := (Int32.ofNat_sub _ _ h).symm
theorem own_two : ((2 : Int32) <<< ((0 : Int32) &&& 31)) = 2 := by decide
theorem own_add2 (a : Nat) : (Int32.ofNat a + (2 : Int32)) = Int32.ofNat (a + 2) := by rw [show (2 : Int32) = Int32.ofNat 2 from rfl, own_add]
theorem own_nlt {a b : Nat} (h : b ≤ a) (ha : a ≤ 100000) : ¬ Int32.ofNat a < Int32.ofNat b := by
  rw [Int32.lt_iff_toInt_lt, (own_clamp ha).2.2, (own_clamp (n := b) (by omega)).2.2]; omega
theorem own_pos0 {a : Nat} (h : 0 < a) (ha : a ≤ 100000) : (0 : Int32) < Int32.ofNat a := own_lt h ha
theorem own_big {a : Nat} (ha : a ≤ 100000) : ¬ ((2147483639 : Int32) < Int32.ofNat a) ∧ ¬ (Int32.ofNat a = (2147483647 : Int32)) := by
  have e := (own_clamp ha).2.2
  have z1 : (2147483639 : Int32).toInt = 2147483639 := by decide
  have z2 : (2147483647 : Int32).toInt = 2147483647 := by decide
  refine ⟨fun q => ?_, fun q => ?_⟩
  · rw [Int32.lt_iff_toInt_lt, e, z1] at q; omega
  · have := congrArg Int32.toInt q
    rw [e, z2] at this; omega
theorem own_max {a b : Nat} (ha : a ≤ 50000) (hb : b ≤ 50000) : (if Int32.ofNat a < Int32.ofNat b then Int32.ofNat b else Int32.ofNat a) = Int32.ofNat (max a b) := by
  by_cases h : a < b
  · rw [if_pos (own_lt h (by omega)), Nat.max_eq_right (by omega)]
  · rw [if_neg (own_nlt (by omega) (by omega)), Nat.max_eq_left (by omega)]
theorem fill_grow {cs : List Int32} {cap N : Nat} {dv : Value} (h : cs.length ≤ cap) (hN : cap < N) (hc : N ≤ 100000) :
    ((List.replicate N (Value.int (0 : Int32))).take (0 : Int32).toNatClampNeg ++ ((List.range (Int32.ofNat cap).toNatClampNeg).map fun i => (fill cs cap).getD ((0 : Int32).toNatClampNeg + i) dv) ++ (List.replicate N (Value.int (0 : Int32))).drop ((0 : Int32).toNatClampNeg + (Int32.ofNat cap).toNatClampNeg)) = fill cs N := by
  rw [(own_clamp (n := cap) (by omega)).1, show (0 : Int32).toNatClampNeg = 0 from by decide, own_range _ (by rw [fill_length h]; exact Nat.le_refl _)]
  rw [List.take_zero, List.nil_append, List.take_of_length_le (by rw [fill_length h]; exact Nat.le_refl _), Nat.zero_add, List.drop_replicate, fill, fill, List.append_assoc, List.replicate_append_replicate]
  congr 2
  omega
theorem capN_spec (cap m : Nat) : (m ≤ cap ∧ capN cap m = cap) ∨ (cap < m ∧ capN cap m = cap + max (m - cap) (cap + 2)) := by
  unfold capN
  by_cases h : m ≤ cap
  · exact Or.inl ⟨h, if_pos h⟩
  · exact Or.inr ⟨by omega, by rw [if_neg h]; rfl⟩
theorem capN_le {cap m N : Nat} (h : (m ≤ cap → cap ≤ N) ∧ (cap < m → cap + max (m - cap) (cap + 2) ≤ N)) : capN cap m ≤ N := by
  rcases capN_spec cap m with ⟨a, b⟩ | ⟨a, b⟩
  · rw [b]; exact h.1 a
  · rw [b]; exact h.2 a
/-! Integer's digit tables, and what getChars writes -/
open Jvm.Free.SBG in
def Dig (Z : State) : Prop := ∃ (st d1 d2 : Addr) (D1 D2 : Cell), Tbl Z "DigitOnes" st d1 D1 ∧ Tbl Z "DigitTens" st d2 D2 ∧ Ones D1 ∧ Tens D2
def mag (i : Int32) : Nat := i.toInt.natAbs
def dec (i : Int32) : List Int32 := (if i < 0 then [45] else []) ++ (List.range (Jvm.Free.SBG.digits (mag i))).map fun t => Int32.ofNat (48 + mag i / 10 ^ (Jvm.Free.SBG.digits (mag i) - 1 - t) % 10)
open Jvm.Free.SBG in
theorem mag_le (i : Int32) : mag i ≤ 2 ^ 31 := by have := rng32 i; unfold mag; omega
open Jvm.Free.SBG in
theorem mag_neg (i : Int32) : (if i < 0 then i else -i) = negI (mag i) := by
  have h := mag_le i
  have r := rng32 i
  have z : (0 : Int32).toInt = 0 := by decide
  apply Int32.toInt_inj.mp
  rw [negI_toInt h]
  by_cases q : i < 0
  · rw [if_pos q]
    rw [Int32.lt_iff_toInt_lt, z] at q
    unfold mag; omega
  · rw [if_neg q]
    rw [Int32.lt_iff_toInt_lt, z] at q
    have e := c_isub 0 i
    rw [z] at e
    have e2 : (0 : Int32) - i = -i := by simp
    rw [e2] at e
    have r2 := rng32 (-i)
    unfold mag; omega
theorem dec_len (i : Int32) : (dec i).length = Jvm.Free.SBG.digits (mag i) + Jvm.Free.SBG.GetChars.sgn i := by
  unfold dec Jvm.Free.SBG.GetChars.sgn
  split <;> simp <;> omega
theorem dec_len11 (i : Int32) : (dec i).length ≤ 11 := by
  rw [dec_len]
  have := (Jvm.Free.SBG.digits_pos (mag i)).2
  unfold Jvm.Free.SBG.GetChars.sgn
  split <;> omega
theorem dig_b : ∀ k : Fin 10, (Int32.ofNat (48 + k.val)).toInt8.toInt32 = Int32.ofNat (48 + k.val) ∧ ¬ Int32.ofNat (48 + k.val) < 0 ∧ ¬ (255 : Int32) < Int32.ofNat (48 + k.val) := by decide +kernel
theorem dec_in (i : Int32) : ∀ c ∈ dec i, ¬ c < 0 ∧ ¬ (255 : Int32) < c := by
  intro c hc
  unfold dec at hc
  rcases List.mem_append.mp hc with h | h
  · split at h
    · simp only [List.mem_cons, List.not_mem_nil, or_false] at h; subst h; decide
    · cases h
  · obtain ⟨t, -, rfl⟩ := List.mem_map.mp h
    exact (dig_b ⟨_, Nat.mod_lt _ (by omega)⟩).2
theorem dec_get (i : Int32) (k : Nat) (hk : k < (dec i).length) : (dec i).getD k 0 = (if i < 0 then (if k = 0 then 45 else Int32.ofNat (48 + mag i / 10 ^ (Jvm.Free.SBG.digits (mag i) - k) % 10)) else Int32.ofNat (48 + mag i / 10 ^ (Jvm.Free.SBG.digits (mag i) - 1 - k) % 10)) := by
  rw [dec_len] at hk
  unfold Jvm.Free.SBG.GetChars.sgn at hk
  unfold dec
  by_cases q : i < 0
  · rw [if_pos q] at hk
    rw [if_pos q, if_pos q]
    cases k with
    | zero => rfl
    | succ k =>
      have h : k < Jvm.Free.SBG.digits (mag i) := by omega
      simp only [List.cons_append, List.nil_append, List.getD_cons_succ, Nat.add_eq_zero_iff, Nat.one_ne_zero, and_false, if_false]
      rw [show Jvm.Free.SBG.digits (mag i) - (k + 1) = Jvm.Free.SBG.digits (mag i) - 1 - k from by omega]
      simp [List.getD_eq_getElem?_getD, h]
  · rw [if_neg q] at hk
    rw [if_neg q, if_neg q]
    have h : k < Jvm.Free.SBG.digits (mag i) := by omega
    simp [List.getD_eq_getElem?_getD, h]
theorem own_ssz {p : Program} {l : Launch} {e : Env} {R : Room} {s : State} {args : Array Value} {below : List Frame} {W : Nat} {Z : State} {a0 : Array Value} (hZ : Z.Warmed39 s.vm) (hfr : 2 ≤ R.frames) (hlo : W + 55 ≤ R.locals) (hw : ∀ d ∈ tables_1, d.before a0 Z = true) (i : Int32) (h : Heap) (n0 : Nat) (Z0 : n0 ≤ h.size) :
    Jvm.Y9.Bk l R p e below s args (⟨"java/lang/Integer", "stringSize", "(I)I"⟩ : MethodName) 3 W #[.int i] h 0 0 n0 (fun v h' => v = some (.int (Int32.ofNat (dec i).length)) ∧ h = h') := by
  have w1 : Jvm.Free.SBG.StrSize.tab ∈ tables_1 := by decide +kernel
  have w2 : (Cond.initialized "java/lang/Integer") ∈ tables_1 := by decide +kernel
  refine Back.mono (Jvm.Free.SBG.StrSize.pays (W := W) hfr hlo (mvT hZ (hw _ w1)) (mvT hZ (hw _ w2))) (fun A a hp => ⟨hp.2.2.1, hp.2.2.2, i, hp.1⟩) (fun A a v B hp hq => ?_)
  obtain ⟨⟨q1, q2, q3, q4⟩, q5⟩ := hq
  refine ⟨[], ⟨⟨?_, (q1.trans hp.2.1).symm⟩, Fr.nil n0⟩, by rw [q2]; simp, q3, q4⟩
  rw [q5 i hp.1, Jvm.Free.SBG.strSizeOf_eq (mag_le i) (mag_neg i), dec_len]
theorem fill_get {cs : List Int32} {cap j : Nat} : (fill cs cap).getD j (.int 0) = .int ((cs.getD j 0).toInt8.toInt32) := by
  have z : (0 : Int32).toInt8.toInt32 = 0 := by decide
  simp only [fill, List.getD_eq_getElem?_getD]
  by_cases h : j < cs.length
  · rw [List.getElem?_append_left (by simpa using h)]
    simp [h]
  · rw [List.getElem?_append_right (by simpa using h)]
    simp only [List.length_map, List.getElem?_replicate]
    rw [List.getElem?_eq_none (by omega)]
    split <;> simp [z]
theorem getD_app {cs ds : List Int32} {j : Nat} : (cs ++ ds).getD j 0 = if j < cs.length then cs.getD j 0 else ds.getD (j - cs.length) 0 := by
  simp only [List.getD_eq_getElem?_getD]
  split
  · rename_i h; rw [List.getElem?_append_left h]
  · rename_i h; rw [List.getElem?_append_right (by omega)]
open Jvm.Free.SBG in
theorem outCell_cv (g : GetChars.G) : (GetChars.outCell g).cls = g.A.cls ∧ (GetChars.outCell g).vm = g.A.vm := by
  obtain ⟨h1, h2, -⟩ := digLoop_facts g.D1 g.D2 5 g.A g.n g.idx
  unfold GetChars.outCell
  split
  · obtain ⟨p1, p2, -⟩ := put_facts (digLoop g.D1 g.D2 5 g.A g.n g.idx).1 ((digLoop g.D1 g.D2 5 g.A g.n g.idx).2 - 1) 45
    exact ⟨p1.trans h1, p2.trans h2⟩
  · exact ⟨h1, h2⟩
open Jvm.Free.SBG in
theorem own_gch {p : Program} {l : Launch} {e : Env} {R : Room} {s : State} {args : Array Value} {below : List Frame} {W : Nat} {Z : State} {a0 : Array Value} (hZ : Z.Warmed39 s.vm) (hfr : 2 ≤ R.frames) (hlo : W + 78 ≤ R.locals) (hw : ∀ d ∈ tables_1, d.before a0 Z = true) (i : Int32) (t : Addr) (kb : ClassId) (cs : List Int32) (cap : Nat) (h : Heap) (n0 : Nat) (Z0 : n0 ≤ h.size) (g_t : n0 ≤ t)
    (F : Arv Z h t kb .byte (Int32.ofNat cap) (fill cs cap) (.int 0)) (O : Old Z n0 h) (hl : cs.length + (dec i).length ≤ cap) (hc : cap ≤ 100000) (GD : Dig Z) :
    Jvm.Y9.Bk l R p e below s args (⟨"java/lang/Integer", "getChars", "(II[B)I"⟩ : MethodName) 3 W #[.int i, .int (Int32.ofNat (cs.length + (dec i).length)), .ref t] h 0 0 n0 (fun v h' => ∃ z : Int32, v = some (.int z) ∧ Keep h h' [t] ∧ Arv Z h' t kb .byte (Int32.ofNat cap) (fill (cs ++ dec i) cap) (.int 0)) := by
  have w1 : (Cond.code GetChars.gcN GetChars.gcB 7 (some .int)) ∈ tables_1 := by decide +kernel
  have w2 : (Cond.fieldLink "java/lang/Integer" 83 "java/lang/Integer" "DigitOnes" "[B") ∈ tables_1 := by decide +kernel
  have w3 : (Cond.fieldLink "java/lang/Integer" 87 "java/lang/Integer" "DigitTens" "[B") ∈ tables_1 := by decide +kernel
  have w4 : (Cond.initialized "java/lang/Integer") ∈ tables_1 := by decide +kernel
  have htab : GetChars.tab.before args s = true := by
    simp only [GetChars.tab, Cond.before_and, Bool.and_eq_true]
    exact ⟨mvT hZ (hw _ w1), mvT hZ (hw _ w2), mvT hZ (hw _ w3)⟩
  obtain ⟨st, d1, d2, D1, D2, T1, T2, O1, O2⟩ := GD
  obtain ⟨cl, ⟨f1, f2, f3⟩, f4, f5, f6, f7, f8⟩ := F
  have hcap := (own_clamp hc).1
  rw [hcap] at f5
  have hidx := dec_len i
  intro m meth c A g ig mk a X hg hsize hdg hW hn hp
  obtain ⟨rfl, e2, e3, e4⟩ := hp
  have hal : Z.vm.Alike A.U.vm := (wtrans hZ X.warmed).alike
  have ext : ∀ (b : Addr) (cl : Cell), Z.heap[b]? = some cl → A.U.heap[b]? = some cl := fun b cl q => by rw [e2]; exact O.2.2 b cl q
  have below0 : ∀ (b : Addr) (cl : Cell), Z.heap[b]? = some cl → t ≠ b := fun b cl q z => by
    have h1 := (Array.getElem?_eq_some_iff.mp q).1
    rw [O.1] at h1
    exact Nat.lt_irrefl _ (lL h1 (z ▸ g_t))
  obtain ⟨_, _, _, _, cS1, _, _, _, _, a5, _, _, a8, _⟩ := id T1
  obtain ⟨_, _, _, _, _, _, _, _, _, _, _, _, b8, _⟩ := id T2
  let gg : GetChars.G := { x := i, n := mag i, idx := cs.length + (dec i).length, da := t, A := cl, st := st, d1 := d1, D1 := D1, d2 := d2, D2 := D2 }
  have hroom : Jvm.Free.SBG.digits (mag i) + GetChars.sgn i ≤ cs.length + (dec i).length := by omega
  have hix : cs.length + (dec i).length ≤ cl.slots.size := by omega
  have hP : GetChars.P gg #[.int i, .int (Int32.ofNat (cs.length + (dec i).length)), .ref t] A.U := ⟨rfl, by rw [e2]; exact f1, State.isArrayOf_alike hal f2, f3, by show cl.slots.size < 2 ^ 31; omega, hix, hroom, mag_le i, mag_neg i, T1.move hal (fun c q => ext _ _ q) (ext _ _ a8), T2.move hal (fun c q => ext _ _ q) (ext _ _ b8), below0 _ _ a5, below0 _ _ a8, below0 _ _ b8⟩
  obtain ⟨v, B, X', hpost, st'⟩ := GetChars.pays gg W htab (mvT hZ (hw _ w4)) hfr hlo m meth c A g ig mk _ X hg hsize hdg hW hn ⟨rfl, e3, e4, hP⟩
  obtain ⟨q1, q2, q3, q4, q5, q6, L, q7, q8⟩ := hpost
  obtain ⟨c1, c2⟩ := outCell_cv gg
  have c3 : (GetChars.outCell gg).slots.size = cl.slots.size := outCell_size gg
  obtain ⟨hA, hB, hC⟩ := outCell_at gg O1 O2 (mag_le i) hroom hix
  refine ⟨v, B, X', ⟨L, ⟨⟨_, q1, ⟨by rw [q5, e2]; exact Nat.le_refl _, fun x c q r => q6 x c (fun z => r (by simp [z, gg])) (by rw [e2]; exact q), fun x c q => ?_⟩, ⟨GetChars.outCell gg, ⟨q2, ?_, by rw [c2]; exact f3⟩, c1.trans f4, by rw [c3, f5, hcap], f6, ?_, ?_⟩⟩, fun y hy => by rw [q8 y hy]; exact g_t⟩, q7, q3, q4⟩, st'⟩
  · by_cases z : x = t
    · subst z
      cases f1.symm.trans q
      exact ⟨_, q2, c1, c2, c3⟩
    · exact ⟨c, q6 x c z (by rw [e2]; exact q), rfl, rfl, rfl⟩
  · obtain ⟨r1, k, r2, comp, r3⟩ := f2
    exact ⟨fun q => by rw [c2]; exact r1 q, k, by rw [c1]; exact r2, comp, r3⟩
  · intro k hk
    rw [c3] at hk
    rw [fill_get, getD_app]
    by_cases h1 : k < cs.length
    · rw [if_pos h1, hC k (Or.inl (by show k < cs.length + (dec i).length - (Jvm.Free.SBG.digits (mag i) + GetChars.sgn i); omega))]
      show cl.slots[k]? = _
      rw [f7 k hk, fill_get]
    · rw [if_neg h1]
      by_cases h2 : k < cs.length + (dec i).length
      · have hu : k - cs.length < (dec i).length := by omega
        rw [dec_get i _ hu]
        by_cases hs : i < 0
        · have e1 : GetChars.sgn i = 1 := if_pos hs
          rw [if_pos hs]
          by_cases h0 : k - cs.length = 0
          · rw [if_pos h0]
            have := hB hs
            rw [show gg.idx - Jvm.Free.SBG.digits gg.n - 1 = k from by show cs.length + (dec i).length - Jvm.Free.SBG.digits (mag i) - 1 = k; omega] at this
            rw [this]; rfl
          · rw [if_neg h0]
            have := hA (Jvm.Free.SBG.digits (mag i) - (k - cs.length)) (by show Jvm.Free.SBG.digits (mag i) - (k - cs.length) < Jvm.Free.SBG.digits (mag i); omega)
            rw [show gg.idx - 1 - (Jvm.Free.SBG.digits (mag i) - (k - cs.length)) = k from by show cs.length + (dec i).length - 1 - (Jvm.Free.SBG.digits (mag i) - (k - cs.length)) = k; omega] at this
            rw [this, (dig_b ⟨_, Nat.mod_lt (mag i / 10 ^ (Jvm.Free.SBG.digits (mag i) - (k - cs.length))) (by omega)⟩).1]
        · have e1 : GetChars.sgn i = 0 := if_neg hs
          rw [if_neg hs]
          have := hA (Jvm.Free.SBG.digits (mag i) - 1 - (k - cs.length)) (by show Jvm.Free.SBG.digits (mag i) - 1 - (k - cs.length) < Jvm.Free.SBG.digits (mag i); omega)
          rw [show gg.idx - 1 - (Jvm.Free.SBG.digits (mag i) - 1 - (k - cs.length)) = k from by show cs.length + (dec i).length - 1 - (Jvm.Free.SBG.digits (mag i) - 1 - (k - cs.length)) = k; omega] at this
          rw [this, (dig_b ⟨_, Nat.mod_lt (mag i / 10 ^ (Jvm.Free.SBG.digits (mag i) - 1 - (k - cs.length))) (by omega)⟩).1]
      · rw [hC k (Or.inr (by show cs.length + (dec i).length ≤ k; omega))]
        show cl.slots[k]? = _
        rw [f7 k hk, fill_get]
        rw [List.getD_eq_getElem?_getD, List.getD_eq_getElem?_getD, List.getElem?_eq_none (by omega), List.getElem?_eq_none (by omega)]
  · intro k hk
    rw [fill_get]; exact fits_nar_byte _
open Jvm.Free.SBG Jvm.Free.SB in
theorem tbl_own {a : Array Value} {s : State} {name : String} {rhs : Term} {F : Nat → Nat} (w1 : (Cond.laysStatic "java/lang/Integer" name "[B").before a s = true) (w2 : (Cond.exactly (Tof name) "[B").before a s = true) (w3 : (Cond.eq (.length (Tof name)) (.int 100)).before a s = true)
    (w4 : (Cond.all (Tof name) (.eq (.elem (Tof name) (.index 0)) rhs)).before a s = true) (hini : (Cond.initialized "java/lang/Integer").before a s = true) (harr : (Cond.arrayClass .byte).before a s = true) (hrhs : ∀ r, r < 100 → rhs.eval a s none [r] s = some (.int (Int32.ofNat (F r)))) (hF : ∀ r, r < 100 → 48 ≤ F r ∧ F r < 58) :
    ∃ (c : ClassId) (k : Class) (st d : Addr) (D : Cell), s.vm.findClass "java/lang/Integer" = some c ∧ s.vm.classes[c]? = some k ∧ k.statics = some st ∧ Tbl s name st d D ∧ ∀ r, r < 100 → iAt D r = Int32.ofNat (F r) := by
  have hev : ∀ {d : Addr}, (Tof name).eval a s none [] s = some (.ref d) → ∀ idx, (Tof name).eval a s none idx s = some (.ref d) := fun h idx => by
    have : (Tof name).eval a s none idx s = (Tof name).eval a s none [] s := by simp only [Tof, Term.eval]
    rw [this]; exact h
  have el := eqv_i (Z := s) (Term.int_eval (100)) (Cond.before_iff.mp w3)
  obtain ⟨d0, D0, e1, e2, e3⟩ := Term.length_spec el
  have hb : (bytesC (Tof name)).before a s = true := by
    refine holds_of_value (Cond.all_intro (hev e1 []) e2 fun i hi => ?_)
    have h31 : D0.slots.size < 2 ^ 31 := length_lt e1 e2 el
    have hs : D0.slots.size = 100 := by
      have q : D0.slots.size.toInt32 = 100 := by simpa using e3.symm
      have := congrArg Int32.toInt q
      rw [len_toInt h31, show (100 : Int32).toInt = 100 from by decide] at this
      omega
    have h := Cond.all_elim (hev e1 []) e2 (Cond.before_iff.mp w4) i hi
    have e := eqv_i (Z := s) (hrhs i (by omega)) h
    have f := hF i (by omega)
    have g := (own_clamp (n := F i) (by omega)).2.2
    have l1 : (-128 : Int32) ≤ Int32.ofNat (F i) := by rw [Int32.le_iff_toInt_le, g, show (-128 : Int32).toInt = -128 from by decide]; omega
    have l2 : Int32.ofNat (F i) ≤ (127 : Int32) := by rw [Int32.le_iff_toInt_le, g, show (127 : Int32).toInt = 127 from by decide]; omega
    simp [Cond.value, e, Term.int_eval, l1, l2]
  obtain ⟨c, k, st, d, D, h1, h2, h3, hT, hevd, hat⟩ := tbl_of_words2 (name := name) (a := a) (s := s) (fun w hw => by
    simp only [tblW, List.mem_cons, List.not_mem_nil, or_false] at hw
    rcases hw with rfl | rfl | rfl | rfl
    · exact w1
    · exact w2
    · exact w3
    · exact hb) hini harr
  obtain ⟨_, _, _, _, _, _, _, _, _, _, _, _, _, _, _, hsz, hint⟩ := id hT
  exact ⟨c, k, st, d, D, h1, h2, h3, hT, held_of_word hevd hat hsz hint hrhs w4⟩
open Jvm.Free.SBG Jvm.Free.SB in
theorem dig_start {a : Array Value} {s : State} (a1 : (Cond.laysStatic "java/lang/Integer" "DigitOnes" "[B").before a s = true) (a2 : (Cond.exactly (.static "java/lang/Integer" "DigitOnes" "[B") "[B").before a s = true) (a3 : (Cond.eq (.length (.static "java/lang/Integer" "DigitOnes" "[B")) (.int 100)).before a s = true) (a4 : (Cond.all (.static "java/lang/Integer" "DigitOnes" "[B") (.eq (.elem (.static "java/lang/Integer" "DigitOnes" "[B") (.index 0)) (.add (.int 48) (.rem (.index 0) (.int 10))))).before a s = true)
    (b1 : (Cond.laysStatic "java/lang/Integer" "DigitTens" "[B").before a s = true) (b2 : (Cond.exactly (.static "java/lang/Integer" "DigitTens" "[B") "[B").before a s = true) (b3 : (Cond.eq (.length (.static "java/lang/Integer" "DigitTens" "[B")) (.int 100)).before a s = true) (b4 : (Cond.all (.static "java/lang/Integer" "DigitTens" "[B") (.eq (.elem (.static "java/lang/Integer" "DigitTens" "[B") (.index 0)) (.add (.int 48) (.div (.index 0) (.int 10))))).before a s = true)
    (hini : (Cond.initialized "java/lang/Integer").before a s = true) (harr : (Cond.arrayClass .byte).before a s = true) : Dig s := by
  obtain ⟨c, k, st, d1, D1, h1, h2, h3, T1, O1⟩ := tbl_own (name := "DigitOnes") (F := fun r => 48 + r % 10) a1 a2 a3 a4 hini harr (fun r hr => by rw [← ones_num r hr]; rfl) (fun r _ => ⟨by omega, by omega⟩)
  obtain ⟨c', k', st', d2, D2, g1, g2, g3, T2, O2⟩ := tbl_own (name := "DigitTens") (F := fun r => 48 + r / 10) b1 b2 b3 b4 hini harr (fun r hr => by rw [← tens_num r hr]; rfl) (fun r _ => ⟨by omega, by omega⟩)
  cases h1.symm.trans g1
  cases h2.symm.trans g2
  cases h3.symm.trans g3
  exact ⟨st, d1, d2, D1, D2, T1, T2, O1, O2⟩
def absJ (x : Int64) : Int64 := if lcmpW x 0 < 0 then -x else x
theorem own_lcmp (a b : Int64) : lcmpW a b < 0 ↔ a.toInt < b.toInt := (lw_lt a b).trans Int64.lt_iff_toInt_lt
theorem absJ_mag (t : Int32) : (absJ t.toInt64).toInt = (mag t : Int) := by
  have r := rng32 t
  have z : (0 : Int64).toInt = 0 := by decide
  have e : t.toInt64.toInt = t.toInt := by simp
  unfold absJ mag
  by_cases h : lcmpW t.toInt64 0 < 0
  · rw [if_pos h]
    rw [own_lcmp, e, z] at h
    rw [Int64.toInt_neg, e]
    rw [Int.bmod_eq_of_le (by omega) (by omega)]
    omega
  · rw [if_neg h, e]
    rw [own_lcmp, e, z] at h
    omega
theorem wid_lt (t : Int32) (K : Int64) : lcmpW (absJ t.toInt64) K < 0 ↔ (mag t : Int) < K.toInt := by rw [own_lcmp, absJ_mag]
theorem wid_mono {t : Int32} {K L : Int64} (h : lcmpW (absJ t.toInt64) K < 0) (q : K.toInt ≤ L.toInt) : lcmpW (absJ t.toInt64) L < 0 := by
  rw [wid_lt] at h ⊢
  omega
theorem wid_of {t : Int32} {j : Nat} {d : Int32} (h : Jvm.Free.SBG.digits (mag t) = j) (hd : Int32.ofNat j = d) : Int32.ofNat (dec t).length = if t < 0 then d + 1 else d := by
  rw [dec_len, h]
  unfold Jvm.Free.SBG.GetChars.sgn
  by_cases q : t < 0
  · rw [if_pos q, if_pos q, ← own_add, hd]; rfl
  · rw [if_neg q, if_neg q, Nat.add_zero, hd]
theorem dig_1 {t : Int32} (h2 : lcmpW (absJ t.toInt64) (10 : Int64) < 0) : Jvm.Free.SBG.digits (mag t) = 1 := by
  rw [wid_lt, show (10 : Int64).toInt = 10 from by decide] at h2
  unfold Jvm.Free.SBG.digits
  rw [if_pos (by omega)]
theorem dig_2 {t : Int32} (h1 : ¬ lcmpW (absJ t.toInt64) (10 : Int64) < 0) (h2 : lcmpW (absJ t.toInt64) (100 : Int64) < 0) : Jvm.Free.SBG.digits (mag t) = 2 := by
  rw [wid_lt, show (10 : Int64).toInt = 10 from by decide] at h1
  rw [wid_lt, show (100 : Int64).toInt = 100 from by decide] at h2
  unfold Jvm.Free.SBG.digits
  rw [if_neg (by omega), if_pos (by omega)]
theorem dig_3 {t : Int32} (h1 : ¬ lcmpW (absJ t.toInt64) (100 : Int64) < 0) (h2 : lcmpW (absJ t.toInt64) (1000 : Int64) < 0) : Jvm.Free.SBG.digits (mag t) = 3 := by
  rw [wid_lt, show (100 : Int64).toInt = 100 from by decide] at h1
  rw [wid_lt, show (1000 : Int64).toInt = 1000 from by decide] at h2
  unfold Jvm.Free.SBG.digits
  rw [if_neg (by omega), if_neg (by omega), if_pos (by omega)]
theorem dig_4 {t : Int32} (h1 : ¬ lcmpW (absJ t.toInt64) (1000 : Int64) < 0) (h2 : lcmpW (absJ t.toInt64) (10000 : Int64) < 0) : Jvm.Free.SBG.digits (mag t) = 4 := by
  rw [wid_lt, show (1000 : Int64).toInt = 1000 from by decide] at h1
  rw [wid_lt, show (10000 : Int64).toInt = 10000 from by decide] at h2
  unfold Jvm.Free.SBG.digits
  rw [if_neg (by omega), if_neg (by omega), if_neg (by omega), if_pos (by omega)]
theorem dig_5 {t : Int32} (h1 : ¬ lcmpW (absJ t.toInt64) (10000 : Int64) < 0) (h2 : lcmpW (absJ t.toInt64) (100000 : Int64) < 0) : Jvm.Free.SBG.digits (mag t) = 5 := by
  rw [wid_lt, show (10000 : Int64).toInt = 10000 from by decide] at h1
  rw [wid_lt, show (100000 : Int64).toInt = 100000 from by decide] at h2
  unfold Jvm.Free.SBG.digits
  rw [if_neg (by omega), if_neg (by omega), if_neg (by omega), if_neg (by omega), if_pos (by omega)]
theorem dig_6 {t : Int32} (h1 : ¬ lcmpW (absJ t.toInt64) (100000 : Int64) < 0) (h2 : lcmpW (absJ t.toInt64) (1000000 : Int64) < 0) : Jvm.Free.SBG.digits (mag t) = 6 := by
  rw [wid_lt, show (100000 : Int64).toInt = 100000 from by decide] at h1
  rw [wid_lt, show (1000000 : Int64).toInt = 1000000 from by decide] at h2
  unfold Jvm.Free.SBG.digits
  rw [if_neg (by omega), if_neg (by omega), if_neg (by omega), if_neg (by omega), if_neg (by omega), if_pos (by omega)]
theorem dig_7 {t : Int32} (h1 : ¬ lcmpW (absJ t.toInt64) (1000000 : Int64) < 0) (h2 : lcmpW (absJ t.toInt64) (10000000 : Int64) < 0) : Jvm.Free.SBG.digits (mag t) = 7 := by
  rw [wid_lt, show (1000000 : Int64).toInt = 1000000 from by decide] at h1
  rw [wid_lt, show (10000000 : Int64).toInt = 10000000 from by decide] at h2
  unfold Jvm.Free.SBG.digits
  rw [if_neg (by omega), if_neg (by omega), if_neg (by omega), if_neg (by omega), if_neg (by omega), if_neg (by omega), if_pos (by omega)]
theorem dig_8 {t : Int32} (h1 : ¬ lcmpW (absJ t.toInt64) (10000000 : Int64) < 0) (h2 : lcmpW (absJ t.toInt64) (100000000 : Int64) < 0) : Jvm.Free.SBG.digits (mag t) = 8 := by
  rw [wid_lt, show (10000000 : Int64).toInt = 10000000 from by decide] at h1
  rw [wid_lt, show (100000000 : Int64).toInt = 100000000 from by decide] at h2
  unfold Jvm.Free.SBG.digits
  rw [if_neg (by omega), if_neg (by omega), if_neg (by omega), if_neg (by omega), if_neg (by omega), if_neg (by omega), if_neg (by omega), if_pos (by omega)]
theorem dig_9 {t : Int32} (h1 : ¬ lcmpW (absJ t.toInt64) (100000000 : Int64) < 0) (h2 : lcmpW (absJ t.toInt64) (1000000000 : Int64) < 0) : Jvm.Free.SBG.digits (mag t) = 9 := by
  rw [wid_lt, show (100000000 : Int64).toInt = 100000000 from by decide] at h1
  rw [wid_lt, show (1000000000 : Int64).toInt = 1000000000 from by decide] at h2
  unfold Jvm.Free.SBG.digits
  rw [if_neg (by omega), if_neg (by omega), if_neg (by omega), if_neg (by omega), if_neg (by omega), if_neg (by omega), if_neg (by omega), if_neg (by omega), if_pos (by omega)]
theorem dig_10 {t : Int32} (h1 : ¬ lcmpW (absJ t.toInt64) (1000000000 : Int64) < 0) : Jvm.Free.SBG.digits (mag t) = 10 := by
  rw [wid_lt, show (1000000000 : Int64).toInt = 1000000000 from by decide] at h1
  unfold Jvm.Free.SBG.digits
  rw [if_neg (by omega), if_neg (by omega), if_neg (by omega), if_neg (by omega), if_neg (by omega), if_neg (by omega), if_neg (by omega), if_neg (by omega), if_neg (by omega)]
def LC : List (String × Nat × String) × (Array (Array UInt16 × Addr) → Prop) := ([("com/example/etsin/etsin/BenchTurn$Outcome", 19, "It is sunny in Paris, 21 degrees."), ("com/example/etsin/etsin/BenchTurn$Outcome", 30, "the answer "), ("com/example/etsin/etsin/BenchTurn$Outcome", 36, " after "), ("com/example/etsin/etsin/BenchTurn$Outcome", 41, " results of "), ("com/example/etsin/etsin/BenchTurn$Outcome", 43, "get_weather"), ("java/lang/String", 7, "")], fun _ => True)
theorem own_atoms {Z : State} {a0 : Array Value} (hw : ∀ d ∈ tables_1, d.before a0 Z = true) : ∀ a ∈ Bundle.stringAtoms, a.before a0 Z = true := by
  intro d hd
  simp only [Bundle.stringAtoms, List.mem_cons, List.not_mem_nil, or_false] at hd
  rcases hd with rfl | rfl | rfl | rfl | rfl | rfl | rfl
  · exact hw _ (List.mem_of_getElem? (i := 4) rfl)
  · exact hw _ (List.mem_of_getElem? (i := 3) rfl)
  · exact hw _ (List.mem_of_getElem? (i := 20) rfl)
  · exact hw _ (List.mem_of_getElem? (i := 30) rfl)
  · exact hw _ (List.mem_of_getElem? (i := 28) rfl)
  · exact hw _ (List.mem_of_getElem? (i := 38) rfl)
  · exact hw _ (List.mem_of_getElem? (i := 39) rfl)
theorem own_lits {Z : State} {a0 : Array Value} (hw : ∀ d ∈ tables_1, d.before a0 Z = true) (hh : Jvm.Lit.constsHeld consts_1 Z) (hcw : Jvm.Lit.compactW.before a0 Z = true) : ∀ d ∈ LC.1, Jvm.Q9.LitW Z a0 d := by
  have wi : (Cond.instantiable "java/lang/String" 4).before a0 Z = true := (wI hw 3 rfl)
  have wa : (Cond.arrayClass .byte).before a0 Z = true := (wI hw 20 rfl)
  intro d hd
  simp only [LC, List.mem_cons, List.not_mem_nil, or_false] at hd
  rcases hd with rfl | rfl | rfl | rfl | rfl | rfl
  · have w1 : (Cond.stringLink "com/example/etsin/etsin/BenchTurn$Outcome" 19 "It is sunny in Paris, 21 degrees.").before a0 Z = true := (wI hw 37 rfl)
    refine ⟨w1, by decide +kernel, by decide +kernel, heldStart (hh _ (List.mem_of_getElem? (i := 0) rfl)) w1 (by decide +kernel) hcw wa wi, Jvm.Q9.own_found w1⟩
  · have w1 : (Cond.stringLink "com/example/etsin/etsin/BenchTurn$Outcome" 30 "the answer ").before a0 Z = true := (wI hw 68 rfl)
    refine ⟨w1, by decide +kernel, by decide +kernel, heldStart (hh _ (List.mem_of_getElem? (i := 1) rfl)) w1 (by decide +kernel) hcw wa wi, Jvm.Q9.own_found w1⟩
  · have w1 : (Cond.stringLink "com/example/etsin/etsin/BenchTurn$Outcome" 36 " after ").before a0 Z = true := (wI hw 139 rfl)
    refine ⟨w1, by decide +kernel, by decide +kernel, heldStart (hh _ (List.mem_of_getElem? (i := 2) rfl)) w1 (by decide +kernel) hcw wa wi, Jvm.Q9.own_found w1⟩
  · have w1 : (Cond.stringLink "com/example/etsin/etsin/BenchTurn$Outcome" 41 " results of ").before a0 Z = true := (wI hw 162 rfl)
    refine ⟨w1, by decide +kernel, by decide +kernel, heldStart (hh _ (List.mem_of_getElem? (i := 3) rfl)) w1 (by decide +kernel) hcw wa wi, Jvm.Q9.own_found w1⟩
  · have w1 : (Cond.stringLink "com/example/etsin/etsin/BenchTurn$Outcome" 43 "get_weather").before a0 Z = true := (wI hw 163 rfl)
    refine ⟨w1, by decide +kernel, by decide +kernel, heldStart (hh _ (List.mem_of_getElem? (i := 4) rfl)) w1 (by decide +kernel) hcw wa wi, Jvm.Q9.own_found w1⟩
  · have w1 : (Cond.stringLink "java/lang/String" 7 "").before a0 Z = true := (wI hw 265 rfl)
    refine ⟨w1, by decide +kernel, by decide +kernel, heldStart (hh _ (List.mem_of_getElem? (i := 5) rfl)) w1 (by decide +kernel) hcw wa wi, Jvm.Q9.own_found w1⟩
theorem e9_0 : decode jdk_42_method_152_code 0 = .ok (.getstatic 38, 3) := by decide +kernel
theorem e9_3 : decode jdk_42_method_152_code 3 = .ok (.ifCond .eq 10, 3) := by decide +kernel
theorem e9_6 : decode jdk_42_method_152_code 6 = .ok (.aload_n 0, 1) := by decide +kernel
theorem e9_7 : decode jdk_42_method_152_code 7 = .ok (.getfield 15, 3) := by decide +kernel
theorem e9_10 : decode jdk_42_method_152_code 10 = .ok (.goto 4, 3) := by decide +kernel
theorem e9_14 : decode jdk_42_method_152_code 14 = .ok (.ireturn, 1) := by decide +kernel
theorem pn_java_lang_String : plainName "java/lang/String" = true := by first | (simp [plainName, overriddenIn]; done) | decide +kernel
theorem own_coder (l : Launch) (Z : State) (a0 : Array Value) (hw : ∀ d ∈ tables_1, d.before a0 Z = true) (y : Addr) (h0 : Heap) (n0 : Nat) (Z0 : n0 ≤ h0.size) (F0 : Fld Z h0 y "java/lang/String" "coder" "B" (.int 0)) (F1 : Old Z n0 h0) (G : Cmp Z) :
    Jvm.Y9.Con l Z (⟨"java/lang/String", "coder", "()B"⟩ : MethodName) jdk_42_method_152_code 1 (some .byte) ({ frames := 0, cells := 0, slots := 0, locals := 0 } : Room) n0 #[(.ref y)] h0 (fun v h => v = some (.int 0) ∧ h0 = h) := by
  refine Jvm.Y9.Con.intro (plainFor_of_name pn_java_lang_String) ?_
  intro p e s m below meth c s₁ hx hby hml hret hnm hown hlk hZ P0
  refine Jvm.Y9.Aim.cast (by first | (simp [entryFrame, mkF, argsToLocals, Value.category]; done) | rfl : entryFrame m #[(.ref y)] 1 = (mkF m 0 #[.val (.ref y)] [])) ?_
  obtain ⟨zc, hzc, Szc⟩ := id G
  refine Jvm.Y9.Aim.getS P0 hx hZ hown (wI hw 15 rfl) Via.refl (Szc.ext F1.2) (hb hby e9_0) ?_
  intro T1 P2
  have H := P2.here
  refine Jvm.Y9.Aim.of (T' := T1) (g' := (mkF m 7 #[.val (.ref y)] [(.ref y)])) (fun tgt kt => ?_) ?_
  · refine XS.ifNo H hx rfl (hb hby e9_3) rfl ((if0 _ _).trans (feq hzc).1) ?_
    refine XS.aloadN H hx rfl (hb hby e9_6) rfl rfl ?_
    exact kt
  refine Jvm.Y9.Aim.getF P2 hx hZ hown (host := "") (Or.inl (wI hw 27 rfl)) Via.refl F0 (hb hby e9_7) ?_
  intro T3 P4
  have H := P4.here
  refine Jvm.Y9.Aim.of (T' := T3) (g' := (mkF m 14 #[.val (.ref y)] [(.int 0)])) (fun tgt kt => ?_) ?_
  · refine XS.goto H hx rfl (pc0 := 10) (pc' := 14) rfl (hb hby e9_10) (by decide) (by decide) ?_
    exact kt
  exact Jvm.Y9.Aim.retN (t := .byte) P4 hx hlk hret (by simp) (hb hby e9_14) (by decide) (by decide) ⟨rfl, rfl⟩
theorem ee_0 : decode jdk_42_method_54_code 0 = .ok (.aload_n 0, 1) := by decide +kernel
theorem ee_1 : decode jdk_42_method_54_code 1 = .ok (.getfield 9, 3) := by decide +kernel
theorem ee_4 : decode jdk_42_method_54_code 4 = .ok (.arraylength, 1) := by decide +kernel
theorem ee_5 : decode jdk_42_method_54_code 5 = .ok (.aload_n 0, 1) := by decide +kernel
theorem ee_6 : decode jdk_42_method_54_code 6 = .ok (.invokevirtual 335, 3) := by decide +kernel
theorem pd__28_29B : parseMethodDescriptor "()B" = some ⟨[], some .byte⟩ := by decide +kernel
theorem ee_9 : decode jdk_42_method_54_code 9 = .ok (.ishr, 1) := by decide +kernel
theorem ee_10 : decode jdk_42_method_54_code 10 = .ok (.ireturn, 1) := by decide +kernel
theorem own_length (l : Launch) (Z : State) (a0 : Array Value) (hw : ∀ d ∈ tables_1, d.before a0 Z = true) (y : Addr) (u : Addr) (ku : ClassId) (ds : List Int32) (h0 : Heap) (n0 : Nat) (Z0 : n0 ≤ h0.size) (F0 : Str Z h0 y u ku ds) (F1 : Old Z n0 h0) (G : Cmp Z) :
    Jvm.Y9.Con l Z (⟨"java/lang/String", "length", "()I"⟩ : MethodName) jdk_42_method_54_code 1 (some .int) ({ frames := 1, cells := 0, slots := 0, locals := 13 } : Room) n0 #[(.ref y)] h0 (fun v h => v = some (.int (Int32.ofNat ds.length)) ∧ h0 = h) := by
  refine Jvm.Y9.Con.intro (plainFor_of_name pn_java_lang_String) ?_
  intro p e s m below meth c s₁ hx hby hml hret hnm hown hlk hZ P0
  refine Jvm.Y9.Aim.cast (by first | (simp [entryFrame, mkF, argsToLocals, Value.category]; done) | rfl : entryFrame m #[(.ref y)] 1 = (mkF m 0 #[.val (.ref y)] [])) ?_
  have H := P0.here
  refine Jvm.Y9.Aim.of (T' := s₁) (g' := (mkF m 1 #[.val (.ref y)] [(.ref y)])) (fun tgt kt => ?_) ?_
  · refine XS.aloadN H hx rfl (hb hby ee_0) rfl rfl ?_
    exact kt
  refine Jvm.Y9.Aim.getF P0 hx hZ hown (host := "") (Or.inl (wI hw 29 rfl)) Via.refl F0.2.1 (hb hby ee_1) ?_
  intro T5 P6
  refine Jvm.Y9.Aim.alen P6 hx hZ F0.2.2.2.1 (hb hby ee_4) ?_
  have H := P6.here
  refine Jvm.Y9.Aim.of (T' := T5) (g' := (mkF m 6 #[.val (.ref y)] [(.ref y), (.int (Int32.ofNat ds.length))])) (fun tgt kt => ?_) ?_
  · refine XS.aloadN H hx rfl (hb hby ee_5) rfl rfl ?_
    exact kt
  refine Jvm.Y9.Aim.callV (argsL := []) (rest := [(.int (Int32.ofNat ds.length))]) P6 hx hZ hml hown (wI hw 84 rfl) (wI hw 85 rfl) (notFace_of_selects (args := #[]) (mvT hZ (wI hw 87 rfl))) (wI hw 87 rfl) (wI hw 86 rfl) (by decide) F0.1 (Jvm.Y9.Con.back (W := 1) (own_coder l Z a0 hw y h0 n0 Z0 F0.2.2.1 F1 G) hZ (wI hw 88 rfl) (wI hw 4 rfl) (by decide) (by decide)) rfl pd__28_29B rfl (Nat.le_of_eq rfl) (hb hby ee_6) (by decide) (by decide) ?_
  intro T7 h8 v11 P9 hQ10
  obtain ⟨rfl, rfl⟩ := hQ10
  have H := P9.here
  refine Jvm.Y9.Aim.of (T' := T7) (g' := (mkF m 10 #[.val (.ref y)] [(.int ((Int32.ofNat ds.length) >>> ((0 : Int32) &&& 31)))])) (fun tgt kt => ?_) ?_
  · refine XS.ishr H hx rfl (hb hby ee_9) rfl ?_
    exact kt
  rw [show ((Int32.ofNat ds.length) >>> ((0 : Int32) &&& 31)) = (Int32.ofNat ds.length) from own_shr0 _]
  show Jvm.Y9.Aim p e below s _ _ n0 _ T7 (mkF m 10 #[.val (.ref y)] [(.int (Int32.ofNat ds.length))])
  exact Jvm.Y9.Aim.retI P9 hx hlk hret (hb hby ee_10) (by decide) (by decide) ⟨rfl, rfl⟩
theorem es_0 : decode jdk_68_method_2_code 0 = .ok (.aload_n 0, 1) := by decide +kernel
theorem es_1 : decode jdk_68_method_2_code 1 = .ok (.invokespecial 3, 3) := by decide +kernel
theorem es_4 : decode jdk_68_method_2_code 4 = .ok (.getstatic 18, 3) := by decide +kernel
theorem es_7 : decode jdk_68_method_2_code 7 = .ok (.ifCond .eq 18, 3) := by decide +kernel
theorem es_10 : decode jdk_68_method_2_code 10 = .ok (.aload_n 0, 1) := by decide +kernel
theorem es_11 : decode jdk_68_method_2_code 11 = .ok (.iload_n 1, 1) := by decide +kernel
theorem es_12 : decode jdk_68_method_2_code 12 = .ok (.newarray .byte, 2) := by decide +kernel
theorem es_14 : decode jdk_68_method_2_code 14 = .ok (.putfield 15, 3) := by decide +kernel
theorem es_17 : decode jdk_68_method_2_code 17 = .ok (.aload_n 0, 1) := by decide +kernel
theorem es_18 : decode jdk_68_method_2_code 18 = .ok (.iconst 0, 1) := by decide +kernel
theorem es_19 : decode jdk_68_method_2_code 19 = .ok (.putfield 22, 3) := by decide +kernel
theorem es_22 : decode jdk_68_method_2_code 22 = .ok (.goto 16, 3) := by decide +kernel
theorem es_38 : decode jdk_68_method_2_code 38 = .ok (.return_, 1) := by decide +kernel
theorem pn_java_lang_AbstractStringBuilder : plainName "java/lang/AbstractStringBuilder" = true := by first | (simp [plainName, overriddenIn]; done) | decide +kernel
theorem own_asb (l : Launch) (Z : State) (a0 : Array Value) (hw : ∀ d ∈ tables_1, d.before a0 Z = true) (x : Addr) (v0 : Value) (c0 : Value) (h0 : Heap) (n0 : Nat) (Z0 : n0 ≤ h0.size) (g_x : n0 ≤ x) (F0 : Exa Z h0 x "java/lang/StringBuilder") (F1 : Fld Z h0 x "java/lang/AbstractStringBuilder" "value" "[B" v0) (F2 : Fld Z h0 x "java/lang/AbstractStringBuilder" "coder" "B" c0) (F3 : Fld Z h0 x "java/lang/AbstractStringBuilder" "count" "I" (.int 0)) (F4 : Old Z n0 h0) (G : Cmp Z) :
    Jvm.Y9.Con l Z (⟨"java/lang/AbstractStringBuilder", "<init>", "(I)V"⟩ : MethodName) jdk_68_method_2_code 2 none ({ frames := 1, cells := 1, slots := 16, locals := 12 } : Room) n0 #[(.ref x), (.int 16)] h0 (fun v h => ∃ t : Addr, ∃ kb : ClassId, v = none ∧ Keep h0 h [x] ∧ h0.size ≤ t ∧ Bld Z h x t kb ([] : List Int32) 16) := by
  refine Jvm.Y9.Con.intro (plainFor_of_name pn_java_lang_AbstractStringBuilder) ?_
  intro p e s m below meth c s₁ hx hby hml hret hnm hown hlk hZ P0
  refine Jvm.Y9.Aim.cast (by first | (simp [entryFrame, mkF, argsToLocals, Value.category]; done) | rfl : entryFrame m #[(.ref x), (.int 16)] 2 = (mkF m 0 #[.val (.ref x), .val (.int 16)] [])) ?_
  obtain ⟨zc, hzc, Szc⟩ := id G
  have H := P0.here
  refine Jvm.Y9.Aim.of (T' := s₁) (g' := (mkF m 1 #[.val (.ref x), .val (.int 16)] [(.ref x)])) (fun tgt kt => ?_) ?_
  · refine XS.aloadN H hx rfl (hb hby es_0) rfl rfl ?_
    exact kt
  refine Jvm.Y9.Aim.initO P0 hx hZ hml hown (wI hw 62 rfl) (wI hw 13 rfl) (wI hw 14 rfl) rfl (hb hby es_1) (by decide) (Nat.le_of_ble_eq_true rfl) ?_
  intro T14 P15
  refine Jvm.Y9.Aim.getS P15 hx hZ hown (wI hw 63 rfl) Via.refl (Szc.ext F4.2) (hb hby es_4) ?_
  intro T16 P17
  have H := P17.here
  refine Jvm.Y9.Aim.of (T' := T16) (g' := (mkF m 12 #[.val (.ref x), .val (.int 16)] [(.int 16), (.ref x)])) (fun tgt kt => ?_) ?_
  · refine XS.ifNo H hx rfl (hb hby es_7) rfl ((if0 _ _).trans (feq hzc).1) ?_
    refine XS.aloadN H hx rfl (hb hby es_10) rfl rfl ?_
    refine XS.iloadN H hx rfl (hb hby es_11) rfl ?_
    exact kt
  refine Jvm.Y9.Aim.newP (z := (16 : Int32)) P17 hx hZ (wI hw 20 rfl) (hb hby es_12) (by decide) (cap := 16) (by decide) (by decide) (by decide) (by decide) ?_
  intro T18 h19 k20 b21 g25 P22 E23 V24
  have K27 : Keep h0 h19 [] := (Keep.refl _ _).ext E23
  have K28 : Keep h0 h19 [x] := (Keep.refl h0 [x]).trans K27 all0
  have V29 : Arv Z h19 b21 k20 .byte (16 : Int32) [(.int 0), (.int 0), (.int 0), (.int 0), (.int 0), (.int 0), (.int 0), (.int 0), (.int 0), (.int 0), (.int 0), (.int 0), (.int 0), (.int 0), (.int 0), (.int 0)] (.int 0) := V24.pad (pad_rep [] (.int 0) 16)
  have F30 : Exa Z h19 x "java/lang/StringBuilder" := (F0.keep K27)
  have F31 : Fld Z h19 x "java/lang/AbstractStringBuilder" "value" "[B" v0 := (F1.keep K27 nin0)
  refine Jvm.Y9.Aim.putF (v := (.ref b21)) P22 hx hZ hown (host := "") (Or.inl (wI hw 64 rfl)) Via.refl F31 F30 (Or.inl (wI hw 65 rfl)) (wI hw 51 rfl) (ty := (.array .byte)) (by decide) rfl rfl (hb hby es_14) g_x ?_
  intro T32 h33 P34 W35
  have K36 := Keep.of_wr W35
  have F37 : Fld Z h33 x "java/lang/AbstractStringBuilder" "value" "[B" (.ref b21) := F31.same W35
  have K38 : Keep h0 h33 [x] := K28.trans K36 (allS (Or.inl (List.mem_of_getElem? (i := 0) rfl)) all0)
  have H := P34.here
  refine Jvm.Y9.Aim.of (T' := T32) (g' := (mkF m 19 #[.val (.ref x), .val (.int 16)] [(.int 0), (.ref x)])) (fun tgt kt => ?_) ?_
  · refine XS.aloadN H hx rfl (hb hby es_17) rfl rfl ?_
    refine XS.iconst H hx rfl (hb hby es_18) ?_
    exact kt
  have F39 : Exa Z h33 x "java/lang/StringBuilder" := (F30.keep K36)
  have F40 : Fld Z h33 x "java/lang/AbstractStringBuilder" "coder" "B" c0 := ((F2.keep K27 nin0).other W35 (Or.inr (slot_ne (Or.inl (wI hw 67 rfl)) (Or.inl (wI hw 65 rfl)) (by decide) (t := .byte) (t' := (.array .byte)) (by decide) (by decide))))
  refine Jvm.Y9.Aim.putF (v := (.int 0)) P34 hx hZ hown (host := "") (Or.inl (wI hw 66 rfl)) Via.refl F40 F39 (Or.inl (wI hw 67 rfl)) (wI hw 51 rfl) (ty := .byte) (by decide) rfl rfl (hb hby es_19) g_x ?_
  intro T41 h42 P43 W44
  have K45 := Keep.of_wr W44
  have F46 : Fld Z h42 x "java/lang/AbstractStringBuilder" "coder" "B" (.int 0) := F40.same W44
  have K47 : Keep h0 h42 [x] := K38.trans K45 (allS (Or.inl (List.mem_of_getElem? (i := 0) rfl)) all0)
  have H := P43.here
  refine Jvm.Y9.Aim.of (T' := T41) (g' := (mkF m 38 #[.val (.ref x), .val (.int 16)] [])) (fun tgt kt => ?_) ?_
  · refine XS.goto H hx rfl (pc0 := 22) (pc' := 38) rfl (hb hby es_22) (by decide) (by decide) ?_
    exact kt
  have F48 : Exa Z h42 x "java/lang/StringBuilder" := (F39.keep K45)
  have F49 : Fld Z h42 x "java/lang/AbstractStringBuilder" "value" "[B" (.ref b21) := (F37.other W44 (Or.inr (slot_ne (Or.inl (wI hw 65 rfl)) (Or.inl (wI hw 67 rfl)) (by decide) (t := (.array .byte)) (t' := .byte) (by decide) (by decide))))
  have F50 : Fld Z h42 x "java/lang/AbstractStringBuilder" "count" "I" (.int 0) := (((F3.keep K27 nin0).other W35 (Or.inr (slot_ne (Or.inl (wI hw 90 rfl)) (Or.inl (wI hw 65 rfl)) (by decide) (t := .int) (t' := (.array .byte)) (by decide) (by decide)))).other W44 (Or.inr (slot_ne (Or.inl (wI hw 90 rfl)) (Or.inl (wI hw 67 rfl)) (by decide) (t := .int) (t' := .byte) (by decide) (by decide))))
  have F51 : Arv Z h42 b21 k20 .byte (16 : Int32) [(.int 0), (.int 0), (.int 0), (.int 0), (.int 0), (.int 0), (.int 0), (.int 0), (.int 0), (.int 0), (.int 0), (.int 0), (.int 0), (.int 0), (.int 0), (.int 0)] (.int 0) := ((V29.keep K36 (ninS (Ne.symm (nL (lL F0.lt (Nat.le_of_eq g25.symm)))) nin0)).keep K45 (ninS (Ne.symm (nL (lL F0.lt (Nat.le_of_eq g25.symm)))) nin0))
  exact Jvm.Y9.Aim.retV P43 hx hlk hret (hb hby es_38) (by decide) (by decide) ⟨b21, k20, rfl, K47, (lT (Nat.le_refl _) (Nat.le_of_eq g25.symm)), ⟨F48, F49, F46, F50, F51⟩⟩
theorem em_0 : decode jdk_67_method_1_code 0 = .ok (.aload_n 0, 1) := by decide +kernel
theorem em_1 : decode jdk_67_method_1_code 1 = .ok (.bipush 16, 2) := by decide +kernel
theorem em_3 : decode jdk_67_method_1_code 3 = .ok (.invokespecial 1, 3) := by decide +kernel
theorem pd__28I_29V : parseMethodDescriptor "(I)V" = some ⟨[.int], none⟩ := by decide +kernel
theorem em_6 : decode jdk_67_method_1_code 6 = .ok (.return_, 1) := by decide +kernel
theorem pn_java_lang_StringBuilder : plainName "java/lang/StringBuilder" = true := by first | (simp [plainName, overriddenIn]; done) | decide +kernel
theorem own_sbi (l : Launch) (Z : State) (a0 : Array Value) (hw : ∀ d ∈ tables_1, d.before a0 Z = true) (x : Addr) (v0 : Value) (c0 : Value) (h0 : Heap) (n0 : Nat) (Z0 : n0 ≤ h0.size) (g_x : n0 ≤ x) (F0 : Exa Z h0 x "java/lang/StringBuilder") (F1 : Fld Z h0 x "java/lang/AbstractStringBuilder" "value" "[B" v0) (F2 : Fld Z h0 x "java/lang/AbstractStringBuilder" "coder" "B" c0) (F3 : Fld Z h0 x "java/lang/AbstractStringBuilder" "count" "I" (.int 0)) (F4 : Old Z n0 h0) (G : Cmp Z) :
    Jvm.Y9.Con l Z (⟨"java/lang/StringBuilder", "<init>", "()V"⟩ : MethodName) jdk_67_method_1_code 1 none ({ frames := 2, cells := 1, slots := 16, locals := 25 } : Room) n0 #[(.ref x)] h0 (fun v h => ∃ t : Addr, ∃ kb : ClassId, v = none ∧ Keep h0 h [x] ∧ h0.size ≤ t ∧ Bld Z h x t kb ([] : List Int32) 16) := by
  refine Jvm.Y9.Con.intro (plainFor_of_name pn_java_lang_StringBuilder) ?_
  intro p e s m below meth c s₁ hx hby hml hret hnm hown hlk hZ P0
  refine Jvm.Y9.Aim.cast (by first | (simp [entryFrame, mkF, argsToLocals, Value.category]; done) | rfl : entryFrame m #[(.ref x)] 1 = (mkF m 0 #[.val (.ref x)] [])) ?_
  have H := P0.here
  refine Jvm.Y9.Aim.of (T' := s₁) (g' := (mkF m 3 #[.val (.ref x)] [(.int 16), (.ref x)])) (fun tgt kt => ?_) ?_
  · refine XS.aloadN H hx rfl (hb hby em_0) rfl rfl ?_
    refine XS.bipush H hx rfl (hb hby em_1) ?_
    exact kt
  refine Jvm.Y9.Aim.callC (argsL := [(.int 16)]) (rest := []) P0 hx hZ hml hown rfl (wI hw 56 rfl) (wI hw 57 rfl) (wI hw 61 rfl) (by decide) (Jvm.Y9.Con.back (W := 0) (own_asb l Z a0 hw x v0 c0 h0 n0 Z0 g_x F0 F1 F2 F3 F4 G) hZ (wI hw 61 rfl) (wI hw 60 rfl) (by decide) (by decide)) rfl pd__28I_29V rfl (Nat.le_of_eq rfl) (hb hby em_3) (by decide) (by decide) ?_
  intro T52 h53 v56 P54 hQ55
  obtain ⟨t_59, kb_60, rfl, K61, g62, F63⟩ := hQ55
  have K64 : Keep h0 h53 [x] := (Keep.refl h0 [x]).trans K61 (allS (Or.inl (List.mem_of_getElem? (i := 0) rfl)) all0)
  exact Jvm.Y9.Aim.retV P54 hx hlk hret (hb hby em_6) (by decide) (by decide) ⟨t_59, kb_60, rfl, K64, (lT (Nat.le_refl _) g62), F63⟩
theorem e6_0 : decode jdk_42_method_147_code 0 = .ok (.aload_n 0, 1) := by decide +kernel
theorem e6_1 : decode jdk_42_method_147_code 1 = .ok (.invokevirtual 335, 3) := by decide +kernel
theorem e6_4 : decode jdk_42_method_147_code 4 = .ok (.iload_n 3, 1) := by decide +kernel
theorem e6_5 : decode jdk_42_method_147_code 5 = .ok (.if_icmp .ne 23, 3) := by decide +kernel
theorem e6_8 : decode jdk_42_method_147_code 8 = .ok (.aload_n 0, 1) := by decide +kernel
theorem e6_9 : decode jdk_42_method_147_code 9 = .ok (.getfield 9, 3) := by decide +kernel
theorem e6_12 : decode jdk_42_method_147_code 12 = .ok (.iconst 0, 1) := by decide +kernel
theorem e6_13 : decode jdk_42_method_147_code 13 = .ok (.aload_n 1, 1) := by decide +kernel
theorem e6_14 : decode jdk_42_method_147_code 14 = .ok (.iload_n 2, 1) := by decide +kernel
theorem e6_15 : decode jdk_42_method_147_code 15 = .ok (.iload_n 3, 1) := by decide +kernel
theorem e6_16 : decode jdk_42_method_147_code 16 = .ok (.ishl, 1) := by decide +kernel
theorem e6_17 : decode jdk_42_method_147_code 17 = .ok (.aload_n 0, 1) := by decide +kernel
theorem e6_18 : decode jdk_42_method_147_code 18 = .ok (.getfield 9, 3) := by decide +kernel
theorem e6_21 : decode jdk_42_method_147_code 21 = .ok (.arraylength, 1) := by decide +kernel
theorem e6_22 : decode jdk_42_method_147_code 22 = .ok (.invokestatic 212, 3) := by decide +kernel
theorem e6_25 : decode jdk_42_method_147_code 25 = .ok (.goto 18, 3) := by decide +kernel
theorem e6_43 : decode jdk_42_method_147_code 43 = .ok (.return_, 1) := by decide +kernel
theorem own_gB (l : Launch) (Z : State) (a0 : Array Value) (hw : ∀ d ∈ tables_1, d.before a0 Z = true) (t : Addr) (kb : ClassId) (cs : List Int32) (cap : Nat) (y : Addr) (u : Addr) (ku : ClassId) (ds : List Int32) (h0 : Heap) (n0 : Nat) (Z0 : n0 ≤ h0.size) (g_t : n0 ≤ t) (F0 : Arv Z h0 t kb .byte (Int32.ofNat cap) (fill cs cap) (.int 0)) (F1 : Str Z h0 y u ku ds) (F2 : Old Z n0 h0) (hl : cs.length + ds.length ≤ cap) (hc : cap ≤ 100) (nut : u ≠ t) (nyt : y ≠ t) (G : Cmp Z) :
    Jvm.Y9.Con l Z (⟨"java/lang/String", "getBytes", "([BIB)V"⟩ : MethodName) jdk_42_method_147_code 4 none ({ frames := 1, cells := 0, slots := 0, locals := 18 } : Room) n0 #[(.ref y), (.ref t), (.int (Int32.ofNat cs.length)), (.int 0)] h0 (fun v h => v = none ∧ Keep h0 h [t] ∧ Arv Z h t kb .byte (Int32.ofNat cap) (fill (cs ++ ds) cap) (.int 0)) := by
  refine Jvm.Y9.Con.intro (plainFor_of_name pn_java_lang_String) ?_
  intro p e s m below meth c s₁ hx hby hml hret hnm hown hlk hZ P0
  refine Jvm.Y9.Aim.cast (by first | (simp [entryFrame, mkF, argsToLocals, Value.category]; done) | rfl : entryFrame m #[(.ref y), (.ref t), (.int (Int32.ofNat cs.length)), (.int 0)] 4 = (mkF m 0 #[.val (.ref y), .val (.ref t), .val (.int (Int32.ofNat cs.length)), .val (.int 0)] [])) ?_
  have H := P0.here
  refine Jvm.Y9.Aim.of (T' := s₁) (g' := (mkF m 1 #[.val (.ref y), .val (.ref t), .val (.int (Int32.ofNat cs.length)), .val (.int 0)] [(.ref y)])) (fun tgt kt => ?_) ?_
  · refine XS.aloadN H hx rfl (hb hby e6_0) rfl rfl ?_
    exact kt
  refine Jvm.Y9.Aim.callV (argsL := []) (rest := []) P0 hx hZ hml hown (wI hw 84 rfl) (wI hw 85 rfl) (notFace_of_selects (args := #[]) (mvT hZ (wI hw 87 rfl))) (wI hw 87 rfl) (wI hw 86 rfl) (by decide) F1.1 (Jvm.Y9.Con.back (W := 0) (own_coder l Z a0 hw y h0 n0 Z0 F1.2.2.1 F2 G) hZ (wI hw 88 rfl) (wI hw 4 rfl) (by decide) (by decide)) rfl pd__28_29B rfl (Nat.le_of_eq rfl) (hb hby e6_1) (by decide) (by decide) ?_
  intro T65 h66 v69 P67 hQ68
  obtain ⟨rfl, rfl⟩ := hQ68
  have H := P67.here
  refine Jvm.Y9.Aim.of (T' := T65) (g' := (mkF m 9 #[.val (.ref y), .val (.ref t), .val (.int (Int32.ofNat cs.length)), .val (.int 0)] [(.ref y)])) (fun tgt kt => ?_) ?_
  · refine XS.iloadN H hx rfl (hb hby e6_4) rfl ?_
    refine XS.icmpNo H hx rfl (hb hby e6_5) rfl (teq (by decide)).2 ?_
    refine XS.aloadN H hx rfl (hb hby e6_8) rfl rfl ?_
    exact kt
  refine Jvm.Y9.Aim.getF P67 hx hZ hown (host := "") (Or.inl (wI hw 29 rfl)) Via.refl F1.2.1 (hb hby e6_9) ?_
  intro T72 P73
  have H := P73.here
  refine Jvm.Y9.Aim.of (T' := T72) (g' := (mkF m 17 #[.val (.ref y), .val (.ref t), .val (.int (Int32.ofNat cs.length)), .val (.int 0)] [(.int ((Int32.ofNat cs.length) <<< ((0 : Int32) &&& 31))), (.ref t), (.int 0), (.ref u)])) (fun tgt kt => ?_) ?_
  · refine XS.iconst H hx rfl (hb hby e6_12) ?_
    refine XS.aloadN H hx rfl (hb hby e6_13) rfl rfl ?_
    refine XS.iloadN H hx rfl (hb hby e6_14) rfl ?_
    refine XS.iloadN H hx rfl (hb hby e6_15) rfl ?_
    refine XS.ishl H hx rfl (hb hby e6_16) rfl ?_
    exact kt
  rw [show ((Int32.ofNat cs.length) <<< ((0 : Int32) &&& 31)) = (Int32.ofNat cs.length) from own_shl0 _]
  show Jvm.Y9.Aim p e below s _ _ n0 _ T72 (mkF m 17 #[.val (.ref y), .val (.ref t), .val (.int (Int32.ofNat cs.length)), .val (.int 0)] [(.int (Int32.ofNat cs.length)), (.ref t), (.int 0), (.ref u)])
  have H := P73.here
  refine Jvm.Y9.Aim.of (T' := T72) (g' := (mkF m 18 #[.val (.ref y), .val (.ref t), .val (.int (Int32.ofNat cs.length)), .val (.int 0)] [(.ref y), (.int (Int32.ofNat cs.length)), (.ref t), (.int 0), (.ref u)])) (fun tgt kt => ?_) ?_
  · refine XS.aloadN H hx rfl (hb hby e6_17) rfl rfl ?_
    exact kt
  refine Jvm.Y9.Aim.getF P73 hx hZ hown (host := "") (Or.inl (wI hw 29 rfl)) Via.refl F1.2.1 (hb hby e6_18) ?_
  intro T74 P75
  refine Jvm.Y9.Aim.alen P75 hx hZ F1.2.2.2.1 (hb hby e6_21) ?_
  refine Jvm.Y9.Aim.cpA (rest := []) P75 hx hZ hml hown (wI hw 112 rfl) (wI hw 115 rfl) (wI hw 113 rfl) (wI hw 114 rfl) F1.2.2.2.1 F0 (Or.inl ⟨rfl, rfl⟩) (by decide) (own_clamp (n := cs.length) (by omega)).2.1 (own_clamp (n := ds.length) (by omega)).2.1 (by rw [show (0 : Int32).toNatClampNeg = 0 from by decide]; omega) (by rw [(own_clamp (n := cs.length) (by omega)).1, (own_clamp (n := ds.length) (by omega)).1, (own_clamp (n := cap) (by omega)).1]; exact hl) rfl (by rw [(own_clamp (n := cs.length) (by omega)).1, (own_clamp (n := ds.length) (by omega)).1, fill_length (by omega)]; exact hl) g_t rfl (hb hby e6_22) (by decide) (by decide) ?_
  intro T76 h77 P78 K79 V80
  have V81 : Arv Z h77 t kb .byte (Int32.ofNat cap) (fill (cs ++ ds) cap) (.int 0) := Jvm.Y9.arv_eq V80 (fill_copy hl (by omega))
  have K82 : Keep h0 h77 [t] := (Keep.refl h0 [t]).trans K79 (allS (Or.inl (List.mem_of_getElem? (i := 0) rfl)) all0)
  have H := P78.here
  refine Jvm.Y9.Aim.of (T' := T76) (g' := (mkF m 43 #[.val (.ref y), .val (.ref t), .val (.int (Int32.ofNat cs.length)), .val (.int 0)] [])) (fun tgt kt => ?_) ?_
  · refine XS.goto H hx rfl (pc0 := 25) (pc' := 43) rfl (hb hby e6_25) (by decide) (by decide) ?_
    exact kt
  exact Jvm.Y9.Aim.retV P78 hx hlk hret (hb hby e6_43) (by decide) (by decide) ⟨rfl, K82, V81⟩
theorem ey_0 : decode jdk_68_method_71_code 0 = .ok (.getstatic 18, 3) := by decide +kernel
theorem ey_3 : decode jdk_68_method_71_code 3 = .ok (.ifCond .eq 18, 3) := by decide +kernel
theorem ey_6 : decode jdk_68_method_71_code 6 = .ok (.aload_n 0, 1) := by decide +kernel
theorem ey_7 : decode jdk_68_method_71_code 7 = .ok (.getfield 22, 3) := by decide +kernel
theorem ey_10 : decode jdk_68_method_71_code 10 = .ok (.aload_n 1, 1) := by decide +kernel
theorem ey_11 : decode jdk_68_method_71_code 11 = .ok (.invokevirtual 40, 3) := by decide +kernel
theorem ey_14 : decode jdk_68_method_71_code 14 = .ok (.if_icmp .eq 7, 3) := by decide +kernel
theorem ey_21 : decode jdk_68_method_71_code 21 = .ok (.return_, 1) := by decide +kernel
theorem own_infl (l : Launch) (Z : State) (a0 : Array Value) (hw : ∀ d ∈ tables_1, d.before a0 Z = true) (x : Addr) (y : Addr) (h0 : Heap) (n0 : Nat) (Z0 : n0 ≤ h0.size) (F0 : Exa Z h0 x "java/lang/StringBuilder") (F1 : Fld Z h0 x "java/lang/AbstractStringBuilder" "coder" "B" (.int 0)) (F2 : Exa Z h0 y "java/lang/String") (F3 : Fld Z h0 y "java/lang/String" "coder" "B" (.int 0)) (F4 : Old Z n0 h0) (G : Cmp Z) :
    Jvm.Y9.Con l Z (⟨"java/lang/AbstractStringBuilder", "inflateIfNeededFor", "(Ljava/lang/String;)V"⟩ : MethodName) jdk_68_method_71_code 2 none ({ frames := 1, cells := 0, slots := 0, locals := 13 } : Room) n0 #[(.ref x), (.ref y)] h0 (fun v h => v = none ∧ h0 = h) := by
  refine Jvm.Y9.Con.intro (plainFor_of_name pn_java_lang_AbstractStringBuilder) ?_
  intro p e s m below meth c s₁ hx hby hml hret hnm hown hlk hZ P0
  refine Jvm.Y9.Aim.cast (by first | (simp [entryFrame, mkF, argsToLocals, Value.category]; done) | rfl : entryFrame m #[(.ref x), (.ref y)] 2 = (mkF m 0 #[.val (.ref x), .val (.ref y)] [])) ?_
  obtain ⟨zc, hzc, Szc⟩ := id G
  refine Jvm.Y9.Aim.getS P0 hx hZ hown (wI hw 63 rfl) Via.refl (Szc.ext F4.2) (hb hby ey_0) ?_
  intro T83 P84
  have H := P84.here
  refine Jvm.Y9.Aim.of (T' := T83) (g' := (mkF m 7 #[.val (.ref x), .val (.ref y)] [(.ref x)])) (fun tgt kt => ?_) ?_
  · refine XS.ifNo H hx rfl (hb hby ey_3) rfl ((if0 _ _).trans (feq hzc).1) ?_
    refine XS.aloadN H hx rfl (hb hby ey_6) rfl rfl ?_
    exact kt
  refine Jvm.Y9.Aim.getF P84 hx hZ hown (host := "") (Or.inl (wI hw 66 rfl)) Via.refl F1 (hb hby ey_7) ?_
  intro T85 P86
  have H := P86.here
  refine Jvm.Y9.Aim.of (T' := T85) (g' := (mkF m 11 #[.val (.ref x), .val (.ref y)] [(.ref y), (.int 0)])) (fun tgt kt => ?_) ?_
  · refine XS.aloadN H hx rfl (hb hby ey_10) rfl rfl ?_
    exact kt
  refine Jvm.Y9.Aim.callV (argsL := []) (rest := [(.int 0)]) P86 hx hZ hml hown (wI hw 106 rfl) (wI hw 85 rfl) (notFace_of_selects (args := #[]) (mvT hZ (wI hw 87 rfl))) (wI hw 87 rfl) (wI hw 86 rfl) (by decide) F2 (Jvm.Y9.Con.back (W := 1) (own_coder l Z a0 hw y h0 n0 Z0 F3 F4 G) hZ (wI hw 88 rfl) (wI hw 4 rfl) (by decide) (by decide)) rfl pd__28_29B rfl (Nat.le_of_eq rfl) (hb hby ey_11) (by decide) (by decide) ?_
  intro T87 h88 v91 P89 hQ90
  obtain ⟨rfl, rfl⟩ := hQ90
  have H := P89.here
  refine Jvm.Y9.Aim.of (T' := T87) (g' := (mkF m 21 #[.val (.ref x), .val (.ref y)] [])) (fun tgt kt => ?_) ?_
  · refine XS.icmpYes H hx rfl (pc0 := 14) (pc' := 21) rfl (hb hby ey_14) rfl (teq (by decide)).1 (by decide) (by decide) ?_
    exact kt
  exact Jvm.Y9.Aim.retV P89 hx hlk hret (hb hby ey_21) (by decide) (by decide) ⟨rfl, rfl⟩
theorem e10_0 : decode jdk_68_method_9_code 0 = .ok (.aload_n 0, 1) := by decide +kernel
theorem e10_1 : decode jdk_68_method_9_code 1 = .ok (.getfield 15, 3) := by decide +kernel
theorem e10_4 : decode jdk_68_method_9_code 4 = .ok (.arraylength, 1) := by decide +kernel
theorem e10_5 : decode jdk_68_method_9_code 5 = .ok (.aload_n 0, 1) := by decide +kernel
theorem e10_6 : decode jdk_68_method_9_code 6 = .ok (.getfield 22, 3) := by decide +kernel
theorem e10_9 : decode jdk_68_method_9_code 9 = .ok (.ishr, 1) := by decide +kernel
theorem e10_10 : decode jdk_68_method_9_code 10 = .ok (.istore_n 2, 1) := by decide +kernel
theorem e10_11 : decode jdk_68_method_9_code 11 = .ok (.iload_n 1, 1) := by decide +kernel
theorem e10_12 : decode jdk_68_method_9_code 12 = .ok (.iload_n 2, 1) := by decide +kernel
theorem e10_13 : decode jdk_68_method_9_code 13 = .ok (.isub, 1) := by decide +kernel
theorem e10_14 : decode jdk_68_method_9_code 14 = .ok (.ifCond .le 24, 3) := by decide +kernel
theorem e10_38 : decode jdk_68_method_9_code 38 = .ok (.return_, 1) := by decide +kernel
theorem own_ens (l : Launch) (Z : State) (a0 : Array Value) (hw : ∀ d ∈ tables_1, d.before a0 Z = true) (x : Addr) (t : Addr) (kb : ClassId) (cs : List Int32) (cap : Nat) (mm : Nat) (h0 : Heap) (n0 : Nat) (Z0 : n0 ≤ h0.size) (F0 : Bld Z h0 x t kb cs cap) (hm : mm ≤ cap) (hc : cap ≤ 100) :
    Jvm.Y9.Con l Z (⟨"java/lang/AbstractStringBuilder", "ensureCapacityInternal", "(I)V"⟩ : MethodName) jdk_68_method_9_code 3 none ({ frames := 0, cells := 0, slots := 0, locals := 0 } : Room) n0 #[(.ref x), (.int (Int32.ofNat mm))] h0 (fun v h => v = none ∧ h0 = h) := by
  refine Jvm.Y9.Con.intro (plainFor_of_name pn_java_lang_AbstractStringBuilder) ?_
  intro p e s m below meth c s₁ hx hby hml hret hnm hown hlk hZ P0
  refine Jvm.Y9.Aim.cast (by first | (simp [entryFrame, mkF, argsToLocals, Value.category]; done) | rfl : entryFrame m #[(.ref x), (.int (Int32.ofNat mm))] 3 = (mkF m 0 #[.val (.ref x), .val (.int (Int32.ofNat mm)), .unset] [])) ?_
  have H := P0.here
  refine Jvm.Y9.Aim.of (T' := s₁) (g' := (mkF m 1 #[.val (.ref x), .val (.int (Int32.ofNat mm)), .unset] [(.ref x)])) (fun tgt kt => ?_) ?_
  · refine XS.aloadN H hx rfl (hb hby e10_0) rfl rfl ?_
    exact kt
  refine Jvm.Y9.Aim.getF P0 hx hZ hown (host := "") (Or.inl (wI hw 64 rfl)) Via.refl F0.2.1 (hb hby e10_1) ?_
  intro T94 P95
  refine Jvm.Y9.Aim.alen P95 hx hZ F0.2.2.2.2 (hb hby e10_4) ?_
  have H := P95.here
  refine Jvm.Y9.Aim.of (T' := T94) (g' := (mkF m 6 #[.val (.ref x), .val (.int (Int32.ofNat mm)), .unset] [(.ref x), (.int (Int32.ofNat cap))])) (fun tgt kt => ?_) ?_
  · refine XS.aloadN H hx rfl (hb hby e10_5) rfl rfl ?_
    exact kt
  refine Jvm.Y9.Aim.getF P95 hx hZ hown (host := "") (Or.inl (wI hw 66 rfl)) Via.refl F0.2.2.1 (hb hby e10_6) ?_
  intro T96 P97
  have H := P97.here
  refine Jvm.Y9.Aim.of (T' := T96) (g' := (mkF m 10 #[.val (.ref x), .val (.int (Int32.ofNat mm)), .unset] [(.int ((Int32.ofNat cap) >>> ((0 : Int32) &&& 31)))])) (fun tgt kt => ?_) ?_
  · refine XS.ishr H hx rfl (hb hby e10_9) rfl ?_
    exact kt
  rw [show ((Int32.ofNat cap) >>> ((0 : Int32) &&& 31)) = (Int32.ofNat cap) from own_shr0 _]
  show Jvm.Y9.Aim p e below s _ _ n0 _ T96 (mkF m 10 #[.val (.ref x), .val (.int (Int32.ofNat mm)), .unset] [(.int (Int32.ofNat cap))])
  have H := P97.here
  refine Jvm.Y9.Aim.of (T' := T96) (g' := (mkF m 38 #[.val (.ref x), .val (.int (Int32.ofNat mm)), .val (.int (Int32.ofNat cap))] [])) (fun tgt kt => ?_) ?_
  · refine XS.istoreN H hx rfl (hb hby e10_10) rfl (l' := #[.val (.ref x), .val (.int (Int32.ofNat mm)), .val (.int (Int32.ofNat cap))]) rfl ?_
    refine XS.iloadN H hx rfl (hb hby e10_11) rfl ?_
    refine XS.iloadN H hx rfl (hb hby e10_12) rfl ?_
    refine XS.isub H hx rfl (hb hby e10_13) rfl ?_
    refine XS.ifYes H hx rfl (pc0 := 14) (pc' := 38) rfl (hb hby e10_14) rfl ((if0 _ _).trans (flt (own_fits hm (by omega))).2.2.2) (by decide) (by decide) ?_
    exact kt
  exact Jvm.Y9.Aim.retV P97 hx hlk hret (hb hby e10_38) (by decide) (by decide) ⟨rfl, rfl⟩
theorem ez_0 : decode jdk_68_method_73_code 0 = .ok (.aload_n 0, 1) := by decide +kernel
theorem ez_1 : decode jdk_68_method_73_code 1 = .ok (.aload_n 2, 1) := by decide +kernel
theorem ez_2 : decode jdk_68_method_73_code 2 = .ok (.invokevirtual 397, 3) := by decide +kernel
theorem pd__28Ljava_2flang_2fString_3b_29V : parseMethodDescriptor "(Ljava/lang/String;)V" = some ⟨[(.object "java/lang/String")], none⟩ := by decide +kernel
theorem ez_5 : decode jdk_68_method_73_code 5 = .ok (.aload_n 2, 1) := by decide +kernel
theorem ez_6 : decode jdk_68_method_73_code 6 = .ok (.aload_n 0, 1) := by decide +kernel
theorem ez_7 : decode jdk_68_method_73_code 7 = .ok (.getfield 15, 3) := by decide +kernel
theorem ez_10 : decode jdk_68_method_73_code 10 = .ok (.iload_n 1, 1) := by decide +kernel
theorem ez_11 : decode jdk_68_method_73_code 11 = .ok (.aload_n 0, 1) := by decide +kernel
theorem ez_12 : decode jdk_68_method_73_code 12 = .ok (.getfield 22, 3) := by decide +kernel
theorem ez_15 : decode jdk_68_method_73_code 15 = .ok (.invokevirtual 399, 3) := by decide +kernel
theorem pd__28_5bBIB_29V : parseMethodDescriptor "([BIB)V" = some ⟨[(.array .byte), .int, .byte], none⟩ := by decide +kernel
theorem ez_18 : decode jdk_68_method_73_code 18 = .ok (.return_, 1) := by decide +kernel
theorem own_put (l : Launch) (Z : State) (a0 : Array Value) (hw : ∀ d ∈ tables_1, d.before a0 Z = true) (x : Addr) (t : Addr) (kb : ClassId) (cs : List Int32) (cap : Nat) (y : Addr) (u : Addr) (ku : ClassId) (ds : List Int32) (h0 : Heap) (n0 : Nat) (Z0 : n0 ≤ h0.size) (g_t : n0 ≤ t) (F0 : Bld Z h0 x t kb cs cap) (F1 : Str Z h0 y u ku ds) (F2 : Old Z n0 h0) (hl : cs.length + ds.length ≤ cap) (hc : cap ≤ 100) (nut : u ≠ t) (nux : u ≠ x) (nxt : x ≠ t) (nyt : y ≠ t) (G : Cmp Z) :
    Jvm.Y9.Con l Z (⟨"java/lang/AbstractStringBuilder", "putStringAt", "(ILjava/lang/String;)V"⟩ : MethodName) jdk_68_method_73_code 3 none ({ frames := 2, cells := 0, slots := 0, locals := 33 } : Room) n0 #[(.ref x), (.int (Int32.ofNat cs.length)), (.ref y)] h0 (fun v h => v = none ∧ Keep h0 h [t] ∧ Arv Z h t kb .byte (Int32.ofNat cap) (fill (cs ++ ds) cap) (.int 0)) := by
  refine Jvm.Y9.Con.intro (plainFor_of_name pn_java_lang_AbstractStringBuilder) ?_
  intro p e s m below meth c s₁ hx hby hml hret hnm hown hlk hZ P0
  refine Jvm.Y9.Aim.cast (by first | (simp [entryFrame, mkF, argsToLocals, Value.category]; done) | rfl : entryFrame m #[(.ref x), (.int (Int32.ofNat cs.length)), (.ref y)] 3 = (mkF m 0 #[.val (.ref x), .val (.int (Int32.ofNat cs.length)), .val (.ref y)] [])) ?_
  have H := P0.here
  refine Jvm.Y9.Aim.of (T' := s₁) (g' := (mkF m 2 #[.val (.ref x), .val (.int (Int32.ofNat cs.length)), .val (.ref y)] [(.ref y), (.ref x)])) (fun tgt kt => ?_) ?_
  · refine XS.aloadN H hx rfl (hb hby ez_0) rfl rfl ?_
    refine XS.aloadN H hx rfl (hb hby ez_1) rfl rfl ?_
    exact kt
  refine Jvm.Y9.Aim.callV (argsL := [(.ref y)]) (rest := []) P0 hx hZ hml hown (wI hw 101 rfl) (Jvm.Y9.declares_of (wI hw 102 rfl) (wI hw 105 rfl)) (notFace_of_selects (args := #[]) (mvT hZ (wI hw 104 rfl))) (wI hw 104 rfl) (wI hw 102 rfl) (by decide) F0.1 (Jvm.Y9.Con.back (W := 0) (own_infl l Z a0 hw x y h0 n0 Z0 F0.1 F0.2.2.1 F1.1 F1.2.2.1 F2 G) hZ (wI hw 105 rfl) (wI hw 60 rfl) (by decide) (by decide)) rfl pd__28Ljava_2flang_2fString_3b_29V rfl (Nat.le_of_eq rfl) (hb hby ez_2) (by decide) (by decide) ?_
  intro T98 h99 z0 z1 z2
  obtain ⟨rfl, rfl⟩ := z2
  have H := z1.here
  refine Jvm.Y9.Aim.of (T' := T98) (g' := (mkF m 7 #[.val (.ref x), .val (.int (Int32.ofNat cs.length)), .val (.ref y)] [(.ref x), (.ref y)])) (fun tgt kt => ?_) ?_
  · refine XS.aloadN H hx rfl (hb hby ez_5) rfl rfl ?_
    refine XS.aloadN H hx rfl (hb hby ez_6) rfl rfl ?_
    exact kt
  refine Jvm.Y9.Aim.getF z1 hx hZ hown (host := "") (Or.inl (wI hw 64 rfl)) Via.refl F0.2.1 (hb hby ez_7) ?_
  intro z3 z4
  have H := z4.here
  refine Jvm.Y9.Aim.of (T' := z3) (g' := (mkF m 12 #[.val (.ref x), .val (.int (Int32.ofNat cs.length)), .val (.ref y)] [(.ref x), (.int (Int32.ofNat cs.length)), (.ref t), (.ref y)])) (fun tgt kt => ?_) ?_
  · refine XS.iloadN H hx rfl (hb hby ez_10) rfl ?_
    refine XS.aloadN H hx rfl (hb hby ez_11) rfl rfl ?_
    exact kt
  refine Jvm.Y9.Aim.getF z4 hx hZ hown (host := "") (Or.inl (wI hw 66 rfl)) Via.refl F0.2.2.1 (hb hby ez_12) ?_
  intro z5 z6
  refine Jvm.Y9.Aim.callV (argsL := [(.ref t), (.int (Int32.ofNat cs.length)), (.int 0)]) (rest := []) z6 hx hZ hml hown (wI hw 107 rfl) (wI hw 108 rfl) (notFace_of_selects (args := #[]) (mvT hZ (wI hw 110 rfl))) (wI hw 110 rfl) (wI hw 109 rfl) (by decide) F1.1 (Jvm.Y9.Con.back (W := 0) (own_gB l Z a0 hw t kb cs cap y u ku ds h0 n0 Z0 g_t F0.2.2.2.2 F1 F2 hl hc nut nyt G) hZ (wI hw 111 rfl) (wI hw 4 rfl) (by decide) (by decide)) rfl pd__28_5bBIB_29V rfl (Nat.le_of_eq rfl) (hb hby ez_15) (by decide) (by decide) ?_
  intro z7 z8 z9 za zb
  obtain ⟨rfl, zc, zd⟩ := zb
  have ze : Keep h0 z8 [t] := (Keep.refl h0 [t]).trans zc (allS (Or.inl (List.mem_of_getElem? (i := 0) rfl)) all0)
  exact Jvm.Y9.Aim.retV za hx hlk hret (hb hby ez_18) (by decide) (by decide) ⟨rfl, ze, zd⟩
theorem et_0 : decode jdk_68_method_22_code 0 = .ok (.aload_n 1, 1) := by decide +kernel
theorem et_1 : decode jdk_68_method_22_code 1 = .ok (.ifnonnull 8, 3) := by decide +kernel
theorem et_9 : decode jdk_68_method_22_code 9 = .ok (.aload_n 1, 1) := by decide +kernel
theorem et_10 : decode jdk_68_method_22_code 10 = .ok (.invokevirtual 32, 3) := by decide +kernel
theorem pd__28_29I : parseMethodDescriptor "()I" = some ⟨[], some .int⟩ := by decide +kernel
theorem et_13 : decode jdk_68_method_22_code 13 = .ok (.istore_n 2, 1) := by decide +kernel
theorem et_14 : decode jdk_68_method_22_code 14 = .ok (.aload_n 0, 1) := by decide +kernel
theorem et_15 : decode jdk_68_method_22_code 15 = .ok (.aload_n 0, 1) := by decide +kernel
theorem et_16 : decode jdk_68_method_22_code 16 = .ok (.getfield 79, 3) := by decide +kernel
theorem et_19 : decode jdk_68_method_22_code 19 = .ok (.iload_n 2, 1) := by decide +kernel
theorem et_20 : decode jdk_68_method_22_code 20 = .ok (.iadd, 1) := by decide +kernel
theorem et_21 : decode jdk_68_method_22_code 21 = .ok (.invokevirtual 100, 3) := by decide +kernel
theorem et_24 : decode jdk_68_method_22_code 24 = .ok (.aload_n 0, 1) := by decide +kernel
theorem et_25 : decode jdk_68_method_22_code 25 = .ok (.aload_n 0, 1) := by decide +kernel
theorem et_26 : decode jdk_68_method_22_code 26 = .ok (.getfield 79, 3) := by decide +kernel
theorem et_29 : decode jdk_68_method_22_code 29 = .ok (.aload_n 1, 1) := by decide +kernel
theorem et_30 : decode jdk_68_method_22_code 30 = .ok (.invokevirtual 208, 3) := by decide +kernel
theorem pd__28ILjava_2flang_2fString_3b_29V : parseMethodDescriptor "(ILjava/lang/String;)V" = some ⟨[.int, (.object "java/lang/String")], none⟩ := by decide +kernel
theorem et_33 : decode jdk_68_method_22_code 33 = .ok (.aload_n 0, 1) := by decide +kernel
theorem et_34 : decode jdk_68_method_22_code 34 = .ok (.dup, 1) := by decide +kernel
theorem et_35 : decode jdk_68_method_22_code 35 = .ok (.getfield 79, 3) := by decide +kernel
theorem et_38 : decode jdk_68_method_22_code 38 = .ok (.iload_n 2, 1) := by decide +kernel
theorem et_39 : decode jdk_68_method_22_code 39 = .ok (.iadd, 1) := by decide +kernel
theorem et_40 : decode jdk_68_method_22_code 40 = .ok (.putfield 79, 3) := by decide +kernel
theorem et_43 : decode jdk_68_method_22_code 43 = .ok (.aload_n 0, 1) := by decide +kernel
theorem et_44 : decode jdk_68_method_22_code 44 = .ok (.areturn, 1) := by decide +kernel
theorem own_app0 (l : Launch) (Z : State) (a0 : Array Value) (hw : ∀ d ∈ tables_1, d.before a0 Z = true) (x : Addr) (t : Addr) (kb : ClassId) (cs : List Int32) (cap : Nat) (y : Addr) (u : Addr) (ku : ClassId) (ds : List Int32) (h0 : Heap) (n0 : Nat) (Z0 : n0 ≤ h0.size) (g_x : n0 ≤ x) (g_t : n0 ≤ t) (F0 : Bld Z h0 x t kb cs cap) (F1 : Str Z h0 y u ku ds) (F2 : Old Z n0 h0) (hl : cs.length + ds.length ≤ cap) (hc : cap ≤ 100) (nut : u ≠ t) (nux : u ≠ x) (nxt : x ≠ t) (nyt : y ≠ t) (G : Cmp Z) :
    Jvm.Y9.Con l Z (⟨"java/lang/AbstractStringBuilder", "append", "(Ljava/lang/String;)Ljava/lang/AbstractStringBuilder;"⟩ : MethodName) jdk_68_method_22_code 3 (some (.object "java/lang/AbstractStringBuilder")) ({ frames := 3, cells := 0, slots := 0, locals := 47 } : Room) n0 #[(.ref x), (.ref y)] h0 (fun v h => v = some (.ref x) ∧ Keep h0 h [x, t] ∧ Bld Z h x t kb (cs ++ ds) cap) := by
  refine Jvm.Y9.Con.intro (plainFor_of_name pn_java_lang_AbstractStringBuilder) ?_
  intro p e s m below meth c s₁ hx hby hml hret hnm hown hlk hZ P0
  refine Jvm.Y9.Aim.cast (by first | (simp [entryFrame, mkF, argsToLocals, Value.category]; done) | rfl : entryFrame m #[(.ref x), (.ref y)] 3 = (mkF m 0 #[.val (.ref x), .val (.ref y), .unset] [])) ?_
  have H := P0.here
  refine Jvm.Y9.Aim.of (T' := s₁) (g' := (mkF m 10 #[.val (.ref x), .val (.ref y), .unset] [(.ref y)])) (fun tgt kt => ?_) ?_
  · refine XS.aloadN H hx rfl (hb hby et_0) rfl rfl ?_
    refine XS.ifnonnullYes H hx rfl (pc0 := 1) (pc' := 9) rfl (hb hby et_1) rfl (by decide) (by decide) ?_
    refine XS.aloadN H hx rfl (hb hby et_9) rfl rfl ?_
    exact kt
  refine Jvm.Y9.Aim.callV (argsL := []) (rest := []) P0 hx hZ hml hown (wI hw 79 rfl) (wI hw 80 rfl) (notFace_of_selects (args := #[]) (mvT hZ (wI hw 82 rfl))) (wI hw 82 rfl) (wI hw 81 rfl) (by decide) F1.1 (Jvm.Y9.Con.back (W := 0) (own_length l Z a0 hw y u ku ds h0 n0 Z0 F1 F2 G) hZ (wI hw 83 rfl) (wI hw 4 rfl) (by decide) (by decide)) rfl pd__28_29I rfl (Nat.le_of_eq rfl) (hb hby et_10) (by decide) (by decide) ?_
  intro z0 z1 z2 z3 z4
  obtain ⟨rfl, rfl⟩ := z4
  have H := z3.here
  refine Jvm.Y9.Aim.of (T' := z0) (g' := (mkF m 16 #[.val (.ref x), .val (.ref y), .val (.int (Int32.ofNat ds.length))] [(.ref x), (.ref x)])) (fun tgt kt => ?_) ?_
  · refine XS.istoreN H hx rfl (hb hby et_13) rfl (l' := #[.val (.ref x), .val (.ref y), .val (.int (Int32.ofNat ds.length))]) rfl ?_
    refine XS.aloadN H hx rfl (hb hby et_14) rfl rfl ?_
    refine XS.aloadN H hx rfl (hb hby et_15) rfl rfl ?_
    exact kt
  refine Jvm.Y9.Aim.getF z3 hx hZ hown (host := "") (Or.inl (wI hw 89 rfl)) Via.refl F0.2.2.2.1 (hb hby et_16) ?_
  intro z5 z6
  have H := z6.here
  refine Jvm.Y9.Aim.of (T' := z5) (g' := (mkF m 21 #[.val (.ref x), .val (.ref y), .val (.int (Int32.ofNat ds.length))] [(.int ((Int32.ofNat cs.length) + (Int32.ofNat ds.length))), (.ref x)])) (fun tgt kt => ?_) ?_
  · refine XS.iloadN H hx rfl (hb hby et_19) rfl ?_
    refine XS.iadd H hx rfl (hb hby et_20) rfl ?_
    exact kt
  rw [show ((Int32.ofNat cs.length) + (Int32.ofNat ds.length)) = (Int32.ofNat (cs.length + ds.length)) from own_add]
  show Jvm.Y9.Aim p e below s _ _ n0 _ z5 (mkF m 21 #[.val (.ref x), .val (.ref y), .val (.int (Int32.ofNat ds.length))] [(.int (Int32.ofNat (cs.length + ds.length))), (.ref x)])
  refine Jvm.Y9.Aim.callV (argsL := [(.int (Int32.ofNat (cs.length + ds.length)))]) (rest := []) z6 hx hZ hml hown (wI hw 91 rfl) (Jvm.Y9.declares_of (wI hw 92 rfl) (wI hw 95 rfl)) (notFace_of_selects (args := #[]) (mvT hZ (wI hw 94 rfl))) (wI hw 94 rfl) (wI hw 92 rfl) (by decide) F0.1 (Jvm.Y9.Con.back (W := 0) (own_ens l Z a0 hw x t kb cs cap (cs.length + ds.length) h0 n0 Z0 F0 hl hc) hZ (wI hw 95 rfl) (wI hw 60 rfl) (by decide) (by decide)) rfl pd__28I_29V rfl (Nat.le_of_eq rfl) (hb hby et_21) (by decide) (by decide) ?_
  intro z7 z8 z9 za zb
  obtain ⟨rfl, rfl⟩ := zb
  have H := za.here
  refine Jvm.Y9.Aim.of (T' := z7) (g' := (mkF m 26 #[.val (.ref x), .val (.ref y), .val (.int (Int32.ofNat ds.length))] [(.ref x), (.ref x)])) (fun tgt kt => ?_) ?_
  · refine XS.aloadN H hx rfl (hb hby et_24) rfl rfl ?_
    refine XS.aloadN H hx rfl (hb hby et_25) rfl rfl ?_
    exact kt
  refine Jvm.Y9.Aim.getF za hx hZ hown (host := "") (Or.inl (wI hw 89 rfl)) Via.refl F0.2.2.2.1 (hb hby et_26) ?_
  intro zc zd
  have H := zd.here
  refine Jvm.Y9.Aim.of (T' := zc) (g' := (mkF m 30 #[.val (.ref x), .val (.ref y), .val (.int (Int32.ofNat ds.length))] [(.ref y), (.int (Int32.ofNat cs.length)), (.ref x)])) (fun tgt kt => ?_) ?_
  · refine XS.aloadN H hx rfl (hb hby et_29) rfl rfl ?_
    exact kt
  refine Jvm.Y9.Aim.callV (argsL := [(.int (Int32.ofNat cs.length)), (.ref y)]) (rest := []) zd hx hZ hml hown (wI hw 96 rfl) (Jvm.Y9.declares_of (wI hw 97 rfl) (wI hw 100 rfl)) (notFace_of_selects (args := #[]) (mvT hZ (wI hw 99 rfl))) (wI hw 99 rfl) (wI hw 97 rfl) (by decide) F0.1 (Jvm.Y9.Con.back (W := 0) (own_put l Z a0 hw x t kb cs cap y u ku ds h0 n0 Z0 g_t F0 F1 F2 hl hc nut nux nxt nyt G) hZ (wI hw 100 rfl) (wI hw 60 rfl) (by decide) (by decide)) rfl pd__28ILjava_2flang_2fString_3b_29V rfl (Nat.le_of_eq rfl) (hb hby et_30) (by decide) (by decide) ?_
  intro ze zf zg zh zi
  obtain ⟨rfl, zj, zk⟩ := zi
  have zl : Keep h0 zf [x, t] := (Keep.refl h0 [x, t]).trans zj (allS (Or.inl (List.mem_of_getElem? (i := 1) rfl)) all0)
  have H := zh.here
  refine Jvm.Y9.Aim.of (T' := ze) (g' := (mkF m 35 #[.val (.ref x), .val (.ref y), .val (.int (Int32.ofNat ds.length))] [(.ref x), (.ref x)])) (fun tgt kt => ?_) ?_
  · refine XS.aloadN H hx rfl (hb hby et_33) rfl rfl ?_
    refine XS.dup H hx rfl (hb hby et_34) rfl rfl ?_
    exact kt
  have zm : Fld Z zf x "java/lang/AbstractStringBuilder" "count" "I" (.int (Int32.ofNat cs.length)) := (F0.2.2.2.1.keep zj (ninS nxt nin0))
  refine Jvm.Y9.Aim.getF zh hx hZ hown (host := "") (Or.inl (wI hw 89 rfl)) Via.refl zm (hb hby et_35) ?_
  intro zn zo
  have H := zo.here
  refine Jvm.Y9.Aim.of (T' := zn) (g' := (mkF m 40 #[.val (.ref x), .val (.ref y), .val (.int (Int32.ofNat ds.length))] [(.int ((Int32.ofNat cs.length) + (Int32.ofNat ds.length))), (.ref x)])) (fun tgt kt => ?_) ?_
  · refine XS.iloadN H hx rfl (hb hby et_38) rfl ?_
    refine XS.iadd H hx rfl (hb hby et_39) rfl ?_
    exact kt
  rw [show ((Int32.ofNat cs.length) + (Int32.ofNat ds.length)) = (Int32.ofNat (cs.length + ds.length)) from own_add]
  show Jvm.Y9.Aim p e below s _ _ n0 _ zn (mkF m 40 #[.val (.ref x), .val (.ref y), .val (.int (Int32.ofNat ds.length))] [(.int (Int32.ofNat (cs.length + ds.length))), (.ref x)])
  have zp : Exa Z zf x "java/lang/StringBuilder" := (F0.1.keep zj)
  refine Jvm.Y9.Aim.putF (v := (.int (Int32.ofNat (cs.length + ds.length)))) zo hx hZ hown (host := "") (Or.inl (wI hw 89 rfl)) Via.refl zm zp (Or.inl (wI hw 90 rfl)) (wI hw 51 rfl) (ty := .int) (by decide) rfl rfl (hb hby et_40) g_x ?_
  intro zq zr zs zt
  have zu := Keep.of_wr zt
  have zv : Fld Z zr x "java/lang/AbstractStringBuilder" "count" "I" (.int (Int32.ofNat (cs.length + ds.length))) := zm.same zt
  have zw : Keep h0 zr [x, t] := zl.trans zu (allS (Or.inl (List.mem_of_getElem? (i := 0) rfl)) all0)
  have H := zs.here
  refine Jvm.Y9.Aim.of (T' := zq) (g' := (mkF m 44 #[.val (.ref x), .val (.ref y), .val (.int (Int32.ofNat ds.length))] [(.ref x)])) (fun tgt kt => ?_) ?_
  · refine XS.aloadN H hx rfl (hb hby et_43) rfl rfl ?_
    exact kt
  have zx : Exa Z zr x "java/lang/StringBuilder" := (zp.keep zu)
  have zy : Fld Z zr x "java/lang/AbstractStringBuilder" "value" "[B" (.ref t) := ((F0.2.1.keep zj (ninS nxt nin0)).other zt (Or.inr (slot_ne (Or.inl (wI hw 65 rfl)) (Or.inl (wI hw 90 rfl)) (by decide) (t := (.array .byte)) (t' := .int) (by decide) (by decide))))
  have zz : Fld Z zr x "java/lang/AbstractStringBuilder" "coder" "B" (.int 0) := ((F0.2.2.1.keep zj (ninS nxt nin0)).other zt (Or.inr (slot_ne (Or.inl (wI hw 67 rfl)) (Or.inl (wI hw 90 rfl)) (by decide) (t := .byte) (t' := .int) (by decide) (by decide))))
  have z10 : Arv Z zr t kb .byte (Int32.ofNat cap) (fill (cs ++ ds) cap) (.int 0) := (zk.keep zu (ninS (Ne.symm nxt) nin0))
  exact Jvm.Y9.Aim.retA zs hx hlk hret rfl rfl (hb hby et_44) (by decide) (by decide) ⟨rfl, zw, ⟨zx, zy, zz, (by rw [List.length_append]; exact zv), z10⟩⟩
theorem ep_0 : decode jdk_67_method_7_code 0 = .ok (.aload_n 0, 1) := by decide +kernel
theorem ep_1 : decode jdk_67_method_7_code 1 = .ok (.aload_n 1, 1) := by decide +kernel
theorem ep_2 : decode jdk_67_method_7_code 2 = .ok (.invokespecial 29, 3) := by decide +kernel
theorem pd__28Ljava_2flang_2fString_3b_29Ljava_2flang_2fAbstractStringBuilder_3b : parseMethodDescriptor "(Ljava/lang/String;)Ljava/lang/AbstractStringBuilder;" = some ⟨[(.object "java/lang/String")], some (.object "java/lang/AbstractStringBuilder")⟩ := by decide +kernel
theorem ep_5 : decode jdk_67_method_7_code 5 = .ok (.pop, 1) := by decide +kernel
theorem ep_6 : decode jdk_67_method_7_code 6 = .ok (.aload_n 0, 1) := by decide +kernel
theorem ep_7 : decode jdk_67_method_7_code 7 = .ok (.areturn, 1) := by decide +kernel
theorem own_app (l : Launch) (Z : State) (a0 : Array Value) (hw : ∀ d ∈ tables_1, d.before a0 Z = true) (x : Addr) (t : Addr) (kb : ClassId) (cs : List Int32) (cap : Nat) (y : Addr) (u : Addr) (ku : ClassId) (ds : List Int32) (h0 : Heap) (n0 : Nat) (Z0 : n0 ≤ h0.size) (g_x : n0 ≤ x) (g_t : n0 ≤ t) (F0 : Bld Z h0 x t kb cs cap) (F1 : Str Z h0 y u ku ds) (F2 : Old Z n0 h0) (hl : cs.length + ds.length ≤ cap) (hc : cap ≤ 100) (nut : u ≠ t) (nux : u ≠ x) (nxt : x ≠ t) (nyt : y ≠ t) (G : Cmp Z) :
    Jvm.Y9.Con l Z (⟨"java/lang/StringBuilder", "append", "(Ljava/lang/String;)Ljava/lang/StringBuilder;"⟩ : MethodName) jdk_67_method_7_code 2 (some (.object "java/lang/StringBuilder")) ({ frames := 4, cells := 0, slots := 0, locals := 61 } : Room) n0 #[(.ref x), (.ref y)] h0 (fun v h => v = some (.ref x) ∧ Keep h0 h [x, t] ∧ Bld Z h x t kb (cs ++ ds) cap) := by
  refine Jvm.Y9.Con.intro (plainFor_of_name pn_java_lang_StringBuilder) ?_
  intro p e s m below meth c s₁ hx hby hml hret hnm hown hlk hZ P0
  refine Jvm.Y9.Aim.cast (by first | (simp [entryFrame, mkF, argsToLocals, Value.category]; done) | rfl : entryFrame m #[(.ref x), (.ref y)] 2 = (mkF m 0 #[.val (.ref x), .val (.ref y)] [])) ?_
  have H := P0.here
  refine Jvm.Y9.Aim.of (T' := s₁) (g' := (mkF m 2 #[.val (.ref x), .val (.ref y)] [(.ref y), (.ref x)])) (fun tgt kt => ?_) ?_
  · refine XS.aloadN H hx rfl (hb hby ep_0) rfl rfl ?_
    refine XS.aloadN H hx rfl (hb hby ep_1) rfl rfl ?_
    exact kt
  refine Jvm.Y9.Aim.callU (argsL := [(.ref y)]) (rest := []) P0 hx hZ hml hown (wI hw 74 rfl) (Jvm.Y9.same_of (by decide) (wI hw 75 rfl) (Jvm.Y9.nf_sel (y2 := (⟨"java/lang/AbstractStringBuilder", "ensureCapacityInternal", "(I)V"⟩ : MethodName)) rfl (wI hw 94 rfl))) (wI hw 75 rfl) (wI hw 76 rfl) (by decide) (wI hw 78 rfl) (Ins.self F0.1) (Jvm.Y9.Con.back (W := 0) (own_app0 l Z a0 hw x t kb cs cap y u ku ds h0 n0 Z0 g_x g_t F0 F1 F2 hl hc nut nux nxt nyt G) hZ (wI hw 78 rfl) (wI hw 60 rfl) (by decide) (by decide)) rfl pd__28Ljava_2flang_2fString_3b_29Ljava_2flang_2fAbstractStringBuilder_3b rfl (Nat.le_of_eq rfl) (hb hby ep_2) (by decide) (by decide) ?_
  intro z0 z1 z2 z3 z4
  obtain ⟨rfl, z5, z6⟩ := z4
  have z7 : Keep h0 z1 [x, t] := (Keep.refl h0 [x, t]).trans z5 (allS (Or.inl (List.mem_of_getElem? (i := 0) rfl)) (allS (Or.inl (List.mem_of_getElem? (i := 1) rfl)) all0))
  have H := z3.here
  refine Jvm.Y9.Aim.of (T' := z0) (g' := (mkF m 7 #[.val (.ref x), .val (.ref y)] [(.ref x)])) (fun tgt kt => ?_) ?_
  · refine XS.pop H hx rfl (hb hby ep_5) rfl rfl ?_
    refine XS.aloadN H hx rfl (hb hby ep_6) rfl rfl ?_
    exact kt
  exact Jvm.Y9.Aim.retA z3 hx hlk hret rfl rfl (hb hby ep_7) (by decide) (by decide) ⟨rfl, z7, z6⟩
theorem ex_0 : decode jdk_68_method_68_code 0 = .ok (.getstatic 18, 3) := by decide +kernel
theorem ex_3 : decode jdk_68_method_68_code 3 = .ok (.ifCond .eq 14, 3) := by decide +kernel
theorem ex_6 : decode jdk_68_method_68_code 6 = .ok (.aload_n 0, 1) := by decide +kernel
theorem ex_7 : decode jdk_68_method_68_code 7 = .ok (.getfield 22, 3) := by decide +kernel
theorem ex_10 : decode jdk_68_method_68_code 10 = .ok (.ifCond .ne 7, 3) := by decide +kernel
theorem ex_13 : decode jdk_68_method_68_code 13 = .ok (.iconst 1, 1) := by decide +kernel
theorem ex_14 : decode jdk_68_method_68_code 14 = .ok (.goto 4, 3) := by decide +kernel
theorem ex_18 : decode jdk_68_method_68_code 18 = .ok (.ireturn, 1) := by decide +kernel
theorem own_isL (l : Launch) (Z : State) (a0 : Array Value) (hw : ∀ d ∈ tables_1, d.before a0 Z = true) (x : Addr) (t : Addr) (kb : ClassId) (cs : List Int32) (cap : Nat) (h0 : Heap) (n0 : Nat) (Z0 : n0 ≤ h0.size) (F0 : Bld Z h0 x t kb cs cap) (F1 : Old Z n0 h0) (G : Cmp Z) :
    Jvm.Y9.Con l Z (⟨"java/lang/AbstractStringBuilder", "isLatin1", "()Z"⟩ : MethodName) jdk_68_method_68_code 1 (some .boolean) ({ frames := 0, cells := 0, slots := 0, locals := 0 } : Room) n0 #[(.ref x)] h0 (fun v h => v = some (.int 1) ∧ h0 = h) := by
  refine Jvm.Y9.Con.intro (plainFor_of_name pn_java_lang_AbstractStringBuilder) ?_
  intro p e s m below meth c s₁ hx hby hml hret hnm hown hlk hZ P0
  refine Jvm.Y9.Aim.cast (by first | (simp [entryFrame, mkF, argsToLocals, Value.category]; done) | rfl : entryFrame m #[(.ref x)] 1 = (mkF m 0 #[.val (.ref x)] [])) ?_
  obtain ⟨zc, hzc, Szc⟩ := id G
  refine Jvm.Y9.Aim.getS P0 hx hZ hown (wI hw 63 rfl) Via.refl (Szc.ext F1.2) (hb hby ex_0) ?_
  intro T172 P173
  have H := P173.here
  refine Jvm.Y9.Aim.of (T' := T172) (g' := (mkF m 7 #[.val (.ref x)] [(.ref x)])) (fun tgt kt => ?_) ?_
  · refine XS.ifNo H hx rfl (hb hby ex_3) rfl ((if0 _ _).trans (feq hzc).1) ?_
    refine XS.aloadN H hx rfl (hb hby ex_6) rfl rfl ?_
    exact kt
  refine Jvm.Y9.Aim.getF P173 hx hZ hown (host := "") (Or.inl (wI hw 66 rfl)) Via.refl F0.2.2.1 (hb hby ex_7) ?_
  intro T174 P175
  have H := P175.here
  refine Jvm.Y9.Aim.of (T' := T174) (g' := (mkF m 18 #[.val (.ref x)] [(.int 1)])) (fun tgt kt => ?_) ?_
  · refine XS.ifNo H hx rfl (hb hby ex_10) rfl ((if0 _ _).trans (teq (by decide)).2) ?_
    refine XS.iconst H hx rfl (hb hby ex_13) ?_
    refine XS.goto H hx rfl (pc0 := 14) (pc' := 18) rfl (hb hby ex_14) (by decide) (by decide) ?_
    exact kt
  exact Jvm.Y9.Aim.retN (t := .boolean) P175 hx hlk hret (by simp) (hb hby ex_18) (by decide) (by decide) ⟨rfl, rfl⟩
theorem eu_0 : decode jdk_68_method_32_code 0 = .ok (.aload_n 0, 1) := by decide +kernel
theorem eu_1 : decode jdk_68_method_32_code 1 = .ok (.getfield 79, 3) := by decide +kernel
theorem eu_4 : decode jdk_68_method_32_code 4 = .ok (.istore_n 2, 1) := by decide +kernel
theorem eu_5 : decode jdk_68_method_32_code 5 = .ok (.iload_n 2, 1) := by decide +kernel
theorem eu_6 : decode jdk_68_method_32_code 6 = .ok (.iload_n 1, 1) := by decide +kernel
theorem eu_7 : decode jdk_68_method_32_code 7 = .ok (.invokestatic 245, 3) := by decide +kernel
theorem pd__28I_29I : parseMethodDescriptor "(I)I" = some ⟨[.int], some .int⟩ := by decide +kernel
theorem eu_10 : decode jdk_68_method_32_code 10 = .ok (.iadd, 1) := by decide +kernel
theorem eu_11 : decode jdk_68_method_32_code 11 = .ok (.istore_n 3, 1) := by decide +kernel
theorem eu_12 : decode jdk_68_method_32_code 12 = .ok (.aload_n 0, 1) := by decide +kernel
theorem eu_13 : decode jdk_68_method_32_code 13 = .ok (.iload_n 3, 1) := by decide +kernel
theorem eu_14 : decode jdk_68_method_32_code 14 = .ok (.invokevirtual 100, 3) := by decide +kernel
theorem eu_17 : decode jdk_68_method_32_code 17 = .ok (.aload_n 0, 1) := by decide +kernel
theorem eu_18 : decode jdk_68_method_32_code 18 = .ok (.invokevirtual 83, 3) := by decide +kernel
theorem pd__28_29Z : parseMethodDescriptor "()Z" = some ⟨[], some .boolean⟩ := by decide +kernel
theorem eu_21 : decode jdk_68_method_32_code 21 = .ok (.ifCond .eq 16, 3) := by decide +kernel
theorem eu_24 : decode jdk_68_method_32_code 24 = .ok (.iload_n 1, 1) := by decide +kernel
theorem eu_25 : decode jdk_68_method_32_code 25 = .ok (.iload_n 3, 1) := by decide +kernel
theorem eu_26 : decode jdk_68_method_32_code 26 = .ok (.aload_n 0, 1) := by decide +kernel
theorem eu_27 : decode jdk_68_method_32_code 27 = .ok (.getfield 15, 3) := by decide +kernel
theorem eu_30 : decode jdk_68_method_32_code 30 = .ok (.invokestatic 248, 3) := by decide +kernel
theorem pd__28II_5bB_29I : parseMethodDescriptor "(II[B)I" = some ⟨[.int, .int, (.array .byte)], some .int⟩ := by decide +kernel
theorem eu_33 : decode jdk_68_method_32_code 33 = .ok (.pop, 1) := by decide +kernel
theorem eu_34 : decode jdk_68_method_32_code 34 = .ok (.goto 14, 3) := by decide +kernel
theorem eu_48 : decode jdk_68_method_32_code 48 = .ok (.aload_n 0, 1) := by decide +kernel
theorem eu_49 : decode jdk_68_method_32_code 49 = .ok (.iload_n 3, 1) := by decide +kernel
theorem eu_50 : decode jdk_68_method_32_code 50 = .ok (.putfield 79, 3) := by decide +kernel
theorem eu_53 : decode jdk_68_method_32_code 53 = .ok (.aload_n 0, 1) := by decide +kernel
theorem eu_54 : decode jdk_68_method_32_code 54 = .ok (.areturn, 1) := by decide +kernel
theorem own_appI0 (l : Launch) (Z : State) (a0 : Array Value) (hw : ∀ d ∈ tables_1, d.before a0 Z = true) (x : Addr) (t : Addr) (kb : ClassId) (cs : List Int32) (cap : Nat) (i : Int32) (h0 : Heap) (n0 : Nat) (Z0 : n0 ≤ h0.size) (g_x : n0 ≤ x) (g_t : n0 ≤ t) (F0 : Bld Z h0 x t kb cs cap) (F1 : Old Z n0 h0) (hl : cs.length + (dec i).length ≤ cap) (hc : cap ≤ 100) (nxt : x ≠ t) (G : Cmp Z) (GD : Dig Z) :
    Jvm.Y9.Con l Z (⟨"java/lang/AbstractStringBuilder", "append", "(I)Ljava/lang/AbstractStringBuilder;"⟩ : MethodName) jdk_68_method_32_code 4 (some (.object "java/lang/AbstractStringBuilder")) ({ frames := 2, cells := 0, slots := 0, locals := 78 } : Room) n0 #[(.ref x), (.int i)] h0 (fun v h => v = some (.ref x) ∧ Keep h0 h [x, t] ∧ Bld Z h x t kb (cs ++ (dec i)) cap) := by
  refine Jvm.Y9.Con.intro (plainFor_of_name pn_java_lang_AbstractStringBuilder) ?_
  intro p e s m below meth c s₁ hx hby hml hret hnm hown hlk hZ P0
  refine Jvm.Y9.Aim.cast (by first | (simp [entryFrame, mkF, argsToLocals, Value.category]; done) | rfl : entryFrame m #[(.ref x), (.int i)] 4 = (mkF m 0 #[.val (.ref x), .val (.int i), .unset, .unset] [])) ?_
  have H := P0.here
  refine Jvm.Y9.Aim.of (T' := s₁) (g' := (mkF m 1 #[.val (.ref x), .val (.int i), .unset, .unset] [(.ref x)])) (fun tgt kt => ?_) ?_
  · refine XS.aloadN H hx rfl (hb hby eu_0) rfl rfl ?_
    exact kt
  refine Jvm.Y9.Aim.getF P0 hx hZ hown (host := "") (Or.inl (wI hw 89 rfl)) Via.refl F0.2.2.2.1 (hb hby eu_1) ?_
  intro z0 z1
  have H := z1.here
  refine Jvm.Y9.Aim.of (T' := z0) (g' := (mkF m 7 #[.val (.ref x), .val (.int i), .val (.int (Int32.ofNat cs.length)), .unset] [(.int i), (.int (Int32.ofNat cs.length))])) (fun tgt kt => ?_) ?_
  · refine XS.istoreN H hx rfl (hb hby eu_4) rfl (l' := #[.val (.ref x), .val (.int i), .val (.int (Int32.ofNat cs.length)), .unset]) rfl ?_
    refine XS.iloadN H hx rfl (hb hby eu_5) rfl ?_
    refine XS.iloadN H hx rfl (hb hby eu_6) rfl ?_
    exact kt
  refine Jvm.Y9.Aim.callS (argsL := [(.int i)]) (rest := [(.int (Int32.ofNat cs.length))]) z1 hx hZ hml hown (wI hw 149 rfl) (wI hw 150 rfl) (wI hw 151 rfl) (wI hw 152 rfl) (by decide) (own_ssz (W := 1) hZ (by decide) (by decide) hw i h0 n0 Z0) rfl pd__28I_29I rfl (Nat.le_of_eq rfl) (hb hby eu_7) (by decide) (by decide) ?_
  intro z2 z3 z4 z5 z6
  obtain ⟨rfl, rfl⟩ := z6
  have H := z5.here
  refine Jvm.Y9.Aim.of (T' := z2) (g' := (mkF m 11 #[.val (.ref x), .val (.int i), .val (.int (Int32.ofNat cs.length)), .unset] [(.int ((Int32.ofNat cs.length) + (Int32.ofNat (dec i).length)))])) (fun tgt kt => ?_) ?_
  · refine XS.iadd H hx rfl (hb hby eu_10) rfl ?_
    exact kt
  rw [show ((Int32.ofNat cs.length) + (Int32.ofNat (dec i).length)) = (Int32.ofNat (cs.length + (dec i).length)) from own_add]
  show Jvm.Y9.Aim p e below s _ _ n0 _ z2 (mkF m 11 #[.val (.ref x), .val (.int i), .val (.int (Int32.ofNat cs.length)), .unset] [(.int (Int32.ofNat (cs.length + (dec i).length)))])
  have H := z5.here
  refine Jvm.Y9.Aim.of (T' := z2) (g' := (mkF m 14 #[.val (.ref x), .val (.int i), .val (.int (Int32.ofNat cs.length)), .val (.int (Int32.ofNat (cs.length + (dec i).length)))] [(.int (Int32.ofNat (cs.length + (dec i).length))), (.ref x)])) (fun tgt kt => ?_) ?_
  · refine XS.istoreN H hx rfl (hb hby eu_11) rfl (l' := #[.val (.ref x), .val (.int i), .val (.int (Int32.ofNat cs.length)), .val (.int (Int32.ofNat (cs.length + (dec i).length)))]) rfl ?_
    refine XS.aloadN H hx rfl (hb hby eu_12) rfl rfl ?_
    refine XS.iloadN H hx rfl (hb hby eu_13) rfl ?_
    exact kt
  refine Jvm.Y9.Aim.callV (argsL := [(.int (Int32.ofNat (cs.length + (dec i).length)))]) (rest := []) z5 hx hZ hml hown (wI hw 91 rfl) (Jvm.Y9.declares_of (wI hw 92 rfl) (wI hw 95 rfl)) (notFace_of_selects (args := #[]) (mvT hZ (wI hw 94 rfl))) (wI hw 94 rfl) (wI hw 92 rfl) (by decide) F0.1 (Jvm.Y9.Con.back (W := 0) (own_ens l Z a0 hw x t kb cs cap (cs.length + (dec i).length) h0 n0 Z0 F0 hl hc) hZ (wI hw 95 rfl) (wI hw 60 rfl) (by decide) (by decide)) rfl pd__28I_29V rfl (Nat.le_of_eq rfl) (hb hby eu_14) (by decide) (by decide) ?_
  intro z7 z8 z9 za zb
  obtain ⟨rfl, rfl⟩ := zb
  have H := za.here
  refine Jvm.Y9.Aim.of (T' := z7) (g' := (mkF m 18 #[.val (.ref x), .val (.int i), .val (.int (Int32.ofNat cs.length)), .val (.int (Int32.ofNat (cs.length + (dec i).length)))] [(.ref x)])) (fun tgt kt => ?_) ?_
  · refine XS.aloadN H hx rfl (hb hby eu_17) rfl rfl ?_
    exact kt
  refine Jvm.Y9.Aim.callV (argsL := []) (rest := []) za hx hZ hml hown (wI hw 153 rfl) (wI hw 154 rfl) (notFace_of_selects (args := #[]) (mvT hZ (wI hw 156 rfl))) (wI hw 156 rfl) (wI hw 155 rfl) (by decide) F0.1 (Jvm.Y9.Con.back (W := 0) (own_isL l Z a0 hw x t kb cs cap h0 n0 Z0 F0 F1 G) hZ (wI hw 157 rfl) (wI hw 60 rfl) (by decide) (by decide)) rfl pd__28_29Z rfl (Nat.le_of_eq rfl) (hb hby eu_18) (by decide) (by decide) ?_
  intro zc zd ze zf zg
  obtain ⟨rfl, rfl⟩ := zg
  have H := zf.here
  refine Jvm.Y9.Aim.of (T' := zc) (g' := (mkF m 27 #[.val (.ref x), .val (.int i), .val (.int (Int32.ofNat cs.length)), .val (.int (Int32.ofNat (cs.length + (dec i).length)))] [(.ref x), (.int (Int32.ofNat (cs.length + (dec i).length))), (.int i)])) (fun tgt kt => ?_) ?_
  · refine XS.ifNo H hx rfl (hb hby eu_21) rfl ((if0 _ _).trans (feq (by decide)).1) ?_
    refine XS.iloadN H hx rfl (hb hby eu_24) rfl ?_
    refine XS.iloadN H hx rfl (hb hby eu_25) rfl ?_
    refine XS.aloadN H hx rfl (hb hby eu_26) rfl rfl ?_
    exact kt
  refine Jvm.Y9.Aim.getF zf hx hZ hown (host := "") (Or.inl (wI hw 64 rfl)) Via.refl F0.2.1 (hb hby eu_27) ?_
  intro zh zi
  refine Jvm.Y9.Aim.callS (argsL := [(.int i), (.int (Int32.ofNat (cs.length + (dec i).length))), (.ref t)]) (rest := []) zi hx hZ hml hown (wI hw 158 rfl) (wI hw 159 rfl) (wI hw 151 rfl) (wI hw 160 rfl) (by decide) (own_gch (W := 0) hZ (by decide) (by decide) hw i t kb cs cap h0 n0 Z0 g_t F0.2.2.2.2 F1 hl (by omega) GD) rfl pd__28II_5bB_29I rfl (Nat.le_of_eq rfl) (hb hby eu_30) (by decide) (by decide) ?_
  intro zj zk zl zm zn
  obtain ⟨z_208, rfl, zo, zp⟩ := zn
  have zq : Keep h0 zk [x, t] := (Keep.refl h0 [x, t]).trans zo (allS (Or.inl (List.mem_of_getElem? (i := 1) rfl)) all0)
  have H := zm.here
  refine Jvm.Y9.Aim.of (T' := zj) (g' := (mkF m 50 #[.val (.ref x), .val (.int i), .val (.int (Int32.ofNat cs.length)), .val (.int (Int32.ofNat (cs.length + (dec i).length)))] [(.int (Int32.ofNat (cs.length + (dec i).length))), (.ref x)])) (fun tgt kt => ?_) ?_
  · refine XS.pop H hx rfl (hb hby eu_33) rfl rfl ?_
    refine XS.goto H hx rfl (pc0 := 34) (pc' := 48) rfl (hb hby eu_34) (by decide) (by decide) ?_
    refine XS.aloadN H hx rfl (hb hby eu_48) rfl rfl ?_
    refine XS.iloadN H hx rfl (hb hby eu_49) rfl ?_
    exact kt
  have zr : Exa Z zk x "java/lang/StringBuilder" := (F0.1.keep zo)
  have zs : Fld Z zk x "java/lang/AbstractStringBuilder" "count" "I" (.int (Int32.ofNat cs.length)) := (F0.2.2.2.1.keep zo (ninS nxt nin0))
  refine Jvm.Y9.Aim.putF (v := (.int (Int32.ofNat (cs.length + (dec i).length)))) zm hx hZ hown (host := "") (Or.inl (wI hw 89 rfl)) Via.refl zs zr (Or.inl (wI hw 90 rfl)) (wI hw 51 rfl) (ty := .int) (by decide) rfl rfl (hb hby eu_50) g_x ?_
  intro zt zu zv zw
  have zx := Keep.of_wr zw
  have zy : Fld Z zu x "java/lang/AbstractStringBuilder" "count" "I" (.int (Int32.ofNat (cs.length + (dec i).length))) := zs.same zw
  have zz : Keep h0 zu [x, t] := zq.trans zx (allS (Or.inl (List.mem_of_getElem? (i := 0) rfl)) all0)
  have H := zv.here
  refine Jvm.Y9.Aim.of (T' := zt) (g' := (mkF m 54 #[.val (.ref x), .val (.int i), .val (.int (Int32.ofNat cs.length)), .val (.int (Int32.ofNat (cs.length + (dec i).length)))] [(.ref x)])) (fun tgt kt => ?_) ?_
  · refine XS.aloadN H hx rfl (hb hby eu_53) rfl rfl ?_
    exact kt
  have z10 : Exa Z zu x "java/lang/StringBuilder" := (zr.keep zx)
  have z11 : Fld Z zu x "java/lang/AbstractStringBuilder" "value" "[B" (.ref t) := ((F0.2.1.keep zo (ninS nxt nin0)).other zw (Or.inr (slot_ne (Or.inl (wI hw 65 rfl)) (Or.inl (wI hw 90 rfl)) (by decide) (t := (.array .byte)) (t' := .int) (by decide) (by decide))))
  have z12 : Fld Z zu x "java/lang/AbstractStringBuilder" "coder" "B" (.int 0) := ((F0.2.2.1.keep zo (ninS nxt nin0)).other zw (Or.inr (slot_ne (Or.inl (wI hw 67 rfl)) (Or.inl (wI hw 90 rfl)) (by decide) (t := .byte) (t' := .int) (by decide) (by decide))))
  have z13 : Arv Z zu t kb .byte (Int32.ofNat cap) (fill (cs ++ (dec i)) cap) (.int 0) := (zp.keep zx (ninS (Ne.symm nxt) nin0))
  exact Jvm.Y9.Aim.retA zv hx hlk hret rfl rfl (hb hby eu_54) (by decide) (by decide) ⟨rfl, zz, ⟨z10, z11, z12, (by rw [List.length_append]; exact zy), z13⟩⟩
theorem en_0 : decode jdk_67_method_15_code 0 = .ok (.aload_n 0, 1) := by decide +kernel
theorem en_1 : decode jdk_67_method_15_code 1 = .ok (.iload_n 1, 1) := by decide +kernel
theorem en_2 : decode jdk_67_method_15_code 2 = .ok (.invokespecial 53, 3) := by decide +kernel
theorem pd__28I_29Ljava_2flang_2fAbstractStringBuilder_3b : parseMethodDescriptor "(I)Ljava/lang/AbstractStringBuilder;" = some ⟨[.int], some (.object "java/lang/AbstractStringBuilder")⟩ := by decide +kernel
theorem en_5 : decode jdk_67_method_15_code 5 = .ok (.pop, 1) := by decide +kernel
theorem en_6 : decode jdk_67_method_15_code 6 = .ok (.aload_n 0, 1) := by decide +kernel
theorem en_7 : decode jdk_67_method_15_code 7 = .ok (.areturn, 1) := by decide +kernel
theorem own_appI (l : Launch) (Z : State) (a0 : Array Value) (hw : ∀ d ∈ tables_1, d.before a0 Z = true) (x : Addr) (t : Addr) (kb : ClassId) (cs : List Int32) (cap : Nat) (i : Int32) (h0 : Heap) (n0 : Nat) (Z0 : n0 ≤ h0.size) (g_x : n0 ≤ x) (g_t : n0 ≤ t) (F0 : Bld Z h0 x t kb cs cap) (F1 : Old Z n0 h0) (hl : cs.length + (dec i).length ≤ cap) (hc : cap ≤ 100) (nxt : x ≠ t) (G : Cmp Z) (GD : Dig Z) :
    Jvm.Y9.Con l Z (⟨"java/lang/StringBuilder", "append", "(I)Ljava/lang/StringBuilder;"⟩ : MethodName) jdk_67_method_15_code 2 (some (.object "java/lang/StringBuilder")) ({ frames := 3, cells := 0, slots := 0, locals := 93 } : Room) n0 #[(.ref x), (.int i)] h0 (fun v h => v = some (.ref x) ∧ Keep h0 h [x, t] ∧ Bld Z h x t kb (cs ++ (dec i)) cap) := by
  refine Jvm.Y9.Con.intro (plainFor_of_name pn_java_lang_StringBuilder) ?_
  intro p e s m below meth c s₁ hx hby hml hret hnm hown hlk hZ P0
  refine Jvm.Y9.Aim.cast (by first | (simp [entryFrame, mkF, argsToLocals, Value.category]; done) | rfl : entryFrame m #[(.ref x), (.int i)] 2 = (mkF m 0 #[.val (.ref x), .val (.int i)] [])) ?_
  have H := P0.here
  refine Jvm.Y9.Aim.of (T' := s₁) (g' := (mkF m 2 #[.val (.ref x), .val (.int i)] [(.int i), (.ref x)])) (fun tgt kt => ?_) ?_
  · refine XS.aloadN H hx rfl (hb hby en_0) rfl rfl ?_
    refine XS.iloadN H hx rfl (hb hby en_1) rfl ?_
    exact kt
  refine Jvm.Y9.Aim.callU (argsL := [(.int i)]) (rest := []) P0 hx hZ hml hown (wI hw 145 rfl) (Jvm.Y9.same_of (by decide) (wI hw 146 rfl) (Jvm.Y9.nf_sel (y2 := (⟨"java/lang/AbstractStringBuilder", "ensureCapacityInternal", "(I)V"⟩ : MethodName)) rfl (wI hw 94 rfl))) (wI hw 146 rfl) (wI hw 76 rfl) (by decide) (wI hw 148 rfl) (Ins.self F0.1) (Jvm.Y9.Con.back (W := 0) (own_appI0 l Z a0 hw x t kb cs cap i h0 n0 Z0 g_x g_t F0 F1 hl hc nxt G GD) hZ (wI hw 148 rfl) (wI hw 60 rfl) (by decide) (by decide)) rfl pd__28I_29Ljava_2flang_2fAbstractStringBuilder_3b rfl (Nat.le_of_eq rfl) (hb hby en_2) (by decide) (by decide) ?_
  intro z0 z1 z2 z3 z4
  obtain ⟨rfl, z5, z6⟩ := z4
  have z7 : Keep h0 z1 [x, t] := (Keep.refl h0 [x, t]).trans z5 (allS (Or.inl (List.mem_of_getElem? (i := 0) rfl)) (allS (Or.inl (List.mem_of_getElem? (i := 1) rfl)) all0))
  have H := z3.here
  refine Jvm.Y9.Aim.of (T' := z0) (g' := (mkF m 7 #[.val (.ref x), .val (.int i)] [(.ref x)])) (fun tgt kt => ?_) ?_
  · refine XS.pop H hx rfl (hb hby en_5) rfl rfl ?_
    refine XS.aloadN H hx rfl (hb hby en_6) rfl rfl ?_
    exact kt
  exact Jvm.Y9.Aim.retA z3 hx hlk hret rfl rfl (hb hby en_7) (by decide) (by decide) ⟨rfl, z7, z6⟩
theorem e2_0 : decode jdk_29_method_65_code 0 = .ok (.iload_n 0, 1) := by decide +kernel
theorem e2_1 : decode jdk_29_method_65_code 1 = .ok (.iload_n 1, 1) := by decide +kernel
theorem e2_2 : decode jdk_29_method_65_code 2 = .ok (.if_icmp .lt 7, 3) := by decide +kernel
theorem e2_9 : decode jdk_29_method_65_code 9 = .ok (.iload_n 1, 1) := by decide +kernel
theorem e2_10 : decode jdk_29_method_65_code 10 = .ok (.ireturn, 1) := by decide +kernel
theorem e2_5 : decode jdk_29_method_65_code 5 = .ok (.iload_n 0, 1) := by decide +kernel
theorem e2_6 : decode jdk_29_method_65_code 6 = .ok (.goto 4, 3) := by decide +kernel
theorem own_max_ (l : Launch) (Z : State) (a0 : Array Value) (hw : ∀ d ∈ tables_1, d.before a0 Z = true) (a : Nat) (b : Nat) (h0 : Heap) (n0 : Nat) (Z0 : n0 ≤ h0.size) (ha_ : a ≤ 50000) (hb_ : b ≤ 50000) :
    Jvm.Y9.Con l Z (⟨"java/lang/Math", "max", "(II)I"⟩ : MethodName) jdk_29_method_65_code 2 (some .int) ({ frames := 0, cells := 0, slots := 0, locals := 0 } : Room) n0 #[(.int (Int32.ofNat a)), (.int (Int32.ofNat b))] h0 (fun v h => v = some (.int (Int32.ofNat (max a b))) ∧ h0 = h) := by
  refine Jvm.Y9.Con.intro (Jvm.Free.JP.mathPlain rfl (by decide +kernel)) ?_
  intro p e s m below meth c s₁ hx hby hml hret hnm hown hlk hZ P0
  refine Jvm.Y9.Aim.cast (by first | (simp [entryFrame, mkF, argsToLocals, Value.category]; done) | rfl : entryFrame m #[(.int (Int32.ofNat a)), (.int (Int32.ofNat b))] 2 = (mkF m 0 #[.val (.int (Int32.ofNat a)), .val (.int (Int32.ofNat b))] [])) ?_
  have H := P0.here
  refine Jvm.Y9.Aim.of (T' := s₁) (g' := (mkF m 2 #[.val (.int (Int32.ofNat a)), .val (.int (Int32.ofNat b))] [(.int (Int32.ofNat b)), (.int (Int32.ofNat a))])) (fun tgt kt => ?_) ?_
  · refine XS.iloadN H hx rfl (hb hby e2_0) rfl ?_
    refine XS.iloadN H hx rfl (hb hby e2_1) rfl ?_
    exact kt
  by_cases hc235 : (Int32.ofNat a) < (Int32.ofNat b)
  · skip
    have H := P0.here
    refine Jvm.Y9.Aim.of (T' := s₁) (g' := (mkF m 10 #[.val (.int (Int32.ofNat a)), .val (.int (Int32.ofNat b))] [(.int (Int32.ofNat b))])) (fun tgt kt => ?_) ?_
    · refine XS.icmpYes H hx rfl (pc0 := 2) (pc' := 9) rfl (hb hby e2_2) rfl (tlt hc235).1 (by decide) (by decide) ?_
      refine XS.iloadN H hx rfl (hb hby e2_9) rfl ?_
      exact kt
    exact Jvm.Y9.Aim.retI P0 hx hlk hret (hb hby e2_10) (by decide) (by decide) ⟨(by rw [← own_max ha_ hb_, if_pos hc235]), rfl⟩
  · skip
    have H := P0.here
    refine Jvm.Y9.Aim.of (T' := s₁) (g' := (mkF m 10 #[.val (.int (Int32.ofNat a)), .val (.int (Int32.ofNat b))] [(.int (Int32.ofNat a))])) (fun tgt kt => ?_) ?_
    · refine XS.icmpNo H hx rfl (hb hby e2_2) rfl (flt hc235).1 ?_
      refine XS.iloadN H hx rfl (hb hby e2_5) rfl ?_
      refine XS.goto H hx rfl (pc0 := 6) (pc' := 10) rfl (hb hby e2_6) (by decide) (by decide) ?_
      exact kt
    exact Jvm.Y9.Aim.retI P0 hx hlk hret (hb hby e2_10) (by decide) (by decide) ⟨(by rw [← own_max ha_ hb_, if_neg hc235]), rfl⟩
theorem eh_0 : decode jdk_48_method_27_code 0 = .ok (.iload_n 0, 1) := by decide +kernel
theorem eh_1 : decode jdk_48_method_27_code 1 = .ok (.iload_n 1, 1) := by decide +kernel
theorem eh_2 : decode jdk_48_method_27_code 2 = .ok (.iload_n 2, 1) := by decide +kernel
theorem eh_3 : decode jdk_48_method_27_code 3 = .ok (.invokestatic 194, 3) := by decide +kernel
theorem pd__28II_29I : parseMethodDescriptor "(II)I" = some ⟨[.int, .int], some .int⟩ := by decide +kernel
theorem eh_6 : decode jdk_48_method_27_code 6 = .ok (.iadd, 1) := by decide +kernel
theorem eh_7 : decode jdk_48_method_27_code 7 = .ok (.istore_n 3, 1) := by decide +kernel
theorem eh_8 : decode jdk_48_method_27_code 8 = .ok (.iconst 0, 1) := by decide +kernel
theorem eh_9 : decode jdk_48_method_27_code 9 = .ok (.iload_n 3, 1) := by decide +kernel
theorem eh_10 : decode jdk_48_method_27_code 10 = .ok (.if_icmp .ge 11, 3) := by decide +kernel
theorem eh_13 : decode jdk_48_method_27_code 13 = .ok (.iload_n 3, 1) := by decide +kernel
theorem eh_14 : decode jdk_48_method_27_code 14 = .ok (.ldc 200, 2) := by decide +kernel
theorem eh_16 : decode jdk_48_method_27_code 16 = .ok (.if_icmp .gt 5, 3) := by decide +kernel
theorem eh_19 : decode jdk_48_method_27_code 19 = .ok (.iload_n 3, 1) := by decide +kernel
theorem eh_20 : decode jdk_48_method_27_code 20 = .ok (.ireturn, 1) := by decide +kernel
theorem pn_jdk_internal_util_ArraysSupport : plainName "jdk/internal/util/ArraysSupport" = true := by first | (simp [plainName, overriddenIn]; done) | decide +kernel
theorem own_nlen (l : Launch) (Z : State) (a0 : Array Value) (hw : ∀ d ∈ tables_1, d.before a0 Z = true) (a : Nat) (b : Nat) (d : Nat) (h0 : Heap) (n0 : Nat) (Z0 : n0 ≤ h0.size) (ha_ : a ≤ 20000) (hb_ : b ≤ 20000) (hd_ : d ≤ 20000) (hp_ : 0 < d) :
    Jvm.Y9.Con l Z (⟨"jdk/internal/util/ArraysSupport", "newLength", "(III)I"⟩ : MethodName) jdk_48_method_27_code 4 (some .int) ({ frames := 1, cells := 0, slots := 0, locals := 14 } : Room) n0 #[(.int (Int32.ofNat a)), (.int (Int32.ofNat b)), (.int (Int32.ofNat d))] h0 (fun v h => v = some (.int (Int32.ofNat (a + max b d))) ∧ h0 = h) := by
  refine Jvm.Y9.Con.intro (plainFor_of_name pn_jdk_internal_util_ArraysSupport) ?_
  intro p e s m below meth c s₁ hx hby hml hret hnm hown hlk hZ P0
  refine Jvm.Y9.Aim.cast (by first | (simp [entryFrame, mkF, argsToLocals, Value.category]; done) | rfl : entryFrame m #[(.int (Int32.ofNat a)), (.int (Int32.ofNat b)), (.int (Int32.ofNat d))] 4 = (mkF m 0 #[.val (.int (Int32.ofNat a)), .val (.int (Int32.ofNat b)), .val (.int (Int32.ofNat d)), .unset] [])) ?_
  have H := P0.here
  refine Jvm.Y9.Aim.of (T' := s₁) (g' := (mkF m 3 #[.val (.int (Int32.ofNat a)), .val (.int (Int32.ofNat b)), .val (.int (Int32.ofNat d)), .unset] [(.int (Int32.ofNat d)), (.int (Int32.ofNat b)), (.int (Int32.ofNat a))])) (fun tgt kt => ?_) ?_
  · refine XS.iloadN H hx rfl (hb hby eh_0) rfl ?_
    refine XS.iloadN H hx rfl (hb hby eh_1) rfl ?_
    refine XS.iloadN H hx rfl (hb hby eh_2) rfl ?_
    exact kt
  refine Jvm.Y9.Aim.callS (argsL := [(.int (Int32.ofNat b)), (.int (Int32.ofNat d))]) (rest := [(.int (Int32.ofNat a))]) P0 hx hZ hml hown (wI hw 125 rfl) (wI hw 126 rfl) (wI hw 127 rfl) (wI hw 128 rfl) (by decide) (Jvm.Y9.Con.back (W := 1) (own_max_ l Z a0 hw b d h0 n0 Z0 (by omega) (by omega)) hZ (wI hw 128 rfl) (wI hw 127 rfl) (by decide) (by decide)) rfl pd__28II_29I rfl (Nat.le_of_eq rfl) (hb hby eh_3) (by decide) (by decide) ?_
  intro z0 z1 z2 z3 z4
  obtain ⟨rfl, rfl⟩ := z4
  have H := z3.here
  refine Jvm.Y9.Aim.of (T' := z0) (g' := (mkF m 7 #[.val (.int (Int32.ofNat a)), .val (.int (Int32.ofNat b)), .val (.int (Int32.ofNat d)), .unset] [(.int ((Int32.ofNat a) + (Int32.ofNat (max b d))))])) (fun tgt kt => ?_) ?_
  · refine XS.iadd H hx rfl (hb hby eh_6) rfl ?_
    exact kt
  rw [show ((Int32.ofNat a) + (Int32.ofNat (max b d))) = (Int32.ofNat (a + max b d)) from own_add]
  show Jvm.Y9.Aim p e below s _ _ n0 _ z0 (mkF m 7 #[.val (.int (Int32.ofNat a)), .val (.int (Int32.ofNat b)), .val (.int (Int32.ofNat d)), .unset] [(.int (Int32.ofNat (a + max b d)))])
  have H := z3.here
  refine Jvm.Y9.Aim.of (T' := z0) (g' := (mkF m 14 #[.val (.int (Int32.ofNat a)), .val (.int (Int32.ofNat b)), .val (.int (Int32.ofNat d)), .val (.int (Int32.ofNat (a + max b d)))] [(.int (Int32.ofNat (a + max b d)))])) (fun tgt kt => ?_) ?_
  · refine XS.istoreN H hx rfl (hb hby eh_7) rfl (l' := #[.val (.int (Int32.ofNat a)), .val (.int (Int32.ofNat b)), .val (.int (Int32.ofNat d)), .val (.int (Int32.ofNat (a + max b d)))]) rfl ?_
    refine XS.iconst H hx rfl (hb hby eh_8) ?_
    refine XS.iloadN H hx rfl (hb hby eh_9) rfl ?_
    refine XS.icmpNo H hx rfl (hb hby eh_10) rfl (tlt (own_pos0 (by omega) (by omega))).2.1 ?_
    refine XS.iloadN H hx rfl (hb hby eh_13) rfl ?_
    exact kt
  refine Jvm.Y9.Aim.ldcI z3 hx hZ hown (wI hw 129 rfl) (hb hby eh_14) ?_
  have H := z3.here
  refine Jvm.Y9.Aim.of (T' := z0) (g' := (mkF m 20 #[.val (.int (Int32.ofNat a)), .val (.int (Int32.ofNat b)), .val (.int (Int32.ofNat d)), .val (.int (Int32.ofNat (a + max b d)))] [(.int (Int32.ofNat (a + max b d)))])) (fun tgt kt => ?_) ?_
  · refine XS.icmpNo H hx rfl (hb hby eh_16) rfl (flt (own_big (by omega)).1).2.2.1 ?_
    refine XS.iloadN H hx rfl (hb hby eh_19) rfl ?_
    exact kt
  exact Jvm.Y9.Aim.retI z3 hx hlk hret (hb hby eh_20) (by decide) (by decide) ⟨rfl, rfl⟩
theorem er_0 : decode jdk_68_method_10_code 0 = .ok (.aload_n 0, 1) := by decide +kernel
theorem er_1 : decode jdk_68_method_10_code 1 = .ok (.getfield 15, 3) := by decide +kernel
theorem er_4 : decode jdk_68_method_10_code 4 = .ok (.arraylength, 1) := by decide +kernel
theorem er_5 : decode jdk_68_method_10_code 5 = .ok (.istore_n 2, 1) := by decide +kernel
theorem er_6 : decode jdk_68_method_10_code 6 = .ok (.iload_n 1, 1) := by decide +kernel
theorem er_7 : decode jdk_68_method_10_code 7 = .ok (.aload_n 0, 1) := by decide +kernel
theorem er_8 : decode jdk_68_method_10_code 8 = .ok (.getfield 22, 3) := by decide +kernel
theorem er_11 : decode jdk_68_method_10_code 11 = .ok (.ishl, 1) := by decide +kernel
theorem er_12 : decode jdk_68_method_10_code 12 = .ok (.istore_n 3, 1) := by decide +kernel
theorem er_13 : decode jdk_68_method_10_code 13 = .ok (.iload_n 3, 1) := by decide +kernel
theorem er_14 : decode jdk_68_method_10_code 14 = .ok (.iload_n 2, 1) := by decide +kernel
theorem er_15 : decode jdk_68_method_10_code 15 = .ok (.isub, 1) := by decide +kernel
theorem er_16 : decode jdk_68_method_10_code 16 = .ok (.istore 4, 2) := by decide +kernel
theorem er_18 : decode jdk_68_method_10_code 18 = .ok (.iload_n 2, 1) := by decide +kernel
theorem er_19 : decode jdk_68_method_10_code 19 = .ok (.iload 4, 2) := by decide +kernel
theorem er_21 : decode jdk_68_method_10_code 21 = .ok (.iload_n 2, 1) := by decide +kernel
theorem er_22 : decode jdk_68_method_10_code 22 = .ok (.iconst 2, 1) := by decide +kernel
theorem er_23 : decode jdk_68_method_10_code 23 = .ok (.aload_n 0, 1) := by decide +kernel
theorem er_24 : decode jdk_68_method_10_code 24 = .ok (.getfield 22, 3) := by decide +kernel
theorem er_27 : decode jdk_68_method_10_code 27 = .ok (.ishl, 1) := by decide +kernel
theorem er_28 : decode jdk_68_method_10_code 28 = .ok (.iadd, 1) := by decide +kernel
theorem er_29 : decode jdk_68_method_10_code 29 = .ok (.invokestatic 114, 3) := by decide +kernel
theorem pd__28III_29I : parseMethodDescriptor "(III)I" = some ⟨[.int, .int, .int], some .int⟩ := by decide +kernel
theorem er_32 : decode jdk_68_method_10_code 32 = .ok (.istore 5, 2) := by decide +kernel
theorem er_34 : decode jdk_68_method_10_code 34 = .ok (.iload 5, 2) := by decide +kernel
theorem er_36 : decode jdk_68_method_10_code 36 = .ok (.ldc 39, 2) := by decide +kernel
theorem er_38 : decode jdk_68_method_10_code 38 = .ok (.if_icmp .ne 13, 3) := by decide +kernel
theorem er_51 : decode jdk_68_method_10_code 51 = .ok (.iload 5, 2) := by decide +kernel
theorem er_53 : decode jdk_68_method_10_code 53 = .ok (.aload_n 0, 1) := by decide +kernel
theorem er_54 : decode jdk_68_method_10_code 54 = .ok (.getfield 22, 3) := by decide +kernel
theorem er_57 : decode jdk_68_method_10_code 57 = .ok (.ishr, 1) := by decide +kernel
theorem er_58 : decode jdk_68_method_10_code 58 = .ok (.ireturn, 1) := by decide +kernel
theorem own_ncap (l : Launch) (Z : State) (a0 : Array Value) (hw : ∀ d ∈ tables_1, d.before a0 Z = true) (x : Addr) (t : Addr) (kb : ClassId) (cs : List Int32) (cap : Nat) (mm : Nat) (h0 : Heap) (n0 : Nat) (Z0 : n0 ≤ h0.size) (F0 : Bld Z h0 x t kb cs cap) (hm : cap < mm) (hc : cap ≤ 100) (hM : ncap cap mm ≤ 100) (hm9 : mm ≤ 10000) :
    Jvm.Y9.Con l Z (⟨"java/lang/AbstractStringBuilder", "newCapacity", "(I)I"⟩ : MethodName) jdk_68_method_10_code 6 (some .int) ({ frames := 2, cells := 0, slots := 0, locals := 29 } : Room) n0 #[(.ref x), (.int (Int32.ofNat mm))] h0 (fun v h => v = some (.int (Int32.ofNat (ncap cap mm))) ∧ h0 = h) := by
  refine Jvm.Y9.Con.intro (plainFor_of_name pn_java_lang_AbstractStringBuilder) ?_
  intro p e s m below meth c s₁ hx hby hml hret hnm hown hlk hZ P0
  refine Jvm.Y9.Aim.cast (by first | (simp [entryFrame, mkF, argsToLocals, Value.category]; done) | rfl : entryFrame m #[(.ref x), (.int (Int32.ofNat mm))] 6 = (mkF m 0 #[.val (.ref x), .val (.int (Int32.ofNat mm)), .unset, .unset, .unset, .unset] [])) ?_
  have hM' : cap + max (mm - cap) (cap + 2) ≤ 100 := hM
  have H := P0.here
  refine Jvm.Y9.Aim.of (T' := s₁) (g' := (mkF m 1 #[.val (.ref x), .val (.int (Int32.ofNat mm)), .unset, .unset, .unset, .unset] [(.ref x)])) (fun tgt kt => ?_) ?_
  · refine XS.aloadN H hx rfl (hb hby er_0) rfl rfl ?_
    exact kt
  refine Jvm.Y9.Aim.getF P0 hx hZ hown (host := "") (Or.inl (wI hw 64 rfl)) Via.refl F0.2.1 (hb hby er_1) ?_
  intro z0 z1
  refine Jvm.Y9.Aim.alen z1 hx hZ F0.2.2.2.2 (hb hby er_4) ?_
  have H := z1.here
  refine Jvm.Y9.Aim.of (T' := z0) (g' := (mkF m 8 #[.val (.ref x), .val (.int (Int32.ofNat mm)), .val (.int (Int32.ofNat cap)), .unset, .unset, .unset] [(.ref x), (.int (Int32.ofNat mm))])) (fun tgt kt => ?_) ?_
  · refine XS.istoreN H hx rfl (hb hby er_5) rfl (l' := #[.val (.ref x), .val (.int (Int32.ofNat mm)), .val (.int (Int32.ofNat cap)), .unset, .unset, .unset]) rfl ?_
    refine XS.iloadN H hx rfl (hb hby er_6) rfl ?_
    refine XS.aloadN H hx rfl (hb hby er_7) rfl rfl ?_
    exact kt
  refine Jvm.Y9.Aim.getF z1 hx hZ hown (host := "") (Or.inl (wI hw 66 rfl)) Via.refl F0.2.2.1 (hb hby er_8) ?_
  intro z2 z3
  have H := z3.here
  refine Jvm.Y9.Aim.of (T' := z2) (g' := (mkF m 12 #[.val (.ref x), .val (.int (Int32.ofNat mm)), .val (.int (Int32.ofNat cap)), .unset, .unset, .unset] [(.int ((Int32.ofNat mm) <<< ((0 : Int32) &&& 31)))])) (fun tgt kt => ?_) ?_
  · refine XS.ishl H hx rfl (hb hby er_11) rfl ?_
    exact kt
  rw [show ((Int32.ofNat mm) <<< ((0 : Int32) &&& 31)) = (Int32.ofNat mm) from own_shl0 _]
  show Jvm.Y9.Aim p e below s _ _ n0 _ z2 (mkF m 12 #[.val (.ref x), .val (.int (Int32.ofNat mm)), .val (.int (Int32.ofNat cap)), .unset, .unset, .unset] [(.int (Int32.ofNat mm))])
  have H := z3.here
  refine Jvm.Y9.Aim.of (T' := z2) (g' := (mkF m 16 #[.val (.ref x), .val (.int (Int32.ofNat mm)), .val (.int (Int32.ofNat cap)), .val (.int (Int32.ofNat mm)), .unset, .unset] [(.int ((Int32.ofNat mm) - (Int32.ofNat cap)))])) (fun tgt kt => ?_) ?_
  · refine XS.istoreN H hx rfl (hb hby er_12) rfl (l' := #[.val (.ref x), .val (.int (Int32.ofNat mm)), .val (.int (Int32.ofNat cap)), .val (.int (Int32.ofNat mm)), .unset, .unset]) rfl ?_
    refine XS.iloadN H hx rfl (hb hby er_13) rfl ?_
    refine XS.iloadN H hx rfl (hb hby er_14) rfl ?_
    refine XS.isub H hx rfl (hb hby er_15) rfl ?_
    exact kt
  rw [show ((Int32.ofNat mm) - (Int32.ofNat cap)) = (Int32.ofNat (mm - cap)) from own_subN (by omega)]
  show Jvm.Y9.Aim p e below s _ _ n0 _ z2 (mkF m 16 #[.val (.ref x), .val (.int (Int32.ofNat mm)), .val (.int (Int32.ofNat cap)), .val (.int (Int32.ofNat mm)), .unset, .unset] [(.int (Int32.ofNat (mm - cap)))])
  have H := z3.here
  refine Jvm.Y9.Aim.of (T' := z2) (g' := (mkF m 24 #[.val (.ref x), .val (.int (Int32.ofNat mm)), .val (.int (Int32.ofNat cap)), .val (.int (Int32.ofNat mm)), .val (.int (Int32.ofNat (mm - cap))), .unset] [(.ref x), (.int 2), (.int (Int32.ofNat cap)), (.int (Int32.ofNat (mm - cap))), (.int (Int32.ofNat cap))])) (fun tgt kt => ?_) ?_
  · refine XS.istore H hx rfl (hb hby er_16) rfl (l' := #[.val (.ref x), .val (.int (Int32.ofNat mm)), .val (.int (Int32.ofNat cap)), .val (.int (Int32.ofNat mm)), .val (.int (Int32.ofNat (mm - cap))), .unset]) rfl ?_
    refine XS.iloadN H hx rfl (hb hby er_18) rfl ?_
    refine XS.iload H hx rfl (hb hby er_19) rfl ?_
    refine XS.iloadN H hx rfl (hb hby er_21) rfl ?_
    refine XS.iconst H hx rfl (hb hby er_22) ?_
    refine XS.aloadN H hx rfl (hb hby er_23) rfl rfl ?_
    exact kt
  refine Jvm.Y9.Aim.getF z3 hx hZ hown (host := "") (Or.inl (wI hw 66 rfl)) Via.refl F0.2.2.1 (hb hby er_24) ?_
  intro z4 z5
  have H := z5.here
  refine Jvm.Y9.Aim.of (T' := z4) (g' := (mkF m 28 #[.val (.ref x), .val (.int (Int32.ofNat mm)), .val (.int (Int32.ofNat cap)), .val (.int (Int32.ofNat mm)), .val (.int (Int32.ofNat (mm - cap))), .unset] [(.int ((2 : Int32) <<< ((0 : Int32) &&& 31))), (.int (Int32.ofNat cap)), (.int (Int32.ofNat (mm - cap))), (.int (Int32.ofNat cap))])) (fun tgt kt => ?_) ?_
  · refine XS.ishl H hx rfl (hb hby er_27) rfl ?_
    exact kt
  rw [show ((2 : Int32) <<< ((0 : Int32) &&& 31)) = (2 : Int32) from own_two]
  show Jvm.Y9.Aim p e below s _ _ n0 _ z4 (mkF m 28 #[.val (.ref x), .val (.int (Int32.ofNat mm)), .val (.int (Int32.ofNat cap)), .val (.int (Int32.ofNat mm)), .val (.int (Int32.ofNat (mm - cap))), .unset] [(.int 2), (.int (Int32.ofNat cap)), (.int (Int32.ofNat (mm - cap))), (.int (Int32.ofNat cap))])
  have H := z5.here
  refine Jvm.Y9.Aim.of (T' := z4) (g' := (mkF m 29 #[.val (.ref x), .val (.int (Int32.ofNat mm)), .val (.int (Int32.ofNat cap)), .val (.int (Int32.ofNat mm)), .val (.int (Int32.ofNat (mm - cap))), .unset] [(.int ((Int32.ofNat cap) + (2 : Int32))), (.int (Int32.ofNat (mm - cap))), (.int (Int32.ofNat cap))])) (fun tgt kt => ?_) ?_
  · refine XS.iadd H hx rfl (hb hby er_28) rfl ?_
    exact kt
  rw [show ((Int32.ofNat cap) + (2 : Int32)) = (Int32.ofNat (cap + 2)) from own_add2 _]
  show Jvm.Y9.Aim p e below s _ _ n0 _ z4 (mkF m 29 #[.val (.ref x), .val (.int (Int32.ofNat mm)), .val (.int (Int32.ofNat cap)), .val (.int (Int32.ofNat mm)), .val (.int (Int32.ofNat (mm - cap))), .unset] [(.int (Int32.ofNat (cap + 2))), (.int (Int32.ofNat (mm - cap))), (.int (Int32.ofNat cap))])
  refine Jvm.Y9.Aim.callS (argsL := [(.int (Int32.ofNat cap)), (.int (Int32.ofNat (mm - cap))), (.int (Int32.ofNat (cap + 2)))]) (rest := []) z5 hx hZ hml hown (wI hw 121 rfl) (wI hw 122 rfl) (wI hw 123 rfl) (wI hw 124 rfl) (by decide) (Jvm.Y9.Con.back (W := 0) (own_nlen l Z a0 hw cap (mm - cap) (cap + 2) h0 n0 Z0 (by omega) (by omega) (by omega) (by omega)) hZ (wI hw 124 rfl) (wI hw 123 rfl) (by decide) (by decide)) rfl pd__28III_29I rfl (Nat.le_of_eq rfl) (hb hby er_29) (by decide) (by decide) ?_
  intro z6 z7 z8 z9 za
  obtain ⟨rfl, rfl⟩ := za
  have H := z9.here
  refine Jvm.Y9.Aim.of (T' := z6) (g' := (mkF m 36 #[.val (.ref x), .val (.int (Int32.ofNat mm)), .val (.int (Int32.ofNat cap)), .val (.int (Int32.ofNat mm)), .val (.int (Int32.ofNat (mm - cap))), .val (.int (Int32.ofNat (cap + max (mm - cap) (cap + 2))))] [(.int (Int32.ofNat (cap + max (mm - cap) (cap + 2))))])) (fun tgt kt => ?_) ?_
  · refine XS.istore H hx rfl (hb hby er_32) rfl (l' := #[.val (.ref x), .val (.int (Int32.ofNat mm)), .val (.int (Int32.ofNat cap)), .val (.int (Int32.ofNat mm)), .val (.int (Int32.ofNat (mm - cap))), .val (.int (Int32.ofNat (cap + max (mm - cap) (cap + 2))))]) rfl ?_
    refine XS.iload H hx rfl (hb hby er_34) rfl ?_
    exact kt
  refine Jvm.Y9.Aim.ldcI z9 hx hZ hown (wI hw 130 rfl) (hb hby er_36) ?_
  have H := z9.here
  refine Jvm.Y9.Aim.of (T' := z6) (g' := (mkF m 54 #[.val (.ref x), .val (.int (Int32.ofNat mm)), .val (.int (Int32.ofNat cap)), .val (.int (Int32.ofNat mm)), .val (.int (Int32.ofNat (mm - cap))), .val (.int (Int32.ofNat (cap + max (mm - cap) (cap + 2))))] [(.ref x), (.int (Int32.ofNat (cap + max (mm - cap) (cap + 2))))])) (fun tgt kt => ?_) ?_
  · refine XS.icmpYes H hx rfl (pc0 := 38) (pc' := 51) rfl (hb hby er_38) rfl (feq (own_big (by omega)).2).2 (by decide) (by decide) ?_
    refine XS.iload H hx rfl (hb hby er_51) rfl ?_
    refine XS.aloadN H hx rfl (hb hby er_53) rfl rfl ?_
    exact kt
  refine Jvm.Y9.Aim.getF z9 hx hZ hown (host := "") (Or.inl (wI hw 66 rfl)) Via.refl F0.2.2.1 (hb hby er_54) ?_
  intro zb zc
  have H := zc.here
  refine Jvm.Y9.Aim.of (T' := zb) (g' := (mkF m 58 #[.val (.ref x), .val (.int (Int32.ofNat mm)), .val (.int (Int32.ofNat cap)), .val (.int (Int32.ofNat mm)), .val (.int (Int32.ofNat (mm - cap))), .val (.int (Int32.ofNat (cap + max (mm - cap) (cap + 2))))] [(.int ((Int32.ofNat (cap + max (mm - cap) (cap + 2))) >>> ((0 : Int32) &&& 31)))])) (fun tgt kt => ?_) ?_
  · refine XS.ishr H hx rfl (hb hby er_57) rfl ?_
    exact kt
  rw [show ((Int32.ofNat (cap + max (mm - cap) (cap + 2))) >>> ((0 : Int32) &&& 31)) = (Int32.ofNat (cap + max (mm - cap) (cap + 2))) from own_shr0 _]
  show Jvm.Y9.Aim p e below s _ _ n0 _ zb (mkF m 58 #[.val (.ref x), .val (.int (Int32.ofNat mm)), .val (.int (Int32.ofNat cap)), .val (.int (Int32.ofNat mm)), .val (.int (Int32.ofNat (mm - cap))), .val (.int (Int32.ofNat (cap + max (mm - cap) (cap + 2))))] [(.int (Int32.ofNat (cap + max (mm - cap) (cap + 2))))])
  exact Jvm.Y9.Aim.retI zc hx hlk hret (hb hby er_58) (by decide) (by decide) ⟨rfl, rfl⟩
theorem e3_0 : decode jdk_29_method_69_code 0 = .ok (.iload_n 0, 1) := by decide +kernel
theorem e3_1 : decode jdk_29_method_69_code 1 = .ok (.iload_n 1, 1) := by decide +kernel
theorem e3_2 : decode jdk_29_method_69_code 2 = .ok (.if_icmp .gt 7, 3) := by decide +kernel
theorem e3_5 : decode jdk_29_method_69_code 5 = .ok (.iload_n 0, 1) := by decide +kernel
theorem e3_6 : decode jdk_29_method_69_code 6 = .ok (.goto 4, 3) := by decide +kernel
theorem e3_10 : decode jdk_29_method_69_code 10 = .ok (.ireturn, 1) := by decide +kernel
theorem own_minL (l : Launch) (Z : State) (a0 : Array Value) (hw : ∀ d ∈ tables_1, d.before a0 Z = true) (a : Int32) (b : Int32) (h0 : Heap) (n0 : Nat) (Z0 : n0 ≤ h0.size) (hba : ¬ (b < a)) :
    Jvm.Y9.Con l Z (⟨"java/lang/Math", "min", "(II)I"⟩ : MethodName) jdk_29_method_69_code 2 (some .int) ({ frames := 0, cells := 0, slots := 0, locals := 0 } : Room) n0 #[(.int a), (.int b)] h0 (fun v h => v = some (.int a) ∧ h0 = h) := by
  refine Jvm.Y9.Con.intro (Jvm.Free.JP.mathPlain rfl (by decide +kernel)) ?_
  intro p e s m below meth c s₁ hx hby hml hret hnm hown hlk hZ P0
  refine Jvm.Y9.Aim.cast (by first | (simp [entryFrame, mkF, argsToLocals, Value.category]; done) | rfl : entryFrame m #[(.int a), (.int b)] 2 = (mkF m 0 #[.val (.int a), .val (.int b)] [])) ?_
  have H := P0.here
  refine Jvm.Y9.Aim.of (T' := s₁) (g' := (mkF m 10 #[.val (.int a), .val (.int b)] [(.int a)])) (fun tgt kt => ?_) ?_
  · refine XS.iloadN H hx rfl (hb hby e3_0) rfl ?_
    refine XS.iloadN H hx rfl (hb hby e3_1) rfl ?_
    refine XS.icmpNo H hx rfl (hb hby e3_2) rfl (flt hba).2.2.1 ?_
    refine XS.iloadN H hx rfl (hb hby e3_5) rfl ?_
    refine XS.goto H hx rfl (pc0 := 6) (pc' := 10) rfl (hb hby e3_6) (by decide) (by decide) ?_
    exact kt
  exact Jvm.Y9.Aim.retI P0 hx hlk hret (hb hby e3_10) (by decide) (by decide) ⟨rfl, rfl⟩
theorem ei_0 : decode jdk_65_method_121_code 0 = .ok (.iload_n 1, 1) := by decide +kernel
theorem ei_1 : decode jdk_65_method_121_code 1 = .ok (.aload_n 0, 1) := by decide +kernel
theorem ei_2 : decode jdk_65_method_121_code 2 = .ok (.arraylength, 1) := by decide +kernel
theorem ei_3 : decode jdk_65_method_121_code 3 = .ok (.if_icmp .ne 11, 3) := by decide +kernel
theorem ei_14 : decode jdk_65_method_121_code 14 = .ok (.iload_n 1, 1) := by decide +kernel
theorem ei_15 : decode jdk_65_method_121_code 15 = .ok (.newarray .byte, 2) := by decide +kernel
theorem ei_17 : decode jdk_65_method_121_code 17 = .ok (.astore_n 2, 1) := by decide +kernel
theorem ei_18 : decode jdk_65_method_121_code 18 = .ok (.aload_n 0, 1) := by decide +kernel
theorem ei_19 : decode jdk_65_method_121_code 19 = .ok (.iconst 0, 1) := by decide +kernel
theorem ei_20 : decode jdk_65_method_121_code 20 = .ok (.aload_n 2, 1) := by decide +kernel
theorem ei_21 : decode jdk_65_method_121_code 21 = .ok (.iconst 0, 1) := by decide +kernel
theorem ei_22 : decode jdk_65_method_121_code 22 = .ok (.aload_n 0, 1) := by decide +kernel
theorem ei_23 : decode jdk_65_method_121_code 23 = .ok (.arraylength, 1) := by decide +kernel
theorem ei_24 : decode jdk_65_method_121_code 24 = .ok (.iload_n 1, 1) := by decide +kernel
theorem ei_25 : decode jdk_65_method_121_code 25 = .ok (.invokestatic 304, 3) := by decide +kernel
theorem ei_28 : decode jdk_65_method_121_code 28 = .ok (.invokestatic 150, 3) := by decide +kernel
theorem ei_31 : decode jdk_65_method_121_code 31 = .ok (.aload_n 2, 1) := by decide +kernel
theorem ei_32 : decode jdk_65_method_121_code 32 = .ok (.areturn, 1) := by decide +kernel
theorem pn_java_util_Arrays : plainName "java/util/Arrays" = true := by first | (simp [plainName, overriddenIn]; done) | decide +kernel
theorem own_cpy (l : Launch) (Z : State) (a0 : Array Value) (hw : ∀ d ∈ tables_1, d.before a0 Z = true) (t : Addr) (kb : ClassId) (cs : List Int32) (cap : Nat) (nn : Nat) (h0 : Heap) (n0 : Nat) (Z0 : n0 ≤ h0.size) (F0 : Arv Z h0 t kb .byte (Int32.ofNat cap) (fill cs cap) (.int 0)) (hl : cs.length ≤ cap) (hn : cap < nn) (hM : nn ≤ 100) :
    Jvm.Y9.Con l Z (⟨"java/util/Arrays", "copyOf", "([BI)[B"⟩ : MethodName) jdk_65_method_121_code 3 (some (.array .byte)) ({ frames := 1, cells := 1, slots := 100, locals := 18 } : Room) n0 #[(.ref t), (.int (Int32.ofNat nn))] h0 (fun v h => ∃ t2 : Addr, ∃ k2 : ClassId, v = some (.ref t2) ∧ Keep h0 h [] ∧ h0.size ≤ t2 ∧ Arv Z h t2 k2 .byte (Int32.ofNat nn) (fill cs nn) (.int 0)) := by
  refine Jvm.Y9.Con.intro (plainFor_of_name pn_java_util_Arrays) ?_
  intro p e s m below meth c s₁ hx hby hml hret hnm hown hlk hZ P0
  refine Jvm.Y9.Aim.cast (by first | (simp [entryFrame, mkF, argsToLocals, Value.category]; done) | rfl : entryFrame m #[(.ref t), (.int (Int32.ofNat nn))] 3 = (mkF m 0 #[.val (.ref t), .val (.int (Int32.ofNat nn)), .unset] [])) ?_
  have H := P0.here
  refine Jvm.Y9.Aim.of (T' := s₁) (g' := (mkF m 2 #[.val (.ref t), .val (.int (Int32.ofNat nn)), .unset] [(.ref t), (.int (Int32.ofNat nn))])) (fun tgt kt => ?_) ?_
  · refine XS.iloadN H hx rfl (hb hby ei_0) rfl ?_
    refine XS.aloadN H hx rfl (hb hby ei_1) rfl rfl ?_
    exact kt
  refine Jvm.Y9.Aim.alen P0 hx hZ F0 (hb hby ei_2) ?_
  have H := P0.here
  refine Jvm.Y9.Aim.of (T' := s₁) (g' := (mkF m 15 #[.val (.ref t), .val (.int (Int32.ofNat nn)), .unset] [(.int (Int32.ofNat nn))])) (fun tgt kt => ?_) ?_
  · refine XS.icmpYes H hx rfl (pc0 := 3) (pc' := 14) rfl (hb hby ei_3) rfl (feq (own_ne (by omega) (by omega) (by omega))).2 (by decide) (by decide) ?_
    refine XS.iloadN H hx rfl (hb hby ei_14) rfl ?_
    exact kt
  refine Jvm.Y9.Aim.newP (z := (Int32.ofNat nn)) P0 hx hZ (wI hw 20 rfl) (hb hby ei_15) (own_clamp (n := nn) (by omega)).2.1 (cap := 100) (lT (Nat.le_of_eq (own_clamp (n := nn) (by omega)).1) hM) (by decide) (by decide) (by decide) ?_
  intro z0 z1 z2 z3 z4 z5 z6 z7
  have z8 : Keep h0 z1 [] := (Keep.refl _ _).ext z6
  have z9 : Keep h0 z1 [] := (Keep.refl h0 []).trans z8 all0
  have za : Arv Z z1 z3 z2 .byte (Int32.ofNat nn) (List.replicate nn (Value.int (0 : Int32))) (.int 0) := z7.pad (pad_rep [] (Value.int (0 : Int32)) nn)
  have H := z5.here
  refine Jvm.Y9.Aim.of (T' := z0) (g' := (mkF m 23 #[.val (.ref t), .val (.int (Int32.ofNat nn)), .val (.ref z3)] [(.ref t), (.int 0), (.ref z3), (.int 0), (.ref t)])) (fun tgt kt => ?_) ?_
  · refine XS.astoreN H hx rfl (hb hby ei_17) rfl rfl (l' := #[.val (.ref t), .val (.int (Int32.ofNat nn)), .val (.ref z3)]) rfl ?_
    refine XS.aloadN H hx rfl (hb hby ei_18) rfl rfl ?_
    refine XS.iconst H hx rfl (hb hby ei_19) ?_
    refine XS.aloadN H hx rfl (hb hby ei_20) rfl rfl ?_
    refine XS.iconst H hx rfl (hb hby ei_21) ?_
    refine XS.aloadN H hx rfl (hb hby ei_22) rfl rfl ?_
    exact kt
  have zb : Arv Z z1 t kb .byte (Int32.ofNat cap) (fill cs cap) (.int 0) := (F0.keep z8 nin0)
  refine Jvm.Y9.Aim.alen z5 hx hZ zb (hb hby ei_23) ?_
  have H := z5.here
  refine Jvm.Y9.Aim.of (T' := z0) (g' := (mkF m 25 #[.val (.ref t), .val (.int (Int32.ofNat nn)), .val (.ref z3)] [(.int (Int32.ofNat nn)), (.int (Int32.ofNat cap)), (.int 0), (.ref z3), (.int 0), (.ref t)])) (fun tgt kt => ?_) ?_
  · refine XS.iloadN H hx rfl (hb hby ei_24) rfl ?_
    exact kt
  refine Jvm.Y9.Aim.callS (argsL := [(.int (Int32.ofNat cap)), (.int (Int32.ofNat nn))]) (rest := [(.int 0), (.ref z3), (.int 0), (.ref t)]) z5 hx hZ hml hown (wI hw 135 rfl) (wI hw 136 rfl) (wI hw 127 rfl) (wI hw 137 rfl) (by decide) (Jvm.Y9.Con.back (W := 4) (own_minL l Z a0 hw (Int32.ofNat cap) (Int32.ofNat nn) z1 n0 (lT Z0 (z9.1)) (own_nlt (by omega) (by omega))) hZ (wI hw 137 rfl) (wI hw 127 rfl) (by decide) (by decide)) rfl pd__28II_29I rfl (Nat.le_of_eq rfl) (hb hby ei_25) (by decide) (by decide) ?_
  intro zc zd ze zf zg
  obtain ⟨rfl, rfl⟩ := zg
  refine Jvm.Y9.Aim.cpA (rest := []) zf hx hZ hml hown (wI hw 138 rfl) (wI hw 115 rfl) (wI hw 113 rfl) (wI hw 114 rfl) zb za (Or.inl ⟨rfl, rfl⟩) (by decide) (by decide) (own_clamp (n := cap) (by omega)).2.1 (by rw [(own_clamp (n := cap) (by omega)).1, show (0 : Int32).toNatClampNeg = 0 from by decide]; omega) (by rw [(own_clamp (n := cap) (by omega)).1, (own_clamp (n := nn) (by omega)).1, show (0 : Int32).toNatClampNeg = 0 from by decide]; omega) rfl (by rw [(own_clamp (n := cap) (by omega)).1, show (0 : Int32).toNatClampNeg = 0 from by decide]; simp; omega) (lT Z0 (Nat.le_of_eq z4.symm)) rfl (hb hby ei_28) (by decide) (by decide) ?_
  intro zh zi zj zk zl
  have zm : Arv Z zi z3 z2 .byte (Int32.ofNat nn) (fill cs nn) (.int 0) := Jvm.Y9.arv_eq zl (fill_grow hl hn (by omega))
  have zn : Keep h0 zi [] := z9.trans zk (allS (Or.inr (lT (Nat.le_refl _) (Nat.le_of_eq z4.symm))) all0)
  have H := zj.here
  refine Jvm.Y9.Aim.of (T' := zh) (g' := (mkF m 32 #[.val (.ref t), .val (.int (Int32.ofNat nn)), .val (.ref z3)] [(.ref z3)])) (fun tgt kt => ?_) ?_
  · refine XS.aloadN H hx rfl (hb hby ei_31) rfl rfl ?_
    exact kt
  exact Jvm.Y9.Aim.retA zj hx hlk hret rfl rfl (hb hby ei_32) (by decide) (by decide) ⟨z3, z2, rfl, zn, (lT (Nat.le_refl _) (Nat.le_of_eq z4.symm)), zm⟩
theorem e10_17 : decode jdk_68_method_9_code 17 = .ok (.aload_n 0, 1) := by decide +kernel
theorem e10_18 : decode jdk_68_method_9_code 18 = .ok (.aload_n 0, 1) := by decide +kernel
theorem e10_19 : decode jdk_68_method_9_code 19 = .ok (.getfield 15, 3) := by decide +kernel
theorem e10_22 : decode jdk_68_method_9_code 22 = .ok (.aload_n 0, 1) := by decide +kernel
theorem e10_23 : decode jdk_68_method_9_code 23 = .ok (.iload_n 1, 1) := by decide +kernel
theorem e10_24 : decode jdk_68_method_9_code 24 = .ok (.invokevirtual 104, 3) := by decide +kernel
theorem e10_27 : decode jdk_68_method_9_code 27 = .ok (.aload_n 0, 1) := by decide +kernel
theorem e10_28 : decode jdk_68_method_9_code 28 = .ok (.getfield 22, 3) := by decide +kernel
theorem e10_31 : decode jdk_68_method_9_code 31 = .ok (.ishl, 1) := by decide +kernel
theorem e10_32 : decode jdk_68_method_9_code 32 = .ok (.invokestatic 108, 3) := by decide +kernel
theorem pd__28_5bBI_29_5bB : parseMethodDescriptor "([BI)[B" = some ⟨[(.array .byte), .int], some (.array .byte)⟩ := by decide +kernel
theorem e10_35 : decode jdk_68_method_9_code 35 = .ok (.putfield 15, 3) := by decide +kernel
theorem own_ensG (l : Launch) (Z : State) (a0 : Array Value) (hw : ∀ d ∈ tables_1, d.before a0 Z = true) (x : Addr) (t : Addr) (kb : ClassId) (cs : List Int32) (cap : Nat) (mm : Nat) (h0 : Heap) (n0 : Nat) (Z0 : n0 ≤ h0.size) (g_x : n0 ≤ x) (F0 : Bld Z h0 x t kb cs cap) (hm : cap < mm) (hc : cap ≤ 100) (hM : ncap cap mm ≤ 100) (hm9 : mm ≤ 10000) (hl : cs.length ≤ cap) :
    Jvm.Y9.Con l Z (⟨"java/lang/AbstractStringBuilder", "ensureCapacityInternal", "(I)V"⟩ : MethodName) jdk_68_method_9_code 3 none ({ frames := 3, cells := 1, slots := 100, locals := 48 } : Room) n0 #[(.ref x), (.int (Int32.ofNat mm))] h0 (fun v h => ∃ t2 : Addr, ∃ k2 : ClassId, v = none ∧ Keep h0 h [x] ∧ h0.size ≤ t2 ∧ Bld Z h x t2 k2 cs (ncap cap mm)) := by
  refine Jvm.Y9.Con.intro (plainFor_of_name pn_java_lang_AbstractStringBuilder) ?_
  intro p e s m below meth c s₁ hx hby hml hret hnm hown hlk hZ P0
  refine Jvm.Y9.Aim.cast (by first | (simp [entryFrame, mkF, argsToLocals, Value.category]; done) | rfl : entryFrame m #[(.ref x), (.int (Int32.ofNat mm))] 3 = (mkF m 0 #[.val (.ref x), .val (.int (Int32.ofNat mm)), .unset] [])) ?_
  have H := P0.here
  refine Jvm.Y9.Aim.of (T' := s₁) (g' := (mkF m 1 #[.val (.ref x), .val (.int (Int32.ofNat mm)), .unset] [(.ref x)])) (fun tgt kt => ?_) ?_
  · refine XS.aloadN H hx rfl (hb hby e10_0) rfl rfl ?_
    exact kt
  refine Jvm.Y9.Aim.getF P0 hx hZ hown (host := "") (Or.inl (wI hw 64 rfl)) Via.refl F0.2.1 (hb hby e10_1) ?_
  intro z0 z1
  refine Jvm.Y9.Aim.alen z1 hx hZ F0.2.2.2.2 (hb hby e10_4) ?_
  have H := z1.here
  refine Jvm.Y9.Aim.of (T' := z0) (g' := (mkF m 6 #[.val (.ref x), .val (.int (Int32.ofNat mm)), .unset] [(.ref x), (.int (Int32.ofNat cap))])) (fun tgt kt => ?_) ?_
  · refine XS.aloadN H hx rfl (hb hby e10_5) rfl rfl ?_
    exact kt
  refine Jvm.Y9.Aim.getF z1 hx hZ hown (host := "") (Or.inl (wI hw 66 rfl)) Via.refl F0.2.2.1 (hb hby e10_6) ?_
  intro z2 z3
  have H := z3.here
  refine Jvm.Y9.Aim.of (T' := z2) (g' := (mkF m 10 #[.val (.ref x), .val (.int (Int32.ofNat mm)), .unset] [(.int ((Int32.ofNat cap) >>> ((0 : Int32) &&& 31)))])) (fun tgt kt => ?_) ?_
  · refine XS.ishr H hx rfl (hb hby e10_9) rfl ?_
    exact kt
  rw [show ((Int32.ofNat cap) >>> ((0 : Int32) &&& 31)) = (Int32.ofNat cap) from own_shr0 _]
  show Jvm.Y9.Aim p e below s _ _ n0 _ z2 (mkF m 10 #[.val (.ref x), .val (.int (Int32.ofNat mm)), .unset] [(.int (Int32.ofNat cap))])
  have H := z3.here
  refine Jvm.Y9.Aim.of (T' := z2) (g' := (mkF m 19 #[.val (.ref x), .val (.int (Int32.ofNat mm)), .val (.int (Int32.ofNat cap))] [(.ref x), (.ref x)])) (fun tgt kt => ?_) ?_
  · refine XS.istoreN H hx rfl (hb hby e10_10) rfl (l' := #[.val (.ref x), .val (.int (Int32.ofNat mm)), .val (.int (Int32.ofNat cap))]) rfl ?_
    refine XS.iloadN H hx rfl (hb hby e10_11) rfl ?_
    refine XS.iloadN H hx rfl (hb hby e10_12) rfl ?_
    refine XS.isub H hx rfl (hb hby e10_13) rfl ?_
    refine XS.ifNo H hx rfl (hb hby e10_14) rfl ((if0 _ _).trans (tlt (by rw [own_subN (by omega)]; exact own_pos0 (by omega) (by omega))).2.2.2) ?_
    refine XS.aloadN H hx rfl (hb hby e10_17) rfl rfl ?_
    refine XS.aloadN H hx rfl (hb hby e10_18) rfl rfl ?_
    exact kt
  refine Jvm.Y9.Aim.getF z3 hx hZ hown (host := "") (Or.inl (wI hw 64 rfl)) Via.refl F0.2.1 (hb hby e10_19) ?_
  intro z4 z5
  have H := z5.here
  refine Jvm.Y9.Aim.of (T' := z4) (g' := (mkF m 24 #[.val (.ref x), .val (.int (Int32.ofNat mm)), .val (.int (Int32.ofNat cap))] [(.int (Int32.ofNat mm)), (.ref x), (.ref t), (.ref x)])) (fun tgt kt => ?_) ?_
  · refine XS.aloadN H hx rfl (hb hby e10_22) rfl rfl ?_
    refine XS.iloadN H hx rfl (hb hby e10_23) rfl ?_
    exact kt
  refine Jvm.Y9.Aim.callV (argsL := [(.int (Int32.ofNat mm))]) (rest := [(.ref t), (.ref x)]) z5 hx hZ hml hown (wI hw 116 rfl) (Jvm.Y9.declares_of (wI hw 117 rfl) (wI hw 120 rfl)) (notFace_of_selects (args := #[]) (mvT hZ (wI hw 119 rfl))) (wI hw 119 rfl) (wI hw 117 rfl) (by decide) F0.1 (Jvm.Y9.Con.back (W := 2) (own_ncap l Z a0 hw x t kb cs cap mm h0 n0 Z0 F0 hm hc hM hm9) hZ (wI hw 120 rfl) (wI hw 60 rfl) (by decide) (by decide)) rfl pd__28I_29I rfl (Nat.le_of_eq rfl) (hb hby e10_24) (by decide) (by decide) ?_
  intro z6 z7 z8 z9 za
  obtain ⟨rfl, rfl⟩ := za
  have H := z9.here
  refine Jvm.Y9.Aim.of (T' := z6) (g' := (mkF m 28 #[.val (.ref x), .val (.int (Int32.ofNat mm)), .val (.int (Int32.ofNat cap))] [(.ref x), (.int (Int32.ofNat (ncap cap mm))), (.ref t), (.ref x)])) (fun tgt kt => ?_) ?_
  · refine XS.aloadN H hx rfl (hb hby e10_27) rfl rfl ?_
    exact kt
  refine Jvm.Y9.Aim.getF z9 hx hZ hown (host := "") (Or.inl (wI hw 66 rfl)) Via.refl F0.2.2.1 (hb hby e10_28) ?_
  intro zb zc
  have H := zc.here
  refine Jvm.Y9.Aim.of (T' := zb) (g' := (mkF m 32 #[.val (.ref x), .val (.int (Int32.ofNat mm)), .val (.int (Int32.ofNat cap))] [(.int ((Int32.ofNat (ncap cap mm)) <<< ((0 : Int32) &&& 31))), (.ref t), (.ref x)])) (fun tgt kt => ?_) ?_
  · refine XS.ishl H hx rfl (hb hby e10_31) rfl ?_
    exact kt
  rw [show ((Int32.ofNat (ncap cap mm)) <<< ((0 : Int32) &&& 31)) = (Int32.ofNat (ncap cap mm)) from own_shl0 _]
  show Jvm.Y9.Aim p e below s _ _ n0 _ zb (mkF m 32 #[.val (.ref x), .val (.int (Int32.ofNat mm)), .val (.int (Int32.ofNat cap))] [(.int (Int32.ofNat (ncap cap mm))), (.ref t), (.ref x)])
  refine Jvm.Y9.Aim.callS (argsL := [(.ref t), (.int (Int32.ofNat (ncap cap mm)))]) (rest := [(.ref x)]) zc hx hZ hml hown (wI hw 131 rfl) (wI hw 132 rfl) (wI hw 133 rfl) (wI hw 134 rfl) (by decide) (Jvm.Y9.Con.back (W := 1) (own_cpy l Z a0 hw t kb cs cap (ncap cap mm) h0 n0 Z0 F0.2.2.2.2 hl (by unfold ncap; omega) hM) hZ (wI hw 134 rfl) (wI hw 133 rfl) (by decide) (by decide)) rfl pd__28_5bBI_29_5bB rfl (Nat.le_of_eq rfl) (hb hby e10_32) (by decide) (by decide) ?_
  intro zd ze zf zg zh
  obtain ⟨t_307, k_308, rfl, zi, zj, zk⟩ := zh
  have zl : Keep h0 ze [x] := (Keep.refl h0 [x]).trans zi all0
  have zm : Exa Z ze x "java/lang/StringBuilder" := (F0.1.keep zi)
  have zn : Fld Z ze x "java/lang/AbstractStringBuilder" "value" "[B" (.ref t) := (F0.2.1.keep zi nin0)
  refine Jvm.Y9.Aim.putF (v := (.ref t_307)) zg hx hZ hown (host := "") (Or.inl (wI hw 64 rfl)) Via.refl zn zm (Or.inl (wI hw 65 rfl)) (wI hw 51 rfl) (ty := (.array .byte)) (by decide) rfl rfl (hb hby e10_35) g_x ?_
  intro zo zp zq zr
  have zs := Keep.of_wr zr
  have zt : Fld Z zp x "java/lang/AbstractStringBuilder" "value" "[B" (.ref t_307) := zn.same zr
  have zu : Keep h0 zp [x] := zl.trans zs (allS (Or.inl (List.mem_of_getElem? (i := 0) rfl)) all0)
  have zv : Exa Z zp x "java/lang/StringBuilder" := (zm.keep zs)
  have zw : Fld Z zp x "java/lang/AbstractStringBuilder" "coder" "B" (.int 0) := ((F0.2.2.1.keep zi nin0).other zr (Or.inr (slot_ne (Or.inl (wI hw 67 rfl)) (Or.inl (wI hw 65 rfl)) (by decide) (t := .byte) (t' := (.array .byte)) (by decide) (by decide))))
  have zx : Fld Z zp x "java/lang/AbstractStringBuilder" "count" "I" (.int (Int32.ofNat cs.length)) := ((F0.2.2.2.1.keep zi nin0).other zr (Or.inr (slot_ne (Or.inl (wI hw 90 rfl)) (Or.inl (wI hw 65 rfl)) (by decide) (t := .int) (t' := (.array .byte)) (by decide) (by decide))))
  have zy : Arv Z zp t_307 k_308 .byte (Int32.ofNat (ncap cap mm)) (fill cs (ncap cap mm)) (.int 0) := (zk.keep zs (ninS (Ne.symm (nL (lL F0.1.lt zj))) nin0))
  exact Jvm.Y9.Aim.retV zq hx hlk hret (hb hby e10_38) (by decide) (by decide) ⟨t_307, k_308, rfl, zu, (lT (Nat.le_refl _) zj), ⟨zv, zt, zw, zx, zy⟩⟩
theorem own_appG0 (l : Launch) (Z : State) (a0 : Array Value) (hw : ∀ d ∈ tables_1, d.before a0 Z = true) (x : Addr) (t : Addr) (kb : ClassId) (cs : List Int32) (cap : Nat) (y : Addr) (u : Addr) (ku : ClassId) (ds : List Int32) (h0 : Heap) (n0 : Nat) (Z0 : n0 ≤ h0.size) (g_x : n0 ≤ x) (g_t : n0 ≤ t) (F0 : Bld Z h0 x t kb cs cap) (F1 : Str Z h0 y u ku ds) (F2 : Old Z n0 h0) (hcl : cs.length ≤ cap) (hc : cap ≤ 100) (hM : capN cap (cs.length + ds.length) ≤ 100) (nut : u ≠ t) (nux : u ≠ x) (nxt : x ≠ t) (nyt : y ≠ t) (G : Cmp Z) :
    Jvm.Y9.Con l Z (⟨"java/lang/AbstractStringBuilder", "append", "(Ljava/lang/String;)Ljava/lang/AbstractStringBuilder;"⟩ : MethodName) jdk_68_method_22_code 3 (some (.object "java/lang/AbstractStringBuilder")) ({ frames := 4, cells := 1, slots := 100, locals := 62 } : Room) n0 #[(.ref x), (.ref y)] h0 (fun v h => ∃ t2 : Addr, ∃ k2 : ClassId, v = some (.ref x) ∧ Keep h0 h [x, t] ∧ (t2 = t ∨ h0.size ≤ t2) ∧ Bld Z h x t2 k2 (cs ++ ds) (capN cap (cs.length + ds.length))) := by
  refine Jvm.Y9.Con.intro (plainFor_of_name pn_java_lang_AbstractStringBuilder) ?_
  intro p e s m below meth c s₁ hx hby hml hret hnm hown hlk hZ P0
  refine Jvm.Y9.Aim.cast (by first | (simp [entryFrame, mkF, argsToLocals, Value.category]; done) | rfl : entryFrame m #[(.ref x), (.ref y)] 3 = (mkF m 0 #[.val (.ref x), .val (.ref y), .unset] [])) ?_
  have H := P0.here
  refine Jvm.Y9.Aim.of (T' := s₁) (g' := (mkF m 10 #[.val (.ref x), .val (.ref y), .unset] [(.ref y)])) (fun tgt kt => ?_) ?_
  · refine XS.aloadN H hx rfl (hb hby et_0) rfl rfl ?_
    refine XS.ifnonnullYes H hx rfl (pc0 := 1) (pc' := 9) rfl (hb hby et_1) rfl (by decide) (by decide) ?_
    refine XS.aloadN H hx rfl (hb hby et_9) rfl rfl ?_
    exact kt
  refine Jvm.Y9.Aim.callV (argsL := []) (rest := []) P0 hx hZ hml hown (wI hw 79 rfl) (wI hw 80 rfl) (notFace_of_selects (args := #[]) (mvT hZ (wI hw 82 rfl))) (wI hw 82 rfl) (wI hw 81 rfl) (by decide) F1.1 (Jvm.Y9.Con.back (W := 0) (own_length l Z a0 hw y u ku ds h0 n0 Z0 F1 F2 G) hZ (wI hw 83 rfl) (wI hw 4 rfl) (by decide) (by decide)) rfl pd__28_29I rfl (Nat.le_of_eq rfl) (hb hby et_10) (by decide) (by decide) ?_
  intro z0 z1 z2 z3 z4
  obtain ⟨rfl, rfl⟩ := z4
  have H := z3.here
  refine Jvm.Y9.Aim.of (T' := z0) (g' := (mkF m 16 #[.val (.ref x), .val (.ref y), .val (.int (Int32.ofNat ds.length))] [(.ref x), (.ref x)])) (fun tgt kt => ?_) ?_
  · refine XS.istoreN H hx rfl (hb hby et_13) rfl (l' := #[.val (.ref x), .val (.ref y), .val (.int (Int32.ofNat ds.length))]) rfl ?_
    refine XS.aloadN H hx rfl (hb hby et_14) rfl rfl ?_
    refine XS.aloadN H hx rfl (hb hby et_15) rfl rfl ?_
    exact kt
  refine Jvm.Y9.Aim.getF z3 hx hZ hown (host := "") (Or.inl (wI hw 89 rfl)) Via.refl F0.2.2.2.1 (hb hby et_16) ?_
  intro z5 z6
  have H := z6.here
  refine Jvm.Y9.Aim.of (T' := z5) (g' := (mkF m 21 #[.val (.ref x), .val (.ref y), .val (.int (Int32.ofNat ds.length))] [(.int ((Int32.ofNat cs.length) + (Int32.ofNat ds.length))), (.ref x)])) (fun tgt kt => ?_) ?_
  · refine XS.iloadN H hx rfl (hb hby et_19) rfl ?_
    refine XS.iadd H hx rfl (hb hby et_20) rfl ?_
    exact kt
  rw [show ((Int32.ofNat cs.length) + (Int32.ofNat ds.length)) = (Int32.ofNat (cs.length + ds.length)) from own_add]
  show Jvm.Y9.Aim p e below s _ _ n0 _ z5 (mkF m 21 #[.val (.ref x), .val (.ref y), .val (.int (Int32.ofNat ds.length))] [(.int (Int32.ofNat (cs.length + ds.length))), (.ref x)])
  by_cases hq : (cs.length + ds.length) ≤ cap
  · skip
    refine Jvm.Y9.Aim.callV (argsL := [(.int (Int32.ofNat (cs.length + ds.length)))]) (rest := []) z6 hx hZ hml hown (wI hw 91 rfl) (Jvm.Y9.declares_of (wI hw 92 rfl) (wI hw 95 rfl)) (notFace_of_selects (args := #[]) (mvT hZ (wI hw 94 rfl))) (wI hw 94 rfl) (wI hw 92 rfl) (by decide) F0.1 (Jvm.Y9.Con.back (W := 0) (own_ens l Z a0 hw x t kb cs cap (cs.length + ds.length) h0 n0 Z0 F0 hq hc) hZ (wI hw 95 rfl) (wI hw 60 rfl) (by decide) (by decide)) rfl pd__28I_29V rfl (Nat.le_of_eq rfl) (hb hby et_21) (by decide) (by decide) ?_
    intro z7 z8 z9 za zb
    obtain ⟨rfl, rfl⟩ := zb
    have H := za.here
    refine Jvm.Y9.Aim.of (T' := z7) (g' := (mkF m 26 #[.val (.ref x), .val (.ref y), .val (.int (Int32.ofNat ds.length))] [(.ref x), (.ref x)])) (fun tgt kt => ?_) ?_
    · refine XS.aloadN H hx rfl (hb hby et_24) rfl rfl ?_
      refine XS.aloadN H hx rfl (hb hby et_25) rfl rfl ?_
      exact kt
    refine Jvm.Y9.Aim.getF za hx hZ hown (host := "") (Or.inl (wI hw 89 rfl)) Via.refl F0.2.2.2.1 (hb hby et_26) ?_
    intro zc zd
    have H := zd.here
    refine Jvm.Y9.Aim.of (T' := zc) (g' := (mkF m 30 #[.val (.ref x), .val (.ref y), .val (.int (Int32.ofNat ds.length))] [(.ref y), (.int (Int32.ofNat cs.length)), (.ref x)])) (fun tgt kt => ?_) ?_
    · refine XS.aloadN H hx rfl (hb hby et_29) rfl rfl ?_
      exact kt
    refine Jvm.Y9.Aim.callV (argsL := [(.int (Int32.ofNat cs.length)), (.ref y)]) (rest := []) zd hx hZ hml hown (wI hw 96 rfl) (Jvm.Y9.declares_of (wI hw 97 rfl) (wI hw 100 rfl)) (notFace_of_selects (args := #[]) (mvT hZ (wI hw 99 rfl))) (wI hw 99 rfl) (wI hw 97 rfl) (by decide) F0.1 (Jvm.Y9.Con.back (W := 0) (own_put l Z a0 hw x t kb cs cap y u ku ds h0 n0 Z0 g_t F0 F1 F2 hq hc nut nux nxt nyt G) hZ (wI hw 100 rfl) (wI hw 60 rfl) (by decide) (by decide)) rfl pd__28ILjava_2flang_2fString_3b_29V rfl (Nat.le_of_eq rfl) (hb hby et_30) (by decide) (by decide) ?_
    intro ze zf zg zh zi
    obtain ⟨rfl, zj, zk⟩ := zi
    have zl : Keep h0 zf [x, t] := (Keep.refl h0 [x, t]).trans zj (allS (Or.inl (List.mem_of_getElem? (i := 1) rfl)) all0)
    have H := zh.here
    refine Jvm.Y9.Aim.of (T' := ze) (g' := (mkF m 35 #[.val (.ref x), .val (.ref y), .val (.int (Int32.ofNat ds.length))] [(.ref x), (.ref x)])) (fun tgt kt => ?_) ?_
    · refine XS.aloadN H hx rfl (hb hby et_33) rfl rfl ?_
      refine XS.dup H hx rfl (hb hby et_34) rfl rfl ?_
      exact kt
    have zm : Fld Z zf x "java/lang/AbstractStringBuilder" "count" "I" (.int (Int32.ofNat cs.length)) := (F0.2.2.2.1.keep zj (ninS nxt nin0))
    refine Jvm.Y9.Aim.getF zh hx hZ hown (host := "") (Or.inl (wI hw 89 rfl)) Via.refl zm (hb hby et_35) ?_
    intro zn zo
    have H := zo.here
    refine Jvm.Y9.Aim.of (T' := zn) (g' := (mkF m 40 #[.val (.ref x), .val (.ref y), .val (.int (Int32.ofNat ds.length))] [(.int ((Int32.ofNat cs.length) + (Int32.ofNat ds.length))), (.ref x)])) (fun tgt kt => ?_) ?_
    · refine XS.iloadN H hx rfl (hb hby et_38) rfl ?_
      refine XS.iadd H hx rfl (hb hby et_39) rfl ?_
      exact kt
    rw [show ((Int32.ofNat cs.length) + (Int32.ofNat ds.length)) = (Int32.ofNat (cs.length + ds.length)) from own_add]
    show Jvm.Y9.Aim p e below s _ _ n0 _ zn (mkF m 40 #[.val (.ref x), .val (.ref y), .val (.int (Int32.ofNat ds.length))] [(.int (Int32.ofNat (cs.length + ds.length))), (.ref x)])
    have zp : Exa Z zf x "java/lang/StringBuilder" := (F0.1.keep zj)
    refine Jvm.Y9.Aim.putF (v := (.int (Int32.ofNat (cs.length + ds.length)))) zo hx hZ hown (host := "") (Or.inl (wI hw 89 rfl)) Via.refl zm zp (Or.inl (wI hw 90 rfl)) (wI hw 51 rfl) (ty := .int) (by decide) rfl rfl (hb hby et_40) g_x ?_
    intro zq zr zs zt
    have zu := Keep.of_wr zt
    have zv : Fld Z zr x "java/lang/AbstractStringBuilder" "count" "I" (.int (Int32.ofNat (cs.length + ds.length))) := zm.same zt
    have zw : Keep h0 zr [x, t] := zl.trans zu (allS (Or.inl (List.mem_of_getElem? (i := 0) rfl)) all0)
    have H := zs.here
    refine Jvm.Y9.Aim.of (T' := zq) (g' := (mkF m 44 #[.val (.ref x), .val (.ref y), .val (.int (Int32.ofNat ds.length))] [(.ref x)])) (fun tgt kt => ?_) ?_
    · refine XS.aloadN H hx rfl (hb hby et_43) rfl rfl ?_
      exact kt
    have zx : Exa Z zr x "java/lang/StringBuilder" := (zp.keep zu)
    have zy : Fld Z zr x "java/lang/AbstractStringBuilder" "value" "[B" (.ref t) := ((F0.2.1.keep zj (ninS nxt nin0)).other zt (Or.inr (slot_ne (Or.inl (wI hw 65 rfl)) (Or.inl (wI hw 90 rfl)) (by decide) (t := (.array .byte)) (t' := .int) (by decide) (by decide))))
    have zz : Fld Z zr x "java/lang/AbstractStringBuilder" "coder" "B" (.int 0) := ((F0.2.2.1.keep zj (ninS nxt nin0)).other zt (Or.inr (slot_ne (Or.inl (wI hw 67 rfl)) (Or.inl (wI hw 90 rfl)) (by decide) (t := .byte) (t' := .int) (by decide) (by decide))))
    have z10 : Arv Z zr t kb .byte (Int32.ofNat cap) (fill (cs ++ ds) cap) (.int 0) := (zk.keep zu (ninS (Ne.symm nxt) nin0))
    exact Jvm.Y9.Aim.retA zs hx hlk hret rfl rfl (hb hby et_44) (by decide) (by decide) ⟨t, kb, rfl, zw, (Or.inl rfl), (by rw [capN, if_pos hq]; exact ⟨zx, zy, zz, (by rw [List.length_append]; exact zv), z10⟩)⟩
  · skip
    refine Jvm.Y9.Aim.callV (argsL := [(.int (Int32.ofNat (cs.length + ds.length)))]) (rest := []) z6 hx hZ hml hown (wI hw 91 rfl) (Jvm.Y9.declares_of (wI hw 92 rfl) (wI hw 95 rfl)) (notFace_of_selects (args := #[]) (mvT hZ (wI hw 94 rfl))) (wI hw 94 rfl) (wI hw 92 rfl) (by decide) F0.1 (Jvm.Y9.Con.back (W := 0) (own_ensG l Z a0 hw x t kb cs cap (cs.length + ds.length) h0 n0 Z0 g_x F0 (by omega) hc (by have q := hM; rw [capN, if_neg hq] at q; exact q) (by have q := hM; rw [capN, if_neg hq] at q; unfold ncap at q; omega) hcl) hZ (wI hw 95 rfl) (wI hw 60 rfl) (by decide) (by decide)) rfl pd__28I_29V rfl (Nat.le_of_eq rfl) (hb hby et_21) (by decide) (by decide) ?_
    intro z11 z12 z13 z14 z15
    obtain ⟨t_376, k_377, rfl, z16, z17, z18⟩ := z15
    have z19 : Keep h0 z12 [x, t] := (Keep.refl h0 [x, t]).trans z16 (allS (Or.inl (List.mem_of_getElem? (i := 0) rfl)) all0)
    have H := z14.here
    refine Jvm.Y9.Aim.of (T' := z11) (g' := (mkF m 26 #[.val (.ref x), .val (.ref y), .val (.int (Int32.ofNat ds.length))] [(.ref x), (.ref x)])) (fun tgt kt => ?_) ?_
    · refine XS.aloadN H hx rfl (hb hby et_24) rfl rfl ?_
      refine XS.aloadN H hx rfl (hb hby et_25) rfl rfl ?_
      exact kt
    refine Jvm.Y9.Aim.getF z14 hx hZ hown (host := "") (Or.inl (wI hw 89 rfl)) Via.refl z18.2.2.2.1 (hb hby et_26) ?_
    intro z1a z1b
    have H := z1b.here
    refine Jvm.Y9.Aim.of (T' := z1a) (g' := (mkF m 30 #[.val (.ref x), .val (.ref y), .val (.int (Int32.ofNat ds.length))] [(.ref y), (.int (Int32.ofNat cs.length)), (.ref x)])) (fun tgt kt => ?_) ?_
    · refine XS.aloadN H hx rfl (hb hby et_29) rfl rfl ?_
      exact kt
    have z1c : Exa Z z12 y "java/lang/String" := (F1.1.keep z16)
    have z1d : Str Z z12 y u ku ds := (F1.keep z16 (ninS (ne_exa z1c z18.1 (by decide)) nin0) (ninS nux nin0))
    have z1e : Old Z n0 z12 := (F2.keep z16 (allS g_x all0))
    refine Jvm.Y9.Aim.callV (argsL := [(.int (Int32.ofNat cs.length)), (.ref y)]) (rest := []) z1b hx hZ hml hown (wI hw 96 rfl) (Jvm.Y9.declares_of (wI hw 97 rfl) (wI hw 100 rfl)) (notFace_of_selects (args := #[]) (mvT hZ (wI hw 99 rfl))) (wI hw 99 rfl) (wI hw 97 rfl) (by decide) z18.1 (Jvm.Y9.Con.back (W := 0) (own_put l Z a0 hw x t_376 k_377 cs (ncap cap (cs.length + ds.length)) y u ku ds z12 n0 (lT Z0 (z19.1)) (lT Z0 z17) z18 z1d z1e (by unfold ncap; omega) (by have q := hM; rw [capN, if_neg hq] at q; exact q) (nL (lL F1.ltb z17)) nux (nL (lL F0.1.lt z17)) (nL (lL F1.lt z17)) G) hZ (wI hw 100 rfl) (wI hw 60 rfl) (by decide) (by decide)) rfl pd__28ILjava_2flang_2fString_3b_29V rfl (Nat.le_of_eq rfl) (hb hby et_30) (by decide) (by decide) ?_
    intro z1f z1g z1h z1i z1j
    obtain ⟨rfl, z1k, z1l⟩ := z1j
    have z1m : Keep h0 z1g [x, t] := z19.trans z1k (allS (Or.inr (lT (Nat.le_refl _) z17)) all0)
    have H := z1i.here
    refine Jvm.Y9.Aim.of (T' := z1f) (g' := (mkF m 35 #[.val (.ref x), .val (.ref y), .val (.int (Int32.ofNat ds.length))] [(.ref x), (.ref x)])) (fun tgt kt => ?_) ?_
    · refine XS.aloadN H hx rfl (hb hby et_33) rfl rfl ?_
      refine XS.dup H hx rfl (hb hby et_34) rfl rfl ?_
      exact kt
    have z1n : Fld Z z1g x "java/lang/AbstractStringBuilder" "count" "I" (.int (Int32.ofNat cs.length)) := (z18.2.2.2.1.keep z1k (ninS (nL (lL F0.1.lt z17)) nin0))
    refine Jvm.Y9.Aim.getF z1i hx hZ hown (host := "") (Or.inl (wI hw 89 rfl)) Via.refl z1n (hb hby et_35) ?_
    intro z1o z1p
    have H := z1p.here
    refine Jvm.Y9.Aim.of (T' := z1o) (g' := (mkF m 40 #[.val (.ref x), .val (.ref y), .val (.int (Int32.ofNat ds.length))] [(.int ((Int32.ofNat cs.length) + (Int32.ofNat ds.length))), (.ref x)])) (fun tgt kt => ?_) ?_
    · refine XS.iloadN H hx rfl (hb hby et_38) rfl ?_
      refine XS.iadd H hx rfl (hb hby et_39) rfl ?_
      exact kt
    rw [show ((Int32.ofNat cs.length) + (Int32.ofNat ds.length)) = (Int32.ofNat (cs.length + ds.length)) from own_add]
    show Jvm.Y9.Aim p e below s _ _ n0 _ z1o (mkF m 40 #[.val (.ref x), .val (.ref y), .val (.int (Int32.ofNat ds.length))] [(.int (Int32.ofNat (cs.length + ds.length))), (.ref x)])
    have z1q : Exa Z z1g x "java/lang/StringBuilder" := (z18.1.keep z1k)
    refine Jvm.Y9.Aim.putF (v := (.int (Int32.ofNat (cs.length + ds.length)))) z1p hx hZ hown (host := "") (Or.inl (wI hw 89 rfl)) Via.refl z1n z1q (Or.inl (wI hw 90 rfl)) (wI hw 51 rfl) (ty := .int) (by decide) rfl rfl (hb hby et_40) g_x ?_
    intro z1r z1s z1t z1u
    have z1v := Keep.of_wr z1u
    have z1w : Fld Z z1s x "java/lang/AbstractStringBuilder" "count" "I" (.int (Int32.ofNat (cs.length + ds.length))) := z1n.same z1u
    have z1x : Keep h0 z1s [x, t] := z1m.trans z1v (allS (Or.inl (List.mem_of_getElem? (i := 0) rfl)) all0)
    have H := z1t.here
    refine Jvm.Y9.Aim.of (T' := z1r) (g' := (mkF m 44 #[.val (.ref x), .val (.ref y), .val (.int (Int32.ofNat ds.length))] [(.ref x)])) (fun tgt kt => ?_) ?_
    · refine XS.aloadN H hx rfl (hb hby et_43) rfl rfl ?_
      exact kt
    have z1y : Exa Z z1s x "java/lang/StringBuilder" := (z1q.keep z1v)
    have z1z : Fld Z z1s x "java/lang/AbstractStringBuilder" "value" "[B" (.ref t_376) := ((z18.2.1.keep z1k (ninS (nL (lL F0.1.lt z17)) nin0)).other z1u (Or.inr (slot_ne (Or.inl (wI hw 65 rfl)) (Or.inl (wI hw 90 rfl)) (by decide) (t := (.array .byte)) (t' := .int) (by decide) (by decide))))
    have z20 : Fld Z z1s x "java/lang/AbstractStringBuilder" "coder" "B" (.int 0) := ((z18.2.2.1.keep z1k (ninS (nL (lL F0.1.lt z17)) nin0)).other z1u (Or.inr (slot_ne (Or.inl (wI hw 67 rfl)) (Or.inl (wI hw 90 rfl)) (by decide) (t := .byte) (t' := .int) (by decide) (by decide))))
    have z21 : Arv Z z1s t_376 k_377 .byte (Int32.ofNat (ncap cap (cs.length + ds.length))) (fill (cs ++ ds) (ncap cap (cs.length + ds.length))) (.int 0) := (z1l.keep z1v (ninS (Ne.symm (nL (lL F0.1.lt z17))) nin0))
    exact Jvm.Y9.Aim.retA z1t hx hlk hret rfl rfl (hb hby et_44) (by decide) (by decide) ⟨t_376, k_377, rfl, z1x, (Or.inr (lT (Nat.le_refl _) z17)), (by rw [capN, if_neg hq]; exact ⟨z1y, z1z, z20, (by rw [List.length_append]; exact z1w), z21⟩)⟩
theorem own_appG (l : Launch) (Z : State) (a0 : Array Value) (hw : ∀ d ∈ tables_1, d.before a0 Z = true) (x : Addr) (t : Addr) (kb : ClassId) (cs : List Int32) (cap : Nat) (y : Addr) (u : Addr) (ku : ClassId) (ds : List Int32) (h0 : Heap) (n0 : Nat) (Z0 : n0 ≤ h0.size) (g_x : n0 ≤ x) (g_t : n0 ≤ t) (F0 : Bld Z h0 x t kb cs cap) (F1 : Str Z h0 y u ku ds) (F2 : Old Z n0 h0) (hcl : cs.length ≤ cap) (hc : cap ≤ 100) (hM : capN cap (cs.length + ds.length) ≤ 100) (nut : u ≠ t) (nux : u ≠ x) (nxt : x ≠ t) (nyt : y ≠ t) (G : Cmp Z) :
    Jvm.Y9.Con l Z (⟨"java/lang/StringBuilder", "append", "(Ljava/lang/String;)Ljava/lang/StringBuilder;"⟩ : MethodName) jdk_67_method_7_code 2 (some (.object "java/lang/StringBuilder")) ({ frames := 5, cells := 1, slots := 100, locals := 76 } : Room) n0 #[(.ref x), (.ref y)] h0 (fun v h => ∃ t2 : Addr, ∃ k2 : ClassId, v = some (.ref x) ∧ Keep h0 h [x, t] ∧ (t2 = t ∨ h0.size ≤ t2) ∧ Bld Z h x t2 k2 (cs ++ ds) (capN cap (cs.length + ds.length))) := by
  refine Jvm.Y9.Con.intro (plainFor_of_name pn_java_lang_StringBuilder) ?_
  intro p e s m below meth c s₁ hx hby hml hret hnm hown hlk hZ P0
  refine Jvm.Y9.Aim.cast (by first | (simp [entryFrame, mkF, argsToLocals, Value.category]; done) | rfl : entryFrame m #[(.ref x), (.ref y)] 2 = (mkF m 0 #[.val (.ref x), .val (.ref y)] [])) ?_
  have H := P0.here
  refine Jvm.Y9.Aim.of (T' := s₁) (g' := (mkF m 2 #[.val (.ref x), .val (.ref y)] [(.ref y), (.ref x)])) (fun tgt kt => ?_) ?_
  · refine XS.aloadN H hx rfl (hb hby ep_0) rfl rfl ?_
    refine XS.aloadN H hx rfl (hb hby ep_1) rfl rfl ?_
    exact kt
  refine Jvm.Y9.Aim.callU (argsL := [(.ref y)]) (rest := []) P0 hx hZ hml hown (wI hw 74 rfl) (Jvm.Y9.same_of (by decide) (wI hw 75 rfl) (Jvm.Y9.nf_sel (y2 := (⟨"java/lang/AbstractStringBuilder", "ensureCapacityInternal", "(I)V"⟩ : MethodName)) rfl (wI hw 94 rfl))) (wI hw 75 rfl) (wI hw 76 rfl) (by decide) (wI hw 78 rfl) (Ins.self F0.1) (Jvm.Y9.Con.back (W := 0) (own_appG0 l Z a0 hw x t kb cs cap y u ku ds h0 n0 Z0 g_x g_t F0 F1 F2 hcl hc hM nut nux nxt nyt G) hZ (wI hw 78 rfl) (wI hw 60 rfl) (by decide) (by decide)) rfl pd__28Ljava_2flang_2fString_3b_29Ljava_2flang_2fAbstractStringBuilder_3b rfl (Nat.le_of_eq rfl) (hb hby ep_2) (by decide) (by decide) ?_
  intro z0 z1 z2 z3 z4
  obtain ⟨t_419, k_420, rfl, z5, z6, z7⟩ := z4
  have z8 : Keep h0 z1 [x, t] := (Keep.refl h0 [x, t]).trans z5 (allS (Or.inl (List.mem_of_getElem? (i := 0) rfl)) (allS (Or.inl (List.mem_of_getElem? (i := 1) rfl)) all0))
  have H := z3.here
  refine Jvm.Y9.Aim.of (T' := z0) (g' := (mkF m 7 #[.val (.ref x), .val (.ref y)] [(.ref x)])) (fun tgt kt => ?_) ?_
  · refine XS.pop H hx rfl (hb hby ep_5) rfl rfl ?_
    refine XS.aloadN H hx rfl (hb hby ep_6) rfl rfl ?_
    exact kt
  exact Jvm.Y9.Aim.retA z3 hx hlk hret rfl rfl (hb hby ep_7) (by decide) (by decide) ⟨t_419, k_420, rfl, z8, (z6.imp id (fun q => lT (Nat.le_refl _) q)), z7⟩
theorem ej_0 : decode jdk_65_method_131_code 0 = .ok (.iload_n 1, 1) := by decide +kernel
theorem ej_1 : decode jdk_65_method_131_code 1 = .ok (.iload_n 0, 1) := by decide +kernel
theorem ej_2 : decode jdk_65_method_131_code 2 = .ok (.if_icmp .ge 35, 3) := by decide +kernel
theorem ej_37 : decode jdk_65_method_131_code 37 = .ok (.return_, 1) := by decide +kernel
theorem own_chkL (l : Launch) (Z : State) (a0 : Array Value) (hw : ∀ d ∈ tables_1, d.before a0 Z = true) (n : Int32) (h0 : Heap) (n0 : Nat) (Z0 : n0 ≤ h0.size) (hn : ¬ (n < (0 : Int32))) :
    Jvm.Y9.Con l Z (⟨"java/util/Arrays", "checkLength", "(II)V"⟩ : MethodName) jdk_65_method_131_code 2 none ({ frames := 0, cells := 0, slots := 0, locals := 0 } : Room) n0 #[(.int 0), (.int n)] h0 (fun v h => v = none ∧ h0 = h) := by
  refine Jvm.Y9.Con.intro (plainFor_of_name pn_java_util_Arrays) ?_
  intro p e s m below meth c s₁ hx hby hml hret hnm hown hlk hZ P0
  refine Jvm.Y9.Aim.cast (by first | (simp [entryFrame, mkF, argsToLocals, Value.category]; done) | rfl : entryFrame m #[(.int 0), (.int n)] 2 = (mkF m 0 #[.val (.int 0), .val (.int n)] [])) ?_
  have H := P0.here
  refine Jvm.Y9.Aim.of (T' := s₁) (g' := (mkF m 37 #[.val (.int 0), .val (.int n)] [])) (fun tgt kt => ?_) ?_
  · refine XS.iloadN H hx rfl (hb hby ej_0) rfl ?_
    refine XS.iloadN H hx rfl (hb hby ej_1) rfl ?_
    refine XS.icmpYes H hx rfl (pc0 := 2) (pc' := 37) rfl (hb hby ej_2) rfl (flt hn).2.1 (by decide) (by decide) ?_
    exact kt
  exact Jvm.Y9.Aim.retV P0 hx hlk hret (hb hby ej_37) (by decide) (by decide) ⟨rfl, rfl⟩
theorem e3_9 : decode jdk_29_method_69_code 9 = .ok (.iload_n 1, 1) := by decide +kernel
theorem own_min (l : Launch) (Z : State) (a0 : Array Value) (hw : ∀ d ∈ tables_1, d.before a0 Z = true) (a : Int32) (b : Int32) (h0 : Heap) (n0 : Nat) (Z0 : n0 ≤ h0.size) (hba : b < a) :
    Jvm.Y9.Con l Z (⟨"java/lang/Math", "min", "(II)I"⟩ : MethodName) jdk_29_method_69_code 2 (some .int) ({ frames := 0, cells := 0, slots := 0, locals := 0 } : Room) n0 #[(.int a), (.int b)] h0 (fun v h => v = some (.int b) ∧ h0 = h) := by
  refine Jvm.Y9.Con.intro (Jvm.Free.JP.mathPlain rfl (by decide +kernel)) ?_
  intro p e s m below meth c s₁ hx hby hml hret hnm hown hlk hZ P0
  refine Jvm.Y9.Aim.cast (by first | (simp [entryFrame, mkF, argsToLocals, Value.category]; done) | rfl : entryFrame m #[(.int a), (.int b)] 2 = (mkF m 0 #[.val (.int a), .val (.int b)] [])) ?_
  have H := P0.here
  refine Jvm.Y9.Aim.of (T' := s₁) (g' := (mkF m 10 #[.val (.int a), .val (.int b)] [(.int b)])) (fun tgt kt => ?_) ?_
  · refine XS.iloadN H hx rfl (hb hby e3_0) rfl ?_
    refine XS.iloadN H hx rfl (hb hby e3_1) rfl ?_
    refine XS.icmpYes H hx rfl (pc0 := 2) (pc' := 9) rfl (hb hby e3_2) rfl (tlt hba).2.2.1 (by decide) (by decide) ?_
    refine XS.iloadN H hx rfl (hb hby e3_9) rfl ?_
    exact kt
  exact Jvm.Y9.Aim.retI P0 hx hlk hret (hb hby e3_10) (by decide) (by decide) ⟨rfl, rfl⟩
theorem el_0 : decode jdk_65_method_133_code 0 = .ok (.iload_n 1, 1) := by decide +kernel
theorem el_1 : decode jdk_65_method_133_code 1 = .ok (.iload_n 2, 1) := by decide +kernel
theorem el_2 : decode jdk_65_method_133_code 2 = .ok (.invokestatic 343, 3) := by decide +kernel
theorem pd__28II_29V : parseMethodDescriptor "(II)V" = some ⟨[.int, .int], none⟩ := by decide +kernel
theorem el_5 : decode jdk_65_method_133_code 5 = .ok (.iload_n 2, 1) := by decide +kernel
theorem el_6 : decode jdk_65_method_133_code 6 = .ok (.iload_n 1, 1) := by decide +kernel
theorem el_7 : decode jdk_65_method_133_code 7 = .ok (.isub, 1) := by decide +kernel
theorem el_8 : decode jdk_65_method_133_code 8 = .ok (.istore_n 3, 1) := by decide +kernel
theorem el_9 : decode jdk_65_method_133_code 9 = .ok (.iload_n 3, 1) := by decide +kernel
theorem el_10 : decode jdk_65_method_133_code 10 = .ok (.newarray .byte, 2) := by decide +kernel
theorem el_12 : decode jdk_65_method_133_code 12 = .ok (.astore 4, 2) := by decide +kernel
theorem el_14 : decode jdk_65_method_133_code 14 = .ok (.aload_n 0, 1) := by decide +kernel
theorem el_15 : decode jdk_65_method_133_code 15 = .ok (.iload_n 1, 1) := by decide +kernel
theorem el_16 : decode jdk_65_method_133_code 16 = .ok (.aload 4, 2) := by decide +kernel
theorem el_18 : decode jdk_65_method_133_code 18 = .ok (.iconst 0, 1) := by decide +kernel
theorem el_19 : decode jdk_65_method_133_code 19 = .ok (.aload_n 0, 1) := by decide +kernel
theorem el_20 : decode jdk_65_method_133_code 20 = .ok (.arraylength, 1) := by decide +kernel
theorem el_21 : decode jdk_65_method_133_code 21 = .ok (.iload_n 1, 1) := by decide +kernel
theorem el_22 : decode jdk_65_method_133_code 22 = .ok (.isub, 1) := by decide +kernel
theorem el_23 : decode jdk_65_method_133_code 23 = .ok (.iload_n 3, 1) := by decide +kernel
theorem el_24 : decode jdk_65_method_133_code 24 = .ok (.invokestatic 304, 3) := by decide +kernel
theorem el_27 : decode jdk_65_method_133_code 27 = .ok (.invokestatic 150, 3) := by decide +kernel
theorem el_30 : decode jdk_65_method_133_code 30 = .ok (.aload 4, 2) := by decide +kernel
theorem el_32 : decode jdk_65_method_133_code 32 = .ok (.areturn, 1) := by decide +kernel
theorem own_crb (l : Launch) (Z : State) (a0 : Array Value) (hw : ∀ d ∈ tables_1, d.before a0 Z = true) (t : Addr) (kb : ClassId) (cs : List Int32) (cap : Nat) (h0 : Heap) (n0 : Nat) (Z0 : n0 ≤ h0.size) (F0 : Arv Z h0 t kb .byte (Int32.ofNat cap) (fill cs cap) (.int 0)) (hl : cs.length < cap) (hc : cap ≤ 100) :
    Jvm.Y9.Con l Z (⟨"java/util/Arrays", "copyOfRangeByte", "([BII)[B"⟩ : MethodName) jdk_65_method_133_code 5 (some (.array .byte)) ({ frames := 1, cells := 1, slots := 100, locals := 18 } : Room) n0 #[(.ref t), (.int 0), (.int (Int32.ofNat cs.length))] h0 (fun v h => ∃ t2 : Addr, ∃ k2 : ClassId, v = some (.ref t2) ∧ Keep h0 h [] ∧ h0.size ≤ t2 ∧ Arv Z h t2 k2 .byte (Int32.ofNat cs.length) (cs.map fun c => Value.int (c.toInt8.toInt32)) (.int 0)) := by
  refine Jvm.Y9.Con.intro (plainFor_of_name pn_java_util_Arrays) ?_
  intro p e s m below meth c s₁ hx hby hml hret hnm hown hlk hZ P0
  refine Jvm.Y9.Aim.cast (by first | (simp [entryFrame, mkF, argsToLocals, Value.category]; done) | rfl : entryFrame m #[(.ref t), (.int 0), (.int (Int32.ofNat cs.length))] 5 = (mkF m 0 #[.val (.ref t), .val (.int 0), .val (.int (Int32.ofNat cs.length)), .unset, .unset] [])) ?_
  have H := P0.here
  refine Jvm.Y9.Aim.of (T' := s₁) (g' := (mkF m 2 #[.val (.ref t), .val (.int 0), .val (.int (Int32.ofNat cs.length)), .unset, .unset] [(.int (Int32.ofNat cs.length)), (.int 0)])) (fun tgt kt => ?_) ?_
  · refine XS.iloadN H hx rfl (hb hby el_0) rfl ?_
    refine XS.iloadN H hx rfl (hb hby el_1) rfl ?_
    exact kt
  refine Jvm.Y9.Aim.callS (argsL := [(.int 0), (.int (Int32.ofNat cs.length))]) (rest := []) P0 hx hZ hml hown (wI hw 196 rfl) (wI hw 197 rfl) (wI hw 133 rfl) (wI hw 198 rfl) (by decide) (Jvm.Y9.Con.back (W := 0) (own_chkL l Z a0 hw (Int32.ofNat cs.length) h0 n0 Z0 ((own_clamp (n := cs.length) (by omega)).2.1)) hZ (wI hw 198 rfl) (wI hw 133 rfl) (by decide) (by decide)) rfl pd__28II_29V rfl (Nat.le_of_eq rfl) (hb hby el_2) (by decide) (by decide) ?_
  intro z0 z1 z2 z3 z4
  obtain ⟨rfl, rfl⟩ := z4
  have H := z3.here
  refine Jvm.Y9.Aim.of (T' := z0) (g' := (mkF m 8 #[.val (.ref t), .val (.int 0), .val (.int (Int32.ofNat cs.length)), .unset, .unset] [(.int ((Int32.ofNat cs.length) - (0 : Int32)))])) (fun tgt kt => ?_) ?_
  · refine XS.iloadN H hx rfl (hb hby el_5) rfl ?_
    refine XS.iloadN H hx rfl (hb hby el_6) rfl ?_
    refine XS.isub H hx rfl (hb hby el_7) rfl ?_
    exact kt
  rw [show ((Int32.ofNat cs.length) - (0 : Int32)) = (Int32.ofNat cs.length) from own_sub0 _]
  show Jvm.Y9.Aim p e below s _ _ n0 _ z0 (mkF m 8 #[.val (.ref t), .val (.int 0), .val (.int (Int32.ofNat cs.length)), .unset, .unset] [(.int (Int32.ofNat cs.length))])
  have H := z3.here
  refine Jvm.Y9.Aim.of (T' := z0) (g' := (mkF m 10 #[.val (.ref t), .val (.int 0), .val (.int (Int32.ofNat cs.length)), .val (.int (Int32.ofNat cs.length)), .unset] [(.int (Int32.ofNat cs.length))])) (fun tgt kt => ?_) ?_
  · refine XS.istoreN H hx rfl (hb hby el_8) rfl (l' := #[.val (.ref t), .val (.int 0), .val (.int (Int32.ofNat cs.length)), .val (.int (Int32.ofNat cs.length)), .unset]) rfl ?_
    refine XS.iloadN H hx rfl (hb hby el_9) rfl ?_
    exact kt
  refine Jvm.Y9.Aim.newP (z := (Int32.ofNat cs.length)) z3 hx hZ (wI hw 20 rfl) (hb hby el_10) (own_clamp (n := cs.length) (by omega)).2.1 (cap := 100) (lT (Nat.le_of_eq (own_clamp (n := cs.length) (by omega)).1) (by omega)) (by decide) (by decide) (by decide) ?_
  intro z5 z6 z7 z8 z9 za zb zc
  have zd : Keep h0 z6 [] := (Keep.refl _ _).ext zb
  have ze : Keep h0 z6 [] := (Keep.refl h0 []).trans zd all0
  have zf : Arv Z z6 z8 z7 .byte (Int32.ofNat cs.length) (List.replicate cs.length (Value.int (0 : Int32))) (.int 0) := zc.pad (pad_rep [] (Value.int (0 : Int32)) cs.length)
  have H := za.here
  refine Jvm.Y9.Aim.of (T' := z5) (g' := (mkF m 20 #[.val (.ref t), .val (.int 0), .val (.int (Int32.ofNat cs.length)), .val (.int (Int32.ofNat cs.length)), .val (.ref z8)] [(.ref t), (.int 0), (.ref z8), (.int 0), (.ref t)])) (fun tgt kt => ?_) ?_
  · refine XS.astore H hx rfl (hb hby el_12) rfl rfl (l' := #[.val (.ref t), .val (.int 0), .val (.int (Int32.ofNat cs.length)), .val (.int (Int32.ofNat cs.length)), .val (.ref z8)]) rfl ?_
    refine XS.aloadN H hx rfl (hb hby el_14) rfl rfl ?_
    refine XS.iloadN H hx rfl (hb hby el_15) rfl ?_
    refine XS.aload H hx rfl (hb hby el_16) rfl rfl ?_
    refine XS.iconst H hx rfl (hb hby el_18) ?_
    refine XS.aloadN H hx rfl (hb hby el_19) rfl rfl ?_
    exact kt
  have zg : Arv Z z6 t kb .byte (Int32.ofNat cap) (fill cs cap) (.int 0) := (F0.keep zd nin0)
  refine Jvm.Y9.Aim.alen za hx hZ zg (hb hby el_20) ?_
  have H := za.here
  refine Jvm.Y9.Aim.of (T' := z5) (g' := (mkF m 24 #[.val (.ref t), .val (.int 0), .val (.int (Int32.ofNat cs.length)), .val (.int (Int32.ofNat cs.length)), .val (.ref z8)] [(.int (Int32.ofNat cs.length)), (.int ((Int32.ofNat cap) - (0 : Int32))), (.int 0), (.ref z8), (.int 0), (.ref t)])) (fun tgt kt => ?_) ?_
  · refine XS.iloadN H hx rfl (hb hby el_21) rfl ?_
    refine XS.isub H hx rfl (hb hby el_22) rfl ?_
    refine XS.iloadN H hx rfl (hb hby el_23) rfl ?_
    exact kt
  rw [show ((Int32.ofNat cap) - (0 : Int32)) = (Int32.ofNat cap) from own_sub0 _]
  show Jvm.Y9.Aim p e below s _ _ n0 _ z5 (mkF m 24 #[.val (.ref t), .val (.int 0), .val (.int (Int32.ofNat cs.length)), .val (.int (Int32.ofNat cs.length)), .val (.ref z8)] [(.int (Int32.ofNat cs.length)), (.int (Int32.ofNat cap)), (.int 0), (.ref z8), (.int 0), (.ref t)])
  refine Jvm.Y9.Aim.callS (argsL := [(.int (Int32.ofNat cap)), (.int (Int32.ofNat cs.length))]) (rest := [(.int 0), (.ref z8), (.int 0), (.ref t)]) za hx hZ hml hown (wI hw 135 rfl) (wI hw 136 rfl) (wI hw 127 rfl) (wI hw 137 rfl) (by decide) (Jvm.Y9.Con.back (W := 4) (own_min l Z a0 hw (Int32.ofNat cap) (Int32.ofNat cs.length) z6 n0 (lT Z0 (ze.1)) (own_lt hl (by omega))) hZ (wI hw 137 rfl) (wI hw 127 rfl) (by decide) (by decide)) rfl pd__28II_29I rfl (Nat.le_of_eq rfl) (hb hby el_24) (by decide) (by decide) ?_
  intro zh zi zj zk zl
  obtain ⟨rfl, rfl⟩ := zl
  refine Jvm.Y9.Aim.cpA (rest := []) zk hx hZ hml hown (wI hw 138 rfl) (wI hw 115 rfl) (wI hw 113 rfl) (wI hw 114 rfl) zg zf (Or.inl ⟨rfl, rfl⟩) (by decide) (by decide) (own_clamp (n := cs.length) (by omega)).2.1 (by rw [(own_clamp (n := cs.length) (by omega)).1, (own_clamp (n := cap) (by omega)).1, show (0 : Int32).toNatClampNeg = 0 from by decide]; omega) (by rw [(own_clamp (n := cs.length) (by omega)).1, show (0 : Int32).toNatClampNeg = 0 from by decide]; omega) rfl (by rw [(own_clamp (n := cs.length) (by omega)).1, show (0 : Int32).toNatClampNeg = 0 from by decide]; simp) (lT Z0 (Nat.le_of_eq z9.symm)) rfl (hb hby el_27) (by decide) (by decide) ?_
  intro zm zn zo zp zq
  have zr : Arv Z zn z8 z7 .byte (Int32.ofNat cs.length) (cs.map fun c => Value.int (c.toInt8.toInt32)) (.int 0) := Jvm.Y9.arv_eq zq (fill_out (by omega) (by omega))
  have zs : Keep h0 zn [] := ze.trans zp (allS (Or.inr (lT (Nat.le_refl _) (Nat.le_of_eq z9.symm))) all0)
  have H := zo.here
  refine Jvm.Y9.Aim.of (T' := zm) (g' := (mkF m 32 #[.val (.ref t), .val (.int 0), .val (.int (Int32.ofNat cs.length)), .val (.int (Int32.ofNat cs.length)), .val (.ref z8)] [(.ref z8)])) (fun tgt kt => ?_) ?_
  · refine XS.aload H hx rfl (hb hby el_30) rfl rfl ?_
    exact kt
  exact Jvm.Y9.Aim.retA zo hx hlk hret rfl rfl (hb hby el_32) (by decide) (by decide) ⟨z8, z7, rfl, zs, (lT (Nat.le_refl _) (Nat.le_of_eq z9.symm)), zr⟩
theorem ek_0 : decode jdk_65_method_132_code 0 = .ok (.iload_n 1, 1) := by decide +kernel
theorem ek_1 : decode jdk_65_method_132_code 1 = .ok (.ifCond .ne 9, 3) := by decide +kernel
theorem ek_4 : decode jdk_65_method_132_code 4 = .ok (.iload_n 2, 1) := by decide +kernel
theorem ek_5 : decode jdk_65_method_132_code 5 = .ok (.aload_n 0, 1) := by decide +kernel
theorem ek_6 : decode jdk_65_method_132_code 6 = .ok (.arraylength, 1) := by decide +kernel
theorem ek_7 : decode jdk_65_method_132_code 7 = .ok (.if_icmp .eq 10, 3) := by decide +kernel
theorem ek_10 : decode jdk_65_method_132_code 10 = .ok (.aload_n 0, 1) := by decide +kernel
theorem ek_11 : decode jdk_65_method_132_code 11 = .ok (.iload_n 1, 1) := by decide +kernel
theorem ek_12 : decode jdk_65_method_132_code 12 = .ok (.iload_n 2, 1) := by decide +kernel
theorem ek_13 : decode jdk_65_method_132_code 13 = .ok (.invokestatic 339, 3) := by decide +kernel
theorem pd__28_5bBII_29_5bB : parseMethodDescriptor "([BII)[B" = some ⟨[(.array .byte), .int, .int], some (.array .byte)⟩ := by decide +kernel
theorem ek_16 : decode jdk_65_method_132_code 16 = .ok (.areturn, 1) := by decide +kernel
theorem own_cr (l : Launch) (Z : State) (a0 : Array Value) (hw : ∀ d ∈ tables_1, d.before a0 Z = true) (t : Addr) (kb : ClassId) (cs : List Int32) (cap : Nat) (h0 : Heap) (n0 : Nat) (Z0 : n0 ≤ h0.size) (F0 : Arv Z h0 t kb .byte (Int32.ofNat cap) (fill cs cap) (.int 0)) (hl : cs.length < cap) (hc : cap ≤ 100) :
    Jvm.Y9.Con l Z (⟨"java/util/Arrays", "copyOfRange", "([BII)[B"⟩ : MethodName) jdk_65_method_132_code 3 (some (.array .byte)) ({ frames := 2, cells := 1, slots := 100, locals := 34 } : Room) n0 #[(.ref t), (.int 0), (.int (Int32.ofNat cs.length))] h0 (fun v h => ∃ t2 : Addr, ∃ k2 : ClassId, v = some (.ref t2) ∧ Keep h0 h [] ∧ h0.size ≤ t2 ∧ Arv Z h t2 k2 .byte (Int32.ofNat cs.length) (cs.map fun c => Value.int (c.toInt8.toInt32)) (.int 0)) := by
  refine Jvm.Y9.Con.intro (plainFor_of_name pn_java_util_Arrays) ?_
  intro p e s m below meth c s₁ hx hby hml hret hnm hown hlk hZ P0
  refine Jvm.Y9.Aim.cast (by first | (simp [entryFrame, mkF, argsToLocals, Value.category]; done) | rfl : entryFrame m #[(.ref t), (.int 0), (.int (Int32.ofNat cs.length))] 3 = (mkF m 0 #[.val (.ref t), .val (.int 0), .val (.int (Int32.ofNat cs.length))] [])) ?_
  have H := P0.here
  refine Jvm.Y9.Aim.of (T' := s₁) (g' := (mkF m 6 #[.val (.ref t), .val (.int 0), .val (.int (Int32.ofNat cs.length))] [(.ref t), (.int (Int32.ofNat cs.length))])) (fun tgt kt => ?_) ?_
  · refine XS.iloadN H hx rfl (hb hby ek_0) rfl ?_
    refine XS.ifNo H hx rfl (hb hby ek_1) rfl ((if0 _ _).trans (teq (by decide)).2) ?_
    refine XS.iloadN H hx rfl (hb hby ek_4) rfl ?_
    refine XS.aloadN H hx rfl (hb hby ek_5) rfl rfl ?_
    exact kt
  refine Jvm.Y9.Aim.alen P0 hx hZ F0 (hb hby ek_6) ?_
  have H := P0.here
  refine Jvm.Y9.Aim.of (T' := s₁) (g' := (mkF m 13 #[.val (.ref t), .val (.int 0), .val (.int (Int32.ofNat cs.length))] [(.int (Int32.ofNat cs.length)), (.int 0), (.ref t)])) (fun tgt kt => ?_) ?_
  · refine XS.icmpNo H hx rfl (hb hby ek_7) rfl (feq (own_ne (by omega) (by omega) (by omega))).1 ?_
    refine XS.aloadN H hx rfl (hb hby ek_10) rfl rfl ?_
    refine XS.iloadN H hx rfl (hb hby ek_11) rfl ?_
    refine XS.iloadN H hx rfl (hb hby ek_12) rfl ?_
    exact kt
  refine Jvm.Y9.Aim.callS (argsL := [(.ref t), (.int 0), (.int (Int32.ofNat cs.length))]) (rest := []) P0 hx hZ hml hown (wI hw 193 rfl) (wI hw 194 rfl) (wI hw 133 rfl) (wI hw 195 rfl) (by decide) (Jvm.Y9.Con.back (W := 0) (own_crb l Z a0 hw t kb cs cap h0 n0 Z0 F0 hl hc) hZ (wI hw 195 rfl) (wI hw 133 rfl) (by decide) (by decide)) rfl pd__28_5bBII_29_5bB rfl (Nat.le_of_eq rfl) (hb hby ek_13) (by decide) (by decide) ?_
  intro z0 z1 z2 z3 z4
  obtain ⟨t_466, k_467, rfl, z5, z6, z7⟩ := z4
  have z8 : Keep h0 z1 [] := (Keep.refl h0 []).trans z5 all0
  exact Jvm.Y9.Aim.retA z3 hx hlk hret rfl rfl (hb hby ek_16) (by decide) (by decide) ⟨t_466, k_467, rfl, z8, (lT (Nat.le_refl _) z6), z7⟩
theorem ew_0 : decode jdk_68_method_64_code 0 = .ok (.aload_n 0, 1) := by decide +kernel
theorem ew_1 : decode jdk_68_method_64_code 1 = .ok (.getfield 15, 3) := by decide +kernel
theorem ew_4 : decode jdk_68_method_64_code 4 = .ok (.areturn, 1) := by decide +kernel
theorem own_gv (l : Launch) (Z : State) (a0 : Array Value) (hw : ∀ d ∈ tables_1, d.before a0 Z = true) (x : Addr) (t : Addr) (kb : ClassId) (cs : List Int32) (cap : Nat) (h0 : Heap) (n0 : Nat) (Z0 : n0 ≤ h0.size) (F0 : Bld Z h0 x t kb cs cap) :
    Jvm.Y9.Con l Z (⟨"java/lang/AbstractStringBuilder", "getValue", "()[B"⟩ : MethodName) jdk_68_method_64_code 1 (some (.array .byte)) ({ frames := 0, cells := 0, slots := 0, locals := 0 } : Room) n0 #[(.ref x)] h0 (fun v h => v = some (.ref t) ∧ h0 = h) := by
  refine Jvm.Y9.Con.intro (plainFor_of_name pn_java_lang_AbstractStringBuilder) ?_
  intro p e s m below meth c s₁ hx hby hml hret hnm hown hlk hZ P0
  refine Jvm.Y9.Aim.cast (by first | (simp [entryFrame, mkF, argsToLocals, Value.category]; done) | rfl : entryFrame m #[(.ref x)] 1 = (mkF m 0 #[.val (.ref x)] [])) ?_
  have H := P0.here
  refine Jvm.Y9.Aim.of (T' := s₁) (g' := (mkF m 1 #[.val (.ref x)] [(.ref x)])) (fun tgt kt => ?_) ?_
  · refine XS.aloadN H hx rfl (hb hby ew_0) rfl rfl ?_
    exact kt
  refine Jvm.Y9.Aim.getF P0 hx hZ hown (host := "") (Or.inl (wI hw 64 rfl)) Via.refl F0.2.1 (hb hby ew_1) ?_
  intro T472 P473
  exact Jvm.Y9.Aim.retA P473 hx hlk hret rfl rfl (hb hby ew_4) (by decide) (by decide) ⟨rfl, rfl⟩
theorem ev_0 : decode jdk_68_method_6_code 0 = .ok (.aload_n 0, 1) := by decide +kernel
theorem ev_1 : decode jdk_68_method_6_code 1 = .ok (.getfield 79, 3) := by decide +kernel
theorem ev_4 : decode jdk_68_method_6_code 4 = .ok (.ireturn, 1) := by decide +kernel
theorem own_alen (l : Launch) (Z : State) (a0 : Array Value) (hw : ∀ d ∈ tables_1, d.before a0 Z = true) (x : Addr) (t : Addr) (kb : ClassId) (cs : List Int32) (cap : Nat) (h0 : Heap) (n0 : Nat) (Z0 : n0 ≤ h0.size) (F0 : Bld Z h0 x t kb cs cap) :
    Jvm.Y9.Con l Z (⟨"java/lang/AbstractStringBuilder", "length", "()I"⟩ : MethodName) jdk_68_method_6_code 1 (some .int) ({ frames := 0, cells := 0, slots := 0, locals := 0 } : Room) n0 #[(.ref x)] h0 (fun v h => v = some (.int (Int32.ofNat cs.length)) ∧ h0 = h) := by
  refine Jvm.Y9.Con.intro (plainFor_of_name pn_java_lang_AbstractStringBuilder) ?_
  intro p e s m below meth c s₁ hx hby hml hret hnm hown hlk hZ P0
  refine Jvm.Y9.Aim.cast (by first | (simp [entryFrame, mkF, argsToLocals, Value.category]; done) | rfl : entryFrame m #[(.ref x)] 1 = (mkF m 0 #[.val (.ref x)] [])) ?_
  have H := P0.here
  refine Jvm.Y9.Aim.of (T' := s₁) (g' := (mkF m 1 #[.val (.ref x)] [(.ref x)])) (fun tgt kt => ?_) ?_
  · refine XS.aloadN H hx rfl (hb hby ev_0) rfl rfl ?_
    exact kt
  refine Jvm.Y9.Aim.getF P0 hx hZ hown (host := "") (Or.inl (wI hw 89 rfl)) Via.refl F0.2.2.2.1 (hb hby ev_1) ?_
  intro T474 P475
  exact Jvm.Y9.Aim.retI P475 hx hlk hret (hb hby ev_4) (by decide) (by decide) ⟨rfl, rfl⟩
theorem eq_0 : decode jdk_67_method_93_code 0 = .ok (.aload_n 0, 1) := by decide +kernel
theorem eq_1 : decode jdk_67_method_93_code 1 = .ok (.invokespecial 343, 3) := by decide +kernel
theorem eq_4 : decode jdk_67_method_93_code 4 = .ok (.ireturn, 1) := by decide +kernel
theorem own_sblen (l : Launch) (Z : State) (a0 : Array Value) (hw : ∀ d ∈ tables_1, d.before a0 Z = true) (x : Addr) (t : Addr) (kb : ClassId) (cs : List Int32) (cap : Nat) (h0 : Heap) (n0 : Nat) (Z0 : n0 ≤ h0.size) (F0 : Bld Z h0 x t kb cs cap) :
    Jvm.Y9.Con l Z (⟨"java/lang/StringBuilder", "length", "()I"⟩ : MethodName) jdk_67_method_93_code 1 (some .int) ({ frames := 1, cells := 0, slots := 0, locals := 12 } : Room) n0 #[(.ref x)] h0 (fun v h => v = some (.int (Int32.ofNat cs.length)) ∧ h0 = h) := by
  refine Jvm.Y9.Con.intro (plainFor_of_name pn_java_lang_StringBuilder) ?_
  intro p e s m below meth c s₁ hx hby hml hret hnm hown hlk hZ P0
  refine Jvm.Y9.Aim.cast (by first | (simp [entryFrame, mkF, argsToLocals, Value.category]; done) | rfl : entryFrame m #[(.ref x)] 1 = (mkF m 0 #[.val (.ref x)] [])) ?_
  have H := P0.here
  refine Jvm.Y9.Aim.of (T' := s₁) (g' := (mkF m 1 #[.val (.ref x)] [(.ref x)])) (fun tgt kt => ?_) ?_
  · refine XS.aloadN H hx rfl (hb hby eq_0) rfl rfl ?_
    exact kt
  refine Jvm.Y9.Aim.callU (argsL := []) (rest := []) P0 hx hZ hml hown (wI hw 187 rfl) (Jvm.Y9.same_of (by decide) (wI hw 183 rfl) (Jvm.Y9.nf_sel (y2 := (⟨"java/lang/AbstractStringBuilder", "ensureCapacityInternal", "(I)V"⟩ : MethodName)) rfl (wI hw 94 rfl))) (wI hw 183 rfl) (wI hw 76 rfl) (by decide) (wI hw 188 rfl) (Ins.self F0.1) (Jvm.Y9.Con.back (W := 0) (own_alen l Z a0 hw x t kb cs cap h0 n0 Z0 F0) hZ (wI hw 188 rfl) (wI hw 60 rfl) (by decide) (by decide)) rfl pd__28_29I rfl (Nat.le_of_eq rfl) (hb hby eq_1) (by decide) (by decide) ?_
  intro z0 z1 z2 z3 z4
  obtain ⟨rfl, rfl⟩ := z4
  exact Jvm.Y9.Aim.retI z3 hx hlk hret (hb hby eq_4) (by decide) (by decide) ⟨rfl, rfl⟩
theorem e8_0 : decode jdk_42_method_150_code 0 = .ok (.aload_n 0, 1) := by decide +kernel
theorem e8_1 : decode jdk_42_method_150_code 1 = .ok (.invokespecial 1, 3) := by decide +kernel
theorem e8_4 : decode jdk_42_method_150_code 4 = .ok (.aload_n 1, 1) := by decide +kernel
theorem e8_5 : decode jdk_42_method_150_code 5 = .ok (.invokevirtual 552, 3) := by decide +kernel
theorem pd__28_29_5bB : parseMethodDescriptor "()[B" = some ⟨[], some (.array .byte)⟩ := by decide +kernel
theorem e8_8 : decode jdk_42_method_150_code 8 = .ok (.astore_n 3, 1) := by decide +kernel
theorem e8_9 : decode jdk_42_method_150_code 9 = .ok (.aload_n 1, 1) := by decide +kernel
theorem e8_10 : decode jdk_42_method_150_code 10 = .ok (.invokevirtual 549, 3) := by decide +kernel
theorem e8_13 : decode jdk_42_method_150_code 13 = .ok (.istore 4, 2) := by decide +kernel
theorem e8_15 : decode jdk_42_method_150_code 15 = .ok (.aload_n 1, 1) := by decide +kernel
theorem e8_16 : decode jdk_42_method_150_code 16 = .ok (.invokevirtual 1047, 3) := by decide +kernel
theorem e8_19 : decode jdk_42_method_150_code 19 = .ok (.ifCond .eq 22, 3) := by decide +kernel
theorem e8_22 : decode jdk_42_method_150_code 22 = .ok (.aload_n 0, 1) := by decide +kernel
theorem e8_23 : decode jdk_42_method_150_code 23 = .ok (.iconst 0, 1) := by decide +kernel
theorem e8_24 : decode jdk_42_method_150_code 24 = .ok (.putfield 15, 3) := by decide +kernel
theorem e8_27 : decode jdk_42_method_150_code 27 = .ok (.aload_n 0, 1) := by decide +kernel
theorem e8_28 : decode jdk_42_method_150_code 28 = .ok (.aload_n 3, 1) := by decide +kernel
theorem e8_29 : decode jdk_42_method_150_code 29 = .ok (.iconst 0, 1) := by decide +kernel
theorem e8_30 : decode jdk_42_method_150_code 30 = .ok (.iload 4, 2) := by decide +kernel
theorem e8_32 : decode jdk_42_method_150_code 32 = .ok (.invokestatic 54, 3) := by decide +kernel
theorem e8_35 : decode jdk_42_method_150_code 35 = .ok (.putfield 9, 3) := by decide +kernel
theorem e8_38 : decode jdk_42_method_150_code 38 = .ok (.goto 59, 3) := by decide +kernel
theorem e8_97 : decode jdk_42_method_150_code 97 = .ok (.return_, 1) := by decide +kernel
theorem own_sA (l : Launch) (Z : State) (a0 : Array Value) (hw : ∀ d ∈ tables_1, d.before a0 Z = true) (z : Addr) (x : Addr) (t : Addr) (kb : ClassId) (cs : List Int32) (cap : Nat) (v0 : Value) (c0 : Value) (h0 : Heap) (n0 : Nat) (Z0 : n0 ≤ h0.size) (g_z : n0 ≤ z) (F0 : Exa Z h0 z "java/lang/String") (F1 : Fld Z h0 z "java/lang/String" "value" "[B" v0) (F2 : Fld Z h0 z "java/lang/String" "coder" "B" c0) (F3 : Bld Z h0 x t kb cs cap) (F4 : Old Z n0 h0) (hl : cs.length < cap) (hc : cap ≤ 100) (hr : ∀ c ∈ cs, ¬ c < 0 ∧ ¬ (255 : Int32) < c) (nzx : z ≠ x) (nzt : z ≠ t) (G : Cmp Z) :
    Jvm.Y9.Con l Z (⟨"java/lang/String", "<init>", "(Ljava/lang/AbstractStringBuilder;Ljava/lang/Void;)V"⟩ : MethodName) jdk_42_method_150_code 5 none ({ frames := 3, cells := 1, slots := 100, locals := 49 } : Room) n0 #[(.ref z), (.ref x), .null] h0 (fun v h => ∃ t2 : Addr, ∃ k2 : ClassId, v = none ∧ Keep h0 h [z] ∧ h0.size ≤ t2 ∧ Str Z h z t2 k2 cs) := by
  refine Jvm.Y9.Con.intro (plainFor_of_name pn_java_lang_String) ?_
  intro p e s m below meth c s₁ hx hby hml hret hnm hown hlk hZ P0
  refine Jvm.Y9.Aim.cast (by first | (simp [entryFrame, mkF, argsToLocals, Value.category]; done) | rfl : entryFrame m #[(.ref z), (.ref x), .null] 5 = (mkF m 0 #[.val (.ref z), .val (.ref x), .val .null, .unset, .unset] [])) ?_
  have H := P0.here
  refine Jvm.Y9.Aim.of (T' := s₁) (g' := (mkF m 1 #[.val (.ref z), .val (.ref x), .val .null, .unset, .unset] [(.ref z)])) (fun tgt kt => ?_) ?_
  · refine XS.aloadN H hx rfl (hb hby e8_0) rfl rfl ?_
    exact kt
  refine Jvm.Y9.Aim.initO P0 hx hZ hml hown (wI hw 12 rfl) (wI hw 13 rfl) (wI hw 14 rfl) rfl (hb hby e8_1) (by decide) (Nat.le_of_ble_eq_true rfl) ?_
  intro z0 z1
  have H := z1.here
  refine Jvm.Y9.Aim.of (T' := z0) (g' := (mkF m 5 #[.val (.ref z), .val (.ref x), .val .null, .unset, .unset] [(.ref x)])) (fun tgt kt => ?_) ?_
  · refine XS.aloadN H hx rfl (hb hby e8_4) rfl rfl ?_
    exact kt
  refine Jvm.Y9.Aim.callV (argsL := []) (rest := []) z1 hx hZ hml hown (wI hw 176 rfl) (wI hw 177 rfl) (notFace_of_selects (args := #[]) (mvT hZ (wI hw 179 rfl))) (wI hw 179 rfl) (wI hw 178 rfl) (by decide) F3.1 (Jvm.Y9.Con.back (W := 0) (own_gv l Z a0 hw x t kb cs cap h0 n0 Z0 F3) hZ (wI hw 180 rfl) (wI hw 60 rfl) (by decide) (by decide)) rfl pd__28_29_5bB rfl (Nat.le_of_eq rfl) (hb hby e8_5) (by decide) (by decide) ?_
  intro z2 z3 z4 z5 z6
  obtain ⟨rfl, rfl⟩ := z6
  have H := z5.here
  refine Jvm.Y9.Aim.of (T' := z2) (g' := (mkF m 10 #[.val (.ref z), .val (.ref x), .val .null, .val (.ref t), .unset] [(.ref x)])) (fun tgt kt => ?_) ?_
  · refine XS.astoreN H hx rfl (hb hby e8_8) rfl rfl (l' := #[.val (.ref z), .val (.ref x), .val .null, .val (.ref t), .unset]) rfl ?_
    refine XS.aloadN H hx rfl (hb hby e8_9) rfl rfl ?_
    exact kt
  refine Jvm.Y9.Aim.callV (argsL := []) (rest := []) z5 hx hZ hml hown (wI hw 181 rfl) (wI hw 182 rfl) (Jvm.Y9.nf_sel (args := #[]) (y2 := (⟨"java/lang/AbstractStringBuilder", "ensureCapacityInternal", "(I)V"⟩ : MethodName)) rfl (mvT hZ (wI hw 94 rfl))) (wI hw 184 rfl) (wI hw 185 rfl) (by decide) F3.1 (Jvm.Y9.Con.back (W := 0) (own_sblen l Z a0 hw x t kb cs cap h0 n0 Z0 F3) hZ (wI hw 186 rfl) (wI hw 52 rfl) (by decide) (by decide)) rfl pd__28_29I rfl (Nat.le_of_eq rfl) (hb hby e8_10) (by decide) (by decide) ?_
  intro z7 z8 z9 za zb
  obtain ⟨rfl, rfl⟩ := zb
  have H := za.here
  refine Jvm.Y9.Aim.of (T' := z7) (g' := (mkF m 16 #[.val (.ref z), .val (.ref x), .val .null, .val (.ref t), .val (.int (Int32.ofNat cs.length))] [(.ref x)])) (fun tgt kt => ?_) ?_
  · refine XS.istore H hx rfl (hb hby e8_13) rfl (l' := #[.val (.ref z), .val (.ref x), .val .null, .val (.ref t), .val (.int (Int32.ofNat cs.length))]) rfl ?_
    refine XS.aloadN H hx rfl (hb hby e8_15) rfl rfl ?_
    exact kt
  refine Jvm.Y9.Aim.callV (argsL := []) (rest := []) za hx hZ hml hown (wI hw 189 rfl) (wI hw 154 rfl) (notFace_of_selects (args := #[]) (mvT hZ (wI hw 156 rfl))) (wI hw 156 rfl) (wI hw 155 rfl) (by decide) F3.1 (Jvm.Y9.Con.back (W := 0) (own_isL l Z a0 hw x t kb cs cap h0 n0 Z0 F3 F4 G) hZ (wI hw 157 rfl) (wI hw 60 rfl) (by decide) (by decide)) rfl pd__28_29Z rfl (Nat.le_of_eq rfl) (hb hby e8_16) (by decide) (by decide) ?_
  intro zc zd ze zf zg
  obtain ⟨rfl, rfl⟩ := zg
  have H := zf.here
  refine Jvm.Y9.Aim.of (T' := zc) (g' := (mkF m 24 #[.val (.ref z), .val (.ref x), .val .null, .val (.ref t), .val (.int (Int32.ofNat cs.length))] [(.int 0), (.ref z)])) (fun tgt kt => ?_) ?_
  · refine XS.ifNo H hx rfl (hb hby e8_19) rfl ((if0 _ _).trans (feq (by decide)).1) ?_
    refine XS.aloadN H hx rfl (hb hby e8_22) rfl rfl ?_
    refine XS.iconst H hx rfl (hb hby e8_23) ?_
    exact kt
  refine Jvm.Y9.Aim.putF (v := (.int 0)) zf hx hZ hown (host := "") (Or.inl (wI hw 27 rfl)) Via.refl F2 F0 (Or.inr ⟨(wI hw 28 rfl), rfl, hnm⟩) (wI hw 3 rfl) (ty := .byte) (by decide) rfl rfl (hb hby e8_24) g_z ?_
  intro zh zi zj zk
  have zl := Keep.of_wr zk
  have zm : Fld Z zi z "java/lang/String" "coder" "B" (.int 0) := F2.same zk
  have zn : Keep h0 zi [z] := (Keep.refl h0 [z]).trans zl (allS (Or.inl (List.mem_of_getElem? (i := 0) rfl)) all0)
  have H := zj.here
  refine Jvm.Y9.Aim.of (T' := zh) (g' := (mkF m 32 #[.val (.ref z), .val (.ref x), .val .null, .val (.ref t), .val (.int (Int32.ofNat cs.length))] [(.int (Int32.ofNat cs.length)), (.int 0), (.ref t), (.ref z)])) (fun tgt kt => ?_) ?_
  · refine XS.aloadN H hx rfl (hb hby e8_27) rfl rfl ?_
    refine XS.aloadN H hx rfl (hb hby e8_28) rfl rfl ?_
    refine XS.iconst H hx rfl (hb hby e8_29) ?_
    refine XS.iload H hx rfl (hb hby e8_30) rfl ?_
    exact kt
  have zo : Arv Z zi t kb .byte (Int32.ofNat cap) (fill cs cap) (.int 0) := (F3.2.2.2.2.keep zl (ninS (Ne.symm nzt) nin0))
  refine Jvm.Y9.Aim.callS (argsL := [(.ref t), (.int 0), (.int (Int32.ofNat cs.length))]) (rest := [(.ref z)]) zj hx hZ hml hown (wI hw 190 rfl) (wI hw 191 rfl) (wI hw 133 rfl) (wI hw 192 rfl) (by decide) (Jvm.Y9.Con.back (W := 1) (own_cr l Z a0 hw t kb cs cap zi n0 (lT Z0 (zn.1)) zo hl hc) hZ (wI hw 192 rfl) (wI hw 133 rfl) (by decide) (by decide)) rfl pd__28_5bBII_29_5bB rfl (Nat.le_of_eq rfl) (hb hby e8_32) (by decide) (by decide) ?_
  intro zp zq zr zs zt
  obtain ⟨t_521, k_522, rfl, zu, zv, zw⟩ := zt
  have zx : Keep h0 zq [z] := zn.trans zu all0
  have zy : Exa Z zq z "java/lang/String" := ((F0.keep zl).keep zu)
  have zz : Fld Z zq z "java/lang/String" "value" "[B" v0 := ((F1.other zk (Or.inr (slot_ne (Or.inr (wI hw 30 rfl)) (Or.inr (wI hw 28 rfl)) (by decide) (t := (.array .byte)) (t' := .byte) (by decide) (by decide)))).keep zu nin0)
  refine Jvm.Y9.Aim.putF (v := (.ref t_521)) zs hx hZ hown (host := "") (Or.inl (wI hw 29 rfl)) Via.refl zz zy (Or.inr ⟨(wI hw 30 rfl), rfl, hnm⟩) (wI hw 3 rfl) (ty := (.array .byte)) (by decide) rfl rfl (hb hby e8_35) g_z ?_
  intro z10 z11 z12 z13
  have z14 := Keep.of_wr z13
  have z15 : Fld Z z11 z "java/lang/String" "value" "[B" (.ref t_521) := zz.same z13
  have z16 : Keep h0 z11 [z] := zx.trans z14 (allS (Or.inl (List.mem_of_getElem? (i := 0) rfl)) all0)
  have H := z12.here
  refine Jvm.Y9.Aim.of (T' := z10) (g' := (mkF m 97 #[.val (.ref z), .val (.ref x), .val .null, .val (.ref t), .val (.int (Int32.ofNat cs.length))] [])) (fun tgt kt => ?_) ?_
  · refine XS.goto H hx rfl (pc0 := 38) (pc' := 97) rfl (hb hby e8_38) (by decide) (by decide) ?_
    exact kt
  have z17 : Exa Z z11 z "java/lang/String" := (zy.keep z14)
  have z18 : Fld Z z11 z "java/lang/String" "coder" "B" (.int 0) := ((zm.keep zu nin0).other z13 (Or.inr (slot_ne (Or.inr (wI hw 28 rfl)) (Or.inr (wI hw 30 rfl)) (by decide) (t := .byte) (t' := (.array .byte)) (by decide) (by decide))))
  have z19 : Arv Z z11 t_521 k_522 .byte (Int32.ofNat cs.length) (cs.map fun c => Value.int (c.toInt8.toInt32)) (.int 0) := (zw.keep z14 (ninS (Ne.symm (nL (lL (lL F0.lt (zn.1)) zv))) nin0))
  exact Jvm.Y9.Aim.retV z12 hx hlk hret (hb hby e8_97) (by decide) (by decide) ⟨t_521, k_522, rfl, z16, (lT (zn.1) zv), ⟨z17, z15, z18, z19, hr, by omega⟩⟩
theorem ed_0 : decode jdk_42_method_53_code 0 = .ok (.aload_n 0, 1) := by decide +kernel
theorem ed_1 : decode jdk_42_method_53_code 1 = .ok (.aload_n 1, 1) := by decide +kernel
theorem ed_2 : decode jdk_42_method_53_code 2 = .ok (.aconst_null, 1) := by decide +kernel
theorem ed_3 : decode jdk_42_method_53_code 3 = .ok (.invokespecial 489, 3) := by decide +kernel
theorem pd__28Ljava_2flang_2fAbstractStringBuilder_3bLjava_2flang_2fVoid_3b_29V : parseMethodDescriptor "(Ljava/lang/AbstractStringBuilder;Ljava/lang/Void;)V" = some ⟨[(.object "java/lang/AbstractStringBuilder"), (.object "java/lang/Void")], none⟩ := by decide +kernel
theorem ed_6 : decode jdk_42_method_53_code 6 = .ok (.return_, 1) := by decide +kernel
theorem own_sS (l : Launch) (Z : State) (a0 : Array Value) (hw : ∀ d ∈ tables_1, d.before a0 Z = true) (z : Addr) (x : Addr) (t : Addr) (kb : ClassId) (cs : List Int32) (cap : Nat) (v0 : Value) (c0 : Value) (h0 : Heap) (n0 : Nat) (Z0 : n0 ≤ h0.size) (g_z : n0 ≤ z) (F0 : Exa Z h0 z "java/lang/String") (F1 : Fld Z h0 z "java/lang/String" "value" "[B" v0) (F2 : Fld Z h0 z "java/lang/String" "coder" "B" c0) (F3 : Bld Z h0 x t kb cs cap) (F4 : Old Z n0 h0) (hl : cs.length < cap) (hc : cap ≤ 100) (hr : ∀ c ∈ cs, ¬ c < 0 ∧ ¬ (255 : Int32) < c) (nzx : z ≠ x) (nzt : z ≠ t) (G : Cmp Z) :
    Jvm.Y9.Con l Z (⟨"java/lang/String", "<init>", "(Ljava/lang/StringBuilder;)V"⟩ : MethodName) jdk_42_method_53_code 2 none ({ frames := 4, cells := 1, slots := 100, locals := 65 } : Room) n0 #[(.ref z), (.ref x)] h0 (fun v h => ∃ t2 : Addr, ∃ k2 : ClassId, v = none ∧ Keep h0 h [z] ∧ h0.size ≤ t2 ∧ Str Z h z t2 k2 cs) := by
  refine Jvm.Y9.Con.intro (plainFor_of_name pn_java_lang_String) ?_
  intro p e s m below meth c s₁ hx hby hml hret hnm hown hlk hZ P0
  refine Jvm.Y9.Aim.cast (by first | (simp [entryFrame, mkF, argsToLocals, Value.category]; done) | rfl : entryFrame m #[(.ref z), (.ref x)] 2 = (mkF m 0 #[.val (.ref z), .val (.ref x)] [])) ?_
  have H := P0.here
  refine Jvm.Y9.Aim.of (T' := s₁) (g' := (mkF m 3 #[.val (.ref z), .val (.ref x)] [.null, (.ref x), (.ref z)])) (fun tgt kt => ?_) ?_
  · refine XS.aloadN H hx rfl (hb hby ed_0) rfl rfl ?_
    refine XS.aloadN H hx rfl (hb hby ed_1) rfl rfl ?_
    refine XS.aconstNull H hx rfl (hb hby ed_2) ?_
    exact kt
  refine Jvm.Y9.Aim.callC (argsL := [(.ref x), .null]) (rest := []) P0 hx hZ hml hown rfl (wI hw 173 rfl) (wI hw 174 rfl) (wI hw 175 rfl) (by decide) (Jvm.Y9.Con.back (W := 0) (own_sA l Z a0 hw z x t kb cs cap v0 c0 h0 n0 Z0 g_z F0 F1 F2 F3 F4 hl hc hr nzx nzt G) hZ (wI hw 175 rfl) (wI hw 4 rfl) (by decide) (by decide)) rfl pd__28Ljava_2flang_2fAbstractStringBuilder_3bLjava_2flang_2fVoid_3b_29V rfl (Nat.le_of_eq rfl) (hb hby ed_3) (by decide) (by decide) ?_
  intro z0 z1 z2 z3 z4
  obtain ⟨t_546, k_547, rfl, z5, z6, z7⟩ := z4
  have z8 : Keep h0 z1 [z] := (Keep.refl h0 [z]).trans z5 (allS (Or.inl (List.mem_of_getElem? (i := 0) rfl)) all0)
  exact Jvm.Y9.Aim.retV z3 hx hlk hret (hb hby ed_6) (by decide) (by decide) ⟨t_546, k_547, rfl, z8, (lT (Nat.le_refl _) z6), z7⟩
theorem eo_0 : decode jdk_67_method_42_code 0 = .ok (.new 18, 3) := by decide +kernel
theorem eo_3 : decode jdk_67_method_42_code 3 = .ok (.dup, 1) := by decide +kernel
theorem eo_4 : decode jdk_67_method_42_code 4 = .ok (.aload_n 0, 1) := by decide +kernel
theorem eo_5 : decode jdk_67_method_42_code 5 = .ok (.invokespecial 137, 3) := by decide +kernel
theorem pd__28Ljava_2flang_2fStringBuilder_3b_29V : parseMethodDescriptor "(Ljava/lang/StringBuilder;)V" = some ⟨[(.object "java/lang/StringBuilder")], none⟩ := by decide +kernel
theorem eo_8 : decode jdk_67_method_42_code 8 = .ok (.areturn, 1) := by decide +kernel
theorem own_ts (l : Launch) (Z : State) (a0 : Array Value) (hw : ∀ d ∈ tables_1, d.before a0 Z = true) (x : Addr) (t : Addr) (kb : ClassId) (cs : List Int32) (cap : Nat) (h0 : Heap) (n0 : Nat) (Z0 : n0 ≤ h0.size) (F0 : Bld Z h0 x t kb cs cap) (F1 : Old Z n0 h0) (hl : cs.length < cap) (hc : cap ≤ 100) (hr : ∀ c ∈ cs, ¬ c < 0 ∧ ¬ (255 : Int32) < c) (G : Cmp Z) :
    Jvm.Y9.Con l Z (⟨"java/lang/StringBuilder", "toString", "()Ljava/lang/String;"⟩ : MethodName) jdk_67_method_42_code 1 (some (.object "java/lang/String")) ({ frames := 5, cells := 2, slots := 104, locals := 79 } : Room) n0 #[(.ref x)] h0 (fun v h => ∃ z : Addr, ∃ t2 : Addr, ∃ k2 : ClassId, v = some (.ref z) ∧ Keep h0 h [] ∧ h0.size ≤ z ∧ h0.size ≤ t2 ∧ Str Z h z t2 k2 cs) := by
  refine Jvm.Y9.Con.intro (plainFor_of_name pn_java_lang_StringBuilder) ?_
  intro p e s m below meth c s₁ hx hby hml hret hnm hown hlk hZ P0
  refine Jvm.Y9.Aim.cast (by first | (simp [entryFrame, mkF, argsToLocals, Value.category]; done) | rfl : entryFrame m #[(.ref x)] 1 = (mkF m 0 #[.val (.ref x)] [])) ?_
  refine Jvm.Y9.Aim.newO P0 hx hZ hown (wI hw 169 rfl) (wI hw 3 rfl) (wI hw 4 rfl) (hb hby eo_0) (by decide) (by decide) ?_
  intro z0 z1 z2 z3 z4 z5 z6 z7 z8
  have z9 : Keep h0 z1 [] := (Keep.refl _ _).ext z5
  have za : Keep h0 z1 [] := (Keep.refl h0 []).trans z9 all0
  have zb : Fld Z z1 z2 "java/lang/String" "coder" "B" (.int 0) := z7 (Or.inr (wI hw 28 rfl)) (ty := .byte) (by decide)
  have zc : Fld Z z1 z2 "java/lang/String" "value" "[B" .null := z7 (Or.inr (wI hw 30 rfl)) (ty := (.array .byte)) (by decide)
  have H := z4.here
  refine Jvm.Y9.Aim.of (T' := z0) (g' := (mkF m 5 #[.val (.ref x)] [(.ref x), (.ref z2), (.ref z2)])) (fun tgt kt => ?_) ?_
  · refine XS.dup H hx rfl (hb hby eo_3) rfl rfl ?_
    refine XS.aloadN H hx rfl (hb hby eo_4) rfl rfl ?_
    exact kt
  have zd : Bld Z z1 x t kb cs cap := (F0.keep z9 nin0 nin0)
  have ze : Old Z n0 z1 := (F1.keep z9 all0)
  refine Jvm.Y9.Aim.callC (argsL := [(.ref x)]) (rest := [(.ref z2)]) z4 hx hZ hml hown rfl (wI hw 170 rfl) (wI hw 171 rfl) (wI hw 172 rfl) (by decide) (Jvm.Y9.Con.back (W := 1) (own_sS l Z a0 hw z2 x t kb cs cap (.null) (.int 0) z1 n0 (lT Z0 (za.1)) (lT Z0 (Nat.le_of_eq z3.symm)) z6 zc zb zd ze hl hc hr (Ne.symm (nL (lL F0.1.lt (Nat.le_of_eq z3.symm)))) (Ne.symm (nL (lL F0.2.2.2.2.lt (Nat.le_of_eq z3.symm)))) G) hZ (wI hw 172 rfl) (wI hw 4 rfl) (by decide) (by decide)) rfl pd__28Ljava_2flang_2fStringBuilder_3b_29V rfl (Nat.le_of_eq rfl) (hb hby eo_5) (by decide) (by decide) ?_
  intro zf zg zh zi zj
  obtain ⟨t_574, k_575, rfl, zk, zl, zm⟩ := zj
  have zn : Keep h0 zg [] := za.trans zk (allS (Or.inr (lT (Nat.le_refl _) (Nat.le_of_eq z3.symm))) all0)
  exact Jvm.Y9.Aim.retA zi hx hlk hret rfl rfl (hb hby eo_8) (by decide) (by decide) ⟨z2, t_574, k_575, rfl, zn, (lT (Nat.le_refl _) (Nat.le_of_eq z3.symm)), (lT (za.1) zl), zm⟩
theorem e5_0 : decode jdk_41_method_11_code 0 = .ok (.iload_n 0, 1) := by decide +kernel
theorem e5_1 : decode jdk_41_method_11_code 1 = .ok (.ifCond .lt 8, 3) := by decide +kernel
theorem e5_4 : decode jdk_41_method_11_code 4 = .ok (.iload_n 0, 1) := by decide +kernel
theorem e5_5 : decode jdk_41_method_11_code 5 = .ok (.iload_n 1, 1) := by decide +kernel
theorem e5_6 : decode jdk_41_method_11_code 6 = .ok (.if_icmp .lt 10, 3) := by decide +kernel
theorem e5_16 : decode jdk_41_method_11_code 16 = .ok (.iload_n 0, 1) := by decide +kernel
theorem e5_17 : decode jdk_41_method_11_code 17 = .ok (.ireturn, 1) := by decide +kernel
theorem pn_jdk_internal_util_Preconditions : plainName "jdk/internal/util/Preconditions" = true := by first | (simp [plainName, overriddenIn]; done) | decide +kernel
theorem own_pci (l : Launch) (Z : State) (a0 : Array Value) (hw : ∀ d ∈ tables_1, d.before a0 Z = true) (i : Int32) (n : Int32) (f : Value) (h0 : Heap) (n0 : Nat) (Z0 : n0 ≤ h0.size) (hf : f.category = 1) (h0_ : ¬ (i < (0 : Int32))) (h1_ : i < n) :
    Jvm.Y9.Con l Z (⟨"jdk/internal/util/Preconditions", "checkIndex", "(IILjava/util/function/BiFunction;)I"⟩ : MethodName) jdk_41_method_11_code 3 (some .int) ({ frames := 0, cells := 0, slots := 0, locals := 0 } : Room) n0 #[(.int i), (.int n), f] h0 (fun v h => v = some (.int i) ∧ h0 = h) := by
  refine Jvm.Y9.Con.intro (plainFor_of_name pn_jdk_internal_util_Preconditions) ?_
  intro p e s m below meth c s₁ hx hby hml hret hnm hown hlk hZ P0
  refine Jvm.Y9.Aim.cast (by cases f <;> first | rfl | (simp [Value.category] at hf; done) : entryFrame m #[(.int i), (.int n), f] 3 = (mkF m 0 #[.val (.int i), .val (.int n), .val f] [])) ?_
  have H := P0.here
  refine Jvm.Y9.Aim.of (T' := s₁) (g' := (mkF m 17 #[.val (.int i), .val (.int n), .val f] [(.int i)])) (fun tgt kt => ?_) ?_
  · refine XS.iloadN H hx rfl (hb hby e5_0) rfl ?_
    refine XS.ifNo H hx rfl (hb hby e5_1) rfl ((if0 _ _).trans (flt h0_).1) ?_
    refine XS.iloadN H hx rfl (hb hby e5_4) rfl ?_
    refine XS.iloadN H hx rfl (hb hby e5_5) rfl ?_
    refine XS.icmpYes H hx rfl (pc0 := 6) (pc' := 16) rfl (hb hby e5_6) rfl (tlt h1_).1 (by decide) (by decide) ?_
    refine XS.iloadN H hx rfl (hb hby e5_16) rfl ?_
    exact kt
  exact Jvm.Y9.Aim.retI P0 hx hlk hret (hb hby e5_17) (by decide) (by decide) ⟨rfl, rfl⟩
theorem eb_0 : decode jdk_42_method_155_code 0 = .ok (.iload_n 0, 1) := by decide +kernel
theorem eb_1 : decode jdk_42_method_155_code 1 = .ok (.iload_n 1, 1) := by decide +kernel
theorem eb_2 : decode jdk_42_method_155_code 2 = .ok (.getstatic 1053, 3) := by decide +kernel
theorem eb_5 : decode jdk_42_method_155_code 5 = .ok (.invokestatic 1059, 3) := by decide +kernel
theorem pd__28IILjava_2futil_2ffunction_2fBiFunction_3b_29I : parseMethodDescriptor "(IILjava/util/function/BiFunction;)I" = some ⟨[.int, .int, (.object "java/util/function/BiFunction")], some .int⟩ := by decide +kernel
theorem eb_8 : decode jdk_42_method_155_code 8 = .ok (.pop, 1) := by decide +kernel
theorem eb_9 : decode jdk_42_method_155_code 9 = .ok (.return_, 1) := by decide +kernel
theorem own_sci (l : Launch) (Z : State) (a0 : Array Value) (hw : ∀ d ∈ tables_1, d.before a0 Z = true) (i : Int32) (n : Int32) (h0 : Heap) (n0 : Nat) (Z0 : n0 ≤ h0.size) (F0 : Old Z n0 h0) (h0_ : ¬ (i < (0 : Int32))) (h1_ : i < n) (GS : Sio Z) :
    Jvm.Y9.Con l Z (⟨"java/lang/String", "checkIndex", "(II)V"⟩ : MethodName) jdk_42_method_155_code 2 none ({ frames := 1, cells := 0, slots := 0, locals := 14 } : Room) n0 #[(.int i), (.int n)] h0 (fun v h => v = none ∧ h0 = h) := by
  refine Jvm.Y9.Con.intro (plainFor_of_name pn_java_lang_String) ?_
  intro p e s m below meth c s₁ hx hby hml hret hnm hown hlk hZ P0
  refine Jvm.Y9.Aim.cast (by first | (simp [entryFrame, mkF, argsToLocals, Value.category]; done) | rfl : entryFrame m #[(.int i), (.int n)] 2 = (mkF m 0 #[.val (.int i), .val (.int n)] [])) ?_
  obtain ⟨vf, Svf, hvf⟩ := id GS
  have H := P0.here
  refine Jvm.Y9.Aim.of (T' := s₁) (g' := (mkF m 2 #[.val (.int i), .val (.int n)] [(.int n), (.int i)])) (fun tgt kt => ?_) ?_
  · refine XS.iloadN H hx rfl (hb hby eb_0) rfl ?_
    refine XS.iloadN H hx rfl (hb hby eb_1) rfl ?_
    exact kt
  refine Jvm.Y9.Aim.getS P0 hx hZ hown (wI hw 255 rfl) Via.refl (Svf.ext F0.2) (hb hby eb_2) ?_
  intro z0 z1
  refine Jvm.Y9.Aim.callS (argsL := [(.int i), (.int n), vf]) (rest := []) z1 hx hZ hml hown (wI hw 257 rfl) (wI hw 258 rfl) (wI hw 256 rfl) (wI hw 259 rfl) (by decide) (Jvm.Y9.Con.back (W := 0) (own_pci l Z a0 hw i n vf h0 n0 Z0 hvf h0_ h1_) hZ (wI hw 259 rfl) (wI hw 256 rfl) (by decide) (by decide)) rfl pd__28IILjava_2futil_2ffunction_2fBiFunction_3b_29I rfl (Nat.le_of_eq rfl) (hb hby eb_5) (by decide) (by decide) ?_
  intro z2 z3 z4 z5 z6
  obtain ⟨rfl, rfl⟩ := z6
  have H := z5.here
  refine Jvm.Y9.Aim.of (T' := z2) (g' := (mkF m 9 #[.val (.int i), .val (.int n)] [])) (fun tgt kt => ?_) ?_
  · refine XS.pop H hx rfl (hb hby eb_8) rfl rfl ?_
    exact kt
  exact Jvm.Y9.Aim.retV z5 hx hlk hret (hb hby eb_9) (by decide) (by decide) ⟨rfl, rfl⟩
theorem eg_0 : decode jdk_43_method_2_code 0 = .ok (.iload_n 1, 1) := by decide +kernel
theorem eg_1 : decode jdk_43_method_2_code 1 = .ok (.aload_n 0, 1) := by decide +kernel
theorem eg_2 : decode jdk_43_method_2_code 2 = .ok (.arraylength, 1) := by decide +kernel
theorem eg_3 : decode jdk_43_method_2_code 3 = .ok (.invokestatic 9, 3) := by decide +kernel
theorem eg_6 : decode jdk_43_method_2_code 6 = .ok (.aload_n 0, 1) := by decide +kernel
theorem eg_7 : decode jdk_43_method_2_code 7 = .ok (.iload_n 1, 1) := by decide +kernel
theorem eg_8 : decode jdk_43_method_2_code 8 = .ok (.baload, 1) := by decide +kernel
theorem eg_9 : decode jdk_43_method_2_code 9 = .ok (.sipush 255, 3) := by decide +kernel
theorem eg_12 : decode jdk_43_method_2_code 12 = .ok (.iand, 1) := by decide +kernel
theorem eg_13 : decode jdk_43_method_2_code 13 = .ok (.i2c, 1) := by decide +kernel
theorem eg_14 : decode jdk_43_method_2_code 14 = .ok (.ireturn, 1) := by decide +kernel
theorem pn_java_lang_StringLatin1 : plainName "java/lang/StringLatin1" = true := by first | (simp [plainName, overriddenIn]; done) | decide +kernel
theorem own_lca (l : Launch) (Z : State) (a0 : Array Value) (hw : ∀ d ∈ tables_1, d.before a0 Z = true) (u : Addr) (ku : ClassId) (ds : List Int32) (i : Int32) (h0 : Heap) (n0 : Nat) (Z0 : n0 ≤ h0.size) (F0 : Arv Z h0 u ku .byte (Int32.ofNat ds.length) (ds.map fun c => Value.int (c.toInt8.toInt32)) (.int 0)) (F1 : Old Z n0 h0) (h0_ : ¬ (i < (0 : Int32))) (h1_ : i < (Int32.ofNat ds.length)) (hr : ∀ c ∈ ds, ¬ c < 0 ∧ ¬ (255 : Int32) < c) (h4 : ds.length ≤ 4000) (GS : Sio Z) :
    Jvm.Y9.Con l Z (⟨"java/lang/StringLatin1", "charAt", "([BI)C"⟩ : MethodName) jdk_43_method_2_code 2 (some .char) ({ frames := 2, cells := 0, slots := 0, locals := 27 } : Room) n0 #[(.ref u), (.int i)] h0 (fun v h => v = some (.int (ds.getD i.toNatClampNeg 0)) ∧ h0 = h) := by
  refine Jvm.Y9.Con.intro (plainFor_of_name pn_java_lang_StringLatin1) ?_
  intro p e s m below meth c s₁ hx hby hml hret hnm hown hlk hZ P0
  refine Jvm.Y9.Aim.cast (by first | (simp [entryFrame, mkF, argsToLocals, Value.category]; done) | rfl : entryFrame m #[(.ref u), (.int i)] 2 = (mkF m 0 #[.val (.ref u), .val (.int i)] [])) ?_
  have H := P0.here
  refine Jvm.Y9.Aim.of (T' := s₁) (g' := (mkF m 2 #[.val (.ref u), .val (.int i)] [(.ref u), (.int i)])) (fun tgt kt => ?_) ?_
  · refine XS.iloadN H hx rfl (hb hby eg_0) rfl ?_
    refine XS.aloadN H hx rfl (hb hby eg_1) rfl rfl ?_
    exact kt
  refine Jvm.Y9.Aim.alen P0 hx hZ F0 (hb hby eg_2) ?_
  refine Jvm.Y9.Aim.callS (argsL := [(.int i), (.int (Int32.ofNat ds.length))]) (rest := []) P0 hx hZ hml hown (wI hw 252 rfl) (wI hw 253 rfl) (wI hw 4 rfl) (wI hw 254 rfl) (by decide) (Jvm.Y9.Con.back (W := 0) (own_sci l Z a0 hw i (Int32.ofNat ds.length) h0 n0 Z0 F1 h0_ h1_ GS) hZ (wI hw 254 rfl) (wI hw 4 rfl) (by decide) (by decide)) rfl pd__28II_29V rfl (Nat.le_of_eq rfl) (hb hby eg_3) (by decide) (by decide) ?_
  intro z0 z1 z2 z3 z4
  obtain ⟨rfl, rfl⟩ := z4
  have H := z3.here
  refine Jvm.Y9.Aim.of (T' := z0) (g' := (mkF m 8 #[.val (.ref u), .val (.int i)] [(.int i), (.ref u)])) (fun tgt kt => ?_) ?_
  · refine XS.aloadN H hx rfl (hb hby eg_6) rfl rfl ?_
    refine XS.iloadN H hx rfl (hb hby eg_7) rfl ?_
    exact kt
  refine Jvm.Y9.Aim.ldB (j := i) (v := (.int ((ds.getD i.toNatClampNeg 0).toInt8.toInt32))) z3 hx hZ F0 ⟨h0_, h1_⟩ (own_get h0_ h1_ h4).1 (hb hby eg_8) ?_
  have H := z3.here
  refine Jvm.Y9.Aim.of (T' := z0) (g' := (mkF m 14 #[.val (.ref u), .val (.int i)] [(.int ((((ds.getD i.toNatClampNeg 0).toInt8.toInt32) &&& (255 : Int32)).toUInt32.toUInt16.toUInt32.toInt32))])) (fun tgt kt => ?_) ?_
  · refine XS.sipush H hx rfl (hb hby eg_9) ?_
    refine XS.iand H hx rfl (hb hby eg_12) rfl ?_
    refine XS.i2c H hx rfl (hb hby eg_13) rfl ?_
    exact kt
  exact Jvm.Y9.Aim.retN (t := .char) z3 hx hlk hret (by simp) (hb hby eg_14) (by decide) (by decide) ⟨(congrArg some (congrArg Value.int (own_chr_of (hr _ (own_get h0_ h1_ h4).2)))), rfl⟩
theorem ea_0 : decode jdk_42_method_154_code 0 = .ok (.getstatic 38, 3) := by decide +kernel
theorem ea_3 : decode jdk_42_method_154_code 3 = .ok (.ifCond .eq 14, 3) := by decide +kernel
theorem ea_6 : decode jdk_42_method_154_code 6 = .ok (.aload_n 0, 1) := by decide +kernel
theorem ea_7 : decode jdk_42_method_154_code 7 = .ok (.getfield 15, 3) := by decide +kernel
theorem ea_10 : decode jdk_42_method_154_code 10 = .ok (.ifCond .ne 7, 3) := by decide +kernel
theorem ea_13 : decode jdk_42_method_154_code 13 = .ok (.iconst 1, 1) := by decide +kernel
theorem ea_14 : decode jdk_42_method_154_code 14 = .ok (.goto 4, 3) := by decide +kernel
theorem ea_18 : decode jdk_42_method_154_code 18 = .ok (.ireturn, 1) := by decide +kernel
theorem own_isL1 (l : Launch) (Z : State) (a0 : Array Value) (hw : ∀ d ∈ tables_1, d.before a0 Z = true) (y : Addr) (h0 : Heap) (n0 : Nat) (Z0 : n0 ≤ h0.size) (F0 : Fld Z h0 y "java/lang/String" "coder" "B" (.int 0)) (F1 : Old Z n0 h0) (G : Cmp Z) :
    Jvm.Y9.Con l Z (⟨"java/lang/String", "isLatin1", "()Z"⟩ : MethodName) jdk_42_method_154_code 1 (some .boolean) ({ frames := 0, cells := 0, slots := 0, locals := 0 } : Room) n0 #[(.ref y)] h0 (fun v h => v = some (.int 1) ∧ h0 = h) := by
  refine Jvm.Y9.Con.intro (plainFor_of_name pn_java_lang_String) ?_
  intro p e s m below meth c s₁ hx hby hml hret hnm hown hlk hZ P0
  refine Jvm.Y9.Aim.cast (by first | (simp [entryFrame, mkF, argsToLocals, Value.category]; done) | rfl : entryFrame m #[(.ref y)] 1 = (mkF m 0 #[.val (.ref y)] [])) ?_
  obtain ⟨zc, hzc, Szc⟩ := id G
  refine Jvm.Y9.Aim.getS P0 hx hZ hown (wI hw 15 rfl) Via.refl (Szc.ext F1.2) (hb hby ea_0) ?_
  intro T596 P597
  have H := P597.here
  refine Jvm.Y9.Aim.of (T' := T596) (g' := (mkF m 7 #[.val (.ref y)] [(.ref y)])) (fun tgt kt => ?_) ?_
  · refine XS.ifNo H hx rfl (hb hby ea_3) rfl ((if0 _ _).trans (feq hzc).1) ?_
    refine XS.aloadN H hx rfl (hb hby ea_6) rfl rfl ?_
    exact kt
  refine Jvm.Y9.Aim.getF P597 hx hZ hown (host := "") (Or.inl (wI hw 27 rfl)) Via.refl F0 (hb hby ea_7) ?_
  intro T598 P599
  have H := P599.here
  refine Jvm.Y9.Aim.of (T' := T598) (g' := (mkF m 18 #[.val (.ref y)] [(.int 1)])) (fun tgt kt => ?_) ?_
  · refine XS.ifNo H hx rfl (hb hby ea_10) rfl ((if0 _ _).trans (teq (by decide)).2) ?_
    refine XS.iconst H hx rfl (hb hby ea_13) ?_
    refine XS.goto H hx rfl (pc0 := 14) (pc' := 18) rfl (hb hby ea_14) (by decide) (by decide) ?_
    exact kt
  exact Jvm.Y9.Aim.retN (t := .boolean) P599 hx hlk hret (by simp) (hb hby ea_18) (by decide) (by decide) ⟨rfl, rfl⟩
theorem ef_0 : decode jdk_42_method_56_code 0 = .ok (.aload_n 0, 1) := by decide +kernel
theorem ef_1 : decode jdk_42_method_56_code 1 = .ok (.invokevirtual 492, 3) := by decide +kernel
theorem ef_4 : decode jdk_42_method_56_code 4 = .ok (.ifCond .eq 12, 3) := by decide +kernel
theorem ef_7 : decode jdk_42_method_56_code 7 = .ok (.aload_n 0, 1) := by decide +kernel
theorem ef_8 : decode jdk_42_method_56_code 8 = .ok (.getfield 9, 3) := by decide +kernel
theorem ef_11 : decode jdk_42_method_56_code 11 = .ok (.iload_n 1, 1) := by decide +kernel
theorem ef_12 : decode jdk_42_method_56_code 12 = .ok (.invokestatic 495, 3) := by decide +kernel
theorem pd__28_5bBI_29C : parseMethodDescriptor "([BI)C" = some ⟨[(.array .byte), .int], some .char⟩ := by decide +kernel
theorem ef_15 : decode jdk_42_method_56_code 15 = .ok (.ireturn, 1) := by decide +kernel
theorem own_charAt (l : Launch) (Z : State) (a0 : Array Value) (hw : ∀ d ∈ tables_1, d.before a0 Z = true) (y : Addr) (u : Addr) (ku : ClassId) (ds : List Int32) (i : Int32) (h0 : Heap) (n0 : Nat) (Z0 : n0 ≤ h0.size) (F0 : Str Z h0 y u ku ds) (F1 : Old Z n0 h0) (h0_ : ¬ (i < (0 : Int32))) (h1_ : i < (Int32.ofNat ds.length)) (G : Cmp Z) (GS : Sio Z) :
    Jvm.Y9.Con l Z (⟨"java/lang/String", "charAt", "(I)C"⟩ : MethodName) jdk_42_method_56_code 2 (some .char) ({ frames := 3, cells := 0, slots := 0, locals := 40 } : Room) n0 #[(.ref y), (.int i)] h0 (fun v h => v = some (.int (ds.getD i.toNatClampNeg 0)) ∧ h0 = h) := by
  refine Jvm.Y9.Con.intro (plainFor_of_name pn_java_lang_String) ?_
  intro p e s m below meth c s₁ hx hby hml hret hnm hown hlk hZ P0
  refine Jvm.Y9.Aim.cast (by first | (simp [entryFrame, mkF, argsToLocals, Value.category]; done) | rfl : entryFrame m #[(.ref y), (.int i)] 2 = (mkF m 0 #[.val (.ref y), .val (.int i)] [])) ?_
  have H := P0.here
  refine Jvm.Y9.Aim.of (T' := s₁) (g' := (mkF m 1 #[.val (.ref y), .val (.int i)] [(.ref y)])) (fun tgt kt => ?_) ?_
  · refine XS.aloadN H hx rfl (hb hby ef_0) rfl rfl ?_
    exact kt
  refine Jvm.Y9.Aim.callV (argsL := []) (rest := []) P0 hx hZ hml hown (wI hw 244 rfl) (wI hw 245 rfl) (notFace_of_selects (args := #[]) (mvT hZ (wI hw 247 rfl))) (wI hw 247 rfl) (wI hw 246 rfl) (by decide) F0.1 (Jvm.Y9.Con.back (W := 0) (own_isL1 l Z a0 hw y h0 n0 Z0 F0.2.2.1 F1 G) hZ (wI hw 248 rfl) (wI hw 4 rfl) (by decide) (by decide)) rfl pd__28_29Z rfl (Nat.le_of_eq rfl) (hb hby ef_1) (by decide) (by decide) ?_
  intro z0 z1 z2 z3 z4
  obtain ⟨rfl, rfl⟩ := z4
  have H := z3.here
  refine Jvm.Y9.Aim.of (T' := z0) (g' := (mkF m 8 #[.val (.ref y), .val (.int i)] [(.ref y)])) (fun tgt kt => ?_) ?_
  · refine XS.ifNo H hx rfl (hb hby ef_4) rfl ((if0 _ _).trans (feq (by decide)).1) ?_
    refine XS.aloadN H hx rfl (hb hby ef_7) rfl rfl ?_
    exact kt
  refine Jvm.Y9.Aim.getF z3 hx hZ hown (host := "") (Or.inl (wI hw 29 rfl)) Via.refl F0.2.1 (hb hby ef_8) ?_
  intro z5 z6
  have H := z6.here
  refine Jvm.Y9.Aim.of (T' := z5) (g' := (mkF m 12 #[.val (.ref y), .val (.int i)] [(.int i), (.ref u)])) (fun tgt kt => ?_) ?_
  · refine XS.iloadN H hx rfl (hb hby ef_11) rfl ?_
    exact kt
  refine Jvm.Y9.Aim.callS (argsL := [(.ref u), (.int i)]) (rest := []) z6 hx hZ hml hown (wI hw 249 rfl) (wI hw 250 rfl) (wI hw 48 rfl) (wI hw 251 rfl) (by decide) (Jvm.Y9.Con.back (W := 0) (own_lca l Z a0 hw u ku ds i h0 n0 Z0 F0.2.2.2.1 F1 h0_ h1_ (F0.2.2.2.2.1) (F0.2.2.2.2.2) GS) hZ (wI hw 251 rfl) (wI hw 48 rfl) (by decide) (by decide)) rfl pd__28_5bBI_29C rfl (Nat.le_of_eq rfl) (hb hby ef_12) (by decide) (by decide) ?_
  intro z7 z8 z9 za zb
  obtain ⟨rfl, rfl⟩ := zb
  exact Jvm.Y9.Aim.retN (t := .char) za hx hlk hret (by simp) (hb hby ef_15) (by decide) (by decide) ⟨(congrArg some (congrArg Value.int (own_narC (F0.2.2.2.2.1 _ (own_get h0_ h1_ F0.2.2.2.2.2).2)))), rfl⟩
theorem e4_0 : decode jdk_30_method_1_code 0 = .ok (.aload_n 0, 1) := by decide +kernel
theorem e4_1 : decode jdk_30_method_1_code 1 = .ok (.invokespecial 1, 3) := by decide +kernel
theorem e4_4 : decode jdk_30_method_1_code 4 = .ok (.return_, 1) := by decide +kernel
theorem pn_java_lang_Record : plainName "java/lang/Record" = true := by first | (simp [plainName, overriddenIn]; done) | decide +kernel
theorem own_rec (l : Launch) (Z : State) (a0 : Array Value) (hw : ∀ d ∈ tables_1, d.before a0 Z = true) (a : Addr) (h0 : Heap) (n0 : Nat) (Z0 : n0 ≤ h0.size) :
    Jvm.Y9.Con l Z (⟨"java/lang/Record", "<init>", "()V"⟩ : MethodName) jdk_30_method_1_code 1 none ({ frames := 1, cells := 0, slots := 0, locals := 12 } : Room) n0 #[(.ref a)] h0 (fun v h => v = none ∧ h0 = h) := by
  refine Jvm.Y9.Con.intro (plainFor_of_name pn_java_lang_Record) ?_
  intro p e s m below meth c s₁ hx hby hml hret hnm hown hlk hZ P0
  refine Jvm.Y9.Aim.cast (by first | (simp [entryFrame, mkF, argsToLocals, Value.category]; done) | rfl : entryFrame m #[(.ref a)] 1 = (mkF m 0 #[.val (.ref a)] [])) ?_
  have H := P0.here
  refine Jvm.Y9.Aim.of (T' := s₁) (g' := (mkF m 1 #[.val (.ref a)] [(.ref a)])) (fun tgt kt => ?_) ?_
  · refine XS.aloadN H hx rfl (hb hby e4_0) rfl rfl ?_
    exact kt
  refine Jvm.Y9.Aim.initO P0 hx hZ hml hown (wI hw 207 rfl) (wI hw 13 rfl) (wI hw 14 rfl) rfl (hb hby e4_1) (by decide) (Nat.le_of_ble_eq_true rfl) ?_
  intro T616 P617
  exact Jvm.Y9.Aim.retV P617 hx hlk hret (hb hby e4_4) (by decide) (by decide) ⟨rfl, rfl⟩
theorem e12_0 : decode prog_2_method_1_code 0 = .ok (.aload_n 0, 1) := by decide +kernel
theorem e12_1 : decode prog_2_method_1_code 1 = .ok (.invokespecial 3, 3) := by decide +kernel
theorem pd__28_29V : parseMethodDescriptor "()V" = some ⟨[], none⟩ := by decide +kernel
theorem e12_4 : decode prog_2_method_1_code 4 = .ok (.aload_n 0, 1) := by decide +kernel
theorem e12_5 : decode prog_2_method_1_code 5 = .ok (.iload_n 1, 1) := by decide +kernel
theorem e12_6 : decode prog_2_method_1_code 6 = .ok (.putfield 9, 3) := by decide +kernel
theorem e12_9 : decode prog_2_method_1_code 9 = .ok (.aload_n 0, 1) := by decide +kernel
theorem e12_10 : decode prog_2_method_1_code 10 = .ok (.aload_n 2, 1) := by decide +kernel
theorem e12_11 : decode prog_2_method_1_code 11 = .ok (.putfield 15, 3) := by decide +kernel
theorem e12_14 : decode prog_2_method_1_code 14 = .ok (.return_, 1) := by decide +kernel
theorem pn_com_example_etsin_etsin_BenchTurn_Outcome : plainName "com/example/etsin/etsin/BenchTurn$Outcome" = true := by first | (simp [plainName, overriddenIn]; done) | decide +kernel
theorem own_oi0 (l : Launch) (Z : State) (a0 : Array Value) (hw : ∀ d ∈ tables_1, d.before a0 Z = true) (a : Addr) (y : Addr) (u1 : Value) (u2 : Value) (h0 : Heap) (n0 : Nat) (Z0 : n0 ≤ h0.size) (g_a : n0 ≤ a) (F0 : Exa Z h0 a "com/example/etsin/etsin/BenchTurn$Outcome") (F1 : Fld Z h0 a "com/example/etsin/etsin/BenchTurn$Outcome" "correct" "Z" u1) (F2 : Fld Z h0 a "com/example/etsin/etsin/BenchTurn$Outcome" "description" "Ljava/lang/String;" u2) :
    Jvm.Y9.Con l Z (⟨"com/example/etsin/etsin/BenchTurn$Outcome", "<init>", "(ZLjava/lang/String;)V"⟩ : MethodName) prog_2_method_1_code 3 none ({ frames := 2, cells := 0, slots := 0, locals := 24 } : Room) n0 #[(.ref a), (.int 0), (.ref y)] h0 (fun v h => v = none ∧ Keep h0 h [a] ∧ Exa Z h a "com/example/etsin/etsin/BenchTurn$Outcome" ∧ Fld Z h a "com/example/etsin/etsin/BenchTurn$Outcome" "correct" "Z" (.int 0) ∧ Fld Z h a "com/example/etsin/etsin/BenchTurn$Outcome" "description" "Ljava/lang/String;" (.ref y)) := by
  refine Jvm.Y9.Con.intro (plainFor_of_name pn_com_example_etsin_etsin_BenchTurn_Outcome) ?_
  intro p e s m below meth c s₁ hx hby hml hret hnm hown hlk hZ P0
  refine Jvm.Y9.Aim.cast (by first | (simp [entryFrame, mkF, argsToLocals, Value.category]; done) | rfl : entryFrame m #[(.ref a), (.int 0), (.ref y)] 3 = (mkF m 0 #[.val (.ref a), .val (.int 0), .val (.ref y)] [])) ?_
  have H := P0.here
  refine Jvm.Y9.Aim.of (T' := s₁) (g' := (mkF m 1 #[.val (.ref a), .val (.int 0), .val (.ref y)] [(.ref a)])) (fun tgt kt => ?_) ?_
  · refine XS.aloadN H hx rfl (hb hby e12_0) rfl rfl ?_
    exact kt
  refine Jvm.Y9.Aim.callC (argsL := []) (rest := []) P0 hx hZ hml hown rfl (wI hw 202 rfl) (wI hw 203 rfl) (wI hw 206 rfl) (by decide) (Jvm.Y9.Con.back (W := 0) (own_rec l Z a0 hw a h0 n0 Z0) hZ (wI hw 206 rfl) (wI hw 205 rfl) (by decide) (by decide)) rfl pd__28_29V rfl (Nat.le_of_eq rfl) (hb hby e12_1) (by decide) (by decide) ?_
  intro z0 z1 z2 z3 z4
  obtain ⟨rfl, rfl⟩ := z4
  have H := z3.here
  refine Jvm.Y9.Aim.of (T' := z0) (g' := (mkF m 6 #[.val (.ref a), .val (.int 0), .val (.ref y)] [(.int 0), (.ref a)])) (fun tgt kt => ?_) ?_
  · refine XS.aloadN H hx rfl (hb hby e12_4) rfl rfl ?_
    refine XS.iloadN H hx rfl (hb hby e12_5) rfl ?_
    exact kt
  refine Jvm.Y9.Aim.putF (v := (.int 0)) z3 hx hZ hown (host := "") (Or.inl (wI hw 208 rfl)) Via.refl F1 F0 (Or.inr ⟨(wI hw 209 rfl), rfl, hnm⟩) (wI hw 36 rfl) (ty := .boolean) (by decide) rfl rfl (hb hby e12_6) g_a ?_
  intro z5 z6 z7 z8
  have z9 := Keep.of_wr z8
  have za : Fld Z z6 a "com/example/etsin/etsin/BenchTurn$Outcome" "correct" "Z" (.int 0) := F1.same z8
  have zb : Keep h0 z6 [a] := (Keep.refl h0 [a]).trans z9 (allS (Or.inl (List.mem_of_getElem? (i := 0) rfl)) all0)
  have H := z7.here
  refine Jvm.Y9.Aim.of (T' := z5) (g' := (mkF m 11 #[.val (.ref a), .val (.int 0), .val (.ref y)] [(.ref y), (.ref a)])) (fun tgt kt => ?_) ?_
  · refine XS.aloadN H hx rfl (hb hby e12_9) rfl rfl ?_
    refine XS.aloadN H hx rfl (hb hby e12_10) rfl rfl ?_
    exact kt
  have zc : Exa Z z6 a "com/example/etsin/etsin/BenchTurn$Outcome" := (F0.keep z9)
  have zd : Fld Z z6 a "com/example/etsin/etsin/BenchTurn$Outcome" "description" "Ljava/lang/String;" u2 := (F2.other z8 (Or.inr (slot_ne (Or.inr (wI hw 211 rfl)) (Or.inr (wI hw 209 rfl)) (by decide) (t := (.object "java/lang/String")) (t' := .boolean) (by decide) (by decide))))
  refine Jvm.Y9.Aim.putF (v := (.ref y)) z7 hx hZ hown (host := "") (Or.inl (wI hw 210 rfl)) Via.refl zd zc (Or.inr ⟨(wI hw 211 rfl), rfl, hnm⟩) (wI hw 36 rfl) (ty := (.object "java/lang/String")) (by decide) rfl rfl (hb hby e12_11) g_a ?_
  intro ze zf zg zh
  have zi := Keep.of_wr zh
  have zj : Fld Z zf a "com/example/etsin/etsin/BenchTurn$Outcome" "description" "Ljava/lang/String;" (.ref y) := zd.same zh
  have zk : Keep h0 zf [a] := zb.trans zi (allS (Or.inl (List.mem_of_getElem? (i := 0) rfl)) all0)
  have zl : Exa Z zf a "com/example/etsin/etsin/BenchTurn$Outcome" := (zc.keep zi)
  have zm : Fld Z zf a "com/example/etsin/etsin/BenchTurn$Outcome" "correct" "Z" (.int 0) := (za.other zh (Or.inr (slot_ne (Or.inr (wI hw 209 rfl)) (Or.inr (wI hw 211 rfl)) (by decide) (t := .boolean) (t' := (.object "java/lang/String")) (by decide) (by decide))))
  exact Jvm.Y9.Aim.retV zg hx hlk hret (hb hby e12_14) (by decide) (by decide) ⟨rfl, zk, zl, zm, zj⟩
theorem own_oi1 (l : Launch) (Z : State) (a0 : Array Value) (hw : ∀ d ∈ tables_1, d.before a0 Z = true) (a : Addr) (y : Addr) (u1 : Value) (u2 : Value) (h0 : Heap) (n0 : Nat) (Z0 : n0 ≤ h0.size) (g_a : n0 ≤ a) (F0 : Exa Z h0 a "com/example/etsin/etsin/BenchTurn$Outcome") (F1 : Fld Z h0 a "com/example/etsin/etsin/BenchTurn$Outcome" "correct" "Z" u1) (F2 : Fld Z h0 a "com/example/etsin/etsin/BenchTurn$Outcome" "description" "Ljava/lang/String;" u2) :
    Jvm.Y9.Con l Z (⟨"com/example/etsin/etsin/BenchTurn$Outcome", "<init>", "(ZLjava/lang/String;)V"⟩ : MethodName) prog_2_method_1_code 3 none ({ frames := 2, cells := 0, slots := 0, locals := 24 } : Room) n0 #[(.ref a), (.int 1), (.ref y)] h0 (fun v h => v = none ∧ Keep h0 h [a] ∧ Exa Z h a "com/example/etsin/etsin/BenchTurn$Outcome" ∧ Fld Z h a "com/example/etsin/etsin/BenchTurn$Outcome" "correct" "Z" (.int 1) ∧ Fld Z h a "com/example/etsin/etsin/BenchTurn$Outcome" "description" "Ljava/lang/String;" (.ref y)) := by
  refine Jvm.Y9.Con.intro (plainFor_of_name pn_com_example_etsin_etsin_BenchTurn_Outcome) ?_
  intro p e s m below meth c s₁ hx hby hml hret hnm hown hlk hZ P0
  refine Jvm.Y9.Aim.cast (by first | (simp [entryFrame, mkF, argsToLocals, Value.category]; done) | rfl : entryFrame m #[(.ref a), (.int 1), (.ref y)] 3 = (mkF m 0 #[.val (.ref a), .val (.int 1), .val (.ref y)] [])) ?_
  have H := P0.here
  refine Jvm.Y9.Aim.of (T' := s₁) (g' := (mkF m 1 #[.val (.ref a), .val (.int 1), .val (.ref y)] [(.ref a)])) (fun tgt kt => ?_) ?_
  · refine XS.aloadN H hx rfl (hb hby e12_0) rfl rfl ?_
    exact kt
  refine Jvm.Y9.Aim.callC (argsL := []) (rest := []) P0 hx hZ hml hown rfl (wI hw 202 rfl) (wI hw 203 rfl) (wI hw 206 rfl) (by decide) (Jvm.Y9.Con.back (W := 0) (own_rec l Z a0 hw a h0 n0 Z0) hZ (wI hw 206 rfl) (wI hw 205 rfl) (by decide) (by decide)) rfl pd__28_29V rfl (Nat.le_of_eq rfl) (hb hby e12_1) (by decide) (by decide) ?_
  intro z0 z1 z2 z3 z4
  obtain ⟨rfl, rfl⟩ := z4
  have H := z3.here
  refine Jvm.Y9.Aim.of (T' := z0) (g' := (mkF m 6 #[.val (.ref a), .val (.int 1), .val (.ref y)] [(.int 1), (.ref a)])) (fun tgt kt => ?_) ?_
  · refine XS.aloadN H hx rfl (hb hby e12_4) rfl rfl ?_
    refine XS.iloadN H hx rfl (hb hby e12_5) rfl ?_
    exact kt
  refine Jvm.Y9.Aim.putF (v := (.int 1)) z3 hx hZ hown (host := "") (Or.inl (wI hw 208 rfl)) Via.refl F1 F0 (Or.inr ⟨(wI hw 209 rfl), rfl, hnm⟩) (wI hw 36 rfl) (ty := .boolean) (by decide) rfl rfl (hb hby e12_6) g_a ?_
  intro z5 z6 z7 z8
  have z9 := Keep.of_wr z8
  have za : Fld Z z6 a "com/example/etsin/etsin/BenchTurn$Outcome" "correct" "Z" (.int 1) := F1.same z8
  have zb : Keep h0 z6 [a] := (Keep.refl h0 [a]).trans z9 (allS (Or.inl (List.mem_of_getElem? (i := 0) rfl)) all0)
  have H := z7.here
  refine Jvm.Y9.Aim.of (T' := z5) (g' := (mkF m 11 #[.val (.ref a), .val (.int 1), .val (.ref y)] [(.ref y), (.ref a)])) (fun tgt kt => ?_) ?_
  · refine XS.aloadN H hx rfl (hb hby e12_9) rfl rfl ?_
    refine XS.aloadN H hx rfl (hb hby e12_10) rfl rfl ?_
    exact kt
  have zc : Exa Z z6 a "com/example/etsin/etsin/BenchTurn$Outcome" := (F0.keep z9)
  have zd : Fld Z z6 a "com/example/etsin/etsin/BenchTurn$Outcome" "description" "Ljava/lang/String;" u2 := (F2.other z8 (Or.inr (slot_ne (Or.inr (wI hw 211 rfl)) (Or.inr (wI hw 209 rfl)) (by decide) (t := (.object "java/lang/String")) (t' := .boolean) (by decide) (by decide))))
  refine Jvm.Y9.Aim.putF (v := (.ref y)) z7 hx hZ hown (host := "") (Or.inl (wI hw 210 rfl)) Via.refl zd zc (Or.inr ⟨(wI hw 211 rfl), rfl, hnm⟩) (wI hw 36 rfl) (ty := (.object "java/lang/String")) (by decide) rfl rfl (hb hby e12_11) g_a ?_
  intro ze zf zg zh
  have zi := Keep.of_wr zh
  have zj : Fld Z zf a "com/example/etsin/etsin/BenchTurn$Outcome" "description" "Ljava/lang/String;" (.ref y) := zd.same zh
  have zk : Keep h0 zf [a] := zb.trans zi (allS (Or.inl (List.mem_of_getElem? (i := 0) rfl)) all0)
  have zl : Exa Z zf a "com/example/etsin/etsin/BenchTurn$Outcome" := (zc.keep zi)
  have zm : Fld Z zf a "com/example/etsin/etsin/BenchTurn$Outcome" "correct" "Z" (.int 1) := (za.other zh (Or.inr (slot_ne (Or.inr (wI hw 209 rfl)) (Or.inr (wI hw 211 rfl)) (by decide) (t := .boolean) (t' := (.object "java/lang/String")) (by decide) (by decide))))
  exact Jvm.Y9.Aim.retV zg hx hlk hret (hb hby e12_14) (by decide) (by decide) ⟨rfl, zk, zl, zm, zj⟩
theorem cl0 : (Jvm.Q9.cod "the answer ").length = 11 := by decide +kernel
theorem cl1 : (Jvm.Q9.cod " after ").length = 7 := by decide +kernel
theorem cl2 : (Jvm.Q9.cod " results of ").length = 12 := by decide +kernel
theorem cl3 : (Jvm.Q9.cod "get_weather").length = 11 := by decide +kernel
def descr (ys : List Int32) (tt : Int32) : List Int32 := ((((([] ++ Jvm.Q9.cod "the answer ") ++ ys) ++ Jvm.Q9.cod " after ") ++ dec tt) ++ Jvm.Q9.cod " results of ") ++ Jvm.Q9.cod "get_weather"
def paris : List Int32 := Jvm.Q9.cod "It is sunny in Paris, 21 degrees."
def cor (ys : List Int32) (tt : Int32) : Int32 := if ys = paris ∧ tt = 1 then 1 else 0
theorem app_lo {xs ys : List Int32} (hx : ∀ c ∈ xs, ¬ c < 0 ∧ ¬ (255 : Int32) < c) (hy : ∀ c ∈ ys, ¬ c < 0 ∧ ¬ (255 : Int32) < c) : ∀ c ∈ xs ++ ys, ¬ c < 0 ∧ ¬ (255 : Int32) < c := fun c hc => (List.mem_append.mp hc).elim (hx c) (hy c)
theorem dec_pos (i : Int32) : 1 ≤ (dec i).length := by
  rw [dec_len]; have := (Jvm.Free.SBG.digits_pos (mag i)).1; omega
theorem by_contra_if {p : Prop} [Decidable p] (h : ¬ (if p then (1 : Int32) else (0 : Int32)) = 0) : p := by
  by_cases q : p
  · exact q
  · exact absurd (if_neg q) h
theorem e13_0 : decode prog_2_method_2_code 0 = .ok (.new 10, 3) := by decide +kernel
theorem e13_3 : decode prog_2_method_2_code 3 = .ok (.dup, 1) := by decide +kernel
theorem e13_4 : decode prog_2_method_2_code 4 = .ok (.aload_n 0, 1) := by decide +kernel
theorem e13_5 : decode prog_2_method_2_code 5 = .ok (.ldc 19, 2) := by decide +kernel
theorem e13_7 : decode prog_2_method_2_code 7 = .ok (.invokevirtual 21, 3) := by decide +kernel
theorem pd__28Ljava_2flang_2fObject_3b_29Z : parseMethodDescriptor "(Ljava/lang/Object;)Z" = some ⟨[(.object "java/lang/Object")], some .boolean⟩ := by decide +kernel
theorem e13_10 : decode prog_2_method_2_code 10 = .ok (.ifCond .eq 12, 3) := by decide +kernel
theorem e13_22 : decode prog_2_method_2_code 22 = .ok (.iconst 0, 1) := by decide +kernel
theorem e13_23 : decode prog_2_method_2_code 23 = .ok (.new 27, 3) := by decide +kernel
theorem e13_26 : decode prog_2_method_2_code 26 = .ok (.dup, 1) := by decide +kernel
theorem e13_27 : decode prog_2_method_2_code 27 = .ok (.invokespecial 29, 3) := by decide +kernel
theorem e13_30 : decode prog_2_method_2_code 30 = .ok (.ldc 30, 2) := by decide +kernel
theorem e13_32 : decode prog_2_method_2_code 32 = .ok (.invokevirtual 32, 3) := by decide +kernel
theorem pd__28Ljava_2flang_2fString_3b_29Ljava_2flang_2fStringBuilder_3b : parseMethodDescriptor "(Ljava/lang/String;)Ljava/lang/StringBuilder;" = some ⟨[(.object "java/lang/String")], some (.object "java/lang/StringBuilder")⟩ := by decide +kernel
theorem e13_35 : decode prog_2_method_2_code 35 = .ok (.aload_n 0, 1) := by decide +kernel
theorem e13_36 : decode prog_2_method_2_code 36 = .ok (.invokevirtual 32, 3) := by decide +kernel
theorem e13_39 : decode prog_2_method_2_code 39 = .ok (.ldc 36, 2) := by decide +kernel
theorem e13_41 : decode prog_2_method_2_code 41 = .ok (.invokevirtual 32, 3) := by decide +kernel
theorem e13_44 : decode prog_2_method_2_code 44 = .ok (.iload_n 1, 1) := by decide +kernel
theorem e13_45 : decode prog_2_method_2_code 45 = .ok (.invokevirtual 38, 3) := by decide +kernel
theorem pd__28I_29Ljava_2flang_2fStringBuilder_3b : parseMethodDescriptor "(I)Ljava/lang/StringBuilder;" = some ⟨[.int], some (.object "java/lang/StringBuilder")⟩ := by decide +kernel
theorem e13_48 : decode prog_2_method_2_code 48 = .ok (.ldc 41, 2) := by decide +kernel
theorem e13_50 : decode prog_2_method_2_code 50 = .ok (.invokevirtual 32, 3) := by decide +kernel
theorem e13_53 : decode prog_2_method_2_code 53 = .ok (.ldc 43, 2) := by decide +kernel
theorem e13_55 : decode prog_2_method_2_code 55 = .ok (.invokevirtual 32, 3) := by decide +kernel
theorem e13_58 : decode prog_2_method_2_code 58 = .ok (.invokevirtual 45, 3) := by decide +kernel
theorem pd__28_29Ljava_2flang_2fString_3b : parseMethodDescriptor "()Ljava/lang/String;" = some ⟨[], some (.object "java/lang/String")⟩ := by decide +kernel
theorem e13_61 : decode prog_2_method_2_code 61 = .ok (.invokespecial 49, 3) := by decide +kernel
theorem pd__28ZLjava_2flang_2fString_3b_29V : parseMethodDescriptor "(ZLjava/lang/String;)V" = some ⟨[.boolean, (.object "java/lang/String")], none⟩ := by decide +kernel
theorem e13_64 : decode prog_2_method_2_code 64 = .ok (.areturn, 1) := by decide +kernel
theorem e13_13 : decode prog_2_method_2_code 13 = .ok (.iload_n 1, 1) := by decide +kernel
theorem e13_14 : decode prog_2_method_2_code 14 = .ok (.iconst 1, 1) := by decide +kernel
theorem e13_15 : decode prog_2_method_2_code 15 = .ok (.if_icmp .ne 7, 3) := by decide +kernel
theorem e13_18 : decode prog_2_method_2_code 18 = .ok (.iconst 1, 1) := by decide +kernel
theorem e13_19 : decode prog_2_method_2_code 19 = .ok (.goto 4, 3) := by decide +kernel
theorem own_ofA (l : Launch) (Z : State) (a0 : Array Value) (hw : ∀ d ∈ tables_1, d.before a0 Z = true) (y : Addr) (u : Addr) (ku : ClassId) (ys : List Int32) (tt : Int32) (h0 : Heap) (n0 : Nat) (Z0 : n0 ≤ h0.size) (Lc0 : List Addr) (F0 : Str Z h0 y u ku ys) (F1 : Old Z n0 h0) (hA : ys.length ≤ 3 ∨ ys.length = 33 ∨ ys.length = 34) (G : Cmp Z) (GL : ∀ c ∈ LC.1, Jvm.Q9.LitZ Z c) (GD : Dig Z) :
    Jvm.Q9.Con l Z LC (⟨"com/example/etsin/etsin/BenchTurn$Outcome", "ofAgent", "(Ljava/lang/String;I)Lcom/example/etsin/etsin/BenchTurn$Outcome;"⟩ : MethodName) prog_2_method_2_code 2 (some (.object "com/example/etsin/etsin/BenchTurn$Outcome")) ({ frames := 6, cells := 19, slots := 842, locals := 109 } : Room) n0 #[(.ref y), (.int tt)] h0 Lc0 (fun v h Lc => ∃ o : Addr, ∃ z : Addr, ∃ t2 : Addr, ∃ k2 : ClassId, v = some (.ref o) ∧ Keep h0 h [] ∧ h0.size ≤ o ∧ h0.size ≤ z ∧ h0.size ≤ t2 ∧ Exa Z h o "com/example/etsin/etsin/BenchTurn$Outcome" ∧ Fld Z h o "com/example/etsin/etsin/BenchTurn$Outcome" "correct" "Z" (.int (cor ys tt)) ∧ Fld Z h o "com/example/etsin/etsin/BenchTurn$Outcome" "description" "Ljava/lang/String;" (.ref z) ∧ Str Z h z t2 k2 (descr ys tt)) := by
  refine Jvm.Q9.Con.intro (plainFor_of_name pn_com_example_etsin_etsin_BenchTurn_Outcome) ?_
  intro p e s m below meth c s₁ hx hby hml hret hnm hown hlk hZ hs0 P0
  refine Jvm.Q9.Aim.cast (by first | (simp [entryFrame, mkF, argsToLocals, Value.category]; done) | rfl : entryFrame m #[(.ref y), (.int tt)] 2 = (mkF m 0 #[.val (.ref y), .val (.int tt)] [])) ?_
  have hd1 := dec_len11 tt
  have hd2 := dec_pos tt
  refine Jvm.Q9.Aim.newO P0 hx hZ hown (wI hw 35 rfl) (wI hw 36 rfl) (wI hw 33 rfl) (hb hby e13_0) (by decide) (by decide) ?_
  intro z0 z1 z2 z3 z4 z5 z6 z7 z8
  have z9 : Keep h0 z1 [] := (Keep.refl _ _).ext z5
  have za : Keep h0 z1 [] := (Keep.refl h0 []).trans z9 all0
  have zb : Fld Z z1 z2 "com/example/etsin/etsin/BenchTurn$Outcome" "correct" "Z" (.int 0) := z7 (Or.inr (wI hw 209 rfl)) (ty := .boolean) (by decide)
  have zc : Fld Z z1 z2 "com/example/etsin/etsin/BenchTurn$Outcome" "description" "Ljava/lang/String;" .null := z7 (Or.inr (wI hw 211 rfl)) (ty := (.object "java/lang/String")) (by decide)
  have H := z4.here
  refine Jvm.Q9.Aim.of (T' := z0) (g' := (mkF m 5 #[.val (.ref y), .val (.int tt)] [(.ref y), (.ref z2), (.ref z2)])) (fun tgt kt => ?_) ?_
  · refine XS.dup H hx rfl (hb hby e13_3) rfl rfl ?_
    refine XS.aloadN H hx rfl (hb hby e13_4) rfl rfl ?_
    exact kt
  have zd : Old Z n0 z1 := (F1.keep z9 all0)
  refine Jvm.Q9.Aim.ldcL z4 hx hZ hown (wI hw 37 rfl) (own_atoms hw) (LC := LC) (List.mem_of_getElem? (i := 0) rfl) (by decide +kernel) (by decide +kernel) (GL _ (List.mem_of_getElem? (i := 0) rfl)) zd (fun b cl q => za.2.1 b cl (by rw [← hs0]; exact q) nin0) (hb hby e13_5) (fun _ => trivial) (cap := 132) (by decide +kernel) (by decide) (by decide) (by decide) ?_
  intro ze zf zg zh zi zj zk zl zm zn zo zp
  have zq : Keep h0 zf [] := za.trans zl all0
  have zr : Jvm.Q9.Grow Lc0 zj h0.size := (Jvm.Q9.Grow.refl _ _).trans zm (za.1)
  have zs : Exa Z zf y "java/lang/String" := ((F0.1.keep z9).keep zl)
  have zt : Str Z zf y u ku ys := ((F0.keep z9 nin0 nin0).keep zl nin0 nin0)
  have zu : Old Z n0 zf := (zd.keep zl all0)
  refine Jvm.Q9.Aim.callV (argsL := [(.ref zg)]) (rest := [(.ref z2), (.ref z2)]) zk hx hZ hml hown (wI hw 40 rfl) (wI hw 41 rfl) (fun vm0 hZ => notFace_of_selects (args := #[]) (mvT (s := s.setVm vm0) hZ (wI hw 43 rfl))) (wI hw 43 rfl) (wI hw 42 rfl) (by decide) zs (fun vm0 hZ => own_eqStr (s := s.setVm vm0) (W := 2) hZ (by decide) (by decide) hw y u ku ys zg zh zi (Jvm.Q9.cod "It is sunny in Paris, 21 degrees.") zf n0 (lT Z0 (zq.1)) zt zn zu G) (fun _ _ ⟨_, q⟩ => (by subst q; exact Keep.refl _ [])) all0 rfl pd__28Ljava_2flang_2fObject_3b_29Z rfl (Nat.le_of_eq rfl) (hb hby e13_7) (by decide) (by decide) ?_
  intro zv zw zx zy zz
  obtain ⟨rfl, rfl⟩ := zz
  by_cases z10 : (if ys = (Jvm.Q9.cod "It is sunny in Paris, 21 degrees.") then (1 : Int32) else (0 : Int32)) = (0 : Int32)
  · skip
    have H := zy.here
    refine Jvm.Q9.Aim.of (T' := zv) (g' := (mkF m 23 #[.val (.ref y), .val (.int tt)] [(.int 0), (.ref z2), (.ref z2)])) (fun tgt kt => ?_) ?_
    · refine XS.ifYes H hx rfl (pc0 := 10) (pc' := 22) rfl (hb hby e13_10) rfl ((if0 _ _).trans (teq z10).1) (by decide) (by decide) ?_
      refine XS.iconst H hx rfl (hb hby e13_22) ?_
      exact kt
    refine Jvm.Q9.Aim.newO zy hx hZ hown (wI hw 50 rfl) (wI hw 51 rfl) (wI hw 52 rfl) (hb hby e13_23) (by decide) (by decide) ?_
    intro z11 z12 z13 z14 z15 z16 z17 z18 z19
    have z1a : Keep zf z12 [] := (Keep.refl _ _).ext z16
    have z1b : Keep h0 z12 [] := zq.trans z1a all0
    have z1c : Fld Z z12 z13 "java/lang/AbstractStringBuilder" "value" "[B" .null := z18 (Or.inl (wI hw 65 rfl)) (ty := (.array .byte)) (by decide)
    have z1d : Fld Z z12 z13 "java/lang/AbstractStringBuilder" "coder" "B" (.int 0) := z18 (Or.inl (wI hw 67 rfl)) (ty := .byte) (by decide)
    have z1e : Fld Z z12 z13 "java/lang/AbstractStringBuilder" "count" "I" (.int 0) := z18 (Or.inl (wI hw 90 rfl)) (ty := .int) (by decide)
    have H := z15.here
    refine Jvm.Q9.Aim.of (T' := z11) (g' := (mkF m 27 #[.val (.ref y), .val (.int tt)] [(.ref z13), (.ref z13), (.int 0), (.ref z2), (.ref z2)])) (fun tgt kt => ?_) ?_
    · refine XS.dup H hx rfl (hb hby e13_26) rfl rfl ?_
      exact kt
    have z1f : Old Z n0 z12 := (zu.keep z1a all0)
    refine Jvm.Q9.Aim.callC (argsL := []) (rest := [(.ref z13), (.int 0), (.ref z2), (.ref z2)]) z15 hx hZ hml hown rfl (wI hw 53 rfl) (wI hw 54 rfl) (wI hw 55 rfl) (by decide) (fun vm0 hZ => Jvm.Y9.Con.back (s := s.setVm vm0) (W := 4) (own_sbi l Z a0 hw z13 (.null) (.int 0) z12 n0 (lT Z0 (z1b.1)) (lT (lT Z0 (zq.1)) (Nat.le_of_eq z14.symm)) z17 z1c z1d z1e z1f G) hZ (wI hw 55 rfl) (wI hw 52 rfl) (by decide) (by decide)) (fun _ _ ⟨_, _, _, q, _, _⟩ => q) (allS (Jvm.Q9.nl_new zk.ltL (lT (Nat.le_refl _) (Nat.le_of_eq z14.symm))) all0) rfl pd__28_29V rfl (Nat.le_of_eq rfl) (hb hby e13_27) (by decide) (by decide) ?_
    intro z1g z1h z1i z1j z1k
    obtain ⟨t_729, kb_730, rfl, z1l, z1m, z1n⟩ := z1k
    have z1o : Keep h0 z1h [] := z1b.trans z1l (allS (Or.inr (lT (zq.1) (Nat.le_of_eq z14.symm))) all0)
    have z1p : Old Z n0 z1h := (z1f.keep z1l (allS (lT (lT Z0 (zq.1)) (Nat.le_of_eq z14.symm)) all0))
    refine Jvm.Q9.Aim.ldcL z1j hx hZ hown (wI hw 68 rfl) (own_atoms hw) (LC := LC) (List.mem_of_getElem? (i := 1) rfl) (by decide +kernel) (by decide +kernel) (GL _ (List.mem_of_getElem? (i := 1) rfl)) z1p (fun b cl q => z1o.2.1 b cl (by rw [← hs0]; exact q) nin0) (hb hby e13_30) (fun _ => trivial) (cap := 44) (by decide +kernel) (by decide) (by decide) (by decide) ?_
    intro z1q z1r z1s z1t z1u z1v z1w z1x z1y z1z z20 z21
    have z22 : Keep h0 z1r [] := z1o.trans z1x all0
    have z23 : Jvm.Q9.Grow Lc0 z1v h0.size := zr.trans z1y (z1o.1)
    have z24 : Exa Z z1r z13 "java/lang/StringBuilder" := ((z17.keep z1l).keep z1x)
    have z25 : Bld Z z1r z13 t_729 kb_730 ([] : List Int32) 16 := (z1n.keep z1x nin0 nin0)
    have z26 : Old Z n0 z1r := (z1p.keep z1x all0)
    refine Jvm.Q9.Aim.callV (argsL := [(.ref z1s)]) (rest := [(.int 0), (.ref z2), (.ref z2)]) z1w hx hZ hml hown (wI hw 69 rfl) (wI hw 70 rfl) (fun vm0 hZ => notFace_of_selects (args := #[]) (mvT (s := s.setVm vm0) hZ (wI hw 72 rfl))) (wI hw 72 rfl) (wI hw 71 rfl) (by decide) z24 (fun vm0 hZ => Jvm.Y9.Con.back (s := s.setVm vm0) (W := 3) (own_app l Z a0 hw z13 t_729 kb_730 ([] : List Int32) 16 z1s z1t z1u (Jvm.Q9.cod "the answer ") z1r n0 (lT Z0 (z22.1)) (lT (lT Z0 (zq.1)) (Nat.le_of_eq z14.symm)) (lT (lT Z0 (z1b.1)) z1m) z25 z1z z26 (by (try simp only [List.length_append, List.length_nil, cl0, cl1, cl2, cl3]); omega) (by (try simp only [List.length_append, List.length_nil, cl0, cl1, cl2, cl3]); omega) (Jvm.Q9.lit_ne z21 (lT (lT Z0 (z1b.1)) z1m) (Jvm.Q9.nl_step (Jvm.Q9.nl_new zk.ltL (lT (z1a.1) z1m)) z1y z1n.2.2.2.2.lt)) (Jvm.Q9.lit_ne z21 (lT (lT Z0 (zq.1)) (Nat.le_of_eq z14.symm)) (Jvm.Q9.nl_step (Jvm.Q9.nl_new zk.ltL (lT (Nat.le_refl _) (Nat.le_of_eq z14.symm))) z1y (lL z17.lt (z1l.1)))) (nL (lL z17.lt z1m)) (Jvm.Q9.lit_ne z20 (lT (lT Z0 (z1b.1)) z1m) (Jvm.Q9.nl_step (Jvm.Q9.nl_new zk.ltL (lT (z1a.1) z1m)) z1y z1n.2.2.2.2.lt)) G) hZ (wI hw 73 rfl) (wI hw 52 rfl) (by decide) (by decide)) (fun _ _ ⟨_, q, _⟩ => q) (allS (Jvm.Q9.nl_step (Jvm.Q9.nl_new zk.ltL (lT (Nat.le_refl _) (Nat.le_of_eq z14.symm))) z1y (lL z17.lt (z1l.1))) (allS (Jvm.Q9.nl_step (Jvm.Q9.nl_new zk.ltL (lT (z1a.1) z1m)) z1y z1n.2.2.2.2.lt) all0)) rfl pd__28Ljava_2flang_2fString_3b_29Ljava_2flang_2fStringBuilder_3b rfl (Nat.le_of_eq rfl) (hb hby e13_32) (by decide) (by decide) ?_
    intro z27 z28 z29 z2a z2b
    obtain ⟨rfl, z2c, z2d⟩ := z2b
    have z2e : Keep h0 z28 [] := z22.trans z2c (allS (Or.inr (lT (zq.1) (Nat.le_of_eq z14.symm))) (allS (Or.inr (lT (z1b.1) z1m)) all0))
    have H := z2a.here
    refine Jvm.Q9.Aim.of (T' := z27) (g' := (mkF m 36 #[.val (.ref y), .val (.int tt)] [(.ref y), (.ref z13), (.int 0), (.ref z2), (.ref z2)])) (fun tgt kt => ?_) ?_
    · refine XS.aloadN H hx rfl (hb hby e13_35) rfl rfl ?_
      exact kt
    have z2f : Exa Z z28 z13 "java/lang/StringBuilder" := (z24.keep z2c)
    have z2g : Str Z z28 y u ku ys := ((((zt.keep z1a nin0 nin0).keep z1l (ninS (nL (lL (lL F0.lt (zq.1)) (Nat.le_of_eq z14.symm))) nin0) (ninS (nL (lL (lL F0.ltb (zq.1)) (Nat.le_of_eq z14.symm))) nin0)).keep z1x nin0 nin0).keep z2c (ninS (nL (lL (lL F0.lt (zq.1)) (Nat.le_of_eq z14.symm))) (ninS (nL (lL (lL F0.lt (z1b.1)) z1m)) nin0)) (ninS (nL (lL (lL F0.ltb (zq.1)) (Nat.le_of_eq z14.symm))) (ninS (nL (lL (lL F0.ltb (z1b.1)) z1m)) nin0)))
    have z2h : Old Z n0 z28 := (z26.keep z2c (allS (lT (lT Z0 (zq.1)) (Nat.le_of_eq z14.symm)) (allS (lT (lT Z0 (z1b.1)) z1m) all0)))
    refine Jvm.Q9.Aim.callV (argsL := [(.ref y)]) (rest := [(.int 0), (.ref z2), (.ref z2)]) z2a hx hZ hml hown (wI hw 69 rfl) (wI hw 70 rfl) (fun vm0 hZ => notFace_of_selects (args := #[]) (mvT (s := s.setVm vm0) hZ (wI hw 72 rfl))) (wI hw 72 rfl) (wI hw 71 rfl) (by decide) z2f (fun vm0 hZ => Jvm.Y9.Con.back (s := s.setVm vm0) (W := 3) (own_appG l Z a0 hw z13 t_729 kb_730 (([] : List Int32) ++ (Jvm.Q9.cod "the answer ")) 16 y u ku ys z28 n0 (lT Z0 (z2e.1)) (lT (lT Z0 (zq.1)) (Nat.le_of_eq z14.symm)) (lT (lT Z0 (z1b.1)) z1m) z2d z2g z2h (by (try simp only [List.length_append, List.length_nil, cl0, cl1, cl2, cl3]); omega) (by (try simp only [List.length_append, List.length_nil, cl0, cl1, cl2, cl3]); omega) (capN_le (by (try simp only [List.length_append, List.length_nil, cl0, cl1, cl2, cl3]); omega)) (nL (lL (lL F0.ltb (z1b.1)) z1m)) (nL (lL (lL F0.ltb (zq.1)) (Nat.le_of_eq z14.symm))) (nL (lL z17.lt z1m)) (nL (lL (lL F0.lt (z1b.1)) z1m)) G) hZ (wI hw 73 rfl) (wI hw 52 rfl) (by decide) (by decide)) (fun _ _ ⟨_, _, _, q, _, _⟩ => q) (allS (Jvm.Q9.nl_step (Jvm.Q9.nl_new zk.ltL (lT (Nat.le_refl _) (Nat.le_of_eq z14.symm))) z1y (lL z17.lt (z1l.1))) (allS (Jvm.Q9.nl_step (Jvm.Q9.nl_new zk.ltL (lT (z1a.1) z1m)) z1y z1n.2.2.2.2.lt) all0)) rfl pd__28Ljava_2flang_2fString_3b_29Ljava_2flang_2fStringBuilder_3b rfl (Nat.le_of_eq rfl) (hb hby e13_36) (by decide) (by decide) ?_
    intro z2i z2j z2k z2l z2m
    obtain ⟨t_773, k_774, rfl, z2n, z2o, z2p⟩ := z2m
    have z2q : Keep h0 z2j [] := z2e.trans z2n (allS (Or.inr (lT (zq.1) (Nat.le_of_eq z14.symm))) (allS (Or.inr (lT (z1b.1) z1m)) all0))
    have z2r : t_773 ∉ z1v := z2o.elim (fun q => by rw [q]; exact (Jvm.Q9.nl_step (Jvm.Q9.nl_new zk.ltL (lT (z1a.1) z1m)) z1y z1n.2.2.2.2.lt)) (fun q => Jvm.Q9.nl_new z1w.ltL (lT (z2c.1) q))
    obtain ⟨z2s, z2t⟩ : ∃ q : Nat, q = (capN 16 ((([] : List Int32) ++ (Jvm.Q9.cod "the answer ")).length + ys.length)) := ⟨_, rfl⟩
    have z2u : Bld Z z2j z13 t_773 k_774 ((([] : List Int32) ++ (Jvm.Q9.cod "the answer ")) ++ ys) z2s := by rw [z2t]; exact z2p
    have shcp781 := capN_spec 16 ((([] : List Int32) ++ (Jvm.Q9.cod "the answer ")).length + ys.length)
    rw [← z2t] at shcp781
    simp only [List.length_append, List.length_nil, cl0, cl1, cl2, cl3] at shcp781
    have z2v : Old Z n0 z2j := (z2h.keep z2n (allS (lT (lT Z0 (zq.1)) (Nat.le_of_eq z14.symm)) (allS (lT (lT Z0 (z1b.1)) z1m) all0)))
    refine Jvm.Q9.Aim.ldcL z2l hx hZ hown (wI hw 139 rfl) (own_atoms hw) (LC := LC) (List.mem_of_getElem? (i := 2) rfl) (by decide +kernel) (by decide +kernel) (GL _ (List.mem_of_getElem? (i := 2) rfl)) z2v (fun b cl q => z2q.2.1 b cl (by rw [← hs0]; exact q) nin0) (hb hby e13_39) (fun _ => trivial) (cap := 28) (by decide +kernel) (by decide) (by decide) (by decide) ?_
    intro z2w z2x z2y z2z z30 z31 z32 z33 z34 z35 z36 z37
    have z38 : Keep h0 z2x [] := z2q.trans z33 all0
    have z39 : Jvm.Q9.Grow Lc0 z31 h0.size := z23.trans z34 (z2q.1)
    have z3a : Exa Z z2x z13 "java/lang/StringBuilder" := ((z2f.keep z2n).keep z33)
    have z3b : Bld Z z2x z13 t_773 k_774 ((([] : List Int32) ++ (Jvm.Q9.cod "the answer ")) ++ ys) z2s := (z2u.keep z33 nin0 nin0)
    have z3c : Old Z n0 z2x := (z2v.keep z33 all0)
    refine Jvm.Q9.Aim.callV (argsL := [(.ref z2y)]) (rest := [(.int 0), (.ref z2), (.ref z2)]) z32 hx hZ hml hown (wI hw 69 rfl) (wI hw 70 rfl) (fun vm0 hZ => notFace_of_selects (args := #[]) (mvT (s := s.setVm vm0) hZ (wI hw 72 rfl))) (wI hw 72 rfl) (wI hw 71 rfl) (by decide) z3a (fun vm0 hZ => Jvm.Y9.Con.back (s := s.setVm vm0) (W := 3) (own_appG l Z a0 hw z13 t_773 k_774 ((([] : List Int32) ++ (Jvm.Q9.cod "the answer ")) ++ ys) z2s z2y z2z z30 (Jvm.Q9.cod " after ") z2x n0 (lT Z0 (z38.1)) (lT (lT Z0 (zq.1)) (Nat.le_of_eq z14.symm)) (lT (lT Z0 (z1b.1)) (z2o.elim (fun q => by rw [q]; exact z1m) (fun q => lT (lT (lT z1l.1 z1x.1) z2c.1) q))) z3b z35 z3c (by (try simp only [List.length_append, List.length_nil, cl0, cl1, cl2, cl3]); omega) (by (try simp only [List.length_append, List.length_nil, cl0, cl1, cl2, cl3]); omega) (capN_le (by (try simp only [List.length_append, List.length_nil, cl0, cl1, cl2, cl3]); omega)) (Jvm.Q9.lit_ne z37 (lT (lT Z0 (z1b.1)) (z2o.elim (fun q => by rw [q]; exact z1m) (fun q => lT (lT (lT z1l.1 z1x.1) z2c.1) q))) (Jvm.Q9.nl_step z2r z34 z2p.2.2.2.2.lt)) (Jvm.Q9.lit_ne z37 (lT (lT Z0 (zq.1)) (Nat.le_of_eq z14.symm)) (Jvm.Q9.nl_step (Jvm.Q9.nl_step (Jvm.Q9.nl_new zk.ltL (lT (Nat.le_refl _) (Nat.le_of_eq z14.symm))) z1y (lL z17.lt (z1l.1))) z34 (lL z17.lt (lT (lT (lT z1l.1 z1x.1) z2c.1) z2n.1)))) (nL (lL z17.lt (z2o.elim (fun q => by rw [q]; exact z1m) (fun q => lT (lT (lT z1l.1 z1x.1) z2c.1) q)))) (Jvm.Q9.lit_ne z36 (lT (lT Z0 (z1b.1)) (z2o.elim (fun q => by rw [q]; exact z1m) (fun q => lT (lT (lT z1l.1 z1x.1) z2c.1) q))) (Jvm.Q9.nl_step z2r z34 z2p.2.2.2.2.lt)) G) hZ (wI hw 73 rfl) (wI hw 52 rfl) (by decide) (by decide)) (fun _ _ ⟨_, _, _, q, _, _⟩ => q) (allS (Jvm.Q9.nl_step (Jvm.Q9.nl_step (Jvm.Q9.nl_new zk.ltL (lT (Nat.le_refl _) (Nat.le_of_eq z14.symm))) z1y (lL z17.lt (z1l.1))) z34 (lL z17.lt (lT (lT (lT z1l.1 z1x.1) z2c.1) z2n.1))) (allS (Jvm.Q9.nl_step z2r z34 z2p.2.2.2.2.lt) all0)) rfl pd__28Ljava_2flang_2fString_3b_29Ljava_2flang_2fStringBuilder_3b rfl (Nat.le_of_eq rfl) (hb hby e13_41) (by decide) (by decide) ?_
    intro z3d z3e z3f z3g z3h
    obtain ⟨t_808, k_809, rfl, z3i, z3j, z3k⟩ := z3h
    have z3l : Keep h0 z3e [] := z38.trans z3i (allS (Or.inr (lT (zq.1) (Nat.le_of_eq z14.symm))) (allS (Or.inr (lT (z1b.1) (z2o.elim (fun q => by rw [q]; exact z1m) (fun q => lT (lT (lT z1l.1 z1x.1) z2c.1) q)))) all0))
    have z3m : t_808 ∉ z31 := z3j.elim (fun q => by rw [q]; exact (Jvm.Q9.nl_step z2r z34 z2p.2.2.2.2.lt)) (fun q => Jvm.Q9.nl_new z32.ltL (lT (Nat.le_refl _) q))
    obtain ⟨z3n, z3o⟩ : ∃ q : Nat, q = (capN z2s (((([] : List Int32) ++ (Jvm.Q9.cod "the answer ")) ++ ys).length + (Jvm.Q9.cod " after ").length)) := ⟨_, rfl⟩
    have z3p : Bld Z z3e z13 t_808 k_809 (((([] : List Int32) ++ (Jvm.Q9.cod "the answer ")) ++ ys) ++ (Jvm.Q9.cod " after ")) z3n := by rw [z3o]; exact z3k
    have shcp816 := capN_spec z2s (((([] : List Int32) ++ (Jvm.Q9.cod "the answer ")) ++ ys).length + (Jvm.Q9.cod " after ").length)
    rw [← z3o] at shcp816
    simp only [List.length_append, List.length_nil, cl0, cl1, cl2, cl3] at shcp816
    have H := z3g.here
    refine Jvm.Q9.Aim.of (T' := z3d) (g' := (mkF m 45 #[.val (.ref y), .val (.int tt)] [(.int tt), (.ref z13), (.int 0), (.ref z2), (.ref z2)])) (fun tgt kt => ?_) ?_
    · refine XS.iloadN H hx rfl (hb hby e13_44) rfl ?_
      exact kt
    have z3q : Exa Z z3e z13 "java/lang/StringBuilder" := (z3a.keep z3i)
    have z3r : Old Z n0 z3e := (z3c.keep z3i (allS (lT (lT Z0 (zq.1)) (Nat.le_of_eq z14.symm)) (allS (lT (lT Z0 (z1b.1)) (z2o.elim (fun q => by rw [q]; exact z1m) (fun q => lT (lT (lT z1l.1 z1x.1) z2c.1) q))) all0)))
    refine Jvm.Q9.Aim.callV (argsL := [(.int tt)]) (rest := [(.int 0), (.ref z2), (.ref z2)]) z3g hx hZ hml hown (wI hw 140 rfl) (wI hw 141 rfl) (fun vm0 hZ => notFace_of_selects (args := #[]) (mvT (s := s.setVm vm0) hZ (wI hw 143 rfl))) (wI hw 143 rfl) (wI hw 142 rfl) (by decide) z3q (fun vm0 hZ => Jvm.Y9.Con.back (s := s.setVm vm0) (W := 3) (own_appI l Z a0 hw z13 t_808 k_809 (((([] : List Int32) ++ (Jvm.Q9.cod "the answer ")) ++ ys) ++ (Jvm.Q9.cod " after ")) z3n tt z3e n0 (lT Z0 (z3l.1)) (lT (lT Z0 (zq.1)) (Nat.le_of_eq z14.symm)) (lT (lT Z0 (z1b.1)) (z3j.elim (fun q => by rw [q]; exact (z2o.elim (fun q => by rw [q]; exact z1m) (fun q => lT (lT (lT z1l.1 z1x.1) z2c.1) q))) (fun q => lT (lT (lT (lT (lT z1l.1 z1x.1) z2c.1) z2n.1) z33.1) q))) z3p z3r (by (try simp only [List.length_append, List.length_nil, cl0, cl1, cl2, cl3]); omega) (by (try simp only [List.length_append, List.length_nil, cl0, cl1, cl2, cl3]); omega) (nL (lL z17.lt (z3j.elim (fun q => by rw [q]; exact (z2o.elim (fun q => by rw [q]; exact z1m) (fun q => lT (lT (lT z1l.1 z1x.1) z2c.1) q))) (fun q => lT (lT (lT (lT (lT z1l.1 z1x.1) z2c.1) z2n.1) z33.1) q)))) G GD) hZ (wI hw 144 rfl) (wI hw 52 rfl) (by decide) (by decide)) (fun _ _ ⟨_, q, _⟩ => q) (allS (Jvm.Q9.nl_step (Jvm.Q9.nl_step (Jvm.Q9.nl_new zk.ltL (lT (Nat.le_refl _) (Nat.le_of_eq z14.symm))) z1y (lL z17.lt (z1l.1))) z34 (lL z17.lt (lT (lT (lT z1l.1 z1x.1) z2c.1) z2n.1))) (allS z3m all0)) rfl pd__28I_29Ljava_2flang_2fStringBuilder_3b rfl (Nat.le_of_eq rfl) (hb hby e13_45) (by decide) (by decide) ?_
    intro z3s z3t z3u z3v z3w
    obtain ⟨rfl, z3x, z3y⟩ := z3w
    have z3z : Keep h0 z3t [] := z3l.trans z3x (allS (Or.inr (lT (zq.1) (Nat.le_of_eq z14.symm))) (allS (Or.inr (lT (z1b.1) (z3j.elim (fun q => by rw [q]; exact (z2o.elim (fun q => by rw [q]; exact z1m) (fun q => lT (lT (lT z1l.1 z1x.1) z2c.1) q))) (fun q => lT (lT (lT (lT (lT z1l.1 z1x.1) z2c.1) z2n.1) z33.1) q)))) all0))
    have z40 : Old Z n0 z3t := (z3r.keep z3x (allS (lT (lT Z0 (zq.1)) (Nat.le_of_eq z14.symm)) (allS (lT (lT Z0 (z1b.1)) (z3j.elim (fun q => by rw [q]; exact (z2o.elim (fun q => by rw [q]; exact z1m) (fun q => lT (lT (lT z1l.1 z1x.1) z2c.1) q))) (fun q => lT (lT (lT (lT (lT z1l.1 z1x.1) z2c.1) z2n.1) z33.1) q))) all0)))
    refine Jvm.Q9.Aim.ldcL z3v hx hZ hown (wI hw 162 rfl) (own_atoms hw) (LC := LC) (List.mem_of_getElem? (i := 3) rfl) (by decide +kernel) (by decide +kernel) (GL _ (List.mem_of_getElem? (i := 3) rfl)) z40 (fun b cl q => z3z.2.1 b cl (by rw [← hs0]; exact q) nin0) (hb hby e13_48) (fun _ => trivial) (cap := 48) (by decide +kernel) (by decide) (by decide) (by decide) ?_
    intro z41 z42 z43 z44 z45 z46 z47 z48 z49 z4a z4b z4c
    have z4d : Keep h0 z42 [] := z3z.trans z48 all0
    have z4e : Jvm.Q9.Grow Lc0 z46 h0.size := z39.trans z49 (z3z.1)
    have z4f : Exa Z z42 z13 "java/lang/StringBuilder" := ((z3q.keep z3x).keep z48)
    have z4g : Bld Z z42 z13 t_808 k_809 ((((([] : List Int32) ++ (Jvm.Q9.cod "the answer ")) ++ ys) ++ (Jvm.Q9.cod " after ")) ++ (dec tt)) z3n := (z3y.keep z48 nin0 nin0)
    have z4h : Old Z n0 z42 := (z40.keep z48 all0)
    refine Jvm.Q9.Aim.callV (argsL := [(.ref z43)]) (rest := [(.int 0), (.ref z2), (.ref z2)]) z47 hx hZ hml hown (wI hw 69 rfl) (wI hw 70 rfl) (fun vm0 hZ => notFace_of_selects (args := #[]) (mvT (s := s.setVm vm0) hZ (wI hw 72 rfl))) (wI hw 72 rfl) (wI hw 71 rfl) (by decide) z4f (fun vm0 hZ => Jvm.Y9.Con.back (s := s.setVm vm0) (W := 3) (own_appG l Z a0 hw z13 t_808 k_809 ((((([] : List Int32) ++ (Jvm.Q9.cod "the answer ")) ++ ys) ++ (Jvm.Q9.cod " after ")) ++ (dec tt)) z3n z43 z44 z45 (Jvm.Q9.cod " results of ") z42 n0 (lT Z0 (z4d.1)) (lT (lT Z0 (zq.1)) (Nat.le_of_eq z14.symm)) (lT (lT Z0 (z1b.1)) (z3j.elim (fun q => by rw [q]; exact (z2o.elim (fun q => by rw [q]; exact z1m) (fun q => lT (lT (lT z1l.1 z1x.1) z2c.1) q))) (fun q => lT (lT (lT (lT (lT z1l.1 z1x.1) z2c.1) z2n.1) z33.1) q))) z4g z4a z4h (by (try simp only [List.length_append, List.length_nil, cl0, cl1, cl2, cl3]); omega) (by (try simp only [List.length_append, List.length_nil, cl0, cl1, cl2, cl3]); omega) (capN_le (by (try simp only [List.length_append, List.length_nil, cl0, cl1, cl2, cl3]); omega)) (Jvm.Q9.lit_ne z4c (lT (lT Z0 (z1b.1)) (z3j.elim (fun q => by rw [q]; exact (z2o.elim (fun q => by rw [q]; exact z1m) (fun q => lT (lT (lT z1l.1 z1x.1) z2c.1) q))) (fun q => lT (lT (lT (lT (lT z1l.1 z1x.1) z2c.1) z2n.1) z33.1) q))) (Jvm.Q9.nl_step z3m z49 (lL z3k.2.2.2.2.lt (z3x.1)))) (Jvm.Q9.lit_ne z4c (lT (lT Z0 (zq.1)) (Nat.le_of_eq z14.symm)) (Jvm.Q9.nl_step (Jvm.Q9.nl_step (Jvm.Q9.nl_step (Jvm.Q9.nl_new zk.ltL (lT (Nat.le_refl _) (Nat.le_of_eq z14.symm))) z1y (lL z17.lt (z1l.1))) z34 (lL z17.lt (lT (lT (lT z1l.1 z1x.1) z2c.1) z2n.1))) z49 (lL z17.lt (lT (lT (lT (lT (lT (lT z1l.1 z1x.1) z2c.1) z2n.1) z33.1) z3i.1) z3x.1)))) (nL (lL z17.lt (z3j.elim (fun q => by rw [q]; exact (z2o.elim (fun q => by rw [q]; exact z1m) (fun q => lT (lT (lT z1l.1 z1x.1) z2c.1) q))) (fun q => lT (lT (lT (lT (lT z1l.1 z1x.1) z2c.1) z2n.1) z33.1) q)))) (Jvm.Q9.lit_ne z4b (lT (lT Z0 (z1b.1)) (z3j.elim (fun q => by rw [q]; exact (z2o.elim (fun q => by rw [q]; exact z1m) (fun q => lT (lT (lT z1l.1 z1x.1) z2c.1) q))) (fun q => lT (lT (lT (lT (lT z1l.1 z1x.1) z2c.1) z2n.1) z33.1) q))) (Jvm.Q9.nl_step z3m z49 (lL z3k.2.2.2.2.lt (z3x.1)))) G) hZ (wI hw 73 rfl) (wI hw 52 rfl) (by decide) (by decide)) (fun _ _ ⟨_, _, _, q, _, _⟩ => q) (allS (Jvm.Q9.nl_step (Jvm.Q9.nl_step (Jvm.Q9.nl_step (Jvm.Q9.nl_new zk.ltL (lT (Nat.le_refl _) (Nat.le_of_eq z14.symm))) z1y (lL z17.lt (z1l.1))) z34 (lL z17.lt (lT (lT (lT z1l.1 z1x.1) z2c.1) z2n.1))) z49 (lL z17.lt (lT (lT (lT (lT (lT (lT z1l.1 z1x.1) z2c.1) z2n.1) z33.1) z3i.1) z3x.1))) (allS (Jvm.Q9.nl_step z3m z49 (lL z3k.2.2.2.2.lt (z3x.1))) all0)) rfl pd__28Ljava_2flang_2fString_3b_29Ljava_2flang_2fStringBuilder_3b rfl (Nat.le_of_eq rfl) (hb hby e13_50) (by decide) (by decide) ?_
    intro z4i z4j z4k z4l z4m
    obtain ⟨t_855, k_856, rfl, z4n, z4o, z4p⟩ := z4m
    have z4q : Keep h0 z4j [] := z4d.trans z4n (allS (Or.inr (lT (zq.1) (Nat.le_of_eq z14.symm))) (allS (Or.inr (lT (z1b.1) (z3j.elim (fun q => by rw [q]; exact (z2o.elim (fun q => by rw [q]; exact z1m) (fun q => lT (lT (lT z1l.1 z1x.1) z2c.1) q))) (fun q => lT (lT (lT (lT (lT z1l.1 z1x.1) z2c.1) z2n.1) z33.1) q)))) all0))
    have z4r : t_855 ∉ z46 := z4o.elim (fun q => by rw [q]; exact (Jvm.Q9.nl_step z3m z49 (lL z3k.2.2.2.2.lt (z3x.1)))) (fun q => Jvm.Q9.nl_new z47.ltL (lT (Nat.le_refl _) q))
    obtain ⟨z4s, z4t⟩ : ∃ q : Nat, q = (capN z3n (((((([] : List Int32) ++ (Jvm.Q9.cod "the answer ")) ++ ys) ++ (Jvm.Q9.cod " after ")) ++ (dec tt)).length + (Jvm.Q9.cod " results of ").length)) := ⟨_, rfl⟩
    have z4u : Bld Z z4j z13 t_855 k_856 (((((([] : List Int32) ++ (Jvm.Q9.cod "the answer ")) ++ ys) ++ (Jvm.Q9.cod " after ")) ++ (dec tt)) ++ (Jvm.Q9.cod " results of ")) z4s := by rw [z4t]; exact z4p
    have shcp863 := capN_spec z3n (((((([] : List Int32) ++ (Jvm.Q9.cod "the answer ")) ++ ys) ++ (Jvm.Q9.cod " after ")) ++ (dec tt)).length + (Jvm.Q9.cod " results of ").length)
    rw [← z4t] at shcp863
    simp only [List.length_append, List.length_nil, cl0, cl1, cl2, cl3] at shcp863
    have z4v : Old Z n0 z4j := (z4h.keep z4n (allS (lT (lT Z0 (zq.1)) (Nat.le_of_eq z14.symm)) (allS (lT (lT Z0 (z1b.1)) (z3j.elim (fun q => by rw [q]; exact (z2o.elim (fun q => by rw [q]; exact z1m) (fun q => lT (lT (lT z1l.1 z1x.1) z2c.1) q))) (fun q => lT (lT (lT (lT (lT z1l.1 z1x.1) z2c.1) z2n.1) z33.1) q))) all0)))
    refine Jvm.Q9.Aim.ldcL z4l hx hZ hown (wI hw 163 rfl) (own_atoms hw) (LC := LC) (List.mem_of_getElem? (i := 4) rfl) (by decide +kernel) (by decide +kernel) (GL _ (List.mem_of_getElem? (i := 4) rfl)) z4v (fun b cl q => z4q.2.1 b cl (by rw [← hs0]; exact q) nin0) (hb hby e13_53) (fun _ => trivial) (cap := 44) (by decide +kernel) (by decide) (by decide) (by decide) ?_
    intro z4w z4x z4y z4z z50 z51 z52 z53 z54 z55 z56 z57
    have z58 : Keep h0 z4x [] := z4q.trans z53 all0
    have z59 : Jvm.Q9.Grow Lc0 z51 h0.size := z4e.trans z54 (z4q.1)
    have z5a : Exa Z z4x z13 "java/lang/StringBuilder" := ((z4f.keep z4n).keep z53)
    have z5b : Bld Z z4x z13 t_855 k_856 (((((([] : List Int32) ++ (Jvm.Q9.cod "the answer ")) ++ ys) ++ (Jvm.Q9.cod " after ")) ++ (dec tt)) ++ (Jvm.Q9.cod " results of ")) z4s := (z4u.keep z53 nin0 nin0)
    have z5c : Old Z n0 z4x := (z4v.keep z53 all0)
    refine Jvm.Q9.Aim.callV (argsL := [(.ref z4y)]) (rest := [(.int 0), (.ref z2), (.ref z2)]) z52 hx hZ hml hown (wI hw 69 rfl) (wI hw 70 rfl) (fun vm0 hZ => notFace_of_selects (args := #[]) (mvT (s := s.setVm vm0) hZ (wI hw 72 rfl))) (wI hw 72 rfl) (wI hw 71 rfl) (by decide) z5a (fun vm0 hZ => Jvm.Y9.Con.back (s := s.setVm vm0) (W := 3) (own_appG l Z a0 hw z13 t_855 k_856 (((((([] : List Int32) ++ (Jvm.Q9.cod "the answer ")) ++ ys) ++ (Jvm.Q9.cod " after ")) ++ (dec tt)) ++ (Jvm.Q9.cod " results of ")) z4s z4y z4z z50 (Jvm.Q9.cod "get_weather") z4x n0 (lT Z0 (z58.1)) (lT (lT Z0 (zq.1)) (Nat.le_of_eq z14.symm)) (lT (lT Z0 (z1b.1)) (z4o.elim (fun q => by rw [q]; exact (z3j.elim (fun q => by rw [q]; exact (z2o.elim (fun q => by rw [q]; exact z1m) (fun q => lT (lT (lT z1l.1 z1x.1) z2c.1) q))) (fun q => lT (lT (lT (lT (lT z1l.1 z1x.1) z2c.1) z2n.1) z33.1) q))) (fun q => lT (lT (lT (lT (lT (lT (lT (lT z1l.1 z1x.1) z2c.1) z2n.1) z33.1) z3i.1) z3x.1) z48.1) q))) z5b z55 z5c (by (try simp only [List.length_append, List.length_nil, cl0, cl1, cl2, cl3]); omega) (by (try simp only [List.length_append, List.length_nil, cl0, cl1, cl2, cl3]); omega) (capN_le (by (try simp only [List.length_append, List.length_nil, cl0, cl1, cl2, cl3]); omega)) (Jvm.Q9.lit_ne z57 (lT (lT Z0 (z1b.1)) (z4o.elim (fun q => by rw [q]; exact (z3j.elim (fun q => by rw [q]; exact (z2o.elim (fun q => by rw [q]; exact z1m) (fun q => lT (lT (lT z1l.1 z1x.1) z2c.1) q))) (fun q => lT (lT (lT (lT (lT z1l.1 z1x.1) z2c.1) z2n.1) z33.1) q))) (fun q => lT (lT (lT (lT (lT (lT (lT (lT z1l.1 z1x.1) z2c.1) z2n.1) z33.1) z3i.1) z3x.1) z48.1) q))) (Jvm.Q9.nl_step z4r z54 z4p.2.2.2.2.lt)) (Jvm.Q9.lit_ne z57 (lT (lT Z0 (zq.1)) (Nat.le_of_eq z14.symm)) (Jvm.Q9.nl_step (Jvm.Q9.nl_step (Jvm.Q9.nl_step (Jvm.Q9.nl_step (Jvm.Q9.nl_new zk.ltL (lT (Nat.le_refl _) (Nat.le_of_eq z14.symm))) z1y (lL z17.lt (z1l.1))) z34 (lL z17.lt (lT (lT (lT z1l.1 z1x.1) z2c.1) z2n.1))) z49 (lL z17.lt (lT (lT (lT (lT (lT (lT z1l.1 z1x.1) z2c.1) z2n.1) z33.1) z3i.1) z3x.1))) z54 (lL z17.lt (lT (lT (lT (lT (lT (lT (lT (lT z1l.1 z1x.1) z2c.1) z2n.1) z33.1) z3i.1) z3x.1) z48.1) z4n.1)))) (nL (lL z17.lt (z4o.elim (fun q => by rw [q]; exact (z3j.elim (fun q => by rw [q]; exact (z2o.elim (fun q => by rw [q]; exact z1m) (fun q => lT (lT (lT z1l.1 z1x.1) z2c.1) q))) (fun q => lT (lT (lT (lT (lT z1l.1 z1x.1) z2c.1) z2n.1) z33.1) q))) (fun q => lT (lT (lT (lT (lT (lT (lT (lT z1l.1 z1x.1) z2c.1) z2n.1) z33.1) z3i.1) z3x.1) z48.1) q)))) (Jvm.Q9.lit_ne z56 (lT (lT Z0 (z1b.1)) (z4o.elim (fun q => by rw [q]; exact (z3j.elim (fun q => by rw [q]; exact (z2o.elim (fun q => by rw [q]; exact z1m) (fun q => lT (lT (lT z1l.1 z1x.1) z2c.1) q))) (fun q => lT (lT (lT (lT (lT z1l.1 z1x.1) z2c.1) z2n.1) z33.1) q))) (fun q => lT (lT (lT (lT (lT (lT (lT (lT z1l.1 z1x.1) z2c.1) z2n.1) z33.1) z3i.1) z3x.1) z48.1) q))) (Jvm.Q9.nl_step z4r z54 z4p.2.2.2.2.lt)) G) hZ (wI hw 73 rfl) (wI hw 52 rfl) (by decide) (by decide)) (fun _ _ ⟨_, _, _, q, _, _⟩ => q) (allS (Jvm.Q9.nl_step (Jvm.Q9.nl_step (Jvm.Q9.nl_step (Jvm.Q9.nl_step (Jvm.Q9.nl_new zk.ltL (lT (Nat.le_refl _) (Nat.le_of_eq z14.symm))) z1y (lL z17.lt (z1l.1))) z34 (lL z17.lt (lT (lT (lT z1l.1 z1x.1) z2c.1) z2n.1))) z49 (lL z17.lt (lT (lT (lT (lT (lT (lT z1l.1 z1x.1) z2c.1) z2n.1) z33.1) z3i.1) z3x.1))) z54 (lL z17.lt (lT (lT (lT (lT (lT (lT (lT (lT z1l.1 z1x.1) z2c.1) z2n.1) z33.1) z3i.1) z3x.1) z48.1) z4n.1))) (allS (Jvm.Q9.nl_step z4r z54 z4p.2.2.2.2.lt) all0)) rfl pd__28Ljava_2flang_2fString_3b_29Ljava_2flang_2fStringBuilder_3b rfl (Nat.le_of_eq rfl) (hb hby e13_55) (by decide) (by decide) ?_
    intro z5d z5e z5f z5g z5h
    obtain ⟨t_890, k_891, rfl, z5i, z5j, z5k⟩ := z5h
    have z5l : Keep h0 z5e [] := z58.trans z5i (allS (Or.inr (lT (zq.1) (Nat.le_of_eq z14.symm))) (allS (Or.inr (lT (z1b.1) (z4o.elim (fun q => by rw [q]; exact (z3j.elim (fun q => by rw [q]; exact (z2o.elim (fun q => by rw [q]; exact z1m) (fun q => lT (lT (lT z1l.1 z1x.1) z2c.1) q))) (fun q => lT (lT (lT (lT (lT z1l.1 z1x.1) z2c.1) z2n.1) z33.1) q))) (fun q => lT (lT (lT (lT (lT (lT (lT (lT z1l.1 z1x.1) z2c.1) z2n.1) z33.1) z3i.1) z3x.1) z48.1) q)))) all0))
    have z5m : t_890 ∉ z51 := z5j.elim (fun q => by rw [q]; exact (Jvm.Q9.nl_step z4r z54 z4p.2.2.2.2.lt)) (fun q => Jvm.Q9.nl_new z52.ltL (lT (Nat.le_refl _) q))
    obtain ⟨z5n, z5o⟩ : ∃ q : Nat, q = (capN z4s ((((((([] : List Int32) ++ (Jvm.Q9.cod "the answer ")) ++ ys) ++ (Jvm.Q9.cod " after ")) ++ (dec tt)) ++ (Jvm.Q9.cod " results of ")).length + (Jvm.Q9.cod "get_weather").length)) := ⟨_, rfl⟩
    have z5p : Bld Z z5e z13 t_890 k_891 ((((((([] : List Int32) ++ (Jvm.Q9.cod "the answer ")) ++ ys) ++ (Jvm.Q9.cod " after ")) ++ (dec tt)) ++ (Jvm.Q9.cod " results of ")) ++ (Jvm.Q9.cod "get_weather")) z5n := by rw [z5o]; exact z5k
    have shcp898 := capN_spec z4s ((((((([] : List Int32) ++ (Jvm.Q9.cod "the answer ")) ++ ys) ++ (Jvm.Q9.cod " after ")) ++ (dec tt)) ++ (Jvm.Q9.cod " results of ")).length + (Jvm.Q9.cod "get_weather").length)
    rw [← z5o] at shcp898
    simp only [List.length_append, List.length_nil, cl0, cl1, cl2, cl3] at shcp898
    have z5q : Exa Z z5e z13 "java/lang/StringBuilder" := (z5a.keep z5i)
    have z5r : Old Z n0 z5e := (z5c.keep z5i (allS (lT (lT Z0 (zq.1)) (Nat.le_of_eq z14.symm)) (allS (lT (lT Z0 (z1b.1)) (z4o.elim (fun q => by rw [q]; exact (z3j.elim (fun q => by rw [q]; exact (z2o.elim (fun q => by rw [q]; exact z1m) (fun q => lT (lT (lT z1l.1 z1x.1) z2c.1) q))) (fun q => lT (lT (lT (lT (lT z1l.1 z1x.1) z2c.1) z2n.1) z33.1) q))) (fun q => lT (lT (lT (lT (lT (lT (lT (lT z1l.1 z1x.1) z2c.1) z2n.1) z33.1) z3i.1) z3x.1) z48.1) q))) all0)))
    refine Jvm.Q9.Aim.callV (argsL := []) (rest := [(.int 0), (.ref z2), (.ref z2)]) z5g hx hZ hml hown (wI hw 164 rfl) (wI hw 165 rfl) (fun vm0 hZ => notFace_of_selects (args := #[]) (mvT (s := s.setVm vm0) hZ (wI hw 167 rfl))) (wI hw 167 rfl) (wI hw 166 rfl) (by decide) z5q (fun vm0 hZ => Jvm.Y9.Con.back (s := s.setVm vm0) (W := 3) (own_ts l Z a0 hw z13 t_890 k_891 ((((((([] : List Int32) ++ (Jvm.Q9.cod "the answer ")) ++ ys) ++ (Jvm.Q9.cod " after ")) ++ (dec tt)) ++ (Jvm.Q9.cod " results of ")) ++ (Jvm.Q9.cod "get_weather")) z5n z5e n0 (lT Z0 (z5l.1)) z5p z5r (by (try simp only [List.length_append, List.length_nil, cl0, cl1, cl2, cl3]); omega) (by (try simp only [List.length_append, List.length_nil, cl0, cl1, cl2, cl3]); omega) (app_lo (app_lo (app_lo (app_lo (app_lo (app_lo (fun _ q => nomatch q) (by decide +kernel)) F0.2.2.2.2.1) (by decide +kernel)) (dec_in tt)) (by decide +kernel)) (by decide +kernel)) G) hZ (wI hw 168 rfl) (wI hw 52 rfl) (by decide) (by decide)) (fun _ _ ⟨_, _, _, _, q, _, _, _⟩ => q) all0 rfl pd__28_29Ljava_2flang_2fString_3b rfl (Nat.le_of_eq rfl) (hb hby e13_58) (by decide) (by decide) ?_
    intro z5s z5t z5u z5v z5w
    obtain ⟨z_909, t_910, k_911, rfl, z5x, z5y, z5z, z60⟩ := z5w
    have z61 : Keep h0 z5t [] := z5l.trans z5x all0
    have z62 : Exa Z z5t z2 "com/example/etsin/etsin/BenchTurn$Outcome" := ((((((((((((((z6.keep zl).keep z1a).keep z1l).keep z1x).keep z2c).keep z2n).keep z33).keep z3i).keep z3x).keep z48).keep z4n).keep z53).keep z5i).keep z5x)
    have z63 : Fld Z z5t z2 "com/example/etsin/etsin/BenchTurn$Outcome" "correct" "Z" (.int 0) := ((((((((((((((zb.keep zl nin0).keep z1a nin0).keep z1l (ninS (nL (lL (lL z6.lt (zl.1)) (Nat.le_of_eq z14.symm))) nin0)).keep z1x nin0).keep z2c (ninS (nL (lL (lL z6.lt (zl.1)) (Nat.le_of_eq z14.symm))) (ninS (nL (lL (lL z6.lt (lT zl.1 z1a.1)) z1m)) nin0))).keep z2n (ninS (nL (lL (lL z6.lt (zl.1)) (Nat.le_of_eq z14.symm))) (ninS (nL (lL (lL z6.lt (lT zl.1 z1a.1)) z1m)) nin0))).keep z33 nin0).keep z3i (ninS (nL (lL (lL z6.lt (zl.1)) (Nat.le_of_eq z14.symm))) (ninS (nL (lL (lL z6.lt (lT zl.1 z1a.1)) (z2o.elim (fun q => by rw [q]; exact z1m) (fun q => lT (lT (lT z1l.1 z1x.1) z2c.1) q)))) nin0))).keep z3x (ninS (nL (lL (lL z6.lt (zl.1)) (Nat.le_of_eq z14.symm))) (ninS (nL (lL (lL z6.lt (lT zl.1 z1a.1)) (z3j.elim (fun q => by rw [q]; exact (z2o.elim (fun q => by rw [q]; exact z1m) (fun q => lT (lT (lT z1l.1 z1x.1) z2c.1) q))) (fun q => lT (lT (lT (lT (lT z1l.1 z1x.1) z2c.1) z2n.1) z33.1) q)))) nin0))).keep z48 nin0).keep z4n (ninS (nL (lL (lL z6.lt (zl.1)) (Nat.le_of_eq z14.symm))) (ninS (nL (lL (lL z6.lt (lT zl.1 z1a.1)) (z3j.elim (fun q => by rw [q]; exact (z2o.elim (fun q => by rw [q]; exact z1m) (fun q => lT (lT (lT z1l.1 z1x.1) z2c.1) q))) (fun q => lT (lT (lT (lT (lT z1l.1 z1x.1) z2c.1) z2n.1) z33.1) q)))) nin0))).keep z53 nin0).keep z5i (ninS (nL (lL (lL z6.lt (zl.1)) (Nat.le_of_eq z14.symm))) (ninS (nL (lL (lL z6.lt (lT zl.1 z1a.1)) (z4o.elim (fun q => by rw [q]; exact (z3j.elim (fun q => by rw [q]; exact (z2o.elim (fun q => by rw [q]; exact z1m) (fun q => lT (lT (lT z1l.1 z1x.1) z2c.1) q))) (fun q => lT (lT (lT (lT (lT z1l.1 z1x.1) z2c.1) z2n.1) z33.1) q))) (fun q => lT (lT (lT (lT (lT (lT (lT (lT z1l.1 z1x.1) z2c.1) z2n.1) z33.1) z3i.1) z3x.1) z48.1) q)))) nin0))).keep z5x nin0)
    have z64 : Fld Z z5t z2 "com/example/etsin/etsin/BenchTurn$Outcome" "description" "Ljava/lang/String;" .null := ((((((((((((((zc.keep zl nin0).keep z1a nin0).keep z1l (ninS (nL (lL (lL z6.lt (zl.1)) (Nat.le_of_eq z14.symm))) nin0)).keep z1x nin0).keep z2c (ninS (nL (lL (lL z6.lt (zl.1)) (Nat.le_of_eq z14.symm))) (ninS (nL (lL (lL z6.lt (lT zl.1 z1a.1)) z1m)) nin0))).keep z2n (ninS (nL (lL (lL z6.lt (zl.1)) (Nat.le_of_eq z14.symm))) (ninS (nL (lL (lL z6.lt (lT zl.1 z1a.1)) z1m)) nin0))).keep z33 nin0).keep z3i (ninS (nL (lL (lL z6.lt (zl.1)) (Nat.le_of_eq z14.symm))) (ninS (nL (lL (lL z6.lt (lT zl.1 z1a.1)) (z2o.elim (fun q => by rw [q]; exact z1m) (fun q => lT (lT (lT z1l.1 z1x.1) z2c.1) q)))) nin0))).keep z3x (ninS (nL (lL (lL z6.lt (zl.1)) (Nat.le_of_eq z14.symm))) (ninS (nL (lL (lL z6.lt (lT zl.1 z1a.1)) (z3j.elim (fun q => by rw [q]; exact (z2o.elim (fun q => by rw [q]; exact z1m) (fun q => lT (lT (lT z1l.1 z1x.1) z2c.1) q))) (fun q => lT (lT (lT (lT (lT z1l.1 z1x.1) z2c.1) z2n.1) z33.1) q)))) nin0))).keep z48 nin0).keep z4n (ninS (nL (lL (lL z6.lt (zl.1)) (Nat.le_of_eq z14.symm))) (ninS (nL (lL (lL z6.lt (lT zl.1 z1a.1)) (z3j.elim (fun q => by rw [q]; exact (z2o.elim (fun q => by rw [q]; exact z1m) (fun q => lT (lT (lT z1l.1 z1x.1) z2c.1) q))) (fun q => lT (lT (lT (lT (lT z1l.1 z1x.1) z2c.1) z2n.1) z33.1) q)))) nin0))).keep z53 nin0).keep z5i (ninS (nL (lL (lL z6.lt (zl.1)) (Nat.le_of_eq z14.symm))) (ninS (nL (lL (lL z6.lt (lT zl.1 z1a.1)) (z4o.elim (fun q => by rw [q]; exact (z3j.elim (fun q => by rw [q]; exact (z2o.elim (fun q => by rw [q]; exact z1m) (fun q => lT (lT (lT z1l.1 z1x.1) z2c.1) q))) (fun q => lT (lT (lT (lT (lT z1l.1 z1x.1) z2c.1) z2n.1) z33.1) q))) (fun q => lT (lT (lT (lT (lT (lT (lT (lT z1l.1 z1x.1) z2c.1) z2n.1) z33.1) z3i.1) z3x.1) z48.1) q)))) nin0))).keep z5x nin0)
    refine Jvm.Q9.Aim.callC (argsL := [(.int 0), (.ref z_909)]) (rest := [(.ref z2)]) z5v hx hZ hml hown rfl (wI hw 199 rfl) (wI hw 200 rfl) (wI hw 201 rfl) (by decide) (fun vm0 hZ => Jvm.Y9.Con.back (s := s.setVm vm0) (W := 1) (own_oi0 l Z a0 hw z2 z_909 (.int 0) (.null) z5t n0 (lT Z0 (z61.1)) (lT Z0 (Nat.le_of_eq z3.symm)) z62 z63 z64) hZ (wI hw 201 rfl) (wI hw 33 rfl) (by decide) (by decide)) (fun _ _ ⟨_, q, _, _, _⟩ => q) (allS (Jvm.Q9.nl_step (Jvm.Q9.nl_step (Jvm.Q9.nl_step (Jvm.Q9.nl_step (Jvm.Q9.nl_step (Jvm.Q9.nl_new P0.ltL (lT (Nat.le_refl _) (Nat.le_of_eq z3.symm))) zm z6.lt) z1y (lL z6.lt (lT (lT zl.1 z1a.1) z1l.1))) z34 (lL z6.lt (lT (lT (lT (lT (lT zl.1 z1a.1) z1l.1) z1x.1) z2c.1) z2n.1))) z49 (lL z6.lt (lT (lT (lT (lT (lT (lT (lT (lT zl.1 z1a.1) z1l.1) z1x.1) z2c.1) z2n.1) z33.1) z3i.1) z3x.1))) z54 (lL z6.lt (lT (lT (lT (lT (lT (lT (lT (lT (lT (lT zl.1 z1a.1) z1l.1) z1x.1) z2c.1) z2n.1) z33.1) z3i.1) z3x.1) z48.1) z4n.1))) all0) rfl pd__28ZLjava_2flang_2fString_3b_29V rfl (Nat.le_of_eq rfl) (hb hby e13_61) (by decide) (by decide) ?_
    intro z65 z66 z67 z68 z69
    obtain ⟨rfl, z6a, z6b, z6c, z6d⟩ := z69
    have z6e : Keep h0 z66 [] := z61.trans z6a (allS (Or.inr (lT (Nat.le_refl _) (Nat.le_of_eq z3.symm))) all0)
    have z6f : Str Z z66 z_909 t_910 k_911 ((((((([] : List Int32) ++ (Jvm.Q9.cod "the answer ")) ++ ys) ++ (Jvm.Q9.cod " after ")) ++ (dec tt)) ++ (Jvm.Q9.cod " results of ")) ++ (Jvm.Q9.cod "get_weather")) := (z60.keep z6a (ninS (Ne.symm (nL (lL (lL z6.lt (lT (lT (lT (lT (lT (lT (lT (lT (lT (lT (lT (lT zl.1 z1a.1) z1l.1) z1x.1) z2c.1) z2n.1) z33.1) z3i.1) z3x.1) z48.1) z4n.1) z53.1) z5i.1)) z5y))) nin0) (ninS (Ne.symm (nL (lL (lL z6.lt (lT (lT (lT (lT (lT (lT (lT (lT (lT (lT (lT (lT zl.1 z1a.1) z1l.1) z1x.1) z2c.1) z2n.1) z33.1) z3i.1) z3x.1) z48.1) z4n.1) z53.1) z5i.1)) z5z))) nin0))
    exact Jvm.Q9.Aim.retA z68 hx hlk hret rfl rfl (hb hby e13_64) (by decide) (by decide) z59 ⟨z2, z_909, t_910, k_911, rfl, z6e, (lT (Nat.le_refl _) (Nat.le_of_eq z3.symm)), (lT (z5l.1) z5y), (lT (z5l.1) z5z), z6b, (by rw [cor, if_neg (fun q => by rw [if_pos (show ys = Jvm.Q9.cod "It is sunny in Paris, 21 degrees." from q.1)] at z10; cases z10)]; exact z6c), z6d, z6f⟩
  · skip
    have H := zy.here
    refine Jvm.Q9.Aim.of (T' := zv) (g' := (mkF m 15 #[.val (.ref y), .val (.int tt)] [(.int 1), (.int tt), (.ref z2), (.ref z2)])) (fun tgt kt => ?_) ?_
    · refine XS.ifNo H hx rfl (hb hby e13_10) rfl ((if0 _ _).trans (feq z10).1) ?_
      refine XS.iloadN H hx rfl (hb hby e13_13) rfl ?_
      refine XS.iconst H hx rfl (hb hby e13_14) ?_
      exact kt
    by_cases z6g : tt = (1 : Int32)
    · skip
      have H := zy.here
      refine Jvm.Q9.Aim.of (T' := zv) (g' := (mkF m 23 #[.val (.ref y), .val (.int tt)] [(.int 1), (.ref z2), (.ref z2)])) (fun tgt kt => ?_) ?_
      · refine XS.icmpNo H hx rfl (hb hby e13_15) rfl (teq z6g).2 ?_
        refine XS.iconst H hx rfl (hb hby e13_18) ?_
        refine XS.goto H hx rfl (pc0 := 19) (pc' := 23) rfl (hb hby e13_19) (by decide) (by decide) ?_
        exact kt
      refine Jvm.Q9.Aim.newO zy hx hZ hown (wI hw 50 rfl) (wI hw 51 rfl) (wI hw 52 rfl) (hb hby e13_23) (by decide) (by decide) ?_
      intro z6h z6i z6j z6k z6l z6m z6n z6o z6p
      have z6q : Keep zf z6i [] := (Keep.refl _ _).ext z6m
      have z6r : Keep h0 z6i [] := zq.trans z6q all0
      have z6s : Fld Z z6i z6j "java/lang/AbstractStringBuilder" "value" "[B" .null := z6o (Or.inl (wI hw 65 rfl)) (ty := (.array .byte)) (by decide)
      have z6t : Fld Z z6i z6j "java/lang/AbstractStringBuilder" "coder" "B" (.int 0) := z6o (Or.inl (wI hw 67 rfl)) (ty := .byte) (by decide)
      have z6u : Fld Z z6i z6j "java/lang/AbstractStringBuilder" "count" "I" (.int 0) := z6o (Or.inl (wI hw 90 rfl)) (ty := .int) (by decide)
      have H := z6l.here
      refine Jvm.Q9.Aim.of (T' := z6h) (g' := (mkF m 27 #[.val (.ref y), .val (.int tt)] [(.ref z6j), (.ref z6j), (.int 1), (.ref z2), (.ref z2)])) (fun tgt kt => ?_) ?_
      · refine XS.dup H hx rfl (hb hby e13_26) rfl rfl ?_
        exact kt
      have z6v : Old Z n0 z6i := (zu.keep z6q all0)
      refine Jvm.Q9.Aim.callC (argsL := []) (rest := [(.ref z6j), (.int 1), (.ref z2), (.ref z2)]) z6l hx hZ hml hown rfl (wI hw 53 rfl) (wI hw 54 rfl) (wI hw 55 rfl) (by decide) (fun vm0 hZ => Jvm.Y9.Con.back (s := s.setVm vm0) (W := 4) (own_sbi l Z a0 hw z6j (.null) (.int 0) z6i n0 (lT Z0 (z6r.1)) (lT (lT Z0 (zq.1)) (Nat.le_of_eq z6k.symm)) z6n z6s z6t z6u z6v G) hZ (wI hw 55 rfl) (wI hw 52 rfl) (by decide) (by decide)) (fun _ _ ⟨_, _, _, q, _, _⟩ => q) (allS (Jvm.Q9.nl_new zk.ltL (lT (Nat.le_refl _) (Nat.le_of_eq z6k.symm))) all0) rfl pd__28_29V rfl (Nat.le_of_eq rfl) (hb hby e13_27) (by decide) (by decide) ?_
      intro z6w z6x z6y z6z z70
      obtain ⟨t_956, kb_957, rfl, z71, z72, z73⟩ := z70
      have z74 : Keep h0 z6x [] := z6r.trans z71 (allS (Or.inr (lT (zq.1) (Nat.le_of_eq z6k.symm))) all0)
      have z75 : Old Z n0 z6x := (z6v.keep z71 (allS (lT (lT Z0 (zq.1)) (Nat.le_of_eq z6k.symm)) all0))
      refine Jvm.Q9.Aim.ldcL z6z hx hZ hown (wI hw 68 rfl) (own_atoms hw) (LC := LC) (List.mem_of_getElem? (i := 1) rfl) (by decide +kernel) (by decide +kernel) (GL _ (List.mem_of_getElem? (i := 1) rfl)) z75 (fun b cl q => z74.2.1 b cl (by rw [← hs0]; exact q) nin0) (hb hby e13_30) (fun _ => trivial) (cap := 44) (by decide +kernel) (by decide) (by decide) (by decide) ?_
      intro z76 z77 z78 z79 z7a z7b z7c z7d z7e z7f z7g z7h
      have z7i : Keep h0 z77 [] := z74.trans z7d all0
      have z7j : Jvm.Q9.Grow Lc0 z7b h0.size := zr.trans z7e (z74.1)
      have z7k : Exa Z z77 z6j "java/lang/StringBuilder" := ((z6n.keep z71).keep z7d)
      have z7l : Bld Z z77 z6j t_956 kb_957 ([] : List Int32) 16 := (z73.keep z7d nin0 nin0)
      have z7m : Old Z n0 z77 := (z75.keep z7d all0)
      refine Jvm.Q9.Aim.callV (argsL := [(.ref z78)]) (rest := [(.int 1), (.ref z2), (.ref z2)]) z7c hx hZ hml hown (wI hw 69 rfl) (wI hw 70 rfl) (fun vm0 hZ => notFace_of_selects (args := #[]) (mvT (s := s.setVm vm0) hZ (wI hw 72 rfl))) (wI hw 72 rfl) (wI hw 71 rfl) (by decide) z7k (fun vm0 hZ => Jvm.Y9.Con.back (s := s.setVm vm0) (W := 3) (own_app l Z a0 hw z6j t_956 kb_957 ([] : List Int32) 16 z78 z79 z7a (Jvm.Q9.cod "the answer ") z77 n0 (lT Z0 (z7i.1)) (lT (lT Z0 (zq.1)) (Nat.le_of_eq z6k.symm)) (lT (lT Z0 (z6r.1)) z72) z7l z7f z7m (by (try simp only [List.length_append, List.length_nil, cl0, cl1, cl2, cl3]); omega) (by (try simp only [List.length_append, List.length_nil, cl0, cl1, cl2, cl3]); omega) (Jvm.Q9.lit_ne z7h (lT (lT Z0 (z6r.1)) z72) (Jvm.Q9.nl_step (Jvm.Q9.nl_new zk.ltL (lT (z6q.1) z72)) z7e z73.2.2.2.2.lt)) (Jvm.Q9.lit_ne z7h (lT (lT Z0 (zq.1)) (Nat.le_of_eq z6k.symm)) (Jvm.Q9.nl_step (Jvm.Q9.nl_new zk.ltL (lT (Nat.le_refl _) (Nat.le_of_eq z6k.symm))) z7e (lL z6n.lt (z71.1)))) (nL (lL z6n.lt z72)) (Jvm.Q9.lit_ne z7g (lT (lT Z0 (z6r.1)) z72) (Jvm.Q9.nl_step (Jvm.Q9.nl_new zk.ltL (lT (z6q.1) z72)) z7e z73.2.2.2.2.lt)) G) hZ (wI hw 73 rfl) (wI hw 52 rfl) (by decide) (by decide)) (fun _ _ ⟨_, q, _⟩ => q) (allS (Jvm.Q9.nl_step (Jvm.Q9.nl_new zk.ltL (lT (Nat.le_refl _) (Nat.le_of_eq z6k.symm))) z7e (lL z6n.lt (z71.1))) (allS (Jvm.Q9.nl_step (Jvm.Q9.nl_new zk.ltL (lT (z6q.1) z72)) z7e z73.2.2.2.2.lt) all0)) rfl pd__28Ljava_2flang_2fString_3b_29Ljava_2flang_2fStringBuilder_3b rfl (Nat.le_of_eq rfl) (hb hby e13_32) (by decide) (by decide) ?_
      intro z7n z7o z7p z7q z7r
      obtain ⟨rfl, z7s, z7t⟩ := z7r
      have z7u : Keep h0 z7o [] := z7i.trans z7s (allS (Or.inr (lT (zq.1) (Nat.le_of_eq z6k.symm))) (allS (Or.inr (lT (z6r.1) z72)) all0))
      have H := z7q.here
      refine Jvm.Q9.Aim.of (T' := z7n) (g' := (mkF m 36 #[.val (.ref y), .val (.int tt)] [(.ref y), (.ref z6j), (.int 1), (.ref z2), (.ref z2)])) (fun tgt kt => ?_) ?_
      · refine XS.aloadN H hx rfl (hb hby e13_35) rfl rfl ?_
        exact kt
      have z7v : Exa Z z7o z6j "java/lang/StringBuilder" := (z7k.keep z7s)
      have z7w : Str Z z7o y u ku ys := ((((zt.keep z6q nin0 nin0).keep z71 (ninS (nL (lL (lL F0.lt (zq.1)) (Nat.le_of_eq z6k.symm))) nin0) (ninS (nL (lL (lL F0.ltb (zq.1)) (Nat.le_of_eq z6k.symm))) nin0)).keep z7d nin0 nin0).keep z7s (ninS (nL (lL (lL F0.lt (zq.1)) (Nat.le_of_eq z6k.symm))) (ninS (nL (lL (lL F0.lt (z6r.1)) z72)) nin0)) (ninS (nL (lL (lL F0.ltb (zq.1)) (Nat.le_of_eq z6k.symm))) (ninS (nL (lL (lL F0.ltb (z6r.1)) z72)) nin0)))
      have z7x : Old Z n0 z7o := (z7m.keep z7s (allS (lT (lT Z0 (zq.1)) (Nat.le_of_eq z6k.symm)) (allS (lT (lT Z0 (z6r.1)) z72) all0)))
      refine Jvm.Q9.Aim.callV (argsL := [(.ref y)]) (rest := [(.int 1), (.ref z2), (.ref z2)]) z7q hx hZ hml hown (wI hw 69 rfl) (wI hw 70 rfl) (fun vm0 hZ => notFace_of_selects (args := #[]) (mvT (s := s.setVm vm0) hZ (wI hw 72 rfl))) (wI hw 72 rfl) (wI hw 71 rfl) (by decide) z7v (fun vm0 hZ => Jvm.Y9.Con.back (s := s.setVm vm0) (W := 3) (own_appG l Z a0 hw z6j t_956 kb_957 (([] : List Int32) ++ (Jvm.Q9.cod "the answer ")) 16 y u ku ys z7o n0 (lT Z0 (z7u.1)) (lT (lT Z0 (zq.1)) (Nat.le_of_eq z6k.symm)) (lT (lT Z0 (z6r.1)) z72) z7t z7w z7x (by (try simp only [List.length_append, List.length_nil, cl0, cl1, cl2, cl3]); omega) (by (try simp only [List.length_append, List.length_nil, cl0, cl1, cl2, cl3]); omega) (capN_le (by (try simp only [List.length_append, List.length_nil, cl0, cl1, cl2, cl3]); omega)) (nL (lL (lL F0.ltb (z6r.1)) z72)) (nL (lL (lL F0.ltb (zq.1)) (Nat.le_of_eq z6k.symm))) (nL (lL z6n.lt z72)) (nL (lL (lL F0.lt (z6r.1)) z72)) G) hZ (wI hw 73 rfl) (wI hw 52 rfl) (by decide) (by decide)) (fun _ _ ⟨_, _, _, q, _, _⟩ => q) (allS (Jvm.Q9.nl_step (Jvm.Q9.nl_new zk.ltL (lT (Nat.le_refl _) (Nat.le_of_eq z6k.symm))) z7e (lL z6n.lt (z71.1))) (allS (Jvm.Q9.nl_step (Jvm.Q9.nl_new zk.ltL (lT (z6q.1) z72)) z7e z73.2.2.2.2.lt) all0)) rfl pd__28Ljava_2flang_2fString_3b_29Ljava_2flang_2fStringBuilder_3b rfl (Nat.le_of_eq rfl) (hb hby e13_36) (by decide) (by decide) ?_
      intro z7y z7z z80 z81 z82
      obtain ⟨t_1000, k_1001, rfl, z83, z84, z85⟩ := z82
      have z86 : Keep h0 z7z [] := z7u.trans z83 (allS (Or.inr (lT (zq.1) (Nat.le_of_eq z6k.symm))) (allS (Or.inr (lT (z6r.1) z72)) all0))
      have z87 : t_1000 ∉ z7b := z84.elim (fun q => by rw [q]; exact (Jvm.Q9.nl_step (Jvm.Q9.nl_new zk.ltL (lT (z6q.1) z72)) z7e z73.2.2.2.2.lt)) (fun q => Jvm.Q9.nl_new z7c.ltL (lT (z7s.1) q))
      obtain ⟨z88, z89⟩ : ∃ q : Nat, q = (capN 16 ((([] : List Int32) ++ (Jvm.Q9.cod "the answer ")).length + ys.length)) := ⟨_, rfl⟩
      have z8a : Bld Z z7z z6j t_1000 k_1001 ((([] : List Int32) ++ (Jvm.Q9.cod "the answer ")) ++ ys) z88 := by rw [z89]; exact z85
      have shcp1008 := capN_spec 16 ((([] : List Int32) ++ (Jvm.Q9.cod "the answer ")).length + ys.length)
      rw [← z89] at shcp1008
      simp only [List.length_append, List.length_nil, cl0, cl1, cl2, cl3] at shcp1008
      have z8b : Old Z n0 z7z := (z7x.keep z83 (allS (lT (lT Z0 (zq.1)) (Nat.le_of_eq z6k.symm)) (allS (lT (lT Z0 (z6r.1)) z72) all0)))
      refine Jvm.Q9.Aim.ldcL z81 hx hZ hown (wI hw 139 rfl) (own_atoms hw) (LC := LC) (List.mem_of_getElem? (i := 2) rfl) (by decide +kernel) (by decide +kernel) (GL _ (List.mem_of_getElem? (i := 2) rfl)) z8b (fun b cl q => z86.2.1 b cl (by rw [← hs0]; exact q) nin0) (hb hby e13_39) (fun _ => trivial) (cap := 28) (by decide +kernel) (by decide) (by decide) (by decide) ?_
      intro z8c z8d z8e z8f z8g z8h z8i z8j z8k z8l z8m z8n
      have z8o : Keep h0 z8d [] := z86.trans z8j all0
      have z8p : Jvm.Q9.Grow Lc0 z8h h0.size := z7j.trans z8k (z86.1)
      have z8q : Exa Z z8d z6j "java/lang/StringBuilder" := ((z7v.keep z83).keep z8j)
      have z8r : Bld Z z8d z6j t_1000 k_1001 ((([] : List Int32) ++ (Jvm.Q9.cod "the answer ")) ++ ys) z88 := (z8a.keep z8j nin0 nin0)
      have z8s : Old Z n0 z8d := (z8b.keep z8j all0)
      refine Jvm.Q9.Aim.callV (argsL := [(.ref z8e)]) (rest := [(.int 1), (.ref z2), (.ref z2)]) z8i hx hZ hml hown (wI hw 69 rfl) (wI hw 70 rfl) (fun vm0 hZ => notFace_of_selects (args := #[]) (mvT (s := s.setVm vm0) hZ (wI hw 72 rfl))) (wI hw 72 rfl) (wI hw 71 rfl) (by decide) z8q (fun vm0 hZ => Jvm.Y9.Con.back (s := s.setVm vm0) (W := 3) (own_appG l Z a0 hw z6j t_1000 k_1001 ((([] : List Int32) ++ (Jvm.Q9.cod "the answer ")) ++ ys) z88 z8e z8f z8g (Jvm.Q9.cod " after ") z8d n0 (lT Z0 (z8o.1)) (lT (lT Z0 (zq.1)) (Nat.le_of_eq z6k.symm)) (lT (lT Z0 (z6r.1)) (z84.elim (fun q => by rw [q]; exact z72) (fun q => lT (lT (lT z71.1 z7d.1) z7s.1) q))) z8r z8l z8s (by (try simp only [List.length_append, List.length_nil, cl0, cl1, cl2, cl3]); omega) (by (try simp only [List.length_append, List.length_nil, cl0, cl1, cl2, cl3]); omega) (capN_le (by (try simp only [List.length_append, List.length_nil, cl0, cl1, cl2, cl3]); omega)) (Jvm.Q9.lit_ne z8n (lT (lT Z0 (z6r.1)) (z84.elim (fun q => by rw [q]; exact z72) (fun q => lT (lT (lT z71.1 z7d.1) z7s.1) q))) (Jvm.Q9.nl_step z87 z8k z85.2.2.2.2.lt)) (Jvm.Q9.lit_ne z8n (lT (lT Z0 (zq.1)) (Nat.le_of_eq z6k.symm)) (Jvm.Q9.nl_step (Jvm.Q9.nl_step (Jvm.Q9.nl_new zk.ltL (lT (Nat.le_refl _) (Nat.le_of_eq z6k.symm))) z7e (lL z6n.lt (z71.1))) z8k (lL z6n.lt (lT (lT (lT z71.1 z7d.1) z7s.1) z83.1)))) (nL (lL z6n.lt (z84.elim (fun q => by rw [q]; exact z72) (fun q => lT (lT (lT z71.1 z7d.1) z7s.1) q)))) (Jvm.Q9.lit_ne z8m (lT (lT Z0 (z6r.1)) (z84.elim (fun q => by rw [q]; exact z72) (fun q => lT (lT (lT z71.1 z7d.1) z7s.1) q))) (Jvm.Q9.nl_step z87 z8k z85.2.2.2.2.lt)) G) hZ (wI hw 73 rfl) (wI hw 52 rfl) (by decide) (by decide)) (fun _ _ ⟨_, _, _, q, _, _⟩ => q) (allS (Jvm.Q9.nl_step (Jvm.Q9.nl_step (Jvm.Q9.nl_new zk.ltL (lT (Nat.le_refl _) (Nat.le_of_eq z6k.symm))) z7e (lL z6n.lt (z71.1))) z8k (lL z6n.lt (lT (lT (lT z71.1 z7d.1) z7s.1) z83.1))) (allS (Jvm.Q9.nl_step z87 z8k z85.2.2.2.2.lt) all0)) rfl pd__28Ljava_2flang_2fString_3b_29Ljava_2flang_2fStringBuilder_3b rfl (Nat.le_of_eq rfl) (hb hby e13_41) (by decide) (by decide) ?_
      intro z8t z8u z8v z8w z8x
      obtain ⟨t_1035, k_1036, rfl, z8y, z8z, z90⟩ := z8x
      have z91 : Keep h0 z8u [] := z8o.trans z8y (allS (Or.inr (lT (zq.1) (Nat.le_of_eq z6k.symm))) (allS (Or.inr (lT (z6r.1) (z84.elim (fun q => by rw [q]; exact z72) (fun q => lT (lT (lT z71.1 z7d.1) z7s.1) q)))) all0))
      have z92 : t_1035 ∉ z8h := z8z.elim (fun q => by rw [q]; exact (Jvm.Q9.nl_step z87 z8k z85.2.2.2.2.lt)) (fun q => Jvm.Q9.nl_new z8i.ltL (lT (Nat.le_refl _) q))
      obtain ⟨z93, z94⟩ : ∃ q : Nat, q = (capN z88 (((([] : List Int32) ++ (Jvm.Q9.cod "the answer ")) ++ ys).length + (Jvm.Q9.cod " after ").length)) := ⟨_, rfl⟩
      have z95 : Bld Z z8u z6j t_1035 k_1036 (((([] : List Int32) ++ (Jvm.Q9.cod "the answer ")) ++ ys) ++ (Jvm.Q9.cod " after ")) z93 := by rw [z94]; exact z90
      have shcp1043 := capN_spec z88 (((([] : List Int32) ++ (Jvm.Q9.cod "the answer ")) ++ ys).length + (Jvm.Q9.cod " after ").length)
      rw [← z94] at shcp1043
      simp only [List.length_append, List.length_nil, cl0, cl1, cl2, cl3] at shcp1043
      have H := z8w.here
      refine Jvm.Q9.Aim.of (T' := z8t) (g' := (mkF m 45 #[.val (.ref y), .val (.int tt)] [(.int tt), (.ref z6j), (.int 1), (.ref z2), (.ref z2)])) (fun tgt kt => ?_) ?_
      · refine XS.iloadN H hx rfl (hb hby e13_44) rfl ?_
        exact kt
      have z96 : Exa Z z8u z6j "java/lang/StringBuilder" := (z8q.keep z8y)
      have z97 : Old Z n0 z8u := (z8s.keep z8y (allS (lT (lT Z0 (zq.1)) (Nat.le_of_eq z6k.symm)) (allS (lT (lT Z0 (z6r.1)) (z84.elim (fun q => by rw [q]; exact z72) (fun q => lT (lT (lT z71.1 z7d.1) z7s.1) q))) all0)))
      refine Jvm.Q9.Aim.callV (argsL := [(.int tt)]) (rest := [(.int 1), (.ref z2), (.ref z2)]) z8w hx hZ hml hown (wI hw 140 rfl) (wI hw 141 rfl) (fun vm0 hZ => notFace_of_selects (args := #[]) (mvT (s := s.setVm vm0) hZ (wI hw 143 rfl))) (wI hw 143 rfl) (wI hw 142 rfl) (by decide) z96 (fun vm0 hZ => Jvm.Y9.Con.back (s := s.setVm vm0) (W := 3) (own_appI l Z a0 hw z6j t_1035 k_1036 (((([] : List Int32) ++ (Jvm.Q9.cod "the answer ")) ++ ys) ++ (Jvm.Q9.cod " after ")) z93 tt z8u n0 (lT Z0 (z91.1)) (lT (lT Z0 (zq.1)) (Nat.le_of_eq z6k.symm)) (lT (lT Z0 (z6r.1)) (z8z.elim (fun q => by rw [q]; exact (z84.elim (fun q => by rw [q]; exact z72) (fun q => lT (lT (lT z71.1 z7d.1) z7s.1) q))) (fun q => lT (lT (lT (lT (lT z71.1 z7d.1) z7s.1) z83.1) z8j.1) q))) z95 z97 (by (try simp only [List.length_append, List.length_nil, cl0, cl1, cl2, cl3]); omega) (by (try simp only [List.length_append, List.length_nil, cl0, cl1, cl2, cl3]); omega) (nL (lL z6n.lt (z8z.elim (fun q => by rw [q]; exact (z84.elim (fun q => by rw [q]; exact z72) (fun q => lT (lT (lT z71.1 z7d.1) z7s.1) q))) (fun q => lT (lT (lT (lT (lT z71.1 z7d.1) z7s.1) z83.1) z8j.1) q)))) G GD) hZ (wI hw 144 rfl) (wI hw 52 rfl) (by decide) (by decide)) (fun _ _ ⟨_, q, _⟩ => q) (allS (Jvm.Q9.nl_step (Jvm.Q9.nl_step (Jvm.Q9.nl_new zk.ltL (lT (Nat.le_refl _) (Nat.le_of_eq z6k.symm))) z7e (lL z6n.lt (z71.1))) z8k (lL z6n.lt (lT (lT (lT z71.1 z7d.1) z7s.1) z83.1))) (allS z92 all0)) rfl pd__28I_29Ljava_2flang_2fStringBuilder_3b rfl (Nat.le_of_eq rfl) (hb hby e13_45) (by decide) (by decide) ?_
      intro z98 z99 z9a z9b z9c
      obtain ⟨rfl, z9d, z9e⟩ := z9c
      have z9f : Keep h0 z99 [] := z91.trans z9d (allS (Or.inr (lT (zq.1) (Nat.le_of_eq z6k.symm))) (allS (Or.inr (lT (z6r.1) (z8z.elim (fun q => by rw [q]; exact (z84.elim (fun q => by rw [q]; exact z72) (fun q => lT (lT (lT z71.1 z7d.1) z7s.1) q))) (fun q => lT (lT (lT (lT (lT z71.1 z7d.1) z7s.1) z83.1) z8j.1) q)))) all0))
      have z9g : Old Z n0 z99 := (z97.keep z9d (allS (lT (lT Z0 (zq.1)) (Nat.le_of_eq z6k.symm)) (allS (lT (lT Z0 (z6r.1)) (z8z.elim (fun q => by rw [q]; exact (z84.elim (fun q => by rw [q]; exact z72) (fun q => lT (lT (lT z71.1 z7d.1) z7s.1) q))) (fun q => lT (lT (lT (lT (lT z71.1 z7d.1) z7s.1) z83.1) z8j.1) q))) all0)))
      refine Jvm.Q9.Aim.ldcL z9b hx hZ hown (wI hw 162 rfl) (own_atoms hw) (LC := LC) (List.mem_of_getElem? (i := 3) rfl) (by decide +kernel) (by decide +kernel) (GL _ (List.mem_of_getElem? (i := 3) rfl)) z9g (fun b cl q => z9f.2.1 b cl (by rw [← hs0]; exact q) nin0) (hb hby e13_48) (fun _ => trivial) (cap := 48) (by decide +kernel) (by decide) (by decide) (by decide) ?_
      intro z9h z9i z9j z9k z9l z9m z9n z9o z9p z9q z9r z9s
      have z9t : Keep h0 z9i [] := z9f.trans z9o all0
      have z9u : Jvm.Q9.Grow Lc0 z9m h0.size := z8p.trans z9p (z9f.1)
      have z9v : Exa Z z9i z6j "java/lang/StringBuilder" := ((z96.keep z9d).keep z9o)
      have z9w : Bld Z z9i z6j t_1035 k_1036 ((((([] : List Int32) ++ (Jvm.Q9.cod "the answer ")) ++ ys) ++ (Jvm.Q9.cod " after ")) ++ (dec tt)) z93 := (z9e.keep z9o nin0 nin0)
      have z9x : Old Z n0 z9i := (z9g.keep z9o all0)
      refine Jvm.Q9.Aim.callV (argsL := [(.ref z9j)]) (rest := [(.int 1), (.ref z2), (.ref z2)]) z9n hx hZ hml hown (wI hw 69 rfl) (wI hw 70 rfl) (fun vm0 hZ => notFace_of_selects (args := #[]) (mvT (s := s.setVm vm0) hZ (wI hw 72 rfl))) (wI hw 72 rfl) (wI hw 71 rfl) (by decide) z9v (fun vm0 hZ => Jvm.Y9.Con.back (s := s.setVm vm0) (W := 3) (own_appG l Z a0 hw z6j t_1035 k_1036 ((((([] : List Int32) ++ (Jvm.Q9.cod "the answer ")) ++ ys) ++ (Jvm.Q9.cod " after ")) ++ (dec tt)) z93 z9j z9k z9l (Jvm.Q9.cod " results of ") z9i n0 (lT Z0 (z9t.1)) (lT (lT Z0 (zq.1)) (Nat.le_of_eq z6k.symm)) (lT (lT Z0 (z6r.1)) (z8z.elim (fun q => by rw [q]; exact (z84.elim (fun q => by rw [q]; exact z72) (fun q => lT (lT (lT z71.1 z7d.1) z7s.1) q))) (fun q => lT (lT (lT (lT (lT z71.1 z7d.1) z7s.1) z83.1) z8j.1) q))) z9w z9q z9x (by (try simp only [List.length_append, List.length_nil, cl0, cl1, cl2, cl3]); omega) (by (try simp only [List.length_append, List.length_nil, cl0, cl1, cl2, cl3]); omega) (capN_le (by (try simp only [List.length_append, List.length_nil, cl0, cl1, cl2, cl3]); omega)) (Jvm.Q9.lit_ne z9s (lT (lT Z0 (z6r.1)) (z8z.elim (fun q => by rw [q]; exact (z84.elim (fun q => by rw [q]; exact z72) (fun q => lT (lT (lT z71.1 z7d.1) z7s.1) q))) (fun q => lT (lT (lT (lT (lT z71.1 z7d.1) z7s.1) z83.1) z8j.1) q))) (Jvm.Q9.nl_step z92 z9p (lL z90.2.2.2.2.lt (z9d.1)))) (Jvm.Q9.lit_ne z9s (lT (lT Z0 (zq.1)) (Nat.le_of_eq z6k.symm)) (Jvm.Q9.nl_step (Jvm.Q9.nl_step (Jvm.Q9.nl_step (Jvm.Q9.nl_new zk.ltL (lT (Nat.le_refl _) (Nat.le_of_eq z6k.symm))) z7e (lL z6n.lt (z71.1))) z8k (lL z6n.lt (lT (lT (lT z71.1 z7d.1) z7s.1) z83.1))) z9p (lL z6n.lt (lT (lT (lT (lT (lT (lT z71.1 z7d.1) z7s.1) z83.1) z8j.1) z8y.1) z9d.1)))) (nL (lL z6n.lt (z8z.elim (fun q => by rw [q]; exact (z84.elim (fun q => by rw [q]; exact z72) (fun q => lT (lT (lT z71.1 z7d.1) z7s.1) q))) (fun q => lT (lT (lT (lT (lT z71.1 z7d.1) z7s.1) z83.1) z8j.1) q)))) (Jvm.Q9.lit_ne z9r (lT (lT Z0 (z6r.1)) (z8z.elim (fun q => by rw [q]; exact (z84.elim (fun q => by rw [q]; exact z72) (fun q => lT (lT (lT z71.1 z7d.1) z7s.1) q))) (fun q => lT (lT (lT (lT (lT z71.1 z7d.1) z7s.1) z83.1) z8j.1) q))) (Jvm.Q9.nl_step z92 z9p (lL z90.2.2.2.2.lt (z9d.1)))) G) hZ (wI hw 73 rfl) (wI hw 52 rfl) (by decide) (by decide)) (fun _ _ ⟨_, _, _, q, _, _⟩ => q) (allS (Jvm.Q9.nl_step (Jvm.Q9.nl_step (Jvm.Q9.nl_step (Jvm.Q9.nl_new zk.ltL (lT (Nat.le_refl _) (Nat.le_of_eq z6k.symm))) z7e (lL z6n.lt (z71.1))) z8k (lL z6n.lt (lT (lT (lT z71.1 z7d.1) z7s.1) z83.1))) z9p (lL z6n.lt (lT (lT (lT (lT (lT (lT z71.1 z7d.1) z7s.1) z83.1) z8j.1) z8y.1) z9d.1))) (allS (Jvm.Q9.nl_step z92 z9p (lL z90.2.2.2.2.lt (z9d.1))) all0)) rfl pd__28Ljava_2flang_2fString_3b_29Ljava_2flang_2fStringBuilder_3b rfl (Nat.le_of_eq rfl) (hb hby e13_50) (by decide) (by decide) ?_
      intro z9y z9z za0 za1 za2
      obtain ⟨t_1082, k_1083, rfl, za3, za4, za5⟩ := za2
      have za6 : Keep h0 z9z [] := z9t.trans za3 (allS (Or.inr (lT (zq.1) (Nat.le_of_eq z6k.symm))) (allS (Or.inr (lT (z6r.1) (z8z.elim (fun q => by rw [q]; exact (z84.elim (fun q => by rw [q]; exact z72) (fun q => lT (lT (lT z71.1 z7d.1) z7s.1) q))) (fun q => lT (lT (lT (lT (lT z71.1 z7d.1) z7s.1) z83.1) z8j.1) q)))) all0))
      have za7 : t_1082 ∉ z9m := za4.elim (fun q => by rw [q]; exact (Jvm.Q9.nl_step z92 z9p (lL z90.2.2.2.2.lt (z9d.1)))) (fun q => Jvm.Q9.nl_new z9n.ltL (lT (Nat.le_refl _) q))
      obtain ⟨za8, za9⟩ : ∃ q : Nat, q = (capN z93 (((((([] : List Int32) ++ (Jvm.Q9.cod "the answer ")) ++ ys) ++ (Jvm.Q9.cod " after ")) ++ (dec tt)).length + (Jvm.Q9.cod " results of ").length)) := ⟨_, rfl⟩
      have zaa : Bld Z z9z z6j t_1082 k_1083 (((((([] : List Int32) ++ (Jvm.Q9.cod "the answer ")) ++ ys) ++ (Jvm.Q9.cod " after ")) ++ (dec tt)) ++ (Jvm.Q9.cod " results of ")) za8 := by rw [za9]; exact za5
      have shcp1090 := capN_spec z93 (((((([] : List Int32) ++ (Jvm.Q9.cod "the answer ")) ++ ys) ++ (Jvm.Q9.cod " after ")) ++ (dec tt)).length + (Jvm.Q9.cod " results of ").length)
      rw [← za9] at shcp1090
      simp only [List.length_append, List.length_nil, cl0, cl1, cl2, cl3] at shcp1090
      have zab : Old Z n0 z9z := (z9x.keep za3 (allS (lT (lT Z0 (zq.1)) (Nat.le_of_eq z6k.symm)) (allS (lT (lT Z0 (z6r.1)) (z8z.elim (fun q => by rw [q]; exact (z84.elim (fun q => by rw [q]; exact z72) (fun q => lT (lT (lT z71.1 z7d.1) z7s.1) q))) (fun q => lT (lT (lT (lT (lT z71.1 z7d.1) z7s.1) z83.1) z8j.1) q))) all0)))
      refine Jvm.Q9.Aim.ldcL za1 hx hZ hown (wI hw 163 rfl) (own_atoms hw) (LC := LC) (List.mem_of_getElem? (i := 4) rfl) (by decide +kernel) (by decide +kernel) (GL _ (List.mem_of_getElem? (i := 4) rfl)) zab (fun b cl q => za6.2.1 b cl (by rw [← hs0]; exact q) nin0) (hb hby e13_53) (fun _ => trivial) (cap := 44) (by decide +kernel) (by decide) (by decide) (by decide) ?_
      intro zac zad zae zaf zag zah zai zaj zak zal zam zan
      have zao : Keep h0 zad [] := za6.trans zaj all0
      have zap : Jvm.Q9.Grow Lc0 zah h0.size := z9u.trans zak (za6.1)
      have zaq : Exa Z zad z6j "java/lang/StringBuilder" := ((z9v.keep za3).keep zaj)
      have zar : Bld Z zad z6j t_1082 k_1083 (((((([] : List Int32) ++ (Jvm.Q9.cod "the answer ")) ++ ys) ++ (Jvm.Q9.cod " after ")) ++ (dec tt)) ++ (Jvm.Q9.cod " results of ")) za8 := (zaa.keep zaj nin0 nin0)
      have zas : Old Z n0 zad := (zab.keep zaj all0)
      refine Jvm.Q9.Aim.callV (argsL := [(.ref zae)]) (rest := [(.int 1), (.ref z2), (.ref z2)]) zai hx hZ hml hown (wI hw 69 rfl) (wI hw 70 rfl) (fun vm0 hZ => notFace_of_selects (args := #[]) (mvT (s := s.setVm vm0) hZ (wI hw 72 rfl))) (wI hw 72 rfl) (wI hw 71 rfl) (by decide) zaq (fun vm0 hZ => Jvm.Y9.Con.back (s := s.setVm vm0) (W := 3) (own_appG l Z a0 hw z6j t_1082 k_1083 (((((([] : List Int32) ++ (Jvm.Q9.cod "the answer ")) ++ ys) ++ (Jvm.Q9.cod " after ")) ++ (dec tt)) ++ (Jvm.Q9.cod " results of ")) za8 zae zaf zag (Jvm.Q9.cod "get_weather") zad n0 (lT Z0 (zao.1)) (lT (lT Z0 (zq.1)) (Nat.le_of_eq z6k.symm)) (lT (lT Z0 (z6r.1)) (za4.elim (fun q => by rw [q]; exact (z8z.elim (fun q => by rw [q]; exact (z84.elim (fun q => by rw [q]; exact z72) (fun q => lT (lT (lT z71.1 z7d.1) z7s.1) q))) (fun q => lT (lT (lT (lT (lT z71.1 z7d.1) z7s.1) z83.1) z8j.1) q))) (fun q => lT (lT (lT (lT (lT (lT (lT (lT z71.1 z7d.1) z7s.1) z83.1) z8j.1) z8y.1) z9d.1) z9o.1) q))) zar zal zas (by (try simp only [List.length_append, List.length_nil, cl0, cl1, cl2, cl3]); omega) (by (try simp only [List.length_append, List.length_nil, cl0, cl1, cl2, cl3]); omega) (capN_le (by (try simp only [List.length_append, List.length_nil, cl0, cl1, cl2, cl3]); omega)) (Jvm.Q9.lit_ne zan (lT (lT Z0 (z6r.1)) (za4.elim (fun q => by rw [q]; exact (z8z.elim (fun q => by rw [q]; exact (z84.elim (fun q => by rw [q]; exact z72) (fun q => lT (lT (lT z71.1 z7d.1) z7s.1) q))) (fun q => lT (lT (lT (lT (lT z71.1 z7d.1) z7s.1) z83.1) z8j.1) q))) (fun q => lT (lT (lT (lT (lT (lT (lT (lT z71.1 z7d.1) z7s.1) z83.1) z8j.1) z8y.1) z9d.1) z9o.1) q))) (Jvm.Q9.nl_step za7 zak za5.2.2.2.2.lt)) (Jvm.Q9.lit_ne zan (lT (lT Z0 (zq.1)) (Nat.le_of_eq z6k.symm)) (Jvm.Q9.nl_step (Jvm.Q9.nl_step (Jvm.Q9.nl_step (Jvm.Q9.nl_step (Jvm.Q9.nl_new zk.ltL (lT (Nat.le_refl _) (Nat.le_of_eq z6k.symm))) z7e (lL z6n.lt (z71.1))) z8k (lL z6n.lt (lT (lT (lT z71.1 z7d.1) z7s.1) z83.1))) z9p (lL z6n.lt (lT (lT (lT (lT (lT (lT z71.1 z7d.1) z7s.1) z83.1) z8j.1) z8y.1) z9d.1))) zak (lL z6n.lt (lT (lT (lT (lT (lT (lT (lT (lT z71.1 z7d.1) z7s.1) z83.1) z8j.1) z8y.1) z9d.1) z9o.1) za3.1)))) (nL (lL z6n.lt (za4.elim (fun q => by rw [q]; exact (z8z.elim (fun q => by rw [q]; exact (z84.elim (fun q => by rw [q]; exact z72) (fun q => lT (lT (lT z71.1 z7d.1) z7s.1) q))) (fun q => lT (lT (lT (lT (lT z71.1 z7d.1) z7s.1) z83.1) z8j.1) q))) (fun q => lT (lT (lT (lT (lT (lT (lT (lT z71.1 z7d.1) z7s.1) z83.1) z8j.1) z8y.1) z9d.1) z9o.1) q)))) (Jvm.Q9.lit_ne zam (lT (lT Z0 (z6r.1)) (za4.elim (fun q => by rw [q]; exact (z8z.elim (fun q => by rw [q]; exact (z84.elim (fun q => by rw [q]; exact z72) (fun q => lT (lT (lT z71.1 z7d.1) z7s.1) q))) (fun q => lT (lT (lT (lT (lT z71.1 z7d.1) z7s.1) z83.1) z8j.1) q))) (fun q => lT (lT (lT (lT (lT (lT (lT (lT z71.1 z7d.1) z7s.1) z83.1) z8j.1) z8y.1) z9d.1) z9o.1) q))) (Jvm.Q9.nl_step za7 zak za5.2.2.2.2.lt)) G) hZ (wI hw 73 rfl) (wI hw 52 rfl) (by decide) (by decide)) (fun _ _ ⟨_, _, _, q, _, _⟩ => q) (allS (Jvm.Q9.nl_step (Jvm.Q9.nl_step (Jvm.Q9.nl_step (Jvm.Q9.nl_step (Jvm.Q9.nl_new zk.ltL (lT (Nat.le_refl _) (Nat.le_of_eq z6k.symm))) z7e (lL z6n.lt (z71.1))) z8k (lL z6n.lt (lT (lT (lT z71.1 z7d.1) z7s.1) z83.1))) z9p (lL z6n.lt (lT (lT (lT (lT (lT (lT z71.1 z7d.1) z7s.1) z83.1) z8j.1) z8y.1) z9d.1))) zak (lL z6n.lt (lT (lT (lT (lT (lT (lT (lT (lT z71.1 z7d.1) z7s.1) z83.1) z8j.1) z8y.1) z9d.1) z9o.1) za3.1))) (allS (Jvm.Q9.nl_step za7 zak za5.2.2.2.2.lt) all0)) rfl pd__28Ljava_2flang_2fString_3b_29Ljava_2flang_2fStringBuilder_3b rfl (Nat.le_of_eq rfl) (hb hby e13_55) (by decide) (by decide) ?_
      intro zat zau zav zaw zax
      obtain ⟨t_1117, k_1118, rfl, zay, zaz, zb0⟩ := zax
      have zb1 : Keep h0 zau [] := zao.trans zay (allS (Or.inr (lT (zq.1) (Nat.le_of_eq z6k.symm))) (allS (Or.inr (lT (z6r.1) (za4.elim (fun q => by rw [q]; exact (z8z.elim (fun q => by rw [q]; exact (z84.elim (fun q => by rw [q]; exact z72) (fun q => lT (lT (lT z71.1 z7d.1) z7s.1) q))) (fun q => lT (lT (lT (lT (lT z71.1 z7d.1) z7s.1) z83.1) z8j.1) q))) (fun q => lT (lT (lT (lT (lT (lT (lT (lT z71.1 z7d.1) z7s.1) z83.1) z8j.1) z8y.1) z9d.1) z9o.1) q)))) all0))
      have zb2 : t_1117 ∉ zah := zaz.elim (fun q => by rw [q]; exact (Jvm.Q9.nl_step za7 zak za5.2.2.2.2.lt)) (fun q => Jvm.Q9.nl_new zai.ltL (lT (Nat.le_refl _) q))
      obtain ⟨zb3, zb4⟩ : ∃ q : Nat, q = (capN za8 ((((((([] : List Int32) ++ (Jvm.Q9.cod "the answer ")) ++ ys) ++ (Jvm.Q9.cod " after ")) ++ (dec tt)) ++ (Jvm.Q9.cod " results of ")).length + (Jvm.Q9.cod "get_weather").length)) := ⟨_, rfl⟩
      have zb5 : Bld Z zau z6j t_1117 k_1118 ((((((([] : List Int32) ++ (Jvm.Q9.cod "the answer ")) ++ ys) ++ (Jvm.Q9.cod " after ")) ++ (dec tt)) ++ (Jvm.Q9.cod " results of ")) ++ (Jvm.Q9.cod "get_weather")) zb3 := by rw [zb4]; exact zb0
      have shcp1125 := capN_spec za8 ((((((([] : List Int32) ++ (Jvm.Q9.cod "the answer ")) ++ ys) ++ (Jvm.Q9.cod " after ")) ++ (dec tt)) ++ (Jvm.Q9.cod " results of ")).length + (Jvm.Q9.cod "get_weather").length)
      rw [← zb4] at shcp1125
      simp only [List.length_append, List.length_nil, cl0, cl1, cl2, cl3] at shcp1125
      have zb6 : Exa Z zau z6j "java/lang/StringBuilder" := (zaq.keep zay)
      have zb7 : Old Z n0 zau := (zas.keep zay (allS (lT (lT Z0 (zq.1)) (Nat.le_of_eq z6k.symm)) (allS (lT (lT Z0 (z6r.1)) (za4.elim (fun q => by rw [q]; exact (z8z.elim (fun q => by rw [q]; exact (z84.elim (fun q => by rw [q]; exact z72) (fun q => lT (lT (lT z71.1 z7d.1) z7s.1) q))) (fun q => lT (lT (lT (lT (lT z71.1 z7d.1) z7s.1) z83.1) z8j.1) q))) (fun q => lT (lT (lT (lT (lT (lT (lT (lT z71.1 z7d.1) z7s.1) z83.1) z8j.1) z8y.1) z9d.1) z9o.1) q))) all0)))
      refine Jvm.Q9.Aim.callV (argsL := []) (rest := [(.int 1), (.ref z2), (.ref z2)]) zaw hx hZ hml hown (wI hw 164 rfl) (wI hw 165 rfl) (fun vm0 hZ => notFace_of_selects (args := #[]) (mvT (s := s.setVm vm0) hZ (wI hw 167 rfl))) (wI hw 167 rfl) (wI hw 166 rfl) (by decide) zb6 (fun vm0 hZ => Jvm.Y9.Con.back (s := s.setVm vm0) (W := 3) (own_ts l Z a0 hw z6j t_1117 k_1118 ((((((([] : List Int32) ++ (Jvm.Q9.cod "the answer ")) ++ ys) ++ (Jvm.Q9.cod " after ")) ++ (dec tt)) ++ (Jvm.Q9.cod " results of ")) ++ (Jvm.Q9.cod "get_weather")) zb3 zau n0 (lT Z0 (zb1.1)) zb5 zb7 (by (try simp only [List.length_append, List.length_nil, cl0, cl1, cl2, cl3]); omega) (by (try simp only [List.length_append, List.length_nil, cl0, cl1, cl2, cl3]); omega) (app_lo (app_lo (app_lo (app_lo (app_lo (app_lo (fun _ q => nomatch q) (by decide +kernel)) F0.2.2.2.2.1) (by decide +kernel)) (dec_in tt)) (by decide +kernel)) (by decide +kernel)) G) hZ (wI hw 168 rfl) (wI hw 52 rfl) (by decide) (by decide)) (fun _ _ ⟨_, _, _, _, q, _, _, _⟩ => q) all0 rfl pd__28_29Ljava_2flang_2fString_3b rfl (Nat.le_of_eq rfl) (hb hby e13_58) (by decide) (by decide) ?_
      intro zb8 zb9 zba zbb zbc
      obtain ⟨z_1136, t_1137, k_1138, rfl, zbd, zbe, zbf, zbg⟩ := zbc
      have zbh : Keep h0 zb9 [] := zb1.trans zbd all0
      have zbi : Exa Z zb9 z2 "com/example/etsin/etsin/BenchTurn$Outcome" := ((((((((((((((z6.keep zl).keep z6q).keep z71).keep z7d).keep z7s).keep z83).keep z8j).keep z8y).keep z9d).keep z9o).keep za3).keep zaj).keep zay).keep zbd)
      have zbj : Fld Z zb9 z2 "com/example/etsin/etsin/BenchTurn$Outcome" "correct" "Z" (.int 0) := ((((((((((((((zb.keep zl nin0).keep z6q nin0).keep z71 (ninS (nL (lL (lL z6.lt (zl.1)) (Nat.le_of_eq z6k.symm))) nin0)).keep z7d nin0).keep z7s (ninS (nL (lL (lL z6.lt (zl.1)) (Nat.le_of_eq z6k.symm))) (ninS (nL (lL (lL z6.lt (lT zl.1 z6q.1)) z72)) nin0))).keep z83 (ninS (nL (lL (lL z6.lt (zl.1)) (Nat.le_of_eq z6k.symm))) (ninS (nL (lL (lL z6.lt (lT zl.1 z6q.1)) z72)) nin0))).keep z8j nin0).keep z8y (ninS (nL (lL (lL z6.lt (zl.1)) (Nat.le_of_eq z6k.symm))) (ninS (nL (lL (lL z6.lt (lT zl.1 z6q.1)) (z84.elim (fun q => by rw [q]; exact z72) (fun q => lT (lT (lT z71.1 z7d.1) z7s.1) q)))) nin0))).keep z9d (ninS (nL (lL (lL z6.lt (zl.1)) (Nat.le_of_eq z6k.symm))) (ninS (nL (lL (lL z6.lt (lT zl.1 z6q.1)) (z8z.elim (fun q => by rw [q]; exact (z84.elim (fun q => by rw [q]; exact z72) (fun q => lT (lT (lT z71.1 z7d.1) z7s.1) q))) (fun q => lT (lT (lT (lT (lT z71.1 z7d.1) z7s.1) z83.1) z8j.1) q)))) nin0))).keep z9o nin0).keep za3 (ninS (nL (lL (lL z6.lt (zl.1)) (Nat.le_of_eq z6k.symm))) (ninS (nL (lL (lL z6.lt (lT zl.1 z6q.1)) (z8z.elim (fun q => by rw [q]; exact (z84.elim (fun q => by rw [q]; exact z72) (fun q => lT (lT (lT z71.1 z7d.1) z7s.1) q))) (fun q => lT (lT (lT (lT (lT z71.1 z7d.1) z7s.1) z83.1) z8j.1) q)))) nin0))).keep zaj nin0).keep zay (ninS (nL (lL (lL z6.lt (zl.1)) (Nat.le_of_eq z6k.symm))) (ninS (nL (lL (lL z6.lt (lT zl.1 z6q.1)) (za4.elim (fun q => by rw [q]; exact (z8z.elim (fun q => by rw [q]; exact (z84.elim (fun q => by rw [q]; exact z72) (fun q => lT (lT (lT z71.1 z7d.1) z7s.1) q))) (fun q => lT (lT (lT (lT (lT z71.1 z7d.1) z7s.1) z83.1) z8j.1) q))) (fun q => lT (lT (lT (lT (lT (lT (lT (lT z71.1 z7d.1) z7s.1) z83.1) z8j.1) z8y.1) z9d.1) z9o.1) q)))) nin0))).keep zbd nin0)
      have zbk : Fld Z zb9 z2 "com/example/etsin/etsin/BenchTurn$Outcome" "description" "Ljava/lang/String;" .null := ((((((((((((((zc.keep zl nin0).keep z6q nin0).keep z71 (ninS (nL (lL (lL z6.lt (zl.1)) (Nat.le_of_eq z6k.symm))) nin0)).keep z7d nin0).keep z7s (ninS (nL (lL (lL z6.lt (zl.1)) (Nat.le_of_eq z6k.symm))) (ninS (nL (lL (lL z6.lt (lT zl.1 z6q.1)) z72)) nin0))).keep z83 (ninS (nL (lL (lL z6.lt (zl.1)) (Nat.le_of_eq z6k.symm))) (ninS (nL (lL (lL z6.lt (lT zl.1 z6q.1)) z72)) nin0))).keep z8j nin0).keep z8y (ninS (nL (lL (lL z6.lt (zl.1)) (Nat.le_of_eq z6k.symm))) (ninS (nL (lL (lL z6.lt (lT zl.1 z6q.1)) (z84.elim (fun q => by rw [q]; exact z72) (fun q => lT (lT (lT z71.1 z7d.1) z7s.1) q)))) nin0))).keep z9d (ninS (nL (lL (lL z6.lt (zl.1)) (Nat.le_of_eq z6k.symm))) (ninS (nL (lL (lL z6.lt (lT zl.1 z6q.1)) (z8z.elim (fun q => by rw [q]; exact (z84.elim (fun q => by rw [q]; exact z72) (fun q => lT (lT (lT z71.1 z7d.1) z7s.1) q))) (fun q => lT (lT (lT (lT (lT z71.1 z7d.1) z7s.1) z83.1) z8j.1) q)))) nin0))).keep z9o nin0).keep za3 (ninS (nL (lL (lL z6.lt (zl.1)) (Nat.le_of_eq z6k.symm))) (ninS (nL (lL (lL z6.lt (lT zl.1 z6q.1)) (z8z.elim (fun q => by rw [q]; exact (z84.elim (fun q => by rw [q]; exact z72) (fun q => lT (lT (lT z71.1 z7d.1) z7s.1) q))) (fun q => lT (lT (lT (lT (lT z71.1 z7d.1) z7s.1) z83.1) z8j.1) q)))) nin0))).keep zaj nin0).keep zay (ninS (nL (lL (lL z6.lt (zl.1)) (Nat.le_of_eq z6k.symm))) (ninS (nL (lL (lL z6.lt (lT zl.1 z6q.1)) (za4.elim (fun q => by rw [q]; exact (z8z.elim (fun q => by rw [q]; exact (z84.elim (fun q => by rw [q]; exact z72) (fun q => lT (lT (lT z71.1 z7d.1) z7s.1) q))) (fun q => lT (lT (lT (lT (lT z71.1 z7d.1) z7s.1) z83.1) z8j.1) q))) (fun q => lT (lT (lT (lT (lT (lT (lT (lT z71.1 z7d.1) z7s.1) z83.1) z8j.1) z8y.1) z9d.1) z9o.1) q)))) nin0))).keep zbd nin0)
      refine Jvm.Q9.Aim.callC (argsL := [(.int 1), (.ref z_1136)]) (rest := [(.ref z2)]) zbb hx hZ hml hown rfl (wI hw 199 rfl) (wI hw 200 rfl) (wI hw 201 rfl) (by decide) (fun vm0 hZ => Jvm.Y9.Con.back (s := s.setVm vm0) (W := 1) (own_oi1 l Z a0 hw z2 z_1136 (.int 0) (.null) zb9 n0 (lT Z0 (zbh.1)) (lT Z0 (Nat.le_of_eq z3.symm)) zbi zbj zbk) hZ (wI hw 201 rfl) (wI hw 33 rfl) (by decide) (by decide)) (fun _ _ ⟨_, q, _, _, _⟩ => q) (allS (Jvm.Q9.nl_step (Jvm.Q9.nl_step (Jvm.Q9.nl_step (Jvm.Q9.nl_step (Jvm.Q9.nl_step (Jvm.Q9.nl_new P0.ltL (lT (Nat.le_refl _) (Nat.le_of_eq z3.symm))) zm z6.lt) z7e (lL z6.lt (lT (lT zl.1 z6q.1) z71.1))) z8k (lL z6.lt (lT (lT (lT (lT (lT zl.1 z6q.1) z71.1) z7d.1) z7s.1) z83.1))) z9p (lL z6.lt (lT (lT (lT (lT (lT (lT (lT (lT zl.1 z6q.1) z71.1) z7d.1) z7s.1) z83.1) z8j.1) z8y.1) z9d.1))) zak (lL z6.lt (lT (lT (lT (lT (lT (lT (lT (lT (lT (lT zl.1 z6q.1) z71.1) z7d.1) z7s.1) z83.1) z8j.1) z8y.1) z9d.1) z9o.1) za3.1))) all0) rfl pd__28ZLjava_2flang_2fString_3b_29V rfl (Nat.le_of_eq rfl) (hb hby e13_61) (by decide) (by decide) ?_
      intro zbl zbm zbn zbo zbp
      obtain ⟨rfl, zbq, zbr, zbs, zbt⟩ := zbp
      have zbu : Keep h0 zbm [] := zbh.trans zbq (allS (Or.inr (lT (Nat.le_refl _) (Nat.le_of_eq z3.symm))) all0)
      have zbv : Str Z zbm z_1136 t_1137 k_1138 ((((((([] : List Int32) ++ (Jvm.Q9.cod "the answer ")) ++ ys) ++ (Jvm.Q9.cod " after ")) ++ (dec tt)) ++ (Jvm.Q9.cod " results of ")) ++ (Jvm.Q9.cod "get_weather")) := (zbg.keep zbq (ninS (Ne.symm (nL (lL (lL z6.lt (lT (lT (lT (lT (lT (lT (lT (lT (lT (lT (lT (lT zl.1 z6q.1) z71.1) z7d.1) z7s.1) z83.1) z8j.1) z8y.1) z9d.1) z9o.1) za3.1) zaj.1) zay.1)) zbe))) nin0) (ninS (Ne.symm (nL (lL (lL z6.lt (lT (lT (lT (lT (lT (lT (lT (lT (lT (lT (lT (lT zl.1 z6q.1) z71.1) z7d.1) z7s.1) z83.1) z8j.1) z8y.1) z9d.1) z9o.1) za3.1) zaj.1) zay.1)) zbf))) nin0))
      exact Jvm.Q9.Aim.retA zbo hx hlk hret rfl rfl (hb hby e13_64) (by decide) (by decide) zap ⟨z2, z_1136, t_1137, k_1138, rfl, zbu, (lT (Nat.le_refl _) (Nat.le_of_eq z3.symm)), (lT (zb1.1) zbe), (lT (zb1.1) zbf), zbr, (by rw [cor, if_pos ⟨by_contra_if z10, z6g⟩]; exact zbs), zbt, zbv⟩
    · skip
      have H := zy.here
      refine Jvm.Q9.Aim.of (T' := zv) (g' := (mkF m 23 #[.val (.ref y), .val (.int tt)] [(.int 0), (.ref z2), (.ref z2)])) (fun tgt kt => ?_) ?_
      · refine XS.icmpYes H hx rfl (pc0 := 15) (pc' := 22) rfl (hb hby e13_15) rfl (feq z6g).2 (by decide) (by decide) ?_
        refine XS.iconst H hx rfl (hb hby e13_22) ?_
        exact kt
      refine Jvm.Q9.Aim.newO zy hx hZ hown (wI hw 50 rfl) (wI hw 51 rfl) (wI hw 52 rfl) (hb hby e13_23) (by decide) (by decide) ?_
      intro zbw zbx zby zbz zc0 zc1 zc2 zc3 zc4
      have zc5 : Keep zf zbx [] := (Keep.refl _ _).ext zc1
      have zc6 : Keep h0 zbx [] := zq.trans zc5 all0
      have zc7 : Fld Z zbx zby "java/lang/AbstractStringBuilder" "value" "[B" .null := zc3 (Or.inl (wI hw 65 rfl)) (ty := (.array .byte)) (by decide)
      have zc8 : Fld Z zbx zby "java/lang/AbstractStringBuilder" "coder" "B" (.int 0) := zc3 (Or.inl (wI hw 67 rfl)) (ty := .byte) (by decide)
      have zc9 : Fld Z zbx zby "java/lang/AbstractStringBuilder" "count" "I" (.int 0) := zc3 (Or.inl (wI hw 90 rfl)) (ty := .int) (by decide)
      have H := zc0.here
      refine Jvm.Q9.Aim.of (T' := zbw) (g' := (mkF m 27 #[.val (.ref y), .val (.int tt)] [(.ref zby), (.ref zby), (.int 0), (.ref z2), (.ref z2)])) (fun tgt kt => ?_) ?_
      · refine XS.dup H hx rfl (hb hby e13_26) rfl rfl ?_
        exact kt
      have zca : Old Z n0 zbx := (zu.keep zc5 all0)
      refine Jvm.Q9.Aim.callC (argsL := []) (rest := [(.ref zby), (.int 0), (.ref z2), (.ref z2)]) zc0 hx hZ hml hown rfl (wI hw 53 rfl) (wI hw 54 rfl) (wI hw 55 rfl) (by decide) (fun vm0 hZ => Jvm.Y9.Con.back (s := s.setVm vm0) (W := 4) (own_sbi l Z a0 hw zby (.null) (.int 0) zbx n0 (lT Z0 (zc6.1)) (lT (lT Z0 (zq.1)) (Nat.le_of_eq zbz.symm)) zc2 zc7 zc8 zc9 zca G) hZ (wI hw 55 rfl) (wI hw 52 rfl) (by decide) (by decide)) (fun _ _ ⟨_, _, _, q, _, _⟩ => q) (allS (Jvm.Q9.nl_new zk.ltL (lT (Nat.le_refl _) (Nat.le_of_eq zbz.symm))) all0) rfl pd__28_29V rfl (Nat.le_of_eq rfl) (hb hby e13_27) (by decide) (by decide) ?_
      intro zcb zcc zcd zce zcf
      obtain ⟨t_1182, kb_1183, rfl, zcg, zch, zci⟩ := zcf
      have zcj : Keep h0 zcc [] := zc6.trans zcg (allS (Or.inr (lT (zq.1) (Nat.le_of_eq zbz.symm))) all0)
      have zck : Old Z n0 zcc := (zca.keep zcg (allS (lT (lT Z0 (zq.1)) (Nat.le_of_eq zbz.symm)) all0))
      refine Jvm.Q9.Aim.ldcL zce hx hZ hown (wI hw 68 rfl) (own_atoms hw) (LC := LC) (List.mem_of_getElem? (i := 1) rfl) (by decide +kernel) (by decide +kernel) (GL _ (List.mem_of_getElem? (i := 1) rfl)) zck (fun b cl q => zcj.2.1 b cl (by rw [← hs0]; exact q) nin0) (hb hby e13_30) (fun _ => trivial) (cap := 44) (by decide +kernel) (by decide) (by decide) (by decide) ?_
      intro zcl zcm zcn zco zcp zcq zcr zcs zct zcu zcv zcw
      have zcx : Keep h0 zcm [] := zcj.trans zcs all0
      have zcy : Jvm.Q9.Grow Lc0 zcq h0.size := zr.trans zct (zcj.1)
      have zcz : Exa Z zcm zby "java/lang/StringBuilder" := ((zc2.keep zcg).keep zcs)
      have zd0 : Bld Z zcm zby t_1182 kb_1183 ([] : List Int32) 16 := (zci.keep zcs nin0 nin0)
      have zd1 : Old Z n0 zcm := (zck.keep zcs all0)
      refine Jvm.Q9.Aim.callV (argsL := [(.ref zcn)]) (rest := [(.int 0), (.ref z2), (.ref z2)]) zcr hx hZ hml hown (wI hw 69 rfl) (wI hw 70 rfl) (fun vm0 hZ => notFace_of_selects (args := #[]) (mvT (s := s.setVm vm0) hZ (wI hw 72 rfl))) (wI hw 72 rfl) (wI hw 71 rfl) (by decide) zcz (fun vm0 hZ => Jvm.Y9.Con.back (s := s.setVm vm0) (W := 3) (own_app l Z a0 hw zby t_1182 kb_1183 ([] : List Int32) 16 zcn zco zcp (Jvm.Q9.cod "the answer ") zcm n0 (lT Z0 (zcx.1)) (lT (lT Z0 (zq.1)) (Nat.le_of_eq zbz.symm)) (lT (lT Z0 (zc6.1)) zch) zd0 zcu zd1 (by (try simp only [List.length_append, List.length_nil, cl0, cl1, cl2, cl3]); omega) (by (try simp only [List.length_append, List.length_nil, cl0, cl1, cl2, cl3]); omega) (Jvm.Q9.lit_ne zcw (lT (lT Z0 (zc6.1)) zch) (Jvm.Q9.nl_step (Jvm.Q9.nl_new zk.ltL (lT (zc5.1) zch)) zct zci.2.2.2.2.lt)) (Jvm.Q9.lit_ne zcw (lT (lT Z0 (zq.1)) (Nat.le_of_eq zbz.symm)) (Jvm.Q9.nl_step (Jvm.Q9.nl_new zk.ltL (lT (Nat.le_refl _) (Nat.le_of_eq zbz.symm))) zct (lL zc2.lt (zcg.1)))) (nL (lL zc2.lt zch)) (Jvm.Q9.lit_ne zcv (lT (lT Z0 (zc6.1)) zch) (Jvm.Q9.nl_step (Jvm.Q9.nl_new zk.ltL (lT (zc5.1) zch)) zct zci.2.2.2.2.lt)) G) hZ (wI hw 73 rfl) (wI hw 52 rfl) (by decide) (by decide)) (fun _ _ ⟨_, q, _⟩ => q) (allS (Jvm.Q9.nl_step (Jvm.Q9.nl_new zk.ltL (lT (Nat.le_refl _) (Nat.le_of_eq zbz.symm))) zct (lL zc2.lt (zcg.1))) (allS (Jvm.Q9.nl_step (Jvm.Q9.nl_new zk.ltL (lT (zc5.1) zch)) zct zci.2.2.2.2.lt) all0)) rfl pd__28Ljava_2flang_2fString_3b_29Ljava_2flang_2fStringBuilder_3b rfl (Nat.le_of_eq rfl) (hb hby e13_32) (by decide) (by decide) ?_
      intro zd2 zd3 zd4 zd5 zd6
      obtain ⟨rfl, zd7, zd8⟩ := zd6
      have zd9 : Keep h0 zd3 [] := zcx.trans zd7 (allS (Or.inr (lT (zq.1) (Nat.le_of_eq zbz.symm))) (allS (Or.inr (lT (zc6.1) zch)) all0))
      have H := zd5.here
      refine Jvm.Q9.Aim.of (T' := zd2) (g' := (mkF m 36 #[.val (.ref y), .val (.int tt)] [(.ref y), (.ref zby), (.int 0), (.ref z2), (.ref z2)])) (fun tgt kt => ?_) ?_
      · refine XS.aloadN H hx rfl (hb hby e13_35) rfl rfl ?_
        exact kt
      have zda : Exa Z zd3 zby "java/lang/StringBuilder" := (zcz.keep zd7)
      have zdb : Str Z zd3 y u ku ys := ((((zt.keep zc5 nin0 nin0).keep zcg (ninS (nL (lL (lL F0.lt (zq.1)) (Nat.le_of_eq zbz.symm))) nin0) (ninS (nL (lL (lL F0.ltb (zq.1)) (Nat.le_of_eq zbz.symm))) nin0)).keep zcs nin0 nin0).keep zd7 (ninS (nL (lL (lL F0.lt (zq.1)) (Nat.le_of_eq zbz.symm))) (ninS (nL (lL (lL F0.lt (zc6.1)) zch)) nin0)) (ninS (nL (lL (lL F0.ltb (zq.1)) (Nat.le_of_eq zbz.symm))) (ninS (nL (lL (lL F0.ltb (zc6.1)) zch)) nin0)))
      have zdc : Old Z n0 zd3 := (zd1.keep zd7 (allS (lT (lT Z0 (zq.1)) (Nat.le_of_eq zbz.symm)) (allS (lT (lT Z0 (zc6.1)) zch) all0)))
      refine Jvm.Q9.Aim.callV (argsL := [(.ref y)]) (rest := [(.int 0), (.ref z2), (.ref z2)]) zd5 hx hZ hml hown (wI hw 69 rfl) (wI hw 70 rfl) (fun vm0 hZ => notFace_of_selects (args := #[]) (mvT (s := s.setVm vm0) hZ (wI hw 72 rfl))) (wI hw 72 rfl) (wI hw 71 rfl) (by decide) zda (fun vm0 hZ => Jvm.Y9.Con.back (s := s.setVm vm0) (W := 3) (own_appG l Z a0 hw zby t_1182 kb_1183 (([] : List Int32) ++ (Jvm.Q9.cod "the answer ")) 16 y u ku ys zd3 n0 (lT Z0 (zd9.1)) (lT (lT Z0 (zq.1)) (Nat.le_of_eq zbz.symm)) (lT (lT Z0 (zc6.1)) zch) zd8 zdb zdc (by (try simp only [List.length_append, List.length_nil, cl0, cl1, cl2, cl3]); omega) (by (try simp only [List.length_append, List.length_nil, cl0, cl1, cl2, cl3]); omega) (capN_le (by (try simp only [List.length_append, List.length_nil, cl0, cl1, cl2, cl3]); omega)) (nL (lL (lL F0.ltb (zc6.1)) zch)) (nL (lL (lL F0.ltb (zq.1)) (Nat.le_of_eq zbz.symm))) (nL (lL zc2.lt zch)) (nL (lL (lL F0.lt (zc6.1)) zch)) G) hZ (wI hw 73 rfl) (wI hw 52 rfl) (by decide) (by decide)) (fun _ _ ⟨_, _, _, q, _, _⟩ => q) (allS (Jvm.Q9.nl_step (Jvm.Q9.nl_new zk.ltL (lT (Nat.le_refl _) (Nat.le_of_eq zbz.symm))) zct (lL zc2.lt (zcg.1))) (allS (Jvm.Q9.nl_step (Jvm.Q9.nl_new zk.ltL (lT (zc5.1) zch)) zct zci.2.2.2.2.lt) all0)) rfl pd__28Ljava_2flang_2fString_3b_29Ljava_2flang_2fStringBuilder_3b rfl (Nat.le_of_eq rfl) (hb hby e13_36) (by decide) (by decide) ?_
      intro zdd zde zdf zdg zdh
      obtain ⟨t_1226, k_1227, rfl, zdi, zdj, zdk⟩ := zdh
      have zdl : Keep h0 zde [] := zd9.trans zdi (allS (Or.inr (lT (zq.1) (Nat.le_of_eq zbz.symm))) (allS (Or.inr (lT (zc6.1) zch)) all0))
      have zdm : t_1226 ∉ zcq := zdj.elim (fun q => by rw [q]; exact (Jvm.Q9.nl_step (Jvm.Q9.nl_new zk.ltL (lT (zc5.1) zch)) zct zci.2.2.2.2.lt)) (fun q => Jvm.Q9.nl_new zcr.ltL (lT (zd7.1) q))
      obtain ⟨zdn, zdo⟩ : ∃ q : Nat, q = (capN 16 ((([] : List Int32) ++ (Jvm.Q9.cod "the answer ")).length + ys.length)) := ⟨_, rfl⟩
      have zdp : Bld Z zde zby t_1226 k_1227 ((([] : List Int32) ++ (Jvm.Q9.cod "the answer ")) ++ ys) zdn := by rw [zdo]; exact zdk
      have shcp1234 := capN_spec 16 ((([] : List Int32) ++ (Jvm.Q9.cod "the answer ")).length + ys.length)
      rw [← zdo] at shcp1234
      simp only [List.length_append, List.length_nil, cl0, cl1, cl2, cl3] at shcp1234
      have zdq : Old Z n0 zde := (zdc.keep zdi (allS (lT (lT Z0 (zq.1)) (Nat.le_of_eq zbz.symm)) (allS (lT (lT Z0 (zc6.1)) zch) all0)))
      refine Jvm.Q9.Aim.ldcL zdg hx hZ hown (wI hw 139 rfl) (own_atoms hw) (LC := LC) (List.mem_of_getElem? (i := 2) rfl) (by decide +kernel) (by decide +kernel) (GL _ (List.mem_of_getElem? (i := 2) rfl)) zdq (fun b cl q => zdl.2.1 b cl (by rw [← hs0]; exact q) nin0) (hb hby e13_39) (fun _ => trivial) (cap := 28) (by decide +kernel) (by decide) (by decide) (by decide) ?_
      intro zdr zds zdt zdu zdv zdw zdx zdy zdz ze0 ze1 ze2
      have ze3 : Keep h0 zds [] := zdl.trans zdy all0
      have ze4 : Jvm.Q9.Grow Lc0 zdw h0.size := zcy.trans zdz (zdl.1)
      have ze5 : Exa Z zds zby "java/lang/StringBuilder" := ((zda.keep zdi).keep zdy)
      have ze6 : Bld Z zds zby t_1226 k_1227 ((([] : List Int32) ++ (Jvm.Q9.cod "the answer ")) ++ ys) zdn := (zdp.keep zdy nin0 nin0)
      have ze7 : Old Z n0 zds := (zdq.keep zdy all0)
      refine Jvm.Q9.Aim.callV (argsL := [(.ref zdt)]) (rest := [(.int 0), (.ref z2), (.ref z2)]) zdx hx hZ hml hown (wI hw 69 rfl) (wI hw 70 rfl) (fun vm0 hZ => notFace_of_selects (args := #[]) (mvT (s := s.setVm vm0) hZ (wI hw 72 rfl))) (wI hw 72 rfl) (wI hw 71 rfl) (by decide) ze5 (fun vm0 hZ => Jvm.Y9.Con.back (s := s.setVm vm0) (W := 3) (own_appG l Z a0 hw zby t_1226 k_1227 ((([] : List Int32) ++ (Jvm.Q9.cod "the answer ")) ++ ys) zdn zdt zdu zdv (Jvm.Q9.cod " after ") zds n0 (lT Z0 (ze3.1)) (lT (lT Z0 (zq.1)) (Nat.le_of_eq zbz.symm)) (lT (lT Z0 (zc6.1)) (zdj.elim (fun q => by rw [q]; exact zch) (fun q => lT (lT (lT zcg.1 zcs.1) zd7.1) q))) ze6 ze0 ze7 (by (try simp only [List.length_append, List.length_nil, cl0, cl1, cl2, cl3]); omega) (by (try simp only [List.length_append, List.length_nil, cl0, cl1, cl2, cl3]); omega) (capN_le (by (try simp only [List.length_append, List.length_nil, cl0, cl1, cl2, cl3]); omega)) (Jvm.Q9.lit_ne ze2 (lT (lT Z0 (zc6.1)) (zdj.elim (fun q => by rw [q]; exact zch) (fun q => lT (lT (lT zcg.1 zcs.1) zd7.1) q))) (Jvm.Q9.nl_step zdm zdz zdk.2.2.2.2.lt)) (Jvm.Q9.lit_ne ze2 (lT (lT Z0 (zq.1)) (Nat.le_of_eq zbz.symm)) (Jvm.Q9.nl_step (Jvm.Q9.nl_step (Jvm.Q9.nl_new zk.ltL (lT (Nat.le_refl _) (Nat.le_of_eq zbz.symm))) zct (lL zc2.lt (zcg.1))) zdz (lL zc2.lt (lT (lT (lT zcg.1 zcs.1) zd7.1) zdi.1)))) (nL (lL zc2.lt (zdj.elim (fun q => by rw [q]; exact zch) (fun q => lT (lT (lT zcg.1 zcs.1) zd7.1) q)))) (Jvm.Q9.lit_ne ze1 (lT (lT Z0 (zc6.1)) (zdj.elim (fun q => by rw [q]; exact zch) (fun q => lT (lT (lT zcg.1 zcs.1) zd7.1) q))) (Jvm.Q9.nl_step zdm zdz zdk.2.2.2.2.lt)) G) hZ (wI hw 73 rfl) (wI hw 52 rfl) (by decide) (by decide)) (fun _ _ ⟨_, _, _, q, _, _⟩ => q) (allS (Jvm.Q9.nl_step (Jvm.Q9.nl_step (Jvm.Q9.nl_new zk.ltL (lT (Nat.le_refl _) (Nat.le_of_eq zbz.symm))) zct (lL zc2.lt (zcg.1))) zdz (lL zc2.lt (lT (lT (lT zcg.1 zcs.1) zd7.1) zdi.1))) (allS (Jvm.Q9.nl_step zdm zdz zdk.2.2.2.2.lt) all0)) rfl pd__28Ljava_2flang_2fString_3b_29Ljava_2flang_2fStringBuilder_3b rfl (Nat.le_of_eq rfl) (hb hby e13_41) (by decide) (by decide) ?_
      intro ze8 ze9 zea zeb zec
      obtain ⟨t_1261, k_1262, rfl, zed, zee, zef⟩ := zec
      have zeg : Keep h0 ze9 [] := ze3.trans zed (allS (Or.inr (lT (zq.1) (Nat.le_of_eq zbz.symm))) (allS (Or.inr (lT (zc6.1) (zdj.elim (fun q => by rw [q]; exact zch) (fun q => lT (lT (lT zcg.1 zcs.1) zd7.1) q)))) all0))
      have zeh : t_1261 ∉ zdw := zee.elim (fun q => by rw [q]; exact (Jvm.Q9.nl_step zdm zdz zdk.2.2.2.2.lt)) (fun q => Jvm.Q9.nl_new zdx.ltL (lT (Nat.le_refl _) q))
      obtain ⟨zei, zej⟩ : ∃ q : Nat, q = (capN zdn (((([] : List Int32) ++ (Jvm.Q9.cod "the answer ")) ++ ys).length + (Jvm.Q9.cod " after ").length)) := ⟨_, rfl⟩
      have zek : Bld Z ze9 zby t_1261 k_1262 (((([] : List Int32) ++ (Jvm.Q9.cod "the answer ")) ++ ys) ++ (Jvm.Q9.cod " after ")) zei := by rw [zej]; exact zef
      have shcp1269 := capN_spec zdn (((([] : List Int32) ++ (Jvm.Q9.cod "the answer ")) ++ ys).length + (Jvm.Q9.cod " after ").length)
      rw [← zej] at shcp1269
      simp only [List.length_append, List.length_nil, cl0, cl1, cl2, cl3] at shcp1269
      have H := zeb.here
      refine Jvm.Q9.Aim.of (T' := ze8) (g' := (mkF m 45 #[.val (.ref y), .val (.int tt)] [(.int tt), (.ref zby), (.int 0), (.ref z2), (.ref z2)])) (fun tgt kt => ?_) ?_
      · refine XS.iloadN H hx rfl (hb hby e13_44) rfl ?_
        exact kt
      have zel : Exa Z ze9 zby "java/lang/StringBuilder" := (ze5.keep zed)
      have zem : Old Z n0 ze9 := (ze7.keep zed (allS (lT (lT Z0 (zq.1)) (Nat.le_of_eq zbz.symm)) (allS (lT (lT Z0 (zc6.1)) (zdj.elim (fun q => by rw [q]; exact zch) (fun q => lT (lT (lT zcg.1 zcs.1) zd7.1) q))) all0)))
      refine Jvm.Q9.Aim.callV (argsL := [(.int tt)]) (rest := [(.int 0), (.ref z2), (.ref z2)]) zeb hx hZ hml hown (wI hw 140 rfl) (wI hw 141 rfl) (fun vm0 hZ => notFace_of_selects (args := #[]) (mvT (s := s.setVm vm0) hZ (wI hw 143 rfl))) (wI hw 143 rfl) (wI hw 142 rfl) (by decide) zel (fun vm0 hZ => Jvm.Y9.Con.back (s := s.setVm vm0) (W := 3) (own_appI l Z a0 hw zby t_1261 k_1262 (((([] : List Int32) ++ (Jvm.Q9.cod "the answer ")) ++ ys) ++ (Jvm.Q9.cod " after ")) zei tt ze9 n0 (lT Z0 (zeg.1)) (lT (lT Z0 (zq.1)) (Nat.le_of_eq zbz.symm)) (lT (lT Z0 (zc6.1)) (zee.elim (fun q => by rw [q]; exact (zdj.elim (fun q => by rw [q]; exact zch) (fun q => lT (lT (lT zcg.1 zcs.1) zd7.1) q))) (fun q => lT (lT (lT (lT (lT zcg.1 zcs.1) zd7.1) zdi.1) zdy.1) q))) zek zem (by (try simp only [List.length_append, List.length_nil, cl0, cl1, cl2, cl3]); omega) (by (try simp only [List.length_append, List.length_nil, cl0, cl1, cl2, cl3]); omega) (nL (lL zc2.lt (zee.elim (fun q => by rw [q]; exact (zdj.elim (fun q => by rw [q]; exact zch) (fun q => lT (lT (lT zcg.1 zcs.1) zd7.1) q))) (fun q => lT (lT (lT (lT (lT zcg.1 zcs.1) zd7.1) zdi.1) zdy.1) q)))) G GD) hZ (wI hw 144 rfl) (wI hw 52 rfl) (by decide) (by decide)) (fun _ _ ⟨_, q, _⟩ => q) (allS (Jvm.Q9.nl_step (Jvm.Q9.nl_step (Jvm.Q9.nl_new zk.ltL (lT (Nat.le_refl _) (Nat.le_of_eq zbz.symm))) zct (lL zc2.lt (zcg.1))) zdz (lL zc2.lt (lT (lT (lT zcg.1 zcs.1) zd7.1) zdi.1))) (allS zeh all0)) rfl pd__28I_29Ljava_2flang_2fStringBuilder_3b rfl (Nat.le_of_eq rfl) (hb hby e13_45) (by decide) (by decide) ?_
      intro zen zeo zep zeq zer
      obtain ⟨rfl, zes, zet⟩ := zer
      have zeu : Keep h0 zeo [] := zeg.trans zes (allS (Or.inr (lT (zq.1) (Nat.le_of_eq zbz.symm))) (allS (Or.inr (lT (zc6.1) (zee.elim (fun q => by rw [q]; exact (zdj.elim (fun q => by rw [q]; exact zch) (fun q => lT (lT (lT zcg.1 zcs.1) zd7.1) q))) (fun q => lT (lT (lT (lT (lT zcg.1 zcs.1) zd7.1) zdi.1) zdy.1) q)))) all0))
      have zev : Old Z n0 zeo := (zem.keep zes (allS (lT (lT Z0 (zq.1)) (Nat.le_of_eq zbz.symm)) (allS (lT (lT Z0 (zc6.1)) (zee.elim (fun q => by rw [q]; exact (zdj.elim (fun q => by rw [q]; exact zch) (fun q => lT (lT (lT zcg.1 zcs.1) zd7.1) q))) (fun q => lT (lT (lT (lT (lT zcg.1 zcs.1) zd7.1) zdi.1) zdy.1) q))) all0)))
      refine Jvm.Q9.Aim.ldcL zeq hx hZ hown (wI hw 162 rfl) (own_atoms hw) (LC := LC) (List.mem_of_getElem? (i := 3) rfl) (by decide +kernel) (by decide +kernel) (GL _ (List.mem_of_getElem? (i := 3) rfl)) zev (fun b cl q => zeu.2.1 b cl (by rw [← hs0]; exact q) nin0) (hb hby e13_48) (fun _ => trivial) (cap := 48) (by decide +kernel) (by decide) (by decide) (by decide) ?_
      intro zew zex zey zez zf0 zf1 zf2 zf3 zf4 zf5 zf6 zf7
      have zf8 : Keep h0 zex [] := zeu.trans zf3 all0
      have zf9 : Jvm.Q9.Grow Lc0 zf1 h0.size := ze4.trans zf4 (zeu.1)
      have zfa : Exa Z zex zby "java/lang/StringBuilder" := ((zel.keep zes).keep zf3)
      have zfb : Bld Z zex zby t_1261 k_1262 ((((([] : List Int32) ++ (Jvm.Q9.cod "the answer ")) ++ ys) ++ (Jvm.Q9.cod " after ")) ++ (dec tt)) zei := (zet.keep zf3 nin0 nin0)
      have zfc : Old Z n0 zex := (zev.keep zf3 all0)
      refine Jvm.Q9.Aim.callV (argsL := [(.ref zey)]) (rest := [(.int 0), (.ref z2), (.ref z2)]) zf2 hx hZ hml hown (wI hw 69 rfl) (wI hw 70 rfl) (fun vm0 hZ => notFace_of_selects (args := #[]) (mvT (s := s.setVm vm0) hZ (wI hw 72 rfl))) (wI hw 72 rfl) (wI hw 71 rfl) (by decide) zfa (fun vm0 hZ => Jvm.Y9.Con.back (s := s.setVm vm0) (W := 3) (own_appG l Z a0 hw zby t_1261 k_1262 ((((([] : List Int32) ++ (Jvm.Q9.cod "the answer ")) ++ ys) ++ (Jvm.Q9.cod " after ")) ++ (dec tt)) zei zey zez zf0 (Jvm.Q9.cod " results of ") zex n0 (lT Z0 (zf8.1)) (lT (lT Z0 (zq.1)) (Nat.le_of_eq zbz.symm)) (lT (lT Z0 (zc6.1)) (zee.elim (fun q => by rw [q]; exact (zdj.elim (fun q => by rw [q]; exact zch) (fun q => lT (lT (lT zcg.1 zcs.1) zd7.1) q))) (fun q => lT (lT (lT (lT (lT zcg.1 zcs.1) zd7.1) zdi.1) zdy.1) q))) zfb zf5 zfc (by (try simp only [List.length_append, List.length_nil, cl0, cl1, cl2, cl3]); omega) (by (try simp only [List.length_append, List.length_nil, cl0, cl1, cl2, cl3]); omega) (capN_le (by (try simp only [List.length_append, List.length_nil, cl0, cl1, cl2, cl3]); omega)) (Jvm.Q9.lit_ne zf7 (lT (lT Z0 (zc6.1)) (zee.elim (fun q => by rw [q]; exact (zdj.elim (fun q => by rw [q]; exact zch) (fun q => lT (lT (lT zcg.1 zcs.1) zd7.1) q))) (fun q => lT (lT (lT (lT (lT zcg.1 zcs.1) zd7.1) zdi.1) zdy.1) q))) (Jvm.Q9.nl_step zeh zf4 (lL zef.2.2.2.2.lt (zes.1)))) (Jvm.Q9.lit_ne zf7 (lT (lT Z0 (zq.1)) (Nat.le_of_eq zbz.symm)) (Jvm.Q9.nl_step (Jvm.Q9.nl_step (Jvm.Q9.nl_step (Jvm.Q9.nl_new zk.ltL (lT (Nat.le_refl _) (Nat.le_of_eq zbz.symm))) zct (lL zc2.lt (zcg.1))) zdz (lL zc2.lt (lT (lT (lT zcg.1 zcs.1) zd7.1) zdi.1))) zf4 (lL zc2.lt (lT (lT (lT (lT (lT (lT zcg.1 zcs.1) zd7.1) zdi.1) zdy.1) zed.1) zes.1)))) (nL (lL zc2.lt (zee.elim (fun q => by rw [q]; exact (zdj.elim (fun q => by rw [q]; exact zch) (fun q => lT (lT (lT zcg.1 zcs.1) zd7.1) q))) (fun q => lT (lT (lT (lT (lT zcg.1 zcs.1) zd7.1) zdi.1) zdy.1) q)))) (Jvm.Q9.lit_ne zf6 (lT (lT Z0 (zc6.1)) (zee.elim (fun q => by rw [q]; exact (zdj.elim (fun q => by rw [q]; exact zch) (fun q => lT (lT (lT zcg.1 zcs.1) zd7.1) q))) (fun q => lT (lT (lT (lT (lT zcg.1 zcs.1) zd7.1) zdi.1) zdy.1) q))) (Jvm.Q9.nl_step zeh zf4 (lL zef.2.2.2.2.lt (zes.1)))) G) hZ (wI hw 73 rfl) (wI hw 52 rfl) (by decide) (by decide)) (fun _ _ ⟨_, _, _, q, _, _⟩ => q) (allS (Jvm.Q9.nl_step (Jvm.Q9.nl_step (Jvm.Q9.nl_step (Jvm.Q9.nl_new zk.ltL (lT (Nat.le_refl _) (Nat.le_of_eq zbz.symm))) zct (lL zc2.lt (zcg.1))) zdz (lL zc2.lt (lT (lT (lT zcg.1 zcs.1) zd7.1) zdi.1))) zf4 (lL zc2.lt (lT (lT (lT (lT (lT (lT zcg.1 zcs.1) zd7.1) zdi.1) zdy.1) zed.1) zes.1))) (allS (Jvm.Q9.nl_step zeh zf4 (lL zef.2.2.2.2.lt (zes.1))) all0)) rfl pd__28Ljava_2flang_2fString_3b_29Ljava_2flang_2fStringBuilder_3b rfl (Nat.le_of_eq rfl) (hb hby e13_50) (by decide) (by decide) ?_
      intro zfd zfe zff zfg zfh
      obtain ⟨t_1308, k_1309, rfl, zfi, zfj, zfk⟩ := zfh
      have zfl : Keep h0 zfe [] := zf8.trans zfi (allS (Or.inr (lT (zq.1) (Nat.le_of_eq zbz.symm))) (allS (Or.inr (lT (zc6.1) (zee.elim (fun q => by rw [q]; exact (zdj.elim (fun q => by rw [q]; exact zch) (fun q => lT (lT (lT zcg.1 zcs.1) zd7.1) q))) (fun q => lT (lT (lT (lT (lT zcg.1 zcs.1) zd7.1) zdi.1) zdy.1) q)))) all0))
      have zfm : t_1308 ∉ zf1 := zfj.elim (fun q => by rw [q]; exact (Jvm.Q9.nl_step zeh zf4 (lL zef.2.2.2.2.lt (zes.1)))) (fun q => Jvm.Q9.nl_new zf2.ltL (lT (Nat.le_refl _) q))
      obtain ⟨zfn, zfo⟩ : ∃ q : Nat, q = (capN zei (((((([] : List Int32) ++ (Jvm.Q9.cod "the answer ")) ++ ys) ++ (Jvm.Q9.cod " after ")) ++ (dec tt)).length + (Jvm.Q9.cod " results of ").length)) := ⟨_, rfl⟩
      have zfp : Bld Z zfe zby t_1308 k_1309 (((((([] : List Int32) ++ (Jvm.Q9.cod "the answer ")) ++ ys) ++ (Jvm.Q9.cod " after ")) ++ (dec tt)) ++ (Jvm.Q9.cod " results of ")) zfn := by rw [zfo]; exact zfk
      have shcp1316 := capN_spec zei (((((([] : List Int32) ++ (Jvm.Q9.cod "the answer ")) ++ ys) ++ (Jvm.Q9.cod " after ")) ++ (dec tt)).length + (Jvm.Q9.cod " results of ").length)
      rw [← zfo] at shcp1316
      simp only [List.length_append, List.length_nil, cl0, cl1, cl2, cl3] at shcp1316
      have zfq : Old Z n0 zfe := (zfc.keep zfi (allS (lT (lT Z0 (zq.1)) (Nat.le_of_eq zbz.symm)) (allS (lT (lT Z0 (zc6.1)) (zee.elim (fun q => by rw [q]; exact (zdj.elim (fun q => by rw [q]; exact zch) (fun q => lT (lT (lT zcg.1 zcs.1) zd7.1) q))) (fun q => lT (lT (lT (lT (lT zcg.1 zcs.1) zd7.1) zdi.1) zdy.1) q))) all0)))
      refine Jvm.Q9.Aim.ldcL zfg hx hZ hown (wI hw 163 rfl) (own_atoms hw) (LC := LC) (List.mem_of_getElem? (i := 4) rfl) (by decide +kernel) (by decide +kernel) (GL _ (List.mem_of_getElem? (i := 4) rfl)) zfq (fun b cl q => zfl.2.1 b cl (by rw [← hs0]; exact q) nin0) (hb hby e13_53) (fun _ => trivial) (cap := 44) (by decide +kernel) (by decide) (by decide) (by decide) ?_
      intro zfr zfs zft zfu zfv zfw zfx zfy zfz zg0 zg1 zg2
      have zg3 : Keep h0 zfs [] := zfl.trans zfy all0
      have zg4 : Jvm.Q9.Grow Lc0 zfw h0.size := zf9.trans zfz (zfl.1)
      have zg5 : Exa Z zfs zby "java/lang/StringBuilder" := ((zfa.keep zfi).keep zfy)
      have zg6 : Bld Z zfs zby t_1308 k_1309 (((((([] : List Int32) ++ (Jvm.Q9.cod "the answer ")) ++ ys) ++ (Jvm.Q9.cod " after ")) ++ (dec tt)) ++ (Jvm.Q9.cod " results of ")) zfn := (zfp.keep zfy nin0 nin0)
      have zg7 : Old Z n0 zfs := (zfq.keep zfy all0)
      refine Jvm.Q9.Aim.callV (argsL := [(.ref zft)]) (rest := [(.int 0), (.ref z2), (.ref z2)]) zfx hx hZ hml hown (wI hw 69 rfl) (wI hw 70 rfl) (fun vm0 hZ => notFace_of_selects (args := #[]) (mvT (s := s.setVm vm0) hZ (wI hw 72 rfl))) (wI hw 72 rfl) (wI hw 71 rfl) (by decide) zg5 (fun vm0 hZ => Jvm.Y9.Con.back (s := s.setVm vm0) (W := 3) (own_appG l Z a0 hw zby t_1308 k_1309 (((((([] : List Int32) ++ (Jvm.Q9.cod "the answer ")) ++ ys) ++ (Jvm.Q9.cod " after ")) ++ (dec tt)) ++ (Jvm.Q9.cod " results of ")) zfn zft zfu zfv (Jvm.Q9.cod "get_weather") zfs n0 (lT Z0 (zg3.1)) (lT (lT Z0 (zq.1)) (Nat.le_of_eq zbz.symm)) (lT (lT Z0 (zc6.1)) (zfj.elim (fun q => by rw [q]; exact (zee.elim (fun q => by rw [q]; exact (zdj.elim (fun q => by rw [q]; exact zch) (fun q => lT (lT (lT zcg.1 zcs.1) zd7.1) q))) (fun q => lT (lT (lT (lT (lT zcg.1 zcs.1) zd7.1) zdi.1) zdy.1) q))) (fun q => lT (lT (lT (lT (lT (lT (lT (lT zcg.1 zcs.1) zd7.1) zdi.1) zdy.1) zed.1) zes.1) zf3.1) q))) zg6 zg0 zg7 (by (try simp only [List.length_append, List.length_nil, cl0, cl1, cl2, cl3]); omega) (by (try simp only [List.length_append, List.length_nil, cl0, cl1, cl2, cl3]); omega) (capN_le (by (try simp only [List.length_append, List.length_nil, cl0, cl1, cl2, cl3]); omega)) (Jvm.Q9.lit_ne zg2 (lT (lT Z0 (zc6.1)) (zfj.elim (fun q => by rw [q]; exact (zee.elim (fun q => by rw [q]; exact (zdj.elim (fun q => by rw [q]; exact zch) (fun q => lT (lT (lT zcg.1 zcs.1) zd7.1) q))) (fun q => lT (lT (lT (lT (lT zcg.1 zcs.1) zd7.1) zdi.1) zdy.1) q))) (fun q => lT (lT (lT (lT (lT (lT (lT (lT zcg.1 zcs.1) zd7.1) zdi.1) zdy.1) zed.1) zes.1) zf3.1) q))) (Jvm.Q9.nl_step zfm zfz zfk.2.2.2.2.lt)) (Jvm.Q9.lit_ne zg2 (lT (lT Z0 (zq.1)) (Nat.le_of_eq zbz.symm)) (Jvm.Q9.nl_step (Jvm.Q9.nl_step (Jvm.Q9.nl_step (Jvm.Q9.nl_step (Jvm.Q9.nl_new zk.ltL (lT (Nat.le_refl _) (Nat.le_of_eq zbz.symm))) zct (lL zc2.lt (zcg.1))) zdz (lL zc2.lt (lT (lT (lT zcg.1 zcs.1) zd7.1) zdi.1))) zf4 (lL zc2.lt (lT (lT (lT (lT (lT (lT zcg.1 zcs.1) zd7.1) zdi.1) zdy.1) zed.1) zes.1))) zfz (lL zc2.lt (lT (lT (lT (lT (lT (lT (lT (lT zcg.1 zcs.1) zd7.1) zdi.1) zdy.1) zed.1) zes.1) zf3.1) zfi.1)))) (nL (lL zc2.lt (zfj.elim (fun q => by rw [q]; exact (zee.elim (fun q => by rw [q]; exact (zdj.elim (fun q => by rw [q]; exact zch) (fun q => lT (lT (lT zcg.1 zcs.1) zd7.1) q))) (fun q => lT (lT (lT (lT (lT zcg.1 zcs.1) zd7.1) zdi.1) zdy.1) q))) (fun q => lT (lT (lT (lT (lT (lT (lT (lT zcg.1 zcs.1) zd7.1) zdi.1) zdy.1) zed.1) zes.1) zf3.1) q)))) (Jvm.Q9.lit_ne zg1 (lT (lT Z0 (zc6.1)) (zfj.elim (fun q => by rw [q]; exact (zee.elim (fun q => by rw [q]; exact (zdj.elim (fun q => by rw [q]; exact zch) (fun q => lT (lT (lT zcg.1 zcs.1) zd7.1) q))) (fun q => lT (lT (lT (lT (lT zcg.1 zcs.1) zd7.1) zdi.1) zdy.1) q))) (fun q => lT (lT (lT (lT (lT (lT (lT (lT zcg.1 zcs.1) zd7.1) zdi.1) zdy.1) zed.1) zes.1) zf3.1) q))) (Jvm.Q9.nl_step zfm zfz zfk.2.2.2.2.lt)) G) hZ (wI hw 73 rfl) (wI hw 52 rfl) (by decide) (by decide)) (fun _ _ ⟨_, _, _, q, _, _⟩ => q) (allS (Jvm.Q9.nl_step (Jvm.Q9.nl_step (Jvm.Q9.nl_step (Jvm.Q9.nl_step (Jvm.Q9.nl_new zk.ltL (lT (Nat.le_refl _) (Nat.le_of_eq zbz.symm))) zct (lL zc2.lt (zcg.1))) zdz (lL zc2.lt (lT (lT (lT zcg.1 zcs.1) zd7.1) zdi.1))) zf4 (lL zc2.lt (lT (lT (lT (lT (lT (lT zcg.1 zcs.1) zd7.1) zdi.1) zdy.1) zed.1) zes.1))) zfz (lL zc2.lt (lT (lT (lT (lT (lT (lT (lT (lT zcg.1 zcs.1) zd7.1) zdi.1) zdy.1) zed.1) zes.1) zf3.1) zfi.1))) (allS (Jvm.Q9.nl_step zfm zfz zfk.2.2.2.2.lt) all0)) rfl pd__28Ljava_2flang_2fString_3b_29Ljava_2flang_2fStringBuilder_3b rfl (Nat.le_of_eq rfl) (hb hby e13_55) (by decide) (by decide) ?_
      intro zg8 zg9 zga zgb zgc
      obtain ⟨t_1343, k_1344, rfl, zgd, zge, zgf⟩ := zgc
      have zgg : Keep h0 zg9 [] := zg3.trans zgd (allS (Or.inr (lT (zq.1) (Nat.le_of_eq zbz.symm))) (allS (Or.inr (lT (zc6.1) (zfj.elim (fun q => by rw [q]; exact (zee.elim (fun q => by rw [q]; exact (zdj.elim (fun q => by rw [q]; exact zch) (fun q => lT (lT (lT zcg.1 zcs.1) zd7.1) q))) (fun q => lT (lT (lT (lT (lT zcg.1 zcs.1) zd7.1) zdi.1) zdy.1) q))) (fun q => lT (lT (lT (lT (lT (lT (lT (lT zcg.1 zcs.1) zd7.1) zdi.1) zdy.1) zed.1) zes.1) zf3.1) q)))) all0))
      have zgh : t_1343 ∉ zfw := zge.elim (fun q => by rw [q]; exact (Jvm.Q9.nl_step zfm zfz zfk.2.2.2.2.lt)) (fun q => Jvm.Q9.nl_new zfx.ltL (lT (Nat.le_refl _) q))
      obtain ⟨zgi, zgj⟩ : ∃ q : Nat, q = (capN zfn ((((((([] : List Int32) ++ (Jvm.Q9.cod "the answer ")) ++ ys) ++ (Jvm.Q9.cod " after ")) ++ (dec tt)) ++ (Jvm.Q9.cod " results of ")).length + (Jvm.Q9.cod "get_weather").length)) := ⟨_, rfl⟩
      have zgk : Bld Z zg9 zby t_1343 k_1344 ((((((([] : List Int32) ++ (Jvm.Q9.cod "the answer ")) ++ ys) ++ (Jvm.Q9.cod " after ")) ++ (dec tt)) ++ (Jvm.Q9.cod " results of ")) ++ (Jvm.Q9.cod "get_weather")) zgi := by rw [zgj]; exact zgf
      have shcp1351 := capN_spec zfn ((((((([] : List Int32) ++ (Jvm.Q9.cod "the answer ")) ++ ys) ++ (Jvm.Q9.cod " after ")) ++ (dec tt)) ++ (Jvm.Q9.cod " results of ")).length + (Jvm.Q9.cod "get_weather").length)
      rw [← zgj] at shcp1351
      simp only [List.length_append, List.length_nil, cl0, cl1, cl2, cl3] at shcp1351
      have zgl : Exa Z zg9 zby "java/lang/StringBuilder" := (zg5.keep zgd)
      have zgm : Old Z n0 zg9 := (zg7.keep zgd (allS (lT (lT Z0 (zq.1)) (Nat.le_of_eq zbz.symm)) (allS (lT (lT Z0 (zc6.1)) (zfj.elim (fun q => by rw [q]; exact (zee.elim (fun q => by rw [q]; exact (zdj.elim (fun q => by rw [q]; exact zch) (fun q => lT (lT (lT zcg.1 zcs.1) zd7.1) q))) (fun q => lT (lT (lT (lT (lT zcg.1 zcs.1) zd7.1) zdi.1) zdy.1) q))) (fun q => lT (lT (lT (lT (lT (lT (lT (lT zcg.1 zcs.1) zd7.1) zdi.1) zdy.1) zed.1) zes.1) zf3.1) q))) all0)))
      refine Jvm.Q9.Aim.callV (argsL := []) (rest := [(.int 0), (.ref z2), (.ref z2)]) zgb hx hZ hml hown (wI hw 164 rfl) (wI hw 165 rfl) (fun vm0 hZ => notFace_of_selects (args := #[]) (mvT (s := s.setVm vm0) hZ (wI hw 167 rfl))) (wI hw 167 rfl) (wI hw 166 rfl) (by decide) zgl (fun vm0 hZ => Jvm.Y9.Con.back (s := s.setVm vm0) (W := 3) (own_ts l Z a0 hw zby t_1343 k_1344 ((((((([] : List Int32) ++ (Jvm.Q9.cod "the answer ")) ++ ys) ++ (Jvm.Q9.cod " after ")) ++ (dec tt)) ++ (Jvm.Q9.cod " results of ")) ++ (Jvm.Q9.cod "get_weather")) zgi zg9 n0 (lT Z0 (zgg.1)) zgk zgm (by (try simp only [List.length_append, List.length_nil, cl0, cl1, cl2, cl3]); omega) (by (try simp only [List.length_append, List.length_nil, cl0, cl1, cl2, cl3]); omega) (app_lo (app_lo (app_lo (app_lo (app_lo (app_lo (fun _ q => nomatch q) (by decide +kernel)) F0.2.2.2.2.1) (by decide +kernel)) (dec_in tt)) (by decide +kernel)) (by decide +kernel)) G) hZ (wI hw 168 rfl) (wI hw 52 rfl) (by decide) (by decide)) (fun _ _ ⟨_, _, _, _, q, _, _, _⟩ => q) all0 rfl pd__28_29Ljava_2flang_2fString_3b rfl (Nat.le_of_eq rfl) (hb hby e13_58) (by decide) (by decide) ?_
      intro zgn zgo zgp zgq zgr
      obtain ⟨z_1362, t_1363, k_1364, rfl, zgs, zgt, zgu, zgv⟩ := zgr
      have zgw : Keep h0 zgo [] := zgg.trans zgs all0
      have zgx : Exa Z zgo z2 "com/example/etsin/etsin/BenchTurn$Outcome" := ((((((((((((((z6.keep zl).keep zc5).keep zcg).keep zcs).keep zd7).keep zdi).keep zdy).keep zed).keep zes).keep zf3).keep zfi).keep zfy).keep zgd).keep zgs)
      have zgy : Fld Z zgo z2 "com/example/etsin/etsin/BenchTurn$Outcome" "correct" "Z" (.int 0) := ((((((((((((((zb.keep zl nin0).keep zc5 nin0).keep zcg (ninS (nL (lL (lL z6.lt (zl.1)) (Nat.le_of_eq zbz.symm))) nin0)).keep zcs nin0).keep zd7 (ninS (nL (lL (lL z6.lt (zl.1)) (Nat.le_of_eq zbz.symm))) (ninS (nL (lL (lL z6.lt (lT zl.1 zc5.1)) zch)) nin0))).keep zdi (ninS (nL (lL (lL z6.lt (zl.1)) (Nat.le_of_eq zbz.symm))) (ninS (nL (lL (lL z6.lt (lT zl.1 zc5.1)) zch)) nin0))).keep zdy nin0).keep zed (ninS (nL (lL (lL z6.lt (zl.1)) (Nat.le_of_eq zbz.symm))) (ninS (nL (lL (lL z6.lt (lT zl.1 zc5.1)) (zdj.elim (fun q => by rw [q]; exact zch) (fun q => lT (lT (lT zcg.1 zcs.1) zd7.1) q)))) nin0))).keep zes (ninS (nL (lL (lL z6.lt (zl.1)) (Nat.le_of_eq zbz.symm))) (ninS (nL (lL (lL z6.lt (lT zl.1 zc5.1)) (zee.elim (fun q => by rw [q]; exact (zdj.elim (fun q => by rw [q]; exact zch) (fun q => lT (lT (lT zcg.1 zcs.1) zd7.1) q))) (fun q => lT (lT (lT (lT (lT zcg.1 zcs.1) zd7.1) zdi.1) zdy.1) q)))) nin0))).keep zf3 nin0).keep zfi (ninS (nL (lL (lL z6.lt (zl.1)) (Nat.le_of_eq zbz.symm))) (ninS (nL (lL (lL z6.lt (lT zl.1 zc5.1)) (zee.elim (fun q => by rw [q]; exact (zdj.elim (fun q => by rw [q]; exact zch) (fun q => lT (lT (lT zcg.1 zcs.1) zd7.1) q))) (fun q => lT (lT (lT (lT (lT zcg.1 zcs.1) zd7.1) zdi.1) zdy.1) q)))) nin0))).keep zfy nin0).keep zgd (ninS (nL (lL (lL z6.lt (zl.1)) (Nat.le_of_eq zbz.symm))) (ninS (nL (lL (lL z6.lt (lT zl.1 zc5.1)) (zfj.elim (fun q => by rw [q]; exact (zee.elim (fun q => by rw [q]; exact (zdj.elim (fun q => by rw [q]; exact zch) (fun q => lT (lT (lT zcg.1 zcs.1) zd7.1) q))) (fun q => lT (lT (lT (lT (lT zcg.1 zcs.1) zd7.1) zdi.1) zdy.1) q))) (fun q => lT (lT (lT (lT (lT (lT (lT (lT zcg.1 zcs.1) zd7.1) zdi.1) zdy.1) zed.1) zes.1) zf3.1) q)))) nin0))).keep zgs nin0)
      have zgz : Fld Z zgo z2 "com/example/etsin/etsin/BenchTurn$Outcome" "description" "Ljava/lang/String;" .null := ((((((((((((((zc.keep zl nin0).keep zc5 nin0).keep zcg (ninS (nL (lL (lL z6.lt (zl.1)) (Nat.le_of_eq zbz.symm))) nin0)).keep zcs nin0).keep zd7 (ninS (nL (lL (lL z6.lt (zl.1)) (Nat.le_of_eq zbz.symm))) (ninS (nL (lL (lL z6.lt (lT zl.1 zc5.1)) zch)) nin0))).keep zdi (ninS (nL (lL (lL z6.lt (zl.1)) (Nat.le_of_eq zbz.symm))) (ninS (nL (lL (lL z6.lt (lT zl.1 zc5.1)) zch)) nin0))).keep zdy nin0).keep zed (ninS (nL (lL (lL z6.lt (zl.1)) (Nat.le_of_eq zbz.symm))) (ninS (nL (lL (lL z6.lt (lT zl.1 zc5.1)) (zdj.elim (fun q => by rw [q]; exact zch) (fun q => lT (lT (lT zcg.1 zcs.1) zd7.1) q)))) nin0))).keep zes (ninS (nL (lL (lL z6.lt (zl.1)) (Nat.le_of_eq zbz.symm))) (ninS (nL (lL (lL z6.lt (lT zl.1 zc5.1)) (zee.elim (fun q => by rw [q]; exact (zdj.elim (fun q => by rw [q]; exact zch) (fun q => lT (lT (lT zcg.1 zcs.1) zd7.1) q))) (fun q => lT (lT (lT (lT (lT zcg.1 zcs.1) zd7.1) zdi.1) zdy.1) q)))) nin0))).keep zf3 nin0).keep zfi (ninS (nL (lL (lL z6.lt (zl.1)) (Nat.le_of_eq zbz.symm))) (ninS (nL (lL (lL z6.lt (lT zl.1 zc5.1)) (zee.elim (fun q => by rw [q]; exact (zdj.elim (fun q => by rw [q]; exact zch) (fun q => lT (lT (lT zcg.1 zcs.1) zd7.1) q))) (fun q => lT (lT (lT (lT (lT zcg.1 zcs.1) zd7.1) zdi.1) zdy.1) q)))) nin0))).keep zfy nin0).keep zgd (ninS (nL (lL (lL z6.lt (zl.1)) (Nat.le_of_eq zbz.symm))) (ninS (nL (lL (lL z6.lt (lT zl.1 zc5.1)) (zfj.elim (fun q => by rw [q]; exact (zee.elim (fun q => by rw [q]; exact (zdj.elim (fun q => by rw [q]; exact zch) (fun q => lT (lT (lT zcg.1 zcs.1) zd7.1) q))) (fun q => lT (lT (lT (lT (lT zcg.1 zcs.1) zd7.1) zdi.1) zdy.1) q))) (fun q => lT (lT (lT (lT (lT (lT (lT (lT zcg.1 zcs.1) zd7.1) zdi.1) zdy.1) zed.1) zes.1) zf3.1) q)))) nin0))).keep zgs nin0)
      refine Jvm.Q9.Aim.callC (argsL := [(.int 0), (.ref z_1362)]) (rest := [(.ref z2)]) zgq hx hZ hml hown rfl (wI hw 199 rfl) (wI hw 200 rfl) (wI hw 201 rfl) (by decide) (fun vm0 hZ => Jvm.Y9.Con.back (s := s.setVm vm0) (W := 1) (own_oi0 l Z a0 hw z2 z_1362 (.int 0) (.null) zgo n0 (lT Z0 (zgw.1)) (lT Z0 (Nat.le_of_eq z3.symm)) zgx zgy zgz) hZ (wI hw 201 rfl) (wI hw 33 rfl) (by decide) (by decide)) (fun _ _ ⟨_, q, _, _, _⟩ => q) (allS (Jvm.Q9.nl_step (Jvm.Q9.nl_step (Jvm.Q9.nl_step (Jvm.Q9.nl_step (Jvm.Q9.nl_step (Jvm.Q9.nl_new P0.ltL (lT (Nat.le_refl _) (Nat.le_of_eq z3.symm))) zm z6.lt) zct (lL z6.lt (lT (lT zl.1 zc5.1) zcg.1))) zdz (lL z6.lt (lT (lT (lT (lT (lT zl.1 zc5.1) zcg.1) zcs.1) zd7.1) zdi.1))) zf4 (lL z6.lt (lT (lT (lT (lT (lT (lT (lT (lT zl.1 zc5.1) zcg.1) zcs.1) zd7.1) zdi.1) zdy.1) zed.1) zes.1))) zfz (lL z6.lt (lT (lT (lT (lT (lT (lT (lT (lT (lT (lT zl.1 zc5.1) zcg.1) zcs.1) zd7.1) zdi.1) zdy.1) zed.1) zes.1) zf3.1) zfi.1))) all0) rfl pd__28ZLjava_2flang_2fString_3b_29V rfl (Nat.le_of_eq rfl) (hb hby e13_61) (by decide) (by decide) ?_
      intro zh0 zh1 zh2 zh3 zh4
      obtain ⟨rfl, zh5, zh6, zh7, zh8⟩ := zh4
      have zh9 : Keep h0 zh1 [] := zgw.trans zh5 (allS (Or.inr (lT (Nat.le_refl _) (Nat.le_of_eq z3.symm))) all0)
      have zha : Str Z zh1 z_1362 t_1363 k_1364 ((((((([] : List Int32) ++ (Jvm.Q9.cod "the answer ")) ++ ys) ++ (Jvm.Q9.cod " after ")) ++ (dec tt)) ++ (Jvm.Q9.cod " results of ")) ++ (Jvm.Q9.cod "get_weather")) := (zgv.keep zh5 (ninS (Ne.symm (nL (lL (lL z6.lt (lT (lT (lT (lT (lT (lT (lT (lT (lT (lT (lT (lT zl.1 zc5.1) zcg.1) zcs.1) zd7.1) zdi.1) zdy.1) zed.1) zes.1) zf3.1) zfi.1) zfy.1) zgd.1)) zgt))) nin0) (ninS (Ne.symm (nL (lL (lL z6.lt (lT (lT (lT (lT (lT (lT (lT (lT (lT (lT (lT (lT zl.1 zc5.1) zcg.1) zcs.1) zd7.1) zdi.1) zdy.1) zed.1) zes.1) zf3.1) zfi.1) zfy.1) zgd.1)) zgu))) nin0))
      exact Jvm.Q9.Aim.retA zh3 hx hlk hret rfl rfl (hb hby e13_64) (by decide) (by decide) zg4 ⟨z2, z_1362, t_1363, k_1364, rfl, zh9, (lT (Nat.le_refl _) (Nat.le_of_eq z3.symm)), (lT (zgg.1) zgt), (lT (zgg.1) zgu), zh6, (by rw [cor, if_neg (fun q => z6g q.2)]; exact zh7), zh8, zha⟩
theorem e1_0 : decode jdk_29_method_61_code 0 = .ok (.lload_n 0, 1) := by decide +kernel
theorem e1_1 : decode jdk_29_method_61_code 1 = .ok (.lconst 0, 1) := by decide +kernel
theorem e1_2 : decode jdk_29_method_61_code 2 = .ok (.lcmp, 1) := by decide +kernel
theorem e1_3 : decode jdk_29_method_61_code 3 = .ok (.ifCond .ge 8, 3) := by decide +kernel
theorem e1_6 : decode jdk_29_method_61_code 6 = .ok (.lload_n 0, 1) := by decide +kernel
theorem e1_7 : decode jdk_29_method_61_code 7 = .ok (.lneg, 1) := by decide +kernel
theorem e1_8 : decode jdk_29_method_61_code 8 = .ok (.goto 4, 3) := by decide +kernel
theorem e1_12 : decode jdk_29_method_61_code 12 = .ok (.lreturn, 1) := by decide +kernel
theorem e1_11 : decode jdk_29_method_61_code 11 = .ok (.lload_n 0, 1) := by decide +kernel
theorem own_absJ (l : Launch) (Z : State) (a0 : Array Value) (hw : ∀ d ∈ tables_1, d.before a0 Z = true) (xj : Int64) (h0 : Heap) (n0 : Nat) (Z0 : n0 ≤ h0.size) :
    Jvm.Y9.Con l Z (⟨"java/lang/Math", "abs", "(J)J"⟩ : MethodName) jdk_29_method_61_code 2 (some .long) ({ frames := 0, cells := 0, slots := 0, locals := 0 } : Room) n0 #[(.long xj)] h0 (fun v h => v = some (.long (absJ xj)) ∧ h0 = h) := by
  refine Jvm.Y9.Con.intro (Jvm.Free.JP.mathPlain rfl (by decide +kernel)) ?_
  intro p e s m below meth c s₁ hx hby hml hret hnm hown hlk hZ P0
  refine Jvm.Y9.Aim.cast (by first | (simp [entryFrame, mkF, argsToLocals, Value.category]; done) | rfl : entryFrame m #[(.long xj)] 2 = (mkF m 0 #[.val (.long xj), .second] [])) ?_
  have H := P0.here
  refine Jvm.Y9.Aim.of (T' := s₁) (g' := (mkF m 3 #[.val (.long xj), .second] [(.int (lcmpW xj (0 : Int64)))])) (fun tgt kt => ?_) ?_
  · refine XS.lloadN H hx rfl (hb hby e1_0) rfl ?_
    refine XS.lconst H hx rfl (hb hby e1_1) ?_
    refine XS.lcmp H hx rfl (hb hby e1_2) rfl ?_
    exact kt
  by_cases hc1386 : (lcmpW xj (0 : Int64)) < (0 : Int32)
  · skip
    have H := P0.here
    refine Jvm.Y9.Aim.of (T' := s₁) (g' := (mkF m 12 #[.val (.long xj), .second] [(.long (-xj))])) (fun tgt kt => ?_) ?_
    · refine XS.ifNo H hx rfl (hb hby e1_3) rfl ((if0 _ _).trans (tlt hc1386).2.1) ?_
      refine XS.lloadN H hx rfl (hb hby e1_6) rfl ?_
      refine XS.lneg H hx rfl (hb hby e1_7) rfl ?_
      refine XS.goto H hx rfl (pc0 := 8) (pc' := 12) rfl (hb hby e1_8) (by decide) (by decide) ?_
      exact kt
    exact Jvm.Y9.Aim.retJ P0 hx hlk hret (hb hby e1_12) (by decide) (by decide) ⟨(by rw [absJ, if_pos hc1386]), rfl⟩
  · skip
    have H := P0.here
    refine Jvm.Y9.Aim.of (T' := s₁) (g' := (mkF m 12 #[.val (.long xj), .second] [(.long xj)])) (fun tgt kt => ?_) ?_
    · refine XS.ifYes H hx rfl (pc0 := 3) (pc' := 11) rfl (hb hby e1_3) rfl ((if0 _ _).trans (flt hc1386).2.1) (by decide) (by decide) ?_
      refine XS.lloadN H hx rfl (hb hby e1_11) rfl ?_
      exact kt
    exact Jvm.Y9.Aim.retJ P0 hx hlk hret (hb hby e1_12) (by decide) (by decide) ⟨(by rw [absJ, if_neg hc1386]), rfl⟩
theorem e11_0 : decode method_3_code 0 = .ok (.iload_n 0, 1) := by decide +kernel
theorem e11_1 : decode method_3_code 1 = .ok (.i2l, 1) := by decide +kernel
theorem e11_2 : decode method_3_code 2 = .ok (.invokestatic 50, 3) := by decide +kernel
theorem pd__28J_29J : parseMethodDescriptor "(J)J" = some ⟨[.long], some .long⟩ := by decide +kernel
theorem e11_5 : decode method_3_code 5 = .ok (.lstore_n 1, 1) := by decide +kernel
theorem e11_6 : decode method_3_code 6 = .ok (.iconst 1, 1) := by decide +kernel
theorem e11_7 : decode method_3_code 7 = .ok (.istore_n 3, 1) := by decide +kernel
theorem e11_8 : decode method_3_code 8 = .ok (.lload_n 1, 1) := by decide +kernel
theorem e11_9 : decode method_3_code 9 = .ok (.ldc2_w 53, 3) := by decide +kernel
theorem e11_12 : decode method_3_code 12 = .ok (.lcmp, 1) := by decide +kernel
theorem e11_13 : decode method_3_code 13 = .ok (.ifCond .lt 5, 3) := by decide +kernel
theorem e11_18 : decode method_3_code 18 = .ok (.lload_n 1, 1) := by decide +kernel
theorem e11_19 : decode method_3_code 19 = .ok (.ldc2_w 55, 3) := by decide +kernel
theorem e11_22 : decode method_3_code 22 = .ok (.lcmp, 1) := by decide +kernel
theorem e11_23 : decode method_3_code 23 = .ok (.ifCond .lt 5, 3) := by decide +kernel
theorem e11_28 : decode method_3_code 28 = .ok (.lload_n 1, 1) := by decide +kernel
theorem e11_29 : decode method_3_code 29 = .ok (.ldc2_w 57, 3) := by decide +kernel
theorem e11_32 : decode method_3_code 32 = .ok (.lcmp, 1) := by decide +kernel
theorem e11_33 : decode method_3_code 33 = .ok (.ifCond .lt 5, 3) := by decide +kernel
theorem e11_38 : decode method_3_code 38 = .ok (.lload_n 1, 1) := by decide +kernel
theorem e11_39 : decode method_3_code 39 = .ok (.ldc2_w 59, 3) := by decide +kernel
theorem e11_42 : decode method_3_code 42 = .ok (.lcmp, 1) := by decide +kernel
theorem e11_43 : decode method_3_code 43 = .ok (.ifCond .lt 5, 3) := by decide +kernel
theorem e11_48 : decode method_3_code 48 = .ok (.lload_n 1, 1) := by decide +kernel
theorem e11_49 : decode method_3_code 49 = .ok (.ldc2_w 61, 3) := by decide +kernel
theorem e11_52 : decode method_3_code 52 = .ok (.lcmp, 1) := by decide +kernel
theorem e11_53 : decode method_3_code 53 = .ok (.ifCond .lt 6, 3) := by decide +kernel
theorem e11_59 : decode method_3_code 59 = .ok (.lload_n 1, 1) := by decide +kernel
theorem e11_60 : decode method_3_code 60 = .ok (.ldc2_w 63, 3) := by decide +kernel
theorem e11_63 : decode method_3_code 63 = .ok (.lcmp, 1) := by decide +kernel
theorem e11_64 : decode method_3_code 64 = .ok (.ifCond .lt 6, 3) := by decide +kernel
theorem e11_70 : decode method_3_code 70 = .ok (.lload_n 1, 1) := by decide +kernel
theorem e11_71 : decode method_3_code 71 = .ok (.ldc2_w 65, 3) := by decide +kernel
theorem e11_74 : decode method_3_code 74 = .ok (.lcmp, 1) := by decide +kernel
theorem e11_75 : decode method_3_code 75 = .ok (.ifCond .lt 6, 3) := by decide +kernel
theorem e11_81 : decode method_3_code 81 = .ok (.lload_n 1, 1) := by decide +kernel
theorem e11_82 : decode method_3_code 82 = .ok (.ldc2_w 67, 3) := by decide +kernel
theorem e11_85 : decode method_3_code 85 = .ok (.lcmp, 1) := by decide +kernel
theorem e11_86 : decode method_3_code 86 = .ok (.ifCond .lt 6, 3) := by decide +kernel
theorem e11_92 : decode method_3_code 92 = .ok (.lload_n 1, 1) := by decide +kernel
theorem e11_93 : decode method_3_code 93 = .ok (.ldc2_w 69, 3) := by decide +kernel
theorem e11_96 : decode method_3_code 96 = .ok (.lcmp, 1) := by decide +kernel
theorem e11_97 : decode method_3_code 97 = .ok (.ifCond .lt 6, 3) := by decide +kernel
theorem e11_103 : decode method_3_code 103 = .ok (.iload_n 0, 1) := by decide +kernel
theorem e11_104 : decode method_3_code 104 = .ok (.ifCond .ge 9, 3) := by decide +kernel
theorem e11_107 : decode method_3_code 107 = .ok (.iload_n 3, 1) := by decide +kernel
theorem e11_108 : decode method_3_code 108 = .ok (.iconst 1, 1) := by decide +kernel
theorem e11_109 : decode method_3_code 109 = .ok (.iadd, 1) := by decide +kernel
theorem e11_110 : decode method_3_code 110 = .ok (.goto 4, 3) := by decide +kernel
theorem e11_114 : decode method_3_code 114 = .ok (.ireturn, 1) := by decide +kernel
theorem e11_113 : decode method_3_code 113 = .ok (.iload_n 3, 1) := by decide +kernel
theorem e11_16 : decode method_3_code 16 = .ok (.iconst 2, 1) := by decide +kernel
theorem e11_17 : decode method_3_code 17 = .ok (.istore_n 3, 1) := by decide +kernel
theorem e11_26 : decode method_3_code 26 = .ok (.iconst 3, 1) := by decide +kernel
theorem e11_27 : decode method_3_code 27 = .ok (.istore_n 3, 1) := by decide +kernel
theorem e11_36 : decode method_3_code 36 = .ok (.iconst 4, 1) := by decide +kernel
theorem e11_37 : decode method_3_code 37 = .ok (.istore_n 3, 1) := by decide +kernel
theorem e11_46 : decode method_3_code 46 = .ok (.iconst 5, 1) := by decide +kernel
theorem e11_47 : decode method_3_code 47 = .ok (.istore_n 3, 1) := by decide +kernel
theorem e11_56 : decode method_3_code 56 = .ok (.bipush 6, 2) := by decide +kernel
theorem e11_58 : decode method_3_code 58 = .ok (.istore_n 3, 1) := by decide +kernel
theorem e11_67 : decode method_3_code 67 = .ok (.bipush 7, 2) := by decide +kernel
theorem e11_69 : decode method_3_code 69 = .ok (.istore_n 3, 1) := by decide +kernel
theorem e11_78 : decode method_3_code 78 = .ok (.bipush 8, 2) := by decide +kernel
theorem e11_80 : decode method_3_code 80 = .ok (.istore_n 3, 1) := by decide +kernel
theorem e11_89 : decode method_3_code 89 = .ok (.bipush 9, 2) := by decide +kernel
theorem e11_91 : decode method_3_code 91 = .ok (.istore_n 3, 1) := by decide +kernel
theorem e11_100 : decode method_3_code 100 = .ok (.bipush 10, 2) := by decide +kernel
theorem e11_102 : decode method_3_code 102 = .ok (.istore_n 3, 1) := by decide +kernel
theorem pn_com_example_etsin_etsin_OutcomeOfAgentPinLaw : plainName "com/example/etsin/etsin/OutcomeOfAgentPinLaw" = true := by first | (simp [plainName, overriddenIn]; done) | decide +kernel
theorem own_width (l : Launch) (Z : State) (a0 : Array Value) (hw : ∀ d ∈ tables_1, d.before a0 Z = true) (tt : Int32) (h0 : Heap) (n0 : Nat) (Z0 : n0 ≤ h0.size) :
    Jvm.Y9.Con l Z (⟨"com/example/etsin/etsin/OutcomeOfAgentPinLaw", "width", "(I)I"⟩ : MethodName) method_3_code 4 (some .int) ({ frames := 1, cells := 0, slots := 0, locals := 13 } : Room) n0 #[(.int tt)] h0 (fun v h => v = some (.int (Int32.ofNat (dec tt).length)) ∧ h0 = h) := by
  refine Jvm.Y9.Con.intro (plainFor_of_name pn_com_example_etsin_etsin_OutcomeOfAgentPinLaw) ?_
  intro p e s m below meth c s₁ hx hby hml hret hnm hown hlk hZ P0
  refine Jvm.Y9.Aim.cast (by first | (simp [entryFrame, mkF, argsToLocals, Value.category]; done) | rfl : entryFrame m #[(.int tt)] 4 = (mkF m 0 #[.val (.int tt), .unset, .unset, .unset] [])) ?_
  have H := P0.here
  refine Jvm.Y9.Aim.of (T' := s₁) (g' := (mkF m 2 #[.val (.int tt), .unset, .unset, .unset] [(.long (tt.toInt64))])) (fun tgt kt => ?_) ?_
  · refine XS.iloadN H hx rfl (hb hby e11_0) rfl ?_
    refine XS.i2l H hx rfl (hb hby e11_1) rfl ?_
    exact kt
  refine Jvm.Y9.Aim.callS (argsL := [(.long (tt.toInt64))]) (rest := []) P0 hx hZ hml hown (wI hw 227 rfl) (wI hw 228 rfl) (wI hw 127 rfl) (wI hw 229 rfl) (by decide) (Jvm.Y9.Con.back (W := 0) (own_absJ l Z a0 hw (tt.toInt64) h0 n0 Z0) hZ (wI hw 229 rfl) (wI hw 127 rfl) (by decide) (by decide)) rfl pd__28J_29J rfl (Nat.le_of_eq rfl) (hb hby e11_2) (by decide) (by decide) ?_
  intro z0 z1 z2 z3 z4
  obtain ⟨rfl, rfl⟩ := z4
  have H := z3.here
  refine Jvm.Y9.Aim.of (T' := z0) (g' := (mkF m 9 #[.val (.int tt), .val (.long (absJ (tt.toInt64))), .second, .val (.int 1)] [(.long (absJ (tt.toInt64)))])) (fun tgt kt => ?_) ?_
  · refine XS.lstoreN H hx rfl (hb hby e11_5) rfl (l' := #[.val (.int tt), .val (.long (absJ (tt.toInt64))), .second, .unset]) rfl ?_
    refine XS.iconst H hx rfl (hb hby e11_6) ?_
    refine XS.istoreN H hx rfl (hb hby e11_7) rfl (l' := #[.val (.int tt), .val (.long (absJ (tt.toInt64))), .second, .val (.int 1)]) rfl ?_
    refine XS.lloadN H hx rfl (hb hby e11_8) rfl ?_
    exact kt
  refine Jvm.Y9.Aim.ldcJ z3 hx hZ hown (wI hw 230 rfl) (hb hby e11_9) ?_
  have H := z3.here
  refine Jvm.Y9.Aim.of (T' := z0) (g' := (mkF m 13 #[.val (.int tt), .val (.long (absJ (tt.toInt64))), .second, .val (.int 1)] [(.int (lcmpW (absJ (tt.toInt64)) (10 : Int64)))])) (fun tgt kt => ?_) ?_
  · refine XS.lcmp H hx rfl (hb hby e11_12) rfl ?_
    exact kt
  by_cases z5 : (lcmpW (absJ (tt.toInt64)) (10 : Int64)) < (0 : Int32)
  · skip
    have H := z3.here
    refine Jvm.Y9.Aim.of (T' := z0) (g' := (mkF m 19 #[.val (.int tt), .val (.long (absJ (tt.toInt64))), .second, .val (.int 1)] [(.long (absJ (tt.toInt64)))])) (fun tgt kt => ?_) ?_
    · refine XS.ifYes H hx rfl (pc0 := 13) (pc' := 18) rfl (hb hby e11_13) rfl ((if0 _ _).trans (tlt z5).1) (by decide) (by decide) ?_
      refine XS.lloadN H hx rfl (hb hby e11_18) rfl ?_
      exact kt
    refine Jvm.Y9.Aim.ldcJ z3 hx hZ hown (wI hw 231 rfl) (hb hby e11_19) ?_
    have H := z3.here
    refine Jvm.Y9.Aim.of (T' := z0) (g' := (mkF m 29 #[.val (.int tt), .val (.long (absJ (tt.toInt64))), .second, .val (.int 1)] [(.long (absJ (tt.toInt64)))])) (fun tgt kt => ?_) ?_
    · refine XS.lcmp H hx rfl (hb hby e11_22) rfl ?_
      refine XS.ifYes H hx rfl (pc0 := 23) (pc' := 28) rfl (hb hby e11_23) rfl ((if0 _ _).trans (tlt (wid_mono z5 (by decide))).1) (by decide) (by decide) ?_
      refine XS.lloadN H hx rfl (hb hby e11_28) rfl ?_
      exact kt
    refine Jvm.Y9.Aim.ldcJ z3 hx hZ hown (wI hw 232 rfl) (hb hby e11_29) ?_
    have H := z3.here
    refine Jvm.Y9.Aim.of (T' := z0) (g' := (mkF m 39 #[.val (.int tt), .val (.long (absJ (tt.toInt64))), .second, .val (.int 1)] [(.long (absJ (tt.toInt64)))])) (fun tgt kt => ?_) ?_
    · refine XS.lcmp H hx rfl (hb hby e11_32) rfl ?_
      refine XS.ifYes H hx rfl (pc0 := 33) (pc' := 38) rfl (hb hby e11_33) rfl ((if0 _ _).trans (tlt (wid_mono z5 (by decide))).1) (by decide) (by decide) ?_
      refine XS.lloadN H hx rfl (hb hby e11_38) rfl ?_
      exact kt
    refine Jvm.Y9.Aim.ldcJ z3 hx hZ hown (wI hw 233 rfl) (hb hby e11_39) ?_
    have H := z3.here
    refine Jvm.Y9.Aim.of (T' := z0) (g' := (mkF m 49 #[.val (.int tt), .val (.long (absJ (tt.toInt64))), .second, .val (.int 1)] [(.long (absJ (tt.toInt64)))])) (fun tgt kt => ?_) ?_
    · refine XS.lcmp H hx rfl (hb hby e11_42) rfl ?_
      refine XS.ifYes H hx rfl (pc0 := 43) (pc' := 48) rfl (hb hby e11_43) rfl ((if0 _ _).trans (tlt (wid_mono z5 (by decide))).1) (by decide) (by decide) ?_
      refine XS.lloadN H hx rfl (hb hby e11_48) rfl ?_
      exact kt
    refine Jvm.Y9.Aim.ldcJ z3 hx hZ hown (wI hw 234 rfl) (hb hby e11_49) ?_
    have H := z3.here
    refine Jvm.Y9.Aim.of (T' := z0) (g' := (mkF m 60 #[.val (.int tt), .val (.long (absJ (tt.toInt64))), .second, .val (.int 1)] [(.long (absJ (tt.toInt64)))])) (fun tgt kt => ?_) ?_
    · refine XS.lcmp H hx rfl (hb hby e11_52) rfl ?_
      refine XS.ifYes H hx rfl (pc0 := 53) (pc' := 59) rfl (hb hby e11_53) rfl ((if0 _ _).trans (tlt (wid_mono z5 (by decide))).1) (by decide) (by decide) ?_
      refine XS.lloadN H hx rfl (hb hby e11_59) rfl ?_
      exact kt
    refine Jvm.Y9.Aim.ldcJ z3 hx hZ hown (wI hw 235 rfl) (hb hby e11_60) ?_
    have H := z3.here
    refine Jvm.Y9.Aim.of (T' := z0) (g' := (mkF m 71 #[.val (.int tt), .val (.long (absJ (tt.toInt64))), .second, .val (.int 1)] [(.long (absJ (tt.toInt64)))])) (fun tgt kt => ?_) ?_
    · refine XS.lcmp H hx rfl (hb hby e11_63) rfl ?_
      refine XS.ifYes H hx rfl (pc0 := 64) (pc' := 70) rfl (hb hby e11_64) rfl ((if0 _ _).trans (tlt (wid_mono z5 (by decide))).1) (by decide) (by decide) ?_
      refine XS.lloadN H hx rfl (hb hby e11_70) rfl ?_
      exact kt
    refine Jvm.Y9.Aim.ldcJ z3 hx hZ hown (wI hw 236 rfl) (hb hby e11_71) ?_
    have H := z3.here
    refine Jvm.Y9.Aim.of (T' := z0) (g' := (mkF m 82 #[.val (.int tt), .val (.long (absJ (tt.toInt64))), .second, .val (.int 1)] [(.long (absJ (tt.toInt64)))])) (fun tgt kt => ?_) ?_
    · refine XS.lcmp H hx rfl (hb hby e11_74) rfl ?_
      refine XS.ifYes H hx rfl (pc0 := 75) (pc' := 81) rfl (hb hby e11_75) rfl ((if0 _ _).trans (tlt (wid_mono z5 (by decide))).1) (by decide) (by decide) ?_
      refine XS.lloadN H hx rfl (hb hby e11_81) rfl ?_
      exact kt
    refine Jvm.Y9.Aim.ldcJ z3 hx hZ hown (wI hw 237 rfl) (hb hby e11_82) ?_
    have H := z3.here
    refine Jvm.Y9.Aim.of (T' := z0) (g' := (mkF m 93 #[.val (.int tt), .val (.long (absJ (tt.toInt64))), .second, .val (.int 1)] [(.long (absJ (tt.toInt64)))])) (fun tgt kt => ?_) ?_
    · refine XS.lcmp H hx rfl (hb hby e11_85) rfl ?_
      refine XS.ifYes H hx rfl (pc0 := 86) (pc' := 92) rfl (hb hby e11_86) rfl ((if0 _ _).trans (tlt (wid_mono z5 (by decide))).1) (by decide) (by decide) ?_
      refine XS.lloadN H hx rfl (hb hby e11_92) rfl ?_
      exact kt
    refine Jvm.Y9.Aim.ldcJ z3 hx hZ hown (wI hw 238 rfl) (hb hby e11_93) ?_
    have H := z3.here
    refine Jvm.Y9.Aim.of (T' := z0) (g' := (mkF m 104 #[.val (.int tt), .val (.long (absJ (tt.toInt64))), .second, .val (.int 1)] [(.int tt)])) (fun tgt kt => ?_) ?_
    · refine XS.lcmp H hx rfl (hb hby e11_96) rfl ?_
      refine XS.ifYes H hx rfl (pc0 := 97) (pc' := 103) rfl (hb hby e11_97) rfl ((if0 _ _).trans (tlt (wid_mono z5 (by decide))).1) (by decide) (by decide) ?_
      refine XS.iloadN H hx rfl (hb hby e11_103) rfl ?_
      exact kt
    by_cases z6 : tt < (0 : Int32)
    · skip
      have H := z3.here
      refine Jvm.Y9.Aim.of (T' := z0) (g' := (mkF m 114 #[.val (.int tt), .val (.long (absJ (tt.toInt64))), .second, .val (.int 1)] [(.int 2)])) (fun tgt kt => ?_) ?_
      · refine XS.ifNo H hx rfl (hb hby e11_104) rfl ((if0 _ _).trans (tlt z6).2.1) ?_
        refine XS.iloadN H hx rfl (hb hby e11_107) rfl ?_
        refine XS.iconst H hx rfl (hb hby e11_108) ?_
        refine XS.iadd H hx rfl (hb hby e11_109) rfl ?_
        refine XS.goto H hx rfl (pc0 := 110) (pc' := 114) rfl (hb hby e11_110) (by decide) (by decide) ?_
        exact kt
      exact Jvm.Y9.Aim.retI z3 hx hlk hret (hb hby e11_114) (by decide) (by decide) ⟨(by rw [wid_of (dig_1 z5) (d := 1) rfl, if_pos z6]; rfl), rfl⟩
    · skip
      have H := z3.here
      refine Jvm.Y9.Aim.of (T' := z0) (g' := (mkF m 114 #[.val (.int tt), .val (.long (absJ (tt.toInt64))), .second, .val (.int 1)] [(.int 1)])) (fun tgt kt => ?_) ?_
      · refine XS.ifYes H hx rfl (pc0 := 104) (pc' := 113) rfl (hb hby e11_104) rfl ((if0 _ _).trans (flt z6).2.1) (by decide) (by decide) ?_
        refine XS.iloadN H hx rfl (hb hby e11_113) rfl ?_
        exact kt
      exact Jvm.Y9.Aim.retI z3 hx hlk hret (hb hby e11_114) (by decide) (by decide) ⟨(by rw [wid_of (dig_1 z5) (d := 1) rfl, if_neg z6]), rfl⟩
  · skip
    have H := z3.here
    refine Jvm.Y9.Aim.of (T' := z0) (g' := (mkF m 19 #[.val (.int tt), .val (.long (absJ (tt.toInt64))), .second, .val (.int 2)] [(.long (absJ (tt.toInt64)))])) (fun tgt kt => ?_) ?_
    · refine XS.ifNo H hx rfl (hb hby e11_13) rfl ((if0 _ _).trans (flt z5).1) ?_
      refine XS.iconst H hx rfl (hb hby e11_16) ?_
      refine XS.istoreN H hx rfl (hb hby e11_17) rfl (l' := #[.val (.int tt), .val (.long (absJ (tt.toInt64))), .second, .val (.int 2)]) rfl ?_
      refine XS.lloadN H hx rfl (hb hby e11_18) rfl ?_
      exact kt
    refine Jvm.Y9.Aim.ldcJ z3 hx hZ hown (wI hw 231 rfl) (hb hby e11_19) ?_
    have H := z3.here
    refine Jvm.Y9.Aim.of (T' := z0) (g' := (mkF m 23 #[.val (.int tt), .val (.long (absJ (tt.toInt64))), .second, .val (.int 2)] [(.int (lcmpW (absJ (tt.toInt64)) (100 : Int64)))])) (fun tgt kt => ?_) ?_
    · refine XS.lcmp H hx rfl (hb hby e11_22) rfl ?_
      exact kt
    by_cases z7 : (lcmpW (absJ (tt.toInt64)) (100 : Int64)) < (0 : Int32)
    · skip
      have H := z3.here
      refine Jvm.Y9.Aim.of (T' := z0) (g' := (mkF m 29 #[.val (.int tt), .val (.long (absJ (tt.toInt64))), .second, .val (.int 2)] [(.long (absJ (tt.toInt64)))])) (fun tgt kt => ?_) ?_
      · refine XS.ifYes H hx rfl (pc0 := 23) (pc' := 28) rfl (hb hby e11_23) rfl ((if0 _ _).trans (tlt z7).1) (by decide) (by decide) ?_
        refine XS.lloadN H hx rfl (hb hby e11_28) rfl ?_
        exact kt
      refine Jvm.Y9.Aim.ldcJ z3 hx hZ hown (wI hw 232 rfl) (hb hby e11_29) ?_
      have H := z3.here
      refine Jvm.Y9.Aim.of (T' := z0) (g' := (mkF m 39 #[.val (.int tt), .val (.long (absJ (tt.toInt64))), .second, .val (.int 2)] [(.long (absJ (tt.toInt64)))])) (fun tgt kt => ?_) ?_
      · refine XS.lcmp H hx rfl (hb hby e11_32) rfl ?_
        refine XS.ifYes H hx rfl (pc0 := 33) (pc' := 38) rfl (hb hby e11_33) rfl ((if0 _ _).trans (tlt (wid_mono z7 (by decide))).1) (by decide) (by decide) ?_
        refine XS.lloadN H hx rfl (hb hby e11_38) rfl ?_
        exact kt
      refine Jvm.Y9.Aim.ldcJ z3 hx hZ hown (wI hw 233 rfl) (hb hby e11_39) ?_
      have H := z3.here
      refine Jvm.Y9.Aim.of (T' := z0) (g' := (mkF m 49 #[.val (.int tt), .val (.long (absJ (tt.toInt64))), .second, .val (.int 2)] [(.long (absJ (tt.toInt64)))])) (fun tgt kt => ?_) ?_
      · refine XS.lcmp H hx rfl (hb hby e11_42) rfl ?_
        refine XS.ifYes H hx rfl (pc0 := 43) (pc' := 48) rfl (hb hby e11_43) rfl ((if0 _ _).trans (tlt (wid_mono z7 (by decide))).1) (by decide) (by decide) ?_
        refine XS.lloadN H hx rfl (hb hby e11_48) rfl ?_
        exact kt
      refine Jvm.Y9.Aim.ldcJ z3 hx hZ hown (wI hw 234 rfl) (hb hby e11_49) ?_
      have H := z3.here
      refine Jvm.Y9.Aim.of (T' := z0) (g' := (mkF m 60 #[.val (.int tt), .val (.long (absJ (tt.toInt64))), .second, .val (.int 2)] [(.long (absJ (tt.toInt64)))])) (fun tgt kt => ?_) ?_
      · refine XS.lcmp H hx rfl (hb hby e11_52) rfl ?_
        refine XS.ifYes H hx rfl (pc0 := 53) (pc' := 59) rfl (hb hby e11_53) rfl ((if0 _ _).trans (tlt (wid_mono z7 (by decide))).1) (by decide) (by decide) ?_
        refine XS.lloadN H hx rfl (hb hby e11_59) rfl ?_
        exact kt
      refine Jvm.Y9.Aim.ldcJ z3 hx hZ hown (wI hw 235 rfl) (hb hby e11_60) ?_
      have H := z3.here
      refine Jvm.Y9.Aim.of (T' := z0) (g' := (mkF m 71 #[.val (.int tt), .val (.long (absJ (tt.toInt64))), .second, .val (.int 2)] [(.long (absJ (tt.toInt64)))])) (fun tgt kt => ?_) ?_
      · refine XS.lcmp H hx rfl (hb hby e11_63) rfl ?_
        refine XS.ifYes H hx rfl (pc0 := 64) (pc' := 70) rfl (hb hby e11_64) rfl ((if0 _ _).trans (tlt (wid_mono z7 (by decide))).1) (by decide) (by decide) ?_
        refine XS.lloadN H hx rfl (hb hby e11_70) rfl ?_
        exact kt
      refine Jvm.Y9.Aim.ldcJ z3 hx hZ hown (wI hw 236 rfl) (hb hby e11_71) ?_
      have H := z3.here
      refine Jvm.Y9.Aim.of (T' := z0) (g' := (mkF m 82 #[.val (.int tt), .val (.long (absJ (tt.toInt64))), .second, .val (.int 2)] [(.long (absJ (tt.toInt64)))])) (fun tgt kt => ?_) ?_
      · refine XS.lcmp H hx rfl (hb hby e11_74) rfl ?_
        refine XS.ifYes H hx rfl (pc0 := 75) (pc' := 81) rfl (hb hby e11_75) rfl ((if0 _ _).trans (tlt (wid_mono z7 (by decide))).1) (by decide) (by decide) ?_
        refine XS.lloadN H hx rfl (hb hby e11_81) rfl ?_
        exact kt
      refine Jvm.Y9.Aim.ldcJ z3 hx hZ hown (wI hw 237 rfl) (hb hby e11_82) ?_
      have H := z3.here
      refine Jvm.Y9.Aim.of (T' := z0) (g' := (mkF m 93 #[.val (.int tt), .val (.long (absJ (tt.toInt64))), .second, .val (.int 2)] [(.long (absJ (tt.toInt64)))])) (fun tgt kt => ?_) ?_
      · refine XS.lcmp H hx rfl (hb hby e11_85) rfl ?_
        refine XS.ifYes H hx rfl (pc0 := 86) (pc' := 92) rfl (hb hby e11_86) rfl ((if0 _ _).trans (tlt (wid_mono z7 (by decide))).1) (by decide) (by decide) ?_
        refine XS.lloadN H hx rfl (hb hby e11_92) rfl ?_
        exact kt
      refine Jvm.Y9.Aim.ldcJ z3 hx hZ hown (wI hw 238 rfl) (hb hby e11_93) ?_
      have H := z3.here
      refine Jvm.Y9.Aim.of (T' := z0) (g' := (mkF m 104 #[.val (.int tt), .val (.long (absJ (tt.toInt64))), .second, .val (.int 2)] [(.int tt)])) (fun tgt kt => ?_) ?_
      · refine XS.lcmp H hx rfl (hb hby e11_96) rfl ?_
        refine XS.ifYes H hx rfl (pc0 := 97) (pc' := 103) rfl (hb hby e11_97) rfl ((if0 _ _).trans (tlt (wid_mono z7 (by decide))).1) (by decide) (by decide) ?_
        refine XS.iloadN H hx rfl (hb hby e11_103) rfl ?_
        exact kt
      by_cases z8 : tt < (0 : Int32)
      · skip
        have H := z3.here
        refine Jvm.Y9.Aim.of (T' := z0) (g' := (mkF m 114 #[.val (.int tt), .val (.long (absJ (tt.toInt64))), .second, .val (.int 2)] [(.int 3)])) (fun tgt kt => ?_) ?_
        · refine XS.ifNo H hx rfl (hb hby e11_104) rfl ((if0 _ _).trans (tlt z8).2.1) ?_
          refine XS.iloadN H hx rfl (hb hby e11_107) rfl ?_
          refine XS.iconst H hx rfl (hb hby e11_108) ?_
          refine XS.iadd H hx rfl (hb hby e11_109) rfl ?_
          refine XS.goto H hx rfl (pc0 := 110) (pc' := 114) rfl (hb hby e11_110) (by decide) (by decide) ?_
          exact kt
        exact Jvm.Y9.Aim.retI z3 hx hlk hret (hb hby e11_114) (by decide) (by decide) ⟨(by rw [wid_of (dig_2 z5 z7) (d := 2) rfl, if_pos z8]; rfl), rfl⟩
      · skip
        have H := z3.here
        refine Jvm.Y9.Aim.of (T' := z0) (g' := (mkF m 114 #[.val (.int tt), .val (.long (absJ (tt.toInt64))), .second, .val (.int 2)] [(.int 2)])) (fun tgt kt => ?_) ?_
        · refine XS.ifYes H hx rfl (pc0 := 104) (pc' := 113) rfl (hb hby e11_104) rfl ((if0 _ _).trans (flt z8).2.1) (by decide) (by decide) ?_
          refine XS.iloadN H hx rfl (hb hby e11_113) rfl ?_
          exact kt
        exact Jvm.Y9.Aim.retI z3 hx hlk hret (hb hby e11_114) (by decide) (by decide) ⟨(by rw [wid_of (dig_2 z5 z7) (d := 2) rfl, if_neg z8]), rfl⟩
    · skip
      have H := z3.here
      refine Jvm.Y9.Aim.of (T' := z0) (g' := (mkF m 29 #[.val (.int tt), .val (.long (absJ (tt.toInt64))), .second, .val (.int 3)] [(.long (absJ (tt.toInt64)))])) (fun tgt kt => ?_) ?_
      · refine XS.ifNo H hx rfl (hb hby e11_23) rfl ((if0 _ _).trans (flt z7).1) ?_
        refine XS.iconst H hx rfl (hb hby e11_26) ?_
        refine XS.istoreN H hx rfl (hb hby e11_27) rfl (l' := #[.val (.int tt), .val (.long (absJ (tt.toInt64))), .second, .val (.int 3)]) rfl ?_
        refine XS.lloadN H hx rfl (hb hby e11_28) rfl ?_
        exact kt
      refine Jvm.Y9.Aim.ldcJ z3 hx hZ hown (wI hw 232 rfl) (hb hby e11_29) ?_
      have H := z3.here
      refine Jvm.Y9.Aim.of (T' := z0) (g' := (mkF m 33 #[.val (.int tt), .val (.long (absJ (tt.toInt64))), .second, .val (.int 3)] [(.int (lcmpW (absJ (tt.toInt64)) (1000 : Int64)))])) (fun tgt kt => ?_) ?_
      · refine XS.lcmp H hx rfl (hb hby e11_32) rfl ?_
        exact kt
      by_cases z9 : (lcmpW (absJ (tt.toInt64)) (1000 : Int64)) < (0 : Int32)
      · skip
        have H := z3.here
        refine Jvm.Y9.Aim.of (T' := z0) (g' := (mkF m 39 #[.val (.int tt), .val (.long (absJ (tt.toInt64))), .second, .val (.int 3)] [(.long (absJ (tt.toInt64)))])) (fun tgt kt => ?_) ?_
        · refine XS.ifYes H hx rfl (pc0 := 33) (pc' := 38) rfl (hb hby e11_33) rfl ((if0 _ _).trans (tlt z9).1) (by decide) (by decide) ?_
          refine XS.lloadN H hx rfl (hb hby e11_38) rfl ?_
          exact kt
        refine Jvm.Y9.Aim.ldcJ z3 hx hZ hown (wI hw 233 rfl) (hb hby e11_39) ?_
        have H := z3.here
        refine Jvm.Y9.Aim.of (T' := z0) (g' := (mkF m 49 #[.val (.int tt), .val (.long (absJ (tt.toInt64))), .second, .val (.int 3)] [(.long (absJ (tt.toInt64)))])) (fun tgt kt => ?_) ?_
        · refine XS.lcmp H hx rfl (hb hby e11_42) rfl ?_
          refine XS.ifYes H hx rfl (pc0 := 43) (pc' := 48) rfl (hb hby e11_43) rfl ((if0 _ _).trans (tlt (wid_mono z9 (by decide))).1) (by decide) (by decide) ?_
          refine XS.lloadN H hx rfl (hb hby e11_48) rfl ?_
          exact kt
        refine Jvm.Y9.Aim.ldcJ z3 hx hZ hown (wI hw 234 rfl) (hb hby e11_49) ?_
        have H := z3.here
        refine Jvm.Y9.Aim.of (T' := z0) (g' := (mkF m 60 #[.val (.int tt), .val (.long (absJ (tt.toInt64))), .second, .val (.int 3)] [(.long (absJ (tt.toInt64)))])) (fun tgt kt => ?_) ?_
        · refine XS.lcmp H hx rfl (hb hby e11_52) rfl ?_
          refine XS.ifYes H hx rfl (pc0 := 53) (pc' := 59) rfl (hb hby e11_53) rfl ((if0 _ _).trans (tlt (wid_mono z9 (by decide))).1) (by decide) (by decide) ?_
          refine XS.lloadN H hx rfl (hb hby e11_59) rfl ?_
          exact kt
        refine Jvm.Y9.Aim.ldcJ z3 hx hZ hown (wI hw 235 rfl) (hb hby e11_60) ?_
        have H := z3.here
        refine Jvm.Y9.Aim.of (T' := z0) (g' := (mkF m 71 #[.val (.int tt), .val (.long (absJ (tt.toInt64))), .second, .val (.int 3)] [(.long (absJ (tt.toInt64)))])) (fun tgt kt => ?_) ?_
        · refine XS.lcmp H hx rfl (hb hby e11_63) rfl ?_
          refine XS.ifYes H hx rfl (pc0 := 64) (pc' := 70) rfl (hb hby e11_64) rfl ((if0 _ _).trans (tlt (wid_mono z9 (by decide))).1) (by decide) (by decide) ?_
          refine XS.lloadN H hx rfl (hb hby e11_70) rfl ?_
          exact kt
        refine Jvm.Y9.Aim.ldcJ z3 hx hZ hown (wI hw 236 rfl) (hb hby e11_71) ?_
        have H := z3.here
        refine Jvm.Y9.Aim.of (T' := z0) (g' := (mkF m 82 #[.val (.int tt), .val (.long (absJ (tt.toInt64))), .second, .val (.int 3)] [(.long (absJ (tt.toInt64)))])) (fun tgt kt => ?_) ?_
        · refine XS.lcmp H hx rfl (hb hby e11_74) rfl ?_
          refine XS.ifYes H hx rfl (pc0 := 75) (pc' := 81) rfl (hb hby e11_75) rfl ((if0 _ _).trans (tlt (wid_mono z9 (by decide))).1) (by decide) (by decide) ?_
          refine XS.lloadN H hx rfl (hb hby e11_81) rfl ?_
          exact kt
        refine Jvm.Y9.Aim.ldcJ z3 hx hZ hown (wI hw 237 rfl) (hb hby e11_82) ?_
        have H := z3.here
        refine Jvm.Y9.Aim.of (T' := z0) (g' := (mkF m 93 #[.val (.int tt), .val (.long (absJ (tt.toInt64))), .second, .val (.int 3)] [(.long (absJ (tt.toInt64)))])) (fun tgt kt => ?_) ?_
        · refine XS.lcmp H hx rfl (hb hby e11_85) rfl ?_
          refine XS.ifYes H hx rfl (pc0 := 86) (pc' := 92) rfl (hb hby e11_86) rfl ((if0 _ _).trans (tlt (wid_mono z9 (by decide))).1) (by decide) (by decide) ?_
          refine XS.lloadN H hx rfl (hb hby e11_92) rfl ?_
          exact kt
        refine Jvm.Y9.Aim.ldcJ z3 hx hZ hown (wI hw 238 rfl) (hb hby e11_93) ?_
        have H := z3.here
        refine Jvm.Y9.Aim.of (T' := z0) (g' := (mkF m 104 #[.val (.int tt), .val (.long (absJ (tt.toInt64))), .second, .val (.int 3)] [(.int tt)])) (fun tgt kt => ?_) ?_
        · refine XS.lcmp H hx rfl (hb hby e11_96) rfl ?_
          refine XS.ifYes H hx rfl (pc0 := 97) (pc' := 103) rfl (hb hby e11_97) rfl ((if0 _ _).trans (tlt (wid_mono z9 (by decide))).1) (by decide) (by decide) ?_
          refine XS.iloadN H hx rfl (hb hby e11_103) rfl ?_
          exact kt
        by_cases za : tt < (0 : Int32)
        · skip
          have H := z3.here
          refine Jvm.Y9.Aim.of (T' := z0) (g' := (mkF m 114 #[.val (.int tt), .val (.long (absJ (tt.toInt64))), .second, .val (.int 3)] [(.int 4)])) (fun tgt kt => ?_) ?_
          · refine XS.ifNo H hx rfl (hb hby e11_104) rfl ((if0 _ _).trans (tlt za).2.1) ?_
            refine XS.iloadN H hx rfl (hb hby e11_107) rfl ?_
            refine XS.iconst H hx rfl (hb hby e11_108) ?_
            refine XS.iadd H hx rfl (hb hby e11_109) rfl ?_
            refine XS.goto H hx rfl (pc0 := 110) (pc' := 114) rfl (hb hby e11_110) (by decide) (by decide) ?_
            exact kt
          exact Jvm.Y9.Aim.retI z3 hx hlk hret (hb hby e11_114) (by decide) (by decide) ⟨(by rw [wid_of (dig_3 z7 z9) (d := 3) rfl, if_pos za]; rfl), rfl⟩
        · skip
          have H := z3.here
          refine Jvm.Y9.Aim.of (T' := z0) (g' := (mkF m 114 #[.val (.int tt), .val (.long (absJ (tt.toInt64))), .second, .val (.int 3)] [(.int 3)])) (fun tgt kt => ?_) ?_
          · refine XS.ifYes H hx rfl (pc0 := 104) (pc' := 113) rfl (hb hby e11_104) rfl ((if0 _ _).trans (flt za).2.1) (by decide) (by decide) ?_
            refine XS.iloadN H hx rfl (hb hby e11_113) rfl ?_
            exact kt
          exact Jvm.Y9.Aim.retI z3 hx hlk hret (hb hby e11_114) (by decide) (by decide) ⟨(by rw [wid_of (dig_3 z7 z9) (d := 3) rfl, if_neg za]), rfl⟩
      · skip
        have H := z3.here
        refine Jvm.Y9.Aim.of (T' := z0) (g' := (mkF m 39 #[.val (.int tt), .val (.long (absJ (tt.toInt64))), .second, .val (.int 4)] [(.long (absJ (tt.toInt64)))])) (fun tgt kt => ?_) ?_
        · refine XS.ifNo H hx rfl (hb hby e11_33) rfl ((if0 _ _).trans (flt z9).1) ?_
          refine XS.iconst H hx rfl (hb hby e11_36) ?_
          refine XS.istoreN H hx rfl (hb hby e11_37) rfl (l' := #[.val (.int tt), .val (.long (absJ (tt.toInt64))), .second, .val (.int 4)]) rfl ?_
          refine XS.lloadN H hx rfl (hb hby e11_38) rfl ?_
          exact kt
        refine Jvm.Y9.Aim.ldcJ z3 hx hZ hown (wI hw 233 rfl) (hb hby e11_39) ?_
        have H := z3.here
        refine Jvm.Y9.Aim.of (T' := z0) (g' := (mkF m 43 #[.val (.int tt), .val (.long (absJ (tt.toInt64))), .second, .val (.int 4)] [(.int (lcmpW (absJ (tt.toInt64)) (10000 : Int64)))])) (fun tgt kt => ?_) ?_
        · refine XS.lcmp H hx rfl (hb hby e11_42) rfl ?_
          exact kt
        by_cases zb : (lcmpW (absJ (tt.toInt64)) (10000 : Int64)) < (0 : Int32)
        · skip
          have H := z3.here
          refine Jvm.Y9.Aim.of (T' := z0) (g' := (mkF m 49 #[.val (.int tt), .val (.long (absJ (tt.toInt64))), .second, .val (.int 4)] [(.long (absJ (tt.toInt64)))])) (fun tgt kt => ?_) ?_
          · refine XS.ifYes H hx rfl (pc0 := 43) (pc' := 48) rfl (hb hby e11_43) rfl ((if0 _ _).trans (tlt zb).1) (by decide) (by decide) ?_
            refine XS.lloadN H hx rfl (hb hby e11_48) rfl ?_
            exact kt
          refine Jvm.Y9.Aim.ldcJ z3 hx hZ hown (wI hw 234 rfl) (hb hby e11_49) ?_
          have H := z3.here
          refine Jvm.Y9.Aim.of (T' := z0) (g' := (mkF m 60 #[.val (.int tt), .val (.long (absJ (tt.toInt64))), .second, .val (.int 4)] [(.long (absJ (tt.toInt64)))])) (fun tgt kt => ?_) ?_
          · refine XS.lcmp H hx rfl (hb hby e11_52) rfl ?_
            refine XS.ifYes H hx rfl (pc0 := 53) (pc' := 59) rfl (hb hby e11_53) rfl ((if0 _ _).trans (tlt (wid_mono zb (by decide))).1) (by decide) (by decide) ?_
            refine XS.lloadN H hx rfl (hb hby e11_59) rfl ?_
            exact kt
          refine Jvm.Y9.Aim.ldcJ z3 hx hZ hown (wI hw 235 rfl) (hb hby e11_60) ?_
          have H := z3.here
          refine Jvm.Y9.Aim.of (T' := z0) (g' := (mkF m 71 #[.val (.int tt), .val (.long (absJ (tt.toInt64))), .second, .val (.int 4)] [(.long (absJ (tt.toInt64)))])) (fun tgt kt => ?_) ?_
          · refine XS.lcmp H hx rfl (hb hby e11_63) rfl ?_
            refine XS.ifYes H hx rfl (pc0 := 64) (pc' := 70) rfl (hb hby e11_64) rfl ((if0 _ _).trans (tlt (wid_mono zb (by decide))).1) (by decide) (by decide) ?_
            refine XS.lloadN H hx rfl (hb hby e11_70) rfl ?_
            exact kt
          refine Jvm.Y9.Aim.ldcJ z3 hx hZ hown (wI hw 236 rfl) (hb hby e11_71) ?_
          have H := z3.here
          refine Jvm.Y9.Aim.of (T' := z0) (g' := (mkF m 82 #[.val (.int tt), .val (.long (absJ (tt.toInt64))), .second, .val (.int 4)] [(.long (absJ (tt.toInt64)))])) (fun tgt kt => ?_) ?_
          · refine XS.lcmp H hx rfl (hb hby e11_74) rfl ?_
            refine XS.ifYes H hx rfl (pc0 := 75) (pc' := 81) rfl (hb hby e11_75) rfl ((if0 _ _).trans (tlt (wid_mono zb (by decide))).1) (by decide) (by decide) ?_
            refine XS.lloadN H hx rfl (hb hby e11_81) rfl ?_
            exact kt
          refine Jvm.Y9.Aim.ldcJ z3 hx hZ hown (wI hw 237 rfl) (hb hby e11_82) ?_
          have H := z3.here
          refine Jvm.Y9.Aim.of (T' := z0) (g' := (mkF m 93 #[.val (.int tt), .val (.long (absJ (tt.toInt64))), .second, .val (.int 4)] [(.long (absJ (tt.toInt64)))])) (fun tgt kt => ?_) ?_
          · refine XS.lcmp H hx rfl (hb hby e11_85) rfl ?_
            refine XS.ifYes H hx rfl (pc0 := 86) (pc' := 92) rfl (hb hby e11_86) rfl ((if0 _ _).trans (tlt (wid_mono zb (by decide))).1) (by decide) (by decide) ?_
            refine XS.lloadN H hx rfl (hb hby e11_92) rfl ?_
            exact kt
          refine Jvm.Y9.Aim.ldcJ z3 hx hZ hown (wI hw 238 rfl) (hb hby e11_93) ?_
          have H := z3.here
          refine Jvm.Y9.Aim.of (T' := z0) (g' := (mkF m 104 #[.val (.int tt), .val (.long (absJ (tt.toInt64))), .second, .val (.int 4)] [(.int tt)])) (fun tgt kt => ?_) ?_
          · refine XS.lcmp H hx rfl (hb hby e11_96) rfl ?_
            refine XS.ifYes H hx rfl (pc0 := 97) (pc' := 103) rfl (hb hby e11_97) rfl ((if0 _ _).trans (tlt (wid_mono zb (by decide))).1) (by decide) (by decide) ?_
            refine XS.iloadN H hx rfl (hb hby e11_103) rfl ?_
            exact kt
          by_cases zc : tt < (0 : Int32)
          · skip
            have H := z3.here
            refine Jvm.Y9.Aim.of (T' := z0) (g' := (mkF m 114 #[.val (.int tt), .val (.long (absJ (tt.toInt64))), .second, .val (.int 4)] [(.int 5)])) (fun tgt kt => ?_) ?_
            · refine XS.ifNo H hx rfl (hb hby e11_104) rfl ((if0 _ _).trans (tlt zc).2.1) ?_
              refine XS.iloadN H hx rfl (hb hby e11_107) rfl ?_
              refine XS.iconst H hx rfl (hb hby e11_108) ?_
              refine XS.iadd H hx rfl (hb hby e11_109) rfl ?_
              refine XS.goto H hx rfl (pc0 := 110) (pc' := 114) rfl (hb hby e11_110) (by decide) (by decide) ?_
              exact kt
            exact Jvm.Y9.Aim.retI z3 hx hlk hret (hb hby e11_114) (by decide) (by decide) ⟨(by rw [wid_of (dig_4 z9 zb) (d := 4) rfl, if_pos zc]; rfl), rfl⟩
          · skip
            have H := z3.here
            refine Jvm.Y9.Aim.of (T' := z0) (g' := (mkF m 114 #[.val (.int tt), .val (.long (absJ (tt.toInt64))), .second, .val (.int 4)] [(.int 4)])) (fun tgt kt => ?_) ?_
            · refine XS.ifYes H hx rfl (pc0 := 104) (pc' := 113) rfl (hb hby e11_104) rfl ((if0 _ _).trans (flt zc).2.1) (by decide) (by decide) ?_
              refine XS.iloadN H hx rfl (hb hby e11_113) rfl ?_
              exact kt
            exact Jvm.Y9.Aim.retI z3 hx hlk hret (hb hby e11_114) (by decide) (by decide) ⟨(by rw [wid_of (dig_4 z9 zb) (d := 4) rfl, if_neg zc]), rfl⟩
        · skip
          have H := z3.here
          refine Jvm.Y9.Aim.of (T' := z0) (g' := (mkF m 49 #[.val (.int tt), .val (.long (absJ (tt.toInt64))), .second, .val (.int 5)] [(.long (absJ (tt.toInt64)))])) (fun tgt kt => ?_) ?_
          · refine XS.ifNo H hx rfl (hb hby e11_43) rfl ((if0 _ _).trans (flt zb).1) ?_
            refine XS.iconst H hx rfl (hb hby e11_46) ?_
            refine XS.istoreN H hx rfl (hb hby e11_47) rfl (l' := #[.val (.int tt), .val (.long (absJ (tt.toInt64))), .second, .val (.int 5)]) rfl ?_
            refine XS.lloadN H hx rfl (hb hby e11_48) rfl ?_
            exact kt
          refine Jvm.Y9.Aim.ldcJ z3 hx hZ hown (wI hw 234 rfl) (hb hby e11_49) ?_
          have H := z3.here
          refine Jvm.Y9.Aim.of (T' := z0) (g' := (mkF m 53 #[.val (.int tt), .val (.long (absJ (tt.toInt64))), .second, .val (.int 5)] [(.int (lcmpW (absJ (tt.toInt64)) (100000 : Int64)))])) (fun tgt kt => ?_) ?_
          · refine XS.lcmp H hx rfl (hb hby e11_52) rfl ?_
            exact kt
          by_cases zd : (lcmpW (absJ (tt.toInt64)) (100000 : Int64)) < (0 : Int32)
          · skip
            have H := z3.here
            refine Jvm.Y9.Aim.of (T' := z0) (g' := (mkF m 60 #[.val (.int tt), .val (.long (absJ (tt.toInt64))), .second, .val (.int 5)] [(.long (absJ (tt.toInt64)))])) (fun tgt kt => ?_) ?_
            · refine XS.ifYes H hx rfl (pc0 := 53) (pc' := 59) rfl (hb hby e11_53) rfl ((if0 _ _).trans (tlt zd).1) (by decide) (by decide) ?_
              refine XS.lloadN H hx rfl (hb hby e11_59) rfl ?_
              exact kt
            refine Jvm.Y9.Aim.ldcJ z3 hx hZ hown (wI hw 235 rfl) (hb hby e11_60) ?_
            have H := z3.here
            refine Jvm.Y9.Aim.of (T' := z0) (g' := (mkF m 71 #[.val (.int tt), .val (.long (absJ (tt.toInt64))), .second, .val (.int 5)] [(.long (absJ (tt.toInt64)))])) (fun tgt kt => ?_) ?_
            · refine XS.lcmp H hx rfl (hb hby e11_63) rfl ?_
              refine XS.ifYes H hx rfl (pc0 := 64) (pc' := 70) rfl (hb hby e11_64) rfl ((if0 _ _).trans (tlt (wid_mono zd (by decide))).1) (by decide) (by decide) ?_
              refine XS.lloadN H hx rfl (hb hby e11_70) rfl ?_
              exact kt
            refine Jvm.Y9.Aim.ldcJ z3 hx hZ hown (wI hw 236 rfl) (hb hby e11_71) ?_
            have H := z3.here
            refine Jvm.Y9.Aim.of (T' := z0) (g' := (mkF m 82 #[.val (.int tt), .val (.long (absJ (tt.toInt64))), .second, .val (.int 5)] [(.long (absJ (tt.toInt64)))])) (fun tgt kt => ?_) ?_
            · refine XS.lcmp H hx rfl (hb hby e11_74) rfl ?_
              refine XS.ifYes H hx rfl (pc0 := 75) (pc' := 81) rfl (hb hby e11_75) rfl ((if0 _ _).trans (tlt (wid_mono zd (by decide))).1) (by decide) (by decide) ?_
              refine XS.lloadN H hx rfl (hb hby e11_81) rfl ?_
              exact kt
            refine Jvm.Y9.Aim.ldcJ z3 hx hZ hown (wI hw 237 rfl) (hb hby e11_82) ?_
            have H := z3.here
            refine Jvm.Y9.Aim.of (T' := z0) (g' := (mkF m 93 #[.val (.int tt), .val (.long (absJ (tt.toInt64))), .second, .val (.int 5)] [(.long (absJ (tt.toInt64)))])) (fun tgt kt => ?_) ?_
            · refine XS.lcmp H hx rfl (hb hby e11_85) rfl ?_
              refine XS.ifYes H hx rfl (pc0 := 86) (pc' := 92) rfl (hb hby e11_86) rfl ((if0 _ _).trans (tlt (wid_mono zd (by decide))).1) (by decide) (by decide) ?_
              refine XS.lloadN H hx rfl (hb hby e11_92) rfl ?_
              exact kt
            refine Jvm.Y9.Aim.ldcJ z3 hx hZ hown (wI hw 238 rfl) (hb hby e11_93) ?_
            have H := z3.here
            refine Jvm.Y9.Aim.of (T' := z0) (g' := (mkF m 104 #[.val (.int tt), .val (.long (absJ (tt.toInt64))), .second, .val (.int 5)] [(.int tt)])) (fun tgt kt => ?_) ?_
            · refine XS.lcmp H hx rfl (hb hby e11_96) rfl ?_
              refine XS.ifYes H hx rfl (pc0 := 97) (pc' := 103) rfl (hb hby e11_97) rfl ((if0 _ _).trans (tlt (wid_mono zd (by decide))).1) (by decide) (by decide) ?_
              refine XS.iloadN H hx rfl (hb hby e11_103) rfl ?_
              exact kt
            by_cases ze : tt < (0 : Int32)
            · skip
              have H := z3.here
              refine Jvm.Y9.Aim.of (T' := z0) (g' := (mkF m 114 #[.val (.int tt), .val (.long (absJ (tt.toInt64))), .second, .val (.int 5)] [(.int 6)])) (fun tgt kt => ?_) ?_
              · refine XS.ifNo H hx rfl (hb hby e11_104) rfl ((if0 _ _).trans (tlt ze).2.1) ?_
                refine XS.iloadN H hx rfl (hb hby e11_107) rfl ?_
                refine XS.iconst H hx rfl (hb hby e11_108) ?_
                refine XS.iadd H hx rfl (hb hby e11_109) rfl ?_
                refine XS.goto H hx rfl (pc0 := 110) (pc' := 114) rfl (hb hby e11_110) (by decide) (by decide) ?_
                exact kt
              exact Jvm.Y9.Aim.retI z3 hx hlk hret (hb hby e11_114) (by decide) (by decide) ⟨(by rw [wid_of (dig_5 zb zd) (d := 5) rfl, if_pos ze]; rfl), rfl⟩
            · skip
              have H := z3.here
              refine Jvm.Y9.Aim.of (T' := z0) (g' := (mkF m 114 #[.val (.int tt), .val (.long (absJ (tt.toInt64))), .second, .val (.int 5)] [(.int 5)])) (fun tgt kt => ?_) ?_
              · refine XS.ifYes H hx rfl (pc0 := 104) (pc' := 113) rfl (hb hby e11_104) rfl ((if0 _ _).trans (flt ze).2.1) (by decide) (by decide) ?_
                refine XS.iloadN H hx rfl (hb hby e11_113) rfl ?_
                exact kt
              exact Jvm.Y9.Aim.retI z3 hx hlk hret (hb hby e11_114) (by decide) (by decide) ⟨(by rw [wid_of (dig_5 zb zd) (d := 5) rfl, if_neg ze]), rfl⟩
          · skip
            have H := z3.here
            refine Jvm.Y9.Aim.of (T' := z0) (g' := (mkF m 60 #[.val (.int tt), .val (.long (absJ (tt.toInt64))), .second, .val (.int 6)] [(.long (absJ (tt.toInt64)))])) (fun tgt kt => ?_) ?_
            · refine XS.ifNo H hx rfl (hb hby e11_53) rfl ((if0 _ _).trans (flt zd).1) ?_
              refine XS.bipush H hx rfl (hb hby e11_56) ?_
              refine XS.istoreN H hx rfl (hb hby e11_58) rfl (l' := #[.val (.int tt), .val (.long (absJ (tt.toInt64))), .second, .val (.int 6)]) rfl ?_
              refine XS.lloadN H hx rfl (hb hby e11_59) rfl ?_
              exact kt
            refine Jvm.Y9.Aim.ldcJ z3 hx hZ hown (wI hw 235 rfl) (hb hby e11_60) ?_
            have H := z3.here
            refine Jvm.Y9.Aim.of (T' := z0) (g' := (mkF m 64 #[.val (.int tt), .val (.long (absJ (tt.toInt64))), .second, .val (.int 6)] [(.int (lcmpW (absJ (tt.toInt64)) (1000000 : Int64)))])) (fun tgt kt => ?_) ?_
            · refine XS.lcmp H hx rfl (hb hby e11_63) rfl ?_
              exact kt
            by_cases zf : (lcmpW (absJ (tt.toInt64)) (1000000 : Int64)) < (0 : Int32)
            · skip
              have H := z3.here
              refine Jvm.Y9.Aim.of (T' := z0) (g' := (mkF m 71 #[.val (.int tt), .val (.long (absJ (tt.toInt64))), .second, .val (.int 6)] [(.long (absJ (tt.toInt64)))])) (fun tgt kt => ?_) ?_
              · refine XS.ifYes H hx rfl (pc0 := 64) (pc' := 70) rfl (hb hby e11_64) rfl ((if0 _ _).trans (tlt zf).1) (by decide) (by decide) ?_
                refine XS.lloadN H hx rfl (hb hby e11_70) rfl ?_
                exact kt
              refine Jvm.Y9.Aim.ldcJ z3 hx hZ hown (wI hw 236 rfl) (hb hby e11_71) ?_
              have H := z3.here
              refine Jvm.Y9.Aim.of (T' := z0) (g' := (mkF m 82 #[.val (.int tt), .val (.long (absJ (tt.toInt64))), .second, .val (.int 6)] [(.long (absJ (tt.toInt64)))])) (fun tgt kt => ?_) ?_
              · refine XS.lcmp H hx rfl (hb hby e11_74) rfl ?_
                refine XS.ifYes H hx rfl (pc0 := 75) (pc' := 81) rfl (hb hby e11_75) rfl ((if0 _ _).trans (tlt (wid_mono zf (by decide))).1) (by decide) (by decide) ?_
                refine XS.lloadN H hx rfl (hb hby e11_81) rfl ?_
                exact kt
              refine Jvm.Y9.Aim.ldcJ z3 hx hZ hown (wI hw 237 rfl) (hb hby e11_82) ?_
              have H := z3.here
              refine Jvm.Y9.Aim.of (T' := z0) (g' := (mkF m 93 #[.val (.int tt), .val (.long (absJ (tt.toInt64))), .second, .val (.int 6)] [(.long (absJ (tt.toInt64)))])) (fun tgt kt => ?_) ?_
              · refine XS.lcmp H hx rfl (hb hby e11_85) rfl ?_
                refine XS.ifYes H hx rfl (pc0 := 86) (pc' := 92) rfl (hb hby e11_86) rfl ((if0 _ _).trans (tlt (wid_mono zf (by decide))).1) (by decide) (by decide) ?_
                refine XS.lloadN H hx rfl (hb hby e11_92) rfl ?_
                exact kt
              refine Jvm.Y9.Aim.ldcJ z3 hx hZ hown (wI hw 238 rfl) (hb hby e11_93) ?_
              have H := z3.here
              refine Jvm.Y9.Aim.of (T' := z0) (g' := (mkF m 104 #[.val (.int tt), .val (.long (absJ (tt.toInt64))), .second, .val (.int 6)] [(.int tt)])) (fun tgt kt => ?_) ?_
              · refine XS.lcmp H hx rfl (hb hby e11_96) rfl ?_
                refine XS.ifYes H hx rfl (pc0 := 97) (pc' := 103) rfl (hb hby e11_97) rfl ((if0 _ _).trans (tlt (wid_mono zf (by decide))).1) (by decide) (by decide) ?_
                refine XS.iloadN H hx rfl (hb hby e11_103) rfl ?_
                exact kt
              by_cases zg : tt < (0 : Int32)
              · skip
                have H := z3.here
                refine Jvm.Y9.Aim.of (T' := z0) (g' := (mkF m 114 #[.val (.int tt), .val (.long (absJ (tt.toInt64))), .second, .val (.int 6)] [(.int 7)])) (fun tgt kt => ?_) ?_
                · refine XS.ifNo H hx rfl (hb hby e11_104) rfl ((if0 _ _).trans (tlt zg).2.1) ?_
                  refine XS.iloadN H hx rfl (hb hby e11_107) rfl ?_
                  refine XS.iconst H hx rfl (hb hby e11_108) ?_
                  refine XS.iadd H hx rfl (hb hby e11_109) rfl ?_
                  refine XS.goto H hx rfl (pc0 := 110) (pc' := 114) rfl (hb hby e11_110) (by decide) (by decide) ?_
                  exact kt
                exact Jvm.Y9.Aim.retI z3 hx hlk hret (hb hby e11_114) (by decide) (by decide) ⟨(by rw [wid_of (dig_6 zd zf) (d := 6) rfl, if_pos zg]; rfl), rfl⟩
              · skip
                have H := z3.here
                refine Jvm.Y9.Aim.of (T' := z0) (g' := (mkF m 114 #[.val (.int tt), .val (.long (absJ (tt.toInt64))), .second, .val (.int 6)] [(.int 6)])) (fun tgt kt => ?_) ?_
                · refine XS.ifYes H hx rfl (pc0 := 104) (pc' := 113) rfl (hb hby e11_104) rfl ((if0 _ _).trans (flt zg).2.1) (by decide) (by decide) ?_
                  refine XS.iloadN H hx rfl (hb hby e11_113) rfl ?_
                  exact kt
                exact Jvm.Y9.Aim.retI z3 hx hlk hret (hb hby e11_114) (by decide) (by decide) ⟨(by rw [wid_of (dig_6 zd zf) (d := 6) rfl, if_neg zg]), rfl⟩
            · skip
              have H := z3.here
              refine Jvm.Y9.Aim.of (T' := z0) (g' := (mkF m 71 #[.val (.int tt), .val (.long (absJ (tt.toInt64))), .second, .val (.int 7)] [(.long (absJ (tt.toInt64)))])) (fun tgt kt => ?_) ?_
              · refine XS.ifNo H hx rfl (hb hby e11_64) rfl ((if0 _ _).trans (flt zf).1) ?_
                refine XS.bipush H hx rfl (hb hby e11_67) ?_
                refine XS.istoreN H hx rfl (hb hby e11_69) rfl (l' := #[.val (.int tt), .val (.long (absJ (tt.toInt64))), .second, .val (.int 7)]) rfl ?_
                refine XS.lloadN H hx rfl (hb hby e11_70) rfl ?_
                exact kt
              refine Jvm.Y9.Aim.ldcJ z3 hx hZ hown (wI hw 236 rfl) (hb hby e11_71) ?_
              have H := z3.here
              refine Jvm.Y9.Aim.of (T' := z0) (g' := (mkF m 75 #[.val (.int tt), .val (.long (absJ (tt.toInt64))), .second, .val (.int 7)] [(.int (lcmpW (absJ (tt.toInt64)) (10000000 : Int64)))])) (fun tgt kt => ?_) ?_
              · refine XS.lcmp H hx rfl (hb hby e11_74) rfl ?_
                exact kt
              by_cases zh : (lcmpW (absJ (tt.toInt64)) (10000000 : Int64)) < (0 : Int32)
              · skip
                have H := z3.here
                refine Jvm.Y9.Aim.of (T' := z0) (g' := (mkF m 82 #[.val (.int tt), .val (.long (absJ (tt.toInt64))), .second, .val (.int 7)] [(.long (absJ (tt.toInt64)))])) (fun tgt kt => ?_) ?_
                · refine XS.ifYes H hx rfl (pc0 := 75) (pc' := 81) rfl (hb hby e11_75) rfl ((if0 _ _).trans (tlt zh).1) (by decide) (by decide) ?_
                  refine XS.lloadN H hx rfl (hb hby e11_81) rfl ?_
                  exact kt
                refine Jvm.Y9.Aim.ldcJ z3 hx hZ hown (wI hw 237 rfl) (hb hby e11_82) ?_
                have H := z3.here
                refine Jvm.Y9.Aim.of (T' := z0) (g' := (mkF m 93 #[.val (.int tt), .val (.long (absJ (tt.toInt64))), .second, .val (.int 7)] [(.long (absJ (tt.toInt64)))])) (fun tgt kt => ?_) ?_
                · refine XS.lcmp H hx rfl (hb hby e11_85) rfl ?_
                  refine XS.ifYes H hx rfl (pc0 := 86) (pc' := 92) rfl (hb hby e11_86) rfl ((if0 _ _).trans (tlt (wid_mono zh (by decide))).1) (by decide) (by decide) ?_
                  refine XS.lloadN H hx rfl (hb hby e11_92) rfl ?_
                  exact kt
                refine Jvm.Y9.Aim.ldcJ z3 hx hZ hown (wI hw 238 rfl) (hb hby e11_93) ?_
                have H := z3.here
                refine Jvm.Y9.Aim.of (T' := z0) (g' := (mkF m 104 #[.val (.int tt), .val (.long (absJ (tt.toInt64))), .second, .val (.int 7)] [(.int tt)])) (fun tgt kt => ?_) ?_
                · refine XS.lcmp H hx rfl (hb hby e11_96) rfl ?_
                  refine XS.ifYes H hx rfl (pc0 := 97) (pc' := 103) rfl (hb hby e11_97) rfl ((if0 _ _).trans (tlt (wid_mono zh (by decide))).1) (by decide) (by decide) ?_
                  refine XS.iloadN H hx rfl (hb hby e11_103) rfl ?_
                  exact kt
                by_cases zi : tt < (0 : Int32)
                · skip
                  have H := z3.here
                  refine Jvm.Y9.Aim.of (T' := z0) (g' := (mkF m 114 #[.val (.int tt), .val (.long (absJ (tt.toInt64))), .second, .val (.int 7)] [(.int 8)])) (fun tgt kt => ?_) ?_
                  · refine XS.ifNo H hx rfl (hb hby e11_104) rfl ((if0 _ _).trans (tlt zi).2.1) ?_
                    refine XS.iloadN H hx rfl (hb hby e11_107) rfl ?_
                    refine XS.iconst H hx rfl (hb hby e11_108) ?_
                    refine XS.iadd H hx rfl (hb hby e11_109) rfl ?_
                    refine XS.goto H hx rfl (pc0 := 110) (pc' := 114) rfl (hb hby e11_110) (by decide) (by decide) ?_
                    exact kt
                  exact Jvm.Y9.Aim.retI z3 hx hlk hret (hb hby e11_114) (by decide) (by decide) ⟨(by rw [wid_of (dig_7 zf zh) (d := 7) rfl, if_pos zi]; rfl), rfl⟩
                · skip
                  have H := z3.here
                  refine Jvm.Y9.Aim.of (T' := z0) (g' := (mkF m 114 #[.val (.int tt), .val (.long (absJ (tt.toInt64))), .second, .val (.int 7)] [(.int 7)])) (fun tgt kt => ?_) ?_
                  · refine XS.ifYes H hx rfl (pc0 := 104) (pc' := 113) rfl (hb hby e11_104) rfl ((if0 _ _).trans (flt zi).2.1) (by decide) (by decide) ?_
                    refine XS.iloadN H hx rfl (hb hby e11_113) rfl ?_
                    exact kt
                  exact Jvm.Y9.Aim.retI z3 hx hlk hret (hb hby e11_114) (by decide) (by decide) ⟨(by rw [wid_of (dig_7 zf zh) (d := 7) rfl, if_neg zi]), rfl⟩
              · skip
                have H := z3.here
                refine Jvm.Y9.Aim.of (T' := z0) (g' := (mkF m 82 #[.val (.int tt), .val (.long (absJ (tt.toInt64))), .second, .val (.int 8)] [(.long (absJ (tt.toInt64)))])) (fun tgt kt => ?_) ?_
                · refine XS.ifNo H hx rfl (hb hby e11_75) rfl ((if0 _ _).trans (flt zh).1) ?_
                  refine XS.bipush H hx rfl (hb hby e11_78) ?_
                  refine XS.istoreN H hx rfl (hb hby e11_80) rfl (l' := #[.val (.int tt), .val (.long (absJ (tt.toInt64))), .second, .val (.int 8)]) rfl ?_
                  refine XS.lloadN H hx rfl (hb hby e11_81) rfl ?_
                  exact kt
                refine Jvm.Y9.Aim.ldcJ z3 hx hZ hown (wI hw 237 rfl) (hb hby e11_82) ?_
                have H := z3.here
                refine Jvm.Y9.Aim.of (T' := z0) (g' := (mkF m 86 #[.val (.int tt), .val (.long (absJ (tt.toInt64))), .second, .val (.int 8)] [(.int (lcmpW (absJ (tt.toInt64)) (100000000 : Int64)))])) (fun tgt kt => ?_) ?_
                · refine XS.lcmp H hx rfl (hb hby e11_85) rfl ?_
                  exact kt
                by_cases zj : (lcmpW (absJ (tt.toInt64)) (100000000 : Int64)) < (0 : Int32)
                · skip
                  have H := z3.here
                  refine Jvm.Y9.Aim.of (T' := z0) (g' := (mkF m 93 #[.val (.int tt), .val (.long (absJ (tt.toInt64))), .second, .val (.int 8)] [(.long (absJ (tt.toInt64)))])) (fun tgt kt => ?_) ?_
                  · refine XS.ifYes H hx rfl (pc0 := 86) (pc' := 92) rfl (hb hby e11_86) rfl ((if0 _ _).trans (tlt zj).1) (by decide) (by decide) ?_
                    refine XS.lloadN H hx rfl (hb hby e11_92) rfl ?_
                    exact kt
                  refine Jvm.Y9.Aim.ldcJ z3 hx hZ hown (wI hw 238 rfl) (hb hby e11_93) ?_
                  have H := z3.here
                  refine Jvm.Y9.Aim.of (T' := z0) (g' := (mkF m 104 #[.val (.int tt), .val (.long (absJ (tt.toInt64))), .second, .val (.int 8)] [(.int tt)])) (fun tgt kt => ?_) ?_
                  · refine XS.lcmp H hx rfl (hb hby e11_96) rfl ?_
                    refine XS.ifYes H hx rfl (pc0 := 97) (pc' := 103) rfl (hb hby e11_97) rfl ((if0 _ _).trans (tlt (wid_mono zj (by decide))).1) (by decide) (by decide) ?_
                    refine XS.iloadN H hx rfl (hb hby e11_103) rfl ?_
                    exact kt
                  by_cases zk : tt < (0 : Int32)
                  · skip
                    have H := z3.here
                    refine Jvm.Y9.Aim.of (T' := z0) (g' := (mkF m 114 #[.val (.int tt), .val (.long (absJ (tt.toInt64))), .second, .val (.int 8)] [(.int 9)])) (fun tgt kt => ?_) ?_
                    · refine XS.ifNo H hx rfl (hb hby e11_104) rfl ((if0 _ _).trans (tlt zk).2.1) ?_
                      refine XS.iloadN H hx rfl (hb hby e11_107) rfl ?_
                      refine XS.iconst H hx rfl (hb hby e11_108) ?_
                      refine XS.iadd H hx rfl (hb hby e11_109) rfl ?_
                      refine XS.goto H hx rfl (pc0 := 110) (pc' := 114) rfl (hb hby e11_110) (by decide) (by decide) ?_
                      exact kt
                    exact Jvm.Y9.Aim.retI z3 hx hlk hret (hb hby e11_114) (by decide) (by decide) ⟨(by rw [wid_of (dig_8 zh zj) (d := 8) rfl, if_pos zk]; rfl), rfl⟩
                  · skip
                    have H := z3.here
                    refine Jvm.Y9.Aim.of (T' := z0) (g' := (mkF m 114 #[.val (.int tt), .val (.long (absJ (tt.toInt64))), .second, .val (.int 8)] [(.int 8)])) (fun tgt kt => ?_) ?_
                    · refine XS.ifYes H hx rfl (pc0 := 104) (pc' := 113) rfl (hb hby e11_104) rfl ((if0 _ _).trans (flt zk).2.1) (by decide) (by decide) ?_
                      refine XS.iloadN H hx rfl (hb hby e11_113) rfl ?_
                      exact kt
                    exact Jvm.Y9.Aim.retI z3 hx hlk hret (hb hby e11_114) (by decide) (by decide) ⟨(by rw [wid_of (dig_8 zh zj) (d := 8) rfl, if_neg zk]), rfl⟩
                · skip
                  have H := z3.here
                  refine Jvm.Y9.Aim.of (T' := z0) (g' := (mkF m 93 #[.val (.int tt), .val (.long (absJ (tt.toInt64))), .second, .val (.int 9)] [(.long (absJ (tt.toInt64)))])) (fun tgt kt => ?_) ?_
                  · refine XS.ifNo H hx rfl (hb hby e11_86) rfl ((if0 _ _).trans (flt zj).1) ?_
                    refine XS.bipush H hx rfl (hb hby e11_89) ?_
                    refine XS.istoreN H hx rfl (hb hby e11_91) rfl (l' := #[.val (.int tt), .val (.long (absJ (tt.toInt64))), .second, .val (.int 9)]) rfl ?_
                    refine XS.lloadN H hx rfl (hb hby e11_92) rfl ?_
                    exact kt
                  refine Jvm.Y9.Aim.ldcJ z3 hx hZ hown (wI hw 238 rfl) (hb hby e11_93) ?_
                  have H := z3.here
                  refine Jvm.Y9.Aim.of (T' := z0) (g' := (mkF m 97 #[.val (.int tt), .val (.long (absJ (tt.toInt64))), .second, .val (.int 9)] [(.int (lcmpW (absJ (tt.toInt64)) (1000000000 : Int64)))])) (fun tgt kt => ?_) ?_
                  · refine XS.lcmp H hx rfl (hb hby e11_96) rfl ?_
                    exact kt
                  by_cases zl : (lcmpW (absJ (tt.toInt64)) (1000000000 : Int64)) < (0 : Int32)
                  · skip
                    have H := z3.here
                    refine Jvm.Y9.Aim.of (T' := z0) (g' := (mkF m 104 #[.val (.int tt), .val (.long (absJ (tt.toInt64))), .second, .val (.int 9)] [(.int tt)])) (fun tgt kt => ?_) ?_
                    · refine XS.ifYes H hx rfl (pc0 := 97) (pc' := 103) rfl (hb hby e11_97) rfl ((if0 _ _).trans (tlt zl).1) (by decide) (by decide) ?_
                      refine XS.iloadN H hx rfl (hb hby e11_103) rfl ?_
                      exact kt
                    by_cases zm : tt < (0 : Int32)
                    · skip
                      have H := z3.here
                      refine Jvm.Y9.Aim.of (T' := z0) (g' := (mkF m 114 #[.val (.int tt), .val (.long (absJ (tt.toInt64))), .second, .val (.int 9)] [(.int 10)])) (fun tgt kt => ?_) ?_
                      · refine XS.ifNo H hx rfl (hb hby e11_104) rfl ((if0 _ _).trans (tlt zm).2.1) ?_
                        refine XS.iloadN H hx rfl (hb hby e11_107) rfl ?_
                        refine XS.iconst H hx rfl (hb hby e11_108) ?_
                        refine XS.iadd H hx rfl (hb hby e11_109) rfl ?_
                        refine XS.goto H hx rfl (pc0 := 110) (pc' := 114) rfl (hb hby e11_110) (by decide) (by decide) ?_
                        exact kt
                      exact Jvm.Y9.Aim.retI z3 hx hlk hret (hb hby e11_114) (by decide) (by decide) ⟨(by rw [wid_of (dig_9 zj zl) (d := 9) rfl, if_pos zm]; rfl), rfl⟩
                    · skip
                      have H := z3.here
                      refine Jvm.Y9.Aim.of (T' := z0) (g' := (mkF m 114 #[.val (.int tt), .val (.long (absJ (tt.toInt64))), .second, .val (.int 9)] [(.int 9)])) (fun tgt kt => ?_) ?_
                      · refine XS.ifYes H hx rfl (pc0 := 104) (pc' := 113) rfl (hb hby e11_104) rfl ((if0 _ _).trans (flt zm).2.1) (by decide) (by decide) ?_
                        refine XS.iloadN H hx rfl (hb hby e11_113) rfl ?_
                        exact kt
                      exact Jvm.Y9.Aim.retI z3 hx hlk hret (hb hby e11_114) (by decide) (by decide) ⟨(by rw [wid_of (dig_9 zj zl) (d := 9) rfl, if_neg zm]), rfl⟩
                  · skip
                    have H := z3.here
                    refine Jvm.Y9.Aim.of (T' := z0) (g' := (mkF m 104 #[.val (.int tt), .val (.long (absJ (tt.toInt64))), .second, .val (.int 10)] [(.int tt)])) (fun tgt kt => ?_) ?_
                    · refine XS.ifNo H hx rfl (hb hby e11_97) rfl ((if0 _ _).trans (flt zl).1) ?_
                      refine XS.bipush H hx rfl (hb hby e11_100) ?_
                      refine XS.istoreN H hx rfl (hb hby e11_102) rfl (l' := #[.val (.int tt), .val (.long (absJ (tt.toInt64))), .second, .val (.int 10)]) rfl ?_
                      refine XS.iloadN H hx rfl (hb hby e11_103) rfl ?_
                      exact kt
                    by_cases zn : tt < (0 : Int32)
                    · skip
                      have H := z3.here
                      refine Jvm.Y9.Aim.of (T' := z0) (g' := (mkF m 114 #[.val (.int tt), .val (.long (absJ (tt.toInt64))), .second, .val (.int 10)] [(.int 11)])) (fun tgt kt => ?_) ?_
                      · refine XS.ifNo H hx rfl (hb hby e11_104) rfl ((if0 _ _).trans (tlt zn).2.1) ?_
                        refine XS.iloadN H hx rfl (hb hby e11_107) rfl ?_
                        refine XS.iconst H hx rfl (hb hby e11_108) ?_
                        refine XS.iadd H hx rfl (hb hby e11_109) rfl ?_
                        refine XS.goto H hx rfl (pc0 := 110) (pc' := 114) rfl (hb hby e11_110) (by decide) (by decide) ?_
                        exact kt
                      exact Jvm.Y9.Aim.retI z3 hx hlk hret (hb hby e11_114) (by decide) (by decide) ⟨(by rw [wid_of (dig_10 zl) (d := 10) rfl, if_pos zn]; rfl), rfl⟩
                    · skip
                      have H := z3.here
                      refine Jvm.Y9.Aim.of (T' := z0) (g' := (mkF m 114 #[.val (.int tt), .val (.long (absJ (tt.toInt64))), .second, .val (.int 10)] [(.int 10)])) (fun tgt kt => ?_) ?_
                      · refine XS.ifYes H hx rfl (pc0 := 104) (pc' := 113) rfl (hb hby e11_104) rfl ((if0 _ _).trans (flt zn).2.1) (by decide) (by decide) ?_
                        refine XS.iloadN H hx rfl (hb hby e11_113) rfl ?_
                        exact kt
                      exact Jvm.Y9.Aim.retI z3 hx hlk hret (hb hby e11_114) (by decide) (by decide) ⟨(by rw [wid_of (dig_10 zl) (d := 10) rfl, if_neg zn]), rfl⟩
theorem e0_0 : decode jdk_29_method_59_code 0 = .ok (.iload_n 0, 1) := by decide +kernel
theorem e0_1 : decode jdk_29_method_59_code 1 = .ok (.ifCond .ge 8, 3) := by decide +kernel
theorem e0_4 : decode jdk_29_method_59_code 4 = .ok (.iload_n 0, 1) := by decide +kernel
theorem e0_5 : decode jdk_29_method_59_code 5 = .ok (.ineg, 1) := by decide +kernel
theorem e0_6 : decode jdk_29_method_59_code 6 = .ok (.goto 4, 3) := by decide +kernel
theorem e0_10 : decode jdk_29_method_59_code 10 = .ok (.ireturn, 1) := by decide +kernel
theorem e0_9 : decode jdk_29_method_59_code 9 = .ok (.iload_n 0, 1) := by decide +kernel
theorem own_absI (l : Launch) (Z : State) (a0 : Array Value) (hw : ∀ d ∈ tables_1, d.before a0 Z = true) (xi : Int32) (h0 : Heap) (n0 : Nat) (Z0 : n0 ≤ h0.size) :
    Jvm.Y9.Con l Z (⟨"java/lang/Math", "abs", "(I)I"⟩ : MethodName) jdk_29_method_59_code 1 (some .int) ({ frames := 0, cells := 0, slots := 0, locals := 0 } : Room) n0 #[(.int xi)] h0 (fun v h => v = some (.int (if xi < (0 : Int32) then -xi else xi)) ∧ h0 = h) := by
  refine Jvm.Y9.Con.intro (Jvm.Free.JP.mathPlain rfl (by decide +kernel)) ?_
  intro p e s m below meth c s₁ hx hby hml hret hnm hown hlk hZ P0
  refine Jvm.Y9.Aim.cast (by first | (simp [entryFrame, mkF, argsToLocals, Value.category]; done) | rfl : entryFrame m #[(.int xi)] 1 = (mkF m 0 #[.val (.int xi)] [])) ?_
  have H := P0.here
  refine Jvm.Y9.Aim.of (T' := s₁) (g' := (mkF m 1 #[.val (.int xi)] [(.int xi)])) (fun tgt kt => ?_) ?_
  · refine XS.iloadN H hx rfl (hb hby e0_0) rfl ?_
    exact kt
  by_cases hc1413 : xi < (0 : Int32)
  · skip
    have H := P0.here
    refine Jvm.Y9.Aim.of (T' := s₁) (g' := (mkF m 10 #[.val (.int xi)] [(.int (-xi))])) (fun tgt kt => ?_) ?_
    · refine XS.ifNo H hx rfl (hb hby e0_1) rfl ((if0 _ _).trans (tlt hc1413).2.1) ?_
      refine XS.iloadN H hx rfl (hb hby e0_4) rfl ?_
      refine XS.ineg H hx rfl (hb hby e0_5) rfl ?_
      refine XS.goto H hx rfl (pc0 := 6) (pc' := 10) rfl (hb hby e0_6) (by decide) (by decide) ?_
      exact kt
    exact Jvm.Y9.Aim.retI P0 hx hlk hret (hb hby e0_10) (by decide) (by decide) ⟨(by rw [if_pos hc1413]), rfl⟩
  · skip
    have H := P0.here
    refine Jvm.Y9.Aim.of (T' := s₁) (g' := (mkF m 10 #[.val (.int xi)] [(.int xi)])) (fun tgt kt => ?_) ?_
    · refine XS.ifYes H hx rfl (pc0 := 1) (pc' := 9) rfl (hb hby e0_1) rfl ((if0 _ _).trans (flt hc1413).2.1) (by decide) (by decide) ?_
      refine XS.iloadN H hx rfl (hb hby e0_9) rfl ?_
      exact kt
    exact Jvm.Y9.Aim.retI P0 hx hlk hret (hb hby e0_10) (by decide) (by decide) ⟨(by rw [if_neg hc1413]), rfl⟩
theorem e14_0 : decode prog_2_method_7_code 0 = .ok (.aload_n 0, 1) := by decide +kernel
theorem e14_1 : decode prog_2_method_7_code 1 = .ok (.getfield 9, 3) := by decide +kernel
theorem e14_4 : decode prog_2_method_7_code 4 = .ok (.ireturn, 1) := by decide +kernel
theorem own_cor (l : Launch) (Z : State) (a0 : Array Value) (hw : ∀ d ∈ tables_1, d.before a0 Z = true) (a : Addr) (cz : Int32) (h0 : Heap) (n0 : Nat) (Z0 : n0 ≤ h0.size) (F0 : Fld Z h0 a "com/example/etsin/etsin/BenchTurn$Outcome" "correct" "Z" (.int cz)) (hcz : nar .boolean cz = cz) :
    Jvm.Y9.Con l Z (⟨"com/example/etsin/etsin/BenchTurn$Outcome", "correct", "()Z"⟩ : MethodName) prog_2_method_7_code 1 (some .boolean) ({ frames := 0, cells := 0, slots := 0, locals := 0 } : Room) n0 #[(.ref a)] h0 (fun v h => v = some (.int cz) ∧ h0 = h) := by
  refine Jvm.Y9.Con.intro (plainFor_of_name pn_com_example_etsin_etsin_BenchTurn_Outcome) ?_
  intro p e s m below meth c s₁ hx hby hml hret hnm hown hlk hZ P0
  refine Jvm.Y9.Aim.cast (by first | (simp [entryFrame, mkF, argsToLocals, Value.category]; done) | rfl : entryFrame m #[(.ref a)] 1 = (mkF m 0 #[.val (.ref a)] [])) ?_
  have H := P0.here
  refine Jvm.Y9.Aim.of (T' := s₁) (g' := (mkF m 1 #[.val (.ref a)] [(.ref a)])) (fun tgt kt => ?_) ?_
  · refine XS.aloadN H hx rfl (hb hby e14_0) rfl rfl ?_
    exact kt
  refine Jvm.Y9.Aim.getF P0 hx hZ hown (host := "") (Or.inl (wI hw 208 rfl)) Via.refl F0 (hb hby e14_1) ?_
  intro T1414 P1415
  exact Jvm.Y9.Aim.retN (t := .boolean) P1415 hx hlk hret (by simp) (hb hby e14_4) (by decide) (by decide) ⟨(congrArg some (congrArg Value.int hcz)), rfl⟩
theorem e15_0 : decode prog_2_method_8_code 0 = .ok (.aload_n 0, 1) := by decide +kernel
theorem e15_1 : decode prog_2_method_8_code 1 = .ok (.getfield 15, 3) := by decide +kernel
theorem e15_4 : decode prog_2_method_8_code 4 = .ok (.areturn, 1) := by decide +kernel
theorem own_des (l : Launch) (Z : State) (a0 : Array Value) (hw : ∀ d ∈ tables_1, d.before a0 Z = true) (a : Addr) (y : Addr) (h0 : Heap) (n0 : Nat) (Z0 : n0 ≤ h0.size) (F0 : Fld Z h0 a "com/example/etsin/etsin/BenchTurn$Outcome" "description" "Ljava/lang/String;" (.ref y)) :
    Jvm.Y9.Con l Z (⟨"com/example/etsin/etsin/BenchTurn$Outcome", "description", "()Ljava/lang/String;"⟩ : MethodName) prog_2_method_8_code 1 (some (.object "java/lang/String")) ({ frames := 0, cells := 0, slots := 0, locals := 0 } : Room) n0 #[(.ref a)] h0 (fun v h => v = some (.ref y) ∧ h0 = h) := by
  refine Jvm.Y9.Con.intro (plainFor_of_name pn_com_example_etsin_etsin_BenchTurn_Outcome) ?_
  intro p e s m below meth c s₁ hx hby hml hret hnm hown hlk hZ P0
  refine Jvm.Y9.Aim.cast (by first | (simp [entryFrame, mkF, argsToLocals, Value.category]; done) | rfl : entryFrame m #[(.ref a)] 1 = (mkF m 0 #[.val (.ref a)] [])) ?_
  have H := P0.here
  refine Jvm.Y9.Aim.of (T' := s₁) (g' := (mkF m 1 #[.val (.ref a)] [(.ref a)])) (fun tgt kt => ?_) ?_
  · refine XS.aloadN H hx rfl (hb hby e15_0) rfl rfl ?_
    exact kt
  refine Jvm.Y9.Aim.getF P0 hx hZ hown (host := "") (Or.inl (wI hw 210 rfl)) Via.refl F0 (hb hby e15_1) ?_
  intro T1416 P1417
  exact Jvm.Y9.Aim.retA P1417 hx hlk hret rfl rfl (hb hby e15_4) (by decide) (by decide) ⟨rfl, rfl⟩
theorem cor_nar (ys : List Int32) (tt : Int32) : nar .boolean (cor ys tt) = cor ys tt := by unfold cor; split <;> rfl
theorem descr_len (ys : List Int32) (tt : Int32) : (descr ys tt).length = 41 + ys.length + (dec tt).length := by
  simp only [descr, List.length_append, List.length_nil, cl0, cl1, cl2, cl3]; omega
theorem descr_get (ys : List Int32) (tt : Int32) (k : Nat) : (descr ys tt).getD k 0 = if k < 30 + ys.length + (dec tt).length then (if k < 18 + ys.length + (dec tt).length then (if k < 18 + ys.length then (if k < 11 + ys.length then (if k < 11 then (Jvm.Q9.cod "the answer ").getD k 0 else ys.getD (k - 11) 0) else (Jvm.Q9.cod " after ").getD (k - (11 + ys.length)) 0) else (dec tt).getD (k - (18 + ys.length)) 0) else (Jvm.Q9.cod " results of ").getD (k - (18 + ys.length + (dec tt).length)) 0) else (Jvm.Q9.cod "get_weather").getD (k - (30 + ys.length + (dec tt).length)) 0 := by
  simp only [descr, getD_app, List.length_append, List.length_nil, List.nil_append, cl0, cl1, cl2, cl3, Nat.zero_add]
  have e1 : 11 + ys.length + 7 = 18 + ys.length := by omega
  have e2 : 18 + ys.length + (dec tt).length + 12 = 30 + ys.length + (dec tt).length := by omega
  simp only [e1, e2]
theorem lit0 : (Jvm.Q9.cod "the answer ").getD 0 0 = 116 ∧ (Jvm.Q9.cod "the answer ").getD 10 0 = 32 := by decide +kernel
theorem lit1 : (Jvm.Q9.cod " after ").getD 0 0 = 32 ∧ (Jvm.Q9.cod " after ").getD 1 0 = 97 ∧ (Jvm.Q9.cod " after ").getD 6 0 = 32 := by decide +kernel
theorem lit2 : (Jvm.Q9.cod " results of ").getD 0 0 = 32 ∧ (Jvm.Q9.cod " results of ").getD 1 0 = 114 := by decide +kernel
theorem lit3 : (Jvm.Q9.cod "get_weather").getD 10 0 = 114 ∧ (Jvm.Q9.cod "get_weather").getD 0 0 = 103 := by decide +kernel
section
variable (ys : List Int32) (tt : Int32) (hy : ys.length ≤ 34)
theorem at_b {k : Nat} (hk : k ≤ 100) : (Int32.ofNat k).toNatClampNeg = k := (own_clamp (by omega)).1
theorem de_0 : (descr ys tt).getD 0 0 = 116 := by rw [descr_get]; simp only [show (0 : Nat) < 30 + ys.length + (dec tt).length from by omega, show (0 : Nat) < 18 + ys.length + (dec tt).length from by omega, show (0 : Nat) < 18 + ys.length from by omega, show (0 : Nat) < 11 + ys.length from by omega, show (0 : Nat) < 11 from by omega, if_true]; exact lit0.1
theorem de_10 : (descr ys tt).getD 10 0 = 32 := by rw [descr_get, if_pos (by omega), if_pos (by omega), if_pos (by omega), if_pos (by omega), if_pos (by omega)]; exact lit0.2
theorem de_y {k : Nat} (h : k < ys.length) : (descr ys tt).getD (11 + k) 0 = ys.getD k 0 := by rw [descr_get, if_pos (by omega), if_pos (by omega), if_pos (by omega), if_pos (by omega), if_neg (by omega), show 11 + k - 11 = k from by omega]
theorem de_a {k : Nat} (h : k < 7) : (descr ys tt).getD (11 + ys.length + k) 0 = (Jvm.Q9.cod " after ").getD k 0 := by rw [descr_get, if_pos (by omega), if_pos (by omega), if_pos (by omega), if_neg (by omega), show 11 + ys.length + k - (11 + ys.length) = k from by omega]
theorem de_d {k : Nat} (h : k < (dec tt).length) : (descr ys tt).getD (18 + ys.length + k) 0 = (dec tt).getD k 0 := by rw [descr_get, if_pos (by omega), if_pos (by omega), if_neg (by omega), show 18 + ys.length + k - (18 + ys.length) = k from by omega]
theorem de_r {k : Nat} (h : k < 12) : (descr ys tt).getD (18 + ys.length + (dec tt).length + k) 0 = (Jvm.Q9.cod " results of ").getD k 0 := by rw [descr_get, if_pos (by omega), if_neg (by omega), show 18 + ys.length + (dec tt).length + k - (18 + ys.length + (dec tt).length) = k from by omega]
theorem de_g {k : Nat} (h : k < 11) : (descr ys tt).getD (30 + ys.length + (dec tt).length + k) 0 = (Jvm.Q9.cod "get_weather").getD k 0 := by rw [descr_get, if_neg (by omega), show 30 + ys.length + (dec tt).length + k - (30 + ys.length + (dec tt).length) = k from by omega]
end
theorem dec_last (tt : Int32) : (dec tt).getD ((dec tt).length - 1) 0 = Int32.ofNat (48 + mag tt % 10) := by
  have h0 := dec_pos tt
  have hp := Jvm.Free.SBG.digits_pos (mag tt)
  rw [dec_get tt _ (by omega)]
  have hl := dec_len tt
  unfold Jvm.Free.SBG.GetChars.sgn at hl
  by_cases q : tt < 0
  · rw [if_pos q] at hl
    rw [if_pos q, if_neg (by omega), hl, show Jvm.Free.SBG.digits (mag tt) - (Jvm.Free.SBG.digits (mag tt) + 1 - 1) = 0 from by omega, Nat.pow_zero, Nat.div_one]
  · rw [if_neg q] at hl
    rw [if_neg q, hl, show Jvm.Free.SBG.digits (mag tt) - 1 - (Jvm.Free.SBG.digits (mag tt) + 0 - 1) = 0 from by omega, Nat.pow_zero, Nat.div_one]
theorem dec_first {tt : Int32} (h : tt < 0) : (dec tt).getD 0 0 = 45 := by
  rw [dec_get tt 0 (by have := dec_pos tt; omega), if_pos h, if_pos rfl]
theorem last_num : ∀ k : Fin 10, ((48 : Int32) + Int32.ofNat k.val).toUInt32.toUInt16.toUInt32.toInt32 = Int32.ofNat (48 + k.val) := by decide +kernel
theorem last_eq (tt : Int32) : (((48 : Int32) + (if (tt % (10 : Int32)) < (0 : Int32) then -(tt % (10 : Int32)) else (tt % (10 : Int32)))).toUInt32.toUInt16.toUInt32.toInt32) = Int32.ofNat (48 + mag tt % 10) := by
  have z : (0 : Int32).toInt = 0 := by decide
  have t10 : (10 : Int32).toInt = 10 := by decide
  have e : (tt % (10 : Int32)).toInt = tt.toInt.tmod 10 := by rw [Int32.toInt_mod, t10]
  have r := rng32 tt
  have key : (if (tt % (10 : Int32)) < (0 : Int32) then -(tt % (10 : Int32)) else (tt % (10 : Int32))) = Int32.ofNat (mag tt % 10) := by
    apply Int32.toInt_inj.mp
    rw [(own_clamp (n := mag tt % 10) (by omega)).2.2]
    have hm : (mag tt : Int) = tt.toInt.natAbs := rfl
    have hb : tt.toInt.tmod 10 = if tt.toInt < 0 then -((mag tt % 10 : Nat) : Int) else ((mag tt % 10 : Nat) : Int) := by
      by_cases q : tt.toInt < 0
      · rw [if_pos q]
        have : tt.toInt = -(mag tt : Int) := by omega
        rw [this, Int.neg_tmod]; rfl
      · rw [if_neg q]
        have : tt.toInt = (mag tt : Int) := by omega
        rw [this]; rfl
    by_cases q : (tt % (10 : Int32)) < 0
    · rw [if_pos q]
      rw [Int32.lt_iff_toInt_lt, e, z] at q
      rw [Int32.toInt_neg, e, Int.bmod_eq_of_le (by omega) (by omega)]
      by_cases q2 : tt.toInt < 0
      · rw [if_pos q2] at hb; omega
      · rw [if_neg q2] at hb; omega
    · rw [if_neg q, e]
      rw [Int32.lt_iff_toInt_lt, e, z] at q
      by_cases q2 : tt.toInt < 0
      · rw [if_pos q2] at hb; omega
      · rw [if_neg q2] at hb; omega
  rw [key]
  exact last_num ⟨mag tt % 10, Nat.mod_lt _ (by omega)⟩

theorem own_idx (x : Int32) : ¬ ((x &&& (2147483647 : Int32)) % (33 : Int32)) < 0 ∧ ((x &&& (2147483647 : Int32)) % (33 : Int32)) < 33 ∧ ((x &&& (2147483647 : Int32)) % (33 : Int32)).toNatClampNeg < 33 := by
  have h := c_mask x 2147483647 31 (by decide) (by decide)
  have e : ((2 ^ 31 : Nat) : Int) = 2147483648 := by decide
  have t : (33 : Int32).toInt = 33 := by decide
  have z : (0 : Int32).toInt = 0 := by decide
  rw [e] at h
  have q : ((x &&& (2147483647 : Int32)) % (33 : Int32)).toInt = (x &&& 2147483647).toInt.tmod 33 := by rw [Int32.toInt_mod, t]
  have q2 : (x &&& 2147483647).toInt.tmod 33 = (x &&& 2147483647).toInt % 33 := Int.tmod_eq_emod_of_nonneg (by omega)
  rw [Int32.lt_iff_toInt_lt, Int32.lt_iff_toInt_lt, q, q2, t, z]
  refine ⟨by omega, by omega, ?_⟩
  show ((x &&& 2147483647) % 33 : Int32).toInt.toNat < 33
  rw [q, q2]; omega
theorem paris_len : paris.length = 33 := by decide +kernel
theorem paris_in : ∀ c ∈ paris, ¬ c < 0 ∧ ¬ (255 : Int32) < c := by decide +kernel
theorem set_in {xs : List Int32} {i : Nat} {v : Int32} (hx : ∀ c ∈ xs, ¬ c < 0 ∧ ¬ (255 : Int32) < c) (hv : ¬ v < 0 ∧ ¬ (255 : Int32) < v) : ∀ c ∈ xs.set i v, ¬ c < 0 ∧ ¬ (255 : Int32) < c := fun c hc => (List.mem_or_eq_of_mem_set hc).elim (hx c) (fun q => q ▸ hv)
theorem set_same {xs : List Int32} {i : Nat} {v : Int32} (hi : i < xs.length) : xs.set i v = xs ↔ v = xs.getD i 0 := by
  constructor
  · intro q
    have := congrArg (fun l => l.getD i 0) q
    simpa [List.getD_eq_getElem?_getD, hi] using this
  · intro q
    apply List.ext_getElem?
    intro j
    rw [List.getElem?_set]
    by_cases e : i = j
    · subst e
      simp only [hi, if_true]
      rw [q, List.getD_eq_getElem?_getD, List.getElem?_eq_getElem hi]; rfl
    · rw [if_neg e]
theorem cod_empty : Jvm.Q9.cod "" = [] := by decide +kernel
theorem e7_0 : decode jdk_42_method_149_code 0 = .ok (.aload_n 0, 1) := by decide +kernel
theorem e7_1 : decode jdk_42_method_149_code 1 = .ok (.invokespecial 1, 3) := by decide +kernel
theorem e7_4 : decode jdk_42_method_149_code 4 = .ok (.iload_n 3, 1) := by decide +kernel
theorem e7_5 : decode jdk_42_method_149_code 5 = .ok (.ifCond .ne 22, 3) := by decide +kernel
theorem e7_8 : decode jdk_42_method_149_code 8 = .ok (.aload_n 0, 1) := by decide +kernel
theorem e7_9 : decode jdk_42_method_149_code 9 = .ok (.ldc 7, 2) := by decide +kernel
theorem e7_11 : decode jdk_42_method_149_code 11 = .ok (.getfield 9, 3) := by decide +kernel
theorem e7_14 : decode jdk_42_method_149_code 14 = .ok (.putfield 9, 3) := by decide +kernel
theorem e7_17 : decode jdk_42_method_149_code 17 = .ok (.aload_n 0, 1) := by decide +kernel
theorem e7_18 : decode jdk_42_method_149_code 18 = .ok (.ldc 7, 2) := by decide +kernel
theorem e7_20 : decode jdk_42_method_149_code 20 = .ok (.getfield 15, 3) := by decide +kernel
theorem e7_23 : decode jdk_42_method_149_code 23 = .ok (.putfield 15, 3) := by decide +kernel
theorem e7_26 : decode jdk_42_method_149_code 26 = .ok (.return_, 1) := by decide +kernel
theorem own_s4 (l : Launch) (Z : State) (a0 : Array Value) (hw : ∀ d ∈ tables_1, d.before a0 Z = true) (x : Addr) (b : Addr) (v0 : Value) (c0 : Value) (h0 : Heap) (n0 : Nat) (Z0 : n0 ≤ h0.size) (Lc0 : List Addr) (g_x : n0 ≤ x) (nl_x : x ∉ Lc0) (F0 : Exa Z h0 x "java/lang/String") (F1 : Fld Z h0 x "java/lang/String" "value" "[B" v0) (F2 : Fld Z h0 x "java/lang/String" "coder" "B" c0) (F3 : Old Z n0 h0) (GL : ∀ c ∈ LC.1, Jvm.Q9.LitZ Z c) :
    Jvm.Q9.Con l Z LC (⟨"java/lang/String", "<init>", "([CIILjava/lang/Void;)V"⟩ : MethodName) jdk_42_method_149_code 6 none ({ frames := 1, cells := 2, slots := 4, locals := 12 } : Room) n0 #[(.ref x), (.ref b), (.int 0), (.int 0), .null] h0 Lc0 (fun v h Lc => ∃ t : Addr, ∃ kb : ClassId, v = none ∧ Keep h0 h [x] ∧ ((t < n0 ∨ t ∈ Lc) ∨ h0.size ≤ t) ∧ Str Z h x t kb ([] : List Int32)) := by
  refine Jvm.Q9.Con.intro (plainFor_of_name pn_java_lang_String) ?_
  intro p e s m below meth c s₁ hx hby hml hret hnm hown hlk hZ hs0 P0
  refine Jvm.Q9.Aim.cast (by first | (simp [entryFrame, mkF, argsToLocals, Value.category]; done) | rfl : entryFrame m #[(.ref x), (.ref b), (.int 0), (.int 0), .null] 6 = (mkF m 0 #[.val (.ref x), .val (.ref b), .val (.int 0), .val (.int 0), .val .null, .unset] [])) ?_
  have H := P0.here
  refine Jvm.Q9.Aim.of (T' := s₁) (g' := (mkF m 1 #[.val (.ref x), .val (.ref b), .val (.int 0), .val (.int 0), .val .null, .unset] [(.ref x)])) (fun tgt kt => ?_) ?_
  · refine XS.aloadN H hx rfl (hb hby e7_0) rfl rfl ?_
    exact kt
  refine Jvm.Q9.Aim.initO P0 hx hZ hml hown (wI hw 12 rfl) (wI hw 13 rfl) (wI hw 14 rfl) rfl (hb hby e7_1) (by decide) (Nat.le_of_ble_eq_true rfl) ?_
  intro z0 z1
  have H := z1.here
  refine Jvm.Q9.Aim.of (T' := z0) (g' := (mkF m 9 #[.val (.ref x), .val (.ref b), .val (.int 0), .val (.int 0), .val .null, .unset] [(.ref x)])) (fun tgt kt => ?_) ?_
  · refine XS.iloadN H hx rfl (hb hby e7_4) rfl ?_
    refine XS.ifNo H hx rfl (hb hby e7_5) rfl ((if0 _ _).trans (teq (by decide)).2) ?_
    refine XS.aloadN H hx rfl (hb hby e7_8) rfl rfl ?_
    exact kt
  refine Jvm.Q9.Aim.ldcK z1 hx hZ hown (wI hw 265 rfl) (own_atoms hw) (LC := LC) (List.mem_of_getElem? (i := 5) rfl) (by decide +kernel) (by decide +kernel) (GL _ (List.mem_of_getElem? (i := 5) rfl)) F3 (fun b cl q => by rw [← hs0]; exact q) (hb hby e7_9) (cap := 0) (by decide +kernel) (by decide) (by decide) (by decide) ?_
  intro z2 z3 z4 z5 z6 z7 z8 z9 za zb zc zd
  have ze : Keep h0 z3 [x] := (Keep.refl h0 [x]).trans z9 all0
  have zf : Jvm.Q9.Grow Lc0 z7 h0.size := (Jvm.Q9.Grow.refl _ _).trans za (Nat.le_refl _)
  refine Jvm.Q9.Aim.getF z8 hx hZ hown (host := "") (Or.inl (wI hw 29 rfl)) Via.refl zb.2.1 (hb hby e7_11) ?_
  intro zg zh
  have zi : Exa Z z3 x "java/lang/String" := (F0.keep z9)
  have zj : Fld Z z3 x "java/lang/String" "value" "[B" v0 := (F1.keep z9 nin0)
  refine Jvm.Q9.Aim.putF (v := (.ref z5)) zh hx hZ hown (host := "") (Or.inl (wI hw 29 rfl)) Via.refl zj zi (Or.inr ⟨(wI hw 30 rfl), rfl, hnm⟩) (wI hw 3 rfl) (ty := (.array .byte)) (by decide) rfl rfl (hb hby e7_14) g_x (Jvm.Q9.nl_step nl_x za F0.lt) ?_
  intro zk zl zm zn
  have zo := Keep.of_wr zn
  have zp : Fld Z zl x "java/lang/String" "value" "[B" (.ref z5) := zj.same zn
  have zq : Keep h0 zl [x] := ze.trans zo (allS (Or.inl (List.mem_of_getElem? (i := 0) rfl)) all0)
  have H := zm.here
  refine Jvm.Q9.Aim.of (T' := zk) (g' := (mkF m 18 #[.val (.ref x), .val (.ref b), .val (.int 0), .val (.int 0), .val .null, .unset] [(.ref x)])) (fun tgt kt => ?_) ?_
  · refine XS.aloadN H hx rfl (hb hby e7_17) rfl rfl ?_
    exact kt
  have zr : Old Z n0 zl := ((F3.keep z9 all0).keep zo (allS g_x all0))
  refine Jvm.Q9.Aim.ldcQ (LC := LC) zm hx hown (wI hw 265 rfl) (List.mem_of_getElem? (i := 5) rfl) (by decide +kernel) (Jvm.Q9.lit_again (GL _ (List.mem_of_getElem? (i := 5) rfl)) F3 zq (allS g_x all0)) (hb hby e7_18) ?_
  intro zs zt zu zv zw zx zy zz
  have z10 : Jvm.Q9.On p l e _ s m _ below meth c Z LC n0 zs zl 2 4 z7 := zw.weakTo (fun _ _ => trivial)
  refine Jvm.Q9.Aim.getF z10 hx hZ hown (host := "") (Or.inl (wI hw 27 rfl)) Via.refl zx.2.2.1 (hb hby e7_20) ?_
  intro z11 z12
  have z13 : Exa Z zl x "java/lang/String" := (zi.keep zo)
  have z14 : Fld Z zl x "java/lang/String" "coder" "B" c0 := ((F2.keep z9 nin0).other zn (Or.inr (slot_ne (Or.inr (wI hw 28 rfl)) (Or.inr (wI hw 30 rfl)) (by decide) (t := .byte) (t' := (.array .byte)) (by decide) (by decide))))
  refine Jvm.Q9.Aim.putF (v := (.int 0)) z12 hx hZ hown (host := "") (Or.inl (wI hw 27 rfl)) Via.refl z14 z13 (Or.inr ⟨(wI hw 28 rfl), rfl, hnm⟩) (wI hw 3 rfl) (ty := .byte) (by decide) rfl rfl (hb hby e7_23) g_x (Jvm.Q9.nl_step nl_x za F0.lt) ?_
  intro z15 z16 z17 z18
  have z19 := Keep.of_wr z18
  have z1a : Fld Z z16 x "java/lang/String" "coder" "B" (.int 0) := z14.same z18
  have z1b : Keep h0 z16 [x] := zq.trans z19 (allS (Or.inl (List.mem_of_getElem? (i := 0) rfl)) all0)
  have z1c : Str Z z16 z4 z5 z6 (Jvm.Q9.cod "") := ((zb.keep zo (ninS (Jvm.Q9.lit_ne zc g_x (Jvm.Q9.nl_step nl_x za F0.lt)) nin0) (ninS (Jvm.Q9.lit_ne zd g_x (Jvm.Q9.nl_step nl_x za F0.lt)) nin0)).keep z19 (ninS (Jvm.Q9.lit_ne zc g_x (Jvm.Q9.nl_step nl_x za F0.lt)) nin0) (ninS (Jvm.Q9.lit_ne zd g_x (Jvm.Q9.nl_step nl_x za F0.lt)) nin0))
  have z1d : Exa Z z16 x "java/lang/String" := (z13.keep z19)
  have z1e : Fld Z z16 x "java/lang/String" "value" "[B" (.ref z5) := (zp.other z18 (Or.inr (slot_ne (Or.inr (wI hw 30 rfl)) (Or.inr (wI hw 28 rfl)) (by decide) (t := (.array .byte)) (t' := .byte) (by decide) (by decide))))
  exact Jvm.Q9.Aim.retV z17 hx hlk hret (hb hby e7_26) (by decide) (by decide) zf ⟨z5, z6, rfl, z1b, (Or.inl zd), ⟨z1d, z1e, z1a, (cod_empty ▸ z1c.2.2.2.1), fun _ q => (nomatch q), by decide⟩⟩
theorem ec_0 : decode jdk_42_method_3_code 0 = .ok (.aload_n 0, 1) := by decide +kernel
theorem ec_1 : decode jdk_42_method_3_code 1 = .ok (.aload_n 1, 1) := by decide +kernel
theorem ec_2 : decode jdk_42_method_3_code 2 = .ok (.iconst 0, 1) := by decide +kernel
theorem ec_3 : decode jdk_42_method_3_code 3 = .ok (.aload_n 1, 1) := by decide +kernel
theorem ec_4 : decode jdk_42_method_3_code 4 = .ok (.arraylength, 1) := by decide +kernel
theorem ec_5 : decode jdk_42_method_3_code 5 = .ok (.aconst_null, 1) := by decide +kernel
theorem ec_6 : decode jdk_42_method_3_code 6 = .ok (.invokespecial 27, 3) := by decide +kernel
theorem pd__28_5bCIILjava_2flang_2fVoid_3b_29V : parseMethodDescriptor "([CIILjava/lang/Void;)V" = some ⟨[(.array .char), .int, .int, (.object "java/lang/Void")], none⟩ := by decide +kernel
theorem ec_9 : decode jdk_42_method_3_code 9 = .ok (.return_, 1) := by decide +kernel
theorem own_s0 (l : Launch) (Z : State) (a0 : Array Value) (hw : ∀ d ∈ tables_1, d.before a0 Z = true) (x : Addr) (b : Addr) (kC : ClassId) (v0 : Value) (c0 : Value) (h0 : Heap) (n0 : Nat) (Z0 : n0 ≤ h0.size) (Lc0 : List Addr) (g_x : n0 ≤ x) (nl_x : x ∉ Lc0) (F0 : Exa Z h0 x "java/lang/String") (F1 : Fld Z h0 x "java/lang/String" "value" "[B" v0) (F2 : Fld Z h0 x "java/lang/String" "coder" "B" c0) (F3 : Arv Z h0 b kC .char (0 : Int32) [] (.int 0)) (F4 : Old Z n0 h0) (GL : ∀ c ∈ LC.1, Jvm.Q9.LitZ Z c) :
    Jvm.Q9.Con l Z LC (⟨"java/lang/String", "<init>", "([C)V"⟩ : MethodName) jdk_42_method_3_code 2 none ({ frames := 2, cells := 2, slots := 4, locals := 29 } : Room) n0 #[(.ref x), (.ref b)] h0 Lc0 (fun v h Lc => ∃ t : Addr, ∃ kb : ClassId, v = none ∧ Keep h0 h [x] ∧ ((t < n0 ∨ t ∈ Lc) ∨ h0.size ≤ t) ∧ Str Z h x t kb ([] : List Int32)) := by
  refine Jvm.Q9.Con.intro (plainFor_of_name pn_java_lang_String) ?_
  intro p e s m below meth c s₁ hx hby hml hret hnm hown hlk hZ hs0 P0
  refine Jvm.Q9.Aim.cast (by first | (simp [entryFrame, mkF, argsToLocals, Value.category]; done) | rfl : entryFrame m #[(.ref x), (.ref b)] 2 = (mkF m 0 #[.val (.ref x), .val (.ref b)] [])) ?_
  have H := P0.here
  refine Jvm.Q9.Aim.of (T' := s₁) (g' := (mkF m 4 #[.val (.ref x), .val (.ref b)] [(.ref b), (.int 0), (.ref b), (.ref x)])) (fun tgt kt => ?_) ?_
  · refine XS.aloadN H hx rfl (hb hby ec_0) rfl rfl ?_
    refine XS.aloadN H hx rfl (hb hby ec_1) rfl rfl ?_
    refine XS.iconst H hx rfl (hb hby ec_2) ?_
    refine XS.aloadN H hx rfl (hb hby ec_3) rfl rfl ?_
    exact kt
  refine Jvm.Q9.Aim.alen P0 hx hZ F3 (hb hby ec_4) ?_
  have H := P0.here
  refine Jvm.Q9.Aim.of (T' := s₁) (g' := (mkF m 6 #[.val (.ref x), .val (.ref b)] [.null, (.int 0), (.int 0), (.ref b), (.ref x)])) (fun tgt kt => ?_) ?_
  · refine XS.aconstNull H hx rfl (hb hby ec_5) ?_
    exact kt
  refine Jvm.Q9.Aim.callCW (argsL := [(.ref b), (.int 0), (.int 0), .null]) (rest := []) P0 hx hZ hml hown rfl (wI hw 8 rfl) (wI hw 9 rfl) (wI hw 11 rfl) (by decide) (Jvm.Q9.Con.back (W := 0) (own_s4 l Z a0 hw x b v0 c0 h0 n0 Z0 Lc0 g_x nl_x F0 F1 F2 F4 GL) (wI hw 11 rfl) (wI hw 4 rfl) (by decide) (by decide)) rfl pd__28_5bCIILjava_2flang_2fVoid_3b_29V rfl (Nat.le_of_eq rfl) (hb hby ec_6) (by decide) (by decide) ?_
  intro z0 z1 z2 z3 z4 z5 z6
  obtain ⟨t_1480, kb_1481, rfl, z7, z8, z9⟩ := z6
  have za : Keep h0 z1 [x] := (Keep.refl h0 [x]).trans z7 (allS (Or.inl (List.mem_of_getElem? (i := 0) rfl)) all0)
  have zb : Jvm.Q9.Grow Lc0 z3 h0.size := (Jvm.Q9.Grow.refl _ _).trans z5 (Nat.le_refl _)
  exact Jvm.Q9.Aim.retV z4 hx hlk hret (hb hby ec_9) (by decide) (by decide) zb ⟨t_1480, kb_1481, rfl, za, (z8.elim (fun r => Or.inl r) (fun r => Or.inr (lT (Nat.le_refl _) r))), z9⟩
theorem own_ifc {P Q : Prop} [Decidable P] [Decidable Q] {a b : Int32} (h : P ↔ Q) : (if P then a else b) = (if Q then a else b) := by
  by_cases q : P
  · rw [if_pos q, if_pos (h.mp q)]
  · rw [if_neg q, if_neg (fun r => q (h.mpr r))]
theorem paris_eq : paris = [73, 116, 32, 105, 115, 32, 115, 117, 110, 110, 121, 32, 105, 110, 32, 80, 97, 114, 105, 115, 44, 32, 50, 49, 32, 100, 101, 103, 114, 101, 101, 115, 46] := by decide +kernel
theorem map_get {xs : List Int32} {i : Nat} : (xs.map Value.int).getD i (.int 0) = .int (xs.getD i 0) := by
  simp only [List.getD_eq_getElem?_getD, List.getElem?_map]
  cases xs[i]? <;> rfl
theorem own_charJ (x : Int64) : ¬ (((x &&& (255 : Int64)).toInt32).toUInt32.toUInt16.toUInt32.toInt32) < 0 ∧ ¬ (255 : Int32) < (((x &&& (255 : Int64)).toInt32).toUInt32.toUInt16.toUInt32.toInt32) := by
  have h := c_maskL x 255 8 (by decide) (by decide)
  have e : ((2 ^ 8 : Nat) : Int) = 256 := by decide
  rw [e] at h
  have t : ∀ k : Fin 256, ¬ ((Int32.ofNat k.val).toUInt32.toUInt16.toUInt32.toInt32) < 0 ∧ ¬ (255 : Int32) < ((Int32.ofNat k.val).toUInt32.toUInt16.toUInt32.toInt32) := by decide +kernel
  have q : (x &&& (255 : Int64)).toInt32 = Int32.ofNat (x &&& (255 : Int64)).toInt.toNat := by
    apply Int32.toInt_inj.mp
    rw [(own_clamp (n := (x &&& (255 : Int64)).toInt.toNat) (by omega)).2.2, Int64.toInt_toInt32, Int.bmod_eq_of_le (by omega) (by omega)]
    omega
  rw [q]
  exact t ⟨(x &&& (255 : Int64)).toInt.toNat, by omega⟩
theorem ite_in {P : Prop} [Decidable P] {a b v : Int32} (h : v = if P then a else b) (ha : ¬ a < 0 ∧ ¬ (255 : Int32) < a) (hb : ¬ b < 0 ∧ ¬ (255 : Int32) < b) : ¬ v < 0 ∧ ¬ (255 : Int32) < v := by
  subst h; split
  · exact ha
  · exact hb
theorem get_in {xs : List Int32} {i : Nat} (hi : i < xs.length) (hx : ∀ c ∈ xs, ¬ c < 0 ∧ ¬ (255 : Int32) < c) : ¬ xs.getD i 0 < 0 ∧ ¬ (255 : Int32) < xs.getD i 0 := hx _ (by rw [List.getD_eq_getElem?_getD, List.getElem?_eq_getElem hi]; exact List.getElem_mem hi)
theorem pd__28I_29C : parseMethodDescriptor "(I)C" = some ⟨[.int], some .char⟩ := by decide +kernel
theorem own_tF (l : Launch) (Z : State) (a0 : Array Value) (hw : ∀ d ∈ tables_1, d.before a0 Z = true) (q0 : Slot) (q1 : Slot) (q2 : Slot) (q3 : Slot) (q4 : Slot) (q5 : Slot) (q6 : Slot) (q7 : Slot) (q8 : Slot) (q10 : Slot) (q11 : Slot) (q12 : Slot) (q13 : Slot) (q14 : Slot) (ys : List Int32) (tt : Int32) (z : Addr) (t2 : Addr) (k2 : ClassId) (h0 : Heap) (n0 : Nat) (Z0 : n0 ≤ h0.size) (Lc0 : List Addr) (F0 : Str Z h0 z t2 k2 (descr ys tt)) (F1 : Old Z n0 h0) (hA : ys.length ≤ 3 ∨ ys.length = 33 ∨ ys.length = 34) (G : Cmp Z) (GS : Sio Z) {p : Program} {e : Env} {s : State} {m : MethodId} {as' : Array Value} {below : List Frame} {meth : Method} {c : Code} {s₁ : State} (hx : p.tables.exec = Jvm.exec) (hby : c.code = code) (hml : c.maxLocals = maxLocals) (hret : meth.sig.returnType = ret) (hnm : meth.name = x.name) (hown : s.vm.findClass x.cls = some m.cls) (hlk : meth.locks = false) (hZ : Z.Warmed39 s.vm) (P0 : Jvm.Q9.On p l e room_1 s m as' below meth c Z LC n0 s₁ h0 24 1000 Lc0) :
    Jvm.Q9.Aim p e below s (room_1 : Room).cells (room_1 : Room).slots n0 (Jvm.Q9.QW Z LC h0 Lc0 (fun v h Lc => v = some (.int 1) ∧ Keep h0 h [])) s₁ (mkF m 931 #[q0, q1, q2, q3, q4, q5, q6, q7, q8, .val (.int tt), q10, q11, q12, q13, q14, .val (.ref z), .val (.int (Int32.ofNat ys.length)), .val (.int (Int32.ofNat (dec tt).length)), .val (.int (Int32.ofNat (41 + ys.length + (dec tt).length))), .unset] []) := by
  have hd1 := dec_len11 tt
  have hd2 := dec_pos tt
  have H := P0.here
  refine Jvm.Q9.Aim.of (T' := s₁) (g' := (mkF m 938 #[q0, q1, q2, q3, q4, q5, q6, q7, q8, .val (.int tt), q10, q11, q12, q13, q14, .val (.ref z), .val (.int (Int32.ofNat ys.length)), .val (.int (Int32.ofNat (dec tt).length)), .val (.int (Int32.ofNat (41 + ys.length + (dec tt).length))), .unset] [(.int (tt % (10 : Int32))), (.int 48)])) (fun tgt kt => ?_) ?_
  · refine XS.bipush H hx rfl (hb hby at_931) ?_
    refine XS.iload H hx rfl (hb hby at_933) rfl ?_
    refine XS.bipush H hx rfl (hb hby at_935) ?_
    refine Jvm.Y9.own_irem H hx rfl (hb hby at_937) rfl (by decide) ?_
    exact kt
  refine Jvm.Q9.Aim.callS (argsL := [(.int (tt % (10 : Int32)))]) (rest := [(.int 48)]) P0 hx hZ hml hown (wI hw 260 rfl) (wI hw 261 rfl) (wI hw 127 rfl) (wI hw 262 rfl) (by decide) (fun vm0 hZ => Jvm.Y9.Con.back (s := s.setVm vm0) (W := 1) (own_absI l Z a0 hw (tt % (10 : Int32)) h0 n0 Z0) hZ (wI hw 262 rfl) (wI hw 127 rfl) (by decide) (by decide)) (fun _ _ ⟨_, q⟩ => (by subst q; exact Keep.refl _ [])) all0 rfl pd__28I_29I rfl (Nat.le_of_eq rfl) (hb hby at_938) (by decide) (by decide) ?_
  intro z0 z1 z2 z3 z4
  obtain ⟨rfl, rfl⟩ := z4
  have H := z3.here
  refine Jvm.Q9.Aim.of (T' := z0) (g' := (mkF m 955 #[q0, q1, q2, q3, q4, q5, q6, q7, q8, .val (.int tt), q10, q11, q12, q13, q14, .val (.ref z), .val (.int (Int32.ofNat ys.length)), .val (.int (Int32.ofNat (dec tt).length)), .val (.int (Int32.ofNat (41 + ys.length + (dec tt).length))), .val (.int (((48 : Int32) + (if (tt % (10 : Int32)) < (0 : Int32) then -(tt % (10 : Int32)) else (tt % (10 : Int32)))).toUInt32.toUInt16.toUInt32.toInt32))] [(.int (((17 : Int32) + (Int32.ofNat ys.length)) + (Int32.ofNat (dec tt).length))), (.ref z)])) (fun tgt kt => ?_) ?_
  · refine XS.iadd H hx rfl (hb hby at_941) rfl ?_
    refine XS.i2c H hx rfl (hb hby at_942) rfl ?_
    refine XS.istore H hx rfl (hb hby at_943) rfl (l' := #[q0, q1, q2, q3, q4, q5, q6, q7, q8, .val (.int tt), q10, q11, q12, q13, q14, .val (.ref z), .val (.int (Int32.ofNat ys.length)), .val (.int (Int32.ofNat (dec tt).length)), .val (.int (Int32.ofNat (41 + ys.length + (dec tt).length))), .val (.int (((48 : Int32) + (if (tt % (10 : Int32)) < (0 : Int32) then -(tt % (10 : Int32)) else (tt % (10 : Int32)))).toUInt32.toUInt16.toUInt32.toInt32))]) rfl ?_
    refine XS.aload H hx rfl (hb hby at_945) rfl rfl ?_
    refine XS.bipush H hx rfl (hb hby at_947) ?_
    refine XS.iload H hx rfl (hb hby at_949) rfl ?_
    refine XS.iadd H hx rfl (hb hby at_951) rfl ?_
    refine XS.iload H hx rfl (hb hby at_952) rfl ?_
    refine XS.iadd H hx rfl (hb hby at_954) rfl ?_
    exact kt
  rw [show ((17 : Int32) + (Int32.ofNat ys.length)) = (Int32.ofNat (17 + ys.length)) from own_add (a := 17)]
  show Jvm.Q9.Aim p e below s _ _ n0 _ z0 (mkF m 955 #[q0, q1, q2, q3, q4, q5, q6, q7, q8, .val (.int tt), q10, q11, q12, q13, q14, .val (.ref z), .val (.int (Int32.ofNat ys.length)), .val (.int (Int32.ofNat (dec tt).length)), .val (.int (Int32.ofNat (41 + ys.length + (dec tt).length))), .val (.int (((48 : Int32) + (if (tt % (10 : Int32)) < (0 : Int32) then -(tt % (10 : Int32)) else (tt % (10 : Int32)))).toUInt32.toUInt16.toUInt32.toInt32))] [(.int ((Int32.ofNat (17 + ys.length)) + (Int32.ofNat (dec tt).length))), (.ref z)])
  rw [show ((Int32.ofNat (17 + ys.length)) + (Int32.ofNat (dec tt).length)) = (Int32.ofNat (17 + ys.length + (dec tt).length)) from own_add]
  show Jvm.Q9.Aim p e below s _ _ n0 _ z0 (mkF m 955 #[q0, q1, q2, q3, q4, q5, q6, q7, q8, .val (.int tt), q10, q11, q12, q13, q14, .val (.ref z), .val (.int (Int32.ofNat ys.length)), .val (.int (Int32.ofNat (dec tt).length)), .val (.int (Int32.ofNat (41 + ys.length + (dec tt).length))), .val (.int (((48 : Int32) + (if (tt % (10 : Int32)) < (0 : Int32) then -(tt % (10 : Int32)) else (tt % (10 : Int32)))).toUInt32.toUInt16.toUInt32.toInt32))] [(.int (Int32.ofNat (17 + ys.length + (dec tt).length))), (.ref z)])
  refine Jvm.Q9.Aim.callV (argsL := [(.int (Int32.ofNat (17 + ys.length + (dec tt).length)))]) (rest := []) z3 hx hZ hml hown (wI hw 239 rfl) (wI hw 240 rfl) (fun vm0 hZ => notFace_of_selects (args := #[]) (mvT (s := s.setVm vm0) hZ (wI hw 242 rfl))) (wI hw 242 rfl) (wI hw 241 rfl) (by decide) F0.1 (fun vm0 hZ => Jvm.Y9.Con.back (s := s.setVm vm0) (W := 0) (own_charAt l Z a0 hw z t2 k2 (descr ys tt) (Int32.ofNat (17 + ys.length + (dec tt).length)) h0 n0 Z0 F0 F1 ((own_clamp (n := (17 + ys.length + (dec tt).length)) (by omega)).2.1) (own_lt (a := (17 + ys.length + (dec tt).length)) (by rw [descr_len]; omega) (by rw [descr_len]; omega)) G GS) hZ (wI hw 243 rfl) (wI hw 4 rfl) (by decide) (by decide)) (fun _ _ ⟨_, q⟩ => (by subst q; exact Keep.refl _ [])) all0 rfl pd__28I_29C rfl (Nat.le_of_eq rfl) (hb hby at_955) (by decide) (by decide) ?_
  intro z5 z6 z7 z8 z9
  obtain ⟨rfl, rfl⟩ := z9
  have H := z8.here
  refine Jvm.Q9.Aim.of (T' := z5) (g' := (mkF m 975 #[q0, q1, q2, q3, q4, q5, q6, q7, q8, .val (.int tt), q10, q11, q12, q13, q14, .val (.ref z), .val (.int (Int32.ofNat ys.length)), .val (.int (Int32.ofNat (dec tt).length)), .val (.int (Int32.ofNat (41 + ys.length + (dec tt).length))), .val (.int (((48 : Int32) + (if (tt % (10 : Int32)) < (0 : Int32) then -(tt % (10 : Int32)) else (tt % (10 : Int32)))).toUInt32.toUInt16.toUInt32.toInt32))] [(.int (((18 : Int32) + (Int32.ofNat ys.length)) + (Int32.ofNat (dec tt).length))), (.ref z)])) (fun tgt kt => ?_) ?_
  · refine XS.iload H hx rfl (hb hby at_958) rfl ?_
    refine XS.icmpYes H hx rfl (pc0 := 960) (pc' := 965) rfl (hb hby at_960) rfl (teq (by rw [at_b (k := 17 + ys.length + (dec tt).length) (by omega), last_eq, show 17 + ys.length + (dec tt).length = 18 + ys.length + ((dec tt).length - 1) from by omega, de_d ys tt (by omega)]; exact dec_last tt)).1 (by decide) (by decide) ?_
    refine XS.aload H hx rfl (hb hby at_965) rfl rfl ?_
    refine XS.bipush H hx rfl (hb hby at_967) ?_
    refine XS.iload H hx rfl (hb hby at_969) rfl ?_
    refine XS.iadd H hx rfl (hb hby at_971) rfl ?_
    refine XS.iload H hx rfl (hb hby at_972) rfl ?_
    refine XS.iadd H hx rfl (hb hby at_974) rfl ?_
    exact kt
  rw [show ((18 : Int32) + (Int32.ofNat ys.length)) = (Int32.ofNat (18 + ys.length)) from own_add (a := 18)]
  show Jvm.Q9.Aim p e below s _ _ n0 _ z5 (mkF m 975 #[q0, q1, q2, q3, q4, q5, q6, q7, q8, .val (.int tt), q10, q11, q12, q13, q14, .val (.ref z), .val (.int (Int32.ofNat ys.length)), .val (.int (Int32.ofNat (dec tt).length)), .val (.int (Int32.ofNat (41 + ys.length + (dec tt).length))), .val (.int (((48 : Int32) + (if (tt % (10 : Int32)) < (0 : Int32) then -(tt % (10 : Int32)) else (tt % (10 : Int32)))).toUInt32.toUInt16.toUInt32.toInt32))] [(.int ((Int32.ofNat (18 + ys.length)) + (Int32.ofNat (dec tt).length))), (.ref z)])
  rw [show ((Int32.ofNat (18 + ys.length)) + (Int32.ofNat (dec tt).length)) = (Int32.ofNat (18 + ys.length + (dec tt).length)) from own_add]
  show Jvm.Q9.Aim p e below s _ _ n0 _ z5 (mkF m 975 #[q0, q1, q2, q3, q4, q5, q6, q7, q8, .val (.int tt), q10, q11, q12, q13, q14, .val (.ref z), .val (.int (Int32.ofNat ys.length)), .val (.int (Int32.ofNat (dec tt).length)), .val (.int (Int32.ofNat (41 + ys.length + (dec tt).length))), .val (.int (((48 : Int32) + (if (tt % (10 : Int32)) < (0 : Int32) then -(tt % (10 : Int32)) else (tt % (10 : Int32)))).toUInt32.toUInt16.toUInt32.toInt32))] [(.int (Int32.ofNat (18 + ys.length + (dec tt).length))), (.ref z)])
  refine Jvm.Q9.Aim.callV (argsL := [(.int (Int32.ofNat (18 + ys.length + (dec tt).length)))]) (rest := []) z8 hx hZ hml hown (wI hw 239 rfl) (wI hw 240 rfl) (fun vm0 hZ => notFace_of_selects (args := #[]) (mvT (s := s.setVm vm0) hZ (wI hw 242 rfl))) (wI hw 242 rfl) (wI hw 241 rfl) (by decide) F0.1 (fun vm0 hZ => Jvm.Y9.Con.back (s := s.setVm vm0) (W := 0) (own_charAt l Z a0 hw z t2 k2 (descr ys tt) (Int32.ofNat (18 + ys.length + (dec tt).length)) h0 n0 Z0 F0 F1 ((own_clamp (n := (18 + ys.length + (dec tt).length)) (by omega)).2.1) (own_lt (a := (18 + ys.length + (dec tt).length)) (by rw [descr_len]; omega) (by rw [descr_len]; omega)) G GS) hZ (wI hw 243 rfl) (wI hw 4 rfl) (by decide) (by decide)) (fun _ _ ⟨_, q⟩ => (by subst q; exact Keep.refl _ [])) all0 rfl pd__28I_29C rfl (Nat.le_of_eq rfl) (hb hby at_975) (by decide) (by decide) ?_
  intro za zb zc zd ze
  obtain ⟨rfl, rfl⟩ := ze
  have H := zd.here
  refine Jvm.Q9.Aim.of (T' := za) (g' := (mkF m 993 #[q0, q1, q2, q3, q4, q5, q6, q7, q8, .val (.int tt), q10, q11, q12, q13, q14, .val (.ref z), .val (.int (Int32.ofNat ys.length)), .val (.int (Int32.ofNat (dec tt).length)), .val (.int (Int32.ofNat (41 + ys.length + (dec tt).length))), .val (.int (((48 : Int32) + (if (tt % (10 : Int32)) < (0 : Int32) then -(tt % (10 : Int32)) else (tt % (10 : Int32)))).toUInt32.toUInt16.toUInt32.toInt32))] [(.int (((19 : Int32) + (Int32.ofNat ys.length)) + (Int32.ofNat (dec tt).length))), (.ref z)])) (fun tgt kt => ?_) ?_
  · refine XS.bipush H hx rfl (hb hby at_978) ?_
    refine XS.icmpNo H hx rfl (hb hby at_980) rfl (teq (by rw [at_b (k := 18 + ys.length + (dec tt).length) (by omega)]; exact (de_r ys tt (k := 0) (by omega)).trans lit2.1)).2 ?_
    refine XS.aload H hx rfl (hb hby at_983) rfl rfl ?_
    refine XS.bipush H hx rfl (hb hby at_985) ?_
    refine XS.iload H hx rfl (hb hby at_987) rfl ?_
    refine XS.iadd H hx rfl (hb hby at_989) rfl ?_
    refine XS.iload H hx rfl (hb hby at_990) rfl ?_
    refine XS.iadd H hx rfl (hb hby at_992) rfl ?_
    exact kt
  rw [show ((19 : Int32) + (Int32.ofNat ys.length)) = (Int32.ofNat (19 + ys.length)) from own_add (a := 19)]
  show Jvm.Q9.Aim p e below s _ _ n0 _ za (mkF m 993 #[q0, q1, q2, q3, q4, q5, q6, q7, q8, .val (.int tt), q10, q11, q12, q13, q14, .val (.ref z), .val (.int (Int32.ofNat ys.length)), .val (.int (Int32.ofNat (dec tt).length)), .val (.int (Int32.ofNat (41 + ys.length + (dec tt).length))), .val (.int (((48 : Int32) + (if (tt % (10 : Int32)) < (0 : Int32) then -(tt % (10 : Int32)) else (tt % (10 : Int32)))).toUInt32.toUInt16.toUInt32.toInt32))] [(.int ((Int32.ofNat (19 + ys.length)) + (Int32.ofNat (dec tt).length))), (.ref z)])
  rw [show ((Int32.ofNat (19 + ys.length)) + (Int32.ofNat (dec tt).length)) = (Int32.ofNat (19 + ys.length + (dec tt).length)) from own_add]
  show Jvm.Q9.Aim p e below s _ _ n0 _ za (mkF m 993 #[q0, q1, q2, q3, q4, q5, q6, q7, q8, .val (.int tt), q10, q11, q12, q13, q14, .val (.ref z), .val (.int (Int32.ofNat ys.length)), .val (.int (Int32.ofNat (dec tt).length)), .val (.int (Int32.ofNat (41 + ys.length + (dec tt).length))), .val (.int (((48 : Int32) + (if (tt % (10 : Int32)) < (0 : Int32) then -(tt % (10 : Int32)) else (tt % (10 : Int32)))).toUInt32.toUInt16.toUInt32.toInt32))] [(.int (Int32.ofNat (19 + ys.length + (dec tt).length))), (.ref z)])
  refine Jvm.Q9.Aim.callV (argsL := [(.int (Int32.ofNat (19 + ys.length + (dec tt).length)))]) (rest := []) zd hx hZ hml hown (wI hw 239 rfl) (wI hw 240 rfl) (fun vm0 hZ => notFace_of_selects (args := #[]) (mvT (s := s.setVm vm0) hZ (wI hw 242 rfl))) (wI hw 242 rfl) (wI hw 241 rfl) (by decide) F0.1 (fun vm0 hZ => Jvm.Y9.Con.back (s := s.setVm vm0) (W := 0) (own_charAt l Z a0 hw z t2 k2 (descr ys tt) (Int32.ofNat (19 + ys.length + (dec tt).length)) h0 n0 Z0 F0 F1 ((own_clamp (n := (19 + ys.length + (dec tt).length)) (by omega)).2.1) (own_lt (a := (19 + ys.length + (dec tt).length)) (by rw [descr_len]; omega) (by rw [descr_len]; omega)) G GS) hZ (wI hw 243 rfl) (wI hw 4 rfl) (by decide) (by decide)) (fun _ _ ⟨_, q⟩ => (by subst q; exact Keep.refl _ [])) all0 rfl pd__28I_29C rfl (Nat.le_of_eq rfl) (hb hby at_993) (by decide) (by decide) ?_
  intro zf zg zh zi zj
  obtain ⟨rfl, rfl⟩ := zj
  have H := zi.here
  refine Jvm.Q9.Aim.of (T' := zf) (g' := (mkF m 1009 #[q0, q1, q2, q3, q4, q5, q6, q7, q8, .val (.int tt), q10, q11, q12, q13, q14, .val (.ref z), .val (.int (Int32.ofNat ys.length)), .val (.int (Int32.ofNat (dec tt).length)), .val (.int (Int32.ofNat (41 + ys.length + (dec tt).length))), .val (.int (((48 : Int32) + (if (tt % (10 : Int32)) < (0 : Int32) then -(tt % (10 : Int32)) else (tt % (10 : Int32)))).toUInt32.toUInt16.toUInt32.toInt32))] [(.int ((Int32.ofNat (41 + ys.length + (dec tt).length)) - (1 : Int32))), (.ref z)])) (fun tgt kt => ?_) ?_
  · refine XS.bipush H hx rfl (hb hby at_996) ?_
    refine XS.icmpYes H hx rfl (pc0 := 998) (pc' := 1003) rfl (hb hby at_998) rfl (teq (by rw [at_b (k := 19 + ys.length + (dec tt).length) (by omega), show 19 + ys.length + (dec tt).length = 18 + ys.length + (dec tt).length + 1 from by omega]; exact (de_r ys tt (k := 1) (by omega)).trans lit2.2)).1 (by decide) (by decide) ?_
    refine XS.aload H hx rfl (hb hby at_1003) rfl rfl ?_
    refine XS.iload H hx rfl (hb hby at_1005) rfl ?_
    refine XS.iconst H hx rfl (hb hby at_1007) ?_
    refine XS.isub H hx rfl (hb hby at_1008) rfl ?_
    exact kt
  rw [show ((Int32.ofNat (41 + ys.length + (dec tt).length)) - (1 : Int32)) = (Int32.ofNat (41 + ys.length + (dec tt).length - 1)) from own_subN (b := 1) (by omega)]
  show Jvm.Q9.Aim p e below s _ _ n0 _ zf (mkF m 1009 #[q0, q1, q2, q3, q4, q5, q6, q7, q8, .val (.int tt), q10, q11, q12, q13, q14, .val (.ref z), .val (.int (Int32.ofNat ys.length)), .val (.int (Int32.ofNat (dec tt).length)), .val (.int (Int32.ofNat (41 + ys.length + (dec tt).length))), .val (.int (((48 : Int32) + (if (tt % (10 : Int32)) < (0 : Int32) then -(tt % (10 : Int32)) else (tt % (10 : Int32)))).toUInt32.toUInt16.toUInt32.toInt32))] [(.int (Int32.ofNat (41 + ys.length + (dec tt).length - 1))), (.ref z)])
  refine Jvm.Q9.Aim.callV (argsL := [(.int (Int32.ofNat (41 + ys.length + (dec tt).length - 1)))]) (rest := []) zi hx hZ hml hown (wI hw 239 rfl) (wI hw 240 rfl) (fun vm0 hZ => notFace_of_selects (args := #[]) (mvT (s := s.setVm vm0) hZ (wI hw 242 rfl))) (wI hw 242 rfl) (wI hw 241 rfl) (by decide) F0.1 (fun vm0 hZ => Jvm.Y9.Con.back (s := s.setVm vm0) (W := 0) (own_charAt l Z a0 hw z t2 k2 (descr ys tt) (Int32.ofNat (41 + ys.length + (dec tt).length - 1)) h0 n0 Z0 F0 F1 ((own_clamp (n := (41 + ys.length + (dec tt).length - 1)) (by omega)).2.1) (own_lt (a := (41 + ys.length + (dec tt).length - 1)) (by rw [descr_len]; omega) (by rw [descr_len]; omega)) G GS) hZ (wI hw 243 rfl) (wI hw 4 rfl) (by decide) (by decide)) (fun _ _ ⟨_, q⟩ => (by subst q; exact Keep.refl _ [])) all0 rfl pd__28I_29C rfl (Nat.le_of_eq rfl) (hb hby at_1009) (by decide) (by decide) ?_
  intro zk zl zm zn zo
  obtain ⟨rfl, rfl⟩ := zo
  have H := zn.here
  refine Jvm.Q9.Aim.of (T' := zk) (g' := (mkF m 1024 #[q0, q1, q2, q3, q4, q5, q6, q7, q8, .val (.int tt), q10, q11, q12, q13, q14, .val (.ref z), .val (.int (Int32.ofNat ys.length)), .val (.int (Int32.ofNat (dec tt).length)), .val (.int (Int32.ofNat (41 + ys.length + (dec tt).length))), .val (.int (((48 : Int32) + (if (tt % (10 : Int32)) < (0 : Int32) then -(tt % (10 : Int32)) else (tt % (10 : Int32)))).toUInt32.toUInt16.toUInt32.toInt32))] [(.int ((Int32.ofNat (41 + ys.length + (dec tt).length)) - (11 : Int32))), (.ref z)])) (fun tgt kt => ?_) ?_
  · refine XS.bipush H hx rfl (hb hby at_1012) ?_
    refine XS.icmpNo H hx rfl (hb hby at_1014) rfl (teq (by rw [at_b (k := 41 + ys.length + (dec tt).length - 1) (by omega), show 41 + ys.length + (dec tt).length - 1 = 30 + ys.length + (dec tt).length + 10 from by omega]; exact (de_g ys tt (k := 10) (by omega)).trans lit3.1)).2 ?_
    refine XS.aload H hx rfl (hb hby at_1017) rfl rfl ?_
    refine XS.iload H hx rfl (hb hby at_1019) rfl ?_
    refine XS.bipush H hx rfl (hb hby at_1021) ?_
    refine XS.isub H hx rfl (hb hby at_1023) rfl ?_
    exact kt
  rw [show ((Int32.ofNat (41 + ys.length + (dec tt).length)) - (11 : Int32)) = (Int32.ofNat (41 + ys.length + (dec tt).length - 11)) from own_subN (b := 11) (by omega)]
  show Jvm.Q9.Aim p e below s _ _ n0 _ zk (mkF m 1024 #[q0, q1, q2, q3, q4, q5, q6, q7, q8, .val (.int tt), q10, q11, q12, q13, q14, .val (.ref z), .val (.int (Int32.ofNat ys.length)), .val (.int (Int32.ofNat (dec tt).length)), .val (.int (Int32.ofNat (41 + ys.length + (dec tt).length))), .val (.int (((48 : Int32) + (if (tt % (10 : Int32)) < (0 : Int32) then -(tt % (10 : Int32)) else (tt % (10 : Int32)))).toUInt32.toUInt16.toUInt32.toInt32))] [(.int (Int32.ofNat (41 + ys.length + (dec tt).length - 11))), (.ref z)])
  refine Jvm.Q9.Aim.callV (argsL := [(.int (Int32.ofNat (41 + ys.length + (dec tt).length - 11)))]) (rest := []) zn hx hZ hml hown (wI hw 239 rfl) (wI hw 240 rfl) (fun vm0 hZ => notFace_of_selects (args := #[]) (mvT (s := s.setVm vm0) hZ (wI hw 242 rfl))) (wI hw 242 rfl) (wI hw 241 rfl) (by decide) F0.1 (fun vm0 hZ => Jvm.Y9.Con.back (s := s.setVm vm0) (W := 0) (own_charAt l Z a0 hw z t2 k2 (descr ys tt) (Int32.ofNat (41 + ys.length + (dec tt).length - 11)) h0 n0 Z0 F0 F1 ((own_clamp (n := (41 + ys.length + (dec tt).length - 11)) (by omega)).2.1) (own_lt (a := (41 + ys.length + (dec tt).length - 11)) (by rw [descr_len]; omega) (by rw [descr_len]; omega)) G GS) hZ (wI hw 243 rfl) (wI hw 4 rfl) (by decide) (by decide)) (fun _ _ ⟨_, q⟩ => (by subst q; exact Keep.refl _ [])) all0 rfl pd__28I_29C rfl (Nat.le_of_eq rfl) (hb hby at_1024) (by decide) (by decide) ?_
  intro zp zq zr zs zt
  obtain ⟨rfl, rfl⟩ := zt
  have H := zs.here
  refine Jvm.Q9.Aim.of (T' := zp) (g' := (mkF m 1035 #[q0, q1, q2, q3, q4, q5, q6, q7, q8, .val (.int tt), q10, q11, q12, q13, q14, .val (.ref z), .val (.int (Int32.ofNat ys.length)), .val (.int (Int32.ofNat (dec tt).length)), .val (.int (Int32.ofNat (41 + ys.length + (dec tt).length))), .val (.int (((48 : Int32) + (if (tt % (10 : Int32)) < (0 : Int32) then -(tt % (10 : Int32)) else (tt % (10 : Int32)))).toUInt32.toUInt16.toUInt32.toInt32))] [(.int 1)])) (fun tgt kt => ?_) ?_
  · refine XS.bipush H hx rfl (hb hby at_1027) ?_
    refine XS.icmpYes H hx rfl (pc0 := 1029) (pc' := 1034) rfl (hb hby at_1029) rfl (teq (by rw [at_b (k := 41 + ys.length + (dec tt).length - 11) (by omega), show 41 + ys.length + (dec tt).length - 11 = 30 + ys.length + (dec tt).length from by omega]; exact (de_g ys tt (k := 0) (by omega)).trans lit3.2)).1 (by decide) (by decide) ?_
    refine XS.iconst H hx rfl (hb hby at_1034) ?_
    exact kt
  exact Jvm.Q9.Aim.retN (t := .boolean) zs hx hlk hret (by simp) (hb hby at_1035) (by decide) (by decide) (Jvm.Q9.Grow.refl _ _) ⟨rfl, (Keep.refl h0 [])⟩
theorem own_tD (l : Launch) (Z : State) (a0 : Array Value) (hw : ∀ d ∈ tables_1, d.before a0 Z = true) (q0 : Slot) (q1 : Slot) (q2 : Slot) (q3 : Slot) (q4 : Slot) (q5 : Slot) (q6 : Slot) (q7 : Slot) (q8 : Slot) (q10 : Slot) (q11 : Slot) (q12 : Slot) (q13 : Slot) (q14 : Slot) (ys : List Int32) (tt : Int32) (z : Addr) (t2 : Addr) (k2 : ClassId) (h0 : Heap) (n0 : Nat) (Z0 : n0 ≤ h0.size) (Lc0 : List Addr) (F0 : Str Z h0 z t2 k2 (descr ys tt)) (F1 : Old Z n0 h0) (hA : ys.length ≤ 3 ∨ ys.length = 33 ∨ ys.length = 34) (G : Cmp Z) (GS : Sio Z) {p : Program} {e : Env} {s : State} {m : MethodId} {as' : Array Value} {below : List Frame} {meth : Method} {c : Code} {s₁ : State} (hx : p.tables.exec = Jvm.exec) (hby : c.code = code) (hml : c.maxLocals = maxLocals) (hret : meth.sig.returnType = ret) (hnm : meth.name = x.name) (hown : s.vm.findClass x.cls = some m.cls) (hlk : meth.locks = false) (hZ : Z.Warmed39 s.vm) (P0 : Jvm.Q9.On p l e room_1 s m as' below meth c Z LC n0 s₁ h0 24 1000 Lc0) :
    Jvm.Q9.Aim p e below s (room_1 : Room).cells (room_1 : Room).slots n0 (Jvm.Q9.QW Z LC h0 Lc0 (fun v h Lc => v = some (.int 1) ∧ Keep h0 h [])) s₁ (mkF m 862 #[q0, q1, q2, q3, q4, q5, q6, q7, q8, .val (.int tt), q10, q11, q12, q13, q14, .val (.ref z), .val (.int (Int32.ofNat ys.length)), .val (.int (Int32.ofNat (dec tt).length)), .val (.int (Int32.ofNat (41 + ys.length + (dec tt).length))), .unset] []) := by
  have hd1 := dec_len11 tt
  have hd2 := dec_pos tt
  have H := P0.here
  refine Jvm.Q9.Aim.of (T' := s₁) (g' := (mkF m 869 #[q0, q1, q2, q3, q4, q5, q6, q7, q8, .val (.int tt), q10, q11, q12, q13, q14, .val (.ref z), .val (.int (Int32.ofNat ys.length)), .val (.int (Int32.ofNat (dec tt).length)), .val (.int (Int32.ofNat (41 + ys.length + (dec tt).length))), .unset] [(.int ((11 : Int32) + (Int32.ofNat ys.length))), (.ref z)])) (fun tgt kt => ?_) ?_
  · refine XS.aload H hx rfl (hb hby at_862) rfl rfl ?_
    refine XS.bipush H hx rfl (hb hby at_864) ?_
    refine XS.iload H hx rfl (hb hby at_866) rfl ?_
    refine XS.iadd H hx rfl (hb hby at_868) rfl ?_
    exact kt
  rw [show ((11 : Int32) + (Int32.ofNat ys.length)) = (Int32.ofNat (11 + ys.length)) from own_add (a := 11)]
  show Jvm.Q9.Aim p e below s _ _ n0 _ s₁ (mkF m 869 #[q0, q1, q2, q3, q4, q5, q6, q7, q8, .val (.int tt), q10, q11, q12, q13, q14, .val (.ref z), .val (.int (Int32.ofNat ys.length)), .val (.int (Int32.ofNat (dec tt).length)), .val (.int (Int32.ofNat (41 + ys.length + (dec tt).length))), .unset] [(.int (Int32.ofNat (11 + ys.length))), (.ref z)])
  refine Jvm.Q9.Aim.callV (argsL := [(.int (Int32.ofNat (11 + ys.length)))]) (rest := []) P0 hx hZ hml hown (wI hw 239 rfl) (wI hw 240 rfl) (fun vm0 hZ => notFace_of_selects (args := #[]) (mvT (s := s.setVm vm0) hZ (wI hw 242 rfl))) (wI hw 242 rfl) (wI hw 241 rfl) (by decide) F0.1 (fun vm0 hZ => Jvm.Y9.Con.back (s := s.setVm vm0) (W := 0) (own_charAt l Z a0 hw z t2 k2 (descr ys tt) (Int32.ofNat (11 + ys.length)) h0 n0 Z0 F0 F1 ((own_clamp (n := (11 + ys.length)) (by omega)).2.1) (own_lt (a := (11 + ys.length)) (by rw [descr_len]; omega) (by rw [descr_len]; omega)) G GS) hZ (wI hw 243 rfl) (wI hw 4 rfl) (by decide) (by decide)) (fun _ _ ⟨_, q⟩ => (by subst q; exact Keep.refl _ [])) all0 rfl pd__28I_29C rfl (Nat.le_of_eq rfl) (hb hby at_869) (by decide) (by decide) ?_
  intro z0 z1 z2 z3 z4
  obtain ⟨rfl, rfl⟩ := z4
  have H := z3.here
  refine Jvm.Q9.Aim.of (T' := z0) (g' := (mkF m 884 #[q0, q1, q2, q3, q4, q5, q6, q7, q8, .val (.int tt), q10, q11, q12, q13, q14, .val (.ref z), .val (.int (Int32.ofNat ys.length)), .val (.int (Int32.ofNat (dec tt).length)), .val (.int (Int32.ofNat (41 + ys.length + (dec tt).length))), .unset] [(.int ((12 : Int32) + (Int32.ofNat ys.length))), (.ref z)])) (fun tgt kt => ?_) ?_
  · refine XS.bipush H hx rfl (hb hby at_872) ?_
    refine XS.icmpNo H hx rfl (hb hby at_874) rfl (teq (by rw [at_b (k := 11 + ys.length) (by omega)]; exact (de_a ys tt (k := 0) (by omega)).trans lit1.1)).2 ?_
    refine XS.aload H hx rfl (hb hby at_877) rfl rfl ?_
    refine XS.bipush H hx rfl (hb hby at_879) ?_
    refine XS.iload H hx rfl (hb hby at_881) rfl ?_
    refine XS.iadd H hx rfl (hb hby at_883) rfl ?_
    exact kt
  rw [show ((12 : Int32) + (Int32.ofNat ys.length)) = (Int32.ofNat (12 + ys.length)) from own_add (a := 12)]
  show Jvm.Q9.Aim p e below s _ _ n0 _ z0 (mkF m 884 #[q0, q1, q2, q3, q4, q5, q6, q7, q8, .val (.int tt), q10, q11, q12, q13, q14, .val (.ref z), .val (.int (Int32.ofNat ys.length)), .val (.int (Int32.ofNat (dec tt).length)), .val (.int (Int32.ofNat (41 + ys.length + (dec tt).length))), .unset] [(.int (Int32.ofNat (12 + ys.length))), (.ref z)])
  refine Jvm.Q9.Aim.callV (argsL := [(.int (Int32.ofNat (12 + ys.length)))]) (rest := []) z3 hx hZ hml hown (wI hw 239 rfl) (wI hw 240 rfl) (fun vm0 hZ => notFace_of_selects (args := #[]) (mvT (s := s.setVm vm0) hZ (wI hw 242 rfl))) (wI hw 242 rfl) (wI hw 241 rfl) (by decide) F0.1 (fun vm0 hZ => Jvm.Y9.Con.back (s := s.setVm vm0) (W := 0) (own_charAt l Z a0 hw z t2 k2 (descr ys tt) (Int32.ofNat (12 + ys.length)) h0 n0 Z0 F0 F1 ((own_clamp (n := (12 + ys.length)) (by omega)).2.1) (own_lt (a := (12 + ys.length)) (by rw [descr_len]; omega) (by rw [descr_len]; omega)) G GS) hZ (wI hw 243 rfl) (wI hw 4 rfl) (by decide) (by decide)) (fun _ _ ⟨_, q⟩ => (by subst q; exact Keep.refl _ [])) all0 rfl pd__28I_29C rfl (Nat.le_of_eq rfl) (hb hby at_884) (by decide) (by decide) ?_
  intro z5 z6 z7 z8 z9
  obtain ⟨rfl, rfl⟩ := z9
  have H := z8.here
  refine Jvm.Q9.Aim.of (T' := z5) (g' := (mkF m 899 #[q0, q1, q2, q3, q4, q5, q6, q7, q8, .val (.int tt), q10, q11, q12, q13, q14, .val (.ref z), .val (.int (Int32.ofNat ys.length)), .val (.int (Int32.ofNat (dec tt).length)), .val (.int (Int32.ofNat (41 + ys.length + (dec tt).length))), .unset] [(.int ((17 : Int32) + (Int32.ofNat ys.length))), (.ref z)])) (fun tgt kt => ?_) ?_
  · refine XS.bipush H hx rfl (hb hby at_887) ?_
    refine XS.icmpNo H hx rfl (hb hby at_889) rfl (teq (by rw [at_b (k := 12 + ys.length) (by omega), show 12 + ys.length = 11 + ys.length + 1 from by omega]; exact (de_a ys tt (k := 1) (by omega)).trans lit1.2.1)).2 ?_
    refine XS.aload H hx rfl (hb hby at_892) rfl rfl ?_
    refine XS.bipush H hx rfl (hb hby at_894) ?_
    refine XS.iload H hx rfl (hb hby at_896) rfl ?_
    refine XS.iadd H hx rfl (hb hby at_898) rfl ?_
    exact kt
  rw [show ((17 : Int32) + (Int32.ofNat ys.length)) = (Int32.ofNat (17 + ys.length)) from own_add (a := 17)]
  show Jvm.Q9.Aim p e below s _ _ n0 _ z5 (mkF m 899 #[q0, q1, q2, q3, q4, q5, q6, q7, q8, .val (.int tt), q10, q11, q12, q13, q14, .val (.ref z), .val (.int (Int32.ofNat ys.length)), .val (.int (Int32.ofNat (dec tt).length)), .val (.int (Int32.ofNat (41 + ys.length + (dec tt).length))), .unset] [(.int (Int32.ofNat (17 + ys.length))), (.ref z)])
  refine Jvm.Q9.Aim.callV (argsL := [(.int (Int32.ofNat (17 + ys.length)))]) (rest := []) z8 hx hZ hml hown (wI hw 239 rfl) (wI hw 240 rfl) (fun vm0 hZ => notFace_of_selects (args := #[]) (mvT (s := s.setVm vm0) hZ (wI hw 242 rfl))) (wI hw 242 rfl) (wI hw 241 rfl) (by decide) F0.1 (fun vm0 hZ => Jvm.Y9.Con.back (s := s.setVm vm0) (W := 0) (own_charAt l Z a0 hw z t2 k2 (descr ys tt) (Int32.ofNat (17 + ys.length)) h0 n0 Z0 F0 F1 ((own_clamp (n := (17 + ys.length)) (by omega)).2.1) (own_lt (a := (17 + ys.length)) (by rw [descr_len]; omega) (by rw [descr_len]; omega)) G GS) hZ (wI hw 243 rfl) (wI hw 4 rfl) (by decide) (by decide)) (fun _ _ ⟨_, q⟩ => (by subst q; exact Keep.refl _ [])) all0 rfl pd__28I_29C rfl (Nat.le_of_eq rfl) (hb hby at_899) (by decide) (by decide) ?_
  intro za zb zc zd ze
  obtain ⟨rfl, rfl⟩ := ze
  have H := zd.here
  refine Jvm.Q9.Aim.of (T' := za) (g' := (mkF m 911 #[q0, q1, q2, q3, q4, q5, q6, q7, q8, .val (.int tt), q10, q11, q12, q13, q14, .val (.ref z), .val (.int (Int32.ofNat ys.length)), .val (.int (Int32.ofNat (dec tt).length)), .val (.int (Int32.ofNat (41 + ys.length + (dec tt).length))), .unset] [(.int tt)])) (fun tgt kt => ?_) ?_
  · refine XS.bipush H hx rfl (hb hby at_902) ?_
    refine XS.icmpYes H hx rfl (pc0 := 904) (pc' := 909) rfl (hb hby at_904) rfl (teq (by rw [at_b (k := 17 + ys.length) (by omega), show 17 + ys.length = 11 + ys.length + 6 from by omega]; exact (de_a ys tt (k := 6) (by omega)).trans lit1.2.2)).1 (by decide) (by decide) ?_
    refine XS.iload H hx rfl (hb hby at_909) rfl ?_
    exact kt
  by_cases zf : tt < (0 : Int32)
  · skip
    have H := zd.here
    refine Jvm.Q9.Aim.of (T' := za) (g' := (mkF m 921 #[q0, q1, q2, q3, q4, q5, q6, q7, q8, .val (.int tt), q10, q11, q12, q13, q14, .val (.ref z), .val (.int (Int32.ofNat ys.length)), .val (.int (Int32.ofNat (dec tt).length)), .val (.int (Int32.ofNat (41 + ys.length + (dec tt).length))), .unset] [(.int ((18 : Int32) + (Int32.ofNat ys.length))), (.ref z)])) (fun tgt kt => ?_) ?_
    · refine XS.ifNo H hx rfl (hb hby at_911) rfl ((if0 _ _).trans (tlt zf).2.1) ?_
      refine XS.aload H hx rfl (hb hby at_914) rfl rfl ?_
      refine XS.bipush H hx rfl (hb hby at_916) ?_
      refine XS.iload H hx rfl (hb hby at_918) rfl ?_
      refine XS.iadd H hx rfl (hb hby at_920) rfl ?_
      exact kt
    rw [show ((18 : Int32) + (Int32.ofNat ys.length)) = (Int32.ofNat (18 + ys.length)) from own_add (a := 18)]
    show Jvm.Q9.Aim p e below s _ _ n0 _ za (mkF m 921 #[q0, q1, q2, q3, q4, q5, q6, q7, q8, .val (.int tt), q10, q11, q12, q13, q14, .val (.ref z), .val (.int (Int32.ofNat ys.length)), .val (.int (Int32.ofNat (dec tt).length)), .val (.int (Int32.ofNat (41 + ys.length + (dec tt).length))), .unset] [(.int (Int32.ofNat (18 + ys.length))), (.ref z)])
    refine Jvm.Q9.Aim.callV (argsL := [(.int (Int32.ofNat (18 + ys.length)))]) (rest := []) zd hx hZ hml hown (wI hw 239 rfl) (wI hw 240 rfl) (fun vm0 hZ => notFace_of_selects (args := #[]) (mvT (s := s.setVm vm0) hZ (wI hw 242 rfl))) (wI hw 242 rfl) (wI hw 241 rfl) (by decide) F0.1 (fun vm0 hZ => Jvm.Y9.Con.back (s := s.setVm vm0) (W := 0) (own_charAt l Z a0 hw z t2 k2 (descr ys tt) (Int32.ofNat (18 + ys.length)) h0 n0 Z0 F0 F1 ((own_clamp (n := (18 + ys.length)) (by omega)).2.1) (own_lt (a := (18 + ys.length)) (by rw [descr_len]; omega) (by rw [descr_len]; omega)) G GS) hZ (wI hw 243 rfl) (wI hw 4 rfl) (by decide) (by decide)) (fun _ _ ⟨_, q⟩ => (by subst q; exact Keep.refl _ [])) all0 rfl pd__28I_29C rfl (Nat.le_of_eq rfl) (hb hby at_921) (by decide) (by decide) ?_
    intro zg zh zi zj zk
    obtain ⟨rfl, rfl⟩ := zk
    have H := zj.here
    refine Jvm.Q9.Aim.of (T' := zg) (g' := (mkF m 931 #[q0, q1, q2, q3, q4, q5, q6, q7, q8, .val (.int tt), q10, q11, q12, q13, q14, .val (.ref z), .val (.int (Int32.ofNat ys.length)), .val (.int (Int32.ofNat (dec tt).length)), .val (.int (Int32.ofNat (41 + ys.length + (dec tt).length))), .unset] [])) (fun tgt kt => ?_) ?_
    · refine XS.bipush H hx rfl (hb hby at_924) ?_
      refine XS.icmpYes H hx rfl (pc0 := 926) (pc' := 931) rfl (hb hby at_926) rfl (teq (by rw [at_b (k := 18 + ys.length) (by omega)]; exact (de_d ys tt (k := 0) (by omega)).trans (dec_first zf))).1 (by decide) (by decide) ?_
      exact kt
    exact (own_tF l Z a0 hw q0 q1 q2 q3 q4 q5 q6 q7 q8 q10 q11 q12 q13 q14 ys tt z t2 k2 h0 n0 Z0 Lc0 F0 F1 hA G GS hx hby hml hret hnm hown hlk hZ (zj.more (by decide) (by decide))).imp (fun vv hh it ⟨Lq, ⟨vq, kq⟩, aq, gq⟩ => ⟨Lq, ⟨vq, (Keep.refl h0 []).trans kq all0⟩, aq, (Jvm.Q9.Grow.refl _ _).trans gq (Nat.le_refl _)⟩)
  · skip
    have H := zd.here
    refine Jvm.Q9.Aim.of (T' := za) (g' := (mkF m 931 #[q0, q1, q2, q3, q4, q5, q6, q7, q8, .val (.int tt), q10, q11, q12, q13, q14, .val (.ref z), .val (.int (Int32.ofNat ys.length)), .val (.int (Int32.ofNat (dec tt).length)), .val (.int (Int32.ofNat (41 + ys.length + (dec tt).length))), .unset] [])) (fun tgt kt => ?_) ?_
    · refine XS.ifYes H hx rfl (pc0 := 911) (pc' := 931) rfl (hb hby at_911) rfl ((if0 _ _).trans (flt zf).2.1) (by decide) (by decide) ?_
      exact kt
    exact (own_tF l Z a0 hw q0 q1 q2 q3 q4 q5 q6 q7 q8 q10 q11 q12 q13 q14 ys tt z t2 k2 h0 n0 Z0 Lc0 F0 F1 hA G GS hx hby hml hret hnm hown hlk hZ (zd.more (by decide) (by decide))).imp (fun vv hh it ⟨Lq, ⟨vq, kq⟩, aq, gq⟩ => ⟨Lq, ⟨vq, (Keep.refl h0 []).trans kq all0⟩, aq, (Jvm.Q9.Grow.refl _ _).trans gq (Nat.le_refl _)⟩)
theorem own_tB (l : Launch) (Z : State) (a0 : Array Value) (hw : ∀ d ∈ tables_1, d.before a0 Z = true) (q0 : Slot) (q1 : Slot) (q2 : Slot) (q3 : Slot) (q4 : Slot) (q5 : Slot) (q6 : Slot) (q7 : Slot) (q8 : Slot) (q10 : Slot) (q12 : Slot) (q14 : Slot) (q15 : Slot) (q16 : Slot) (q17 : Slot) (q18 : Slot) (hq15 : q15 = .unset ∨ ∃ w : Value, q15 = .val w ∧ w.category = 1) (hq16 : q16 = .unset ∨ ∃ w : Value, q16 = .val w ∧ w.category = 1) (hq17 : q17 = .unset ∨ ∃ w : Value, q17 = .val w ∧ w.category = 1) (hq18 : q18 = .unset ∨ ∃ w : Value, q18 = .val w ∧ w.category = 1) (ys : List Int32) (tt : Int32) (z : Addr) (t2 : Addr) (k2 : ClassId) (y : Addr) (u : Addr) (ku : ClassId) (o : Addr) (h0 : Heap) (n0 : Nat) (Z0 : n0 ≤ h0.size) (Lc0 : List Addr) (F0 : Exa Z h0 o "com/example/etsin/etsin/BenchTurn$Outcome") (F1 : Fld Z h0 o "com/example/etsin/etsin/BenchTurn$Outcome" "description" "Ljava/lang/String;" (.ref z)) (F2 : Str Z h0 z t2 k2 (descr ys tt)) (F3 : Str Z h0 y u ku ys) (F4 : Old Z n0 h0) (hA : ys.length ≤ 3 ∨ ys.length = 33 ∨ ys.length = 34) (G : Cmp Z) (GS : Sio Z) {p : Program} {e : Env} {s : State} {m : MethodId} {as' : Array Value} {below : List Frame} {meth : Method} {c : Code} {s₁ : State} (hx : p.tables.exec = Jvm.exec) (hby : c.code = code) (hml : c.maxLocals = maxLocals) (hret : meth.sig.returnType = ret) (hnm : meth.name = x.name) (hown : s.vm.findClass x.cls = some m.cls) (hlk : meth.locks = false) (hZ : Z.Warmed39 s.vm) (P0 : Jvm.Q9.On p l e room_1 s m as' below meth c Z LC n0 s₁ h0 24 1000 Lc0) :
    Jvm.Q9.Aim p e below s (room_1 : Room).cells (room_1 : Room).slots n0 (Jvm.Q9.QW Z LC h0 Lc0 (fun v h Lc => v = some (.int 1) ∧ Keep h0 h [])) s₁ (mkF m 740 #[q0, q1, q2, q3, q4, q5, q6, q7, q8, .val (.int tt), q10, .val (.ref y), q12, .val (.ref o), q14, q15, q16, q17, q18, .unset] []) := by
  have hd1 := dec_len11 tt
  have hd2 := dec_pos tt
  have H := P0.here
  refine Jvm.Q9.Aim.of (T' := s₁) (g' := (mkF m 742 #[q0, q1, q2, q3, q4, q5, q6, q7, q8, .val (.int tt), q10, .val (.ref y), q12, .val (.ref o), q14, q15, q16, q17, q18, .unset] [(.ref o)])) (fun tgt kt => ?_) ?_
  · refine XS.aload H hx rfl (hb hby at_740) rfl rfl ?_
    exact kt
  refine Jvm.Q9.Aim.callV (argsL := []) (rest := []) P0 hx hZ hml hown (wI hw 217 rfl) (wI hw 218 rfl) (fun vm0 hZ => notFace_of_selects (args := #[]) (mvT (s := s.setVm vm0) hZ (wI hw 220 rfl))) (wI hw 220 rfl) (wI hw 219 rfl) (by decide) F0 (fun vm0 hZ => Jvm.Y9.Con.back (s := s.setVm vm0) (W := 0) (own_des l Z a0 hw o z h0 n0 Z0 F1) hZ (wI hw 221 rfl) (wI hw 33 rfl) (by decide) (by decide)) (fun _ _ ⟨_, q⟩ => (by subst q; exact Keep.refl _ [])) all0 rfl pd__28_29Ljava_2flang_2fString_3b rfl (Nat.le_of_eq rfl) (hb hby at_742) (by decide) (by decide) ?_
  intro z0 z1 z2 z3 z4
  obtain ⟨rfl, rfl⟩ := z4
  have H := z3.here
  refine Jvm.Q9.Aim.of (T' := z0) (g' := (mkF m 756 #[q0, q1, q2, q3, q4, q5, q6, q7, q8, .val (.int tt), q10, .val (.ref y), q12, .val (.ref o), q14, .val (.ref z), q16, q17, q18, .unset] [(.ref y)])) (fun tgt kt => ?_) ?_
  · refine XS.astore H hx rfl (hb hby at_745) rfl rfl (l' := #[q0, q1, q2, q3, q4, q5, q6, q7, q8, .val (.int tt), q10, .val (.ref y), q12, .val (.ref o), q14, .val (.ref z), q16, q17, q18, .unset]) (XS.store1 rfl hq15 rfl) ?_
    refine XS.aload H hx rfl (hb hby at_747) rfl rfl ?_
    refine XS.ifnonnullYes H hx rfl (pc0 := 749) (pc' := 754) rfl (hb hby at_749) rfl (by decide) (by decide) ?_
    refine XS.aload H hx rfl (hb hby at_754) rfl rfl ?_
    exact kt
  refine Jvm.Q9.Aim.callV (argsL := []) (rest := []) z3 hx hZ hml hown (wI hw 222 rfl) (wI hw 80 rfl) (fun vm0 hZ => notFace_of_selects (args := #[]) (mvT (s := s.setVm vm0) hZ (wI hw 82 rfl))) (wI hw 82 rfl) (wI hw 81 rfl) (by decide) F3.1 (fun vm0 hZ => Jvm.Y9.Con.back (s := s.setVm vm0) (W := 0) (own_length l Z a0 hw y u ku ys h0 n0 Z0 F3 F4 G) hZ (wI hw 83 rfl) (wI hw 4 rfl) (by decide) (by decide)) (fun _ _ ⟨_, q⟩ => (by subst q; exact Keep.refl _ [])) all0 rfl pd__28_29I rfl (Nat.le_of_eq rfl) (hb hby at_756) (by decide) (by decide) ?_
  intro z5 z6 z7 z8 z9
  obtain ⟨rfl, rfl⟩ := z9
  have H := z8.here
  refine Jvm.Q9.Aim.of (T' := z5) (g' := (mkF m 763 #[q0, q1, q2, q3, q4, q5, q6, q7, q8, .val (.int tt), q10, .val (.ref y), q12, .val (.ref o), q14, .val (.ref z), .val (.int (Int32.ofNat ys.length)), q17, q18, .unset] [(.int tt)])) (fun tgt kt => ?_) ?_
  · refine XS.istore H hx rfl (hb hby at_759) rfl (l' := #[q0, q1, q2, q3, q4, q5, q6, q7, q8, .val (.int tt), q10, .val (.ref y), q12, .val (.ref o), q14, .val (.ref z), .val (.int (Int32.ofNat ys.length)), q17, q18, .unset]) (XS.store1 rfl hq16 rfl) ?_
    refine XS.iload H hx rfl (hb hby at_761) rfl ?_
    exact kt
  refine Jvm.Q9.Aim.callS (argsL := [(.int tt)]) (rest := []) z8 hx hZ hml hown (wI hw 223 rfl) (wI hw 224 rfl) (wI hw 225 rfl) (wI hw 226 rfl) (by decide) (fun vm0 hZ => Jvm.Y9.Con.back (s := s.setVm vm0) (W := 0) (own_width l Z a0 hw tt h0 n0 Z0) hZ (wI hw 226 rfl) (wI hw 225 rfl) (by decide) (by decide)) (fun _ _ ⟨_, q⟩ => (by subst q; exact Keep.refl _ [])) all0 rfl pd__28I_29I rfl (Nat.le_of_eq rfl) (hb hby at_763) (by decide) (by decide) ?_
  intro za zb zc zd ze
  obtain ⟨rfl, rfl⟩ := ze
  have H := zd.here
  refine Jvm.Q9.Aim.of (T' := za) (g' := (mkF m 776 #[q0, q1, q2, q3, q4, q5, q6, q7, q8, .val (.int tt), q10, .val (.ref y), q12, .val (.ref o), q14, .val (.ref z), .val (.int (Int32.ofNat ys.length)), .val (.int (Int32.ofNat (dec tt).length)), q18, .unset] [(.int (((41 : Int32) + (Int32.ofNat ys.length)) + (Int32.ofNat (dec tt).length)))])) (fun tgt kt => ?_) ?_
  · refine XS.istore H hx rfl (hb hby at_766) rfl (l' := #[q0, q1, q2, q3, q4, q5, q6, q7, q8, .val (.int tt), q10, .val (.ref y), q12, .val (.ref o), q14, .val (.ref z), .val (.int (Int32.ofNat ys.length)), .val (.int (Int32.ofNat (dec tt).length)), q18, .unset]) (XS.store1 rfl hq17 rfl) ?_
    refine XS.bipush H hx rfl (hb hby at_768) ?_
    refine XS.iload H hx rfl (hb hby at_770) rfl ?_
    refine XS.iadd H hx rfl (hb hby at_772) rfl ?_
    refine XS.iload H hx rfl (hb hby at_773) rfl ?_
    refine XS.iadd H hx rfl (hb hby at_775) rfl ?_
    exact kt
  rw [show ((41 : Int32) + (Int32.ofNat ys.length)) = (Int32.ofNat (41 + ys.length)) from own_add (a := 41)]
  show Jvm.Q9.Aim p e below s _ _ n0 _ za (mkF m 776 #[q0, q1, q2, q3, q4, q5, q6, q7, q8, .val (.int tt), q10, .val (.ref y), q12, .val (.ref o), q14, .val (.ref z), .val (.int (Int32.ofNat ys.length)), .val (.int (Int32.ofNat (dec tt).length)), q18, .unset] [(.int ((Int32.ofNat (41 + ys.length)) + (Int32.ofNat (dec tt).length)))])
  rw [show ((Int32.ofNat (41 + ys.length)) + (Int32.ofNat (dec tt).length)) = (Int32.ofNat (41 + ys.length + (dec tt).length)) from own_add]
  show Jvm.Q9.Aim p e below s _ _ n0 _ za (mkF m 776 #[q0, q1, q2, q3, q4, q5, q6, q7, q8, .val (.int tt), q10, .val (.ref y), q12, .val (.ref o), q14, .val (.ref z), .val (.int (Int32.ofNat ys.length)), .val (.int (Int32.ofNat (dec tt).length)), q18, .unset] [(.int (Int32.ofNat (41 + ys.length + (dec tt).length)))])
  have H := zd.here
  refine Jvm.Q9.Aim.of (T' := za) (g' := (mkF m 780 #[q0, q1, q2, q3, q4, q5, q6, q7, q8, .val (.int tt), q10, .val (.ref y), q12, .val (.ref o), q14, .val (.ref z), .val (.int (Int32.ofNat ys.length)), .val (.int (Int32.ofNat (dec tt).length)), .val (.int (Int32.ofNat (41 + ys.length + (dec tt).length))), .unset] [(.ref z)])) (fun tgt kt => ?_) ?_
  · refine XS.istore H hx rfl (hb hby at_776) rfl (l' := #[q0, q1, q2, q3, q4, q5, q6, q7, q8, .val (.int tt), q10, .val (.ref y), q12, .val (.ref o), q14, .val (.ref z), .val (.int (Int32.ofNat ys.length)), .val (.int (Int32.ofNat (dec tt).length)), .val (.int (Int32.ofNat (41 + ys.length + (dec tt).length))), .unset]) (XS.store1 rfl hq18 rfl) ?_
    refine XS.aload H hx rfl (hb hby at_778) rfl rfl ?_
    exact kt
  refine Jvm.Q9.Aim.callV (argsL := []) (rest := []) zd hx hZ hml hown (wI hw 222 rfl) (wI hw 80 rfl) (fun vm0 hZ => notFace_of_selects (args := #[]) (mvT (s := s.setVm vm0) hZ (wI hw 82 rfl))) (wI hw 82 rfl) (wI hw 81 rfl) (by decide) F2.1 (fun vm0 hZ => Jvm.Y9.Con.back (s := s.setVm vm0) (W := 0) (own_length l Z a0 hw z t2 k2 (descr ys tt) h0 n0 Z0 F2 F4 G) hZ (wI hw 83 rfl) (wI hw 4 rfl) (by decide) (by decide)) (fun _ _ ⟨_, q⟩ => (by subst q; exact Keep.refl _ [])) all0 rfl pd__28_29I rfl (Nat.le_of_eq rfl) (hb hby at_780) (by decide) (by decide) ?_
  intro zf zg zh zi zj
  obtain ⟨rfl, rfl⟩ := zj
  have H := zi.here
  refine Jvm.Q9.Aim.of (T' := zf) (g' := (mkF m 793 #[q0, q1, q2, q3, q4, q5, q6, q7, q8, .val (.int tt), q10, .val (.ref y), q12, .val (.ref o), q14, .val (.ref z), .val (.int (Int32.ofNat ys.length)), .val (.int (Int32.ofNat (dec tt).length)), .val (.int (Int32.ofNat (41 + ys.length + (dec tt).length))), .unset] [(.int 0), (.ref z)])) (fun tgt kt => ?_) ?_
  · refine XS.iload H hx rfl (hb hby at_783) rfl ?_
    refine XS.icmpYes H hx rfl (pc0 := 785) (pc' := 790) rfl (hb hby at_785) rfl (teq (by rw [descr_len])).1 (by decide) (by decide) ?_
    refine XS.aload H hx rfl (hb hby at_790) rfl rfl ?_
    refine XS.iconst H hx rfl (hb hby at_792) ?_
    exact kt
  refine Jvm.Q9.Aim.callV (argsL := [(.int 0)]) (rest := []) zi hx hZ hml hown (wI hw 239 rfl) (wI hw 240 rfl) (fun vm0 hZ => notFace_of_selects (args := #[]) (mvT (s := s.setVm vm0) hZ (wI hw 242 rfl))) (wI hw 242 rfl) (wI hw 241 rfl) (by decide) F2.1 (fun vm0 hZ => Jvm.Y9.Con.back (s := s.setVm vm0) (W := 0) (own_charAt l Z a0 hw z t2 k2 (descr ys tt) (0 : Int32) h0 n0 Z0 F2 F4 ((own_clamp (n := 0) (by omega)).2.1) (own_lt (a := 0) (by rw [descr_len]; omega) (by rw [descr_len]; omega)) G GS) hZ (wI hw 243 rfl) (wI hw 4 rfl) (by decide) (by decide)) (fun _ _ ⟨_, q⟩ => (by subst q; exact Keep.refl _ [])) all0 rfl pd__28I_29C rfl (Nat.le_of_eq rfl) (hb hby at_793) (by decide) (by decide) ?_
  intro zk zl zm zn zo
  obtain ⟨rfl, rfl⟩ := zo
  have H := zn.here
  refine Jvm.Q9.Aim.of (T' := zk) (g' := (mkF m 805 #[q0, q1, q2, q3, q4, q5, q6, q7, q8, .val (.int tt), q10, .val (.ref y), q12, .val (.ref o), q14, .val (.ref z), .val (.int (Int32.ofNat ys.length)), .val (.int (Int32.ofNat (dec tt).length)), .val (.int (Int32.ofNat (41 + ys.length + (dec tt).length))), .unset] [(.int 10), (.ref z)])) (fun tgt kt => ?_) ?_
  · refine XS.bipush H hx rfl (hb hby at_796) ?_
    refine XS.icmpNo H hx rfl (hb hby at_798) rfl (teq (de_0 ys tt)).2 ?_
    refine XS.aload H hx rfl (hb hby at_801) rfl rfl ?_
    refine XS.bipush H hx rfl (hb hby at_803) ?_
    exact kt
  refine Jvm.Q9.Aim.callV (argsL := [(.int 10)]) (rest := []) zn hx hZ hml hown (wI hw 239 rfl) (wI hw 240 rfl) (fun vm0 hZ => notFace_of_selects (args := #[]) (mvT (s := s.setVm vm0) hZ (wI hw 242 rfl))) (wI hw 242 rfl) (wI hw 241 rfl) (by decide) F2.1 (fun vm0 hZ => Jvm.Y9.Con.back (s := s.setVm vm0) (W := 0) (own_charAt l Z a0 hw z t2 k2 (descr ys tt) (10 : Int32) h0 n0 Z0 F2 F4 ((own_clamp (n := 10) (by omega)).2.1) (own_lt (a := 10) (by rw [descr_len]; omega) (by rw [descr_len]; omega)) G GS) hZ (wI hw 243 rfl) (wI hw 4 rfl) (by decide) (by decide)) (fun _ _ ⟨_, q⟩ => (by subst q; exact Keep.refl _ [])) all0 rfl pd__28I_29C rfl (Nat.le_of_eq rfl) (hb hby at_805) (by decide) (by decide) ?_
  intro zp zq zr zs zt
  obtain ⟨rfl, rfl⟩ := zt
  have H := zs.here
  refine Jvm.Q9.Aim.of (T' := zp) (g' := (mkF m 817 #[q0, q1, q2, q3, q4, q5, q6, q7, q8, .val (.int tt), q10, .val (.ref y), q12, .val (.ref o), q14, .val (.ref z), .val (.int (Int32.ofNat ys.length)), .val (.int (Int32.ofNat (dec tt).length)), .val (.int (Int32.ofNat (41 + ys.length + (dec tt).length))), .unset] [(.int (Int32.ofNat ys.length))])) (fun tgt kt => ?_) ?_
  · refine XS.bipush H hx rfl (hb hby at_808) ?_
    refine XS.icmpYes H hx rfl (pc0 := 810) (pc' := 815) rfl (hb hby at_810) rfl (teq (de_10 ys tt)).1 (by decide) (by decide) ?_
    refine XS.iload H hx rfl (hb hby at_815) rfl ?_
    exact kt
  by_cases zu : (0 : Int32) < (Int32.ofNat ys.length)
  · skip
    have hn1 : 0 < ys.length := Nat.pos_of_ne_zero (fun q => by have := zu; rw [q] at this; exact absurd this (by decide))
    have H := zs.here
    refine Jvm.Q9.Aim.of (T' := zp) (g' := (mkF m 824 #[q0, q1, q2, q3, q4, q5, q6, q7, q8, .val (.int tt), q10, .val (.ref y), q12, .val (.ref o), q14, .val (.ref z), .val (.int (Int32.ofNat ys.length)), .val (.int (Int32.ofNat (dec tt).length)), .val (.int (Int32.ofNat (41 + ys.length + (dec tt).length))), .unset] [(.int 11), (.ref z)])) (fun tgt kt => ?_) ?_
    · refine XS.ifNo H hx rfl (hb hby at_817) rfl ((if0 _ _).trans (tlt zu).2.2.2) ?_
      refine XS.aload H hx rfl (hb hby at_820) rfl rfl ?_
      refine XS.bipush H hx rfl (hb hby at_822) ?_
      exact kt
    refine Jvm.Q9.Aim.callV (argsL := [(.int 11)]) (rest := []) zs hx hZ hml hown (wI hw 239 rfl) (wI hw 240 rfl) (fun vm0 hZ => notFace_of_selects (args := #[]) (mvT (s := s.setVm vm0) hZ (wI hw 242 rfl))) (wI hw 242 rfl) (wI hw 241 rfl) (by decide) F2.1 (fun vm0 hZ => Jvm.Y9.Con.back (s := s.setVm vm0) (W := 0) (own_charAt l Z a0 hw z t2 k2 (descr ys tt) (11 : Int32) h0 n0 Z0 F2 F4 ((own_clamp (n := 11) (by omega)).2.1) (own_lt (a := 11) (by rw [descr_len]; omega) (by rw [descr_len]; omega)) G GS) hZ (wI hw 243 rfl) (wI hw 4 rfl) (by decide) (by decide)) (fun _ _ ⟨_, q⟩ => (by subst q; exact Keep.refl _ [])) all0 rfl pd__28I_29C rfl (Nat.le_of_eq rfl) (hb hby at_824) (by decide) (by decide) ?_
    intro zv zw zx zy zz
    obtain ⟨rfl, rfl⟩ := zz
    have H := zy.here
    refine Jvm.Q9.Aim.of (T' := zv) (g' := (mkF m 830 #[q0, q1, q2, q3, q4, q5, q6, q7, q8, .val (.int tt), q10, .val (.ref y), q12, .val (.ref o), q14, .val (.ref z), .val (.int (Int32.ofNat ys.length)), .val (.int (Int32.ofNat (dec tt).length)), .val (.int (Int32.ofNat (41 + ys.length + (dec tt).length))), .unset] [(.int 0), (.ref y), (.int ((descr ys tt).getD (11 : Int32).toNatClampNeg 0))])) (fun tgt kt => ?_) ?_
    · refine XS.aload H hx rfl (hb hby at_827) rfl rfl ?_
      refine XS.iconst H hx rfl (hb hby at_829) ?_
      exact kt
    refine Jvm.Q9.Aim.callV (argsL := [(.int 0)]) (rest := [(.int ((descr ys tt).getD (11 : Int32).toNatClampNeg 0))]) zy hx hZ hml hown (wI hw 239 rfl) (wI hw 240 rfl) (fun vm0 hZ => notFace_of_selects (args := #[]) (mvT (s := s.setVm vm0) hZ (wI hw 242 rfl))) (wI hw 242 rfl) (wI hw 241 rfl) (by decide) F3.1 (fun vm0 hZ => Jvm.Y9.Con.back (s := s.setVm vm0) (W := 1) (own_charAt l Z a0 hw y u ku ys (0 : Int32) h0 n0 Z0 F3 F4 (by decide) (own_lt (a := 0) (by omega) (by omega)) G GS) hZ (wI hw 243 rfl) (wI hw 4 rfl) (by decide) (by decide)) (fun _ _ ⟨_, q⟩ => (by subst q; exact Keep.refl _ [])) all0 rfl pd__28I_29C rfl (Nat.le_of_eq rfl) (hb hby at_830) (by decide) (by decide) ?_
    intro z10 z11 z12 z13 z14
    obtain ⟨rfl, rfl⟩ := z14
    have H := z13.here
    refine Jvm.Q9.Aim.of (T' := z10) (g' := (mkF m 845 #[q0, q1, q2, q3, q4, q5, q6, q7, q8, .val (.int tt), q10, .val (.ref y), q12, .val (.ref o), q14, .val (.ref z), .val (.int (Int32.ofNat ys.length)), .val (.int (Int32.ofNat (dec tt).length)), .val (.int (Int32.ofNat (41 + ys.length + (dec tt).length))), .unset] [(.int ((10 : Int32) + (Int32.ofNat ys.length))), (.ref z)])) (fun tgt kt => ?_) ?_
    · refine XS.icmpYes H hx rfl (pc0 := 833) (pc' := 838) rfl (hb hby at_833) rfl (teq (by rw [show (11 : Int32).toNatClampNeg = 11 + 0 from rfl, de_y ys tt (k := 0) (by omega)]; rfl)).1 (by decide) (by decide) ?_
      refine XS.aload H hx rfl (hb hby at_838) rfl rfl ?_
      refine XS.bipush H hx rfl (hb hby at_840) ?_
      refine XS.iload H hx rfl (hb hby at_842) rfl ?_
      refine XS.iadd H hx rfl (hb hby at_844) rfl ?_
      exact kt
    rw [show ((10 : Int32) + (Int32.ofNat ys.length)) = (Int32.ofNat (10 + ys.length)) from own_add (a := 10)]
    show Jvm.Q9.Aim p e below s _ _ n0 _ z10 (mkF m 845 #[q0, q1, q2, q3, q4, q5, q6, q7, q8, .val (.int tt), q10, .val (.ref y), q12, .val (.ref o), q14, .val (.ref z), .val (.int (Int32.ofNat ys.length)), .val (.int (Int32.ofNat (dec tt).length)), .val (.int (Int32.ofNat (41 + ys.length + (dec tt).length))), .unset] [(.int (Int32.ofNat (10 + ys.length))), (.ref z)])
    refine Jvm.Q9.Aim.callV (argsL := [(.int (Int32.ofNat (10 + ys.length)))]) (rest := []) z13 hx hZ hml hown (wI hw 239 rfl) (wI hw 240 rfl) (fun vm0 hZ => notFace_of_selects (args := #[]) (mvT (s := s.setVm vm0) hZ (wI hw 242 rfl))) (wI hw 242 rfl) (wI hw 241 rfl) (by decide) F2.1 (fun vm0 hZ => Jvm.Y9.Con.back (s := s.setVm vm0) (W := 0) (own_charAt l Z a0 hw z t2 k2 (descr ys tt) (Int32.ofNat (10 + ys.length)) h0 n0 Z0 F2 F4 ((own_clamp (n := (10 + ys.length)) (by omega)).2.1) (own_lt (a := (10 + ys.length)) (by rw [descr_len]; omega) (by rw [descr_len]; omega)) G GS) hZ (wI hw 243 rfl) (wI hw 4 rfl) (by decide) (by decide)) (fun _ _ ⟨_, q⟩ => (by subst q; exact Keep.refl _ [])) all0 rfl pd__28I_29C rfl (Nat.le_of_eq rfl) (hb hby at_845) (by decide) (by decide) ?_
    intro z15 z16 z17 z18 z19
    obtain ⟨rfl, rfl⟩ := z19
    have H := z18.here
    refine Jvm.Q9.Aim.of (T' := z15) (g' := (mkF m 854 #[q0, q1, q2, q3, q4, q5, q6, q7, q8, .val (.int tt), q10, .val (.ref y), q12, .val (.ref o), q14, .val (.ref z), .val (.int (Int32.ofNat ys.length)), .val (.int (Int32.ofNat (dec tt).length)), .val (.int (Int32.ofNat (41 + ys.length + (dec tt).length))), .unset] [(.int ((Int32.ofNat ys.length) - (1 : Int32))), (.ref y), (.int ((descr ys tt).getD (Int32.ofNat (10 + ys.length)).toNatClampNeg 0))])) (fun tgt kt => ?_) ?_
    · refine XS.aload H hx rfl (hb hby at_848) rfl rfl ?_
      refine XS.iload H hx rfl (hb hby at_850) rfl ?_
      refine XS.iconst H hx rfl (hb hby at_852) ?_
      refine XS.isub H hx rfl (hb hby at_853) rfl ?_
      exact kt
    rw [show ((Int32.ofNat ys.length) - (1 : Int32)) = (Int32.ofNat (ys.length - 1)) from own_subN (b := 1) (by omega)]
    show Jvm.Q9.Aim p e below s _ _ n0 _ z15 (mkF m 854 #[q0, q1, q2, q3, q4, q5, q6, q7, q8, .val (.int tt), q10, .val (.ref y), q12, .val (.ref o), q14, .val (.ref z), .val (.int (Int32.ofNat ys.length)), .val (.int (Int32.ofNat (dec tt).length)), .val (.int (Int32.ofNat (41 + ys.length + (dec tt).length))), .unset] [(.int (Int32.ofNat (ys.length - 1))), (.ref y), (.int ((descr ys tt).getD (Int32.ofNat (10 + ys.length)).toNatClampNeg 0))])
    refine Jvm.Q9.Aim.callV (argsL := [(.int (Int32.ofNat (ys.length - 1)))]) (rest := [(.int ((descr ys tt).getD (Int32.ofNat (10 + ys.length)).toNatClampNeg 0))]) z18 hx hZ hml hown (wI hw 239 rfl) (wI hw 240 rfl) (fun vm0 hZ => notFace_of_selects (args := #[]) (mvT (s := s.setVm vm0) hZ (wI hw 242 rfl))) (wI hw 242 rfl) (wI hw 241 rfl) (by decide) F3.1 (fun vm0 hZ => Jvm.Y9.Con.back (s := s.setVm vm0) (W := 1) (own_charAt l Z a0 hw y u ku ys (Int32.ofNat (ys.length - 1)) h0 n0 Z0 F3 F4 ((own_clamp (by omega)).2.1) (own_lt (by omega) (by omega)) G GS) hZ (wI hw 243 rfl) (wI hw 4 rfl) (by decide) (by decide)) (fun _ _ ⟨_, q⟩ => (by subst q; exact Keep.refl _ [])) all0 rfl pd__28I_29C rfl (Nat.le_of_eq rfl) (hb hby at_854) (by decide) (by decide) ?_
    intro z1a z1b z1c z1d z1e
    obtain ⟨rfl, rfl⟩ := z1e
    have H := z1d.here
    refine Jvm.Q9.Aim.of (T' := z1a) (g' := (mkF m 862 #[q0, q1, q2, q3, q4, q5, q6, q7, q8, .val (.int tt), q10, .val (.ref y), q12, .val (.ref o), q14, .val (.ref z), .val (.int (Int32.ofNat ys.length)), .val (.int (Int32.ofNat (dec tt).length)), .val (.int (Int32.ofNat (41 + ys.length + (dec tt).length))), .unset] [])) (fun tgt kt => ?_) ?_
    · refine XS.icmpYes H hx rfl (pc0 := 857) (pc' := 862) rfl (hb hby at_857) rfl (teq (by rw [at_b (k := 10 + ys.length) (by omega), at_b (k := ys.length - 1) (by omega), show 10 + ys.length = 11 + (ys.length - 1) from by omega, de_y ys tt (by omega)])).1 (by decide) (by decide) ?_
      exact kt
    exact (own_tD l Z a0 hw q0 q1 q2 q3 q4 q5 q6 q7 q8 q10 (.val (.ref y)) q12 (.val (.ref o)) q14 ys tt z t2 k2 h0 n0 Z0 Lc0 F2 F4 hA G GS hx hby hml hret hnm hown hlk hZ (z1d.more (by decide) (by decide))).imp (fun vv hh it ⟨Lq, ⟨vq, kq⟩, aq, gq⟩ => ⟨Lq, ⟨vq, (Keep.refl h0 []).trans kq all0⟩, aq, (Jvm.Q9.Grow.refl _ _).trans gq (Nat.le_refl _)⟩)
  · skip
    have H := zs.here
    refine Jvm.Q9.Aim.of (T' := zp) (g' := (mkF m 862 #[q0, q1, q2, q3, q4, q5, q6, q7, q8, .val (.int tt), q10, .val (.ref y), q12, .val (.ref o), q14, .val (.ref z), .val (.int (Int32.ofNat ys.length)), .val (.int (Int32.ofNat (dec tt).length)), .val (.int (Int32.ofNat (41 + ys.length + (dec tt).length))), .unset] [])) (fun tgt kt => ?_) ?_
    · refine XS.ifYes H hx rfl (pc0 := 817) (pc' := 862) rfl (hb hby at_817) rfl ((if0 _ _).trans (flt zu).2.2.2) (by decide) (by decide) ?_
      exact kt
    exact (own_tD l Z a0 hw q0 q1 q2 q3 q4 q5 q6 q7 q8 q10 (.val (.ref y)) q12 (.val (.ref o)) q14 ys tt z t2 k2 h0 n0 Z0 Lc0 F2 F4 hA G GS hx hby hml hret hnm hown hlk hZ (zs.more (by decide) (by decide))).imp (fun vv hh it ⟨Lq, ⟨vq, kq⟩, aq, gq⟩ => ⟨Lq, ⟨vq, (Keep.refl h0 []).trans kq all0⟩, aq, (Jvm.Q9.Grow.refl _ _).trans gq (Nat.le_refl _)⟩)
theorem pd__28Ljava_2flang_2fString_3bI_29Lcom_2fexample_2fetsin_2fetsin_2fBenchTurn_24Outcome_3b : parseMethodDescriptor "(Ljava/lang/String;I)Lcom/example/etsin/etsin/BenchTurn$Outcome;" = some ⟨[(.object "java/lang/String"), .int], some (.object "com/example/etsin/etsin/BenchTurn$Outcome")⟩ := by decide +kernel
theorem own_tA (l : Launch) (Z : State) (a0 : Array Value) (hw : ∀ d ∈ tables_1, d.before a0 Z = true) (q0 : Slot) (q1 : Slot) (q2 : Slot) (q3 : Slot) (q4 : Slot) (q5 : Slot) (q6 : Slot) (q7 : Slot) (q8 : Slot) (q10 : Slot) (q13 : Slot) (q14 : Slot) (q15 : Slot) (q16 : Slot) (q17 : Slot) (q18 : Slot) (hq13 : q13 = .unset ∨ ∃ w : Value, q13 = .val w ∧ w.category = 1) (hq14 : q14 = .unset ∨ ∃ w : Value, q14 = .val w ∧ w.category = 1) (hq15 : q15 = .unset ∨ ∃ w : Value, q15 = .val w ∧ w.category = 1) (hq16 : q16 = .unset ∨ ∃ w : Value, q16 = .val w ∧ w.category = 1) (hq17 : q17 = .unset ∨ ∃ w : Value, q17 = .val w ∧ w.category = 1) (hq18 : q18 = .unset ∨ ∃ w : Value, q18 = .val w ∧ w.category = 1) (ys : List Int32) (tt : Int32) (y : Addr) (u : Addr) (ku : ClassId) (sm : Int32) (h0 : Heap) (n0 : Nat) (Z0 : n0 ≤ h0.size) (Lc0 : List Addr) (F0 : Str Z h0 y u ku ys) (F1 : Old Z n0 h0) (hA : ys.length ≤ 3 ∨ ys.length = 33 ∨ ys.length = 34) (hsm : sm = (if ys = paris then (1 : Int32) else (0 : Int32))) (G : Cmp Z) (GS : Sio Z) (GL : ∀ c ∈ LC.1, Jvm.Q9.LitZ Z c) (GD : Dig Z) {p : Program} {e : Env} {s : State} {m : MethodId} {as' : Array Value} {below : List Frame} {meth : Method} {c : Code} {s₁ : State} (hx : p.tables.exec = Jvm.exec) (hby : c.code = code) (hml : c.maxLocals = maxLocals) (hret : meth.sig.returnType = ret) (hnm : meth.name = x.name) (hown : s.vm.findClass x.cls = some m.cls) (hlk : meth.locks = false) (hZ : Z.Warmed39 s.vm) (P0 : Jvm.Q9.On p l e room_1 s m as' below meth c Z LC n0 s₁ h0 4 80 Lc0) :
    Jvm.Q9.Aim p e below s (room_1 : Room).cells (room_1 : Room).slots n0 (Jvm.Q9.QW Z LC h0 Lc0 (fun v h Lc => v = some (.int 1) ∧ Keep h0 h [])) s₁ (mkF m 701 #[q0, q1, q2, q3, q4, q5, q6, q7, q8, .val (.int tt), q10, .val (.ref y), .val (.int sm), q13, q14, q15, q16, q17, q18, .unset] []) := by
  have H := P0.here
  refine Jvm.Q9.Aim.of (T' := s₁) (g' := (mkF m 705 #[q0, q1, q2, q3, q4, q5, q6, q7, q8, .val (.int tt), q10, .val (.ref y), .val (.int sm), q13, q14, q15, q16, q17, q18, .unset] [(.int tt), (.ref y)])) (fun tgt kt => ?_) ?_
  · refine XS.aload H hx rfl (hb hby at_701) rfl rfl ?_
    refine XS.iload H hx rfl (hb hby at_703) rfl ?_
    exact kt
  refine Jvm.Q9.Aim.callSW (argsL := [(.ref y), (.int tt)]) (rest := []) P0 hx hZ hml hown (wI hw 31 rfl) (wI hw 32 rfl) (wI hw 33 rfl) (wI hw 34 rfl) (by decide) (Jvm.Q9.Con.back (W := 0) (own_ofA l Z a0 hw y u ku ys tt h0 n0 Z0 Lc0 F0 F1 hA G GL GD) (wI hw 34 rfl) (wI hw 33 rfl) (by decide) (by decide)) rfl pd__28Ljava_2flang_2fString_3bI_29Lcom_2fexample_2fetsin_2fetsin_2fBenchTurn_24Outcome_3b rfl (Nat.le_of_eq rfl) (hb hby at_705) (by decide) (by decide) ?_
  intro z0 z1 z2 z3 z4 z5 z6
  obtain ⟨o_1636, z_1637, t_1638, k_1639, rfl, z7, z8, z9, za, zb, zc, zd, ze⟩ := z6
  have zf : Keep h0 z1 [] := (Keep.refl h0 []).trans z7 all0
  have zg : Jvm.Q9.Grow Lc0 z3 h0.size := (Jvm.Q9.Grow.refl _ _).trans z5 (Nat.le_refl _)
  have H := z4.here
  refine Jvm.Q9.Aim.of (T' := z0) (g' := (mkF m 712 #[q0, q1, q2, q3, q4, q5, q6, q7, q8, .val (.int tt), q10, .val (.ref y), .val (.int sm), .val (.ref o_1636), q14, q15, q16, q17, q18, .unset] [(.int sm)])) (fun tgt kt => ?_) ?_
  · refine XS.astore H hx rfl (hb hby at_708) rfl rfl (l' := #[q0, q1, q2, q3, q4, q5, q6, q7, q8, .val (.int tt), q10, .val (.ref y), .val (.int sm), .val (.ref o_1636), q14, q15, q16, q17, q18, .unset]) (XS.store1 rfl hq13 rfl) ?_
    refine XS.iload H hx rfl (hb hby at_710) rfl ?_
    exact kt
  by_cases zh : sm = (0 : Int32)
  · skip
    have hne : ¬ ys = paris := fun q => by rw [hsm, if_pos q] at zh; exact absurd zh (by decide)
    have H := z4.here
    refine Jvm.Q9.Aim.of (T' := z0) (g' := (mkF m 730 #[q0, q1, q2, q3, q4, q5, q6, q7, q8, .val (.int tt), q10, .val (.ref y), .val (.int sm), .val (.ref o_1636), .val (.int 0), q15, q16, q17, q18, .unset] [(.ref o_1636)])) (fun tgt kt => ?_) ?_
    · refine XS.ifYes H hx rfl (pc0 := 712) (pc' := 725) rfl (hb hby at_712) rfl ((if0 _ _).trans (teq zh).1) (by decide) (by decide) ?_
      refine XS.iconst H hx rfl (hb hby at_725) ?_
      refine XS.istore H hx rfl (hb hby at_726) rfl (l' := #[q0, q1, q2, q3, q4, q5, q6, q7, q8, .val (.int tt), q10, .val (.ref y), .val (.int sm), .val (.ref o_1636), .val (.int 0), q15, q16, q17, q18, .unset]) (XS.store1 rfl hq14 rfl) ?_
      refine XS.aload H hx rfl (hb hby at_728) rfl rfl ?_
      exact kt
    refine Jvm.Q9.Aim.callV (argsL := []) (rest := []) z4 hx hZ hml hown (wI hw 212 rfl) (wI hw 213 rfl) (fun vm0 hZ => notFace_of_selects (args := #[]) (mvT (s := s.setVm vm0) hZ (wI hw 215 rfl))) (wI hw 215 rfl) (wI hw 214 rfl) (by decide) zb (fun vm0 hZ => Jvm.Y9.Con.back (s := s.setVm vm0) (W := 0) (own_cor l Z a0 hw o_1636 (cor ys tt) z1 n0 (lT Z0 (zf.1)) zc (cor_nar _ _)) hZ (wI hw 216 rfl) (wI hw 33 rfl) (by decide) (by decide)) (fun _ _ ⟨_, q⟩ => (by subst q; exact Keep.refl _ [])) all0 rfl pd__28_29Z rfl (Nat.le_of_eq rfl) (hb hby at_730) (by decide) (by decide) ?_
    intro zi zj zk zl zm
    obtain ⟨rfl, rfl⟩ := zm
    have H := zl.here
    refine Jvm.Q9.Aim.of (T' := zi) (g' := (mkF m 740 #[q0, q1, q2, q3, q4, q5, q6, q7, q8, .val (.int tt), q10, .val (.ref y), .val (.int sm), .val (.ref o_1636), .val (.int 0), q15, q16, q17, q18, .unset] [])) (fun tgt kt => ?_) ?_
    · refine XS.iload H hx rfl (hb hby at_733) rfl ?_
      refine XS.icmpYes H hx rfl (pc0 := 735) (pc' := 740) rfl (hb hby at_735) rfl (teq (if_neg (fun q => hne q.1))).1 (by decide) (by decide) ?_
      exact kt
    have zn : Str Z z1 y u ku ys := (F0.keep z7 nin0 nin0)
    have zo : Old Z n0 z1 := (F1.keep z7 all0)
    exact (own_tB l Z a0 hw q0 q1 q2 q3 q4 q5 q6 q7 q8 q10 (.val (.int sm)) (.val (.int 0)) q15 q16 q17 q18 hq15 hq16 hq17 hq18 ys tt z_1637 t_1638 k_1639 y u ku o_1636 z1 n0 (lT Z0 (zf.1)) z3 zb zd ze zn zo hA G GS hx hby hml hret hnm hown hlk hZ (zl.more (by decide) (by decide))).imp (fun vv hh it ⟨Lq, ⟨vq, kq⟩, aq, gq⟩ => ⟨Lq, ⟨vq, zf.trans kq all0⟩, aq, zg.trans gq (zf.1)⟩)
  · skip
    have heq : ys = paris := by_contra_if (by rw [← hsm]; exact zh)
    have H := z4.here
    refine Jvm.Q9.Aim.of (T' := z0) (g' := (mkF m 718 #[q0, q1, q2, q3, q4, q5, q6, q7, q8, .val (.int tt), q10, .val (.ref y), .val (.int sm), .val (.ref o_1636), q14, q15, q16, q17, q18, .unset] [(.int 1), (.int tt)])) (fun tgt kt => ?_) ?_
    · refine XS.ifNo H hx rfl (hb hby at_712) rfl ((if0 _ _).trans (feq zh).1) ?_
      refine XS.iload H hx rfl (hb hby at_715) rfl ?_
      refine XS.iconst H hx rfl (hb hby at_717) ?_
      exact kt
    by_cases zp : tt = (1 : Int32)
    · skip
      have H := z4.here
      refine Jvm.Q9.Aim.of (T' := z0) (g' := (mkF m 730 #[q0, q1, q2, q3, q4, q5, q6, q7, q8, .val (.int tt), q10, .val (.ref y), .val (.int sm), .val (.ref o_1636), .val (.int 1), q15, q16, q17, q18, .unset] [(.ref o_1636)])) (fun tgt kt => ?_) ?_
      · refine XS.icmpNo H hx rfl (hb hby at_718) rfl (teq zp).2 ?_
        refine XS.iconst H hx rfl (hb hby at_721) ?_
        refine XS.goto H hx rfl (pc0 := 722) (pc' := 726) rfl (hb hby at_722) (by decide) (by decide) ?_
        refine XS.istore H hx rfl (hb hby at_726) rfl (l' := #[q0, q1, q2, q3, q4, q5, q6, q7, q8, .val (.int tt), q10, .val (.ref y), .val (.int sm), .val (.ref o_1636), .val (.int 1), q15, q16, q17, q18, .unset]) (XS.store1 rfl hq14 rfl) ?_
        refine XS.aload H hx rfl (hb hby at_728) rfl rfl ?_
        exact kt
      refine Jvm.Q9.Aim.callV (argsL := []) (rest := []) z4 hx hZ hml hown (wI hw 212 rfl) (wI hw 213 rfl) (fun vm0 hZ => notFace_of_selects (args := #[]) (mvT (s := s.setVm vm0) hZ (wI hw 215 rfl))) (wI hw 215 rfl) (wI hw 214 rfl) (by decide) zb (fun vm0 hZ => Jvm.Y9.Con.back (s := s.setVm vm0) (W := 0) (own_cor l Z a0 hw o_1636 (cor ys tt) z1 n0 (lT Z0 (zf.1)) zc (cor_nar _ _)) hZ (wI hw 216 rfl) (wI hw 33 rfl) (by decide) (by decide)) (fun _ _ ⟨_, q⟩ => (by subst q; exact Keep.refl _ [])) all0 rfl pd__28_29Z rfl (Nat.le_of_eq rfl) (hb hby at_730) (by decide) (by decide) ?_
      intro zq zr zs zt zu
      obtain ⟨rfl, rfl⟩ := zu
      have H := zt.here
      refine Jvm.Q9.Aim.of (T' := zq) (g' := (mkF m 740 #[q0, q1, q2, q3, q4, q5, q6, q7, q8, .val (.int tt), q10, .val (.ref y), .val (.int sm), .val (.ref o_1636), .val (.int 1), q15, q16, q17, q18, .unset] [])) (fun tgt kt => ?_) ?_
      · refine XS.iload H hx rfl (hb hby at_733) rfl ?_
        refine XS.icmpYes H hx rfl (pc0 := 735) (pc' := 740) rfl (hb hby at_735) rfl (teq (if_pos ⟨heq, zp⟩)).1 (by decide) (by decide) ?_
        exact kt
      have zv : Str Z z1 y u ku ys := (F0.keep z7 nin0 nin0)
      have zw : Old Z n0 z1 := (F1.keep z7 all0)
      exact (own_tB l Z a0 hw q0 q1 q2 q3 q4 q5 q6 q7 q8 q10 (.val (.int sm)) (.val (.int 1)) q15 q16 q17 q18 hq15 hq16 hq17 hq18 ys tt z_1637 t_1638 k_1639 y u ku o_1636 z1 n0 (lT Z0 (zf.1)) z3 zb zd ze zv zw hA G GS hx hby hml hret hnm hown hlk hZ (zt.more (by decide) (by decide))).imp (fun vv hh it ⟨Lq, ⟨vq, kq⟩, aq, gq⟩ => ⟨Lq, ⟨vq, zf.trans kq all0⟩, aq, zg.trans gq (zf.1)⟩)
    · skip
      have H := z4.here
      refine Jvm.Q9.Aim.of (T' := z0) (g' := (mkF m 730 #[q0, q1, q2, q3, q4, q5, q6, q7, q8, .val (.int tt), q10, .val (.ref y), .val (.int sm), .val (.ref o_1636), .val (.int 0), q15, q16, q17, q18, .unset] [(.ref o_1636)])) (fun tgt kt => ?_) ?_
      · refine XS.icmpYes H hx rfl (pc0 := 718) (pc' := 725) rfl (hb hby at_718) rfl (feq zp).2 (by decide) (by decide) ?_
        refine XS.iconst H hx rfl (hb hby at_725) ?_
        refine XS.istore H hx rfl (hb hby at_726) rfl (l' := #[q0, q1, q2, q3, q4, q5, q6, q7, q8, .val (.int tt), q10, .val (.ref y), .val (.int sm), .val (.ref o_1636), .val (.int 0), q15, q16, q17, q18, .unset]) (XS.store1 rfl hq14 rfl) ?_
        refine XS.aload H hx rfl (hb hby at_728) rfl rfl ?_
        exact kt
      refine Jvm.Q9.Aim.callV (argsL := []) (rest := []) z4 hx hZ hml hown (wI hw 212 rfl) (wI hw 213 rfl) (fun vm0 hZ => notFace_of_selects (args := #[]) (mvT (s := s.setVm vm0) hZ (wI hw 215 rfl))) (wI hw 215 rfl) (wI hw 214 rfl) (by decide) zb (fun vm0 hZ => Jvm.Y9.Con.back (s := s.setVm vm0) (W := 0) (own_cor l Z a0 hw o_1636 (cor ys tt) z1 n0 (lT Z0 (zf.1)) zc (cor_nar _ _)) hZ (wI hw 216 rfl) (wI hw 33 rfl) (by decide) (by decide)) (fun _ _ ⟨_, q⟩ => (by subst q; exact Keep.refl _ [])) all0 rfl pd__28_29Z rfl (Nat.le_of_eq rfl) (hb hby at_730) (by decide) (by decide) ?_
      intro zx zy zz z10 z11
      obtain ⟨rfl, rfl⟩ := z11
      have H := z10.here
      refine Jvm.Q9.Aim.of (T' := zx) (g' := (mkF m 740 #[q0, q1, q2, q3, q4, q5, q6, q7, q8, .val (.int tt), q10, .val (.ref y), .val (.int sm), .val (.ref o_1636), .val (.int 0), q15, q16, q17, q18, .unset] [])) (fun tgt kt => ?_) ?_
      · refine XS.iload H hx rfl (hb hby at_733) rfl ?_
        refine XS.icmpYes H hx rfl (pc0 := 735) (pc' := 740) rfl (hb hby at_735) rfl (teq (if_neg (fun q => zp q.2))).1 (by decide) (by decide) ?_
        exact kt
      have z12 : Str Z z1 y u ku ys := (F0.keep z7 nin0 nin0)
      have z13 : Old Z n0 z1 := (F1.keep z7 all0)
      exact (own_tB l Z a0 hw q0 q1 q2 q3 q4 q5 q6 q7 q8 q10 (.val (.int sm)) (.val (.int 0)) q15 q16 q17 q18 hq15 hq16 hq17 hq18 ys tt z_1637 t_1638 k_1639 y u ku o_1636 z1 n0 (lT Z0 (zf.1)) z3 zb zd ze z12 z13 hA G GS hx hby hml hret hnm hown hlk hZ (z10.more (by decide) (by decide))).imp (fun vv hh it ⟨Lq, ⟨vq, kq⟩, aq, gq⟩ => ⟨Lq, ⟨vq, zf.trans kq all0⟩, aq, zg.trans gq (zf.1)⟩)
theorem pd__28_5bC_29V : parseMethodDescriptor "([C)V" = some ⟨[(.array .char)], none⟩ := by decide +kernel
theorem own_m0 (l : Launch) (Z : State) (a0 : Array Value) (hw : ∀ d ∈ tables_1, d.before a0 Z = true) (q0 : Slot) (q3 : Slot) (q4 : Slot) (q5 : Slot) (q6 : Slot) (q8 : Slot) (p2 : Int32) (p3 : Int32) (mt : Int32) (tt : Int32) (h0 : Heap) (n0 : Nat) (Z0 : n0 ≤ h0.size) (Lc0 : List Addr) (F0 : Old Z n0 h0) (G : Cmp Z) (GS : Sio Z) (GL : ∀ c ∈ LC.1, Jvm.Q9.LitZ Z c) (GD : Dig Z) {p : Program} {e : Env} {s : State} {m : MethodId} {as' : Array Value} {below : List Frame} {meth : Method} {c : Code} {s₁ : State} (hx : p.tables.exec = Jvm.exec) (hby : c.code = code) (hml : c.maxLocals = maxLocals) (hret : meth.sig.returnType = ret) (hnm : meth.name = x.name) (hown : s.vm.findClass x.cls = some m.cls) (hlk : meth.locks = false) (hZ : Z.Warmed39 s.vm) (P0 : Jvm.Q9.On p l e room_1 s m as' below meth c Z LC n0 s₁ h0 0 0 Lc0) :
    Jvm.Q9.Aim p e below s (room_1 : Room).cells (room_1 : Room).slots n0 (Jvm.Q9.QW Z LC h0 Lc0 (fun v h Lc => v = some (.int 1) ∧ Keep h0 h [])) s₁ (mkF m 60 #[q0, .val (.int p2), .val (.int p3), q3, q4, q5, q6, .val (.int mt), q8, .val (.int tt), .val (.int ((p3 &&& (255 : Int32)).toUInt32.toUInt16.toUInt32.toInt32)), .unset, .unset, .unset, .unset, .unset, .unset, .unset, .unset, .unset] []) := by
  have H := P0.here
  refine Jvm.Q9.Aim.of (T' := s₁) (g' := (mkF m 62 #[q0, .val (.int p2), .val (.int p3), q3, q4, q5, q6, .val (.int mt), q8, .val (.int tt), .val (.int ((p3 &&& (255 : Int32)).toUInt32.toUInt16.toUInt32.toInt32)), .unset, .unset, .unset, .unset, .unset, .unset, .unset, .unset, .unset] [(.int 33)])) (fun tgt kt => ?_) ?_
  · refine XS.bipush H hx rfl (hb hby at_60) ?_
    exact kt
  refine Jvm.Q9.Aim.newP (z := (33 : Int32)) P0 hx hZ (wI hw 0 rfl) (hb hby at_62) (by decide) (cap := 33) (by decide) (by decide) (by decide) (by decide) ?_
  intro z0 z1 z2 z3 z4 z5 z6 z7
  have z8 : Keep h0 z1 [] := (Keep.refl _ _).ext z6
  have z9 : Keep h0 z1 [] := (Keep.refl h0 []).trans z8 all0
  have za : Arv Z z1 z3 z2 .char (33 : Int32) [(.int 0), (.int 0), (.int 0), (.int 0), (.int 0), (.int 0), (.int 0), (.int 0), (.int 0), (.int 0), (.int 0), (.int 0), (.int 0), (.int 0), (.int 0), (.int 0), (.int 0), (.int 0), (.int 0), (.int 0), (.int 0), (.int 0), (.int 0), (.int 0), (.int 0), (.int 0), (.int 0), (.int 0), (.int 0), (.int 0), (.int 0), (.int 0), (.int 0)] (.int 0) := z7.pad (pad_rep [] (.int 0) 33)
  have H := z5.here
  refine Jvm.Q9.Aim.of (T' := z0) (g' := (mkF m 68 #[q0, .val (.int p2), .val (.int p3), q3, q4, q5, q6, .val (.int mt), q8, .val (.int tt), .val (.int ((p3 &&& (255 : Int32)).toUInt32.toUInt16.toUInt32.toInt32)), .unset, .unset, .unset, .unset, .unset, .unset, .unset, .unset, .unset] [(.int 73), (.int 0), (.ref z3), (.ref z3)])) (fun tgt kt => ?_) ?_
  · refine XS.dup H hx rfl (hb hby at_64) rfl rfl ?_
    refine XS.iconst H hx rfl (hb hby at_65) ?_
    refine XS.bipush H hx rfl (hb hby at_66) ?_
    exact kt
  refine Jvm.Q9.Aim.stC (x := (73 : Int32)) (j := (0 : Int32)) z5 hx hZ za ⟨by decide, by decide⟩ 0 rfl (Nat.le_of_ble_eq_true rfl) (hb hby at_68) (lT Z0 (Nat.le_of_eq z4.symm)) (Jvm.Q9.nl_new P0.ltL (lT (Nat.le_refl _) (Nat.le_of_eq z4.symm))) ?_
  intro zb zc zd ze zf
  have zg : Keep h0 zc [] := z9.trans ze (allS (Or.inr (lT (Nat.le_refl _) (Nat.le_of_eq z4.symm))) all0)
  have H := zd.here
  refine Jvm.Q9.Aim.of (T' := zb) (g' := (mkF m 73 #[q0, .val (.int p2), .val (.int p3), q3, q4, q5, q6, .val (.int mt), q8, .val (.int tt), .val (.int ((p3 &&& (255 : Int32)).toUInt32.toUInt16.toUInt32.toInt32)), .unset, .unset, .unset, .unset, .unset, .unset, .unset, .unset, .unset] [(.int 116), (.int 1), (.ref z3), (.ref z3)])) (fun tgt kt => ?_) ?_
  · refine XS.dup H hx rfl (hb hby at_69) rfl rfl ?_
    refine XS.iconst H hx rfl (hb hby at_70) ?_
    refine XS.bipush H hx rfl (hb hby at_71) ?_
    exact kt
  refine Jvm.Q9.Aim.stC (x := (116 : Int32)) (j := (1 : Int32)) zd hx hZ zf ⟨by decide, by decide⟩ 1 rfl (Nat.le_of_ble_eq_true rfl) (hb hby at_73) (lT Z0 (Nat.le_of_eq z4.symm)) (Jvm.Q9.nl_new P0.ltL (lT (Nat.le_refl _) (Nat.le_of_eq z4.symm))) ?_
  intro zh zi zj zk zl
  have zm : Keep h0 zi [] := zg.trans zk (allS (Or.inr (lT (Nat.le_refl _) (Nat.le_of_eq z4.symm))) all0)
  have H := zj.here
  refine Jvm.Q9.Aim.of (T' := zh) (g' := (mkF m 78 #[q0, .val (.int p2), .val (.int p3), q3, q4, q5, q6, .val (.int mt), q8, .val (.int tt), .val (.int ((p3 &&& (255 : Int32)).toUInt32.toUInt16.toUInt32.toInt32)), .unset, .unset, .unset, .unset, .unset, .unset, .unset, .unset, .unset] [(.int 32), (.int 2), (.ref z3), (.ref z3)])) (fun tgt kt => ?_) ?_
  · refine XS.dup H hx rfl (hb hby at_74) rfl rfl ?_
    refine XS.iconst H hx rfl (hb hby at_75) ?_
    refine XS.bipush H hx rfl (hb hby at_76) ?_
    exact kt
  refine Jvm.Q9.Aim.stC (x := (32 : Int32)) (j := (2 : Int32)) zj hx hZ zl ⟨by decide, by decide⟩ 2 rfl (Nat.le_of_ble_eq_true rfl) (hb hby at_78) (lT Z0 (Nat.le_of_eq z4.symm)) (Jvm.Q9.nl_new P0.ltL (lT (Nat.le_refl _) (Nat.le_of_eq z4.symm))) ?_
  intro zn zo zp zq zr
  have zs : Keep h0 zo [] := zm.trans zq (allS (Or.inr (lT (Nat.le_refl _) (Nat.le_of_eq z4.symm))) all0)
  have H := zp.here
  refine Jvm.Q9.Aim.of (T' := zn) (g' := (mkF m 83 #[q0, .val (.int p2), .val (.int p3), q3, q4, q5, q6, .val (.int mt), q8, .val (.int tt), .val (.int ((p3 &&& (255 : Int32)).toUInt32.toUInt16.toUInt32.toInt32)), .unset, .unset, .unset, .unset, .unset, .unset, .unset, .unset, .unset] [(.int 105), (.int 3), (.ref z3), (.ref z3)])) (fun tgt kt => ?_) ?_
  · refine XS.dup H hx rfl (hb hby at_79) rfl rfl ?_
    refine XS.iconst H hx rfl (hb hby at_80) ?_
    refine XS.bipush H hx rfl (hb hby at_81) ?_
    exact kt
  refine Jvm.Q9.Aim.stC (x := (105 : Int32)) (j := (3 : Int32)) zp hx hZ zr ⟨by decide, by decide⟩ 3 rfl (Nat.le_of_ble_eq_true rfl) (hb hby at_83) (lT Z0 (Nat.le_of_eq z4.symm)) (Jvm.Q9.nl_new P0.ltL (lT (Nat.le_refl _) (Nat.le_of_eq z4.symm))) ?_
  intro zt zu zv zw zx
  have zy : Keep h0 zu [] := zs.trans zw (allS (Or.inr (lT (Nat.le_refl _) (Nat.le_of_eq z4.symm))) all0)
  have H := zv.here
  refine Jvm.Q9.Aim.of (T' := zt) (g' := (mkF m 88 #[q0, .val (.int p2), .val (.int p3), q3, q4, q5, q6, .val (.int mt), q8, .val (.int tt), .val (.int ((p3 &&& (255 : Int32)).toUInt32.toUInt16.toUInt32.toInt32)), .unset, .unset, .unset, .unset, .unset, .unset, .unset, .unset, .unset] [(.int 115), (.int 4), (.ref z3), (.ref z3)])) (fun tgt kt => ?_) ?_
  · refine XS.dup H hx rfl (hb hby at_84) rfl rfl ?_
    refine XS.iconst H hx rfl (hb hby at_85) ?_
    refine XS.bipush H hx rfl (hb hby at_86) ?_
    exact kt
  refine Jvm.Q9.Aim.stC (x := (115 : Int32)) (j := (4 : Int32)) zv hx hZ zx ⟨by decide, by decide⟩ 4 rfl (Nat.le_of_ble_eq_true rfl) (hb hby at_88) (lT Z0 (Nat.le_of_eq z4.symm)) (Jvm.Q9.nl_new P0.ltL (lT (Nat.le_refl _) (Nat.le_of_eq z4.symm))) ?_
  intro zz z10 z11 z12 z13
  have z14 : Keep h0 z10 [] := zy.trans z12 (allS (Or.inr (lT (Nat.le_refl _) (Nat.le_of_eq z4.symm))) all0)
  have H := z11.here
  refine Jvm.Q9.Aim.of (T' := zz) (g' := (mkF m 93 #[q0, .val (.int p2), .val (.int p3), q3, q4, q5, q6, .val (.int mt), q8, .val (.int tt), .val (.int ((p3 &&& (255 : Int32)).toUInt32.toUInt16.toUInt32.toInt32)), .unset, .unset, .unset, .unset, .unset, .unset, .unset, .unset, .unset] [(.int 32), (.int 5), (.ref z3), (.ref z3)])) (fun tgt kt => ?_) ?_
  · refine XS.dup H hx rfl (hb hby at_89) rfl rfl ?_
    refine XS.iconst H hx rfl (hb hby at_90) ?_
    refine XS.bipush H hx rfl (hb hby at_91) ?_
    exact kt
  refine Jvm.Q9.Aim.stC (x := (32 : Int32)) (j := (5 : Int32)) z11 hx hZ z13 ⟨by decide, by decide⟩ 5 rfl (Nat.le_of_ble_eq_true rfl) (hb hby at_93) (lT Z0 (Nat.le_of_eq z4.symm)) (Jvm.Q9.nl_new P0.ltL (lT (Nat.le_refl _) (Nat.le_of_eq z4.symm))) ?_
  intro z15 z16 z17 z18 z19
  have z1a : Keep h0 z16 [] := z14.trans z18 (allS (Or.inr (lT (Nat.le_refl _) (Nat.le_of_eq z4.symm))) all0)
  have H := z17.here
  refine Jvm.Q9.Aim.of (T' := z15) (g' := (mkF m 99 #[q0, .val (.int p2), .val (.int p3), q3, q4, q5, q6, .val (.int mt), q8, .val (.int tt), .val (.int ((p3 &&& (255 : Int32)).toUInt32.toUInt16.toUInt32.toInt32)), .unset, .unset, .unset, .unset, .unset, .unset, .unset, .unset, .unset] [(.int 115), (.int 6), (.ref z3), (.ref z3)])) (fun tgt kt => ?_) ?_
  · refine XS.dup H hx rfl (hb hby at_94) rfl rfl ?_
    refine XS.bipush H hx rfl (hb hby at_95) ?_
    refine XS.bipush H hx rfl (hb hby at_97) ?_
    exact kt
  refine Jvm.Q9.Aim.stC (x := (115 : Int32)) (j := (6 : Int32)) z17 hx hZ z19 ⟨by decide, by decide⟩ 6 rfl (Nat.le_of_ble_eq_true rfl) (hb hby at_99) (lT Z0 (Nat.le_of_eq z4.symm)) (Jvm.Q9.nl_new P0.ltL (lT (Nat.le_refl _) (Nat.le_of_eq z4.symm))) ?_
  intro z1b z1c z1d z1e z1f
  have z1g : Keep h0 z1c [] := z1a.trans z1e (allS (Or.inr (lT (Nat.le_refl _) (Nat.le_of_eq z4.symm))) all0)
  have H := z1d.here
  refine Jvm.Q9.Aim.of (T' := z1b) (g' := (mkF m 105 #[q0, .val (.int p2), .val (.int p3), q3, q4, q5, q6, .val (.int mt), q8, .val (.int tt), .val (.int ((p3 &&& (255 : Int32)).toUInt32.toUInt16.toUInt32.toInt32)), .unset, .unset, .unset, .unset, .unset, .unset, .unset, .unset, .unset] [(.int 117), (.int 7), (.ref z3), (.ref z3)])) (fun tgt kt => ?_) ?_
  · refine XS.dup H hx rfl (hb hby at_100) rfl rfl ?_
    refine XS.bipush H hx rfl (hb hby at_101) ?_
    refine XS.bipush H hx rfl (hb hby at_103) ?_
    exact kt
  refine Jvm.Q9.Aim.stC (x := (117 : Int32)) (j := (7 : Int32)) z1d hx hZ z1f ⟨by decide, by decide⟩ 7 rfl (Nat.le_of_ble_eq_true rfl) (hb hby at_105) (lT Z0 (Nat.le_of_eq z4.symm)) (Jvm.Q9.nl_new P0.ltL (lT (Nat.le_refl _) (Nat.le_of_eq z4.symm))) ?_
  intro z1h z1i z1j z1k z1l
  have z1m : Keep h0 z1i [] := z1g.trans z1k (allS (Or.inr (lT (Nat.le_refl _) (Nat.le_of_eq z4.symm))) all0)
  have H := z1j.here
  refine Jvm.Q9.Aim.of (T' := z1h) (g' := (mkF m 111 #[q0, .val (.int p2), .val (.int p3), q3, q4, q5, q6, .val (.int mt), q8, .val (.int tt), .val (.int ((p3 &&& (255 : Int32)).toUInt32.toUInt16.toUInt32.toInt32)), .unset, .unset, .unset, .unset, .unset, .unset, .unset, .unset, .unset] [(.int 110), (.int 8), (.ref z3), (.ref z3)])) (fun tgt kt => ?_) ?_
  · refine XS.dup H hx rfl (hb hby at_106) rfl rfl ?_
    refine XS.bipush H hx rfl (hb hby at_107) ?_
    refine XS.bipush H hx rfl (hb hby at_109) ?_
    exact kt
  refine Jvm.Q9.Aim.stC (x := (110 : Int32)) (j := (8 : Int32)) z1j hx hZ z1l ⟨by decide, by decide⟩ 8 rfl (Nat.le_of_ble_eq_true rfl) (hb hby at_111) (lT Z0 (Nat.le_of_eq z4.symm)) (Jvm.Q9.nl_new P0.ltL (lT (Nat.le_refl _) (Nat.le_of_eq z4.symm))) ?_
  intro z1n z1o z1p z1q z1r
  have z1s : Keep h0 z1o [] := z1m.trans z1q (allS (Or.inr (lT (Nat.le_refl _) (Nat.le_of_eq z4.symm))) all0)
  have H := z1p.here
  refine Jvm.Q9.Aim.of (T' := z1n) (g' := (mkF m 117 #[q0, .val (.int p2), .val (.int p3), q3, q4, q5, q6, .val (.int mt), q8, .val (.int tt), .val (.int ((p3 &&& (255 : Int32)).toUInt32.toUInt16.toUInt32.toInt32)), .unset, .unset, .unset, .unset, .unset, .unset, .unset, .unset, .unset] [(.int 110), (.int 9), (.ref z3), (.ref z3)])) (fun tgt kt => ?_) ?_
  · refine XS.dup H hx rfl (hb hby at_112) rfl rfl ?_
    refine XS.bipush H hx rfl (hb hby at_113) ?_
    refine XS.bipush H hx rfl (hb hby at_115) ?_
    exact kt
  refine Jvm.Q9.Aim.stC (x := (110 : Int32)) (j := (9 : Int32)) z1p hx hZ z1r ⟨by decide, by decide⟩ 9 rfl (Nat.le_of_ble_eq_true rfl) (hb hby at_117) (lT Z0 (Nat.le_of_eq z4.symm)) (Jvm.Q9.nl_new P0.ltL (lT (Nat.le_refl _) (Nat.le_of_eq z4.symm))) ?_
  intro z1t z1u z1v z1w z1x
  have z1y : Keep h0 z1u [] := z1s.trans z1w (allS (Or.inr (lT (Nat.le_refl _) (Nat.le_of_eq z4.symm))) all0)
  have H := z1v.here
  refine Jvm.Q9.Aim.of (T' := z1t) (g' := (mkF m 123 #[q0, .val (.int p2), .val (.int p3), q3, q4, q5, q6, .val (.int mt), q8, .val (.int tt), .val (.int ((p3 &&& (255 : Int32)).toUInt32.toUInt16.toUInt32.toInt32)), .unset, .unset, .unset, .unset, .unset, .unset, .unset, .unset, .unset] [(.int 121), (.int 10), (.ref z3), (.ref z3)])) (fun tgt kt => ?_) ?_
  · refine XS.dup H hx rfl (hb hby at_118) rfl rfl ?_
    refine XS.bipush H hx rfl (hb hby at_119) ?_
    refine XS.bipush H hx rfl (hb hby at_121) ?_
    exact kt
  refine Jvm.Q9.Aim.stC (x := (121 : Int32)) (j := (10 : Int32)) z1v hx hZ z1x ⟨by decide, by decide⟩ 10 rfl (Nat.le_of_ble_eq_true rfl) (hb hby at_123) (lT Z0 (Nat.le_of_eq z4.symm)) (Jvm.Q9.nl_new P0.ltL (lT (Nat.le_refl _) (Nat.le_of_eq z4.symm))) ?_
  intro z1z z20 z21 z22 z23
  have z24 : Keep h0 z20 [] := z1y.trans z22 (allS (Or.inr (lT (Nat.le_refl _) (Nat.le_of_eq z4.symm))) all0)
  have H := z21.here
  refine Jvm.Q9.Aim.of (T' := z1z) (g' := (mkF m 129 #[q0, .val (.int p2), .val (.int p3), q3, q4, q5, q6, .val (.int mt), q8, .val (.int tt), .val (.int ((p3 &&& (255 : Int32)).toUInt32.toUInt16.toUInt32.toInt32)), .unset, .unset, .unset, .unset, .unset, .unset, .unset, .unset, .unset] [(.int 32), (.int 11), (.ref z3), (.ref z3)])) (fun tgt kt => ?_) ?_
  · refine XS.dup H hx rfl (hb hby at_124) rfl rfl ?_
    refine XS.bipush H hx rfl (hb hby at_125) ?_
    refine XS.bipush H hx rfl (hb hby at_127) ?_
    exact kt
  refine Jvm.Q9.Aim.stC (x := (32 : Int32)) (j := (11 : Int32)) z21 hx hZ z23 ⟨by decide, by decide⟩ 11 rfl (Nat.le_of_ble_eq_true rfl) (hb hby at_129) (lT Z0 (Nat.le_of_eq z4.symm)) (Jvm.Q9.nl_new P0.ltL (lT (Nat.le_refl _) (Nat.le_of_eq z4.symm))) ?_
  intro z25 z26 z27 z28 z29
  have z2a : Keep h0 z26 [] := z24.trans z28 (allS (Or.inr (lT (Nat.le_refl _) (Nat.le_of_eq z4.symm))) all0)
  have H := z27.here
  refine Jvm.Q9.Aim.of (T' := z25) (g' := (mkF m 135 #[q0, .val (.int p2), .val (.int p3), q3, q4, q5, q6, .val (.int mt), q8, .val (.int tt), .val (.int ((p3 &&& (255 : Int32)).toUInt32.toUInt16.toUInt32.toInt32)), .unset, .unset, .unset, .unset, .unset, .unset, .unset, .unset, .unset] [(.int 105), (.int 12), (.ref z3), (.ref z3)])) (fun tgt kt => ?_) ?_
  · refine XS.dup H hx rfl (hb hby at_130) rfl rfl ?_
    refine XS.bipush H hx rfl (hb hby at_131) ?_
    refine XS.bipush H hx rfl (hb hby at_133) ?_
    exact kt
  refine Jvm.Q9.Aim.stC (x := (105 : Int32)) (j := (12 : Int32)) z27 hx hZ z29 ⟨by decide, by decide⟩ 12 rfl (Nat.le_of_ble_eq_true rfl) (hb hby at_135) (lT Z0 (Nat.le_of_eq z4.symm)) (Jvm.Q9.nl_new P0.ltL (lT (Nat.le_refl _) (Nat.le_of_eq z4.symm))) ?_
  intro z2b z2c z2d z2e z2f
  have z2g : Keep h0 z2c [] := z2a.trans z2e (allS (Or.inr (lT (Nat.le_refl _) (Nat.le_of_eq z4.symm))) all0)
  have H := z2d.here
  refine Jvm.Q9.Aim.of (T' := z2b) (g' := (mkF m 141 #[q0, .val (.int p2), .val (.int p3), q3, q4, q5, q6, .val (.int mt), q8, .val (.int tt), .val (.int ((p3 &&& (255 : Int32)).toUInt32.toUInt16.toUInt32.toInt32)), .unset, .unset, .unset, .unset, .unset, .unset, .unset, .unset, .unset] [(.int 110), (.int 13), (.ref z3), (.ref z3)])) (fun tgt kt => ?_) ?_
  · refine XS.dup H hx rfl (hb hby at_136) rfl rfl ?_
    refine XS.bipush H hx rfl (hb hby at_137) ?_
    refine XS.bipush H hx rfl (hb hby at_139) ?_
    exact kt
  refine Jvm.Q9.Aim.stC (x := (110 : Int32)) (j := (13 : Int32)) z2d hx hZ z2f ⟨by decide, by decide⟩ 13 rfl (Nat.le_of_ble_eq_true rfl) (hb hby at_141) (lT Z0 (Nat.le_of_eq z4.symm)) (Jvm.Q9.nl_new P0.ltL (lT (Nat.le_refl _) (Nat.le_of_eq z4.symm))) ?_
  intro z2h z2i z2j z2k z2l
  have z2m : Keep h0 z2i [] := z2g.trans z2k (allS (Or.inr (lT (Nat.le_refl _) (Nat.le_of_eq z4.symm))) all0)
  have H := z2j.here
  refine Jvm.Q9.Aim.of (T' := z2h) (g' := (mkF m 147 #[q0, .val (.int p2), .val (.int p3), q3, q4, q5, q6, .val (.int mt), q8, .val (.int tt), .val (.int ((p3 &&& (255 : Int32)).toUInt32.toUInt16.toUInt32.toInt32)), .unset, .unset, .unset, .unset, .unset, .unset, .unset, .unset, .unset] [(.int 32), (.int 14), (.ref z3), (.ref z3)])) (fun tgt kt => ?_) ?_
  · refine XS.dup H hx rfl (hb hby at_142) rfl rfl ?_
    refine XS.bipush H hx rfl (hb hby at_143) ?_
    refine XS.bipush H hx rfl (hb hby at_145) ?_
    exact kt
  refine Jvm.Q9.Aim.stC (x := (32 : Int32)) (j := (14 : Int32)) z2j hx hZ z2l ⟨by decide, by decide⟩ 14 rfl (Nat.le_of_ble_eq_true rfl) (hb hby at_147) (lT Z0 (Nat.le_of_eq z4.symm)) (Jvm.Q9.nl_new P0.ltL (lT (Nat.le_refl _) (Nat.le_of_eq z4.symm))) ?_
  intro z2n z2o z2p z2q z2r
  have z2s : Keep h0 z2o [] := z2m.trans z2q (allS (Or.inr (lT (Nat.le_refl _) (Nat.le_of_eq z4.symm))) all0)
  have H := z2p.here
  refine Jvm.Q9.Aim.of (T' := z2n) (g' := (mkF m 153 #[q0, .val (.int p2), .val (.int p3), q3, q4, q5, q6, .val (.int mt), q8, .val (.int tt), .val (.int ((p3 &&& (255 : Int32)).toUInt32.toUInt16.toUInt32.toInt32)), .unset, .unset, .unset, .unset, .unset, .unset, .unset, .unset, .unset] [(.int 80), (.int 15), (.ref z3), (.ref z3)])) (fun tgt kt => ?_) ?_
  · refine XS.dup H hx rfl (hb hby at_148) rfl rfl ?_
    refine XS.bipush H hx rfl (hb hby at_149) ?_
    refine XS.bipush H hx rfl (hb hby at_151) ?_
    exact kt
  refine Jvm.Q9.Aim.stC (x := (80 : Int32)) (j := (15 : Int32)) z2p hx hZ z2r ⟨by decide, by decide⟩ 15 rfl (Nat.le_of_ble_eq_true rfl) (hb hby at_153) (lT Z0 (Nat.le_of_eq z4.symm)) (Jvm.Q9.nl_new P0.ltL (lT (Nat.le_refl _) (Nat.le_of_eq z4.symm))) ?_
  intro z2t z2u z2v z2w z2x
  have z2y : Keep h0 z2u [] := z2s.trans z2w (allS (Or.inr (lT (Nat.le_refl _) (Nat.le_of_eq z4.symm))) all0)
  have H := z2v.here
  refine Jvm.Q9.Aim.of (T' := z2t) (g' := (mkF m 159 #[q0, .val (.int p2), .val (.int p3), q3, q4, q5, q6, .val (.int mt), q8, .val (.int tt), .val (.int ((p3 &&& (255 : Int32)).toUInt32.toUInt16.toUInt32.toInt32)), .unset, .unset, .unset, .unset, .unset, .unset, .unset, .unset, .unset] [(.int 97), (.int 16), (.ref z3), (.ref z3)])) (fun tgt kt => ?_) ?_
  · refine XS.dup H hx rfl (hb hby at_154) rfl rfl ?_
    refine XS.bipush H hx rfl (hb hby at_155) ?_
    refine XS.bipush H hx rfl (hb hby at_157) ?_
    exact kt
  refine Jvm.Q9.Aim.stC (x := (97 : Int32)) (j := (16 : Int32)) z2v hx hZ z2x ⟨by decide, by decide⟩ 16 rfl (Nat.le_of_ble_eq_true rfl) (hb hby at_159) (lT Z0 (Nat.le_of_eq z4.symm)) (Jvm.Q9.nl_new P0.ltL (lT (Nat.le_refl _) (Nat.le_of_eq z4.symm))) ?_
  intro z2z z30 z31 z32 z33
  have z34 : Keep h0 z30 [] := z2y.trans z32 (allS (Or.inr (lT (Nat.le_refl _) (Nat.le_of_eq z4.symm))) all0)
  have H := z31.here
  refine Jvm.Q9.Aim.of (T' := z2z) (g' := (mkF m 165 #[q0, .val (.int p2), .val (.int p3), q3, q4, q5, q6, .val (.int mt), q8, .val (.int tt), .val (.int ((p3 &&& (255 : Int32)).toUInt32.toUInt16.toUInt32.toInt32)), .unset, .unset, .unset, .unset, .unset, .unset, .unset, .unset, .unset] [(.int 114), (.int 17), (.ref z3), (.ref z3)])) (fun tgt kt => ?_) ?_
  · refine XS.dup H hx rfl (hb hby at_160) rfl rfl ?_
    refine XS.bipush H hx rfl (hb hby at_161) ?_
    refine XS.bipush H hx rfl (hb hby at_163) ?_
    exact kt
  refine Jvm.Q9.Aim.stC (x := (114 : Int32)) (j := (17 : Int32)) z31 hx hZ z33 ⟨by decide, by decide⟩ 17 rfl (Nat.le_of_ble_eq_true rfl) (hb hby at_165) (lT Z0 (Nat.le_of_eq z4.symm)) (Jvm.Q9.nl_new P0.ltL (lT (Nat.le_refl _) (Nat.le_of_eq z4.symm))) ?_
  intro z35 z36 z37 z38 z39
  have z3a : Keep h0 z36 [] := z34.trans z38 (allS (Or.inr (lT (Nat.le_refl _) (Nat.le_of_eq z4.symm))) all0)
  have H := z37.here
  refine Jvm.Q9.Aim.of (T' := z35) (g' := (mkF m 171 #[q0, .val (.int p2), .val (.int p3), q3, q4, q5, q6, .val (.int mt), q8, .val (.int tt), .val (.int ((p3 &&& (255 : Int32)).toUInt32.toUInt16.toUInt32.toInt32)), .unset, .unset, .unset, .unset, .unset, .unset, .unset, .unset, .unset] [(.int 105), (.int 18), (.ref z3), (.ref z3)])) (fun tgt kt => ?_) ?_
  · refine XS.dup H hx rfl (hb hby at_166) rfl rfl ?_
    refine XS.bipush H hx rfl (hb hby at_167) ?_
    refine XS.bipush H hx rfl (hb hby at_169) ?_
    exact kt
  refine Jvm.Q9.Aim.stC (x := (105 : Int32)) (j := (18 : Int32)) z37 hx hZ z39 ⟨by decide, by decide⟩ 18 rfl (Nat.le_of_ble_eq_true rfl) (hb hby at_171) (lT Z0 (Nat.le_of_eq z4.symm)) (Jvm.Q9.nl_new P0.ltL (lT (Nat.le_refl _) (Nat.le_of_eq z4.symm))) ?_
  intro z3b z3c z3d z3e z3f
  have z3g : Keep h0 z3c [] := z3a.trans z3e (allS (Or.inr (lT (Nat.le_refl _) (Nat.le_of_eq z4.symm))) all0)
  have H := z3d.here
  refine Jvm.Q9.Aim.of (T' := z3b) (g' := (mkF m 177 #[q0, .val (.int p2), .val (.int p3), q3, q4, q5, q6, .val (.int mt), q8, .val (.int tt), .val (.int ((p3 &&& (255 : Int32)).toUInt32.toUInt16.toUInt32.toInt32)), .unset, .unset, .unset, .unset, .unset, .unset, .unset, .unset, .unset] [(.int 115), (.int 19), (.ref z3), (.ref z3)])) (fun tgt kt => ?_) ?_
  · refine XS.dup H hx rfl (hb hby at_172) rfl rfl ?_
    refine XS.bipush H hx rfl (hb hby at_173) ?_
    refine XS.bipush H hx rfl (hb hby at_175) ?_
    exact kt
  refine Jvm.Q9.Aim.stC (x := (115 : Int32)) (j := (19 : Int32)) z3d hx hZ z3f ⟨by decide, by decide⟩ 19 rfl (Nat.le_of_ble_eq_true rfl) (hb hby at_177) (lT Z0 (Nat.le_of_eq z4.symm)) (Jvm.Q9.nl_new P0.ltL (lT (Nat.le_refl _) (Nat.le_of_eq z4.symm))) ?_
  intro z3h z3i z3j z3k z3l
  have z3m : Keep h0 z3i [] := z3g.trans z3k (allS (Or.inr (lT (Nat.le_refl _) (Nat.le_of_eq z4.symm))) all0)
  have H := z3j.here
  refine Jvm.Q9.Aim.of (T' := z3h) (g' := (mkF m 183 #[q0, .val (.int p2), .val (.int p3), q3, q4, q5, q6, .val (.int mt), q8, .val (.int tt), .val (.int ((p3 &&& (255 : Int32)).toUInt32.toUInt16.toUInt32.toInt32)), .unset, .unset, .unset, .unset, .unset, .unset, .unset, .unset, .unset] [(.int 44), (.int 20), (.ref z3), (.ref z3)])) (fun tgt kt => ?_) ?_
  · refine XS.dup H hx rfl (hb hby at_178) rfl rfl ?_
    refine XS.bipush H hx rfl (hb hby at_179) ?_
    refine XS.bipush H hx rfl (hb hby at_181) ?_
    exact kt
  refine Jvm.Q9.Aim.stC (x := (44 : Int32)) (j := (20 : Int32)) z3j hx hZ z3l ⟨by decide, by decide⟩ 20 rfl (Nat.le_of_ble_eq_true rfl) (hb hby at_183) (lT Z0 (Nat.le_of_eq z4.symm)) (Jvm.Q9.nl_new P0.ltL (lT (Nat.le_refl _) (Nat.le_of_eq z4.symm))) ?_
  intro z3n z3o z3p z3q z3r
  have z3s : Keep h0 z3o [] := z3m.trans z3q (allS (Or.inr (lT (Nat.le_refl _) (Nat.le_of_eq z4.symm))) all0)
  have H := z3p.here
  refine Jvm.Q9.Aim.of (T' := z3n) (g' := (mkF m 189 #[q0, .val (.int p2), .val (.int p3), q3, q4, q5, q6, .val (.int mt), q8, .val (.int tt), .val (.int ((p3 &&& (255 : Int32)).toUInt32.toUInt16.toUInt32.toInt32)), .unset, .unset, .unset, .unset, .unset, .unset, .unset, .unset, .unset] [(.int 32), (.int 21), (.ref z3), (.ref z3)])) (fun tgt kt => ?_) ?_
  · refine XS.dup H hx rfl (hb hby at_184) rfl rfl ?_
    refine XS.bipush H hx rfl (hb hby at_185) ?_
    refine XS.bipush H hx rfl (hb hby at_187) ?_
    exact kt
  refine Jvm.Q9.Aim.stC (x := (32 : Int32)) (j := (21 : Int32)) z3p hx hZ z3r ⟨by decide, by decide⟩ 21 rfl (Nat.le_of_ble_eq_true rfl) (hb hby at_189) (lT Z0 (Nat.le_of_eq z4.symm)) (Jvm.Q9.nl_new P0.ltL (lT (Nat.le_refl _) (Nat.le_of_eq z4.symm))) ?_
  intro z3t z3u z3v z3w z3x
  have z3y : Keep h0 z3u [] := z3s.trans z3w (allS (Or.inr (lT (Nat.le_refl _) (Nat.le_of_eq z4.symm))) all0)
  have H := z3v.here
  refine Jvm.Q9.Aim.of (T' := z3t) (g' := (mkF m 195 #[q0, .val (.int p2), .val (.int p3), q3, q4, q5, q6, .val (.int mt), q8, .val (.int tt), .val (.int ((p3 &&& (255 : Int32)).toUInt32.toUInt16.toUInt32.toInt32)), .unset, .unset, .unset, .unset, .unset, .unset, .unset, .unset, .unset] [(.int 50), (.int 22), (.ref z3), (.ref z3)])) (fun tgt kt => ?_) ?_
  · refine XS.dup H hx rfl (hb hby at_190) rfl rfl ?_
    refine XS.bipush H hx rfl (hb hby at_191) ?_
    refine XS.bipush H hx rfl (hb hby at_193) ?_
    exact kt
  refine Jvm.Q9.Aim.stC (x := (50 : Int32)) (j := (22 : Int32)) z3v hx hZ z3x ⟨by decide, by decide⟩ 22 rfl (Nat.le_of_ble_eq_true rfl) (hb hby at_195) (lT Z0 (Nat.le_of_eq z4.symm)) (Jvm.Q9.nl_new P0.ltL (lT (Nat.le_refl _) (Nat.le_of_eq z4.symm))) ?_
  intro z3z z40 z41 z42 z43
  have z44 : Keep h0 z40 [] := z3y.trans z42 (allS (Or.inr (lT (Nat.le_refl _) (Nat.le_of_eq z4.symm))) all0)
  have H := z41.here
  refine Jvm.Q9.Aim.of (T' := z3z) (g' := (mkF m 201 #[q0, .val (.int p2), .val (.int p3), q3, q4, q5, q6, .val (.int mt), q8, .val (.int tt), .val (.int ((p3 &&& (255 : Int32)).toUInt32.toUInt16.toUInt32.toInt32)), .unset, .unset, .unset, .unset, .unset, .unset, .unset, .unset, .unset] [(.int 49), (.int 23), (.ref z3), (.ref z3)])) (fun tgt kt => ?_) ?_
  · refine XS.dup H hx rfl (hb hby at_196) rfl rfl ?_
    refine XS.bipush H hx rfl (hb hby at_197) ?_
    refine XS.bipush H hx rfl (hb hby at_199) ?_
    exact kt
  refine Jvm.Q9.Aim.stC (x := (49 : Int32)) (j := (23 : Int32)) z41 hx hZ z43 ⟨by decide, by decide⟩ 23 rfl (Nat.le_of_ble_eq_true rfl) (hb hby at_201) (lT Z0 (Nat.le_of_eq z4.symm)) (Jvm.Q9.nl_new P0.ltL (lT (Nat.le_refl _) (Nat.le_of_eq z4.symm))) ?_
  intro z45 z46 z47 z48 z49
  have z4a : Keep h0 z46 [] := z44.trans z48 (allS (Or.inr (lT (Nat.le_refl _) (Nat.le_of_eq z4.symm))) all0)
  have H := z47.here
  refine Jvm.Q9.Aim.of (T' := z45) (g' := (mkF m 207 #[q0, .val (.int p2), .val (.int p3), q3, q4, q5, q6, .val (.int mt), q8, .val (.int tt), .val (.int ((p3 &&& (255 : Int32)).toUInt32.toUInt16.toUInt32.toInt32)), .unset, .unset, .unset, .unset, .unset, .unset, .unset, .unset, .unset] [(.int 32), (.int 24), (.ref z3), (.ref z3)])) (fun tgt kt => ?_) ?_
  · refine XS.dup H hx rfl (hb hby at_202) rfl rfl ?_
    refine XS.bipush H hx rfl (hb hby at_203) ?_
    refine XS.bipush H hx rfl (hb hby at_205) ?_
    exact kt
  refine Jvm.Q9.Aim.stC (x := (32 : Int32)) (j := (24 : Int32)) z47 hx hZ z49 ⟨by decide, by decide⟩ 24 rfl (Nat.le_of_ble_eq_true rfl) (hb hby at_207) (lT Z0 (Nat.le_of_eq z4.symm)) (Jvm.Q9.nl_new P0.ltL (lT (Nat.le_refl _) (Nat.le_of_eq z4.symm))) ?_
  intro z4b z4c z4d z4e z4f
  have z4g : Keep h0 z4c [] := z4a.trans z4e (allS (Or.inr (lT (Nat.le_refl _) (Nat.le_of_eq z4.symm))) all0)
  have H := z4d.here
  refine Jvm.Q9.Aim.of (T' := z4b) (g' := (mkF m 213 #[q0, .val (.int p2), .val (.int p3), q3, q4, q5, q6, .val (.int mt), q8, .val (.int tt), .val (.int ((p3 &&& (255 : Int32)).toUInt32.toUInt16.toUInt32.toInt32)), .unset, .unset, .unset, .unset, .unset, .unset, .unset, .unset, .unset] [(.int 100), (.int 25), (.ref z3), (.ref z3)])) (fun tgt kt => ?_) ?_
  · refine XS.dup H hx rfl (hb hby at_208) rfl rfl ?_
    refine XS.bipush H hx rfl (hb hby at_209) ?_
    refine XS.bipush H hx rfl (hb hby at_211) ?_
    exact kt
  refine Jvm.Q9.Aim.stC (x := (100 : Int32)) (j := (25 : Int32)) z4d hx hZ z4f ⟨by decide, by decide⟩ 25 rfl (Nat.le_of_ble_eq_true rfl) (hb hby at_213) (lT Z0 (Nat.le_of_eq z4.symm)) (Jvm.Q9.nl_new P0.ltL (lT (Nat.le_refl _) (Nat.le_of_eq z4.symm))) ?_
  intro z4h z4i z4j z4k z4l
  have z4m : Keep h0 z4i [] := z4g.trans z4k (allS (Or.inr (lT (Nat.le_refl _) (Nat.le_of_eq z4.symm))) all0)
  have H := z4j.here
  refine Jvm.Q9.Aim.of (T' := z4h) (g' := (mkF m 219 #[q0, .val (.int p2), .val (.int p3), q3, q4, q5, q6, .val (.int mt), q8, .val (.int tt), .val (.int ((p3 &&& (255 : Int32)).toUInt32.toUInt16.toUInt32.toInt32)), .unset, .unset, .unset, .unset, .unset, .unset, .unset, .unset, .unset] [(.int 101), (.int 26), (.ref z3), (.ref z3)])) (fun tgt kt => ?_) ?_
  · refine XS.dup H hx rfl (hb hby at_214) rfl rfl ?_
    refine XS.bipush H hx rfl (hb hby at_215) ?_
    refine XS.bipush H hx rfl (hb hby at_217) ?_
    exact kt
  refine Jvm.Q9.Aim.stC (x := (101 : Int32)) (j := (26 : Int32)) z4j hx hZ z4l ⟨by decide, by decide⟩ 26 rfl (Nat.le_of_ble_eq_true rfl) (hb hby at_219) (lT Z0 (Nat.le_of_eq z4.symm)) (Jvm.Q9.nl_new P0.ltL (lT (Nat.le_refl _) (Nat.le_of_eq z4.symm))) ?_
  intro z4n z4o z4p z4q z4r
  have z4s : Keep h0 z4o [] := z4m.trans z4q (allS (Or.inr (lT (Nat.le_refl _) (Nat.le_of_eq z4.symm))) all0)
  have H := z4p.here
  refine Jvm.Q9.Aim.of (T' := z4n) (g' := (mkF m 225 #[q0, .val (.int p2), .val (.int p3), q3, q4, q5, q6, .val (.int mt), q8, .val (.int tt), .val (.int ((p3 &&& (255 : Int32)).toUInt32.toUInt16.toUInt32.toInt32)), .unset, .unset, .unset, .unset, .unset, .unset, .unset, .unset, .unset] [(.int 103), (.int 27), (.ref z3), (.ref z3)])) (fun tgt kt => ?_) ?_
  · refine XS.dup H hx rfl (hb hby at_220) rfl rfl ?_
    refine XS.bipush H hx rfl (hb hby at_221) ?_
    refine XS.bipush H hx rfl (hb hby at_223) ?_
    exact kt
  refine Jvm.Q9.Aim.stC (x := (103 : Int32)) (j := (27 : Int32)) z4p hx hZ z4r ⟨by decide, by decide⟩ 27 rfl (Nat.le_of_ble_eq_true rfl) (hb hby at_225) (lT Z0 (Nat.le_of_eq z4.symm)) (Jvm.Q9.nl_new P0.ltL (lT (Nat.le_refl _) (Nat.le_of_eq z4.symm))) ?_
  intro z4t z4u z4v z4w z4x
  have z4y : Keep h0 z4u [] := z4s.trans z4w (allS (Or.inr (lT (Nat.le_refl _) (Nat.le_of_eq z4.symm))) all0)
  have H := z4v.here
  refine Jvm.Q9.Aim.of (T' := z4t) (g' := (mkF m 231 #[q0, .val (.int p2), .val (.int p3), q3, q4, q5, q6, .val (.int mt), q8, .val (.int tt), .val (.int ((p3 &&& (255 : Int32)).toUInt32.toUInt16.toUInt32.toInt32)), .unset, .unset, .unset, .unset, .unset, .unset, .unset, .unset, .unset] [(.int 114), (.int 28), (.ref z3), (.ref z3)])) (fun tgt kt => ?_) ?_
  · refine XS.dup H hx rfl (hb hby at_226) rfl rfl ?_
    refine XS.bipush H hx rfl (hb hby at_227) ?_
    refine XS.bipush H hx rfl (hb hby at_229) ?_
    exact kt
  refine Jvm.Q9.Aim.stC (x := (114 : Int32)) (j := (28 : Int32)) z4v hx hZ z4x ⟨by decide, by decide⟩ 28 rfl (Nat.le_of_ble_eq_true rfl) (hb hby at_231) (lT Z0 (Nat.le_of_eq z4.symm)) (Jvm.Q9.nl_new P0.ltL (lT (Nat.le_refl _) (Nat.le_of_eq z4.symm))) ?_
  intro z4z z50 z51 z52 z53
  have z54 : Keep h0 z50 [] := z4y.trans z52 (allS (Or.inr (lT (Nat.le_refl _) (Nat.le_of_eq z4.symm))) all0)
  have H := z51.here
  refine Jvm.Q9.Aim.of (T' := z4z) (g' := (mkF m 237 #[q0, .val (.int p2), .val (.int p3), q3, q4, q5, q6, .val (.int mt), q8, .val (.int tt), .val (.int ((p3 &&& (255 : Int32)).toUInt32.toUInt16.toUInt32.toInt32)), .unset, .unset, .unset, .unset, .unset, .unset, .unset, .unset, .unset] [(.int 101), (.int 29), (.ref z3), (.ref z3)])) (fun tgt kt => ?_) ?_
  · refine XS.dup H hx rfl (hb hby at_232) rfl rfl ?_
    refine XS.bipush H hx rfl (hb hby at_233) ?_
    refine XS.bipush H hx rfl (hb hby at_235) ?_
    exact kt
  refine Jvm.Q9.Aim.stC (x := (101 : Int32)) (j := (29 : Int32)) z51 hx hZ z53 ⟨by decide, by decide⟩ 29 rfl (Nat.le_of_ble_eq_true rfl) (hb hby at_237) (lT Z0 (Nat.le_of_eq z4.symm)) (Jvm.Q9.nl_new P0.ltL (lT (Nat.le_refl _) (Nat.le_of_eq z4.symm))) ?_
  intro z55 z56 z57 z58 z59
  have z5a : Keep h0 z56 [] := z54.trans z58 (allS (Or.inr (lT (Nat.le_refl _) (Nat.le_of_eq z4.symm))) all0)
  have H := z57.here
  refine Jvm.Q9.Aim.of (T' := z55) (g' := (mkF m 243 #[q0, .val (.int p2), .val (.int p3), q3, q4, q5, q6, .val (.int mt), q8, .val (.int tt), .val (.int ((p3 &&& (255 : Int32)).toUInt32.toUInt16.toUInt32.toInt32)), .unset, .unset, .unset, .unset, .unset, .unset, .unset, .unset, .unset] [(.int 101), (.int 30), (.ref z3), (.ref z3)])) (fun tgt kt => ?_) ?_
  · refine XS.dup H hx rfl (hb hby at_238) rfl rfl ?_
    refine XS.bipush H hx rfl (hb hby at_239) ?_
    refine XS.bipush H hx rfl (hb hby at_241) ?_
    exact kt
  refine Jvm.Q9.Aim.stC (x := (101 : Int32)) (j := (30 : Int32)) z57 hx hZ z59 ⟨by decide, by decide⟩ 30 rfl (Nat.le_of_ble_eq_true rfl) (hb hby at_243) (lT Z0 (Nat.le_of_eq z4.symm)) (Jvm.Q9.nl_new P0.ltL (lT (Nat.le_refl _) (Nat.le_of_eq z4.symm))) ?_
  intro z5b z5c z5d z5e z5f
  have z5g : Keep h0 z5c [] := z5a.trans z5e (allS (Or.inr (lT (Nat.le_refl _) (Nat.le_of_eq z4.symm))) all0)
  have H := z5d.here
  refine Jvm.Q9.Aim.of (T' := z5b) (g' := (mkF m 249 #[q0, .val (.int p2), .val (.int p3), q3, q4, q5, q6, .val (.int mt), q8, .val (.int tt), .val (.int ((p3 &&& (255 : Int32)).toUInt32.toUInt16.toUInt32.toInt32)), .unset, .unset, .unset, .unset, .unset, .unset, .unset, .unset, .unset] [(.int 115), (.int 31), (.ref z3), (.ref z3)])) (fun tgt kt => ?_) ?_
  · refine XS.dup H hx rfl (hb hby at_244) rfl rfl ?_
    refine XS.bipush H hx rfl (hb hby at_245) ?_
    refine XS.bipush H hx rfl (hb hby at_247) ?_
    exact kt
  refine Jvm.Q9.Aim.stC (x := (115 : Int32)) (j := (31 : Int32)) z5d hx hZ z5f ⟨by decide, by decide⟩ 31 rfl (Nat.le_of_ble_eq_true rfl) (hb hby at_249) (lT Z0 (Nat.le_of_eq z4.symm)) (Jvm.Q9.nl_new P0.ltL (lT (Nat.le_refl _) (Nat.le_of_eq z4.symm))) ?_
  intro z5h z5i z5j z5k z5l
  have z5m : Keep h0 z5i [] := z5g.trans z5k (allS (Or.inr (lT (Nat.le_refl _) (Nat.le_of_eq z4.symm))) all0)
  have H := z5j.here
  refine Jvm.Q9.Aim.of (T' := z5h) (g' := (mkF m 255 #[q0, .val (.int p2), .val (.int p3), q3, q4, q5, q6, .val (.int mt), q8, .val (.int tt), .val (.int ((p3 &&& (255 : Int32)).toUInt32.toUInt16.toUInt32.toInt32)), .unset, .unset, .unset, .unset, .unset, .unset, .unset, .unset, .unset] [(.int 46), (.int 32), (.ref z3), (.ref z3)])) (fun tgt kt => ?_) ?_
  · refine XS.dup H hx rfl (hb hby at_250) rfl rfl ?_
    refine XS.bipush H hx rfl (hb hby at_251) ?_
    refine XS.bipush H hx rfl (hb hby at_253) ?_
    exact kt
  refine Jvm.Q9.Aim.stC (x := (46 : Int32)) (j := (32 : Int32)) z5j hx hZ z5l ⟨by decide, by decide⟩ 32 rfl (Nat.le_of_ble_eq_true rfl) (hb hby at_255) (lT Z0 (Nat.le_of_eq z4.symm)) (Jvm.Q9.nl_new P0.ltL (lT (Nat.le_refl _) (Nat.le_of_eq z4.symm))) ?_
  intro z5n z5o z5p z5q z5r
  replace z5r : Arv Z z5o z3 z2 .char (33 : Int32) [(.int (nar .char 73)), (.int (nar .char 116)), (.int (nar .char 32)), (.int (nar .char 105)), (.int (nar .char 115)), (.int (nar .char 32)), (.int (nar .char 115)), (.int (nar .char 117)), (.int (nar .char 110)), (.int (nar .char 110)), (.int (nar .char 121)), (.int (nar .char 32)), (.int (nar .char 105)), (.int (nar .char 110)), (.int (nar .char 32)), (.int (nar .char 80)), (.int (nar .char 97)), (.int (nar .char 114)), (.int (nar .char 105)), (.int (nar .char 115)), (.int (nar .char 44)), (.int (nar .char 32)), (.int (nar .char 50)), (.int (nar .char 49)), (.int (nar .char 32)), (.int (nar .char 100)), (.int (nar .char 101)), (.int (nar .char 103)), (.int (nar .char 114)), (.int (nar .char 101)), (.int (nar .char 101)), (.int (nar .char 115)), (.int (nar .char 46))] (.int 0) := z5r
  have z5s : Keep h0 z5o [] := z5m.trans z5q (allS (Or.inr (lT (Nat.le_refl _) (Nat.le_of_eq z4.symm))) all0)
  have z5t : Arv Z z5o z3 z2 .char (33 : Int32) (paris.map Value.int) (.int 0) := Jvm.Y9.arv_eq z5r (by rw [paris_eq]; rfl)
  have H := z5p.here
  refine Jvm.Q9.Aim.of (T' := z5n) (g' := (mkF m 259 #[q0, .val (.int p2), .val (.int p3), q3, q4, q5, q6, .val (.int mt), q8, .val (.int tt), .val (.int ((p3 &&& (255 : Int32)).toUInt32.toUInt16.toUInt32.toInt32)), .unset, .unset, .val (.ref z3), .unset, .unset, .unset, .unset, .unset, .unset] [(.int p2)])) (fun tgt kt => ?_) ?_
  · refine XS.astore H hx rfl (hb hby at_256) rfl rfl (l' := #[q0, .val (.int p2), .val (.int p3), q3, q4, q5, q6, .val (.int mt), q8, .val (.int tt), .val (.int ((p3 &&& (255 : Int32)).toUInt32.toUInt16.toUInt32.toInt32)), .unset, .unset, .val (.ref z3), .unset, .unset, .unset, .unset, .unset, .unset]) rfl ?_
    refine XS.iloadN H hx rfl (hb hby at_258) rfl ?_
    exact kt
  refine Jvm.Q9.Aim.ldcI z5p hx hZ hown (wI hw 1 rfl) (hb hby at_259) ?_
  have H := z5p.here
  refine Jvm.Q9.Aim.of (T' := z5n) (g' := (mkF m 271 #[q0, .val (.int p2), .val (.int p3), q3, q4, q5, q6, .val (.int mt), q8, .val (.int tt), .val (.int ((p3 &&& (255 : Int32)).toUInt32.toUInt16.toUInt32.toInt32)), .unset, .unset, .val (.ref z3), .val (.int ((p2 &&& (2147483647 : Int32)) % (33 : Int32))), .unset, .unset, .unset, .unset, .unset] [(.int ((p2 &&& (2147483647 : Int32)) % (33 : Int32))), (.ref z3)])) (fun tgt kt => ?_) ?_
  · refine XS.iand H hx rfl (hb hby at_261) rfl ?_
    refine XS.bipush H hx rfl (hb hby at_262) ?_
    refine Jvm.Y9.own_irem H hx rfl (hb hby at_264) rfl (by decide) ?_
    refine XS.istore H hx rfl (hb hby at_265) rfl (l' := #[q0, .val (.int p2), .val (.int p3), q3, q4, q5, q6, .val (.int mt), q8, .val (.int tt), .val (.int ((p3 &&& (255 : Int32)).toUInt32.toUInt16.toUInt32.toInt32)), .unset, .unset, .val (.ref z3), .val (.int ((p2 &&& (2147483647 : Int32)) % (33 : Int32))), .unset, .unset, .unset, .unset, .unset]) rfl ?_
    refine XS.aload H hx rfl (hb hby at_267) rfl rfl ?_
    refine XS.iload H hx rfl (hb hby at_269) rfl ?_
    exact kt
  refine Jvm.Q9.Aim.ldC (j := ((p2 &&& (2147483647 : Int32)) % (33 : Int32))) (v := (.int (paris.getD ((p2 &&& (2147483647 : Int32)) % (33 : Int32)).toNatClampNeg 0))) z5p hx hZ z5t ⟨(own_idx p2).1, (own_idx p2).2.1⟩ map_get (hb hby at_271) ?_
  have H := z5p.here
  refine Jvm.Q9.Aim.of (T' := z5n) (g' := (mkF m 276 #[q0, .val (.int p2), .val (.int p3), q3, q4, q5, q6, .val (.int mt), q8, .val (.int tt), .val (.int ((p3 &&& (255 : Int32)).toUInt32.toUInt16.toUInt32.toInt32)), .unset, .unset, .val (.ref z3), .val (.int ((p2 &&& (2147483647 : Int32)) % (33 : Int32))), .val (.int (paris.getD ((p2 &&& (2147483647 : Int32)) % (33 : Int32)).toNatClampNeg 0)), .unset, .unset, .unset, .unset] [(.int mt)])) (fun tgt kt => ?_) ?_
  · refine XS.istore H hx rfl (hb hby at_272) rfl (l' := #[q0, .val (.int p2), .val (.int p3), q3, q4, q5, q6, .val (.int mt), q8, .val (.int tt), .val (.int ((p3 &&& (255 : Int32)).toUInt32.toUInt16.toUInt32.toInt32)), .unset, .unset, .val (.ref z3), .val (.int ((p2 &&& (2147483647 : Int32)) % (33 : Int32))), .val (.int (paris.getD ((p2 &&& (2147483647 : Int32)) % (33 : Int32)).toNatClampNeg 0)), .unset, .unset, .unset, .unset]) rfl ?_
    refine XS.iload H hx rfl (hb hby at_274) rfl ?_
    exact kt
  have z5u : ∀ z5v : Int32, z5v = (if mt = (0 : Int32) then ((p3 &&& (255 : Int32)).toUInt32.toUInt16.toUInt32.toInt32) else (paris.getD ((p2 &&& (2147483647 : Int32)) % (33 : Int32)).toNatClampNeg 0)) → Jvm.Q9.Aim p e below s (room_1 : Room).cells (room_1 : Room).slots n0 (Jvm.Q9.QW Z LC h0 Lc0 (fun v h Lc => v = some (.int 1) ∧ Keep h0 h [])) z5n (mkF m 286 #[q0, .val (.int p2), .val (.int p3), q3, q4, q5, q6, .val (.int mt), q8, .val (.int tt), .val (.int ((p3 &&& (255 : Int32)).toUInt32.toUInt16.toUInt32.toInt32)), .unset, .unset, .val (.ref z3), .val (.int ((p2 &&& (2147483647 : Int32)) % (33 : Int32))), .val (.int (paris.getD ((p2 &&& (2147483647 : Int32)) % (33 : Int32)).toNatClampNeg 0)), .unset, .unset, .unset, .unset] [(.int z5v)]) := by
    intro z5v z5w
    have H := z5p.here
    refine Jvm.Q9.Aim.of (T' := z5n) (g' := (mkF m 294 #[q0, .val (.int p2), .val (.int p3), q3, q4, q5, q6, .val (.int mt), q8, .val (.int tt), .val (.int ((p3 &&& (255 : Int32)).toUInt32.toUInt16.toUInt32.toInt32)), .unset, .unset, .val (.ref z3), .val (.int ((p2 &&& (2147483647 : Int32)) % (33 : Int32))), .val (.int (paris.getD ((p2 &&& (2147483647 : Int32)) % (33 : Int32)).toNatClampNeg 0)), .val (.int z5v), .unset, .unset, .unset] [(.int z5v), (.int ((p2 &&& (2147483647 : Int32)) % (33 : Int32))), (.ref z3)])) (fun tgt kt => ?_) ?_
    · refine XS.istore H hx rfl (hb hby at_286) rfl (l' := #[q0, .val (.int p2), .val (.int p3), q3, q4, q5, q6, .val (.int mt), q8, .val (.int tt), .val (.int ((p3 &&& (255 : Int32)).toUInt32.toUInt16.toUInt32.toInt32)), .unset, .unset, .val (.ref z3), .val (.int ((p2 &&& (2147483647 : Int32)) % (33 : Int32))), .val (.int (paris.getD ((p2 &&& (2147483647 : Int32)) % (33 : Int32)).toNatClampNeg 0)), .val (.int z5v), .unset, .unset, .unset]) rfl ?_
      refine XS.aload H hx rfl (hb hby at_288) rfl rfl ?_
      refine XS.iload H hx rfl (hb hby at_290) rfl ?_
      refine XS.iload H hx rfl (hb hby at_292) rfl ?_
      exact kt
    have z5x : ¬ z5v < 0 ∧ ¬ (255 : Int32) < z5v := ite_in z5w (own_char p3) (get_in (by rw [paris_len]; exact (own_idx p2).2.2) paris_in)
    refine Jvm.Q9.Aim.stC (x := z5v) (j := ((p2 &&& (2147483647 : Int32)) % (33 : Int32))) z5p hx hZ z5t ⟨(own_idx p2).1, (own_idx p2).2.1⟩ ((p2 &&& (2147483647 : Int32)) % (33 : Int32)).toNatClampNeg rfl (by rw [List.length_map, paris_len]; exact (own_idx p2).2.2) (hb hby at_294) (lT Z0 (Nat.le_of_eq z4.symm)) (Jvm.Q9.nl_new P0.ltL (lT (Nat.le_refl _) (Nat.le_of_eq z4.symm))) ?_
    intro z5y z5z z60 z61 z62
    have z63 : Arv Z z5z z3 z2 .char (33 : Int32) ((paris.set ((p2 &&& (2147483647 : Int32)) % (33 : Int32)).toNatClampNeg z5v).map Value.int) (.int 0) := Jvm.Y9.arv_eq z62 (by rw [own_narC z5x, List.map_set])
    have z64 : Keep h0 z5z [] := z5s.trans z61 (allS (Or.inr (lT (Nat.le_refl _) (Nat.le_of_eq z4.symm))) all0)
    refine Jvm.Q9.Aim.newO z60 hx hZ hown (wI hw 2 rfl) (wI hw 3 rfl) (wI hw 4 rfl) (hb hby at_295) (by decide) (by decide) ?_
    intro z65 z66 z67 z68 z69 z6a z6b z6c z6d
    have z6e : Keep z5z z66 [] := (Keep.refl _ _).ext z6a
    have z6f : Keep h0 z66 [] := z64.trans z6e all0
    have z6g : Fld Z z66 z67 "java/lang/String" "coder" "B" (.int 0) := z6c (Or.inr (wI hw 28 rfl)) (ty := .byte) (by decide)
    have z6h : Fld Z z66 z67 "java/lang/String" "value" "[B" .null := z6c (Or.inr (wI hw 30 rfl)) (ty := (.array .byte)) (by decide)
    have H := z69.here
    refine Jvm.Q9.Aim.of (T' := z65) (g' := (mkF m 301 #[q0, .val (.int p2), .val (.int p3), q3, q4, q5, q6, .val (.int mt), q8, .val (.int tt), .val (.int ((p3 &&& (255 : Int32)).toUInt32.toUInt16.toUInt32.toInt32)), .unset, .unset, .val (.ref z3), .val (.int ((p2 &&& (2147483647 : Int32)) % (33 : Int32))), .val (.int (paris.getD ((p2 &&& (2147483647 : Int32)) % (33 : Int32)).toNatClampNeg 0)), .val (.int z5v), .unset, .unset, .unset] [(.ref z3), (.ref z67), (.ref z67)])) (fun tgt kt => ?_) ?_
    · refine XS.dup H hx rfl (hb hby at_298) rfl rfl ?_
      refine XS.aload H hx rfl (hb hby at_299) rfl rfl ?_
      exact kt
    have z6i : Arv Z z66 z3 z2 .char (33 : Int32) ((paris.set ((p2 &&& (2147483647 : Int32)) % (33 : Int32)).toNatClampNeg z5v).map Value.int) (.int 0) := (z63.keep z6e nin0)
    have z6j : Old Z n0 z66 := ((((((((((((((((((((((((((((((((((((F0.keep z8 all0).keep ze (allS (lT Z0 (Nat.le_of_eq z4.symm)) all0)).keep zk (allS (lT Z0 (Nat.le_of_eq z4.symm)) all0)).keep zq (allS (lT Z0 (Nat.le_of_eq z4.symm)) all0)).keep zw (allS (lT Z0 (Nat.le_of_eq z4.symm)) all0)).keep z12 (allS (lT Z0 (Nat.le_of_eq z4.symm)) all0)).keep z18 (allS (lT Z0 (Nat.le_of_eq z4.symm)) all0)).keep z1e (allS (lT Z0 (Nat.le_of_eq z4.symm)) all0)).keep z1k (allS (lT Z0 (Nat.le_of_eq z4.symm)) all0)).keep z1q (allS (lT Z0 (Nat.le_of_eq z4.symm)) all0)).keep z1w (allS (lT Z0 (Nat.le_of_eq z4.symm)) all0)).keep z22 (allS (lT Z0 (Nat.le_of_eq z4.symm)) all0)).keep z28 (allS (lT Z0 (Nat.le_of_eq z4.symm)) all0)).keep z2e (allS (lT Z0 (Nat.le_of_eq z4.symm)) all0)).keep z2k (allS (lT Z0 (Nat.le_of_eq z4.symm)) all0)).keep z2q (allS (lT Z0 (Nat.le_of_eq z4.symm)) all0)).keep z2w (allS (lT Z0 (Nat.le_of_eq z4.symm)) all0)).keep z32 (allS (lT Z0 (Nat.le_of_eq z4.symm)) all0)).keep z38 (allS (lT Z0 (Nat.le_of_eq z4.symm)) all0)).keep z3e (allS (lT Z0 (Nat.le_of_eq z4.symm)) all0)).keep z3k (allS (lT Z0 (Nat.le_of_eq z4.symm)) all0)).keep z3q (allS (lT Z0 (Nat.le_of_eq z4.symm)) all0)).keep z3w (allS (lT Z0 (Nat.le_of_eq z4.symm)) all0)).keep z42 (allS (lT Z0 (Nat.le_of_eq z4.symm)) all0)).keep z48 (allS (lT Z0 (Nat.le_of_eq z4.symm)) all0)).keep z4e (allS (lT Z0 (Nat.le_of_eq z4.symm)) all0)).keep z4k (allS (lT Z0 (Nat.le_of_eq z4.symm)) all0)).keep z4q (allS (lT Z0 (Nat.le_of_eq z4.symm)) all0)).keep z4w (allS (lT Z0 (Nat.le_of_eq z4.symm)) all0)).keep z52 (allS (lT Z0 (Nat.le_of_eq z4.symm)) all0)).keep z58 (allS (lT Z0 (Nat.le_of_eq z4.symm)) all0)).keep z5e (allS (lT Z0 (Nat.le_of_eq z4.symm)) all0)).keep z5k (allS (lT Z0 (Nat.le_of_eq z4.symm)) all0)).keep z5q (allS (lT Z0 (Nat.le_of_eq z4.symm)) all0)).keep z61 (allS (lT Z0 (Nat.le_of_eq z4.symm)) all0)).keep z6e all0)
    refine Jvm.Q9.Aim.callC (argsL := [(.ref z3)]) (rest := [(.ref z67)]) z69 hx hZ hml hown rfl (wI hw 5 rfl) (wI hw 6 rfl) (wI hw 7 rfl) (by decide) (fun vm0 hZ => own_newStr (s := s.setVm vm0) (W := 1) hZ (by decide) (by decide) hw z67 z3 z2 (paris.set ((p2 &&& (2147483647 : Int32)) % (33 : Int32)).toNatClampNeg z5v) (33 : Int32) (.int 0) (.null) (.int 0) 33 z66 n0 (lT Z0 (z6f.1)) (lT (lT Z0 (z64.1)) (Nat.le_of_eq z68.symm)) z6b z6h z6g z6i z6j (by rw [List.length_set]; exact paris_len) rfl (by decide) (by decide) (set_in paris_in z5x) G) (fun _ _ ⟨_, _, _, q, _, _⟩ => q) (allS (Jvm.Q9.nl_new P0.ltL (lT (z64.1) (Nat.le_of_eq z68.symm))) all0) rfl pd__28_5bC_29V rfl (Nat.le_of_eq rfl) (hb hby at_301) (by decide) (by decide) ?_
    intro z6k z6l z6m z6n z6o
    obtain ⟨t_1922, kb_1923, rfl, z6p, z6q, z6r⟩ := z6o
    have z6s : Keep h0 z6l [] := z6f.trans z6p (allS (Or.inr (lT (z64.1) (Nat.le_of_eq z68.symm))) all0)
    have H := z6n.here
    refine Jvm.Q9.Aim.of (T' := z6k) (g' := (mkF m 310 #[q0, .val (.int p2), .val (.int p3), q3, q4, q5, q6, .val (.int mt), q8, .val (.int tt), .val (.int ((p3 &&& (255 : Int32)).toUInt32.toUInt16.toUInt32.toInt32)), .val (.ref z67), .unset, .val (.ref z3), .val (.int ((p2 &&& (2147483647 : Int32)) % (33 : Int32))), .val (.int (paris.getD ((p2 &&& (2147483647 : Int32)) % (33 : Int32)).toNatClampNeg 0)), .val (.int z5v), .unset, .unset, .unset] [(.int (paris.getD ((p2 &&& (2147483647 : Int32)) % (33 : Int32)).toNatClampNeg 0)), (.int z5v)])) (fun tgt kt => ?_) ?_
    · refine XS.astore H hx rfl (hb hby at_304) rfl rfl (l' := #[q0, .val (.int p2), .val (.int p3), q3, q4, q5, q6, .val (.int mt), q8, .val (.int tt), .val (.int ((p3 &&& (255 : Int32)).toUInt32.toUInt16.toUInt32.toInt32)), .val (.ref z67), .unset, .val (.ref z3), .val (.int ((p2 &&& (2147483647 : Int32)) % (33 : Int32))), .val (.int (paris.getD ((p2 &&& (2147483647 : Int32)) % (33 : Int32)).toNatClampNeg 0)), .val (.int z5v), .unset, .unset, .unset]) rfl ?_
      refine XS.iload H hx rfl (hb hby at_306) rfl ?_
      refine XS.iload H hx rfl (hb hby at_308) rfl ?_
      exact kt
    have z6t : ∀ z6u : Int32, z6u = (if z5v = (paris.getD ((p2 &&& (2147483647 : Int32)) % (33 : Int32)).toNatClampNeg 0) then (1 : Int32) else (0 : Int32)) → Jvm.Q9.Aim p e below s (room_1 : Room).cells (room_1 : Room).slots n0 (Jvm.Q9.QW Z LC h0 Lc0 (fun v h Lc => v = some (.int 1) ∧ Keep h0 h [])) z6k (mkF m 318 #[q0, .val (.int p2), .val (.int p3), q3, q4, q5, q6, .val (.int mt), q8, .val (.int tt), .val (.int ((p3 &&& (255 : Int32)).toUInt32.toUInt16.toUInt32.toInt32)), .val (.ref z67), .unset, .val (.ref z3), .val (.int ((p2 &&& (2147483647 : Int32)) % (33 : Int32))), .val (.int (paris.getD ((p2 &&& (2147483647 : Int32)) % (33 : Int32)).toNatClampNeg 0)), .val (.int z5v), .unset, .unset, .unset] [(.int z6u)]) := by
      intro z6u z6v
      have H := z6n.here
      refine Jvm.Q9.Aim.of (T' := z6k) (g' := (mkF m 701 #[q0, .val (.int p2), .val (.int p3), q3, q4, q5, q6, .val (.int mt), q8, .val (.int tt), .val (.int ((p3 &&& (255 : Int32)).toUInt32.toUInt16.toUInt32.toInt32)), .val (.ref z67), .val (.int z6u), .val (.ref z3), .val (.int ((p2 &&& (2147483647 : Int32)) % (33 : Int32))), .val (.int (paris.getD ((p2 &&& (2147483647 : Int32)) % (33 : Int32)).toNatClampNeg 0)), .val (.int z5v), .unset, .unset, .unset] [])) (fun tgt kt => ?_) ?_
      · refine XS.istore H hx rfl (hb hby at_318) rfl (l' := #[q0, .val (.int p2), .val (.int p3), q3, q4, q5, q6, .val (.int mt), q8, .val (.int tt), .val (.int ((p3 &&& (255 : Int32)).toUInt32.toUInt16.toUInt32.toInt32)), .val (.ref z67), .val (.int z6u), .val (.ref z3), .val (.int ((p2 &&& (2147483647 : Int32)) % (33 : Int32))), .val (.int (paris.getD ((p2 &&& (2147483647 : Int32)) % (33 : Int32)).toNatClampNeg 0)), .val (.int z5v), .unset, .unset, .unset]) rfl ?_
        refine XS.goto H hx rfl (pc0 := 320) (pc' := 701) rfl (hb hby at_320) (by decide) (by decide) ?_
        exact kt
      have z6w : Old Z n0 z6l := (z6j.keep z6p (allS (lT (lT Z0 (z64.1)) (Nat.le_of_eq z68.symm)) all0))
      exact (own_tA l Z a0 hw q0 (.val (.int p2)) (.val (.int p3)) q3 q4 q5 q6 (.val (.int mt)) q8 (.val (.int ((p3 &&& (255 : Int32)).toUInt32.toUInt16.toUInt32.toInt32))) (.val (.ref z3)) (.val (.int ((p2 &&& (2147483647 : Int32)) % (33 : Int32)))) (.val (.int (paris.getD ((p2 &&& (2147483647 : Int32)) % (33 : Int32)).toNatClampNeg 0))) (.val (.int z5v)) (.unset) (.unset) (Or.inr ⟨_, rfl, rfl⟩) (Or.inr ⟨_, rfl, rfl⟩) (Or.inr ⟨_, rfl, rfl⟩) (Or.inr ⟨_, rfl, rfl⟩) (Or.inl rfl) (Or.inl rfl) (paris.set ((p2 &&& (2147483647 : Int32)) % (33 : Int32)).toNatClampNeg z5v) tt z67 t_1922 kb_1923 z6u z6l n0 (lT Z0 (z6s.1)) Lc0 z6r z6w (Or.inr (Or.inl (by rw [List.length_set]; exact paris_len))) (z6v.trans (own_ifc (set_same (by rw [paris_len]; exact (own_idx p2).2.2)).symm)) G GS GL GD hx hby hml hret hnm hown hlk hZ (z6n.more (by decide) (by decide))).imp (fun vv hh it ⟨Lq, ⟨vq, kq⟩, aq, gq⟩ => ⟨Lq, ⟨vq, z6s.trans kq all0⟩, aq, (Jvm.Q9.Grow.refl _ _).trans gq (z6s.1)⟩)
    by_cases z6x : z5v = (paris.getD ((p2 &&& (2147483647 : Int32)) % (33 : Int32)).toNatClampNeg 0)
    · skip
      have H := z6n.here
      refine Jvm.Q9.Aim.of (T' := z6k) (g' := (mkF m 318 #[q0, .val (.int p2), .val (.int p3), q3, q4, q5, q6, .val (.int mt), q8, .val (.int tt), .val (.int ((p3 &&& (255 : Int32)).toUInt32.toUInt16.toUInt32.toInt32)), .val (.ref z67), .unset, .val (.ref z3), .val (.int ((p2 &&& (2147483647 : Int32)) % (33 : Int32))), .val (.int (paris.getD ((p2 &&& (2147483647 : Int32)) % (33 : Int32)).toNatClampNeg 0)), .val (.int z5v), .unset, .unset, .unset] [(.int 1)])) (fun tgt kt => ?_) ?_
      · refine XS.icmpNo H hx rfl (hb hby at_310) rfl (teq z6x).2 ?_
        refine XS.iconst H hx rfl (hb hby at_313) ?_
        refine XS.goto H hx rfl (pc0 := 314) (pc' := 318) rfl (hb hby at_314) (by decide) (by decide) ?_
        exact kt
      exact z6t _ (if_pos z6x).symm
    · skip
      have H := z6n.here
      refine Jvm.Q9.Aim.of (T' := z6k) (g' := (mkF m 318 #[q0, .val (.int p2), .val (.int p3), q3, q4, q5, q6, .val (.int mt), q8, .val (.int tt), .val (.int ((p3 &&& (255 : Int32)).toUInt32.toUInt16.toUInt32.toInt32)), .val (.ref z67), .unset, .val (.ref z3), .val (.int ((p2 &&& (2147483647 : Int32)) % (33 : Int32))), .val (.int (paris.getD ((p2 &&& (2147483647 : Int32)) % (33 : Int32)).toNatClampNeg 0)), .val (.int z5v), .unset, .unset, .unset] [(.int 0)])) (fun tgt kt => ?_) ?_
      · refine XS.icmpYes H hx rfl (pc0 := 310) (pc' := 317) rfl (hb hby at_310) rfl (feq z6x).2 (by decide) (by decide) ?_
        refine XS.iconst H hx rfl (hb hby at_317) ?_
        exact kt
      exact z6t _ (if_neg z6x).symm
  by_cases z6y : mt = (0 : Int32)
  · skip
    have H := z5p.here
    refine Jvm.Q9.Aim.of (T' := z5n) (g' := (mkF m 286 #[q0, .val (.int p2), .val (.int p3), q3, q4, q5, q6, .val (.int mt), q8, .val (.int tt), .val (.int ((p3 &&& (255 : Int32)).toUInt32.toUInt16.toUInt32.toInt32)), .unset, .unset, .val (.ref z3), .val (.int ((p2 &&& (2147483647 : Int32)) % (33 : Int32))), .val (.int (paris.getD ((p2 &&& (2147483647 : Int32)) % (33 : Int32)).toNatClampNeg 0)), .unset, .unset, .unset, .unset] [(.int ((p3 &&& (255 : Int32)).toUInt32.toUInt16.toUInt32.toInt32))])) (fun tgt kt => ?_) ?_
    · refine XS.ifYes H hx rfl (pc0 := 276) (pc' := 284) rfl (hb hby at_276) rfl ((if0 _ _).trans (teq z6y).1) (by decide) (by decide) ?_
      refine XS.iload H hx rfl (hb hby at_284) rfl ?_
      exact kt
    exact z5u _ (if_pos z6y).symm
  · skip
    have H := z5p.here
    refine Jvm.Q9.Aim.of (T' := z5n) (g' := (mkF m 286 #[q0, .val (.int p2), .val (.int p3), q3, q4, q5, q6, .val (.int mt), q8, .val (.int tt), .val (.int ((p3 &&& (255 : Int32)).toUInt32.toUInt16.toUInt32.toInt32)), .unset, .unset, .val (.ref z3), .val (.int ((p2 &&& (2147483647 : Int32)) % (33 : Int32))), .val (.int (paris.getD ((p2 &&& (2147483647 : Int32)) % (33 : Int32)).toNatClampNeg 0)), .unset, .unset, .unset, .unset] [(.int (paris.getD ((p2 &&& (2147483647 : Int32)) % (33 : Int32)).toNatClampNeg 0))])) (fun tgt kt => ?_) ?_
    · refine XS.ifNo H hx rfl (hb hby at_276) rfl ((if0 _ _).trans (feq z6y).1) ?_
      refine XS.iload H hx rfl (hb hby at_279) rfl ?_
      refine XS.goto H hx rfl (pc0 := 281) (pc' := 286) rfl (hb hby at_281) (by decide) (by decide) ?_
      exact kt
    exact z5u _ (if_neg z6y).symm
theorem own_m2 (l : Launch) (Z : State) (a0 : Array Value) (hw : ∀ d ∈ tables_1, d.before a0 Z = true) (q0 : Slot) (q1 : Slot) (q3 : Slot) (q4 : Slot) (q5 : Slot) (q6 : Slot) (q7 : Slot) (q8 : Slot) (p3 : Int32) (tt : Int32) (h0 : Heap) (n0 : Nat) (Z0 : n0 ≤ h0.size) (Lc0 : List Addr) (F0 : Old Z n0 h0) (G : Cmp Z) (GS : Sio Z) (GL : ∀ c ∈ LC.1, Jvm.Q9.LitZ Z c) (GD : Dig Z) {p : Program} {e : Env} {s : State} {m : MethodId} {as' : Array Value} {below : List Frame} {meth : Method} {c : Code} {s₁ : State} (hx : p.tables.exec = Jvm.exec) (hby : c.code = code) (hml : c.maxLocals = maxLocals) (hret : meth.sig.returnType = ret) (hnm : meth.name = x.name) (hown : s.vm.findClass x.cls = some m.cls) (hlk : meth.locks = false) (hZ : Z.Warmed39 s.vm) (P0 : Jvm.Q9.On p l e room_1 s m as' below meth c Z LC n0 s₁ h0 0 0 Lc0) :
    Jvm.Q9.Aim p e below s (room_1 : Room).cells (room_1 : Room).slots n0 (Jvm.Q9.QW Z LC h0 Lc0 (fun v h Lc => v = some (.int 1) ∧ Keep h0 h [])) s₁ (mkF m 483 #[q0, q1, .val (.int p3), q3, q4, q5, q6, q7, q8, .val (.int tt), .val (.int ((p3 &&& (255 : Int32)).toUInt32.toUInt16.toUInt32.toInt32)), .unset, .unset, .unset, .unset, .unset, .unset, .unset, .unset, .unset] []) := by
  have H := P0.here
  refine Jvm.Q9.Aim.of (T' := s₁) (g' := (mkF m 485 #[q0, q1, .val (.int p3), q3, q4, q5, q6, q7, q8, .val (.int tt), .val (.int ((p3 &&& (255 : Int32)).toUInt32.toUInt16.toUInt32.toInt32)), .unset, .unset, .unset, .unset, .unset, .unset, .unset, .unset, .unset] [(.int 34)])) (fun tgt kt => ?_) ?_
  · refine XS.bipush H hx rfl (hb hby at_483) ?_
    exact kt
  refine Jvm.Q9.Aim.newP (z := (34 : Int32)) P0 hx hZ (wI hw 0 rfl) (hb hby at_485) (by decide) (cap := 34) (by decide) (by decide) (by decide) (by decide) ?_
  intro z0 z1 z2 z3 z4 z5 z6 z7
  have z8 : Keep h0 z1 [] := (Keep.refl _ _).ext z6
  have z9 : Keep h0 z1 [] := (Keep.refl h0 []).trans z8 all0
  have za : Arv Z z1 z3 z2 .char (34 : Int32) [(.int 0), (.int 0), (.int 0), (.int 0), (.int 0), (.int 0), (.int 0), (.int 0), (.int 0), (.int 0), (.int 0), (.int 0), (.int 0), (.int 0), (.int 0), (.int 0), (.int 0), (.int 0), (.int 0), (.int 0), (.int 0), (.int 0), (.int 0), (.int 0), (.int 0), (.int 0), (.int 0), (.int 0), (.int 0), (.int 0), (.int 0), (.int 0), (.int 0), (.int 0)] (.int 0) := z7.pad (pad_rep [] (.int 0) 34)
  have H := z5.here
  refine Jvm.Q9.Aim.of (T' := z0) (g' := (mkF m 491 #[q0, q1, .val (.int p3), q3, q4, q5, q6, q7, q8, .val (.int tt), .val (.int ((p3 &&& (255 : Int32)).toUInt32.toUInt16.toUInt32.toInt32)), .unset, .unset, .unset, .unset, .unset, .unset, .unset, .unset, .unset] [(.int 73), (.int 0), (.ref z3), (.ref z3)])) (fun tgt kt => ?_) ?_
  · refine XS.dup H hx rfl (hb hby at_487) rfl rfl ?_
    refine XS.iconst H hx rfl (hb hby at_488) ?_
    refine XS.bipush H hx rfl (hb hby at_489) ?_
    exact kt
  refine Jvm.Q9.Aim.stC (x := (73 : Int32)) (j := (0 : Int32)) z5 hx hZ za ⟨by decide, by decide⟩ 0 rfl (Nat.le_of_ble_eq_true rfl) (hb hby at_491) (lT Z0 (Nat.le_of_eq z4.symm)) (Jvm.Q9.nl_new P0.ltL (lT (Nat.le_refl _) (Nat.le_of_eq z4.symm))) ?_
  intro zb zc zd ze zf
  have zg : Keep h0 zc [] := z9.trans ze (allS (Or.inr (lT (Nat.le_refl _) (Nat.le_of_eq z4.symm))) all0)
  have H := zd.here
  refine Jvm.Q9.Aim.of (T' := zb) (g' := (mkF m 496 #[q0, q1, .val (.int p3), q3, q4, q5, q6, q7, q8, .val (.int tt), .val (.int ((p3 &&& (255 : Int32)).toUInt32.toUInt16.toUInt32.toInt32)), .unset, .unset, .unset, .unset, .unset, .unset, .unset, .unset, .unset] [(.int 116), (.int 1), (.ref z3), (.ref z3)])) (fun tgt kt => ?_) ?_
  · refine XS.dup H hx rfl (hb hby at_492) rfl rfl ?_
    refine XS.iconst H hx rfl (hb hby at_493) ?_
    refine XS.bipush H hx rfl (hb hby at_494) ?_
    exact kt
  refine Jvm.Q9.Aim.stC (x := (116 : Int32)) (j := (1 : Int32)) zd hx hZ zf ⟨by decide, by decide⟩ 1 rfl (Nat.le_of_ble_eq_true rfl) (hb hby at_496) (lT Z0 (Nat.le_of_eq z4.symm)) (Jvm.Q9.nl_new P0.ltL (lT (Nat.le_refl _) (Nat.le_of_eq z4.symm))) ?_
  intro zh zi zj zk zl
  have zm : Keep h0 zi [] := zg.trans zk (allS (Or.inr (lT (Nat.le_refl _) (Nat.le_of_eq z4.symm))) all0)
  have H := zj.here
  refine Jvm.Q9.Aim.of (T' := zh) (g' := (mkF m 501 #[q0, q1, .val (.int p3), q3, q4, q5, q6, q7, q8, .val (.int tt), .val (.int ((p3 &&& (255 : Int32)).toUInt32.toUInt16.toUInt32.toInt32)), .unset, .unset, .unset, .unset, .unset, .unset, .unset, .unset, .unset] [(.int 32), (.int 2), (.ref z3), (.ref z3)])) (fun tgt kt => ?_) ?_
  · refine XS.dup H hx rfl (hb hby at_497) rfl rfl ?_
    refine XS.iconst H hx rfl (hb hby at_498) ?_
    refine XS.bipush H hx rfl (hb hby at_499) ?_
    exact kt
  refine Jvm.Q9.Aim.stC (x := (32 : Int32)) (j := (2 : Int32)) zj hx hZ zl ⟨by decide, by decide⟩ 2 rfl (Nat.le_of_ble_eq_true rfl) (hb hby at_501) (lT Z0 (Nat.le_of_eq z4.symm)) (Jvm.Q9.nl_new P0.ltL (lT (Nat.le_refl _) (Nat.le_of_eq z4.symm))) ?_
  intro zn zo zp zq zr
  have zs : Keep h0 zo [] := zm.trans zq (allS (Or.inr (lT (Nat.le_refl _) (Nat.le_of_eq z4.symm))) all0)
  have H := zp.here
  refine Jvm.Q9.Aim.of (T' := zn) (g' := (mkF m 506 #[q0, q1, .val (.int p3), q3, q4, q5, q6, q7, q8, .val (.int tt), .val (.int ((p3 &&& (255 : Int32)).toUInt32.toUInt16.toUInt32.toInt32)), .unset, .unset, .unset, .unset, .unset, .unset, .unset, .unset, .unset] [(.int 105), (.int 3), (.ref z3), (.ref z3)])) (fun tgt kt => ?_) ?_
  · refine XS.dup H hx rfl (hb hby at_502) rfl rfl ?_
    refine XS.iconst H hx rfl (hb hby at_503) ?_
    refine XS.bipush H hx rfl (hb hby at_504) ?_
    exact kt
  refine Jvm.Q9.Aim.stC (x := (105 : Int32)) (j := (3 : Int32)) zp hx hZ zr ⟨by decide, by decide⟩ 3 rfl (Nat.le_of_ble_eq_true rfl) (hb hby at_506) (lT Z0 (Nat.le_of_eq z4.symm)) (Jvm.Q9.nl_new P0.ltL (lT (Nat.le_refl _) (Nat.le_of_eq z4.symm))) ?_
  intro zt zu zv zw zx
  have zy : Keep h0 zu [] := zs.trans zw (allS (Or.inr (lT (Nat.le_refl _) (Nat.le_of_eq z4.symm))) all0)
  have H := zv.here
  refine Jvm.Q9.Aim.of (T' := zt) (g' := (mkF m 511 #[q0, q1, .val (.int p3), q3, q4, q5, q6, q7, q8, .val (.int tt), .val (.int ((p3 &&& (255 : Int32)).toUInt32.toUInt16.toUInt32.toInt32)), .unset, .unset, .unset, .unset, .unset, .unset, .unset, .unset, .unset] [(.int 115), (.int 4), (.ref z3), (.ref z3)])) (fun tgt kt => ?_) ?_
  · refine XS.dup H hx rfl (hb hby at_507) rfl rfl ?_
    refine XS.iconst H hx rfl (hb hby at_508) ?_
    refine XS.bipush H hx rfl (hb hby at_509) ?_
    exact kt
  refine Jvm.Q9.Aim.stC (x := (115 : Int32)) (j := (4 : Int32)) zv hx hZ zx ⟨by decide, by decide⟩ 4 rfl (Nat.le_of_ble_eq_true rfl) (hb hby at_511) (lT Z0 (Nat.le_of_eq z4.symm)) (Jvm.Q9.nl_new P0.ltL (lT (Nat.le_refl _) (Nat.le_of_eq z4.symm))) ?_
  intro zz z10 z11 z12 z13
  have z14 : Keep h0 z10 [] := zy.trans z12 (allS (Or.inr (lT (Nat.le_refl _) (Nat.le_of_eq z4.symm))) all0)
  have H := z11.here
  refine Jvm.Q9.Aim.of (T' := zz) (g' := (mkF m 516 #[q0, q1, .val (.int p3), q3, q4, q5, q6, q7, q8, .val (.int tt), .val (.int ((p3 &&& (255 : Int32)).toUInt32.toUInt16.toUInt32.toInt32)), .unset, .unset, .unset, .unset, .unset, .unset, .unset, .unset, .unset] [(.int 32), (.int 5), (.ref z3), (.ref z3)])) (fun tgt kt => ?_) ?_
  · refine XS.dup H hx rfl (hb hby at_512) rfl rfl ?_
    refine XS.iconst H hx rfl (hb hby at_513) ?_
    refine XS.bipush H hx rfl (hb hby at_514) ?_
    exact kt
  refine Jvm.Q9.Aim.stC (x := (32 : Int32)) (j := (5 : Int32)) z11 hx hZ z13 ⟨by decide, by decide⟩ 5 rfl (Nat.le_of_ble_eq_true rfl) (hb hby at_516) (lT Z0 (Nat.le_of_eq z4.symm)) (Jvm.Q9.nl_new P0.ltL (lT (Nat.le_refl _) (Nat.le_of_eq z4.symm))) ?_
  intro z15 z16 z17 z18 z19
  have z1a : Keep h0 z16 [] := z14.trans z18 (allS (Or.inr (lT (Nat.le_refl _) (Nat.le_of_eq z4.symm))) all0)
  have H := z17.here
  refine Jvm.Q9.Aim.of (T' := z15) (g' := (mkF m 522 #[q0, q1, .val (.int p3), q3, q4, q5, q6, q7, q8, .val (.int tt), .val (.int ((p3 &&& (255 : Int32)).toUInt32.toUInt16.toUInt32.toInt32)), .unset, .unset, .unset, .unset, .unset, .unset, .unset, .unset, .unset] [(.int 115), (.int 6), (.ref z3), (.ref z3)])) (fun tgt kt => ?_) ?_
  · refine XS.dup H hx rfl (hb hby at_517) rfl rfl ?_
    refine XS.bipush H hx rfl (hb hby at_518) ?_
    refine XS.bipush H hx rfl (hb hby at_520) ?_
    exact kt
  refine Jvm.Q9.Aim.stC (x := (115 : Int32)) (j := (6 : Int32)) z17 hx hZ z19 ⟨by decide, by decide⟩ 6 rfl (Nat.le_of_ble_eq_true rfl) (hb hby at_522) (lT Z0 (Nat.le_of_eq z4.symm)) (Jvm.Q9.nl_new P0.ltL (lT (Nat.le_refl _) (Nat.le_of_eq z4.symm))) ?_
  intro z1b z1c z1d z1e z1f
  have z1g : Keep h0 z1c [] := z1a.trans z1e (allS (Or.inr (lT (Nat.le_refl _) (Nat.le_of_eq z4.symm))) all0)
  have H := z1d.here
  refine Jvm.Q9.Aim.of (T' := z1b) (g' := (mkF m 528 #[q0, q1, .val (.int p3), q3, q4, q5, q6, q7, q8, .val (.int tt), .val (.int ((p3 &&& (255 : Int32)).toUInt32.toUInt16.toUInt32.toInt32)), .unset, .unset, .unset, .unset, .unset, .unset, .unset, .unset, .unset] [(.int 117), (.int 7), (.ref z3), (.ref z3)])) (fun tgt kt => ?_) ?_
  · refine XS.dup H hx rfl (hb hby at_523) rfl rfl ?_
    refine XS.bipush H hx rfl (hb hby at_524) ?_
    refine XS.bipush H hx rfl (hb hby at_526) ?_
    exact kt
  refine Jvm.Q9.Aim.stC (x := (117 : Int32)) (j := (7 : Int32)) z1d hx hZ z1f ⟨by decide, by decide⟩ 7 rfl (Nat.le_of_ble_eq_true rfl) (hb hby at_528) (lT Z0 (Nat.le_of_eq z4.symm)) (Jvm.Q9.nl_new P0.ltL (lT (Nat.le_refl _) (Nat.le_of_eq z4.symm))) ?_
  intro z1h z1i z1j z1k z1l
  have z1m : Keep h0 z1i [] := z1g.trans z1k (allS (Or.inr (lT (Nat.le_refl _) (Nat.le_of_eq z4.symm))) all0)
  have H := z1j.here
  refine Jvm.Q9.Aim.of (T' := z1h) (g' := (mkF m 534 #[q0, q1, .val (.int p3), q3, q4, q5, q6, q7, q8, .val (.int tt), .val (.int ((p3 &&& (255 : Int32)).toUInt32.toUInt16.toUInt32.toInt32)), .unset, .unset, .unset, .unset, .unset, .unset, .unset, .unset, .unset] [(.int 110), (.int 8), (.ref z3), (.ref z3)])) (fun tgt kt => ?_) ?_
  · refine XS.dup H hx rfl (hb hby at_529) rfl rfl ?_
    refine XS.bipush H hx rfl (hb hby at_530) ?_
    refine XS.bipush H hx rfl (hb hby at_532) ?_
    exact kt
  refine Jvm.Q9.Aim.stC (x := (110 : Int32)) (j := (8 : Int32)) z1j hx hZ z1l ⟨by decide, by decide⟩ 8 rfl (Nat.le_of_ble_eq_true rfl) (hb hby at_534) (lT Z0 (Nat.le_of_eq z4.symm)) (Jvm.Q9.nl_new P0.ltL (lT (Nat.le_refl _) (Nat.le_of_eq z4.symm))) ?_
  intro z1n z1o z1p z1q z1r
  have z1s : Keep h0 z1o [] := z1m.trans z1q (allS (Or.inr (lT (Nat.le_refl _) (Nat.le_of_eq z4.symm))) all0)
  have H := z1p.here
  refine Jvm.Q9.Aim.of (T' := z1n) (g' := (mkF m 540 #[q0, q1, .val (.int p3), q3, q4, q5, q6, q7, q8, .val (.int tt), .val (.int ((p3 &&& (255 : Int32)).toUInt32.toUInt16.toUInt32.toInt32)), .unset, .unset, .unset, .unset, .unset, .unset, .unset, .unset, .unset] [(.int 110), (.int 9), (.ref z3), (.ref z3)])) (fun tgt kt => ?_) ?_
  · refine XS.dup H hx rfl (hb hby at_535) rfl rfl ?_
    refine XS.bipush H hx rfl (hb hby at_536) ?_
    refine XS.bipush H hx rfl (hb hby at_538) ?_
    exact kt
  refine Jvm.Q9.Aim.stC (x := (110 : Int32)) (j := (9 : Int32)) z1p hx hZ z1r ⟨by decide, by decide⟩ 9 rfl (Nat.le_of_ble_eq_true rfl) (hb hby at_540) (lT Z0 (Nat.le_of_eq z4.symm)) (Jvm.Q9.nl_new P0.ltL (lT (Nat.le_refl _) (Nat.le_of_eq z4.symm))) ?_
  intro z1t z1u z1v z1w z1x
  have z1y : Keep h0 z1u [] := z1s.trans z1w (allS (Or.inr (lT (Nat.le_refl _) (Nat.le_of_eq z4.symm))) all0)
  have H := z1v.here
  refine Jvm.Q9.Aim.of (T' := z1t) (g' := (mkF m 546 #[q0, q1, .val (.int p3), q3, q4, q5, q6, q7, q8, .val (.int tt), .val (.int ((p3 &&& (255 : Int32)).toUInt32.toUInt16.toUInt32.toInt32)), .unset, .unset, .unset, .unset, .unset, .unset, .unset, .unset, .unset] [(.int 121), (.int 10), (.ref z3), (.ref z3)])) (fun tgt kt => ?_) ?_
  · refine XS.dup H hx rfl (hb hby at_541) rfl rfl ?_
    refine XS.bipush H hx rfl (hb hby at_542) ?_
    refine XS.bipush H hx rfl (hb hby at_544) ?_
    exact kt
  refine Jvm.Q9.Aim.stC (x := (121 : Int32)) (j := (10 : Int32)) z1v hx hZ z1x ⟨by decide, by decide⟩ 10 rfl (Nat.le_of_ble_eq_true rfl) (hb hby at_546) (lT Z0 (Nat.le_of_eq z4.symm)) (Jvm.Q9.nl_new P0.ltL (lT (Nat.le_refl _) (Nat.le_of_eq z4.symm))) ?_
  intro z1z z20 z21 z22 z23
  have z24 : Keep h0 z20 [] := z1y.trans z22 (allS (Or.inr (lT (Nat.le_refl _) (Nat.le_of_eq z4.symm))) all0)
  have H := z21.here
  refine Jvm.Q9.Aim.of (T' := z1z) (g' := (mkF m 552 #[q0, q1, .val (.int p3), q3, q4, q5, q6, q7, q8, .val (.int tt), .val (.int ((p3 &&& (255 : Int32)).toUInt32.toUInt16.toUInt32.toInt32)), .unset, .unset, .unset, .unset, .unset, .unset, .unset, .unset, .unset] [(.int 32), (.int 11), (.ref z3), (.ref z3)])) (fun tgt kt => ?_) ?_
  · refine XS.dup H hx rfl (hb hby at_547) rfl rfl ?_
    refine XS.bipush H hx rfl (hb hby at_548) ?_
    refine XS.bipush H hx rfl (hb hby at_550) ?_
    exact kt
  refine Jvm.Q9.Aim.stC (x := (32 : Int32)) (j := (11 : Int32)) z21 hx hZ z23 ⟨by decide, by decide⟩ 11 rfl (Nat.le_of_ble_eq_true rfl) (hb hby at_552) (lT Z0 (Nat.le_of_eq z4.symm)) (Jvm.Q9.nl_new P0.ltL (lT (Nat.le_refl _) (Nat.le_of_eq z4.symm))) ?_
  intro z25 z26 z27 z28 z29
  have z2a : Keep h0 z26 [] := z24.trans z28 (allS (Or.inr (lT (Nat.le_refl _) (Nat.le_of_eq z4.symm))) all0)
  have H := z27.here
  refine Jvm.Q9.Aim.of (T' := z25) (g' := (mkF m 558 #[q0, q1, .val (.int p3), q3, q4, q5, q6, q7, q8, .val (.int tt), .val (.int ((p3 &&& (255 : Int32)).toUInt32.toUInt16.toUInt32.toInt32)), .unset, .unset, .unset, .unset, .unset, .unset, .unset, .unset, .unset] [(.int 105), (.int 12), (.ref z3), (.ref z3)])) (fun tgt kt => ?_) ?_
  · refine XS.dup H hx rfl (hb hby at_553) rfl rfl ?_
    refine XS.bipush H hx rfl (hb hby at_554) ?_
    refine XS.bipush H hx rfl (hb hby at_556) ?_
    exact kt
  refine Jvm.Q9.Aim.stC (x := (105 : Int32)) (j := (12 : Int32)) z27 hx hZ z29 ⟨by decide, by decide⟩ 12 rfl (Nat.le_of_ble_eq_true rfl) (hb hby at_558) (lT Z0 (Nat.le_of_eq z4.symm)) (Jvm.Q9.nl_new P0.ltL (lT (Nat.le_refl _) (Nat.le_of_eq z4.symm))) ?_
  intro z2b z2c z2d z2e z2f
  have z2g : Keep h0 z2c [] := z2a.trans z2e (allS (Or.inr (lT (Nat.le_refl _) (Nat.le_of_eq z4.symm))) all0)
  have H := z2d.here
  refine Jvm.Q9.Aim.of (T' := z2b) (g' := (mkF m 564 #[q0, q1, .val (.int p3), q3, q4, q5, q6, q7, q8, .val (.int tt), .val (.int ((p3 &&& (255 : Int32)).toUInt32.toUInt16.toUInt32.toInt32)), .unset, .unset, .unset, .unset, .unset, .unset, .unset, .unset, .unset] [(.int 110), (.int 13), (.ref z3), (.ref z3)])) (fun tgt kt => ?_) ?_
  · refine XS.dup H hx rfl (hb hby at_559) rfl rfl ?_
    refine XS.bipush H hx rfl (hb hby at_560) ?_
    refine XS.bipush H hx rfl (hb hby at_562) ?_
    exact kt
  refine Jvm.Q9.Aim.stC (x := (110 : Int32)) (j := (13 : Int32)) z2d hx hZ z2f ⟨by decide, by decide⟩ 13 rfl (Nat.le_of_ble_eq_true rfl) (hb hby at_564) (lT Z0 (Nat.le_of_eq z4.symm)) (Jvm.Q9.nl_new P0.ltL (lT (Nat.le_refl _) (Nat.le_of_eq z4.symm))) ?_
  intro z2h z2i z2j z2k z2l
  have z2m : Keep h0 z2i [] := z2g.trans z2k (allS (Or.inr (lT (Nat.le_refl _) (Nat.le_of_eq z4.symm))) all0)
  have H := z2j.here
  refine Jvm.Q9.Aim.of (T' := z2h) (g' := (mkF m 570 #[q0, q1, .val (.int p3), q3, q4, q5, q6, q7, q8, .val (.int tt), .val (.int ((p3 &&& (255 : Int32)).toUInt32.toUInt16.toUInt32.toInt32)), .unset, .unset, .unset, .unset, .unset, .unset, .unset, .unset, .unset] [(.int 32), (.int 14), (.ref z3), (.ref z3)])) (fun tgt kt => ?_) ?_
  · refine XS.dup H hx rfl (hb hby at_565) rfl rfl ?_
    refine XS.bipush H hx rfl (hb hby at_566) ?_
    refine XS.bipush H hx rfl (hb hby at_568) ?_
    exact kt
  refine Jvm.Q9.Aim.stC (x := (32 : Int32)) (j := (14 : Int32)) z2j hx hZ z2l ⟨by decide, by decide⟩ 14 rfl (Nat.le_of_ble_eq_true rfl) (hb hby at_570) (lT Z0 (Nat.le_of_eq z4.symm)) (Jvm.Q9.nl_new P0.ltL (lT (Nat.le_refl _) (Nat.le_of_eq z4.symm))) ?_
  intro z2n z2o z2p z2q z2r
  have z2s : Keep h0 z2o [] := z2m.trans z2q (allS (Or.inr (lT (Nat.le_refl _) (Nat.le_of_eq z4.symm))) all0)
  have H := z2p.here
  refine Jvm.Q9.Aim.of (T' := z2n) (g' := (mkF m 576 #[q0, q1, .val (.int p3), q3, q4, q5, q6, q7, q8, .val (.int tt), .val (.int ((p3 &&& (255 : Int32)).toUInt32.toUInt16.toUInt32.toInt32)), .unset, .unset, .unset, .unset, .unset, .unset, .unset, .unset, .unset] [(.int 80), (.int 15), (.ref z3), (.ref z3)])) (fun tgt kt => ?_) ?_
  · refine XS.dup H hx rfl (hb hby at_571) rfl rfl ?_
    refine XS.bipush H hx rfl (hb hby at_572) ?_
    refine XS.bipush H hx rfl (hb hby at_574) ?_
    exact kt
  refine Jvm.Q9.Aim.stC (x := (80 : Int32)) (j := (15 : Int32)) z2p hx hZ z2r ⟨by decide, by decide⟩ 15 rfl (Nat.le_of_ble_eq_true rfl) (hb hby at_576) (lT Z0 (Nat.le_of_eq z4.symm)) (Jvm.Q9.nl_new P0.ltL (lT (Nat.le_refl _) (Nat.le_of_eq z4.symm))) ?_
  intro z2t z2u z2v z2w z2x
  have z2y : Keep h0 z2u [] := z2s.trans z2w (allS (Or.inr (lT (Nat.le_refl _) (Nat.le_of_eq z4.symm))) all0)
  have H := z2v.here
  refine Jvm.Q9.Aim.of (T' := z2t) (g' := (mkF m 582 #[q0, q1, .val (.int p3), q3, q4, q5, q6, q7, q8, .val (.int tt), .val (.int ((p3 &&& (255 : Int32)).toUInt32.toUInt16.toUInt32.toInt32)), .unset, .unset, .unset, .unset, .unset, .unset, .unset, .unset, .unset] [(.int 97), (.int 16), (.ref z3), (.ref z3)])) (fun tgt kt => ?_) ?_
  · refine XS.dup H hx rfl (hb hby at_577) rfl rfl ?_
    refine XS.bipush H hx rfl (hb hby at_578) ?_
    refine XS.bipush H hx rfl (hb hby at_580) ?_
    exact kt
  refine Jvm.Q9.Aim.stC (x := (97 : Int32)) (j := (16 : Int32)) z2v hx hZ z2x ⟨by decide, by decide⟩ 16 rfl (Nat.le_of_ble_eq_true rfl) (hb hby at_582) (lT Z0 (Nat.le_of_eq z4.symm)) (Jvm.Q9.nl_new P0.ltL (lT (Nat.le_refl _) (Nat.le_of_eq z4.symm))) ?_
  intro z2z z30 z31 z32 z33
  have z34 : Keep h0 z30 [] := z2y.trans z32 (allS (Or.inr (lT (Nat.le_refl _) (Nat.le_of_eq z4.symm))) all0)
  have H := z31.here
  refine Jvm.Q9.Aim.of (T' := z2z) (g' := (mkF m 588 #[q0, q1, .val (.int p3), q3, q4, q5, q6, q7, q8, .val (.int tt), .val (.int ((p3 &&& (255 : Int32)).toUInt32.toUInt16.toUInt32.toInt32)), .unset, .unset, .unset, .unset, .unset, .unset, .unset, .unset, .unset] [(.int 114), (.int 17), (.ref z3), (.ref z3)])) (fun tgt kt => ?_) ?_
  · refine XS.dup H hx rfl (hb hby at_583) rfl rfl ?_
    refine XS.bipush H hx rfl (hb hby at_584) ?_
    refine XS.bipush H hx rfl (hb hby at_586) ?_
    exact kt
  refine Jvm.Q9.Aim.stC (x := (114 : Int32)) (j := (17 : Int32)) z31 hx hZ z33 ⟨by decide, by decide⟩ 17 rfl (Nat.le_of_ble_eq_true rfl) (hb hby at_588) (lT Z0 (Nat.le_of_eq z4.symm)) (Jvm.Q9.nl_new P0.ltL (lT (Nat.le_refl _) (Nat.le_of_eq z4.symm))) ?_
  intro z35 z36 z37 z38 z39
  have z3a : Keep h0 z36 [] := z34.trans z38 (allS (Or.inr (lT (Nat.le_refl _) (Nat.le_of_eq z4.symm))) all0)
  have H := z37.here
  refine Jvm.Q9.Aim.of (T' := z35) (g' := (mkF m 594 #[q0, q1, .val (.int p3), q3, q4, q5, q6, q7, q8, .val (.int tt), .val (.int ((p3 &&& (255 : Int32)).toUInt32.toUInt16.toUInt32.toInt32)), .unset, .unset, .unset, .unset, .unset, .unset, .unset, .unset, .unset] [(.int 105), (.int 18), (.ref z3), (.ref z3)])) (fun tgt kt => ?_) ?_
  · refine XS.dup H hx rfl (hb hby at_589) rfl rfl ?_
    refine XS.bipush H hx rfl (hb hby at_590) ?_
    refine XS.bipush H hx rfl (hb hby at_592) ?_
    exact kt
  refine Jvm.Q9.Aim.stC (x := (105 : Int32)) (j := (18 : Int32)) z37 hx hZ z39 ⟨by decide, by decide⟩ 18 rfl (Nat.le_of_ble_eq_true rfl) (hb hby at_594) (lT Z0 (Nat.le_of_eq z4.symm)) (Jvm.Q9.nl_new P0.ltL (lT (Nat.le_refl _) (Nat.le_of_eq z4.symm))) ?_
  intro z3b z3c z3d z3e z3f
  have z3g : Keep h0 z3c [] := z3a.trans z3e (allS (Or.inr (lT (Nat.le_refl _) (Nat.le_of_eq z4.symm))) all0)
  have H := z3d.here
  refine Jvm.Q9.Aim.of (T' := z3b) (g' := (mkF m 600 #[q0, q1, .val (.int p3), q3, q4, q5, q6, q7, q8, .val (.int tt), .val (.int ((p3 &&& (255 : Int32)).toUInt32.toUInt16.toUInt32.toInt32)), .unset, .unset, .unset, .unset, .unset, .unset, .unset, .unset, .unset] [(.int 115), (.int 19), (.ref z3), (.ref z3)])) (fun tgt kt => ?_) ?_
  · refine XS.dup H hx rfl (hb hby at_595) rfl rfl ?_
    refine XS.bipush H hx rfl (hb hby at_596) ?_
    refine XS.bipush H hx rfl (hb hby at_598) ?_
    exact kt
  refine Jvm.Q9.Aim.stC (x := (115 : Int32)) (j := (19 : Int32)) z3d hx hZ z3f ⟨by decide, by decide⟩ 19 rfl (Nat.le_of_ble_eq_true rfl) (hb hby at_600) (lT Z0 (Nat.le_of_eq z4.symm)) (Jvm.Q9.nl_new P0.ltL (lT (Nat.le_refl _) (Nat.le_of_eq z4.symm))) ?_
  intro z3h z3i z3j z3k z3l
  have z3m : Keep h0 z3i [] := z3g.trans z3k (allS (Or.inr (lT (Nat.le_refl _) (Nat.le_of_eq z4.symm))) all0)
  have H := z3j.here
  refine Jvm.Q9.Aim.of (T' := z3h) (g' := (mkF m 606 #[q0, q1, .val (.int p3), q3, q4, q5, q6, q7, q8, .val (.int tt), .val (.int ((p3 &&& (255 : Int32)).toUInt32.toUInt16.toUInt32.toInt32)), .unset, .unset, .unset, .unset, .unset, .unset, .unset, .unset, .unset] [(.int 44), (.int 20), (.ref z3), (.ref z3)])) (fun tgt kt => ?_) ?_
  · refine XS.dup H hx rfl (hb hby at_601) rfl rfl ?_
    refine XS.bipush H hx rfl (hb hby at_602) ?_
    refine XS.bipush H hx rfl (hb hby at_604) ?_
    exact kt
  refine Jvm.Q9.Aim.stC (x := (44 : Int32)) (j := (20 : Int32)) z3j hx hZ z3l ⟨by decide, by decide⟩ 20 rfl (Nat.le_of_ble_eq_true rfl) (hb hby at_606) (lT Z0 (Nat.le_of_eq z4.symm)) (Jvm.Q9.nl_new P0.ltL (lT (Nat.le_refl _) (Nat.le_of_eq z4.symm))) ?_
  intro z3n z3o z3p z3q z3r
  have z3s : Keep h0 z3o [] := z3m.trans z3q (allS (Or.inr (lT (Nat.le_refl _) (Nat.le_of_eq z4.symm))) all0)
  have H := z3p.here
  refine Jvm.Q9.Aim.of (T' := z3n) (g' := (mkF m 612 #[q0, q1, .val (.int p3), q3, q4, q5, q6, q7, q8, .val (.int tt), .val (.int ((p3 &&& (255 : Int32)).toUInt32.toUInt16.toUInt32.toInt32)), .unset, .unset, .unset, .unset, .unset, .unset, .unset, .unset, .unset] [(.int 32), (.int 21), (.ref z3), (.ref z3)])) (fun tgt kt => ?_) ?_
  · refine XS.dup H hx rfl (hb hby at_607) rfl rfl ?_
    refine XS.bipush H hx rfl (hb hby at_608) ?_
    refine XS.bipush H hx rfl (hb hby at_610) ?_
    exact kt
  refine Jvm.Q9.Aim.stC (x := (32 : Int32)) (j := (21 : Int32)) z3p hx hZ z3r ⟨by decide, by decide⟩ 21 rfl (Nat.le_of_ble_eq_true rfl) (hb hby at_612) (lT Z0 (Nat.le_of_eq z4.symm)) (Jvm.Q9.nl_new P0.ltL (lT (Nat.le_refl _) (Nat.le_of_eq z4.symm))) ?_
  intro z3t z3u z3v z3w z3x
  have z3y : Keep h0 z3u [] := z3s.trans z3w (allS (Or.inr (lT (Nat.le_refl _) (Nat.le_of_eq z4.symm))) all0)
  have H := z3v.here
  refine Jvm.Q9.Aim.of (T' := z3t) (g' := (mkF m 618 #[q0, q1, .val (.int p3), q3, q4, q5, q6, q7, q8, .val (.int tt), .val (.int ((p3 &&& (255 : Int32)).toUInt32.toUInt16.toUInt32.toInt32)), .unset, .unset, .unset, .unset, .unset, .unset, .unset, .unset, .unset] [(.int 50), (.int 22), (.ref z3), (.ref z3)])) (fun tgt kt => ?_) ?_
  · refine XS.dup H hx rfl (hb hby at_613) rfl rfl ?_
    refine XS.bipush H hx rfl (hb hby at_614) ?_
    refine XS.bipush H hx rfl (hb hby at_616) ?_
    exact kt
  refine Jvm.Q9.Aim.stC (x := (50 : Int32)) (j := (22 : Int32)) z3v hx hZ z3x ⟨by decide, by decide⟩ 22 rfl (Nat.le_of_ble_eq_true rfl) (hb hby at_618) (lT Z0 (Nat.le_of_eq z4.symm)) (Jvm.Q9.nl_new P0.ltL (lT (Nat.le_refl _) (Nat.le_of_eq z4.symm))) ?_
  intro z3z z40 z41 z42 z43
  have z44 : Keep h0 z40 [] := z3y.trans z42 (allS (Or.inr (lT (Nat.le_refl _) (Nat.le_of_eq z4.symm))) all0)
  have H := z41.here
  refine Jvm.Q9.Aim.of (T' := z3z) (g' := (mkF m 624 #[q0, q1, .val (.int p3), q3, q4, q5, q6, q7, q8, .val (.int tt), .val (.int ((p3 &&& (255 : Int32)).toUInt32.toUInt16.toUInt32.toInt32)), .unset, .unset, .unset, .unset, .unset, .unset, .unset, .unset, .unset] [(.int 49), (.int 23), (.ref z3), (.ref z3)])) (fun tgt kt => ?_) ?_
  · refine XS.dup H hx rfl (hb hby at_619) rfl rfl ?_
    refine XS.bipush H hx rfl (hb hby at_620) ?_
    refine XS.bipush H hx rfl (hb hby at_622) ?_
    exact kt
  refine Jvm.Q9.Aim.stC (x := (49 : Int32)) (j := (23 : Int32)) z41 hx hZ z43 ⟨by decide, by decide⟩ 23 rfl (Nat.le_of_ble_eq_true rfl) (hb hby at_624) (lT Z0 (Nat.le_of_eq z4.symm)) (Jvm.Q9.nl_new P0.ltL (lT (Nat.le_refl _) (Nat.le_of_eq z4.symm))) ?_
  intro z45 z46 z47 z48 z49
  have z4a : Keep h0 z46 [] := z44.trans z48 (allS (Or.inr (lT (Nat.le_refl _) (Nat.le_of_eq z4.symm))) all0)
  have H := z47.here
  refine Jvm.Q9.Aim.of (T' := z45) (g' := (mkF m 630 #[q0, q1, .val (.int p3), q3, q4, q5, q6, q7, q8, .val (.int tt), .val (.int ((p3 &&& (255 : Int32)).toUInt32.toUInt16.toUInt32.toInt32)), .unset, .unset, .unset, .unset, .unset, .unset, .unset, .unset, .unset] [(.int 32), (.int 24), (.ref z3), (.ref z3)])) (fun tgt kt => ?_) ?_
  · refine XS.dup H hx rfl (hb hby at_625) rfl rfl ?_
    refine XS.bipush H hx rfl (hb hby at_626) ?_
    refine XS.bipush H hx rfl (hb hby at_628) ?_
    exact kt
  refine Jvm.Q9.Aim.stC (x := (32 : Int32)) (j := (24 : Int32)) z47 hx hZ z49 ⟨by decide, by decide⟩ 24 rfl (Nat.le_of_ble_eq_true rfl) (hb hby at_630) (lT Z0 (Nat.le_of_eq z4.symm)) (Jvm.Q9.nl_new P0.ltL (lT (Nat.le_refl _) (Nat.le_of_eq z4.symm))) ?_
  intro z4b z4c z4d z4e z4f
  have z4g : Keep h0 z4c [] := z4a.trans z4e (allS (Or.inr (lT (Nat.le_refl _) (Nat.le_of_eq z4.symm))) all0)
  have H := z4d.here
  refine Jvm.Q9.Aim.of (T' := z4b) (g' := (mkF m 636 #[q0, q1, .val (.int p3), q3, q4, q5, q6, q7, q8, .val (.int tt), .val (.int ((p3 &&& (255 : Int32)).toUInt32.toUInt16.toUInt32.toInt32)), .unset, .unset, .unset, .unset, .unset, .unset, .unset, .unset, .unset] [(.int 100), (.int 25), (.ref z3), (.ref z3)])) (fun tgt kt => ?_) ?_
  · refine XS.dup H hx rfl (hb hby at_631) rfl rfl ?_
    refine XS.bipush H hx rfl (hb hby at_632) ?_
    refine XS.bipush H hx rfl (hb hby at_634) ?_
    exact kt
  refine Jvm.Q9.Aim.stC (x := (100 : Int32)) (j := (25 : Int32)) z4d hx hZ z4f ⟨by decide, by decide⟩ 25 rfl (Nat.le_of_ble_eq_true rfl) (hb hby at_636) (lT Z0 (Nat.le_of_eq z4.symm)) (Jvm.Q9.nl_new P0.ltL (lT (Nat.le_refl _) (Nat.le_of_eq z4.symm))) ?_
  intro z4h z4i z4j z4k z4l
  have z4m : Keep h0 z4i [] := z4g.trans z4k (allS (Or.inr (lT (Nat.le_refl _) (Nat.le_of_eq z4.symm))) all0)
  have H := z4j.here
  refine Jvm.Q9.Aim.of (T' := z4h) (g' := (mkF m 642 #[q0, q1, .val (.int p3), q3, q4, q5, q6, q7, q8, .val (.int tt), .val (.int ((p3 &&& (255 : Int32)).toUInt32.toUInt16.toUInt32.toInt32)), .unset, .unset, .unset, .unset, .unset, .unset, .unset, .unset, .unset] [(.int 101), (.int 26), (.ref z3), (.ref z3)])) (fun tgt kt => ?_) ?_
  · refine XS.dup H hx rfl (hb hby at_637) rfl rfl ?_
    refine XS.bipush H hx rfl (hb hby at_638) ?_
    refine XS.bipush H hx rfl (hb hby at_640) ?_
    exact kt
  refine Jvm.Q9.Aim.stC (x := (101 : Int32)) (j := (26 : Int32)) z4j hx hZ z4l ⟨by decide, by decide⟩ 26 rfl (Nat.le_of_ble_eq_true rfl) (hb hby at_642) (lT Z0 (Nat.le_of_eq z4.symm)) (Jvm.Q9.nl_new P0.ltL (lT (Nat.le_refl _) (Nat.le_of_eq z4.symm))) ?_
  intro z4n z4o z4p z4q z4r
  have z4s : Keep h0 z4o [] := z4m.trans z4q (allS (Or.inr (lT (Nat.le_refl _) (Nat.le_of_eq z4.symm))) all0)
  have H := z4p.here
  refine Jvm.Q9.Aim.of (T' := z4n) (g' := (mkF m 648 #[q0, q1, .val (.int p3), q3, q4, q5, q6, q7, q8, .val (.int tt), .val (.int ((p3 &&& (255 : Int32)).toUInt32.toUInt16.toUInt32.toInt32)), .unset, .unset, .unset, .unset, .unset, .unset, .unset, .unset, .unset] [(.int 103), (.int 27), (.ref z3), (.ref z3)])) (fun tgt kt => ?_) ?_
  · refine XS.dup H hx rfl (hb hby at_643) rfl rfl ?_
    refine XS.bipush H hx rfl (hb hby at_644) ?_
    refine XS.bipush H hx rfl (hb hby at_646) ?_
    exact kt
  refine Jvm.Q9.Aim.stC (x := (103 : Int32)) (j := (27 : Int32)) z4p hx hZ z4r ⟨by decide, by decide⟩ 27 rfl (Nat.le_of_ble_eq_true rfl) (hb hby at_648) (lT Z0 (Nat.le_of_eq z4.symm)) (Jvm.Q9.nl_new P0.ltL (lT (Nat.le_refl _) (Nat.le_of_eq z4.symm))) ?_
  intro z4t z4u z4v z4w z4x
  have z4y : Keep h0 z4u [] := z4s.trans z4w (allS (Or.inr (lT (Nat.le_refl _) (Nat.le_of_eq z4.symm))) all0)
  have H := z4v.here
  refine Jvm.Q9.Aim.of (T' := z4t) (g' := (mkF m 654 #[q0, q1, .val (.int p3), q3, q4, q5, q6, q7, q8, .val (.int tt), .val (.int ((p3 &&& (255 : Int32)).toUInt32.toUInt16.toUInt32.toInt32)), .unset, .unset, .unset, .unset, .unset, .unset, .unset, .unset, .unset] [(.int 114), (.int 28), (.ref z3), (.ref z3)])) (fun tgt kt => ?_) ?_
  · refine XS.dup H hx rfl (hb hby at_649) rfl rfl ?_
    refine XS.bipush H hx rfl (hb hby at_650) ?_
    refine XS.bipush H hx rfl (hb hby at_652) ?_
    exact kt
  refine Jvm.Q9.Aim.stC (x := (114 : Int32)) (j := (28 : Int32)) z4v hx hZ z4x ⟨by decide, by decide⟩ 28 rfl (Nat.le_of_ble_eq_true rfl) (hb hby at_654) (lT Z0 (Nat.le_of_eq z4.symm)) (Jvm.Q9.nl_new P0.ltL (lT (Nat.le_refl _) (Nat.le_of_eq z4.symm))) ?_
  intro z4z z50 z51 z52 z53
  have z54 : Keep h0 z50 [] := z4y.trans z52 (allS (Or.inr (lT (Nat.le_refl _) (Nat.le_of_eq z4.symm))) all0)
  have H := z51.here
  refine Jvm.Q9.Aim.of (T' := z4z) (g' := (mkF m 660 #[q0, q1, .val (.int p3), q3, q4, q5, q6, q7, q8, .val (.int tt), .val (.int ((p3 &&& (255 : Int32)).toUInt32.toUInt16.toUInt32.toInt32)), .unset, .unset, .unset, .unset, .unset, .unset, .unset, .unset, .unset] [(.int 101), (.int 29), (.ref z3), (.ref z3)])) (fun tgt kt => ?_) ?_
  · refine XS.dup H hx rfl (hb hby at_655) rfl rfl ?_
    refine XS.bipush H hx rfl (hb hby at_656) ?_
    refine XS.bipush H hx rfl (hb hby at_658) ?_
    exact kt
  refine Jvm.Q9.Aim.stC (x := (101 : Int32)) (j := (29 : Int32)) z51 hx hZ z53 ⟨by decide, by decide⟩ 29 rfl (Nat.le_of_ble_eq_true rfl) (hb hby at_660) (lT Z0 (Nat.le_of_eq z4.symm)) (Jvm.Q9.nl_new P0.ltL (lT (Nat.le_refl _) (Nat.le_of_eq z4.symm))) ?_
  intro z55 z56 z57 z58 z59
  have z5a : Keep h0 z56 [] := z54.trans z58 (allS (Or.inr (lT (Nat.le_refl _) (Nat.le_of_eq z4.symm))) all0)
  have H := z57.here
  refine Jvm.Q9.Aim.of (T' := z55) (g' := (mkF m 666 #[q0, q1, .val (.int p3), q3, q4, q5, q6, q7, q8, .val (.int tt), .val (.int ((p3 &&& (255 : Int32)).toUInt32.toUInt16.toUInt32.toInt32)), .unset, .unset, .unset, .unset, .unset, .unset, .unset, .unset, .unset] [(.int 101), (.int 30), (.ref z3), (.ref z3)])) (fun tgt kt => ?_) ?_
  · refine XS.dup H hx rfl (hb hby at_661) rfl rfl ?_
    refine XS.bipush H hx rfl (hb hby at_662) ?_
    refine XS.bipush H hx rfl (hb hby at_664) ?_
    exact kt
  refine Jvm.Q9.Aim.stC (x := (101 : Int32)) (j := (30 : Int32)) z57 hx hZ z59 ⟨by decide, by decide⟩ 30 rfl (Nat.le_of_ble_eq_true rfl) (hb hby at_666) (lT Z0 (Nat.le_of_eq z4.symm)) (Jvm.Q9.nl_new P0.ltL (lT (Nat.le_refl _) (Nat.le_of_eq z4.symm))) ?_
  intro z5b z5c z5d z5e z5f
  have z5g : Keep h0 z5c [] := z5a.trans z5e (allS (Or.inr (lT (Nat.le_refl _) (Nat.le_of_eq z4.symm))) all0)
  have H := z5d.here
  refine Jvm.Q9.Aim.of (T' := z5b) (g' := (mkF m 672 #[q0, q1, .val (.int p3), q3, q4, q5, q6, q7, q8, .val (.int tt), .val (.int ((p3 &&& (255 : Int32)).toUInt32.toUInt16.toUInt32.toInt32)), .unset, .unset, .unset, .unset, .unset, .unset, .unset, .unset, .unset] [(.int 115), (.int 31), (.ref z3), (.ref z3)])) (fun tgt kt => ?_) ?_
  · refine XS.dup H hx rfl (hb hby at_667) rfl rfl ?_
    refine XS.bipush H hx rfl (hb hby at_668) ?_
    refine XS.bipush H hx rfl (hb hby at_670) ?_
    exact kt
  refine Jvm.Q9.Aim.stC (x := (115 : Int32)) (j := (31 : Int32)) z5d hx hZ z5f ⟨by decide, by decide⟩ 31 rfl (Nat.le_of_ble_eq_true rfl) (hb hby at_672) (lT Z0 (Nat.le_of_eq z4.symm)) (Jvm.Q9.nl_new P0.ltL (lT (Nat.le_refl _) (Nat.le_of_eq z4.symm))) ?_
  intro z5h z5i z5j z5k z5l
  have z5m : Keep h0 z5i [] := z5g.trans z5k (allS (Or.inr (lT (Nat.le_refl _) (Nat.le_of_eq z4.symm))) all0)
  have H := z5j.here
  refine Jvm.Q9.Aim.of (T' := z5h) (g' := (mkF m 678 #[q0, q1, .val (.int p3), q3, q4, q5, q6, q7, q8, .val (.int tt), .val (.int ((p3 &&& (255 : Int32)).toUInt32.toUInt16.toUInt32.toInt32)), .unset, .unset, .unset, .unset, .unset, .unset, .unset, .unset, .unset] [(.int 46), (.int 32), (.ref z3), (.ref z3)])) (fun tgt kt => ?_) ?_
  · refine XS.dup H hx rfl (hb hby at_673) rfl rfl ?_
    refine XS.bipush H hx rfl (hb hby at_674) ?_
    refine XS.bipush H hx rfl (hb hby at_676) ?_
    exact kt
  refine Jvm.Q9.Aim.stC (x := (46 : Int32)) (j := (32 : Int32)) z5j hx hZ z5l ⟨by decide, by decide⟩ 32 rfl (Nat.le_of_ble_eq_true rfl) (hb hby at_678) (lT Z0 (Nat.le_of_eq z4.symm)) (Jvm.Q9.nl_new P0.ltL (lT (Nat.le_refl _) (Nat.le_of_eq z4.symm))) ?_
  intro z5n z5o z5p z5q z5r
  have z5s : Keep h0 z5o [] := z5m.trans z5q (allS (Or.inr (lT (Nat.le_refl _) (Nat.le_of_eq z4.symm))) all0)
  have H := z5p.here
  refine Jvm.Q9.Aim.of (T' := z5n) (g' := (mkF m 684 #[q0, q1, .val (.int p3), q3, q4, q5, q6, q7, q8, .val (.int tt), .val (.int ((p3 &&& (255 : Int32)).toUInt32.toUInt16.toUInt32.toInt32)), .unset, .unset, .unset, .unset, .unset, .unset, .unset, .unset, .unset] [(.int ((p3 &&& (255 : Int32)).toUInt32.toUInt16.toUInt32.toInt32)), (.int 33), (.ref z3), (.ref z3)])) (fun tgt kt => ?_) ?_
  · refine XS.dup H hx rfl (hb hby at_679) rfl rfl ?_
    refine XS.bipush H hx rfl (hb hby at_680) ?_
    refine XS.iload H hx rfl (hb hby at_682) rfl ?_
    exact kt
  refine Jvm.Q9.Aim.stC (x := ((p3 &&& (255 : Int32)).toUInt32.toUInt16.toUInt32.toInt32)) (j := (33 : Int32)) z5p hx hZ z5r ⟨by decide, by decide⟩ 33 rfl (Nat.le_of_ble_eq_true rfl) (hb hby at_684) (lT Z0 (Nat.le_of_eq z4.symm)) (Jvm.Q9.nl_new P0.ltL (lT (Nat.le_refl _) (Nat.le_of_eq z4.symm))) ?_
  intro z5t z5u z5v z5w z5x
  replace z5x : Arv Z z5u z3 z2 .char (34 : Int32) [(.int (nar .char 73)), (.int (nar .char 116)), (.int (nar .char 32)), (.int (nar .char 105)), (.int (nar .char 115)), (.int (nar .char 32)), (.int (nar .char 115)), (.int (nar .char 117)), (.int (nar .char 110)), (.int (nar .char 110)), (.int (nar .char 121)), (.int (nar .char 32)), (.int (nar .char 105)), (.int (nar .char 110)), (.int (nar .char 32)), (.int (nar .char 80)), (.int (nar .char 97)), (.int (nar .char 114)), (.int (nar .char 105)), (.int (nar .char 115)), (.int (nar .char 44)), (.int (nar .char 32)), (.int (nar .char 50)), (.int (nar .char 49)), (.int (nar .char 32)), (.int (nar .char 100)), (.int (nar .char 101)), (.int (nar .char 103)), (.int (nar .char 114)), (.int (nar .char 101)), (.int (nar .char 101)), (.int (nar .char 115)), (.int (nar .char 46)), (.int (nar .char ((p3 &&& (255 : Int32)).toUInt32.toUInt16.toUInt32.toInt32)))] (.int 0) := z5x
  have z5y : Keep h0 z5u [] := z5s.trans z5w (allS (Or.inr (lT (Nat.le_refl _) (Nat.le_of_eq z4.symm))) all0)
  have z5z : Arv Z z5u z3 z2 .char (34 : Int32) ((paris ++ [((p3 &&& (255 : Int32)).toUInt32.toUInt16.toUInt32.toInt32)]).map Value.int) (.int 0) := Jvm.Y9.arv_eq z5x (by rw [paris_eq, own_narC (own_char p3)]; rfl)
  have H := z5v.here
  refine Jvm.Q9.Aim.of (T' := z5t) (g' := (mkF m 687 #[q0, q1, .val (.int p3), q3, q4, q5, q6, q7, q8, .val (.int tt), .val (.int ((p3 &&& (255 : Int32)).toUInt32.toUInt16.toUInt32.toInt32)), .unset, .unset, .val (.ref z3), .unset, .unset, .unset, .unset, .unset, .unset] [])) (fun tgt kt => ?_) ?_
  · refine XS.astore H hx rfl (hb hby at_685) rfl rfl (l' := #[q0, q1, .val (.int p3), q3, q4, q5, q6, q7, q8, .val (.int tt), .val (.int ((p3 &&& (255 : Int32)).toUInt32.toUInt16.toUInt32.toInt32)), .unset, .unset, .val (.ref z3), .unset, .unset, .unset, .unset, .unset, .unset]) rfl ?_
    exact kt
  refine Jvm.Q9.Aim.newO z5v hx hZ hown (wI hw 2 rfl) (wI hw 3 rfl) (wI hw 4 rfl) (hb hby at_687) (by decide) (by decide) ?_
  intro z60 z61 z62 z63 z64 z65 z66 z67 z68
  have z69 : Keep z5u z61 [] := (Keep.refl _ _).ext z65
  have z6a : Keep h0 z61 [] := z5y.trans z69 all0
  have z6b : Fld Z z61 z62 "java/lang/String" "coder" "B" (.int 0) := z67 (Or.inr (wI hw 28 rfl)) (ty := .byte) (by decide)
  have z6c : Fld Z z61 z62 "java/lang/String" "value" "[B" .null := z67 (Or.inr (wI hw 30 rfl)) (ty := (.array .byte)) (by decide)
  have H := z64.here
  refine Jvm.Q9.Aim.of (T' := z60) (g' := (mkF m 693 #[q0, q1, .val (.int p3), q3, q4, q5, q6, q7, q8, .val (.int tt), .val (.int ((p3 &&& (255 : Int32)).toUInt32.toUInt16.toUInt32.toInt32)), .unset, .unset, .val (.ref z3), .unset, .unset, .unset, .unset, .unset, .unset] [(.ref z3), (.ref z62), (.ref z62)])) (fun tgt kt => ?_) ?_
  · refine XS.dup H hx rfl (hb hby at_690) rfl rfl ?_
    refine XS.aload H hx rfl (hb hby at_691) rfl rfl ?_
    exact kt
  have z6d : Arv Z z61 z3 z2 .char (34 : Int32) ((paris ++ [((p3 &&& (255 : Int32)).toUInt32.toUInt16.toUInt32.toInt32)]).map Value.int) (.int 0) := (z5z.keep z69 nin0)
  have z6e : Old Z n0 z61 := ((((((((((((((((((((((((((((((((((((F0.keep z8 all0).keep ze (allS (lT Z0 (Nat.le_of_eq z4.symm)) all0)).keep zk (allS (lT Z0 (Nat.le_of_eq z4.symm)) all0)).keep zq (allS (lT Z0 (Nat.le_of_eq z4.symm)) all0)).keep zw (allS (lT Z0 (Nat.le_of_eq z4.symm)) all0)).keep z12 (allS (lT Z0 (Nat.le_of_eq z4.symm)) all0)).keep z18 (allS (lT Z0 (Nat.le_of_eq z4.symm)) all0)).keep z1e (allS (lT Z0 (Nat.le_of_eq z4.symm)) all0)).keep z1k (allS (lT Z0 (Nat.le_of_eq z4.symm)) all0)).keep z1q (allS (lT Z0 (Nat.le_of_eq z4.symm)) all0)).keep z1w (allS (lT Z0 (Nat.le_of_eq z4.symm)) all0)).keep z22 (allS (lT Z0 (Nat.le_of_eq z4.symm)) all0)).keep z28 (allS (lT Z0 (Nat.le_of_eq z4.symm)) all0)).keep z2e (allS (lT Z0 (Nat.le_of_eq z4.symm)) all0)).keep z2k (allS (lT Z0 (Nat.le_of_eq z4.symm)) all0)).keep z2q (allS (lT Z0 (Nat.le_of_eq z4.symm)) all0)).keep z2w (allS (lT Z0 (Nat.le_of_eq z4.symm)) all0)).keep z32 (allS (lT Z0 (Nat.le_of_eq z4.symm)) all0)).keep z38 (allS (lT Z0 (Nat.le_of_eq z4.symm)) all0)).keep z3e (allS (lT Z0 (Nat.le_of_eq z4.symm)) all0)).keep z3k (allS (lT Z0 (Nat.le_of_eq z4.symm)) all0)).keep z3q (allS (lT Z0 (Nat.le_of_eq z4.symm)) all0)).keep z3w (allS (lT Z0 (Nat.le_of_eq z4.symm)) all0)).keep z42 (allS (lT Z0 (Nat.le_of_eq z4.symm)) all0)).keep z48 (allS (lT Z0 (Nat.le_of_eq z4.symm)) all0)).keep z4e (allS (lT Z0 (Nat.le_of_eq z4.symm)) all0)).keep z4k (allS (lT Z0 (Nat.le_of_eq z4.symm)) all0)).keep z4q (allS (lT Z0 (Nat.le_of_eq z4.symm)) all0)).keep z4w (allS (lT Z0 (Nat.le_of_eq z4.symm)) all0)).keep z52 (allS (lT Z0 (Nat.le_of_eq z4.symm)) all0)).keep z58 (allS (lT Z0 (Nat.le_of_eq z4.symm)) all0)).keep z5e (allS (lT Z0 (Nat.le_of_eq z4.symm)) all0)).keep z5k (allS (lT Z0 (Nat.le_of_eq z4.symm)) all0)).keep z5q (allS (lT Z0 (Nat.le_of_eq z4.symm)) all0)).keep z5w (allS (lT Z0 (Nat.le_of_eq z4.symm)) all0)).keep z69 all0)
  refine Jvm.Q9.Aim.callC (argsL := [(.ref z3)]) (rest := [(.ref z62)]) z64 hx hZ hml hown rfl (wI hw 5 rfl) (wI hw 6 rfl) (wI hw 7 rfl) (by decide) (fun vm0 hZ => own_newStr (s := s.setVm vm0) (W := 1) hZ (by decide) (by decide) hw z62 z3 z2 (paris ++ [((p3 &&& (255 : Int32)).toUInt32.toUInt16.toUInt32.toInt32)]) (34 : Int32) (.int 0) (.null) (.int 0) 34 z61 n0 (lT Z0 (z6a.1)) (lT (lT Z0 (z5y.1)) (Nat.le_of_eq z63.symm)) z66 z6c z6b z6d z6e (by rw [List.length_append, paris_len]; rfl) rfl (by decide) (by decide) (app_lo paris_in (fun c q => (List.mem_singleton.mp q) ▸ own_char p3)) G) (fun _ _ ⟨_, _, _, q, _, _⟩ => q) (allS (Jvm.Q9.nl_new P0.ltL (lT (z5y.1) (Nat.le_of_eq z63.symm))) all0) rfl pd__28_5bC_29V rfl (Nat.le_of_eq rfl) (hb hby at_693) (by decide) (by decide) ?_
  intro z6f z6g z6h z6i z6j
  obtain ⟨t_2172, kb_2173, rfl, z6k, z6l, z6m⟩ := z6j
  have z6n : Keep h0 z6g [] := z6a.trans z6k (allS (Or.inr (lT (z5y.1) (Nat.le_of_eq z63.symm))) all0)
  have H := z6i.here
  refine Jvm.Q9.Aim.of (T' := z6f) (g' := (mkF m 701 #[q0, q1, .val (.int p3), q3, q4, q5, q6, q7, q8, .val (.int tt), .val (.int ((p3 &&& (255 : Int32)).toUInt32.toUInt16.toUInt32.toInt32)), .val (.ref z62), .val (.int 0), .val (.ref z3), .unset, .unset, .unset, .unset, .unset, .unset] [])) (fun tgt kt => ?_) ?_
  · refine XS.astore H hx rfl (hb hby at_696) rfl rfl (l' := #[q0, q1, .val (.int p3), q3, q4, q5, q6, q7, q8, .val (.int tt), .val (.int ((p3 &&& (255 : Int32)).toUInt32.toUInt16.toUInt32.toInt32)), .val (.ref z62), .unset, .val (.ref z3), .unset, .unset, .unset, .unset, .unset, .unset]) rfl ?_
    refine XS.iconst H hx rfl (hb hby at_698) ?_
    refine XS.istore H hx rfl (hb hby at_699) rfl (l' := #[q0, q1, .val (.int p3), q3, q4, q5, q6, q7, q8, .val (.int tt), .val (.int ((p3 &&& (255 : Int32)).toUInt32.toUInt16.toUInt32.toInt32)), .val (.ref z62), .val (.int 0), .val (.ref z3), .unset, .unset, .unset, .unset, .unset, .unset]) rfl ?_
    exact kt
  have z6o : Old Z n0 z6g := (z6e.keep z6k (allS (lT (lT Z0 (z5y.1)) (Nat.le_of_eq z63.symm)) all0))
  exact (own_tA l Z a0 hw q0 q1 (.val (.int p3)) q3 q4 q5 q6 q7 q8 (.val (.int ((p3 &&& (255 : Int32)).toUInt32.toUInt16.toUInt32.toInt32))) (.val (.ref z3)) (.unset) (.unset) (.unset) (.unset) (.unset) (Or.inr ⟨_, rfl, rfl⟩) (Or.inl rfl) (Or.inl rfl) (Or.inl rfl) (Or.inl rfl) (Or.inl rfl) (paris ++ [((p3 &&& (255 : Int32)).toUInt32.toUInt16.toUInt32.toInt32)]) tt z62 t_2172 kb_2173 (0 : Int32) z6g n0 (lT Z0 (z6n.1)) Lc0 z6m z6o (Or.inr (Or.inr (by rw [List.length_append, paris_len]; rfl))) ((if_neg (fun q => by have := congrArg List.length q; rw [List.length_append, paris_len] at this; simp at this)).symm) G GS GL GD hx hby hml hret hnm hown hlk hZ (z6i.more (by decide) (by decide))).imp (fun vv hh it ⟨Lq, ⟨vq, kq⟩, aq, gq⟩ => ⟨Lq, ⟨vq, z6n.trans kq all0⟩, aq, (Jvm.Q9.Grow.refl _ _).trans gq (z6n.1)⟩)
theorem own_law (l : Launch) (Z : State) (a0 : Array Value) (hw : ∀ d ∈ tables_1, d.before a0 Z = true) (p1 : Int32) (p2 : Int32) (p3 : Int32) (p4 : Int64) (p5 : Int32) (h0 : Heap) (n0 : Nat) (Z0 : n0 ≤ h0.size) (Lc0 : List Addr) (F0 : Old Z n0 h0) (G : Cmp Z) (GS : Sio Z) (GL : ∀ c ∈ LC.1, Jvm.Q9.LitZ Z c) (GD : Dig Z) :
    Jvm.Q9.Con l Z LC x code maxLocals ret room_1 n0 #[(.int p1), (.int p2), (.int p3), (.long p4), (.int p5)] h0 Lc0 (fun v h Lc => v = some (.int 1) ∧ Keep h0 h []) := by
  refine Jvm.Q9.Con.intro (plainFor_of_name pn_com_example_etsin_etsin_OutcomeOfAgentPinLaw) ?_
  intro p e s m below meth c s₁ hx hby hml hret hnm hown hlk hZ hs0 P0
  refine Jvm.Q9.Aim.cast (by first | (simp [entryFrame, mkF, argsToLocals, Value.category, maxLocals]; done) | rfl : entryFrame m #[(.int p1), (.int p2), (.int p3), (.long p4), (.int p5)] maxLocals = (mkF m 0 #[.val (.int p1), .val (.int p2), .val (.int p3), .val (.long p4), .second, .val (.int p5), .unset, .unset, .unset, .unset, .unset, .unset, .unset, .unset, .unset, .unset, .unset, .unset, .unset, .unset] [])) ?_
  have H := P0.here
  refine Jvm.Q9.Aim.of (T' := s₁) (g' := (mkF m 10 #[.val (.int p1), .val (.int p2), .val (.int p3), .val (.long p4), .second, .val (.int p5), .val (.int ((p1 &&& (3 : Int32)) % (3 : Int32))), .unset, .unset, .unset, .unset, .unset, .unset, .unset, .unset, .unset, .unset, .unset, .unset, .unset] [(.int (p1 &&& (4 : Int32)))])) (fun tgt kt => ?_) ?_
  · refine XS.iloadN H hx rfl (hb hby at_0) rfl ?_
    refine XS.iconst H hx rfl (hb hby at_1) ?_
    refine XS.iand H hx rfl (hb hby at_2) rfl ?_
    refine XS.iconst H hx rfl (hb hby at_3) ?_
    refine Jvm.Y9.own_irem H hx rfl (hb hby at_4) rfl (by decide) ?_
    refine XS.istore H hx rfl (hb hby at_5) rfl (l' := #[.val (.int p1), .val (.int p2), .val (.int p3), .val (.long p4), .second, .val (.int p5), .val (.int ((p1 &&& (3 : Int32)) % (3 : Int32))), .unset, .unset, .unset, .unset, .unset, .unset, .unset, .unset, .unset, .unset, .unset, .unset, .unset]) rfl ?_
    refine XS.iloadN H hx rfl (hb hby at_7) rfl ?_
    refine XS.iconst H hx rfl (hb hby at_8) ?_
    refine XS.iand H hx rfl (hb hby at_9) rfl ?_
    exact kt
  have z0 : ∀ z1 : Int32, z1 = (if (p1 &&& (4 : Int32)) = (0 : Int32) then (0 : Int32) else (1 : Int32)) → Jvm.Q9.Aim p e below s (room_1 : Room).cells (room_1 : Room).slots n0 (Jvm.Q9.QW Z LC h0 Lc0 (fun v h Lc => v = some (.int 1) ∧ Keep h0 h [])) s₁ (mkF m 18 #[.val (.int p1), .val (.int p2), .val (.int p3), .val (.long p4), .second, .val (.int p5), .val (.int ((p1 &&& (3 : Int32)) % (3 : Int32))), .unset, .unset, .unset, .unset, .unset, .unset, .unset, .unset, .unset, .unset, .unset, .unset, .unset] [(.int z1)]) := by
    intro z1 z2
    have H := P0.here
    refine Jvm.Q9.Aim.of (T' := s₁) (g' := (mkF m 24 #[.val (.int p1), .val (.int p2), .val (.int p3), .val (.long p4), .second, .val (.int p5), .val (.int ((p1 &&& (3 : Int32)) % (3 : Int32))), .val (.int z1), .unset, .unset, .unset, .unset, .unset, .unset, .unset, .unset, .unset, .unset, .unset, .unset] [(.int (p1 &&& (8 : Int32)))])) (fun tgt kt => ?_) ?_
    · refine XS.istore H hx rfl (hb hby at_18) rfl (l' := #[.val (.int p1), .val (.int p2), .val (.int p3), .val (.long p4), .second, .val (.int p5), .val (.int ((p1 &&& (3 : Int32)) % (3 : Int32))), .val (.int z1), .unset, .unset, .unset, .unset, .unset, .unset, .unset, .unset, .unset, .unset, .unset, .unset]) rfl ?_
      refine XS.iloadN H hx rfl (hb hby at_20) rfl ?_
      refine XS.bipush H hx rfl (hb hby at_21) ?_
      refine XS.iand H hx rfl (hb hby at_23) rfl ?_
      exact kt
    have z3 : ∀ z4 : Int32, z4 = (if (p1 &&& (8 : Int32)) = (0 : Int32) then (0 : Int32) else (1 : Int32)) → Jvm.Q9.Aim p e below s (room_1 : Room).cells (room_1 : Room).slots n0 (Jvm.Q9.QW Z LC h0 Lc0 (fun v h Lc => v = some (.int 1) ∧ Keep h0 h [])) s₁ (mkF m 32 #[.val (.int p1), .val (.int p2), .val (.int p3), .val (.long p4), .second, .val (.int p5), .val (.int ((p1 &&& (3 : Int32)) % (3 : Int32))), .val (.int z1), .unset, .unset, .unset, .unset, .unset, .unset, .unset, .unset, .unset, .unset, .unset, .unset] [(.int z4)]) := by
      intro z4 z5
      have H := P0.here
      refine Jvm.Q9.Aim.of (T' := s₁) (g' := (mkF m 36 #[.val (.int p1), .val (.int p2), .val (.int p3), .val (.long p4), .second, .val (.int p5), .val (.int ((p1 &&& (3 : Int32)) % (3 : Int32))), .val (.int z1), .val (.int z4), .unset, .unset, .unset, .unset, .unset, .unset, .unset, .unset, .unset, .unset, .unset] [(.int z4)])) (fun tgt kt => ?_) ?_
      · refine XS.istore H hx rfl (hb hby at_32) rfl (l' := #[.val (.int p1), .val (.int p2), .val (.int p3), .val (.long p4), .second, .val (.int p5), .val (.int ((p1 &&& (3 : Int32)) % (3 : Int32))), .val (.int z1), .val (.int z4), .unset, .unset, .unset, .unset, .unset, .unset, .unset, .unset, .unset, .unset, .unset]) rfl ?_
        refine XS.iload H hx rfl (hb hby at_34) rfl ?_
        exact kt
      have z6 : ∀ z7 : Int32, z7 = (if z4 = (0 : Int32) then p5 else (1 : Int32)) → Jvm.Q9.Aim p e below s (room_1 : Room).cells (room_1 : Room).slots n0 (Jvm.Q9.QW Z LC h0 Lc0 (fun v h Lc => v = some (.int 1) ∧ Keep h0 h [])) s₁ (mkF m 45 #[.val (.int p1), .val (.int p2), .val (.int p3), .val (.long p4), .second, .val (.int p5), .val (.int ((p1 &&& (3 : Int32)) % (3 : Int32))), .val (.int z1), .val (.int z4), .unset, .unset, .unset, .unset, .unset, .unset, .unset, .unset, .unset, .unset, .unset] [(.int z7)]) := by
        intro z7 z8
        have H := P0.here
        refine Jvm.Q9.Aim.of (T' := s₁) (g' := (mkF m 57 #[.val (.int p1), .val (.int p2), .val (.int p3), .val (.long p4), .second, .val (.int p5), .val (.int ((p1 &&& (3 : Int32)) % (3 : Int32))), .val (.int z1), .val (.int z4), .val (.int z7), .val (.int ((p3 &&& (255 : Int32)).toUInt32.toUInt16.toUInt32.toInt32)), .unset, .unset, .unset, .unset, .unset, .unset, .unset, .unset, .unset] [(.int ((p1 &&& (3 : Int32)) % (3 : Int32)))])) (fun tgt kt => ?_) ?_
        · refine XS.istore H hx rfl (hb hby at_45) rfl (l' := #[.val (.int p1), .val (.int p2), .val (.int p3), .val (.long p4), .second, .val (.int p5), .val (.int ((p1 &&& (3 : Int32)) % (3 : Int32))), .val (.int z1), .val (.int z4), .val (.int z7), .unset, .unset, .unset, .unset, .unset, .unset, .unset, .unset, .unset, .unset]) rfl ?_
          refine XS.iloadN H hx rfl (hb hby at_47) rfl ?_
          refine XS.sipush H hx rfl (hb hby at_48) ?_
          refine XS.iand H hx rfl (hb hby at_51) rfl ?_
          refine XS.i2c H hx rfl (hb hby at_52) rfl ?_
          refine XS.istore H hx rfl (hb hby at_53) rfl (l' := #[.val (.int p1), .val (.int p2), .val (.int p3), .val (.long p4), .second, .val (.int p5), .val (.int ((p1 &&& (3 : Int32)) % (3 : Int32))), .val (.int z1), .val (.int z4), .val (.int z7), .val (.int ((p3 &&& (255 : Int32)).toUInt32.toUInt16.toUInt32.toInt32)), .unset, .unset, .unset, .unset, .unset, .unset, .unset, .unset, .unset]) rfl ?_
          refine XS.iload H hx rfl (hb hby at_55) rfl ?_
          exact kt
        by_cases z9 : ((p1 &&& (3 : Int32)) % (3 : Int32)) = (0 : Int32)
        · skip
          have H := P0.here
          refine Jvm.Q9.Aim.of (T' := s₁) (g' := (mkF m 60 #[.val (.int p1), .val (.int p2), .val (.int p3), .val (.long p4), .second, .val (.int p5), .val (.int ((p1 &&& (3 : Int32)) % (3 : Int32))), .val (.int z1), .val (.int z4), .val (.int z7), .val (.int ((p3 &&& (255 : Int32)).toUInt32.toUInt16.toUInt32.toInt32)), .unset, .unset, .unset, .unset, .unset, .unset, .unset, .unset, .unset] [])) (fun tgt kt => ?_) ?_
          · refine XS.ifNo H hx rfl (hb hby at_57) rfl ((if0 _ _).trans (teq z9).2) ?_
            exact kt
          exact (own_m0 l Z a0 hw (.val (.int p1)) (.val (.long p4)) (.second) (.val (.int p5)) (.val (.int ((p1 &&& (3 : Int32)) % (3 : Int32)))) (.val (.int z4)) p2 p3 z1 z7 h0 n0 Z0 Lc0 F0 G GS GL GD hx hby hml hret hnm hown hlk hZ (P0.more (by decide) (by decide))).imp (fun vv hh it ⟨Lq, ⟨vq, kq⟩, aq, gq⟩ => ⟨Lq, ⟨vq, (Keep.refl h0 []).trans kq all0⟩, aq, (Jvm.Q9.Grow.refl _ _).trans gq (Nat.le_refl _)⟩)
        · skip
          have H := P0.here
          refine Jvm.Q9.Aim.of (T' := s₁) (g' := (mkF m 326 #[.val (.int p1), .val (.int p2), .val (.int p3), .val (.long p4), .second, .val (.int p5), .val (.int ((p1 &&& (3 : Int32)) % (3 : Int32))), .val (.int z1), .val (.int z4), .val (.int z7), .val (.int ((p3 &&& (255 : Int32)).toUInt32.toUInt16.toUInt32.toInt32)), .unset, .unset, .unset, .unset, .unset, .unset, .unset, .unset, .unset] [(.int 1), (.int ((p1 &&& (3 : Int32)) % (3 : Int32)))])) (fun tgt kt => ?_) ?_
          · refine XS.ifYes H hx rfl (pc0 := 57) (pc' := 323) rfl (hb hby at_57) rfl ((if0 _ _).trans (feq z9).2) (by decide) (by decide) ?_
            refine XS.iload H hx rfl (hb hby at_323) rfl ?_
            refine XS.iconst H hx rfl (hb hby at_325) ?_
            exact kt
          by_cases za : ((p1 &&& (3 : Int32)) % (3 : Int32)) = (1 : Int32)
          · skip
            have H := P0.here
            refine Jvm.Q9.Aim.of (T' := s₁) (g' := (mkF m 333 #[.val (.int p1), .val (.int p2), .val (.int p3), .val (.long p4), .second, .val (.int p5), .val (.int ((p1 &&& (3 : Int32)) % (3 : Int32))), .val (.int z1), .val (.int z4), .val (.int z7), .val (.int ((p3 &&& (255 : Int32)).toUInt32.toUInt16.toUInt32.toInt32)), .unset, .unset, .unset, .unset, .unset, .unset, .unset, .unset, .unset] [(.long ((p4.toUInt64 >>> ((24 : Int32) &&& 0x3f).toInt64.toUInt64).toInt64))])) (fun tgt kt => ?_) ?_
            · refine XS.icmpNo H hx rfl (hb hby at_326) rfl (teq za).2 ?_
              refine XS.lloadN H hx rfl (hb hby at_329) rfl ?_
              refine XS.bipush H hx rfl (hb hby at_330) ?_
              refine XS.lushr H hx rfl (hb hby at_332) rfl ?_
              exact kt
            refine Jvm.Q9.Aim.ldcJ P0 hx hZ hown (wI hw 263 rfl) (hb hby at_333) ?_
            have H := P0.here
            refine Jvm.Q9.Aim.of (T' := s₁) (g' := (mkF m 341 #[.val (.int p1), .val (.int p2), .val (.int p3), .val (.long p4), .second, .val (.int p5), .val (.int ((p1 &&& (3 : Int32)) % (3 : Int32))), .val (.int z1), .val (.int z4), .val (.int z7), .val (.int ((p3 &&& (255 : Int32)).toUInt32.toUInt16.toUInt32.toInt32)), .unset, .unset, .val (.int ((((p4.toUInt64 >>> ((24 : Int32) &&& 0x3f).toInt64.toUInt64).toInt64) &&& (3 : Int64)).toInt32)), .unset, .unset, .unset, .unset, .unset, .unset] [(.long p4)])) (fun tgt kt => ?_) ?_
            · refine XS.land H hx rfl (hb hby at_336) rfl ?_
              refine XS.l2i H hx rfl (hb hby at_337) rfl ?_
              refine XS.istore H hx rfl (hb hby at_338) rfl (l' := #[.val (.int p1), .val (.int p2), .val (.int p3), .val (.long p4), .second, .val (.int p5), .val (.int ((p1 &&& (3 : Int32)) % (3 : Int32))), .val (.int z1), .val (.int z4), .val (.int z7), .val (.int ((p3 &&& (255 : Int32)).toUInt32.toUInt16.toUInt32.toInt32)), .unset, .unset, .val (.int ((((p4.toUInt64 >>> ((24 : Int32) &&& 0x3f).toInt64.toUInt64).toInt64) &&& (3 : Int64)).toInt32)), .unset, .unset, .unset, .unset, .unset, .unset]) rfl ?_
              refine XS.lloadN H hx rfl (hb hby at_340) rfl ?_
              exact kt
            refine Jvm.Q9.Aim.ldcJ P0 hx hZ hown (wI hw 264 rfl) (hb hby at_341) ?_
            have H := P0.here
            refine Jvm.Q9.Aim.of (T' := s₁) (g' := (mkF m 353 #[.val (.int p1), .val (.int p2), .val (.int p3), .val (.long p4), .second, .val (.int p5), .val (.int ((p1 &&& (3 : Int32)) % (3 : Int32))), .val (.int z1), .val (.int z4), .val (.int z7), .val (.int ((p3 &&& (255 : Int32)).toUInt32.toUInt16.toUInt32.toInt32)), .unset, .unset, .val (.int ((((p4.toUInt64 >>> ((24 : Int32) &&& 0x3f).toInt64.toUInt64).toInt64) &&& (3 : Int64)).toInt32)), .val (.int (((p4 &&& (255 : Int64)).toInt32).toUInt32.toUInt16.toUInt32.toInt32)), .unset, .unset, .unset, .unset, .unset] [(.long ((p4.toUInt64 >>> ((8 : Int32) &&& 0x3f).toInt64.toUInt64).toInt64))])) (fun tgt kt => ?_) ?_
            · refine XS.land H hx rfl (hb hby at_344) rfl ?_
              refine XS.l2i H hx rfl (hb hby at_345) rfl ?_
              refine XS.i2c H hx rfl (hb hby at_346) rfl ?_
              refine XS.istore H hx rfl (hb hby at_347) rfl (l' := #[.val (.int p1), .val (.int p2), .val (.int p3), .val (.long p4), .second, .val (.int p5), .val (.int ((p1 &&& (3 : Int32)) % (3 : Int32))), .val (.int z1), .val (.int z4), .val (.int z7), .val (.int ((p3 &&& (255 : Int32)).toUInt32.toUInt16.toUInt32.toInt32)), .unset, .unset, .val (.int ((((p4.toUInt64 >>> ((24 : Int32) &&& 0x3f).toInt64.toUInt64).toInt64) &&& (3 : Int64)).toInt32)), .val (.int (((p4 &&& (255 : Int64)).toInt32).toUInt32.toUInt16.toUInt32.toInt32)), .unset, .unset, .unset, .unset, .unset]) rfl ?_
              refine XS.lloadN H hx rfl (hb hby at_349) rfl ?_
              refine XS.bipush H hx rfl (hb hby at_350) ?_
              refine XS.lushr H hx rfl (hb hby at_352) rfl ?_
              exact kt
            refine Jvm.Q9.Aim.ldcJ P0 hx hZ hown (wI hw 264 rfl) (hb hby at_353) ?_
            have H := P0.here
            refine Jvm.Q9.Aim.of (T' := s₁) (g' := (mkF m 365 #[.val (.int p1), .val (.int p2), .val (.int p3), .val (.long p4), .second, .val (.int p5), .val (.int ((p1 &&& (3 : Int32)) % (3 : Int32))), .val (.int z1), .val (.int z4), .val (.int z7), .val (.int ((p3 &&& (255 : Int32)).toUInt32.toUInt16.toUInt32.toInt32)), .unset, .unset, .val (.int ((((p4.toUInt64 >>> ((24 : Int32) &&& 0x3f).toInt64.toUInt64).toInt64) &&& (3 : Int64)).toInt32)), .val (.int (((p4 &&& (255 : Int64)).toInt32).toUInt32.toUInt16.toUInt32.toInt32)), .val (.int (((((p4.toUInt64 >>> ((8 : Int32) &&& 0x3f).toInt64.toUInt64).toInt64) &&& (255 : Int64)).toInt32).toUInt32.toUInt16.toUInt32.toInt32)), .unset, .unset, .unset, .unset] [(.long ((p4.toUInt64 >>> ((16 : Int32) &&& 0x3f).toInt64.toUInt64).toInt64))])) (fun tgt kt => ?_) ?_
            · refine XS.land H hx rfl (hb hby at_356) rfl ?_
              refine XS.l2i H hx rfl (hb hby at_357) rfl ?_
              refine XS.i2c H hx rfl (hb hby at_358) rfl ?_
              refine XS.istore H hx rfl (hb hby at_359) rfl (l' := #[.val (.int p1), .val (.int p2), .val (.int p3), .val (.long p4), .second, .val (.int p5), .val (.int ((p1 &&& (3 : Int32)) % (3 : Int32))), .val (.int z1), .val (.int z4), .val (.int z7), .val (.int ((p3 &&& (255 : Int32)).toUInt32.toUInt16.toUInt32.toInt32)), .unset, .unset, .val (.int ((((p4.toUInt64 >>> ((24 : Int32) &&& 0x3f).toInt64.toUInt64).toInt64) &&& (3 : Int64)).toInt32)), .val (.int (((p4 &&& (255 : Int64)).toInt32).toUInt32.toUInt16.toUInt32.toInt32)), .val (.int (((((p4.toUInt64 >>> ((8 : Int32) &&& 0x3f).toInt64.toUInt64).toInt64) &&& (255 : Int64)).toInt32).toUInt32.toUInt16.toUInt32.toInt32)), .unset, .unset, .unset, .unset]) rfl ?_
              refine XS.lloadN H hx rfl (hb hby at_361) rfl ?_
              refine XS.bipush H hx rfl (hb hby at_362) ?_
              refine XS.lushr H hx rfl (hb hby at_364) rfl ?_
              exact kt
            refine Jvm.Q9.Aim.ldcJ P0 hx hZ hown (wI hw 264 rfl) (hb hby at_365) ?_
            have H := P0.here
            refine Jvm.Q9.Aim.of (T' := s₁) (g' := (mkF m 375 #[.val (.int p1), .val (.int p2), .val (.int p3), .val (.long p4), .second, .val (.int p5), .val (.int ((p1 &&& (3 : Int32)) % (3 : Int32))), .val (.int z1), .val (.int z4), .val (.int z7), .val (.int ((p3 &&& (255 : Int32)).toUInt32.toUInt16.toUInt32.toInt32)), .unset, .unset, .val (.int ((((p4.toUInt64 >>> ((24 : Int32) &&& 0x3f).toInt64.toUInt64).toInt64) &&& (3 : Int64)).toInt32)), .val (.int (((p4 &&& (255 : Int64)).toInt32).toUInt32.toUInt16.toUInt32.toInt32)), .val (.int (((((p4.toUInt64 >>> ((8 : Int32) &&& 0x3f).toInt64.toUInt64).toInt64) &&& (255 : Int64)).toInt32).toUInt32.toUInt16.toUInt32.toInt32)), .val (.int (((((p4.toUInt64 >>> ((16 : Int32) &&& 0x3f).toInt64.toUInt64).toInt64) &&& (255 : Int64)).toInt32).toUInt32.toUInt16.toUInt32.toInt32)), .unset, .unset, .unset] [(.int ((((p4.toUInt64 >>> ((24 : Int32) &&& 0x3f).toInt64.toUInt64).toInt64) &&& (3 : Int64)).toInt32))])) (fun tgt kt => ?_) ?_
            · refine XS.land H hx rfl (hb hby at_368) rfl ?_
              refine XS.l2i H hx rfl (hb hby at_369) rfl ?_
              refine XS.i2c H hx rfl (hb hby at_370) rfl ?_
              refine XS.istore H hx rfl (hb hby at_371) rfl (l' := #[.val (.int p1), .val (.int p2), .val (.int p3), .val (.long p4), .second, .val (.int p5), .val (.int ((p1 &&& (3 : Int32)) % (3 : Int32))), .val (.int z1), .val (.int z4), .val (.int z7), .val (.int ((p3 &&& (255 : Int32)).toUInt32.toUInt16.toUInt32.toInt32)), .unset, .unset, .val (.int ((((p4.toUInt64 >>> ((24 : Int32) &&& 0x3f).toInt64.toUInt64).toInt64) &&& (3 : Int64)).toInt32)), .val (.int (((p4 &&& (255 : Int64)).toInt32).toUInt32.toUInt16.toUInt32.toInt32)), .val (.int (((((p4.toUInt64 >>> ((8 : Int32) &&& 0x3f).toInt64.toUInt64).toInt64) &&& (255 : Int64)).toInt32).toUInt32.toUInt16.toUInt32.toInt32)), .val (.int (((((p4.toUInt64 >>> ((16 : Int32) &&& 0x3f).toInt64.toUInt64).toInt64) &&& (255 : Int64)).toInt32).toUInt32.toUInt16.toUInt32.toInt32)), .unset, .unset, .unset]) rfl ?_
              refine XS.iload H hx rfl (hb hby at_373) rfl ?_
              exact kt
            by_cases zb : ((((p4.toUInt64 >>> ((24 : Int32) &&& 0x3f).toInt64.toUInt64).toInt64) &&& (3 : Int64)).toInt32) = (0 : Int32)
            · skip
              have H := P0.here
              refine Jvm.Q9.Aim.of (T' := s₁) (g' := (mkF m 378 #[.val (.int p1), .val (.int p2), .val (.int p3), .val (.long p4), .second, .val (.int p5), .val (.int ((p1 &&& (3 : Int32)) % (3 : Int32))), .val (.int z1), .val (.int z4), .val (.int z7), .val (.int ((p3 &&& (255 : Int32)).toUInt32.toUInt16.toUInt32.toInt32)), .unset, .unset, .val (.int ((((p4.toUInt64 >>> ((24 : Int32) &&& 0x3f).toInt64.toUInt64).toInt64) &&& (3 : Int64)).toInt32)), .val (.int (((p4 &&& (255 : Int64)).toInt32).toUInt32.toUInt16.toUInt32.toInt32)), .val (.int (((((p4.toUInt64 >>> ((8 : Int32) &&& 0x3f).toInt64.toUInt64).toInt64) &&& (255 : Int64)).toInt32).toUInt32.toUInt16.toUInt32.toInt32)), .val (.int (((((p4.toUInt64 >>> ((16 : Int32) &&& 0x3f).toInt64.toUInt64).toInt64) &&& (255 : Int64)).toInt32).toUInt32.toUInt16.toUInt32.toInt32)), .unset, .unset, .unset] [])) (fun tgt kt => ?_) ?_
              · refine XS.ifNo H hx rfl (hb hby at_375) rfl ((if0 _ _).trans (teq zb).2) ?_
                exact kt
              refine Jvm.Q9.Aim.newO P0 hx hZ hown (wI hw 2 rfl) (wI hw 3 rfl) (wI hw 4 rfl) (hb hby at_378) (by decide) (by decide) ?_
              intro zc zd ze zf zg zh zi zj zk
              have zl : Keep h0 zd [] := (Keep.refl _ _).ext zh
              have zm : Keep h0 zd [] := (Keep.refl h0 []).trans zl all0
              have zn : Fld Z zd ze "java/lang/String" "coder" "B" (.int 0) := zj (Or.inr (wI hw 28 rfl)) (ty := .byte) (by decide)
              have zo : Fld Z zd ze "java/lang/String" "value" "[B" .null := zj (Or.inr (wI hw 30 rfl)) (ty := (.array .byte)) (by decide)
              have H := zg.here
              refine Jvm.Q9.Aim.of (T' := zc) (g' := (mkF m 383 #[.val (.int p1), .val (.int p2), .val (.int p3), .val (.long p4), .second, .val (.int p5), .val (.int ((p1 &&& (3 : Int32)) % (3 : Int32))), .val (.int z1), .val (.int z4), .val (.int z7), .val (.int ((p3 &&& (255 : Int32)).toUInt32.toUInt16.toUInt32.toInt32)), .unset, .unset, .val (.int ((((p4.toUInt64 >>> ((24 : Int32) &&& 0x3f).toInt64.toUInt64).toInt64) &&& (3 : Int64)).toInt32)), .val (.int (((p4 &&& (255 : Int64)).toInt32).toUInt32.toUInt16.toUInt32.toInt32)), .val (.int (((((p4.toUInt64 >>> ((8 : Int32) &&& 0x3f).toInt64.toUInt64).toInt64) &&& (255 : Int64)).toInt32).toUInt32.toUInt16.toUInt32.toInt32)), .val (.int (((((p4.toUInt64 >>> ((16 : Int32) &&& 0x3f).toInt64.toUInt64).toInt64) &&& (255 : Int64)).toInt32).toUInt32.toUInt16.toUInt32.toInt32)), .unset, .unset, .unset] [(.int 0), (.ref ze), (.ref ze)])) (fun tgt kt => ?_) ?_
              · refine XS.dup H hx rfl (hb hby at_381) rfl rfl ?_
                refine XS.iconst H hx rfl (hb hby at_382) ?_
                exact kt
              refine Jvm.Q9.Aim.newP (z := (0 : Int32)) zg hx hZ (wI hw 0 rfl) (hb hby at_383) (by decide) (cap := 0) (by decide) (by decide) (by decide) (by decide) ?_
              intro zp zq zr zs zt zu zv zw
              have zx : Keep zd zq [] := (Keep.refl _ _).ext zv
              have zy : Keep h0 zq [] := zm.trans zx all0
              have zz : Arv Z zq zs zr .char (0 : Int32) [] (.int 0) := zw.pad (pad_rep [] (.int 0) 0)
              have z10 : Exa Z zq ze "java/lang/String" := (zi.keep zx)
              have z11 : Fld Z zq ze "java/lang/String" "value" "[B" .null := (zo.keep zx nin0)
              have z12 : Fld Z zq ze "java/lang/String" "coder" "B" (.int 0) := (zn.keep zx nin0)
              have z13 : Old Z n0 zq := ((F0.keep zl all0).keep zx all0)
              refine Jvm.Q9.Aim.callCW (argsL := [(.ref zs)]) (rest := [(.ref ze)]) zu hx hZ hml hown rfl (wI hw 5 rfl) (wI hw 6 rfl) (wI hw 7 rfl) (by decide) (Jvm.Q9.Con.back (W := 1) (own_s0 l Z a0 hw ze zs zr (.null) (.int 0) zq n0 (lT Z0 (zy.1)) Lc0 (lT Z0 (Nat.le_of_eq zf.symm)) (Jvm.Q9.nl_new P0.ltL (lT (Nat.le_refl _) (Nat.le_of_eq zf.symm))) z10 z11 z12 zz z13 GL) (wI hw 7 rfl) (wI hw 4 rfl) (by decide) (by decide)) rfl pd__28_5bC_29V rfl (Nat.le_of_eq rfl) (hb hby at_385) (by decide) (by decide) ?_
              intro z14 z15 z16 z17 z18 z19 z1a
              obtain ⟨t_2224, kb_2225, rfl, z1b, z1c, z1d⟩ := z1a
              have z1e : Keep h0 z15 [] := zy.trans z1b (allS (Or.inr (lT (Nat.le_refl _) (Nat.le_of_eq zf.symm))) all0)
              have z1f : Jvm.Q9.Grow Lc0 z17 h0.size := (Jvm.Q9.Grow.refl _ _).trans z19 (zy.1)
              have H := z18.here
              refine Jvm.Q9.Aim.of (T' := z14) (g' := (mkF m 701 #[.val (.int p1), .val (.int p2), .val (.int p3), .val (.long p4), .second, .val (.int p5), .val (.int ((p1 &&& (3 : Int32)) % (3 : Int32))), .val (.int z1), .val (.int z4), .val (.int z7), .val (.int ((p3 &&& (255 : Int32)).toUInt32.toUInt16.toUInt32.toInt32)), .val (.ref ze), .val (.int 0), .val (.int ((((p4.toUInt64 >>> ((24 : Int32) &&& 0x3f).toInt64.toUInt64).toInt64) &&& (3 : Int64)).toInt32)), .val (.int (((p4 &&& (255 : Int64)).toInt32).toUInt32.toUInt16.toUInt32.toInt32)), .val (.int (((((p4.toUInt64 >>> ((8 : Int32) &&& 0x3f).toInt64.toUInt64).toInt64) &&& (255 : Int64)).toInt32).toUInt32.toUInt16.toUInt32.toInt32)), .val (.int (((((p4.toUInt64 >>> ((16 : Int32) &&& 0x3f).toInt64.toUInt64).toInt64) &&& (255 : Int64)).toInt32).toUInt32.toUInt16.toUInt32.toInt32)), .unset, .unset, .unset] [])) (fun tgt kt => ?_) ?_
              · refine XS.astore H hx rfl (hb hby at_388) rfl rfl (l' := #[.val (.int p1), .val (.int p2), .val (.int p3), .val (.long p4), .second, .val (.int p5), .val (.int ((p1 &&& (3 : Int32)) % (3 : Int32))), .val (.int z1), .val (.int z4), .val (.int z7), .val (.int ((p3 &&& (255 : Int32)).toUInt32.toUInt16.toUInt32.toInt32)), .val (.ref ze), .unset, .val (.int ((((p4.toUInt64 >>> ((24 : Int32) &&& 0x3f).toInt64.toUInt64).toInt64) &&& (3 : Int64)).toInt32)), .val (.int (((p4 &&& (255 : Int64)).toInt32).toUInt32.toUInt16.toUInt32.toInt32)), .val (.int (((((p4.toUInt64 >>> ((8 : Int32) &&& 0x3f).toInt64.toUInt64).toInt64) &&& (255 : Int64)).toInt32).toUInt32.toUInt16.toUInt32.toInt32)), .val (.int (((((p4.toUInt64 >>> ((16 : Int32) &&& 0x3f).toInt64.toUInt64).toInt64) &&& (255 : Int64)).toInt32).toUInt32.toUInt16.toUInt32.toInt32)), .unset, .unset, .unset]) rfl ?_
                refine XS.goto H hx rfl (pc0 := 390) (pc' := 477) rfl (hb hby at_390) (by decide) (by decide) ?_
                refine XS.iconst H hx rfl (hb hby at_477) ?_
                refine XS.istore H hx rfl (hb hby at_478) rfl (l' := #[.val (.int p1), .val (.int p2), .val (.int p3), .val (.long p4), .second, .val (.int p5), .val (.int ((p1 &&& (3 : Int32)) % (3 : Int32))), .val (.int z1), .val (.int z4), .val (.int z7), .val (.int ((p3 &&& (255 : Int32)).toUInt32.toUInt16.toUInt32.toInt32)), .val (.ref ze), .val (.int 0), .val (.int ((((p4.toUInt64 >>> ((24 : Int32) &&& 0x3f).toInt64.toUInt64).toInt64) &&& (3 : Int64)).toInt32)), .val (.int (((p4 &&& (255 : Int64)).toInt32).toUInt32.toUInt16.toUInt32.toInt32)), .val (.int (((((p4.toUInt64 >>> ((8 : Int32) &&& 0x3f).toInt64.toUInt64).toInt64) &&& (255 : Int64)).toInt32).toUInt32.toUInt16.toUInt32.toInt32)), .val (.int (((((p4.toUInt64 >>> ((16 : Int32) &&& 0x3f).toInt64.toUInt64).toInt64) &&& (255 : Int64)).toInt32).toUInt32.toUInt16.toUInt32.toInt32)), .unset, .unset, .unset]) rfl ?_
                refine XS.goto H hx rfl (pc0 := 480) (pc' := 701) rfl (hb hby at_480) (by decide) (by decide) ?_
                exact kt
              have z1g : Old Z n0 z15 := (z13.keep z1b (allS (lT Z0 (Nat.le_of_eq zf.symm)) all0))
              exact (own_tA l Z a0 hw (.val (.int p1)) (.val (.int p2)) (.val (.int p3)) (.val (.long p4)) (.second) (.val (.int p5)) (.val (.int ((p1 &&& (3 : Int32)) % (3 : Int32)))) (.val (.int z1)) (.val (.int z4)) (.val (.int ((p3 &&& (255 : Int32)).toUInt32.toUInt16.toUInt32.toInt32))) (.val (.int ((((p4.toUInt64 >>> ((24 : Int32) &&& 0x3f).toInt64.toUInt64).toInt64) &&& (3 : Int64)).toInt32))) (.val (.int (((p4 &&& (255 : Int64)).toInt32).toUInt32.toUInt16.toUInt32.toInt32))) (.val (.int (((((p4.toUInt64 >>> ((8 : Int32) &&& 0x3f).toInt64.toUInt64).toInt64) &&& (255 : Int64)).toInt32).toUInt32.toUInt16.toUInt32.toInt32))) (.val (.int (((((p4.toUInt64 >>> ((16 : Int32) &&& 0x3f).toInt64.toUInt64).toInt64) &&& (255 : Int64)).toInt32).toUInt32.toUInt16.toUInt32.toInt32))) (.unset) (.unset) (Or.inr ⟨_, rfl, rfl⟩) (Or.inr ⟨_, rfl, rfl⟩) (Or.inr ⟨_, rfl, rfl⟩) (Or.inr ⟨_, rfl, rfl⟩) (Or.inl rfl) (Or.inl rfl) ([] : List Int32) z7 ze t_2224 kb_2225 (0 : Int32) z15 n0 (lT Z0 (z1e.1)) z17 z1d z1g (Or.inl (by simp)) ((if_neg (fun q => by have := congrArg List.length q; rw [paris_len] at this; simp at this)).symm) G GS GL GD hx hby hml hret hnm hown hlk hZ (z18.more (by decide) (by decide))).imp (fun vv hh it ⟨Lq, ⟨vq, kq⟩, aq, gq⟩ => ⟨Lq, ⟨vq, z1e.trans kq all0⟩, aq, z1f.trans gq (z1e.1)⟩)
            · skip
              have H := P0.here
              refine Jvm.Q9.Aim.of (T' := s₁) (g' := (mkF m 396 #[.val (.int p1), .val (.int p2), .val (.int p3), .val (.long p4), .second, .val (.int p5), .val (.int ((p1 &&& (3 : Int32)) % (3 : Int32))), .val (.int z1), .val (.int z4), .val (.int z7), .val (.int ((p3 &&& (255 : Int32)).toUInt32.toUInt16.toUInt32.toInt32)), .unset, .unset, .val (.int ((((p4.toUInt64 >>> ((24 : Int32) &&& 0x3f).toInt64.toUInt64).toInt64) &&& (3 : Int64)).toInt32)), .val (.int (((p4 &&& (255 : Int64)).toInt32).toUInt32.toUInt16.toUInt32.toInt32)), .val (.int (((((p4.toUInt64 >>> ((8 : Int32) &&& 0x3f).toInt64.toUInt64).toInt64) &&& (255 : Int64)).toInt32).toUInt32.toUInt16.toUInt32.toInt32)), .val (.int (((((p4.toUInt64 >>> ((16 : Int32) &&& 0x3f).toInt64.toUInt64).toInt64) &&& (255 : Int64)).toInt32).toUInt32.toUInt16.toUInt32.toInt32)), .unset, .unset, .unset] [(.int 1), (.int ((((p4.toUInt64 >>> ((24 : Int32) &&& 0x3f).toInt64.toUInt64).toInt64) &&& (3 : Int64)).toInt32))])) (fun tgt kt => ?_) ?_
              · refine XS.ifYes H hx rfl (pc0 := 375) (pc' := 393) rfl (hb hby at_375) rfl ((if0 _ _).trans (feq zb).2) (by decide) (by decide) ?_
                refine XS.iload H hx rfl (hb hby at_393) rfl ?_
                refine XS.iconst H hx rfl (hb hby at_395) ?_
                exact kt
              by_cases z1h : ((((p4.toUInt64 >>> ((24 : Int32) &&& 0x3f).toInt64.toUInt64).toInt64) &&& (3 : Int64)).toInt32) = (1 : Int32)
              · skip
                have H := P0.here
                refine Jvm.Q9.Aim.of (T' := s₁) (g' := (mkF m 399 #[.val (.int p1), .val (.int p2), .val (.int p3), .val (.long p4), .second, .val (.int p5), .val (.int ((p1 &&& (3 : Int32)) % (3 : Int32))), .val (.int z1), .val (.int z4), .val (.int z7), .val (.int ((p3 &&& (255 : Int32)).toUInt32.toUInt16.toUInt32.toInt32)), .unset, .unset, .val (.int ((((p4.toUInt64 >>> ((24 : Int32) &&& 0x3f).toInt64.toUInt64).toInt64) &&& (3 : Int64)).toInt32)), .val (.int (((p4 &&& (255 : Int64)).toInt32).toUInt32.toUInt16.toUInt32.toInt32)), .val (.int (((((p4.toUInt64 >>> ((8 : Int32) &&& 0x3f).toInt64.toUInt64).toInt64) &&& (255 : Int64)).toInt32).toUInt32.toUInt16.toUInt32.toInt32)), .val (.int (((((p4.toUInt64 >>> ((16 : Int32) &&& 0x3f).toInt64.toUInt64).toInt64) &&& (255 : Int64)).toInt32).toUInt32.toUInt16.toUInt32.toInt32)), .unset, .unset, .unset] [])) (fun tgt kt => ?_) ?_
                · refine XS.icmpNo H hx rfl (hb hby at_396) rfl (teq z1h).2 ?_
                  exact kt
                refine Jvm.Q9.Aim.newO P0 hx hZ hown (wI hw 2 rfl) (wI hw 3 rfl) (wI hw 4 rfl) (hb hby at_399) (by decide) (by decide) ?_
                intro z1i z1j z1k z1l z1m z1n z1o z1p z1q
                have z1r : Keep h0 z1j [] := (Keep.refl _ _).ext z1n
                have z1s : Keep h0 z1j [] := (Keep.refl h0 []).trans z1r all0
                have z1t : Fld Z z1j z1k "java/lang/String" "coder" "B" (.int 0) := z1p (Or.inr (wI hw 28 rfl)) (ty := .byte) (by decide)
                have z1u : Fld Z z1j z1k "java/lang/String" "value" "[B" .null := z1p (Or.inr (wI hw 30 rfl)) (ty := (.array .byte)) (by decide)
                have H := z1m.here
                refine Jvm.Q9.Aim.of (T' := z1i) (g' := (mkF m 404 #[.val (.int p1), .val (.int p2), .val (.int p3), .val (.long p4), .second, .val (.int p5), .val (.int ((p1 &&& (3 : Int32)) % (3 : Int32))), .val (.int z1), .val (.int z4), .val (.int z7), .val (.int ((p3 &&& (255 : Int32)).toUInt32.toUInt16.toUInt32.toInt32)), .unset, .unset, .val (.int ((((p4.toUInt64 >>> ((24 : Int32) &&& 0x3f).toInt64.toUInt64).toInt64) &&& (3 : Int64)).toInt32)), .val (.int (((p4 &&& (255 : Int64)).toInt32).toUInt32.toUInt16.toUInt32.toInt32)), .val (.int (((((p4.toUInt64 >>> ((8 : Int32) &&& 0x3f).toInt64.toUInt64).toInt64) &&& (255 : Int64)).toInt32).toUInt32.toUInt16.toUInt32.toInt32)), .val (.int (((((p4.toUInt64 >>> ((16 : Int32) &&& 0x3f).toInt64.toUInt64).toInt64) &&& (255 : Int64)).toInt32).toUInt32.toUInt16.toUInt32.toInt32)), .unset, .unset, .unset] [(.int 1), (.ref z1k), (.ref z1k)])) (fun tgt kt => ?_) ?_
                · refine XS.dup H hx rfl (hb hby at_402) rfl rfl ?_
                  refine XS.iconst H hx rfl (hb hby at_403) ?_
                  exact kt
                refine Jvm.Q9.Aim.newP (z := (1 : Int32)) z1m hx hZ (wI hw 0 rfl) (hb hby at_404) (by decide) (cap := 1) (by decide) (by decide) (by decide) (by decide) ?_
                intro z1v z1w z1x z1y z1z z20 z21 z22
                have z23 : Keep z1j z1w [] := (Keep.refl _ _).ext z21
                have z24 : Keep h0 z1w [] := z1s.trans z23 all0
                have z25 : Arv Z z1w z1y z1x .char (1 : Int32) [(.int 0)] (.int 0) := z22.pad (pad_rep [] (.int 0) 1)
                have H := z20.here
                refine Jvm.Q9.Aim.of (T' := z1v) (g' := (mkF m 410 #[.val (.int p1), .val (.int p2), .val (.int p3), .val (.long p4), .second, .val (.int p5), .val (.int ((p1 &&& (3 : Int32)) % (3 : Int32))), .val (.int z1), .val (.int z4), .val (.int z7), .val (.int ((p3 &&& (255 : Int32)).toUInt32.toUInt16.toUInt32.toInt32)), .unset, .unset, .val (.int ((((p4.toUInt64 >>> ((24 : Int32) &&& 0x3f).toInt64.toUInt64).toInt64) &&& (3 : Int64)).toInt32)), .val (.int (((p4 &&& (255 : Int64)).toInt32).toUInt32.toUInt16.toUInt32.toInt32)), .val (.int (((((p4.toUInt64 >>> ((8 : Int32) &&& 0x3f).toInt64.toUInt64).toInt64) &&& (255 : Int64)).toInt32).toUInt32.toUInt16.toUInt32.toInt32)), .val (.int (((((p4.toUInt64 >>> ((16 : Int32) &&& 0x3f).toInt64.toUInt64).toInt64) &&& (255 : Int64)).toInt32).toUInt32.toUInt16.toUInt32.toInt32)), .unset, .unset, .unset] [(.int (((p4 &&& (255 : Int64)).toInt32).toUInt32.toUInt16.toUInt32.toInt32)), (.int 0), (.ref z1y), (.ref z1y), (.ref z1k), (.ref z1k)])) (fun tgt kt => ?_) ?_
                · refine XS.dup H hx rfl (hb hby at_406) rfl rfl ?_
                  refine XS.iconst H hx rfl (hb hby at_407) ?_
                  refine XS.iload H hx rfl (hb hby at_408) rfl ?_
                  exact kt
                refine Jvm.Q9.Aim.stC (x := (((p4 &&& (255 : Int64)).toInt32).toUInt32.toUInt16.toUInt32.toInt32)) (j := (0 : Int32)) z20 hx hZ z25 ⟨by decide, by decide⟩ 0 rfl (Nat.le_of_ble_eq_true rfl) (hb hby at_410) (lT (lT Z0 (z1s.1)) (Nat.le_of_eq z1z.symm)) (Jvm.Q9.nl_new P0.ltL (lT (z1s.1) (Nat.le_of_eq z1z.symm))) ?_
                intro z26 z27 z28 z29 z2a
                replace z2a : Arv Z z27 z1y z1x .char (1 : Int32) [(.int (nar .char (((p4 &&& (255 : Int64)).toInt32).toUInt32.toUInt16.toUInt32.toInt32)))] (.int 0) := z2a
                have z2b : Keep h0 z27 [] := z24.trans z29 (allS (Or.inr (lT (z1s.1) (Nat.le_of_eq z1z.symm))) all0)
                have z2c : Exa Z z27 z1k "java/lang/String" := ((z1o.keep z23).keep z29)
                have z2d : Fld Z z27 z1k "java/lang/String" "value" "[B" .null := ((z1u.keep z23 nin0).keep z29 (ninS (nL (lL z1o.lt (Nat.le_of_eq z1z.symm))) nin0))
                have z2e : Fld Z z27 z1k "java/lang/String" "coder" "B" (.int 0) := ((z1t.keep z23 nin0).keep z29 (ninS (nL (lL z1o.lt (Nat.le_of_eq z1z.symm))) nin0))
                have z2f : Old Z n0 z27 := (((F0.keep z1r all0).keep z23 all0).keep z29 (allS (lT (lT Z0 (z1s.1)) (Nat.le_of_eq z1z.symm)) all0))
                refine Jvm.Q9.Aim.callC (argsL := [(.ref z1y)]) (rest := [(.ref z1k)]) z28 hx hZ hml hown rfl (wI hw 5 rfl) (wI hw 6 rfl) (wI hw 7 rfl) (by decide) (fun vm0 hZ => own_newStr (s := s.setVm vm0) (W := 1) hZ (by decide) (by decide) hw z1k z1y z1x ([(nar .char (((p4 &&& (255 : Int64)).toInt32).toUInt32.toUInt16.toUInt32.toInt32))] : List Int32) (1 : Int32) (.int 0) (.null) (.int 0) 1 z27 n0 (lT Z0 (z2b.1)) (lT Z0 (Nat.le_of_eq z1l.symm)) z2c z2d z2e z2a z2f rfl rfl (by decide) (by decide) (by intro c hc; simp only [List.mem_cons, List.not_mem_nil, or_false] at hc; rcases hc with rfl <;> exact (own_narC (own_charJ _)).symm ▸ own_charJ _) G) (fun _ _ ⟨_, _, _, q, _, _⟩ => q) (allS (Jvm.Q9.nl_new P0.ltL (lT (Nat.le_refl _) (Nat.le_of_eq z1l.symm))) all0) rfl pd__28_5bC_29V rfl (Nat.le_of_eq rfl) (hb hby at_411) (by decide) (by decide) ?_
                intro z2g z2h z2i z2j z2k
                obtain ⟨t_2275, kb_2276, rfl, z2l, z2m, z2n⟩ := z2k
                have z2o : Keep h0 z2h [] := z2b.trans z2l (allS (Or.inr (lT (Nat.le_refl _) (Nat.le_of_eq z1l.symm))) all0)
                have H := z2j.here
                refine Jvm.Q9.Aim.of (T' := z2g) (g' := (mkF m 701 #[.val (.int p1), .val (.int p2), .val (.int p3), .val (.long p4), .second, .val (.int p5), .val (.int ((p1 &&& (3 : Int32)) % (3 : Int32))), .val (.int z1), .val (.int z4), .val (.int z7), .val (.int ((p3 &&& (255 : Int32)).toUInt32.toUInt16.toUInt32.toInt32)), .val (.ref z1k), .val (.int 0), .val (.int ((((p4.toUInt64 >>> ((24 : Int32) &&& 0x3f).toInt64.toUInt64).toInt64) &&& (3 : Int64)).toInt32)), .val (.int (((p4 &&& (255 : Int64)).toInt32).toUInt32.toUInt16.toUInt32.toInt32)), .val (.int (((((p4.toUInt64 >>> ((8 : Int32) &&& 0x3f).toInt64.toUInt64).toInt64) &&& (255 : Int64)).toInt32).toUInt32.toUInt16.toUInt32.toInt32)), .val (.int (((((p4.toUInt64 >>> ((16 : Int32) &&& 0x3f).toInt64.toUInt64).toInt64) &&& (255 : Int64)).toInt32).toUInt32.toUInt16.toUInt32.toInt32)), .unset, .unset, .unset] [])) (fun tgt kt => ?_) ?_
                · refine XS.astore H hx rfl (hb hby at_414) rfl rfl (l' := #[.val (.int p1), .val (.int p2), .val (.int p3), .val (.long p4), .second, .val (.int p5), .val (.int ((p1 &&& (3 : Int32)) % (3 : Int32))), .val (.int z1), .val (.int z4), .val (.int z7), .val (.int ((p3 &&& (255 : Int32)).toUInt32.toUInt16.toUInt32.toInt32)), .val (.ref z1k), .unset, .val (.int ((((p4.toUInt64 >>> ((24 : Int32) &&& 0x3f).toInt64.toUInt64).toInt64) &&& (3 : Int64)).toInt32)), .val (.int (((p4 &&& (255 : Int64)).toInt32).toUInt32.toUInt16.toUInt32.toInt32)), .val (.int (((((p4.toUInt64 >>> ((8 : Int32) &&& 0x3f).toInt64.toUInt64).toInt64) &&& (255 : Int64)).toInt32).toUInt32.toUInt16.toUInt32.toInt32)), .val (.int (((((p4.toUInt64 >>> ((16 : Int32) &&& 0x3f).toInt64.toUInt64).toInt64) &&& (255 : Int64)).toInt32).toUInt32.toUInt16.toUInt32.toInt32)), .unset, .unset, .unset]) rfl ?_
                  refine XS.goto H hx rfl (pc0 := 416) (pc' := 477) rfl (hb hby at_416) (by decide) (by decide) ?_
                  refine XS.iconst H hx rfl (hb hby at_477) ?_
                  refine XS.istore H hx rfl (hb hby at_478) rfl (l' := #[.val (.int p1), .val (.int p2), .val (.int p3), .val (.long p4), .second, .val (.int p5), .val (.int ((p1 &&& (3 : Int32)) % (3 : Int32))), .val (.int z1), .val (.int z4), .val (.int z7), .val (.int ((p3 &&& (255 : Int32)).toUInt32.toUInt16.toUInt32.toInt32)), .val (.ref z1k), .val (.int 0), .val (.int ((((p4.toUInt64 >>> ((24 : Int32) &&& 0x3f).toInt64.toUInt64).toInt64) &&& (3 : Int64)).toInt32)), .val (.int (((p4 &&& (255 : Int64)).toInt32).toUInt32.toUInt16.toUInt32.toInt32)), .val (.int (((((p4.toUInt64 >>> ((8 : Int32) &&& 0x3f).toInt64.toUInt64).toInt64) &&& (255 : Int64)).toInt32).toUInt32.toUInt16.toUInt32.toInt32)), .val (.int (((((p4.toUInt64 >>> ((16 : Int32) &&& 0x3f).toInt64.toUInt64).toInt64) &&& (255 : Int64)).toInt32).toUInt32.toUInt16.toUInt32.toInt32)), .unset, .unset, .unset]) rfl ?_
                  refine XS.goto H hx rfl (pc0 := 480) (pc' := 701) rfl (hb hby at_480) (by decide) (by decide) ?_
                  exact kt
                have z2p : Old Z n0 z2h := (z2f.keep z2l (allS (lT Z0 (Nat.le_of_eq z1l.symm)) all0))
                exact (own_tA l Z a0 hw (.val (.int p1)) (.val (.int p2)) (.val (.int p3)) (.val (.long p4)) (.second) (.val (.int p5)) (.val (.int ((p1 &&& (3 : Int32)) % (3 : Int32)))) (.val (.int z1)) (.val (.int z4)) (.val (.int ((p3 &&& (255 : Int32)).toUInt32.toUInt16.toUInt32.toInt32))) (.val (.int ((((p4.toUInt64 >>> ((24 : Int32) &&& 0x3f).toInt64.toUInt64).toInt64) &&& (3 : Int64)).toInt32))) (.val (.int (((p4 &&& (255 : Int64)).toInt32).toUInt32.toUInt16.toUInt32.toInt32))) (.val (.int (((((p4.toUInt64 >>> ((8 : Int32) &&& 0x3f).toInt64.toUInt64).toInt64) &&& (255 : Int64)).toInt32).toUInt32.toUInt16.toUInt32.toInt32))) (.val (.int (((((p4.toUInt64 >>> ((16 : Int32) &&& 0x3f).toInt64.toUInt64).toInt64) &&& (255 : Int64)).toInt32).toUInt32.toUInt16.toUInt32.toInt32))) (.unset) (.unset) (Or.inr ⟨_, rfl, rfl⟩) (Or.inr ⟨_, rfl, rfl⟩) (Or.inr ⟨_, rfl, rfl⟩) (Or.inr ⟨_, rfl, rfl⟩) (Or.inl rfl) (Or.inl rfl) ([(nar .char (((p4 &&& (255 : Int64)).toInt32).toUInt32.toUInt16.toUInt32.toInt32))] : List Int32) z7 z1k t_2275 kb_2276 (0 : Int32) z2h n0 (lT Z0 (z2o.1)) Lc0 z2n z2p (Or.inl (by simp)) ((if_neg (fun q => by have := congrArg List.length q; rw [paris_len] at this; simp at this)).symm) G GS GL GD hx hby hml hret hnm hown hlk hZ (z2j.more (by decide) (by decide))).imp (fun vv hh it ⟨Lq, ⟨vq, kq⟩, aq, gq⟩ => ⟨Lq, ⟨vq, z2o.trans kq all0⟩, aq, (Jvm.Q9.Grow.refl _ _).trans gq (z2o.1)⟩)
              · skip
                have H := P0.here
                refine Jvm.Q9.Aim.of (T' := s₁) (g' := (mkF m 422 #[.val (.int p1), .val (.int p2), .val (.int p3), .val (.long p4), .second, .val (.int p5), .val (.int ((p1 &&& (3 : Int32)) % (3 : Int32))), .val (.int z1), .val (.int z4), .val (.int z7), .val (.int ((p3 &&& (255 : Int32)).toUInt32.toUInt16.toUInt32.toInt32)), .unset, .unset, .val (.int ((((p4.toUInt64 >>> ((24 : Int32) &&& 0x3f).toInt64.toUInt64).toInt64) &&& (3 : Int64)).toInt32)), .val (.int (((p4 &&& (255 : Int64)).toInt32).toUInt32.toUInt16.toUInt32.toInt32)), .val (.int (((((p4.toUInt64 >>> ((8 : Int32) &&& 0x3f).toInt64.toUInt64).toInt64) &&& (255 : Int64)).toInt32).toUInt32.toUInt16.toUInt32.toInt32)), .val (.int (((((p4.toUInt64 >>> ((16 : Int32) &&& 0x3f).toInt64.toUInt64).toInt64) &&& (255 : Int64)).toInt32).toUInt32.toUInt16.toUInt32.toInt32)), .unset, .unset, .unset] [(.int 2), (.int ((((p4.toUInt64 >>> ((24 : Int32) &&& 0x3f).toInt64.toUInt64).toInt64) &&& (3 : Int64)).toInt32))])) (fun tgt kt => ?_) ?_
                · refine XS.icmpYes H hx rfl (pc0 := 396) (pc' := 419) rfl (hb hby at_396) rfl (feq z1h).2 (by decide) (by decide) ?_
                  refine XS.iload H hx rfl (hb hby at_419) rfl ?_
                  refine XS.iconst H hx rfl (hb hby at_421) ?_
                  exact kt
                by_cases z2q : ((((p4.toUInt64 >>> ((24 : Int32) &&& 0x3f).toInt64.toUInt64).toInt64) &&& (3 : Int64)).toInt32) = (2 : Int32)
                · skip
                  have H := P0.here
                  refine Jvm.Q9.Aim.of (T' := s₁) (g' := (mkF m 425 #[.val (.int p1), .val (.int p2), .val (.int p3), .val (.long p4), .second, .val (.int p5), .val (.int ((p1 &&& (3 : Int32)) % (3 : Int32))), .val (.int z1), .val (.int z4), .val (.int z7), .val (.int ((p3 &&& (255 : Int32)).toUInt32.toUInt16.toUInt32.toInt32)), .unset, .unset, .val (.int ((((p4.toUInt64 >>> ((24 : Int32) &&& 0x3f).toInt64.toUInt64).toInt64) &&& (3 : Int64)).toInt32)), .val (.int (((p4 &&& (255 : Int64)).toInt32).toUInt32.toUInt16.toUInt32.toInt32)), .val (.int (((((p4.toUInt64 >>> ((8 : Int32) &&& 0x3f).toInt64.toUInt64).toInt64) &&& (255 : Int64)).toInt32).toUInt32.toUInt16.toUInt32.toInt32)), .val (.int (((((p4.toUInt64 >>> ((16 : Int32) &&& 0x3f).toInt64.toUInt64).toInt64) &&& (255 : Int64)).toInt32).toUInt32.toUInt16.toUInt32.toInt32)), .unset, .unset, .unset] [])) (fun tgt kt => ?_) ?_
                  · refine XS.icmpNo H hx rfl (hb hby at_422) rfl (teq z2q).2 ?_
                    exact kt
                  refine Jvm.Q9.Aim.newO P0 hx hZ hown (wI hw 2 rfl) (wI hw 3 rfl) (wI hw 4 rfl) (hb hby at_425) (by decide) (by decide) ?_
                  intro z2r z2s z2t z2u z2v z2w z2x z2y z2z
                  have z30 : Keep h0 z2s [] := (Keep.refl _ _).ext z2w
                  have z31 : Keep h0 z2s [] := (Keep.refl h0 []).trans z30 all0
                  have z32 : Fld Z z2s z2t "java/lang/String" "coder" "B" (.int 0) := z2y (Or.inr (wI hw 28 rfl)) (ty := .byte) (by decide)
                  have z33 : Fld Z z2s z2t "java/lang/String" "value" "[B" .null := z2y (Or.inr (wI hw 30 rfl)) (ty := (.array .byte)) (by decide)
                  have H := z2v.here
                  refine Jvm.Q9.Aim.of (T' := z2r) (g' := (mkF m 430 #[.val (.int p1), .val (.int p2), .val (.int p3), .val (.long p4), .second, .val (.int p5), .val (.int ((p1 &&& (3 : Int32)) % (3 : Int32))), .val (.int z1), .val (.int z4), .val (.int z7), .val (.int ((p3 &&& (255 : Int32)).toUInt32.toUInt16.toUInt32.toInt32)), .unset, .unset, .val (.int ((((p4.toUInt64 >>> ((24 : Int32) &&& 0x3f).toInt64.toUInt64).toInt64) &&& (3 : Int64)).toInt32)), .val (.int (((p4 &&& (255 : Int64)).toInt32).toUInt32.toUInt16.toUInt32.toInt32)), .val (.int (((((p4.toUInt64 >>> ((8 : Int32) &&& 0x3f).toInt64.toUInt64).toInt64) &&& (255 : Int64)).toInt32).toUInt32.toUInt16.toUInt32.toInt32)), .val (.int (((((p4.toUInt64 >>> ((16 : Int32) &&& 0x3f).toInt64.toUInt64).toInt64) &&& (255 : Int64)).toInt32).toUInt32.toUInt16.toUInt32.toInt32)), .unset, .unset, .unset] [(.int 2), (.ref z2t), (.ref z2t)])) (fun tgt kt => ?_) ?_
                  · refine XS.dup H hx rfl (hb hby at_428) rfl rfl ?_
                    refine XS.iconst H hx rfl (hb hby at_429) ?_
                    exact kt
                  refine Jvm.Q9.Aim.newP (z := (2 : Int32)) z2v hx hZ (wI hw 0 rfl) (hb hby at_430) (by decide) (cap := 2) (by decide) (by decide) (by decide) (by decide) ?_
                  intro z34 z35 z36 z37 z38 z39 z3a z3b
                  have z3c : Keep z2s z35 [] := (Keep.refl _ _).ext z3a
                  have z3d : Keep h0 z35 [] := z31.trans z3c all0
                  have z3e : Arv Z z35 z37 z36 .char (2 : Int32) [(.int 0), (.int 0)] (.int 0) := z3b.pad (pad_rep [] (.int 0) 2)
                  have H := z39.here
                  refine Jvm.Q9.Aim.of (T' := z34) (g' := (mkF m 436 #[.val (.int p1), .val (.int p2), .val (.int p3), .val (.long p4), .second, .val (.int p5), .val (.int ((p1 &&& (3 : Int32)) % (3 : Int32))), .val (.int z1), .val (.int z4), .val (.int z7), .val (.int ((p3 &&& (255 : Int32)).toUInt32.toUInt16.toUInt32.toInt32)), .unset, .unset, .val (.int ((((p4.toUInt64 >>> ((24 : Int32) &&& 0x3f).toInt64.toUInt64).toInt64) &&& (3 : Int64)).toInt32)), .val (.int (((p4 &&& (255 : Int64)).toInt32).toUInt32.toUInt16.toUInt32.toInt32)), .val (.int (((((p4.toUInt64 >>> ((8 : Int32) &&& 0x3f).toInt64.toUInt64).toInt64) &&& (255 : Int64)).toInt32).toUInt32.toUInt16.toUInt32.toInt32)), .val (.int (((((p4.toUInt64 >>> ((16 : Int32) &&& 0x3f).toInt64.toUInt64).toInt64) &&& (255 : Int64)).toInt32).toUInt32.toUInt16.toUInt32.toInt32)), .unset, .unset, .unset] [(.int (((p4 &&& (255 : Int64)).toInt32).toUInt32.toUInt16.toUInt32.toInt32)), (.int 0), (.ref z37), (.ref z37), (.ref z2t), (.ref z2t)])) (fun tgt kt => ?_) ?_
                  · refine XS.dup H hx rfl (hb hby at_432) rfl rfl ?_
                    refine XS.iconst H hx rfl (hb hby at_433) ?_
                    refine XS.iload H hx rfl (hb hby at_434) rfl ?_
                    exact kt
                  refine Jvm.Q9.Aim.stC (x := (((p4 &&& (255 : Int64)).toInt32).toUInt32.toUInt16.toUInt32.toInt32)) (j := (0 : Int32)) z39 hx hZ z3e ⟨by decide, by decide⟩ 0 rfl (Nat.le_of_ble_eq_true rfl) (hb hby at_436) (lT (lT Z0 (z31.1)) (Nat.le_of_eq z38.symm)) (Jvm.Q9.nl_new P0.ltL (lT (z31.1) (Nat.le_of_eq z38.symm))) ?_
                  intro z3f z3g z3h z3i z3j
                  have z3k : Keep h0 z3g [] := z3d.trans z3i (allS (Or.inr (lT (z31.1) (Nat.le_of_eq z38.symm))) all0)
                  have H := z3h.here
                  refine Jvm.Q9.Aim.of (T' := z3f) (g' := (mkF m 441 #[.val (.int p1), .val (.int p2), .val (.int p3), .val (.long p4), .second, .val (.int p5), .val (.int ((p1 &&& (3 : Int32)) % (3 : Int32))), .val (.int z1), .val (.int z4), .val (.int z7), .val (.int ((p3 &&& (255 : Int32)).toUInt32.toUInt16.toUInt32.toInt32)), .unset, .unset, .val (.int ((((p4.toUInt64 >>> ((24 : Int32) &&& 0x3f).toInt64.toUInt64).toInt64) &&& (3 : Int64)).toInt32)), .val (.int (((p4 &&& (255 : Int64)).toInt32).toUInt32.toUInt16.toUInt32.toInt32)), .val (.int (((((p4.toUInt64 >>> ((8 : Int32) &&& 0x3f).toInt64.toUInt64).toInt64) &&& (255 : Int64)).toInt32).toUInt32.toUInt16.toUInt32.toInt32)), .val (.int (((((p4.toUInt64 >>> ((16 : Int32) &&& 0x3f).toInt64.toUInt64).toInt64) &&& (255 : Int64)).toInt32).toUInt32.toUInt16.toUInt32.toInt32)), .unset, .unset, .unset] [(.int (((((p4.toUInt64 >>> ((8 : Int32) &&& 0x3f).toInt64.toUInt64).toInt64) &&& (255 : Int64)).toInt32).toUInt32.toUInt16.toUInt32.toInt32)), (.int 1), (.ref z37), (.ref z37), (.ref z2t), (.ref z2t)])) (fun tgt kt => ?_) ?_
                  · refine XS.dup H hx rfl (hb hby at_437) rfl rfl ?_
                    refine XS.iconst H hx rfl (hb hby at_438) ?_
                    refine XS.iload H hx rfl (hb hby at_439) rfl ?_
                    exact kt
                  refine Jvm.Q9.Aim.stC (x := (((((p4.toUInt64 >>> ((8 : Int32) &&& 0x3f).toInt64.toUInt64).toInt64) &&& (255 : Int64)).toInt32).toUInt32.toUInt16.toUInt32.toInt32)) (j := (1 : Int32)) z3h hx hZ z3j ⟨by decide, by decide⟩ 1 rfl (Nat.le_of_ble_eq_true rfl) (hb hby at_441) (lT (lT Z0 (z31.1)) (Nat.le_of_eq z38.symm)) (Jvm.Q9.nl_new P0.ltL (lT (z31.1) (Nat.le_of_eq z38.symm))) ?_
                  intro z3l z3m z3n z3o z3p
                  replace z3p : Arv Z z3m z37 z36 .char (2 : Int32) [(.int (nar .char (((p4 &&& (255 : Int64)).toInt32).toUInt32.toUInt16.toUInt32.toInt32))), (.int (nar .char (((((p4.toUInt64 >>> ((8 : Int32) &&& 0x3f).toInt64.toUInt64).toInt64) &&& (255 : Int64)).toInt32).toUInt32.toUInt16.toUInt32.toInt32)))] (.int 0) := z3p
                  have z3q : Keep h0 z3m [] := z3k.trans z3o (allS (Or.inr (lT (z31.1) (Nat.le_of_eq z38.symm))) all0)
                  have z3r : Exa Z z3m z2t "java/lang/String" := (((z2x.keep z3c).keep z3i).keep z3o)
                  have z3s : Fld Z z3m z2t "java/lang/String" "value" "[B" .null := (((z33.keep z3c nin0).keep z3i (ninS (nL (lL z2x.lt (Nat.le_of_eq z38.symm))) nin0)).keep z3o (ninS (nL (lL z2x.lt (Nat.le_of_eq z38.symm))) nin0))
                  have z3t : Fld Z z3m z2t "java/lang/String" "coder" "B" (.int 0) := (((z32.keep z3c nin0).keep z3i (ninS (nL (lL z2x.lt (Nat.le_of_eq z38.symm))) nin0)).keep z3o (ninS (nL (lL z2x.lt (Nat.le_of_eq z38.symm))) nin0))
                  have z3u : Old Z n0 z3m := ((((F0.keep z30 all0).keep z3c all0).keep z3i (allS (lT (lT Z0 (z31.1)) (Nat.le_of_eq z38.symm)) all0)).keep z3o (allS (lT (lT Z0 (z31.1)) (Nat.le_of_eq z38.symm)) all0))
                  refine Jvm.Q9.Aim.callC (argsL := [(.ref z37)]) (rest := [(.ref z2t)]) z3n hx hZ hml hown rfl (wI hw 5 rfl) (wI hw 6 rfl) (wI hw 7 rfl) (by decide) (fun vm0 hZ => own_newStr (s := s.setVm vm0) (W := 1) hZ (by decide) (by decide) hw z2t z37 z36 ([(nar .char (((p4 &&& (255 : Int64)).toInt32).toUInt32.toUInt16.toUInt32.toInt32)), (nar .char (((((p4.toUInt64 >>> ((8 : Int32) &&& 0x3f).toInt64.toUInt64).toInt64) &&& (255 : Int64)).toInt32).toUInt32.toUInt16.toUInt32.toInt32))] : List Int32) (2 : Int32) (.int 0) (.null) (.int 0) 2 z3m n0 (lT Z0 (z3q.1)) (lT Z0 (Nat.le_of_eq z2u.symm)) z3r z3s z3t z3p z3u rfl rfl (by decide) (by decide) (by intro c hc; simp only [List.mem_cons, List.not_mem_nil, or_false] at hc; rcases hc with rfl | rfl <;> exact (own_narC (own_charJ _)).symm ▸ own_charJ _) G) (fun _ _ ⟨_, _, _, q, _, _⟩ => q) (allS (Jvm.Q9.nl_new P0.ltL (lT (Nat.le_refl _) (Nat.le_of_eq z2u.symm))) all0) rfl pd__28_5bC_29V rfl (Nat.le_of_eq rfl) (hb hby at_442) (by decide) (by decide) ?_
                  intro z3v z3w z3x z3y z3z
                  obtain ⟨t_2331, kb_2332, rfl, z40, z41, z42⟩ := z3z
                  have z43 : Keep h0 z3w [] := z3q.trans z40 (allS (Or.inr (lT (Nat.le_refl _) (Nat.le_of_eq z2u.symm))) all0)
                  have H := z3y.here
                  refine Jvm.Q9.Aim.of (T' := z3v) (g' := (mkF m 701 #[.val (.int p1), .val (.int p2), .val (.int p3), .val (.long p4), .second, .val (.int p5), .val (.int ((p1 &&& (3 : Int32)) % (3 : Int32))), .val (.int z1), .val (.int z4), .val (.int z7), .val (.int ((p3 &&& (255 : Int32)).toUInt32.toUInt16.toUInt32.toInt32)), .val (.ref z2t), .val (.int 0), .val (.int ((((p4.toUInt64 >>> ((24 : Int32) &&& 0x3f).toInt64.toUInt64).toInt64) &&& (3 : Int64)).toInt32)), .val (.int (((p4 &&& (255 : Int64)).toInt32).toUInt32.toUInt16.toUInt32.toInt32)), .val (.int (((((p4.toUInt64 >>> ((8 : Int32) &&& 0x3f).toInt64.toUInt64).toInt64) &&& (255 : Int64)).toInt32).toUInt32.toUInt16.toUInt32.toInt32)), .val (.int (((((p4.toUInt64 >>> ((16 : Int32) &&& 0x3f).toInt64.toUInt64).toInt64) &&& (255 : Int64)).toInt32).toUInt32.toUInt16.toUInt32.toInt32)), .unset, .unset, .unset] [])) (fun tgt kt => ?_) ?_
                  · refine XS.astore H hx rfl (hb hby at_445) rfl rfl (l' := #[.val (.int p1), .val (.int p2), .val (.int p3), .val (.long p4), .second, .val (.int p5), .val (.int ((p1 &&& (3 : Int32)) % (3 : Int32))), .val (.int z1), .val (.int z4), .val (.int z7), .val (.int ((p3 &&& (255 : Int32)).toUInt32.toUInt16.toUInt32.toInt32)), .val (.ref z2t), .unset, .val (.int ((((p4.toUInt64 >>> ((24 : Int32) &&& 0x3f).toInt64.toUInt64).toInt64) &&& (3 : Int64)).toInt32)), .val (.int (((p4 &&& (255 : Int64)).toInt32).toUInt32.toUInt16.toUInt32.toInt32)), .val (.int (((((p4.toUInt64 >>> ((8 : Int32) &&& 0x3f).toInt64.toUInt64).toInt64) &&& (255 : Int64)).toInt32).toUInt32.toUInt16.toUInt32.toInt32)), .val (.int (((((p4.toUInt64 >>> ((16 : Int32) &&& 0x3f).toInt64.toUInt64).toInt64) &&& (255 : Int64)).toInt32).toUInt32.toUInt16.toUInt32.toInt32)), .unset, .unset, .unset]) rfl ?_
                    refine XS.goto H hx rfl (pc0 := 447) (pc' := 477) rfl (hb hby at_447) (by decide) (by decide) ?_
                    refine XS.iconst H hx rfl (hb hby at_477) ?_
                    refine XS.istore H hx rfl (hb hby at_478) rfl (l' := #[.val (.int p1), .val (.int p2), .val (.int p3), .val (.long p4), .second, .val (.int p5), .val (.int ((p1 &&& (3 : Int32)) % (3 : Int32))), .val (.int z1), .val (.int z4), .val (.int z7), .val (.int ((p3 &&& (255 : Int32)).toUInt32.toUInt16.toUInt32.toInt32)), .val (.ref z2t), .val (.int 0), .val (.int ((((p4.toUInt64 >>> ((24 : Int32) &&& 0x3f).toInt64.toUInt64).toInt64) &&& (3 : Int64)).toInt32)), .val (.int (((p4 &&& (255 : Int64)).toInt32).toUInt32.toUInt16.toUInt32.toInt32)), .val (.int (((((p4.toUInt64 >>> ((8 : Int32) &&& 0x3f).toInt64.toUInt64).toInt64) &&& (255 : Int64)).toInt32).toUInt32.toUInt16.toUInt32.toInt32)), .val (.int (((((p4.toUInt64 >>> ((16 : Int32) &&& 0x3f).toInt64.toUInt64).toInt64) &&& (255 : Int64)).toInt32).toUInt32.toUInt16.toUInt32.toInt32)), .unset, .unset, .unset]) rfl ?_
                    refine XS.goto H hx rfl (pc0 := 480) (pc' := 701) rfl (hb hby at_480) (by decide) (by decide) ?_
                    exact kt
                  have z44 : Old Z n0 z3w := (z3u.keep z40 (allS (lT Z0 (Nat.le_of_eq z2u.symm)) all0))
                  exact (own_tA l Z a0 hw (.val (.int p1)) (.val (.int p2)) (.val (.int p3)) (.val (.long p4)) (.second) (.val (.int p5)) (.val (.int ((p1 &&& (3 : Int32)) % (3 : Int32)))) (.val (.int z1)) (.val (.int z4)) (.val (.int ((p3 &&& (255 : Int32)).toUInt32.toUInt16.toUInt32.toInt32))) (.val (.int ((((p4.toUInt64 >>> ((24 : Int32) &&& 0x3f).toInt64.toUInt64).toInt64) &&& (3 : Int64)).toInt32))) (.val (.int (((p4 &&& (255 : Int64)).toInt32).toUInt32.toUInt16.toUInt32.toInt32))) (.val (.int (((((p4.toUInt64 >>> ((8 : Int32) &&& 0x3f).toInt64.toUInt64).toInt64) &&& (255 : Int64)).toInt32).toUInt32.toUInt16.toUInt32.toInt32))) (.val (.int (((((p4.toUInt64 >>> ((16 : Int32) &&& 0x3f).toInt64.toUInt64).toInt64) &&& (255 : Int64)).toInt32).toUInt32.toUInt16.toUInt32.toInt32))) (.unset) (.unset) (Or.inr ⟨_, rfl, rfl⟩) (Or.inr ⟨_, rfl, rfl⟩) (Or.inr ⟨_, rfl, rfl⟩) (Or.inr ⟨_, rfl, rfl⟩) (Or.inl rfl) (Or.inl rfl) ([(nar .char (((p4 &&& (255 : Int64)).toInt32).toUInt32.toUInt16.toUInt32.toInt32)), (nar .char (((((p4.toUInt64 >>> ((8 : Int32) &&& 0x3f).toInt64.toUInt64).toInt64) &&& (255 : Int64)).toInt32).toUInt32.toUInt16.toUInt32.toInt32))] : List Int32) z7 z2t t_2331 kb_2332 (0 : Int32) z3w n0 (lT Z0 (z43.1)) Lc0 z42 z44 (Or.inl (by simp)) ((if_neg (fun q => by have := congrArg List.length q; rw [paris_len] at this; simp at this)).symm) G GS GL GD hx hby hml hret hnm hown hlk hZ (z3y.more (by decide) (by decide))).imp (fun vv hh it ⟨Lq, ⟨vq, kq⟩, aq, gq⟩ => ⟨Lq, ⟨vq, z43.trans kq all0⟩, aq, (Jvm.Q9.Grow.refl _ _).trans gq (z43.1)⟩)
                · skip
                  have H := P0.here
                  refine Jvm.Q9.Aim.of (T' := s₁) (g' := (mkF m 450 #[.val (.int p1), .val (.int p2), .val (.int p3), .val (.long p4), .second, .val (.int p5), .val (.int ((p1 &&& (3 : Int32)) % (3 : Int32))), .val (.int z1), .val (.int z4), .val (.int z7), .val (.int ((p3 &&& (255 : Int32)).toUInt32.toUInt16.toUInt32.toInt32)), .unset, .unset, .val (.int ((((p4.toUInt64 >>> ((24 : Int32) &&& 0x3f).toInt64.toUInt64).toInt64) &&& (3 : Int64)).toInt32)), .val (.int (((p4 &&& (255 : Int64)).toInt32).toUInt32.toUInt16.toUInt32.toInt32)), .val (.int (((((p4.toUInt64 >>> ((8 : Int32) &&& 0x3f).toInt64.toUInt64).toInt64) &&& (255 : Int64)).toInt32).toUInt32.toUInt16.toUInt32.toInt32)), .val (.int (((((p4.toUInt64 >>> ((16 : Int32) &&& 0x3f).toInt64.toUInt64).toInt64) &&& (255 : Int64)).toInt32).toUInt32.toUInt16.toUInt32.toInt32)), .unset, .unset, .unset] [])) (fun tgt kt => ?_) ?_
                  · refine XS.icmpYes H hx rfl (pc0 := 422) (pc' := 450) rfl (hb hby at_422) rfl (feq z2q).2 (by decide) (by decide) ?_
                    exact kt
                  refine Jvm.Q9.Aim.newO P0 hx hZ hown (wI hw 2 rfl) (wI hw 3 rfl) (wI hw 4 rfl) (hb hby at_450) (by decide) (by decide) ?_
                  intro z45 z46 z47 z48 z49 z4a z4b z4c z4d
                  have z4e : Keep h0 z46 [] := (Keep.refl _ _).ext z4a
                  have z4f : Keep h0 z46 [] := (Keep.refl h0 []).trans z4e all0
                  have z4g : Fld Z z46 z47 "java/lang/String" "coder" "B" (.int 0) := z4c (Or.inr (wI hw 28 rfl)) (ty := .byte) (by decide)
                  have z4h : Fld Z z46 z47 "java/lang/String" "value" "[B" .null := z4c (Or.inr (wI hw 30 rfl)) (ty := (.array .byte)) (by decide)
                  have H := z49.here
                  refine Jvm.Q9.Aim.of (T' := z45) (g' := (mkF m 455 #[.val (.int p1), .val (.int p2), .val (.int p3), .val (.long p4), .second, .val (.int p5), .val (.int ((p1 &&& (3 : Int32)) % (3 : Int32))), .val (.int z1), .val (.int z4), .val (.int z7), .val (.int ((p3 &&& (255 : Int32)).toUInt32.toUInt16.toUInt32.toInt32)), .unset, .unset, .val (.int ((((p4.toUInt64 >>> ((24 : Int32) &&& 0x3f).toInt64.toUInt64).toInt64) &&& (3 : Int64)).toInt32)), .val (.int (((p4 &&& (255 : Int64)).toInt32).toUInt32.toUInt16.toUInt32.toInt32)), .val (.int (((((p4.toUInt64 >>> ((8 : Int32) &&& 0x3f).toInt64.toUInt64).toInt64) &&& (255 : Int64)).toInt32).toUInt32.toUInt16.toUInt32.toInt32)), .val (.int (((((p4.toUInt64 >>> ((16 : Int32) &&& 0x3f).toInt64.toUInt64).toInt64) &&& (255 : Int64)).toInt32).toUInt32.toUInt16.toUInt32.toInt32)), .unset, .unset, .unset] [(.int 3), (.ref z47), (.ref z47)])) (fun tgt kt => ?_) ?_
                  · refine XS.dup H hx rfl (hb hby at_453) rfl rfl ?_
                    refine XS.iconst H hx rfl (hb hby at_454) ?_
                    exact kt
                  refine Jvm.Q9.Aim.newP (z := (3 : Int32)) z49 hx hZ (wI hw 0 rfl) (hb hby at_455) (by decide) (cap := 3) (by decide) (by decide) (by decide) (by decide) ?_
                  intro z4i z4j z4k z4l z4m z4n z4o z4p
                  have z4q : Keep z46 z4j [] := (Keep.refl _ _).ext z4o
                  have z4r : Keep h0 z4j [] := z4f.trans z4q all0
                  have z4s : Arv Z z4j z4l z4k .char (3 : Int32) [(.int 0), (.int 0), (.int 0)] (.int 0) := z4p.pad (pad_rep [] (.int 0) 3)
                  have H := z4n.here
                  refine Jvm.Q9.Aim.of (T' := z4i) (g' := (mkF m 461 #[.val (.int p1), .val (.int p2), .val (.int p3), .val (.long p4), .second, .val (.int p5), .val (.int ((p1 &&& (3 : Int32)) % (3 : Int32))), .val (.int z1), .val (.int z4), .val (.int z7), .val (.int ((p3 &&& (255 : Int32)).toUInt32.toUInt16.toUInt32.toInt32)), .unset, .unset, .val (.int ((((p4.toUInt64 >>> ((24 : Int32) &&& 0x3f).toInt64.toUInt64).toInt64) &&& (3 : Int64)).toInt32)), .val (.int (((p4 &&& (255 : Int64)).toInt32).toUInt32.toUInt16.toUInt32.toInt32)), .val (.int (((((p4.toUInt64 >>> ((8 : Int32) &&& 0x3f).toInt64.toUInt64).toInt64) &&& (255 : Int64)).toInt32).toUInt32.toUInt16.toUInt32.toInt32)), .val (.int (((((p4.toUInt64 >>> ((16 : Int32) &&& 0x3f).toInt64.toUInt64).toInt64) &&& (255 : Int64)).toInt32).toUInt32.toUInt16.toUInt32.toInt32)), .unset, .unset, .unset] [(.int (((p4 &&& (255 : Int64)).toInt32).toUInt32.toUInt16.toUInt32.toInt32)), (.int 0), (.ref z4l), (.ref z4l), (.ref z47), (.ref z47)])) (fun tgt kt => ?_) ?_
                  · refine XS.dup H hx rfl (hb hby at_457) rfl rfl ?_
                    refine XS.iconst H hx rfl (hb hby at_458) ?_
                    refine XS.iload H hx rfl (hb hby at_459) rfl ?_
                    exact kt
                  refine Jvm.Q9.Aim.stC (x := (((p4 &&& (255 : Int64)).toInt32).toUInt32.toUInt16.toUInt32.toInt32)) (j := (0 : Int32)) z4n hx hZ z4s ⟨by decide, by decide⟩ 0 rfl (Nat.le_of_ble_eq_true rfl) (hb hby at_461) (lT (lT Z0 (z4f.1)) (Nat.le_of_eq z4m.symm)) (Jvm.Q9.nl_new P0.ltL (lT (z4f.1) (Nat.le_of_eq z4m.symm))) ?_
                  intro z4t z4u z4v z4w z4x
                  have z4y : Keep h0 z4u [] := z4r.trans z4w (allS (Or.inr (lT (z4f.1) (Nat.le_of_eq z4m.symm))) all0)
                  have H := z4v.here
                  refine Jvm.Q9.Aim.of (T' := z4t) (g' := (mkF m 466 #[.val (.int p1), .val (.int p2), .val (.int p3), .val (.long p4), .second, .val (.int p5), .val (.int ((p1 &&& (3 : Int32)) % (3 : Int32))), .val (.int z1), .val (.int z4), .val (.int z7), .val (.int ((p3 &&& (255 : Int32)).toUInt32.toUInt16.toUInt32.toInt32)), .unset, .unset, .val (.int ((((p4.toUInt64 >>> ((24 : Int32) &&& 0x3f).toInt64.toUInt64).toInt64) &&& (3 : Int64)).toInt32)), .val (.int (((p4 &&& (255 : Int64)).toInt32).toUInt32.toUInt16.toUInt32.toInt32)), .val (.int (((((p4.toUInt64 >>> ((8 : Int32) &&& 0x3f).toInt64.toUInt64).toInt64) &&& (255 : Int64)).toInt32).toUInt32.toUInt16.toUInt32.toInt32)), .val (.int (((((p4.toUInt64 >>> ((16 : Int32) &&& 0x3f).toInt64.toUInt64).toInt64) &&& (255 : Int64)).toInt32).toUInt32.toUInt16.toUInt32.toInt32)), .unset, .unset, .unset] [(.int (((((p4.toUInt64 >>> ((8 : Int32) &&& 0x3f).toInt64.toUInt64).toInt64) &&& (255 : Int64)).toInt32).toUInt32.toUInt16.toUInt32.toInt32)), (.int 1), (.ref z4l), (.ref z4l), (.ref z47), (.ref z47)])) (fun tgt kt => ?_) ?_
                  · refine XS.dup H hx rfl (hb hby at_462) rfl rfl ?_
                    refine XS.iconst H hx rfl (hb hby at_463) ?_
                    refine XS.iload H hx rfl (hb hby at_464) rfl ?_
                    exact kt
                  refine Jvm.Q9.Aim.stC (x := (((((p4.toUInt64 >>> ((8 : Int32) &&& 0x3f).toInt64.toUInt64).toInt64) &&& (255 : Int64)).toInt32).toUInt32.toUInt16.toUInt32.toInt32)) (j := (1 : Int32)) z4v hx hZ z4x ⟨by decide, by decide⟩ 1 rfl (Nat.le_of_ble_eq_true rfl) (hb hby at_466) (lT (lT Z0 (z4f.1)) (Nat.le_of_eq z4m.symm)) (Jvm.Q9.nl_new P0.ltL (lT (z4f.1) (Nat.le_of_eq z4m.symm))) ?_
                  intro z4z z50 z51 z52 z53
                  have z54 : Keep h0 z50 [] := z4y.trans z52 (allS (Or.inr (lT (z4f.1) (Nat.le_of_eq z4m.symm))) all0)
                  have H := z51.here
                  refine Jvm.Q9.Aim.of (T' := z4z) (g' := (mkF m 471 #[.val (.int p1), .val (.int p2), .val (.int p3), .val (.long p4), .second, .val (.int p5), .val (.int ((p1 &&& (3 : Int32)) % (3 : Int32))), .val (.int z1), .val (.int z4), .val (.int z7), .val (.int ((p3 &&& (255 : Int32)).toUInt32.toUInt16.toUInt32.toInt32)), .unset, .unset, .val (.int ((((p4.toUInt64 >>> ((24 : Int32) &&& 0x3f).toInt64.toUInt64).toInt64) &&& (3 : Int64)).toInt32)), .val (.int (((p4 &&& (255 : Int64)).toInt32).toUInt32.toUInt16.toUInt32.toInt32)), .val (.int (((((p4.toUInt64 >>> ((8 : Int32) &&& 0x3f).toInt64.toUInt64).toInt64) &&& (255 : Int64)).toInt32).toUInt32.toUInt16.toUInt32.toInt32)), .val (.int (((((p4.toUInt64 >>> ((16 : Int32) &&& 0x3f).toInt64.toUInt64).toInt64) &&& (255 : Int64)).toInt32).toUInt32.toUInt16.toUInt32.toInt32)), .unset, .unset, .unset] [(.int (((((p4.toUInt64 >>> ((16 : Int32) &&& 0x3f).toInt64.toUInt64).toInt64) &&& (255 : Int64)).toInt32).toUInt32.toUInt16.toUInt32.toInt32)), (.int 2), (.ref z4l), (.ref z4l), (.ref z47), (.ref z47)])) (fun tgt kt => ?_) ?_
                  · refine XS.dup H hx rfl (hb hby at_467) rfl rfl ?_
                    refine XS.iconst H hx rfl (hb hby at_468) ?_
                    refine XS.iload H hx rfl (hb hby at_469) rfl ?_
                    exact kt
                  refine Jvm.Q9.Aim.stC (x := (((((p4.toUInt64 >>> ((16 : Int32) &&& 0x3f).toInt64.toUInt64).toInt64) &&& (255 : Int64)).toInt32).toUInt32.toUInt16.toUInt32.toInt32)) (j := (2 : Int32)) z51 hx hZ z53 ⟨by decide, by decide⟩ 2 rfl (Nat.le_of_ble_eq_true rfl) (hb hby at_471) (lT (lT Z0 (z4f.1)) (Nat.le_of_eq z4m.symm)) (Jvm.Q9.nl_new P0.ltL (lT (z4f.1) (Nat.le_of_eq z4m.symm))) ?_
                  intro z55 z56 z57 z58 z59
                  replace z59 : Arv Z z56 z4l z4k .char (3 : Int32) [(.int (nar .char (((p4 &&& (255 : Int64)).toInt32).toUInt32.toUInt16.toUInt32.toInt32))), (.int (nar .char (((((p4.toUInt64 >>> ((8 : Int32) &&& 0x3f).toInt64.toUInt64).toInt64) &&& (255 : Int64)).toInt32).toUInt32.toUInt16.toUInt32.toInt32))), (.int (nar .char (((((p4.toUInt64 >>> ((16 : Int32) &&& 0x3f).toInt64.toUInt64).toInt64) &&& (255 : Int64)).toInt32).toUInt32.toUInt16.toUInt32.toInt32)))] (.int 0) := z59
                  have z5a : Keep h0 z56 [] := z54.trans z58 (allS (Or.inr (lT (z4f.1) (Nat.le_of_eq z4m.symm))) all0)
                  have z5b : Exa Z z56 z47 "java/lang/String" := ((((z4b.keep z4q).keep z4w).keep z52).keep z58)
                  have z5c : Fld Z z56 z47 "java/lang/String" "value" "[B" .null := ((((z4h.keep z4q nin0).keep z4w (ninS (nL (lL z4b.lt (Nat.le_of_eq z4m.symm))) nin0)).keep z52 (ninS (nL (lL z4b.lt (Nat.le_of_eq z4m.symm))) nin0)).keep z58 (ninS (nL (lL z4b.lt (Nat.le_of_eq z4m.symm))) nin0))
                  have z5d : Fld Z z56 z47 "java/lang/String" "coder" "B" (.int 0) := ((((z4g.keep z4q nin0).keep z4w (ninS (nL (lL z4b.lt (Nat.le_of_eq z4m.symm))) nin0)).keep z52 (ninS (nL (lL z4b.lt (Nat.le_of_eq z4m.symm))) nin0)).keep z58 (ninS (nL (lL z4b.lt (Nat.le_of_eq z4m.symm))) nin0))
                  have z5e : Old Z n0 z56 := (((((F0.keep z4e all0).keep z4q all0).keep z4w (allS (lT (lT Z0 (z4f.1)) (Nat.le_of_eq z4m.symm)) all0)).keep z52 (allS (lT (lT Z0 (z4f.1)) (Nat.le_of_eq z4m.symm)) all0)).keep z58 (allS (lT (lT Z0 (z4f.1)) (Nat.le_of_eq z4m.symm)) all0))
                  refine Jvm.Q9.Aim.callC (argsL := [(.ref z4l)]) (rest := [(.ref z47)]) z57 hx hZ hml hown rfl (wI hw 5 rfl) (wI hw 6 rfl) (wI hw 7 rfl) (by decide) (fun vm0 hZ => own_newStr (s := s.setVm vm0) (W := 1) hZ (by decide) (by decide) hw z47 z4l z4k ([(nar .char (((p4 &&& (255 : Int64)).toInt32).toUInt32.toUInt16.toUInt32.toInt32)), (nar .char (((((p4.toUInt64 >>> ((8 : Int32) &&& 0x3f).toInt64.toUInt64).toInt64) &&& (255 : Int64)).toInt32).toUInt32.toUInt16.toUInt32.toInt32)), (nar .char (((((p4.toUInt64 >>> ((16 : Int32) &&& 0x3f).toInt64.toUInt64).toInt64) &&& (255 : Int64)).toInt32).toUInt32.toUInt16.toUInt32.toInt32))] : List Int32) (3 : Int32) (.int 0) (.null) (.int 0) 3 z56 n0 (lT Z0 (z5a.1)) (lT Z0 (Nat.le_of_eq z48.symm)) z5b z5c z5d z59 z5e rfl rfl (by decide) (by decide) (by intro c hc; simp only [List.mem_cons, List.not_mem_nil, or_false] at hc; rcases hc with rfl | rfl | rfl <;> exact (own_narC (own_charJ _)).symm ▸ own_charJ _) G) (fun _ _ ⟨_, _, _, q, _, _⟩ => q) (allS (Jvm.Q9.nl_new P0.ltL (lT (Nat.le_refl _) (Nat.le_of_eq z48.symm))) all0) rfl pd__28_5bC_29V rfl (Nat.le_of_eq rfl) (hb hby at_472) (by decide) (by decide) ?_
                  intro z5f z5g z5h z5i z5j
                  obtain ⟨t_2392, kb_2393, rfl, z5k, z5l, z5m⟩ := z5j
                  have z5n : Keep h0 z5g [] := z5a.trans z5k (allS (Or.inr (lT (Nat.le_refl _) (Nat.le_of_eq z48.symm))) all0)
                  have H := z5i.here
                  refine Jvm.Q9.Aim.of (T' := z5f) (g' := (mkF m 701 #[.val (.int p1), .val (.int p2), .val (.int p3), .val (.long p4), .second, .val (.int p5), .val (.int ((p1 &&& (3 : Int32)) % (3 : Int32))), .val (.int z1), .val (.int z4), .val (.int z7), .val (.int ((p3 &&& (255 : Int32)).toUInt32.toUInt16.toUInt32.toInt32)), .val (.ref z47), .val (.int 0), .val (.int ((((p4.toUInt64 >>> ((24 : Int32) &&& 0x3f).toInt64.toUInt64).toInt64) &&& (3 : Int64)).toInt32)), .val (.int (((p4 &&& (255 : Int64)).toInt32).toUInt32.toUInt16.toUInt32.toInt32)), .val (.int (((((p4.toUInt64 >>> ((8 : Int32) &&& 0x3f).toInt64.toUInt64).toInt64) &&& (255 : Int64)).toInt32).toUInt32.toUInt16.toUInt32.toInt32)), .val (.int (((((p4.toUInt64 >>> ((16 : Int32) &&& 0x3f).toInt64.toUInt64).toInt64) &&& (255 : Int64)).toInt32).toUInt32.toUInt16.toUInt32.toInt32)), .unset, .unset, .unset] [])) (fun tgt kt => ?_) ?_
                  · refine XS.astore H hx rfl (hb hby at_475) rfl rfl (l' := #[.val (.int p1), .val (.int p2), .val (.int p3), .val (.long p4), .second, .val (.int p5), .val (.int ((p1 &&& (3 : Int32)) % (3 : Int32))), .val (.int z1), .val (.int z4), .val (.int z7), .val (.int ((p3 &&& (255 : Int32)).toUInt32.toUInt16.toUInt32.toInt32)), .val (.ref z47), .unset, .val (.int ((((p4.toUInt64 >>> ((24 : Int32) &&& 0x3f).toInt64.toUInt64).toInt64) &&& (3 : Int64)).toInt32)), .val (.int (((p4 &&& (255 : Int64)).toInt32).toUInt32.toUInt16.toUInt32.toInt32)), .val (.int (((((p4.toUInt64 >>> ((8 : Int32) &&& 0x3f).toInt64.toUInt64).toInt64) &&& (255 : Int64)).toInt32).toUInt32.toUInt16.toUInt32.toInt32)), .val (.int (((((p4.toUInt64 >>> ((16 : Int32) &&& 0x3f).toInt64.toUInt64).toInt64) &&& (255 : Int64)).toInt32).toUInt32.toUInt16.toUInt32.toInt32)), .unset, .unset, .unset]) rfl ?_
                    refine XS.iconst H hx rfl (hb hby at_477) ?_
                    refine XS.istore H hx rfl (hb hby at_478) rfl (l' := #[.val (.int p1), .val (.int p2), .val (.int p3), .val (.long p4), .second, .val (.int p5), .val (.int ((p1 &&& (3 : Int32)) % (3 : Int32))), .val (.int z1), .val (.int z4), .val (.int z7), .val (.int ((p3 &&& (255 : Int32)).toUInt32.toUInt16.toUInt32.toInt32)), .val (.ref z47), .val (.int 0), .val (.int ((((p4.toUInt64 >>> ((24 : Int32) &&& 0x3f).toInt64.toUInt64).toInt64) &&& (3 : Int64)).toInt32)), .val (.int (((p4 &&& (255 : Int64)).toInt32).toUInt32.toUInt16.toUInt32.toInt32)), .val (.int (((((p4.toUInt64 >>> ((8 : Int32) &&& 0x3f).toInt64.toUInt64).toInt64) &&& (255 : Int64)).toInt32).toUInt32.toUInt16.toUInt32.toInt32)), .val (.int (((((p4.toUInt64 >>> ((16 : Int32) &&& 0x3f).toInt64.toUInt64).toInt64) &&& (255 : Int64)).toInt32).toUInt32.toUInt16.toUInt32.toInt32)), .unset, .unset, .unset]) rfl ?_
                    refine XS.goto H hx rfl (pc0 := 480) (pc' := 701) rfl (hb hby at_480) (by decide) (by decide) ?_
                    exact kt
                  have z5o : Old Z n0 z5g := (z5e.keep z5k (allS (lT Z0 (Nat.le_of_eq z48.symm)) all0))
                  exact (own_tA l Z a0 hw (.val (.int p1)) (.val (.int p2)) (.val (.int p3)) (.val (.long p4)) (.second) (.val (.int p5)) (.val (.int ((p1 &&& (3 : Int32)) % (3 : Int32)))) (.val (.int z1)) (.val (.int z4)) (.val (.int ((p3 &&& (255 : Int32)).toUInt32.toUInt16.toUInt32.toInt32))) (.val (.int ((((p4.toUInt64 >>> ((24 : Int32) &&& 0x3f).toInt64.toUInt64).toInt64) &&& (3 : Int64)).toInt32))) (.val (.int (((p4 &&& (255 : Int64)).toInt32).toUInt32.toUInt16.toUInt32.toInt32))) (.val (.int (((((p4.toUInt64 >>> ((8 : Int32) &&& 0x3f).toInt64.toUInt64).toInt64) &&& (255 : Int64)).toInt32).toUInt32.toUInt16.toUInt32.toInt32))) (.val (.int (((((p4.toUInt64 >>> ((16 : Int32) &&& 0x3f).toInt64.toUInt64).toInt64) &&& (255 : Int64)).toInt32).toUInt32.toUInt16.toUInt32.toInt32))) (.unset) (.unset) (Or.inr ⟨_, rfl, rfl⟩) (Or.inr ⟨_, rfl, rfl⟩) (Or.inr ⟨_, rfl, rfl⟩) (Or.inr ⟨_, rfl, rfl⟩) (Or.inl rfl) (Or.inl rfl) ([(nar .char (((p4 &&& (255 : Int64)).toInt32).toUInt32.toUInt16.toUInt32.toInt32)), (nar .char (((((p4.toUInt64 >>> ((8 : Int32) &&& 0x3f).toInt64.toUInt64).toInt64) &&& (255 : Int64)).toInt32).toUInt32.toUInt16.toUInt32.toInt32)), (nar .char (((((p4.toUInt64 >>> ((16 : Int32) &&& 0x3f).toInt64.toUInt64).toInt64) &&& (255 : Int64)).toInt32).toUInt32.toUInt16.toUInt32.toInt32))] : List Int32) z7 z47 t_2392 kb_2393 (0 : Int32) z5g n0 (lT Z0 (z5n.1)) Lc0 z5m z5o (Or.inl (by simp)) ((if_neg (fun q => by have := congrArg List.length q; rw [paris_len] at this; simp at this)).symm) G GS GL GD hx hby hml hret hnm hown hlk hZ (z5i.more (by decide) (by decide))).imp (fun vv hh it ⟨Lq, ⟨vq, kq⟩, aq, gq⟩ => ⟨Lq, ⟨vq, z5n.trans kq all0⟩, aq, (Jvm.Q9.Grow.refl _ _).trans gq (z5n.1)⟩)
          · skip
            have H := P0.here
            refine Jvm.Q9.Aim.of (T' := s₁) (g' := (mkF m 483 #[.val (.int p1), .val (.int p2), .val (.int p3), .val (.long p4), .second, .val (.int p5), .val (.int ((p1 &&& (3 : Int32)) % (3 : Int32))), .val (.int z1), .val (.int z4), .val (.int z7), .val (.int ((p3 &&& (255 : Int32)).toUInt32.toUInt16.toUInt32.toInt32)), .unset, .unset, .unset, .unset, .unset, .unset, .unset, .unset, .unset] [])) (fun tgt kt => ?_) ?_
            · refine XS.icmpYes H hx rfl (pc0 := 326) (pc' := 483) rfl (hb hby at_326) rfl (feq za).2 (by decide) (by decide) ?_
              exact kt
            exact (own_m2 l Z a0 hw (.val (.int p1)) (.val (.int p2)) (.val (.long p4)) (.second) (.val (.int p5)) (.val (.int ((p1 &&& (3 : Int32)) % (3 : Int32)))) (.val (.int z1)) (.val (.int z4)) p3 z7 h0 n0 Z0 Lc0 F0 G GS GL GD hx hby hml hret hnm hown hlk hZ (P0.more (by decide) (by decide))).imp (fun vv hh it ⟨Lq, ⟨vq, kq⟩, aq, gq⟩ => ⟨Lq, ⟨vq, (Keep.refl h0 []).trans kq all0⟩, aq, (Jvm.Q9.Grow.refl _ _).trans gq (Nat.le_refl _)⟩)
      by_cases z5p : z4 = (0 : Int32)
      · skip
        have H := P0.here
        refine Jvm.Q9.Aim.of (T' := s₁) (g' := (mkF m 45 #[.val (.int p1), .val (.int p2), .val (.int p3), .val (.long p4), .second, .val (.int p5), .val (.int ((p1 &&& (3 : Int32)) % (3 : Int32))), .val (.int z1), .val (.int z4), .unset, .unset, .unset, .unset, .unset, .unset, .unset, .unset, .unset, .unset, .unset] [(.int p5)])) (fun tgt kt => ?_) ?_
        · refine XS.ifYes H hx rfl (pc0 := 36) (pc' := 43) rfl (hb hby at_36) rfl ((if0 _ _).trans (teq z5p).1) (by decide) (by decide) ?_
          refine XS.iload H hx rfl (hb hby at_43) rfl ?_
          exact kt
        exact z6 _ (if_pos z5p).symm
      · skip
        have H := P0.here
        refine Jvm.Q9.Aim.of (T' := s₁) (g' := (mkF m 45 #[.val (.int p1), .val (.int p2), .val (.int p3), .val (.long p4), .second, .val (.int p5), .val (.int ((p1 &&& (3 : Int32)) % (3 : Int32))), .val (.int z1), .val (.int z4), .unset, .unset, .unset, .unset, .unset, .unset, .unset, .unset, .unset, .unset, .unset] [(.int 1)])) (fun tgt kt => ?_) ?_
        · refine XS.ifNo H hx rfl (hb hby at_36) rfl ((if0 _ _).trans (feq z5p).1) ?_
          refine XS.iconst H hx rfl (hb hby at_39) ?_
          refine XS.goto H hx rfl (pc0 := 40) (pc' := 45) rfl (hb hby at_40) (by decide) (by decide) ?_
          exact kt
        exact z6 _ (if_neg z5p).symm
    by_cases z5q : (p1 &&& (8 : Int32)) = (0 : Int32)
    · skip
      have H := P0.here
      refine Jvm.Q9.Aim.of (T' := s₁) (g' := (mkF m 32 #[.val (.int p1), .val (.int p2), .val (.int p3), .val (.long p4), .second, .val (.int p5), .val (.int ((p1 &&& (3 : Int32)) % (3 : Int32))), .val (.int z1), .unset, .unset, .unset, .unset, .unset, .unset, .unset, .unset, .unset, .unset, .unset, .unset] [(.int 0)])) (fun tgt kt => ?_) ?_
      · refine XS.ifYes H hx rfl (pc0 := 24) (pc' := 31) rfl (hb hby at_24) rfl ((if0 _ _).trans (teq z5q).1) (by decide) (by decide) ?_
        refine XS.iconst H hx rfl (hb hby at_31) ?_
        exact kt
      exact z3 _ (if_pos z5q).symm
    · skip
      have H := P0.here
      refine Jvm.Q9.Aim.of (T' := s₁) (g' := (mkF m 32 #[.val (.int p1), .val (.int p2), .val (.int p3), .val (.long p4), .second, .val (.int p5), .val (.int ((p1 &&& (3 : Int32)) % (3 : Int32))), .val (.int z1), .unset, .unset, .unset, .unset, .unset, .unset, .unset, .unset, .unset, .unset, .unset, .unset] [(.int 1)])) (fun tgt kt => ?_) ?_
      · refine XS.ifNo H hx rfl (hb hby at_24) rfl ((if0 _ _).trans (feq z5q).1) ?_
        refine XS.iconst H hx rfl (hb hby at_27) ?_
        refine XS.goto H hx rfl (pc0 := 28) (pc' := 32) rfl (hb hby at_28) (by decide) (by decide) ?_
        exact kt
      exact z3 _ (if_neg z5q).symm
  by_cases z5r : (p1 &&& (4 : Int32)) = (0 : Int32)
  · skip
    have H := P0.here
    refine Jvm.Q9.Aim.of (T' := s₁) (g' := (mkF m 18 #[.val (.int p1), .val (.int p2), .val (.int p3), .val (.long p4), .second, .val (.int p5), .val (.int ((p1 &&& (3 : Int32)) % (3 : Int32))), .unset, .unset, .unset, .unset, .unset, .unset, .unset, .unset, .unset, .unset, .unset, .unset, .unset] [(.int 0)])) (fun tgt kt => ?_) ?_
    · refine XS.ifYes H hx rfl (pc0 := 10) (pc' := 17) rfl (hb hby at_10) rfl ((if0 _ _).trans (teq z5r).1) (by decide) (by decide) ?_
      refine XS.iconst H hx rfl (hb hby at_17) ?_
      exact kt
    exact z0 _ (if_pos z5r).symm
  · skip
    have H := P0.here
    refine Jvm.Q9.Aim.of (T' := s₁) (g' := (mkF m 18 #[.val (.int p1), .val (.int p2), .val (.int p3), .val (.long p4), .second, .val (.int p5), .val (.int ((p1 &&& (3 : Int32)) % (3 : Int32))), .unset, .unset, .unset, .unset, .unset, .unset, .unset, .unset, .unset, .unset, .unset, .unset, .unset] [(.int 1)])) (fun tgt kt => ?_) ?_
    · refine XS.ifNo H hx rfl (hb hby at_10) rfl ((if0 _ _).trans (feq z5r).1) ?_
      refine XS.iconst H hx rfl (hb hby at_13) ?_
      refine XS.goto H hx rfl (pc0 := 14) (pc' := 18) rfl (hb hby at_14) (by decide) (by decide) ?_
      exact kt
    exact z0 _ (if_neg z5r).symm
theorem comes_1 {Post : Tables → Env → Array Value → State → Outcome → State → Prop} (hpost : ∀ tb e args s v u, (limb_1_1.after args s (.returned v) u = true ∧ limb_1_2.after args s (.returned v) u = true ∧ True) → FramedW s (.returned v) u (Jvm.fieldLocs frame_1_writes args s ++ Jvm.arrayLocs frame_1_arrays args s ++ Jvm.staticLocs frame_1_statics s) 40 6912 → Post tb e args s (.returned v) u) :
    ArmFor flags0 classFile x code maxLocals ret World_1 tables_1 room_1 Calls_1 rest_1 Pre_1 Post := by
  intro l hfl _ _ p e ha hc hk s m args below hf hA hF happ hP
  obtain ⟨hcalls, hrest, hpre⟩ := hP
  obtain ⟨-, -, -, hnamed, -, -, -, hat⟩ := (Spec.applies_iff hf).mp happ
  obtain ⟨hg, hn⟩ := and_e (Cond.before_iff.mp (show (Jvm.Cond.and given_1 narrow_1).before args s = true from hpre))
  obtain ⟨hcnt, hg0⟩ := and_e hg
  obtain ⟨ga0, hg1⟩ := and_e hg0
  obtain ⟨ga1, hg2⟩ := and_e hg1
  obtain ⟨ga2, hg3⟩ := and_e hg2
  obtain ⟨ga3, hg4⟩ := and_e hg3
  have ga4 := hg4
  obtain ⟨w0, w1, w2, w3, w4, rfl⟩ : ∃ w0 w1 w2 w3 w4 : Value, args = #[w0, w1, w2, w3, w4] := by
    have hs : args.size = 5 := by simpa [Cond.value, given_1] using hcnt
    obtain ⟨L⟩ := args
    match L, hs with
    | [w0, w1, w2, w3, w4], _ => exact ⟨w0, w1, w2, w3, w4, rfl⟩
  have hw := fun d (hd : d ∈ tables_1) => atoms_spec (ws := Jvm.Cond.code x code maxLocals ret :: tables_1) hat d (List.mem_cons_of_mem _ hd)
  have hfit : Fit s := fun {y c} hc i hi => by
    obtain ⟨ha, rfl⟩ := Array.getElem?_eq_some_iff.mp hc
    have q := List.all_eq_true.mp ((Array.all_eq_true_iff_forall_mem.mp hF) _ (Array.getElem_mem ha)) i (List.mem_range.mpr hi)
    simpa [Array.getElem?_eq_getElem hi] using q
  obtain ⟨hsets, hown0⟩ := atoms_of _ (rest_1_c_eq ▸ (show rest_1_c.before _ s = true from hrest))
  obtain ⟨i0, ei0⟩ := is_v ga0
  obtain rfl : w0 = (.int i0) := Option.some.inj ei0
  obtain ⟨i1, ei1⟩ := is_v ga1
  obtain rfl : w1 = (.int i1) := Option.some.inj ei1
  obtain ⟨i2, ei2⟩ := is_v ga2
  obtain rfl : w2 = (.int i2) := Option.some.inj ei2
  obtain ⟨i3, ei3⟩ := isL_v ga3
  obtain rfl : w3 = (.long i3) := Option.some.inj ei3
  obtain ⟨i4, ei4⟩ := is_v ga4
  obtain rfl : w4 = (.int i4) := Option.some.inj ei4
  have ncs := not_v (Cond.before_iff.mp (hsets _ (List.mem_of_getElem? (i := 2) rfl)))
  obtain ⟨zcs, ecs⟩ := is_v (Cond.before_iff.mp (hsets _ (List.mem_of_getElem? (i := 1) rfl)))
  have Scs : Sta s s.heap "java/lang/String" "COMPACT_STRINGS" "Z" (.int zcs) := Sta.start ecs (Or.inl (hsets _ (List.mem_of_getElem? (i := 0) rfl)))
  have Gcs : Cmp s := ⟨zcs, gotF (Cond.eq_ints ecs (Term.int_eval (0))) ncs, Scs⟩
  obtain ⟨vsf, esf, qsf⟩ := isR_v (Cond.before_iff.mp (hsets _ (List.mem_of_getElem? (i := 8) rfl)))
  have Gsf : Sio s := ⟨vsf, Sta.start esf (Or.inl (hsets _ (List.mem_of_getElem? (i := 7) rfl))), by cases vsf <;> first | rfl | cases qsf⟩
  have Gdg : Dig s := dig_start (hsets _ (List.mem_of_getElem? (i := 10) rfl)) (hsets _ (List.mem_of_getElem? (i := 12) rfl)) (hsets _ (List.mem_of_getElem? (i := 13) rfl)) (hsets _ (List.mem_of_getElem? (i := 14) rfl)) (hsets _ (List.mem_of_getElem? (i := 15) rfl)) (hsets _ (List.mem_of_getElem? (i := 17) rfl)) (hsets _ (List.mem_of_getElem? (i := 18) rfl)) (hsets _ (List.mem_of_getElem? (i := 19) rfl)) (wI hw 151 rfl) (wI hw 20 rfl)
  have hcl : ∀ d ∈ LC.1, Jvm.Q9.LitW s _ d := own_lits hw hcalls.1 (hsets _ (List.mem_of_getElem? (i := 2) rfl))
  obtain ⟨n, o, h1, h2, h3, _, L, rfl, ⟨⟨_, ⟨rfl, _⟩, _, _⟩, N⟩, hq⟩ := own_law l s _ hw i0 i1 i2 i3 i4 s.heap s.heap.size (Nat.le_refl _) (List.range s.heap.size) (Old.start s) Gcs Gsf (fun c hc => Jvm.Q9.litz_start (hcl c hc)) Gdg tables_1 p e ha hc hk s m _ below hf ((Spec.applies_iff_loose hf).mp happ).1 ⟨rfl, State.Warmed39.refl s, rfl, Jvm.Q9.ha_start (fun _ => trivial) hcl⟩ trivial
  refine ⟨n, _, h1, h2, h3, hpost _ _ _ _ _ _ ⟨Cond.after_iff.mpr rfl, Cond.after_iff.mpr (eq_i res_at (Term.int_eval (1)) rfl), trivial⟩ ⟨hq.1, hq.2.1, hq.2.2.1, (hq.2.2.2.sift fun y hy => Or.inr (N y hy)).mono (by decide) (by decide)⟩⟩
theorem main_1_1 : Claimed_1_1 := comes_1 fun _ _ _ _ _ _ h hF => ⟨h.1, hF⟩
theorem main_1_2 : Claimed_1_2 := comes_1 fun _ _ _ _ _ _ h hF => ⟨h.2.1, hF⟩
end Jvm.Pilot.@@N@@
namespace Jvm.Pilot.@@N@@
open Jvm Jvm.ClassFile Sem Op Lib Jvm.Free Jvm.Stand Jvm.Pilot.@@N@@.Jvm.D
/-! MADE BY PROGRAM (witnessworld.py) out of the Statement's table words and the real class files: 29 classes; the members and pool entries that the words name. The judged class is class 1, her method 1. -/
namespace start1
open Jvm.ClassFile
def u (s : String) : CpInfo := .utf8 (stringToUtf16 s)
def gap : Nat → List CpInfo → List CpInfo
  | 0, r => r
  | n + 1, r => .unusable :: gap n r
def poolList (es : List (Nat × CpInfo)) (last : Nat) : List CpInfo := es.foldr (fun e r => gap e.1 (e.2 :: r)) (gap last [])
def pool (es : List (Nat × CpInfo)) (last : Nat) : Array CpInfo := ⟨poolList es last⟩
def fileOf (pool : Array CpInfo) (this : Nat) (attrs : Array Attribute := #[]) (ms : Array MethodInfo := #[]) (fl : Nat := 33) (sup : Nat := 0) (ifs : Array Nat := #[]) (fds : Array FieldInfo := #[]) : ClassFile where
  minorVersion := 0
  majorVersion := 65
  constantPool := pool
  accessFlags := fl
  thisClass := this
  superClass := sup
  interfaces := ifs
  fields := fds
  methods := ms
  attributes := attrs
def plain (name : String) (sup : Option ClassId) : Class where
  name := name
  kind := .ordinary
  loader := none
  accessFlags := 33
  super := sup
  interfaces := #[]
  cf := none
  fields := #[]
  methods := #[]
  instanceTypes := #[]
  staticTypes := #[]
  resolved := #[]
  callSites := []
  init := .initialized
  statics := none
  mirror := none

def pool0 : Array CpInfo := pool [(5, u "<init>"), (0, u "()V"), (1, .class_ 10), (1, u "java/lang/Object")] 113

def k0c0 : Code := { maxStack := 0, maxLocals := 1, code := object_method_1_code, exceptionTable := #[], attributes := #[] }
def k0m0 : Method := { name := "<init>", desc := "()V", sig := { parameters := [], returnType := none }, accessFlags := 1, code := some k0c0 }
def k0 : Class := { plain "java/lang/Object" none with
  accessFlags := 33
  interfaces := #[]
  cf := some (fileOf pool0 8 #[] #[{ accessFlags := 1, nameIndex := 5, descriptorIndex := 6, attributes := #[] }] 33 0 #[] #[])
  fields := #[]
  methods := #[k0m0]
  instanceTypes := #[]
  staticTypes := #[]
  resolved := Array.replicate 124 none
  statics := none }

def pool1 : Array CpInfo := pool [(2, .class_ 4), (1, u "java/lang/Object"), (0, u "<init>"), (0, u "()V"), (0, .integer 2147483647), (0, .class_ 9), (0, u "java/lang/String"), (0, .methodref 8 11), (0, .nameAndType 5 12), (0, u "([C)V"), (0, .long 3), (1, .long 255), (1, .methodref 18 19), (0, .class_ 20), (0, .nameAndType 21 22), (0, u "com/example/etsin/etsin/BenchTurn$Outcome"), (0, u "ofAgent"), (0, u "(Ljava/lang/String;I)Lcom/example/etsin/etsin/BenchTurn$Outcome;"), (0, .methodref 18 24), (0, .nameAndType 25 26), (0, u "correct"), (0, u "()Z"), (0, .methodref 18 28), (0, .nameAndType 29 30), (0, u "description"), (0, u "()Ljava/lang/String;"), (0, .methodref 8 32), (0, .nameAndType 33 34), (0, u "length"), (0, u "()I"), (0, .methodref 36 37), (0, .class_ 38), (0, .nameAndType 39 40), (0, u "com/example/etsin/etsin/OutcomeOfAgentPinLaw"), (0, u "width"), (0, u "(I)I"), (0, .methodref 8 42), (0, .nameAndType 43 44), (0, u "charAt"), (0, u "(I)C"), (0, .methodref 46 47), (0, .class_ 48), (0, .nameAndType 49 40), (0, u "java/lang/Math"), (0, u "abs"), (0, .methodref 46 51), (0, .nameAndType 49 52), (0, u "(J)J"), (0, .long 10), (1, .long 100), (1, .long 1000), (1, .long 10000), (1, .long 100000), (1, .long 1000000), (1, .long 10000000), (1, .long 100000000), (1, .long 1000000000), (3, u "law"), (0, u "(IIIJI)Z")] 9

def k1m0 : Method := { name := "<init>", desc := "()V", sig := { parameters := [], returnType := none }, accessFlags := 1, code := none }
def k1c1 : Code := { maxStack := 6, maxLocals := 20, code := code, exceptionTable := #[], attributes := #[] }
def k1m1 : Method := { name := "law", desc := "(IIIJI)Z", sig := { parameters := [.int, .int, .int, .long, .int], returnType := some .boolean }, accessFlags := 9, code := some k1c1 }
def k1c2 : Code := { maxStack := 4, maxLocals := 4, code := method_3_code, exceptionTable := #[], attributes := #[] }
def k1m2 : Method := { name := "width", desc := "(I)I", sig := { parameters := [.int], returnType := some .int }, accessFlags := 10, code := some k1c2 }
def k1 : Class := { plain "com/example/etsin/etsin/OutcomeOfAgentPinLaw" (some 0) with
  accessFlags := 49
  interfaces := #[]
  cf := some (fileOf pool1 36 #[] #[{ accessFlags := 1, nameIndex := 5, descriptorIndex := 6, attributes := #[] }, { accessFlags := 9, nameIndex := 73, descriptorIndex := 74, attributes := #[] }, { accessFlags := 10, nameIndex := 39, descriptorIndex := 40, attributes := #[] }] 49 2 #[] #[])
  fields := #[]
  methods := #[k1m0, k1m1, k1m2]
  instanceTypes := #[]
  staticTypes := #[]
  resolved := Array.replicate 84 none
  statics := none }

def pool2 : Array CpInfo := pool [(1, .class_ 2), (0, u "java/io/Serializable"), (0, .class_ 4), (0, u "java/lang/Object")] 2

def k2 : Class := { plain "java/io/Serializable" (some 0) with
  accessFlags := 1537
  interfaces := #[]
  cf := some (fileOf pool2 1 #[] #[] 1537 3 #[] #[])
  fields := #[]
  methods := #[]
  instanceTypes := #[]
  staticTypes := #[]
  resolved := Array.replicate 7 none
  statics := none }

def pool3 : Array CpInfo := pool [(1, .class_ 2), (0, u "java/lang/Comparable"), (0, .class_ 4), (0, u "java/lang/Object")] 7

def k3 : Class := { plain "java/lang/Comparable" (some 0) with
  accessFlags := 1537
  interfaces := #[]
  cf := some (fileOf pool3 1 #[] #[] 1537 3 #[] #[])
  fields := #[]
  methods := #[]
  instanceTypes := #[]
  staticTypes := #[]
  resolved := Array.replicate 12 none
  statics := none }

def pool4 : Array CpInfo := pool [(2, .class_ 4), (1, u "java/lang/CharSequence"), (42, .class_ 48), (0, u "java/lang/CharSequence$1CodePointIterator"), (10, .class_ 60), (0, u "java/lang/CharSequence$1CharIterator"), (5, .class_ 67), (0, u "java/lang/Object")] 63

def k4 : Class := { plain "java/lang/CharSequence" (some 0) with
  accessFlags := 1537
  interfaces := #[]
  cf := some (fileOf pool4 2 #[.nestMembers #[47, 59]] #[] 1537 66 #[] #[])
  fields := #[]
  methods := #[]
  instanceTypes := #[]
  staticTypes := #[]
  resolved := Array.replicate 131 none
  statics := none }

def pool5 : Array CpInfo := pool [(1, .class_ 2), (0, u "java/lang/constant/Constable"), (0, .class_ 4), (0, u "java/lang/Object")] 6

def k5 : Class := { plain "java/lang/constant/Constable" (some 0) with
  accessFlags := 1537
  interfaces := #[]
  cf := some (fileOf pool5 1 #[] #[] 1537 3 #[] #[])
  fields := #[]
  methods := #[]
  instanceTypes := #[]
  staticTypes := #[]
  resolved := Array.replicate 11 none
  statics := none }

def pool6 : Array CpInfo := pool [(1, .class_ 2), (0, u "java/lang/constant/ConstantDesc"), (0, .class_ 4), (0, u "java/lang/Object")] 32

def k6 : Class := { plain "java/lang/constant/ConstantDesc" (some 0) with
  accessFlags := 1537
  interfaces := #[]
  cf := some (fileOf pool6 1 #[] #[] 1537 3 #[] #[])
  fields := #[]
  methods := #[]
  instanceTypes := #[]
  staticTypes := #[]
  resolved := Array.replicate 37 none
  statics := none }

def pool7 : Array CpInfo := pool [(1, .methodref 2 3), (0, .class_ 4), (0, .nameAndType 5 6), (0, u "java/lang/Object"), (0, u "<init>"), (0, u "()V"), (0, .string 8), (0, u ""), (0, .fieldref 10 11), (0, .class_ 12), (0, .nameAndType 13 14), (0, u "java/lang/String"), (0, u "value"), (0, u "[B"), (0, .fieldref 10 16), (0, .nameAndType 17 18), (0, u "coder"), (0, u "B"), (2, u "hash"), (0, u "I"), (2, u "hashIsZero"), (0, u "Z"), (0, .methodref 10 28), (0, .nameAndType 5 29), (0, u "([CIILjava/lang/Void;)V"), (8, .fieldref 10 39), (0, .nameAndType 40 26), (0, u "COMPACT_STRINGS"), (1, .class_ 44), (1, u "java/lang/StringUTF16"), (0, u "compress"), (1, .methodref 42 48), (0, .nameAndType 49 50), (0, u "coderFromArrayLen"), (0, u "([BI)B"), (3, .methodref 55 56), (0, .class_ 57), (0, .nameAndType 58 59), (0, u "java/util/Arrays"), (0, u "copyOfRange"), (0, u "([BII)[B"), (47, .class_ 109), (1, u "java/lang/StringLatin1"), (32, u "()Z"), (34, .methodref 42 178), (0, .nameAndType 45 179), (0, u "([CII)[B"), (13, .class_ 195), (1, u "java/lang/System"), (16, .methodref 193 213), (0, .nameAndType 214 215), (0, u "arraycopy"), (0, u "(Ljava/lang/Object;ILjava/lang/Object;II)V"), (118, u "()I"), (0, .methodref 10 336), (0, .nameAndType 17 337), (0, u "()B"), (2, u "()[B"), (22, u "([BI)C"), (27, u "(II)V"), (35, u "(I)C"), (61, .methodref 10 490), (0, .nameAndType 5 491), (0, u "(Ljava/lang/AbstractStringBuilder;Ljava/lang/Void;)V"), (0, .methodref 10 493), (0, .nameAndType 494 142), (0, u "isLatin1"), (0, .methodref 107 496), (0, .nameAndType 497 363), (0, u "charAt"), (3, u "checkIndex"), (4, .nameAndType 507 334), (0, u "length"), (24, u "getBytes"), (8, .methodref 107 542), (0, .nameAndType 543 544), (0, u "equals"), (0, u "([B[B)Z"), (4, .methodref 550 506), (0, .class_ 551), (0, u "java/lang/AbstractStringBuilder"), (0, .methodref 550 553), (0, .nameAndType 554 340), (0, u "getValue"), (18, u "(Ljava/lang/Object;)Z"), (1, .class_ 576), (0, u "java/lang/CharSequence"), (22, u "CASE_INSENSITIVE_ORDER"), (0, u "Ljava/util/Comparator;"), (220, u "([BIB)V"), (188, u "([C)V"), (36, .methodref 550 493), (5, .fieldref 1054 1055), (0, .class_ 1056), (0, .nameAndType 1057 1058), (0, u "jdk/internal/util/Preconditions"), (0, u "SIOOBE_FORMATTER"), (0, u "Ljava/util/function/BiFunction;"), (0, .methodref 1054 1060), (0, .nameAndType 501 1061), (0, u "(IILjava/util/function/BiFunction;)I"), (39, u "serialPersistentFields"), (0, u "[Ljava/io/ObjectStreamField;"), (0, .class_ 1104), (0, u "java/lang/String$CaseInsensitiveComparator"), (1, .class_ 1107), (0, u "java/io/Serializable"), (0, .class_ 1109), (0, u "java/lang/Comparable"), (0, .class_ 1111), (0, u "java/lang/constant/Constable"), (0, .class_ 1113), (0, u "java/lang/constant/ConstantDesc"), (2, u "serialVersionUID"), (0, u "J"), (3, u "REPL"), (0, u "C"), (2, u "LATIN1"), (1, u "UTF16"), (105, u "(Ljava/lang/StringBuilder;)V")] 217

def k7m0 : Method := { name := "<init>", desc := "()V", sig := { parameters := [], returnType := none }, accessFlags := 1, code := none }
def k7c1 : Code := { maxStack := 5, maxLocals := 2, code := jdk_42_method_3_code, exceptionTable := #[], attributes := #[] }
def k7m1 : Method := { name := "<init>", desc := "([C)V", sig := { parameters := [(.array .char)], returnType := none }, accessFlags := 1, code := some k7c1 }
def k7c2 : Code := { maxStack := 3, maxLocals := 2, code := jdk_42_method_53_code, exceptionTable := #[], attributes := #[] }
def k7m2 : Method := { name := "<init>", desc := "(Ljava/lang/StringBuilder;)V", sig := { parameters := [(.object "java/lang/StringBuilder")], returnType := none }, accessFlags := 1, code := some k7c2 }
def k7c3 : Code := { maxStack := 2, maxLocals := 1, code := jdk_42_method_54_code, exceptionTable := #[], attributes := #[] }
def k7m3 : Method := { name := "length", desc := "()I", sig := { parameters := [], returnType := some .int }, accessFlags := 1, code := some k7c3 }
def k7c4 : Code := { maxStack := 2, maxLocals := 2, code := jdk_42_method_56_code, exceptionTable := #[], attributes := #[] }
def k7m4 : Method := { name := "charAt", desc := "(I)C", sig := { parameters := [.int], returnType := some .char }, accessFlags := 1, code := some k7c4 }
def k7c5 : Code := { maxStack := 2, maxLocals := 3, code := jdk_42_method_66_code, exceptionTable := #[], attributes := #[] }
def k7m5 : Method := { name := "equals", desc := "(Ljava/lang/Object;)Z", sig := { parameters := [(.object "java/lang/Object")], returnType := some .boolean }, accessFlags := 1, code := some k7c5 }
def k7c6 : Code := { maxStack := 5, maxLocals := 4, code := jdk_42_method_147_code, exceptionTable := #[], attributes := #[] }
def k7m6 : Method := { name := "getBytes", desc := "([BIB)V", sig := { parameters := [(.array .byte), .int, .byte], returnType := none }, accessFlags := 0, code := some k7c6 }
def k7c7 : Code := { maxStack := 4, maxLocals := 6, code := jdk_42_method_149_code, exceptionTable := #[], attributes := #[] }
def k7m7 : Method := { name := "<init>", desc := "([CIILjava/lang/Void;)V", sig := { parameters := [(.array .char), .int, .int, (.object "java/lang/Void")], returnType := none }, accessFlags := 2, code := some k7c7 }
def k7c8 : Code := { maxStack := 5, maxLocals := 5, code := jdk_42_method_150_code, exceptionTable := #[], attributes := #[] }
def k7m8 : Method := { name := "<init>", desc := "(Ljava/lang/AbstractStringBuilder;Ljava/lang/Void;)V", sig := { parameters := [(.object "java/lang/AbstractStringBuilder"), (.object "java/lang/Void")], returnType := none }, accessFlags := 0, code := some k7c8 }
def k7c9 : Code := { maxStack := 1, maxLocals := 1, code := jdk_42_method_152_code, exceptionTable := #[], attributes := #[] }
def k7m9 : Method := { name := "coder", desc := "()B", sig := { parameters := [], returnType := some .byte }, accessFlags := 0, code := some k7c9 }
def k7c10 : Code := { maxStack := 1, maxLocals := 1, code := jdk_42_method_154_code, exceptionTable := #[], attributes := #[] }
def k7m10 : Method := { name := "isLatin1", desc := "()Z", sig := { parameters := [], returnType := some .boolean }, accessFlags := 0, code := some k7c10 }
def k7c11 : Code := { maxStack := 3, maxLocals := 2, code := jdk_42_method_155_code, exceptionTable := #[], attributes := #[] }
def k7m11 : Method := { name := "checkIndex", desc := "(II)V", sig := { parameters := [.int, .int], returnType := none }, accessFlags := 8, code := some k7c11 }
def k7 : Class := { plain "java/lang/String" (some 0) with
  accessFlags := 49
  interfaces := #[2, 3, 4, 5, 6]
  cf := some (fileOf pool7 10 #[.nestMembers #[1103]] #[{ accessFlags := 1, nameIndex := 5, descriptorIndex := 6, attributes := #[] }, { accessFlags := 1, nameIndex := 5, descriptorIndex := 1010, attributes := #[] }, { accessFlags := 1, nameIndex := 5, descriptorIndex := 1233, attributes := #[] }, { accessFlags := 1, nameIndex := 507, descriptorIndex := 334, attributes := #[] }, { accessFlags := 1, nameIndex := 497, descriptorIndex := 427, attributes := #[] }, { accessFlags := 1, nameIndex := 543, descriptorIndex := 573, attributes := #[] }, { accessFlags := 0, nameIndex := 532, descriptorIndex := 821, attributes := #[] }, { accessFlags := 2, nameIndex := 5, descriptorIndex := 29, attributes := #[] }, { accessFlags := 0, nameIndex := 5, descriptorIndex := 491, attributes := #[] }, { accessFlags := 0, nameIndex := 17, descriptorIndex := 337, attributes := #[] }, { accessFlags := 0, nameIndex := 494, descriptorIndex := 142, attributes := #[] }, { accessFlags := 8, nameIndex := 501, descriptorIndex := 391, attributes := #[] }] 49 2 #[1106, 1108, 575, 1110, 1112] #[{ accessFlags := 18, nameIndex := 13, descriptorIndex := 14, attributes := #[] }, { accessFlags := 18, nameIndex := 17, descriptorIndex := 18, attributes := #[] }, { accessFlags := 2, nameIndex := 21, descriptorIndex := 22, attributes := #[] }, { accessFlags := 2, nameIndex := 25, descriptorIndex := 26, attributes := #[] }, { accessFlags := 26, nameIndex := 1116, descriptorIndex := 1117, attributes := #[] }, { accessFlags := 24, nameIndex := 40, descriptorIndex := 26, attributes := #[] }, { accessFlags := 26, nameIndex := 1101, descriptorIndex := 1102, attributes := #[] }, { accessFlags := 26, nameIndex := 1121, descriptorIndex := 1122, attributes := #[] }, { accessFlags := 25, nameIndex := 599, descriptorIndex := 600, attributes := #[] }, { accessFlags := 24, nameIndex := 1125, descriptorIndex := 18, attributes := #[] }, { accessFlags := 24, nameIndex := 1127, descriptorIndex := 18, attributes := #[] }])
  fields := #[{ name := "value", type := (.array .byte), accessFlags := 18, slot := 0, constantValue := 0 }, { name := "coder", type := .byte, accessFlags := 18, slot := 1, constantValue := 0 }, { name := "hash", type := .int, accessFlags := 2, slot := 2, constantValue := 0 }, { name := "hashIsZero", type := .boolean, accessFlags := 2, slot := 3, constantValue := 0 }, { name := "serialVersionUID", type := .long, accessFlags := 26, slot := 0, constantValue := 0 }, { name := "COMPACT_STRINGS", type := .boolean, accessFlags := 24, slot := 1, constantValue := 0 }, { name := "serialPersistentFields", type := (.array (.object "java/io/ObjectStreamField")), accessFlags := 26, slot := 2, constantValue := 0 }, { name := "REPL", type := .char, accessFlags := 26, slot := 3, constantValue := 0 }, { name := "CASE_INSENSITIVE_ORDER", type := (.object "java/util/Comparator"), accessFlags := 25, slot := 4, constantValue := 0 }, { name := "LATIN1", type := .byte, accessFlags := 24, slot := 5, constantValue := 0 }, { name := "UTF16", type := .byte, accessFlags := 24, slot := 6, constantValue := 0 }]
  methods := #[k7m0, k7m1, k7m2, k7m3, k7m4, k7m5, k7m6, k7m7, k7m8, k7m9, k7m10, k7m11]
  instanceTypes := #[(.array .byte), .byte, .int, .boolean]
  staticTypes := #[.long, .boolean, (.array (.object "java/io/ObjectStreamField")), .char, (.object "java/util/Comparator"), .byte, .byte]
  resolved := Array.replicate 1451 none
  statics := some 0 }

def pool8 : Array CpInfo := pool [(6, .class_ 8), (1, u "java/lang/Object"), (0, u "<init>"), (0, u "()V"), (1, .class_ 14), (1, u "java/lang/StringUTF16"), (31, u "$assertionsDisabled"), (0, u "Z"), (13, u "HI_BYTE_SHIFT"), (0, u "I"), (2, u "LO_BYTE_SHIFT"), (49, .methodref 12 116), (0, .nameAndType 117 118), (0, u "compress"), (0, u "([CI[BII)I"), (3, u "([CII)[B"), (138, u "coderFromArrayLen"), (0, u "([BI)B"), (106, .class_ 371), (1, u "java/lang/StringUTF16$LinesSpliterator"), (58, u "MAX_LENGTH"), (196, .class_ 628), (0, u "java/lang/StringUTF16$CodePointsSpliterator"), (0, .class_ 630), (0, u "java/lang/StringUTF16$CharsSpliterator")] 4

def k8m0 : Method := { name := "<init>", desc := "()V", sig := { parameters := [], returnType := none }, accessFlags := 0, code := none }
def k8c1 : Code := { maxStack := 2, maxLocals := 2, code := jdk_52_method_15_code, exceptionTable := #[], attributes := #[] }
def k8m1 : Method := { name := "coderFromArrayLen", desc := "([BI)B", sig := { parameters := [(.array .byte), .int], returnType := some .byte }, accessFlags := 8, code := some k8c1 }
def k8c2 : Code := { maxStack := 5, maxLocals := 6, code := jdk_52_method_16_code, exceptionTable := #[], attributes := #[] }
def k8m2 : Method := { name := "compress", desc := "([CII)[B", sig := { parameters := [(.array .char), .int, .int], returnType := some (.array .byte) }, accessFlags := 9, code := some k8c2 }
def k8c3 : Code := { maxStack := 3, maxLocals := 7, code := jdk_52_method_21_code, exceptionTable := #[], attributes := #[] }
def k8m3 : Method := { name := "compress", desc := "([CI[BII)I", sig := { parameters := [(.array .char), .int, (.array .byte), .int, .int], returnType := some .int }, accessFlags := 9, code := some k8c3 }
def k8 : Class := { plain "java/lang/StringUTF16" (some 0) with
  accessFlags := 48
  interfaces := #[]
  cf := some (fileOf pool8 12 #[.nestMembers #[627, 629, 369]] #[{ accessFlags := 0, nameIndex := 9, descriptorIndex := 10, attributes := #[] }, { accessFlags := 8, nameIndex := 261, descriptorIndex := 262, attributes := #[] }, { accessFlags := 9, nameIndex := 117, descriptorIndex := 122, attributes := #[] }, { accessFlags := 9, nameIndex := 117, descriptorIndex := 118, attributes := #[] }] 48 6 #[] #[{ accessFlags := 26, nameIndex := 61, descriptorIndex := 62, attributes := #[] }, { accessFlags := 26, nameIndex := 65, descriptorIndex := 62, attributes := #[] }, { accessFlags := 24, nameIndex := 430, descriptorIndex := 62, attributes := #[] }, { accessFlags := 4120, nameIndex := 46, descriptorIndex := 47, attributes := #[] }])
  fields := #[{ name := "HI_BYTE_SHIFT", type := .int, accessFlags := 26, slot := 0, constantValue := 0 }, { name := "LO_BYTE_SHIFT", type := .int, accessFlags := 26, slot := 1, constantValue := 0 }, { name := "MAX_LENGTH", type := .int, accessFlags := 24, slot := 2, constantValue := 0 }, { name := "$assertionsDisabled", type := .boolean, accessFlags := 4120, slot := 3, constantValue := 0 }]
  methods := #[k8m0, k8m1, k8m2, k8m3]
  instanceTypes := #[]
  staticTypes := #[.int, .int, .int, .boolean]
  resolved := Array.replicate 635 none
  statics := none }

def pool9 : Array CpInfo := pool [(1, .methodref 2 3), (0, .class_ 4), (0, .nameAndType 5 6), (0, u "java/lang/Object"), (0, u "<init>"), (0, u "()V"), (0, .class_ 8), (0, u "java/lang/Record")] 13

def k9c0 : Code := { maxStack := 1, maxLocals := 1, code := jdk_30_method_1_code, exceptionTable := #[], attributes := #[] }
def k9m0 : Method := { name := "<init>", desc := "()V", sig := { parameters := [], returnType := none }, accessFlags := 4, code := some k9c0 }
def k9 : Class := { plain "java/lang/Record" (some 0) with
  accessFlags := 1057
  interfaces := #[]
  cf := some (fileOf pool9 7 #[] #[{ accessFlags := 4, nameIndex := 5, descriptorIndex := 6, attributes := #[] }] 1057 2 #[] #[])
  fields := #[]
  methods := #[k9m0]
  instanceTypes := #[]
  staticTypes := #[]
  resolved := Array.replicate 22 none
  statics := none }

def pool10 : Array CpInfo := pool [(1, .class_ 2), (0, u "com/example/etsin/etsin/BenchTurn"), (0, .methodref 4 5), (0, .class_ 6), (0, .nameAndType 7 8), (0, u "java/lang/Record"), (0, u "<init>"), (0, u "()V"), (0, .fieldref 10 11), (0, .class_ 12), (0, .nameAndType 13 14), (0, u "com/example/etsin/etsin/BenchTurn$Outcome"), (0, u "correct"), (0, u "Z"), (0, .fieldref 10 16), (0, .nameAndType 17 18), (0, u "description"), (0, u "Ljava/lang/String;"), (0, .string 20), (0, u "It is sunny in Paris, 21 degrees."), (0, .methodref 22 23), (0, .class_ 24), (0, .nameAndType 25 26), (0, u "java/lang/String"), (0, u "equals"), (0, u "(Ljava/lang/Object;)Z"), (0, .class_ 28), (0, u "java/lang/StringBuilder"), (0, .methodref 27 5), (0, .string 31), (0, u "the answer "), (0, .methodref 27 33), (0, .nameAndType 34 35), (0, u "append"), (0, u "(Ljava/lang/String;)Ljava/lang/StringBuilder;"), (0, .string 37), (0, u " after "), (0, .methodref 27 39), (0, .nameAndType 34 40), (0, u "(I)Ljava/lang/StringBuilder;"), (0, .string 42), (0, u " results of "), (0, .string 44), (0, u "get_weather"), (0, .methodref 27 46), (0, .nameAndType 47 48), (0, u "toString"), (0, u "()Ljava/lang/String;"), (0, .methodref 10 50), (0, .nameAndType 7 51), (0, u "(ZLjava/lang/String;)V"), (18, u "ofAgent"), (0, u "(Ljava/lang/String;I)Lcom/example/etsin/etsin/BenchTurn$Outcome;"), (4, u "()Z")] 23

def k10c0 : Code := { maxStack := 2, maxLocals := 3, code := prog_2_method_1_code, exceptionTable := #[], attributes := #[] }
def k10m0 : Method := { name := "<init>", desc := "(ZLjava/lang/String;)V", sig := { parameters := [.boolean, (.object "java/lang/String")], returnType := none }, accessFlags := 1, code := some k10c0 }
def k10c1 : Code := { maxStack := 5, maxLocals := 2, code := prog_2_method_2_code, exceptionTable := #[], attributes := #[] }
def k10m1 : Method := { name := "ofAgent", desc := "(Ljava/lang/String;I)Lcom/example/etsin/etsin/BenchTurn$Outcome;", sig := { parameters := [(.object "java/lang/String"), .int], returnType := some (.object "com/example/etsin/etsin/BenchTurn$Outcome") }, accessFlags := 8, code := some k10c1 }
def k10c2 : Code := { maxStack := 1, maxLocals := 1, code := prog_2_method_7_code, exceptionTable := #[], attributes := #[] }
def k10m2 : Method := { name := "correct", desc := "()Z", sig := { parameters := [], returnType := some .boolean }, accessFlags := 1, code := some k10c2 }
def k10c3 : Code := { maxStack := 1, maxLocals := 1, code := prog_2_method_8_code, exceptionTable := #[], attributes := #[] }
def k10m3 : Method := { name := "description", desc := "()Ljava/lang/String;", sig := { parameters := [], returnType := some (.object "java/lang/String") }, accessFlags := 1, code := some k10c3 }
def k10 : Class := { plain "com/example/etsin/etsin/BenchTurn$Outcome" (some 9) with
  accessFlags := 49
  interfaces := #[]
  cf := some (fileOf pool10 10 #[.nestHost 1] #[{ accessFlags := 1, nameIndex := 7, descriptorIndex := 51, attributes := #[] }, { accessFlags := 8, nameIndex := 70, descriptorIndex := 71, attributes := #[] }, { accessFlags := 1, nameIndex := 13, descriptorIndex := 76, attributes := #[] }, { accessFlags := 1, nameIndex := 17, descriptorIndex := 48, attributes := #[] }] 49 4 #[] #[{ accessFlags := 18, nameIndex := 13, descriptorIndex := 14, attributes := #[] }, { accessFlags := 18, nameIndex := 17, descriptorIndex := 18, attributes := #[] }])
  fields := #[{ name := "correct", type := .boolean, accessFlags := 18, slot := 0, constantValue := 0 }, { name := "description", type := (.object "java/lang/String"), accessFlags := 18, slot := 1, constantValue := 0 }]
  methods := #[k10m0, k10m1, k10m2, k10m3]
  instanceTypes := #[.boolean, (.object "java/lang/String")]
  staticTypes := #[]
  resolved := Array.replicate 100 none
  statics := none }

def pool11 : Array CpInfo := pool [(1, .class_ 2), (0, u "java/lang/String"), (1, .class_ 6), (1, u "java/lang/Object"), (0, u "<init>"), (0, u "()V"), (0, .methodref 1 10), (0, .nameAndType 11 12), (0, u "checkIndex"), (0, u "(II)V"), (1, .class_ 16), (1, u "java/lang/StringLatin1"), (36, u "([BI)C"), (67, u "$assertionsDisabled"), (0, u "Z"), (98, .class_ 223), (1, u "java/lang/StringLatin1$LinesSpliterator"), (28, u "charAt"), (28, u "equals"), (0, u "([B[B)Z"), (107, .class_ 391), (0, u "java/lang/StringLatin1$CharsSpliterator")] 3

def k11m0 : Method := { name := "<init>", desc := "()V", sig := { parameters := [], returnType := none }, accessFlags := 0, code := none }
def k11c1 : Code := { maxStack := 2, maxLocals := 2, code := jdk_43_method_2_code, exceptionTable := #[], attributes := #[] }
def k11m1 : Method := { name := "charAt", desc := "([BI)C", sig := { parameters := [(.array .byte), .int], returnType := some .char }, accessFlags := 9, code := some k11c1 }
def k11c2 : Code := { maxStack := 3, maxLocals := 3, code := jdk_43_method_13_code, exceptionTable := #[], attributes := #[] }
def k11m2 : Method := { name := "equals", desc := "([B[B)Z", sig := { parameters := [(.array .byte), (.array .byte)], returnType := some .boolean }, accessFlags := 9, code := some k11c2 }
def k11 : Class := { plain "java/lang/StringLatin1" (some 0) with
  accessFlags := 48
  interfaces := #[]
  cf := some (fileOf pool11 14 #[.nestMembers #[390, 221]] #[{ accessFlags := 0, nameIndex := 7, descriptorIndex := 8, attributes := #[] }, { accessFlags := 9, nameIndex := 252, descriptorIndex := 53, attributes := #[] }, { accessFlags := 9, nameIndex := 281, descriptorIndex := 282, attributes := #[] }] 48 4 #[] #[{ accessFlags := 4120, nameIndex := 121, descriptorIndex := 122, attributes := #[] }])
  fields := #[{ name := "$assertionsDisabled", type := .boolean, accessFlags := 4120, slot := 0, constantValue := 0 }]
  methods := #[k11m0, k11m1, k11m2]
  instanceTypes := #[]
  staticTypes := #[.boolean]
  resolved := Array.replicate 395 none
  statics := none }

def pool12 : Array CpInfo := pool [(1, .class_ 2), (0, u "java/lang/Appendable"), (0, .class_ 4), (0, u "java/lang/Object")] 9

def k12 : Class := { plain "java/lang/Appendable" (some 0) with
  accessFlags := 1537
  interfaces := #[]
  cf := some (fileOf pool12 1 #[] #[] 1537 3 #[] #[])
  fields := #[]
  methods := #[]
  instanceTypes := #[]
  staticTypes := #[]
  resolved := Array.replicate 14 none
  statics := none }

def pool13 : Array CpInfo := pool [(1, .class_ 2), (0, u "java/lang/String"), (0, .methodref 4 5), (0, .class_ 6), (0, .nameAndType 7 8), (0, u "java/lang/Object"), (0, u "<init>"), (0, u "()V"), (1, .class_ 12), (1, u "java/lang/AbstractStringBuilder"), (0, u "EMPTYVALUE"), (0, u "[B"), (0, .fieldref 10 16), (0, .nameAndType 17 14), (0, u "value"), (0, .fieldref 1 19), (0, .nameAndType 20 21), (0, u "COMPACT_STRINGS"), (0, u "Z"), (0, .fieldref 10 23), (0, .nameAndType 24 25), (0, u "coder"), (0, u "B"), (6, .methodref 1 33), (0, .nameAndType 34 35), (0, u "length"), (0, u "()I"), (0, .class_ 37), (0, u "java/lang/Integer"), (1, .integer 2147483647), (0, .methodref 1 41), (0, .nameAndType 24 42), (0, u "()B"), (2, u "append"), (0, u "(Ljava/lang/String;)Ljava/lang/AbstractStringBuilder;"), (1, .class_ 49), (0, u "java/lang/CharSequence"), (19, u "(Ljava/lang/String;)V"), (5, u "maybeLatin1"), (3, .fieldref 10 80), (0, .nameAndType 81 82), (0, u "count"), (0, u "I"), (0, .methodref 10 84), (0, .nameAndType 85 86), (0, u "isLatin1"), (0, u "()Z"), (13, .methodref 10 101), (0, .nameAndType 102 103), (0, u "ensureCapacityInternal"), (0, u "(I)V"), (0, .methodref 10 105), (0, .nameAndType 106 107), (0, u "newCapacity"), (0, u "(I)I"), (0, .methodref 109 110), (0, .class_ 111), (0, .nameAndType 112 113), (0, u "java/util/Arrays"), (0, u "copyOf"), (0, u "([BI)[B"), (0, .methodref 115 116), (0, .class_ 117), (0, .nameAndType 118 119), (0, u "jdk/internal/util/ArraysSupport"), (0, u "newLength"), (0, u "(III)I"), (68, u "getChars"), (19, .methodref 10 209), (0, .nameAndType 210 211), (0, u "putStringAt"), (0, u "(ILjava/lang/String;)V"), (5, u "inflateIfNeededFor"), (2, .nameAndType 221 222), (0, u "getBytes"), (0, u "([BIB)V"), (22, .methodref 36 246), (0, .nameAndType 247 107), (0, u "stringSize"), (0, .methodref 36 249), (0, .nameAndType 188 250), (0, u "(II[B)I"), (146, .methodref 10 398), (0, .nameAndType 217 69), (0, .methodref 1 220), (3, u "()[B"), (40, .class_ 445), (0, u "java/lang/Appendable"), (65, u "(I)Ljava/lang/AbstractStringBuilder;"), (40, u "getValue")] 56

def k13m0 : Method := { name := "<init>", desc := "()V", sig := { parameters := [], returnType := none }, accessFlags := 0, code := none }
def k13c1 : Code := { maxStack := 2, maxLocals := 2, code := jdk_68_method_2_code, exceptionTable := #[], attributes := #[] }
def k13m1 : Method := { name := "<init>", desc := "(I)V", sig := { parameters := [.int], returnType := none }, accessFlags := 0, code := some k13c1 }
def k13c2 : Code := { maxStack := 1, maxLocals := 1, code := jdk_68_method_6_code, exceptionTable := #[], attributes := #[] }
def k13m2 : Method := { name := "length", desc := "()I", sig := { parameters := [], returnType := some .int }, accessFlags := 1, code := some k13c2 }
def k13c3 : Code := { maxStack := 4, maxLocals := 3, code := jdk_68_method_9_code, exceptionTable := #[], attributes := #[] }
def k13m3 : Method := { name := "ensureCapacityInternal", desc := "(I)V", sig := { parameters := [.int], returnType := none }, accessFlags := 2, code := some k13c3 }
def k13c4 : Code := { maxStack := 5, maxLocals := 6, code := jdk_68_method_10_code, exceptionTable := #[], attributes := #[] }
def k13m4 : Method := { name := "newCapacity", desc := "(I)I", sig := { parameters := [.int], returnType := some .int }, accessFlags := 2, code := some k13c4 }
def k13c5 : Code := { maxStack := 3, maxLocals := 3, code := jdk_68_method_22_code, exceptionTable := #[], attributes := #[] }
def k13m5 : Method := { name := "append", desc := "(Ljava/lang/String;)Ljava/lang/AbstractStringBuilder;", sig := { parameters := [(.object "java/lang/String")], returnType := some (.object "java/lang/AbstractStringBuilder") }, accessFlags := 1, code := some k13c5 }
def k13c6 : Code := { maxStack := 4, maxLocals := 4, code := jdk_68_method_32_code, exceptionTable := #[], attributes := #[] }
def k13m6 : Method := { name := "append", desc := "(I)Ljava/lang/AbstractStringBuilder;", sig := { parameters := [.int], returnType := some (.object "java/lang/AbstractStringBuilder") }, accessFlags := 1, code := some k13c6 }
def k13c7 : Code := { maxStack := 1, maxLocals := 1, code := jdk_68_method_64_code, exceptionTable := #[], attributes := #[] }
def k13m7 : Method := { name := "getValue", desc := "()[B", sig := { parameters := [], returnType := some (.array .byte) }, accessFlags := 16, code := some k13c7 }
def k13c8 : Code := { maxStack := 1, maxLocals := 1, code := jdk_68_method_68_code, exceptionTable := #[], attributes := #[] }
def k13m8 : Method := { name := "isLatin1", desc := "()Z", sig := { parameters := [], returnType := some .boolean }, accessFlags := 16, code := some k13c8 }
def k13c9 : Code := { maxStack := 2, maxLocals := 2, code := jdk_68_method_71_code, exceptionTable := #[], attributes := #[] }
def k13m9 : Method := { name := "inflateIfNeededFor", desc := "(Ljava/lang/String;)V", sig := { parameters := [(.object "java/lang/String")], returnType := none }, accessFlags := 2, code := some k13c9 }
def k13c10 : Code := { maxStack := 4, maxLocals := 3, code := jdk_68_method_73_code, exceptionTable := #[], attributes := #[] }
def k13m10 : Method := { name := "putStringAt", desc := "(ILjava/lang/String;)V", sig := { parameters := [.int, (.object "java/lang/String")], returnType := none }, accessFlags := 2, code := some k13c10 }
def k13 : Class := { plain "java/lang/AbstractStringBuilder" (some 0) with
  accessFlags := 1056
  interfaces := #[12, 4]
  cf := some (fileOf pool13 10 #[] #[{ accessFlags := 0, nameIndex := 7, descriptorIndex := 8, attributes := #[] }, { accessFlags := 0, nameIndex := 7, descriptorIndex := 103, attributes := #[] }, { accessFlags := 1, nameIndex := 34, descriptorIndex := 35, attributes := #[] }, { accessFlags := 2, nameIndex := 102, descriptorIndex := 103, attributes := #[] }, { accessFlags := 2, nameIndex := 106, descriptorIndex := 107, attributes := #[] }, { accessFlags := 1, nameIndex := 45, descriptorIndex := 46, attributes := #[] }, { accessFlags := 1, nameIndex := 45, descriptorIndex := 511, attributes := #[] }, { accessFlags := 16, nameIndex := 552, descriptorIndex := 403, attributes := #[] }, { accessFlags := 16, nameIndex := 85, descriptorIndex := 86, attributes := #[] }, { accessFlags := 2, nameIndex := 217, descriptorIndex := 69, attributes := #[] }, { accessFlags := 2, nameIndex := 210, descriptorIndex := 211, attributes := #[] }] 1056 4 #[444, 48] #[{ accessFlags := 0, nameIndex := 17, descriptorIndex := 14, attributes := #[] }, { accessFlags := 0, nameIndex := 24, descriptorIndex := 25, attributes := #[] }, { accessFlags := 0, nameIndex := 75, descriptorIndex := 21, attributes := #[] }, { accessFlags := 0, nameIndex := 81, descriptorIndex := 82, attributes := #[] }, { accessFlags := 26, nameIndex := 13, descriptorIndex := 14, attributes := #[] }])
  fields := #[{ name := "value", type := (.array .byte), accessFlags := 0, slot := 0, constantValue := 0 }, { name := "coder", type := .byte, accessFlags := 0, slot := 1, constantValue := 0 }, { name := "maybeLatin1", type := .boolean, accessFlags := 0, slot := 2, constantValue := 0 }, { name := "count", type := .int, accessFlags := 0, slot := 3, constantValue := 0 }, { name := "EMPTYVALUE", type := (.array .byte), accessFlags := 26, slot := 0, constantValue := 0 }]
  methods := #[k13m0, k13m1, k13m2, k13m3, k13m4, k13m5, k13m6, k13m7, k13m8, k13m9, k13m10]
  instanceTypes := #[(.array .byte), .byte, .boolean, .int]
  staticTypes := #[(.array .byte)]
  resolved := Array.replicate 609 none
  statics := none }

def pool14 : Array CpInfo := pool [(1, .methodref 2 3), (0, .class_ 4), (0, .nameAndType 5 6), (0, u "java/lang/AbstractStringBuilder"), (0, u "<init>"), (0, u "(I)V"), (11, .class_ 20), (1, u "java/lang/String"), (3, .class_ 26), (1, u "java/lang/StringBuilder"), (0, u "append"), (0, u "(Ljava/lang/String;)Ljava/lang/StringBuilder;"), (0, .methodref 2 30), (0, .nameAndType 27 31), (0, u "(Ljava/lang/String;)Ljava/lang/AbstractStringBuilder;"), (21, .methodref 2 54), (0, .nameAndType 27 55), (0, u "(I)Ljava/lang/AbstractStringBuilder;"), (81, .methodref 18 138), (0, .nameAndType 5 139), (0, u "(Ljava/lang/StringBuilder;)V"), (5, u "()V"), (10, u "()I"), (111, u "(I)Ljava/lang/StringBuilder;"), (74, .methodref 2 344), (0, .nameAndType 345 156), (0, u "length"), (3, .class_ 350), (0, u "java/lang/Appendable"), (0, .class_ 352), (0, u "java/io/Serializable"), (0, .class_ 354), (0, u "java/lang/Comparable"), (0, .class_ 356), (0, u "java/lang/CharSequence"), (0, u "serialVersionUID"), (0, u "J"), (40, u "toString"), (0, u "()Ljava/lang/String;")] 21

def k14c0 : Code := { maxStack := 2, maxLocals := 1, code := jdk_67_method_1_code, exceptionTable := #[], attributes := #[] }
def k14m0 : Method := { name := "<init>", desc := "()V", sig := { parameters := [], returnType := none }, accessFlags := 1, code := some k14c0 }
def k14c1 : Code := { maxStack := 2, maxLocals := 2, code := jdk_67_method_7_code, exceptionTable := #[], attributes := #[] }
def k14m1 : Method := { name := "append", desc := "(Ljava/lang/String;)Ljava/lang/StringBuilder;", sig := { parameters := [(.object "java/lang/String")], returnType := some (.object "java/lang/StringBuilder") }, accessFlags := 1, code := some k14c1 }
def k14c2 : Code := { maxStack := 2, maxLocals := 2, code := jdk_67_method_15_code, exceptionTable := #[], attributes := #[] }
def k14m2 : Method := { name := "append", desc := "(I)Ljava/lang/StringBuilder;", sig := { parameters := [.int], returnType := some (.object "java/lang/StringBuilder") }, accessFlags := 1, code := some k14c2 }
def k14c3 : Code := { maxStack := 3, maxLocals := 1, code := jdk_67_method_42_code, exceptionTable := #[], attributes := #[] }
def k14m3 : Method := { name := "toString", desc := "()Ljava/lang/String;", sig := { parameters := [], returnType := some (.object "java/lang/String") }, accessFlags := 1, code := some k14c3 }
def k14c4 : Code := { maxStack := 1, maxLocals := 1, code := jdk_67_method_93_code, exceptionTable := #[], attributes := #[] }
def k14m4 : Method := { name := "length", desc := "()I", sig := { parameters := [], returnType := some .int }, accessFlags := 4161, code := some k14c4 }
def k14 : Class := { plain "java/lang/StringBuilder" (some 13) with
  accessFlags := 49
  interfaces := #[12, 2, 3, 4]
  cf := some (fileOf pool14 24 #[] #[{ accessFlags := 1, nameIndex := 5, descriptorIndex := 145, attributes := #[] }, { accessFlags := 1, nameIndex := 27, descriptorIndex := 28, attributes := #[] }, { accessFlags := 1, nameIndex := 27, descriptorIndex := 268, attributes := #[] }, { accessFlags := 1, nameIndex := 399, descriptorIndex := 400, attributes := #[] }, { accessFlags := 4161, nameIndex := 345, descriptorIndex := 156, attributes := #[] }] 49 2 #[349, 351, 353, 355] #[{ accessFlags := 24, nameIndex := 357, descriptorIndex := 358, attributes := #[] }])
  fields := #[{ name := "serialVersionUID", type := .long, accessFlags := 24, slot := 0, constantValue := 0 }]
  methods := #[k14m0, k14m1, k14m2, k14m3, k14m4]
  instanceTypes := #[(.array .byte), .byte, .boolean, .int]
  staticTypes := #[.long]
  resolved := Array.replicate 422 none
  statics := none }

def pool15 : Array CpInfo := pool [(2, .class_ 4), (1, u "java/lang/Object"), (0, u "<init>"), (0, u "()V"), (1, .class_ 10), (1, u "java/lang/System"), (0, u "allowSecurityManager"), (0, u "I"), (16, u "cons"), (0, u "Ljava/io/Console;"), (77, .class_ 110), (1, u "java/lang/System$CallersHolder"), (43, u "initialErrStream"), (0, u "Ljava/io/PrintStream;"), (19, u "security"), (0, u "Ljava/lang/SecurityManager;"), (31, .class_ 209), (0, u "java/lang/System$1"), (7, u "props"), (0, u "Ljava/util/Properties;"), (2, u "lineSeparator"), (0, u "Ljava/lang/String;"), (96, .class_ 321), (1, u "java/lang/System$LoggerFinder"), (5, .class_ 328), (0, u "java/lang/System$Logger"), (67, u "err"), (2, u "out"), (91, u "notSupportedJnuEncoding"), (15, u "in"), (17, u "initialIn"), (0, u "Ljava/io/InputStream;"), (35, u "bootLayer"), (0, u "Ljava/lang/ModuleLayer;"), (99, .class_ 664), (0, u "java/lang/System$2"), (9, u "NEVER"), (2, u "MAYBE"), (49, u "arraycopy"), (0, u "(Ljava/lang/Object;ILjava/lang/Object;II)V"), (72, .class_ 802), (0, u "java/lang/System$Logger$Level")] 31

def k15m0 : Method := { name := "<init>", desc := "()V", sig := { parameters := [], returnType := none }, accessFlags := 2, code := none }
def k15m1 : Method := { name := "arraycopy", desc := "(Ljava/lang/Object;ILjava/lang/Object;II)V", sig := { parameters := [(.object "java/lang/Object"), .int, (.object "java/lang/Object"), .int, .int], returnType := none }, accessFlags := 265, code := none }
def k15 : Class := { plain "java/lang/System" (some 0) with
  accessFlags := 49
  interfaces := #[]
  cf := some (fileOf pool15 8 #[.nestMembers #[319, 327, 801, 108, 663, 208]] #[{ accessFlags := 2, nameIndex := 5, descriptorIndex := 6, attributes := #[] }, { accessFlags := 265, nameIndex := 727, descriptorIndex := 728, attributes := #[] }] 49 2 #[] #[{ accessFlags := 25, nameIndex := 507, descriptorIndex := 526, attributes := #[] }, { accessFlags := 25, nameIndex := 399, descriptorIndex := 155, attributes := #[] }, { accessFlags := 25, nameIndex := 396, descriptorIndex := 155, attributes := #[] }, { accessFlags := 10, nameIndex := 525, descriptorIndex := 526, attributes := #[] }, { accessFlags := 26, nameIndex := 674, descriptorIndex := 12, attributes := #[] }, { accessFlags := 26, nameIndex := 677, descriptorIndex := 12, attributes := #[] }, { accessFlags := 10, nameIndex := 11, descriptorIndex := 12, attributes := #[] }, { accessFlags := 74, nameIndex := 175, descriptorIndex := 176, attributes := #[] }, { accessFlags := 10, nameIndex := 491, descriptorIndex := 222, attributes := #[] }, { accessFlags := 74, nameIndex := 29, descriptorIndex := 30, attributes := #[] }, { accessFlags := 74, nameIndex := 154, descriptorIndex := 155, attributes := #[] }, { accessFlags := 10, nameIndex := 217, descriptorIndex := 218, attributes := #[] }, { accessFlags := 10, nameIndex := 221, descriptorIndex := 222, attributes := #[] }, { accessFlags := 8, nameIndex := 562, descriptorIndex := 563, attributes := #[] }])
  fields := #[{ name := "in", type := (.object "java/io/InputStream"), accessFlags := 25, slot := 0, constantValue := 0 }, { name := "out", type := (.object "java/io/PrintStream"), accessFlags := 25, slot := 1, constantValue := 0 }, { name := "err", type := (.object "java/io/PrintStream"), accessFlags := 25, slot := 2, constantValue := 0 }, { name := "initialIn", type := (.object "java/io/InputStream"), accessFlags := 10, slot := 3, constantValue := 0 }, { name := "NEVER", type := .int, accessFlags := 26, slot := 4, constantValue := 0 }, { name := "MAYBE", type := .int, accessFlags := 26, slot := 5, constantValue := 0 }, { name := "allowSecurityManager", type := .int, accessFlags := 10, slot := 6, constantValue := 0 }, { name := "security", type := (.object "java/lang/SecurityManager"), accessFlags := 74, slot := 7, constantValue := 0 }, { name := "notSupportedJnuEncoding", type := (.object "java/lang/String"), accessFlags := 10, slot := 8, constantValue := 0 }, { name := "cons", type := (.object "java/io/Console"), accessFlags := 74, slot := 9, constantValue := 0 }, { name := "initialErrStream", type := (.object "java/io/PrintStream"), accessFlags := 74, slot := 10, constantValue := 0 }, { name := "props", type := (.object "java/util/Properties"), accessFlags := 10, slot := 11, constantValue := 0 }, { name := "lineSeparator", type := (.object "java/lang/String"), accessFlags := 10, slot := 12, constantValue := 0 }, { name := "bootLayer", type := (.object "java/lang/ModuleLayer"), accessFlags := 8, slot := 13, constantValue := 0 }]
  methods := #[k15m0, k15m1]
  instanceTypes := #[]
  staticTypes := #[(.object "java/io/InputStream"), (.object "java/io/PrintStream"), (.object "java/io/PrintStream"), (.object "java/io/InputStream"), .int, .int, .int, (.object "java/lang/SecurityManager"), (.object "java/lang/String"), (.object "java/io/Console"), (.object "java/io/PrintStream"), (.object "java/util/Properties"), (.object "java/lang/String"), (.object "java/lang/ModuleLayer")]
  resolved := Array.replicate 834 none
  statics := none }

def pool16 : Array CpInfo := pool [(9, u "<init>"), (6, .class_ 18), (1, u "java/lang/Object"), (0, u "()V"), (1, .class_ 23), (1, u "jdk/internal/util/ArraysSupport"), (0, u "LOG2_ARRAY_LONG_INDEX_SCALE"), (0, u "I"), (2, u "U"), (0, u "Ljdk/internal/misc/Unsafe;"), (8, u "BIG_ENDIAN"), (0, u "Z"), (8, u "LOG2_BYTE_BIT_SIZE"), (4, u "LOG2_ARRAY_INT_INDEX_SCALE"), (54, u "JLA"), (0, u "Ljdk/internal/access/JavaLangAccess;"), (11, u "LOG2_ARRAY_BOOLEAN_INDEX_SCALE"), (9, u "LOG2_ARRAY_BYTE_INDEX_SCALE"), (5, u "LOG2_ARRAY_CHAR_INDEX_SCALE"), (5, u "LOG2_ARRAY_SHORT_INDEX_SCALE"), (18, u "LOG2_ARRAY_FLOAT_INDEX_SCALE"), (24, u "LOG2_ARRAY_DOUBLE_INDEX_SCALE"), (6, .methodref 195 196), (0, .class_ 197), (0, .nameAndType 198 199), (0, u "java/lang/Math"), (0, u "max"), (0, u "(II)I"), (0, .integer 2147483639), (76, u "T_BOOLEAN"), (2, u "T_CHAR"), (1, u "T_FLOAT"), (1, u "T_DOUBLE"), (1, u "T_BYTE"), (1, u "T_SHORT"), (1, u "T_INT"), (1, u "T_LONG"), (1, u "SOFT_MAX_ARRAY_LENGTH"), (56, u "newLength"), (0, u "(III)I")] 25

def k16m0 : Method := { name := "<init>", desc := "()V", sig := { parameters := [], returnType := none }, accessFlags := 2, code := none }
def k16c1 : Code := { maxStack := 3, maxLocals := 4, code := jdk_48_method_27_code, exceptionTable := #[], attributes := #[] }
def k16m1 : Method := { name := "newLength", desc := "(III)I", sig := { parameters := [.int, .int, .int], returnType := some .int }, accessFlags := 9, code := some k16c1 }
def k16 : Class := { plain "jdk/internal/util/ArraysSupport" (some 0) with
  accessFlags := 33
  interfaces := #[]
  cf := some (fileOf pool16 21 #[] #[{ accessFlags := 2, nameIndex := 9, descriptorIndex := 19, attributes := #[] }, { accessFlags := 9, nameIndex := 351, descriptorIndex := 352, attributes := #[] }] 33 16 #[] #[{ accessFlags := 24, nameIndex := 28, descriptorIndex := 29, attributes := #[] }, { accessFlags := 26, nameIndex := 38, descriptorIndex := 39, attributes := #[] }, { accessFlags := 25, nameIndex := 121, descriptorIndex := 25, attributes := #[] }, { accessFlags := 25, nameIndex := 131, descriptorIndex := 25, attributes := #[] }, { accessFlags := 25, nameIndex := 137, descriptorIndex := 25, attributes := #[] }, { accessFlags := 25, nameIndex := 143, descriptorIndex := 25, attributes := #[] }, { accessFlags := 25, nameIndex := 53, descriptorIndex := 25, attributes := #[] }, { accessFlags := 25, nameIndex := 24, descriptorIndex := 25, attributes := #[] }, { accessFlags := 25, nameIndex := 162, descriptorIndex := 25, attributes := #[] }, { accessFlags := 25, nameIndex := 187, descriptorIndex := 25, attributes := #[] }, { accessFlags := 26, nameIndex := 48, descriptorIndex := 25, attributes := #[] }, { accessFlags := 25, nameIndex := 277, descriptorIndex := 25, attributes := #[] }, { accessFlags := 25, nameIndex := 280, descriptorIndex := 25, attributes := #[] }, { accessFlags := 25, nameIndex := 282, descriptorIndex := 25, attributes := #[] }, { accessFlags := 25, nameIndex := 284, descriptorIndex := 25, attributes := #[] }, { accessFlags := 25, nameIndex := 286, descriptorIndex := 25, attributes := #[] }, { accessFlags := 25, nameIndex := 288, descriptorIndex := 25, attributes := #[] }, { accessFlags := 25, nameIndex := 290, descriptorIndex := 25, attributes := #[] }, { accessFlags := 25, nameIndex := 292, descriptorIndex := 25, attributes := #[] }, { accessFlags := 26, nameIndex := 108, descriptorIndex := 109, attributes := #[] }, { accessFlags := 25, nameIndex := 294, descriptorIndex := 25, attributes := #[] }])
  fields := #[{ name := "U", type := (.object "jdk/internal/misc/Unsafe"), accessFlags := 24, slot := 0, constantValue := 0 }, { name := "BIG_ENDIAN", type := .boolean, accessFlags := 26, slot := 1, constantValue := 0 }, { name := "LOG2_ARRAY_BOOLEAN_INDEX_SCALE", type := .int, accessFlags := 25, slot := 2, constantValue := 0 }, { name := "LOG2_ARRAY_BYTE_INDEX_SCALE", type := .int, accessFlags := 25, slot := 3, constantValue := 0 }, { name := "LOG2_ARRAY_CHAR_INDEX_SCALE", type := .int, accessFlags := 25, slot := 4, constantValue := 0 }, { name := "LOG2_ARRAY_SHORT_INDEX_SCALE", type := .int, accessFlags := 25, slot := 5, constantValue := 0 }, { name := "LOG2_ARRAY_INT_INDEX_SCALE", type := .int, accessFlags := 25, slot := 6, constantValue := 0 }, { name := "LOG2_ARRAY_LONG_INDEX_SCALE", type := .int, accessFlags := 25, slot := 7, constantValue := 0 }, { name := "LOG2_ARRAY_FLOAT_INDEX_SCALE", type := .int, accessFlags := 25, slot := 8, constantValue := 0 }, { name := "LOG2_ARRAY_DOUBLE_INDEX_SCALE", type := .int, accessFlags := 25, slot := 9, constantValue := 0 }, { name := "LOG2_BYTE_BIT_SIZE", type := .int, accessFlags := 26, slot := 10, constantValue := 0 }, { name := "T_BOOLEAN", type := .int, accessFlags := 25, slot := 11, constantValue := 0 }, { name := "T_CHAR", type := .int, accessFlags := 25, slot := 12, constantValue := 0 }, { name := "T_FLOAT", type := .int, accessFlags := 25, slot := 13, constantValue := 0 }, { name := "T_DOUBLE", type := .int, accessFlags := 25, slot := 14, constantValue := 0 }, { name := "T_BYTE", type := .int, accessFlags := 25, slot := 15, constantValue := 0 }, { name := "T_SHORT", type := .int, accessFlags := 25, slot := 16, constantValue := 0 }, { name := "T_INT", type := .int, accessFlags := 25, slot := 17, constantValue := 0 }, { name := "T_LONG", type := .int, accessFlags := 25, slot := 18, constantValue := 0 }, { name := "JLA", type := (.object "jdk/internal/access/JavaLangAccess"), accessFlags := 26, slot := 19, constantValue := 0 }, { name := "SOFT_MAX_ARRAY_LENGTH", type := .int, accessFlags := 25, slot := 20, constantValue := 0 }]
  methods := #[k16m0, k16m1]
  instanceTypes := #[]
  staticTypes := #[(.object "jdk/internal/misc/Unsafe"), .boolean, .int, .int, .int, .int, .int, .int, .int, .int, .int, .int, .int, .int, .int, .int, .int, .int, .int, (.object "jdk/internal/access/JavaLangAccess"), .int]
  resolved := Array.replicate 378 none
  statics := none }

def pool17 : Array CpInfo := pool [(1, .class_ 2), (0, u "java/lang/Math"), (1, .class_ 6), (1, u "java/lang/Object"), (0, u "<init>"), (0, u "()V"), (89, .class_ 100), (1, u "java/lang/Math$RandomNumberGeneratorHolder"), (23, u "abs"), (0, u "(J)J"), (33, u "(I)I"), (12, u "negativeZeroFloatBits"), (0, u "J"), (2, u "negativeZeroDoubleBits"), (21, u "max"), (2, u "min"), (43, u "$assertionsDisabled"), (0, u "Z"), (88, u "(II)I"), (2, u "twoToTheDoubleScaleDown"), (0, u "D"), (4, u "twoToTheDoubleScaleUp"), (9, u "E"), (3, u "PI"), (2, u "TAU"), (2, u "DEGREES_TO_RADIANS"), (0, u "RADIANS_TO_DEGREES")] 94

def k17m0 : Method := { name := "<init>", desc := "()V", sig := { parameters := [], returnType := none }, accessFlags := 2, code := none }
def k17c1 : Code := { maxStack := 1, maxLocals := 1, code := jdk_29_method_59_code, exceptionTable := #[], attributes := #[] }
def k17m1 : Method := { name := "abs", desc := "(I)I", sig := { parameters := [.int], returnType := some .int }, accessFlags := 9, code := some k17c1 }
def k17c2 : Code := { maxStack := 4, maxLocals := 2, code := jdk_29_method_61_code, exceptionTable := #[], attributes := #[] }
def k17m2 : Method := { name := "abs", desc := "(J)J", sig := { parameters := [.long], returnType := some .long }, accessFlags := 9, code := some k17c2 }
def k17c3 : Code := { maxStack := 2, maxLocals := 2, code := jdk_29_method_65_code, exceptionTable := #[], attributes := #[] }
def k17m3 : Method := { name := "max", desc := "(II)I", sig := { parameters := [.int, .int], returnType := some .int }, accessFlags := 9, code := some k17c3 }
def k17c4 : Code := { maxStack := 2, maxLocals := 2, code := jdk_29_method_69_code, exceptionTable := #[], attributes := #[] }
def k17m4 : Method := { name := "min", desc := "(II)I", sig := { parameters := [.int, .int], returnType := some .int }, accessFlags := 9, code := some k17c4 }
def k17 : Class := { plain "java/lang/Math" (some 0) with
  accessFlags := 49
  interfaces := #[]
  cf := some (fileOf pool17 1 #[.nestMembers #[98]] #[{ accessFlags := 2, nameIndex := 7, descriptorIndex := 8, attributes := #[] }, { accessFlags := 9, nameIndex := 124, descriptorIndex := 159, attributes := #[] }, { accessFlags := 9, nameIndex := 124, descriptorIndex := 125, attributes := #[] }, { accessFlags := 9, nameIndex := 198, descriptorIndex := 335, attributes := #[] }, { accessFlags := 9, nameIndex := 201, descriptorIndex := 335, attributes := #[] }] 49 4 #[] #[{ accessFlags := 25, nameIndex := 354, descriptorIndex := 339, attributes := #[] }, { accessFlags := 25, nameIndex := 358, descriptorIndex := 339, attributes := #[] }, { accessFlags := 25, nameIndex := 361, descriptorIndex := 339, attributes := #[] }, { accessFlags := 26, nameIndex := 364, descriptorIndex := 339, attributes := #[] }, { accessFlags := 26, nameIndex := 365, descriptorIndex := 339, attributes := #[] }, { accessFlags := 26, nameIndex := 172, descriptorIndex := 173, attributes := #[] }, { accessFlags := 26, nameIndex := 176, descriptorIndex := 173, attributes := #[] }, { accessFlags := 8, nameIndex := 344, descriptorIndex := 339, attributes := #[] }, { accessFlags := 8, nameIndex := 338, descriptorIndex := 339, attributes := #[] }, { accessFlags := 4120, nameIndex := 245, descriptorIndex := 246, attributes := #[] }])
  fields := #[{ name := "E", type := .double, accessFlags := 25, slot := 0, constantValue := 0 }, { name := "PI", type := .double, accessFlags := 25, slot := 1, constantValue := 0 }, { name := "TAU", type := .double, accessFlags := 25, slot := 2, constantValue := 0 }, { name := "DEGREES_TO_RADIANS", type := .double, accessFlags := 26, slot := 3, constantValue := 0 }, { name := "RADIANS_TO_DEGREES", type := .double, accessFlags := 26, slot := 4, constantValue := 0 }, { name := "negativeZeroFloatBits", type := .long, accessFlags := 26, slot := 5, constantValue := 0 }, { name := "negativeZeroDoubleBits", type := .long, accessFlags := 26, slot := 6, constantValue := 0 }, { name := "twoToTheDoubleScaleUp", type := .double, accessFlags := 8, slot := 7, constantValue := 0 }, { name := "twoToTheDoubleScaleDown", type := .double, accessFlags := 8, slot := 8, constantValue := 0 }, { name := "$assertionsDisabled", type := .boolean, accessFlags := 4120, slot := 9, constantValue := 0 }]
  methods := #[k17m0, k17m1, k17m2, k17m3, k17m4]
  instanceTypes := #[]
  staticTypes := #[.double, .double, .double, .double, .double, .long, .long, .double, .double, .boolean]
  resolved := Array.replicate 460 none
  statics := none }

def pool18 : Array CpInfo := pool [(2, .class_ 4), (1, u "java/lang/Object"), (0, u "<init>"), (0, u "()V"), (7, .class_ 16), (1, u "java/util/Arrays"), (57, .class_ 76), (1, u "java/util/Arrays$NaturalOrder"), (36, .class_ 115), (1, u "java/util/Arrays$LegacyMergeSort"), (1, u "Z"), (21, u "copyOfRange"), (10, .methodref 151 152), (0, .class_ 153), (0, .nameAndType 154 155), (0, u "java/lang/System"), (0, u "arraycopy"), (0, u "(Ljava/lang/Object;ILjava/lang/Object;II)V"), (146, u "copyOf"), (1, .methodref 305 306), (0, .class_ 307), (0, .nameAndType 308 309), (0, u "java/lang/Math"), (0, u "min"), (0, u "(II)I"), (29, .methodref 14 340), (0, .nameAndType 341 342), (0, u "copyOfRangeByte"), (0, u "([BII)[B"), (0, .methodref 14 344), (0, .nameAndType 345 346), (0, u "checkLength"), (0, u "(II)V"), (28, .class_ 376), (0, u "java/util/Arrays$ArrayList"), (68, u "$assertionsDisabled"), (269, u "MIN_ARRAY_SORT_GRAN"), (0, u "I"), (2, u "INSERTIONSORT_THRESHOLD"), (149, u "([BI)[B"), (105, .class_ 976), (0, u "java/util/Arrays$ArrayItr")] 52

def k18m0 : Method := { name := "<init>", desc := "()V", sig := { parameters := [], returnType := none }, accessFlags := 2, code := none }
def k18c1 : Code := { maxStack := 6, maxLocals := 3, code := jdk_65_method_121_code, exceptionTable := #[], attributes := #[] }
def k18m1 : Method := { name := "copyOf", desc := "([BI)[B", sig := { parameters := [(.array .byte), .int], returnType := some (.array .byte) }, accessFlags := 9, code := some k18c1 }
def k18c2 : Code := { maxStack := 4, maxLocals := 2, code := jdk_65_method_131_code, exceptionTable := #[], attributes := #[] }
def k18m2 : Method := { name := "checkLength", desc := "(II)V", sig := { parameters := [.int, .int], returnType := none }, accessFlags := 10, code := some k18c2 }
def k18c3 : Code := { maxStack := 3, maxLocals := 3, code := jdk_65_method_132_code, exceptionTable := #[], attributes := #[] }
def k18m3 : Method := { name := "copyOfRange", desc := "([BII)[B", sig := { parameters := [(.array .byte), .int, .int], returnType := some (.array .byte) }, accessFlags := 9, code := some k18c3 }
def k18c4 : Code := { maxStack := 6, maxLocals := 5, code := jdk_65_method_133_code, exceptionTable := #[], attributes := #[] }
def k18m4 : Method := { name := "copyOfRangeByte", desc := "([BII)[B", sig := { parameters := [(.array .byte), .int, .int], returnType := some (.array .byte) }, accessFlags := 10, code := some k18c4 }
def k18 : Class := { plain "java/util/Arrays" (some 0) with
  accessFlags := 49
  interfaces := #[]
  cf := some (fileOf pool18 14 #[.nestMembers #[975, 375, 113, 74]] #[{ accessFlags := 2, nameIndex := 5, descriptorIndex := 6, attributes := #[] }, { accessFlags := 9, nameIndex := 302, descriptorIndex := 869, attributes := #[] }, { accessFlags := 10, nameIndex := 345, descriptorIndex := 346, attributes := #[] }, { accessFlags := 9, nameIndex := 139, descriptorIndex := 342, attributes := #[] }, { accessFlags := 10, nameIndex := 341, descriptorIndex := 342, attributes := #[] }] 49 2 #[] #[{ accessFlags := 26, nameIndex := 715, descriptorIndex := 716, attributes := #[] }, { accessFlags := 26, nameIndex := 719, descriptorIndex := 716, attributes := #[] }, { accessFlags := 4120, nameIndex := 445, descriptorIndex := 117, attributes := #[] }])
  fields := #[{ name := "MIN_ARRAY_SORT_GRAN", type := .int, accessFlags := 26, slot := 0, constantValue := 0 }, { name := "INSERTIONSORT_THRESHOLD", type := .int, accessFlags := 26, slot := 1, constantValue := 0 }, { name := "$assertionsDisabled", type := .boolean, accessFlags := 4120, slot := 2, constantValue := 0 }]
  methods := #[k18m0, k18m1, k18m2, k18m3, k18m4]
  instanceTypes := #[]
  staticTypes := #[.int, .int, .boolean]
  resolved := Array.replicate 1029 none
  statics := none }

def pool19 : Array CpInfo := pool [(2, .class_ 4), (1, u "java/lang/Object"), (0, u "<init>"), (0, u "()V"), (1, .class_ 10), (1, u "java/lang/Number"), (2, .class_ 14), (0, u "java/io/Serializable"), (0, u "serialVersionUID"), (0, u "J")] 20

def k19m0 : Method := { name := "<init>", desc := "()V", sig := { parameters := [], returnType := none }, accessFlags := 1, code := none }
def k19 : Class := { plain "java/lang/Number" (some 0) with
  accessFlags := 1057
  interfaces := #[2]
  cf := some (fileOf pool19 8 #[] #[{ accessFlags := 1, nameIndex := 5, descriptorIndex := 6, attributes := #[] }] 1057 2 #[13] #[{ accessFlags := 26, nameIndex := 15, descriptorIndex := 16, attributes := #[] }])
  fields := #[{ name := "serialVersionUID", type := .long, accessFlags := 26, slot := 0, constantValue := 0 }]
  methods := #[k19m0]
  instanceTypes := #[]
  staticTypes := #[.long]
  resolved := Array.replicate 37 none
  statics := none }

def pool20 : Array CpInfo := pool [(1, .class_ 2), (0, u "java/lang/Integer"), (16, u "digits"), (0, u "[C"), (33, u "(I)I"), (19, u "stringSize"), (2, u "getChars"), (0, u "(II[B)I"), (4, .fieldref 1 84), (0, .nameAndType 85 86), (0, u "DigitOnes"), (0, u "[B"), (0, .fieldref 1 88), (0, .nameAndType 89 86), (0, u "DigitTens"), (99, .class_ 190), (0, u "java/lang/Integer$IntegerCache"), (3, u "I"), (8, .class_ 204), (0, u "java/lang/Number"), (2, u "value"), (94, u "TYPE"), (0, u "Ljava/lang/Class;"), (0, .class_ 305), (0, u "java/lang/Comparable"), (0, .class_ 307), (0, u "java/lang/constant/Constable"), (0, .class_ 309), (0, u "java/lang/constant/ConstantDesc"), (0, u "MIN_VALUE"), (1, u "MAX_VALUE"), (3, u "SIZE"), (1, u "BYTES"), (1, u "serialVersionUID"), (0, u "J")] 131

def k20c0 : Code := { maxStack := 4, maxLocals := 7, code := jdk_33_method_12_code, exceptionTable := #[], attributes := #[] }
def k20m0 : Method := { name := "getChars", desc := "(II[B)I", sig := { parameters := [.int, .int, (.array .byte)], returnType := some .int }, accessFlags := 8, code := some k20c0 }
def k20c1 : Code := { maxStack := 2, maxLocals := 4, code := jdk_33_method_13_code, exceptionTable := #[], attributes := #[] }
def k20m1 : Method := { name := "stringSize", desc := "(I)I", sig := { parameters := [.int], returnType := some .int }, accessFlags := 8, code := some k20c1 }
def k20 : Class := { plain "java/lang/Integer" (some 19) with
  accessFlags := 49
  interfaces := #[3, 5, 6]
  cf := some (fileOf pool20 1 #[.nestMembers #[189]] #[{ accessFlags := 8, nameIndex := 77, descriptorIndex := 78, attributes := #[] }, { accessFlags := 8, nameIndex := 74, descriptorIndex := 54, attributes := #[] }] 49 203 #[304, 306, 308] #[{ accessFlags := 25, nameIndex := 310, descriptorIndex := 194, attributes := #[] }, { accessFlags := 25, nameIndex := 312, descriptorIndex := 194, attributes := #[] }, { accessFlags := 25, nameIndex := 302, descriptorIndex := 303, attributes := #[] }, { accessFlags := 24, nameIndex := 19, descriptorIndex := 20, attributes := #[] }, { accessFlags := 24, nameIndex := 89, descriptorIndex := 86, attributes := #[] }, { accessFlags := 24, nameIndex := 85, descriptorIndex := 86, attributes := #[] }, { accessFlags := 18, nameIndex := 207, descriptorIndex := 194, attributes := #[] }, { accessFlags := 25, nameIndex := 316, descriptorIndex := 194, attributes := #[] }, { accessFlags := 25, nameIndex := 318, descriptorIndex := 194, attributes := #[] }, { accessFlags := 26, nameIndex := 320, descriptorIndex := 321, attributes := #[] }])
  fields := #[{ name := "MIN_VALUE", type := .int, accessFlags := 25, slot := 0, constantValue := 0 }, { name := "MAX_VALUE", type := .int, accessFlags := 25, slot := 1, constantValue := 0 }, { name := "TYPE", type := (.object "java/lang/Class"), accessFlags := 25, slot := 2, constantValue := 0 }, { name := "digits", type := (.array .char), accessFlags := 24, slot := 3, constantValue := 0 }, { name := "DigitTens", type := (.array .byte), accessFlags := 24, slot := 4, constantValue := 0 }, { name := "DigitOnes", type := (.array .byte), accessFlags := 24, slot := 5, constantValue := 0 }, { name := "value", type := .int, accessFlags := 18, slot := 0, constantValue := 0 }, { name := "SIZE", type := .int, accessFlags := 25, slot := 6, constantValue := 0 }, { name := "BYTES", type := .int, accessFlags := 25, slot := 7, constantValue := 0 }, { name := "serialVersionUID", type := .long, accessFlags := 26, slot := 8, constantValue := 0 }]
  methods := #[k20m0, k20m1]
  instanceTypes := #[.int]
  staticTypes := #[.int, .int, (.object "java/lang/Class"), (.array .char), (.array .byte), (.array .byte), .int, .int, .long]
  resolved := Array.replicate 453 none
  statics := some 1 }

def pool21 : Array CpInfo := pool [(2, .class_ 4), (1, u "java/lang/Object"), (0, u "<init>"), (0, u "()V"), (17, .class_ 26), (1, u "jdk/internal/util/Preconditions"), (6, u "checkIndex"), (21, .class_ 56), (0, u "jdk/internal/util/Preconditions$4"), (57, .class_ 115), (0, u "jdk/internal/util/Preconditions$1"), (7, u "SIOOBE_FORMATTER"), (0, u "Ljava/util/function/BiFunction;"), (0, .class_ 126), (0, u "jdk/internal/util/Preconditions$2"), (3, u "AIOOBE_FORMATTER"), (0, .class_ 132), (0, u "jdk/internal/util/Preconditions$3"), (3, u "IOOBE_FORMATTER"), (41, u "(IILjava/util/function/BiFunction;)I")] 15

def k21m0 : Method := { name := "<init>", desc := "()V", sig := { parameters := [], returnType := none }, accessFlags := 1, code := none }
def k21c1 : Code := { maxStack := 3, maxLocals := 3, code := jdk_41_method_11_code, exceptionTable := #[], attributes := #[] }
def k21m1 : Method := { name := "checkIndex", desc := "(IILjava/util/function/BiFunction;)I", sig := { parameters := [.int, .int, (.object "java/util/function/BiFunction")], returnType := some .int }, accessFlags := 9, code := some k21c1 }
def k21 : Class := { plain "jdk/internal/util/Preconditions" (some 0) with
  accessFlags := 33
  interfaces := #[]
  cf := some (fileOf pool21 24 #[.nestMembers #[55, 131, 125, 114]] #[{ accessFlags := 1, nameIndex := 5, descriptorIndex := 6, attributes := #[] }, { accessFlags := 9, nameIndex := 33, descriptorIndex := 178, attributes := #[] }] 33 2 #[] #[{ accessFlags := 25, nameIndex := 123, descriptorIndex := 124, attributes := #[] }, { accessFlags := 25, nameIndex := 130, descriptorIndex := 124, attributes := #[] }, { accessFlags := 25, nameIndex := 136, descriptorIndex := 124, attributes := #[] }])
  fields := #[{ name := "SIOOBE_FORMATTER", type := (.object "java/util/function/BiFunction"), accessFlags := 25, slot := 0, constantValue := 0 }, { name := "AIOOBE_FORMATTER", type := (.object "java/util/function/BiFunction"), accessFlags := 25, slot := 1, constantValue := 0 }, { name := "IOOBE_FORMATTER", type := (.object "java/util/function/BiFunction"), accessFlags := 25, slot := 2, constantValue := 0 }]
  methods := #[k21m0, k21m1]
  instanceTypes := #[]
  staticTypes := #[(.object "java/util/function/BiFunction"), (.object "java/util/function/BiFunction"), (.object "java/util/function/BiFunction")]
  resolved := Array.replicate 194 none
  statics := some 2 }

def pool22 : Array CpInfo := pool [(1, u "java/lang/Cloneable"), (0, .class_ 1), (0, u "java/lang/Object"), (0, .class_ 3)] 3

def k22 : Class := { plain "java/lang/Cloneable" (some 0) with
  accessFlags := 1537
  interfaces := #[]
  cf := some (fileOf pool22 2 #[] #[] 1537 4 #[] #[])
  fields := #[]
  methods := #[]
  instanceTypes := #[]
  staticTypes := #[]
  resolved := Array.replicate 8 none
  statics := none }

def k23 : Class := { plain "byte" none with kind := .primitive 'B', accessFlags := 0x411 }
def k24 : Class := { plain "[B" (some 0) with kind := .array 23 .byte, interfaces := #[22, 2], accessFlags := 1041 }

def k25 : Class := { plain "char" none with kind := .primitive 'C', accessFlags := 0x411 }
def k26 : Class := { plain "[C" (some 0) with kind := .array 25 .char, interfaces := #[22, 2], accessFlags := 1041 }

def k27 : Class := { plain "int" none with kind := .primitive 'I', accessFlags := 0x411 }
def k28 : Class := { plain "[I" (some 0) with kind := .array 27 .int, interfaces := #[22, 2], accessFlags := 1041 }

def heap : Heap := #[{ cls := 7, slots := #[.long 0, .int 1, .null, .int 0, .null, .int 0, .int 0], vm := .statics 7 },
  { cls := 20, slots := #[.int 0, .int 0, .null, .null, .ref 4, .ref 3, .int 0, .int 0, .long 0], vm := .statics 20 },
  { cls := 21, slots := #[.null, .null, .null], vm := .statics 21 },
  { cls := 24, slots := #[.int 48, .int 49, .int 50, .int 51, .int 52, .int 53, .int 54, .int 55, .int 56, .int 57, .int 48, .int 49, .int 50, .int 51, .int 52, .int 53, .int 54, .int 55, .int 56, .int 57, .int 48, .int 49, .int 50, .int 51, .int 52, .int 53, .int 54, .int 55, .int 56, .int 57, .int 48, .int 49, .int 50, .int 51, .int 52, .int 53, .int 54, .int 55, .int 56, .int 57, .int 48, .int 49, .int 50, .int 51, .int 52, .int 53, .int 54, .int 55, .int 56, .int 57, .int 48, .int 49, .int 50, .int 51, .int 52, .int 53, .int 54, .int 55, .int 56, .int 57, .int 48, .int 49, .int 50, .int 51, .int 52, .int 53, .int 54, .int 55, .int 56, .int 57, .int 48, .int 49, .int 50, .int 51, .int 52, .int 53, .int 54, .int 55, .int 56, .int 57, .int 48, .int 49, .int 50, .int 51, .int 52, .int 53, .int 54, .int 55, .int 56, .int 57, .int 48, .int 49, .int 50, .int 51, .int 52, .int 53, .int 54, .int 55, .int 56, .int 57], vm := .none },
  { cls := 24, slots := #[.int 48, .int 48, .int 48, .int 48, .int 48, .int 48, .int 48, .int 48, .int 48, .int 48, .int 49, .int 49, .int 49, .int 49, .int 49, .int 49, .int 49, .int 49, .int 49, .int 49, .int 50, .int 50, .int 50, .int 50, .int 50, .int 50, .int 50, .int 50, .int 50, .int 50, .int 51, .int 51, .int 51, .int 51, .int 51, .int 51, .int 51, .int 51, .int 51, .int 51, .int 52, .int 52, .int 52, .int 52, .int 52, .int 52, .int 52, .int 52, .int 52, .int 52, .int 53, .int 53, .int 53, .int 53, .int 53, .int 53, .int 53, .int 53, .int 53, .int 53, .int 54, .int 54, .int 54, .int 54, .int 54, .int 54, .int 54, .int 54, .int 54, .int 54, .int 55, .int 55, .int 55, .int 55, .int 55, .int 55, .int 55, .int 55, .int 55, .int 55, .int 56, .int 56, .int 56, .int 56, .int 56, .int 56, .int 56, .int 56, .int 56, .int 56, .int 57, .int 57, .int 57, .int 57, .int 57, .int 57, .int 57, .int 57, .int 57, .int 57], vm := .none }]
def classes : Array Class := #[k0, k1, k2, k3, k4, k5, k6, k7, k8, k9, k10, k11, k12, k13, k14, k15, k16, k17, k18, k19, k20, k21, k22, k23, k24, k25, k26, k27, k28]
def interned : List (Array UInt16 × Addr) := []
def slotsUsed : Nat := 219
def theMethod : MethodId := ⟨1, 1⟩
def args0 : Array Value := #[.int 5, .int 6, .int 7, .long 8, .int 9]
def aboutOver (below : List Frame) : State where
  vm := { classes := classes, interned := interned.toArray }
  heap := heap
  slotsUsed := slotsUsed
  threads := #[{ frames := .invoking theMethod args0 :: below }]
def below0 : List Frame := [.native { method := ⟨0, 0⟩, args := #[] }]
def about1 : State := aboutOver below0
def p0 : Program := .bare "" "" ""
def e0 : Env := launch0.env 0 0 0
theorem w_frames : about1.frames = Frame.invoking theMethod args0 :: below0 := rfl
set_option maxRecDepth 65536 in
theorem w_args : argsFit about1.vm theMethod args0 = true := by decide +kernel
set_option maxRecDepth 65536 in
theorem w_heap : heapFits about1 = true := by decide +kernel
set_option maxRecDepth 65536 in
theorem w_runnable : about1.curStatus? = some .runnable := by decide +kernel
set_option maxRecDepth 65536 in
theorem w_alone : about1.alone = true := by decide +kernel
set_option maxRecDepth 65536 in
theorem w_named : about1.methodNamed? x = some theMethod := by decide +kernel
set_option maxRecDepth 65536 in
theorem w_hears : about1.hears theMethod below0 = true := by decide +kernel
set_option maxRecDepth 65536 in
theorem w_ripe : about1.ripe theMethod args0 below0 = true := by decide +kernel
theorem w_running : about1.status = .running := rfl
set_option maxRecDepth 65536 in
theorem w_room : about1.hasRoom e0.platform room_1 = true :=
  launch0.hasRoom_least _ room_1 (by decide +kernel) (by decide +kernel) (by decide +kernel) (by decide +kernel) (by decide +kernel) (by decide +kernel)
theorem allAtoms_all (ts : List Jvm.Cond) (a : Array Jvm.Value) (st : Jvm.State) : (allAtoms ts).before a st = ts.all (fun c => c.before a st) := by
  induction ts with
  | nil => rfl
  | cons c t ih =>
    show (Jvm.Cond.and c (allAtoms t)).before a st = _
    rw [Jvm.Cond.before_and, ih, List.all_cons]
def words1 : List Jvm.Cond := Jvm.Cond.code x code maxLocals ret :: tables_1
theorem code_word {y : MethodName} {bytes : ByteArray} {mx : Nat} {rt : Option FieldType} {a : Array Value} {s : State} {m : MethodId} {meth : Method} {c : Code} (h1 : s.methodNamed? y = some m) (h2 : s.vm.method? m = some meth) (h3 : meth.code = some c) (h4 : c.code = bytes)
    (h5 : (c.maxLocals == mx && c.exceptionTable.isEmpty && decide (c.maxStack ≤ mostOperands) && decide (meth.sig.returnType = rt) && !meth.locks && decide (parseMethodDescriptor y.desc = some meth.sig)) = true) : (Jvm.Cond.code y bytes mx rt).before a s = true := by
  simp only [Bool.and_eq_true, beq_iff_eq, Bool.not_eq_true', decide_eq_true_eq] at h5
  obtain ⟨⟨⟨⟨⟨g1, g2⟩, g3⟩, g4⟩, g5⟩, g6⟩ := h5
  simp [Cond.before, Cond.holds, Cond.value, h1, h2, h3, h4, g1, g2, g3, g4, g5, g6]
def isCode : Jvm.Cond → Bool
  | .code _ _ _ _ => true
  | _ => false
theorem all_split {L : List Jvm.Cond} {P : Jvm.Cond → Bool} (h1 : L.all (fun c => isCode c || P c) = true) (h2 : ∀ c ∈ L.filter isCode, P c = true) : L.all P = true := by
  refine List.all_eq_true.mpr fun c hc => ?_
  have h := List.all_eq_true.mp h1 c hc
  rcases Bool.eq_false_or_eq_true (isCode c) with hi | hi
  · exact h2 c (List.mem_filter.mpr ⟨hc, hi⟩)
  · simpa [hi] using h
set_option maxRecDepth 65536 in
theorem w_c0 : (Jvm.Cond.code x code maxLocals ret).before args0 about1 = true := code_word (m := ⟨1, 1⟩) (meth := k1m1) (c := k1c1) (by decide +kernel) rfl rfl rfl (by decide +kernel)
set_option maxRecDepth 65536 in
theorem w_c1 : (Jvm.Cond.code ({ cls := "java/lang/String", name := "<init>", desc := "([C)V" } : Jvm.MethodName) jdk_42_method_3_code (2 : Nat) (Option.none : Option Jvm.ClassFile.FieldType)).before args0 about1 = true := code_word (m := ⟨7, 1⟩) (meth := k7m1) (c := k7c1) (by decide +kernel) rfl rfl rfl (by decide +kernel)
set_option maxRecDepth 65536 in
theorem w_c2 : (Jvm.Cond.code ({ cls := "java/lang/String", name := "<init>", desc := "([CIILjava/lang/Void;)V" } : Jvm.MethodName) jdk_42_method_149_code (6 : Nat) (Option.none : Option Jvm.ClassFile.FieldType)).before args0 about1 = true := code_word (m := ⟨7, 7⟩) (meth := k7m7) (c := k7c7) (by decide +kernel) rfl rfl rfl (by decide +kernel)
set_option maxRecDepth 65536 in
theorem w_c3 : (Jvm.Cond.code ({ cls := "java/lang/Object", name := "<init>", desc := "()V" } : Jvm.MethodName) object_method_1_code (1 : Nat) (Option.none : Option Jvm.ClassFile.FieldType)).before args0 about1 = true := code_word (m := ⟨0, 0⟩) (meth := k0m0) (c := k0c0) (by decide +kernel) rfl rfl rfl (by decide +kernel)
set_option maxRecDepth 65536 in
theorem w_c4 : (Jvm.Cond.code ({ cls := "java/lang/StringUTF16", name := "compress", desc := "([CII)[B" } : Jvm.MethodName) jdk_52_method_16_code (6 : Nat) (Option.some (Jvm.ClassFile.FieldType.array Jvm.ClassFile.FieldType.byte))).before args0 about1 = true := code_word (m := ⟨8, 2⟩) (meth := k8m2) (c := k8c2) (by decide +kernel) rfl rfl rfl (by decide +kernel)
set_option maxRecDepth 65536 in
theorem w_c5 : (Jvm.Cond.code ({ cls := "java/lang/StringUTF16", name := "compress", desc := "([CI[BII)I" } : Jvm.MethodName) jdk_52_method_21_code (7 : Nat) (Option.some Jvm.ClassFile.FieldType.int)).before args0 about1 = true := code_word (m := ⟨8, 3⟩) (meth := k8m3) (c := k8c3) (by decide +kernel) rfl rfl rfl (by decide +kernel)
set_option maxRecDepth 65536 in
theorem w_c6 : (Jvm.Cond.code ({ cls := "java/lang/StringUTF16", name := "coderFromArrayLen", desc := "([BI)B" } : Jvm.MethodName) jdk_52_method_15_code (2 : Nat) (Option.some Jvm.ClassFile.FieldType.byte)).before args0 about1 = true := code_word (m := ⟨8, 1⟩) (meth := k8m1) (c := k8c1) (by decide +kernel) rfl rfl rfl (by decide +kernel)
set_option maxRecDepth 65536 in
theorem w_c7 : (Jvm.Cond.code ({ cls := "com/example/etsin/etsin/BenchTurn$Outcome", name := "ofAgent", desc := "(Ljava/lang/String;I)Lcom/example/etsin/etsin/BenchTurn$Outcome;" } : Jvm.MethodName) prog_2_method_2_code (2 : Nat) (Option.some (Jvm.ClassFile.FieldType.object "com/example/etsin/etsin/BenchTurn$Outcome"))).before args0 about1 = true := code_word (m := ⟨10, 1⟩) (meth := k10m1) (c := k10c1) (by decide +kernel) rfl rfl rfl (by decide +kernel)
set_option maxRecDepth 65536 in
theorem w_c8 : (Jvm.Cond.code ({ cls := "java/lang/String", name := "equals", desc := "(Ljava/lang/Object;)Z" } : Jvm.MethodName) jdk_42_method_66_code (3 : Nat) (Option.some Jvm.ClassFile.FieldType.boolean)).before args0 about1 = true := code_word (m := ⟨7, 5⟩) (meth := k7m5) (c := k7c5) (by decide +kernel) rfl rfl rfl (by decide +kernel)
set_option maxRecDepth 65536 in
theorem w_c9 : (Jvm.Cond.code ({ cls := "java/lang/StringLatin1", name := "equals", desc := "([B[B)Z" } : Jvm.MethodName) jdk_43_method_13_code (3 : Nat) (Option.some Jvm.ClassFile.FieldType.boolean)).before args0 about1 = true := code_word (m := ⟨11, 2⟩) (meth := k11m2) (c := k11c2) (by decide +kernel) rfl rfl rfl (by decide +kernel)
set_option maxRecDepth 65536 in
theorem w_c10 : (Jvm.Cond.code ({ cls := "java/lang/StringBuilder", name := "<init>", desc := "()V" } : Jvm.MethodName) jdk_67_method_1_code (1 : Nat) (Option.none : Option Jvm.ClassFile.FieldType)).before args0 about1 = true := code_word (m := ⟨14, 0⟩) (meth := k14m0) (c := k14c0) (by decide +kernel) rfl rfl rfl (by decide +kernel)
set_option maxRecDepth 65536 in
theorem w_c11 : (Jvm.Cond.code ({ cls := "java/lang/AbstractStringBuilder", name := "<init>", desc := "(I)V" } : Jvm.MethodName) jdk_68_method_2_code (2 : Nat) (Option.none : Option Jvm.ClassFile.FieldType)).before args0 about1 = true := code_word (m := ⟨13, 1⟩) (meth := k13m1) (c := k13c1) (by decide +kernel) rfl rfl rfl (by decide +kernel)
set_option maxRecDepth 65536 in
theorem w_c12 : (Jvm.Cond.code ({ cls := "java/lang/StringBuilder", name := "append", desc := "(Ljava/lang/String;)Ljava/lang/StringBuilder;" } : Jvm.MethodName) jdk_67_method_7_code (2 : Nat) (Option.some (Jvm.ClassFile.FieldType.object "java/lang/StringBuilder"))).before args0 about1 = true := code_word (m := ⟨14, 1⟩) (meth := k14m1) (c := k14c1) (by decide +kernel) rfl rfl rfl (by decide +kernel)
set_option maxRecDepth 65536 in
theorem w_c13 : (Jvm.Cond.code ({ cls := "java/lang/AbstractStringBuilder", name := "append", desc := "(Ljava/lang/String;)Ljava/lang/AbstractStringBuilder;" } : Jvm.MethodName) jdk_68_method_22_code (3 : Nat) (Option.some (Jvm.ClassFile.FieldType.object "java/lang/AbstractStringBuilder"))).before args0 about1 = true := code_word (m := ⟨13, 5⟩) (meth := k13m5) (c := k13c5) (by decide +kernel) rfl rfl rfl (by decide +kernel)
set_option maxRecDepth 65536 in
theorem w_c14 : (Jvm.Cond.code ({ cls := "java/lang/String", name := "length", desc := "()I" } : Jvm.MethodName) jdk_42_method_54_code (1 : Nat) (Option.some Jvm.ClassFile.FieldType.int)).before args0 about1 = true := code_word (m := ⟨7, 3⟩) (meth := k7m3) (c := k7c3) (by decide +kernel) rfl rfl rfl (by decide +kernel)
set_option maxRecDepth 65536 in
theorem w_c15 : (Jvm.Cond.code ({ cls := "java/lang/String", name := "coder", desc := "()B" } : Jvm.MethodName) jdk_42_method_152_code (1 : Nat) (Option.some Jvm.ClassFile.FieldType.byte)).before args0 about1 = true := code_word (m := ⟨7, 9⟩) (meth := k7m9) (c := k7c9) (by decide +kernel) rfl rfl rfl (by decide +kernel)
set_option maxRecDepth 65536 in
theorem w_c16 : (Jvm.Cond.code ({ cls := "java/lang/AbstractStringBuilder", name := "ensureCapacityInternal", desc := "(I)V" } : Jvm.MethodName) jdk_68_method_9_code (3 : Nat) (Option.none : Option Jvm.ClassFile.FieldType)).before args0 about1 = true := code_word (m := ⟨13, 3⟩) (meth := k13m3) (c := k13c3) (by decide +kernel) rfl rfl rfl (by decide +kernel)
set_option maxRecDepth 65536 in
theorem w_c17 : (Jvm.Cond.code ({ cls := "java/lang/AbstractStringBuilder", name := "putStringAt", desc := "(ILjava/lang/String;)V" } : Jvm.MethodName) jdk_68_method_73_code (3 : Nat) (Option.none : Option Jvm.ClassFile.FieldType)).before args0 about1 = true := code_word (m := ⟨13, 10⟩) (meth := k13m10) (c := k13c10) (by decide +kernel) rfl rfl rfl (by decide +kernel)
set_option maxRecDepth 65536 in
theorem w_c18 : (Jvm.Cond.code ({ cls := "java/lang/AbstractStringBuilder", name := "inflateIfNeededFor", desc := "(Ljava/lang/String;)V" } : Jvm.MethodName) jdk_68_method_71_code (2 : Nat) (Option.none : Option Jvm.ClassFile.FieldType)).before args0 about1 = true := code_word (m := ⟨13, 9⟩) (meth := k13m9) (c := k13c9) (by decide +kernel) rfl rfl rfl (by decide +kernel)
set_option maxRecDepth 65536 in
theorem w_c19 : (Jvm.Cond.code ({ cls := "java/lang/String", name := "getBytes", desc := "([BIB)V" } : Jvm.MethodName) jdk_42_method_147_code (4 : Nat) (Option.none : Option Jvm.ClassFile.FieldType)).before args0 about1 = true := code_word (m := ⟨7, 6⟩) (meth := k7m6) (c := k7c6) (by decide +kernel) rfl rfl rfl (by decide +kernel)
set_option maxRecDepth 65536 in
theorem w_c20 : (Jvm.Cond.code ({ cls := "java/lang/AbstractStringBuilder", name := "newCapacity", desc := "(I)I" } : Jvm.MethodName) jdk_68_method_10_code (6 : Nat) (Option.some Jvm.ClassFile.FieldType.int)).before args0 about1 = true := code_word (m := ⟨13, 4⟩) (meth := k13m4) (c := k13c4) (by decide +kernel) rfl rfl rfl (by decide +kernel)
set_option maxRecDepth 65536 in
theorem w_c21 : (Jvm.Cond.code ({ cls := "jdk/internal/util/ArraysSupport", name := "newLength", desc := "(III)I" } : Jvm.MethodName) jdk_48_method_27_code (4 : Nat) (Option.some Jvm.ClassFile.FieldType.int)).before args0 about1 = true := code_word (m := ⟨16, 1⟩) (meth := k16m1) (c := k16c1) (by decide +kernel) rfl rfl rfl (by decide +kernel)
set_option maxRecDepth 65536 in
theorem w_c22 : (Jvm.Cond.code ({ cls := "java/lang/Math", name := "max", desc := "(II)I" } : Jvm.MethodName) jdk_29_method_65_code (2 : Nat) (Option.some Jvm.ClassFile.FieldType.int)).before args0 about1 = true := code_word (m := ⟨17, 3⟩) (meth := k17m3) (c := k17c3) (by decide +kernel) rfl rfl rfl (by decide +kernel)
set_option maxRecDepth 65536 in
theorem w_c23 : (Jvm.Cond.code ({ cls := "java/util/Arrays", name := "copyOf", desc := "([BI)[B" } : Jvm.MethodName) jdk_65_method_121_code (3 : Nat) (Option.some (Jvm.ClassFile.FieldType.array Jvm.ClassFile.FieldType.byte))).before args0 about1 = true := code_word (m := ⟨18, 1⟩) (meth := k18m1) (c := k18c1) (by decide +kernel) rfl rfl rfl (by decide +kernel)
set_option maxRecDepth 65536 in
theorem w_c24 : (Jvm.Cond.code ({ cls := "java/lang/Math", name := "min", desc := "(II)I" } : Jvm.MethodName) jdk_29_method_69_code (2 : Nat) (Option.some Jvm.ClassFile.FieldType.int)).before args0 about1 = true := code_word (m := ⟨17, 4⟩) (meth := k17m4) (c := k17c4) (by decide +kernel) rfl rfl rfl (by decide +kernel)
set_option maxRecDepth 65536 in
theorem w_c25 : (Jvm.Cond.code ({ cls := "java/lang/StringBuilder", name := "append", desc := "(I)Ljava/lang/StringBuilder;" } : Jvm.MethodName) jdk_67_method_15_code (2 : Nat) (Option.some (Jvm.ClassFile.FieldType.object "java/lang/StringBuilder"))).before args0 about1 = true := code_word (m := ⟨14, 2⟩) (meth := k14m2) (c := k14c2) (by decide +kernel) rfl rfl rfl (by decide +kernel)
set_option maxRecDepth 65536 in
theorem w_c26 : (Jvm.Cond.code ({ cls := "java/lang/AbstractStringBuilder", name := "append", desc := "(I)Ljava/lang/AbstractStringBuilder;" } : Jvm.MethodName) jdk_68_method_32_code (4 : Nat) (Option.some (Jvm.ClassFile.FieldType.object "java/lang/AbstractStringBuilder"))).before args0 about1 = true := code_word (m := ⟨13, 6⟩) (meth := k13m6) (c := k13c6) (by decide +kernel) rfl rfl rfl (by decide +kernel)
set_option maxRecDepth 65536 in
theorem w_c27 : (Jvm.Cond.code ({ cls := "java/lang/Integer", name := "stringSize", desc := "(I)I" } : Jvm.MethodName) jdk_33_method_13_code (4 : Nat) (Option.some Jvm.ClassFile.FieldType.int)).before args0 about1 = true := code_word (m := ⟨20, 1⟩) (meth := k20m1) (c := k20c1) (by decide +kernel) rfl rfl rfl (by decide +kernel)
set_option maxRecDepth 65536 in
theorem w_c28 : (Jvm.Cond.code ({ cls := "java/lang/AbstractStringBuilder", name := "isLatin1", desc := "()Z" } : Jvm.MethodName) jdk_68_method_68_code (1 : Nat) (Option.some Jvm.ClassFile.FieldType.boolean)).before args0 about1 = true := code_word (m := ⟨13, 8⟩) (meth := k13m8) (c := k13c8) (by decide +kernel) rfl rfl rfl (by decide +kernel)
set_option maxRecDepth 65536 in
theorem w_c29 : (Jvm.Cond.code ({ cls := "java/lang/Integer", name := "getChars", desc := "(II[B)I" } : Jvm.MethodName) jdk_33_method_12_code (7 : Nat) (Option.some Jvm.ClassFile.FieldType.int)).before args0 about1 = true := code_word (m := ⟨20, 0⟩) (meth := k20m0) (c := k20c0) (by decide +kernel) rfl rfl rfl (by decide +kernel)
set_option maxRecDepth 65536 in
theorem w_c30 : (Jvm.Cond.code ({ cls := "java/lang/StringBuilder", name := "toString", desc := "()Ljava/lang/String;" } : Jvm.MethodName) jdk_67_method_42_code (1 : Nat) (Option.some (Jvm.ClassFile.FieldType.object "java/lang/String"))).before args0 about1 = true := code_word (m := ⟨14, 3⟩) (meth := k14m3) (c := k14c3) (by decide +kernel) rfl rfl rfl (by decide +kernel)
set_option maxRecDepth 65536 in
theorem w_c31 : (Jvm.Cond.code ({ cls := "java/lang/String", name := "<init>", desc := "(Ljava/lang/StringBuilder;)V" } : Jvm.MethodName) jdk_42_method_53_code (2 : Nat) (Option.none : Option Jvm.ClassFile.FieldType)).before args0 about1 = true := code_word (m := ⟨7, 2⟩) (meth := k7m2) (c := k7c2) (by decide +kernel) rfl rfl rfl (by decide +kernel)
set_option maxRecDepth 65536 in
theorem w_c32 : (Jvm.Cond.code ({ cls := "java/lang/String", name := "<init>", desc := "(Ljava/lang/AbstractStringBuilder;Ljava/lang/Void;)V" } : Jvm.MethodName) jdk_42_method_150_code (5 : Nat) (Option.none : Option Jvm.ClassFile.FieldType)).before args0 about1 = true := code_word (m := ⟨7, 8⟩) (meth := k7m8) (c := k7c8) (by decide +kernel) rfl rfl rfl (by decide +kernel)
set_option maxRecDepth 65536 in
theorem w_c33 : (Jvm.Cond.code ({ cls := "java/lang/AbstractStringBuilder", name := "getValue", desc := "()[B" } : Jvm.MethodName) jdk_68_method_64_code (1 : Nat) (Option.some (Jvm.ClassFile.FieldType.array Jvm.ClassFile.FieldType.byte))).before args0 about1 = true := code_word (m := ⟨13, 7⟩) (meth := k13m7) (c := k13c7) (by decide +kernel) rfl rfl rfl (by decide +kernel)
set_option maxRecDepth 65536 in
theorem w_c34 : (Jvm.Cond.code ({ cls := "java/lang/StringBuilder", name := "length", desc := "()I" } : Jvm.MethodName) jdk_67_method_93_code (1 : Nat) (Option.some Jvm.ClassFile.FieldType.int)).before args0 about1 = true := code_word (m := ⟨14, 4⟩) (meth := k14m4) (c := k14c4) (by decide +kernel) rfl rfl rfl (by decide +kernel)
set_option maxRecDepth 65536 in
theorem w_c35 : (Jvm.Cond.code ({ cls := "java/lang/AbstractStringBuilder", name := "length", desc := "()I" } : Jvm.MethodName) jdk_68_method_6_code (1 : Nat) (Option.some Jvm.ClassFile.FieldType.int)).before args0 about1 = true := code_word (m := ⟨13, 2⟩) (meth := k13m2) (c := k13c2) (by decide +kernel) rfl rfl rfl (by decide +kernel)
set_option maxRecDepth 65536 in
theorem w_c36 : (Jvm.Cond.code ({ cls := "java/util/Arrays", name := "copyOfRange", desc := "([BII)[B" } : Jvm.MethodName) jdk_65_method_132_code (3 : Nat) (Option.some (Jvm.ClassFile.FieldType.array Jvm.ClassFile.FieldType.byte))).before args0 about1 = true := code_word (m := ⟨18, 3⟩) (meth := k18m3) (c := k18c3) (by decide +kernel) rfl rfl rfl (by decide +kernel)
set_option maxRecDepth 65536 in
theorem w_c37 : (Jvm.Cond.code ({ cls := "java/util/Arrays", name := "copyOfRangeByte", desc := "([BII)[B" } : Jvm.MethodName) jdk_65_method_133_code (5 : Nat) (Option.some (Jvm.ClassFile.FieldType.array Jvm.ClassFile.FieldType.byte))).before args0 about1 = true := code_word (m := ⟨18, 4⟩) (meth := k18m4) (c := k18c4) (by decide +kernel) rfl rfl rfl (by decide +kernel)
set_option maxRecDepth 65536 in
theorem w_c38 : (Jvm.Cond.code ({ cls := "java/util/Arrays", name := "checkLength", desc := "(II)V" } : Jvm.MethodName) jdk_65_method_131_code (2 : Nat) (Option.none : Option Jvm.ClassFile.FieldType)).before args0 about1 = true := code_word (m := ⟨18, 2⟩) (meth := k18m2) (c := k18c2) (by decide +kernel) rfl rfl rfl (by decide +kernel)
set_option maxRecDepth 65536 in
theorem w_c39 : (Jvm.Cond.code ({ cls := "com/example/etsin/etsin/BenchTurn$Outcome", name := "<init>", desc := "(ZLjava/lang/String;)V" } : Jvm.MethodName) prog_2_method_1_code (3 : Nat) (Option.none : Option Jvm.ClassFile.FieldType)).before args0 about1 = true := code_word (m := ⟨10, 0⟩) (meth := k10m0) (c := k10c0) (by decide +kernel) rfl rfl rfl (by decide +kernel)
set_option maxRecDepth 65536 in
theorem w_c40 : (Jvm.Cond.code ({ cls := "java/lang/Record", name := "<init>", desc := "()V" } : Jvm.MethodName) jdk_30_method_1_code (1 : Nat) (Option.none : Option Jvm.ClassFile.FieldType)).before args0 about1 = true := code_word (m := ⟨9, 0⟩) (meth := k9m0) (c := k9c0) (by decide +kernel) rfl rfl rfl (by decide +kernel)
set_option maxRecDepth 65536 in
theorem w_c41 : (Jvm.Cond.code ({ cls := "com/example/etsin/etsin/BenchTurn$Outcome", name := "correct", desc := "()Z" } : Jvm.MethodName) prog_2_method_7_code (1 : Nat) (Option.some Jvm.ClassFile.FieldType.boolean)).before args0 about1 = true := code_word (m := ⟨10, 2⟩) (meth := k10m2) (c := k10c2) (by decide +kernel) rfl rfl rfl (by decide +kernel)
set_option maxRecDepth 65536 in
theorem w_c42 : (Jvm.Cond.code ({ cls := "com/example/etsin/etsin/BenchTurn$Outcome", name := "description", desc := "()Ljava/lang/String;" } : Jvm.MethodName) prog_2_method_8_code (1 : Nat) (Option.some (Jvm.ClassFile.FieldType.object "java/lang/String"))).before args0 about1 = true := code_word (m := ⟨10, 3⟩) (meth := k10m3) (c := k10c3) (by decide +kernel) rfl rfl rfl (by decide +kernel)
set_option maxRecDepth 65536 in
theorem w_c43 : (Jvm.Cond.code ({ cls := "com/example/etsin/etsin/OutcomeOfAgentPinLaw", name := "width", desc := "(I)I" } : Jvm.MethodName) method_3_code (4 : Nat) (Option.some Jvm.ClassFile.FieldType.int)).before args0 about1 = true := code_word (m := ⟨1, 2⟩) (meth := k1m2) (c := k1c2) (by decide +kernel) rfl rfl rfl (by decide +kernel)
set_option maxRecDepth 65536 in
theorem w_c44 : (Jvm.Cond.code ({ cls := "java/lang/Math", name := "abs", desc := "(J)J" } : Jvm.MethodName) jdk_29_method_61_code (2 : Nat) (Option.some Jvm.ClassFile.FieldType.long)).before args0 about1 = true := code_word (m := ⟨17, 2⟩) (meth := k17m2) (c := k17c2) (by decide +kernel) rfl rfl rfl (by decide +kernel)
set_option maxRecDepth 65536 in
theorem w_c45 : (Jvm.Cond.code ({ cls := "java/lang/String", name := "charAt", desc := "(I)C" } : Jvm.MethodName) jdk_42_method_56_code (2 : Nat) (Option.some Jvm.ClassFile.FieldType.char)).before args0 about1 = true := code_word (m := ⟨7, 4⟩) (meth := k7m4) (c := k7c4) (by decide +kernel) rfl rfl rfl (by decide +kernel)
set_option maxRecDepth 65536 in
theorem w_c46 : (Jvm.Cond.code ({ cls := "java/lang/String", name := "isLatin1", desc := "()Z" } : Jvm.MethodName) jdk_42_method_154_code (1 : Nat) (Option.some Jvm.ClassFile.FieldType.boolean)).before args0 about1 = true := code_word (m := ⟨7, 10⟩) (meth := k7m10) (c := k7c10) (by decide +kernel) rfl rfl rfl (by decide +kernel)
set_option maxRecDepth 65536 in
theorem w_c47 : (Jvm.Cond.code ({ cls := "java/lang/StringLatin1", name := "charAt", desc := "([BI)C" } : Jvm.MethodName) jdk_43_method_2_code (2 : Nat) (Option.some Jvm.ClassFile.FieldType.char)).before args0 about1 = true := code_word (m := ⟨11, 1⟩) (meth := k11m1) (c := k11c1) (by decide +kernel) rfl rfl rfl (by decide +kernel)
set_option maxRecDepth 65536 in
theorem w_c48 : (Jvm.Cond.code ({ cls := "java/lang/String", name := "checkIndex", desc := "(II)V" } : Jvm.MethodName) jdk_42_method_155_code (2 : Nat) (Option.none : Option Jvm.ClassFile.FieldType)).before args0 about1 = true := code_word (m := ⟨7, 11⟩) (meth := k7m11) (c := k7c11) (by decide +kernel) rfl rfl rfl (by decide +kernel)
set_option maxRecDepth 65536 in
theorem w_c49 : (Jvm.Cond.code ({ cls := "jdk/internal/util/Preconditions", name := "checkIndex", desc := "(IILjava/util/function/BiFunction;)I" } : Jvm.MethodName) jdk_41_method_11_code (3 : Nat) (Option.some Jvm.ClassFile.FieldType.int)).before args0 about1 = true := code_word (m := ⟨21, 1⟩) (meth := k21m1) (c := k21c1) (by decide +kernel) rfl rfl rfl (by decide +kernel)
set_option maxRecDepth 65536 in
theorem w_c50 : (Jvm.Cond.code ({ cls := "java/lang/Math", name := "abs", desc := "(I)I" } : Jvm.MethodName) jdk_29_method_59_code (1 : Nat) (Option.some Jvm.ClassFile.FieldType.int)).before args0 about1 = true := code_word (m := ⟨17, 1⟩) (meth := k17m1) (c := k17c1) (by decide +kernel) rfl rfl rfl (by decide +kernel)
def codes1 : List Jvm.Cond := [Jvm.Cond.code x code maxLocals ret, Jvm.Cond.code ({ cls := "java/lang/String", name := "<init>", desc := "([C)V" } : Jvm.MethodName) jdk_42_method_3_code (2 : Nat) (Option.none : Option Jvm.ClassFile.FieldType), Jvm.Cond.code ({ cls := "java/lang/String", name := "<init>", desc := "([CIILjava/lang/Void;)V" } : Jvm.MethodName) jdk_42_method_149_code (6 : Nat) (Option.none : Option Jvm.ClassFile.FieldType), Jvm.Cond.code ({ cls := "java/lang/Object", name := "<init>", desc := "()V" } : Jvm.MethodName) object_method_1_code (1 : Nat) (Option.none : Option Jvm.ClassFile.FieldType), Jvm.Cond.code ({ cls := "java/lang/StringUTF16", name := "compress", desc := "([CII)[B" } : Jvm.MethodName) jdk_52_method_16_code (6 : Nat) (Option.some (Jvm.ClassFile.FieldType.array Jvm.ClassFile.FieldType.byte)), Jvm.Cond.code ({ cls := "java/lang/StringUTF16", name := "compress", desc := "([CI[BII)I" } : Jvm.MethodName) jdk_52_method_21_code (7 : Nat) (Option.some Jvm.ClassFile.FieldType.int), Jvm.Cond.code ({ cls := "java/lang/StringUTF16", name := "coderFromArrayLen", desc := "([BI)B" } : Jvm.MethodName) jdk_52_method_15_code (2 : Nat) (Option.some Jvm.ClassFile.FieldType.byte), Jvm.Cond.code ({ cls := "com/example/etsin/etsin/BenchTurn$Outcome", name := "ofAgent", desc := "(Ljava/lang/String;I)Lcom/example/etsin/etsin/BenchTurn$Outcome;" } : Jvm.MethodName) prog_2_method_2_code (2 : Nat) (Option.some (Jvm.ClassFile.FieldType.object "com/example/etsin/etsin/BenchTurn$Outcome")), Jvm.Cond.code ({ cls := "java/lang/String", name := "equals", desc := "(Ljava/lang/Object;)Z" } : Jvm.MethodName) jdk_42_method_66_code (3 : Nat) (Option.some Jvm.ClassFile.FieldType.boolean), Jvm.Cond.code ({ cls := "java/lang/StringLatin1", name := "equals", desc := "([B[B)Z" } : Jvm.MethodName) jdk_43_method_13_code (3 : Nat) (Option.some Jvm.ClassFile.FieldType.boolean), Jvm.Cond.code ({ cls := "java/lang/StringBuilder", name := "<init>", desc := "()V" } : Jvm.MethodName) jdk_67_method_1_code (1 : Nat) (Option.none : Option Jvm.ClassFile.FieldType), Jvm.Cond.code ({ cls := "java/lang/AbstractStringBuilder", name := "<init>", desc := "(I)V" } : Jvm.MethodName) jdk_68_method_2_code (2 : Nat) (Option.none : Option Jvm.ClassFile.FieldType), Jvm.Cond.code ({ cls := "java/lang/StringBuilder", name := "append", desc := "(Ljava/lang/String;)Ljava/lang/StringBuilder;" } : Jvm.MethodName) jdk_67_method_7_code (2 : Nat) (Option.some (Jvm.ClassFile.FieldType.object "java/lang/StringBuilder")), Jvm.Cond.code ({ cls := "java/lang/AbstractStringBuilder", name := "append", desc := "(Ljava/lang/String;)Ljava/lang/AbstractStringBuilder;" } : Jvm.MethodName) jdk_68_method_22_code (3 : Nat) (Option.some (Jvm.ClassFile.FieldType.object "java/lang/AbstractStringBuilder")), Jvm.Cond.code ({ cls := "java/lang/String", name := "length", desc := "()I" } : Jvm.MethodName) jdk_42_method_54_code (1 : Nat) (Option.some Jvm.ClassFile.FieldType.int), Jvm.Cond.code ({ cls := "java/lang/String", name := "coder", desc := "()B" } : Jvm.MethodName) jdk_42_method_152_code (1 : Nat) (Option.some Jvm.ClassFile.FieldType.byte), Jvm.Cond.code ({ cls := "java/lang/AbstractStringBuilder", name := "ensureCapacityInternal", desc := "(I)V" } : Jvm.MethodName) jdk_68_method_9_code (3 : Nat) (Option.none : Option Jvm.ClassFile.FieldType), Jvm.Cond.code ({ cls := "java/lang/AbstractStringBuilder", name := "putStringAt", desc := "(ILjava/lang/String;)V" } : Jvm.MethodName) jdk_68_method_73_code (3 : Nat) (Option.none : Option Jvm.ClassFile.FieldType), Jvm.Cond.code ({ cls := "java/lang/AbstractStringBuilder", name := "inflateIfNeededFor", desc := "(Ljava/lang/String;)V" } : Jvm.MethodName) jdk_68_method_71_code (2 : Nat) (Option.none : Option Jvm.ClassFile.FieldType), Jvm.Cond.code ({ cls := "java/lang/String", name := "getBytes", desc := "([BIB)V" } : Jvm.MethodName) jdk_42_method_147_code (4 : Nat) (Option.none : Option Jvm.ClassFile.FieldType), Jvm.Cond.code ({ cls := "java/lang/AbstractStringBuilder", name := "newCapacity", desc := "(I)I" } : Jvm.MethodName) jdk_68_method_10_code (6 : Nat) (Option.some Jvm.ClassFile.FieldType.int), Jvm.Cond.code ({ cls := "jdk/internal/util/ArraysSupport", name := "newLength", desc := "(III)I" } : Jvm.MethodName) jdk_48_method_27_code (4 : Nat) (Option.some Jvm.ClassFile.FieldType.int), Jvm.Cond.code ({ cls := "java/lang/Math", name := "max", desc := "(II)I" } : Jvm.MethodName) jdk_29_method_65_code (2 : Nat) (Option.some Jvm.ClassFile.FieldType.int), Jvm.Cond.code ({ cls := "java/util/Arrays", name := "copyOf", desc := "([BI)[B" } : Jvm.MethodName) jdk_65_method_121_code (3 : Nat) (Option.some (Jvm.ClassFile.FieldType.array Jvm.ClassFile.FieldType.byte)), Jvm.Cond.code ({ cls := "java/lang/Math", name := "min", desc := "(II)I" } : Jvm.MethodName) jdk_29_method_69_code (2 : Nat) (Option.some Jvm.ClassFile.FieldType.int), Jvm.Cond.code ({ cls := "java/lang/StringBuilder", name := "append", desc := "(I)Ljava/lang/StringBuilder;" } : Jvm.MethodName) jdk_67_method_15_code (2 : Nat) (Option.some (Jvm.ClassFile.FieldType.object "java/lang/StringBuilder")), Jvm.Cond.code ({ cls := "java/lang/AbstractStringBuilder", name := "append", desc := "(I)Ljava/lang/AbstractStringBuilder;" } : Jvm.MethodName) jdk_68_method_32_code (4 : Nat) (Option.some (Jvm.ClassFile.FieldType.object "java/lang/AbstractStringBuilder")), Jvm.Cond.code ({ cls := "java/lang/Integer", name := "stringSize", desc := "(I)I" } : Jvm.MethodName) jdk_33_method_13_code (4 : Nat) (Option.some Jvm.ClassFile.FieldType.int), Jvm.Cond.code ({ cls := "java/lang/AbstractStringBuilder", name := "isLatin1", desc := "()Z" } : Jvm.MethodName) jdk_68_method_68_code (1 : Nat) (Option.some Jvm.ClassFile.FieldType.boolean), Jvm.Cond.code ({ cls := "java/lang/Integer", name := "getChars", desc := "(II[B)I" } : Jvm.MethodName) jdk_33_method_12_code (7 : Nat) (Option.some Jvm.ClassFile.FieldType.int), Jvm.Cond.code ({ cls := "java/lang/StringBuilder", name := "toString", desc := "()Ljava/lang/String;" } : Jvm.MethodName) jdk_67_method_42_code (1 : Nat) (Option.some (Jvm.ClassFile.FieldType.object "java/lang/String")), Jvm.Cond.code ({ cls := "java/lang/String", name := "<init>", desc := "(Ljava/lang/StringBuilder;)V" } : Jvm.MethodName) jdk_42_method_53_code (2 : Nat) (Option.none : Option Jvm.ClassFile.FieldType), Jvm.Cond.code ({ cls := "java/lang/String", name := "<init>", desc := "(Ljava/lang/AbstractStringBuilder;Ljava/lang/Void;)V" } : Jvm.MethodName) jdk_42_method_150_code (5 : Nat) (Option.none : Option Jvm.ClassFile.FieldType), Jvm.Cond.code ({ cls := "java/lang/AbstractStringBuilder", name := "getValue", desc := "()[B" } : Jvm.MethodName) jdk_68_method_64_code (1 : Nat) (Option.some (Jvm.ClassFile.FieldType.array Jvm.ClassFile.FieldType.byte)), Jvm.Cond.code ({ cls := "java/lang/StringBuilder", name := "length", desc := "()I" } : Jvm.MethodName) jdk_67_method_93_code (1 : Nat) (Option.some Jvm.ClassFile.FieldType.int), Jvm.Cond.code ({ cls := "java/lang/AbstractStringBuilder", name := "length", desc := "()I" } : Jvm.MethodName) jdk_68_method_6_code (1 : Nat) (Option.some Jvm.ClassFile.FieldType.int), Jvm.Cond.code ({ cls := "java/util/Arrays", name := "copyOfRange", desc := "([BII)[B" } : Jvm.MethodName) jdk_65_method_132_code (3 : Nat) (Option.some (Jvm.ClassFile.FieldType.array Jvm.ClassFile.FieldType.byte)), Jvm.Cond.code ({ cls := "java/util/Arrays", name := "copyOfRangeByte", desc := "([BII)[B" } : Jvm.MethodName) jdk_65_method_133_code (5 : Nat) (Option.some (Jvm.ClassFile.FieldType.array Jvm.ClassFile.FieldType.byte)), Jvm.Cond.code ({ cls := "java/util/Arrays", name := "checkLength", desc := "(II)V" } : Jvm.MethodName) jdk_65_method_131_code (2 : Nat) (Option.none : Option Jvm.ClassFile.FieldType), Jvm.Cond.code ({ cls := "com/example/etsin/etsin/BenchTurn$Outcome", name := "<init>", desc := "(ZLjava/lang/String;)V" } : Jvm.MethodName) prog_2_method_1_code (3 : Nat) (Option.none : Option Jvm.ClassFile.FieldType), Jvm.Cond.code ({ cls := "java/lang/Record", name := "<init>", desc := "()V" } : Jvm.MethodName) jdk_30_method_1_code (1 : Nat) (Option.none : Option Jvm.ClassFile.FieldType), Jvm.Cond.code ({ cls := "com/example/etsin/etsin/BenchTurn$Outcome", name := "correct", desc := "()Z" } : Jvm.MethodName) prog_2_method_7_code (1 : Nat) (Option.some Jvm.ClassFile.FieldType.boolean), Jvm.Cond.code ({ cls := "com/example/etsin/etsin/BenchTurn$Outcome", name := "description", desc := "()Ljava/lang/String;" } : Jvm.MethodName) prog_2_method_8_code (1 : Nat) (Option.some (Jvm.ClassFile.FieldType.object "java/lang/String")), Jvm.Cond.code ({ cls := "com/example/etsin/etsin/OutcomeOfAgentPinLaw", name := "width", desc := "(I)I" } : Jvm.MethodName) method_3_code (4 : Nat) (Option.some Jvm.ClassFile.FieldType.int), Jvm.Cond.code ({ cls := "java/lang/Math", name := "abs", desc := "(J)J" } : Jvm.MethodName) jdk_29_method_61_code (2 : Nat) (Option.some Jvm.ClassFile.FieldType.long), Jvm.Cond.code ({ cls := "java/lang/String", name := "charAt", desc := "(I)C" } : Jvm.MethodName) jdk_42_method_56_code (2 : Nat) (Option.some Jvm.ClassFile.FieldType.char), Jvm.Cond.code ({ cls := "java/lang/String", name := "isLatin1", desc := "()Z" } : Jvm.MethodName) jdk_42_method_154_code (1 : Nat) (Option.some Jvm.ClassFile.FieldType.boolean), Jvm.Cond.code ({ cls := "java/lang/StringLatin1", name := "charAt", desc := "([BI)C" } : Jvm.MethodName) jdk_43_method_2_code (2 : Nat) (Option.some Jvm.ClassFile.FieldType.char), Jvm.Cond.code ({ cls := "java/lang/String", name := "checkIndex", desc := "(II)V" } : Jvm.MethodName) jdk_42_method_155_code (2 : Nat) (Option.none : Option Jvm.ClassFile.FieldType), Jvm.Cond.code ({ cls := "jdk/internal/util/Preconditions", name := "checkIndex", desc := "(IILjava/util/function/BiFunction;)I" } : Jvm.MethodName) jdk_41_method_11_code (3 : Nat) (Option.some Jvm.ClassFile.FieldType.int), Jvm.Cond.code ({ cls := "java/lang/Math", name := "abs", desc := "(I)I" } : Jvm.MethodName) jdk_29_method_59_code (1 : Nat) (Option.some Jvm.ClassFile.FieldType.int)]
set_option maxRecDepth 65536 in
theorem codes_eq : words1.filter isCode = codes1 := rfl
theorem w_codes : ∀ c ∈ words1.filter isCode, c.before args0 about1 = true := by
  rw [codes_eq]
  intro c hc
  simp only [codes1, List.mem_cons, List.not_mem_nil, or_false] at hc
  rcases hc with rfl | rfl | rfl | rfl | rfl | rfl | rfl | rfl | rfl | rfl | rfl | rfl | rfl | rfl | rfl | rfl | rfl | rfl | rfl | rfl | rfl | rfl | rfl | rfl | rfl | rfl | rfl | rfl | rfl | rfl | rfl | rfl | rfl | rfl | rfl | rfl | rfl | rfl | rfl | rfl | rfl | rfl | rfl | rfl | rfl | rfl | rfl | rfl | rfl | rfl | rfl
  · exact w_c0
  · exact w_c1
  · exact w_c2
  · exact w_c3
  · exact w_c4
  · exact w_c5
  · exact w_c6
  · exact w_c7
  · exact w_c8
  · exact w_c9
  · exact w_c10
  · exact w_c11
  · exact w_c12
  · exact w_c13
  · exact w_c14
  · exact w_c15
  · exact w_c16
  · exact w_c17
  · exact w_c18
  · exact w_c19
  · exact w_c20
  · exact w_c21
  · exact w_c22
  · exact w_c23
  · exact w_c24
  · exact w_c25
  · exact w_c26
  · exact w_c27
  · exact w_c28
  · exact w_c29
  · exact w_c30
  · exact w_c31
  · exact w_c32
  · exact w_c33
  · exact w_c34
  · exact w_c35
  · exact w_c36
  · exact w_c37
  · exact w_c38
  · exact w_c39
  · exact w_c40
  · exact w_c41
  · exact w_c42
  · exact w_c43
  · exact w_c44
  · exact w_c45
  · exact w_c46
  · exact w_c47
  · exact w_c48
  · exact w_c49
  · exact w_c50
set_option maxRecDepth 65536 in
theorem w_t1 : (words1.take 24).all (fun c => isCode c || c.before args0 about1) = true := by decide +kernel
set_option maxRecDepth 65536 in
theorem w_t2 : ((words1.drop 24).take 24).all (fun c => isCode c || c.before args0 about1) = true := by decide +kernel
set_option maxRecDepth 65536 in
theorem w_t3 : (((words1.drop 24).drop 24).take 24).all (fun c => isCode c || c.before args0 about1) = true := by decide +kernel
set_option maxRecDepth 65536 in
theorem w_t4 : ((((words1.drop 24).drop 24).drop 24).take 24).all (fun c => isCode c || c.before args0 about1) = true := by decide +kernel
set_option maxRecDepth 65536 in
theorem w_t5 : (((((words1.drop 24).drop 24).drop 24).drop 24).take 24).all (fun c => isCode c || c.before args0 about1) = true := by decide +kernel
set_option maxRecDepth 65536 in
theorem w_t6 : ((((((words1.drop 24).drop 24).drop 24).drop 24).drop 24).take 24).all (fun c => isCode c || c.before args0 about1) = true := by decide +kernel
set_option maxRecDepth 65536 in
theorem w_t7 : (((((((words1.drop 24).drop 24).drop 24).drop 24).drop 24).drop 24).take 24).all (fun c => isCode c || c.before args0 about1) = true := by decide +kernel
set_option maxRecDepth 65536 in
theorem w_t8 : ((((((((words1.drop 24).drop 24).drop 24).drop 24).drop 24).drop 24).drop 24).take 24).all (fun c => isCode c || c.before args0 about1) = true := by decide +kernel
set_option maxRecDepth 65536 in
theorem w_t9 : (((((((((words1.drop 24).drop 24).drop 24).drop 24).drop 24).drop 24).drop 24).drop 24).take 24).all (fun c => isCode c || c.before args0 about1) = true := by decide +kernel
set_option maxRecDepth 65536 in
theorem w_t10 : ((((((((((words1.drop 24).drop 24).drop 24).drop 24).drop 24).drop 24).drop 24).drop 24).drop 24).take 24).all (fun c => isCode c || c.before args0 about1) = true := by decide +kernel
set_option maxRecDepth 65536 in
theorem w_t11 : (((((((((((words1.drop 24).drop 24).drop 24).drop 24).drop 24).drop 24).drop 24).drop 24).drop 24).drop 24).take 24).all (fun c => isCode c || c.before args0 about1) = true := by decide +kernel
set_option maxRecDepth 65536 in
theorem w_t12 : (((((((((((words1.drop 24).drop 24).drop 24).drop 24).drop 24).drop 24).drop 24).drop 24).drop 24).drop 24).drop 24).all (fun c => isCode c || c.before args0 about1) = true := by decide +kernel
theorem w_tables : (allAtoms (Jvm.Cond.code x code maxLocals ret :: tables_1)).before args0 about1 = true := by
  rw [allAtoms_all]
  show words1.all (fun c => c.before args0 about1) = true
  refine all_split ?_ w_codes
  rw [← List.take_append_drop 24 words1, List.all_append, w_t1, ← List.take_append_drop 24 (words1.drop 24), List.all_append, w_t2, ← List.take_append_drop 24 ((words1.drop 24).drop 24), List.all_append, w_t3, ← List.take_append_drop 24 (((words1.drop 24).drop 24).drop 24), List.all_append, w_t4, ← List.take_append_drop 24 ((((words1.drop 24).drop 24).drop 24).drop 24), List.all_append, w_t5, ← List.take_append_drop 24 (((((words1.drop 24).drop 24).drop 24).drop 24).drop 24), List.all_append, w_t6, ← List.take_append_drop 24 ((((((words1.drop 24).drop 24).drop 24).drop 24).drop 24).drop 24), List.all_append, w_t7, ← List.take_append_drop 24 (((((((words1.drop 24).drop 24).drop 24).drop 24).drop 24).drop 24).drop 24), List.all_append, w_t8, ← List.take_append_drop 24 ((((((((words1.drop 24).drop 24).drop 24).drop 24).drop 24).drop 24).drop 24).drop 24), List.all_append, w_t9, ← List.take_append_drop 24 (((((((((words1.drop 24).drop 24).drop 24).drop 24).drop 24).drop 24).drop 24).drop 24).drop 24), List.all_append, w_t10, ← List.take_append_drop 24 ((((((((((words1.drop 24).drop 24).drop 24).drop 24).drop 24).drop 24).drop 24).drop 24).drop 24).drop 24), List.all_append, w_t11, w_t12]
  rfl
set_option maxRecDepth 65536 in
theorem w_rest : rest_1_c.before args0 about1 = true := by decide +kernel
set_option maxRecDepth 65536 in
theorem w_case : (Jvm.Cond.and given_1 narrow_1).before args0 about1 = true := by decide +kernel
set_option maxRecDepth 65536 in
theorem w_consts : constsHeld consts_1 about1 := Jvm.Lit.constsHeldB_iff.mp (by decide +kernel)
theorem w_applies : (headSpec (Jvm.Cond.code x code maxLocals ret :: tables_1) room_1).applies x e0.platform about1 = true :=
  (Spec.applies_iff w_frames).mpr ⟨w_running, w_runnable, w_alone, w_named, w_hears, w_ripe, w_room, w_tables⟩
theorem atStart : AtStart classFile x code maxLocals ret World_1 tables_1 room_1 Calls_1 rest_1 Pre_1 launch0 p0 e0 about1 theMethod args0 below0 :=
  ⟨lists_1, trivial, launch0.admits_env _ _ _, launch0.least_env, fairChoices_fair.cas, fairChoices_fair.clock, w_frames, w_args, w_heap, w_applies, ⟨w_consts, trivial⟩, w_rest, w_case⟩
end start1
theorem witness_1 : WitnessClaimed_1 := ⟨start1.p0, start1.e0, start1.about1, start1.theMethod, start1.args0, start1.below0, start1.atStart⟩
end Jvm.Pilot.@@N@@
