import JvmDerived
import JvmDerived.Pilot.@@N@@Statement
import JvmDerived.Pilot.@@N@@Code
set_option linter.unusedVariables false
set_option linter.unusedSimpArgs false
set_option maxRecDepth 65536
set_option maxHeartbeats 40000000
namespace Jvm.S9
open Sem ClassFile Op Lib Jvm.Stand Jvm.Free Jvm.LawKit Jvm.RoadKit
def Str (Z : State) (h : Heap) (x t : Addr) (kb : ClassId) (cs : List Int32) : Prop :=
  Exa Z h x "java/lang/String" ∧ Fld Z h x "java/lang/String" "value" "[B" (.ref t) ∧ Fld Z h x "java/lang/String" "coder" "B" (.int 0) ∧ Arv Z h t kb .byte (Int32.ofNat cs.length) (cs.map fun c => Value.int (c.toInt8.toInt32)) (.int 0) ∧ (∀ c ∈ cs, ¬ c < 0 ∧ ¬ (255 : Int32) < c) ∧ cs.length ≤ 4000
theorem Str.keep {Z : State} {h h' : Heap} {x t : Addr} {kb : ClassId} {cs : List Int32} {ws : List Addr} (F : Str Z h x t kb cs) (K : Keep h h' ws) (q1 : x ∉ ws) (q2 : t ∉ ws) : Str Z h' x t kb cs :=
  ⟨F.1.keep K, F.2.1.keep K q1, F.2.2.1.keep K q1, F.2.2.2.1.keep K q2, F.2.2.2.2⟩
theorem Str.lt {Z : State} {h : Heap} {x t : Addr} {kb : ClassId} {cs : List Int32} (F : Str Z h x t kb cs) : x < h.size := F.1.lt
theorem Str.ltb {Z : State} {h : Heap} {x t : Addr} {kb : ClassId} {cs : List Int32} (F : Str Z h x t kb cs) : t < h.size := F.2.2.2.1.lt
end Jvm.S9
namespace Jvm.Y9
open Sem ClassFile Op Lib Jvm.Stand Jvm.Free Jvm.LawKit Jvm.RoadKit
section Base
variable {p : Program} {l : Launch} {e : Env} {R : Room} {s : State} {m : MethodId} {args : Array Value} {below : List Frame} {meth : Method} {c : Code} {T : State} {h : Heap} {n0 k n : Nat} {Z : State} {a0 : Array Value}
def On (p : Program) (l : Launch) (e : Env) (R : Room) (s : State) (m : MethodId) (args : Array Value) (below : List Frame) (meth : Method) (c : Code) (n0 : Nat) (T : State) (h : Heap) (k n : Nat) : Prop :=
  ∃ locs, Stand p l e R s m args below meth c T locs k n ∧ T.heap = h ∧ Fr n0 locs
def Aim (p : Program) (e : Env) (below : List Frame) (s : State) (CC SS n0 : Nat) (Q : Option Value → Heap → Prop) (T : State) (g : JFrame) : Prop :=
  ∃ s₂ o, Steps p.tables e below (T.setTop g) s₂ ∧ s₂.status = .running ∧ Ended s₂ below o ∧ ∃ v L, o = .returned v ∧ (Q v s₂.heap ∧ Fr n0 L) ∧ FrameEnd s o s₂ L CC SS
def Con (l : Launch) (Z : State) (y : MethodName) (bytes : ByteArray) (maxL : Nat) (ret : Option FieldType) (rm : Room) (n0 : Nat) (as' : Array Value) (h0 : Heap) (Q : Option Value → Heap → Prop) : Prop :=
  ∀ ws, MetFree l y (head1 (Cond.code y bytes maxL ret :: ws) rm) (fun a U => a = as' ∧ Z.Warmed39 U.vm ∧ U.heap = h0) (fun _ _ _ _ _ => True) (fun _ U o U' => ∃ v L, o = .returned v ∧ (Q v U'.heap ∧ Fr n0 L) ∧ FrameEnd U o U' L rm.cells rm.slots)
def Bk (l : Launch) (R : Room) (p : Program) (e : Env) (below : List Frame) (s : State) (sargs : Array Value) (y : MethodName) (len W : Nat) (as' : Array Value) (h : Heap) (dc ds n0 : Nat) (Q : Option Value → Heap → Prop) : Prop :=
  Back l R p e below s sargs y len W (fun A a => a = as' ∧ A.U.heap = h ∧ A.cells + dc ≤ R.cells ∧ A.slots + ds ≤ R.slots) (fun A _ v B => ∃ L, (Q v B.U.heap ∧ Fr n0 L) ∧ B.locs = A.locs ++ L ∧ B.cells = A.cells + dc ∧ B.slots = A.slots + ds)
variable {CC SS : Nat} {Q : Option Value → Heap → Prop}
theorem On.here (P : On p l e R s m args below meth c n0 T h k n) : At T m c below := by obtain ⟨_, X, -⟩ := P; exact X.here
theorem On.more {k' n' : Nat} (P : On p l e R s m args below meth c n0 T h k n) (hk : k ≤ k') (hn : n ≤ n') : On p l e R s m args below meth c n0 T h k' n' := by
  obtain ⟨L, X, r⟩ := P; exact ⟨L, X.more hk hn, r⟩
theorem Aim.of {T' : State} {g g' : JFrame} (st : ∀ t, Steps p.tables e below (T'.setTop g') t → Steps p.tables e below (T.setTop g) t) (a : Aim p e below s CC SS n0 Q T' g') : Aim p e below s CC SS n0 Q T g := by
  obtain ⟨s2, o, h1, r⟩ := a; exact ⟨s2, o, st _ h1, r⟩
theorem Aim.cast {g g' : JFrame} (q : g = g') (a : Aim p e below s CC SS n0 Q T g') : Aim p e below s CC SS n0 Q T g := q ▸ a
theorem Aim.imp {g : JFrame} {Q' : Option Value → Heap → Prop} (a : Aim p e below s CC SS n0 Q' T g) (q : ∀ v h, Q' v h → Q v h) : Aim p e below s CC SS n0 Q T g := by
  obtain ⟨s2, o, h1, h2, h3, v, L, h4, ⟨h5, h6⟩, h7⟩ := a; exact ⟨s2, o, h1, h2, h3, v, L, h4, ⟨q _ _ h5, h6⟩, h7⟩
theorem Con.imp {y : MethodName} {bytes : ByteArray} {maxL : Nat} {ret : Option FieldType} {rm : Room} {as' : Array Value} {Q' : Option Value → Heap → Prop} (a : Con l Z y bytes maxL ret rm n0 as' h Q') (q : ∀ v h, Q' v h → Q v h) : Con l Z y bytes maxL ret rm n0 as' h Q := by
  intro ws p e ha hc hk s m args below hf happ hP hK
  obtain ⟨nn, o, h1, h2, h3, v, L, h4, ⟨h5, h6⟩, h7⟩ := a ws p e ha hc hk s m args below hf happ hP hK
  exact ⟨nn, o, h1, h2, h3, v, L, h4, ⟨q _ _ h5, h6⟩, h7⟩
theorem Con.intro {y : MethodName} {bytes : ByteArray} {maxL : Nat} {ret : Option FieldType} {rm : Room} {as' : Array Value} (pl : plainFor y = true)
    (body : ∀ (p : Program) (e : Env) (s : State) (m : MethodId) (below : List Frame) (meth : Method) (c : Code) (s₁ : State), p.tables.exec = Jvm.exec → c.code = bytes → c.maxLocals = maxL → meth.sig.returnType = ret → meth.name = y.name → s.vm.findClass y.cls = some m.cls → meth.locks = false → Z.Warmed39 s.vm →
      On p l e rm s m as' below meth c n0 s₁ h 0 0 → Aim p e below s rm.cells rm.slots n0 Q s₁ (entryFrame m as' maxL)) : Con l Z y bytes maxL ret rm n0 as' h Q := by
  intro ws
  refine MetFree.of_bodySF pl hisR ?_
  intro p e s m args below meth c s₁ Bd hml0 hP hK
  obtain ⟨rfl, hZ, hh⟩ := hP
  have X0 : Stand p l e rm s m args below meth c s₁ [] 0 0 := Stand.of_body Bd
  obtain ⟨s2, o, h1, h2, h3, v, L, h4, h5, h6⟩ := body p e s m below meth c s₁ Bd.exec Bd.bytes hml0 Bd.returns (name_of_methodNamed Bd.named Bd.method).1 (findClass_of_methodNamed Bd.named) (BodyLoose.notSynchronized Bd) hZ ⟨[], X0, by rw [← hh, Bd.state]; rfl, Fr.nil n0⟩
  exact ⟨s2, o, h1, h2, h3, v, L, h4, h5, h6⟩
theorem Con.back {y : MethodName} {bytes : ByteArray} {maxL : Nat} {ret : Option FieldType} {rm : Room} {as' : Array Value} {len W : Nat} (hM : Con l Z y bytes maxL ret rm n0 as' h Q) (hZ : Z.Warmed39 s.vm) (wc : (Cond.code y bytes maxL ret).before a0 Z = true) (wz : (Cond.initialized y.cls).before a0 Z = true) (hf : rm.frames + 1 ≤ R.frames) (hl : W + (maxL + 11) + rm.locals ≤ R.locals) :
    Bk l R p e below s args y len W as' h rm.cells rm.slots n0 Q := backOf (Q := fun v h L => Q v h ∧ Fr n0 L) (hM []) hZ wc wz hf hl
theorem Bk.imp {y : MethodName} {len W dc ds : Nat} {as' : Array Value} {Q' : Option Value → Heap → Prop} (hK : Bk l R p e below s args y len W as' h dc ds n0 Q') (q : ∀ v h, Q' v h → Q v h) : Bk l R p e below s args y len W as' h dc ds n0 Q :=
  Back.mono hK (fun _ _ hp => hp) (fun _ _ _ _ _ ⟨L, ⟨h1, h2⟩, r⟩ => ⟨L, ⟨q _ _ h1, h2⟩, r⟩)
/-! the ways out -/
theorem Aim.retN {t : FieldType} {pc : Nat} {Ls : Array Slot} {z : Int32} {rest : List Value} (P : On p l e R s m args below meth c n0 T h k n) (hx : p.tables.exec = Jvm.exec) (hlk : meth.locks = false) (hret : meth.sig.returnType = some t) (ht : t = .boolean ∨ t = .byte ∨ t = .char ∨ t = .short) (hd : decode c.code pc = .ok (.ireturn, 1))
    (hk : k ≤ CC) (hn : n ≤ SS) (q : Q (some (.int (nar t z))) h) : Aim p e below s CC SS n0 Q T (mkF m pc Ls (.int z :: rest)) := by
  obtain ⟨L, X, eT, N⟩ := P
  obtain ⟨fs, hr, hrun, hended, hW, hsame⟩ := X.leave (v := some (.int (nar t z))) (fun h => by rw [hret] at h; cases h) hlk
  exact ⟨_, _, Jvm.RoadKit.retN X hx hret ht hd hr, hrun, hended, _, _, rfl, ⟨by show Q _ T.heap; rw [eT]; exact q, N⟩, ⟨_, rfl⟩, hW, hsame.mono hk hn⟩
theorem Aim.retW {t : FieldType} {i : Instr} {pc : Nat} {Ls : Array Slot} {w : Value} {rest : List Value} (P : On p l e R s m args below meth c n0 T h k n) (hx : p.tables.exec = Jvm.exec) (hlk : meth.locks = false) (hret : meth.sig.returnType = some t) (hn' : narrow t w = w)
    (hi : (i = .ireturn ∧ (t = .int ∨ t = .boolean ∨ t = .byte ∨ t = .char ∨ t = .short) ∧ ∃ z, w = .int z) ∨ (i = .lreturn ∧ t = .long ∧ ∃ z, w = .long z) ∨ (i = .dreturn ∧ t = .double ∧ ∃ z, w = .double z) ∨ (i = .freturn ∧ t = .float ∧ ∃ z, w = .float z) ∨ (i = .areturn ∧ t.isReference = true ∧ w.isRef = true)) (hd : decode c.code pc = .ok (i, 1))
    (hk : k ≤ CC) (hn : n ≤ SS) (q : Q (some w) h) : Aim p e below s CC SS n0 Q T (mkF m pc Ls (w :: rest)) := by
  obtain ⟨L, X, eT, N⟩ := P
  obtain ⟨fs, hr, hrun, hended, hW, hsame⟩ := X.leave (v := some w) (fun h => by rw [hret] at h; cases h) hlk
  exact ⟨_, _, Jvm.RoadKit.retOut X hx hret hn' hi hd hr, hrun, hended, _, _, rfl, ⟨by show Q _ T.heap; rw [eT]; exact q, N⟩, ⟨_, rfl⟩, hW, hsame.mono hk hn⟩
theorem Aim.retI {pc : Nat} {Ls : Array Slot} {z : Int32} {rest : List Value} (P : On p l e R s m args below meth c n0 T h k n) (hx : p.tables.exec = Jvm.exec) (hlk : meth.locks = false) (hret : meth.sig.returnType = some .int) (hd : decode c.code pc = .ok (.ireturn, 1))
    (hk : k ≤ CC) (hn : n ≤ SS) (q : Q (some (.int z)) h) : Aim p e below s CC SS n0 Q T (mkF m pc Ls (.int z :: rest)) := Aim.retW P hx hlk hret rfl (Or.inl ⟨rfl, Or.inl rfl, z, rfl⟩) hd hk hn q
theorem Aim.retJ {pc : Nat} {Ls : Array Slot} {z : Int64} {rest : List Value} (P : On p l e R s m args below meth c n0 T h k n) (hx : p.tables.exec = Jvm.exec) (hlk : meth.locks = false) (hret : meth.sig.returnType = some .long) (hd : decode c.code pc = .ok (.lreturn, 1))
    (hk : k ≤ CC) (hn : n ≤ SS) (q : Q (some (.long z)) h) : Aim p e below s CC SS n0 Q T (mkF m pc Ls (.long z :: rest)) := Aim.retW P hx hlk hret rfl (Or.inr (Or.inl ⟨rfl, rfl, z, rfl⟩)) hd hk hn q
theorem Aim.retA {t : FieldType} {pc : Nat} {Ls : Array Slot} {w : Value} {rest : List Value} (P : On p l e R s m args below meth c n0 T h k n) (hx : p.tables.exec = Jvm.exec) (hlk : meth.locks = false) (hret : meth.sig.returnType = some t) (ht : t.isReference = true) (hw : w.isRef = true) (hd : decode c.code pc = .ok (.areturn, 1))
    (hk : k ≤ CC) (hn : n ≤ SS) (q : Q (some w) h) : Aim p e below s CC SS n0 Q T (mkF m pc Ls (w :: rest)) := by
  have hn' : narrow t w = w := by cases t <;> cases w <;> first | rfl | (cases ht; done) | (cases hw; done)
  exact Aim.retW P hx hlk hret hn' (Or.inr (Or.inr (Or.inr (Or.inr ⟨rfl, ht, hw⟩)))) hd hk hn q
theorem Aim.retV {pc : Nat} {Ls : Array Slot} (P : On p l e R s m args below meth c n0 T h k n) (hx : p.tables.exec = Jvm.exec) (hlk : meth.locks = false) (hret : meth.sig.returnType = none) (hd : decode c.code pc = .ok (.return_, 1))
    (hk : k ≤ CC) (hn : n ≤ SS) (q : Q none h) : Aim p e below s CC SS n0 Q T (mkF m pc Ls []) := by
  obtain ⟨L, X, eT, N⟩ := P
  obtain ⟨fs, hr, hrun, hended, hW, hsame⟩ := X.leave (v := none) (fun _ => rfl) hlk
  exact ⟨_, _, X.returnOut hx hret hd hr, hrun, hended, _, _, rfl, ⟨by show Q _ T.heap; rw [eT]; exact q, N⟩, ⟨_, rfl⟩, hW, hsame.mono hk hn⟩
/-! steps that meet the heap -/
theorem Aim.newO {own C : String} {index nn pc : Nat} {Ls : Array Slot} {st : List Value} (P : On p l e R s m args below meth c n0 T h k n) (hx : p.tables.exec = Jvm.exec) (hZ : Z.Warmed39 s.vm) (hown : s.vm.findClass own = some m.cls) (w : (Cond.classLink own index C).before a0 Z = true) (wi : (Cond.instantiable C nn).before a0 Z = true) (wz : (Cond.initialized C).before a0 Z = true)
    (hd : decode c.code pc = .ok (.new index, 3)) (hc : k + 1 ≤ R.cells) (hl : n + nn ≤ R.slots)
    (cont : ∀ T' h' b, b = h.size → On p l e R s m args below meth c n0 T' h' (k + 1) (n + nn) → Ext h h' → Exa Z h' b C → (∀ {O nm d : String} {ty : FieldType}, Laid Z a0 C O nm d → parseFieldDescriptor d = some ty → Fld Z h' b O nm d (defaultValue ty)) → Unt h' b → Aim p e below s CC SS n0 Q T' (mkF m (pc + 3) Ls (.ref b :: st))) :
    Aim p e below s CC SS n0 Q T (mkF m pc Ls st) := by
  obtain ⟨L, X, eT, N⟩ := P
  obtain ⟨T', h', X', e', E, A, D, U, st'⟩ := RoadKit.newO X hx hZ hown w wi wz eT (g := mkF m pc Ls st) rfl hd hc hl
  exact Aim.of st' (cont T' h' _ rfl ⟨L, X', e', N⟩ E A D U)
theorem Aim.newP {aty : ArrayType} {pc : Nat} {Ls : Array Slot} {z : Int32} {st : List Value} (P : On p l e R s m args below meth c n0 T h k n) (hx : p.tables.exec = Jvm.exec) (hZ : Z.Warmed39 s.vm) (w : (Cond.arrayClass (newarray.typeOf aty)).before a0 Z = true) (hd : decode c.code pc = .ok (.newarray aty, 2))
    (hz : ¬ z < 0) {cap : Nat} (hcap : z.toNatClampNeg ≤ cap) (hb : cap * 8 ≤ 536870912) (hc : k + 1 ≤ R.cells) (hl : n + cap ≤ R.slots)
    (cont : ∀ T' h' kk b, b = h.size → On p l e R s m args below meth c n0 T' h' (k + 1) (n + cap) → Ext h h' → Arv Z h' b kk (newarray.typeOf aty) z [] (defaultValue (newarray.typeOf aty)) → Aim p e below s CC SS n0 Q T' (mkF m (pc + 2) Ls (.ref b :: st))) :
    Aim p e below s CC SS n0 Q T (mkF m pc Ls (.int z :: st)) := by
  obtain ⟨L, X, eT, N⟩ := P
  obtain ⟨T', h', kk, X', e', E, A, st'⟩ := RoadKit.newP X hx hZ w eT (g := mkF m pc Ls (.int z :: st)) rfl hd rfl hz hcap hb hc hl
  exact Aim.of st' (cont T' h' kk _ rfl ⟨L, X', e', N⟩ E (Arv.new A hz))
theorem Aim.newR {own C : String} {index pc : Nat} {Ls : Array Slot} {z : Int32} {st : List Value} (P : On p l e R s m args below meth c n0 T h k n) (hx : p.tables.exec = Jvm.exec) (hZ : Z.Warmed39 s.vm) (hown : s.vm.findClass own = some m.cls) (w1 : (Cond.classLink own index C).before a0 Z = true) (w2 : (Cond.arrayOver (.object C)).before a0 Z = true) (hd : decode c.code pc = .ok (.anewarray index, 3))
    (hz : ¬ z < 0) {cap : Nat} (hcap : z.toNatClampNeg ≤ cap) (hb : cap * 8 ≤ 536870912) (hc : k + 1 ≤ R.cells) (hl : n + cap ≤ R.slots)
    (cont : ∀ T' h' kk b, b = h.size → On p l e R s m args below meth c n0 T' h' (k + 1) (n + cap) → Ext h h' → Arv Z h' b kk (.object C) z [] .null → Ovr Z kk C → Aim p e below s CC SS n0 Q T' (mkF m (pc + 3) Ls (.ref b :: st))) :
    Aim p e below s CC SS n0 Q T (mkF m pc Ls (.int z :: st)) := by
  obtain ⟨L, X, eT, N⟩ := P
  obtain ⟨T', h', kk, X', e', E, A, O, st'⟩ := RoadKit.newR X hx hZ hown w1 w2 eT (g := mkF m pc Ls (.int z :: st)) rfl hd rfl hz hcap hb hc hl
  exact Aim.of st' (cont T' h' kk _ rfl ⟨L, X', e', N⟩ E (Arv.new A hz) O)
theorem Aim.getF {own R0 O f d host : String} {index pc : Nat} {Ls : Array Slot} {st : List Value} {a : Addr} {v : Value} (P : On p l e R s m args below meth c n0 T h k n) (hx : p.tables.exec = Jvm.exec) (hZ : Z.Warmed39 s.vm) (hown : s.vm.findClass own = some m.cls) (w : (Cond.fieldLink own index R0 f d).before a0 Z = true ∨ (Cond.fieldLinkNest own index R0 f d host).before a0 Z = true) (via : Via Z R0 O f d)
    (F : Fld Z h a O f d v) (hd : decode c.code pc = .ok (.getfield index, 3)) (cont : ∀ T', On p l e R s m args below meth c n0 T' h k n → Aim p e below s CC SS n0 Q T' (mkF m (pc + 3) Ls (v :: st))) :
    Aim p e below s CC SS n0 Q T (mkF m pc Ls (.ref a :: st)) := by
  obtain ⟨L, X, eT, N⟩ := P
  obtain ⟨T', X', e', st'⟩ := RoadKit.getF X hx hZ hown w via eT F (g := mkF m pc Ls (.ref a :: st)) rfl rfl hd
  exact Aim.of st' (cont T' ⟨L, X', e', N⟩)
theorem Aim.getS {own R0 O f d : String} {index pc : Nat} {Ls : Array Slot} {st : List Value} {v : Value} (P : On p l e R s m args below meth c n0 T h k n) (hx : p.tables.exec = Jvm.exec) (hZ : Z.Warmed39 s.vm) (hown : s.vm.findClass own = some m.cls) (w : (Cond.fieldLink own index R0 f d).before a0 Z = true) (via : Via Z R0 O f d)
    (F : Sta Z h O f d v) (hd : decode c.code pc = .ok (.getstatic index, 3)) (cont : ∀ T', On p l e R s m args below meth c n0 T' h k n → Aim p e below s CC SS n0 Q T' (mkF m (pc + 3) Ls (v :: st))) :
    Aim p e below s CC SS n0 Q T (mkF m pc Ls st) := by
  obtain ⟨L, X, eT, N⟩ := P
  obtain ⟨T', X', e', st'⟩ := RoadKit.getS (host := "") X hx hZ hown w via eT F (g := mkF m pc Ls st) rfl hd
  exact Aim.of st' (cont T' ⟨L, X', e', N⟩)
theorem Aim.getS2 {own R0 O f d host : String} {index pc : Nat} {Ls : Array Slot} {st : List Value} {v : Value} (P : On p l e R s m args below meth c n0 T h k n) (hx : p.tables.exec = Jvm.exec) (hZ : Z.Warmed39 s.vm) (hown : s.vm.findClass own = some m.cls) (w : (Cond.fieldLink own index R0 f d).before a0 Z = true ∨ (Cond.fieldLinkNest own index R0 f d host).before a0 Z = true) (via : Via Z R0 O f d)
    (F : Sta Z h O f d v) (hd : decode c.code pc = .ok (.getstatic index, 3)) (cont : ∀ T', On p l e R s m args below meth c n0 T' h k n → Aim p e below s CC SS n0 Q T' (mkF m (pc + 3) Ls (v :: st))) :
    Aim p e below s CC SS n0 Q T (mkF m pc Ls st) := by
  obtain ⟨L, X, eT, N⟩ := P
  obtain ⟨T', X', e', st'⟩ := RoadKit.getS2 X hx hZ hown w via eT F (g := mkF m pc Ls st) rfl hd
  exact Aim.of st' (cont T' ⟨L, X', e', N⟩)
theorem Aim.putF {own R0 O f d host C : String} {index kk pc : Nat} {ty : FieldType} {Ls : Array Slot} {st : List Value} {a : Addr} {v old : Value} (P : On p l e R s m args below meth c n0 T h k n) (hx : p.tables.exec = Jvm.exec) (hZ : Z.Warmed39 s.vm) (hown : s.vm.findClass own = some m.cls) (w : (Cond.fieldLink own index R0 f d).before a0 Z = true ∨ (Cond.fieldLinkNest own index R0 f d host).before a0 Z = true) (via : Via Z R0 O f d)
    (F : Fld Z h a O f d old) (E : Exa Z h a C) (hL : (Cond.lays C O f d).before a0 Z = true ∨ ((Cond.laysFinal C O f d).before a0 Z = true ∧ own = O ∧ meth.name = "<init>")) (wi : (Cond.instantiable C kk).before a0 Z = true)
    (hty : parseFieldDescriptor d = some ty) (hn : narrow ty v = v) (hf : fits ty v = true) (hd : decode c.code pc = .ok (.putfield index, 3)) (ga : n0 ≤ a)
    (cont : ∀ T' h', On p l e R s m args below meth c n0 T' h' k n → Wr h h' a (Jvm.RoadKit.slotOf Z O f d) v → Aim p e below s CC SS n0 Q T' (mkF m (pc + 3) Ls st)) :
    Aim p e below s CC SS n0 Q T (mkF m pc Ls (v :: .ref a :: st)) := by
  obtain ⟨L, X, eT, N⟩ := P
  obtain ⟨T', h', X', e', W, st'⟩ := RoadKit.putF X hx hZ hown w via eT F E hL wi hty hn hf (g := mkF m pc Ls (v :: .ref a :: st)) rfl rfl hd
  exact Aim.of st' (cont T' h' ⟨_, X', e', Fr.snoc X' N ga⟩ W)
theorem Aim.stC {pc : Nat} {Ls : Array Slot} {st : List Value} {a : Addr} {kk : ClassId} {j x z : Int32} {vs : List Value} {dv : Value} (P : On p l e R s m args below meth c n0 T h k n) (hx : p.tables.exec = Jvm.exec) (hZ : Z.Warmed39 s.vm) (V : Arv Z h a kk .char z vs dv) (hj : ¬ j < 0 ∧ j < z) (i : Nat) (hi : j.toNatClampNeg = i) (hv : i < vs.length)
    (hd : decode c.code pc = .ok (.castore, 1)) (ga : n0 ≤ a) (cont : ∀ T' h', On p l e R s m args below meth c n0 T' h' k n → Keep h h' [a] → Arv Z h' a kk .char z (vs.set i (.int (nar .char x))) dv → Aim p e below s CC SS n0 Q T' (mkF m (pc + 1) Ls st)) :
    Aim p e below s CC SS n0 Q T (mkF m pc Ls (.int x :: .int j :: .ref a :: st)) := by
  obtain ⟨L, X, eT, N⟩ := P
  obtain ⟨cl, A, q, S, M, H, U⟩ := V
  obtain ⟨T', h', X', e', W, st'⟩ := RoadKit.stC X hx hZ eT A (j := j) (inb_of S hj) (g := mkF m pc Ls (.int x :: .int j :: .ref a :: st)) rfl rfl hd
  exact Aim.of st' (cont T' h' ⟨_, X', e', Fr.snoc X' N ga⟩ (Keep.of_wr W) (Arv.set A q S M H U (fits_nar_char _) W i hi hv))
theorem Aim.stB {pc : Nat} {Ls : Array Slot} {st : List Value} {a : Addr} {kk : ClassId} {j x z : Int32} {vs : List Value} {dv : Value} (P : On p l e R s m args below meth c n0 T h k n) (hx : p.tables.exec = Jvm.exec) (hZ : Z.Warmed39 s.vm) (V : Arv Z h a kk .byte z vs dv) (hj : ¬ j < 0 ∧ j < z) (i : Nat) (hi : j.toNatClampNeg = i) (hv : i < vs.length)
    (hd : decode c.code pc = .ok (.bastore, 1)) (ga : n0 ≤ a) (cont : ∀ T' h', On p l e R s m args below meth c n0 T' h' k n → Keep h h' [a] → Arv Z h' a kk .byte z (vs.set i (.int x.toInt8.toInt32)) dv → Aim p e below s CC SS n0 Q T' (mkF m (pc + 1) Ls st)) :
    Aim p e below s CC SS n0 Q T (mkF m pc Ls (.int x :: .int j :: .ref a :: st)) := by
  obtain ⟨L, X, eT, N⟩ := P
  obtain ⟨cl, A, q, S, M, H, U⟩ := V
  obtain ⟨T', h', X', e', W, st'⟩ := RoadKit.stB X hx hZ eT A (j := j) (inb_of S hj) (g := mkF m pc Ls (.int x :: .int j :: .ref a :: st)) rfl rfl hd
  exact Aim.of st' (cont T' h' ⟨_, X', e', Fr.snoc X' N ga⟩ (Keep.of_wr W) (Arv.set A q S M H U (fits_nar_byte _) W i hi hv))
theorem Aim.alen {pc : Nat} {Ls : Array Slot} {st : List Value} {a : Addr} {kk : ClassId} {ty : FieldType} {z : Int32} {vs : List Value} {dv : Value} (P : On p l e R s m args below meth c n0 T h k n) (hx : p.tables.exec = Jvm.exec) (hZ : Z.Warmed39 s.vm) (V : Arv Z h a kk ty z vs dv)
    (hd : decode c.code pc = .ok (.arraylength, 1)) (cont : Aim p e below s CC SS n0 Q T (mkF m (pc + 1) Ls (.int z :: st))) : Aim p e below s CC SS n0 Q T (mkF m pc Ls (.ref a :: st)) := by
  obtain ⟨L, X, eT, N⟩ := P
  obtain ⟨cl, A, q, S, M, H, U⟩ := V
  refine Aim.of (fun t kt => X.arraylength hx (by rw [eT]; exact A.1) (State.isArrayOf_alike hZ.alike A.2.1) (g := mkF m pc Ls (.ref a :: st)) rfl rfl hd t ?_) cont
  rw [len_of S M]; exact kt
theorem Aim.ldC {pc : Nat} {Ls : Array Slot} {st : List Value} {a : Addr} {kk : ClassId} {j z : Int32} {vs : List Value} {dv v : Value} (P : On p l e R s m args below meth c n0 T h k n) (hx : p.tables.exec = Jvm.exec) (hZ : Z.Warmed39 s.vm) (V : Arv Z h a kk .char z vs dv) (hj : ¬ j < 0 ∧ j < z) (hv : vs.getD j.toNatClampNeg dv = v)
    (hd : decode c.code pc = .ok (.caload, 1)) (cont : Aim p e below s CC SS n0 Q T (mkF m (pc + 1) Ls (v :: st))) : Aim p e below s CC SS n0 Q T (mkF m pc Ls (.int j :: .ref a :: st)) := by
  obtain ⟨L, X, eT, N⟩ := P
  obtain ⟨cl, A, q, S, M, H, U⟩ := V
  exact Aim.of (fun t kt => X.caload hx (j := j) (v := v) (by rw [eT]; exact A.1) (State.isArrayOf_alike hZ.alike A.2.1) A.2.2 (inb_of S hj) (H.at (inb_of S hj) hv) (g := mkF m pc Ls (.int j :: .ref a :: st)) rfl rfl hd t kt) cont
theorem Aim.ldB {pc : Nat} {Ls : Array Slot} {st : List Value} {a : Addr} {kk : ClassId} {j z : Int32} {vs : List Value} {dv v : Value} (P : On p l e R s m args below meth c n0 T h k n) (hx : p.tables.exec = Jvm.exec) (hZ : Z.Warmed39 s.vm) (V : Arv Z h a kk .byte z vs dv) (hj : ¬ j < 0 ∧ j < z) (hv : vs.getD j.toNatClampNeg dv = v)
    (hd : decode c.code pc = .ok (.baload, 1)) (cont : Aim p e below s CC SS n0 Q T (mkF m (pc + 1) Ls (v :: st))) : Aim p e below s CC SS n0 Q T (mkF m pc Ls (.int j :: .ref a :: st)) := by
  obtain ⟨L, X, eT, N⟩ := P
  obtain ⟨cl, A, q, S, M, H, U⟩ := V
  exact Aim.of (fun t kt => X.baloadBytes hx (j := j) (v := v) (by rw [eT]; exact A.1) (State.isArrayOf_alike hZ.alike A.2.1) A.2.2 (inb_of S hj) (H.at (inb_of S hj) hv) (g := mkF m pc Ls (.int j :: .ref a :: st)) rfl rfl hd t kt) cont
theorem Aim.initO {own : String} {index pc mx : Nat} {Ls : Array Slot} {st : List Value} {a : Addr} (P : On p l e R s m args below meth c n0 T h k n) (hx : p.tables.exec = Jvm.exec) (hZ : Z.Warmed39 s.vm) (hml : c.maxLocals = mx) (hown : s.vm.findClass own = some m.cls) (w1 : (Cond.methodLink own index Lib.objectInit).before a0 Z = true) (w2 : (Cond.instanceMethod Lib.objectInit).before a0 Z = true)
    (w3 : (Cond.code Lib.objectInit ⟨#[0xb1]⟩ 1 none).before a0 Z = true) (hsz : Ls.size = mx) (hd : decode c.code pc = .ok (.invokespecial index, 3)) (hf : 1 ≤ R.frames) (hl : (st.map fun v => v.category).sum + 12 ≤ R.locals)
    (cont : ∀ T', On p l e R s m args below meth c n0 T' h k n → Aim p e below s CC SS n0 Q T' (mkF m (pc + 3) Ls st)) : Aim p e below s CC SS n0 Q T (mkF m pc Ls (.ref a :: st)) := by
  obtain ⟨L, X, eT, N⟩ := P
  obtain ⟨T', X', e', st'⟩ := RoadKit.initO X hx hZ hown w1 w2 w3 eT (g := mkF m pc Ls (.ref a :: st)) rfl (by rw [hml]; exact hsz) rfl hd hf (W := (st.map fun v => v.category).sum) (by show 2 * 0 + _ ≤ _; omega) hl
  exact Aim.of st' (cont T' ⟨L, X', e', N⟩)
theorem Aim.castY {own K : String} {index pc : Nat} {Ls : Array Slot} {st : List Value} {a : Addr} (P : On p l e R s m args below meth c n0 T h k n) (hx : p.tables.exec = Jvm.exec) (hZ : Z.Warmed39 s.vm) (hown : s.vm.findClass own = some m.cls) (w : (Cond.classLink own index K).before a0 Z = true) (F : Ins Z h a K true) (hd : decode c.code pc = .ok (.checkcast index, 3))
    (cont : ∀ T', On p l e R s m args below meth c n0 T' h k n → Aim p e below s CC SS n0 Q T' (mkF m (pc + 3) Ls (.ref a :: st))) : Aim p e below s CC SS n0 Q T (mkF m pc Ls (.ref a :: st)) := by
  obtain ⟨L, X, eT, N⟩ := P
  obtain ⟨T', X', e', st'⟩ := RoadKit.castY X hx hZ hown w eT F (g := mkF m pc Ls (.ref a :: st)) rfl rfl hd
  exact Aim.of st' (cont T' ⟨L, X', e', N⟩)
theorem Aim.instY {own K : String} {index pc : Nat} {Ls : Array Slot} {st : List Value} {a : Addr} (P : On p l e R s m args below meth c n0 T h k n) (hx : p.tables.exec = Jvm.exec) (hZ : Z.Warmed39 s.vm) (hown : s.vm.findClass own = some m.cls) (w : (Cond.classLink own index K).before a0 Z = true) (F : Ins Z h a K true) (hd : decode c.code pc = .ok (.instanceof index, 3))
    (cont : ∀ T', On p l e R s m args below meth c n0 T' h k n → Aim p e below s CC SS n0 Q T' (mkF m (pc + 3) Ls (.int 1 :: st))) : Aim p e below s CC SS n0 Q T (mkF m pc Ls (.ref a :: st)) := by
  obtain ⟨L, X, eT, N⟩ := P
  obtain ⟨T', X', e', st'⟩ := RoadKit.instY X hx hZ hown w eT F (g := mkF m pc Ls (.ref a :: st)) rfl rfl hd
  exact Aim.of st' (cont T' ⟨L, X', e', N⟩)
theorem Aim.ldcI {own : String} {index pc : Nat} {Ls : Array Slot} {st : List Value} {v : Int32} (P : On p l e R s m args below meth c n0 T h k n) (hx : p.tables.exec = Jvm.exec) (hZ : Z.Warmed39 s.vm) (hown : s.vm.findClass own = some m.cls) (w : (Cond.constant own index v).before a0 Z = true) (hd : decode c.code pc = .ok (.ldc index, 2))
    (cont : Aim p e below s CC SS n0 Q T (mkF m (pc + 2) Ls (.int v :: st))) : Aim p e below s CC SS n0 Q T (mkF m pc Ls st) := by
  obtain ⟨L, X, eT, N⟩ := P
  exact Aim.of (fun t kt => X.ldcInt hx hown (mvT hZ w) (g := mkF m pc Ls st) rfl hd t kt) cont
theorem own_irem {tb : Tables} [Ours tb] {e : Env} {below : List Frame} {T target : State} {m : MethodId} {c : Code} {g : JFrame} (h : At T m c below) (hx : tb.exec = Jvm.exec) (hg : g.method = m) {x y : Int32} {rest : List Value} (hd : decode c.code g.pc = .ok (.irem, 1)) (hs : g.stack = .int y :: .int x :: rest) (hy : y ≠ 0)
    (hr : Steps tb e below (T.setTop { g with pc := g.pc + 1, stack := .int (x % y) :: rest }) target) : Steps tb e below (T.setTop g) target := by
  have q : x - x / y * y = x % y := irem_eq_mod x y
  exact XS.irem h hx hg hd hs hy (by rw [q]; exact hr)
theorem own_acmpEqT {x y : Value} (_ : x.isRef = true) (_ : y.isRef = true) (q : x = y) : XT.acmp .eq x y = true := by simp [XT.acmp, q]
theorem own_acmpNeT {x y : Value} (_ : x.isRef = true) (_ : y.isRef = true) (q : x = y) : XT.acmp .ne x y = false := by simp [XT.acmp, q]
theorem Aim.ldcwI {own : String} {index pc : Nat} {Ls : Array Slot} {st : List Value} {v : Int32} (P : On p l e R s m args below meth c n0 T h k n) (hx : p.tables.exec = Jvm.exec) (hZ : Z.Warmed39 s.vm) (hown : s.vm.findClass own = some m.cls) (w : (Cond.constant own index v).before a0 Z = true) (hd : decode c.code pc = .ok (.ldc_w index, 3))
    (cont : Aim p e below s CC SS n0 Q T (mkF m (pc + 3) Ls (.int v :: st))) : Aim p e below s CC SS n0 Q T (mkF m pc Ls st) := by
  obtain ⟨L, X, eT, N⟩ := P
  exact Aim.of (fun t kt => X.ldcwInt hx hown (mvT hZ w) (g := mkF m pc Ls st) rfl hd t kt) cont
theorem Aim.ldcJ {own : String} {index pc : Nat} {Ls : Array Slot} {st : List Value} {v : Int64} (P : On p l e R s m args below meth c n0 T h k n) (hx : p.tables.exec = Jvm.exec) (hZ : Z.Warmed39 s.vm) (hown : s.vm.findClass own = some m.cls) (w : (Cond.constantLong own index v).before a0 Z = true) (hd : decode c.code pc = .ok (.ldc2_w index, 3))
    (cont : Aim p e below s CC SS n0 Q T (mkF m (pc + 3) Ls (.long v :: st))) : Aim p e below s CC SS n0 Q T (mkF m pc Ls st) := by
  obtain ⟨L, X, eT, N⟩ := P
  exact Aim.of (fun t kt => X.ldc2Long hx hown (mvT hZ w) (g := mkF m pc Ls st) rfl hd t kt) cont
theorem Aim.instNull {index pc : Nat} {Ls : Array Slot} {st : List Value} (P : On p l e R s m args below meth c n0 T h k n) (hx : p.tables.exec = Jvm.exec) (hd : decode c.code pc = .ok (.instanceof index, 3))
    (cont : Aim p e below s CC SS n0 Q T (mkF m (pc + 3) Ls (.int 0 :: st))) : Aim p e below s CC SS n0 Q T (mkF m pc Ls (.null :: st)) := by
  obtain ⟨L, X, eT, N⟩ := P
  exact Aim.of (fun t kt => X.instanceofNull hx (g := mkF m pc Ls (.null :: st)) rfl rfl hd t kt) cont
theorem Aim.castNull {index pc : Nat} {Ls : Array Slot} {st : List Value} (P : On p l e R s m args below meth c n0 T h k n) (hx : p.tables.exec = Jvm.exec) (hd : decode c.code pc = .ok (.checkcast index, 3))
    (cont : Aim p e below s CC SS n0 Q T (mkF m (pc + 3) Ls (.null :: st))) : Aim p e below s CC SS n0 Q T (mkF m pc Ls (.null :: st)) := by
  obtain ⟨L, X, eT, N⟩ := P
  exact Aim.of (fun t kt => X.checkcastNull hx (g := mkF m pc Ls (.null :: st)) rfl rfl hd t kt) cont
/-! calls -/
theorem Aim.callS {own : String} {index pc mx maxL dc ds W : Nat} {y : MethodName} {bytes : ByteArray} {ret : Option FieldType} {ps : List FieldType} {r : Option FieldType} {Ls : Array Slot} {argsL rest : List Value} {Q' : Option Value → Heap → Prop} (P : On p l e R s m args below meth c n0 T h k n) (hx : p.tables.exec = Jvm.exec) (hZ : Z.Warmed39 s.vm) (hml : c.maxLocals = mx) (hown : s.vm.findClass own = some m.cls)
    (w1 : (Cond.methodLink own index y).before a0 Z = true) (w2 : (Cond.static y).before a0 Z = true) (w3 : (Cond.initialized y.cls).before a0 Z = true) (w4 : (Cond.code y bytes maxL ret).before a0 Z = true) (hy : y.cls ≠ "java/lang/invoke/MethodHandle" ∧ y.cls ≠ "java/lang/invoke/VarHandle")
    (hK : Bk l R p e below s args y 3 W argsL.toArray h dc ds n0 Q') (hsz : Ls.size = mx) (hpd : parseMethodDescriptor y.desc = some ⟨ps, r⟩) (hln : argsL.length = ps.length) (hW : (rest.map fun v => v.category).sum ≤ W) (hd : decode c.code pc = .ok (.invokestatic index, 3)) (hc : k + dc ≤ R.cells) (hs : n + ds ≤ R.slots)
    (cont : ∀ T' h' v, On p l e R s m args below meth c n0 T' h' (k + dc) (n + ds) → Q' v h' → Aim p e below s CC SS n0 Q T' (mkF m (pc + 3) Ls (v.toList ++ rest))) : Aim p e below s CC SS n0 Q T (mkF m pc Ls (argsL.reverse ++ rest)) := by
  obtain ⟨L, X, eT, N⟩ := P
  obtain ⟨v, vm1, ⟨T', L', k', n'⟩, -, X', ⟨Lc, ⟨hq, N'⟩, l', y', z'⟩, st'⟩ := Jvm.LawKit.callS X hx (y := y) hown (mvT hZ w1) (mvT hZ w2) (mvT hZ w3) (mvT hZ w4) hy hK (g := mkF m pc Ls (argsL.reverse ++ rest)) rfl (by rw [hml]; exact hsz) (argsL := argsL) (rest := rest) (lenOf hpd hln) rfl (by show 2 * 0 + _ ≤ _; omega) hd (fun _ _ => ⟨rfl, eT, hc, hs⟩)
  dsimp only [Pt.U, Pt.locs, Pt.cells, Pt.slots] at X' l' y' z' st' hq
  subst l' y' z'
  exact Aim.of st' (cont T' _ v ⟨_, X', rfl, N.app N'⟩ hq)
theorem Aim.callC {own : String} {index pc mx maxL dc ds W : Nat} {y : MethodName} {bytes : ByteArray} {ps : List FieldType} {r : Option FieldType} {Ls : Array Slot} {a : Addr} {argsL rest : List Value} {Q' : Option Value → Heap → Prop} (P : On p l e R s m args below meth c n0 T h k n) (hx : p.tables.exec = Jvm.exec) (hZ : Z.Warmed39 s.vm) (hml : c.maxLocals = mx) (hown : s.vm.findClass own = some m.cls)
    (hy1 : y.name = "<init>") (w1 : (Cond.methodLink own index y).before a0 Z = true) (w2 : (Cond.instanceMethod y).before a0 Z = true) (w4 : (Cond.code y bytes maxL none).before a0 Z = true) (hy : y.cls ≠ "java/lang/invoke/MethodHandle" ∧ y.cls ≠ "java/lang/invoke/VarHandle")
    (hK : Bk l R p e below s args y 3 W (.ref a :: argsL).toArray h dc ds n0 Q') (hsz : Ls.size = mx) (hpd : parseMethodDescriptor y.desc = some ⟨ps, r⟩) (hln : argsL.length = ps.length) (hW : (rest.map fun v => v.category).sum ≤ W) (hd : decode c.code pc = .ok (.invokespecial index, 3)) (hc : k + dc ≤ R.cells) (hs : n + ds ≤ R.slots)
    (cont : ∀ T' h' v, On p l e R s m args below meth c n0 T' h' (k + dc) (n + ds) → Q' v h' → Aim p e below s CC SS n0 Q T' (mkF m (pc + 3) Ls (v.toList ++ rest))) : Aim p e below s CC SS n0 Q T (mkF m pc Ls (argsL.reverse ++ .ref a :: rest)) := by
  obtain ⟨L, X, eT, N⟩ := P
  obtain ⟨v, vm1, ⟨T', L', k', n'⟩, -, X', ⟨Lc, ⟨hq, N'⟩, l', y', z'⟩, st'⟩ := X.specialBack hx (y := y) hy1 hown (mvT hZ w1) (mvT hZ w2) (mvT hZ w4) hy hK (g := mkF m pc Ls (argsL.reverse ++ .ref a :: rest)) rfl (by rw [hml]; exact hsz) (Steps.refl _) (a := a) (argsL := argsL) (rest := rest) (lenOf hpd hln) rfl (by show 2 * 0 + _ ≤ _; omega) hd (fun _ _ => ⟨rfl, eT, hc, hs⟩)
  dsimp only [Pt.U, Pt.locs, Pt.cells, Pt.slots] at X' l' y' z' st' hq
  subst l' y' z'
  exact Aim.of (fun t kt => st'.trans kt) (cont T' _ v ⟨_, X', rfl, N.app N'⟩ hq)
theorem Aim.callV {own C : String} {index pc mx dc ds W : Nat} {y z : MethodName} {ps : List FieldType} {r : Option FieldType} {Ls : Array Slot} {a : Addr} {argsL rest : List Value} {Q' : Option Value → Heap → Prop} (P : On p l e R s m args below meth c n0 T h k n) (hx : p.tables.exec = Jvm.exec) (hZ : Z.Warmed39 s.vm) (hml : c.maxLocals = mx) (hown : s.vm.findClass own = some m.cls)
    (w1 : (Cond.methodLink own index y).before a0 Z = true) (w2 : (Cond.declares y).before a0 Z = true) (nf : NotFace s y) (w3 : (Cond.selects C y z).before a0 Z = true) (w4 : (Cond.instanceMethod z).before a0 Z = true) (hy : y.cls ≠ "java/lang/invoke/MethodHandle" ∧ y.cls ≠ "java/lang/invoke/VarHandle") (E : Exa Z h a C)
    (hK : Bk l R p e below s args z 3 W (.ref a :: argsL).toArray h dc ds n0 Q') (hsz : Ls.size = mx) (hpd : parseMethodDescriptor y.desc = some ⟨ps, r⟩) (hln : argsL.length = ps.length) (hW : (rest.map fun v => v.category).sum ≤ W) (hd : decode c.code pc = .ok (.invokevirtual index, 3)) (hc : k + dc ≤ R.cells) (hs : n + ds ≤ R.slots)
    (cont : ∀ T' h' v, On p l e R s m args below meth c n0 T' h' (k + dc) (n + ds) → Q' v h' → Aim p e below s CC SS n0 Q T' (mkF m (pc + 3) Ls (v.toList ++ rest))) : Aim p e below s CC SS n0 Q T (mkF m pc Ls (argsL.reverse ++ .ref a :: rest)) := by
  obtain ⟨L, X, eT, N⟩ := P
  obtain ⟨cq, kq, qa, qb, qc⟩ := isOf hZ eT E
  obtain ⟨v, vm1, ⟨T', L', k', n'⟩, -, X', ⟨Lc, ⟨hq, N'⟩, l', y', z'⟩, st'⟩ := X.virtualBack hx (y := y) (z := z) hown (mvT hZ w1) (mvT hZ w2) nf (mvT hZ w3) (mvT hZ w4) hy hK qa qc (g := mkF m pc Ls (argsL.reverse ++ .ref a :: rest)) rfl (by rw [hml]; exact hsz) (Steps.refl _) (argsL := argsL) (rest := rest) (lenOf hpd hln) rfl (by show 2 * 0 + _ ≤ _; omega) hd (fun _ _ => ⟨rfl, eT, hc, hs⟩)
  dsimp only [Pt.U, Pt.locs, Pt.cells, Pt.slots] at X' l' y' z' st' hq
  subst l' y' z'
  exact Aim.of (fun t kt => st'.trans kt) (cont T' _ v ⟨_, X', rfl, N.app N'⟩ hq)
theorem Aim.callI {own C : String} {index count pc mx dc ds W : Nat} {y z : MethodName} {ps : List FieldType} {r : Option FieldType} {Ls : Array Slot} {a : Addr} {argsL rest : List Value} {Q' : Option Value → Heap → Prop} (P : On p l e R s m args below meth c n0 T h k n) (hx : p.tables.exec = Jvm.exec) (hZ : Z.Warmed39 s.vm) (hml : c.maxLocals = mx) (hown : s.vm.findClass own = some m.cls)
    (w1 : (Cond.methodLink own index y).before a0 Z = true) (w2 : (Cond.declares y).before a0 Z = true) (w5 : (Cond.interfaceMethod y.cls y.cls y.name y.desc).before a0 Z = true) (w3 : (Cond.selects C y z).before a0 Z = true) (w4 : (Cond.instanceMethod z).before a0 Z = true) (w6 : (Cond.publicMethod z).before a0 Z = true) (w7 : (Cond.unhidden C y.name y.desc).before a0 Z = true) (w8 : (Cond.castable C y.cls).before a0 Z = true)
    (hy : y.cls ≠ "java/lang/invoke/MethodHandle" ∧ y.cls ≠ "java/lang/invoke/VarHandle") (E : Exa Z h a C)
    (hK : Bk l R p e below s args z 5 W (.ref a :: argsL).toArray h dc ds n0 Q') (hsz : Ls.size = mx) (hpd : parseMethodDescriptor y.desc = some ⟨ps, r⟩) (hln : argsL.length = ps.length) (hW : (rest.map fun v => v.category).sum ≤ W) (hd : decode c.code pc = .ok (.invokeinterface index count, 5)) (hc : k + dc ≤ R.cells) (hs : n + ds ≤ R.slots)
    (cont : ∀ T' h' v, On p l e R s m args below meth c n0 T' h' (k + dc) (n + ds) → Q' v h' → Aim p e below s CC SS n0 Q T' (mkF m (pc + 5) Ls (v.toList ++ rest))) : Aim p e below s CC SS n0 Q T (mkF m pc Ls (argsL.reverse ++ .ref a :: rest)) := by
  obtain ⟨L, X, eT, N⟩ := P
  obtain ⟨cq, kq, qa, qb, qc⟩ := isOf hZ eT E
  obtain ⟨v, vm1, ⟨T', L', k', n'⟩, -, X', ⟨Lc, ⟨hq, N'⟩, l', y', z'⟩, st'⟩ := X.interfaceBack hx (xi := y) (y := z) hown (mvT hZ w1) (mvT hZ w2) (mvT hZ w5 (by simp [Cond.onTables, Cond.keepsFace, Cond.keeps, Cond.steady, Cond.faceAtom, hy.1, hy.2])) (mvT hZ w3) (mvT hZ w4) (mvT hZ w6) (mvT hZ w7) (mvT hZ w8) hy hK qa qb qc (g := mkF m pc Ls (argsL.reverse ++ .ref a :: rest)) rfl (by rw [hml]; exact hsz) (Steps.refl _) (argsL := argsL) (rest := rest) (lenOf hpd hln) rfl (by show 2 * 0 + _ ≤ _; omega) hd (fun _ _ => ⟨rfl, eT, hc, hs⟩)
  dsimp only [Pt.U, Pt.locs, Pt.cells, Pt.slots] at X' l' y' z' st' hq
  subst l' y' z'
  exact Aim.of (fun t kt => st'.trans kt) (cont T' _ v ⟨_, X', rfl, N.app N'⟩ hq)
theorem Aim.cpA {own : String} {index pc mx : Nat} {Ls : Array Slot} {rest : List Value} {a b : Addr} {k1 k2 : ClassId} {ty ty' : FieldType} {z z' sp dp nn : Int32} {vs vd us : List Value} {dv dd : Value} (P : On p l e R s m args below meth c n0 T h k n) (hx : p.tables.exec = Jvm.exec) (hZ : Z.Warmed39 s.vm) (hml : c.maxLocals = mx) (hown : s.vm.findClass own = some m.cls)
    (w1 : (Cond.methodLink own index Jvm.Stand.acN).before a0 Z = true) (w2 : (Cond.native Jvm.Stand.acN).before a0 Z = true) (w3 : (Cond.static Jvm.Stand.acN).before a0 Z = true) (w4 : (Cond.initialized "java/lang/System").before a0 Z = true)
    (A : Arv Z h a k1 ty z vs dv) (B : Arv Z h b k2 ty' z' vd dd) (hty : (ty = ty' ∧ refKind ty = false) ∨ (refKind ty = true ∧ refKind ty' = true ∧ StoL Z h b us))
    (h1 : ¬ sp < 0) (h2 : ¬ dp < 0) (h3 : ¬ nn < 0) (h4 : sp.toNatClampNeg + nn.toNatClampNeg ≤ z.toNatClampNeg) (h5 : dp.toNatClampNeg + nn.toNatClampNeg ≤ z'.toNatClampNeg)
    (hus : us = (List.range nn.toNatClampNeg).map fun i => vs.getD (sp.toNatClampNeg + i) dv) (hl : dp.toNatClampNeg + nn.toNatClampNeg ≤ vd.length) (ge : n0 ≤ b) (hsz : Ls.size = mx) (hd : decode c.code pc = .ok (.invokestatic index, 3))
    (hf : 1 ≤ R.frames) (hlo : (rest.map fun v => v.category).sum + (nativeFrameWords "java/lang/System" "arraycopy" 5 + 11) ≤ R.locals)
    (cont : ∀ T' h', On p l e R s m args below meth c n0 T' h' k n → Keep h h' [b] → Arv Z h' b k2 ty' z' (vd.take dp.toNatClampNeg ++ us ++ vd.drop (dp.toNatClampNeg + nn.toNatClampNeg)) dd → Aim p e below s CC SS n0 Q T' (mkF m (pc + 3) Ls rest)) :
    Aim p e below s CC SS n0 Q T (mkF m pc Ls (.int nn :: .int dp :: .ref b :: .int sp :: .ref a :: rest)) := by
  obtain ⟨L, X, eT, N⟩ := P
  obtain ⟨T', h', L', X', e', N', K, V, st'⟩ := RoadKit.cpA X hx hZ hown w1 w2 w3 w4 eT A B hty h1 h2 h3 h4 h5 hus hl N ge (g := mkF m pc Ls (.int nn :: .int dp :: .ref b :: .int sp :: .ref a :: rest)) rfl (by rw [hml]; exact hsz) rfl hd hf (W := (rest.map fun v => v.category).sum) (by show 2 * 0 + _ ≤ _; omega) hlo
  exact Aim.of st' (cont T' h' ⟨L', X', e', N'⟩ K V)
theorem Aim.ldR {pc : Nat} {Ls : Array Slot} {st : List Value} {a : Addr} {kk : ClassId} {ty : FieldType} {j z : Int32} {vs : List Value} {dv v : Value} (P : On p l e R s m args below meth c n0 T h k n) (hx : p.tables.exec = Jvm.exec) (hZ : Z.Warmed39 s.vm) (V : Arv Z h a kk ty z vs dv) (hty : ty.isReference = true) (hj : ¬ j < 0 ∧ j < z) (hv : vs.getD j.toNatClampNeg dv = v)
    (hd : decode c.code pc = .ok (.aaload, 1)) (cont : Aim p e below s CC SS n0 Q T (mkF m (pc + 1) Ls (v :: st))) : Aim p e below s CC SS n0 Q T (mkF m pc Ls (.int j :: .ref a :: st)) := by
  obtain ⟨L, X, eT, N⟩ := P
  obtain ⟨cl, A, q, S, M, H, U⟩ := V
  exact Aim.of (fun t kt => X.aaload hx (j := j) (v := v) (by rw [eT]; exact A.1) (State.isArrayOf_alike (T := s) hZ.alike A.2.1) hty A.2.2 (inb_of S hj) (H.at (inb_of S hj) hv) (g := mkF m pc Ls (.int j :: .ref a :: st)) rfl rfl hd t kt) cont
theorem Aim.stR {C : String} {pc : Nat} {Ls : Array Slot} {st : List Value} {a y : Addr} {kk : ClassId} {j z : Int32} {vs : List Value} {dv : Value} (P : On p l e R s m args below meth c n0 T h k n) (hx : p.tables.exec = Jvm.exec) (hZ : Z.Warmed39 s.vm) (V : Arv Z h a kk (.object C) z vs dv) (O : Ovr Z kk C) (I : Ins Z h y C true) (hj : ¬ j < 0 ∧ j < z) (i : Nat) (hi : j.toNatClampNeg = i) (hv : i < vs.length)
    (hd : decode c.code pc = .ok (.aastore, 1)) (ga : n0 ≤ a) (cont : ∀ T' h', On p l e R s m args below meth c n0 T' h' k n → Keep h h' [a] → Arv Z h' a kk (.object C) z (vs.set i (.ref y)) dv → Aim p e below s CC SS n0 Q T' (mkF m (pc + 1) Ls st)) :
    Aim p e below s CC SS n0 Q T (mkF m pc Ls (.ref y :: .int j :: .ref a :: st)) := by
  obtain ⟨L, X, eT, N⟩ := P
  obtain ⟨cl, A, q, S, M, H, U⟩ := V
  obtain ⟨T', h', X', e', W, st'⟩ := RoadKit.stR X hx hZ eT A (j := j) (v := .ref y) (inb_of S hj) rfl (Sto.ofV A q O I) (g := mkF m pc Ls (.ref y :: .int j :: .ref a :: st)) rfl rfl hd
  exact Aim.of st' (cont T' h' ⟨_, X', e', Fr.snoc X' N ga⟩ (Keep.of_wr W) (Arv.set A q S M H U rfl W i hi hv))
theorem nf_same {y y2 : MethodName} {r2 : MethodId} (h : y.cls = y2.cls) (hn : s.methodNamed? y2 = some r2) (N : NotFace s y2) : NotFace s y := fun r0 h0 => by
  obtain ⟨kr, h1, h2⟩ := N r2 hn
  have e1 := findClass_of_methodNamed h0
  have e2 := findClass_of_methodNamed hn
  rw [h] at e1
  have e3 : r0.cls = r2.cls := Option.some.inj (e1.symm.trans e2)
  exact ⟨kr, by rw [e3]; exact h1, h2⟩
theorem nf_sel {C : String} {y y2 : MethodName} (h : y.cls = y2.cls) (w : (Cond.selects C y2 y2).before args s = true) : NotFace s y := by
  obtain ⟨c2, r2, m2, q1, q2, q3, q4, kP, hkP, hkPi⟩ := Cond.selects_spec w
  exact nf_same h q3 (notFace_of_selects w)
theorem declares_of {y : MethodName} {bytes : ByteArray} {maxL : Nat} {ret : Option FieldType} (wi : (Cond.instanceMethod y).before args s = true) (wc : (Cond.code y bytes maxL ret).before args s = true) : (Cond.declares y).before args s = true := by
  obtain ⟨mk, methM, hnamed, hmethM, hstM, habM⟩ := Cond.instanceMethod_spec wi
  obtain ⟨m2, cM, q1, -, -, -, -, -, -, hsig⟩ := Cond.code_spec hnamed wc
  cases hmethM.symm.trans q1
  simp [Cond.before, Cond.holds, Cond.value, hnamed, hmethM, hstM, hsig]
theorem same_of {y : MethodName} (hy : y.cls ≠ "java/lang/invoke/MethodHandle" ∧ y.cls ≠ "java/lang/invoke/VarHandle") (wi : (Cond.instanceMethod y).before args s = true) (nf : NotFace s y) : (Cond.sameMethod y.cls y.cls y.name y.desc).before args s = true := by
  obtain ⟨mk, methM, hnamed, hmethM, hstM, habM⟩ := Cond.instanceMethod_spec wi
  obtain ⟨kr, h1, h2⟩ := nf mk hnamed
  have hc := findClass_of_methodNamed hnamed
  have hf := State.methodFound?_of_named hnamed hy
  have hnamed' : s.methodNamed? ⟨y.cls, y.name, y.desc⟩ = some mk := hnamed
  simp [Cond.before, Cond.holds, Cond.value, hc, hf, hnamed', h1, h2]
theorem arv_eq {a : Addr} {kk : ClassId} {ty : FieldType} {z : Int32} {vs vs' : List Value} {dv : Value} (F : Arv Z h a kk ty z vs dv) (q : vs = vs') : Arv Z h a kk ty z vs' dv := q ▸ F
theorem Aim.callU {own K : String} {index pc mx maxL dc ds W : Nat} {y : MethodName} {bytes : ByteArray} {ret : Option FieldType} {ps : List FieldType} {r : Option FieldType} {Ls : Array Slot} {a : Addr} {argsL rest : List Value} {Q' : Option Value → Heap → Prop} (P : On p l e R s m args below meth c n0 T h k n) (hx : p.tables.exec = Jvm.exec) (hZ : Z.Warmed39 s.vm) (hml : c.maxLocals = mx) (hown : s.vm.findClass own = some m.cls)
    (w1 : (Cond.methodLink own index y).before a0 Z = true) (w2 : (Cond.sameMethod y.cls y.cls y.name y.desc).before a0 Z = true) (w3 : (Cond.instanceMethod y).before a0 Z = true) (w5 : (Cond.superclass own y.cls).before a0 Z = true) (hn : y.name ≠ "<init>") (w4 : (Cond.code y bytes maxL ret).before a0 Z = true) (E : Ins Z h a K true)
    (hK : Bk l R p e below s args y 3 W (.ref a :: argsL).toArray h dc ds n0 Q') (hsz : Ls.size = mx) (hpd : parseMethodDescriptor y.desc = some ⟨ps, r⟩) (hln : argsL.length = ps.length) (hW : (rest.map fun v => v.category).sum ≤ W) (hd : decode c.code pc = .ok (.invokespecial index, 3)) (hc : k + dc ≤ R.cells) (hs : n + ds ≤ R.slots)
    (cont : ∀ T' h' v, On p l e R s m args below meth c n0 T' h' (k + dc) (n + ds) → Q' v h' → Aim p e below s CC SS n0 Q T' (mkF m (pc + 3) Ls (v.toList ++ rest))) : Aim p e below s CC SS n0 Q T (mkF m pc Ls (argsL.reverse ++ .ref a :: rest)) := by
  obtain ⟨L, X, eT, N⟩ := P
  obtain ⟨v, vm1, ⟨T', L', k', n'⟩, -, X', ⟨Lc, ⟨hq, N'⟩, l', y', z'⟩, st'⟩ := RoadKit.superBack X hx hZ (y := y) hown w1 w2 w3 w5 hn hK eT E (g := mkF m pc Ls (argsL.reverse ++ .ref a :: rest)) rfl (by rw [hml]; exact hsz) w4 (argsL := argsL) (rest := rest) (lenOf hpd hln) rfl (by show 2 * 0 + _ ≤ _; omega) hd (fun _ _ => ⟨rfl, eT, hc, hs⟩)
  dsimp only [Pt.U, Pt.locs, Pt.cells, Pt.slots] at X' l' y' z' st' hq
  subst l' y' z'
  exact Aim.of (fun t kt => st'.trans kt) (cont T' _ v ⟨_, X', rfl, N.app N'⟩ hq)
end Base
end Jvm.Y9
namespace Jvm.Q9
open Sem ClassFile Op Lib Jvm.Stand Jvm.Free Jvm.LawKit Jvm.RoadKit Jvm.S9
def cod (t : String) : List Int32 := t.toList.map fun c => Int32.ofNat c.toNat
def HA (Z : State) (LC : List (String × Nat × String) × (Array (Array UInt16 × Addr) → Prop)) (it : Array (Array UInt16 × Addr)) (h : Heap) (Lc : List Addr) : Prop :=
  (∀ x ∈ Lc, x < h.size) ∧ (∀ c ∈ LC.1, Z.resolvedAt? c.1 c.2.1 = none → ∀ (units : Array UInt16) (a : Addr), utf16ToString? units = some c.2.2 → it.find? (fun q => q.1 == units) = some (units, a) → ∃ b kk, Str Z h a b kk (cod c.2.2) ∧ a ∈ Lc ∧ b ∈ Lc) ∧ LC.2 it
theorem HA.keep {Z : State} {LC : List (String × Nat × String) × (Array (Array UInt16 × Addr) → Prop)} {it : Array (Array UInt16 × Addr)} {h h' : Heap} {Lc ws : List Addr} (A : HA Z LC it h Lc) (K : Keep h h' ws) (q : ∀ x ∈ ws, x ∉ Lc) : HA Z LC it h' Lc :=
  ⟨fun x hx => Nat.lt_of_lt_of_le (A.1 x hx) K.1, fun c hc ho units a hu hf => by
    obtain ⟨b, kk, F, ha, hb⟩ := A.2.1 c hc ho units a hu hf
    exact ⟨b, kk, F.keep K (fun z => q _ z ha) (fun z => q _ z hb), ha, hb⟩, A.2.2⟩
def Grow (Lc Lc' : List Addr) (n : Nat) : Prop := (∀ x ∈ Lc', x ∈ Lc ∨ n ≤ x) ∧ ∀ x ∈ Lc, x ∈ Lc'
theorem Grow.refl (Lc : List Addr) (n : Nat) : Grow Lc Lc n := ⟨fun _ q => Or.inl q, fun _ q => q⟩
theorem Grow.trans {Lc Lc1 Lc2 : List Addr} {n n' : Nat} (A : Grow Lc Lc1 n) (B : Grow Lc1 Lc2 n') (q : n ≤ n') : Grow Lc Lc2 n := ⟨fun x hx => (B.1 x hx).elim (A.1 x) (fun r => Or.inr (Nat.le_trans q r)), fun x hx => B.2 x (A.2 x hx)⟩
theorem nl_new {Lc : List Addr} {a n : Nat} (h : ∀ x ∈ Lc, x < n) (g : n ≤ a) : a ∉ Lc := fun q => Nat.lt_irrefl _ (Nat.lt_of_lt_of_le (h a q) g)
theorem nl_step {Lc Lc' : List Addr} {a n : Nat} (old : a ∉ Lc) (rel : Grow Lc Lc' n) (lt : a < n) : a ∉ Lc' := fun q => (rel.1 a q).elim old fun r => Nat.lt_irrefl _ (Nat.lt_of_lt_of_le lt r)
theorem lit_ne {Lc : List Addr} {a x n : Nat} (h : a < n ∨ a ∈ Lc) (g : n ≤ x) (q : x ∉ Lc) : a ≠ x := fun e => h.elim (fun r => Nat.lt_irrefl _ (Nat.lt_of_lt_of_le r (e ▸ g))) (fun r => q (e ▸ r))
section Base
variable {p : Program} {l : Launch} {e : Env} {R : Room} {s : State} {m : MethodId} {args : Array Value} {below : List Frame} {meth : Method} {c : Code} {T : State} {h : Heap} {n0 k n : Nat} {Z : State} {a0 : Array Value} {LC : List (String × Nat × String) × (Array (Array UInt16 × Addr) → Prop)} {Lc : List Addr}
def On (p : Program) (l : Launch) (e : Env) (R : Room) (s : State) (m : MethodId) (args : Array Value) (below : List Frame) (meth : Method) (c : Code) (Z : State) (LC : List (String × Nat × String) × (Array (Array UInt16 × Addr) → Prop)) (n0 : Nat) (T : State) (h : Heap) (k n : Nat) (Lc : List Addr) : Prop :=
  ∃ locs vm0, Stand p l e R (s.setVm vm0) m args below meth c T locs k n ∧ T.heap = h ∧ Fr n0 locs ∧ s.Since vm0 h.size ∧ Z.Warmed39 vm0 ∧ HA Z LC vm0.interned h Lc
def Aim (p : Program) (e : Env) (below : List Frame) (s : State) (CC SS n0 : Nat) (Q : Option Value → Heap → Array (Array UInt16 × Addr) → Prop) (T : State) (g : JFrame) : Prop :=
  ∃ s₂ o, Steps p.tables e below (T.setTop g) s₂ ∧ s₂.status = .running ∧ Ended s₂ below o ∧ ∃ v L, o = .returned v ∧ (Q v s₂.heap s₂.vm.interned ∧ Fr n0 L) ∧ ReturnedEndW s o s₂ L CC SS
def QW (Z : State) (LC : List (String × Nat × String) × (Array (Array UInt16 × Addr) → Prop)) (h0 : Heap) (Lc0 : List Addr) (QH : Option Value → Heap → List Addr → Prop) : Option Value → Heap → Array (Array UInt16 × Addr) → Prop := fun v h it => ∃ Lc, QH v h Lc ∧ HA Z LC it h Lc ∧ Grow Lc0 Lc h0.size
def Con (l : Launch) (Z : State) (LC : List (String × Nat × String) × (Array (Array UInt16 × Addr) → Prop)) (y : MethodName) (bytes : ByteArray) (maxL : Nat) (ret : Option FieldType) (rm : Room) (n0 : Nat) (as' : Array Value) (h0 : Heap) (Lc0 : List Addr) (QH : Option Value → Heap → List Addr → Prop) : Prop :=
  ∀ ws, MetFree l y (head1 (Cond.code y bytes maxL ret :: ws) rm) (fun a U => a = as' ∧ Z.Warmed39 U.vm ∧ U.heap = h0 ∧ HA Z LC U.vm.interned h0 Lc0) (fun _ _ _ _ _ => True) (fun _ U o U' => ∃ v L, o = .returned v ∧ (QW Z LC h0 Lc0 QH v U'.heap U'.vm.interned ∧ Fr n0 L) ∧ ReturnedEndW U o U' L rm.cells rm.slots)
def Bk (l : Launch) (R : Room) (p : Program) (e : Env) (below : List Frame) (s : State) (sargs : Array Value) (y : MethodName) (len W : Nat) (as' : Array Value) (h : Heap) (dc ds : Nat) (Z : State) (LC : List (String × Nat × String) × (Array (Array UInt16 × Addr) → Prop)) (n0 : Nat) (Lc : List Addr) (QH : Option Value → Heap → List Addr → Prop) : Prop :=
  ∀ vm0, Z.Warmed39 vm0 → HA Z LC vm0.interned h Lc → BackS l R p e below (s.setVm vm0) sargs y len W (fun A a => a = as' ∧ A.U.heap = h ∧ A.cells + dc ≤ R.cells ∧ A.slots + ds ≤ R.slots) (fun A _ v B => ∃ L, (QW Z LC h Lc QH v B.U.heap B.U.vm.interned ∧ Fr n0 L) ∧ B.locs = A.locs ++ L ∧ B.cells = A.cells + dc ∧ B.slots = A.slots + ds)
variable {CC SS : Nat} {Q : Option Value → Heap → Array (Array UInt16 × Addr) → Prop} {QH : Option Value → Heap → List Addr → Prop} {QN : Option Value → Heap → Prop} {h0 : Heap} {Lc0 : List Addr}
theorem On.here (P : On p l e R s m args below meth c Z LC n0 T h k n Lc) : At T m c below := by obtain ⟨_, _, X, -⟩ := P; exact X.here
theorem On.ltL (P : On p l e R s m args below meth c Z LC n0 T h k n Lc) : ∀ x ∈ Lc, x < h.size := by obtain ⟨_, _, _, _, _, _, _, A⟩ := P; exact A.1
theorem On.more {k' n' : Nat} (P : On p l e R s m args below meth c Z LC n0 T h k n Lc) (hk : k ≤ k') (hn : n ≤ n') : On p l e R s m args below meth c Z LC n0 T h k' n' Lc := by
  obtain ⟨L, vm0, X, r⟩ := P; exact ⟨L, vm0, X.more hk hn, r⟩
theorem ownAt {own : String} {vm0 : Vm} {n : Nat} (hS : s.Since vm0 n) (hown : s.vm.findClass own = some m.cls) : (s.setVm vm0).vm.findClass own = some m.cls := by rw [show (s.setVm vm0).vm = vm0 from rfl, hS.1.alike.findClass]; exact hown
theorem sinceUp {vm0 : Vm} {n n' : Nat} (hS : s.Since vm0 n) (q : n ≤ n') : s.Since vm0 n' := ⟨hS.1, hS.2.mono q⟩
theorem Aim.of {T' : State} {g g' : JFrame} (st : ∀ t, Steps p.tables e below (T'.setTop g') t → Steps p.tables e below (T.setTop g) t) (a : Aim p e below s CC SS n0 Q T' g') : Aim p e below s CC SS n0 Q T g := by
  obtain ⟨s2, o, h1, r⟩ := a; exact ⟨s2, o, st _ h1, r⟩
theorem Aim.cast {g g' : JFrame} (q : g = g') (a : Aim p e below s CC SS n0 Q T g') : Aim p e below s CC SS n0 Q T g := q ▸ a
theorem Con.intro {y : MethodName} {bytes : ByteArray} {maxL : Nat} {ret : Option FieldType} {rm : Room} {as' : Array Value} (pl : plainFor y = true)
    (body : ∀ (p : Program) (e : Env) (s : State) (m : MethodId) (below : List Frame) (meth : Method) (c : Code) (s₁ : State), p.tables.exec = Jvm.exec → c.code = bytes → c.maxLocals = maxL → meth.sig.returnType = ret → meth.name = y.name → s.vm.findClass y.cls = some m.cls → meth.locks = false → Z.Warmed39 s.vm → s.heap = h0 →
      On p l e rm s m as' below meth c Z LC n0 s₁ h0 0 0 Lc0 → Aim p e below s rm.cells rm.slots n0 (QW Z LC h0 Lc0 QH) s₁ (entryFrame m as' maxL)) : Con l Z LC y bytes maxL ret rm n0 as' h0 Lc0 QH := by
  intro ws
  refine MetFree.of_bodySF pl hisR ?_
  intro p e s m args below meth c s₁ Bd hml0 hP hK
  obtain ⟨rfl, hZ, hh, hA⟩ := hP
  have X0 : Stand p l e rm s m args below meth c s₁ [] 0 0 := Stand.of_body Bd
  obtain ⟨s2, o, h1, h2, h3, v, L, h4, h5, h6⟩ := body p e s m below meth c s₁ Bd.exec Bd.bytes hml0 Bd.returns (name_of_methodNamed Bd.named Bd.method).1 (findClass_of_methodNamed Bd.named) (BodyLoose.notSynchronized Bd) hZ hh ⟨[], s.vm, X0, by rw [← hh, Bd.state]; rfl, Fr.nil n0, (State.WarmedH.refl s).since _, hZ, hA⟩
  exact ⟨s2, o, h1, h2, h3, v, L, h4, h5, h6⟩
theorem Con.back {y : MethodName} {bytes : ByteArray} {maxL : Nat} {ret : Option FieldType} {rm : Room} {as' : Array Value} {len W : Nat} (hM : Con l Z LC y bytes maxL ret rm n0 as' h Lc QH) (wc : (Cond.code y bytes maxL ret).before a0 Z = true) (wz : (Cond.initialized y.cls).before a0 Z = true) (hf : rm.frames + 1 ≤ R.frames) (hl : W + (maxL + 11) + rm.locals ≤ R.locals) :
    Bk l R p e below s args y len W as' h rm.cells rm.slots Z LC n0 Lc QH := by
  intro vm0 hZ hA
  exact BackS.of_freeW (bytes := bytes) (maxL := maxL) (ret := ret) (E := fun _ _ o t L k n => k = rm.cells ∧ n = rm.slots ∧ ∃ v, o = .returned v ∧ (QW Z LC h Lc QH v t.heap t.vm.interned ∧ Fr n0 L)) (hM []) hf hl
    (fun m meth c A a Y hp => have hU : Z.Warmed39 A.U.vm := wtrans (s := s.setVm vm0) hZ Y.warmed
      ⟨by show (Cond.and _ .tt).before a A.U = true; rw [Cond.before_and, mv hU wc]; rfl, mv hU wc, mv hU wz, hp.2.2.1, hp.2.2.2⟩)
    (fun m meth c A a g mk Y hp => ⟨hp.1, wtrans (s := s.setVm vm0) hZ Y.warmed, hp.2.1, by show HA Z LC A.U.vm.interned h Lc; rw [Y.warmed.interned_eq]; exact hA⟩) (fun _ _ _ _ _ _ _ _ _ => trivial)
    (fun _ _ _ _ ⟨v, L, h1, h2, h3⟩ => ⟨L, _, _, h3, rfl, rfl, v, h1, h2⟩)
    (fun m meth c A a g mk v t L k n Y hp _ _ ⟨e1, e2, v', e3, e4⟩ => by cases e3; subst e1 e2; exact ⟨L, e4, rfl, rfl, rfl⟩)
/-! the ways out -/
theorem Aim.retN {t : FieldType} {pc : Nat} {Ls : Array Slot} {z : Int32} {rest : List Value} (P : On p l e R s m args below meth c Z LC n0 T h k n Lc) (hx : p.tables.exec = Jvm.exec) (hlk : meth.locks = false) (hret : meth.sig.returnType = some t) (ht : t = .boolean ∨ t = .byte ∨ t = .char ∨ t = .short) (hd : decode c.code pc = .ok (.ireturn, 1))
    (hk : k ≤ CC) (hn : n ≤ SS) (hl : Grow Lc0 Lc h0.size) (q : QH (some (.int (nar t z))) h Lc) : Aim p e below s CC SS n0 (QW Z LC h0 Lc0 QH) T (mkF m pc Ls (.int z :: rest)) := by
  obtain ⟨L, vm0, X, eT, N, hS, hZ, A⟩ := P
  obtain ⟨fs, hr, hrun, hended, hW, hsame⟩ := X.leave (v := (some (.int (nar t z)))) (fun h => by rw [hret] at h; cases h) hlk
  obtain ⟨r1, r2, r3⟩ := hS.ended hW (by show h.size ≤ T.heap.size; rw [eT]; exact Nat.le_refl _) hsame
  refine ⟨_, _, Jvm.RoadKit.retN X hx hret ht hd hr, hrun, hended, _, _, rfl, ⟨⟨Lc, by show QH _ T.heap Lc; rw [eT]; exact q, ?_, hl⟩, N⟩, ⟨_, rfl⟩, r1, r2, r3.mono hk hn⟩
  have ei : (T.setFrames fs).vm.interned = vm0.interned := hW.interned_eq
  rw [ei]
  show HA Z LC vm0.interned T.heap Lc
  rw [eT]; exact A
theorem Aim.retW {t : FieldType} {i : Instr} {pc : Nat} {Ls : Array Slot} {w : Value} {rest : List Value} (P : On p l e R s m args below meth c Z LC n0 T h k n Lc) (hx : p.tables.exec = Jvm.exec) (hlk : meth.locks = false) (hret : meth.sig.returnType = some t) (hn' : narrow t w = w) (hi : (i = .ireturn ∧ (t = .int ∨ t = .boolean ∨ t = .byte ∨ t = .char ∨ t = .short) ∧ ∃ z, w = .int z) ∨ (i = .lreturn ∧ t = .long ∧ ∃ z, w = .long z) ∨ (i = .dreturn ∧ t = .double ∧ ∃ z, w = .double z) ∨ (i = .freturn ∧ t = .float ∧ ∃ z, w = .float z) ∨ (i = .areturn ∧ t.isReference = true ∧ w.isRef = true)) (hd : decode c.code pc = .ok (i, 1))
    (hk : k ≤ CC) (hn : n ≤ SS) (hl : Grow Lc0 Lc h0.size) (q : QH (some w) h Lc) : Aim p e below s CC SS n0 (QW Z LC h0 Lc0 QH) T (mkF m pc Ls (w :: rest)) := by
  obtain ⟨L, vm0, X, eT, N, hS, hZ, A⟩ := P
  obtain ⟨fs, hr, hrun, hended, hW, hsame⟩ := X.leave (v := (some w)) (fun h => by rw [hret] at h; cases h) hlk
  obtain ⟨r1, r2, r3⟩ := hS.ended hW (by show h.size ≤ T.heap.size; rw [eT]; exact Nat.le_refl _) hsame
  refine ⟨_, _, Jvm.RoadKit.retOut X hx hret hn' hi hd hr, hrun, hended, _, _, rfl, ⟨⟨Lc, by show QH _ T.heap Lc; rw [eT]; exact q, ?_, hl⟩, N⟩, ⟨_, rfl⟩, r1, r2, r3.mono hk hn⟩
  have ei : (T.setFrames fs).vm.interned = vm0.interned := hW.interned_eq
  rw [ei]
  show HA Z LC vm0.interned T.heap Lc
  rw [eT]; exact A
theorem Aim.retV {pc : Nat} {Ls : Array Slot} (P : On p l e R s m args below meth c Z LC n0 T h k n Lc) (hx : p.tables.exec = Jvm.exec) (hlk : meth.locks = false) (hret : meth.sig.returnType = none) (hd : decode c.code pc = .ok (.return_, 1))
    (hk : k ≤ CC) (hn : n ≤ SS) (hl : Grow Lc0 Lc h0.size) (q : QH none h Lc) : Aim p e below s CC SS n0 (QW Z LC h0 Lc0 QH) T (mkF m pc Ls []) := by
  obtain ⟨L, vm0, X, eT, N, hS, hZ, A⟩ := P
  obtain ⟨fs, hr, hrun, hended, hW, hsame⟩ := X.leave (v := none) (fun _ => rfl) hlk
  obtain ⟨r1, r2, r3⟩ := hS.ended hW (by show h.size ≤ T.heap.size; rw [eT]; exact Nat.le_refl _) hsame
  refine ⟨_, _, X.returnOut hx hret hd hr, hrun, hended, _, _, rfl, ⟨⟨Lc, by show QH _ T.heap Lc; rw [eT]; exact q, ?_, hl⟩, N⟩, ⟨_, rfl⟩, r1, r2, r3.mono hk hn⟩
  have ei : (T.setFrames fs).vm.interned = vm0.interned := hW.interned_eq
  rw [ei]
  show HA Z LC vm0.interned T.heap Lc
  rw [eT]; exact A
theorem Aim.retI {pc : Nat} {Ls : Array Slot} {z : Int32} {rest : List Value} (P : On p l e R s m args below meth c Z LC n0 T h k n Lc) (hx : p.tables.exec = Jvm.exec) (hlk : meth.locks = false) (hret : meth.sig.returnType = some .int) (hd : decode c.code pc = .ok (.ireturn, 1))
    (hk : k ≤ CC) (hn : n ≤ SS) (hl : Grow Lc0 Lc h0.size) (q : QH (some (.int z)) h Lc) : Aim p e below s CC SS n0 (QW Z LC h0 Lc0 QH) T (mkF m pc Ls (.int z :: rest)) := Aim.retW P hx hlk hret rfl (Or.inl ⟨rfl, Or.inl rfl, z, rfl⟩) hd hk hn hl q
theorem Aim.retJ {pc : Nat} {Ls : Array Slot} {z : Int64} {rest : List Value} (P : On p l e R s m args below meth c Z LC n0 T h k n Lc) (hx : p.tables.exec = Jvm.exec) (hlk : meth.locks = false) (hret : meth.sig.returnType = some .long) (hd : decode c.code pc = .ok (.lreturn, 1))
    (hk : k ≤ CC) (hn : n ≤ SS) (hl : Grow Lc0 Lc h0.size) (q : QH (some (.long z)) h Lc) : Aim p e below s CC SS n0 (QW Z LC h0 Lc0 QH) T (mkF m pc Ls (.long z :: rest)) := Aim.retW P hx hlk hret rfl (Or.inr (Or.inl ⟨rfl, rfl, z, rfl⟩)) hd hk hn hl q
theorem Aim.retA {t : FieldType} {pc : Nat} {Ls : Array Slot} {w : Value} {rest : List Value} (P : On p l e R s m args below meth c Z LC n0 T h k n Lc) (hx : p.tables.exec = Jvm.exec) (hlk : meth.locks = false) (hret : meth.sig.returnType = some t) (ht : t.isReference = true) (hw : w.isRef = true) (hd : decode c.code pc = .ok (.areturn, 1))
    (hk : k ≤ CC) (hn : n ≤ SS) (hl : Grow Lc0 Lc h0.size) (q : QH (some w) h Lc) : Aim p e below s CC SS n0 (QW Z LC h0 Lc0 QH) T (mkF m pc Ls (w :: rest)) := by
  have hn' : narrow t w = w := by cases t <;> cases w <;> first | rfl | (cases ht; done) | (cases hw; done)
  exact Aim.retW P hx hlk hret hn' (Or.inr (Or.inr (Or.inr (Or.inr ⟨rfl, ht, hw⟩)))) hd hk hn hl q
/-! steps that meet the heap -/
theorem Aim.newO {own C : String} {index nn pc : Nat} {Ls : Array Slot} {st : List Value} (P : On p l e R s m args below meth c Z LC n0 T h k n Lc) (hx : p.tables.exec = Jvm.exec) (hZs : Z.Warmed39 s.vm) (hown : s.vm.findClass own = some m.cls) (w : (Cond.classLink own index C).before a0 Z = true) (wi : (Cond.instantiable C nn).before a0 Z = true) (wz : (Cond.initialized C).before a0 Z = true)
    (hd : decode c.code pc = .ok (.new index, 3)) (hc : k + 1 ≤ R.cells) (hl : n + nn ≤ R.slots)
    (cont : ∀ T' h' b, b = h.size → On p l e R s m args below meth c Z LC n0 T' h' (k + 1) (n + nn) Lc → Ext h h' → Exa Z h' b C → (∀ {O nm d : String} {ty : FieldType}, Laid Z a0 C O nm d → parseFieldDescriptor d = some ty → Fld Z h' b O nm d (defaultValue ty)) → Unt h' b → Aim p e below s CC SS n0 Q T' (mkF m (pc + 3) Ls (.ref b :: st))) :
    Aim p e below s CC SS n0 Q T (mkF m pc Ls st) := by
  obtain ⟨L, vm0, X, eT, N, hS, hZ, A⟩ := P
  have hown' := ownAt hS hown
  obtain ⟨T', h', X', e', E, A', D, U, st'⟩ := RoadKit.newO (s := s.setVm vm0) X hx hZ hown' w wi wz eT (g := mkF m pc Ls st) rfl hd hc hl
  exact Aim.of st' (cont T' h' _ rfl ⟨L, vm0, X', e', N, sinceUp hS E.1, hZ, A.keep ((Keep.refl _ []).ext E) (fun _ q => nomatch q)⟩ E A' D U)
theorem Aim.newP {aty : ArrayType} {pc : Nat} {Ls : Array Slot} {z : Int32} {st : List Value} (P : On p l e R s m args below meth c Z LC n0 T h k n Lc) (hx : p.tables.exec = Jvm.exec) (hZs : Z.Warmed39 s.vm) (w : (Cond.arrayClass (newarray.typeOf aty)).before a0 Z = true) (hd : decode c.code pc = .ok (.newarray aty, 2))
    (hz : ¬ z < 0) {cap : Nat} (hcap : z.toNatClampNeg ≤ cap) (hb : cap * 8 ≤ 536870912) (hc : k + 1 ≤ R.cells) (hl : n + cap ≤ R.slots)
    (cont : ∀ T' h' kk b, b = h.size → On p l e R s m args below meth c Z LC n0 T' h' (k + 1) (n + cap) Lc → Ext h h' → Arv Z h' b kk (newarray.typeOf aty) z [] (defaultValue (newarray.typeOf aty)) → Aim p e below s CC SS n0 Q T' (mkF m (pc + 2) Ls (.ref b :: st))) :
    Aim p e below s CC SS n0 Q T (mkF m pc Ls (.int z :: st)) := by
  obtain ⟨L, vm0, X, eT, N, hS, hZ, A⟩ := P
  obtain ⟨T', h', kk, X', e', E, A', st'⟩ := RoadKit.newP (s := s.setVm vm0) X hx hZ w eT (g := mkF m pc Ls (.int z :: st)) rfl hd rfl hz hcap hb hc hl
  exact Aim.of st' (cont T' h' kk _ rfl ⟨L, vm0, X', e', N, sinceUp hS E.1, hZ, A.keep ((Keep.refl _ []).ext E) (fun _ q => nomatch q)⟩ E (Arv.new A' hz))
theorem Aim.newR {own C : String} {index pc : Nat} {Ls : Array Slot} {z : Int32} {st : List Value} (P : On p l e R s m args below meth c Z LC n0 T h k n Lc) (hx : p.tables.exec = Jvm.exec) (hZs : Z.Warmed39 s.vm) (hown : s.vm.findClass own = some m.cls) (w1 : (Cond.classLink own index C).before a0 Z = true) (w2 : (Cond.arrayOver (.object C)).before a0 Z = true) (hd : decode c.code pc = .ok (.anewarray index, 3))
    (hz : ¬ z < 0) {cap : Nat} (hcap : z.toNatClampNeg ≤ cap) (hb : cap * 8 ≤ 536870912) (hc : k + 1 ≤ R.cells) (hl : n + cap ≤ R.slots)
    (cont : ∀ T' h' kk b, b = h.size → On p l e R s m args below meth c Z LC n0 T' h' (k + 1) (n + cap) Lc → Ext h h' → Arv Z h' b kk (.object C) z [] .null → Ovr Z kk C → Aim p e below s CC SS n0 Q T' (mkF m (pc + 3) Ls (.ref b :: st))) :
    Aim p e below s CC SS n0 Q T (mkF m pc Ls (.int z :: st)) := by
  obtain ⟨L, vm0, X, eT, N, hS, hZ, A⟩ := P
  have hown' := ownAt hS hown
  obtain ⟨T', h', kk, X', e', E, A', O, st'⟩ := RoadKit.newR (s := s.setVm vm0) X hx hZ hown' w1 w2 eT (g := mkF m pc Ls (.int z :: st)) rfl hd rfl hz hcap hb hc hl
  exact Aim.of st' (cont T' h' kk _ rfl ⟨L, vm0, X', e', N, sinceUp hS E.1, hZ, A.keep ((Keep.refl _ []).ext E) (fun _ q => nomatch q)⟩ E (Arv.new A' hz) O)
theorem Aim.getF {own R0 O f d host : String} {index pc : Nat} {Ls : Array Slot} {st : List Value} {a : Addr} {v : Value} (P : On p l e R s m args below meth c Z LC n0 T h k n Lc) (hx : p.tables.exec = Jvm.exec) (hZs : Z.Warmed39 s.vm) (hown : s.vm.findClass own = some m.cls) (w : (Cond.fieldLink own index R0 f d).before a0 Z = true ∨ (Cond.fieldLinkNest own index R0 f d host).before a0 Z = true) (via : Via Z R0 O f d) (F : Fld Z h a O f d v) (hd : decode c.code pc = .ok (.getfield index, 3)) (cont : ∀ T', On p l e R s m args below meth c Z LC n0 T' h k n Lc → Aim p e below s CC SS n0 Q T' (mkF m (pc + 3) Ls (v :: st))) :
    Aim p e below s CC SS n0 Q T (mkF m pc Ls (.ref a :: st)) := by
  obtain ⟨L, vm0, X, eT, N, hS, hZ, A⟩ := P
  have hown' := ownAt hS hown
  obtain ⟨T', X', e', st'⟩ := RoadKit.getF (s := s.setVm vm0) X hx hZ hown' w via eT F (g := (mkF m pc Ls (.ref a :: st))) rfl rfl hd
  exact Aim.of st' (cont T' ⟨L, vm0, X', e', N, hS, hZ, A⟩)
theorem Aim.getS {own R0 O f d : String} {index pc : Nat} {Ls : Array Slot} {st : List Value} {v : Value} (P : On p l e R s m args below meth c Z LC n0 T h k n Lc) (hx : p.tables.exec = Jvm.exec) (hZs : Z.Warmed39 s.vm) (hown : s.vm.findClass own = some m.cls) (w : (Cond.fieldLink own index R0 f d).before a0 Z = true) (via : Via Z R0 O f d) (F : Sta Z h O f d v) (hd : decode c.code pc = .ok (.getstatic index, 3)) (cont : ∀ T', On p l e R s m args below meth c Z LC n0 T' h k n Lc → Aim p e below s CC SS n0 Q T' (mkF m (pc + 3) Ls (v :: st))) :
    Aim p e below s CC SS n0 Q T (mkF m pc Ls st) := by
  obtain ⟨L, vm0, X, eT, N, hS, hZ, A⟩ := P
  have hown' := ownAt hS hown
  obtain ⟨T', X', e', st'⟩ := RoadKit.getS (s := s.setVm vm0) (host := "") X hx hZ hown' w via eT F (g := (mkF m pc Ls st)) rfl hd
  exact Aim.of st' (cont T' ⟨L, vm0, X', e', N, hS, hZ, A⟩)
theorem Aim.getS2 {own R0 O f d host : String} {index pc : Nat} {Ls : Array Slot} {st : List Value} {v : Value} (P : On p l e R s m args below meth c Z LC n0 T h k n Lc) (hx : p.tables.exec = Jvm.exec) (hZs : Z.Warmed39 s.vm) (hown : s.vm.findClass own = some m.cls) (w : (Cond.fieldLink own index R0 f d).before a0 Z = true ∨ (Cond.fieldLinkNest own index R0 f d host).before a0 Z = true) (via : Via Z R0 O f d) (F : Sta Z h O f d v) (hd : decode c.code pc = .ok (.getstatic index, 3)) (cont : ∀ T', On p l e R s m args below meth c Z LC n0 T' h k n Lc → Aim p e below s CC SS n0 Q T' (mkF m (pc + 3) Ls (v :: st))) :
    Aim p e below s CC SS n0 Q T (mkF m pc Ls st) := by
  obtain ⟨L, vm0, X, eT, N, hS, hZ, A⟩ := P
  have hown' := ownAt hS hown
  obtain ⟨T', X', e', st'⟩ := RoadKit.getS2 (s := s.setVm vm0) X hx hZ hown' w via eT F (g := (mkF m pc Ls st)) rfl hd
  exact Aim.of st' (cont T' ⟨L, vm0, X', e', N, hS, hZ, A⟩)
theorem Aim.castY {own K : String} {index pc : Nat} {Ls : Array Slot} {st : List Value} {a : Addr} (P : On p l e R s m args below meth c Z LC n0 T h k n Lc) (hx : p.tables.exec = Jvm.exec) (hZs : Z.Warmed39 s.vm) (hown : s.vm.findClass own = some m.cls) (w : (Cond.classLink own index K).before a0 Z = true) (F : Ins Z h a K true) (hd : decode c.code pc = .ok (.checkcast index, 3)) (cont : ∀ T', On p l e R s m args below meth c Z LC n0 T' h k n Lc → Aim p e below s CC SS n0 Q T' (mkF m (pc + 3) Ls (.ref a :: st))) :
    Aim p e below s CC SS n0 Q T (mkF m pc Ls (.ref a :: st)) := by
  obtain ⟨L, vm0, X, eT, N, hS, hZ, A⟩ := P
  have hown' := ownAt hS hown
  obtain ⟨T', X', e', st'⟩ := RoadKit.castY (s := s.setVm vm0) X hx hZ hown' w eT F (g := (mkF m pc Ls (.ref a :: st))) rfl rfl hd
  exact Aim.of st' (cont T' ⟨L, vm0, X', e', N, hS, hZ, A⟩)
theorem Aim.instY {own K : String} {index pc : Nat} {Ls : Array Slot} {st : List Value} {a : Addr} (P : On p l e R s m args below meth c Z LC n0 T h k n Lc) (hx : p.tables.exec = Jvm.exec) (hZs : Z.Warmed39 s.vm) (hown : s.vm.findClass own = some m.cls) (w : (Cond.classLink own index K).before a0 Z = true) (F : Ins Z h a K true) (hd : decode c.code pc = .ok (.instanceof index, 3)) (cont : ∀ T', On p l e R s m args below meth c Z LC n0 T' h k n Lc → Aim p e below s CC SS n0 Q T' (mkF m (pc + 3) Ls (.int 1 :: st))) :
    Aim p e below s CC SS n0 Q T (mkF m pc Ls (.ref a :: st)) := by
  obtain ⟨L, vm0, X, eT, N, hS, hZ, A⟩ := P
  have hown' := ownAt hS hown
  obtain ⟨T', X', e', st'⟩ := RoadKit.instY (s := s.setVm vm0) X hx hZ hown' w eT F (g := (mkF m pc Ls (.ref a :: st))) rfl rfl hd
  exact Aim.of st' (cont T' ⟨L, vm0, X', e', N, hS, hZ, A⟩)
theorem Aim.putF {own R0 O f d host C : String} {index kk pc : Nat} {ty : FieldType} {Ls : Array Slot} {st : List Value} {a : Addr} {v old : Value} (P : On p l e R s m args below meth c Z LC n0 T h k n Lc) (hx : p.tables.exec = Jvm.exec) (hZs : Z.Warmed39 s.vm) (hown : s.vm.findClass own = some m.cls) (w : (Cond.fieldLink own index R0 f d).before a0 Z = true ∨ (Cond.fieldLinkNest own index R0 f d host).before a0 Z = true) (via : Via Z R0 O f d)
    (F : Fld Z h a O f d old) (E : Exa Z h a C) (hL : (Cond.lays C O f d).before a0 Z = true ∨ ((Cond.laysFinal C O f d).before a0 Z = true ∧ own = O ∧ meth.name = "<init>")) (wi : (Cond.instantiable C kk).before a0 Z = true)
    (hty : parseFieldDescriptor d = some ty) (hn : narrow ty v = v) (hf : fits ty v = true) (hd : decode c.code pc = .ok (.putfield index, 3)) (ga : n0 ≤ a) (nl : a ∉ Lc)
    (cont : ∀ T' h', On p l e R s m args below meth c Z LC n0 T' h' k n Lc → Wr h h' a (Jvm.RoadKit.slotOf Z O f d) v → Aim p e below s CC SS n0 Q T' (mkF m (pc + 3) Ls st)) :
    Aim p e below s CC SS n0 Q T (mkF m pc Ls (v :: .ref a :: st)) := by
  obtain ⟨L, vm0, X, eT, N, hS, hZ, A⟩ := P
  have hown' := ownAt hS hown
  obtain ⟨T', h', X', e', W, st'⟩ := RoadKit.putF (s := s.setVm vm0) X hx hZ hown' w via eT F E hL wi hty hn hf (g := mkF m pc Ls (v :: .ref a :: st)) rfl rfl hd
  exact Aim.of st' (cont T' h' ⟨_, vm0, X', e', Fr.snoc X' N ga, sinceUp hS (Keep.of_wr W).1, hZ, A.keep (Keep.of_wr W) (allS nl all0)⟩ W)
theorem Aim.stC {pc : Nat} {Ls : Array Slot} {st : List Value} {a : Addr} {kk : ClassId} {j x z : Int32} {vs : List Value} {dv : Value} (P : On p l e R s m args below meth c Z LC n0 T h k n Lc) (hx : p.tables.exec = Jvm.exec) (hZs : Z.Warmed39 s.vm) (V : Arv Z h a kk .char z vs dv) (hj : ¬ j < 0 ∧ j < z) (i : Nat) (hi : j.toNatClampNeg = i) (hv : i < vs.length)
    (hd : decode c.code pc = .ok (.castore, 1)) (ga : n0 ≤ a) (nl : a ∉ Lc) (cont : ∀ T' h', On p l e R s m args below meth c Z LC n0 T' h' k n Lc → Keep h h' [a] → Arv Z h' a kk .char z (vs.set i (.int (nar .char x))) dv → Aim p e below s CC SS n0 Q T' (mkF m (pc + 1) Ls st)) :
    Aim p e below s CC SS n0 Q T (mkF m pc Ls (.int x :: .int j :: .ref a :: st)) := by
  obtain ⟨L, vm0, X, eT, N, hS, hZ, A⟩ := P
  obtain ⟨cl, B, q, S, M, H, U⟩ := V
  obtain ⟨T', h', X', e', W, st'⟩ := RoadKit.stC (s := s.setVm vm0) X hx hZ eT B (j := j) (inb_of S hj) (g := mkF m pc Ls (.int x :: .int j :: .ref a :: st)) rfl rfl hd
  exact Aim.of st' (cont T' h' ⟨_, vm0, X', e', Fr.snoc X' N ga, sinceUp hS (Keep.of_wr W).1, hZ, A.keep (Keep.of_wr W) (allS nl all0)⟩ (Keep.of_wr W) (Arv.set B q S M H U (fits_nar_char _) W i hi hv))
theorem Aim.stB {pc : Nat} {Ls : Array Slot} {st : List Value} {a : Addr} {kk : ClassId} {j x z : Int32} {vs : List Value} {dv : Value} (P : On p l e R s m args below meth c Z LC n0 T h k n Lc) (hx : p.tables.exec = Jvm.exec) (hZs : Z.Warmed39 s.vm) (V : Arv Z h a kk .byte z vs dv) (hj : ¬ j < 0 ∧ j < z) (i : Nat) (hi : j.toNatClampNeg = i) (hv : i < vs.length)
    (hd : decode c.code pc = .ok (.bastore, 1)) (ga : n0 ≤ a) (nl : a ∉ Lc) (cont : ∀ T' h', On p l e R s m args below meth c Z LC n0 T' h' k n Lc → Keep h h' [a] → Arv Z h' a kk .byte z (vs.set i (.int x.toInt8.toInt32)) dv → Aim p e below s CC SS n0 Q T' (mkF m (pc + 1) Ls st)) :
    Aim p e below s CC SS n0 Q T (mkF m pc Ls (.int x :: .int j :: .ref a :: st)) := by
  obtain ⟨L, vm0, X, eT, N, hS, hZ, A⟩ := P
  obtain ⟨cl, B, q, S, M, H, U⟩ := V
  obtain ⟨T', h', X', e', W, st'⟩ := RoadKit.stB (s := s.setVm vm0) X hx hZ eT B (j := j) (inb_of S hj) (g := mkF m pc Ls (.int x :: .int j :: .ref a :: st)) rfl rfl hd
  exact Aim.of st' (cont T' h' ⟨_, vm0, X', e', Fr.snoc X' N ga, sinceUp hS (Keep.of_wr W).1, hZ, A.keep (Keep.of_wr W) (allS nl all0)⟩ (Keep.of_wr W) (Arv.set B q S M H U (fits_nar_byte _) W i hi hv))
theorem Aim.alen {pc : Nat} {Ls : Array Slot} {st : List Value} {a : Addr} {kk : ClassId} {ty : FieldType} {z : Int32} {vs : List Value} {dv : Value} (P : On p l e R s m args below meth c Z LC n0 T h k n Lc) (hx : p.tables.exec = Jvm.exec) (hZs : Z.Warmed39 s.vm) (V : Arv Z h a kk ty z vs dv)
    (hd : decode c.code pc = .ok (.arraylength, 1)) (cont : Aim p e below s CC SS n0 Q T (mkF m (pc + 1) Ls (.int z :: st))) : Aim p e below s CC SS n0 Q T (mkF m pc Ls (.ref a :: st)) := by
  obtain ⟨L, vm0, X, eT, N, hS, hZ, A⟩ := P
  obtain ⟨cl, B, q, S, M, H, U⟩ := V
  refine Aim.of (fun t kt => X.arraylength hx (by rw [eT]; exact B.1) (State.isArrayOf_alike (s := Z) (T := s.setVm vm0) hZ.alike B.2.1) (g := mkF m pc Ls (.ref a :: st)) rfl rfl hd t ?_) cont
  rw [len_of S M]; exact kt
theorem Aim.ldC {pc : Nat} {Ls : Array Slot} {st : List Value} {a : Addr} {kk : ClassId} {j z : Int32} {vs : List Value} {dv v : Value} (P : On p l e R s m args below meth c Z LC n0 T h k n Lc) (hx : p.tables.exec = Jvm.exec) (hZs : Z.Warmed39 s.vm) (V : Arv Z h a kk .char z vs dv) (hj : ¬ j < 0 ∧ j < z) (hv : vs.getD j.toNatClampNeg dv = v)
    (hd : decode c.code pc = .ok (.caload, 1)) (cont : Aim p e below s CC SS n0 Q T (mkF m (pc + 1) Ls (v :: st))) : Aim p e below s CC SS n0 Q T (mkF m pc Ls (.int j :: .ref a :: st)) := by
  obtain ⟨L, vm0, X, eT, N, hS, hZ, A⟩ := P
  obtain ⟨cl, B, q, S, M, H, U⟩ := V
  exact Aim.of (fun t kt => X.caload hx (j := j) (v := v) (by rw [eT]; exact B.1) (State.isArrayOf_alike (s := Z) (T := s.setVm vm0) hZ.alike B.2.1) B.2.2 (inb_of S hj) (H.at (inb_of S hj) hv) (g := mkF m pc Ls (.int j :: .ref a :: st)) rfl rfl hd t kt) cont
theorem Aim.ldB {pc : Nat} {Ls : Array Slot} {st : List Value} {a : Addr} {kk : ClassId} {j z : Int32} {vs : List Value} {dv v : Value} (P : On p l e R s m args below meth c Z LC n0 T h k n Lc) (hx : p.tables.exec = Jvm.exec) (hZs : Z.Warmed39 s.vm) (V : Arv Z h a kk .byte z vs dv) (hj : ¬ j < 0 ∧ j < z) (hv : vs.getD j.toNatClampNeg dv = v)
    (hd : decode c.code pc = .ok (.baload, 1)) (cont : Aim p e below s CC SS n0 Q T (mkF m (pc + 1) Ls (v :: st))) : Aim p e below s CC SS n0 Q T (mkF m pc Ls (.int j :: .ref a :: st)) := by
  obtain ⟨L, vm0, X, eT, N, hS, hZ, A⟩ := P
  obtain ⟨cl, B, q, S, M, H, U⟩ := V
  exact Aim.of (fun t kt => X.baloadBytes hx (j := j) (v := v) (by rw [eT]; exact B.1) (State.isArrayOf_alike (s := Z) (T := s.setVm vm0) hZ.alike B.2.1) B.2.2 (inb_of S hj) (H.at (inb_of S hj) hv) (g := mkF m pc Ls (.int j :: .ref a :: st)) rfl rfl hd t kt) cont
theorem Aim.initO {own : String} {index pc mx : Nat} {Ls : Array Slot} {st : List Value} {a : Addr} (P : On p l e R s m args below meth c Z LC n0 T h k n Lc) (hx : p.tables.exec = Jvm.exec) (hZs : Z.Warmed39 s.vm) (hml : c.maxLocals = mx) (hown : s.vm.findClass own = some m.cls) (w1 : (Cond.methodLink own index Lib.objectInit).before a0 Z = true) (w2 : (Cond.instanceMethod Lib.objectInit).before a0 Z = true)
    (w3 : (Cond.code Lib.objectInit ⟨#[0xb1]⟩ 1 none).before a0 Z = true) (hsz : Ls.size = mx) (hd : decode c.code pc = .ok (.invokespecial index, 3)) (hf : 1 ≤ R.frames) (hl : (st.map fun v => v.category).sum + 12 ≤ R.locals)
    (cont : ∀ T', On p l e R s m args below meth c Z LC n0 T' h k n Lc → Aim p e below s CC SS n0 Q T' (mkF m (pc + 3) Ls st)) : Aim p e below s CC SS n0 Q T (mkF m pc Ls (.ref a :: st)) := by
  obtain ⟨L, vm0, X, eT, N, hS, hZ, A⟩ := P
  have hown' := ownAt hS hown
  obtain ⟨T', X', e', st'⟩ := RoadKit.initO (s := s.setVm vm0) X hx hZ hown' w1 w2 w3 eT (g := mkF m pc Ls (.ref a :: st)) rfl (by rw [hml]; exact hsz) rfl hd hf (W := (st.map fun v => v.category).sum) (by show 2 * 0 + _ ≤ _; omega) hl
  exact Aim.of st' (cont T' ⟨L, vm0, X', e', N, hS, hZ, A⟩)
theorem Aim.ldcI {own : String} {index pc : Nat} {Ls : Array Slot} {st : List Value} {v : Int32} (P : On p l e R s m args below meth c Z LC n0 T h k n Lc) (hx : p.tables.exec = Jvm.exec) (hZs : Z.Warmed39 s.vm) (hown : s.vm.findClass own = some m.cls) (w : (Cond.constant own index v).before a0 Z = true) (hd : decode c.code pc = .ok (.ldc index, 2))
    (cont : Aim p e below s CC SS n0 Q T (mkF m (pc + 2) Ls (.int v :: st))) : Aim p e below s CC SS n0 Q T (mkF m pc Ls st) := by
  obtain ⟨L, vm0, X, eT, N, hS, hZ, A⟩ := P
  have hown' := ownAt hS hown
  exact Aim.of (fun t kt => X.ldcInt hx hown' (mvT (s := s.setVm vm0) hZ w) (g := mkF m pc Ls st) rfl hd t kt) cont
theorem Aim.ldcwI {own : String} {index pc : Nat} {Ls : Array Slot} {st : List Value} {v : Int32} (P : On p l e R s m args below meth c Z LC n0 T h k n Lc) (hx : p.tables.exec = Jvm.exec) (hZs : Z.Warmed39 s.vm) (hown : s.vm.findClass own = some m.cls) (w : (Cond.constant own index v).before a0 Z = true) (hd : decode c.code pc = .ok (.ldc_w index, 3))
    (cont : Aim p e below s CC SS n0 Q T (mkF m (pc + 3) Ls (.int v :: st))) : Aim p e below s CC SS n0 Q T (mkF m pc Ls st) := by
  obtain ⟨L, vm0, X, eT, N, hS, hZ, A⟩ := P
  have hown' := ownAt hS hown
  exact Aim.of (fun t kt => X.ldcwInt hx hown' (mvT (s := s.setVm vm0) hZ w) (g := mkF m pc Ls st) rfl hd t kt) cont
theorem Aim.ldcJ {own : String} {index pc : Nat} {Ls : Array Slot} {st : List Value} {v : Int64} (P : On p l e R s m args below meth c Z LC n0 T h k n Lc) (hx : p.tables.exec = Jvm.exec) (hZs : Z.Warmed39 s.vm) (hown : s.vm.findClass own = some m.cls) (w : (Cond.constantLong own index v).before a0 Z = true) (hd : decode c.code pc = .ok (.ldc2_w index, 3))
    (cont : Aim p e below s CC SS n0 Q T (mkF m (pc + 3) Ls (.long v :: st))) : Aim p e below s CC SS n0 Q T (mkF m pc Ls st) := by
  obtain ⟨L, vm0, X, eT, N, hS, hZ, A⟩ := P
  have hown' := ownAt hS hown
  exact Aim.of (fun t kt => X.ldc2Long hx hown' (mvT (s := s.setVm vm0) hZ w) (g := mkF m pc Ls st) rfl hd t kt) cont
theorem Aim.instNull {index pc : Nat} {Ls : Array Slot} {st : List Value} (P : On p l e R s m args below meth c Z LC n0 T h k n Lc) (hx : p.tables.exec = Jvm.exec) (hd : decode c.code pc = .ok (.instanceof index, 3))
    (cont : Aim p e below s CC SS n0 Q T (mkF m (pc + 3) Ls (.int 0 :: st))) : Aim p e below s CC SS n0 Q T (mkF m pc Ls (.null :: st)) := by
  obtain ⟨L, vm0, X, eT, N, hS, hZ, A⟩ := P
  exact Aim.of (fun t kt => X.instanceofNull hx (g := mkF m pc Ls (.null :: st)) rfl rfl hd t kt) cont
theorem Aim.castNull {index pc : Nat} {Ls : Array Slot} {st : List Value} (P : On p l e R s m args below meth c Z LC n0 T h k n Lc) (hx : p.tables.exec = Jvm.exec) (hd : decode c.code pc = .ok (.checkcast index, 3))
    (cont : Aim p e below s CC SS n0 Q T (mkF m (pc + 3) Ls (.null :: st))) : Aim p e below s CC SS n0 Q T (mkF m pc Ls (.null :: st)) := by
  obtain ⟨L, vm0, X, eT, N, hS, hZ, A⟩ := P
  exact Aim.of (fun t kt => X.checkcastNull hx (g := mkF m pc Ls (.null :: st)) rfl rfl hd t kt) cont
/-! calls -/
theorem Aim.callS {own : String} {index pc mx maxL dc ds W : Nat} {y : MethodName} {bytes : ByteArray} {ret : Option FieldType} {ps : List FieldType} {r : Option FieldType} {Ls : Array Slot} {argsL rest : List Value} {ws : List Addr} (P : On p l e R s m args below meth c Z LC n0 T h k n Lc) (hx : p.tables.exec = Jvm.exec) (hZs : Z.Warmed39 s.vm) (hml : c.maxLocals = mx) (hown : s.vm.findClass own = some m.cls)
    (w1 : (Cond.methodLink own index y).before a0 Z = true) (w2 : (Cond.static y).before a0 Z = true) (w3 : (Cond.initialized y.cls).before a0 Z = true) (w4 : (Cond.code y bytes maxL ret).before a0 Z = true) (hy : y.cls ≠ "java/lang/invoke/MethodHandle" ∧ y.cls ≠ "java/lang/invoke/VarHandle")
    (hK : ∀ vm0, Z.Warmed39 vm0 → Jvm.Y9.Bk l R p e below (s.setVm vm0) args y 3 W argsL.toArray h dc ds n0 QN) (qk : ∀ v h', QN v h' → Keep h h' ws) (hnl : ∀ x ∈ ws, x ∉ Lc) (hsz : Ls.size = mx) (hpd : parseMethodDescriptor y.desc = some ⟨ps, r⟩) (hln : argsL.length = ps.length) (hW : (rest.map fun v => v.category).sum ≤ W) (hd : decode c.code pc = .ok (.invokestatic index, 3)) (hc : k + dc ≤ R.cells) (hs : n + ds ≤ R.slots)
    (cont : ∀ T' h' v, On p l e R s m args below meth c Z LC n0 T' h' (k + dc) (n + ds) Lc → QN v h' → Aim p e below s CC SS n0 Q T' (mkF m (pc + 3) Ls (v.toList ++ rest))) : Aim p e below s CC SS n0 Q T (mkF m pc Ls (argsL.reverse ++ rest)) := by
  obtain ⟨L, vm0, X, eT, N, hS, hZ, A⟩ := P
  have hown' := ownAt hS hown
  have hB := hK vm0 hZ
  obtain ⟨v, vm1, ⟨T', L', k', n'⟩, -, X', ⟨Lc', ⟨hq, N'⟩, l', y', z'⟩, st'⟩ := Jvm.LawKit.callS (s := s.setVm vm0) X hx (y := y) hown' (mvT (s := s.setVm vm0) hZ w1) (mvT (s := s.setVm vm0) hZ w2) (mvT (s := s.setVm vm0) hZ w3) (mvT (s := s.setVm vm0) hZ w4) hy hB (g := mkF m pc Ls (argsL.reverse ++ rest)) rfl (by rw [hml]; exact hsz) (argsL := argsL) (rest := rest) (lenOf hpd hln) rfl (by show 2 * 0 + _ ≤ _; omega) hd (fun _ _ => ⟨rfl, eT, hc, hs⟩)
  dsimp only [Pt.U, Pt.locs, Pt.cells, Pt.slots] at X' l' y' z' st' hq
  subst l' y' z'
  exact Aim.of st' (cont T' _ v ⟨_, vm0, X', rfl, N.app N', sinceUp hS (qk _ _ hq).1, hZ, A.keep (qk _ _ hq) hnl⟩ hq)
theorem Aim.callSW {own : String} {index pc mx maxL dc ds W : Nat} {y : MethodName} {bytes : ByteArray} {ret : Option FieldType} {ps : List FieldType} {r : Option FieldType} {Ls : Array Slot} {argsL rest : List Value} (P : On p l e R s m args below meth c Z LC n0 T h k n Lc) (hx : p.tables.exec = Jvm.exec) (hZs : Z.Warmed39 s.vm) (hml : c.maxLocals = mx) (hown : s.vm.findClass own = some m.cls)
    (w1 : (Cond.methodLink own index y).before a0 Z = true) (w2 : (Cond.static y).before a0 Z = true) (w3 : (Cond.initialized y.cls).before a0 Z = true) (w4 : (Cond.code y bytes maxL ret).before a0 Z = true) (hy : y.cls ≠ "java/lang/invoke/MethodHandle" ∧ y.cls ≠ "java/lang/invoke/VarHandle")
    (hK : Bk l R p e below s args y 3 W argsL.toArray h dc ds Z LC n0 Lc QH) (hsz : Ls.size = mx) (hpd : parseMethodDescriptor y.desc = some ⟨ps, r⟩) (hln : argsL.length = ps.length) (hW : (rest.map fun v => v.category).sum ≤ W) (hd : decode c.code pc = .ok (.invokestatic index, 3)) (hc : k + dc ≤ R.cells) (hs : n + ds ≤ R.slots)
    (cont : ∀ T' h' v Lc', On p l e R s m args below meth c Z LC n0 T' h' (k + dc) (n + ds) Lc' → Grow Lc Lc' h.size → QH v h' Lc' → Aim p e below s CC SS n0 Q T' (mkF m (pc + 3) Ls (v.toList ++ rest))) : Aim p e below s CC SS n0 Q T (mkF m pc Ls (argsL.reverse ++ rest)) := by
  obtain ⟨L, vm0, X, eT, N, hS, hZ, A⟩ := P
  have hown' := ownAt hS hown
  have hB := hK vm0 hZ A
  obtain ⟨v, vm1, ⟨T', L', k', n'⟩, -, X', hS', hgr, ⟨Lx, ⟨⟨Lc', hq, A', rel⟩, N'⟩, l', y', z'⟩, st'⟩ := callSS (s := s.setVm vm0) X hx (y := y) hown' (mvT (s := s.setVm vm0) hZ w1) (mvT (s := s.setVm vm0) hZ w2) (mvT (s := s.setVm vm0) hZ w3) (mvT (s := s.setVm vm0) hZ w4) hy hB (g := mkF m pc Ls (argsL.reverse ++ rest)) rfl (by rw [hml]; exact hsz) (argsL := argsL) (rest := rest) (lenOf hpd hln) rfl (by show 2 * 0 + _ ≤ _; omega) hd (fun _ _ => ⟨rfl, eT, hc, hs⟩)
  dsimp only [Pt.U, Pt.locs, Pt.cells, Pt.slots] at X' l' y' z' st' hq A' hS' hgr
  subst l' y' z'
  have hS2 : s.Since T'.vm T'.heap.size := hS.trans hS' (by rw [← eT]; exact hgr)
  exact Aim.of (fun t kt => st'.trans kt) (cont T' _ v Lc' ⟨_, T'.vm, X', rfl, N.app N', hS2, State.Warmed39.trans (t := s.setVm vm0) hZ hS'.1, A'⟩ rel hq)
theorem Aim.callC {own : String} {index pc mx maxL dc ds W : Nat} {y : MethodName} {bytes : ByteArray} {ps : List FieldType} {r : Option FieldType} {Ls : Array Slot} {a : Addr} {argsL rest : List Value} {ws : List Addr} (P : On p l e R s m args below meth c Z LC n0 T h k n Lc) (hx : p.tables.exec = Jvm.exec) (hZs : Z.Warmed39 s.vm) (hml : c.maxLocals = mx) (hown : s.vm.findClass own = some m.cls)
    (hy1 : y.name = "<init>") (w1 : (Cond.methodLink own index y).before a0 Z = true) (w2 : (Cond.instanceMethod y).before a0 Z = true) (w4 : (Cond.code y bytes maxL none).before a0 Z = true) (hy : y.cls ≠ "java/lang/invoke/MethodHandle" ∧ y.cls ≠ "java/lang/invoke/VarHandle")
    (hK : ∀ vm0, Z.Warmed39 vm0 → Jvm.Y9.Bk l R p e below (s.setVm vm0) args y 3 W (.ref a :: argsL).toArray h dc ds n0 QN) (qk : ∀ v h', QN v h' → Keep h h' ws) (hnl : ∀ x ∈ ws, x ∉ Lc) (hsz : Ls.size = mx) (hpd : parseMethodDescriptor y.desc = some ⟨ps, r⟩) (hln : argsL.length = ps.length) (hW : (rest.map fun v => v.category).sum ≤ W) (hd : decode c.code pc = .ok (.invokespecial index, 3)) (hc : k + dc ≤ R.cells) (hs : n + ds ≤ R.slots)
    (cont : ∀ T' h' v, On p l e R s m args below meth c Z LC n0 T' h' (k + dc) (n + ds) Lc → QN v h' → Aim p e below s CC SS n0 Q T' (mkF m (pc + 3) Ls (v.toList ++ rest))) : Aim p e below s CC SS n0 Q T (mkF m pc Ls (argsL.reverse ++ .ref a :: rest)) := by
  obtain ⟨L, vm0, X, eT, N, hS, hZ, A⟩ := P
  have hown' := ownAt hS hown
  have hB := hK vm0 hZ
  obtain ⟨v, vm1, ⟨T', L', k', n'⟩, -, X', ⟨Lc', ⟨hq, N'⟩, l', y', z'⟩, st'⟩ := X.specialBack hx (y := y) hy1 hown' (mvT (s := s.setVm vm0) hZ w1) (mvT (s := s.setVm vm0) hZ w2) (mvT (s := s.setVm vm0) hZ w4) hy hB (g := mkF m pc Ls (argsL.reverse ++ .ref a :: rest)) rfl (by rw [hml]; exact hsz) (Steps.refl _) (a := a) (argsL := argsL) (rest := rest) (lenOf hpd hln) rfl (by show 2 * 0 + _ ≤ _; omega) hd (fun _ _ => ⟨rfl, eT, hc, hs⟩)
  dsimp only [Pt.U, Pt.locs, Pt.cells, Pt.slots] at X' l' y' z' st' hq
  subst l' y' z'
  exact Aim.of (fun t kt => st'.trans kt) (cont T' _ v ⟨_, vm0, X', rfl, N.app N', sinceUp hS (qk _ _ hq).1, hZ, A.keep (qk _ _ hq) hnl⟩ hq)
theorem Aim.callV {own C : String} {index pc mx dc ds W : Nat} {y z : MethodName} {ps : List FieldType} {r : Option FieldType} {Ls : Array Slot} {a : Addr} {argsL rest : List Value} {ws : List Addr} (P : On p l e R s m args below meth c Z LC n0 T h k n Lc) (hx : p.tables.exec = Jvm.exec) (hZs : Z.Warmed39 s.vm) (hml : c.maxLocals = mx) (hown : s.vm.findClass own = some m.cls)
    (w1 : (Cond.methodLink own index y).before a0 Z = true) (w2 : (Cond.declares y).before a0 Z = true) (nf : ∀ vm0, Z.Warmed39 vm0 → NotFace (s.setVm vm0) y) (w3 : (Cond.selects C y z).before a0 Z = true) (w4 : (Cond.instanceMethod z).before a0 Z = true) (hy : y.cls ≠ "java/lang/invoke/MethodHandle" ∧ y.cls ≠ "java/lang/invoke/VarHandle") (E : Exa Z h a C)
    (hK : ∀ vm0, Z.Warmed39 vm0 → Jvm.Y9.Bk l R p e below (s.setVm vm0) args z 3 W (.ref a :: argsL).toArray h dc ds n0 QN) (qk : ∀ v h', QN v h' → Keep h h' ws) (hnl : ∀ x ∈ ws, x ∉ Lc) (hsz : Ls.size = mx) (hpd : parseMethodDescriptor y.desc = some ⟨ps, r⟩) (hln : argsL.length = ps.length) (hW : (rest.map fun v => v.category).sum ≤ W) (hd : decode c.code pc = .ok (.invokevirtual index, 3)) (hc : k + dc ≤ R.cells) (hs : n + ds ≤ R.slots)
    (cont : ∀ T' h' v, On p l e R s m args below meth c Z LC n0 T' h' (k + dc) (n + ds) Lc → QN v h' → Aim p e below s CC SS n0 Q T' (mkF m (pc + 3) Ls (v.toList ++ rest))) : Aim p e below s CC SS n0 Q T (mkF m pc Ls (argsL.reverse ++ .ref a :: rest)) := by
  obtain ⟨L, vm0, X, eT, N, hS, hZ, A⟩ := P
  have hown' := ownAt hS hown
  obtain ⟨cq, kq, qa, qb, qc⟩ := isOf (s := s.setVm vm0) hZ eT E
  have hB := hK vm0 hZ
  obtain ⟨v, vm1, ⟨T', L', k', n'⟩, -, X', ⟨Lc', ⟨hq, N'⟩, l', y', z'⟩, st'⟩ := X.virtualBack hx (y := y) (z := z) hown' (mvT (s := s.setVm vm0) hZ w1) (mvT (s := s.setVm vm0) hZ w2) (nf vm0 hZ) (mvT (s := s.setVm vm0) hZ w3) (mvT (s := s.setVm vm0) hZ w4) hy hB qa qc (g := mkF m pc Ls (argsL.reverse ++ .ref a :: rest)) rfl (by rw [hml]; exact hsz) (Steps.refl _) (argsL := argsL) (rest := rest) (lenOf hpd hln) rfl (by show 2 * 0 + _ ≤ _; omega) hd (fun _ _ => ⟨rfl, eT, hc, hs⟩)
  dsimp only [Pt.U, Pt.locs, Pt.cells, Pt.slots] at X' l' y' z' st' hq
  subst l' y' z'
  exact Aim.of (fun t kt => st'.trans kt) (cont T' _ v ⟨_, vm0, X', rfl, N.app N', sinceUp hS (qk _ _ hq).1, hZ, A.keep (qk _ _ hq) hnl⟩ hq)
theorem Aim.callVW {own C : String} {index pc mx dc ds W : Nat} {y z : MethodName} {ps : List FieldType} {r : Option FieldType} {Ls : Array Slot} {a : Addr} {argsL rest : List Value} (P : On p l e R s m args below meth c Z LC n0 T h k n Lc) (hx : p.tables.exec = Jvm.exec) (hZs : Z.Warmed39 s.vm) (hml : c.maxLocals = mx) (hown : s.vm.findClass own = some m.cls)
    (w1 : (Cond.methodLink own index y).before a0 Z = true) (w2 : (Cond.declares y).before a0 Z = true) (nf : ∀ vm0, Z.Warmed39 vm0 → NotFace (s.setVm vm0) y) (w3 : (Cond.selects C y z).before a0 Z = true) (w4 : (Cond.instanceMethod z).before a0 Z = true) (hy : y.cls ≠ "java/lang/invoke/MethodHandle" ∧ y.cls ≠ "java/lang/invoke/VarHandle") (E : Exa Z h a C)
    (hK : Bk l R p e below s args z 3 W (.ref a :: argsL).toArray h dc ds Z LC n0 Lc QH) (hsz : Ls.size = mx) (hpd : parseMethodDescriptor y.desc = some ⟨ps, r⟩) (hln : argsL.length = ps.length) (hW : (rest.map fun v => v.category).sum ≤ W) (hd : decode c.code pc = .ok (.invokevirtual index, 3)) (hc : k + dc ≤ R.cells) (hs : n + ds ≤ R.slots)
    (cont : ∀ T' h' v Lc', On p l e R s m args below meth c Z LC n0 T' h' (k + dc) (n + ds) Lc' → Grow Lc Lc' h.size → QH v h' Lc' → Aim p e below s CC SS n0 Q T' (mkF m (pc + 3) Ls (v.toList ++ rest))) : Aim p e below s CC SS n0 Q T (mkF m pc Ls (argsL.reverse ++ .ref a :: rest)) := by
  obtain ⟨L, vm0, X, eT, N, hS, hZ, A⟩ := P
  have hown' := ownAt hS hown
  obtain ⟨cq, kq, qa, qb, qc⟩ := isOf (s := s.setVm vm0) hZ eT E
  have hB := hK vm0 hZ A
  obtain ⟨v, vm1, ⟨T', L', k', n'⟩, -, X', hS', hgr, ⟨Lx, ⟨⟨Lc', hq, A', rel⟩, N'⟩, l', y', z'⟩, st'⟩ := X.virtualBackS hx (y := y) (z := z) hown' (mvT (s := s.setVm vm0) hZ w1) (mvT (s := s.setVm vm0) hZ w2) (nf vm0 hZ) (mvT (s := s.setVm vm0) hZ w3) (mvT (s := s.setVm vm0) hZ w4) hy hB qa qc (g := mkF m pc Ls (argsL.reverse ++ .ref a :: rest)) rfl (by rw [hml]; exact hsz) (Steps.refl _) (argsL := argsL) (rest := rest) (lenOf hpd hln) rfl (by show 2 * 0 + _ ≤ _; omega) hd (fun _ _ => ⟨rfl, eT, hc, hs⟩)
  dsimp only [Pt.U, Pt.locs, Pt.cells, Pt.slots] at X' l' y' z' st' hq A' hS' hgr
  subst l' y' z'
  have hS2 : s.Since T'.vm T'.heap.size := hS.trans hS' (by rw [← eT]; exact hgr)
  exact Aim.of (fun t kt => st'.trans kt) (cont T' _ v Lc' ⟨_, T'.vm, X', rfl, N.app N', hS2, State.Warmed39.trans (t := s.setVm vm0) hZ hS'.1, A'⟩ rel hq)
theorem Aim.callI {own C : String} {index count pc mx dc ds W : Nat} {y z : MethodName} {ps : List FieldType} {r : Option FieldType} {Ls : Array Slot} {a : Addr} {argsL rest : List Value} {ws : List Addr} (P : On p l e R s m args below meth c Z LC n0 T h k n Lc) (hx : p.tables.exec = Jvm.exec) (hZs : Z.Warmed39 s.vm) (hml : c.maxLocals = mx) (hown : s.vm.findClass own = some m.cls)
    (w1 : (Cond.methodLink own index y).before a0 Z = true) (w2 : (Cond.declares y).before a0 Z = true) (w5 : (Cond.interfaceMethod y.cls y.cls y.name y.desc).before a0 Z = true) (w3 : (Cond.selects C y z).before a0 Z = true) (w4 : (Cond.instanceMethod z).before a0 Z = true) (w6 : (Cond.publicMethod z).before a0 Z = true) (w7 : (Cond.unhidden C y.name y.desc).before a0 Z = true) (w8 : (Cond.castable C y.cls).before a0 Z = true) (hy : y.cls ≠ "java/lang/invoke/MethodHandle" ∧ y.cls ≠ "java/lang/invoke/VarHandle") (E : Exa Z h a C)
    (hK : ∀ vm0, Z.Warmed39 vm0 → Jvm.Y9.Bk l R p e below (s.setVm vm0) args z 5 W (.ref a :: argsL).toArray h dc ds n0 QN) (qk : ∀ v h', QN v h' → Keep h h' ws) (hnl : ∀ x ∈ ws, x ∉ Lc) (hsz : Ls.size = mx) (hpd : parseMethodDescriptor y.desc = some ⟨ps, r⟩) (hln : argsL.length = ps.length) (hW : (rest.map fun v => v.category).sum ≤ W) (hd : decode c.code pc = .ok (.invokeinterface index count, 5)) (hc : k + dc ≤ R.cells) (hs : n + ds ≤ R.slots)
    (cont : ∀ T' h' v, On p l e R s m args below meth c Z LC n0 T' h' (k + dc) (n + ds) Lc → QN v h' → Aim p e below s CC SS n0 Q T' (mkF m (pc + 5) Ls (v.toList ++ rest))) : Aim p e below s CC SS n0 Q T (mkF m pc Ls (argsL.reverse ++ .ref a :: rest)) := by
  obtain ⟨L, vm0, X, eT, N, hS, hZ, A⟩ := P
  have hown' := ownAt hS hown
  obtain ⟨cq, kq, qa, qb, qc⟩ := isOf (s := s.setVm vm0) hZ eT E
  have hB := hK vm0 hZ
  obtain ⟨v, vm1, ⟨T', L', k', n'⟩, -, X', ⟨Lc', ⟨hq, N'⟩, l', y', z'⟩, st'⟩ := X.interfaceBack hx (xi := y) (y := z) hown' (mvT (s := s.setVm vm0) hZ w1) (mvT (s := s.setVm vm0) hZ w2) (mvT (s := s.setVm vm0) hZ w5 (by simp [Cond.onTables, Cond.keepsFace, Cond.keeps, Cond.steady, Cond.faceAtom, hy.1, hy.2])) (mvT (s := s.setVm vm0) hZ w3) (mvT (s := s.setVm vm0) hZ w4) (mvT (s := s.setVm vm0) hZ w6) (mvT (s := s.setVm vm0) hZ w7) (mvT (s := s.setVm vm0) hZ w8) hy hB qa qb qc (g := mkF m pc Ls (argsL.reverse ++ .ref a :: rest)) rfl (by rw [hml]; exact hsz) (Steps.refl _) (argsL := argsL) (rest := rest) (lenOf hpd hln) rfl (by show 2 * 0 + _ ≤ _; omega) hd (fun _ _ => ⟨rfl, eT, hc, hs⟩)
  dsimp only [Pt.U, Pt.locs, Pt.cells, Pt.slots] at X' l' y' z' st' hq
  subst l' y' z'
  exact Aim.of (fun t kt => st'.trans kt) (cont T' _ v ⟨_, vm0, X', rfl, N.app N', sinceUp hS (qk _ _ hq).1, hZ, A.keep (qk _ _ hq) hnl⟩ hq)
theorem Aim.callIW {own C : String} {index count pc mx dc ds W : Nat} {y z : MethodName} {ps : List FieldType} {r : Option FieldType} {Ls : Array Slot} {a : Addr} {argsL rest : List Value} (P : On p l e R s m args below meth c Z LC n0 T h k n Lc) (hx : p.tables.exec = Jvm.exec) (hZs : Z.Warmed39 s.vm) (hml : c.maxLocals = mx) (hown : s.vm.findClass own = some m.cls)
    (w1 : (Cond.methodLink own index y).before a0 Z = true) (w2 : (Cond.declares y).before a0 Z = true) (w5 : (Cond.interfaceMethod y.cls y.cls y.name y.desc).before a0 Z = true) (w3 : (Cond.selects C y z).before a0 Z = true) (w4 : (Cond.instanceMethod z).before a0 Z = true) (w6 : (Cond.publicMethod z).before a0 Z = true) (w7 : (Cond.unhidden C y.name y.desc).before a0 Z = true) (w8 : (Cond.castable C y.cls).before a0 Z = true) (hy : y.cls ≠ "java/lang/invoke/MethodHandle" ∧ y.cls ≠ "java/lang/invoke/VarHandle") (E : Exa Z h a C)
    (hK : Bk l R p e below s args z 5 W (.ref a :: argsL).toArray h dc ds Z LC n0 Lc QH) (hsz : Ls.size = mx) (hpd : parseMethodDescriptor y.desc = some ⟨ps, r⟩) (hln : argsL.length = ps.length) (hW : (rest.map fun v => v.category).sum ≤ W) (hd : decode c.code pc = .ok (.invokeinterface index count, 5)) (hc : k + dc ≤ R.cells) (hs : n + ds ≤ R.slots)
    (cont : ∀ T' h' v Lc', On p l e R s m args below meth c Z LC n0 T' h' (k + dc) (n + ds) Lc' → Grow Lc Lc' h.size → QH v h' Lc' → Aim p e below s CC SS n0 Q T' (mkF m (pc + 5) Ls (v.toList ++ rest))) : Aim p e below s CC SS n0 Q T (mkF m pc Ls (argsL.reverse ++ .ref a :: rest)) := by
  obtain ⟨L, vm0, X, eT, N, hS, hZ, A⟩ := P
  have hown' := ownAt hS hown
  obtain ⟨cq, kq, qa, qb, qc⟩ := isOf (s := s.setVm vm0) hZ eT E
  have hB := hK vm0 hZ A
  obtain ⟨v, vm1, ⟨T', L', k', n'⟩, -, X', hS', hgr, ⟨Lx, ⟨⟨Lc', hq, A', rel⟩, N'⟩, l', y', z'⟩, st'⟩ := X.interfaceBackS hx (xi := y) (y := z) hown' (mvT (s := s.setVm vm0) hZ w1) (mvT (s := s.setVm vm0) hZ w2) (mvT (s := s.setVm vm0) hZ w5 (by simp [Cond.onTables, Cond.keepsFace, Cond.keeps, Cond.steady, Cond.faceAtom, hy.1, hy.2])) (mvT (s := s.setVm vm0) hZ w3) (mvT (s := s.setVm vm0) hZ w4) (mvT (s := s.setVm vm0) hZ w6) (mvT (s := s.setVm vm0) hZ w7) (mvT (s := s.setVm vm0) hZ w8) hy hB qa qb qc (g := mkF m pc Ls (argsL.reverse ++ .ref a :: rest)) rfl (by rw [hml]; exact hsz) (Steps.refl _) (argsL := argsL) (rest := rest) (lenOf hpd hln) rfl (by show 2 * 0 + _ ≤ _; omega) hd (fun _ _ => ⟨rfl, eT, hc, hs⟩)
  dsimp only [Pt.U, Pt.locs, Pt.cells, Pt.slots] at X' l' y' z' st' hq A' hS' hgr
  subst l' y' z'
  have hS2 : s.Since T'.vm T'.heap.size := hS.trans hS' (by rw [← eT]; exact hgr)
  exact Aim.of (fun t kt => st'.trans kt) (cont T' _ v Lc' ⟨_, T'.vm, X', rfl, N.app N', hS2, State.Warmed39.trans (t := s.setVm vm0) hZ hS'.1, A'⟩ rel hq)
end Base
end Jvm.Q9
namespace Jvm.Q9
open Sem ClassFile Op Lib Jvm.Stand Jvm.Free Jvm.LawKit Jvm.RoadKit Jvm.S9
section LitW
theorem Exa.alike {Z U : State} {h : Heap} {a : Addr} {C : String} (hal : Z.vm.Alike U.vm) (F : Exa Z h a C) : Exa U h a C := by
  obtain ⟨cell, k, h1, h2, h3, h4, h5⟩ := F
  obtain ⟨k', q1, q2⟩ := hal.2.2 _ _ h3
  exact ⟨cell, k', h1, by rw [hal.findClass]; exact h2, q1, h4, fun ho => by rw [q2] at ho ⊢; exact h5 ho⟩
theorem Fld.alike {Z U : State} {h : Heap} {a : Addr} {C f d : String} {v : Value} (hal : Z.vm.Alike U.vm) (F : Fld Z h a C f d v) : Fld U h a C f d v := by
  obtain ⟨cell, cf, k, i, fd, h1, h2, h3, h4, h5, h6, h7⟩ := F
  obtain ⟨k', q1, -⟩ := State.fieldFound?_setVm (s := Z) hal h2
  exact ⟨cell, cf, k', i, fd, h1, q1, h3, h4, h5, by rw [hal.assignable]; exact h6, h7⟩
theorem Arv.alike {Z U : State} {h : Heap} {a : Addr} {kk : ClassId} {ty : FieldType} {z : Int32} {vs : List Value} {d : Value} (hal : Z.vm.Alike U.vm) (F : Arv Z h a kk ty z vs d) : Arv U h a kk ty z vs d := by
  obtain ⟨c, ⟨h1, h2, h3⟩, r⟩ := F
  exact ⟨c, ⟨h1, State.isArrayOf_alike hal h2, h3⟩, r⟩
theorem Str.alike {Z U : State} {h : Heap} {x t : Addr} {kb : ClassId} {cs : List Int32} (hal : Z.vm.Alike U.vm) (F : Str Z h x t kb cs) : Str U h x t kb cs :=
  ⟨Exa.alike hal F.1, Fld.alike hal F.2.1, Fld.alike hal F.2.2.1, Arv.alike hal F.2.2.2.1, F.2.2.2.2⟩
theorem byte_code : ∀ k : Fin 256, (Int32.ofNat k.val).toInt8.toInt32 = Jvm.Lit.byteI k.val.toUInt16 ∧ ¬ Int32.ofNat k.val < 0 ∧ ¬ (255 : Int32) < Int32.ofNat k.val := by decide +kernel
theorem ofNat_clamp {n : Nat} (h : n ≤ 4000) : (Int32.ofNat n).toNatClampNeg = n ∧ ¬ Int32.ofNat n < 0 := by
  have e : (Int32.ofNat n).toInt = n := Int32.toInt_ofNat_of_lt (by omega)
  have z : (0 : Int32).toInt = 0 := by decide
  refine ⟨?_, fun q => ?_⟩
  · show (Int32.ofNat n).toInt.toNat = n
    rw [e]; rfl
  · rw [Int32.lt_iff_toInt_lt, e, z] at q; omega
theorem strOf {W : State} {lo hi : Nat} {a : Addr} {units : Array UInt16} {text : String} (H : SlIn lo hi W a units) (htext : utf16ToString? units = some text) (ht : ∀ c ∈ text.toList, c.toNat < 256) (h4 : text.toList.length ≤ 4000) :
    ∃ b kk, Str W W.heap a b kk (cod text) ∧ ((a < lo ∧ b < lo) ∨ (hi ≤ a ∧ hi ≤ b)) := by
  obtain ⟨q, cS, rfl, ⟨L1, hfS, hcS⟩, ⟨kS, k1, k2, k3⟩, hB, hby, hin⟩ := H
  obtain ⟨g1, g2, g3, ⟨cv, kv, iv, f1, f2⟩, ⟨cc, kc, ic, f3, f4⟩, g6, g7, g8, g9, g10, g11, g12, -⟩ := L1
  have hu := Jvm.ClassFile.units_of_text htext ht
  have hlat := Jvm.ClassFile.lat_of_text htext ht
  have hlen : units.size = text.toList.length := by rw [← Array.length_toList, hu, List.length_map]
  have hsl : q.SA.slots = units.map fun u => Value.int (Jvm.Lit.byteI u) := by rw [hby, Jvm.Free.SBG.stringBytes_lat hlat]; rfl
  have hvs : (cod text).map (fun c => Value.int (c.toInt8.toInt32)) = (units.map fun u => Value.int (Jvm.Lit.byteI u)).toList := by
    rw [Array.toList_map, hu]
    simp only [cod, List.map_map]
    refine List.map_congr_left fun c hc => ?_
    have := (byte_code ⟨c.toNat, ht c hc⟩).1
    simp only [Function.comp_apply]
    rw [this]
  have hcl : (cod text).length = text.toList.length := by simp [cod]
  refine ⟨q.sd, q.SA.cls, ⟨⟨q.sC, kS, g1, by rw [hcS]; exact hfS, by rw [hcS]; exact k1, g3, fun _ => k3⟩, ⟨q.sC, cv, kv, iv, q.fSV, g1, f1, g6, g2, g3, f2, g8⟩, ⟨q.sC, cc, kc, ic, q.fSC, g1, f3, g7, g2, g3, f4, g9⟩, ⟨q.SA, ⟨g10, g11, g12⟩, rfl, ?_, ?_, ?_, ?_⟩, ?_, by rw [hcl]; exact h4⟩, hin⟩
  · rw [hcl, (ofNat_clamp h4).1, hsl, Array.size_map, hlen]
  · rw [hcl]; exact (ofNat_clamp h4).2
  · intro j hj
    rw [hvs, hsl]
    rw [hsl] at hj
    rw [List.getD_eq_getElem?_getD, Array.getElem?_toList, Array.getElem?_eq_getElem hj]
    rfl
  · intro j hj
    rw [hvs]
    rw [hsl] at hj
    rw [List.getD_eq_getElem?_getD, Array.getElem?_toList, Array.getElem?_eq_getElem hj]
    simp only [Option.getD_some, Array.getElem_map]
    exact Jvm.Free.SBG.fits_of_int8 _
  · intro c hc
    simp only [cod, List.mem_map] at hc
    obtain ⟨d, hd, rfl⟩ := hc
    exact (byte_code ⟨d.toNat, ht d hd⟩).2
variable {p : Program} {l : Launch} {e : Env} {R : Room} {s : State} {m : MethodId} {args : Array Value} {below : List Frame} {meth : Method} {c : Code} {T : State} {h : Heap} {n0 k n : Nat} {Z : State} {a0 : Array Value} {LC : List (String × Nat × String) × (Array (Array UInt16 × Addr) → Prop)} {Lc : List Addr}
theorem resolved_found {vm : Vm} {text : String} {index : Nat} {cl : ClassId} {k k' : Class} {cf : ClassFile} {i : Nat} {units : Array UInt16} {a : Addr} (hW : Z.Warmed39 vm) (hk : Z.vm.classes[cl]? = some k) (hcf : k.cf = some cf) (hc : cf.constantPool[index]? = some (.string i)) (hu : cf.constantPool[i]? = some (.utf8 units)) (hnm : namesOf? cf.constantPool index = some (.string text))
    (ho : k.resolved[index]? = some none) (hk' : vm.classes[cl]? = some k') (hr : k'.resolved[index]? = some (some (.string a))) : vm.interned.find? (fun q => q.1 == units) = some (units, a) := by
  obtain ⟨k2, q1, -, -, ee, -⟩ := hW.2.2.2 _ k hk
  cases hk'.symm.trans q1
  rcases ee index with e0 | ⟨-, r, e1, hr' | ⟨a', t, si, us, e2, -, e3, e4, e5⟩⟩
  · rw [e0, ho] at hr; cases hr
  · exfalso
    cases r <;> simp [State.rightAt, hk, hcf, hnm] at hr'
  · subst e2
    rw [hr] at e1
    cases e1
    rw [hcf] at e3 e4
    have i1 : si = i := by simpa using e3.symm.trans hc
    subst i1
    have i2 : us = units := by simpa [ConstantPool.utf8?, hu] using e4.symm
    subst i2
    exact e5
theorem stays_open {vm : Vm} {text : String} {index : Nat} {cl : ClassId} {k k' : Class} {cf : ClassFile} (hW : s.WarmedH vm) (hk : s.vm.classes[cl]? = some k) (hcf : k.cf = some cf) (hnm : namesOf? cf.constantPool index = some (.string text)) (ho : k.resolved[index]? = some none) (hk' : vm.classes[cl]? = some k') : k'.resolved[index]? = some none := by
  obtain ⟨k2, q1, -, -, ee, -⟩ := hW.2.2 _ k hk
  cases hk'.symm.trans q1
  rcases ee index with e0 | ⟨-, r, -, hr'⟩
  · rw [e0]; exact ho
  · exfalso
    cases r <;> simp [State.rightAt, hk, hcf, hnm] at hr'
theorem ldcFound {locs : List Loc} (X : Stand p l e R s m args below meth c T locs k n) (hx : p.tables.exec = Jvm.exec) {text : String} {index pc : Nat} {Ls : Array Slot} {st : List Value} {kc : Class} {cf : ClassFile} {i : Nat} {units : Array UInt16} {a : Addr}
    (hk : s.vm.classes[m.cls]? = some kc) (hcf : kc.cf = some cf) (hc : cf.constantPool[index]? = some (.string i)) (hu : cf.constantPool[i]? = some (.utf8 units)) (hnm : namesOf? cf.constantPool index = some (.string text)) (ho : kc.resolved[index]? = some none)
    (hf : s.vm.interned.find? (fun q => q.1 == units) = some (units, a)) (hd : decode c.code pc = .ok (.ldc index, 2)) :
    ∃ T', Stand p l e R (s.setVm T'.vm) m args below meth c T' locs k n ∧ T'.heap = T.heap ∧ s.Since T'.vm T.heap.size ∧ T'.vm.interned = s.vm.interned ∧ ∀ t, Steps p.tables e below (T'.setTop (mkF m (pc + 2) Ls (.ref a :: st))) t → Steps p.tables e below (T.setTop (mkF m pc Ls st)) t := by
  obtain ⟨k', hk', he⟩ := X.warmed.alike.2.2 _ _ hk
  have hcf' : k'.cf = some cf := by rw [he]; exact hcf
  have ho' : k'.resolved[index]? = some none := stays_open X.warmed hk hcf hnm ho hk'
  have hf' : T.vm.interned.find? (fun q => q.1 == units) = some (units, a) := by rw [X.warmed.interned_eq]; exact hf
  have hW : s.Warmed39 (T.vm.noted m.cls index (.string a)) := X.warmed.wide.notedString hk (Or.inl ho) (text := text) (by rw [hcf]; exact hnm) (si := i) (by rw [hcf]; exact hc) (by rw [hcf]; simp [ConstantPool.utf8?, hu]) hf'
  refine ⟨T.setVm (T.vm.noted m.cls index (.string a)), X.retabled hW, rfl, ⟨hW, X.warmed.no_new_pair _⟩, X.warmed.interned_eq, fun t kt => ?_⟩
  jvm_step X.here [hx, hd, ldc.wp_string_found (e := e) (s := T) (f := mkF m pc Ls st) X.here.top hk' hcf' hc hu ho' hf']
  exact kt
def LitZ (Z : State) (c : String × Nat × String) : Prop := ∀ a, Lit Z c.1 c.2.1 a → ∃ b kk, Str Z Z.heap a b kk (cod c.2.2)
theorem lit_open {own : String} {index : Nat} {cl : ClassId} {k : Class} (hf : Z.vm.findClass own = some cl) (hk : Z.vm.classes[cl]? = some k) : (k.resolved[index]? = some none → Z.resolvedAt? own index = none) ∧ ∀ a, k.resolved[index]? = some (some (.string a)) → Lit Z own index a := by
  refine ⟨fun q => ?_, fun a q => ?_⟩
  · simp [State.resolvedAt?, hf, hk, q]
  · simp [Lit, State.resolvedAt?, hf, hk, q]
variable {CC SS : Nat} {Q : Option Value → Heap → Array (Array UInt16 × Addr) → Prop}
def Fnd (Z : State) (own : String) (index : Nat) (text : String) (it : Array (Array UInt16 × Addr)) : Prop := Z.resolvedAt? own index = none → ∀ units : Array UInt16, utf16ToString? units = some text → ∃ a, it.find? (fun q => q.1 == units) = some (units, a)
theorem On.weakTo {F : Array (Array UInt16 × Addr) → Prop} (P : On p l e R s m args below meth c Z (LC.1, F) n0 T h k n Lc) (q : ∀ it, F it → LC.2 it) : On p l e R s m args below meth c Z LC n0 T h k n Lc := by
  obtain ⟨L, vm0, X, eT, N, hS, hZ, A1, A2, A3⟩ := P
  exact ⟨L, vm0, X, eT, N, hS, hZ, A1, A2, q _ A3⟩
theorem units_eq {u v : Array UInt16} {text : String} (h1 : utf16ToString? u = some text) (h2 : utf16ToString? v = some text) (ht : ∀ c ∈ text.toList, c.toNat < 256) : u = v := by
  apply Array.ext'
  rw [Jvm.ClassFile.units_of_text h1 ht, Jvm.ClassFile.units_of_text h2 ht]
theorem Aim.ldcK {own text : String} {index pc : Nat} {Ls : Array Slot} {st : List Value} (P : On p l e R s m args below meth c Z LC n0 T h k n Lc) (hx : p.tables.exec = Jvm.exec) (hZs : Z.Warmed39 s.vm) (hown : s.vm.findClass own = some m.cls) (w : (Cond.stringLink own index text).before a0 Z = true) (wS : ∀ a ∈ Bundle.stringAtoms, a.before a0 Z = true) (hm : (own, index, text) ∈ LC.1)
    (ht : ∀ c ∈ text.toList, c.toNat < 256) (h4 : text.toList.length ≤ 4000) (G : LitZ Z (own, index, text)) (O : Old Z n0 h) (hold : ∀ (b : Addr) (cl : Cell), s.heap[b]? = some cl → h[b]? = some cl) (hd : decode c.code pc = .ok (.ldc index, 2)) {cap : Nat} (hcap : 4 * text.toList.length ≤ cap) (hbig : cap ≤ 536870912) (hc : k + 2 ≤ R.cells) (hs : n + (cap + 4) ≤ R.slots)
    (cont : ∀ T' h' a b kk Lc', On p l e R s m args below meth c Z (LC.1, Fnd Z own index text) n0 T' h' (k + 2) (n + (cap + 4)) Lc' → Keep h h' [] → Grow Lc Lc' h.size → Str Z h' a b kk (cod text) → (a < n0 ∨ a ∈ Lc') → (b < n0 ∨ b ∈ Lc') → Aim p e below s CC SS n0 Q T' (mkF m (pc + 2) Ls (.ref a :: st))) :
    Aim p e below s CC SS n0 Q T (mkF m pc Ls st) := by
  obtain ⟨L, vm0, X, eT, N, hS, hZ, A⟩ := P
  have hown' := ownAt hS hown
  have hownZ : Z.vm.findClass own = some m.cls := by rw [← hZ.alike.findClass]; exact hown'
  obtain ⟨kz, cf, i, units, hkz, hcf, hcp, hu, hnm, hdec, hres⟩ := Cond.stringLink_spec hownZ w
  rcases hres with hopen | ⟨a, hra⟩
  · have hoZ := (lit_open hownZ hkz).1 hopen
    have w' : (Cond.stringLink own index text).before args (s.setVm vm0) = true := mvS hZ w
    obtain ⟨kb, cf', i', units', hkb, hcf', hcp', hu', hnm', hdec', hres'⟩ := Cond.stringLink_spec (s := s.setVm vm0) hown' w'
    obtain ⟨kz', hkz', ekz⟩ := hZ.alike.2.2 _ _ hkz
    have ek : kz' = kb := Option.some.inj (hkz'.symm.trans hkb)
    have ecf : cf' = cf := by rw [← ek, ekz] at hcf'; exact Option.some.inj (hcf'.symm.trans hcf)
    subst ecf
    have ei : i' = i := by simpa using hcp'.symm.trans hcp
    subst ei
    have eu : units' = units := by simpa using hu'.symm.trans hu
    subst eu
    rcases hres' with ho | ⟨a, hra⟩
    · cases hf : vm0.interned.find? (fun q => q.1 == units') with
      | some pr =>
        obtain ⟨u, a⟩ := pr
        have e1 : u = units' := by simpa using Array.find?_some hf
        subst e1
        obtain ⟨b, kk, F, ha, hb⟩ := A.2.1 _ hm hoZ _ a hdec hf
        obtain ⟨T', X', e', hS', ei, st'⟩ := ldcFound (s := s.setVm vm0) (T := T) X hx (Ls := Ls) (st := st) hkb hcf' hcp hu hnm' ho hf hd
        refine Aim.of st' (cont T' h a b kk Lc ⟨L, T'.vm, X'.more (by omega) (by omega), e'.trans eT, N, hS.trans (by rw [eT] at hS'; exact hS') (Nat.le_refl _), State.Warmed39.trans (t := s.setVm vm0) hZ hS'.1, ?_⟩ (Keep.refl h []) (Grow.refl _ _) F (Or.inr ha) (Or.inr hb))
        rw [ei]; exact ⟨A.1, A.2.1, fun _ v hv => ⟨a, units_eq hdec hv ht ▸ hf⟩⟩
      | none =>
        have hH : ConstHeldL (s.setVm vm0) own index := by
          intro c1 k1 cf1 i1 u1 a1 q1 q2 q3 q4 q5 q6
          cases hown'.symm.trans q1
          cases hkb.symm.trans q2
          cases hcf'.symm.trans q3
          have j1 : i1 = i' := by simpa using q4.symm.trans hcp
          subst j1
          have j2 : u1 = units' := by simpa using q5.symm.trans hu
          subst j2
          rcases q6 with q6 | ⟨-, q6⟩
          · rw [ho] at q6; cases q6
          · rw [show (s.setVm vm0).vm.interned = vm0.interned from rfl, hf] at q6; cases q6
        have hAt : ∀ a ∈ Bundle.stringAtoms, a.before args (s.setVm vm0) = true := fun d hd => by
          have q := wS d hd
          simp only [Bundle.stringAtoms, List.mem_cons, List.not_mem_nil, or_false] at hd
          rcases hd with rfl | rfl | rfl | rfl | rfl | rfl | rfl
          · exact mv (s := s.setVm vm0) hZ q
          · exact mv (s := s.setVm vm0) hZ q
          · exact mvA (s := s.setVm vm0) hZ q
          · exact mv (s := s.setVm vm0) hZ q
          · exact mv (s := s.setVm vm0) hZ q
          · exact mv (s := s.setVm vm0) hZ q
          · exact mv (s := s.setVm vm0) hZ q
        obtain ⟨a, T', X', hS', ⟨k2, hk2, hr2⟩, hb, -, hint, ⟨u2, hd2, hin⟩, st'⟩ := X.ldcColdF (fun b cl q => by rw [eT]; exact hold b cl q) hx hown' w' hAt hH (fun u q => Jvm.ClassFile.lat_of_text q ht) (g := mkF m pc Ls st) rfl hd hcap hbig hc hs
        have hW' : Z.Warmed39 T'.vm := State.Warmed39.trans (t := s.setVm vm0) hZ hS'.1
        obtain ⟨b, kk, F0, hpos⟩ := strOf hin hd2 ht h4
        have F : Str Z T'.heap a b kk (cod text) := Str.alike hW'.alike.symm F0
        have hfa : T'.vm.interned.find? (fun q => q.1 == units') = some (units', a) := resolved_found (Z := s.setVm vm0) (vm := T'.vm) hS'.1 hkb hcf' hcp hu hnm' ho hk2 hr2
        have hE : Ext h T'.heap := by subst eT; exact ext_of hb
        have hK : Keep h T'.heap [] := (Keep.refl h []).ext hE
        have hTi : T.vm.interned = vm0.interned := X.warmed.interned_eq
        have hnew : h.size ≤ a ∧ h.size ≤ b := by
          have hlo : s.heap.size ≤ h.size := by have := X.same.2.1; rw [← eT]; exact this
          rcases hpos with ⟨q1, q2⟩ | ⟨q1, q2⟩
          · exfalso
            rcases hint with q | ⟨u3, a3, -, q⟩
            · rw [q, hTi, hf] at hfa; cases hfa
            · obtain ⟨-, hB⟩ := hS'
              have hsz : T'.vm.interned[vm0.interned.size]? = some (u3, a3) := by rw [q, hTi]; simp
              have := hB vm0.interned.size (u3, a3) (Nat.le_refl _) hsz
              rw [q, hTi, Array.find?_push, hf] at hfa
              simp only [Option.none_or] at hfa
              split at hfa
              · cases hfa
                exact absurd this.1 (Nat.not_le_of_lt q1)
              · cases hfa
          · subst eT; exact ⟨q1, q2⟩
        refine Aim.of st' (cont T' _ a b kk (a :: b :: Lc) ⟨L, T'.vm, X', rfl, N, hS.trans hS' hE.1, hW', ?_, ?_, fun _ v hv => ⟨a, units_eq hdec hv ht ▸ hfa⟩⟩ hK ?_ F (Or.inr (List.mem_cons_self ..)) (Or.inr (List.mem_cons_of_mem _ (List.mem_cons_self ..))))
        · intro x hx
          rcases List.mem_cons.mp hx with rfl | hx
          · exact F.lt
          · rcases List.mem_cons.mp hx with rfl | hx
            · exact F.ltb
            · exact Nat.lt_of_lt_of_le (A.1 x hx) hE.1
        · intro c1 hc1 ho1 u1 a1 hu1 hf1
          have old' : vm0.interned.find? (fun q => q.1 == u1) = some (u1, a1) → ∃ b2 kk, Str Z T'.heap a1 b2 kk (cod c1.2.2) ∧ a1 ∈ a :: b :: Lc ∧ b2 ∈ a :: b :: Lc := fun q => by
            obtain ⟨b1, kk1, F1, m1, m2⟩ := A.2.1 c1 hc1 ho1 u1 a1 hu1 q
            exact ⟨b1, kk1, F1.keep hK nin0 nin0, List.mem_cons_of_mem _ (List.mem_cons_of_mem _ m1), List.mem_cons_of_mem _ (List.mem_cons_of_mem _ m2)⟩
          rcases hint with q | ⟨u3, a3, hu3, q⟩
          · rw [q, hTi] at hf1
            exact old' hf1
          · by_cases he : u3 = u1
            · subst he
              have et : c1.2.2 = text := Option.some.inj (hu1.symm.trans hu3)
              have e5 : u3 = units' := by
                apply Array.ext'
                rw [Jvm.ClassFile.units_of_text hu3 ht, Jvm.ClassFile.units_of_text hdec ht]
              subst e5
              have ea : a1 = a := by have := hf1.symm.trans hfa; simpa using this
              subst ea
              exact ⟨b, kk, et ▸ F, List.mem_cons_self .., List.mem_cons_of_mem _ (List.mem_cons_self ..)⟩
            · rw [q, hTi, Array.find?_push] at hf1
              cases hq : vm0.interned.find? (fun q => q.1 == u1) with
              | none => rw [hq] at hf1; simp [he] at hf1
              | some pr => rw [hq] at hf1; simp at hf1; subst hf1; exact old' hq
        · refine ⟨fun x hx => ?_, fun x hx => List.mem_cons_of_mem _ (List.mem_cons_of_mem _ hx)⟩
          rcases List.mem_cons.mp hx with rfl | hx
          · exact Or.inr hnew.1
          · rcases List.mem_cons.mp hx with rfl | hx
            · exact Or.inr hnew.2
            · exact Or.inl hx
    · have hf := resolved_found hZ hkz hcf hcp hu hnm hopen hkb hra
      obtain ⟨b, kk, F, ha, hb⟩ := A.2.1 _ hm hoZ _ a hdec hf
      have hL : Lit (s.setVm vm0) own index a := (lit_open (Z := s.setVm vm0) hown' hkb).2 a hra
      exact Aim.of (fun t kt => ldcAgain X hx hZ hown' w hL (g := mkF m pc Ls st) rfl hd t kt) (cont T h a b kk Lc ⟨L, vm0, X.more (by omega) (by omega), eT, N, hS, hZ, A.1, A.2.1, fun _ v hv => ⟨a, units_eq hdec hv ht ▸ hf⟩⟩ (Keep.refl h []) (Grow.refl _ _) F (Or.inr ha) (Or.inr hb))
  · have hL : Lit Z own index a := (lit_open hownZ hkz).2 a hra
    obtain ⟨b, kk, F⟩ := G a hL
    have hK : Keep Z.heap h [] := (Keep.refl _ []).ext O.2
    have hn : Z.heap.size = n0 := O.1
    exact Aim.of (fun t kt => ldcR (s := s.setVm vm0) X hx hZ hown' (refOfLit w hL) hL (g := mkF m pc Ls st) rfl hd t kt) (cont T h a b kk Lc ⟨L, vm0, X.more (by omega) (by omega), eT, N, hS, hZ, A.1, A.2.1, fun q => by rw [show Z.resolvedAt? own index = some (.string a) from hL] at q; cases q⟩ (Keep.refl h []) (Grow.refl _ _) (F.keep hK nin0 nin0) (Or.inl (hn ▸ F.lt)) (Or.inl (hn ▸ F.ltb)))
theorem Aim.ldcL {own text : String} {index pc : Nat} {Ls : Array Slot} {st : List Value} (P : On p l e R s m args below meth c Z LC n0 T h k n Lc) (hx : p.tables.exec = Jvm.exec) (hZs : Z.Warmed39 s.vm) (hown : s.vm.findClass own = some m.cls) (w : (Cond.stringLink own index text).before a0 Z = true) (wS : ∀ a ∈ Bundle.stringAtoms, a.before a0 Z = true) (hm : (own, index, text) ∈ LC.1)
    (ht : ∀ c ∈ text.toList, c.toNat < 256) (h4 : text.toList.length ≤ 4000) (G : LitZ Z (own, index, text)) (O : Old Z n0 h) (hold : ∀ (b : Addr) (cl : Cell), s.heap[b]? = some cl → h[b]? = some cl) (hd : decode c.code pc = .ok (.ldc index, 2)) (hT : ∀ it, LC.2 it) {cap : Nat} (hcap : 4 * text.toList.length ≤ cap) (hbig : cap ≤ 536870912) (hc : k + 2 ≤ R.cells) (hs : n + (cap + 4) ≤ R.slots)
    (cont : ∀ T' h' a b kk Lc', On p l e R s m args below meth c Z LC n0 T' h' (k + 2) (n + (cap + 4)) Lc' → Keep h h' [] → Grow Lc Lc' h.size → Str Z h' a b kk (cod text) → (a < n0 ∨ a ∈ Lc') → (b < n0 ∨ b ∈ Lc') → Aim p e below s CC SS n0 Q T' (mkF m (pc + 2) Ls (.ref a :: st))) :
    Aim p e below s CC SS n0 Q T (mkF m pc Ls st) :=
  Aim.ldcK P hx hZs hown w wS hm ht h4 G O hold hd hcap hbig hc hs fun T' h' a b kk Lc' P' => cont T' h' a b kk Lc' (P'.weakTo fun it _ => hT it)
def LitW (Z : State) (a0 : Array Value) (c : String × Nat × String) : Prop := (Cond.stringLink c.1 c.2.1 c.2.2).before a0 Z = true ∧ (∀ d ∈ c.2.2.toList, d.toNat < 256) ∧ c.2.2.toList.length ≤ 4000 ∧ ConstHeldL Z c.1 c.2.1 ∧ ∃ cl, Z.vm.findClass c.1 = some cl
theorem own_found {own text : String} {index : Nat} (w : (Cond.stringLink own index text).before a0 Z = true) : ∃ cl, Z.vm.findClass own = some cl := by
  cases hq : Z.vm.findClass own with
  | some c => exact ⟨c, rfl⟩
  | none => simp [Cond.before, Cond.holds, Cond.value, hq] at w
theorem litz_start {c : String × Nat × String} (H : LitW Z a0 c) : LitZ Z c := by
  intro a hL
  obtain ⟨w, ht, h4, hH, cl, hcl⟩ := H
  obtain ⟨k, cf, i, units, hk, hcf, hp, hu, -, hdec, hres⟩ := Cond.stringLink_spec hcl w
  have hr : k.resolved[c.2.1]? = some (some (.string a)) := by
    rcases hres with q | ⟨a', q⟩
    · exfalso
      have := (lit_open (Z := Z) hcl hk).1 q
      rw [Lit, this] at hL; cases hL
    · have := (lit_open (Z := Z) hcl hk).2 a' q
      rw [Lit] at hL this
      rw [hL] at this
      cases this; exact q
  obtain ⟨b, kk, F, -⟩ := strOf ((hH cl k cf i units a hcl hk hcf hp hu (Or.inl hr)).movedIn Z.heap.size (Vm.Alike.refl _) (fun _ _ q => q)) hdec ht h4
  exact ⟨b, kk, F⟩
theorem ha_start (hT : ∀ it, LC.2 it) (H : ∀ c ∈ LC.1, LitW Z a0 c) : HA Z LC Z.vm.interned Z.heap (List.range Z.heap.size) := by
  refine ⟨fun x hx => List.mem_range.mp hx, fun c hc ho units a hu hf => ?_, hT _⟩
  obtain ⟨w, ht, h4, hH, cl, hcl⟩ := H c hc
  obtain ⟨k, cf, i, units', hk, hcf, hp, hu', -, hdec, hres⟩ := Cond.stringLink_spec hcl w
  have e5 : units' = units := by
    apply Array.ext'
    rw [Jvm.ClassFile.units_of_text hu ht, Jvm.ClassFile.units_of_text hdec ht]
  subst e5
  have hr : k.resolved[c.2.1]? = some none := by
    rcases hres with q | ⟨a', q⟩
    · exact q
    · have := (lit_open (Z := Z) hcl hk).2 a' q
      rw [Lit, ho] at this; cases this
  obtain ⟨b, kk, F, -⟩ := strOf ((hH cl k cf i units' a hcl hk hcf hp hu' (Or.inr ⟨hr, hf⟩)).movedIn Z.heap.size (Vm.Alike.refl _) (fun _ _ q => q)) hdec ht h4
  exact ⟨b, kk, F, List.mem_range.mpr F.lt, List.mem_range.mpr F.ltb⟩
end LitW
end Jvm.Q9
namespace Jvm.Q9
theorem Aim.imp {p : Program} {e : Env} {below : List Frame} {s : State} {CC SS n0 : Nat} {Q Q' : Option Value → Heap → Array (Array UInt16 × Addr) → Prop} {T : State} {g : JFrame} (a : Aim p e below s CC SS n0 Q' T g) (q : ∀ v h it, Q' v h it → Q v h it) : Aim p e below s CC SS n0 Q T g := by
  obtain ⟨s2, o, h1, h2, h3, v, L, h4, ⟨h5, h6⟩, h7⟩ := a; exact ⟨s2, o, h1, h2, h3, v, L, h4, ⟨q _ _ _ h5, h6⟩, h7⟩
end Jvm.Q9
/- laws to paste: Road.backV (cut by pick.py; bodies as the Statement names them) -/
namespace Jvm.Pilot.@@N@@
namespace StrChars
open Jvm Sem ClassFile Op Lib Jvm.Stand Jvm.Free.XT Jvm.Free.ALB Jvm.Free.JM Jvm.Free
open Jvm.Lib.Cold (StaticIs)
def Ch (a : Addr) (A : Cell) (U : State) : Prop := Arr .char a A U ∧ Typed .char A
theorem Ch.mv {a : Addr} {A : Cell} {U U' : State} (h : Ch a A U) (hal : U.vm.Alike U'.vm) (hh : U'.heap = U.heap) : Ch a A U' := ⟨h.1.mv hal hh, h.2⟩
theorem Ch.keep {a : Addr} {A : Cell} {U U' : State} (h : Ch a A U) (hal : U.vm.Alike U'.vm) (hk : U'.heap[a]? = some A) : Ch a A U' := ⟨h.1.keep hal hk, h.2⟩
def cv (A : Cell) (i : Nat) : Int32 := match A.slots[i]? with | some (.int x) => x | _ => 0
theorem Ch.get {a : Addr} {A : Cell} {U : State} (h : Ch a A U) {i : Nat} (hi : i < A.slots.size) : A.slots[i]? = some (.int (cv A i)) := by
  have e := Array.getElem?_eq_getElem hi
  have f := h.2 i _ e
  unfold cv; rw [e]
  generalize A.slots[i] = v at f
  cases v <;> simp [fits] at f ⊢
def lo8 (x : Int32) : Int32 := x.toInt8.toInt32
theorem fits_lo8 (y : Int32) : fits .byte (.int (lo8 y)) = true := by
  have h1 := y.toInt8.le_toInt
  have h2 := y.toInt8.toInt_lt
  simp only [lo8, fits, Bool.and_eq_true, decide_eq_true_eq, Int32.le_iff_toInt_le, Int8.toInt_toInt32, show (-128 : Int32).toInt = -128 from by decide, show (127 : Int32).toInt = 127 from by decide]
  omega
def Laid (A A' : Cell) (lo hi : Nat) (f : Nat → Value) : Prop := A'.cls = A.cls ∧ A'.vm = A.vm ∧ A'.slots.size = A.slots.size ∧ ∀ i, A'.slots[i]? = if lo ≤ i ∧ i < hi then some (f i) else A.slots[i]?
theorem Laid.zero (A : Cell) (lo : Nat) (f : Nat → Value) : Laid A A lo (lo + 0) f := ⟨rfl, rfl, rfl, fun i => by rw [if_neg (by omega)]⟩
theorem Laid.step {A Ak : Cell} {lo k : Nat} {f : Nat → Value} {v : Value} (h : Laid A Ak lo k f) (hlo : lo ≤ k) (hk : k < Ak.slots.size) (hv : v = f k) : Laid A (Ak.setSlot k v) lo (k + 1) f := by
  refine ⟨h.1, h.2.1, by simpa [Cell.setSlot] using h.2.2.1, fun i => ?_⟩
  by_cases e : k = i
  · subst e; rw [Cell.slots_setSlot_self v hk, if_pos (by omega), hv]
  · rw [Cell.slots_setSlot_ne v e, h.2.2.2 i]
    by_cases q : lo ≤ i ∧ i < k
    · rw [if_pos q, if_pos (by omega)]
    · rw [if_neg q, if_neg (by omega)]
def U16 : String := "java/lang/StringUTF16"
namespace Cmp5
def yN : MethodName := ⟨"java/lang/StringUTF16", "compress", "([CI[BII)I"⟩
abbrev yB : ByteArray := jdk_52_method_21_code
theorem d0 : decode yB 0 = .ok (.iconst 0, 1) := by decide +kernel
theorem d1 : decode yB 1 = .ok (.istore 5, 2) := by decide +kernel
theorem d3 : decode yB 3 = .ok (.iload 5, 2) := by decide +kernel
theorem d5 : decode yB 5 = .ok (.iload 4, 2) := by decide +kernel
theorem d7 : decode yB 7 = .ok (.if_icmp (.ge) 37, 3) := by decide +kernel
theorem d10 : decode yB 10 = .ok (.aload_n 0, 1) := by decide +kernel
theorem d11 : decode yB 11 = .ok (.iload_n 1, 1) := by decide +kernel
theorem d12 : decode yB 12 = .ok (.caload, 1) := by decide +kernel
theorem d13 : decode yB 13 = .ok (.istore 6, 2) := by decide +kernel
theorem d15 : decode yB 15 = .ok (.iload 6, 2) := by decide +kernel
theorem d17 : decode yB 17 = .ok (.sipush 255, 3) := by decide +kernel
theorem d20 : decode yB 20 = .ok (.if_icmp (.le) 6, 3) := by decide +kernel
theorem d26 : decode yB 26 = .ok (.aload_n 2, 1) := by decide +kernel
theorem d27 : decode yB 27 = .ok (.iload_n 3, 1) := by decide +kernel
theorem d28 : decode yB 28 = .ok (.iload 6, 2) := by decide +kernel
theorem d30 : decode yB 30 = .ok (.i2b, 1) := by decide +kernel
theorem d31 : decode yB 31 = .ok (.bastore, 1) := by decide +kernel
theorem d32 : decode yB 32 = .ok (.iinc 1 1, 3) := by decide +kernel
theorem d35 : decode yB 35 = .ok (.iinc 3 1, 3) := by decide +kernel
theorem d38 : decode yB 38 = .ok (.iinc 5 1, 3) := by decide +kernel
theorem d41 : decode yB 41 = .ok (.goto (-38), 3) := by decide +kernel
theorem d44 : decode yB 44 = .ok (.iload 4, 2) := by decide +kernel
theorem d46 : decode yB 46 = .ok (.ireturn, 1) := by decide +kernel
def site : List Cond := []
def tab : Cond := tabOf yN yB 7 (some .int) site
def P (b : Addr) (A : Cell) (d : Addr) (B : Cell) (o q len : Nat) (args : Array Value) (s : State) : Prop := args = #[.ref b, .int (Int32.ofNat o), .ref d, .int (Int32.ofNat q), .int (Int32.ofNat len)] ∧ Ch b A s ∧ Arr .byte d B s ∧ b ≠ d ∧ o + len ≤ A.slots.size ∧ q + len ≤ B.slots.size ∧ ∀ i, i < len → ¬ 255 < cv A (o + i)
def E (b : Addr) (A : Cell) (d : Addr) (B : Cell) (o q len : Nat) (r : Option Value) (s u : State) : Prop := r = some (.int (Int32.ofNat len)) ∧ ∃ B', Put d B' s u ∧ Laid B B' q (q + len) (fun j => Value.int (lo8 (cv A (o + (j - q)))))
theorem law (l : Launch) (b : Addr) (A : Cell) (d : Addr) (B : Cell) (o q len : Nat) : Law l yN 5 5 0 0 yB 7 (some .int) site (P b A d B o q len) (E b A d B o q len) (copyLocs d q len) 0 0 := by
  refine Law.of_walk (plainFor_of_name (by decide +kernel)) (by decide +kernel) (by decide +kernel) (by decide) (fun _ _ h => by rw [h.1]; rfl) (fun _ U U' hal hh h => ⟨h.1, h.2.1.mv hal hh, h.2.2.1.mv hal hh, h.2.2.2⟩) (fun r U U' V V' h1 hal h2 h => ⟨h.1, h.2.elim fun B' q => ⟨B', q.1.mv h1 h2, q.2⟩⟩) ?_
  intro p e s m args below meth c s₁ X0 hexec hbytes hml hret hlk hnm hown hh0 W hP
  obtain ⟨rfl, hA, hB, hne, l1, l2, hp⟩ := hP
  have c1 : Steps p.tables e below (s₁.setTop (entryFrame m #[.ref b, .int (Int32.ofNat o), .ref d, .int (Int32.ofNat q), .int (Int32.ofNat len)] 7)) (s₁.setTop (mkF m 0 #[.val (.ref b), .val (.int (Int32.ofNat o)), .val (.ref d), .val (.int (Int32.ofNat q)), .val (.int (Int32.ofNat len)), .unset, .unset] [])) := entry rfl
  have hA0 := hA.1.mv X0.warmed.alike hh0
  have hB0 := hB.mv X0.warmed.alike hh0
  have a31 := hA.1.2.2.2
  have c2 : Steps p.tables e below (s₁.setTop (entryFrame m #[.ref b, .int (Int32.ofNat o), .ref d, .int (Int32.ofNat q), .int (Int32.ofNat len)] 7)) (s₁.setTop (mkF m 3 #[.val (.ref b), .val (.int (Int32.ofNat o)), .val (.ref d), .val (.int (Int32.ofNat q)), .val (.int (Int32.ofNat len)), .val (.int 0), .unset] [])) := c1.trans (by
    refine iconstV X0.here hexec rfl 0 (hb hbytes d0) (by decide) ?_
    refine XS.istore X0.here hexec rfl (hb hbytes d1) rfl rfl ?_
    exact Steps.refl _)
  have loop : ∀ (r i : Nat), i + r = len → ∀ (z : Slot), (z = .unset ∨ ∃ w, z = .val w ∧ w.category = 1) → ∀ (Tl : State) (Bk : Cell), Stand p l e { frames := 0, locals := 0, cells := 0, slots := 0 } s m #[.ref b, .int (Int32.ofNat o), .ref d, .int (Int32.ofNat q), .int (Int32.ofNat len)] below meth c Tl ([] ++ copyLocs d q i) 0 0 → Put d Bk s₁ Tl → Laid B Bk q (q + i) (fun j => Value.int (lo8 (cv A (o + (j - q))))) →
      Steps p.tables e below (s₁.setTop (entryFrame m #[.ref b, .int (Int32.ofNat o), .ref d, .int (Int32.ofNat q), .int (Int32.ofNat len)] 7)) (Tl.setTop (mkF m 3 #[.val (.ref b), .val (.int (Int32.ofNat (o + i))), .val (.ref d), .val (.int (Int32.ofNat (q + i))), .val (.int (Int32.ofNat len)), .val (.int (Int32.ofNat i)), z] [])) → ∃ (T' : State) (B' : Cell) (z' : Slot), Stand p l e { frames := 0, locals := 0, cells := 0, slots := 0 } s m #[.ref b, .int (Int32.ofNat o), .ref d, .int (Int32.ofNat q), .int (Int32.ofNat len)] below meth c T' ([] ++ copyLocs d q len) 0 0 ∧ Put d B' s₁ T' ∧ Laid B B' q (q + len) (fun j => Value.int (lo8 (cv A (o + (j - q))))) ∧
      Steps p.tables e below (s₁.setTop (entryFrame m #[.ref b, .int (Int32.ofNat o), .ref d, .int (Int32.ofNat q), .int (Int32.ofNat len)] 7)) (T'.setTop (mkF m 3 #[.val (.ref b), .val (.int (Int32.ofNat (o + len))), .val (.ref d), .val (.int (Int32.ofNat (q + len))), .val (.int (Int32.ofNat len)), .val (.int (Int32.ofNat len)), z'] [])) := by
    intro r
    induction r with
    | zero =>
      intro i hi z hz Tl Bk Xl pl fl cl
      have hil : i = len := by omega
      rw [hil] at Xl fl cl
      exact ⟨Tl, Bk, z, Xl, pl, fl, cl⟩
    | succ r ih =>
      intro i hi z hz Tl Bk Xl pl fl cl
      have all := X0.warmed.alike.symm.trans Xl.warmed.alike
      have hAl := hA0.keep all (pl.other hne hA0.1)
      have hBk := hB0.like all pl.1 fl.1 fl.2.1 fl.2.2.1
      have hlt : q + i < Bk.slots.size := by rw [fl.2.2.1]; omega
      have c3 : Steps p.tables e below (s₁.setTop (entryFrame m #[.ref b, .int (Int32.ofNat o), .ref d, .int (Int32.ofNat q), .int (Int32.ofNat len)] 7)) (Tl.setTop (mkF m 12 #[.val (.ref b), .val (.int (Int32.ofNat (o + i))), .val (.ref d), .val (.int (Int32.ofNat (q + i))), .val (.int (Int32.ofNat len)), .val (.int (Int32.ofNat i)), z] [.int (Int32.ofNat (o + i)), .ref b])) := cl.trans (by
        refine XS.iload Xl.here hexec rfl (hb hbytes d3) rfl ?_
        refine XS.iload Xl.here hexec rfl (hb hbytes d5) rfl ?_
        refine XS.icmpNo Xl.here hexec rfl (hb hbytes d7) rfl (ii_ge_f (lt32 (by omega) (by omega))) ?_
        refine XS.aloadN Xl.here hexec rfl (hb hbytes d10) rfl rfl ?_
        refine XS.iloadN Xl.here hexec rfl (hb hbytes d11) rfl ?_
        exact Steps.refl _)
      have c4 : Steps p.tables e below (s₁.setTop (entryFrame m #[.ref b, .int (Int32.ofNat o), .ref d, .int (Int32.ofNat q), .int (Int32.ofNat len)] 7)) (Tl.setTop (mkF m 13 #[.val (.ref b), .val (.int (Int32.ofNat (o + i))), .val (.ref d), .val (.int (Int32.ofNat (q + i))), .val (.int (Int32.ofNat len)), .val (.int (Int32.ofNat i)), z] [.int (cv A (o + i))])) := c3.trans (by
        refine Xl.aget hexec hAl rfl (hA.get (i := o + i) (by omega)) rfl rfl (hb hbytes d12) ?_
        exact Steps.refl _)
      have c5 : Steps p.tables e below (s₁.setTop (entryFrame m #[.ref b, .int (Int32.ofNat o), .ref d, .int (Int32.ofNat q), .int (Int32.ofNat len)] 7)) (Tl.setTop (mkF m 15 #[.val (.ref b), .val (.int (Int32.ofNat (o + i))), .val (.ref d), .val (.int (Int32.ofNat (q + i))), .val (.int (Int32.ofNat len)), .val (.int (Int32.ofNat i)), .val (.int (cv A (o + i)))] [])) := c4.trans (by
        refine XS.istoreS Xl.here hexec rfl (hb hbytes d13) rfl rfl hz ?_
        exact Steps.refl _)
      have c6 : Steps p.tables e below (s₁.setTop (entryFrame m #[.ref b, .int (Int32.ofNat o), .ref d, .int (Int32.ofNat q), .int (Int32.ofNat len)] 7)) (Tl.setTop (mkF m 31 #[.val (.ref b), .val (.int (Int32.ofNat (o + i))), .val (.ref d), .val (.int (Int32.ofNat (q + i))), .val (.int (Int32.ofNat len)), .val (.int (Int32.ofNat i)), .val (.int (cv A (o + i)))] [.int (lo8 (cv A (o + i))), .int (Int32.ofNat (q + i)), .ref d])) := c5.trans (by
        refine XS.iload Xl.here hexec rfl (hb hbytes d15) rfl ?_
        refine sipushV Xl.here hexec rfl 255 (hb hbytes d17) (by decide) ?_
        refine XS.icmpYes Xl.here hexec rfl (pc0 := 20) rfl (hb hbytes d20) rfl (ii_le_t (hp i (by omega))) (by decide) rfl ?_
        refine XS.aloadN Xl.here hexec rfl (hb hbytes d26) rfl rfl ?_
        refine XS.iloadN Xl.here hexec rfl (hb hbytes d27) rfl ?_
        refine XS.iload Xl.here hexec rfl (hb hbytes d28) rfl ?_
        refine i2b Xl.here hexec rfl (hb hbytes d30) rfl ?_
        exact Steps.refl _)
      obtain ⟨T7, X7, p7, st7⟩ := Xl.aput hexec hBk rfl hlt rfl (fits_lo8 (cv A (o + i))) (g := (mkF m 31 #[.val (.ref b), .val (.int (Int32.ofNat (o + i))), .val (.ref d), .val (.int (Int32.ofNat (q + i))), .val (.int (Int32.ofNat len)), .val (.int (Int32.ofNat i)), .val (.int (cv A (o + i)))] [.int (lo8 (cv A (o + i))), .int (Int32.ofNat (q + i)), .ref d])) rfl (rest := []) rfl (hb hbytes d31)
      have c8 : Steps p.tables e below (s₁.setTop (entryFrame m #[.ref b, .int (Int32.ofNat o), .ref d, .int (Int32.ofNat q), .int (Int32.ofNat len)] 7)) (T7.setTop (mkF m 32 #[.val (.ref b), .val (.int (Int32.ofNat (o + i))), .val (.ref d), .val (.int (Int32.ofNat (q + i))), .val (.int (Int32.ofNat len)), .val (.int (Int32.ofNat i)), .val (.int (cv A (o + i)))] [])) := c6.trans (st7 _ (Steps.refl _))
      have c9 : Steps p.tables e below (s₁.setTop (entryFrame m #[.ref b, .int (Int32.ofNat o), .ref d, .int (Int32.ofNat q), .int (Int32.ofNat len)] 7)) (T7.setTop (mkF m 3 #[.val (.ref b), .val (.int (Int32.ofNat (o + i) + 1)), .val (.ref d), .val (.int (Int32.ofNat (q + i) + 1)), .val (.int (Int32.ofNat len)), .val (.int (Int32.ofNat i + 1)), .val (.int (cv A (o + i)))] [])) := c8.trans (by
        refine iincV X7.here hexec rfl 1 (hb hbytes d32) (by decide) rfl rfl ?_
        refine iincV X7.here hexec rfl 1 (hb hbytes d35) (by decide) rfl rfl ?_
        refine iincV X7.here hexec rfl 1 (hb hbytes d38) (by decide) rfl rfl ?_
        refine XS.goto X7.here hexec rfl (pc0 := 41) rfl (hb hbytes d41) (by decide) rfl ?_
        exact Steps.refl _)
      have c10 : Steps p.tables e below (s₁.setTop (entryFrame m #[.ref b, .int (Int32.ofNat o), .ref d, .int (Int32.ofNat q), .int (Int32.ofNat len)] 7)) (T7.setTop (mkF m 3 #[.val (.ref b), .val (.int (Int32.ofNat (o + (i + 1)))), .val (.ref d), .val (.int (Int32.ofNat (q + (i + 1)))), .val (.int (Int32.ofNat len)), .val (.int (Int32.ofNat (i + 1))), .val (.int (cv A (o + i)))] [])) := by
        have := c9
        rw [succ32, succ32, succ32] at this
        exact this
      exact ih (i + 1) (by omega) _ (Or.inr ⟨_, rfl, rfl⟩) T7 _ (by rw [copyLocs_step, ← List.append_assoc]; exact X7) (pl.trans p7) (fl.step (by omega) hlt (by simp)) c10
  obtain ⟨T9, B9, z9, X9, p9, f9, g9⟩ := loop len 0 (by omega) .unset (Or.inl rfl) s₁ B (by simpa [copyLocs] using X0) ⟨hB0.1, fun _ _ => rfl, rfl⟩ (Laid.zero _ _ _) c2
  have c11 : Steps p.tables e below (s₁.setTop (entryFrame m #[.ref b, .int (Int32.ofNat o), .ref d, .int (Int32.ofNat q), .int (Int32.ofNat len)] 7)) (T9.setTop (mkF m 46 #[.val (.ref b), .val (.int (Int32.ofNat (o + len))), .val (.ref d), .val (.int (Int32.ofNat (q + len))), .val (.int (Int32.ofNat len)), .val (.int (Int32.ofNat len)), z9] [.int (Int32.ofNat len)])) := g9.trans (by
    refine XS.iload X9.here hexec rfl (hb hbytes d3) rfl ?_
    refine XS.iload X9.here hexec rfl (hb hbytes d5) rfl ?_
    refine XS.icmpYes X9.here hexec rfl (pc0 := 7) rfl (hb hbytes d7) rfl (ii_ge_t (nlt32 (by omega) (Nat.le_refl _))) (by decide) rfl ?_
    refine XS.iload X9.here hexec rfl (hb hbytes d44) rfl ?_
    exact Steps.refl _)
  exact ⟨T9, some (.int (Int32.ofNat len)), _, _, _, X9, by simp, rfl, rfl, (fun h => by cases h), ⟨rfl, B9, p9.from hh0, f9⟩, fun fs hl => c11.trans (X9.ireturnOut hexec hret rfl (Or.inl rfl) (hb hbytes d46) hl)⟩
end Cmp5
namespace Cmp3
def yN : MethodName := ⟨"java/lang/StringUTF16", "compress", "([CII)[B"⟩
abbrev yB : ByteArray := jdk_52_method_16_code
theorem d0 : decode yB 0 = .ok (.iload_n 2, 1) := by decide +kernel
theorem d1 : decode yB 1 = .ok (.newarray .byte, 2) := by decide +kernel
theorem d3 : decode yB 3 = .ok (.astore_n 3, 1) := by decide +kernel
theorem d4 : decode yB 4 = .ok (.aload_n 0, 1) := by decide +kernel
theorem d5 : decode yB 5 = .ok (.iload_n 1, 1) := by decide +kernel
theorem d6 : decode yB 6 = .ok (.aload_n 3, 1) := by decide +kernel
theorem d7 : decode yB 7 = .ok (.iconst 0, 1) := by decide +kernel
theorem d8 : decode yB 8 = .ok (.iload_n 2, 1) := by decide +kernel
theorem d9 : decode yB 9 = .ok (.invokestatic 115, 3) := by decide +kernel
theorem d12 : decode yB 12 = .ok (.istore 4, 2) := by decide +kernel
theorem d14 : decode yB 14 = .ok (.iload 4, 2) := by decide +kernel
theorem d16 : decode yB 16 = .ok (.iload_n 2, 1) := by decide +kernel
theorem d17 : decode yB 17 = .ok (.if_icmp (.eq) 40, 3) := by decide +kernel
theorem d57 : decode yB 57 = .ok (.aload_n 3, 1) := by decide +kernel
theorem d58 : decode yB 58 = .ok (.areturn, 1) := by decide +kernel
def site : List Cond := [.arrayClass .byte, Cmp5.tab] ++ staticW U16 115 Cmp5.yN
def tab : Cond := tabOf yN yB 6 (some (.array .byte)) site
def P (b : Addr) (A : Cell) (o len : Nat) (args : Array Value) (s : State) : Prop := args = #[.ref b, .int (Int32.ofNat o), .int (Int32.ofNat len)] ∧ Ch b A s ∧ o + len ≤ A.slots.size ∧ len ≤ 536870912 ∧ ∀ i, i < len → ¬ 255 < cv A (o + i)
def E (b : Addr) (A : Cell) (o len : Nat) (r : Option Value) (s u : State) : Prop := NewArr .byte "[B" len (fun j => .int (lo8 (cv A (o + j)))) r s u ∧ u.heap.size = s.heap.size + 1
theorem law (l : Launch) (b : Addr) (A : Cell) (o len : Nat) : Law l yN 3 3 1 18 yB 6 (some (.array .byte)) site (P b A o len) (E b A o len) [] 1 len := by
  refine Law.of_walk (plainFor_of_name (by decide +kernel)) (by decide +kernel) (by decide +kernel) (by decide) (fun _ _ h => by rw [h.1]; rfl) (fun _ U U' hal hh h => ⟨h.1, h.2.1.mv hal hh, h.2.2⟩) (fun r U U' V V' h1 hal h2 h => ⟨NewArr.mv r U U' V V' h1 hal h2 h.1, by rw [h1, h2]; exact h.2⟩) ?_
  intro p e s m args below meth c s₁ X0 hexec hbytes hml hret hlk hnm hown hh0 W hP
  obtain ⟨rfl, hA, l1, l2, hp⟩ := hP
  have a31 := hA.1.2.2.2
  have c1 : Steps p.tables e below (s₁.setTop (entryFrame m #[.ref b, .int (Int32.ofNat o), .int (Int32.ofNat len)] 6)) (s₁.setTop (mkF m 0 #[.val (.ref b), .val (.int (Int32.ofNat o)), .val (.int (Int32.ofNat len)), .unset, .unset, .unset] [])) := entry rfl
  have c2 : Steps p.tables e below (s₁.setTop (entryFrame m #[.ref b, .int (Int32.ofNat o), .int (Int32.ofNat len)] 6)) (s₁.setTop (mkF m 1 #[.val (.ref b), .val (.int (Int32.ofNat o)), .val (.int (Int32.ofNat len)), .unset, .unset, .unset] [.int (Int32.ofNat len)])) := c1.trans (by
    refine XS.iloadN X0.here hexec rfl (hb hbytes d0) rfl ?_
    exact Steps.refl _)
  obtain ⟨T3, B3, X3, ba3, bs3, bv3, bh3, bf3, st3⟩ := X0.anew hexec (atype := .byte) (wk W (.arrayClass .byte)) rfl (by show len * 1 ≤ _; omega) (by omega) (g := (mkF m 1 #[.val (.ref b), .val (.int (Int32.ofNat o)), .val (.int (Int32.ofNat len)), .unset, .unset, .unset] [.int (Int32.ofNat len)])) rfl (hb hbytes d1) (rest := []) rfl (Nat.le_refl _) (by show 0 + len ≤ len; omega)
  rw [hh0] at ba3 st3
  have kp3 : XT.Kept s T3 := (XT.Kept.of_eq hh0).push bh3
  have hA3 := hA.keep X3.warmed.alike (kp3 _ _ hA.1.1)
  have hne : b ≠ s.heap.size := hA.1.ne
  have c4 : Steps p.tables e below (s₁.setTop (entryFrame m #[.ref b, .int (Int32.ofNat o), .int (Int32.ofNat len)] 6)) (T3.setTop (mkF m 3 #[.val (.ref b), .val (.int (Int32.ofNat o)), .val (.int (Int32.ofNat len)), .unset, .unset, .unset] [.ref s.heap.size])) := c2.trans (st3 _ (Steps.refl _))
  have c5 : Steps p.tables e below (s₁.setTop (entryFrame m #[.ref b, .int (Int32.ofNat o), .int (Int32.ofNat len)] 6)) (T3.setTop (mkF m 9 #[.val (.ref b), .val (.int (Int32.ofNat o)), .val (.int (Int32.ofNat len)), .val (.ref s.heap.size), .unset, .unset] [.int (Int32.ofNat len), .int 0, .ref s.heap.size, .int (Int32.ofNat o), .ref b])) := c4.trans (by
    refine XS.astoreN X3.here hexec rfl (hb hbytes d3) rfl rfl rfl ?_
    refine XS.aloadN X3.here hexec rfl (hb hbytes d4) rfl rfl ?_
    refine XS.iloadN X3.here hexec rfl (hb hbytes d5) rfl ?_
    refine XS.aloadN X3.here hexec rfl (hb hbytes d6) rfl rfl ?_
    refine iconstV X3.here hexec rfl 0 (hb hbytes d7) (by decide) ?_
    refine XS.iloadN X3.here hexec rfl (hb hbytes d8) rfl ?_
    exact Steps.refl _)
  obtain ⟨v6, T6, X6, E6, g6⟩ := X3.callS hexec (Cmp5.law l b A s.heap.size B3 o 0 len) hown (wks W (staticW U16 115 Cmp5.yN)) (wk W Cmp5.tab) (W := 0) (Nat.le_of_ble_eq_true rfl) (Nat.le_of_ble_eq_true rfl) (Nat.le_refl _) (by show 0 + len + 0 ≤ len; omega) (g := (mkF m 9 #[.val (.ref b), .val (.int (Int32.ofNat o)), .val (.int (Int32.ofNat len)), .val (.ref s.heap.size), .unset, .unset] [.int (Int32.ofNat len), .int (Int32.ofNat 0), .ref s.heap.size, .int (Int32.ofNat o), .ref b])) rfl (by rw [hml]; rfl) c5 (argsL := [.ref b, .int (Int32.ofNat o), .ref s.heap.size, .int (Int32.ofNat 0), .int (Int32.ofNat len)]) (rest := []) rfl rfl (by show 2 * 0 + 0 ≤ _; decide) (hb hbytes d9) (⟨rfl, hA3, ba3, hne, l1, by rw [bs3]; simp, hp⟩)
  obtain ⟨rfl, B6, p6, f6⟩ := E6
  have c7 : Steps p.tables e below (s₁.setTop (entryFrame m #[.ref b, .int (Int32.ofNat o), .int (Int32.ofNat len)] 6)) (T6.setTop (mkF m 12 #[.val (.ref b), .val (.int (Int32.ofNat o)), .val (.int (Int32.ofNat len)), .val (.ref s.heap.size), .unset, .unset] [.int (Int32.ofNat len)])) := g6
  have c8 : Steps p.tables e below (s₁.setTop (entryFrame m #[.ref b, .int (Int32.ofNat o), .int (Int32.ofNat len)] 6)) (T6.setTop (mkF m 58 #[.val (.ref b), .val (.int (Int32.ofNat o)), .val (.int (Int32.ofNat len)), .val (.ref s.heap.size), .val (.int (Int32.ofNat len)), .unset] [.ref s.heap.size])) := c7.trans (by
    refine XS.istore X6.here hexec rfl (hb hbytes d12) rfl rfl ?_
    refine XS.iload X6.here hexec rfl (hb hbytes d14) rfl ?_
    refine XS.iloadN X6.here hexec rfl (hb hbytes d16) rfl ?_
    refine XS.icmpYes X6.here hexec rfl (pc0 := 17) rfl (hb hbytes d17) rfl (ii_eq_t rfl) (by decide) rfl ?_
    refine XS.aloadN X6.here hexec rfl (hb hbytes d57) rfl rfl ?_
    exact Steps.refl _)
  have X8 := X6.wide (L' := []) (cells' := 1) (slots' := len) (fun x hx hlt => by
    simp only [List.nil_append, copyLocs, List.mem_map, List.mem_range] at hx
    obtain ⟨i, -, rfl⟩ := hx
    exact absurd hlt (Nat.lt_irrefl _)) (Nat.le_refl _) (by omega)
  exact ⟨T6, some (.ref s.heap.size), _, _, _, X8, rfl, rfl, rfl, (fun h => by cases h), ⟨⟨rfl, B6, ba3.like (X3.warmed.alike.symm.trans X6.warmed.alike) p6.1 f6.1 f6.2.1 f6.2.2.1, f6.2.1.trans bv3, by rw [X6.warmed.alike.findClass, f6.1]; exact bf3, by rw [f6.2.2.1, bs3]; simp, fun j hj => by rw [f6.2.2.2 j, if_pos (by omega)]; rfl, kp3.put p6 (Nat.le_refl _)⟩, by rw [p6.2.2, bh3, hh0]; simp⟩, fun fs hl => c8.trans (X8.areturnOut hexec rfl hret rfl (hb hbytes d58) hl)⟩
end Cmp3
namespace CodL
def yN : MethodName := ⟨"java/lang/StringUTF16", "coderFromArrayLen", "([BI)B"⟩
abbrev yB : ByteArray := jdk_52_method_15_code
theorem d0 : decode yB 0 = .ok (.iload_n 1, 1) := by decide +kernel
theorem d1 : decode yB 1 = .ok (.aload_n 0, 1) := by decide +kernel
theorem d2 : decode yB 2 = .ok (.arraylength, 1) := by decide +kernel
theorem d3 : decode yB 3 = .ok (.isub, 1) := by decide +kernel
theorem d4 : decode yB 4 = .ok (.bipush 31, 2) := by decide +kernel
theorem d6 : decode yB 6 = .ok (.iushr, 1) := by decide +kernel
theorem d7 : decode yB 7 = .ok (.i2b, 1) := by decide +kernel
theorem d8 : decode yB 8 = .ok (.ireturn, 1) := by decide +kernel
def site : List Cond := []
def tab : Cond := tabOf yN yB 2 (some .byte) site
def P (d : Addr) (B : Cell) (args : Array Value) (s : State) : Prop := args = #[.ref d, .int (Int32.ofNat B.slots.size)] ∧ Arr .byte d B s
def E (r : Option Value) (s u : State) : Prop := XT.PureE (some (.int 0)) r s u
theorem law (l : Launch) (d : Addr) (B : Cell) : Law l yN 2 2 0 0 yB 2 (some .byte) site (P d B) E [] 0 0 := by
  refine Law.of_walk (plainFor_of_name (by decide +kernel)) (by decide +kernel) (by decide +kernel) (by decide) (fun _ _ h => by rw [h.1]; rfl) (fun _ U U' hal hh h => ⟨h.1, h.2.mv hal hh⟩) (fun r U U' V V' h1 hal h2 h => XT.PureE.mv r U U' V V' h1 hal h2 h) ?_
  intro p e s m args below meth c s₁ X0 hexec hbytes hml hret hlk hnm hown hh0 W hP
  obtain ⟨rfl, hB⟩ := hP
  have hB0 := hB.mv X0.warmed.alike hh0
  have c1 : Steps p.tables e below (s₁.setTop (entryFrame m #[.ref d, .int (Int32.ofNat B.slots.size)] 2)) (s₁.setTop (mkF m 0 #[.val (.ref d), .val (.int (Int32.ofNat B.slots.size))] [])) := entry rfl
  have c2 : Steps p.tables e below (s₁.setTop (entryFrame m #[.ref d, .int (Int32.ofNat B.slots.size)] 2)) (s₁.setTop (mkF m 2 #[.val (.ref d), .val (.int (Int32.ofNat B.slots.size))] [.ref d, .int (Int32.ofNat B.slots.size)])) := c1.trans (by
    refine XS.iloadN X0.here hexec rfl (hb hbytes d0) rfl ?_
    refine XS.aloadN X0.here hexec rfl (hb hbytes d1) rfl rfl ?_
    exact Steps.refl _)
  have c3 : Steps p.tables e below (s₁.setTop (entryFrame m #[.ref d, .int (Int32.ofNat B.slots.size)] 2)) (s₁.setTop (mkF m 8 #[.val (.ref d), .val (.int (Int32.ofNat B.slots.size))] [.int (lo8 (ushr (Int32.ofNat B.slots.size - Int32.ofNat B.slots.size) 31))])) := c2.trans (by
    refine X0.alen hexec hB0 rfl rfl (hb hbytes d2) ?_
    refine XS.isub X0.here hexec rfl (hb hbytes d3) rfl ?_
    refine bipushV X0.here hexec rfl 31 (hb hbytes d4) (by decide) ?_
    refine iushr X0.here hexec rfl (hb hbytes d6) rfl ?_
    refine i2b X0.here hexec rfl (hb hbytes d7) rfl ?_
    exact Steps.refl _)
  have e0 : lo8 (ushr (Int32.ofNat B.slots.size - Int32.ofNat B.slots.size) 31) = 0 := by rw [Int32.sub_self]; decide
  rw [e0] at c3
  exact ⟨s₁, some (.int 0), _, _, _, X0, rfl, rfl, rfl, (fun h => by cases h), ⟨rfl, hh0⟩, fun fs hl => c3.trans (X0.ireturnOut hexec hret rfl (Or.inr (Or.inr (Or.inl rfl))) (hb hbytes d8) hl)⟩
end CodL
def Got (a : Addr) (D : Cell) (fV fC : Field) (A : Cell) (o len : Nat) (r : Option Value) (s u : State) : Prop := r = none ∧ ∃ D' V : Cell, Blank "java/lang/String" a D' u ∧ Same D D' [fV.slot, fC.slot] ∧ D'.slots[fV.slot]? = some (.ref s.heap.size) ∧ D'.slots[fC.slot]? = some (.int 0) ∧ Arr .byte s.heap.size V u ∧ V.vm = .none ∧ u.vm.findClass "[B" = some V.cls ∧ V.slots.size = len ∧ (∀ j, j < len → V.slots[j]? = some (.int (lo8 (cv A (o + j))))) ∧ (∀ (y : Addr) (c : Cell), y ≠ a → s.heap[y]? = some c → u.heap[y]? = some c) ∧ u.heap.size = s.heap.size + 1
theorem Got.mv {a : Addr} {D A : Cell} {fV fC : Field} {o len : Nat} : ∀ r (U U' V V' : State), U'.heap = U.heap → V.vm.Alike V'.vm → V'.heap = V.heap → Got a D fV fC A o len r U V → Got a D fV fC A o len r U' V' :=
  fun r U U' V V' h1 hal h2 ⟨e0, D', X, a1, a2, a3, a4, a5, a6, a7, a8, a9, a10, a11⟩ => ⟨e0, D', X, a1.mv hal h2, a2, by rw [h1]; exact a3, a4, by rw [h1]; exact a5.mv hal h2, a6, by rw [hal.findClass]; exact a7, a8, a9, by rw [h1, h2]; exact a10, by rw [h1, h2]; exact a11⟩
namespace New4
def yN : MethodName := ⟨"java/lang/String", "<init>", "([CIILjava/lang/Void;)V"⟩
abbrev yB : ByteArray := jdk_42_method_149_code
theorem d0 : decode yB 0 = .ok (.aload_n 0, 1) := by decide +kernel
theorem d1 : decode yB 1 = .ok (.invokespecial 1, 3) := by decide +kernel
theorem d4 : decode yB 4 = .ok (.iload_n 3, 1) := by decide +kernel
theorem d5 : decode yB 5 = .ok (.ifCond (.ne) 22, 3) := by decide +kernel
theorem d27 : decode yB 27 = .ok (.getstatic 38, 3) := by decide +kernel
theorem d30 : decode yB 30 = .ok (.ifCond (.eq) 28, 3) := by decide +kernel
theorem d33 : decode yB 33 = .ok (.aload_n 1, 1) := by decide +kernel
theorem d34 : decode yB 34 = .ok (.iload_n 2, 1) := by decide +kernel
theorem d35 : decode yB 35 = .ok (.iload_n 3, 1) := by decide +kernel
theorem d36 : decode yB 36 = .ok (.invokestatic 177, 3) := by decide +kernel
theorem d39 : decode yB 39 = .ok (.astore 5, 2) := by decide +kernel
theorem d41 : decode yB 41 = .ok (.aload_n 0, 1) := by decide +kernel
theorem d42 : decode yB 42 = .ok (.aload 5, 2) := by decide +kernel
theorem d44 : decode yB 44 = .ok (.iload_n 3, 1) := by decide +kernel
theorem d45 : decode yB 45 = .ok (.invokestatic 47, 3) := by decide +kernel
theorem d48 : decode yB 48 = .ok (.putfield 15, 3) := by decide +kernel
theorem d51 : decode yB 51 = .ok (.aload_n 0, 1) := by decide +kernel
theorem d52 : decode yB 52 = .ok (.aload 5, 2) := by decide +kernel
theorem d54 : decode yB 54 = .ok (.putfield 9, 3) := by decide +kernel
theorem d57 : decode yB 57 = .ok (.return_, 1) := by decide +kernel
def site : List Cond := [.fieldLink "java/lang/String" 38 "java/lang/String" "COMPACT_STRINGS" "Z", Cmp3.tab, CodL.tab, .laysFinal "java/lang/String" "java/lang/String" "value" "[B", .fieldLink "java/lang/String" 9 "java/lang/String" "value" "[B", .laysFinal "java/lang/String" "java/lang/String" "coder" "B", .fieldLink "java/lang/String" 15 "java/lang/String" "coder" "B"] ++ objW "java/lang/String" 1 ++ staticW "java/lang/String" 177 Cmp3.yN ++ staticW "java/lang/String" 47 CodL.yN
def tab : Cond := tabOf yN yB 6 none site
def P (a : Addr) (D : Cell) (fV fC : Field) (b : Addr) (A : Cell) (z : Int32) (o len : Nat) (args : Array Value) (s : State) : Prop := args = #[.ref a, .ref b, .int (Int32.ofNat o), .int (Int32.ofNat len), .null] ∧ Blank "java/lang/String" a D s ∧ Found "java/lang/String" "value" "[B" fV s ∧ Found "java/lang/String" "coder" "B" fC s ∧ Ch b A s ∧ StaticIs s "java/lang/String" "COMPACT_STRINGS" "Z" (.int z) ∧ ¬ z = 0 ∧ 0 < len ∧ o + len ≤ A.slots.size ∧ len ≤ 536870912 ∧ ∀ i, i < len → ¬ 255 < cv A (o + i)
def E (a : Addr) (D : Cell) (fV fC : Field) (A : Cell) (o len : Nat) (r : Option Value) (s u : State) : Prop := Got a D fV fC A o len r s u
theorem law (l : Launch) (a : Addr) (D : Cell) (fV fC : Field) (b : Addr) (A : Cell) (z : Int32) (o len : Nat) : Law l yN 5 4 2 35 yB 6 none site (P a D fV fC b A z o len) (E a D fV fC A o len) [⟨a, fC.slot⟩, ⟨a, fV.slot⟩] 1 len := by
  refine Law.of_walk (plainFor_of_name (by decide +kernel)) (by decide +kernel) (by decide +kernel) (by decide) (fun _ _ h => by rw [h.1]; rfl) (fun _ U U' hal hh h => ⟨h.1, h.2.1.mv hal hh, h.2.2.1.al hal, h.2.2.2.1.al hal, h.2.2.2.2.1.mv hal hh, h.2.2.2.2.2.1.there hal hh, h.2.2.2.2.2.2⟩) (fun r U U' V V' h1 hal h2 h => Got.mv r U U' V V' h1 hal h2 h) ?_
  intro p e s m args below meth c s₁ X0 hexec hbytes hml hret hlk hnm hown hh0 W hP
  obtain ⟨rfl, hB, f1, f2, hA, s1, hz, l0, l1, l2, hp⟩ := hP
  have a31 := hA.1.2.2.2
  have c1 : Steps p.tables e below (s₁.setTop (entryFrame m #[.ref a, .ref b, .int (Int32.ofNat o), .int (Int32.ofNat len), .null] 6)) (s₁.setTop (mkF m 0 #[.val (.ref a), .val (.ref b), .val (.int (Int32.ofNat o)), .val (.int (Int32.ofNat len)), .val .null, .unset] [])) := entry rfl
  have c2 : Steps p.tables e below (s₁.setTop (entryFrame m #[.ref a, .ref b, .int (Int32.ofNat o), .int (Int32.ofNat len), .null] 6)) (s₁.setTop (mkF m 1 #[.val (.ref a), .val (.ref b), .val (.int (Int32.ofNat o)), .val (.int (Int32.ofNat len)), .val .null, .unset] [.ref a])) := c1.trans (by
    refine XS.aloadN X0.here hexec rfl (hb hbytes d0) rfl rfl ?_
    exact Steps.refl _)
  obtain ⟨T3, X3, q3, st3⟩ := X0.oinit hexec hown (wks W (objW "java/lang/String" 1)) (g := (mkF m 1 #[.val (.ref a), .val (.ref b), .val (.int (Int32.ofNat o)), .val (.int (Int32.ofNat len)), .val .null, .unset] [.ref a])) rfl (by rw [hml]; rfl) (rest := []) rfl (hb hbytes d1) (W := 0) (by show 2 * 0 + 0 ≤ _; decide) (Nat.le_of_ble_eq_true rfl) (Nat.le_of_ble_eq_true rfl)
  have hh3 := q3.trans hh0
  have c4 : Steps p.tables e below (s₁.setTop (entryFrame m #[.ref a, .ref b, .int (Int32.ofNat o), .int (Int32.ofNat len), .null] 6)) (T3.setTop (mkF m 27 #[.val (.ref a), .val (.ref b), .val (.int (Int32.ofNat o)), .val (.int (Int32.ofNat len)), .val .null, .unset] [])) := (c2.trans (st3 _ (Steps.refl _))).trans (by
    refine XS.iloadN X3.here hexec rfl (hb hbytes d4) rfl ?_
    refine XS.ifYes X3.here hexec rfl (pc0 := 5) rfl (hb hbytes d5) rfl (i0_ne_t (nz32 (by omega) l0)) (by decide) rfl ?_
    exact Steps.refl _)
  obtain ⟨T5, X5, q5, st5⟩ := X3.sget hexec hown (wk W (.fieldLink "java/lang/String" 38 "java/lang/String" "COMPACT_STRINGS" "Z")) s1 (fun _ _ h => by rw [hh3]; exact h) (g := (mkF m 27 #[.val (.ref a), .val (.ref b), .val (.int (Int32.ofNat o)), .val (.int (Int32.ofNat len)), .val .null, .unset] [])) rfl (hb hbytes d27)
  have hh5 := q5.trans hh3
  have c6 : Steps p.tables e below (s₁.setTop (entryFrame m #[.ref a, .ref b, .int (Int32.ofNat o), .int (Int32.ofNat len), .null] 6)) (T5.setTop (mkF m 30 #[.val (.ref a), .val (.ref b), .val (.int (Int32.ofNat o)), .val (.int (Int32.ofNat len)), .val .null, .unset] [.int z])) := c4.trans (st5 _ (Steps.refl _))
  have c7 : Steps p.tables e below (s₁.setTop (entryFrame m #[.ref a, .ref b, .int (Int32.ofNat o), .int (Int32.ofNat len), .null] 6)) (T5.setTop (mkF m 36 #[.val (.ref a), .val (.ref b), .val (.int (Int32.ofNat o)), .val (.int (Int32.ofNat len)), .val .null, .unset] [.int (Int32.ofNat len), .int (Int32.ofNat o), .ref b])) := c6.trans (by
    refine XS.ifNo X5.here hexec rfl (hb hbytes d30) rfl (i0_eq_f hz) ?_
    refine XS.aloadN X5.here hexec rfl (hb hbytes d33) rfl rfl ?_
    refine XS.iloadN X5.here hexec rfl (hb hbytes d34) rfl ?_
    refine XS.iloadN X5.here hexec rfl (hb hbytes d35) rfl ?_
    exact Steps.refl _)
  obtain ⟨v8, T8, X8, E8, g8⟩ := X5.callS hexec (Cmp3.law l b A o len) hown (wks W (staticW "java/lang/String" 177 Cmp3.yN)) (wk W Cmp3.tab) (W := 0) (Nat.le_of_ble_eq_true rfl) (Nat.le_of_ble_eq_true rfl) (Nat.le_refl _) (by show 0 + len ≤ len; omega) (g := (mkF m 36 #[.val (.ref a), .val (.ref b), .val (.int (Int32.ofNat o)), .val (.int (Int32.ofNat len)), .val .null, .unset] [.int (Int32.ofNat len), .int (Int32.ofNat o), .ref b])) rfl (by rw [hml]; rfl) c7 (argsL := [.ref b, .int (Int32.ofNat o), .int (Int32.ofNat len)]) (rest := []) rfl rfl (by show 2 * 0 + 0 ≤ _; decide) (hb hbytes d36) (⟨rfl, hA.mv X5.warmed.alike hh5, l1, l2, hp⟩)
  obtain ⟨e8, z8⟩ := E8
  obtain ⟨rfl, N, n1, n2, n3, n4, n5, n6⟩ := NewArr.mv _ T5 s _ _ hh5.symm (Vm.Alike.refl _) rfl e8
  rw [hh5] at z8
  have hB1 := hB.keep X8.warmed.alike (n6 _ _ hB.1)
  have hne : s.heap.size ≠ a := (Nat.ne_of_lt (Array.getElem?_eq_some_iff.mp hB.1).1).symm
  have c9 : Steps p.tables e below (s₁.setTop (entryFrame m #[.ref a, .ref b, .int (Int32.ofNat o), .int (Int32.ofNat len), .null] 6)) (T8.setTop (mkF m 39 #[.val (.ref a), .val (.ref b), .val (.int (Int32.ofNat o)), .val (.int (Int32.ofNat len)), .val .null, .unset] [.ref s.heap.size])) := g8
  have c10 : Steps p.tables e below (s₁.setTop (entryFrame m #[.ref a, .ref b, .int (Int32.ofNat o), .int (Int32.ofNat len), .null] 6)) (T8.setTop (mkF m 45 #[.val (.ref a), .val (.ref b), .val (.int (Int32.ofNat o)), .val (.int (Int32.ofNat len)), .val .null, .val (.ref s.heap.size)] [.int (Int32.ofNat N.slots.size), .ref s.heap.size, .ref a])) := by
    have hc : Steps p.tables e below (s₁.setTop (entryFrame m #[.ref a, .ref b, .int (Int32.ofNat o), .int (Int32.ofNat len), .null] 6)) (T8.setTop (mkF m 45 #[.val (.ref a), .val (.ref b), .val (.int (Int32.ofNat o)), .val (.int (Int32.ofNat len)), .val .null, .val (.ref s.heap.size)] [.int (Int32.ofNat len), .ref s.heap.size, .ref a])) := c9.trans (by
      refine XS.astore X8.here hexec rfl (hb hbytes d39) rfl rfl rfl ?_
      refine XS.aloadN X8.here hexec rfl (hb hbytes d41) rfl rfl ?_
      refine XS.aload X8.here hexec rfl (hb hbytes d42) rfl rfl ?_
      refine XS.iloadN X8.here hexec rfl (hb hbytes d44) rfl ?_
      exact Steps.refl _)
    rw [n4]; exact hc
  obtain ⟨v11, T11, X11, E11, g11⟩ := X8.callS hexec (CodL.law l s.heap.size N) hown (wks W (staticW "java/lang/String" 47 CodL.yN)) (wk W CodL.tab) (W := 1) (Nat.le_of_ble_eq_true rfl) (Nat.le_of_ble_eq_true rfl) (Nat.le_refl _) (by show 0 + len + 0 ≤ len; omega) (g := (mkF m 45 #[.val (.ref a), .val (.ref b), .val (.int (Int32.ofNat o)), .val (.int (Int32.ofNat len)), .val .null, .val (.ref s.heap.size)] [.int (Int32.ofNat N.slots.size), .ref s.heap.size, .ref a])) rfl (by rw [hml]; rfl) c10 (argsL := [.ref s.heap.size, .int (Int32.ofNat N.slots.size)]) (rest := [.ref a]) rfl rfl (by show 2 * 0 + (1 + 0) ≤ _; decide) (hb hbytes d45) (⟨rfl, n1⟩)
  obtain ⟨rfl, q11⟩ := E11
  have hB11 := hB1.mv (X8.warmed.alike.symm.trans X11.warmed.alike) q11
  have c12 : Steps p.tables e below (s₁.setTop (entryFrame m #[.ref a, .ref b, .int (Int32.ofNat o), .int (Int32.ofNat len), .null] 6)) (T11.setTop (mkF m 48 #[.val (.ref a), .val (.ref b), .val (.int (Int32.ofNat o)), .val (.int (Int32.ofNat len)), .val .null, .val (.ref s.heap.size)] [.int 0, .ref a])) := g11
  obtain ⟨T13, X13, p13, bl13, sl13, st13⟩ := X11.finit hexec hown (wk W (.fieldLink "java/lang/String" 15 "java/lang/String" "coder" "B")) (Or.inr ⟨_, (wk W (.laysFinal "java/lang/String" "java/lang/String" "coder" "B"))⟩) (Or.inl ⟨rfl, hnm⟩) f2 (Or.inl rfl) hB11 (t := .byte) (by decide +kernel) rfl (g := (mkF m 48 #[.val (.ref a), .val (.ref b), .val (.int (Int32.ofNat o)), .val (.int (Int32.ofNat len)), .val .null, .val (.ref s.heap.size)] [.int 0, .ref a])) rfl (rest := []) rfl (hb hbytes d48)
  have c14 : Steps p.tables e below (s₁.setTop (entryFrame m #[.ref a, .ref b, .int (Int32.ofNat o), .int (Int32.ofNat len), .null] 6)) (T13.setTop (mkF m 54 #[.val (.ref a), .val (.ref b), .val (.int (Int32.ofNat o)), .val (.int (Int32.ofNat len)), .val .null, .val (.ref s.heap.size)] [.ref s.heap.size, .ref a])) := (c12.trans (st13 _ (Steps.refl _))).trans (by
    refine XS.aloadN X13.here hexec rfl (hb hbytes d51) rfl rfl ?_
    refine XS.aload X13.here hexec rfl (hb hbytes d52) rfl rfl ?_
    exact Steps.refl _)
  obtain ⟨T15, X15, p15, bl15, sl15, st15⟩ := X13.finit hexec hown (wk W (.fieldLink "java/lang/String" 9 "java/lang/String" "value" "[B")) (Or.inr ⟨_, (wk W (.laysFinal "java/lang/String" "java/lang/String" "value" "[B"))⟩) (Or.inl ⟨rfl, hnm⟩) f1 (Or.inl rfl) bl13 (t := (.array .byte)) (by decide +kernel) rfl (g := (mkF m 54 #[.val (.ref a), .val (.ref b), .val (.int (Int32.ofNat o)), .val (.int (Int32.ofNat len)), .val .null, .val (.ref s.heap.size)] [.ref s.heap.size, .ref a])) rfl (rest := []) rfl (hb hbytes d54)
  have c16 : Steps p.tables e below (s₁.setTop (entryFrame m #[.ref a, .ref b, .int (Int32.ofNat o), .int (Int32.ofNat len), .null] 6)) (T15.setTop (mkF m 57 #[.val (.ref a), .val (.ref b), .val (.int (Int32.ofNat o)), .val (.int (Int32.ofNat len)), .val .null, .val (.ref s.heap.size)] [])) := c14.trans (st15 _ (Steps.refl _))
  have ap := apart (Or.inr ⟨_, (wk W (.laysFinal "java/lang/String" "java/lang/String" "value" "[B"))⟩) (Or.inr ⟨_, (wk W (.laysFinal "java/lang/String" "java/lang/String" "coder" "B"))⟩) f1 f2 (t₁ := .array .byte) (t₂ := .byte) (by decide +kernel) (by decide +kernel) (by decide)
  have al := X8.warmed.alike.symm.trans X15.warmed.alike
  have n7 : T11.heap[s.heap.size]? = some N := by rw [q11]; exact n1.1
  exact ⟨T15, none, _, _, _, X15, by simp, rfl, by omega, (fun _ => rfl), ⟨rfl, _, N, bl15, ((Same.refl D _).set _ (by simp)).set _ (by simp), sl15, (Cell.slots_setSlot_ne _ ap).trans sl13, n1.keep al (p15.other hne (p13.other hne n7)), n2, by rw [al.findClass]; exact n3, n4, n5, fun y c h1 h2 => p15.other h1 (p13.other h1 (by rw [q11]; exact n6 y c h2)), by rw [p15.2.2, p13.2.2, q11]; exact z8⟩, fun fs hl => c16.trans (X15.returnOut hexec hret (hb hbytes d57) hl)⟩
end New4
namespace New1
def yN : MethodName := ⟨"java/lang/String", "<init>", "([C)V"⟩
abbrev yB : ByteArray := jdk_42_method_3_code
theorem d0 : decode yB 0 = .ok (.aload_n 0, 1) := by decide +kernel
theorem d1 : decode yB 1 = .ok (.aload_n 1, 1) := by decide +kernel
theorem d2 : decode yB 2 = .ok (.iconst 0, 1) := by decide +kernel
theorem d3 : decode yB 3 = .ok (.aload_n 1, 1) := by decide +kernel
theorem d4 : decode yB 4 = .ok (.arraylength, 1) := by decide +kernel
theorem d5 : decode yB 5 = .ok (.aconst_null, 1) := by decide +kernel
theorem d6 : decode yB 6 = .ok (.invokespecial 27, 3) := by decide +kernel
theorem d9 : decode yB 9 = .ok (.return_, 1) := by decide +kernel
def site : List Cond := [New4.tab] ++ initW "java/lang/String" 27 New4.yN
def tab : Cond := tabOf yN yB 2 none site
def P (a : Addr) (D : Cell) (fV fC : Field) (b : Addr) (A : Cell) (z : Int32) (args : Array Value) (s : State) : Prop := args = #[.ref a, .ref b] ∧ Blank "java/lang/String" a D s ∧ Found "java/lang/String" "value" "[B" fV s ∧ Found "java/lang/String" "coder" "B" fC s ∧ Ch b A s ∧ StaticIs s "java/lang/String" "COMPACT_STRINGS" "Z" (.int z) ∧ ¬ z = 0 ∧ 0 < A.slots.size ∧ A.slots.size ≤ 536870912 ∧ ∀ i, i < A.slots.size → ¬ 255 < cv A i
def E (a : Addr) (D : Cell) (fV fC : Field) (A : Cell) (r : Option Value) (s u : State) : Prop := Got a D fV fC A 0 A.slots.size r s u
theorem law (l : Launch) (a : Addr) (D : Cell) (fV fC : Field) (b : Addr) (A : Cell) (z : Int32) : Law l yN 2 1 3 52 yB 2 none site (P a D fV fC b A z) (E a D fV fC A) [⟨a, fC.slot⟩, ⟨a, fV.slot⟩] 1 A.slots.size := by
  refine Law.of_walk (plainFor_of_name (by decide +kernel)) (by decide +kernel) (by decide +kernel) (by decide) (fun _ _ h => by rw [h.1]; rfl) (fun _ U U' hal hh h => ⟨h.1, h.2.1.mv hal hh, h.2.2.1.al hal, h.2.2.2.1.al hal, h.2.2.2.2.1.mv hal hh, h.2.2.2.2.2.1.there hal hh, h.2.2.2.2.2.2⟩) (fun r U U' V V' h1 hal h2 h => Got.mv r U U' V V' h1 hal h2 h) ?_
  intro p e s m args below meth c s₁ X0 hexec hbytes hml hret hlk hnm hown hh0 W hP
  obtain ⟨rfl, hB, f1, f2, hA, s1, hz, l0, l2, hp⟩ := hP
  have c1 : Steps p.tables e below (s₁.setTop (entryFrame m #[.ref a, .ref b] 2)) (s₁.setTop (mkF m 0 #[.val (.ref a), .val (.ref b)] [])) := entry rfl
  have c2 : Steps p.tables e below (s₁.setTop (entryFrame m #[.ref a, .ref b] 2)) (s₁.setTop (mkF m 6 #[.val (.ref a), .val (.ref b)] [.null, .int (Int32.ofNat A.slots.size), .int 0, .ref b, .ref a])) := c1.trans (by
    refine XS.aloadN X0.here hexec rfl (hb hbytes d0) rfl rfl ?_
    refine XS.aloadN X0.here hexec rfl (hb hbytes d1) rfl rfl ?_
    refine iconstV X0.here hexec rfl 0 (hb hbytes d2) (by decide) ?_
    refine XS.aloadN X0.here hexec rfl (hb hbytes d3) rfl rfl ?_
    refine X0.alen hexec (hA.1.mv X0.warmed.alike hh0) rfl rfl (hb hbytes d4) ?_
    refine XS.aconstNull X0.here hexec rfl (hb hbytes d5) ?_
    exact Steps.refl _)
  obtain ⟨v3, T3, X3, E3, g3⟩ := X0.callN hexec (New4.law l a D fV fC b A z 0 A.slots.size) rfl hown (wks W (initW "java/lang/String" 27 New4.yN)) (W New4.tab (by simp only [site, List.mem_cons, List.mem_append, true_or, or_true])) (W := 0) (Nat.le_of_ble_eq_true rfl) (Nat.le_of_ble_eq_true rfl) (Nat.le_refl _) (by show 0 + A.slots.size ≤ A.slots.size; omega) (g := (mkF m 6 #[.val (.ref a), .val (.ref b)] [.null, .int (Int32.ofNat A.slots.size), .int (Int32.ofNat 0), .ref b, .ref a])) rfl (by rw [hml]; rfl) c2 (argsL := [.ref b, .int (Int32.ofNat 0), .int (Int32.ofNat A.slots.size), .null]) (rest := []) rfl rfl (by show 2 * 0 + 0 ≤ _; decide) (hb hbytes d6) (⟨rfl, hB.mv X0.warmed.alike hh0, f1.al X0.warmed.alike, f2.al X0.warmed.alike, hA.mv X0.warmed.alike hh0, s1.there X0.warmed.alike hh0, hz, l0, by omega, l2, fun i hi => by rw [Nat.zero_add]; exact hp i hi⟩)
  have e0 := Got.mv _ s₁ s _ _ hh0.symm (Vm.Alike.refl _) rfl E3
  obtain rfl := e0.1
  have c4 : Steps p.tables e below (s₁.setTop (entryFrame m #[.ref a, .ref b] 2)) (T3.setTop (mkF m 9 #[.val (.ref a), .val (.ref b)] [])) := g3
  exact ⟨T3, none, _, _, _, X3, by simp, rfl, by omega, (fun _ => rfl), e0, fun fs hl => c4.trans (X3.returnOut hexec hret (hb hbytes d9) hl)⟩
theorem pays {l : Launch} {R : Room} {p : Program} {e : Env} {below : List Frame} {s : State} {sargs : Array Value} {len W : Nat} (a : Addr) (D : Cell) (fV fC : Field) (b : Addr) (A : Cell) (z : Int32) (htab : tab.before sargs s = true) (hfr : 4 ≤ R.frames) (hlo : W + 65 ≤ R.locals) :
    Back l R p e below s sargs yN len W (fun A₁ a₁ => A₁.cells + 1 ≤ R.cells ∧ A₁.slots + A.slots.size ≤ R.slots ∧ P a D fV fC b A z a₁ A₁.U) (fun A₁ _ v₁ B₁ => E a D fV fC A v₁ A₁.U B₁.U ∧ B₁.locs = A₁.locs ++ [⟨a, fC.slot⟩, ⟨a, fV.slot⟩] ∧ B₁.cells = A₁.cells + 1 ∧ B₁.slots = A₁.slots + A.slots.size) :=
  (law l a D fV fC b A z).pays htab hfr (by omega)
end New1
end StrChars
namespace StrChars.Road
open Jvm Sem ClassFile Op Lib Jvm.Stand Jvm.Free Jvm.Free.XT
open Jvm.Lib.Cold (StaticIs)
abbrev ST : String := "java/lang/String"
/-- every table word that New1's law asks, flat -/
abbrev words : List Jvm.Cond := [.code New1.yN New1.yB 2 none, .initialized ST, .methodLink ST 27 New4.yN, .instanceMethod New4.yN,
  .code New4.yN New4.yB 6 none, .fieldLink ST 38 ST "COMPACT_STRINGS" "Z", .laysFinal ST ST "value" "[B", .fieldLink ST 9 ST "value" "[B", .laysFinal ST ST "coder" "B", .fieldLink ST 15 ST "coder" "B",
  .methodLink ST 1 Lib.objectInit, .instanceMethod Lib.objectInit, .code Lib.objectInit ⟨#[0xb1]⟩ 1 none, .methodLink ST 177 Cmp3.yN, .static Cmp3.yN, .methodLink ST 47 CodL.yN, .static CodL.yN,
  .code Cmp3.yN Cmp3.yB 6 (some (.array .byte)), .initialized U16, .arrayClass .byte, .methodLink U16 115 Cmp5.yN, .static Cmp5.yN, .code Cmp5.yN Cmp5.yB 7 (some .int), .code CodL.yN CodL.yB 2 (some .byte)]
theorem tab_of {a : Array Value} {s : State} (h : ∀ w ∈ words, w.before a s = true) : New1.tab.before a s = true := by
  have h5 : Cmp5.tab.before a s = true := unparts (wk h (.code Cmp5.yN Cmp5.yB 7 (some .int))) (wks h (.initialized Cmp5.yN.cls :: Cmp5.site))
  have hc : CodL.tab.before a s = true := unparts (wk h (.code CodL.yN CodL.yB 2 (some .byte))) (wks h (.initialized CodL.yN.cls :: CodL.site))
  have q5 : ∀ w ∈ Cmp5.tab :: words, w.before a s = true := fun w hw => (List.mem_cons.mp hw).elim (fun e => e ▸ h5) (h w)
  have h3 : Cmp3.tab.before a s = true := unparts (wk q5 (.code Cmp3.yN Cmp3.yB 6 (some (.array .byte)))) (wks q5 (.initialized Cmp3.yN.cls :: Cmp3.site))
  have q3 : ∀ w ∈ Cmp3.tab :: CodL.tab :: words, w.before a s = true := fun w hw => (List.mem_cons.mp hw).elim (fun e => e ▸ h3) fun hw => (List.mem_cons.mp hw).elim (fun e => e ▸ hc) (h w)
  have h4 : New4.tab.before a s = true := unparts (wk q3 (.code New4.yN New4.yB 6 none)) (wks q3 (.initialized New4.yN.cls :: New4.site))
  have q4 : ∀ w ∈ New4.tab :: words, w.before a s = true := fun w hw => (List.mem_cons.mp hw).elim (fun e => e ▸ h4) (h w)
  exact unparts (wk q4 (.code New1.yN New1.yB 2 none)) (wks q4 (.initialized New1.yN.cls :: New1.site))
theorem moved {Z s : State} {a0 args : Array Value} (hZ : Z.Warmed39 s.vm) (hw : ∀ d ∈ words, d.before a0 Z = true) : ∀ d ∈ words, d.before args s = true := fun d hd => by
  have q := hw d hd
  have t : ∀ d ∈ words, d = .arrayClass .byte ∨ (d.onTables && d.keepsFace) = true := by decide +kernel
  rcases t d hd with rfl | t
  · exact RoadKit.mvA hZ q
  · exact RoadKit.mv hZ q t
def Q (Z : State) (x : Addr) (A : Cell) (h : Heap) (v : Option Value) (h' : Heap) (L : List Loc) : Prop := v = none ∧ (∀ y ∈ L, y.base = x) ∧ RoadKit.Keep h h' [x] ∧ h'.size = h.size + 1 ∧ RoadKit.Exa Z h' x ST ∧ RoadKit.Fld Z h' x ST "value" "[B" (.ref h.size) ∧ RoadKit.Fld Z h' x ST "coder" "B" (.int 0) ∧
  (∃ V : Cell, RoadKit.Arr Z h' h.size V .byte ∧ V.vm = .none ∧ Z.vm.findClass "[B" = some V.cls ∧ V.slots.size = A.slots.size ∧ ∀ j, j < A.slots.size → V.slots[j]? = some (.int (lo8 (cv A j)))) ∧
  ∀ (O n d : String) (w : Value), RoadKit.Fld Z h x O n d w → RoadKit.slotOf Z O n d ≠ RoadKit.slotOf Z ST "value" "[B" → RoadKit.slotOf Z O n d ≠ RoadKit.slotOf Z ST "coder" "B" → RoadKit.Fld Z h' x O n d w
theorem back {p : Program} {l : Launch} {e : Env} {R : Room} {s : State} {args : Array Value} {below : List Frame} {len W : Nat} {Z : State} {a0 : Array Value} {h : Heap} (hZ : Z.Warmed39 s.vm) (hw : ∀ d ∈ words, d.before a0 Z = true) {kI : Nat} (wi : (Jvm.Cond.instantiable ST kI).before a0 Z = true)
    {x b : Addr} {A : Cell} {z : Int32} {v0 c0 : Value} (E : RoadKit.Exa Z h x ST) (V : RoadKit.Fld Z h x ST "value" "[B" v0) (C : RoadKit.Fld Z h x ST "coder" "B" c0) (K : RoadKit.Arr Z h b A .char) (hty : Typed .char A) (S : RoadKit.Sta Z h ST "COMPACT_STRINGS" "Z" (.int z)) (hz : ¬ z = 0)
    (l0 : 0 < A.slots.size) (l2 : A.slots.size ≤ 536870912) (hp : ∀ i, i < A.slots.size → ¬ 255 < cv A i) (hfr : 4 ≤ R.frames) (hlo : W + 65 ≤ R.locals) :
    Back l R p e below s args New1.yN len W (fun P a => a = #[.ref x, .ref b] ∧ P.U.heap = h ∧ P.cells + 1 ≤ R.cells ∧ P.slots + A.slots.size ≤ R.slots)
      (fun P _ v B => ∃ L, Q Z x A h v B.U.heap L ∧ B.locs = P.locs ++ L ∧ B.cells = P.cells + 1 ∧ B.slots = P.slots + A.slots.size) := by
  intro m meth c P g ig mk a X hg hsize hdg hW hn hp'
  obtain ⟨rfl, rfl, r1, r2⟩ := hp'
  have al : Z.vm.Alike P.U.vm := hZ.alike.trans X.warmed.alike
  obtain ⟨D, cfV, kV, iV, fV, hD, gV, stV, knV, obV, asV, slV⟩ := id V
  obtain ⟨D', cfC, kC, iC, fC, hD', gC, stC, -, -, asC, slC⟩ := id C
  cases hD.symm.trans hD'
  obtain ⟨D2, kD, e1, e2, e3, e4, e5⟩ := id E
  cases hD.symm.trans e1
  obtain ⟨c2, k2, i1, i2, i3, -⟩ := Cond.instantiable_spec wi
  cases e2.symm.trans i1
  cases e3.symm.trans i2
  obtain ⟨kU, u1, u2⟩ := al.2.2 _ _ e3
  have hB : Blank ST x D P.U := ⟨hD, ⟨knV, fun q hq => by rw [hq] at obV; cases obV⟩, by rw [al.findClass]; exact e2, kU, u1, by rw [u2]; exact i3, by rw [u2]; exact e5 i3⟩
  have F1 : Found ST "value" "[B" fV P.U := ⟨SBG.found_only al ⟨cfV, kV, iV, gV⟩, stV⟩
  have F2 : Found ST "coder" "B" fC P.U := ⟨SBG.found_only al ⟨cfC, kC, iC, gC⟩, stC⟩
  have hA : Ch b A P.U := ⟨⟨K.1, State.isArrayOf_alike al K.2.1, K.2.2, by omega⟩, hty⟩
  have hS : StaticIs P.U ST "COMPACT_STRINGS" "Z" (.int z) := by
    obtain ⟨cfS, iS, kS, fS, st, cS, t1, t2, t3, t4, t5, t6, t7⟩ := S
    exact StaticIs.there (s := { Z with heap := P.U.heap }) ⟨cfS, iS, kS, fS, st, cS, t1, t2, t3, t4, t5, (fun q => by rw [q] at t6; cases t6), t7⟩ al rfl
  obtain ⟨v, B, X', ⟨⟨hv, E', V', q1, q2, q3, q4, q5, q6, q7, q8, q9, q10, q11⟩, hl, hc, hs⟩, st⟩ := New1.pays x D fV fC b A z (tab_of (moved hZ hw)) hfr hlo m meth c P g ig mk _ X hg hsize hdg hW hn ⟨r1, r2, rfl, hB, F1, F2, hA, hS, hz, l0, l2, hp⟩
  have al' : Z.vm.Alike B.U.vm := hZ.alike.trans X'.warmed.alike
  have hsz : E'.slots.size = D.slots.size := by
    obtain ⟨-, -, -, kB, w1, w2, w3⟩ := q1
    obtain ⟨kB', y1, y2⟩ := al'.2.2 _ _ e3
    rw [q2.2.1] at w1
    cases w1.symm.trans y1
    rw [w3, e5 i3, y2]
  refine ⟨v, B, X', ⟨_, ⟨hv, ?_, ⟨by omega, fun y cy hy hn' => q10 y cy (by simpa using hn') hy, fun y cy hy => ?_⟩, q11, ⟨E', _, q1.1, by rw [q2.2.1]; exact e2, by rw [q2.2.1]; exact e3, by rw [q2.1]; exact obV, fun _ => by rw [hsz]; exact e5 i3⟩,
    ⟨E', cfV, kV, iV, fV, q1.1, gV, stV, by rw [q2.1]; exact knV, by rw [q2.1]; exact obV, by rw [q2.2.1]; exact asV, q3⟩, ⟨E', cfC, kC, iC, fC, q1.1, gC, stC, by rw [q2.1]; exact knV, by rw [q2.1]; exact obV, by rw [q2.2.1]; exact asC, q4⟩,
    ⟨V', ⟨q5.1, State.isArrayOf_alike al'.symm q5.2.1, q5.2.2.1⟩, q6, by rw [← al'.findClass]; exact q7, q8, fun j hj => by have := q9 j hj; rwa [Nat.zero_add] at this⟩, fun O n d w F n1 n2 => ?_⟩, hl, hc, hs⟩, st⟩
  · intro y hy
    simp only [List.mem_cons, List.not_mem_nil, or_false] at hy
    rcases hy with rfl | rfl <;> rfl
  · by_cases q : y = x
    · subst q
      cases hD.symm.trans hy
      exact ⟨E', q1.1, q2.2.1, q2.1, hsz⟩
    · exact ⟨cy, q10 y cy q hy, rfl, rfl, rfl⟩
  · obtain ⟨D3, cf, k, i, f, g1, g2, g3, g4, g5, g6, g7⟩ := F
    cases hD.symm.trans g1
    simp only [RoadKit.slotOf, g2, gV, gC, Option.map_some, Option.getD_some] at n1 n2
    exact ⟨E', cf, k, i, f, q1.1, g2, g3, by rw [q2.1]; exact g4, by rw [q2.1]; exact g5, by rw [q2.2.1]; exact g6, by rw [q2.2.2 f.slot (by simp [n1, n2])]; exact g7⟩
end StrChars.Road
namespace StrChars.Road
open Jvm Sem ClassFile Op Lib Jvm.Stand Jvm.Free Jvm.Free.XT
def QA (Z : State) (x : Addr) (zn : Int32) (cs : List Int32) (h : Heap) (v : Option Value) (h' : Heap) (L : List Loc) : Prop := v = none ∧ (∀ y ∈ L, y.base = x) ∧ RoadKit.Keep h h' [x] ∧ h'.size = h.size + 1 ∧ RoadKit.Exa Z h' x ST ∧ RoadKit.Fld Z h' x ST "value" "[B" (.ref h.size) ∧ RoadKit.Fld Z h' x ST "coder" "B" (.int 0) ∧
  (∃ kb, Z.vm.findClass "[B" = some kb ∧ RoadKit.Arv Z h' h.size kb .byte zn (cs.map fun c => .int (lo8 c)) (.int 0)) ∧
  ∀ (O n d : String) (w : Value), RoadKit.Fld Z h x O n d w → RoadKit.slotOf Z O n d ≠ RoadKit.slotOf Z ST "value" "[B" → RoadKit.slotOf Z O n d ≠ RoadKit.slotOf Z ST "coder" "B" → RoadKit.Fld Z h' x O n d w
theorem backArv {p : Program} {l : Launch} {e : Env} {R : Room} {s : State} {args : Array Value} {below : List Frame} {len W : Nat} {Z : State} {a0 : Array Value} {h : Heap} (hZ : Z.Warmed39 s.vm) (hw : ∀ d ∈ words, d.before a0 Z = true) {kI : Nat} (wi : (Jvm.Cond.instantiable ST kI).before a0 Z = true)
    {x b : Addr} {k : ClassId} {zn z : Int32} {cs : List Int32} {dv v0 c0 : Value} (E : RoadKit.Exa Z h x ST) (V : RoadKit.Fld Z h x ST "value" "[B" v0) (C : RoadKit.Fld Z h x ST "coder" "B" c0) (K : RoadKit.Arv Z h b k .char zn (cs.map Value.int) dv) (S : RoadKit.Sta Z h ST "COMPACT_STRINGS" "Z" (.int z)) (hz : ¬ z = 0)
    (hlen : zn.toNatClampNeg = cs.length) (h0 : 0 < cs.length) (hbig : cs.length ≤ 536870912) (hall : ∀ c ∈ cs, ¬ 255 < c) (hfr : 4 ≤ R.frames) (hlo : W + 65 ≤ R.locals) :
    Back l R p e below s args New1.yN len W (fun P a => a = #[.ref x, .ref b] ∧ P.U.heap = h ∧ P.cells + 1 ≤ R.cells ∧ P.slots + cs.length ≤ R.slots)
      (fun P _ v B => ∃ L, QA Z x zn cs h v B.U.heap L ∧ B.locs = P.locs ++ L ∧ B.cells = P.cells + 1 ∧ B.slots = P.slots + cs.length) := by
  obtain ⟨A, K1, K2, K3, K4, K5, K6⟩ := K
  have e : A.slots.size = cs.length := K3.trans hlen
  have hat : ∀ (i : Nat) (hi : i < cs.length), A.slots[i]? = some (.int cs[i]) := fun i hi => by rw [K5 i (by omega)]; simp [List.getD_eq_getElem?_getD, hi]
  have hcv : ∀ (i : Nat) (hi : i < cs.length), cv A i = cs[i] := fun i hi => by unfold cv; rw [hat i hi]
  have hty : Typed .char A := fun i v hv => by
    have hi : i < A.slots.size := (Array.getElem?_eq_some_iff.mp hv).1
    have q := K5 i hi
    rw [hv] at q
    rw [Option.some.inj q]
    exact K6 i hi
  refine Back.mono (back hZ hw wi E V C K1 hty S hz (by omega) (by omega) (fun i hi => by rw [hcv i (by omega)]; exact hall _ (List.getElem_mem _)) hfr hlo) (fun P a hp => ⟨hp.1, hp.2.1, hp.2.2.1, by rw [e]; exact hp.2.2.2⟩) (fun P a v B hp hq => ?_)
  obtain ⟨L, ⟨q1, q2, q3, q4, q5, q6, q7, ⟨V', v1, v2, v3, v4, v5⟩, q9⟩, hl, hc, hs⟩ := hq
  refine ⟨L, ⟨q1, q2, q3, q4, q5, q6, q7, ⟨V'.cls, v3, V', v1, rfl, by rw [v4, e, hlen], K4, fun i hi => ?_, fun i hi => ?_⟩, q9⟩, hl, hc, by rw [hs, e]⟩
  · have hi' : i < cs.length := by omega
    rw [v5 i (by omega), hcv i hi']; simp [List.getD_eq_getElem?_getD, hi']
  · have hi' : i < cs.length := by omega
    simp only [List.getD_eq_getElem?_getD, List.getElem?_map, List.getElem?_eq_getElem hi', Option.map_some, Option.getD_some]
    exact fits_lo8 _
end StrChars.Road
namespace StrChars.Road
open Jvm Sem ClassFile Op Lib Jvm.Stand Jvm.Free Jvm.Free.XT
def QV (Z : State) (x : Addr) (N : Int32) (bs : List Int32) (h : Heap) (n0 : Nat) (v : Option Value) (h' : Heap) (L : List Loc) : Prop := v = none ∧ RoadKit.Fr n0 L ∧ RoadKit.Keep h h' [x] ∧ RoadKit.Exa Z h' x ST ∧ RoadKit.Fld Z h' x ST "coder" "B" (.int 0) ∧
  ∃ (t : Addr) (kb : ClassId), n0 ≤ t ∧ h.size ≤ t ∧ ¬ t = x ∧ RoadKit.Fld Z h' x ST "value" "[B" (.ref t) ∧ RoadKit.Arv Z h' t kb .byte N (bs.map Value.int) (.int 0)
theorem backV {p : Program} {l : Launch} {e : Env} {R : Room} {s : State} {args : Array Value} {below : List Frame} {len W : Nat} {Z : State} {a0 : Array Value} {h : Heap} (hZ : Z.Warmed39 s.vm) (hw : ∀ d ∈ words, d.before a0 Z = true) {kI : Nat} (wi : (Jvm.Cond.instantiable ST kI).before a0 Z = true)
    {x b : Addr} {kC : ClassId} {cs bs : List Int32} {d v0 c0 : Value} {z N : Int32} {n n0 : Nat} (hx0 : n0 ≤ x) (hh0 : n0 ≤ h.size) (E : RoadKit.Exa Z h x ST) (V : RoadKit.Fld Z h x ST "value" "[B" v0) (C : RoadKit.Fld Z h x ST "coder" "B" c0) (K : RoadKit.Arv Z h b kC .char N (cs.map Value.int) d) (S : RoadKit.Sta Z h ST "COMPACT_STRINGS" "Z" (.int z)) (hz : ¬ z = 0)
    (hn : cs.length = n) (hN : N = Int32.ofNat n) (l0 : 0 < n) (l2 : n ≤ 4000) (hp : ∀ c ∈ cs, ¬ c < 0 ∧ ¬ (255 : Int32) < c) (hb : bs = cs.map (fun c => c.toInt8.toInt32)) (hfr : 4 ≤ R.frames) (hlo : W + 65 ≤ R.locals) :
    Back l R p e below s args (⟨"java/lang/String", "<init>", "([C)V"⟩ : MethodName) len W (fun P a => a = #[.ref x, .ref b] ∧ P.U.heap = h ∧ P.cells + 1 ≤ R.cells ∧ P.slots + n ≤ R.slots)
      (fun P _ v B => ∃ L, QV Z x N bs h n0 v B.U.heap L ∧ B.locs = P.locs ++ L ∧ B.cells = P.cells + 1 ∧ B.slots = P.slots + n) := by
  subst hn hN hb
  refine Back.mono (backArv hZ hw wi E V C K S hz (n32 (by omega)) l0 (by omega) (fun c hc => (hp c hc).2) hfr hlo) (fun P a hp => hp) (fun P a v B hp hq => ?_)
  obtain ⟨L, ⟨q1, q2, q3, q4, q5, q6, q7, ⟨kb, v1, v2⟩, q9⟩, hl, hc, hs⟩ := hq
  exact ⟨L, ⟨q1, fun y hy => by rw [q2 y hy]; exact hx0, q3, q5, q7, h.size, kb, hh0, Nat.le_refl _, Nat.ne_of_gt E.lt, q6, by rw [List.map_map]; exact v2⟩, hl, hc, hs⟩
end StrChars.Road
end Jvm.Pilot.@@N@@
namespace Jvm.Pilot.@@N@@
open Jvm Jvm.ClassFile Sem Op Lib Jvm.Free Jvm.Stand Jvm.LawKit Jvm.RoadKit Jvm.S9 Bundle Jvm.Pilot.@@N@@.Jvm.D
theorem wI {a0 : Array Value} {Z : State} (hw : ∀ d ∈ tables_1, d.before a0 Z = true) (i : Nat) {d : Cond} (h : tables_1[i]? = some d) : d.before a0 Z = true := hw d (List.mem_of_getElem? h)
theorem lT {a b c : Nat} (h : a ≤ b) (k : b ≤ c) : a ≤ c := Nat.le_trans h k
theorem lL {a b c : Nat} (h : a < b) (k : b ≤ c) : a < c := Nat.lt_of_lt_of_le h k
theorem nL {a b : Nat} (h : a < b) : a ≠ b := Nat.ne_of_lt h
def Cmp (Z : State) : Prop := ∃ z : Int32, ¬ z = 0 ∧ Sta Z Z.heap "java/lang/String" "COMPACT_STRINGS" "Z" (.int z)
theorem own_c255 (x : Int32) : ¬ nar .char ((x &&& (255 : Int32)).toUInt32.toUInt16.toUInt32.toInt32) < 0 ∧ ¬ (255 : Int32) < nar .char ((x &&& (255 : Int32)).toUInt32.toUInt16.toUInt32.toInt32) := by
  have t : ∀ k : Fin 256, ¬ nar .char ((Int32.ofNat k.val).toUInt32.toUInt16.toUInt32.toInt32) < 0 ∧ ¬ (255 : Int32) < nar .char ((Int32.ofNat k.val).toUInt32.toUInt16.toUInt32.toInt32) := by decide +kernel
  have h : (x &&& 255).toBitVec.toNat < 256 := by
    simp only [Int32.toBitVec_and, BitVec.toNat_and]
    exact Nat.lt_succ_of_le Nat.and_le_right
  have e : (x &&& 255) = Int32.ofNat (x &&& 255).toBitVec.toNat := by
    apply Int32.toBitVec_inj.mp
    show _ = BitVec.ofNat 32 _
    rw [BitVec.ofNat_toNat]; simp
  rw [e]
  exact t ⟨_, h⟩
theorem own_char (x : Int32) : ¬ ((x &&& (255 : Int32)).toUInt32.toUInt16.toUInt32.toInt32) < 0 ∧ ¬ (255 : Int32) < ((x &&& (255 : Int32)).toUInt32.toUInt16.toUInt32.toInt32) := by
  have t : ∀ k : Fin 256, ¬ ((Int32.ofNat k.val).toUInt32.toUInt16.toUInt32.toInt32) < 0 ∧ ¬ (255 : Int32) < ((Int32.ofNat k.val).toUInt32.toUInt16.toUInt32.toInt32) := by decide +kernel
  have h : (x &&& 255).toBitVec.toNat < 256 := by
    simp only [Int32.toBitVec_and, BitVec.toNat_and]
    exact Nat.lt_succ_of_le Nat.and_le_right
  have e : (x &&& 255) = Int32.ofNat (x &&& 255).toBitVec.toNat := by
    apply Int32.toBitVec_inj.mp
    show _ = BitVec.ofNat 32 _
    rw [BitVec.ofNat_toNat]; simp
  rw [e]
  exact t ⟨_, h⟩
theorem own_i8 (x : Int32) : x.toInt8.toInt32.toInt8.toInt32 = x.toInt8.toInt32 := by simp
theorem own_words_new : ∀ d ∈ StrChars.Road.words, d ∈ tables_1 := by decide +kernel
theorem own_newStr {p : Program} {l : Launch} {e : Env} {R : Room} {s : State} {args : Array Value} {below : List Frame} {W : Nat} {Z : State} {a0 : Array Value} (hZ : Z.Warmed39 s.vm) (hfr : 4 ≤ R.frames) (hlo : W + 65 ≤ R.locals) (hw : ∀ d ∈ tables_1, d.before a0 Z = true) (x b : Addr) (kC : ClassId) (cs : List Int32) (N : Int32) (d v0 c0 : Value) (nn : Nat) (h : Heap) (n0 : Nat) (Z0 : n0 ≤ h.size) (g_x : n0 ≤ x)
    (E : Exa Z h x "java/lang/String") (V : Fld Z h x "java/lang/String" "value" "[B" v0) (C : Fld Z h x "java/lang/String" "coder" "B" c0) (K : Arv Z h b kC .char N (cs.map Value.int) d) (O : Old Z n0 h) (hn : cs.length = nn) (hN : N = Int32.ofNat nn) (l0 : 0 < nn) (l2 : nn ≤ 4000) (hp : ∀ c ∈ cs, ¬ c < 0 ∧ ¬ (255 : Int32) < c) (G : Cmp Z) :
    Jvm.Y9.Bk l R p e below s args (⟨"java/lang/String", "<init>", "([C)V"⟩ : MethodName) 3 W #[.ref x, .ref b] h 1 nn n0 (fun v h' => ∃ (t : Addr) (kb : ClassId), v = none ∧ Keep h h' [x] ∧ h.size ≤ t ∧ Str Z h' x t kb cs) := by
  obtain ⟨z, hz, S⟩ := G
  subst hn
  refine Back.mono (StrChars.Road.backV (W := W) hZ (fun d hd => hw d (own_words_new d hd)) (kI := 4) (wI hw 11 rfl) g_x Z0 E V C K (S.ext O.2) hz rfl hN l0 l2 hp rfl hfr hlo) (fun P a hp => hp) (fun P a v B _ hq => ?_)
  obtain ⟨L, ⟨q1, q2, q3, q4, q5, t, kb, q6, q7, q8, q9, q10⟩, r⟩ := hq
  refine ⟨L, ⟨⟨t, kb, q1, q3, q7, q4, q9, q5, ?_, hp, l2⟩, q2⟩, r⟩
  subst hN
  rw [List.map_map] at q10
  exact q10
def fill (cs : List Int32) (cap : Nat) : List Value := (cs.map fun c => Value.int (c.toInt8.toInt32)) ++ List.replicate (cap - cs.length) (Value.int (0 : Int32))
theorem fill_length {cs : List Int32} {cap : Nat} (h : cs.length ≤ cap) : (fill cs cap).length = cap := by simp [fill]; omega
theorem own_clamp {n : Nat} (h : n ≤ 100000) : (Int32.ofNat n).toNatClampNeg = n ∧ ¬ Int32.ofNat n < 0 ∧ (Int32.ofNat n).toInt = n := by
  have e : (Int32.ofNat n).toInt = n := Int32.toInt_ofNat_of_lt (by omega)
  have z : (0 : Int32).toInt = 0 := by decide
  refine ⟨?_, fun q => ?_, e⟩
  · show (Int32.ofNat n).toInt.toNat = n
    rw [e]; rfl
  · rw [Int32.lt_iff_toInt_lt, e, z] at q; omega
theorem own_shr0 (x : Int32) : (x >>> ((0 : Int32) &&& 31)) = x := by
  have e : ((0 : Int32) &&& 31) = 0 := by decide
  rw [e]; simp
theorem own_shl0 (x : Int32) : (x <<< ((0 : Int32) &&& 31)) = x := by
  have e : ((0 : Int32) &&& 31) = 0 := by decide
  rw [e]; simp
theorem own_sub0 (x : Int32) : (x - (0 : Int32)) = x := by simp
theorem own_add {a b : Nat} : (Int32.ofNat a + Int32.ofNat b) = Int32.ofNat (a + b) := by simp
theorem own_fits {m cap : Nat} (h : m ≤ cap) (hc : cap ≤ 100000) : ¬ ((0 : Int32) < (Int32.ofNat m - Int32.ofNat cap)) := by
  intro q
  have h1 := (own_clamp (n := m) (by omega)).2.2
  have h2 := (own_clamp hc).2.2
  have z : (0 : Int32).toInt = 0 := by decide
  have h3 := c_isub (Int32.ofNat m) (Int32.ofNat cap)
  have r := rng32 (Int32.ofNat m - Int32.ofNat cap)
  rw [Int32.lt_iff_toInt_lt, z] at q
  rw [h1, h2] at h3
  omega
theorem own_lt {a b : Nat} (h : a < b) (hb : b ≤ 100000) : Int32.ofNat a < Int32.ofNat b := by
  rw [Int32.lt_iff_toInt_lt, (own_clamp (n := a) (by omega)).2.2, (own_clamp hb).2.2]; omega
theorem own_ne {a b : Nat} (h : a ≠ b) (ha : a ≤ 100000) (hb : b ≤ 100000) : ¬ (Int32.ofNat a = Int32.ofNat b) := by
  intro q
  have := congrArg Int32.toInt q
  rw [(own_clamp ha).2.2, (own_clamp hb).2.2] at this
  omega
theorem own_range {vs : List Value} {dv : Value} (n : Nat) (h : n ≤ vs.length) : ((List.range n).map fun i => vs.getD (0 + i) dv) = vs.take n := by
  apply List.ext_getElem?
  intro i
  by_cases hi : i < n
  · have : i < vs.length := by omega
    simp [hi, this, List.getElem?_take]
  · simp [hi, List.getElem?_take]
theorem fill_copy {cs ds : List Int32} {cap : Nat} {dv : Value} (h : cs.length + ds.length ≤ cap) (hc : cap ≤ 100000) :
    ((fill cs cap).take (Int32.ofNat cs.length).toNatClampNeg ++ ((List.range (Int32.ofNat ds.length).toNatClampNeg).map fun i => (ds.map fun c => Value.int (c.toInt8.toInt32)).getD ((0 : Int32).toNatClampNeg + i) dv) ++ (fill cs cap).drop ((Int32.ofNat cs.length).toNatClampNeg + (Int32.ofNat ds.length).toNatClampNeg)) = fill (cs ++ ds) cap := by
  rw [(own_clamp (n := cs.length) (by omega)).1, (own_clamp (n := ds.length) (by omega)).1, show (0 : Int32).toNatClampNeg = 0 from by decide, own_range _ (by simp)]
  have e1 : (fill cs cap).take cs.length = cs.map fun c => Value.int (c.toInt8.toInt32) := by simp [fill]
  have e2 : (fill cs cap).drop (cs.length + ds.length) = List.replicate (cap - (cs ++ ds).length) (Value.int (0 : Int32)) := by
    rw [fill, List.drop_append, List.drop_eq_nil_of_le (by simp), List.nil_append, List.length_map, List.drop_replicate, List.length_append]
    congr 1
    omega
  rw [e1, e2, fill, List.map_append, List.take_of_length_le (by simp)]
theorem fill_out {cs : List Int32} {cap : Nat} {dv : Value} (h : cs.length ≤ cap) (hc : cap ≤ 100000) :
    ((List.replicate cs.length (Value.int (0 : Int32))).take (0 : Int32).toNatClampNeg ++ ((List.range (Int32.ofNat cs.length).toNatClampNeg).map fun i => (fill cs cap).getD ((0 : Int32).toNatClampNeg + i) dv) ++ (List.replicate cs.length (Value.int (0 : Int32))).drop ((0 : Int32).toNatClampNeg + (Int32.ofNat cs.length).toNatClampNeg)) = cs.map fun c => Value.int (c.toInt8.toInt32) := by
  rw [(own_clamp (n := cs.length) (by omega)).1, show (0 : Int32).toNatClampNeg = 0 from by decide, own_range _ (by rw [fill_length h]; exact h)]
  simp [fill]
def Bld (Z : State) (h : Heap) (x t : Addr) (kb : ClassId) (cs : List Int32) (cap : Nat) : Prop :=
  Exa Z h x "java/lang/StringBuilder" ∧ Fld Z h x "java/lang/AbstractStringBuilder" "value" "[B" (.ref t) ∧ Fld Z h x "java/lang/AbstractStringBuilder" "coder" "B" (.int 0) ∧ Fld Z h x "java/lang/AbstractStringBuilder" "count" "I" (.int (Int32.ofNat cs.length)) ∧ Arv Z h t kb .byte (Int32.ofNat cap) (fill cs cap) (.int 0)
theorem Bld.keep {Z : State} {h h' : Heap} {x t : Addr} {kb : ClassId} {cs : List Int32} {cap : Nat} {ws : List Addr} (F : Bld Z h x t kb cs cap) (K : Keep h h' ws) (q1 : x ∉ ws) (q2 : t ∉ ws) : Bld Z h' x t kb cs cap :=
  ⟨F.1.keep K, F.2.1.keep K q1, F.2.2.1.keep K q1, F.2.2.2.1.keep K q1, F.2.2.2.2.keep K q2⟩
theorem own_chr : ∀ k : Fin 256, nar .char ((((Int32.ofNat k.val).toInt8.toInt32) &&& (255 : Int32)).toUInt32.toUInt16.toUInt32.toInt32) = Int32.ofNat k.val := by decide +kernel
theorem own_in {c : Int32} (h : ¬ c < 0 ∧ ¬ (255 : Int32) < c) : ∃ k : Fin 256, c = Int32.ofNat k.val := by
  have z : (0 : Int32).toInt = 0 := by decide
  have y : (255 : Int32).toInt = 255 := by decide
  rw [Int32.lt_iff_toInt_lt, Int32.lt_iff_toInt_lt, z, y] at h
  refine ⟨⟨c.toInt.toNat, by omega⟩, ?_⟩
  apply Int32.toInt_inj.mp
  rw [(own_clamp (n := c.toInt.toNat) (by omega)).2.2]
  omega
theorem own_chr_of {c : Int32} (h : ¬ c < 0 ∧ ¬ (255 : Int32) < c) : nar .char (((c.toInt8.toInt32) &&& (255 : Int32)).toUInt32.toUInt16.toUInt32.toInt32) = c := by
  obtain ⟨k, rfl⟩ := own_in h
  exact own_chr k
theorem own_get {ds : List Int32} {i : Int32} (h0 : ¬ i < 0) (h1 : i < Int32.ofNat ds.length) (h4 : ds.length ≤ 4000) : (ds.map fun c => Value.int (c.toInt8.toInt32)).getD i.toNatClampNeg (.int 0) = .int ((ds.getD i.toNatClampNeg 0).toInt8.toInt32) ∧ ds.getD i.toNatClampNeg 0 ∈ ds := by
  have z : (0 : Int32).toInt = 0 := by decide
  have e := (own_clamp (n := ds.length) (by omega)).2.2
  rw [Int32.lt_iff_toInt_lt, z] at h0
  rw [Int32.lt_iff_toInt_lt, e] at h1
  have hi : i.toNatClampNeg < ds.length := by show i.toInt.toNat < ds.length; omega
  refine ⟨?_, ?_⟩
  · simp [List.getD_eq_getElem?_getD, hi]
  · rw [List.getD_eq_getElem?_getD, List.getElem?_eq_getElem hi]; exact List.getElem_mem hi
theorem own_narC256 : ∀ k : Fin 256, nar .char (Int32.ofNat k.val) = Int32.ofNat k.val := by decide +kernel
theorem own_narC {c : Int32} (h : ¬ c < 0 ∧ ¬ (255 : Int32) < c) : nar .char c = c := by
  obtain ⟨k, rfl⟩ := own_in h
  exact own_narC256 k
def Sio (Z : State) : Prop := ∃ v, Sta Z Z.heap "jdk/internal/util/Preconditions" "SIOOBE_FORMATTER" "Ljava/util/function/BiFunction;" v ∧ v.category = 1
theorem own_subN {a b : Nat} (h : b ≤ a) : (Int32.ofNat a - Int32.ofNat b) = Int32.ofNat (a - b) := (Int32.ofNat_sub _ _ h).symm
/-! Integer's digit tables, and what getChars writes -/
open Jvm.Free.SBG in
def Dig (Z : State) : Prop := ∃ (st d1 d2 : Addr) (D1 D2 : Cell), Tbl Z "DigitOnes" st d1 D1 ∧ Tbl Z "DigitTens" st d2 D2 ∧ Ones D1 ∧ Tens D2
def mag (i : Int32) : Nat := i.toInt.natAbs
def dec (i : Int32) : List Int32 := (if i < 0 then [45] else []) ++ (List.range (Jvm.Free.SBG.digits (mag i))).map fun t => Int32.ofNat (48 + mag i / 10 ^ (Jvm.Free.SBG.digits (mag i) - 1 - t) % 10)
open Jvm.Free.SBG in
theorem mag_le (i : Int32) : mag i ≤ 2 ^ 31 := by have := rng32 i; unfold mag; omega
open Jvm.Free.SBG in
theorem mag_neg (i : Int32) : (if i < 0 then i else -i) = negI (mag i) := by
  have h := mag_le i
  have r := rng32 i
  have z : (0 : Int32).toInt = 0 := by decide
  apply Int32.toInt_inj.mp
  rw [negI_toInt h]
  by_cases q : i < 0
  · rw [if_pos q]
    rw [Int32.lt_iff_toInt_lt, z] at q
    unfold mag; omega
  · rw [if_neg q]
    rw [Int32.lt_iff_toInt_lt, z] at q
    have e := c_isub 0 i
    rw [z] at e
    have e2 : (0 : Int32) - i = -i := by simp
    rw [e2] at e
    have r2 := rng32 (-i)
    unfold mag; omega
theorem dec_len (i : Int32) : (dec i).length = Jvm.Free.SBG.digits (mag i) + Jvm.Free.SBG.GetChars.sgn i := by
  unfold dec Jvm.Free.SBG.GetChars.sgn
  split <;> simp <;> omega
theorem dig_b : ∀ k : Fin 10, (Int32.ofNat (48 + k.val)).toInt8.toInt32 = Int32.ofNat (48 + k.val) ∧ ¬ Int32.ofNat (48 + k.val) < 0 ∧ ¬ (255 : Int32) < Int32.ofNat (48 + k.val) := by decide +kernel
theorem dec_in (i : Int32) : ∀ c ∈ dec i, ¬ c < 0 ∧ ¬ (255 : Int32) < c := by
  intro c hc
  unfold dec at hc
  rcases List.mem_append.mp hc with h | h
  · split at h
    · simp only [List.mem_cons, List.not_mem_nil, or_false] at h; subst h; decide
    · cases h
  · obtain ⟨t, -, rfl⟩ := List.mem_map.mp h
    exact (dig_b ⟨_, Nat.mod_lt _ (by omega)⟩).2
theorem dec_get (i : Int32) (k : Nat) (hk : k < (dec i).length) : (dec i).getD k 0 = (if i < 0 then (if k = 0 then 45 else Int32.ofNat (48 + mag i / 10 ^ (Jvm.Free.SBG.digits (mag i) - k) % 10)) else Int32.ofNat (48 + mag i / 10 ^ (Jvm.Free.SBG.digits (mag i) - 1 - k) % 10)) := by
  rw [dec_len] at hk
  unfold Jvm.Free.SBG.GetChars.sgn at hk
  unfold dec
  by_cases q : i < 0
  · rw [if_pos q] at hk
    rw [if_pos q, if_pos q]
    cases k with
    | zero => rfl
    | succ k =>
      have h : k < Jvm.Free.SBG.digits (mag i) := by omega
      simp only [List.cons_append, List.nil_append, List.getD_cons_succ, Nat.add_eq_zero_iff, Nat.one_ne_zero, and_false, if_false]
      rw [show Jvm.Free.SBG.digits (mag i) - (k + 1) = Jvm.Free.SBG.digits (mag i) - 1 - k from by omega]
      simp [List.getD_eq_getElem?_getD, h]
  · rw [if_neg q] at hk
    rw [if_neg q, if_neg q]
    have h : k < Jvm.Free.SBG.digits (mag i) := by omega
    simp [List.getD_eq_getElem?_getD, h]
theorem own_ssz {p : Program} {l : Launch} {e : Env} {R : Room} {s : State} {args : Array Value} {below : List Frame} {W : Nat} {Z : State} {a0 : Array Value} (hZ : Z.Warmed39 s.vm) (hfr : 2 ≤ R.frames) (hlo : W + 55 ≤ R.locals) (hw : ∀ d ∈ tables_1, d.before a0 Z = true) (i : Int32) (h : Heap) (n0 : Nat) (Z0 : n0 ≤ h.size) :
    Jvm.Y9.Bk l R p e below s args (⟨"java/lang/Integer", "stringSize", "(I)I"⟩ : MethodName) 3 W #[.int i] h 0 0 n0 (fun v h' => v = some (.int (Int32.ofNat (dec i).length)) ∧ h = h') := by
  have w1 : Jvm.Free.SBG.StrSize.tab ∈ tables_1 := by decide +kernel
  have w2 : (Cond.initialized "java/lang/Integer") ∈ tables_1 := by decide +kernel
  refine Back.mono (Jvm.Free.SBG.StrSize.pays (W := W) hfr hlo (mvT hZ (hw _ w1)) (mvT hZ (hw _ w2))) (fun A a hp => ⟨hp.2.2.1, hp.2.2.2, i, hp.1⟩) (fun A a v B hp hq => ?_)
  obtain ⟨⟨q1, q2, q3, q4⟩, q5⟩ := hq
  refine ⟨[], ⟨⟨?_, (q1.trans hp.2.1).symm⟩, Fr.nil n0⟩, by rw [q2]; simp, q3, q4⟩
  rw [q5 i hp.1, Jvm.Free.SBG.strSizeOf_eq (mag_le i) (mag_neg i), dec_len]
theorem fill_get {cs : List Int32} {cap j : Nat} : (fill cs cap).getD j (.int 0) = .int ((cs.getD j 0).toInt8.toInt32) := by
  have z : (0 : Int32).toInt8.toInt32 = 0 := by decide
  simp only [fill, List.getD_eq_getElem?_getD]
  by_cases h : j < cs.length
  · rw [List.getElem?_append_left (by simpa using h)]
    simp [h]
  · rw [List.getElem?_append_right (by simpa using h)]
    simp only [List.length_map, List.getElem?_replicate]
    rw [List.getElem?_eq_none (by omega)]
    split <;> simp [z]
theorem getD_app {cs ds : List Int32} {j : Nat} : (cs ++ ds).getD j 0 = if j < cs.length then cs.getD j 0 else ds.getD (j - cs.length) 0 := by
  simp only [List.getD_eq_getElem?_getD]
  split
  · rename_i h; rw [List.getElem?_append_left h]
  · rename_i h; rw [List.getElem?_append_right (by omega)]
open Jvm.Free.SBG in
theorem outCell_cv (g : GetChars.G) : (GetChars.outCell g).cls = g.A.cls ∧ (GetChars.outCell g).vm = g.A.vm := by
  obtain ⟨h1, h2, -⟩ := digLoop_facts g.D1 g.D2 5 g.A g.n g.idx
  unfold GetChars.outCell
  split
  · obtain ⟨p1, p2, -⟩ := put_facts (digLoop g.D1 g.D2 5 g.A g.n g.idx).1 ((digLoop g.D1 g.D2 5 g.A g.n g.idx).2 - 1) 45
    exact ⟨p1.trans h1, p2.trans h2⟩
  · exact ⟨h1, h2⟩
open Jvm.Free.SBG in
theorem own_gch {p : Program} {l : Launch} {e : Env} {R : Room} {s : State} {args : Array Value} {below : List Frame} {W : Nat} {Z : State} {a0 : Array Value} (hZ : Z.Warmed39 s.vm) (hfr : 2 ≤ R.frames) (hlo : W + 78 ≤ R.locals) (hw : ∀ d ∈ tables_1, d.before a0 Z = true) (i : Int32) (t : Addr) (kb : ClassId) (cs : List Int32) (cap : Nat) (h : Heap) (n0 : Nat) (Z0 : n0 ≤ h.size) (g_t : n0 ≤ t)
    (F : Arv Z h t kb .byte (Int32.ofNat cap) (fill cs cap) (.int 0)) (O : Old Z n0 h) (hl : cs.length + (dec i).length ≤ cap) (hc : cap ≤ 100000) (GD : Dig Z) :
    Jvm.Y9.Bk l R p e below s args (⟨"java/lang/Integer", "getChars", "(II[B)I"⟩ : MethodName) 3 W #[.int i, .int (Int32.ofNat (cs.length + (dec i).length)), .ref t] h 0 0 n0 (fun v h' => ∃ z : Int32, v = some (.int z) ∧ Keep h h' [t] ∧ Arv Z h' t kb .byte (Int32.ofNat cap) (fill (cs ++ dec i) cap) (.int 0)) := by
  have w1 : (Cond.code GetChars.gcN GetChars.gcB 7 (some .int)) ∈ tables_1 := by decide +kernel
  have w2 : (Cond.fieldLink "java/lang/Integer" 83 "java/lang/Integer" "DigitOnes" "[B") ∈ tables_1 := by decide +kernel
  have w3 : (Cond.fieldLink "java/lang/Integer" 87 "java/lang/Integer" "DigitTens" "[B") ∈ tables_1 := by decide +kernel
  have w4 : (Cond.initialized "java/lang/Integer") ∈ tables_1 := by decide +kernel
  have htab : GetChars.tab.before args s = true := by
    simp only [GetChars.tab, Cond.before_and, Bool.and_eq_true]
    exact ⟨mvT hZ (hw _ w1), mvT hZ (hw _ w2), mvT hZ (hw _ w3)⟩
  obtain ⟨st, d1, d2, D1, D2, T1, T2, O1, O2⟩ := GD
  obtain ⟨cl, ⟨f1, f2, f3⟩, f4, f5, f6, f7, f8⟩ := F
  have hcap := (own_clamp hc).1
  rw [hcap] at f5
  have hidx := dec_len i
  intro m meth c A g ig mk a X hg hsize hdg hW hn hp
  obtain ⟨rfl, e2, e3, e4⟩ := hp
  have hal : Z.vm.Alike A.U.vm := (wtrans hZ X.warmed).alike
  have ext : ∀ (b : Addr) (cl : Cell), Z.heap[b]? = some cl → A.U.heap[b]? = some cl := fun b cl q => by rw [e2]; exact O.2.2 b cl q
  have below0 : ∀ (b : Addr) (cl : Cell), Z.heap[b]? = some cl → t ≠ b := fun b cl q z => by
    have h1 := (Array.getElem?_eq_some_iff.mp q).1
    rw [O.1] at h1
    exact Nat.lt_irrefl _ (lL h1 (z ▸ g_t))
  obtain ⟨_, _, _, _, cS1, _, _, _, _, a5, _, _, a8, _⟩ := id T1
  obtain ⟨_, _, _, _, _, _, _, _, _, _, _, _, b8, _⟩ := id T2
  let gg : GetChars.G := { x := i, n := mag i, idx := cs.length + (dec i).length, da := t, A := cl, st := st, d1 := d1, D1 := D1, d2 := d2, D2 := D2 }
  have hroom : Jvm.Free.SBG.digits (mag i) + GetChars.sgn i ≤ cs.length + (dec i).length := by omega
  have hix : cs.length + (dec i).length ≤ cl.slots.size := by omega
  have hP : GetChars.P gg #[.int i, .int (Int32.ofNat (cs.length + (dec i).length)), .ref t] A.U := ⟨rfl, by rw [e2]; exact f1, State.isArrayOf_alike hal f2, f3, by show cl.slots.size < 2 ^ 31; omega, hix, hroom, mag_le i, mag_neg i, T1.move hal (fun c q => ext _ _ q) (ext _ _ a8), T2.move hal (fun c q => ext _ _ q) (ext _ _ b8), below0 _ _ a5, below0 _ _ a8, below0 _ _ b8⟩
  obtain ⟨v, B, X', hpost, st'⟩ := GetChars.pays gg W htab (mvT hZ (hw _ w4)) hfr hlo m meth c A g ig mk _ X hg hsize hdg hW hn ⟨rfl, e3, e4, hP⟩
  obtain ⟨q1, q2, q3, q4, q5, q6, L, q7, q8⟩ := hpost
  obtain ⟨c1, c2⟩ := outCell_cv gg
  have c3 : (GetChars.outCell gg).slots.size = cl.slots.size := outCell_size gg
  obtain ⟨hA, hB, hC⟩ := outCell_at gg O1 O2 (mag_le i) hroom hix
  refine ⟨v, B, X', ⟨L, ⟨⟨_, q1, ⟨by rw [q5, e2]; exact Nat.le_refl _, fun x c q r => q6 x c (fun z => r (by simp [z, gg])) (by rw [e2]; exact q), fun x c q => ?_⟩, ⟨GetChars.outCell gg, ⟨q2, ?_, by rw [c2]; exact f3⟩, c1.trans f4, by rw [c3, f5, hcap], f6, ?_, ?_⟩⟩, fun y hy => by rw [q8 y hy]; exact g_t⟩, q7, q3, q4⟩, st'⟩
  · by_cases z : x = t
    · subst z
      cases f1.symm.trans q
      exact ⟨_, q2, c1, c2, c3⟩
    · exact ⟨c, q6 x c z (by rw [e2]; exact q), rfl, rfl, rfl⟩
  · obtain ⟨r1, k, r2, comp, r3⟩ := f2
    exact ⟨fun q => by rw [c2]; exact r1 q, k, by rw [c1]; exact r2, comp, r3⟩
  · intro k hk
    rw [c3] at hk
    rw [fill_get, getD_app]
    by_cases h1 : k < cs.length
    · rw [if_pos h1, hC k (Or.inl (by show k < cs.length + (dec i).length - (Jvm.Free.SBG.digits (mag i) + GetChars.sgn i); omega))]
      show cl.slots[k]? = _
      rw [f7 k hk, fill_get]
    · rw [if_neg h1]
      by_cases h2 : k < cs.length + (dec i).length
      · have hu : k - cs.length < (dec i).length := by omega
        rw [dec_get i _ hu]
        by_cases hs : i < 0
        · have e1 : GetChars.sgn i = 1 := if_pos hs
          rw [if_pos hs]
          by_cases h0 : k - cs.length = 0
          · rw [if_pos h0]
            have := hB hs
            rw [show gg.idx - Jvm.Free.SBG.digits gg.n - 1 = k from by show cs.length + (dec i).length - Jvm.Free.SBG.digits (mag i) - 1 = k; omega] at this
            rw [this]; rfl
          · rw [if_neg h0]
            have := hA (Jvm.Free.SBG.digits (mag i) - (k - cs.length)) (by show Jvm.Free.SBG.digits (mag i) - (k - cs.length) < Jvm.Free.SBG.digits (mag i); omega)
            rw [show gg.idx - 1 - (Jvm.Free.SBG.digits (mag i) - (k - cs.length)) = k from by show cs.length + (dec i).length - 1 - (Jvm.Free.SBG.digits (mag i) - (k - cs.length)) = k; omega] at this
            rw [this, (dig_b ⟨_, Nat.mod_lt (mag i / 10 ^ (Jvm.Free.SBG.digits (mag i) - (k - cs.length))) (by omega)⟩).1]
        · have e1 : GetChars.sgn i = 0 := if_neg hs
          rw [if_neg hs]
          have := hA (Jvm.Free.SBG.digits (mag i) - 1 - (k - cs.length)) (by show Jvm.Free.SBG.digits (mag i) - 1 - (k - cs.length) < Jvm.Free.SBG.digits (mag i); omega)
          rw [show gg.idx - 1 - (Jvm.Free.SBG.digits (mag i) - 1 - (k - cs.length)) = k from by show cs.length + (dec i).length - 1 - (Jvm.Free.SBG.digits (mag i) - 1 - (k - cs.length)) = k; omega] at this
          rw [this, (dig_b ⟨_, Nat.mod_lt (mag i / 10 ^ (Jvm.Free.SBG.digits (mag i) - 1 - (k - cs.length))) (by omega)⟩).1]
      · rw [hC k (Or.inr (by show cs.length + (dec i).length ≤ k; omega))]
        show cl.slots[k]? = _
        rw [f7 k hk, fill_get]
        rw [List.getD_eq_getElem?_getD, List.getD_eq_getElem?_getD, List.getElem?_eq_none (by omega), List.getElem?_eq_none (by omega)]
  · intro k hk
    rw [fill_get]; exact fits_nar_byte _
open Jvm.Free.SBG Jvm.Free.SB in
theorem tbl_own {a : Array Value} {s : State} {name : String} {rhs : Term} {F : Nat → Nat} (w1 : (Cond.laysStatic "java/lang/Integer" name "[B").before a s = true) (w2 : (Cond.exactly (Tof name) "[B").before a s = true) (w3 : (Cond.eq (.length (Tof name)) (.int 100)).before a s = true)
    (w4 : (Cond.all (Tof name) (.eq (.elem (Tof name) (.index 0)) rhs)).before a s = true) (hini : (Cond.initialized "java/lang/Integer").before a s = true) (harr : (Cond.arrayClass .byte).before a s = true) (hrhs : ∀ r, r < 100 → rhs.eval a s none [r] s = some (.int (Int32.ofNat (F r)))) (hF : ∀ r, r < 100 → 48 ≤ F r ∧ F r < 58) :
    ∃ (c : ClassId) (k : Class) (st d : Addr) (D : Cell), s.vm.findClass "java/lang/Integer" = some c ∧ s.vm.classes[c]? = some k ∧ k.statics = some st ∧ Tbl s name st d D ∧ ∀ r, r < 100 → iAt D r = Int32.ofNat (F r) := by
  have hev : ∀ {d : Addr}, (Tof name).eval a s none [] s = some (.ref d) → ∀ idx, (Tof name).eval a s none idx s = some (.ref d) := fun h idx => by
    have : (Tof name).eval a s none idx s = (Tof name).eval a s none [] s := by simp only [Tof, Term.eval]
    rw [this]; exact h
  have el := eqv_i (Z := s) (Term.int_eval (100)) (Cond.before_iff.mp w3)
  obtain ⟨d0, D0, e1, e2, e3⟩ := Term.length_spec el
  have hb : (bytesC (Tof name)).before a s = true := by
    refine holds_of_value (Cond.all_intro (hev e1 []) e2 fun i hi => ?_)
    have h31 : D0.slots.size < 2 ^ 31 := length_lt e1 e2 el
    have hs : D0.slots.size = 100 := by
      have q : D0.slots.size.toInt32 = 100 := by simpa using e3.symm
      have := congrArg Int32.toInt q
      rw [len_toInt h31, show (100 : Int32).toInt = 100 from by decide] at this
      omega
    have h := Cond.all_elim (hev e1 []) e2 (Cond.before_iff.mp w4) i hi
    have e := eqv_i (Z := s) (hrhs i (by omega)) h
    have f := hF i (by omega)
    have g := (own_clamp (n := F i) (by omega)).2.2
    have l1 : (-128 : Int32) ≤ Int32.ofNat (F i) := by rw [Int32.le_iff_toInt_le, g, show (-128 : Int32).toInt = -128 from by decide]; omega
    have l2 : Int32.ofNat (F i) ≤ (127 : Int32) := by rw [Int32.le_iff_toInt_le, g, show (127 : Int32).toInt = 127 from by decide]; omega
    simp [Cond.value, e, Term.int_eval, l1, l2]
  obtain ⟨c, k, st, d, D, h1, h2, h3, hT, hevd, hat⟩ := tbl_of_words2 (name := name) (a := a) (s := s) (fun w hw => by
    simp only [tblW, List.mem_cons, List.not_mem_nil, or_false] at hw
    rcases hw with rfl | rfl | rfl | rfl
    · exact w1
    · exact w2
    · exact w3
    · exact hb) hini harr
  obtain ⟨_, _, _, _, _, _, _, _, _, _, _, _, _, _, _, hsz, hint⟩ := id hT
  exact ⟨c, k, st, d, D, h1, h2, h3, hT, held_of_word hevd hat hsz hint hrhs w4⟩
open Jvm.Free.SBG Jvm.Free.SB in
theorem dig_start {a : Array Value} {s : State} (a1 : (Cond.laysStatic "java/lang/Integer" "DigitOnes" "[B").before a s = true) (a2 : (Cond.exactly (.static "java/lang/Integer" "DigitOnes" "[B") "[B").before a s = true) (a3 : (Cond.eq (.length (.static "java/lang/Integer" "DigitOnes" "[B")) (.int 100)).before a s = true) (a4 : (Cond.all (.static "java/lang/Integer" "DigitOnes" "[B") (.eq (.elem (.static "java/lang/Integer" "DigitOnes" "[B") (.index 0)) (.add (.int 48) (.rem (.index 0) (.int 10))))).before a s = true)
    (b1 : (Cond.laysStatic "java/lang/Integer" "DigitTens" "[B").before a s = true) (b2 : (Cond.exactly (.static "java/lang/Integer" "DigitTens" "[B") "[B").before a s = true) (b3 : (Cond.eq (.length (.static "java/lang/Integer" "DigitTens" "[B")) (.int 100)).before a s = true) (b4 : (Cond.all (.static "java/lang/Integer" "DigitTens" "[B") (.eq (.elem (.static "java/lang/Integer" "DigitTens" "[B") (.index 0)) (.add (.int 48) (.div (.index 0) (.int 10))))).before a s = true)
    (hini : (Cond.initialized "java/lang/Integer").before a s = true) (harr : (Cond.arrayClass .byte).before a s = true) : Dig s := by
  obtain ⟨c, k, st, d1, D1, h1, h2, h3, T1, O1⟩ := tbl_own (name := "DigitOnes") (F := fun r => 48 + r % 10) a1 a2 a3 a4 hini harr (fun r hr => by rw [← ones_num r hr]; rfl) (fun r _ => ⟨by omega, by omega⟩)
  obtain ⟨c', k', st', d2, D2, g1, g2, g3, T2, O2⟩ := tbl_own (name := "DigitTens") (F := fun r => 48 + r / 10) b1 b2 b3 b4 hini harr (fun r hr => by rw [← tens_num r hr]; rfl) (fun r _ => ⟨by omega, by omega⟩)
  cases h1.symm.trans g1
  cases h2.symm.trans g2
  cases h3.symm.trans g3
  exact ⟨st, d1, d2, D1, D2, T1, T2, O1, O2⟩
theorem arr0 {Z : State} {args : Array Value} {t : Term} {ty : FieldType} {dv : Value} (hf : Fit Z) (w3 : (Cond.arrayOf t ty).before args Z = true) (w4 : (Cond.eq (.length t) (.int 0)).before args Z = true) : ∃ (a : Addr) (k : ClassId), t.eval args Z none [] Z = some (.ref a) ∧ Arv Z Z.heap a k ty 0 [] dv := by
  have h3 := Cond.before_iff.mp w3
  obtain ⟨a, ea⟩ := arr_v h3
  obtain ⟨c, A⟩ := Arr.start ea h3
  have el := eqv_i (Z := Z) (Term.int_eval (0)) (Cond.before_iff.mp w4)
  have hat := A.fin (Vm.Alike.refl _)
  have hq : c.slots.size < 2 ^ 31 ∧ c.slots.size.toInt32 = 0 := by
    by_cases q : c.slots.size < 2 ^ 31
    · have := (len_f ea hat q).symm.trans el
      exact ⟨q, by simpa using this⟩
    · simp [Term.eval, ea, hat, q] at el
  exact ⟨a, c.cls, ea, Arv.start hf A hq.1 hq.2 (by decide) rfl trivial⟩
def Adc (Z : State) (dc : Addr) (kd : ClassId) : Prop := Sta Z Z.heap "java/util/ArrayList" "DEFAULTCAPACITY_EMPTY_ELEMENTDATA" "[Ljava/lang/Object;" (.ref dc) ∧ Arv Z Z.heap dc kd (.object "java/lang/Object") 0 [] .null
theorem adc_start {Z : State} {args : Array Value} (hf : Fit Z) (w1 : (Cond.laysStatic "java/util/ArrayList" "DEFAULTCAPACITY_EMPTY_ELEMENTDATA" "[Ljava/lang/Object;").before args Z = true) (w2 : (Cond.initialized "java/util/ArrayList").before args Z = true) (w3 : (Cond.arrayOf (.static "java/util/ArrayList" "DEFAULTCAPACITY_EMPTY_ELEMENTDATA" "[Ljava/lang/Object;") (.object "java/lang/Object")).before args Z = true) (w4 : (Cond.eq (.length (.static "java/util/ArrayList" "DEFAULTCAPACITY_EMPTY_ELEMENTDATA" "[Ljava/lang/Object;")) (.int 0)).before args Z = true) : ∃ dc kd, Adc Z dc kd := by
  obtain ⟨a, k, e, A⟩ := arr0 (dv := .null) hf w3 w4
  exact ⟨a, k, Sta.start e (Or.inr ⟨w2, w1⟩), A⟩
def Ael (Z : State) (el ee : Addr) (ke : ClassId) : Prop := Sta Z Z.heap "java/util/ImmutableCollections" "EMPTY_LIST" "Ljava/util/ImmutableCollections$ListN;" (.ref el) ∧ Exa Z Z.heap el "java/util/ImmutableCollections$ListN" ∧ Fld Z Z.heap el "java/util/ImmutableCollections$ListN" "elements" "[Ljava/lang/Object;" (.ref ee) ∧ Arv Z Z.heap ee ke (.object "java/lang/Object") 0 [] .null
theorem ael_start {Z : State} {args : Array Value} (hf : Fit Z) (w0 : (Cond.initializedFor "java/util/ImmutableCollections" "EMPTY_LIST" "Ljava/util/ImmutableCollections$ListN;").before args Z = true) (w1 : (Cond.exactly (.static "java/util/ImmutableCollections" "EMPTY_LIST" "Ljava/util/ImmutableCollections$ListN;") "java/util/ImmutableCollections$ListN").before args Z = true) (w2 : (Cond.arrayOf (.field (.static "java/util/ImmutableCollections" "EMPTY_LIST" "Ljava/util/ImmutableCollections$ListN;") "java/util/ImmutableCollections$ListN" "elements" "[Ljava/lang/Object;") (.object "java/lang/Object")).before args Z = true) (w3 : (Cond.eq (.length (.field (.static "java/util/ImmutableCollections" "EMPTY_LIST" "Ljava/util/ImmutableCollections$ListN;") "java/util/ImmutableCollections$ListN" "elements" "[Ljava/lang/Object;")) (.int 0)).before args Z = true) : ∃ el ee ke, Ael Z el ee ke := by
  have h1 := Cond.before_iff.mp w1
  obtain ⟨el, e1⟩ := exa_v h1
  obtain ⟨ee, ke, e2, A⟩ := arr0 (dv := .null) hf w2 w3
  exact ⟨el, ee, ke, Sta.start e1 (Or.inl w0), Exa.start e1 h1, Fld.start ((fld_at e1).symm.trans e2), A⟩
def Aem (Z : State) (em : Addr) : Prop := Sta Z Z.heap "java/util/ImmutableCollections" "EMPTY" "Ljava/lang/Object;" (.ref em)
theorem aem_start {Z : State} {args : Array Value} (w0 : (Cond.initializedFor "java/util/ImmutableCollections" "EMPTY" "Ljava/lang/Object;").before args Z = true) (w1 : (Cond.exactly (.static "java/util/ImmutableCollections" "EMPTY" "Ljava/lang/Object;") "java/lang/Object").before args Z = true) : ∃ em, Aem Z em := by
  obtain ⟨em, e1⟩ := exa_v (Cond.before_iff.mp w1)
  exact ⟨em, Sta.start e1 (Or.inl w0)⟩
def Als (Z : State) (h : Heap) (x t : Addr) (kk : ClassId) (n : Int32) (a b : Addr) : Prop :=
  Exa Z h x "java/util/ArrayList" ∧ Fld Z h x "java/util/ArrayList" "elementData" "[Ljava/lang/Object;" (.ref t) ∧ Fld Z h x "java/util/ArrayList" "size" "I" (.int n) ∧ t < h.size ∧ (n = 0 ∨ ∃ vs, Arv Z h t kk (.object "java/lang/Object") 10 vs .null ∧ vs.getD 0 .null = .ref a ∧ (n = 1 ∨ (n = 2 ∧ vs.getD 1 .null = .ref b)))
theorem Als.keep {Z : State} {h h' : Heap} {x t : Addr} {kk : ClassId} {n : Int32} {a b : Addr} {ws : List Addr} (F : Als Z h x t kk n a b) (K : Keep h h' ws) (q1 : x ∉ ws) (q2 : t ∉ ws) : Als Z h' x t kk n a b :=
  ⟨F.1.keep K, F.2.1.keep K q1, F.2.2.1.keep K q1, lL F.2.2.2.1 K.1, F.2.2.2.2.imp id (fun ⟨vs, A, r⟩ => ⟨vs, A.keep K q2, r⟩)⟩
theorem Als.one {Z : State} {h : Heap} {x t : Addr} {kk : ClassId} {a b : Addr} (F : Als Z h x t kk 1 a b) : ∃ vs, Arv Z h t kk (.object "java/lang/Object") 10 vs .null ∧ vs.getD 0 .null = .ref a := by
  obtain ⟨-, -, -, -, q | ⟨vs, A, e, -⟩⟩ := F
  · cases q
  · exact ⟨vs, A, e⟩
theorem Als.two {Z : State} {h : Heap} {x t : Addr} {kk : ClassId} {a b : Addr} (F : Als Z h x t kk 2 a b) : ∃ vs, Arv Z h t kk (.object "java/lang/Object") 10 vs .null ∧ vs.getD 0 .null = .ref a ∧ vs.getD 1 .null = .ref b := by
  obtain ⟨-, -, -, -, q | ⟨vs, A, e, q | ⟨-, e2⟩⟩⟩ := F
  · cases q
  · cases q
  · exact ⟨vs, A, e, e2⟩
theorem own_mod3 : ∀ k : Fin 4, ((Int32.ofNat k.val) % 3 = 0 ∨ (Int32.ofNat k.val) % 3 = 1 ∨ (Int32.ofNat k.val) % 3 = 2) := by decide +kernel
theorem own_and3 (x : Int32) : ∃ k : Fin 4, x &&& (3 : Int32) = Int32.ofNat k.val := by
  have h := c_mask x 3 2 (by decide) (by decide)
  have e : ((2 ^ 2 : Nat) : Int) = 4 := by decide
  rw [e] at h
  refine ⟨⟨(x &&& 3).toInt.toNat, by omega⟩, ?_⟩
  apply Int32.toInt_inj.mp
  rw [(own_clamp (n := (x &&& 3).toInt.toNat) (by omega)).2.2]
  omega
theorem own_three (x : Int32) : (x &&& (3 : Int32)) % 3 = 0 ∨ (x &&& (3 : Int32)) % 3 = 1 ∨ (x &&& (3 : Int32)) % 3 = 2 := by
  obtain ⟨k, hk⟩ := own_and3 x
  rw [hk]; exact own_mod3 k
theorem own_nneg (x : Int32) : ¬ (x &&& (2147483647 : Int32)) < (0 : Int32) := by
  have h := c_mask x 2147483647 31 (by decide) (by decide)
  rw [Int32.lt_iff_toInt_lt, show (0 : Int32).toInt = 0 from by decide]; omega
def fid (k : Int32) : List Int32 := ([] ++ Jvm.Q9.cod "file-") ++ dec k
theorem cl0 : (Jvm.Q9.cod "file-").length = 5 := by decide +kernel
theorem pos_toInt {k : Int32} (h : (0 : Int32) < k) : 0 < k.toInt := by
  rw [Int32.lt_iff_toInt_lt, show (0 : Int32).toInt = 0 from by decide] at h; exact h
theorem pos_nn {k : Int32} (h : (0 : Int32) < k) : ¬ k < 0 := by
  have := pos_toInt h
  rw [Int32.lt_iff_toInt_lt, show (0 : Int32).toInt = 0 from by decide]; omega
theorem mag_pos {k : Int32} (h : (0 : Int32) < k) : (mag k : Int) = k.toInt := by
  have := pos_toInt h
  unfold mag; omega
theorem mag_lt {k K : Int32} (h : (0 : Int32) < k) : k < K ↔ (mag k : Int) < K.toInt := by rw [mag_pos h, Int32.lt_iff_toInt_lt]
theorem dlen {k : Int32} (h : (0 : Int32) < k) : (dec k).length = Jvm.Free.SBG.digits (mag k) := by
  rw [dec_len]; unfold Jvm.Free.SBG.GetChars.sgn; rw [if_neg (pos_nn h)]; rfl
theorem dec_len10 {k : Int32} (h : (0 : Int32) < k) : (dec k).length ≤ 10 := by
  rw [dlen h]; exact (Jvm.Free.SBG.digits_pos (mag k)).2
theorem fid_len (k : Int32) : (fid k).length = 5 + (dec k).length := by simp only [fid, List.length_append, List.length_nil, cl0]
theorem fid_lit (k : Int32) {j : Nat} (hj : j < 5) : (fid k).getD j 0 = (Jvm.Q9.cod "file-").getD j 0 := by
  rw [fid, List.nil_append, getD_app, if_pos (by rw [cl0]; exact hj)]
theorem fil : (Jvm.Q9.cod "file-").getD 0 0 = 102 ∧ (Jvm.Q9.cod "file-").getD 1 0 = 105 ∧ (Jvm.Q9.cod "file-").getD 2 0 = 108 ∧ (Jvm.Q9.cod "file-").getD 3 0 = 101 ∧ (Jvm.Q9.cod "file-").getD 4 0 = 45 := by decide +kernel
theorem fid_0 (k : Int32) : (fid k).getD 0 0 = 102 := (fid_lit k (by omega)).trans fil.1
theorem fid_1 (k : Int32) : (fid k).getD 1 0 = 105 := (fid_lit k (by omega)).trans fil.2.1
theorem fid_2 (k : Int32) : (fid k).getD 2 0 = 108 := (fid_lit k (by omega)).trans fil.2.2.1
theorem fid_3 (k : Int32) : (fid k).getD 3 0 = 101 := (fid_lit k (by omega)).trans fil.2.2.2.1
theorem fid_4 (k : Int32) : (fid k).getD 4 0 = 45 := (fid_lit k (by omega)).trans fil.2.2.2.2
theorem fid_dig (k : Int32) (j : Nat) : (fid k).getD (5 + j) 0 = (dec k).getD j 0 := by
  rw [fid, List.nil_append, getD_app, if_neg (by rw [cl0]; omega), cl0, show 5 + j - 5 = j from by omega]
theorem fid_in (k : Int32) : ∀ c ∈ fid k, ¬ c < 0 ∧ ¬ (255 : Int32) < c := by
  intro c hc
  rw [fid, List.nil_append] at hc
  rcases List.mem_append.mp hc with q | q
  · exact (by decide +kernel : ∀ c ∈ Jvm.Q9.cod "file-", ¬ c < 0 ∧ ¬ (255 : Int32) < c) c q
  · exact dec_in k c q
theorem dg_1 {k : Int32} (hk : (0 : Int32) < k) (h2 : k < (10 : Int32)) : Int32.ofNat (dec k).length = (1 : Int32) := by
  rw [mag_lt hk, show (10 : Int32).toInt = 10 from by decide] at h2
  rw [dlen hk]; unfold Jvm.Free.SBG.digits
  rw [if_pos (by omega)]; rfl
theorem dg_2 {k : Int32} (hk : (0 : Int32) < k) (h1 : ¬ k < (10 : Int32)) (h2 : k < (100 : Int32)) : Int32.ofNat (dec k).length = (2 : Int32) := by
  rw [mag_lt hk, show (10 : Int32).toInt = 10 from by decide] at h1
  rw [mag_lt hk, show (100 : Int32).toInt = 100 from by decide] at h2
  rw [dlen hk]; unfold Jvm.Free.SBG.digits
  rw [if_neg (by omega), if_pos (by omega)]; rfl
theorem dg_3 {k : Int32} (hk : (0 : Int32) < k) (h1 : ¬ k < (100 : Int32)) (h2 : k < (1000 : Int32)) : Int32.ofNat (dec k).length = (3 : Int32) := by
  rw [mag_lt hk, show (100 : Int32).toInt = 100 from by decide] at h1
  rw [mag_lt hk, show (1000 : Int32).toInt = 1000 from by decide] at h2
  rw [dlen hk]; unfold Jvm.Free.SBG.digits
  rw [if_neg (by omega), if_neg (by omega), if_pos (by omega)]; rfl
theorem dg_4 {k : Int32} (hk : (0 : Int32) < k) (h1 : ¬ k < (1000 : Int32)) (h2 : k < (10000 : Int32)) : Int32.ofNat (dec k).length = (4 : Int32) := by
  rw [mag_lt hk, show (1000 : Int32).toInt = 1000 from by decide] at h1
  rw [mag_lt hk, show (10000 : Int32).toInt = 10000 from by decide] at h2
  rw [dlen hk]; unfold Jvm.Free.SBG.digits
  rw [if_neg (by omega), if_neg (by omega), if_neg (by omega), if_pos (by omega)]; rfl
theorem dg_5 {k : Int32} (hk : (0 : Int32) < k) (h1 : ¬ k < (10000 : Int32)) (h2 : k < (100000 : Int32)) : Int32.ofNat (dec k).length = (5 : Int32) := by
  rw [mag_lt hk, show (10000 : Int32).toInt = 10000 from by decide] at h1
  rw [mag_lt hk, show (100000 : Int32).toInt = 100000 from by decide] at h2
  rw [dlen hk]; unfold Jvm.Free.SBG.digits
  rw [if_neg (by omega), if_neg (by omega), if_neg (by omega), if_neg (by omega), if_pos (by omega)]; rfl
theorem dg_6 {k : Int32} (hk : (0 : Int32) < k) (h1 : ¬ k < (100000 : Int32)) (h2 : k < (1000000 : Int32)) : Int32.ofNat (dec k).length = (6 : Int32) := by
  rw [mag_lt hk, show (100000 : Int32).toInt = 100000 from by decide] at h1
  rw [mag_lt hk, show (1000000 : Int32).toInt = 1000000 from by decide] at h2
  rw [dlen hk]; unfold Jvm.Free.SBG.digits
  rw [if_neg (by omega), if_neg (by omega), if_neg (by omega), if_neg (by omega), if_neg (by omega), if_pos (by omega)]; rfl
theorem dg_7 {k : Int32} (hk : (0 : Int32) < k) (h1 : ¬ k < (1000000 : Int32)) (h2 : k < (10000000 : Int32)) : Int32.ofNat (dec k).length = (7 : Int32) := by
  rw [mag_lt hk, show (1000000 : Int32).toInt = 1000000 from by decide] at h1
  rw [mag_lt hk, show (10000000 : Int32).toInt = 10000000 from by decide] at h2
  rw [dlen hk]; unfold Jvm.Free.SBG.digits
  rw [if_neg (by omega), if_neg (by omega), if_neg (by omega), if_neg (by omega), if_neg (by omega), if_neg (by omega), if_pos (by omega)]; rfl
theorem dg_8 {k : Int32} (hk : (0 : Int32) < k) (h1 : ¬ k < (10000000 : Int32)) (h2 : k < (100000000 : Int32)) : Int32.ofNat (dec k).length = (8 : Int32) := by
  rw [mag_lt hk, show (10000000 : Int32).toInt = 10000000 from by decide] at h1
  rw [mag_lt hk, show (100000000 : Int32).toInt = 100000000 from by decide] at h2
  rw [dlen hk]; unfold Jvm.Free.SBG.digits
  rw [if_neg (by omega), if_neg (by omega), if_neg (by omega), if_neg (by omega), if_neg (by omega), if_neg (by omega), if_neg (by omega), if_pos (by omega)]; rfl
theorem dg_9 {k : Int32} (hk : (0 : Int32) < k) (h1 : ¬ k < (100000000 : Int32)) (h2 : k < (1000000000 : Int32)) : Int32.ofNat (dec k).length = (9 : Int32) := by
  rw [mag_lt hk, show (100000000 : Int32).toInt = 100000000 from by decide] at h1
  rw [mag_lt hk, show (1000000000 : Int32).toInt = 1000000000 from by decide] at h2
  rw [dlen hk]; unfold Jvm.Free.SBG.digits
  rw [if_neg (by omega), if_neg (by omega), if_neg (by omega), if_neg (by omega), if_neg (by omega), if_neg (by omega), if_neg (by omega), if_neg (by omega), if_pos (by omega)]; rfl
theorem dg_10 {k : Int32} (hk : (0 : Int32) < k) (h1 : ¬ k < (1000000000 : Int32)) : Int32.ofNat (dec k).length = (10 : Int32) := by
  rw [mag_lt hk, show (1000000000 : Int32).toInt = 1000000000 from by decide] at h1
  rw [dlen hk]; unfold Jvm.Free.SBG.digits
  rw [if_neg (by omega), if_neg (by omega), if_neg (by omega), if_neg (by omega), if_neg (by omega), if_neg (by omega), if_neg (by omega), if_neg (by omega), if_neg (by omega)]; rfl
def pw (e : Int32) : Int32 := if (0 : Int32) < e then (if e = (1 : Int32) then (10 : Int32) else (if e = (2 : Int32) then (100 : Int32) else (if e = (3 : Int32) then (1000 : Int32) else (if e = (4 : Int32) then (10000 : Int32) else (if e = (5 : Int32) then (100000 : Int32) else (if e = (6 : Int32) then (1000000 : Int32) else (if e = (7 : Int32) then (10000000 : Int32) else (if e = (8 : Int32) then (100000000 : Int32) else (1000000000 : Int32))))))))) else (1 : Int32)
theorem pw_at : ∀ k : Fin 10, pw (Int32.ofNat k.val) = Int32.ofNat (10 ^ k.val) ∧ ¬ pw (Int32.ofNat k.val) = (0 : Int32) := by decide +kernel
theorem dig_val {k : Int32} {n : Nat} (hk : (0 : Int32) < k) (hn : n < 10) : Int32.ofNat (48 + mag k / 10 ^ n % 10) = (48 : Int32) + ((k / (Int32.ofNat (10 ^ n))) % (10 : Int32)) := by
  have hb : (10 : Nat) ^ n ≤ 10 ^ 9 := Nat.pow_le_pow_right (by omega) (by omega)
  have hc : 1 ≤ (10 : Nat) ^ n := Nat.pow_pos (by omega)
  have ek := mag_pos hk
  have r := rng32 k
  generalize (10 : Nat) ^ n = q at hb hc ⊢
  generalize mag k = M at ek ⊢
  have e1 : (Int32.ofNat q).toInt = (q : Int) := Int32.toInt_ofNat_of_lt (by omega)
  have l1 := Nat.div_le_self M q
  have e2 : (k / Int32.ofNat q).toInt = ((M / q : Nat) : Int) := by
    rw [Int32.toInt_div, e1, ← ek]
    show Int.bmod ((M / q : Nat) : Int) _ = _
    generalize M / q = D at l1 ⊢
    exact Int.bmod_eq_of_le (by omega) (by omega)
  generalize M / q = D at l1 e2 ⊢
  have e3 : ((k / Int32.ofNat q) % (10 : Int32)).toInt = ((D % 10 : Nat) : Int) := by
    rw [Int32.toInt_mod, e2, show (10 : Int32).toInt = ((10 : Nat) : Int) from by decide]; rfl
  apply Int32.toInt_inj.mp
  rw [(own_clamp (n := 48 + D % 10) (by omega)).2.2, Int32.toInt_add, e3, show (48 : Int32).toInt = 48 from by decide, Int.bmod_eq_of_le (by omega) (by omega)]
  omega
theorem dok_eq {k : Int32} {jn : Nat} (hk : (0 : Int32) < k) (hj : jn < (dec k).length) : ((fid k).getD (Int32.ofNat (5 + jn)).toNatClampNeg 0) = ((48 : Int32) + ((k / (pw (Int32.ofNat ((dec k).length - 1 - jn)))) % (10 : Int32))) := by
  have h10 := dec_len10 hk
  rw [(own_clamp (n := 5 + jn) (by omega)).1, fid_dig, dec_get k jn hj, if_neg (pos_nn hk), ← dlen hk]
  rw [(pw_at ⟨(dec k).length - 1 - jn, by omega⟩).1]
  exact dig_val hk (by show (dec k).length - 1 - jn < 10; omega)
theorem j_nat {j : Int32} {n : Nat} (hn : n ≤ 100000) (h0 : ¬ j < (0 : Int32)) (hl : j < Int32.ofNat n) : ∃ m : Nat, m < n ∧ j = Int32.ofNat m := by
  rw [Int32.lt_iff_toInt_lt, (own_clamp hn).2.2] at hl
  rw [Int32.lt_iff_toInt_lt, show (0 : Int32).toInt = 0 from by decide] at h0
  refine ⟨j.toInt.toNat, by omega, ?_⟩
  apply Int32.toInt_inj.mp
  rw [(own_clamp (n := j.toInt.toNat) (by omega)).2.2]
  omega
theorem own_pick {pk fl : Int32} (h : ¬ fl < (0 : Int32)) (h0 : ¬ fl = (0 : Int32)) : (0 : Int32) < (((pk &&& (2147483647 : Int32)) % fl) + (1 : Int32)) := by
  have hm := c_mask pk 2147483647 31 (by decide) (by decide)
  have z : (0 : Int32).toInt = 0 := by decide
  have h1 : ¬ fl.toInt = 0 := fun q => h0 (Int32.toInt_inj.mp (q.trans z.symm))
  rw [Int32.lt_iff_toInt_lt, z] at h
  have r := rng32 fl
  have q : ((pk &&& (2147483647 : Int32)) % fl).toInt = (pk &&& 2147483647).toInt % fl.toInt := by rw [Int32.toInt_mod, Int.tmod_eq_emod_of_nonneg (by omega)]
  have n1 := Int.emod_nonneg (pk &&& 2147483647).toInt h1
  have n2 := Int.emod_lt_of_pos (pk &&& 2147483647).toInt (show 0 < fl.toInt by omega)
  rw [Int32.lt_iff_toInt_lt, z, Int32.toInt_add, q, show (1 : Int32).toInt = 1 from by decide, Int.bmod_eq_of_le (by omega) (by omega)]
  omega
def LC : List (String × Nat × String) × (Array (Array UInt16 × Addr) → Prop) := ([("com/example/metsmith/metsmith/Mets", 86, "file-")], fun _ => True)
theorem own_atoms {Z : State} {a0 : Array Value} (hw : ∀ d ∈ tables_1, d.before a0 Z = true) : ∀ a ∈ Bundle.stringAtoms, a.before a0 Z = true := by
  intro d hd
  simp only [Bundle.stringAtoms, List.mem_cons, List.not_mem_nil, or_false] at hd
  rcases hd with rfl | rfl | rfl | rfl | rfl | rfl | rfl
  · exact hw _ (List.mem_of_getElem? (i := 3) rfl)
  · exact hw _ (List.mem_of_getElem? (i := 11) rfl)
  · exact hw _ (List.mem_of_getElem? (i := 15) rfl)
  · exact hw _ (List.mem_of_getElem? (i := 24) rfl)
  · exact hw _ (List.mem_of_getElem? (i := 26) rfl)
  · exact hw _ (List.mem_of_getElem? (i := 259) rfl)
  · exact hw _ (List.mem_of_getElem? (i := 260) rfl)
theorem own_lits {Z : State} {a0 : Array Value} (hw : ∀ d ∈ tables_1, d.before a0 Z = true) (hh : Jvm.Lit.constsHeld consts_1 Z) (hcw : Jvm.Lit.compactW.before a0 Z = true) : ∀ d ∈ LC.1, Jvm.Q9.LitW Z a0 d := by
  have wi : (Cond.instantiable "java/lang/String" 4).before a0 Z = true := (wI hw 11 rfl)
  have wa : (Cond.arrayClass .byte).before a0 Z = true := (wI hw 15 rfl)
  intro d hd
  simp only [LC, List.mem_cons, List.not_mem_nil, or_false] at hd
  rcases hd with rfl
  · have w1 : (Cond.stringLink "com/example/metsmith/metsmith/Mets" 86 "file-").before a0 Z = true := (wI hw 258 rfl)
    refine ⟨w1, by decide +kernel, by decide +kernel, heldStart (hh _ (List.mem_of_getElem? (i := 0) rfl)) w1 (by decide +kernel) hcw wa wi, Jvm.Q9.own_found w1⟩
theorem e0_0 : decode jdk_22_method_1_code 0 = .ok (.aload_n 0, 1) := by decide +kernel
theorem e0_1 : decode jdk_22_method_1_code 1 = .ok (.invokespecial 1, 3) := by decide +kernel
theorem e0_4 : decode jdk_22_method_1_code 4 = .ok (.return_, 1) := by decide +kernel
theorem pn_java_util_AbstractCollection : plainName "java/util/AbstractCollection" = true := by first | (simp [plainName, overriddenIn]; done) | decide +kernel
theorem own_abc (l : Launch) (Z : State) (a0 : Array Value) (hw : ∀ d ∈ tables_1, d.before a0 Z = true) (a : Addr) (h0 : Heap) (n0 : Nat) (Z0 : n0 ≤ h0.size) :
    Jvm.Y9.Con l Z (⟨"java/util/AbstractCollection", "<init>", "()V"⟩ : MethodName) jdk_22_method_1_code 1 none ({ frames := 1, cells := 0, slots := 0, locals := 12 } : Room) n0 #[(.ref a)] h0 (fun v h => v = none ∧ h0 = h) := by
  refine Jvm.Y9.Con.intro (plainFor_of_name pn_java_util_AbstractCollection) ?_
  intro p e s m below meth c s₁ hx hby hml hret hnm hown hlk hZ P0
  refine Jvm.Y9.Aim.cast (by first | (simp [entryFrame, mkF, argsToLocals, Value.category]; done) | rfl : entryFrame m #[(.ref a)] 1 = (mkF m 0 #[.val (.ref a)] [])) ?_
  have H := P0.here
  refine Jvm.Y9.Aim.of (T' := s₁) (g' := (mkF m 1 #[.val (.ref a)] [(.ref a)])) (fun tgt kt => ?_) ?_
  · refine XS.aloadN H hx rfl (hb hby e0_0) rfl rfl ?_
    exact kt
  refine Jvm.Y9.Aim.initO P0 hx hZ hml hown (wI hw 63 rfl) (wI hw 21 rfl) (wI hw 22 rfl) rfl (hb hby e0_1) (by decide) (Nat.le_of_ble_eq_true rfl) ?_
  intro T1 P2
  exact Jvm.Y9.Aim.retV P2 hx hlk hret (hb hby e0_4) (by decide) (by decide) ⟨rfl, rfl⟩
theorem ee_0 : decode jdk_39_method_1_code 0 = .ok (.aload_n 0, 1) := by decide +kernel
theorem ee_1 : decode jdk_39_method_1_code 1 = .ok (.invokespecial 1, 3) := by decide +kernel
theorem pd__28_29V : parseMethodDescriptor "()V" = some ⟨[], none⟩ := by decide +kernel
theorem ee_4 : decode jdk_39_method_1_code 4 = .ok (.aload_n 0, 1) := by decide +kernel
theorem ee_5 : decode jdk_39_method_1_code 5 = .ok (.iconst 0, 1) := by decide +kernel
theorem ee_6 : decode jdk_39_method_1_code 6 = .ok (.putfield 7, 3) := by decide +kernel
theorem ee_9 : decode jdk_39_method_1_code 9 = .ok (.return_, 1) := by decide +kernel
theorem pn_java_util_AbstractList : plainName "java/util/AbstractList" = true := by first | (simp [plainName, overriddenIn]; done) | decide +kernel
theorem own_ablA (l : Launch) (Z : State) (a0 : Array Value) (hw : ∀ d ∈ tables_1, d.before a0 Z = true) (a : Addr) (d0 : Value) (m0 : Value) (h0 : Heap) (n0 : Nat) (Z0 : n0 ≤ h0.size) (g_a : n0 ≤ a) (F0 : Exa Z h0 a "java/util/ArrayList") (F1 : Fld Z h0 a "java/util/ArrayList" "elementData" "[Ljava/lang/Object;" d0) (F2 : Fld Z h0 a "java/util/ArrayList" "size" "I" (.int 0)) (F3 : Fld Z h0 a "java/util/AbstractList" "modCount" "I" m0) :
    Jvm.Y9.Con l Z (⟨"java/util/AbstractList", "<init>", "()V"⟩ : MethodName) jdk_39_method_1_code 1 none ({ frames := 2, cells := 0, slots := 0, locals := 24 } : Room) n0 #[(.ref a)] h0 (fun v h => v = none ∧ Keep h0 h [a] ∧ Exa Z h a "java/util/ArrayList" ∧ Fld Z h a "java/util/ArrayList" "elementData" "[Ljava/lang/Object;" d0 ∧ Fld Z h a "java/util/ArrayList" "size" "I" (.int 0) ∧ Fld Z h a "java/util/AbstractList" "modCount" "I" (.int 0)) := by
  refine Jvm.Y9.Con.intro (plainFor_of_name pn_java_util_AbstractList) ?_
  intro p e s m below meth c s₁ hx hby hml hret hnm hown hlk hZ P0
  refine Jvm.Y9.Aim.cast (by first | (simp [entryFrame, mkF, argsToLocals, Value.category]; done) | rfl : entryFrame m #[(.ref a)] 1 = (mkF m 0 #[.val (.ref a)] [])) ?_
  have H := P0.here
  refine Jvm.Y9.Aim.of (T' := s₁) (g' := (mkF m 1 #[.val (.ref a)] [(.ref a)])) (fun tgt kt => ?_) ?_
  · refine XS.aloadN H hx rfl (hb hby ee_0) rfl rfl ?_
    exact kt
  refine Jvm.Y9.Aim.callC (argsL := []) (rest := []) P0 hx hZ hml hown rfl (wI hw 57 rfl) (wI hw 58 rfl) (wI hw 62 rfl) (by decide) (Jvm.Y9.Con.back (W := 0) (own_abc l Z a0 hw a h0 n0 Z0) hZ (wI hw 62 rfl) (wI hw 61 rfl) (by decide) (by decide)) rfl pd__28_29V rfl (Nat.le_of_eq rfl) (hb hby ee_1) (by decide) (by decide) ?_
  intro T3 h4 v7 P5 hQ6
  obtain ⟨rfl, rfl⟩ := hQ6
  have H := P5.here
  refine Jvm.Y9.Aim.of (T' := T3) (g' := (mkF m 6 #[.val (.ref a)] [(.int 0), (.ref a)])) (fun tgt kt => ?_) ?_
  · refine XS.aloadN H hx rfl (hb hby ee_4) rfl rfl ?_
    refine XS.iconst H hx rfl (hb hby ee_5) ?_
    exact kt
  refine Jvm.Y9.Aim.putF (v := (.int 0)) P5 hx hZ hown (host := "") (Or.inl (wI hw 64 rfl)) Via.refl F3 F0 (Or.inl (wI hw 65 rfl)) (wI hw 46 rfl) (ty := .int) (by decide) rfl rfl (hb hby ee_6) g_a ?_
  intro T10 h11 P12 W13
  have K14 := Keep.of_wr W13
  have F15 : Fld Z h11 a "java/util/AbstractList" "modCount" "I" (.int 0) := F3.same W13
  have K16 : Keep h0 h11 [a] := (Keep.refl h0 [a]).trans K14 (allS (Or.inl (List.mem_of_getElem? (i := 0) rfl)) all0)
  have F17 : Exa Z h11 a "java/util/ArrayList" := (F0.keep K14)
  have F18 : Fld Z h11 a "java/util/ArrayList" "elementData" "[Ljava/lang/Object;" d0 := (F1.other W13 (Or.inr (slot_ne (Or.inl (wI hw 68 rfl)) (Or.inl (wI hw 65 rfl)) (by decide) (t := (.array (.object "java/lang/Object"))) (t' := .int) (by decide) (by decide))))
  have F19 : Fld Z h11 a "java/util/ArrayList" "size" "I" (.int 0) := (F2.other W13 (Or.inr (slot_ne (Or.inl (wI hw 77 rfl)) (Or.inl (wI hw 65 rfl)) (by decide) (t := .int) (t' := .int) (by decide) (by decide))))
  exact Jvm.Y9.Aim.retV P12 hx hlk hret (hb hby ee_9) (by decide) (by decide) ⟨rfl, K16, F17, F18, F19, F15⟩
theorem own_ablD (l : Launch) (Z : State) (a0 : Array Value) (hw : ∀ d ∈ tables_1, d.before a0 Z = true) (a : Addr) (f : Int32) (m0 : Value) (h0 : Heap) (n0 : Nat) (Z0 : n0 ≤ h0.size) (g_a : n0 ≤ a) (F0 : Exa Z h0 a "com/example/metsmith/metsmith/Mets$Div$1") (F1 : Fld Z h0 a "com/example/metsmith/metsmith/Mets$Div$1" "val$files" "I" (.int f)) (F2 : Fld Z h0 a "java/util/AbstractList" "modCount" "I" m0) :
    Jvm.Y9.Con l Z (⟨"java/util/AbstractList", "<init>", "()V"⟩ : MethodName) jdk_39_method_1_code 1 none ({ frames := 2, cells := 0, slots := 0, locals := 24 } : Room) n0 #[(.ref a)] h0 (fun v h => v = none ∧ Keep h0 h [a] ∧ Exa Z h a "com/example/metsmith/metsmith/Mets$Div$1" ∧ Fld Z h a "com/example/metsmith/metsmith/Mets$Div$1" "val$files" "I" (.int f) ∧ Fld Z h a "java/util/AbstractList" "modCount" "I" (.int 0)) := by
  refine Jvm.Y9.Con.intro (plainFor_of_name pn_java_util_AbstractList) ?_
  intro p e s m below meth c s₁ hx hby hml hret hnm hown hlk hZ P0
  refine Jvm.Y9.Aim.cast (by first | (simp [entryFrame, mkF, argsToLocals, Value.category]; done) | rfl : entryFrame m #[(.ref a)] 1 = (mkF m 0 #[.val (.ref a)] [])) ?_
  have H := P0.here
  refine Jvm.Y9.Aim.of (T' := s₁) (g' := (mkF m 1 #[.val (.ref a)] [(.ref a)])) (fun tgt kt => ?_) ?_
  · refine XS.aloadN H hx rfl (hb hby ee_0) rfl rfl ?_
    exact kt
  refine Jvm.Y9.Aim.callC (argsL := []) (rest := []) P0 hx hZ hml hown rfl (wI hw 57 rfl) (wI hw 58 rfl) (wI hw 62 rfl) (by decide) (Jvm.Y9.Con.back (W := 0) (own_abc l Z a0 hw a h0 n0 Z0) hZ (wI hw 62 rfl) (wI hw 61 rfl) (by decide) (by decide)) rfl pd__28_29V rfl (Nat.le_of_eq rfl) (hb hby ee_1) (by decide) (by decide) ?_
  intro T20 h21 v24 P22 hQ23
  obtain ⟨rfl, rfl⟩ := hQ23
  have H := P22.here
  refine Jvm.Y9.Aim.of (T' := T20) (g' := (mkF m 6 #[.val (.ref a)] [(.int 0), (.ref a)])) (fun tgt kt => ?_) ?_
  · refine XS.aloadN H hx rfl (hb hby ee_4) rfl rfl ?_
    refine XS.iconst H hx rfl (hb hby ee_5) ?_
    exact kt
  refine Jvm.Y9.Aim.putF (v := (.int 0)) P22 hx hZ hown (host := "") (Or.inl (wI hw 64 rfl)) Via.refl F2 F0 (Or.inl (wI hw 114 rfl)) (wI hw 105 rfl) (ty := .int) (by decide) rfl rfl (hb hby ee_6) g_a ?_
  intro T27 h28 P29 W30
  have K31 := Keep.of_wr W30
  have F32 : Fld Z h28 a "java/util/AbstractList" "modCount" "I" (.int 0) := F2.same W30
  have K33 : Keep h0 h28 [a] := (Keep.refl h0 [a]).trans K31 (allS (Or.inl (List.mem_of_getElem? (i := 0) rfl)) all0)
  have F34 : Exa Z h28 a "com/example/metsmith/metsmith/Mets$Div$1" := (F0.keep K31)
  have F35 : Fld Z h28 a "com/example/metsmith/metsmith/Mets$Div$1" "val$files" "I" (.int f) := (F1.other W30 (Or.inr (slot_ne (Or.inr (wI hw 111 rfl)) (Or.inl (wI hw 114 rfl)) (by decide) (t := .int) (t' := .int) (by decide) (by decide))))
  exact Jvm.Y9.Aim.retV P29 hx hlk hret (hb hby ee_9) (by decide) (by decide) ⟨rfl, K33, F34, F35, F32⟩
theorem e7_0 : decode jdk_38_method_2_code 0 = .ok (.aload_n 0, 1) := by decide +kernel
theorem e7_1 : decode jdk_38_method_2_code 1 = .ok (.invokespecial 1, 3) := by decide +kernel
theorem e7_4 : decode jdk_38_method_2_code 4 = .ok (.aload_n 0, 1) := by decide +kernel
theorem e7_5 : decode jdk_38_method_2_code 5 = .ok (.getstatic 39, 3) := by decide +kernel
theorem e7_8 : decode jdk_38_method_2_code 8 = .ok (.putfield 9, 3) := by decide +kernel
theorem e7_11 : decode jdk_38_method_2_code 11 = .ok (.return_, 1) := by decide +kernel
theorem pn_java_util_ArrayList : plainName "java/util/ArrayList" = true := by first | (simp [plainName, overriddenIn]; done) | decide +kernel
theorem own_ali (l : Launch) (Z : State) (a0 : Array Value) (hw : ∀ d ∈ tables_1, d.before a0 Z = true) (a : Addr) (d0 : Value) (m0 : Value) (dc : Addr) (kd : ClassId) (h0 : Heap) (n0 : Nat) (Z0 : n0 ≤ h0.size) (g_a : n0 ≤ a) (F0 : Exa Z h0 a "java/util/ArrayList") (F1 : Fld Z h0 a "java/util/ArrayList" "elementData" "[Ljava/lang/Object;" d0) (F2 : Fld Z h0 a "java/util/ArrayList" "size" "I" (.int 0)) (F3 : Fld Z h0 a "java/util/AbstractList" "modCount" "I" m0) (F4 : Old Z n0 h0) (GA : Adc Z dc kd) :
    Jvm.Y9.Con l Z (⟨"java/util/ArrayList", "<init>", "()V"⟩ : MethodName) jdk_38_method_2_code 1 none ({ frames := 3, cells := 0, slots := 0, locals := 36 } : Room) n0 #[(.ref a)] h0 (fun v h => v = none ∧ Keep h0 h [a] ∧ Exa Z h a "java/util/ArrayList" ∧ Fld Z h a "java/util/ArrayList" "elementData" "[Ljava/lang/Object;" (.ref dc) ∧ Fld Z h a "java/util/ArrayList" "size" "I" (.int 0) ∧ Fld Z h a "java/util/AbstractList" "modCount" "I" (.int 0)) := by
  refine Jvm.Y9.Con.intro (plainFor_of_name pn_java_util_ArrayList) ?_
  intro p e s m below meth c s₁ hx hby hml hret hnm hown hlk hZ P0
  refine Jvm.Y9.Aim.cast (by first | (simp [entryFrame, mkF, argsToLocals, Value.category]; done) | rfl : entryFrame m #[(.ref a)] 1 = (mkF m 0 #[.val (.ref a)] [])) ?_
  have H := P0.here
  refine Jvm.Y9.Aim.of (T' := s₁) (g' := (mkF m 1 #[.val (.ref a)] [(.ref a)])) (fun tgt kt => ?_) ?_
  · refine XS.aloadN H hx rfl (hb hby e7_0) rfl rfl ?_
    exact kt
  refine Jvm.Y9.Aim.callC (argsL := []) (rest := []) P0 hx hZ hml hown rfl (wI hw 51 rfl) (wI hw 52 rfl) (wI hw 56 rfl) (by decide) (Jvm.Y9.Con.back (W := 0) (own_ablA l Z a0 hw a d0 m0 h0 n0 Z0 g_a F0 F1 F2 F3) hZ (wI hw 56 rfl) (wI hw 55 rfl) (by decide) (by decide)) rfl pd__28_29V rfl (Nat.le_of_eq rfl) (hb hby e7_1) (by decide) (by decide) ?_
  intro T36 h37 v40 P38 hQ39
  obtain ⟨rfl, K43, F44, F45, F46, F47⟩ := hQ39
  have K48 : Keep h0 h37 [a] := (Keep.refl h0 [a]).trans K43 (allS (Or.inl (List.mem_of_getElem? (i := 0) rfl)) all0)
  have H := P38.here
  refine Jvm.Y9.Aim.of (T' := T36) (g' := (mkF m 5 #[.val (.ref a)] [(.ref a)])) (fun tgt kt => ?_) ?_
  · refine XS.aloadN H hx rfl (hb hby e7_4) rfl rfl ?_
    exact kt
  have F51 : Old Z n0 h37 := (F4.keep K43 (allS g_a all0))
  refine Jvm.Y9.Aim.getS P38 hx hZ hown (wI hw 66 rfl) Via.refl (GA.1.ext F51.2) (hb hby e7_5) ?_
  intro T49 P50
  refine Jvm.Y9.Aim.putF (v := (.ref dc)) P50 hx hZ hown (host := "") (Or.inl (wI hw 67 rfl)) Via.refl F45 F44 (Or.inl (wI hw 68 rfl)) (wI hw 46 rfl) (ty := (.array (.object "java/lang/Object"))) (by decide) rfl rfl (hb hby e7_8) g_a ?_
  intro T52 h53 P54 W55
  have K56 := Keep.of_wr W55
  have F57 : Fld Z h53 a "java/util/ArrayList" "elementData" "[Ljava/lang/Object;" (.ref dc) := F45.same W55
  have K58 : Keep h0 h53 [a] := K48.trans K56 (allS (Or.inl (List.mem_of_getElem? (i := 0) rfl)) all0)
  have F59 : Exa Z h53 a "java/util/ArrayList" := (F44.keep K56)
  have F60 : Fld Z h53 a "java/util/ArrayList" "size" "I" (.int 0) := (F46.other W55 (Or.inr (slot_ne (Or.inl (wI hw 77 rfl)) (Or.inl (wI hw 68 rfl)) (by decide) (t := .int) (t' := (.array (.object "java/lang/Object"))) (by decide) (by decide))))
  have F61 : Fld Z h53 a "java/util/AbstractList" "modCount" "I" (.int 0) := (F47.other W55 (Or.inr (slot_ne (Or.inl (wI hw 65 rfl)) (Or.inl (wI hw 68 rfl)) (by decide) (t := .int) (t' := (.array (.object "java/lang/Object"))) (by decide) (by decide))))
  exact Jvm.Y9.Aim.retV P54 hx hlk hret (hb hby e7_11) (by decide) (by decide) ⟨rfl, K58, F59, F57, F60, F61⟩
theorem e1_0 : decode jdk_29_method_65_code 0 = .ok (.iload_n 0, 1) := by decide +kernel
theorem e1_1 : decode jdk_29_method_65_code 1 = .ok (.iload_n 1, 1) := by decide +kernel
theorem e1_2 : decode jdk_29_method_65_code 2 = .ok (.if_icmp .lt 7, 3) := by decide +kernel
theorem e1_5 : decode jdk_29_method_65_code 5 = .ok (.iload_n 0, 1) := by decide +kernel
theorem e1_6 : decode jdk_29_method_65_code 6 = .ok (.goto 4, 3) := by decide +kernel
theorem e1_10 : decode jdk_29_method_65_code 10 = .ok (.ireturn, 1) := by decide +kernel
theorem own_max10 (l : Launch) (Z : State) (a0 : Array Value) (hw : ∀ d ∈ tables_1, d.before a0 Z = true) (h0 : Heap) (n0 : Nat) (Z0 : n0 ≤ h0.size) :
    Jvm.Y9.Con l Z (⟨"java/lang/Math", "max", "(II)I"⟩ : MethodName) jdk_29_method_65_code 2 (some .int) ({ frames := 0, cells := 0, slots := 0, locals := 0 } : Room) n0 #[(.int 10), (.int 1)] h0 (fun v h => v = some (.int 10) ∧ h0 = h) := by
  refine Jvm.Y9.Con.intro (Jvm.Free.JP.mathPlain rfl (by decide +kernel)) ?_
  intro p e s m below meth c s₁ hx hby hml hret hnm hown hlk hZ P0
  refine Jvm.Y9.Aim.cast (by first | (simp [entryFrame, mkF, argsToLocals, Value.category]; done) | rfl : entryFrame m #[(.int 10), (.int 1)] 2 = (mkF m 0 #[.val (.int 10), .val (.int 1)] [])) ?_
  have H := P0.here
  refine Jvm.Y9.Aim.of (T' := s₁) (g' := (mkF m 10 #[.val (.int 10), .val (.int 1)] [(.int 10)])) (fun tgt kt => ?_) ?_
  · refine XS.iloadN H hx rfl (hb hby e1_0) rfl ?_
    refine XS.iloadN H hx rfl (hb hby e1_1) rfl ?_
    refine XS.icmpNo H hx rfl (hb hby e1_2) rfl (flt (by decide)).1 ?_
    refine XS.iloadN H hx rfl (hb hby e1_5) rfl ?_
    refine XS.goto H hx rfl (pc0 := 6) (pc' := 10) rfl (hb hby e1_6) (by decide) (by decide) ?_
    exact kt
  exact Jvm.Y9.Aim.retI P0 hx hlk hret (hb hby e1_10) (by decide) (by decide) ⟨rfl, rfl⟩
theorem eb_0 : decode jdk_38_method_6_code 0 = .ok (.aload_n 0, 1) := by decide +kernel
theorem eb_1 : decode jdk_38_method_6_code 1 = .ok (.getfield 9, 3) := by decide +kernel
theorem eb_4 : decode jdk_38_method_6_code 4 = .ok (.arraylength, 1) := by decide +kernel
theorem eb_5 : decode jdk_38_method_6_code 5 = .ok (.istore_n 2, 1) := by decide +kernel
theorem eb_6 : decode jdk_38_method_6_code 6 = .ok (.iload_n 2, 1) := by decide +kernel
theorem eb_7 : decode jdk_38_method_6_code 7 = .ok (.ifCond .gt 13, 3) := by decide +kernel
theorem eb_10 : decode jdk_38_method_6_code 10 = .ok (.aload_n 0, 1) := by decide +kernel
theorem eb_11 : decode jdk_38_method_6_code 11 = .ok (.getfield 9, 3) := by decide +kernel
theorem eb_14 : decode jdk_38_method_6_code 14 = .ok (.getstatic 39, 3) := by decide +kernel
theorem eb_17 : decode jdk_38_method_6_code 17 = .ok (.if_acmp .eq 28, 3) := by decide +kernel
theorem eb_45 : decode jdk_38_method_6_code 45 = .ok (.aload_n 0, 1) := by decide +kernel
theorem eb_46 : decode jdk_38_method_6_code 46 = .ok (.bipush 10, 2) := by decide +kernel
theorem eb_48 : decode jdk_38_method_6_code 48 = .ok (.iload_n 1, 1) := by decide +kernel
theorem eb_49 : decode jdk_38_method_6_code 49 = .ok (.invokestatic 79, 3) := by decide +kernel
theorem pd__28II_29I : parseMethodDescriptor "(II)I" = some ⟨[.int, .int], some .int⟩ := by decide +kernel
theorem eb_52 : decode jdk_38_method_6_code 52 = .ok (.anewarray 7, 3) := by decide +kernel
theorem eb_55 : decode jdk_38_method_6_code 55 = .ok (.dup_x1, 1) := by decide +kernel
theorem eb_56 : decode jdk_38_method_6_code 56 = .ok (.putfield 9, 3) := by decide +kernel
theorem eb_59 : decode jdk_38_method_6_code 59 = .ok (.areturn, 1) := by decide +kernel
theorem own_growI (l : Launch) (Z : State) (a0 : Array Value) (hw : ∀ d ∈ tables_1, d.before a0 Z = true) (a : Addr) (mc : Int32) (dc : Addr) (kd : ClassId) (h0 : Heap) (n0 : Nat) (Z0 : n0 ≤ h0.size) (g_a : n0 ≤ a) (F0 : Exa Z h0 a "java/util/ArrayList") (F1 : Fld Z h0 a "java/util/ArrayList" "elementData" "[Ljava/lang/Object;" (.ref dc)) (F2 : Fld Z h0 a "java/util/ArrayList" "size" "I" (.int 0)) (F3 : Fld Z h0 a "java/util/AbstractList" "modCount" "I" (.int mc)) (F4 : Old Z n0 h0) (GA : Adc Z dc kd) :
    Jvm.Y9.Con l Z (⟨"java/util/ArrayList", "grow", "(I)[Ljava/lang/Object;"⟩ : MethodName) jdk_38_method_6_code 4 (some (.array (.object "java/lang/Object"))) ({ frames := 1, cells := 1, slots := 10, locals := 14 } : Room) n0 #[(.ref a), (.int 1)] h0 (fun v h => ∃ t : Addr, ∃ kk : ClassId, v = some (.ref t) ∧ Keep h0 h [a] ∧ h0.size ≤ t ∧ Exa Z h a "java/util/ArrayList" ∧ Fld Z h a "java/util/ArrayList" "elementData" "[Ljava/lang/Object;" (.ref t) ∧ Fld Z h a "java/util/ArrayList" "size" "I" (.int 0) ∧ Fld Z h a "java/util/AbstractList" "modCount" "I" (.int mc) ∧ Arv Z h t kk (.object "java/lang/Object") (10 : Int32) [.null, .null, .null, .null, .null, .null, .null, .null, .null, .null] (.null) ∧ Ovr Z kk "java/lang/Object") := by
  refine Jvm.Y9.Con.intro (plainFor_of_name pn_java_util_ArrayList) ?_
  intro p e s m below meth c s₁ hx hby hml hret hnm hown hlk hZ P0
  refine Jvm.Y9.Aim.cast (by first | (simp [entryFrame, mkF, argsToLocals, Value.category]; done) | rfl : entryFrame m #[(.ref a), (.int 1)] 4 = (mkF m 0 #[.val (.ref a), .val (.int 1), .unset, .unset] [])) ?_
  have ldc_ : dc < n0 := F4.1 ▸ GA.2.lt
  have F62 : Arv Z h0 dc kd (.object "java/lang/Object") (0 : Int32) [] (.null) := GA.2.keep ((Keep.refl _ []).ext F4.2) nin0
  have H := P0.here
  refine Jvm.Y9.Aim.of (T' := s₁) (g' := (mkF m 1 #[.val (.ref a), .val (.int 1), .unset, .unset] [(.ref a)])) (fun tgt kt => ?_) ?_
  · refine XS.aloadN H hx rfl (hb hby eb_0) rfl rfl ?_
    exact kt
  refine Jvm.Y9.Aim.getF P0 hx hZ hown (host := "") (Or.inl (wI hw 67 rfl)) Via.refl F1 (hb hby eb_1) ?_
  intro T63 P64
  refine Jvm.Y9.Aim.alen P64 hx hZ F62 (hb hby eb_4) ?_
  have H := P64.here
  refine Jvm.Y9.Aim.of (T' := T63) (g' := (mkF m 11 #[.val (.ref a), .val (.int 1), .val (.int 0), .unset] [(.ref a)])) (fun tgt kt => ?_) ?_
  · refine XS.istoreN H hx rfl (hb hby eb_5) rfl (l' := #[.val (.ref a), .val (.int 1), .val (.int 0), .unset]) rfl ?_
    refine XS.iloadN H hx rfl (hb hby eb_6) rfl ?_
    refine XS.ifNo H hx rfl (hb hby eb_7) rfl ((if0 _ _).trans (flt (by decide)).2.2.1) ?_
    refine XS.aloadN H hx rfl (hb hby eb_10) rfl rfl ?_
    exact kt
  refine Jvm.Y9.Aim.getF P64 hx hZ hown (host := "") (Or.inl (wI hw 67 rfl)) Via.refl F1 (hb hby eb_11) ?_
  intro T65 P66
  refine Jvm.Y9.Aim.getS P66 hx hZ hown (wI hw 66 rfl) Via.refl (GA.1.ext F4.2) (hb hby eb_14) ?_
  intro T67 P68
  have H := P68.here
  refine Jvm.Y9.Aim.of (T' := T67) (g' := (mkF m 49 #[.val (.ref a), .val (.int 1), .val (.int 0), .unset] [(.int 1), (.int 10), (.ref a)])) (fun tgt kt => ?_) ?_
  · refine XT.acmpYes H hx rfl (pc0 := 17) (pc' := 45) rfl (hb hby eb_17) rfl rfl rfl (Jvm.Y9.own_acmpEqT rfl rfl rfl) (by decide) (by decide) ?_
    refine XS.aloadN H hx rfl (hb hby eb_45) rfl rfl ?_
    refine XS.bipush H hx rfl (hb hby eb_46) ?_
    refine XS.iloadN H hx rfl (hb hby eb_48) rfl ?_
    exact kt
  refine Jvm.Y9.Aim.callS (argsL := [(.int 10), (.int 1)]) (rest := [(.ref a)]) P68 hx hZ hml hown (wI hw 93 rfl) (wI hw 94 rfl) (wI hw 95 rfl) (wI hw 96 rfl) (by decide) (Jvm.Y9.Con.back (W := 1) (own_max10 l Z a0 hw h0 n0 Z0) hZ (wI hw 96 rfl) (wI hw 95 rfl) (by decide) (by decide)) rfl pd__28II_29I rfl (Nat.le_of_eq rfl) (hb hby eb_49) (by decide) (by decide) ?_
  intro T69 h70 v73 P71 hQ72
  obtain ⟨rfl, rfl⟩ := hQ72
  refine Jvm.Y9.Aim.newR (z := (10 : Int32)) P71 hx hZ hown (wI hw 97 rfl) (wI hw 98 rfl) (hb hby eb_52) (by decide) (cap := 10) (by decide) (by decide) (by decide) (by decide) ?_
  intro T76 h77 k78 b79 g84 P80 E81 V82 O83
  have K85 : Keep h0 h77 [] := (Keep.refl _ _).ext E81
  have K86 : Keep h0 h77 [a] := (Keep.refl h0 [a]).trans K85 all0
  have V87 : Arv Z h77 b79 k78 (.object "java/lang/Object") (10 : Int32) [.null, .null, .null, .null, .null, .null, .null, .null, .null, .null] (.null) := V82.pad (pad_rep [] .null 10)
  have H := P80.here
  refine Jvm.Y9.Aim.of (T' := T76) (g' := (mkF m 56 #[.val (.ref a), .val (.int 1), .val (.int 0), .unset] [(.ref b79), (.ref a), (.ref b79)])) (fun tgt kt => ?_) ?_
  · refine XS.dupX1 H hx rfl (hb hby eb_55) rfl rfl rfl ?_
    exact kt
  have F88 : Exa Z h77 a "java/util/ArrayList" := (F0.keep K85)
  have F89 : Fld Z h77 a "java/util/ArrayList" "elementData" "[Ljava/lang/Object;" (.ref dc) := (F1.keep K85 nin0)
  refine Jvm.Y9.Aim.putF (v := (.ref b79)) P80 hx hZ hown (host := "") (Or.inl (wI hw 67 rfl)) Via.refl F89 F88 (Or.inl (wI hw 68 rfl)) (wI hw 46 rfl) (ty := (.array (.object "java/lang/Object"))) (by decide) rfl rfl (hb hby eb_56) g_a ?_
  intro T90 h91 P92 W93
  have K94 := Keep.of_wr W93
  have F95 : Fld Z h91 a "java/util/ArrayList" "elementData" "[Ljava/lang/Object;" (.ref b79) := F89.same W93
  have K96 : Keep h0 h91 [a] := K86.trans K94 (allS (Or.inl (List.mem_of_getElem? (i := 0) rfl)) all0)
  have F97 : Exa Z h91 a "java/util/ArrayList" := (F88.keep K94)
  have F98 : Fld Z h91 a "java/util/ArrayList" "size" "I" (.int 0) := ((F2.keep K85 nin0).other W93 (Or.inr (slot_ne (Or.inl (wI hw 77 rfl)) (Or.inl (wI hw 68 rfl)) (by decide) (t := .int) (t' := (.array (.object "java/lang/Object"))) (by decide) (by decide))))
  have F99 : Fld Z h91 a "java/util/AbstractList" "modCount" "I" (.int mc) := ((F3.keep K85 nin0).other W93 (Or.inr (slot_ne (Or.inl (wI hw 65 rfl)) (Or.inl (wI hw 68 rfl)) (by decide) (t := .int) (t' := (.array (.object "java/lang/Object"))) (by decide) (by decide))))
  have F100 : Arv Z h91 b79 k78 (.object "java/lang/Object") (10 : Int32) [.null, .null, .null, .null, .null, .null, .null, .null, .null, .null] (.null) := (V87.keep K94 (ninS (Ne.symm (nL (lL F0.lt (Nat.le_of_eq g84.symm)))) nin0))
  exact Jvm.Y9.Aim.retA P92 hx hlk hret rfl rfl (hb hby eb_59) (by decide) (by decide) ⟨b79, k78, rfl, K96, (lT (Nat.le_refl _) (Nat.le_of_eq g84.symm)), F97, F95, F98, F99, F100, O83⟩
theorem ec_0 : decode jdk_38_method_7_code 0 = .ok (.aload_n 0, 1) := by decide +kernel
theorem ec_1 : decode jdk_38_method_7_code 1 = .ok (.aload_n 0, 1) := by decide +kernel
theorem ec_2 : decode jdk_38_method_7_code 2 = .ok (.getfield 48, 3) := by decide +kernel
theorem ec_5 : decode jdk_38_method_7_code 5 = .ok (.iconst 1, 1) := by decide +kernel
theorem ec_6 : decode jdk_38_method_7_code 6 = .ok (.iadd, 1) := by decide +kernel
theorem ec_7 : decode jdk_38_method_7_code 7 = .ok (.invokevirtual 69, 3) := by decide +kernel
theorem pd__28I_29_5bLjava_2flang_2fObject_3b : parseMethodDescriptor "(I)[Ljava/lang/Object;" = some ⟨[.int], some (.array (.object "java/lang/Object"))⟩ := by decide +kernel
theorem ec_10 : decode jdk_38_method_7_code 10 = .ok (.areturn, 1) := by decide +kernel
theorem own_grow (l : Launch) (Z : State) (a0 : Array Value) (hw : ∀ d ∈ tables_1, d.before a0 Z = true) (a : Addr) (mc : Int32) (dc : Addr) (kd : ClassId) (h0 : Heap) (n0 : Nat) (Z0 : n0 ≤ h0.size) (g_a : n0 ≤ a) (F0 : Exa Z h0 a "java/util/ArrayList") (F1 : Fld Z h0 a "java/util/ArrayList" "elementData" "[Ljava/lang/Object;" (.ref dc)) (F2 : Fld Z h0 a "java/util/ArrayList" "size" "I" (.int 0)) (F3 : Fld Z h0 a "java/util/AbstractList" "modCount" "I" (.int mc)) (F4 : Old Z n0 h0) (GA : Adc Z dc kd) :
    Jvm.Y9.Con l Z (⟨"java/util/ArrayList", "grow", "()[Ljava/lang/Object;"⟩ : MethodName) jdk_38_method_7_code 1 (some (.array (.object "java/lang/Object"))) ({ frames := 2, cells := 1, slots := 10, locals := 29 } : Room) n0 #[(.ref a)] h0 (fun v h => ∃ t : Addr, ∃ kk : ClassId, v = some (.ref t) ∧ Keep h0 h [a] ∧ h0.size ≤ t ∧ Exa Z h a "java/util/ArrayList" ∧ Fld Z h a "java/util/ArrayList" "elementData" "[Ljava/lang/Object;" (.ref t) ∧ Fld Z h a "java/util/ArrayList" "size" "I" (.int 0) ∧ Fld Z h a "java/util/AbstractList" "modCount" "I" (.int mc) ∧ Arv Z h t kk (.object "java/lang/Object") (10 : Int32) [.null, .null, .null, .null, .null, .null, .null, .null, .null, .null] (.null) ∧ Ovr Z kk "java/lang/Object") := by
  refine Jvm.Y9.Con.intro (plainFor_of_name pn_java_util_ArrayList) ?_
  intro p e s m below meth c s₁ hx hby hml hret hnm hown hlk hZ P0
  refine Jvm.Y9.Aim.cast (by first | (simp [entryFrame, mkF, argsToLocals, Value.category]; done) | rfl : entryFrame m #[(.ref a)] 1 = (mkF m 0 #[.val (.ref a)] [])) ?_
  have H := P0.here
  refine Jvm.Y9.Aim.of (T' := s₁) (g' := (mkF m 2 #[.val (.ref a)] [(.ref a), (.ref a)])) (fun tgt kt => ?_) ?_
  · refine XS.aloadN H hx rfl (hb hby ec_0) rfl rfl ?_
    refine XS.aloadN H hx rfl (hb hby ec_1) rfl rfl ?_
    exact kt
  refine Jvm.Y9.Aim.getF P0 hx hZ hown (host := "") (Or.inl (wI hw 76 rfl)) Via.refl F2 (hb hby ec_2) ?_
  intro z0 z1
  have H := z1.here
  refine Jvm.Y9.Aim.of (T' := z0) (g' := (mkF m 7 #[.val (.ref a)] [(.int 1), (.ref a)])) (fun tgt kt => ?_) ?_
  · refine XS.iconst H hx rfl (hb hby ec_5) ?_
    refine XS.iadd H hx rfl (hb hby ec_6) rfl ?_
    exact kt
  refine Jvm.Y9.Aim.callV (argsL := [(.int 1)]) (rest := []) (y := (⟨"java/util/ArrayList", "grow", "(I)[Ljava/lang/Object;"⟩ : MethodName)) (z := (⟨"java/util/ArrayList", "grow", "(I)[Ljava/lang/Object;"⟩ : MethodName)) z1 hx hZ hml hown (wI hw 88 rfl) (Jvm.Y9.declares_of (wI hw 89 rfl) (wI hw 92 rfl)) (notFace_of_selects (args := #[]) (mvT hZ (wI hw 91 rfl))) (wI hw 91 rfl) (wI hw 89 rfl) (by decide) F0 (Jvm.Y9.Con.back (W := 0) (own_growI l Z a0 hw a mc dc kd h0 n0 Z0 g_a F0 F1 F2 F3 F4 GA) hZ (wI hw 92 rfl) (wI hw 47 rfl) (by decide) (by decide)) rfl pd__28I_29_5bLjava_2flang_2fObject_3b rfl (Nat.le_of_eq rfl) (hb hby ec_7) (by decide) (by decide) ?_
  intro z2 z3 z4 z5 z6
  obtain ⟨t_110, kk_111, rfl, z7, z8, z9, za, zb, zc, zd, ze⟩ := z6
  have zf : Keep h0 z3 [a] := (Keep.refl h0 [a]).trans z7 (allS (Or.inl (List.mem_of_getElem? (i := 0) rfl)) all0)
  exact Jvm.Y9.Aim.retA z5 hx hlk hret rfl rfl (hb hby ec_10) (by decide) (by decide) ⟨t_110, kk_111, rfl, zf, (lT (Nat.le_refl _) z8), z9, za, zb, zc, zd, ze⟩
theorem e9_0 : decode jdk_38_method_24_code 0 = .ok (.iload_n 3, 1) := by decide +kernel
theorem e9_1 : decode jdk_38_method_24_code 1 = .ok (.aload_n 2, 1) := by decide +kernel
theorem e9_2 : decode jdk_38_method_24_code 2 = .ok (.arraylength, 1) := by decide +kernel
theorem e9_3 : decode jdk_38_method_24_code 3 = .ok (.if_icmp .ne 8, 3) := by decide +kernel
theorem e9_6 : decode jdk_38_method_24_code 6 = .ok (.aload_n 0, 1) := by decide +kernel
theorem e9_7 : decode jdk_38_method_24_code 7 = .ok (.invokevirtual 129, 3) := by decide +kernel
theorem pd__28_29_5bLjava_2flang_2fObject_3b : parseMethodDescriptor "()[Ljava/lang/Object;" = some ⟨[], some (.array (.object "java/lang/Object"))⟩ := by decide +kernel
theorem e9_10 : decode jdk_38_method_24_code 10 = .ok (.astore_n 2, 1) := by decide +kernel
theorem e9_11 : decode jdk_38_method_24_code 11 = .ok (.aload_n 2, 1) := by decide +kernel
theorem e9_12 : decode jdk_38_method_24_code 12 = .ok (.iload_n 3, 1) := by decide +kernel
theorem e9_13 : decode jdk_38_method_24_code 13 = .ok (.aload_n 1, 1) := by decide +kernel
theorem e9_14 : decode jdk_38_method_24_code 14 = .ok (.aastore, 1) := by decide +kernel
theorem e9_15 : decode jdk_38_method_24_code 15 = .ok (.aload_n 0, 1) := by decide +kernel
theorem e9_16 : decode jdk_38_method_24_code 16 = .ok (.iload_n 3, 1) := by decide +kernel
theorem e9_17 : decode jdk_38_method_24_code 17 = .ok (.iconst 1, 1) := by decide +kernel
theorem e9_18 : decode jdk_38_method_24_code 18 = .ok (.iadd, 1) := by decide +kernel
theorem e9_19 : decode jdk_38_method_24_code 19 = .ok (.putfield 48, 3) := by decide +kernel
theorem e9_22 : decode jdk_38_method_24_code 22 = .ok (.return_, 1) := by decide +kernel
theorem own_adA0 (l : Launch) (Z : State) (a0 : Array Value) (hw : ∀ d ∈ tables_1, d.before a0 Z = true) (a : Addr) (o : Addr) (mc : Int32) (dc : Addr) (kd : ClassId) (h0 : Heap) (n0 : Nat) (Z0 : n0 ≤ h0.size) (g_a : n0 ≤ a) (F0 : Exa Z h0 a "java/util/ArrayList") (F1 : Fld Z h0 a "java/util/ArrayList" "elementData" "[Ljava/lang/Object;" (.ref dc)) (F2 : Fld Z h0 a "java/util/ArrayList" "size" "I" (.int 0)) (F3 : Fld Z h0 a "java/util/AbstractList" "modCount" "I" (.int mc)) (F4 : Exa Z h0 o "java/lang/String") (F5 : Old Z n0 h0) (GA : Adc Z dc kd) :
    Jvm.Y9.Con l Z (⟨"java/util/ArrayList", "add", "(Ljava/lang/Object;[Ljava/lang/Object;I)V"⟩ : MethodName) jdk_38_method_24_code 4 none ({ frames := 3, cells := 1, slots := 10, locals := 41 } : Room) n0 #[(.ref a), (.ref o), (.ref dc), (.int 0)] h0 (fun v h => ∃ t : Addr, ∃ kk : ClassId, v = none ∧ Keep h0 h [a] ∧ h0.size ≤ t ∧ Exa Z h a "java/util/ArrayList" ∧ Fld Z h a "java/util/ArrayList" "elementData" "[Ljava/lang/Object;" (.ref t) ∧ Fld Z h a "java/util/ArrayList" "size" "I" (.int 1) ∧ Fld Z h a "java/util/AbstractList" "modCount" "I" (.int mc) ∧ Arv Z h t kk (.object "java/lang/Object") (10 : Int32) [(.ref o), .null, .null, .null, .null, .null, .null, .null, .null, .null] (.null) ∧ Ovr Z kk "java/lang/Object") := by
  refine Jvm.Y9.Con.intro (plainFor_of_name pn_java_util_ArrayList) ?_
  intro p e s m below meth c s₁ hx hby hml hret hnm hown hlk hZ P0
  refine Jvm.Y9.Aim.cast (by first | (simp [entryFrame, mkF, argsToLocals, Value.category]; done) | rfl : entryFrame m #[(.ref a), (.ref o), (.ref dc), (.int 0)] 4 = (mkF m 0 #[.val (.ref a), .val (.ref o), .val (.ref dc), .val (.int 0)] [])) ?_
  have ldc_ : dc < n0 := F5.1 ▸ GA.2.lt
  have z0 : Arv Z h0 dc kd (.object "java/lang/Object") (0 : Int32) [] (.null) := GA.2.keep ((Keep.refl _ []).ext F5.2) nin0
  have H := P0.here
  refine Jvm.Y9.Aim.of (T' := s₁) (g' := (mkF m 2 #[.val (.ref a), .val (.ref o), .val (.ref dc), .val (.int 0)] [(.ref dc), (.int 0)])) (fun tgt kt => ?_) ?_
  · refine XS.iloadN H hx rfl (hb hby e9_0) rfl ?_
    refine XS.aloadN H hx rfl (hb hby e9_1) rfl rfl ?_
    exact kt
  refine Jvm.Y9.Aim.alen P0 hx hZ z0 (hb hby e9_2) ?_
  have H := P0.here
  refine Jvm.Y9.Aim.of (T' := s₁) (g' := (mkF m 7 #[.val (.ref a), .val (.ref o), .val (.ref dc), .val (.int 0)] [(.ref a)])) (fun tgt kt => ?_) ?_
  · refine XS.icmpNo H hx rfl (hb hby e9_3) rfl (teq (by decide)).2 ?_
    refine XS.aloadN H hx rfl (hb hby e9_6) rfl rfl ?_
    exact kt
  refine Jvm.Y9.Aim.callV (argsL := []) (rest := []) (y := (⟨"java/util/ArrayList", "grow", "()[Ljava/lang/Object;"⟩ : MethodName)) (z := (⟨"java/util/ArrayList", "grow", "()[Ljava/lang/Object;"⟩ : MethodName)) P0 hx hZ hml hown (wI hw 83 rfl) (Jvm.Y9.declares_of (wI hw 84 rfl) (wI hw 87 rfl)) (notFace_of_selects (args := #[]) (mvT hZ (wI hw 86 rfl))) (wI hw 86 rfl) (wI hw 84 rfl) (by decide) F0 (Jvm.Y9.Con.back (W := 0) (own_grow l Z a0 hw a mc dc kd h0 n0 Z0 g_a F0 F1 F2 F3 F5 GA) hZ (wI hw 87 rfl) (wI hw 47 rfl) (by decide) (by decide)) rfl pd__28_29_5bLjava_2flang_2fObject_3b rfl (Nat.le_of_eq rfl) (hb hby e9_7) (by decide) (by decide) ?_
  intro z1 z2 z3 z4 z5
  obtain ⟨t_129, kk_130, rfl, z6, z7, z8, z9, za, zb, zc, zd⟩ := z5
  have ze : Keep h0 z2 [a] := (Keep.refl h0 [a]).trans z6 (allS (Or.inl (List.mem_of_getElem? (i := 0) rfl)) all0)
  have H := z4.here
  refine Jvm.Y9.Aim.of (T' := z1) (g' := (mkF m 14 #[.val (.ref a), .val (.ref o), .val (.ref t_129), .val (.int 0)] [(.ref o), (.int 0), (.ref t_129)])) (fun tgt kt => ?_) ?_
  · refine XS.astoreN H hx rfl (hb hby e9_10) rfl rfl (l' := #[.val (.ref a), .val (.ref o), .val (.ref t_129), .val (.int 0)]) rfl ?_
    refine XS.aloadN H hx rfl (hb hby e9_11) rfl rfl ?_
    refine XS.iloadN H hx rfl (hb hby e9_12) rfl ?_
    refine XS.aloadN H hx rfl (hb hby e9_13) rfl rfl ?_
    exact kt
  have zf : Exa Z z2 o "java/lang/String" := (F4.keep z6)
  refine Jvm.Y9.Aim.stR (j := (0 : Int32)) z4 hx hZ zc zd (Ins.of_exa zf (wI hw 99 rfl)) ⟨by decide, by decide⟩ 0 rfl (Nat.le_of_ble_eq_true rfl) (hb hby e9_14) (lT Z0 z7) ?_
  intro zg zh zi zj zk
  replace zk : Arv Z zh t_129 kk_130 (.object "java/lang/Object") (10 : Int32) [(.ref o), .null, .null, .null, .null, .null, .null, .null, .null, .null] (.null) := zk
  have zl : Keep h0 zh [a] := ze.trans zj (allS (Or.inr (lT (Nat.le_refl _) z7)) all0)
  have H := zi.here
  refine Jvm.Y9.Aim.of (T' := zg) (g' := (mkF m 19 #[.val (.ref a), .val (.ref o), .val (.ref t_129), .val (.int 0)] [(.int 1), (.ref a)])) (fun tgt kt => ?_) ?_
  · refine XS.aloadN H hx rfl (hb hby e9_15) rfl rfl ?_
    refine XS.iloadN H hx rfl (hb hby e9_16) rfl ?_
    refine XS.iconst H hx rfl (hb hby e9_17) ?_
    refine XS.iadd H hx rfl (hb hby e9_18) rfl ?_
    exact kt
  have zm : Exa Z zh a "java/util/ArrayList" := (z8.keep zj)
  have zn : Fld Z zh a "java/util/ArrayList" "size" "I" (.int 0) := (za.keep zj (ninS (nL (lL F0.lt z7)) nin0))
  refine Jvm.Y9.Aim.putF (v := (.int 1)) zi hx hZ hown (host := "") (Or.inl (wI hw 76 rfl)) Via.refl zn zm (Or.inl (wI hw 77 rfl)) (wI hw 46 rfl) (ty := .int) (by decide) rfl rfl (hb hby e9_19) g_a ?_
  intro zo zp zq zr
  have zs := Keep.of_wr zr
  have zt : Fld Z zp a "java/util/ArrayList" "size" "I" (.int 1) := zn.same zr
  have zu : Keep h0 zp [a] := zl.trans zs (allS (Or.inl (List.mem_of_getElem? (i := 0) rfl)) all0)
  have zv : Exa Z zp a "java/util/ArrayList" := (zm.keep zs)
  have zw : Fld Z zp a "java/util/ArrayList" "elementData" "[Ljava/lang/Object;" (.ref t_129) := ((z9.keep zj (ninS (nL (lL F0.lt z7)) nin0)).other zr (Or.inr (slot_ne (Or.inl (wI hw 68 rfl)) (Or.inl (wI hw 77 rfl)) (by decide) (t := (.array (.object "java/lang/Object"))) (t' := .int) (by decide) (by decide))))
  have zx : Fld Z zp a "java/util/AbstractList" "modCount" "I" (.int mc) := ((zb.keep zj (ninS (nL (lL F0.lt z7)) nin0)).other zr (Or.inr (slot_ne (Or.inl (wI hw 65 rfl)) (Or.inl (wI hw 77 rfl)) (by decide) (t := .int) (t' := .int) (by decide) (by decide))))
  have zy : Arv Z zp t_129 kk_130 (.object "java/lang/Object") (10 : Int32) [(.ref o), .null, .null, .null, .null, .null, .null, .null, .null, .null] (.null) := (zk.keep zs (ninS (Ne.symm (nL (lL F0.lt z7))) nin0))
  exact Jvm.Y9.Aim.retV zq hx hlk hret (hb hby e9_22) (by decide) (by decide) ⟨t_129, kk_130, rfl, zu, (lT (Nat.le_refl _) z7), zv, zw, zt, zx, zy, zd⟩
theorem own_adA1 (l : Launch) (Z : State) (a0 : Array Value) (hw : ∀ d ∈ tables_1, d.before a0 Z = true) (a : Addr) (o : Addr) (o2 : Addr) (mc : Int32) (t : Addr) (kk : ClassId) (h0 : Heap) (n0 : Nat) (Z0 : n0 ≤ h0.size) (g_a : n0 ≤ a) (g_t : n0 ≤ t) (F0 : Exa Z h0 a "java/util/ArrayList") (F1 : Fld Z h0 a "java/util/ArrayList" "elementData" "[Ljava/lang/Object;" (.ref t)) (F2 : Fld Z h0 a "java/util/ArrayList" "size" "I" (.int 1)) (F3 : Fld Z h0 a "java/util/AbstractList" "modCount" "I" (.int mc)) (F4 : Arv Z h0 t kk (.object "java/lang/Object") (10 : Int32) [(.ref o), .null, .null, .null, .null, .null, .null, .null, .null, .null] (.null)) (F5 : Exa Z h0 o2 "java/lang/String") (F6 : Old Z n0 h0) (ho : Ovr Z kk "java/lang/Object") (nat : a ≠ t) :
    Jvm.Y9.Con l Z (⟨"java/util/ArrayList", "add", "(Ljava/lang/Object;[Ljava/lang/Object;I)V"⟩ : MethodName) jdk_38_method_24_code 4 none ({ frames := 0, cells := 0, slots := 0, locals := 0 } : Room) n0 #[(.ref a), (.ref o2), (.ref t), (.int 1)] h0 (fun v h => v = none ∧ Keep h0 h [a, t] ∧ Exa Z h a "java/util/ArrayList" ∧ Fld Z h a "java/util/ArrayList" "elementData" "[Ljava/lang/Object;" (.ref t) ∧ Fld Z h a "java/util/ArrayList" "size" "I" (.int 2) ∧ Fld Z h a "java/util/AbstractList" "modCount" "I" (.int mc) ∧ Arv Z h t kk (.object "java/lang/Object") (10 : Int32) [(.ref o), (.ref o2), .null, .null, .null, .null, .null, .null, .null, .null] (.null)) := by
  refine Jvm.Y9.Con.intro (plainFor_of_name pn_java_util_ArrayList) ?_
  intro p e s m below meth c s₁ hx hby hml hret hnm hown hlk hZ P0
  refine Jvm.Y9.Aim.cast (by first | (simp [entryFrame, mkF, argsToLocals, Value.category]; done) | rfl : entryFrame m #[(.ref a), (.ref o2), (.ref t), (.int 1)] 4 = (mkF m 0 #[.val (.ref a), .val (.ref o2), .val (.ref t), .val (.int 1)] [])) ?_
  have H := P0.here
  refine Jvm.Y9.Aim.of (T' := s₁) (g' := (mkF m 2 #[.val (.ref a), .val (.ref o2), .val (.ref t), .val (.int 1)] [(.ref t), (.int 1)])) (fun tgt kt => ?_) ?_
  · refine XS.iloadN H hx rfl (hb hby e9_0) rfl ?_
    refine XS.aloadN H hx rfl (hb hby e9_1) rfl rfl ?_
    exact kt
  refine Jvm.Y9.Aim.alen P0 hx hZ F4 (hb hby e9_2) ?_
  have H := P0.here
  refine Jvm.Y9.Aim.of (T' := s₁) (g' := (mkF m 14 #[.val (.ref a), .val (.ref o2), .val (.ref t), .val (.int 1)] [(.ref o2), (.int 1), (.ref t)])) (fun tgt kt => ?_) ?_
  · refine XS.icmpYes H hx rfl (pc0 := 3) (pc' := 11) rfl (hb hby e9_3) rfl (feq (by decide)).2 (by decide) (by decide) ?_
    refine XS.aloadN H hx rfl (hb hby e9_11) rfl rfl ?_
    refine XS.iloadN H hx rfl (hb hby e9_12) rfl ?_
    refine XS.aloadN H hx rfl (hb hby e9_13) rfl rfl ?_
    exact kt
  refine Jvm.Y9.Aim.stR (j := (1 : Int32)) P0 hx hZ F4 ho (Ins.of_exa F5 (wI hw 99 rfl)) ⟨by decide, by decide⟩ 1 rfl (Nat.le_of_ble_eq_true rfl) (hb hby e9_14) g_t ?_
  intro z0 z1 z2 z3 z4
  replace z4 : Arv Z z1 t kk (.object "java/lang/Object") (10 : Int32) [(.ref o), (.ref o2), .null, .null, .null, .null, .null, .null, .null, .null] (.null) := z4
  have z5 : Keep h0 z1 [a, t] := (Keep.refl h0 [a, t]).trans z3 (allS (Or.inl (List.mem_of_getElem? (i := 1) rfl)) all0)
  have H := z2.here
  refine Jvm.Y9.Aim.of (T' := z0) (g' := (mkF m 19 #[.val (.ref a), .val (.ref o2), .val (.ref t), .val (.int 1)] [(.int 2), (.ref a)])) (fun tgt kt => ?_) ?_
  · refine XS.aloadN H hx rfl (hb hby e9_15) rfl rfl ?_
    refine XS.iloadN H hx rfl (hb hby e9_16) rfl ?_
    refine XS.iconst H hx rfl (hb hby e9_17) ?_
    refine XS.iadd H hx rfl (hb hby e9_18) rfl ?_
    exact kt
  have z6 : Exa Z z1 a "java/util/ArrayList" := (F0.keep z3)
  have z7 : Fld Z z1 a "java/util/ArrayList" "size" "I" (.int 1) := (F2.keep z3 (ninS nat nin0))
  refine Jvm.Y9.Aim.putF (v := (.int 2)) z2 hx hZ hown (host := "") (Or.inl (wI hw 76 rfl)) Via.refl z7 z6 (Or.inl (wI hw 77 rfl)) (wI hw 46 rfl) (ty := .int) (by decide) rfl rfl (hb hby e9_19) g_a ?_
  intro z8 z9 za zb
  have zc := Keep.of_wr zb
  have zd : Fld Z z9 a "java/util/ArrayList" "size" "I" (.int 2) := z7.same zb
  have ze : Keep h0 z9 [a, t] := z5.trans zc (allS (Or.inl (List.mem_of_getElem? (i := 0) rfl)) all0)
  have zf : Exa Z z9 a "java/util/ArrayList" := (z6.keep zc)
  have zg : Fld Z z9 a "java/util/ArrayList" "elementData" "[Ljava/lang/Object;" (.ref t) := ((F1.keep z3 (ninS nat nin0)).other zb (Or.inr (slot_ne (Or.inl (wI hw 68 rfl)) (Or.inl (wI hw 77 rfl)) (by decide) (t := (.array (.object "java/lang/Object"))) (t' := .int) (by decide) (by decide))))
  have zh : Fld Z z9 a "java/util/AbstractList" "modCount" "I" (.int mc) := ((F3.keep z3 (ninS nat nin0)).other zb (Or.inr (slot_ne (Or.inl (wI hw 65 rfl)) (Or.inl (wI hw 77 rfl)) (by decide) (t := .int) (t' := .int) (by decide) (by decide))))
  have zi : Arv Z z9 t kk (.object "java/lang/Object") (10 : Int32) [(.ref o), (.ref o2), .null, .null, .null, .null, .null, .null, .null, .null] (.null) := (z4.keep zc (ninS (Ne.symm nat) nin0))
  exact Jvm.Y9.Aim.retV za hx hlk hret (hb hby e9_22) (by decide) (by decide) ⟨rfl, ze, zf, zg, zd, zh, zi⟩
theorem ea_0 : decode jdk_38_method_25_code 0 = .ok (.aload_n 0, 1) := by decide +kernel
theorem ea_1 : decode jdk_38_method_25_code 1 = .ok (.dup, 1) := by decide +kernel
theorem ea_2 : decode jdk_38_method_25_code 2 = .ok (.getfield 63, 3) := by decide +kernel
theorem ea_5 : decode jdk_38_method_25_code 5 = .ok (.iconst 1, 1) := by decide +kernel
theorem ea_6 : decode jdk_38_method_25_code 6 = .ok (.iadd, 1) := by decide +kernel
theorem ea_7 : decode jdk_38_method_25_code 7 = .ok (.putfield 63, 3) := by decide +kernel
theorem ea_10 : decode jdk_38_method_25_code 10 = .ok (.aload_n 0, 1) := by decide +kernel
theorem ea_11 : decode jdk_38_method_25_code 11 = .ok (.aload_n 1, 1) := by decide +kernel
theorem ea_12 : decode jdk_38_method_25_code 12 = .ok (.aload_n 0, 1) := by decide +kernel
theorem ea_13 : decode jdk_38_method_25_code 13 = .ok (.getfield 9, 3) := by decide +kernel
theorem ea_16 : decode jdk_38_method_25_code 16 = .ok (.aload_n 0, 1) := by decide +kernel
theorem ea_17 : decode jdk_38_method_25_code 17 = .ok (.getfield 48, 3) := by decide +kernel
theorem ea_20 : decode jdk_38_method_25_code 20 = .ok (.invokevirtual 131, 3) := by decide +kernel
theorem pd__28Ljava_2flang_2fObject_3b_5bLjava_2flang_2fObject_3bI_29V : parseMethodDescriptor "(Ljava/lang/Object;[Ljava/lang/Object;I)V" = some ⟨[(.object "java/lang/Object"), (.array (.object "java/lang/Object")), .int], none⟩ := by decide +kernel
theorem ea_23 : decode jdk_38_method_25_code 23 = .ok (.iconst 1, 1) := by decide +kernel
theorem ea_24 : decode jdk_38_method_25_code 24 = .ok (.ireturn, 1) := by decide +kernel
theorem own_add0 (l : Launch) (Z : State) (a0 : Array Value) (hw : ∀ d ∈ tables_1, d.before a0 Z = true) (a : Addr) (o : Addr) (mc : Int32) (dc : Addr) (kd : ClassId) (h0 : Heap) (n0 : Nat) (Z0 : n0 ≤ h0.size) (g_a : n0 ≤ a) (F0 : Exa Z h0 a "java/util/ArrayList") (F1 : Fld Z h0 a "java/util/ArrayList" "elementData" "[Ljava/lang/Object;" (.ref dc)) (F2 : Fld Z h0 a "java/util/ArrayList" "size" "I" (.int 0)) (F3 : Fld Z h0 a "java/util/AbstractList" "modCount" "I" (.int mc)) (F4 : Exa Z h0 o "java/lang/String") (F5 : Old Z n0 h0) (GA : Adc Z dc kd) :
    Jvm.Y9.Con l Z (⟨"java/util/ArrayList", "add", "(Ljava/lang/Object;)Z"⟩ : MethodName) jdk_38_method_25_code 2 (some .boolean) ({ frames := 4, cells := 1, slots := 10, locals := 56 } : Room) n0 #[(.ref a), (.ref o)] h0 (fun v h => ∃ t : Addr, ∃ kk : ClassId, v = some (.int 1) ∧ Keep h0 h [a] ∧ h0.size ≤ t ∧ Exa Z h a "java/util/ArrayList" ∧ Fld Z h a "java/util/ArrayList" "elementData" "[Ljava/lang/Object;" (.ref t) ∧ Fld Z h a "java/util/ArrayList" "size" "I" (.int 1) ∧ Fld Z h a "java/util/AbstractList" "modCount" "I" (.int (mc + (1 : Int32))) ∧ Arv Z h t kk (.object "java/lang/Object") (10 : Int32) [(.ref o), .null, .null, .null, .null, .null, .null, .null, .null, .null] (.null) ∧ Ovr Z kk "java/lang/Object") := by
  refine Jvm.Y9.Con.intro (plainFor_of_name pn_java_util_ArrayList) ?_
  intro p e s m below meth c s₁ hx hby hml hret hnm hown hlk hZ P0
  refine Jvm.Y9.Aim.cast (by first | (simp [entryFrame, mkF, argsToLocals, Value.category]; done) | rfl : entryFrame m #[(.ref a), (.ref o)] 2 = (mkF m 0 #[.val (.ref a), .val (.ref o)] [])) ?_
  have H := P0.here
  refine Jvm.Y9.Aim.of (T' := s₁) (g' := (mkF m 2 #[.val (.ref a), .val (.ref o)] [(.ref a), (.ref a)])) (fun tgt kt => ?_) ?_
  · refine XS.aloadN H hx rfl (hb hby ea_0) rfl rfl ?_
    refine XS.dup H hx rfl (hb hby ea_1) rfl rfl ?_
    exact kt
  refine Jvm.Y9.Aim.getF P0 hx hZ hown (host := "") (Or.inl (wI hw 74 rfl)) (Via.of (wI hw 75 rfl)) F3 (hb hby ea_2) ?_
  intro z0 z1
  have H := z1.here
  refine Jvm.Y9.Aim.of (T' := z0) (g' := (mkF m 7 #[.val (.ref a), .val (.ref o)] [(.int (mc + (1 : Int32))), (.ref a)])) (fun tgt kt => ?_) ?_
  · refine XS.iconst H hx rfl (hb hby ea_5) ?_
    refine XS.iadd H hx rfl (hb hby ea_6) rfl ?_
    exact kt
  refine Jvm.Y9.Aim.putF (v := (.int (mc + (1 : Int32)))) z1 hx hZ hown (host := "") (Or.inl (wI hw 74 rfl)) (Via.of (wI hw 75 rfl)) F3 F0 (Or.inl (wI hw 65 rfl)) (wI hw 46 rfl) (ty := .int) (by decide) rfl rfl (hb hby ea_7) g_a ?_
  intro z2 z3 z4 z5
  have z6 := Keep.of_wr z5
  have z7 : Fld Z z3 a "java/util/AbstractList" "modCount" "I" (.int (mc + (1 : Int32))) := F3.same z5
  have z8 : Keep h0 z3 [a] := (Keep.refl h0 [a]).trans z6 (allS (Or.inl (List.mem_of_getElem? (i := 0) rfl)) all0)
  have H := z4.here
  refine Jvm.Y9.Aim.of (T' := z2) (g' := (mkF m 13 #[.val (.ref a), .val (.ref o)] [(.ref a), (.ref o), (.ref a)])) (fun tgt kt => ?_) ?_
  · refine XS.aloadN H hx rfl (hb hby ea_10) rfl rfl ?_
    refine XS.aloadN H hx rfl (hb hby ea_11) rfl rfl ?_
    refine XS.aloadN H hx rfl (hb hby ea_12) rfl rfl ?_
    exact kt
  have z9 : Fld Z z3 a "java/util/ArrayList" "elementData" "[Ljava/lang/Object;" (.ref dc) := (F1.other z5 (Or.inr (slot_ne (Or.inl (wI hw 68 rfl)) (Or.inl (wI hw 65 rfl)) (by decide) (t := (.array (.object "java/lang/Object"))) (t' := .int) (by decide) (by decide))))
  refine Jvm.Y9.Aim.getF z4 hx hZ hown (host := "") (Or.inl (wI hw 67 rfl)) Via.refl z9 (hb hby ea_13) ?_
  intro za zb
  have H := zb.here
  refine Jvm.Y9.Aim.of (T' := za) (g' := (mkF m 17 #[.val (.ref a), .val (.ref o)] [(.ref a), (.ref dc), (.ref o), (.ref a)])) (fun tgt kt => ?_) ?_
  · refine XS.aloadN H hx rfl (hb hby ea_16) rfl rfl ?_
    exact kt
  have zc : Fld Z z3 a "java/util/ArrayList" "size" "I" (.int 0) := (F2.other z5 (Or.inr (slot_ne (Or.inl (wI hw 77 rfl)) (Or.inl (wI hw 65 rfl)) (by decide) (t := .int) (t' := .int) (by decide) (by decide))))
  refine Jvm.Y9.Aim.getF zb hx hZ hown (host := "") (Or.inl (wI hw 76 rfl)) Via.refl zc (hb hby ea_17) ?_
  intro zd ze
  have zf : Exa Z z3 a "java/util/ArrayList" := (F0.keep z6)
  have zg : Exa Z z3 o "java/lang/String" := (F4.keep z6)
  have zh : Old Z n0 z3 := (F5.keep z6 (allS g_a all0))
  refine Jvm.Y9.Aim.callV (argsL := [(.ref o), (.ref dc), (.int 0)]) (rest := []) (y := (⟨"java/util/ArrayList", "add", "(Ljava/lang/Object;[Ljava/lang/Object;I)V"⟩ : MethodName)) (z := (⟨"java/util/ArrayList", "add", "(Ljava/lang/Object;[Ljava/lang/Object;I)V"⟩ : MethodName)) ze hx hZ hml hown (wI hw 78 rfl) (Jvm.Y9.declares_of (wI hw 79 rfl) (wI hw 82 rfl)) (notFace_of_selects (args := #[]) (mvT hZ (wI hw 81 rfl))) (wI hw 81 rfl) (wI hw 79 rfl) (by decide) zf (Jvm.Y9.Con.back (W := 0) (own_adA0 l Z a0 hw a o (mc + (1 : Int32)) dc kd z3 n0 (lT Z0 (z8.1)) g_a zf z9 zc z7 zg zh GA) hZ (wI hw 82 rfl) (wI hw 47 rfl) (by decide) (by decide)) rfl pd__28Ljava_2flang_2fObject_3b_5bLjava_2flang_2fObject_3bI_29V rfl (Nat.le_of_eq rfl) (hb hby ea_20) (by decide) (by decide) ?_
  intro zi zj zk zl zm
  obtain ⟨t_204, kk_205, rfl, zn, zo, zp, zq, zr, zs, zt, zu⟩ := zm
  have zv : Keep h0 zj [a] := z8.trans zn (allS (Or.inl (List.mem_of_getElem? (i := 0) rfl)) all0)
  have H := zl.here
  refine Jvm.Y9.Aim.of (T' := zi) (g' := (mkF m 24 #[.val (.ref a), .val (.ref o)] [(.int 1)])) (fun tgt kt => ?_) ?_
  · refine XS.iconst H hx rfl (hb hby ea_23) ?_
    exact kt
  exact Jvm.Y9.Aim.retN (t := .boolean) zl hx hlk hret (by simp) (hb hby ea_24) (by decide) (by decide) ⟨t_204, kk_205, rfl, zv, (lT (z8.1) zo), zp, zq, zr, zs, zt, zu⟩
theorem own_add1 (l : Launch) (Z : State) (a0 : Array Value) (hw : ∀ d ∈ tables_1, d.before a0 Z = true) (a : Addr) (o : Addr) (o2 : Addr) (mc : Int32) (t : Addr) (kk : ClassId) (h0 : Heap) (n0 : Nat) (Z0 : n0 ≤ h0.size) (g_a : n0 ≤ a) (g_t : n0 ≤ t) (F0 : Exa Z h0 a "java/util/ArrayList") (F1 : Fld Z h0 a "java/util/ArrayList" "elementData" "[Ljava/lang/Object;" (.ref t)) (F2 : Fld Z h0 a "java/util/ArrayList" "size" "I" (.int 1)) (F3 : Fld Z h0 a "java/util/AbstractList" "modCount" "I" (.int mc)) (F4 : Arv Z h0 t kk (.object "java/lang/Object") (10 : Int32) [(.ref o), .null, .null, .null, .null, .null, .null, .null, .null, .null] (.null)) (F5 : Exa Z h0 o2 "java/lang/String") (F6 : Old Z n0 h0) (ho : Ovr Z kk "java/lang/Object") (nat : a ≠ t) :
    Jvm.Y9.Con l Z (⟨"java/util/ArrayList", "add", "(Ljava/lang/Object;)Z"⟩ : MethodName) jdk_38_method_25_code 2 (some .boolean) ({ frames := 1, cells := 0, slots := 0, locals := 15 } : Room) n0 #[(.ref a), (.ref o2)] h0 (fun v h => v = some (.int 1) ∧ Keep h0 h [a, t] ∧ Exa Z h a "java/util/ArrayList" ∧ Fld Z h a "java/util/ArrayList" "elementData" "[Ljava/lang/Object;" (.ref t) ∧ Fld Z h a "java/util/ArrayList" "size" "I" (.int 2) ∧ Fld Z h a "java/util/AbstractList" "modCount" "I" (.int (mc + (1 : Int32))) ∧ Arv Z h t kk (.object "java/lang/Object") (10 : Int32) [(.ref o), (.ref o2), .null, .null, .null, .null, .null, .null, .null, .null] (.null)) := by
  refine Jvm.Y9.Con.intro (plainFor_of_name pn_java_util_ArrayList) ?_
  intro p e s m below meth c s₁ hx hby hml hret hnm hown hlk hZ P0
  refine Jvm.Y9.Aim.cast (by first | (simp [entryFrame, mkF, argsToLocals, Value.category]; done) | rfl : entryFrame m #[(.ref a), (.ref o2)] 2 = (mkF m 0 #[.val (.ref a), .val (.ref o2)] [])) ?_
  have H := P0.here
  refine Jvm.Y9.Aim.of (T' := s₁) (g' := (mkF m 2 #[.val (.ref a), .val (.ref o2)] [(.ref a), (.ref a)])) (fun tgt kt => ?_) ?_
  · refine XS.aloadN H hx rfl (hb hby ea_0) rfl rfl ?_
    refine XS.dup H hx rfl (hb hby ea_1) rfl rfl ?_
    exact kt
  refine Jvm.Y9.Aim.getF P0 hx hZ hown (host := "") (Or.inl (wI hw 74 rfl)) (Via.of (wI hw 75 rfl)) F3 (hb hby ea_2) ?_
  intro z0 z1
  have H := z1.here
  refine Jvm.Y9.Aim.of (T' := z0) (g' := (mkF m 7 #[.val (.ref a), .val (.ref o2)] [(.int (mc + (1 : Int32))), (.ref a)])) (fun tgt kt => ?_) ?_
  · refine XS.iconst H hx rfl (hb hby ea_5) ?_
    refine XS.iadd H hx rfl (hb hby ea_6) rfl ?_
    exact kt
  refine Jvm.Y9.Aim.putF (v := (.int (mc + (1 : Int32)))) z1 hx hZ hown (host := "") (Or.inl (wI hw 74 rfl)) (Via.of (wI hw 75 rfl)) F3 F0 (Or.inl (wI hw 65 rfl)) (wI hw 46 rfl) (ty := .int) (by decide) rfl rfl (hb hby ea_7) g_a ?_
  intro z2 z3 z4 z5
  have z6 := Keep.of_wr z5
  have z7 : Fld Z z3 a "java/util/AbstractList" "modCount" "I" (.int (mc + (1 : Int32))) := F3.same z5
  have z8 : Keep h0 z3 [a, t] := (Keep.refl h0 [a, t]).trans z6 (allS (Or.inl (List.mem_of_getElem? (i := 0) rfl)) all0)
  have H := z4.here
  refine Jvm.Y9.Aim.of (T' := z2) (g' := (mkF m 13 #[.val (.ref a), .val (.ref o2)] [(.ref a), (.ref o2), (.ref a)])) (fun tgt kt => ?_) ?_
  · refine XS.aloadN H hx rfl (hb hby ea_10) rfl rfl ?_
    refine XS.aloadN H hx rfl (hb hby ea_11) rfl rfl ?_
    refine XS.aloadN H hx rfl (hb hby ea_12) rfl rfl ?_
    exact kt
  have z9 : Fld Z z3 a "java/util/ArrayList" "elementData" "[Ljava/lang/Object;" (.ref t) := (F1.other z5 (Or.inr (slot_ne (Or.inl (wI hw 68 rfl)) (Or.inl (wI hw 65 rfl)) (by decide) (t := (.array (.object "java/lang/Object"))) (t' := .int) (by decide) (by decide))))
  refine Jvm.Y9.Aim.getF z4 hx hZ hown (host := "") (Or.inl (wI hw 67 rfl)) Via.refl z9 (hb hby ea_13) ?_
  intro za zb
  have H := zb.here
  refine Jvm.Y9.Aim.of (T' := za) (g' := (mkF m 17 #[.val (.ref a), .val (.ref o2)] [(.ref a), (.ref t), (.ref o2), (.ref a)])) (fun tgt kt => ?_) ?_
  · refine XS.aloadN H hx rfl (hb hby ea_16) rfl rfl ?_
    exact kt
  have zc : Fld Z z3 a "java/util/ArrayList" "size" "I" (.int 1) := (F2.other z5 (Or.inr (slot_ne (Or.inl (wI hw 77 rfl)) (Or.inl (wI hw 65 rfl)) (by decide) (t := .int) (t' := .int) (by decide) (by decide))))
  refine Jvm.Y9.Aim.getF zb hx hZ hown (host := "") (Or.inl (wI hw 76 rfl)) Via.refl zc (hb hby ea_17) ?_
  intro zd ze
  have zf : Exa Z z3 a "java/util/ArrayList" := (F0.keep z6)
  have zg : Arv Z z3 t kk (.object "java/lang/Object") (10 : Int32) [(.ref o), .null, .null, .null, .null, .null, .null, .null, .null, .null] (.null) := (F4.keep z6 (ninS (Ne.symm nat) nin0))
  have zh : Exa Z z3 o2 "java/lang/String" := (F5.keep z6)
  have zi : Old Z n0 z3 := (F6.keep z6 (allS g_a all0))
  refine Jvm.Y9.Aim.callV (argsL := [(.ref o2), (.ref t), (.int 1)]) (rest := []) (y := (⟨"java/util/ArrayList", "add", "(Ljava/lang/Object;[Ljava/lang/Object;I)V"⟩ : MethodName)) (z := (⟨"java/util/ArrayList", "add", "(Ljava/lang/Object;[Ljava/lang/Object;I)V"⟩ : MethodName)) ze hx hZ hml hown (wI hw 78 rfl) (Jvm.Y9.declares_of (wI hw 79 rfl) (wI hw 82 rfl)) (notFace_of_selects (args := #[]) (mvT hZ (wI hw 81 rfl))) (wI hw 81 rfl) (wI hw 79 rfl) (by decide) zf (Jvm.Y9.Con.back (W := 0) (own_adA1 l Z a0 hw a o o2 (mc + (1 : Int32)) t kk z3 n0 (lT Z0 (z8.1)) g_a g_t zf z9 zc z7 zg zh zi ho nat) hZ (wI hw 82 rfl) (wI hw 47 rfl) (by decide) (by decide)) rfl pd__28Ljava_2flang_2fObject_3b_5bLjava_2flang_2fObject_3bI_29V rfl (Nat.le_of_eq rfl) (hb hby ea_20) (by decide) (by decide) ?_
  intro zj zk zl zm zn
  obtain ⟨rfl, zo, zp, zq, zr, zs, zt⟩ := zn
  have zu : Keep h0 zk [a, t] := z8.trans zo (allS (Or.inl (List.mem_of_getElem? (i := 0) rfl)) (allS (Or.inl (List.mem_of_getElem? (i := 1) rfl)) all0))
  have H := zm.here
  refine Jvm.Y9.Aim.of (T' := zj) (g' := (mkF m 24 #[.val (.ref a), .val (.ref o2)] [(.int 1)])) (fun tgt kt => ?_) ?_
  · refine XS.iconst H hx rfl (hb hby ea_23) ?_
    exact kt
  exact Jvm.Y9.Aim.retN (t := .boolean) zm hx hlk hret (by simp) (hb hby ea_24) (by decide) (by decide) ⟨rfl, zu, zp, zq, zr, zs, zt⟩
theorem ed_0 : decode jdk_38_method_8_code 0 = .ok (.aload_n 0, 1) := by decide +kernel
theorem ed_1 : decode jdk_38_method_8_code 1 = .ok (.getfield 48, 3) := by decide +kernel
theorem ed_4 : decode jdk_38_method_8_code 4 = .ok (.ireturn, 1) := by decide +kernel
theorem own_als (l : Launch) (Z : State) (a0 : Array Value) (hw : ∀ d ∈ tables_1, d.before a0 Z = true) (a : Addr) (n : Int32) (h0 : Heap) (n0 : Nat) (Z0 : n0 ≤ h0.size) (F0 : Fld Z h0 a "java/util/ArrayList" "size" "I" (.int n)) :
    Jvm.Y9.Con l Z (⟨"java/util/ArrayList", "size", "()I"⟩ : MethodName) jdk_38_method_8_code 1 (some .int) ({ frames := 0, cells := 0, slots := 0, locals := 0 } : Room) n0 #[(.ref a)] h0 (fun v h => v = some (.int n) ∧ h0 = h) := by
  refine Jvm.Y9.Con.intro (plainFor_of_name pn_java_util_ArrayList) ?_
  intro p e s m below meth c s₁ hx hby hml hret hnm hown hlk hZ P0
  refine Jvm.Y9.Aim.cast (by first | (simp [entryFrame, mkF, argsToLocals, Value.category]; done) | rfl : entryFrame m #[(.ref a)] 1 = (mkF m 0 #[.val (.ref a)] [])) ?_
  have H := P0.here
  refine Jvm.Y9.Aim.of (T' := s₁) (g' := (mkF m 1 #[.val (.ref a)] [(.ref a)])) (fun tgt kt => ?_) ?_
  · refine XS.aloadN H hx rfl (hb hby ed_0) rfl rfl ?_
    exact kt
  refine Jvm.Y9.Aim.getF P0 hx hZ hown (host := "") (Or.inl (wI hw 76 rfl)) Via.refl F0 (hb hby ed_1) ?_
  intro T248 P249
  exact Jvm.Y9.Aim.retI P249 hx hlk hret (hb hby ed_4) (by decide) (by decide) ⟨rfl, rfl⟩
theorem e6_0 : decode jdk_38_method_18_code 0 = .ok (.aload_n 0, 1) := by decide +kernel
theorem e6_1 : decode jdk_38_method_18_code 1 = .ok (.getfield 9, 3) := by decide +kernel
theorem e6_4 : decode jdk_38_method_18_code 4 = .ok (.iload_n 1, 1) := by decide +kernel
theorem e6_5 : decode jdk_38_method_18_code 5 = .ok (.aaload, 1) := by decide +kernel
theorem e6_6 : decode jdk_38_method_18_code 6 = .ok (.areturn, 1) := by decide +kernel
theorem own_eld (l : Launch) (Z : State) (a0 : Array Value) (hw : ∀ d ∈ tables_1, d.before a0 Z = true) (a : Addr) (t : Addr) (kk : ClassId) (N : Int32) (vs : List Value) (i : Int32) (v_ : Addr) (h0 : Heap) (n0 : Nat) (Z0 : n0 ≤ h0.size) (F0 : Fld Z h0 a "java/util/ArrayList" "elementData" "[Ljava/lang/Object;" (.ref t)) (F1 : Arv Z h0 t kk (.object "java/lang/Object") N vs (.null)) (h0_ : ¬ (i < (0 : Int32))) (hN_ : i < N) (hv : vs.getD i.toNatClampNeg .null = .ref v_) :
    Jvm.Y9.Con l Z (⟨"java/util/ArrayList", "elementData", "(I)Ljava/lang/Object;"⟩ : MethodName) jdk_38_method_18_code 2 (some (.object "java/lang/Object")) ({ frames := 0, cells := 0, slots := 0, locals := 0 } : Room) n0 #[(.ref a), (.int i)] h0 (fun v h => v = some (.ref v_) ∧ h0 = h) := by
  refine Jvm.Y9.Con.intro (plainFor_of_name pn_java_util_ArrayList) ?_
  intro p e s m below meth c s₁ hx hby hml hret hnm hown hlk hZ P0
  refine Jvm.Y9.Aim.cast (by first | (simp [entryFrame, mkF, argsToLocals, Value.category]; done) | rfl : entryFrame m #[(.ref a), (.int i)] 2 = (mkF m 0 #[.val (.ref a), .val (.int i)] [])) ?_
  have H := P0.here
  refine Jvm.Y9.Aim.of (T' := s₁) (g' := (mkF m 1 #[.val (.ref a), .val (.int i)] [(.ref a)])) (fun tgt kt => ?_) ?_
  · refine XS.aloadN H hx rfl (hb hby e6_0) rfl rfl ?_
    exact kt
  refine Jvm.Y9.Aim.getF P0 hx hZ hown (host := "") (Or.inl (wI hw 67 rfl)) Via.refl F0 (hb hby e6_1) ?_
  intro T250 P251
  have H := P251.here
  refine Jvm.Y9.Aim.of (T' := T250) (g' := (mkF m 5 #[.val (.ref a), .val (.int i)] [(.int i), (.ref t)])) (fun tgt kt => ?_) ?_
  · refine XS.iloadN H hx rfl (hb hby e6_4) rfl ?_
    exact kt
  refine Jvm.Y9.Aim.ldR (j := i) (v := (.ref v_)) P251 hx hZ F1 rfl ⟨h0_, hN_⟩ hv (hb hby e6_5) ?_
  exact Jvm.Y9.Aim.retA P251 hx hlk hret rfl rfl (hb hby e6_6) (by decide) (by decide) ⟨rfl, rfl⟩
theorem eh_0 : decode jdk_41_method_11_code 0 = .ok (.iload_n 0, 1) := by decide +kernel
theorem eh_1 : decode jdk_41_method_11_code 1 = .ok (.ifCond .lt 8, 3) := by decide +kernel
theorem eh_4 : decode jdk_41_method_11_code 4 = .ok (.iload_n 0, 1) := by decide +kernel
theorem eh_5 : decode jdk_41_method_11_code 5 = .ok (.iload_n 1, 1) := by decide +kernel
theorem eh_6 : decode jdk_41_method_11_code 6 = .ok (.if_icmp .lt 10, 3) := by decide +kernel
theorem eh_16 : decode jdk_41_method_11_code 16 = .ok (.iload_n 0, 1) := by decide +kernel
theorem eh_17 : decode jdk_41_method_11_code 17 = .ok (.ireturn, 1) := by decide +kernel
theorem pn_jdk_internal_util_Preconditions : plainName "jdk/internal/util/Preconditions" = true := by first | (simp [plainName, overriddenIn]; done) | decide +kernel
theorem own_pci (l : Launch) (Z : State) (a0 : Array Value) (hw : ∀ d ∈ tables_1, d.before a0 Z = true) (i : Int32) (n : Int32) (f : Value) (h0 : Heap) (n0 : Nat) (Z0 : n0 ≤ h0.size) (hf : f.category = 1) (h0_ : ¬ (i < (0 : Int32))) (h1_ : i < n) :
    Jvm.Y9.Con l Z (⟨"jdk/internal/util/Preconditions", "checkIndex", "(IILjava/util/function/BiFunction;)I"⟩ : MethodName) jdk_41_method_11_code 3 (some .int) ({ frames := 0, cells := 0, slots := 0, locals := 0 } : Room) n0 #[(.int i), (.int n), f] h0 (fun v h => v = some (.int i) ∧ h0 = h) := by
  refine Jvm.Y9.Con.intro (plainFor_of_name pn_jdk_internal_util_Preconditions) ?_
  intro p e s m below meth c s₁ hx hby hml hret hnm hown hlk hZ P0
  refine Jvm.Y9.Aim.cast (by cases f <;> first | rfl | (simp [Value.category] at hf; done) : entryFrame m #[(.int i), (.int n), f] 3 = (mkF m 0 #[.val (.int i), .val (.int n), .val f] [])) ?_
  have H := P0.here
  refine Jvm.Y9.Aim.of (T' := s₁) (g' := (mkF m 17 #[.val (.int i), .val (.int n), .val f] [(.int i)])) (fun tgt kt => ?_) ?_
  · refine XS.iloadN H hx rfl (hb hby eh_0) rfl ?_
    refine XS.ifNo H hx rfl (hb hby eh_1) rfl ((if0 _ _).trans (flt h0_).1) ?_
    refine XS.iloadN H hx rfl (hb hby eh_4) rfl ?_
    refine XS.iloadN H hx rfl (hb hby eh_5) rfl ?_
    refine XS.icmpYes H hx rfl (pc0 := 6) (pc' := 16) rfl (hb hby eh_6) rfl (tlt h1_).1 (by decide) (by decide) ?_
    refine XS.iloadN H hx rfl (hb hby eh_16) rfl ?_
    exact kt
  exact Jvm.Y9.Aim.retI P0 hx hlk hret (hb hby eh_17) (by decide) (by decide) ⟨rfl, rfl⟩
theorem eo_0 : decode jdk_42_method_155_code 0 = .ok (.iload_n 0, 1) := by decide +kernel
theorem eo_1 : decode jdk_42_method_155_code 1 = .ok (.iload_n 1, 1) := by decide +kernel
theorem eo_2 : decode jdk_42_method_155_code 2 = .ok (.getstatic 1053, 3) := by decide +kernel
theorem eo_5 : decode jdk_42_method_155_code 5 = .ok (.invokestatic 1059, 3) := by decide +kernel
theorem pd__28IILjava_2futil_2ffunction_2fBiFunction_3b_29I : parseMethodDescriptor "(IILjava/util/function/BiFunction;)I" = some ⟨[.int, .int, (.object "java/util/function/BiFunction")], some .int⟩ := by decide +kernel
theorem eo_8 : decode jdk_42_method_155_code 8 = .ok (.pop, 1) := by decide +kernel
theorem eo_9 : decode jdk_42_method_155_code 9 = .ok (.return_, 1) := by decide +kernel
theorem pn_java_lang_String : plainName "java/lang/String" = true := by first | (simp [plainName, overriddenIn]; done) | decide +kernel
theorem own_sci (l : Launch) (Z : State) (a0 : Array Value) (hw : ∀ d ∈ tables_1, d.before a0 Z = true) (i : Int32) (n : Int32) (h0 : Heap) (n0 : Nat) (Z0 : n0 ≤ h0.size) (F0 : Old Z n0 h0) (h0_ : ¬ (i < (0 : Int32))) (h1_ : i < n) (GS : Sio Z) :
    Jvm.Y9.Con l Z (⟨"java/lang/String", "checkIndex", "(II)V"⟩ : MethodName) jdk_42_method_155_code 2 none ({ frames := 1, cells := 0, slots := 0, locals := 14 } : Room) n0 #[(.int i), (.int n)] h0 (fun v h => v = none ∧ h0 = h) := by
  refine Jvm.Y9.Con.intro (plainFor_of_name pn_java_lang_String) ?_
  intro p e s m below meth c s₁ hx hby hml hret hnm hown hlk hZ P0
  refine Jvm.Y9.Aim.cast (by first | (simp [entryFrame, mkF, argsToLocals, Value.category]; done) | rfl : entryFrame m #[(.int i), (.int n)] 2 = (mkF m 0 #[.val (.int i), .val (.int n)] [])) ?_
  obtain ⟨vf, Svf, hvf⟩ := id GS
  have H := P0.here
  refine Jvm.Y9.Aim.of (T' := s₁) (g' := (mkF m 2 #[.val (.int i), .val (.int n)] [(.int n), (.int i)])) (fun tgt kt => ?_) ?_
  · refine XS.iloadN H hx rfl (hb hby eo_0) rfl ?_
    refine XS.iloadN H hx rfl (hb hby eo_1) rfl ?_
    exact kt
  refine Jvm.Y9.Aim.getS P0 hx hZ hown (wI hw 440 rfl) Via.refl (Svf.ext F0.2) (hb hby eo_2) ?_
  intro z0 z1
  refine Jvm.Y9.Aim.callS (argsL := [(.int i), (.int n), vf]) (rest := []) z1 hx hZ hml hown (wI hw 441 rfl) (wI hw 195 rfl) (wI hw 196 rfl) (wI hw 197 rfl) (by decide) (Jvm.Y9.Con.back (W := 0) (own_pci l Z a0 hw i n vf h0 n0 Z0 hvf h0_ h1_) hZ (wI hw 197 rfl) (wI hw 196 rfl) (by decide) (by decide)) rfl pd__28IILjava_2futil_2ffunction_2fBiFunction_3b_29I rfl (Nat.le_of_eq rfl) (hb hby eo_5) (by decide) (by decide) ?_
  intro z2 z3 z4 z5 z6
  obtain ⟨rfl, rfl⟩ := z6
  have H := z5.here
  refine Jvm.Y9.Aim.of (T' := z2) (g' := (mkF m 9 #[.val (.int i), .val (.int n)] [])) (fun tgt kt => ?_) ?_
  · refine XS.pop H hx rfl (hb hby eo_8) rfl rfl ?_
    exact kt
  exact Jvm.Y9.Aim.retV z5 hx hlk hret (hb hby eo_9) (by decide) (by decide) ⟨rfl, rfl⟩
theorem et_0 : decode jdk_43_method_2_code 0 = .ok (.iload_n 1, 1) := by decide +kernel
theorem et_1 : decode jdk_43_method_2_code 1 = .ok (.aload_n 0, 1) := by decide +kernel
theorem et_2 : decode jdk_43_method_2_code 2 = .ok (.arraylength, 1) := by decide +kernel
theorem et_3 : decode jdk_43_method_2_code 3 = .ok (.invokestatic 9, 3) := by decide +kernel
theorem pd__28II_29V : parseMethodDescriptor "(II)V" = some ⟨[.int, .int], none⟩ := by decide +kernel
theorem et_6 : decode jdk_43_method_2_code 6 = .ok (.aload_n 0, 1) := by decide +kernel
theorem et_7 : decode jdk_43_method_2_code 7 = .ok (.iload_n 1, 1) := by decide +kernel
theorem et_8 : decode jdk_43_method_2_code 8 = .ok (.baload, 1) := by decide +kernel
theorem et_9 : decode jdk_43_method_2_code 9 = .ok (.sipush 255, 3) := by decide +kernel
theorem et_12 : decode jdk_43_method_2_code 12 = .ok (.iand, 1) := by decide +kernel
theorem et_13 : decode jdk_43_method_2_code 13 = .ok (.i2c, 1) := by decide +kernel
theorem et_14 : decode jdk_43_method_2_code 14 = .ok (.ireturn, 1) := by decide +kernel
theorem pn_java_lang_StringLatin1 : plainName "java/lang/StringLatin1" = true := by first | (simp [plainName, overriddenIn]; done) | decide +kernel
theorem own_lca (l : Launch) (Z : State) (a0 : Array Value) (hw : ∀ d ∈ tables_1, d.before a0 Z = true) (u : Addr) (ku : ClassId) (ds : List Int32) (i : Int32) (h0 : Heap) (n0 : Nat) (Z0 : n0 ≤ h0.size) (F0 : Arv Z h0 u ku .byte (Int32.ofNat ds.length) (ds.map fun c => Value.int (c.toInt8.toInt32)) (.int 0)) (F1 : Old Z n0 h0) (h0_ : ¬ (i < (0 : Int32))) (h1_ : i < (Int32.ofNat ds.length)) (hr : ∀ c ∈ ds, ¬ c < 0 ∧ ¬ (255 : Int32) < c) (h4 : ds.length ≤ 4000) (GS : Sio Z) :
    Jvm.Y9.Con l Z (⟨"java/lang/StringLatin1", "charAt", "([BI)C"⟩ : MethodName) jdk_43_method_2_code 2 (some .char) ({ frames := 2, cells := 0, slots := 0, locals := 27 } : Room) n0 #[(.ref u), (.int i)] h0 (fun v h => v = some (.int (ds.getD i.toNatClampNeg 0)) ∧ h0 = h) := by
  refine Jvm.Y9.Con.intro (plainFor_of_name pn_java_lang_StringLatin1) ?_
  intro p e s m below meth c s₁ hx hby hml hret hnm hown hlk hZ P0
  refine Jvm.Y9.Aim.cast (by first | (simp [entryFrame, mkF, argsToLocals, Value.category]; done) | rfl : entryFrame m #[(.ref u), (.int i)] 2 = (mkF m 0 #[.val (.ref u), .val (.int i)] [])) ?_
  have H := P0.here
  refine Jvm.Y9.Aim.of (T' := s₁) (g' := (mkF m 2 #[.val (.ref u), .val (.int i)] [(.ref u), (.int i)])) (fun tgt kt => ?_) ?_
  · refine XS.iloadN H hx rfl (hb hby et_0) rfl ?_
    refine XS.aloadN H hx rfl (hb hby et_1) rfl rfl ?_
    exact kt
  refine Jvm.Y9.Aim.alen P0 hx hZ F0 (hb hby et_2) ?_
  refine Jvm.Y9.Aim.callS (argsL := [(.int i), (.int (Int32.ofNat ds.length))]) (rest := []) P0 hx hZ hml hown (wI hw 437 rfl) (wI hw 438 rfl) (wI hw 3 rfl) (wI hw 439 rfl) (by decide) (Jvm.Y9.Con.back (W := 0) (own_sci l Z a0 hw i (Int32.ofNat ds.length) h0 n0 Z0 F1 h0_ h1_ GS) hZ (wI hw 439 rfl) (wI hw 3 rfl) (by decide) (by decide)) rfl pd__28II_29V rfl (Nat.le_of_eq rfl) (hb hby et_3) (by decide) (by decide) ?_
  intro z0 z1 z2 z3 z4
  obtain ⟨rfl, rfl⟩ := z4
  have H := z3.here
  refine Jvm.Y9.Aim.of (T' := z0) (g' := (mkF m 8 #[.val (.ref u), .val (.int i)] [(.int i), (.ref u)])) (fun tgt kt => ?_) ?_
  · refine XS.aloadN H hx rfl (hb hby et_6) rfl rfl ?_
    refine XS.iloadN H hx rfl (hb hby et_7) rfl ?_
    exact kt
  refine Jvm.Y9.Aim.ldB (j := i) (v := (.int ((ds.getD i.toNatClampNeg 0).toInt8.toInt32))) z3 hx hZ F0 ⟨h0_, h1_⟩ (own_get h0_ h1_ h4).1 (hb hby et_8) ?_
  have H := z3.here
  refine Jvm.Y9.Aim.of (T' := z0) (g' := (mkF m 14 #[.val (.ref u), .val (.int i)] [(.int ((((ds.getD i.toNatClampNeg 0).toInt8.toInt32) &&& (255 : Int32)).toUInt32.toUInt16.toUInt32.toInt32))])) (fun tgt kt => ?_) ?_
  · refine XS.sipush H hx rfl (hb hby et_9) ?_
    refine XS.iand H hx rfl (hb hby et_12) rfl ?_
    refine XS.i2c H hx rfl (hb hby et_13) rfl ?_
    exact kt
  exact Jvm.Y9.Aim.retN (t := .char) z3 hx hlk hret (by simp) (hb hby et_14) (by decide) (by decide) ⟨(congrArg some (congrArg Value.int (own_chr_of (hr _ (own_get h0_ h1_ h4).2)))), rfl⟩
theorem en_0 : decode jdk_42_method_154_code 0 = .ok (.getstatic 38, 3) := by decide +kernel
theorem en_3 : decode jdk_42_method_154_code 3 = .ok (.ifCond .eq 14, 3) := by decide +kernel
theorem en_6 : decode jdk_42_method_154_code 6 = .ok (.aload_n 0, 1) := by decide +kernel
theorem en_7 : decode jdk_42_method_154_code 7 = .ok (.getfield 15, 3) := by decide +kernel
theorem en_10 : decode jdk_42_method_154_code 10 = .ok (.ifCond .ne 7, 3) := by decide +kernel
theorem en_13 : decode jdk_42_method_154_code 13 = .ok (.iconst 1, 1) := by decide +kernel
theorem en_14 : decode jdk_42_method_154_code 14 = .ok (.goto 4, 3) := by decide +kernel
theorem en_18 : decode jdk_42_method_154_code 18 = .ok (.ireturn, 1) := by decide +kernel
theorem own_isL1 (l : Launch) (Z : State) (a0 : Array Value) (hw : ∀ d ∈ tables_1, d.before a0 Z = true) (y : Addr) (h0 : Heap) (n0 : Nat) (Z0 : n0 ≤ h0.size) (F0 : Fld Z h0 y "java/lang/String" "coder" "B" (.int 0)) (F1 : Old Z n0 h0) (G : Cmp Z) :
    Jvm.Y9.Con l Z (⟨"java/lang/String", "isLatin1", "()Z"⟩ : MethodName) jdk_42_method_154_code 1 (some .boolean) ({ frames := 0, cells := 0, slots := 0, locals := 0 } : Room) n0 #[(.ref y)] h0 (fun v h => v = some (.int 1) ∧ h0 = h) := by
  refine Jvm.Y9.Con.intro (plainFor_of_name pn_java_lang_String) ?_
  intro p e s m below meth c s₁ hx hby hml hret hnm hown hlk hZ P0
  refine Jvm.Y9.Aim.cast (by first | (simp [entryFrame, mkF, argsToLocals, Value.category]; done) | rfl : entryFrame m #[(.ref y)] 1 = (mkF m 0 #[.val (.ref y)] [])) ?_
  obtain ⟨zc, hzc, Szc⟩ := id G
  refine Jvm.Y9.Aim.getS P0 hx hZ hown (wI hw 5 rfl) Via.refl (Szc.ext F1.2) (hb hby en_0) ?_
  intro T268 P269
  have H := P269.here
  refine Jvm.Y9.Aim.of (T' := T268) (g' := (mkF m 7 #[.val (.ref y)] [(.ref y)])) (fun tgt kt => ?_) ?_
  · refine XS.ifNo H hx rfl (hb hby en_3) rfl ((if0 _ _).trans (feq hzc).1) ?_
    refine XS.aloadN H hx rfl (hb hby en_6) rfl rfl ?_
    exact kt
  refine Jvm.Y9.Aim.getF P269 hx hZ hown (host := "") (Or.inl (wI hw 25 rfl)) Via.refl F0 (hb hby en_7) ?_
  intro T270 P271
  have H := P271.here
  refine Jvm.Y9.Aim.of (T' := T270) (g' := (mkF m 18 #[.val (.ref y)] [(.int 1)])) (fun tgt kt => ?_) ?_
  · refine XS.ifNo H hx rfl (hb hby en_10) rfl ((if0 _ _).trans (teq (by decide)).2) ?_
    refine XS.iconst H hx rfl (hb hby en_13) ?_
    refine XS.goto H hx rfl (pc0 := 14) (pc' := 18) rfl (hb hby en_14) (by decide) (by decide) ?_
    exact kt
  exact Jvm.Y9.Aim.retN (t := .boolean) P271 hx hlk hret (by simp) (hb hby en_18) (by decide) (by decide) ⟨rfl, rfl⟩
theorem er_0 : decode jdk_42_method_56_code 0 = .ok (.aload_n 0, 1) := by decide +kernel
theorem er_1 : decode jdk_42_method_56_code 1 = .ok (.invokevirtual 492, 3) := by decide +kernel
theorem pd__28_29Z : parseMethodDescriptor "()Z" = some ⟨[], some .boolean⟩ := by decide +kernel
theorem er_4 : decode jdk_42_method_56_code 4 = .ok (.ifCond .eq 12, 3) := by decide +kernel
theorem er_7 : decode jdk_42_method_56_code 7 = .ok (.aload_n 0, 1) := by decide +kernel
theorem er_8 : decode jdk_42_method_56_code 8 = .ok (.getfield 9, 3) := by decide +kernel
theorem er_11 : decode jdk_42_method_56_code 11 = .ok (.iload_n 1, 1) := by decide +kernel
theorem er_12 : decode jdk_42_method_56_code 12 = .ok (.invokestatic 495, 3) := by decide +kernel
theorem pd__28_5bBI_29C : parseMethodDescriptor "([BI)C" = some ⟨[(.array .byte), .int], some .char⟩ := by decide +kernel
theorem er_15 : decode jdk_42_method_56_code 15 = .ok (.ireturn, 1) := by decide +kernel
theorem own_charAt (l : Launch) (Z : State) (a0 : Array Value) (hw : ∀ d ∈ tables_1, d.before a0 Z = true) (y : Addr) (u : Addr) (ku : ClassId) (ds : List Int32) (i : Int32) (h0 : Heap) (n0 : Nat) (Z0 : n0 ≤ h0.size) (F0 : Str Z h0 y u ku ds) (F1 : Old Z n0 h0) (h0_ : ¬ (i < (0 : Int32))) (h1_ : i < (Int32.ofNat ds.length)) (G : Cmp Z) (GS : Sio Z) :
    Jvm.Y9.Con l Z (⟨"java/lang/String", "charAt", "(I)C"⟩ : MethodName) jdk_42_method_56_code 2 (some .char) ({ frames := 3, cells := 0, slots := 0, locals := 40 } : Room) n0 #[(.ref y), (.int i)] h0 (fun v h => v = some (.int (ds.getD i.toNatClampNeg 0)) ∧ h0 = h) := by
  refine Jvm.Y9.Con.intro (plainFor_of_name pn_java_lang_String) ?_
  intro p e s m below meth c s₁ hx hby hml hret hnm hown hlk hZ P0
  refine Jvm.Y9.Aim.cast (by first | (simp [entryFrame, mkF, argsToLocals, Value.category]; done) | rfl : entryFrame m #[(.ref y), (.int i)] 2 = (mkF m 0 #[.val (.ref y), .val (.int i)] [])) ?_
  have H := P0.here
  refine Jvm.Y9.Aim.of (T' := s₁) (g' := (mkF m 1 #[.val (.ref y), .val (.int i)] [(.ref y)])) (fun tgt kt => ?_) ?_
  · refine XS.aloadN H hx rfl (hb hby er_0) rfl rfl ?_
    exact kt
  refine Jvm.Y9.Aim.callV (argsL := []) (rest := []) (y := (⟨"java/lang/String", "isLatin1", "()Z"⟩ : MethodName)) (z := (⟨"java/lang/String", "isLatin1", "()Z"⟩ : MethodName)) P0 hx hZ hml hown (wI hw 429 rfl) (wI hw 430 rfl) (notFace_of_selects (args := #[]) (mvT hZ (wI hw 432 rfl))) (wI hw 432 rfl) (wI hw 431 rfl) (by decide) F0.1 (Jvm.Y9.Con.back (W := 0) (own_isL1 l Z a0 hw y h0 n0 Z0 F0.2.2.1 F1 G) hZ (wI hw 433 rfl) (wI hw 3 rfl) (by decide) (by decide)) rfl pd__28_29Z rfl (Nat.le_of_eq rfl) (hb hby er_1) (by decide) (by decide) ?_
  intro z0 z1 z2 z3 z4
  obtain ⟨rfl, rfl⟩ := z4
  have H := z3.here
  refine Jvm.Y9.Aim.of (T' := z0) (g' := (mkF m 8 #[.val (.ref y), .val (.int i)] [(.ref y)])) (fun tgt kt => ?_) ?_
  · refine XS.ifNo H hx rfl (hb hby er_4) rfl ((if0 _ _).trans (feq (by decide)).1) ?_
    refine XS.aloadN H hx rfl (hb hby er_7) rfl rfl ?_
    exact kt
  refine Jvm.Y9.Aim.getF z3 hx hZ hown (host := "") (Or.inl (wI hw 23 rfl)) Via.refl F0.2.1 (hb hby er_8) ?_
  intro z5 z6
  have H := z6.here
  refine Jvm.Y9.Aim.of (T' := z5) (g' := (mkF m 12 #[.val (.ref y), .val (.int i)] [(.int i), (.ref u)])) (fun tgt kt => ?_) ?_
  · refine XS.iloadN H hx rfl (hb hby er_11) rfl ?_
    exact kt
  refine Jvm.Y9.Aim.callS (argsL := [(.ref u), (.int i)]) (rest := []) z6 hx hZ hml hown (wI hw 434 rfl) (wI hw 435 rfl) (wI hw 8 rfl) (wI hw 436 rfl) (by decide) (Jvm.Y9.Con.back (W := 0) (own_lca l Z a0 hw u ku ds i h0 n0 Z0 F0.2.2.2.1 F1 h0_ h1_ (F0.2.2.2.2.1) (F0.2.2.2.2.2) GS) hZ (wI hw 436 rfl) (wI hw 8 rfl) (by decide) (by decide)) rfl pd__28_5bBI_29C rfl (Nat.le_of_eq rfl) (hb hby er_12) (by decide) (by decide) ?_
  intro z7 z8 z9 za zb
  obtain ⟨rfl, rfl⟩ := zb
  exact Jvm.Y9.Aim.retN (t := .char) za hx hlk hret (by simp) (hb hby er_15) (by decide) (by decide) ⟨(congrArg some (congrArg Value.int (own_narC (F0.2.2.2.2.1 _ (own_get h0_ h1_ F0.2.2.2.2.2).2)))), rfl⟩
theorem e5_0 : decode jdk_31_method_17_code 0 = .ok (.iload_n 0, 1) := by decide +kernel
theorem e5_1 : decode jdk_31_method_17_code 1 = .ok (.iload_n 1, 1) := by decide +kernel
theorem e5_2 : decode jdk_31_method_17_code 2 = .ok (.aconst_null, 1) := by decide +kernel
theorem e5_3 : decode jdk_31_method_17_code 3 = .ok (.invokestatic 105, 3) := by decide +kernel
theorem e5_6 : decode jdk_31_method_17_code 6 = .ok (.ireturn, 1) := by decide +kernel
theorem pn_java_util_Objects : plainName "java/util/Objects" = true := by first | (simp [plainName, overriddenIn]; done) | decide +kernel
theorem own_oci (l : Launch) (Z : State) (a0 : Array Value) (hw : ∀ d ∈ tables_1, d.before a0 Z = true) (i : Int32) (n : Int32) (h0 : Heap) (n0 : Nat) (Z0 : n0 ≤ h0.size) (h0_ : ¬ (i < (0 : Int32))) (h1_ : i < n) :
    Jvm.Y9.Con l Z (⟨"java/util/Objects", "checkIndex", "(II)I"⟩ : MethodName) jdk_31_method_17_code 2 (some .int) ({ frames := 1, cells := 0, slots := 0, locals := 14 } : Room) n0 #[(.int i), (.int n)] h0 (fun v h => v = some (.int i) ∧ h0 = h) := by
  refine Jvm.Y9.Con.intro (plainFor_of_name pn_java_util_Objects) ?_
  intro p e s m below meth c s₁ hx hby hml hret hnm hown hlk hZ P0
  refine Jvm.Y9.Aim.cast (by first | (simp [entryFrame, mkF, argsToLocals, Value.category]; done) | rfl : entryFrame m #[(.int i), (.int n)] 2 = (mkF m 0 #[.val (.int i), .val (.int n)] [])) ?_
  have H := P0.here
  refine Jvm.Y9.Aim.of (T' := s₁) (g' := (mkF m 3 #[.val (.int i), .val (.int n)] [.null, (.int n), (.int i)])) (fun tgt kt => ?_) ?_
  · refine XS.iloadN H hx rfl (hb hby e5_0) rfl ?_
    refine XS.iloadN H hx rfl (hb hby e5_1) rfl ?_
    refine XS.aconstNull H hx rfl (hb hby e5_2) ?_
    exact kt
  refine Jvm.Y9.Aim.callS (argsL := [(.int i), (.int n), .null]) (rest := []) P0 hx hZ hml hown (wI hw 194 rfl) (wI hw 195 rfl) (wI hw 196 rfl) (wI hw 197 rfl) (by decide) (Jvm.Y9.Con.back (W := 0) (own_pci l Z a0 hw i n (.null) h0 n0 Z0 rfl h0_ h1_) hZ (wI hw 197 rfl) (wI hw 196 rfl) (by decide) (by decide)) rfl pd__28IILjava_2futil_2ffunction_2fBiFunction_3b_29I rfl (Nat.le_of_eq rfl) (hb hby e5_3) (by decide) (by decide) ?_
  intro z0 z1 z2 z3 z4
  obtain ⟨rfl, rfl⟩ := z4
  exact Jvm.Y9.Aim.retI z3 hx hlk hret (hb hby e5_6) (by decide) (by decide) ⟨rfl, rfl⟩
theorem e8_0 : decode jdk_38_method_20_code 0 = .ok (.iload_n 1, 1) := by decide +kernel
theorem e8_1 : decode jdk_38_method_20_code 1 = .ok (.aload_n 0, 1) := by decide +kernel
theorem e8_2 : decode jdk_38_method_20_code 2 = .ok (.getfield 48, 3) := by decide +kernel
theorem e8_5 : decode jdk_38_method_20_code 5 = .ok (.invokestatic 118, 3) := by decide +kernel
theorem e8_8 : decode jdk_38_method_20_code 8 = .ok (.pop, 1) := by decide +kernel
theorem e8_9 : decode jdk_38_method_20_code 9 = .ok (.aload_n 0, 1) := by decide +kernel
theorem e8_10 : decode jdk_38_method_20_code 10 = .ok (.iload_n 1, 1) := by decide +kernel
theorem e8_11 : decode jdk_38_method_20_code 11 = .ok (.invokevirtual 123, 3) := by decide +kernel
theorem pd__28I_29Ljava_2flang_2fObject_3b : parseMethodDescriptor "(I)Ljava/lang/Object;" = some ⟨[.int], some (.object "java/lang/Object")⟩ := by decide +kernel
theorem e8_14 : decode jdk_38_method_20_code 14 = .ok (.areturn, 1) := by decide +kernel
theorem own_alg (l : Launch) (Z : State) (a0 : Array Value) (hw : ∀ d ∈ tables_1, d.before a0 Z = true) (a : Addr) (n : Int32) (t : Addr) (kk : ClassId) (N : Int32) (vs : List Value) (i : Int32) (v_ : Addr) (h0 : Heap) (n0 : Nat) (Z0 : n0 ≤ h0.size) (F0 : Exa Z h0 a "java/util/ArrayList") (F1 : Fld Z h0 a "java/util/ArrayList" "size" "I" (.int n)) (F2 : Fld Z h0 a "java/util/ArrayList" "elementData" "[Ljava/lang/Object;" (.ref t)) (F3 : Arv Z h0 t kk (.object "java/lang/Object") N vs (.null)) (h0_ : ¬ (i < (0 : Int32))) (hN_ : i < N) (hv : vs.getD i.toNatClampNeg .null = .ref v_) (h1_ : i < n) :
    Jvm.Y9.Con l Z (⟨"java/util/ArrayList", "get", "(I)Ljava/lang/Object;"⟩ : MethodName) jdk_38_method_20_code 2 (some (.object "java/lang/Object")) ({ frames := 2, cells := 0, slots := 0, locals := 27 } : Room) n0 #[(.ref a), (.int i)] h0 (fun v h => v = some (.ref v_) ∧ h0 = h) := by
  refine Jvm.Y9.Con.intro (plainFor_of_name pn_java_util_ArrayList) ?_
  intro p e s m below meth c s₁ hx hby hml hret hnm hown hlk hZ P0
  refine Jvm.Y9.Aim.cast (by first | (simp [entryFrame, mkF, argsToLocals, Value.category]; done) | rfl : entryFrame m #[(.ref a), (.int i)] 2 = (mkF m 0 #[.val (.ref a), .val (.int i)] [])) ?_
  have H := P0.here
  refine Jvm.Y9.Aim.of (T' := s₁) (g' := (mkF m 2 #[.val (.ref a), .val (.int i)] [(.ref a), (.int i)])) (fun tgt kt => ?_) ?_
  · refine XS.iloadN H hx rfl (hb hby e8_0) rfl ?_
    refine XS.aloadN H hx rfl (hb hby e8_1) rfl rfl ?_
    exact kt
  refine Jvm.Y9.Aim.getF P0 hx hZ hown (host := "") (Or.inl (wI hw 76 rfl)) Via.refl F1 (hb hby e8_2) ?_
  intro z0 z1
  refine Jvm.Y9.Aim.callS (argsL := [(.int i), (.int n)]) (rest := []) z1 hx hZ hml hown (wI hw 190 rfl) (wI hw 191 rfl) (wI hw 192 rfl) (wI hw 193 rfl) (by decide) (Jvm.Y9.Con.back (W := 0) (own_oci l Z a0 hw i n h0 n0 Z0 h0_ h1_) hZ (wI hw 193 rfl) (wI hw 192 rfl) (by decide) (by decide)) rfl pd__28II_29I rfl (Nat.le_of_eq rfl) (hb hby e8_5) (by decide) (by decide) ?_
  intro z2 z3 z4 z5 z6
  obtain ⟨rfl, rfl⟩ := z6
  have H := z5.here
  refine Jvm.Y9.Aim.of (T' := z2) (g' := (mkF m 11 #[.val (.ref a), .val (.int i)] [(.int i), (.ref a)])) (fun tgt kt => ?_) ?_
  · refine XS.pop H hx rfl (hb hby e8_8) rfl rfl ?_
    refine XS.aloadN H hx rfl (hb hby e8_9) rfl rfl ?_
    refine XS.iloadN H hx rfl (hb hby e8_10) rfl ?_
    exact kt
  refine Jvm.Y9.Aim.callV (argsL := [(.int i)]) (rest := []) (y := (⟨"java/util/ArrayList", "elementData", "(I)Ljava/lang/Object;"⟩ : MethodName)) (z := (⟨"java/util/ArrayList", "elementData", "(I)Ljava/lang/Object;"⟩ : MethodName)) z5 hx hZ hml hown (wI hw 198 rfl) (wI hw 199 rfl) (notFace_of_selects (args := #[]) (mvT hZ (wI hw 201 rfl))) (wI hw 201 rfl) (wI hw 200 rfl) (by decide) F0 (Jvm.Y9.Con.back (W := 0) (own_eld l Z a0 hw a t kk N vs i v_ h0 n0 Z0 F2 F3 h0_ hN_ hv) hZ (wI hw 202 rfl) (wI hw 47 rfl) (by decide) (by decide)) rfl pd__28I_29Ljava_2flang_2fObject_3b rfl (Nat.le_of_eq rfl) (hb hby e8_11) (by decide) (by decide) ?_
  intro z7 z8 z9 za zb
  obtain ⟨rfl, rfl⟩ := zb
  exact Jvm.Y9.Aim.retA za hx hlk hret rfl rfl (hb hby e8_14) (by decide) (by decide) ⟨rfl, rfl⟩
theorem ef_0 : decode jdk_40_method_36_code 0 = .ok (.getstatic 90, 3) := by decide +kernel
theorem ef_3 : decode jdk_40_method_36_code 3 = .ok (.areturn, 1) := by decide +kernel
theorem pn_java_util_List : plainName "java/util/List" = true := by first | (simp [plainName, overriddenIn]; done) | decide +kernel
theorem own_lof (l : Launch) (Z : State) (a0 : Array Value) (hw : ∀ d ∈ tables_1, d.before a0 Z = true) (el : Addr) (ee : Addr) (ke : ClassId) (h0 : Heap) (n0 : Nat) (Z0 : n0 ≤ h0.size) (F0 : Old Z n0 h0) (GE : Ael Z el ee ke) :
    Jvm.Y9.Con l Z (⟨"java/util/List", "of", "()Ljava/util/List;"⟩ : MethodName) jdk_40_method_36_code 0 (some (.object "java/util/List")) ({ frames := 0, cells := 0, slots := 0, locals := 0 } : Room) n0 #[] h0 (fun v h => v = some (.ref el) ∧ h0 = h) := by
  refine Jvm.Y9.Con.intro (plainFor_of_name pn_java_util_List) ?_
  intro p e s m below meth c s₁ hx hby hml hret hnm hown hlk hZ P0
  refine Jvm.Y9.Aim.cast (by first | (simp [entryFrame, mkF, argsToLocals, Value.category]; done) | rfl : entryFrame m #[] 0 = (mkF m 0 #[] [])) ?_
  refine Jvm.Y9.Aim.getS P0 hx hZ hown (wI hw 121 rfl) Via.refl (GE.1.ext F0.2) (hb hby ef_0) ?_
  intro T311 P312
  exact Jvm.Y9.Aim.retA P312 hx hlk hret rfl rfl (hb hby ef_3) (by decide) (by decide) ⟨rfl, rfl⟩
theorem ez_0 : decode jdk_45_method_3_code 0 = .ok (.aload_n 0, 1) := by decide +kernel
theorem ez_1 : decode jdk_45_method_3_code 1 = .ok (.getfield 7, 3) := by decide +kernel
theorem ez_4 : decode jdk_45_method_3_code 4 = .ok (.arraylength, 1) := by decide +kernel
theorem ez_5 : decode jdk_45_method_3_code 5 = .ok (.ireturn, 1) := by decide +kernel
theorem pn_java_util_ImmutableCollections_ListN : plainName "java/util/ImmutableCollections$ListN" = true := by first | (simp [plainName, overriddenIn]; done) | decide +kernel
theorem own_lns (l : Launch) (Z : State) (a0 : Array Value) (hw : ∀ d ∈ tables_1, d.before a0 Z = true) (a : Addr) (ar : Addr) (ka : ClassId) (h0 : Heap) (n0 : Nat) (Z0 : n0 ≤ h0.size) (F0 : Fld Z h0 a "java/util/ImmutableCollections$ListN" "elements" "[Ljava/lang/Object;" (.ref ar)) (F1 : Arv Z h0 ar ka (.object "java/lang/Object") (0 : Int32) [] (.null)) :
    Jvm.Y9.Con l Z (⟨"java/util/ImmutableCollections$ListN", "size", "()I"⟩ : MethodName) jdk_45_method_3_code 1 (some .int) ({ frames := 0, cells := 0, slots := 0, locals := 0 } : Room) n0 #[(.ref a)] h0 (fun v h => v = some (.int 0) ∧ h0 = h) := by
  refine Jvm.Y9.Con.intro (plainFor_of_name pn_java_util_ImmutableCollections_ListN) ?_
  intro p e s m below meth c s₁ hx hby hml hret hnm hown hlk hZ P0
  refine Jvm.Y9.Aim.cast (by first | (simp [entryFrame, mkF, argsToLocals, Value.category]; done) | rfl : entryFrame m #[(.ref a)] 1 = (mkF m 0 #[.val (.ref a)] [])) ?_
  have H := P0.here
  refine Jvm.Y9.Aim.of (T' := s₁) (g' := (mkF m 1 #[.val (.ref a)] [(.ref a)])) (fun tgt kt => ?_) ?_
  · refine XS.aloadN H hx rfl (hb hby ez_0) rfl rfl ?_
    exact kt
  refine Jvm.Y9.Aim.getF P0 hx hZ hown (host := "") (Or.inl (wI hw 169 rfl)) Via.refl F0 (hb hby ez_1) ?_
  intro T313 P314
  refine Jvm.Y9.Aim.alen P314 hx hZ F1 (hb hby ez_4) ?_
  exact Jvm.Y9.Aim.retI P314 hx hlk hret (hb hby ez_5) (by decide) (by decide) ⟨rfl, rfl⟩
theorem e11_0 : decode jdk_47_method_1_code 0 = .ok (.aload_n 0, 1) := by decide +kernel
theorem e11_1 : decode jdk_47_method_1_code 1 = .ok (.invokespecial 1, 3) := by decide +kernel
theorem e11_4 : decode jdk_47_method_1_code 4 = .ok (.return_, 1) := by decide +kernel
theorem pn_java_util_ImmutableCollections_AbstractImmutableCollection : plainName "java/util/ImmutableCollections$AbstractImmutableCollection" = true := by first | (simp [plainName, overriddenIn]; done) | decide +kernel
theorem own_aic (l : Launch) (Z : State) (a0 : Array Value) (hw : ∀ d ∈ tables_1, d.before a0 Z = true) (a : Addr) (h0 : Heap) (n0 : Nat) (Z0 : n0 ≤ h0.size) :
    Jvm.Y9.Con l Z (⟨"java/util/ImmutableCollections$AbstractImmutableCollection", "<init>", "()V"⟩ : MethodName) jdk_47_method_1_code 1 none ({ frames := 2, cells := 0, slots := 0, locals := 24 } : Room) n0 #[(.ref a)] h0 (fun v h => v = none ∧ h0 = h) := by
  refine Jvm.Y9.Con.intro (plainFor_of_name pn_java_util_ImmutableCollections_AbstractImmutableCollection) ?_
  intro p e s m below meth c s₁ hx hby hml hret hnm hown hlk hZ P0
  refine Jvm.Y9.Aim.cast (by first | (simp [entryFrame, mkF, argsToLocals, Value.category]; done) | rfl : entryFrame m #[(.ref a)] 1 = (mkF m 0 #[.val (.ref a)] [])) ?_
  have H := P0.here
  refine Jvm.Y9.Aim.of (T' := s₁) (g' := (mkF m 1 #[.val (.ref a)] [(.ref a)])) (fun tgt kt => ?_) ?_
  · refine XS.aloadN H hx rfl (hb hby e11_0) rfl rfl ?_
    exact kt
  refine Jvm.Y9.Aim.callC (argsL := []) (rest := []) P0 hx hZ hml hown rfl (wI hw 392 rfl) (wI hw 58 rfl) (wI hw 62 rfl) (by decide) (Jvm.Y9.Con.back (W := 0) (own_abc l Z a0 hw a h0 n0 Z0) hZ (wI hw 62 rfl) (wI hw 61 rfl) (by decide) (by decide)) rfl pd__28_29V rfl (Nat.le_of_eq rfl) (hb hby e11_1) (by decide) (by decide) ?_
  intro z0 z1 z2 z3 z4
  obtain ⟨rfl, rfl⟩ := z4
  exact Jvm.Y9.Aim.retV z3 hx hlk hret (hb hby e11_4) (by decide) (by decide) ⟨rfl, rfl⟩
theorem e10_0 : decode jdk_46_method_1_code 0 = .ok (.aload_n 0, 1) := by decide +kernel
theorem e10_1 : decode jdk_46_method_1_code 1 = .ok (.invokespecial 1, 3) := by decide +kernel
theorem e10_4 : decode jdk_46_method_1_code 4 = .ok (.return_, 1) := by decide +kernel
theorem pn_java_util_ImmutableCollections_AbstractImmutableList : plainName "java/util/ImmutableCollections$AbstractImmutableList" = true := by first | (simp [plainName, overriddenIn]; done) | decide +kernel
theorem own_ail (l : Launch) (Z : State) (a0 : Array Value) (hw : ∀ d ∈ tables_1, d.before a0 Z = true) (a : Addr) (h0 : Heap) (n0 : Nat) (Z0 : n0 ≤ h0.size) :
    Jvm.Y9.Con l Z (⟨"java/util/ImmutableCollections$AbstractImmutableList", "<init>", "()V"⟩ : MethodName) jdk_46_method_1_code 1 none ({ frames := 3, cells := 0, slots := 0, locals := 36 } : Room) n0 #[(.ref a)] h0 (fun v h => v = none ∧ h0 = h) := by
  refine Jvm.Y9.Con.intro (plainFor_of_name pn_java_util_ImmutableCollections_AbstractImmutableList) ?_
  intro p e s m below meth c s₁ hx hby hml hret hnm hown hlk hZ P0
  refine Jvm.Y9.Aim.cast (by first | (simp [entryFrame, mkF, argsToLocals, Value.category]; done) | rfl : entryFrame m #[(.ref a)] 1 = (mkF m 0 #[.val (.ref a)] [])) ?_
  have H := P0.here
  refine Jvm.Y9.Aim.of (T' := s₁) (g' := (mkF m 1 #[.val (.ref a)] [(.ref a)])) (fun tgt kt => ?_) ?_
  · refine XS.aloadN H hx rfl (hb hby e10_0) rfl rfl ?_
    exact kt
  refine Jvm.Y9.Aim.callC (argsL := []) (rest := []) P0 hx hZ hml hown rfl (wI hw 386 rfl) (wI hw 387 rfl) (wI hw 391 rfl) (by decide) (Jvm.Y9.Con.back (W := 0) (own_aic l Z a0 hw a h0 n0 Z0) hZ (wI hw 391 rfl) (wI hw 390 rfl) (by decide) (by decide)) rfl pd__28_29V rfl (Nat.le_of_eq rfl) (hb hby e10_1) (by decide) (by decide) ?_
  intro z0 z1 z2 z3 z4
  obtain ⟨rfl, rfl⟩ := z4
  exact Jvm.Y9.Aim.retV z3 hx hlk hret (hb hby e10_4) (by decide) (by decide) ⟨rfl, rfl⟩
theorem e4_0 : decode jdk_31_method_10_code 0 = .ok (.aload_n 0, 1) := by decide +kernel
theorem e4_1 : decode jdk_31_method_10_code 1 = .ok (.ifnonnull 11, 3) := by decide +kernel
theorem e4_12 : decode jdk_31_method_10_code 12 = .ok (.aload_n 0, 1) := by decide +kernel
theorem e4_13 : decode jdk_31_method_10_code 13 = .ok (.areturn, 1) := by decide +kernel
theorem own_rnn (l : Launch) (Z : State) (a0 : Array Value) (hw : ∀ d ∈ tables_1, d.before a0 Z = true) (o : Addr) (h0 : Heap) (n0 : Nat) (Z0 : n0 ≤ h0.size) :
    Jvm.Y9.Con l Z (⟨"java/util/Objects", "requireNonNull", "(Ljava/lang/Object;)Ljava/lang/Object;"⟩ : MethodName) jdk_31_method_10_code 1 (some (.object "java/lang/Object")) ({ frames := 0, cells := 0, slots := 0, locals := 0 } : Room) n0 #[(.ref o)] h0 (fun v h => v = some (.ref o) ∧ h0 = h) := by
  refine Jvm.Y9.Con.intro (plainFor_of_name pn_java_util_Objects) ?_
  intro p e s m below meth c s₁ hx hby hml hret hnm hown hlk hZ P0
  refine Jvm.Y9.Aim.cast (by first | (simp [entryFrame, mkF, argsToLocals, Value.category]; done) | rfl : entryFrame m #[(.ref o)] 1 = (mkF m 0 #[.val (.ref o)] [])) ?_
  have H := P0.here
  refine Jvm.Y9.Aim.of (T' := s₁) (g' := (mkF m 13 #[.val (.ref o)] [(.ref o)])) (fun tgt kt => ?_) ?_
  · refine XS.aloadN H hx rfl (hb hby e4_0) rfl rfl ?_
    refine XS.ifnonnullYes H hx rfl (pc0 := 1) (pc' := 12) rfl (hb hby e4_1) rfl (by decide) (by decide) ?_
    refine XS.aloadN H hx rfl (hb hby e4_12) rfl rfl ?_
    exact kt
  exact Jvm.Y9.Aim.retA P0 hx hlk hret rfl rfl (hb hby e4_13) (by decide) (by decide) ⟨rfl, rfl⟩
theorem ew_0 : decode jdk_44_method_1_code 0 = .ok (.aload_n 0, 1) := by decide +kernel
theorem ew_1 : decode jdk_44_method_1_code 1 = .ok (.invokespecial 1, 3) := by decide +kernel
theorem ew_4 : decode jdk_44_method_1_code 4 = .ok (.aload_n 0, 1) := by decide +kernel
theorem ew_5 : decode jdk_44_method_1_code 5 = .ok (.aload_n 1, 1) := by decide +kernel
theorem ew_6 : decode jdk_44_method_1_code 6 = .ok (.invokestatic 7, 3) := by decide +kernel
theorem pd__28Ljava_2flang_2fObject_3b_29Ljava_2flang_2fObject_3b : parseMethodDescriptor "(Ljava/lang/Object;)Ljava/lang/Object;" = some ⟨[(.object "java/lang/Object")], some (.object "java/lang/Object")⟩ := by decide +kernel
theorem ew_9 : decode jdk_44_method_1_code 9 = .ok (.putfield 13, 3) := by decide +kernel
theorem ew_12 : decode jdk_44_method_1_code 12 = .ok (.aload_n 0, 1) := by decide +kernel
theorem ew_13 : decode jdk_44_method_1_code 13 = .ok (.getstatic 19, 3) := by decide +kernel
theorem ew_16 : decode jdk_44_method_1_code 16 = .ok (.putfield 24, 3) := by decide +kernel
theorem ew_19 : decode jdk_44_method_1_code 19 = .ok (.return_, 1) := by decide +kernel
theorem pn_java_util_ImmutableCollections_List12 : plainName "java/util/ImmutableCollections$List12" = true := by first | (simp [plainName, overriddenIn]; done) | decide +kernel
theorem own_l12 (l : Launch) (Z : State) (a0 : Array Value) (hw : ∀ d ∈ tables_1, d.before a0 Z = true) (a : Addr) (o : Addr) (u0 : Value) (u1 : Value) (em : Addr) (h0 : Heap) (n0 : Nat) (Z0 : n0 ≤ h0.size) (g_a : n0 ≤ a) (F0 : Exa Z h0 a "java/util/ImmutableCollections$List12") (F1 : Fld Z h0 a "java/util/ImmutableCollections$List12" "e0" "Ljava/lang/Object;" u0) (F2 : Fld Z h0 a "java/util/ImmutableCollections$List12" "e1" "Ljava/lang/Object;" u1) (F3 : Old Z n0 h0) (GM : Aem Z em) :
    Jvm.Y9.Con l Z (⟨"java/util/ImmutableCollections$List12", "<init>", "(Ljava/lang/Object;)V"⟩ : MethodName) jdk_44_method_1_code 2 none ({ frames := 4, cells := 0, slots := 0, locals := 48 } : Room) n0 #[(.ref a), (.ref o)] h0 (fun v h => v = none ∧ Keep h0 h [a] ∧ Exa Z h a "java/util/ImmutableCollections$List12" ∧ Fld Z h a "java/util/ImmutableCollections$List12" "e0" "Ljava/lang/Object;" (.ref o) ∧ Fld Z h a "java/util/ImmutableCollections$List12" "e1" "Ljava/lang/Object;" (.ref em)) := by
  refine Jvm.Y9.Con.intro (plainFor_of_name pn_java_util_ImmutableCollections_List12) ?_
  intro p e s m below meth c s₁ hx hby hml hret hnm hown hlk hZ P0
  refine Jvm.Y9.Aim.cast (by first | (simp [entryFrame, mkF, argsToLocals, Value.category]; done) | rfl : entryFrame m #[(.ref a), (.ref o)] 2 = (mkF m 0 #[.val (.ref a), .val (.ref o)] [])) ?_
  have H := P0.here
  refine Jvm.Y9.Aim.of (T' := s₁) (g' := (mkF m 1 #[.val (.ref a), .val (.ref o)] [(.ref a)])) (fun tgt kt => ?_) ?_
  · refine XS.aloadN H hx rfl (hb hby ew_0) rfl rfl ?_
    exact kt
  refine Jvm.Y9.Aim.callC (argsL := []) (rest := []) P0 hx hZ hml hown rfl (wI hw 380 rfl) (wI hw 381 rfl) (wI hw 385 rfl) (by decide) (Jvm.Y9.Con.back (W := 0) (own_ail l Z a0 hw a h0 n0 Z0) hZ (wI hw 385 rfl) (wI hw 384 rfl) (by decide) (by decide)) rfl pd__28_29V rfl (Nat.le_of_eq rfl) (hb hby ew_1) (by decide) (by decide) ?_
  intro z0 z1 z2 z3 z4
  obtain ⟨rfl, rfl⟩ := z4
  have H := z3.here
  refine Jvm.Y9.Aim.of (T' := z0) (g' := (mkF m 6 #[.val (.ref a), .val (.ref o)] [(.ref o), (.ref a)])) (fun tgt kt => ?_) ?_
  · refine XS.aloadN H hx rfl (hb hby ew_4) rfl rfl ?_
    refine XS.aloadN H hx rfl (hb hby ew_5) rfl rfl ?_
    exact kt
  refine Jvm.Y9.Aim.callS (argsL := [(.ref o)]) (rest := [(.ref a)]) z3 hx hZ hml hown (wI hw 394 rfl) (wI hw 395 rfl) (wI hw 192 rfl) (wI hw 396 rfl) (by decide) (Jvm.Y9.Con.back (W := 1) (own_rnn l Z a0 hw o h0 n0 Z0) hZ (wI hw 396 rfl) (wI hw 192 rfl) (by decide) (by decide)) rfl pd__28Ljava_2flang_2fObject_3b_29Ljava_2flang_2fObject_3b rfl (Nat.le_of_eq rfl) (hb hby ew_6) (by decide) (by decide) ?_
  intro z5 z6 z7 z8 z9
  obtain ⟨rfl, rfl⟩ := z9
  refine Jvm.Y9.Aim.putF (v := (.ref o)) z8 hx hZ hown (host := "") (Or.inl (wI hw 397 rfl)) Via.refl F1 F0 (Or.inr ⟨(wI hw 398 rfl), rfl, hnm⟩) (wI hw 374 rfl) (ty := (.object "java/lang/Object")) (by decide) rfl rfl (hb hby ew_9) g_a ?_
  intro za zb zc zd
  have ze := Keep.of_wr zd
  have zf : Fld Z zb a "java/util/ImmutableCollections$List12" "e0" "Ljava/lang/Object;" (.ref o) := F1.same zd
  have zg : Keep h0 zb [a] := (Keep.refl h0 [a]).trans ze (allS (Or.inl (List.mem_of_getElem? (i := 0) rfl)) all0)
  have H := zc.here
  refine Jvm.Y9.Aim.of (T' := za) (g' := (mkF m 13 #[.val (.ref a), .val (.ref o)] [(.ref a)])) (fun tgt kt => ?_) ?_
  · refine XS.aloadN H hx rfl (hb hby ew_12) rfl rfl ?_
    exact kt
  have zh : Old Z n0 zb := (F3.keep ze (allS g_a all0))
  refine Jvm.Y9.Aim.getS2 zc hx hZ hown (Or.inr (wI hw 399 rfl)) Via.refl (GM.ext zh.2) (hb hby ew_13) ?_
  intro zi zj
  have zk : Exa Z zb a "java/util/ImmutableCollections$List12" := (F0.keep ze)
  have zl : Fld Z zb a "java/util/ImmutableCollections$List12" "e1" "Ljava/lang/Object;" u1 := (F2.other zd (Or.inr (slot_ne (Or.inr (wI hw 401 rfl)) (Or.inr (wI hw 398 rfl)) (by decide) (t := (.object "java/lang/Object")) (t' := (.object "java/lang/Object")) (by decide) (by decide))))
  refine Jvm.Y9.Aim.putF (v := (.ref em)) zj hx hZ hown (host := "") (Or.inl (wI hw 400 rfl)) Via.refl zl zk (Or.inr ⟨(wI hw 401 rfl), rfl, hnm⟩) (wI hw 374 rfl) (ty := (.object "java/lang/Object")) (by decide) rfl rfl (hb hby ew_16) g_a ?_
  intro zm zn zo zp
  have zq := Keep.of_wr zp
  have zr : Fld Z zn a "java/util/ImmutableCollections$List12" "e1" "Ljava/lang/Object;" (.ref em) := zl.same zp
  have zs : Keep h0 zn [a] := zg.trans zq (allS (Or.inl (List.mem_of_getElem? (i := 0) rfl)) all0)
  have zt : Exa Z zn a "java/util/ImmutableCollections$List12" := (zk.keep zq)
  have zu : Fld Z zn a "java/util/ImmutableCollections$List12" "e0" "Ljava/lang/Object;" (.ref o) := (zf.other zp (Or.inr (slot_ne (Or.inr (wI hw 398 rfl)) (Or.inr (wI hw 401 rfl)) (by decide) (t := (.object "java/lang/Object")) (t' := (.object "java/lang/Object")) (by decide) (by decide))))
  exact Jvm.Y9.Aim.retV zo hx hlk hret (hb hby ew_19) (by decide) (by decide) ⟨rfl, zs, zt, zu, zr⟩
theorem eg_0 : decode jdk_40_method_37_code 0 = .ok (.new 96, 3) := by decide +kernel
theorem eg_3 : decode jdk_40_method_37_code 3 = .ok (.dup, 1) := by decide +kernel
theorem eg_4 : decode jdk_40_method_37_code 4 = .ok (.aload_n 0, 1) := by decide +kernel
theorem eg_5 : decode jdk_40_method_37_code 5 = .ok (.invokespecial 98, 3) := by decide +kernel
theorem pd__28Ljava_2flang_2fObject_3b_29V : parseMethodDescriptor "(Ljava/lang/Object;)V" = some ⟨[(.object "java/lang/Object")], none⟩ := by decide +kernel
theorem eg_8 : decode jdk_40_method_37_code 8 = .ok (.areturn, 1) := by decide +kernel
theorem own_lo1 (l : Launch) (Z : State) (a0 : Array Value) (hw : ∀ d ∈ tables_1, d.before a0 Z = true) (o : Addr) (em : Addr) (h0 : Heap) (n0 : Nat) (Z0 : n0 ≤ h0.size) (F0 : Old Z n0 h0) (GM : Aem Z em) :
    Jvm.Y9.Con l Z (⟨"java/util/List", "of", "(Ljava/lang/Object;)Ljava/util/List;"⟩ : MethodName) jdk_40_method_37_code 1 (some (.object "java/util/List")) ({ frames := 5, cells := 1, slots := 2, locals := 62 } : Room) n0 #[(.ref o)] h0 (fun v h => ∃ a : Addr, v = some (.ref a) ∧ Keep h0 h [] ∧ h0.size ≤ a ∧ Exa Z h a "java/util/ImmutableCollections$List12" ∧ Fld Z h a "java/util/ImmutableCollections$List12" "e0" "Ljava/lang/Object;" (.ref o) ∧ Fld Z h a "java/util/ImmutableCollections$List12" "e1" "Ljava/lang/Object;" (.ref em)) := by
  refine Jvm.Y9.Con.intro (plainFor_of_name pn_java_util_List) ?_
  intro p e s m below meth c s₁ hx hby hml hret hnm hown hlk hZ P0
  refine Jvm.Y9.Aim.cast (by first | (simp [entryFrame, mkF, argsToLocals, Value.category]; done) | rfl : entryFrame m #[(.ref o)] 1 = (mkF m 0 #[.val (.ref o)] [])) ?_
  refine Jvm.Y9.Aim.newO P0 hx hZ hown (wI hw 373 rfl) (wI hw 374 rfl) (wI hw 375 rfl) (hb hby eg_0) (by decide) (by decide) ?_
  intro z0 z1 z2 z3 z4 z5 z6 z7 z8
  have z9 : Keep h0 z1 [] := (Keep.refl _ _).ext z5
  have za : Keep h0 z1 [] := (Keep.refl h0 []).trans z9 all0
  have zb : Fld Z z1 z2 "java/util/ImmutableCollections$List12" "e0" "Ljava/lang/Object;" .null := z7 (Or.inr (wI hw 398 rfl)) (ty := (.object "java/lang/Object")) (by decide)
  have zc : Fld Z z1 z2 "java/util/ImmutableCollections$List12" "e1" "Ljava/lang/Object;" .null := z7 (Or.inr (wI hw 401 rfl)) (ty := (.object "java/lang/Object")) (by decide)
  have H := z4.here
  refine Jvm.Y9.Aim.of (T' := z0) (g' := (mkF m 5 #[.val (.ref o)] [(.ref o), (.ref z2), (.ref z2)])) (fun tgt kt => ?_) ?_
  · refine XS.dup H hx rfl (hb hby eg_3) rfl rfl ?_
    refine XS.aloadN H hx rfl (hb hby eg_4) rfl rfl ?_
    exact kt
  have zd : Old Z n0 z1 := (F0.keep z9 all0)
  refine Jvm.Y9.Aim.callC (argsL := [(.ref o)]) (rest := [(.ref z2)]) z4 hx hZ hml hown rfl (wI hw 376 rfl) (wI hw 377 rfl) (wI hw 379 rfl) (by decide) (Jvm.Y9.Con.back (W := 1) (own_l12 l Z a0 hw z2 o (.null) (.null) em z1 n0 (lT Z0 (za.1)) (lT Z0 (Nat.le_of_eq z3.symm)) z6 zb zc zd GM) hZ (wI hw 379 rfl) (wI hw 375 rfl) (by decide) (by decide)) rfl pd__28Ljava_2flang_2fObject_3b_29V rfl (Nat.le_of_eq rfl) (hb hby eg_5) (by decide) (by decide) ?_
  intro ze zf zg zh zi
  obtain ⟨rfl, zj, zk, zl, zm⟩ := zi
  have zn : Keep h0 zf [] := za.trans zj (allS (Or.inr (lT (Nat.le_refl _) (Nat.le_of_eq z3.symm))) all0)
  exact Jvm.Y9.Aim.retA zh hx hlk hret rfl rfl (hb hby eg_8) (by decide) (by decide) ⟨z2, rfl, zn, (lT (Nat.le_refl _) (Nat.le_of_eq z3.symm)), zk, zl, zm⟩
theorem ex_0 : decode jdk_44_method_3_code 0 = .ok (.aload_n 0, 1) := by decide +kernel
theorem ex_1 : decode jdk_44_method_3_code 1 = .ok (.getfield 24, 3) := by decide +kernel
theorem ex_4 : decode jdk_44_method_3_code 4 = .ok (.getstatic 19, 3) := by decide +kernel
theorem ex_7 : decode jdk_44_method_3_code 7 = .ok (.if_acmp .eq 7, 3) := by decide +kernel
theorem ex_14 : decode jdk_44_method_3_code 14 = .ok (.iconst 1, 1) := by decide +kernel
theorem ex_15 : decode jdk_44_method_3_code 15 = .ok (.ireturn, 1) := by decide +kernel
theorem own_12s (l : Launch) (Z : State) (a0 : Array Value) (hw : ∀ d ∈ tables_1, d.before a0 Z = true) (a : Addr) (em : Addr) (h0 : Heap) (n0 : Nat) (Z0 : n0 ≤ h0.size) (F0 : Fld Z h0 a "java/util/ImmutableCollections$List12" "e1" "Ljava/lang/Object;" (.ref em)) (F1 : Old Z n0 h0) (GM : Aem Z em) :
    Jvm.Y9.Con l Z (⟨"java/util/ImmutableCollections$List12", "size", "()I"⟩ : MethodName) jdk_44_method_3_code 1 (some .int) ({ frames := 0, cells := 0, slots := 0, locals := 0 } : Room) n0 #[(.ref a)] h0 (fun v h => v = some (.int 1) ∧ h0 = h) := by
  refine Jvm.Y9.Con.intro (plainFor_of_name pn_java_util_ImmutableCollections_List12) ?_
  intro p e s m below meth c s₁ hx hby hml hret hnm hown hlk hZ P0
  refine Jvm.Y9.Aim.cast (by first | (simp [entryFrame, mkF, argsToLocals, Value.category]; done) | rfl : entryFrame m #[(.ref a)] 1 = (mkF m 0 #[.val (.ref a)] [])) ?_
  have H := P0.here
  refine Jvm.Y9.Aim.of (T' := s₁) (g' := (mkF m 1 #[.val (.ref a)] [(.ref a)])) (fun tgt kt => ?_) ?_
  · refine XS.aloadN H hx rfl (hb hby ex_0) rfl rfl ?_
    exact kt
  refine Jvm.Y9.Aim.getF P0 hx hZ hown (host := "") (Or.inl (wI hw 400 rfl)) Via.refl F0 (hb hby ex_1) ?_
  intro T390 P391
  refine Jvm.Y9.Aim.getS2 P391 hx hZ hown (Or.inr (wI hw 399 rfl)) Via.refl (GM.ext F1.2) (hb hby ex_4) ?_
  intro T392 P393
  have H := P393.here
  refine Jvm.Y9.Aim.of (T' := T392) (g' := (mkF m 15 #[.val (.ref a)] [(.int 1)])) (fun tgt kt => ?_) ?_
  · refine XT.acmpYes H hx rfl (pc0 := 7) (pc' := 14) rfl (hb hby ex_7) rfl rfl rfl (Jvm.Y9.own_acmpEqT rfl rfl rfl) (by decide) (by decide) ?_
    refine XS.iconst H hx rfl (hb hby ex_14) ?_
    exact kt
  exact Jvm.Y9.Aim.retI P393 hx hlk hret (hb hby ex_15) (by decide) (by decide) ⟨rfl, rfl⟩
theorem ey_0 : decode jdk_44_method_5_code 0 = .ok (.iload_n 1, 1) := by decide +kernel
theorem ey_1 : decode jdk_44_method_5_code 1 = .ok (.ifCond .ne 8, 3) := by decide +kernel
theorem ey_4 : decode jdk_44_method_5_code 4 = .ok (.aload_n 0, 1) := by decide +kernel
theorem ey_5 : decode jdk_44_method_5_code 5 = .ok (.getfield 13, 3) := by decide +kernel
theorem ey_8 : decode jdk_44_method_5_code 8 = .ok (.areturn, 1) := by decide +kernel
theorem own_12g (l : Launch) (Z : State) (a0 : Array Value) (hw : ∀ d ∈ tables_1, d.before a0 Z = true) (a : Addr) (o : Addr) (h0 : Heap) (n0 : Nat) (Z0 : n0 ≤ h0.size) (F0 : Fld Z h0 a "java/util/ImmutableCollections$List12" "e0" "Ljava/lang/Object;" (.ref o)) :
    Jvm.Y9.Con l Z (⟨"java/util/ImmutableCollections$List12", "get", "(I)Ljava/lang/Object;"⟩ : MethodName) jdk_44_method_5_code 2 (some (.object "java/lang/Object")) ({ frames := 0, cells := 0, slots := 0, locals := 0 } : Room) n0 #[(.ref a), (.int 0)] h0 (fun v h => v = some (.ref o) ∧ h0 = h) := by
  refine Jvm.Y9.Con.intro (plainFor_of_name pn_java_util_ImmutableCollections_List12) ?_
  intro p e s m below meth c s₁ hx hby hml hret hnm hown hlk hZ P0
  refine Jvm.Y9.Aim.cast (by first | (simp [entryFrame, mkF, argsToLocals, Value.category]; done) | rfl : entryFrame m #[(.ref a), (.int 0)] 2 = (mkF m 0 #[.val (.ref a), .val (.int 0)] [])) ?_
  have H := P0.here
  refine Jvm.Y9.Aim.of (T' := s₁) (g' := (mkF m 5 #[.val (.ref a), .val (.int 0)] [(.ref a)])) (fun tgt kt => ?_) ?_
  · refine XS.iloadN H hx rfl (hb hby ey_0) rfl ?_
    refine XS.ifNo H hx rfl (hb hby ey_1) rfl ((if0 _ _).trans (teq (by decide)).2) ?_
    refine XS.aloadN H hx rfl (hb hby ey_4) rfl rfl ?_
    exact kt
  refine Jvm.Y9.Aim.getF P0 hx hZ hown (host := "") (Or.inl (wI hw 397 rfl)) Via.refl F0 (hb hby ey_5) ?_
  intro T394 P395
  exact Jvm.Y9.Aim.retA P395 hx hlk hret rfl rfl (hb hby ey_8) (by decide) (by decide) ⟨rfl, rfl⟩
theorem e3_0 : decode jdk_30_method_1_code 0 = .ok (.aload_n 0, 1) := by decide +kernel
theorem e3_1 : decode jdk_30_method_1_code 1 = .ok (.invokespecial 1, 3) := by decide +kernel
theorem e3_4 : decode jdk_30_method_1_code 4 = .ok (.return_, 1) := by decide +kernel
theorem pn_java_lang_Record : plainName "java/lang/Record" = true := by first | (simp [plainName, overriddenIn]; done) | decide +kernel
theorem own_rec (l : Launch) (Z : State) (a0 : Array Value) (hw : ∀ d ∈ tables_1, d.before a0 Z = true) (a : Addr) (h0 : Heap) (n0 : Nat) (Z0 : n0 ≤ h0.size) :
    Jvm.Y9.Con l Z (⟨"java/lang/Record", "<init>", "()V"⟩ : MethodName) jdk_30_method_1_code 1 none ({ frames := 1, cells := 0, slots := 0, locals := 12 } : Room) n0 #[(.ref a)] h0 (fun v h => v = none ∧ h0 = h) := by
  refine Jvm.Y9.Con.intro (plainFor_of_name pn_java_lang_Record) ?_
  intro p e s m below meth c s₁ hx hby hml hret hnm hown hlk hZ P0
  refine Jvm.Y9.Aim.cast (by first | (simp [entryFrame, mkF, argsToLocals, Value.category]; done) | rfl : entryFrame m #[(.ref a)] 1 = (mkF m 0 #[.val (.ref a)] [])) ?_
  have H := P0.here
  refine Jvm.Y9.Aim.of (T' := s₁) (g' := (mkF m 1 #[.val (.ref a)] [(.ref a)])) (fun tgt kt => ?_) ?_
  · refine XS.aloadN H hx rfl (hb hby e3_0) rfl rfl ?_
    exact kt
  refine Jvm.Y9.Aim.initO P0 hx hZ hml hown (wI hw 131 rfl) (wI hw 21 rfl) (wI hw 22 rfl) rfl (hb hby e3_1) (by decide) (Nat.le_of_ble_eq_true rfl) ?_
  intro T396 P397
  exact Jvm.Y9.Aim.retV P397 hx hlk hret (hb hby e3_4) (by decide) (by decide) ⟨rfl, rfl⟩
theorem e1o_0 : decode prog_29_method_1_code 0 = .ok (.aload_n 0, 1) := by decide +kernel
theorem e1o_1 : decode prog_29_method_1_code 1 = .ok (.invokespecial 1, 3) := by decide +kernel
theorem e1o_4 : decode prog_29_method_1_code 4 = .ok (.aload_n 0, 1) := by decide +kernel
theorem e1o_5 : decode prog_29_method_1_code 5 = .ok (.aload_n 1, 1) := by decide +kernel
theorem e1o_6 : decode prog_29_method_1_code 6 = .ok (.putfield 7, 3) := by decide +kernel
theorem e1o_9 : decode prog_29_method_1_code 9 = .ok (.aload_n 0, 1) := by decide +kernel
theorem e1o_10 : decode prog_29_method_1_code 10 = .ok (.aload_n 2, 1) := by decide +kernel
theorem e1o_11 : decode prog_29_method_1_code 11 = .ok (.putfield 13, 3) := by decide +kernel
theorem e1o_14 : decode prog_29_method_1_code 14 = .ok (.aload_n 0, 1) := by decide +kernel
theorem e1o_15 : decode prog_29_method_1_code 15 = .ok (.aload_n 3, 1) := by decide +kernel
theorem e1o_16 : decode prog_29_method_1_code 16 = .ok (.putfield 16, 3) := by decide +kernel
theorem e1o_19 : decode prog_29_method_1_code 19 = .ok (.aload_n 0, 1) := by decide +kernel
theorem e1o_20 : decode prog_29_method_1_code 20 = .ok (.aload 4, 2) := by decide +kernel
theorem e1o_22 : decode prog_29_method_1_code 22 = .ok (.putfield 20, 3) := by decide +kernel
theorem e1o_25 : decode prog_29_method_1_code 25 = .ok (.aload_n 0, 1) := by decide +kernel
theorem e1o_26 : decode prog_29_method_1_code 26 = .ok (.aload 5, 2) := by decide +kernel
theorem e1o_28 : decode prog_29_method_1_code 28 = .ok (.putfield 23, 3) := by decide +kernel
theorem e1o_31 : decode prog_29_method_1_code 31 = .ok (.aload_n 0, 1) := by decide +kernel
theorem e1o_32 : decode prog_29_method_1_code 32 = .ok (.aload 6, 2) := by decide +kernel
theorem e1o_34 : decode prog_29_method_1_code 34 = .ok (.putfield 26, 3) := by decide +kernel
theorem e1o_37 : decode prog_29_method_1_code 37 = .ok (.return_, 1) := by decide +kernel
theorem pn_com_example_metsmith_metsmith_Mets_Div : plainName "com/example/metsmith/metsmith/Mets$Div" = true := by first | (simp [plainName, overriddenIn]; done) | decide +kernel
theorem own_div (l : Launch) (Z : State) (a0 : Array Value) (hw : ∀ d ∈ tables_1, d.before a0 Z = true) (a : Addr) (d1 : Addr) (d2 : Addr) (d3 : Addr) (d4 : Addr) (h0 : Heap) (n0 : Nat) (Z0 : n0 ≤ h0.size) (g_a : n0 ≤ a) (F0 : Exa Z h0 a "com/example/metsmith/metsmith/Mets$Div") (F1 : Fld Z h0 a "com/example/metsmith/metsmith/Mets$Div" "type" "Ljava/lang/String;" .null) (F2 : Fld Z h0 a "com/example/metsmith/metsmith/Mets$Div" "label" "Ljava/lang/String;" .null) (F3 : Fld Z h0 a "com/example/metsmith/metsmith/Mets$Div" "dmdIds" "Ljava/util/List;" .null) (F4 : Fld Z h0 a "com/example/metsmith/metsmith/Mets$Div" "admIds" "Ljava/util/List;" .null) (F5 : Fld Z h0 a "com/example/metsmith/metsmith/Mets$Div" "fileIds" "Ljava/util/List;" .null) (F6 : Fld Z h0 a "com/example/metsmith/metsmith/Mets$Div" "divs" "Ljava/util/List;" .null) :
    Jvm.Y9.Con l Z (⟨"com/example/metsmith/metsmith/Mets$Div", "<init>", "(Ljava/lang/String;Ljava/lang/String;Ljava/util/List;Ljava/util/List;Ljava/util/List;Ljava/util/List;)V"⟩ : MethodName) prog_29_method_1_code 7 none ({ frames := 2, cells := 0, slots := 0, locals := 24 } : Room) n0 #[(.ref a), .null, .null, (.ref d1), (.ref d2), (.ref d3), (.ref d4)] h0 (fun v h => v = none ∧ Keep h0 h [a] ∧ Exa Z h a "com/example/metsmith/metsmith/Mets$Div" ∧ Fld Z h a "com/example/metsmith/metsmith/Mets$Div" "type" "Ljava/lang/String;" .null ∧ Fld Z h a "com/example/metsmith/metsmith/Mets$Div" "label" "Ljava/lang/String;" .null ∧ Fld Z h a "com/example/metsmith/metsmith/Mets$Div" "dmdIds" "Ljava/util/List;" (.ref d1) ∧ Fld Z h a "com/example/metsmith/metsmith/Mets$Div" "admIds" "Ljava/util/List;" (.ref d2) ∧ Fld Z h a "com/example/metsmith/metsmith/Mets$Div" "fileIds" "Ljava/util/List;" (.ref d3) ∧ Fld Z h a "com/example/metsmith/metsmith/Mets$Div" "divs" "Ljava/util/List;" (.ref d4)) := by
  refine Jvm.Y9.Con.intro (plainFor_of_name pn_com_example_metsmith_metsmith_Mets_Div) ?_
  intro p e s m below meth c s₁ hx hby hml hret hnm hown hlk hZ P0
  refine Jvm.Y9.Aim.cast (by first | (simp [entryFrame, mkF, argsToLocals, Value.category]; done) | rfl : entryFrame m #[(.ref a), .null, .null, (.ref d1), (.ref d2), (.ref d3), (.ref d4)] 7 = (mkF m 0 #[.val (.ref a), .val .null, .val .null, .val (.ref d1), .val (.ref d2), .val (.ref d3), .val (.ref d4)] [])) ?_
  have H := P0.here
  refine Jvm.Y9.Aim.of (T' := s₁) (g' := (mkF m 1 #[.val (.ref a), .val .null, .val .null, .val (.ref d1), .val (.ref d2), .val (.ref d3), .val (.ref d4)] [(.ref a)])) (fun tgt kt => ?_) ?_
  · refine XS.aloadN H hx rfl (hb hby e1o_0) rfl rfl ?_
    exact kt
  refine Jvm.Y9.Aim.callC (argsL := []) (rest := []) P0 hx hZ hml hown rfl (wI hw 126 rfl) (wI hw 127 rfl) (wI hw 130 rfl) (by decide) (Jvm.Y9.Con.back (W := 0) (own_rec l Z a0 hw a h0 n0 Z0) hZ (wI hw 130 rfl) (wI hw 129 rfl) (by decide) (by decide)) rfl pd__28_29V rfl (Nat.le_of_eq rfl) (hb hby e1o_1) (by decide) (by decide) ?_
  intro z0 z1 z2 z3 z4
  obtain ⟨rfl, rfl⟩ := z4
  have H := z3.here
  refine Jvm.Y9.Aim.of (T' := z0) (g' := (mkF m 6 #[.val (.ref a), .val .null, .val .null, .val (.ref d1), .val (.ref d2), .val (.ref d3), .val (.ref d4)] [.null, (.ref a)])) (fun tgt kt => ?_) ?_
  · refine XS.aloadN H hx rfl (hb hby e1o_4) rfl rfl ?_
    refine XS.aloadN H hx rfl (hb hby e1o_5) rfl rfl ?_
    exact kt
  refine Jvm.Y9.Aim.putF (v := .null) z3 hx hZ hown (host := "") (Or.inl (wI hw 132 rfl)) Via.refl F1 F0 (Or.inr ⟨(wI hw 133 rfl), rfl, hnm⟩) (wI hw 116 rfl) (ty := (.object "java/lang/String")) (by decide) rfl rfl (hb hby e1o_6) g_a ?_
  intro z5 z6 z7 z8
  have z9 := Keep.of_wr z8
  have za : Fld Z z6 a "com/example/metsmith/metsmith/Mets$Div" "type" "Ljava/lang/String;" .null := F1.same z8
  have zb : Keep h0 z6 [a] := (Keep.refl h0 [a]).trans z9 (allS (Or.inl (List.mem_of_getElem? (i := 0) rfl)) all0)
  have H := z7.here
  refine Jvm.Y9.Aim.of (T' := z5) (g' := (mkF m 11 #[.val (.ref a), .val .null, .val .null, .val (.ref d1), .val (.ref d2), .val (.ref d3), .val (.ref d4)] [.null, (.ref a)])) (fun tgt kt => ?_) ?_
  · refine XS.aloadN H hx rfl (hb hby e1o_9) rfl rfl ?_
    refine XS.aloadN H hx rfl (hb hby e1o_10) rfl rfl ?_
    exact kt
  have zc : Exa Z z6 a "com/example/metsmith/metsmith/Mets$Div" := (F0.keep z9)
  have zd : Fld Z z6 a "com/example/metsmith/metsmith/Mets$Div" "label" "Ljava/lang/String;" .null := (F2.other z8 (Or.inr (slot_ne (Or.inr (wI hw 135 rfl)) (Or.inr (wI hw 133 rfl)) (by decide) (t := (.object "java/lang/String")) (t' := (.object "java/lang/String")) (by decide) (by decide))))
  refine Jvm.Y9.Aim.putF (v := .null) z7 hx hZ hown (host := "") (Or.inl (wI hw 134 rfl)) Via.refl zd zc (Or.inr ⟨(wI hw 135 rfl), rfl, hnm⟩) (wI hw 116 rfl) (ty := (.object "java/lang/String")) (by decide) rfl rfl (hb hby e1o_11) g_a ?_
  intro ze zf zg zh
  have zi := Keep.of_wr zh
  have zj : Fld Z zf a "com/example/metsmith/metsmith/Mets$Div" "label" "Ljava/lang/String;" .null := zd.same zh
  have zk : Keep h0 zf [a] := zb.trans zi (allS (Or.inl (List.mem_of_getElem? (i := 0) rfl)) all0)
  have H := zg.here
  refine Jvm.Y9.Aim.of (T' := ze) (g' := (mkF m 16 #[.val (.ref a), .val .null, .val .null, .val (.ref d1), .val (.ref d2), .val (.ref d3), .val (.ref d4)] [(.ref d1), (.ref a)])) (fun tgt kt => ?_) ?_
  · refine XS.aloadN H hx rfl (hb hby e1o_14) rfl rfl ?_
    refine XS.aloadN H hx rfl (hb hby e1o_15) rfl rfl ?_
    exact kt
  have zl : Exa Z zf a "com/example/metsmith/metsmith/Mets$Div" := (zc.keep zi)
  have zm : Fld Z zf a "com/example/metsmith/metsmith/Mets$Div" "dmdIds" "Ljava/util/List;" .null := ((F3.other z8 (Or.inr (slot_ne (Or.inr (wI hw 137 rfl)) (Or.inr (wI hw 133 rfl)) (by decide) (t := (.object "java/util/List")) (t' := (.object "java/lang/String")) (by decide) (by decide)))).other zh (Or.inr (slot_ne (Or.inr (wI hw 137 rfl)) (Or.inr (wI hw 135 rfl)) (by decide) (t := (.object "java/util/List")) (t' := (.object "java/lang/String")) (by decide) (by decide))))
  refine Jvm.Y9.Aim.putF (v := (.ref d1)) zg hx hZ hown (host := "") (Or.inl (wI hw 136 rfl)) Via.refl zm zl (Or.inr ⟨(wI hw 137 rfl), rfl, hnm⟩) (wI hw 116 rfl) (ty := (.object "java/util/List")) (by decide) rfl rfl (hb hby e1o_16) g_a ?_
  intro zn zo zp zq
  have zr := Keep.of_wr zq
  have zs : Fld Z zo a "com/example/metsmith/metsmith/Mets$Div" "dmdIds" "Ljava/util/List;" (.ref d1) := zm.same zq
  have zt : Keep h0 zo [a] := zk.trans zr (allS (Or.inl (List.mem_of_getElem? (i := 0) rfl)) all0)
  have H := zp.here
  refine Jvm.Y9.Aim.of (T' := zn) (g' := (mkF m 22 #[.val (.ref a), .val .null, .val .null, .val (.ref d1), .val (.ref d2), .val (.ref d3), .val (.ref d4)] [(.ref d2), (.ref a)])) (fun tgt kt => ?_) ?_
  · refine XS.aloadN H hx rfl (hb hby e1o_19) rfl rfl ?_
    refine XS.aload H hx rfl (hb hby e1o_20) rfl rfl ?_
    exact kt
  have zu : Exa Z zo a "com/example/metsmith/metsmith/Mets$Div" := (zl.keep zr)
  have zv : Fld Z zo a "com/example/metsmith/metsmith/Mets$Div" "admIds" "Ljava/util/List;" .null := (((F4.other z8 (Or.inr (slot_ne (Or.inr (wI hw 139 rfl)) (Or.inr (wI hw 133 rfl)) (by decide) (t := (.object "java/util/List")) (t' := (.object "java/lang/String")) (by decide) (by decide)))).other zh (Or.inr (slot_ne (Or.inr (wI hw 139 rfl)) (Or.inr (wI hw 135 rfl)) (by decide) (t := (.object "java/util/List")) (t' := (.object "java/lang/String")) (by decide) (by decide)))).other zq (Or.inr (slot_ne (Or.inr (wI hw 139 rfl)) (Or.inr (wI hw 137 rfl)) (by decide) (t := (.object "java/util/List")) (t' := (.object "java/util/List")) (by decide) (by decide))))
  refine Jvm.Y9.Aim.putF (v := (.ref d2)) zp hx hZ hown (host := "") (Or.inl (wI hw 138 rfl)) Via.refl zv zu (Or.inr ⟨(wI hw 139 rfl), rfl, hnm⟩) (wI hw 116 rfl) (ty := (.object "java/util/List")) (by decide) rfl rfl (hb hby e1o_22) g_a ?_
  intro zw zx zy zz
  have z10 := Keep.of_wr zz
  have z11 : Fld Z zx a "com/example/metsmith/metsmith/Mets$Div" "admIds" "Ljava/util/List;" (.ref d2) := zv.same zz
  have z12 : Keep h0 zx [a] := zt.trans z10 (allS (Or.inl (List.mem_of_getElem? (i := 0) rfl)) all0)
  have H := zy.here
  refine Jvm.Y9.Aim.of (T' := zw) (g' := (mkF m 28 #[.val (.ref a), .val .null, .val .null, .val (.ref d1), .val (.ref d2), .val (.ref d3), .val (.ref d4)] [(.ref d3), (.ref a)])) (fun tgt kt => ?_) ?_
  · refine XS.aloadN H hx rfl (hb hby e1o_25) rfl rfl ?_
    refine XS.aload H hx rfl (hb hby e1o_26) rfl rfl ?_
    exact kt
  have z13 : Exa Z zx a "com/example/metsmith/metsmith/Mets$Div" := (zu.keep z10)
  have z14 : Fld Z zx a "com/example/metsmith/metsmith/Mets$Div" "fileIds" "Ljava/util/List;" .null := ((((F5.other z8 (Or.inr (slot_ne (Or.inr (wI hw 141 rfl)) (Or.inr (wI hw 133 rfl)) (by decide) (t := (.object "java/util/List")) (t' := (.object "java/lang/String")) (by decide) (by decide)))).other zh (Or.inr (slot_ne (Or.inr (wI hw 141 rfl)) (Or.inr (wI hw 135 rfl)) (by decide) (t := (.object "java/util/List")) (t' := (.object "java/lang/String")) (by decide) (by decide)))).other zq (Or.inr (slot_ne (Or.inr (wI hw 141 rfl)) (Or.inr (wI hw 137 rfl)) (by decide) (t := (.object "java/util/List")) (t' := (.object "java/util/List")) (by decide) (by decide)))).other zz (Or.inr (slot_ne (Or.inr (wI hw 141 rfl)) (Or.inr (wI hw 139 rfl)) (by decide) (t := (.object "java/util/List")) (t' := (.object "java/util/List")) (by decide) (by decide))))
  refine Jvm.Y9.Aim.putF (v := (.ref d3)) zy hx hZ hown (host := "") (Or.inl (wI hw 140 rfl)) Via.refl z14 z13 (Or.inr ⟨(wI hw 141 rfl), rfl, hnm⟩) (wI hw 116 rfl) (ty := (.object "java/util/List")) (by decide) rfl rfl (hb hby e1o_28) g_a ?_
  intro z15 z16 z17 z18
  have z19 := Keep.of_wr z18
  have z1a : Fld Z z16 a "com/example/metsmith/metsmith/Mets$Div" "fileIds" "Ljava/util/List;" (.ref d3) := z14.same z18
  have z1b : Keep h0 z16 [a] := z12.trans z19 (allS (Or.inl (List.mem_of_getElem? (i := 0) rfl)) all0)
  have H := z17.here
  refine Jvm.Y9.Aim.of (T' := z15) (g' := (mkF m 34 #[.val (.ref a), .val .null, .val .null, .val (.ref d1), .val (.ref d2), .val (.ref d3), .val (.ref d4)] [(.ref d4), (.ref a)])) (fun tgt kt => ?_) ?_
  · refine XS.aloadN H hx rfl (hb hby e1o_31) rfl rfl ?_
    refine XS.aload H hx rfl (hb hby e1o_32) rfl rfl ?_
    exact kt
  have z1c : Exa Z z16 a "com/example/metsmith/metsmith/Mets$Div" := (z13.keep z19)
  have z1d : Fld Z z16 a "com/example/metsmith/metsmith/Mets$Div" "divs" "Ljava/util/List;" .null := (((((F6.other z8 (Or.inr (slot_ne (Or.inr (wI hw 143 rfl)) (Or.inr (wI hw 133 rfl)) (by decide) (t := (.object "java/util/List")) (t' := (.object "java/lang/String")) (by decide) (by decide)))).other zh (Or.inr (slot_ne (Or.inr (wI hw 143 rfl)) (Or.inr (wI hw 135 rfl)) (by decide) (t := (.object "java/util/List")) (t' := (.object "java/lang/String")) (by decide) (by decide)))).other zq (Or.inr (slot_ne (Or.inr (wI hw 143 rfl)) (Or.inr (wI hw 137 rfl)) (by decide) (t := (.object "java/util/List")) (t' := (.object "java/util/List")) (by decide) (by decide)))).other zz (Or.inr (slot_ne (Or.inr (wI hw 143 rfl)) (Or.inr (wI hw 139 rfl)) (by decide) (t := (.object "java/util/List")) (t' := (.object "java/util/List")) (by decide) (by decide)))).other z18 (Or.inr (slot_ne (Or.inr (wI hw 143 rfl)) (Or.inr (wI hw 141 rfl)) (by decide) (t := (.object "java/util/List")) (t' := (.object "java/util/List")) (by decide) (by decide))))
  refine Jvm.Y9.Aim.putF (v := (.ref d4)) z17 hx hZ hown (host := "") (Or.inl (wI hw 142 rfl)) Via.refl z1d z1c (Or.inr ⟨(wI hw 143 rfl), rfl, hnm⟩) (wI hw 116 rfl) (ty := (.object "java/util/List")) (by decide) rfl rfl (hb hby e1o_34) g_a ?_
  intro z1e z1f z1g z1h
  have z1i := Keep.of_wr z1h
  have z1j : Fld Z z1f a "com/example/metsmith/metsmith/Mets$Div" "divs" "Ljava/util/List;" (.ref d4) := z1d.same z1h
  have z1k : Keep h0 z1f [a] := z1b.trans z1i (allS (Or.inl (List.mem_of_getElem? (i := 0) rfl)) all0)
  have z1l : Exa Z z1f a "com/example/metsmith/metsmith/Mets$Div" := (z1c.keep z1i)
  have z1m : Fld Z z1f a "com/example/metsmith/metsmith/Mets$Div" "type" "Ljava/lang/String;" .null := (((((za.other zh (Or.inr (slot_ne (Or.inr (wI hw 133 rfl)) (Or.inr (wI hw 135 rfl)) (by decide) (t := (.object "java/lang/String")) (t' := (.object "java/lang/String")) (by decide) (by decide)))).other zq (Or.inr (slot_ne (Or.inr (wI hw 133 rfl)) (Or.inr (wI hw 137 rfl)) (by decide) (t := (.object "java/lang/String")) (t' := (.object "java/util/List")) (by decide) (by decide)))).other zz (Or.inr (slot_ne (Or.inr (wI hw 133 rfl)) (Or.inr (wI hw 139 rfl)) (by decide) (t := (.object "java/lang/String")) (t' := (.object "java/util/List")) (by decide) (by decide)))).other z18 (Or.inr (slot_ne (Or.inr (wI hw 133 rfl)) (Or.inr (wI hw 141 rfl)) (by decide) (t := (.object "java/lang/String")) (t' := (.object "java/util/List")) (by decide) (by decide)))).other z1h (Or.inr (slot_ne (Or.inr (wI hw 133 rfl)) (Or.inr (wI hw 143 rfl)) (by decide) (t := (.object "java/lang/String")) (t' := (.object "java/util/List")) (by decide) (by decide))))
  have z1n : Fld Z z1f a "com/example/metsmith/metsmith/Mets$Div" "label" "Ljava/lang/String;" .null := ((((zj.other zq (Or.inr (slot_ne (Or.inr (wI hw 135 rfl)) (Or.inr (wI hw 137 rfl)) (by decide) (t := (.object "java/lang/String")) (t' := (.object "java/util/List")) (by decide) (by decide)))).other zz (Or.inr (slot_ne (Or.inr (wI hw 135 rfl)) (Or.inr (wI hw 139 rfl)) (by decide) (t := (.object "java/lang/String")) (t' := (.object "java/util/List")) (by decide) (by decide)))).other z18 (Or.inr (slot_ne (Or.inr (wI hw 135 rfl)) (Or.inr (wI hw 141 rfl)) (by decide) (t := (.object "java/lang/String")) (t' := (.object "java/util/List")) (by decide) (by decide)))).other z1h (Or.inr (slot_ne (Or.inr (wI hw 135 rfl)) (Or.inr (wI hw 143 rfl)) (by decide) (t := (.object "java/lang/String")) (t' := (.object "java/util/List")) (by decide) (by decide))))
  have z1o : Fld Z z1f a "com/example/metsmith/metsmith/Mets$Div" "dmdIds" "Ljava/util/List;" (.ref d1) := (((zs.other zz (Or.inr (slot_ne (Or.inr (wI hw 137 rfl)) (Or.inr (wI hw 139 rfl)) (by decide) (t := (.object "java/util/List")) (t' := (.object "java/util/List")) (by decide) (by decide)))).other z18 (Or.inr (slot_ne (Or.inr (wI hw 137 rfl)) (Or.inr (wI hw 141 rfl)) (by decide) (t := (.object "java/util/List")) (t' := (.object "java/util/List")) (by decide) (by decide)))).other z1h (Or.inr (slot_ne (Or.inr (wI hw 137 rfl)) (Or.inr (wI hw 143 rfl)) (by decide) (t := (.object "java/util/List")) (t' := (.object "java/util/List")) (by decide) (by decide))))
  have z1p : Fld Z z1f a "com/example/metsmith/metsmith/Mets$Div" "admIds" "Ljava/util/List;" (.ref d2) := ((z11.other z18 (Or.inr (slot_ne (Or.inr (wI hw 139 rfl)) (Or.inr (wI hw 141 rfl)) (by decide) (t := (.object "java/util/List")) (t' := (.object "java/util/List")) (by decide) (by decide)))).other z1h (Or.inr (slot_ne (Or.inr (wI hw 139 rfl)) (Or.inr (wI hw 143 rfl)) (by decide) (t := (.object "java/util/List")) (t' := (.object "java/util/List")) (by decide) (by decide))))
  have z1q : Fld Z z1f a "com/example/metsmith/metsmith/Mets$Div" "fileIds" "Ljava/util/List;" (.ref d3) := (z1a.other z1h (Or.inr (slot_ne (Or.inr (wI hw 141 rfl)) (Or.inr (wI hw 143 rfl)) (by decide) (t := (.object "java/util/List")) (t' := (.object "java/util/List")) (by decide) (by decide))))
  exact Jvm.Y9.Aim.retV z1g hx hlk hret (hb hby e1o_37) (by decide) (by decide) ⟨rfl, z1k, z1l, z1m, z1n, z1o, z1p, z1q, z1j⟩
theorem e1s_0 : decode prog_29_method_6_code 0 = .ok (.aload_n 0, 1) := by decide +kernel
theorem e1s_1 : decode prog_29_method_6_code 1 = .ok (.getfield 7, 3) := by decide +kernel
theorem e1s_4 : decode prog_29_method_6_code 4 = .ok (.areturn, 1) := by decide +kernel
theorem own_gtype (l : Launch) (Z : State) (a0 : Array Value) (hw : ∀ d ∈ tables_1, d.before a0 Z = true) (a : Addr) (h0 : Heap) (n0 : Nat) (Z0 : n0 ≤ h0.size) (F0 : Fld Z h0 a "com/example/metsmith/metsmith/Mets$Div" "type" "Ljava/lang/String;" .null) :
    Jvm.Y9.Con l Z (⟨"com/example/metsmith/metsmith/Mets$Div", "type", "()Ljava/lang/String;"⟩ : MethodName) prog_29_method_6_code 1 (some (.object "java/lang/String")) ({ frames := 0, cells := 0, slots := 0, locals := 0 } : Room) n0 #[(.ref a)] h0 (fun v h => v = some .null ∧ h0 = h) := by
  refine Jvm.Y9.Con.intro (plainFor_of_name pn_com_example_metsmith_metsmith_Mets_Div) ?_
  intro p e s m below meth c s₁ hx hby hml hret hnm hown hlk hZ P0
  refine Jvm.Y9.Aim.cast (by first | (simp [entryFrame, mkF, argsToLocals, Value.category]; done) | rfl : entryFrame m #[(.ref a)] 1 = (mkF m 0 #[.val (.ref a)] [])) ?_
  have H := P0.here
  refine Jvm.Y9.Aim.of (T' := s₁) (g' := (mkF m 1 #[.val (.ref a)] [(.ref a)])) (fun tgt kt => ?_) ?_
  · refine XS.aloadN H hx rfl (hb hby e1s_0) rfl rfl ?_
    exact kt
  refine Jvm.Y9.Aim.getF P0 hx hZ hown (host := "") (Or.inl (wI hw 132 rfl)) Via.refl F0 (hb hby e1s_1) ?_
  intro T463 P464
  exact Jvm.Y9.Aim.retA P464 hx hlk hret rfl rfl (hb hby e1s_4) (by decide) (by decide) ⟨rfl, rfl⟩
theorem e1t_0 : decode prog_29_method_7_code 0 = .ok (.aload_n 0, 1) := by decide +kernel
theorem e1t_1 : decode prog_29_method_7_code 1 = .ok (.getfield 13, 3) := by decide +kernel
theorem e1t_4 : decode prog_29_method_7_code 4 = .ok (.areturn, 1) := by decide +kernel
theorem own_glabel (l : Launch) (Z : State) (a0 : Array Value) (hw : ∀ d ∈ tables_1, d.before a0 Z = true) (a : Addr) (h0 : Heap) (n0 : Nat) (Z0 : n0 ≤ h0.size) (F0 : Fld Z h0 a "com/example/metsmith/metsmith/Mets$Div" "label" "Ljava/lang/String;" .null) :
    Jvm.Y9.Con l Z (⟨"com/example/metsmith/metsmith/Mets$Div", "label", "()Ljava/lang/String;"⟩ : MethodName) prog_29_method_7_code 1 (some (.object "java/lang/String")) ({ frames := 0, cells := 0, slots := 0, locals := 0 } : Room) n0 #[(.ref a)] h0 (fun v h => v = some .null ∧ h0 = h) := by
  refine Jvm.Y9.Con.intro (plainFor_of_name pn_com_example_metsmith_metsmith_Mets_Div) ?_
  intro p e s m below meth c s₁ hx hby hml hret hnm hown hlk hZ P0
  refine Jvm.Y9.Aim.cast (by first | (simp [entryFrame, mkF, argsToLocals, Value.category]; done) | rfl : entryFrame m #[(.ref a)] 1 = (mkF m 0 #[.val (.ref a)] [])) ?_
  have H := P0.here
  refine Jvm.Y9.Aim.of (T' := s₁) (g' := (mkF m 1 #[.val (.ref a)] [(.ref a)])) (fun tgt kt => ?_) ?_
  · refine XS.aloadN H hx rfl (hb hby e1t_0) rfl rfl ?_
    exact kt
  refine Jvm.Y9.Aim.getF P0 hx hZ hown (host := "") (Or.inl (wI hw 134 rfl)) Via.refl F0 (hb hby e1t_1) ?_
  intro T465 P466
  exact Jvm.Y9.Aim.retA P466 hx hlk hret rfl rfl (hb hby e1t_4) (by decide) (by decide) ⟨rfl, rfl⟩
theorem e1u_0 : decode prog_29_method_8_code 0 = .ok (.aload_n 0, 1) := by decide +kernel
theorem e1u_1 : decode prog_29_method_8_code 1 = .ok (.getfield 16, 3) := by decide +kernel
theorem e1u_4 : decode prog_29_method_8_code 4 = .ok (.areturn, 1) := by decide +kernel
theorem own_gdmdIds (l : Launch) (Z : State) (a0 : Array Value) (hw : ∀ d ∈ tables_1, d.before a0 Z = true) (a : Addr) (y : Addr) (h0 : Heap) (n0 : Nat) (Z0 : n0 ≤ h0.size) (F0 : Fld Z h0 a "com/example/metsmith/metsmith/Mets$Div" "dmdIds" "Ljava/util/List;" (.ref y)) :
    Jvm.Y9.Con l Z (⟨"com/example/metsmith/metsmith/Mets$Div", "dmdIds", "()Ljava/util/List;"⟩ : MethodName) prog_29_method_8_code 1 (some (.object "java/util/List")) ({ frames := 0, cells := 0, slots := 0, locals := 0 } : Room) n0 #[(.ref a)] h0 (fun v h => v = some (.ref y) ∧ h0 = h) := by
  refine Jvm.Y9.Con.intro (plainFor_of_name pn_com_example_metsmith_metsmith_Mets_Div) ?_
  intro p e s m below meth c s₁ hx hby hml hret hnm hown hlk hZ P0
  refine Jvm.Y9.Aim.cast (by first | (simp [entryFrame, mkF, argsToLocals, Value.category]; done) | rfl : entryFrame m #[(.ref a)] 1 = (mkF m 0 #[.val (.ref a)] [])) ?_
  have H := P0.here
  refine Jvm.Y9.Aim.of (T' := s₁) (g' := (mkF m 1 #[.val (.ref a)] [(.ref a)])) (fun tgt kt => ?_) ?_
  · refine XS.aloadN H hx rfl (hb hby e1u_0) rfl rfl ?_
    exact kt
  refine Jvm.Y9.Aim.getF P0 hx hZ hown (host := "") (Or.inl (wI hw 136 rfl)) Via.refl F0 (hb hby e1u_1) ?_
  intro T467 P468
  exact Jvm.Y9.Aim.retA P468 hx hlk hret rfl rfl (hb hby e1u_4) (by decide) (by decide) ⟨rfl, rfl⟩
theorem e1v_0 : decode prog_29_method_9_code 0 = .ok (.aload_n 0, 1) := by decide +kernel
theorem e1v_1 : decode prog_29_method_9_code 1 = .ok (.getfield 20, 3) := by decide +kernel
theorem e1v_4 : decode prog_29_method_9_code 4 = .ok (.areturn, 1) := by decide +kernel
theorem own_gadmIds (l : Launch) (Z : State) (a0 : Array Value) (hw : ∀ d ∈ tables_1, d.before a0 Z = true) (a : Addr) (y : Addr) (h0 : Heap) (n0 : Nat) (Z0 : n0 ≤ h0.size) (F0 : Fld Z h0 a "com/example/metsmith/metsmith/Mets$Div" "admIds" "Ljava/util/List;" (.ref y)) :
    Jvm.Y9.Con l Z (⟨"com/example/metsmith/metsmith/Mets$Div", "admIds", "()Ljava/util/List;"⟩ : MethodName) prog_29_method_9_code 1 (some (.object "java/util/List")) ({ frames := 0, cells := 0, slots := 0, locals := 0 } : Room) n0 #[(.ref a)] h0 (fun v h => v = some (.ref y) ∧ h0 = h) := by
  refine Jvm.Y9.Con.intro (plainFor_of_name pn_com_example_metsmith_metsmith_Mets_Div) ?_
  intro p e s m below meth c s₁ hx hby hml hret hnm hown hlk hZ P0
  refine Jvm.Y9.Aim.cast (by first | (simp [entryFrame, mkF, argsToLocals, Value.category]; done) | rfl : entryFrame m #[(.ref a)] 1 = (mkF m 0 #[.val (.ref a)] [])) ?_
  have H := P0.here
  refine Jvm.Y9.Aim.of (T' := s₁) (g' := (mkF m 1 #[.val (.ref a)] [(.ref a)])) (fun tgt kt => ?_) ?_
  · refine XS.aloadN H hx rfl (hb hby e1v_0) rfl rfl ?_
    exact kt
  refine Jvm.Y9.Aim.getF P0 hx hZ hown (host := "") (Or.inl (wI hw 138 rfl)) Via.refl F0 (hb hby e1v_1) ?_
  intro T469 P470
  exact Jvm.Y9.Aim.retA P470 hx hlk hret rfl rfl (hb hby e1v_4) (by decide) (by decide) ⟨rfl, rfl⟩
theorem e1p_0 : decode prog_29_method_10_code 0 = .ok (.aload_n 0, 1) := by decide +kernel
theorem e1p_1 : decode prog_29_method_10_code 1 = .ok (.getfield 23, 3) := by decide +kernel
theorem e1p_4 : decode prog_29_method_10_code 4 = .ok (.areturn, 1) := by decide +kernel
theorem own_gfileIds (l : Launch) (Z : State) (a0 : Array Value) (hw : ∀ d ∈ tables_1, d.before a0 Z = true) (a : Addr) (y : Addr) (h0 : Heap) (n0 : Nat) (Z0 : n0 ≤ h0.size) (F0 : Fld Z h0 a "com/example/metsmith/metsmith/Mets$Div" "fileIds" "Ljava/util/List;" (.ref y)) :
    Jvm.Y9.Con l Z (⟨"com/example/metsmith/metsmith/Mets$Div", "fileIds", "()Ljava/util/List;"⟩ : MethodName) prog_29_method_10_code 1 (some (.object "java/util/List")) ({ frames := 0, cells := 0, slots := 0, locals := 0 } : Room) n0 #[(.ref a)] h0 (fun v h => v = some (.ref y) ∧ h0 = h) := by
  refine Jvm.Y9.Con.intro (plainFor_of_name pn_com_example_metsmith_metsmith_Mets_Div) ?_
  intro p e s m below meth c s₁ hx hby hml hret hnm hown hlk hZ P0
  refine Jvm.Y9.Aim.cast (by first | (simp [entryFrame, mkF, argsToLocals, Value.category]; done) | rfl : entryFrame m #[(.ref a)] 1 = (mkF m 0 #[.val (.ref a)] [])) ?_
  have H := P0.here
  refine Jvm.Y9.Aim.of (T' := s₁) (g' := (mkF m 1 #[.val (.ref a)] [(.ref a)])) (fun tgt kt => ?_) ?_
  · refine XS.aloadN H hx rfl (hb hby e1p_0) rfl rfl ?_
    exact kt
  refine Jvm.Y9.Aim.getF P0 hx hZ hown (host := "") (Or.inl (wI hw 140 rfl)) Via.refl F0 (hb hby e1p_1) ?_
  intro T471 P472
  exact Jvm.Y9.Aim.retA P472 hx hlk hret rfl rfl (hb hby e1p_4) (by decide) (by decide) ⟨rfl, rfl⟩
theorem e1q_0 : decode prog_29_method_11_code 0 = .ok (.aload_n 0, 1) := by decide +kernel
theorem e1q_1 : decode prog_29_method_11_code 1 = .ok (.getfield 26, 3) := by decide +kernel
theorem e1q_4 : decode prog_29_method_11_code 4 = .ok (.areturn, 1) := by decide +kernel
theorem own_gdivs (l : Launch) (Z : State) (a0 : Array Value) (hw : ∀ d ∈ tables_1, d.before a0 Z = true) (a : Addr) (y : Addr) (h0 : Heap) (n0 : Nat) (Z0 : n0 ≤ h0.size) (F0 : Fld Z h0 a "com/example/metsmith/metsmith/Mets$Div" "divs" "Ljava/util/List;" (.ref y)) :
    Jvm.Y9.Con l Z (⟨"com/example/metsmith/metsmith/Mets$Div", "divs", "()Ljava/util/List;"⟩ : MethodName) prog_29_method_11_code 1 (some (.object "java/util/List")) ({ frames := 0, cells := 0, slots := 0, locals := 0 } : Room) n0 #[(.ref a)] h0 (fun v h => v = some (.ref y) ∧ h0 = h) := by
  refine Jvm.Y9.Con.intro (plainFor_of_name pn_com_example_metsmith_metsmith_Mets_Div) ?_
  intro p e s m below meth c s₁ hx hby hml hret hnm hown hlk hZ P0
  refine Jvm.Y9.Aim.cast (by first | (simp [entryFrame, mkF, argsToLocals, Value.category]; done) | rfl : entryFrame m #[(.ref a)] 1 = (mkF m 0 #[.val (.ref a)] [])) ?_
  have H := P0.here
  refine Jvm.Y9.Aim.of (T' := s₁) (g' := (mkF m 1 #[.val (.ref a)] [(.ref a)])) (fun tgt kt => ?_) ?_
  · refine XS.aloadN H hx rfl (hb hby e1q_0) rfl rfl ?_
    exact kt
  refine Jvm.Y9.Aim.getF P0 hx hZ hown (host := "") (Or.inl (wI hw 142 rfl)) Via.refl F0 (hb hby e1q_1) ?_
  intro T473 P474
  exact Jvm.Y9.Aim.retA P474 hx hlk hret rfl rfl (hb hby e1q_4) (by decide) (by decide) ⟨rfl, rfl⟩
theorem e1w_0 : decode prog_30_method_1_code 0 = .ok (.aload_n 0, 1) := by decide +kernel
theorem e1w_1 : decode prog_30_method_1_code 1 = .ok (.iload_n 1, 1) := by decide +kernel
theorem e1w_2 : decode prog_30_method_1_code 2 = .ok (.putfield 1, 3) := by decide +kernel
theorem e1w_5 : decode prog_30_method_1_code 5 = .ok (.aload_n 0, 1) := by decide +kernel
theorem e1w_6 : decode prog_30_method_1_code 6 = .ok (.invokespecial 7, 3) := by decide +kernel
theorem e1w_9 : decode prog_30_method_1_code 9 = .ok (.return_, 1) := by decide +kernel
theorem pn_com_example_metsmith_metsmith_Mets_Div_1 : plainName "com/example/metsmith/metsmith/Mets$Div$1" = true := by first | (simp [plainName, overriddenIn]; done) | decide +kernel
theorem own_d1i (l : Launch) (Z : State) (a0 : Array Value) (hw : ∀ d ∈ tables_1, d.before a0 Z = true) (a : Addr) (f : Int32) (f0 : Value) (m0 : Value) (h0 : Heap) (n0 : Nat) (Z0 : n0 ≤ h0.size) (g_a : n0 ≤ a) (F0 : Exa Z h0 a "com/example/metsmith/metsmith/Mets$Div$1") (F1 : Fld Z h0 a "com/example/metsmith/metsmith/Mets$Div$1" "val$files" "I" f0) (F2 : Fld Z h0 a "java/util/AbstractList" "modCount" "I" m0) :
    Jvm.Y9.Con l Z (⟨"com/example/metsmith/metsmith/Mets$Div$1", "<init>", "(I)V"⟩ : MethodName) prog_30_method_1_code 2 none ({ frames := 3, cells := 0, slots := 0, locals := 36 } : Room) n0 #[(.ref a), (.int f)] h0 (fun v h => v = none ∧ Keep h0 h [a] ∧ Exa Z h a "com/example/metsmith/metsmith/Mets$Div$1" ∧ Fld Z h a "com/example/metsmith/metsmith/Mets$Div$1" "val$files" "I" (.int f) ∧ Fld Z h a "java/util/AbstractList" "modCount" "I" (.int 0)) := by
  refine Jvm.Y9.Con.intro (plainFor_of_name pn_com_example_metsmith_metsmith_Mets_Div_1) ?_
  intro p e s m below meth c s₁ hx hby hml hret hnm hown hlk hZ P0
  refine Jvm.Y9.Aim.cast (by first | (simp [entryFrame, mkF, argsToLocals, Value.category]; done) | rfl : entryFrame m #[(.ref a), (.int f)] 2 = (mkF m 0 #[.val (.ref a), .val (.int f)] [])) ?_
  have H := P0.here
  refine Jvm.Y9.Aim.of (T' := s₁) (g' := (mkF m 2 #[.val (.ref a), .val (.int f)] [(.int f), (.ref a)])) (fun tgt kt => ?_) ?_
  · refine XS.aloadN H hx rfl (hb hby e1w_0) rfl rfl ?_
    refine XS.iloadN H hx rfl (hb hby e1w_1) rfl ?_
    exact kt
  refine Jvm.Y9.Aim.putF (v := (.int f)) P0 hx hZ hown (host := "") (Or.inl (wI hw 110 rfl)) Via.refl F1 F0 (Or.inr ⟨(wI hw 111 rfl), rfl, hnm⟩) (wI hw 105 rfl) (ty := .int) (by decide) rfl rfl (hb hby e1w_2) g_a ?_
  intro z0 z1 z2 z3
  have z4 := Keep.of_wr z3
  have z5 : Fld Z z1 a "com/example/metsmith/metsmith/Mets$Div$1" "val$files" "I" (.int f) := F1.same z3
  have z6 : Keep h0 z1 [a] := (Keep.refl h0 [a]).trans z4 (allS (Or.inl (List.mem_of_getElem? (i := 0) rfl)) all0)
  have H := z2.here
  refine Jvm.Y9.Aim.of (T' := z0) (g' := (mkF m 6 #[.val (.ref a), .val (.int f)] [(.ref a)])) (fun tgt kt => ?_) ?_
  · refine XS.aloadN H hx rfl (hb hby e1w_5) rfl rfl ?_
    exact kt
  have z7 : Exa Z z1 a "com/example/metsmith/metsmith/Mets$Div$1" := (F0.keep z4)
  have z8 : Fld Z z1 a "java/util/AbstractList" "modCount" "I" m0 := (F2.other z3 (Or.inr (slot_ne (Or.inl (wI hw 114 rfl)) (Or.inr (wI hw 111 rfl)) (by decide) (t := .int) (t' := .int) (by decide) (by decide))))
  refine Jvm.Y9.Aim.callC (argsL := []) (rest := []) z2 hx hZ hml hown rfl (wI hw 112 rfl) (wI hw 52 rfl) (wI hw 56 rfl) (by decide) (Jvm.Y9.Con.back (W := 0) (own_ablD l Z a0 hw a f m0 z1 n0 (lT Z0 (z6.1)) g_a z7 z5 z8) hZ (wI hw 56 rfl) (wI hw 55 rfl) (by decide) (by decide)) rfl pd__28_29V rfl (Nat.le_of_eq rfl) (hb hby e1w_6) (by decide) (by decide) ?_
  intro z9 za zb zc zd
  obtain ⟨rfl, ze, zf, zg, zh⟩ := zd
  have zi : Keep h0 za [a] := z6.trans ze (allS (Or.inl (List.mem_of_getElem? (i := 0) rfl)) all0)
  exact Jvm.Y9.Aim.retV zc hx hlk hret (hb hby e1w_9) (by decide) (by decide) ⟨rfl, zi, zf, zg, zh⟩
theorem e1y_0 : decode prog_30_method_3_code 0 = .ok (.aload_n 0, 1) := by decide +kernel
theorem e1y_1 : decode prog_30_method_3_code 1 = .ok (.getfield 1, 3) := by decide +kernel
theorem e1y_4 : decode prog_30_method_3_code 4 = .ok (.ireturn, 1) := by decide +kernel
theorem own_d1s (l : Launch) (Z : State) (a0 : Array Value) (hw : ∀ d ∈ tables_1, d.before a0 Z = true) (a : Addr) (f : Int32) (h0 : Heap) (n0 : Nat) (Z0 : n0 ≤ h0.size) (F0 : Fld Z h0 a "com/example/metsmith/metsmith/Mets$Div$1" "val$files" "I" (.int f)) :
    Jvm.Y9.Con l Z (⟨"com/example/metsmith/metsmith/Mets$Div$1", "size", "()I"⟩ : MethodName) prog_30_method_3_code 1 (some .int) ({ frames := 0, cells := 0, slots := 0, locals := 0 } : Room) n0 #[(.ref a)] h0 (fun v h => v = some (.int f) ∧ h0 = h) := by
  refine Jvm.Y9.Con.intro (plainFor_of_name pn_com_example_metsmith_metsmith_Mets_Div_1) ?_
  intro p e s m below meth c s₁ hx hby hml hret hnm hown hlk hZ P0
  refine Jvm.Y9.Aim.cast (by first | (simp [entryFrame, mkF, argsToLocals, Value.category]; done) | rfl : entryFrame m #[(.ref a)] 1 = (mkF m 0 #[.val (.ref a)] [])) ?_
  have H := P0.here
  refine Jvm.Y9.Aim.of (T' := s₁) (g' := (mkF m 1 #[.val (.ref a)] [(.ref a)])) (fun tgt kt => ?_) ?_
  · refine XS.aloadN H hx rfl (hb hby e1y_0) rfl rfl ?_
    exact kt
  refine Jvm.Y9.Aim.getF P0 hx hZ hown (host := "") (Or.inl (wI hw 110 rfl)) Via.refl F0 (hb hby e1y_1) ?_
  intro T496 P497
  exact Jvm.Y9.Aim.retI P497 hx hlk hret (hb hby e1y_4) (by decide) (by decide) ⟨rfl, rfl⟩
theorem e1r_0 : decode prog_29_method_2_code 0 = .ok (.new 29, 3) := by decide +kernel
theorem e1r_3 : decode prog_29_method_2_code 3 = .ok (.dup, 1) := by decide +kernel
theorem e1r_4 : decode prog_29_method_2_code 4 = .ok (.iload_n 2, 1) := by decide +kernel
theorem e1r_5 : decode prog_29_method_2_code 5 = .ok (.invokespecial 31, 3) := by decide +kernel
theorem pd__28I_29V : parseMethodDescriptor "(I)V" = some ⟨[.int], none⟩ := by decide +kernel
theorem e1r_8 : decode prog_29_method_2_code 8 = .ok (.astore_n 3, 1) := by decide +kernel
theorem e1r_9 : decode prog_29_method_2_code 9 = .ok (.new 8, 3) := by decide +kernel
theorem e1r_12 : decode prog_29_method_2_code 12 = .ok (.dup, 1) := by decide +kernel
theorem e1r_13 : decode prog_29_method_2_code 13 = .ok (.aconst_null, 1) := by decide +kernel
theorem e1r_14 : decode prog_29_method_2_code 14 = .ok (.aconst_null, 1) := by decide +kernel
theorem e1r_15 : decode prog_29_method_2_code 15 = .ok (.aload_n 0, 1) := by decide +kernel
theorem e1r_16 : decode prog_29_method_2_code 16 = .ok (.aload_n 1, 1) := by decide +kernel
theorem e1r_17 : decode prog_29_method_2_code 17 = .ok (.invokestatic 34, 3) := by decide +kernel
theorem pd__28_29Ljava_2futil_2fList_3b : parseMethodDescriptor "()Ljava/util/List;" = some ⟨[], some (.object "java/util/List")⟩ := by decide +kernel
theorem e1r_20 : decode prog_29_method_2_code 20 = .ok (.aload_n 3, 1) := by decide +kernel
theorem e1r_21 : decode prog_29_method_2_code 21 = .ok (.invokespecial 40, 3) := by decide +kernel
theorem pd__28Ljava_2flang_2fString_3bLjava_2flang_2fString_3bLjava_2futil_2fList_3bLjava_2futil_2fList_3bLjava_2futil_2fList_3bLjava_2futil_2fList_3b_29V : parseMethodDescriptor "(Ljava/lang/String;Ljava/lang/String;Ljava/util/List;Ljava/util/List;Ljava/util/List;Ljava/util/List;)V" = some ⟨[(.object "java/lang/String"), (.object "java/lang/String"), (.object "java/util/List"), (.object "java/util/List"), (.object "java/util/List"), (.object "java/util/List")], none⟩ := by decide +kernel
theorem e1r_24 : decode prog_29_method_2_code 24 = .ok (.areturn, 1) := by decide +kernel
theorem own_flat (l : Launch) (Z : State) (a0 : Array Value) (hw : ∀ d ∈ tables_1, d.before a0 Z = true) (d1 : Addr) (d2 : Addr) (f : Int32) (el : Addr) (ee : Addr) (ke : ClassId) (h0 : Heap) (n0 : Nat) (Z0 : n0 ≤ h0.size) (F0 : Old Z n0 h0) (GE : Ael Z el ee ke) :
    Jvm.Y9.Con l Z (⟨"com/example/metsmith/metsmith/Mets$Div", "flat", "(Ljava/util/List;Ljava/util/List;I)Lcom/example/metsmith/metsmith/Mets$Div;"⟩ : MethodName) prog_29_method_2_code 4 (some (.object "com/example/metsmith/metsmith/Mets$Div")) ({ frames := 4, cells := 2, slots := 8, locals := 50 } : Room) n0 #[(.ref d1), (.ref d2), (.int f)] h0 (fun v h => ∃ o : Addr, ∃ z : Addr, v = some (.ref o) ∧ Keep h0 h [] ∧ h0.size ≤ o ∧ h0.size ≤ z ∧ Exa Z h o "com/example/metsmith/metsmith/Mets$Div" ∧ Fld Z h o "com/example/metsmith/metsmith/Mets$Div" "type" "Ljava/lang/String;" .null ∧ Fld Z h o "com/example/metsmith/metsmith/Mets$Div" "label" "Ljava/lang/String;" .null ∧ Fld Z h o "com/example/metsmith/metsmith/Mets$Div" "dmdIds" "Ljava/util/List;" (.ref d1) ∧ Fld Z h o "com/example/metsmith/metsmith/Mets$Div" "admIds" "Ljava/util/List;" (.ref d2) ∧ Fld Z h o "com/example/metsmith/metsmith/Mets$Div" "fileIds" "Ljava/util/List;" (.ref el) ∧ Fld Z h o "com/example/metsmith/metsmith/Mets$Div" "divs" "Ljava/util/List;" (.ref z) ∧ Exa Z h z "com/example/metsmith/metsmith/Mets$Div$1" ∧ Fld Z h z "com/example/metsmith/metsmith/Mets$Div$1" "val$files" "I" (.int f)) := by
  refine Jvm.Y9.Con.intro (plainFor_of_name pn_com_example_metsmith_metsmith_Mets_Div) ?_
  intro p e s m below meth c s₁ hx hby hml hret hnm hown hlk hZ P0
  refine Jvm.Y9.Aim.cast (by first | (simp [entryFrame, mkF, argsToLocals, Value.category]; done) | rfl : entryFrame m #[(.ref d1), (.ref d2), (.int f)] 4 = (mkF m 0 #[.val (.ref d1), .val (.ref d2), .val (.int f), .unset] [])) ?_
  refine Jvm.Y9.Aim.newO P0 hx hZ hown (wI hw 104 rfl) (wI hw 105 rfl) (wI hw 106 rfl) (hb hby e1r_0) (by decide) (by decide) ?_
  intro z0 z1 z2 z3 z4 z5 z6 z7 z8
  have z9 : Keep h0 z1 [] := (Keep.refl _ _).ext z5
  have za : Keep h0 z1 [] := (Keep.refl h0 []).trans z9 all0
  have zb : Fld Z z1 z2 "com/example/metsmith/metsmith/Mets$Div$1" "val$files" "I" (.int 0) := z7 (Or.inr (wI hw 111 rfl)) (ty := .int) (by decide)
  have zc : Fld Z z1 z2 "java/util/AbstractList" "modCount" "I" (.int 0) := z7 (Or.inl (wI hw 114 rfl)) (ty := .int) (by decide)
  have H := z4.here
  refine Jvm.Y9.Aim.of (T' := z0) (g' := (mkF m 5 #[.val (.ref d1), .val (.ref d2), .val (.int f), .unset] [(.int f), (.ref z2), (.ref z2)])) (fun tgt kt => ?_) ?_
  · refine XS.dup H hx rfl (hb hby e1r_3) rfl rfl ?_
    refine XS.iloadN H hx rfl (hb hby e1r_4) rfl ?_
    exact kt
  refine Jvm.Y9.Aim.callC (argsL := [(.int f)]) (rest := [(.ref z2)]) z4 hx hZ hml hown rfl (wI hw 107 rfl) (wI hw 108 rfl) (wI hw 109 rfl) (by decide) (Jvm.Y9.Con.back (W := 1) (own_d1i l Z a0 hw z2 f (.int 0) (.int 0) z1 n0 (lT Z0 (za.1)) (lT Z0 (Nat.le_of_eq z3.symm)) z6 zb zc) hZ (wI hw 109 rfl) (wI hw 106 rfl) (by decide) (by decide)) rfl pd__28I_29V rfl (Nat.le_of_eq rfl) (hb hby e1r_5) (by decide) (by decide) ?_
  intro zd ze zf zg zh
  obtain ⟨rfl, zi, zj, zk, zl⟩ := zh
  have zm : Keep h0 ze [] := za.trans zi (allS (Or.inr (lT (Nat.le_refl _) (Nat.le_of_eq z3.symm))) all0)
  have H := zg.here
  refine Jvm.Y9.Aim.of (T' := zd) (g' := (mkF m 9 #[.val (.ref d1), .val (.ref d2), .val (.int f), .val (.ref z2)] [])) (fun tgt kt => ?_) ?_
  · refine XS.astoreN H hx rfl (hb hby e1r_8) rfl rfl (l' := #[.val (.ref d1), .val (.ref d2), .val (.int f), .val (.ref z2)]) rfl ?_
    exact kt
  refine Jvm.Y9.Aim.newO zg hx hZ hown (wI hw 115 rfl) (wI hw 116 rfl) (wI hw 102 rfl) (hb hby e1r_9) (by decide) (by decide) ?_
  intro zn zo zp zq zr zs zt zu zv
  have zw : Keep ze zo [] := (Keep.refl _ _).ext zs
  have zx : Keep h0 zo [] := zm.trans zw all0
  have zy : Fld Z zo zp "com/example/metsmith/metsmith/Mets$Div" "type" "Ljava/lang/String;" .null := zu (Or.inr (wI hw 133 rfl)) (ty := (.object "java/lang/String")) (by decide)
  have zz : Fld Z zo zp "com/example/metsmith/metsmith/Mets$Div" "label" "Ljava/lang/String;" .null := zu (Or.inr (wI hw 135 rfl)) (ty := (.object "java/lang/String")) (by decide)
  have z10 : Fld Z zo zp "com/example/metsmith/metsmith/Mets$Div" "dmdIds" "Ljava/util/List;" .null := zu (Or.inr (wI hw 137 rfl)) (ty := (.object "java/util/List")) (by decide)
  have z11 : Fld Z zo zp "com/example/metsmith/metsmith/Mets$Div" "admIds" "Ljava/util/List;" .null := zu (Or.inr (wI hw 139 rfl)) (ty := (.object "java/util/List")) (by decide)
  have z12 : Fld Z zo zp "com/example/metsmith/metsmith/Mets$Div" "fileIds" "Ljava/util/List;" .null := zu (Or.inr (wI hw 141 rfl)) (ty := (.object "java/util/List")) (by decide)
  have z13 : Fld Z zo zp "com/example/metsmith/metsmith/Mets$Div" "divs" "Ljava/util/List;" .null := zu (Or.inr (wI hw 143 rfl)) (ty := (.object "java/util/List")) (by decide)
  have H := zr.here
  refine Jvm.Y9.Aim.of (T' := zn) (g' := (mkF m 17 #[.val (.ref d1), .val (.ref d2), .val (.int f), .val (.ref z2)] [(.ref d2), (.ref d1), .null, .null, (.ref zp), (.ref zp)])) (fun tgt kt => ?_) ?_
  · refine XS.dup H hx rfl (hb hby e1r_12) rfl rfl ?_
    refine XS.aconstNull H hx rfl (hb hby e1r_13) ?_
    refine XS.aconstNull H hx rfl (hb hby e1r_14) ?_
    refine XS.aloadN H hx rfl (hb hby e1r_15) rfl rfl ?_
    refine XS.aloadN H hx rfl (hb hby e1r_16) rfl rfl ?_
    exact kt
  have z14 : Old Z n0 zo := (((F0.keep z9 all0).keep zi (allS (lT Z0 (Nat.le_of_eq z3.symm)) all0)).keep zw all0)
  refine Jvm.Y9.Aim.callS (argsL := []) (rest := [(.ref d2), (.ref d1), .null, .null, (.ref zp), (.ref zp)]) zr hx hZ hml hown (wI hw 117 rfl) (wI hw 118 rfl) (wI hw 119 rfl) (wI hw 120 rfl) (by decide) (Jvm.Y9.Con.back (W := 6) (own_lof l Z a0 hw el ee ke zo n0 (lT Z0 (zx.1)) z14 GE) hZ (wI hw 120 rfl) (wI hw 119 rfl) (by decide) (by decide)) rfl pd__28_29Ljava_2futil_2fList_3b rfl (Nat.le_of_eq rfl) (hb hby e1r_17) (by decide) (by decide) ?_
  intro z15 z16 z17 z18 z19
  obtain ⟨rfl, rfl⟩ := z19
  have H := z18.here
  refine Jvm.Y9.Aim.of (T' := z15) (g' := (mkF m 21 #[.val (.ref d1), .val (.ref d2), .val (.int f), .val (.ref z2)] [(.ref z2), (.ref el), (.ref d2), (.ref d1), .null, .null, (.ref zp), (.ref zp)])) (fun tgt kt => ?_) ?_
  · refine XS.aloadN H hx rfl (hb hby e1r_20) rfl rfl ?_
    exact kt
  refine Jvm.Y9.Aim.callC (argsL := [.null, .null, (.ref d1), (.ref d2), (.ref el), (.ref z2)]) (rest := [(.ref zp)]) z18 hx hZ hml hown rfl (wI hw 123 rfl) (wI hw 124 rfl) (wI hw 125 rfl) (by decide) (Jvm.Y9.Con.back (W := 1) (own_div l Z a0 hw zp d1 d2 el z2 zo n0 (lT Z0 (zx.1)) (lT (lT Z0 (zm.1)) (Nat.le_of_eq zq.symm)) zt zy zz z10 z11 z12 z13) hZ (wI hw 125 rfl) (wI hw 102 rfl) (by decide) (by decide)) rfl pd__28Ljava_2flang_2fString_3bLjava_2flang_2fString_3bLjava_2futil_2fList_3bLjava_2futil_2fList_3bLjava_2futil_2fList_3bLjava_2futil_2fList_3b_29V rfl (Nat.le_of_eq rfl) (hb hby e1r_21) (by decide) (by decide) ?_
  intro z1a z1b z1c z1d z1e
  obtain ⟨rfl, z1f, z1g, z1h, z1i, z1j, z1k, z1l, z1m⟩ := z1e
  have z1n : Keep h0 z1b [] := zx.trans z1f (allS (Or.inr (lT (zm.1) (Nat.le_of_eq zq.symm))) all0)
  have z1o : Exa Z z1b z2 "com/example/metsmith/metsmith/Mets$Div$1" := ((zj.keep zw).keep z1f)
  have z1p : Fld Z z1b z2 "com/example/metsmith/metsmith/Mets$Div$1" "val$files" "I" (.int f) := ((zk.keep zw nin0).keep z1f (ninS (nL (lL (lL z6.lt (zi.1)) (Nat.le_of_eq zq.symm))) nin0))
  exact Jvm.Y9.Aim.retA z1d hx hlk hret rfl rfl (hb hby e1r_24) (by decide) (by decide) ⟨zp, z2, rfl, z1n, (lT (zm.1) (Nat.le_of_eq zq.symm)), (lT (Nat.le_refl _) (Nat.le_of_eq z3.symm)), z1g, z1h, z1i, z1j, z1k, z1l, z1m, z1o, z1p⟩
theorem em_0 : decode jdk_42_method_152_code 0 = .ok (.getstatic 38, 3) := by decide +kernel
theorem em_3 : decode jdk_42_method_152_code 3 = .ok (.ifCond .eq 10, 3) := by decide +kernel
theorem em_6 : decode jdk_42_method_152_code 6 = .ok (.aload_n 0, 1) := by decide +kernel
theorem em_7 : decode jdk_42_method_152_code 7 = .ok (.getfield 15, 3) := by decide +kernel
theorem em_10 : decode jdk_42_method_152_code 10 = .ok (.goto 4, 3) := by decide +kernel
theorem em_14 : decode jdk_42_method_152_code 14 = .ok (.ireturn, 1) := by decide +kernel
theorem own_coder (l : Launch) (Z : State) (a0 : Array Value) (hw : ∀ d ∈ tables_1, d.before a0 Z = true) (y : Addr) (h0 : Heap) (n0 : Nat) (Z0 : n0 ≤ h0.size) (F0 : Fld Z h0 y "java/lang/String" "coder" "B" (.int 0)) (F1 : Old Z n0 h0) (G : Cmp Z) :
    Jvm.Y9.Con l Z (⟨"java/lang/String", "coder", "()B"⟩ : MethodName) jdk_42_method_152_code 1 (some .byte) ({ frames := 0, cells := 0, slots := 0, locals := 0 } : Room) n0 #[(.ref y)] h0 (fun v h => v = some (.int 0) ∧ h0 = h) := by
  refine Jvm.Y9.Con.intro (plainFor_of_name pn_java_lang_String) ?_
  intro p e s m below meth c s₁ hx hby hml hret hnm hown hlk hZ P0
  refine Jvm.Y9.Aim.cast (by first | (simp [entryFrame, mkF, argsToLocals, Value.category]; done) | rfl : entryFrame m #[(.ref y)] 1 = (mkF m 0 #[.val (.ref y)] [])) ?_
  obtain ⟨zc, hzc, Szc⟩ := id G
  refine Jvm.Y9.Aim.getS P0 hx hZ hown (wI hw 5 rfl) Via.refl (Szc.ext F1.2) (hb hby em_0) ?_
  intro T566 P567
  have H := P567.here
  refine Jvm.Y9.Aim.of (T' := T566) (g' := (mkF m 7 #[.val (.ref y)] [(.ref y)])) (fun tgt kt => ?_) ?_
  · refine XS.ifNo H hx rfl (hb hby em_3) rfl ((if0 _ _).trans (feq hzc).1) ?_
    refine XS.aloadN H hx rfl (hb hby em_6) rfl rfl ?_
    exact kt
  refine Jvm.Y9.Aim.getF P567 hx hZ hown (host := "") (Or.inl (wI hw 25 rfl)) Via.refl F0 (hb hby em_7) ?_
  intro T568 P569
  have H := P569.here
  refine Jvm.Y9.Aim.of (T' := T568) (g' := (mkF m 14 #[.val (.ref y)] [(.int 0)])) (fun tgt kt => ?_) ?_
  · refine XS.goto H hx rfl (pc0 := 10) (pc' := 14) rfl (hb hby em_10) (by decide) (by decide) ?_
    exact kt
  exact Jvm.Y9.Aim.retN (t := .byte) P569 hx hlk hret (by simp) (hb hby em_14) (by decide) (by decide) ⟨rfl, rfl⟩
theorem eq_0 : decode jdk_42_method_54_code 0 = .ok (.aload_n 0, 1) := by decide +kernel
theorem eq_1 : decode jdk_42_method_54_code 1 = .ok (.getfield 9, 3) := by decide +kernel
theorem eq_4 : decode jdk_42_method_54_code 4 = .ok (.arraylength, 1) := by decide +kernel
theorem eq_5 : decode jdk_42_method_54_code 5 = .ok (.aload_n 0, 1) := by decide +kernel
theorem eq_6 : decode jdk_42_method_54_code 6 = .ok (.invokevirtual 335, 3) := by decide +kernel
theorem pd__28_29B : parseMethodDescriptor "()B" = some ⟨[], some .byte⟩ := by decide +kernel
theorem eq_9 : decode jdk_42_method_54_code 9 = .ok (.ishr, 1) := by decide +kernel
theorem eq_10 : decode jdk_42_method_54_code 10 = .ok (.ireturn, 1) := by decide +kernel
theorem own_length (l : Launch) (Z : State) (a0 : Array Value) (hw : ∀ d ∈ tables_1, d.before a0 Z = true) (y : Addr) (u : Addr) (ku : ClassId) (ds : List Int32) (h0 : Heap) (n0 : Nat) (Z0 : n0 ≤ h0.size) (F0 : Str Z h0 y u ku ds) (F1 : Old Z n0 h0) (G : Cmp Z) :
    Jvm.Y9.Con l Z (⟨"java/lang/String", "length", "()I"⟩ : MethodName) jdk_42_method_54_code 1 (some .int) ({ frames := 1, cells := 0, slots := 0, locals := 13 } : Room) n0 #[(.ref y)] h0 (fun v h => v = some (.int (Int32.ofNat ds.length)) ∧ h0 = h) := by
  refine Jvm.Y9.Con.intro (plainFor_of_name pn_java_lang_String) ?_
  intro p e s m below meth c s₁ hx hby hml hret hnm hown hlk hZ P0
  refine Jvm.Y9.Aim.cast (by first | (simp [entryFrame, mkF, argsToLocals, Value.category]; done) | rfl : entryFrame m #[(.ref y)] 1 = (mkF m 0 #[.val (.ref y)] [])) ?_
  have H := P0.here
  refine Jvm.Y9.Aim.of (T' := s₁) (g' := (mkF m 1 #[.val (.ref y)] [(.ref y)])) (fun tgt kt => ?_) ?_
  · refine XS.aloadN H hx rfl (hb hby eq_0) rfl rfl ?_
    exact kt
  refine Jvm.Y9.Aim.getF P0 hx hZ hown (host := "") (Or.inl (wI hw 23 rfl)) Via.refl F0.2.1 (hb hby eq_1) ?_
  intro z0 z1
  refine Jvm.Y9.Aim.alen z1 hx hZ F0.2.2.2.1 (hb hby eq_4) ?_
  have H := z1.here
  refine Jvm.Y9.Aim.of (T' := z0) (g' := (mkF m 6 #[.val (.ref y)] [(.ref y), (.int (Int32.ofNat ds.length))])) (fun tgt kt => ?_) ?_
  · refine XS.aloadN H hx rfl (hb hby eq_5) rfl rfl ?_
    exact kt
  refine Jvm.Y9.Aim.callV (argsL := []) (rest := [(.int (Int32.ofNat ds.length))]) (y := (⟨"java/lang/String", "coder", "()B"⟩ : MethodName)) (z := (⟨"java/lang/String", "coder", "()B"⟩ : MethodName)) z1 hx hZ hml hown (wI hw 276 rfl) (wI hw 277 rfl) (notFace_of_selects (args := #[]) (mvT hZ (wI hw 279 rfl))) (wI hw 279 rfl) (wI hw 278 rfl) (by decide) F0.1 (Jvm.Y9.Con.back (W := 1) (own_coder l Z a0 hw y h0 n0 Z0 F0.2.2.1 F1 G) hZ (wI hw 280 rfl) (wI hw 3 rfl) (by decide) (by decide)) rfl pd__28_29B rfl (Nat.le_of_eq rfl) (hb hby eq_6) (by decide) (by decide) ?_
  intro z2 z3 z4 z5 z6
  obtain ⟨rfl, rfl⟩ := z6
  have H := z5.here
  refine Jvm.Y9.Aim.of (T' := z2) (g' := (mkF m 10 #[.val (.ref y)] [(.int ((Int32.ofNat ds.length) >>> ((0 : Int32) &&& 31)))])) (fun tgt kt => ?_) ?_
  · refine XS.ishr H hx rfl (hb hby eq_9) rfl ?_
    exact kt
  rw [show ((Int32.ofNat ds.length) >>> ((0 : Int32) &&& 31)) = (Int32.ofNat ds.length) from own_shr0 _]
  show Jvm.Y9.Aim p e below s _ _ n0 _ z2 (mkF m 10 #[.val (.ref y)] [(.int (Int32.ofNat ds.length))])
  exact Jvm.Y9.Aim.retI z5 hx hlk hret (hb hby eq_10) (by decide) (by decide) ⟨rfl, rfl⟩
theorem e1a_0 : decode jdk_68_method_2_code 0 = .ok (.aload_n 0, 1) := by decide +kernel
theorem e1a_1 : decode jdk_68_method_2_code 1 = .ok (.invokespecial 3, 3) := by decide +kernel
theorem e1a_4 : decode jdk_68_method_2_code 4 = .ok (.getstatic 18, 3) := by decide +kernel
theorem e1a_7 : decode jdk_68_method_2_code 7 = .ok (.ifCond .eq 18, 3) := by decide +kernel
theorem e1a_10 : decode jdk_68_method_2_code 10 = .ok (.aload_n 0, 1) := by decide +kernel
theorem e1a_11 : decode jdk_68_method_2_code 11 = .ok (.iload_n 1, 1) := by decide +kernel
theorem e1a_12 : decode jdk_68_method_2_code 12 = .ok (.newarray .byte, 2) := by decide +kernel
theorem e1a_14 : decode jdk_68_method_2_code 14 = .ok (.putfield 15, 3) := by decide +kernel
theorem e1a_17 : decode jdk_68_method_2_code 17 = .ok (.aload_n 0, 1) := by decide +kernel
theorem e1a_18 : decode jdk_68_method_2_code 18 = .ok (.iconst 0, 1) := by decide +kernel
theorem e1a_19 : decode jdk_68_method_2_code 19 = .ok (.putfield 22, 3) := by decide +kernel
theorem e1a_22 : decode jdk_68_method_2_code 22 = .ok (.goto 16, 3) := by decide +kernel
theorem e1a_38 : decode jdk_68_method_2_code 38 = .ok (.return_, 1) := by decide +kernel
theorem pn_java_lang_AbstractStringBuilder : plainName "java/lang/AbstractStringBuilder" = true := by first | (simp [plainName, overriddenIn]; done) | decide +kernel
theorem own_asb (l : Launch) (Z : State) (a0 : Array Value) (hw : ∀ d ∈ tables_1, d.before a0 Z = true) (x : Addr) (v0 : Value) (c0 : Value) (h0 : Heap) (n0 : Nat) (Z0 : n0 ≤ h0.size) (g_x : n0 ≤ x) (F0 : Exa Z h0 x "java/lang/StringBuilder") (F1 : Fld Z h0 x "java/lang/AbstractStringBuilder" "value" "[B" v0) (F2 : Fld Z h0 x "java/lang/AbstractStringBuilder" "coder" "B" c0) (F3 : Fld Z h0 x "java/lang/AbstractStringBuilder" "count" "I" (.int 0)) (F4 : Old Z n0 h0) (G : Cmp Z) :
    Jvm.Y9.Con l Z (⟨"java/lang/AbstractStringBuilder", "<init>", "(I)V"⟩ : MethodName) jdk_68_method_2_code 2 none ({ frames := 1, cells := 1, slots := 16, locals := 12 } : Room) n0 #[(.ref x), (.int 16)] h0 (fun v h => ∃ t : Addr, ∃ kb : ClassId, v = none ∧ Keep h0 h [x] ∧ h0.size ≤ t ∧ Bld Z h x t kb ([] : List Int32) 16) := by
  refine Jvm.Y9.Con.intro (plainFor_of_name pn_java_lang_AbstractStringBuilder) ?_
  intro p e s m below meth c s₁ hx hby hml hret hnm hown hlk hZ P0
  refine Jvm.Y9.Aim.cast (by first | (simp [entryFrame, mkF, argsToLocals, Value.category]; done) | rfl : entryFrame m #[(.ref x), (.int 16)] 2 = (mkF m 0 #[.val (.ref x), .val (.int 16)] [])) ?_
  obtain ⟨zc, hzc, Szc⟩ := id G
  have H := P0.here
  refine Jvm.Y9.Aim.of (T' := s₁) (g' := (mkF m 1 #[.val (.ref x), .val (.int 16)] [(.ref x)])) (fun tgt kt => ?_) ?_
  · refine XS.aloadN H hx rfl (hb hby e1a_0) rfl rfl ?_
    exact kt
  refine Jvm.Y9.Aim.initO P0 hx hZ hml hown (wI hw 252 rfl) (wI hw 21 rfl) (wI hw 22 rfl) rfl (hb hby e1a_1) (by decide) (Nat.le_of_ble_eq_true rfl) ?_
  intro z0 z1
  refine Jvm.Y9.Aim.getS z1 hx hZ hown (wI hw 253 rfl) Via.refl (Szc.ext F4.2) (hb hby e1a_4) ?_
  intro z2 z3
  have H := z3.here
  refine Jvm.Y9.Aim.of (T' := z2) (g' := (mkF m 12 #[.val (.ref x), .val (.int 16)] [(.int 16), (.ref x)])) (fun tgt kt => ?_) ?_
  · refine XS.ifNo H hx rfl (hb hby e1a_7) rfl ((if0 _ _).trans (feq hzc).1) ?_
    refine XS.aloadN H hx rfl (hb hby e1a_10) rfl rfl ?_
    refine XS.iloadN H hx rfl (hb hby e1a_11) rfl ?_
    exact kt
  refine Jvm.Y9.Aim.newP (z := (16 : Int32)) z3 hx hZ (wI hw 15 rfl) (hb hby e1a_12) (by decide) (cap := 16) (by decide) (by decide) (by decide) (by decide) ?_
  intro z4 z5 z6 z7 z8 z9 za zb
  have zd : Keep h0 z5 [] := (Keep.refl _ _).ext za
  have ze : Keep h0 z5 [x] := (Keep.refl h0 [x]).trans zd all0
  have zf : Arv Z z5 z7 z6 .byte (16 : Int32) [(.int 0), (.int 0), (.int 0), (.int 0), (.int 0), (.int 0), (.int 0), (.int 0), (.int 0), (.int 0), (.int 0), (.int 0), (.int 0), (.int 0), (.int 0), (.int 0)] (.int 0) := zb.pad (pad_rep [] (.int 0) 16)
  have zg : Exa Z z5 x "java/lang/StringBuilder" := (F0.keep zd)
  have zh : Fld Z z5 x "java/lang/AbstractStringBuilder" "value" "[B" v0 := (F1.keep zd nin0)
  refine Jvm.Y9.Aim.putF (v := (.ref z7)) z9 hx hZ hown (host := "") (Or.inl (wI hw 254 rfl)) Via.refl zh zg (Or.inl (wI hw 255 rfl)) (wI hw 241 rfl) (ty := (.array .byte)) (by decide) rfl rfl (hb hby e1a_14) g_x ?_
  intro zi zj zk zl
  have zm := Keep.of_wr zl
  have zn : Fld Z zj x "java/lang/AbstractStringBuilder" "value" "[B" (.ref z7) := zh.same zl
  have zo : Keep h0 zj [x] := ze.trans zm (allS (Or.inl (List.mem_of_getElem? (i := 0) rfl)) all0)
  have H := zk.here
  refine Jvm.Y9.Aim.of (T' := zi) (g' := (mkF m 19 #[.val (.ref x), .val (.int 16)] [(.int 0), (.ref x)])) (fun tgt kt => ?_) ?_
  · refine XS.aloadN H hx rfl (hb hby e1a_17) rfl rfl ?_
    refine XS.iconst H hx rfl (hb hby e1a_18) ?_
    exact kt
  have zp : Exa Z zj x "java/lang/StringBuilder" := (zg.keep zm)
  have zq : Fld Z zj x "java/lang/AbstractStringBuilder" "coder" "B" c0 := ((F2.keep zd nin0).other zl (Or.inr (slot_ne (Or.inl (wI hw 257 rfl)) (Or.inl (wI hw 255 rfl)) (by decide) (t := .byte) (t' := (.array .byte)) (by decide) (by decide))))
  refine Jvm.Y9.Aim.putF (v := (.int 0)) zk hx hZ hown (host := "") (Or.inl (wI hw 256 rfl)) Via.refl zq zp (Or.inl (wI hw 257 rfl)) (wI hw 241 rfl) (ty := .byte) (by decide) rfl rfl (hb hby e1a_19) g_x ?_
  intro zr zs zt zu
  have zv := Keep.of_wr zu
  have zw : Fld Z zs x "java/lang/AbstractStringBuilder" "coder" "B" (.int 0) := zq.same zu
  have zx : Keep h0 zs [x] := zo.trans zv (allS (Or.inl (List.mem_of_getElem? (i := 0) rfl)) all0)
  have H := zt.here
  refine Jvm.Y9.Aim.of (T' := zr) (g' := (mkF m 38 #[.val (.ref x), .val (.int 16)] [])) (fun tgt kt => ?_) ?_
  · refine XS.goto H hx rfl (pc0 := 22) (pc' := 38) rfl (hb hby e1a_22) (by decide) (by decide) ?_
    exact kt
  have zy : Exa Z zs x "java/lang/StringBuilder" := (zp.keep zv)
  have zz : Fld Z zs x "java/lang/AbstractStringBuilder" "value" "[B" (.ref z7) := (zn.other zu (Or.inr (slot_ne (Or.inl (wI hw 255 rfl)) (Or.inl (wI hw 257 rfl)) (by decide) (t := (.array .byte)) (t' := .byte) (by decide) (by decide))))
  have z10 : Fld Z zs x "java/lang/AbstractStringBuilder" "count" "I" (.int 0) := (((F3.keep zd nin0).other zl (Or.inr (slot_ne (Or.inl (wI hw 282 rfl)) (Or.inl (wI hw 255 rfl)) (by decide) (t := .int) (t' := (.array .byte)) (by decide) (by decide)))).other zu (Or.inr (slot_ne (Or.inl (wI hw 282 rfl)) (Or.inl (wI hw 257 rfl)) (by decide) (t := .int) (t' := .byte) (by decide) (by decide))))
  have z11 : Arv Z zs z7 z6 .byte (16 : Int32) [(.int 0), (.int 0), (.int 0), (.int 0), (.int 0), (.int 0), (.int 0), (.int 0), (.int 0), (.int 0), (.int 0), (.int 0), (.int 0), (.int 0), (.int 0), (.int 0)] (.int 0) := ((zf.keep zm (ninS (Ne.symm (nL (lL F0.lt (Nat.le_of_eq z8.symm)))) nin0)).keep zv (ninS (Ne.symm (nL (lL F0.lt (Nat.le_of_eq z8.symm)))) nin0))
  exact Jvm.Y9.Aim.retV zt hx hlk hret (hb hby e1a_38) (by decide) (by decide) ⟨z7, z6, rfl, zx, (lT (Nat.le_refl _) (Nat.le_of_eq z8.symm)), ⟨zy, zz, zw, z10, z11⟩⟩
theorem e15_0 : decode jdk_67_method_1_code 0 = .ok (.aload_n 0, 1) := by decide +kernel
theorem e15_1 : decode jdk_67_method_1_code 1 = .ok (.bipush 16, 2) := by decide +kernel
theorem e15_3 : decode jdk_67_method_1_code 3 = .ok (.invokespecial 1, 3) := by decide +kernel
theorem e15_6 : decode jdk_67_method_1_code 6 = .ok (.return_, 1) := by decide +kernel
theorem pn_java_lang_StringBuilder : plainName "java/lang/StringBuilder" = true := by first | (simp [plainName, overriddenIn]; done) | decide +kernel
theorem own_sbi (l : Launch) (Z : State) (a0 : Array Value) (hw : ∀ d ∈ tables_1, d.before a0 Z = true) (x : Addr) (v0 : Value) (c0 : Value) (h0 : Heap) (n0 : Nat) (Z0 : n0 ≤ h0.size) (g_x : n0 ≤ x) (F0 : Exa Z h0 x "java/lang/StringBuilder") (F1 : Fld Z h0 x "java/lang/AbstractStringBuilder" "value" "[B" v0) (F2 : Fld Z h0 x "java/lang/AbstractStringBuilder" "coder" "B" c0) (F3 : Fld Z h0 x "java/lang/AbstractStringBuilder" "count" "I" (.int 0)) (F4 : Old Z n0 h0) (G : Cmp Z) :
    Jvm.Y9.Con l Z (⟨"java/lang/StringBuilder", "<init>", "()V"⟩ : MethodName) jdk_67_method_1_code 1 none ({ frames := 2, cells := 1, slots := 16, locals := 25 } : Room) n0 #[(.ref x)] h0 (fun v h => ∃ t : Addr, ∃ kb : ClassId, v = none ∧ Keep h0 h [x] ∧ h0.size ≤ t ∧ Bld Z h x t kb ([] : List Int32) 16) := by
  refine Jvm.Y9.Con.intro (plainFor_of_name pn_java_lang_StringBuilder) ?_
  intro p e s m below meth c s₁ hx hby hml hret hnm hown hlk hZ P0
  refine Jvm.Y9.Aim.cast (by first | (simp [entryFrame, mkF, argsToLocals, Value.category]; done) | rfl : entryFrame m #[(.ref x)] 1 = (mkF m 0 #[.val (.ref x)] [])) ?_
  have H := P0.here
  refine Jvm.Y9.Aim.of (T' := s₁) (g' := (mkF m 3 #[.val (.ref x)] [(.int 16), (.ref x)])) (fun tgt kt => ?_) ?_
  · refine XS.aloadN H hx rfl (hb hby e15_0) rfl rfl ?_
    refine XS.bipush H hx rfl (hb hby e15_1) ?_
    exact kt
  refine Jvm.Y9.Aim.callC (argsL := [(.int 16)]) (rest := []) P0 hx hZ hml hown rfl (wI hw 246 rfl) (wI hw 247 rfl) (wI hw 251 rfl) (by decide) (Jvm.Y9.Con.back (W := 0) (own_asb l Z a0 hw x v0 c0 h0 n0 Z0 g_x F0 F1 F2 F3 F4 G) hZ (wI hw 251 rfl) (wI hw 250 rfl) (by decide) (by decide)) rfl pd__28I_29V rfl (Nat.le_of_eq rfl) (hb hby e15_3) (by decide) (by decide) ?_
  intro z0 z1 z2 z3 z4
  obtain ⟨t_624, kb_625, rfl, z5, z6, z7⟩ := z4
  have z8 : Keep h0 z1 [x] := (Keep.refl h0 [x]).trans z5 (allS (Or.inl (List.mem_of_getElem? (i := 0) rfl)) all0)
  exact Jvm.Y9.Aim.retV z3 hx hlk hret (hb hby e15_6) (by decide) (by decide) ⟨t_624, kb_625, rfl, z8, (lT (Nat.le_refl _) z6), z7⟩
theorem ej_0 : decode jdk_42_method_147_code 0 = .ok (.aload_n 0, 1) := by decide +kernel
theorem ej_1 : decode jdk_42_method_147_code 1 = .ok (.invokevirtual 335, 3) := by decide +kernel
theorem ej_4 : decode jdk_42_method_147_code 4 = .ok (.iload_n 3, 1) := by decide +kernel
theorem ej_5 : decode jdk_42_method_147_code 5 = .ok (.if_icmp .ne 23, 3) := by decide +kernel
theorem ej_8 : decode jdk_42_method_147_code 8 = .ok (.aload_n 0, 1) := by decide +kernel
theorem ej_9 : decode jdk_42_method_147_code 9 = .ok (.getfield 9, 3) := by decide +kernel
theorem ej_12 : decode jdk_42_method_147_code 12 = .ok (.iconst 0, 1) := by decide +kernel
theorem ej_13 : decode jdk_42_method_147_code 13 = .ok (.aload_n 1, 1) := by decide +kernel
theorem ej_14 : decode jdk_42_method_147_code 14 = .ok (.iload_n 2, 1) := by decide +kernel
theorem ej_15 : decode jdk_42_method_147_code 15 = .ok (.iload_n 3, 1) := by decide +kernel
theorem ej_16 : decode jdk_42_method_147_code 16 = .ok (.ishl, 1) := by decide +kernel
theorem ej_17 : decode jdk_42_method_147_code 17 = .ok (.aload_n 0, 1) := by decide +kernel
theorem ej_18 : decode jdk_42_method_147_code 18 = .ok (.getfield 9, 3) := by decide +kernel
theorem ej_21 : decode jdk_42_method_147_code 21 = .ok (.arraylength, 1) := by decide +kernel
theorem ej_22 : decode jdk_42_method_147_code 22 = .ok (.invokestatic 212, 3) := by decide +kernel
theorem ej_25 : decode jdk_42_method_147_code 25 = .ok (.goto 18, 3) := by decide +kernel
theorem ej_43 : decode jdk_42_method_147_code 43 = .ok (.return_, 1) := by decide +kernel
theorem own_gB (l : Launch) (Z : State) (a0 : Array Value) (hw : ∀ d ∈ tables_1, d.before a0 Z = true) (t : Addr) (kb : ClassId) (cs : List Int32) (cap : Nat) (y : Addr) (u : Addr) (ku : ClassId) (ds : List Int32) (h0 : Heap) (n0 : Nat) (Z0 : n0 ≤ h0.size) (g_t : n0 ≤ t) (F0 : Arv Z h0 t kb .byte (Int32.ofNat cap) (fill cs cap) (.int 0)) (F1 : Str Z h0 y u ku ds) (F2 : Old Z n0 h0) (hl : cs.length + ds.length ≤ cap) (hc : cap ≤ 16) (nut : u ≠ t) (nyt : y ≠ t) (G : Cmp Z) :
    Jvm.Y9.Con l Z (⟨"java/lang/String", "getBytes", "([BIB)V"⟩ : MethodName) jdk_42_method_147_code 4 none ({ frames := 1, cells := 0, slots := 0, locals := 18 } : Room) n0 #[(.ref y), (.ref t), (.int (Int32.ofNat cs.length)), (.int 0)] h0 (fun v h => v = none ∧ Keep h0 h [t] ∧ Arv Z h t kb .byte (Int32.ofNat cap) (fill (cs ++ ds) cap) (.int 0)) := by
  refine Jvm.Y9.Con.intro (plainFor_of_name pn_java_lang_String) ?_
  intro p e s m below meth c s₁ hx hby hml hret hnm hown hlk hZ P0
  refine Jvm.Y9.Aim.cast (by first | (simp [entryFrame, mkF, argsToLocals, Value.category]; done) | rfl : entryFrame m #[(.ref y), (.ref t), (.int (Int32.ofNat cs.length)), (.int 0)] 4 = (mkF m 0 #[.val (.ref y), .val (.ref t), .val (.int (Int32.ofNat cs.length)), .val (.int 0)] [])) ?_
  have H := P0.here
  refine Jvm.Y9.Aim.of (T' := s₁) (g' := (mkF m 1 #[.val (.ref y), .val (.ref t), .val (.int (Int32.ofNat cs.length)), .val (.int 0)] [(.ref y)])) (fun tgt kt => ?_) ?_
  · refine XS.aloadN H hx rfl (hb hby ej_0) rfl rfl ?_
    exact kt
  refine Jvm.Y9.Aim.callV (argsL := []) (rest := []) (y := (⟨"java/lang/String", "coder", "()B"⟩ : MethodName)) (z := (⟨"java/lang/String", "coder", "()B"⟩ : MethodName)) P0 hx hZ hml hown (wI hw 276 rfl) (wI hw 277 rfl) (notFace_of_selects (args := #[]) (mvT hZ (wI hw 279 rfl))) (wI hw 279 rfl) (wI hw 278 rfl) (by decide) F1.1 (Jvm.Y9.Con.back (W := 0) (own_coder l Z a0 hw y h0 n0 Z0 F1.2.2.1 F2 G) hZ (wI hw 280 rfl) (wI hw 3 rfl) (by decide) (by decide)) rfl pd__28_29B rfl (Nat.le_of_eq rfl) (hb hby ej_1) (by decide) (by decide) ?_
  intro z0 z1 z2 z3 z4
  obtain ⟨rfl, rfl⟩ := z4
  have H := z3.here
  refine Jvm.Y9.Aim.of (T' := z0) (g' := (mkF m 9 #[.val (.ref y), .val (.ref t), .val (.int (Int32.ofNat cs.length)), .val (.int 0)] [(.ref y)])) (fun tgt kt => ?_) ?_
  · refine XS.iloadN H hx rfl (hb hby ej_4) rfl ?_
    refine XS.icmpNo H hx rfl (hb hby ej_5) rfl (teq (by decide)).2 ?_
    refine XS.aloadN H hx rfl (hb hby ej_8) rfl rfl ?_
    exact kt
  refine Jvm.Y9.Aim.getF z3 hx hZ hown (host := "") (Or.inl (wI hw 23 rfl)) Via.refl F1.2.1 (hb hby ej_9) ?_
  intro z5 z6
  have H := z6.here
  refine Jvm.Y9.Aim.of (T' := z5) (g' := (mkF m 17 #[.val (.ref y), .val (.ref t), .val (.int (Int32.ofNat cs.length)), .val (.int 0)] [(.int ((Int32.ofNat cs.length) <<< ((0 : Int32) &&& 31))), (.ref t), (.int 0), (.ref u)])) (fun tgt kt => ?_) ?_
  · refine XS.iconst H hx rfl (hb hby ej_12) ?_
    refine XS.aloadN H hx rfl (hb hby ej_13) rfl rfl ?_
    refine XS.iloadN H hx rfl (hb hby ej_14) rfl ?_
    refine XS.iloadN H hx rfl (hb hby ej_15) rfl ?_
    refine XS.ishl H hx rfl (hb hby ej_16) rfl ?_
    exact kt
  rw [show ((Int32.ofNat cs.length) <<< ((0 : Int32) &&& 31)) = (Int32.ofNat cs.length) from own_shl0 _]
  show Jvm.Y9.Aim p e below s _ _ n0 _ z5 (mkF m 17 #[.val (.ref y), .val (.ref t), .val (.int (Int32.ofNat cs.length)), .val (.int 0)] [(.int (Int32.ofNat cs.length)), (.ref t), (.int 0), (.ref u)])
  have H := z6.here
  refine Jvm.Y9.Aim.of (T' := z5) (g' := (mkF m 18 #[.val (.ref y), .val (.ref t), .val (.int (Int32.ofNat cs.length)), .val (.int 0)] [(.ref y), (.int (Int32.ofNat cs.length)), (.ref t), (.int 0), (.ref u)])) (fun tgt kt => ?_) ?_
  · refine XS.aloadN H hx rfl (hb hby ej_17) rfl rfl ?_
    exact kt
  refine Jvm.Y9.Aim.getF z6 hx hZ hown (host := "") (Or.inl (wI hw 23 rfl)) Via.refl F1.2.1 (hb hby ej_18) ?_
  intro z7 z8
  refine Jvm.Y9.Aim.alen z8 hx hZ F1.2.2.2.1 (hb hby ej_21) ?_
  refine Jvm.Y9.Aim.cpA (rest := []) z8 hx hZ hml hown (wI hw 304 rfl) (wI hw 307 rfl) (wI hw 305 rfl) (wI hw 306 rfl) F1.2.2.2.1 F0 (Or.inl ⟨rfl, rfl⟩) (by decide) (own_clamp (n := cs.length) (by omega)).2.1 (own_clamp (n := ds.length) (by omega)).2.1 (by rw [show (0 : Int32).toNatClampNeg = 0 from by decide]; omega) (by rw [(own_clamp (n := cs.length) (by omega)).1, (own_clamp (n := ds.length) (by omega)).1, (own_clamp (n := cap) (by omega)).1]; exact hl) rfl (by rw [(own_clamp (n := cs.length) (by omega)).1, (own_clamp (n := ds.length) (by omega)).1, fill_length (by omega)]; exact hl) g_t rfl (hb hby ej_22) (by decide) (by decide) ?_
  intro z9 za zb zc zd
  have ze : Arv Z za t kb .byte (Int32.ofNat cap) (fill (cs ++ ds) cap) (.int 0) := Jvm.Y9.arv_eq zd (fill_copy hl (by omega))
  have zf : Keep h0 za [t] := (Keep.refl h0 [t]).trans zc (allS (Or.inl (List.mem_of_getElem? (i := 0) rfl)) all0)
  have H := zb.here
  refine Jvm.Y9.Aim.of (T' := z9) (g' := (mkF m 43 #[.val (.ref y), .val (.ref t), .val (.int (Int32.ofNat cs.length)), .val (.int 0)] [])) (fun tgt kt => ?_) ?_
  · refine XS.goto H hx rfl (pc0 := 25) (pc' := 43) rfl (hb hby ej_25) (by decide) (by decide) ?_
    exact kt
  exact Jvm.Y9.Aim.retV zb hx hlk hret (hb hby ej_43) (by decide) (by decide) ⟨rfl, zf, ze⟩
theorem e1g_0 : decode jdk_68_method_71_code 0 = .ok (.getstatic 18, 3) := by decide +kernel
theorem e1g_3 : decode jdk_68_method_71_code 3 = .ok (.ifCond .eq 18, 3) := by decide +kernel
theorem e1g_6 : decode jdk_68_method_71_code 6 = .ok (.aload_n 0, 1) := by decide +kernel
theorem e1g_7 : decode jdk_68_method_71_code 7 = .ok (.getfield 22, 3) := by decide +kernel
theorem e1g_10 : decode jdk_68_method_71_code 10 = .ok (.aload_n 1, 1) := by decide +kernel
theorem e1g_11 : decode jdk_68_method_71_code 11 = .ok (.invokevirtual 40, 3) := by decide +kernel
theorem e1g_14 : decode jdk_68_method_71_code 14 = .ok (.if_icmp .eq 7, 3) := by decide +kernel
theorem e1g_21 : decode jdk_68_method_71_code 21 = .ok (.return_, 1) := by decide +kernel
theorem own_infl (l : Launch) (Z : State) (a0 : Array Value) (hw : ∀ d ∈ tables_1, d.before a0 Z = true) (x : Addr) (y : Addr) (h0 : Heap) (n0 : Nat) (Z0 : n0 ≤ h0.size) (F0 : Exa Z h0 x "java/lang/StringBuilder") (F1 : Fld Z h0 x "java/lang/AbstractStringBuilder" "coder" "B" (.int 0)) (F2 : Exa Z h0 y "java/lang/String") (F3 : Fld Z h0 y "java/lang/String" "coder" "B" (.int 0)) (F4 : Old Z n0 h0) (G : Cmp Z) :
    Jvm.Y9.Con l Z (⟨"java/lang/AbstractStringBuilder", "inflateIfNeededFor", "(Ljava/lang/String;)V"⟩ : MethodName) jdk_68_method_71_code 2 none ({ frames := 1, cells := 0, slots := 0, locals := 13 } : Room) n0 #[(.ref x), (.ref y)] h0 (fun v h => v = none ∧ h0 = h) := by
  refine Jvm.Y9.Con.intro (plainFor_of_name pn_java_lang_AbstractStringBuilder) ?_
  intro p e s m below meth c s₁ hx hby hml hret hnm hown hlk hZ P0
  refine Jvm.Y9.Aim.cast (by first | (simp [entryFrame, mkF, argsToLocals, Value.category]; done) | rfl : entryFrame m #[(.ref x), (.ref y)] 2 = (mkF m 0 #[.val (.ref x), .val (.ref y)] [])) ?_
  obtain ⟨zc, hzc, Szc⟩ := id G
  refine Jvm.Y9.Aim.getS P0 hx hZ hown (wI hw 253 rfl) Via.refl (Szc.ext F4.2) (hb hby e1g_0) ?_
  intro z0 z1
  have H := z1.here
  refine Jvm.Y9.Aim.of (T' := z0) (g' := (mkF m 7 #[.val (.ref x), .val (.ref y)] [(.ref x)])) (fun tgt kt => ?_) ?_
  · refine XS.ifNo H hx rfl (hb hby e1g_3) rfl ((if0 _ _).trans (feq hzc).1) ?_
    refine XS.aloadN H hx rfl (hb hby e1g_6) rfl rfl ?_
    exact kt
  refine Jvm.Y9.Aim.getF z1 hx hZ hown (host := "") (Or.inl (wI hw 256 rfl)) Via.refl F1 (hb hby e1g_7) ?_
  intro z2 z3
  have H := z3.here
  refine Jvm.Y9.Aim.of (T' := z2) (g' := (mkF m 11 #[.val (.ref x), .val (.ref y)] [(.ref y), (.int 0)])) (fun tgt kt => ?_) ?_
  · refine XS.aloadN H hx rfl (hb hby e1g_10) rfl rfl ?_
    exact kt
  refine Jvm.Y9.Aim.callV (argsL := []) (rest := [(.int 0)]) (y := (⟨"java/lang/String", "coder", "()B"⟩ : MethodName)) (z := (⟨"java/lang/String", "coder", "()B"⟩ : MethodName)) z3 hx hZ hml hown (wI hw 298 rfl) (wI hw 277 rfl) (notFace_of_selects (args := #[]) (mvT hZ (wI hw 279 rfl))) (wI hw 279 rfl) (wI hw 278 rfl) (by decide) F2 (Jvm.Y9.Con.back (W := 1) (own_coder l Z a0 hw y h0 n0 Z0 F3 F4 G) hZ (wI hw 280 rfl) (wI hw 3 rfl) (by decide) (by decide)) rfl pd__28_29B rfl (Nat.le_of_eq rfl) (hb hby e1g_11) (by decide) (by decide) ?_
  intro z4 z5 z6 z7 z8
  obtain ⟨rfl, rfl⟩ := z8
  have H := z7.here
  refine Jvm.Y9.Aim.of (T' := z4) (g' := (mkF m 21 #[.val (.ref x), .val (.ref y)] [])) (fun tgt kt => ?_) ?_
  · refine XS.icmpYes H hx rfl (pc0 := 14) (pc' := 21) rfl (hb hby e1g_14) rfl (teq (by decide)).1 (by decide) (by decide) ?_
    exact kt
  exact Jvm.Y9.Aim.retV z7 hx hlk hret (hb hby e1g_21) (by decide) (by decide) ⟨rfl, rfl⟩
theorem e1i_0 : decode jdk_68_method_9_code 0 = .ok (.aload_n 0, 1) := by decide +kernel
theorem e1i_1 : decode jdk_68_method_9_code 1 = .ok (.getfield 15, 3) := by decide +kernel
theorem e1i_4 : decode jdk_68_method_9_code 4 = .ok (.arraylength, 1) := by decide +kernel
theorem e1i_5 : decode jdk_68_method_9_code 5 = .ok (.aload_n 0, 1) := by decide +kernel
theorem e1i_6 : decode jdk_68_method_9_code 6 = .ok (.getfield 22, 3) := by decide +kernel
theorem e1i_9 : decode jdk_68_method_9_code 9 = .ok (.ishr, 1) := by decide +kernel
theorem e1i_10 : decode jdk_68_method_9_code 10 = .ok (.istore_n 2, 1) := by decide +kernel
theorem e1i_11 : decode jdk_68_method_9_code 11 = .ok (.iload_n 1, 1) := by decide +kernel
theorem e1i_12 : decode jdk_68_method_9_code 12 = .ok (.iload_n 2, 1) := by decide +kernel
theorem e1i_13 : decode jdk_68_method_9_code 13 = .ok (.isub, 1) := by decide +kernel
theorem e1i_14 : decode jdk_68_method_9_code 14 = .ok (.ifCond .le 24, 3) := by decide +kernel
theorem e1i_38 : decode jdk_68_method_9_code 38 = .ok (.return_, 1) := by decide +kernel
theorem own_ens (l : Launch) (Z : State) (a0 : Array Value) (hw : ∀ d ∈ tables_1, d.before a0 Z = true) (x : Addr) (t : Addr) (kb : ClassId) (cs : List Int32) (cap : Nat) (mm : Nat) (h0 : Heap) (n0 : Nat) (Z0 : n0 ≤ h0.size) (F0 : Bld Z h0 x t kb cs cap) (hm : mm ≤ cap) (hc : cap ≤ 16) :
    Jvm.Y9.Con l Z (⟨"java/lang/AbstractStringBuilder", "ensureCapacityInternal", "(I)V"⟩ : MethodName) jdk_68_method_9_code 3 none ({ frames := 0, cells := 0, slots := 0, locals := 0 } : Room) n0 #[(.ref x), (.int (Int32.ofNat mm))] h0 (fun v h => v = none ∧ h0 = h) := by
  refine Jvm.Y9.Con.intro (plainFor_of_name pn_java_lang_AbstractStringBuilder) ?_
  intro p e s m below meth c s₁ hx hby hml hret hnm hown hlk hZ P0
  refine Jvm.Y9.Aim.cast (by first | (simp [entryFrame, mkF, argsToLocals, Value.category]; done) | rfl : entryFrame m #[(.ref x), (.int (Int32.ofNat mm))] 3 = (mkF m 0 #[.val (.ref x), .val (.int (Int32.ofNat mm)), .unset] [])) ?_
  have H := P0.here
  refine Jvm.Y9.Aim.of (T' := s₁) (g' := (mkF m 1 #[.val (.ref x), .val (.int (Int32.ofNat mm)), .unset] [(.ref x)])) (fun tgt kt => ?_) ?_
  · refine XS.aloadN H hx rfl (hb hby e1i_0) rfl rfl ?_
    exact kt
  refine Jvm.Y9.Aim.getF P0 hx hZ hown (host := "") (Or.inl (wI hw 254 rfl)) Via.refl F0.2.1 (hb hby e1i_1) ?_
  intro T659 P660
  refine Jvm.Y9.Aim.alen P660 hx hZ F0.2.2.2.2 (hb hby e1i_4) ?_
  have H := P660.here
  refine Jvm.Y9.Aim.of (T' := T659) (g' := (mkF m 6 #[.val (.ref x), .val (.int (Int32.ofNat mm)), .unset] [(.ref x), (.int (Int32.ofNat cap))])) (fun tgt kt => ?_) ?_
  · refine XS.aloadN H hx rfl (hb hby e1i_5) rfl rfl ?_
    exact kt
  refine Jvm.Y9.Aim.getF P660 hx hZ hown (host := "") (Or.inl (wI hw 256 rfl)) Via.refl F0.2.2.1 (hb hby e1i_6) ?_
  intro T661 P662
  have H := P662.here
  refine Jvm.Y9.Aim.of (T' := T661) (g' := (mkF m 10 #[.val (.ref x), .val (.int (Int32.ofNat mm)), .unset] [(.int ((Int32.ofNat cap) >>> ((0 : Int32) &&& 31)))])) (fun tgt kt => ?_) ?_
  · refine XS.ishr H hx rfl (hb hby e1i_9) rfl ?_
    exact kt
  rw [show ((Int32.ofNat cap) >>> ((0 : Int32) &&& 31)) = (Int32.ofNat cap) from own_shr0 _]
  show Jvm.Y9.Aim p e below s _ _ n0 _ T661 (mkF m 10 #[.val (.ref x), .val (.int (Int32.ofNat mm)), .unset] [(.int (Int32.ofNat cap))])
  have H := P662.here
  refine Jvm.Y9.Aim.of (T' := T661) (g' := (mkF m 38 #[.val (.ref x), .val (.int (Int32.ofNat mm)), .val (.int (Int32.ofNat cap))] [])) (fun tgt kt => ?_) ?_
  · refine XS.istoreN H hx rfl (hb hby e1i_10) rfl (l' := #[.val (.ref x), .val (.int (Int32.ofNat mm)), .val (.int (Int32.ofNat cap))]) rfl ?_
    refine XS.iloadN H hx rfl (hb hby e1i_11) rfl ?_
    refine XS.iloadN H hx rfl (hb hby e1i_12) rfl ?_
    refine XS.isub H hx rfl (hb hby e1i_13) rfl ?_
    refine XS.ifYes H hx rfl (pc0 := 14) (pc' := 38) rfl (hb hby e1i_14) rfl ((if0 _ _).trans (flt (own_fits hm (by omega))).2.2.2) (by decide) (by decide) ?_
    exact kt
  exact Jvm.Y9.Aim.retV P662 hx hlk hret (hb hby e1i_38) (by decide) (by decide) ⟨rfl, rfl⟩
theorem e1h_0 : decode jdk_68_method_73_code 0 = .ok (.aload_n 0, 1) := by decide +kernel
theorem e1h_1 : decode jdk_68_method_73_code 1 = .ok (.aload_n 2, 1) := by decide +kernel
theorem e1h_2 : decode jdk_68_method_73_code 2 = .ok (.invokevirtual 397, 3) := by decide +kernel
theorem pd__28Ljava_2flang_2fString_3b_29V : parseMethodDescriptor "(Ljava/lang/String;)V" = some ⟨[(.object "java/lang/String")], none⟩ := by decide +kernel
theorem e1h_5 : decode jdk_68_method_73_code 5 = .ok (.aload_n 2, 1) := by decide +kernel
theorem e1h_6 : decode jdk_68_method_73_code 6 = .ok (.aload_n 0, 1) := by decide +kernel
theorem e1h_7 : decode jdk_68_method_73_code 7 = .ok (.getfield 15, 3) := by decide +kernel
theorem e1h_10 : decode jdk_68_method_73_code 10 = .ok (.iload_n 1, 1) := by decide +kernel
theorem e1h_11 : decode jdk_68_method_73_code 11 = .ok (.aload_n 0, 1) := by decide +kernel
theorem e1h_12 : decode jdk_68_method_73_code 12 = .ok (.getfield 22, 3) := by decide +kernel
theorem e1h_15 : decode jdk_68_method_73_code 15 = .ok (.invokevirtual 399, 3) := by decide +kernel
theorem pd__28_5bBIB_29V : parseMethodDescriptor "([BIB)V" = some ⟨[(.array .byte), .int, .byte], none⟩ := by decide +kernel
theorem e1h_18 : decode jdk_68_method_73_code 18 = .ok (.return_, 1) := by decide +kernel
theorem own_put (l : Launch) (Z : State) (a0 : Array Value) (hw : ∀ d ∈ tables_1, d.before a0 Z = true) (x : Addr) (t : Addr) (kb : ClassId) (cs : List Int32) (cap : Nat) (y : Addr) (u : Addr) (ku : ClassId) (ds : List Int32) (h0 : Heap) (n0 : Nat) (Z0 : n0 ≤ h0.size) (g_t : n0 ≤ t) (F0 : Bld Z h0 x t kb cs cap) (F1 : Str Z h0 y u ku ds) (F2 : Old Z n0 h0) (hl : cs.length + ds.length ≤ cap) (hc : cap ≤ 16) (nut : u ≠ t) (nux : u ≠ x) (nxt : x ≠ t) (nyt : y ≠ t) (G : Cmp Z) :
    Jvm.Y9.Con l Z (⟨"java/lang/AbstractStringBuilder", "putStringAt", "(ILjava/lang/String;)V"⟩ : MethodName) jdk_68_method_73_code 3 none ({ frames := 2, cells := 0, slots := 0, locals := 33 } : Room) n0 #[(.ref x), (.int (Int32.ofNat cs.length)), (.ref y)] h0 (fun v h => v = none ∧ Keep h0 h [t] ∧ Arv Z h t kb .byte (Int32.ofNat cap) (fill (cs ++ ds) cap) (.int 0)) := by
  refine Jvm.Y9.Con.intro (plainFor_of_name pn_java_lang_AbstractStringBuilder) ?_
  intro p e s m below meth c s₁ hx hby hml hret hnm hown hlk hZ P0
  refine Jvm.Y9.Aim.cast (by first | (simp [entryFrame, mkF, argsToLocals, Value.category]; done) | rfl : entryFrame m #[(.ref x), (.int (Int32.ofNat cs.length)), (.ref y)] 3 = (mkF m 0 #[.val (.ref x), .val (.int (Int32.ofNat cs.length)), .val (.ref y)] [])) ?_
  have H := P0.here
  refine Jvm.Y9.Aim.of (T' := s₁) (g' := (mkF m 2 #[.val (.ref x), .val (.int (Int32.ofNat cs.length)), .val (.ref y)] [(.ref y), (.ref x)])) (fun tgt kt => ?_) ?_
  · refine XS.aloadN H hx rfl (hb hby e1h_0) rfl rfl ?_
    refine XS.aloadN H hx rfl (hb hby e1h_1) rfl rfl ?_
    exact kt
  refine Jvm.Y9.Aim.callV (argsL := [(.ref y)]) (rest := []) (y := (⟨"java/lang/AbstractStringBuilder", "inflateIfNeededFor", "(Ljava/lang/String;)V"⟩ : MethodName)) (z := (⟨"java/lang/AbstractStringBuilder", "inflateIfNeededFor", "(Ljava/lang/String;)V"⟩ : MethodName)) P0 hx hZ hml hown (wI hw 293 rfl) (Jvm.Y9.declares_of (wI hw 294 rfl) (wI hw 297 rfl)) (notFace_of_selects (args := #[]) (mvT hZ (wI hw 296 rfl))) (wI hw 296 rfl) (wI hw 294 rfl) (by decide) F0.1 (Jvm.Y9.Con.back (W := 0) (own_infl l Z a0 hw x y h0 n0 Z0 F0.1 F0.2.2.1 F1.1 F1.2.2.1 F2 G) hZ (wI hw 297 rfl) (wI hw 250 rfl) (by decide) (by decide)) rfl pd__28Ljava_2flang_2fString_3b_29V rfl (Nat.le_of_eq rfl) (hb hby e1h_2) (by decide) (by decide) ?_
  intro z0 z1 z2 z3 z4
  obtain ⟨rfl, rfl⟩ := z4
  have H := z3.here
  refine Jvm.Y9.Aim.of (T' := z0) (g' := (mkF m 7 #[.val (.ref x), .val (.int (Int32.ofNat cs.length)), .val (.ref y)] [(.ref x), (.ref y)])) (fun tgt kt => ?_) ?_
  · refine XS.aloadN H hx rfl (hb hby e1h_5) rfl rfl ?_
    refine XS.aloadN H hx rfl (hb hby e1h_6) rfl rfl ?_
    exact kt
  refine Jvm.Y9.Aim.getF z3 hx hZ hown (host := "") (Or.inl (wI hw 254 rfl)) Via.refl F0.2.1 (hb hby e1h_7) ?_
  intro z5 z6
  have H := z6.here
  refine Jvm.Y9.Aim.of (T' := z5) (g' := (mkF m 12 #[.val (.ref x), .val (.int (Int32.ofNat cs.length)), .val (.ref y)] [(.ref x), (.int (Int32.ofNat cs.length)), (.ref t), (.ref y)])) (fun tgt kt => ?_) ?_
  · refine XS.iloadN H hx rfl (hb hby e1h_10) rfl ?_
    refine XS.aloadN H hx rfl (hb hby e1h_11) rfl rfl ?_
    exact kt
  refine Jvm.Y9.Aim.getF z6 hx hZ hown (host := "") (Or.inl (wI hw 256 rfl)) Via.refl F0.2.2.1 (hb hby e1h_12) ?_
  intro z7 z8
  refine Jvm.Y9.Aim.callV (argsL := [(.ref t), (.int (Int32.ofNat cs.length)), (.int 0)]) (rest := []) (y := (⟨"java/lang/String", "getBytes", "([BIB)V"⟩ : MethodName)) (z := (⟨"java/lang/String", "getBytes", "([BIB)V"⟩ : MethodName)) z8 hx hZ hml hown (wI hw 299 rfl) (wI hw 300 rfl) (notFace_of_selects (args := #[]) (mvT hZ (wI hw 302 rfl))) (wI hw 302 rfl) (wI hw 301 rfl) (by decide) F1.1 (Jvm.Y9.Con.back (W := 0) (own_gB l Z a0 hw t kb cs cap y u ku ds h0 n0 Z0 g_t F0.2.2.2.2 F1 F2 hl hc nut nyt G) hZ (wI hw 303 rfl) (wI hw 3 rfl) (by decide) (by decide)) rfl pd__28_5bBIB_29V rfl (Nat.le_of_eq rfl) (hb hby e1h_15) (by decide) (by decide) ?_
  intro z9 za zb zc zd
  obtain ⟨rfl, ze, zf⟩ := zd
  have zg : Keep h0 za [t] := (Keep.refl h0 [t]).trans ze (allS (Or.inl (List.mem_of_getElem? (i := 0) rfl)) all0)
  exact Jvm.Y9.Aim.retV zc hx hlk hret (hb hby e1h_18) (by decide) (by decide) ⟨rfl, zg, zf⟩
theorem e1b_0 : decode jdk_68_method_22_code 0 = .ok (.aload_n 1, 1) := by decide +kernel
theorem e1b_1 : decode jdk_68_method_22_code 1 = .ok (.ifnonnull 8, 3) := by decide +kernel
theorem e1b_9 : decode jdk_68_method_22_code 9 = .ok (.aload_n 1, 1) := by decide +kernel
theorem e1b_10 : decode jdk_68_method_22_code 10 = .ok (.invokevirtual 32, 3) := by decide +kernel
theorem pd__28_29I : parseMethodDescriptor "()I" = some ⟨[], some .int⟩ := by decide +kernel
theorem e1b_13 : decode jdk_68_method_22_code 13 = .ok (.istore_n 2, 1) := by decide +kernel
theorem e1b_14 : decode jdk_68_method_22_code 14 = .ok (.aload_n 0, 1) := by decide +kernel
theorem e1b_15 : decode jdk_68_method_22_code 15 = .ok (.aload_n 0, 1) := by decide +kernel
theorem e1b_16 : decode jdk_68_method_22_code 16 = .ok (.getfield 79, 3) := by decide +kernel
theorem e1b_19 : decode jdk_68_method_22_code 19 = .ok (.iload_n 2, 1) := by decide +kernel
theorem e1b_20 : decode jdk_68_method_22_code 20 = .ok (.iadd, 1) := by decide +kernel
theorem e1b_21 : decode jdk_68_method_22_code 21 = .ok (.invokevirtual 100, 3) := by decide +kernel
theorem e1b_24 : decode jdk_68_method_22_code 24 = .ok (.aload_n 0, 1) := by decide +kernel
theorem e1b_25 : decode jdk_68_method_22_code 25 = .ok (.aload_n 0, 1) := by decide +kernel
theorem e1b_26 : decode jdk_68_method_22_code 26 = .ok (.getfield 79, 3) := by decide +kernel
theorem e1b_29 : decode jdk_68_method_22_code 29 = .ok (.aload_n 1, 1) := by decide +kernel
theorem e1b_30 : decode jdk_68_method_22_code 30 = .ok (.invokevirtual 208, 3) := by decide +kernel
theorem pd__28ILjava_2flang_2fString_3b_29V : parseMethodDescriptor "(ILjava/lang/String;)V" = some ⟨[.int, (.object "java/lang/String")], none⟩ := by decide +kernel
theorem e1b_33 : decode jdk_68_method_22_code 33 = .ok (.aload_n 0, 1) := by decide +kernel
theorem e1b_34 : decode jdk_68_method_22_code 34 = .ok (.dup, 1) := by decide +kernel
theorem e1b_35 : decode jdk_68_method_22_code 35 = .ok (.getfield 79, 3) := by decide +kernel
theorem e1b_38 : decode jdk_68_method_22_code 38 = .ok (.iload_n 2, 1) := by decide +kernel
theorem e1b_39 : decode jdk_68_method_22_code 39 = .ok (.iadd, 1) := by decide +kernel
theorem e1b_40 : decode jdk_68_method_22_code 40 = .ok (.putfield 79, 3) := by decide +kernel
theorem e1b_43 : decode jdk_68_method_22_code 43 = .ok (.aload_n 0, 1) := by decide +kernel
theorem e1b_44 : decode jdk_68_method_22_code 44 = .ok (.areturn, 1) := by decide +kernel
theorem own_app0 (l : Launch) (Z : State) (a0 : Array Value) (hw : ∀ d ∈ tables_1, d.before a0 Z = true) (x : Addr) (t : Addr) (kb : ClassId) (cs : List Int32) (cap : Nat) (y : Addr) (u : Addr) (ku : ClassId) (ds : List Int32) (h0 : Heap) (n0 : Nat) (Z0 : n0 ≤ h0.size) (g_x : n0 ≤ x) (g_t : n0 ≤ t) (F0 : Bld Z h0 x t kb cs cap) (F1 : Str Z h0 y u ku ds) (F2 : Old Z n0 h0) (hl : cs.length + ds.length ≤ cap) (hc : cap ≤ 16) (nut : u ≠ t) (nux : u ≠ x) (nxt : x ≠ t) (nyt : y ≠ t) (G : Cmp Z) :
    Jvm.Y9.Con l Z (⟨"java/lang/AbstractStringBuilder", "append", "(Ljava/lang/String;)Ljava/lang/AbstractStringBuilder;"⟩ : MethodName) jdk_68_method_22_code 3 (some (.object "java/lang/AbstractStringBuilder")) ({ frames := 3, cells := 0, slots := 0, locals := 47 } : Room) n0 #[(.ref x), (.ref y)] h0 (fun v h => v = some (.ref x) ∧ Keep h0 h [x, t] ∧ Bld Z h x t kb (cs ++ ds) cap) := by
  refine Jvm.Y9.Con.intro (plainFor_of_name pn_java_lang_AbstractStringBuilder) ?_
  intro p e s m below meth c s₁ hx hby hml hret hnm hown hlk hZ P0
  refine Jvm.Y9.Aim.cast (by first | (simp [entryFrame, mkF, argsToLocals, Value.category]; done) | rfl : entryFrame m #[(.ref x), (.ref y)] 3 = (mkF m 0 #[.val (.ref x), .val (.ref y), .unset] [])) ?_
  have H := P0.here
  refine Jvm.Y9.Aim.of (T' := s₁) (g' := (mkF m 10 #[.val (.ref x), .val (.ref y), .unset] [(.ref y)])) (fun tgt kt => ?_) ?_
  · refine XS.aloadN H hx rfl (hb hby e1b_0) rfl rfl ?_
    refine XS.ifnonnullYes H hx rfl (pc0 := 1) (pc' := 9) rfl (hb hby e1b_1) rfl (by decide) (by decide) ?_
    refine XS.aloadN H hx rfl (hb hby e1b_9) rfl rfl ?_
    exact kt
  refine Jvm.Y9.Aim.callV (argsL := []) (rest := []) (y := (⟨"java/lang/String", "length", "()I"⟩ : MethodName)) (z := (⟨"java/lang/String", "length", "()I"⟩ : MethodName)) P0 hx hZ hml hown (wI hw 271 rfl) (wI hw 272 rfl) (notFace_of_selects (args := #[]) (mvT hZ (wI hw 274 rfl))) (wI hw 274 rfl) (wI hw 273 rfl) (by decide) F1.1 (Jvm.Y9.Con.back (W := 0) (own_length l Z a0 hw y u ku ds h0 n0 Z0 F1 F2 G) hZ (wI hw 275 rfl) (wI hw 3 rfl) (by decide) (by decide)) rfl pd__28_29I rfl (Nat.le_of_eq rfl) (hb hby e1b_10) (by decide) (by decide) ?_
  intro z0 z1 z2 z3 z4
  obtain ⟨rfl, rfl⟩ := z4
  have H := z3.here
  refine Jvm.Y9.Aim.of (T' := z0) (g' := (mkF m 16 #[.val (.ref x), .val (.ref y), .val (.int (Int32.ofNat ds.length))] [(.ref x), (.ref x)])) (fun tgt kt => ?_) ?_
  · refine XS.istoreN H hx rfl (hb hby e1b_13) rfl (l' := #[.val (.ref x), .val (.ref y), .val (.int (Int32.ofNat ds.length))]) rfl ?_
    refine XS.aloadN H hx rfl (hb hby e1b_14) rfl rfl ?_
    refine XS.aloadN H hx rfl (hb hby e1b_15) rfl rfl ?_
    exact kt
  refine Jvm.Y9.Aim.getF z3 hx hZ hown (host := "") (Or.inl (wI hw 281 rfl)) Via.refl F0.2.2.2.1 (hb hby e1b_16) ?_
  intro z5 z6
  have H := z6.here
  refine Jvm.Y9.Aim.of (T' := z5) (g' := (mkF m 21 #[.val (.ref x), .val (.ref y), .val (.int (Int32.ofNat ds.length))] [(.int ((Int32.ofNat cs.length) + (Int32.ofNat ds.length))), (.ref x)])) (fun tgt kt => ?_) ?_
  · refine XS.iloadN H hx rfl (hb hby e1b_19) rfl ?_
    refine XS.iadd H hx rfl (hb hby e1b_20) rfl ?_
    exact kt
  rw [show ((Int32.ofNat cs.length) + (Int32.ofNat ds.length)) = (Int32.ofNat (cs.length + ds.length)) from own_add]
  show Jvm.Y9.Aim p e below s _ _ n0 _ z5 (mkF m 21 #[.val (.ref x), .val (.ref y), .val (.int (Int32.ofNat ds.length))] [(.int (Int32.ofNat (cs.length + ds.length))), (.ref x)])
  refine Jvm.Y9.Aim.callV (argsL := [(.int (Int32.ofNat (cs.length + ds.length)))]) (rest := []) (y := (⟨"java/lang/AbstractStringBuilder", "ensureCapacityInternal", "(I)V"⟩ : MethodName)) (z := (⟨"java/lang/AbstractStringBuilder", "ensureCapacityInternal", "(I)V"⟩ : MethodName)) z6 hx hZ hml hown (wI hw 283 rfl) (Jvm.Y9.declares_of (wI hw 284 rfl) (wI hw 287 rfl)) (notFace_of_selects (args := #[]) (mvT hZ (wI hw 286 rfl))) (wI hw 286 rfl) (wI hw 284 rfl) (by decide) F0.1 (Jvm.Y9.Con.back (W := 0) (own_ens l Z a0 hw x t kb cs cap (cs.length + ds.length) h0 n0 Z0 F0 hl hc) hZ (wI hw 287 rfl) (wI hw 250 rfl) (by decide) (by decide)) rfl pd__28I_29V rfl (Nat.le_of_eq rfl) (hb hby e1b_21) (by decide) (by decide) ?_
  intro z7 z8 z9 za zb
  obtain ⟨rfl, rfl⟩ := zb
  have H := za.here
  refine Jvm.Y9.Aim.of (T' := z7) (g' := (mkF m 26 #[.val (.ref x), .val (.ref y), .val (.int (Int32.ofNat ds.length))] [(.ref x), (.ref x)])) (fun tgt kt => ?_) ?_
  · refine XS.aloadN H hx rfl (hb hby e1b_24) rfl rfl ?_
    refine XS.aloadN H hx rfl (hb hby e1b_25) rfl rfl ?_
    exact kt
  refine Jvm.Y9.Aim.getF za hx hZ hown (host := "") (Or.inl (wI hw 281 rfl)) Via.refl F0.2.2.2.1 (hb hby e1b_26) ?_
  intro zc zd
  have H := zd.here
  refine Jvm.Y9.Aim.of (T' := zc) (g' := (mkF m 30 #[.val (.ref x), .val (.ref y), .val (.int (Int32.ofNat ds.length))] [(.ref y), (.int (Int32.ofNat cs.length)), (.ref x)])) (fun tgt kt => ?_) ?_
  · refine XS.aloadN H hx rfl (hb hby e1b_29) rfl rfl ?_
    exact kt
  refine Jvm.Y9.Aim.callV (argsL := [(.int (Int32.ofNat cs.length)), (.ref y)]) (rest := []) (y := (⟨"java/lang/AbstractStringBuilder", "putStringAt", "(ILjava/lang/String;)V"⟩ : MethodName)) (z := (⟨"java/lang/AbstractStringBuilder", "putStringAt", "(ILjava/lang/String;)V"⟩ : MethodName)) zd hx hZ hml hown (wI hw 288 rfl) (Jvm.Y9.declares_of (wI hw 289 rfl) (wI hw 292 rfl)) (notFace_of_selects (args := #[]) (mvT hZ (wI hw 291 rfl))) (wI hw 291 rfl) (wI hw 289 rfl) (by decide) F0.1 (Jvm.Y9.Con.back (W := 0) (own_put l Z a0 hw x t kb cs cap y u ku ds h0 n0 Z0 g_t F0 F1 F2 hl hc nut nux nxt nyt G) hZ (wI hw 292 rfl) (wI hw 250 rfl) (by decide) (by decide)) rfl pd__28ILjava_2flang_2fString_3b_29V rfl (Nat.le_of_eq rfl) (hb hby e1b_30) (by decide) (by decide) ?_
  intro ze zf zg zh zi
  obtain ⟨rfl, zj, zk⟩ := zi
  have zl : Keep h0 zf [x, t] := (Keep.refl h0 [x, t]).trans zj (allS (Or.inl (List.mem_of_getElem? (i := 1) rfl)) all0)
  have H := zh.here
  refine Jvm.Y9.Aim.of (T' := ze) (g' := (mkF m 35 #[.val (.ref x), .val (.ref y), .val (.int (Int32.ofNat ds.length))] [(.ref x), (.ref x)])) (fun tgt kt => ?_) ?_
  · refine XS.aloadN H hx rfl (hb hby e1b_33) rfl rfl ?_
    refine XS.dup H hx rfl (hb hby e1b_34) rfl rfl ?_
    exact kt
  have zm : Fld Z zf x "java/lang/AbstractStringBuilder" "count" "I" (.int (Int32.ofNat cs.length)) := (F0.2.2.2.1.keep zj (ninS nxt nin0))
  refine Jvm.Y9.Aim.getF zh hx hZ hown (host := "") (Or.inl (wI hw 281 rfl)) Via.refl zm (hb hby e1b_35) ?_
  intro zn zo
  have H := zo.here
  refine Jvm.Y9.Aim.of (T' := zn) (g' := (mkF m 40 #[.val (.ref x), .val (.ref y), .val (.int (Int32.ofNat ds.length))] [(.int ((Int32.ofNat cs.length) + (Int32.ofNat ds.length))), (.ref x)])) (fun tgt kt => ?_) ?_
  · refine XS.iloadN H hx rfl (hb hby e1b_38) rfl ?_
    refine XS.iadd H hx rfl (hb hby e1b_39) rfl ?_
    exact kt
  rw [show ((Int32.ofNat cs.length) + (Int32.ofNat ds.length)) = (Int32.ofNat (cs.length + ds.length)) from own_add]
  show Jvm.Y9.Aim p e below s _ _ n0 _ zn (mkF m 40 #[.val (.ref x), .val (.ref y), .val (.int (Int32.ofNat ds.length))] [(.int (Int32.ofNat (cs.length + ds.length))), (.ref x)])
  have zp : Exa Z zf x "java/lang/StringBuilder" := (F0.1.keep zj)
  refine Jvm.Y9.Aim.putF (v := (.int (Int32.ofNat (cs.length + ds.length)))) zo hx hZ hown (host := "") (Or.inl (wI hw 281 rfl)) Via.refl zm zp (Or.inl (wI hw 282 rfl)) (wI hw 241 rfl) (ty := .int) (by decide) rfl rfl (hb hby e1b_40) g_x ?_
  intro zq zr zs zt
  have zu := Keep.of_wr zt
  have zv : Fld Z zr x "java/lang/AbstractStringBuilder" "count" "I" (.int (Int32.ofNat (cs.length + ds.length))) := zm.same zt
  have zw : Keep h0 zr [x, t] := zl.trans zu (allS (Or.inl (List.mem_of_getElem? (i := 0) rfl)) all0)
  have H := zs.here
  refine Jvm.Y9.Aim.of (T' := zq) (g' := (mkF m 44 #[.val (.ref x), .val (.ref y), .val (.int (Int32.ofNat ds.length))] [(.ref x)])) (fun tgt kt => ?_) ?_
  · refine XS.aloadN H hx rfl (hb hby e1b_43) rfl rfl ?_
    exact kt
  have zx : Exa Z zr x "java/lang/StringBuilder" := (zp.keep zu)
  have zy : Fld Z zr x "java/lang/AbstractStringBuilder" "value" "[B" (.ref t) := ((F0.2.1.keep zj (ninS nxt nin0)).other zt (Or.inr (slot_ne (Or.inl (wI hw 255 rfl)) (Or.inl (wI hw 282 rfl)) (by decide) (t := (.array .byte)) (t' := .int) (by decide) (by decide))))
  have zz : Fld Z zr x "java/lang/AbstractStringBuilder" "coder" "B" (.int 0) := ((F0.2.2.1.keep zj (ninS nxt nin0)).other zt (Or.inr (slot_ne (Or.inl (wI hw 257 rfl)) (Or.inl (wI hw 282 rfl)) (by decide) (t := .byte) (t' := .int) (by decide) (by decide))))
  have z10 : Arv Z zr t kb .byte (Int32.ofNat cap) (fill (cs ++ ds) cap) (.int 0) := (zk.keep zu (ninS (Ne.symm nxt) nin0))
  exact Jvm.Y9.Aim.retA zs hx hlk hret rfl rfl (hb hby e1b_44) (by decide) (by decide) ⟨rfl, zw, ⟨zx, zy, zz, (by rw [List.length_append]; exact zv), z10⟩⟩
theorem e18_0 : decode jdk_67_method_7_code 0 = .ok (.aload_n 0, 1) := by decide +kernel
theorem e18_1 : decode jdk_67_method_7_code 1 = .ok (.aload_n 1, 1) := by decide +kernel
theorem e18_2 : decode jdk_67_method_7_code 2 = .ok (.invokespecial 29, 3) := by decide +kernel
theorem pd__28Ljava_2flang_2fString_3b_29Ljava_2flang_2fAbstractStringBuilder_3b : parseMethodDescriptor "(Ljava/lang/String;)Ljava/lang/AbstractStringBuilder;" = some ⟨[(.object "java/lang/String")], some (.object "java/lang/AbstractStringBuilder")⟩ := by decide +kernel
theorem e18_5 : decode jdk_67_method_7_code 5 = .ok (.pop, 1) := by decide +kernel
theorem e18_6 : decode jdk_67_method_7_code 6 = .ok (.aload_n 0, 1) := by decide +kernel
theorem e18_7 : decode jdk_67_method_7_code 7 = .ok (.areturn, 1) := by decide +kernel
theorem own_app (l : Launch) (Z : State) (a0 : Array Value) (hw : ∀ d ∈ tables_1, d.before a0 Z = true) (x : Addr) (t : Addr) (kb : ClassId) (cs : List Int32) (cap : Nat) (y : Addr) (u : Addr) (ku : ClassId) (ds : List Int32) (h0 : Heap) (n0 : Nat) (Z0 : n0 ≤ h0.size) (g_x : n0 ≤ x) (g_t : n0 ≤ t) (F0 : Bld Z h0 x t kb cs cap) (F1 : Str Z h0 y u ku ds) (F2 : Old Z n0 h0) (hl : cs.length + ds.length ≤ cap) (hc : cap ≤ 16) (nut : u ≠ t) (nux : u ≠ x) (nxt : x ≠ t) (nyt : y ≠ t) (G : Cmp Z) :
    Jvm.Y9.Con l Z (⟨"java/lang/StringBuilder", "append", "(Ljava/lang/String;)Ljava/lang/StringBuilder;"⟩ : MethodName) jdk_67_method_7_code 2 (some (.object "java/lang/StringBuilder")) ({ frames := 4, cells := 0, slots := 0, locals := 61 } : Room) n0 #[(.ref x), (.ref y)] h0 (fun v h => v = some (.ref x) ∧ Keep h0 h [x, t] ∧ Bld Z h x t kb (cs ++ ds) cap) := by
  refine Jvm.Y9.Con.intro (plainFor_of_name pn_java_lang_StringBuilder) ?_
  intro p e s m below meth c s₁ hx hby hml hret hnm hown hlk hZ P0
  refine Jvm.Y9.Aim.cast (by first | (simp [entryFrame, mkF, argsToLocals, Value.category]; done) | rfl : entryFrame m #[(.ref x), (.ref y)] 2 = (mkF m 0 #[.val (.ref x), .val (.ref y)] [])) ?_
  have H := P0.here
  refine Jvm.Y9.Aim.of (T' := s₁) (g' := (mkF m 2 #[.val (.ref x), .val (.ref y)] [(.ref y), (.ref x)])) (fun tgt kt => ?_) ?_
  · refine XS.aloadN H hx rfl (hb hby e18_0) rfl rfl ?_
    refine XS.aloadN H hx rfl (hb hby e18_1) rfl rfl ?_
    exact kt
  refine Jvm.Y9.Aim.callU (argsL := [(.ref y)]) (rest := []) (y := (⟨"java/lang/AbstractStringBuilder", "append", "(Ljava/lang/String;)Ljava/lang/AbstractStringBuilder;"⟩ : MethodName)) P0 hx hZ hml hown (wI hw 266 rfl) (Jvm.Y9.same_of (by decide) (wI hw 267 rfl) (Jvm.Y9.nf_sel (y := (⟨"java/lang/AbstractStringBuilder", "append", "(Ljava/lang/String;)Ljava/lang/AbstractStringBuilder;"⟩ : MethodName)) (y2 := (⟨"java/lang/AbstractStringBuilder", "ensureCapacityInternal", "(I)V"⟩ : MethodName)) rfl (wI hw 286 rfl))) (wI hw 267 rfl) (wI hw 268 rfl) (by decide) (wI hw 270 rfl) (Ins.self F0.1) (Jvm.Y9.Con.back (W := 0) (own_app0 l Z a0 hw x t kb cs cap y u ku ds h0 n0 Z0 g_x g_t F0 F1 F2 hl hc nut nux nxt nyt G) hZ (wI hw 270 rfl) (wI hw 250 rfl) (by decide) (by decide)) rfl pd__28Ljava_2flang_2fString_3b_29Ljava_2flang_2fAbstractStringBuilder_3b rfl (Nat.le_of_eq rfl) (hb hby e18_2) (by decide) (by decide) ?_
  intro z0 z1 z2 z3 z4
  obtain ⟨rfl, z5, z6⟩ := z4
  have z7 : Keep h0 z1 [x, t] := (Keep.refl h0 [x, t]).trans z5 (allS (Or.inl (List.mem_of_getElem? (i := 0) rfl)) (allS (Or.inl (List.mem_of_getElem? (i := 1) rfl)) all0))
  have H := z3.here
  refine Jvm.Y9.Aim.of (T' := z0) (g' := (mkF m 7 #[.val (.ref x), .val (.ref y)] [(.ref x)])) (fun tgt kt => ?_) ?_
  · refine XS.pop H hx rfl (hb hby e18_5) rfl rfl ?_
    refine XS.aloadN H hx rfl (hb hby e18_6) rfl rfl ?_
    exact kt
  exact Jvm.Y9.Aim.retA z3 hx hlk hret rfl rfl (hb hby e18_7) (by decide) (by decide) ⟨rfl, z7, z6⟩
theorem e1f_0 : decode jdk_68_method_68_code 0 = .ok (.getstatic 18, 3) := by decide +kernel
theorem e1f_3 : decode jdk_68_method_68_code 3 = .ok (.ifCond .eq 14, 3) := by decide +kernel
theorem e1f_6 : decode jdk_68_method_68_code 6 = .ok (.aload_n 0, 1) := by decide +kernel
theorem e1f_7 : decode jdk_68_method_68_code 7 = .ok (.getfield 22, 3) := by decide +kernel
theorem e1f_10 : decode jdk_68_method_68_code 10 = .ok (.ifCond .ne 7, 3) := by decide +kernel
theorem e1f_13 : decode jdk_68_method_68_code 13 = .ok (.iconst 1, 1) := by decide +kernel
theorem e1f_14 : decode jdk_68_method_68_code 14 = .ok (.goto 4, 3) := by decide +kernel
theorem e1f_18 : decode jdk_68_method_68_code 18 = .ok (.ireturn, 1) := by decide +kernel
theorem own_isL (l : Launch) (Z : State) (a0 : Array Value) (hw : ∀ d ∈ tables_1, d.before a0 Z = true) (x : Addr) (t : Addr) (kb : ClassId) (cs : List Int32) (cap : Nat) (h0 : Heap) (n0 : Nat) (Z0 : n0 ≤ h0.size) (F0 : Bld Z h0 x t kb cs cap) (F1 : Old Z n0 h0) (G : Cmp Z) :
    Jvm.Y9.Con l Z (⟨"java/lang/AbstractStringBuilder", "isLatin1", "()Z"⟩ : MethodName) jdk_68_method_68_code 1 (some .boolean) ({ frames := 0, cells := 0, slots := 0, locals := 0 } : Room) n0 #[(.ref x)] h0 (fun v h => v = some (.int 1) ∧ h0 = h) := by
  refine Jvm.Y9.Con.intro (plainFor_of_name pn_java_lang_AbstractStringBuilder) ?_
  intro p e s m below meth c s₁ hx hby hml hret hnm hown hlk hZ P0
  refine Jvm.Y9.Aim.cast (by first | (simp [entryFrame, mkF, argsToLocals, Value.category]; done) | rfl : entryFrame m #[(.ref x)] 1 = (mkF m 0 #[.val (.ref x)] [])) ?_
  obtain ⟨zc, hzc, Szc⟩ := id G
  refine Jvm.Y9.Aim.getS P0 hx hZ hown (wI hw 253 rfl) Via.refl (Szc.ext F1.2) (hb hby e1f_0) ?_
  intro T737 P738
  have H := P738.here
  refine Jvm.Y9.Aim.of (T' := T737) (g' := (mkF m 7 #[.val (.ref x)] [(.ref x)])) (fun tgt kt => ?_) ?_
  · refine XS.ifNo H hx rfl (hb hby e1f_3) rfl ((if0 _ _).trans (feq hzc).1) ?_
    refine XS.aloadN H hx rfl (hb hby e1f_6) rfl rfl ?_
    exact kt
  refine Jvm.Y9.Aim.getF P738 hx hZ hown (host := "") (Or.inl (wI hw 256 rfl)) Via.refl F0.2.2.1 (hb hby e1f_7) ?_
  intro T739 P740
  have H := P740.here
  refine Jvm.Y9.Aim.of (T' := T739) (g' := (mkF m 18 #[.val (.ref x)] [(.int 1)])) (fun tgt kt => ?_) ?_
  · refine XS.ifNo H hx rfl (hb hby e1f_10) rfl ((if0 _ _).trans (teq (by decide)).2) ?_
    refine XS.iconst H hx rfl (hb hby e1f_13) ?_
    refine XS.goto H hx rfl (pc0 := 14) (pc' := 18) rfl (hb hby e1f_14) (by decide) (by decide) ?_
    exact kt
  exact Jvm.Y9.Aim.retN (t := .boolean) P740 hx hlk hret (by simp) (hb hby e1f_18) (by decide) (by decide) ⟨rfl, rfl⟩
theorem e1c_0 : decode jdk_68_method_32_code 0 = .ok (.aload_n 0, 1) := by decide +kernel
theorem e1c_1 : decode jdk_68_method_32_code 1 = .ok (.getfield 79, 3) := by decide +kernel
theorem e1c_4 : decode jdk_68_method_32_code 4 = .ok (.istore_n 2, 1) := by decide +kernel
theorem e1c_5 : decode jdk_68_method_32_code 5 = .ok (.iload_n 2, 1) := by decide +kernel
theorem e1c_6 : decode jdk_68_method_32_code 6 = .ok (.iload_n 1, 1) := by decide +kernel
theorem e1c_7 : decode jdk_68_method_32_code 7 = .ok (.invokestatic 245, 3) := by decide +kernel
theorem pd__28I_29I : parseMethodDescriptor "(I)I" = some ⟨[.int], some .int⟩ := by decide +kernel
theorem e1c_10 : decode jdk_68_method_32_code 10 = .ok (.iadd, 1) := by decide +kernel
theorem e1c_11 : decode jdk_68_method_32_code 11 = .ok (.istore_n 3, 1) := by decide +kernel
theorem e1c_12 : decode jdk_68_method_32_code 12 = .ok (.aload_n 0, 1) := by decide +kernel
theorem e1c_13 : decode jdk_68_method_32_code 13 = .ok (.iload_n 3, 1) := by decide +kernel
theorem e1c_14 : decode jdk_68_method_32_code 14 = .ok (.invokevirtual 100, 3) := by decide +kernel
theorem e1c_17 : decode jdk_68_method_32_code 17 = .ok (.aload_n 0, 1) := by decide +kernel
theorem e1c_18 : decode jdk_68_method_32_code 18 = .ok (.invokevirtual 83, 3) := by decide +kernel
theorem e1c_21 : decode jdk_68_method_32_code 21 = .ok (.ifCond .eq 16, 3) := by decide +kernel
theorem e1c_24 : decode jdk_68_method_32_code 24 = .ok (.iload_n 1, 1) := by decide +kernel
theorem e1c_25 : decode jdk_68_method_32_code 25 = .ok (.iload_n 3, 1) := by decide +kernel
theorem e1c_26 : decode jdk_68_method_32_code 26 = .ok (.aload_n 0, 1) := by decide +kernel
theorem e1c_27 : decode jdk_68_method_32_code 27 = .ok (.getfield 15, 3) := by decide +kernel
theorem e1c_30 : decode jdk_68_method_32_code 30 = .ok (.invokestatic 248, 3) := by decide +kernel
theorem pd__28II_5bB_29I : parseMethodDescriptor "(II[B)I" = some ⟨[.int, .int, (.array .byte)], some .int⟩ := by decide +kernel
theorem e1c_33 : decode jdk_68_method_32_code 33 = .ok (.pop, 1) := by decide +kernel
theorem e1c_34 : decode jdk_68_method_32_code 34 = .ok (.goto 14, 3) := by decide +kernel
theorem e1c_48 : decode jdk_68_method_32_code 48 = .ok (.aload_n 0, 1) := by decide +kernel
theorem e1c_49 : decode jdk_68_method_32_code 49 = .ok (.iload_n 3, 1) := by decide +kernel
theorem e1c_50 : decode jdk_68_method_32_code 50 = .ok (.putfield 79, 3) := by decide +kernel
theorem e1c_53 : decode jdk_68_method_32_code 53 = .ok (.aload_n 0, 1) := by decide +kernel
theorem e1c_54 : decode jdk_68_method_32_code 54 = .ok (.areturn, 1) := by decide +kernel
theorem own_appI0 (l : Launch) (Z : State) (a0 : Array Value) (hw : ∀ d ∈ tables_1, d.before a0 Z = true) (x : Addr) (t : Addr) (kb : ClassId) (cs : List Int32) (cap : Nat) (i : Int32) (h0 : Heap) (n0 : Nat) (Z0 : n0 ≤ h0.size) (g_x : n0 ≤ x) (g_t : n0 ≤ t) (F0 : Bld Z h0 x t kb cs cap) (F1 : Old Z n0 h0) (hl : cs.length + (dec i).length ≤ cap) (hc : cap ≤ 16) (nxt : x ≠ t) (G : Cmp Z) (GD : Dig Z) :
    Jvm.Y9.Con l Z (⟨"java/lang/AbstractStringBuilder", "append", "(I)Ljava/lang/AbstractStringBuilder;"⟩ : MethodName) jdk_68_method_32_code 4 (some (.object "java/lang/AbstractStringBuilder")) ({ frames := 2, cells := 0, slots := 0, locals := 78 } : Room) n0 #[(.ref x), (.int i)] h0 (fun v h => v = some (.ref x) ∧ Keep h0 h [x, t] ∧ Bld Z h x t kb (cs ++ (dec i)) cap) := by
  refine Jvm.Y9.Con.intro (plainFor_of_name pn_java_lang_AbstractStringBuilder) ?_
  intro p e s m below meth c s₁ hx hby hml hret hnm hown hlk hZ P0
  refine Jvm.Y9.Aim.cast (by first | (simp [entryFrame, mkF, argsToLocals, Value.category]; done) | rfl : entryFrame m #[(.ref x), (.int i)] 4 = (mkF m 0 #[.val (.ref x), .val (.int i), .unset, .unset] [])) ?_
  have H := P0.here
  refine Jvm.Y9.Aim.of (T' := s₁) (g' := (mkF m 1 #[.val (.ref x), .val (.int i), .unset, .unset] [(.ref x)])) (fun tgt kt => ?_) ?_
  · refine XS.aloadN H hx rfl (hb hby e1c_0) rfl rfl ?_
    exact kt
  refine Jvm.Y9.Aim.getF P0 hx hZ hown (host := "") (Or.inl (wI hw 281 rfl)) Via.refl F0.2.2.2.1 (hb hby e1c_1) ?_
  intro z0 z1
  have H := z1.here
  refine Jvm.Y9.Aim.of (T' := z0) (g' := (mkF m 7 #[.val (.ref x), .val (.int i), .val (.int (Int32.ofNat cs.length)), .unset] [(.int i), (.int (Int32.ofNat cs.length))])) (fun tgt kt => ?_) ?_
  · refine XS.istoreN H hx rfl (hb hby e1c_4) rfl (l' := #[.val (.ref x), .val (.int i), .val (.int (Int32.ofNat cs.length)), .unset]) rfl ?_
    refine XS.iloadN H hx rfl (hb hby e1c_5) rfl ?_
    refine XS.iloadN H hx rfl (hb hby e1c_6) rfl ?_
    exact kt
  refine Jvm.Y9.Aim.callS (argsL := [(.int i)]) (rest := [(.int (Int32.ofNat cs.length))]) z1 hx hZ hml hown (wI hw 317 rfl) (wI hw 318 rfl) (wI hw 319 rfl) (wI hw 320 rfl) (by decide) (own_ssz (W := 1) hZ (by decide) (by decide) hw i h0 n0 Z0) rfl pd__28I_29I rfl (Nat.le_of_eq rfl) (hb hby e1c_7) (by decide) (by decide) ?_
  intro z2 z3 z4 z5 z6
  obtain ⟨rfl, rfl⟩ := z6
  have H := z5.here
  refine Jvm.Y9.Aim.of (T' := z2) (g' := (mkF m 11 #[.val (.ref x), .val (.int i), .val (.int (Int32.ofNat cs.length)), .unset] [(.int ((Int32.ofNat cs.length) + (Int32.ofNat (dec i).length)))])) (fun tgt kt => ?_) ?_
  · refine XS.iadd H hx rfl (hb hby e1c_10) rfl ?_
    exact kt
  rw [show ((Int32.ofNat cs.length) + (Int32.ofNat (dec i).length)) = (Int32.ofNat (cs.length + (dec i).length)) from own_add]
  show Jvm.Y9.Aim p e below s _ _ n0 _ z2 (mkF m 11 #[.val (.ref x), .val (.int i), .val (.int (Int32.ofNat cs.length)), .unset] [(.int (Int32.ofNat (cs.length + (dec i).length)))])
  have H := z5.here
  refine Jvm.Y9.Aim.of (T' := z2) (g' := (mkF m 14 #[.val (.ref x), .val (.int i), .val (.int (Int32.ofNat cs.length)), .val (.int (Int32.ofNat (cs.length + (dec i).length)))] [(.int (Int32.ofNat (cs.length + (dec i).length))), (.ref x)])) (fun tgt kt => ?_) ?_
  · refine XS.istoreN H hx rfl (hb hby e1c_11) rfl (l' := #[.val (.ref x), .val (.int i), .val (.int (Int32.ofNat cs.length)), .val (.int (Int32.ofNat (cs.length + (dec i).length)))]) rfl ?_
    refine XS.aloadN H hx rfl (hb hby e1c_12) rfl rfl ?_
    refine XS.iloadN H hx rfl (hb hby e1c_13) rfl ?_
    exact kt
  refine Jvm.Y9.Aim.callV (argsL := [(.int (Int32.ofNat (cs.length + (dec i).length)))]) (rest := []) (y := (⟨"java/lang/AbstractStringBuilder", "ensureCapacityInternal", "(I)V"⟩ : MethodName)) (z := (⟨"java/lang/AbstractStringBuilder", "ensureCapacityInternal", "(I)V"⟩ : MethodName)) z5 hx hZ hml hown (wI hw 283 rfl) (Jvm.Y9.declares_of (wI hw 284 rfl) (wI hw 287 rfl)) (notFace_of_selects (args := #[]) (mvT hZ (wI hw 286 rfl))) (wI hw 286 rfl) (wI hw 284 rfl) (by decide) F0.1 (Jvm.Y9.Con.back (W := 0) (own_ens l Z a0 hw x t kb cs cap (cs.length + (dec i).length) h0 n0 Z0 F0 hl hc) hZ (wI hw 287 rfl) (wI hw 250 rfl) (by decide) (by decide)) rfl pd__28I_29V rfl (Nat.le_of_eq rfl) (hb hby e1c_14) (by decide) (by decide) ?_
  intro z7 z8 z9 za zb
  obtain ⟨rfl, rfl⟩ := zb
  have H := za.here
  refine Jvm.Y9.Aim.of (T' := z7) (g' := (mkF m 18 #[.val (.ref x), .val (.int i), .val (.int (Int32.ofNat cs.length)), .val (.int (Int32.ofNat (cs.length + (dec i).length)))] [(.ref x)])) (fun tgt kt => ?_) ?_
  · refine XS.aloadN H hx rfl (hb hby e1c_17) rfl rfl ?_
    exact kt
  refine Jvm.Y9.Aim.callV (argsL := []) (rest := []) (y := (⟨"java/lang/AbstractStringBuilder", "isLatin1", "()Z"⟩ : MethodName)) (z := (⟨"java/lang/AbstractStringBuilder", "isLatin1", "()Z"⟩ : MethodName)) za hx hZ hml hown (wI hw 321 rfl) (wI hw 322 rfl) (notFace_of_selects (args := #[]) (mvT hZ (wI hw 324 rfl))) (wI hw 324 rfl) (wI hw 323 rfl) (by decide) F0.1 (Jvm.Y9.Con.back (W := 0) (own_isL l Z a0 hw x t kb cs cap h0 n0 Z0 F0 F1 G) hZ (wI hw 325 rfl) (wI hw 250 rfl) (by decide) (by decide)) rfl pd__28_29Z rfl (Nat.le_of_eq rfl) (hb hby e1c_18) (by decide) (by decide) ?_
  intro zc zd ze zf zg
  obtain ⟨rfl, rfl⟩ := zg
  have H := zf.here
  refine Jvm.Y9.Aim.of (T' := zc) (g' := (mkF m 27 #[.val (.ref x), .val (.int i), .val (.int (Int32.ofNat cs.length)), .val (.int (Int32.ofNat (cs.length + (dec i).length)))] [(.ref x), (.int (Int32.ofNat (cs.length + (dec i).length))), (.int i)])) (fun tgt kt => ?_) ?_
  · refine XS.ifNo H hx rfl (hb hby e1c_21) rfl ((if0 _ _).trans (feq (by decide)).1) ?_
    refine XS.iloadN H hx rfl (hb hby e1c_24) rfl ?_
    refine XS.iloadN H hx rfl (hb hby e1c_25) rfl ?_
    refine XS.aloadN H hx rfl (hb hby e1c_26) rfl rfl ?_
    exact kt
  refine Jvm.Y9.Aim.getF zf hx hZ hown (host := "") (Or.inl (wI hw 254 rfl)) Via.refl F0.2.1 (hb hby e1c_27) ?_
  intro zh zi
  refine Jvm.Y9.Aim.callS (argsL := [(.int i), (.int (Int32.ofNat (cs.length + (dec i).length))), (.ref t)]) (rest := []) zi hx hZ hml hown (wI hw 326 rfl) (wI hw 327 rfl) (wI hw 319 rfl) (wI hw 328 rfl) (by decide) (own_gch (W := 0) hZ (by decide) (by decide) hw i t kb cs cap h0 n0 Z0 g_t F0.2.2.2.2 F1 hl (by omega) GD) rfl pd__28II_5bB_29I rfl (Nat.le_of_eq rfl) (hb hby e1c_30) (by decide) (by decide) ?_
  intro zj zk zl zm zn
  obtain ⟨z_773, rfl, zo, zp⟩ := zn
  have zq : Keep h0 zk [x, t] := (Keep.refl h0 [x, t]).trans zo (allS (Or.inl (List.mem_of_getElem? (i := 1) rfl)) all0)
  have H := zm.here
  refine Jvm.Y9.Aim.of (T' := zj) (g' := (mkF m 50 #[.val (.ref x), .val (.int i), .val (.int (Int32.ofNat cs.length)), .val (.int (Int32.ofNat (cs.length + (dec i).length)))] [(.int (Int32.ofNat (cs.length + (dec i).length))), (.ref x)])) (fun tgt kt => ?_) ?_
  · refine XS.pop H hx rfl (hb hby e1c_33) rfl rfl ?_
    refine XS.goto H hx rfl (pc0 := 34) (pc' := 48) rfl (hb hby e1c_34) (by decide) (by decide) ?_
    refine XS.aloadN H hx rfl (hb hby e1c_48) rfl rfl ?_
    refine XS.iloadN H hx rfl (hb hby e1c_49) rfl ?_
    exact kt
  have zr : Exa Z zk x "java/lang/StringBuilder" := (F0.1.keep zo)
  have zs : Fld Z zk x "java/lang/AbstractStringBuilder" "count" "I" (.int (Int32.ofNat cs.length)) := (F0.2.2.2.1.keep zo (ninS nxt nin0))
  refine Jvm.Y9.Aim.putF (v := (.int (Int32.ofNat (cs.length + (dec i).length)))) zm hx hZ hown (host := "") (Or.inl (wI hw 281 rfl)) Via.refl zs zr (Or.inl (wI hw 282 rfl)) (wI hw 241 rfl) (ty := .int) (by decide) rfl rfl (hb hby e1c_50) g_x ?_
  intro zt zu zv zw
  have zx := Keep.of_wr zw
  have zy : Fld Z zu x "java/lang/AbstractStringBuilder" "count" "I" (.int (Int32.ofNat (cs.length + (dec i).length))) := zs.same zw
  have zz : Keep h0 zu [x, t] := zq.trans zx (allS (Or.inl (List.mem_of_getElem? (i := 0) rfl)) all0)
  have H := zv.here
  refine Jvm.Y9.Aim.of (T' := zt) (g' := (mkF m 54 #[.val (.ref x), .val (.int i), .val (.int (Int32.ofNat cs.length)), .val (.int (Int32.ofNat (cs.length + (dec i).length)))] [(.ref x)])) (fun tgt kt => ?_) ?_
  · refine XS.aloadN H hx rfl (hb hby e1c_53) rfl rfl ?_
    exact kt
  have z10 : Exa Z zu x "java/lang/StringBuilder" := (zr.keep zx)
  have z11 : Fld Z zu x "java/lang/AbstractStringBuilder" "value" "[B" (.ref t) := ((F0.2.1.keep zo (ninS nxt nin0)).other zw (Or.inr (slot_ne (Or.inl (wI hw 255 rfl)) (Or.inl (wI hw 282 rfl)) (by decide) (t := (.array .byte)) (t' := .int) (by decide) (by decide))))
  have z12 : Fld Z zu x "java/lang/AbstractStringBuilder" "coder" "B" (.int 0) := ((F0.2.2.1.keep zo (ninS nxt nin0)).other zw (Or.inr (slot_ne (Or.inl (wI hw 257 rfl)) (Or.inl (wI hw 282 rfl)) (by decide) (t := .byte) (t' := .int) (by decide) (by decide))))
  have z13 : Arv Z zu t kb .byte (Int32.ofNat cap) (fill (cs ++ (dec i)) cap) (.int 0) := (zp.keep zx (ninS (Ne.symm nxt) nin0))
  exact Jvm.Y9.Aim.retA zv hx hlk hret rfl rfl (hb hby e1c_54) (by decide) (by decide) ⟨rfl, zz, ⟨z10, z11, z12, (by rw [List.length_append]; exact zy), z13⟩⟩
theorem e16_0 : decode jdk_67_method_15_code 0 = .ok (.aload_n 0, 1) := by decide +kernel
theorem e16_1 : decode jdk_67_method_15_code 1 = .ok (.iload_n 1, 1) := by decide +kernel
theorem e16_2 : decode jdk_67_method_15_code 2 = .ok (.invokespecial 53, 3) := by decide +kernel
theorem pd__28I_29Ljava_2flang_2fAbstractStringBuilder_3b : parseMethodDescriptor "(I)Ljava/lang/AbstractStringBuilder;" = some ⟨[.int], some (.object "java/lang/AbstractStringBuilder")⟩ := by decide +kernel
theorem e16_5 : decode jdk_67_method_15_code 5 = .ok (.pop, 1) := by decide +kernel
theorem e16_6 : decode jdk_67_method_15_code 6 = .ok (.aload_n 0, 1) := by decide +kernel
theorem e16_7 : decode jdk_67_method_15_code 7 = .ok (.areturn, 1) := by decide +kernel
theorem own_appI (l : Launch) (Z : State) (a0 : Array Value) (hw : ∀ d ∈ tables_1, d.before a0 Z = true) (x : Addr) (t : Addr) (kb : ClassId) (cs : List Int32) (cap : Nat) (i : Int32) (h0 : Heap) (n0 : Nat) (Z0 : n0 ≤ h0.size) (g_x : n0 ≤ x) (g_t : n0 ≤ t) (F0 : Bld Z h0 x t kb cs cap) (F1 : Old Z n0 h0) (hl : cs.length + (dec i).length ≤ cap) (hc : cap ≤ 16) (nxt : x ≠ t) (G : Cmp Z) (GD : Dig Z) :
    Jvm.Y9.Con l Z (⟨"java/lang/StringBuilder", "append", "(I)Ljava/lang/StringBuilder;"⟩ : MethodName) jdk_67_method_15_code 2 (some (.object "java/lang/StringBuilder")) ({ frames := 3, cells := 0, slots := 0, locals := 93 } : Room) n0 #[(.ref x), (.int i)] h0 (fun v h => v = some (.ref x) ∧ Keep h0 h [x, t] ∧ Bld Z h x t kb (cs ++ (dec i)) cap) := by
  refine Jvm.Y9.Con.intro (plainFor_of_name pn_java_lang_StringBuilder) ?_
  intro p e s m below meth c s₁ hx hby hml hret hnm hown hlk hZ P0
  refine Jvm.Y9.Aim.cast (by first | (simp [entryFrame, mkF, argsToLocals, Value.category]; done) | rfl : entryFrame m #[(.ref x), (.int i)] 2 = (mkF m 0 #[.val (.ref x), .val (.int i)] [])) ?_
  have H := P0.here
  refine Jvm.Y9.Aim.of (T' := s₁) (g' := (mkF m 2 #[.val (.ref x), .val (.int i)] [(.int i), (.ref x)])) (fun tgt kt => ?_) ?_
  · refine XS.aloadN H hx rfl (hb hby e16_0) rfl rfl ?_
    refine XS.iloadN H hx rfl (hb hby e16_1) rfl ?_
    exact kt
  refine Jvm.Y9.Aim.callU (argsL := [(.int i)]) (rest := []) (y := (⟨"java/lang/AbstractStringBuilder", "append", "(I)Ljava/lang/AbstractStringBuilder;"⟩ : MethodName)) P0 hx hZ hml hown (wI hw 313 rfl) (Jvm.Y9.same_of (by decide) (wI hw 314 rfl) (Jvm.Y9.nf_sel (y := (⟨"java/lang/AbstractStringBuilder", "append", "(I)Ljava/lang/AbstractStringBuilder;"⟩ : MethodName)) (y2 := (⟨"java/lang/AbstractStringBuilder", "ensureCapacityInternal", "(I)V"⟩ : MethodName)) rfl (wI hw 286 rfl))) (wI hw 314 rfl) (wI hw 268 rfl) (by decide) (wI hw 316 rfl) (Ins.self F0.1) (Jvm.Y9.Con.back (W := 0) (own_appI0 l Z a0 hw x t kb cs cap i h0 n0 Z0 g_x g_t F0 F1 hl hc nxt G GD) hZ (wI hw 316 rfl) (wI hw 250 rfl) (by decide) (by decide)) rfl pd__28I_29Ljava_2flang_2fAbstractStringBuilder_3b rfl (Nat.le_of_eq rfl) (hb hby e16_2) (by decide) (by decide) ?_
  intro z0 z1 z2 z3 z4
  obtain ⟨rfl, z5, z6⟩ := z4
  have z7 : Keep h0 z1 [x, t] := (Keep.refl h0 [x, t]).trans z5 (allS (Or.inl (List.mem_of_getElem? (i := 0) rfl)) (allS (Or.inl (List.mem_of_getElem? (i := 1) rfl)) all0))
  have H := z3.here
  refine Jvm.Y9.Aim.of (T' := z0) (g' := (mkF m 7 #[.val (.ref x), .val (.int i)] [(.ref x)])) (fun tgt kt => ?_) ?_
  · refine XS.pop H hx rfl (hb hby e16_5) rfl rfl ?_
    refine XS.aloadN H hx rfl (hb hby e16_6) rfl rfl ?_
    exact kt
  exact Jvm.Y9.Aim.retA z3 hx hlk hret rfl rfl (hb hby e16_7) (by decide) (by decide) ⟨rfl, z7, z6⟩
theorem e12_0 : decode jdk_65_method_131_code 0 = .ok (.iload_n 1, 1) := by decide +kernel
theorem e12_1 : decode jdk_65_method_131_code 1 = .ok (.iload_n 0, 1) := by decide +kernel
theorem e12_2 : decode jdk_65_method_131_code 2 = .ok (.if_icmp .ge 35, 3) := by decide +kernel
theorem e12_37 : decode jdk_65_method_131_code 37 = .ok (.return_, 1) := by decide +kernel
theorem pn_java_util_Arrays : plainName "java/util/Arrays" = true := by first | (simp [plainName, overriddenIn]; done) | decide +kernel
theorem own_chkL (l : Launch) (Z : State) (a0 : Array Value) (hw : ∀ d ∈ tables_1, d.before a0 Z = true) (n : Int32) (h0 : Heap) (n0 : Nat) (Z0 : n0 ≤ h0.size) (hn : ¬ (n < (0 : Int32))) :
    Jvm.Y9.Con l Z (⟨"java/util/Arrays", "checkLength", "(II)V"⟩ : MethodName) jdk_65_method_131_code 2 none ({ frames := 0, cells := 0, slots := 0, locals := 0 } : Room) n0 #[(.int 0), (.int n)] h0 (fun v h => v = none ∧ h0 = h) := by
  refine Jvm.Y9.Con.intro (plainFor_of_name pn_java_util_Arrays) ?_
  intro p e s m below meth c s₁ hx hby hml hret hnm hown hlk hZ P0
  refine Jvm.Y9.Aim.cast (by first | (simp [entryFrame, mkF, argsToLocals, Value.category]; done) | rfl : entryFrame m #[(.int 0), (.int n)] 2 = (mkF m 0 #[.val (.int 0), .val (.int n)] [])) ?_
  have H := P0.here
  refine Jvm.Y9.Aim.of (T' := s₁) (g' := (mkF m 37 #[.val (.int 0), .val (.int n)] [])) (fun tgt kt => ?_) ?_
  · refine XS.iloadN H hx rfl (hb hby e12_0) rfl ?_
    refine XS.iloadN H hx rfl (hb hby e12_1) rfl ?_
    refine XS.icmpYes H hx rfl (pc0 := 2) (pc' := 37) rfl (hb hby e12_2) rfl (flt hn).2.1 (by decide) (by decide) ?_
    exact kt
  exact Jvm.Y9.Aim.retV P0 hx hlk hret (hb hby e12_37) (by decide) (by decide) ⟨rfl, rfl⟩
theorem e2_0 : decode jdk_29_method_69_code 0 = .ok (.iload_n 0, 1) := by decide +kernel
theorem e2_1 : decode jdk_29_method_69_code 1 = .ok (.iload_n 1, 1) := by decide +kernel
theorem e2_2 : decode jdk_29_method_69_code 2 = .ok (.if_icmp .gt 7, 3) := by decide +kernel
theorem e2_9 : decode jdk_29_method_69_code 9 = .ok (.iload_n 1, 1) := by decide +kernel
theorem e2_10 : decode jdk_29_method_69_code 10 = .ok (.ireturn, 1) := by decide +kernel
theorem own_min (l : Launch) (Z : State) (a0 : Array Value) (hw : ∀ d ∈ tables_1, d.before a0 Z = true) (a : Int32) (b : Int32) (h0 : Heap) (n0 : Nat) (Z0 : n0 ≤ h0.size) (hba : b < a) :
    Jvm.Y9.Con l Z (⟨"java/lang/Math", "min", "(II)I"⟩ : MethodName) jdk_29_method_69_code 2 (some .int) ({ frames := 0, cells := 0, slots := 0, locals := 0 } : Room) n0 #[(.int a), (.int b)] h0 (fun v h => v = some (.int b) ∧ h0 = h) := by
  refine Jvm.Y9.Con.intro (Jvm.Free.JP.mathPlain rfl (by decide +kernel)) ?_
  intro p e s m below meth c s₁ hx hby hml hret hnm hown hlk hZ P0
  refine Jvm.Y9.Aim.cast (by first | (simp [entryFrame, mkF, argsToLocals, Value.category]; done) | rfl : entryFrame m #[(.int a), (.int b)] 2 = (mkF m 0 #[.val (.int a), .val (.int b)] [])) ?_
  have H := P0.here
  refine Jvm.Y9.Aim.of (T' := s₁) (g' := (mkF m 10 #[.val (.int a), .val (.int b)] [(.int b)])) (fun tgt kt => ?_) ?_
  · refine XS.iloadN H hx rfl (hb hby e2_0) rfl ?_
    refine XS.iloadN H hx rfl (hb hby e2_1) rfl ?_
    refine XS.icmpYes H hx rfl (pc0 := 2) (pc' := 9) rfl (hb hby e2_2) rfl (tlt hba).2.2.1 (by decide) (by decide) ?_
    refine XS.iloadN H hx rfl (hb hby e2_9) rfl ?_
    exact kt
  exact Jvm.Y9.Aim.retI P0 hx hlk hret (hb hby e2_10) (by decide) (by decide) ⟨rfl, rfl⟩
theorem e14_0 : decode jdk_65_method_133_code 0 = .ok (.iload_n 1, 1) := by decide +kernel
theorem e14_1 : decode jdk_65_method_133_code 1 = .ok (.iload_n 2, 1) := by decide +kernel
theorem e14_2 : decode jdk_65_method_133_code 2 = .ok (.invokestatic 343, 3) := by decide +kernel
theorem e14_5 : decode jdk_65_method_133_code 5 = .ok (.iload_n 2, 1) := by decide +kernel
theorem e14_6 : decode jdk_65_method_133_code 6 = .ok (.iload_n 1, 1) := by decide +kernel
theorem e14_7 : decode jdk_65_method_133_code 7 = .ok (.isub, 1) := by decide +kernel
theorem e14_8 : decode jdk_65_method_133_code 8 = .ok (.istore_n 3, 1) := by decide +kernel
theorem e14_9 : decode jdk_65_method_133_code 9 = .ok (.iload_n 3, 1) := by decide +kernel
theorem e14_10 : decode jdk_65_method_133_code 10 = .ok (.newarray .byte, 2) := by decide +kernel
theorem e14_12 : decode jdk_65_method_133_code 12 = .ok (.astore 4, 2) := by decide +kernel
theorem e14_14 : decode jdk_65_method_133_code 14 = .ok (.aload_n 0, 1) := by decide +kernel
theorem e14_15 : decode jdk_65_method_133_code 15 = .ok (.iload_n 1, 1) := by decide +kernel
theorem e14_16 : decode jdk_65_method_133_code 16 = .ok (.aload 4, 2) := by decide +kernel
theorem e14_18 : decode jdk_65_method_133_code 18 = .ok (.iconst 0, 1) := by decide +kernel
theorem e14_19 : decode jdk_65_method_133_code 19 = .ok (.aload_n 0, 1) := by decide +kernel
theorem e14_20 : decode jdk_65_method_133_code 20 = .ok (.arraylength, 1) := by decide +kernel
theorem e14_21 : decode jdk_65_method_133_code 21 = .ok (.iload_n 1, 1) := by decide +kernel
theorem e14_22 : decode jdk_65_method_133_code 22 = .ok (.isub, 1) := by decide +kernel
theorem e14_23 : decode jdk_65_method_133_code 23 = .ok (.iload_n 3, 1) := by decide +kernel
theorem e14_24 : decode jdk_65_method_133_code 24 = .ok (.invokestatic 304, 3) := by decide +kernel
theorem e14_27 : decode jdk_65_method_133_code 27 = .ok (.invokestatic 150, 3) := by decide +kernel
theorem e14_30 : decode jdk_65_method_133_code 30 = .ok (.aload 4, 2) := by decide +kernel
theorem e14_32 : decode jdk_65_method_133_code 32 = .ok (.areturn, 1) := by decide +kernel
theorem own_crb (l : Launch) (Z : State) (a0 : Array Value) (hw : ∀ d ∈ tables_1, d.before a0 Z = true) (t : Addr) (kb : ClassId) (cs : List Int32) (cap : Nat) (h0 : Heap) (n0 : Nat) (Z0 : n0 ≤ h0.size) (F0 : Arv Z h0 t kb .byte (Int32.ofNat cap) (fill cs cap) (.int 0)) (hl : cs.length < cap) (hc : cap ≤ 16) :
    Jvm.Y9.Con l Z (⟨"java/util/Arrays", "copyOfRangeByte", "([BII)[B"⟩ : MethodName) jdk_65_method_133_code 5 (some (.array .byte)) ({ frames := 1, cells := 1, slots := 16, locals := 18 } : Room) n0 #[(.ref t), (.int 0), (.int (Int32.ofNat cs.length))] h0 (fun v h => ∃ t2 : Addr, ∃ k2 : ClassId, v = some (.ref t2) ∧ Keep h0 h [] ∧ h0.size ≤ t2 ∧ Arv Z h t2 k2 .byte (Int32.ofNat cs.length) (cs.map fun c => Value.int (c.toInt8.toInt32)) (.int 0)) := by
  refine Jvm.Y9.Con.intro (plainFor_of_name pn_java_util_Arrays) ?_
  intro p e s m below meth c s₁ hx hby hml hret hnm hown hlk hZ P0
  refine Jvm.Y9.Aim.cast (by first | (simp [entryFrame, mkF, argsToLocals, Value.category]; done) | rfl : entryFrame m #[(.ref t), (.int 0), (.int (Int32.ofNat cs.length))] 5 = (mkF m 0 #[.val (.ref t), .val (.int 0), .val (.int (Int32.ofNat cs.length)), .unset, .unset] [])) ?_
  have H := P0.here
  refine Jvm.Y9.Aim.of (T' := s₁) (g' := (mkF m 2 #[.val (.ref t), .val (.int 0), .val (.int (Int32.ofNat cs.length)), .unset, .unset] [(.int (Int32.ofNat cs.length)), (.int 0)])) (fun tgt kt => ?_) ?_
  · refine XS.iloadN H hx rfl (hb hby e14_0) rfl ?_
    refine XS.iloadN H hx rfl (hb hby e14_1) rfl ?_
    exact kt
  refine Jvm.Y9.Aim.callS (argsL := [(.int 0), (.int (Int32.ofNat cs.length))]) (rest := []) P0 hx hZ hml hown (wI hw 363 rfl) (wI hw 364 rfl) (wI hw 358 rfl) (wI hw 365 rfl) (by decide) (Jvm.Y9.Con.back (W := 0) (own_chkL l Z a0 hw (Int32.ofNat cs.length) h0 n0 Z0 ((own_clamp (n := cs.length) (by omega)).2.1)) hZ (wI hw 365 rfl) (wI hw 358 rfl) (by decide) (by decide)) rfl pd__28II_29V rfl (Nat.le_of_eq rfl) (hb hby e14_2) (by decide) (by decide) ?_
  intro z0 z1 z2 z3 z4
  obtain ⟨rfl, rfl⟩ := z4
  have H := z3.here
  refine Jvm.Y9.Aim.of (T' := z0) (g' := (mkF m 8 #[.val (.ref t), .val (.int 0), .val (.int (Int32.ofNat cs.length)), .unset, .unset] [(.int ((Int32.ofNat cs.length) - (0 : Int32)))])) (fun tgt kt => ?_) ?_
  · refine XS.iloadN H hx rfl (hb hby e14_5) rfl ?_
    refine XS.iloadN H hx rfl (hb hby e14_6) rfl ?_
    refine XS.isub H hx rfl (hb hby e14_7) rfl ?_
    exact kt
  rw [show ((Int32.ofNat cs.length) - (0 : Int32)) = (Int32.ofNat cs.length) from own_sub0 _]
  show Jvm.Y9.Aim p e below s _ _ n0 _ z0 (mkF m 8 #[.val (.ref t), .val (.int 0), .val (.int (Int32.ofNat cs.length)), .unset, .unset] [(.int (Int32.ofNat cs.length))])
  have H := z3.here
  refine Jvm.Y9.Aim.of (T' := z0) (g' := (mkF m 10 #[.val (.ref t), .val (.int 0), .val (.int (Int32.ofNat cs.length)), .val (.int (Int32.ofNat cs.length)), .unset] [(.int (Int32.ofNat cs.length))])) (fun tgt kt => ?_) ?_
  · refine XS.istoreN H hx rfl (hb hby e14_8) rfl (l' := #[.val (.ref t), .val (.int 0), .val (.int (Int32.ofNat cs.length)), .val (.int (Int32.ofNat cs.length)), .unset]) rfl ?_
    refine XS.iloadN H hx rfl (hb hby e14_9) rfl ?_
    exact kt
  refine Jvm.Y9.Aim.newP (z := (Int32.ofNat cs.length)) z3 hx hZ (wI hw 15 rfl) (hb hby e14_10) (own_clamp (n := cs.length) (by omega)).2.1 (cap := 16) (lT (Nat.le_of_eq (own_clamp (n := cs.length) (by omega)).1) (by omega)) (by decide) (by decide) (by decide) ?_
  intro z5 z6 z7 z8 z9 za zb zc
  have zd : Keep h0 z6 [] := (Keep.refl _ _).ext zb
  have ze : Keep h0 z6 [] := (Keep.refl h0 []).trans zd all0
  have zf : Arv Z z6 z8 z7 .byte (Int32.ofNat cs.length) (List.replicate cs.length (Value.int (0 : Int32))) (.int 0) := zc.pad (pad_rep [] (Value.int (0 : Int32)) cs.length)
  have H := za.here
  refine Jvm.Y9.Aim.of (T' := z5) (g' := (mkF m 20 #[.val (.ref t), .val (.int 0), .val (.int (Int32.ofNat cs.length)), .val (.int (Int32.ofNat cs.length)), .val (.ref z8)] [(.ref t), (.int 0), (.ref z8), (.int 0), (.ref t)])) (fun tgt kt => ?_) ?_
  · refine XS.astore H hx rfl (hb hby e14_12) rfl rfl (l' := #[.val (.ref t), .val (.int 0), .val (.int (Int32.ofNat cs.length)), .val (.int (Int32.ofNat cs.length)), .val (.ref z8)]) rfl ?_
    refine XS.aloadN H hx rfl (hb hby e14_14) rfl rfl ?_
    refine XS.iloadN H hx rfl (hb hby e14_15) rfl ?_
    refine XS.aload H hx rfl (hb hby e14_16) rfl rfl ?_
    refine XS.iconst H hx rfl (hb hby e14_18) ?_
    refine XS.aloadN H hx rfl (hb hby e14_19) rfl rfl ?_
    exact kt
  have zg : Arv Z z6 t kb .byte (Int32.ofNat cap) (fill cs cap) (.int 0) := (F0.keep zd nin0)
  refine Jvm.Y9.Aim.alen za hx hZ zg (hb hby e14_20) ?_
  have H := za.here
  refine Jvm.Y9.Aim.of (T' := z5) (g' := (mkF m 24 #[.val (.ref t), .val (.int 0), .val (.int (Int32.ofNat cs.length)), .val (.int (Int32.ofNat cs.length)), .val (.ref z8)] [(.int (Int32.ofNat cs.length)), (.int ((Int32.ofNat cap) - (0 : Int32))), (.int 0), (.ref z8), (.int 0), (.ref t)])) (fun tgt kt => ?_) ?_
  · refine XS.iloadN H hx rfl (hb hby e14_21) rfl ?_
    refine XS.isub H hx rfl (hb hby e14_22) rfl ?_
    refine XS.iloadN H hx rfl (hb hby e14_23) rfl ?_
    exact kt
  rw [show ((Int32.ofNat cap) - (0 : Int32)) = (Int32.ofNat cap) from own_sub0 _]
  show Jvm.Y9.Aim p e below s _ _ n0 _ z5 (mkF m 24 #[.val (.ref t), .val (.int 0), .val (.int (Int32.ofNat cs.length)), .val (.int (Int32.ofNat cs.length)), .val (.ref z8)] [(.int (Int32.ofNat cs.length)), (.int (Int32.ofNat cap)), (.int 0), (.ref z8), (.int 0), (.ref t)])
  refine Jvm.Y9.Aim.callS (argsL := [(.int (Int32.ofNat cap)), (.int (Int32.ofNat cs.length))]) (rest := [(.int 0), (.ref z8), (.int 0), (.ref t)]) za hx hZ hml hown (wI hw 366 rfl) (wI hw 367 rfl) (wI hw 95 rfl) (wI hw 368 rfl) (by decide) (Jvm.Y9.Con.back (W := 4) (own_min l Z a0 hw (Int32.ofNat cap) (Int32.ofNat cs.length) z6 n0 (lT Z0 (ze.1)) (own_lt hl (by omega))) hZ (wI hw 368 rfl) (wI hw 95 rfl) (by decide) (by decide)) rfl pd__28II_29I rfl (Nat.le_of_eq rfl) (hb hby e14_24) (by decide) (by decide) ?_
  intro zh zi zj zk zl
  obtain ⟨rfl, rfl⟩ := zl
  refine Jvm.Y9.Aim.cpA (rest := []) zk hx hZ hml hown (wI hw 369 rfl) (wI hw 307 rfl) (wI hw 305 rfl) (wI hw 306 rfl) zg zf (Or.inl ⟨rfl, rfl⟩) (by decide) (by decide) (own_clamp (n := cs.length) (by omega)).2.1 (by rw [(own_clamp (n := cs.length) (by omega)).1, (own_clamp (n := cap) (by omega)).1, show (0 : Int32).toNatClampNeg = 0 from by decide]; omega) (by rw [(own_clamp (n := cs.length) (by omega)).1, show (0 : Int32).toNatClampNeg = 0 from by decide]; omega) rfl (by rw [(own_clamp (n := cs.length) (by omega)).1, show (0 : Int32).toNatClampNeg = 0 from by decide]; simp) (lT Z0 (Nat.le_of_eq z9.symm)) rfl (hb hby e14_27) (by decide) (by decide) ?_
  intro zm zn zo zp zq
  have zr : Arv Z zn z8 z7 .byte (Int32.ofNat cs.length) (cs.map fun c => Value.int (c.toInt8.toInt32)) (.int 0) := Jvm.Y9.arv_eq zq (fill_out (by omega) (by omega))
  have zs : Keep h0 zn [] := ze.trans zp (allS (Or.inr (lT (Nat.le_refl _) (Nat.le_of_eq z9.symm))) all0)
  have H := zo.here
  refine Jvm.Y9.Aim.of (T' := zm) (g' := (mkF m 32 #[.val (.ref t), .val (.int 0), .val (.int (Int32.ofNat cs.length)), .val (.int (Int32.ofNat cs.length)), .val (.ref z8)] [(.ref z8)])) (fun tgt kt => ?_) ?_
  · refine XS.aload H hx rfl (hb hby e14_30) rfl rfl ?_
    exact kt
  exact Jvm.Y9.Aim.retA zo hx hlk hret rfl rfl (hb hby e14_32) (by decide) (by decide) ⟨z8, z7, rfl, zs, (lT (Nat.le_refl _) (Nat.le_of_eq z9.symm)), zr⟩
theorem e13_0 : decode jdk_65_method_132_code 0 = .ok (.iload_n 1, 1) := by decide +kernel
theorem e13_1 : decode jdk_65_method_132_code 1 = .ok (.ifCond .ne 9, 3) := by decide +kernel
theorem e13_4 : decode jdk_65_method_132_code 4 = .ok (.iload_n 2, 1) := by decide +kernel
theorem e13_5 : decode jdk_65_method_132_code 5 = .ok (.aload_n 0, 1) := by decide +kernel
theorem e13_6 : decode jdk_65_method_132_code 6 = .ok (.arraylength, 1) := by decide +kernel
theorem e13_7 : decode jdk_65_method_132_code 7 = .ok (.if_icmp .eq 10, 3) := by decide +kernel
theorem e13_10 : decode jdk_65_method_132_code 10 = .ok (.aload_n 0, 1) := by decide +kernel
theorem e13_11 : decode jdk_65_method_132_code 11 = .ok (.iload_n 1, 1) := by decide +kernel
theorem e13_12 : decode jdk_65_method_132_code 12 = .ok (.iload_n 2, 1) := by decide +kernel
theorem e13_13 : decode jdk_65_method_132_code 13 = .ok (.invokestatic 339, 3) := by decide +kernel
theorem pd__28_5bBII_29_5bB : parseMethodDescriptor "([BII)[B" = some ⟨[(.array .byte), .int, .int], some (.array .byte)⟩ := by decide +kernel
theorem e13_16 : decode jdk_65_method_132_code 16 = .ok (.areturn, 1) := by decide +kernel
theorem own_cr (l : Launch) (Z : State) (a0 : Array Value) (hw : ∀ d ∈ tables_1, d.before a0 Z = true) (t : Addr) (kb : ClassId) (cs : List Int32) (cap : Nat) (h0 : Heap) (n0 : Nat) (Z0 : n0 ≤ h0.size) (F0 : Arv Z h0 t kb .byte (Int32.ofNat cap) (fill cs cap) (.int 0)) (hl : cs.length < cap) (hc : cap ≤ 16) :
    Jvm.Y9.Con l Z (⟨"java/util/Arrays", "copyOfRange", "([BII)[B"⟩ : MethodName) jdk_65_method_132_code 3 (some (.array .byte)) ({ frames := 2, cells := 1, slots := 16, locals := 34 } : Room) n0 #[(.ref t), (.int 0), (.int (Int32.ofNat cs.length))] h0 (fun v h => ∃ t2 : Addr, ∃ k2 : ClassId, v = some (.ref t2) ∧ Keep h0 h [] ∧ h0.size ≤ t2 ∧ Arv Z h t2 k2 .byte (Int32.ofNat cs.length) (cs.map fun c => Value.int (c.toInt8.toInt32)) (.int 0)) := by
  refine Jvm.Y9.Con.intro (plainFor_of_name pn_java_util_Arrays) ?_
  intro p e s m below meth c s₁ hx hby hml hret hnm hown hlk hZ P0
  refine Jvm.Y9.Aim.cast (by first | (simp [entryFrame, mkF, argsToLocals, Value.category]; done) | rfl : entryFrame m #[(.ref t), (.int 0), (.int (Int32.ofNat cs.length))] 3 = (mkF m 0 #[.val (.ref t), .val (.int 0), .val (.int (Int32.ofNat cs.length))] [])) ?_
  have H := P0.here
  refine Jvm.Y9.Aim.of (T' := s₁) (g' := (mkF m 6 #[.val (.ref t), .val (.int 0), .val (.int (Int32.ofNat cs.length))] [(.ref t), (.int (Int32.ofNat cs.length))])) (fun tgt kt => ?_) ?_
  · refine XS.iloadN H hx rfl (hb hby e13_0) rfl ?_
    refine XS.ifNo H hx rfl (hb hby e13_1) rfl ((if0 _ _).trans (teq (by decide)).2) ?_
    refine XS.iloadN H hx rfl (hb hby e13_4) rfl ?_
    refine XS.aloadN H hx rfl (hb hby e13_5) rfl rfl ?_
    exact kt
  refine Jvm.Y9.Aim.alen P0 hx hZ F0 (hb hby e13_6) ?_
  have H := P0.here
  refine Jvm.Y9.Aim.of (T' := s₁) (g' := (mkF m 13 #[.val (.ref t), .val (.int 0), .val (.int (Int32.ofNat cs.length))] [(.int (Int32.ofNat cs.length)), (.int 0), (.ref t)])) (fun tgt kt => ?_) ?_
  · refine XS.icmpNo H hx rfl (hb hby e13_7) rfl (feq (own_ne (by omega) (by omega) (by omega))).1 ?_
    refine XS.aloadN H hx rfl (hb hby e13_10) rfl rfl ?_
    refine XS.iloadN H hx rfl (hb hby e13_11) rfl ?_
    refine XS.iloadN H hx rfl (hb hby e13_12) rfl ?_
    exact kt
  refine Jvm.Y9.Aim.callS (argsL := [(.ref t), (.int 0), (.int (Int32.ofNat cs.length))]) (rest := []) P0 hx hZ hml hown (wI hw 360 rfl) (wI hw 361 rfl) (wI hw 358 rfl) (wI hw 362 rfl) (by decide) (Jvm.Y9.Con.back (W := 0) (own_crb l Z a0 hw t kb cs cap h0 n0 Z0 F0 hl hc) hZ (wI hw 362 rfl) (wI hw 358 rfl) (by decide) (by decide)) rfl pd__28_5bBII_29_5bB rfl (Nat.le_of_eq rfl) (hb hby e13_13) (by decide) (by decide) ?_
  intro z0 z1 z2 z3 z4
  obtain ⟨t_841, k_842, rfl, z5, z6, z7⟩ := z4
  have z8 : Keep h0 z1 [] := (Keep.refl h0 []).trans z5 all0
  exact Jvm.Y9.Aim.retA z3 hx hlk hret rfl rfl (hb hby e13_16) (by decide) (by decide) ⟨t_841, k_842, rfl, z8, (lT (Nat.le_refl _) z6), z7⟩
theorem e1e_0 : decode jdk_68_method_64_code 0 = .ok (.aload_n 0, 1) := by decide +kernel
theorem e1e_1 : decode jdk_68_method_64_code 1 = .ok (.getfield 15, 3) := by decide +kernel
theorem e1e_4 : decode jdk_68_method_64_code 4 = .ok (.areturn, 1) := by decide +kernel
theorem own_gv (l : Launch) (Z : State) (a0 : Array Value) (hw : ∀ d ∈ tables_1, d.before a0 Z = true) (x : Addr) (t : Addr) (kb : ClassId) (cs : List Int32) (cap : Nat) (h0 : Heap) (n0 : Nat) (Z0 : n0 ≤ h0.size) (F0 : Bld Z h0 x t kb cs cap) :
    Jvm.Y9.Con l Z (⟨"java/lang/AbstractStringBuilder", "getValue", "()[B"⟩ : MethodName) jdk_68_method_64_code 1 (some (.array .byte)) ({ frames := 0, cells := 0, slots := 0, locals := 0 } : Room) n0 #[(.ref x)] h0 (fun v h => v = some (.ref t) ∧ h0 = h) := by
  refine Jvm.Y9.Con.intro (plainFor_of_name pn_java_lang_AbstractStringBuilder) ?_
  intro p e s m below meth c s₁ hx hby hml hret hnm hown hlk hZ P0
  refine Jvm.Y9.Aim.cast (by first | (simp [entryFrame, mkF, argsToLocals, Value.category]; done) | rfl : entryFrame m #[(.ref x)] 1 = (mkF m 0 #[.val (.ref x)] [])) ?_
  have H := P0.here
  refine Jvm.Y9.Aim.of (T' := s₁) (g' := (mkF m 1 #[.val (.ref x)] [(.ref x)])) (fun tgt kt => ?_) ?_
  · refine XS.aloadN H hx rfl (hb hby e1e_0) rfl rfl ?_
    exact kt
  refine Jvm.Y9.Aim.getF P0 hx hZ hown (host := "") (Or.inl (wI hw 254 rfl)) Via.refl F0.2.1 (hb hby e1e_1) ?_
  intro T847 P848
  exact Jvm.Y9.Aim.retA P848 hx hlk hret rfl rfl (hb hby e1e_4) (by decide) (by decide) ⟨rfl, rfl⟩
theorem e1d_0 : decode jdk_68_method_6_code 0 = .ok (.aload_n 0, 1) := by decide +kernel
theorem e1d_1 : decode jdk_68_method_6_code 1 = .ok (.getfield 79, 3) := by decide +kernel
theorem e1d_4 : decode jdk_68_method_6_code 4 = .ok (.ireturn, 1) := by decide +kernel
theorem own_alen (l : Launch) (Z : State) (a0 : Array Value) (hw : ∀ d ∈ tables_1, d.before a0 Z = true) (x : Addr) (t : Addr) (kb : ClassId) (cs : List Int32) (cap : Nat) (h0 : Heap) (n0 : Nat) (Z0 : n0 ≤ h0.size) (F0 : Bld Z h0 x t kb cs cap) :
    Jvm.Y9.Con l Z (⟨"java/lang/AbstractStringBuilder", "length", "()I"⟩ : MethodName) jdk_68_method_6_code 1 (some .int) ({ frames := 0, cells := 0, slots := 0, locals := 0 } : Room) n0 #[(.ref x)] h0 (fun v h => v = some (.int (Int32.ofNat cs.length)) ∧ h0 = h) := by
  refine Jvm.Y9.Con.intro (plainFor_of_name pn_java_lang_AbstractStringBuilder) ?_
  intro p e s m below meth c s₁ hx hby hml hret hnm hown hlk hZ P0
  refine Jvm.Y9.Aim.cast (by first | (simp [entryFrame, mkF, argsToLocals, Value.category]; done) | rfl : entryFrame m #[(.ref x)] 1 = (mkF m 0 #[.val (.ref x)] [])) ?_
  have H := P0.here
  refine Jvm.Y9.Aim.of (T' := s₁) (g' := (mkF m 1 #[.val (.ref x)] [(.ref x)])) (fun tgt kt => ?_) ?_
  · refine XS.aloadN H hx rfl (hb hby e1d_0) rfl rfl ?_
    exact kt
  refine Jvm.Y9.Aim.getF P0 hx hZ hown (host := "") (Or.inl (wI hw 281 rfl)) Via.refl F0.2.2.2.1 (hb hby e1d_1) ?_
  intro T849 P850
  exact Jvm.Y9.Aim.retI P850 hx hlk hret (hb hby e1d_4) (by decide) (by decide) ⟨rfl, rfl⟩
theorem e19_0 : decode jdk_67_method_93_code 0 = .ok (.aload_n 0, 1) := by decide +kernel
theorem e19_1 : decode jdk_67_method_93_code 1 = .ok (.invokespecial 343, 3) := by decide +kernel
theorem e19_4 : decode jdk_67_method_93_code 4 = .ok (.ireturn, 1) := by decide +kernel
theorem own_sblen (l : Launch) (Z : State) (a0 : Array Value) (hw : ∀ d ∈ tables_1, d.before a0 Z = true) (x : Addr) (t : Addr) (kb : ClassId) (cs : List Int32) (cap : Nat) (h0 : Heap) (n0 : Nat) (Z0 : n0 ≤ h0.size) (F0 : Bld Z h0 x t kb cs cap) :
    Jvm.Y9.Con l Z (⟨"java/lang/StringBuilder", "length", "()I"⟩ : MethodName) jdk_67_method_93_code 1 (some .int) ({ frames := 1, cells := 0, slots := 0, locals := 12 } : Room) n0 #[(.ref x)] h0 (fun v h => v = some (.int (Int32.ofNat cs.length)) ∧ h0 = h) := by
  refine Jvm.Y9.Con.intro (plainFor_of_name pn_java_lang_StringBuilder) ?_
  intro p e s m below meth c s₁ hx hby hml hret hnm hown hlk hZ P0
  refine Jvm.Y9.Aim.cast (by first | (simp [entryFrame, mkF, argsToLocals, Value.category]; done) | rfl : entryFrame m #[(.ref x)] 1 = (mkF m 0 #[.val (.ref x)] [])) ?_
  have H := P0.here
  refine Jvm.Y9.Aim.of (T' := s₁) (g' := (mkF m 1 #[.val (.ref x)] [(.ref x)])) (fun tgt kt => ?_) ?_
  · refine XS.aloadN H hx rfl (hb hby e19_0) rfl rfl ?_
    exact kt
  refine Jvm.Y9.Aim.callU (argsL := []) (rest := []) (y := (⟨"java/lang/AbstractStringBuilder", "length", "()I"⟩ : MethodName)) P0 hx hZ hml hown (wI hw 353 rfl) (Jvm.Y9.same_of (by decide) (wI hw 349 rfl) (Jvm.Y9.nf_sel (y := (⟨"java/lang/AbstractStringBuilder", "length", "()I"⟩ : MethodName)) (y2 := (⟨"java/lang/AbstractStringBuilder", "ensureCapacityInternal", "(I)V"⟩ : MethodName)) rfl (wI hw 286 rfl))) (wI hw 349 rfl) (wI hw 268 rfl) (by decide) (wI hw 354 rfl) (Ins.self F0.1) (Jvm.Y9.Con.back (W := 0) (own_alen l Z a0 hw x t kb cs cap h0 n0 Z0 F0) hZ (wI hw 354 rfl) (wI hw 250 rfl) (by decide) (by decide)) rfl pd__28_29I rfl (Nat.le_of_eq rfl) (hb hby e19_1) (by decide) (by decide) ?_
  intro z0 z1 z2 z3 z4
  obtain ⟨rfl, rfl⟩ := z4
  exact Jvm.Y9.Aim.retI z3 hx hlk hret (hb hby e19_4) (by decide) (by decide) ⟨rfl, rfl⟩
theorem ek_0 : decode jdk_42_method_150_code 0 = .ok (.aload_n 0, 1) := by decide +kernel
theorem ek_1 : decode jdk_42_method_150_code 1 = .ok (.invokespecial 1, 3) := by decide +kernel
theorem ek_4 : decode jdk_42_method_150_code 4 = .ok (.aload_n 1, 1) := by decide +kernel
theorem ek_5 : decode jdk_42_method_150_code 5 = .ok (.invokevirtual 552, 3) := by decide +kernel
theorem pd__28_29_5bB : parseMethodDescriptor "()[B" = some ⟨[], some (.array .byte)⟩ := by decide +kernel
theorem ek_8 : decode jdk_42_method_150_code 8 = .ok (.astore_n 3, 1) := by decide +kernel
theorem ek_9 : decode jdk_42_method_150_code 9 = .ok (.aload_n 1, 1) := by decide +kernel
theorem ek_10 : decode jdk_42_method_150_code 10 = .ok (.invokevirtual 549, 3) := by decide +kernel
theorem ek_13 : decode jdk_42_method_150_code 13 = .ok (.istore 4, 2) := by decide +kernel
theorem ek_15 : decode jdk_42_method_150_code 15 = .ok (.aload_n 1, 1) := by decide +kernel
theorem ek_16 : decode jdk_42_method_150_code 16 = .ok (.invokevirtual 1047, 3) := by decide +kernel
theorem ek_19 : decode jdk_42_method_150_code 19 = .ok (.ifCond .eq 22, 3) := by decide +kernel
theorem ek_22 : decode jdk_42_method_150_code 22 = .ok (.aload_n 0, 1) := by decide +kernel
theorem ek_23 : decode jdk_42_method_150_code 23 = .ok (.iconst 0, 1) := by decide +kernel
theorem ek_24 : decode jdk_42_method_150_code 24 = .ok (.putfield 15, 3) := by decide +kernel
theorem ek_27 : decode jdk_42_method_150_code 27 = .ok (.aload_n 0, 1) := by decide +kernel
theorem ek_28 : decode jdk_42_method_150_code 28 = .ok (.aload_n 3, 1) := by decide +kernel
theorem ek_29 : decode jdk_42_method_150_code 29 = .ok (.iconst 0, 1) := by decide +kernel
theorem ek_30 : decode jdk_42_method_150_code 30 = .ok (.iload 4, 2) := by decide +kernel
theorem ek_32 : decode jdk_42_method_150_code 32 = .ok (.invokestatic 54, 3) := by decide +kernel
theorem ek_35 : decode jdk_42_method_150_code 35 = .ok (.putfield 9, 3) := by decide +kernel
theorem ek_38 : decode jdk_42_method_150_code 38 = .ok (.goto 59, 3) := by decide +kernel
theorem ek_97 : decode jdk_42_method_150_code 97 = .ok (.return_, 1) := by decide +kernel
theorem own_sA (l : Launch) (Z : State) (a0 : Array Value) (hw : ∀ d ∈ tables_1, d.before a0 Z = true) (z : Addr) (x : Addr) (t : Addr) (kb : ClassId) (cs : List Int32) (cap : Nat) (v0 : Value) (c0 : Value) (h0 : Heap) (n0 : Nat) (Z0 : n0 ≤ h0.size) (g_z : n0 ≤ z) (F0 : Exa Z h0 z "java/lang/String") (F1 : Fld Z h0 z "java/lang/String" "value" "[B" v0) (F2 : Fld Z h0 z "java/lang/String" "coder" "B" c0) (F3 : Bld Z h0 x t kb cs cap) (F4 : Old Z n0 h0) (hl : cs.length < cap) (hc : cap ≤ 16) (hr : ∀ c ∈ cs, ¬ c < 0 ∧ ¬ (255 : Int32) < c) (nzx : z ≠ x) (nzt : z ≠ t) (G : Cmp Z) :
    Jvm.Y9.Con l Z (⟨"java/lang/String", "<init>", "(Ljava/lang/AbstractStringBuilder;Ljava/lang/Void;)V"⟩ : MethodName) jdk_42_method_150_code 5 none ({ frames := 3, cells := 1, slots := 16, locals := 49 } : Room) n0 #[(.ref z), (.ref x), .null] h0 (fun v h => ∃ t2 : Addr, ∃ k2 : ClassId, v = none ∧ Keep h0 h [z] ∧ h0.size ≤ t2 ∧ Str Z h z t2 k2 cs) := by
  refine Jvm.Y9.Con.intro (plainFor_of_name pn_java_lang_String) ?_
  intro p e s m below meth c s₁ hx hby hml hret hnm hown hlk hZ P0
  refine Jvm.Y9.Aim.cast (by first | (simp [entryFrame, mkF, argsToLocals, Value.category]; done) | rfl : entryFrame m #[(.ref z), (.ref x), .null] 5 = (mkF m 0 #[.val (.ref z), .val (.ref x), .val .null, .unset, .unset] [])) ?_
  have H := P0.here
  refine Jvm.Y9.Aim.of (T' := s₁) (g' := (mkF m 1 #[.val (.ref z), .val (.ref x), .val .null, .unset, .unset] [(.ref z)])) (fun tgt kt => ?_) ?_
  · refine XS.aloadN H hx rfl (hb hby ek_0) rfl rfl ?_
    exact kt
  refine Jvm.Y9.Aim.initO P0 hx hZ hml hown (wI hw 20 rfl) (wI hw 21 rfl) (wI hw 22 rfl) rfl (hb hby ek_1) (by decide) (Nat.le_of_ble_eq_true rfl) ?_
  intro z0 z1
  have H := z1.here
  refine Jvm.Y9.Aim.of (T' := z0) (g' := (mkF m 5 #[.val (.ref z), .val (.ref x), .val .null, .unset, .unset] [(.ref x)])) (fun tgt kt => ?_) ?_
  · refine XS.aloadN H hx rfl (hb hby ek_4) rfl rfl ?_
    exact kt
  refine Jvm.Y9.Aim.callV (argsL := []) (rest := []) (y := (⟨"java/lang/AbstractStringBuilder", "getValue", "()[B"⟩ : MethodName)) (z := (⟨"java/lang/AbstractStringBuilder", "getValue", "()[B"⟩ : MethodName)) z1 hx hZ hml hown (wI hw 342 rfl) (wI hw 343 rfl) (notFace_of_selects (args := #[]) (mvT hZ (wI hw 345 rfl))) (wI hw 345 rfl) (wI hw 344 rfl) (by decide) F3.1 (Jvm.Y9.Con.back (W := 0) (own_gv l Z a0 hw x t kb cs cap h0 n0 Z0 F3) hZ (wI hw 346 rfl) (wI hw 250 rfl) (by decide) (by decide)) rfl pd__28_29_5bB rfl (Nat.le_of_eq rfl) (hb hby ek_5) (by decide) (by decide) ?_
  intro z2 z3 z4 z5 z6
  obtain ⟨rfl, rfl⟩ := z6
  have H := z5.here
  refine Jvm.Y9.Aim.of (T' := z2) (g' := (mkF m 10 #[.val (.ref z), .val (.ref x), .val .null, .val (.ref t), .unset] [(.ref x)])) (fun tgt kt => ?_) ?_
  · refine XS.astoreN H hx rfl (hb hby ek_8) rfl rfl (l' := #[.val (.ref z), .val (.ref x), .val .null, .val (.ref t), .unset]) rfl ?_
    refine XS.aloadN H hx rfl (hb hby ek_9) rfl rfl ?_
    exact kt
  refine Jvm.Y9.Aim.callV (argsL := []) (rest := []) (y := (⟨"java/lang/AbstractStringBuilder", "length", "()I"⟩ : MethodName)) (z := (⟨"java/lang/StringBuilder", "length", "()I"⟩ : MethodName)) z5 hx hZ hml hown (wI hw 347 rfl) (wI hw 348 rfl) (Jvm.Y9.nf_sel (args := #[]) (y := (⟨"java/lang/AbstractStringBuilder", "length", "()I"⟩ : MethodName)) (y2 := (⟨"java/lang/AbstractStringBuilder", "ensureCapacityInternal", "(I)V"⟩ : MethodName)) rfl (mvT hZ (wI hw 286 rfl))) (wI hw 350 rfl) (wI hw 351 rfl) (by decide) F3.1 (Jvm.Y9.Con.back (W := 0) (own_sblen l Z a0 hw x t kb cs cap h0 n0 Z0 F3) hZ (wI hw 352 rfl) (wI hw 242 rfl) (by decide) (by decide)) rfl pd__28_29I rfl (Nat.le_of_eq rfl) (hb hby ek_10) (by decide) (by decide) ?_
  intro z7 z8 z9 za zb
  obtain ⟨rfl, rfl⟩ := zb
  have H := za.here
  refine Jvm.Y9.Aim.of (T' := z7) (g' := (mkF m 16 #[.val (.ref z), .val (.ref x), .val .null, .val (.ref t), .val (.int (Int32.ofNat cs.length))] [(.ref x)])) (fun tgt kt => ?_) ?_
  · refine XS.istore H hx rfl (hb hby ek_13) rfl (l' := #[.val (.ref z), .val (.ref x), .val .null, .val (.ref t), .val (.int (Int32.ofNat cs.length))]) rfl ?_
    refine XS.aloadN H hx rfl (hb hby ek_15) rfl rfl ?_
    exact kt
  refine Jvm.Y9.Aim.callV (argsL := []) (rest := []) (y := (⟨"java/lang/AbstractStringBuilder", "isLatin1", "()Z"⟩ : MethodName)) (z := (⟨"java/lang/AbstractStringBuilder", "isLatin1", "()Z"⟩ : MethodName)) za hx hZ hml hown (wI hw 355 rfl) (wI hw 322 rfl) (notFace_of_selects (args := #[]) (mvT hZ (wI hw 324 rfl))) (wI hw 324 rfl) (wI hw 323 rfl) (by decide) F3.1 (Jvm.Y9.Con.back (W := 0) (own_isL l Z a0 hw x t kb cs cap h0 n0 Z0 F3 F4 G) hZ (wI hw 325 rfl) (wI hw 250 rfl) (by decide) (by decide)) rfl pd__28_29Z rfl (Nat.le_of_eq rfl) (hb hby ek_16) (by decide) (by decide) ?_
  intro zc zd ze zf zg
  obtain ⟨rfl, rfl⟩ := zg
  have H := zf.here
  refine Jvm.Y9.Aim.of (T' := zc) (g' := (mkF m 24 #[.val (.ref z), .val (.ref x), .val .null, .val (.ref t), .val (.int (Int32.ofNat cs.length))] [(.int 0), (.ref z)])) (fun tgt kt => ?_) ?_
  · refine XS.ifNo H hx rfl (hb hby ek_19) rfl ((if0 _ _).trans (feq (by decide)).1) ?_
    refine XS.aloadN H hx rfl (hb hby ek_22) rfl rfl ?_
    refine XS.iconst H hx rfl (hb hby ek_23) ?_
    exact kt
  refine Jvm.Y9.Aim.putF (v := (.int 0)) zf hx hZ hown (host := "") (Or.inl (wI hw 25 rfl)) Via.refl F2 F0 (Or.inr ⟨(wI hw 26 rfl), rfl, hnm⟩) (wI hw 11 rfl) (ty := .byte) (by decide) rfl rfl (hb hby ek_24) g_z ?_
  intro zh zi zj zk
  have zl := Keep.of_wr zk
  have zm : Fld Z zi z "java/lang/String" "coder" "B" (.int 0) := F2.same zk
  have zn : Keep h0 zi [z] := (Keep.refl h0 [z]).trans zl (allS (Or.inl (List.mem_of_getElem? (i := 0) rfl)) all0)
  have H := zj.here
  refine Jvm.Y9.Aim.of (T' := zh) (g' := (mkF m 32 #[.val (.ref z), .val (.ref x), .val .null, .val (.ref t), .val (.int (Int32.ofNat cs.length))] [(.int (Int32.ofNat cs.length)), (.int 0), (.ref t), (.ref z)])) (fun tgt kt => ?_) ?_
  · refine XS.aloadN H hx rfl (hb hby ek_27) rfl rfl ?_
    refine XS.aloadN H hx rfl (hb hby ek_28) rfl rfl ?_
    refine XS.iconst H hx rfl (hb hby ek_29) ?_
    refine XS.iload H hx rfl (hb hby ek_30) rfl ?_
    exact kt
  have zo : Arv Z zi t kb .byte (Int32.ofNat cap) (fill cs cap) (.int 0) := (F3.2.2.2.2.keep zl (ninS (Ne.symm nzt) nin0))
  refine Jvm.Y9.Aim.callS (argsL := [(.ref t), (.int 0), (.int (Int32.ofNat cs.length))]) (rest := [(.ref z)]) zj hx hZ hml hown (wI hw 356 rfl) (wI hw 357 rfl) (wI hw 358 rfl) (wI hw 359 rfl) (by decide) (Jvm.Y9.Con.back (W := 1) (own_cr l Z a0 hw t kb cs cap zi n0 (lT Z0 (zn.1)) zo hl hc) hZ (wI hw 359 rfl) (wI hw 358 rfl) (by decide) (by decide)) rfl pd__28_5bBII_29_5bB rfl (Nat.le_of_eq rfl) (hb hby ek_32) (by decide) (by decide) ?_
  intro zp zq zr zs zt
  obtain ⟨t_896, k_897, rfl, zu, zv, zw⟩ := zt
  have zx : Keep h0 zq [z] := zn.trans zu all0
  have zy : Exa Z zq z "java/lang/String" := ((F0.keep zl).keep zu)
  have zz : Fld Z zq z "java/lang/String" "value" "[B" v0 := ((F1.other zk (Or.inr (slot_ne (Or.inr (wI hw 24 rfl)) (Or.inr (wI hw 26 rfl)) (by decide) (t := (.array .byte)) (t' := .byte) (by decide) (by decide)))).keep zu nin0)
  refine Jvm.Y9.Aim.putF (v := (.ref t_896)) zs hx hZ hown (host := "") (Or.inl (wI hw 23 rfl)) Via.refl zz zy (Or.inr ⟨(wI hw 24 rfl), rfl, hnm⟩) (wI hw 11 rfl) (ty := (.array .byte)) (by decide) rfl rfl (hb hby ek_35) g_z ?_
  intro z10 z11 z12 z13
  have z14 := Keep.of_wr z13
  have z15 : Fld Z z11 z "java/lang/String" "value" "[B" (.ref t_896) := zz.same z13
  have z16 : Keep h0 z11 [z] := zx.trans z14 (allS (Or.inl (List.mem_of_getElem? (i := 0) rfl)) all0)
  have H := z12.here
  refine Jvm.Y9.Aim.of (T' := z10) (g' := (mkF m 97 #[.val (.ref z), .val (.ref x), .val .null, .val (.ref t), .val (.int (Int32.ofNat cs.length))] [])) (fun tgt kt => ?_) ?_
  · refine XS.goto H hx rfl (pc0 := 38) (pc' := 97) rfl (hb hby ek_38) (by decide) (by decide) ?_
    exact kt
  have z17 : Exa Z z11 z "java/lang/String" := (zy.keep z14)
  have z18 : Fld Z z11 z "java/lang/String" "coder" "B" (.int 0) := ((zm.keep zu nin0).other z13 (Or.inr (slot_ne (Or.inr (wI hw 26 rfl)) (Or.inr (wI hw 24 rfl)) (by decide) (t := .byte) (t' := (.array .byte)) (by decide) (by decide))))
  have z19 : Arv Z z11 t_896 k_897 .byte (Int32.ofNat cs.length) (cs.map fun c => Value.int (c.toInt8.toInt32)) (.int 0) := (zw.keep z14 (ninS (Ne.symm (nL (lL (lL F0.lt (zn.1)) zv))) nin0))
  exact Jvm.Y9.Aim.retV z12 hx hlk hret (hb hby ek_97) (by decide) (by decide) ⟨t_896, k_897, rfl, z16, (lT (zn.1) zv), ⟨z17, z15, z18, z19, hr, by omega⟩⟩
theorem ep_0 : decode jdk_42_method_53_code 0 = .ok (.aload_n 0, 1) := by decide +kernel
theorem ep_1 : decode jdk_42_method_53_code 1 = .ok (.aload_n 1, 1) := by decide +kernel
theorem ep_2 : decode jdk_42_method_53_code 2 = .ok (.aconst_null, 1) := by decide +kernel
theorem ep_3 : decode jdk_42_method_53_code 3 = .ok (.invokespecial 489, 3) := by decide +kernel
theorem pd__28Ljava_2flang_2fAbstractStringBuilder_3bLjava_2flang_2fVoid_3b_29V : parseMethodDescriptor "(Ljava/lang/AbstractStringBuilder;Ljava/lang/Void;)V" = some ⟨[(.object "java/lang/AbstractStringBuilder"), (.object "java/lang/Void")], none⟩ := by decide +kernel
theorem ep_6 : decode jdk_42_method_53_code 6 = .ok (.return_, 1) := by decide +kernel
theorem own_sS (l : Launch) (Z : State) (a0 : Array Value) (hw : ∀ d ∈ tables_1, d.before a0 Z = true) (z : Addr) (x : Addr) (t : Addr) (kb : ClassId) (cs : List Int32) (cap : Nat) (v0 : Value) (c0 : Value) (h0 : Heap) (n0 : Nat) (Z0 : n0 ≤ h0.size) (g_z : n0 ≤ z) (F0 : Exa Z h0 z "java/lang/String") (F1 : Fld Z h0 z "java/lang/String" "value" "[B" v0) (F2 : Fld Z h0 z "java/lang/String" "coder" "B" c0) (F3 : Bld Z h0 x t kb cs cap) (F4 : Old Z n0 h0) (hl : cs.length < cap) (hc : cap ≤ 16) (hr : ∀ c ∈ cs, ¬ c < 0 ∧ ¬ (255 : Int32) < c) (nzx : z ≠ x) (nzt : z ≠ t) (G : Cmp Z) :
    Jvm.Y9.Con l Z (⟨"java/lang/String", "<init>", "(Ljava/lang/StringBuilder;)V"⟩ : MethodName) jdk_42_method_53_code 2 none ({ frames := 4, cells := 1, slots := 16, locals := 65 } : Room) n0 #[(.ref z), (.ref x)] h0 (fun v h => ∃ t2 : Addr, ∃ k2 : ClassId, v = none ∧ Keep h0 h [z] ∧ h0.size ≤ t2 ∧ Str Z h z t2 k2 cs) := by
  refine Jvm.Y9.Con.intro (plainFor_of_name pn_java_lang_String) ?_
  intro p e s m below meth c s₁ hx hby hml hret hnm hown hlk hZ P0
  refine Jvm.Y9.Aim.cast (by first | (simp [entryFrame, mkF, argsToLocals, Value.category]; done) | rfl : entryFrame m #[(.ref z), (.ref x)] 2 = (mkF m 0 #[.val (.ref z), .val (.ref x)] [])) ?_
  have H := P0.here
  refine Jvm.Y9.Aim.of (T' := s₁) (g' := (mkF m 3 #[.val (.ref z), .val (.ref x)] [.null, (.ref x), (.ref z)])) (fun tgt kt => ?_) ?_
  · refine XS.aloadN H hx rfl (hb hby ep_0) rfl rfl ?_
    refine XS.aloadN H hx rfl (hb hby ep_1) rfl rfl ?_
    refine XS.aconstNull H hx rfl (hb hby ep_2) ?_
    exact kt
  refine Jvm.Y9.Aim.callC (argsL := [(.ref x), .null]) (rest := []) P0 hx hZ hml hown rfl (wI hw 339 rfl) (wI hw 340 rfl) (wI hw 341 rfl) (by decide) (Jvm.Y9.Con.back (W := 0) (own_sA l Z a0 hw z x t kb cs cap v0 c0 h0 n0 Z0 g_z F0 F1 F2 F3 F4 hl hc hr nzx nzt G) hZ (wI hw 341 rfl) (wI hw 3 rfl) (by decide) (by decide)) rfl pd__28Ljava_2flang_2fAbstractStringBuilder_3bLjava_2flang_2fVoid_3b_29V rfl (Nat.le_of_eq rfl) (hb hby ep_3) (by decide) (by decide) ?_
  intro z0 z1 z2 z3 z4
  obtain ⟨t_921, k_922, rfl, z5, z6, z7⟩ := z4
  have z8 : Keep h0 z1 [z] := (Keep.refl h0 [z]).trans z5 (allS (Or.inl (List.mem_of_getElem? (i := 0) rfl)) all0)
  exact Jvm.Y9.Aim.retV z3 hx hlk hret (hb hby ep_6) (by decide) (by decide) ⟨t_921, k_922, rfl, z8, (lT (Nat.le_refl _) z6), z7⟩
theorem e17_0 : decode jdk_67_method_42_code 0 = .ok (.new 18, 3) := by decide +kernel
theorem e17_3 : decode jdk_67_method_42_code 3 = .ok (.dup, 1) := by decide +kernel
theorem e17_4 : decode jdk_67_method_42_code 4 = .ok (.aload_n 0, 1) := by decide +kernel
theorem e17_5 : decode jdk_67_method_42_code 5 = .ok (.invokespecial 137, 3) := by decide +kernel
theorem pd__28Ljava_2flang_2fStringBuilder_3b_29V : parseMethodDescriptor "(Ljava/lang/StringBuilder;)V" = some ⟨[(.object "java/lang/StringBuilder")], none⟩ := by decide +kernel
theorem e17_8 : decode jdk_67_method_42_code 8 = .ok (.areturn, 1) := by decide +kernel
theorem own_ts (l : Launch) (Z : State) (a0 : Array Value) (hw : ∀ d ∈ tables_1, d.before a0 Z = true) (x : Addr) (t : Addr) (kb : ClassId) (cs : List Int32) (cap : Nat) (h0 : Heap) (n0 : Nat) (Z0 : n0 ≤ h0.size) (F0 : Bld Z h0 x t kb cs cap) (F1 : Old Z n0 h0) (hl : cs.length < cap) (hc : cap ≤ 16) (hr : ∀ c ∈ cs, ¬ c < 0 ∧ ¬ (255 : Int32) < c) (G : Cmp Z) :
    Jvm.Y9.Con l Z (⟨"java/lang/StringBuilder", "toString", "()Ljava/lang/String;"⟩ : MethodName) jdk_67_method_42_code 1 (some (.object "java/lang/String")) ({ frames := 5, cells := 2, slots := 20, locals := 79 } : Room) n0 #[(.ref x)] h0 (fun v h => ∃ z : Addr, ∃ t2 : Addr, ∃ k2 : ClassId, v = some (.ref z) ∧ Keep h0 h [] ∧ h0.size ≤ z ∧ h0.size ≤ t2 ∧ Str Z h z t2 k2 cs) := by
  refine Jvm.Y9.Con.intro (plainFor_of_name pn_java_lang_StringBuilder) ?_
  intro p e s m below meth c s₁ hx hby hml hret hnm hown hlk hZ P0
  refine Jvm.Y9.Aim.cast (by first | (simp [entryFrame, mkF, argsToLocals, Value.category]; done) | rfl : entryFrame m #[(.ref x)] 1 = (mkF m 0 #[.val (.ref x)] [])) ?_
  refine Jvm.Y9.Aim.newO P0 hx hZ hown (wI hw 335 rfl) (wI hw 11 rfl) (wI hw 3 rfl) (hb hby e17_0) (by decide) (by decide) ?_
  intro z0 z1 z2 z3 z4 z5 z6 z7 z8
  have z9 : Keep h0 z1 [] := (Keep.refl _ _).ext z5
  have za : Keep h0 z1 [] := (Keep.refl h0 []).trans z9 all0
  have zb : Fld Z z1 z2 "java/lang/String" "value" "[B" .null := z7 (Or.inr (wI hw 24 rfl)) (ty := (.array .byte)) (by decide)
  have zc : Fld Z z1 z2 "java/lang/String" "coder" "B" (.int 0) := z7 (Or.inr (wI hw 26 rfl)) (ty := .byte) (by decide)
  have H := z4.here
  refine Jvm.Y9.Aim.of (T' := z0) (g' := (mkF m 5 #[.val (.ref x)] [(.ref x), (.ref z2), (.ref z2)])) (fun tgt kt => ?_) ?_
  · refine XS.dup H hx rfl (hb hby e17_3) rfl rfl ?_
    refine XS.aloadN H hx rfl (hb hby e17_4) rfl rfl ?_
    exact kt
  have zd : Bld Z z1 x t kb cs cap := (F0.keep z9 nin0 nin0)
  have ze : Old Z n0 z1 := (F1.keep z9 all0)
  refine Jvm.Y9.Aim.callC (argsL := [(.ref x)]) (rest := [(.ref z2)]) z4 hx hZ hml hown rfl (wI hw 336 rfl) (wI hw 337 rfl) (wI hw 338 rfl) (by decide) (Jvm.Y9.Con.back (W := 1) (own_sS l Z a0 hw z2 x t kb cs cap (.null) (.int 0) z1 n0 (lT Z0 (za.1)) (lT Z0 (Nat.le_of_eq z3.symm)) z6 zb zc zd ze hl hc hr (Ne.symm (nL (lL F0.1.lt (Nat.le_of_eq z3.symm)))) (Ne.symm (nL (lL F0.2.2.2.2.lt (Nat.le_of_eq z3.symm)))) G) hZ (wI hw 338 rfl) (wI hw 3 rfl) (by decide) (by decide)) rfl pd__28Ljava_2flang_2fStringBuilder_3b_29V rfl (Nat.le_of_eq rfl) (hb hby e17_5) (by decide) (by decide) ?_
  intro zf zg zh zi zj
  obtain ⟨t_949, k_950, rfl, zk, zl, zm⟩ := zj
  have zn : Keep h0 zg [] := za.trans zk (allS (Or.inr (lT (Nat.le_refl _) (Nat.le_of_eq z3.symm))) all0)
  exact Jvm.Y9.Aim.retA zi hx hlk hret rfl rfl (hb hby e17_8) (by decide) (by decide) ⟨z2, t_949, k_950, rfl, zn, (lT (Nat.le_refl _) (Nat.le_of_eq z3.symm)), (lT (za.1) zl), zm⟩
theorem es_0 : decode jdk_42_method_66_code 0 = .ok (.aload_n 0, 1) := by decide +kernel
theorem es_1 : decode jdk_42_method_66_code 1 = .ok (.aload_n 1, 1) := by decide +kernel
theorem es_2 : decode jdk_42_method_66_code 2 = .ok (.if_acmp .ne 5, 3) := by decide +kernel
theorem es_5 : decode jdk_42_method_66_code 5 = .ok (.iconst 1, 1) := by decide +kernel
theorem es_6 : decode jdk_42_method_66_code 6 = .ok (.ireturn, 1) := by decide +kernel
theorem own_eqS (l : Launch) (Z : State) (a0 : Array Value) (hw : ∀ d ∈ tables_1, d.before a0 Z = true) (x : Addr) (h0 : Heap) (n0 : Nat) (Z0 : n0 ≤ h0.size) :
    Jvm.Y9.Con l Z (⟨"java/lang/String", "equals", "(Ljava/lang/Object;)Z"⟩ : MethodName) jdk_42_method_66_code 3 (some .boolean) ({ frames := 0, cells := 0, slots := 0, locals := 0 } : Room) n0 #[(.ref x), (.ref x)] h0 (fun v h => v = some (.int 1) ∧ h0 = h) := by
  refine Jvm.Y9.Con.intro (plainFor_of_name pn_java_lang_String) ?_
  intro p e s m below meth c s₁ hx hby hml hret hnm hown hlk hZ P0
  refine Jvm.Y9.Aim.cast (by first | (simp [entryFrame, mkF, argsToLocals, Value.category]; done) | rfl : entryFrame m #[(.ref x), (.ref x)] 3 = (mkF m 0 #[.val (.ref x), .val (.ref x), .unset] [])) ?_
  have H := P0.here
  refine Jvm.Y9.Aim.of (T' := s₁) (g' := (mkF m 6 #[.val (.ref x), .val (.ref x), .unset] [(.int 1)])) (fun tgt kt => ?_) ?_
  · refine XS.aloadN H hx rfl (hb hby es_0) rfl rfl ?_
    refine XS.aloadN H hx rfl (hb hby es_1) rfl rfl ?_
    refine XT.acmpNo H hx rfl (hb hby es_2) rfl rfl rfl (Jvm.Y9.own_acmpNeT rfl rfl rfl) ?_
    refine XS.iconst H hx rfl (hb hby es_5) ?_
    exact kt
  exact Jvm.Y9.Aim.retN (t := .boolean) P0 hx hlk hret (by simp) (hb hby es_6) (by decide) (by decide) ⟨rfl, rfl⟩
theorem eu_0 : decode jdk_43_method_3_code 0 = .ok (.iload_n 0, 1) := by decide +kernel
theorem eu_1 : decode jdk_43_method_3_code 1 = .ok (.sipush 255, 3) := by decide +kernel
theorem eu_4 : decode jdk_43_method_3_code 4 = .ok (.if_icmp .gt 7, 3) := by decide +kernel
theorem eu_7 : decode jdk_43_method_3_code 7 = .ok (.iconst 1, 1) := by decide +kernel
theorem eu_8 : decode jdk_43_method_3_code 8 = .ok (.goto 4, 3) := by decide +kernel
theorem eu_12 : decode jdk_43_method_3_code 12 = .ok (.ireturn, 1) := by decide +kernel
theorem own_can (l : Launch) (Z : State) (a0 : Array Value) (hw : ∀ d ∈ tables_1, d.before a0 Z = true) (ch : Int32) (h0 : Heap) (n0 : Nat) (Z0 : n0 ≤ h0.size) (hc : ¬ ((255 : Int32) < ch)) :
    Jvm.Y9.Con l Z (⟨"java/lang/StringLatin1", "canEncode", "(C)Z"⟩ : MethodName) jdk_43_method_3_code 1 (some .boolean) ({ frames := 0, cells := 0, slots := 0, locals := 0 } : Room) n0 #[(.int ch)] h0 (fun v h => v = some (.int 1) ∧ h0 = h) := by
  refine Jvm.Y9.Con.intro (plainFor_of_name pn_java_lang_StringLatin1) ?_
  intro p e s m below meth c s₁ hx hby hml hret hnm hown hlk hZ P0
  refine Jvm.Y9.Aim.cast (by first | (simp [entryFrame, mkF, argsToLocals, Value.category]; done) | rfl : entryFrame m #[(.int ch)] 1 = (mkF m 0 #[.val (.int ch)] [])) ?_
  have H := P0.here
  refine Jvm.Y9.Aim.of (T' := s₁) (g' := (mkF m 12 #[.val (.int ch)] [(.int 1)])) (fun tgt kt => ?_) ?_
  · refine XS.iloadN H hx rfl (hb hby eu_0) rfl ?_
    refine XS.sipush H hx rfl (hb hby eu_1) ?_
    refine XS.icmpNo H hx rfl (hb hby eu_4) rfl (flt hc).2.2.1 ?_
    refine XS.iconst H hx rfl (hb hby eu_7) ?_
    refine XS.goto H hx rfl (pc0 := 8) (pc' := 12) rfl (hb hby eu_8) (by decide) (by decide) ?_
    exact kt
  exact Jvm.Y9.Aim.retN (t := .boolean) P0 hx hlk hret (by simp) (hb hby eu_12) (by decide) (by decide) ⟨rfl, rfl⟩
theorem ev_0 : decode jdk_43_method_46_code 0 = .ok (.iconst 1, 1) := by decide +kernel
theorem ev_1 : decode jdk_43_method_46_code 1 = .ok (.newarray .byte, 2) := by decide +kernel
theorem ev_3 : decode jdk_43_method_46_code 3 = .ok (.dup, 1) := by decide +kernel
theorem ev_4 : decode jdk_43_method_46_code 4 = .ok (.iconst 0, 1) := by decide +kernel
theorem ev_5 : decode jdk_43_method_46_code 5 = .ok (.iload_n 0, 1) := by decide +kernel
theorem ev_6 : decode jdk_43_method_46_code 6 = .ok (.i2b, 1) := by decide +kernel
theorem ev_7 : decode jdk_43_method_46_code 7 = .ok (.bastore, 1) := by decide +kernel
theorem ev_8 : decode jdk_43_method_46_code 8 = .ok (.areturn, 1) := by decide +kernel
theorem own_toB (l : Launch) (Z : State) (a0 : Array Value) (hw : ∀ d ∈ tables_1, d.before a0 Z = true) (ch : Int32) (h0 : Heap) (n0 : Nat) (Z0 : n0 ≤ h0.size) :
    Jvm.Y9.Con l Z (⟨"java/lang/StringLatin1", "toBytes", "(C)[B"⟩ : MethodName) jdk_43_method_46_code 1 (some (.array .byte)) ({ frames := 0, cells := 1, slots := 1, locals := 0 } : Room) n0 #[(.int ch)] h0 (fun v h => ∃ b : Addr, ∃ kk : ClassId, v = some (.ref b) ∧ Keep h0 h [] ∧ h0.size ≤ b ∧ Arv Z h b kk .byte (1 : Int32) [(.int ch.toInt8.toInt32)] (.int 0)) := by
  refine Jvm.Y9.Con.intro (plainFor_of_name pn_java_lang_StringLatin1) ?_
  intro p e s m below meth c s₁ hx hby hml hret hnm hown hlk hZ P0
  refine Jvm.Y9.Aim.cast (by first | (simp [entryFrame, mkF, argsToLocals, Value.category]; done) | rfl : entryFrame m #[(.int ch)] 1 = (mkF m 0 #[.val (.int ch)] [])) ?_
  have H := P0.here
  refine Jvm.Y9.Aim.of (T' := s₁) (g' := (mkF m 1 #[.val (.int ch)] [(.int 1)])) (fun tgt kt => ?_) ?_
  · refine XS.iconst H hx rfl (hb hby ev_0) ?_
    exact kt
  refine Jvm.Y9.Aim.newP (z := (1 : Int32)) P0 hx hZ (wI hw 15 rfl) (hb hby ev_1) (by decide) (cap := 1) (by decide) (by decide) (by decide) (by decide) ?_
  intro z0 z1 z2 z3 z4 z5 z6 z7
  have z8 : Keep h0 z1 [] := (Keep.refl _ _).ext z6
  have z9 : Keep h0 z1 [] := (Keep.refl h0 []).trans z8 all0
  have za : Arv Z z1 z3 z2 .byte (1 : Int32) [(.int 0)] (.int 0) := z7.pad (pad_rep [] (.int 0) 1)
  have H := z5.here
  refine Jvm.Y9.Aim.of (T' := z0) (g' := (mkF m 7 #[.val (.int ch)] [(.int (ch.toInt8.toInt32)), (.int 0), (.ref z3), (.ref z3)])) (fun tgt kt => ?_) ?_
  · refine XS.dup H hx rfl (hb hby ev_3) rfl rfl ?_
    refine XS.iconst H hx rfl (hb hby ev_4) ?_
    refine XS.iloadN H hx rfl (hb hby ev_5) rfl ?_
    refine XS.i2b H hx rfl (hb hby ev_6) rfl ?_
    exact kt
  refine Jvm.Y9.Aim.stB (x := (ch.toInt8.toInt32)) (j := (0 : Int32)) z5 hx hZ za ⟨by decide, by decide⟩ 0 rfl (Nat.le_of_ble_eq_true rfl) (hb hby ev_7) (lT Z0 (Nat.le_of_eq z4.symm)) ?_
  intro zb zc zd ze zf
  replace zf : Arv Z zc z3 z2 .byte (1 : Int32) [(.int (ch.toInt8.toInt32).toInt8.toInt32)] (.int 0) := zf
  have zg : Keep h0 zc [] := z9.trans ze (allS (Or.inr (lT (Nat.le_refl _) (Nat.le_of_eq z4.symm))) all0)
  exact Jvm.Y9.Aim.retA zd hx hlk hret rfl rfl (hb hby ev_8) (by decide) (by decide) ⟨z3, z2, rfl, zg, (lT (Nat.le_refl _) (Nat.le_of_eq z4.symm)), (own_i8 ch ▸ zf)⟩
theorem el_0 : decode jdk_42_method_151_code 0 = .ok (.aload_n 0, 1) := by decide +kernel
theorem el_1 : decode jdk_42_method_151_code 1 = .ok (.invokespecial 1, 3) := by decide +kernel
theorem el_4 : decode jdk_42_method_151_code 4 = .ok (.aload_n 0, 1) := by decide +kernel
theorem el_5 : decode jdk_42_method_151_code 5 = .ok (.aload_n 1, 1) := by decide +kernel
theorem el_6 : decode jdk_42_method_151_code 6 = .ok (.putfield 9, 3) := by decide +kernel
theorem el_9 : decode jdk_42_method_151_code 9 = .ok (.aload_n 0, 1) := by decide +kernel
theorem el_10 : decode jdk_42_method_151_code 10 = .ok (.iload_n 2, 1) := by decide +kernel
theorem el_11 : decode jdk_42_method_151_code 11 = .ok (.putfield 15, 3) := by decide +kernel
theorem el_14 : decode jdk_42_method_151_code 14 = .ok (.return_, 1) := by decide +kernel
theorem own_sBB (l : Launch) (Z : State) (a0 : Array Value) (hw : ∀ d ∈ tables_1, d.before a0 Z = true) (x : Addr) (b : Addr) (v0 : Value) (c0 : Value) (h0 : Heap) (n0 : Nat) (Z0 : n0 ≤ h0.size) (g_x : n0 ≤ x) (F0 : Exa Z h0 x "java/lang/String") (F1 : Fld Z h0 x "java/lang/String" "value" "[B" v0) (F2 : Fld Z h0 x "java/lang/String" "coder" "B" c0) :
    Jvm.Y9.Con l Z (⟨"java/lang/String", "<init>", "([BB)V"⟩ : MethodName) jdk_42_method_151_code 3 none ({ frames := 1, cells := 0, slots := 0, locals := 12 } : Room) n0 #[(.ref x), (.ref b), (.int 0)] h0 (fun v h => v = none ∧ Keep h0 h [x] ∧ Exa Z h x "java/lang/String" ∧ Fld Z h x "java/lang/String" "value" "[B" (.ref b) ∧ Fld Z h x "java/lang/String" "coder" "B" (.int 0)) := by
  refine Jvm.Y9.Con.intro (plainFor_of_name pn_java_lang_String) ?_
  intro p e s m below meth c s₁ hx hby hml hret hnm hown hlk hZ P0
  refine Jvm.Y9.Aim.cast (by first | (simp [entryFrame, mkF, argsToLocals, Value.category]; done) | rfl : entryFrame m #[(.ref x), (.ref b), (.int 0)] 3 = (mkF m 0 #[.val (.ref x), .val (.ref b), .val (.int 0)] [])) ?_
  have H := P0.here
  refine Jvm.Y9.Aim.of (T' := s₁) (g' := (mkF m 1 #[.val (.ref x), .val (.ref b), .val (.int 0)] [(.ref x)])) (fun tgt kt => ?_) ?_
  · refine XS.aloadN H hx rfl (hb hby el_0) rfl rfl ?_
    exact kt
  refine Jvm.Y9.Aim.initO P0 hx hZ hml hown (wI hw 20 rfl) (wI hw 21 rfl) (wI hw 22 rfl) rfl (hb hby el_1) (by decide) (Nat.le_of_ble_eq_true rfl) ?_
  intro z0 z1
  have H := z1.here
  refine Jvm.Y9.Aim.of (T' := z0) (g' := (mkF m 6 #[.val (.ref x), .val (.ref b), .val (.int 0)] [(.ref b), (.ref x)])) (fun tgt kt => ?_) ?_
  · refine XS.aloadN H hx rfl (hb hby el_4) rfl rfl ?_
    refine XS.aloadN H hx rfl (hb hby el_5) rfl rfl ?_
    exact kt
  refine Jvm.Y9.Aim.putF (v := (.ref b)) z1 hx hZ hown (host := "") (Or.inl (wI hw 23 rfl)) Via.refl F1 F0 (Or.inr ⟨(wI hw 24 rfl), rfl, hnm⟩) (wI hw 11 rfl) (ty := (.array .byte)) (by decide) rfl rfl (hb hby el_6) g_x ?_
  intro z2 z3 z4 z5
  have z6 := Keep.of_wr z5
  have z7 : Fld Z z3 x "java/lang/String" "value" "[B" (.ref b) := F1.same z5
  have z8 : Keep h0 z3 [x] := (Keep.refl h0 [x]).trans z6 (allS (Or.inl (List.mem_of_getElem? (i := 0) rfl)) all0)
  have H := z4.here
  refine Jvm.Y9.Aim.of (T' := z2) (g' := (mkF m 11 #[.val (.ref x), .val (.ref b), .val (.int 0)] [(.int 0), (.ref x)])) (fun tgt kt => ?_) ?_
  · refine XS.aloadN H hx rfl (hb hby el_9) rfl rfl ?_
    refine XS.iloadN H hx rfl (hb hby el_10) rfl ?_
    exact kt
  have z9 : Exa Z z3 x "java/lang/String" := (F0.keep z6)
  have za : Fld Z z3 x "java/lang/String" "coder" "B" c0 := (F2.other z5 (Or.inr (slot_ne (Or.inr (wI hw 26 rfl)) (Or.inr (wI hw 24 rfl)) (by decide) (t := .byte) (t' := (.array .byte)) (by decide) (by decide))))
  refine Jvm.Y9.Aim.putF (v := (.int 0)) z4 hx hZ hown (host := "") (Or.inl (wI hw 25 rfl)) Via.refl za z9 (Or.inr ⟨(wI hw 26 rfl), rfl, hnm⟩) (wI hw 11 rfl) (ty := .byte) (by decide) rfl rfl (hb hby el_11) g_x ?_
  intro zb zc zd ze
  have zf := Keep.of_wr ze
  have zg : Fld Z zc x "java/lang/String" "coder" "B" (.int 0) := za.same ze
  have zh : Keep h0 zc [x] := z8.trans zf (allS (Or.inl (List.mem_of_getElem? (i := 0) rfl)) all0)
  have zi : Exa Z zc x "java/lang/String" := (z9.keep zf)
  have zj : Fld Z zc x "java/lang/String" "value" "[B" (.ref b) := (z7.other ze (Or.inr (slot_ne (Or.inr (wI hw 24 rfl)) (Or.inr (wI hw 26 rfl)) (by decide) (t := (.array .byte)) (t' := .byte) (by decide) (by decide))))
  exact Jvm.Y9.Aim.retV zd hx hlk hret (hb hby el_14) (by decide) (by decide) ⟨rfl, zh, zi, zj, zg⟩
theorem ei_0 : decode jdk_42_method_139_code 0 = .ok (.getstatic 38, 3) := by decide +kernel
theorem ei_3 : decode jdk_42_method_139_code 3 = .ok (.ifCond .eq 23, 3) := by decide +kernel
theorem ei_6 : decode jdk_42_method_139_code 6 = .ok (.iload_n 0, 1) := by decide +kernel
theorem ei_7 : decode jdk_42_method_139_code 7 = .ok (.invokestatic 1015, 3) := by decide +kernel
theorem pd__28C_29Z : parseMethodDescriptor "(C)Z" = some ⟨[.char], some .boolean⟩ := by decide +kernel
theorem ei_10 : decode jdk_42_method_139_code 10 = .ok (.ifCond .eq 16, 3) := by decide +kernel
theorem ei_13 : decode jdk_42_method_139_code 13 = .ok (.new 10, 3) := by decide +kernel
theorem ei_16 : decode jdk_42_method_139_code 16 = .ok (.dup, 1) := by decide +kernel
theorem ei_17 : decode jdk_42_method_139_code 17 = .ok (.iload_n 0, 1) := by decide +kernel
theorem ei_18 : decode jdk_42_method_139_code 18 = .ok (.invokestatic 1018, 3) := by decide +kernel
theorem pd__28C_29_5bB : parseMethodDescriptor "(C)[B" = some ⟨[.char], some (.array .byte)⟩ := by decide +kernel
theorem ei_21 : decode jdk_42_method_139_code 21 = .ok (.iconst 0, 1) := by decide +kernel
theorem ei_22 : decode jdk_42_method_139_code 22 = .ok (.invokespecial 209, 3) := by decide +kernel
theorem pd__28_5bBB_29V : parseMethodDescriptor "([BB)V" = some ⟨[(.array .byte), .byte], none⟩ := by decide +kernel
theorem ei_25 : decode jdk_42_method_139_code 25 = .ok (.areturn, 1) := by decide +kernel
theorem own_valueOf (l : Launch) (Z : State) (a0 : Array Value) (hw : ∀ d ∈ tables_1, d.before a0 Z = true) (ch : Int32) (h0 : Heap) (n0 : Nat) (Z0 : n0 ≤ h0.size) (F0 : Old Z n0 h0) (hc : ¬ ch < 0 ∧ ¬ (255 : Int32) < ch) (G : Cmp Z) :
    Jvm.Y9.Con l Z (⟨"java/lang/String", "valueOf", "(C)Ljava/lang/String;"⟩ : MethodName) jdk_42_method_139_code 1 (some (.object "java/lang/String")) ({ frames := 2, cells := 2, slots := 5, locals := 27 } : Room) n0 #[(.int ch)] h0 (fun v h => ∃ x : Addr, ∃ t : Addr, ∃ kb : ClassId, v = some (.ref x) ∧ Keep h0 h [] ∧ h0.size ≤ x ∧ h0.size ≤ t ∧ Str Z h x t kb [ch]) := by
  refine Jvm.Y9.Con.intro (plainFor_of_name pn_java_lang_String) ?_
  intro p e s m below meth c s₁ hx hby hml hret hnm hown hlk hZ P0
  refine Jvm.Y9.Aim.cast (by first | (simp [entryFrame, mkF, argsToLocals, Value.category]; done) | rfl : entryFrame m #[(.int ch)] 1 = (mkF m 0 #[.val (.int ch)] [])) ?_
  obtain ⟨zc, hzc, Szc⟩ := id G
  refine Jvm.Y9.Aim.getS P0 hx hZ hown (wI hw 5 rfl) Via.refl (Szc.ext F0.2) (hb hby ei_0) ?_
  intro z0 z1
  have H := z1.here
  refine Jvm.Y9.Aim.of (T' := z0) (g' := (mkF m 7 #[.val (.int ch)] [(.int ch)])) (fun tgt kt => ?_) ?_
  · refine XS.ifNo H hx rfl (hb hby ei_3) rfl ((if0 _ _).trans (feq hzc).1) ?_
    refine XS.iloadN H hx rfl (hb hby ei_6) rfl ?_
    exact kt
  refine Jvm.Y9.Aim.callS (argsL := [(.int ch)]) (rest := []) z1 hx hZ hml hown (wI hw 6 rfl) (wI hw 7 rfl) (wI hw 8 rfl) (wI hw 9 rfl) (by decide) (Jvm.Y9.Con.back (W := 0) (own_can l Z a0 hw ch h0 n0 Z0 (hc.2)) hZ (wI hw 9 rfl) (wI hw 8 rfl) (by decide) (by decide)) rfl pd__28C_29Z rfl (Nat.le_of_eq rfl) (hb hby ei_7) (by decide) (by decide) ?_
  intro z2 z3 z4 z5 z6
  obtain ⟨rfl, rfl⟩ := z6
  have H := z5.here
  refine Jvm.Y9.Aim.of (T' := z2) (g' := (mkF m 13 #[.val (.int ch)] [])) (fun tgt kt => ?_) ?_
  · refine XS.ifNo H hx rfl (hb hby ei_10) rfl ((if0 _ _).trans (feq (by decide)).1) ?_
    exact kt
  refine Jvm.Y9.Aim.newO z5 hx hZ hown (wI hw 10 rfl) (wI hw 11 rfl) (wI hw 3 rfl) (hb hby ei_13) (by decide) (by decide) ?_
  intro z7 z8 z9 za zb zd ze zf zg
  have zh : Keep h0 z8 [] := (Keep.refl _ _).ext zd
  have zi : Keep h0 z8 [] := (Keep.refl h0 []).trans zh all0
  have zj : Fld Z z8 z9 "java/lang/String" "value" "[B" .null := zf (Or.inr (wI hw 24 rfl)) (ty := (.array .byte)) (by decide)
  have zk : Fld Z z8 z9 "java/lang/String" "coder" "B" (.int 0) := zf (Or.inr (wI hw 26 rfl)) (ty := .byte) (by decide)
  have H := zb.here
  refine Jvm.Y9.Aim.of (T' := z7) (g' := (mkF m 18 #[.val (.int ch)] [(.int ch), (.ref z9), (.ref z9)])) (fun tgt kt => ?_) ?_
  · refine XS.dup H hx rfl (hb hby ei_16) rfl rfl ?_
    refine XS.iloadN H hx rfl (hb hby ei_17) rfl ?_
    exact kt
  refine Jvm.Y9.Aim.callS (argsL := [(.int ch)]) (rest := [(.ref z9), (.ref z9)]) zb hx hZ hml hown (wI hw 12 rfl) (wI hw 13 rfl) (wI hw 8 rfl) (wI hw 14 rfl) (by decide) (Jvm.Y9.Con.back (W := 2) (own_toB l Z a0 hw ch z8 n0 (lT Z0 (zi.1))) hZ (wI hw 14 rfl) (wI hw 8 rfl) (by decide) (by decide)) rfl pd__28C_29_5bB rfl (Nat.le_of_eq rfl) (hb hby ei_18) (by decide) (by decide) ?_
  intro zl zm zn zo zp
  obtain ⟨b_1022, kk_1023, rfl, zq, zr, zs⟩ := zp
  have zt : Keep h0 zm [] := zi.trans zq all0
  have H := zo.here
  refine Jvm.Y9.Aim.of (T' := zl) (g' := (mkF m 22 #[.val (.int ch)] [(.int 0), (.ref b_1022), (.ref z9), (.ref z9)])) (fun tgt kt => ?_) ?_
  · refine XS.iconst H hx rfl (hb hby ei_21) ?_
    exact kt
  have zu : Exa Z zm z9 "java/lang/String" := (ze.keep zq)
  have zv : Fld Z zm z9 "java/lang/String" "value" "[B" .null := (zj.keep zq nin0)
  have zw : Fld Z zm z9 "java/lang/String" "coder" "B" (.int 0) := (zk.keep zq nin0)
  refine Jvm.Y9.Aim.callC (argsL := [(.ref b_1022), (.int 0)]) (rest := [(.ref z9)]) zo hx hZ hml hown rfl (wI hw 16 rfl) (wI hw 17 rfl) (wI hw 19 rfl) (by decide) (Jvm.Y9.Con.back (W := 1) (own_sBB l Z a0 hw z9 b_1022 (.null) (.int 0) zm n0 (lT Z0 (zt.1)) (lT Z0 (Nat.le_of_eq za.symm)) zu zv zw) hZ (wI hw 19 rfl) (wI hw 3 rfl) (by decide) (by decide)) rfl pd__28_5bBB_29V rfl (Nat.le_of_eq rfl) (hb hby ei_22) (by decide) (by decide) ?_
  intro zx zy zz z10 z11
  obtain ⟨rfl, z12, z13, z14, z15⟩ := z11
  have z16 : Keep h0 zy [] := zt.trans z12 (allS (Or.inr (lT (Nat.le_refl _) (Nat.le_of_eq za.symm))) all0)
  have z17 : Arv Z zy b_1022 kk_1023 .byte (1 : Int32) [(.int ch.toInt8.toInt32)] (.int 0) := (zs.keep z12 (ninS (Ne.symm (nL (lL ze.lt zr))) nin0))
  exact Jvm.Y9.Aim.retA z10 hx hlk hret rfl rfl (hb hby ei_25) (by decide) (by decide) ⟨z9, b_1022, kk_1023, rfl, z16, (lT (Nat.le_refl _) (Nat.le_of_eq za.symm)), (lT (zi.1) zr), ⟨z13, z14, z15, z17, fun d q => (List.mem_singleton.mp q) ▸ hc, by simp⟩⟩
theorem e1n_0 : decode prog_26_method_3_code 0 = .ok (.new 83, 3) := by decide +kernel
theorem e1n_3 : decode prog_26_method_3_code 3 = .ok (.dup, 1) := by decide +kernel
theorem e1n_4 : decode prog_26_method_3_code 4 = .ok (.invokespecial 85, 3) := by decide +kernel
theorem e1n_7 : decode prog_26_method_3_code 7 = .ok (.ldc 86, 2) := by decide +kernel
theorem e1n_9 : decode prog_26_method_3_code 9 = .ok (.invokevirtual 88, 3) := by decide +kernel
theorem pd__28Ljava_2flang_2fString_3b_29Ljava_2flang_2fStringBuilder_3b : parseMethodDescriptor "(Ljava/lang/String;)Ljava/lang/StringBuilder;" = some ⟨[(.object "java/lang/String")], some (.object "java/lang/StringBuilder")⟩ := by decide +kernel
theorem e1n_12 : decode prog_26_method_3_code 12 = .ok (.iload_n 0, 1) := by decide +kernel
theorem e1n_13 : decode prog_26_method_3_code 13 = .ok (.iconst 1, 1) := by decide +kernel
theorem e1n_14 : decode prog_26_method_3_code 14 = .ok (.iadd, 1) := by decide +kernel
theorem e1n_15 : decode prog_26_method_3_code 15 = .ok (.invokevirtual 92, 3) := by decide +kernel
theorem pd__28I_29Ljava_2flang_2fStringBuilder_3b : parseMethodDescriptor "(I)Ljava/lang/StringBuilder;" = some ⟨[.int], some (.object "java/lang/StringBuilder")⟩ := by decide +kernel
theorem e1n_18 : decode prog_26_method_3_code 18 = .ok (.invokevirtual 95, 3) := by decide +kernel
theorem pd__28_29Ljava_2flang_2fString_3b : parseMethodDescriptor "()Ljava/lang/String;" = some ⟨[], some (.object "java/lang/String")⟩ := by decide +kernel
theorem e1n_21 : decode prog_26_method_3_code 21 = .ok (.areturn, 1) := by decide +kernel
theorem pn_com_example_metsmith_metsmith_Mets : plainName "com/example/metsmith/metsmith/Mets" = true := by first | (simp [plainName, overriddenIn]; done) | decide +kernel
theorem own_fid (l : Launch) (Z : State) (a0 : Array Value) (hw : ∀ d ∈ tables_1, d.before a0 Z = true) (i : Int32) (h0 : Heap) (n0 : Nat) (Z0 : n0 ≤ h0.size) (Lc0 : List Addr) (F0 : Old Z n0 h0) (hi : (0 : Int32) < (i + (1 : Int32))) (G : Cmp Z) (GL : ∀ c ∈ LC.1, Jvm.Q9.LitZ Z c) (GD : Dig Z) :
    Jvm.Q9.Con l Z LC (⟨"com/example/metsmith/metsmith/Mets", "fileId", "(I)Ljava/lang/String;"⟩ : MethodName) prog_26_method_3_code 1 (some (.object "java/lang/String")) ({ frames := 6, cells := 6, slots := 64, locals := 106 } : Room) n0 #[(.int i)] h0 Lc0 (fun v h Lc => ∃ z : Addr, ∃ t2 : Addr, ∃ k2 : ClassId, v = some (.ref z) ∧ Keep h0 h [] ∧ h0.size ≤ z ∧ h0.size ≤ t2 ∧ Str Z h z t2 k2 (fid (i + (1 : Int32)))) := by
  refine Jvm.Q9.Con.intro (plainFor_of_name pn_com_example_metsmith_metsmith_Mets) ?_
  intro p e s m below meth c s₁ hx hby hml hret hnm hown hlk hZ hs0 P0
  refine Jvm.Q9.Aim.cast (by first | (simp [entryFrame, mkF, argsToLocals, Value.category]; done) | rfl : entryFrame m #[(.int i)] 1 = (mkF m 0 #[.val (.int i)] [])) ?_
  have hd1 := dec_len10 hi
  refine Jvm.Q9.Aim.newO P0 hx hZ hown (wI hw 240 rfl) (wI hw 241 rfl) (wI hw 242 rfl) (hb hby e1n_0) (by decide) (by decide) ?_
  intro z0 z1 z2 z3 z4 z5 z6 z7 z8
  have z9 : Keep h0 z1 [] := (Keep.refl _ _).ext z5
  have za : Keep h0 z1 [] := (Keep.refl h0 []).trans z9 all0
  have zb : Fld Z z1 z2 "java/lang/AbstractStringBuilder" "value" "[B" .null := z7 (Or.inl (wI hw 255 rfl)) (ty := (.array .byte)) (by decide)
  have zc : Fld Z z1 z2 "java/lang/AbstractStringBuilder" "coder" "B" (.int 0) := z7 (Or.inl (wI hw 257 rfl)) (ty := .byte) (by decide)
  have zd : Fld Z z1 z2 "java/lang/AbstractStringBuilder" "count" "I" (.int 0) := z7 (Or.inl (wI hw 282 rfl)) (ty := .int) (by decide)
  have H := z4.here
  refine Jvm.Q9.Aim.of (T' := z0) (g' := (mkF m 4 #[.val (.int i)] [(.ref z2), (.ref z2)])) (fun tgt kt => ?_) ?_
  · refine XS.dup H hx rfl (hb hby e1n_3) rfl rfl ?_
    exact kt
  have ze : Old Z n0 z1 := (F0.keep z9 all0)
  refine Jvm.Q9.Aim.callC (argsL := []) (rest := [(.ref z2)]) z4 hx hZ hml hown rfl (wI hw 243 rfl) (wI hw 244 rfl) (wI hw 245 rfl) (by decide) (fun vm0 hZ => Jvm.Y9.Con.back (s := s.setVm vm0) (W := 1) (own_sbi l Z a0 hw z2 (.null) (.int 0) z1 n0 (lT Z0 (za.1)) (lT Z0 (Nat.le_of_eq z3.symm)) z6 zb zc zd ze G) hZ (wI hw 245 rfl) (wI hw 242 rfl) (by decide) (by decide)) (fun _ _ ⟨_, _, _, q, _, _⟩ => q) (allS (Jvm.Q9.nl_new P0.ltL (lT (Nat.le_refl _) (Nat.le_of_eq z3.symm))) all0) rfl pd__28_29V rfl (Nat.le_of_eq rfl) (hb hby e1n_4) (by decide) (by decide) ?_
  intro zf zg zh zi zj
  obtain ⟨t_1066, kb_1067, rfl, zk, zl, zm⟩ := zj
  have zn : Keep h0 zg [] := za.trans zk (allS (Or.inr (lT (Nat.le_refl _) (Nat.le_of_eq z3.symm))) all0)
  have zo : Old Z n0 zg := (ze.keep zk (allS (lT Z0 (Nat.le_of_eq z3.symm)) all0))
  refine Jvm.Q9.Aim.ldcL zi hx hZ hown (wI hw 258 rfl) (own_atoms hw) (LC := LC) (List.mem_of_getElem? (i := 0) rfl) (by decide +kernel) (by decide +kernel) (GL _ (List.mem_of_getElem? (i := 0) rfl)) zo (fun b cl q => zn.2.1 b cl (by rw [← hs0]; exact q) nin0) (hb hby e1n_7) (fun _ => trivial) (cap := 20) (by decide +kernel) (by decide) (by decide) (by decide) ?_
  intro zp zq zr zs zt zu zv zw zx zy zz z10
  have z11 : Keep h0 zq [] := zn.trans zw all0
  have z12 : Jvm.Q9.Grow Lc0 zu h0.size := (Jvm.Q9.Grow.refl _ _).trans zx (zn.1)
  have z13 : Exa Z zq z2 "java/lang/StringBuilder" := ((z6.keep zk).keep zw)
  have z14 : Bld Z zq z2 t_1066 kb_1067 ([] : List Int32) 16 := (zm.keep zw nin0 nin0)
  have z15 : Old Z n0 zq := (zo.keep zw all0)
  refine Jvm.Q9.Aim.callV (argsL := [(.ref zr)]) (rest := []) (y := (⟨"java/lang/StringBuilder", "append", "(Ljava/lang/String;)Ljava/lang/StringBuilder;"⟩ : MethodName)) (z := (⟨"java/lang/StringBuilder", "append", "(Ljava/lang/String;)Ljava/lang/StringBuilder;"⟩ : MethodName)) zv hx hZ hml hown (wI hw 261 rfl) (wI hw 262 rfl) (fun vm0 hZ => notFace_of_selects (args := #[]) (mvT (s := s.setVm vm0) hZ (wI hw 264 rfl))) (wI hw 264 rfl) (wI hw 263 rfl) (by decide) z13 (fun vm0 hZ => Jvm.Y9.Con.back (s := s.setVm vm0) (W := 0) (own_app l Z a0 hw z2 t_1066 kb_1067 ([] : List Int32) 16 zr zs zt (Jvm.Q9.cod "file-") zq n0 (lT Z0 (z11.1)) (lT Z0 (Nat.le_of_eq z3.symm)) (lT (lT Z0 (za.1)) zl) z14 zy z15 (by (try simp only [List.length_append, List.length_nil, cl0]); omega) (by decide) (Jvm.Q9.lit_ne z10 (lT (lT Z0 (za.1)) zl) (Jvm.Q9.nl_step (Jvm.Q9.nl_new P0.ltL (lT (za.1) zl)) zx zm.2.2.2.2.lt)) (Jvm.Q9.lit_ne z10 (lT Z0 (Nat.le_of_eq z3.symm)) (Jvm.Q9.nl_step (Jvm.Q9.nl_new P0.ltL (lT (Nat.le_refl _) (Nat.le_of_eq z3.symm))) zx (lL z6.lt (zk.1)))) (nL (lL z6.lt zl)) (Jvm.Q9.lit_ne zz (lT (lT Z0 (za.1)) zl) (Jvm.Q9.nl_step (Jvm.Q9.nl_new P0.ltL (lT (za.1) zl)) zx zm.2.2.2.2.lt)) G) hZ (wI hw 265 rfl) (wI hw 242 rfl) (by decide) (by decide)) (fun _ _ ⟨_, q, _⟩ => q) (allS (Jvm.Q9.nl_step (Jvm.Q9.nl_new P0.ltL (lT (Nat.le_refl _) (Nat.le_of_eq z3.symm))) zx (lL z6.lt (zk.1))) (allS (Jvm.Q9.nl_step (Jvm.Q9.nl_new P0.ltL (lT (za.1) zl)) zx zm.2.2.2.2.lt) all0)) rfl pd__28Ljava_2flang_2fString_3b_29Ljava_2flang_2fStringBuilder_3b rfl (Nat.le_of_eq rfl) (hb hby e1n_9) (by decide) (by decide) ?_
  intro z16 z17 z18 z19 z1a
  obtain ⟨rfl, z1b, z1c⟩ := z1a
  have z1d : Keep h0 z17 [] := z11.trans z1b (allS (Or.inr (lT (Nat.le_refl _) (Nat.le_of_eq z3.symm))) (allS (Or.inr (lT (za.1) zl)) all0))
  have H := z19.here
  refine Jvm.Q9.Aim.of (T' := z16) (g' := (mkF m 15 #[.val (.int i)] [(.int (i + (1 : Int32))), (.ref z2)])) (fun tgt kt => ?_) ?_
  · refine XS.iloadN H hx rfl (hb hby e1n_12) rfl ?_
    refine XS.iconst H hx rfl (hb hby e1n_13) ?_
    refine XS.iadd H hx rfl (hb hby e1n_14) rfl ?_
    exact kt
  have z1e : Exa Z z17 z2 "java/lang/StringBuilder" := (z13.keep z1b)
  have z1f : Old Z n0 z17 := (z15.keep z1b (allS (lT Z0 (Nat.le_of_eq z3.symm)) (allS (lT (lT Z0 (za.1)) zl) all0)))
  refine Jvm.Q9.Aim.callV (argsL := [(.int (i + (1 : Int32)))]) (rest := []) (y := (⟨"java/lang/StringBuilder", "append", "(I)Ljava/lang/StringBuilder;"⟩ : MethodName)) (z := (⟨"java/lang/StringBuilder", "append", "(I)Ljava/lang/StringBuilder;"⟩ : MethodName)) z19 hx hZ hml hown (wI hw 308 rfl) (wI hw 309 rfl) (fun vm0 hZ => notFace_of_selects (args := #[]) (mvT (s := s.setVm vm0) hZ (wI hw 311 rfl))) (wI hw 311 rfl) (wI hw 310 rfl) (by decide) z1e (fun vm0 hZ => Jvm.Y9.Con.back (s := s.setVm vm0) (W := 0) (own_appI l Z a0 hw z2 t_1066 kb_1067 (([] : List Int32) ++ (Jvm.Q9.cod "file-")) 16 (i + (1 : Int32)) z17 n0 (lT Z0 (z1d.1)) (lT Z0 (Nat.le_of_eq z3.symm)) (lT (lT Z0 (za.1)) zl) z1c z1f (by (try simp only [List.length_append, List.length_nil, cl0]); omega) (by decide) (nL (lL z6.lt zl)) G GD) hZ (wI hw 312 rfl) (wI hw 242 rfl) (by decide) (by decide)) (fun _ _ ⟨_, q, _⟩ => q) (allS (Jvm.Q9.nl_step (Jvm.Q9.nl_new P0.ltL (lT (Nat.le_refl _) (Nat.le_of_eq z3.symm))) zx (lL z6.lt (zk.1))) (allS (Jvm.Q9.nl_step (Jvm.Q9.nl_new P0.ltL (lT (za.1) zl)) zx zm.2.2.2.2.lt) all0)) rfl pd__28I_29Ljava_2flang_2fStringBuilder_3b rfl (Nat.le_of_eq rfl) (hb hby e1n_15) (by decide) (by decide) ?_
  intro z1g z1h z1i z1j z1k
  obtain ⟨rfl, z1l, z1m⟩ := z1k
  have z1n : Keep h0 z1h [] := z1d.trans z1l (allS (Or.inr (lT (Nat.le_refl _) (Nat.le_of_eq z3.symm))) (allS (Or.inr (lT (za.1) zl)) all0))
  have z1o : Exa Z z1h z2 "java/lang/StringBuilder" := (z1e.keep z1l)
  have z1p : Old Z n0 z1h := (z1f.keep z1l (allS (lT Z0 (Nat.le_of_eq z3.symm)) (allS (lT (lT Z0 (za.1)) zl) all0)))
  refine Jvm.Q9.Aim.callV (argsL := []) (rest := []) (y := (⟨"java/lang/StringBuilder", "toString", "()Ljava/lang/String;"⟩ : MethodName)) (z := (⟨"java/lang/StringBuilder", "toString", "()Ljava/lang/String;"⟩ : MethodName)) z1j hx hZ hml hown (wI hw 330 rfl) (wI hw 331 rfl) (fun vm0 hZ => notFace_of_selects (args := #[]) (mvT (s := s.setVm vm0) hZ (wI hw 333 rfl))) (wI hw 333 rfl) (wI hw 332 rfl) (by decide) z1o (fun vm0 hZ => Jvm.Y9.Con.back (s := s.setVm vm0) (W := 0) (own_ts l Z a0 hw z2 t_1066 kb_1067 ((([] : List Int32) ++ (Jvm.Q9.cod "file-")) ++ (dec (i + (1 : Int32)))) 16 z1h n0 (lT Z0 (z1n.1)) z1m z1p (by (try simp only [List.length_append, List.length_nil, cl0]); omega) (by decide) (fid_in (i + (1 : Int32))) G) hZ (wI hw 334 rfl) (wI hw 242 rfl) (by decide) (by decide)) (fun _ _ ⟨_, _, _, _, q, _, _, _⟩ => q) all0 rfl pd__28_29Ljava_2flang_2fString_3b rfl (Nat.le_of_eq rfl) (hb hby e1n_18) (by decide) (by decide) ?_
  intro z1q z1r z1s z1t z1u
  obtain ⟨z_1121, t_1122, k_1123, rfl, z1v, z1w, z1x, z1y⟩ := z1u
  have z1z : Keep h0 z1r [] := z1n.trans z1v all0
  exact Jvm.Q9.Aim.retA z1t hx hlk hret rfl rfl (hb hby e1n_21) (by decide) (by decide) z12 ⟨z_1121, t_1122, k_1123, rfl, z1z, (lT (z1n.1) z1w), (lT (z1n.1) z1x), z1y⟩
theorem e1x_0 : decode prog_30_method_2_code 0 = .ok (.new 13, 3) := by decide +kernel
theorem e1x_3 : decode prog_30_method_2_code 3 = .ok (.dup, 1) := by decide +kernel
theorem e1x_4 : decode prog_30_method_2_code 4 = .ok (.aconst_null, 1) := by decide +kernel
theorem e1x_5 : decode prog_30_method_2_code 5 = .ok (.aconst_null, 1) := by decide +kernel
theorem e1x_6 : decode prog_30_method_2_code 6 = .ok (.invokestatic 15, 3) := by decide +kernel
theorem e1x_9 : decode prog_30_method_2_code 9 = .ok (.invokestatic 15, 3) := by decide +kernel
theorem e1x_12 : decode prog_30_method_2_code 12 = .ok (.iload_n 1, 1) := by decide +kernel
theorem e1x_13 : decode prog_30_method_2_code 13 = .ok (.invokestatic 21, 3) := by decide +kernel
theorem pd__28I_29Ljava_2flang_2fString_3b : parseMethodDescriptor "(I)Ljava/lang/String;" = some ⟨[.int], some (.object "java/lang/String")⟩ := by decide +kernel
theorem e1x_16 : decode prog_30_method_2_code 16 = .ok (.invokestatic 27, 3) := by decide +kernel
theorem pd__28Ljava_2flang_2fObject_3b_29Ljava_2futil_2fList_3b : parseMethodDescriptor "(Ljava/lang/Object;)Ljava/util/List;" = some ⟨[(.object "java/lang/Object")], some (.object "java/util/List")⟩ := by decide +kernel
theorem e1x_19 : decode prog_30_method_2_code 19 = .ok (.invokestatic 15, 3) := by decide +kernel
theorem e1x_22 : decode prog_30_method_2_code 22 = .ok (.invokespecial 30, 3) := by decide +kernel
theorem e1x_25 : decode prog_30_method_2_code 25 = .ok (.areturn, 1) := by decide +kernel
theorem own_gtD (l : Launch) (Z : State) (a0 : Array Value) (hw : ∀ d ∈ tables_1, d.before a0 Z = true) (x : Addr) (i : Int32) (el : Addr) (ee : Addr) (ke : ClassId) (em : Addr) (h0 : Heap) (n0 : Nat) (Z0 : n0 ≤ h0.size) (Lc0 : List Addr) (F0 : Old Z n0 h0) (hi : (0 : Int32) < (i + (1 : Int32))) (GE : Ael Z el ee ke) (GM : Aem Z em) (G : Cmp Z) (GL : ∀ c ∈ LC.1, Jvm.Q9.LitZ Z c) (GD : Dig Z) :
    Jvm.Q9.Con l Z LC (⟨"com/example/metsmith/metsmith/Mets$Div$1", "get", "(I)Lcom/example/metsmith/metsmith/Mets$Div;"⟩ : MethodName) prog_30_method_2_code 2 (some (.object "com/example/metsmith/metsmith/Mets$Div")) ({ frames := 7, cells := 8, slots := 72, locals := 124 } : Room) n0 #[(.ref x), (.int i)] h0 Lc0 (fun v h Lc => ∃ o : Addr, ∃ a : Addr, ∃ z : Addr, ∃ t2 : Addr, ∃ k2 : ClassId, v = some (.ref o) ∧ Keep h0 h [] ∧ h0.size ≤ o ∧ h0.size ≤ a ∧ h0.size ≤ z ∧ h0.size ≤ t2 ∧ Exa Z h o "com/example/metsmith/metsmith/Mets$Div" ∧ Fld Z h o "com/example/metsmith/metsmith/Mets$Div" "type" "Ljava/lang/String;" .null ∧ Fld Z h o "com/example/metsmith/metsmith/Mets$Div" "label" "Ljava/lang/String;" .null ∧ Fld Z h o "com/example/metsmith/metsmith/Mets$Div" "dmdIds" "Ljava/util/List;" (.ref el) ∧ Fld Z h o "com/example/metsmith/metsmith/Mets$Div" "admIds" "Ljava/util/List;" (.ref el) ∧ Fld Z h o "com/example/metsmith/metsmith/Mets$Div" "fileIds" "Ljava/util/List;" (.ref a) ∧ Fld Z h o "com/example/metsmith/metsmith/Mets$Div" "divs" "Ljava/util/List;" (.ref el) ∧ Exa Z h a "java/util/ImmutableCollections$List12" ∧ Fld Z h a "java/util/ImmutableCollections$List12" "e0" "Ljava/lang/Object;" (.ref z) ∧ Fld Z h a "java/util/ImmutableCollections$List12" "e1" "Ljava/lang/Object;" (.ref em) ∧ Str Z h z t2 k2 (fid (i + (1 : Int32)))) := by
  refine Jvm.Q9.Con.intro (plainFor_of_name pn_com_example_metsmith_metsmith_Mets_Div_1) ?_
  intro p e s m below meth c s₁ hx hby hml hret hnm hown hlk hZ hs0 P0
  refine Jvm.Q9.Aim.cast (by first | (simp [entryFrame, mkF, argsToLocals, Value.category]; done) | rfl : entryFrame m #[(.ref x), (.int i)] 2 = (mkF m 0 #[.val (.ref x), .val (.int i)] [])) ?_
  refine Jvm.Q9.Aim.newO P0 hx hZ hown (wI hw 234 rfl) (wI hw 116 rfl) (wI hw 102 rfl) (hb hby e1x_0) (by decide) (by decide) ?_
  intro z0 z1 z2 z3 z4 z5 z6 z7 z8
  have z9 : Keep h0 z1 [] := (Keep.refl _ _).ext z5
  have za : Keep h0 z1 [] := (Keep.refl h0 []).trans z9 all0
  have zb : Fld Z z1 z2 "com/example/metsmith/metsmith/Mets$Div" "type" "Ljava/lang/String;" .null := z7 (Or.inr (wI hw 133 rfl)) (ty := (.object "java/lang/String")) (by decide)
  have zc : Fld Z z1 z2 "com/example/metsmith/metsmith/Mets$Div" "label" "Ljava/lang/String;" .null := z7 (Or.inr (wI hw 135 rfl)) (ty := (.object "java/lang/String")) (by decide)
  have zd : Fld Z z1 z2 "com/example/metsmith/metsmith/Mets$Div" "dmdIds" "Ljava/util/List;" .null := z7 (Or.inr (wI hw 137 rfl)) (ty := (.object "java/util/List")) (by decide)
  have ze : Fld Z z1 z2 "com/example/metsmith/metsmith/Mets$Div" "admIds" "Ljava/util/List;" .null := z7 (Or.inr (wI hw 139 rfl)) (ty := (.object "java/util/List")) (by decide)
  have zf : Fld Z z1 z2 "com/example/metsmith/metsmith/Mets$Div" "fileIds" "Ljava/util/List;" .null := z7 (Or.inr (wI hw 141 rfl)) (ty := (.object "java/util/List")) (by decide)
  have zg : Fld Z z1 z2 "com/example/metsmith/metsmith/Mets$Div" "divs" "Ljava/util/List;" .null := z7 (Or.inr (wI hw 143 rfl)) (ty := (.object "java/util/List")) (by decide)
  have H := z4.here
  refine Jvm.Q9.Aim.of (T' := z0) (g' := (mkF m 6 #[.val (.ref x), .val (.int i)] [.null, .null, (.ref z2), (.ref z2)])) (fun tgt kt => ?_) ?_
  · refine XS.dup H hx rfl (hb hby e1x_3) rfl rfl ?_
    refine XS.aconstNull H hx rfl (hb hby e1x_4) ?_
    refine XS.aconstNull H hx rfl (hb hby e1x_5) ?_
    exact kt
  have zh : Old Z n0 z1 := (F0.keep z9 all0)
  refine Jvm.Q9.Aim.callS (argsL := []) (rest := [.null, .null, (.ref z2), (.ref z2)]) z4 hx hZ hml hown (wI hw 235 rfl) (wI hw 118 rfl) (wI hw 119 rfl) (wI hw 120 rfl) (by decide) (fun vm0 hZ => Jvm.Y9.Con.back (s := s.setVm vm0) (W := 4) (own_lof l Z a0 hw el ee ke z1 n0 (lT Z0 (za.1)) zh GE) hZ (wI hw 120 rfl) (wI hw 119 rfl) (by decide) (by decide)) (fun _ _ ⟨_, q⟩ => (by subst q; exact Keep.refl _ [])) all0 rfl pd__28_29Ljava_2futil_2fList_3b rfl (Nat.le_of_eq rfl) (hb hby e1x_6) (by decide) (by decide) ?_
  intro zi zj zk zl zm
  obtain ⟨rfl, rfl⟩ := zm
  refine Jvm.Q9.Aim.callS (argsL := []) (rest := [(.ref el), .null, .null, (.ref z2), (.ref z2)]) zl hx hZ hml hown (wI hw 235 rfl) (wI hw 118 rfl) (wI hw 119 rfl) (wI hw 120 rfl) (by decide) (fun vm0 hZ => Jvm.Y9.Con.back (s := s.setVm vm0) (W := 5) (own_lof l Z a0 hw el ee ke z1 n0 (lT Z0 (za.1)) zh GE) hZ (wI hw 120 rfl) (wI hw 119 rfl) (by decide) (by decide)) (fun _ _ ⟨_, q⟩ => (by subst q; exact Keep.refl _ [])) all0 rfl pd__28_29Ljava_2futil_2fList_3b rfl (Nat.le_of_eq rfl) (hb hby e1x_9) (by decide) (by decide) ?_
  intro zn zo zp zq zr
  obtain ⟨rfl, rfl⟩ := zr
  have H := zq.here
  refine Jvm.Q9.Aim.of (T' := zn) (g' := (mkF m 13 #[.val (.ref x), .val (.int i)] [(.int i), (.ref el), (.ref el), .null, .null, (.ref z2), (.ref z2)])) (fun tgt kt => ?_) ?_
  · refine XS.iloadN H hx rfl (hb hby e1x_12) rfl ?_
    exact kt
  refine Jvm.Q9.Aim.callSW (argsL := [(.int i)]) (rest := [(.ref el), (.ref el), .null, .null, (.ref z2), (.ref z2)]) zq hx hZ hml hown (wI hw 236 rfl) (wI hw 237 rfl) (wI hw 238 rfl) (wI hw 239 rfl) (by decide) (Jvm.Q9.Con.back (W := 6) (own_fid l Z a0 hw i z1 n0 (lT Z0 (za.1)) Lc0 zh hi G GL GD) (wI hw 239 rfl) (wI hw 238 rfl) (by decide) (by decide)) rfl pd__28I_29Ljava_2flang_2fString_3b rfl (Nat.le_of_eq rfl) (hb hby e1x_13) (by decide) (by decide) ?_
  intro zs zt zu zv zw zx zy
  obtain ⟨z_1168, t_1169, k_1170, rfl, zz, z10, z11, z12⟩ := zy
  have z13 : Keep h0 zt [] := za.trans zz all0
  have z14 : Jvm.Q9.Grow Lc0 zv h0.size := (Jvm.Q9.Grow.refl _ _).trans zx (za.1)
  have z15 : Old Z n0 zt := (zh.keep zz all0)
  refine Jvm.Q9.Aim.callS (argsL := [(.ref z_1168)]) (rest := [(.ref el), (.ref el), .null, .null, (.ref z2), (.ref z2)]) zw hx hZ hml hown (wI hw 370 rfl) (wI hw 371 rfl) (wI hw 119 rfl) (wI hw 372 rfl) (by decide) (fun vm0 hZ => Jvm.Y9.Con.back (s := s.setVm vm0) (W := 6) (own_lo1 l Z a0 hw z_1168 em zt n0 (lT Z0 (z13.1)) z15 GM) hZ (wI hw 372 rfl) (wI hw 119 rfl) (by decide) (by decide)) (fun _ _ ⟨_, _, q, _, _, _, _⟩ => q) all0 rfl pd__28Ljava_2flang_2fObject_3b_29Ljava_2futil_2fList_3b rfl (Nat.le_of_eq rfl) (hb hby e1x_16) (by decide) (by decide) ?_
  intro z16 z17 z18 z19 z1a
  obtain ⟨a_1185, rfl, z1b, z1c, z1d, z1e, z1f⟩ := z1a
  have z1g : Keep h0 z17 [] := z13.trans z1b all0
  have z1h : Old Z n0 z17 := (z15.keep z1b all0)
  refine Jvm.Q9.Aim.callS (argsL := []) (rest := [(.ref a_1185), (.ref el), (.ref el), .null, .null, (.ref z2), (.ref z2)]) z19 hx hZ hml hown (wI hw 235 rfl) (wI hw 118 rfl) (wI hw 119 rfl) (wI hw 120 rfl) (by decide) (fun vm0 hZ => Jvm.Y9.Con.back (s := s.setVm vm0) (W := 7) (own_lof l Z a0 hw el ee ke z17 n0 (lT Z0 (z1g.1)) z1h GE) hZ (wI hw 120 rfl) (wI hw 119 rfl) (by decide) (by decide)) (fun _ _ ⟨_, q⟩ => (by subst q; exact Keep.refl _ [])) all0 rfl pd__28_29Ljava_2futil_2fList_3b rfl (Nat.le_of_eq rfl) (hb hby e1x_19) (by decide) (by decide) ?_
  intro z1i z1j z1k z1l z1m
  obtain ⟨rfl, rfl⟩ := z1m
  have z1n : Exa Z z17 z2 "com/example/metsmith/metsmith/Mets$Div" := ((z6.keep zz).keep z1b)
  have z1o : Fld Z z17 z2 "com/example/metsmith/metsmith/Mets$Div" "type" "Ljava/lang/String;" .null := ((zb.keep zz nin0).keep z1b nin0)
  have z1p : Fld Z z17 z2 "com/example/metsmith/metsmith/Mets$Div" "label" "Ljava/lang/String;" .null := ((zc.keep zz nin0).keep z1b nin0)
  have z1q : Fld Z z17 z2 "com/example/metsmith/metsmith/Mets$Div" "dmdIds" "Ljava/util/List;" .null := ((zd.keep zz nin0).keep z1b nin0)
  have z1r : Fld Z z17 z2 "com/example/metsmith/metsmith/Mets$Div" "admIds" "Ljava/util/List;" .null := ((ze.keep zz nin0).keep z1b nin0)
  have z1s : Fld Z z17 z2 "com/example/metsmith/metsmith/Mets$Div" "fileIds" "Ljava/util/List;" .null := ((zf.keep zz nin0).keep z1b nin0)
  have z1t : Fld Z z17 z2 "com/example/metsmith/metsmith/Mets$Div" "divs" "Ljava/util/List;" .null := ((zg.keep zz nin0).keep z1b nin0)
  refine Jvm.Q9.Aim.callC (argsL := [.null, .null, (.ref el), (.ref el), (.ref a_1185), (.ref el)]) (rest := [(.ref z2)]) z1l hx hZ hml hown rfl (wI hw 402 rfl) (wI hw 124 rfl) (wI hw 125 rfl) (by decide) (fun vm0 hZ => Jvm.Y9.Con.back (s := s.setVm vm0) (W := 1) (own_div l Z a0 hw z2 el el a_1185 el z17 n0 (lT Z0 (z1g.1)) (lT Z0 (Nat.le_of_eq z3.symm)) z1n z1o z1p z1q z1r z1s z1t) hZ (wI hw 125 rfl) (wI hw 102 rfl) (by decide) (by decide)) (fun _ _ ⟨_, q, _, _, _, _, _, _, _⟩ => q) (allS (Jvm.Q9.nl_step (Jvm.Q9.nl_new P0.ltL (lT (Nat.le_refl _) (Nat.le_of_eq z3.symm))) zx z6.lt) all0) rfl pd__28Ljava_2flang_2fString_3bLjava_2flang_2fString_3bLjava_2futil_2fList_3bLjava_2futil_2fList_3bLjava_2futil_2fList_3bLjava_2futil_2fList_3b_29V rfl (Nat.le_of_eq rfl) (hb hby e1x_22) (by decide) (by decide) ?_
  intro z1u z1v z1w z1x z1y
  obtain ⟨rfl, z1z, z20, z21, z22, z23, z24, z25, z26⟩ := z1y
  have z27 : Keep h0 z1v [] := z1g.trans z1z (allS (Or.inr (lT (Nat.le_refl _) (Nat.le_of_eq z3.symm))) all0)
  have z28 : Exa Z z1v a_1185 "java/util/ImmutableCollections$List12" := (z1d.keep z1z)
  have z29 : Fld Z z1v a_1185 "java/util/ImmutableCollections$List12" "e0" "Ljava/lang/Object;" (.ref z_1168) := (z1e.keep z1z (ninS (Ne.symm (nL (lL (lL z6.lt (zz.1)) z1c))) nin0))
  have z2a : Fld Z z1v a_1185 "java/util/ImmutableCollections$List12" "e1" "Ljava/lang/Object;" (.ref em) := (z1f.keep z1z (ninS (Ne.symm (nL (lL (lL z6.lt (zz.1)) z1c))) nin0))
  have z2b : Str Z z1v z_1168 t_1169 k_1170 (fid (i + (1 : Int32))) := ((z12.keep z1b nin0 nin0).keep z1z (ninS (Ne.symm (nL (lL z6.lt z10))) nin0) (ninS (Ne.symm (nL (lL z6.lt z11))) nin0))
  exact Jvm.Q9.Aim.retA z1x hx hlk hret rfl rfl (hb hby e1x_25) (by decide) (by decide) z14 ⟨z2, a_1185, z_1168, t_1169, k_1170, rfl, z27, (lT (Nat.le_refl _) (Nat.le_of_eq z3.symm)), (lT (z13.1) z1c), (lT (za.1) z10), (lT (za.1) z11), z20, z21, z22, z23, z24, z25, z26, z28, z29, z2a, z2b⟩
theorem e1z_0 : decode prog_30_method_4_code 0 = .ok (.aload_n 0, 1) := by decide +kernel
theorem e1z_1 : decode prog_30_method_4_code 1 = .ok (.iload_n 1, 1) := by decide +kernel
theorem e1z_2 : decode prog_30_method_4_code 2 = .ok (.invokevirtual 33, 3) := by decide +kernel
theorem pd__28I_29Lcom_2fexample_2fmetsmith_2fmetsmith_2fMets_24Div_3b : parseMethodDescriptor "(I)Lcom/example/metsmith/metsmith/Mets$Div;" = some ⟨[.int], some (.object "com/example/metsmith/metsmith/Mets$Div")⟩ := by decide +kernel
theorem e1z_5 : decode prog_30_method_4_code 5 = .ok (.areturn, 1) := by decide +kernel
theorem own_gtO (l : Launch) (Z : State) (a0 : Array Value) (hw : ∀ d ∈ tables_1, d.before a0 Z = true) (x : Addr) (i : Int32) (el : Addr) (ee : Addr) (ke : ClassId) (em : Addr) (h0 : Heap) (n0 : Nat) (Z0 : n0 ≤ h0.size) (Lc0 : List Addr) (F0 : Exa Z h0 x "com/example/metsmith/metsmith/Mets$Div$1") (F1 : Old Z n0 h0) (hi : (0 : Int32) < (i + (1 : Int32))) (GE : Ael Z el ee ke) (GM : Aem Z em) (G : Cmp Z) (GL : ∀ c ∈ LC.1, Jvm.Q9.LitZ Z c) (GD : Dig Z) :
    Jvm.Q9.Con l Z LC (⟨"com/example/metsmith/metsmith/Mets$Div$1", "get", "(I)Ljava/lang/Object;"⟩ : MethodName) prog_30_method_4_code 2 (some (.object "java/lang/Object")) ({ frames := 8, cells := 8, slots := 72, locals := 137 } : Room) n0 #[(.ref x), (.int i)] h0 Lc0 (fun v h Lc => ∃ o : Addr, ∃ a : Addr, ∃ z : Addr, ∃ t2 : Addr, ∃ k2 : ClassId, v = some (.ref o) ∧ Keep h0 h [] ∧ h0.size ≤ o ∧ h0.size ≤ a ∧ h0.size ≤ z ∧ h0.size ≤ t2 ∧ Exa Z h o "com/example/metsmith/metsmith/Mets$Div" ∧ Fld Z h o "com/example/metsmith/metsmith/Mets$Div" "type" "Ljava/lang/String;" .null ∧ Fld Z h o "com/example/metsmith/metsmith/Mets$Div" "label" "Ljava/lang/String;" .null ∧ Fld Z h o "com/example/metsmith/metsmith/Mets$Div" "dmdIds" "Ljava/util/List;" (.ref el) ∧ Fld Z h o "com/example/metsmith/metsmith/Mets$Div" "admIds" "Ljava/util/List;" (.ref el) ∧ Fld Z h o "com/example/metsmith/metsmith/Mets$Div" "fileIds" "Ljava/util/List;" (.ref a) ∧ Fld Z h o "com/example/metsmith/metsmith/Mets$Div" "divs" "Ljava/util/List;" (.ref el) ∧ Exa Z h a "java/util/ImmutableCollections$List12" ∧ Fld Z h a "java/util/ImmutableCollections$List12" "e0" "Ljava/lang/Object;" (.ref z) ∧ Fld Z h a "java/util/ImmutableCollections$List12" "e1" "Ljava/lang/Object;" (.ref em) ∧ Str Z h z t2 k2 (fid (i + (1 : Int32)))) := by
  refine Jvm.Q9.Con.intro (plainFor_of_name pn_com_example_metsmith_metsmith_Mets_Div_1) ?_
  intro p e s m below meth c s₁ hx hby hml hret hnm hown hlk hZ hs0 P0
  refine Jvm.Q9.Aim.cast (by first | (simp [entryFrame, mkF, argsToLocals, Value.category]; done) | rfl : entryFrame m #[(.ref x), (.int i)] 2 = (mkF m 0 #[.val (.ref x), .val (.int i)] [])) ?_
  have H := P0.here
  refine Jvm.Q9.Aim.of (T' := s₁) (g' := (mkF m 2 #[.val (.ref x), .val (.int i)] [(.int i), (.ref x)])) (fun tgt kt => ?_) ?_
  · refine XS.aloadN H hx rfl (hb hby e1z_0) rfl rfl ?_
    refine XS.iloadN H hx rfl (hb hby e1z_1) rfl ?_
    exact kt
  refine Jvm.Q9.Aim.callVW (argsL := [(.int i)]) (rest := []) (y := (⟨"com/example/metsmith/metsmith/Mets$Div$1", "get", "(I)Lcom/example/metsmith/metsmith/Mets$Div;"⟩ : MethodName)) (z := (⟨"com/example/metsmith/metsmith/Mets$Div$1", "get", "(I)Lcom/example/metsmith/metsmith/Mets$Div;"⟩ : MethodName)) P0 hx hZ hml hown (wI hw 229 rfl) (wI hw 230 rfl) (fun vm0 hZ => notFace_of_selects (args := #[]) (mvT (s := s.setVm vm0) hZ (wI hw 232 rfl))) (wI hw 232 rfl) (wI hw 231 rfl) (by decide) F0 (Jvm.Q9.Con.back (W := 0) (own_gtD l Z a0 hw x i el ee ke em h0 n0 Z0 Lc0 F1 hi GE GM G GL GD) (wI hw 233 rfl) (wI hw 106 rfl) (by decide) (by decide)) rfl pd__28I_29Lcom_2fexample_2fmetsmith_2fmetsmith_2fMets_24Div_3b rfl (Nat.le_of_eq rfl) (hb hby e1z_2) (by decide) (by decide) ?_
  intro z0 z1 z2 z3 z4 z5 z6
  obtain ⟨o_1234, a_1235, z_1236, t_1237, k_1238, rfl, z7, z8, z9, za, zb, zc, zd, ze, zf, zg, zh, zi, zj, zk, zl, zm⟩ := z6
  have zn : Keep h0 z1 [] := (Keep.refl h0 []).trans z7 all0
  have zo : Jvm.Q9.Grow Lc0 z3 h0.size := (Jvm.Q9.Grow.refl _ _).trans z5 (Nat.le_refl _)
  exact Jvm.Q9.Aim.retA z4 hx hlk hret rfl rfl (hb hby e1z_5) (by decide) (by decide) zo ⟨o_1234, a_1235, z_1236, t_1237, k_1238, rfl, zn, (lT (Nat.le_refl _) z8), (lT (Nat.le_refl _) z9), (lT (Nat.le_refl _) za), (lT (Nat.le_refl _) zb), zc, zd, ze, zf, zg, zh, zi, zj, zk, zl, zm⟩
theorem e1l_0 : decode method_5_code 0 = .ok (.iload_n 0, 1) := by decide +kernel
theorem e1l_1 : decode method_5_code 1 = .ok (.bipush 10, 2) := by decide +kernel
theorem e1l_3 : decode method_5_code 3 = .ok (.if_icmp .ge 5, 3) := by decide +kernel
theorem e1l_6 : decode method_5_code 6 = .ok (.iconst 1, 1) := by decide +kernel
theorem e1l_7 : decode method_5_code 7 = .ok (.ireturn, 1) := by decide +kernel
theorem e1l_8 : decode method_5_code 8 = .ok (.iload_n 0, 1) := by decide +kernel
theorem e1l_9 : decode method_5_code 9 = .ok (.bipush 100, 2) := by decide +kernel
theorem e1l_11 : decode method_5_code 11 = .ok (.if_icmp .ge 5, 3) := by decide +kernel
theorem e1l_14 : decode method_5_code 14 = .ok (.iconst 2, 1) := by decide +kernel
theorem e1l_15 : decode method_5_code 15 = .ok (.ireturn, 1) := by decide +kernel
theorem e1l_16 : decode method_5_code 16 = .ok (.iload_n 0, 1) := by decide +kernel
theorem e1l_17 : decode method_5_code 17 = .ok (.sipush 1000, 3) := by decide +kernel
theorem e1l_20 : decode method_5_code 20 = .ok (.if_icmp .ge 5, 3) := by decide +kernel
theorem e1l_23 : decode method_5_code 23 = .ok (.iconst 3, 1) := by decide +kernel
theorem e1l_24 : decode method_5_code 24 = .ok (.ireturn, 1) := by decide +kernel
theorem e1l_25 : decode method_5_code 25 = .ok (.iload_n 0, 1) := by decide +kernel
theorem e1l_26 : decode method_5_code 26 = .ok (.sipush 10000, 3) := by decide +kernel
theorem e1l_29 : decode method_5_code 29 = .ok (.if_icmp .ge 5, 3) := by decide +kernel
theorem e1l_32 : decode method_5_code 32 = .ok (.iconst 4, 1) := by decide +kernel
theorem e1l_33 : decode method_5_code 33 = .ok (.ireturn, 1) := by decide +kernel
theorem e1l_34 : decode method_5_code 34 = .ok (.iload_n 0, 1) := by decide +kernel
theorem e1l_35 : decode method_5_code 35 = .ok (.ldc 87, 2) := by decide +kernel
theorem e1l_37 : decode method_5_code 37 = .ok (.if_icmp .ge 5, 3) := by decide +kernel
theorem e1l_40 : decode method_5_code 40 = .ok (.iconst 5, 1) := by decide +kernel
theorem e1l_41 : decode method_5_code 41 = .ok (.ireturn, 1) := by decide +kernel
theorem e1l_42 : decode method_5_code 42 = .ok (.iload_n 0, 1) := by decide +kernel
theorem e1l_43 : decode method_5_code 43 = .ok (.ldc 88, 2) := by decide +kernel
theorem e1l_45 : decode method_5_code 45 = .ok (.if_icmp .ge 6, 3) := by decide +kernel
theorem e1l_48 : decode method_5_code 48 = .ok (.bipush 6, 2) := by decide +kernel
theorem e1l_50 : decode method_5_code 50 = .ok (.ireturn, 1) := by decide +kernel
theorem e1l_51 : decode method_5_code 51 = .ok (.iload_n 0, 1) := by decide +kernel
theorem e1l_52 : decode method_5_code 52 = .ok (.ldc 89, 2) := by decide +kernel
theorem e1l_54 : decode method_5_code 54 = .ok (.if_icmp .ge 6, 3) := by decide +kernel
theorem e1l_57 : decode method_5_code 57 = .ok (.bipush 7, 2) := by decide +kernel
theorem e1l_59 : decode method_5_code 59 = .ok (.ireturn, 1) := by decide +kernel
theorem e1l_60 : decode method_5_code 60 = .ok (.iload_n 0, 1) := by decide +kernel
theorem e1l_61 : decode method_5_code 61 = .ok (.ldc 90, 2) := by decide +kernel
theorem e1l_63 : decode method_5_code 63 = .ok (.if_icmp .ge 6, 3) := by decide +kernel
theorem e1l_66 : decode method_5_code 66 = .ok (.bipush 8, 2) := by decide +kernel
theorem e1l_68 : decode method_5_code 68 = .ok (.ireturn, 1) := by decide +kernel
theorem e1l_69 : decode method_5_code 69 = .ok (.iload_n 0, 1) := by decide +kernel
theorem e1l_70 : decode method_5_code 70 = .ok (.ldc 91, 2) := by decide +kernel
theorem e1l_72 : decode method_5_code 72 = .ok (.if_icmp .ge 6, 3) := by decide +kernel
theorem e1l_75 : decode method_5_code 75 = .ok (.bipush 9, 2) := by decide +kernel
theorem e1l_77 : decode method_5_code 77 = .ok (.ireturn, 1) := by decide +kernel
theorem e1l_78 : decode method_5_code 78 = .ok (.bipush 10, 2) := by decide +kernel
theorem e1l_80 : decode method_5_code 80 = .ok (.ireturn, 1) := by decide +kernel
theorem pn_com_example_metsmith_metsmith_MetsDivFlatPinLaw : plainName "com/example/metsmith/metsmith/MetsDivFlatPinLaw" = true := by first | (simp [plainName, overriddenIn]; done) | decide +kernel
theorem own_digs (l : Launch) (Z : State) (a0 : Array Value) (hw : ∀ d ∈ tables_1, d.before a0 Z = true) (k : Int32) (h0 : Heap) (n0 : Nat) (Z0 : n0 ≤ h0.size) (hk : (0 : Int32) < k) :
    Jvm.Y9.Con l Z (⟨"com/example/metsmith/metsmith/MetsDivFlatPinLaw", "digits", "(I)I"⟩ : MethodName) method_5_code 1 (some .int) ({ frames := 0, cells := 0, slots := 0, locals := 0 } : Room) n0 #[(.int k)] h0 (fun v h => v = some (.int (Int32.ofNat (dec k).length)) ∧ h0 = h) := by
  refine Jvm.Y9.Con.intro (plainFor_of_name pn_com_example_metsmith_metsmith_MetsDivFlatPinLaw) ?_
  intro p e s m below meth c s₁ hx hby hml hret hnm hown hlk hZ P0
  refine Jvm.Y9.Aim.cast (by first | (simp [entryFrame, mkF, argsToLocals, Value.category]; done) | rfl : entryFrame m #[(.int k)] 1 = (mkF m 0 #[.val (.int k)] [])) ?_
  have H := P0.here
  refine Jvm.Y9.Aim.of (T' := s₁) (g' := (mkF m 3 #[.val (.int k)] [(.int 10), (.int k)])) (fun tgt kt => ?_) ?_
  · refine XS.iloadN H hx rfl (hb hby e1l_0) rfl ?_
    refine XS.bipush H hx rfl (hb hby e1l_1) ?_
    exact kt
  by_cases z0 : k < (10 : Int32)
  · skip
    have H := P0.here
    refine Jvm.Y9.Aim.of (T' := s₁) (g' := (mkF m 7 #[.val (.int k)] [(.int 1)])) (fun tgt kt => ?_) ?_
    · refine XS.icmpNo H hx rfl (hb hby e1l_3) rfl (tlt z0).2.1 ?_
      refine XS.iconst H hx rfl (hb hby e1l_6) ?_
      exact kt
    exact Jvm.Y9.Aim.retI P0 hx hlk hret (hb hby e1l_7) (by decide) (by decide) ⟨(congrArg some (congrArg Value.int (dg_1 hk z0).symm)), rfl⟩
  · skip
    have H := P0.here
    refine Jvm.Y9.Aim.of (T' := s₁) (g' := (mkF m 11 #[.val (.int k)] [(.int 100), (.int k)])) (fun tgt kt => ?_) ?_
    · refine XS.icmpYes H hx rfl (pc0 := 3) (pc' := 8) rfl (hb hby e1l_3) rfl (flt z0).2.1 (by decide) (by decide) ?_
      refine XS.iloadN H hx rfl (hb hby e1l_8) rfl ?_
      refine XS.bipush H hx rfl (hb hby e1l_9) ?_
      exact kt
    by_cases z1 : k < (100 : Int32)
    · skip
      have H := P0.here
      refine Jvm.Y9.Aim.of (T' := s₁) (g' := (mkF m 15 #[.val (.int k)] [(.int 2)])) (fun tgt kt => ?_) ?_
      · refine XS.icmpNo H hx rfl (hb hby e1l_11) rfl (tlt z1).2.1 ?_
        refine XS.iconst H hx rfl (hb hby e1l_14) ?_
        exact kt
      exact Jvm.Y9.Aim.retI P0 hx hlk hret (hb hby e1l_15) (by decide) (by decide) ⟨(congrArg some (congrArg Value.int (dg_2 hk z0 z1).symm)), rfl⟩
    · skip
      have H := P0.here
      refine Jvm.Y9.Aim.of (T' := s₁) (g' := (mkF m 20 #[.val (.int k)] [(.int 1000), (.int k)])) (fun tgt kt => ?_) ?_
      · refine XS.icmpYes H hx rfl (pc0 := 11) (pc' := 16) rfl (hb hby e1l_11) rfl (flt z1).2.1 (by decide) (by decide) ?_
        refine XS.iloadN H hx rfl (hb hby e1l_16) rfl ?_
        refine XS.sipush H hx rfl (hb hby e1l_17) ?_
        exact kt
      by_cases z2 : k < (1000 : Int32)
      · skip
        have H := P0.here
        refine Jvm.Y9.Aim.of (T' := s₁) (g' := (mkF m 24 #[.val (.int k)] [(.int 3)])) (fun tgt kt => ?_) ?_
        · refine XS.icmpNo H hx rfl (hb hby e1l_20) rfl (tlt z2).2.1 ?_
          refine XS.iconst H hx rfl (hb hby e1l_23) ?_
          exact kt
        exact Jvm.Y9.Aim.retI P0 hx hlk hret (hb hby e1l_24) (by decide) (by decide) ⟨(congrArg some (congrArg Value.int (dg_3 hk z1 z2).symm)), rfl⟩
      · skip
        have H := P0.here
        refine Jvm.Y9.Aim.of (T' := s₁) (g' := (mkF m 29 #[.val (.int k)] [(.int 10000), (.int k)])) (fun tgt kt => ?_) ?_
        · refine XS.icmpYes H hx rfl (pc0 := 20) (pc' := 25) rfl (hb hby e1l_20) rfl (flt z2).2.1 (by decide) (by decide) ?_
          refine XS.iloadN H hx rfl (hb hby e1l_25) rfl ?_
          refine XS.sipush H hx rfl (hb hby e1l_26) ?_
          exact kt
        by_cases z3 : k < (10000 : Int32)
        · skip
          have H := P0.here
          refine Jvm.Y9.Aim.of (T' := s₁) (g' := (mkF m 33 #[.val (.int k)] [(.int 4)])) (fun tgt kt => ?_) ?_
          · refine XS.icmpNo H hx rfl (hb hby e1l_29) rfl (tlt z3).2.1 ?_
            refine XS.iconst H hx rfl (hb hby e1l_32) ?_
            exact kt
          exact Jvm.Y9.Aim.retI P0 hx hlk hret (hb hby e1l_33) (by decide) (by decide) ⟨(congrArg some (congrArg Value.int (dg_4 hk z2 z3).symm)), rfl⟩
        · skip
          have H := P0.here
          refine Jvm.Y9.Aim.of (T' := s₁) (g' := (mkF m 35 #[.val (.int k)] [(.int k)])) (fun tgt kt => ?_) ?_
          · refine XS.icmpYes H hx rfl (pc0 := 29) (pc' := 34) rfl (hb hby e1l_29) rfl (flt z3).2.1 (by decide) (by decide) ?_
            refine XS.iloadN H hx rfl (hb hby e1l_34) rfl ?_
            exact kt
          refine Jvm.Y9.Aim.ldcI P0 hx hZ hown (wI hw 449 rfl) (hb hby e1l_35) ?_
          by_cases z4 : k < (100000 : Int32)
          · skip
            have H := P0.here
            refine Jvm.Y9.Aim.of (T' := s₁) (g' := (mkF m 41 #[.val (.int k)] [(.int 5)])) (fun tgt kt => ?_) ?_
            · refine XS.icmpNo H hx rfl (hb hby e1l_37) rfl (tlt z4).2.1 ?_
              refine XS.iconst H hx rfl (hb hby e1l_40) ?_
              exact kt
            exact Jvm.Y9.Aim.retI P0 hx hlk hret (hb hby e1l_41) (by decide) (by decide) ⟨(congrArg some (congrArg Value.int (dg_5 hk z3 z4).symm)), rfl⟩
          · skip
            have H := P0.here
            refine Jvm.Y9.Aim.of (T' := s₁) (g' := (mkF m 43 #[.val (.int k)] [(.int k)])) (fun tgt kt => ?_) ?_
            · refine XS.icmpYes H hx rfl (pc0 := 37) (pc' := 42) rfl (hb hby e1l_37) rfl (flt z4).2.1 (by decide) (by decide) ?_
              refine XS.iloadN H hx rfl (hb hby e1l_42) rfl ?_
              exact kt
            refine Jvm.Y9.Aim.ldcI P0 hx hZ hown (wI hw 450 rfl) (hb hby e1l_43) ?_
            by_cases z5 : k < (1000000 : Int32)
            · skip
              have H := P0.here
              refine Jvm.Y9.Aim.of (T' := s₁) (g' := (mkF m 50 #[.val (.int k)] [(.int 6)])) (fun tgt kt => ?_) ?_
              · refine XS.icmpNo H hx rfl (hb hby e1l_45) rfl (tlt z5).2.1 ?_
                refine XS.bipush H hx rfl (hb hby e1l_48) ?_
                exact kt
              exact Jvm.Y9.Aim.retI P0 hx hlk hret (hb hby e1l_50) (by decide) (by decide) ⟨(congrArg some (congrArg Value.int (dg_6 hk z4 z5).symm)), rfl⟩
            · skip
              have H := P0.here
              refine Jvm.Y9.Aim.of (T' := s₁) (g' := (mkF m 52 #[.val (.int k)] [(.int k)])) (fun tgt kt => ?_) ?_
              · refine XS.icmpYes H hx rfl (pc0 := 45) (pc' := 51) rfl (hb hby e1l_45) rfl (flt z5).2.1 (by decide) (by decide) ?_
                refine XS.iloadN H hx rfl (hb hby e1l_51) rfl ?_
                exact kt
              refine Jvm.Y9.Aim.ldcI P0 hx hZ hown (wI hw 451 rfl) (hb hby e1l_52) ?_
              by_cases z6 : k < (10000000 : Int32)
              · skip
                have H := P0.here
                refine Jvm.Y9.Aim.of (T' := s₁) (g' := (mkF m 59 #[.val (.int k)] [(.int 7)])) (fun tgt kt => ?_) ?_
                · refine XS.icmpNo H hx rfl (hb hby e1l_54) rfl (tlt z6).2.1 ?_
                  refine XS.bipush H hx rfl (hb hby e1l_57) ?_
                  exact kt
                exact Jvm.Y9.Aim.retI P0 hx hlk hret (hb hby e1l_59) (by decide) (by decide) ⟨(congrArg some (congrArg Value.int (dg_7 hk z5 z6).symm)), rfl⟩
              · skip
                have H := P0.here
                refine Jvm.Y9.Aim.of (T' := s₁) (g' := (mkF m 61 #[.val (.int k)] [(.int k)])) (fun tgt kt => ?_) ?_
                · refine XS.icmpYes H hx rfl (pc0 := 54) (pc' := 60) rfl (hb hby e1l_54) rfl (flt z6).2.1 (by decide) (by decide) ?_
                  refine XS.iloadN H hx rfl (hb hby e1l_60) rfl ?_
                  exact kt
                refine Jvm.Y9.Aim.ldcI P0 hx hZ hown (wI hw 452 rfl) (hb hby e1l_61) ?_
                by_cases z7 : k < (100000000 : Int32)
                · skip
                  have H := P0.here
                  refine Jvm.Y9.Aim.of (T' := s₁) (g' := (mkF m 68 #[.val (.int k)] [(.int 8)])) (fun tgt kt => ?_) ?_
                  · refine XS.icmpNo H hx rfl (hb hby e1l_63) rfl (tlt z7).2.1 ?_
                    refine XS.bipush H hx rfl (hb hby e1l_66) ?_
                    exact kt
                  exact Jvm.Y9.Aim.retI P0 hx hlk hret (hb hby e1l_68) (by decide) (by decide) ⟨(congrArg some (congrArg Value.int (dg_8 hk z6 z7).symm)), rfl⟩
                · skip
                  have H := P0.here
                  refine Jvm.Y9.Aim.of (T' := s₁) (g' := (mkF m 70 #[.val (.int k)] [(.int k)])) (fun tgt kt => ?_) ?_
                  · refine XS.icmpYes H hx rfl (pc0 := 63) (pc' := 69) rfl (hb hby e1l_63) rfl (flt z7).2.1 (by decide) (by decide) ?_
                    refine XS.iloadN H hx rfl (hb hby e1l_69) rfl ?_
                    exact kt
                  refine Jvm.Y9.Aim.ldcI P0 hx hZ hown (wI hw 453 rfl) (hb hby e1l_70) ?_
                  by_cases z8 : k < (1000000000 : Int32)
                  · skip
                    have H := P0.here
                    refine Jvm.Y9.Aim.of (T' := s₁) (g' := (mkF m 77 #[.val (.int k)] [(.int 9)])) (fun tgt kt => ?_) ?_
                    · refine XS.icmpNo H hx rfl (hb hby e1l_72) rfl (tlt z8).2.1 ?_
                      refine XS.bipush H hx rfl (hb hby e1l_75) ?_
                      exact kt
                    exact Jvm.Y9.Aim.retI P0 hx hlk hret (hb hby e1l_77) (by decide) (by decide) ⟨(congrArg some (congrArg Value.int (dg_9 hk z7 z8).symm)), rfl⟩
                  · skip
                    have H := P0.here
                    refine Jvm.Y9.Aim.of (T' := s₁) (g' := (mkF m 80 #[.val (.int k)] [(.int 10)])) (fun tgt kt => ?_) ?_
                    · refine XS.icmpYes H hx rfl (pc0 := 72) (pc' := 78) rfl (hb hby e1l_72) rfl (flt z8).2.1 (by decide) (by decide) ?_
                      refine XS.bipush H hx rfl (hb hby e1l_78) ?_
                      exact kt
                    exact Jvm.Y9.Aim.retI P0 hx hlk hret (hb hby e1l_80) (by decide) (by decide) ⟨(congrArg some (congrArg Value.int (dg_10 hk z8).symm)), rfl⟩
theorem e1m_0 : decode method_6_code 0 = .ok (.iload_n 0, 1) := by decide +kernel
theorem e1m_1 : decode method_6_code 1 = .ok (.ifCond .gt 5, 3) := by decide +kernel
theorem e1m_6 : decode method_6_code 6 = .ok (.iload_n 0, 1) := by decide +kernel
theorem e1m_7 : decode method_6_code 7 = .ok (.iconst 1, 1) := by decide +kernel
theorem e1m_8 : decode method_6_code 8 = .ok (.if_icmp .ne 6, 3) := by decide +kernel
theorem e1m_11 : decode method_6_code 11 = .ok (.bipush 10, 2) := by decide +kernel
theorem e1m_13 : decode method_6_code 13 = .ok (.ireturn, 1) := by decide +kernel
theorem e1m_14 : decode method_6_code 14 = .ok (.iload_n 0, 1) := by decide +kernel
theorem e1m_15 : decode method_6_code 15 = .ok (.iconst 2, 1) := by decide +kernel
theorem e1m_16 : decode method_6_code 16 = .ok (.if_icmp .ne 6, 3) := by decide +kernel
theorem e1m_19 : decode method_6_code 19 = .ok (.bipush 100, 2) := by decide +kernel
theorem e1m_21 : decode method_6_code 21 = .ok (.ireturn, 1) := by decide +kernel
theorem e1m_22 : decode method_6_code 22 = .ok (.iload_n 0, 1) := by decide +kernel
theorem e1m_23 : decode method_6_code 23 = .ok (.iconst 3, 1) := by decide +kernel
theorem e1m_24 : decode method_6_code 24 = .ok (.if_icmp .ne 7, 3) := by decide +kernel
theorem e1m_27 : decode method_6_code 27 = .ok (.sipush 1000, 3) := by decide +kernel
theorem e1m_30 : decode method_6_code 30 = .ok (.ireturn, 1) := by decide +kernel
theorem e1m_31 : decode method_6_code 31 = .ok (.iload_n 0, 1) := by decide +kernel
theorem e1m_32 : decode method_6_code 32 = .ok (.iconst 4, 1) := by decide +kernel
theorem e1m_33 : decode method_6_code 33 = .ok (.if_icmp .ne 7, 3) := by decide +kernel
theorem e1m_36 : decode method_6_code 36 = .ok (.sipush 10000, 3) := by decide +kernel
theorem e1m_39 : decode method_6_code 39 = .ok (.ireturn, 1) := by decide +kernel
theorem e1m_40 : decode method_6_code 40 = .ok (.iload_n 0, 1) := by decide +kernel
theorem e1m_41 : decode method_6_code 41 = .ok (.iconst 5, 1) := by decide +kernel
theorem e1m_42 : decode method_6_code 42 = .ok (.if_icmp .ne 6, 3) := by decide +kernel
theorem e1m_45 : decode method_6_code 45 = .ok (.ldc 87, 2) := by decide +kernel
theorem e1m_47 : decode method_6_code 47 = .ok (.ireturn, 1) := by decide +kernel
theorem e1m_48 : decode method_6_code 48 = .ok (.iload_n 0, 1) := by decide +kernel
theorem e1m_49 : decode method_6_code 49 = .ok (.bipush 6, 2) := by decide +kernel
theorem e1m_51 : decode method_6_code 51 = .ok (.if_icmp .ne 6, 3) := by decide +kernel
theorem e1m_54 : decode method_6_code 54 = .ok (.ldc 88, 2) := by decide +kernel
theorem e1m_56 : decode method_6_code 56 = .ok (.ireturn, 1) := by decide +kernel
theorem e1m_57 : decode method_6_code 57 = .ok (.iload_n 0, 1) := by decide +kernel
theorem e1m_58 : decode method_6_code 58 = .ok (.bipush 7, 2) := by decide +kernel
theorem e1m_60 : decode method_6_code 60 = .ok (.if_icmp .ne 6, 3) := by decide +kernel
theorem e1m_63 : decode method_6_code 63 = .ok (.ldc 89, 2) := by decide +kernel
theorem e1m_65 : decode method_6_code 65 = .ok (.ireturn, 1) := by decide +kernel
theorem e1m_66 : decode method_6_code 66 = .ok (.iload_n 0, 1) := by decide +kernel
theorem e1m_67 : decode method_6_code 67 = .ok (.bipush 8, 2) := by decide +kernel
theorem e1m_69 : decode method_6_code 69 = .ok (.if_icmp .ne 6, 3) := by decide +kernel
theorem e1m_72 : decode method_6_code 72 = .ok (.ldc 90, 2) := by decide +kernel
theorem e1m_74 : decode method_6_code 74 = .ok (.ireturn, 1) := by decide +kernel
theorem e1m_75 : decode method_6_code 75 = .ok (.ldc 91, 2) := by decide +kernel
theorem e1m_77 : decode method_6_code 77 = .ok (.ireturn, 1) := by decide +kernel
theorem e1m_4 : decode method_6_code 4 = .ok (.iconst 1, 1) := by decide +kernel
theorem e1m_5 : decode method_6_code 5 = .ok (.ireturn, 1) := by decide +kernel
theorem own_p10 (l : Launch) (Z : State) (a0 : Array Value) (hw : ∀ d ∈ tables_1, d.before a0 Z = true) (ex_ : Int32) (h0 : Heap) (n0 : Nat) (Z0 : n0 ≤ h0.size) :
    Jvm.Y9.Con l Z (⟨"com/example/metsmith/metsmith/MetsDivFlatPinLaw", "pow10", "(I)I"⟩ : MethodName) method_6_code 1 (some .int) ({ frames := 0, cells := 0, slots := 0, locals := 0 } : Room) n0 #[(.int ex_)] h0 (fun v h => v = some (.int (pw ex_)) ∧ h0 = h) := by
  refine Jvm.Y9.Con.intro (plainFor_of_name pn_com_example_metsmith_metsmith_MetsDivFlatPinLaw) ?_
  intro p e s m below meth c s₁ hx hby hml hret hnm hown hlk hZ P0
  refine Jvm.Y9.Aim.cast (by first | (simp [entryFrame, mkF, argsToLocals, Value.category]; done) | rfl : entryFrame m #[(.int ex_)] 1 = (mkF m 0 #[.val (.int ex_)] [])) ?_
  have H := P0.here
  refine Jvm.Y9.Aim.of (T' := s₁) (g' := (mkF m 1 #[.val (.int ex_)] [(.int ex_)])) (fun tgt kt => ?_) ?_
  · refine XS.iloadN H hx rfl (hb hby e1m_0) rfl ?_
    exact kt
  by_cases z0 : (0 : Int32) < ex_
  · skip
    have H := P0.here
    refine Jvm.Y9.Aim.of (T' := s₁) (g' := (mkF m 8 #[.val (.int ex_)] [(.int 1), (.int ex_)])) (fun tgt kt => ?_) ?_
    · refine XS.ifYes H hx rfl (pc0 := 1) (pc' := 6) rfl (hb hby e1m_1) rfl ((if0 _ _).trans (tlt z0).2.2.1) (by decide) (by decide) ?_
      refine XS.iloadN H hx rfl (hb hby e1m_6) rfl ?_
      refine XS.iconst H hx rfl (hb hby e1m_7) ?_
      exact kt
    by_cases z1 : ex_ = (1 : Int32)
    · skip
      have H := P0.here
      refine Jvm.Y9.Aim.of (T' := s₁) (g' := (mkF m 13 #[.val (.int ex_)] [(.int 10)])) (fun tgt kt => ?_) ?_
      · refine XS.icmpNo H hx rfl (hb hby e1m_8) rfl (teq z1).2 ?_
        refine XS.bipush H hx rfl (hb hby e1m_11) ?_
        exact kt
      exact Jvm.Y9.Aim.retI P0 hx hlk hret (hb hby e1m_13) (by decide) (by decide) ⟨(by rw [pw, if_pos z0, if_pos z1]), rfl⟩
    · skip
      have H := P0.here
      refine Jvm.Y9.Aim.of (T' := s₁) (g' := (mkF m 16 #[.val (.int ex_)] [(.int 2), (.int ex_)])) (fun tgt kt => ?_) ?_
      · refine XS.icmpYes H hx rfl (pc0 := 8) (pc' := 14) rfl (hb hby e1m_8) rfl (feq z1).2 (by decide) (by decide) ?_
        refine XS.iloadN H hx rfl (hb hby e1m_14) rfl ?_
        refine XS.iconst H hx rfl (hb hby e1m_15) ?_
        exact kt
      by_cases z2 : ex_ = (2 : Int32)
      · skip
        have H := P0.here
        refine Jvm.Y9.Aim.of (T' := s₁) (g' := (mkF m 21 #[.val (.int ex_)] [(.int 100)])) (fun tgt kt => ?_) ?_
        · refine XS.icmpNo H hx rfl (hb hby e1m_16) rfl (teq z2).2 ?_
          refine XS.bipush H hx rfl (hb hby e1m_19) ?_
          exact kt
        exact Jvm.Y9.Aim.retI P0 hx hlk hret (hb hby e1m_21) (by decide) (by decide) ⟨(by rw [pw, if_pos z0, if_neg z1, if_pos z2]), rfl⟩
      · skip
        have H := P0.here
        refine Jvm.Y9.Aim.of (T' := s₁) (g' := (mkF m 24 #[.val (.int ex_)] [(.int 3), (.int ex_)])) (fun tgt kt => ?_) ?_
        · refine XS.icmpYes H hx rfl (pc0 := 16) (pc' := 22) rfl (hb hby e1m_16) rfl (feq z2).2 (by decide) (by decide) ?_
          refine XS.iloadN H hx rfl (hb hby e1m_22) rfl ?_
          refine XS.iconst H hx rfl (hb hby e1m_23) ?_
          exact kt
        by_cases z3 : ex_ = (3 : Int32)
        · skip
          have H := P0.here
          refine Jvm.Y9.Aim.of (T' := s₁) (g' := (mkF m 30 #[.val (.int ex_)] [(.int 1000)])) (fun tgt kt => ?_) ?_
          · refine XS.icmpNo H hx rfl (hb hby e1m_24) rfl (teq z3).2 ?_
            refine XS.sipush H hx rfl (hb hby e1m_27) ?_
            exact kt
          exact Jvm.Y9.Aim.retI P0 hx hlk hret (hb hby e1m_30) (by decide) (by decide) ⟨(by rw [pw, if_pos z0, if_neg z1, if_neg z2, if_pos z3]), rfl⟩
        · skip
          have H := P0.here
          refine Jvm.Y9.Aim.of (T' := s₁) (g' := (mkF m 33 #[.val (.int ex_)] [(.int 4), (.int ex_)])) (fun tgt kt => ?_) ?_
          · refine XS.icmpYes H hx rfl (pc0 := 24) (pc' := 31) rfl (hb hby e1m_24) rfl (feq z3).2 (by decide) (by decide) ?_
            refine XS.iloadN H hx rfl (hb hby e1m_31) rfl ?_
            refine XS.iconst H hx rfl (hb hby e1m_32) ?_
            exact kt
          by_cases z4 : ex_ = (4 : Int32)
          · skip
            have H := P0.here
            refine Jvm.Y9.Aim.of (T' := s₁) (g' := (mkF m 39 #[.val (.int ex_)] [(.int 10000)])) (fun tgt kt => ?_) ?_
            · refine XS.icmpNo H hx rfl (hb hby e1m_33) rfl (teq z4).2 ?_
              refine XS.sipush H hx rfl (hb hby e1m_36) ?_
              exact kt
            exact Jvm.Y9.Aim.retI P0 hx hlk hret (hb hby e1m_39) (by decide) (by decide) ⟨(by rw [pw, if_pos z0, if_neg z1, if_neg z2, if_neg z3, if_pos z4]), rfl⟩
          · skip
            have H := P0.here
            refine Jvm.Y9.Aim.of (T' := s₁) (g' := (mkF m 42 #[.val (.int ex_)] [(.int 5), (.int ex_)])) (fun tgt kt => ?_) ?_
            · refine XS.icmpYes H hx rfl (pc0 := 33) (pc' := 40) rfl (hb hby e1m_33) rfl (feq z4).2 (by decide) (by decide) ?_
              refine XS.iloadN H hx rfl (hb hby e1m_40) rfl ?_
              refine XS.iconst H hx rfl (hb hby e1m_41) ?_
              exact kt
            by_cases z5 : ex_ = (5 : Int32)
            · skip
              have H := P0.here
              refine Jvm.Y9.Aim.of (T' := s₁) (g' := (mkF m 45 #[.val (.int ex_)] [])) (fun tgt kt => ?_) ?_
              · refine XS.icmpNo H hx rfl (hb hby e1m_42) rfl (teq z5).2 ?_
                exact kt
              refine Jvm.Y9.Aim.ldcI P0 hx hZ hown (wI hw 449 rfl) (hb hby e1m_45) ?_
              exact Jvm.Y9.Aim.retI P0 hx hlk hret (hb hby e1m_47) (by decide) (by decide) ⟨(by rw [pw, if_pos z0, if_neg z1, if_neg z2, if_neg z3, if_neg z4, if_pos z5]), rfl⟩
            · skip
              have H := P0.here
              refine Jvm.Y9.Aim.of (T' := s₁) (g' := (mkF m 51 #[.val (.int ex_)] [(.int 6), (.int ex_)])) (fun tgt kt => ?_) ?_
              · refine XS.icmpYes H hx rfl (pc0 := 42) (pc' := 48) rfl (hb hby e1m_42) rfl (feq z5).2 (by decide) (by decide) ?_
                refine XS.iloadN H hx rfl (hb hby e1m_48) rfl ?_
                refine XS.bipush H hx rfl (hb hby e1m_49) ?_
                exact kt
              by_cases z6 : ex_ = (6 : Int32)
              · skip
                have H := P0.here
                refine Jvm.Y9.Aim.of (T' := s₁) (g' := (mkF m 54 #[.val (.int ex_)] [])) (fun tgt kt => ?_) ?_
                · refine XS.icmpNo H hx rfl (hb hby e1m_51) rfl (teq z6).2 ?_
                  exact kt
                refine Jvm.Y9.Aim.ldcI P0 hx hZ hown (wI hw 450 rfl) (hb hby e1m_54) ?_
                exact Jvm.Y9.Aim.retI P0 hx hlk hret (hb hby e1m_56) (by decide) (by decide) ⟨(by rw [pw, if_pos z0, if_neg z1, if_neg z2, if_neg z3, if_neg z4, if_neg z5, if_pos z6]), rfl⟩
              · skip
                have H := P0.here
                refine Jvm.Y9.Aim.of (T' := s₁) (g' := (mkF m 60 #[.val (.int ex_)] [(.int 7), (.int ex_)])) (fun tgt kt => ?_) ?_
                · refine XS.icmpYes H hx rfl (pc0 := 51) (pc' := 57) rfl (hb hby e1m_51) rfl (feq z6).2 (by decide) (by decide) ?_
                  refine XS.iloadN H hx rfl (hb hby e1m_57) rfl ?_
                  refine XS.bipush H hx rfl (hb hby e1m_58) ?_
                  exact kt
                by_cases z7 : ex_ = (7 : Int32)
                · skip
                  have H := P0.here
                  refine Jvm.Y9.Aim.of (T' := s₁) (g' := (mkF m 63 #[.val (.int ex_)] [])) (fun tgt kt => ?_) ?_
                  · refine XS.icmpNo H hx rfl (hb hby e1m_60) rfl (teq z7).2 ?_
                    exact kt
                  refine Jvm.Y9.Aim.ldcI P0 hx hZ hown (wI hw 451 rfl) (hb hby e1m_63) ?_
                  exact Jvm.Y9.Aim.retI P0 hx hlk hret (hb hby e1m_65) (by decide) (by decide) ⟨(by rw [pw, if_pos z0, if_neg z1, if_neg z2, if_neg z3, if_neg z4, if_neg z5, if_neg z6, if_pos z7]), rfl⟩
                · skip
                  have H := P0.here
                  refine Jvm.Y9.Aim.of (T' := s₁) (g' := (mkF m 69 #[.val (.int ex_)] [(.int 8), (.int ex_)])) (fun tgt kt => ?_) ?_
                  · refine XS.icmpYes H hx rfl (pc0 := 60) (pc' := 66) rfl (hb hby e1m_60) rfl (feq z7).2 (by decide) (by decide) ?_
                    refine XS.iloadN H hx rfl (hb hby e1m_66) rfl ?_
                    refine XS.bipush H hx rfl (hb hby e1m_67) ?_
                    exact kt
                  by_cases z8 : ex_ = (8 : Int32)
                  · skip
                    have H := P0.here
                    refine Jvm.Y9.Aim.of (T' := s₁) (g' := (mkF m 72 #[.val (.int ex_)] [])) (fun tgt kt => ?_) ?_
                    · refine XS.icmpNo H hx rfl (hb hby e1m_69) rfl (teq z8).2 ?_
                      exact kt
                    refine Jvm.Y9.Aim.ldcI P0 hx hZ hown (wI hw 452 rfl) (hb hby e1m_72) ?_
                    exact Jvm.Y9.Aim.retI P0 hx hlk hret (hb hby e1m_74) (by decide) (by decide) ⟨(by rw [pw, if_pos z0, if_neg z1, if_neg z2, if_neg z3, if_neg z4, if_neg z5, if_neg z6, if_neg z7, if_pos z8]), rfl⟩
                  · skip
                    have H := P0.here
                    refine Jvm.Y9.Aim.of (T' := s₁) (g' := (mkF m 75 #[.val (.int ex_)] [])) (fun tgt kt => ?_) ?_
                    · refine XS.icmpYes H hx rfl (pc0 := 69) (pc' := 75) rfl (hb hby e1m_69) rfl (feq z8).2 (by decide) (by decide) ?_
                      exact kt
                    refine Jvm.Y9.Aim.ldcI P0 hx hZ hown (wI hw 453 rfl) (hb hby e1m_75) ?_
                    exact Jvm.Y9.Aim.retI P0 hx hlk hret (hb hby e1m_77) (by decide) (by decide) ⟨(by rw [pw, if_pos z0, if_neg z1, if_neg z2, if_neg z3, if_neg z4, if_neg z5, if_neg z6, if_neg z7, if_neg z8]), rfl⟩
  · skip
    have H := P0.here
    refine Jvm.Y9.Aim.of (T' := s₁) (g' := (mkF m 5 #[.val (.int ex_)] [(.int 1)])) (fun tgt kt => ?_) ?_
    · refine XS.ifNo H hx rfl (hb hby e1m_1) rfl ((if0 _ _).trans (flt z0).2.2.1) ?_
      refine XS.iconst H hx rfl (hb hby e1m_4) ?_
      exact kt
    exact Jvm.Y9.Aim.retI P0 hx hlk hret (hb hby e1m_5) (by decide) (by decide) ⟨(by rw [pw, if_neg z0]), rfl⟩
theorem e1k_0 : decode method_4_code 0 = .ok (.iload_n 3, 1) := by decide +kernel
theorem e1k_1 : decode method_4_code 1 = .ok (.iload_n 2, 1) := by decide +kernel
theorem e1k_2 : decode method_4_code 2 = .ok (.if_icmp .lt 5, 3) := by decide +kernel
theorem e1k_7 : decode method_4_code 7 = .ok (.aload_n 0, 1) := by decide +kernel
theorem e1k_8 : decode method_4_code 8 = .ok (.iconst 5, 1) := by decide +kernel
theorem e1k_9 : decode method_4_code 9 = .ok (.iload_n 3, 1) := by decide +kernel
theorem e1k_10 : decode method_4_code 10 = .ok (.iadd, 1) := by decide +kernel
theorem e1k_11 : decode method_4_code 11 = .ok (.invokevirtual 76, 3) := by decide +kernel
theorem pd__28I_29C : parseMethodDescriptor "(I)C" = some ⟨[.int], some .char⟩ := by decide +kernel
theorem e1k_14 : decode method_4_code 14 = .ok (.bipush 48, 2) := by decide +kernel
theorem e1k_16 : decode method_4_code 16 = .ok (.iload_n 1, 1) := by decide +kernel
theorem e1k_17 : decode method_4_code 17 = .ok (.iload_n 2, 1) := by decide +kernel
theorem e1k_18 : decode method_4_code 18 = .ok (.iconst 1, 1) := by decide +kernel
theorem e1k_19 : decode method_4_code 19 = .ok (.isub, 1) := by decide +kernel
theorem e1k_20 : decode method_4_code 20 = .ok (.iload_n 3, 1) := by decide +kernel
theorem e1k_21 : decode method_4_code 21 = .ok (.isub, 1) := by decide +kernel
theorem e1k_22 : decode method_4_code 22 = .ok (.invokestatic 84, 3) := by decide +kernel
theorem e1k_25 : decode method_4_code 25 = .ok (.idiv, 1) := by decide +kernel
theorem e1k_26 : decode method_4_code 26 = .ok (.bipush 10, 2) := by decide +kernel
theorem e1k_28 : decode method_4_code 28 = .ok (.irem, 1) := by decide +kernel
theorem e1k_29 : decode method_4_code 29 = .ok (.iadd, 1) := by decide +kernel
theorem e1k_30 : decode method_4_code 30 = .ok (.if_icmp .ne 7, 3) := by decide +kernel
theorem e1k_33 : decode method_4_code 33 = .ok (.iconst 1, 1) := by decide +kernel
theorem e1k_34 : decode method_4_code 34 = .ok (.goto 4, 3) := by decide +kernel
theorem e1k_38 : decode method_4_code 38 = .ok (.ireturn, 1) := by decide +kernel
theorem e1k_5 : decode method_4_code 5 = .ok (.iconst 1, 1) := by decide +kernel
theorem e1k_6 : decode method_4_code 6 = .ok (.ireturn, 1) := by decide +kernel
theorem own_dok (l : Launch) (Z : State) (a0 : Array Value) (hw : ∀ d ∈ tables_1, d.before a0 Z = true) (y : Addr) (u : Addr) (ku : ClassId) (k : Int32) (j : Int32) (h0 : Heap) (n0 : Nat) (Z0 : n0 ≤ h0.size) (F0 : Str Z h0 y u ku (fid k)) (F1 : Old Z n0 h0) (hk : (0 : Int32) < k) (hj0 : ¬ (j < (0 : Int32))) (G : Cmp Z) (GS : Sio Z) :
    Jvm.Y9.Con l Z (⟨"com/example/metsmith/metsmith/MetsDivFlatPinLaw", "digitOk", "(Ljava/lang/String;III)Z"⟩ : MethodName) method_4_code 4 (some .boolean) ({ frames := 4, cells := 0, slots := 0, locals := 53 } : Room) n0 #[(.ref y), (.int k), (.int (Int32.ofNat (dec k).length)), (.int j)] h0 (fun v h => v = some (.int 1) ∧ h0 = h) := by
  refine Jvm.Y9.Con.intro (plainFor_of_name pn_com_example_metsmith_metsmith_MetsDivFlatPinLaw) ?_
  intro p e s m below meth c s₁ hx hby hml hret hnm hown hlk hZ P0
  refine Jvm.Y9.Aim.cast (by first | (simp [entryFrame, mkF, argsToLocals, Value.category]; done) | rfl : entryFrame m #[(.ref y), (.int k), (.int (Int32.ofNat (dec k).length)), (.int j)] 4 = (mkF m 0 #[.val (.ref y), .val (.int k), .val (.int (Int32.ofNat (dec k).length)), .val (.int j)] [])) ?_
  have hd1 := dec_len10 hk
  have H := P0.here
  refine Jvm.Y9.Aim.of (T' := s₁) (g' := (mkF m 2 #[.val (.ref y), .val (.int k), .val (.int (Int32.ofNat (dec k).length)), .val (.int j)] [(.int (Int32.ofNat (dec k).length)), (.int j)])) (fun tgt kt => ?_) ?_
  · refine XS.iloadN H hx rfl (hb hby e1k_0) rfl ?_
    refine XS.iloadN H hx rfl (hb hby e1k_1) rfl ?_
    exact kt
  by_cases z0 : j < (Int32.ofNat (dec k).length)
  · skip
    obtain ⟨jn, hjn, rfl⟩ := j_nat (by omega) hj0 z0
    have hpw : ¬ ((pw (Int32.ofNat ((dec k).length - 1 - jn))) = (0 : Int32)) := (pw_at ⟨(dec k).length - 1 - jn, by omega⟩).2
    have H := P0.here
    refine Jvm.Y9.Aim.of (T' := s₁) (g' := (mkF m 11 #[.val (.ref y), .val (.int k), .val (.int (Int32.ofNat (dec k).length)), .val (.int (Int32.ofNat jn))] [(.int ((5 : Int32) + (Int32.ofNat jn))), (.ref y)])) (fun tgt kt => ?_) ?_
    · refine XS.icmpYes H hx rfl (pc0 := 2) (pc' := 7) rfl (hb hby e1k_2) rfl (tlt z0).1 (by decide) (by decide) ?_
      refine XS.aloadN H hx rfl (hb hby e1k_7) rfl rfl ?_
      refine XS.iconst H hx rfl (hb hby e1k_8) ?_
      refine XS.iloadN H hx rfl (hb hby e1k_9) rfl ?_
      refine XS.iadd H hx rfl (hb hby e1k_10) rfl ?_
      exact kt
    rw [show ((5 : Int32) + (Int32.ofNat jn)) = (Int32.ofNat (5 + jn)) from own_add (a := 5)]
    show Jvm.Y9.Aim p e below s _ _ n0 _ s₁ (mkF m 11 #[.val (.ref y), .val (.int k), .val (.int (Int32.ofNat (dec k).length)), .val (.int (Int32.ofNat jn))] [(.int (Int32.ofNat (5 + jn))), (.ref y)])
    refine Jvm.Y9.Aim.callV (argsL := [(.int (Int32.ofNat (5 + jn)))]) (rest := []) (y := (⟨"java/lang/String", "charAt", "(I)C"⟩ : MethodName)) (z := (⟨"java/lang/String", "charAt", "(I)C"⟩ : MethodName)) P0 hx hZ hml hown (wI hw 424 rfl) (wI hw 425 rfl) (notFace_of_selects (args := #[]) (mvT hZ (wI hw 427 rfl))) (wI hw 427 rfl) (wI hw 426 rfl) (by decide) F0.1 (Jvm.Y9.Con.back (W := 0) (own_charAt l Z a0 hw y u ku (fid k) (Int32.ofNat (5 + jn)) h0 n0 Z0 F0 F1 ((own_clamp (n := 5 + jn) (by omega)).2.1) (own_lt (a := 5 + jn) (by rw [fid_len]; omega) (by rw [fid_len]; omega)) G GS) hZ (wI hw 428 rfl) (wI hw 3 rfl) (by decide) (by decide)) rfl pd__28I_29C rfl (Nat.le_of_eq rfl) (hb hby e1k_11) (by decide) (by decide) ?_
    intro z1 z2 z3 z4 z5
    obtain ⟨rfl, rfl⟩ := z5
    have H := z4.here
    refine Jvm.Y9.Aim.of (T' := z1) (g' := (mkF m 22 #[.val (.ref y), .val (.int k), .val (.int (Int32.ofNat (dec k).length)), .val (.int (Int32.ofNat jn))] [(.int (((Int32.ofNat (dec k).length) - (1 : Int32)) - (Int32.ofNat jn))), (.int k), (.int 48), (.int ((fid k).getD (Int32.ofNat (5 + jn)).toNatClampNeg 0))])) (fun tgt kt => ?_) ?_
    · refine XS.bipush H hx rfl (hb hby e1k_14) ?_
      refine XS.iloadN H hx rfl (hb hby e1k_16) rfl ?_
      refine XS.iloadN H hx rfl (hb hby e1k_17) rfl ?_
      refine XS.iconst H hx rfl (hb hby e1k_18) ?_
      refine XS.isub H hx rfl (hb hby e1k_19) rfl ?_
      refine XS.iloadN H hx rfl (hb hby e1k_20) rfl ?_
      refine XS.isub H hx rfl (hb hby e1k_21) rfl ?_
      exact kt
    rw [show (((Int32.ofNat (dec k).length) - (1 : Int32)) - (Int32.ofNat jn)) = (Int32.ofNat ((dec k).length - 1 - jn)) from (by rw [show ((Int32.ofNat (dec k).length) - (1 : Int32)) = Int32.ofNat ((dec k).length - 1) from own_subN (b := 1) (by omega)]; exact own_subN (by omega))]
    show Jvm.Y9.Aim p e below s _ _ n0 _ z1 (mkF m 22 #[.val (.ref y), .val (.int k), .val (.int (Int32.ofNat (dec k).length)), .val (.int (Int32.ofNat jn))] [(.int (Int32.ofNat ((dec k).length - 1 - jn))), (.int k), (.int 48), (.int ((fid k).getD (Int32.ofNat (5 + jn)).toNatClampNeg 0))])
    refine Jvm.Y9.Aim.callS (argsL := [(.int (Int32.ofNat ((dec k).length - 1 - jn)))]) (rest := [(.int k), (.int 48), (.int ((fid k).getD (Int32.ofNat (5 + jn)).toNatClampNeg 0))]) z4 hx hZ hml hown (wI hw 445 rfl) (wI hw 446 rfl) (wI hw 418 rfl) (wI hw 447 rfl) (by decide) (Jvm.Y9.Con.back (W := 3) (own_p10 l Z a0 hw (Int32.ofNat ((dec k).length - 1 - jn)) h0 n0 Z0) hZ (wI hw 447 rfl) (wI hw 418 rfl) (by decide) (by decide)) rfl pd__28I_29I rfl (Nat.le_of_eq rfl) (hb hby e1k_22) (by decide) (by decide) ?_
    intro z6 z7 z8 z9 za
    obtain ⟨rfl, rfl⟩ := za
    have H := z9.here
    refine Jvm.Y9.Aim.of (T' := z6) (g' := (mkF m 38 #[.val (.ref y), .val (.int k), .val (.int (Int32.ofNat (dec k).length)), .val (.int (Int32.ofNat jn))] [(.int 1)])) (fun tgt kt => ?_) ?_
    · refine XS.idiv H hx rfl (hb hby e1k_25) rfl hpw ?_
      refine XS.bipush H hx rfl (hb hby e1k_26) ?_
      refine Jvm.Y9.own_irem H hx rfl (hb hby e1k_28) rfl (by decide) ?_
      refine XS.iadd H hx rfl (hb hby e1k_29) rfl ?_
      refine XS.icmpNo H hx rfl (hb hby e1k_30) rfl (teq (dok_eq hk hjn)).2 ?_
      refine XS.iconst H hx rfl (hb hby e1k_33) ?_
      refine XS.goto H hx rfl (pc0 := 34) (pc' := 38) rfl (hb hby e1k_34) (by decide) (by decide) ?_
      exact kt
    exact Jvm.Y9.Aim.retN (t := .boolean) z9 hx hlk hret (by simp) (hb hby e1k_38) (by decide) (by decide) ⟨rfl, rfl⟩
  · skip
    have H := P0.here
    refine Jvm.Y9.Aim.of (T' := s₁) (g' := (mkF m 6 #[.val (.ref y), .val (.int k), .val (.int (Int32.ofNat (dec k).length)), .val (.int j)] [(.int 1)])) (fun tgt kt => ?_) ?_
    · refine XS.icmpNo H hx rfl (hb hby e1k_2) rfl (flt z0).1 ?_
      refine XS.iconst H hx rfl (hb hby e1k_5) ?_
      exact kt
    exact Jvm.Y9.Aim.retN (t := .boolean) P0 hx hlk hret (by simp) (hb hby e1k_6) (by decide) (by decide) ⟨rfl, rfl⟩
theorem e1j_0 : decode method_3_code 0 = .ok (.aload_n 0, 1) := by decide +kernel
theorem e1j_1 : decode method_3_code 1 = .ok (.ifnonnull 5, 3) := by decide +kernel
theorem e1j_6 : decode method_3_code 6 = .ok (.iload_n 1, 1) := by decide +kernel
theorem e1j_7 : decode method_3_code 7 = .ok (.invokestatic 69, 3) := by decide +kernel
theorem e1j_10 : decode method_3_code 10 = .ok (.istore_n 2, 1) := by decide +kernel
theorem e1j_11 : decode method_3_code 11 = .ok (.aload_n 0, 1) := by decide +kernel
theorem e1j_12 : decode method_3_code 12 = .ok (.invokevirtual 73, 3) := by decide +kernel
theorem e1j_15 : decode method_3_code 15 = .ok (.iconst 5, 1) := by decide +kernel
theorem e1j_16 : decode method_3_code 16 = .ok (.iload_n 2, 1) := by decide +kernel
theorem e1j_17 : decode method_3_code 17 = .ok (.iadd, 1) := by decide +kernel
theorem e1j_18 : decode method_3_code 18 = .ok (.if_icmp .eq 5, 3) := by decide +kernel
theorem e1j_23 : decode method_3_code 23 = .ok (.aload_n 0, 1) := by decide +kernel
theorem e1j_24 : decode method_3_code 24 = .ok (.iconst 0, 1) := by decide +kernel
theorem e1j_25 : decode method_3_code 25 = .ok (.invokevirtual 76, 3) := by decide +kernel
theorem e1j_28 : decode method_3_code 28 = .ok (.bipush 102, 2) := by decide +kernel
theorem e1j_30 : decode method_3_code 30 = .ok (.if_icmp .ne 43, 3) := by decide +kernel
theorem e1j_33 : decode method_3_code 33 = .ok (.aload_n 0, 1) := by decide +kernel
theorem e1j_34 : decode method_3_code 34 = .ok (.iconst 1, 1) := by decide +kernel
theorem e1j_35 : decode method_3_code 35 = .ok (.invokevirtual 76, 3) := by decide +kernel
theorem e1j_38 : decode method_3_code 38 = .ok (.bipush 105, 2) := by decide +kernel
theorem e1j_40 : decode method_3_code 40 = .ok (.if_icmp .ne 33, 3) := by decide +kernel
theorem e1j_43 : decode method_3_code 43 = .ok (.aload_n 0, 1) := by decide +kernel
theorem e1j_44 : decode method_3_code 44 = .ok (.iconst 2, 1) := by decide +kernel
theorem e1j_45 : decode method_3_code 45 = .ok (.invokevirtual 76, 3) := by decide +kernel
theorem e1j_48 : decode method_3_code 48 = .ok (.bipush 108, 2) := by decide +kernel
theorem e1j_50 : decode method_3_code 50 = .ok (.if_icmp .ne 23, 3) := by decide +kernel
theorem e1j_53 : decode method_3_code 53 = .ok (.aload_n 0, 1) := by decide +kernel
theorem e1j_54 : decode method_3_code 54 = .ok (.iconst 3, 1) := by decide +kernel
theorem e1j_55 : decode method_3_code 55 = .ok (.invokevirtual 76, 3) := by decide +kernel
theorem e1j_58 : decode method_3_code 58 = .ok (.bipush 101, 2) := by decide +kernel
theorem e1j_60 : decode method_3_code 60 = .ok (.if_icmp .ne 13, 3) := by decide +kernel
theorem e1j_63 : decode method_3_code 63 = .ok (.aload_n 0, 1) := by decide +kernel
theorem e1j_64 : decode method_3_code 64 = .ok (.iconst 4, 1) := by decide +kernel
theorem e1j_65 : decode method_3_code 65 = .ok (.invokevirtual 76, 3) := by decide +kernel
theorem e1j_68 : decode method_3_code 68 = .ok (.bipush 45, 2) := by decide +kernel
theorem e1j_70 : decode method_3_code 70 = .ok (.if_icmp .eq 5, 3) := by decide +kernel
theorem e1j_75 : decode method_3_code 75 = .ok (.aload_n 0, 1) := by decide +kernel
theorem e1j_76 : decode method_3_code 76 = .ok (.iload_n 1, 1) := by decide +kernel
theorem e1j_77 : decode method_3_code 77 = .ok (.iload_n 2, 1) := by decide +kernel
theorem e1j_78 : decode method_3_code 78 = .ok (.iconst 0, 1) := by decide +kernel
theorem e1j_79 : decode method_3_code 79 = .ok (.invokestatic 80, 3) := by decide +kernel
theorem pd__28Ljava_2flang_2fString_3bIII_29Z : parseMethodDescriptor "(Ljava/lang/String;III)Z" = some ⟨[(.object "java/lang/String"), .int, .int, .int], some .boolean⟩ := by decide +kernel
theorem e1j_82 : decode method_3_code 82 = .ok (.ifCond .eq 101, 3) := by decide +kernel
theorem e1j_85 : decode method_3_code 85 = .ok (.aload_n 0, 1) := by decide +kernel
theorem e1j_86 : decode method_3_code 86 = .ok (.iload_n 1, 1) := by decide +kernel
theorem e1j_87 : decode method_3_code 87 = .ok (.iload_n 2, 1) := by decide +kernel
theorem e1j_88 : decode method_3_code 88 = .ok (.iconst 1, 1) := by decide +kernel
theorem e1j_89 : decode method_3_code 89 = .ok (.invokestatic 80, 3) := by decide +kernel
theorem e1j_92 : decode method_3_code 92 = .ok (.ifCond .eq 91, 3) := by decide +kernel
theorem e1j_95 : decode method_3_code 95 = .ok (.aload_n 0, 1) := by decide +kernel
theorem e1j_96 : decode method_3_code 96 = .ok (.iload_n 1, 1) := by decide +kernel
theorem e1j_97 : decode method_3_code 97 = .ok (.iload_n 2, 1) := by decide +kernel
theorem e1j_98 : decode method_3_code 98 = .ok (.iconst 2, 1) := by decide +kernel
theorem e1j_99 : decode method_3_code 99 = .ok (.invokestatic 80, 3) := by decide +kernel
theorem e1j_102 : decode method_3_code 102 = .ok (.ifCond .eq 81, 3) := by decide +kernel
theorem e1j_105 : decode method_3_code 105 = .ok (.aload_n 0, 1) := by decide +kernel
theorem e1j_106 : decode method_3_code 106 = .ok (.iload_n 1, 1) := by decide +kernel
theorem e1j_107 : decode method_3_code 107 = .ok (.iload_n 2, 1) := by decide +kernel
theorem e1j_108 : decode method_3_code 108 = .ok (.iconst 3, 1) := by decide +kernel
theorem e1j_109 : decode method_3_code 109 = .ok (.invokestatic 80, 3) := by decide +kernel
theorem e1j_112 : decode method_3_code 112 = .ok (.ifCond .eq 71, 3) := by decide +kernel
theorem e1j_115 : decode method_3_code 115 = .ok (.aload_n 0, 1) := by decide +kernel
theorem e1j_116 : decode method_3_code 116 = .ok (.iload_n 1, 1) := by decide +kernel
theorem e1j_117 : decode method_3_code 117 = .ok (.iload_n 2, 1) := by decide +kernel
theorem e1j_118 : decode method_3_code 118 = .ok (.iconst 4, 1) := by decide +kernel
theorem e1j_119 : decode method_3_code 119 = .ok (.invokestatic 80, 3) := by decide +kernel
theorem e1j_122 : decode method_3_code 122 = .ok (.ifCond .eq 61, 3) := by decide +kernel
theorem e1j_125 : decode method_3_code 125 = .ok (.aload_n 0, 1) := by decide +kernel
theorem e1j_126 : decode method_3_code 126 = .ok (.iload_n 1, 1) := by decide +kernel
theorem e1j_127 : decode method_3_code 127 = .ok (.iload_n 2, 1) := by decide +kernel
theorem e1j_128 : decode method_3_code 128 = .ok (.iconst 5, 1) := by decide +kernel
theorem e1j_129 : decode method_3_code 129 = .ok (.invokestatic 80, 3) := by decide +kernel
theorem e1j_132 : decode method_3_code 132 = .ok (.ifCond .eq 51, 3) := by decide +kernel
theorem e1j_135 : decode method_3_code 135 = .ok (.aload_n 0, 1) := by decide +kernel
theorem e1j_136 : decode method_3_code 136 = .ok (.iload_n 1, 1) := by decide +kernel
theorem e1j_137 : decode method_3_code 137 = .ok (.iload_n 2, 1) := by decide +kernel
theorem e1j_138 : decode method_3_code 138 = .ok (.bipush 6, 2) := by decide +kernel
theorem e1j_140 : decode method_3_code 140 = .ok (.invokestatic 80, 3) := by decide +kernel
theorem e1j_143 : decode method_3_code 143 = .ok (.ifCond .eq 40, 3) := by decide +kernel
theorem e1j_146 : decode method_3_code 146 = .ok (.aload_n 0, 1) := by decide +kernel
theorem e1j_147 : decode method_3_code 147 = .ok (.iload_n 1, 1) := by decide +kernel
theorem e1j_148 : decode method_3_code 148 = .ok (.iload_n 2, 1) := by decide +kernel
theorem e1j_149 : decode method_3_code 149 = .ok (.bipush 7, 2) := by decide +kernel
theorem e1j_151 : decode method_3_code 151 = .ok (.invokestatic 80, 3) := by decide +kernel
theorem e1j_154 : decode method_3_code 154 = .ok (.ifCond .eq 29, 3) := by decide +kernel
theorem e1j_157 : decode method_3_code 157 = .ok (.aload_n 0, 1) := by decide +kernel
theorem e1j_158 : decode method_3_code 158 = .ok (.iload_n 1, 1) := by decide +kernel
theorem e1j_159 : decode method_3_code 159 = .ok (.iload_n 2, 1) := by decide +kernel
theorem e1j_160 : decode method_3_code 160 = .ok (.bipush 8, 2) := by decide +kernel
theorem e1j_162 : decode method_3_code 162 = .ok (.invokestatic 80, 3) := by decide +kernel
theorem e1j_165 : decode method_3_code 165 = .ok (.ifCond .eq 18, 3) := by decide +kernel
theorem e1j_168 : decode method_3_code 168 = .ok (.aload_n 0, 1) := by decide +kernel
theorem e1j_169 : decode method_3_code 169 = .ok (.iload_n 1, 1) := by decide +kernel
theorem e1j_170 : decode method_3_code 170 = .ok (.iload_n 2, 1) := by decide +kernel
theorem e1j_171 : decode method_3_code 171 = .ok (.bipush 9, 2) := by decide +kernel
theorem e1j_173 : decode method_3_code 173 = .ok (.invokestatic 80, 3) := by decide +kernel
theorem e1j_176 : decode method_3_code 176 = .ok (.ifCond .eq 7, 3) := by decide +kernel
theorem e1j_179 : decode method_3_code 179 = .ok (.iconst 1, 1) := by decide +kernel
theorem e1j_180 : decode method_3_code 180 = .ok (.goto 4, 3) := by decide +kernel
theorem e1j_184 : decode method_3_code 184 = .ok (.ireturn, 1) := by decide +kernel
theorem own_fok (l : Launch) (Z : State) (a0 : Array Value) (hw : ∀ d ∈ tables_1, d.before a0 Z = true) (y : Addr) (u : Addr) (ku : ClassId) (k : Int32) (h0 : Heap) (n0 : Nat) (Z0 : n0 ≤ h0.size) (F0 : Str Z h0 y u ku (fid k)) (F1 : Old Z n0 h0) (hk : (0 : Int32) < k) (G : Cmp Z) (GS : Sio Z) :
    Jvm.Y9.Con l Z (⟨"com/example/metsmith/metsmith/MetsDivFlatPinLaw", "fileIdOk", "(Ljava/lang/String;I)Z"⟩ : MethodName) method_3_code 3 (some .boolean) ({ frames := 5, cells := 0, slots := 0, locals := 68 } : Room) n0 #[(.ref y), (.int k)] h0 (fun v h => v = some (.int 1) ∧ h0 = h) := by
  refine Jvm.Y9.Con.intro (plainFor_of_name pn_com_example_metsmith_metsmith_MetsDivFlatPinLaw) ?_
  intro p e s m below meth c s₁ hx hby hml hret hnm hown hlk hZ P0
  refine Jvm.Y9.Aim.cast (by first | (simp [entryFrame, mkF, argsToLocals, Value.category]; done) | rfl : entryFrame m #[(.ref y), (.int k)] 3 = (mkF m 0 #[.val (.ref y), .val (.int k), .unset] [])) ?_
  have hd1 := dec_len10 hk
  have H := P0.here
  refine Jvm.Y9.Aim.of (T' := s₁) (g' := (mkF m 7 #[.val (.ref y), .val (.int k), .unset] [(.int k)])) (fun tgt kt => ?_) ?_
  · refine XS.aloadN H hx rfl (hb hby e1j_0) rfl rfl ?_
    refine XS.ifnonnullYes H hx rfl (pc0 := 1) (pc' := 6) rfl (hb hby e1j_1) rfl (by decide) (by decide) ?_
    refine XS.iloadN H hx rfl (hb hby e1j_6) rfl ?_
    exact kt
  refine Jvm.Y9.Aim.callS (argsL := [(.int k)]) (rest := []) P0 hx hZ hml hown (wI hw 420 rfl) (wI hw 421 rfl) (wI hw 418 rfl) (wI hw 422 rfl) (by decide) (Jvm.Y9.Con.back (W := 0) (own_digs l Z a0 hw k h0 n0 Z0 hk) hZ (wI hw 422 rfl) (wI hw 418 rfl) (by decide) (by decide)) rfl pd__28I_29I rfl (Nat.le_of_eq rfl) (hb hby e1j_7) (by decide) (by decide) ?_
  intro z0 z1 z2 z3 z4
  obtain ⟨rfl, rfl⟩ := z4
  have H := z3.here
  refine Jvm.Y9.Aim.of (T' := z0) (g' := (mkF m 12 #[.val (.ref y), .val (.int k), .val (.int (Int32.ofNat (dec k).length))] [(.ref y)])) (fun tgt kt => ?_) ?_
  · refine XS.istoreN H hx rfl (hb hby e1j_10) rfl (l' := #[.val (.ref y), .val (.int k), .val (.int (Int32.ofNat (dec k).length))]) rfl ?_
    refine XS.aloadN H hx rfl (hb hby e1j_11) rfl rfl ?_
    exact kt
  refine Jvm.Y9.Aim.callV (argsL := []) (rest := []) (y := (⟨"java/lang/String", "length", "()I"⟩ : MethodName)) (z := (⟨"java/lang/String", "length", "()I"⟩ : MethodName)) z3 hx hZ hml hown (wI hw 423 rfl) (wI hw 272 rfl) (notFace_of_selects (args := #[]) (mvT hZ (wI hw 274 rfl))) (wI hw 274 rfl) (wI hw 273 rfl) (by decide) F0.1 (Jvm.Y9.Con.back (W := 0) (own_length l Z a0 hw y u ku (fid k) h0 n0 Z0 F0 F1 G) hZ (wI hw 275 rfl) (wI hw 3 rfl) (by decide) (by decide)) rfl pd__28_29I rfl (Nat.le_of_eq rfl) (hb hby e1j_12) (by decide) (by decide) ?_
  intro z5 z6 z7 z8 z9
  obtain ⟨rfl, rfl⟩ := z9
  have H := z8.here
  refine Jvm.Y9.Aim.of (T' := z5) (g' := (mkF m 25 #[.val (.ref y), .val (.int k), .val (.int (Int32.ofNat (dec k).length))] [(.int 0), (.ref y)])) (fun tgt kt => ?_) ?_
  · refine XS.iconst H hx rfl (hb hby e1j_15) ?_
    refine XS.iloadN H hx rfl (hb hby e1j_16) rfl ?_
    refine XS.iadd H hx rfl (hb hby e1j_17) rfl ?_
    refine XS.icmpYes H hx rfl (pc0 := 18) (pc' := 23) rfl (hb hby e1j_18) rfl (teq (by rw [fid_len]; exact (own_add (a := 5)).symm)).1 (by decide) (by decide) ?_
    refine XS.aloadN H hx rfl (hb hby e1j_23) rfl rfl ?_
    refine XS.iconst H hx rfl (hb hby e1j_24) ?_
    exact kt
  refine Jvm.Y9.Aim.callV (argsL := [(.int 0)]) (rest := []) (y := (⟨"java/lang/String", "charAt", "(I)C"⟩ : MethodName)) (z := (⟨"java/lang/String", "charAt", "(I)C"⟩ : MethodName)) z8 hx hZ hml hown (wI hw 424 rfl) (wI hw 425 rfl) (notFace_of_selects (args := #[]) (mvT hZ (wI hw 427 rfl))) (wI hw 427 rfl) (wI hw 426 rfl) (by decide) F0.1 (Jvm.Y9.Con.back (W := 0) (own_charAt l Z a0 hw y u ku (fid k) (0 : Int32) h0 n0 Z0 F0 F1 (by decide) (own_lt (a := 0) (by rw [fid_len]; omega) (by rw [fid_len]; omega)) G GS) hZ (wI hw 428 rfl) (wI hw 3 rfl) (by decide) (by decide)) rfl pd__28I_29C rfl (Nat.le_of_eq rfl) (hb hby e1j_25) (by decide) (by decide) ?_
  intro za zb zc zd ze
  obtain ⟨rfl, rfl⟩ := ze
  have H := zd.here
  refine Jvm.Y9.Aim.of (T' := za) (g' := (mkF m 35 #[.val (.ref y), .val (.int k), .val (.int (Int32.ofNat (dec k).length))] [(.int 1), (.ref y)])) (fun tgt kt => ?_) ?_
  · refine XS.bipush H hx rfl (hb hby e1j_28) ?_
    refine XS.icmpNo H hx rfl (hb hby e1j_30) rfl (teq (fid_0 k)).2 ?_
    refine XS.aloadN H hx rfl (hb hby e1j_33) rfl rfl ?_
    refine XS.iconst H hx rfl (hb hby e1j_34) ?_
    exact kt
  refine Jvm.Y9.Aim.callV (argsL := [(.int 1)]) (rest := []) (y := (⟨"java/lang/String", "charAt", "(I)C"⟩ : MethodName)) (z := (⟨"java/lang/String", "charAt", "(I)C"⟩ : MethodName)) zd hx hZ hml hown (wI hw 424 rfl) (wI hw 425 rfl) (notFace_of_selects (args := #[]) (mvT hZ (wI hw 427 rfl))) (wI hw 427 rfl) (wI hw 426 rfl) (by decide) F0.1 (Jvm.Y9.Con.back (W := 0) (own_charAt l Z a0 hw y u ku (fid k) (1 : Int32) h0 n0 Z0 F0 F1 (by decide) (own_lt (a := 1) (by rw [fid_len]; omega) (by rw [fid_len]; omega)) G GS) hZ (wI hw 428 rfl) (wI hw 3 rfl) (by decide) (by decide)) rfl pd__28I_29C rfl (Nat.le_of_eq rfl) (hb hby e1j_35) (by decide) (by decide) ?_
  intro zf zg zh zi zj
  obtain ⟨rfl, rfl⟩ := zj
  have H := zi.here
  refine Jvm.Y9.Aim.of (T' := zf) (g' := (mkF m 45 #[.val (.ref y), .val (.int k), .val (.int (Int32.ofNat (dec k).length))] [(.int 2), (.ref y)])) (fun tgt kt => ?_) ?_
  · refine XS.bipush H hx rfl (hb hby e1j_38) ?_
    refine XS.icmpNo H hx rfl (hb hby e1j_40) rfl (teq (fid_1 k)).2 ?_
    refine XS.aloadN H hx rfl (hb hby e1j_43) rfl rfl ?_
    refine XS.iconst H hx rfl (hb hby e1j_44) ?_
    exact kt
  refine Jvm.Y9.Aim.callV (argsL := [(.int 2)]) (rest := []) (y := (⟨"java/lang/String", "charAt", "(I)C"⟩ : MethodName)) (z := (⟨"java/lang/String", "charAt", "(I)C"⟩ : MethodName)) zi hx hZ hml hown (wI hw 424 rfl) (wI hw 425 rfl) (notFace_of_selects (args := #[]) (mvT hZ (wI hw 427 rfl))) (wI hw 427 rfl) (wI hw 426 rfl) (by decide) F0.1 (Jvm.Y9.Con.back (W := 0) (own_charAt l Z a0 hw y u ku (fid k) (2 : Int32) h0 n0 Z0 F0 F1 (by decide) (own_lt (a := 2) (by rw [fid_len]; omega) (by rw [fid_len]; omega)) G GS) hZ (wI hw 428 rfl) (wI hw 3 rfl) (by decide) (by decide)) rfl pd__28I_29C rfl (Nat.le_of_eq rfl) (hb hby e1j_45) (by decide) (by decide) ?_
  intro zk zl zm zn zo
  obtain ⟨rfl, rfl⟩ := zo
  have H := zn.here
  refine Jvm.Y9.Aim.of (T' := zk) (g' := (mkF m 55 #[.val (.ref y), .val (.int k), .val (.int (Int32.ofNat (dec k).length))] [(.int 3), (.ref y)])) (fun tgt kt => ?_) ?_
  · refine XS.bipush H hx rfl (hb hby e1j_48) ?_
    refine XS.icmpNo H hx rfl (hb hby e1j_50) rfl (teq (fid_2 k)).2 ?_
    refine XS.aloadN H hx rfl (hb hby e1j_53) rfl rfl ?_
    refine XS.iconst H hx rfl (hb hby e1j_54) ?_
    exact kt
  refine Jvm.Y9.Aim.callV (argsL := [(.int 3)]) (rest := []) (y := (⟨"java/lang/String", "charAt", "(I)C"⟩ : MethodName)) (z := (⟨"java/lang/String", "charAt", "(I)C"⟩ : MethodName)) zn hx hZ hml hown (wI hw 424 rfl) (wI hw 425 rfl) (notFace_of_selects (args := #[]) (mvT hZ (wI hw 427 rfl))) (wI hw 427 rfl) (wI hw 426 rfl) (by decide) F0.1 (Jvm.Y9.Con.back (W := 0) (own_charAt l Z a0 hw y u ku (fid k) (3 : Int32) h0 n0 Z0 F0 F1 (by decide) (own_lt (a := 3) (by rw [fid_len]; omega) (by rw [fid_len]; omega)) G GS) hZ (wI hw 428 rfl) (wI hw 3 rfl) (by decide) (by decide)) rfl pd__28I_29C rfl (Nat.le_of_eq rfl) (hb hby e1j_55) (by decide) (by decide) ?_
  intro zp zq zr zs zt
  obtain ⟨rfl, rfl⟩ := zt
  have H := zs.here
  refine Jvm.Y9.Aim.of (T' := zp) (g' := (mkF m 65 #[.val (.ref y), .val (.int k), .val (.int (Int32.ofNat (dec k).length))] [(.int 4), (.ref y)])) (fun tgt kt => ?_) ?_
  · refine XS.bipush H hx rfl (hb hby e1j_58) ?_
    refine XS.icmpNo H hx rfl (hb hby e1j_60) rfl (teq (fid_3 k)).2 ?_
    refine XS.aloadN H hx rfl (hb hby e1j_63) rfl rfl ?_
    refine XS.iconst H hx rfl (hb hby e1j_64) ?_
    exact kt
  refine Jvm.Y9.Aim.callV (argsL := [(.int 4)]) (rest := []) (y := (⟨"java/lang/String", "charAt", "(I)C"⟩ : MethodName)) (z := (⟨"java/lang/String", "charAt", "(I)C"⟩ : MethodName)) zs hx hZ hml hown (wI hw 424 rfl) (wI hw 425 rfl) (notFace_of_selects (args := #[]) (mvT hZ (wI hw 427 rfl))) (wI hw 427 rfl) (wI hw 426 rfl) (by decide) F0.1 (Jvm.Y9.Con.back (W := 0) (own_charAt l Z a0 hw y u ku (fid k) (4 : Int32) h0 n0 Z0 F0 F1 (by decide) (own_lt (a := 4) (by rw [fid_len]; omega) (by rw [fid_len]; omega)) G GS) hZ (wI hw 428 rfl) (wI hw 3 rfl) (by decide) (by decide)) rfl pd__28I_29C rfl (Nat.le_of_eq rfl) (hb hby e1j_65) (by decide) (by decide) ?_
  intro zu zv zw zx zy
  obtain ⟨rfl, rfl⟩ := zy
  have H := zx.here
  refine Jvm.Y9.Aim.of (T' := zu) (g' := (mkF m 79 #[.val (.ref y), .val (.int k), .val (.int (Int32.ofNat (dec k).length))] [(.int 0), (.int (Int32.ofNat (dec k).length)), (.int k), (.ref y)])) (fun tgt kt => ?_) ?_
  · refine XS.bipush H hx rfl (hb hby e1j_68) ?_
    refine XS.icmpYes H hx rfl (pc0 := 70) (pc' := 75) rfl (hb hby e1j_70) rfl (teq (fid_4 k)).1 (by decide) (by decide) ?_
    refine XS.aloadN H hx rfl (hb hby e1j_75) rfl rfl ?_
    refine XS.iloadN H hx rfl (hb hby e1j_76) rfl ?_
    refine XS.iloadN H hx rfl (hb hby e1j_77) rfl ?_
    refine XS.iconst H hx rfl (hb hby e1j_78) ?_
    exact kt
  refine Jvm.Y9.Aim.callS (argsL := [(.ref y), (.int k), (.int (Int32.ofNat (dec k).length)), (.int 0)]) (rest := []) zx hx hZ hml hown (wI hw 442 rfl) (wI hw 443 rfl) (wI hw 418 rfl) (wI hw 444 rfl) (by decide) (Jvm.Y9.Con.back (W := 0) (own_dok l Z a0 hw y u ku k (0 : Int32) h0 n0 Z0 F0 F1 hk (by decide) G GS) hZ (wI hw 444 rfl) (wI hw 418 rfl) (by decide) (by decide)) rfl pd__28Ljava_2flang_2fString_3bIII_29Z rfl (Nat.le_of_eq rfl) (hb hby e1j_79) (by decide) (by decide) ?_
  intro zz z10 z11 z12 z13
  obtain ⟨rfl, rfl⟩ := z13
  have H := z12.here
  refine Jvm.Y9.Aim.of (T' := zz) (g' := (mkF m 89 #[.val (.ref y), .val (.int k), .val (.int (Int32.ofNat (dec k).length))] [(.int 1), (.int (Int32.ofNat (dec k).length)), (.int k), (.ref y)])) (fun tgt kt => ?_) ?_
  · refine XS.ifNo H hx rfl (hb hby e1j_82) rfl ((if0 _ _).trans (feq (by decide)).1) ?_
    refine XS.aloadN H hx rfl (hb hby e1j_85) rfl rfl ?_
    refine XS.iloadN H hx rfl (hb hby e1j_86) rfl ?_
    refine XS.iloadN H hx rfl (hb hby e1j_87) rfl ?_
    refine XS.iconst H hx rfl (hb hby e1j_88) ?_
    exact kt
  refine Jvm.Y9.Aim.callS (argsL := [(.ref y), (.int k), (.int (Int32.ofNat (dec k).length)), (.int 1)]) (rest := []) z12 hx hZ hml hown (wI hw 442 rfl) (wI hw 443 rfl) (wI hw 418 rfl) (wI hw 444 rfl) (by decide) (Jvm.Y9.Con.back (W := 0) (own_dok l Z a0 hw y u ku k (1 : Int32) h0 n0 Z0 F0 F1 hk (by decide) G GS) hZ (wI hw 444 rfl) (wI hw 418 rfl) (by decide) (by decide)) rfl pd__28Ljava_2flang_2fString_3bIII_29Z rfl (Nat.le_of_eq rfl) (hb hby e1j_89) (by decide) (by decide) ?_
  intro z14 z15 z16 z17 z18
  obtain ⟨rfl, rfl⟩ := z18
  have H := z17.here
  refine Jvm.Y9.Aim.of (T' := z14) (g' := (mkF m 99 #[.val (.ref y), .val (.int k), .val (.int (Int32.ofNat (dec k).length))] [(.int 2), (.int (Int32.ofNat (dec k).length)), (.int k), (.ref y)])) (fun tgt kt => ?_) ?_
  · refine XS.ifNo H hx rfl (hb hby e1j_92) rfl ((if0 _ _).trans (feq (by decide)).1) ?_
    refine XS.aloadN H hx rfl (hb hby e1j_95) rfl rfl ?_
    refine XS.iloadN H hx rfl (hb hby e1j_96) rfl ?_
    refine XS.iloadN H hx rfl (hb hby e1j_97) rfl ?_
    refine XS.iconst H hx rfl (hb hby e1j_98) ?_
    exact kt
  refine Jvm.Y9.Aim.callS (argsL := [(.ref y), (.int k), (.int (Int32.ofNat (dec k).length)), (.int 2)]) (rest := []) z17 hx hZ hml hown (wI hw 442 rfl) (wI hw 443 rfl) (wI hw 418 rfl) (wI hw 444 rfl) (by decide) (Jvm.Y9.Con.back (W := 0) (own_dok l Z a0 hw y u ku k (2 : Int32) h0 n0 Z0 F0 F1 hk (by decide) G GS) hZ (wI hw 444 rfl) (wI hw 418 rfl) (by decide) (by decide)) rfl pd__28Ljava_2flang_2fString_3bIII_29Z rfl (Nat.le_of_eq rfl) (hb hby e1j_99) (by decide) (by decide) ?_
  intro z19 z1a z1b z1c z1d
  obtain ⟨rfl, rfl⟩ := z1d
  have H := z1c.here
  refine Jvm.Y9.Aim.of (T' := z19) (g' := (mkF m 109 #[.val (.ref y), .val (.int k), .val (.int (Int32.ofNat (dec k).length))] [(.int 3), (.int (Int32.ofNat (dec k).length)), (.int k), (.ref y)])) (fun tgt kt => ?_) ?_
  · refine XS.ifNo H hx rfl (hb hby e1j_102) rfl ((if0 _ _).trans (feq (by decide)).1) ?_
    refine XS.aloadN H hx rfl (hb hby e1j_105) rfl rfl ?_
    refine XS.iloadN H hx rfl (hb hby e1j_106) rfl ?_
    refine XS.iloadN H hx rfl (hb hby e1j_107) rfl ?_
    refine XS.iconst H hx rfl (hb hby e1j_108) ?_
    exact kt
  refine Jvm.Y9.Aim.callS (argsL := [(.ref y), (.int k), (.int (Int32.ofNat (dec k).length)), (.int 3)]) (rest := []) z1c hx hZ hml hown (wI hw 442 rfl) (wI hw 443 rfl) (wI hw 418 rfl) (wI hw 444 rfl) (by decide) (Jvm.Y9.Con.back (W := 0) (own_dok l Z a0 hw y u ku k (3 : Int32) h0 n0 Z0 F0 F1 hk (by decide) G GS) hZ (wI hw 444 rfl) (wI hw 418 rfl) (by decide) (by decide)) rfl pd__28Ljava_2flang_2fString_3bIII_29Z rfl (Nat.le_of_eq rfl) (hb hby e1j_109) (by decide) (by decide) ?_
  intro z1e z1f z1g z1h z1i
  obtain ⟨rfl, rfl⟩ := z1i
  have H := z1h.here
  refine Jvm.Y9.Aim.of (T' := z1e) (g' := (mkF m 119 #[.val (.ref y), .val (.int k), .val (.int (Int32.ofNat (dec k).length))] [(.int 4), (.int (Int32.ofNat (dec k).length)), (.int k), (.ref y)])) (fun tgt kt => ?_) ?_
  · refine XS.ifNo H hx rfl (hb hby e1j_112) rfl ((if0 _ _).trans (feq (by decide)).1) ?_
    refine XS.aloadN H hx rfl (hb hby e1j_115) rfl rfl ?_
    refine XS.iloadN H hx rfl (hb hby e1j_116) rfl ?_
    refine XS.iloadN H hx rfl (hb hby e1j_117) rfl ?_
    refine XS.iconst H hx rfl (hb hby e1j_118) ?_
    exact kt
  refine Jvm.Y9.Aim.callS (argsL := [(.ref y), (.int k), (.int (Int32.ofNat (dec k).length)), (.int 4)]) (rest := []) z1h hx hZ hml hown (wI hw 442 rfl) (wI hw 443 rfl) (wI hw 418 rfl) (wI hw 444 rfl) (by decide) (Jvm.Y9.Con.back (W := 0) (own_dok l Z a0 hw y u ku k (4 : Int32) h0 n0 Z0 F0 F1 hk (by decide) G GS) hZ (wI hw 444 rfl) (wI hw 418 rfl) (by decide) (by decide)) rfl pd__28Ljava_2flang_2fString_3bIII_29Z rfl (Nat.le_of_eq rfl) (hb hby e1j_119) (by decide) (by decide) ?_
  intro z1j z1k z1l z1m z1n
  obtain ⟨rfl, rfl⟩ := z1n
  have H := z1m.here
  refine Jvm.Y9.Aim.of (T' := z1j) (g' := (mkF m 129 #[.val (.ref y), .val (.int k), .val (.int (Int32.ofNat (dec k).length))] [(.int 5), (.int (Int32.ofNat (dec k).length)), (.int k), (.ref y)])) (fun tgt kt => ?_) ?_
  · refine XS.ifNo H hx rfl (hb hby e1j_122) rfl ((if0 _ _).trans (feq (by decide)).1) ?_
    refine XS.aloadN H hx rfl (hb hby e1j_125) rfl rfl ?_
    refine XS.iloadN H hx rfl (hb hby e1j_126) rfl ?_
    refine XS.iloadN H hx rfl (hb hby e1j_127) rfl ?_
    refine XS.iconst H hx rfl (hb hby e1j_128) ?_
    exact kt
  refine Jvm.Y9.Aim.callS (argsL := [(.ref y), (.int k), (.int (Int32.ofNat (dec k).length)), (.int 5)]) (rest := []) z1m hx hZ hml hown (wI hw 442 rfl) (wI hw 443 rfl) (wI hw 418 rfl) (wI hw 444 rfl) (by decide) (Jvm.Y9.Con.back (W := 0) (own_dok l Z a0 hw y u ku k (5 : Int32) h0 n0 Z0 F0 F1 hk (by decide) G GS) hZ (wI hw 444 rfl) (wI hw 418 rfl) (by decide) (by decide)) rfl pd__28Ljava_2flang_2fString_3bIII_29Z rfl (Nat.le_of_eq rfl) (hb hby e1j_129) (by decide) (by decide) ?_
  intro z1o z1p z1q z1r z1s
  obtain ⟨rfl, rfl⟩ := z1s
  have H := z1r.here
  refine Jvm.Y9.Aim.of (T' := z1o) (g' := (mkF m 140 #[.val (.ref y), .val (.int k), .val (.int (Int32.ofNat (dec k).length))] [(.int 6), (.int (Int32.ofNat (dec k).length)), (.int k), (.ref y)])) (fun tgt kt => ?_) ?_
  · refine XS.ifNo H hx rfl (hb hby e1j_132) rfl ((if0 _ _).trans (feq (by decide)).1) ?_
    refine XS.aloadN H hx rfl (hb hby e1j_135) rfl rfl ?_
    refine XS.iloadN H hx rfl (hb hby e1j_136) rfl ?_
    refine XS.iloadN H hx rfl (hb hby e1j_137) rfl ?_
    refine XS.bipush H hx rfl (hb hby e1j_138) ?_
    exact kt
  refine Jvm.Y9.Aim.callS (argsL := [(.ref y), (.int k), (.int (Int32.ofNat (dec k).length)), (.int 6)]) (rest := []) z1r hx hZ hml hown (wI hw 442 rfl) (wI hw 443 rfl) (wI hw 418 rfl) (wI hw 444 rfl) (by decide) (Jvm.Y9.Con.back (W := 0) (own_dok l Z a0 hw y u ku k (6 : Int32) h0 n0 Z0 F0 F1 hk (by decide) G GS) hZ (wI hw 444 rfl) (wI hw 418 rfl) (by decide) (by decide)) rfl pd__28Ljava_2flang_2fString_3bIII_29Z rfl (Nat.le_of_eq rfl) (hb hby e1j_140) (by decide) (by decide) ?_
  intro z1t z1u z1v z1w z1x
  obtain ⟨rfl, rfl⟩ := z1x
  have H := z1w.here
  refine Jvm.Y9.Aim.of (T' := z1t) (g' := (mkF m 151 #[.val (.ref y), .val (.int k), .val (.int (Int32.ofNat (dec k).length))] [(.int 7), (.int (Int32.ofNat (dec k).length)), (.int k), (.ref y)])) (fun tgt kt => ?_) ?_
  · refine XS.ifNo H hx rfl (hb hby e1j_143) rfl ((if0 _ _).trans (feq (by decide)).1) ?_
    refine XS.aloadN H hx rfl (hb hby e1j_146) rfl rfl ?_
    refine XS.iloadN H hx rfl (hb hby e1j_147) rfl ?_
    refine XS.iloadN H hx rfl (hb hby e1j_148) rfl ?_
    refine XS.bipush H hx rfl (hb hby e1j_149) ?_
    exact kt
  refine Jvm.Y9.Aim.callS (argsL := [(.ref y), (.int k), (.int (Int32.ofNat (dec k).length)), (.int 7)]) (rest := []) z1w hx hZ hml hown (wI hw 442 rfl) (wI hw 443 rfl) (wI hw 418 rfl) (wI hw 444 rfl) (by decide) (Jvm.Y9.Con.back (W := 0) (own_dok l Z a0 hw y u ku k (7 : Int32) h0 n0 Z0 F0 F1 hk (by decide) G GS) hZ (wI hw 444 rfl) (wI hw 418 rfl) (by decide) (by decide)) rfl pd__28Ljava_2flang_2fString_3bIII_29Z rfl (Nat.le_of_eq rfl) (hb hby e1j_151) (by decide) (by decide) ?_
  intro z1y z1z z20 z21 z22
  obtain ⟨rfl, rfl⟩ := z22
  have H := z21.here
  refine Jvm.Y9.Aim.of (T' := z1y) (g' := (mkF m 162 #[.val (.ref y), .val (.int k), .val (.int (Int32.ofNat (dec k).length))] [(.int 8), (.int (Int32.ofNat (dec k).length)), (.int k), (.ref y)])) (fun tgt kt => ?_) ?_
  · refine XS.ifNo H hx rfl (hb hby e1j_154) rfl ((if0 _ _).trans (feq (by decide)).1) ?_
    refine XS.aloadN H hx rfl (hb hby e1j_157) rfl rfl ?_
    refine XS.iloadN H hx rfl (hb hby e1j_158) rfl ?_
    refine XS.iloadN H hx rfl (hb hby e1j_159) rfl ?_
    refine XS.bipush H hx rfl (hb hby e1j_160) ?_
    exact kt
  refine Jvm.Y9.Aim.callS (argsL := [(.ref y), (.int k), (.int (Int32.ofNat (dec k).length)), (.int 8)]) (rest := []) z21 hx hZ hml hown (wI hw 442 rfl) (wI hw 443 rfl) (wI hw 418 rfl) (wI hw 444 rfl) (by decide) (Jvm.Y9.Con.back (W := 0) (own_dok l Z a0 hw y u ku k (8 : Int32) h0 n0 Z0 F0 F1 hk (by decide) G GS) hZ (wI hw 444 rfl) (wI hw 418 rfl) (by decide) (by decide)) rfl pd__28Ljava_2flang_2fString_3bIII_29Z rfl (Nat.le_of_eq rfl) (hb hby e1j_162) (by decide) (by decide) ?_
  intro z23 z24 z25 z26 z27
  obtain ⟨rfl, rfl⟩ := z27
  have H := z26.here
  refine Jvm.Y9.Aim.of (T' := z23) (g' := (mkF m 173 #[.val (.ref y), .val (.int k), .val (.int (Int32.ofNat (dec k).length))] [(.int 9), (.int (Int32.ofNat (dec k).length)), (.int k), (.ref y)])) (fun tgt kt => ?_) ?_
  · refine XS.ifNo H hx rfl (hb hby e1j_165) rfl ((if0 _ _).trans (feq (by decide)).1) ?_
    refine XS.aloadN H hx rfl (hb hby e1j_168) rfl rfl ?_
    refine XS.iloadN H hx rfl (hb hby e1j_169) rfl ?_
    refine XS.iloadN H hx rfl (hb hby e1j_170) rfl ?_
    refine XS.bipush H hx rfl (hb hby e1j_171) ?_
    exact kt
  refine Jvm.Y9.Aim.callS (argsL := [(.ref y), (.int k), (.int (Int32.ofNat (dec k).length)), (.int 9)]) (rest := []) z26 hx hZ hml hown (wI hw 442 rfl) (wI hw 443 rfl) (wI hw 418 rfl) (wI hw 444 rfl) (by decide) (Jvm.Y9.Con.back (W := 0) (own_dok l Z a0 hw y u ku k (9 : Int32) h0 n0 Z0 F0 F1 hk (by decide) G GS) hZ (wI hw 444 rfl) (wI hw 418 rfl) (by decide) (by decide)) rfl pd__28Ljava_2flang_2fString_3bIII_29Z rfl (Nat.le_of_eq rfl) (hb hby e1j_173) (by decide) (by decide) ?_
  intro z28 z29 z2a z2b z2c
  obtain ⟨rfl, rfl⟩ := z2c
  have H := z2b.here
  refine Jvm.Y9.Aim.of (T' := z28) (g' := (mkF m 184 #[.val (.ref y), .val (.int k), .val (.int (Int32.ofNat (dec k).length))] [(.int 1)])) (fun tgt kt => ?_) ?_
  · refine XS.ifNo H hx rfl (hb hby e1j_176) rfl ((if0 _ _).trans (feq (by decide)).1) ?_
    refine XS.iconst H hx rfl (hb hby e1j_179) ?_
    refine XS.goto H hx rfl (pc0 := 180) (pc' := 184) rfl (hb hby e1j_180) (by decide) (by decide) ?_
    exact kt
  exact Jvm.Y9.Aim.retN (t := .boolean) z2b hx hlk hret (by simp) (hb hby e1j_184) (by decide) (by decide) ⟨rfl, rfl⟩
theorem pd__28Ljava_2flang_2fString_3bI_29Z : parseMethodDescriptor "(Ljava/lang/String;I)Z" = some ⟨[(.object "java/lang/String"), .int], some .boolean⟩ := by decide +kernel
theorem own_p4 (l : Launch) (Z : State) (a0 : Array Value) (hw : ∀ d ∈ tables_1, d.before a0 Z = true) (q0 : Slot) (q2 : Slot) (q3 : Slot) (q4 : Slot) (q5 : Slot) (q7 : Slot) (q8 : Slot) (q9 : Slot) (q10 : Slot) (q11 : Slot) (q12 : Slot) (q13 : Slot) (q15 : Slot) (q16 : Slot) (pk : Int32) (fl : Int32) (o : Addr) (z : Addr) (dc : Addr) (kd : ClassId) (el : Addr) (ee : Addr) (ke : ClassId) (em : Addr) (h0 : Heap) (n0 : Nat) (Z0 : n0 ≤ h0.size) (Lc0 : List Addr) (F0 : Exa Z h0 o "com/example/metsmith/metsmith/Mets$Div") (F1 : Fld Z h0 o "com/example/metsmith/metsmith/Mets$Div" "divs" "Ljava/util/List;" (.ref z)) (F2 : Exa Z h0 z "com/example/metsmith/metsmith/Mets$Div$1") (F3 : Fld Z h0 z "com/example/metsmith/metsmith/Mets$Div$1" "val$files" "I" (.int fl)) (F4 : Old Z n0 h0) (hfl : ¬ (fl < (0 : Int32))) (GA : Adc Z dc kd) (GE : Ael Z el ee ke) (GM : Aem Z em) (G : Cmp Z) (GS : Sio Z) (GL : ∀ c ∈ LC.1, Jvm.Q9.LitZ Z c) (GD : Dig Z) {p : Program} {e : Env} {s : State} {m : MethodId} {as' : Array Value} {below : List Frame} {meth : Method} {c : Code} {s₁ : State} (hx : p.tables.exec = Jvm.exec) (hby : c.code = code) (hml : c.maxLocals = maxLocals) (hret : meth.sig.returnType = ret) (hnm : meth.name = x.name) (hown : s.vm.findClass x.cls = some m.cls) (hlk : meth.locks = false) (hZ : Z.Warmed39 s.vm) (P0 : Jvm.Q9.On p l e room_1 s m as' below meth c Z LC n0 s₁ h0 27 132 Lc0) :
    Jvm.Q9.Aim p e below s (room_1 : Room).cells (room_1 : Room).slots n0 (Jvm.Q9.QW Z LC h0 Lc0 (fun v h Lc => v = some (.int 1) ∧ Keep h0 h [])) s₁ (mkF m 327 #[q0, .val (.int pk), q2, q3, q4, q5, .val (.int fl), q7, q8, q9, q10, q11, q12, q13, .val (.ref o), q15, q16, .unset, .unset, .unset, .unset] []) := by
  have lel_ : el < n0 := F4.1 ▸ GE.2.1.lt
  have z0 : Exa Z h0 el "java/util/ImmutableCollections$ListN" := GE.2.1.keep ((Keep.refl _ []).ext F4.2)
  have z1 : Fld Z h0 el "java/util/ImmutableCollections$ListN" "elements" "[Ljava/lang/Object;" (.ref ee) := GE.2.2.1.keep ((Keep.refl _ []).ext F4.2) nin0
  have z2 : Arv Z h0 ee ke (.object "java/lang/Object") (0 : Int32) [] (.null) := GE.2.2.2.keep ((Keep.refl _ []).ext F4.2) nin0
  have H := P0.here
  refine Jvm.Q9.Aim.of (T' := s₁) (g' := (mkF m 329 #[q0, .val (.int pk), q2, q3, q4, q5, .val (.int fl), q7, q8, q9, q10, q11, q12, q13, .val (.ref o), q15, q16, .unset, .unset, .unset, .unset] [(.ref o)])) (fun tgt kt => ?_) ?_
  · refine XS.aload H hx rfl (hb hby at_327) rfl rfl ?_
    exact kt
  refine Jvm.Q9.Aim.callV (argsL := []) (rest := []) (y := (⟨"com/example/metsmith/metsmith/Mets$Div", "divs", "()Ljava/util/List;"⟩ : MethodName)) (z := (⟨"com/example/metsmith/metsmith/Mets$Div", "divs", "()Ljava/util/List;"⟩ : MethodName)) P0 hx hZ hml hown (wI hw 213 rfl) (wI hw 214 rfl) (fun vm0 hZ => notFace_of_selects (args := #[]) (mvT (s := s.setVm vm0) hZ (wI hw 216 rfl))) (wI hw 216 rfl) (wI hw 215 rfl) (by decide) F0 (fun vm0 hZ => Jvm.Y9.Con.back (s := s.setVm vm0) (W := 0) (own_gdivs l Z a0 hw o z h0 n0 Z0 F1) hZ (wI hw 217 rfl) (wI hw 102 rfl) (by decide) (by decide)) (fun _ _ ⟨_, q⟩ => (by subst q; exact Keep.refl _ [])) all0 rfl pd__28_29Ljava_2futil_2fList_3b rfl (Nat.le_of_eq rfl) (hb hby at_329) (by decide) (by decide) ?_
  intro z3 z4 z5 z6 z7
  obtain ⟨rfl, rfl⟩ := z7
  have H := z6.here
  refine Jvm.Q9.Aim.of (T' := z3) (g' := (mkF m 336 #[q0, .val (.int pk), q2, q3, q4, q5, .val (.int fl), q7, q8, q9, q10, q11, q12, q13, .val (.ref o), q15, q16, .val (.ref z), .unset, .unset, .unset] [(.ref z)])) (fun tgt kt => ?_) ?_
  · refine XS.astore H hx rfl (hb hby at_332) rfl rfl (l' := #[q0, .val (.int pk), q2, q3, q4, q5, .val (.int fl), q7, q8, q9, q10, q11, q12, q13, .val (.ref o), q15, q16, .val (.ref z), .unset, .unset, .unset]) rfl ?_
    refine XS.aload H hx rfl (hb hby at_334) rfl rfl ?_
    exact kt
  refine Jvm.Q9.Aim.callI (argsL := []) (rest := []) (y := (⟨"java/util/List", "size", "()I"⟩ : MethodName)) (z := (⟨"com/example/metsmith/metsmith/Mets$Div$1", "size", "()I"⟩ : MethodName)) z6 hx hZ hml hown (wI hw 159 rfl) (wI hw 160 rfl) (wI hw 161 rfl) (wI hw 218 rfl) (wI hw 219 rfl) (wI hw 220 rfl) (wI hw 221 rfl) (wI hw 222 rfl) (by decide) F2 (fun vm0 hZ => Jvm.Y9.Con.back (s := s.setVm vm0) (W := 0) (own_d1s l Z a0 hw z fl h0 n0 Z0 F3) hZ (wI hw 223 rfl) (wI hw 106 rfl) (by decide) (by decide)) (fun _ _ ⟨_, q⟩ => (by subst q; exact Keep.refl _ [])) all0 rfl pd__28_29I rfl (Nat.le_of_eq rfl) (hb hby at_336) (by decide) (by decide) ?_
  intro z8 z9 za zb zc
  obtain ⟨rfl, rfl⟩ := zc
  have H := zb.here
  refine Jvm.Q9.Aim.of (T' := z8) (g' := (mkF m 350 #[q0, .val (.int pk), q2, q3, q4, q5, .val (.int fl), q7, q8, q9, q10, q11, q12, q13, .val (.ref o), q15, q16, .val (.ref z), .unset, .unset, .unset] [(.int fl)])) (fun tgt kt => ?_) ?_
  · refine XS.iload H hx rfl (hb hby at_341) rfl ?_
    refine XS.icmpYes H hx rfl (pc0 := 343) (pc' := 348) rfl (hb hby at_343) rfl (teq rfl).1 (by decide) (by decide) ?_
    refine XS.iload H hx rfl (hb hby at_348) rfl ?_
    exact kt
  by_cases zd : fl = (0 : Int32)
  · skip
    have H := zb.here
    refine Jvm.Q9.Aim.of (T' := z8) (g' := (mkF m 354 #[q0, .val (.int pk), q2, q3, q4, q5, .val (.int fl), q7, q8, q9, q10, q11, q12, q13, .val (.ref o), q15, q16, .val (.ref z), .unset, .unset, .unset] [(.int 1)])) (fun tgt kt => ?_) ?_
    · refine XS.ifNo H hx rfl (hb hby at_350) rfl ((if0 _ _).trans (teq zd).2) ?_
      refine XS.iconst H hx rfl (hb hby at_353) ?_
      exact kt
    exact Jvm.Q9.Aim.retN (t := .boolean) zb hx hlk hret (by simp) (hb hby at_354) (by decide) (by decide) (Jvm.Q9.Grow.refl _ _) ⟨rfl, (Keep.refl h0 [])⟩
  · skip
    have hpk := own_pick (pk := pk) hfl zd
    have H := zb.here
    refine Jvm.Q9.Aim.of (T' := z8) (g' := (mkF m 356 #[q0, .val (.int pk), q2, q3, q4, q5, .val (.int fl), q7, q8, q9, q10, q11, q12, q13, .val (.ref o), q15, q16, .val (.ref z), .unset, .unset, .unset] [(.int pk)])) (fun tgt kt => ?_) ?_
    · refine XS.ifYes H hx rfl (pc0 := 350) (pc' := 355) rfl (hb hby at_350) rfl ((if0 _ _).trans (feq zd).2) (by decide) (by decide) ?_
      refine XS.iloadN H hx rfl (hb hby at_355) rfl ?_
      exact kt
    refine Jvm.Q9.Aim.ldcI zb hx hZ hown (wI hw 0 rfl) (hb hby at_356) ?_
    have H := zb.here
    refine Jvm.Q9.Aim.of (T' := z8) (g' := (mkF m 368 #[q0, .val (.int pk), q2, q3, q4, q5, .val (.int fl), q7, q8, q9, q10, q11, q12, q13, .val (.ref o), q15, q16, .val (.ref z), .val (.int ((pk &&& (2147483647 : Int32)) % fl)), .unset, .unset] [(.int ((pk &&& (2147483647 : Int32)) % fl)), (.ref z)])) (fun tgt kt => ?_) ?_
    · refine XS.iand H hx rfl (hb hby at_358) rfl ?_
      refine XS.iload H hx rfl (hb hby at_359) rfl ?_
      refine Jvm.Y9.own_irem H hx rfl (hb hby at_361) rfl zd ?_
      refine XS.istore H hx rfl (hb hby at_362) rfl (l' := #[q0, .val (.int pk), q2, q3, q4, q5, .val (.int fl), q7, q8, q9, q10, q11, q12, q13, .val (.ref o), q15, q16, .val (.ref z), .val (.int ((pk &&& (2147483647 : Int32)) % fl)), .unset, .unset]) rfl ?_
      refine XS.aload H hx rfl (hb hby at_364) rfl rfl ?_
      refine XS.iload H hx rfl (hb hby at_366) rfl ?_
      exact kt
    refine Jvm.Q9.Aim.callIW (argsL := [(.int ((pk &&& (2147483647 : Int32)) % fl))]) (rest := []) (y := (⟨"java/util/List", "get", "(I)Ljava/lang/Object;"⟩ : MethodName)) (z := (⟨"com/example/metsmith/metsmith/Mets$Div$1", "get", "(I)Ljava/lang/Object;"⟩ : MethodName)) zb hx hZ hml hown (wI hw 182 rfl) (wI hw 183 rfl) (wI hw 184 rfl) (wI hw 224 rfl) (wI hw 225 rfl) (wI hw 226 rfl) (wI hw 227 rfl) (wI hw 222 rfl) (by decide) F2 (Jvm.Q9.Con.back (W := 0) (own_gtO l Z a0 hw z ((pk &&& (2147483647 : Int32)) % fl) el ee ke em h0 n0 Z0 Lc0 F2 F4 hpk GE GM G GL GD) (wI hw 228 rfl) (wI hw 106 rfl) (by decide) (by decide)) rfl pd__28I_29Ljava_2flang_2fObject_3b rfl (Nat.le_of_eq rfl) (hb hby at_368) (by decide) (by decide) ?_
    intro ze zf zg zh zi zj zk
    obtain ⟨o_1434, a_1435, z_1436, t_1437, k_1438, rfl, zl, zm, zn, zo, zp, zq, zr, zs, zt, zu, zv, zw, zx, zy, zz, z10⟩ := zk
    have z11 : Keep h0 zf [] := (Keep.refl h0 []).trans zl all0
    have z12 : Jvm.Q9.Grow Lc0 zh h0.size := (Jvm.Q9.Grow.refl _ _).trans zj (Nat.le_refl _)
    refine Jvm.Q9.Aim.castY zi hx hZ hown (wI hw 403 rfl) (Ins.self zq) (hb hby at_373) ?_
    intro z13 z14
    have H := z14.here
    refine Jvm.Q9.Aim.of (T' := z13) (g' := (mkF m 380 #[q0, .val (.int pk), q2, q3, q4, q5, .val (.int fl), q7, q8, q9, q10, q11, q12, q13, .val (.ref o), q15, q16, .val (.ref z), .val (.int ((pk &&& (2147483647 : Int32)) % fl)), .val (.ref o_1434), .unset] [(.ref o_1434)])) (fun tgt kt => ?_) ?_
    · refine XS.astore H hx rfl (hb hby at_376) rfl rfl (l' := #[q0, .val (.int pk), q2, q3, q4, q5, .val (.int fl), q7, q8, q9, q10, q11, q12, q13, .val (.ref o), q15, q16, .val (.ref z), .val (.int ((pk &&& (2147483647 : Int32)) % fl)), .val (.ref o_1434), .unset]) rfl ?_
      refine XS.aload H hx rfl (hb hby at_378) rfl rfl ?_
      exact kt
    refine Jvm.Q9.Aim.callV (argsL := []) (rest := []) (y := (⟨"com/example/metsmith/metsmith/Mets$Div", "type", "()Ljava/lang/String;"⟩ : MethodName)) (z := (⟨"com/example/metsmith/metsmith/Mets$Div", "type", "()Ljava/lang/String;"⟩ : MethodName)) z14 hx hZ hml hown (wI hw 144 rfl) (wI hw 145 rfl) (fun vm0 hZ => notFace_of_selects (args := #[]) (mvT (s := s.setVm vm0) hZ (wI hw 147 rfl))) (wI hw 147 rfl) (wI hw 146 rfl) (by decide) zq (fun vm0 hZ => Jvm.Y9.Con.back (s := s.setVm vm0) (W := 0) (own_gtype l Z a0 hw o_1434 zf n0 (lT Z0 (z11.1)) zr) hZ (wI hw 148 rfl) (wI hw 102 rfl) (by decide) (by decide)) (fun _ _ ⟨_, q⟩ => (by subst q; exact Keep.refl _ [])) all0 rfl pd__28_29Ljava_2flang_2fString_3b rfl (Nat.le_of_eq rfl) (hb hby at_380) (by decide) (by decide) ?_
    intro z15 z16 z17 z18 z19
    obtain ⟨rfl, rfl⟩ := z19
    have H := z18.here
    refine Jvm.Q9.Aim.of (T' := z15) (g' := (mkF m 388 #[q0, .val (.int pk), q2, q3, q4, q5, .val (.int fl), q7, q8, q9, q10, q11, q12, q13, .val (.ref o), q15, q16, .val (.ref z), .val (.int ((pk &&& (2147483647 : Int32)) % fl)), .val (.ref o_1434), .unset] [(.ref o_1434)])) (fun tgt kt => ?_) ?_
    · refine XS.ifnonnullNo H hx rfl (hb hby at_383) rfl ?_
      refine XS.aload H hx rfl (hb hby at_386) rfl rfl ?_
      exact kt
    refine Jvm.Q9.Aim.callV (argsL := []) (rest := []) (y := (⟨"com/example/metsmith/metsmith/Mets$Div", "label", "()Ljava/lang/String;"⟩ : MethodName)) (z := (⟨"com/example/metsmith/metsmith/Mets$Div", "label", "()Ljava/lang/String;"⟩ : MethodName)) z18 hx hZ hml hown (wI hw 149 rfl) (wI hw 150 rfl) (fun vm0 hZ => notFace_of_selects (args := #[]) (mvT (s := s.setVm vm0) hZ (wI hw 152 rfl))) (wI hw 152 rfl) (wI hw 151 rfl) (by decide) zq (fun vm0 hZ => Jvm.Y9.Con.back (s := s.setVm vm0) (W := 0) (own_glabel l Z a0 hw o_1434 zf n0 (lT Z0 (z11.1)) zs) hZ (wI hw 153 rfl) (wI hw 102 rfl) (by decide) (by decide)) (fun _ _ ⟨_, q⟩ => (by subst q; exact Keep.refl _ [])) all0 rfl pd__28_29Ljava_2flang_2fString_3b rfl (Nat.le_of_eq rfl) (hb hby at_388) (by decide) (by decide) ?_
    intro z1a z1b z1c z1d z1e
    obtain ⟨rfl, rfl⟩ := z1e
    have H := z1d.here
    refine Jvm.Q9.Aim.of (T' := z1a) (g' := (mkF m 398 #[q0, .val (.int pk), q2, q3, q4, q5, .val (.int fl), q7, q8, q9, q10, q11, q12, q13, .val (.ref o), q15, q16, .val (.ref z), .val (.int ((pk &&& (2147483647 : Int32)) % fl)), .val (.ref o_1434), .unset] [(.ref o_1434)])) (fun tgt kt => ?_) ?_
    · refine XS.ifnullYes H hx rfl (pc0 := 391) (pc' := 396) rfl (hb hby at_391) rfl (by decide) (by decide) ?_
      refine XS.aload H hx rfl (hb hby at_396) rfl rfl ?_
      exact kt
    refine Jvm.Q9.Aim.callV (argsL := []) (rest := []) (y := (⟨"com/example/metsmith/metsmith/Mets$Div", "dmdIds", "()Ljava/util/List;"⟩ : MethodName)) (z := (⟨"com/example/metsmith/metsmith/Mets$Div", "dmdIds", "()Ljava/util/List;"⟩ : MethodName)) z1d hx hZ hml hown (wI hw 171 rfl) (wI hw 172 rfl) (fun vm0 hZ => notFace_of_selects (args := #[]) (mvT (s := s.setVm vm0) hZ (wI hw 174 rfl))) (wI hw 174 rfl) (wI hw 173 rfl) (by decide) zq (fun vm0 hZ => Jvm.Y9.Con.back (s := s.setVm vm0) (W := 0) (own_gdmdIds l Z a0 hw o_1434 el zf n0 (lT Z0 (z11.1)) zt) hZ (wI hw 175 rfl) (wI hw 102 rfl) (by decide) (by decide)) (fun _ _ ⟨_, q⟩ => (by subst q; exact Keep.refl _ [])) all0 rfl pd__28_29Ljava_2futil_2fList_3b rfl (Nat.le_of_eq rfl) (hb hby at_398) (by decide) (by decide) ?_
    intro z1f z1g z1h z1i z1j
    obtain ⟨rfl, rfl⟩ := z1j
    have z1k : Exa Z zf el "java/util/ImmutableCollections$ListN" := (z0.keep zl)
    have z1l : Fld Z zf el "java/util/ImmutableCollections$ListN" "elements" "[Ljava/lang/Object;" (.ref ee) := (z1.keep zl nin0)
    have z1m : Arv Z zf ee ke (.object "java/lang/Object") (0 : Int32) [] (.null) := (z2.keep zl nin0)
    refine Jvm.Q9.Aim.callI (argsL := []) (rest := []) (y := (⟨"java/util/List", "size", "()I"⟩ : MethodName)) (z := (⟨"java/util/ImmutableCollections$ListN", "size", "()I"⟩ : MethodName)) z1i hx hZ hml hown (wI hw 159 rfl) (wI hw 160 rfl) (wI hw 161 rfl) (wI hw 162 rfl) (wI hw 163 rfl) (wI hw 164 rfl) (wI hw 165 rfl) (wI hw 166 rfl) (by decide) z1k (fun vm0 hZ => Jvm.Y9.Con.back (s := s.setVm vm0) (W := 0) (own_lns l Z a0 hw el ee ke zf n0 (lT Z0 (z11.1)) z1l z1m) hZ (wI hw 168 rfl) (wI hw 167 rfl) (by decide) (by decide)) (fun _ _ ⟨_, q⟩ => (by subst q; exact Keep.refl _ [])) all0 rfl pd__28_29I rfl (Nat.le_of_eq rfl) (hb hby at_401) (by decide) (by decide) ?_
    intro z1n z1o z1p z1q z1r
    obtain ⟨rfl, rfl⟩ := z1r
    have H := z1q.here
    refine Jvm.Q9.Aim.of (T' := z1n) (g' := (mkF m 411 #[q0, .val (.int pk), q2, q3, q4, q5, .val (.int fl), q7, q8, q9, q10, q11, q12, q13, .val (.ref o), q15, q16, .val (.ref z), .val (.int ((pk &&& (2147483647 : Int32)) % fl)), .val (.ref o_1434), .unset] [(.ref o_1434)])) (fun tgt kt => ?_) ?_
    · refine XS.ifNo H hx rfl (hb hby at_406) rfl ((if0 _ _).trans (teq (by decide)).2) ?_
      refine XS.aload H hx rfl (hb hby at_409) rfl rfl ?_
      exact kt
    refine Jvm.Q9.Aim.callV (argsL := []) (rest := []) (y := (⟨"com/example/metsmith/metsmith/Mets$Div", "admIds", "()Ljava/util/List;"⟩ : MethodName)) (z := (⟨"com/example/metsmith/metsmith/Mets$Div", "admIds", "()Ljava/util/List;"⟩ : MethodName)) z1q hx hZ hml hown (wI hw 208 rfl) (wI hw 209 rfl) (fun vm0 hZ => notFace_of_selects (args := #[]) (mvT (s := s.setVm vm0) hZ (wI hw 211 rfl))) (wI hw 211 rfl) (wI hw 210 rfl) (by decide) zq (fun vm0 hZ => Jvm.Y9.Con.back (s := s.setVm vm0) (W := 0) (own_gadmIds l Z a0 hw o_1434 el zf n0 (lT Z0 (z11.1)) zu) hZ (wI hw 212 rfl) (wI hw 102 rfl) (by decide) (by decide)) (fun _ _ ⟨_, q⟩ => (by subst q; exact Keep.refl _ [])) all0 rfl pd__28_29Ljava_2futil_2fList_3b rfl (Nat.le_of_eq rfl) (hb hby at_411) (by decide) (by decide) ?_
    intro z1s z1t z1u z1v z1w
    obtain ⟨rfl, rfl⟩ := z1w
    refine Jvm.Q9.Aim.callI (argsL := []) (rest := []) (y := (⟨"java/util/List", "size", "()I"⟩ : MethodName)) (z := (⟨"java/util/ImmutableCollections$ListN", "size", "()I"⟩ : MethodName)) z1v hx hZ hml hown (wI hw 159 rfl) (wI hw 160 rfl) (wI hw 161 rfl) (wI hw 162 rfl) (wI hw 163 rfl) (wI hw 164 rfl) (wI hw 165 rfl) (wI hw 166 rfl) (by decide) z1k (fun vm0 hZ => Jvm.Y9.Con.back (s := s.setVm vm0) (W := 0) (own_lns l Z a0 hw el ee ke zf n0 (lT Z0 (z11.1)) z1l z1m) hZ (wI hw 168 rfl) (wI hw 167 rfl) (by decide) (by decide)) (fun _ _ ⟨_, q⟩ => (by subst q; exact Keep.refl _ [])) all0 rfl pd__28_29I rfl (Nat.le_of_eq rfl) (hb hby at_414) (by decide) (by decide) ?_
    intro z1x z1y z1z z20 z21
    obtain ⟨rfl, rfl⟩ := z21
    have H := z20.here
    refine Jvm.Q9.Aim.of (T' := z1x) (g' := (mkF m 424 #[q0, .val (.int pk), q2, q3, q4, q5, .val (.int fl), q7, q8, q9, q10, q11, q12, q13, .val (.ref o), q15, q16, .val (.ref z), .val (.int ((pk &&& (2147483647 : Int32)) % fl)), .val (.ref o_1434), .unset] [(.ref o_1434)])) (fun tgt kt => ?_) ?_
    · refine XS.ifNo H hx rfl (hb hby at_419) rfl ((if0 _ _).trans (teq (by decide)).2) ?_
      refine XS.aload H hx rfl (hb hby at_422) rfl rfl ?_
      exact kt
    refine Jvm.Q9.Aim.callV (argsL := []) (rest := []) (y := (⟨"com/example/metsmith/metsmith/Mets$Div", "divs", "()Ljava/util/List;"⟩ : MethodName)) (z := (⟨"com/example/metsmith/metsmith/Mets$Div", "divs", "()Ljava/util/List;"⟩ : MethodName)) z20 hx hZ hml hown (wI hw 213 rfl) (wI hw 214 rfl) (fun vm0 hZ => notFace_of_selects (args := #[]) (mvT (s := s.setVm vm0) hZ (wI hw 216 rfl))) (wI hw 216 rfl) (wI hw 215 rfl) (by decide) zq (fun vm0 hZ => Jvm.Y9.Con.back (s := s.setVm vm0) (W := 0) (own_gdivs l Z a0 hw o_1434 el zf n0 (lT Z0 (z11.1)) zw) hZ (wI hw 217 rfl) (wI hw 102 rfl) (by decide) (by decide)) (fun _ _ ⟨_, q⟩ => (by subst q; exact Keep.refl _ [])) all0 rfl pd__28_29Ljava_2futil_2fList_3b rfl (Nat.le_of_eq rfl) (hb hby at_424) (by decide) (by decide) ?_
    intro z22 z23 z24 z25 z26
    obtain ⟨rfl, rfl⟩ := z26
    refine Jvm.Q9.Aim.callI (argsL := []) (rest := []) (y := (⟨"java/util/List", "size", "()I"⟩ : MethodName)) (z := (⟨"java/util/ImmutableCollections$ListN", "size", "()I"⟩ : MethodName)) z25 hx hZ hml hown (wI hw 159 rfl) (wI hw 160 rfl) (wI hw 161 rfl) (wI hw 162 rfl) (wI hw 163 rfl) (wI hw 164 rfl) (wI hw 165 rfl) (wI hw 166 rfl) (by decide) z1k (fun vm0 hZ => Jvm.Y9.Con.back (s := s.setVm vm0) (W := 0) (own_lns l Z a0 hw el ee ke zf n0 (lT Z0 (z11.1)) z1l z1m) hZ (wI hw 168 rfl) (wI hw 167 rfl) (by decide) (by decide)) (fun _ _ ⟨_, q⟩ => (by subst q; exact Keep.refl _ [])) all0 rfl pd__28_29I rfl (Nat.le_of_eq rfl) (hb hby at_427) (by decide) (by decide) ?_
    intro z27 z28 z29 z2a z2b
    obtain ⟨rfl, rfl⟩ := z2b
    have H := z2a.here
    refine Jvm.Q9.Aim.of (T' := z27) (g' := (mkF m 439 #[q0, .val (.int pk), q2, q3, q4, q5, .val (.int fl), q7, q8, q9, q10, q11, q12, q13, .val (.ref o), q15, q16, .val (.ref z), .val (.int ((pk &&& (2147483647 : Int32)) % fl)), .val (.ref o_1434), .unset] [(.ref o_1434)])) (fun tgt kt => ?_) ?_
    · refine XS.ifYes H hx rfl (pc0 := 432) (pc' := 437) rfl (hb hby at_432) rfl ((if0 _ _).trans (teq (by decide)).1) (by decide) (by decide) ?_
      refine XS.aload H hx rfl (hb hby at_437) rfl rfl ?_
      exact kt
    refine Jvm.Q9.Aim.callV (argsL := []) (rest := []) (y := (⟨"com/example/metsmith/metsmith/Mets$Div", "fileIds", "()Ljava/util/List;"⟩ : MethodName)) (z := (⟨"com/example/metsmith/metsmith/Mets$Div", "fileIds", "()Ljava/util/List;"⟩ : MethodName)) z2a hx hZ hml hown (wI hw 154 rfl) (wI hw 155 rfl) (fun vm0 hZ => notFace_of_selects (args := #[]) (mvT (s := s.setVm vm0) hZ (wI hw 157 rfl))) (wI hw 157 rfl) (wI hw 156 rfl) (by decide) zq (fun vm0 hZ => Jvm.Y9.Con.back (s := s.setVm vm0) (W := 0) (own_gfileIds l Z a0 hw o_1434 a_1435 zf n0 (lT Z0 (z11.1)) zv) hZ (wI hw 158 rfl) (wI hw 102 rfl) (by decide) (by decide)) (fun _ _ ⟨_, q⟩ => (by subst q; exact Keep.refl _ [])) all0 rfl pd__28_29Ljava_2futil_2fList_3b rfl (Nat.le_of_eq rfl) (hb hby at_439) (by decide) (by decide) ?_
    intro z2c z2d z2e z2f z2g
    obtain ⟨rfl, rfl⟩ := z2g
    have H := z2f.here
    refine Jvm.Q9.Aim.of (T' := z2c) (g' := (mkF m 446 #[q0, .val (.int pk), q2, q3, q4, q5, .val (.int fl), q7, q8, q9, q10, q11, q12, q13, .val (.ref o), q15, q16, .val (.ref z), .val (.int ((pk &&& (2147483647 : Int32)) % fl)), .val (.ref o_1434), .val (.ref a_1435)] [(.ref a_1435)])) (fun tgt kt => ?_) ?_
    · refine XS.astore H hx rfl (hb hby at_442) rfl rfl (l' := #[q0, .val (.int pk), q2, q3, q4, q5, .val (.int fl), q7, q8, q9, q10, q11, q12, q13, .val (.ref o), q15, q16, .val (.ref z), .val (.int ((pk &&& (2147483647 : Int32)) % fl)), .val (.ref o_1434), .val (.ref a_1435)]) rfl ?_
      refine XS.aload H hx rfl (hb hby at_444) rfl rfl ?_
      exact kt
    have z2h : Old Z n0 zf := (F4.keep zl all0)
    refine Jvm.Q9.Aim.callI (argsL := []) (rest := []) (y := (⟨"java/util/List", "size", "()I"⟩ : MethodName)) (z := (⟨"java/util/ImmutableCollections$List12", "size", "()I"⟩ : MethodName)) z2f hx hZ hml hown (wI hw 159 rfl) (wI hw 160 rfl) (wI hw 161 rfl) (wI hw 405 rfl) (wI hw 406 rfl) (wI hw 407 rfl) (wI hw 408 rfl) (wI hw 409 rfl) (by decide) zx (fun vm0 hZ => Jvm.Y9.Con.back (s := s.setVm vm0) (W := 0) (own_12s l Z a0 hw a_1435 em zf n0 (lT Z0 (z11.1)) zz z2h GM) hZ (wI hw 410 rfl) (wI hw 375 rfl) (by decide) (by decide)) (fun _ _ ⟨_, q⟩ => (by subst q; exact Keep.refl _ [])) all0 rfl pd__28_29I rfl (Nat.le_of_eq rfl) (hb hby at_446) (by decide) (by decide) ?_
    intro z2i z2j z2k z2l z2m
    obtain ⟨rfl, rfl⟩ := z2m
    have H := z2l.here
    refine Jvm.Q9.Aim.of (T' := z2i) (g' := (mkF m 460 #[q0, .val (.int pk), q2, q3, q4, q5, .val (.int fl), q7, q8, q9, q10, q11, q12, q13, .val (.ref o), q15, q16, .val (.ref z), .val (.int ((pk &&& (2147483647 : Int32)) % fl)), .val (.ref o_1434), .val (.ref a_1435)] [(.int 0), (.ref a_1435)])) (fun tgt kt => ?_) ?_
    · refine XS.iconst H hx rfl (hb hby at_451) ?_
      refine XS.icmpYes H hx rfl (pc0 := 452) (pc' := 457) rfl (hb hby at_452) rfl (teq (by decide)).1 (by decide) (by decide) ?_
      refine XS.aload H hx rfl (hb hby at_457) rfl rfl ?_
      refine XS.iconst H hx rfl (hb hby at_459) ?_
      exact kt
    refine Jvm.Q9.Aim.callI (argsL := [(.int 0)]) (rest := []) (y := (⟨"java/util/List", "get", "(I)Ljava/lang/Object;"⟩ : MethodName)) (z := (⟨"java/util/ImmutableCollections$List12", "get", "(I)Ljava/lang/Object;"⟩ : MethodName)) z2l hx hZ hml hown (wI hw 182 rfl) (wI hw 183 rfl) (wI hw 184 rfl) (wI hw 411 rfl) (wI hw 412 rfl) (wI hw 413 rfl) (wI hw 414 rfl) (wI hw 409 rfl) (by decide) zx (fun vm0 hZ => Jvm.Y9.Con.back (s := s.setVm vm0) (W := 0) (own_12g l Z a0 hw a_1435 z_1436 zf n0 (lT Z0 (z11.1)) zy) hZ (wI hw 415 rfl) (wI hw 375 rfl) (by decide) (by decide)) (fun _ _ ⟨_, q⟩ => (by subst q; exact Keep.refl _ [])) all0 rfl pd__28I_29Ljava_2flang_2fObject_3b rfl (Nat.le_of_eq rfl) (hb hby at_460) (by decide) (by decide) ?_
    intro z2n z2o z2p z2q z2r
    obtain ⟨rfl, rfl⟩ := z2r
    refine Jvm.Q9.Aim.castY z2q hx hZ hown (wI hw 27 rfl) (Ins.self z10.1) (hb hby at_465) ?_
    intro z2s z2t
    have H := z2t.here
    refine Jvm.Q9.Aim.of (T' := z2s) (g' := (mkF m 472 #[q0, .val (.int pk), q2, q3, q4, q5, .val (.int fl), q7, q8, q9, q10, q11, q12, q13, .val (.ref o), q15, q16, .val (.ref z), .val (.int ((pk &&& (2147483647 : Int32)) % fl)), .val (.ref o_1434), .val (.ref a_1435)] [(.int (((pk &&& (2147483647 : Int32)) % fl) + (1 : Int32))), (.ref z_1436)])) (fun tgt kt => ?_) ?_
    · refine XS.iload H hx rfl (hb hby at_468) rfl ?_
      refine XS.iconst H hx rfl (hb hby at_470) ?_
      refine XS.iadd H hx rfl (hb hby at_471) rfl ?_
      exact kt
    refine Jvm.Q9.Aim.callS (argsL := [(.ref z_1436), (.int (((pk &&& (2147483647 : Int32)) % fl) + (1 : Int32)))]) (rest := []) z2t hx hZ hml hown (wI hw 416 rfl) (wI hw 417 rfl) (wI hw 418 rfl) (wI hw 419 rfl) (by decide) (fun vm0 hZ => Jvm.Y9.Con.back (s := s.setVm vm0) (W := 0) (own_fok l Z a0 hw z_1436 t_1437 k_1438 (((pk &&& (2147483647 : Int32)) % fl) + (1 : Int32)) zf n0 (lT Z0 (z11.1)) z10 z2h hpk G GS) hZ (wI hw 419 rfl) (wI hw 418 rfl) (by decide) (by decide)) (fun _ _ ⟨_, q⟩ => (by subst q; exact Keep.refl _ [])) all0 rfl pd__28Ljava_2flang_2fString_3bI_29Z rfl (Nat.le_of_eq rfl) (hb hby at_472) (by decide) (by decide) ?_
    intro z2u z2v z2w z2x z2y
    obtain ⟨rfl, rfl⟩ := z2y
    exact Jvm.Q9.Aim.retN (t := .boolean) z2x hx hlk hret (by simp) (hb hby at_475) (by decide) (by decide) z12 ⟨rfl, z11⟩
theorem pd__28Ljava_2flang_2fObject_3b_29Z : parseMethodDescriptor "(Ljava/lang/Object;)Z" = some ⟨[(.object "java/lang/Object")], some .boolean⟩ := by decide +kernel
theorem own_p3 (l : Launch) (Z : State) (a0 : Array Value) (hw : ∀ d ∈ tables_1, d.before a0 Z = true) (q0 : Slot) (q2 : Slot) (q3 : Slot) (q4 : Slot) (q5 : Slot) (q7 : Slot) (q9 : Slot) (q12 : Slot) (q13 : Slot) (q15 : Slot) (pk : Int32) (fl : Int32) (o : Addr) (z : Addr) (s2 : Addr) (u2 : Addr) (k2 : ClassId) (c2 : List Int32) (s3 : Addr) (u3 : Addr) (k3 : ClassId) (c3 : List Int32) (am : Addr) (ta : Addr) (ka : ClassId) (na : Int32) (dc : Addr) (kd : ClassId) (el : Addr) (ee : Addr) (ke : ClassId) (em : Addr) (h0 : Heap) (n0 : Nat) (Z0 : n0 ≤ h0.size) (Lc0 : List Addr) (F0 : Exa Z h0 o "com/example/metsmith/metsmith/Mets$Div") (F1 : Fld Z h0 o "com/example/metsmith/metsmith/Mets$Div" "admIds" "Ljava/util/List;" (.ref am)) (F2 : Fld Z h0 o "com/example/metsmith/metsmith/Mets$Div" "divs" "Ljava/util/List;" (.ref z)) (F3 : Exa Z h0 z "com/example/metsmith/metsmith/Mets$Div$1") (F4 : Fld Z h0 z "com/example/metsmith/metsmith/Mets$Div$1" "val$files" "I" (.int fl)) (F5 : Str Z h0 s2 u2 k2 c2) (F6 : Str Z h0 s3 u3 k3 c3) (F7 : Als Z h0 am ta ka na s2 s3) (F8 : Old Z n0 h0) (hfl : ¬ (fl < (0 : Int32))) (hna : na = (0 : Int32) ∨ na = (1 : Int32) ∨ na = (2 : Int32)) (GA : Adc Z dc kd) (GE : Ael Z el ee ke) (GM : Aem Z em) (G : Cmp Z) (GS : Sio Z) (GL : ∀ c ∈ LC.1, Jvm.Q9.LitZ Z c) (GD : Dig Z) {p : Program} {e : Env} {s : State} {m : MethodId} {as' : Array Value} {below : List Frame} {meth : Method} {c : Code} {s₁ : State} (hx : p.tables.exec = Jvm.exec) (hby : c.code = code) (hml : c.maxLocals = maxLocals) (hret : meth.sig.returnType = ret) (hnm : meth.name = x.name) (hown : s.vm.findClass x.cls = some m.cls) (hlk : meth.locks = false) (hZ : Z.Warmed39 s.vm) (P0 : Jvm.Q9.On p l e room_1 s m as' below meth c Z LC n0 s₁ h0 27 132 Lc0) :
    Jvm.Q9.Aim p e below s (room_1 : Room).cells (room_1 : Room).slots n0 (Jvm.Q9.QW Z LC h0 Lc0 (fun v h Lc => v = some (.int 1) ∧ Keep h0 h [])) s₁ (mkF m 262 #[q0, .val (.int pk), q2, q3, q4, q5, .val (.int fl), q7, .val (.int na), q9, .val (.ref s2), .val (.ref s3), q12, q13, .val (.ref o), q15, .unset, .unset, .unset, .unset, .unset] []) := by
  rcases hna with rfl | rfl | rfl
  · skip
    show Jvm.Q9.Aim p e below s _ _ n0 _ s₁ (mkF m 262 #[q0, .val (.int pk), q2, q3, q4, q5, .val (.int fl), q7, .val (.int 0), q9, .val (.ref s2), .val (.ref s3), q12, q13, .val (.ref o), q15, .unset, .unset, .unset, .unset, .unset] [])
    have H := P0.here
    refine Jvm.Q9.Aim.of (T' := s₁) (g' := (mkF m 264 #[q0, .val (.int pk), q2, q3, q4, q5, .val (.int fl), q7, .val (.int 0), q9, .val (.ref s2), .val (.ref s3), q12, q13, .val (.ref o), q15, .unset, .unset, .unset, .unset, .unset] [(.ref o)])) (fun tgt kt => ?_) ?_
    · refine XS.aload H hx rfl (hb hby at_262) rfl rfl ?_
      exact kt
    refine Jvm.Q9.Aim.callV (argsL := []) (rest := []) (y := (⟨"com/example/metsmith/metsmith/Mets$Div", "admIds", "()Ljava/util/List;"⟩ : MethodName)) (z := (⟨"com/example/metsmith/metsmith/Mets$Div", "admIds", "()Ljava/util/List;"⟩ : MethodName)) P0 hx hZ hml hown (wI hw 208 rfl) (wI hw 209 rfl) (fun vm0 hZ => notFace_of_selects (args := #[]) (mvT (s := s.setVm vm0) hZ (wI hw 211 rfl))) (wI hw 211 rfl) (wI hw 210 rfl) (by decide) F0 (fun vm0 hZ => Jvm.Y9.Con.back (s := s.setVm vm0) (W := 0) (own_gadmIds l Z a0 hw o am h0 n0 Z0 F1) hZ (wI hw 212 rfl) (wI hw 102 rfl) (by decide) (by decide)) (fun _ _ ⟨_, q⟩ => (by subst q; exact Keep.refl _ [])) all0 rfl pd__28_29Ljava_2futil_2fList_3b rfl (Nat.le_of_eq rfl) (hb hby at_264) (by decide) (by decide) ?_
    intro z0 z1 z2 z3 z4
    obtain ⟨rfl, rfl⟩ := z4
    have H := z3.here
    refine Jvm.Q9.Aim.of (T' := z0) (g' := (mkF m 271 #[q0, .val (.int pk), q2, q3, q4, q5, .val (.int fl), q7, .val (.int 0), q9, .val (.ref s2), .val (.ref s3), q12, q13, .val (.ref o), q15, .val (.ref am), .unset, .unset, .unset, .unset] [(.ref am)])) (fun tgt kt => ?_) ?_
    · refine XS.astore H hx rfl (hb hby at_267) rfl rfl (l' := #[q0, .val (.int pk), q2, q3, q4, q5, .val (.int fl), q7, .val (.int 0), q9, .val (.ref s2), .val (.ref s3), q12, q13, .val (.ref o), q15, .val (.ref am), .unset, .unset, .unset, .unset]) rfl ?_
      refine XS.aload H hx rfl (hb hby at_269) rfl rfl ?_
      exact kt
    refine Jvm.Q9.Aim.callI (argsL := []) (rest := []) (y := (⟨"java/util/List", "size", "()I"⟩ : MethodName)) (z := (⟨"java/util/ArrayList", "size", "()I"⟩ : MethodName)) z3 hx hZ hml hown (wI hw 159 rfl) (wI hw 160 rfl) (wI hw 161 rfl) (wI hw 176 rfl) (wI hw 177 rfl) (wI hw 178 rfl) (wI hw 179 rfl) (wI hw 180 rfl) (by decide) F7.1 (fun vm0 hZ => Jvm.Y9.Con.back (s := s.setVm vm0) (W := 0) (own_als l Z a0 hw am (0 : Int32) h0 n0 Z0 F7.2.2.1) hZ (wI hw 181 rfl) (wI hw 47 rfl) (by decide) (by decide)) (fun _ _ ⟨_, q⟩ => (by subst q; exact Keep.refl _ [])) all0 rfl pd__28_29I rfl (Nat.le_of_eq rfl) (hb hby at_271) (by decide) (by decide) ?_
    intro z5 z6 z7 z8 z9
    obtain ⟨rfl, rfl⟩ := z9
    have H := z8.here
    refine Jvm.Q9.Aim.of (T' := z5) (g' := (mkF m 327 #[q0, .val (.int pk), q2, q3, q4, q5, .val (.int fl), q7, .val (.int 0), q9, .val (.ref s2), .val (.ref s3), q12, q13, .val (.ref o), q15, .val (.ref am), .unset, .unset, .unset, .unset] [])) (fun tgt kt => ?_) ?_
    · refine XS.iload H hx rfl (hb hby at_276) rfl ?_
      refine XS.icmpNo H hx rfl (hb hby at_278) rfl (teq (by decide)).2 ?_
      refine XS.iload H hx rfl (hb hby at_281) rfl ?_
      refine XS.iconst H hx rfl (hb hby at_283) ?_
      refine XS.icmpYes H hx rfl (pc0 := 284) (pc' := 303) rfl (hb hby at_284) rfl (tlt (by decide)).1 (by decide) (by decide) ?_
      refine XS.iload H hx rfl (hb hby at_303) rfl ?_
      refine XS.iconst H hx rfl (hb hby at_305) ?_
      refine XS.icmpYes H hx rfl (pc0 := 306) (pc' := 327) rfl (hb hby at_306) rfl (tlt (by decide)).1 (by decide) (by decide) ?_
      exact kt
    exact (own_p4 l Z a0 hw q0 q2 q3 q4 q5 q7 (.val (.int 0)) q9 (.val (.ref s2)) (.val (.ref s3)) q12 q13 q15 (.val (.ref am)) pk fl o z dc kd el ee ke em h0 n0 Z0 Lc0 F0 F2 F3 F4 F8 hfl GA GE GM G GS GL GD hx hby hml hret hnm hown hlk hZ (z8.more (by decide) (by decide))).imp (fun vv hh it ⟨Lq, ⟨vq, kq⟩, aq, gq⟩ => ⟨Lq, ⟨vq, (Keep.refl h0 []).trans kq all0⟩, aq, (Jvm.Q9.Grow.refl _ _).trans gq (Nat.le_refl _)⟩)
  · skip
    show Jvm.Q9.Aim p e below s _ _ n0 _ s₁ (mkF m 262 #[q0, .val (.int pk), q2, q3, q4, q5, .val (.int fl), q7, .val (.int 1), q9, .val (.ref s2), .val (.ref s3), q12, q13, .val (.ref o), q15, .unset, .unset, .unset, .unset, .unset] [])
    obtain ⟨za, zb, zc⟩ := F7.one
    have H := P0.here
    refine Jvm.Q9.Aim.of (T' := s₁) (g' := (mkF m 264 #[q0, .val (.int pk), q2, q3, q4, q5, .val (.int fl), q7, .val (.int 1), q9, .val (.ref s2), .val (.ref s3), q12, q13, .val (.ref o), q15, .unset, .unset, .unset, .unset, .unset] [(.ref o)])) (fun tgt kt => ?_) ?_
    · refine XS.aload H hx rfl (hb hby at_262) rfl rfl ?_
      exact kt
    refine Jvm.Q9.Aim.callV (argsL := []) (rest := []) (y := (⟨"com/example/metsmith/metsmith/Mets$Div", "admIds", "()Ljava/util/List;"⟩ : MethodName)) (z := (⟨"com/example/metsmith/metsmith/Mets$Div", "admIds", "()Ljava/util/List;"⟩ : MethodName)) P0 hx hZ hml hown (wI hw 208 rfl) (wI hw 209 rfl) (fun vm0 hZ => notFace_of_selects (args := #[]) (mvT (s := s.setVm vm0) hZ (wI hw 211 rfl))) (wI hw 211 rfl) (wI hw 210 rfl) (by decide) F0 (fun vm0 hZ => Jvm.Y9.Con.back (s := s.setVm vm0) (W := 0) (own_gadmIds l Z a0 hw o am h0 n0 Z0 F1) hZ (wI hw 212 rfl) (wI hw 102 rfl) (by decide) (by decide)) (fun _ _ ⟨_, q⟩ => (by subst q; exact Keep.refl _ [])) all0 rfl pd__28_29Ljava_2futil_2fList_3b rfl (Nat.le_of_eq rfl) (hb hby at_264) (by decide) (by decide) ?_
    intro zd ze zf zg zh
    obtain ⟨rfl, rfl⟩ := zh
    have H := zg.here
    refine Jvm.Q9.Aim.of (T' := zd) (g' := (mkF m 271 #[q0, .val (.int pk), q2, q3, q4, q5, .val (.int fl), q7, .val (.int 1), q9, .val (.ref s2), .val (.ref s3), q12, q13, .val (.ref o), q15, .val (.ref am), .unset, .unset, .unset, .unset] [(.ref am)])) (fun tgt kt => ?_) ?_
    · refine XS.astore H hx rfl (hb hby at_267) rfl rfl (l' := #[q0, .val (.int pk), q2, q3, q4, q5, .val (.int fl), q7, .val (.int 1), q9, .val (.ref s2), .val (.ref s3), q12, q13, .val (.ref o), q15, .val (.ref am), .unset, .unset, .unset, .unset]) rfl ?_
      refine XS.aload H hx rfl (hb hby at_269) rfl rfl ?_
      exact kt
    refine Jvm.Q9.Aim.callI (argsL := []) (rest := []) (y := (⟨"java/util/List", "size", "()I"⟩ : MethodName)) (z := (⟨"java/util/ArrayList", "size", "()I"⟩ : MethodName)) zg hx hZ hml hown (wI hw 159 rfl) (wI hw 160 rfl) (wI hw 161 rfl) (wI hw 176 rfl) (wI hw 177 rfl) (wI hw 178 rfl) (wI hw 179 rfl) (wI hw 180 rfl) (by decide) F7.1 (fun vm0 hZ => Jvm.Y9.Con.back (s := s.setVm vm0) (W := 0) (own_als l Z a0 hw am (1 : Int32) h0 n0 Z0 F7.2.2.1) hZ (wI hw 181 rfl) (wI hw 47 rfl) (by decide) (by decide)) (fun _ _ ⟨_, q⟩ => (by subst q; exact Keep.refl _ [])) all0 rfl pd__28_29I rfl (Nat.le_of_eq rfl) (hb hby at_271) (by decide) (by decide) ?_
    intro zi zj zk zl zm
    obtain ⟨rfl, rfl⟩ := zm
    have H := zl.here
    refine Jvm.Q9.Aim.of (T' := zi) (g' := (mkF m 292 #[q0, .val (.int pk), q2, q3, q4, q5, .val (.int fl), q7, .val (.int 1), q9, .val (.ref s2), .val (.ref s3), q12, q13, .val (.ref o), q15, .val (.ref am), .unset, .unset, .unset, .unset] [(.int 0), (.ref am), (.ref s2)])) (fun tgt kt => ?_) ?_
    · refine XS.iload H hx rfl (hb hby at_276) rfl ?_
      refine XS.icmpNo H hx rfl (hb hby at_278) rfl (teq (by decide)).2 ?_
      refine XS.iload H hx rfl (hb hby at_281) rfl ?_
      refine XS.iconst H hx rfl (hb hby at_283) ?_
      refine XS.icmpNo H hx rfl (hb hby at_284) rfl (flt (by decide)).1 ?_
      refine XS.aload H hx rfl (hb hby at_287) rfl rfl ?_
      refine XS.aload H hx rfl (hb hby at_289) rfl rfl ?_
      refine XS.iconst H hx rfl (hb hby at_291) ?_
      exact kt
    refine Jvm.Q9.Aim.callI (argsL := [(.int 0)]) (rest := [(.ref s2)]) (y := (⟨"java/util/List", "get", "(I)Ljava/lang/Object;"⟩ : MethodName)) (z := (⟨"java/util/ArrayList", "get", "(I)Ljava/lang/Object;"⟩ : MethodName)) zl hx hZ hml hown (wI hw 182 rfl) (wI hw 183 rfl) (wI hw 184 rfl) (wI hw 185 rfl) (wI hw 186 rfl) (wI hw 187 rfl) (wI hw 188 rfl) (wI hw 180 rfl) (by decide) F7.1 (fun vm0 hZ => Jvm.Y9.Con.back (s := s.setVm vm0) (W := 1) (own_alg l Z a0 hw am (1 : Int32) ta ka (10 : Int32) za (0 : Int32) s2 h0 n0 Z0 F7.1 F7.2.2.1 F7.2.1 zb (by decide) (by decide) zc (by decide)) hZ (wI hw 189 rfl) (wI hw 47 rfl) (by decide) (by decide)) (fun _ _ ⟨_, q⟩ => (by subst q; exact Keep.refl _ [])) all0 rfl pd__28I_29Ljava_2flang_2fObject_3b rfl (Nat.le_of_eq rfl) (hb hby at_292) (by decide) (by decide) ?_
    intro zn zo zp zq zr
    obtain ⟨rfl, rfl⟩ := zr
    refine Jvm.Q9.Aim.callV (argsL := [(.ref s2)]) (rest := []) (y := (⟨"java/lang/String", "equals", "(Ljava/lang/Object;)Z"⟩ : MethodName)) (z := (⟨"java/lang/String", "equals", "(Ljava/lang/Object;)Z"⟩ : MethodName)) zq hx hZ hml hown (wI hw 203 rfl) (wI hw 204 rfl) (fun vm0 hZ => notFace_of_selects (args := #[]) (mvT (s := s.setVm vm0) hZ (wI hw 206 rfl))) (wI hw 206 rfl) (wI hw 205 rfl) (by decide) F5.1 (fun vm0 hZ => Jvm.Y9.Con.back (s := s.setVm vm0) (W := 0) (own_eqS l Z a0 hw s2 h0 n0 Z0) hZ (wI hw 207 rfl) (wI hw 3 rfl) (by decide) (by decide)) (fun _ _ ⟨_, q⟩ => (by subst q; exact Keep.refl _ [])) all0 rfl pd__28Ljava_2flang_2fObject_3b_29Z rfl (Nat.le_of_eq rfl) (hb hby at_297) (by decide) (by decide) ?_
    intro zs zt zu zv zw
    obtain ⟨rfl, rfl⟩ := zw
    have H := zv.here
    refine Jvm.Q9.Aim.of (T' := zs) (g' := (mkF m 327 #[q0, .val (.int pk), q2, q3, q4, q5, .val (.int fl), q7, .val (.int 1), q9, .val (.ref s2), .val (.ref s3), q12, q13, .val (.ref o), q15, .val (.ref am), .unset, .unset, .unset, .unset] [])) (fun tgt kt => ?_) ?_
    · refine XS.ifNo H hx rfl (hb hby at_300) rfl ((if0 _ _).trans (feq (by decide)).1) ?_
      refine XS.iload H hx rfl (hb hby at_303) rfl ?_
      refine XS.iconst H hx rfl (hb hby at_305) ?_
      refine XS.icmpYes H hx rfl (pc0 := 306) (pc' := 327) rfl (hb hby at_306) rfl (tlt (by decide)).1 (by decide) (by decide) ?_
      exact kt
    exact (own_p4 l Z a0 hw q0 q2 q3 q4 q5 q7 (.val (.int 1)) q9 (.val (.ref s2)) (.val (.ref s3)) q12 q13 q15 (.val (.ref am)) pk fl o z dc kd el ee ke em h0 n0 Z0 Lc0 F0 F2 F3 F4 F8 hfl GA GE GM G GS GL GD hx hby hml hret hnm hown hlk hZ (zv.more (by decide) (by decide))).imp (fun vv hh it ⟨Lq, ⟨vq, kq⟩, aq, gq⟩ => ⟨Lq, ⟨vq, (Keep.refl h0 []).trans kq all0⟩, aq, (Jvm.Q9.Grow.refl _ _).trans gq (Nat.le_refl _)⟩)
  · skip
    show Jvm.Q9.Aim p e below s _ _ n0 _ s₁ (mkF m 262 #[q0, .val (.int pk), q2, q3, q4, q5, .val (.int fl), q7, .val (.int 2), q9, .val (.ref s2), .val (.ref s3), q12, q13, .val (.ref o), q15, .unset, .unset, .unset, .unset, .unset] [])
    obtain ⟨zx, zy, zz, z10⟩ := F7.two
    have H := P0.here
    refine Jvm.Q9.Aim.of (T' := s₁) (g' := (mkF m 264 #[q0, .val (.int pk), q2, q3, q4, q5, .val (.int fl), q7, .val (.int 2), q9, .val (.ref s2), .val (.ref s3), q12, q13, .val (.ref o), q15, .unset, .unset, .unset, .unset, .unset] [(.ref o)])) (fun tgt kt => ?_) ?_
    · refine XS.aload H hx rfl (hb hby at_262) rfl rfl ?_
      exact kt
    refine Jvm.Q9.Aim.callV (argsL := []) (rest := []) (y := (⟨"com/example/metsmith/metsmith/Mets$Div", "admIds", "()Ljava/util/List;"⟩ : MethodName)) (z := (⟨"com/example/metsmith/metsmith/Mets$Div", "admIds", "()Ljava/util/List;"⟩ : MethodName)) P0 hx hZ hml hown (wI hw 208 rfl) (wI hw 209 rfl) (fun vm0 hZ => notFace_of_selects (args := #[]) (mvT (s := s.setVm vm0) hZ (wI hw 211 rfl))) (wI hw 211 rfl) (wI hw 210 rfl) (by decide) F0 (fun vm0 hZ => Jvm.Y9.Con.back (s := s.setVm vm0) (W := 0) (own_gadmIds l Z a0 hw o am h0 n0 Z0 F1) hZ (wI hw 212 rfl) (wI hw 102 rfl) (by decide) (by decide)) (fun _ _ ⟨_, q⟩ => (by subst q; exact Keep.refl _ [])) all0 rfl pd__28_29Ljava_2futil_2fList_3b rfl (Nat.le_of_eq rfl) (hb hby at_264) (by decide) (by decide) ?_
    intro z11 z12 z13 z14 z15
    obtain ⟨rfl, rfl⟩ := z15
    have H := z14.here
    refine Jvm.Q9.Aim.of (T' := z11) (g' := (mkF m 271 #[q0, .val (.int pk), q2, q3, q4, q5, .val (.int fl), q7, .val (.int 2), q9, .val (.ref s2), .val (.ref s3), q12, q13, .val (.ref o), q15, .val (.ref am), .unset, .unset, .unset, .unset] [(.ref am)])) (fun tgt kt => ?_) ?_
    · refine XS.astore H hx rfl (hb hby at_267) rfl rfl (l' := #[q0, .val (.int pk), q2, q3, q4, q5, .val (.int fl), q7, .val (.int 2), q9, .val (.ref s2), .val (.ref s3), q12, q13, .val (.ref o), q15, .val (.ref am), .unset, .unset, .unset, .unset]) rfl ?_
      refine XS.aload H hx rfl (hb hby at_269) rfl rfl ?_
      exact kt
    refine Jvm.Q9.Aim.callI (argsL := []) (rest := []) (y := (⟨"java/util/List", "size", "()I"⟩ : MethodName)) (z := (⟨"java/util/ArrayList", "size", "()I"⟩ : MethodName)) z14 hx hZ hml hown (wI hw 159 rfl) (wI hw 160 rfl) (wI hw 161 rfl) (wI hw 176 rfl) (wI hw 177 rfl) (wI hw 178 rfl) (wI hw 179 rfl) (wI hw 180 rfl) (by decide) F7.1 (fun vm0 hZ => Jvm.Y9.Con.back (s := s.setVm vm0) (W := 0) (own_als l Z a0 hw am (2 : Int32) h0 n0 Z0 F7.2.2.1) hZ (wI hw 181 rfl) (wI hw 47 rfl) (by decide) (by decide)) (fun _ _ ⟨_, q⟩ => (by subst q; exact Keep.refl _ [])) all0 rfl pd__28_29I rfl (Nat.le_of_eq rfl) (hb hby at_271) (by decide) (by decide) ?_
    intro z16 z17 z18 z19 z1a
    obtain ⟨rfl, rfl⟩ := z1a
    have H := z19.here
    refine Jvm.Q9.Aim.of (T' := z16) (g' := (mkF m 292 #[q0, .val (.int pk), q2, q3, q4, q5, .val (.int fl), q7, .val (.int 2), q9, .val (.ref s2), .val (.ref s3), q12, q13, .val (.ref o), q15, .val (.ref am), .unset, .unset, .unset, .unset] [(.int 0), (.ref am), (.ref s2)])) (fun tgt kt => ?_) ?_
    · refine XS.iload H hx rfl (hb hby at_276) rfl ?_
      refine XS.icmpNo H hx rfl (hb hby at_278) rfl (teq (by decide)).2 ?_
      refine XS.iload H hx rfl (hb hby at_281) rfl ?_
      refine XS.iconst H hx rfl (hb hby at_283) ?_
      refine XS.icmpNo H hx rfl (hb hby at_284) rfl (flt (by decide)).1 ?_
      refine XS.aload H hx rfl (hb hby at_287) rfl rfl ?_
      refine XS.aload H hx rfl (hb hby at_289) rfl rfl ?_
      refine XS.iconst H hx rfl (hb hby at_291) ?_
      exact kt
    refine Jvm.Q9.Aim.callI (argsL := [(.int 0)]) (rest := [(.ref s2)]) (y := (⟨"java/util/List", "get", "(I)Ljava/lang/Object;"⟩ : MethodName)) (z := (⟨"java/util/ArrayList", "get", "(I)Ljava/lang/Object;"⟩ : MethodName)) z19 hx hZ hml hown (wI hw 182 rfl) (wI hw 183 rfl) (wI hw 184 rfl) (wI hw 185 rfl) (wI hw 186 rfl) (wI hw 187 rfl) (wI hw 188 rfl) (wI hw 180 rfl) (by decide) F7.1 (fun vm0 hZ => Jvm.Y9.Con.back (s := s.setVm vm0) (W := 1) (own_alg l Z a0 hw am (2 : Int32) ta ka (10 : Int32) zx (0 : Int32) s2 h0 n0 Z0 F7.1 F7.2.2.1 F7.2.1 zy (by decide) (by decide) zz (by decide)) hZ (wI hw 189 rfl) (wI hw 47 rfl) (by decide) (by decide)) (fun _ _ ⟨_, q⟩ => (by subst q; exact Keep.refl _ [])) all0 rfl pd__28I_29Ljava_2flang_2fObject_3b rfl (Nat.le_of_eq rfl) (hb hby at_292) (by decide) (by decide) ?_
    intro z1b z1c z1d z1e z1f
    obtain ⟨rfl, rfl⟩ := z1f
    refine Jvm.Q9.Aim.callV (argsL := [(.ref s2)]) (rest := []) (y := (⟨"java/lang/String", "equals", "(Ljava/lang/Object;)Z"⟩ : MethodName)) (z := (⟨"java/lang/String", "equals", "(Ljava/lang/Object;)Z"⟩ : MethodName)) z1e hx hZ hml hown (wI hw 203 rfl) (wI hw 204 rfl) (fun vm0 hZ => notFace_of_selects (args := #[]) (mvT (s := s.setVm vm0) hZ (wI hw 206 rfl))) (wI hw 206 rfl) (wI hw 205 rfl) (by decide) F5.1 (fun vm0 hZ => Jvm.Y9.Con.back (s := s.setVm vm0) (W := 0) (own_eqS l Z a0 hw s2 h0 n0 Z0) hZ (wI hw 207 rfl) (wI hw 3 rfl) (by decide) (by decide)) (fun _ _ ⟨_, q⟩ => (by subst q; exact Keep.refl _ [])) all0 rfl pd__28Ljava_2flang_2fObject_3b_29Z rfl (Nat.le_of_eq rfl) (hb hby at_297) (by decide) (by decide) ?_
    intro z1g z1h z1i z1j z1k
    obtain ⟨rfl, rfl⟩ := z1k
    have H := z1j.here
    refine Jvm.Q9.Aim.of (T' := z1g) (g' := (mkF m 314 #[q0, .val (.int pk), q2, q3, q4, q5, .val (.int fl), q7, .val (.int 2), q9, .val (.ref s2), .val (.ref s3), q12, q13, .val (.ref o), q15, .val (.ref am), .unset, .unset, .unset, .unset] [(.int 1), (.ref am), (.ref s3)])) (fun tgt kt => ?_) ?_
    · refine XS.ifNo H hx rfl (hb hby at_300) rfl ((if0 _ _).trans (feq (by decide)).1) ?_
      refine XS.iload H hx rfl (hb hby at_303) rfl ?_
      refine XS.iconst H hx rfl (hb hby at_305) ?_
      refine XS.icmpNo H hx rfl (hb hby at_306) rfl (flt (by decide)).1 ?_
      refine XS.aload H hx rfl (hb hby at_309) rfl rfl ?_
      refine XS.aload H hx rfl (hb hby at_311) rfl rfl ?_
      refine XS.iconst H hx rfl (hb hby at_313) ?_
      exact kt
    refine Jvm.Q9.Aim.callI (argsL := [(.int 1)]) (rest := [(.ref s3)]) (y := (⟨"java/util/List", "get", "(I)Ljava/lang/Object;"⟩ : MethodName)) (z := (⟨"java/util/ArrayList", "get", "(I)Ljava/lang/Object;"⟩ : MethodName)) z1j hx hZ hml hown (wI hw 182 rfl) (wI hw 183 rfl) (wI hw 184 rfl) (wI hw 185 rfl) (wI hw 186 rfl) (wI hw 187 rfl) (wI hw 188 rfl) (wI hw 180 rfl) (by decide) F7.1 (fun vm0 hZ => Jvm.Y9.Con.back (s := s.setVm vm0) (W := 1) (own_alg l Z a0 hw am (2 : Int32) ta ka (10 : Int32) zx (1 : Int32) s3 h0 n0 Z0 F7.1 F7.2.2.1 F7.2.1 zy (by decide) (by decide) z10 (by decide)) hZ (wI hw 189 rfl) (wI hw 47 rfl) (by decide) (by decide)) (fun _ _ ⟨_, q⟩ => (by subst q; exact Keep.refl _ [])) all0 rfl pd__28I_29Ljava_2flang_2fObject_3b rfl (Nat.le_of_eq rfl) (hb hby at_314) (by decide) (by decide) ?_
    intro z1l z1m z1n z1o z1p
    obtain ⟨rfl, rfl⟩ := z1p
    refine Jvm.Q9.Aim.callV (argsL := [(.ref s3)]) (rest := []) (y := (⟨"java/lang/String", "equals", "(Ljava/lang/Object;)Z"⟩ : MethodName)) (z := (⟨"java/lang/String", "equals", "(Ljava/lang/Object;)Z"⟩ : MethodName)) z1o hx hZ hml hown (wI hw 203 rfl) (wI hw 204 rfl) (fun vm0 hZ => notFace_of_selects (args := #[]) (mvT (s := s.setVm vm0) hZ (wI hw 206 rfl))) (wI hw 206 rfl) (wI hw 205 rfl) (by decide) F6.1 (fun vm0 hZ => Jvm.Y9.Con.back (s := s.setVm vm0) (W := 0) (own_eqS l Z a0 hw s3 h0 n0 Z0) hZ (wI hw 207 rfl) (wI hw 3 rfl) (by decide) (by decide)) (fun _ _ ⟨_, q⟩ => (by subst q; exact Keep.refl _ [])) all0 rfl pd__28Ljava_2flang_2fObject_3b_29Z rfl (Nat.le_of_eq rfl) (hb hby at_319) (by decide) (by decide) ?_
    intro z1q z1r z1s z1t z1u
    obtain ⟨rfl, rfl⟩ := z1u
    have H := z1t.here
    refine Jvm.Q9.Aim.of (T' := z1q) (g' := (mkF m 327 #[q0, .val (.int pk), q2, q3, q4, q5, .val (.int fl), q7, .val (.int 2), q9, .val (.ref s2), .val (.ref s3), q12, q13, .val (.ref o), q15, .val (.ref am), .unset, .unset, .unset, .unset] [])) (fun tgt kt => ?_) ?_
    · refine XS.ifYes H hx rfl (pc0 := 322) (pc' := 327) rfl (hb hby at_322) rfl ((if0 _ _).trans (feq (by decide)).2) (by decide) (by decide) ?_
      exact kt
    exact (own_p4 l Z a0 hw q0 q2 q3 q4 q5 q7 (.val (.int 2)) q9 (.val (.ref s2)) (.val (.ref s3)) q12 q13 q15 (.val (.ref am)) pk fl o z dc kd el ee ke em h0 n0 Z0 Lc0 F0 F2 F3 F4 F8 hfl GA GE GM G GS GL GD hx hby hml hret hnm hown hlk hZ (z1t.more (by decide) (by decide))).imp (fun vv hh it ⟨Lq, ⟨vq, kq⟩, aq, gq⟩ => ⟨Lq, ⟨vq, (Keep.refl h0 []).trans kq all0⟩, aq, (Jvm.Q9.Grow.refl _ _).trans gq (Nat.le_refl _)⟩)
theorem own_p2 (l : Launch) (Z : State) (a0 : Array Value) (hw : ∀ d ∈ tables_1, d.before a0 Z = true) (q0 : Slot) (q2 : Slot) (q3 : Slot) (q4 : Slot) (q5 : Slot) (q12 : Slot) (q13 : Slot) (pk : Int32) (fl : Int32) (o : Addr) (z : Addr) (s1 : Addr) (u1 : Addr) (k1 : ClassId) (c1 : List Int32) (s2 : Addr) (u2 : Addr) (k2 : ClassId) (c2 : List Int32) (s3 : Addr) (u3 : Addr) (k3 : ClassId) (c3 : List Int32) (dm : Addr) (td : Addr) (kq : ClassId) (nd : Int32) (am : Addr) (ta : Addr) (ka : ClassId) (na : Int32) (dc : Addr) (kd : ClassId) (el : Addr) (ee : Addr) (ke : ClassId) (em : Addr) (h0 : Heap) (n0 : Nat) (Z0 : n0 ≤ h0.size) (Lc0 : List Addr) (F0 : Exa Z h0 o "com/example/metsmith/metsmith/Mets$Div") (F1 : Fld Z h0 o "com/example/metsmith/metsmith/Mets$Div" "dmdIds" "Ljava/util/List;" (.ref dm)) (F2 : Fld Z h0 o "com/example/metsmith/metsmith/Mets$Div" "admIds" "Ljava/util/List;" (.ref am)) (F3 : Fld Z h0 o "com/example/metsmith/metsmith/Mets$Div" "divs" "Ljava/util/List;" (.ref z)) (F4 : Exa Z h0 z "com/example/metsmith/metsmith/Mets$Div$1") (F5 : Fld Z h0 z "com/example/metsmith/metsmith/Mets$Div$1" "val$files" "I" (.int fl)) (F6 : Str Z h0 s1 u1 k1 c1) (F7 : Str Z h0 s2 u2 k2 c2) (F8 : Str Z h0 s3 u3 k3 c3) (F9 : Als Z h0 dm td kq nd s1 s2) (F10 : Als Z h0 am ta ka na s2 s3) (F11 : Old Z n0 h0) (hfl : ¬ (fl < (0 : Int32))) (hnd : nd = (0 : Int32) ∨ nd = (1 : Int32) ∨ nd = (2 : Int32)) (hna : na = (0 : Int32) ∨ na = (1 : Int32) ∨ na = (2 : Int32)) (GA : Adc Z dc kd) (GE : Ael Z el ee ke) (GM : Aem Z em) (G : Cmp Z) (GS : Sio Z) (GL : ∀ c ∈ LC.1, Jvm.Q9.LitZ Z c) (GD : Dig Z) {p : Program} {e : Env} {s : State} {m : MethodId} {as' : Array Value} {below : List Frame} {meth : Method} {c : Code} {s₁ : State} (hx : p.tables.exec = Jvm.exec) (hby : c.code = code) (hml : c.maxLocals = maxLocals) (hret : meth.sig.returnType = ret) (hnm : meth.name = x.name) (hown : s.vm.findClass x.cls = some m.cls) (hlk : meth.locks = false) (hZ : Z.Warmed39 s.vm) (P0 : Jvm.Q9.On p l e room_1 s m as' below meth c Z LC n0 s₁ h0 27 132 Lc0) :
    Jvm.Q9.Aim p e below s (room_1 : Room).cells (room_1 : Room).slots n0 (Jvm.Q9.QW Z LC h0 Lc0 (fun v h Lc => v = some (.int 1) ∧ Keep h0 h [])) s₁ (mkF m 197 #[q0, .val (.int pk), q2, q3, q4, q5, .val (.int fl), .val (.int nd), .val (.int na), .val (.ref s1), .val (.ref s2), .val (.ref s3), q12, q13, .val (.ref o), .unset, .unset, .unset, .unset, .unset, .unset] []) := by
  rcases hnd with rfl | rfl | rfl
  · skip
    show Jvm.Q9.Aim p e below s _ _ n0 _ s₁ (mkF m 197 #[q0, .val (.int pk), q2, q3, q4, q5, .val (.int fl), .val (.int 0), .val (.int na), .val (.ref s1), .val (.ref s2), .val (.ref s3), q12, q13, .val (.ref o), .unset, .unset, .unset, .unset, .unset, .unset] [])
    have H := P0.here
    refine Jvm.Q9.Aim.of (T' := s₁) (g' := (mkF m 199 #[q0, .val (.int pk), q2, q3, q4, q5, .val (.int fl), .val (.int 0), .val (.int na), .val (.ref s1), .val (.ref s2), .val (.ref s3), q12, q13, .val (.ref o), .unset, .unset, .unset, .unset, .unset, .unset] [(.ref o)])) (fun tgt kt => ?_) ?_
    · refine XS.aload H hx rfl (hb hby at_197) rfl rfl ?_
      exact kt
    refine Jvm.Q9.Aim.callV (argsL := []) (rest := []) (y := (⟨"com/example/metsmith/metsmith/Mets$Div", "dmdIds", "()Ljava/util/List;"⟩ : MethodName)) (z := (⟨"com/example/metsmith/metsmith/Mets$Div", "dmdIds", "()Ljava/util/List;"⟩ : MethodName)) P0 hx hZ hml hown (wI hw 171 rfl) (wI hw 172 rfl) (fun vm0 hZ => notFace_of_selects (args := #[]) (mvT (s := s.setVm vm0) hZ (wI hw 174 rfl))) (wI hw 174 rfl) (wI hw 173 rfl) (by decide) F0 (fun vm0 hZ => Jvm.Y9.Con.back (s := s.setVm vm0) (W := 0) (own_gdmdIds l Z a0 hw o dm h0 n0 Z0 F1) hZ (wI hw 175 rfl) (wI hw 102 rfl) (by decide) (by decide)) (fun _ _ ⟨_, q⟩ => (by subst q; exact Keep.refl _ [])) all0 rfl pd__28_29Ljava_2futil_2fList_3b rfl (Nat.le_of_eq rfl) (hb hby at_199) (by decide) (by decide) ?_
    intro z0 z1 z2 z3 z4
    obtain ⟨rfl, rfl⟩ := z4
    have H := z3.here
    refine Jvm.Q9.Aim.of (T' := z0) (g' := (mkF m 206 #[q0, .val (.int pk), q2, q3, q4, q5, .val (.int fl), .val (.int 0), .val (.int na), .val (.ref s1), .val (.ref s2), .val (.ref s3), q12, q13, .val (.ref o), .val (.ref dm), .unset, .unset, .unset, .unset, .unset] [(.ref dm)])) (fun tgt kt => ?_) ?_
    · refine XS.astore H hx rfl (hb hby at_202) rfl rfl (l' := #[q0, .val (.int pk), q2, q3, q4, q5, .val (.int fl), .val (.int 0), .val (.int na), .val (.ref s1), .val (.ref s2), .val (.ref s3), q12, q13, .val (.ref o), .val (.ref dm), .unset, .unset, .unset, .unset, .unset]) rfl ?_
      refine XS.aload H hx rfl (hb hby at_204) rfl rfl ?_
      exact kt
    refine Jvm.Q9.Aim.callI (argsL := []) (rest := []) (y := (⟨"java/util/List", "size", "()I"⟩ : MethodName)) (z := (⟨"java/util/ArrayList", "size", "()I"⟩ : MethodName)) z3 hx hZ hml hown (wI hw 159 rfl) (wI hw 160 rfl) (wI hw 161 rfl) (wI hw 176 rfl) (wI hw 177 rfl) (wI hw 178 rfl) (wI hw 179 rfl) (wI hw 180 rfl) (by decide) F9.1 (fun vm0 hZ => Jvm.Y9.Con.back (s := s.setVm vm0) (W := 0) (own_als l Z a0 hw dm (0 : Int32) h0 n0 Z0 F9.2.2.1) hZ (wI hw 181 rfl) (wI hw 47 rfl) (by decide) (by decide)) (fun _ _ ⟨_, q⟩ => (by subst q; exact Keep.refl _ [])) all0 rfl pd__28_29I rfl (Nat.le_of_eq rfl) (hb hby at_206) (by decide) (by decide) ?_
    intro z5 z6 z7 z8 z9
    obtain ⟨rfl, rfl⟩ := z9
    have H := z8.here
    refine Jvm.Q9.Aim.of (T' := z5) (g' := (mkF m 262 #[q0, .val (.int pk), q2, q3, q4, q5, .val (.int fl), .val (.int 0), .val (.int na), .val (.ref s1), .val (.ref s2), .val (.ref s3), q12, q13, .val (.ref o), .val (.ref dm), .unset, .unset, .unset, .unset, .unset] [])) (fun tgt kt => ?_) ?_
    · refine XS.iload H hx rfl (hb hby at_211) rfl ?_
      refine XS.icmpNo H hx rfl (hb hby at_213) rfl (teq (by decide)).2 ?_
      refine XS.iload H hx rfl (hb hby at_216) rfl ?_
      refine XS.iconst H hx rfl (hb hby at_218) ?_
      refine XS.icmpYes H hx rfl (pc0 := 219) (pc' := 238) rfl (hb hby at_219) rfl (tlt (by decide)).1 (by decide) (by decide) ?_
      refine XS.iload H hx rfl (hb hby at_238) rfl ?_
      refine XS.iconst H hx rfl (hb hby at_240) ?_
      refine XS.icmpYes H hx rfl (pc0 := 241) (pc' := 262) rfl (hb hby at_241) rfl (tlt (by decide)).1 (by decide) (by decide) ?_
      exact kt
    exact (own_p3 l Z a0 hw q0 q2 q3 q4 q5 (.val (.int 0)) (.val (.ref s1)) q12 q13 (.val (.ref dm)) pk fl o z s2 u2 k2 c2 s3 u3 k3 c3 am ta ka na dc kd el ee ke em h0 n0 Z0 Lc0 F0 F2 F3 F4 F5 F7 F8 F10 F11 hfl hna GA GE GM G GS GL GD hx hby hml hret hnm hown hlk hZ (z8.more (by decide) (by decide))).imp (fun vv hh it ⟨Lq, ⟨vq, kq⟩, aq, gq⟩ => ⟨Lq, ⟨vq, (Keep.refl h0 []).trans kq all0⟩, aq, (Jvm.Q9.Grow.refl _ _).trans gq (Nat.le_refl _)⟩)
  · skip
    show Jvm.Q9.Aim p e below s _ _ n0 _ s₁ (mkF m 197 #[q0, .val (.int pk), q2, q3, q4, q5, .val (.int fl), .val (.int 1), .val (.int na), .val (.ref s1), .val (.ref s2), .val (.ref s3), q12, q13, .val (.ref o), .unset, .unset, .unset, .unset, .unset, .unset] [])
    obtain ⟨za, zb, zc⟩ := F9.one
    have H := P0.here
    refine Jvm.Q9.Aim.of (T' := s₁) (g' := (mkF m 199 #[q0, .val (.int pk), q2, q3, q4, q5, .val (.int fl), .val (.int 1), .val (.int na), .val (.ref s1), .val (.ref s2), .val (.ref s3), q12, q13, .val (.ref o), .unset, .unset, .unset, .unset, .unset, .unset] [(.ref o)])) (fun tgt kt => ?_) ?_
    · refine XS.aload H hx rfl (hb hby at_197) rfl rfl ?_
      exact kt
    refine Jvm.Q9.Aim.callV (argsL := []) (rest := []) (y := (⟨"com/example/metsmith/metsmith/Mets$Div", "dmdIds", "()Ljava/util/List;"⟩ : MethodName)) (z := (⟨"com/example/metsmith/metsmith/Mets$Div", "dmdIds", "()Ljava/util/List;"⟩ : MethodName)) P0 hx hZ hml hown (wI hw 171 rfl) (wI hw 172 rfl) (fun vm0 hZ => notFace_of_selects (args := #[]) (mvT (s := s.setVm vm0) hZ (wI hw 174 rfl))) (wI hw 174 rfl) (wI hw 173 rfl) (by decide) F0 (fun vm0 hZ => Jvm.Y9.Con.back (s := s.setVm vm0) (W := 0) (own_gdmdIds l Z a0 hw o dm h0 n0 Z0 F1) hZ (wI hw 175 rfl) (wI hw 102 rfl) (by decide) (by decide)) (fun _ _ ⟨_, q⟩ => (by subst q; exact Keep.refl _ [])) all0 rfl pd__28_29Ljava_2futil_2fList_3b rfl (Nat.le_of_eq rfl) (hb hby at_199) (by decide) (by decide) ?_
    intro zd ze zf zg zh
    obtain ⟨rfl, rfl⟩ := zh
    have H := zg.here
    refine Jvm.Q9.Aim.of (T' := zd) (g' := (mkF m 206 #[q0, .val (.int pk), q2, q3, q4, q5, .val (.int fl), .val (.int 1), .val (.int na), .val (.ref s1), .val (.ref s2), .val (.ref s3), q12, q13, .val (.ref o), .val (.ref dm), .unset, .unset, .unset, .unset, .unset] [(.ref dm)])) (fun tgt kt => ?_) ?_
    · refine XS.astore H hx rfl (hb hby at_202) rfl rfl (l' := #[q0, .val (.int pk), q2, q3, q4, q5, .val (.int fl), .val (.int 1), .val (.int na), .val (.ref s1), .val (.ref s2), .val (.ref s3), q12, q13, .val (.ref o), .val (.ref dm), .unset, .unset, .unset, .unset, .unset]) rfl ?_
      refine XS.aload H hx rfl (hb hby at_204) rfl rfl ?_
      exact kt
    refine Jvm.Q9.Aim.callI (argsL := []) (rest := []) (y := (⟨"java/util/List", "size", "()I"⟩ : MethodName)) (z := (⟨"java/util/ArrayList", "size", "()I"⟩ : MethodName)) zg hx hZ hml hown (wI hw 159 rfl) (wI hw 160 rfl) (wI hw 161 rfl) (wI hw 176 rfl) (wI hw 177 rfl) (wI hw 178 rfl) (wI hw 179 rfl) (wI hw 180 rfl) (by decide) F9.1 (fun vm0 hZ => Jvm.Y9.Con.back (s := s.setVm vm0) (W := 0) (own_als l Z a0 hw dm (1 : Int32) h0 n0 Z0 F9.2.2.1) hZ (wI hw 181 rfl) (wI hw 47 rfl) (by decide) (by decide)) (fun _ _ ⟨_, q⟩ => (by subst q; exact Keep.refl _ [])) all0 rfl pd__28_29I rfl (Nat.le_of_eq rfl) (hb hby at_206) (by decide) (by decide) ?_
    intro zi zj zk zl zm
    obtain ⟨rfl, rfl⟩ := zm
    have H := zl.here
    refine Jvm.Q9.Aim.of (T' := zi) (g' := (mkF m 227 #[q0, .val (.int pk), q2, q3, q4, q5, .val (.int fl), .val (.int 1), .val (.int na), .val (.ref s1), .val (.ref s2), .val (.ref s3), q12, q13, .val (.ref o), .val (.ref dm), .unset, .unset, .unset, .unset, .unset] [(.int 0), (.ref dm), (.ref s1)])) (fun tgt kt => ?_) ?_
    · refine XS.iload H hx rfl (hb hby at_211) rfl ?_
      refine XS.icmpNo H hx rfl (hb hby at_213) rfl (teq (by decide)).2 ?_
      refine XS.iload H hx rfl (hb hby at_216) rfl ?_
      refine XS.iconst H hx rfl (hb hby at_218) ?_
      refine XS.icmpNo H hx rfl (hb hby at_219) rfl (flt (by decide)).1 ?_
      refine XS.aload H hx rfl (hb hby at_222) rfl rfl ?_
      refine XS.aload H hx rfl (hb hby at_224) rfl rfl ?_
      refine XS.iconst H hx rfl (hb hby at_226) ?_
      exact kt
    refine Jvm.Q9.Aim.callI (argsL := [(.int 0)]) (rest := [(.ref s1)]) (y := (⟨"java/util/List", "get", "(I)Ljava/lang/Object;"⟩ : MethodName)) (z := (⟨"java/util/ArrayList", "get", "(I)Ljava/lang/Object;"⟩ : MethodName)) zl hx hZ hml hown (wI hw 182 rfl) (wI hw 183 rfl) (wI hw 184 rfl) (wI hw 185 rfl) (wI hw 186 rfl) (wI hw 187 rfl) (wI hw 188 rfl) (wI hw 180 rfl) (by decide) F9.1 (fun vm0 hZ => Jvm.Y9.Con.back (s := s.setVm vm0) (W := 1) (own_alg l Z a0 hw dm (1 : Int32) td kq (10 : Int32) za (0 : Int32) s1 h0 n0 Z0 F9.1 F9.2.2.1 F9.2.1 zb (by decide) (by decide) zc (by decide)) hZ (wI hw 189 rfl) (wI hw 47 rfl) (by decide) (by decide)) (fun _ _ ⟨_, q⟩ => (by subst q; exact Keep.refl _ [])) all0 rfl pd__28I_29Ljava_2flang_2fObject_3b rfl (Nat.le_of_eq rfl) (hb hby at_227) (by decide) (by decide) ?_
    intro zn zo zp zq zr
    obtain ⟨rfl, rfl⟩ := zr
    refine Jvm.Q9.Aim.callV (argsL := [(.ref s1)]) (rest := []) (y := (⟨"java/lang/String", "equals", "(Ljava/lang/Object;)Z"⟩ : MethodName)) (z := (⟨"java/lang/String", "equals", "(Ljava/lang/Object;)Z"⟩ : MethodName)) zq hx hZ hml hown (wI hw 203 rfl) (wI hw 204 rfl) (fun vm0 hZ => notFace_of_selects (args := #[]) (mvT (s := s.setVm vm0) hZ (wI hw 206 rfl))) (wI hw 206 rfl) (wI hw 205 rfl) (by decide) F6.1 (fun vm0 hZ => Jvm.Y9.Con.back (s := s.setVm vm0) (W := 0) (own_eqS l Z a0 hw s1 h0 n0 Z0) hZ (wI hw 207 rfl) (wI hw 3 rfl) (by decide) (by decide)) (fun _ _ ⟨_, q⟩ => (by subst q; exact Keep.refl _ [])) all0 rfl pd__28Ljava_2flang_2fObject_3b_29Z rfl (Nat.le_of_eq rfl) (hb hby at_232) (by decide) (by decide) ?_
    intro zs zt zu zv zw
    obtain ⟨rfl, rfl⟩ := zw
    have H := zv.here
    refine Jvm.Q9.Aim.of (T' := zs) (g' := (mkF m 262 #[q0, .val (.int pk), q2, q3, q4, q5, .val (.int fl), .val (.int 1), .val (.int na), .val (.ref s1), .val (.ref s2), .val (.ref s3), q12, q13, .val (.ref o), .val (.ref dm), .unset, .unset, .unset, .unset, .unset] [])) (fun tgt kt => ?_) ?_
    · refine XS.ifNo H hx rfl (hb hby at_235) rfl ((if0 _ _).trans (feq (by decide)).1) ?_
      refine XS.iload H hx rfl (hb hby at_238) rfl ?_
      refine XS.iconst H hx rfl (hb hby at_240) ?_
      refine XS.icmpYes H hx rfl (pc0 := 241) (pc' := 262) rfl (hb hby at_241) rfl (tlt (by decide)).1 (by decide) (by decide) ?_
      exact kt
    exact (own_p3 l Z a0 hw q0 q2 q3 q4 q5 (.val (.int 1)) (.val (.ref s1)) q12 q13 (.val (.ref dm)) pk fl o z s2 u2 k2 c2 s3 u3 k3 c3 am ta ka na dc kd el ee ke em h0 n0 Z0 Lc0 F0 F2 F3 F4 F5 F7 F8 F10 F11 hfl hna GA GE GM G GS GL GD hx hby hml hret hnm hown hlk hZ (zv.more (by decide) (by decide))).imp (fun vv hh it ⟨Lq, ⟨vq, kq⟩, aq, gq⟩ => ⟨Lq, ⟨vq, (Keep.refl h0 []).trans kq all0⟩, aq, (Jvm.Q9.Grow.refl _ _).trans gq (Nat.le_refl _)⟩)
  · skip
    show Jvm.Q9.Aim p e below s _ _ n0 _ s₁ (mkF m 197 #[q0, .val (.int pk), q2, q3, q4, q5, .val (.int fl), .val (.int 2), .val (.int na), .val (.ref s1), .val (.ref s2), .val (.ref s3), q12, q13, .val (.ref o), .unset, .unset, .unset, .unset, .unset, .unset] [])
    obtain ⟨zx, zy, zz, z10⟩ := F9.two
    have H := P0.here
    refine Jvm.Q9.Aim.of (T' := s₁) (g' := (mkF m 199 #[q0, .val (.int pk), q2, q3, q4, q5, .val (.int fl), .val (.int 2), .val (.int na), .val (.ref s1), .val (.ref s2), .val (.ref s3), q12, q13, .val (.ref o), .unset, .unset, .unset, .unset, .unset, .unset] [(.ref o)])) (fun tgt kt => ?_) ?_
    · refine XS.aload H hx rfl (hb hby at_197) rfl rfl ?_
      exact kt
    refine Jvm.Q9.Aim.callV (argsL := []) (rest := []) (y := (⟨"com/example/metsmith/metsmith/Mets$Div", "dmdIds", "()Ljava/util/List;"⟩ : MethodName)) (z := (⟨"com/example/metsmith/metsmith/Mets$Div", "dmdIds", "()Ljava/util/List;"⟩ : MethodName)) P0 hx hZ hml hown (wI hw 171 rfl) (wI hw 172 rfl) (fun vm0 hZ => notFace_of_selects (args := #[]) (mvT (s := s.setVm vm0) hZ (wI hw 174 rfl))) (wI hw 174 rfl) (wI hw 173 rfl) (by decide) F0 (fun vm0 hZ => Jvm.Y9.Con.back (s := s.setVm vm0) (W := 0) (own_gdmdIds l Z a0 hw o dm h0 n0 Z0 F1) hZ (wI hw 175 rfl) (wI hw 102 rfl) (by decide) (by decide)) (fun _ _ ⟨_, q⟩ => (by subst q; exact Keep.refl _ [])) all0 rfl pd__28_29Ljava_2futil_2fList_3b rfl (Nat.le_of_eq rfl) (hb hby at_199) (by decide) (by decide) ?_
    intro z11 z12 z13 z14 z15
    obtain ⟨rfl, rfl⟩ := z15
    have H := z14.here
    refine Jvm.Q9.Aim.of (T' := z11) (g' := (mkF m 206 #[q0, .val (.int pk), q2, q3, q4, q5, .val (.int fl), .val (.int 2), .val (.int na), .val (.ref s1), .val (.ref s2), .val (.ref s3), q12, q13, .val (.ref o), .val (.ref dm), .unset, .unset, .unset, .unset, .unset] [(.ref dm)])) (fun tgt kt => ?_) ?_
    · refine XS.astore H hx rfl (hb hby at_202) rfl rfl (l' := #[q0, .val (.int pk), q2, q3, q4, q5, .val (.int fl), .val (.int 2), .val (.int na), .val (.ref s1), .val (.ref s2), .val (.ref s3), q12, q13, .val (.ref o), .val (.ref dm), .unset, .unset, .unset, .unset, .unset]) rfl ?_
      refine XS.aload H hx rfl (hb hby at_204) rfl rfl ?_
      exact kt
    refine Jvm.Q9.Aim.callI (argsL := []) (rest := []) (y := (⟨"java/util/List", "size", "()I"⟩ : MethodName)) (z := (⟨"java/util/ArrayList", "size", "()I"⟩ : MethodName)) z14 hx hZ hml hown (wI hw 159 rfl) (wI hw 160 rfl) (wI hw 161 rfl) (wI hw 176 rfl) (wI hw 177 rfl) (wI hw 178 rfl) (wI hw 179 rfl) (wI hw 180 rfl) (by decide) F9.1 (fun vm0 hZ => Jvm.Y9.Con.back (s := s.setVm vm0) (W := 0) (own_als l Z a0 hw dm (2 : Int32) h0 n0 Z0 F9.2.2.1) hZ (wI hw 181 rfl) (wI hw 47 rfl) (by decide) (by decide)) (fun _ _ ⟨_, q⟩ => (by subst q; exact Keep.refl _ [])) all0 rfl pd__28_29I rfl (Nat.le_of_eq rfl) (hb hby at_206) (by decide) (by decide) ?_
    intro z16 z17 z18 z19 z1a
    obtain ⟨rfl, rfl⟩ := z1a
    have H := z19.here
    refine Jvm.Q9.Aim.of (T' := z16) (g' := (mkF m 227 #[q0, .val (.int pk), q2, q3, q4, q5, .val (.int fl), .val (.int 2), .val (.int na), .val (.ref s1), .val (.ref s2), .val (.ref s3), q12, q13, .val (.ref o), .val (.ref dm), .unset, .unset, .unset, .unset, .unset] [(.int 0), (.ref dm), (.ref s1)])) (fun tgt kt => ?_) ?_
    · refine XS.iload H hx rfl (hb hby at_211) rfl ?_
      refine XS.icmpNo H hx rfl (hb hby at_213) rfl (teq (by decide)).2 ?_
      refine XS.iload H hx rfl (hb hby at_216) rfl ?_
      refine XS.iconst H hx rfl (hb hby at_218) ?_
      refine XS.icmpNo H hx rfl (hb hby at_219) rfl (flt (by decide)).1 ?_
      refine XS.aload H hx rfl (hb hby at_222) rfl rfl ?_
      refine XS.aload H hx rfl (hb hby at_224) rfl rfl ?_
      refine XS.iconst H hx rfl (hb hby at_226) ?_
      exact kt
    refine Jvm.Q9.Aim.callI (argsL := [(.int 0)]) (rest := [(.ref s1)]) (y := (⟨"java/util/List", "get", "(I)Ljava/lang/Object;"⟩ : MethodName)) (z := (⟨"java/util/ArrayList", "get", "(I)Ljava/lang/Object;"⟩ : MethodName)) z19 hx hZ hml hown (wI hw 182 rfl) (wI hw 183 rfl) (wI hw 184 rfl) (wI hw 185 rfl) (wI hw 186 rfl) (wI hw 187 rfl) (wI hw 188 rfl) (wI hw 180 rfl) (by decide) F9.1 (fun vm0 hZ => Jvm.Y9.Con.back (s := s.setVm vm0) (W := 1) (own_alg l Z a0 hw dm (2 : Int32) td kq (10 : Int32) zx (0 : Int32) s1 h0 n0 Z0 F9.1 F9.2.2.1 F9.2.1 zy (by decide) (by decide) zz (by decide)) hZ (wI hw 189 rfl) (wI hw 47 rfl) (by decide) (by decide)) (fun _ _ ⟨_, q⟩ => (by subst q; exact Keep.refl _ [])) all0 rfl pd__28I_29Ljava_2flang_2fObject_3b rfl (Nat.le_of_eq rfl) (hb hby at_227) (by decide) (by decide) ?_
    intro z1b z1c z1d z1e z1f
    obtain ⟨rfl, rfl⟩ := z1f
    refine Jvm.Q9.Aim.callV (argsL := [(.ref s1)]) (rest := []) (y := (⟨"java/lang/String", "equals", "(Ljava/lang/Object;)Z"⟩ : MethodName)) (z := (⟨"java/lang/String", "equals", "(Ljava/lang/Object;)Z"⟩ : MethodName)) z1e hx hZ hml hown (wI hw 203 rfl) (wI hw 204 rfl) (fun vm0 hZ => notFace_of_selects (args := #[]) (mvT (s := s.setVm vm0) hZ (wI hw 206 rfl))) (wI hw 206 rfl) (wI hw 205 rfl) (by decide) F6.1 (fun vm0 hZ => Jvm.Y9.Con.back (s := s.setVm vm0) (W := 0) (own_eqS l Z a0 hw s1 h0 n0 Z0) hZ (wI hw 207 rfl) (wI hw 3 rfl) (by decide) (by decide)) (fun _ _ ⟨_, q⟩ => (by subst q; exact Keep.refl _ [])) all0 rfl pd__28Ljava_2flang_2fObject_3b_29Z rfl (Nat.le_of_eq rfl) (hb hby at_232) (by decide) (by decide) ?_
    intro z1g z1h z1i z1j z1k
    obtain ⟨rfl, rfl⟩ := z1k
    have H := z1j.here
    refine Jvm.Q9.Aim.of (T' := z1g) (g' := (mkF m 249 #[q0, .val (.int pk), q2, q3, q4, q5, .val (.int fl), .val (.int 2), .val (.int na), .val (.ref s1), .val (.ref s2), .val (.ref s3), q12, q13, .val (.ref o), .val (.ref dm), .unset, .unset, .unset, .unset, .unset] [(.int 1), (.ref dm), (.ref s2)])) (fun tgt kt => ?_) ?_
    · refine XS.ifNo H hx rfl (hb hby at_235) rfl ((if0 _ _).trans (feq (by decide)).1) ?_
      refine XS.iload H hx rfl (hb hby at_238) rfl ?_
      refine XS.iconst H hx rfl (hb hby at_240) ?_
      refine XS.icmpNo H hx rfl (hb hby at_241) rfl (flt (by decide)).1 ?_
      refine XS.aload H hx rfl (hb hby at_244) rfl rfl ?_
      refine XS.aload H hx rfl (hb hby at_246) rfl rfl ?_
      refine XS.iconst H hx rfl (hb hby at_248) ?_
      exact kt
    refine Jvm.Q9.Aim.callI (argsL := [(.int 1)]) (rest := [(.ref s2)]) (y := (⟨"java/util/List", "get", "(I)Ljava/lang/Object;"⟩ : MethodName)) (z := (⟨"java/util/ArrayList", "get", "(I)Ljava/lang/Object;"⟩ : MethodName)) z1j hx hZ hml hown (wI hw 182 rfl) (wI hw 183 rfl) (wI hw 184 rfl) (wI hw 185 rfl) (wI hw 186 rfl) (wI hw 187 rfl) (wI hw 188 rfl) (wI hw 180 rfl) (by decide) F9.1 (fun vm0 hZ => Jvm.Y9.Con.back (s := s.setVm vm0) (W := 1) (own_alg l Z a0 hw dm (2 : Int32) td kq (10 : Int32) zx (1 : Int32) s2 h0 n0 Z0 F9.1 F9.2.2.1 F9.2.1 zy (by decide) (by decide) z10 (by decide)) hZ (wI hw 189 rfl) (wI hw 47 rfl) (by decide) (by decide)) (fun _ _ ⟨_, q⟩ => (by subst q; exact Keep.refl _ [])) all0 rfl pd__28I_29Ljava_2flang_2fObject_3b rfl (Nat.le_of_eq rfl) (hb hby at_249) (by decide) (by decide) ?_
    intro z1l z1m z1n z1o z1p
    obtain ⟨rfl, rfl⟩ := z1p
    refine Jvm.Q9.Aim.callV (argsL := [(.ref s2)]) (rest := []) (y := (⟨"java/lang/String", "equals", "(Ljava/lang/Object;)Z"⟩ : MethodName)) (z := (⟨"java/lang/String", "equals", "(Ljava/lang/Object;)Z"⟩ : MethodName)) z1o hx hZ hml hown (wI hw 203 rfl) (wI hw 204 rfl) (fun vm0 hZ => notFace_of_selects (args := #[]) (mvT (s := s.setVm vm0) hZ (wI hw 206 rfl))) (wI hw 206 rfl) (wI hw 205 rfl) (by decide) F7.1 (fun vm0 hZ => Jvm.Y9.Con.back (s := s.setVm vm0) (W := 0) (own_eqS l Z a0 hw s2 h0 n0 Z0) hZ (wI hw 207 rfl) (wI hw 3 rfl) (by decide) (by decide)) (fun _ _ ⟨_, q⟩ => (by subst q; exact Keep.refl _ [])) all0 rfl pd__28Ljava_2flang_2fObject_3b_29Z rfl (Nat.le_of_eq rfl) (hb hby at_254) (by decide) (by decide) ?_
    intro z1q z1r z1s z1t z1u
    obtain ⟨rfl, rfl⟩ := z1u
    have H := z1t.here
    refine Jvm.Q9.Aim.of (T' := z1q) (g' := (mkF m 262 #[q0, .val (.int pk), q2, q3, q4, q5, .val (.int fl), .val (.int 2), .val (.int na), .val (.ref s1), .val (.ref s2), .val (.ref s3), q12, q13, .val (.ref o), .val (.ref dm), .unset, .unset, .unset, .unset, .unset] [])) (fun tgt kt => ?_) ?_
    · refine XS.ifYes H hx rfl (pc0 := 257) (pc' := 262) rfl (hb hby at_257) rfl ((if0 _ _).trans (feq (by decide)).2) (by decide) (by decide) ?_
      exact kt
    exact (own_p3 l Z a0 hw q0 q2 q3 q4 q5 (.val (.int 2)) (.val (.ref s1)) q12 q13 (.val (.ref dm)) pk fl o z s2 u2 k2 c2 s3 u3 k3 c3 am ta ka na dc kd el ee ke em h0 n0 Z0 Lc0 F0 F2 F3 F4 F5 F7 F8 F10 F11 hfl hna GA GE GM G GS GL GD hx hby hml hret hnm hown hlk hZ (z1t.more (by decide) (by decide))).imp (fun vv hh it ⟨Lq, ⟨vq, kq⟩, aq, gq⟩ => ⟨Lq, ⟨vq, (Keep.refl h0 []).trans kq all0⟩, aq, (Jvm.Q9.Grow.refl _ _).trans gq (Nat.le_refl _)⟩)
theorem pd__28Ljava_2futil_2fList_3bLjava_2futil_2fList_3bI_29Lcom_2fexample_2fmetsmith_2fmetsmith_2fMets_24Div_3b : parseMethodDescriptor "(Ljava/util/List;Ljava/util/List;I)Lcom/example/metsmith/metsmith/Mets$Div;" = some ⟨[(.object "java/util/List"), (.object "java/util/List"), .int], some (.object "com/example/metsmith/metsmith/Mets$Div")⟩ := by decide +kernel
theorem own_p1 (l : Launch) (Z : State) (a0 : Array Value) (hw : ∀ d ∈ tables_1, d.before a0 Z = true) (q0 : Slot) (q2 : Slot) (q3 : Slot) (q4 : Slot) (q5 : Slot) (pk : Int32) (fl : Int32) (s1 : Addr) (u1 : Addr) (k1 : ClassId) (c1 : List Int32) (s2 : Addr) (u2 : Addr) (k2 : ClassId) (c2 : List Int32) (s3 : Addr) (u3 : Addr) (k3 : ClassId) (c3 : List Int32) (dm : Addr) (td : Addr) (kq : ClassId) (nd : Int32) (am : Addr) (ta : Addr) (ka : ClassId) (na : Int32) (dc : Addr) (kd : ClassId) (el : Addr) (ee : Addr) (ke : ClassId) (em : Addr) (h0 : Heap) (n0 : Nat) (Z0 : n0 ≤ h0.size) (Lc0 : List Addr) (F0 : Str Z h0 s1 u1 k1 c1) (F1 : Str Z h0 s2 u2 k2 c2) (F2 : Str Z h0 s3 u3 k3 c3) (F3 : Als Z h0 dm td kq nd s1 s2) (F4 : Als Z h0 am ta ka na s2 s3) (F5 : Old Z n0 h0) (hfl : ¬ (fl < (0 : Int32))) (hnd : nd = (0 : Int32) ∨ nd = (1 : Int32) ∨ nd = (2 : Int32)) (hna : na = (0 : Int32) ∨ na = (1 : Int32) ∨ na = (2 : Int32)) (GA : Adc Z dc kd) (GE : Ael Z el ee ke) (GM : Aem Z em) (G : Cmp Z) (GS : Sio Z) (GL : ∀ c ∈ LC.1, Jvm.Q9.LitZ Z c) (GD : Dig Z) {p : Program} {e : Env} {s : State} {m : MethodId} {as' : Array Value} {below : List Frame} {meth : Method} {c : Code} {s₁ : State} (hx : p.tables.exec = Jvm.exec) (hby : c.code = code) (hml : c.maxLocals = maxLocals) (hret : meth.sig.returnType = ret) (hnm : meth.name = x.name) (hown : s.vm.findClass x.cls = some m.cls) (hlk : meth.locks = false) (hZ : Z.Warmed39 s.vm) (P0 : Jvm.Q9.On p l e room_1 s m as' below meth c Z LC n0 s₁ h0 24 120 Lc0) :
    Jvm.Q9.Aim p e below s (room_1 : Room).cells (room_1 : Room).slots n0 (Jvm.Q9.QW Z LC h0 Lc0 (fun v h Lc => v = some (.int 1) ∧ Keep h0 h [])) s₁ (mkF m 153 #[q0, .val (.int pk), q2, q3, q4, q5, .val (.int fl), .val (.int nd), .val (.int na), .val (.ref s1), .val (.ref s2), .val (.ref s3), .val (.ref dm), .val (.ref am), .unset, .unset, .unset, .unset, .unset, .unset, .unset] []) := by
  have lel_ : el < n0 := F5.1 ▸ GE.2.1.lt
  have z0 : Exa Z h0 el "java/util/ImmutableCollections$ListN" := GE.2.1.keep ((Keep.refl _ []).ext F5.2)
  have z1 : Fld Z h0 el "java/util/ImmutableCollections$ListN" "elements" "[Ljava/lang/Object;" (.ref ee) := GE.2.2.1.keep ((Keep.refl _ []).ext F5.2) nin0
  have z2 : Arv Z h0 ee ke (.object "java/lang/Object") (0 : Int32) [] (.null) := GE.2.2.2.keep ((Keep.refl _ []).ext F5.2) nin0
  have H := P0.here
  refine Jvm.Q9.Aim.of (T' := s₁) (g' := (mkF m 159 #[q0, .val (.int pk), q2, q3, q4, q5, .val (.int fl), .val (.int nd), .val (.int na), .val (.ref s1), .val (.ref s2), .val (.ref s3), .val (.ref dm), .val (.ref am), .unset, .unset, .unset, .unset, .unset, .unset, .unset] [(.int fl), (.ref am), (.ref dm)])) (fun tgt kt => ?_) ?_
  · refine XS.aload H hx rfl (hb hby at_153) rfl rfl ?_
    refine XS.aload H hx rfl (hb hby at_155) rfl rfl ?_
    refine XS.iload H hx rfl (hb hby at_157) rfl ?_
    exact kt
  refine Jvm.Q9.Aim.callS (argsL := [(.ref dm), (.ref am), (.int fl)]) (rest := []) P0 hx hZ hml hown (wI hw 100 rfl) (wI hw 101 rfl) (wI hw 102 rfl) (wI hw 103 rfl) (by decide) (fun vm0 hZ => Jvm.Y9.Con.back (s := s.setVm vm0) (W := 0) (own_flat l Z a0 hw dm am fl el ee ke h0 n0 Z0 F5 GE) hZ (wI hw 103 rfl) (wI hw 102 rfl) (by decide) (by decide)) (fun _ _ ⟨_, _, _, q, _, _, _, _, _, _, _, _, _, _, _⟩ => q) all0 rfl pd__28Ljava_2futil_2fList_3bLjava_2futil_2fList_3bI_29Lcom_2fexample_2fmetsmith_2fmetsmith_2fMets_24Div_3b rfl (Nat.le_of_eq rfl) (hb hby at_159) (by decide) (by decide) ?_
  intro z3 z4 z5 z6 z7
  obtain ⟨o_1743, z_1744, rfl, z8, z9, za, zb, zc, zd, ze, zf, zg, zh, zi, zj⟩ := z7
  have zk : Keep h0 z4 [] := (Keep.refl h0 []).trans z8 all0
  have H := z6.here
  refine Jvm.Q9.Aim.of (T' := z3) (g' := (mkF m 166 #[q0, .val (.int pk), q2, q3, q4, q5, .val (.int fl), .val (.int nd), .val (.int na), .val (.ref s1), .val (.ref s2), .val (.ref s3), .val (.ref dm), .val (.ref am), .val (.ref o_1743), .unset, .unset, .unset, .unset, .unset, .unset] [(.ref o_1743)])) (fun tgt kt => ?_) ?_
  · refine XS.astore H hx rfl (hb hby at_162) rfl rfl (l' := #[q0, .val (.int pk), q2, q3, q4, q5, .val (.int fl), .val (.int nd), .val (.int na), .val (.ref s1), .val (.ref s2), .val (.ref s3), .val (.ref dm), .val (.ref am), .val (.ref o_1743), .unset, .unset, .unset, .unset, .unset, .unset]) rfl ?_
    refine XS.aload H hx rfl (hb hby at_164) rfl rfl ?_
    exact kt
  refine Jvm.Q9.Aim.callV (argsL := []) (rest := []) (y := (⟨"com/example/metsmith/metsmith/Mets$Div", "type", "()Ljava/lang/String;"⟩ : MethodName)) (z := (⟨"com/example/metsmith/metsmith/Mets$Div", "type", "()Ljava/lang/String;"⟩ : MethodName)) z6 hx hZ hml hown (wI hw 144 rfl) (wI hw 145 rfl) (fun vm0 hZ => notFace_of_selects (args := #[]) (mvT (s := s.setVm vm0) hZ (wI hw 147 rfl))) (wI hw 147 rfl) (wI hw 146 rfl) (by decide) zb (fun vm0 hZ => Jvm.Y9.Con.back (s := s.setVm vm0) (W := 0) (own_gtype l Z a0 hw o_1743 z4 n0 (lT Z0 (zk.1)) zc) hZ (wI hw 148 rfl) (wI hw 102 rfl) (by decide) (by decide)) (fun _ _ ⟨_, q⟩ => (by subst q; exact Keep.refl _ [])) all0 rfl pd__28_29Ljava_2flang_2fString_3b rfl (Nat.le_of_eq rfl) (hb hby at_166) (by decide) (by decide) ?_
  intro zl zm zn zo zp
  obtain ⟨rfl, rfl⟩ := zp
  have H := zo.here
  refine Jvm.Q9.Aim.of (T' := zl) (g' := (mkF m 174 #[q0, .val (.int pk), q2, q3, q4, q5, .val (.int fl), .val (.int nd), .val (.int na), .val (.ref s1), .val (.ref s2), .val (.ref s3), .val (.ref dm), .val (.ref am), .val (.ref o_1743), .unset, .unset, .unset, .unset, .unset, .unset] [(.ref o_1743)])) (fun tgt kt => ?_) ?_
  · refine XS.ifnonnullNo H hx rfl (hb hby at_169) rfl ?_
    refine XS.aload H hx rfl (hb hby at_172) rfl rfl ?_
    exact kt
  refine Jvm.Q9.Aim.callV (argsL := []) (rest := []) (y := (⟨"com/example/metsmith/metsmith/Mets$Div", "label", "()Ljava/lang/String;"⟩ : MethodName)) (z := (⟨"com/example/metsmith/metsmith/Mets$Div", "label", "()Ljava/lang/String;"⟩ : MethodName)) zo hx hZ hml hown (wI hw 149 rfl) (wI hw 150 rfl) (fun vm0 hZ => notFace_of_selects (args := #[]) (mvT (s := s.setVm vm0) hZ (wI hw 152 rfl))) (wI hw 152 rfl) (wI hw 151 rfl) (by decide) zb (fun vm0 hZ => Jvm.Y9.Con.back (s := s.setVm vm0) (W := 0) (own_glabel l Z a0 hw o_1743 z4 n0 (lT Z0 (zk.1)) zd) hZ (wI hw 153 rfl) (wI hw 102 rfl) (by decide) (by decide)) (fun _ _ ⟨_, q⟩ => (by subst q; exact Keep.refl _ [])) all0 rfl pd__28_29Ljava_2flang_2fString_3b rfl (Nat.le_of_eq rfl) (hb hby at_174) (by decide) (by decide) ?_
  intro zq zr zs zt zu
  obtain ⟨rfl, rfl⟩ := zu
  have H := zt.here
  refine Jvm.Q9.Aim.of (T' := zq) (g' := (mkF m 184 #[q0, .val (.int pk), q2, q3, q4, q5, .val (.int fl), .val (.int nd), .val (.int na), .val (.ref s1), .val (.ref s2), .val (.ref s3), .val (.ref dm), .val (.ref am), .val (.ref o_1743), .unset, .unset, .unset, .unset, .unset, .unset] [(.ref o_1743)])) (fun tgt kt => ?_) ?_
  · refine XS.ifnullYes H hx rfl (pc0 := 177) (pc' := 182) rfl (hb hby at_177) rfl (by decide) (by decide) ?_
    refine XS.aload H hx rfl (hb hby at_182) rfl rfl ?_
    exact kt
  refine Jvm.Q9.Aim.callV (argsL := []) (rest := []) (y := (⟨"com/example/metsmith/metsmith/Mets$Div", "fileIds", "()Ljava/util/List;"⟩ : MethodName)) (z := (⟨"com/example/metsmith/metsmith/Mets$Div", "fileIds", "()Ljava/util/List;"⟩ : MethodName)) zt hx hZ hml hown (wI hw 154 rfl) (wI hw 155 rfl) (fun vm0 hZ => notFace_of_selects (args := #[]) (mvT (s := s.setVm vm0) hZ (wI hw 157 rfl))) (wI hw 157 rfl) (wI hw 156 rfl) (by decide) zb (fun vm0 hZ => Jvm.Y9.Con.back (s := s.setVm vm0) (W := 0) (own_gfileIds l Z a0 hw o_1743 el z4 n0 (lT Z0 (zk.1)) zg) hZ (wI hw 158 rfl) (wI hw 102 rfl) (by decide) (by decide)) (fun _ _ ⟨_, q⟩ => (by subst q; exact Keep.refl _ [])) all0 rfl pd__28_29Ljava_2futil_2fList_3b rfl (Nat.le_of_eq rfl) (hb hby at_184) (by decide) (by decide) ?_
  intro zv zw zx zy zz
  obtain ⟨rfl, rfl⟩ := zz
  have z10 : Exa Z z4 el "java/util/ImmutableCollections$ListN" := (z0.keep z8)
  have z11 : Fld Z z4 el "java/util/ImmutableCollections$ListN" "elements" "[Ljava/lang/Object;" (.ref ee) := (z1.keep z8 nin0)
  have z12 : Arv Z z4 ee ke (.object "java/lang/Object") (0 : Int32) [] (.null) := (z2.keep z8 nin0)
  refine Jvm.Q9.Aim.callI (argsL := []) (rest := []) (y := (⟨"java/util/List", "size", "()I"⟩ : MethodName)) (z := (⟨"java/util/ImmutableCollections$ListN", "size", "()I"⟩ : MethodName)) zy hx hZ hml hown (wI hw 159 rfl) (wI hw 160 rfl) (wI hw 161 rfl) (wI hw 162 rfl) (wI hw 163 rfl) (wI hw 164 rfl) (wI hw 165 rfl) (wI hw 166 rfl) (by decide) z10 (fun vm0 hZ => Jvm.Y9.Con.back (s := s.setVm vm0) (W := 0) (own_lns l Z a0 hw el ee ke z4 n0 (lT Z0 (zk.1)) z11 z12) hZ (wI hw 168 rfl) (wI hw 167 rfl) (by decide) (by decide)) (fun _ _ ⟨_, q⟩ => (by subst q; exact Keep.refl _ [])) all0 rfl pd__28_29I rfl (Nat.le_of_eq rfl) (hb hby at_187) (by decide) (by decide) ?_
  intro z13 z14 z15 z16 z17
  obtain ⟨rfl, rfl⟩ := z17
  have H := z16.here
  refine Jvm.Q9.Aim.of (T' := z13) (g' := (mkF m 197 #[q0, .val (.int pk), q2, q3, q4, q5, .val (.int fl), .val (.int nd), .val (.int na), .val (.ref s1), .val (.ref s2), .val (.ref s3), .val (.ref dm), .val (.ref am), .val (.ref o_1743), .unset, .unset, .unset, .unset, .unset, .unset] [])) (fun tgt kt => ?_) ?_
  · refine XS.ifYes H hx rfl (pc0 := 192) (pc' := 197) rfl (hb hby at_192) rfl ((if0 _ _).trans (teq (by decide)).1) (by decide) (by decide) ?_
    exact kt
  have z18 : Str Z z4 s1 u1 k1 c1 := (F0.keep z8 nin0 nin0)
  have z19 : Str Z z4 s2 u2 k2 c2 := (F1.keep z8 nin0 nin0)
  have z1a : Str Z z4 s3 u3 k3 c3 := (F2.keep z8 nin0 nin0)
  have z1b : Als Z z4 dm td kq nd s1 s2 := (F3.keep z8 nin0 nin0)
  have z1c : Als Z z4 am ta ka na s2 s3 := (F4.keep z8 nin0 nin0)
  have z1d : Old Z n0 z4 := (F5.keep z8 all0)
  exact (own_p2 l Z a0 hw q0 q2 q3 q4 q5 (.val (.ref dm)) (.val (.ref am)) pk fl o_1743 z_1744 s1 u1 k1 c1 s2 u2 k2 c2 s3 u3 k3 c3 dm td kq nd am ta ka na dc kd el ee ke em z4 n0 (lT Z0 (zk.1)) Lc0 zb ze zf zh zi zj z18 z19 z1a z1b z1c z1d hfl hnd hna GA GE GM G GS GL GD hx hby hml hret hnm hown hlk hZ (z16.more (by decide) (by decide))).imp (fun vv hh it ⟨Lq, ⟨vq, kq⟩, aq, gq⟩ => ⟨Lq, ⟨vq, zk.trans kq all0⟩, aq, (Jvm.Q9.Grow.refl _ _).trans gq (zk.1)⟩)
theorem pd__28C_29Ljava_2flang_2fString_3b : parseMethodDescriptor "(C)Ljava/lang/String;" = some ⟨[.char], some (.object "java/lang/String")⟩ := by decide +kernel
theorem pd__28_5bC_29V : parseMethodDescriptor "([C)V" = some ⟨[(.array .char)], none⟩ := by decide +kernel
theorem own_law (l : Launch) (Z : State) (a0 : Array Value) (hw : ∀ d ∈ tables_1, d.before a0 Z = true) (p1 : Int32) (p2 : Int32) (p3 : Int32) (p4 : Int32) (p5 : Int32) (p6 : Int32) (h0 : Heap) (n0 : Nat) (Z0 : n0 ≤ h0.size) (Lc0 : List Addr) (F0 : Old Z n0 h0) (G : Cmp Z) (GS : Sio Z) (GL : ∀ c ∈ LC.1, Jvm.Q9.LitZ Z c) (GD : Dig Z) (GA0 : ∃ dc kd, Adc Z dc kd) (GE0 : ∃ el ee ke, Ael Z el ee ke) (GM0 : ∃ em, Aem Z em) :
    Jvm.Q9.Con l Z LC x code maxLocals ret room_1 n0 #[(.int p1), (.int p2), (.int p3), (.int p4), (.int p5), (.int p6)] h0 Lc0 (fun v h Lc => v = some (.int 1) ∧ Keep h0 h []) := by
  refine Jvm.Q9.Con.intro (plainFor_of_name pn_com_example_metsmith_metsmith_MetsDivFlatPinLaw) ?_
  intro p e s m below meth c s₁ hx hby hml hret hnm hown hlk hZ hs0 P0
  refine Jvm.Q9.Aim.cast (by first | (simp [entryFrame, mkF, argsToLocals, Value.category, maxLocals]; done) | rfl : entryFrame m #[(.int p1), (.int p2), (.int p3), (.int p4), (.int p5), (.int p6)] maxLocals = (mkF m 0 #[.val (.int p1), .val (.int p2), .val (.int p3), .val (.int p4), .val (.int p5), .val (.int p6), .unset, .unset, .unset, .unset, .unset, .unset, .unset, .unset, .unset, .unset, .unset, .unset, .unset, .unset, .unset] [])) ?_
  obtain ⟨dc, kd, GA⟩ := GA0
  obtain ⟨el, ee, ke, GE⟩ := GE0
  obtain ⟨em, GM⟩ := GM0
  have ldc_ : dc < n0 := F0.1 ▸ GA.2.lt
  have z0 : Arv Z h0 dc kd (.object "java/lang/Object") (0 : Int32) [] (.null) := GA.2.keep ((Keep.refl _ []).ext F0.2) nin0
  have H := P0.here
  refine Jvm.Q9.Aim.of (T' := s₁) (g' := (mkF m 1 #[.val (.int p1), .val (.int p2), .val (.int p3), .val (.int p4), .val (.int p5), .val (.int p6), .unset, .unset, .unset, .unset, .unset, .unset, .unset, .unset, .unset, .unset, .unset, .unset, .unset, .unset, .unset] [(.int p1)])) (fun tgt kt => ?_) ?_
  · refine XS.iloadN H hx rfl (hb hby at_0) rfl ?_
    exact kt
  refine Jvm.Q9.Aim.ldcI P0 hx hZ hown (wI hw 0 rfl) (hb hby at_1) ?_
  have H := P0.here
  refine Jvm.Q9.Aim.of (T' := s₁) (g' := (mkF m 28 #[.val (.int p1), .val (.int p2), .val (.int p3), .val (.int p4), .val (.int p5), .val (.int p6), .val (.int (p1 &&& (2147483647 : Int32))), .val (.int ((p3 &&& (3 : Int32)) % (3 : Int32))), .val (.int ((((p3.toUInt32 >>> ((2 : Int32) &&& 31).toUInt32).toInt32) &&& (3 : Int32)) % (3 : Int32))), .unset, .unset, .unset, .unset, .unset, .unset, .unset, .unset, .unset, .unset, .unset, .unset] [(.int ((p4 &&& (255 : Int32)).toUInt32.toUInt16.toUInt32.toInt32))])) (fun tgt kt => ?_) ?_
  · refine XS.iand H hx rfl (hb hby at_3) rfl ?_
    refine XS.istore H hx rfl (hb hby at_4) rfl (l' := #[.val (.int p1), .val (.int p2), .val (.int p3), .val (.int p4), .val (.int p5), .val (.int p6), .val (.int (p1 &&& (2147483647 : Int32))), .unset, .unset, .unset, .unset, .unset, .unset, .unset, .unset, .unset, .unset, .unset, .unset, .unset, .unset]) rfl ?_
    refine XS.iloadN H hx rfl (hb hby at_6) rfl ?_
    refine XS.iconst H hx rfl (hb hby at_7) ?_
    refine XS.iand H hx rfl (hb hby at_8) rfl ?_
    refine XS.iconst H hx rfl (hb hby at_9) ?_
    refine Jvm.Y9.own_irem H hx rfl (hb hby at_10) rfl (by decide) ?_
    refine XS.istore H hx rfl (hb hby at_11) rfl (l' := #[.val (.int p1), .val (.int p2), .val (.int p3), .val (.int p4), .val (.int p5), .val (.int p6), .val (.int (p1 &&& (2147483647 : Int32))), .val (.int ((p3 &&& (3 : Int32)) % (3 : Int32))), .unset, .unset, .unset, .unset, .unset, .unset, .unset, .unset, .unset, .unset, .unset, .unset, .unset]) rfl ?_
    refine XS.iloadN H hx rfl (hb hby at_13) rfl ?_
    refine XS.iconst H hx rfl (hb hby at_14) ?_
    refine XS.iushr H hx rfl (hb hby at_15) rfl ?_
    refine XS.iconst H hx rfl (hb hby at_16) ?_
    refine XS.iand H hx rfl (hb hby at_17) rfl ?_
    refine XS.iconst H hx rfl (hb hby at_18) ?_
    refine Jvm.Y9.own_irem H hx rfl (hb hby at_19) rfl (by decide) ?_
    refine XS.istore H hx rfl (hb hby at_20) rfl (l' := #[.val (.int p1), .val (.int p2), .val (.int p3), .val (.int p4), .val (.int p5), .val (.int p6), .val (.int (p1 &&& (2147483647 : Int32))), .val (.int ((p3 &&& (3 : Int32)) % (3 : Int32))), .val (.int ((((p3.toUInt32 >>> ((2 : Int32) &&& 31).toUInt32).toInt32) &&& (3 : Int32)) % (3 : Int32))), .unset, .unset, .unset, .unset, .unset, .unset, .unset, .unset, .unset, .unset, .unset, .unset]) rfl ?_
    refine XS.iloadN H hx rfl (hb hby at_22) rfl ?_
    refine XS.sipush H hx rfl (hb hby at_23) ?_
    refine XS.iand H hx rfl (hb hby at_26) rfl ?_
    refine XS.i2c H hx rfl (hb hby at_27) rfl ?_
    exact kt
  refine Jvm.Q9.Aim.callS (argsL := [(.int ((p4 &&& (255 : Int32)).toUInt32.toUInt16.toUInt32.toInt32))]) (rest := []) P0 hx hZ hml hown (wI hw 1 rfl) (wI hw 2 rfl) (wI hw 3 rfl) (wI hw 4 rfl) (by decide) (fun vm0 hZ => Jvm.Y9.Con.back (s := s.setVm vm0) (W := 0) (own_valueOf l Z a0 hw ((p4 &&& (255 : Int32)).toUInt32.toUInt16.toUInt32.toInt32) h0 n0 Z0 F0 (own_char _) G) hZ (wI hw 4 rfl) (wI hw 3 rfl) (by decide) (by decide)) (fun _ _ ⟨_, _, _, _, q, _, _, _⟩ => q) all0 rfl pd__28C_29Ljava_2flang_2fString_3b rfl (Nat.le_of_eq rfl) (hb hby at_28) (by decide) (by decide) ?_
  intro z1 z2 z3 z4 z5
  obtain ⟨x_1803, t_1804, kb_1805, rfl, z6, z7, z8, z9⟩ := z5
  have za : Keep h0 z2 [] := (Keep.refl h0 []).trans z6 all0
  have H := z4.here
  refine Jvm.Q9.Aim.of (T' := z1) (g' := (mkF m 33 #[.val (.int p1), .val (.int p2), .val (.int p3), .val (.int p4), .val (.int p5), .val (.int p6), .val (.int (p1 &&& (2147483647 : Int32))), .val (.int ((p3 &&& (3 : Int32)) % (3 : Int32))), .val (.int ((((p3.toUInt32 >>> ((2 : Int32) &&& 31).toUInt32).toInt32) &&& (3 : Int32)) % (3 : Int32))), .val (.ref x_1803), .unset, .unset, .unset, .unset, .unset, .unset, .unset, .unset, .unset, .unset, .unset] [])) (fun tgt kt => ?_) ?_
  · refine XS.astore H hx rfl (hb hby at_31) rfl rfl (l' := #[.val (.int p1), .val (.int p2), .val (.int p3), .val (.int p4), .val (.int p5), .val (.int p6), .val (.int (p1 &&& (2147483647 : Int32))), .val (.int ((p3 &&& (3 : Int32)) % (3 : Int32))), .val (.int ((((p3.toUInt32 >>> ((2 : Int32) &&& 31).toUInt32).toInt32) &&& (3 : Int32)) % (3 : Int32))), .val (.ref x_1803), .unset, .unset, .unset, .unset, .unset, .unset, .unset, .unset, .unset, .unset, .unset]) rfl ?_
    exact kt
  refine Jvm.Q9.Aim.newO z4 hx hZ hown (wI hw 27 rfl) (wI hw 11 rfl) (wI hw 3 rfl) (hb hby at_33) (by decide) (by decide) ?_
  intro zb zc zd ze zf zg zh zi zj
  have zk : Keep z2 zc [] := (Keep.refl _ _).ext zg
  have zl : Keep h0 zc [] := za.trans zk all0
  have zm : Fld Z zc zd "java/lang/String" "value" "[B" .null := zi (Or.inr (wI hw 24 rfl)) (ty := (.array .byte)) (by decide)
  have zn : Fld Z zc zd "java/lang/String" "coder" "B" (.int 0) := zi (Or.inr (wI hw 26 rfl)) (ty := .byte) (by decide)
  have H := zf.here
  refine Jvm.Q9.Aim.of (T' := zb) (g' := (mkF m 38 #[.val (.int p1), .val (.int p2), .val (.int p3), .val (.int p4), .val (.int p5), .val (.int p6), .val (.int (p1 &&& (2147483647 : Int32))), .val (.int ((p3 &&& (3 : Int32)) % (3 : Int32))), .val (.int ((((p3.toUInt32 >>> ((2 : Int32) &&& 31).toUInt32).toInt32) &&& (3 : Int32)) % (3 : Int32))), .val (.ref x_1803), .unset, .unset, .unset, .unset, .unset, .unset, .unset, .unset, .unset, .unset, .unset] [(.int 2), (.ref zd), (.ref zd)])) (fun tgt kt => ?_) ?_
  · refine XS.dup H hx rfl (hb hby at_36) rfl rfl ?_
    refine XS.iconst H hx rfl (hb hby at_37) ?_
    exact kt
  refine Jvm.Q9.Aim.newP (z := (2 : Int32)) zf hx hZ (wI hw 28 rfl) (hb hby at_38) (by decide) (cap := 2) (by decide) (by decide) (by decide) (by decide) ?_
  intro zo zp zq zr zs zt zu zv
  have zw : Keep zc zp [] := (Keep.refl _ _).ext zu
  have zx : Keep h0 zp [] := zl.trans zw all0
  have zy : Arv Z zp zr zq .char (2 : Int32) [(.int 0), (.int 0)] (.int 0) := zv.pad (pad_rep [] (.int 0) 2)
  have H := zt.here
  refine Jvm.Q9.Aim.of (T' := zo) (g' := (mkF m 49 #[.val (.int p1), .val (.int p2), .val (.int p3), .val (.int p4), .val (.int p5), .val (.int p6), .val (.int (p1 &&& (2147483647 : Int32))), .val (.int ((p3 &&& (3 : Int32)) % (3 : Int32))), .val (.int ((((p3.toUInt32 >>> ((2 : Int32) &&& 31).toUInt32).toInt32) &&& (3 : Int32)) % (3 : Int32))), .val (.ref x_1803), .unset, .unset, .unset, .unset, .unset, .unset, .unset, .unset, .unset, .unset, .unset] [(.int ((p5 &&& (255 : Int32)).toUInt32.toUInt16.toUInt32.toInt32)), (.int 0), (.ref zr), (.ref zr), (.ref zd), (.ref zd)])) (fun tgt kt => ?_) ?_
  · refine XS.dup H hx rfl (hb hby at_40) rfl rfl ?_
    refine XS.iconst H hx rfl (hb hby at_41) ?_
    refine XS.iload H hx rfl (hb hby at_42) rfl ?_
    refine XS.sipush H hx rfl (hb hby at_44) ?_
    refine XS.iand H hx rfl (hb hby at_47) rfl ?_
    refine XS.i2c H hx rfl (hb hby at_48) rfl ?_
    exact kt
  refine Jvm.Q9.Aim.stC (x := ((p5 &&& (255 : Int32)).toUInt32.toUInt16.toUInt32.toInt32)) (j := (0 : Int32)) zt hx hZ zy ⟨by decide, by decide⟩ 0 rfl (Nat.le_of_ble_eq_true rfl) (hb hby at_49) (lT (lT Z0 (zl.1)) (Nat.le_of_eq zs.symm)) (Jvm.Q9.nl_new P0.ltL (lT (zl.1) (Nat.le_of_eq zs.symm))) ?_
  intro zz z10 z11 z12 z13
  replace z13 : Arv Z z10 zr zq .char (2 : Int32) [(.int (nar .char ((p5 &&& (255 : Int32)).toUInt32.toUInt16.toUInt32.toInt32))), (.int 0)] (.int 0) := z13
  have z14 : Keep h0 z10 [] := zx.trans z12 (allS (Or.inr (lT (zl.1) (Nat.le_of_eq zs.symm))) all0)
  have H := z11.here
  refine Jvm.Q9.Aim.of (T' := zz) (g' := (mkF m 59 #[.val (.int p1), .val (.int p2), .val (.int p3), .val (.int p4), .val (.int p5), .val (.int p6), .val (.int (p1 &&& (2147483647 : Int32))), .val (.int ((p3 &&& (3 : Int32)) % (3 : Int32))), .val (.int ((((p3.toUInt32 >>> ((2 : Int32) &&& 31).toUInt32).toInt32) &&& (3 : Int32)) % (3 : Int32))), .val (.ref x_1803), .unset, .unset, .unset, .unset, .unset, .unset, .unset, .unset, .unset, .unset, .unset] [(.int ((p6 &&& (255 : Int32)).toUInt32.toUInt16.toUInt32.toInt32)), (.int 1), (.ref zr), (.ref zr), (.ref zd), (.ref zd)])) (fun tgt kt => ?_) ?_
  · refine XS.dup H hx rfl (hb hby at_50) rfl rfl ?_
    refine XS.iconst H hx rfl (hb hby at_51) ?_
    refine XS.iload H hx rfl (hb hby at_52) rfl ?_
    refine XS.sipush H hx rfl (hb hby at_54) ?_
    refine XS.iand H hx rfl (hb hby at_57) rfl ?_
    refine XS.i2c H hx rfl (hb hby at_58) rfl ?_
    exact kt
  refine Jvm.Q9.Aim.stC (x := ((p6 &&& (255 : Int32)).toUInt32.toUInt16.toUInt32.toInt32)) (j := (1 : Int32)) z11 hx hZ z13 ⟨by decide, by decide⟩ 1 rfl (Nat.le_of_ble_eq_true rfl) (hb hby at_59) (lT (lT Z0 (zl.1)) (Nat.le_of_eq zs.symm)) (Jvm.Q9.nl_new P0.ltL (lT (zl.1) (Nat.le_of_eq zs.symm))) ?_
  intro z15 z16 z17 z18 z19
  replace z19 : Arv Z z16 zr zq .char (2 : Int32) [(.int (nar .char ((p5 &&& (255 : Int32)).toUInt32.toUInt16.toUInt32.toInt32))), (.int (nar .char ((p6 &&& (255 : Int32)).toUInt32.toUInt16.toUInt32.toInt32)))] (.int 0) := z19
  have z1a : Keep h0 z16 [] := z14.trans z18 (allS (Or.inr (lT (zl.1) (Nat.le_of_eq zs.symm))) all0)
  have z1b : Exa Z z16 zd "java/lang/String" := (((zh.keep zw).keep z12).keep z18)
  have z1c : Fld Z z16 zd "java/lang/String" "value" "[B" .null := (((zm.keep zw nin0).keep z12 (ninS (nL (lL zh.lt (Nat.le_of_eq zs.symm))) nin0)).keep z18 (ninS (nL (lL zh.lt (Nat.le_of_eq zs.symm))) nin0))
  have z1d : Fld Z z16 zd "java/lang/String" "coder" "B" (.int 0) := (((zn.keep zw nin0).keep z12 (ninS (nL (lL zh.lt (Nat.le_of_eq zs.symm))) nin0)).keep z18 (ninS (nL (lL zh.lt (Nat.le_of_eq zs.symm))) nin0))
  have z1e : Old Z n0 z16 := (((((F0.keep z6 all0).keep zk all0).keep zw all0).keep z12 (allS (lT (lT Z0 (zl.1)) (Nat.le_of_eq zs.symm)) all0)).keep z18 (allS (lT (lT Z0 (zl.1)) (Nat.le_of_eq zs.symm)) all0))
  refine Jvm.Q9.Aim.callC (argsL := [(.ref zr)]) (rest := [(.ref zd)]) z17 hx hZ hml hown rfl (wI hw 29 rfl) (wI hw 30 rfl) (wI hw 31 rfl) (by decide) (fun vm0 hZ => own_newStr (s := s.setVm vm0) (W := 1) hZ (by decide) (by decide) hw zd zr zq ([(nar .char ((p5 &&& (255 : Int32)).toUInt32.toUInt16.toUInt32.toInt32)), (nar .char ((p6 &&& (255 : Int32)).toUInt32.toUInt16.toUInt32.toInt32))] : List Int32) (2 : Int32) (.int 0) (.null) (.int 0) 2 z16 n0 (lT Z0 (z1a.1)) (lT (lT Z0 (za.1)) (Nat.le_of_eq ze.symm)) z1b z1c z1d z19 z1e rfl rfl (by decide) (by decide) (by intro c hc; simp only [List.mem_cons, List.not_mem_nil, or_false] at hc; rcases hc with rfl | rfl <;> exact own_c255 _) G) (fun _ _ ⟨_, _, _, q, _, _⟩ => q) (allS (Jvm.Q9.nl_new P0.ltL (lT (za.1) (Nat.le_of_eq ze.symm))) all0) rfl pd__28_5bC_29V rfl (Nat.le_of_eq rfl) (hb hby at_60) (by decide) (by decide) ?_
  intro z1f z1g z1h z1i z1j
  obtain ⟨t_1859, kb_1860, rfl, z1k, z1l, z1m⟩ := z1j
  have z1n : Keep h0 z1g [] := z1a.trans z1k (allS (Or.inr (lT (za.1) (Nat.le_of_eq ze.symm))) all0)
  have H := z1i.here
  refine Jvm.Q9.Aim.of (T' := z1f) (g' := (mkF m 74 #[.val (.int p1), .val (.int p2), .val (.int p3), .val (.int p4), .val (.int p5), .val (.int p6), .val (.int (p1 &&& (2147483647 : Int32))), .val (.int ((p3 &&& (3 : Int32)) % (3 : Int32))), .val (.int ((((p3.toUInt32 >>> ((2 : Int32) &&& 31).toUInt32).toInt32) &&& (3 : Int32)) % (3 : Int32))), .val (.ref x_1803), .val (.ref zd), .unset, .unset, .unset, .unset, .unset, .unset, .unset, .unset, .unset, .unset] [(.int ((((p4.toUInt32 >>> ((8 : Int32) &&& 31).toUInt32).toInt32) &&& (255 : Int32)).toUInt32.toUInt16.toUInt32.toInt32))])) (fun tgt kt => ?_) ?_
  · refine XS.astore H hx rfl (hb hby at_63) rfl rfl (l' := #[.val (.int p1), .val (.int p2), .val (.int p3), .val (.int p4), .val (.int p5), .val (.int p6), .val (.int (p1 &&& (2147483647 : Int32))), .val (.int ((p3 &&& (3 : Int32)) % (3 : Int32))), .val (.int ((((p3.toUInt32 >>> ((2 : Int32) &&& 31).toUInt32).toInt32) &&& (3 : Int32)) % (3 : Int32))), .val (.ref x_1803), .val (.ref zd), .unset, .unset, .unset, .unset, .unset, .unset, .unset, .unset, .unset, .unset]) rfl ?_
    refine XS.iloadN H hx rfl (hb hby at_65) rfl ?_
    refine XS.bipush H hx rfl (hb hby at_66) ?_
    refine XS.iushr H hx rfl (hb hby at_68) rfl ?_
    refine XS.sipush H hx rfl (hb hby at_69) ?_
    refine XS.iand H hx rfl (hb hby at_72) rfl ?_
    refine XS.i2c H hx rfl (hb hby at_73) rfl ?_
    exact kt
  have z1o : Old Z n0 z1g := (z1e.keep z1k (allS (lT (lT Z0 (za.1)) (Nat.le_of_eq ze.symm)) all0))
  refine Jvm.Q9.Aim.callS (argsL := [(.int ((((p4.toUInt32 >>> ((8 : Int32) &&& 31).toUInt32).toInt32) &&& (255 : Int32)).toUInt32.toUInt16.toUInt32.toInt32))]) (rest := []) z1i hx hZ hml hown (wI hw 1 rfl) (wI hw 2 rfl) (wI hw 3 rfl) (wI hw 4 rfl) (by decide) (fun vm0 hZ => Jvm.Y9.Con.back (s := s.setVm vm0) (W := 0) (own_valueOf l Z a0 hw ((((p4.toUInt32 >>> ((8 : Int32) &&& 31).toUInt32).toInt32) &&& (255 : Int32)).toUInt32.toUInt16.toUInt32.toInt32) z1g n0 (lT Z0 (z1n.1)) z1o (own_char _) G) hZ (wI hw 4 rfl) (wI hw 3 rfl) (by decide) (by decide)) (fun _ _ ⟨_, _, _, _, q, _, _, _⟩ => q) all0 rfl pd__28C_29Ljava_2flang_2fString_3b rfl (Nat.le_of_eq rfl) (hb hby at_74) (by decide) (by decide) ?_
  intro z1p z1q z1r z1s z1t
  obtain ⟨x_1873, t_1874, kb_1875, rfl, z1u, z1v, z1w, z1x⟩ := z1t
  have z1y : Keep h0 z1q [] := z1n.trans z1u all0
  have H := z1s.here
  refine Jvm.Q9.Aim.of (T' := z1p) (g' := (mkF m 79 #[.val (.int p1), .val (.int p2), .val (.int p3), .val (.int p4), .val (.int p5), .val (.int p6), .val (.int (p1 &&& (2147483647 : Int32))), .val (.int ((p3 &&& (3 : Int32)) % (3 : Int32))), .val (.int ((((p3.toUInt32 >>> ((2 : Int32) &&& 31).toUInt32).toInt32) &&& (3 : Int32)) % (3 : Int32))), .val (.ref x_1803), .val (.ref zd), .val (.ref x_1873), .unset, .unset, .unset, .unset, .unset, .unset, .unset, .unset, .unset] [])) (fun tgt kt => ?_) ?_
  · refine XS.astore H hx rfl (hb hby at_77) rfl rfl (l' := #[.val (.int p1), .val (.int p2), .val (.int p3), .val (.int p4), .val (.int p5), .val (.int p6), .val (.int (p1 &&& (2147483647 : Int32))), .val (.int ((p3 &&& (3 : Int32)) % (3 : Int32))), .val (.int ((((p3.toUInt32 >>> ((2 : Int32) &&& 31).toUInt32).toInt32) &&& (3 : Int32)) % (3 : Int32))), .val (.ref x_1803), .val (.ref zd), .val (.ref x_1873), .unset, .unset, .unset, .unset, .unset, .unset, .unset, .unset, .unset]) rfl ?_
    exact kt
  refine Jvm.Q9.Aim.newO z1s hx hZ hown (wI hw 45 rfl) (wI hw 46 rfl) (wI hw 47 rfl) (hb hby at_79) (by decide) (by decide) ?_
  intro z1z z20 z21 z22 z23 z24 z25 z26 z27
  have z28 : Keep z1q z20 [] := (Keep.refl _ _).ext z24
  have z29 : Keep h0 z20 [] := z1y.trans z28 all0
  have z2a : Fld Z z20 z21 "java/util/AbstractList" "modCount" "I" (.int 0) := z26 (Or.inl (wI hw 65 rfl)) (ty := .int) (by decide)
  have z2b : Fld Z z20 z21 "java/util/ArrayList" "elementData" "[Ljava/lang/Object;" .null := z26 (Or.inl (wI hw 68 rfl)) (ty := (.array (.object "java/lang/Object"))) (by decide)
  have z2c : Fld Z z20 z21 "java/util/ArrayList" "size" "I" (.int 0) := z26 (Or.inl (wI hw 77 rfl)) (ty := .int) (by decide)
  have H := z23.here
  refine Jvm.Q9.Aim.of (T' := z1z) (g' := (mkF m 83 #[.val (.int p1), .val (.int p2), .val (.int p3), .val (.int p4), .val (.int p5), .val (.int p6), .val (.int (p1 &&& (2147483647 : Int32))), .val (.int ((p3 &&& (3 : Int32)) % (3 : Int32))), .val (.int ((((p3.toUInt32 >>> ((2 : Int32) &&& 31).toUInt32).toInt32) &&& (3 : Int32)) % (3 : Int32))), .val (.ref x_1803), .val (.ref zd), .val (.ref x_1873), .unset, .unset, .unset, .unset, .unset, .unset, .unset, .unset, .unset] [(.ref z21), (.ref z21)])) (fun tgt kt => ?_) ?_
  · refine XS.dup H hx rfl (hb hby at_82) rfl rfl ?_
    exact kt
  have z2d : Old Z n0 z20 := ((z1o.keep z1u all0).keep z28 all0)
  refine Jvm.Q9.Aim.callC (argsL := []) (rest := [(.ref z21)]) z23 hx hZ hml hown rfl (wI hw 48 rfl) (wI hw 49 rfl) (wI hw 50 rfl) (by decide) (fun vm0 hZ => Jvm.Y9.Con.back (s := s.setVm vm0) (W := 1) (own_ali l Z a0 hw z21 (.null) (.int 0) dc kd z20 n0 (lT Z0 (z29.1)) (lT (lT Z0 (z1y.1)) (Nat.le_of_eq z22.symm)) z25 z2b z2c z2a z2d GA) hZ (wI hw 50 rfl) (wI hw 47 rfl) (by decide) (by decide)) (fun _ _ ⟨_, q, _, _, _, _⟩ => q) (allS (Jvm.Q9.nl_new P0.ltL (lT (z1y.1) (Nat.le_of_eq z22.symm))) all0) rfl pd__28_29V rfl (Nat.le_of_eq rfl) (hb hby at_83) (by decide) (by decide) ?_
  intro z2e z2f z2g z2h z2i
  obtain ⟨rfl, z2j, z2k, z2l, z2m, z2n⟩ := z2i
  have z2o : Keep h0 z2f [] := z29.trans z2j (allS (Or.inr (lT (z1y.1) (Nat.le_of_eq z22.symm))) all0)
  have H := z2h.here
  refine Jvm.Q9.Aim.of (T' := z2e) (g' := (mkF m 88 #[.val (.int p1), .val (.int p2), .val (.int p3), .val (.int p4), .val (.int p5), .val (.int p6), .val (.int (p1 &&& (2147483647 : Int32))), .val (.int ((p3 &&& (3 : Int32)) % (3 : Int32))), .val (.int ((((p3.toUInt32 >>> ((2 : Int32) &&& 31).toUInt32).toInt32) &&& (3 : Int32)) % (3 : Int32))), .val (.ref x_1803), .val (.ref zd), .val (.ref x_1873), .val (.ref z21), .unset, .unset, .unset, .unset, .unset, .unset, .unset, .unset] [])) (fun tgt kt => ?_) ?_
  · refine XS.astore H hx rfl (hb hby at_86) rfl rfl (l' := #[.val (.int p1), .val (.int p2), .val (.int p3), .val (.int p4), .val (.int p5), .val (.int p6), .val (.int (p1 &&& (2147483647 : Int32))), .val (.int ((p3 &&& (3 : Int32)) % (3 : Int32))), .val (.int ((((p3.toUInt32 >>> ((2 : Int32) &&& 31).toUInt32).toInt32) &&& (3 : Int32)) % (3 : Int32))), .val (.ref x_1803), .val (.ref zd), .val (.ref x_1873), .val (.ref z21), .unset, .unset, .unset, .unset, .unset, .unset, .unset, .unset]) rfl ?_
    exact kt
  refine Jvm.Q9.Aim.newO z2h hx hZ hown (wI hw 45 rfl) (wI hw 46 rfl) (wI hw 47 rfl) (hb hby at_88) (by decide) (by decide) ?_
  intro z2p z2q z2r z2s z2t z2u z2v z2w z2x
  have z2y : Keep z2f z2q [] := (Keep.refl _ _).ext z2u
  have z2z : Keep h0 z2q [] := z2o.trans z2y all0
  have z30 : Fld Z z2q z2r "java/util/AbstractList" "modCount" "I" (.int 0) := z2w (Or.inl (wI hw 65 rfl)) (ty := .int) (by decide)
  have z31 : Fld Z z2q z2r "java/util/ArrayList" "elementData" "[Ljava/lang/Object;" .null := z2w (Or.inl (wI hw 68 rfl)) (ty := (.array (.object "java/lang/Object"))) (by decide)
  have z32 : Fld Z z2q z2r "java/util/ArrayList" "size" "I" (.int 0) := z2w (Or.inl (wI hw 77 rfl)) (ty := .int) (by decide)
  have H := z2t.here
  refine Jvm.Q9.Aim.of (T' := z2p) (g' := (mkF m 92 #[.val (.int p1), .val (.int p2), .val (.int p3), .val (.int p4), .val (.int p5), .val (.int p6), .val (.int (p1 &&& (2147483647 : Int32))), .val (.int ((p3 &&& (3 : Int32)) % (3 : Int32))), .val (.int ((((p3.toUInt32 >>> ((2 : Int32) &&& 31).toUInt32).toInt32) &&& (3 : Int32)) % (3 : Int32))), .val (.ref x_1803), .val (.ref zd), .val (.ref x_1873), .val (.ref z21), .unset, .unset, .unset, .unset, .unset, .unset, .unset, .unset] [(.ref z2r), (.ref z2r)])) (fun tgt kt => ?_) ?_
  · refine XS.dup H hx rfl (hb hby at_91) rfl rfl ?_
    exact kt
  have z33 : Old Z n0 z2q := ((z2d.keep z2j (allS (lT (lT Z0 (z1y.1)) (Nat.le_of_eq z22.symm)) all0)).keep z2y all0)
  refine Jvm.Q9.Aim.callC (argsL := []) (rest := [(.ref z2r)]) z2t hx hZ hml hown rfl (wI hw 48 rfl) (wI hw 49 rfl) (wI hw 50 rfl) (by decide) (fun vm0 hZ => Jvm.Y9.Con.back (s := s.setVm vm0) (W := 1) (own_ali l Z a0 hw z2r (.null) (.int 0) dc kd z2q n0 (lT Z0 (z2z.1)) (lT (lT Z0 (z2o.1)) (Nat.le_of_eq z2s.symm)) z2v z31 z32 z30 z33 GA) hZ (wI hw 50 rfl) (wI hw 47 rfl) (by decide) (by decide)) (fun _ _ ⟨_, q, _, _, _, _⟩ => q) (allS (Jvm.Q9.nl_new P0.ltL (lT (z2o.1) (Nat.le_of_eq z2s.symm))) all0) rfl pd__28_29V rfl (Nat.le_of_eq rfl) (hb hby at_92) (by decide) (by decide) ?_
  intro z34 z35 z36 z37 z38
  obtain ⟨rfl, z39, z3a, z3b, z3c, z3d⟩ := z38
  have z3e : Keep h0 z35 [] := z2z.trans z39 (allS (Or.inr (lT (z2o.1) (Nat.le_of_eq z2s.symm))) all0)
  have H := z37.here
  refine Jvm.Q9.Aim.of (T' := z34) (g' := (mkF m 97 #[.val (.int p1), .val (.int p2), .val (.int p3), .val (.int p4), .val (.int p5), .val (.int p6), .val (.int (p1 &&& (2147483647 : Int32))), .val (.int ((p3 &&& (3 : Int32)) % (3 : Int32))), .val (.int ((((p3.toUInt32 >>> ((2 : Int32) &&& 31).toUInt32).toInt32) &&& (3 : Int32)) % (3 : Int32))), .val (.ref x_1803), .val (.ref zd), .val (.ref x_1873), .val (.ref z21), .val (.ref z2r), .unset, .unset, .unset, .unset, .unset, .unset, .unset] [])) (fun tgt kt => ?_) ?_
  · refine XS.astore H hx rfl (hb hby at_95) rfl rfl (l' := #[.val (.int p1), .val (.int p2), .val (.int p3), .val (.int p4), .val (.int p5), .val (.int p6), .val (.int (p1 &&& (2147483647 : Int32))), .val (.int ((p3 &&& (3 : Int32)) % (3 : Int32))), .val (.int ((((p3.toUInt32 >>> ((2 : Int32) &&& 31).toUInt32).toInt32) &&& (3 : Int32)) % (3 : Int32))), .val (.ref x_1803), .val (.ref zd), .val (.ref x_1873), .val (.ref z21), .val (.ref z2r), .unset, .unset, .unset, .unset, .unset, .unset, .unset]) rfl ?_
    exact kt
  rcases own_three p3 with hl97 | hl97 | hl97
  · rw [hl97]
    show Jvm.Q9.Aim p e below s _ _ n0 _ z34 (mkF m 97 #[.val (.int p1), .val (.int p2), .val (.int p3), .val (.int p4), .val (.int p5), .val (.int p6), .val (.int (p1 &&& (2147483647 : Int32))), .val (.int 0), .val (.int ((((p3.toUInt32 >>> ((2 : Int32) &&& 31).toUInt32).toInt32) &&& (3 : Int32)) % (3 : Int32))), .val (.ref x_1803), .val (.ref zd), .val (.ref x_1873), .val (.ref z21), .val (.ref z2r), .unset, .unset, .unset, .unset, .unset, .unset, .unset] [])
    have H := z37.here
    refine Jvm.Q9.Aim.of (T' := z34) (g' := (mkF m 125 #[.val (.int p1), .val (.int p2), .val (.int p3), .val (.int p4), .val (.int p5), .val (.int p6), .val (.int (p1 &&& (2147483647 : Int32))), .val (.int 0), .val (.int ((((p3.toUInt32 >>> ((2 : Int32) &&& 31).toUInt32).toInt32) &&& (3 : Int32)) % (3 : Int32))), .val (.ref x_1803), .val (.ref zd), .val (.ref x_1873), .val (.ref z21), .val (.ref z2r), .unset, .unset, .unset, .unset, .unset, .unset, .unset] [])) (fun tgt kt => ?_) ?_
    · refine XS.iload H hx rfl (hb hby at_97) rfl ?_
      refine XS.iconst H hx rfl (hb hby at_99) ?_
      refine XS.icmpYes H hx rfl (pc0 := 100) (pc' := 111) rfl (hb hby at_100) rfl (tlt (by decide)).1 (by decide) (by decide) ?_
      refine XS.iload H hx rfl (hb hby at_111) rfl ?_
      refine XS.iconst H hx rfl (hb hby at_113) ?_
      refine XS.icmpYes H hx rfl (pc0 := 114) (pc' := 125) rfl (hb hby at_114) rfl (tlt (by decide)).1 (by decide) (by decide) ?_
      exact kt
    rcases own_three ((p3.toUInt32 >>> ((2 : Int32) &&& 31).toUInt32).toInt32) with z3f | z3f | z3f
    · rw [z3f]
      show Jvm.Q9.Aim p e below s _ _ n0 _ z34 (mkF m 125 #[.val (.int p1), .val (.int p2), .val (.int p3), .val (.int p4), .val (.int p5), .val (.int p6), .val (.int (p1 &&& (2147483647 : Int32))), .val (.int 0), .val (.int 0), .val (.ref x_1803), .val (.ref zd), .val (.ref x_1873), .val (.ref z21), .val (.ref z2r), .unset, .unset, .unset, .unset, .unset, .unset, .unset] [])
      have H := z37.here
      refine Jvm.Q9.Aim.of (T' := z34) (g' := (mkF m 153 #[.val (.int p1), .val (.int p2), .val (.int p3), .val (.int p4), .val (.int p5), .val (.int p6), .val (.int (p1 &&& (2147483647 : Int32))), .val (.int 0), .val (.int 0), .val (.ref x_1803), .val (.ref zd), .val (.ref x_1873), .val (.ref z21), .val (.ref z2r), .unset, .unset, .unset, .unset, .unset, .unset, .unset] [])) (fun tgt kt => ?_) ?_
      · refine XS.iload H hx rfl (hb hby at_125) rfl ?_
        refine XS.iconst H hx rfl (hb hby at_127) ?_
        refine XS.icmpYes H hx rfl (pc0 := 128) (pc' := 139) rfl (hb hby at_128) rfl (tlt (by decide)).1 (by decide) (by decide) ?_
        refine XS.iload H hx rfl (hb hby at_139) rfl ?_
        refine XS.iconst H hx rfl (hb hby at_141) ?_
        refine XS.icmpYes H hx rfl (pc0 := 142) (pc' := 153) rfl (hb hby at_142) rfl (tlt (by decide)).1 (by decide) (by decide) ?_
        exact kt
      have z3g : Exa Z z35 z21 "java/util/ArrayList" := ((z2k.keep z2y).keep z39)
      have z3h : Fld Z z35 z21 "java/util/ArrayList" "elementData" "[Ljava/lang/Object;" (.ref dc) := ((z2l.keep z2y nin0).keep z39 (ninS (nL (lL (lL z25.lt (z2j.1)) (Nat.le_of_eq z2s.symm))) nin0))
      have z3i : Fld Z z35 z21 "java/util/ArrayList" "size" "I" (.int 0) := ((z2m.keep z2y nin0).keep z39 (ninS (nL (lL (lL z25.lt (z2j.1)) (Nat.le_of_eq z2s.symm))) nin0))
      have z3j : Arv Z z35 dc kd (.object "java/lang/Object") (0 : Int32) [] (.null) := (((((((((((z0.keep z6 nin0).keep zk nin0).keep zw nin0).keep z12 (ninS (nL (lL (lL z0.lt (zl.1)) (Nat.le_of_eq zs.symm))) nin0)).keep z18 (ninS (nL (lL (lL z0.lt (zl.1)) (Nat.le_of_eq zs.symm))) nin0)).keep z1k (ninS (nL (lL (lL z0.lt (za.1)) (Nat.le_of_eq ze.symm))) nin0)).keep z1u nin0).keep z28 nin0).keep z2j (ninS (nL (lL (lL z0.lt (z1y.1)) (Nat.le_of_eq z22.symm))) nin0)).keep z2y nin0).keep z39 (ninS (nL (lL (lL z0.lt (z2o.1)) (Nat.le_of_eq z2s.symm))) nin0))
      have z3k : Als Z z35 z21 dc kd (0 : Int32) x_1803 zd := ⟨z3g, z3h, z3i, z3j.lt, Or.inl rfl⟩
      have z3l : Als Z z35 z2r dc kd (0 : Int32) zd x_1873 := ⟨z3a, z3b, z3c, z3j.lt, Or.inl rfl⟩
      have z3m : Str Z z35 x_1803 t_1804 kb_1805 [((p4 &&& (255 : Int32)).toUInt32.toUInt16.toUInt32.toInt32)] := ((((((((((z9.keep zk nin0 nin0).keep zw nin0 nin0).keep z12 (ninS (nL (lL (lL z9.lt (zk.1)) (Nat.le_of_eq zs.symm))) nin0) (ninS (nL (lL (lL z9.ltb (zk.1)) (Nat.le_of_eq zs.symm))) nin0)).keep z18 (ninS (nL (lL (lL z9.lt (zk.1)) (Nat.le_of_eq zs.symm))) nin0) (ninS (nL (lL (lL z9.ltb (zk.1)) (Nat.le_of_eq zs.symm))) nin0)).keep z1k (ninS (nL (lL z9.lt (Nat.le_of_eq ze.symm))) nin0) (ninS (nL (lL z9.ltb (Nat.le_of_eq ze.symm))) nin0)).keep z1u nin0 nin0).keep z28 nin0 nin0).keep z2j (ninS (nL (lL (lL z9.lt (lT (lT (lT (lT (lT zk.1 zw.1) z12.1) z18.1) z1k.1) z1u.1)) (Nat.le_of_eq z22.symm))) nin0) (ninS (nL (lL (lL z9.ltb (lT (lT (lT (lT (lT zk.1 zw.1) z12.1) z18.1) z1k.1) z1u.1)) (Nat.le_of_eq z22.symm))) nin0)).keep z2y nin0 nin0).keep z39 (ninS (nL (lL (lL z9.lt (lT (lT (lT (lT (lT (lT (lT zk.1 zw.1) z12.1) z18.1) z1k.1) z1u.1) z28.1) z2j.1)) (Nat.le_of_eq z2s.symm))) nin0) (ninS (nL (lL (lL z9.ltb (lT (lT (lT (lT (lT (lT (lT zk.1 zw.1) z12.1) z18.1) z1k.1) z1u.1) z28.1) z2j.1)) (Nat.le_of_eq z2s.symm))) nin0))
      have z3n : Str Z z35 zd t_1859 kb_1860 ([(nar .char ((p5 &&& (255 : Int32)).toUInt32.toUInt16.toUInt32.toInt32)), (nar .char ((p6 &&& (255 : Int32)).toUInt32.toUInt16.toUInt32.toInt32))] : List Int32) := (((((z1m.keep z1u nin0 nin0).keep z28 nin0 nin0).keep z2j (ninS (nL (lL (lL zh.lt (lT (lT (lT (lT zw.1 z12.1) z18.1) z1k.1) z1u.1)) (Nat.le_of_eq z22.symm))) nin0) (ninS (nL (lL (lL z1m.ltb (z1u.1)) (Nat.le_of_eq z22.symm))) nin0)).keep z2y nin0 nin0).keep z39 (ninS (nL (lL (lL zh.lt (lT (lT (lT (lT (lT (lT zw.1 z12.1) z18.1) z1k.1) z1u.1) z28.1) z2j.1)) (Nat.le_of_eq z2s.symm))) nin0) (ninS (nL (lL (lL z1m.ltb (lT (lT z1u.1 z28.1) z2j.1)) (Nat.le_of_eq z2s.symm))) nin0))
      have z3o : Str Z z35 x_1873 t_1874 kb_1875 [((((p4.toUInt32 >>> ((8 : Int32) &&& 31).toUInt32).toInt32) &&& (255 : Int32)).toUInt32.toUInt16.toUInt32.toInt32)] := ((((z1x.keep z28 nin0 nin0).keep z2j (ninS (nL (lL z1x.lt (Nat.le_of_eq z22.symm))) nin0) (ninS (nL (lL z1x.ltb (Nat.le_of_eq z22.symm))) nin0)).keep z2y nin0 nin0).keep z39 (ninS (nL (lL (lL z1x.lt (lT z28.1 z2j.1)) (Nat.le_of_eq z2s.symm))) nin0) (ninS (nL (lL (lL z1x.ltb (lT z28.1 z2j.1)) (Nat.le_of_eq z2s.symm))) nin0))
      have z3p : Old Z n0 z35 := (z33.keep z39 (allS (lT (lT Z0 (z2o.1)) (Nat.le_of_eq z2s.symm)) all0))
      exact (own_p1 l Z a0 hw (.val (.int p1)) (.val (.int p3)) (.val (.int p4)) (.val (.int p5)) (.val (.int p6)) p2 (p1 &&& (2147483647 : Int32)) x_1803 t_1804 kb_1805 [((p4 &&& (255 : Int32)).toUInt32.toUInt16.toUInt32.toInt32)] zd t_1859 kb_1860 ([(nar .char ((p5 &&& (255 : Int32)).toUInt32.toUInt16.toUInt32.toInt32)), (nar .char ((p6 &&& (255 : Int32)).toUInt32.toUInt16.toUInt32.toInt32))] : List Int32) x_1873 t_1874 kb_1875 [((((p4.toUInt32 >>> ((8 : Int32) &&& 31).toUInt32).toInt32) &&& (255 : Int32)).toUInt32.toUInt16.toUInt32.toInt32)] z21 dc kd (0 : Int32) z2r dc kd (0 : Int32) dc kd el ee ke em z35 n0 (lT Z0 (z3e.1)) Lc0 z3m z3n z3o z3k z3l z3p (own_nneg p1) (by decide) (by decide) GA GE GM G GS GL GD hx hby hml hret hnm hown hlk hZ (z37.more (by decide) (by decide))).imp (fun vv hh it ⟨Lq, ⟨vq, kq⟩, aq, gq⟩ => ⟨Lq, ⟨vq, z3e.trans kq all0⟩, aq, (Jvm.Q9.Grow.refl _ _).trans gq (z3e.1)⟩)
    · rw [z3f]
      show Jvm.Q9.Aim p e below s _ _ n0 _ z34 (mkF m 125 #[.val (.int p1), .val (.int p2), .val (.int p3), .val (.int p4), .val (.int p5), .val (.int p6), .val (.int (p1 &&& (2147483647 : Int32))), .val (.int 0), .val (.int 1), .val (.ref x_1803), .val (.ref zd), .val (.ref x_1873), .val (.ref z21), .val (.ref z2r), .unset, .unset, .unset, .unset, .unset, .unset, .unset] [])
      have H := z37.here
      refine Jvm.Q9.Aim.of (T' := z34) (g' := (mkF m 135 #[.val (.int p1), .val (.int p2), .val (.int p3), .val (.int p4), .val (.int p5), .val (.int p6), .val (.int (p1 &&& (2147483647 : Int32))), .val (.int 0), .val (.int 1), .val (.ref x_1803), .val (.ref zd), .val (.ref x_1873), .val (.ref z21), .val (.ref z2r), .unset, .unset, .unset, .unset, .unset, .unset, .unset] [(.ref zd), (.ref z2r)])) (fun tgt kt => ?_) ?_
      · refine XS.iload H hx rfl (hb hby at_125) rfl ?_
        refine XS.iconst H hx rfl (hb hby at_127) ?_
        refine XS.icmpNo H hx rfl (hb hby at_128) rfl (flt (by decide)).1 ?_
        refine XS.aload H hx rfl (hb hby at_131) rfl rfl ?_
        refine XS.aload H hx rfl (hb hby at_133) rfl rfl ?_
        exact kt
      have z3q : Exa Z z35 zd "java/lang/String" := ((((((z1b.keep z1k).keep z1u).keep z28).keep z2j).keep z2y).keep z39)
      have z3r : Old Z n0 z35 := (z33.keep z39 (allS (lT (lT Z0 (z2o.1)) (Nat.le_of_eq z2s.symm)) all0))
      refine Jvm.Q9.Aim.callV (argsL := [(.ref zd)]) (rest := []) (y := (⟨"java/util/ArrayList", "add", "(Ljava/lang/Object;)Z"⟩ : MethodName)) (z := (⟨"java/util/ArrayList", "add", "(Ljava/lang/Object;)Z"⟩ : MethodName)) z37 hx hZ hml hown (wI hw 69 rfl) (wI hw 70 rfl) (fun vm0 hZ => notFace_of_selects (args := #[]) (mvT (s := s.setVm vm0) hZ (wI hw 72 rfl))) (wI hw 72 rfl) (wI hw 71 rfl) (by decide) z3a (fun vm0 hZ => Jvm.Y9.Con.back (s := s.setVm vm0) (W := 0) (own_add0 l Z a0 hw z2r zd (0 : Int32) dc kd z35 n0 (lT Z0 (z3e.1)) (lT (lT Z0 (z2o.1)) (Nat.le_of_eq z2s.symm)) z3a z3b z3c z3d z3q z3r GA) hZ (wI hw 73 rfl) (wI hw 47 rfl) (by decide) (by decide)) (fun _ _ ⟨_, _, _, q, _, _, _, _, _, _, _⟩ => q) (allS (Jvm.Q9.nl_new P0.ltL (lT (z2o.1) (Nat.le_of_eq z2s.symm))) all0) rfl pd__28Ljava_2flang_2fObject_3b_29Z rfl (Nat.le_of_eq rfl) (hb hby at_135) (by decide) (by decide) ?_
      intro z3s z3t z3u z3v z3w
      obtain ⟨t_1956, kk_1957, rfl, z3x, z3y, z3z, z40, z41, z42, z43, z44⟩ := z3w
      have z45 : Keep h0 z3t [] := z3e.trans z3x (allS (Or.inr (lT (z2o.1) (Nat.le_of_eq z2s.symm))) all0)
      have H := z3v.here
      refine Jvm.Q9.Aim.of (T' := z3s) (g' := (mkF m 153 #[.val (.int p1), .val (.int p2), .val (.int p3), .val (.int p4), .val (.int p5), .val (.int p6), .val (.int (p1 &&& (2147483647 : Int32))), .val (.int 0), .val (.int 1), .val (.ref x_1803), .val (.ref zd), .val (.ref x_1873), .val (.ref z21), .val (.ref z2r), .unset, .unset, .unset, .unset, .unset, .unset, .unset] [])) (fun tgt kt => ?_) ?_
      · refine XS.pop H hx rfl (hb hby at_138) rfl rfl ?_
        refine XS.iload H hx rfl (hb hby at_139) rfl ?_
        refine XS.iconst H hx rfl (hb hby at_141) ?_
        refine XS.icmpYes H hx rfl (pc0 := 142) (pc' := 153) rfl (hb hby at_142) rfl (tlt (by decide)).1 (by decide) (by decide) ?_
        exact kt
      have z46 : Exa Z z3t z21 "java/util/ArrayList" := (((z2k.keep z2y).keep z39).keep z3x)
      have z47 : Fld Z z3t z21 "java/util/ArrayList" "elementData" "[Ljava/lang/Object;" (.ref dc) := (((z2l.keep z2y nin0).keep z39 (ninS (nL (lL (lL z25.lt (z2j.1)) (Nat.le_of_eq z2s.symm))) nin0)).keep z3x (ninS (nL (lL (lL z25.lt (z2j.1)) (Nat.le_of_eq z2s.symm))) nin0))
      have z48 : Fld Z z3t z21 "java/util/ArrayList" "size" "I" (.int 0) := (((z2m.keep z2y nin0).keep z39 (ninS (nL (lL (lL z25.lt (z2j.1)) (Nat.le_of_eq z2s.symm))) nin0)).keep z3x (ninS (nL (lL (lL z25.lt (z2j.1)) (Nat.le_of_eq z2s.symm))) nin0))
      have z49 : Arv Z z3t dc kd (.object "java/lang/Object") (0 : Int32) [] (.null) := ((((((((((((z0.keep z6 nin0).keep zk nin0).keep zw nin0).keep z12 (ninS (nL (lL (lL z0.lt (zl.1)) (Nat.le_of_eq zs.symm))) nin0)).keep z18 (ninS (nL (lL (lL z0.lt (zl.1)) (Nat.le_of_eq zs.symm))) nin0)).keep z1k (ninS (nL (lL (lL z0.lt (za.1)) (Nat.le_of_eq ze.symm))) nin0)).keep z1u nin0).keep z28 nin0).keep z2j (ninS (nL (lL (lL z0.lt (z1y.1)) (Nat.le_of_eq z22.symm))) nin0)).keep z2y nin0).keep z39 (ninS (nL (lL (lL z0.lt (z2o.1)) (Nat.le_of_eq z2s.symm))) nin0)).keep z3x (ninS (nL (lL (lL z0.lt (z2o.1)) (Nat.le_of_eq z2s.symm))) nin0))
      have z4a : Als Z z3t z21 dc kd (0 : Int32) x_1803 zd := ⟨z46, z47, z48, z49.lt, Or.inl rfl⟩
      have z4b : Als Z z3t z2r t_1956 kk_1957 (1 : Int32) zd x_1873 := ⟨z3z, z40, z41, z43.lt, Or.inr ⟨_, z43, rfl, Or.inl rfl⟩⟩
      have z4c : Str Z z3t x_1803 t_1804 kb_1805 [((p4 &&& (255 : Int32)).toUInt32.toUInt16.toUInt32.toInt32)] := (((((((((((z9.keep zk nin0 nin0).keep zw nin0 nin0).keep z12 (ninS (nL (lL (lL z9.lt (zk.1)) (Nat.le_of_eq zs.symm))) nin0) (ninS (nL (lL (lL z9.ltb (zk.1)) (Nat.le_of_eq zs.symm))) nin0)).keep z18 (ninS (nL (lL (lL z9.lt (zk.1)) (Nat.le_of_eq zs.symm))) nin0) (ninS (nL (lL (lL z9.ltb (zk.1)) (Nat.le_of_eq zs.symm))) nin0)).keep z1k (ninS (nL (lL z9.lt (Nat.le_of_eq ze.symm))) nin0) (ninS (nL (lL z9.ltb (Nat.le_of_eq ze.symm))) nin0)).keep z1u nin0 nin0).keep z28 nin0 nin0).keep z2j (ninS (nL (lL (lL z9.lt (lT (lT (lT (lT (lT zk.1 zw.1) z12.1) z18.1) z1k.1) z1u.1)) (Nat.le_of_eq z22.symm))) nin0) (ninS (nL (lL (lL z9.ltb (lT (lT (lT (lT (lT zk.1 zw.1) z12.1) z18.1) z1k.1) z1u.1)) (Nat.le_of_eq z22.symm))) nin0)).keep z2y nin0 nin0).keep z39 (ninS (nL (lL (lL z9.lt (lT (lT (lT (lT (lT (lT (lT zk.1 zw.1) z12.1) z18.1) z1k.1) z1u.1) z28.1) z2j.1)) (Nat.le_of_eq z2s.symm))) nin0) (ninS (nL (lL (lL z9.ltb (lT (lT (lT (lT (lT (lT (lT zk.1 zw.1) z12.1) z18.1) z1k.1) z1u.1) z28.1) z2j.1)) (Nat.le_of_eq z2s.symm))) nin0)).keep z3x (ninS (nL (lL (lL z9.lt (lT (lT (lT (lT (lT (lT (lT zk.1 zw.1) z12.1) z18.1) z1k.1) z1u.1) z28.1) z2j.1)) (Nat.le_of_eq z2s.symm))) nin0) (ninS (nL (lL (lL z9.ltb (lT (lT (lT (lT (lT (lT (lT zk.1 zw.1) z12.1) z18.1) z1k.1) z1u.1) z28.1) z2j.1)) (Nat.le_of_eq z2s.symm))) nin0))
      have z4d : Str Z z3t zd t_1859 kb_1860 ([(nar .char ((p5 &&& (255 : Int32)).toUInt32.toUInt16.toUInt32.toInt32)), (nar .char ((p6 &&& (255 : Int32)).toUInt32.toUInt16.toUInt32.toInt32))] : List Int32) := ((((((z1m.keep z1u nin0 nin0).keep z28 nin0 nin0).keep z2j (ninS (nL (lL (lL zh.lt (lT (lT (lT (lT zw.1 z12.1) z18.1) z1k.1) z1u.1)) (Nat.le_of_eq z22.symm))) nin0) (ninS (nL (lL (lL z1m.ltb (z1u.1)) (Nat.le_of_eq z22.symm))) nin0)).keep z2y nin0 nin0).keep z39 (ninS (nL (lL (lL zh.lt (lT (lT (lT (lT (lT (lT zw.1 z12.1) z18.1) z1k.1) z1u.1) z28.1) z2j.1)) (Nat.le_of_eq z2s.symm))) nin0) (ninS (nL (lL (lL z1m.ltb (lT (lT z1u.1 z28.1) z2j.1)) (Nat.le_of_eq z2s.symm))) nin0)).keep z3x (ninS (nL (lL (lL zh.lt (lT (lT (lT (lT (lT (lT zw.1 z12.1) z18.1) z1k.1) z1u.1) z28.1) z2j.1)) (Nat.le_of_eq z2s.symm))) nin0) (ninS (nL (lL (lL z1m.ltb (lT (lT z1u.1 z28.1) z2j.1)) (Nat.le_of_eq z2s.symm))) nin0))
      have z4e : Str Z z3t x_1873 t_1874 kb_1875 [((((p4.toUInt32 >>> ((8 : Int32) &&& 31).toUInt32).toInt32) &&& (255 : Int32)).toUInt32.toUInt16.toUInt32.toInt32)] := (((((z1x.keep z28 nin0 nin0).keep z2j (ninS (nL (lL z1x.lt (Nat.le_of_eq z22.symm))) nin0) (ninS (nL (lL z1x.ltb (Nat.le_of_eq z22.symm))) nin0)).keep z2y nin0 nin0).keep z39 (ninS (nL (lL (lL z1x.lt (lT z28.1 z2j.1)) (Nat.le_of_eq z2s.symm))) nin0) (ninS (nL (lL (lL z1x.ltb (lT z28.1 z2j.1)) (Nat.le_of_eq z2s.symm))) nin0)).keep z3x (ninS (nL (lL (lL z1x.lt (lT z28.1 z2j.1)) (Nat.le_of_eq z2s.symm))) nin0) (ninS (nL (lL (lL z1x.ltb (lT z28.1 z2j.1)) (Nat.le_of_eq z2s.symm))) nin0))
      have z4f : Old Z n0 z3t := (z3r.keep z3x (allS (lT (lT Z0 (z2o.1)) (Nat.le_of_eq z2s.symm)) all0))
      exact (own_p1 l Z a0 hw (.val (.int p1)) (.val (.int p3)) (.val (.int p4)) (.val (.int p5)) (.val (.int p6)) p2 (p1 &&& (2147483647 : Int32)) x_1803 t_1804 kb_1805 [((p4 &&& (255 : Int32)).toUInt32.toUInt16.toUInt32.toInt32)] zd t_1859 kb_1860 ([(nar .char ((p5 &&& (255 : Int32)).toUInt32.toUInt16.toUInt32.toInt32)), (nar .char ((p6 &&& (255 : Int32)).toUInt32.toUInt16.toUInt32.toInt32))] : List Int32) x_1873 t_1874 kb_1875 [((((p4.toUInt32 >>> ((8 : Int32) &&& 31).toUInt32).toInt32) &&& (255 : Int32)).toUInt32.toUInt16.toUInt32.toInt32)] z21 dc kd (0 : Int32) z2r t_1956 kk_1957 (1 : Int32) dc kd el ee ke em z3t n0 (lT Z0 (z45.1)) Lc0 z4c z4d z4e z4a z4b z4f (own_nneg p1) (by decide) (by decide) GA GE GM G GS GL GD hx hby hml hret hnm hown hlk hZ (z3v.more (by decide) (by decide))).imp (fun vv hh it ⟨Lq, ⟨vq, kq⟩, aq, gq⟩ => ⟨Lq, ⟨vq, z45.trans kq all0⟩, aq, (Jvm.Q9.Grow.refl _ _).trans gq (z45.1)⟩)
    · rw [z3f]
      show Jvm.Q9.Aim p e below s _ _ n0 _ z34 (mkF m 125 #[.val (.int p1), .val (.int p2), .val (.int p3), .val (.int p4), .val (.int p5), .val (.int p6), .val (.int (p1 &&& (2147483647 : Int32))), .val (.int 0), .val (.int 2), .val (.ref x_1803), .val (.ref zd), .val (.ref x_1873), .val (.ref z21), .val (.ref z2r), .unset, .unset, .unset, .unset, .unset, .unset, .unset] [])
      have H := z37.here
      refine Jvm.Q9.Aim.of (T' := z34) (g' := (mkF m 135 #[.val (.int p1), .val (.int p2), .val (.int p3), .val (.int p4), .val (.int p5), .val (.int p6), .val (.int (p1 &&& (2147483647 : Int32))), .val (.int 0), .val (.int 2), .val (.ref x_1803), .val (.ref zd), .val (.ref x_1873), .val (.ref z21), .val (.ref z2r), .unset, .unset, .unset, .unset, .unset, .unset, .unset] [(.ref zd), (.ref z2r)])) (fun tgt kt => ?_) ?_
      · refine XS.iload H hx rfl (hb hby at_125) rfl ?_
        refine XS.iconst H hx rfl (hb hby at_127) ?_
        refine XS.icmpNo H hx rfl (hb hby at_128) rfl (flt (by decide)).1 ?_
        refine XS.aload H hx rfl (hb hby at_131) rfl rfl ?_
        refine XS.aload H hx rfl (hb hby at_133) rfl rfl ?_
        exact kt
      have z4g : Exa Z z35 zd "java/lang/String" := ((((((z1b.keep z1k).keep z1u).keep z28).keep z2j).keep z2y).keep z39)
      have z4h : Old Z n0 z35 := (z33.keep z39 (allS (lT (lT Z0 (z2o.1)) (Nat.le_of_eq z2s.symm)) all0))
      refine Jvm.Q9.Aim.callV (argsL := [(.ref zd)]) (rest := []) (y := (⟨"java/util/ArrayList", "add", "(Ljava/lang/Object;)Z"⟩ : MethodName)) (z := (⟨"java/util/ArrayList", "add", "(Ljava/lang/Object;)Z"⟩ : MethodName)) z37 hx hZ hml hown (wI hw 69 rfl) (wI hw 70 rfl) (fun vm0 hZ => notFace_of_selects (args := #[]) (mvT (s := s.setVm vm0) hZ (wI hw 72 rfl))) (wI hw 72 rfl) (wI hw 71 rfl) (by decide) z3a (fun vm0 hZ => Jvm.Y9.Con.back (s := s.setVm vm0) (W := 0) (own_add0 l Z a0 hw z2r zd (0 : Int32) dc kd z35 n0 (lT Z0 (z3e.1)) (lT (lT Z0 (z2o.1)) (Nat.le_of_eq z2s.symm)) z3a z3b z3c z3d z4g z4h GA) hZ (wI hw 73 rfl) (wI hw 47 rfl) (by decide) (by decide)) (fun _ _ ⟨_, _, _, q, _, _, _, _, _, _, _⟩ => q) (allS (Jvm.Q9.nl_new P0.ltL (lT (z2o.1) (Nat.le_of_eq z2s.symm))) all0) rfl pd__28Ljava_2flang_2fObject_3b_29Z rfl (Nat.le_of_eq rfl) (hb hby at_135) (by decide) (by decide) ?_
      intro z4i z4j z4k z4l z4m
      obtain ⟨t_1986, kk_1987, rfl, z4n, z4o, z4p, z4q, z4r, z4s, z4t, z4u⟩ := z4m
      have z4v : Keep h0 z4j [] := z3e.trans z4n (allS (Or.inr (lT (z2o.1) (Nat.le_of_eq z2s.symm))) all0)
      have H := z4l.here
      refine Jvm.Q9.Aim.of (T' := z4i) (g' := (mkF m 149 #[.val (.int p1), .val (.int p2), .val (.int p3), .val (.int p4), .val (.int p5), .val (.int p6), .val (.int (p1 &&& (2147483647 : Int32))), .val (.int 0), .val (.int 2), .val (.ref x_1803), .val (.ref zd), .val (.ref x_1873), .val (.ref z21), .val (.ref z2r), .unset, .unset, .unset, .unset, .unset, .unset, .unset] [(.ref x_1873), (.ref z2r)])) (fun tgt kt => ?_) ?_
      · refine XS.pop H hx rfl (hb hby at_138) rfl rfl ?_
        refine XS.iload H hx rfl (hb hby at_139) rfl ?_
        refine XS.iconst H hx rfl (hb hby at_141) ?_
        refine XS.icmpNo H hx rfl (hb hby at_142) rfl (flt (by decide)).1 ?_
        refine XS.aload H hx rfl (hb hby at_145) rfl rfl ?_
        refine XS.aload H hx rfl (hb hby at_147) rfl rfl ?_
        exact kt
      have z4w : Exa Z z4j x_1873 "java/lang/String" := (((((z1x.1.keep z28).keep z2j).keep z2y).keep z39).keep z4n)
      have z4x : Old Z n0 z4j := (z4h.keep z4n (allS (lT (lT Z0 (z2o.1)) (Nat.le_of_eq z2s.symm)) all0))
      refine Jvm.Q9.Aim.callV (argsL := [(.ref x_1873)]) (rest := []) (y := (⟨"java/util/ArrayList", "add", "(Ljava/lang/Object;)Z"⟩ : MethodName)) (z := (⟨"java/util/ArrayList", "add", "(Ljava/lang/Object;)Z"⟩ : MethodName)) z4l hx hZ hml hown (wI hw 69 rfl) (wI hw 70 rfl) (fun vm0 hZ => notFace_of_selects (args := #[]) (mvT (s := s.setVm vm0) hZ (wI hw 72 rfl))) (wI hw 72 rfl) (wI hw 71 rfl) (by decide) z4p (fun vm0 hZ => Jvm.Y9.Con.back (s := s.setVm vm0) (W := 0) (own_add1 l Z a0 hw z2r zd x_1873 ((0 : Int32) + (1 : Int32)) t_1986 kk_1987 z4j n0 (lT Z0 (z4v.1)) (lT (lT Z0 (z2o.1)) (Nat.le_of_eq z2s.symm)) (lT (lT Z0 (z3e.1)) z4o) z4p z4q z4r z4s z4t z4w z4x z4u (nL (lL (lL z2v.lt (z39.1)) z4o))) hZ (wI hw 73 rfl) (wI hw 47 rfl) (by decide) (by decide)) (fun _ _ ⟨_, q, _, _, _, _, _⟩ => q) (allS (Jvm.Q9.nl_new P0.ltL (lT (z2o.1) (Nat.le_of_eq z2s.symm))) (allS (Jvm.Q9.nl_new P0.ltL (lT (z3e.1) z4o)) all0)) rfl pd__28Ljava_2flang_2fObject_3b_29Z rfl (Nat.le_of_eq rfl) (hb hby at_149) (by decide) (by decide) ?_
      intro z4y z4z z50 z51 z52
      obtain ⟨rfl, z53, z54, z55, z56, z57, z58⟩ := z52
      have z59 : Keep h0 z4z [] := z4v.trans z53 (allS (Or.inr (lT (z2o.1) (Nat.le_of_eq z2s.symm))) (allS (Or.inr (lT (z3e.1) z4o)) all0))
      have H := z51.here
      refine Jvm.Q9.Aim.of (T' := z4y) (g' := (mkF m 153 #[.val (.int p1), .val (.int p2), .val (.int p3), .val (.int p4), .val (.int p5), .val (.int p6), .val (.int (p1 &&& (2147483647 : Int32))), .val (.int 0), .val (.int 2), .val (.ref x_1803), .val (.ref zd), .val (.ref x_1873), .val (.ref z21), .val (.ref z2r), .unset, .unset, .unset, .unset, .unset, .unset, .unset] [])) (fun tgt kt => ?_) ?_
      · refine XS.pop H hx rfl (hb hby at_152) rfl rfl ?_
        exact kt
      have z5a : Exa Z z4z z21 "java/util/ArrayList" := ((((z2k.keep z2y).keep z39).keep z4n).keep z53)
      have z5b : Fld Z z4z z21 "java/util/ArrayList" "elementData" "[Ljava/lang/Object;" (.ref dc) := ((((z2l.keep z2y nin0).keep z39 (ninS (nL (lL (lL z25.lt (z2j.1)) (Nat.le_of_eq z2s.symm))) nin0)).keep z4n (ninS (nL (lL (lL z25.lt (z2j.1)) (Nat.le_of_eq z2s.symm))) nin0)).keep z53 (ninS (nL (lL (lL z25.lt (z2j.1)) (Nat.le_of_eq z2s.symm))) (ninS (nL (lL (lL z25.lt (lT (lT z2j.1 z2y.1) z39.1)) z4o)) nin0)))
      have z5c : Fld Z z4z z21 "java/util/ArrayList" "size" "I" (.int 0) := ((((z2m.keep z2y nin0).keep z39 (ninS (nL (lL (lL z25.lt (z2j.1)) (Nat.le_of_eq z2s.symm))) nin0)).keep z4n (ninS (nL (lL (lL z25.lt (z2j.1)) (Nat.le_of_eq z2s.symm))) nin0)).keep z53 (ninS (nL (lL (lL z25.lt (z2j.1)) (Nat.le_of_eq z2s.symm))) (ninS (nL (lL (lL z25.lt (lT (lT z2j.1 z2y.1) z39.1)) z4o)) nin0)))
      have z5d : Arv Z z4z dc kd (.object "java/lang/Object") (0 : Int32) [] (.null) := (((((((((((((z0.keep z6 nin0).keep zk nin0).keep zw nin0).keep z12 (ninS (nL (lL (lL z0.lt (zl.1)) (Nat.le_of_eq zs.symm))) nin0)).keep z18 (ninS (nL (lL (lL z0.lt (zl.1)) (Nat.le_of_eq zs.symm))) nin0)).keep z1k (ninS (nL (lL (lL z0.lt (za.1)) (Nat.le_of_eq ze.symm))) nin0)).keep z1u nin0).keep z28 nin0).keep z2j (ninS (nL (lL (lL z0.lt (z1y.1)) (Nat.le_of_eq z22.symm))) nin0)).keep z2y nin0).keep z39 (ninS (nL (lL (lL z0.lt (z2o.1)) (Nat.le_of_eq z2s.symm))) nin0)).keep z4n (ninS (nL (lL (lL z0.lt (z2o.1)) (Nat.le_of_eq z2s.symm))) nin0)).keep z53 (ninS (nL (lL (lL z0.lt (z2o.1)) (Nat.le_of_eq z2s.symm))) (ninS (nL (lL (lL z0.lt (z3e.1)) z4o)) nin0)))
      have z5e : Als Z z4z z21 dc kd (0 : Int32) x_1803 zd := ⟨z5a, z5b, z5c, z5d.lt, Or.inl rfl⟩
      have z5f : Als Z z4z z2r t_1986 kk_1987 (2 : Int32) zd x_1873 := ⟨z54, z55, z56, z58.lt, Or.inr ⟨_, z58, rfl, Or.inr ⟨rfl, rfl⟩⟩⟩
      have z5g : Str Z z4z x_1803 t_1804 kb_1805 [((p4 &&& (255 : Int32)).toUInt32.toUInt16.toUInt32.toInt32)] := ((((((((((((z9.keep zk nin0 nin0).keep zw nin0 nin0).keep z12 (ninS (nL (lL (lL z9.lt (zk.1)) (Nat.le_of_eq zs.symm))) nin0) (ninS (nL (lL (lL z9.ltb (zk.1)) (Nat.le_of_eq zs.symm))) nin0)).keep z18 (ninS (nL (lL (lL z9.lt (zk.1)) (Nat.le_of_eq zs.symm))) nin0) (ninS (nL (lL (lL z9.ltb (zk.1)) (Nat.le_of_eq zs.symm))) nin0)).keep z1k (ninS (nL (lL z9.lt (Nat.le_of_eq ze.symm))) nin0) (ninS (nL (lL z9.ltb (Nat.le_of_eq ze.symm))) nin0)).keep z1u nin0 nin0).keep z28 nin0 nin0).keep z2j (ninS (nL (lL (lL z9.lt (lT (lT (lT (lT (lT zk.1 zw.1) z12.1) z18.1) z1k.1) z1u.1)) (Nat.le_of_eq z22.symm))) nin0) (ninS (nL (lL (lL z9.ltb (lT (lT (lT (lT (lT zk.1 zw.1) z12.1) z18.1) z1k.1) z1u.1)) (Nat.le_of_eq z22.symm))) nin0)).keep z2y nin0 nin0).keep z39 (ninS (nL (lL (lL z9.lt (lT (lT (lT (lT (lT (lT (lT zk.1 zw.1) z12.1) z18.1) z1k.1) z1u.1) z28.1) z2j.1)) (Nat.le_of_eq z2s.symm))) nin0) (ninS (nL (lL (lL z9.ltb (lT (lT (lT (lT (lT (lT (lT zk.1 zw.1) z12.1) z18.1) z1k.1) z1u.1) z28.1) z2j.1)) (Nat.le_of_eq z2s.symm))) nin0)).keep z4n (ninS (nL (lL (lL z9.lt (lT (lT (lT (lT (lT (lT (lT zk.1 zw.1) z12.1) z18.1) z1k.1) z1u.1) z28.1) z2j.1)) (Nat.le_of_eq z2s.symm))) nin0) (ninS (nL (lL (lL z9.ltb (lT (lT (lT (lT (lT (lT (lT zk.1 zw.1) z12.1) z18.1) z1k.1) z1u.1) z28.1) z2j.1)) (Nat.le_of_eq z2s.symm))) nin0)).keep z53 (ninS (nL (lL (lL z9.lt (lT (lT (lT (lT (lT (lT (lT zk.1 zw.1) z12.1) z18.1) z1k.1) z1u.1) z28.1) z2j.1)) (Nat.le_of_eq z2s.symm))) (ninS (nL (lL (lL z9.lt (lT (lT (lT (lT (lT (lT (lT (lT (lT zk.1 zw.1) z12.1) z18.1) z1k.1) z1u.1) z28.1) z2j.1) z2y.1) z39.1)) z4o)) nin0)) (ninS (nL (lL (lL z9.ltb (lT (lT (lT (lT (lT (lT (lT zk.1 zw.1) z12.1) z18.1) z1k.1) z1u.1) z28.1) z2j.1)) (Nat.le_of_eq z2s.symm))) (ninS (nL (lL (lL z9.ltb (lT (lT (lT (lT (lT (lT (lT (lT (lT zk.1 zw.1) z12.1) z18.1) z1k.1) z1u.1) z28.1) z2j.1) z2y.1) z39.1)) z4o)) nin0)))
      have z5h : Str Z z4z zd t_1859 kb_1860 ([(nar .char ((p5 &&& (255 : Int32)).toUInt32.toUInt16.toUInt32.toInt32)), (nar .char ((p6 &&& (255 : Int32)).toUInt32.toUInt16.toUInt32.toInt32))] : List Int32) := (((((((z1m.keep z1u nin0 nin0).keep z28 nin0 nin0).keep z2j (ninS (nL (lL (lL zh.lt (lT (lT (lT (lT zw.1 z12.1) z18.1) z1k.1) z1u.1)) (Nat.le_of_eq z22.symm))) nin0) (ninS (nL (lL (lL z1m.ltb (z1u.1)) (Nat.le_of_eq z22.symm))) nin0)).keep z2y nin0 nin0).keep z39 (ninS (nL (lL (lL zh.lt (lT (lT (lT (lT (lT (lT zw.1 z12.1) z18.1) z1k.1) z1u.1) z28.1) z2j.1)) (Nat.le_of_eq z2s.symm))) nin0) (ninS (nL (lL (lL z1m.ltb (lT (lT z1u.1 z28.1) z2j.1)) (Nat.le_of_eq z2s.symm))) nin0)).keep z4n (ninS (nL (lL (lL zh.lt (lT (lT (lT (lT (lT (lT zw.1 z12.1) z18.1) z1k.1) z1u.1) z28.1) z2j.1)) (Nat.le_of_eq z2s.symm))) nin0) (ninS (nL (lL (lL z1m.ltb (lT (lT z1u.1 z28.1) z2j.1)) (Nat.le_of_eq z2s.symm))) nin0)).keep z53 (ninS (nL (lL (lL zh.lt (lT (lT (lT (lT (lT (lT zw.1 z12.1) z18.1) z1k.1) z1u.1) z28.1) z2j.1)) (Nat.le_of_eq z2s.symm))) (ninS (nL (lL (lL zh.lt (lT (lT (lT (lT (lT (lT (lT (lT zw.1 z12.1) z18.1) z1k.1) z1u.1) z28.1) z2j.1) z2y.1) z39.1)) z4o)) nin0)) (ninS (nL (lL (lL z1m.ltb (lT (lT z1u.1 z28.1) z2j.1)) (Nat.le_of_eq z2s.symm))) (ninS (nL (lL (lL z1m.ltb (lT (lT (lT (lT z1u.1 z28.1) z2j.1) z2y.1) z39.1)) z4o)) nin0)))
      have z5i : Str Z z4z x_1873 t_1874 kb_1875 [((((p4.toUInt32 >>> ((8 : Int32) &&& 31).toUInt32).toInt32) &&& (255 : Int32)).toUInt32.toUInt16.toUInt32.toInt32)] := ((((((z1x.keep z28 nin0 nin0).keep z2j (ninS (nL (lL z1x.lt (Nat.le_of_eq z22.symm))) nin0) (ninS (nL (lL z1x.ltb (Nat.le_of_eq z22.symm))) nin0)).keep z2y nin0 nin0).keep z39 (ninS (nL (lL (lL z1x.lt (lT z28.1 z2j.1)) (Nat.le_of_eq z2s.symm))) nin0) (ninS (nL (lL (lL z1x.ltb (lT z28.1 z2j.1)) (Nat.le_of_eq z2s.symm))) nin0)).keep z4n (ninS (nL (lL (lL z1x.lt (lT z28.1 z2j.1)) (Nat.le_of_eq z2s.symm))) nin0) (ninS (nL (lL (lL z1x.ltb (lT z28.1 z2j.1)) (Nat.le_of_eq z2s.symm))) nin0)).keep z53 (ninS (nL (lL (lL z1x.lt (lT z28.1 z2j.1)) (Nat.le_of_eq z2s.symm))) (ninS (nL (lL (lL z1x.lt (lT (lT (lT z28.1 z2j.1) z2y.1) z39.1)) z4o)) nin0)) (ninS (nL (lL (lL z1x.ltb (lT z28.1 z2j.1)) (Nat.le_of_eq z2s.symm))) (ninS (nL (lL (lL z1x.ltb (lT (lT (lT z28.1 z2j.1) z2y.1) z39.1)) z4o)) nin0)))
      have z5j : Old Z n0 z4z := (z4x.keep z53 (allS (lT (lT Z0 (z2o.1)) (Nat.le_of_eq z2s.symm)) (allS (lT (lT Z0 (z3e.1)) z4o) all0)))
      exact (own_p1 l Z a0 hw (.val (.int p1)) (.val (.int p3)) (.val (.int p4)) (.val (.int p5)) (.val (.int p6)) p2 (p1 &&& (2147483647 : Int32)) x_1803 t_1804 kb_1805 [((p4 &&& (255 : Int32)).toUInt32.toUInt16.toUInt32.toInt32)] zd t_1859 kb_1860 ([(nar .char ((p5 &&& (255 : Int32)).toUInt32.toUInt16.toUInt32.toInt32)), (nar .char ((p6 &&& (255 : Int32)).toUInt32.toUInt16.toUInt32.toInt32))] : List Int32) x_1873 t_1874 kb_1875 [((((p4.toUInt32 >>> ((8 : Int32) &&& 31).toUInt32).toInt32) &&& (255 : Int32)).toUInt32.toUInt16.toUInt32.toInt32)] z21 dc kd (0 : Int32) z2r t_1986 kk_1987 (2 : Int32) dc kd el ee ke em z4z n0 (lT Z0 (z59.1)) Lc0 z5g z5h z5i z5e z5f z5j (own_nneg p1) (by decide) (by decide) GA GE GM G GS GL GD hx hby hml hret hnm hown hlk hZ (z51.more (by decide) (by decide))).imp (fun vv hh it ⟨Lq, ⟨vq, kq⟩, aq, gq⟩ => ⟨Lq, ⟨vq, z59.trans kq all0⟩, aq, (Jvm.Q9.Grow.refl _ _).trans gq (z59.1)⟩)
  · rw [hl97]
    show Jvm.Q9.Aim p e below s _ _ n0 _ z34 (mkF m 97 #[.val (.int p1), .val (.int p2), .val (.int p3), .val (.int p4), .val (.int p5), .val (.int p6), .val (.int (p1 &&& (2147483647 : Int32))), .val (.int 1), .val (.int ((((p3.toUInt32 >>> ((2 : Int32) &&& 31).toUInt32).toInt32) &&& (3 : Int32)) % (3 : Int32))), .val (.ref x_1803), .val (.ref zd), .val (.ref x_1873), .val (.ref z21), .val (.ref z2r), .unset, .unset, .unset, .unset, .unset, .unset, .unset] [])
    have H := z37.here
    refine Jvm.Q9.Aim.of (T' := z34) (g' := (mkF m 107 #[.val (.int p1), .val (.int p2), .val (.int p3), .val (.int p4), .val (.int p5), .val (.int p6), .val (.int (p1 &&& (2147483647 : Int32))), .val (.int 1), .val (.int ((((p3.toUInt32 >>> ((2 : Int32) &&& 31).toUInt32).toInt32) &&& (3 : Int32)) % (3 : Int32))), .val (.ref x_1803), .val (.ref zd), .val (.ref x_1873), .val (.ref z21), .val (.ref z2r), .unset, .unset, .unset, .unset, .unset, .unset, .unset] [(.ref x_1803), (.ref z21)])) (fun tgt kt => ?_) ?_
    · refine XS.iload H hx rfl (hb hby at_97) rfl ?_
      refine XS.iconst H hx rfl (hb hby at_99) ?_
      refine XS.icmpNo H hx rfl (hb hby at_100) rfl (flt (by decide)).1 ?_
      refine XS.aload H hx rfl (hb hby at_103) rfl rfl ?_
      refine XS.aload H hx rfl (hb hby at_105) rfl rfl ?_
      exact kt
    have z5k : Exa Z z35 z21 "java/util/ArrayList" := ((z2k.keep z2y).keep z39)
    have z5l : Fld Z z35 z21 "java/util/ArrayList" "elementData" "[Ljava/lang/Object;" (.ref dc) := ((z2l.keep z2y nin0).keep z39 (ninS (nL (lL (lL z25.lt (z2j.1)) (Nat.le_of_eq z2s.symm))) nin0))
    have z5m : Fld Z z35 z21 "java/util/ArrayList" "size" "I" (.int 0) := ((z2m.keep z2y nin0).keep z39 (ninS (nL (lL (lL z25.lt (z2j.1)) (Nat.le_of_eq z2s.symm))) nin0))
    have z5n : Fld Z z35 z21 "java/util/AbstractList" "modCount" "I" (.int 0) := ((z2n.keep z2y nin0).keep z39 (ninS (nL (lL (lL z25.lt (z2j.1)) (Nat.le_of_eq z2s.symm))) nin0))
    have z5o : Exa Z z35 x_1803 "java/lang/String" := ((((((((((z9.1.keep zk).keep zw).keep z12).keep z18).keep z1k).keep z1u).keep z28).keep z2j).keep z2y).keep z39)
    have z5p : Old Z n0 z35 := (z33.keep z39 (allS (lT (lT Z0 (z2o.1)) (Nat.le_of_eq z2s.symm)) all0))
    refine Jvm.Q9.Aim.callV (argsL := [(.ref x_1803)]) (rest := []) (y := (⟨"java/util/ArrayList", "add", "(Ljava/lang/Object;)Z"⟩ : MethodName)) (z := (⟨"java/util/ArrayList", "add", "(Ljava/lang/Object;)Z"⟩ : MethodName)) z37 hx hZ hml hown (wI hw 69 rfl) (wI hw 70 rfl) (fun vm0 hZ => notFace_of_selects (args := #[]) (mvT (s := s.setVm vm0) hZ (wI hw 72 rfl))) (wI hw 72 rfl) (wI hw 71 rfl) (by decide) z5k (fun vm0 hZ => Jvm.Y9.Con.back (s := s.setVm vm0) (W := 0) (own_add0 l Z a0 hw z21 x_1803 (0 : Int32) dc kd z35 n0 (lT Z0 (z3e.1)) (lT (lT Z0 (z1y.1)) (Nat.le_of_eq z22.symm)) z5k z5l z5m z5n z5o z5p GA) hZ (wI hw 73 rfl) (wI hw 47 rfl) (by decide) (by decide)) (fun _ _ ⟨_, _, _, q, _, _, _, _, _, _, _⟩ => q) (allS (Jvm.Q9.nl_new P0.ltL (lT (z1y.1) (Nat.le_of_eq z22.symm))) all0) rfl pd__28Ljava_2flang_2fObject_3b_29Z rfl (Nat.le_of_eq rfl) (hb hby at_107) (by decide) (by decide) ?_
    intro z5q z5r z5s z5t z5u
    obtain ⟨t_2036, kk_2037, rfl, z5v, z5w, z5x, z5y, z5z, z60, z61, z62⟩ := z5u
    have z63 : Keep h0 z5r [] := z3e.trans z5v (allS (Or.inr (lT (z1y.1) (Nat.le_of_eq z22.symm))) all0)
    have H := z5t.here
    refine Jvm.Q9.Aim.of (T' := z5q) (g' := (mkF m 125 #[.val (.int p1), .val (.int p2), .val (.int p3), .val (.int p4), .val (.int p5), .val (.int p6), .val (.int (p1 &&& (2147483647 : Int32))), .val (.int 1), .val (.int ((((p3.toUInt32 >>> ((2 : Int32) &&& 31).toUInt32).toInt32) &&& (3 : Int32)) % (3 : Int32))), .val (.ref x_1803), .val (.ref zd), .val (.ref x_1873), .val (.ref z21), .val (.ref z2r), .unset, .unset, .unset, .unset, .unset, .unset, .unset] [])) (fun tgt kt => ?_) ?_
    · refine XS.pop H hx rfl (hb hby at_110) rfl rfl ?_
      refine XS.iload H hx rfl (hb hby at_111) rfl ?_
      refine XS.iconst H hx rfl (hb hby at_113) ?_
      refine XS.icmpYes H hx rfl (pc0 := 114) (pc' := 125) rfl (hb hby at_114) rfl (tlt (by decide)).1 (by decide) (by decide) ?_
      exact kt
    rcases own_three ((p3.toUInt32 >>> ((2 : Int32) &&& 31).toUInt32).toInt32) with z3f | z3f | z3f
    · rw [z3f]
      show Jvm.Q9.Aim p e below s _ _ n0 _ z5q (mkF m 125 #[.val (.int p1), .val (.int p2), .val (.int p3), .val (.int p4), .val (.int p5), .val (.int p6), .val (.int (p1 &&& (2147483647 : Int32))), .val (.int 1), .val (.int 0), .val (.ref x_1803), .val (.ref zd), .val (.ref x_1873), .val (.ref z21), .val (.ref z2r), .unset, .unset, .unset, .unset, .unset, .unset, .unset] [])
      have H := z5t.here
      refine Jvm.Q9.Aim.of (T' := z5q) (g' := (mkF m 153 #[.val (.int p1), .val (.int p2), .val (.int p3), .val (.int p4), .val (.int p5), .val (.int p6), .val (.int (p1 &&& (2147483647 : Int32))), .val (.int 1), .val (.int 0), .val (.ref x_1803), .val (.ref zd), .val (.ref x_1873), .val (.ref z21), .val (.ref z2r), .unset, .unset, .unset, .unset, .unset, .unset, .unset] [])) (fun tgt kt => ?_) ?_
      · refine XS.iload H hx rfl (hb hby at_125) rfl ?_
        refine XS.iconst H hx rfl (hb hby at_127) ?_
        refine XS.icmpYes H hx rfl (pc0 := 128) (pc' := 139) rfl (hb hby at_128) rfl (tlt (by decide)).1 (by decide) (by decide) ?_
        refine XS.iload H hx rfl (hb hby at_139) rfl ?_
        refine XS.iconst H hx rfl (hb hby at_141) ?_
        refine XS.icmpYes H hx rfl (pc0 := 142) (pc' := 153) rfl (hb hby at_142) rfl (tlt (by decide)).1 (by decide) (by decide) ?_
        exact kt
      have z64 : Als Z z5r z21 t_2036 kk_2037 (1 : Int32) x_1803 zd := ⟨z5x, z5y, z5z, z61.lt, Or.inr ⟨_, z61, rfl, Or.inl rfl⟩⟩
      have z65 : Exa Z z5r z2r "java/util/ArrayList" := (z3a.keep z5v)
      have z66 : Fld Z z5r z2r "java/util/ArrayList" "elementData" "[Ljava/lang/Object;" (.ref dc) := (z3b.keep z5v (ninS (Ne.symm (nL (lL (lL z25.lt (z2j.1)) (Nat.le_of_eq z2s.symm)))) nin0))
      have z67 : Fld Z z5r z2r "java/util/ArrayList" "size" "I" (.int 0) := (z3c.keep z5v (ninS (Ne.symm (nL (lL (lL z25.lt (z2j.1)) (Nat.le_of_eq z2s.symm)))) nin0))
      have z68 : Arv Z z5r dc kd (.object "java/lang/Object") (0 : Int32) [] (.null) := ((((((((((((z0.keep z6 nin0).keep zk nin0).keep zw nin0).keep z12 (ninS (nL (lL (lL z0.lt (zl.1)) (Nat.le_of_eq zs.symm))) nin0)).keep z18 (ninS (nL (lL (lL z0.lt (zl.1)) (Nat.le_of_eq zs.symm))) nin0)).keep z1k (ninS (nL (lL (lL z0.lt (za.1)) (Nat.le_of_eq ze.symm))) nin0)).keep z1u nin0).keep z28 nin0).keep z2j (ninS (nL (lL (lL z0.lt (z1y.1)) (Nat.le_of_eq z22.symm))) nin0)).keep z2y nin0).keep z39 (ninS (nL (lL (lL z0.lt (z2o.1)) (Nat.le_of_eq z2s.symm))) nin0)).keep z5v (ninS (nL (lL (lL z0.lt (z1y.1)) (Nat.le_of_eq z22.symm))) nin0))
      have z69 : Als Z z5r z2r dc kd (0 : Int32) zd x_1873 := ⟨z65, z66, z67, z68.lt, Or.inl rfl⟩
      have z6a : Str Z z5r x_1803 t_1804 kb_1805 [((p4 &&& (255 : Int32)).toUInt32.toUInt16.toUInt32.toInt32)] := (((((((((((z9.keep zk nin0 nin0).keep zw nin0 nin0).keep z12 (ninS (nL (lL (lL z9.lt (zk.1)) (Nat.le_of_eq zs.symm))) nin0) (ninS (nL (lL (lL z9.ltb (zk.1)) (Nat.le_of_eq zs.symm))) nin0)).keep z18 (ninS (nL (lL (lL z9.lt (zk.1)) (Nat.le_of_eq zs.symm))) nin0) (ninS (nL (lL (lL z9.ltb (zk.1)) (Nat.le_of_eq zs.symm))) nin0)).keep z1k (ninS (nL (lL z9.lt (Nat.le_of_eq ze.symm))) nin0) (ninS (nL (lL z9.ltb (Nat.le_of_eq ze.symm))) nin0)).keep z1u nin0 nin0).keep z28 nin0 nin0).keep z2j (ninS (nL (lL (lL z9.lt (lT (lT (lT (lT (lT zk.1 zw.1) z12.1) z18.1) z1k.1) z1u.1)) (Nat.le_of_eq z22.symm))) nin0) (ninS (nL (lL (lL z9.ltb (lT (lT (lT (lT (lT zk.1 zw.1) z12.1) z18.1) z1k.1) z1u.1)) (Nat.le_of_eq z22.symm))) nin0)).keep z2y nin0 nin0).keep z39 (ninS (nL (lL (lL z9.lt (lT (lT (lT (lT (lT (lT (lT zk.1 zw.1) z12.1) z18.1) z1k.1) z1u.1) z28.1) z2j.1)) (Nat.le_of_eq z2s.symm))) nin0) (ninS (nL (lL (lL z9.ltb (lT (lT (lT (lT (lT (lT (lT zk.1 zw.1) z12.1) z18.1) z1k.1) z1u.1) z28.1) z2j.1)) (Nat.le_of_eq z2s.symm))) nin0)).keep z5v (ninS (nL (lL (lL z9.lt (lT (lT (lT (lT (lT zk.1 zw.1) z12.1) z18.1) z1k.1) z1u.1)) (Nat.le_of_eq z22.symm))) nin0) (ninS (nL (lL (lL z9.ltb (lT (lT (lT (lT (lT zk.1 zw.1) z12.1) z18.1) z1k.1) z1u.1)) (Nat.le_of_eq z22.symm))) nin0))
      have z6b : Str Z z5r zd t_1859 kb_1860 ([(nar .char ((p5 &&& (255 : Int32)).toUInt32.toUInt16.toUInt32.toInt32)), (nar .char ((p6 &&& (255 : Int32)).toUInt32.toUInt16.toUInt32.toInt32))] : List Int32) := ((((((z1m.keep z1u nin0 nin0).keep z28 nin0 nin0).keep z2j (ninS (nL (lL (lL zh.lt (lT (lT (lT (lT zw.1 z12.1) z18.1) z1k.1) z1u.1)) (Nat.le_of_eq z22.symm))) nin0) (ninS (nL (lL (lL z1m.ltb (z1u.1)) (Nat.le_of_eq z22.symm))) nin0)).keep z2y nin0 nin0).keep z39 (ninS (nL (lL (lL zh.lt (lT (lT (lT (lT (lT (lT zw.1 z12.1) z18.1) z1k.1) z1u.1) z28.1) z2j.1)) (Nat.le_of_eq z2s.symm))) nin0) (ninS (nL (lL (lL z1m.ltb (lT (lT z1u.1 z28.1) z2j.1)) (Nat.le_of_eq z2s.symm))) nin0)).keep z5v (ninS (nL (lL (lL zh.lt (lT (lT (lT (lT zw.1 z12.1) z18.1) z1k.1) z1u.1)) (Nat.le_of_eq z22.symm))) nin0) (ninS (nL (lL (lL z1m.ltb (z1u.1)) (Nat.le_of_eq z22.symm))) nin0))
      have z6c : Str Z z5r x_1873 t_1874 kb_1875 [((((p4.toUInt32 >>> ((8 : Int32) &&& 31).toUInt32).toInt32) &&& (255 : Int32)).toUInt32.toUInt16.toUInt32.toInt32)] := (((((z1x.keep z28 nin0 nin0).keep z2j (ninS (nL (lL z1x.lt (Nat.le_of_eq z22.symm))) nin0) (ninS (nL (lL z1x.ltb (Nat.le_of_eq z22.symm))) nin0)).keep z2y nin0 nin0).keep z39 (ninS (nL (lL (lL z1x.lt (lT z28.1 z2j.1)) (Nat.le_of_eq z2s.symm))) nin0) (ninS (nL (lL (lL z1x.ltb (lT z28.1 z2j.1)) (Nat.le_of_eq z2s.symm))) nin0)).keep z5v (ninS (nL (lL z1x.lt (Nat.le_of_eq z22.symm))) nin0) (ninS (nL (lL z1x.ltb (Nat.le_of_eq z22.symm))) nin0))
      have z6d : Old Z n0 z5r := (z5p.keep z5v (allS (lT (lT Z0 (z1y.1)) (Nat.le_of_eq z22.symm)) all0))
      exact (own_p1 l Z a0 hw (.val (.int p1)) (.val (.int p3)) (.val (.int p4)) (.val (.int p5)) (.val (.int p6)) p2 (p1 &&& (2147483647 : Int32)) x_1803 t_1804 kb_1805 [((p4 &&& (255 : Int32)).toUInt32.toUInt16.toUInt32.toInt32)] zd t_1859 kb_1860 ([(nar .char ((p5 &&& (255 : Int32)).toUInt32.toUInt16.toUInt32.toInt32)), (nar .char ((p6 &&& (255 : Int32)).toUInt32.toUInt16.toUInt32.toInt32))] : List Int32) x_1873 t_1874 kb_1875 [((((p4.toUInt32 >>> ((8 : Int32) &&& 31).toUInt32).toInt32) &&& (255 : Int32)).toUInt32.toUInt16.toUInt32.toInt32)] z21 t_2036 kk_2037 (1 : Int32) z2r dc kd (0 : Int32) dc kd el ee ke em z5r n0 (lT Z0 (z63.1)) Lc0 z6a z6b z6c z64 z69 z6d (own_nneg p1) (by decide) (by decide) GA GE GM G GS GL GD hx hby hml hret hnm hown hlk hZ (z5t.more (by decide) (by decide))).imp (fun vv hh it ⟨Lq, ⟨vq, kq⟩, aq, gq⟩ => ⟨Lq, ⟨vq, z63.trans kq all0⟩, aq, (Jvm.Q9.Grow.refl _ _).trans gq (z63.1)⟩)
    · rw [z3f]
      show Jvm.Q9.Aim p e below s _ _ n0 _ z5q (mkF m 125 #[.val (.int p1), .val (.int p2), .val (.int p3), .val (.int p4), .val (.int p5), .val (.int p6), .val (.int (p1 &&& (2147483647 : Int32))), .val (.int 1), .val (.int 1), .val (.ref x_1803), .val (.ref zd), .val (.ref x_1873), .val (.ref z21), .val (.ref z2r), .unset, .unset, .unset, .unset, .unset, .unset, .unset] [])
      have H := z5t.here
      refine Jvm.Q9.Aim.of (T' := z5q) (g' := (mkF m 135 #[.val (.int p1), .val (.int p2), .val (.int p3), .val (.int p4), .val (.int p5), .val (.int p6), .val (.int (p1 &&& (2147483647 : Int32))), .val (.int 1), .val (.int 1), .val (.ref x_1803), .val (.ref zd), .val (.ref x_1873), .val (.ref z21), .val (.ref z2r), .unset, .unset, .unset, .unset, .unset, .unset, .unset] [(.ref zd), (.ref z2r)])) (fun tgt kt => ?_) ?_
      · refine XS.iload H hx rfl (hb hby at_125) rfl ?_
        refine XS.iconst H hx rfl (hb hby at_127) ?_
        refine XS.icmpNo H hx rfl (hb hby at_128) rfl (flt (by decide)).1 ?_
        refine XS.aload H hx rfl (hb hby at_131) rfl rfl ?_
        refine XS.aload H hx rfl (hb hby at_133) rfl rfl ?_
        exact kt
      have z6e : Exa Z z5r z2r "java/util/ArrayList" := (z3a.keep z5v)
      have z6f : Fld Z z5r z2r "java/util/ArrayList" "elementData" "[Ljava/lang/Object;" (.ref dc) := (z3b.keep z5v (ninS (Ne.symm (nL (lL (lL z25.lt (z2j.1)) (Nat.le_of_eq z2s.symm)))) nin0))
      have z6g : Fld Z z5r z2r "java/util/ArrayList" "size" "I" (.int 0) := (z3c.keep z5v (ninS (Ne.symm (nL (lL (lL z25.lt (z2j.1)) (Nat.le_of_eq z2s.symm)))) nin0))
      have z6h : Fld Z z5r z2r "java/util/AbstractList" "modCount" "I" (.int 0) := (z3d.keep z5v (ninS (Ne.symm (nL (lL (lL z25.lt (z2j.1)) (Nat.le_of_eq z2s.symm)))) nin0))
      have z6i : Exa Z z5r zd "java/lang/String" := (((((((z1b.keep z1k).keep z1u).keep z28).keep z2j).keep z2y).keep z39).keep z5v)
      have z6j : Old Z n0 z5r := (z5p.keep z5v (allS (lT (lT Z0 (z1y.1)) (Nat.le_of_eq z22.symm)) all0))
      refine Jvm.Q9.Aim.callV (argsL := [(.ref zd)]) (rest := []) (y := (⟨"java/util/ArrayList", "add", "(Ljava/lang/Object;)Z"⟩ : MethodName)) (z := (⟨"java/util/ArrayList", "add", "(Ljava/lang/Object;)Z"⟩ : MethodName)) z5t hx hZ hml hown (wI hw 69 rfl) (wI hw 70 rfl) (fun vm0 hZ => notFace_of_selects (args := #[]) (mvT (s := s.setVm vm0) hZ (wI hw 72 rfl))) (wI hw 72 rfl) (wI hw 71 rfl) (by decide) z6e (fun vm0 hZ => Jvm.Y9.Con.back (s := s.setVm vm0) (W := 0) (own_add0 l Z a0 hw z2r zd (0 : Int32) dc kd z5r n0 (lT Z0 (z63.1)) (lT (lT Z0 (z2o.1)) (Nat.le_of_eq z2s.symm)) z6e z6f z6g z6h z6i z6j GA) hZ (wI hw 73 rfl) (wI hw 47 rfl) (by decide) (by decide)) (fun _ _ ⟨_, _, _, q, _, _, _, _, _, _, _⟩ => q) (allS (Jvm.Q9.nl_new P0.ltL (lT (z2o.1) (Nat.le_of_eq z2s.symm))) all0) rfl pd__28Ljava_2flang_2fObject_3b_29Z rfl (Nat.le_of_eq rfl) (hb hby at_135) (by decide) (by decide) ?_
      intro z6k z6l z6m z6n z6o
      obtain ⟨t_2070, kk_2071, rfl, z6p, z6q, z6r, z6s, z6t, z6u, z6v, z6w⟩ := z6o
      have z6x : Keep h0 z6l [] := z63.trans z6p (allS (Or.inr (lT (z2o.1) (Nat.le_of_eq z2s.symm))) all0)
      have H := z6n.here
      refine Jvm.Q9.Aim.of (T' := z6k) (g' := (mkF m 153 #[.val (.int p1), .val (.int p2), .val (.int p3), .val (.int p4), .val (.int p5), .val (.int p6), .val (.int (p1 &&& (2147483647 : Int32))), .val (.int 1), .val (.int 1), .val (.ref x_1803), .val (.ref zd), .val (.ref x_1873), .val (.ref z21), .val (.ref z2r), .unset, .unset, .unset, .unset, .unset, .unset, .unset] [])) (fun tgt kt => ?_) ?_
      · refine XS.pop H hx rfl (hb hby at_138) rfl rfl ?_
        refine XS.iload H hx rfl (hb hby at_139) rfl ?_
        refine XS.iconst H hx rfl (hb hby at_141) ?_
        refine XS.icmpYes H hx rfl (pc0 := 142) (pc' := 153) rfl (hb hby at_142) rfl (tlt (by decide)).1 (by decide) (by decide) ?_
        exact kt
      have z6y : Exa Z z6l z21 "java/util/ArrayList" := (z5x.keep z6p)
      have z6z : Fld Z z6l z21 "java/util/ArrayList" "elementData" "[Ljava/lang/Object;" (.ref t_2036) := (z5y.keep z6p (ninS (nL (lL (lL z25.lt (z2j.1)) (Nat.le_of_eq z2s.symm))) nin0))
      have z70 : Fld Z z6l z21 "java/util/ArrayList" "size" "I" (.int 1) := (z5z.keep z6p (ninS (nL (lL (lL z25.lt (z2j.1)) (Nat.le_of_eq z2s.symm))) nin0))
      have z71 : Arv Z z6l t_2036 kk_2037 (.object "java/lang/Object") (10 : Int32) [(.ref x_1803), .null, .null, .null, .null, .null, .null, .null, .null, .null] (.null) := (z61.keep z6p (ninS (Ne.symm (nL (lL (lL z2v.lt (z39.1)) z5w))) nin0))
      have z72 : Als Z z6l z21 t_2036 kk_2037 (1 : Int32) x_1803 zd := ⟨z6y, z6z, z70, z71.lt, Or.inr ⟨_, z71, rfl, Or.inl rfl⟩⟩
      have z73 : Als Z z6l z2r t_2070 kk_2071 (1 : Int32) zd x_1873 := ⟨z6r, z6s, z6t, z6v.lt, Or.inr ⟨_, z6v, rfl, Or.inl rfl⟩⟩
      have z74 : Str Z z6l x_1803 t_1804 kb_1805 [((p4 &&& (255 : Int32)).toUInt32.toUInt16.toUInt32.toInt32)] := ((((((((((((z9.keep zk nin0 nin0).keep zw nin0 nin0).keep z12 (ninS (nL (lL (lL z9.lt (zk.1)) (Nat.le_of_eq zs.symm))) nin0) (ninS (nL (lL (lL z9.ltb (zk.1)) (Nat.le_of_eq zs.symm))) nin0)).keep z18 (ninS (nL (lL (lL z9.lt (zk.1)) (Nat.le_of_eq zs.symm))) nin0) (ninS (nL (lL (lL z9.ltb (zk.1)) (Nat.le_of_eq zs.symm))) nin0)).keep z1k (ninS (nL (lL z9.lt (Nat.le_of_eq ze.symm))) nin0) (ninS (nL (lL z9.ltb (Nat.le_of_eq ze.symm))) nin0)).keep z1u nin0 nin0).keep z28 nin0 nin0).keep z2j (ninS (nL (lL (lL z9.lt (lT (lT (lT (lT (lT zk.1 zw.1) z12.1) z18.1) z1k.1) z1u.1)) (Nat.le_of_eq z22.symm))) nin0) (ninS (nL (lL (lL z9.ltb (lT (lT (lT (lT (lT zk.1 zw.1) z12.1) z18.1) z1k.1) z1u.1)) (Nat.le_of_eq z22.symm))) nin0)).keep z2y nin0 nin0).keep z39 (ninS (nL (lL (lL z9.lt (lT (lT (lT (lT (lT (lT (lT zk.1 zw.1) z12.1) z18.1) z1k.1) z1u.1) z28.1) z2j.1)) (Nat.le_of_eq z2s.symm))) nin0) (ninS (nL (lL (lL z9.ltb (lT (lT (lT (lT (lT (lT (lT zk.1 zw.1) z12.1) z18.1) z1k.1) z1u.1) z28.1) z2j.1)) (Nat.le_of_eq z2s.symm))) nin0)).keep z5v (ninS (nL (lL (lL z9.lt (lT (lT (lT (lT (lT zk.1 zw.1) z12.1) z18.1) z1k.1) z1u.1)) (Nat.le_of_eq z22.symm))) nin0) (ninS (nL (lL (lL z9.ltb (lT (lT (lT (lT (lT zk.1 zw.1) z12.1) z18.1) z1k.1) z1u.1)) (Nat.le_of_eq z22.symm))) nin0)).keep z6p (ninS (nL (lL (lL z9.lt (lT (lT (lT (lT (lT (lT (lT zk.1 zw.1) z12.1) z18.1) z1k.1) z1u.1) z28.1) z2j.1)) (Nat.le_of_eq z2s.symm))) nin0) (ninS (nL (lL (lL z9.ltb (lT (lT (lT (lT (lT (lT (lT zk.1 zw.1) z12.1) z18.1) z1k.1) z1u.1) z28.1) z2j.1)) (Nat.le_of_eq z2s.symm))) nin0))
      have z75 : Str Z z6l zd t_1859 kb_1860 ([(nar .char ((p5 &&& (255 : Int32)).toUInt32.toUInt16.toUInt32.toInt32)), (nar .char ((p6 &&& (255 : Int32)).toUInt32.toUInt16.toUInt32.toInt32))] : List Int32) := (((((((z1m.keep z1u nin0 nin0).keep z28 nin0 nin0).keep z2j (ninS (nL (lL (lL zh.lt (lT (lT (lT (lT zw.1 z12.1) z18.1) z1k.1) z1u.1)) (Nat.le_of_eq z22.symm))) nin0) (ninS (nL (lL (lL z1m.ltb (z1u.1)) (Nat.le_of_eq z22.symm))) nin0)).keep z2y nin0 nin0).keep z39 (ninS (nL (lL (lL zh.lt (lT (lT (lT (lT (lT (lT zw.1 z12.1) z18.1) z1k.1) z1u.1) z28.1) z2j.1)) (Nat.le_of_eq z2s.symm))) nin0) (ninS (nL (lL (lL z1m.ltb (lT (lT z1u.1 z28.1) z2j.1)) (Nat.le_of_eq z2s.symm))) nin0)).keep z5v (ninS (nL (lL (lL zh.lt (lT (lT (lT (lT zw.1 z12.1) z18.1) z1k.1) z1u.1)) (Nat.le_of_eq z22.symm))) nin0) (ninS (nL (lL (lL z1m.ltb (z1u.1)) (Nat.le_of_eq z22.symm))) nin0)).keep z6p (ninS (nL (lL (lL zh.lt (lT (lT (lT (lT (lT (lT zw.1 z12.1) z18.1) z1k.1) z1u.1) z28.1) z2j.1)) (Nat.le_of_eq z2s.symm))) nin0) (ninS (nL (lL (lL z1m.ltb (lT (lT z1u.1 z28.1) z2j.1)) (Nat.le_of_eq z2s.symm))) nin0))
      have z76 : Str Z z6l x_1873 t_1874 kb_1875 [((((p4.toUInt32 >>> ((8 : Int32) &&& 31).toUInt32).toInt32) &&& (255 : Int32)).toUInt32.toUInt16.toUInt32.toInt32)] := ((((((z1x.keep z28 nin0 nin0).keep z2j (ninS (nL (lL z1x.lt (Nat.le_of_eq z22.symm))) nin0) (ninS (nL (lL z1x.ltb (Nat.le_of_eq z22.symm))) nin0)).keep z2y nin0 nin0).keep z39 (ninS (nL (lL (lL z1x.lt (lT z28.1 z2j.1)) (Nat.le_of_eq z2s.symm))) nin0) (ninS (nL (lL (lL z1x.ltb (lT z28.1 z2j.1)) (Nat.le_of_eq z2s.symm))) nin0)).keep z5v (ninS (nL (lL z1x.lt (Nat.le_of_eq z22.symm))) nin0) (ninS (nL (lL z1x.ltb (Nat.le_of_eq z22.symm))) nin0)).keep z6p (ninS (nL (lL (lL z1x.lt (lT z28.1 z2j.1)) (Nat.le_of_eq z2s.symm))) nin0) (ninS (nL (lL (lL z1x.ltb (lT z28.1 z2j.1)) (Nat.le_of_eq z2s.symm))) nin0))
      have z77 : Old Z n0 z6l := (z6j.keep z6p (allS (lT (lT Z0 (z2o.1)) (Nat.le_of_eq z2s.symm)) all0))
      exact (own_p1 l Z a0 hw (.val (.int p1)) (.val (.int p3)) (.val (.int p4)) (.val (.int p5)) (.val (.int p6)) p2 (p1 &&& (2147483647 : Int32)) x_1803 t_1804 kb_1805 [((p4 &&& (255 : Int32)).toUInt32.toUInt16.toUInt32.toInt32)] zd t_1859 kb_1860 ([(nar .char ((p5 &&& (255 : Int32)).toUInt32.toUInt16.toUInt32.toInt32)), (nar .char ((p6 &&& (255 : Int32)).toUInt32.toUInt16.toUInt32.toInt32))] : List Int32) x_1873 t_1874 kb_1875 [((((p4.toUInt32 >>> ((8 : Int32) &&& 31).toUInt32).toInt32) &&& (255 : Int32)).toUInt32.toUInt16.toUInt32.toInt32)] z21 t_2036 kk_2037 (1 : Int32) z2r t_2070 kk_2071 (1 : Int32) dc kd el ee ke em z6l n0 (lT Z0 (z6x.1)) Lc0 z74 z75 z76 z72 z73 z77 (own_nneg p1) (by decide) (by decide) GA GE GM G GS GL GD hx hby hml hret hnm hown hlk hZ (z6n.more (by decide) (by decide))).imp (fun vv hh it ⟨Lq, ⟨vq, kq⟩, aq, gq⟩ => ⟨Lq, ⟨vq, z6x.trans kq all0⟩, aq, (Jvm.Q9.Grow.refl _ _).trans gq (z6x.1)⟩)
    · rw [z3f]
      show Jvm.Q9.Aim p e below s _ _ n0 _ z5q (mkF m 125 #[.val (.int p1), .val (.int p2), .val (.int p3), .val (.int p4), .val (.int p5), .val (.int p6), .val (.int (p1 &&& (2147483647 : Int32))), .val (.int 1), .val (.int 2), .val (.ref x_1803), .val (.ref zd), .val (.ref x_1873), .val (.ref z21), .val (.ref z2r), .unset, .unset, .unset, .unset, .unset, .unset, .unset] [])
      have H := z5t.here
      refine Jvm.Q9.Aim.of (T' := z5q) (g' := (mkF m 135 #[.val (.int p1), .val (.int p2), .val (.int p3), .val (.int p4), .val (.int p5), .val (.int p6), .val (.int (p1 &&& (2147483647 : Int32))), .val (.int 1), .val (.int 2), .val (.ref x_1803), .val (.ref zd), .val (.ref x_1873), .val (.ref z21), .val (.ref z2r), .unset, .unset, .unset, .unset, .unset, .unset, .unset] [(.ref zd), (.ref z2r)])) (fun tgt kt => ?_) ?_
      · refine XS.iload H hx rfl (hb hby at_125) rfl ?_
        refine XS.iconst H hx rfl (hb hby at_127) ?_
        refine XS.icmpNo H hx rfl (hb hby at_128) rfl (flt (by decide)).1 ?_
        refine XS.aload H hx rfl (hb hby at_131) rfl rfl ?_
        refine XS.aload H hx rfl (hb hby at_133) rfl rfl ?_
        exact kt
      have z78 : Exa Z z5r z2r "java/util/ArrayList" := (z3a.keep z5v)
      have z79 : Fld Z z5r z2r "java/util/ArrayList" "elementData" "[Ljava/lang/Object;" (.ref dc) := (z3b.keep z5v (ninS (Ne.symm (nL (lL (lL z25.lt (z2j.1)) (Nat.le_of_eq z2s.symm)))) nin0))
      have z7a : Fld Z z5r z2r "java/util/ArrayList" "size" "I" (.int 0) := (z3c.keep z5v (ninS (Ne.symm (nL (lL (lL z25.lt (z2j.1)) (Nat.le_of_eq z2s.symm)))) nin0))
      have z7b : Fld Z z5r z2r "java/util/AbstractList" "modCount" "I" (.int 0) := (z3d.keep z5v (ninS (Ne.symm (nL (lL (lL z25.lt (z2j.1)) (Nat.le_of_eq z2s.symm)))) nin0))
      have z7c : Exa Z z5r zd "java/lang/String" := (((((((z1b.keep z1k).keep z1u).keep z28).keep z2j).keep z2y).keep z39).keep z5v)
      have z7d : Old Z n0 z5r := (z5p.keep z5v (allS (lT (lT Z0 (z1y.1)) (Nat.le_of_eq z22.symm)) all0))
      refine Jvm.Q9.Aim.callV (argsL := [(.ref zd)]) (rest := []) (y := (⟨"java/util/ArrayList", "add", "(Ljava/lang/Object;)Z"⟩ : MethodName)) (z := (⟨"java/util/ArrayList", "add", "(Ljava/lang/Object;)Z"⟩ : MethodName)) z5t hx hZ hml hown (wI hw 69 rfl) (wI hw 70 rfl) (fun vm0 hZ => notFace_of_selects (args := #[]) (mvT (s := s.setVm vm0) hZ (wI hw 72 rfl))) (wI hw 72 rfl) (wI hw 71 rfl) (by decide) z78 (fun vm0 hZ => Jvm.Y9.Con.back (s := s.setVm vm0) (W := 0) (own_add0 l Z a0 hw z2r zd (0 : Int32) dc kd z5r n0 (lT Z0 (z63.1)) (lT (lT Z0 (z2o.1)) (Nat.le_of_eq z2s.symm)) z78 z79 z7a z7b z7c z7d GA) hZ (wI hw 73 rfl) (wI hw 47 rfl) (by decide) (by decide)) (fun _ _ ⟨_, _, _, q, _, _, _, _, _, _, _⟩ => q) (allS (Jvm.Q9.nl_new P0.ltL (lT (z2o.1) (Nat.le_of_eq z2s.symm))) all0) rfl pd__28Ljava_2flang_2fObject_3b_29Z rfl (Nat.le_of_eq rfl) (hb hby at_135) (by decide) (by decide) ?_
      intro z7e z7f z7g z7h z7i
      obtain ⟨t_2104, kk_2105, rfl, z7j, z7k, z7l, z7m, z7n, z7o, z7p, z7q⟩ := z7i
      have z7r : Keep h0 z7f [] := z63.trans z7j (allS (Or.inr (lT (z2o.1) (Nat.le_of_eq z2s.symm))) all0)
      have H := z7h.here
      refine Jvm.Q9.Aim.of (T' := z7e) (g' := (mkF m 149 #[.val (.int p1), .val (.int p2), .val (.int p3), .val (.int p4), .val (.int p5), .val (.int p6), .val (.int (p1 &&& (2147483647 : Int32))), .val (.int 1), .val (.int 2), .val (.ref x_1803), .val (.ref zd), .val (.ref x_1873), .val (.ref z21), .val (.ref z2r), .unset, .unset, .unset, .unset, .unset, .unset, .unset] [(.ref x_1873), (.ref z2r)])) (fun tgt kt => ?_) ?_
      · refine XS.pop H hx rfl (hb hby at_138) rfl rfl ?_
        refine XS.iload H hx rfl (hb hby at_139) rfl ?_
        refine XS.iconst H hx rfl (hb hby at_141) ?_
        refine XS.icmpNo H hx rfl (hb hby at_142) rfl (flt (by decide)).1 ?_
        refine XS.aload H hx rfl (hb hby at_145) rfl rfl ?_
        refine XS.aload H hx rfl (hb hby at_147) rfl rfl ?_
        exact kt
      have z7s : Exa Z z7f x_1873 "java/lang/String" := ((((((z1x.1.keep z28).keep z2j).keep z2y).keep z39).keep z5v).keep z7j)
      have z7t : Old Z n0 z7f := (z7d.keep z7j (allS (lT (lT Z0 (z2o.1)) (Nat.le_of_eq z2s.symm)) all0))
      refine Jvm.Q9.Aim.callV (argsL := [(.ref x_1873)]) (rest := []) (y := (⟨"java/util/ArrayList", "add", "(Ljava/lang/Object;)Z"⟩ : MethodName)) (z := (⟨"java/util/ArrayList", "add", "(Ljava/lang/Object;)Z"⟩ : MethodName)) z7h hx hZ hml hown (wI hw 69 rfl) (wI hw 70 rfl) (fun vm0 hZ => notFace_of_selects (args := #[]) (mvT (s := s.setVm vm0) hZ (wI hw 72 rfl))) (wI hw 72 rfl) (wI hw 71 rfl) (by decide) z7l (fun vm0 hZ => Jvm.Y9.Con.back (s := s.setVm vm0) (W := 0) (own_add1 l Z a0 hw z2r zd x_1873 ((0 : Int32) + (1 : Int32)) t_2104 kk_2105 z7f n0 (lT Z0 (z7r.1)) (lT (lT Z0 (z2o.1)) (Nat.le_of_eq z2s.symm)) (lT (lT Z0 (z63.1)) z7k) z7l z7m z7n z7o z7p z7s z7t z7q (nL (lL (lL z2v.lt (lT z39.1 z5v.1)) z7k))) hZ (wI hw 73 rfl) (wI hw 47 rfl) (by decide) (by decide)) (fun _ _ ⟨_, q, _, _, _, _, _⟩ => q) (allS (Jvm.Q9.nl_new P0.ltL (lT (z2o.1) (Nat.le_of_eq z2s.symm))) (allS (Jvm.Q9.nl_new P0.ltL (lT (z63.1) z7k)) all0)) rfl pd__28Ljava_2flang_2fObject_3b_29Z rfl (Nat.le_of_eq rfl) (hb hby at_149) (by decide) (by decide) ?_
      intro z7u z7v z7w z7x z7y
      obtain ⟨rfl, z7z, z80, z81, z82, z83, z84⟩ := z7y
      have z85 : Keep h0 z7v [] := z7r.trans z7z (allS (Or.inr (lT (z2o.1) (Nat.le_of_eq z2s.symm))) (allS (Or.inr (lT (z63.1) z7k)) all0))
      have H := z7x.here
      refine Jvm.Q9.Aim.of (T' := z7u) (g' := (mkF m 153 #[.val (.int p1), .val (.int p2), .val (.int p3), .val (.int p4), .val (.int p5), .val (.int p6), .val (.int (p1 &&& (2147483647 : Int32))), .val (.int 1), .val (.int 2), .val (.ref x_1803), .val (.ref zd), .val (.ref x_1873), .val (.ref z21), .val (.ref z2r), .unset, .unset, .unset, .unset, .unset, .unset, .unset] [])) (fun tgt kt => ?_) ?_
      · refine XS.pop H hx rfl (hb hby at_152) rfl rfl ?_
        exact kt
      have z86 : Exa Z z7v z21 "java/util/ArrayList" := ((z5x.keep z7j).keep z7z)
      have z87 : Fld Z z7v z21 "java/util/ArrayList" "elementData" "[Ljava/lang/Object;" (.ref t_2036) := ((z5y.keep z7j (ninS (nL (lL (lL z25.lt (z2j.1)) (Nat.le_of_eq z2s.symm))) nin0)).keep z7z (ninS (nL (lL (lL z25.lt (z2j.1)) (Nat.le_of_eq z2s.symm))) (ninS (nL (lL (lL z25.lt (lT (lT (lT z2j.1 z2y.1) z39.1) z5v.1)) z7k)) nin0)))
      have z88 : Fld Z z7v z21 "java/util/ArrayList" "size" "I" (.int 1) := ((z5z.keep z7j (ninS (nL (lL (lL z25.lt (z2j.1)) (Nat.le_of_eq z2s.symm))) nin0)).keep z7z (ninS (nL (lL (lL z25.lt (z2j.1)) (Nat.le_of_eq z2s.symm))) (ninS (nL (lL (lL z25.lt (lT (lT (lT z2j.1 z2y.1) z39.1) z5v.1)) z7k)) nin0)))
      have z89 : Arv Z z7v t_2036 kk_2037 (.object "java/lang/Object") (10 : Int32) [(.ref x_1803), .null, .null, .null, .null, .null, .null, .null, .null, .null] (.null) := ((z61.keep z7j (ninS (Ne.symm (nL (lL (lL z2v.lt (z39.1)) z5w))) nin0)).keep z7z (ninS (Ne.symm (nL (lL (lL z2v.lt (z39.1)) z5w))) (ninS (nL (lL z61.lt z7k)) nin0)))
      have z8a : Als Z z7v z21 t_2036 kk_2037 (1 : Int32) x_1803 zd := ⟨z86, z87, z88, z89.lt, Or.inr ⟨_, z89, rfl, Or.inl rfl⟩⟩
      have z8b : Als Z z7v z2r t_2104 kk_2105 (2 : Int32) zd x_1873 := ⟨z80, z81, z82, z84.lt, Or.inr ⟨_, z84, rfl, Or.inr ⟨rfl, rfl⟩⟩⟩
      have z8c : Str Z z7v x_1803 t_1804 kb_1805 [((p4 &&& (255 : Int32)).toUInt32.toUInt16.toUInt32.toInt32)] := (((((((((((((z9.keep zk nin0 nin0).keep zw nin0 nin0).keep z12 (ninS (nL (lL (lL z9.lt (zk.1)) (Nat.le_of_eq zs.symm))) nin0) (ninS (nL (lL (lL z9.ltb (zk.1)) (Nat.le_of_eq zs.symm))) nin0)).keep z18 (ninS (nL (lL (lL z9.lt (zk.1)) (Nat.le_of_eq zs.symm))) nin0) (ninS (nL (lL (lL z9.ltb (zk.1)) (Nat.le_of_eq zs.symm))) nin0)).keep z1k (ninS (nL (lL z9.lt (Nat.le_of_eq ze.symm))) nin0) (ninS (nL (lL z9.ltb (Nat.le_of_eq ze.symm))) nin0)).keep z1u nin0 nin0).keep z28 nin0 nin0).keep z2j (ninS (nL (lL (lL z9.lt (lT (lT (lT (lT (lT zk.1 zw.1) z12.1) z18.1) z1k.1) z1u.1)) (Nat.le_of_eq z22.symm))) nin0) (ninS (nL (lL (lL z9.ltb (lT (lT (lT (lT (lT zk.1 zw.1) z12.1) z18.1) z1k.1) z1u.1)) (Nat.le_of_eq z22.symm))) nin0)).keep z2y nin0 nin0).keep z39 (ninS (nL (lL (lL z9.lt (lT (lT (lT (lT (lT (lT (lT zk.1 zw.1) z12.1) z18.1) z1k.1) z1u.1) z28.1) z2j.1)) (Nat.le_of_eq z2s.symm))) nin0) (ninS (nL (lL (lL z9.ltb (lT (lT (lT (lT (lT (lT (lT zk.1 zw.1) z12.1) z18.1) z1k.1) z1u.1) z28.1) z2j.1)) (Nat.le_of_eq z2s.symm))) nin0)).keep z5v (ninS (nL (lL (lL z9.lt (lT (lT (lT (lT (lT zk.1 zw.1) z12.1) z18.1) z1k.1) z1u.1)) (Nat.le_of_eq z22.symm))) nin0) (ninS (nL (lL (lL z9.ltb (lT (lT (lT (lT (lT zk.1 zw.1) z12.1) z18.1) z1k.1) z1u.1)) (Nat.le_of_eq z22.symm))) nin0)).keep z7j (ninS (nL (lL (lL z9.lt (lT (lT (lT (lT (lT (lT (lT zk.1 zw.1) z12.1) z18.1) z1k.1) z1u.1) z28.1) z2j.1)) (Nat.le_of_eq z2s.symm))) nin0) (ninS (nL (lL (lL z9.ltb (lT (lT (lT (lT (lT (lT (lT zk.1 zw.1) z12.1) z18.1) z1k.1) z1u.1) z28.1) z2j.1)) (Nat.le_of_eq z2s.symm))) nin0)).keep z7z (ninS (nL (lL (lL z9.lt (lT (lT (lT (lT (lT (lT (lT zk.1 zw.1) z12.1) z18.1) z1k.1) z1u.1) z28.1) z2j.1)) (Nat.le_of_eq z2s.symm))) (ninS (nL (lL (lL z9.lt (lT (lT (lT (lT (lT (lT (lT (lT (lT (lT zk.1 zw.1) z12.1) z18.1) z1k.1) z1u.1) z28.1) z2j.1) z2y.1) z39.1) z5v.1)) z7k)) nin0)) (ninS (nL (lL (lL z9.ltb (lT (lT (lT (lT (lT (lT (lT zk.1 zw.1) z12.1) z18.1) z1k.1) z1u.1) z28.1) z2j.1)) (Nat.le_of_eq z2s.symm))) (ninS (nL (lL (lL z9.ltb (lT (lT (lT (lT (lT (lT (lT (lT (lT (lT zk.1 zw.1) z12.1) z18.1) z1k.1) z1u.1) z28.1) z2j.1) z2y.1) z39.1) z5v.1)) z7k)) nin0)))
      have z8d : Str Z z7v zd t_1859 kb_1860 ([(nar .char ((p5 &&& (255 : Int32)).toUInt32.toUInt16.toUInt32.toInt32)), (nar .char ((p6 &&& (255 : Int32)).toUInt32.toUInt16.toUInt32.toInt32))] : List Int32) := ((((((((z1m.keep z1u nin0 nin0).keep z28 nin0 nin0).keep z2j (ninS (nL (lL (lL zh.lt (lT (lT (lT (lT zw.1 z12.1) z18.1) z1k.1) z1u.1)) (Nat.le_of_eq z22.symm))) nin0) (ninS (nL (lL (lL z1m.ltb (z1u.1)) (Nat.le_of_eq z22.symm))) nin0)).keep z2y nin0 nin0).keep z39 (ninS (nL (lL (lL zh.lt (lT (lT (lT (lT (lT (lT zw.1 z12.1) z18.1) z1k.1) z1u.1) z28.1) z2j.1)) (Nat.le_of_eq z2s.symm))) nin0) (ninS (nL (lL (lL z1m.ltb (lT (lT z1u.1 z28.1) z2j.1)) (Nat.le_of_eq z2s.symm))) nin0)).keep z5v (ninS (nL (lL (lL zh.lt (lT (lT (lT (lT zw.1 z12.1) z18.1) z1k.1) z1u.1)) (Nat.le_of_eq z22.symm))) nin0) (ninS (nL (lL (lL z1m.ltb (z1u.1)) (Nat.le_of_eq z22.symm))) nin0)).keep z7j (ninS (nL (lL (lL zh.lt (lT (lT (lT (lT (lT (lT zw.1 z12.1) z18.1) z1k.1) z1u.1) z28.1) z2j.1)) (Nat.le_of_eq z2s.symm))) nin0) (ninS (nL (lL (lL z1m.ltb (lT (lT z1u.1 z28.1) z2j.1)) (Nat.le_of_eq z2s.symm))) nin0)).keep z7z (ninS (nL (lL (lL zh.lt (lT (lT (lT (lT (lT (lT zw.1 z12.1) z18.1) z1k.1) z1u.1) z28.1) z2j.1)) (Nat.le_of_eq z2s.symm))) (ninS (nL (lL (lL zh.lt (lT (lT (lT (lT (lT (lT (lT (lT (lT zw.1 z12.1) z18.1) z1k.1) z1u.1) z28.1) z2j.1) z2y.1) z39.1) z5v.1)) z7k)) nin0)) (ninS (nL (lL (lL z1m.ltb (lT (lT z1u.1 z28.1) z2j.1)) (Nat.le_of_eq z2s.symm))) (ninS (nL (lL (lL z1m.ltb (lT (lT (lT (lT (lT z1u.1 z28.1) z2j.1) z2y.1) z39.1) z5v.1)) z7k)) nin0)))
      have z8e : Str Z z7v x_1873 t_1874 kb_1875 [((((p4.toUInt32 >>> ((8 : Int32) &&& 31).toUInt32).toInt32) &&& (255 : Int32)).toUInt32.toUInt16.toUInt32.toInt32)] := (((((((z1x.keep z28 nin0 nin0).keep z2j (ninS (nL (lL z1x.lt (Nat.le_of_eq z22.symm))) nin0) (ninS (nL (lL z1x.ltb (Nat.le_of_eq z22.symm))) nin0)).keep z2y nin0 nin0).keep z39 (ninS (nL (lL (lL z1x.lt (lT z28.1 z2j.1)) (Nat.le_of_eq z2s.symm))) nin0) (ninS (nL (lL (lL z1x.ltb (lT z28.1 z2j.1)) (Nat.le_of_eq z2s.symm))) nin0)).keep z5v (ninS (nL (lL z1x.lt (Nat.le_of_eq z22.symm))) nin0) (ninS (nL (lL z1x.ltb (Nat.le_of_eq z22.symm))) nin0)).keep z7j (ninS (nL (lL (lL z1x.lt (lT z28.1 z2j.1)) (Nat.le_of_eq z2s.symm))) nin0) (ninS (nL (lL (lL z1x.ltb (lT z28.1 z2j.1)) (Nat.le_of_eq z2s.symm))) nin0)).keep z7z (ninS (nL (lL (lL z1x.lt (lT z28.1 z2j.1)) (Nat.le_of_eq z2s.symm))) (ninS (nL (lL (lL z1x.lt (lT (lT (lT (lT z28.1 z2j.1) z2y.1) z39.1) z5v.1)) z7k)) nin0)) (ninS (nL (lL (lL z1x.ltb (lT z28.1 z2j.1)) (Nat.le_of_eq z2s.symm))) (ninS (nL (lL (lL z1x.ltb (lT (lT (lT (lT z28.1 z2j.1) z2y.1) z39.1) z5v.1)) z7k)) nin0)))
      have z8f : Old Z n0 z7v := (z7t.keep z7z (allS (lT (lT Z0 (z2o.1)) (Nat.le_of_eq z2s.symm)) (allS (lT (lT Z0 (z63.1)) z7k) all0)))
      exact (own_p1 l Z a0 hw (.val (.int p1)) (.val (.int p3)) (.val (.int p4)) (.val (.int p5)) (.val (.int p6)) p2 (p1 &&& (2147483647 : Int32)) x_1803 t_1804 kb_1805 [((p4 &&& (255 : Int32)).toUInt32.toUInt16.toUInt32.toInt32)] zd t_1859 kb_1860 ([(nar .char ((p5 &&& (255 : Int32)).toUInt32.toUInt16.toUInt32.toInt32)), (nar .char ((p6 &&& (255 : Int32)).toUInt32.toUInt16.toUInt32.toInt32))] : List Int32) x_1873 t_1874 kb_1875 [((((p4.toUInt32 >>> ((8 : Int32) &&& 31).toUInt32).toInt32) &&& (255 : Int32)).toUInt32.toUInt16.toUInt32.toInt32)] z21 t_2036 kk_2037 (1 : Int32) z2r t_2104 kk_2105 (2 : Int32) dc kd el ee ke em z7v n0 (lT Z0 (z85.1)) Lc0 z8c z8d z8e z8a z8b z8f (own_nneg p1) (by decide) (by decide) GA GE GM G GS GL GD hx hby hml hret hnm hown hlk hZ (z7x.more (by decide) (by decide))).imp (fun vv hh it ⟨Lq, ⟨vq, kq⟩, aq, gq⟩ => ⟨Lq, ⟨vq, z85.trans kq all0⟩, aq, (Jvm.Q9.Grow.refl _ _).trans gq (z85.1)⟩)
  · rw [hl97]
    show Jvm.Q9.Aim p e below s _ _ n0 _ z34 (mkF m 97 #[.val (.int p1), .val (.int p2), .val (.int p3), .val (.int p4), .val (.int p5), .val (.int p6), .val (.int (p1 &&& (2147483647 : Int32))), .val (.int 2), .val (.int ((((p3.toUInt32 >>> ((2 : Int32) &&& 31).toUInt32).toInt32) &&& (3 : Int32)) % (3 : Int32))), .val (.ref x_1803), .val (.ref zd), .val (.ref x_1873), .val (.ref z21), .val (.ref z2r), .unset, .unset, .unset, .unset, .unset, .unset, .unset] [])
    have H := z37.here
    refine Jvm.Q9.Aim.of (T' := z34) (g' := (mkF m 107 #[.val (.int p1), .val (.int p2), .val (.int p3), .val (.int p4), .val (.int p5), .val (.int p6), .val (.int (p1 &&& (2147483647 : Int32))), .val (.int 2), .val (.int ((((p3.toUInt32 >>> ((2 : Int32) &&& 31).toUInt32).toInt32) &&& (3 : Int32)) % (3 : Int32))), .val (.ref x_1803), .val (.ref zd), .val (.ref x_1873), .val (.ref z21), .val (.ref z2r), .unset, .unset, .unset, .unset, .unset, .unset, .unset] [(.ref x_1803), (.ref z21)])) (fun tgt kt => ?_) ?_
    · refine XS.iload H hx rfl (hb hby at_97) rfl ?_
      refine XS.iconst H hx rfl (hb hby at_99) ?_
      refine XS.icmpNo H hx rfl (hb hby at_100) rfl (flt (by decide)).1 ?_
      refine XS.aload H hx rfl (hb hby at_103) rfl rfl ?_
      refine XS.aload H hx rfl (hb hby at_105) rfl rfl ?_
      exact kt
    have z8g : Exa Z z35 z21 "java/util/ArrayList" := ((z2k.keep z2y).keep z39)
    have z8h : Fld Z z35 z21 "java/util/ArrayList" "elementData" "[Ljava/lang/Object;" (.ref dc) := ((z2l.keep z2y nin0).keep z39 (ninS (nL (lL (lL z25.lt (z2j.1)) (Nat.le_of_eq z2s.symm))) nin0))
    have z8i : Fld Z z35 z21 "java/util/ArrayList" "size" "I" (.int 0) := ((z2m.keep z2y nin0).keep z39 (ninS (nL (lL (lL z25.lt (z2j.1)) (Nat.le_of_eq z2s.symm))) nin0))
    have z8j : Fld Z z35 z21 "java/util/AbstractList" "modCount" "I" (.int 0) := ((z2n.keep z2y nin0).keep z39 (ninS (nL (lL (lL z25.lt (z2j.1)) (Nat.le_of_eq z2s.symm))) nin0))
    have z8k : Exa Z z35 x_1803 "java/lang/String" := ((((((((((z9.1.keep zk).keep zw).keep z12).keep z18).keep z1k).keep z1u).keep z28).keep z2j).keep z2y).keep z39)
    have z8l : Old Z n0 z35 := (z33.keep z39 (allS (lT (lT Z0 (z2o.1)) (Nat.le_of_eq z2s.symm)) all0))
    refine Jvm.Q9.Aim.callV (argsL := [(.ref x_1803)]) (rest := []) (y := (⟨"java/util/ArrayList", "add", "(Ljava/lang/Object;)Z"⟩ : MethodName)) (z := (⟨"java/util/ArrayList", "add", "(Ljava/lang/Object;)Z"⟩ : MethodName)) z37 hx hZ hml hown (wI hw 69 rfl) (wI hw 70 rfl) (fun vm0 hZ => notFace_of_selects (args := #[]) (mvT (s := s.setVm vm0) hZ (wI hw 72 rfl))) (wI hw 72 rfl) (wI hw 71 rfl) (by decide) z8g (fun vm0 hZ => Jvm.Y9.Con.back (s := s.setVm vm0) (W := 0) (own_add0 l Z a0 hw z21 x_1803 (0 : Int32) dc kd z35 n0 (lT Z0 (z3e.1)) (lT (lT Z0 (z1y.1)) (Nat.le_of_eq z22.symm)) z8g z8h z8i z8j z8k z8l GA) hZ (wI hw 73 rfl) (wI hw 47 rfl) (by decide) (by decide)) (fun _ _ ⟨_, _, _, q, _, _, _, _, _, _, _⟩ => q) (allS (Jvm.Q9.nl_new P0.ltL (lT (z1y.1) (Nat.le_of_eq z22.symm))) all0) rfl pd__28Ljava_2flang_2fObject_3b_29Z rfl (Nat.le_of_eq rfl) (hb hby at_107) (by decide) (by decide) ?_
    intro z8m z8n z8o z8p z8q
    obtain ⟨t_2154, kk_2155, rfl, z8r, z8s, z8t, z8u, z8v, z8w, z8x, z8y⟩ := z8q
    have z8z : Keep h0 z8n [] := z3e.trans z8r (allS (Or.inr (lT (z1y.1) (Nat.le_of_eq z22.symm))) all0)
    have H := z8p.here
    refine Jvm.Q9.Aim.of (T' := z8m) (g' := (mkF m 121 #[.val (.int p1), .val (.int p2), .val (.int p3), .val (.int p4), .val (.int p5), .val (.int p6), .val (.int (p1 &&& (2147483647 : Int32))), .val (.int 2), .val (.int ((((p3.toUInt32 >>> ((2 : Int32) &&& 31).toUInt32).toInt32) &&& (3 : Int32)) % (3 : Int32))), .val (.ref x_1803), .val (.ref zd), .val (.ref x_1873), .val (.ref z21), .val (.ref z2r), .unset, .unset, .unset, .unset, .unset, .unset, .unset] [(.ref zd), (.ref z21)])) (fun tgt kt => ?_) ?_
    · refine XS.pop H hx rfl (hb hby at_110) rfl rfl ?_
      refine XS.iload H hx rfl (hb hby at_111) rfl ?_
      refine XS.iconst H hx rfl (hb hby at_113) ?_
      refine XS.icmpNo H hx rfl (hb hby at_114) rfl (flt (by decide)).1 ?_
      refine XS.aload H hx rfl (hb hby at_117) rfl rfl ?_
      refine XS.aload H hx rfl (hb hby at_119) rfl rfl ?_
      exact kt
    have z90 : Exa Z z8n zd "java/lang/String" := (((((((z1b.keep z1k).keep z1u).keep z28).keep z2j).keep z2y).keep z39).keep z8r)
    have z91 : Old Z n0 z8n := (z8l.keep z8r (allS (lT (lT Z0 (z1y.1)) (Nat.le_of_eq z22.symm)) all0))
    refine Jvm.Q9.Aim.callV (argsL := [(.ref zd)]) (rest := []) (y := (⟨"java/util/ArrayList", "add", "(Ljava/lang/Object;)Z"⟩ : MethodName)) (z := (⟨"java/util/ArrayList", "add", "(Ljava/lang/Object;)Z"⟩ : MethodName)) z8p hx hZ hml hown (wI hw 69 rfl) (wI hw 70 rfl) (fun vm0 hZ => notFace_of_selects (args := #[]) (mvT (s := s.setVm vm0) hZ (wI hw 72 rfl))) (wI hw 72 rfl) (wI hw 71 rfl) (by decide) z8t (fun vm0 hZ => Jvm.Y9.Con.back (s := s.setVm vm0) (W := 0) (own_add1 l Z a0 hw z21 x_1803 zd ((0 : Int32) + (1 : Int32)) t_2154 kk_2155 z8n n0 (lT Z0 (z8z.1)) (lT (lT Z0 (z1y.1)) (Nat.le_of_eq z22.symm)) (lT (lT Z0 (z3e.1)) z8s) z8t z8u z8v z8w z8x z90 z91 z8y (nL (lL (lL z25.lt (lT (lT z2j.1 z2y.1) z39.1)) z8s))) hZ (wI hw 73 rfl) (wI hw 47 rfl) (by decide) (by decide)) (fun _ _ ⟨_, q, _, _, _, _, _⟩ => q) (allS (Jvm.Q9.nl_new P0.ltL (lT (z1y.1) (Nat.le_of_eq z22.symm))) (allS (Jvm.Q9.nl_new P0.ltL (lT (z3e.1) z8s)) all0)) rfl pd__28Ljava_2flang_2fObject_3b_29Z rfl (Nat.le_of_eq rfl) (hb hby at_121) (by decide) (by decide) ?_
    intro z92 z93 z94 z95 z96
    obtain ⟨rfl, z97, z98, z99, z9a, z9b, z9c⟩ := z96
    have z9d : Keep h0 z93 [] := z8z.trans z97 (allS (Or.inr (lT (z1y.1) (Nat.le_of_eq z22.symm))) (allS (Or.inr (lT (z3e.1) z8s)) all0))
    have H := z95.here
    refine Jvm.Q9.Aim.of (T' := z92) (g' := (mkF m 125 #[.val (.int p1), .val (.int p2), .val (.int p3), .val (.int p4), .val (.int p5), .val (.int p6), .val (.int (p1 &&& (2147483647 : Int32))), .val (.int 2), .val (.int ((((p3.toUInt32 >>> ((2 : Int32) &&& 31).toUInt32).toInt32) &&& (3 : Int32)) % (3 : Int32))), .val (.ref x_1803), .val (.ref zd), .val (.ref x_1873), .val (.ref z21), .val (.ref z2r), .unset, .unset, .unset, .unset, .unset, .unset, .unset] [])) (fun tgt kt => ?_) ?_
    · refine XS.pop H hx rfl (hb hby at_124) rfl rfl ?_
      exact kt
    rcases own_three ((p3.toUInt32 >>> ((2 : Int32) &&& 31).toUInt32).toInt32) with z3f | z3f | z3f
    · rw [z3f]
      show Jvm.Q9.Aim p e below s _ _ n0 _ z92 (mkF m 125 #[.val (.int p1), .val (.int p2), .val (.int p3), .val (.int p4), .val (.int p5), .val (.int p6), .val (.int (p1 &&& (2147483647 : Int32))), .val (.int 2), .val (.int 0), .val (.ref x_1803), .val (.ref zd), .val (.ref x_1873), .val (.ref z21), .val (.ref z2r), .unset, .unset, .unset, .unset, .unset, .unset, .unset] [])
      have H := z95.here
      refine Jvm.Q9.Aim.of (T' := z92) (g' := (mkF m 153 #[.val (.int p1), .val (.int p2), .val (.int p3), .val (.int p4), .val (.int p5), .val (.int p6), .val (.int (p1 &&& (2147483647 : Int32))), .val (.int 2), .val (.int 0), .val (.ref x_1803), .val (.ref zd), .val (.ref x_1873), .val (.ref z21), .val (.ref z2r), .unset, .unset, .unset, .unset, .unset, .unset, .unset] [])) (fun tgt kt => ?_) ?_
      · refine XS.iload H hx rfl (hb hby at_125) rfl ?_
        refine XS.iconst H hx rfl (hb hby at_127) ?_
        refine XS.icmpYes H hx rfl (pc0 := 128) (pc' := 139) rfl (hb hby at_128) rfl (tlt (by decide)).1 (by decide) (by decide) ?_
        refine XS.iload H hx rfl (hb hby at_139) rfl ?_
        refine XS.iconst H hx rfl (hb hby at_141) ?_
        refine XS.icmpYes H hx rfl (pc0 := 142) (pc' := 153) rfl (hb hby at_142) rfl (tlt (by decide)).1 (by decide) (by decide) ?_
        exact kt
      have z9e : Als Z z93 z21 t_2154 kk_2155 (2 : Int32) x_1803 zd := ⟨z98, z99, z9a, z9c.lt, Or.inr ⟨_, z9c, rfl, Or.inr ⟨rfl, rfl⟩⟩⟩
      have z9f : Exa Z z93 z2r "java/util/ArrayList" := ((z3a.keep z8r).keep z97)
      have z9g : Fld Z z93 z2r "java/util/ArrayList" "elementData" "[Ljava/lang/Object;" (.ref dc) := ((z3b.keep z8r (ninS (Ne.symm (nL (lL (lL z25.lt (z2j.1)) (Nat.le_of_eq z2s.symm)))) nin0)).keep z97 (ninS (Ne.symm (nL (lL (lL z25.lt (z2j.1)) (Nat.le_of_eq z2s.symm)))) (ninS (nL (lL (lL z2v.lt (z39.1)) z8s)) nin0)))
      have z9h : Fld Z z93 z2r "java/util/ArrayList" "size" "I" (.int 0) := ((z3c.keep z8r (ninS (Ne.symm (nL (lL (lL z25.lt (z2j.1)) (Nat.le_of_eq z2s.symm)))) nin0)).keep z97 (ninS (Ne.symm (nL (lL (lL z25.lt (z2j.1)) (Nat.le_of_eq z2s.symm)))) (ninS (nL (lL (lL z2v.lt (z39.1)) z8s)) nin0)))
      have z9i : Arv Z z93 dc kd (.object "java/lang/Object") (0 : Int32) [] (.null) := (((((((((((((z0.keep z6 nin0).keep zk nin0).keep zw nin0).keep z12 (ninS (nL (lL (lL z0.lt (zl.1)) (Nat.le_of_eq zs.symm))) nin0)).keep z18 (ninS (nL (lL (lL z0.lt (zl.1)) (Nat.le_of_eq zs.symm))) nin0)).keep z1k (ninS (nL (lL (lL z0.lt (za.1)) (Nat.le_of_eq ze.symm))) nin0)).keep z1u nin0).keep z28 nin0).keep z2j (ninS (nL (lL (lL z0.lt (z1y.1)) (Nat.le_of_eq z22.symm))) nin0)).keep z2y nin0).keep z39 (ninS (nL (lL (lL z0.lt (z2o.1)) (Nat.le_of_eq z2s.symm))) nin0)).keep z8r (ninS (nL (lL (lL z0.lt (z1y.1)) (Nat.le_of_eq z22.symm))) nin0)).keep z97 (ninS (nL (lL (lL z0.lt (z1y.1)) (Nat.le_of_eq z22.symm))) (ninS (nL (lL (lL z0.lt (z3e.1)) z8s)) nin0)))
      have z9j : Als Z z93 z2r dc kd (0 : Int32) zd x_1873 := ⟨z9f, z9g, z9h, z9i.lt, Or.inl rfl⟩
      have z9k : Str Z z93 x_1803 t_1804 kb_1805 [((p4 &&& (255 : Int32)).toUInt32.toUInt16.toUInt32.toInt32)] := ((((((((((((z9.keep zk nin0 nin0).keep zw nin0 nin0).keep z12 (ninS (nL (lL (lL z9.lt (zk.1)) (Nat.le_of_eq zs.symm))) nin0) (ninS (nL (lL (lL z9.ltb (zk.1)) (Nat.le_of_eq zs.symm))) nin0)).keep z18 (ninS (nL (lL (lL z9.lt (zk.1)) (Nat.le_of_eq zs.symm))) nin0) (ninS (nL (lL (lL z9.ltb (zk.1)) (Nat.le_of_eq zs.symm))) nin0)).keep z1k (ninS (nL (lL z9.lt (Nat.le_of_eq ze.symm))) nin0) (ninS (nL (lL z9.ltb (Nat.le_of_eq ze.symm))) nin0)).keep z1u nin0 nin0).keep z28 nin0 nin0).keep z2j (ninS (nL (lL (lL z9.lt (lT (lT (lT (lT (lT zk.1 zw.1) z12.1) z18.1) z1k.1) z1u.1)) (Nat.le_of_eq z22.symm))) nin0) (ninS (nL (lL (lL z9.ltb (lT (lT (lT (lT (lT zk.1 zw.1) z12.1) z18.1) z1k.1) z1u.1)) (Nat.le_of_eq z22.symm))) nin0)).keep z2y nin0 nin0).keep z39 (ninS (nL (lL (lL z9.lt (lT (lT (lT (lT (lT (lT (lT zk.1 zw.1) z12.1) z18.1) z1k.1) z1u.1) z28.1) z2j.1)) (Nat.le_of_eq z2s.symm))) nin0) (ninS (nL (lL (lL z9.ltb (lT (lT (lT (lT (lT (lT (lT zk.1 zw.1) z12.1) z18.1) z1k.1) z1u.1) z28.1) z2j.1)) (Nat.le_of_eq z2s.symm))) nin0)).keep z8r (ninS (nL (lL (lL z9.lt (lT (lT (lT (lT (lT zk.1 zw.1) z12.1) z18.1) z1k.1) z1u.1)) (Nat.le_of_eq z22.symm))) nin0) (ninS (nL (lL (lL z9.ltb (lT (lT (lT (lT (lT zk.1 zw.1) z12.1) z18.1) z1k.1) z1u.1)) (Nat.le_of_eq z22.symm))) nin0)).keep z97 (ninS (nL (lL (lL z9.lt (lT (lT (lT (lT (lT zk.1 zw.1) z12.1) z18.1) z1k.1) z1u.1)) (Nat.le_of_eq z22.symm))) (ninS (nL (lL (lL z9.lt (lT (lT (lT (lT (lT (lT (lT (lT (lT zk.1 zw.1) z12.1) z18.1) z1k.1) z1u.1) z28.1) z2j.1) z2y.1) z39.1)) z8s)) nin0)) (ninS (nL (lL (lL z9.ltb (lT (lT (lT (lT (lT zk.1 zw.1) z12.1) z18.1) z1k.1) z1u.1)) (Nat.le_of_eq z22.symm))) (ninS (nL (lL (lL z9.ltb (lT (lT (lT (lT (lT (lT (lT (lT (lT zk.1 zw.1) z12.1) z18.1) z1k.1) z1u.1) z28.1) z2j.1) z2y.1) z39.1)) z8s)) nin0)))
      have z9l : Str Z z93 zd t_1859 kb_1860 ([(nar .char ((p5 &&& (255 : Int32)).toUInt32.toUInt16.toUInt32.toInt32)), (nar .char ((p6 &&& (255 : Int32)).toUInt32.toUInt16.toUInt32.toInt32))] : List Int32) := (((((((z1m.keep z1u nin0 nin0).keep z28 nin0 nin0).keep z2j (ninS (nL (lL (lL zh.lt (lT (lT (lT (lT zw.1 z12.1) z18.1) z1k.1) z1u.1)) (Nat.le_of_eq z22.symm))) nin0) (ninS (nL (lL (lL z1m.ltb (z1u.1)) (Nat.le_of_eq z22.symm))) nin0)).keep z2y nin0 nin0).keep z39 (ninS (nL (lL (lL zh.lt (lT (lT (lT (lT (lT (lT zw.1 z12.1) z18.1) z1k.1) z1u.1) z28.1) z2j.1)) (Nat.le_of_eq z2s.symm))) nin0) (ninS (nL (lL (lL z1m.ltb (lT (lT z1u.1 z28.1) z2j.1)) (Nat.le_of_eq z2s.symm))) nin0)).keep z8r (ninS (nL (lL (lL zh.lt (lT (lT (lT (lT zw.1 z12.1) z18.1) z1k.1) z1u.1)) (Nat.le_of_eq z22.symm))) nin0) (ninS (nL (lL (lL z1m.ltb (z1u.1)) (Nat.le_of_eq z22.symm))) nin0)).keep z97 (ninS (nL (lL (lL zh.lt (lT (lT (lT (lT zw.1 z12.1) z18.1) z1k.1) z1u.1)) (Nat.le_of_eq z22.symm))) (ninS (nL (lL (lL zh.lt (lT (lT (lT (lT (lT (lT (lT (lT zw.1 z12.1) z18.1) z1k.1) z1u.1) z28.1) z2j.1) z2y.1) z39.1)) z8s)) nin0)) (ninS (nL (lL (lL z1m.ltb (z1u.1)) (Nat.le_of_eq z22.symm))) (ninS (nL (lL (lL z1m.ltb (lT (lT (lT (lT z1u.1 z28.1) z2j.1) z2y.1) z39.1)) z8s)) nin0)))
      have z9m : Str Z z93 x_1873 t_1874 kb_1875 [((((p4.toUInt32 >>> ((8 : Int32) &&& 31).toUInt32).toInt32) &&& (255 : Int32)).toUInt32.toUInt16.toUInt32.toInt32)] := ((((((z1x.keep z28 nin0 nin0).keep z2j (ninS (nL (lL z1x.lt (Nat.le_of_eq z22.symm))) nin0) (ninS (nL (lL z1x.ltb (Nat.le_of_eq z22.symm))) nin0)).keep z2y nin0 nin0).keep z39 (ninS (nL (lL (lL z1x.lt (lT z28.1 z2j.1)) (Nat.le_of_eq z2s.symm))) nin0) (ninS (nL (lL (lL z1x.ltb (lT z28.1 z2j.1)) (Nat.le_of_eq z2s.symm))) nin0)).keep z8r (ninS (nL (lL z1x.lt (Nat.le_of_eq z22.symm))) nin0) (ninS (nL (lL z1x.ltb (Nat.le_of_eq z22.symm))) nin0)).keep z97 (ninS (nL (lL z1x.lt (Nat.le_of_eq z22.symm))) (ninS (nL (lL (lL z1x.lt (lT (lT (lT z28.1 z2j.1) z2y.1) z39.1)) z8s)) nin0)) (ninS (nL (lL z1x.ltb (Nat.le_of_eq z22.symm))) (ninS (nL (lL (lL z1x.ltb (lT (lT (lT z28.1 z2j.1) z2y.1) z39.1)) z8s)) nin0)))
      have z9n : Old Z n0 z93 := (z91.keep z97 (allS (lT (lT Z0 (z1y.1)) (Nat.le_of_eq z22.symm)) (allS (lT (lT Z0 (z3e.1)) z8s) all0)))
      exact (own_p1 l Z a0 hw (.val (.int p1)) (.val (.int p3)) (.val (.int p4)) (.val (.int p5)) (.val (.int p6)) p2 (p1 &&& (2147483647 : Int32)) x_1803 t_1804 kb_1805 [((p4 &&& (255 : Int32)).toUInt32.toUInt16.toUInt32.toInt32)] zd t_1859 kb_1860 ([(nar .char ((p5 &&& (255 : Int32)).toUInt32.toUInt16.toUInt32.toInt32)), (nar .char ((p6 &&& (255 : Int32)).toUInt32.toUInt16.toUInt32.toInt32))] : List Int32) x_1873 t_1874 kb_1875 [((((p4.toUInt32 >>> ((8 : Int32) &&& 31).toUInt32).toInt32) &&& (255 : Int32)).toUInt32.toUInt16.toUInt32.toInt32)] z21 t_2154 kk_2155 (2 : Int32) z2r dc kd (0 : Int32) dc kd el ee ke em z93 n0 (lT Z0 (z9d.1)) Lc0 z9k z9l z9m z9e z9j z9n (own_nneg p1) (by decide) (by decide) GA GE GM G GS GL GD hx hby hml hret hnm hown hlk hZ (z95.more (by decide) (by decide))).imp (fun vv hh it ⟨Lq, ⟨vq, kq⟩, aq, gq⟩ => ⟨Lq, ⟨vq, z9d.trans kq all0⟩, aq, (Jvm.Q9.Grow.refl _ _).trans gq (z9d.1)⟩)
    · rw [z3f]
      show Jvm.Q9.Aim p e below s _ _ n0 _ z92 (mkF m 125 #[.val (.int p1), .val (.int p2), .val (.int p3), .val (.int p4), .val (.int p5), .val (.int p6), .val (.int (p1 &&& (2147483647 : Int32))), .val (.int 2), .val (.int 1), .val (.ref x_1803), .val (.ref zd), .val (.ref x_1873), .val (.ref z21), .val (.ref z2r), .unset, .unset, .unset, .unset, .unset, .unset, .unset] [])
      have H := z95.here
      refine Jvm.Q9.Aim.of (T' := z92) (g' := (mkF m 135 #[.val (.int p1), .val (.int p2), .val (.int p3), .val (.int p4), .val (.int p5), .val (.int p6), .val (.int (p1 &&& (2147483647 : Int32))), .val (.int 2), .val (.int 1), .val (.ref x_1803), .val (.ref zd), .val (.ref x_1873), .val (.ref z21), .val (.ref z2r), .unset, .unset, .unset, .unset, .unset, .unset, .unset] [(.ref zd), (.ref z2r)])) (fun tgt kt => ?_) ?_
      · refine XS.iload H hx rfl (hb hby at_125) rfl ?_
        refine XS.iconst H hx rfl (hb hby at_127) ?_
        refine XS.icmpNo H hx rfl (hb hby at_128) rfl (flt (by decide)).1 ?_
        refine XS.aload H hx rfl (hb hby at_131) rfl rfl ?_
        refine XS.aload H hx rfl (hb hby at_133) rfl rfl ?_
        exact kt
      have z9o : Exa Z z93 z2r "java/util/ArrayList" := ((z3a.keep z8r).keep z97)
      have z9p : Fld Z z93 z2r "java/util/ArrayList" "elementData" "[Ljava/lang/Object;" (.ref dc) := ((z3b.keep z8r (ninS (Ne.symm (nL (lL (lL z25.lt (z2j.1)) (Nat.le_of_eq z2s.symm)))) nin0)).keep z97 (ninS (Ne.symm (nL (lL (lL z25.lt (z2j.1)) (Nat.le_of_eq z2s.symm)))) (ninS (nL (lL (lL z2v.lt (z39.1)) z8s)) nin0)))
      have z9q : Fld Z z93 z2r "java/util/ArrayList" "size" "I" (.int 0) := ((z3c.keep z8r (ninS (Ne.symm (nL (lL (lL z25.lt (z2j.1)) (Nat.le_of_eq z2s.symm)))) nin0)).keep z97 (ninS (Ne.symm (nL (lL (lL z25.lt (z2j.1)) (Nat.le_of_eq z2s.symm)))) (ninS (nL (lL (lL z2v.lt (z39.1)) z8s)) nin0)))
      have z9r : Fld Z z93 z2r "java/util/AbstractList" "modCount" "I" (.int 0) := ((z3d.keep z8r (ninS (Ne.symm (nL (lL (lL z25.lt (z2j.1)) (Nat.le_of_eq z2s.symm)))) nin0)).keep z97 (ninS (Ne.symm (nL (lL (lL z25.lt (z2j.1)) (Nat.le_of_eq z2s.symm)))) (ninS (nL (lL (lL z2v.lt (z39.1)) z8s)) nin0)))
      have z9s : Exa Z z93 zd "java/lang/String" := (z90.keep z97)
      have z9t : Old Z n0 z93 := (z91.keep z97 (allS (lT (lT Z0 (z1y.1)) (Nat.le_of_eq z22.symm)) (allS (lT (lT Z0 (z3e.1)) z8s) all0)))
      refine Jvm.Q9.Aim.callV (argsL := [(.ref zd)]) (rest := []) (y := (⟨"java/util/ArrayList", "add", "(Ljava/lang/Object;)Z"⟩ : MethodName)) (z := (⟨"java/util/ArrayList", "add", "(Ljava/lang/Object;)Z"⟩ : MethodName)) z95 hx hZ hml hown (wI hw 69 rfl) (wI hw 70 rfl) (fun vm0 hZ => notFace_of_selects (args := #[]) (mvT (s := s.setVm vm0) hZ (wI hw 72 rfl))) (wI hw 72 rfl) (wI hw 71 rfl) (by decide) z9o (fun vm0 hZ => Jvm.Y9.Con.back (s := s.setVm vm0) (W := 0) (own_add0 l Z a0 hw z2r zd (0 : Int32) dc kd z93 n0 (lT Z0 (z9d.1)) (lT (lT Z0 (z2o.1)) (Nat.le_of_eq z2s.symm)) z9o z9p z9q z9r z9s z9t GA) hZ (wI hw 73 rfl) (wI hw 47 rfl) (by decide) (by decide)) (fun _ _ ⟨_, _, _, q, _, _, _, _, _, _, _⟩ => q) (allS (Jvm.Q9.nl_new P0.ltL (lT (z2o.1) (Nat.le_of_eq z2s.symm))) all0) rfl pd__28Ljava_2flang_2fObject_3b_29Z rfl (Nat.le_of_eq rfl) (hb hby at_135) (by decide) (by decide) ?_
      intro z9u z9v z9w z9x z9y
      obtain ⟨t_2204, kk_2205, rfl, z9z, za0, za1, za2, za3, za4, za5, za6⟩ := z9y
      have za7 : Keep h0 z9v [] := z9d.trans z9z (allS (Or.inr (lT (z2o.1) (Nat.le_of_eq z2s.symm))) all0)
      have H := z9x.here
      refine Jvm.Q9.Aim.of (T' := z9u) (g' := (mkF m 153 #[.val (.int p1), .val (.int p2), .val (.int p3), .val (.int p4), .val (.int p5), .val (.int p6), .val (.int (p1 &&& (2147483647 : Int32))), .val (.int 2), .val (.int 1), .val (.ref x_1803), .val (.ref zd), .val (.ref x_1873), .val (.ref z21), .val (.ref z2r), .unset, .unset, .unset, .unset, .unset, .unset, .unset] [])) (fun tgt kt => ?_) ?_
      · refine XS.pop H hx rfl (hb hby at_138) rfl rfl ?_
        refine XS.iload H hx rfl (hb hby at_139) rfl ?_
        refine XS.iconst H hx rfl (hb hby at_141) ?_
        refine XS.icmpYes H hx rfl (pc0 := 142) (pc' := 153) rfl (hb hby at_142) rfl (tlt (by decide)).1 (by decide) (by decide) ?_
        exact kt
      have za8 : Exa Z z9v z21 "java/util/ArrayList" := (z98.keep z9z)
      have za9 : Fld Z z9v z21 "java/util/ArrayList" "elementData" "[Ljava/lang/Object;" (.ref t_2154) := (z99.keep z9z (ninS (nL (lL (lL z25.lt (z2j.1)) (Nat.le_of_eq z2s.symm))) nin0))
      have zaa : Fld Z z9v z21 "java/util/ArrayList" "size" "I" (.int 2) := (z9a.keep z9z (ninS (nL (lL (lL z25.lt (z2j.1)) (Nat.le_of_eq z2s.symm))) nin0))
      have zab : Arv Z z9v t_2154 kk_2155 (.object "java/lang/Object") (10 : Int32) [(.ref x_1803), (.ref zd), .null, .null, .null, .null, .null, .null, .null, .null] (.null) := (z9c.keep z9z (ninS (Ne.symm (nL (lL (lL z2v.lt (z39.1)) z8s))) nin0))
      have zac : Als Z z9v z21 t_2154 kk_2155 (2 : Int32) x_1803 zd := ⟨za8, za9, zaa, zab.lt, Or.inr ⟨_, zab, rfl, Or.inr ⟨rfl, rfl⟩⟩⟩
      have zad : Als Z z9v z2r t_2204 kk_2205 (1 : Int32) zd x_1873 := ⟨za1, za2, za3, za5.lt, Or.inr ⟨_, za5, rfl, Or.inl rfl⟩⟩
      have zae : Str Z z9v x_1803 t_1804 kb_1805 [((p4 &&& (255 : Int32)).toUInt32.toUInt16.toUInt32.toInt32)] := (((((((((((((z9.keep zk nin0 nin0).keep zw nin0 nin0).keep z12 (ninS (nL (lL (lL z9.lt (zk.1)) (Nat.le_of_eq zs.symm))) nin0) (ninS (nL (lL (lL z9.ltb (zk.1)) (Nat.le_of_eq zs.symm))) nin0)).keep z18 (ninS (nL (lL (lL z9.lt (zk.1)) (Nat.le_of_eq zs.symm))) nin0) (ninS (nL (lL (lL z9.ltb (zk.1)) (Nat.le_of_eq zs.symm))) nin0)).keep z1k (ninS (nL (lL z9.lt (Nat.le_of_eq ze.symm))) nin0) (ninS (nL (lL z9.ltb (Nat.le_of_eq ze.symm))) nin0)).keep z1u nin0 nin0).keep z28 nin0 nin0).keep z2j (ninS (nL (lL (lL z9.lt (lT (lT (lT (lT (lT zk.1 zw.1) z12.1) z18.1) z1k.1) z1u.1)) (Nat.le_of_eq z22.symm))) nin0) (ninS (nL (lL (lL z9.ltb (lT (lT (lT (lT (lT zk.1 zw.1) z12.1) z18.1) z1k.1) z1u.1)) (Nat.le_of_eq z22.symm))) nin0)).keep z2y nin0 nin0).keep z39 (ninS (nL (lL (lL z9.lt (lT (lT (lT (lT (lT (lT (lT zk.1 zw.1) z12.1) z18.1) z1k.1) z1u.1) z28.1) z2j.1)) (Nat.le_of_eq z2s.symm))) nin0) (ninS (nL (lL (lL z9.ltb (lT (lT (lT (lT (lT (lT (lT zk.1 zw.1) z12.1) z18.1) z1k.1) z1u.1) z28.1) z2j.1)) (Nat.le_of_eq z2s.symm))) nin0)).keep z8r (ninS (nL (lL (lL z9.lt (lT (lT (lT (lT (lT zk.1 zw.1) z12.1) z18.1) z1k.1) z1u.1)) (Nat.le_of_eq z22.symm))) nin0) (ninS (nL (lL (lL z9.ltb (lT (lT (lT (lT (lT zk.1 zw.1) z12.1) z18.1) z1k.1) z1u.1)) (Nat.le_of_eq z22.symm))) nin0)).keep z97 (ninS (nL (lL (lL z9.lt (lT (lT (lT (lT (lT zk.1 zw.1) z12.1) z18.1) z1k.1) z1u.1)) (Nat.le_of_eq z22.symm))) (ninS (nL (lL (lL z9.lt (lT (lT (lT (lT (lT (lT (lT (lT (lT zk.1 zw.1) z12.1) z18.1) z1k.1) z1u.1) z28.1) z2j.1) z2y.1) z39.1)) z8s)) nin0)) (ninS (nL (lL (lL z9.ltb (lT (lT (lT (lT (lT zk.1 zw.1) z12.1) z18.1) z1k.1) z1u.1)) (Nat.le_of_eq z22.symm))) (ninS (nL (lL (lL z9.ltb (lT (lT (lT (lT (lT (lT (lT (lT (lT zk.1 zw.1) z12.1) z18.1) z1k.1) z1u.1) z28.1) z2j.1) z2y.1) z39.1)) z8s)) nin0))).keep z9z (ninS (nL (lL (lL z9.lt (lT (lT (lT (lT (lT (lT (lT zk.1 zw.1) z12.1) z18.1) z1k.1) z1u.1) z28.1) z2j.1)) (Nat.le_of_eq z2s.symm))) nin0) (ninS (nL (lL (lL z9.ltb (lT (lT (lT (lT (lT (lT (lT zk.1 zw.1) z12.1) z18.1) z1k.1) z1u.1) z28.1) z2j.1)) (Nat.le_of_eq z2s.symm))) nin0))
      have zaf : Str Z z9v zd t_1859 kb_1860 ([(nar .char ((p5 &&& (255 : Int32)).toUInt32.toUInt16.toUInt32.toInt32)), (nar .char ((p6 &&& (255 : Int32)).toUInt32.toUInt16.toUInt32.toInt32))] : List Int32) := ((((((((z1m.keep z1u nin0 nin0).keep z28 nin0 nin0).keep z2j (ninS (nL (lL (lL zh.lt (lT (lT (lT (lT zw.1 z12.1) z18.1) z1k.1) z1u.1)) (Nat.le_of_eq z22.symm))) nin0) (ninS (nL (lL (lL z1m.ltb (z1u.1)) (Nat.le_of_eq z22.symm))) nin0)).keep z2y nin0 nin0).keep z39 (ninS (nL (lL (lL zh.lt (lT (lT (lT (lT (lT (lT zw.1 z12.1) z18.1) z1k.1) z1u.1) z28.1) z2j.1)) (Nat.le_of_eq z2s.symm))) nin0) (ninS (nL (lL (lL z1m.ltb (lT (lT z1u.1 z28.1) z2j.1)) (Nat.le_of_eq z2s.symm))) nin0)).keep z8r (ninS (nL (lL (lL zh.lt (lT (lT (lT (lT zw.1 z12.1) z18.1) z1k.1) z1u.1)) (Nat.le_of_eq z22.symm))) nin0) (ninS (nL (lL (lL z1m.ltb (z1u.1)) (Nat.le_of_eq z22.symm))) nin0)).keep z97 (ninS (nL (lL (lL zh.lt (lT (lT (lT (lT zw.1 z12.1) z18.1) z1k.1) z1u.1)) (Nat.le_of_eq z22.symm))) (ninS (nL (lL (lL zh.lt (lT (lT (lT (lT (lT (lT (lT (lT zw.1 z12.1) z18.1) z1k.1) z1u.1) z28.1) z2j.1) z2y.1) z39.1)) z8s)) nin0)) (ninS (nL (lL (lL z1m.ltb (z1u.1)) (Nat.le_of_eq z22.symm))) (ninS (nL (lL (lL z1m.ltb (lT (lT (lT (lT z1u.1 z28.1) z2j.1) z2y.1) z39.1)) z8s)) nin0))).keep z9z (ninS (nL (lL (lL zh.lt (lT (lT (lT (lT (lT (lT zw.1 z12.1) z18.1) z1k.1) z1u.1) z28.1) z2j.1)) (Nat.le_of_eq z2s.symm))) nin0) (ninS (nL (lL (lL z1m.ltb (lT (lT z1u.1 z28.1) z2j.1)) (Nat.le_of_eq z2s.symm))) nin0))
      have zag : Str Z z9v x_1873 t_1874 kb_1875 [((((p4.toUInt32 >>> ((8 : Int32) &&& 31).toUInt32).toInt32) &&& (255 : Int32)).toUInt32.toUInt16.toUInt32.toInt32)] := (((((((z1x.keep z28 nin0 nin0).keep z2j (ninS (nL (lL z1x.lt (Nat.le_of_eq z22.symm))) nin0) (ninS (nL (lL z1x.ltb (Nat.le_of_eq z22.symm))) nin0)).keep z2y nin0 nin0).keep z39 (ninS (nL (lL (lL z1x.lt (lT z28.1 z2j.1)) (Nat.le_of_eq z2s.symm))) nin0) (ninS (nL (lL (lL z1x.ltb (lT z28.1 z2j.1)) (Nat.le_of_eq z2s.symm))) nin0)).keep z8r (ninS (nL (lL z1x.lt (Nat.le_of_eq z22.symm))) nin0) (ninS (nL (lL z1x.ltb (Nat.le_of_eq z22.symm))) nin0)).keep z97 (ninS (nL (lL z1x.lt (Nat.le_of_eq z22.symm))) (ninS (nL (lL (lL z1x.lt (lT (lT (lT z28.1 z2j.1) z2y.1) z39.1)) z8s)) nin0)) (ninS (nL (lL z1x.ltb (Nat.le_of_eq z22.symm))) (ninS (nL (lL (lL z1x.ltb (lT (lT (lT z28.1 z2j.1) z2y.1) z39.1)) z8s)) nin0))).keep z9z (ninS (nL (lL (lL z1x.lt (lT z28.1 z2j.1)) (Nat.le_of_eq z2s.symm))) nin0) (ninS (nL (lL (lL z1x.ltb (lT z28.1 z2j.1)) (Nat.le_of_eq z2s.symm))) nin0))
      have zah : Old Z n0 z9v := (z9t.keep z9z (allS (lT (lT Z0 (z2o.1)) (Nat.le_of_eq z2s.symm)) all0))
      exact (own_p1 l Z a0 hw (.val (.int p1)) (.val (.int p3)) (.val (.int p4)) (.val (.int p5)) (.val (.int p6)) p2 (p1 &&& (2147483647 : Int32)) x_1803 t_1804 kb_1805 [((p4 &&& (255 : Int32)).toUInt32.toUInt16.toUInt32.toInt32)] zd t_1859 kb_1860 ([(nar .char ((p5 &&& (255 : Int32)).toUInt32.toUInt16.toUInt32.toInt32)), (nar .char ((p6 &&& (255 : Int32)).toUInt32.toUInt16.toUInt32.toInt32))] : List Int32) x_1873 t_1874 kb_1875 [((((p4.toUInt32 >>> ((8 : Int32) &&& 31).toUInt32).toInt32) &&& (255 : Int32)).toUInt32.toUInt16.toUInt32.toInt32)] z21 t_2154 kk_2155 (2 : Int32) z2r t_2204 kk_2205 (1 : Int32) dc kd el ee ke em z9v n0 (lT Z0 (za7.1)) Lc0 zae zaf zag zac zad zah (own_nneg p1) (by decide) (by decide) GA GE GM G GS GL GD hx hby hml hret hnm hown hlk hZ (z9x.more (by decide) (by decide))).imp (fun vv hh it ⟨Lq, ⟨vq, kq⟩, aq, gq⟩ => ⟨Lq, ⟨vq, za7.trans kq all0⟩, aq, (Jvm.Q9.Grow.refl _ _).trans gq (za7.1)⟩)
    · rw [z3f]
      show Jvm.Q9.Aim p e below s _ _ n0 _ z92 (mkF m 125 #[.val (.int p1), .val (.int p2), .val (.int p3), .val (.int p4), .val (.int p5), .val (.int p6), .val (.int (p1 &&& (2147483647 : Int32))), .val (.int 2), .val (.int 2), .val (.ref x_1803), .val (.ref zd), .val (.ref x_1873), .val (.ref z21), .val (.ref z2r), .unset, .unset, .unset, .unset, .unset, .unset, .unset] [])
      have H := z95.here
      refine Jvm.Q9.Aim.of (T' := z92) (g' := (mkF m 135 #[.val (.int p1), .val (.int p2), .val (.int p3), .val (.int p4), .val (.int p5), .val (.int p6), .val (.int (p1 &&& (2147483647 : Int32))), .val (.int 2), .val (.int 2), .val (.ref x_1803), .val (.ref zd), .val (.ref x_1873), .val (.ref z21), .val (.ref z2r), .unset, .unset, .unset, .unset, .unset, .unset, .unset] [(.ref zd), (.ref z2r)])) (fun tgt kt => ?_) ?_
      · refine XS.iload H hx rfl (hb hby at_125) rfl ?_
        refine XS.iconst H hx rfl (hb hby at_127) ?_
        refine XS.icmpNo H hx rfl (hb hby at_128) rfl (flt (by decide)).1 ?_
        refine XS.aload H hx rfl (hb hby at_131) rfl rfl ?_
        refine XS.aload H hx rfl (hb hby at_133) rfl rfl ?_
        exact kt
      have zai : Exa Z z93 z2r "java/util/ArrayList" := ((z3a.keep z8r).keep z97)
      have zaj : Fld Z z93 z2r "java/util/ArrayList" "elementData" "[Ljava/lang/Object;" (.ref dc) := ((z3b.keep z8r (ninS (Ne.symm (nL (lL (lL z25.lt (z2j.1)) (Nat.le_of_eq z2s.symm)))) nin0)).keep z97 (ninS (Ne.symm (nL (lL (lL z25.lt (z2j.1)) (Nat.le_of_eq z2s.symm)))) (ninS (nL (lL (lL z2v.lt (z39.1)) z8s)) nin0)))
      have zak : Fld Z z93 z2r "java/util/ArrayList" "size" "I" (.int 0) := ((z3c.keep z8r (ninS (Ne.symm (nL (lL (lL z25.lt (z2j.1)) (Nat.le_of_eq z2s.symm)))) nin0)).keep z97 (ninS (Ne.symm (nL (lL (lL z25.lt (z2j.1)) (Nat.le_of_eq z2s.symm)))) (ninS (nL (lL (lL z2v.lt (z39.1)) z8s)) nin0)))
      have zal : Fld Z z93 z2r "java/util/AbstractList" "modCount" "I" (.int 0) := ((z3d.keep z8r (ninS (Ne.symm (nL (lL (lL z25.lt (z2j.1)) (Nat.le_of_eq z2s.symm)))) nin0)).keep z97 (ninS (Ne.symm (nL (lL (lL z25.lt (z2j.1)) (Nat.le_of_eq z2s.symm)))) (ninS (nL (lL (lL z2v.lt (z39.1)) z8s)) nin0)))
      have zam : Exa Z z93 zd "java/lang/String" := (z90.keep z97)
      have zan : Old Z n0 z93 := (z91.keep z97 (allS (lT (lT Z0 (z1y.1)) (Nat.le_of_eq z22.symm)) (allS (lT (lT Z0 (z3e.1)) z8s) all0)))
      refine Jvm.Q9.Aim.callV (argsL := [(.ref zd)]) (rest := []) (y := (⟨"java/util/ArrayList", "add", "(Ljava/lang/Object;)Z"⟩ : MethodName)) (z := (⟨"java/util/ArrayList", "add", "(Ljava/lang/Object;)Z"⟩ : MethodName)) z95 hx hZ hml hown (wI hw 69 rfl) (wI hw 70 rfl) (fun vm0 hZ => notFace_of_selects (args := #[]) (mvT (s := s.setVm vm0) hZ (wI hw 72 rfl))) (wI hw 72 rfl) (wI hw 71 rfl) (by decide) zai (fun vm0 hZ => Jvm.Y9.Con.back (s := s.setVm vm0) (W := 0) (own_add0 l Z a0 hw z2r zd (0 : Int32) dc kd z93 n0 (lT Z0 (z9d.1)) (lT (lT Z0 (z2o.1)) (Nat.le_of_eq z2s.symm)) zai zaj zak zal zam zan GA) hZ (wI hw 73 rfl) (wI hw 47 rfl) (by decide) (by decide)) (fun _ _ ⟨_, _, _, q, _, _, _, _, _, _, _⟩ => q) (allS (Jvm.Q9.nl_new P0.ltL (lT (z2o.1) (Nat.le_of_eq z2s.symm))) all0) rfl pd__28Ljava_2flang_2fObject_3b_29Z rfl (Nat.le_of_eq rfl) (hb hby at_135) (by decide) (by decide) ?_
      intro zao zap zaq zar zas
      obtain ⟨t_2238, kk_2239, rfl, zat, zau, zav, zaw, zax, zay, zaz, zb0⟩ := zas
      have zb1 : Keep h0 zap [] := z9d.trans zat (allS (Or.inr (lT (z2o.1) (Nat.le_of_eq z2s.symm))) all0)
      have H := zar.here
      refine Jvm.Q9.Aim.of (T' := zao) (g' := (mkF m 149 #[.val (.int p1), .val (.int p2), .val (.int p3), .val (.int p4), .val (.int p5), .val (.int p6), .val (.int (p1 &&& (2147483647 : Int32))), .val (.int 2), .val (.int 2), .val (.ref x_1803), .val (.ref zd), .val (.ref x_1873), .val (.ref z21), .val (.ref z2r), .unset, .unset, .unset, .unset, .unset, .unset, .unset] [(.ref x_1873), (.ref z2r)])) (fun tgt kt => ?_) ?_
      · refine XS.pop H hx rfl (hb hby at_138) rfl rfl ?_
        refine XS.iload H hx rfl (hb hby at_139) rfl ?_
        refine XS.iconst H hx rfl (hb hby at_141) ?_
        refine XS.icmpNo H hx rfl (hb hby at_142) rfl (flt (by decide)).1 ?_
        refine XS.aload H hx rfl (hb hby at_145) rfl rfl ?_
        refine XS.aload H hx rfl (hb hby at_147) rfl rfl ?_
        exact kt
      have zb2 : Exa Z zap x_1873 "java/lang/String" := (((((((z1x.1.keep z28).keep z2j).keep z2y).keep z39).keep z8r).keep z97).keep zat)
      have zb3 : Old Z n0 zap := (zan.keep zat (allS (lT (lT Z0 (z2o.1)) (Nat.le_of_eq z2s.symm)) all0))
      refine Jvm.Q9.Aim.callV (argsL := [(.ref x_1873)]) (rest := []) (y := (⟨"java/util/ArrayList", "add", "(Ljava/lang/Object;)Z"⟩ : MethodName)) (z := (⟨"java/util/ArrayList", "add", "(Ljava/lang/Object;)Z"⟩ : MethodName)) zar hx hZ hml hown (wI hw 69 rfl) (wI hw 70 rfl) (fun vm0 hZ => notFace_of_selects (args := #[]) (mvT (s := s.setVm vm0) hZ (wI hw 72 rfl))) (wI hw 72 rfl) (wI hw 71 rfl) (by decide) zav (fun vm0 hZ => Jvm.Y9.Con.back (s := s.setVm vm0) (W := 0) (own_add1 l Z a0 hw z2r zd x_1873 ((0 : Int32) + (1 : Int32)) t_2238 kk_2239 zap n0 (lT Z0 (zb1.1)) (lT (lT Z0 (z2o.1)) (Nat.le_of_eq z2s.symm)) (lT (lT Z0 (z9d.1)) zau) zav zaw zax zay zaz zb2 zb3 zb0 (nL (lL (lL z2v.lt (lT (lT z39.1 z8r.1) z97.1)) zau))) hZ (wI hw 73 rfl) (wI hw 47 rfl) (by decide) (by decide)) (fun _ _ ⟨_, q, _, _, _, _, _⟩ => q) (allS (Jvm.Q9.nl_new P0.ltL (lT (z2o.1) (Nat.le_of_eq z2s.symm))) (allS (Jvm.Q9.nl_new P0.ltL (lT (z9d.1) zau)) all0)) rfl pd__28Ljava_2flang_2fObject_3b_29Z rfl (Nat.le_of_eq rfl) (hb hby at_149) (by decide) (by decide) ?_
      intro zb4 zb5 zb6 zb7 zb8
      obtain ⟨rfl, zb9, zba, zbb, zbc, zbd, zbe⟩ := zb8
      have zbf : Keep h0 zb5 [] := zb1.trans zb9 (allS (Or.inr (lT (z2o.1) (Nat.le_of_eq z2s.symm))) (allS (Or.inr (lT (z9d.1) zau)) all0))
      have H := zb7.here
      refine Jvm.Q9.Aim.of (T' := zb4) (g' := (mkF m 153 #[.val (.int p1), .val (.int p2), .val (.int p3), .val (.int p4), .val (.int p5), .val (.int p6), .val (.int (p1 &&& (2147483647 : Int32))), .val (.int 2), .val (.int 2), .val (.ref x_1803), .val (.ref zd), .val (.ref x_1873), .val (.ref z21), .val (.ref z2r), .unset, .unset, .unset, .unset, .unset, .unset, .unset] [])) (fun tgt kt => ?_) ?_
      · refine XS.pop H hx rfl (hb hby at_152) rfl rfl ?_
        exact kt
      have zbg : Exa Z zb5 z21 "java/util/ArrayList" := ((z98.keep zat).keep zb9)
      have zbh : Fld Z zb5 z21 "java/util/ArrayList" "elementData" "[Ljava/lang/Object;" (.ref t_2154) := ((z99.keep zat (ninS (nL (lL (lL z25.lt (z2j.1)) (Nat.le_of_eq z2s.symm))) nin0)).keep zb9 (ninS (nL (lL (lL z25.lt (z2j.1)) (Nat.le_of_eq z2s.symm))) (ninS (nL (lL (lL z25.lt (lT (lT (lT (lT z2j.1 z2y.1) z39.1) z8r.1) z97.1)) zau)) nin0)))
      have zbi : Fld Z zb5 z21 "java/util/ArrayList" "size" "I" (.int 2) := ((z9a.keep zat (ninS (nL (lL (lL z25.lt (z2j.1)) (Nat.le_of_eq z2s.symm))) nin0)).keep zb9 (ninS (nL (lL (lL z25.lt (z2j.1)) (Nat.le_of_eq z2s.symm))) (ninS (nL (lL (lL z25.lt (lT (lT (lT (lT z2j.1 z2y.1) z39.1) z8r.1) z97.1)) zau)) nin0)))
      have zbj : Arv Z zb5 t_2154 kk_2155 (.object "java/lang/Object") (10 : Int32) [(.ref x_1803), (.ref zd), .null, .null, .null, .null, .null, .null, .null, .null] (.null) := ((z9c.keep zat (ninS (Ne.symm (nL (lL (lL z2v.lt (z39.1)) z8s))) nin0)).keep zb9 (ninS (Ne.symm (nL (lL (lL z2v.lt (z39.1)) z8s))) (ninS (nL (lL (lL z8x.lt (z97.1)) zau)) nin0)))
      have zbk : Als Z zb5 z21 t_2154 kk_2155 (2 : Int32) x_1803 zd := ⟨zbg, zbh, zbi, zbj.lt, Or.inr ⟨_, zbj, rfl, Or.inr ⟨rfl, rfl⟩⟩⟩
      have zbl : Als Z zb5 z2r t_2238 kk_2239 (2 : Int32) zd x_1873 := ⟨zba, zbb, zbc, zbe.lt, Or.inr ⟨_, zbe, rfl, Or.inr ⟨rfl, rfl⟩⟩⟩
      have zbm : Str Z zb5 x_1803 t_1804 kb_1805 [((p4 &&& (255 : Int32)).toUInt32.toUInt16.toUInt32.toInt32)] := ((((((((((((((z9.keep zk nin0 nin0).keep zw nin0 nin0).keep z12 (ninS (nL (lL (lL z9.lt (zk.1)) (Nat.le_of_eq zs.symm))) nin0) (ninS (nL (lL (lL z9.ltb (zk.1)) (Nat.le_of_eq zs.symm))) nin0)).keep z18 (ninS (nL (lL (lL z9.lt (zk.1)) (Nat.le_of_eq zs.symm))) nin0) (ninS (nL (lL (lL z9.ltb (zk.1)) (Nat.le_of_eq zs.symm))) nin0)).keep z1k (ninS (nL (lL z9.lt (Nat.le_of_eq ze.symm))) nin0) (ninS (nL (lL z9.ltb (Nat.le_of_eq ze.symm))) nin0)).keep z1u nin0 nin0).keep z28 nin0 nin0).keep z2j (ninS (nL (lL (lL z9.lt (lT (lT (lT (lT (lT zk.1 zw.1) z12.1) z18.1) z1k.1) z1u.1)) (Nat.le_of_eq z22.symm))) nin0) (ninS (nL (lL (lL z9.ltb (lT (lT (lT (lT (lT zk.1 zw.1) z12.1) z18.1) z1k.1) z1u.1)) (Nat.le_of_eq z22.symm))) nin0)).keep z2y nin0 nin0).keep z39 (ninS (nL (lL (lL z9.lt (lT (lT (lT (lT (lT (lT (lT zk.1 zw.1) z12.1) z18.1) z1k.1) z1u.1) z28.1) z2j.1)) (Nat.le_of_eq z2s.symm))) nin0) (ninS (nL (lL (lL z9.ltb (lT (lT (lT (lT (lT (lT (lT zk.1 zw.1) z12.1) z18.1) z1k.1) z1u.1) z28.1) z2j.1)) (Nat.le_of_eq z2s.symm))) nin0)).keep z8r (ninS (nL (lL (lL z9.lt (lT (lT (lT (lT (lT zk.1 zw.1) z12.1) z18.1) z1k.1) z1u.1)) (Nat.le_of_eq z22.symm))) nin0) (ninS (nL (lL (lL z9.ltb (lT (lT (lT (lT (lT zk.1 zw.1) z12.1) z18.1) z1k.1) z1u.1)) (Nat.le_of_eq z22.symm))) nin0)).keep z97 (ninS (nL (lL (lL z9.lt (lT (lT (lT (lT (lT zk.1 zw.1) z12.1) z18.1) z1k.1) z1u.1)) (Nat.le_of_eq z22.symm))) (ninS (nL (lL (lL z9.lt (lT (lT (lT (lT (lT (lT (lT (lT (lT zk.1 zw.1) z12.1) z18.1) z1k.1) z1u.1) z28.1) z2j.1) z2y.1) z39.1)) z8s)) nin0)) (ninS (nL (lL (lL z9.ltb (lT (lT (lT (lT (lT zk.1 zw.1) z12.1) z18.1) z1k.1) z1u.1)) (Nat.le_of_eq z22.symm))) (ninS (nL (lL (lL z9.ltb (lT (lT (lT (lT (lT (lT (lT (lT (lT zk.1 zw.1) z12.1) z18.1) z1k.1) z1u.1) z28.1) z2j.1) z2y.1) z39.1)) z8s)) nin0))).keep zat (ninS (nL (lL (lL z9.lt (lT (lT (lT (lT (lT (lT (lT zk.1 zw.1) z12.1) z18.1) z1k.1) z1u.1) z28.1) z2j.1)) (Nat.le_of_eq z2s.symm))) nin0) (ninS (nL (lL (lL z9.ltb (lT (lT (lT (lT (lT (lT (lT zk.1 zw.1) z12.1) z18.1) z1k.1) z1u.1) z28.1) z2j.1)) (Nat.le_of_eq z2s.symm))) nin0)).keep zb9 (ninS (nL (lL (lL z9.lt (lT (lT (lT (lT (lT (lT (lT zk.1 zw.1) z12.1) z18.1) z1k.1) z1u.1) z28.1) z2j.1)) (Nat.le_of_eq z2s.symm))) (ninS (nL (lL (lL z9.lt (lT (lT (lT (lT (lT (lT (lT (lT (lT (lT (lT zk.1 zw.1) z12.1) z18.1) z1k.1) z1u.1) z28.1) z2j.1) z2y.1) z39.1) z8r.1) z97.1)) zau)) nin0)) (ninS (nL (lL (lL z9.ltb (lT (lT (lT (lT (lT (lT (lT zk.1 zw.1) z12.1) z18.1) z1k.1) z1u.1) z28.1) z2j.1)) (Nat.le_of_eq z2s.symm))) (ninS (nL (lL (lL z9.ltb (lT (lT (lT (lT (lT (lT (lT (lT (lT (lT (lT zk.1 zw.1) z12.1) z18.1) z1k.1) z1u.1) z28.1) z2j.1) z2y.1) z39.1) z8r.1) z97.1)) zau)) nin0)))
      have zbn : Str Z zb5 zd t_1859 kb_1860 ([(nar .char ((p5 &&& (255 : Int32)).toUInt32.toUInt16.toUInt32.toInt32)), (nar .char ((p6 &&& (255 : Int32)).toUInt32.toUInt16.toUInt32.toInt32))] : List Int32) := (((((((((z1m.keep z1u nin0 nin0).keep z28 nin0 nin0).keep z2j (ninS (nL (lL (lL zh.lt (lT (lT (lT (lT zw.1 z12.1) z18.1) z1k.1) z1u.1)) (Nat.le_of_eq z22.symm))) nin0) (ninS (nL (lL (lL z1m.ltb (z1u.1)) (Nat.le_of_eq z22.symm))) nin0)).keep z2y nin0 nin0).keep z39 (ninS (nL (lL (lL zh.lt (lT (lT (lT (lT (lT (lT zw.1 z12.1) z18.1) z1k.1) z1u.1) z28.1) z2j.1)) (Nat.le_of_eq z2s.symm))) nin0) (ninS (nL (lL (lL z1m.ltb (lT (lT z1u.1 z28.1) z2j.1)) (Nat.le_of_eq z2s.symm))) nin0)).keep z8r (ninS (nL (lL (lL zh.lt (lT (lT (lT (lT zw.1 z12.1) z18.1) z1k.1) z1u.1)) (Nat.le_of_eq z22.symm))) nin0) (ninS (nL (lL (lL z1m.ltb (z1u.1)) (Nat.le_of_eq z22.symm))) nin0)).keep z97 (ninS (nL (lL (lL zh.lt (lT (lT (lT (lT zw.1 z12.1) z18.1) z1k.1) z1u.1)) (Nat.le_of_eq z22.symm))) (ninS (nL (lL (lL zh.lt (lT (lT (lT (lT (lT (lT (lT (lT zw.1 z12.1) z18.1) z1k.1) z1u.1) z28.1) z2j.1) z2y.1) z39.1)) z8s)) nin0)) (ninS (nL (lL (lL z1m.ltb (z1u.1)) (Nat.le_of_eq z22.symm))) (ninS (nL (lL (lL z1m.ltb (lT (lT (lT (lT z1u.1 z28.1) z2j.1) z2y.1) z39.1)) z8s)) nin0))).keep zat (ninS (nL (lL (lL zh.lt (lT (lT (lT (lT (lT (lT zw.1 z12.1) z18.1) z1k.1) z1u.1) z28.1) z2j.1)) (Nat.le_of_eq z2s.symm))) nin0) (ninS (nL (lL (lL z1m.ltb (lT (lT z1u.1 z28.1) z2j.1)) (Nat.le_of_eq z2s.symm))) nin0)).keep zb9 (ninS (nL (lL (lL zh.lt (lT (lT (lT (lT (lT (lT zw.1 z12.1) z18.1) z1k.1) z1u.1) z28.1) z2j.1)) (Nat.le_of_eq z2s.symm))) (ninS (nL (lL (lL zh.lt (lT (lT (lT (lT (lT (lT (lT (lT (lT (lT zw.1 z12.1) z18.1) z1k.1) z1u.1) z28.1) z2j.1) z2y.1) z39.1) z8r.1) z97.1)) zau)) nin0)) (ninS (nL (lL (lL z1m.ltb (lT (lT z1u.1 z28.1) z2j.1)) (Nat.le_of_eq z2s.symm))) (ninS (nL (lL (lL z1m.ltb (lT (lT (lT (lT (lT (lT z1u.1 z28.1) z2j.1) z2y.1) z39.1) z8r.1) z97.1)) zau)) nin0)))
      have zbo : Str Z zb5 x_1873 t_1874 kb_1875 [((((p4.toUInt32 >>> ((8 : Int32) &&& 31).toUInt32).toInt32) &&& (255 : Int32)).toUInt32.toUInt16.toUInt32.toInt32)] := ((((((((z1x.keep z28 nin0 nin0).keep z2j (ninS (nL (lL z1x.lt (Nat.le_of_eq z22.symm))) nin0) (ninS (nL (lL z1x.ltb (Nat.le_of_eq z22.symm))) nin0)).keep z2y nin0 nin0).keep z39 (ninS (nL (lL (lL z1x.lt (lT z28.1 z2j.1)) (Nat.le_of_eq z2s.symm))) nin0) (ninS (nL (lL (lL z1x.ltb (lT z28.1 z2j.1)) (Nat.le_of_eq z2s.symm))) nin0)).keep z8r (ninS (nL (lL z1x.lt (Nat.le_of_eq z22.symm))) nin0) (ninS (nL (lL z1x.ltb (Nat.le_of_eq z22.symm))) nin0)).keep z97 (ninS (nL (lL z1x.lt (Nat.le_of_eq z22.symm))) (ninS (nL (lL (lL z1x.lt (lT (lT (lT z28.1 z2j.1) z2y.1) z39.1)) z8s)) nin0)) (ninS (nL (lL z1x.ltb (Nat.le_of_eq z22.symm))) (ninS (nL (lL (lL z1x.ltb (lT (lT (lT z28.1 z2j.1) z2y.1) z39.1)) z8s)) nin0))).keep zat (ninS (nL (lL (lL z1x.lt (lT z28.1 z2j.1)) (Nat.le_of_eq z2s.symm))) nin0) (ninS (nL (lL (lL z1x.ltb (lT z28.1 z2j.1)) (Nat.le_of_eq z2s.symm))) nin0)).keep zb9 (ninS (nL (lL (lL z1x.lt (lT z28.1 z2j.1)) (Nat.le_of_eq z2s.symm))) (ninS (nL (lL (lL z1x.lt (lT (lT (lT (lT (lT z28.1 z2j.1) z2y.1) z39.1) z8r.1) z97.1)) zau)) nin0)) (ninS (nL (lL (lL z1x.ltb (lT z28.1 z2j.1)) (Nat.le_of_eq z2s.symm))) (ninS (nL (lL (lL z1x.ltb (lT (lT (lT (lT (lT z28.1 z2j.1) z2y.1) z39.1) z8r.1) z97.1)) zau)) nin0)))
      have zbp : Old Z n0 zb5 := (zb3.keep zb9 (allS (lT (lT Z0 (z2o.1)) (Nat.le_of_eq z2s.symm)) (allS (lT (lT Z0 (z9d.1)) zau) all0)))
      exact (own_p1 l Z a0 hw (.val (.int p1)) (.val (.int p3)) (.val (.int p4)) (.val (.int p5)) (.val (.int p6)) p2 (p1 &&& (2147483647 : Int32)) x_1803 t_1804 kb_1805 [((p4 &&& (255 : Int32)).toUInt32.toUInt16.toUInt32.toInt32)] zd t_1859 kb_1860 ([(nar .char ((p5 &&& (255 : Int32)).toUInt32.toUInt16.toUInt32.toInt32)), (nar .char ((p6 &&& (255 : Int32)).toUInt32.toUInt16.toUInt32.toInt32))] : List Int32) x_1873 t_1874 kb_1875 [((((p4.toUInt32 >>> ((8 : Int32) &&& 31).toUInt32).toInt32) &&& (255 : Int32)).toUInt32.toUInt16.toUInt32.toInt32)] z21 t_2154 kk_2155 (2 : Int32) z2r t_2238 kk_2239 (2 : Int32) dc kd el ee ke em zb5 n0 (lT Z0 (zbf.1)) Lc0 zbm zbn zbo zbk zbl zbp (own_nneg p1) (by decide) (by decide) GA GE GM G GS GL GD hx hby hml hret hnm hown hlk hZ (zb7.more (by decide) (by decide))).imp (fun vv hh it ⟨Lq, ⟨vq, kq⟩, aq, gq⟩ => ⟨Lq, ⟨vq, zbf.trans kq all0⟩, aq, (Jvm.Q9.Grow.refl _ _).trans gq (zbf.1)⟩)
theorem comes_1 {Post : Tables → Env → Array Value → State → Outcome → State → Prop} (hpost : ∀ tb e args s v u, (limb_1_1.after args s (.returned v) u = true ∧ limb_1_2.after args s (.returned v) u = true ∧ True) → FramedW s (.returned v) u (Jvm.fieldLocs frame_1_writes args s ++ Jvm.arrayLocs frame_1_arrays args s ++ Jvm.staticLocs frame_1_statics s) 48 1344 → Post tb e args s (.returned v) u) :
    ArmFor flags0 classFile x code maxLocals ret World_1 tables_1 room_1 Calls_1 rest_1 Pre_1 Post := by
  intro l hfl _ _ p e ha hc hk s m args below hf hA hF happ hP
  obtain ⟨hcalls, hrest, hpre⟩ := hP
  obtain ⟨-, -, -, hnamed, -, -, -, hat⟩ := (Spec.applies_iff hf).mp happ
  obtain ⟨hg, hn⟩ := and_e (Cond.before_iff.mp (show (Jvm.Cond.and given_1 narrow_1).before args s = true from hpre))
  obtain ⟨hcnt, hg0⟩ := and_e hg
  obtain ⟨ga0, hg1⟩ := and_e hg0
  obtain ⟨ga1, hg2⟩ := and_e hg1
  obtain ⟨ga2, hg3⟩ := and_e hg2
  obtain ⟨ga3, hg4⟩ := and_e hg3
  obtain ⟨ga4, hg5⟩ := and_e hg4
  have ga5 := hg5
  obtain ⟨w0, w1, w2, w3, w4, w5, rfl⟩ : ∃ w0 w1 w2 w3 w4 w5 : Value, args = #[w0, w1, w2, w3, w4, w5] := by
    have hs : args.size = 6 := by simpa [Cond.value, given_1] using hcnt
    obtain ⟨L⟩ := args
    match L, hs with
    | [w0, w1, w2, w3, w4, w5], _ => exact ⟨w0, w1, w2, w3, w4, w5, rfl⟩
  have hw := fun d (hd : d ∈ tables_1) => atoms_spec (ws := Jvm.Cond.code x code maxLocals ret :: tables_1) hat d (List.mem_cons_of_mem _ hd)
  have hfit : Fit s := fun {y c} hc i hi => by
    obtain ⟨ha, rfl⟩ := Array.getElem?_eq_some_iff.mp hc
    have q := List.all_eq_true.mp ((Array.all_eq_true_iff_forall_mem.mp hF) _ (Array.getElem_mem ha)) i (List.mem_range.mpr hi)
    simpa [Array.getElem?_eq_getElem hi] using q
  obtain ⟨hsets, hown0⟩ := atoms_of _ (rest_1_c_eq ▸ (show rest_1_c.before _ s = true from hrest))
  obtain ⟨i0, ei0⟩ := is_v ga0
  obtain rfl : w0 = (.int i0) := Option.some.inj ei0
  obtain ⟨i1, ei1⟩ := is_v ga1
  obtain rfl : w1 = (.int i1) := Option.some.inj ei1
  obtain ⟨i2, ei2⟩ := is_v ga2
  obtain rfl : w2 = (.int i2) := Option.some.inj ei2
  obtain ⟨i3, ei3⟩ := is_v ga3
  obtain rfl : w3 = (.int i3) := Option.some.inj ei3
  obtain ⟨i4, ei4⟩ := is_v ga4
  obtain rfl : w4 = (.int i4) := Option.some.inj ei4
  obtain ⟨i5, ei5⟩ := is_v ga5
  obtain rfl : w5 = (.int i5) := Option.some.inj ei5
  have ncs := not_v (Cond.before_iff.mp (hsets _ (List.mem_of_getElem? (i := 2) rfl)))
  obtain ⟨zcs, ecs⟩ := is_v (Cond.before_iff.mp (hsets _ (List.mem_of_getElem? (i := 1) rfl)))
  have Scs : Sta s s.heap "java/lang/String" "COMPACT_STRINGS" "Z" (.int zcs) := Sta.start ecs (Or.inl (hsets _ (List.mem_of_getElem? (i := 0) rfl)))
  have Gcs : Cmp s := ⟨zcs, gotF (Cond.eq_ints ecs (Term.int_eval (0))) ncs, Scs⟩
  obtain ⟨vsf, esf, qsf⟩ := isR_v (Cond.before_iff.mp (hsets _ (List.mem_of_getElem? (i := 8) rfl)))
  have Gsf : Sio s := ⟨vsf, Sta.start esf (Or.inl (hsets _ (List.mem_of_getElem? (i := 7) rfl))), by cases vsf <;> first | rfl | cases qsf⟩
  have Gdg : Dig s := dig_start (hsets _ (List.mem_of_getElem? (i := 26) rfl)) (hsets _ (List.mem_of_getElem? (i := 28) rfl)) (hsets _ (List.mem_of_getElem? (i := 29) rfl)) (hsets _ (List.mem_of_getElem? (i := 30) rfl)) (hsets _ (List.mem_of_getElem? (i := 31) rfl)) (hsets _ (List.mem_of_getElem? (i := 33) rfl)) (hsets _ (List.mem_of_getElem? (i := 34) rfl)) (hsets _ (List.mem_of_getElem? (i := 35) rfl)) (wI hw 319 rfl) (wI hw 15 rfl)
  have Gal := adc_start hfit (hsets _ (List.mem_of_getElem? (i := 11) rfl)) (wI hw 47 rfl) (hsets _ (List.mem_of_getElem? (i := 15) rfl)) (hsets _ (List.mem_of_getElem? (i := 17) rfl))
  have Gel := ael_start hfit (hsets _ (List.mem_of_getElem? (i := 19) rfl)) (hsets _ (List.mem_of_getElem? (i := 20) rfl)) (hsets _ (List.mem_of_getElem? (i := 21) rfl)) (hsets _ (List.mem_of_getElem? (i := 23) rfl))
  have Gem := aem_start (hsets _ (List.mem_of_getElem? (i := 37) rfl)) (hsets _ (List.mem_of_getElem? (i := 38) rfl))
  have hcl : ∀ d ∈ LC.1, Jvm.Q9.LitW s _ d := own_lits hw hcalls.1 (hsets _ (List.mem_of_getElem? (i := 2) rfl))
  obtain ⟨n, o, h1, h2, h3, _, L, rfl, ⟨⟨_, ⟨rfl, _⟩, _, _⟩, N⟩, hq⟩ := own_law l s _ hw i0 i1 i2 i3 i4 i5 s.heap s.heap.size (Nat.le_refl _) (List.range s.heap.size) (Old.start s) Gcs Gsf (fun c hc => Jvm.Q9.litz_start (hcl c hc)) Gdg Gal Gel Gem tables_1 p e ha hc hk s m _ below hf ((Spec.applies_iff_loose hf).mp happ).1 ⟨rfl, State.Warmed39.refl s, rfl, Jvm.Q9.ha_start (fun _ => trivial) hcl⟩ trivial
  refine ⟨n, _, h1, h2, h3, hpost _ _ _ _ _ _ ⟨Cond.after_iff.mpr rfl, Cond.after_iff.mpr (eq_i res_at (Term.int_eval (1)) rfl), trivial⟩ ⟨hq.1, hq.2.1, hq.2.2.1, (hq.2.2.2.sift fun y hy => Or.inr (N y hy)).mono (by decide) (by decide)⟩⟩
theorem main_1_1 : Claimed_1_1 := comes_1 fun _ _ _ _ _ _ h hF => ⟨h.1, hF⟩
theorem main_1_2 : Claimed_1_2 := comes_1 fun _ _ _ _ _ _ h hF => ⟨h.2.1, hF⟩
end Jvm.Pilot.@@N@@
namespace Jvm.Pilot.@@N@@
open Jvm Jvm.ClassFile Sem Op Lib Jvm.Free Jvm.Stand Jvm.Pilot.@@N@@.Jvm.D
/-! MADE BY PROGRAM (witnessworld.py) out of the Statement's table words and the real class files: 46 classes; the members and pool entries that the words name. The judged class is class 1, her method 1. -/
namespace start1
open Jvm.ClassFile
def u (s : String) : CpInfo := .utf8 (stringToUtf16 s)
def gap : Nat → List CpInfo → List CpInfo
  | 0, r => r
  | n + 1, r => .unusable :: gap n r
def poolList (es : List (Nat × CpInfo)) (last : Nat) : List CpInfo := es.foldr (fun e r => gap e.1 (e.2 :: r)) (gap last [])
def pool (es : List (Nat × CpInfo)) (last : Nat) : Array CpInfo := ⟨poolList es last⟩
def fileOf (pool : Array CpInfo) (this : Nat) (attrs : Array Attribute := #[]) (ms : Array MethodInfo := #[]) (fl : Nat := 33) (sup : Nat := 0) (ifs : Array Nat := #[]) (fds : Array FieldInfo := #[]) : ClassFile where
  minorVersion := 0
  majorVersion := 65
  constantPool := pool
  accessFlags := fl
  thisClass := this
  superClass := sup
  interfaces := ifs
  fields := fds
  methods := ms
  attributes := attrs
def plain (name : String) (sup : Option ClassId) : Class where
  name := name
  kind := .ordinary
  loader := none
  accessFlags := 33
  super := sup
  interfaces := #[]
  cf := none
  fields := #[]
  methods := #[]
  instanceTypes := #[]
  staticTypes := #[]
  resolved := #[]
  callSites := []
  init := .initialized
  statics := none
  mirror := none

def pool0 : Array CpInfo := pool [(5, u "<init>"), (0, u "()V"), (1, .class_ 10), (1, u "java/lang/Object")] 113

def k0c0 : Code := { maxStack := 0, maxLocals := 1, code := object_method_1_code, exceptionTable := #[], attributes := #[] }
def k0m0 : Method := { name := "<init>", desc := "()V", sig := { parameters := [], returnType := none }, accessFlags := 1, code := some k0c0 }
def k0 : Class := { plain "java/lang/Object" none with
  accessFlags := 33
  interfaces := #[]
  cf := some (fileOf pool0 8 #[] #[{ accessFlags := 1, nameIndex := 5, descriptorIndex := 6, attributes := #[] }] 33 0 #[] #[])
  fields := #[]
  methods := #[k0m0]
  instanceTypes := #[]
  staticTypes := #[]
  resolved := Array.replicate 124 none
  statics := none }

def pool1 : Array CpInfo := pool [(2, .class_ 4), (0, .nameAndType 5 6), (0, u "java/lang/Object"), (0, u "<init>"), (0, u "()V"), (0, .integer 2147483647), (0, .methodref 9 10), (0, .class_ 11), (0, .nameAndType 12 13), (0, u "java/lang/String"), (0, u "valueOf"), (0, u "(C)Ljava/lang/String;"), (0, .methodref 9 15), (0, .nameAndType 5 16), (0, u "([C)V"), (0, .class_ 18), (0, u "java/util/ArrayList"), (0, .methodref 17 3), (0, .methodref 17 21), (0, .nameAndType 22 23), (0, u "add"), (0, u "(Ljava/lang/Object;)Z"), (0, .methodref 25 26), (0, .class_ 27), (0, .nameAndType 28 29), (0, u "com/example/metsmith/metsmith/Mets$Div"), (0, u "flat"), (0, u "(Ljava/util/List;Ljava/util/List;I)Lcom/example/metsmith/metsmith/Mets$Div;"), (0, .methodref 25 31), (0, .nameAndType 32 33), (0, u "type"), (0, u "()Ljava/lang/String;"), (0, .methodref 25 35), (0, .nameAndType 36 33), (0, u "label"), (0, .methodref 25 38), (0, .nameAndType 39 40), (0, u "fileIds"), (0, u "()Ljava/util/List;"), (0, .interfaceMethodref 42 43), (0, .class_ 44), (0, .nameAndType 45 46), (0, u "java/util/List"), (0, u "size"), (0, u "()I"), (0, .methodref 25 48), (0, .nameAndType 49 40), (0, u "dmdIds"), (0, .interfaceMethodref 42 51), (0, .nameAndType 52 53), (0, u "get"), (0, u "(I)Ljava/lang/Object;"), (0, .methodref 9 55), (0, .nameAndType 56 23), (0, u "equals"), (0, .methodref 25 58), (0, .nameAndType 59 40), (0, u "admIds"), (0, .methodref 25 61), (0, .nameAndType 62 40), (0, u "divs"), (0, .methodref 64 65), (0, .class_ 66), (0, .nameAndType 67 68), (0, u "com/example/metsmith/metsmith/MetsDivFlatPinLaw"), (0, u "fileIdOk"), (0, u "(Ljava/lang/String;I)Z"), (0, .methodref 64 70), (0, .nameAndType 71 72), (0, u "digits"), (0, u "(I)I"), (0, .methodref 9 74), (0, .nameAndType 75 46), (0, u "length"), (0, .methodref 9 77), (0, .nameAndType 78 79), (0, u "charAt"), (0, u "(I)C"), (0, .methodref 64 81), (0, .nameAndType 82 83), (0, u "digitOk"), (0, u "(Ljava/lang/String;III)Z"), (0, .methodref 64 85), (0, .nameAndType 86 72), (0, u "pow10"), (0, .integer 100000), (0, .integer 1000000), (0, .integer 10000000), (0, .integer 100000000), (0, .integer 1000000000), (2, u "law"), (0, u "(IIIIII)Z")] 7

def k1m0 : Method := { name := "<init>", desc := "()V", sig := { parameters := [], returnType := none }, accessFlags := 2, code := none }
def k1c1 : Code := { maxStack := 7, maxLocals := 21, code := code, exceptionTable := #[], attributes := #[] }
def k1m1 : Method := { name := "law", desc := "(IIIIII)Z", sig := { parameters := [.int, .int, .int, .int, .int, .int], returnType := some .boolean }, accessFlags := 9, code := some k1c1 }
def k1c2 : Code := { maxStack := 4, maxLocals := 3, code := method_3_code, exceptionTable := #[], attributes := #[] }
def k1m2 : Method := { name := "fileIdOk", desc := "(Ljava/lang/String;I)Z", sig := { parameters := [(.object "java/lang/String"), .int], returnType := some .boolean }, accessFlags := 10, code := some k1c2 }
def k1c3 : Code := { maxStack := 5, maxLocals := 4, code := method_4_code, exceptionTable := #[], attributes := #[] }
def k1m3 : Method := { name := "digitOk", desc := "(Ljava/lang/String;III)Z", sig := { parameters := [(.object "java/lang/String"), .int, .int, .int], returnType := some .boolean }, accessFlags := 10, code := some k1c3 }
def k1c4 : Code := { maxStack := 2, maxLocals := 1, code := method_5_code, exceptionTable := #[], attributes := #[] }
def k1m4 : Method := { name := "digits", desc := "(I)I", sig := { parameters := [.int], returnType := some .int }, accessFlags := 10, code := some k1c4 }
def k1c5 : Code := { maxStack := 2, maxLocals := 1, code := method_6_code, exceptionTable := #[], attributes := #[] }
def k1m5 : Method := { name := "pow10", desc := "(I)I", sig := { parameters := [.int], returnType := some .int }, accessFlags := 10, code := some k1c5 }
def k1 : Class := { plain "com/example/metsmith/metsmith/MetsDivFlatPinLaw" (some 0) with
  accessFlags := 49
  interfaces := #[]
  cf := some (fileOf pool1 64 #[] #[{ accessFlags := 2, nameIndex := 5, descriptorIndex := 6, attributes := #[] }, { accessFlags := 9, nameIndex := 94, descriptorIndex := 95, attributes := #[] }, { accessFlags := 10, nameIndex := 67, descriptorIndex := 68, attributes := #[] }, { accessFlags := 10, nameIndex := 82, descriptorIndex := 83, attributes := #[] }, { accessFlags := 10, nameIndex := 71, descriptorIndex := 72, attributes := #[] }, { accessFlags := 10, nameIndex := 86, descriptorIndex := 72, attributes := #[] }] 49 2 #[] #[])
  fields := #[]
  methods := #[k1m0, k1m1, k1m2, k1m3, k1m4, k1m5]
  instanceTypes := #[]
  staticTypes := #[]
  resolved := Array.replicate 103 none
  statics := none }

def pool2 : Array CpInfo := pool [(1, .class_ 2), (0, u "java/io/Serializable"), (0, .class_ 4), (0, u "java/lang/Object")] 2

def k2 : Class := { plain "java/io/Serializable" (some 0) with
  accessFlags := 1537
  interfaces := #[]
  cf := some (fileOf pool2 1 #[] #[] 1537 3 #[] #[])
  fields := #[]
  methods := #[]
  instanceTypes := #[]
  staticTypes := #[]
  resolved := Array.replicate 7 none
  statics := none }

def pool3 : Array CpInfo := pool [(1, .class_ 2), (0, u "java/lang/Comparable"), (0, .class_ 4), (0, u "java/lang/Object")] 7

def k3 : Class := { plain "java/lang/Comparable" (some 0) with
  accessFlags := 1537
  interfaces := #[]
  cf := some (fileOf pool3 1 #[] #[] 1537 3 #[] #[])
  fields := #[]
  methods := #[]
  instanceTypes := #[]
  staticTypes := #[]
  resolved := Array.replicate 12 none
  statics := none }

def pool4 : Array CpInfo := pool [(2, .class_ 4), (1, u "java/lang/CharSequence"), (42, .class_ 48), (0, u "java/lang/CharSequence$1CodePointIterator"), (10, .class_ 60), (0, u "java/lang/CharSequence$1CharIterator"), (5, .class_ 67), (0, u "java/lang/Object")] 63

def k4 : Class := { plain "java/lang/CharSequence" (some 0) with
  accessFlags := 1537
  interfaces := #[]
  cf := some (fileOf pool4 2 #[.nestMembers #[47, 59]] #[] 1537 66 #[] #[])
  fields := #[]
  methods := #[]
  instanceTypes := #[]
  staticTypes := #[]
  resolved := Array.replicate 131 none
  statics := none }

def pool5 : Array CpInfo := pool [(1, .class_ 2), (0, u "java/lang/constant/Constable"), (0, .class_ 4), (0, u "java/lang/Object")] 6

def k5 : Class := { plain "java/lang/constant/Constable" (some 0) with
  accessFlags := 1537
  interfaces := #[]
  cf := some (fileOf pool5 1 #[] #[] 1537 3 #[] #[])
  fields := #[]
  methods := #[]
  instanceTypes := #[]
  staticTypes := #[]
  resolved := Array.replicate 11 none
  statics := none }

def pool6 : Array CpInfo := pool [(1, .class_ 2), (0, u "java/lang/constant/ConstantDesc"), (0, .class_ 4), (0, u "java/lang/Object")] 32

def k6 : Class := { plain "java/lang/constant/ConstantDesc" (some 0) with
  accessFlags := 1537
  interfaces := #[]
  cf := some (fileOf pool6 1 #[] #[] 1537 3 #[] #[])
  fields := #[]
  methods := #[]
  instanceTypes := #[]
  staticTypes := #[]
  resolved := Array.replicate 37 none
  statics := none }

def pool7 : Array CpInfo := pool [(1, .methodref 2 3), (0, .class_ 4), (0, .nameAndType 5 6), (0, u "java/lang/Object"), (0, u "<init>"), (0, u "()V"), (2, .fieldref 10 11), (0, .class_ 12), (0, .nameAndType 13 14), (0, u "java/lang/String"), (0, u "value"), (0, u "[B"), (0, .fieldref 10 16), (0, .nameAndType 17 18), (0, u "coder"), (0, u "B"), (2, u "hash"), (0, u "I"), (2, u "hashIsZero"), (0, u "Z"), (0, .methodref 10 28), (0, .nameAndType 5 29), (0, u "([CIILjava/lang/Void;)V"), (8, .fieldref 10 39), (0, .nameAndType 40 26), (0, u "COMPACT_STRINGS"), (1, .class_ 44), (1, u "java/lang/StringUTF16"), (0, u "compress"), (1, .methodref 42 48), (0, .nameAndType 49 50), (0, u "coderFromArrayLen"), (0, u "([BI)B"), (2, u "toBytes"), (0, .methodref 55 56), (0, .class_ 57), (0, .nameAndType 58 59), (0, u "java/util/Arrays"), (0, u "copyOfRange"), (0, u "([BII)[B"), (47, .class_ 109), (1, u "java/lang/StringLatin1"), (32, u "()Z"), (34, .methodref 42 178), (0, .nameAndType 45 179), (0, u "([CII)[B"), (13, .class_ 195), (1, u "java/lang/System"), (13, .methodref 10 210), (0, .nameAndType 5 211), (0, u "([BB)V"), (0, .methodref 193 213), (0, .nameAndType 214 215), (0, u "arraycopy"), (0, u "(Ljava/lang/Object;ILjava/lang/Object;II)V"), (118, u "()I"), (0, .methodref 10 336), (0, .nameAndType 17 337), (0, u "()B"), (2, u "()[B"), (22, u "([BI)C"), (5, u "(C)Z"), (21, u "(II)V"), (35, u "(I)C"), (61, .methodref 10 490), (0, .nameAndType 5 491), (0, u "(Ljava/lang/AbstractStringBuilder;Ljava/lang/Void;)V"), (0, .methodref 10 493), (0, .nameAndType 494 142), (0, u "isLatin1"), (0, .methodref 107 496), (0, .nameAndType 497 363), (0, u "charAt"), (3, u "checkIndex"), (4, .nameAndType 507 334), (0, u "length"), (24, u "getBytes"), (10, u "equals"), (5, .methodref 550 506), (0, .class_ 551), (0, u "java/lang/AbstractStringBuilder"), (0, .methodref 550 553), (0, .nameAndType 554 340), (0, u "getValue"), (18, u "(Ljava/lang/Object;)Z"), (1, .class_ 576), (0, u "java/lang/CharSequence"), (22, u "CASE_INSENSITIVE_ORDER"), (0, u "Ljava/util/Comparator;"), (181, u "valueOf"), (0, u "(C)Ljava/lang/String;"), (37, u "([BIB)V"), (188, u "([C)V"), (4, .methodref 107 1016), (0, .nameAndType 1017 369), (0, u "canEncode"), (0, .methodref 107 1019), (0, .nameAndType 53 1020), (0, u "(C)[B"), (26, .methodref 550 493), (5, .fieldref 1054 1055), (0, .class_ 1056), (0, .nameAndType 1057 1058), (0, u "jdk/internal/util/Preconditions"), (0, u "SIOOBE_FORMATTER"), (0, u "Ljava/util/function/BiFunction;"), (0, .methodref 1054 1060), (0, .nameAndType 501 1061), (0, u "(IILjava/util/function/BiFunction;)I"), (39, u "serialPersistentFields"), (0, u "[Ljava/io/ObjectStreamField;"), (0, .class_ 1104), (0, u "java/lang/String$CaseInsensitiveComparator"), (1, .class_ 1107), (0, u "java/io/Serializable"), (0, .class_ 1109), (0, u "java/lang/Comparable"), (0, .class_ 1111), (0, u "java/lang/constant/Constable"), (0, .class_ 1113), (0, u "java/lang/constant/ConstantDesc"), (2, u "serialVersionUID"), (0, u "J"), (3, u "REPL"), (0, u "C"), (2, u "LATIN1"), (1, u "UTF16"), (105, u "(Ljava/lang/StringBuilder;)V")] 217

def k7m0 : Method := { name := "<init>", desc := "()V", sig := { parameters := [], returnType := none }, accessFlags := 1, code := none }
def k7c1 : Code := { maxStack := 5, maxLocals := 2, code := jdk_42_method_3_code, exceptionTable := #[], attributes := #[] }
def k7m1 : Method := { name := "<init>", desc := "([C)V", sig := { parameters := [(.array .char)], returnType := none }, accessFlags := 1, code := some k7c1 }
def k7c2 : Code := { maxStack := 3, maxLocals := 2, code := jdk_42_method_53_code, exceptionTable := #[], attributes := #[] }
def k7m2 : Method := { name := "<init>", desc := "(Ljava/lang/StringBuilder;)V", sig := { parameters := [(.object "java/lang/StringBuilder")], returnType := none }, accessFlags := 1, code := some k7c2 }
def k7c3 : Code := { maxStack := 2, maxLocals := 1, code := jdk_42_method_54_code, exceptionTable := #[], attributes := #[] }
def k7m3 : Method := { name := "length", desc := "()I", sig := { parameters := [], returnType := some .int }, accessFlags := 1, code := some k7c3 }
def k7c4 : Code := { maxStack := 2, maxLocals := 2, code := jdk_42_method_56_code, exceptionTable := #[], attributes := #[] }
def k7m4 : Method := { name := "charAt", desc := "(I)C", sig := { parameters := [.int], returnType := some .char }, accessFlags := 1, code := some k7c4 }
def k7c5 : Code := { maxStack := 2, maxLocals := 3, code := jdk_42_method_66_code, exceptionTable := #[], attributes := #[] }
def k7m5 : Method := { name := "equals", desc := "(Ljava/lang/Object;)Z", sig := { parameters := [(.object "java/lang/Object")], returnType := some .boolean }, accessFlags := 1, code := some k7c5 }
def k7c6 : Code := { maxStack := 4, maxLocals := 1, code := jdk_42_method_139_code, exceptionTable := #[], attributes := #[] }
def k7m6 : Method := { name := "valueOf", desc := "(C)Ljava/lang/String;", sig := { parameters := [.char], returnType := some (.object "java/lang/String") }, accessFlags := 9, code := some k7c6 }
def k7c7 : Code := { maxStack := 5, maxLocals := 4, code := jdk_42_method_147_code, exceptionTable := #[], attributes := #[] }
def k7m7 : Method := { name := "getBytes", desc := "([BIB)V", sig := { parameters := [(.array .byte), .int, .byte], returnType := none }, accessFlags := 0, code := some k7c7 }
def k7c8 : Code := { maxStack := 4, maxLocals := 6, code := jdk_42_method_149_code, exceptionTable := #[], attributes := #[] }
def k7m8 : Method := { name := "<init>", desc := "([CIILjava/lang/Void;)V", sig := { parameters := [(.array .char), .int, .int, (.object "java/lang/Void")], returnType := none }, accessFlags := 2, code := some k7c8 }
def k7c9 : Code := { maxStack := 5, maxLocals := 5, code := jdk_42_method_150_code, exceptionTable := #[], attributes := #[] }
def k7m9 : Method := { name := "<init>", desc := "(Ljava/lang/AbstractStringBuilder;Ljava/lang/Void;)V", sig := { parameters := [(.object "java/lang/AbstractStringBuilder"), (.object "java/lang/Void")], returnType := none }, accessFlags := 0, code := some k7c9 }
def k7c10 : Code := { maxStack := 2, maxLocals := 3, code := jdk_42_method_151_code, exceptionTable := #[], attributes := #[] }
def k7m10 : Method := { name := "<init>", desc := "([BB)V", sig := { parameters := [(.array .byte), .byte], returnType := none }, accessFlags := 0, code := some k7c10 }
def k7c11 : Code := { maxStack := 1, maxLocals := 1, code := jdk_42_method_152_code, exceptionTable := #[], attributes := #[] }
def k7m11 : Method := { name := "coder", desc := "()B", sig := { parameters := [], returnType := some .byte }, accessFlags := 0, code := some k7c11 }
def k7c12 : Code := { maxStack := 1, maxLocals := 1, code := jdk_42_method_154_code, exceptionTable := #[], attributes := #[] }
def k7m12 : Method := { name := "isLatin1", desc := "()Z", sig := { parameters := [], returnType := some .boolean }, accessFlags := 0, code := some k7c12 }
def k7c13 : Code := { maxStack := 3, maxLocals := 2, code := jdk_42_method_155_code, exceptionTable := #[], attributes := #[] }
def k7m13 : Method := { name := "checkIndex", desc := "(II)V", sig := { parameters := [.int, .int], returnType := none }, accessFlags := 8, code := some k7c13 }
def k7 : Class := { plain "java/lang/String" (some 0) with
  accessFlags := 49
  interfaces := #[2, 3, 4, 5, 6]
  cf := some (fileOf pool7 10 #[.nestMembers #[1103]] #[{ accessFlags := 1, nameIndex := 5, descriptorIndex := 6, attributes := #[] }, { accessFlags := 1, nameIndex := 5, descriptorIndex := 1010, attributes := #[] }, { accessFlags := 1, nameIndex := 5, descriptorIndex := 1233, attributes := #[] }, { accessFlags := 1, nameIndex := 507, descriptorIndex := 334, attributes := #[] }, { accessFlags := 1, nameIndex := 497, descriptorIndex := 427, attributes := #[] }, { accessFlags := 1, nameIndex := 543, descriptorIndex := 573, attributes := #[] }, { accessFlags := 9, nameIndex := 782, descriptorIndex := 783, attributes := #[] }, { accessFlags := 0, nameIndex := 532, descriptorIndex := 821, attributes := #[] }, { accessFlags := 2, nameIndex := 5, descriptorIndex := 29, attributes := #[] }, { accessFlags := 0, nameIndex := 5, descriptorIndex := 491, attributes := #[] }, { accessFlags := 0, nameIndex := 5, descriptorIndex := 211, attributes := #[] }, { accessFlags := 0, nameIndex := 17, descriptorIndex := 337, attributes := #[] }, { accessFlags := 0, nameIndex := 494, descriptorIndex := 142, attributes := #[] }, { accessFlags := 8, nameIndex := 501, descriptorIndex := 391, attributes := #[] }] 49 2 #[1106, 1108, 575, 1110, 1112] #[{ accessFlags := 18, nameIndex := 13, descriptorIndex := 14, attributes := #[] }, { accessFlags := 18, nameIndex := 17, descriptorIndex := 18, attributes := #[] }, { accessFlags := 2, nameIndex := 21, descriptorIndex := 22, attributes := #[] }, { accessFlags := 2, nameIndex := 25, descriptorIndex := 26, attributes := #[] }, { accessFlags := 26, nameIndex := 1116, descriptorIndex := 1117, attributes := #[] }, { accessFlags := 24, nameIndex := 40, descriptorIndex := 26, attributes := #[] }, { accessFlags := 26, nameIndex := 1101, descriptorIndex := 1102, attributes := #[] }, { accessFlags := 26, nameIndex := 1121, descriptorIndex := 1122, attributes := #[] }, { accessFlags := 25, nameIndex := 599, descriptorIndex := 600, attributes := #[] }, { accessFlags := 24, nameIndex := 1125, descriptorIndex := 18, attributes := #[] }, { accessFlags := 24, nameIndex := 1127, descriptorIndex := 18, attributes := #[] }])
  fields := #[{ name := "value", type := (.array .byte), accessFlags := 18, slot := 0, constantValue := 0 }, { name := "coder", type := .byte, accessFlags := 18, slot := 1, constantValue := 0 }, { name := "hash", type := .int, accessFlags := 2, slot := 2, constantValue := 0 }, { name := "hashIsZero", type := .boolean, accessFlags := 2, slot := 3, constantValue := 0 }, { name := "serialVersionUID", type := .long, accessFlags := 26, slot := 0, constantValue := 0 }, { name := "COMPACT_STRINGS", type := .boolean, accessFlags := 24, slot := 1, constantValue := 0 }, { name := "serialPersistentFields", type := (.array (.object "java/io/ObjectStreamField")), accessFlags := 26, slot := 2, constantValue := 0 }, { name := "REPL", type := .char, accessFlags := 26, slot := 3, constantValue := 0 }, { name := "CASE_INSENSITIVE_ORDER", type := (.object "java/util/Comparator"), accessFlags := 25, slot := 4, constantValue := 0 }, { name := "LATIN1", type := .byte, accessFlags := 24, slot := 5, constantValue := 0 }, { name := "UTF16", type := .byte, accessFlags := 24, slot := 6, constantValue := 0 }]
  methods := #[k7m0, k7m1, k7m2, k7m3, k7m4, k7m5, k7m6, k7m7, k7m8, k7m9, k7m10, k7m11, k7m12, k7m13]
  instanceTypes := #[(.array .byte), .byte, .int, .boolean]
  staticTypes := #[.long, .boolean, (.array (.object "java/io/ObjectStreamField")), .char, (.object "java/util/Comparator"), .byte, .byte]
  resolved := Array.replicate 1451 none
  statics := some 0 }

def pool8 : Array CpInfo := pool [(1, .class_ 2), (0, u "java/lang/String"), (1, .class_ 6), (1, u "java/lang/Object"), (0, u "<init>"), (0, u "()V"), (0, .methodref 1 10), (0, .nameAndType 11 12), (0, u "checkIndex"), (0, u "(II)V"), (1, .class_ 16), (1, u "java/lang/StringLatin1"), (36, u "([BI)C"), (36, u "canEncode"), (14, u "(C)Z"), (15, u "$assertionsDisabled"), (0, u "Z"), (98, .class_ 223), (1, u "java/lang/StringLatin1$LinesSpliterator"), (28, u "charAt"), (127, u "toBytes"), (1, u "(C)[B"), (7, .class_ 391), (0, u "java/lang/StringLatin1$CharsSpliterator")] 3

def k8m0 : Method := { name := "<init>", desc := "()V", sig := { parameters := [], returnType := none }, accessFlags := 0, code := none }
def k8c1 : Code := { maxStack := 2, maxLocals := 2, code := jdk_43_method_2_code, exceptionTable := #[], attributes := #[] }
def k8m1 : Method := { name := "charAt", desc := "([BI)C", sig := { parameters := [(.array .byte), .int], returnType := some .char }, accessFlags := 9, code := some k8c1 }
def k8c2 : Code := { maxStack := 2, maxLocals := 1, code := jdk_43_method_3_code, exceptionTable := #[], attributes := #[] }
def k8m2 : Method := { name := "canEncode", desc := "(C)Z", sig := { parameters := [.char], returnType := some .boolean }, accessFlags := 9, code := some k8c2 }
def k8c3 : Code := { maxStack := 4, maxLocals := 1, code := jdk_43_method_46_code, exceptionTable := #[], attributes := #[] }
def k8m3 : Method := { name := "toBytes", desc := "(C)[B", sig := { parameters := [.char], returnType := some (.array .byte) }, accessFlags := 9, code := some k8c3 }
def k8 : Class := { plain "java/lang/StringLatin1" (some 0) with
  accessFlags := 48
  interfaces := #[]
  cf := some (fileOf pool8 14 #[.nestMembers #[390, 221]] #[{ accessFlags := 0, nameIndex := 7, descriptorIndex := 8, attributes := #[] }, { accessFlags := 9, nameIndex := 252, descriptorIndex := 53, attributes := #[] }, { accessFlags := 9, nameIndex := 90, descriptorIndex := 105, attributes := #[] }, { accessFlags := 9, nameIndex := 380, descriptorIndex := 382, attributes := #[] }] 48 4 #[] #[{ accessFlags := 4120, nameIndex := 121, descriptorIndex := 122, attributes := #[] }])
  fields := #[{ name := "$assertionsDisabled", type := .boolean, accessFlags := 4120, slot := 0, constantValue := 0 }]
  methods := #[k8m0, k8m1, k8m2, k8m3]
  instanceTypes := #[]
  staticTypes := #[.boolean]
  resolved := Array.replicate 395 none
  statics := none }

def pool9 : Array CpInfo := pool [(6, .class_ 8), (1, u "java/lang/Object"), (0, u "<init>"), (0, u "()V"), (1, .class_ 14), (1, u "java/lang/StringUTF16"), (31, u "$assertionsDisabled"), (0, u "Z"), (13, u "HI_BYTE_SHIFT"), (0, u "I"), (2, u "LO_BYTE_SHIFT"), (49, .methodref 12 116), (0, .nameAndType 117 118), (0, u "compress"), (0, u "([CI[BII)I"), (3, u "([CII)[B"), (138, u "coderFromArrayLen"), (0, u "([BI)B"), (106, .class_ 371), (1, u "java/lang/StringUTF16$LinesSpliterator"), (58, u "MAX_LENGTH"), (196, .class_ 628), (0, u "java/lang/StringUTF16$CodePointsSpliterator"), (0, .class_ 630), (0, u "java/lang/StringUTF16$CharsSpliterator")] 4

def k9m0 : Method := { name := "<init>", desc := "()V", sig := { parameters := [], returnType := none }, accessFlags := 0, code := none }
def k9c1 : Code := { maxStack := 2, maxLocals := 2, code := jdk_52_method_15_code, exceptionTable := #[], attributes := #[] }
def k9m1 : Method := { name := "coderFromArrayLen", desc := "([BI)B", sig := { parameters := [(.array .byte), .int], returnType := some .byte }, accessFlags := 8, code := some k9c1 }
def k9c2 : Code := { maxStack := 5, maxLocals := 6, code := jdk_52_method_16_code, exceptionTable := #[], attributes := #[] }
def k9m2 : Method := { name := "compress", desc := "([CII)[B", sig := { parameters := [(.array .char), .int, .int], returnType := some (.array .byte) }, accessFlags := 9, code := some k9c2 }
def k9c3 : Code := { maxStack := 3, maxLocals := 7, code := jdk_52_method_21_code, exceptionTable := #[], attributes := #[] }
def k9m3 : Method := { name := "compress", desc := "([CI[BII)I", sig := { parameters := [(.array .char), .int, (.array .byte), .int, .int], returnType := some .int }, accessFlags := 9, code := some k9c3 }
def k9 : Class := { plain "java/lang/StringUTF16" (some 0) with
  accessFlags := 48
  interfaces := #[]
  cf := some (fileOf pool9 12 #[.nestMembers #[627, 629, 369]] #[{ accessFlags := 0, nameIndex := 9, descriptorIndex := 10, attributes := #[] }, { accessFlags := 8, nameIndex := 261, descriptorIndex := 262, attributes := #[] }, { accessFlags := 9, nameIndex := 117, descriptorIndex := 122, attributes := #[] }, { accessFlags := 9, nameIndex := 117, descriptorIndex := 118, attributes := #[] }] 48 6 #[] #[{ accessFlags := 26, nameIndex := 61, descriptorIndex := 62, attributes := #[] }, { accessFlags := 26, nameIndex := 65, descriptorIndex := 62, attributes := #[] }, { accessFlags := 24, nameIndex := 430, descriptorIndex := 62, attributes := #[] }, { accessFlags := 4120, nameIndex := 46, descriptorIndex := 47, attributes := #[] }])
  fields := #[{ name := "HI_BYTE_SHIFT", type := .int, accessFlags := 26, slot := 0, constantValue := 0 }, { name := "LO_BYTE_SHIFT", type := .int, accessFlags := 26, slot := 1, constantValue := 0 }, { name := "MAX_LENGTH", type := .int, accessFlags := 24, slot := 2, constantValue := 0 }, { name := "$assertionsDisabled", type := .boolean, accessFlags := 4120, slot := 3, constantValue := 0 }]
  methods := #[k9m0, k9m1, k9m2, k9m3]
  instanceTypes := #[]
  staticTypes := #[.int, .int, .int, .boolean]
  resolved := Array.replicate 635 none
  statics := none }

def pool10 : Array CpInfo := pool [(8, .class_ 10), (1, u "java/lang/Iterable"), (24, .class_ 36), (0, u "java/lang/Object")] 25

def k10 : Class := { plain "java/lang/Iterable" (some 0) with
  accessFlags := 1537
  interfaces := #[]
  cf := some (fileOf pool10 8 #[] #[] 1537 35 #[] #[])
  fields := #[]
  methods := #[]
  instanceTypes := #[]
  staticTypes := #[]
  resolved := Array.replicate 62 none
  statics := none }

def pool11 : Array CpInfo := pool [(10, .class_ 12), (1, u "java/util/Collection"), (47, .class_ 61), (0, u "java/lang/Object"), (0, .class_ 63), (0, u "java/lang/Iterable")] 51

def k11 : Class := { plain "java/util/Collection" (some 0) with
  accessFlags := 1537
  interfaces := #[10]
  cf := some (fileOf pool11 10 #[] #[] 1537 60 #[62] #[])
  fields := #[]
  methods := #[]
  instanceTypes := #[]
  staticTypes := #[]
  resolved := Array.replicate 115 none
  statics := none }

def pool12 : Array CpInfo := pool [(1, .methodref 2 3), (0, .class_ 4), (0, .nameAndType 5 6), (0, u "java/lang/Object"), (0, u "<init>"), (0, u "()V"), (1, .class_ 10), (1, u "java/util/AbstractCollection"), (66, .class_ 78), (0, u "java/util/Collection")] 81

def k12c0 : Code := { maxStack := 1, maxLocals := 1, code := jdk_22_method_1_code, exceptionTable := #[], attributes := #[] }
def k12m0 : Method := { name := "<init>", desc := "()V", sig := { parameters := [], returnType := none }, accessFlags := 4, code := some k12c0 }
def k12 : Class := { plain "java/util/AbstractCollection" (some 0) with
  accessFlags := 1057
  interfaces := #[11]
  cf := some (fileOf pool12 8 #[] #[{ accessFlags := 4, nameIndex := 5, descriptorIndex := 6, attributes := #[] }] 1057 2 #[77] #[])
  fields := #[]
  methods := #[k12m0]
  instanceTypes := #[]
  staticTypes := #[]
  resolved := Array.replicate 160 none
  statics := none }

def pool13 : Array CpInfo := pool [(8, .class_ 10), (1, u "java/util/SequencedCollection"), (15, .class_ 27), (0, u "java/lang/Object"), (0, .class_ 29), (0, u "java/util/Collection")] 27

def k13 : Class := { plain "java/util/SequencedCollection" (some 0) with
  accessFlags := 1537
  interfaces := #[11]
  cf := some (fileOf pool13 8 #[] #[] 1537 26 #[28] #[])
  fields := #[]
  methods := #[]
  instanceTypes := #[]
  staticTypes := #[]
  resolved := Array.replicate 57 none
  statics := none }

def pool14 : Array CpInfo := pool [(8, .class_ 10), (1, u "java/util/List"), (20, u "(Ljava/lang/Object;)V"), (16, u "<init>"), (26, u "get"), (0, u "(I)Ljava/lang/Object;"), (2, u "size"), (0, u "()I"), (7, u "of"), (1, .fieldref 91 92), (0, .class_ 93), (0, .nameAndType 94 95), (0, u "java/util/ImmutableCollections"), (0, u "EMPTY_LIST"), (0, u "Ljava/util/ImmutableCollections$ListN;"), (0, .class_ 97), (0, u "java/util/ImmutableCollections$List12"), (0, .methodref 96 99), (0, .nameAndType 48 31), (3, .class_ 104), (0, u "java/lang/Object"), (14, u "()Ljava/util/List;"), (0, .class_ 121), (0, u "java/util/SequencedCollection"), (76, u "(Ljava/lang/Object;)Ljava/util/List;")] 52

def k14m0 : Method := { name := "size", desc := "()I", sig := { parameters := [], returnType := some .int }, accessFlags := 1025, code := none }
def k14m1 : Method := { name := "get", desc := "(I)Ljava/lang/Object;", sig := { parameters := [.int], returnType := some (.object "java/lang/Object") }, accessFlags := 1025, code := none }
def k14c2 : Code := { maxStack := 1, maxLocals := 0, code := jdk_40_method_36_code, exceptionTable := #[], attributes := #[] }
def k14m2 : Method := { name := "of", desc := "()Ljava/util/List;", sig := { parameters := [], returnType := some (.object "java/util/List") }, accessFlags := 9, code := some k14c2 }
def k14c3 : Code := { maxStack := 3, maxLocals := 1, code := jdk_40_method_37_code, exceptionTable := #[], attributes := #[] }
def k14m3 : Method := { name := "of", desc := "(Ljava/lang/Object;)Ljava/util/List;", sig := { parameters := [(.object "java/lang/Object")], returnType := some (.object "java/util/List") }, accessFlags := 9, code := some k14c3 }
def k14 : Class := { plain "java/util/List" (some 0) with
  accessFlags := 1537
  interfaces := #[13]
  cf := some (fileOf pool14 8 #[] #[{ accessFlags := 1025, nameIndex := 79, descriptorIndex := 80, attributes := #[] }, { accessFlags := 1025, nameIndex := 75, descriptorIndex := 76, attributes := #[] }, { accessFlags := 9, nameIndex := 88, descriptorIndex := 119, attributes := #[] }, { accessFlags := 9, nameIndex := 88, descriptorIndex := 198, attributes := #[] }] 1537 103 #[120] #[])
  fields := #[]
  methods := #[k14m0, k14m1, k14m2, k14m3]
  instanceTypes := #[]
  staticTypes := #[]
  resolved := Array.replicate 251 none
  statics := none }

def pool15 : Array CpInfo := pool [(1, .methodref 2 3), (0, .class_ 4), (0, .nameAndType 5 6), (0, u "java/util/AbstractCollection"), (0, u "<init>"), (0, u "()V"), (0, .fieldref 8 9), (0, .class_ 10), (0, .nameAndType 11 12), (0, u "java/util/AbstractList"), (0, u "modCount"), (0, u "I"), (64, .class_ 78), (0, u "java/util/AbstractList$Itr"), (3, .class_ 83), (0, u "java/util/AbstractList$ListItr"), (9, .class_ 94), (0, u "java/util/AbstractList$RandomAccessSubList"), (3, .class_ 99), (0, u "java/util/AbstractList$SubList"), (33, .class_ 134), (0, u "java/util/List"), (73, .class_ 209), (0, u "java/util/AbstractList$SubList$1"), (0, .class_ 211), (0, u "java/util/AbstractList$RandomAccessSpliterator")] 6

def k15c0 : Code := { maxStack := 2, maxLocals := 1, code := jdk_39_method_1_code, exceptionTable := #[], attributes := #[] }
def k15m0 : Method := { name := "<init>", desc := "()V", sig := { parameters := [], returnType := none }, accessFlags := 4, code := some k15c0 }
def k15 : Class := { plain "java/util/AbstractList" (some 12) with
  accessFlags := 1057
  interfaces := #[14]
  cf := some (fileOf pool15 8 #[.nestMembers #[93, 98, 208, 210, 82, 77]] #[{ accessFlags := 4, nameIndex := 5, descriptorIndex := 6, attributes := #[] }] 1057 2 #[133] #[{ accessFlags := 132, nameIndex := 11, descriptorIndex := 12, attributes := #[] }])
  fields := #[{ name := "modCount", type := .int, accessFlags := 132, slot := 0, constantValue := 0 }]
  methods := #[k15m0]
  instanceTypes := #[.int]
  staticTypes := #[]
  resolved := Array.replicate 218 none
  statics := none }

def pool16 : Array CpInfo := pool [(1, .class_ 2), (0, u "java/util/RandomAccess"), (0, .class_ 4), (0, u "java/lang/Object")] 2

def k16 : Class := { plain "java/util/RandomAccess" (some 0) with
  accessFlags := 1537
  interfaces := #[]
  cf := some (fileOf pool16 1 #[] #[] 1537 3 #[] #[])
  fields := #[]
  methods := #[]
  instanceTypes := #[]
  staticTypes := #[]
  resolved := Array.replicate 7 none
  statics := none }

def pool17 : Array CpInfo := pool [(1, .class_ 2), (0, u "java/lang/Cloneable"), (0, .class_ 4), (0, u "java/lang/Object")] 2

def k17 : Class := { plain "java/lang/Cloneable" (some 0) with
  accessFlags := 1537
  interfaces := #[]
  cf := some (fileOf pool17 1 #[] #[] 1537 3 #[] #[])
  fields := #[]
  methods := #[]
  instanceTypes := #[]
  staticTypes := #[]
  resolved := Array.replicate 7 none
  statics := none }

def pool18 : Array CpInfo := pool [(1, .methodref 2 3), (0, .class_ 4), (0, .nameAndType 5 6), (0, u "java/util/AbstractList"), (0, u "<init>"), (0, u "()V"), (0, .class_ 8), (0, u "java/lang/Object"), (0, .fieldref 10 11), (0, .class_ 12), (0, .nameAndType 13 14), (0, u "java/util/ArrayList"), (0, u "elementData"), (0, u "[Ljava/lang/Object;"), (2, u "EMPTY_ELEMENTDATA"), (21, .fieldref 10 40), (0, .nameAndType 41 14), (0, u "DEFAULTCAPACITY_EMPTY_ELEMENTDATA"), (5, u "()[Ljava/lang/Object;"), (0, .fieldref 10 49), (0, .nameAndType 50 51), (0, u "size"), (0, u "I"), (11, .fieldref 10 64), (0, .nameAndType 65 51), (0, u "modCount"), (3, .methodref 10 70), (0, .nameAndType 71 72), (0, u "grow"), (0, u "(I)[Ljava/lang/Object;"), (6, .methodref 80 81), (0, .class_ 82), (0, .nameAndType 83 84), (0, u "java/lang/Math"), (0, u "max"), (0, u "(II)I"), (11, u "(Ljava/lang/Object;)Z"), (21, .methodref 119 120), (0, .class_ 121), (0, .nameAndType 122 84), (0, u "java/util/Objects"), (0, u "checkIndex"), (0, .methodref 10 124), (0, .nameAndType 13 125), (0, u "(I)Ljava/lang/Object;"), (3, .methodref 10 130), (0, .nameAndType 71 47), (0, .methodref 10 132), (0, .nameAndType 133 134), (0, u "add"), (0, u "(Ljava/lang/Object;[Ljava/lang/Object;I)V"), (13, .class_ 149), (0, u "java/util/List"), (36, u "()I"), (75, .class_ 263), (0, u "java/util/ArrayList$ListItr"), (3, .class_ 268), (0, u "java/util/ArrayList$Itr"), (7, .class_ 277), (0, u "java/util/ArrayList$SubList"), (12, .class_ 291), (0, u "java/util/ArrayList$ArrayListSpliterator"), (37, .class_ 330), (0, u "java/util/RandomAccess"), (0, .class_ 332), (0, u "java/lang/Cloneable"), (0, .class_ 334), (0, u "java/io/Serializable"), (0, u "serialVersionUID"), (0, u "J"), (3, u "DEFAULT_CAPACITY"), (40, u "get"), (118, .class_ 501), (0, u "java/util/ArrayList$SubList$2"), (0, .class_ 503), (0, u "java/util/ArrayList$SubList$1")] 5

def k18c0 : Code := { maxStack := 2, maxLocals := 1, code := jdk_38_method_2_code, exceptionTable := #[], attributes := #[] }
def k18m0 : Method := { name := "<init>", desc := "()V", sig := { parameters := [], returnType := none }, accessFlags := 1, code := some k18c0 }
def k18c1 : Code := { maxStack := 4, maxLocals := 4, code := jdk_38_method_6_code, exceptionTable := #[], attributes := #[] }
def k18m1 : Method := { name := "grow", desc := "(I)[Ljava/lang/Object;", sig := { parameters := [.int], returnType := some (.array (.object "java/lang/Object")) }, accessFlags := 2, code := some k18c1 }
def k18c2 : Code := { maxStack := 3, maxLocals := 1, code := jdk_38_method_7_code, exceptionTable := #[], attributes := #[] }
def k18m2 : Method := { name := "grow", desc := "()[Ljava/lang/Object;", sig := { parameters := [], returnType := some (.array (.object "java/lang/Object")) }, accessFlags := 2, code := some k18c2 }
def k18c3 : Code := { maxStack := 1, maxLocals := 1, code := jdk_38_method_8_code, exceptionTable := #[], attributes := #[] }
def k18m3 : Method := { name := "size", desc := "()I", sig := { parameters := [], returnType := some .int }, accessFlags := 1, code := some k18c3 }
def k18c4 : Code := { maxStack := 2, maxLocals := 2, code := jdk_38_method_18_code, exceptionTable := #[], attributes := #[] }
def k18m4 : Method := { name := "elementData", desc := "(I)Ljava/lang/Object;", sig := { parameters := [.int], returnType := some (.object "java/lang/Object") }, accessFlags := 0, code := some k18c4 }
def k18c5 : Code := { maxStack := 2, maxLocals := 2, code := jdk_38_method_20_code, exceptionTable := #[], attributes := #[] }
def k18m5 : Method := { name := "get", desc := "(I)Ljava/lang/Object;", sig := { parameters := [.int], returnType := some (.object "java/lang/Object") }, accessFlags := 1, code := some k18c5 }
def k18c6 : Code := { maxStack := 3, maxLocals := 4, code := jdk_38_method_24_code, exceptionTable := #[], attributes := #[] }
def k18m6 : Method := { name := "add", desc := "(Ljava/lang/Object;[Ljava/lang/Object;I)V", sig := { parameters := [(.object "java/lang/Object"), (.array (.object "java/lang/Object")), .int], returnType := none }, accessFlags := 2, code := some k18c6 }
def k18c7 : Code := { maxStack := 4, maxLocals := 2, code := jdk_38_method_25_code, exceptionTable := #[], attributes := #[] }
def k18m7 : Method := { name := "add", desc := "(Ljava/lang/Object;)Z", sig := { parameters := [(.object "java/lang/Object")], returnType := some .boolean }, accessFlags := 1, code := some k18c7 }
def k18 : Class := { plain "java/util/ArrayList" (some 15) with
  accessFlags := 33
  interfaces := #[14, 16, 17, 2]
  cf := some (fileOf pool18 10 #[.nestMembers #[290, 276, 500, 502, 262, 267]] #[{ accessFlags := 1, nameIndex := 5, descriptorIndex := 6, attributes := #[] }, { accessFlags := 2, nameIndex := 71, descriptorIndex := 72, attributes := #[] }, { accessFlags := 2, nameIndex := 71, descriptorIndex := 47, attributes := #[] }, { accessFlags := 1, nameIndex := 50, descriptorIndex := 186, attributes := #[] }, { accessFlags := 0, nameIndex := 13, descriptorIndex := 125, attributes := #[] }, { accessFlags := 1, nameIndex := 381, descriptorIndex := 125, attributes := #[] }, { accessFlags := 2, nameIndex := 133, descriptorIndex := 134, attributes := #[] }, { accessFlags := 1, nameIndex := 133, descriptorIndex := 96, attributes := #[] }] 33 2 #[148, 329, 331, 333] #[{ accessFlags := 26, nameIndex := 335, descriptorIndex := 336, attributes := #[] }, { accessFlags := 26, nameIndex := 340, descriptorIndex := 51, attributes := #[] }, { accessFlags := 26, nameIndex := 17, descriptorIndex := 14, attributes := #[] }, { accessFlags := 26, nameIndex := 41, descriptorIndex := 14, attributes := #[] }, { accessFlags := 128, nameIndex := 13, descriptorIndex := 14, attributes := #[] }, { accessFlags := 2, nameIndex := 50, descriptorIndex := 51, attributes := #[] }])
  fields := #[{ name := "serialVersionUID", type := .long, accessFlags := 26, slot := 0, constantValue := 0 }, { name := "DEFAULT_CAPACITY", type := .int, accessFlags := 26, slot := 1, constantValue := 0 }, { name := "EMPTY_ELEMENTDATA", type := (.array (.object "java/lang/Object")), accessFlags := 26, slot := 2, constantValue := 0 }, { name := "DEFAULTCAPACITY_EMPTY_ELEMENTDATA", type := (.array (.object "java/lang/Object")), accessFlags := 26, slot := 3, constantValue := 0 }, { name := "elementData", type := (.array (.object "java/lang/Object")), accessFlags := 128, slot := 1, constantValue := 0 }, { name := "size", type := .int, accessFlags := 2, slot := 2, constantValue := 0 }]
  methods := #[k18m0, k18m1, k18m2, k18m3, k18m4, k18m5, k18m6, k18m7]
  instanceTypes := #[.int, (.array (.object "java/lang/Object")), .int]
  staticTypes := #[.long, .int, (.array (.object "java/lang/Object")), (.array (.object "java/lang/Object"))]
  resolved := Array.replicate 509 none
  statics := some 1 }

def pool19 : Array CpInfo := pool [(1, .class_ 2), (0, u "java/lang/Math"), (1, .class_ 6), (1, u "java/lang/Object"), (0, u "<init>"), (0, u "()V"), (89, .class_ 100), (1, u "java/lang/Math$RandomNumberGeneratorHolder"), (71, u "negativeZeroFloatBits"), (0, u "J"), (2, u "negativeZeroDoubleBits"), (21, u "max"), (2, u "min"), (43, u "$assertionsDisabled"), (0, u "Z"), (88, u "(II)I"), (2, u "twoToTheDoubleScaleDown"), (0, u "D"), (4, u "twoToTheDoubleScaleUp"), (9, u "E"), (3, u "PI"), (2, u "TAU"), (2, u "DEGREES_TO_RADIANS"), (0, u "RADIANS_TO_DEGREES")] 94

def k19m0 : Method := { name := "<init>", desc := "()V", sig := { parameters := [], returnType := none }, accessFlags := 2, code := none }
def k19c1 : Code := { maxStack := 2, maxLocals := 2, code := jdk_29_method_65_code, exceptionTable := #[], attributes := #[] }
def k19m1 : Method := { name := "max", desc := "(II)I", sig := { parameters := [.int, .int], returnType := some .int }, accessFlags := 9, code := some k19c1 }
def k19c2 : Code := { maxStack := 2, maxLocals := 2, code := jdk_29_method_69_code, exceptionTable := #[], attributes := #[] }
def k19m2 : Method := { name := "min", desc := "(II)I", sig := { parameters := [.int, .int], returnType := some .int }, accessFlags := 9, code := some k19c2 }
def k19 : Class := { plain "java/lang/Math" (some 0) with
  accessFlags := 49
  interfaces := #[]
  cf := some (fileOf pool19 1 #[.nestMembers #[98]] #[{ accessFlags := 2, nameIndex := 7, descriptorIndex := 8, attributes := #[] }, { accessFlags := 9, nameIndex := 198, descriptorIndex := 335, attributes := #[] }, { accessFlags := 9, nameIndex := 201, descriptorIndex := 335, attributes := #[] }] 49 4 #[] #[{ accessFlags := 25, nameIndex := 354, descriptorIndex := 339, attributes := #[] }, { accessFlags := 25, nameIndex := 358, descriptorIndex := 339, attributes := #[] }, { accessFlags := 25, nameIndex := 361, descriptorIndex := 339, attributes := #[] }, { accessFlags := 26, nameIndex := 364, descriptorIndex := 339, attributes := #[] }, { accessFlags := 26, nameIndex := 365, descriptorIndex := 339, attributes := #[] }, { accessFlags := 26, nameIndex := 172, descriptorIndex := 173, attributes := #[] }, { accessFlags := 26, nameIndex := 176, descriptorIndex := 173, attributes := #[] }, { accessFlags := 8, nameIndex := 344, descriptorIndex := 339, attributes := #[] }, { accessFlags := 8, nameIndex := 338, descriptorIndex := 339, attributes := #[] }, { accessFlags := 4120, nameIndex := 245, descriptorIndex := 246, attributes := #[] }])
  fields := #[{ name := "E", type := .double, accessFlags := 25, slot := 0, constantValue := 0 }, { name := "PI", type := .double, accessFlags := 25, slot := 1, constantValue := 0 }, { name := "TAU", type := .double, accessFlags := 25, slot := 2, constantValue := 0 }, { name := "DEGREES_TO_RADIANS", type := .double, accessFlags := 26, slot := 3, constantValue := 0 }, { name := "RADIANS_TO_DEGREES", type := .double, accessFlags := 26, slot := 4, constantValue := 0 }, { name := "negativeZeroFloatBits", type := .long, accessFlags := 26, slot := 5, constantValue := 0 }, { name := "negativeZeroDoubleBits", type := .long, accessFlags := 26, slot := 6, constantValue := 0 }, { name := "twoToTheDoubleScaleUp", type := .double, accessFlags := 8, slot := 7, constantValue := 0 }, { name := "twoToTheDoubleScaleDown", type := .double, accessFlags := 8, slot := 8, constantValue := 0 }, { name := "$assertionsDisabled", type := .boolean, accessFlags := 4120, slot := 9, constantValue := 0 }]
  methods := #[k19m0, k19m1, k19m2]
  instanceTypes := #[]
  staticTypes := #[.double, .double, .double, .double, .double, .long, .long, .double, .double, .boolean]
  resolved := Array.replicate 460 none
  statics := none }

def pool20 : Array CpInfo := pool [(1, .methodref 2 3), (0, .class_ 4), (0, .nameAndType 5 6), (0, u "java/lang/Object"), (0, u "<init>"), (0, u "()V"), (0, .class_ 8), (0, u "java/lang/Record")] 13

def k20c0 : Code := { maxStack := 1, maxLocals := 1, code := jdk_30_method_1_code, exceptionTable := #[], attributes := #[] }
def k20m0 : Method := { name := "<init>", desc := "()V", sig := { parameters := [], returnType := none }, accessFlags := 4, code := some k20c0 }
def k20 : Class := { plain "java/lang/Record" (some 0) with
  accessFlags := 1057
  interfaces := #[]
  cf := some (fileOf pool20 7 #[] #[{ accessFlags := 4, nameIndex := 5, descriptorIndex := 6, attributes := #[] }] 1057 2 #[] #[])
  fields := #[]
  methods := #[k20m0]
  instanceTypes := #[]
  staticTypes := #[]
  resolved := Array.replicate 22 none
  statics := none }

def pool21 : Array CpInfo := pool [(1, .methodref 2 3), (0, .class_ 4), (0, .nameAndType 5 6), (0, u "java/lang/Record"), (0, u "<init>"), (0, u "()V"), (0, .fieldref 8 9), (0, .class_ 10), (0, .nameAndType 11 12), (0, u "com/example/metsmith/metsmith/Mets$Div"), (0, u "type"), (0, u "Ljava/lang/String;"), (0, .fieldref 8 14), (0, .nameAndType 15 12), (0, u "label"), (0, .fieldref 8 17), (0, .nameAndType 18 19), (0, u "dmdIds"), (0, u "Ljava/util/List;"), (0, .fieldref 8 21), (0, .nameAndType 22 19), (0, u "admIds"), (0, .fieldref 8 24), (0, .nameAndType 25 19), (0, u "fileIds"), (0, .fieldref 8 27), (0, .nameAndType 28 19), (0, u "divs"), (0, .class_ 30), (0, u "com/example/metsmith/metsmith/Mets$Div$1"), (0, .methodref 29 32), (0, .nameAndType 5 33), (0, u "(I)V"), (0, .interfaceMethodref 35 36), (0, .class_ 37), (0, .nameAndType 38 39), (0, u "java/util/List"), (0, u "of"), (0, u "()Ljava/util/List;"), (0, .methodref 8 41), (0, .nameAndType 5 42), (0, u "(Ljava/lang/String;Ljava/lang/String;Ljava/util/List;Ljava/util/List;Ljava/util/List;Ljava/util/List;)V"), (19, u "flat"), (0, u "(Ljava/util/List;Ljava/util/List;I)Lcom/example/metsmith/metsmith/Mets$Div;"), (1, u "()Ljava/lang/String;"), (7, .class_ 74), (0, u "com/example/metsmith/metsmith/Mets")] 24

def k21c0 : Code := { maxStack := 2, maxLocals := 7, code := prog_29_method_1_code, exceptionTable := #[], attributes := #[] }
def k21m0 : Method := { name := "<init>", desc := "(Ljava/lang/String;Ljava/lang/String;Ljava/util/List;Ljava/util/List;Ljava/util/List;Ljava/util/List;)V", sig := { parameters := [(.object "java/lang/String"), (.object "java/lang/String"), (.object "java/util/List"), (.object "java/util/List"), (.object "java/util/List"), (.object "java/util/List")], returnType := none }, accessFlags := 0, code := some k21c0 }
def k21c1 : Code := { maxStack := 8, maxLocals := 4, code := prog_29_method_2_code, exceptionTable := #[], attributes := #[] }
def k21m1 : Method := { name := "flat", desc := "(Ljava/util/List;Ljava/util/List;I)Lcom/example/metsmith/metsmith/Mets$Div;", sig := { parameters := [(.object "java/util/List"), (.object "java/util/List"), .int], returnType := some (.object "com/example/metsmith/metsmith/Mets$Div") }, accessFlags := 8, code := some k21c1 }
def k21c2 : Code := { maxStack := 1, maxLocals := 1, code := prog_29_method_6_code, exceptionTable := #[], attributes := #[] }
def k21m2 : Method := { name := "type", desc := "()Ljava/lang/String;", sig := { parameters := [], returnType := some (.object "java/lang/String") }, accessFlags := 1, code := some k21c2 }
def k21c3 : Code := { maxStack := 1, maxLocals := 1, code := prog_29_method_7_code, exceptionTable := #[], attributes := #[] }
def k21m3 : Method := { name := "label", desc := "()Ljava/lang/String;", sig := { parameters := [], returnType := some (.object "java/lang/String") }, accessFlags := 1, code := some k21c3 }
def k21c4 : Code := { maxStack := 1, maxLocals := 1, code := prog_29_method_8_code, exceptionTable := #[], attributes := #[] }
def k21m4 : Method := { name := "dmdIds", desc := "()Ljava/util/List;", sig := { parameters := [], returnType := some (.object "java/util/List") }, accessFlags := 1, code := some k21c4 }
def k21c5 : Code := { maxStack := 1, maxLocals := 1, code := prog_29_method_9_code, exceptionTable := #[], attributes := #[] }
def k21m5 : Method := { name := "admIds", desc := "()Ljava/util/List;", sig := { parameters := [], returnType := some (.object "java/util/List") }, accessFlags := 1, code := some k21c5 }
def k21c6 : Code := { maxStack := 1, maxLocals := 1, code := prog_29_method_10_code, exceptionTable := #[], attributes := #[] }
def k21m6 : Method := { name := "fileIds", desc := "()Ljava/util/List;", sig := { parameters := [], returnType := some (.object "java/util/List") }, accessFlags := 1, code := some k21c6 }
def k21c7 : Code := { maxStack := 1, maxLocals := 1, code := prog_29_method_11_code, exceptionTable := #[], attributes := #[] }
def k21m7 : Method := { name := "divs", desc := "()Ljava/util/List;", sig := { parameters := [], returnType := some (.object "java/util/List") }, accessFlags := 1, code := some k21c7 }
def k21 : Class := { plain "com/example/metsmith/metsmith/Mets$Div" (some 20) with
  accessFlags := 48
  interfaces := #[]
  cf := some (fileOf pool21 8 #[.nestHost 73] #[{ accessFlags := 0, nameIndex := 5, descriptorIndex := 42, attributes := #[] }, { accessFlags := 8, nameIndex := 62, descriptorIndex := 63, attributes := #[] }, { accessFlags := 1, nameIndex := 11, descriptorIndex := 65, attributes := #[] }, { accessFlags := 1, nameIndex := 15, descriptorIndex := 65, attributes := #[] }, { accessFlags := 1, nameIndex := 18, descriptorIndex := 39, attributes := #[] }, { accessFlags := 1, nameIndex := 22, descriptorIndex := 39, attributes := #[] }, { accessFlags := 1, nameIndex := 25, descriptorIndex := 39, attributes := #[] }, { accessFlags := 1, nameIndex := 28, descriptorIndex := 39, attributes := #[] }] 48 2 #[] #[{ accessFlags := 18, nameIndex := 11, descriptorIndex := 12, attributes := #[] }, { accessFlags := 18, nameIndex := 15, descriptorIndex := 12, attributes := #[] }, { accessFlags := 18, nameIndex := 18, descriptorIndex := 19, attributes := #[] }, { accessFlags := 18, nameIndex := 22, descriptorIndex := 19, attributes := #[] }, { accessFlags := 18, nameIndex := 25, descriptorIndex := 19, attributes := #[] }, { accessFlags := 18, nameIndex := 28, descriptorIndex := 19, attributes := #[] }])
  fields := #[{ name := "type", type := (.object "java/lang/String"), accessFlags := 18, slot := 0, constantValue := 0 }, { name := "label", type := (.object "java/lang/String"), accessFlags := 18, slot := 1, constantValue := 0 }, { name := "dmdIds", type := (.object "java/util/List"), accessFlags := 18, slot := 2, constantValue := 0 }, { name := "admIds", type := (.object "java/util/List"), accessFlags := 18, slot := 3, constantValue := 0 }, { name := "fileIds", type := (.object "java/util/List"), accessFlags := 18, slot := 4, constantValue := 0 }, { name := "divs", type := (.object "java/util/List"), accessFlags := 18, slot := 5, constantValue := 0 }]
  methods := #[k21m0, k21m1, k21m2, k21m3, k21m4, k21m5, k21m6, k21m7]
  instanceTypes := #[(.object "java/lang/String"), (.object "java/lang/String"), (.object "java/util/List"), (.object "java/util/List"), (.object "java/util/List"), (.object "java/util/List")]
  staticTypes := #[]
  resolved := Array.replicate 99 none
  statics := none }

def pool22 : Array CpInfo := pool [(1, .fieldref 2 3), (0, .class_ 4), (0, .nameAndType 5 6), (0, u "com/example/metsmith/metsmith/Mets$Div$1"), (0, u "val$files"), (0, u "I"), (0, .methodref 8 9), (0, .class_ 10), (0, .nameAndType 11 12), (0, u "java/util/AbstractList"), (0, u "<init>"), (0, u "()V"), (0, .class_ 14), (0, u "com/example/metsmith/metsmith/Mets$Div"), (0, .interfaceMethodref 16 17), (0, .class_ 18), (0, .nameAndType 19 20), (0, u "java/util/List"), (0, u "of"), (0, u "()Ljava/util/List;"), (0, .methodref 22 23), (0, .class_ 24), (0, .nameAndType 25 26), (0, u "com/example/metsmith/metsmith/Mets"), (0, u "fileId"), (0, u "(I)Ljava/lang/String;"), (0, .interfaceMethodref 16 28), (0, .nameAndType 19 29), (0, u "(Ljava/lang/Object;)Ljava/util/List;"), (0, .methodref 13 31), (0, .nameAndType 11 32), (0, u "(Ljava/lang/String;Ljava/lang/String;Ljava/util/List;Ljava/util/List;Ljava/util/List;Ljava/util/List;)V"), (0, .methodref 2 34), (0, .nameAndType 35 36), (0, u "get"), (0, u "(I)Lcom/example/metsmith/metsmith/Mets$Div;"), (0, u "(I)V"), (2, u "size"), (0, u "()I"), (0, u "(I)Ljava/lang/Object;")] 12

def k22c0 : Code := { maxStack := 2, maxLocals := 2, code := prog_30_method_1_code, exceptionTable := #[], attributes := #[] }
def k22m0 : Method := { name := "<init>", desc := "(I)V", sig := { parameters := [.int], returnType := none }, accessFlags := 0, code := some k22c0 }
def k22c1 : Code := { maxStack := 8, maxLocals := 2, code := prog_30_method_2_code, exceptionTable := #[], attributes := #[] }
def k22m1 : Method := { name := "get", desc := "(I)Lcom/example/metsmith/metsmith/Mets$Div;", sig := { parameters := [.int], returnType := some (.object "com/example/metsmith/metsmith/Mets$Div") }, accessFlags := 1, code := some k22c1 }
def k22c2 : Code := { maxStack := 1, maxLocals := 1, code := prog_30_method_3_code, exceptionTable := #[], attributes := #[] }
def k22m2 : Method := { name := "size", desc := "()I", sig := { parameters := [], returnType := some .int }, accessFlags := 1, code := some k22c2 }
def k22c3 : Code := { maxStack := 2, maxLocals := 2, code := prog_30_method_4_code, exceptionTable := #[], attributes := #[] }
def k22m3 : Method := { name := "get", desc := "(I)Ljava/lang/Object;", sig := { parameters := [.int], returnType := some (.object "java/lang/Object") }, accessFlags := 4161, code := some k22c3 }
def k22 : Class := { plain "com/example/metsmith/metsmith/Mets$Div$1" (some 15) with
  accessFlags := 32
  interfaces := #[]
  cf := some (fileOf pool22 2 #[.nestHost 22] #[{ accessFlags := 0, nameIndex := 11, descriptorIndex := 37, attributes := #[] }, { accessFlags := 1, nameIndex := 35, descriptorIndex := 36, attributes := #[] }, { accessFlags := 1, nameIndex := 40, descriptorIndex := 41, attributes := #[] }, { accessFlags := 4161, nameIndex := 35, descriptorIndex := 42, attributes := #[] }] 32 8 #[] #[{ accessFlags := 4112, nameIndex := 5, descriptorIndex := 6, attributes := #[] }])
  fields := #[{ name := "val$files", type := .int, accessFlags := 4112, slot := 1, constantValue := 0 }]
  methods := #[k22m0, k22m1, k22m2, k22m3]
  instanceTypes := #[.int, .int]
  staticTypes := #[]
  resolved := Array.replicate 55 none
  statics := none }

def pool23 : Array CpInfo := pool [(2, .class_ 4), (1, u "java/lang/Object"), (0, u "<init>"), (0, u "()V"), (3, .class_ 11), (0, u "java/util/ImmutableCollections$List12"), (0, .class_ 13), (0, u "java/util/ImmutableCollections$ListN"), (3, u "Z"), (29, .class_ 49), (1, u "java/util/ImmutableCollections"), (0, u "$assertionsDisabled"), (5, u "[Ljava/lang/Object;"), (5, u "EMPTY_LIST"), (0, u "Ljava/util/ImmutableCollections$ListN;"), (8, u "EMPTY_LIST_NULLS"), (22, u "SALT32L"), (0, u "J"), (2, u "REVERSE"), (6, u "archivedObjects"), (2, u "EMPTY"), (0, u "Ljava/lang/Object;"), (0, .class_ 112), (0, u "java/util/ImmutableCollections$SetN"), (5, u "EMPTY_SET"), (0, u "Ljava/util/ImmutableCollections$SetN;"), (0, .class_ 121), (0, u "java/util/ImmutableCollections$MapN"), (3, u "EMPTY_MAP"), (0, u "Ljava/util/ImmutableCollections$MapN;"), (4, u "EXPAND_FACTOR"), (0, u "I"), (36, .class_ 170), (0, u "java/util/ImmutableCollections$MapN$MapNIterator"), (0, .class_ 172), (0, u "java/util/ImmutableCollections$MapN$1"), (0, .class_ 174), (0, u "java/util/ImmutableCollections$Map1"), (0, .class_ 176), (0, u "java/util/ImmutableCollections$AbstractImmutableMap"), (0, .class_ 178), (0, u "java/util/ImmutableCollections$SetN$SetNIterator"), (0, .class_ 180), (0, u "java/util/ImmutableCollections$Set12"), (0, .class_ 182), (0, u "java/util/ImmutableCollections$Set12$1"), (0, .class_ 184), (0, u "java/util/ImmutableCollections$AbstractImmutableSet"), (0, .class_ 186), (0, u "java/util/ImmutableCollections$SubList"), (0, .class_ 188), (0, u "java/util/ImmutableCollections$ListItr"), (0, .class_ 190), (0, u "java/util/ImmutableCollections$AbstractImmutableList"), (0, .class_ 192), (0, u "java/util/ImmutableCollections$AbstractImmutableCollection"), (0, .class_ 194), (0, u "java/util/ImmutableCollections$Access"), (0, .class_ 196), (0, u "java/util/ImmutableCollections$Access$1")] 16

def k23m0 : Method := { name := "<init>", desc := "()V", sig := { parameters := [], returnType := none }, accessFlags := 2, code := none }
def k23 : Class := { plain "java/util/ImmutableCollections" (some 0) with
  accessFlags := 32
  interfaces := #[]
  cf := some (fileOf pool23 47 #[.nestMembers #[120, 169, 171, 173, 175, 111, 177, 179, 181, 183, 12, 10, 185, 187, 189, 191, 193, 195]] #[{ accessFlags := 2, nameIndex := 5, descriptorIndex := 6, attributes := #[] }] 32 2 #[] #[{ accessFlags := 26, nameIndex := 95, descriptorIndex := 96, attributes := #[] }, { accessFlags := 26, nameIndex := 99, descriptorIndex := 17, attributes := #[] }, { accessFlags := 10, nameIndex := 106, descriptorIndex := 56, attributes := #[] }, { accessFlags := 26, nameIndex := 109, descriptorIndex := 110, attributes := #[] }, { accessFlags := 24, nameIndex := 62, descriptorIndex := 63, attributes := #[] }, { accessFlags := 24, nameIndex := 72, descriptorIndex := 63, attributes := #[] }, { accessFlags := 24, nameIndex := 118, descriptorIndex := 119, attributes := #[] }, { accessFlags := 24, nameIndex := 125, descriptorIndex := 126, attributes := #[] }, { accessFlags := 24, nameIndex := 131, descriptorIndex := 132, attributes := #[] }, { accessFlags := 4120, nameIndex := 50, descriptorIndex := 17, attributes := #[] }])
  fields := #[{ name := "SALT32L", type := .long, accessFlags := 26, slot := 0, constantValue := 0 }, { name := "REVERSE", type := .boolean, accessFlags := 26, slot := 1, constantValue := 0 }, { name := "archivedObjects", type := (.array (.object "java/lang/Object")), accessFlags := 10, slot := 2, constantValue := 0 }, { name := "EMPTY", type := (.object "java/lang/Object"), accessFlags := 26, slot := 3, constantValue := 0 }, { name := "EMPTY_LIST", type := (.object "java/util/ImmutableCollections$ListN"), accessFlags := 24, slot := 4, constantValue := 0 }, { name := "EMPTY_LIST_NULLS", type := (.object "java/util/ImmutableCollections$ListN"), accessFlags := 24, slot := 5, constantValue := 0 }, { name := "EMPTY_SET", type := (.object "java/util/ImmutableCollections$SetN"), accessFlags := 24, slot := 6, constantValue := 0 }, { name := "EMPTY_MAP", type := (.object "java/util/ImmutableCollections$MapN"), accessFlags := 24, slot := 7, constantValue := 0 }, { name := "EXPAND_FACTOR", type := .int, accessFlags := 24, slot := 8, constantValue := 0 }, { name := "$assertionsDisabled", type := .boolean, accessFlags := 4120, slot := 9, constantValue := 0 }]
  methods := #[k23m0]
  instanceTypes := #[]
  staticTypes := #[.long, .boolean, (.array (.object "java/lang/Object")), (.object "java/lang/Object"), (.object "java/util/ImmutableCollections$ListN"), (.object "java/util/ImmutableCollections$ListN"), (.object "java/util/ImmutableCollections$SetN"), (.object "java/util/ImmutableCollections$MapN"), .int, .boolean]
  resolved := Array.replicate 213 none
  statics := some 2 }

def pool24 : Array CpInfo := pool [(1, .methodref 2 3), (0, .class_ 4), (0, .nameAndType 5 6), (0, u "java/util/AbstractCollection"), (0, u "<init>"), (0, u "()V"), (1, .class_ 10), (1, u "java/util/ImmutableCollections"), (2, .class_ 14), (0, u "java/util/ImmutableCollections$AbstractImmutableCollection")] 41

def k24c0 : Code := { maxStack := 1, maxLocals := 1, code := jdk_47_method_1_code, exceptionTable := #[], attributes := #[] }
def k24m0 : Method := { name := "<init>", desc := "()V", sig := { parameters := [], returnType := none }, accessFlags := 0, code := some k24c0 }
def k24 : Class := { plain "java/util/ImmutableCollections$AbstractImmutableCollection" (some 12) with
  accessFlags := 1056
  interfaces := #[]
  cf := some (fileOf pool24 13 #[.nestHost 8] #[{ accessFlags := 0, nameIndex := 5, descriptorIndex := 6, attributes := #[] }] 1056 2 #[] #[])
  fields := #[]
  methods := #[k24m0]
  instanceTypes := #[]
  staticTypes := #[]
  resolved := Array.replicate 56 none
  statics := none }

def pool25 : Array CpInfo := pool [(1, .methodref 2 3), (0, .class_ 4), (0, .nameAndType 5 6), (0, u "java/util/ImmutableCollections$AbstractImmutableCollection"), (0, u "<init>"), (0, u "()V"), (1, .class_ 10), (1, u "java/util/ImmutableCollections"), (3, .class_ 16), (1, u "java/util/ImmutableCollections$AbstractImmutableList"), (60, .class_ 78), (0, u "java/util/List"), (45, .class_ 125), (0, u "java/util/RandomAccess")] 70

def k25c0 : Code := { maxStack := 1, maxLocals := 1, code := jdk_46_method_1_code, exceptionTable := #[], attributes := #[] }
def k25m0 : Method := { name := "<init>", desc := "()V", sig := { parameters := [], returnType := none }, accessFlags := 0, code := some k25c0 }
def k25 : Class := { plain "java/util/ImmutableCollections$AbstractImmutableList" (some 24) with
  accessFlags := 1056
  interfaces := #[14, 16]
  cf := some (fileOf pool25 14 #[.nestHost 8] #[{ accessFlags := 0, nameIndex := 5, descriptorIndex := 6, attributes := #[] }] 1056 2 #[77, 124] #[])
  fields := #[]
  methods := #[k25m0]
  instanceTypes := #[]
  staticTypes := #[]
  resolved := Array.replicate 196 none
  statics := none }

def pool26 : Array CpInfo := pool [(2, .class_ 4), (1, u "java/util/ImmutableCollections$AbstractImmutableList"), (2, .fieldref 8 9), (0, .class_ 10), (0, .nameAndType 11 12), (0, u "java/util/ImmutableCollections$ListN"), (0, u "elements"), (0, u "[Ljava/lang/Object;"), (2, u "allowNulls"), (0, u "Z"), (42, .class_ 60), (0, u "java/io/Serializable"), (16, u "size"), (0, u "()I"), (35, .class_ 115), (0, u "java/util/ImmutableCollections")] 3

def k26c0 : Code := { maxStack := 1, maxLocals := 1, code := jdk_45_method_3_code, exceptionTable := #[], attributes := #[] }
def k26m0 : Method := { name := "size", desc := "()I", sig := { parameters := [], returnType := some .int }, accessFlags := 1, code := some k26c0 }
def k26 : Class := { plain "java/util/ImmutableCollections$ListN" (some 25) with
  accessFlags := 48
  interfaces := #[2]
  cf := some (fileOf pool26 8 #[.nestHost 114] #[{ accessFlags := 1, nameIndex := 77, descriptorIndex := 78, attributes := #[] }] 48 2 #[59] #[{ accessFlags := 18, nameIndex := 11, descriptorIndex := 12, attributes := #[] }, { accessFlags := 18, nameIndex := 15, descriptorIndex := 16, attributes := #[] }])
  fields := #[{ name := "elements", type := (.array (.object "java/lang/Object")), accessFlags := 18, slot := 0, constantValue := 0 }, { name := "allowNulls", type := .boolean, accessFlags := 18, slot := 1, constantValue := 0 }]
  methods := #[k26m0]
  instanceTypes := #[(.array (.object "java/lang/Object")), .boolean]
  staticTypes := #[]
  resolved := Array.replicate 119 none
  statics := none }

def pool27 : Array CpInfo := pool [(2, .class_ 4), (1, u "java/lang/Object"), (0, u "<init>"), (0, u "()V"), (35, .class_ 44), (1, u "java/util/Objects"), (0, u "requireNonNull"), (0, u "(Ljava/lang/Object;)Ljava/lang/Object;"), (58, .methodref 106 107), (0, .class_ 108), (0, .nameAndType 109 110), (0, u "jdk/internal/util/Preconditions"), (0, u "checkIndex"), (0, u "(IILjava/util/function/BiFunction;)I"), (60, u "(II)I")] 12

def k27m0 : Method := { name := "<init>", desc := "()V", sig := { parameters := [], returnType := none }, accessFlags := 2, code := none }
def k27c1 : Code := { maxStack := 2, maxLocals := 1, code := jdk_31_method_10_code, exceptionTable := #[], attributes := #[] }
def k27m1 : Method := { name := "requireNonNull", desc := "(Ljava/lang/Object;)Ljava/lang/Object;", sig := { parameters := [(.object "java/lang/Object")], returnType := some (.object "java/lang/Object") }, accessFlags := 9, code := some k27c1 }
def k27c2 : Code := { maxStack := 3, maxLocals := 2, code := jdk_31_method_17_code, exceptionTable := #[], attributes := #[] }
def k27m2 : Method := { name := "checkIndex", desc := "(II)I", sig := { parameters := [.int, .int], returnType := some .int }, accessFlags := 9, code := some k27c2 }
def k27 : Class := { plain "java/util/Objects" (some 0) with
  accessFlags := 49
  interfaces := #[]
  cf := some (fileOf pool27 42 #[] #[{ accessFlags := 2, nameIndex := 5, descriptorIndex := 6, attributes := #[] }, { accessFlags := 9, nameIndex := 45, descriptorIndex := 46, attributes := #[] }, { accessFlags := 9, nameIndex := 109, descriptorIndex := 171, attributes := #[] }] 49 2 #[] #[])
  fields := #[]
  methods := #[k27m0, k27m1, k27m2]
  instanceTypes := #[]
  staticTypes := #[]
  resolved := Array.replicate 184 none
  statics := none }

def pool28 : Array CpInfo := pool [(2, .class_ 4), (1, u "java/lang/Object"), (0, u "<init>"), (0, u "()V"), (17, .class_ 26), (1, u "jdk/internal/util/Preconditions"), (6, u "checkIndex"), (21, .class_ 56), (0, u "jdk/internal/util/Preconditions$4"), (57, .class_ 115), (0, u "jdk/internal/util/Preconditions$1"), (7, u "SIOOBE_FORMATTER"), (0, u "Ljava/util/function/BiFunction;"), (0, .class_ 126), (0, u "jdk/internal/util/Preconditions$2"), (3, u "AIOOBE_FORMATTER"), (0, .class_ 132), (0, u "jdk/internal/util/Preconditions$3"), (3, u "IOOBE_FORMATTER"), (41, u "(IILjava/util/function/BiFunction;)I")] 15

def k28m0 : Method := { name := "<init>", desc := "()V", sig := { parameters := [], returnType := none }, accessFlags := 1, code := none }
def k28c1 : Code := { maxStack := 3, maxLocals := 3, code := jdk_41_method_11_code, exceptionTable := #[], attributes := #[] }
def k28m1 : Method := { name := "checkIndex", desc := "(IILjava/util/function/BiFunction;)I", sig := { parameters := [.int, .int, (.object "java/util/function/BiFunction")], returnType := some .int }, accessFlags := 9, code := some k28c1 }
def k28 : Class := { plain "jdk/internal/util/Preconditions" (some 0) with
  accessFlags := 33
  interfaces := #[]
  cf := some (fileOf pool28 24 #[.nestMembers #[55, 131, 125, 114]] #[{ accessFlags := 1, nameIndex := 5, descriptorIndex := 6, attributes := #[] }, { accessFlags := 9, nameIndex := 33, descriptorIndex := 178, attributes := #[] }] 33 2 #[] #[{ accessFlags := 25, nameIndex := 123, descriptorIndex := 124, attributes := #[] }, { accessFlags := 25, nameIndex := 130, descriptorIndex := 124, attributes := #[] }, { accessFlags := 25, nameIndex := 136, descriptorIndex := 124, attributes := #[] }])
  fields := #[{ name := "SIOOBE_FORMATTER", type := (.object "java/util/function/BiFunction"), accessFlags := 25, slot := 0, constantValue := 0 }, { name := "AIOOBE_FORMATTER", type := (.object "java/util/function/BiFunction"), accessFlags := 25, slot := 1, constantValue := 0 }, { name := "IOOBE_FORMATTER", type := (.object "java/util/function/BiFunction"), accessFlags := 25, slot := 2, constantValue := 0 }]
  methods := #[k28m0, k28m1]
  instanceTypes := #[]
  staticTypes := #[(.object "java/util/function/BiFunction"), (.object "java/util/function/BiFunction"), (.object "java/util/function/BiFunction")]
  resolved := Array.replicate 194 none
  statics := some 3 }

def pool29 : Array CpInfo := pool [(2, .class_ 4), (0, .nameAndType 5 6), (0, u "java/lang/Record"), (0, u "<init>"), (0, u "()V"), (1, .class_ 10), (1, u "com/example/metsmith/metsmith/Mets"), (0, u "id"), (0, u "Ljava/lang/String;"), (2, u "profile"), (2, u "created"), (0, u "Ljava/time/Instant;"), (2, u "creator"), (0, u "Lcom/example/metsmith/metsmith/Mets$Agent;"), (2, u "dmdSecs"), (0, u "Ljava/util/List;"), (2, u "amdSecs"), (2, u "fileGroupUse"), (2, u "files"), (2, u "fileUses"), (0, u "Ljava/util/Map;"), (2, u "fileAmdSecs"), (2, u "structMap"), (0, u "Lcom/example/metsmith/metsmith/Mets$StructMap;"), (0, .class_ 49), (0, u "com/example/metsmith/metsmith/Mets$StructMap"), (11, .class_ 63), (1, u "com/example/metsmith/metsmith/Mets$Div"), (6, .class_ 72), (1, u "com/example/metsmith/metsmith/Mets$Agent"), (10, .class_ 84), (0, u "java/lang/StringBuilder"), (0, .methodref 83 3), (0, .string 87), (0, u "file-"), (0, .methodref 83 89), (0, .nameAndType 90 91), (0, u "append"), (0, u "(Ljava/lang/String;)Ljava/lang/StringBuilder;"), (0, .methodref 83 93), (0, .nameAndType 90 94), (0, u "(I)Ljava/lang/StringBuilder;"), (0, .methodref 83 96), (0, .nameAndType 97 98), (0, u "toString"), (0, u "()Ljava/lang/String;"), (32, u "AMD_SECTIONS"), (5, u "NAMESPACE"), (3, u "XLINK_NAMESPACE"), (13, u "fileId"), (0, u "(I)Ljava/lang/String;"), (12, .class_ 170), (0, u "com/example/metsmith/metsmith/Mets$PremisObject"), (0, .class_ 172), (0, u "com/example/metsmith/metsmith/Mets$Metadata"), (0, .class_ 174), (0, u "com/example/metsmith/metsmith/Mets$AmdSec"), (0, .class_ 176), (0, u "com/example/metsmith/metsmith/Mets$MdSec"), (0, .class_ 178), (0, u "com/example/metsmith/metsmith/Mets$Div$1")] 35

def k29c0 : Code := { maxStack := 3, maxLocals := 1, code := prog_26_method_3_code, exceptionTable := #[], attributes := #[] }
def k29m0 : Method := { name := "fileId", desc := "(I)Ljava/lang/String;", sig := { parameters := [.int], returnType := some (.object "java/lang/String") }, accessFlags := 8, code := some k29c0 }
def k29 : Class := { plain "com/example/metsmith/metsmith/Mets" (some 20) with
  accessFlags := 48
  interfaces := #[]
  cf := some (fileOf pool29 8 #[.nestMembers #[169, 171, 173, 175, 61, 177, 48, 70]] #[{ accessFlags := 8, nameIndex := 155, descriptorIndex := 156, attributes := #[] }] 48 2 #[] #[{ accessFlags := 18, nameIndex := 11, descriptorIndex := 12, attributes := #[] }, { accessFlags := 18, nameIndex := 15, descriptorIndex := 12, attributes := #[] }, { accessFlags := 18, nameIndex := 18, descriptorIndex := 19, attributes := #[] }, { accessFlags := 18, nameIndex := 22, descriptorIndex := 23, attributes := #[] }, { accessFlags := 18, nameIndex := 26, descriptorIndex := 27, attributes := #[] }, { accessFlags := 18, nameIndex := 30, descriptorIndex := 27, attributes := #[] }, { accessFlags := 18, nameIndex := 33, descriptorIndex := 12, attributes := #[] }, { accessFlags := 18, nameIndex := 36, descriptorIndex := 27, attributes := #[] }, { accessFlags := 18, nameIndex := 39, descriptorIndex := 40, attributes := #[] }, { accessFlags := 18, nameIndex := 43, descriptorIndex := 27, attributes := #[] }, { accessFlags := 18, nameIndex := 46, descriptorIndex := 47, attributes := #[] }, { accessFlags := 24, nameIndex := 137, descriptorIndex := 12, attributes := #[] }, { accessFlags := 24, nameIndex := 141, descriptorIndex := 12, attributes := #[] }, { accessFlags := 24, nameIndex := 131, descriptorIndex := 27, attributes := #[] }])
  fields := #[{ name := "id", type := (.object "java/lang/String"), accessFlags := 18, slot := 0, constantValue := 0 }, { name := "profile", type := (.object "java/lang/String"), accessFlags := 18, slot := 1, constantValue := 0 }, { name := "created", type := (.object "java/time/Instant"), accessFlags := 18, slot := 2, constantValue := 0 }, { name := "creator", type := (.object "com/example/metsmith/metsmith/Mets$Agent"), accessFlags := 18, slot := 3, constantValue := 0 }, { name := "dmdSecs", type := (.object "java/util/List"), accessFlags := 18, slot := 4, constantValue := 0 }, { name := "amdSecs", type := (.object "java/util/List"), accessFlags := 18, slot := 5, constantValue := 0 }, { name := "fileGroupUse", type := (.object "java/lang/String"), accessFlags := 18, slot := 6, constantValue := 0 }, { name := "files", type := (.object "java/util/List"), accessFlags := 18, slot := 7, constantValue := 0 }, { name := "fileUses", type := (.object "java/util/Map"), accessFlags := 18, slot := 8, constantValue := 0 }, { name := "fileAmdSecs", type := (.object "java/util/List"), accessFlags := 18, slot := 9, constantValue := 0 }, { name := "structMap", type := (.object "com/example/metsmith/metsmith/Mets$StructMap"), accessFlags := 18, slot := 10, constantValue := 0 }, { name := "NAMESPACE", type := (.object "java/lang/String"), accessFlags := 24, slot := 0, constantValue := 0 }, { name := "XLINK_NAMESPACE", type := (.object "java/lang/String"), accessFlags := 24, slot := 1, constantValue := 0 }, { name := "AMD_SECTIONS", type := (.object "java/util/List"), accessFlags := 24, slot := 2, constantValue := 0 }]
  methods := #[k29m0]
  instanceTypes := #[(.object "java/lang/String"), (.object "java/lang/String"), (.object "java/time/Instant"), (.object "com/example/metsmith/metsmith/Mets$Agent"), (.object "java/util/List"), (.object "java/util/List"), (.object "java/lang/String"), (.object "java/util/List"), (.object "java/util/Map"), (.object "java/util/List"), (.object "com/example/metsmith/metsmith/Mets$StructMap")]
  staticTypes := #[(.object "java/lang/String"), (.object "java/lang/String"), (.object "java/util/List")]
  resolved := Array.replicate 214 none
  statics := none }

def pool30 : Array CpInfo := pool [(1, .class_ 2), (0, u "java/lang/Appendable"), (0, .class_ 4), (0, u "java/lang/Object")] 9

def k30 : Class := { plain "java/lang/Appendable" (some 0) with
  accessFlags := 1537
  interfaces := #[]
  cf := some (fileOf pool30 1 #[] #[] 1537 3 #[] #[])
  fields := #[]
  methods := #[]
  instanceTypes := #[]
  staticTypes := #[]
  resolved := Array.replicate 14 none
  statics := none }

def pool31 : Array CpInfo := pool [(1, .class_ 2), (0, u "java/lang/String"), (0, .methodref 4 5), (0, .class_ 6), (0, .nameAndType 7 8), (0, u "java/lang/Object"), (0, u "<init>"), (0, u "()V"), (1, .class_ 12), (1, u "java/lang/AbstractStringBuilder"), (0, u "EMPTYVALUE"), (0, u "[B"), (0, .fieldref 10 16), (0, .nameAndType 17 14), (0, u "value"), (0, .fieldref 1 19), (0, .nameAndType 20 21), (0, u "COMPACT_STRINGS"), (0, u "Z"), (0, .fieldref 10 23), (0, .nameAndType 24 25), (0, u "coder"), (0, u "B"), (6, .methodref 1 33), (0, .nameAndType 34 35), (0, u "length"), (0, u "()I"), (0, .class_ 37), (0, u "java/lang/Integer"), (2, .methodref 1 41), (0, .nameAndType 24 42), (0, u "()B"), (2, u "append"), (0, u "(Ljava/lang/String;)Ljava/lang/AbstractStringBuilder;"), (1, .class_ 49), (0, u "java/lang/CharSequence"), (19, u "(Ljava/lang/String;)V"), (5, u "maybeLatin1"), (3, .fieldref 10 80), (0, .nameAndType 81 82), (0, u "count"), (0, u "I"), (0, .methodref 10 84), (0, .nameAndType 85 86), (0, u "isLatin1"), (0, u "()Z"), (13, .methodref 10 101), (0, .nameAndType 102 103), (0, u "ensureCapacityInternal"), (0, u "(I)V"), (3, u "(I)I"), (80, u "getChars"), (19, .methodref 10 209), (0, .nameAndType 210 211), (0, u "putStringAt"), (0, u "(ILjava/lang/String;)V"), (5, u "inflateIfNeededFor"), (2, .nameAndType 221 222), (0, u "getBytes"), (0, u "([BIB)V"), (22, .methodref 36 246), (0, .nameAndType 247 107), (0, u "stringSize"), (0, .methodref 36 249), (0, .nameAndType 188 250), (0, u "(II[B)I"), (146, .methodref 10 398), (0, .nameAndType 217 69), (0, .methodref 1 220), (3, u "()[B"), (40, .class_ 445), (0, u "java/lang/Appendable"), (65, u "(I)Ljava/lang/AbstractStringBuilder;"), (40, u "getValue")] 56

def k31m0 : Method := { name := "<init>", desc := "()V", sig := { parameters := [], returnType := none }, accessFlags := 0, code := none }
def k31c1 : Code := { maxStack := 2, maxLocals := 2, code := jdk_68_method_2_code, exceptionTable := #[], attributes := #[] }
def k31m1 : Method := { name := "<init>", desc := "(I)V", sig := { parameters := [.int], returnType := none }, accessFlags := 0, code := some k31c1 }
def k31c2 : Code := { maxStack := 1, maxLocals := 1, code := jdk_68_method_6_code, exceptionTable := #[], attributes := #[] }
def k31m2 : Method := { name := "length", desc := "()I", sig := { parameters := [], returnType := some .int }, accessFlags := 1, code := some k31c2 }
def k31c3 : Code := { maxStack := 4, maxLocals := 3, code := jdk_68_method_9_code, exceptionTable := #[], attributes := #[] }
def k31m3 : Method := { name := "ensureCapacityInternal", desc := "(I)V", sig := { parameters := [.int], returnType := none }, accessFlags := 2, code := some k31c3 }
def k31c4 : Code := { maxStack := 3, maxLocals := 3, code := jdk_68_method_22_code, exceptionTable := #[], attributes := #[] }
def k31m4 : Method := { name := "append", desc := "(Ljava/lang/String;)Ljava/lang/AbstractStringBuilder;", sig := { parameters := [(.object "java/lang/String")], returnType := some (.object "java/lang/AbstractStringBuilder") }, accessFlags := 1, code := some k31c4 }
def k31c5 : Code := { maxStack := 4, maxLocals := 4, code := jdk_68_method_32_code, exceptionTable := #[], attributes := #[] }
def k31m5 : Method := { name := "append", desc := "(I)Ljava/lang/AbstractStringBuilder;", sig := { parameters := [.int], returnType := some (.object "java/lang/AbstractStringBuilder") }, accessFlags := 1, code := some k31c5 }
def k31c6 : Code := { maxStack := 1, maxLocals := 1, code := jdk_68_method_64_code, exceptionTable := #[], attributes := #[] }
def k31m6 : Method := { name := "getValue", desc := "()[B", sig := { parameters := [], returnType := some (.array .byte) }, accessFlags := 16, code := some k31c6 }
def k31c7 : Code := { maxStack := 1, maxLocals := 1, code := jdk_68_method_68_code, exceptionTable := #[], attributes := #[] }
def k31m7 : Method := { name := "isLatin1", desc := "()Z", sig := { parameters := [], returnType := some .boolean }, accessFlags := 16, code := some k31c7 }
def k31c8 : Code := { maxStack := 2, maxLocals := 2, code := jdk_68_method_71_code, exceptionTable := #[], attributes := #[] }
def k31m8 : Method := { name := "inflateIfNeededFor", desc := "(Ljava/lang/String;)V", sig := { parameters := [(.object "java/lang/String")], returnType := none }, accessFlags := 2, code := some k31c8 }
def k31c9 : Code := { maxStack := 4, maxLocals := 3, code := jdk_68_method_73_code, exceptionTable := #[], attributes := #[] }
def k31m9 : Method := { name := "putStringAt", desc := "(ILjava/lang/String;)V", sig := { parameters := [.int, (.object "java/lang/String")], returnType := none }, accessFlags := 2, code := some k31c9 }
def k31 : Class := { plain "java/lang/AbstractStringBuilder" (some 0) with
  accessFlags := 1056
  interfaces := #[30, 4]
  cf := some (fileOf pool31 10 #[] #[{ accessFlags := 0, nameIndex := 7, descriptorIndex := 8, attributes := #[] }, { accessFlags := 0, nameIndex := 7, descriptorIndex := 103, attributes := #[] }, { accessFlags := 1, nameIndex := 34, descriptorIndex := 35, attributes := #[] }, { accessFlags := 2, nameIndex := 102, descriptorIndex := 103, attributes := #[] }, { accessFlags := 1, nameIndex := 45, descriptorIndex := 46, attributes := #[] }, { accessFlags := 1, nameIndex := 45, descriptorIndex := 511, attributes := #[] }, { accessFlags := 16, nameIndex := 552, descriptorIndex := 403, attributes := #[] }, { accessFlags := 16, nameIndex := 85, descriptorIndex := 86, attributes := #[] }, { accessFlags := 2, nameIndex := 217, descriptorIndex := 69, attributes := #[] }, { accessFlags := 2, nameIndex := 210, descriptorIndex := 211, attributes := #[] }] 1056 4 #[444, 48] #[{ accessFlags := 0, nameIndex := 17, descriptorIndex := 14, attributes := #[] }, { accessFlags := 0, nameIndex := 24, descriptorIndex := 25, attributes := #[] }, { accessFlags := 0, nameIndex := 75, descriptorIndex := 21, attributes := #[] }, { accessFlags := 0, nameIndex := 81, descriptorIndex := 82, attributes := #[] }, { accessFlags := 26, nameIndex := 13, descriptorIndex := 14, attributes := #[] }])
  fields := #[{ name := "value", type := (.array .byte), accessFlags := 0, slot := 0, constantValue := 0 }, { name := "coder", type := .byte, accessFlags := 0, slot := 1, constantValue := 0 }, { name := "maybeLatin1", type := .boolean, accessFlags := 0, slot := 2, constantValue := 0 }, { name := "count", type := .int, accessFlags := 0, slot := 3, constantValue := 0 }, { name := "EMPTYVALUE", type := (.array .byte), accessFlags := 26, slot := 0, constantValue := 0 }]
  methods := #[k31m0, k31m1, k31m2, k31m3, k31m4, k31m5, k31m6, k31m7, k31m8, k31m9]
  instanceTypes := #[(.array .byte), .byte, .boolean, .int]
  staticTypes := #[(.array .byte)]
  resolved := Array.replicate 609 none
  statics := none }

def pool32 : Array CpInfo := pool [(1, .methodref 2 3), (0, .class_ 4), (0, .nameAndType 5 6), (0, u "java/lang/AbstractStringBuilder"), (0, u "<init>"), (0, u "(I)V"), (11, .class_ 20), (1, u "java/lang/String"), (3, .class_ 26), (1, u "java/lang/StringBuilder"), (0, u "append"), (0, u "(Ljava/lang/String;)Ljava/lang/StringBuilder;"), (0, .methodref 2 30), (0, .nameAndType 27 31), (0, u "(Ljava/lang/String;)Ljava/lang/AbstractStringBuilder;"), (21, .methodref 2 54), (0, .nameAndType 27 55), (0, u "(I)Ljava/lang/AbstractStringBuilder;"), (81, .methodref 18 138), (0, .nameAndType 5 139), (0, u "(Ljava/lang/StringBuilder;)V"), (5, u "()V"), (10, u "()I"), (111, u "(I)Ljava/lang/StringBuilder;"), (74, .methodref 2 344), (0, .nameAndType 345 156), (0, u "length"), (3, .class_ 350), (0, u "java/lang/Appendable"), (0, .class_ 352), (0, u "java/io/Serializable"), (0, .class_ 354), (0, u "java/lang/Comparable"), (0, .class_ 356), (0, u "java/lang/CharSequence"), (0, u "serialVersionUID"), (0, u "J"), (40, u "toString"), (0, u "()Ljava/lang/String;")] 21

def k32c0 : Code := { maxStack := 2, maxLocals := 1, code := jdk_67_method_1_code, exceptionTable := #[], attributes := #[] }
def k32m0 : Method := { name := "<init>", desc := "()V", sig := { parameters := [], returnType := none }, accessFlags := 1, code := some k32c0 }
def k32c1 : Code := { maxStack := 2, maxLocals := 2, code := jdk_67_method_7_code, exceptionTable := #[], attributes := #[] }
def k32m1 : Method := { name := "append", desc := "(Ljava/lang/String;)Ljava/lang/StringBuilder;", sig := { parameters := [(.object "java/lang/String")], returnType := some (.object "java/lang/StringBuilder") }, accessFlags := 1, code := some k32c1 }
def k32c2 : Code := { maxStack := 2, maxLocals := 2, code := jdk_67_method_15_code, exceptionTable := #[], attributes := #[] }
def k32m2 : Method := { name := "append", desc := "(I)Ljava/lang/StringBuilder;", sig := { parameters := [.int], returnType := some (.object "java/lang/StringBuilder") }, accessFlags := 1, code := some k32c2 }
def k32c3 : Code := { maxStack := 3, maxLocals := 1, code := jdk_67_method_42_code, exceptionTable := #[], attributes := #[] }
def k32m3 : Method := { name := "toString", desc := "()Ljava/lang/String;", sig := { parameters := [], returnType := some (.object "java/lang/String") }, accessFlags := 1, code := some k32c3 }
def k32c4 : Code := { maxStack := 1, maxLocals := 1, code := jdk_67_method_93_code, exceptionTable := #[], attributes := #[] }
def k32m4 : Method := { name := "length", desc := "()I", sig := { parameters := [], returnType := some .int }, accessFlags := 4161, code := some k32c4 }
def k32 : Class := { plain "java/lang/StringBuilder" (some 31) with
  accessFlags := 49
  interfaces := #[30, 2, 3, 4]
  cf := some (fileOf pool32 24 #[] #[{ accessFlags := 1, nameIndex := 5, descriptorIndex := 145, attributes := #[] }, { accessFlags := 1, nameIndex := 27, descriptorIndex := 28, attributes := #[] }, { accessFlags := 1, nameIndex := 27, descriptorIndex := 268, attributes := #[] }, { accessFlags := 1, nameIndex := 399, descriptorIndex := 400, attributes := #[] }, { accessFlags := 4161, nameIndex := 345, descriptorIndex := 156, attributes := #[] }] 49 2 #[349, 351, 353, 355] #[{ accessFlags := 24, nameIndex := 357, descriptorIndex := 358, attributes := #[] }])
  fields := #[{ name := "serialVersionUID", type := .long, accessFlags := 24, slot := 0, constantValue := 0 }]
  methods := #[k32m0, k32m1, k32m2, k32m3, k32m4]
  instanceTypes := #[(.array .byte), .byte, .boolean, .int]
  staticTypes := #[.long]
  resolved := Array.replicate 422 none
  statics := none }

def pool33 : Array CpInfo := pool [(2, .class_ 4), (1, u "java/lang/Object"), (0, u "<init>"), (0, u "()V"), (1, .class_ 10), (1, u "java/lang/System"), (0, u "allowSecurityManager"), (0, u "I"), (16, u "cons"), (0, u "Ljava/io/Console;"), (77, .class_ 110), (1, u "java/lang/System$CallersHolder"), (43, u "initialErrStream"), (0, u "Ljava/io/PrintStream;"), (19, u "security"), (0, u "Ljava/lang/SecurityManager;"), (31, .class_ 209), (0, u "java/lang/System$1"), (7, u "props"), (0, u "Ljava/util/Properties;"), (2, u "lineSeparator"), (0, u "Ljava/lang/String;"), (96, .class_ 321), (1, u "java/lang/System$LoggerFinder"), (5, .class_ 328), (0, u "java/lang/System$Logger"), (67, u "err"), (2, u "out"), (91, u "notSupportedJnuEncoding"), (15, u "in"), (17, u "initialIn"), (0, u "Ljava/io/InputStream;"), (35, u "bootLayer"), (0, u "Ljava/lang/ModuleLayer;"), (99, .class_ 664), (0, u "java/lang/System$2"), (9, u "NEVER"), (2, u "MAYBE"), (49, u "arraycopy"), (0, u "(Ljava/lang/Object;ILjava/lang/Object;II)V"), (72, .class_ 802), (0, u "java/lang/System$Logger$Level")] 31

def k33m0 : Method := { name := "<init>", desc := "()V", sig := { parameters := [], returnType := none }, accessFlags := 2, code := none }
def k33m1 : Method := { name := "arraycopy", desc := "(Ljava/lang/Object;ILjava/lang/Object;II)V", sig := { parameters := [(.object "java/lang/Object"), .int, (.object "java/lang/Object"), .int, .int], returnType := none }, accessFlags := 265, code := none }
def k33 : Class := { plain "java/lang/System" (some 0) with
  accessFlags := 49
  interfaces := #[]
  cf := some (fileOf pool33 8 #[.nestMembers #[319, 327, 801, 108, 663, 208]] #[{ accessFlags := 2, nameIndex := 5, descriptorIndex := 6, attributes := #[] }, { accessFlags := 265, nameIndex := 727, descriptorIndex := 728, attributes := #[] }] 49 2 #[] #[{ accessFlags := 25, nameIndex := 507, descriptorIndex := 526, attributes := #[] }, { accessFlags := 25, nameIndex := 399, descriptorIndex := 155, attributes := #[] }, { accessFlags := 25, nameIndex := 396, descriptorIndex := 155, attributes := #[] }, { accessFlags := 10, nameIndex := 525, descriptorIndex := 526, attributes := #[] }, { accessFlags := 26, nameIndex := 674, descriptorIndex := 12, attributes := #[] }, { accessFlags := 26, nameIndex := 677, descriptorIndex := 12, attributes := #[] }, { accessFlags := 10, nameIndex := 11, descriptorIndex := 12, attributes := #[] }, { accessFlags := 74, nameIndex := 175, descriptorIndex := 176, attributes := #[] }, { accessFlags := 10, nameIndex := 491, descriptorIndex := 222, attributes := #[] }, { accessFlags := 74, nameIndex := 29, descriptorIndex := 30, attributes := #[] }, { accessFlags := 74, nameIndex := 154, descriptorIndex := 155, attributes := #[] }, { accessFlags := 10, nameIndex := 217, descriptorIndex := 218, attributes := #[] }, { accessFlags := 10, nameIndex := 221, descriptorIndex := 222, attributes := #[] }, { accessFlags := 8, nameIndex := 562, descriptorIndex := 563, attributes := #[] }])
  fields := #[{ name := "in", type := (.object "java/io/InputStream"), accessFlags := 25, slot := 0, constantValue := 0 }, { name := "out", type := (.object "java/io/PrintStream"), accessFlags := 25, slot := 1, constantValue := 0 }, { name := "err", type := (.object "java/io/PrintStream"), accessFlags := 25, slot := 2, constantValue := 0 }, { name := "initialIn", type := (.object "java/io/InputStream"), accessFlags := 10, slot := 3, constantValue := 0 }, { name := "NEVER", type := .int, accessFlags := 26, slot := 4, constantValue := 0 }, { name := "MAYBE", type := .int, accessFlags := 26, slot := 5, constantValue := 0 }, { name := "allowSecurityManager", type := .int, accessFlags := 10, slot := 6, constantValue := 0 }, { name := "security", type := (.object "java/lang/SecurityManager"), accessFlags := 74, slot := 7, constantValue := 0 }, { name := "notSupportedJnuEncoding", type := (.object "java/lang/String"), accessFlags := 10, slot := 8, constantValue := 0 }, { name := "cons", type := (.object "java/io/Console"), accessFlags := 74, slot := 9, constantValue := 0 }, { name := "initialErrStream", type := (.object "java/io/PrintStream"), accessFlags := 74, slot := 10, constantValue := 0 }, { name := "props", type := (.object "java/util/Properties"), accessFlags := 10, slot := 11, constantValue := 0 }, { name := "lineSeparator", type := (.object "java/lang/String"), accessFlags := 10, slot := 12, constantValue := 0 }, { name := "bootLayer", type := (.object "java/lang/ModuleLayer"), accessFlags := 8, slot := 13, constantValue := 0 }]
  methods := #[k33m0, k33m1]
  instanceTypes := #[]
  staticTypes := #[(.object "java/io/InputStream"), (.object "java/io/PrintStream"), (.object "java/io/PrintStream"), (.object "java/io/InputStream"), .int, .int, .int, (.object "java/lang/SecurityManager"), (.object "java/lang/String"), (.object "java/io/Console"), (.object "java/io/PrintStream"), (.object "java/util/Properties"), (.object "java/lang/String"), (.object "java/lang/ModuleLayer")]
  resolved := Array.replicate 834 none
  statics := none }

def pool34 : Array CpInfo := pool [(2, .class_ 4), (1, u "java/lang/Object"), (0, u "<init>"), (0, u "()V"), (1, .class_ 10), (1, u "java/lang/Number"), (2, .class_ 14), (0, u "java/io/Serializable"), (0, u "serialVersionUID"), (0, u "J")] 20

def k34m0 : Method := { name := "<init>", desc := "()V", sig := { parameters := [], returnType := none }, accessFlags := 1, code := none }
def k34 : Class := { plain "java/lang/Number" (some 0) with
  accessFlags := 1057
  interfaces := #[2]
  cf := some (fileOf pool34 8 #[] #[{ accessFlags := 1, nameIndex := 5, descriptorIndex := 6, attributes := #[] }] 1057 2 #[13] #[{ accessFlags := 26, nameIndex := 15, descriptorIndex := 16, attributes := #[] }])
  fields := #[{ name := "serialVersionUID", type := .long, accessFlags := 26, slot := 0, constantValue := 0 }]
  methods := #[k34m0]
  instanceTypes := #[]
  staticTypes := #[.long]
  resolved := Array.replicate 37 none
  statics := none }

def pool35 : Array CpInfo := pool [(1, .class_ 2), (0, u "java/lang/Integer"), (16, u "digits"), (0, u "[C"), (33, u "(I)I"), (19, u "stringSize"), (2, u "getChars"), (0, u "(II[B)I"), (4, .fieldref 1 84), (0, .nameAndType 85 86), (0, u "DigitOnes"), (0, u "[B"), (0, .fieldref 1 88), (0, .nameAndType 89 86), (0, u "DigitTens"), (99, .class_ 190), (0, u "java/lang/Integer$IntegerCache"), (3, u "I"), (8, .class_ 204), (0, u "java/lang/Number"), (2, u "value"), (94, u "TYPE"), (0, u "Ljava/lang/Class;"), (0, .class_ 305), (0, u "java/lang/Comparable"), (0, .class_ 307), (0, u "java/lang/constant/Constable"), (0, .class_ 309), (0, u "java/lang/constant/ConstantDesc"), (0, u "MIN_VALUE"), (1, u "MAX_VALUE"), (3, u "SIZE"), (1, u "BYTES"), (1, u "serialVersionUID"), (0, u "J")] 131

def k35c0 : Code := { maxStack := 4, maxLocals := 7, code := jdk_33_method_12_code, exceptionTable := #[], attributes := #[] }
def k35m0 : Method := { name := "getChars", desc := "(II[B)I", sig := { parameters := [.int, .int, (.array .byte)], returnType := some .int }, accessFlags := 8, code := some k35c0 }
def k35c1 : Code := { maxStack := 2, maxLocals := 4, code := jdk_33_method_13_code, exceptionTable := #[], attributes := #[] }
def k35m1 : Method := { name := "stringSize", desc := "(I)I", sig := { parameters := [.int], returnType := some .int }, accessFlags := 8, code := some k35c1 }
def k35 : Class := { plain "java/lang/Integer" (some 34) with
  accessFlags := 49
  interfaces := #[3, 5, 6]
  cf := some (fileOf pool35 1 #[.nestMembers #[189]] #[{ accessFlags := 8, nameIndex := 77, descriptorIndex := 78, attributes := #[] }, { accessFlags := 8, nameIndex := 74, descriptorIndex := 54, attributes := #[] }] 49 203 #[304, 306, 308] #[{ accessFlags := 25, nameIndex := 310, descriptorIndex := 194, attributes := #[] }, { accessFlags := 25, nameIndex := 312, descriptorIndex := 194, attributes := #[] }, { accessFlags := 25, nameIndex := 302, descriptorIndex := 303, attributes := #[] }, { accessFlags := 24, nameIndex := 19, descriptorIndex := 20, attributes := #[] }, { accessFlags := 24, nameIndex := 89, descriptorIndex := 86, attributes := #[] }, { accessFlags := 24, nameIndex := 85, descriptorIndex := 86, attributes := #[] }, { accessFlags := 18, nameIndex := 207, descriptorIndex := 194, attributes := #[] }, { accessFlags := 25, nameIndex := 316, descriptorIndex := 194, attributes := #[] }, { accessFlags := 25, nameIndex := 318, descriptorIndex := 194, attributes := #[] }, { accessFlags := 26, nameIndex := 320, descriptorIndex := 321, attributes := #[] }])
  fields := #[{ name := "MIN_VALUE", type := .int, accessFlags := 25, slot := 0, constantValue := 0 }, { name := "MAX_VALUE", type := .int, accessFlags := 25, slot := 1, constantValue := 0 }, { name := "TYPE", type := (.object "java/lang/Class"), accessFlags := 25, slot := 2, constantValue := 0 }, { name := "digits", type := (.array .char), accessFlags := 24, slot := 3, constantValue := 0 }, { name := "DigitTens", type := (.array .byte), accessFlags := 24, slot := 4, constantValue := 0 }, { name := "DigitOnes", type := (.array .byte), accessFlags := 24, slot := 5, constantValue := 0 }, { name := "value", type := .int, accessFlags := 18, slot := 0, constantValue := 0 }, { name := "SIZE", type := .int, accessFlags := 25, slot := 6, constantValue := 0 }, { name := "BYTES", type := .int, accessFlags := 25, slot := 7, constantValue := 0 }, { name := "serialVersionUID", type := .long, accessFlags := 26, slot := 8, constantValue := 0 }]
  methods := #[k35m0, k35m1]
  instanceTypes := #[.int]
  staticTypes := #[.int, .int, (.object "java/lang/Class"), (.array .char), (.array .byte), (.array .byte), .int, .int, .long]
  resolved := Array.replicate 453 none
  statics := some 4 }

def pool36 : Array CpInfo := pool [(2, .class_ 4), (1, u "java/lang/Object"), (0, u "<init>"), (0, u "()V"), (7, .class_ 16), (1, u "java/util/Arrays"), (57, .class_ 76), (1, u "java/util/Arrays$NaturalOrder"), (36, .class_ 115), (1, u "java/util/Arrays$LegacyMergeSort"), (1, u "Z"), (21, u "copyOfRange"), (10, .methodref 151 152), (0, .class_ 153), (0, .nameAndType 154 155), (0, u "java/lang/System"), (0, u "arraycopy"), (0, u "(Ljava/lang/Object;ILjava/lang/Object;II)V"), (148, .methodref 305 306), (0, .class_ 307), (0, .nameAndType 308 309), (0, u "java/lang/Math"), (0, u "min"), (0, u "(II)I"), (29, .methodref 14 340), (0, .nameAndType 341 342), (0, u "copyOfRangeByte"), (0, u "([BII)[B"), (0, .methodref 14 344), (0, .nameAndType 345 346), (0, u "checkLength"), (0, u "(II)V"), (28, .class_ 376), (0, u "java/util/Arrays$ArrayList"), (68, u "$assertionsDisabled"), (269, u "MIN_ARRAY_SORT_GRAN"), (0, u "I"), (2, u "INSERTIONSORT_THRESHOLD"), (255, .class_ 976), (0, u "java/util/Arrays$ArrayItr")] 52

def k36m0 : Method := { name := "<init>", desc := "()V", sig := { parameters := [], returnType := none }, accessFlags := 2, code := none }
def k36c1 : Code := { maxStack := 4, maxLocals := 2, code := jdk_65_method_131_code, exceptionTable := #[], attributes := #[] }
def k36m1 : Method := { name := "checkLength", desc := "(II)V", sig := { parameters := [.int, .int], returnType := none }, accessFlags := 10, code := some k36c1 }
def k36c2 : Code := { maxStack := 3, maxLocals := 3, code := jdk_65_method_132_code, exceptionTable := #[], attributes := #[] }
def k36m2 : Method := { name := "copyOfRange", desc := "([BII)[B", sig := { parameters := [(.array .byte), .int, .int], returnType := some (.array .byte) }, accessFlags := 9, code := some k36c2 }
def k36c3 : Code := { maxStack := 6, maxLocals := 5, code := jdk_65_method_133_code, exceptionTable := #[], attributes := #[] }
def k36m3 : Method := { name := "copyOfRangeByte", desc := "([BII)[B", sig := { parameters := [(.array .byte), .int, .int], returnType := some (.array .byte) }, accessFlags := 10, code := some k36c3 }
def k36 : Class := { plain "java/util/Arrays" (some 0) with
  accessFlags := 49
  interfaces := #[]
  cf := some (fileOf pool36 14 #[.nestMembers #[975, 375, 113, 74]] #[{ accessFlags := 2, nameIndex := 5, descriptorIndex := 6, attributes := #[] }, { accessFlags := 10, nameIndex := 345, descriptorIndex := 346, attributes := #[] }, { accessFlags := 9, nameIndex := 139, descriptorIndex := 342, attributes := #[] }, { accessFlags := 10, nameIndex := 341, descriptorIndex := 342, attributes := #[] }] 49 2 #[] #[{ accessFlags := 26, nameIndex := 715, descriptorIndex := 716, attributes := #[] }, { accessFlags := 26, nameIndex := 719, descriptorIndex := 716, attributes := #[] }, { accessFlags := 4120, nameIndex := 445, descriptorIndex := 117, attributes := #[] }])
  fields := #[{ name := "MIN_ARRAY_SORT_GRAN", type := .int, accessFlags := 26, slot := 0, constantValue := 0 }, { name := "INSERTIONSORT_THRESHOLD", type := .int, accessFlags := 26, slot := 1, constantValue := 0 }, { name := "$assertionsDisabled", type := .boolean, accessFlags := 4120, slot := 2, constantValue := 0 }]
  methods := #[k36m0, k36m1, k36m2, k36m3]
  instanceTypes := #[]
  staticTypes := #[.int, .int, .boolean]
  resolved := Array.replicate 1029 none
  statics := none }

def pool37 : Array CpInfo := pool [(1, .methodref 2 3), (0, .class_ 4), (0, .nameAndType 5 6), (0, u "java/util/ImmutableCollections$AbstractImmutableList"), (0, u "<init>"), (0, u "()V"), (0, .methodref 8 9), (0, .class_ 10), (0, .nameAndType 11 12), (0, u "java/util/Objects"), (0, u "requireNonNull"), (0, u "(Ljava/lang/Object;)Ljava/lang/Object;"), (0, .fieldref 14 15), (0, .class_ 16), (0, .nameAndType 17 18), (0, u "java/util/ImmutableCollections$List12"), (0, u "e0"), (0, u "Ljava/lang/Object;"), (0, .fieldref 20 21), (0, .class_ 22), (0, .nameAndType 23 18), (0, u "java/util/ImmutableCollections"), (0, u "EMPTY"), (0, .fieldref 14 25), (0, .nameAndType 26 18), (0, u "e1"), (24, u "size"), (0, u "()I"), (17, .class_ 71), (0, u "java/io/Serializable"), (4, u "(Ljava/lang/Object;)V"), (13, u "get"), (0, u "(I)Ljava/lang/Object;")] 33

def k37c0 : Code := { maxStack := 2, maxLocals := 2, code := jdk_44_method_1_code, exceptionTable := #[], attributes := #[] }
def k37m0 : Method := { name := "<init>", desc := "(Ljava/lang/Object;)V", sig := { parameters := [(.object "java/lang/Object")], returnType := none }, accessFlags := 0, code := some k37c0 }
def k37c1 : Code := { maxStack := 2, maxLocals := 1, code := jdk_44_method_3_code, exceptionTable := #[], attributes := #[] }
def k37m1 : Method := { name := "size", desc := "()I", sig := { parameters := [], returnType := some .int }, accessFlags := 1, code := some k37c1 }
def k37c2 : Code := { maxStack := 2, maxLocals := 2, code := jdk_44_method_5_code, exceptionTable := #[], attributes := #[] }
def k37m2 : Method := { name := "get", desc := "(I)Ljava/lang/Object;", sig := { parameters := [.int], returnType := some (.object "java/lang/Object") }, accessFlags := 1, code := some k37c2 }
def k37 : Class := { plain "java/util/ImmutableCollections$List12" (some 25) with
  accessFlags := 48
  interfaces := #[2]
  cf := some (fileOf pool37 14 #[.nestHost 20] #[{ accessFlags := 0, nameIndex := 5, descriptorIndex := 76, attributes := #[] }, { accessFlags := 1, nameIndex := 51, descriptorIndex := 52, attributes := #[] }, { accessFlags := 1, nameIndex := 90, descriptorIndex := 91, attributes := #[] }] 48 2 #[70] #[{ accessFlags := 18, nameIndex := 17, descriptorIndex := 18, attributes := #[] }, { accessFlags := 18, nameIndex := 26, descriptorIndex := 18, attributes := #[] }])
  fields := #[{ name := "e0", type := (.object "java/lang/Object"), accessFlags := 18, slot := 0, constantValue := 0 }, { name := "e1", type := (.object "java/lang/Object"), accessFlags := 18, slot := 1, constantValue := 0 }]
  methods := #[k37m0, k37m1, k37m2]
  instanceTypes := #[(.object "java/lang/Object"), (.object "java/lang/Object")]
  staticTypes := #[]
  resolved := Array.replicate 125 none
  statics := none }

def pool38 : Array CpInfo := pool [(9, u "<init>"), (6, .class_ 18), (1, u "java/lang/Object"), (0, u "()V"), (1, .class_ 23), (1, u "jdk/internal/util/ArraysSupport"), (0, u "LOG2_ARRAY_LONG_INDEX_SCALE"), (0, u "I"), (2, u "U"), (0, u "Ljdk/internal/misc/Unsafe;"), (8, u "BIG_ENDIAN"), (0, u "Z"), (8, u "LOG2_BYTE_BIT_SIZE"), (4, u "LOG2_ARRAY_INT_INDEX_SCALE"), (54, u "JLA"), (0, u "Ljdk/internal/access/JavaLangAccess;"), (11, u "LOG2_ARRAY_BOOLEAN_INDEX_SCALE"), (9, u "LOG2_ARRAY_BYTE_INDEX_SCALE"), (5, u "LOG2_ARRAY_CHAR_INDEX_SCALE"), (5, u "LOG2_ARRAY_SHORT_INDEX_SCALE"), (18, u "LOG2_ARRAY_FLOAT_INDEX_SCALE"), (24, u "LOG2_ARRAY_DOUBLE_INDEX_SCALE"), (89, u "T_BOOLEAN"), (2, u "T_CHAR"), (1, u "T_FLOAT"), (1, u "T_DOUBLE"), (1, u "T_BYTE"), (1, u "T_SHORT"), (1, u "T_INT"), (1, u "T_LONG"), (1, u "SOFT_MAX_ARRAY_LENGTH")] 83

def k38m0 : Method := { name := "<init>", desc := "()V", sig := { parameters := [], returnType := none }, accessFlags := 2, code := none }
def k38 : Class := { plain "jdk/internal/util/ArraysSupport" (some 0) with
  accessFlags := 33
  interfaces := #[]
  cf := some (fileOf pool38 21 #[] #[{ accessFlags := 2, nameIndex := 9, descriptorIndex := 19, attributes := #[] }] 33 16 #[] #[{ accessFlags := 24, nameIndex := 28, descriptorIndex := 29, attributes := #[] }, { accessFlags := 26, nameIndex := 38, descriptorIndex := 39, attributes := #[] }, { accessFlags := 25, nameIndex := 121, descriptorIndex := 25, attributes := #[] }, { accessFlags := 25, nameIndex := 131, descriptorIndex := 25, attributes := #[] }, { accessFlags := 25, nameIndex := 137, descriptorIndex := 25, attributes := #[] }, { accessFlags := 25, nameIndex := 143, descriptorIndex := 25, attributes := #[] }, { accessFlags := 25, nameIndex := 53, descriptorIndex := 25, attributes := #[] }, { accessFlags := 25, nameIndex := 24, descriptorIndex := 25, attributes := #[] }, { accessFlags := 25, nameIndex := 162, descriptorIndex := 25, attributes := #[] }, { accessFlags := 25, nameIndex := 187, descriptorIndex := 25, attributes := #[] }, { accessFlags := 26, nameIndex := 48, descriptorIndex := 25, attributes := #[] }, { accessFlags := 25, nameIndex := 277, descriptorIndex := 25, attributes := #[] }, { accessFlags := 25, nameIndex := 280, descriptorIndex := 25, attributes := #[] }, { accessFlags := 25, nameIndex := 282, descriptorIndex := 25, attributes := #[] }, { accessFlags := 25, nameIndex := 284, descriptorIndex := 25, attributes := #[] }, { accessFlags := 25, nameIndex := 286, descriptorIndex := 25, attributes := #[] }, { accessFlags := 25, nameIndex := 288, descriptorIndex := 25, attributes := #[] }, { accessFlags := 25, nameIndex := 290, descriptorIndex := 25, attributes := #[] }, { accessFlags := 25, nameIndex := 292, descriptorIndex := 25, attributes := #[] }, { accessFlags := 26, nameIndex := 108, descriptorIndex := 109, attributes := #[] }, { accessFlags := 25, nameIndex := 294, descriptorIndex := 25, attributes := #[] }])
  fields := #[{ name := "U", type := (.object "jdk/internal/misc/Unsafe"), accessFlags := 24, slot := 0, constantValue := 0 }, { name := "BIG_ENDIAN", type := .boolean, accessFlags := 26, slot := 1, constantValue := 0 }, { name := "LOG2_ARRAY_BOOLEAN_INDEX_SCALE", type := .int, accessFlags := 25, slot := 2, constantValue := 0 }, { name := "LOG2_ARRAY_BYTE_INDEX_SCALE", type := .int, accessFlags := 25, slot := 3, constantValue := 0 }, { name := "LOG2_ARRAY_CHAR_INDEX_SCALE", type := .int, accessFlags := 25, slot := 4, constantValue := 0 }, { name := "LOG2_ARRAY_SHORT_INDEX_SCALE", type := .int, accessFlags := 25, slot := 5, constantValue := 0 }, { name := "LOG2_ARRAY_INT_INDEX_SCALE", type := .int, accessFlags := 25, slot := 6, constantValue := 0 }, { name := "LOG2_ARRAY_LONG_INDEX_SCALE", type := .int, accessFlags := 25, slot := 7, constantValue := 0 }, { name := "LOG2_ARRAY_FLOAT_INDEX_SCALE", type := .int, accessFlags := 25, slot := 8, constantValue := 0 }, { name := "LOG2_ARRAY_DOUBLE_INDEX_SCALE", type := .int, accessFlags := 25, slot := 9, constantValue := 0 }, { name := "LOG2_BYTE_BIT_SIZE", type := .int, accessFlags := 26, slot := 10, constantValue := 0 }, { name := "T_BOOLEAN", type := .int, accessFlags := 25, slot := 11, constantValue := 0 }, { name := "T_CHAR", type := .int, accessFlags := 25, slot := 12, constantValue := 0 }, { name := "T_FLOAT", type := .int, accessFlags := 25, slot := 13, constantValue := 0 }, { name := "T_DOUBLE", type := .int, accessFlags := 25, slot := 14, constantValue := 0 }, { name := "T_BYTE", type := .int, accessFlags := 25, slot := 15, constantValue := 0 }, { name := "T_SHORT", type := .int, accessFlags := 25, slot := 16, constantValue := 0 }, { name := "T_INT", type := .int, accessFlags := 25, slot := 17, constantValue := 0 }, { name := "T_LONG", type := .int, accessFlags := 25, slot := 18, constantValue := 0 }, { name := "JLA", type := (.object "jdk/internal/access/JavaLangAccess"), accessFlags := 26, slot := 19, constantValue := 0 }, { name := "SOFT_MAX_ARRAY_LENGTH", type := .int, accessFlags := 25, slot := 20, constantValue := 0 }]
  methods := #[k38m0]
  instanceTypes := #[]
  staticTypes := #[(.object "jdk/internal/misc/Unsafe"), .boolean, .int, .int, .int, .int, .int, .int, .int, .int, .int, .int, .int, .int, .int, .int, .int, .int, .int, (.object "jdk/internal/access/JavaLangAccess"), .int]
  resolved := Array.replicate 378 none
  statics := none }

def k39 : Class := { plain "byte" none with kind := .primitive 'B', accessFlags := 0x411 }
def k40 : Class := { plain "[B" (some 0) with kind := .array 39 .byte, interfaces := #[17, 2], accessFlags := 1041 }

def k41 : Class := { plain "char" none with kind := .primitive 'C', accessFlags := 0x411 }
def k42 : Class := { plain "[C" (some 0) with kind := .array 41 .char, interfaces := #[17, 2], accessFlags := 1041 }

def k43 : Class := { plain "int" none with kind := .primitive 'I', accessFlags := 0x411 }
def k44 : Class := { plain "[I" (some 0) with kind := .array 43 .int, interfaces := #[17, 2], accessFlags := 1041 }

def k45 : Class := { plain "[Ljava/lang/Object;" (some 0) with kind := .array 0 (.object "java/lang/Object"), interfaces := #[17, 2], accessFlags := 1041 }

def heap : Heap := #[{ cls := 7, slots := #[.long 0, .int 1, .null, .int 0, .null, .int 0, .int 0], vm := .statics 7 },
  { cls := 18, slots := #[.long 0, .int 0, .ref 9, .ref 10], vm := .statics 18 },
  { cls := 23, slots := #[.long 0, .int 0, .null, .ref 11, .ref 8, .null, .null, .null, .int 0, .int 1], vm := .statics 23 },
  { cls := 28, slots := #[.null, .null, .null], vm := .statics 28 },
  { cls := 35, slots := #[.int 0, .int 0, .null, .null, .ref 7, .ref 6, .int 0, .int 0, .long 0], vm := .statics 35 },
  { cls := 45, slots := #[], vm := .none },
  { cls := 40, slots := #[.int 48, .int 49, .int 50, .int 51, .int 52, .int 53, .int 54, .int 55, .int 56, .int 57, .int 48, .int 49, .int 50, .int 51, .int 52, .int 53, .int 54, .int 55, .int 56, .int 57, .int 48, .int 49, .int 50, .int 51, .int 52, .int 53, .int 54, .int 55, .int 56, .int 57, .int 48, .int 49, .int 50, .int 51, .int 52, .int 53, .int 54, .int 55, .int 56, .int 57, .int 48, .int 49, .int 50, .int 51, .int 52, .int 53, .int 54, .int 55, .int 56, .int 57, .int 48, .int 49, .int 50, .int 51, .int 52, .int 53, .int 54, .int 55, .int 56, .int 57, .int 48, .int 49, .int 50, .int 51, .int 52, .int 53, .int 54, .int 55, .int 56, .int 57, .int 48, .int 49, .int 50, .int 51, .int 52, .int 53, .int 54, .int 55, .int 56, .int 57, .int 48, .int 49, .int 50, .int 51, .int 52, .int 53, .int 54, .int 55, .int 56, .int 57, .int 48, .int 49, .int 50, .int 51, .int 52, .int 53, .int 54, .int 55, .int 56, .int 57], vm := .none },
  { cls := 40, slots := #[.int 48, .int 48, .int 48, .int 48, .int 48, .int 48, .int 48, .int 48, .int 48, .int 48, .int 49, .int 49, .int 49, .int 49, .int 49, .int 49, .int 49, .int 49, .int 49, .int 49, .int 50, .int 50, .int 50, .int 50, .int 50, .int 50, .int 50, .int 50, .int 50, .int 50, .int 51, .int 51, .int 51, .int 51, .int 51, .int 51, .int 51, .int 51, .int 51, .int 51, .int 52, .int 52, .int 52, .int 52, .int 52, .int 52, .int 52, .int 52, .int 52, .int 52, .int 53, .int 53, .int 53, .int 53, .int 53, .int 53, .int 53, .int 53, .int 53, .int 53, .int 54, .int 54, .int 54, .int 54, .int 54, .int 54, .int 54, .int 54, .int 54, .int 54, .int 55, .int 55, .int 55, .int 55, .int 55, .int 55, .int 55, .int 55, .int 55, .int 55, .int 56, .int 56, .int 56, .int 56, .int 56, .int 56, .int 56, .int 56, .int 56, .int 56, .int 57, .int 57, .int 57, .int 57, .int 57, .int 57, .int 57, .int 57, .int 57, .int 57], vm := .none },
  { cls := 26, slots := #[.ref 5, .int 0], vm := .none },
  { cls := 45, slots := #[], vm := .none },
  { cls := 45, slots := #[], vm := .none },
  { cls := 0, slots := #[], vm := .none }]
def classes : Array Class := #[k0, k1, k2, k3, k4, k5, k6, k7, k8, k9, k10, k11, k12, k13, k14, k15, k16, k17, k18, k19, k20, k21, k22, k23, k24, k25, k26, k27, k28, k29, k30, k31, k32, k33, k34, k35, k36, k37, k38, k39, k40, k41, k42, k43, k44, k45]
def interned : List (Array UInt16 × Addr) := []
def slotsUsed : Nat := 235
def theMethod : MethodId := ⟨1, 1⟩
def args0 : Array Value := #[.int 5, .int 6, .int 7, .int 8, .int 9, .int 10]
def aboutOver (below : List Frame) : State where
  vm := { classes := classes, interned := interned.toArray }
  heap := heap
  slotsUsed := slotsUsed
  threads := #[{ frames := .invoking theMethod args0 :: below }]
def below0 : List Frame := [.native { method := ⟨0, 0⟩, args := #[] }]
def about1 : State := aboutOver below0
def p0 : Program := .bare "" "" ""
def e0 : Env := launch0.env 0 0 0
theorem w_frames : about1.frames = Frame.invoking theMethod args0 :: below0 := rfl
set_option maxRecDepth 65536 in
theorem w_args : argsFit about1.vm theMethod args0 = true := by decide +kernel
set_option maxRecDepth 65536 in
theorem w_heap : heapFits about1 = true := by decide +kernel
set_option maxRecDepth 65536 in
theorem w_runnable : about1.curStatus? = some .runnable := by decide +kernel
set_option maxRecDepth 65536 in
theorem w_alone : about1.alone = true := by decide +kernel
set_option maxRecDepth 65536 in
theorem w_named : about1.methodNamed? x = some theMethod := by decide +kernel
set_option maxRecDepth 65536 in
theorem w_hears : about1.hears theMethod below0 = true := by decide +kernel
set_option maxRecDepth 65536 in
theorem w_ripe : about1.ripe theMethod args0 below0 = true := by decide +kernel
theorem w_running : about1.status = .running := rfl
set_option maxRecDepth 65536 in
theorem w_room : about1.hasRoom e0.platform room_1 = true :=
  launch0.hasRoom_least _ room_1 (by decide +kernel) (by decide +kernel) (by decide +kernel) (by decide +kernel) (by decide +kernel) (by decide +kernel)
theorem allAtoms_all (ts : List Jvm.Cond) (a : Array Jvm.Value) (st : Jvm.State) : (allAtoms ts).before a st = ts.all (fun c => c.before a st) := by
  induction ts with
  | nil => rfl
  | cons c t ih =>
    show (Jvm.Cond.and c (allAtoms t)).before a st = _
    rw [Jvm.Cond.before_and, ih, List.all_cons]
def words1 : List Jvm.Cond := Jvm.Cond.code x code maxLocals ret :: tables_1
theorem code_word {y : MethodName} {bytes : ByteArray} {mx : Nat} {rt : Option FieldType} {a : Array Value} {s : State} {m : MethodId} {meth : Method} {c : Code} (h1 : s.methodNamed? y = some m) (h2 : s.vm.method? m = some meth) (h3 : meth.code = some c) (h4 : c.code = bytes)
    (h5 : (c.maxLocals == mx && c.exceptionTable.isEmpty && decide (c.maxStack ≤ mostOperands) && decide (meth.sig.returnType = rt) && !meth.locks && decide (parseMethodDescriptor y.desc = some meth.sig)) = true) : (Jvm.Cond.code y bytes mx rt).before a s = true := by
  simp only [Bool.and_eq_true, beq_iff_eq, Bool.not_eq_true', decide_eq_true_eq] at h5
  obtain ⟨⟨⟨⟨⟨g1, g2⟩, g3⟩, g4⟩, g5⟩, g6⟩ := h5
  simp [Cond.before, Cond.holds, Cond.value, h1, h2, h3, h4, g1, g2, g3, g4, g5, g6]
def isCode : Jvm.Cond → Bool
  | .code _ _ _ _ => true
  | _ => false
theorem all_split {L : List Jvm.Cond} {P : Jvm.Cond → Bool} (h1 : L.all (fun c => isCode c || P c) = true) (h2 : ∀ c ∈ L.filter isCode, P c = true) : L.all P = true := by
  refine List.all_eq_true.mpr fun c hc => ?_
  have h := List.all_eq_true.mp h1 c hc
  rcases Bool.eq_false_or_eq_true (isCode c) with hi | hi
  · exact h2 c (List.mem_filter.mpr ⟨hc, hi⟩)
  · simpa [hi] using h
set_option maxRecDepth 65536 in
theorem w_c0 : (Jvm.Cond.code x code maxLocals ret).before args0 about1 = true := code_word (m := ⟨1, 1⟩) (meth := k1m1) (c := k1c1) (by decide +kernel) rfl rfl rfl (by decide +kernel)
set_option maxRecDepth 65536 in
theorem w_c1 : (Jvm.Cond.code ({ cls := "java/lang/String", name := "valueOf", desc := "(C)Ljava/lang/String;" } : Jvm.MethodName) jdk_42_method_139_code (1 : Nat) (Option.some (Jvm.ClassFile.FieldType.object "java/lang/String"))).before args0 about1 = true := code_word (m := ⟨7, 6⟩) (meth := k7m6) (c := k7c6) (by decide +kernel) rfl rfl rfl (by decide +kernel)
set_option maxRecDepth 65536 in
theorem w_c2 : (Jvm.Cond.code ({ cls := "java/lang/StringLatin1", name := "canEncode", desc := "(C)Z" } : Jvm.MethodName) jdk_43_method_3_code (1 : Nat) (Option.some Jvm.ClassFile.FieldType.boolean)).before args0 about1 = true := code_word (m := ⟨8, 2⟩) (meth := k8m2) (c := k8c2) (by decide +kernel) rfl rfl rfl (by decide +kernel)
set_option maxRecDepth 65536 in
theorem w_c3 : (Jvm.Cond.code ({ cls := "java/lang/StringLatin1", name := "toBytes", desc := "(C)[B" } : Jvm.MethodName) jdk_43_method_46_code (1 : Nat) (Option.some (Jvm.ClassFile.FieldType.array Jvm.ClassFile.FieldType.byte))).before args0 about1 = true := code_word (m := ⟨8, 3⟩) (meth := k8m3) (c := k8c3) (by decide +kernel) rfl rfl rfl (by decide +kernel)
set_option maxRecDepth 65536 in
theorem w_c4 : (Jvm.Cond.code ({ cls := "java/lang/String", name := "<init>", desc := "([BB)V" } : Jvm.MethodName) jdk_42_method_151_code (3 : Nat) (Option.none : Option Jvm.ClassFile.FieldType)).before args0 about1 = true := code_word (m := ⟨7, 10⟩) (meth := k7m10) (c := k7c10) (by decide +kernel) rfl rfl rfl (by decide +kernel)
set_option maxRecDepth 65536 in
theorem w_c5 : (Jvm.Cond.code ({ cls := "java/lang/Object", name := "<init>", desc := "()V" } : Jvm.MethodName) object_method_1_code (1 : Nat) (Option.none : Option Jvm.ClassFile.FieldType)).before args0 about1 = true := code_word (m := ⟨0, 0⟩) (meth := k0m0) (c := k0c0) (by decide +kernel) rfl rfl rfl (by decide +kernel)
set_option maxRecDepth 65536 in
theorem w_c6 : (Jvm.Cond.code ({ cls := "java/lang/String", name := "<init>", desc := "([C)V" } : Jvm.MethodName) jdk_42_method_3_code (2 : Nat) (Option.none : Option Jvm.ClassFile.FieldType)).before args0 about1 = true := code_word (m := ⟨7, 1⟩) (meth := k7m1) (c := k7c1) (by decide +kernel) rfl rfl rfl (by decide +kernel)
set_option maxRecDepth 65536 in
theorem w_c7 : (Jvm.Cond.code ({ cls := "java/lang/String", name := "<init>", desc := "([CIILjava/lang/Void;)V" } : Jvm.MethodName) jdk_42_method_149_code (6 : Nat) (Option.none : Option Jvm.ClassFile.FieldType)).before args0 about1 = true := code_word (m := ⟨7, 8⟩) (meth := k7m8) (c := k7c8) (by decide +kernel) rfl rfl rfl (by decide +kernel)
set_option maxRecDepth 65536 in
theorem w_c8 : (Jvm.Cond.code ({ cls := "java/lang/StringUTF16", name := "compress", desc := "([CII)[B" } : Jvm.MethodName) jdk_52_method_16_code (6 : Nat) (Option.some (Jvm.ClassFile.FieldType.array Jvm.ClassFile.FieldType.byte))).before args0 about1 = true := code_word (m := ⟨9, 2⟩) (meth := k9m2) (c := k9c2) (by decide +kernel) rfl rfl rfl (by decide +kernel)
set_option maxRecDepth 65536 in
theorem w_c9 : (Jvm.Cond.code ({ cls := "java/lang/StringUTF16", name := "compress", desc := "([CI[BII)I" } : Jvm.MethodName) jdk_52_method_21_code (7 : Nat) (Option.some Jvm.ClassFile.FieldType.int)).before args0 about1 = true := code_word (m := ⟨9, 3⟩) (meth := k9m3) (c := k9c3) (by decide +kernel) rfl rfl rfl (by decide +kernel)
set_option maxRecDepth 65536 in
theorem w_c10 : (Jvm.Cond.code ({ cls := "java/lang/StringUTF16", name := "coderFromArrayLen", desc := "([BI)B" } : Jvm.MethodName) jdk_52_method_15_code (2 : Nat) (Option.some Jvm.ClassFile.FieldType.byte)).before args0 about1 = true := code_word (m := ⟨9, 1⟩) (meth := k9m1) (c := k9c1) (by decide +kernel) rfl rfl rfl (by decide +kernel)
set_option maxRecDepth 65536 in
theorem w_c11 : (Jvm.Cond.code ({ cls := "java/util/ArrayList", name := "<init>", desc := "()V" } : Jvm.MethodName) jdk_38_method_2_code (1 : Nat) (Option.none : Option Jvm.ClassFile.FieldType)).before args0 about1 = true := code_word (m := ⟨18, 0⟩) (meth := k18m0) (c := k18c0) (by decide +kernel) rfl rfl rfl (by decide +kernel)
set_option maxRecDepth 65536 in
theorem w_c12 : (Jvm.Cond.code ({ cls := "java/util/AbstractList", name := "<init>", desc := "()V" } : Jvm.MethodName) jdk_39_method_1_code (1 : Nat) (Option.none : Option Jvm.ClassFile.FieldType)).before args0 about1 = true := code_word (m := ⟨15, 0⟩) (meth := k15m0) (c := k15c0) (by decide +kernel) rfl rfl rfl (by decide +kernel)
set_option maxRecDepth 65536 in
theorem w_c13 : (Jvm.Cond.code ({ cls := "java/util/AbstractCollection", name := "<init>", desc := "()V" } : Jvm.MethodName) jdk_22_method_1_code (1 : Nat) (Option.none : Option Jvm.ClassFile.FieldType)).before args0 about1 = true := code_word (m := ⟨12, 0⟩) (meth := k12m0) (c := k12c0) (by decide +kernel) rfl rfl rfl (by decide +kernel)
set_option maxRecDepth 65536 in
theorem w_c14 : (Jvm.Cond.code ({ cls := "java/util/ArrayList", name := "add", desc := "(Ljava/lang/Object;)Z" } : Jvm.MethodName) jdk_38_method_25_code (2 : Nat) (Option.some Jvm.ClassFile.FieldType.boolean)).before args0 about1 = true := code_word (m := ⟨18, 7⟩) (meth := k18m7) (c := k18c7) (by decide +kernel) rfl rfl rfl (by decide +kernel)
set_option maxRecDepth 65536 in
theorem w_c15 : (Jvm.Cond.code ({ cls := "java/util/ArrayList", name := "add", desc := "(Ljava/lang/Object;[Ljava/lang/Object;I)V" } : Jvm.MethodName) jdk_38_method_24_code (4 : Nat) (Option.none : Option Jvm.ClassFile.FieldType)).before args0 about1 = true := code_word (m := ⟨18, 6⟩) (meth := k18m6) (c := k18c6) (by decide +kernel) rfl rfl rfl (by decide +kernel)
set_option maxRecDepth 65536 in
theorem w_c16 : (Jvm.Cond.code ({ cls := "java/util/ArrayList", name := "grow", desc := "()[Ljava/lang/Object;" } : Jvm.MethodName) jdk_38_method_7_code (1 : Nat) (Option.some (Jvm.ClassFile.FieldType.array (Jvm.ClassFile.FieldType.object "java/lang/Object")))).before args0 about1 = true := code_word (m := ⟨18, 2⟩) (meth := k18m2) (c := k18c2) (by decide +kernel) rfl rfl rfl (by decide +kernel)
set_option maxRecDepth 65536 in
theorem w_c17 : (Jvm.Cond.code ({ cls := "java/util/ArrayList", name := "grow", desc := "(I)[Ljava/lang/Object;" } : Jvm.MethodName) jdk_38_method_6_code (4 : Nat) (Option.some (Jvm.ClassFile.FieldType.array (Jvm.ClassFile.FieldType.object "java/lang/Object")))).before args0 about1 = true := code_word (m := ⟨18, 1⟩) (meth := k18m1) (c := k18c1) (by decide +kernel) rfl rfl rfl (by decide +kernel)
set_option maxRecDepth 65536 in
theorem w_c18 : (Jvm.Cond.code ({ cls := "java/lang/Math", name := "max", desc := "(II)I" } : Jvm.MethodName) jdk_29_method_65_code (2 : Nat) (Option.some Jvm.ClassFile.FieldType.int)).before args0 about1 = true := code_word (m := ⟨19, 1⟩) (meth := k19m1) (c := k19c1) (by decide +kernel) rfl rfl rfl (by decide +kernel)
set_option maxRecDepth 65536 in
theorem w_c19 : (Jvm.Cond.code ({ cls := "com/example/metsmith/metsmith/Mets$Div", name := "flat", desc := "(Ljava/util/List;Ljava/util/List;I)Lcom/example/metsmith/metsmith/Mets$Div;" } : Jvm.MethodName) prog_29_method_2_code (4 : Nat) (Option.some (Jvm.ClassFile.FieldType.object "com/example/metsmith/metsmith/Mets$Div"))).before args0 about1 = true := code_word (m := ⟨21, 1⟩) (meth := k21m1) (c := k21c1) (by decide +kernel) rfl rfl rfl (by decide +kernel)
set_option maxRecDepth 65536 in
theorem w_c20 : (Jvm.Cond.code ({ cls := "com/example/metsmith/metsmith/Mets$Div$1", name := "<init>", desc := "(I)V" } : Jvm.MethodName) prog_30_method_1_code (2 : Nat) (Option.none : Option Jvm.ClassFile.FieldType)).before args0 about1 = true := code_word (m := ⟨22, 0⟩) (meth := k22m0) (c := k22c0) (by decide +kernel) rfl rfl rfl (by decide +kernel)
set_option maxRecDepth 65536 in
theorem w_c21 : (Jvm.Cond.code ({ cls := "java/util/List", name := "of", desc := "()Ljava/util/List;" } : Jvm.MethodName) jdk_40_method_36_code (0 : Nat) (Option.some (Jvm.ClassFile.FieldType.object "java/util/List"))).before args0 about1 = true := code_word (m := ⟨14, 2⟩) (meth := k14m2) (c := k14c2) (by decide +kernel) rfl rfl rfl (by decide +kernel)
set_option maxRecDepth 65536 in
theorem w_c22 : (Jvm.Cond.code ({ cls := "com/example/metsmith/metsmith/Mets$Div", name := "<init>", desc := "(Ljava/lang/String;Ljava/lang/String;Ljava/util/List;Ljava/util/List;Ljava/util/List;Ljava/util/List;)V" } : Jvm.MethodName) prog_29_method_1_code (7 : Nat) (Option.none : Option Jvm.ClassFile.FieldType)).before args0 about1 = true := code_word (m := ⟨21, 0⟩) (meth := k21m0) (c := k21c0) (by decide +kernel) rfl rfl rfl (by decide +kernel)
set_option maxRecDepth 65536 in
theorem w_c23 : (Jvm.Cond.code ({ cls := "java/lang/Record", name := "<init>", desc := "()V" } : Jvm.MethodName) jdk_30_method_1_code (1 : Nat) (Option.none : Option Jvm.ClassFile.FieldType)).before args0 about1 = true := code_word (m := ⟨20, 0⟩) (meth := k20m0) (c := k20c0) (by decide +kernel) rfl rfl rfl (by decide +kernel)
set_option maxRecDepth 65536 in
theorem w_c24 : (Jvm.Cond.code ({ cls := "com/example/metsmith/metsmith/Mets$Div", name := "type", desc := "()Ljava/lang/String;" } : Jvm.MethodName) prog_29_method_6_code (1 : Nat) (Option.some (Jvm.ClassFile.FieldType.object "java/lang/String"))).before args0 about1 = true := code_word (m := ⟨21, 2⟩) (meth := k21m2) (c := k21c2) (by decide +kernel) rfl rfl rfl (by decide +kernel)
set_option maxRecDepth 65536 in
theorem w_c25 : (Jvm.Cond.code ({ cls := "com/example/metsmith/metsmith/Mets$Div", name := "label", desc := "()Ljava/lang/String;" } : Jvm.MethodName) prog_29_method_7_code (1 : Nat) (Option.some (Jvm.ClassFile.FieldType.object "java/lang/String"))).before args0 about1 = true := code_word (m := ⟨21, 3⟩) (meth := k21m3) (c := k21c3) (by decide +kernel) rfl rfl rfl (by decide +kernel)
set_option maxRecDepth 65536 in
theorem w_c26 : (Jvm.Cond.code ({ cls := "com/example/metsmith/metsmith/Mets$Div", name := "fileIds", desc := "()Ljava/util/List;" } : Jvm.MethodName) prog_29_method_10_code (1 : Nat) (Option.some (Jvm.ClassFile.FieldType.object "java/util/List"))).before args0 about1 = true := code_word (m := ⟨21, 6⟩) (meth := k21m6) (c := k21c6) (by decide +kernel) rfl rfl rfl (by decide +kernel)
set_option maxRecDepth 65536 in
theorem w_c27 : (Jvm.Cond.code ({ cls := "java/util/ImmutableCollections$ListN", name := "size", desc := "()I" } : Jvm.MethodName) jdk_45_method_3_code (1 : Nat) (Option.some Jvm.ClassFile.FieldType.int)).before args0 about1 = true := code_word (m := ⟨26, 0⟩) (meth := k26m0) (c := k26c0) (by decide +kernel) rfl rfl rfl (by decide +kernel)
set_option maxRecDepth 65536 in
theorem w_c28 : (Jvm.Cond.code ({ cls := "com/example/metsmith/metsmith/Mets$Div", name := "dmdIds", desc := "()Ljava/util/List;" } : Jvm.MethodName) prog_29_method_8_code (1 : Nat) (Option.some (Jvm.ClassFile.FieldType.object "java/util/List"))).before args0 about1 = true := code_word (m := ⟨21, 4⟩) (meth := k21m4) (c := k21c4) (by decide +kernel) rfl rfl rfl (by decide +kernel)
set_option maxRecDepth 65536 in
theorem w_c29 : (Jvm.Cond.code ({ cls := "java/util/ArrayList", name := "size", desc := "()I" } : Jvm.MethodName) jdk_38_method_8_code (1 : Nat) (Option.some Jvm.ClassFile.FieldType.int)).before args0 about1 = true := code_word (m := ⟨18, 3⟩) (meth := k18m3) (c := k18c3) (by decide +kernel) rfl rfl rfl (by decide +kernel)
set_option maxRecDepth 65536 in
theorem w_c30 : (Jvm.Cond.code ({ cls := "java/util/ArrayList", name := "get", desc := "(I)Ljava/lang/Object;" } : Jvm.MethodName) jdk_38_method_20_code (2 : Nat) (Option.some (Jvm.ClassFile.FieldType.object "java/lang/Object"))).before args0 about1 = true := code_word (m := ⟨18, 5⟩) (meth := k18m5) (c := k18c5) (by decide +kernel) rfl rfl rfl (by decide +kernel)
set_option maxRecDepth 65536 in
theorem w_c31 : (Jvm.Cond.code ({ cls := "java/util/Objects", name := "checkIndex", desc := "(II)I" } : Jvm.MethodName) jdk_31_method_17_code (2 : Nat) (Option.some Jvm.ClassFile.FieldType.int)).before args0 about1 = true := code_word (m := ⟨27, 2⟩) (meth := k27m2) (c := k27c2) (by decide +kernel) rfl rfl rfl (by decide +kernel)
set_option maxRecDepth 65536 in
theorem w_c32 : (Jvm.Cond.code ({ cls := "jdk/internal/util/Preconditions", name := "checkIndex", desc := "(IILjava/util/function/BiFunction;)I" } : Jvm.MethodName) jdk_41_method_11_code (3 : Nat) (Option.some Jvm.ClassFile.FieldType.int)).before args0 about1 = true := code_word (m := ⟨28, 1⟩) (meth := k28m1) (c := k28c1) (by decide +kernel) rfl rfl rfl (by decide +kernel)
set_option maxRecDepth 65536 in
theorem w_c33 : (Jvm.Cond.code ({ cls := "java/util/ArrayList", name := "elementData", desc := "(I)Ljava/lang/Object;" } : Jvm.MethodName) jdk_38_method_18_code (2 : Nat) (Option.some (Jvm.ClassFile.FieldType.object "java/lang/Object"))).before args0 about1 = true := code_word (m := ⟨18, 4⟩) (meth := k18m4) (c := k18c4) (by decide +kernel) rfl rfl rfl (by decide +kernel)
set_option maxRecDepth 65536 in
theorem w_c34 : (Jvm.Cond.code ({ cls := "java/lang/String", name := "equals", desc := "(Ljava/lang/Object;)Z" } : Jvm.MethodName) jdk_42_method_66_code (3 : Nat) (Option.some Jvm.ClassFile.FieldType.boolean)).before args0 about1 = true := code_word (m := ⟨7, 5⟩) (meth := k7m5) (c := k7c5) (by decide +kernel) rfl rfl rfl (by decide +kernel)
set_option maxRecDepth 65536 in
theorem w_c35 : (Jvm.Cond.code ({ cls := "com/example/metsmith/metsmith/Mets$Div", name := "admIds", desc := "()Ljava/util/List;" } : Jvm.MethodName) prog_29_method_9_code (1 : Nat) (Option.some (Jvm.ClassFile.FieldType.object "java/util/List"))).before args0 about1 = true := code_word (m := ⟨21, 5⟩) (meth := k21m5) (c := k21c5) (by decide +kernel) rfl rfl rfl (by decide +kernel)
set_option maxRecDepth 65536 in
theorem w_c36 : (Jvm.Cond.code ({ cls := "com/example/metsmith/metsmith/Mets$Div", name := "divs", desc := "()Ljava/util/List;" } : Jvm.MethodName) prog_29_method_11_code (1 : Nat) (Option.some (Jvm.ClassFile.FieldType.object "java/util/List"))).before args0 about1 = true := code_word (m := ⟨21, 7⟩) (meth := k21m7) (c := k21c7) (by decide +kernel) rfl rfl rfl (by decide +kernel)
set_option maxRecDepth 65536 in
theorem w_c37 : (Jvm.Cond.code ({ cls := "com/example/metsmith/metsmith/Mets$Div$1", name := "size", desc := "()I" } : Jvm.MethodName) prog_30_method_3_code (1 : Nat) (Option.some Jvm.ClassFile.FieldType.int)).before args0 about1 = true := code_word (m := ⟨22, 2⟩) (meth := k22m2) (c := k22c2) (by decide +kernel) rfl rfl rfl (by decide +kernel)
set_option maxRecDepth 65536 in
theorem w_c38 : (Jvm.Cond.code ({ cls := "com/example/metsmith/metsmith/Mets$Div$1", name := "get", desc := "(I)Ljava/lang/Object;" } : Jvm.MethodName) prog_30_method_4_code (2 : Nat) (Option.some (Jvm.ClassFile.FieldType.object "java/lang/Object"))).before args0 about1 = true := code_word (m := ⟨22, 3⟩) (meth := k22m3) (c := k22c3) (by decide +kernel) rfl rfl rfl (by decide +kernel)
set_option maxRecDepth 65536 in
theorem w_c39 : (Jvm.Cond.code ({ cls := "com/example/metsmith/metsmith/Mets$Div$1", name := "get", desc := "(I)Lcom/example/metsmith/metsmith/Mets$Div;" } : Jvm.MethodName) prog_30_method_2_code (2 : Nat) (Option.some (Jvm.ClassFile.FieldType.object "com/example/metsmith/metsmith/Mets$Div"))).before args0 about1 = true := code_word (m := ⟨22, 1⟩) (meth := k22m1) (c := k22c1) (by decide +kernel) rfl rfl rfl (by decide +kernel)
set_option maxRecDepth 65536 in
theorem w_c40 : (Jvm.Cond.code ({ cls := "com/example/metsmith/metsmith/Mets", name := "fileId", desc := "(I)Ljava/lang/String;" } : Jvm.MethodName) prog_26_method_3_code (1 : Nat) (Option.some (Jvm.ClassFile.FieldType.object "java/lang/String"))).before args0 about1 = true := code_word (m := ⟨29, 0⟩) (meth := k29m0) (c := k29c0) (by decide +kernel) rfl rfl rfl (by decide +kernel)
set_option maxRecDepth 65536 in
theorem w_c41 : (Jvm.Cond.code ({ cls := "java/lang/StringBuilder", name := "<init>", desc := "()V" } : Jvm.MethodName) jdk_67_method_1_code (1 : Nat) (Option.none : Option Jvm.ClassFile.FieldType)).before args0 about1 = true := code_word (m := ⟨32, 0⟩) (meth := k32m0) (c := k32c0) (by decide +kernel) rfl rfl rfl (by decide +kernel)
set_option maxRecDepth 65536 in
theorem w_c42 : (Jvm.Cond.code ({ cls := "java/lang/AbstractStringBuilder", name := "<init>", desc := "(I)V" } : Jvm.MethodName) jdk_68_method_2_code (2 : Nat) (Option.none : Option Jvm.ClassFile.FieldType)).before args0 about1 = true := code_word (m := ⟨31, 1⟩) (meth := k31m1) (c := k31c1) (by decide +kernel) rfl rfl rfl (by decide +kernel)
set_option maxRecDepth 65536 in
theorem w_c43 : (Jvm.Cond.code ({ cls := "java/lang/StringBuilder", name := "append", desc := "(Ljava/lang/String;)Ljava/lang/StringBuilder;" } : Jvm.MethodName) jdk_67_method_7_code (2 : Nat) (Option.some (Jvm.ClassFile.FieldType.object "java/lang/StringBuilder"))).before args0 about1 = true := code_word (m := ⟨32, 1⟩) (meth := k32m1) (c := k32c1) (by decide +kernel) rfl rfl rfl (by decide +kernel)
set_option maxRecDepth 65536 in
theorem w_c44 : (Jvm.Cond.code ({ cls := "java/lang/AbstractStringBuilder", name := "append", desc := "(Ljava/lang/String;)Ljava/lang/AbstractStringBuilder;" } : Jvm.MethodName) jdk_68_method_22_code (3 : Nat) (Option.some (Jvm.ClassFile.FieldType.object "java/lang/AbstractStringBuilder"))).before args0 about1 = true := code_word (m := ⟨31, 4⟩) (meth := k31m4) (c := k31c4) (by decide +kernel) rfl rfl rfl (by decide +kernel)
set_option maxRecDepth 65536 in
theorem w_c45 : (Jvm.Cond.code ({ cls := "java/lang/String", name := "length", desc := "()I" } : Jvm.MethodName) jdk_42_method_54_code (1 : Nat) (Option.some Jvm.ClassFile.FieldType.int)).before args0 about1 = true := code_word (m := ⟨7, 3⟩) (meth := k7m3) (c := k7c3) (by decide +kernel) rfl rfl rfl (by decide +kernel)
set_option maxRecDepth 65536 in
theorem w_c46 : (Jvm.Cond.code ({ cls := "java/lang/String", name := "coder", desc := "()B" } : Jvm.MethodName) jdk_42_method_152_code (1 : Nat) (Option.some Jvm.ClassFile.FieldType.byte)).before args0 about1 = true := code_word (m := ⟨7, 11⟩) (meth := k7m11) (c := k7c11) (by decide +kernel) rfl rfl rfl (by decide +kernel)
set_option maxRecDepth 65536 in
theorem w_c47 : (Jvm.Cond.code ({ cls := "java/lang/AbstractStringBuilder", name := "ensureCapacityInternal", desc := "(I)V" } : Jvm.MethodName) jdk_68_method_9_code (3 : Nat) (Option.none : Option Jvm.ClassFile.FieldType)).before args0 about1 = true := code_word (m := ⟨31, 3⟩) (meth := k31m3) (c := k31c3) (by decide +kernel) rfl rfl rfl (by decide +kernel)
set_option maxRecDepth 65536 in
theorem w_c48 : (Jvm.Cond.code ({ cls := "java/lang/AbstractStringBuilder", name := "putStringAt", desc := "(ILjava/lang/String;)V" } : Jvm.MethodName) jdk_68_method_73_code (3 : Nat) (Option.none : Option Jvm.ClassFile.FieldType)).before args0 about1 = true := code_word (m := ⟨31, 9⟩) (meth := k31m9) (c := k31c9) (by decide +kernel) rfl rfl rfl (by decide +kernel)
set_option maxRecDepth 65536 in
theorem w_c49 : (Jvm.Cond.code ({ cls := "java/lang/AbstractStringBuilder", name := "inflateIfNeededFor", desc := "(Ljava/lang/String;)V" } : Jvm.MethodName) jdk_68_method_71_code (2 : Nat) (Option.none : Option Jvm.ClassFile.FieldType)).before args0 about1 = true := code_word (m := ⟨31, 8⟩) (meth := k31m8) (c := k31c8) (by decide +kernel) rfl rfl rfl (by decide +kernel)
set_option maxRecDepth 65536 in
theorem w_c50 : (Jvm.Cond.code ({ cls := "java/lang/String", name := "getBytes", desc := "([BIB)V" } : Jvm.MethodName) jdk_42_method_147_code (4 : Nat) (Option.none : Option Jvm.ClassFile.FieldType)).before args0 about1 = true := code_word (m := ⟨7, 7⟩) (meth := k7m7) (c := k7c7) (by decide +kernel) rfl rfl rfl (by decide +kernel)
set_option maxRecDepth 65536 in
theorem w_c51 : (Jvm.Cond.code ({ cls := "java/lang/StringBuilder", name := "append", desc := "(I)Ljava/lang/StringBuilder;" } : Jvm.MethodName) jdk_67_method_15_code (2 : Nat) (Option.some (Jvm.ClassFile.FieldType.object "java/lang/StringBuilder"))).before args0 about1 = true := code_word (m := ⟨32, 2⟩) (meth := k32m2) (c := k32c2) (by decide +kernel) rfl rfl rfl (by decide +kernel)
set_option maxRecDepth 65536 in
theorem w_c52 : (Jvm.Cond.code ({ cls := "java/lang/AbstractStringBuilder", name := "append", desc := "(I)Ljava/lang/AbstractStringBuilder;" } : Jvm.MethodName) jdk_68_method_32_code (4 : Nat) (Option.some (Jvm.ClassFile.FieldType.object "java/lang/AbstractStringBuilder"))).before args0 about1 = true := code_word (m := ⟨31, 5⟩) (meth := k31m5) (c := k31c5) (by decide +kernel) rfl rfl rfl (by decide +kernel)
set_option maxRecDepth 65536 in
theorem w_c53 : (Jvm.Cond.code ({ cls := "java/lang/Integer", name := "stringSize", desc := "(I)I" } : Jvm.MethodName) jdk_33_method_13_code (4 : Nat) (Option.some Jvm.ClassFile.FieldType.int)).before args0 about1 = true := code_word (m := ⟨35, 1⟩) (meth := k35m1) (c := k35c1) (by decide +kernel) rfl rfl rfl (by decide +kernel)
set_option maxRecDepth 65536 in
theorem w_c54 : (Jvm.Cond.code ({ cls := "java/lang/AbstractStringBuilder", name := "isLatin1", desc := "()Z" } : Jvm.MethodName) jdk_68_method_68_code (1 : Nat) (Option.some Jvm.ClassFile.FieldType.boolean)).before args0 about1 = true := code_word (m := ⟨31, 7⟩) (meth := k31m7) (c := k31c7) (by decide +kernel) rfl rfl rfl (by decide +kernel)
set_option maxRecDepth 65536 in
theorem w_c55 : (Jvm.Cond.code ({ cls := "java/lang/Integer", name := "getChars", desc := "(II[B)I" } : Jvm.MethodName) jdk_33_method_12_code (7 : Nat) (Option.some Jvm.ClassFile.FieldType.int)).before args0 about1 = true := code_word (m := ⟨35, 0⟩) (meth := k35m0) (c := k35c0) (by decide +kernel) rfl rfl rfl (by decide +kernel)
set_option maxRecDepth 65536 in
theorem w_c56 : (Jvm.Cond.code ({ cls := "java/lang/StringBuilder", name := "toString", desc := "()Ljava/lang/String;" } : Jvm.MethodName) jdk_67_method_42_code (1 : Nat) (Option.some (Jvm.ClassFile.FieldType.object "java/lang/String"))).before args0 about1 = true := code_word (m := ⟨32, 3⟩) (meth := k32m3) (c := k32c3) (by decide +kernel) rfl rfl rfl (by decide +kernel)
set_option maxRecDepth 65536 in
theorem w_c57 : (Jvm.Cond.code ({ cls := "java/lang/String", name := "<init>", desc := "(Ljava/lang/StringBuilder;)V" } : Jvm.MethodName) jdk_42_method_53_code (2 : Nat) (Option.none : Option Jvm.ClassFile.FieldType)).before args0 about1 = true := code_word (m := ⟨7, 2⟩) (meth := k7m2) (c := k7c2) (by decide +kernel) rfl rfl rfl (by decide +kernel)
set_option maxRecDepth 65536 in
theorem w_c58 : (Jvm.Cond.code ({ cls := "java/lang/String", name := "<init>", desc := "(Ljava/lang/AbstractStringBuilder;Ljava/lang/Void;)V" } : Jvm.MethodName) jdk_42_method_150_code (5 : Nat) (Option.none : Option Jvm.ClassFile.FieldType)).before args0 about1 = true := code_word (m := ⟨7, 9⟩) (meth := k7m9) (c := k7c9) (by decide +kernel) rfl rfl rfl (by decide +kernel)
set_option maxRecDepth 65536 in
theorem w_c59 : (Jvm.Cond.code ({ cls := "java/lang/AbstractStringBuilder", name := "getValue", desc := "()[B" } : Jvm.MethodName) jdk_68_method_64_code (1 : Nat) (Option.some (Jvm.ClassFile.FieldType.array Jvm.ClassFile.FieldType.byte))).before args0 about1 = true := code_word (m := ⟨31, 6⟩) (meth := k31m6) (c := k31c6) (by decide +kernel) rfl rfl rfl (by decide +kernel)
set_option maxRecDepth 65536 in
theorem w_c60 : (Jvm.Cond.code ({ cls := "java/lang/StringBuilder", name := "length", desc := "()I" } : Jvm.MethodName) jdk_67_method_93_code (1 : Nat) (Option.some Jvm.ClassFile.FieldType.int)).before args0 about1 = true := code_word (m := ⟨32, 4⟩) (meth := k32m4) (c := k32c4) (by decide +kernel) rfl rfl rfl (by decide +kernel)
set_option maxRecDepth 65536 in
theorem w_c61 : (Jvm.Cond.code ({ cls := "java/lang/AbstractStringBuilder", name := "length", desc := "()I" } : Jvm.MethodName) jdk_68_method_6_code (1 : Nat) (Option.some Jvm.ClassFile.FieldType.int)).before args0 about1 = true := code_word (m := ⟨31, 2⟩) (meth := k31m2) (c := k31c2) (by decide +kernel) rfl rfl rfl (by decide +kernel)
set_option maxRecDepth 65536 in
theorem w_c62 : (Jvm.Cond.code ({ cls := "java/util/Arrays", name := "copyOfRange", desc := "([BII)[B" } : Jvm.MethodName) jdk_65_method_132_code (3 : Nat) (Option.some (Jvm.ClassFile.FieldType.array Jvm.ClassFile.FieldType.byte))).before args0 about1 = true := code_word (m := ⟨36, 2⟩) (meth := k36m2) (c := k36c2) (by decide +kernel) rfl rfl rfl (by decide +kernel)
set_option maxRecDepth 65536 in
theorem w_c63 : (Jvm.Cond.code ({ cls := "java/util/Arrays", name := "copyOfRangeByte", desc := "([BII)[B" } : Jvm.MethodName) jdk_65_method_133_code (5 : Nat) (Option.some (Jvm.ClassFile.FieldType.array Jvm.ClassFile.FieldType.byte))).before args0 about1 = true := code_word (m := ⟨36, 3⟩) (meth := k36m3) (c := k36c3) (by decide +kernel) rfl rfl rfl (by decide +kernel)
set_option maxRecDepth 65536 in
theorem w_c64 : (Jvm.Cond.code ({ cls := "java/util/Arrays", name := "checkLength", desc := "(II)V" } : Jvm.MethodName) jdk_65_method_131_code (2 : Nat) (Option.none : Option Jvm.ClassFile.FieldType)).before args0 about1 = true := code_word (m := ⟨36, 1⟩) (meth := k36m1) (c := k36c1) (by decide +kernel) rfl rfl rfl (by decide +kernel)
set_option maxRecDepth 65536 in
theorem w_c65 : (Jvm.Cond.code ({ cls := "java/lang/Math", name := "min", desc := "(II)I" } : Jvm.MethodName) jdk_29_method_69_code (2 : Nat) (Option.some Jvm.ClassFile.FieldType.int)).before args0 about1 = true := code_word (m := ⟨19, 2⟩) (meth := k19m2) (c := k19c2) (by decide +kernel) rfl rfl rfl (by decide +kernel)
set_option maxRecDepth 65536 in
theorem w_c66 : (Jvm.Cond.code ({ cls := "java/util/List", name := "of", desc := "(Ljava/lang/Object;)Ljava/util/List;" } : Jvm.MethodName) jdk_40_method_37_code (1 : Nat) (Option.some (Jvm.ClassFile.FieldType.object "java/util/List"))).before args0 about1 = true := code_word (m := ⟨14, 3⟩) (meth := k14m3) (c := k14c3) (by decide +kernel) rfl rfl rfl (by decide +kernel)
set_option maxRecDepth 65536 in
theorem w_c67 : (Jvm.Cond.code ({ cls := "java/util/ImmutableCollections$List12", name := "<init>", desc := "(Ljava/lang/Object;)V" } : Jvm.MethodName) jdk_44_method_1_code (2 : Nat) (Option.none : Option Jvm.ClassFile.FieldType)).before args0 about1 = true := code_word (m := ⟨37, 0⟩) (meth := k37m0) (c := k37c0) (by decide +kernel) rfl rfl rfl (by decide +kernel)
set_option maxRecDepth 65536 in
theorem w_c68 : (Jvm.Cond.code ({ cls := "java/util/ImmutableCollections$AbstractImmutableList", name := "<init>", desc := "()V" } : Jvm.MethodName) jdk_46_method_1_code (1 : Nat) (Option.none : Option Jvm.ClassFile.FieldType)).before args0 about1 = true := code_word (m := ⟨25, 0⟩) (meth := k25m0) (c := k25c0) (by decide +kernel) rfl rfl rfl (by decide +kernel)
set_option maxRecDepth 65536 in
theorem w_c69 : (Jvm.Cond.code ({ cls := "java/util/ImmutableCollections$AbstractImmutableCollection", name := "<init>", desc := "()V" } : Jvm.MethodName) jdk_47_method_1_code (1 : Nat) (Option.none : Option Jvm.ClassFile.FieldType)).before args0 about1 = true := code_word (m := ⟨24, 0⟩) (meth := k24m0) (c := k24c0) (by decide +kernel) rfl rfl rfl (by decide +kernel)
set_option maxRecDepth 65536 in
theorem w_c70 : (Jvm.Cond.code ({ cls := "java/util/Objects", name := "requireNonNull", desc := "(Ljava/lang/Object;)Ljava/lang/Object;" } : Jvm.MethodName) jdk_31_method_10_code (1 : Nat) (Option.some (Jvm.ClassFile.FieldType.object "java/lang/Object"))).before args0 about1 = true := code_word (m := ⟨27, 1⟩) (meth := k27m1) (c := k27c1) (by decide +kernel) rfl rfl rfl (by decide +kernel)
set_option maxRecDepth 65536 in
theorem w_c71 : (Jvm.Cond.code ({ cls := "java/util/ImmutableCollections$List12", name := "size", desc := "()I" } : Jvm.MethodName) jdk_44_method_3_code (1 : Nat) (Option.some Jvm.ClassFile.FieldType.int)).before args0 about1 = true := code_word (m := ⟨37, 1⟩) (meth := k37m1) (c := k37c1) (by decide +kernel) rfl rfl rfl (by decide +kernel)
set_option maxRecDepth 65536 in
theorem w_c72 : (Jvm.Cond.code ({ cls := "java/util/ImmutableCollections$List12", name := "get", desc := "(I)Ljava/lang/Object;" } : Jvm.MethodName) jdk_44_method_5_code (2 : Nat) (Option.some (Jvm.ClassFile.FieldType.object "java/lang/Object"))).before args0 about1 = true := code_word (m := ⟨37, 2⟩) (meth := k37m2) (c := k37c2) (by decide +kernel) rfl rfl rfl (by decide +kernel)
set_option maxRecDepth 65536 in
theorem w_c73 : (Jvm.Cond.code ({ cls := "com/example/metsmith/metsmith/MetsDivFlatPinLaw", name := "fileIdOk", desc := "(Ljava/lang/String;I)Z" } : Jvm.MethodName) method_3_code (3 : Nat) (Option.some Jvm.ClassFile.FieldType.boolean)).before args0 about1 = true := code_word (m := ⟨1, 2⟩) (meth := k1m2) (c := k1c2) (by decide +kernel) rfl rfl rfl (by decide +kernel)
set_option maxRecDepth 65536 in
theorem w_c74 : (Jvm.Cond.code ({ cls := "com/example/metsmith/metsmith/MetsDivFlatPinLaw", name := "digits", desc := "(I)I" } : Jvm.MethodName) method_5_code (1 : Nat) (Option.some Jvm.ClassFile.FieldType.int)).before args0 about1 = true := code_word (m := ⟨1, 4⟩) (meth := k1m4) (c := k1c4) (by decide +kernel) rfl rfl rfl (by decide +kernel)
set_option maxRecDepth 65536 in
theorem w_c75 : (Jvm.Cond.code ({ cls := "java/lang/String", name := "charAt", desc := "(I)C" } : Jvm.MethodName) jdk_42_method_56_code (2 : Nat) (Option.some Jvm.ClassFile.FieldType.char)).before args0 about1 = true := code_word (m := ⟨7, 4⟩) (meth := k7m4) (c := k7c4) (by decide +kernel) rfl rfl rfl (by decide +kernel)
set_option maxRecDepth 65536 in
theorem w_c76 : (Jvm.Cond.code ({ cls := "java/lang/String", name := "isLatin1", desc := "()Z" } : Jvm.MethodName) jdk_42_method_154_code (1 : Nat) (Option.some Jvm.ClassFile.FieldType.boolean)).before args0 about1 = true := code_word (m := ⟨7, 12⟩) (meth := k7m12) (c := k7c12) (by decide +kernel) rfl rfl rfl (by decide +kernel)
set_option maxRecDepth 65536 in
theorem w_c77 : (Jvm.Cond.code ({ cls := "java/lang/StringLatin1", name := "charAt", desc := "([BI)C" } : Jvm.MethodName) jdk_43_method_2_code (2 : Nat) (Option.some Jvm.ClassFile.FieldType.char)).before args0 about1 = true := code_word (m := ⟨8, 1⟩) (meth := k8m1) (c := k8c1) (by decide +kernel) rfl rfl rfl (by decide +kernel)
set_option maxRecDepth 65536 in
theorem w_c78 : (Jvm.Cond.code ({ cls := "java/lang/String", name := "checkIndex", desc := "(II)V" } : Jvm.MethodName) jdk_42_method_155_code (2 : Nat) (Option.none : Option Jvm.ClassFile.FieldType)).before args0 about1 = true := code_word (m := ⟨7, 13⟩) (meth := k7m13) (c := k7c13) (by decide +kernel) rfl rfl rfl (by decide +kernel)
set_option maxRecDepth 65536 in
theorem w_c79 : (Jvm.Cond.code ({ cls := "com/example/metsmith/metsmith/MetsDivFlatPinLaw", name := "digitOk", desc := "(Ljava/lang/String;III)Z" } : Jvm.MethodName) method_4_code (4 : Nat) (Option.some Jvm.ClassFile.FieldType.boolean)).before args0 about1 = true := code_word (m := ⟨1, 3⟩) (meth := k1m3) (c := k1c3) (by decide +kernel) rfl rfl rfl (by decide +kernel)
set_option maxRecDepth 65536 in
theorem w_c80 : (Jvm.Cond.code ({ cls := "com/example/metsmith/metsmith/MetsDivFlatPinLaw", name := "pow10", desc := "(I)I" } : Jvm.MethodName) method_6_code (1 : Nat) (Option.some Jvm.ClassFile.FieldType.int)).before args0 about1 = true := code_word (m := ⟨1, 5⟩) (meth := k1m5) (c := k1c5) (by decide +kernel) rfl rfl rfl (by decide +kernel)
def codes1 : List Jvm.Cond := [Jvm.Cond.code x code maxLocals ret, Jvm.Cond.code ({ cls := "java/lang/String", name := "valueOf", desc := "(C)Ljava/lang/String;" } : Jvm.MethodName) jdk_42_method_139_code (1 : Nat) (Option.some (Jvm.ClassFile.FieldType.object "java/lang/String")), Jvm.Cond.code ({ cls := "java/lang/StringLatin1", name := "canEncode", desc := "(C)Z" } : Jvm.MethodName) jdk_43_method_3_code (1 : Nat) (Option.some Jvm.ClassFile.FieldType.boolean), Jvm.Cond.code ({ cls := "java/lang/StringLatin1", name := "toBytes", desc := "(C)[B" } : Jvm.MethodName) jdk_43_method_46_code (1 : Nat) (Option.some (Jvm.ClassFile.FieldType.array Jvm.ClassFile.FieldType.byte)), Jvm.Cond.code ({ cls := "java/lang/String", name := "<init>", desc := "([BB)V" } : Jvm.MethodName) jdk_42_method_151_code (3 : Nat) (Option.none : Option Jvm.ClassFile.FieldType), Jvm.Cond.code ({ cls := "java/lang/Object", name := "<init>", desc := "()V" } : Jvm.MethodName) object_method_1_code (1 : Nat) (Option.none : Option Jvm.ClassFile.FieldType), Jvm.Cond.code ({ cls := "java/lang/String", name := "<init>", desc := "([C)V" } : Jvm.MethodName) jdk_42_method_3_code (2 : Nat) (Option.none : Option Jvm.ClassFile.FieldType), Jvm.Cond.code ({ cls := "java/lang/String", name := "<init>", desc := "([CIILjava/lang/Void;)V" } : Jvm.MethodName) jdk_42_method_149_code (6 : Nat) (Option.none : Option Jvm.ClassFile.FieldType), Jvm.Cond.code ({ cls := "java/lang/StringUTF16", name := "compress", desc := "([CII)[B" } : Jvm.MethodName) jdk_52_method_16_code (6 : Nat) (Option.some (Jvm.ClassFile.FieldType.array Jvm.ClassFile.FieldType.byte)), Jvm.Cond.code ({ cls := "java/lang/StringUTF16", name := "compress", desc := "([CI[BII)I" } : Jvm.MethodName) jdk_52_method_21_code (7 : Nat) (Option.some Jvm.ClassFile.FieldType.int), Jvm.Cond.code ({ cls := "java/lang/StringUTF16", name := "coderFromArrayLen", desc := "([BI)B" } : Jvm.MethodName) jdk_52_method_15_code (2 : Nat) (Option.some Jvm.ClassFile.FieldType.byte), Jvm.Cond.code ({ cls := "java/util/ArrayList", name := "<init>", desc := "()V" } : Jvm.MethodName) jdk_38_method_2_code (1 : Nat) (Option.none : Option Jvm.ClassFile.FieldType), Jvm.Cond.code ({ cls := "java/util/AbstractList", name := "<init>", desc := "()V" } : Jvm.MethodName) jdk_39_method_1_code (1 : Nat) (Option.none : Option Jvm.ClassFile.FieldType), Jvm.Cond.code ({ cls := "java/util/AbstractCollection", name := "<init>", desc := "()V" } : Jvm.MethodName) jdk_22_method_1_code (1 : Nat) (Option.none : Option Jvm.ClassFile.FieldType), Jvm.Cond.code ({ cls := "java/util/ArrayList", name := "add", desc := "(Ljava/lang/Object;)Z" } : Jvm.MethodName) jdk_38_method_25_code (2 : Nat) (Option.some Jvm.ClassFile.FieldType.boolean), Jvm.Cond.code ({ cls := "java/util/ArrayList", name := "add", desc := "(Ljava/lang/Object;[Ljava/lang/Object;I)V" } : Jvm.MethodName) jdk_38_method_24_code (4 : Nat) (Option.none : Option Jvm.ClassFile.FieldType), Jvm.Cond.code ({ cls := "java/util/ArrayList", name := "grow", desc := "()[Ljava/lang/Object;" } : Jvm.MethodName) jdk_38_method_7_code (1 : Nat) (Option.some (Jvm.ClassFile.FieldType.array (Jvm.ClassFile.FieldType.object "java/lang/Object"))), Jvm.Cond.code ({ cls := "java/util/ArrayList", name := "grow", desc := "(I)[Ljava/lang/Object;" } : Jvm.MethodName) jdk_38_method_6_code (4 : Nat) (Option.some (Jvm.ClassFile.FieldType.array (Jvm.ClassFile.FieldType.object "java/lang/Object"))), Jvm.Cond.code ({ cls := "java/lang/Math", name := "max", desc := "(II)I" } : Jvm.MethodName) jdk_29_method_65_code (2 : Nat) (Option.some Jvm.ClassFile.FieldType.int), Jvm.Cond.code ({ cls := "com/example/metsmith/metsmith/Mets$Div", name := "flat", desc := "(Ljava/util/List;Ljava/util/List;I)Lcom/example/metsmith/metsmith/Mets$Div;" } : Jvm.MethodName) prog_29_method_2_code (4 : Nat) (Option.some (Jvm.ClassFile.FieldType.object "com/example/metsmith/metsmith/Mets$Div")), Jvm.Cond.code ({ cls := "com/example/metsmith/metsmith/Mets$Div$1", name := "<init>", desc := "(I)V" } : Jvm.MethodName) prog_30_method_1_code (2 : Nat) (Option.none : Option Jvm.ClassFile.FieldType), Jvm.Cond.code ({ cls := "java/util/List", name := "of", desc := "()Ljava/util/List;" } : Jvm.MethodName) jdk_40_method_36_code (0 : Nat) (Option.some (Jvm.ClassFile.FieldType.object "java/util/List")), Jvm.Cond.code ({ cls := "com/example/metsmith/metsmith/Mets$Div", name := "<init>", desc := "(Ljava/lang/String;Ljava/lang/String;Ljava/util/List;Ljava/util/List;Ljava/util/List;Ljava/util/List;)V" } : Jvm.MethodName) prog_29_method_1_code (7 : Nat) (Option.none : Option Jvm.ClassFile.FieldType), Jvm.Cond.code ({ cls := "java/lang/Record", name := "<init>", desc := "()V" } : Jvm.MethodName) jdk_30_method_1_code (1 : Nat) (Option.none : Option Jvm.ClassFile.FieldType), Jvm.Cond.code ({ cls := "com/example/metsmith/metsmith/Mets$Div", name := "type", desc := "()Ljava/lang/String;" } : Jvm.MethodName) prog_29_method_6_code (1 : Nat) (Option.some (Jvm.ClassFile.FieldType.object "java/lang/String")), Jvm.Cond.code ({ cls := "com/example/metsmith/metsmith/Mets$Div", name := "label", desc := "()Ljava/lang/String;" } : Jvm.MethodName) prog_29_method_7_code (1 : Nat) (Option.some (Jvm.ClassFile.FieldType.object "java/lang/String")), Jvm.Cond.code ({ cls := "com/example/metsmith/metsmith/Mets$Div", name := "fileIds", desc := "()Ljava/util/List;" } : Jvm.MethodName) prog_29_method_10_code (1 : Nat) (Option.some (Jvm.ClassFile.FieldType.object "java/util/List")), Jvm.Cond.code ({ cls := "java/util/ImmutableCollections$ListN", name := "size", desc := "()I" } : Jvm.MethodName) jdk_45_method_3_code (1 : Nat) (Option.some Jvm.ClassFile.FieldType.int), Jvm.Cond.code ({ cls := "com/example/metsmith/metsmith/Mets$Div", name := "dmdIds", desc := "()Ljava/util/List;" } : Jvm.MethodName) prog_29_method_8_code (1 : Nat) (Option.some (Jvm.ClassFile.FieldType.object "java/util/List")), Jvm.Cond.code ({ cls := "java/util/ArrayList", name := "size", desc := "()I" } : Jvm.MethodName) jdk_38_method_8_code (1 : Nat) (Option.some Jvm.ClassFile.FieldType.int), Jvm.Cond.code ({ cls := "java/util/ArrayList", name := "get", desc := "(I)Ljava/lang/Object;" } : Jvm.MethodName) jdk_38_method_20_code (2 : Nat) (Option.some (Jvm.ClassFile.FieldType.object "java/lang/Object")), Jvm.Cond.code ({ cls := "java/util/Objects", name := "checkIndex", desc := "(II)I" } : Jvm.MethodName) jdk_31_method_17_code (2 : Nat) (Option.some Jvm.ClassFile.FieldType.int), Jvm.Cond.code ({ cls := "jdk/internal/util/Preconditions", name := "checkIndex", desc := "(IILjava/util/function/BiFunction;)I" } : Jvm.MethodName) jdk_41_method_11_code (3 : Nat) (Option.some Jvm.ClassFile.FieldType.int), Jvm.Cond.code ({ cls := "java/util/ArrayList", name := "elementData", desc := "(I)Ljava/lang/Object;" } : Jvm.MethodName) jdk_38_method_18_code (2 : Nat) (Option.some (Jvm.ClassFile.FieldType.object "java/lang/Object")), Jvm.Cond.code ({ cls := "java/lang/String", name := "equals", desc := "(Ljava/lang/Object;)Z" } : Jvm.MethodName) jdk_42_method_66_code (3 : Nat) (Option.some Jvm.ClassFile.FieldType.boolean), Jvm.Cond.code ({ cls := "com/example/metsmith/metsmith/Mets$Div", name := "admIds", desc := "()Ljava/util/List;" } : Jvm.MethodName) prog_29_method_9_code (1 : Nat) (Option.some (Jvm.ClassFile.FieldType.object "java/util/List")), Jvm.Cond.code ({ cls := "com/example/metsmith/metsmith/Mets$Div", name := "divs", desc := "()Ljava/util/List;" } : Jvm.MethodName) prog_29_method_11_code (1 : Nat) (Option.some (Jvm.ClassFile.FieldType.object "java/util/List")), Jvm.Cond.code ({ cls := "com/example/metsmith/metsmith/Mets$Div$1", name := "size", desc := "()I" } : Jvm.MethodName) prog_30_method_3_code (1 : Nat) (Option.some Jvm.ClassFile.FieldType.int), Jvm.Cond.code ({ cls := "com/example/metsmith/metsmith/Mets$Div$1", name := "get", desc := "(I)Ljava/lang/Object;" } : Jvm.MethodName) prog_30_method_4_code (2 : Nat) (Option.some (Jvm.ClassFile.FieldType.object "java/lang/Object")), Jvm.Cond.code ({ cls := "com/example/metsmith/metsmith/Mets$Div$1", name := "get", desc := "(I)Lcom/example/metsmith/metsmith/Mets$Div;" } : Jvm.MethodName) prog_30_method_2_code (2 : Nat) (Option.some (Jvm.ClassFile.FieldType.object "com/example/metsmith/metsmith/Mets$Div")), Jvm.Cond.code ({ cls := "com/example/metsmith/metsmith/Mets", name := "fileId", desc := "(I)Ljava/lang/String;" } : Jvm.MethodName) prog_26_method_3_code (1 : Nat) (Option.some (Jvm.ClassFile.FieldType.object "java/lang/String")), Jvm.Cond.code ({ cls := "java/lang/StringBuilder", name := "<init>", desc := "()V" } : Jvm.MethodName) jdk_67_method_1_code (1 : Nat) (Option.none : Option Jvm.ClassFile.FieldType), Jvm.Cond.code ({ cls := "java/lang/AbstractStringBuilder", name := "<init>", desc := "(I)V" } : Jvm.MethodName) jdk_68_method_2_code (2 : Nat) (Option.none : Option Jvm.ClassFile.FieldType), Jvm.Cond.code ({ cls := "java/lang/StringBuilder", name := "append", desc := "(Ljava/lang/String;)Ljava/lang/StringBuilder;" } : Jvm.MethodName) jdk_67_method_7_code (2 : Nat) (Option.some (Jvm.ClassFile.FieldType.object "java/lang/StringBuilder")), Jvm.Cond.code ({ cls := "java/lang/AbstractStringBuilder", name := "append", desc := "(Ljava/lang/String;)Ljava/lang/AbstractStringBuilder;" } : Jvm.MethodName) jdk_68_method_22_code (3 : Nat) (Option.some (Jvm.ClassFile.FieldType.object "java/lang/AbstractStringBuilder")), Jvm.Cond.code ({ cls := "java/lang/String", name := "length", desc := "()I" } : Jvm.MethodName) jdk_42_method_54_code (1 : Nat) (Option.some Jvm.ClassFile.FieldType.int), Jvm.Cond.code ({ cls := "java/lang/String", name := "coder", desc := "()B" } : Jvm.MethodName) jdk_42_method_152_code (1 : Nat) (Option.some Jvm.ClassFile.FieldType.byte), Jvm.Cond.code ({ cls := "java/lang/AbstractStringBuilder", name := "ensureCapacityInternal", desc := "(I)V" } : Jvm.MethodName) jdk_68_method_9_code (3 : Nat) (Option.none : Option Jvm.ClassFile.FieldType), Jvm.Cond.code ({ cls := "java/lang/AbstractStringBuilder", name := "putStringAt", desc := "(ILjava/lang/String;)V" } : Jvm.MethodName) jdk_68_method_73_code (3 : Nat) (Option.none : Option Jvm.ClassFile.FieldType), Jvm.Cond.code ({ cls := "java/lang/AbstractStringBuilder", name := "inflateIfNeededFor", desc := "(Ljava/lang/String;)V" } : Jvm.MethodName) jdk_68_method_71_code (2 : Nat) (Option.none : Option Jvm.ClassFile.FieldType), Jvm.Cond.code ({ cls := "java/lang/String", name := "getBytes", desc := "([BIB)V" } : Jvm.MethodName) jdk_42_method_147_code (4 : Nat) (Option.none : Option Jvm.ClassFile.FieldType), Jvm.Cond.code ({ cls := "java/lang/StringBuilder", name := "append", desc := "(I)Ljava/lang/StringBuilder;" } : Jvm.MethodName) jdk_67_method_15_code (2 : Nat) (Option.some (Jvm.ClassFile.FieldType.object "java/lang/StringBuilder")), Jvm.Cond.code ({ cls := "java/lang/AbstractStringBuilder", name := "append", desc := "(I)Ljava/lang/AbstractStringBuilder;" } : Jvm.MethodName) jdk_68_method_32_code (4 : Nat) (Option.some (Jvm.ClassFile.FieldType.object "java/lang/AbstractStringBuilder")), Jvm.Cond.code ({ cls := "java/lang/Integer", name := "stringSize", desc := "(I)I" } : Jvm.MethodName) jdk_33_method_13_code (4 : Nat) (Option.some Jvm.ClassFile.FieldType.int), Jvm.Cond.code ({ cls := "java/lang/AbstractStringBuilder", name := "isLatin1", desc := "()Z" } : Jvm.MethodName) jdk_68_method_68_code (1 : Nat) (Option.some Jvm.ClassFile.FieldType.boolean), Jvm.Cond.code ({ cls := "java/lang/Integer", name := "getChars", desc := "(II[B)I" } : Jvm.MethodName) jdk_33_method_12_code (7 : Nat) (Option.some Jvm.ClassFile.FieldType.int), Jvm.Cond.code ({ cls := "java/lang/StringBuilder", name := "toString", desc := "()Ljava/lang/String;" } : Jvm.MethodName) jdk_67_method_42_code (1 : Nat) (Option.some (Jvm.ClassFile.FieldType.object "java/lang/String")), Jvm.Cond.code ({ cls := "java/lang/String", name := "<init>", desc := "(Ljava/lang/StringBuilder;)V" } : Jvm.MethodName) jdk_42_method_53_code (2 : Nat) (Option.none : Option Jvm.ClassFile.FieldType), Jvm.Cond.code ({ cls := "java/lang/String", name := "<init>", desc := "(Ljava/lang/AbstractStringBuilder;Ljava/lang/Void;)V" } : Jvm.MethodName) jdk_42_method_150_code (5 : Nat) (Option.none : Option Jvm.ClassFile.FieldType), Jvm.Cond.code ({ cls := "java/lang/AbstractStringBuilder", name := "getValue", desc := "()[B" } : Jvm.MethodName) jdk_68_method_64_code (1 : Nat) (Option.some (Jvm.ClassFile.FieldType.array Jvm.ClassFile.FieldType.byte)), Jvm.Cond.code ({ cls := "java/lang/StringBuilder", name := "length", desc := "()I" } : Jvm.MethodName) jdk_67_method_93_code (1 : Nat) (Option.some Jvm.ClassFile.FieldType.int), Jvm.Cond.code ({ cls := "java/lang/AbstractStringBuilder", name := "length", desc := "()I" } : Jvm.MethodName) jdk_68_method_6_code (1 : Nat) (Option.some Jvm.ClassFile.FieldType.int), Jvm.Cond.code ({ cls := "java/util/Arrays", name := "copyOfRange", desc := "([BII)[B" } : Jvm.MethodName) jdk_65_method_132_code (3 : Nat) (Option.some (Jvm.ClassFile.FieldType.array Jvm.ClassFile.FieldType.byte)), Jvm.Cond.code ({ cls := "java/util/Arrays", name := "copyOfRangeByte", desc := "([BII)[B" } : Jvm.MethodName) jdk_65_method_133_code (5 : Nat) (Option.some (Jvm.ClassFile.FieldType.array Jvm.ClassFile.FieldType.byte)), Jvm.Cond.code ({ cls := "java/util/Arrays", name := "checkLength", desc := "(II)V" } : Jvm.MethodName) jdk_65_method_131_code (2 : Nat) (Option.none : Option Jvm.ClassFile.FieldType), Jvm.Cond.code ({ cls := "java/lang/Math", name := "min", desc := "(II)I" } : Jvm.MethodName) jdk_29_method_69_code (2 : Nat) (Option.some Jvm.ClassFile.FieldType.int), Jvm.Cond.code ({ cls := "java/util/List", name := "of", desc := "(Ljava/lang/Object;)Ljava/util/List;" } : Jvm.MethodName) jdk_40_method_37_code (1 : Nat) (Option.some (Jvm.ClassFile.FieldType.object "java/util/List")), Jvm.Cond.code ({ cls := "java/util/ImmutableCollections$List12", name := "<init>", desc := "(Ljava/lang/Object;)V" } : Jvm.MethodName) jdk_44_method_1_code (2 : Nat) (Option.none : Option Jvm.ClassFile.FieldType), Jvm.Cond.code ({ cls := "java/util/ImmutableCollections$AbstractImmutableList", name := "<init>", desc := "()V" } : Jvm.MethodName) jdk_46_method_1_code (1 : Nat) (Option.none : Option Jvm.ClassFile.FieldType), Jvm.Cond.code ({ cls := "java/util/ImmutableCollections$AbstractImmutableCollection", name := "<init>", desc := "()V" } : Jvm.MethodName) jdk_47_method_1_code (1 : Nat) (Option.none : Option Jvm.ClassFile.FieldType), Jvm.Cond.code ({ cls := "java/util/Objects", name := "requireNonNull", desc := "(Ljava/lang/Object;)Ljava/lang/Object;" } : Jvm.MethodName) jdk_31_method_10_code (1 : Nat) (Option.some (Jvm.ClassFile.FieldType.object "java/lang/Object")), Jvm.Cond.code ({ cls := "java/util/ImmutableCollections$List12", name := "size", desc := "()I" } : Jvm.MethodName) jdk_44_method_3_code (1 : Nat) (Option.some Jvm.ClassFile.FieldType.int), Jvm.Cond.code ({ cls := "java/util/ImmutableCollections$List12", name := "get", desc := "(I)Ljava/lang/Object;" } : Jvm.MethodName) jdk_44_method_5_code (2 : Nat) (Option.some (Jvm.ClassFile.FieldType.object "java/lang/Object")), Jvm.Cond.code ({ cls := "com/example/metsmith/metsmith/MetsDivFlatPinLaw", name := "fileIdOk", desc := "(Ljava/lang/String;I)Z" } : Jvm.MethodName) method_3_code (3 : Nat) (Option.some Jvm.ClassFile.FieldType.boolean), Jvm.Cond.code ({ cls := "com/example/metsmith/metsmith/MetsDivFlatPinLaw", name := "digits", desc := "(I)I" } : Jvm.MethodName) method_5_code (1 : Nat) (Option.some Jvm.ClassFile.FieldType.int), Jvm.Cond.code ({ cls := "java/lang/String", name := "charAt", desc := "(I)C" } : Jvm.MethodName) jdk_42_method_56_code (2 : Nat) (Option.some Jvm.ClassFile.FieldType.char), Jvm.Cond.code ({ cls := "java/lang/String", name := "isLatin1", desc := "()Z" } : Jvm.MethodName) jdk_42_method_154_code (1 : Nat) (Option.some Jvm.ClassFile.FieldType.boolean), Jvm.Cond.code ({ cls := "java/lang/StringLatin1", name := "charAt", desc := "([BI)C" } : Jvm.MethodName) jdk_43_method_2_code (2 : Nat) (Option.some Jvm.ClassFile.FieldType.char), Jvm.Cond.code ({ cls := "java/lang/String", name := "checkIndex", desc := "(II)V" } : Jvm.MethodName) jdk_42_method_155_code (2 : Nat) (Option.none : Option Jvm.ClassFile.FieldType), Jvm.Cond.code ({ cls := "com/example/metsmith/metsmith/MetsDivFlatPinLaw", name := "digitOk", desc := "(Ljava/lang/String;III)Z" } : Jvm.MethodName) method_4_code (4 : Nat) (Option.some Jvm.ClassFile.FieldType.boolean), Jvm.Cond.code ({ cls := "com/example/metsmith/metsmith/MetsDivFlatPinLaw", name := "pow10", desc := "(I)I" } : Jvm.MethodName) method_6_code (1 : Nat) (Option.some Jvm.ClassFile.FieldType.int)]
set_option maxRecDepth 65536 in
theorem codes_eq : words1.filter isCode = codes1 := rfl
theorem w_codes : ∀ c ∈ words1.filter isCode, c.before args0 about1 = true := by
  rw [codes_eq]
  intro c hc
  simp only [codes1, List.mem_cons, List.not_mem_nil, or_false] at hc
  rcases hc with rfl | rfl | rfl | rfl | rfl | rfl | rfl | rfl | rfl | rfl | rfl | rfl | rfl | rfl | rfl | rfl | rfl | rfl | rfl | rfl | rfl | rfl | rfl | rfl | rfl | rfl | rfl | rfl | rfl | rfl | rfl | rfl | rfl | rfl | rfl | rfl | rfl | rfl | rfl | rfl | rfl | rfl | rfl | rfl | rfl | rfl | rfl | rfl | rfl | rfl | rfl | rfl | rfl | rfl | rfl | rfl | rfl | rfl | rfl | rfl | rfl | rfl | rfl | rfl | rfl | rfl | rfl | rfl | rfl | rfl | rfl | rfl | rfl | rfl | rfl | rfl | rfl | rfl | rfl | rfl | rfl
  · exact w_c0
  · exact w_c1
  · exact w_c2
  · exact w_c3
  · exact w_c4
  · exact w_c5
  · exact w_c6
  · exact w_c7
  · exact w_c8
  · exact w_c9
  · exact w_c10
  · exact w_c11
  · exact w_c12
  · exact w_c13
  · exact w_c14
  · exact w_c15
  · exact w_c16
  · exact w_c17
  · exact w_c18
  · exact w_c19
  · exact w_c20
  · exact w_c21
  · exact w_c22
  · exact w_c23
  · exact w_c24
  · exact w_c25
  · exact w_c26
  · exact w_c27
  · exact w_c28
  · exact w_c29
  · exact w_c30
  · exact w_c31
  · exact w_c32
  · exact w_c33
  · exact w_c34
  · exact w_c35
  · exact w_c36
  · exact w_c37
  · exact w_c38
  · exact w_c39
  · exact w_c40
  · exact w_c41
  · exact w_c42
  · exact w_c43
  · exact w_c44
  · exact w_c45
  · exact w_c46
  · exact w_c47
  · exact w_c48
  · exact w_c49
  · exact w_c50
  · exact w_c51
  · exact w_c52
  · exact w_c53
  · exact w_c54
  · exact w_c55
  · exact w_c56
  · exact w_c57
  · exact w_c58
  · exact w_c59
  · exact w_c60
  · exact w_c61
  · exact w_c62
  · exact w_c63
  · exact w_c64
  · exact w_c65
  · exact w_c66
  · exact w_c67
  · exact w_c68
  · exact w_c69
  · exact w_c70
  · exact w_c71
  · exact w_c72
  · exact w_c73
  · exact w_c74
  · exact w_c75
  · exact w_c76
  · exact w_c77
  · exact w_c78
  · exact w_c79
  · exact w_c80
set_option maxRecDepth 65536 in
theorem w_t1 : (words1.take 24).all (fun c => isCode c || c.before args0 about1) = true := by decide +kernel
set_option maxRecDepth 65536 in
theorem w_t2 : ((words1.drop 24).take 24).all (fun c => isCode c || c.before args0 about1) = true := by decide +kernel
set_option maxRecDepth 65536 in
theorem w_t3 : (((words1.drop 24).drop 24).take 24).all (fun c => isCode c || c.before args0 about1) = true := by decide +kernel
set_option maxRecDepth 65536 in
theorem w_t4 : ((((words1.drop 24).drop 24).drop 24).take 24).all (fun c => isCode c || c.before args0 about1) = true := by decide +kernel
set_option maxRecDepth 65536 in
theorem w_t5 : (((((words1.drop 24).drop 24).drop 24).drop 24).take 24).all (fun c => isCode c || c.before args0 about1) = true := by decide +kernel
set_option maxRecDepth 65536 in
theorem w_t6 : ((((((words1.drop 24).drop 24).drop 24).drop 24).drop 24).take 24).all (fun c => isCode c || c.before args0 about1) = true := by decide +kernel
set_option maxRecDepth 65536 in
theorem w_t7 : (((((((words1.drop 24).drop 24).drop 24).drop 24).drop 24).drop 24).take 24).all (fun c => isCode c || c.before args0 about1) = true := by decide +kernel
set_option maxRecDepth 65536 in
theorem w_t8 : ((((((((words1.drop 24).drop 24).drop 24).drop 24).drop 24).drop 24).drop 24).take 24).all (fun c => isCode c || c.before args0 about1) = true := by decide +kernel
set_option maxRecDepth 65536 in
theorem w_t9 : (((((((((words1.drop 24).drop 24).drop 24).drop 24).drop 24).drop 24).drop 24).drop 24).take 24).all (fun c => isCode c || c.before args0 about1) = true := by decide +kernel
set_option maxRecDepth 65536 in
theorem w_t10 : ((((((((((words1.drop 24).drop 24).drop 24).drop 24).drop 24).drop 24).drop 24).drop 24).drop 24).take 24).all (fun c => isCode c || c.before args0 about1) = true := by decide +kernel
set_option maxRecDepth 65536 in
theorem w_t11 : (((((((((((words1.drop 24).drop 24).drop 24).drop 24).drop 24).drop 24).drop 24).drop 24).drop 24).drop 24).take 24).all (fun c => isCode c || c.before args0 about1) = true := by decide +kernel
set_option maxRecDepth 65536 in
theorem w_t12 : ((((((((((((words1.drop 24).drop 24).drop 24).drop 24).drop 24).drop 24).drop 24).drop 24).drop 24).drop 24).drop 24).take 24).all (fun c => isCode c || c.before args0 about1) = true := by decide +kernel
set_option maxRecDepth 65536 in
theorem w_t13 : (((((((((((((words1.drop 24).drop 24).drop 24).drop 24).drop 24).drop 24).drop 24).drop 24).drop 24).drop 24).drop 24).drop 24).take 24).all (fun c => isCode c || c.before args0 about1) = true := by decide +kernel
set_option maxRecDepth 65536 in
theorem w_t14 : ((((((((((((((words1.drop 24).drop 24).drop 24).drop 24).drop 24).drop 24).drop 24).drop 24).drop 24).drop 24).drop 24).drop 24).drop 24).take 24).all (fun c => isCode c || c.before args0 about1) = true := by decide +kernel
set_option maxRecDepth 65536 in
theorem w_t15 : (((((((((((((((words1.drop 24).drop 24).drop 24).drop 24).drop 24).drop 24).drop 24).drop 24).drop 24).drop 24).drop 24).drop 24).drop 24).drop 24).take 24).all (fun c => isCode c || c.before args0 about1) = true := by decide +kernel
set_option maxRecDepth 65536 in
theorem w_t16 : ((((((((((((((((words1.drop 24).drop 24).drop 24).drop 24).drop 24).drop 24).drop 24).drop 24).drop 24).drop 24).drop 24).drop 24).drop 24).drop 24).drop 24).take 24).all (fun c => isCode c || c.before args0 about1) = true := by decide +kernel
set_option maxRecDepth 65536 in
theorem w_t17 : (((((((((((((((((words1.drop 24).drop 24).drop 24).drop 24).drop 24).drop 24).drop 24).drop 24).drop 24).drop 24).drop 24).drop 24).drop 24).drop 24).drop 24).drop 24).take 24).all (fun c => isCode c || c.before args0 about1) = true := by decide +kernel
set_option maxRecDepth 65536 in
theorem w_t18 : ((((((((((((((((((words1.drop 24).drop 24).drop 24).drop 24).drop 24).drop 24).drop 24).drop 24).drop 24).drop 24).drop 24).drop 24).drop 24).drop 24).drop 24).drop 24).drop 24).take 24).all (fun c => isCode c || c.before args0 about1) = true := by decide +kernel
set_option maxRecDepth 65536 in
theorem w_t19 : ((((((((((((((((((words1.drop 24).drop 24).drop 24).drop 24).drop 24).drop 24).drop 24).drop 24).drop 24).drop 24).drop 24).drop 24).drop 24).drop 24).drop 24).drop 24).drop 24).drop 24).all (fun c => isCode c || c.before args0 about1) = true := by decide +kernel
theorem w_tables : (allAtoms (Jvm.Cond.code x code maxLocals ret :: tables_1)).before args0 about1 = true := by
  rw [allAtoms_all]
  show words1.all (fun c => c.before args0 about1) = true
  refine all_split ?_ w_codes
  rw [← List.take_append_drop 24 words1, List.all_append, w_t1, ← List.take_append_drop 24 (words1.drop 24), List.all_append, w_t2, ← List.take_append_drop 24 ((words1.drop 24).drop 24), List.all_append, w_t3, ← List.take_append_drop 24 (((words1.drop 24).drop 24).drop 24), List.all_append, w_t4, ← List.take_append_drop 24 ((((words1.drop 24).drop 24).drop 24).drop 24), List.all_append, w_t5, ← List.take_append_drop 24 (((((words1.drop 24).drop 24).drop 24).drop 24).drop 24), List.all_append, w_t6, ← List.take_append_drop 24 ((((((words1.drop 24).drop 24).drop 24).drop 24).drop 24).drop 24), List.all_append, w_t7, ← List.take_append_drop 24 (((((((words1.drop 24).drop 24).drop 24).drop 24).drop 24).drop 24).drop 24), List.all_append, w_t8, ← List.take_append_drop 24 ((((((((words1.drop 24).drop 24).drop 24).drop 24).drop 24).drop 24).drop 24).drop 24), List.all_append, w_t9, ← List.take_append_drop 24 (((((((((words1.drop 24).drop 24).drop 24).drop 24).drop 24).drop 24).drop 24).drop 24).drop 24), List.all_append, w_t10, ← List.take_append_drop 24 ((((((((((words1.drop 24).drop 24).drop 24).drop 24).drop 24).drop 24).drop 24).drop 24).drop 24).drop 24), List.all_append, w_t11, ← List.take_append_drop 24 (((((((((((words1.drop 24).drop 24).drop 24).drop 24).drop 24).drop 24).drop 24).drop 24).drop 24).drop 24).drop 24), List.all_append, w_t12, ← List.take_append_drop 24 ((((((((((((words1.drop 24).drop 24).drop 24).drop 24).drop 24).drop 24).drop 24).drop 24).drop 24).drop 24).drop 24).drop 24), List.all_append, w_t13, ← List.take_append_drop 24 (((((((((((((words1.drop 24).drop 24).drop 24).drop 24).drop 24).drop 24).drop 24).drop 24).drop 24).drop 24).drop 24).drop 24).drop 24), List.all_append, w_t14, ← List.take_append_drop 24 ((((((((((((((words1.drop 24).drop 24).drop 24).drop 24).drop 24).drop 24).drop 24).drop 24).drop 24).drop 24).drop 24).drop 24).drop 24).drop 24), List.all_append, w_t15, ← List.take_append_drop 24 (((((((((((((((words1.drop 24).drop 24).drop 24).drop 24).drop 24).drop 24).drop 24).drop 24).drop 24).drop 24).drop 24).drop 24).drop 24).drop 24).drop 24), List.all_append, w_t16, ← List.take_append_drop 24 ((((((((((((((((words1.drop 24).drop 24).drop 24).drop 24).drop 24).drop 24).drop 24).drop 24).drop 24).drop 24).drop 24).drop 24).drop 24).drop 24).drop 24).drop 24), List.all_append, w_t17, ← List.take_append_drop 24 (((((((((((((((((words1.drop 24).drop 24).drop 24).drop 24).drop 24).drop 24).drop 24).drop 24).drop 24).drop 24).drop 24).drop 24).drop 24).drop 24).drop 24).drop 24).drop 24), List.all_append, w_t18, w_t19]
  rfl
set_option maxRecDepth 65536 in
theorem w_rest : rest_1_c.before args0 about1 = true := by decide +kernel
set_option maxRecDepth 65536 in
theorem w_case : (Jvm.Cond.and given_1 narrow_1).before args0 about1 = true := by decide +kernel
set_option maxRecDepth 65536 in
theorem w_consts : constsHeld consts_1 about1 := Jvm.Lit.constsHeldB_iff.mp (by decide +kernel)
theorem w_applies : (headSpec (Jvm.Cond.code x code maxLocals ret :: tables_1) room_1).applies x e0.platform about1 = true :=
  (Spec.applies_iff w_frames).mpr ⟨w_running, w_runnable, w_alone, w_named, w_hears, w_ripe, w_room, w_tables⟩
theorem atStart : AtStart classFile x code maxLocals ret World_1 tables_1 room_1 Calls_1 rest_1 Pre_1 launch0 p0 e0 about1 theMethod args0 below0 :=
  ⟨lists_1, trivial, launch0.admits_env _ _ _, launch0.least_env, fairChoices_fair.cas, fairChoices_fair.clock, w_frames, w_args, w_heap, w_applies, ⟨w_consts, trivial⟩, w_rest, w_case⟩
end start1
theorem witness_1 : WitnessClaimed_1 := ⟨start1.p0, start1.e0, start1.about1, start1.theMethod, start1.args0, start1.below0, start1.atStart⟩
end Jvm.Pilot.@@N@@
