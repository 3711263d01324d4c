import JvmDerived
import JvmDerived.Pilot.@@N@@Statement
import JvmDerived.Pilot.@@N@@Code
set_option linter.unusedVariables false
set_option linter.unusedSimpArgs false
namespace Jvm.Pilot.@@N@@
open Jvm Jvm.ClassFile Sem Op Lib Jvm.Free Jvm.Stand Jvm.LawKit Jvm.RoadKit Bundle Jvm.Pilot.@@N@@.Jvm.D
section OwnLayer
/-- the run from A ends, and P holds of how it ends -/
def own_Ends (tb : Tables) (e : Env) (below : List Frame) (P : Outcome → State → Prop) (A : State) : Prop :=
  ∃ s₂ o, Steps tb e below A s₂ ∧ s₂.status = .running ∧ Ended s₂ below o ∧ P o s₂
theorem own_st {tb : Tables} {e : Env} {below : List Frame} {P : Outcome → State → Prop} {A B : State} (h : ∀ t, Steps tb e below B t → Steps tb e below A t) (k : own_Ends tb e below P B) : own_Ends tb e below P A := by
  obtain ⟨s2, o, h1, h2⟩ := k
  exact ⟨s2, o, h _ h1, h2⟩
/-- where the walk stands: the state T, its heap h, k cells and n slots made, nothing below n0 written -/
def own_S (p : Program) (l : Launch) (e : Env) (R : Room) (s : State) (m : MethodId) (args : Array Value) (below : List Frame) (meth : Method) (c : Code) (n0 : Nat) (T : State) (h : Heap) (k n : Nat) : Prop :=
  ∃ locs, Stand p l e R s m args below meth c T locs k n ∧ T.heap = h ∧ Fr n0 locs
def own_P (s : State) (n0 : Nat) (Qf : Option Value → Heap → Prop) (C S : Nat) (o : Outcome) (U' : State) : Prop := ∃ v L, o = .returned v ∧ (Fr n0 L ∧ Qf v U'.heap) ∧ FrameEnd s o U' L C S
/-- a body's contract: called with 'as' at the heap h0 it returns, and Qf holds of what it returns and of the heap -/
def own_Con (l : Launch) (Z : State) (y : MethodName) (bytes : ByteArray) (maxL : Nat) (ret : Option FieldType) (ws : List Jvm.Cond) (rm : Room) (as' : Array Value) (h0 : Heap) (n0 : Nat) (Qf : Option Value → Heap → Prop) : Prop :=
  MetFree l y (head1 (Jvm.Cond.code y bytes maxL ret :: ws) rm) (fun a U => a = as' ∧ Z.Warmed39 U.vm ∧ U.heap = h0) (fun _ _ _ _ _ => True) (fun _ U o U' => ∃ v L, o = .returned v ∧ (Fr n0 L ∧ Qf v U'.heap) ∧ FrameEnd U o U' L rm.cells rm.slots)
variable {p : Program} {l : Launch} {e : Env} {R : Room} {s : State} {m : MethodId} {args : Array Value} {below : List Frame} {meth : Method} {c : Code} {n0 : Nat} {T : State} {h : Heap} {k n : Nat} {Z : State} {a0 : Array Value} {P : Outcome → State → Prop}
theorem own_here (Y : own_S p l e R s m args below meth c n0 T h k n) : At T m c below := by
  obtain ⟨_, X, -⟩ := Y
  exact X.here
theorem own_body {y : MethodName} {bytes : ByteArray} {maxL : Nat} {ret : Option FieldType} {ws : List Jvm.Cond} {rm : Room} {as' : Array Value} {h0 : Heap} {Qf : Option Value → Heap → Prop} (hpn : plainFor y = true)
    (hbody : ∀ (p : Program) (e : Env) (s : State) (m : MethodId) (below : List Frame) (meth : Method) (c : Code) (T : State), p.tables.exec = Jvm.exec → Z.Warmed39 s.vm → c.code = bytes → c.maxLocals = maxL → s.vm.findClass y.cls = some m.cls → meth.name = y.name → meth.sig.returnType = ret → meth.locks = false →
      own_S p l e rm s m as' below meth c n0 T h0 0 0 → own_Ends p.tables e below (own_P s n0 Qf rm.cells rm.slots) (T.setTop (entryFrame m as' maxL))) : own_Con l Z y bytes maxL ret ws rm as' h0 n0 Qf := by
  refine MetFree.of_bodySF hpn hisR ?_
  intro p e s m args below meth c s₁ Bd hml0 hP hK
  obtain ⟨rfl, hZ, hh⟩ := hP
  have hown : s.vm.findClass y.cls = some m.cls := findClass_of_methodNamed Bd.named
  have hnm := (name_of_methodNamed Bd.named Bd.method).1
  exact hbody p e s m below meth c s₁ Bd.exec hZ Bd.bytes hml0 hown hnm Bd.returns Bd.notSynchronized ⟨[], Stand.of_body Bd, by rw [← hh, Bd.state]; rfl, Fr.nil n0⟩
theorem own_leave (Y : own_S p l e R s m args below meth c n0 T h k n) (hlk : meth.locks = false) {v : Option Value} (hv : meth.sig.returnType = none → v = none) {Qf : Option Value → Heap → Prop} {C S : Nat} (hk : k ≤ C) (hn : n ≤ S) (hQ : Qf v h) {A : State}
    (st : ∀ (locs : List Loc) (fs : List Frame), Stand p l e R s m args below meth c T locs k n → (∀ (f : JFrame) (acts : List Action), f.method = m → f.locked = none → f.entered = [] → (doReturn e (T.setTop f) acts v).1 = T.setFrames fs) → Steps p.tables e below A (T.setFrames fs)) : own_Ends p.tables e below (own_P s n0 Qf C S) A := by
  obtain ⟨locs, X, e1, N⟩ := Y
  obtain ⟨fs, hr, hrun, hended, hW, hsame⟩ := X.leave hv hlk
  refine ⟨_, _, st locs fs X hr, hrun, hended, v, locs, rfl, ⟨N, ?_⟩, ⟨_, rfl⟩, hW, hsame.mono hk hn⟩
  show Qf v T.heap
  rw [e1]; exact hQ
theorem own_ret (Y : own_S p l e R s m args below meth c n0 T h k n) (hx : p.tables.exec = Jvm.exec) (hlk : meth.locks = false) {pc : Nat} {Ls : Array Slot} {w : Value} {t : FieldType} {i : Instr} {rest : List Value} (hret : meth.sig.returnType = some t) (hd : decode c.code pc = .ok (i, 1)) (hn : narrow t w = w)
    (hi : (i = .ireturn ∧ (t = .int ∨ t = .boolean ∨ t = .byte ∨ t = .char ∨ t = .short) ∧ ∃ z, w = .int z) ∨ (i = .lreturn ∧ t = .long ∧ ∃ z, w = .long z) ∨ (i = .dreturn ∧ t = .double ∧ ∃ z, w = .double z) ∨ (i = .freturn ∧ t = .float ∧ ∃ z, w = .float z) ∨ (i = .areturn ∧ t.isReference = true ∧ w.isRef = true))
    {Qf : Option Value → Heap → Prop} {C S : Nat} (hk : k ≤ C) (hs : n ≤ S) (hQ : Qf (some w) h) : own_Ends p.tables e below (own_P s n0 Qf C S) (T.setTop (mkF m pc Ls (w :: rest))) :=
  own_leave Y hlk (fun q => by rw [hret] at q; cases q) hk hs hQ fun _ _ X hr => retOut X hx hret hn hi hd hr
theorem own_retI (Y : own_S p l e R s m args below meth c n0 T h k n) (hx : p.tables.exec = Jvm.exec) (hlk : meth.locks = false) {pc : Nat} {Ls : Array Slot} {z : Int32} {rest : List Value} (hret : meth.sig.returnType = some .int) (hd : decode c.code pc = .ok (.ireturn, 1))
    {Qf : Option Value → Heap → Prop} {C S : Nat} (hk : k ≤ C) (hs : n ≤ S) (hQ : Qf (some (.int z)) h) : own_Ends p.tables e below (own_P s n0 Qf C S) (T.setTop (mkF m pc Ls (.int z :: rest))) :=
  own_ret Y hx hlk hret hd rfl (Or.inl ⟨rfl, Or.inl rfl, _, rfl⟩) hk hs hQ
theorem own_retN (Y : own_S p l e R s m args below meth c n0 T h k n) (hx : p.tables.exec = Jvm.exec) (hlk : meth.locks = false) {pc : Nat} {Ls : Array Slot} {z : Int32} {t : FieldType} {rest : List Value} (hret : meth.sig.returnType = some t) (ht : t = .boolean ∨ t = .byte ∨ t = .char ∨ t = .short) (hd : decode c.code pc = .ok (.ireturn, 1))
    {Qf : Option Value → Heap → Prop} {C S : Nat} (hk : k ≤ C) (hs : n ≤ S) (hQ : Qf (some (.int (nar t z))) h) : own_Ends p.tables e below (own_P s n0 Qf C S) (T.setTop (mkF m pc Ls (.int z :: rest))) :=
  own_leave Y hlk (fun q => by rw [hret] at q; cases q) hk hs hQ fun _ _ X hr => retN X hx hret ht hd hr
theorem own_retJ (Y : own_S p l e R s m args below meth c n0 T h k n) (hx : p.tables.exec = Jvm.exec) (hlk : meth.locks = false) {pc : Nat} {Ls : Array Slot} {z : Int64} {rest : List Value} (hret : meth.sig.returnType = some .long) (hd : decode c.code pc = .ok (.lreturn, 1))
    {Qf : Option Value → Heap → Prop} {C S : Nat} (hk : k ≤ C) (hs : n ≤ S) (hQ : Qf (some (.long z)) h) : own_Ends p.tables e below (own_P s n0 Qf C S) (T.setTop (mkF m pc Ls (.long z :: rest))) :=
  own_ret Y hx hlk hret hd rfl (Or.inr (Or.inl ⟨rfl, rfl, _, rfl⟩)) hk hs hQ
theorem own_retA (Y : own_S p l e R s m args below meth c n0 T h k n) (hx : p.tables.exec = Jvm.exec) (hlk : meth.locks = false) {pc : Nat} {Ls : Array Slot} {w : Value} {t : FieldType} {rest : List Value} (hret : meth.sig.returnType = some t) (ht : t.isReference = true) (hw : w.isRef = true) (hn : narrow t w = w) (hd : decode c.code pc = .ok (.areturn, 1))
    {Qf : Option Value → Heap → Prop} {C S : Nat} (hk : k ≤ C) (hs : n ≤ S) (hQ : Qf (some w) h) : own_Ends p.tables e below (own_P s n0 Qf C S) (T.setTop (mkF m pc Ls (w :: rest))) :=
  own_ret Y hx hlk hret hd hn (Or.inr (Or.inr (Or.inr (Or.inr ⟨rfl, ht, hw⟩)))) hk hs hQ
theorem own_retV (Y : own_S p l e R s m args below meth c n0 T h k n) (hx : p.tables.exec = Jvm.exec) (hlk : meth.locks = false) {pc : Nat} {Ls : Array Slot} (hret : meth.sig.returnType = none) (hd : decode c.code pc = .ok (.return_, 1))
    {Qf : Option Value → Heap → Prop} {C S : Nat} (hk : k ≤ C) (hs : n ≤ S) (hQ : Qf none h) : own_Ends p.tables e below (own_P s n0 Qf C S) (T.setTop (mkF m pc Ls [])) :=
  own_leave Y hlk (fun _ => rfl) hk hs hQ fun _ _ X hr => X.returnOut hx hret hd hr
/-! fields -/
theorem own_getF (Y : own_S p l e R s m args below meth c n0 T h k n) (hx : p.tables.exec = Jvm.exec) (hZ : Z.Warmed39 s.vm) {own R0 O f d host : String} {index : Nat} (hown : s.vm.findClass own = some m.cls) (w : (Jvm.Cond.fieldLink own index R0 f d).before a0 Z = true ∨ (Jvm.Cond.fieldLinkNest own index R0 f d host).before a0 Z = true) (via : Via Z R0 O f d) {a : Addr} {v : Value} (F : Fld Z h a O f d v)
    {g : JFrame} (hg : g.method = m) {rest : List Value} (hs : g.stack = .ref a :: rest) (hd : decode c.code g.pc = .ok (.getfield index, 3)) (K : ∀ T', own_S p l e R s m args below meth c n0 T' h k n → own_Ends p.tables e below P (T'.setTop { g with pc := g.pc + 3, stack := v :: rest })) : own_Ends p.tables e below P (T.setTop g) := by
  obtain ⟨locs, X, e1, N⟩ := Y
  obtain ⟨T', X', e', st⟩ := getF X hx hZ hown w via e1 F hg hs hd
  exact own_st st (K T' ⟨locs, X', e', N⟩)
theorem own_putF (Y : own_S p l e R s m args below meth c n0 T h k n) (hx : p.tables.exec = Jvm.exec) (hZ : Z.Warmed39 s.vm) {own R0 O f d host C : String} {index kk : Nat} {ty : FieldType} (hown : s.vm.findClass own = some m.cls) (w : (Jvm.Cond.fieldLink own index R0 f d).before a0 Z = true ∨ (Jvm.Cond.fieldLinkNest own index R0 f d host).before a0 Z = true) (via : Via Z R0 O f d) {a : Addr} {v old : Value} (F : Fld Z h a O f d old) (E : Exa Z h a C)
    (L : (Jvm.Cond.lays C O f d).before a0 Z = true ∨ ((Jvm.Cond.laysFinal C O f d).before a0 Z = true ∧ own = O ∧ meth.name = "<init>")) (wi : (Jvm.Cond.instantiable C kk).before a0 Z = true) (ha : n0 ≤ a) (hty : parseFieldDescriptor d = some ty) (hn : narrow ty v = v) (hf : fits ty v = true) {g : JFrame} (hg : g.method = m) {rest : List Value} (hs : g.stack = v :: .ref a :: rest) (hd : decode c.code g.pc = .ok (.putfield index, 3))
    (K : ∀ T' h', own_S p l e R s m args below meth c n0 T' h' k n → Wr h h' a (Jvm.RoadKit.slotOf Z O f d) v → Fld Z h' a O f d v → own_Ends p.tables e below P (T'.setTop { g with pc := g.pc + 3, stack := rest })) : own_Ends p.tables e below P (T.setTop g) := by
  obtain ⟨locs, X, e1, N⟩ := Y
  obtain ⟨T', h', X', e', W, st⟩ := putF X hx hZ hown w via e1 F E L wi hty hn hf hg hs hd
  exact own_st st (K T' h' ⟨_, X', e', Fr.snoc X' N ha⟩ W (F.same W))
theorem own_putFN (Y : own_S p l e R s m args below meth c n0 T h k n) (hx : p.tables.exec = Jvm.exec) (hZ : Z.Warmed39 s.vm) {own R0 O f d C : String} {index kk : Nat} {ty : FieldType} (hown : s.vm.findClass own = some m.cls) (w : (Jvm.Cond.fieldLink own index R0 f d).before a0 Z = true) (via : Via Z R0 O f d) {a : Addr} {v v' old : Value} (F : Fld Z h a O f d old) (E : Exa Z h a C)
    (L : (Jvm.Cond.lays C O f d).before a0 Z = true ∨ ((Jvm.Cond.laysFinal C O f d).before a0 Z = true ∧ own = O ∧ meth.name = "<init>")) (wi : (Jvm.Cond.instantiable C kk).before a0 Z = true) (ha : n0 ≤ a) (hty : parseFieldDescriptor d = some ty) (hn : narrow ty v = v') (hf : fits ty v' = true) {g : JFrame} (hg : g.method = m) {rest : List Value} (hs : g.stack = v :: .ref a :: rest) (hd : decode c.code g.pc = .ok (.putfield index, 3))
    (K : ∀ T' h', own_S p l e R s m args below meth c n0 T' h' k n → Wr h h' a (Jvm.RoadKit.slotOf Z O f d) v' → Fld Z h' a O f d v' → own_Ends p.tables e below P (T'.setTop { g with pc := g.pc + 3, stack := rest })) : own_Ends p.tables e below P (T.setTop g) := by
  obtain ⟨locs, X, e1, N⟩ := Y
  obtain ⟨T', h', X', e', W, st⟩ := putFN X hx hZ hown w via e1 F E L wi hty hn hf hg hs hd
  exact own_st st (K T' h' ⟨_, X', e', Fr.snoc X' N ha⟩ W (F.same W))
theorem own_getS (Y : own_S p l e R s m args below meth c n0 T h k n) (hx : p.tables.exec = Jvm.exec) (hZ : Z.Warmed39 s.vm) {own R0 O f d host : String} {index : Nat} (hown : s.vm.findClass own = some m.cls) (w : (Jvm.Cond.fieldLink own index R0 f d).before a0 Z = true ∨ (Jvm.Cond.fieldLinkNest own index R0 f d host).before a0 Z = true) (via : Via Z R0 O f d) {v : Value} (F : Sta Z h O f d v)
    {g : JFrame} (hg : g.method = m) (hd : decode c.code g.pc = .ok (.getstatic index, 3)) (K : ∀ T', own_S p l e R s m args below meth c n0 T' h k n → own_Ends p.tables e below P (T'.setTop { g with pc := g.pc + 3, stack := v :: g.stack })) : own_Ends p.tables e below P (T.setTop g) := by
  obtain ⟨locs, X, e1, N⟩ := Y
  obtain ⟨T', X', e', st⟩ := getS2 X hx hZ hown w via e1 F hg hd
  exact own_st st (K T' ⟨locs, X', e', N⟩)
/-! new objects -/
theorem own_new (Y : own_S p l e R s m args below meth c n0 T h k n) (hx : p.tables.exec = Jvm.exec) (hZ : Z.Warmed39 s.vm) {own C : String} {index nn : Nat} (hown : s.vm.findClass own = some m.cls) (w : (Jvm.Cond.classLink own index C).before a0 Z = true) (wi : (Jvm.Cond.instantiable C nn).before a0 Z = true) (wz : (Jvm.Cond.initialized C).before a0 Z = true)
    {g : JFrame} (hg : g.method = m) (hd : decode c.code g.pc = .ok (.new index, 3)) (hc : k + 1 ≤ R.cells) (hl : n + nn ≤ R.slots)
    (K : ∀ T' h' b, b = h.size → own_S p l e R s m args below meth c n0 T' h' (k + 1) (n + nn) → Ext h h' → Exa Z h' b C → (∀ (O nm d : String) (ty : FieldType), Laid Z a0 C O nm d → parseFieldDescriptor d = some ty → Fld Z h' b O nm d (defaultValue ty)) →
      own_Ends p.tables e below P (T'.setTop { g with pc := g.pc + 3, stack := .ref b :: g.stack })) : own_Ends p.tables e below P (T.setTop g) := by
  obtain ⟨locs, X, e1, N⟩ := Y
  obtain ⟨T', h', X', e', E, A, D, -, st⟩ := newO X hx hZ hown w wi wz e1 hg hd hc hl
  exact own_st st (K T' h' _ rfl ⟨locs, X', e', N⟩ E A (fun _ _ _ _ q r => D q r))
theorem own_initO (Y : own_S p l e R s m args below meth c n0 T h k n) (hx : p.tables.exec = Jvm.exec) (hZ : Z.Warmed39 s.vm) {own : String} {idx : Nat} (hown : s.vm.findClass own = some m.cls) (w1 : (Jvm.Cond.methodLink own idx Lib.objectInit).before a0 Z = true) (w2 : (Jvm.Cond.instanceMethod Lib.objectInit).before a0 Z = true) (w3 : (Jvm.Cond.code Lib.objectInit ⟨#[0xb1]⟩ 1 none).before a0 Z = true)
    {g : JFrame} (hg : g.method = m) (hsize : g.locals.size = c.maxLocals) {a : Addr} {rest : List Value} (hs : g.stack = .ref a :: rest) (hd : decode c.code g.pc = .ok (.invokespecial idx, 3)) (hf : 1 ≤ R.frames) {W : Nat} (hW : 2 * g.monitorRoom + (rest.map fun v => v.category).sum ≤ W) (hl : W + 12 ≤ R.locals)
    (K : ∀ T', own_S p l e R s m args below meth c n0 T' h k n → own_Ends p.tables e below P (T'.setTop { g with pc := g.pc + 3, stack := rest })) : own_Ends p.tables e below P (T.setTop g) := by
  obtain ⟨locs, X, e1, N⟩ := Y
  obtain ⟨T', X', e', st⟩ := initO X hx hZ hown w1 w2 w3 e1 hg hsize hs hd hf hW hl
  exact own_st st (K T' ⟨locs, X', e', N⟩)
/-! arrays: the cell's slots are the list vs -/
def own_A (Z : State) (h : Heap) (a : Addr) (ty : FieldType) (vs : List Value) : Prop := ∃ c : Cell, Arr Z h a c ty ∧ c.slots.toList = vs ∧ vs.length < 2 ^ 31
theorem own_A.lt {a : Addr} {ty : FieldType} {vs : List Value} (A : own_A Z h a ty vs) : a < h.size := by obtain ⟨c, A, -⟩ := A; exact A.lt
theorem own_A.ext {h' : Heap} {a : Addr} {ty : FieldType} {vs : List Value} (A : own_A Z h a ty vs) (E : Ext h h') : own_A Z h' a ty vs := by obtain ⟨c, A, r⟩ := A; exact ⟨c, A.ext E, r⟩
theorem own_A.other {h' : Heap} {a b : Addr} {sl : Nat} {v : Value} {ty : FieldType} {vs : List Value} (A : own_A Z h a ty vs) (W : Wr h h' b sl v) (q : a ≠ b) : own_A Z h' a ty vs := by obtain ⟨c, A, r⟩ := A; exact ⟨c, A.other W q, r⟩
theorem own_A.keep {h' : Heap} {a : Addr} {ws : List Addr} {ty : FieldType} {vs : List Value} (A : own_A Z h a ty vs) (K : Keep h h' ws) (q : a ∉ ws) : own_A Z h' a ty vs := by obtain ⟨c, A, r⟩ := A; exact ⟨c, ⟨K.2.1 a c A.1 q, A.2⟩, r⟩
theorem own_sz {c : Cell} {vs : List Value} (q : c.slots.toList = vs) : c.slots.size = vs.length := by rw [← q]; simp
theorem own_in {c : Cell} {vs : List Value} {j : Int32} {i : Nat} (q : c.slots.toList = vs) (hj : ¬ j < 0) (hi : j.toNatClampNeg = i) (hl : i < vs.length) : ¬ (j < 0 ∨ c.slots.size ≤ j.toNatClampNeg) := by
  rw [own_sz q, hi]; intro z; rcases z with z | z
  · exact hj z
  · omega
theorem own_get {c : Cell} {vs : List Value} {j : Int32} {i : Nat} {v : Value} (q : c.slots.toList = vs) (hi : j.toNatClampNeg = i) (hv : vs[i]? = some v) : c.slots[j.toNatClampNeg]? = some v := by
  rw [hi, ← Array.getElem?_toList, q, hv]
theorem own_A.set {h' : Heap} {a : Addr} {ty : FieldType} {vs : List Value} {cl : Cell} {i : Nat} {v : Value} (A : Arr Z h a cl ty) (q : cl.slots.toList = vs) (hl : vs.length < 2 ^ 31) (W : Wr h h' a i v) : own_A Z h' a ty (vs.set i v) :=
  ⟨_, A.same W, by simp [Cell.setSlot, q], by simpa using hl⟩
theorem own_newP (Y : own_S p l e R s m args below meth c n0 T h k n) (hx : p.tables.exec = Jvm.exec) (hZ : Z.Warmed39 s.vm) {aty : ArrayType} (w : (Jvm.Cond.arrayClass (newarray.typeOf aty)).before a0 Z = true) {g : JFrame} (hg : g.method = m) (hd : decode c.code g.pc = .ok (.newarray aty, 2)) {z : Int32} {rest : List Value} (hs : g.stack = .int z :: rest)
    (hz : ¬ z < 0) {nz cap : Nat} (hn : z.toNatClampNeg = nz) (hcap : nz ≤ cap) (hb : cap * 8 ≤ 536870912) (hc : k + 1 ≤ R.cells) (hl : n + cap ≤ R.slots) {ty : FieldType} (hty : newarray.typeOf aty = ty)
    (K : ∀ T' h' b, b = h.size → own_S p l e R s m args below meth c n0 T' h' (k + 1) (n + cap) → Ext h h' → own_A Z h' b ty (List.replicate nz (defaultValue ty)) → own_Ends p.tables e below P (T'.setTop { g with pc := g.pc + 2, stack := .ref b :: rest })) : own_Ends p.tables e below P (T.setTop g) := by
  obtain ⟨locs, X, e1, N⟩ := Y
  subst hty
  obtain ⟨T', h', cA, X', e', E, A, st⟩ := newP X hx hZ w e1 hg hd hs hz (cap := cap) (by rw [hn]; exact hcap) hb hc hl
  refine own_st st (K T' h' _ rfl ⟨locs, X', e', N⟩ E ⟨_, A, ?_, ?_⟩)
  · simp [newA, hn]
  · simp; omega
theorem own_newR (Y : own_S p l e R s m args below meth c n0 T h k n) (hx : p.tables.exec = Jvm.exec) (hZ : Z.Warmed39 s.vm) {own C : String} {index : Nat} (hown : s.vm.findClass own = some m.cls) (w1 : (Jvm.Cond.classLink own index C).before a0 Z = true) (w2 : (Jvm.Cond.arrayOver (.object C)).before a0 Z = true) {g : JFrame} (hg : g.method = m) (hd : decode c.code g.pc = .ok (.anewarray index, 3)) {z : Int32} {rest : List Value} (hs : g.stack = .int z :: rest)
    (hz : ¬ z < 0) {nz cap : Nat} (hn : z.toNatClampNeg = nz) (hcap : nz ≤ cap) (hb : cap * 8 ≤ 536870912) (hc : k + 1 ≤ R.cells) (hl : n + cap ≤ R.slots)
    (K : ∀ T' h' b, b = h.size → own_S p l e R s m args below meth c n0 T' h' (k + 1) (n + cap) → Ext h h' → own_A Z h' b (.object C) (List.replicate nz .null) → own_Ends p.tables e below P (T'.setTop { g with pc := g.pc + 3, stack := .ref b :: rest })) : own_Ends p.tables e below P (T.setTop g) := by
  obtain ⟨locs, X, e1, N⟩ := Y
  obtain ⟨T', h', cA, X', e', E, A, O, st⟩ := newR X hx hZ hown w1 w2 e1 hg hd hs hz (cap := cap) (by rw [hn]; exact hcap) hb hc hl
  refine own_st st (K T' h' _ rfl ⟨locs, X', e', N⟩ E ⟨_, A, ?_, ?_⟩)
  · simp [newA, hn, defaultValue]
  · simp; omega
theorem own_mono (Y : own_S p l e R s m args below meth c n0 T h k n) {k' n' : Nat} (hk : k ≤ k') (hn : n ≤ n') : own_S p l e R s m args below meth c n0 T h k' n' := by
  obtain ⟨locs, X, r⟩ := Y
  exact ⟨locs, { X with same := X.same.mono hk hn }, r⟩
theorem own_stI (Y : own_S p l e R s m args below meth c n0 T h k n) (hx : p.tables.exec = Jvm.exec) (hZ : Z.Warmed39 s.vm) {a : Addr} {vs : List Value} (A : own_A Z h a .int vs) (ha : n0 ≤ a) {j x : Int32} {i : Nat} (hj : ¬ j < 0) (hi : j.toNatClampNeg = i) (hl : i < vs.length) {g : JFrame} (hg : g.method = m) {rest : List Value} (hs : g.stack = .int x :: .int j :: .ref a :: rest) (hd : decode c.code g.pc = .ok (.iastore, 1))
    (K : ∀ T' h', own_S p l e R s m args below meth c n0 T' h' k n → Wr h h' a i (.int x) → own_A Z h' a .int (vs.set i (.int x)) → own_Ends p.tables e below P (T'.setTop { g with pc := g.pc + 1, stack := rest })) : own_Ends p.tables e below P (T.setTop g) := by
  obtain ⟨locs, X, e1, N⟩ := Y
  obtain ⟨cl, A, q, r⟩ := A
  obtain ⟨T', h', X', e', W, st⟩ := stI X hx hZ e1 A (own_in q hj hi hl) hg hs hd
  have W' := W; rw [hi] at W'
  exact own_st st (K T' h' ⟨_, X', e', Fr.snoc X' N ha⟩ W' (own_A.set A q r W'))
theorem own_stJ (Y : own_S p l e R s m args below meth c n0 T h k n) (hx : p.tables.exec = Jvm.exec) (hZ : Z.Warmed39 s.vm) {a : Addr} {vs : List Value} (A : own_A Z h a .long vs) (ha : n0 ≤ a) {j : Int32} {x : Int64} {i : Nat} (hj : ¬ j < 0) (hi : j.toNatClampNeg = i) (hl : i < vs.length) {g : JFrame} (hg : g.method = m) {rest : List Value} (hs : g.stack = .long x :: .int j :: .ref a :: rest) (hd : decode c.code g.pc = .ok (.lastore, 1))
    (K : ∀ T' h', own_S p l e R s m args below meth c n0 T' h' k n → Wr h h' a i (.long x) → own_A Z h' a .long (vs.set i (.long x)) → own_Ends p.tables e below P (T'.setTop { g with pc := g.pc + 1, stack := rest })) : own_Ends p.tables e below P (T.setTop g) := by
  obtain ⟨locs, X, e1, N⟩ := Y
  obtain ⟨cl, A, q, r⟩ := A
  obtain ⟨T', h', X', e', W, st⟩ := stJ X hx hZ e1 A (own_in q hj hi hl) hg hs hd
  have W' := W; rw [hi] at W'
  exact own_st st (K T' h' ⟨_, X', e', Fr.snoc X' N ha⟩ W' (own_A.set A q r W'))
theorem own_stB (Y : own_S p l e R s m args below meth c n0 T h k n) (hx : p.tables.exec = Jvm.exec) (hZ : Z.Warmed39 s.vm) {a : Addr} {vs : List Value} (A : own_A Z h a .byte vs) (ha : n0 ≤ a) {j x : Int32} {i : Nat} (hj : ¬ j < 0) (hi : j.toNatClampNeg = i) (hl : i < vs.length) {g : JFrame} (hg : g.method = m) {rest : List Value} (hs : g.stack = .int x :: .int j :: .ref a :: rest) (hd : decode c.code g.pc = .ok (.bastore, 1))
    (K : ∀ T' h', own_S p l e R s m args below meth c n0 T' h' k n → Wr h h' a i (.int x.toInt8.toInt32) → own_A Z h' a .byte (vs.set i (.int x.toInt8.toInt32)) → own_Ends p.tables e below P (T'.setTop { g with pc := g.pc + 1, stack := rest })) : own_Ends p.tables e below P (T.setTop g) := by
  obtain ⟨locs, X, e1, N⟩ := Y
  obtain ⟨cl, A, q, r⟩ := A
  obtain ⟨T', h', X', e', W, st⟩ := stB X hx hZ e1 A (own_in q hj hi hl) hg hs hd
  have W' := W; rw [hi] at W'
  exact own_st st (K T' h' ⟨_, X', e', Fr.snoc X' N ha⟩ W' (own_A.set A q r W'))
theorem own_stC (Y : own_S p l e R s m args below meth c n0 T h k n) (hx : p.tables.exec = Jvm.exec) (hZ : Z.Warmed39 s.vm) {a : Addr} {vs : List Value} (A : own_A Z h a .char vs) (ha : n0 ≤ a) {j x : Int32} {i : Nat} (hj : ¬ j < 0) (hi : j.toNatClampNeg = i) (hl : i < vs.length) {g : JFrame} (hg : g.method = m) {rest : List Value} (hs : g.stack = .int x :: .int j :: .ref a :: rest) (hd : decode c.code g.pc = .ok (.castore, 1))
    (K : ∀ T' h', own_S p l e R s m args below meth c n0 T' h' k n → Wr h h' a i (.int x.toUInt32.toUInt16.toUInt32.toInt32) → own_A Z h' a .char (vs.set i (.int x.toUInt32.toUInt16.toUInt32.toInt32)) → own_Ends p.tables e below P (T'.setTop { g with pc := g.pc + 1, stack := rest })) : own_Ends p.tables e below P (T.setTop g) := by
  obtain ⟨locs, X, e1, N⟩ := Y
  obtain ⟨cl, A, q, r⟩ := A
  obtain ⟨T', h', X', e', W, st⟩ := stC X hx hZ e1 A (own_in q hj hi hl) hg hs hd
  have W' := W; rw [hi] at W'
  exact own_st st (K T' h' ⟨_, X', e', Fr.snoc X' N ha⟩ W' (own_A.set A q r W'))
theorem own_len (Y : own_S p l e R s m args below meth c n0 T h k n) (hx : p.tables.exec = Jvm.exec) (hZ : Z.Warmed39 s.vm) {a : Addr} {ty : FieldType} {vs : List Value} (A : own_A Z h a ty vs) {z : Int32} (hz : vs.length.toInt32 = z) {g : JFrame} (hg : g.method = m) {rest : List Value} (hs : g.stack = .ref a :: rest) (hd : decode c.code g.pc = .ok (.arraylength, 1))
    (K : own_Ends p.tables e below P (T.setTop { g with pc := g.pc + 1, stack := .int z :: rest })) : own_Ends p.tables e below P (T.setTop g) := by
  obtain ⟨locs, X, e1, N⟩ := Y
  obtain ⟨cl, A, q, r⟩ := A
  refine own_st (fun t => X.arraylength hx (by rw [e1]; exact A.1) (State.isArrayOf_alike hZ.alike A.2.1) hg hs hd t) ?_
  rw [own_sz q, hz]; exact K
theorem own_ldI (Y : own_S p l e R s m args below meth c n0 T h k n) (hx : p.tables.exec = Jvm.exec) (hZ : Z.Warmed39 s.vm) {a : Addr} {vs : List Value} (A : own_A Z h a .int vs) {j : Int32} {i : Nat} (hj : ¬ j < 0) (hi : j.toNatClampNeg = i) (hl : i < vs.length) {v : Value} (hv : vs[i]? = some v) {g : JFrame} (hg : g.method = m) {rest : List Value} (hs : g.stack = .int j :: .ref a :: rest) (hd : decode c.code g.pc = .ok (.iaload, 1))
    (K : own_Ends p.tables e below P (T.setTop { g with pc := g.pc + 1, stack := v :: rest })) : own_Ends p.tables e below P (T.setTop g) := by
  obtain ⟨locs, X, e1, N⟩ := Y
  obtain ⟨cl, A, q, r⟩ := A
  exact own_st (fun t => X.iaload hx (by rw [e1]; exact A.1) (State.isArrayOf_alike hZ.alike A.2.1) A.2.2 (own_in q hj hi hl) (own_get q hi hv) hg hs hd t) K
theorem own_ldB (Y : own_S p l e R s m args below meth c n0 T h k n) (hx : p.tables.exec = Jvm.exec) (hZ : Z.Warmed39 s.vm) {a : Addr} {vs : List Value} (A : own_A Z h a .byte vs) {j : Int32} {i : Nat} (hj : ¬ j < 0) (hi : j.toNatClampNeg = i) (hl : i < vs.length) {v : Value} (hv : vs[i]? = some v) {g : JFrame} (hg : g.method = m) {rest : List Value} (hs : g.stack = .int j :: .ref a :: rest) (hd : decode c.code g.pc = .ok (.baload, 1))
    (K : own_Ends p.tables e below P (T.setTop { g with pc := g.pc + 1, stack := v :: rest })) : own_Ends p.tables e below P (T.setTop g) := by
  obtain ⟨locs, X, e1, N⟩ := Y
  obtain ⟨cl, A, q, r⟩ := A
  exact own_st (fun t => X.baloadBytes hx (by rw [e1]; exact A.1) (State.isArrayOf_alike hZ.alike A.2.1) A.2.2 (own_in q hj hi hl) (own_get q hi hv) hg hs hd t) K
theorem own_ldC (Y : own_S p l e R s m args below meth c n0 T h k n) (hx : p.tables.exec = Jvm.exec) (hZ : Z.Warmed39 s.vm) {a : Addr} {vs : List Value} (A : own_A Z h a .char vs) {j : Int32} {i : Nat} (hj : ¬ j < 0) (hi : j.toNatClampNeg = i) (hl : i < vs.length) {v : Value} (hv : vs[i]? = some v) {g : JFrame} (hg : g.method = m) {rest : List Value} (hs : g.stack = .int j :: .ref a :: rest) (hd : decode c.code g.pc = .ok (.caload, 1))
    (K : own_Ends p.tables e below P (T.setTop { g with pc := g.pc + 1, stack := v :: rest })) : own_Ends p.tables e below P (T.setTop g) := by
  obtain ⟨locs, X, e1, N⟩ := Y
  obtain ⟨cl, A, q, r⟩ := A
  exact own_st (fun t => X.caload hx (by rw [e1]; exact A.1) (State.isArrayOf_alike hZ.alike A.2.1) A.2.2 (own_in q hj hi hl) (own_get q hi hv) hg hs hd t) K
theorem own_ldJ (Y : own_S p l e R s m args below meth c n0 T h k n) (hx : p.tables.exec = Jvm.exec) (hZ : Z.Warmed39 s.vm) {a : Addr} {vs : List Value} (A : own_A Z h a .long vs) {j : Int32} {i : Nat} (hj : ¬ j < 0) (hi : j.toNatClampNeg = i) (hl : i < vs.length) {v : Value} (hv : vs[i]? = some v) {g : JFrame} (hg : g.method = m) {rest : List Value} (hs : g.stack = .int j :: .ref a :: rest) (hd : decode c.code g.pc = .ok (.laload, 1))
    (K : own_Ends p.tables e below P (T.setTop { g with pc := g.pc + 1, stack := v :: rest })) : own_Ends p.tables e below P (T.setTop g) := by
  obtain ⟨locs, X, e1, N⟩ := Y
  obtain ⟨cl, A, q, r⟩ := A
  exact own_st (fun t => X.laload hx (by rw [e1]; exact A.1) (State.isArrayOf_alike hZ.alike A.2.1) A.2.2 (own_in q hj hi hl) (own_get q hi hv) hg hs hd t) K
/-! constants -/
theorem own_ldcI (Y : own_S p l e R s m args below meth c n0 T h k n) (hx : p.tables.exec = Jvm.exec) (hZ : Z.Warmed39 s.vm) {own : String} {index : Nat} {v : Int32} (hown : s.vm.findClass own = some m.cls) (w : (Jvm.Cond.constant own index v).before a0 Z = true) {g : JFrame} (hg : g.method = m) (hd : decode c.code g.pc = .ok (.ldc index, 2))
    (K : own_Ends p.tables e below P (T.setTop { g with pc := g.pc + 2, stack := .int v :: g.stack })) : own_Ends p.tables e below P (T.setTop g) := by
  obtain ⟨locs, X, e1, N⟩ := Y
  exact own_st (X.ldcInt hx hown (mvT hZ w) hg hd) K
theorem own_ldcJ (Y : own_S p l e R s m args below meth c n0 T h k n) (hx : p.tables.exec = Jvm.exec) (hZ : Z.Warmed39 s.vm) {own : String} {index : Nat} {v : Int64} (hown : s.vm.findClass own = some m.cls) (w : (Jvm.Cond.constantLong own index v).before a0 Z = true) {g : JFrame} (hg : g.method = m) (hd : decode c.code g.pc = .ok (.ldc2_w index, 3))
    (K : own_Ends p.tables e below P (T.setTop { g with pc := g.pc + 3, stack := .long v :: g.stack })) : own_Ends p.tables e below P (T.setTop g) := by
  obtain ⟨locs, X, e1, N⟩ := Y
  exact own_st (X.ldc2Long hx hown (mvT hZ w) hg hd) K
theorem own_irem (Y : own_S p l e R s m args below meth c n0 T h k n) (hx : p.tables.exec = Jvm.exec) {g : JFrame} (hg : g.method = m) {x y : Int32} {rest : List Value} (hd : decode c.code g.pc = .ok (.irem, 1)) (hs : g.stack = .int y :: .int x :: rest) (hy : y ≠ 0)
    (K : own_Ends p.tables e below P (T.setTop { g with pc := g.pc + 1, stack := .int (x % y) :: rest })) : own_Ends p.tables e below P (T.setTop g) := by
  obtain ⟨locs, X, e1, N⟩ := Y
  exact own_st (fun t => iremM X hx hg hd hs hy) K
/-! calls by contract -/
theorem own_callS (Y : own_S p l e R s m args below meth c n0 T h k n) (hx : p.tables.exec = Jvm.exec) (hZ : Z.Warmed39 s.vm) {own : String} {index : Nat} {y : MethodName} {bytes : ByteArray} {maxL : Nat} {ret : Option FieldType} (hown : s.vm.findClass own = some m.cls) (wl : (Jvm.Cond.methodLink own index y).before a0 Z = true) (wst : (Jvm.Cond.static y).before a0 Z = true) (wi : (Jvm.Cond.initialized y.cls).before a0 Z = true) (wc : (Jvm.Cond.code y bytes maxL ret).before a0 Z = true)
    (hy : y.cls ≠ "java/lang/invoke/MethodHandle" ∧ y.cls ≠ "java/lang/invoke/VarHandle") {rm : Room} {argsL rest : List Value} {Qf : Option Value → Heap → Prop} (hM : own_Con l Z y bytes maxL ret [] rm argsL.toArray h n0 Qf) {W : Nat} (hfr : rm.frames + 1 ≤ R.frames) (hlo : W + (maxL + 11) + rm.locals ≤ R.locals) (hc : k + rm.cells ≤ R.cells) (hsl : n + rm.slots ≤ R.slots)
    {g : JFrame} (hg : g.method = m) (hsize : g.locals.size = c.maxLocals) (hlen : ∀ sig, parseMethodDescriptor y.desc = some sig → argsL.length = sig.parameters.length) (hs : g.stack = argsL.reverse ++ rest) (hW : 2 * g.monitorRoom + (rest.map fun v => v.category).sum ≤ W) (hd : decode c.code g.pc = .ok (.invokestatic index, 3))
    (K : ∀ T' h' v, own_S p l e R s m args below meth c n0 T' h' (k + rm.cells) (n + rm.slots) → Qf v h' → own_Ends p.tables e below P (T'.setTop { g with pc := g.pc + 3, stack := v.toList ++ rest })) : own_Ends p.tables e below P (T.setTop g) := by
  obtain ⟨locs, X, e1, N⟩ := Y
  obtain ⟨v, vm1, ⟨T', L', k', n'⟩, -, X', ⟨L, hQ, l1, y1, z1⟩, st⟩ := Jvm.LawKit.callS X hx hown (mvT hZ wl) (mvT hZ wst) (mvT hZ wi) (mvT hZ wc) hy (backOf (W := W) (Q := fun v h L => Fr n0 L ∧ Qf v h) hM hZ wc wi hfr hlo) hg hsize hlen hs hW hd (fun _ _ => ⟨rfl, e1, hc, hsl⟩)
  dsimp only [Pt.U, Pt.locs, Pt.cells, Pt.slots] at X' l1 y1 z1 st hQ
  subst l1 y1 z1
  exact own_st st (K T' _ v ⟨_, X', rfl, Fr.app N hQ.1⟩ hQ.2)
theorem own_callN (Y : own_S p l e R s m args below meth c n0 T h k n) (hx : p.tables.exec = Jvm.exec) (hZ : Z.Warmed39 s.vm) {own : String} {index : Nat} {y : MethodName} {bytes : ByteArray} {maxL : Nat} (hy1 : y.name = "<init>") (hown : s.vm.findClass own = some m.cls) (wl : (Jvm.Cond.methodLink own index y).before a0 Z = true) (win : (Jvm.Cond.instanceMethod y).before a0 Z = true) (wi : (Jvm.Cond.initialized y.cls).before a0 Z = true) (wc : (Jvm.Cond.code y bytes maxL none).before a0 Z = true)
    (hy : y.cls ≠ "java/lang/invoke/MethodHandle" ∧ y.cls ≠ "java/lang/invoke/VarHandle") {rm : Room} {a : Addr} {argsL rest : List Value} {Qf : Option Value → Heap → Prop} (hM : own_Con l Z y bytes maxL none [] rm (.ref a :: argsL).toArray h n0 Qf) {W : Nat} (hfr : rm.frames + 1 ≤ R.frames) (hlo : W + (maxL + 11) + rm.locals ≤ R.locals) (hc : k + rm.cells ≤ R.cells) (hsl : n + rm.slots ≤ R.slots)
    {g : JFrame} (hg : g.method = m) (hsize : g.locals.size = c.maxLocals) (hlen : ∀ sig, parseMethodDescriptor y.desc = some sig → argsL.length = sig.parameters.length) (hs : g.stack = argsL.reverse ++ .ref a :: rest) (hW : 2 * g.monitorRoom + (rest.map fun v => v.category).sum ≤ W) (hd : decode c.code g.pc = .ok (.invokespecial index, 3))
    (K : ∀ T' h' v, own_S p l e R s m args below meth c n0 T' h' (k + rm.cells) (n + rm.slots) → Qf v h' → own_Ends p.tables e below P (T'.setTop { g with pc := g.pc + 3, stack := v.toList ++ rest })) : own_Ends p.tables e below P (T.setTop g) := by
  obtain ⟨locs, X, e1, N⟩ := Y
  obtain ⟨v, vm1, ⟨T', L', k', n'⟩, -, X', ⟨L, hQ, l1, y1, z1⟩, st⟩ := X.specialBack hx hy1 hown (mvT hZ wl) (mvT hZ win) (mvT hZ wc) hy (backOf (W := W) (Q := fun v h L => Fr n0 L ∧ Qf v h) hM hZ wc wi hfr hlo) hg hsize (Steps.refl _) hlen hs hW hd (fun _ _ => ⟨rfl, e1, hc, hsl⟩)
  dsimp only [Pt.U, Pt.locs, Pt.cells, Pt.slots] at X' l1 y1 z1 st hQ
  subst l1 y1 z1
  exact own_st (fun t q => st.trans q) (K T' _ v ⟨_, X', rfl, Fr.app N hQ.1⟩ hQ.2)
theorem own_callV (Y : own_S p l e R s m args below meth c n0 T h k n) (hx : p.tables.exec = Jvm.exec) (hZ : Z.Warmed39 s.vm) {own C : String} {index : Nat} {y z : MethodName} {bytes : ByteArray} {maxL : Nat} {ret : Option FieldType} (hown : s.vm.findClass own = some m.cls) (wl : (Jvm.Cond.methodLink own index y).before a0 Z = true) (wd : (Jvm.Cond.declares y).before a0 Z = true) (hnf : NotFace s y) (wse : (Jvm.Cond.selects C y z).before a0 Z = true) (win : (Jvm.Cond.instanceMethod z).before a0 Z = true) (wi : (Jvm.Cond.initialized z.cls).before a0 Z = true) (wc : (Jvm.Cond.code z bytes maxL ret).before a0 Z = true)
    (hy : y.cls ≠ "java/lang/invoke/MethodHandle" ∧ y.cls ≠ "java/lang/invoke/VarHandle") {rm : Room} {a : Addr} (E : Exa Z h a C) {argsL rest : List Value} {Qf : Option Value → Heap → Prop} (hM : own_Con l Z z bytes maxL ret [] rm (.ref a :: argsL).toArray h n0 Qf) {W : Nat} (hfr : rm.frames + 1 ≤ R.frames) (hlo : W + (maxL + 11) + rm.locals ≤ R.locals) (hc : k + rm.cells ≤ R.cells) (hsl : n + rm.slots ≤ R.slots)
    {g : JFrame} (hg : g.method = m) (hsize : g.locals.size = c.maxLocals) (hlen : ∀ sig, parseMethodDescriptor y.desc = some sig → argsL.length = sig.parameters.length) (hs : g.stack = argsL.reverse ++ .ref a :: rest) (hW : 2 * g.monitorRoom + (rest.map fun v => v.category).sum ≤ W) (hd : decode c.code g.pc = .ok (.invokevirtual index, 3))
    (K : ∀ T' h' v, own_S p l e R s m args below meth c n0 T' h' (k + rm.cells) (n + rm.slots) → Qf v h' → own_Ends p.tables e below P (T'.setTop { g with pc := g.pc + 3, stack := v.toList ++ rest })) : own_Ends p.tables e below P (T.setTop g) := by
  obtain ⟨locs, X, e1, N⟩ := Y
  obtain ⟨cq, kq, qa, qb, qc⟩ := isOf hZ e1 E
  obtain ⟨v, vm1, ⟨T', L', k', n'⟩, -, X', ⟨L, hQ, l1, y1, z1⟩, st⟩ := X.virtualBack hx hown (mvT hZ wl) (mvT hZ wd) hnf (mvT hZ wse) (mvT hZ win) hy (backOf (W := W) (Q := fun v h L => Fr n0 L ∧ Qf v h) hM hZ wc wi hfr hlo) qa qc hg hsize (Steps.refl _) hlen hs hW hd (fun _ _ => ⟨rfl, e1, hc, hsl⟩)
  dsimp only [Pt.U, Pt.locs, Pt.cells, Pt.slots] at X' l1 y1 z1 st hQ
  subst l1 y1 z1
  exact own_st (fun t q => st.trans q) (K T' _ v ⟨_, X', rfl, Fr.app N hQ.1⟩ hQ.2)
theorem own_callU (Y : own_S p l e R s m args below meth c n0 T h k n) (hx : p.tables.exec = Jvm.exec) (hZ : Z.Warmed39 s.vm) {own C owner : String} {index : Nat} {y z : MethodName} {bytes : ByteArray} {maxL : Nat} {ret : Option FieldType} (hown : s.vm.findClass own = some m.cls) (wl : (Jvm.Cond.methodLink own index y).before a0 Z = true) (wsm : (Jvm.Cond.sameMethod y.cls owner y.name y.desc).before a0 Z = true) (wd : (Jvm.Cond.declares ⟨owner, y.name, y.desc⟩).before a0 Z = true) (wse : (Jvm.Cond.selects C y z).before a0 Z = true) (win : (Jvm.Cond.instanceMethod z).before a0 Z = true) (wi : (Jvm.Cond.initialized z.cls).before a0 Z = true) (wc : (Jvm.Cond.code z bytes maxL ret).before a0 Z = true)
    (hy : owner ≠ "java/lang/invoke/MethodHandle" ∧ owner ≠ "java/lang/invoke/VarHandle") {rm : Room} {a : Addr} (E : Exa Z h a C) {argsL rest : List Value} {Qf : Option Value → Heap → Prop} (hM : own_Con l Z z bytes maxL ret [] rm (.ref a :: argsL).toArray h n0 Qf) {W : Nat} (hfr : rm.frames + 1 ≤ R.frames) (hlo : W + (maxL + 11) + rm.locals ≤ R.locals) (hc : k + rm.cells ≤ R.cells) (hsl : n + rm.slots ≤ R.slots)
    {g : JFrame} (hg : g.method = m) (hsize : g.locals.size = c.maxLocals) (hlen : ∀ sig, parseMethodDescriptor y.desc = some sig → argsL.length = sig.parameters.length) (hs : g.stack = argsL.reverse ++ .ref a :: rest) (hW : 2 * g.monitorRoom + (rest.map fun v => v.category).sum ≤ W) (hd : decode c.code g.pc = .ok (.invokevirtual index, 3))
    (K : ∀ T' h' v, own_S p l e R s m args below meth c n0 T' h' (k + rm.cells) (n + rm.slots) → Qf v h' → own_Ends p.tables e below P (T'.setTop { g with pc := g.pc + 3, stack := v.toList ++ rest })) : own_Ends p.tables e below P (T.setTop g) := by
  obtain ⟨locs, X, e1, N⟩ := Y
  obtain ⟨cq, kq, qa, qb, qc⟩ := isOf hZ e1 E
  obtain ⟨v, vm1, ⟨T', L', k', n'⟩, -, X', ⟨L, hQ, l1, y1, z1⟩, st⟩ := X.virtualBackUp hx hown (mvT hZ wl) (mvT hZ wsm) (mvT hZ wd) hy (mvT hZ wse) (mvT hZ win) (backOf (W := W) (Q := fun v h L => Fr n0 L ∧ Qf v h) hM hZ wc wi hfr hlo) qa qc hg hsize (Steps.refl _) hlen hs hW hd (fun _ _ => ⟨rfl, e1, hc, hsl⟩)
  dsimp only [Pt.U, Pt.locs, Pt.cells, Pt.slots] at X' l1 y1 z1 st hQ
  subst l1 y1 z1
  exact own_st (fun t q => st.trans q) (K T' _ v ⟨_, X', rfl, Fr.app N hQ.1⟩ hQ.2)
theorem own_callP (Y : own_S p l e R s m args below meth c n0 T h k n) (hx : p.tables.exec = Jvm.exec) (hZ : Z.Warmed39 s.vm) {own C : String} {index : Nat} {y : MethodName} {bytes : ByteArray} {maxL : Nat} {ret : Option FieldType} (hown : s.vm.findClass own = some m.cls) (wl : (Jvm.Cond.methodLink own index y).before a0 Z = true) {nn : Nat} (win : (Jvm.Cond.instanceMethod y).before a0 Z = true) (wn : (Jvm.Cond.instantiable y.cls nn).before a0 Z = true) (wp : (Jvm.Cond.privateMethod y).before a0 Z = true) (wi : (Jvm.Cond.initialized y.cls).before a0 Z = true) (wc : (Jvm.Cond.code y bytes maxL ret).before a0 Z = true)
    (hy : y.cls ≠ "java/lang/invoke/MethodHandle" ∧ y.cls ≠ "java/lang/invoke/VarHandle") {rm : Room} {a : Addr} (E : Exa Z h a C) {argsL rest : List Value} {Qf : Option Value → Heap → Prop} (hM : own_Con l Z y bytes maxL ret [] rm (.ref a :: argsL).toArray h n0 Qf) {W : Nat} (hfr : rm.frames + 1 ≤ R.frames) (hlo : W + (maxL + 11) + rm.locals ≤ R.locals) (hc : k + rm.cells ≤ R.cells) (hsl : n + rm.slots ≤ R.slots)
    {g : JFrame} (hg : g.method = m) (hsize : g.locals.size = c.maxLocals) (hlen : ∀ sig, parseMethodDescriptor y.desc = some sig → argsL.length = sig.parameters.length) (hs : g.stack = argsL.reverse ++ .ref a :: rest) (hW : 2 * g.monitorRoom + (rest.map fun v => v.category).sum ≤ W) (hd : decode c.code g.pc = .ok (.invokevirtual index, 3))
    (K : ∀ T' h' v, own_S p l e R s m args below meth c n0 T' h' (k + rm.cells) (n + rm.slots) → Qf v h' → own_Ends p.tables e below P (T'.setTop { g with pc := g.pc + 3, stack := v.toList ++ rest })) : own_Ends p.tables e below P (T.setTop g) := by
  obtain ⟨locs, X, e1, N⟩ := Y
  obtain ⟨cell, q, q'⟩ := E.cell
  have wn' : (Jvm.Cond.instantiable y.cls nn).before #[] s = true := mvT hZ wn
  obtain ⟨ci, ki, hi1, hi2, -, hi4, -⟩ := Cond.instantiable_spec wn'
  have wse : (Jvm.Cond.selects y.cls y y).before args s = true := selects_self_of_private hi1 hi2 (by simpa using (Bool.or_eq_false_iff.mp hi4).1) (Cond.privateMethod_at (mvP hZ wp (args := #[]))) (mvT hZ win) hy
  obtain ⟨v, vm1, ⟨T', L', k', n'⟩, -, X', ⟨L, hQ, l1, y1, z1⟩, st⟩ := X.privateBack hx hown (mvT hZ wl) (mvT hZ win) wse (Cond.privateMethod_at (mvP hZ wp (args := #[]))) (mvT hZ wc) hy (backOf (W := W) (Q := fun v h L => Fr n0 L ∧ Qf v h) hM hZ wc wi hfr hlo) hg hsize (Steps.refl _) (by rw [e1]; exact q) q' hlen hs hW hd (fun _ _ => ⟨rfl, e1, hc, hsl⟩)
  dsimp only [Pt.U, Pt.locs, Pt.cells, Pt.slots] at X' l1 y1 z1 st hQ
  subst l1 y1 z1
  exact own_st (fun t q => st.trans q) (K T' _ v ⟨_, X', rfl, Fr.app N hQ.1⟩ hQ.2)
end OwnLayer
section OwnNums
def own_b (b : Bool) : Int32 := if b then 1 else 0
theorem own_b_t {b : Bool} (h : b = true) : own_b b = 1 := by subst h; rfl
theorem own_b_f {b : Bool} (h : b = false) : own_b b = 0 := by subst h; rfl
theorem own_b_0 (b : Bool) : own_b b = 0 ↔ b = false := by cases b <;> simp [own_b]
theorem own_b_n (b : Bool) : nar .boolean (own_b b) = own_b b := by cases b <;> rfl
theorem own_b_inj {a b : Bool} : own_b a = own_b b ↔ a = b := by cases a <;> cases b <;> simp [own_b]
theorem own_idx {j : Int32} {n : Nat} (h0 : 0 ≤ j.toInt) (h1 : j.toInt < (n : Int)) : ¬ j < 0 ∧ j.toNatClampNeg < n := by
  refine ⟨?_, ?_⟩
  · rw [Int32.lt_iff_toInt_lt]; show ¬ j.toInt < 0; omega
  · show j.toInt.toNat < n; omega
theorem own_ints {xs : List Int32} {i : Nat} (h : i < xs.length) : ∃ d, (xs.map Value.int)[i]? = some (.int d) ∧ d = xs[i] := ⟨xs[i], by simp [h], rfl⟩
theorem own_longs {xs : List Int64} {i : Nat} (h : i < xs.length) : ∃ d, (xs.map Value.long)[i]? = some (.long d) ∧ d = xs[i] := ⟨xs[i], by simp [h], rfl⟩
/-- p i, p (i + 1), .., k of them, all hold -/
def own_all (p : Nat → Bool) : Nat → Nat → Bool
  | _, 0 => true
  | i, k + 1 => p i && own_all p (i + 1) k
def own_g (xs : List Int32) (i : Nat) : Int32 := xs.getD i 0
theorem own_mget {xs : List Int32} {i : Nat} (h : i < (xs.map Value.int).length) : (xs.map Value.int)[i]? = some (.int (own_g xs i)) := by
  have h' : i < xs.length := by simpa using h
  simp [h', own_g]
theorem own_mlen {xs : List Int32} {i : Nat} (h : i < xs.length) : i < (xs.map Value.int).length := by simpa using h
theorem own_nat {j : Int32} {i : Nat} (h : j.toInt = (i : Int)) : ¬ j < 0 ∧ j.toNatClampNeg = i := by
  refine ⟨?_, ?_⟩
  · rw [Int32.lt_iff_toInt_lt]; show ¬ j.toInt < 0; omega
  · show j.toInt.toNat = i; omega
theorem own_inc {j : Int32} {i : Nat} (h : j.toInt = (i : Int)) (hi : i + 1 < 2147483648) : (j + 1).toInt = ((i + 1 : Nat) : Int) := by
  have := c_iadd j 1
  have h1 : (1 : Int32).toInt = 1 := rfl
  have := rng32 (j + 1)
  omega
theorem own_lt {x y : Int32} : x < y ↔ x.toInt < y.toInt := Int32.lt_iff_toInt_lt
theorem own_eq {x y : Int32} : x = y ↔ x.toInt = y.toInt := Int32.toInt_inj.symm
theorem own_tolen {ys : List Int32} {z : Int32} (h : z.toInt = (ys.length : Int)) : (ys.map Value.int).length.toInt32 = z := by
  have q := rng32 z
  have e : (ys.map Value.int).length = ys.length := by simp
  rw [own_eq, len_toInt (by rw [e]; omega), e, h]
theorem own_add {x y : Int32} {a b : Nat} (h1 : x.toInt = (a : Int)) (h2 : y.toInt = (b : Int)) (hi : a + b < 2147483648) : (x + y).toInt = ((a + b : Nat) : Int) := by
  have := c_iadd x y
  have := rng32 (x + y)
  omega
theorem own_sub {x y : Int32} {a b : Nat} (h1 : x.toInt = (a : Int)) (h2 : y.toInt = (b : Int)) : (x - y).toInt = (a : Int) - (b : Int) := by
  have := c_isub x y
  have := rng32 (x - y)
  have := rng32 x
  have := rng32 y
  omega
end OwnNums
section OwnStart
theorem own_fldI {args : Array Value} {s : State} {t : Term} {C f d : String} {z : Int32} {a : Addr} (ev : t.eval args s none [] s = some (.ref a)) (h : (Jvm.Cond.eq (Jvm.Term.field t C f d) (Jvm.Term.int z)).value args s none s [] = some true) : Fld s s.heap a C f d (.int z) := by
  obtain ⟨x, y, h1, h2, -, -⟩ := cmp_v (Or.inl h)
  have e1 : (Term.field t C f d).eval args s none [] s = s.fieldOf? a C f d := fld_at ev
  have h3 : s.fieldOf? a C f d = some x := e1.symm.trans h1
  have hy : y = .int z := (Option.some.inj h2).symm
  subst hy
  cases x <;> simp [Cond.value, h1, h2] at h
  subst h
  exact Fld.start h3
theorem own_static {args : Array Value} {s : State} {C f d K : String} (h : (Jvm.Cond.exactly (Jvm.Term.static C f d) K).value args s none s [] = some true) (w1 : (Jvm.Cond.initialized C).before args s = true) (w2 : (Jvm.Cond.laysStatic C f d).before args s = true) : ∃ a, (Jvm.Term.static C f d).eval args s none [] s = some (.ref a) ∧ Sta s s.heap C f d (.ref a) ∧ Exa s s.heap a K := by
  obtain ⟨a, ev⟩ := exa_v h
  exact ⟨a, ev, Sta.start ev (Or.inr ⟨w1, w2⟩), Exa.start ev h⟩
end OwnStart
def own_e (n : Int) : Int32 := if n = 90 then 91 else if n = 93 then 89 else if n = 95 then 96 else if n = 212 then 213 else if n = 348 then 349 else if n = 350 then 351 else if n = 352 then 353 else if n = 354 then 355 else if n = 356 then 357 else if n = 358 then 359 else if n = 360 then 361 else if n = 362 then 363 else if n = 364 then 365 else if n = 445 then 446 else if n = 618 then 619 else if n = 621 then 622 else -1
def own_t (n : Int) : Int32 := if n = 90 then 91 else if n = 93 then 89 else if n = 95 then 96 else if n = 212 then 213 else if n = 348 then 349 else if n = 350 then 351 else if n = 352 then 353 else if n = 354 then 355 else if n = 356 then 357 else if n = 358 then 359 else if n = 360 then 361 else if n = 362 then 363 else if n = 364 then 365 else if n = 445 then 446 else if n = 618 then 619 else if n = 621 then 622 else 0
theorem own_e_out {n : Int} (h : n ≤ 0 ∨ 622 ≤ n) : own_e n = -1 := by
  unfold own_e
  repeat rw [if_neg (by omega)]

theorem own_t_e (n : Int) : own_e n = if own_t n = 0 then -1 else own_t n := by
  by_cases h90 : n = 90
  · subst h90; decide +kernel
  by_cases h93 : n = 93
  · subst h93; decide +kernel
  by_cases h95 : n = 95
  · subst h95; decide +kernel
  by_cases h212 : n = 212
  · subst h212; decide +kernel
  by_cases h348 : n = 348
  · subst h348; decide +kernel
  by_cases h350 : n = 350
  · subst h350; decide +kernel
  by_cases h352 : n = 352
  · subst h352; decide +kernel
  by_cases h354 : n = 354
  · subst h354; decide +kernel
  by_cases h356 : n = 356
  · subst h356; decide +kernel
  by_cases h358 : n = 358
  · subst h358; decide +kernel
  by_cases h360 : n = 360
  · subst h360; decide +kernel
  by_cases h362 : n = 362
  · subst h362; decide +kernel
  by_cases h364 : n = 364
  · subst h364; decide +kernel
  by_cases h445 : n = 445
  · subst h445; decide +kernel
  by_cases h618 : n = 618
  · subst h618; decide +kernel
  by_cases h621 : n = 621
  · subst h621; decide +kernel
  have e1 : own_e n = -1 := by unfold own_e; rw [if_neg h90, if_neg h93, if_neg h95, if_neg h212, if_neg h348, if_neg h350, if_neg h352, if_neg h354, if_neg h356, if_neg h358, if_neg h360, if_neg h362, if_neg h364, if_neg h445, if_neg h618, if_neg h621]
  have e2 : own_t n = 0 := by unfold own_t; rw [if_neg h90, if_neg h93, if_neg h95, if_neg h212, if_neg h348, if_neg h350, if_neg h352, if_neg h354, if_neg h356, if_neg h358, if_neg h360, if_neg h362, if_neg h364, if_neg h445, if_neg h618, if_neg h621]
  rw [e1, e2]; rfl
theorem own_l90 : (90 : Int32).toInt = 90 := rfl
theorem own_l93 : (93 : Int32).toInt = 93 := rfl
theorem own_l95 : (95 : Int32).toInt = 95 := rfl
theorem own_l212 : (212 : Int32).toInt = 212 := rfl
theorem own_l348 : (348 : Int32).toInt = 348 := rfl
theorem own_l350 : (350 : Int32).toInt = 350 := rfl
theorem own_l352 : (352 : Int32).toInt = 352 := rfl
theorem own_l354 : (354 : Int32).toInt = 354 := rfl
theorem own_l356 : (356 : Int32).toInt = 356 := rfl
theorem own_l358 : (358 : Int32).toInt = 358 := rfl
theorem own_l360 : (360 : Int32).toInt = 360 := rfl
theorem own_l362 : (362 : Int32).toInt = 362 := rfl
theorem own_l364 : (364 : Int32).toInt = 364 := rfl
theorem own_l445 : (445 : Int32).toInt = 445 := rfl
theorem own_l618 : (618 : Int32).toInt = 618 := rfl
theorem own_l621 : (621 : Int32).toInt = 621 := rfl
theorem own_pn0 : plainName "com/example/tagwire/tagwire/wire/DataFieldsAnnouncedByPinLaw" = true := by first | (simp [plainName, overriddenIn]; done) | decide +kernel
theorem own_d2_0 : decode method_3_code 0 = .ok (.iload_n 0, 1) := by decide +kernel
theorem own_d2_1 : decode method_3_code 1 = .ok (.bipush 90, 2) := by decide +kernel
theorem own_d2_3 : decode method_3_code 3 = .ok (.if_icmp .ne 6, 3) := by decide +kernel
theorem own_d2_6 : decode method_3_code 6 = .ok (.bipush 91, 2) := by decide +kernel
theorem own_d2_8 : decode method_3_code 8 = .ok (.ireturn, 1) := by decide +kernel
theorem own_d2_9 : decode method_3_code 9 = .ok (.iload_n 0, 1) := by decide +kernel
theorem own_d2_10 : decode method_3_code 10 = .ok (.bipush 93, 2) := by decide +kernel
theorem own_d2_12 : decode method_3_code 12 = .ok (.if_icmp .ne 6, 3) := by decide +kernel
theorem own_d2_15 : decode method_3_code 15 = .ok (.bipush 89, 2) := by decide +kernel
theorem own_d2_17 : decode method_3_code 17 = .ok (.ireturn, 1) := by decide +kernel
theorem own_d2_18 : decode method_3_code 18 = .ok (.iload_n 0, 1) := by decide +kernel
theorem own_d2_19 : decode method_3_code 19 = .ok (.bipush 95, 2) := by decide +kernel
theorem own_d2_21 : decode method_3_code 21 = .ok (.if_icmp .ne 6, 3) := by decide +kernel
theorem own_d2_24 : decode method_3_code 24 = .ok (.bipush 96, 2) := by decide +kernel
theorem own_d2_26 : decode method_3_code 26 = .ok (.ireturn, 1) := by decide +kernel
theorem own_d2_27 : decode method_3_code 27 = .ok (.iload_n 0, 1) := by decide +kernel
theorem own_d2_28 : decode method_3_code 28 = .ok (.sipush 212, 3) := by decide +kernel
theorem own_d2_31 : decode method_3_code 31 = .ok (.if_icmp .ne 7, 3) := by decide +kernel
theorem own_d2_34 : decode method_3_code 34 = .ok (.sipush 213, 3) := by decide +kernel
theorem own_d2_37 : decode method_3_code 37 = .ok (.ireturn, 1) := by decide +kernel
theorem own_d2_38 : decode method_3_code 38 = .ok (.iload_n 0, 1) := by decide +kernel
theorem own_d2_39 : decode method_3_code 39 = .ok (.sipush 348, 3) := by decide +kernel
theorem own_d2_42 : decode method_3_code 42 = .ok (.if_icmp .ne 7, 3) := by decide +kernel
theorem own_d2_45 : decode method_3_code 45 = .ok (.sipush 349, 3) := by decide +kernel
theorem own_d2_48 : decode method_3_code 48 = .ok (.ireturn, 1) := by decide +kernel
theorem own_d2_49 : decode method_3_code 49 = .ok (.iload_n 0, 1) := by decide +kernel
theorem own_d2_50 : decode method_3_code 50 = .ok (.sipush 350, 3) := by decide +kernel
theorem own_d2_53 : decode method_3_code 53 = .ok (.if_icmp .ne 7, 3) := by decide +kernel
theorem own_d2_56 : decode method_3_code 56 = .ok (.sipush 351, 3) := by decide +kernel
theorem own_d2_59 : decode method_3_code 59 = .ok (.ireturn, 1) := by decide +kernel
theorem own_d2_60 : decode method_3_code 60 = .ok (.iload_n 0, 1) := by decide +kernel
theorem own_d2_61 : decode method_3_code 61 = .ok (.sipush 352, 3) := by decide +kernel
theorem own_d2_64 : decode method_3_code 64 = .ok (.if_icmp .ne 7, 3) := by decide +kernel
theorem own_d2_67 : decode method_3_code 67 = .ok (.sipush 353, 3) := by decide +kernel
theorem own_d2_70 : decode method_3_code 70 = .ok (.ireturn, 1) := by decide +kernel
theorem own_d2_71 : decode method_3_code 71 = .ok (.iload_n 0, 1) := by decide +kernel
theorem own_d2_72 : decode method_3_code 72 = .ok (.sipush 354, 3) := by decide +kernel
theorem own_d2_75 : decode method_3_code 75 = .ok (.if_icmp .ne 7, 3) := by decide +kernel
theorem own_d2_78 : decode method_3_code 78 = .ok (.sipush 355, 3) := by decide +kernel
theorem own_d2_81 : decode method_3_code 81 = .ok (.ireturn, 1) := by decide +kernel
theorem own_d2_82 : decode method_3_code 82 = .ok (.iload_n 0, 1) := by decide +kernel
theorem own_d2_83 : decode method_3_code 83 = .ok (.sipush 356, 3) := by decide +kernel
theorem own_d2_86 : decode method_3_code 86 = .ok (.if_icmp .ne 7, 3) := by decide +kernel
theorem own_d2_89 : decode method_3_code 89 = .ok (.sipush 357, 3) := by decide +kernel
theorem own_d2_92 : decode method_3_code 92 = .ok (.ireturn, 1) := by decide +kernel
theorem own_d2_93 : decode method_3_code 93 = .ok (.iload_n 0, 1) := by decide +kernel
theorem own_d2_94 : decode method_3_code 94 = .ok (.sipush 358, 3) := by decide +kernel
theorem own_d2_97 : decode method_3_code 97 = .ok (.if_icmp .ne 7, 3) := by decide +kernel
theorem own_d2_100 : decode method_3_code 100 = .ok (.sipush 359, 3) := by decide +kernel
theorem own_d2_103 : decode method_3_code 103 = .ok (.ireturn, 1) := by decide +kernel
theorem own_d2_104 : decode method_3_code 104 = .ok (.iload_n 0, 1) := by decide +kernel
theorem own_d2_105 : decode method_3_code 105 = .ok (.sipush 360, 3) := by decide +kernel
theorem own_d2_108 : decode method_3_code 108 = .ok (.if_icmp .ne 7, 3) := by decide +kernel
theorem own_d2_111 : decode method_3_code 111 = .ok (.sipush 361, 3) := by decide +kernel
theorem own_d2_114 : decode method_3_code 114 = .ok (.ireturn, 1) := by decide +kernel
theorem own_d2_115 : decode method_3_code 115 = .ok (.iload_n 0, 1) := by decide +kernel
theorem own_d2_116 : decode method_3_code 116 = .ok (.sipush 362, 3) := by decide +kernel
theorem own_d2_119 : decode method_3_code 119 = .ok (.if_icmp .ne 7, 3) := by decide +kernel
theorem own_d2_122 : decode method_3_code 122 = .ok (.sipush 363, 3) := by decide +kernel
theorem own_d2_125 : decode method_3_code 125 = .ok (.ireturn, 1) := by decide +kernel
theorem own_d2_126 : decode method_3_code 126 = .ok (.iload_n 0, 1) := by decide +kernel
theorem own_d2_127 : decode method_3_code 127 = .ok (.sipush 364, 3) := by decide +kernel
theorem own_d2_130 : decode method_3_code 130 = .ok (.if_icmp .ne 7, 3) := by decide +kernel
theorem own_d2_133 : decode method_3_code 133 = .ok (.sipush 365, 3) := by decide +kernel
theorem own_d2_136 : decode method_3_code 136 = .ok (.ireturn, 1) := by decide +kernel
theorem own_d2_137 : decode method_3_code 137 = .ok (.iload_n 0, 1) := by decide +kernel
theorem own_d2_138 : decode method_3_code 138 = .ok (.sipush 445, 3) := by decide +kernel
theorem own_d2_141 : decode method_3_code 141 = .ok (.if_icmp .ne 7, 3) := by decide +kernel
theorem own_d2_144 : decode method_3_code 144 = .ok (.sipush 446, 3) := by decide +kernel
theorem own_d2_147 : decode method_3_code 147 = .ok (.ireturn, 1) := by decide +kernel
theorem own_d2_148 : decode method_3_code 148 = .ok (.iload_n 0, 1) := by decide +kernel
theorem own_d2_149 : decode method_3_code 149 = .ok (.sipush 618, 3) := by decide +kernel
theorem own_d2_152 : decode method_3_code 152 = .ok (.if_icmp .ne 7, 3) := by decide +kernel
theorem own_d2_155 : decode method_3_code 155 = .ok (.sipush 619, 3) := by decide +kernel
theorem own_d2_158 : decode method_3_code 158 = .ok (.ireturn, 1) := by decide +kernel
theorem own_d2_159 : decode method_3_code 159 = .ok (.iload_n 0, 1) := by decide +kernel
theorem own_d2_160 : decode method_3_code 160 = .ok (.sipush 621, 3) := by decide +kernel
theorem own_d2_163 : decode method_3_code 163 = .ok (.if_icmp .ne 7, 3) := by decide +kernel
theorem own_d2_166 : decode method_3_code 166 = .ok (.sipush 622, 3) := by decide +kernel
theorem own_d2_169 : decode method_3_code 169 = .ok (.ireturn, 1) := by decide +kernel
theorem own_d2_170 : decode method_3_code 170 = .ok (.iconst (-1), 1) := by decide +kernel
theorem own_d2_171 : decode method_3_code 171 = .ok (.ireturn, 1) := by decide +kernel
theorem own_ef_own_rm2 (m : MethodId) (x0 : Int32) : entryFrame m #[(.int x0)] 1 = mkF m 0 #[.val (.int x0)] [] := by first | (simp [entryFrame, mkF, argsToLocals, Value.category]; done) | rfl
def own_Q_own_rm2 (Z : State) (x0 : Int32) (h0 : Heap) (n0 : Nat) (v : Option Value) (h : Heap) : Prop := v = some (.int (own_e x0.toInt)) ∧ h0 = h
set_option maxRecDepth 65536 in
set_option maxHeartbeats 40000000 in
theorem own_rm2 (l : Launch) (Z : State) (a0 : Array Value) (hw : ∀ d ∈ tables_1, d.before a0 Z = true) (ws : List Jvm.Cond) (x0 : Int32)  (h0 : Heap) (n0 : Nat)   :
    own_Con l Z (⟨"com/example/tagwire/tagwire/wire/DataFieldsAnnouncedByPinLaw", "expected", "(I)I"⟩ : MethodName) method_3_code 1 (some .int) ws ({ frames := 0, cells := 0, slots := 0, locals := 0 } : Room) #[(.int x0)] h0 n0 (own_Q_own_rm2 Z x0 h0 n0) := by
  refine own_body (plainFor_of_name own_pn0) ?_
  intro p e s m below meth c T0 hx hZ hby hml hown hnm hret hlk Y0
  replace hown : s.vm.findClass "com/example/tagwire/tagwire/wire/DataFieldsAnnouncedByPinLaw" = some m.cls := hown
  replace hnm : meth.name = "expected" := hnm
  rw [own_ef_own_rm2 m x0]
  show own_Ends _ _ _ _ (T0.setTop (mkF m 0 #[.val (.int x0)] []))
  refine own_st (fun t_ => XS.iloadN (own_here Y0) hx rfl (hb hby own_d2_0) rfl) ?_
  show own_Ends _ _ _ _ (T0.setTop (mkF m 1 #[.val (.int x0)] [(.int x0)]))
  refine own_st (fun t_ => XS.bipush (own_here Y0) hx rfl (hb hby own_d2_1) ) ?_
  show own_Ends _ _ _ _ (T0.setTop (mkF m 3 #[.val (.int x0)] [(.int (90 : Int32)), (.int x0)]))
  by_cases c3_1 : x0 = (90 : Int32)
  ·
   refine own_st (fun t_ => XS.icmpNo (own_here Y0) hx rfl (hb hby own_d2_3) rfl (XT.ii_ne_f c3_1)) ?_
   show own_Ends _ _ _ _ (T0.setTop (mkF m 6 #[.val (.int x0)] []))
   refine own_st (fun t_ => XS.bipush (own_here Y0) hx rfl (hb hby own_d2_6) ) ?_
   show own_Ends _ _ _ _ (T0.setTop (mkF m 8 #[.val (.int x0)] [(.int (91 : Int32))]))
   refine own_retI Y0 hx hlk hret (hb hby own_d2_8) (by decide) (by decide) ?_
   refine ⟨?_, rfl⟩
   have hk : x0.toInt = 90 := by rw [c3_1]; rfl
   rw [hk]; rfl
  ·
   refine own_st (fun t_ => XS.icmpYes (own_here Y0) hx rfl (pc0 := 3) (pc' := 9) rfl (hb hby own_d2_3) rfl (XT.ii_ne_t c3_1) (by decide) (by decide)) ?_
   show own_Ends _ _ _ _ (T0.setTop (mkF m 9 #[.val (.int x0)] []))
   refine own_st (fun t_ => XS.iloadN (own_here Y0) hx rfl (hb hby own_d2_9) rfl) ?_
   show own_Ends _ _ _ _ (T0.setTop (mkF m 10 #[.val (.int x0)] [(.int x0)]))
   refine own_st (fun t_ => XS.bipush (own_here Y0) hx rfl (hb hby own_d2_10) ) ?_
   show own_Ends _ _ _ _ (T0.setTop (mkF m 12 #[.val (.int x0)] [(.int (93 : Int32)), (.int x0)]))
   by_cases c12_2 : x0 = (93 : Int32)
   ·
    refine own_st (fun t_ => XS.icmpNo (own_here Y0) hx rfl (hb hby own_d2_12) rfl (XT.ii_ne_f c12_2)) ?_
    show own_Ends _ _ _ _ (T0.setTop (mkF m 15 #[.val (.int x0)] []))
    refine own_st (fun t_ => XS.bipush (own_here Y0) hx rfl (hb hby own_d2_15) ) ?_
    show own_Ends _ _ _ _ (T0.setTop (mkF m 17 #[.val (.int x0)] [(.int (89 : Int32))]))
    refine own_retI Y0 hx hlk hret (hb hby own_d2_17) (by decide) (by decide) ?_
    refine ⟨?_, rfl⟩
    have hk : x0.toInt = 93 := by rw [c12_2]; rfl
    rw [hk]; rfl
   ·
    refine own_st (fun t_ => XS.icmpYes (own_here Y0) hx rfl (pc0 := 12) (pc' := 18) rfl (hb hby own_d2_12) rfl (XT.ii_ne_t c12_2) (by decide) (by decide)) ?_
    show own_Ends _ _ _ _ (T0.setTop (mkF m 18 #[.val (.int x0)] []))
    refine own_st (fun t_ => XS.iloadN (own_here Y0) hx rfl (hb hby own_d2_18) rfl) ?_
    show own_Ends _ _ _ _ (T0.setTop (mkF m 19 #[.val (.int x0)] [(.int x0)]))
    refine own_st (fun t_ => XS.bipush (own_here Y0) hx rfl (hb hby own_d2_19) ) ?_
    show own_Ends _ _ _ _ (T0.setTop (mkF m 21 #[.val (.int x0)] [(.int (95 : Int32)), (.int x0)]))
    by_cases c21_3 : x0 = (95 : Int32)
    ·
     refine own_st (fun t_ => XS.icmpNo (own_here Y0) hx rfl (hb hby own_d2_21) rfl (XT.ii_ne_f c21_3)) ?_
     show own_Ends _ _ _ _ (T0.setTop (mkF m 24 #[.val (.int x0)] []))
     refine own_st (fun t_ => XS.bipush (own_here Y0) hx rfl (hb hby own_d2_24) ) ?_
     show own_Ends _ _ _ _ (T0.setTop (mkF m 26 #[.val (.int x0)] [(.int (96 : Int32))]))
     refine own_retI Y0 hx hlk hret (hb hby own_d2_26) (by decide) (by decide) ?_
     refine ⟨?_, rfl⟩
     have hk : x0.toInt = 95 := by rw [c21_3]; rfl
     rw [hk]; rfl
    ·
     refine own_st (fun t_ => XS.icmpYes (own_here Y0) hx rfl (pc0 := 21) (pc' := 27) rfl (hb hby own_d2_21) rfl (XT.ii_ne_t c21_3) (by decide) (by decide)) ?_
     show own_Ends _ _ _ _ (T0.setTop (mkF m 27 #[.val (.int x0)] []))
     refine own_st (fun t_ => XS.iloadN (own_here Y0) hx rfl (hb hby own_d2_27) rfl) ?_
     show own_Ends _ _ _ _ (T0.setTop (mkF m 28 #[.val (.int x0)] [(.int x0)]))
     refine own_st (fun t_ => XS.sipush (own_here Y0) hx rfl (hb hby own_d2_28) ) ?_
     show own_Ends _ _ _ _ (T0.setTop (mkF m 31 #[.val (.int x0)] [(.int (212 : Int32)), (.int x0)]))
     by_cases c31_4 : x0 = (212 : Int32)
     ·
      refine own_st (fun t_ => XS.icmpNo (own_here Y0) hx rfl (hb hby own_d2_31) rfl (XT.ii_ne_f c31_4)) ?_
      show own_Ends _ _ _ _ (T0.setTop (mkF m 34 #[.val (.int x0)] []))
      refine own_st (fun t_ => XS.sipush (own_here Y0) hx rfl (hb hby own_d2_34) ) ?_
      show own_Ends _ _ _ _ (T0.setTop (mkF m 37 #[.val (.int x0)] [(.int (213 : Int32))]))
      refine own_retI Y0 hx hlk hret (hb hby own_d2_37) (by decide) (by decide) ?_
      refine ⟨?_, rfl⟩
      have hk : x0.toInt = 212 := by rw [c31_4]; rfl
      rw [hk]; rfl
     ·
      refine own_st (fun t_ => XS.icmpYes (own_here Y0) hx rfl (pc0 := 31) (pc' := 38) rfl (hb hby own_d2_31) rfl (XT.ii_ne_t c31_4) (by decide) (by decide)) ?_
      show own_Ends _ _ _ _ (T0.setTop (mkF m 38 #[.val (.int x0)] []))
      refine own_st (fun t_ => XS.iloadN (own_here Y0) hx rfl (hb hby own_d2_38) rfl) ?_
      show own_Ends _ _ _ _ (T0.setTop (mkF m 39 #[.val (.int x0)] [(.int x0)]))
      refine own_st (fun t_ => XS.sipush (own_here Y0) hx rfl (hb hby own_d2_39) ) ?_
      show own_Ends _ _ _ _ (T0.setTop (mkF m 42 #[.val (.int x0)] [(.int (348 : Int32)), (.int x0)]))
      by_cases c42_5 : x0 = (348 : Int32)
      ·
       refine own_st (fun t_ => XS.icmpNo (own_here Y0) hx rfl (hb hby own_d2_42) rfl (XT.ii_ne_f c42_5)) ?_
       show own_Ends _ _ _ _ (T0.setTop (mkF m 45 #[.val (.int x0)] []))
       refine own_st (fun t_ => XS.sipush (own_here Y0) hx rfl (hb hby own_d2_45) ) ?_
       show own_Ends _ _ _ _ (T0.setTop (mkF m 48 #[.val (.int x0)] [(.int (349 : Int32))]))
       refine own_retI Y0 hx hlk hret (hb hby own_d2_48) (by decide) (by decide) ?_
       refine ⟨?_, rfl⟩
       have hk : x0.toInt = 348 := by rw [c42_5]; rfl
       rw [hk]; rfl
      ·
       refine own_st (fun t_ => XS.icmpYes (own_here Y0) hx rfl (pc0 := 42) (pc' := 49) rfl (hb hby own_d2_42) rfl (XT.ii_ne_t c42_5) (by decide) (by decide)) ?_
       show own_Ends _ _ _ _ (T0.setTop (mkF m 49 #[.val (.int x0)] []))
       refine own_st (fun t_ => XS.iloadN (own_here Y0) hx rfl (hb hby own_d2_49) rfl) ?_
       show own_Ends _ _ _ _ (T0.setTop (mkF m 50 #[.val (.int x0)] [(.int x0)]))
       refine own_st (fun t_ => XS.sipush (own_here Y0) hx rfl (hb hby own_d2_50) ) ?_
       show own_Ends _ _ _ _ (T0.setTop (mkF m 53 #[.val (.int x0)] [(.int (350 : Int32)), (.int x0)]))
       by_cases c53_6 : x0 = (350 : Int32)
       ·
        refine own_st (fun t_ => XS.icmpNo (own_here Y0) hx rfl (hb hby own_d2_53) rfl (XT.ii_ne_f c53_6)) ?_
        show own_Ends _ _ _ _ (T0.setTop (mkF m 56 #[.val (.int x0)] []))
        refine own_st (fun t_ => XS.sipush (own_here Y0) hx rfl (hb hby own_d2_56) ) ?_
        show own_Ends _ _ _ _ (T0.setTop (mkF m 59 #[.val (.int x0)] [(.int (351 : Int32))]))
        refine own_retI Y0 hx hlk hret (hb hby own_d2_59) (by decide) (by decide) ?_
        refine ⟨?_, rfl⟩
        have hk : x0.toInt = 350 := by rw [c53_6]; rfl
        rw [hk]; rfl
       ·
        refine own_st (fun t_ => XS.icmpYes (own_here Y0) hx rfl (pc0 := 53) (pc' := 60) rfl (hb hby own_d2_53) rfl (XT.ii_ne_t c53_6) (by decide) (by decide)) ?_
        show own_Ends _ _ _ _ (T0.setTop (mkF m 60 #[.val (.int x0)] []))
        refine own_st (fun t_ => XS.iloadN (own_here Y0) hx rfl (hb hby own_d2_60) rfl) ?_
        show own_Ends _ _ _ _ (T0.setTop (mkF m 61 #[.val (.int x0)] [(.int x0)]))
        refine own_st (fun t_ => XS.sipush (own_here Y0) hx rfl (hb hby own_d2_61) ) ?_
        show own_Ends _ _ _ _ (T0.setTop (mkF m 64 #[.val (.int x0)] [(.int (352 : Int32)), (.int x0)]))
        by_cases c64_7 : x0 = (352 : Int32)
        ·
         refine own_st (fun t_ => XS.icmpNo (own_here Y0) hx rfl (hb hby own_d2_64) rfl (XT.ii_ne_f c64_7)) ?_
         show own_Ends _ _ _ _ (T0.setTop (mkF m 67 #[.val (.int x0)] []))
         refine own_st (fun t_ => XS.sipush (own_here Y0) hx rfl (hb hby own_d2_67) ) ?_
         show own_Ends _ _ _ _ (T0.setTop (mkF m 70 #[.val (.int x0)] [(.int (353 : Int32))]))
         refine own_retI Y0 hx hlk hret (hb hby own_d2_70) (by decide) (by decide) ?_
         refine ⟨?_, rfl⟩
         have hk : x0.toInt = 352 := by rw [c64_7]; rfl
         rw [hk]; rfl
        ·
         refine own_st (fun t_ => XS.icmpYes (own_here Y0) hx rfl (pc0 := 64) (pc' := 71) rfl (hb hby own_d2_64) rfl (XT.ii_ne_t c64_7) (by decide) (by decide)) ?_
         show own_Ends _ _ _ _ (T0.setTop (mkF m 71 #[.val (.int x0)] []))
         refine own_st (fun t_ => XS.iloadN (own_here Y0) hx rfl (hb hby own_d2_71) rfl) ?_
         show own_Ends _ _ _ _ (T0.setTop (mkF m 72 #[.val (.int x0)] [(.int x0)]))
         refine own_st (fun t_ => XS.sipush (own_here Y0) hx rfl (hb hby own_d2_72) ) ?_
         show own_Ends _ _ _ _ (T0.setTop (mkF m 75 #[.val (.int x0)] [(.int (354 : Int32)), (.int x0)]))
         by_cases c75_8 : x0 = (354 : Int32)
         ·
          refine own_st (fun t_ => XS.icmpNo (own_here Y0) hx rfl (hb hby own_d2_75) rfl (XT.ii_ne_f c75_8)) ?_
          show own_Ends _ _ _ _ (T0.setTop (mkF m 78 #[.val (.int x0)] []))
          refine own_st (fun t_ => XS.sipush (own_here Y0) hx rfl (hb hby own_d2_78) ) ?_
          show own_Ends _ _ _ _ (T0.setTop (mkF m 81 #[.val (.int x0)] [(.int (355 : Int32))]))
          refine own_retI Y0 hx hlk hret (hb hby own_d2_81) (by decide) (by decide) ?_
          refine ⟨?_, rfl⟩
          have hk : x0.toInt = 354 := by rw [c75_8]; rfl
          rw [hk]; rfl
         ·
          refine own_st (fun t_ => XS.icmpYes (own_here Y0) hx rfl (pc0 := 75) (pc' := 82) rfl (hb hby own_d2_75) rfl (XT.ii_ne_t c75_8) (by decide) (by decide)) ?_
          show own_Ends _ _ _ _ (T0.setTop (mkF m 82 #[.val (.int x0)] []))
          refine own_st (fun t_ => XS.iloadN (own_here Y0) hx rfl (hb hby own_d2_82) rfl) ?_
          show own_Ends _ _ _ _ (T0.setTop (mkF m 83 #[.val (.int x0)] [(.int x0)]))
          refine own_st (fun t_ => XS.sipush (own_here Y0) hx rfl (hb hby own_d2_83) ) ?_
          show own_Ends _ _ _ _ (T0.setTop (mkF m 86 #[.val (.int x0)] [(.int (356 : Int32)), (.int x0)]))
          by_cases c86_9 : x0 = (356 : Int32)
          ·
           refine own_st (fun t_ => XS.icmpNo (own_here Y0) hx rfl (hb hby own_d2_86) rfl (XT.ii_ne_f c86_9)) ?_
           show own_Ends _ _ _ _ (T0.setTop (mkF m 89 #[.val (.int x0)] []))
           refine own_st (fun t_ => XS.sipush (own_here Y0) hx rfl (hb hby own_d2_89) ) ?_
           show own_Ends _ _ _ _ (T0.setTop (mkF m 92 #[.val (.int x0)] [(.int (357 : Int32))]))
           refine own_retI Y0 hx hlk hret (hb hby own_d2_92) (by decide) (by decide) ?_
           refine ⟨?_, rfl⟩
           have hk : x0.toInt = 356 := by rw [c86_9]; rfl
           rw [hk]; rfl
          ·
           refine own_st (fun t_ => XS.icmpYes (own_here Y0) hx rfl (pc0 := 86) (pc' := 93) rfl (hb hby own_d2_86) rfl (XT.ii_ne_t c86_9) (by decide) (by decide)) ?_
           show own_Ends _ _ _ _ (T0.setTop (mkF m 93 #[.val (.int x0)] []))
           refine own_st (fun t_ => XS.iloadN (own_here Y0) hx rfl (hb hby own_d2_93) rfl) ?_
           show own_Ends _ _ _ _ (T0.setTop (mkF m 94 #[.val (.int x0)] [(.int x0)]))
           refine own_st (fun t_ => XS.sipush (own_here Y0) hx rfl (hb hby own_d2_94) ) ?_
           show own_Ends _ _ _ _ (T0.setTop (mkF m 97 #[.val (.int x0)] [(.int (358 : Int32)), (.int x0)]))
           by_cases c97_10 : x0 = (358 : Int32)
           ·
            refine own_st (fun t_ => XS.icmpNo (own_here Y0) hx rfl (hb hby own_d2_97) rfl (XT.ii_ne_f c97_10)) ?_
            show own_Ends _ _ _ _ (T0.setTop (mkF m 100 #[.val (.int x0)] []))
            refine own_st (fun t_ => XS.sipush (own_here Y0) hx rfl (hb hby own_d2_100) ) ?_
            show own_Ends _ _ _ _ (T0.setTop (mkF m 103 #[.val (.int x0)] [(.int (359 : Int32))]))
            refine own_retI Y0 hx hlk hret (hb hby own_d2_103) (by decide) (by decide) ?_
            refine ⟨?_, rfl⟩
            have hk : x0.toInt = 358 := by rw [c97_10]; rfl
            rw [hk]; rfl
           ·
            refine own_st (fun t_ => XS.icmpYes (own_here Y0) hx rfl (pc0 := 97) (pc' := 104) rfl (hb hby own_d2_97) rfl (XT.ii_ne_t c97_10) (by decide) (by decide)) ?_
            show own_Ends _ _ _ _ (T0.setTop (mkF m 104 #[.val (.int x0)] []))
            refine own_st (fun t_ => XS.iloadN (own_here Y0) hx rfl (hb hby own_d2_104) rfl) ?_
            show own_Ends _ _ _ _ (T0.setTop (mkF m 105 #[.val (.int x0)] [(.int x0)]))
            refine own_st (fun t_ => XS.sipush (own_here Y0) hx rfl (hb hby own_d2_105) ) ?_
            show own_Ends _ _ _ _ (T0.setTop (mkF m 108 #[.val (.int x0)] [(.int (360 : Int32)), (.int x0)]))
            by_cases c108_11 : x0 = (360 : Int32)
            ·
             refine own_st (fun t_ => XS.icmpNo (own_here Y0) hx rfl (hb hby own_d2_108) rfl (XT.ii_ne_f c108_11)) ?_
             show own_Ends _ _ _ _ (T0.setTop (mkF m 111 #[.val (.int x0)] []))
             refine own_st (fun t_ => XS.sipush (own_here Y0) hx rfl (hb hby own_d2_111) ) ?_
             show own_Ends _ _ _ _ (T0.setTop (mkF m 114 #[.val (.int x0)] [(.int (361 : Int32))]))
             refine own_retI Y0 hx hlk hret (hb hby own_d2_114) (by decide) (by decide) ?_
             refine ⟨?_, rfl⟩
             have hk : x0.toInt = 360 := by rw [c108_11]; rfl
             rw [hk]; rfl
            ·
             refine own_st (fun t_ => XS.icmpYes (own_here Y0) hx rfl (pc0 := 108) (pc' := 115) rfl (hb hby own_d2_108) rfl (XT.ii_ne_t c108_11) (by decide) (by decide)) ?_
             show own_Ends _ _ _ _ (T0.setTop (mkF m 115 #[.val (.int x0)] []))
             refine own_st (fun t_ => XS.iloadN (own_here Y0) hx rfl (hb hby own_d2_115) rfl) ?_
             show own_Ends _ _ _ _ (T0.setTop (mkF m 116 #[.val (.int x0)] [(.int x0)]))
             refine own_st (fun t_ => XS.sipush (own_here Y0) hx rfl (hb hby own_d2_116) ) ?_
             show own_Ends _ _ _ _ (T0.setTop (mkF m 119 #[.val (.int x0)] [(.int (362 : Int32)), (.int x0)]))
             by_cases c119_12 : x0 = (362 : Int32)
             ·
              refine own_st (fun t_ => XS.icmpNo (own_here Y0) hx rfl (hb hby own_d2_119) rfl (XT.ii_ne_f c119_12)) ?_
              show own_Ends _ _ _ _ (T0.setTop (mkF m 122 #[.val (.int x0)] []))
              refine own_st (fun t_ => XS.sipush (own_here Y0) hx rfl (hb hby own_d2_122) ) ?_
              show own_Ends _ _ _ _ (T0.setTop (mkF m 125 #[.val (.int x0)] [(.int (363 : Int32))]))
              refine own_retI Y0 hx hlk hret (hb hby own_d2_125) (by decide) (by decide) ?_
              refine ⟨?_, rfl⟩
              have hk : x0.toInt = 362 := by rw [c119_12]; rfl
              rw [hk]; rfl
             ·
              refine own_st (fun t_ => XS.icmpYes (own_here Y0) hx rfl (pc0 := 119) (pc' := 126) rfl (hb hby own_d2_119) rfl (XT.ii_ne_t c119_12) (by decide) (by decide)) ?_
              show own_Ends _ _ _ _ (T0.setTop (mkF m 126 #[.val (.int x0)] []))
              refine own_st (fun t_ => XS.iloadN (own_here Y0) hx rfl (hb hby own_d2_126) rfl) ?_
              show own_Ends _ _ _ _ (T0.setTop (mkF m 127 #[.val (.int x0)] [(.int x0)]))
              refine own_st (fun t_ => XS.sipush (own_here Y0) hx rfl (hb hby own_d2_127) ) ?_
              show own_Ends _ _ _ _ (T0.setTop (mkF m 130 #[.val (.int x0)] [(.int (364 : Int32)), (.int x0)]))
              by_cases c130_13 : x0 = (364 : Int32)
              ·
               refine own_st (fun t_ => XS.icmpNo (own_here Y0) hx rfl (hb hby own_d2_130) rfl (XT.ii_ne_f c130_13)) ?_
               show own_Ends _ _ _ _ (T0.setTop (mkF m 133 #[.val (.int x0)] []))
               refine own_st (fun t_ => XS.sipush (own_here Y0) hx rfl (hb hby own_d2_133) ) ?_
               show own_Ends _ _ _ _ (T0.setTop (mkF m 136 #[.val (.int x0)] [(.int (365 : Int32))]))
               refine own_retI Y0 hx hlk hret (hb hby own_d2_136) (by decide) (by decide) ?_
               refine ⟨?_, rfl⟩
               have hk : x0.toInt = 364 := by rw [c130_13]; rfl
               rw [hk]; rfl
              ·
               refine own_st (fun t_ => XS.icmpYes (own_here Y0) hx rfl (pc0 := 130) (pc' := 137) rfl (hb hby own_d2_130) rfl (XT.ii_ne_t c130_13) (by decide) (by decide)) ?_
               show own_Ends _ _ _ _ (T0.setTop (mkF m 137 #[.val (.int x0)] []))
               refine own_st (fun t_ => XS.iloadN (own_here Y0) hx rfl (hb hby own_d2_137) rfl) ?_
               show own_Ends _ _ _ _ (T0.setTop (mkF m 138 #[.val (.int x0)] [(.int x0)]))
               refine own_st (fun t_ => XS.sipush (own_here Y0) hx rfl (hb hby own_d2_138) ) ?_
               show own_Ends _ _ _ _ (T0.setTop (mkF m 141 #[.val (.int x0)] [(.int (445 : Int32)), (.int x0)]))
               by_cases c141_14 : x0 = (445 : Int32)
               ·
                refine own_st (fun t_ => XS.icmpNo (own_here Y0) hx rfl (hb hby own_d2_141) rfl (XT.ii_ne_f c141_14)) ?_
                show own_Ends _ _ _ _ (T0.setTop (mkF m 144 #[.val (.int x0)] []))
                refine own_st (fun t_ => XS.sipush (own_here Y0) hx rfl (hb hby own_d2_144) ) ?_
                show own_Ends _ _ _ _ (T0.setTop (mkF m 147 #[.val (.int x0)] [(.int (446 : Int32))]))
                refine own_retI Y0 hx hlk hret (hb hby own_d2_147) (by decide) (by decide) ?_
                refine ⟨?_, rfl⟩
                have hk : x0.toInt = 445 := by rw [c141_14]; rfl
                rw [hk]; rfl
               ·
                refine own_st (fun t_ => XS.icmpYes (own_here Y0) hx rfl (pc0 := 141) (pc' := 148) rfl (hb hby own_d2_141) rfl (XT.ii_ne_t c141_14) (by decide) (by decide)) ?_
                show own_Ends _ _ _ _ (T0.setTop (mkF m 148 #[.val (.int x0)] []))
                refine own_st (fun t_ => XS.iloadN (own_here Y0) hx rfl (hb hby own_d2_148) rfl) ?_
                show own_Ends _ _ _ _ (T0.setTop (mkF m 149 #[.val (.int x0)] [(.int x0)]))
                refine own_st (fun t_ => XS.sipush (own_here Y0) hx rfl (hb hby own_d2_149) ) ?_
                show own_Ends _ _ _ _ (T0.setTop (mkF m 152 #[.val (.int x0)] [(.int (618 : Int32)), (.int x0)]))
                by_cases c152_15 : x0 = (618 : Int32)
                ·
                 refine own_st (fun t_ => XS.icmpNo (own_here Y0) hx rfl (hb hby own_d2_152) rfl (XT.ii_ne_f c152_15)) ?_
                 show own_Ends _ _ _ _ (T0.setTop (mkF m 155 #[.val (.int x0)] []))
                 refine own_st (fun t_ => XS.sipush (own_here Y0) hx rfl (hb hby own_d2_155) ) ?_
                 show own_Ends _ _ _ _ (T0.setTop (mkF m 158 #[.val (.int x0)] [(.int (619 : Int32))]))
                 refine own_retI Y0 hx hlk hret (hb hby own_d2_158) (by decide) (by decide) ?_
                 refine ⟨?_, rfl⟩
                 have hk : x0.toInt = 618 := by rw [c152_15]; rfl
                 rw [hk]; rfl
                ·
                 refine own_st (fun t_ => XS.icmpYes (own_here Y0) hx rfl (pc0 := 152) (pc' := 159) rfl (hb hby own_d2_152) rfl (XT.ii_ne_t c152_15) (by decide) (by decide)) ?_
                 show own_Ends _ _ _ _ (T0.setTop (mkF m 159 #[.val (.int x0)] []))
                 refine own_st (fun t_ => XS.iloadN (own_here Y0) hx rfl (hb hby own_d2_159) rfl) ?_
                 show own_Ends _ _ _ _ (T0.setTop (mkF m 160 #[.val (.int x0)] [(.int x0)]))
                 refine own_st (fun t_ => XS.sipush (own_here Y0) hx rfl (hb hby own_d2_160) ) ?_
                 show own_Ends _ _ _ _ (T0.setTop (mkF m 163 #[.val (.int x0)] [(.int (621 : Int32)), (.int x0)]))
                 by_cases c163_16 : x0 = (621 : Int32)
                 ·
                  refine own_st (fun t_ => XS.icmpNo (own_here Y0) hx rfl (hb hby own_d2_163) rfl (XT.ii_ne_f c163_16)) ?_
                  show own_Ends _ _ _ _ (T0.setTop (mkF m 166 #[.val (.int x0)] []))
                  refine own_st (fun t_ => XS.sipush (own_here Y0) hx rfl (hb hby own_d2_166) ) ?_
                  show own_Ends _ _ _ _ (T0.setTop (mkF m 169 #[.val (.int x0)] [(.int (622 : Int32))]))
                  refine own_retI Y0 hx hlk hret (hb hby own_d2_169) (by decide) (by decide) ?_
                  refine ⟨?_, rfl⟩
                  have hk : x0.toInt = 621 := by rw [c163_16]; rfl
                  rw [hk]; rfl
                 ·
                  refine own_st (fun t_ => XS.icmpYes (own_here Y0) hx rfl (pc0 := 163) (pc' := 170) rfl (hb hby own_d2_163) rfl (XT.ii_ne_t c163_16) (by decide) (by decide)) ?_
                  show own_Ends _ _ _ _ (T0.setTop (mkF m 170 #[.val (.int x0)] []))
                  refine own_st (fun t_ => XS.iconst (own_here Y0) hx rfl (hb hby own_d2_170) ) ?_
                  show own_Ends _ _ _ _ (T0.setTop (mkF m 171 #[.val (.int x0)] [(.int (-1 : Int32))]))
                  refine own_retI Y0 hx hlk hret (hb hby own_d2_171) (by decide) (by decide) ?_
                  refine ⟨?_, rfl⟩
                  simp only [own_eq, own_l90, own_l93, own_l95, own_l212, own_l348, own_l350, own_l352, own_l354, own_l356, own_l358, own_l360, own_l362, own_l364, own_l445, own_l618, own_l621] at c3_1 c12_2 c21_3 c31_4 c42_5 c53_6 c64_7 c75_8 c86_9 c97_10 c108_11 c119_12 c130_13 c141_14 c152_15 c163_16
                  have : own_e x0.toInt = -1 := by
                    unfold own_e
                    rw [if_neg c3_1]
                    rw [if_neg c12_2]
                    rw [if_neg c21_3]
                    rw [if_neg c31_4]
                    rw [if_neg c42_5]
                    rw [if_neg c53_6]
                    rw [if_neg c64_7]
                    rw [if_neg c75_8]
                    rw [if_neg c86_9]
                    rw [if_neg c97_10]
                    rw [if_neg c108_11]
                    rw [if_neg c119_12]
                    rw [if_neg c130_13]
                    rw [if_neg c141_14]
                    rw [if_neg c152_15]
                    rw [if_neg c163_16]
                  rw [this]
theorem own_pn1 : plainName "com/example/tagwire/tagwire/wire/DataFields" = true := by first | (simp [plainName, overriddenIn]; done) | decide +kernel
theorem own_d1_0 : decode prog_50_method_2_code 0 = .ok (.iload_n 0, 1) := by decide +kernel
theorem own_d1_1 : decode prog_50_method_2_code 1 = .ok (.ifCond .le 19, 3) := by decide +kernel
theorem own_d1_4 : decode prog_50_method_2_code 4 = .ok (.iload_n 0, 1) := by decide +kernel
theorem own_d1_5 : decode prog_50_method_2_code 5 = .ok (.getstatic 7, 3) := by decide +kernel
theorem own_d1_8 : decode prog_50_method_2_code 8 = .ok (.arraylength, 1) := by decide +kernel
theorem own_d1_9 : decode prog_50_method_2_code 9 = .ok (.if_icmp .ge 11, 3) := by decide +kernel
theorem own_d1_12 : decode prog_50_method_2_code 12 = .ok (.getstatic 7, 3) := by decide +kernel
theorem own_d1_15 : decode prog_50_method_2_code 15 = .ok (.iload_n 0, 1) := by decide +kernel
theorem own_d1_16 : decode prog_50_method_2_code 16 = .ok (.iaload, 1) := by decide +kernel
theorem own_d1_17 : decode prog_50_method_2_code 17 = .ok (.goto 4, 3) := by decide +kernel
theorem own_d1_21 : decode prog_50_method_2_code 21 = .ok (.istore_n 1, 1) := by decide +kernel
theorem own_d1_22 : decode prog_50_method_2_code 22 = .ok (.iload_n 1, 1) := by decide +kernel
theorem own_d1_23 : decode prog_50_method_2_code 23 = .ok (.ifCond .ne 7, 3) := by decide +kernel
theorem own_d1_26 : decode prog_50_method_2_code 26 = .ok (.iconst (-1), 1) := by decide +kernel
theorem own_d1_27 : decode prog_50_method_2_code 27 = .ok (.goto 4, 3) := by decide +kernel
theorem own_d1_31 : decode prog_50_method_2_code 31 = .ok (.ireturn, 1) := by decide +kernel
theorem own_d1_30 : decode prog_50_method_2_code 30 = .ok (.iload_n 1, 1) := by decide +kernel
theorem own_d1_20 : decode prog_50_method_2_code 20 = .ok (.iconst 0, 1) := by decide +kernel
theorem own_ef_own_rm1 (m : MethodId) (x0 : Int32) : entryFrame m #[(.int x0)] 2 = mkF m 0 #[.val (.int x0), .unset] [] := by first | (simp [entryFrame, mkF, argsToLocals, Value.category]; done) | rfl
def own_Q_own_rm1 (Z : State) (x0 : Int32) (h0 : Heap) (n0 : Nat) (v : Option Value) (h : Heap) : Prop := v = some (.int (own_e x0.toInt)) ∧ h0 = h
set_option maxRecDepth 65536 in
set_option maxHeartbeats 40000000 in
theorem own_rm1 (l : Launch) (Z : State) (a0 : Array Value) (hw : ∀ d ∈ tables_1, d.before a0 Z = true) (ws : List Jvm.Cond) (x0 : Int32) (r : Addr) (vs : List Value) (h0 : Heap) (n0 : Nat)  (S : Sta Z h0 "com/example/tagwire/tagwire/wire/DataFields" "ANNOUNCED" "[I" (.ref r)) (A : own_A Z h0 r .int vs) (hlen : vs.length = 622) (hT : ∀ i : Nat, i < 622 → vs[i]? = some (.int (own_t (i : Int)))) :
    own_Con l Z (⟨"com/example/tagwire/tagwire/wire/DataFields", "announcedBy", "(I)I"⟩ : MethodName) prog_50_method_2_code 2 (some .int) ws ({ frames := 0, cells := 0, slots := 0, locals := 0 } : Room) #[(.int x0)] h0 n0 (own_Q_own_rm1 Z x0 h0 n0) := by
  refine own_body (plainFor_of_name own_pn1) ?_
  intro p e s m below meth c T0 hx hZ hby hml hown hnm hret hlk Y0
  replace hown : s.vm.findClass "com/example/tagwire/tagwire/wire/DataFields" = some m.cls := hown
  replace hnm : meth.name = "announcedBy" := hnm
  rw [own_ef_own_rm1 m x0]
  show own_Ends _ _ _ _ (T0.setTop (mkF m 0 #[.val (.int x0), .unset] []))
  refine own_st (fun t_ => XS.iloadN (own_here Y0) hx rfl (hb hby own_d1_0) rfl) ?_
  show own_Ends _ _ _ _ (T0.setTop (mkF m 1 #[.val (.int x0), .unset] [(.int x0)]))
  by_cases c1_17 : (0 : Int32) < x0
  ·
   refine own_st (fun t_ => XS.ifNo (own_here Y0) hx rfl (hb hby own_d1_1) rfl (XT.i0_le_f c1_17)) ?_
   show own_Ends _ _ _ _ (T0.setTop (mkF m 4 #[.val (.int x0), .unset] []))
   refine own_st (fun t_ => XS.iloadN (own_here Y0) hx rfl (hb hby own_d1_4) rfl) ?_
   show own_Ends _ _ _ _ (T0.setTop (mkF m 5 #[.val (.int x0), .unset] [(.int x0)]))
   refine own_getS Y0 hx hZ hown (host := "") (Or.inl (hw _ (List.mem_of_getElem? (i := 8) rfl))) Via.refl S rfl (hb hby own_d1_5) (fun T18 Y19 => ?_)
   show own_Ends _ _ _ _ (T18.setTop (mkF m 8 #[.val (.int x0), .unset] [(.ref r), (.int x0)]))
   refine own_len Y19 hx hZ A (z := (622 : Int32)) (by rw [hlen]; rfl) rfl rfl (hb hby own_d1_8) ?_
   show own_Ends _ _ _ _ (T18.setTop (mkF m 9 #[.val (.int x0), .unset] [(.int (622 : Int32)), (.int x0)]))
   by_cases c9_20 : x0 < (622 : Int32)
   ·
    refine own_st (fun t_ => XS.icmpNo (own_here Y19) hx rfl (hb hby own_d1_9) rfl (XT.ii_ge_f c9_20)) ?_
    show own_Ends _ _ _ _ (T18.setTop (mkF m 12 #[.val (.int x0), .unset] []))
    refine own_getS Y19 hx hZ hown (host := "") (Or.inl (hw _ (List.mem_of_getElem? (i := 8) rfl))) Via.refl S rfl (hb hby own_d1_12) (fun T21 Y22 => ?_)
    show own_Ends _ _ _ _ (T21.setTop (mkF m 15 #[.val (.int x0), .unset] [(.ref r)]))
    refine own_st (fun t_ => XS.iloadN (own_here Y22) hx rfl (hb hby own_d1_15) rfl) ?_
    show own_Ends _ _ _ _ (T21.setTop (mkF m 16 #[.val (.int x0), .unset] [(.int x0), (.ref r)]))
    have hp : 0 < x0.toInt ∧ x0.toInt < 622 := by have a := c1_17; have b := c9_20; simp only [own_lt] at a b; have e0 : (0 : Int32).toInt = 0 := rfl; have e1 : (622 : Int32).toInt = 622 := rfl; omega
    obtain ⟨i, hi⟩ : ∃ i : Nat, x0.toInt = (i : Int) := ⟨x0.toInt.toNat, by omega⟩
    obtain ⟨hj0, hj1⟩ := own_nat hi
    refine own_ldI Y22 hx hZ A (i := i) hj0 hj1 (by omega) (v := (.int (own_t (i : Int)))) (hT i (by omega)) rfl rfl (hb hby own_d1_16) ?_
    show own_Ends _ _ _ _ (T21.setTop (mkF m 17 #[.val (.int x0), .unset] [(.int (own_t (i : Int)))]))
    refine own_st (fun t_ => XS.goto (own_here Y22) hx rfl (pc0 := 17) (pc' := 21) rfl (hb hby own_d1_17) (by decide) (by decide)) ?_
    show own_Ends _ _ _ _ (T21.setTop (mkF m 21 #[.val (.int x0), .unset] [(.int (own_t (i : Int)))]))
    refine own_st (fun t_ => XS.istoreN (own_here Y22) hx rfl (hb hby own_d1_21) rfl (l' := #[.val (.int x0), .val (.int (own_t (i : Int)))]) rfl) ?_
    show own_Ends _ _ _ _ (T21.setTop (mkF m 22 #[.val (.int x0), .val (.int (own_t (i : Int)))] []))
    refine own_st (fun t_ => XS.iloadN (own_here Y22) hx rfl (hb hby own_d1_22) rfl) ?_
    show own_Ends _ _ _ _ (T21.setTop (mkF m 23 #[.val (.int x0), .val (.int (own_t (i : Int)))] [(.int (own_t (i : Int)))]))
    by_cases c23_23 : (own_t (i : Int)) = (0 : Int32)
    ·
     refine own_st (fun t_ => XS.ifNo (own_here Y22) hx rfl (hb hby own_d1_23) rfl (XT.i0_ne_f c23_23)) ?_
     show own_Ends _ _ _ _ (T21.setTop (mkF m 26 #[.val (.int x0), .val (.int (own_t (i : Int)))] []))
     refine own_st (fun t_ => XS.iconst (own_here Y22) hx rfl (hb hby own_d1_26) ) ?_
     show own_Ends _ _ _ _ (T21.setTop (mkF m 27 #[.val (.int x0), .val (.int (own_t (i : Int)))] [(.int (-1 : Int32))]))
     refine own_st (fun t_ => XS.goto (own_here Y22) hx rfl (pc0 := 27) (pc' := 31) rfl (hb hby own_d1_27) (by decide) (by decide)) ?_
     show own_Ends _ _ _ _ (T21.setTop (mkF m 31 #[.val (.int x0), .val (.int (own_t (i : Int)))] [(.int (-1 : Int32))]))
     refine own_retI Y22 hx hlk hret (hb hby own_d1_31) (by decide) (by decide) ?_
     refine ⟨?_, rfl⟩
     rw [hi, own_t_e]
     simp [c23_23]
    ·
     refine own_st (fun t_ => XS.ifYes (own_here Y22) hx rfl (pc0 := 23) (pc' := 30) rfl (hb hby own_d1_23) rfl (XT.i0_ne_t c23_23) (by decide) (by decide)) ?_
     show own_Ends _ _ _ _ (T21.setTop (mkF m 30 #[.val (.int x0), .val (.int (own_t (i : Int)))] []))
     refine own_st (fun t_ => XS.iloadN (own_here Y22) hx rfl (hb hby own_d1_30) rfl) ?_
     show own_Ends _ _ _ _ (T21.setTop (mkF m 31 #[.val (.int x0), .val (.int (own_t (i : Int)))] [(.int (own_t (i : Int)))]))
     refine own_retI Y22 hx hlk hret (hb hby own_d1_31) (by decide) (by decide) ?_
     refine ⟨?_, rfl⟩
     rw [hi, own_t_e]
     simp [c23_23]
   ·
    refine own_st (fun t_ => XS.icmpYes (own_here Y19) hx rfl (pc0 := 9) (pc' := 20) rfl (hb hby own_d1_9) rfl (XT.ii_ge_t c9_20) (by decide) (by decide)) ?_
    show own_Ends _ _ _ _ (T18.setTop (mkF m 20 #[.val (.int x0), .unset] []))
    refine own_st (fun t_ => XS.iconst (own_here Y19) hx rfl (hb hby own_d1_20) ) ?_
    show own_Ends _ _ _ _ (T18.setTop (mkF m 21 #[.val (.int x0), .unset] [(.int (0 : Int32))]))
    refine own_st (fun t_ => XS.istoreN (own_here Y19) hx rfl (hb hby own_d1_21) rfl (l' := #[.val (.int x0), .val (.int (0 : Int32))]) rfl) ?_
    show own_Ends _ _ _ _ (T18.setTop (mkF m 22 #[.val (.int x0), .val (.int (0 : Int32))] []))
    refine own_st (fun t_ => XS.iloadN (own_here Y19) hx rfl (hb hby own_d1_22) rfl) ?_
    show own_Ends _ _ _ _ (T18.setTop (mkF m 23 #[.val (.int x0), .val (.int (0 : Int32))] [(.int (0 : Int32))]))
    refine own_st (fun t_ => XS.ifNo (own_here Y19) hx rfl (hb hby own_d1_23) rfl (XT.i0_ne_f (by decide))) ?_
    show own_Ends _ _ _ _ (T18.setTop (mkF m 26 #[.val (.int x0), .val (.int (0 : Int32))] []))
    refine own_st (fun t_ => XS.iconst (own_here Y19) hx rfl (hb hby own_d1_26) ) ?_
    show own_Ends _ _ _ _ (T18.setTop (mkF m 27 #[.val (.int x0), .val (.int (0 : Int32))] [(.int (-1 : Int32))]))
    refine own_st (fun t_ => XS.goto (own_here Y19) hx rfl (pc0 := 27) (pc' := 31) rfl (hb hby own_d1_27) (by decide) (by decide)) ?_
    show own_Ends _ _ _ _ (T18.setTop (mkF m 31 #[.val (.int x0), .val (.int (0 : Int32))] [(.int (-1 : Int32))]))
    refine own_retI Y19 hx hlk hret (hb hby own_d1_31) (by decide) (by decide) ?_
    refine ⟨?_, rfl⟩
    have : own_e x0.toInt = -1 := own_e_out (by have q0 := c1_17; have q1 := c9_20; simp only [own_lt] at q0 q1; have e0 : (0 : Int32).toInt = 0 := rfl; have e1 : (622 : Int32).toInt = 622 := rfl; omega)
    rw [this]
  ·
   refine own_st (fun t_ => XS.ifYes (own_here Y0) hx rfl (pc0 := 1) (pc' := 20) rfl (hb hby own_d1_1) rfl (XT.i0_le_t c1_17) (by decide) (by decide)) ?_
   show own_Ends _ _ _ _ (T0.setTop (mkF m 20 #[.val (.int x0), .unset] []))
   refine own_st (fun t_ => XS.iconst (own_here Y0) hx rfl (hb hby own_d1_20) ) ?_
   show own_Ends _ _ _ _ (T0.setTop (mkF m 21 #[.val (.int x0), .unset] [(.int (0 : Int32))]))
   refine own_st (fun t_ => XS.istoreN (own_here Y0) hx rfl (hb hby own_d1_21) rfl (l' := #[.val (.int x0), .val (.int (0 : Int32))]) rfl) ?_
   show own_Ends _ _ _ _ (T0.setTop (mkF m 22 #[.val (.int x0), .val (.int (0 : Int32))] []))
   refine own_st (fun t_ => XS.iloadN (own_here Y0) hx rfl (hb hby own_d1_22) rfl) ?_
   show own_Ends _ _ _ _ (T0.setTop (mkF m 23 #[.val (.int x0), .val (.int (0 : Int32))] [(.int (0 : Int32))]))
   refine own_st (fun t_ => XS.ifNo (own_here Y0) hx rfl (hb hby own_d1_23) rfl (XT.i0_ne_f (by decide))) ?_
   show own_Ends _ _ _ _ (T0.setTop (mkF m 26 #[.val (.int x0), .val (.int (0 : Int32))] []))
   refine own_st (fun t_ => XS.iconst (own_here Y0) hx rfl (hb hby own_d1_26) ) ?_
   show own_Ends _ _ _ _ (T0.setTop (mkF m 27 #[.val (.int x0), .val (.int (0 : Int32))] [(.int (-1 : Int32))]))
   refine own_st (fun t_ => XS.goto (own_here Y0) hx rfl (pc0 := 27) (pc' := 31) rfl (hb hby own_d1_27) (by decide) (by decide)) ?_
   show own_Ends _ _ _ _ (T0.setTop (mkF m 31 #[.val (.int x0), .val (.int (0 : Int32))] [(.int (-1 : Int32))]))
   refine own_retI Y0 hx hlk hret (hb hby own_d1_31) (by decide) (by decide) ?_
   refine ⟨?_, rfl⟩
   have : own_e x0.toInt = -1 := own_e_out (by have q0 := c1_17; simp only [own_lt] at q0; have e0 : (0 : Int32).toInt = 0 := rfl; have e1 : (622 : Int32).toInt = 622 := rfl; omega)
   rw [this]
theorem own_pd0 : parseMethodDescriptor "(I)I" = some ⟨[.int], some .int⟩ := by decide +kernel
theorem own_ef_own_rm0 (m : MethodId) (x0 : Int32) (x1 : Int32) : entryFrame m #[(.int x0), (.int x1)] maxLocals = mkF m 0 #[.val (.int x0), .val (.int x1), .unset] [] := by first | (simp [entryFrame, mkF, argsToLocals, Value.category, maxLocals]; done) | rfl
def own_Q_own_rm0 (Z : State) (x0 : Int32) (x1 : Int32) (h0 : Heap) (n0 : Nat) (v : Option Value) (h : Heap) : Prop := v = some (.int 1)
set_option maxRecDepth 65536 in
set_option maxHeartbeats 40000000 in
theorem own_rm0 (l : Launch) (Z : State) (a0 : Array Value) (hw : ∀ d ∈ tables_1, d.before a0 Z = true) (ws : List Jvm.Cond) (x0 : Int32) (x1 : Int32) (r : Addr) (vs : List Value) (h0 : Heap) (n0 : Nat) (Z0 : n0 ≤ h0.size) (S : Sta Z h0 "com/example/tagwire/tagwire/wire/DataFields" "ANNOUNCED" "[I" (.ref r)) (A : own_A Z h0 r .int vs) (hlen : vs.length = 622) (hT : ∀ i : Nat, i < 622 → vs[i]? = some (.int (own_t (i : Int)))) :
    own_Con l Z x code maxLocals ret ws room_1 #[(.int x0), (.int x1)] h0 n0 (own_Q_own_rm0 Z x0 x1 h0 n0) := by
  refine own_body (plainFor_of_name own_pn0) ?_
  intro p e s m below meth c T0 hx hZ hby hml hown hnm hret hlk Y0
  replace hown : s.vm.findClass "com/example/tagwire/tagwire/wire/DataFieldsAnnouncedByPinLaw" = some m.cls := hown
  replace hml : c.maxLocals = 3 := hml
  replace hret : meth.sig.returnType = some .boolean := hret
  rw [own_ef_own_rm0 m x0 x1]
  show own_Ends _ _ _ _ (T0.setTop (mkF m 0 #[.val (.int x0), .val (.int x1), .unset] []))
  refine own_st (fun t_ => XS.iloadN (own_here Y0) hx rfl (hb hby at_0) rfl) ?_
  show own_Ends _ _ _ _ (T0.setTop (mkF m 1 #[.val (.int x0), .val (.int x1), .unset] [(.int x1)]))
  refine own_st (fun t_ => XS.iconst (own_here Y0) hx rfl (hb hby at_1) ) ?_
  show own_Ends _ _ _ _ (T0.setTop (mkF m 2 #[.val (.int x0), .val (.int x1), .unset] [(.int (3 : Int32)), (.int x1)]))
  refine own_st (fun t_ => XS.iand (own_here Y0) hx rfl (hb hby at_2) rfl) ?_
  show own_Ends _ _ _ _ (T0.setTop (mkF m 3 #[.val (.int x0), .val (.int x1), .unset] [(.int (x1 &&& (3 : Int32)))]))
  by_cases c3_24 : (x1 &&& (3 : Int32)) = (0 : Int32)
  ·
   refine own_st (fun t_ => XS.ifNo (own_here Y0) hx rfl (hb hby at_3) rfl (XT.i0_ne_f c3_24)) ?_
   show own_Ends _ _ _ _ (T0.setTop (mkF m 6 #[.val (.int x0), .val (.int x1), .unset] []))
   refine own_st (fun t_ => XS.iloadN (own_here Y0) hx rfl (hb hby at_6) rfl) ?_
   show own_Ends _ _ _ _ (T0.setTop (mkF m 7 #[.val (.int x0), .val (.int x1), .unset] [(.int x0)]))
   refine own_st (fun t_ => XS.goto (own_here Y0) hx rfl (pc0 := 7) (pc' := 17) rfl (hb hby at_7) (by decide) (by decide)) ?_
   show own_Ends _ _ _ _ (T0.setTop (mkF m 17 #[.val (.int x0), .val (.int x1), .unset] [(.int x0)]))
   refine own_st (fun t_ => XS.istoreN (own_here Y0) hx rfl (hb hby at_17) rfl (l' := #[.val (.int x0), .val (.int x1), .val (.int x0)]) rfl) ?_
   show own_Ends _ _ _ _ (T0.setTop (mkF m 18 #[.val (.int x0), .val (.int x1), .val (.int x0)] []))
   refine own_st (fun t_ => XS.iloadN (own_here Y0) hx rfl (hb hby at_18) rfl) ?_
   show own_Ends _ _ _ _ (T0.setTop (mkF m 19 #[.val (.int x0), .val (.int x1), .val (.int x0)] [(.int x0)]))
   refine own_callS Y0 hx hZ (y := (⟨"com/example/tagwire/tagwire/wire/DataFields", "announcedBy", "(I)I"⟩ : MethodName)) hown (hw _ (List.mem_of_getElem? (i := 0) rfl)) (hw _ (List.mem_of_getElem? (i := 1) rfl)) (hw _ (List.mem_of_getElem? (i := 2) rfl)) (hw _ (List.mem_of_getElem? (i := 3) rfl)) (by decide) (argsL := [(.int x0)]) (rest := []) (own_rm1 l Z a0 hw [] x0 r vs h0 n0  S A hlen hT) (W := 0) (by decide) (by decide) (by decide) (by decide) rfl (by rw [hml]; rfl) (lenOf own_pd0 rfl) rfl (by show 2 * 0 + _ ≤ _; exact Nat.le_of_eq rfl) (hb hby at_19) (fun T25 h27 v28 Y26 q29 => ?_)
   obtain ⟨rfl, rfl⟩ := q29
   show own_Ends _ _ _ _ (T25.setTop (mkF m 22 #[.val (.int x0), .val (.int x1), .val (.int x0)] [(.int (own_e x0.toInt))]))
   refine own_st (fun t_ => XS.iloadN (own_here Y26) hx rfl (hb hby at_22) rfl) ?_
   show own_Ends _ _ _ _ (T25.setTop (mkF m 23 #[.val (.int x0), .val (.int x1), .val (.int x0)] [(.int x0), (.int (own_e x0.toInt))]))
   refine own_callS Y26 hx hZ (y := (⟨"com/example/tagwire/tagwire/wire/DataFieldsAnnouncedByPinLaw", "expected", "(I)I"⟩ : MethodName)) hown (hw _ (List.mem_of_getElem? (i := 4) rfl)) (hw _ (List.mem_of_getElem? (i := 5) rfl)) (hw _ (List.mem_of_getElem? (i := 6) rfl)) (hw _ (List.mem_of_getElem? (i := 7) rfl)) (by decide) (argsL := [(.int x0)]) (rest := [(.int (own_e x0.toInt))]) (own_rm2 l Z a0 hw [] x0  h0 n0  ) (W := 1) (by decide) (by decide) (by decide) (by decide) rfl (by rw [hml]; rfl) (lenOf own_pd0 rfl) rfl (by show 2 * 0 + _ ≤ _; exact Nat.le_of_eq rfl) (hb hby at_23) (fun T30 h32 v33 Y31 q34 => ?_)
   obtain ⟨rfl, rfl⟩ := q34
   show own_Ends _ _ _ _ (T30.setTop (mkF m 26 #[.val (.int x0), .val (.int x1), .val (.int x0)] [(.int (own_e x0.toInt)), (.int (own_e x0.toInt))]))
   refine own_st (fun t_ => XS.icmpNo (own_here Y31) hx rfl (hb hby at_26) rfl (XT.ii_ne_f rfl)) ?_
   show own_Ends _ _ _ _ (T30.setTop (mkF m 29 #[.val (.int x0), .val (.int x1), .val (.int x0)] []))
   refine own_st (fun t_ => XS.iconst (own_here Y31) hx rfl (hb hby at_29) ) ?_
   show own_Ends _ _ _ _ (T30.setTop (mkF m 30 #[.val (.int x0), .val (.int x1), .val (.int x0)] [(.int (1 : Int32))]))
   refine own_st (fun t_ => XS.goto (own_here Y31) hx rfl (pc0 := 30) (pc' := 34) rfl (hb hby at_30) (by decide) (by decide)) ?_
   show own_Ends _ _ _ _ (T30.setTop (mkF m 34 #[.val (.int x0), .val (.int x1), .val (.int x0)] [(.int (1 : Int32))]))
   refine own_retN Y31 hx hlk (t := .boolean) hret (by simp) (hb hby at_34) (by decide) (by decide) ?_
   exact rfl
  ·
   refine own_st (fun t_ => XS.ifYes (own_here Y0) hx rfl (pc0 := 3) (pc' := 10) rfl (hb hby at_3) rfl (XT.i0_ne_t c3_24) (by decide) (by decide)) ?_
   show own_Ends _ _ _ _ (T0.setTop (mkF m 10 #[.val (.int x0), .val (.int x1), .unset] []))
   refine own_st (fun t_ => XS.iloadN (own_here Y0) hx rfl (hb hby at_10) rfl) ?_
   show own_Ends _ _ _ _ (T0.setTop (mkF m 11 #[.val (.int x0), .val (.int x1), .unset] [(.int x0)]))
   refine own_st (fun t_ => XS.sipush (own_here Y0) hx rfl (hb hby at_11) ) ?_
   show own_Ends _ _ _ _ (T0.setTop (mkF m 14 #[.val (.int x0), .val (.int x1), .unset] [(.int (1023 : Int32)), (.int x0)]))
   refine own_st (fun t_ => XS.iand (own_here Y0) hx rfl (hb hby at_14) rfl) ?_
   show own_Ends _ _ _ _ (T0.setTop (mkF m 15 #[.val (.int x0), .val (.int x1), .unset] [(.int (x0 &&& (1023 : Int32)))]))
   refine own_st (fun t_ => XS.iconst (own_here Y0) hx rfl (hb hby at_15) ) ?_
   show own_Ends _ _ _ _ (T0.setTop (mkF m 16 #[.val (.int x0), .val (.int x1), .unset] [(.int (2 : Int32)), (.int (x0 &&& (1023 : Int32)))]))
   refine own_st (fun t_ => XS.isub (own_here Y0) hx rfl (hb hby at_16) rfl) ?_
   show own_Ends _ _ _ _ (T0.setTop (mkF m 17 #[.val (.int x0), .val (.int x1), .unset] [(.int ((x0 &&& (1023 : Int32)) - (2 : Int32)))]))
   refine own_st (fun t_ => XS.istoreN (own_here Y0) hx rfl (hb hby at_17) rfl (l' := #[.val (.int x0), .val (.int x1), .val (.int ((x0 &&& (1023 : Int32)) - (2 : Int32)))]) rfl) ?_
   show own_Ends _ _ _ _ (T0.setTop (mkF m 18 #[.val (.int x0), .val (.int x1), .val (.int ((x0 &&& (1023 : Int32)) - (2 : Int32)))] []))
   refine own_st (fun t_ => XS.iloadN (own_here Y0) hx rfl (hb hby at_18) rfl) ?_
   show own_Ends _ _ _ _ (T0.setTop (mkF m 19 #[.val (.int x0), .val (.int x1), .val (.int ((x0 &&& (1023 : Int32)) - (2 : Int32)))] [(.int ((x0 &&& (1023 : Int32)) - (2 : Int32)))]))
   refine own_callS Y0 hx hZ (y := (⟨"com/example/tagwire/tagwire/wire/DataFields", "announcedBy", "(I)I"⟩ : MethodName)) hown (hw _ (List.mem_of_getElem? (i := 0) rfl)) (hw _ (List.mem_of_getElem? (i := 1) rfl)) (hw _ (List.mem_of_getElem? (i := 2) rfl)) (hw _ (List.mem_of_getElem? (i := 3) rfl)) (by decide) (argsL := [(.int ((x0 &&& (1023 : Int32)) - (2 : Int32)))]) (rest := []) (own_rm1 l Z a0 hw [] ((x0 &&& (1023 : Int32)) - (2 : Int32)) r vs h0 n0  S A hlen hT) (W := 0) (by decide) (by decide) (by decide) (by decide) rfl (by rw [hml]; rfl) (lenOf own_pd0 rfl) rfl (by show 2 * 0 + _ ≤ _; exact Nat.le_of_eq rfl) (hb hby at_19) (fun T35 h37 v38 Y36 q39 => ?_)
   obtain ⟨rfl, rfl⟩ := q39
   show own_Ends _ _ _ _ (T35.setTop (mkF m 22 #[.val (.int x0), .val (.int x1), .val (.int ((x0 &&& (1023 : Int32)) - (2 : Int32)))] [(.int (own_e ((x0 &&& (1023 : Int32)) - (2 : Int32)).toInt))]))
   refine own_st (fun t_ => XS.iloadN (own_here Y36) hx rfl (hb hby at_22) rfl) ?_
   show own_Ends _ _ _ _ (T35.setTop (mkF m 23 #[.val (.int x0), .val (.int x1), .val (.int ((x0 &&& (1023 : Int32)) - (2 : Int32)))] [(.int ((x0 &&& (1023 : Int32)) - (2 : Int32))), (.int (own_e ((x0 &&& (1023 : Int32)) - (2 : Int32)).toInt))]))
   refine own_callS Y36 hx hZ (y := (⟨"com/example/tagwire/tagwire/wire/DataFieldsAnnouncedByPinLaw", "expected", "(I)I"⟩ : MethodName)) hown (hw _ (List.mem_of_getElem? (i := 4) rfl)) (hw _ (List.mem_of_getElem? (i := 5) rfl)) (hw _ (List.mem_of_getElem? (i := 6) rfl)) (hw _ (List.mem_of_getElem? (i := 7) rfl)) (by decide) (argsL := [(.int ((x0 &&& (1023 : Int32)) - (2 : Int32)))]) (rest := [(.int (own_e ((x0 &&& (1023 : Int32)) - (2 : Int32)).toInt))]) (own_rm2 l Z a0 hw [] ((x0 &&& (1023 : Int32)) - (2 : Int32))  h0 n0  ) (W := 1) (by decide) (by decide) (by decide) (by decide) rfl (by rw [hml]; rfl) (lenOf own_pd0 rfl) rfl (by show 2 * 0 + _ ≤ _; exact Nat.le_of_eq rfl) (hb hby at_23) (fun T40 h42 v43 Y41 q44 => ?_)
   obtain ⟨rfl, rfl⟩ := q44
   show own_Ends _ _ _ _ (T40.setTop (mkF m 26 #[.val (.int x0), .val (.int x1), .val (.int ((x0 &&& (1023 : Int32)) - (2 : Int32)))] [(.int (own_e ((x0 &&& (1023 : Int32)) - (2 : Int32)).toInt)), (.int (own_e ((x0 &&& (1023 : Int32)) - (2 : Int32)).toInt))]))
   refine own_st (fun t_ => XS.icmpNo (own_here Y41) hx rfl (hb hby at_26) rfl (XT.ii_ne_f rfl)) ?_
   show own_Ends _ _ _ _ (T40.setTop (mkF m 29 #[.val (.int x0), .val (.int x1), .val (.int ((x0 &&& (1023 : Int32)) - (2 : Int32)))] []))
   refine own_st (fun t_ => XS.iconst (own_here Y41) hx rfl (hb hby at_29) ) ?_
   show own_Ends _ _ _ _ (T40.setTop (mkF m 30 #[.val (.int x0), .val (.int x1), .val (.int ((x0 &&& (1023 : Int32)) - (2 : Int32)))] [(.int (1 : Int32))]))
   refine own_st (fun t_ => XS.goto (own_here Y41) hx rfl (pc0 := 30) (pc' := 34) rfl (hb hby at_30) (by decide) (by decide)) ?_
   show own_Ends _ _ _ _ (T40.setTop (mkF m 34 #[.val (.int x0), .val (.int x1), .val (.int ((x0 &&& (1023 : Int32)) - (2 : Int32)))] [(.int (1 : Int32))]))
   refine own_retN Y41 hx hlk (t := .boolean) hret (by simp) (hb hby at_34) (by decide) (by decide) ?_
   exact rfl
theorem own_or {args : Array Value} {first s : State} {o : Option Outcome} {idx : List Nat} {c d : Jvm.Cond} (h : (Jvm.Cond.or c d).value args first o s idx = some true) (hc : c.value args first o s idx = some false) : d.value args first o s idx = some true := by
  simp only [Cond.value, hc] at h
  exact h
theorem own_elemI {args : Array Value} {s : State} {t : Term} {a : Addr} {c : Cell} {j z : Int32} (ev : t.eval args s none [] s = some (.ref a)) (hc : s.heap[a]? = some c) (h : (Jvm.Cond.eq (Jvm.Term.elem t (Jvm.Term.int j)) (Jvm.Term.int z)).value args s none s [] = some true) : c.slots[j.toNatClampNeg]? = some (.int z) := by
  obtain ⟨x, y, h1, h2, -, -⟩ := cmp_v (Or.inl h)
  have q := (elem_in h1 ev rfl hc).2
  have hy : y = .int z := (Option.some.inj h2).symm
  subst hy
  cases x <;> simp [Cond.value, h1, h2] at h
  subst h
  exact q
theorem own_lenI {args : Array Value} {s : State} {t : Term} {a : Addr} {c : Cell} (ev : t.eval args s none [] s = some (.ref a)) (hc : s.arrayAt? a = some c) (h : (Jvm.Cond.eq (Jvm.Term.length t) (Jvm.Term.int 622)).value args s none s [] = some true) : c.slots.size = 622 := by
  obtain ⟨x, y, h1, h2, -, -⟩ := cmp_v (Or.inl h)
  have hy : y = .int 622 := (Option.some.inj h2).symm
  subst hy
  by_cases hl : c.slots.size < 2 ^ 31
  · have q := len_f (first := s) (o := none) ev hc hl
    have hx := Option.some.inj (h1.symm.trans q)
    subst hx
    simp [Cond.value, h1, h2] at h
    have := congrArg Int32.toInt h
    rw [len_toInt hl] at this
    have e : (622 : Int32).toInt = 622 := rfl
    omega
  · simp [Term.eval, ev, hc, hl] at h1
theorem own_allI {args : Array Value} {s : State} {t : Term} {a : Addr} {c : Cell} {lo hi : Int32} (ev : ∀ idx, t.eval args s none idx s = some (.ref a)) (hcA : s.arrayAt? a = some c) (hc : s.heap[a]? = some c) (h31 : c.slots.size < 2 ^ 31)
    (h : (Jvm.Cond.all t (Jvm.Cond.or (Jvm.Cond.lt (Jvm.Term.index 0) (Jvm.Term.int lo)) (Jvm.Cond.or (Jvm.Cond.le (Jvm.Term.int hi) (Jvm.Term.index 0)) (Jvm.Cond.eq (Jvm.Term.elem t (Jvm.Term.index 0)) (Jvm.Term.int 0))))).value args s none s [] = some true) :
    ∀ i : Nat, i < c.slots.size → lo.toInt ≤ (i : Int) → (i : Int) < hi.toInt → c.slots[i]? = some (.int 0) := by
  intro i hi' h1 h2
  have q := Cond.all_elim (ev []) hcA h i hi'
  have ti : i.toInt32.toInt = (i : Int) := len_toInt (by omega)
  have e1 : (Jvm.Term.index 0).eval args s none [i] s = some (.int i.toInt32) := rfl
  have n1 : ¬ i.toInt32 < lo := by rw [Int32.lt_iff_toInt_lt, ti]; omega
  have n2 : ¬ hi ≤ i.toInt32 := by rw [Int32.le_iff_toInt_le, ti]; omega
  have v1 : (Jvm.Cond.lt (Jvm.Term.index 0) (Jvm.Term.int lo)).value args s none s [i] = some false := by simp [Cond.value, e1, Term.eval, n1]
  have v2 : (Jvm.Cond.le (Jvm.Term.int hi) (Jvm.Term.index 0)).value args s none s [i] = some false := by simp [Cond.value, e1, Term.eval, n2]
  have q3 : (Jvm.Cond.eq (Jvm.Term.elem t (Jvm.Term.index 0)) (Jvm.Term.int 0)).value args s none s [i] = some true := by
    exact own_or (own_or q v1) v2
  obtain ⟨x, y, h1', h2', -, -⟩ := cmp_v (Or.inl q3)
  have w := elem_in h1' (ev _) e1 hc
  have hy : y = .int 0 := (Option.some.inj h2').symm
  subst hy
  have e2 : i.toInt32.toNatClampNeg = i := by show i.toInt32.toInt.toNat = i; rw [ti]; rfl
  rw [e2] at w
  cases x <;> simp [Cond.value, h1', h2'] at q3
  subst q3
  exact w.2
theorem own_allI0 {args : Array Value} {s : State} {t : Term} {a : Addr} {c : Cell} {hi : Int32} (ev : ∀ idx, t.eval args s none idx s = some (.ref a)) (hcA : s.arrayAt? a = some c) (hc : s.heap[a]? = some c) (h31 : c.slots.size < 2 ^ 31)
    (h : (Jvm.Cond.all t (Jvm.Cond.or (Jvm.Cond.le (Jvm.Term.int hi) (Jvm.Term.index 0)) (Jvm.Cond.eq (Jvm.Term.elem t (Jvm.Term.index 0)) (Jvm.Term.int 0)))).value args s none s [] = some true) :
    ∀ i : Nat, i < c.slots.size → (i : Int) < hi.toInt → c.slots[i]? = some (.int 0) := by
  intro i hi' h2
  have q := Cond.all_elim (ev []) hcA h i hi'
  have ti : i.toInt32.toInt = (i : Int) := len_toInt (by omega)
  have e1 : (Jvm.Term.index 0).eval args s none [i] s = some (.int i.toInt32) := rfl
  have n2 : ¬ hi ≤ i.toInt32 := by rw [Int32.le_iff_toInt_le, ti]; omega
  have v2 : (Jvm.Cond.le (Jvm.Term.int hi) (Jvm.Term.index 0)).value args s none s [i] = some false := by simp [Cond.value, e1, Term.eval, n2]
  have q3 : (Jvm.Cond.eq (Jvm.Term.elem t (Jvm.Term.index 0)) (Jvm.Term.int 0)).value args s none s [i] = some true := by
    exact own_or q v2
  obtain ⟨x, y, h1', h2', -, -⟩ := cmp_v (Or.inl q3)
  have w := elem_in h1' (ev _) e1 hc
  have hy : y = .int 0 := (Option.some.inj h2').symm
  subst hy
  have e2 : i.toInt32.toNatClampNeg = i := by show i.toInt32.toInt.toNat = i; rw [ti]; rfl
  rw [e2] at w
  cases x <;> simp [Cond.value, h1', h2'] at q3
  subst q3
  exact w.2
set_option maxRecDepth 65536 in
set_option maxHeartbeats 40000000 in
theorem own_comes_1 {Post : Tables → Env → Array Value → State → Outcome → State → Prop} (hpost : ∀ tb e args s v u, (limb_1_1.after args s (.returned v) u = true ∧ limb_1_2.after args s (.returned v) u = true ∧ True) → FrameEnd s (.returned v) u (Jvm.fieldLocs frame_1_writes args s ++ Jvm.arrayLocs frame_1_arrays args s ++ Jvm.staticLocs frame_1_statics s) 0 0 → Post tb e args s (.returned v) u) :
    ArmFor flags0 classFile x code maxLocals ret World_1 tables_1 room_1 Calls_1 rest_1 Pre_1 Post := by
  intro l hfl _ _ p e ha hc hk s m args below hf hA hF happ hP
  obtain ⟨hcalls, hrest, hpre⟩ := hP
  obtain ⟨-, -, -, hnamed, -, -, -, hat⟩ := (Spec.applies_iff hf).mp happ
  obtain ⟨hg, hn⟩ := and_e (Cond.before_iff.mp (show (Jvm.Cond.and given_1 narrow_1).before args s = true from hpre))
  obtain ⟨g1, g2⟩ := and_e hg
  obtain ⟨g3, g4⟩ := and_e g2
  obtain ⟨w0, w1, rfl⟩ : ∃ w0 w1 : Value, args = #[w0, w1] := by
    have hs : args.size = 2 := by simpa [Cond.value, given_1] using g1
    obtain ⟨L⟩ := args
    match L, hs with
    | [w0, w1], _ => exact ⟨w0, w1, rfl⟩
  have hw := fun d (hd : d ∈ tables_1) => atoms_spec (ws := Jvm.Cond.code x code maxLocals ret :: tables_1) hat d (List.mem_cons_of_mem _ hd)
  have hfit : Fit s := fun {y c} hc i hi => by
    obtain ⟨ha, rfl⟩ := Array.getElem?_eq_some_iff.mp hc
    have q := List.all_eq_true.mp ((Array.all_eq_true_iff_forall_mem.mp hF) _ (Array.getElem_mem ha)) i (List.mem_range.mpr hi)
    simpa [Array.getElem?_eq_getElem hi] using q
  obtain ⟨i0, ei0⟩ := is_v g3
  obtain rfl : w0 = (.int i0) := Option.some.inj ei0
  obtain ⟨i1, ei1⟩ := is_v g4
  obtain rfl : w1 = (.int i1) := Option.some.inj ei1
  obtain ⟨u0, hn0⟩ := and_e hn
  obtain ⟨u1, hn1⟩ := and_e hn0
  obtain ⟨u2, hn2⟩ := and_e hn1
  obtain ⟨u3, hn3⟩ := and_e hn2
  obtain ⟨u4, hn4⟩ := and_e hn3
  obtain ⟨u5, hn5⟩ := and_e hn4
  obtain ⟨u6, hn6⟩ := and_e hn5
  obtain ⟨u7, hn7⟩ := and_e hn6
  obtain ⟨u8, hn8⟩ := and_e hn7
  obtain ⟨u9, hn9⟩ := and_e hn8
  obtain ⟨u10, hn10⟩ := and_e hn9
  obtain ⟨u11, hn11⟩ := and_e hn10
  obtain ⟨u12, hn12⟩ := and_e hn11
  obtain ⟨u13, hn13⟩ := and_e hn12
  obtain ⟨u14, hn14⟩ := and_e hn13
  obtain ⟨u15, hn15⟩ := and_e hn14
  obtain ⟨u16, hn16⟩ := and_e hn15
  obtain ⟨u17, hn17⟩ := and_e hn16
  obtain ⟨u18, hn18⟩ := and_e hn17
  obtain ⟨u19, hn19⟩ := and_e hn18
  obtain ⟨u20, hn20⟩ := and_e hn19
  obtain ⟨u21, hn21⟩ := and_e hn20
  obtain ⟨u22, hn22⟩ := and_e hn21
  obtain ⟨u23, hn23⟩ := and_e hn22
  obtain ⟨u24, hn24⟩ := and_e hn23
  obtain ⟨u25, hn25⟩ := and_e hn24
  obtain ⟨u26, hn26⟩ := and_e hn25
  obtain ⟨u27, hn27⟩ := and_e hn26
  obtain ⟨u28, hn28⟩ := and_e hn27
  obtain ⟨u29, hn29⟩ := and_e hn28
  obtain ⟨u30, hn30⟩ := and_e hn29
  obtain ⟨u31, hn31⟩ := and_e hn30
  obtain ⟨u32, hn32⟩ := and_e hn31
  obtain ⟨u33, hn33⟩ := and_e hn32
  obtain ⟨u34, hn34⟩ := and_e hn33
  have u35 := hn34
  obtain ⟨r, ev⟩ := arr_v u0
  have S0 := Sta.start ev (Or.inr ⟨(hw _ (List.mem_of_getElem? (i := 2) rfl)), (hw _ (List.mem_of_getElem? (i := 9) rfl))⟩)
  obtain ⟨cl, Ar⟩ := Arr.start ev u0
  have hAt : s.arrayAt? r = some cl := Ar.fin (Vm.Alike.refl _)
  have hsz : cl.slots.size = 622 := own_lenI ev hAt u1
  have R0 := own_allI0 (fun _ => ev) hAt Ar.1 (by omega) u2
  have k90 : cl.slots[90]? = some (.int 91) := own_elemI ev Ar.1 u3
  have k91 : cl.slots[91]? = some (.int 0) := own_elemI ev Ar.1 u4
  have k92 : cl.slots[92]? = some (.int 0) := own_elemI ev Ar.1 u5
  have k93 : cl.slots[93]? = some (.int 89) := own_elemI ev Ar.1 u6
  have k94 : cl.slots[94]? = some (.int 0) := own_elemI ev Ar.1 u7
  have k95 : cl.slots[95]? = some (.int 96) := own_elemI ev Ar.1 u8
  have R96 := own_allI (fun _ => ev) hAt Ar.1 (by omega) u9
  have k212 : cl.slots[212]? = some (.int 213) := own_elemI ev Ar.1 u10
  have R213 := own_allI (fun _ => ev) hAt Ar.1 (by omega) u11
  have k348 : cl.slots[348]? = some (.int 349) := own_elemI ev Ar.1 u12
  have k349 : cl.slots[349]? = some (.int 0) := own_elemI ev Ar.1 u13
  have k350 : cl.slots[350]? = some (.int 351) := own_elemI ev Ar.1 u14
  have k351 : cl.slots[351]? = some (.int 0) := own_elemI ev Ar.1 u15
  have k352 : cl.slots[352]? = some (.int 353) := own_elemI ev Ar.1 u16
  have k353 : cl.slots[353]? = some (.int 0) := own_elemI ev Ar.1 u17
  have k354 : cl.slots[354]? = some (.int 355) := own_elemI ev Ar.1 u18
  have k355 : cl.slots[355]? = some (.int 0) := own_elemI ev Ar.1 u19
  have k356 : cl.slots[356]? = some (.int 357) := own_elemI ev Ar.1 u20
  have k357 : cl.slots[357]? = some (.int 0) := own_elemI ev Ar.1 u21
  have k358 : cl.slots[358]? = some (.int 359) := own_elemI ev Ar.1 u22
  have k359 : cl.slots[359]? = some (.int 0) := own_elemI ev Ar.1 u23
  have k360 : cl.slots[360]? = some (.int 361) := own_elemI ev Ar.1 u24
  have k361 : cl.slots[361]? = some (.int 0) := own_elemI ev Ar.1 u25
  have k362 : cl.slots[362]? = some (.int 363) := own_elemI ev Ar.1 u26
  have k363 : cl.slots[363]? = some (.int 0) := own_elemI ev Ar.1 u27
  have k364 : cl.slots[364]? = some (.int 365) := own_elemI ev Ar.1 u28
  have R365 := own_allI (fun _ => ev) hAt Ar.1 (by omega) u29
  have k445 : cl.slots[445]? = some (.int 446) := own_elemI ev Ar.1 u30
  have R446 := own_allI (fun _ => ev) hAt Ar.1 (by omega) u31
  have k618 : cl.slots[618]? = some (.int 619) := own_elemI ev Ar.1 u32
  have k619 : cl.slots[619]? = some (.int 0) := own_elemI ev Ar.1 u33
  have k620 : cl.slots[620]? = some (.int 0) := own_elemI ev Ar.1 u34
  have k621 : cl.slots[621]? = some (.int 622) := own_elemI ev Ar.1 u35
  have hT : ∀ i : Nat, i < 622 → cl.slots.toList[i]? = some (.int (own_t (i : Int))) := by
    intro i hi
    rw [Array.getElem?_toList]
    by_cases e0 : i < 90
    · rw [R0 i (by omega) (show (i : Int) < 90 by omega)]; congr 2; unfold own_t; repeat rw [if_neg (by omega)]
    by_cases e90 : i = 90
    · subst e90; exact k90
    by_cases e91 : i = 91
    · subst e91; exact k91
    by_cases e92 : i = 92
    · subst e92; exact k92
    by_cases e93 : i = 93
    · subst e93; exact k93
    by_cases e94 : i = 94
    · subst e94; exact k94
    by_cases e95 : i = 95
    · subst e95; exact k95
    by_cases e96 : i < 212
    · rw [R96 i (by omega) (show (96 : Int) ≤ i by omega) (show (i : Int) < 212 by omega)]; congr 2; unfold own_t; repeat rw [if_neg (by omega)]
    by_cases e212 : i = 212
    · subst e212; exact k212
    by_cases e213 : i < 348
    · rw [R213 i (by omega) (show (213 : Int) ≤ i by omega) (show (i : Int) < 348 by omega)]; congr 2; unfold own_t; repeat rw [if_neg (by omega)]
    by_cases e348 : i = 348
    · subst e348; exact k348
    by_cases e349 : i = 349
    · subst e349; exact k349
    by_cases e350 : i = 350
    · subst e350; exact k350
    by_cases e351 : i = 351
    · subst e351; exact k351
    by_cases e352 : i = 352
    · subst e352; exact k352
    by_cases e353 : i = 353
    · subst e353; exact k353
    by_cases e354 : i = 354
    · subst e354; exact k354
    by_cases e355 : i = 355
    · subst e355; exact k355
    by_cases e356 : i = 356
    · subst e356; exact k356
    by_cases e357 : i = 357
    · subst e357; exact k357
    by_cases e358 : i = 358
    · subst e358; exact k358
    by_cases e359 : i = 359
    · subst e359; exact k359
    by_cases e360 : i = 360
    · subst e360; exact k360
    by_cases e361 : i = 361
    · subst e361; exact k361
    by_cases e362 : i = 362
    · subst e362; exact k362
    by_cases e363 : i = 363
    · subst e363; exact k363
    by_cases e364 : i = 364
    · subst e364; exact k364
    by_cases e365 : i < 445
    · rw [R365 i (by omega) (show (365 : Int) ≤ i by omega) (show (i : Int) < 445 by omega)]; congr 2; unfold own_t; repeat rw [if_neg (by omega)]
    by_cases e445 : i = 445
    · subst e445; exact k445
    by_cases e446 : i < 618
    · rw [R446 i (by omega) (show (446 : Int) ≤ i by omega) (show (i : Int) < 618 by omega)]; congr 2; unfold own_t; repeat rw [if_neg (by omega)]
    by_cases e618 : i = 618
    · subst e618; exact k618
    by_cases e619 : i = 619
    · subst e619; exact k619
    by_cases e620 : i = 620
    · subst e620; exact k620
    by_cases e621 : i = 621
    · subst e621; exact k621
    exact absurd hi (by omega)
  obtain ⟨n, o, h1, h2, h3, _, L, rfl, ⟨N, rfl⟩, hq⟩ := own_rm0 l s _ hw tables_1 i0 i1 r cl.slots.toList s.heap s.heap.size (Nat.le_refl _) S0 ⟨cl, Ar, rfl, by simp [hsz]⟩ (by simp [hsz]) hT p e ha hc hk s m _ below hf ((Spec.applies_iff_loose hf).mp happ).1 ⟨rfl, State.Warmed39.refl s, rfl⟩ trivial
  refine ⟨n, _, h1, h2, h3, hpost _ _ _ _ _ _ ⟨Cond.after_iff.mpr rfl, Cond.after_iff.mpr (eq_i res_at (Term.int_eval (1)) rfl), trivial⟩ ⟨hq.1, hq.2.1, (hq.2.2.sift fun y hy => Or.inr (N y hy)).mono (by decide) (by decide)⟩⟩
theorem main_1_1 : Claimed_1_1 := own_comes_1 fun _ _ _ _ _ _ h hF => ⟨h.1, hF⟩
theorem main_1_2 : Claimed_1_2 := own_comes_1 fun _ _ _ _ _ _ h hF => ⟨h.2.1, hF⟩
end Jvm.Pilot.@@N@@
namespace Jvm.Pilot.@@N@@
open Jvm Jvm.ClassFile Sem Op Lib Jvm.Free Jvm.Stand Jvm.Pilot.@@N@@.Jvm.D
/-! MADE BY PROGRAM (witnessworld.py) out of the Statement's table words and the real class files: 9 classes; the members and pool entries that the words name. The judged class is class 1, her method 1. -/
namespace start1
open Jvm.ClassFile
def u (s : String) : CpInfo := .utf8 (stringToUtf16 s)
/-- a pool by its gaps: so many unusable entries, then the entry; so many at the end -/
def gap : Nat → List CpInfo → List CpInfo
  | 0, r => r
  | n + 1, r => .unusable :: gap n r
def poolList (es : List (Nat × CpInfo)) (last : Nat) : List CpInfo := es.foldr (fun e r => gap e.1 (e.2 :: r)) (gap last [])
def pool (es : List (Nat × CpInfo)) (last : Nat) : Array CpInfo := ⟨poolList es last⟩
def fileOf (pool : Array CpInfo) (this : Nat) (attrs : Array Attribute := #[]) (ms : Array MethodInfo := #[]) (fl : Nat := 33) (sup : Nat := 0) (ifs : Array Nat := #[]) (fds : Array FieldInfo := #[]) : ClassFile where
  minorVersion := 0
  majorVersion := 65
  constantPool := pool
  accessFlags := fl
  thisClass := this
  superClass := sup
  interfaces := ifs
  fields := fds
  methods := ms
  attributes := attrs
def plain (name : String) (sup : Option ClassId) : Class where
  name := name
  kind := .ordinary
  loader := none
  accessFlags := 33
  super := sup
  interfaces := #[]
  cf := none
  fields := #[]
  methods := #[]
  instanceTypes := #[]
  staticTypes := #[]
  resolved := #[]
  callSites := []
  init := .initialized
  statics := none
  mirror := none

def pool0 : Array CpInfo := pool [(5, u "<init>"), (0, u "()V"), (1, .class_ 10), (1, u "java/lang/Object")] 113

def k0m0 : Method := { name := "<init>", desc := "()V", sig := { parameters := [], returnType := none }, accessFlags := 1, code := none }
/-- java/lang/Object -/
def k0 : Class := { plain "java/lang/Object" none with
  accessFlags := 33
  interfaces := #[]
  cf := some (fileOf pool0 8 #[] #[{ accessFlags := 1, nameIndex := 5, descriptorIndex := 6, attributes := #[] }] 33 0 #[] #[])
  fields := #[]
  methods := #[k0m0]
  instanceTypes := #[]
  staticTypes := #[]
  resolved := Array.replicate 124 none
  statics := none }

def pool1 : Array CpInfo := pool [(2, .class_ 4), (1, u "java/lang/Object"), (0, u "<init>"), (0, u "()V"), (0, .methodref 8 9), (0, .class_ 10), (0, .nameAndType 11 12), (0, u "com/example/tagwire/tagwire/wire/DataFields"), (0, u "announcedBy"), (0, u "(I)I"), (0, .methodref 14 15), (0, .class_ 16), (0, .nameAndType 17 12), (0, u "com/example/tagwire/tagwire/wire/DataFieldsAnnouncedByPinLaw"), (0, u "expected"), (2, u "law"), (0, u "(II)Z")] 3

def k1m0 : Method := { name := "<init>", desc := "()V", sig := { parameters := [], returnType := none }, accessFlags := 2, code := none }
def k1c1 : Code := { maxStack := 2, maxLocals := 3, code := code, exceptionTable := #[], attributes := #[] }
def k1m1 : Method := { name := "law", desc := "(II)Z", sig := { parameters := [.int, .int], returnType := some .boolean }, accessFlags := 9, code := some k1c1 }
def k1c2 : Code := { maxStack := 2, maxLocals := 1, code := method_3_code, exceptionTable := #[], attributes := #[] }
def k1m2 : Method := { name := "expected", desc := "(I)I", sig := { parameters := [.int], returnType := some .int }, accessFlags := 10, code := some k1c2 }
/-- com/example/tagwire/tagwire/wire/DataFieldsAnnouncedByPinLaw -/
def k1 : Class := { plain "com/example/tagwire/tagwire/wire/DataFieldsAnnouncedByPinLaw" (some 0) with
  accessFlags := 49
  interfaces := #[]
  cf := some (fileOf pool1 14 #[] #[{ accessFlags := 2, nameIndex := 5, descriptorIndex := 6, attributes := #[] }, { accessFlags := 9, nameIndex := 20, descriptorIndex := 21, attributes := #[] }, { accessFlags := 10, nameIndex := 17, descriptorIndex := 12, attributes := #[] }] 49 2 #[] #[])
  fields := #[]
  methods := #[k1m0, k1m1, k1m2]
  instanceTypes := #[]
  staticTypes := #[]
  resolved := Array.replicate 25 none
  statics := none }

def pool2 : Array CpInfo := pool [(2, .class_ 4), (1, u "java/lang/Object"), (0, u "<init>"), (0, u "()V"), (0, .fieldref 8 9), (0, .class_ 10), (0, .nameAndType 11 12), (0, u "com/example/tagwire/tagwire/wire/DataFields"), (0, u "ANNOUNCED"), (0, u "[I"), (2, u "PAIRS"), (0, u "[[I"), (13, u "announcedBy"), (0, u "(I)I")] 5

def k2m0 : Method := { name := "<init>", desc := "()V", sig := { parameters := [], returnType := none }, accessFlags := 2, code := none }
def k2c1 : Code := { maxStack := 2, maxLocals := 2, code := prog_50_method_2_code, exceptionTable := #[], attributes := #[] }
def k2m1 : Method := { name := "announcedBy", desc := "(I)I", sig := { parameters := [.int], returnType := some .int }, accessFlags := 8, code := some k2c1 }
/-- com/example/tagwire/tagwire/wire/DataFields -/
def k2 : Class := { plain "com/example/tagwire/tagwire/wire/DataFields" (some 0) with
  accessFlags := 48
  interfaces := #[]
  cf := some (fileOf pool2 8 #[] #[{ accessFlags := 2, nameIndex := 5, descriptorIndex := 6, attributes := #[] }, { accessFlags := 8, nameIndex := 30, descriptorIndex := 31, attributes := #[] }] 48 2 #[] #[{ accessFlags := 26, nameIndex := 15, descriptorIndex := 16, attributes := #[] }, { accessFlags := 26, nameIndex := 11, descriptorIndex := 12, attributes := #[] }])
  fields := #[{ name := "PAIRS", type := (.array (.array .int)), accessFlags := 26, slot := 0, constantValue := 0 }, { name := "ANNOUNCED", type := (.array .int), accessFlags := 26, slot := 1, constantValue := 0 }]
  methods := #[k2m0, k2m1]
  instanceTypes := #[]
  staticTypes := #[(.array (.array .int)), (.array .int)]
  resolved := Array.replicate 37 none
  statics := some 0 }

def pool3 : Array CpInfo := pool [(1, u "java/lang/Cloneable"), (0, .class_ 1), (0, u "java/lang/Object"), (0, .class_ 3)] 3

/-- java/lang/Cloneable -/
def k3 : Class := { plain "java/lang/Cloneable" (some 0) with
  accessFlags := 1537
  interfaces := #[]
  cf := some (fileOf pool3 2 #[] #[] 1537 4 #[] #[])
  fields := #[]
  methods := #[]
  instanceTypes := #[]
  staticTypes := #[]
  resolved := Array.replicate 8 none
  statics := none }

def pool4 : Array CpInfo := pool [(1, u "java/io/Serializable"), (0, .class_ 1), (0, u "java/lang/Object"), (0, .class_ 3)] 3

/-- java/io/Serializable -/
def k4 : Class := { plain "java/io/Serializable" (some 0) with
  accessFlags := 1537
  interfaces := #[]
  cf := some (fileOf pool4 2 #[] #[] 1537 4 #[] #[])
  fields := #[]
  methods := #[]
  instanceTypes := #[]
  staticTypes := #[]
  resolved := Array.replicate 8 none
  statics := none }

/-- the primitive byte -/
def k5 : Class := { plain "byte" none with kind := .primitive 'B', accessFlags := 0x411 }
/-- [B -/
def k6 : Class := { plain "[B" (some 0) with kind := .array 5 .byte, interfaces := #[3, 4], accessFlags := 1041 }

/-- the primitive int -/
def k7 : Class := { plain "int" none with kind := .primitive 'I', accessFlags := 0x411 }
/-- [I -/
def k8 : Class := { plain "[I" (some 0) with kind := .array 7 .int, interfaces := #[3, 4], accessFlags := 1041 }

def heap : Heap := #[{ cls := 2, slots := #[.null, .ref 1], vm := .statics 2 },
  { cls := 8, slots := #[.int 0, .int 0, .int 0, .int 0, .int 0, .int 0, .int 0, .int 0, .int 0, .int 0, .int 0, .int 0, .int 0, .int 0, .int 0, .int 0, .int 0, .int 0, .int 0, .int 0, .int 0, .int 0, .int 0, .int 0, .int 0, .int 0, .int 0, .int 0, .int 0, .int 0, .int 0, .int 0, .int 0, .int 0, .int 0, .int 0, .int 0, .int 0, .int 0, .int 0, .int 0, .int 0, .int 0, .int 0, .int 0, .int 0, .int 0, .int 0, .int 0, .int 0, .int 0, .int 0, .int 0, .int 0, .int 0, .int 0, .int 0, .int 0, .int 0, .int 0, .int 0, .int 0, .int 0, .int 0, .int 0, .int 0, .int 0, .int 0, .int 0, .int 0, .int 0, .int 0, .int 0, .int 0, .int 0, .int 0, .int 0, .int 0, .int 0, .int 0, .int 0, .int 0, .int 0, .int 0, .int 0, .int 0, .int 0, .int 0, .int 0, .int 0, .int 91, .int 0, .int 0, .int 89, .int 0, .int 96, .int 0, .int 0, .int 0, .int 0, .int 0, .int 0, .int 0, .int 0, .int 0, .int 0, .int 0, .int 0, .int 0, .int 0, .int 0, .int 0, .int 0, .int 0, .int 0, .int 0, .int 0, .int 0, .int 0, .int 0, .int 0, .int 0, .int 0, .int 0, .int 0, .int 0, .int 0, .int 0, .int 0, .int 0, .int 0, .int 0, .int 0, .int 0, .int 0, .int 0, .int 0, .int 0, .int 0, .int 0, .int 0, .int 0, .int 0, .int 0, .int 0, .int 0, .int 0, .int 0, .int 0, .int 0, .int 0, .int 0, .int 0, .int 0, .int 0, .int 0, .int 0, .int 0, .int 0, .int 0, .int 0, .int 0, .int 0, .int 0, .int 0, .int 0, .int 0, .int 0, .int 0, .int 0, .int 0, .int 0, .int 0, .int 0, .int 0, .int 0, .int 0, .int 0, .int 0, .int 0, .int 0, .int 0, .int 0, .int 0, .int 0, .int 0, .int 0, .int 0, .int 0, .int 0, .int 0, .int 0, .int 0, .int 0, .int 0, .int 0, .int 0, .int 0, .int 0, .int 0, .int 0, .int 0, .int 0, .int 0, .int 0, .int 0, .int 0, .int 0, .int 0, .int 0, .int 0, .int 0, .int 213, .int 0, .int 0, .int 0, .int 0, .int 0, .int 0, .int 0, .int 0, .int 0, .int 0, .int 0, .int 0, .int 0, .int 0, .int 0, .int 0, .int 0, .int 0, .int 0, .int 0, .int 0, .int 0, .int 0, .int 0, .int 0, .int 0, .int 0, .int 0, .int 0, .int 0, .int 0, .int 0, .int 0, .int 0, .int 0, .int 0, .int 0, .int 0, .int 0, .int 0, .int 0, .int 0, .int 0, .int 0, .int 0, .int 0, .int 0, .int 0, .int 0, .int 0, .int 0, .int 0, .int 0, .int 0, .int 0, .int 0, .int 0, .int 0, .int 0, .int 0, .int 0, .int 0, .int 0, .int 0, .int 0, .int 0, .int 0, .int 0, .int 0, .int 0, .int 0, .int 0, .int 0, .int 0, .int 0, .int 0, .int 0, .int 0, .int 0, .int 0, .int 0, .int 0, .int 0, .int 0, .int 0, .int 0, .int 0, .int 0, .int 0, .int 0, .int 0, .int 0, .int 0, .int 0, .int 0, .int 0, .int 0, .int 0, .int 0, .int 0, .int 0, .int 0, .int 0, .int 0, .int 0, .int 0, .int 0, .int 0, .int 0, .int 0, .int 0, .int 0, .int 0, .int 0, .int 0, .int 0, .int 0, .int 0, .int 0, .int 0, .int 0, .int 0, .int 0, .int 0, .int 0, .int 0, .int 0, .int 0, .int 0, .int 0, .int 0, .int 0, .int 0, .int 0, .int 0, .int 349, .int 0, .int 351, .int 0, .int 353, .int 0, .int 355, .int 0, .int 357, .int 0, .int 359, .int 0, .int 361, .int 0, .int 363, .int 0, .int 365, .int 0, .int 0, .int 0, .int 0, .int 0, .int 0, .int 0, .int 0, .int 0, .int 0, .int 0, .int 0, .int 0, .int 0, .int 0, .int 0, .int 0, .int 0, .int 0, .int 0, .int 0, .int 0, .int 0, .int 0, .int 0, .int 0, .int 0, .int 0, .int 0, .int 0, .int 0, .int 0, .int 0, .int 0, .int 0, .int 0, .int 0, .int 0, .int 0, .int 0, .int 0, .int 0, .int 0, .int 0, .int 0, .int 0, .int 0, .int 0, .int 0, .int 0, .int 0, .int 0, .int 0, .int 0, .int 0, .int 0, .int 0, .int 0, .int 0, .int 0, .int 0, .int 0, .int 0, .int 0, .int 0, .int 0, .int 0, .int 0, .int 0, .int 0, .int 0, .int 0, .int 0, .int 0, .int 0, .int 0, .int 0, .int 0, .int 0, .int 0, .int 446, .int 0, .int 0, .int 0, .int 0, .int 0, .int 0, .int 0, .int 0, .int 0, .int 0, .int 0, .int 0, .int 0, .int 0, .int 0, .int 0, .int 0, .int 0, .int 0, .int 0, .int 0, .int 0, .int 0, .int 0, .int 0, .int 0, .int 0, .int 0, .int 0, .int 0, .int 0, .int 0, .int 0, .int 0, .int 0, .int 0, .int 0, .int 0, .int 0, .int 0, .int 0, .int 0, .int 0, .int 0, .int 0, .int 0, .int 0, .int 0, .int 0, .int 0, .int 0, .int 0, .int 0, .int 0, .int 0, .int 0, .int 0, .int 0, .int 0, .int 0, .int 0, .int 0, .int 0, .int 0, .int 0, .int 0, .int 0, .int 0, .int 0, .int 0, .int 0, .int 0, .int 0, .int 0, .int 0, .int 0, .int 0, .int 0, .int 0, .int 0, .int 0, .int 0, .int 0, .int 0, .int 0, .int 0, .int 0, .int 0, .int 0, .int 0, .int 0, .int 0, .int 0, .int 0, .int 0, .int 0, .int 0, .int 0, .int 0, .int 0, .int 0, .int 0, .int 0, .int 0, .int 0, .int 0, .int 0, .int 0, .int 0, .int 0, .int 0, .int 0, .int 0, .int 0, .int 0, .int 0, .int 0, .int 0, .int 0, .int 0, .int 0, .int 0, .int 0, .int 0, .int 0, .int 0, .int 0, .int 0, .int 0, .int 0, .int 0, .int 0, .int 0, .int 0, .int 0, .int 0, .int 0, .int 0, .int 0, .int 0, .int 0, .int 0, .int 0, .int 0, .int 0, .int 0, .int 0, .int 0, .int 0, .int 0, .int 0, .int 0, .int 0, .int 0, .int 0, .int 0, .int 0, .int 0, .int 0, .int 0, .int 0, .int 0, .int 0, .int 0, .int 0, .int 0, .int 0, .int 0, .int 0, .int 0, .int 0, .int 0, .int 619, .int 0, .int 0, .int 622], vm := .none }]
def classes : Array Class := #[k0, k1, k2, k3, k4, k5, k6, k7, k8]
def interned : List (Array UInt16 × Addr) := []
def slotsUsed : Nat := 624
def theMethod : MethodId := ⟨1, 1⟩
def args0 : Array Value := #[.int 5, .int 3]
def aboutOver (below : List Frame) : State where
  vm := { classes := classes, interned := interned.toArray }
  heap := heap
  slotsUsed := slotsUsed
  threads := #[{ frames := .invoking theMethod args0 :: below }]
def below0 : List Frame := [.native { method := ⟨0, 0⟩, args := #[] }]
def about1 : State := aboutOver below0
def p0 : Program := .bare "" "" ""
def e0 : Env := launch0.env 0 0 0
theorem w_frames : about1.frames = Frame.invoking theMethod args0 :: below0 := rfl
set_option maxRecDepth 65536 in
theorem w_args : argsFit about1.vm theMethod args0 = true := by decide +kernel
set_option maxRecDepth 65536 in
theorem w_heap : heapFits about1 = true := by decide +kernel
set_option maxRecDepth 65536 in
theorem w_runnable : about1.curStatus? = some .runnable := by decide +kernel
set_option maxRecDepth 65536 in
theorem w_alone : about1.alone = true := by decide +kernel
set_option maxRecDepth 65536 in
theorem w_named : about1.methodNamed? x = some theMethod := by decide +kernel
set_option maxRecDepth 65536 in
theorem w_hears : about1.hears theMethod below0 = true := by decide +kernel
set_option maxRecDepth 65536 in
theorem w_ripe : about1.ripe theMethod args0 below0 = true := by decide +kernel
theorem w_running : about1.status = .running := rfl
set_option maxRecDepth 65536 in
theorem w_room : about1.hasRoom e0.platform room_1 = true :=
  launch0.hasRoom_least _ room_1 (by decide +kernel) (by decide +kernel) (by decide +kernel) (by decide +kernel) (by decide +kernel) (by decide +kernel)
theorem allAtoms_all (ts : List Jvm.Cond) (a : Array Jvm.Value) (st : Jvm.State) : (allAtoms ts).before a st = ts.all (fun c => c.before a st) := by
  induction ts with
  | nil => rfl
  | cons c t ih =>
    show (Jvm.Cond.and c (allAtoms t)).before a st = _
    rw [Jvm.Cond.before_and, ih, List.all_cons]
def words1 : List Jvm.Cond := Jvm.Cond.code x code maxLocals ret :: tables_1
/-- a 'code' word, met by the world's own term for the bytes: nothing is compared byte by byte -/
theorem code_word {y : MethodName} {bytes : ByteArray} {mx : Nat} {rt : Option FieldType} {a : Array Value} {s : State} {m : MethodId} {meth : Method} {c : Code} (h1 : s.methodNamed? y = some m) (h2 : s.vm.method? m = some meth) (h3 : meth.code = some c) (h4 : c.code = bytes)
    (h5 : (c.maxLocals == mx && c.exceptionTable.isEmpty && decide (c.maxStack ≤ mostOperands) && decide (meth.sig.returnType = rt) && !meth.locks && decide (parseMethodDescriptor y.desc = some meth.sig)) = true) : (Jvm.Cond.code y bytes mx rt).before a s = true := by
  simp only [Bool.and_eq_true, beq_iff_eq, Bool.not_eq_true', decide_eq_true_eq] at h5
  obtain ⟨⟨⟨⟨⟨g1, g2⟩, g3⟩, g4⟩, g5⟩, g6⟩ := h5
  simp [Cond.before, Cond.holds, Cond.value, h1, h2, h3, h4, g1, g2, g3, g4, g5, g6]
def isCode : Jvm.Cond → Bool
  | .code _ _ _ _ => true
  | _ => false
theorem all_split {L : List Jvm.Cond} {P : Jvm.Cond → Bool} (h1 : L.all (fun c => isCode c || P c) = true) (h2 : ∀ c ∈ L.filter isCode, P c = true) : L.all P = true := by
  refine List.all_eq_true.mpr fun c hc => ?_
  have h := List.all_eq_true.mp h1 c hc
  rcases Bool.eq_false_or_eq_true (isCode c) with hi | hi
  · exact h2 c (List.mem_filter.mpr ⟨hc, hi⟩)
  · simpa [hi] using h
set_option maxRecDepth 65536 in
theorem w_c0 : (Jvm.Cond.code x code maxLocals ret).before args0 about1 = true := code_word (m := ⟨1, 1⟩) (meth := k1m1) (c := k1c1) (by decide +kernel) rfl rfl rfl (by decide +kernel)
set_option maxRecDepth 65536 in
theorem w_c1 : (Jvm.Cond.code ({ cls := "com/example/tagwire/tagwire/wire/DataFields", name := "announcedBy", desc := "(I)I" } : Jvm.MethodName) prog_50_method_2_code (2 : Nat) (Option.some Jvm.ClassFile.FieldType.int)).before args0 about1 = true := code_word (m := ⟨2, 1⟩) (meth := k2m1) (c := k2c1) (by decide +kernel) rfl rfl rfl (by decide +kernel)
set_option maxRecDepth 65536 in
theorem w_c2 : (Jvm.Cond.code ({ cls := "com/example/tagwire/tagwire/wire/DataFieldsAnnouncedByPinLaw", name := "expected", desc := "(I)I" } : Jvm.MethodName) method_3_code (1 : Nat) (Option.some Jvm.ClassFile.FieldType.int)).before args0 about1 = true := code_word (m := ⟨1, 2⟩) (meth := k1m2) (c := k1c2) (by decide +kernel) rfl rfl rfl (by decide +kernel)
def codes1 : List Jvm.Cond := [Jvm.Cond.code x code maxLocals ret, Jvm.Cond.code ({ cls := "com/example/tagwire/tagwire/wire/DataFields", name := "announcedBy", desc := "(I)I" } : Jvm.MethodName) prog_50_method_2_code (2 : Nat) (Option.some Jvm.ClassFile.FieldType.int), Jvm.Cond.code ({ cls := "com/example/tagwire/tagwire/wire/DataFieldsAnnouncedByPinLaw", name := "expected", desc := "(I)I" } : Jvm.MethodName) method_3_code (1 : Nat) (Option.some Jvm.ClassFile.FieldType.int)]
set_option maxRecDepth 65536 in
theorem codes_eq : words1.filter isCode = codes1 := rfl
theorem w_codes : ∀ c ∈ words1.filter isCode, c.before args0 about1 = true := by
  rw [codes_eq]
  intro c hc
  simp only [codes1, List.mem_cons, List.not_mem_nil, or_false] at hc
  rcases hc with rfl | rfl | rfl
  · exact w_c0
  · exact w_c1
  · exact w_c2
set_option maxRecDepth 65536 in
theorem w_t1 : words1.all (fun c => isCode c || c.before args0 about1) = true := by decide +kernel
theorem w_tables : (allAtoms (Jvm.Cond.code x code maxLocals ret :: tables_1)).before args0 about1 = true := by
  rw [allAtoms_all]
  show words1.all (fun c => c.before args0 about1) = true
  refine all_split ?_ w_codes
  rw [w_t1]
set_option maxRecDepth 65536 in
theorem w_case : (Jvm.Cond.and given_1 narrow_1).before args0 about1 = true := by decide +kernel
theorem w_applies : (headSpec (Jvm.Cond.code x code maxLocals ret :: tables_1) room_1).applies x e0.platform about1 = true :=
  (Spec.applies_iff w_frames).mpr ⟨w_running, w_runnable, w_alone, w_named, w_hears, w_ripe, w_room, w_tables⟩
theorem atStart : AtStart classFile x code maxLocals ret World_1 tables_1 room_1 Calls_1 rest_1 Pre_1 launch0 p0 e0 about1 theMethod args0 below0 :=
  ⟨lists_1, trivial, launch0.admits_env _ _ _, launch0.least_env, fairChoices_fair.cas, fairChoices_fair.clock, w_frames, w_args, w_heap, w_applies, trivial, trivial, w_case⟩
end start1
theorem witness_1 : WitnessClaimed_1 := ⟨start1.p0, start1.e0, start1.about1, start1.theMethod, start1.args0, start1.below0, start1.atStart⟩
end Jvm.Pilot.@@N@@
