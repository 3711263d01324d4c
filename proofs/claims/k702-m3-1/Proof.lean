import JvmDerived
import JvmDerived.Pilot.@@N@@Statement
import JvmDerived.Pilot.@@N@@Code
set_option linter.unusedVariables false
set_option linter.unusedSimpArgs false
namespace Jvm.Pilot.@@N@@
open Jvm Jvm.ClassFile Sem Op Lib Jvm.Free Jvm.Stand Jvm.LawKit Jvm.RoadKit Bundle Jvm.Pilot.@@N@@.Jvm.D
section OwnLayer
/-- the run from A ends, and P holds of how it ends -/
def own_Ends (tb : Tables) (e : Env) (below : List Frame) (P : Outcome → State → Prop) (A : State) : Prop :=
  ∃ s₂ o, Steps tb e below A s₂ ∧ s₂.status = .running ∧ Ended s₂ below o ∧ P o s₂
theorem own_st {tb : Tables} {e : Env} {below : List Frame} {P : Outcome → State → Prop} {A B : State} (h : ∀ t, Steps tb e below B t → Steps tb e below A t) (k : own_Ends tb e below P B) : own_Ends tb e below P A := by
  obtain ⟨s2, o, h1, h2⟩ := k
  exact ⟨s2, o, h _ h1, h2⟩
/-- where the walk stands: the state T, its heap h, k cells and n slots made, nothing below n0 written -/
def own_S (p : Program) (l : Launch) (e : Env) (R : Room) (s : State) (m : MethodId) (args : Array Value) (below : List Frame) (meth : Method) (c : Code) (n0 : Nat) (T : State) (h : Heap) (k n : Nat) : Prop :=
  ∃ locs, Stand p l e R s m args below meth c T locs k n ∧ T.heap = h ∧ Fr n0 locs
def own_P (s : State) (n0 : Nat) (Qf : Option Value → Heap → Prop) (C S : Nat) (o : Outcome) (U' : State) : Prop := ∃ v L, o = .returned v ∧ (Fr n0 L ∧ Qf v U'.heap) ∧ FrameEnd s o U' L C S
/-- a body's contract: called with 'as' at the heap h0 it returns, and Qf holds of what it returns and of the heap -/
def own_Con (l : Launch) (Z : State) (y : MethodName) (bytes : ByteArray) (maxL : Nat) (ret : Option FieldType) (ws : List Jvm.Cond) (rm : Room) (as' : Array Value) (h0 : Heap) (n0 : Nat) (Qf : Option Value → Heap → Prop) : Prop :=
  MetFree l y (head1 (Jvm.Cond.code y bytes maxL ret :: ws) rm) (fun a U => a = as' ∧ Z.Warmed39 U.vm ∧ U.heap = h0) (fun _ _ _ _ _ => True) (fun _ U o U' => ∃ v L, o = .returned v ∧ (Fr n0 L ∧ Qf v U'.heap) ∧ FrameEnd U o U' L rm.cells rm.slots)
variable {p : Program} {l : Launch} {e : Env} {R : Room} {s : State} {m : MethodId} {args : Array Value} {below : List Frame} {meth : Method} {c : Code} {n0 : Nat} {T : State} {h : Heap} {k n : Nat} {Z : State} {a0 : Array Value} {P : Outcome → State → Prop}
theorem own_here (Y : own_S p l e R s m args below meth c n0 T h k n) : At T m c below := by
  obtain ⟨_, X, -⟩ := Y
  exact X.here
theorem own_body {y : MethodName} {bytes : ByteArray} {maxL : Nat} {ret : Option FieldType} {ws : List Jvm.Cond} {rm : Room} {as' : Array Value} {h0 : Heap} {Qf : Option Value → Heap → Prop} (hpn : plainFor y = true)
    (hbody : ∀ (p : Program) (e : Env) (s : State) (m : MethodId) (below : List Frame) (meth : Method) (c : Code) (T : State), p.tables.exec = Jvm.exec → Z.Warmed39 s.vm → c.code = bytes → c.maxLocals = maxL → s.vm.findClass y.cls = some m.cls → meth.name = y.name → meth.sig.returnType = ret → meth.locks = false →
      own_S p l e rm s m as' below meth c n0 T h0 0 0 → own_Ends p.tables e below (own_P s n0 Qf rm.cells rm.slots) (T.setTop (entryFrame m as' maxL))) : own_Con l Z y bytes maxL ret ws rm as' h0 n0 Qf := by
  refine MetFree.of_bodySF hpn hisR ?_
  intro p e s m args below meth c s₁ Bd hml0 hP hK
  obtain ⟨rfl, hZ, hh⟩ := hP
  have hown : s.vm.findClass y.cls = some m.cls := findClass_of_methodNamed Bd.named
  have hnm := (name_of_methodNamed Bd.named Bd.method).1
  exact hbody p e s m below meth c s₁ Bd.exec hZ Bd.bytes hml0 hown hnm Bd.returns Bd.notSynchronized ⟨[], Stand.of_body Bd, by rw [← hh, Bd.state]; rfl, Fr.nil n0⟩
theorem own_leave (Y : own_S p l e R s m args below meth c n0 T h k n) (hlk : meth.locks = false) {v : Option Value} (hv : meth.sig.returnType = none → v = none) {Qf : Option Value → Heap → Prop} {C S : Nat} (hk : k ≤ C) (hn : n ≤ S) (hQ : Qf v h) {A : State}
    (st : ∀ (locs : List Loc) (fs : List Frame), Stand p l e R s m args below meth c T locs k n → (∀ (f : JFrame) (acts : List Action), f.method = m → f.locked = none → f.entered = [] → (doReturn e (T.setTop f) acts v).1 = T.setFrames fs) → Steps p.tables e below A (T.setFrames fs)) : own_Ends p.tables e below (own_P s n0 Qf C S) A := by
  obtain ⟨locs, X, e1, N⟩ := Y
  obtain ⟨fs, hr, hrun, hended, hW, hsame⟩ := X.leave hv hlk
  refine ⟨_, _, st locs fs X hr, hrun, hended, v, locs, rfl, ⟨N, ?_⟩, ⟨_, rfl⟩, hW, hsame.mono hk hn⟩
  show Qf v T.heap
  rw [e1]; exact hQ
theorem own_ret (Y : own_S p l e R s m args below meth c n0 T h k n) (hx : p.tables.exec = Jvm.exec) (hlk : meth.locks = false) {pc : Nat} {Ls : Array Slot} {w : Value} {t : FieldType} {i : Instr} {rest : List Value} (hret : meth.sig.returnType = some t) (hd : decode c.code pc = .ok (i, 1)) (hn : narrow t w = w)
    (hi : (i = .ireturn ∧ (t = .int ∨ t = .boolean ∨ t = .byte ∨ t = .char ∨ t = .short) ∧ ∃ z, w = .int z) ∨ (i = .lreturn ∧ t = .long ∧ ∃ z, w = .long z) ∨ (i = .dreturn ∧ t = .double ∧ ∃ z, w = .double z) ∨ (i = .freturn ∧ t = .float ∧ ∃ z, w = .float z) ∨ (i = .areturn ∧ t.isReference = true ∧ w.isRef = true))
    {Qf : Option Value → Heap → Prop} {C S : Nat} (hk : k ≤ C) (hs : n ≤ S) (hQ : Qf (some w) h) : own_Ends p.tables e below (own_P s n0 Qf C S) (T.setTop (mkF m pc Ls (w :: rest))) :=
  own_leave Y hlk (fun q => by rw [hret] at q; cases q) hk hs hQ fun _ _ X hr => retOut X hx hret hn hi hd hr
theorem own_retI (Y : own_S p l e R s m args below meth c n0 T h k n) (hx : p.tables.exec = Jvm.exec) (hlk : meth.locks = false) {pc : Nat} {Ls : Array Slot} {z : Int32} {rest : List Value} (hret : meth.sig.returnType = some .int) (hd : decode c.code pc = .ok (.ireturn, 1))
    {Qf : Option Value → Heap → Prop} {C S : Nat} (hk : k ≤ C) (hs : n ≤ S) (hQ : Qf (some (.int z)) h) : own_Ends p.tables e below (own_P s n0 Qf C S) (T.setTop (mkF m pc Ls (.int z :: rest))) :=
  own_ret Y hx hlk hret hd rfl (Or.inl ⟨rfl, Or.inl rfl, _, rfl⟩) hk hs hQ
theorem own_retN (Y : own_S p l e R s m args below meth c n0 T h k n) (hx : p.tables.exec = Jvm.exec) (hlk : meth.locks = false) {pc : Nat} {Ls : Array Slot} {z : Int32} {t : FieldType} {rest : List Value} (hret : meth.sig.returnType = some t) (ht : t = .boolean ∨ t = .byte ∨ t = .char ∨ t = .short) (hd : decode c.code pc = .ok (.ireturn, 1))
    {Qf : Option Value → Heap → Prop} {C S : Nat} (hk : k ≤ C) (hs : n ≤ S) (hQ : Qf (some (.int (nar t z))) h) : own_Ends p.tables e below (own_P s n0 Qf C S) (T.setTop (mkF m pc Ls (.int z :: rest))) :=
  own_leave Y hlk (fun q => by rw [hret] at q; cases q) hk hs hQ fun _ _ X hr => retN X hx hret ht hd hr
theorem own_retJ (Y : own_S p l e R s m args below meth c n0 T h k n) (hx : p.tables.exec = Jvm.exec) (hlk : meth.locks = false) {pc : Nat} {Ls : Array Slot} {z : Int64} {rest : List Value} (hret : meth.sig.returnType = some .long) (hd : decode c.code pc = .ok (.lreturn, 1))
    {Qf : Option Value → Heap → Prop} {C S : Nat} (hk : k ≤ C) (hs : n ≤ S) (hQ : Qf (some (.long z)) h) : own_Ends p.tables e below (own_P s n0 Qf C S) (T.setTop (mkF m pc Ls (.long z :: rest))) :=
  own_ret Y hx hlk hret hd rfl (Or.inr (Or.inl ⟨rfl, rfl, _, rfl⟩)) hk hs hQ
theorem own_retA (Y : own_S p l e R s m args below meth c n0 T h k n) (hx : p.tables.exec = Jvm.exec) (hlk : meth.locks = false) {pc : Nat} {Ls : Array Slot} {w : Value} {t : FieldType} {rest : List Value} (hret : meth.sig.returnType = some t) (ht : t.isReference = true) (hw : w.isRef = true) (hn : narrow t w = w) (hd : decode c.code pc = .ok (.areturn, 1))
    {Qf : Option Value → Heap → Prop} {C S : Nat} (hk : k ≤ C) (hs : n ≤ S) (hQ : Qf (some w) h) : own_Ends p.tables e below (own_P s n0 Qf C S) (T.setTop (mkF m pc Ls (w :: rest))) :=
  own_ret Y hx hlk hret hd hn (Or.inr (Or.inr (Or.inr (Or.inr ⟨rfl, ht, hw⟩)))) hk hs hQ
theorem own_retV (Y : own_S p l e R s m args below meth c n0 T h k n) (hx : p.tables.exec = Jvm.exec) (hlk : meth.locks = false) {pc : Nat} {Ls : Array Slot} (hret : meth.sig.returnType = none) (hd : decode c.code pc = .ok (.return_, 1))
    {Qf : Option Value → Heap → Prop} {C S : Nat} (hk : k ≤ C) (hs : n ≤ S) (hQ : Qf none h) : own_Ends p.tables e below (own_P s n0 Qf C S) (T.setTop (mkF m pc Ls [])) :=
  own_leave Y hlk (fun _ => rfl) hk hs hQ fun _ _ X hr => X.returnOut hx hret hd hr
/-! fields -/
theorem own_getF (Y : own_S p l e R s m args below meth c n0 T h k n) (hx : p.tables.exec = Jvm.exec) (hZ : Z.Warmed39 s.vm) {own R0 O f d host : String} {index : Nat} (hown : s.vm.findClass own = some m.cls) (w : (Jvm.Cond.fieldLink own index R0 f d).before a0 Z = true ∨ (Jvm.Cond.fieldLinkNest own index R0 f d host).before a0 Z = true) (via : Via Z R0 O f d) {a : Addr} {v : Value} (F : Fld Z h a O f d v)
    {g : JFrame} (hg : g.method = m) {rest : List Value} (hs : g.stack = .ref a :: rest) (hd : decode c.code g.pc = .ok (.getfield index, 3)) (K : ∀ T', own_S p l e R s m args below meth c n0 T' h k n → own_Ends p.tables e below P (T'.setTop { g with pc := g.pc + 3, stack := v :: rest })) : own_Ends p.tables e below P (T.setTop g) := by
  obtain ⟨locs, X, e1, N⟩ := Y
  obtain ⟨T', X', e', st⟩ := getF X hx hZ hown w via e1 F hg hs hd
  exact own_st st (K T' ⟨locs, X', e', N⟩)
theorem own_putF (Y : own_S p l e R s m args below meth c n0 T h k n) (hx : p.tables.exec = Jvm.exec) (hZ : Z.Warmed39 s.vm) {own R0 O f d host C : String} {index kk : Nat} {ty : FieldType} (hown : s.vm.findClass own = some m.cls) (w : (Jvm.Cond.fieldLink own index R0 f d).before a0 Z = true ∨ (Jvm.Cond.fieldLinkNest own index R0 f d host).before a0 Z = true) (via : Via Z R0 O f d) {a : Addr} {v old : Value} (F : Fld Z h a O f d old) (E : Exa Z h a C)
    (L : (Jvm.Cond.lays C O f d).before a0 Z = true ∨ ((Jvm.Cond.laysFinal C O f d).before a0 Z = true ∧ own = O ∧ meth.name = "<init>")) (wi : (Jvm.Cond.instantiable C kk).before a0 Z = true) (ha : n0 ≤ a) (hty : parseFieldDescriptor d = some ty) (hn : narrow ty v = v) (hf : fits ty v = true) {g : JFrame} (hg : g.method = m) {rest : List Value} (hs : g.stack = v :: .ref a :: rest) (hd : decode c.code g.pc = .ok (.putfield index, 3))
    (K : ∀ T' h', own_S p l e R s m args below meth c n0 T' h' k n → Wr h h' a (Jvm.RoadKit.slotOf Z O f d) v → Fld Z h' a O f d v → own_Ends p.tables e below P (T'.setTop { g with pc := g.pc + 3, stack := rest })) : own_Ends p.tables e below P (T.setTop g) := by
  obtain ⟨locs, X, e1, N⟩ := Y
  obtain ⟨T', h', X', e', W, st⟩ := putF X hx hZ hown w via e1 F E L wi hty hn hf hg hs hd
  exact own_st st (K T' h' ⟨_, X', e', Fr.snoc X' N ha⟩ W (F.same W))
theorem own_putFN (Y : own_S p l e R s m args below meth c n0 T h k n) (hx : p.tables.exec = Jvm.exec) (hZ : Z.Warmed39 s.vm) {own R0 O f d C : String} {index kk : Nat} {ty : FieldType} (hown : s.vm.findClass own = some m.cls) (w : (Jvm.Cond.fieldLink own index R0 f d).before a0 Z = true) (via : Via Z R0 O f d) {a : Addr} {v v' old : Value} (F : Fld Z h a O f d old) (E : Exa Z h a C)
    (L : (Jvm.Cond.lays C O f d).before a0 Z = true ∨ ((Jvm.Cond.laysFinal C O f d).before a0 Z = true ∧ own = O ∧ meth.name = "<init>")) (wi : (Jvm.Cond.instantiable C kk).before a0 Z = true) (ha : n0 ≤ a) (hty : parseFieldDescriptor d = some ty) (hn : narrow ty v = v') (hf : fits ty v' = true) {g : JFrame} (hg : g.method = m) {rest : List Value} (hs : g.stack = v :: .ref a :: rest) (hd : decode c.code g.pc = .ok (.putfield index, 3))
    (K : ∀ T' h', own_S p l e R s m args below meth c n0 T' h' k n → Wr h h' a (Jvm.RoadKit.slotOf Z O f d) v' → Fld Z h' a O f d v' → own_Ends p.tables e below P (T'.setTop { g with pc := g.pc + 3, stack := rest })) : own_Ends p.tables e below P (T.setTop g) := by
  obtain ⟨locs, X, e1, N⟩ := Y
  obtain ⟨T', h', X', e', W, st⟩ := putFN X hx hZ hown w via e1 F E L wi hty hn hf hg hs hd
  exact own_st st (K T' h' ⟨_, X', e', Fr.snoc X' N ha⟩ W (F.same W))
theorem own_getS (Y : own_S p l e R s m args below meth c n0 T h k n) (hx : p.tables.exec = Jvm.exec) (hZ : Z.Warmed39 s.vm) {own R0 O f d host : String} {index : Nat} (hown : s.vm.findClass own = some m.cls) (w : (Jvm.Cond.fieldLink own index R0 f d).before a0 Z = true ∨ (Jvm.Cond.fieldLinkNest own index R0 f d host).before a0 Z = true) (via : Via Z R0 O f d) {v : Value} (F : Sta Z h O f d v)
    {g : JFrame} (hg : g.method = m) (hd : decode c.code g.pc = .ok (.getstatic index, 3)) (K : ∀ T', own_S p l e R s m args below meth c n0 T' h k n → own_Ends p.tables e below P (T'.setTop { g with pc := g.pc + 3, stack := v :: g.stack })) : own_Ends p.tables e below P (T.setTop g) := by
  obtain ⟨locs, X, e1, N⟩ := Y
  obtain ⟨T', X', e', st⟩ := getS2 X hx hZ hown w via e1 F hg hd
  exact own_st st (K T' ⟨locs, X', e', N⟩)
/-! new objects -/
theorem own_new (Y : own_S p l e R s m args below meth c n0 T h k n) (hx : p.tables.exec = Jvm.exec) (hZ : Z.Warmed39 s.vm) {own C : String} {index nn : Nat} (hown : s.vm.findClass own = some m.cls) (w : (Jvm.Cond.classLink own index C).before a0 Z = true) (wi : (Jvm.Cond.instantiable C nn).before a0 Z = true) (wz : (Jvm.Cond.initialized C).before a0 Z = true)
    {g : JFrame} (hg : g.method = m) (hd : decode c.code g.pc = .ok (.new index, 3)) (hc : k + 1 ≤ R.cells) (hl : n + nn ≤ R.slots)
    (K : ∀ T' h' b, b = h.size → own_S p l e R s m args below meth c n0 T' h' (k + 1) (n + nn) → Ext h h' → Exa Z h' b C → (∀ (O nm d : String) (ty : FieldType), Laid Z a0 C O nm d → parseFieldDescriptor d = some ty → Fld Z h' b O nm d (defaultValue ty)) →
      own_Ends p.tables e below P (T'.setTop { g with pc := g.pc + 3, stack := .ref b :: g.stack })) : own_Ends p.tables e below P (T.setTop g) := by
  obtain ⟨locs, X, e1, N⟩ := Y
  obtain ⟨T', h', X', e', E, A, D, -, st⟩ := newO X hx hZ hown w wi wz e1 hg hd hc hl
  exact own_st st (K T' h' _ rfl ⟨locs, X', e', N⟩ E A (fun _ _ _ _ q r => D q r))
theorem own_initO (Y : own_S p l e R s m args below meth c n0 T h k n) (hx : p.tables.exec = Jvm.exec) (hZ : Z.Warmed39 s.vm) {own : String} {idx : Nat} (hown : s.vm.findClass own = some m.cls) (w1 : (Jvm.Cond.methodLink own idx Lib.objectInit).before a0 Z = true) (w2 : (Jvm.Cond.instanceMethod Lib.objectInit).before a0 Z = true) (w3 : (Jvm.Cond.code Lib.objectInit ⟨#[0xb1]⟩ 1 none).before a0 Z = true)
    {g : JFrame} (hg : g.method = m) (hsize : g.locals.size = c.maxLocals) {a : Addr} {rest : List Value} (hs : g.stack = .ref a :: rest) (hd : decode c.code g.pc = .ok (.invokespecial idx, 3)) (hf : 1 ≤ R.frames) {W : Nat} (hW : 2 * g.monitorRoom + (rest.map fun v => v.category).sum ≤ W) (hl : W + 12 ≤ R.locals)
    (K : ∀ T', own_S p l e R s m args below meth c n0 T' h k n → own_Ends p.tables e below P (T'.setTop { g with pc := g.pc + 3, stack := rest })) : own_Ends p.tables e below P (T.setTop g) := by
  obtain ⟨locs, X, e1, N⟩ := Y
  obtain ⟨T', X', e', st⟩ := initO X hx hZ hown w1 w2 w3 e1 hg hsize hs hd hf hW hl
  exact own_st st (K T' ⟨locs, X', e', N⟩)
/-! arrays: the cell's slots are the list vs -/
def own_A (Z : State) (h : Heap) (a : Addr) (ty : FieldType) (vs : List Value) : Prop := ∃ c : Cell, Arr Z h a c ty ∧ c.slots.toList = vs ∧ vs.length < 2 ^ 31
theorem own_A.lt {a : Addr} {ty : FieldType} {vs : List Value} (A : own_A Z h a ty vs) : a < h.size := by obtain ⟨c, A, -⟩ := A; exact A.lt
theorem own_A.ext {h' : Heap} {a : Addr} {ty : FieldType} {vs : List Value} (A : own_A Z h a ty vs) (E : Ext h h') : own_A Z h' a ty vs := by obtain ⟨c, A, r⟩ := A; exact ⟨c, A.ext E, r⟩
theorem own_A.other {h' : Heap} {a b : Addr} {sl : Nat} {v : Value} {ty : FieldType} {vs : List Value} (A : own_A Z h a ty vs) (W : Wr h h' b sl v) (q : a ≠ b) : own_A Z h' a ty vs := by obtain ⟨c, A, r⟩ := A; exact ⟨c, A.other W q, r⟩
theorem own_A.keep {h' : Heap} {a : Addr} {ws : List Addr} {ty : FieldType} {vs : List Value} (A : own_A Z h a ty vs) (K : Keep h h' ws) (q : a ∉ ws) : own_A Z h' a ty vs := by obtain ⟨c, A, r⟩ := A; exact ⟨c, ⟨K.2.1 a c A.1 q, A.2⟩, r⟩
theorem own_sz {c : Cell} {vs : List Value} (q : c.slots.toList = vs) : c.slots.size = vs.length := by rw [← q]; simp
theorem own_in {c : Cell} {vs : List Value} {j : Int32} {i : Nat} (q : c.slots.toList = vs) (hj : ¬ j < 0) (hi : j.toNatClampNeg = i) (hl : i < vs.length) : ¬ (j < 0 ∨ c.slots.size ≤ j.toNatClampNeg) := by
  rw [own_sz q, hi]; intro z; rcases z with z | z
  · exact hj z
  · omega
theorem own_get {c : Cell} {vs : List Value} {j : Int32} {i : Nat} {v : Value} (q : c.slots.toList = vs) (hi : j.toNatClampNeg = i) (hv : vs[i]? = some v) : c.slots[j.toNatClampNeg]? = some v := by
  rw [hi, ← Array.getElem?_toList, q, hv]
theorem own_A.set {h' : Heap} {a : Addr} {ty : FieldType} {vs : List Value} {cl : Cell} {i : Nat} {v : Value} (A : Arr Z h a cl ty) (q : cl.slots.toList = vs) (hl : vs.length < 2 ^ 31) (W : Wr h h' a i v) : own_A Z h' a ty (vs.set i v) :=
  ⟨_, A.same W, by simp [Cell.setSlot, q], by simpa using hl⟩
theorem own_newP (Y : own_S p l e R s m args below meth c n0 T h k n) (hx : p.tables.exec = Jvm.exec) (hZ : Z.Warmed39 s.vm) {aty : ArrayType} (w : (Jvm.Cond.arrayClass (newarray.typeOf aty)).before a0 Z = true) {g : JFrame} (hg : g.method = m) (hd : decode c.code g.pc = .ok (.newarray aty, 2)) {z : Int32} {rest : List Value} (hs : g.stack = .int z :: rest)
    (hz : ¬ z < 0) {nz cap : Nat} (hn : z.toNatClampNeg = nz) (hcap : nz ≤ cap) (hb : cap * 8 ≤ 536870912) (hc : k + 1 ≤ R.cells) (hl : n + cap ≤ R.slots) {ty : FieldType} (hty : newarray.typeOf aty = ty)
    (K : ∀ T' h' b, b = h.size → own_S p l e R s m args below meth c n0 T' h' (k + 1) (n + cap) → Ext h h' → own_A Z h' b ty (List.replicate nz (defaultValue ty)) → own_Ends p.tables e below P (T'.setTop { g with pc := g.pc + 2, stack := .ref b :: rest })) : own_Ends p.tables e below P (T.setTop g) := by
  obtain ⟨locs, X, e1, N⟩ := Y
  subst hty
  obtain ⟨T', h', cA, X', e', E, A, st⟩ := newP X hx hZ w e1 hg hd hs hz (cap := cap) (by rw [hn]; exact hcap) hb hc hl
  refine own_st st (K T' h' _ rfl ⟨locs, X', e', N⟩ E ⟨_, A, ?_, ?_⟩)
  · simp [newA, hn]
  · simp; omega
theorem own_newR (Y : own_S p l e R s m args below meth c n0 T h k n) (hx : p.tables.exec = Jvm.exec) (hZ : Z.Warmed39 s.vm) {own C : String} {index : Nat} (hown : s.vm.findClass own = some m.cls) (w1 : (Jvm.Cond.classLink own index C).before a0 Z = true) (w2 : (Jvm.Cond.arrayOver (.object C)).before a0 Z = true) {g : JFrame} (hg : g.method = m) (hd : decode c.code g.pc = .ok (.anewarray index, 3)) {z : Int32} {rest : List Value} (hs : g.stack = .int z :: rest)
    (hz : ¬ z < 0) {nz cap : Nat} (hn : z.toNatClampNeg = nz) (hcap : nz ≤ cap) (hb : cap * 8 ≤ 536870912) (hc : k + 1 ≤ R.cells) (hl : n + cap ≤ R.slots)
    (K : ∀ T' h' b, b = h.size → own_S p l e R s m args below meth c n0 T' h' (k + 1) (n + cap) → Ext h h' → own_A Z h' b (.object C) (List.replicate nz .null) → own_Ends p.tables e below P (T'.setTop { g with pc := g.pc + 3, stack := .ref b :: rest })) : own_Ends p.tables e below P (T.setTop g) := by
  obtain ⟨locs, X, e1, N⟩ := Y
  obtain ⟨T', h', cA, X', e', E, A, O, st⟩ := newR X hx hZ hown w1 w2 e1 hg hd hs hz (cap := cap) (by rw [hn]; exact hcap) hb hc hl
  refine own_st st (K T' h' _ rfl ⟨locs, X', e', N⟩ E ⟨_, A, ?_, ?_⟩)
  · simp [newA, hn, defaultValue]
  · simp; omega
theorem own_mono (Y : own_S p l e R s m args below meth c n0 T h k n) {k' n' : Nat} (hk : k ≤ k') (hn : n ≤ n') : own_S p l e R s m args below meth c n0 T h k' n' := by
  obtain ⟨locs, X, r⟩ := Y
  exact ⟨locs, { X with same := X.same.mono hk hn }, r⟩
theorem own_stI (Y : own_S p l e R s m args below meth c n0 T h k n) (hx : p.tables.exec = Jvm.exec) (hZ : Z.Warmed39 s.vm) {a : Addr} {vs : List Value} (A : own_A Z h a .int vs) (ha : n0 ≤ a) {j x : Int32} {i : Nat} (hj : ¬ j < 0) (hi : j.toNatClampNeg = i) (hl : i < vs.length) {g : JFrame} (hg : g.method = m) {rest : List Value} (hs : g.stack = .int x :: .int j :: .ref a :: rest) (hd : decode c.code g.pc = .ok (.iastore, 1))
    (K : ∀ T' h', own_S p l e R s m args below meth c n0 T' h' k n → Wr h h' a i (.int x) → own_A Z h' a .int (vs.set i (.int x)) → own_Ends p.tables e below P (T'.setTop { g with pc := g.pc + 1, stack := rest })) : own_Ends p.tables e below P (T.setTop g) := by
  obtain ⟨locs, X, e1, N⟩ := Y
  obtain ⟨cl, A, q, r⟩ := A
  obtain ⟨T', h', X', e', W, st⟩ := stI X hx hZ e1 A (own_in q hj hi hl) hg hs hd
  have W' := W; rw [hi] at W'
  exact own_st st (K T' h' ⟨_, X', e', Fr.snoc X' N ha⟩ W' (own_A.set A q r W'))
theorem own_stJ (Y : own_S p l e R s m args below meth c n0 T h k n) (hx : p.tables.exec = Jvm.exec) (hZ : Z.Warmed39 s.vm) {a : Addr} {vs : List Value} (A : own_A Z h a .long vs) (ha : n0 ≤ a) {j : Int32} {x : Int64} {i : Nat} (hj : ¬ j < 0) (hi : j.toNatClampNeg = i) (hl : i < vs.length) {g : JFrame} (hg : g.method = m) {rest : List Value} (hs : g.stack = .long x :: .int j :: .ref a :: rest) (hd : decode c.code g.pc = .ok (.lastore, 1))
    (K : ∀ T' h', own_S p l e R s m args below meth c n0 T' h' k n → Wr h h' a i (.long x) → own_A Z h' a .long (vs.set i (.long x)) → own_Ends p.tables e below P (T'.setTop { g with pc := g.pc + 1, stack := rest })) : own_Ends p.tables e below P (T.setTop g) := by
  obtain ⟨locs, X, e1, N⟩ := Y
  obtain ⟨cl, A, q, r⟩ := A
  obtain ⟨T', h', X', e', W, st⟩ := stJ X hx hZ e1 A (own_in q hj hi hl) hg hs hd
  have W' := W; rw [hi] at W'
  exact own_st st (K T' h' ⟨_, X', e', Fr.snoc X' N ha⟩ W' (own_A.set A q r W'))
theorem own_stB (Y : own_S p l e R s m args below meth c n0 T h k n) (hx : p.tables.exec = Jvm.exec) (hZ : Z.Warmed39 s.vm) {a : Addr} {vs : List Value} (A : own_A Z h a .byte vs) (ha : n0 ≤ a) {j x : Int32} {i : Nat} (hj : ¬ j < 0) (hi : j.toNatClampNeg = i) (hl : i < vs.length) {g : JFrame} (hg : g.method = m) {rest : List Value} (hs : g.stack = .int x :: .int j :: .ref a :: rest) (hd : decode c.code g.pc = .ok (.bastore, 1))
    (K : ∀ T' h', own_S p l e R s m args below meth c n0 T' h' k n → Wr h h' a i (.int x.toInt8.toInt32) → own_A Z h' a .byte (vs.set i (.int x.toInt8.toInt32)) → own_Ends p.tables e below P (T'.setTop { g with pc := g.pc + 1, stack := rest })) : own_Ends p.tables e below P (T.setTop g) := by
  obtain ⟨locs, X, e1, N⟩ := Y
  obtain ⟨cl, A, q, r⟩ := A
  obtain ⟨T', h', X', e', W, st⟩ := stB X hx hZ e1 A (own_in q hj hi hl) hg hs hd
  have W' := W; rw [hi] at W'
  exact own_st st (K T' h' ⟨_, X', e', Fr.snoc X' N ha⟩ W' (own_A.set A q r W'))
theorem own_stC (Y : own_S p l e R s m args below meth c n0 T h k n) (hx : p.tables.exec = Jvm.exec) (hZ : Z.Warmed39 s.vm) {a : Addr} {vs : List Value} (A : own_A Z h a .char vs) (ha : n0 ≤ a) {j x : Int32} {i : Nat} (hj : ¬ j < 0) (hi : j.toNatClampNeg = i) (hl : i < vs.length) {g : JFrame} (hg : g.method = m) {rest : List Value} (hs : g.stack = .int x :: .int j :: .ref a :: rest) (hd : decode c.code g.pc = .ok (.castore, 1))
    (K : ∀ T' h', own_S p l e R s m args below meth c n0 T' h' k n → Wr h h' a i (.int x.toUInt32.toUInt16.toUInt32.toInt32) → own_A Z h' a .char (vs.set i (.int x.toUInt32.toUInt16.toUInt32.toInt32)) → own_Ends p.tables e below P (T'.setTop { g with pc := g.pc + 1, stack := rest })) : own_Ends p.tables e below P (T.setTop g) := by
  obtain ⟨locs, X, e1, N⟩ := Y
  obtain ⟨cl, A, q, r⟩ := A
  obtain ⟨T', h', X', e', W, st⟩ := stC X hx hZ e1 A (own_in q hj hi hl) hg hs hd
  have W' := W; rw [hi] at W'
  exact own_st st (K T' h' ⟨_, X', e', Fr.snoc X' N ha⟩ W' (own_A.set A q r W'))
theorem own_len (Y : own_S p l e R s m args below meth c n0 T h k n) (hx : p.tables.exec = Jvm.exec) (hZ : Z.Warmed39 s.vm) {a : Addr} {ty : FieldType} {vs : List Value} (A : own_A Z h a ty vs) {z : Int32} (hz : vs.length.toInt32 = z) {g : JFrame} (hg : g.method = m) {rest : List Value} (hs : g.stack = .ref a :: rest) (hd : decode c.code g.pc = .ok (.arraylength, 1))
    (K : own_Ends p.tables e below P (T.setTop { g with pc := g.pc + 1, stack := .int z :: rest })) : own_Ends p.tables e below P (T.setTop g) := by
  obtain ⟨locs, X, e1, N⟩ := Y
  obtain ⟨cl, A, q, r⟩ := A
  refine own_st (fun t => X.arraylength hx (by rw [e1]; exact A.1) (State.isArrayOf_alike hZ.alike A.2.1) hg hs hd t) ?_
  rw [own_sz q, hz]; exact K
theorem own_ldI (Y : own_S p l e R s m args below meth c n0 T h k n) (hx : p.tables.exec = Jvm.exec) (hZ : Z.Warmed39 s.vm) {a : Addr} {vs : List Value} (A : own_A Z h a .int vs) {j : Int32} {i : Nat} (hj : ¬ j < 0) (hi : j.toNatClampNeg = i) (hl : i < vs.length) {v : Value} (hv : vs[i]? = some v) {g : JFrame} (hg : g.method = m) {rest : List Value} (hs : g.stack = .int j :: .ref a :: rest) (hd : decode c.code g.pc = .ok (.iaload, 1))
    (K : own_Ends p.tables e below P (T.setTop { g with pc := g.pc + 1, stack := v :: rest })) : own_Ends p.tables e below P (T.setTop g) := by
  obtain ⟨locs, X, e1, N⟩ := Y
  obtain ⟨cl, A, q, r⟩ := A
  exact own_st (fun t => X.iaload hx (by rw [e1]; exact A.1) (State.isArrayOf_alike hZ.alike A.2.1) A.2.2 (own_in q hj hi hl) (own_get q hi hv) hg hs hd t) K
theorem own_ldB (Y : own_S p l e R s m args below meth c n0 T h k n) (hx : p.tables.exec = Jvm.exec) (hZ : Z.Warmed39 s.vm) {a : Addr} {vs : List Value} (A : own_A Z h a .byte vs) {j : Int32} {i : Nat} (hj : ¬ j < 0) (hi : j.toNatClampNeg = i) (hl : i < vs.length) {v : Value} (hv : vs[i]? = some v) {g : JFrame} (hg : g.method = m) {rest : List Value} (hs : g.stack = .int j :: .ref a :: rest) (hd : decode c.code g.pc = .ok (.baload, 1))
    (K : own_Ends p.tables e below P (T.setTop { g with pc := g.pc + 1, stack := v :: rest })) : own_Ends p.tables e below P (T.setTop g) := by
  obtain ⟨locs, X, e1, N⟩ := Y
  obtain ⟨cl, A, q, r⟩ := A
  exact own_st (fun t => X.baloadBytes hx (by rw [e1]; exact A.1) (State.isArrayOf_alike hZ.alike A.2.1) A.2.2 (own_in q hj hi hl) (own_get q hi hv) hg hs hd t) K
theorem own_ldC (Y : own_S p l e R s m args below meth c n0 T h k n) (hx : p.tables.exec = Jvm.exec) (hZ : Z.Warmed39 s.vm) {a : Addr} {vs : List Value} (A : own_A Z h a .char vs) {j : Int32} {i : Nat} (hj : ¬ j < 0) (hi : j.toNatClampNeg = i) (hl : i < vs.length) {v : Value} (hv : vs[i]? = some v) {g : JFrame} (hg : g.method = m) {rest : List Value} (hs : g.stack = .int j :: .ref a :: rest) (hd : decode c.code g.pc = .ok (.caload, 1))
    (K : own_Ends p.tables e below P (T.setTop { g with pc := g.pc + 1, stack := v :: rest })) : own_Ends p.tables e below P (T.setTop g) := by
  obtain ⟨locs, X, e1, N⟩ := Y
  obtain ⟨cl, A, q, r⟩ := A
  exact own_st (fun t => X.caload hx (by rw [e1]; exact A.1) (State.isArrayOf_alike hZ.alike A.2.1) A.2.2 (own_in q hj hi hl) (own_get q hi hv) hg hs hd t) K
theorem own_ldJ (Y : own_S p l e R s m args below meth c n0 T h k n) (hx : p.tables.exec = Jvm.exec) (hZ : Z.Warmed39 s.vm) {a : Addr} {vs : List Value} (A : own_A Z h a .long vs) {j : Int32} {i : Nat} (hj : ¬ j < 0) (hi : j.toNatClampNeg = i) (hl : i < vs.length) {v : Value} (hv : vs[i]? = some v) {g : JFrame} (hg : g.method = m) {rest : List Value} (hs : g.stack = .int j :: .ref a :: rest) (hd : decode c.code g.pc = .ok (.laload, 1))
    (K : own_Ends p.tables e below P (T.setTop { g with pc := g.pc + 1, stack := v :: rest })) : own_Ends p.tables e below P (T.setTop g) := by
  obtain ⟨locs, X, e1, N⟩ := Y
  obtain ⟨cl, A, q, r⟩ := A
  exact own_st (fun t => X.laload hx (by rw [e1]; exact A.1) (State.isArrayOf_alike hZ.alike A.2.1) A.2.2 (own_in q hj hi hl) (own_get q hi hv) hg hs hd t) K
/-! constants -/
theorem own_ldcI (Y : own_S p l e R s m args below meth c n0 T h k n) (hx : p.tables.exec = Jvm.exec) (hZ : Z.Warmed39 s.vm) {own : String} {index : Nat} {v : Int32} (hown : s.vm.findClass own = some m.cls) (w : (Jvm.Cond.constant own index v).before a0 Z = true) {g : JFrame} (hg : g.method = m) (hd : decode c.code g.pc = .ok (.ldc index, 2))
    (K : own_Ends p.tables e below P (T.setTop { g with pc := g.pc + 2, stack := .int v :: g.stack })) : own_Ends p.tables e below P (T.setTop g) := by
  obtain ⟨locs, X, e1, N⟩ := Y
  exact own_st (X.ldcInt hx hown (mvT hZ w) hg hd) K
theorem own_ldcJ (Y : own_S p l e R s m args below meth c n0 T h k n) (hx : p.tables.exec = Jvm.exec) (hZ : Z.Warmed39 s.vm) {own : String} {index : Nat} {v : Int64} (hown : s.vm.findClass own = some m.cls) (w : (Jvm.Cond.constantLong own index v).before a0 Z = true) {g : JFrame} (hg : g.method = m) (hd : decode c.code g.pc = .ok (.ldc2_w index, 3))
    (K : own_Ends p.tables e below P (T.setTop { g with pc := g.pc + 3, stack := .long v :: g.stack })) : own_Ends p.tables e below P (T.setTop g) := by
  obtain ⟨locs, X, e1, N⟩ := Y
  exact own_st (X.ldc2Long hx hown (mvT hZ w) hg hd) K
theorem own_irem (Y : own_S p l e R s m args below meth c n0 T h k n) (hx : p.tables.exec = Jvm.exec) {g : JFrame} (hg : g.method = m) {x y : Int32} {rest : List Value} (hd : decode c.code g.pc = .ok (.irem, 1)) (hs : g.stack = .int y :: .int x :: rest) (hy : y ≠ 0)
    (K : own_Ends p.tables e below P (T.setTop { g with pc := g.pc + 1, stack := .int (x % y) :: rest })) : own_Ends p.tables e below P (T.setTop g) := by
  obtain ⟨locs, X, e1, N⟩ := Y
  exact own_st (fun t => iremM X hx hg hd hs hy) K
/-! calls by contract -/
theorem own_callS (Y : own_S p l e R s m args below meth c n0 T h k n) (hx : p.tables.exec = Jvm.exec) (hZ : Z.Warmed39 s.vm) {own : String} {index : Nat} {y : MethodName} {bytes : ByteArray} {maxL : Nat} {ret : Option FieldType} (hown : s.vm.findClass own = some m.cls) (wl : (Jvm.Cond.methodLink own index y).before a0 Z = true) (wst : (Jvm.Cond.static y).before a0 Z = true) (wi : (Jvm.Cond.initialized y.cls).before a0 Z = true) (wc : (Jvm.Cond.code y bytes maxL ret).before a0 Z = true)
    (hy : y.cls ≠ "java/lang/invoke/MethodHandle" ∧ y.cls ≠ "java/lang/invoke/VarHandle") {rm : Room} {argsL rest : List Value} {Qf : Option Value → Heap → Prop} (hM : own_Con l Z y bytes maxL ret [] rm argsL.toArray h n0 Qf) {W : Nat} (hfr : rm.frames + 1 ≤ R.frames) (hlo : W + (maxL + 11) + rm.locals ≤ R.locals) (hc : k + rm.cells ≤ R.cells) (hsl : n + rm.slots ≤ R.slots)
    {g : JFrame} (hg : g.method = m) (hsize : g.locals.size = c.maxLocals) (hlen : ∀ sig, parseMethodDescriptor y.desc = some sig → argsL.length = sig.parameters.length) (hs : g.stack = argsL.reverse ++ rest) (hW : 2 * g.monitorRoom + (rest.map fun v => v.category).sum ≤ W) (hd : decode c.code g.pc = .ok (.invokestatic index, 3))
    (K : ∀ T' h' v, own_S p l e R s m args below meth c n0 T' h' (k + rm.cells) (n + rm.slots) → Qf v h' → own_Ends p.tables e below P (T'.setTop { g with pc := g.pc + 3, stack := v.toList ++ rest })) : own_Ends p.tables e below P (T.setTop g) := by
  obtain ⟨locs, X, e1, N⟩ := Y
  obtain ⟨v, vm1, ⟨T', L', k', n'⟩, -, X', ⟨L, hQ, l1, y1, z1⟩, st⟩ := Jvm.LawKit.callS X hx hown (mvT hZ wl) (mvT hZ wst) (mvT hZ wi) (mvT hZ wc) hy (backOf (W := W) (Q := fun v h L => Fr n0 L ∧ Qf v h) hM hZ wc wi hfr hlo) hg hsize hlen hs hW hd (fun _ _ => ⟨rfl, e1, hc, hsl⟩)
  dsimp only [Pt.U, Pt.locs, Pt.cells, Pt.slots] at X' l1 y1 z1 st hQ
  subst l1 y1 z1
  exact own_st st (K T' _ v ⟨_, X', rfl, Fr.app N hQ.1⟩ hQ.2)
theorem own_callN (Y : own_S p l e R s m args below meth c n0 T h k n) (hx : p.tables.exec = Jvm.exec) (hZ : Z.Warmed39 s.vm) {own : String} {index : Nat} {y : MethodName} {bytes : ByteArray} {maxL : Nat} (hy1 : y.name = "<init>") (hown : s.vm.findClass own = some m.cls) (wl : (Jvm.Cond.methodLink own index y).before a0 Z = true) (win : (Jvm.Cond.instanceMethod y).before a0 Z = true) (wi : (Jvm.Cond.initialized y.cls).before a0 Z = true) (wc : (Jvm.Cond.code y bytes maxL none).before a0 Z = true)
    (hy : y.cls ≠ "java/lang/invoke/MethodHandle" ∧ y.cls ≠ "java/lang/invoke/VarHandle") {rm : Room} {a : Addr} {argsL rest : List Value} {Qf : Option Value → Heap → Prop} (hM : own_Con l Z y bytes maxL none [] rm (.ref a :: argsL).toArray h n0 Qf) {W : Nat} (hfr : rm.frames + 1 ≤ R.frames) (hlo : W + (maxL + 11) + rm.locals ≤ R.locals) (hc : k + rm.cells ≤ R.cells) (hsl : n + rm.slots ≤ R.slots)
    {g : JFrame} (hg : g.method = m) (hsize : g.locals.size = c.maxLocals) (hlen : ∀ sig, parseMethodDescriptor y.desc = some sig → argsL.length = sig.parameters.length) (hs : g.stack = argsL.reverse ++ .ref a :: rest) (hW : 2 * g.monitorRoom + (rest.map fun v => v.category).sum ≤ W) (hd : decode c.code g.pc = .ok (.invokespecial index, 3))
    (K : ∀ T' h' v, own_S p l e R s m args below meth c n0 T' h' (k + rm.cells) (n + rm.slots) → Qf v h' → own_Ends p.tables e below P (T'.setTop { g with pc := g.pc + 3, stack := v.toList ++ rest })) : own_Ends p.tables e below P (T.setTop g) := by
  obtain ⟨locs, X, e1, N⟩ := Y
  obtain ⟨v, vm1, ⟨T', L', k', n'⟩, -, X', ⟨L, hQ, l1, y1, z1⟩, st⟩ := X.specialBack hx hy1 hown (mvT hZ wl) (mvT hZ win) (mvT hZ wc) hy (backOf (W := W) (Q := fun v h L => Fr n0 L ∧ Qf v h) hM hZ wc wi hfr hlo) hg hsize (Steps.refl _) hlen hs hW hd (fun _ _ => ⟨rfl, e1, hc, hsl⟩)
  dsimp only [Pt.U, Pt.locs, Pt.cells, Pt.slots] at X' l1 y1 z1 st hQ
  subst l1 y1 z1
  exact own_st (fun t q => st.trans q) (K T' _ v ⟨_, X', rfl, Fr.app N hQ.1⟩ hQ.2)
theorem own_callV (Y : own_S p l e R s m args below meth c n0 T h k n) (hx : p.tables.exec = Jvm.exec) (hZ : Z.Warmed39 s.vm) {own C : String} {index : Nat} {y z : MethodName} {bytes : ByteArray} {maxL : Nat} {ret : Option FieldType} (hown : s.vm.findClass own = some m.cls) (wl : (Jvm.Cond.methodLink own index y).before a0 Z = true) (wd : (Jvm.Cond.declares y).before a0 Z = true) (hnf : NotFace s y) (wse : (Jvm.Cond.selects C y z).before a0 Z = true) (win : (Jvm.Cond.instanceMethod z).before a0 Z = true) (wi : (Jvm.Cond.initialized z.cls).before a0 Z = true) (wc : (Jvm.Cond.code z bytes maxL ret).before a0 Z = true)
    (hy : y.cls ≠ "java/lang/invoke/MethodHandle" ∧ y.cls ≠ "java/lang/invoke/VarHandle") {rm : Room} {a : Addr} (E : Exa Z h a C) {argsL rest : List Value} {Qf : Option Value → Heap → Prop} (hM : own_Con l Z z bytes maxL ret [] rm (.ref a :: argsL).toArray h n0 Qf) {W : Nat} (hfr : rm.frames + 1 ≤ R.frames) (hlo : W + (maxL + 11) + rm.locals ≤ R.locals) (hc : k + rm.cells ≤ R.cells) (hsl : n + rm.slots ≤ R.slots)
    {g : JFrame} (hg : g.method = m) (hsize : g.locals.size = c.maxLocals) (hlen : ∀ sig, parseMethodDescriptor y.desc = some sig → argsL.length = sig.parameters.length) (hs : g.stack = argsL.reverse ++ .ref a :: rest) (hW : 2 * g.monitorRoom + (rest.map fun v => v.category).sum ≤ W) (hd : decode c.code g.pc = .ok (.invokevirtual index, 3))
    (K : ∀ T' h' v, own_S p l e R s m args below meth c n0 T' h' (k + rm.cells) (n + rm.slots) → Qf v h' → own_Ends p.tables e below P (T'.setTop { g with pc := g.pc + 3, stack := v.toList ++ rest })) : own_Ends p.tables e below P (T.setTop g) := by
  obtain ⟨locs, X, e1, N⟩ := Y
  obtain ⟨cq, kq, qa, qb, qc⟩ := isOf hZ e1 E
  obtain ⟨v, vm1, ⟨T', L', k', n'⟩, -, X', ⟨L, hQ, l1, y1, z1⟩, st⟩ := X.virtualBack hx hown (mvT hZ wl) (mvT hZ wd) hnf (mvT hZ wse) (mvT hZ win) hy (backOf (W := W) (Q := fun v h L => Fr n0 L ∧ Qf v h) hM hZ wc wi hfr hlo) qa qc hg hsize (Steps.refl _) hlen hs hW hd (fun _ _ => ⟨rfl, e1, hc, hsl⟩)
  dsimp only [Pt.U, Pt.locs, Pt.cells, Pt.slots] at X' l1 y1 z1 st hQ
  subst l1 y1 z1
  exact own_st (fun t q => st.trans q) (K T' _ v ⟨_, X', rfl, Fr.app N hQ.1⟩ hQ.2)
theorem own_callU (Y : own_S p l e R s m args below meth c n0 T h k n) (hx : p.tables.exec = Jvm.exec) (hZ : Z.Warmed39 s.vm) {own C owner : String} {index : Nat} {y z : MethodName} {bytes : ByteArray} {maxL : Nat} {ret : Option FieldType} (hown : s.vm.findClass own = some m.cls) (wl : (Jvm.Cond.methodLink own index y).before a0 Z = true) (wsm : (Jvm.Cond.sameMethod y.cls owner y.name y.desc).before a0 Z = true) (wd : (Jvm.Cond.declares ⟨owner, y.name, y.desc⟩).before a0 Z = true) (wse : (Jvm.Cond.selects C y z).before a0 Z = true) (win : (Jvm.Cond.instanceMethod z).before a0 Z = true) (wi : (Jvm.Cond.initialized z.cls).before a0 Z = true) (wc : (Jvm.Cond.code z bytes maxL ret).before a0 Z = true)
    (hy : owner ≠ "java/lang/invoke/MethodHandle" ∧ owner ≠ "java/lang/invoke/VarHandle") {rm : Room} {a : Addr} (E : Exa Z h a C) {argsL rest : List Value} {Qf : Option Value → Heap → Prop} (hM : own_Con l Z z bytes maxL ret [] rm (.ref a :: argsL).toArray h n0 Qf) {W : Nat} (hfr : rm.frames + 1 ≤ R.frames) (hlo : W + (maxL + 11) + rm.locals ≤ R.locals) (hc : k + rm.cells ≤ R.cells) (hsl : n + rm.slots ≤ R.slots)
    {g : JFrame} (hg : g.method = m) (hsize : g.locals.size = c.maxLocals) (hlen : ∀ sig, parseMethodDescriptor y.desc = some sig → argsL.length = sig.parameters.length) (hs : g.stack = argsL.reverse ++ .ref a :: rest) (hW : 2 * g.monitorRoom + (rest.map fun v => v.category).sum ≤ W) (hd : decode c.code g.pc = .ok (.invokevirtual index, 3))
    (K : ∀ T' h' v, own_S p l e R s m args below meth c n0 T' h' (k + rm.cells) (n + rm.slots) → Qf v h' → own_Ends p.tables e below P (T'.setTop { g with pc := g.pc + 3, stack := v.toList ++ rest })) : own_Ends p.tables e below P (T.setTop g) := by
  obtain ⟨locs, X, e1, N⟩ := Y
  obtain ⟨cq, kq, qa, qb, qc⟩ := isOf hZ e1 E
  obtain ⟨v, vm1, ⟨T', L', k', n'⟩, -, X', ⟨L, hQ, l1, y1, z1⟩, st⟩ := X.virtualBackUp hx hown (mvT hZ wl) (mvT hZ wsm) (mvT hZ wd) hy (mvT hZ wse) (mvT hZ win) (backOf (W := W) (Q := fun v h L => Fr n0 L ∧ Qf v h) hM hZ wc wi hfr hlo) qa qc hg hsize (Steps.refl _) hlen hs hW hd (fun _ _ => ⟨rfl, e1, hc, hsl⟩)
  dsimp only [Pt.U, Pt.locs, Pt.cells, Pt.slots] at X' l1 y1 z1 st hQ
  subst l1 y1 z1
  exact own_st (fun t q => st.trans q) (K T' _ v ⟨_, X', rfl, Fr.app N hQ.1⟩ hQ.2)
theorem own_callP (Y : own_S p l e R s m args below meth c n0 T h k n) (hx : p.tables.exec = Jvm.exec) (hZ : Z.Warmed39 s.vm) {own C : String} {index : Nat} {y : MethodName} {bytes : ByteArray} {maxL : Nat} {ret : Option FieldType} (hown : s.vm.findClass own = some m.cls) (wl : (Jvm.Cond.methodLink own index y).before a0 Z = true) {nn : Nat} (win : (Jvm.Cond.instanceMethod y).before a0 Z = true) (wn : (Jvm.Cond.instantiable y.cls nn).before a0 Z = true) (wp : (Jvm.Cond.privateMethod y).before a0 Z = true) (wi : (Jvm.Cond.initialized y.cls).before a0 Z = true) (wc : (Jvm.Cond.code y bytes maxL ret).before a0 Z = true)
    (hy : y.cls ≠ "java/lang/invoke/MethodHandle" ∧ y.cls ≠ "java/lang/invoke/VarHandle") {rm : Room} {a : Addr} (E : Exa Z h a C) {argsL rest : List Value} {Qf : Option Value → Heap → Prop} (hM : own_Con l Z y bytes maxL ret [] rm (.ref a :: argsL).toArray h n0 Qf) {W : Nat} (hfr : rm.frames + 1 ≤ R.frames) (hlo : W + (maxL + 11) + rm.locals ≤ R.locals) (hc : k + rm.cells ≤ R.cells) (hsl : n + rm.slots ≤ R.slots)
    {g : JFrame} (hg : g.method = m) (hsize : g.locals.size = c.maxLocals) (hlen : ∀ sig, parseMethodDescriptor y.desc = some sig → argsL.length = sig.parameters.length) (hs : g.stack = argsL.reverse ++ .ref a :: rest) (hW : 2 * g.monitorRoom + (rest.map fun v => v.category).sum ≤ W) (hd : decode c.code g.pc = .ok (.invokevirtual index, 3))
    (K : ∀ T' h' v, own_S p l e R s m args below meth c n0 T' h' (k + rm.cells) (n + rm.slots) → Qf v h' → own_Ends p.tables e below P (T'.setTop { g with pc := g.pc + 3, stack := v.toList ++ rest })) : own_Ends p.tables e below P (T.setTop g) := by
  obtain ⟨locs, X, e1, N⟩ := Y
  obtain ⟨cell, q, q'⟩ := E.cell
  have wn' : (Jvm.Cond.instantiable y.cls nn).before #[] s = true := mvT hZ wn
  obtain ⟨ci, ki, hi1, hi2, -, hi4, -⟩ := Cond.instantiable_spec wn'
  have wse : (Jvm.Cond.selects y.cls y y).before args s = true := selects_self_of_private hi1 hi2 (by simpa using (Bool.or_eq_false_iff.mp hi4).1) (Cond.privateMethod_at (mvP hZ wp (args := #[]))) (mvT hZ win) hy
  obtain ⟨v, vm1, ⟨T', L', k', n'⟩, -, X', ⟨L, hQ, l1, y1, z1⟩, st⟩ := X.privateBack hx hown (mvT hZ wl) (mvT hZ win) wse (Cond.privateMethod_at (mvP hZ wp (args := #[]))) (mvT hZ wc) hy (backOf (W := W) (Q := fun v h L => Fr n0 L ∧ Qf v h) hM hZ wc wi hfr hlo) hg hsize (Steps.refl _) (by rw [e1]; exact q) q' hlen hs hW hd (fun _ _ => ⟨rfl, e1, hc, hsl⟩)
  dsimp only [Pt.U, Pt.locs, Pt.cells, Pt.slots] at X' l1 y1 z1 st hQ
  subst l1 y1 z1
  exact own_st (fun t q => st.trans q) (K T' _ v ⟨_, X', rfl, Fr.app N hQ.1⟩ hQ.2)
end OwnLayer
section OwnNums
def own_b (b : Bool) : Int32 := if b then 1 else 0
theorem own_b_t {b : Bool} (h : b = true) : own_b b = 1 := by subst h; rfl
theorem own_b_f {b : Bool} (h : b = false) : own_b b = 0 := by subst h; rfl
theorem own_b_0 (b : Bool) : own_b b = 0 ↔ b = false := by cases b <;> simp [own_b]
theorem own_b_n (b : Bool) : nar .boolean (own_b b) = own_b b := by cases b <;> rfl
theorem own_b_inj {a b : Bool} : own_b a = own_b b ↔ a = b := by cases a <;> cases b <;> simp [own_b]
theorem own_idx {j : Int32} {n : Nat} (h0 : 0 ≤ j.toInt) (h1 : j.toInt < (n : Int)) : ¬ j < 0 ∧ j.toNatClampNeg < n := by
  refine ⟨?_, ?_⟩
  · rw [Int32.lt_iff_toInt_lt]; show ¬ j.toInt < 0; omega
  · show j.toInt.toNat < n; omega
theorem own_ints {xs : List Int32} {i : Nat} (h : i < xs.length) : ∃ d, (xs.map Value.int)[i]? = some (.int d) ∧ d = xs[i] := ⟨xs[i], by simp [h], rfl⟩
theorem own_longs {xs : List Int64} {i : Nat} (h : i < xs.length) : ∃ d, (xs.map Value.long)[i]? = some (.long d) ∧ d = xs[i] := ⟨xs[i], by simp [h], rfl⟩
/-- p i, p (i + 1), .., k of them, all hold -/
def own_all (p : Nat → Bool) : Nat → Nat → Bool
  | _, 0 => true
  | i, k + 1 => p i && own_all p (i + 1) k
def own_g (xs : List Int32) (i : Nat) : Int32 := xs.getD i 0
theorem own_mget {xs : List Int32} {i : Nat} (h : i < (xs.map Value.int).length) : (xs.map Value.int)[i]? = some (.int (own_g xs i)) := by
  have h' : i < xs.length := by simpa using h
  simp [h', own_g]
theorem own_mlen {xs : List Int32} {i : Nat} (h : i < xs.length) : i < (xs.map Value.int).length := by simpa using h
theorem own_nat {j : Int32} {i : Nat} (h : j.toInt = (i : Int)) : ¬ j < 0 ∧ j.toNatClampNeg = i := by
  refine ⟨?_, ?_⟩
  · rw [Int32.lt_iff_toInt_lt]; show ¬ j.toInt < 0; omega
  · show j.toInt.toNat = i; omega
theorem own_inc {j : Int32} {i : Nat} (h : j.toInt = (i : Int)) (hi : i + 1 < 2147483648) : (j + 1).toInt = ((i + 1 : Nat) : Int) := by
  have := c_iadd j 1
  have h1 : (1 : Int32).toInt = 1 := rfl
  have := rng32 (j + 1)
  omega
theorem own_lt {x y : Int32} : x < y ↔ x.toInt < y.toInt := Int32.lt_iff_toInt_lt
theorem own_eq {x y : Int32} : x = y ↔ x.toInt = y.toInt := Int32.toInt_inj.symm
theorem own_tolen {ys : List Int32} {z : Int32} (h : z.toInt = (ys.length : Int)) : (ys.map Value.int).length.toInt32 = z := by
  have q := rng32 z
  have e : (ys.map Value.int).length = ys.length := by simp
  rw [own_eq, len_toInt (by rw [e]; omega), e, h]
theorem own_add {x y : Int32} {a b : Nat} (h1 : x.toInt = (a : Int)) (h2 : y.toInt = (b : Int)) (hi : a + b < 2147483648) : (x + y).toInt = ((a + b : Nat) : Int) := by
  have := c_iadd x y
  have := rng32 (x + y)
  omega
theorem own_sub {x y : Int32} {a b : Nat} (h1 : x.toInt = (a : Int)) (h2 : y.toInt = (b : Int)) : (x - y).toInt = (a : Int) - (b : Int) := by
  have := c_isub x y
  have := rng32 (x - y)
  have := rng32 x
  have := rng32 y
  omega
theorem own_l0 : (0 : Int32).toInt = ((0 : Nat) : Int) := rfl
theorem own_l1 : (1 : Int32).toInt = ((1 : Nat) : Int) := rfl
theorem own_l2 : (2 : Int32).toInt = ((2 : Nat) : Int) := rfl
theorem own_l3 : (3 : Int32).toInt = ((3 : Nat) : Int) := rfl
theorem own_l4 : (4 : Int32).toInt = ((4 : Nat) : Int) := rfl
theorem own_l5 : (5 : Int32).toInt = ((5 : Nat) : Int) := rfl
theorem own_l6 : (6 : Int32).toInt = ((6 : Nat) : Int) := rfl
theorem own_l7 : (7 : Int32).toInt = ((7 : Nat) : Int) := rfl
theorem own_l8 : (8 : Int32).toInt = ((8 : Nat) : Int) := rfl
end OwnNums
section OwnWide
/-- the tables are those of s warmed in the wide sense; every text interned since lies above s's heap and below h's size -/
def own_Si (s : State) (vm0 : Vm) (h : Heap) : Prop := ∃ k0, s.Since vm0 k0 ∧ k0 ≤ h.size
theorem own_Si.mono {s : State} {vm0 : Vm} {h h' : Heap} (S : own_Si s vm0 h) (q : h.size ≤ h'.size) : own_Si s vm0 h' := by
  obtain ⟨k0, a, b⟩ := S
  exact ⟨k0, a, Nat.le_trans b q⟩
theorem own_Si.start (s : State) (h : Heap) (q : s.heap.size ≤ h.size) : own_Si s s.vm h := ⟨s.heap.size, (State.WarmedH.refl s).since _, q⟩
def own_PW (s : State) (n0 : Nat) (Qf : Option Value → Heap → Prop) (C S : Nat) (o : Outcome) (U' : State) : Prop := ∃ v L, o = .returned v ∧ (Fr n0 L ∧ Qf v U'.heap) ∧ ReturnedEndW s o U' L C S
def own_ConW (l : Launch) (Z : State) (y : MethodName) (bytes : ByteArray) (maxL : Nat) (ret : Option FieldType) (ws : List Jvm.Cond) (rm : Room) (as' : Array Value) (h0 : Heap) (n0 : Nat) (Qf : Option Value → Heap → Prop) : Prop :=
  MetFree l y (head1 (Jvm.Cond.code y bytes maxL ret :: ws) rm) (fun a U => a = as' ∧ Z.Warmed39 U.vm ∧ U.heap = h0) (fun _ _ _ _ _ => True) (fun _ U o U' => ∃ v L, o = .returned v ∧ (Fr n0 L ∧ Qf v U'.heap) ∧ ReturnedEndW U o U' L rm.cells rm.slots)
variable {p : Program} {l : Launch} {e : Env} {R : Room} {s : State} {m : MethodId} {args : Array Value} {below : List Frame} {meth : Method} {c : Code} {n0 : Nat} {T : State} {h : Heap} {k n : Nat} {Z : State} {a0 : Array Value} {P : Outcome → State → Prop} {vm0 : Vm}
theorem own_bodyW {y : MethodName} {bytes : ByteArray} {maxL : Nat} {ret : Option FieldType} {ws : List Jvm.Cond} {rm : Room} {as' : Array Value} {h0 : Heap} {Qf : Option Value → Heap → Prop} (hpn : plainFor y = true)
    (hbody : ∀ (p : Program) (e : Env) (s : State) (m : MethodId) (below : List Frame) (meth : Method) (c : Code) (T : State), p.tables.exec = Jvm.exec → Z.Warmed39 s.vm → c.code = bytes → c.maxLocals = maxL → s.vm.findClass y.cls = some m.cls → meth.name = y.name → meth.sig.returnType = ret → meth.locks = false →
      own_S p l e rm s m as' below meth c n0 T h0 0 0 → own_Si s s.vm h0 → own_Ends p.tables e below (own_PW s n0 Qf rm.cells rm.slots) (T.setTop (entryFrame m as' maxL))) : own_ConW l Z y bytes maxL ret ws rm as' h0 n0 Qf := by
  refine MetFree.of_bodySF hpn hisR ?_
  intro p e s m args below meth c s₁ Bd hml0 hP hK
  obtain ⟨rfl, hZ, hh⟩ := hP
  have hown : s.vm.findClass y.cls = some m.cls := findClass_of_methodNamed Bd.named
  have hnm := (name_of_methodNamed Bd.named Bd.method).1
  exact hbody p e s m below meth c s₁ Bd.exec hZ Bd.bytes hml0 hown hnm Bd.returns Bd.notSynchronized ⟨[], Stand.of_body Bd, by rw [← hh, Bd.state]; rfl, Fr.nil n0⟩ (own_Si.start s h0 (by rw [← hh]; exact Nat.le_refl _))
theorem own_leaveW (Y : own_S p l e R (s.setVm vm0) m args below meth c n0 T h k n) (hS : own_Si s vm0 h) (hlk : meth.locks = false) {v : Option Value} (hv : meth.sig.returnType = none → v = none) {Qf : Option Value → Heap → Prop} {C S : Nat} (hk : k ≤ C) (hn : n ≤ S) (hQ : Qf v h) {A : State}
    (st : ∀ (locs : List Loc) (fs : List Frame), Stand p l e R (s.setVm vm0) m args below meth c T locs k n → (∀ (f : JFrame) (acts : List Action), f.method = m → f.locked = none → f.entered = [] → (doReturn e (T.setTop f) acts v).1 = T.setFrames fs) → Steps p.tables e below A (T.setFrames fs)) : own_Ends p.tables e below (own_PW s n0 Qf C S) A := by
  obtain ⟨locs, X, e1, N⟩ := Y
  obtain ⟨k0, hS1, hS2⟩ := hS
  obtain ⟨fs, hr, hrun, hended, hW, hsame⟩ := X.leave hv hlk
  have hz : k0 ≤ (T.setFrames fs).heap.size := by show k0 ≤ T.heap.size; rw [e1]; exact hS2
  obtain ⟨q1, q2, q3⟩ := hS1.ended hW hz hsame
  refine ⟨_, _, st locs fs X hr, hrun, hended, v, locs, rfl, ⟨N, ?_⟩, ⟨_, rfl⟩, q1, q2, q3.mono hk hn⟩
  show Qf v T.heap
  rw [e1]; exact hQ
theorem own_retNW (Y : own_S p l e R (s.setVm vm0) m args below meth c n0 T h k n) (hS : own_Si s vm0 h) (hx : p.tables.exec = Jvm.exec) (hlk : meth.locks = false) {pc : Nat} {Ls : Array Slot} {z : Int32} {t : FieldType} {rest : List Value} (hret : meth.sig.returnType = some t) (ht : t = .boolean ∨ t = .byte ∨ t = .char ∨ t = .short) (hd : decode c.code pc = .ok (.ireturn, 1))
    {Qf : Option Value → Heap → Prop} {C S : Nat} (hk : k ≤ C) (hs : n ≤ S) (hQ : Qf (some (.int (nar t z))) h) : own_Ends p.tables e below (own_PW s n0 Qf C S) (T.setTop (mkF m pc Ls (.int z :: rest))) :=
  own_leaveW Y hS hlk (fun q => by rw [hret] at q; cases q) hk hs hQ fun _ _ X hr => retN X hx hret ht hd hr
theorem own_retAW (Y : own_S p l e R (s.setVm vm0) m args below meth c n0 T h k n) (hS : own_Si s vm0 h) (hx : p.tables.exec = Jvm.exec) (hlk : meth.locks = false) {pc : Nat} {Ls : Array Slot} {w : Value} {t : FieldType} {rest : List Value} (hret : meth.sig.returnType = some t) (ht : t.isReference = true) (hw : w.isRef = true) (hn : narrow t w = w) (hd : decode c.code pc = .ok (.areturn, 1))
    {Qf : Option Value → Heap → Prop} {C S : Nat} (hk : k ≤ C) (hs : n ≤ S) (hQ : Qf (some w) h) : own_Ends p.tables e below (own_PW s n0 Qf C S) (T.setTop (mkF m pc Ls (w :: rest))) :=
  own_leaveW Y hS hlk (fun q => by rw [hret] at q; cases q) hk hs hQ fun _ _ X hr => retOut X hx hret hn (Or.inr (Or.inr (Or.inr (Or.inr ⟨rfl, ht, hw⟩)))) hd hr
theorem own_ldcSt (Y : own_S p l e R (s.setVm vm0) m args below meth c n0 T h k n) (hS : own_Si s vm0 h) (hx : p.tables.exec = Jvm.exec) (hZ : Z.Warmed39 (s.setVm vm0).vm) {own text : String} {index : Nat} (hown : (s.setVm vm0).vm.findClass own = some m.cls) (w : (Jvm.Cond.stringLink own index text).before a0 Z = true) (wS : ∀ a ∈ Bundle.stringAtoms, a.before a0 Z = true)
    {g : JFrame} (hg : g.method = m) (hd : decode c.code g.pc = .ok (.ldc index, 2)) {nn : Nat} (hn : 4 * text.toList.length ≤ nn) (hbig : nn ≤ 536870912) (hc : k + 2 ≤ R.cells) (hl : n + (nn + 4) ≤ R.slots)
    (K : ∀ a T' h' vm1, own_S p l e R (s.setVm vm1) m args below meth c n0 T' h' (k + 2) (n + (nn + 4)) → own_Si s vm1 h' → Ext h h' → Z.Warmed39 (s.setVm vm1).vm → (s.setVm vm1).vm.findClass own = some m.cls → own_Ends p.tables e below P (T'.setTop { g with pc := g.pc + 2, stack := .ref a :: g.stack })) : own_Ends p.tables e below P (T.setTop g) := by
  obtain ⟨locs, X, e1, N⟩ := Y
  obtain ⟨k0, hS1, hS2⟩ := hS
  obtain ⟨a, T', h', k1, X', e', E, hS', hk', hZ', ho', st⟩ := ldcS X hx hZ hown w wS e1 hS1 hS2 hg hd hn hbig hc hl
  exact own_st st (K a T' h' T'.vm ⟨locs, X', e', N⟩ ⟨k1, hS', hk'⟩ E hZ' ho')
theorem own_callVW (Y : own_S p l e R (s.setVm vm0) m args below meth c n0 T h k n) (hS : own_Si s vm0 h) (hx : p.tables.exec = Jvm.exec) (hZ : Z.Warmed39 (s.setVm vm0).vm) {own C : String} {index : Nat} {y z : MethodName} {bytes : ByteArray} {maxL : Nat} {ret : Option FieldType} (hown : (s.setVm vm0).vm.findClass own = some m.cls) (wl : (Jvm.Cond.methodLink own index y).before a0 Z = true) (wd : (Jvm.Cond.declares y).before a0 Z = true) (hnf : NotFace (s.setVm vm0) y) (wse : (Jvm.Cond.selects C y z).before a0 Z = true) (win : (Jvm.Cond.instanceMethod z).before a0 Z = true) (wi : (Jvm.Cond.initialized z.cls).before a0 Z = true) (wc : (Jvm.Cond.code z bytes maxL ret).before a0 Z = true)
    (hy : y.cls ≠ "java/lang/invoke/MethodHandle" ∧ y.cls ≠ "java/lang/invoke/VarHandle") {rm : Room} {a : Addr} (E : Exa Z h a C) {argsL rest : List Value} {Qf : Option Value → Heap → Prop} (hM : own_ConW l Z z bytes maxL ret [] rm (.ref a :: argsL).toArray h n0 Qf) {W : Nat} (hfr : rm.frames + 1 ≤ R.frames) (hlo : W + (maxL + 11) + rm.locals ≤ R.locals) (hc : k + rm.cells ≤ R.cells) (hsl : n + rm.slots ≤ R.slots)
    {g : JFrame} (hg : g.method = m) (hsize : g.locals.size = c.maxLocals) (hlen : ∀ sig, parseMethodDescriptor y.desc = some sig → argsL.length = sig.parameters.length) (hs : g.stack = argsL.reverse ++ .ref a :: rest) (hW : 2 * g.monitorRoom + (rest.map fun v => v.category).sum ≤ W) (hd : decode c.code g.pc = .ok (.invokevirtual index, 3))
    (K : ∀ T' h' v vm1, own_S p l e R (s.setVm vm1) m args below meth c n0 T' h' (k + rm.cells) (n + rm.slots) → own_Si s vm1 h' → Z.Warmed39 (s.setVm vm1).vm → (s.setVm vm1).vm.findClass own = some m.cls → h.size ≤ h'.size → Qf v h' → own_Ends p.tables e below P (T'.setTop { g with pc := g.pc + 3, stack := v.toList ++ rest })) : own_Ends p.tables e below P (T.setTop g) := by
  obtain ⟨locs, X, e1, N⟩ := Y
  obtain ⟨k0, hS1, hS2⟩ := hS
  obtain ⟨cq, kq, qa, qb, qc⟩ := isOf hZ e1 E
  obtain ⟨v, vm1, ⟨T', L', k', n'⟩, -, X', hS', hgr, ⟨L, hQ, l1, y1, z1⟩, st⟩ := X.virtualBackS hx hown (mvT hZ wl) (mvT hZ wd) hnf (mvT hZ wse) (mvT hZ win) hy (backOfS (W := W) (Q := fun v h L => Fr n0 L ∧ Qf v h) hM hZ wc wi hfr hlo) qa qc hg hsize (Steps.refl _) hlen hs hW hd (fun _ _ => ⟨rfl, e1, hc, hsl⟩)
  dsimp only [Pt.U, Pt.locs, Pt.cells, Pt.slots] at X' l1 y1 z1 st hQ hS' hgr
  subst l1 y1 z1
  have hgr' : h.size ≤ T'.heap.size := by rw [← e1]; exact hgr
  have hS2' : s.Since T'.vm T'.heap.size := hS1.trans hS' (Nat.le_trans hS2 hgr')
  have hZ' : Z.Warmed39 (s.setVm T'.vm).vm := State.Warmed39.trans (t := s.setVm vm0) hZ hS'.1
  have ho' : (s.setVm T'.vm).vm.findClass own = some m.cls := by rw [show (s.setVm T'.vm).vm = T'.vm from rfl, hS'.1.alike.findClass]; exact hown
  exact own_st (fun t q => st.trans q) (K T' _ v T'.vm ⟨_, X', rfl, Fr.app N hQ.1⟩ ⟨_, hS2', Nat.le_refl _⟩ hZ' ho' hgr' hQ.2)
end OwnWide
theorem own_byte {u : Int32} (h : -128 ≤ u.toInt ∧ u.toInt ≤ 127) : u.toInt8.toInt32 = u := by
  have q := c_i2b u
  rw [own_eq]; omega
theorem own_u8 (u : Int32) : (u &&& 255).toInt = u.toInt % 256 := c_mask u 255 8 (by decide) (by decide)
theorem own_bits (w : Int32) (h : -128 ≤ w.toInt ∧ w.toInt ≤ 127) : ((0 : Int32) ||| (w - 32)).toInt = w.toInt - 32 := by
  have e : ((0 : Int32) ||| (w - 32)) = w - 32 := by simp
  rw [e]
  have q := c_isub w 32
  have l : (32 : Int32).toInt = 32 := rfl
  have r := rng32 (w - 32)
  omega
theorem own_set_len {vs : List Value} {i n : Nat} {v : Value} (h : vs.length = n) : (vs.set i v).length = n := by simp [h]
def own_min (x y : Int32) : Int32 := if y < x then y else x
theorem own_d4_0 : decode jdk_29_method_69_code 0 = .ok (.iload_n 0, 1) := by decide +kernel
theorem own_d4_1 : decode jdk_29_method_69_code 1 = .ok (.iload_n 1, 1) := by decide +kernel
theorem own_d4_2 : decode jdk_29_method_69_code 2 = .ok (.if_icmp .gt 7, 3) := by decide +kernel
theorem own_d4_9 : decode jdk_29_method_69_code 9 = .ok (.iload_n 1, 1) := by decide +kernel
theorem own_d4_10 : decode jdk_29_method_69_code 10 = .ok (.ireturn, 1) := by decide +kernel
theorem own_d4_5 : decode jdk_29_method_69_code 5 = .ok (.iload_n 0, 1) := by decide +kernel
theorem own_d4_6 : decode jdk_29_method_69_code 6 = .ok (.goto 4, 3) := by decide +kernel
theorem own_ef_own_rm4 (m : MethodId) (x0 : Int32) (x1 : Int32) : entryFrame m #[(.int x0), (.int x1)] 2 = mkF m 0 #[.val (.int x0), .val (.int x1)] [] := by first | (simp [entryFrame, mkF, argsToLocals, Value.category]; done) | rfl
def own_Q_own_rm4 (Z : State) (x0 : Int32) (x1 : Int32) (h0 : Heap) (n0 : Nat) (v : Option Value) (h : Heap) : Prop := v = some (.int (own_min x0 x1)) ∧ h0 = h
set_option maxRecDepth 65536 in
set_option maxHeartbeats 40000000 in
theorem own_rm4 (l : Launch) (Z : State) (a0 : Array Value) (hw : ∀ d ∈ tables_1, d.before a0 Z = true) (ws : List Jvm.Cond) (x0 : Int32) (x1 : Int32)  (h0 : Heap) (n0 : Nat)   :
    own_Con l Z (⟨"java/lang/Math", "min", "(II)I"⟩ : MethodName) jdk_29_method_69_code 2 (some .int) ws ({ frames := 0, cells := 0, slots := 0, locals := 0 } : Room) #[(.int x0), (.int x1)] h0 n0 (own_Q_own_rm4 Z x0 x1 h0 n0) := by
  refine own_body (Jvm.Free.JP.mathPlain rfl (by decide +kernel)) ?_
  intro p e s m below meth c T0 hx hZ hby hml hown hnm hret hlk Y0
  replace hown : s.vm.findClass "java/lang/Math" = some m.cls := hown
  replace hnm : meth.name = "min" := hnm
  rw [own_ef_own_rm4 m x0 x1]
  show own_Ends _ _ _ _ (T0.setTop (mkF m 0 #[.val (.int x0), .val (.int x1)] []))
  refine own_st (fun t_ => XS.iloadN (own_here Y0) hx rfl (hb hby own_d4_0) rfl) ?_
  show own_Ends _ _ _ _ (T0.setTop (mkF m 1 #[.val (.int x0), .val (.int x1)] [(.int x0)]))
  refine own_st (fun t_ => XS.iloadN (own_here Y0) hx rfl (hb hby own_d4_1) rfl) ?_
  show own_Ends _ _ _ _ (T0.setTop (mkF m 2 #[.val (.int x0), .val (.int x1)] [(.int x1), (.int x0)]))
  by_cases c2_1 : x1 < x0
  ·
   refine own_st (fun t_ => XS.icmpYes (own_here Y0) hx rfl (pc0 := 2) (pc' := 9) rfl (hb hby own_d4_2) rfl (XT.ii_gt_t c2_1) (by decide) (by decide)) ?_
   show own_Ends _ _ _ _ (T0.setTop (mkF m 9 #[.val (.int x0), .val (.int x1)] []))
   refine own_st (fun t_ => XS.iloadN (own_here Y0) hx rfl (hb hby own_d4_9) rfl) ?_
   show own_Ends _ _ _ _ (T0.setTop (mkF m 10 #[.val (.int x0), .val (.int x1)] [(.int x1)]))
   refine own_retI Y0 hx hlk hret (hb hby own_d4_10) (by decide) (by decide) ?_
   exact ⟨by simp [own_min, c2_1], rfl⟩
  ·
   refine own_st (fun t_ => XS.icmpNo (own_here Y0) hx rfl (hb hby own_d4_2) rfl (XT.ii_gt_f c2_1)) ?_
   show own_Ends _ _ _ _ (T0.setTop (mkF m 5 #[.val (.int x0), .val (.int x1)] []))
   refine own_st (fun t_ => XS.iloadN (own_here Y0) hx rfl (hb hby own_d4_5) rfl) ?_
   show own_Ends _ _ _ _ (T0.setTop (mkF m 6 #[.val (.int x0), .val (.int x1)] [(.int x0)]))
   refine own_st (fun t_ => XS.goto (own_here Y0) hx rfl (pc0 := 6) (pc' := 10) rfl (hb hby own_d4_6) (by decide) (by decide)) ?_
   show own_Ends _ _ _ _ (T0.setTop (mkF m 10 #[.val (.int x0), .val (.int x1)] [(.int x0)]))
   refine own_retI Y0 hx hlk hret (hb hby own_d4_10) (by decide) (by decide) ?_
   exact ⟨by simp [own_min, c2_1], rfl⟩
theorem own_pn0 : plainName "kombos/io/FieldBytes" = true := by first | (simp [plainName, overriddenIn]; done) | decide +kernel
theorem own_d7_0 : decode prog_57_method_3_code 0 = .ok (.iload_n 0, 1) := by decide +kernel
theorem own_d7_1 : decode prog_57_method_3_code 1 = .ok (.bipush 32, 2) := by decide +kernel
theorem own_d7_3 : decode prog_57_method_3_code 3 = .ok (.isub, 1) := by decide +kernel
theorem own_d7_4 : decode prog_57_method_3_code 4 = .ok (.ireturn, 1) := by decide +kernel
theorem own_ef_own_rm7 (m : MethodId) (x0 : Int32) : entryFrame m #[(.int x0)] 1 = mkF m 0 #[.val (.int x0)] [] := by first | (simp [entryFrame, mkF, argsToLocals, Value.category]; done) | rfl
def own_Q_own_rm7 (Z : State) (x0 : Int32) (h0 : Heap) (n0 : Nat) (v : Option Value) (h : Heap) : Prop := v = some (.int (x0 - 32)) ∧ h0 = h
set_option maxRecDepth 65536 in
set_option maxHeartbeats 40000000 in
theorem own_rm7 (l : Launch) (Z : State) (a0 : Array Value) (hw : ∀ d ∈ tables_1, d.before a0 Z = true) (ws : List Jvm.Cond) (x0 : Int32)  (h0 : Heap) (n0 : Nat)   :
    own_Con l Z (⟨"kombos/io/FieldBytes", "bitsOf", "(B)I"⟩ : MethodName) prog_57_method_3_code 1 (some .int) ws ({ frames := 0, cells := 0, slots := 0, locals := 0 } : Room) #[(.int x0)] h0 n0 (own_Q_own_rm7 Z x0 h0 n0) := by
  refine own_body (plainFor_of_name own_pn0) ?_
  intro p e s m below meth c T0 hx hZ hby hml hown hnm hret hlk Y0
  replace hown : s.vm.findClass "kombos/io/FieldBytes" = some m.cls := hown
  replace hnm : meth.name = "bitsOf" := hnm
  rw [own_ef_own_rm7 m x0]
  show own_Ends _ _ _ _ (T0.setTop (mkF m 0 #[.val (.int x0)] []))
  refine own_st (fun t_ => XS.iloadN (own_here Y0) hx rfl (hb hby own_d7_0) rfl) ?_
  show own_Ends _ _ _ _ (T0.setTop (mkF m 1 #[.val (.int x0)] [(.int x0)]))
  refine own_st (fun t_ => XS.bipush (own_here Y0) hx rfl (hb hby own_d7_1) ) ?_
  show own_Ends _ _ _ _ (T0.setTop (mkF m 3 #[.val (.int x0)] [(.int (32 : Int32)), (.int x0)]))
  refine own_st (fun t_ => XS.isub (own_here Y0) hx rfl (hb hby own_d7_3) rfl) ?_
  show own_Ends _ _ _ _ (T0.setTop (mkF m 4 #[.val (.int x0)] [(.int (x0 - (32 : Int32)))]))
  refine own_retI Y0 hx hlk hret (hb hby own_d7_4) (by decide) (by decide) ?_
  exact ⟨rfl, rfl⟩
theorem own_d11_0 : decode prog_57_method_4_code 0 = .ok (.aload_n 0, 1) := by decide +kernel
theorem own_d11_1 : decode prog_57_method_4_code 1 = .ok (.aload_n 0, 1) := by decide +kernel
theorem own_d11_2 : decode prog_57_method_4_code 2 = .ok (.getfield 13, 3) := by decide +kernel
theorem own_d11_5 : decode prog_57_method_4_code 5 = .ok (.putfield 17, 3) := by decide +kernel
theorem own_d11_8 : decode prog_57_method_4_code 8 = .ok (.aload_n 0, 1) := by decide +kernel
theorem own_d11_9 : decode prog_57_method_4_code 9 = .ok (.iconst 0, 1) := by decide +kernel
theorem own_d11_10 : decode prog_57_method_4_code 10 = .ok (.putfield 34, 3) := by decide +kernel
theorem own_d11_13 : decode prog_57_method_4_code 13 = .ok (.aload_n 0, 1) := by decide +kernel
theorem own_d11_14 : decode prog_57_method_4_code 14 = .ok (.iconst 0, 1) := by decide +kernel
theorem own_d11_15 : decode prog_57_method_4_code 15 = .ok (.putfield 37, 3) := by decide +kernel
theorem own_d11_18 : decode prog_57_method_4_code 18 = .ok (.aload_n 0, 1) := by decide +kernel
theorem own_d11_19 : decode prog_57_method_4_code 19 = .ok (.iconst 0, 1) := by decide +kernel
theorem own_d11_20 : decode prog_57_method_4_code 20 = .ok (.putfield 40, 3) := by decide +kernel
theorem own_d11_23 : decode prog_57_method_4_code 23 = .ok (.aload_n 0, 1) := by decide +kernel
theorem own_d11_24 : decode prog_57_method_4_code 24 = .ok (.iconst 0, 1) := by decide +kernel
theorem own_d11_25 : decode prog_57_method_4_code 25 = .ok (.putfield 43, 3) := by decide +kernel
theorem own_d11_28 : decode prog_57_method_4_code 28 = .ok (.aload_n 0, 1) := by decide +kernel
theorem own_d11_29 : decode prog_57_method_4_code 29 = .ok (.iconst 0, 1) := by decide +kernel
theorem own_d11_30 : decode prog_57_method_4_code 30 = .ok (.putfield 46, 3) := by decide +kernel
theorem own_d11_33 : decode prog_57_method_4_code 33 = .ok (.aload_n 0, 1) := by decide +kernel
theorem own_d11_34 : decode prog_57_method_4_code 34 = .ok (.iconst 0, 1) := by decide +kernel
theorem own_d11_35 : decode prog_57_method_4_code 35 = .ok (.putfield 50, 3) := by decide +kernel
theorem own_d11_38 : decode prog_57_method_4_code 38 = .ok (.return_, 1) := by decide +kernel
theorem own_ef_own_rm11 (m : MethodId) (r0 : Addr) : entryFrame m #[(.ref r0)] 1 = mkF m 0 #[.val (.ref r0)] [] := by first | (simp [entryFrame, mkF, argsToLocals, Value.category]; done) | rfl
def own_Q_own_rm11 (Z : State) (r0 bh bs be bp : Addr) (hv sv ev pv : List Value) (mx : Int32) (h0 : Heap) (n0 : Nat) (v : Option Value) (h : Heap) : Prop := v = none ∧ Keep h0 h [r0] ∧ Exa Z h r0 "kombos/io/FieldBytes" ∧ Fld Z h r0 "kombos/io/FieldBytes" "maxRecordLength" "I" (.int mx) ∧ Fld Z h r0 "kombos/io/FieldBytes" "length" "I" (.int 0) ∧ Fld Z h r0 "kombos/io/FieldBytes" "start" "I" (.int 0) ∧ Fld Z h r0 "kombos/io/FieldBytes" "count" "I" (.int 0) ∧ Fld Z h r0 "kombos/io/FieldBytes" "bits" "I" (.int 0) ∧ Fld Z h r0 "kombos/io/FieldBytes" "tooLong" "Z" (.int 0) ∧ Fld Z h r0 "kombos/io/FieldBytes" "full" "Z" (.int 0) ∧ Fld Z h r0 "kombos/io/FieldBytes" "held" "[B" (.ref bh) ∧ Fld Z h r0 "kombos/io/FieldBytes" "bytes" "[B" (.ref bh) ∧ Fld Z h r0 "kombos/io/FieldBytes" "starts" "[I" (.ref bs) ∧ Fld Z h r0 "kombos/io/FieldBytes" "ends" "[I" (.ref be) ∧ Fld Z h r0 "kombos/io/FieldBytes" "plain" "[I" (.ref bp) ∧ own_A Z h bh .byte hv ∧ own_A Z h bs .int sv ∧ own_A Z h be .int ev ∧ own_A Z h bp .int pv
set_option maxRecDepth 65536 in
set_option maxHeartbeats 40000000 in
theorem own_rm11 (l : Launch) (Z : State) (a0 : Array Value) (hw : ∀ d ∈ tables_1, d.before a0 Z = true) (ws : List Jvm.Cond) (r0 : Addr) (bh bs be bp : Addr) (hv sv ev pv : List Value) (by_ : Addr) (mx ln stt cnt bits tl fu : Int32) (h0 : Heap) (n0 : Nat)  (E : Exa Z h0 r0 "kombos/io/FieldBytes") (FmaxRecordLength : Fld Z h0 r0 "kombos/io/FieldBytes" "maxRecordLength" "I" (.int mx)) (Flength : Fld Z h0 r0 "kombos/io/FieldBytes" "length" "I" (.int ln)) (Fstart : Fld Z h0 r0 "kombos/io/FieldBytes" "start" "I" (.int stt)) (Fcount : Fld Z h0 r0 "kombos/io/FieldBytes" "count" "I" (.int cnt)) (Fbits : Fld Z h0 r0 "kombos/io/FieldBytes" "bits" "I" (.int bits)) (FtooLong : Fld Z h0 r0 "kombos/io/FieldBytes" "tooLong" "Z" (.int tl)) (Ffull : Fld Z h0 r0 "kombos/io/FieldBytes" "full" "Z" (.int fu)) (Fheld : Fld Z h0 r0 "kombos/io/FieldBytes" "held" "[B" (.ref bh)) (Fbytes : Fld Z h0 r0 "kombos/io/FieldBytes" "bytes" "[B" (.ref by_)) (Fstarts : Fld Z h0 r0 "kombos/io/FieldBytes" "starts" "[I" (.ref bs)) (Fends : Fld Z h0 r0 "kombos/io/FieldBytes" "ends" "[I" (.ref be)) (Fplain : Fld Z h0 r0 "kombos/io/FieldBytes" "plain" "[I" (.ref bp)) (Abh : own_A Z h0 bh .byte hv) (Abs : own_A Z h0 bs .int sv) (Abe : own_A Z h0 be .int ev) (Abp : own_A Z h0 bp .int pv) (ge_r : n0 ≤ r0) (ge_bh : n0 ≤ bh) (ge_bs : n0 ≤ bs) (ge_be : n0 ≤ be) (ge_bp : n0 ≤ bp) (ne_bh_r0 : bh ≠ r0) (ne_bs_r0 : bs ≠ r0) (ne_be_r0 : be ≠ r0) (ne_bp_r0 : bp ≠ r0) (ne_bh_bs : bh ≠ bs) (ne_bh_be : bh ≠ be) (ne_bh_bp : bh ≠ bp) (ne_bs_be : bs ≠ be) (ne_bs_bp : bs ≠ bp) (ne_be_bp : be ≠ bp) (hvl : hv.length = 64) (svl : sv.length = 8) (evl : ev.length = 8) (pvl : pv.length = 8) :
    own_Con l Z (⟨"kombos/io/FieldBytes", "clear", "()V"⟩ : MethodName) prog_57_method_4_code 1 none ws ({ frames := 0, cells := 0, slots := 0, locals := 0 } : Room) #[(.ref r0)] h0 n0 (own_Q_own_rm11 Z r0 bh bs be bp hv sv ev pv mx h0 n0) := by
  refine own_body (plainFor_of_name own_pn0) ?_
  intro p e s m below meth c T0 hx hZ hby hml hown hnm hret hlk Y0
  replace hown : s.vm.findClass "kombos/io/FieldBytes" = some m.cls := hown
  replace hnm : meth.name = "clear" := hnm
  rw [own_ef_own_rm11 m r0]
  show own_Ends _ _ _ _ (T0.setTop (mkF m 0 #[.val (.ref r0)] []))
  refine own_st (fun t_ => XS.aloadN (own_here Y0) hx rfl (hb hby own_d11_0) rfl rfl) ?_
  show own_Ends _ _ _ _ (T0.setTop (mkF m 1 #[.val (.ref r0)] [(.ref r0)]))
  refine own_st (fun t_ => XS.aloadN (own_here Y0) hx rfl (hb hby own_d11_1) rfl rfl) ?_
  show own_Ends _ _ _ _ (T0.setTop (mkF m 2 #[.val (.ref r0)] [(.ref r0), (.ref r0)]))
  refine own_getF Y0 hx hZ hown (host := "") (Or.inl (hw _ (List.mem_of_getElem? (i := 10) rfl))) Via.refl Fheld rfl rfl (hb hby own_d11_2) (fun T2 Y3 => ?_)
  show own_Ends _ _ _ _ (T2.setTop (mkF m 5 #[.val (.ref r0)] [(.ref bh), (.ref r0)]))
  refine own_putF Y3 hx hZ hown (host := "") (Or.inl (hw _ (List.mem_of_getElem? (i := 12) rfl))) Via.refl Fbytes E (Or.inl (hw _ (List.mem_of_getElem? (i := 13) rfl))) (hw _ (List.mem_of_getElem? (i := 1) rfl)) ge_r (ty := (.array .byte)) (by decide) rfl rfl rfl rfl (hb hby own_d11_5) (fun T4 h6 Y5 W7 F8 => ?_)
  show own_Ends _ _ _ _ (T4.setTop (mkF m 8 #[.val (.ref r0)] []))
  refine own_st (fun t_ => XS.aloadN (own_here Y5) hx rfl (hb hby own_d11_8) rfl rfl) ?_
  show own_Ends _ _ _ _ (T4.setTop (mkF m 9 #[.val (.ref r0)] [(.ref r0)]))
  refine own_st (fun t_ => XS.iconst (own_here Y5) hx rfl (hb hby own_d11_9) ) ?_
  show own_Ends _ _ _ _ (T4.setTop (mkF m 10 #[.val (.ref r0)] [(.int (0 : Int32)), (.ref r0)]))
  have f9 : Exa Z h6 r0 "kombos/io/FieldBytes" := E.wr W7
  have f10 : Fld Z h6 r0 "kombos/io/FieldBytes" "length" "I" (.int ln) := Flength.other W7 (Or.inr (slot_ne (Or.inl (hw _ (List.mem_of_getElem? (i := 43) rfl))) (Or.inl (hw _ (List.mem_of_getElem? (i := 13) rfl))) (by decide) (t := .int) (t' := (.array .byte)) (by decide) (by decide)))
  refine own_putF Y5 hx hZ hown (host := "") (Or.inl (hw _ (List.mem_of_getElem? (i := 42) rfl))) Via.refl f10 f9 (Or.inl (hw _ (List.mem_of_getElem? (i := 43) rfl))) (hw _ (List.mem_of_getElem? (i := 1) rfl)) ge_r (ty := .int) (by decide) rfl rfl rfl rfl (hb hby own_d11_10) (fun T11 h13 Y12 W14 F15 => ?_)
  show own_Ends _ _ _ _ (T11.setTop (mkF m 13 #[.val (.ref r0)] []))
  refine own_st (fun t_ => XS.aloadN (own_here Y12) hx rfl (hb hby own_d11_13) rfl rfl) ?_
  show own_Ends _ _ _ _ (T11.setTop (mkF m 14 #[.val (.ref r0)] [(.ref r0)]))
  refine own_st (fun t_ => XS.iconst (own_here Y12) hx rfl (hb hby own_d11_14) ) ?_
  show own_Ends _ _ _ _ (T11.setTop (mkF m 15 #[.val (.ref r0)] [(.int (0 : Int32)), (.ref r0)]))
  have f16 : Exa Z h13 r0 "kombos/io/FieldBytes" := f9.wr W14
  have f17 : Fld Z h6 r0 "kombos/io/FieldBytes" "start" "I" (.int stt) := Fstart.other W7 (Or.inr (slot_ne (Or.inl (hw _ (List.mem_of_getElem? (i := 45) rfl))) (Or.inl (hw _ (List.mem_of_getElem? (i := 13) rfl))) (by decide) (t := .int) (t' := (.array .byte)) (by decide) (by decide)))
  have f18 : Fld Z h13 r0 "kombos/io/FieldBytes" "start" "I" (.int stt) := f17.other W14 (Or.inr (slot_ne (Or.inl (hw _ (List.mem_of_getElem? (i := 45) rfl))) (Or.inl (hw _ (List.mem_of_getElem? (i := 43) rfl))) (by decide) (t := .int) (t' := .int) (by decide) (by decide)))
  refine own_putF Y12 hx hZ hown (host := "") (Or.inl (hw _ (List.mem_of_getElem? (i := 44) rfl))) Via.refl f18 f16 (Or.inl (hw _ (List.mem_of_getElem? (i := 45) rfl))) (hw _ (List.mem_of_getElem? (i := 1) rfl)) ge_r (ty := .int) (by decide) rfl rfl rfl rfl (hb hby own_d11_15) (fun T19 h21 Y20 W22 F23 => ?_)
  show own_Ends _ _ _ _ (T19.setTop (mkF m 18 #[.val (.ref r0)] []))
  refine own_st (fun t_ => XS.aloadN (own_here Y20) hx rfl (hb hby own_d11_18) rfl rfl) ?_
  show own_Ends _ _ _ _ (T19.setTop (mkF m 19 #[.val (.ref r0)] [(.ref r0)]))
  refine own_st (fun t_ => XS.iconst (own_here Y20) hx rfl (hb hby own_d11_19) ) ?_
  show own_Ends _ _ _ _ (T19.setTop (mkF m 20 #[.val (.ref r0)] [(.int (0 : Int32)), (.ref r0)]))
  have f24 : Exa Z h21 r0 "kombos/io/FieldBytes" := f16.wr W22
  have f25 : Fld Z h6 r0 "kombos/io/FieldBytes" "count" "I" (.int cnt) := Fcount.other W7 (Or.inr (slot_ne (Or.inl (hw _ (List.mem_of_getElem? (i := 69) rfl))) (Or.inl (hw _ (List.mem_of_getElem? (i := 13) rfl))) (by decide) (t := .int) (t' := (.array .byte)) (by decide) (by decide)))
  have f26 : Fld Z h13 r0 "kombos/io/FieldBytes" "count" "I" (.int cnt) := f25.other W14 (Or.inr (slot_ne (Or.inl (hw _ (List.mem_of_getElem? (i := 69) rfl))) (Or.inl (hw _ (List.mem_of_getElem? (i := 43) rfl))) (by decide) (t := .int) (t' := .int) (by decide) (by decide)))
  have f27 : Fld Z h21 r0 "kombos/io/FieldBytes" "count" "I" (.int cnt) := f26.other W22 (Or.inr (slot_ne (Or.inl (hw _ (List.mem_of_getElem? (i := 69) rfl))) (Or.inl (hw _ (List.mem_of_getElem? (i := 45) rfl))) (by decide) (t := .int) (t' := .int) (by decide) (by decide)))
  refine own_putF Y20 hx hZ hown (host := "") (Or.inl (hw _ (List.mem_of_getElem? (i := 68) rfl))) Via.refl f27 f24 (Or.inl (hw _ (List.mem_of_getElem? (i := 69) rfl))) (hw _ (List.mem_of_getElem? (i := 1) rfl)) ge_r (ty := .int) (by decide) rfl rfl rfl rfl (hb hby own_d11_20) (fun T28 h30 Y29 W31 F32 => ?_)
  show own_Ends _ _ _ _ (T28.setTop (mkF m 23 #[.val (.ref r0)] []))
  refine own_st (fun t_ => XS.aloadN (own_here Y29) hx rfl (hb hby own_d11_23) rfl rfl) ?_
  show own_Ends _ _ _ _ (T28.setTop (mkF m 24 #[.val (.ref r0)] [(.ref r0)]))
  refine own_st (fun t_ => XS.iconst (own_here Y29) hx rfl (hb hby own_d11_24) ) ?_
  show own_Ends _ _ _ _ (T28.setTop (mkF m 25 #[.val (.ref r0)] [(.int (0 : Int32)), (.ref r0)]))
  have f33 : Exa Z h30 r0 "kombos/io/FieldBytes" := f24.wr W31
  have f34 : Fld Z h6 r0 "kombos/io/FieldBytes" "bits" "I" (.int bits) := Fbits.other W7 (Or.inr (slot_ne (Or.inl (hw _ (List.mem_of_getElem? (i := 47) rfl))) (Or.inl (hw _ (List.mem_of_getElem? (i := 13) rfl))) (by decide) (t := .int) (t' := (.array .byte)) (by decide) (by decide)))
  have f35 : Fld Z h13 r0 "kombos/io/FieldBytes" "bits" "I" (.int bits) := f34.other W14 (Or.inr (slot_ne (Or.inl (hw _ (List.mem_of_getElem? (i := 47) rfl))) (Or.inl (hw _ (List.mem_of_getElem? (i := 43) rfl))) (by decide) (t := .int) (t' := .int) (by decide) (by decide)))
  have f36 : Fld Z h21 r0 "kombos/io/FieldBytes" "bits" "I" (.int bits) := f35.other W22 (Or.inr (slot_ne (Or.inl (hw _ (List.mem_of_getElem? (i := 47) rfl))) (Or.inl (hw _ (List.mem_of_getElem? (i := 45) rfl))) (by decide) (t := .int) (t' := .int) (by decide) (by decide)))
  have f37 : Fld Z h30 r0 "kombos/io/FieldBytes" "bits" "I" (.int bits) := f36.other W31 (Or.inr (slot_ne (Or.inl (hw _ (List.mem_of_getElem? (i := 47) rfl))) (Or.inl (hw _ (List.mem_of_getElem? (i := 69) rfl))) (by decide) (t := .int) (t' := .int) (by decide) (by decide)))
  refine own_putF Y29 hx hZ hown (host := "") (Or.inl (hw _ (List.mem_of_getElem? (i := 46) rfl))) Via.refl f37 f33 (Or.inl (hw _ (List.mem_of_getElem? (i := 47) rfl))) (hw _ (List.mem_of_getElem? (i := 1) rfl)) ge_r (ty := .int) (by decide) rfl rfl rfl rfl (hb hby own_d11_25) (fun T38 h40 Y39 W41 F42 => ?_)
  show own_Ends _ _ _ _ (T38.setTop (mkF m 28 #[.val (.ref r0)] []))
  refine own_st (fun t_ => XS.aloadN (own_here Y39) hx rfl (hb hby own_d11_28) rfl rfl) ?_
  show own_Ends _ _ _ _ (T38.setTop (mkF m 29 #[.val (.ref r0)] [(.ref r0)]))
  refine own_st (fun t_ => XS.iconst (own_here Y39) hx rfl (hb hby own_d11_29) ) ?_
  show own_Ends _ _ _ _ (T38.setTop (mkF m 30 #[.val (.ref r0)] [(.int (0 : Int32)), (.ref r0)]))
  have f43 : Exa Z h40 r0 "kombos/io/FieldBytes" := f33.wr W41
  have f44 : Fld Z h6 r0 "kombos/io/FieldBytes" "tooLong" "Z" (.int tl) := FtooLong.other W7 (Or.inr (slot_ne (Or.inl (hw _ (List.mem_of_getElem? (i := 57) rfl))) (Or.inl (hw _ (List.mem_of_getElem? (i := 13) rfl))) (by decide) (t := .boolean) (t' := (.array .byte)) (by decide) (by decide)))
  have f45 : Fld Z h13 r0 "kombos/io/FieldBytes" "tooLong" "Z" (.int tl) := f44.other W14 (Or.inr (slot_ne (Or.inl (hw _ (List.mem_of_getElem? (i := 57) rfl))) (Or.inl (hw _ (List.mem_of_getElem? (i := 43) rfl))) (by decide) (t := .boolean) (t' := .int) (by decide) (by decide)))
  have f46 : Fld Z h21 r0 "kombos/io/FieldBytes" "tooLong" "Z" (.int tl) := f45.other W22 (Or.inr (slot_ne (Or.inl (hw _ (List.mem_of_getElem? (i := 57) rfl))) (Or.inl (hw _ (List.mem_of_getElem? (i := 45) rfl))) (by decide) (t := .boolean) (t' := .int) (by decide) (by decide)))
  have f47 : Fld Z h30 r0 "kombos/io/FieldBytes" "tooLong" "Z" (.int tl) := f46.other W31 (Or.inr (slot_ne (Or.inl (hw _ (List.mem_of_getElem? (i := 57) rfl))) (Or.inl (hw _ (List.mem_of_getElem? (i := 69) rfl))) (by decide) (t := .boolean) (t' := .int) (by decide) (by decide)))
  have f48 : Fld Z h40 r0 "kombos/io/FieldBytes" "tooLong" "Z" (.int tl) := f47.other W41 (Or.inr (slot_ne (Or.inl (hw _ (List.mem_of_getElem? (i := 57) rfl))) (Or.inl (hw _ (List.mem_of_getElem? (i := 47) rfl))) (by decide) (t := .boolean) (t' := .int) (by decide) (by decide)))
  refine own_putFN Y39 hx hZ hown (hw _ (List.mem_of_getElem? (i := 56) rfl)) Via.refl f48 f43 (Or.inl (hw _ (List.mem_of_getElem? (i := 57) rfl))) (hw _ (List.mem_of_getElem? (i := 1) rfl)) ge_r (ty := .boolean) (v' := (.int (0 : Int32))) (by decide) rfl (by decide) rfl rfl (hb hby own_d11_30) (fun T49 h51 Y50 W52 F53 => ?_)
  show own_Ends _ _ _ _ (T49.setTop (mkF m 33 #[.val (.ref r0)] []))
  refine own_st (fun t_ => XS.aloadN (own_here Y50) hx rfl (hb hby own_d11_33) rfl rfl) ?_
  show own_Ends _ _ _ _ (T49.setTop (mkF m 34 #[.val (.ref r0)] [(.ref r0)]))
  refine own_st (fun t_ => XS.iconst (own_here Y50) hx rfl (hb hby own_d11_34) ) ?_
  show own_Ends _ _ _ _ (T49.setTop (mkF m 35 #[.val (.ref r0)] [(.int (0 : Int32)), (.ref r0)]))
  have f54 : Exa Z h51 r0 "kombos/io/FieldBytes" := f43.wr W52
  have f55 : Fld Z h6 r0 "kombos/io/FieldBytes" "full" "Z" (.int fu) := Ffull.other W7 (Or.inr (slot_ne (Or.inl (hw _ (List.mem_of_getElem? (i := 59) rfl))) (Or.inl (hw _ (List.mem_of_getElem? (i := 13) rfl))) (by decide) (t := .boolean) (t' := (.array .byte)) (by decide) (by decide)))
  have f56 : Fld Z h13 r0 "kombos/io/FieldBytes" "full" "Z" (.int fu) := f55.other W14 (Or.inr (slot_ne (Or.inl (hw _ (List.mem_of_getElem? (i := 59) rfl))) (Or.inl (hw _ (List.mem_of_getElem? (i := 43) rfl))) (by decide) (t := .boolean) (t' := .int) (by decide) (by decide)))
  have f57 : Fld Z h21 r0 "kombos/io/FieldBytes" "full" "Z" (.int fu) := f56.other W22 (Or.inr (slot_ne (Or.inl (hw _ (List.mem_of_getElem? (i := 59) rfl))) (Or.inl (hw _ (List.mem_of_getElem? (i := 45) rfl))) (by decide) (t := .boolean) (t' := .int) (by decide) (by decide)))
  have f58 : Fld Z h30 r0 "kombos/io/FieldBytes" "full" "Z" (.int fu) := f57.other W31 (Or.inr (slot_ne (Or.inl (hw _ (List.mem_of_getElem? (i := 59) rfl))) (Or.inl (hw _ (List.mem_of_getElem? (i := 69) rfl))) (by decide) (t := .boolean) (t' := .int) (by decide) (by decide)))
  have f59 : Fld Z h40 r0 "kombos/io/FieldBytes" "full" "Z" (.int fu) := f58.other W41 (Or.inr (slot_ne (Or.inl (hw _ (List.mem_of_getElem? (i := 59) rfl))) (Or.inl (hw _ (List.mem_of_getElem? (i := 47) rfl))) (by decide) (t := .boolean) (t' := .int) (by decide) (by decide)))
  have f60 : Fld Z h51 r0 "kombos/io/FieldBytes" "full" "Z" (.int fu) := f59.other W52 (Or.inr (slot_ne (Or.inl (hw _ (List.mem_of_getElem? (i := 59) rfl))) (Or.inl (hw _ (List.mem_of_getElem? (i := 57) rfl))) (by decide) (t := .boolean) (t' := .boolean) (by decide) (by decide)))
  refine own_putFN Y50 hx hZ hown (hw _ (List.mem_of_getElem? (i := 58) rfl)) Via.refl f60 f54 (Or.inl (hw _ (List.mem_of_getElem? (i := 59) rfl))) (hw _ (List.mem_of_getElem? (i := 1) rfl)) ge_r (ty := .boolean) (v' := (.int (0 : Int32))) (by decide) rfl (by decide) rfl rfl (hb hby own_d11_35) (fun T61 h63 Y62 W64 F65 => ?_)
  show own_Ends _ _ _ _ (T61.setTop (mkF m 38 #[.val (.ref r0)] []))
  have K66 : Keep h0 h6 [r0] := (Keep.refl h0 [r0]).wr W7 (Or.inl (List.mem_of_getElem? (i := 0) rfl))
  have K67 : Keep h0 h13 [r0] := K66.wr W14 (Or.inl (List.mem_of_getElem? (i := 0) rfl))
  have K68 : Keep h0 h21 [r0] := K67.wr W22 (Or.inl (List.mem_of_getElem? (i := 0) rfl))
  have K69 : Keep h0 h30 [r0] := K68.wr W31 (Or.inl (List.mem_of_getElem? (i := 0) rfl))
  have K70 : Keep h0 h40 [r0] := K69.wr W41 (Or.inl (List.mem_of_getElem? (i := 0) rfl))
  have K71 : Keep h0 h51 [r0] := K70.wr W52 (Or.inl (List.mem_of_getElem? (i := 0) rfl))
  have K72 : Keep h0 h63 [r0] := K71.wr W64 (Or.inl (List.mem_of_getElem? (i := 0) rfl))
  have f73 : Exa Z h63 r0 "kombos/io/FieldBytes" := f54.wr W64
  have f74 : Fld Z h6 r0 "kombos/io/FieldBytes" "maxRecordLength" "I" (.int mx) := FmaxRecordLength.other W7 (Or.inr (slot_ne (Or.inr (hw _ (List.mem_of_getElem? (i := 22) rfl))) (Or.inl (hw _ (List.mem_of_getElem? (i := 13) rfl))) (by decide) (t := .int) (t' := (.array .byte)) (by decide) (by decide)))
  have f75 : Fld Z h13 r0 "kombos/io/FieldBytes" "maxRecordLength" "I" (.int mx) := f74.other W14 (Or.inr (slot_ne (Or.inr (hw _ (List.mem_of_getElem? (i := 22) rfl))) (Or.inl (hw _ (List.mem_of_getElem? (i := 43) rfl))) (by decide) (t := .int) (t' := .int) (by decide) (by decide)))
  have f76 : Fld Z h21 r0 "kombos/io/FieldBytes" "maxRecordLength" "I" (.int mx) := f75.other W22 (Or.inr (slot_ne (Or.inr (hw _ (List.mem_of_getElem? (i := 22) rfl))) (Or.inl (hw _ (List.mem_of_getElem? (i := 45) rfl))) (by decide) (t := .int) (t' := .int) (by decide) (by decide)))
  have f77 : Fld Z h30 r0 "kombos/io/FieldBytes" "maxRecordLength" "I" (.int mx) := f76.other W31 (Or.inr (slot_ne (Or.inr (hw _ (List.mem_of_getElem? (i := 22) rfl))) (Or.inl (hw _ (List.mem_of_getElem? (i := 69) rfl))) (by decide) (t := .int) (t' := .int) (by decide) (by decide)))
  have f78 : Fld Z h40 r0 "kombos/io/FieldBytes" "maxRecordLength" "I" (.int mx) := f77.other W41 (Or.inr (slot_ne (Or.inr (hw _ (List.mem_of_getElem? (i := 22) rfl))) (Or.inl (hw _ (List.mem_of_getElem? (i := 47) rfl))) (by decide) (t := .int) (t' := .int) (by decide) (by decide)))
  have f79 : Fld Z h51 r0 "kombos/io/FieldBytes" "maxRecordLength" "I" (.int mx) := f78.other W52 (Or.inr (slot_ne (Or.inr (hw _ (List.mem_of_getElem? (i := 22) rfl))) (Or.inl (hw _ (List.mem_of_getElem? (i := 57) rfl))) (by decide) (t := .int) (t' := .boolean) (by decide) (by decide)))
  have f80 : Fld Z h63 r0 "kombos/io/FieldBytes" "maxRecordLength" "I" (.int mx) := f79.other W64 (Or.inr (slot_ne (Or.inr (hw _ (List.mem_of_getElem? (i := 22) rfl))) (Or.inl (hw _ (List.mem_of_getElem? (i := 59) rfl))) (by decide) (t := .int) (t' := .boolean) (by decide) (by decide)))
  have f81 : Fld Z h21 r0 "kombos/io/FieldBytes" "length" "I" (.int (0 : Int32)) := F15.other W22 (Or.inr (slot_ne (Or.inl (hw _ (List.mem_of_getElem? (i := 43) rfl))) (Or.inl (hw _ (List.mem_of_getElem? (i := 45) rfl))) (by decide) (t := .int) (t' := .int) (by decide) (by decide)))
  have f82 : Fld Z h30 r0 "kombos/io/FieldBytes" "length" "I" (.int (0 : Int32)) := f81.other W31 (Or.inr (slot_ne (Or.inl (hw _ (List.mem_of_getElem? (i := 43) rfl))) (Or.inl (hw _ (List.mem_of_getElem? (i := 69) rfl))) (by decide) (t := .int) (t' := .int) (by decide) (by decide)))
  have f83 : Fld Z h40 r0 "kombos/io/FieldBytes" "length" "I" (.int (0 : Int32)) := f82.other W41 (Or.inr (slot_ne (Or.inl (hw _ (List.mem_of_getElem? (i := 43) rfl))) (Or.inl (hw _ (List.mem_of_getElem? (i := 47) rfl))) (by decide) (t := .int) (t' := .int) (by decide) (by decide)))
  have f84 : Fld Z h51 r0 "kombos/io/FieldBytes" "length" "I" (.int (0 : Int32)) := f83.other W52 (Or.inr (slot_ne (Or.inl (hw _ (List.mem_of_getElem? (i := 43) rfl))) (Or.inl (hw _ (List.mem_of_getElem? (i := 57) rfl))) (by decide) (t := .int) (t' := .boolean) (by decide) (by decide)))
  have f85 : Fld Z h63 r0 "kombos/io/FieldBytes" "length" "I" (.int (0 : Int32)) := f84.other W64 (Or.inr (slot_ne (Or.inl (hw _ (List.mem_of_getElem? (i := 43) rfl))) (Or.inl (hw _ (List.mem_of_getElem? (i := 59) rfl))) (by decide) (t := .int) (t' := .boolean) (by decide) (by decide)))
  have f86 : Fld Z h30 r0 "kombos/io/FieldBytes" "start" "I" (.int (0 : Int32)) := F23.other W31 (Or.inr (slot_ne (Or.inl (hw _ (List.mem_of_getElem? (i := 45) rfl))) (Or.inl (hw _ (List.mem_of_getElem? (i := 69) rfl))) (by decide) (t := .int) (t' := .int) (by decide) (by decide)))
  have f87 : Fld Z h40 r0 "kombos/io/FieldBytes" "start" "I" (.int (0 : Int32)) := f86.other W41 (Or.inr (slot_ne (Or.inl (hw _ (List.mem_of_getElem? (i := 45) rfl))) (Or.inl (hw _ (List.mem_of_getElem? (i := 47) rfl))) (by decide) (t := .int) (t' := .int) (by decide) (by decide)))
  have f88 : Fld Z h51 r0 "kombos/io/FieldBytes" "start" "I" (.int (0 : Int32)) := f87.other W52 (Or.inr (slot_ne (Or.inl (hw _ (List.mem_of_getElem? (i := 45) rfl))) (Or.inl (hw _ (List.mem_of_getElem? (i := 57) rfl))) (by decide) (t := .int) (t' := .boolean) (by decide) (by decide)))
  have f89 : Fld Z h63 r0 "kombos/io/FieldBytes" "start" "I" (.int (0 : Int32)) := f88.other W64 (Or.inr (slot_ne (Or.inl (hw _ (List.mem_of_getElem? (i := 45) rfl))) (Or.inl (hw _ (List.mem_of_getElem? (i := 59) rfl))) (by decide) (t := .int) (t' := .boolean) (by decide) (by decide)))
  have f90 : Fld Z h40 r0 "kombos/io/FieldBytes" "count" "I" (.int (0 : Int32)) := F32.other W41 (Or.inr (slot_ne (Or.inl (hw _ (List.mem_of_getElem? (i := 69) rfl))) (Or.inl (hw _ (List.mem_of_getElem? (i := 47) rfl))) (by decide) (t := .int) (t' := .int) (by decide) (by decide)))
  have f91 : Fld Z h51 r0 "kombos/io/FieldBytes" "count" "I" (.int (0 : Int32)) := f90.other W52 (Or.inr (slot_ne (Or.inl (hw _ (List.mem_of_getElem? (i := 69) rfl))) (Or.inl (hw _ (List.mem_of_getElem? (i := 57) rfl))) (by decide) (t := .int) (t' := .boolean) (by decide) (by decide)))
  have f92 : Fld Z h63 r0 "kombos/io/FieldBytes" "count" "I" (.int (0 : Int32)) := f91.other W64 (Or.inr (slot_ne (Or.inl (hw _ (List.mem_of_getElem? (i := 69) rfl))) (Or.inl (hw _ (List.mem_of_getElem? (i := 59) rfl))) (by decide) (t := .int) (t' := .boolean) (by decide) (by decide)))
  have f93 : Fld Z h51 r0 "kombos/io/FieldBytes" "bits" "I" (.int (0 : Int32)) := F42.other W52 (Or.inr (slot_ne (Or.inl (hw _ (List.mem_of_getElem? (i := 47) rfl))) (Or.inl (hw _ (List.mem_of_getElem? (i := 57) rfl))) (by decide) (t := .int) (t' := .boolean) (by decide) (by decide)))
  have f94 : Fld Z h63 r0 "kombos/io/FieldBytes" "bits" "I" (.int (0 : Int32)) := f93.other W64 (Or.inr (slot_ne (Or.inl (hw _ (List.mem_of_getElem? (i := 47) rfl))) (Or.inl (hw _ (List.mem_of_getElem? (i := 59) rfl))) (by decide) (t := .int) (t' := .boolean) (by decide) (by decide)))
  have f95 : Fld Z h63 r0 "kombos/io/FieldBytes" "tooLong" "Z" (.int (0 : Int32)) := F53.other W64 (Or.inr (slot_ne (Or.inl (hw _ (List.mem_of_getElem? (i := 57) rfl))) (Or.inl (hw _ (List.mem_of_getElem? (i := 59) rfl))) (by decide) (t := .boolean) (t' := .boolean) (by decide) (by decide)))
  have f96 : Fld Z h6 r0 "kombos/io/FieldBytes" "held" "[B" (.ref bh) := Fheld.other W7 (Or.inr (slot_ne (Or.inl (hw _ (List.mem_of_getElem? (i := 11) rfl))) (Or.inl (hw _ (List.mem_of_getElem? (i := 13) rfl))) (by decide) (t := (.array .byte)) (t' := (.array .byte)) (by decide) (by decide)))
  have f97 : Fld Z h13 r0 "kombos/io/FieldBytes" "held" "[B" (.ref bh) := f96.other W14 (Or.inr (slot_ne (Or.inl (hw _ (List.mem_of_getElem? (i := 11) rfl))) (Or.inl (hw _ (List.mem_of_getElem? (i := 43) rfl))) (by decide) (t := (.array .byte)) (t' := .int) (by decide) (by decide)))
  have f98 : Fld Z h21 r0 "kombos/io/FieldBytes" "held" "[B" (.ref bh) := f97.other W22 (Or.inr (slot_ne (Or.inl (hw _ (List.mem_of_getElem? (i := 11) rfl))) (Or.inl (hw _ (List.mem_of_getElem? (i := 45) rfl))) (by decide) (t := (.array .byte)) (t' := .int) (by decide) (by decide)))
  have f99 : Fld Z h30 r0 "kombos/io/FieldBytes" "held" "[B" (.ref bh) := f98.other W31 (Or.inr (slot_ne (Or.inl (hw _ (List.mem_of_getElem? (i := 11) rfl))) (Or.inl (hw _ (List.mem_of_getElem? (i := 69) rfl))) (by decide) (t := (.array .byte)) (t' := .int) (by decide) (by decide)))
  have f100 : Fld Z h40 r0 "kombos/io/FieldBytes" "held" "[B" (.ref bh) := f99.other W41 (Or.inr (slot_ne (Or.inl (hw _ (List.mem_of_getElem? (i := 11) rfl))) (Or.inl (hw _ (List.mem_of_getElem? (i := 47) rfl))) (by decide) (t := (.array .byte)) (t' := .int) (by decide) (by decide)))
  have f101 : Fld Z h51 r0 "kombos/io/FieldBytes" "held" "[B" (.ref bh) := f100.other W52 (Or.inr (slot_ne (Or.inl (hw _ (List.mem_of_getElem? (i := 11) rfl))) (Or.inl (hw _ (List.mem_of_getElem? (i := 57) rfl))) (by decide) (t := (.array .byte)) (t' := .boolean) (by decide) (by decide)))
  have f102 : Fld Z h63 r0 "kombos/io/FieldBytes" "held" "[B" (.ref bh) := f101.other W64 (Or.inr (slot_ne (Or.inl (hw _ (List.mem_of_getElem? (i := 11) rfl))) (Or.inl (hw _ (List.mem_of_getElem? (i := 59) rfl))) (by decide) (t := (.array .byte)) (t' := .boolean) (by decide) (by decide)))
  have f103 : Fld Z h13 r0 "kombos/io/FieldBytes" "bytes" "[B" (.ref bh) := F8.other W14 (Or.inr (slot_ne (Or.inl (hw _ (List.mem_of_getElem? (i := 13) rfl))) (Or.inl (hw _ (List.mem_of_getElem? (i := 43) rfl))) (by decide) (t := (.array .byte)) (t' := .int) (by decide) (by decide)))
  have f104 : Fld Z h21 r0 "kombos/io/FieldBytes" "bytes" "[B" (.ref bh) := f103.other W22 (Or.inr (slot_ne (Or.inl (hw _ (List.mem_of_getElem? (i := 13) rfl))) (Or.inl (hw _ (List.mem_of_getElem? (i := 45) rfl))) (by decide) (t := (.array .byte)) (t' := .int) (by decide) (by decide)))
  have f105 : Fld Z h30 r0 "kombos/io/FieldBytes" "bytes" "[B" (.ref bh) := f104.other W31 (Or.inr (slot_ne (Or.inl (hw _ (List.mem_of_getElem? (i := 13) rfl))) (Or.inl (hw _ (List.mem_of_getElem? (i := 69) rfl))) (by decide) (t := (.array .byte)) (t' := .int) (by decide) (by decide)))
  have f106 : Fld Z h40 r0 "kombos/io/FieldBytes" "bytes" "[B" (.ref bh) := f105.other W41 (Or.inr (slot_ne (Or.inl (hw _ (List.mem_of_getElem? (i := 13) rfl))) (Or.inl (hw _ (List.mem_of_getElem? (i := 47) rfl))) (by decide) (t := (.array .byte)) (t' := .int) (by decide) (by decide)))
  have f107 : Fld Z h51 r0 "kombos/io/FieldBytes" "bytes" "[B" (.ref bh) := f106.other W52 (Or.inr (slot_ne (Or.inl (hw _ (List.mem_of_getElem? (i := 13) rfl))) (Or.inl (hw _ (List.mem_of_getElem? (i := 57) rfl))) (by decide) (t := (.array .byte)) (t' := .boolean) (by decide) (by decide)))
  have f108 : Fld Z h63 r0 "kombos/io/FieldBytes" "bytes" "[B" (.ref bh) := f107.other W64 (Or.inr (slot_ne (Or.inl (hw _ (List.mem_of_getElem? (i := 13) rfl))) (Or.inl (hw _ (List.mem_of_getElem? (i := 59) rfl))) (by decide) (t := (.array .byte)) (t' := .boolean) (by decide) (by decide)))
  have f109 : Fld Z h6 r0 "kombos/io/FieldBytes" "starts" "[I" (.ref bs) := Fstarts.other W7 (Or.inr (slot_ne (Or.inl (hw _ (List.mem_of_getElem? (i := 16) rfl))) (Or.inl (hw _ (List.mem_of_getElem? (i := 13) rfl))) (by decide) (t := (.array .int)) (t' := (.array .byte)) (by decide) (by decide)))
  have f110 : Fld Z h13 r0 "kombos/io/FieldBytes" "starts" "[I" (.ref bs) := f109.other W14 (Or.inr (slot_ne (Or.inl (hw _ (List.mem_of_getElem? (i := 16) rfl))) (Or.inl (hw _ (List.mem_of_getElem? (i := 43) rfl))) (by decide) (t := (.array .int)) (t' := .int) (by decide) (by decide)))
  have f111 : Fld Z h21 r0 "kombos/io/FieldBytes" "starts" "[I" (.ref bs) := f110.other W22 (Or.inr (slot_ne (Or.inl (hw _ (List.mem_of_getElem? (i := 16) rfl))) (Or.inl (hw _ (List.mem_of_getElem? (i := 45) rfl))) (by decide) (t := (.array .int)) (t' := .int) (by decide) (by decide)))
  have f112 : Fld Z h30 r0 "kombos/io/FieldBytes" "starts" "[I" (.ref bs) := f111.other W31 (Or.inr (slot_ne (Or.inl (hw _ (List.mem_of_getElem? (i := 16) rfl))) (Or.inl (hw _ (List.mem_of_getElem? (i := 69) rfl))) (by decide) (t := (.array .int)) (t' := .int) (by decide) (by decide)))
  have f113 : Fld Z h40 r0 "kombos/io/FieldBytes" "starts" "[I" (.ref bs) := f112.other W41 (Or.inr (slot_ne (Or.inl (hw _ (List.mem_of_getElem? (i := 16) rfl))) (Or.inl (hw _ (List.mem_of_getElem? (i := 47) rfl))) (by decide) (t := (.array .int)) (t' := .int) (by decide) (by decide)))
  have f114 : Fld Z h51 r0 "kombos/io/FieldBytes" "starts" "[I" (.ref bs) := f113.other W52 (Or.inr (slot_ne (Or.inl (hw _ (List.mem_of_getElem? (i := 16) rfl))) (Or.inl (hw _ (List.mem_of_getElem? (i := 57) rfl))) (by decide) (t := (.array .int)) (t' := .boolean) (by decide) (by decide)))
  have f115 : Fld Z h63 r0 "kombos/io/FieldBytes" "starts" "[I" (.ref bs) := f114.other W64 (Or.inr (slot_ne (Or.inl (hw _ (List.mem_of_getElem? (i := 16) rfl))) (Or.inl (hw _ (List.mem_of_getElem? (i := 59) rfl))) (by decide) (t := (.array .int)) (t' := .boolean) (by decide) (by decide)))
  have f116 : Fld Z h6 r0 "kombos/io/FieldBytes" "ends" "[I" (.ref be) := Fends.other W7 (Or.inr (slot_ne (Or.inl (hw _ (List.mem_of_getElem? (i := 18) rfl))) (Or.inl (hw _ (List.mem_of_getElem? (i := 13) rfl))) (by decide) (t := (.array .int)) (t' := (.array .byte)) (by decide) (by decide)))
  have f117 : Fld Z h13 r0 "kombos/io/FieldBytes" "ends" "[I" (.ref be) := f116.other W14 (Or.inr (slot_ne (Or.inl (hw _ (List.mem_of_getElem? (i := 18) rfl))) (Or.inl (hw _ (List.mem_of_getElem? (i := 43) rfl))) (by decide) (t := (.array .int)) (t' := .int) (by decide) (by decide)))
  have f118 : Fld Z h21 r0 "kombos/io/FieldBytes" "ends" "[I" (.ref be) := f117.other W22 (Or.inr (slot_ne (Or.inl (hw _ (List.mem_of_getElem? (i := 18) rfl))) (Or.inl (hw _ (List.mem_of_getElem? (i := 45) rfl))) (by decide) (t := (.array .int)) (t' := .int) (by decide) (by decide)))
  have f119 : Fld Z h30 r0 "kombos/io/FieldBytes" "ends" "[I" (.ref be) := f118.other W31 (Or.inr (slot_ne (Or.inl (hw _ (List.mem_of_getElem? (i := 18) rfl))) (Or.inl (hw _ (List.mem_of_getElem? (i := 69) rfl))) (by decide) (t := (.array .int)) (t' := .int) (by decide) (by decide)))
  have f120 : Fld Z h40 r0 "kombos/io/FieldBytes" "ends" "[I" (.ref be) := f119.other W41 (Or.inr (slot_ne (Or.inl (hw _ (List.mem_of_getElem? (i := 18) rfl))) (Or.inl (hw _ (List.mem_of_getElem? (i := 47) rfl))) (by decide) (t := (.array .int)) (t' := .int) (by decide) (by decide)))
  have f121 : Fld Z h51 r0 "kombos/io/FieldBytes" "ends" "[I" (.ref be) := f120.other W52 (Or.inr (slot_ne (Or.inl (hw _ (List.mem_of_getElem? (i := 18) rfl))) (Or.inl (hw _ (List.mem_of_getElem? (i := 57) rfl))) (by decide) (t := (.array .int)) (t' := .boolean) (by decide) (by decide)))
  have f122 : Fld Z h63 r0 "kombos/io/FieldBytes" "ends" "[I" (.ref be) := f121.other W64 (Or.inr (slot_ne (Or.inl (hw _ (List.mem_of_getElem? (i := 18) rfl))) (Or.inl (hw _ (List.mem_of_getElem? (i := 59) rfl))) (by decide) (t := (.array .int)) (t' := .boolean) (by decide) (by decide)))
  have f123 : Fld Z h6 r0 "kombos/io/FieldBytes" "plain" "[I" (.ref bp) := Fplain.other W7 (Or.inr (slot_ne (Or.inl (hw _ (List.mem_of_getElem? (i := 20) rfl))) (Or.inl (hw _ (List.mem_of_getElem? (i := 13) rfl))) (by decide) (t := (.array .int)) (t' := (.array .byte)) (by decide) (by decide)))
  have f124 : Fld Z h13 r0 "kombos/io/FieldBytes" "plain" "[I" (.ref bp) := f123.other W14 (Or.inr (slot_ne (Or.inl (hw _ (List.mem_of_getElem? (i := 20) rfl))) (Or.inl (hw _ (List.mem_of_getElem? (i := 43) rfl))) (by decide) (t := (.array .int)) (t' := .int) (by decide) (by decide)))
  have f125 : Fld Z h21 r0 "kombos/io/FieldBytes" "plain" "[I" (.ref bp) := f124.other W22 (Or.inr (slot_ne (Or.inl (hw _ (List.mem_of_getElem? (i := 20) rfl))) (Or.inl (hw _ (List.mem_of_getElem? (i := 45) rfl))) (by decide) (t := (.array .int)) (t' := .int) (by decide) (by decide)))
  have f126 : Fld Z h30 r0 "kombos/io/FieldBytes" "plain" "[I" (.ref bp) := f125.other W31 (Or.inr (slot_ne (Or.inl (hw _ (List.mem_of_getElem? (i := 20) rfl))) (Or.inl (hw _ (List.mem_of_getElem? (i := 69) rfl))) (by decide) (t := (.array .int)) (t' := .int) (by decide) (by decide)))
  have f127 : Fld Z h40 r0 "kombos/io/FieldBytes" "plain" "[I" (.ref bp) := f126.other W41 (Or.inr (slot_ne (Or.inl (hw _ (List.mem_of_getElem? (i := 20) rfl))) (Or.inl (hw _ (List.mem_of_getElem? (i := 47) rfl))) (by decide) (t := (.array .int)) (t' := .int) (by decide) (by decide)))
  have f128 : Fld Z h51 r0 "kombos/io/FieldBytes" "plain" "[I" (.ref bp) := f127.other W52 (Or.inr (slot_ne (Or.inl (hw _ (List.mem_of_getElem? (i := 20) rfl))) (Or.inl (hw _ (List.mem_of_getElem? (i := 57) rfl))) (by decide) (t := (.array .int)) (t' := .boolean) (by decide) (by decide)))
  have f129 : Fld Z h63 r0 "kombos/io/FieldBytes" "plain" "[I" (.ref bp) := f128.other W64 (Or.inr (slot_ne (Or.inl (hw _ (List.mem_of_getElem? (i := 20) rfl))) (Or.inl (hw _ (List.mem_of_getElem? (i := 59) rfl))) (by decide) (t := (.array .int)) (t' := .boolean) (by decide) (by decide)))
  have f130 : own_A Z h6 bh .byte hv := Abh.other W7 ne_bh_r0
  have f131 : own_A Z h13 bh .byte hv := f130.other W14 ne_bh_r0
  have f132 : own_A Z h21 bh .byte hv := f131.other W22 ne_bh_r0
  have f133 : own_A Z h30 bh .byte hv := f132.other W31 ne_bh_r0
  have f134 : own_A Z h40 bh .byte hv := f133.other W41 ne_bh_r0
  have f135 : own_A Z h51 bh .byte hv := f134.other W52 ne_bh_r0
  have f136 : own_A Z h63 bh .byte hv := f135.other W64 ne_bh_r0
  have f137 : own_A Z h6 bs .int sv := Abs.other W7 ne_bs_r0
  have f138 : own_A Z h13 bs .int sv := f137.other W14 ne_bs_r0
  have f139 : own_A Z h21 bs .int sv := f138.other W22 ne_bs_r0
  have f140 : own_A Z h30 bs .int sv := f139.other W31 ne_bs_r0
  have f141 : own_A Z h40 bs .int sv := f140.other W41 ne_bs_r0
  have f142 : own_A Z h51 bs .int sv := f141.other W52 ne_bs_r0
  have f143 : own_A Z h63 bs .int sv := f142.other W64 ne_bs_r0
  have f144 : own_A Z h6 be .int ev := Abe.other W7 ne_be_r0
  have f145 : own_A Z h13 be .int ev := f144.other W14 ne_be_r0
  have f146 : own_A Z h21 be .int ev := f145.other W22 ne_be_r0
  have f147 : own_A Z h30 be .int ev := f146.other W31 ne_be_r0
  have f148 : own_A Z h40 be .int ev := f147.other W41 ne_be_r0
  have f149 : own_A Z h51 be .int ev := f148.other W52 ne_be_r0
  have f150 : own_A Z h63 be .int ev := f149.other W64 ne_be_r0
  have f151 : own_A Z h6 bp .int pv := Abp.other W7 ne_bp_r0
  have f152 : own_A Z h13 bp .int pv := f151.other W14 ne_bp_r0
  have f153 : own_A Z h21 bp .int pv := f152.other W22 ne_bp_r0
  have f154 : own_A Z h30 bp .int pv := f153.other W31 ne_bp_r0
  have f155 : own_A Z h40 bp .int pv := f154.other W41 ne_bp_r0
  have f156 : own_A Z h51 bp .int pv := f155.other W52 ne_bp_r0
  have f157 : own_A Z h63 bp .int pv := f156.other W64 ne_bp_r0
  refine own_retV Y62 hx hlk hret (hb hby own_d11_38) (by decide) (by decide) ?_
  exact ⟨rfl, K72, f73, f80, f85, f89, f92, f94, f95, F65, f102, f108, f115, f122, f129, f136, f143, f150, f157⟩
theorem own_bb (y : Int32) : y.toInt8.toInt32.toInt8.toInt32 = y.toInt8.toInt32 := by simp
theorem own_set0 {vs : List Value} {v : Value} {n : Nat} (h : vs.length = n + 1) : (vs.set 0 v)[0]? = some v := by
  cases vs with
  | nil => simp at h
  | cons a b => rfl
theorem own_strW {a0 : Array Value} {Z : State} (hw : ∀ d ∈ tables_1, d.before a0 Z = true) : ∀ a ∈ Bundle.stringAtoms, a.before a0 Z = true := by
  intro a ha
  simp only [Bundle.stringAtoms, List.mem_cons, List.not_mem_nil, or_false] at ha
  rcases ha with rfl | rfl | rfl | rfl | rfl | rfl | rfl
  · exact (hw _ (List.mem_of_getElem? (i := 107) rfl))
  · exact (hw _ (List.mem_of_getElem? (i := 108) rfl))
  · exact (hw _ (List.mem_of_getElem? (i := 9) rfl))
  · exact (hw _ (List.mem_of_getElem? (i := 109) rfl))
  · exact (hw _ (List.mem_of_getElem? (i := 110) rfl))
  · exact (hw _ (List.mem_of_getElem? (i := 111) rfl))
  · exact (hw _ (List.mem_of_getElem? (i := 112) rfl))
theorem own_d1_0 : decode prog_57_method_2_code 0 = .ok (.aload_n 0, 1) := by decide +kernel
theorem own_d1_1 : decode prog_57_method_2_code 1 = .ok (.invokespecial 8, 3) := by decide +kernel
theorem own_d1_4 : decode prog_57_method_2_code 4 = .ok (.aload_n 0, 1) := by decide +kernel
theorem own_d1_5 : decode prog_57_method_2_code 5 = .ok (.bipush 64, 2) := by decide +kernel
theorem own_d1_7 : decode prog_57_method_2_code 7 = .ok (.newarray .byte, 2) := by decide +kernel
theorem own_d1_9 : decode prog_57_method_2_code 9 = .ok (.putfield 13, 3) := by decide +kernel
theorem own_d1_12 : decode prog_57_method_2_code 12 = .ok (.aload_n 0, 1) := by decide +kernel
theorem own_d1_13 : decode prog_57_method_2_code 13 = .ok (.aload_n 0, 1) := by decide +kernel
theorem own_d1_14 : decode prog_57_method_2_code 14 = .ok (.getfield 13, 3) := by decide +kernel
theorem own_d1_17 : decode prog_57_method_2_code 17 = .ok (.putfield 17, 3) := by decide +kernel
theorem own_d1_20 : decode prog_57_method_2_code 20 = .ok (.aload_n 0, 1) := by decide +kernel
theorem own_d1_21 : decode prog_57_method_2_code 21 = .ok (.bipush 8, 2) := by decide +kernel
theorem own_d1_23 : decode prog_57_method_2_code 23 = .ok (.newarray .int, 2) := by decide +kernel
theorem own_d1_25 : decode prog_57_method_2_code 25 = .ok (.putfield 20, 3) := by decide +kernel
theorem own_d1_28 : decode prog_57_method_2_code 28 = .ok (.aload_n 0, 1) := by decide +kernel
theorem own_d1_29 : decode prog_57_method_2_code 29 = .ok (.bipush 8, 2) := by decide +kernel
theorem own_d1_31 : decode prog_57_method_2_code 31 = .ok (.newarray .int, 2) := by decide +kernel
theorem own_d1_33 : decode prog_57_method_2_code 33 = .ok (.putfield 24, 3) := by decide +kernel
theorem own_d1_36 : decode prog_57_method_2_code 36 = .ok (.aload_n 0, 1) := by decide +kernel
theorem own_d1_37 : decode prog_57_method_2_code 37 = .ok (.bipush 8, 2) := by decide +kernel
theorem own_d1_39 : decode prog_57_method_2_code 39 = .ok (.newarray .int, 2) := by decide +kernel
theorem own_d1_41 : decode prog_57_method_2_code 41 = .ok (.putfield 27, 3) := by decide +kernel
theorem own_d1_44 : decode prog_57_method_2_code 44 = .ok (.aload_n 0, 1) := by decide +kernel
theorem own_d1_45 : decode prog_57_method_2_code 45 = .ok (.iload_n 1, 1) := by decide +kernel
theorem own_d1_46 : decode prog_57_method_2_code 46 = .ok (.putfield 30, 3) := by decide +kernel
theorem own_d1_49 : decode prog_57_method_2_code 49 = .ok (.return_, 1) := by decide +kernel
theorem own_ef_own_rm1 (m : MethodId) (r0 : Addr) (x1 : Int32) : entryFrame m #[(.ref r0), (.int x1)] 2 = mkF m 0 #[.val (.ref r0), .val (.int x1)] [] := by first | (simp [entryFrame, mkF, argsToLocals, Value.category]; done) | rfl
def own_Q_own_rm1 (Z : State) (r0 : Addr) (x1 : Int32) (h0 : Heap) (n0 : Nat) (v : Option Value) (h : Heap) : Prop := ∃ (bh bs be bp : Addr) (hv sv ev pv : List Value), v = none ∧ Keep h0 h [r0] ∧ Exa Z h r0 "kombos/io/FieldBytes" ∧ Fld Z h r0 "kombos/io/FieldBytes" "maxRecordLength" "I" (.int x1) ∧ Fld Z h r0 "kombos/io/FieldBytes" "length" "I" (.int 0) ∧ Fld Z h r0 "kombos/io/FieldBytes" "start" "I" (.int 0) ∧ Fld Z h r0 "kombos/io/FieldBytes" "count" "I" (.int 0) ∧ Fld Z h r0 "kombos/io/FieldBytes" "bits" "I" (.int 0) ∧ Fld Z h r0 "kombos/io/FieldBytes" "tooLong" "Z" (.int 0) ∧ Fld Z h r0 "kombos/io/FieldBytes" "full" "Z" (.int 0) ∧ Fld Z h r0 "kombos/io/FieldBytes" "held" "[B" (.ref bh) ∧ Fld Z h r0 "kombos/io/FieldBytes" "bytes" "[B" (.ref bh) ∧ Fld Z h r0 "kombos/io/FieldBytes" "starts" "[I" (.ref bs) ∧ Fld Z h r0 "kombos/io/FieldBytes" "ends" "[I" (.ref be) ∧ Fld Z h r0 "kombos/io/FieldBytes" "plain" "[I" (.ref bp) ∧ own_A Z h bh .byte hv ∧ own_A Z h bs .int sv ∧ own_A Z h be .int ev ∧ own_A Z h bp .int pv ∧ n0 ≤ bh ∧ n0 ≤ bs ∧ n0 ≤ be ∧ n0 ≤ bp ∧ bh ≠ r0 ∧ bs ≠ r0 ∧ be ≠ r0 ∧ bp ≠ r0 ∧ bh ≠ bs ∧ bh ≠ be ∧ bh ≠ bp ∧ bs ≠ be ∧ bs ≠ bp ∧ be ≠ bp ∧ hv.length = 64 ∧ sv.length = 8 ∧ ev.length = 8 ∧ pv.length = 8
set_option maxRecDepth 65536 in
set_option maxHeartbeats 40000000 in
theorem own_rm1 (l : Launch) (Z : State) (a0 : Array Value) (hw : ∀ d ∈ tables_1, d.before a0 Z = true) (ws : List Jvm.Cond) (r0 : Addr) (x1 : Int32)  (h0 : Heap) (n0 : Nat) (Z0 : n0 ≤ h0.size) (E : Exa Z h0 r0 "kombos/io/FieldBytes") (FmaxRecordLength : Fld Z h0 r0 "kombos/io/FieldBytes" "maxRecordLength" "I" (.int 0)) (Flength : Fld Z h0 r0 "kombos/io/FieldBytes" "length" "I" (.int 0)) (Fstart : Fld Z h0 r0 "kombos/io/FieldBytes" "start" "I" (.int 0)) (Fcount : Fld Z h0 r0 "kombos/io/FieldBytes" "count" "I" (.int 0)) (Fbits : Fld Z h0 r0 "kombos/io/FieldBytes" "bits" "I" (.int 0)) (FtooLong : Fld Z h0 r0 "kombos/io/FieldBytes" "tooLong" "Z" (.int 0)) (Ffull : Fld Z h0 r0 "kombos/io/FieldBytes" "full" "Z" (.int 0)) (Fheld : Fld Z h0 r0 "kombos/io/FieldBytes" "held" "[B" .null) (Fbytes : Fld Z h0 r0 "kombos/io/FieldBytes" "bytes" "[B" .null) (Fstarts : Fld Z h0 r0 "kombos/io/FieldBytes" "starts" "[I" .null) (Fends : Fld Z h0 r0 "kombos/io/FieldBytes" "ends" "[I" .null) (Fplain : Fld Z h0 r0 "kombos/io/FieldBytes" "plain" "[I" .null) (ge_r : n0 ≤ r0) :
    own_Con l Z (⟨"kombos/io/FieldBytes", "<init>", "(I)V"⟩ : MethodName) prog_57_method_2_code 2 none ws ({ frames := 1, cells := 4, slots := 88, locals := 12 } : Room) #[(.ref r0), (.int x1)] h0 n0 (own_Q_own_rm1 Z r0 x1 h0 n0) := by
  refine own_body (plainFor_of_name own_pn0) ?_
  intro p e s m below meth c T0 hx hZ hby hml hown hnm hret hlk Y0
  replace hown : s.vm.findClass "kombos/io/FieldBytes" = some m.cls := hown
  replace hnm : meth.name = "<init>" := hnm
  rw [own_ef_own_rm1 m r0 x1]
  show own_Ends _ _ _ _ (T0.setTop (mkF m 0 #[.val (.ref r0), .val (.int x1)] []))
  refine own_st (fun t_ => XS.aloadN (own_here Y0) hx rfl (hb hby own_d1_0) rfl rfl) ?_
  show own_Ends _ _ _ _ (T0.setTop (mkF m 1 #[.val (.ref r0), .val (.int x1)] [(.ref r0)]))
  refine own_initO Y0 hx hZ hown (hw _ (List.mem_of_getElem? (i := 6) rfl)) (hw _ (List.mem_of_getElem? (i := 7) rfl)) (hw _ (List.mem_of_getElem? (i := 8) rfl)) rfl (by rw [hml]; rfl) rfl (hb hby own_d1_1) (by decide) (W := 0) (by show 2 * 0 + _ ≤ _; exact Nat.le_of_eq rfl) (by decide) (fun T158 Y159 => ?_)
  show own_Ends _ _ _ _ (T158.setTop (mkF m 4 #[.val (.ref r0), .val (.int x1)] []))
  refine own_st (fun t_ => XS.aloadN (own_here Y159) hx rfl (hb hby own_d1_4) rfl rfl) ?_
  show own_Ends _ _ _ _ (T158.setTop (mkF m 5 #[.val (.ref r0), .val (.int x1)] [(.ref r0)]))
  refine own_st (fun t_ => XS.bipush (own_here Y159) hx rfl (hb hby own_d1_5) ) ?_
  show own_Ends _ _ _ _ (T158.setTop (mkF m 7 #[.val (.ref r0), .val (.int x1)] [(.int (64 : Int32)), (.ref r0)]))
  refine own_newP Y159 hx hZ (hw _ (List.mem_of_getElem? (i := 9) rfl)) rfl (hb hby own_d1_7) rfl (by decide) (nz := 64) (cap := 64) (by decide) (by decide) (by decide) (by decide) (by decide) (ty := .byte) rfl (fun T160 h162 b165 eb166 Y161 E163 A164 => ?_)
  have ne167 : r0 ≠ b165 := Nat.ne_of_lt (by rw [eb166]; exact E.lt)
  have g168 : n0 ≤ b165 := by rw [eb166]; exact Z0
  show own_Ends _ _ _ _ (T160.setTop (mkF m 9 #[.val (.ref r0), .val (.int x1)] [(.ref b165), (.ref r0)]))
  have f169 : Exa Z h162 r0 "kombos/io/FieldBytes" := E.ext E163
  have f170 : Fld Z h162 r0 "kombos/io/FieldBytes" "held" "[B" .null := Fheld.ext E163
  refine own_putF Y161 hx hZ hown (host := "") (Or.inl (hw _ (List.mem_of_getElem? (i := 10) rfl))) Via.refl f170 f169 (Or.inl (hw _ (List.mem_of_getElem? (i := 11) rfl))) (hw _ (List.mem_of_getElem? (i := 1) rfl)) ge_r (ty := (.array .byte)) (by decide) rfl rfl rfl rfl (hb hby own_d1_9) (fun T171 h173 Y172 W174 F175 => ?_)
  show own_Ends _ _ _ _ (T171.setTop (mkF m 12 #[.val (.ref r0), .val (.int x1)] []))
  refine own_st (fun t_ => XS.aloadN (own_here Y172) hx rfl (hb hby own_d1_12) rfl rfl) ?_
  show own_Ends _ _ _ _ (T171.setTop (mkF m 13 #[.val (.ref r0), .val (.int x1)] [(.ref r0)]))
  refine own_st (fun t_ => XS.aloadN (own_here Y172) hx rfl (hb hby own_d1_13) rfl rfl) ?_
  show own_Ends _ _ _ _ (T171.setTop (mkF m 14 #[.val (.ref r0), .val (.int x1)] [(.ref r0), (.ref r0)]))
  refine own_getF Y172 hx hZ hown (host := "") (Or.inl (hw _ (List.mem_of_getElem? (i := 10) rfl))) Via.refl F175 rfl rfl (hb hby own_d1_14) (fun T176 Y177 => ?_)
  show own_Ends _ _ _ _ (T176.setTop (mkF m 17 #[.val (.ref r0), .val (.int x1)] [(.ref b165), (.ref r0)]))
  have f178 : Exa Z h173 r0 "kombos/io/FieldBytes" := f169.wr W174
  have f179 : Fld Z h162 r0 "kombos/io/FieldBytes" "bytes" "[B" .null := Fbytes.ext E163
  have f180 : Fld Z h173 r0 "kombos/io/FieldBytes" "bytes" "[B" .null := f179.other W174 (Or.inr (slot_ne (Or.inl (hw _ (List.mem_of_getElem? (i := 13) rfl))) (Or.inl (hw _ (List.mem_of_getElem? (i := 11) rfl))) (by decide) (t := (.array .byte)) (t' := (.array .byte)) (by decide) (by decide)))
  refine own_putF Y177 hx hZ hown (host := "") (Or.inl (hw _ (List.mem_of_getElem? (i := 12) rfl))) Via.refl f180 f178 (Or.inl (hw _ (List.mem_of_getElem? (i := 13) rfl))) (hw _ (List.mem_of_getElem? (i := 1) rfl)) ge_r (ty := (.array .byte)) (by decide) rfl rfl rfl rfl (hb hby own_d1_17) (fun T181 h183 Y182 W184 F185 => ?_)
  show own_Ends _ _ _ _ (T181.setTop (mkF m 20 #[.val (.ref r0), .val (.int x1)] []))
  refine own_st (fun t_ => XS.aloadN (own_here Y182) hx rfl (hb hby own_d1_20) rfl rfl) ?_
  show own_Ends _ _ _ _ (T181.setTop (mkF m 21 #[.val (.ref r0), .val (.int x1)] [(.ref r0)]))
  refine own_st (fun t_ => XS.bipush (own_here Y182) hx rfl (hb hby own_d1_21) ) ?_
  show own_Ends _ _ _ _ (T181.setTop (mkF m 23 #[.val (.ref r0), .val (.int x1)] [(.int (8 : Int32)), (.ref r0)]))
  refine own_newP Y182 hx hZ (hw _ (List.mem_of_getElem? (i := 14) rfl)) rfl (hb hby own_d1_23) rfl (by decide) (nz := 8) (cap := 8) (by decide) (by decide) (by decide) (by decide) (by decide) (ty := .int) rfl (fun T186 h188 b191 eb192 Y187 E189 A190 => ?_)
  have f193 : Exa Z h183 r0 "kombos/io/FieldBytes" := f178.wr W184
  have ne194 : r0 ≠ b191 := Nat.ne_of_lt (by rw [eb192]; exact f193.lt)
  have f195 : own_A Z h173 b165 .byte (List.replicate 64 (.int (0 : Int32))) := A164.other W174 (Ne.symm ne167)
  have f196 : own_A Z h183 b165 .byte (List.replicate 64 (.int (0 : Int32))) := f195.other W184 (Ne.symm ne167)
  have ne197 : b165 ≠ b191 := Nat.ne_of_lt (by rw [eb192]; exact f196.lt)
  have z199 : n0 ≤ h162.size := Nat.le_trans Z0 E163.1
  have z200 : n0 ≤ h173.size := Nat.le_trans z199 (Nat.le_of_eq W174.size.symm)
  have z201 : n0 ≤ h183.size := Nat.le_trans z200 (Nat.le_of_eq W184.size.symm)
  have g198 : n0 ≤ b191 := by rw [eb192]; exact z201
  replace A190 : own_A Z h188 b191 .int [(.int (0 : Int32)), (.int (0 : Int32)), (.int (0 : Int32)), (.int (0 : Int32)), (.int (0 : Int32)), (.int (0 : Int32)), (.int (0 : Int32)), (.int (0 : Int32))] := A190
  show own_Ends _ _ _ _ (T186.setTop (mkF m 25 #[.val (.ref r0), .val (.int x1)] [(.ref b191), (.ref r0)]))
  have f202 : Exa Z h188 r0 "kombos/io/FieldBytes" := f193.ext E189
  have f203 : Fld Z h162 r0 "kombos/io/FieldBytes" "starts" "[I" .null := Fstarts.ext E163
  have f204 : Fld Z h173 r0 "kombos/io/FieldBytes" "starts" "[I" .null := f203.other W174 (Or.inr (slot_ne (Or.inl (hw _ (List.mem_of_getElem? (i := 16) rfl))) (Or.inl (hw _ (List.mem_of_getElem? (i := 11) rfl))) (by decide) (t := (.array .int)) (t' := (.array .byte)) (by decide) (by decide)))
  have f205 : Fld Z h183 r0 "kombos/io/FieldBytes" "starts" "[I" .null := f204.other W184 (Or.inr (slot_ne (Or.inl (hw _ (List.mem_of_getElem? (i := 16) rfl))) (Or.inl (hw _ (List.mem_of_getElem? (i := 13) rfl))) (by decide) (t := (.array .int)) (t' := (.array .byte)) (by decide) (by decide)))
  have f206 : Fld Z h188 r0 "kombos/io/FieldBytes" "starts" "[I" .null := f205.ext E189
  refine own_putF Y187 hx hZ hown (host := "") (Or.inl (hw _ (List.mem_of_getElem? (i := 15) rfl))) Via.refl f206 f202 (Or.inl (hw _ (List.mem_of_getElem? (i := 16) rfl))) (hw _ (List.mem_of_getElem? (i := 1) rfl)) ge_r (ty := (.array .int)) (by decide) rfl rfl rfl rfl (hb hby own_d1_25) (fun T207 h209 Y208 W210 F211 => ?_)
  show own_Ends _ _ _ _ (T207.setTop (mkF m 28 #[.val (.ref r0), .val (.int x1)] []))
  refine own_st (fun t_ => XS.aloadN (own_here Y208) hx rfl (hb hby own_d1_28) rfl rfl) ?_
  show own_Ends _ _ _ _ (T207.setTop (mkF m 29 #[.val (.ref r0), .val (.int x1)] [(.ref r0)]))
  refine own_st (fun t_ => XS.bipush (own_here Y208) hx rfl (hb hby own_d1_29) ) ?_
  show own_Ends _ _ _ _ (T207.setTop (mkF m 31 #[.val (.ref r0), .val (.int x1)] [(.int (8 : Int32)), (.ref r0)]))
  refine own_newP Y208 hx hZ (hw _ (List.mem_of_getElem? (i := 14) rfl)) rfl (hb hby own_d1_31) rfl (by decide) (nz := 8) (cap := 8) (by decide) (by decide) (by decide) (by decide) (by decide) (ty := .int) rfl (fun T212 h214 b217 eb218 Y213 E215 A216 => ?_)
  have f219 : Exa Z h209 r0 "kombos/io/FieldBytes" := f202.wr W210
  have ne220 : r0 ≠ b217 := Nat.ne_of_lt (by rw [eb218]; exact f219.lt)
  have f221 : own_A Z h188 b165 .byte (List.replicate 64 (.int (0 : Int32))) := f196.ext E189
  have f222 : own_A Z h209 b165 .byte (List.replicate 64 (.int (0 : Int32))) := f221.other W210 (Ne.symm ne167)
  have ne223 : b165 ≠ b217 := Nat.ne_of_lt (by rw [eb218]; exact f222.lt)
  have f224 : own_A Z h209 b191 .int [(.int (0 : Int32)), (.int (0 : Int32)), (.int (0 : Int32)), (.int (0 : Int32)), (.int (0 : Int32)), (.int (0 : Int32)), (.int (0 : Int32)), (.int (0 : Int32))] := A190.other W210 (Ne.symm ne194)
  have ne225 : b191 ≠ b217 := Nat.ne_of_lt (by rw [eb218]; exact f224.lt)
  have z227 : n0 ≤ h188.size := Nat.le_trans z201 E189.1
  have z228 : n0 ≤ h209.size := Nat.le_trans z227 (Nat.le_of_eq W210.size.symm)
  have g226 : n0 ≤ b217 := by rw [eb218]; exact z228
  replace A216 : own_A Z h214 b217 .int [(.int (0 : Int32)), (.int (0 : Int32)), (.int (0 : Int32)), (.int (0 : Int32)), (.int (0 : Int32)), (.int (0 : Int32)), (.int (0 : Int32)), (.int (0 : Int32))] := A216
  show own_Ends _ _ _ _ (T212.setTop (mkF m 33 #[.val (.ref r0), .val (.int x1)] [(.ref b217), (.ref r0)]))
  have f229 : Exa Z h214 r0 "kombos/io/FieldBytes" := f219.ext E215
  have f230 : Fld Z h162 r0 "kombos/io/FieldBytes" "ends" "[I" .null := Fends.ext E163
  have f231 : Fld Z h173 r0 "kombos/io/FieldBytes" "ends" "[I" .null := f230.other W174 (Or.inr (slot_ne (Or.inl (hw _ (List.mem_of_getElem? (i := 18) rfl))) (Or.inl (hw _ (List.mem_of_getElem? (i := 11) rfl))) (by decide) (t := (.array .int)) (t' := (.array .byte)) (by decide) (by decide)))
  have f232 : Fld Z h183 r0 "kombos/io/FieldBytes" "ends" "[I" .null := f231.other W184 (Or.inr (slot_ne (Or.inl (hw _ (List.mem_of_getElem? (i := 18) rfl))) (Or.inl (hw _ (List.mem_of_getElem? (i := 13) rfl))) (by decide) (t := (.array .int)) (t' := (.array .byte)) (by decide) (by decide)))
  have f233 : Fld Z h188 r0 "kombos/io/FieldBytes" "ends" "[I" .null := f232.ext E189
  have f234 : Fld Z h209 r0 "kombos/io/FieldBytes" "ends" "[I" .null := f233.other W210 (Or.inr (slot_ne (Or.inl (hw _ (List.mem_of_getElem? (i := 18) rfl))) (Or.inl (hw _ (List.mem_of_getElem? (i := 16) rfl))) (by decide) (t := (.array .int)) (t' := (.array .int)) (by decide) (by decide)))
  have f235 : Fld Z h214 r0 "kombos/io/FieldBytes" "ends" "[I" .null := f234.ext E215
  refine own_putF Y213 hx hZ hown (host := "") (Or.inl (hw _ (List.mem_of_getElem? (i := 17) rfl))) Via.refl f235 f229 (Or.inl (hw _ (List.mem_of_getElem? (i := 18) rfl))) (hw _ (List.mem_of_getElem? (i := 1) rfl)) ge_r (ty := (.array .int)) (by decide) rfl rfl rfl rfl (hb hby own_d1_33) (fun T236 h238 Y237 W239 F240 => ?_)
  show own_Ends _ _ _ _ (T236.setTop (mkF m 36 #[.val (.ref r0), .val (.int x1)] []))
  refine own_st (fun t_ => XS.aloadN (own_here Y237) hx rfl (hb hby own_d1_36) rfl rfl) ?_
  show own_Ends _ _ _ _ (T236.setTop (mkF m 37 #[.val (.ref r0), .val (.int x1)] [(.ref r0)]))
  refine own_st (fun t_ => XS.bipush (own_here Y237) hx rfl (hb hby own_d1_37) ) ?_
  show own_Ends _ _ _ _ (T236.setTop (mkF m 39 #[.val (.ref r0), .val (.int x1)] [(.int (8 : Int32)), (.ref r0)]))
  refine own_newP Y237 hx hZ (hw _ (List.mem_of_getElem? (i := 14) rfl)) rfl (hb hby own_d1_39) rfl (by decide) (nz := 8) (cap := 8) (by decide) (by decide) (by decide) (by decide) (by decide) (ty := .int) rfl (fun T241 h243 b246 eb247 Y242 E244 A245 => ?_)
  have f248 : Exa Z h238 r0 "kombos/io/FieldBytes" := f229.wr W239
  have ne249 : r0 ≠ b246 := Nat.ne_of_lt (by rw [eb247]; exact f248.lt)
  have f250 : own_A Z h214 b165 .byte (List.replicate 64 (.int (0 : Int32))) := f222.ext E215
  have f251 : own_A Z h238 b165 .byte (List.replicate 64 (.int (0 : Int32))) := f250.other W239 (Ne.symm ne167)
  have ne252 : b165 ≠ b246 := Nat.ne_of_lt (by rw [eb247]; exact f251.lt)
  have f253 : own_A Z h214 b191 .int [(.int (0 : Int32)), (.int (0 : Int32)), (.int (0 : Int32)), (.int (0 : Int32)), (.int (0 : Int32)), (.int (0 : Int32)), (.int (0 : Int32)), (.int (0 : Int32))] := f224.ext E215
  have f254 : own_A Z h238 b191 .int [(.int (0 : Int32)), (.int (0 : Int32)), (.int (0 : Int32)), (.int (0 : Int32)), (.int (0 : Int32)), (.int (0 : Int32)), (.int (0 : Int32)), (.int (0 : Int32))] := f253.other W239 (Ne.symm ne194)
  have ne255 : b191 ≠ b246 := Nat.ne_of_lt (by rw [eb247]; exact f254.lt)
  have f256 : own_A Z h238 b217 .int [(.int (0 : Int32)), (.int (0 : Int32)), (.int (0 : Int32)), (.int (0 : Int32)), (.int (0 : Int32)), (.int (0 : Int32)), (.int (0 : Int32)), (.int (0 : Int32))] := A216.other W239 (Ne.symm ne220)
  have ne257 : b217 ≠ b246 := Nat.ne_of_lt (by rw [eb247]; exact f256.lt)
  have z259 : n0 ≤ h214.size := Nat.le_trans z228 E215.1
  have z260 : n0 ≤ h238.size := Nat.le_trans z259 (Nat.le_of_eq W239.size.symm)
  have g258 : n0 ≤ b246 := by rw [eb247]; exact z260
  replace A245 : own_A Z h243 b246 .int [(.int (0 : Int32)), (.int (0 : Int32)), (.int (0 : Int32)), (.int (0 : Int32)), (.int (0 : Int32)), (.int (0 : Int32)), (.int (0 : Int32)), (.int (0 : Int32))] := A245
  show own_Ends _ _ _ _ (T241.setTop (mkF m 41 #[.val (.ref r0), .val (.int x1)] [(.ref b246), (.ref r0)]))
  have f261 : Exa Z h243 r0 "kombos/io/FieldBytes" := f248.ext E244
  have f262 : Fld Z h162 r0 "kombos/io/FieldBytes" "plain" "[I" .null := Fplain.ext E163
  have f263 : Fld Z h173 r0 "kombos/io/FieldBytes" "plain" "[I" .null := f262.other W174 (Or.inr (slot_ne (Or.inl (hw _ (List.mem_of_getElem? (i := 20) rfl))) (Or.inl (hw _ (List.mem_of_getElem? (i := 11) rfl))) (by decide) (t := (.array .int)) (t' := (.array .byte)) (by decide) (by decide)))
  have f264 : Fld Z h183 r0 "kombos/io/FieldBytes" "plain" "[I" .null := f263.other W184 (Or.inr (slot_ne (Or.inl (hw _ (List.mem_of_getElem? (i := 20) rfl))) (Or.inl (hw _ (List.mem_of_getElem? (i := 13) rfl))) (by decide) (t := (.array .int)) (t' := (.array .byte)) (by decide) (by decide)))
  have f265 : Fld Z h188 r0 "kombos/io/FieldBytes" "plain" "[I" .null := f264.ext E189
  have f266 : Fld Z h209 r0 "kombos/io/FieldBytes" "plain" "[I" .null := f265.other W210 (Or.inr (slot_ne (Or.inl (hw _ (List.mem_of_getElem? (i := 20) rfl))) (Or.inl (hw _ (List.mem_of_getElem? (i := 16) rfl))) (by decide) (t := (.array .int)) (t' := (.array .int)) (by decide) (by decide)))
  have f267 : Fld Z h214 r0 "kombos/io/FieldBytes" "plain" "[I" .null := f266.ext E215
  have f268 : Fld Z h238 r0 "kombos/io/FieldBytes" "plain" "[I" .null := f267.other W239 (Or.inr (slot_ne (Or.inl (hw _ (List.mem_of_getElem? (i := 20) rfl))) (Or.inl (hw _ (List.mem_of_getElem? (i := 18) rfl))) (by decide) (t := (.array .int)) (t' := (.array .int)) (by decide) (by decide)))
  have f269 : Fld Z h243 r0 "kombos/io/FieldBytes" "plain" "[I" .null := f268.ext E244
  refine own_putF Y242 hx hZ hown (host := "") (Or.inl (hw _ (List.mem_of_getElem? (i := 19) rfl))) Via.refl f269 f261 (Or.inl (hw _ (List.mem_of_getElem? (i := 20) rfl))) (hw _ (List.mem_of_getElem? (i := 1) rfl)) ge_r (ty := (.array .int)) (by decide) rfl rfl rfl rfl (hb hby own_d1_41) (fun T270 h272 Y271 W273 F274 => ?_)
  show own_Ends _ _ _ _ (T270.setTop (mkF m 44 #[.val (.ref r0), .val (.int x1)] []))
  refine own_st (fun t_ => XS.aloadN (own_here Y271) hx rfl (hb hby own_d1_44) rfl rfl) ?_
  show own_Ends _ _ _ _ (T270.setTop (mkF m 45 #[.val (.ref r0), .val (.int x1)] [(.ref r0)]))
  refine own_st (fun t_ => XS.iloadN (own_here Y271) hx rfl (hb hby own_d1_45) rfl) ?_
  show own_Ends _ _ _ _ (T270.setTop (mkF m 46 #[.val (.ref r0), .val (.int x1)] [(.int x1), (.ref r0)]))
  have f275 : Exa Z h272 r0 "kombos/io/FieldBytes" := f261.wr W273
  have f276 : Fld Z h162 r0 "kombos/io/FieldBytes" "maxRecordLength" "I" (.int (0 : Int32)) := FmaxRecordLength.ext E163
  have f277 : Fld Z h173 r0 "kombos/io/FieldBytes" "maxRecordLength" "I" (.int (0 : Int32)) := f276.other W174 (Or.inr (slot_ne (Or.inr (hw _ (List.mem_of_getElem? (i := 22) rfl))) (Or.inl (hw _ (List.mem_of_getElem? (i := 11) rfl))) (by decide) (t := .int) (t' := (.array .byte)) (by decide) (by decide)))
  have f278 : Fld Z h183 r0 "kombos/io/FieldBytes" "maxRecordLength" "I" (.int (0 : Int32)) := f277.other W184 (Or.inr (slot_ne (Or.inr (hw _ (List.mem_of_getElem? (i := 22) rfl))) (Or.inl (hw _ (List.mem_of_getElem? (i := 13) rfl))) (by decide) (t := .int) (t' := (.array .byte)) (by decide) (by decide)))
  have f279 : Fld Z h188 r0 "kombos/io/FieldBytes" "maxRecordLength" "I" (.int (0 : Int32)) := f278.ext E189
  have f280 : Fld Z h209 r0 "kombos/io/FieldBytes" "maxRecordLength" "I" (.int (0 : Int32)) := f279.other W210 (Or.inr (slot_ne (Or.inr (hw _ (List.mem_of_getElem? (i := 22) rfl))) (Or.inl (hw _ (List.mem_of_getElem? (i := 16) rfl))) (by decide) (t := .int) (t' := (.array .int)) (by decide) (by decide)))
  have f281 : Fld Z h214 r0 "kombos/io/FieldBytes" "maxRecordLength" "I" (.int (0 : Int32)) := f280.ext E215
  have f282 : Fld Z h238 r0 "kombos/io/FieldBytes" "maxRecordLength" "I" (.int (0 : Int32)) := f281.other W239 (Or.inr (slot_ne (Or.inr (hw _ (List.mem_of_getElem? (i := 22) rfl))) (Or.inl (hw _ (List.mem_of_getElem? (i := 18) rfl))) (by decide) (t := .int) (t' := (.array .int)) (by decide) (by decide)))
  have f283 : Fld Z h243 r0 "kombos/io/FieldBytes" "maxRecordLength" "I" (.int (0 : Int32)) := f282.ext E244
  have f284 : Fld Z h272 r0 "kombos/io/FieldBytes" "maxRecordLength" "I" (.int (0 : Int32)) := f283.other W273 (Or.inr (slot_ne (Or.inr (hw _ (List.mem_of_getElem? (i := 22) rfl))) (Or.inl (hw _ (List.mem_of_getElem? (i := 20) rfl))) (by decide) (t := .int) (t' := (.array .int)) (by decide) (by decide)))
  refine own_putF Y271 hx hZ hown (host := "") (Or.inl (hw _ (List.mem_of_getElem? (i := 21) rfl))) Via.refl f284 f275 (Or.inr ⟨(hw _ (List.mem_of_getElem? (i := 22) rfl)), rfl, hnm⟩) (hw _ (List.mem_of_getElem? (i := 1) rfl)) ge_r (ty := .int) (by decide) rfl rfl rfl rfl (hb hby own_d1_46) (fun T285 h287 Y286 W288 F289 => ?_)
  show own_Ends _ _ _ _ (T285.setTop (mkF m 49 #[.val (.ref r0), .val (.int x1)] []))
  have K290 : Keep h0 h162 [r0] := (Keep.refl h0 [r0]).ext E163
  have K291 : Keep h0 h173 [r0] := K290.wr W174 (Or.inl (List.mem_of_getElem? (i := 0) rfl))
  have K292 : Keep h0 h183 [r0] := K291.wr W184 (Or.inl (List.mem_of_getElem? (i := 0) rfl))
  have K293 : Keep h0 h188 [r0] := K292.ext E189
  have K294 : Keep h0 h209 [r0] := K293.wr W210 (Or.inl (List.mem_of_getElem? (i := 0) rfl))
  have K295 : Keep h0 h214 [r0] := K294.ext E215
  have K296 : Keep h0 h238 [r0] := K295.wr W239 (Or.inl (List.mem_of_getElem? (i := 0) rfl))
  have K297 : Keep h0 h243 [r0] := K296.ext E244
  have K298 : Keep h0 h272 [r0] := K297.wr W273 (Or.inl (List.mem_of_getElem? (i := 0) rfl))
  have K299 : Keep h0 h287 [r0] := K298.wr W288 (Or.inl (List.mem_of_getElem? (i := 0) rfl))
  have f300 : Exa Z h287 r0 "kombos/io/FieldBytes" := f275.wr W288
  have f301 : Fld Z h162 r0 "kombos/io/FieldBytes" "length" "I" (.int (0 : Int32)) := Flength.ext E163
  have f302 : Fld Z h173 r0 "kombos/io/FieldBytes" "length" "I" (.int (0 : Int32)) := f301.other W174 (Or.inr (slot_ne (Or.inl (hw _ (List.mem_of_getElem? (i := 43) rfl))) (Or.inl (hw _ (List.mem_of_getElem? (i := 11) rfl))) (by decide) (t := .int) (t' := (.array .byte)) (by decide) (by decide)))
  have f303 : Fld Z h183 r0 "kombos/io/FieldBytes" "length" "I" (.int (0 : Int32)) := f302.other W184 (Or.inr (slot_ne (Or.inl (hw _ (List.mem_of_getElem? (i := 43) rfl))) (Or.inl (hw _ (List.mem_of_getElem? (i := 13) rfl))) (by decide) (t := .int) (t' := (.array .byte)) (by decide) (by decide)))
  have f304 : Fld Z h188 r0 "kombos/io/FieldBytes" "length" "I" (.int (0 : Int32)) := f303.ext E189
  have f305 : Fld Z h209 r0 "kombos/io/FieldBytes" "length" "I" (.int (0 : Int32)) := f304.other W210 (Or.inr (slot_ne (Or.inl (hw _ (List.mem_of_getElem? (i := 43) rfl))) (Or.inl (hw _ (List.mem_of_getElem? (i := 16) rfl))) (by decide) (t := .int) (t' := (.array .int)) (by decide) (by decide)))
  have f306 : Fld Z h214 r0 "kombos/io/FieldBytes" "length" "I" (.int (0 : Int32)) := f305.ext E215
  have f307 : Fld Z h238 r0 "kombos/io/FieldBytes" "length" "I" (.int (0 : Int32)) := f306.other W239 (Or.inr (slot_ne (Or.inl (hw _ (List.mem_of_getElem? (i := 43) rfl))) (Or.inl (hw _ (List.mem_of_getElem? (i := 18) rfl))) (by decide) (t := .int) (t' := (.array .int)) (by decide) (by decide)))
  have f308 : Fld Z h243 r0 "kombos/io/FieldBytes" "length" "I" (.int (0 : Int32)) := f307.ext E244
  have f309 : Fld Z h272 r0 "kombos/io/FieldBytes" "length" "I" (.int (0 : Int32)) := f308.other W273 (Or.inr (slot_ne (Or.inl (hw _ (List.mem_of_getElem? (i := 43) rfl))) (Or.inl (hw _ (List.mem_of_getElem? (i := 20) rfl))) (by decide) (t := .int) (t' := (.array .int)) (by decide) (by decide)))
  have f310 : Fld Z h287 r0 "kombos/io/FieldBytes" "length" "I" (.int (0 : Int32)) := f309.other W288 (Or.inr (slot_ne (Or.inl (hw _ (List.mem_of_getElem? (i := 43) rfl))) (Or.inr (hw _ (List.mem_of_getElem? (i := 22) rfl))) (by decide) (t := .int) (t' := .int) (by decide) (by decide)))
  have f311 : Fld Z h162 r0 "kombos/io/FieldBytes" "start" "I" (.int (0 : Int32)) := Fstart.ext E163
  have f312 : Fld Z h173 r0 "kombos/io/FieldBytes" "start" "I" (.int (0 : Int32)) := f311.other W174 (Or.inr (slot_ne (Or.inl (hw _ (List.mem_of_getElem? (i := 45) rfl))) (Or.inl (hw _ (List.mem_of_getElem? (i := 11) rfl))) (by decide) (t := .int) (t' := (.array .byte)) (by decide) (by decide)))
  have f313 : Fld Z h183 r0 "kombos/io/FieldBytes" "start" "I" (.int (0 : Int32)) := f312.other W184 (Or.inr (slot_ne (Or.inl (hw _ (List.mem_of_getElem? (i := 45) rfl))) (Or.inl (hw _ (List.mem_of_getElem? (i := 13) rfl))) (by decide) (t := .int) (t' := (.array .byte)) (by decide) (by decide)))
  have f314 : Fld Z h188 r0 "kombos/io/FieldBytes" "start" "I" (.int (0 : Int32)) := f313.ext E189
  have f315 : Fld Z h209 r0 "kombos/io/FieldBytes" "start" "I" (.int (0 : Int32)) := f314.other W210 (Or.inr (slot_ne (Or.inl (hw _ (List.mem_of_getElem? (i := 45) rfl))) (Or.inl (hw _ (List.mem_of_getElem? (i := 16) rfl))) (by decide) (t := .int) (t' := (.array .int)) (by decide) (by decide)))
  have f316 : Fld Z h214 r0 "kombos/io/FieldBytes" "start" "I" (.int (0 : Int32)) := f315.ext E215
  have f317 : Fld Z h238 r0 "kombos/io/FieldBytes" "start" "I" (.int (0 : Int32)) := f316.other W239 (Or.inr (slot_ne (Or.inl (hw _ (List.mem_of_getElem? (i := 45) rfl))) (Or.inl (hw _ (List.mem_of_getElem? (i := 18) rfl))) (by decide) (t := .int) (t' := (.array .int)) (by decide) (by decide)))
  have f318 : Fld Z h243 r0 "kombos/io/FieldBytes" "start" "I" (.int (0 : Int32)) := f317.ext E244
  have f319 : Fld Z h272 r0 "kombos/io/FieldBytes" "start" "I" (.int (0 : Int32)) := f318.other W273 (Or.inr (slot_ne (Or.inl (hw _ (List.mem_of_getElem? (i := 45) rfl))) (Or.inl (hw _ (List.mem_of_getElem? (i := 20) rfl))) (by decide) (t := .int) (t' := (.array .int)) (by decide) (by decide)))
  have f320 : Fld Z h287 r0 "kombos/io/FieldBytes" "start" "I" (.int (0 : Int32)) := f319.other W288 (Or.inr (slot_ne (Or.inl (hw _ (List.mem_of_getElem? (i := 45) rfl))) (Or.inr (hw _ (List.mem_of_getElem? (i := 22) rfl))) (by decide) (t := .int) (t' := .int) (by decide) (by decide)))
  have f321 : Fld Z h162 r0 "kombos/io/FieldBytes" "count" "I" (.int (0 : Int32)) := Fcount.ext E163
  have f322 : Fld Z h173 r0 "kombos/io/FieldBytes" "count" "I" (.int (0 : Int32)) := f321.other W174 (Or.inr (slot_ne (Or.inl (hw _ (List.mem_of_getElem? (i := 69) rfl))) (Or.inl (hw _ (List.mem_of_getElem? (i := 11) rfl))) (by decide) (t := .int) (t' := (.array .byte)) (by decide) (by decide)))
  have f323 : Fld Z h183 r0 "kombos/io/FieldBytes" "count" "I" (.int (0 : Int32)) := f322.other W184 (Or.inr (slot_ne (Or.inl (hw _ (List.mem_of_getElem? (i := 69) rfl))) (Or.inl (hw _ (List.mem_of_getElem? (i := 13) rfl))) (by decide) (t := .int) (t' := (.array .byte)) (by decide) (by decide)))
  have f324 : Fld Z h188 r0 "kombos/io/FieldBytes" "count" "I" (.int (0 : Int32)) := f323.ext E189
  have f325 : Fld Z h209 r0 "kombos/io/FieldBytes" "count" "I" (.int (0 : Int32)) := f324.other W210 (Or.inr (slot_ne (Or.inl (hw _ (List.mem_of_getElem? (i := 69) rfl))) (Or.inl (hw _ (List.mem_of_getElem? (i := 16) rfl))) (by decide) (t := .int) (t' := (.array .int)) (by decide) (by decide)))
  have f326 : Fld Z h214 r0 "kombos/io/FieldBytes" "count" "I" (.int (0 : Int32)) := f325.ext E215
  have f327 : Fld Z h238 r0 "kombos/io/FieldBytes" "count" "I" (.int (0 : Int32)) := f326.other W239 (Or.inr (slot_ne (Or.inl (hw _ (List.mem_of_getElem? (i := 69) rfl))) (Or.inl (hw _ (List.mem_of_getElem? (i := 18) rfl))) (by decide) (t := .int) (t' := (.array .int)) (by decide) (by decide)))
  have f328 : Fld Z h243 r0 "kombos/io/FieldBytes" "count" "I" (.int (0 : Int32)) := f327.ext E244
  have f329 : Fld Z h272 r0 "kombos/io/FieldBytes" "count" "I" (.int (0 : Int32)) := f328.other W273 (Or.inr (slot_ne (Or.inl (hw _ (List.mem_of_getElem? (i := 69) rfl))) (Or.inl (hw _ (List.mem_of_getElem? (i := 20) rfl))) (by decide) (t := .int) (t' := (.array .int)) (by decide) (by decide)))
  have f330 : Fld Z h287 r0 "kombos/io/FieldBytes" "count" "I" (.int (0 : Int32)) := f329.other W288 (Or.inr (slot_ne (Or.inl (hw _ (List.mem_of_getElem? (i := 69) rfl))) (Or.inr (hw _ (List.mem_of_getElem? (i := 22) rfl))) (by decide) (t := .int) (t' := .int) (by decide) (by decide)))
  have f331 : Fld Z h162 r0 "kombos/io/FieldBytes" "bits" "I" (.int (0 : Int32)) := Fbits.ext E163
  have f332 : Fld Z h173 r0 "kombos/io/FieldBytes" "bits" "I" (.int (0 : Int32)) := f331.other W174 (Or.inr (slot_ne (Or.inl (hw _ (List.mem_of_getElem? (i := 47) rfl))) (Or.inl (hw _ (List.mem_of_getElem? (i := 11) rfl))) (by decide) (t := .int) (t' := (.array .byte)) (by decide) (by decide)))
  have f333 : Fld Z h183 r0 "kombos/io/FieldBytes" "bits" "I" (.int (0 : Int32)) := f332.other W184 (Or.inr (slot_ne (Or.inl (hw _ (List.mem_of_getElem? (i := 47) rfl))) (Or.inl (hw _ (List.mem_of_getElem? (i := 13) rfl))) (by decide) (t := .int) (t' := (.array .byte)) (by decide) (by decide)))
  have f334 : Fld Z h188 r0 "kombos/io/FieldBytes" "bits" "I" (.int (0 : Int32)) := f333.ext E189
  have f335 : Fld Z h209 r0 "kombos/io/FieldBytes" "bits" "I" (.int (0 : Int32)) := f334.other W210 (Or.inr (slot_ne (Or.inl (hw _ (List.mem_of_getElem? (i := 47) rfl))) (Or.inl (hw _ (List.mem_of_getElem? (i := 16) rfl))) (by decide) (t := .int) (t' := (.array .int)) (by decide) (by decide)))
  have f336 : Fld Z h214 r0 "kombos/io/FieldBytes" "bits" "I" (.int (0 : Int32)) := f335.ext E215
  have f337 : Fld Z h238 r0 "kombos/io/FieldBytes" "bits" "I" (.int (0 : Int32)) := f336.other W239 (Or.inr (slot_ne (Or.inl (hw _ (List.mem_of_getElem? (i := 47) rfl))) (Or.inl (hw _ (List.mem_of_getElem? (i := 18) rfl))) (by decide) (t := .int) (t' := (.array .int)) (by decide) (by decide)))
  have f338 : Fld Z h243 r0 "kombos/io/FieldBytes" "bits" "I" (.int (0 : Int32)) := f337.ext E244
  have f339 : Fld Z h272 r0 "kombos/io/FieldBytes" "bits" "I" (.int (0 : Int32)) := f338.other W273 (Or.inr (slot_ne (Or.inl (hw _ (List.mem_of_getElem? (i := 47) rfl))) (Or.inl (hw _ (List.mem_of_getElem? (i := 20) rfl))) (by decide) (t := .int) (t' := (.array .int)) (by decide) (by decide)))
  have f340 : Fld Z h287 r0 "kombos/io/FieldBytes" "bits" "I" (.int (0 : Int32)) := f339.other W288 (Or.inr (slot_ne (Or.inl (hw _ (List.mem_of_getElem? (i := 47) rfl))) (Or.inr (hw _ (List.mem_of_getElem? (i := 22) rfl))) (by decide) (t := .int) (t' := .int) (by decide) (by decide)))
  have f341 : Fld Z h162 r0 "kombos/io/FieldBytes" "tooLong" "Z" (.int (0 : Int32)) := FtooLong.ext E163
  have f342 : Fld Z h173 r0 "kombos/io/FieldBytes" "tooLong" "Z" (.int (0 : Int32)) := f341.other W174 (Or.inr (slot_ne (Or.inl (hw _ (List.mem_of_getElem? (i := 57) rfl))) (Or.inl (hw _ (List.mem_of_getElem? (i := 11) rfl))) (by decide) (t := .boolean) (t' := (.array .byte)) (by decide) (by decide)))
  have f343 : Fld Z h183 r0 "kombos/io/FieldBytes" "tooLong" "Z" (.int (0 : Int32)) := f342.other W184 (Or.inr (slot_ne (Or.inl (hw _ (List.mem_of_getElem? (i := 57) rfl))) (Or.inl (hw _ (List.mem_of_getElem? (i := 13) rfl))) (by decide) (t := .boolean) (t' := (.array .byte)) (by decide) (by decide)))
  have f344 : Fld Z h188 r0 "kombos/io/FieldBytes" "tooLong" "Z" (.int (0 : Int32)) := f343.ext E189
  have f345 : Fld Z h209 r0 "kombos/io/FieldBytes" "tooLong" "Z" (.int (0 : Int32)) := f344.other W210 (Or.inr (slot_ne (Or.inl (hw _ (List.mem_of_getElem? (i := 57) rfl))) (Or.inl (hw _ (List.mem_of_getElem? (i := 16) rfl))) (by decide) (t := .boolean) (t' := (.array .int)) (by decide) (by decide)))
  have f346 : Fld Z h214 r0 "kombos/io/FieldBytes" "tooLong" "Z" (.int (0 : Int32)) := f345.ext E215
  have f347 : Fld Z h238 r0 "kombos/io/FieldBytes" "tooLong" "Z" (.int (0 : Int32)) := f346.other W239 (Or.inr (slot_ne (Or.inl (hw _ (List.mem_of_getElem? (i := 57) rfl))) (Or.inl (hw _ (List.mem_of_getElem? (i := 18) rfl))) (by decide) (t := .boolean) (t' := (.array .int)) (by decide) (by decide)))
  have f348 : Fld Z h243 r0 "kombos/io/FieldBytes" "tooLong" "Z" (.int (0 : Int32)) := f347.ext E244
  have f349 : Fld Z h272 r0 "kombos/io/FieldBytes" "tooLong" "Z" (.int (0 : Int32)) := f348.other W273 (Or.inr (slot_ne (Or.inl (hw _ (List.mem_of_getElem? (i := 57) rfl))) (Or.inl (hw _ (List.mem_of_getElem? (i := 20) rfl))) (by decide) (t := .boolean) (t' := (.array .int)) (by decide) (by decide)))
  have f350 : Fld Z h287 r0 "kombos/io/FieldBytes" "tooLong" "Z" (.int (0 : Int32)) := f349.other W288 (Or.inr (slot_ne (Or.inl (hw _ (List.mem_of_getElem? (i := 57) rfl))) (Or.inr (hw _ (List.mem_of_getElem? (i := 22) rfl))) (by decide) (t := .boolean) (t' := .int) (by decide) (by decide)))
  have f351 : Fld Z h162 r0 "kombos/io/FieldBytes" "full" "Z" (.int (0 : Int32)) := Ffull.ext E163
  have f352 : Fld Z h173 r0 "kombos/io/FieldBytes" "full" "Z" (.int (0 : Int32)) := f351.other W174 (Or.inr (slot_ne (Or.inl (hw _ (List.mem_of_getElem? (i := 59) rfl))) (Or.inl (hw _ (List.mem_of_getElem? (i := 11) rfl))) (by decide) (t := .boolean) (t' := (.array .byte)) (by decide) (by decide)))
  have f353 : Fld Z h183 r0 "kombos/io/FieldBytes" "full" "Z" (.int (0 : Int32)) := f352.other W184 (Or.inr (slot_ne (Or.inl (hw _ (List.mem_of_getElem? (i := 59) rfl))) (Or.inl (hw _ (List.mem_of_getElem? (i := 13) rfl))) (by decide) (t := .boolean) (t' := (.array .byte)) (by decide) (by decide)))
  have f354 : Fld Z h188 r0 "kombos/io/FieldBytes" "full" "Z" (.int (0 : Int32)) := f353.ext E189
  have f355 : Fld Z h209 r0 "kombos/io/FieldBytes" "full" "Z" (.int (0 : Int32)) := f354.other W210 (Or.inr (slot_ne (Or.inl (hw _ (List.mem_of_getElem? (i := 59) rfl))) (Or.inl (hw _ (List.mem_of_getElem? (i := 16) rfl))) (by decide) (t := .boolean) (t' := (.array .int)) (by decide) (by decide)))
  have f356 : Fld Z h214 r0 "kombos/io/FieldBytes" "full" "Z" (.int (0 : Int32)) := f355.ext E215
  have f357 : Fld Z h238 r0 "kombos/io/FieldBytes" "full" "Z" (.int (0 : Int32)) := f356.other W239 (Or.inr (slot_ne (Or.inl (hw _ (List.mem_of_getElem? (i := 59) rfl))) (Or.inl (hw _ (List.mem_of_getElem? (i := 18) rfl))) (by decide) (t := .boolean) (t' := (.array .int)) (by decide) (by decide)))
  have f358 : Fld Z h243 r0 "kombos/io/FieldBytes" "full" "Z" (.int (0 : Int32)) := f357.ext E244
  have f359 : Fld Z h272 r0 "kombos/io/FieldBytes" "full" "Z" (.int (0 : Int32)) := f358.other W273 (Or.inr (slot_ne (Or.inl (hw _ (List.mem_of_getElem? (i := 59) rfl))) (Or.inl (hw _ (List.mem_of_getElem? (i := 20) rfl))) (by decide) (t := .boolean) (t' := (.array .int)) (by decide) (by decide)))
  have f360 : Fld Z h287 r0 "kombos/io/FieldBytes" "full" "Z" (.int (0 : Int32)) := f359.other W288 (Or.inr (slot_ne (Or.inl (hw _ (List.mem_of_getElem? (i := 59) rfl))) (Or.inr (hw _ (List.mem_of_getElem? (i := 22) rfl))) (by decide) (t := .boolean) (t' := .int) (by decide) (by decide)))
  have f361 : Fld Z h183 r0 "kombos/io/FieldBytes" "held" "[B" (.ref b165) := F175.other W184 (Or.inr (slot_ne (Or.inl (hw _ (List.mem_of_getElem? (i := 11) rfl))) (Or.inl (hw _ (List.mem_of_getElem? (i := 13) rfl))) (by decide) (t := (.array .byte)) (t' := (.array .byte)) (by decide) (by decide)))
  have f362 : Fld Z h188 r0 "kombos/io/FieldBytes" "held" "[B" (.ref b165) := f361.ext E189
  have f363 : Fld Z h209 r0 "kombos/io/FieldBytes" "held" "[B" (.ref b165) := f362.other W210 (Or.inr (slot_ne (Or.inl (hw _ (List.mem_of_getElem? (i := 11) rfl))) (Or.inl (hw _ (List.mem_of_getElem? (i := 16) rfl))) (by decide) (t := (.array .byte)) (t' := (.array .int)) (by decide) (by decide)))
  have f364 : Fld Z h214 r0 "kombos/io/FieldBytes" "held" "[B" (.ref b165) := f363.ext E215
  have f365 : Fld Z h238 r0 "kombos/io/FieldBytes" "held" "[B" (.ref b165) := f364.other W239 (Or.inr (slot_ne (Or.inl (hw _ (List.mem_of_getElem? (i := 11) rfl))) (Or.inl (hw _ (List.mem_of_getElem? (i := 18) rfl))) (by decide) (t := (.array .byte)) (t' := (.array .int)) (by decide) (by decide)))
  have f366 : Fld Z h243 r0 "kombos/io/FieldBytes" "held" "[B" (.ref b165) := f365.ext E244
  have f367 : Fld Z h272 r0 "kombos/io/FieldBytes" "held" "[B" (.ref b165) := f366.other W273 (Or.inr (slot_ne (Or.inl (hw _ (List.mem_of_getElem? (i := 11) rfl))) (Or.inl (hw _ (List.mem_of_getElem? (i := 20) rfl))) (by decide) (t := (.array .byte)) (t' := (.array .int)) (by decide) (by decide)))
  have f368 : Fld Z h287 r0 "kombos/io/FieldBytes" "held" "[B" (.ref b165) := f367.other W288 (Or.inr (slot_ne (Or.inl (hw _ (List.mem_of_getElem? (i := 11) rfl))) (Or.inr (hw _ (List.mem_of_getElem? (i := 22) rfl))) (by decide) (t := (.array .byte)) (t' := .int) (by decide) (by decide)))
  have f369 : Fld Z h188 r0 "kombos/io/FieldBytes" "bytes" "[B" (.ref b165) := F185.ext E189
  have f370 : Fld Z h209 r0 "kombos/io/FieldBytes" "bytes" "[B" (.ref b165) := f369.other W210 (Or.inr (slot_ne (Or.inl (hw _ (List.mem_of_getElem? (i := 13) rfl))) (Or.inl (hw _ (List.mem_of_getElem? (i := 16) rfl))) (by decide) (t := (.array .byte)) (t' := (.array .int)) (by decide) (by decide)))
  have f371 : Fld Z h214 r0 "kombos/io/FieldBytes" "bytes" "[B" (.ref b165) := f370.ext E215
  have f372 : Fld Z h238 r0 "kombos/io/FieldBytes" "bytes" "[B" (.ref b165) := f371.other W239 (Or.inr (slot_ne (Or.inl (hw _ (List.mem_of_getElem? (i := 13) rfl))) (Or.inl (hw _ (List.mem_of_getElem? (i := 18) rfl))) (by decide) (t := (.array .byte)) (t' := (.array .int)) (by decide) (by decide)))
  have f373 : Fld Z h243 r0 "kombos/io/FieldBytes" "bytes" "[B" (.ref b165) := f372.ext E244
  have f374 : Fld Z h272 r0 "kombos/io/FieldBytes" "bytes" "[B" (.ref b165) := f373.other W273 (Or.inr (slot_ne (Or.inl (hw _ (List.mem_of_getElem? (i := 13) rfl))) (Or.inl (hw _ (List.mem_of_getElem? (i := 20) rfl))) (by decide) (t := (.array .byte)) (t' := (.array .int)) (by decide) (by decide)))
  have f375 : Fld Z h287 r0 "kombos/io/FieldBytes" "bytes" "[B" (.ref b165) := f374.other W288 (Or.inr (slot_ne (Or.inl (hw _ (List.mem_of_getElem? (i := 13) rfl))) (Or.inr (hw _ (List.mem_of_getElem? (i := 22) rfl))) (by decide) (t := (.array .byte)) (t' := .int) (by decide) (by decide)))
  have f376 : Fld Z h214 r0 "kombos/io/FieldBytes" "starts" "[I" (.ref b191) := F211.ext E215
  have f377 : Fld Z h238 r0 "kombos/io/FieldBytes" "starts" "[I" (.ref b191) := f376.other W239 (Or.inr (slot_ne (Or.inl (hw _ (List.mem_of_getElem? (i := 16) rfl))) (Or.inl (hw _ (List.mem_of_getElem? (i := 18) rfl))) (by decide) (t := (.array .int)) (t' := (.array .int)) (by decide) (by decide)))
  have f378 : Fld Z h243 r0 "kombos/io/FieldBytes" "starts" "[I" (.ref b191) := f377.ext E244
  have f379 : Fld Z h272 r0 "kombos/io/FieldBytes" "starts" "[I" (.ref b191) := f378.other W273 (Or.inr (slot_ne (Or.inl (hw _ (List.mem_of_getElem? (i := 16) rfl))) (Or.inl (hw _ (List.mem_of_getElem? (i := 20) rfl))) (by decide) (t := (.array .int)) (t' := (.array .int)) (by decide) (by decide)))
  have f380 : Fld Z h287 r0 "kombos/io/FieldBytes" "starts" "[I" (.ref b191) := f379.other W288 (Or.inr (slot_ne (Or.inl (hw _ (List.mem_of_getElem? (i := 16) rfl))) (Or.inr (hw _ (List.mem_of_getElem? (i := 22) rfl))) (by decide) (t := (.array .int)) (t' := .int) (by decide) (by decide)))
  have f381 : Fld Z h243 r0 "kombos/io/FieldBytes" "ends" "[I" (.ref b217) := F240.ext E244
  have f382 : Fld Z h272 r0 "kombos/io/FieldBytes" "ends" "[I" (.ref b217) := f381.other W273 (Or.inr (slot_ne (Or.inl (hw _ (List.mem_of_getElem? (i := 18) rfl))) (Or.inl (hw _ (List.mem_of_getElem? (i := 20) rfl))) (by decide) (t := (.array .int)) (t' := (.array .int)) (by decide) (by decide)))
  have f383 : Fld Z h287 r0 "kombos/io/FieldBytes" "ends" "[I" (.ref b217) := f382.other W288 (Or.inr (slot_ne (Or.inl (hw _ (List.mem_of_getElem? (i := 18) rfl))) (Or.inr (hw _ (List.mem_of_getElem? (i := 22) rfl))) (by decide) (t := (.array .int)) (t' := .int) (by decide) (by decide)))
  have f384 : Fld Z h287 r0 "kombos/io/FieldBytes" "plain" "[I" (.ref b246) := F274.other W288 (Or.inr (slot_ne (Or.inl (hw _ (List.mem_of_getElem? (i := 20) rfl))) (Or.inr (hw _ (List.mem_of_getElem? (i := 22) rfl))) (by decide) (t := (.array .int)) (t' := .int) (by decide) (by decide)))
  have f385 : own_A Z h243 b165 .byte (List.replicate 64 (.int (0 : Int32))) := f251.ext E244
  have f386 : own_A Z h272 b165 .byte (List.replicate 64 (.int (0 : Int32))) := f385.other W273 (Ne.symm ne167)
  have f387 : own_A Z h287 b165 .byte (List.replicate 64 (.int (0 : Int32))) := f386.other W288 (Ne.symm ne167)
  have f388 : own_A Z h243 b191 .int [(.int (0 : Int32)), (.int (0 : Int32)), (.int (0 : Int32)), (.int (0 : Int32)), (.int (0 : Int32)), (.int (0 : Int32)), (.int (0 : Int32)), (.int (0 : Int32))] := f254.ext E244
  have f389 : own_A Z h272 b191 .int [(.int (0 : Int32)), (.int (0 : Int32)), (.int (0 : Int32)), (.int (0 : Int32)), (.int (0 : Int32)), (.int (0 : Int32)), (.int (0 : Int32)), (.int (0 : Int32))] := f388.other W273 (Ne.symm ne194)
  have f390 : own_A Z h287 b191 .int [(.int (0 : Int32)), (.int (0 : Int32)), (.int (0 : Int32)), (.int (0 : Int32)), (.int (0 : Int32)), (.int (0 : Int32)), (.int (0 : Int32)), (.int (0 : Int32))] := f389.other W288 (Ne.symm ne194)
  have f391 : own_A Z h243 b217 .int [(.int (0 : Int32)), (.int (0 : Int32)), (.int (0 : Int32)), (.int (0 : Int32)), (.int (0 : Int32)), (.int (0 : Int32)), (.int (0 : Int32)), (.int (0 : Int32))] := f256.ext E244
  have f392 : own_A Z h272 b217 .int [(.int (0 : Int32)), (.int (0 : Int32)), (.int (0 : Int32)), (.int (0 : Int32)), (.int (0 : Int32)), (.int (0 : Int32)), (.int (0 : Int32)), (.int (0 : Int32))] := f391.other W273 (Ne.symm ne220)
  have f393 : own_A Z h287 b217 .int [(.int (0 : Int32)), (.int (0 : Int32)), (.int (0 : Int32)), (.int (0 : Int32)), (.int (0 : Int32)), (.int (0 : Int32)), (.int (0 : Int32)), (.int (0 : Int32))] := f392.other W288 (Ne.symm ne220)
  have f394 : own_A Z h272 b246 .int [(.int (0 : Int32)), (.int (0 : Int32)), (.int (0 : Int32)), (.int (0 : Int32)), (.int (0 : Int32)), (.int (0 : Int32)), (.int (0 : Int32)), (.int (0 : Int32))] := A245.other W273 (Ne.symm ne249)
  have f395 : own_A Z h287 b246 .int [(.int (0 : Int32)), (.int (0 : Int32)), (.int (0 : Int32)), (.int (0 : Int32)), (.int (0 : Int32)), (.int (0 : Int32)), (.int (0 : Int32)), (.int (0 : Int32))] := f394.other W288 (Ne.symm ne249)
  refine own_retV Y286 hx hlk hret (hb hby own_d1_49) (by decide) (by decide) ?_
  exact ⟨b165, b191, b217, b246, _, _, _, _, rfl, K299, f300, F289, f310, f320, f330, f340, f350, f360, f368, f375, f380, f383, f384, f387, f390, f393, f395, g168, g198, g226, g258, (Ne.symm ne167), (Ne.symm ne194), (Ne.symm ne220), (Ne.symm ne249), ne197, ne223, ne252, ne225, ne255, ne257, by simp, rfl, rfl, rfl⟩
theorem own_pd0 : parseMethodDescriptor "(II)I" = some ⟨[.int, .int], some .int⟩ := by decide +kernel
theorem own_pd1 : parseMethodDescriptor "()V" = some ⟨[], none⟩ := by decide +kernel
theorem own_d3_0 : decode prog_57_method_9_code 0 = .ok (.aload_n 1, 1) := by decide +kernel
theorem own_d3_1 : decode prog_57_method_9_code 1 = .ok (.arraylength, 1) := by decide +kernel
theorem own_d3_2 : decode prog_57_method_9_code 2 = .ok (.ldc 67, 2) := by decide +kernel
theorem own_d3_4 : decode prog_57_method_9_code 4 = .ok (.aload_n 0, 1) := by decide +kernel
theorem own_d3_5 : decode prog_57_method_9_code 5 = .ok (.getfield 30, 3) := by decide +kernel
theorem own_d3_8 : decode prog_57_method_9_code 8 = .ok (.invokestatic 101, 3) := by decide +kernel
theorem own_d3_11 : decode prog_57_method_9_code 11 = .ok (.if_icmp .le 5, 3) := by decide +kernel
theorem own_d3_14 : decode prog_57_method_9_code 14 = .ok (.iconst 0, 1) := by decide +kernel
theorem own_d3_15 : decode prog_57_method_9_code 15 = .ok (.ireturn, 1) := by decide +kernel
theorem own_d3_16 : decode prog_57_method_9_code 16 = .ok (.aload_n 0, 1) := by decide +kernel
theorem own_d3_17 : decode prog_57_method_9_code 17 = .ok (.invokevirtual 104, 3) := by decide +kernel
theorem own_d3_20 : decode prog_57_method_9_code 20 = .ok (.aload_n 0, 1) := by decide +kernel
theorem own_d3_21 : decode prog_57_method_9_code 21 = .ok (.aload_n 1, 1) := by decide +kernel
theorem own_d3_22 : decode prog_57_method_9_code 22 = .ok (.putfield 17, 3) := by decide +kernel
theorem own_d3_25 : decode prog_57_method_9_code 25 = .ok (.iconst 1, 1) := by decide +kernel
theorem own_d3_26 : decode prog_57_method_9_code 26 = .ok (.ireturn, 1) := by decide +kernel
theorem own_ef_own_rm3 (m : MethodId) (r0 : Addr) (r1 : Addr) : entryFrame m #[(.ref r0), (.ref r1)] 2 = mkF m 0 #[.val (.ref r0), .val (.ref r1)] [] := by first | (simp [entryFrame, mkF, argsToLocals, Value.category]; done) | rfl
def own_Q_own_rm3 (Z : State) (r0 bh bs be bp : Addr) (hv sv ev pv : List Value) (mx : Int32) (h0 : Heap) (n0 : Nat) (v : Option Value) (h : Heap) : Prop := ∃ (z : Int32) (by2 : Addr), v = some (.int z) ∧ Keep h0 h [r0] ∧ Exa Z h r0 "kombos/io/FieldBytes" ∧ Fld Z h r0 "kombos/io/FieldBytes" "maxRecordLength" "I" (.int mx) ∧ Fld Z h r0 "kombos/io/FieldBytes" "length" "I" (.int 0) ∧ Fld Z h r0 "kombos/io/FieldBytes" "start" "I" (.int 0) ∧ Fld Z h r0 "kombos/io/FieldBytes" "count" "I" (.int 0) ∧ Fld Z h r0 "kombos/io/FieldBytes" "bits" "I" (.int 0) ∧ Fld Z h r0 "kombos/io/FieldBytes" "tooLong" "Z" (.int 0) ∧ Fld Z h r0 "kombos/io/FieldBytes" "full" "Z" (.int 0) ∧ Fld Z h r0 "kombos/io/FieldBytes" "held" "[B" (.ref bh) ∧ Fld Z h r0 "kombos/io/FieldBytes" "bytes" "[B" (.ref by2) ∧ Fld Z h r0 "kombos/io/FieldBytes" "starts" "[I" (.ref bs) ∧ Fld Z h r0 "kombos/io/FieldBytes" "ends" "[I" (.ref be) ∧ Fld Z h r0 "kombos/io/FieldBytes" "plain" "[I" (.ref bp) ∧ own_A Z h bh .byte hv ∧ own_A Z h bs .int sv ∧ own_A Z h be .int ev ∧ own_A Z h bp .int pv
set_option maxRecDepth 65536 in
set_option maxHeartbeats 40000000 in
theorem own_rm3 (l : Launch) (Z : State) (a0 : Array Value) (hw : ∀ d ∈ tables_1, d.before a0 Z = true) (ws : List Jvm.Cond) (r0 : Addr) (r1 : Addr) (bh bs be bp : Addr) (hv sv ev pv : List Value) (mx u0 u1 : Int32) (h0 : Heap) (n0 : Nat)  (E : Exa Z h0 r0 "kombos/io/FieldBytes") (FmaxRecordLength : Fld Z h0 r0 "kombos/io/FieldBytes" "maxRecordLength" "I" (.int mx)) (Flength : Fld Z h0 r0 "kombos/io/FieldBytes" "length" "I" (.int 0)) (Fstart : Fld Z h0 r0 "kombos/io/FieldBytes" "start" "I" (.int 0)) (Fcount : Fld Z h0 r0 "kombos/io/FieldBytes" "count" "I" (.int 0)) (Fbits : Fld Z h0 r0 "kombos/io/FieldBytes" "bits" "I" (.int 0)) (FtooLong : Fld Z h0 r0 "kombos/io/FieldBytes" "tooLong" "Z" (.int 0)) (Ffull : Fld Z h0 r0 "kombos/io/FieldBytes" "full" "Z" (.int 0)) (Fheld : Fld Z h0 r0 "kombos/io/FieldBytes" "held" "[B" (.ref bh)) (Fbytes : Fld Z h0 r0 "kombos/io/FieldBytes" "bytes" "[B" (.ref bh)) (Fstarts : Fld Z h0 r0 "kombos/io/FieldBytes" "starts" "[I" (.ref bs)) (Fends : Fld Z h0 r0 "kombos/io/FieldBytes" "ends" "[I" (.ref be)) (Fplain : Fld Z h0 r0 "kombos/io/FieldBytes" "plain" "[I" (.ref bp)) (Abh : own_A Z h0 bh .byte hv) (Abs : own_A Z h0 bs .int sv) (Abe : own_A Z h0 be .int ev) (Abp : own_A Z h0 bp .int pv) (ge_r : n0 ≤ r0) (ge_bh : n0 ≤ bh) (ge_bs : n0 ≤ bs) (ge_be : n0 ≤ be) (ge_bp : n0 ≤ bp) (ne_bh_r0 : bh ≠ r0) (ne_bs_r0 : bs ≠ r0) (ne_be_r0 : be ≠ r0) (ne_bp_r0 : bp ≠ r0) (ne_bh_bs : bh ≠ bs) (ne_bh_be : bh ≠ be) (ne_bh_bp : bh ≠ bp) (ne_bs_be : bs ≠ be) (ne_bs_bp : bs ≠ bp) (ne_be_bp : be ≠ bp) (hvl : hv.length = 64) (svl : sv.length = 8) (evl : ev.length = 8) (pvl : pv.length = 8) (AS : own_A Z h0 r1 .byte [(.int u0), (.int u1)]) (ne_s : r1 ≠ r0) :
    own_Con l Z (⟨"kombos/io/FieldBytes", "startInPlace", "([B)Z"⟩ : MethodName) prog_57_method_9_code 2 (some .boolean) ws ({ frames := 1, cells := 0, slots := 0, locals := 14 } : Room) #[(.ref r0), (.ref r1)] h0 n0 (own_Q_own_rm3 Z r0 bh bs be bp hv sv ev pv mx h0 n0) := by
  refine own_body (plainFor_of_name own_pn0) ?_
  intro p e s m below meth c T0 hx hZ hby hml hown hnm hret hlk Y0
  replace hown : s.vm.findClass "kombos/io/FieldBytes" = some m.cls := hown
  replace hnm : meth.name = "startInPlace" := hnm
  rw [own_ef_own_rm3 m r0 r1]
  show own_Ends _ _ _ _ (T0.setTop (mkF m 0 #[.val (.ref r0), .val (.ref r1)] []))
  refine own_st (fun t_ => XS.aloadN (own_here Y0) hx rfl (hb hby own_d3_0) rfl rfl) ?_
  show own_Ends _ _ _ _ (T0.setTop (mkF m 1 #[.val (.ref r0), .val (.ref r1)] [(.ref r1)]))
  refine own_len Y0 hx hZ AS (z := (2 : Int32)) rfl rfl rfl (hb hby own_d3_1) ?_
  show own_Ends _ _ _ _ (T0.setTop (mkF m 2 #[.val (.ref r0), .val (.ref r1)] [(.int (2 : Int32))]))
  refine own_ldcI Y0 hx hZ hown (hw _ (List.mem_of_getElem? (i := 28) rfl)) rfl (hb hby own_d3_2) ?_
  show own_Ends _ _ _ _ (T0.setTop (mkF m 4 #[.val (.ref r0), .val (.ref r1)] [(.int (16777216 : Int32)), (.int (2 : Int32))]))
  refine own_st (fun t_ => XS.aloadN (own_here Y0) hx rfl (hb hby own_d3_4) rfl rfl) ?_
  show own_Ends _ _ _ _ (T0.setTop (mkF m 5 #[.val (.ref r0), .val (.ref r1)] [(.ref r0), (.int (16777216 : Int32)), (.int (2 : Int32))]))
  refine own_getF Y0 hx hZ hown (host := "") (Or.inl (hw _ (List.mem_of_getElem? (i := 21) rfl))) Via.refl FmaxRecordLength rfl rfl (hb hby own_d3_5) (fun T396 Y397 => ?_)
  show own_Ends _ _ _ _ (T396.setTop (mkF m 8 #[.val (.ref r0), .val (.ref r1)] [(.int mx), (.int (16777216 : Int32)), (.int (2 : Int32))]))
  refine own_callS Y397 hx hZ (y := (⟨"java/lang/Math", "min", "(II)I"⟩ : MethodName)) hown (hw _ (List.mem_of_getElem? (i := 29) rfl)) (hw _ (List.mem_of_getElem? (i := 30) rfl)) (hw _ (List.mem_of_getElem? (i := 31) rfl)) (hw _ (List.mem_of_getElem? (i := 32) rfl)) (by decide) (argsL := [(.int (16777216 : Int32)), (.int mx)]) (rest := [(.int (2 : Int32))]) (own_rm4 l Z a0 hw [] (16777216 : Int32) mx  h0 n0  ) (W := 1) (by decide) (by decide) (by decide) (by decide) rfl (by rw [hml]; rfl) (lenOf own_pd0 rfl) rfl (by show 2 * 0 + _ ≤ _; exact Nat.le_of_eq rfl) (hb hby own_d3_8) (fun T398 h400 v401 Y399 q402 => ?_)
  obtain ⟨rfl, rfl⟩ := q402
  show own_Ends _ _ _ _ (T398.setTop (mkF m 11 #[.val (.ref r0), .val (.ref r1)] [(.int (own_min (16777216 : Int32) mx)), (.int (2 : Int32))]))
  by_cases c11_403 : (own_min (16777216 : Int32) mx) < (2 : Int32)
  ·
   refine own_st (fun t_ => XS.icmpNo (own_here Y399) hx rfl (hb hby own_d3_11) rfl (XT.ii_le_f c11_403)) ?_
   show own_Ends _ _ _ _ (T398.setTop (mkF m 14 #[.val (.ref r0), .val (.ref r1)] []))
   refine own_st (fun t_ => XS.iconst (own_here Y399) hx rfl (hb hby own_d3_14) ) ?_
   show own_Ends _ _ _ _ (T398.setTop (mkF m 15 #[.val (.ref r0), .val (.ref r1)] [(.int (0 : Int32))]))
   refine own_retN Y399 hx hlk (t := .boolean) hret (by simp) (hb hby own_d3_15) (by decide) (by decide) ?_
   exact ⟨_, _, rfl, (Keep.refl h0 [r0]), E, FmaxRecordLength, Flength, Fstart, Fcount, Fbits, FtooLong, Ffull, Fheld, Fbytes, Fstarts, Fends, Fplain, Abh, Abs, Abe, Abp⟩
  ·
   refine own_st (fun t_ => XS.icmpYes (own_here Y399) hx rfl (pc0 := 11) (pc' := 16) rfl (hb hby own_d3_11) rfl (XT.ii_le_t c11_403) (by decide) (by decide)) ?_
   show own_Ends _ _ _ _ (T398.setTop (mkF m 16 #[.val (.ref r0), .val (.ref r1)] []))
   refine own_st (fun t_ => XS.aloadN (own_here Y399) hx rfl (hb hby own_d3_16) rfl rfl) ?_
   show own_Ends _ _ _ _ (T398.setTop (mkF m 17 #[.val (.ref r0), .val (.ref r1)] [(.ref r0)]))
   refine own_callV Y399 hx hZ (y := (⟨"kombos/io/FieldBytes", "clear", "()V"⟩ : MethodName)) (z := (⟨"kombos/io/FieldBytes", "clear", "()V"⟩ : MethodName)) hown (hw _ (List.mem_of_getElem? (i := 105) rfl)) (hw _ (List.mem_of_getElem? (i := 71) rfl)) (notFace_of_selects (args := #[]) (mvT hZ (hw _ (List.mem_of_getElem? (i := 73) rfl)))) (hw _ (List.mem_of_getElem? (i := 73) rfl)) (hw _ (List.mem_of_getElem? (i := 72) rfl)) (hw _ (List.mem_of_getElem? (i := 2) rfl)) (hw _ (List.mem_of_getElem? (i := 74) rfl)) (by decide) (a := r0) E (argsL := []) (rest := []) (own_rm11 l Z a0 hw [] r0 bh bs be bp hv sv ev pv bh mx (0 : Int32) (0 : Int32) (0 : Int32) (0 : Int32) (0 : Int32) (0 : Int32) h0 n0  E FmaxRecordLength Flength Fstart Fcount Fbits FtooLong Ffull Fheld Fbytes Fstarts Fends Fplain Abh Abs Abe Abp ge_r ge_bh ge_bs ge_be ge_bp ne_bh_r0 ne_bs_r0 ne_be_r0 ne_bp_r0 ne_bh_bs ne_bh_be ne_bh_bp ne_bs_be ne_bs_bp ne_be_bp hvl svl evl pvl) (W := 0) (by decide) (by decide) (by decide) (by decide) rfl (by rw [hml]; rfl) (lenOf own_pd1 rfl) rfl (by show 2 * 0 + _ ≤ _; exact Nat.le_of_eq rfl) (hb hby own_d3_17) (fun T404 h406 v407 Y405 q408 => ?_)
   obtain ⟨rfl, K409, F410, F411, F412, F413, F414, F415, F416, F417, F418, F419, F420, F421, F422, F423, F424, F425, F426⟩ := q408
   show own_Ends _ _ _ _ (T404.setTop (mkF m 20 #[.val (.ref r0), .val (.ref r1)] []))
   refine own_st (fun t_ => XS.aloadN (own_here Y405) hx rfl (hb hby own_d3_20) rfl rfl) ?_
   show own_Ends _ _ _ _ (T404.setTop (mkF m 21 #[.val (.ref r0), .val (.ref r1)] [(.ref r0)]))
   refine own_st (fun t_ => XS.aloadN (own_here Y405) hx rfl (hb hby own_d3_21) rfl rfl) ?_
   show own_Ends _ _ _ _ (T404.setTop (mkF m 22 #[.val (.ref r0), .val (.ref r1)] [(.ref r1), (.ref r0)]))
   refine own_putF Y405 hx hZ hown (host := "") (Or.inl (hw _ (List.mem_of_getElem? (i := 12) rfl))) Via.refl F419 F410 (Or.inl (hw _ (List.mem_of_getElem? (i := 13) rfl))) (hw _ (List.mem_of_getElem? (i := 1) rfl)) ge_r (ty := (.array .byte)) (by decide) rfl rfl rfl rfl (hb hby own_d3_22) (fun T427 h429 Y428 W430 F431 => ?_)
   show own_Ends _ _ _ _ (T427.setTop (mkF m 25 #[.val (.ref r0), .val (.ref r1)] []))
   refine own_st (fun t_ => XS.iconst (own_here Y428) hx rfl (hb hby own_d3_25) ) ?_
   show own_Ends _ _ _ _ (T427.setTop (mkF m 26 #[.val (.ref r0), .val (.ref r1)] [(.int (1 : Int32))]))
   have K432 : Keep h0 h406 [r0] := (Keep.refl h0 [r0]).trans K409 (allS (Or.inl (List.mem_of_getElem? (i := 0) rfl)) all0)
   have K433 : Keep h0 h429 [r0] := K432.wr W430 (Or.inl (List.mem_of_getElem? (i := 0) rfl))
   have f434 : Exa Z h429 r0 "kombos/io/FieldBytes" := F410.wr W430
   have f435 : Fld Z h429 r0 "kombos/io/FieldBytes" "maxRecordLength" "I" (.int mx) := F411.other W430 (Or.inr (slot_ne (Or.inr (hw _ (List.mem_of_getElem? (i := 22) rfl))) (Or.inl (hw _ (List.mem_of_getElem? (i := 13) rfl))) (by decide) (t := .int) (t' := (.array .byte)) (by decide) (by decide)))
   have f436 : Fld Z h429 r0 "kombos/io/FieldBytes" "length" "I" (.int (0 : Int32)) := F412.other W430 (Or.inr (slot_ne (Or.inl (hw _ (List.mem_of_getElem? (i := 43) rfl))) (Or.inl (hw _ (List.mem_of_getElem? (i := 13) rfl))) (by decide) (t := .int) (t' := (.array .byte)) (by decide) (by decide)))
   have f437 : Fld Z h429 r0 "kombos/io/FieldBytes" "start" "I" (.int (0 : Int32)) := F413.other W430 (Or.inr (slot_ne (Or.inl (hw _ (List.mem_of_getElem? (i := 45) rfl))) (Or.inl (hw _ (List.mem_of_getElem? (i := 13) rfl))) (by decide) (t := .int) (t' := (.array .byte)) (by decide) (by decide)))
   have f438 : Fld Z h429 r0 "kombos/io/FieldBytes" "count" "I" (.int (0 : Int32)) := F414.other W430 (Or.inr (slot_ne (Or.inl (hw _ (List.mem_of_getElem? (i := 69) rfl))) (Or.inl (hw _ (List.mem_of_getElem? (i := 13) rfl))) (by decide) (t := .int) (t' := (.array .byte)) (by decide) (by decide)))
   have f439 : Fld Z h429 r0 "kombos/io/FieldBytes" "bits" "I" (.int (0 : Int32)) := F415.other W430 (Or.inr (slot_ne (Or.inl (hw _ (List.mem_of_getElem? (i := 47) rfl))) (Or.inl (hw _ (List.mem_of_getElem? (i := 13) rfl))) (by decide) (t := .int) (t' := (.array .byte)) (by decide) (by decide)))
   have f440 : Fld Z h429 r0 "kombos/io/FieldBytes" "tooLong" "Z" (.int (0 : Int32)) := F416.other W430 (Or.inr (slot_ne (Or.inl (hw _ (List.mem_of_getElem? (i := 57) rfl))) (Or.inl (hw _ (List.mem_of_getElem? (i := 13) rfl))) (by decide) (t := .boolean) (t' := (.array .byte)) (by decide) (by decide)))
   have f441 : Fld Z h429 r0 "kombos/io/FieldBytes" "full" "Z" (.int (0 : Int32)) := F417.other W430 (Or.inr (slot_ne (Or.inl (hw _ (List.mem_of_getElem? (i := 59) rfl))) (Or.inl (hw _ (List.mem_of_getElem? (i := 13) rfl))) (by decide) (t := .boolean) (t' := (.array .byte)) (by decide) (by decide)))
   have f442 : Fld Z h429 r0 "kombos/io/FieldBytes" "held" "[B" (.ref bh) := F418.other W430 (Or.inr (slot_ne (Or.inl (hw _ (List.mem_of_getElem? (i := 11) rfl))) (Or.inl (hw _ (List.mem_of_getElem? (i := 13) rfl))) (by decide) (t := (.array .byte)) (t' := (.array .byte)) (by decide) (by decide)))
   have f443 : Fld Z h429 r0 "kombos/io/FieldBytes" "starts" "[I" (.ref bs) := F420.other W430 (Or.inr (slot_ne (Or.inl (hw _ (List.mem_of_getElem? (i := 16) rfl))) (Or.inl (hw _ (List.mem_of_getElem? (i := 13) rfl))) (by decide) (t := (.array .int)) (t' := (.array .byte)) (by decide) (by decide)))
   have f444 : Fld Z h429 r0 "kombos/io/FieldBytes" "ends" "[I" (.ref be) := F421.other W430 (Or.inr (slot_ne (Or.inl (hw _ (List.mem_of_getElem? (i := 18) rfl))) (Or.inl (hw _ (List.mem_of_getElem? (i := 13) rfl))) (by decide) (t := (.array .int)) (t' := (.array .byte)) (by decide) (by decide)))
   have f445 : Fld Z h429 r0 "kombos/io/FieldBytes" "plain" "[I" (.ref bp) := F422.other W430 (Or.inr (slot_ne (Or.inl (hw _ (List.mem_of_getElem? (i := 20) rfl))) (Or.inl (hw _ (List.mem_of_getElem? (i := 13) rfl))) (by decide) (t := (.array .int)) (t' := (.array .byte)) (by decide) (by decide)))
   have f446 : own_A Z h429 bh .byte hv := F423.other W430 ne_bh_r0
   have f447 : own_A Z h429 bs .int sv := F424.other W430 ne_bs_r0
   have f448 : own_A Z h429 be .int ev := F425.other W430 ne_be_r0
   have f449 : own_A Z h429 bp .int pv := F426.other W430 ne_bp_r0
   refine own_retN Y428 hx hlk (t := .boolean) hret (by simp) (hb hby own_d3_26) (by decide) (by decide) ?_
   exact ⟨_, _, rfl, K433, f434, f435, f436, f437, f438, f439, f440, f441, f442, F431, f443, f444, f445, f446, f447, f448, f449⟩
theorem own_d6_0 : decode prog_57_method_7_code 0 = .ok (.iload_n 1, 1) := by decide +kernel
theorem own_d6_1 : decode prog_57_method_7_code 1 = .ok (.istore_n 2, 1) := by decide +kernel
theorem own_d6_2 : decode prog_57_method_7_code 2 = .ok (.iload_n 2, 1) := by decide +kernel
theorem own_d6_3 : decode prog_57_method_7_code 3 = .ok (.ldc 67, 2) := by decide +kernel
theorem own_d6_5 : decode prog_57_method_7_code 5 = .ok (.aload_n 0, 1) := by decide +kernel
theorem own_d6_6 : decode prog_57_method_7_code 6 = .ok (.getfield 34, 3) := by decide +kernel
theorem own_d6_9 : decode prog_57_method_7_code 9 = .ok (.aload_n 0, 1) := by decide +kernel
theorem own_d6_10 : decode prog_57_method_7_code 10 = .ok (.getfield 37, 3) := by decide +kernel
theorem own_d6_13 : decode prog_57_method_7_code 13 = .ok (.isub, 1) := by decide +kernel
theorem own_d6_14 : decode prog_57_method_7_code 14 = .ok (.isub, 1) := by decide +kernel
theorem own_d6_15 : decode prog_57_method_7_code 15 = .ok (.if_icmp .le 21, 3) := by decide +kernel
theorem own_d6_36 : decode prog_57_method_7_code 36 = .ok (.iload_n 2, 1) := by decide +kernel
theorem own_d6_37 : decode prog_57_method_7_code 37 = .ok (.aload_n 0, 1) := by decide +kernel
theorem own_d6_38 : decode prog_57_method_7_code 38 = .ok (.getfield 30, 3) := by decide +kernel
theorem own_d6_41 : decode prog_57_method_7_code 41 = .ok (.aload_n 0, 1) := by decide +kernel
theorem own_d6_42 : decode prog_57_method_7_code 42 = .ok (.getfield 34, 3) := by decide +kernel
theorem own_d6_45 : decode prog_57_method_7_code 45 = .ok (.isub, 1) := by decide +kernel
theorem own_d6_46 : decode prog_57_method_7_code 46 = .ok (.if_icmp .le 18, 3) := by decide +kernel
theorem own_d6_64 : decode prog_57_method_7_code 64 = .ok (.aload_n 0, 1) := by decide +kernel
theorem own_d6_65 : decode prog_57_method_7_code 65 = .ok (.getfield 34, 3) := by decide +kernel
theorem own_d6_68 : decode prog_57_method_7_code 68 = .ok (.iload_n 2, 1) := by decide +kernel
theorem own_d6_69 : decode prog_57_method_7_code 69 = .ok (.iadd, 1) := by decide +kernel
theorem own_d6_70 : decode prog_57_method_7_code 70 = .ok (.aload_n 0, 1) := by decide +kernel
theorem own_d6_71 : decode prog_57_method_7_code 71 = .ok (.getfield 13, 3) := by decide +kernel
theorem own_d6_74 : decode prog_57_method_7_code 74 = .ok (.arraylength, 1) := by decide +kernel
theorem own_d6_75 : decode prog_57_method_7_code 75 = .ok (.if_icmp .le 51, 3) := by decide +kernel
theorem own_d6_126 : decode prog_57_method_7_code 126 = .ok (.iload_n 2, 1) := by decide +kernel
theorem own_d6_127 : decode prog_57_method_7_code 127 = .ok (.ireturn, 1) := by decide +kernel
theorem own_ef_own_rm6_0 (m : MethodId) (r0 : Addr) : entryFrame m #[(.ref r0), (.int (1 : Int32))] 3 = mkF m 0 #[.val (.ref r0), .val (.int (1 : Int32)), .unset] [] := by first | (simp [entryFrame, mkF, argsToLocals, Value.category]; done) | rfl
def own_Q_own_rm6_0 (Z : State)  (h0 : Heap) (n0 : Nat) (v : Option Value) (h : Heap) : Prop := v = some (.int 1) ∧ h0 = h
set_option maxRecDepth 65536 in
set_option maxHeartbeats 40000000 in
theorem own_rm6_0 (l : Launch) (Z : State) (a0 : Array Value) (hw : ∀ d ∈ tables_1, d.before a0 Z = true) (ws : List Jvm.Cond) (r0 : Addr) (bh bs be bp : Addr) (hv sv ev pv : List Value) (mx cnt : Int32) (by_ : Addr) (h0 : Heap) (n0 : Nat)  (E : Exa Z h0 r0 "kombos/io/FieldBytes") (FmaxRecordLength : Fld Z h0 r0 "kombos/io/FieldBytes" "maxRecordLength" "I" (.int mx)) (Flength : Fld Z h0 r0 "kombos/io/FieldBytes" "length" "I" (.int 0)) (Fstart : Fld Z h0 r0 "kombos/io/FieldBytes" "start" "I" (.int 0)) (Fcount : Fld Z h0 r0 "kombos/io/FieldBytes" "count" "I" (.int cnt)) (Fbits : Fld Z h0 r0 "kombos/io/FieldBytes" "bits" "I" (.int 0)) (FtooLong : Fld Z h0 r0 "kombos/io/FieldBytes" "tooLong" "Z" (.int 0)) (Ffull : Fld Z h0 r0 "kombos/io/FieldBytes" "full" "Z" (.int 0)) (Fheld : Fld Z h0 r0 "kombos/io/FieldBytes" "held" "[B" (.ref bh)) (Fbytes : Fld Z h0 r0 "kombos/io/FieldBytes" "bytes" "[B" (.ref by_)) (Fstarts : Fld Z h0 r0 "kombos/io/FieldBytes" "starts" "[I" (.ref bs)) (Fends : Fld Z h0 r0 "kombos/io/FieldBytes" "ends" "[I" (.ref be)) (Fplain : Fld Z h0 r0 "kombos/io/FieldBytes" "plain" "[I" (.ref bp)) (Abh : own_A Z h0 bh .byte hv) (Abs : own_A Z h0 bs .int sv) (Abe : own_A Z h0 be .int ev) (Abp : own_A Z h0 bp .int pv) (ge_r : n0 ≤ r0) (ge_bh : n0 ≤ bh) (ge_bs : n0 ≤ bs) (ge_be : n0 ≤ be) (ge_bp : n0 ≤ bp) (ne_bh_r0 : bh ≠ r0) (ne_bs_r0 : bs ≠ r0) (ne_be_r0 : be ≠ r0) (ne_bp_r0 : bp ≠ r0) (ne_bh_bs : bh ≠ bs) (ne_bh_be : bh ≠ be) (ne_bh_bp : bh ≠ bp) (ne_bs_be : bs ≠ be) (ne_bs_bp : bs ≠ bp) (ne_be_bp : be ≠ bp) (hvl : hv.length = 64) (svl : sv.length = 8) (evl : ev.length = 8) (pvl : pv.length = 8) (hm1 : 1 ≤ mx.toInt) (hm4 : mx.toInt ≤ 4) :
    own_Con l Z (⟨"kombos/io/FieldBytes", "room", "(I)I"⟩ : MethodName) prog_57_method_7_code 3 (some .int) ws ({ frames := 0, cells := 0, slots := 0, locals := 0 } : Room) #[(.ref r0), (.int (1 : Int32))] h0 n0 (own_Q_own_rm6_0 Z  h0 n0) := by
  refine own_body (plainFor_of_name own_pn0) ?_
  intro p e s m below meth c T0 hx hZ hby hml hown hnm hret hlk Y0
  replace hown : s.vm.findClass "kombos/io/FieldBytes" = some m.cls := hown
  replace hnm : meth.name = "room" := hnm
  rw [own_ef_own_rm6_0 m r0]
  show own_Ends _ _ _ _ (T0.setTop (mkF m 0 #[.val (.ref r0), .val (.int (1 : Int32)), .unset] []))
  refine own_st (fun t_ => XS.iloadN (own_here Y0) hx rfl (hb hby own_d6_0) rfl) ?_
  show own_Ends _ _ _ _ (T0.setTop (mkF m 1 #[.val (.ref r0), .val (.int (1 : Int32)), .unset] [(.int (1 : Int32))]))
  refine own_st (fun t_ => XS.istoreN (own_here Y0) hx rfl (hb hby own_d6_1) rfl (l' := #[.val (.ref r0), .val (.int (1 : Int32)), .val (.int (1 : Int32))]) rfl) ?_
  show own_Ends _ _ _ _ (T0.setTop (mkF m 2 #[.val (.ref r0), .val (.int (1 : Int32)), .val (.int (1 : Int32))] []))
  refine own_st (fun t_ => XS.iloadN (own_here Y0) hx rfl (hb hby own_d6_2) rfl) ?_
  show own_Ends _ _ _ _ (T0.setTop (mkF m 3 #[.val (.ref r0), .val (.int (1 : Int32)), .val (.int (1 : Int32))] [(.int (1 : Int32))]))
  refine own_ldcI Y0 hx hZ hown (hw _ (List.mem_of_getElem? (i := 28) rfl)) rfl (hb hby own_d6_3) ?_
  show own_Ends _ _ _ _ (T0.setTop (mkF m 5 #[.val (.ref r0), .val (.int (1 : Int32)), .val (.int (1 : Int32))] [(.int (16777216 : Int32)), (.int (1 : Int32))]))
  refine own_st (fun t_ => XS.aloadN (own_here Y0) hx rfl (hb hby own_d6_5) rfl rfl) ?_
  show own_Ends _ _ _ _ (T0.setTop (mkF m 6 #[.val (.ref r0), .val (.int (1 : Int32)), .val (.int (1 : Int32))] [(.ref r0), (.int (16777216 : Int32)), (.int (1 : Int32))]))
  refine own_getF Y0 hx hZ hown (host := "") (Or.inl (hw _ (List.mem_of_getElem? (i := 42) rfl))) Via.refl Flength rfl rfl (hb hby own_d6_6) (fun T450 Y451 => ?_)
  show own_Ends _ _ _ _ (T450.setTop (mkF m 9 #[.val (.ref r0), .val (.int (1 : Int32)), .val (.int (1 : Int32))] [(.int (0 : Int32)), (.int (16777216 : Int32)), (.int (1 : Int32))]))
  refine own_st (fun t_ => XS.aloadN (own_here Y451) hx rfl (hb hby own_d6_9) rfl rfl) ?_
  show own_Ends _ _ _ _ (T450.setTop (mkF m 10 #[.val (.ref r0), .val (.int (1 : Int32)), .val (.int (1 : Int32))] [(.ref r0), (.int (0 : Int32)), (.int (16777216 : Int32)), (.int (1 : Int32))]))
  refine own_getF Y451 hx hZ hown (host := "") (Or.inl (hw _ (List.mem_of_getElem? (i := 44) rfl))) Via.refl Fstart rfl rfl (hb hby own_d6_10) (fun T452 Y453 => ?_)
  show own_Ends _ _ _ _ (T452.setTop (mkF m 13 #[.val (.ref r0), .val (.int (1 : Int32)), .val (.int (1 : Int32))] [(.int (0 : Int32)), (.int (0 : Int32)), (.int (16777216 : Int32)), (.int (1 : Int32))]))
  refine own_st (fun t_ => XS.isub (own_here Y453) hx rfl (hb hby own_d6_13) rfl) ?_
  show own_Ends _ _ _ _ (T452.setTop (mkF m 14 #[.val (.ref r0), .val (.int (1 : Int32)), .val (.int (1 : Int32))] [(.int (0 : Int32)), (.int (16777216 : Int32)), (.int (1 : Int32))]))
  refine own_st (fun t_ => XS.isub (own_here Y453) hx rfl (hb hby own_d6_14) rfl) ?_
  show own_Ends _ _ _ _ (T452.setTop (mkF m 15 #[.val (.ref r0), .val (.int (1 : Int32)), .val (.int (1 : Int32))] [(.int (16777216 : Int32)), (.int (1 : Int32))]))
  refine own_st (fun t_ => XS.icmpYes (own_here Y453) hx rfl (pc0 := 15) (pc' := 36) rfl (hb hby own_d6_15) rfl (XT.ii_le_t (by decide)) (by decide) (by decide)) ?_
  show own_Ends _ _ _ _ (T452.setTop (mkF m 36 #[.val (.ref r0), .val (.int (1 : Int32)), .val (.int (1 : Int32))] []))
  refine own_st (fun t_ => XS.iloadN (own_here Y453) hx rfl (hb hby own_d6_36) rfl) ?_
  show own_Ends _ _ _ _ (T452.setTop (mkF m 37 #[.val (.ref r0), .val (.int (1 : Int32)), .val (.int (1 : Int32))] [(.int (1 : Int32))]))
  refine own_st (fun t_ => XS.aloadN (own_here Y453) hx rfl (hb hby own_d6_37) rfl rfl) ?_
  show own_Ends _ _ _ _ (T452.setTop (mkF m 38 #[.val (.ref r0), .val (.int (1 : Int32)), .val (.int (1 : Int32))] [(.ref r0), (.int (1 : Int32))]))
  refine own_getF Y453 hx hZ hown (host := "") (Or.inl (hw _ (List.mem_of_getElem? (i := 21) rfl))) Via.refl FmaxRecordLength rfl rfl (hb hby own_d6_38) (fun T454 Y455 => ?_)
  show own_Ends _ _ _ _ (T454.setTop (mkF m 41 #[.val (.ref r0), .val (.int (1 : Int32)), .val (.int (1 : Int32))] [(.int mx), (.int (1 : Int32))]))
  refine own_st (fun t_ => XS.aloadN (own_here Y455) hx rfl (hb hby own_d6_41) rfl rfl) ?_
  show own_Ends _ _ _ _ (T454.setTop (mkF m 42 #[.val (.ref r0), .val (.int (1 : Int32)), .val (.int (1 : Int32))] [(.ref r0), (.int mx), (.int (1 : Int32))]))
  refine own_getF Y455 hx hZ hown (host := "") (Or.inl (hw _ (List.mem_of_getElem? (i := 42) rfl))) Via.refl Flength rfl rfl (hb hby own_d6_42) (fun T456 Y457 => ?_)
  show own_Ends _ _ _ _ (T456.setTop (mkF m 45 #[.val (.ref r0), .val (.int (1 : Int32)), .val (.int (1 : Int32))] [(.int (0 : Int32)), (.int mx), (.int (1 : Int32))]))
  refine own_st (fun t_ => XS.isub (own_here Y457) hx rfl (hb hby own_d6_45) rfl) ?_
  show own_Ends _ _ _ _ (T456.setTop (mkF m 46 #[.val (.ref r0), .val (.int (1 : Int32)), .val (.int (1 : Int32))] [(.int (mx - (0 : Int32))), (.int (1 : Int32))]))
  refine own_st (fun t_ => XS.icmpYes (own_here Y457) hx rfl (pc0 := 46) (pc' := 64) rfl (hb hby own_d6_46) rfl (XT.ii_le_t (by have e0 : (0 : Int32).toInt = 0 := rfl; have e1 : (1 : Int32).toInt = 1 := rfl; have q := c_isub mx 0; have r := rng32 (mx - 0); rw [own_lt]; omega)) (by decide) (by decide)) ?_
  show own_Ends _ _ _ _ (T456.setTop (mkF m 64 #[.val (.ref r0), .val (.int (1 : Int32)), .val (.int (1 : Int32))] []))
  refine own_st (fun t_ => XS.aloadN (own_here Y457) hx rfl (hb hby own_d6_64) rfl rfl) ?_
  show own_Ends _ _ _ _ (T456.setTop (mkF m 65 #[.val (.ref r0), .val (.int (1 : Int32)), .val (.int (1 : Int32))] [(.ref r0)]))
  refine own_getF Y457 hx hZ hown (host := "") (Or.inl (hw _ (List.mem_of_getElem? (i := 42) rfl))) Via.refl Flength rfl rfl (hb hby own_d6_65) (fun T458 Y459 => ?_)
  show own_Ends _ _ _ _ (T458.setTop (mkF m 68 #[.val (.ref r0), .val (.int (1 : Int32)), .val (.int (1 : Int32))] [(.int (0 : Int32))]))
  refine own_st (fun t_ => XS.iloadN (own_here Y459) hx rfl (hb hby own_d6_68) rfl) ?_
  show own_Ends _ _ _ _ (T458.setTop (mkF m 69 #[.val (.ref r0), .val (.int (1 : Int32)), .val (.int (1 : Int32))] [(.int (1 : Int32)), (.int (0 : Int32))]))
  refine own_st (fun t_ => XS.iadd (own_here Y459) hx rfl (hb hby own_d6_69) rfl) ?_
  show own_Ends _ _ _ _ (T458.setTop (mkF m 70 #[.val (.ref r0), .val (.int (1 : Int32)), .val (.int (1 : Int32))] [(.int (1 : Int32))]))
  refine own_st (fun t_ => XS.aloadN (own_here Y459) hx rfl (hb hby own_d6_70) rfl rfl) ?_
  show own_Ends _ _ _ _ (T458.setTop (mkF m 71 #[.val (.ref r0), .val (.int (1 : Int32)), .val (.int (1 : Int32))] [(.ref r0), (.int (1 : Int32))]))
  refine own_getF Y459 hx hZ hown (host := "") (Or.inl (hw _ (List.mem_of_getElem? (i := 10) rfl))) Via.refl Fheld rfl rfl (hb hby own_d6_71) (fun T460 Y461 => ?_)
  show own_Ends _ _ _ _ (T460.setTop (mkF m 74 #[.val (.ref r0), .val (.int (1 : Int32)), .val (.int (1 : Int32))] [(.ref bh), (.int (1 : Int32))]))
  refine own_len Y461 hx hZ Abh (z := (64 : Int32)) (by rw [hvl]; rfl) rfl rfl (hb hby own_d6_74) ?_
  show own_Ends _ _ _ _ (T460.setTop (mkF m 75 #[.val (.ref r0), .val (.int (1 : Int32)), .val (.int (1 : Int32))] [(.int (64 : Int32)), (.int (1 : Int32))]))
  refine own_st (fun t_ => XS.icmpYes (own_here Y461) hx rfl (pc0 := 75) (pc' := 126) rfl (hb hby own_d6_75) rfl (XT.ii_le_t (by decide)) (by decide) (by decide)) ?_
  show own_Ends _ _ _ _ (T460.setTop (mkF m 126 #[.val (.ref r0), .val (.int (1 : Int32)), .val (.int (1 : Int32))] []))
  refine own_st (fun t_ => XS.iloadN (own_here Y461) hx rfl (hb hby own_d6_126) rfl) ?_
  show own_Ends _ _ _ _ (T460.setTop (mkF m 127 #[.val (.ref r0), .val (.int (1 : Int32)), .val (.int (1 : Int32))] [(.int (1 : Int32))]))
  refine own_retI Y461 hx hlk hret (hb hby own_d6_127) (by decide) (by decide) ?_
  exact ⟨rfl, rfl⟩
theorem own_d6_49 : decode prog_57_method_7_code 49 = .ok (.aload_n 0, 1) := by decide +kernel
theorem own_d6_50 : decode prog_57_method_7_code 50 = .ok (.iconst 1, 1) := by decide +kernel
theorem own_d6_51 : decode prog_57_method_7_code 51 = .ok (.putfield 50, 3) := by decide +kernel
theorem own_d6_54 : decode prog_57_method_7_code 54 = .ok (.aload_n 0, 1) := by decide +kernel
theorem own_d6_55 : decode prog_57_method_7_code 55 = .ok (.getfield 30, 3) := by decide +kernel
theorem own_d6_58 : decode prog_57_method_7_code 58 = .ok (.aload_n 0, 1) := by decide +kernel
theorem own_d6_59 : decode prog_57_method_7_code 59 = .ok (.getfield 34, 3) := by decide +kernel
theorem own_d6_62 : decode prog_57_method_7_code 62 = .ok (.isub, 1) := by decide +kernel
theorem own_d6_63 : decode prog_57_method_7_code 63 = .ok (.istore_n 2, 1) := by decide +kernel
theorem own_ef_own_rm6_1 (m : MethodId) (r0 : Addr) : entryFrame m #[(.ref r0), (.int (1 : Int32))] 3 = mkF m 0 #[.val (.ref r0), .val (.int (1 : Int32)), .unset] [] := by first | (simp [entryFrame, mkF, argsToLocals, Value.category]; done) | rfl
def own_Q_own_rm6_1 (Z : State) (r0 bh bs be bp by_ : Addr) (hv sv ev pv : List Value) (mx cnt : Int32) (h0 : Heap) (n0 : Nat) (v : Option Value) (h : Heap) : Prop := ∃ z fu : Int32, v = some (.int z) ∧ Keep h0 h [r0] ∧ Exa Z h r0 "kombos/io/FieldBytes" ∧ Fld Z h r0 "kombos/io/FieldBytes" "maxRecordLength" "I" (.int mx) ∧ Fld Z h r0 "kombos/io/FieldBytes" "length" "I" (.int 1) ∧ Fld Z h r0 "kombos/io/FieldBytes" "start" "I" (.int 1) ∧ Fld Z h r0 "kombos/io/FieldBytes" "count" "I" (.int cnt) ∧ Fld Z h r0 "kombos/io/FieldBytes" "bits" "I" (.int 0) ∧ Fld Z h r0 "kombos/io/FieldBytes" "tooLong" "Z" (.int 0) ∧ Fld Z h r0 "kombos/io/FieldBytes" "full" "Z" (.int fu) ∧ Fld Z h r0 "kombos/io/FieldBytes" "held" "[B" (.ref bh) ∧ Fld Z h r0 "kombos/io/FieldBytes" "bytes" "[B" (.ref by_) ∧ Fld Z h r0 "kombos/io/FieldBytes" "starts" "[I" (.ref bs) ∧ Fld Z h r0 "kombos/io/FieldBytes" "ends" "[I" (.ref be) ∧ Fld Z h r0 "kombos/io/FieldBytes" "plain" "[I" (.ref bp) ∧ own_A Z h bh .byte hv ∧ own_A Z h bs .int sv ∧ own_A Z h be .int ev ∧ own_A Z h bp .int pv
set_option maxRecDepth 65536 in
set_option maxHeartbeats 40000000 in
theorem own_rm6_1 (l : Launch) (Z : State) (a0 : Array Value) (hw : ∀ d ∈ tables_1, d.before a0 Z = true) (ws : List Jvm.Cond) (r0 : Addr) (bh bs be bp : Addr) (hv sv ev pv : List Value) (mx cnt : Int32) (by_ : Addr) (h0 : Heap) (n0 : Nat)  (E : Exa Z h0 r0 "kombos/io/FieldBytes") (FmaxRecordLength : Fld Z h0 r0 "kombos/io/FieldBytes" "maxRecordLength" "I" (.int mx)) (Flength : Fld Z h0 r0 "kombos/io/FieldBytes" "length" "I" (.int 1)) (Fstart : Fld Z h0 r0 "kombos/io/FieldBytes" "start" "I" (.int 1)) (Fcount : Fld Z h0 r0 "kombos/io/FieldBytes" "count" "I" (.int cnt)) (Fbits : Fld Z h0 r0 "kombos/io/FieldBytes" "bits" "I" (.int 0)) (FtooLong : Fld Z h0 r0 "kombos/io/FieldBytes" "tooLong" "Z" (.int 0)) (Ffull : Fld Z h0 r0 "kombos/io/FieldBytes" "full" "Z" (.int 0)) (Fheld : Fld Z h0 r0 "kombos/io/FieldBytes" "held" "[B" (.ref bh)) (Fbytes : Fld Z h0 r0 "kombos/io/FieldBytes" "bytes" "[B" (.ref by_)) (Fstarts : Fld Z h0 r0 "kombos/io/FieldBytes" "starts" "[I" (.ref bs)) (Fends : Fld Z h0 r0 "kombos/io/FieldBytes" "ends" "[I" (.ref be)) (Fplain : Fld Z h0 r0 "kombos/io/FieldBytes" "plain" "[I" (.ref bp)) (Abh : own_A Z h0 bh .byte hv) (Abs : own_A Z h0 bs .int sv) (Abe : own_A Z h0 be .int ev) (Abp : own_A Z h0 bp .int pv) (ge_r : n0 ≤ r0) (ge_bh : n0 ≤ bh) (ge_bs : n0 ≤ bs) (ge_be : n0 ≤ be) (ge_bp : n0 ≤ bp) (ne_bh_r0 : bh ≠ r0) (ne_bs_r0 : bs ≠ r0) (ne_be_r0 : be ≠ r0) (ne_bp_r0 : bp ≠ r0) (ne_bh_bs : bh ≠ bs) (ne_bh_be : bh ≠ be) (ne_bh_bp : bh ≠ bp) (ne_bs_be : bs ≠ be) (ne_bs_bp : bs ≠ bp) (ne_be_bp : be ≠ bp) (hvl : hv.length = 64) (svl : sv.length = 8) (evl : ev.length = 8) (pvl : pv.length = 8) (hm1 : 1 ≤ mx.toInt) (hm4 : mx.toInt ≤ 4) :
    own_Con l Z (⟨"kombos/io/FieldBytes", "room", "(I)I"⟩ : MethodName) prog_57_method_7_code 3 (some .int) ws ({ frames := 0, cells := 0, slots := 0, locals := 0 } : Room) #[(.ref r0), (.int (1 : Int32))] h0 n0 (own_Q_own_rm6_1 Z r0 bh bs be bp by_ hv sv ev pv mx cnt h0 n0) := by
  refine own_body (plainFor_of_name own_pn0) ?_
  intro p e s m below meth c T0 hx hZ hby hml hown hnm hret hlk Y0
  replace hown : s.vm.findClass "kombos/io/FieldBytes" = some m.cls := hown
  replace hnm : meth.name = "room" := hnm
  rw [own_ef_own_rm6_1 m r0]
  show own_Ends _ _ _ _ (T0.setTop (mkF m 0 #[.val (.ref r0), .val (.int (1 : Int32)), .unset] []))
  refine own_st (fun t_ => XS.iloadN (own_here Y0) hx rfl (hb hby own_d6_0) rfl) ?_
  show own_Ends _ _ _ _ (T0.setTop (mkF m 1 #[.val (.ref r0), .val (.int (1 : Int32)), .unset] [(.int (1 : Int32))]))
  refine own_st (fun t_ => XS.istoreN (own_here Y0) hx rfl (hb hby own_d6_1) rfl (l' := #[.val (.ref r0), .val (.int (1 : Int32)), .val (.int (1 : Int32))]) rfl) ?_
  show own_Ends _ _ _ _ (T0.setTop (mkF m 2 #[.val (.ref r0), .val (.int (1 : Int32)), .val (.int (1 : Int32))] []))
  refine own_st (fun t_ => XS.iloadN (own_here Y0) hx rfl (hb hby own_d6_2) rfl) ?_
  show own_Ends _ _ _ _ (T0.setTop (mkF m 3 #[.val (.ref r0), .val (.int (1 : Int32)), .val (.int (1 : Int32))] [(.int (1 : Int32))]))
  refine own_ldcI Y0 hx hZ hown (hw _ (List.mem_of_getElem? (i := 28) rfl)) rfl (hb hby own_d6_3) ?_
  show own_Ends _ _ _ _ (T0.setTop (mkF m 5 #[.val (.ref r0), .val (.int (1 : Int32)), .val (.int (1 : Int32))] [(.int (16777216 : Int32)), (.int (1 : Int32))]))
  refine own_st (fun t_ => XS.aloadN (own_here Y0) hx rfl (hb hby own_d6_5) rfl rfl) ?_
  show own_Ends _ _ _ _ (T0.setTop (mkF m 6 #[.val (.ref r0), .val (.int (1 : Int32)), .val (.int (1 : Int32))] [(.ref r0), (.int (16777216 : Int32)), (.int (1 : Int32))]))
  refine own_getF Y0 hx hZ hown (host := "") (Or.inl (hw _ (List.mem_of_getElem? (i := 42) rfl))) Via.refl Flength rfl rfl (hb hby own_d6_6) (fun T462 Y463 => ?_)
  show own_Ends _ _ _ _ (T462.setTop (mkF m 9 #[.val (.ref r0), .val (.int (1 : Int32)), .val (.int (1 : Int32))] [(.int (1 : Int32)), (.int (16777216 : Int32)), (.int (1 : Int32))]))
  refine own_st (fun t_ => XS.aloadN (own_here Y463) hx rfl (hb hby own_d6_9) rfl rfl) ?_
  show own_Ends _ _ _ _ (T462.setTop (mkF m 10 #[.val (.ref r0), .val (.int (1 : Int32)), .val (.int (1 : Int32))] [(.ref r0), (.int (1 : Int32)), (.int (16777216 : Int32)), (.int (1 : Int32))]))
  refine own_getF Y463 hx hZ hown (host := "") (Or.inl (hw _ (List.mem_of_getElem? (i := 44) rfl))) Via.refl Fstart rfl rfl (hb hby own_d6_10) (fun T464 Y465 => ?_)
  show own_Ends _ _ _ _ (T464.setTop (mkF m 13 #[.val (.ref r0), .val (.int (1 : Int32)), .val (.int (1 : Int32))] [(.int (1 : Int32)), (.int (1 : Int32)), (.int (16777216 : Int32)), (.int (1 : Int32))]))
  refine own_st (fun t_ => XS.isub (own_here Y465) hx rfl (hb hby own_d6_13) rfl) ?_
  show own_Ends _ _ _ _ (T464.setTop (mkF m 14 #[.val (.ref r0), .val (.int (1 : Int32)), .val (.int (1 : Int32))] [(.int (0 : Int32)), (.int (16777216 : Int32)), (.int (1 : Int32))]))
  refine own_st (fun t_ => XS.isub (own_here Y465) hx rfl (hb hby own_d6_14) rfl) ?_
  show own_Ends _ _ _ _ (T464.setTop (mkF m 15 #[.val (.ref r0), .val (.int (1 : Int32)), .val (.int (1 : Int32))] [(.int (16777216 : Int32)), (.int (1 : Int32))]))
  refine own_st (fun t_ => XS.icmpYes (own_here Y465) hx rfl (pc0 := 15) (pc' := 36) rfl (hb hby own_d6_15) rfl (XT.ii_le_t (by decide)) (by decide) (by decide)) ?_
  show own_Ends _ _ _ _ (T464.setTop (mkF m 36 #[.val (.ref r0), .val (.int (1 : Int32)), .val (.int (1 : Int32))] []))
  refine own_st (fun t_ => XS.iloadN (own_here Y465) hx rfl (hb hby own_d6_36) rfl) ?_
  show own_Ends _ _ _ _ (T464.setTop (mkF m 37 #[.val (.ref r0), .val (.int (1 : Int32)), .val (.int (1 : Int32))] [(.int (1 : Int32))]))
  refine own_st (fun t_ => XS.aloadN (own_here Y465) hx rfl (hb hby own_d6_37) rfl rfl) ?_
  show own_Ends _ _ _ _ (T464.setTop (mkF m 38 #[.val (.ref r0), .val (.int (1 : Int32)), .val (.int (1 : Int32))] [(.ref r0), (.int (1 : Int32))]))
  refine own_getF Y465 hx hZ hown (host := "") (Or.inl (hw _ (List.mem_of_getElem? (i := 21) rfl))) Via.refl FmaxRecordLength rfl rfl (hb hby own_d6_38) (fun T466 Y467 => ?_)
  show own_Ends _ _ _ _ (T466.setTop (mkF m 41 #[.val (.ref r0), .val (.int (1 : Int32)), .val (.int (1 : Int32))] [(.int mx), (.int (1 : Int32))]))
  refine own_st (fun t_ => XS.aloadN (own_here Y467) hx rfl (hb hby own_d6_41) rfl rfl) ?_
  show own_Ends _ _ _ _ (T466.setTop (mkF m 42 #[.val (.ref r0), .val (.int (1 : Int32)), .val (.int (1 : Int32))] [(.ref r0), (.int mx), (.int (1 : Int32))]))
  refine own_getF Y467 hx hZ hown (host := "") (Or.inl (hw _ (List.mem_of_getElem? (i := 42) rfl))) Via.refl Flength rfl rfl (hb hby own_d6_42) (fun T468 Y469 => ?_)
  show own_Ends _ _ _ _ (T468.setTop (mkF m 45 #[.val (.ref r0), .val (.int (1 : Int32)), .val (.int (1 : Int32))] [(.int (1 : Int32)), (.int mx), (.int (1 : Int32))]))
  refine own_st (fun t_ => XS.isub (own_here Y469) hx rfl (hb hby own_d6_45) rfl) ?_
  show own_Ends _ _ _ _ (T468.setTop (mkF m 46 #[.val (.ref r0), .val (.int (1 : Int32)), .val (.int (1 : Int32))] [(.int (mx - (1 : Int32))), (.int (1 : Int32))]))
  by_cases c46_470 : (mx - (1 : Int32)) < (1 : Int32)
  ·
   refine own_st (fun t_ => XS.icmpNo (own_here Y469) hx rfl (hb hby own_d6_46) rfl (XT.ii_le_f c46_470)) ?_
   show own_Ends _ _ _ _ (T468.setTop (mkF m 49 #[.val (.ref r0), .val (.int (1 : Int32)), .val (.int (1 : Int32))] []))
   refine own_st (fun t_ => XS.aloadN (own_here Y469) hx rfl (hb hby own_d6_49) rfl rfl) ?_
   show own_Ends _ _ _ _ (T468.setTop (mkF m 50 #[.val (.ref r0), .val (.int (1 : Int32)), .val (.int (1 : Int32))] [(.ref r0)]))
   refine own_st (fun t_ => XS.iconst (own_here Y469) hx rfl (hb hby own_d6_50) ) ?_
   show own_Ends _ _ _ _ (T468.setTop (mkF m 51 #[.val (.ref r0), .val (.int (1 : Int32)), .val (.int (1 : Int32))] [(.int (1 : Int32)), (.ref r0)]))
   refine own_putFN Y469 hx hZ hown (hw _ (List.mem_of_getElem? (i := 58) rfl)) Via.refl Ffull E (Or.inl (hw _ (List.mem_of_getElem? (i := 59) rfl))) (hw _ (List.mem_of_getElem? (i := 1) rfl)) ge_r (ty := .boolean) (v' := (.int (1 : Int32))) (by decide) rfl (by decide) rfl rfl (hb hby own_d6_51) (fun T471 h473 Y472 W474 F475 => ?_)
   show own_Ends _ _ _ _ (T471.setTop (mkF m 54 #[.val (.ref r0), .val (.int (1 : Int32)), .val (.int (1 : Int32))] []))
   refine own_st (fun t_ => XS.aloadN (own_here Y472) hx rfl (hb hby own_d6_54) rfl rfl) ?_
   show own_Ends _ _ _ _ (T471.setTop (mkF m 55 #[.val (.ref r0), .val (.int (1 : Int32)), .val (.int (1 : Int32))] [(.ref r0)]))
   have f476 : Fld Z h473 r0 "kombos/io/FieldBytes" "maxRecordLength" "I" (.int mx) := FmaxRecordLength.other W474 (Or.inr (slot_ne (Or.inr (hw _ (List.mem_of_getElem? (i := 22) rfl))) (Or.inl (hw _ (List.mem_of_getElem? (i := 59) rfl))) (by decide) (t := .int) (t' := .boolean) (by decide) (by decide)))
   refine own_getF Y472 hx hZ hown (host := "") (Or.inl (hw _ (List.mem_of_getElem? (i := 21) rfl))) Via.refl f476 rfl rfl (hb hby own_d6_55) (fun T477 Y478 => ?_)
   show own_Ends _ _ _ _ (T477.setTop (mkF m 58 #[.val (.ref r0), .val (.int (1 : Int32)), .val (.int (1 : Int32))] [(.int mx)]))
   refine own_st (fun t_ => XS.aloadN (own_here Y478) hx rfl (hb hby own_d6_58) rfl rfl) ?_
   show own_Ends _ _ _ _ (T477.setTop (mkF m 59 #[.val (.ref r0), .val (.int (1 : Int32)), .val (.int (1 : Int32))] [(.ref r0), (.int mx)]))
   have f479 : Fld Z h473 r0 "kombos/io/FieldBytes" "length" "I" (.int (1 : Int32)) := Flength.other W474 (Or.inr (slot_ne (Or.inl (hw _ (List.mem_of_getElem? (i := 43) rfl))) (Or.inl (hw _ (List.mem_of_getElem? (i := 59) rfl))) (by decide) (t := .int) (t' := .boolean) (by decide) (by decide)))
   refine own_getF Y478 hx hZ hown (host := "") (Or.inl (hw _ (List.mem_of_getElem? (i := 42) rfl))) Via.refl f479 rfl rfl (hb hby own_d6_59) (fun T480 Y481 => ?_)
   show own_Ends _ _ _ _ (T480.setTop (mkF m 62 #[.val (.ref r0), .val (.int (1 : Int32)), .val (.int (1 : Int32))] [(.int (1 : Int32)), (.int mx)]))
   refine own_st (fun t_ => XS.isub (own_here Y481) hx rfl (hb hby own_d6_62) rfl) ?_
   show own_Ends _ _ _ _ (T480.setTop (mkF m 63 #[.val (.ref r0), .val (.int (1 : Int32)), .val (.int (1 : Int32))] [(.int (mx - (1 : Int32)))]))
   refine own_st (fun t_ => XS.istoreN (own_here Y481) hx rfl (hb hby own_d6_63) rfl (l' := #[.val (.ref r0), .val (.int (1 : Int32)), .val (.int (mx - (1 : Int32)))]) rfl) ?_
   show own_Ends _ _ _ _ (T480.setTop (mkF m 64 #[.val (.ref r0), .val (.int (1 : Int32)), .val (.int (mx - (1 : Int32)))] []))
   refine own_st (fun t_ => XS.aloadN (own_here Y481) hx rfl (hb hby own_d6_64) rfl rfl) ?_
   show own_Ends _ _ _ _ (T480.setTop (mkF m 65 #[.val (.ref r0), .val (.int (1 : Int32)), .val (.int (mx - (1 : Int32)))] [(.ref r0)]))
   refine own_getF Y481 hx hZ hown (host := "") (Or.inl (hw _ (List.mem_of_getElem? (i := 42) rfl))) Via.refl f479 rfl rfl (hb hby own_d6_65) (fun T482 Y483 => ?_)
   show own_Ends _ _ _ _ (T482.setTop (mkF m 68 #[.val (.ref r0), .val (.int (1 : Int32)), .val (.int (mx - (1 : Int32)))] [(.int (1 : Int32))]))
   refine own_st (fun t_ => XS.iloadN (own_here Y483) hx rfl (hb hby own_d6_68) rfl) ?_
   show own_Ends _ _ _ _ (T482.setTop (mkF m 69 #[.val (.ref r0), .val (.int (1 : Int32)), .val (.int (mx - (1 : Int32)))] [(.int (mx - (1 : Int32))), (.int (1 : Int32))]))
   refine own_st (fun t_ => XS.iadd (own_here Y483) hx rfl (hb hby own_d6_69) rfl) ?_
   show own_Ends _ _ _ _ (T482.setTop (mkF m 70 #[.val (.ref r0), .val (.int (1 : Int32)), .val (.int (mx - (1 : Int32)))] [(.int ((1 : Int32) + (mx - (1 : Int32))))]))
   refine own_st (fun t_ => XS.aloadN (own_here Y483) hx rfl (hb hby own_d6_70) rfl rfl) ?_
   show own_Ends _ _ _ _ (T482.setTop (mkF m 71 #[.val (.ref r0), .val (.int (1 : Int32)), .val (.int (mx - (1 : Int32)))] [(.ref r0), (.int ((1 : Int32) + (mx - (1 : Int32))))]))
   have f484 : Fld Z h473 r0 "kombos/io/FieldBytes" "held" "[B" (.ref bh) := Fheld.other W474 (Or.inr (slot_ne (Or.inl (hw _ (List.mem_of_getElem? (i := 11) rfl))) (Or.inl (hw _ (List.mem_of_getElem? (i := 59) rfl))) (by decide) (t := (.array .byte)) (t' := .boolean) (by decide) (by decide)))
   refine own_getF Y483 hx hZ hown (host := "") (Or.inl (hw _ (List.mem_of_getElem? (i := 10) rfl))) Via.refl f484 rfl rfl (hb hby own_d6_71) (fun T485 Y486 => ?_)
   show own_Ends _ _ _ _ (T485.setTop (mkF m 74 #[.val (.ref r0), .val (.int (1 : Int32)), .val (.int (mx - (1 : Int32)))] [(.ref bh), (.int ((1 : Int32) + (mx - (1 : Int32))))]))
   have f487 : own_A Z h473 bh .byte hv := Abh.other W474 ne_bh_r0
   refine own_len Y486 hx hZ f487 (z := (64 : Int32)) (by rw [hvl]; rfl) rfl rfl (hb hby own_d6_74) ?_
   show own_Ends _ _ _ _ (T485.setTop (mkF m 75 #[.val (.ref r0), .val (.int (1 : Int32)), .val (.int (mx - (1 : Int32)))] [(.int (64 : Int32)), (.int ((1 : Int32) + (mx - (1 : Int32))))]))
   refine own_st (fun t_ => XS.icmpYes (own_here Y486) hx rfl (pc0 := 75) (pc' := 126) rfl (hb hby own_d6_75) rfl (XT.ii_le_t (by have e0 : (0 : Int32).toInt = 0 := rfl; have e1 : (1 : Int32).toInt = 1 := rfl; have e64 : (64 : Int32).toInt = 64 := rfl; have q := c_isub mx 1; have r := rng32 (mx - 1); have q2 := c_iadd 1 (mx - 1); have r2 := rng32 (1 + (mx - 1)); rw [own_lt]; omega)) (by decide) (by decide)) ?_
   show own_Ends _ _ _ _ (T485.setTop (mkF m 126 #[.val (.ref r0), .val (.int (1 : Int32)), .val (.int (mx - (1 : Int32)))] []))
   refine own_st (fun t_ => XS.iloadN (own_here Y486) hx rfl (hb hby own_d6_126) rfl) ?_
   show own_Ends _ _ _ _ (T485.setTop (mkF m 127 #[.val (.ref r0), .val (.int (1 : Int32)), .val (.int (mx - (1 : Int32)))] [(.int (mx - (1 : Int32)))]))
   have K488 : Keep h0 h473 [r0] := (Keep.refl h0 [r0]).wr W474 (Or.inl (List.mem_of_getElem? (i := 0) rfl))
   have f489 : Exa Z h473 r0 "kombos/io/FieldBytes" := E.wr W474
   have f490 : Fld Z h473 r0 "kombos/io/FieldBytes" "start" "I" (.int (1 : Int32)) := Fstart.other W474 (Or.inr (slot_ne (Or.inl (hw _ (List.mem_of_getElem? (i := 45) rfl))) (Or.inl (hw _ (List.mem_of_getElem? (i := 59) rfl))) (by decide) (t := .int) (t' := .boolean) (by decide) (by decide)))
   have f491 : Fld Z h473 r0 "kombos/io/FieldBytes" "count" "I" (.int cnt) := Fcount.other W474 (Or.inr (slot_ne (Or.inl (hw _ (List.mem_of_getElem? (i := 69) rfl))) (Or.inl (hw _ (List.mem_of_getElem? (i := 59) rfl))) (by decide) (t := .int) (t' := .boolean) (by decide) (by decide)))
   have f492 : Fld Z h473 r0 "kombos/io/FieldBytes" "bits" "I" (.int (0 : Int32)) := Fbits.other W474 (Or.inr (slot_ne (Or.inl (hw _ (List.mem_of_getElem? (i := 47) rfl))) (Or.inl (hw _ (List.mem_of_getElem? (i := 59) rfl))) (by decide) (t := .int) (t' := .boolean) (by decide) (by decide)))
   have f493 : Fld Z h473 r0 "kombos/io/FieldBytes" "tooLong" "Z" (.int (0 : Int32)) := FtooLong.other W474 (Or.inr (slot_ne (Or.inl (hw _ (List.mem_of_getElem? (i := 57) rfl))) (Or.inl (hw _ (List.mem_of_getElem? (i := 59) rfl))) (by decide) (t := .boolean) (t' := .boolean) (by decide) (by decide)))
   have f494 : Fld Z h473 r0 "kombos/io/FieldBytes" "bytes" "[B" (.ref by_) := Fbytes.other W474 (Or.inr (slot_ne (Or.inl (hw _ (List.mem_of_getElem? (i := 13) rfl))) (Or.inl (hw _ (List.mem_of_getElem? (i := 59) rfl))) (by decide) (t := (.array .byte)) (t' := .boolean) (by decide) (by decide)))
   have f495 : Fld Z h473 r0 "kombos/io/FieldBytes" "starts" "[I" (.ref bs) := Fstarts.other W474 (Or.inr (slot_ne (Or.inl (hw _ (List.mem_of_getElem? (i := 16) rfl))) (Or.inl (hw _ (List.mem_of_getElem? (i := 59) rfl))) (by decide) (t := (.array .int)) (t' := .boolean) (by decide) (by decide)))
   have f496 : Fld Z h473 r0 "kombos/io/FieldBytes" "ends" "[I" (.ref be) := Fends.other W474 (Or.inr (slot_ne (Or.inl (hw _ (List.mem_of_getElem? (i := 18) rfl))) (Or.inl (hw _ (List.mem_of_getElem? (i := 59) rfl))) (by decide) (t := (.array .int)) (t' := .boolean) (by decide) (by decide)))
   have f497 : Fld Z h473 r0 "kombos/io/FieldBytes" "plain" "[I" (.ref bp) := Fplain.other W474 (Or.inr (slot_ne (Or.inl (hw _ (List.mem_of_getElem? (i := 20) rfl))) (Or.inl (hw _ (List.mem_of_getElem? (i := 59) rfl))) (by decide) (t := (.array .int)) (t' := .boolean) (by decide) (by decide)))
   have f498 : own_A Z h473 bs .int sv := Abs.other W474 ne_bs_r0
   have f499 : own_A Z h473 be .int ev := Abe.other W474 ne_be_r0
   have f500 : own_A Z h473 bp .int pv := Abp.other W474 ne_bp_r0
   refine own_retI Y486 hx hlk hret (hb hby own_d6_127) (by decide) (by decide) ?_
   exact ⟨_, _, rfl, K488, f489, f476, f479, f490, f491, f492, f493, F475, f484, f494, f495, f496, f497, f487, f498, f499, f500⟩
  ·
   refine own_st (fun t_ => XS.icmpYes (own_here Y469) hx rfl (pc0 := 46) (pc' := 64) rfl (hb hby own_d6_46) rfl (XT.ii_le_t c46_470) (by decide) (by decide)) ?_
   show own_Ends _ _ _ _ (T468.setTop (mkF m 64 #[.val (.ref r0), .val (.int (1 : Int32)), .val (.int (1 : Int32))] []))
   refine own_st (fun t_ => XS.aloadN (own_here Y469) hx rfl (hb hby own_d6_64) rfl rfl) ?_
   show own_Ends _ _ _ _ (T468.setTop (mkF m 65 #[.val (.ref r0), .val (.int (1 : Int32)), .val (.int (1 : Int32))] [(.ref r0)]))
   refine own_getF Y469 hx hZ hown (host := "") (Or.inl (hw _ (List.mem_of_getElem? (i := 42) rfl))) Via.refl Flength rfl rfl (hb hby own_d6_65) (fun T501 Y502 => ?_)
   show own_Ends _ _ _ _ (T501.setTop (mkF m 68 #[.val (.ref r0), .val (.int (1 : Int32)), .val (.int (1 : Int32))] [(.int (1 : Int32))]))
   refine own_st (fun t_ => XS.iloadN (own_here Y502) hx rfl (hb hby own_d6_68) rfl) ?_
   show own_Ends _ _ _ _ (T501.setTop (mkF m 69 #[.val (.ref r0), .val (.int (1 : Int32)), .val (.int (1 : Int32))] [(.int (1 : Int32)), (.int (1 : Int32))]))
   refine own_st (fun t_ => XS.iadd (own_here Y502) hx rfl (hb hby own_d6_69) rfl) ?_
   show own_Ends _ _ _ _ (T501.setTop (mkF m 70 #[.val (.ref r0), .val (.int (1 : Int32)), .val (.int (1 : Int32))] [(.int (2 : Int32))]))
   refine own_st (fun t_ => XS.aloadN (own_here Y502) hx rfl (hb hby own_d6_70) rfl rfl) ?_
   show own_Ends _ _ _ _ (T501.setTop (mkF m 71 #[.val (.ref r0), .val (.int (1 : Int32)), .val (.int (1 : Int32))] [(.ref r0), (.int (2 : Int32))]))
   refine own_getF Y502 hx hZ hown (host := "") (Or.inl (hw _ (List.mem_of_getElem? (i := 10) rfl))) Via.refl Fheld rfl rfl (hb hby own_d6_71) (fun T503 Y504 => ?_)
   show own_Ends _ _ _ _ (T503.setTop (mkF m 74 #[.val (.ref r0), .val (.int (1 : Int32)), .val (.int (1 : Int32))] [(.ref bh), (.int (2 : Int32))]))
   refine own_len Y504 hx hZ Abh (z := (64 : Int32)) (by rw [hvl]; rfl) rfl rfl (hb hby own_d6_74) ?_
   show own_Ends _ _ _ _ (T503.setTop (mkF m 75 #[.val (.ref r0), .val (.int (1 : Int32)), .val (.int (1 : Int32))] [(.int (64 : Int32)), (.int (2 : Int32))]))
   refine own_st (fun t_ => XS.icmpYes (own_here Y504) hx rfl (pc0 := 75) (pc' := 126) rfl (hb hby own_d6_75) rfl (XT.ii_le_t (by decide)) (by decide) (by decide)) ?_
   show own_Ends _ _ _ _ (T503.setTop (mkF m 126 #[.val (.ref r0), .val (.int (1 : Int32)), .val (.int (1 : Int32))] []))
   refine own_st (fun t_ => XS.iloadN (own_here Y504) hx rfl (hb hby own_d6_126) rfl) ?_
   show own_Ends _ _ _ _ (T503.setTop (mkF m 127 #[.val (.ref r0), .val (.int (1 : Int32)), .val (.int (1 : Int32))] [(.int (1 : Int32))]))
   refine own_retI Y504 hx hlk hret (hb hby own_d6_127) (by decide) (by decide) ?_
   exact ⟨_, _, rfl, (Keep.refl h0 [r0]), E, FmaxRecordLength, Flength, Fstart, Fcount, Fbits, FtooLong, Ffull, Fheld, Fbytes, Fstarts, Fends, Fplain, Abh, Abs, Abe, Abp⟩
theorem own_pd2 : parseMethodDescriptor "(I)I" = some ⟨[.int], some .int⟩ := by decide +kernel
theorem own_pd3 : parseMethodDescriptor "(B)I" = some ⟨[.byte], some .int⟩ := by decide +kernel
theorem own_d5_0 : decode prog_57_method_5_code 0 = .ok (.aload_n 0, 1) := by decide +kernel
theorem own_d5_1 : decode prog_57_method_5_code 1 = .ok (.iconst 1, 1) := by decide +kernel
theorem own_d5_2 : decode prog_57_method_5_code 2 = .ok (.invokevirtual 53, 3) := by decide +kernel
theorem own_d5_5 : decode prog_57_method_5_code 5 = .ok (.iconst 1, 1) := by decide +kernel
theorem own_d5_6 : decode prog_57_method_5_code 6 = .ok (.if_icmp .ne 35, 3) := by decide +kernel
theorem own_d5_9 : decode prog_57_method_5_code 9 = .ok (.aload_n 0, 1) := by decide +kernel
theorem own_d5_10 : decode prog_57_method_5_code 10 = .ok (.getfield 13, 3) := by decide +kernel
theorem own_d5_13 : decode prog_57_method_5_code 13 = .ok (.aload_n 0, 1) := by decide +kernel
theorem own_d5_14 : decode prog_57_method_5_code 14 = .ok (.dup, 1) := by decide +kernel
theorem own_d5_15 : decode prog_57_method_5_code 15 = .ok (.getfield 34, 3) := by decide +kernel
theorem own_d5_18 : decode prog_57_method_5_code 18 = .ok (.dup_x1, 1) := by decide +kernel
theorem own_d5_19 : decode prog_57_method_5_code 19 = .ok (.iconst 1, 1) := by decide +kernel
theorem own_d5_20 : decode prog_57_method_5_code 20 = .ok (.iadd, 1) := by decide +kernel
theorem own_d5_21 : decode prog_57_method_5_code 21 = .ok (.putfield 34, 3) := by decide +kernel
theorem own_d5_24 : decode prog_57_method_5_code 24 = .ok (.iload_n 1, 1) := by decide +kernel
theorem own_d5_25 : decode prog_57_method_5_code 25 = .ok (.i2b, 1) := by decide +kernel
theorem own_d5_26 : decode prog_57_method_5_code 26 = .ok (.bastore, 1) := by decide +kernel
theorem own_d5_27 : decode prog_57_method_5_code 27 = .ok (.aload_n 0, 1) := by decide +kernel
theorem own_d5_28 : decode prog_57_method_5_code 28 = .ok (.dup, 1) := by decide +kernel
theorem own_d5_29 : decode prog_57_method_5_code 29 = .ok (.getfield 43, 3) := by decide +kernel
theorem own_d5_32 : decode prog_57_method_5_code 32 = .ok (.iload_n 1, 1) := by decide +kernel
theorem own_d5_33 : decode prog_57_method_5_code 33 = .ok (.i2b, 1) := by decide +kernel
theorem own_d5_34 : decode prog_57_method_5_code 34 = .ok (.invokestatic 57, 3) := by decide +kernel
theorem own_d5_37 : decode prog_57_method_5_code 37 = .ok (.ior, 1) := by decide +kernel
theorem own_d5_38 : decode prog_57_method_5_code 38 = .ok (.putfield 43, 3) := by decide +kernel
theorem own_d5_41 : decode prog_57_method_5_code 41 = .ok (.return_, 1) := by decide +kernel
theorem own_ef_own_rm5_0 (m : MethodId) (r0 : Addr) (x1 : Int32) : entryFrame m #[(.ref r0), (.int x1)] 2 = mkF m 0 #[.val (.ref r0), .val (.int x1)] [] := by first | (simp [entryFrame, mkF, argsToLocals, Value.category]; done) | rfl
def own_Q_own_rm5_0 (Z : State) (r0 bh bs be bp by_ : Addr) (hv sv ev pv : List Value) (mx cnt x1 : Int32) (h0 : Heap) (n0 : Nat) (v : Option Value) (h : Heap) : Prop := v = none ∧ Keep h0 h [r0, bh] ∧ Exa Z h r0 "kombos/io/FieldBytes" ∧ Fld Z h r0 "kombos/io/FieldBytes" "maxRecordLength" "I" (.int mx) ∧ Fld Z h r0 "kombos/io/FieldBytes" "length" "I" (.int 1) ∧ Fld Z h r0 "kombos/io/FieldBytes" "start" "I" (.int 0) ∧ Fld Z h r0 "kombos/io/FieldBytes" "count" "I" (.int cnt) ∧ Fld Z h r0 "kombos/io/FieldBytes" "bits" "I" (.int ((0 : Int32) ||| ((x1.toInt8.toInt32) - (32 : Int32)))) ∧ Fld Z h r0 "kombos/io/FieldBytes" "tooLong" "Z" (.int 0) ∧ Fld Z h r0 "kombos/io/FieldBytes" "full" "Z" (.int 0) ∧ Fld Z h r0 "kombos/io/FieldBytes" "held" "[B" (.ref bh) ∧ Fld Z h r0 "kombos/io/FieldBytes" "bytes" "[B" (.ref by_) ∧ Fld Z h r0 "kombos/io/FieldBytes" "starts" "[I" (.ref bs) ∧ Fld Z h r0 "kombos/io/FieldBytes" "ends" "[I" (.ref be) ∧ Fld Z h r0 "kombos/io/FieldBytes" "plain" "[I" (.ref bp) ∧ own_A Z h bh .byte (hv.set 0 (.int ((x1.toInt8.toInt32).toInt8.toInt32))) ∧ own_A Z h bs .int sv ∧ own_A Z h be .int ev ∧ own_A Z h bp .int pv
set_option maxRecDepth 65536 in
set_option maxHeartbeats 40000000 in
theorem own_rm5_0 (l : Launch) (Z : State) (a0 : Array Value) (hw : ∀ d ∈ tables_1, d.before a0 Z = true) (ws : List Jvm.Cond) (r0 : Addr) (x1 : Int32) (bh bs be bp : Addr) (hv sv ev pv : List Value) (mx cnt : Int32) (by_ : Addr) (h0 : Heap) (n0 : Nat)  (E : Exa Z h0 r0 "kombos/io/FieldBytes") (FmaxRecordLength : Fld Z h0 r0 "kombos/io/FieldBytes" "maxRecordLength" "I" (.int mx)) (Flength : Fld Z h0 r0 "kombos/io/FieldBytes" "length" "I" (.int 0)) (Fstart : Fld Z h0 r0 "kombos/io/FieldBytes" "start" "I" (.int 0)) (Fcount : Fld Z h0 r0 "kombos/io/FieldBytes" "count" "I" (.int cnt)) (Fbits : Fld Z h0 r0 "kombos/io/FieldBytes" "bits" "I" (.int 0)) (FtooLong : Fld Z h0 r0 "kombos/io/FieldBytes" "tooLong" "Z" (.int 0)) (Ffull : Fld Z h0 r0 "kombos/io/FieldBytes" "full" "Z" (.int 0)) (Fheld : Fld Z h0 r0 "kombos/io/FieldBytes" "held" "[B" (.ref bh)) (Fbytes : Fld Z h0 r0 "kombos/io/FieldBytes" "bytes" "[B" (.ref by_)) (Fstarts : Fld Z h0 r0 "kombos/io/FieldBytes" "starts" "[I" (.ref bs)) (Fends : Fld Z h0 r0 "kombos/io/FieldBytes" "ends" "[I" (.ref be)) (Fplain : Fld Z h0 r0 "kombos/io/FieldBytes" "plain" "[I" (.ref bp)) (Abh : own_A Z h0 bh .byte hv) (Abs : own_A Z h0 bs .int sv) (Abe : own_A Z h0 be .int ev) (Abp : own_A Z h0 bp .int pv) (ge_r : n0 ≤ r0) (ge_bh : n0 ≤ bh) (ge_bs : n0 ≤ bs) (ge_be : n0 ≤ be) (ge_bp : n0 ≤ bp) (ne_bh_r0 : bh ≠ r0) (ne_bs_r0 : bs ≠ r0) (ne_be_r0 : be ≠ r0) (ne_bp_r0 : bp ≠ r0) (ne_bh_bs : bh ≠ bs) (ne_bh_be : bh ≠ be) (ne_bh_bp : bh ≠ bp) (ne_bs_be : bs ≠ be) (ne_bs_bp : bs ≠ bp) (ne_be_bp : be ≠ bp) (hvl : hv.length = 64) (svl : sv.length = 8) (evl : ev.length = 8) (pvl : pv.length = 8) (hm1 : 1 ≤ mx.toInt) (hm4 : mx.toInt ≤ 4) :
    own_Con l Z (⟨"kombos/io/FieldBytes", "append", "(I)V"⟩ : MethodName) prog_57_method_5_code 2 none ws ({ frames := 1, cells := 0, slots := 0, locals := 14 } : Room) #[(.ref r0), (.int x1)] h0 n0 (own_Q_own_rm5_0 Z r0 bh bs be bp by_ hv sv ev pv mx cnt x1 h0 n0) := by
  refine own_body (plainFor_of_name own_pn0) ?_
  intro p e s m below meth c T0 hx hZ hby hml hown hnm hret hlk Y0
  replace hown : s.vm.findClass "kombos/io/FieldBytes" = some m.cls := hown
  replace hnm : meth.name = "append" := hnm
  rw [own_ef_own_rm5_0 m r0 x1]
  show own_Ends _ _ _ _ (T0.setTop (mkF m 0 #[.val (.ref r0), .val (.int x1)] []))
  refine own_st (fun t_ => XS.aloadN (own_here Y0) hx rfl (hb hby own_d5_0) rfl rfl) ?_
  show own_Ends _ _ _ _ (T0.setTop (mkF m 1 #[.val (.ref r0), .val (.int x1)] [(.ref r0)]))
  refine own_st (fun t_ => XS.iconst (own_here Y0) hx rfl (hb hby own_d5_1) ) ?_
  show own_Ends _ _ _ _ (T0.setTop (mkF m 2 #[.val (.ref r0), .val (.int x1)] [(.int (1 : Int32)), (.ref r0)]))
  refine own_callP Y0 hx hZ (y := (⟨"kombos/io/FieldBytes", "room", "(I)I"⟩ : MethodName)) hown (hw _ (List.mem_of_getElem? (i := 38) rfl)) (hw _ (List.mem_of_getElem? (i := 39) rfl)) (hw _ (List.mem_of_getElem? (i := 1) rfl)) (hw _ (List.mem_of_getElem? (i := 40) rfl)) (hw _ (List.mem_of_getElem? (i := 2) rfl)) (hw _ (List.mem_of_getElem? (i := 41) rfl)) (by decide) (a := r0) E (argsL := [(.int (1 : Int32))]) (rest := []) (own_rm6_0 l Z a0 hw [] r0 bh bs be bp hv sv ev pv mx cnt by_ h0 n0  E FmaxRecordLength Flength Fstart Fcount Fbits FtooLong Ffull Fheld Fbytes Fstarts Fends Fplain Abh Abs Abe Abp ge_r ge_bh ge_bs ge_be ge_bp ne_bh_r0 ne_bs_r0 ne_be_r0 ne_bp_r0 ne_bh_bs ne_bh_be ne_bh_bp ne_bs_be ne_bs_bp ne_be_bp hvl svl evl pvl hm1 hm4) (W := 0) (by decide) (by decide) (by decide) (by decide) rfl (by rw [hml]; rfl) (lenOf own_pd2 rfl) rfl (by show 2 * 0 + _ ≤ _; exact Nat.le_of_eq rfl) (hb hby own_d5_2) (fun T505 h507 v508 Y506 q509 => ?_)
  obtain ⟨rfl, rfl⟩ := q509
  show own_Ends _ _ _ _ (T505.setTop (mkF m 5 #[.val (.ref r0), .val (.int x1)] [(.int (1 : Int32))]))
  refine own_st (fun t_ => XS.iconst (own_here Y506) hx rfl (hb hby own_d5_5) ) ?_
  show own_Ends _ _ _ _ (T505.setTop (mkF m 6 #[.val (.ref r0), .val (.int x1)] [(.int (1 : Int32)), (.int (1 : Int32))]))
  refine own_st (fun t_ => XS.icmpNo (own_here Y506) hx rfl (hb hby own_d5_6) rfl (XT.ii_ne_f (by decide))) ?_
  show own_Ends _ _ _ _ (T505.setTop (mkF m 9 #[.val (.ref r0), .val (.int x1)] []))
  refine own_st (fun t_ => XS.aloadN (own_here Y506) hx rfl (hb hby own_d5_9) rfl rfl) ?_
  show own_Ends _ _ _ _ (T505.setTop (mkF m 10 #[.val (.ref r0), .val (.int x1)] [(.ref r0)]))
  refine own_getF Y506 hx hZ hown (host := "") (Or.inl (hw _ (List.mem_of_getElem? (i := 10) rfl))) Via.refl Fheld rfl rfl (hb hby own_d5_10) (fun T510 Y511 => ?_)
  show own_Ends _ _ _ _ (T510.setTop (mkF m 13 #[.val (.ref r0), .val (.int x1)] [(.ref bh)]))
  refine own_st (fun t_ => XS.aloadN (own_here Y511) hx rfl (hb hby own_d5_13) rfl rfl) ?_
  show own_Ends _ _ _ _ (T510.setTop (mkF m 14 #[.val (.ref r0), .val (.int x1)] [(.ref r0), (.ref bh)]))
  refine own_st (fun t_ => XS.dup (own_here Y511) hx rfl (hb hby own_d5_14) rfl rfl) ?_
  show own_Ends _ _ _ _ (T510.setTop (mkF m 15 #[.val (.ref r0), .val (.int x1)] [(.ref r0), (.ref r0), (.ref bh)]))
  refine own_getF Y511 hx hZ hown (host := "") (Or.inl (hw _ (List.mem_of_getElem? (i := 42) rfl))) Via.refl Flength rfl rfl (hb hby own_d5_15) (fun T512 Y513 => ?_)
  show own_Ends _ _ _ _ (T512.setTop (mkF m 18 #[.val (.ref r0), .val (.int x1)] [(.int (0 : Int32)), (.ref r0), (.ref bh)]))
  refine own_st (fun t_ => XS.dupX1 (own_here Y513) hx rfl (hb hby own_d5_18) rfl rfl rfl) ?_
  show own_Ends _ _ _ _ (T512.setTop (mkF m 19 #[.val (.ref r0), .val (.int x1)] [(.int (0 : Int32)), (.ref r0), (.int (0 : Int32)), (.ref bh)]))
  refine own_st (fun t_ => XS.iconst (own_here Y513) hx rfl (hb hby own_d5_19) ) ?_
  show own_Ends _ _ _ _ (T512.setTop (mkF m 20 #[.val (.ref r0), .val (.int x1)] [(.int (1 : Int32)), (.int (0 : Int32)), (.ref r0), (.int (0 : Int32)), (.ref bh)]))
  refine own_st (fun t_ => XS.iadd (own_here Y513) hx rfl (hb hby own_d5_20) rfl) ?_
  show own_Ends _ _ _ _ (T512.setTop (mkF m 21 #[.val (.ref r0), .val (.int x1)] [(.int (1 : Int32)), (.ref r0), (.int (0 : Int32)), (.ref bh)]))
  refine own_putF Y513 hx hZ hown (host := "") (Or.inl (hw _ (List.mem_of_getElem? (i := 42) rfl))) Via.refl Flength E (Or.inl (hw _ (List.mem_of_getElem? (i := 43) rfl))) (hw _ (List.mem_of_getElem? (i := 1) rfl)) ge_r (ty := .int) (by decide) rfl rfl rfl rfl (hb hby own_d5_21) (fun T514 h516 Y515 W517 F518 => ?_)
  show own_Ends _ _ _ _ (T514.setTop (mkF m 24 #[.val (.ref r0), .val (.int x1)] [(.int (0 : Int32)), (.ref bh)]))
  refine own_st (fun t_ => XS.iloadN (own_here Y515) hx rfl (hb hby own_d5_24) rfl) ?_
  show own_Ends _ _ _ _ (T514.setTop (mkF m 25 #[.val (.ref r0), .val (.int x1)] [(.int x1), (.int (0 : Int32)), (.ref bh)]))
  refine own_st (fun t_ => XS.i2b (own_here Y515) hx rfl (hb hby own_d5_25) rfl) ?_
  show own_Ends _ _ _ _ (T514.setTop (mkF m 26 #[.val (.ref r0), .val (.int x1)] [(.int (x1.toInt8.toInt32)), (.int (0 : Int32)), (.ref bh)]))
  have f519 : own_A Z h516 bh .byte hv := Abh.other W517 ne_bh_r0
  refine own_stB Y515 hx hZ f519 ge_bh (i := 0) (by decide) (by decide) (by rw [hvl]; decide) rfl rfl (hb hby own_d5_26) (fun T520 h522 Y521 W523 A524 => ?_)
  show own_Ends _ _ _ _ (T520.setTop (mkF m 27 #[.val (.ref r0), .val (.int x1)] []))
  refine own_st (fun t_ => XS.aloadN (own_here Y521) hx rfl (hb hby own_d5_27) rfl rfl) ?_
  show own_Ends _ _ _ _ (T520.setTop (mkF m 28 #[.val (.ref r0), .val (.int x1)] [(.ref r0)]))
  refine own_st (fun t_ => XS.dup (own_here Y521) hx rfl (hb hby own_d5_28) rfl rfl) ?_
  show own_Ends _ _ _ _ (T520.setTop (mkF m 29 #[.val (.ref r0), .val (.int x1)] [(.ref r0), (.ref r0)]))
  have f525 : Fld Z h516 r0 "kombos/io/FieldBytes" "bits" "I" (.int (0 : Int32)) := Fbits.other W517 (Or.inr (slot_ne (Or.inl (hw _ (List.mem_of_getElem? (i := 47) rfl))) (Or.inl (hw _ (List.mem_of_getElem? (i := 43) rfl))) (by decide) (t := .int) (t' := .int) (by decide) (by decide)))
  have f526 : Fld Z h522 r0 "kombos/io/FieldBytes" "bits" "I" (.int (0 : Int32)) := f525.other W523 (Or.inl (Ne.symm ne_bh_r0))
  refine own_getF Y521 hx hZ hown (host := "") (Or.inl (hw _ (List.mem_of_getElem? (i := 46) rfl))) Via.refl f526 rfl rfl (hb hby own_d5_29) (fun T527 Y528 => ?_)
  show own_Ends _ _ _ _ (T527.setTop (mkF m 32 #[.val (.ref r0), .val (.int x1)] [(.int (0 : Int32)), (.ref r0)]))
  refine own_st (fun t_ => XS.iloadN (own_here Y528) hx rfl (hb hby own_d5_32) rfl) ?_
  show own_Ends _ _ _ _ (T527.setTop (mkF m 33 #[.val (.ref r0), .val (.int x1)] [(.int x1), (.int (0 : Int32)), (.ref r0)]))
  refine own_st (fun t_ => XS.i2b (own_here Y528) hx rfl (hb hby own_d5_33) rfl) ?_
  show own_Ends _ _ _ _ (T527.setTop (mkF m 34 #[.val (.ref r0), .val (.int x1)] [(.int (x1.toInt8.toInt32)), (.int (0 : Int32)), (.ref r0)]))
  refine own_callS Y528 hx hZ (y := (⟨"kombos/io/FieldBytes", "bitsOf", "(B)I"⟩ : MethodName)) hown (hw _ (List.mem_of_getElem? (i := 48) rfl)) (hw _ (List.mem_of_getElem? (i := 49) rfl)) (hw _ (List.mem_of_getElem? (i := 2) rfl)) (hw _ (List.mem_of_getElem? (i := 50) rfl)) (by decide) (argsL := [(.int (x1.toInt8.toInt32))]) (rest := [(.int (0 : Int32)), (.ref r0)]) (own_rm7 l Z a0 hw [] (x1.toInt8.toInt32)  h522 n0  ) (W := 2) (by decide) (by decide) (by decide) (by decide) rfl (by rw [hml]; rfl) (lenOf own_pd3 rfl) rfl (by show 2 * 0 + _ ≤ _; exact Nat.le_of_eq rfl) (hb hby own_d5_34) (fun T529 h531 v532 Y530 q533 => ?_)
  obtain ⟨rfl, rfl⟩ := q533
  show own_Ends _ _ _ _ (T529.setTop (mkF m 37 #[.val (.ref r0), .val (.int x1)] [(.int ((x1.toInt8.toInt32) - (32 : Int32))), (.int (0 : Int32)), (.ref r0)]))
  refine own_st (fun t_ => XS.ior (own_here Y530) hx rfl (hb hby own_d5_37) rfl) ?_
  show own_Ends _ _ _ _ (T529.setTop (mkF m 38 #[.val (.ref r0), .val (.int x1)] [(.int ((0 : Int32) ||| ((x1.toInt8.toInt32) - (32 : Int32)))), (.ref r0)]))
  have f534 : Exa Z h516 r0 "kombos/io/FieldBytes" := E.wr W517
  have f535 : Exa Z h522 r0 "kombos/io/FieldBytes" := f534.wr W523
  refine own_putF Y530 hx hZ hown (host := "") (Or.inl (hw _ (List.mem_of_getElem? (i := 46) rfl))) Via.refl f526 f535 (Or.inl (hw _ (List.mem_of_getElem? (i := 47) rfl))) (hw _ (List.mem_of_getElem? (i := 1) rfl)) ge_r (ty := .int) (by decide) rfl rfl rfl rfl (hb hby own_d5_38) (fun T536 h538 Y537 W539 F540 => ?_)
  show own_Ends _ _ _ _ (T536.setTop (mkF m 41 #[.val (.ref r0), .val (.int x1)] []))
  have K541 : Keep h0 h516 [r0, bh] := (Keep.refl h0 [r0, bh]).wr W517 (Or.inl (List.mem_of_getElem? (i := 0) rfl))
  have K542 : Keep h0 h522 [r0, bh] := K541.wr W523 (Or.inl (List.mem_of_getElem? (i := 1) rfl))
  have K543 : Keep h0 h538 [r0, bh] := K542.wr W539 (Or.inl (List.mem_of_getElem? (i := 0) rfl))
  have f544 : Exa Z h538 r0 "kombos/io/FieldBytes" := f535.wr W539
  have f545 : Fld Z h516 r0 "kombos/io/FieldBytes" "maxRecordLength" "I" (.int mx) := FmaxRecordLength.other W517 (Or.inr (slot_ne (Or.inr (hw _ (List.mem_of_getElem? (i := 22) rfl))) (Or.inl (hw _ (List.mem_of_getElem? (i := 43) rfl))) (by decide) (t := .int) (t' := .int) (by decide) (by decide)))
  have f546 : Fld Z h522 r0 "kombos/io/FieldBytes" "maxRecordLength" "I" (.int mx) := f545.other W523 (Or.inl (Ne.symm ne_bh_r0))
  have f547 : Fld Z h538 r0 "kombos/io/FieldBytes" "maxRecordLength" "I" (.int mx) := f546.other W539 (Or.inr (slot_ne (Or.inr (hw _ (List.mem_of_getElem? (i := 22) rfl))) (Or.inl (hw _ (List.mem_of_getElem? (i := 47) rfl))) (by decide) (t := .int) (t' := .int) (by decide) (by decide)))
  have f548 : Fld Z h522 r0 "kombos/io/FieldBytes" "length" "I" (.int (1 : Int32)) := F518.other W523 (Or.inl (Ne.symm ne_bh_r0))
  have f549 : Fld Z h538 r0 "kombos/io/FieldBytes" "length" "I" (.int (1 : Int32)) := f548.other W539 (Or.inr (slot_ne (Or.inl (hw _ (List.mem_of_getElem? (i := 43) rfl))) (Or.inl (hw _ (List.mem_of_getElem? (i := 47) rfl))) (by decide) (t := .int) (t' := .int) (by decide) (by decide)))
  have f550 : Fld Z h516 r0 "kombos/io/FieldBytes" "start" "I" (.int (0 : Int32)) := Fstart.other W517 (Or.inr (slot_ne (Or.inl (hw _ (List.mem_of_getElem? (i := 45) rfl))) (Or.inl (hw _ (List.mem_of_getElem? (i := 43) rfl))) (by decide) (t := .int) (t' := .int) (by decide) (by decide)))
  have f551 : Fld Z h522 r0 "kombos/io/FieldBytes" "start" "I" (.int (0 : Int32)) := f550.other W523 (Or.inl (Ne.symm ne_bh_r0))
  have f552 : Fld Z h538 r0 "kombos/io/FieldBytes" "start" "I" (.int (0 : Int32)) := f551.other W539 (Or.inr (slot_ne (Or.inl (hw _ (List.mem_of_getElem? (i := 45) rfl))) (Or.inl (hw _ (List.mem_of_getElem? (i := 47) rfl))) (by decide) (t := .int) (t' := .int) (by decide) (by decide)))
  have f553 : Fld Z h516 r0 "kombos/io/FieldBytes" "count" "I" (.int cnt) := Fcount.other W517 (Or.inr (slot_ne (Or.inl (hw _ (List.mem_of_getElem? (i := 69) rfl))) (Or.inl (hw _ (List.mem_of_getElem? (i := 43) rfl))) (by decide) (t := .int) (t' := .int) (by decide) (by decide)))
  have f554 : Fld Z h522 r0 "kombos/io/FieldBytes" "count" "I" (.int cnt) := f553.other W523 (Or.inl (Ne.symm ne_bh_r0))
  have f555 : Fld Z h538 r0 "kombos/io/FieldBytes" "count" "I" (.int cnt) := f554.other W539 (Or.inr (slot_ne (Or.inl (hw _ (List.mem_of_getElem? (i := 69) rfl))) (Or.inl (hw _ (List.mem_of_getElem? (i := 47) rfl))) (by decide) (t := .int) (t' := .int) (by decide) (by decide)))
  have f556 : Fld Z h516 r0 "kombos/io/FieldBytes" "tooLong" "Z" (.int (0 : Int32)) := FtooLong.other W517 (Or.inr (slot_ne (Or.inl (hw _ (List.mem_of_getElem? (i := 57) rfl))) (Or.inl (hw _ (List.mem_of_getElem? (i := 43) rfl))) (by decide) (t := .boolean) (t' := .int) (by decide) (by decide)))
  have f557 : Fld Z h522 r0 "kombos/io/FieldBytes" "tooLong" "Z" (.int (0 : Int32)) := f556.other W523 (Or.inl (Ne.symm ne_bh_r0))
  have f558 : Fld Z h538 r0 "kombos/io/FieldBytes" "tooLong" "Z" (.int (0 : Int32)) := f557.other W539 (Or.inr (slot_ne (Or.inl (hw _ (List.mem_of_getElem? (i := 57) rfl))) (Or.inl (hw _ (List.mem_of_getElem? (i := 47) rfl))) (by decide) (t := .boolean) (t' := .int) (by decide) (by decide)))
  have f559 : Fld Z h516 r0 "kombos/io/FieldBytes" "full" "Z" (.int (0 : Int32)) := Ffull.other W517 (Or.inr (slot_ne (Or.inl (hw _ (List.mem_of_getElem? (i := 59) rfl))) (Or.inl (hw _ (List.mem_of_getElem? (i := 43) rfl))) (by decide) (t := .boolean) (t' := .int) (by decide) (by decide)))
  have f560 : Fld Z h522 r0 "kombos/io/FieldBytes" "full" "Z" (.int (0 : Int32)) := f559.other W523 (Or.inl (Ne.symm ne_bh_r0))
  have f561 : Fld Z h538 r0 "kombos/io/FieldBytes" "full" "Z" (.int (0 : Int32)) := f560.other W539 (Or.inr (slot_ne (Or.inl (hw _ (List.mem_of_getElem? (i := 59) rfl))) (Or.inl (hw _ (List.mem_of_getElem? (i := 47) rfl))) (by decide) (t := .boolean) (t' := .int) (by decide) (by decide)))
  have f562 : Fld Z h516 r0 "kombos/io/FieldBytes" "held" "[B" (.ref bh) := Fheld.other W517 (Or.inr (slot_ne (Or.inl (hw _ (List.mem_of_getElem? (i := 11) rfl))) (Or.inl (hw _ (List.mem_of_getElem? (i := 43) rfl))) (by decide) (t := (.array .byte)) (t' := .int) (by decide) (by decide)))
  have f563 : Fld Z h522 r0 "kombos/io/FieldBytes" "held" "[B" (.ref bh) := f562.other W523 (Or.inl (Ne.symm ne_bh_r0))
  have f564 : Fld Z h538 r0 "kombos/io/FieldBytes" "held" "[B" (.ref bh) := f563.other W539 (Or.inr (slot_ne (Or.inl (hw _ (List.mem_of_getElem? (i := 11) rfl))) (Or.inl (hw _ (List.mem_of_getElem? (i := 47) rfl))) (by decide) (t := (.array .byte)) (t' := .int) (by decide) (by decide)))
  have f565 : Fld Z h516 r0 "kombos/io/FieldBytes" "bytes" "[B" (.ref by_) := Fbytes.other W517 (Or.inr (slot_ne (Or.inl (hw _ (List.mem_of_getElem? (i := 13) rfl))) (Or.inl (hw _ (List.mem_of_getElem? (i := 43) rfl))) (by decide) (t := (.array .byte)) (t' := .int) (by decide) (by decide)))
  have f566 : Fld Z h522 r0 "kombos/io/FieldBytes" "bytes" "[B" (.ref by_) := f565.other W523 (Or.inl (Ne.symm ne_bh_r0))
  have f567 : Fld Z h538 r0 "kombos/io/FieldBytes" "bytes" "[B" (.ref by_) := f566.other W539 (Or.inr (slot_ne (Or.inl (hw _ (List.mem_of_getElem? (i := 13) rfl))) (Or.inl (hw _ (List.mem_of_getElem? (i := 47) rfl))) (by decide) (t := (.array .byte)) (t' := .int) (by decide) (by decide)))
  have f568 : Fld Z h516 r0 "kombos/io/FieldBytes" "starts" "[I" (.ref bs) := Fstarts.other W517 (Or.inr (slot_ne (Or.inl (hw _ (List.mem_of_getElem? (i := 16) rfl))) (Or.inl (hw _ (List.mem_of_getElem? (i := 43) rfl))) (by decide) (t := (.array .int)) (t' := .int) (by decide) (by decide)))
  have f569 : Fld Z h522 r0 "kombos/io/FieldBytes" "starts" "[I" (.ref bs) := f568.other W523 (Or.inl (Ne.symm ne_bh_r0))
  have f570 : Fld Z h538 r0 "kombos/io/FieldBytes" "starts" "[I" (.ref bs) := f569.other W539 (Or.inr (slot_ne (Or.inl (hw _ (List.mem_of_getElem? (i := 16) rfl))) (Or.inl (hw _ (List.mem_of_getElem? (i := 47) rfl))) (by decide) (t := (.array .int)) (t' := .int) (by decide) (by decide)))
  have f571 : Fld Z h516 r0 "kombos/io/FieldBytes" "ends" "[I" (.ref be) := Fends.other W517 (Or.inr (slot_ne (Or.inl (hw _ (List.mem_of_getElem? (i := 18) rfl))) (Or.inl (hw _ (List.mem_of_getElem? (i := 43) rfl))) (by decide) (t := (.array .int)) (t' := .int) (by decide) (by decide)))
  have f572 : Fld Z h522 r0 "kombos/io/FieldBytes" "ends" "[I" (.ref be) := f571.other W523 (Or.inl (Ne.symm ne_bh_r0))
  have f573 : Fld Z h538 r0 "kombos/io/FieldBytes" "ends" "[I" (.ref be) := f572.other W539 (Or.inr (slot_ne (Or.inl (hw _ (List.mem_of_getElem? (i := 18) rfl))) (Or.inl (hw _ (List.mem_of_getElem? (i := 47) rfl))) (by decide) (t := (.array .int)) (t' := .int) (by decide) (by decide)))
  have f574 : Fld Z h516 r0 "kombos/io/FieldBytes" "plain" "[I" (.ref bp) := Fplain.other W517 (Or.inr (slot_ne (Or.inl (hw _ (List.mem_of_getElem? (i := 20) rfl))) (Or.inl (hw _ (List.mem_of_getElem? (i := 43) rfl))) (by decide) (t := (.array .int)) (t' := .int) (by decide) (by decide)))
  have f575 : Fld Z h522 r0 "kombos/io/FieldBytes" "plain" "[I" (.ref bp) := f574.other W523 (Or.inl (Ne.symm ne_bh_r0))
  have f576 : Fld Z h538 r0 "kombos/io/FieldBytes" "plain" "[I" (.ref bp) := f575.other W539 (Or.inr (slot_ne (Or.inl (hw _ (List.mem_of_getElem? (i := 20) rfl))) (Or.inl (hw _ (List.mem_of_getElem? (i := 47) rfl))) (by decide) (t := (.array .int)) (t' := .int) (by decide) (by decide)))
  have f577 : own_A Z h538 bh .byte (hv.set 0 (.int ((x1.toInt8.toInt32).toInt8.toInt32))) := A524.other W539 ne_bh_r0
  have f578 : own_A Z h516 bs .int sv := Abs.other W517 ne_bs_r0
  have f579 : own_A Z h522 bs .int sv := f578.other W523 (Ne.symm ne_bh_bs)
  have f580 : own_A Z h538 bs .int sv := f579.other W539 ne_bs_r0
  have f581 : own_A Z h516 be .int ev := Abe.other W517 ne_be_r0
  have f582 : own_A Z h522 be .int ev := f581.other W523 (Ne.symm ne_bh_be)
  have f583 : own_A Z h538 be .int ev := f582.other W539 ne_be_r0
  have f584 : own_A Z h516 bp .int pv := Abp.other W517 ne_bp_r0
  have f585 : own_A Z h522 bp .int pv := f584.other W523 (Ne.symm ne_bh_bp)
  have f586 : own_A Z h538 bp .int pv := f585.other W539 ne_bp_r0
  refine own_retV Y537 hx hlk hret (hb hby own_d5_41) (by decide) (by decide) ?_
  exact ⟨rfl, K543, f544, f547, f549, f552, f555, F540, f558, f561, f564, f567, f570, f573, f576, f577, f580, f583, f586⟩
theorem own_ef_own_rm5_1 (m : MethodId) (r0 : Addr) (x1 : Int32) : entryFrame m #[(.ref r0), (.int x1)] 2 = mkF m 0 #[.val (.ref r0), .val (.int x1)] [] := by first | (simp [entryFrame, mkF, argsToLocals, Value.category]; done) | rfl
def own_Q_own_rm5_1 (Z : State) (r0 bh bs be bp by_ : Addr) (hv sv ev pv : List Value) (mx cnt : Int32) (h0 : Heap) (n0 : Nat) (v : Option Value) (h : Heap) : Prop := ∃ (ln bits fu : Int32) (hv' : List Value), v = none ∧ hv'.length = 64 ∧ Keep h0 h [r0, bh] ∧ Exa Z h r0 "kombos/io/FieldBytes" ∧ Fld Z h r0 "kombos/io/FieldBytes" "maxRecordLength" "I" (.int mx) ∧ Fld Z h r0 "kombos/io/FieldBytes" "length" "I" (.int ln) ∧ Fld Z h r0 "kombos/io/FieldBytes" "start" "I" (.int 1) ∧ Fld Z h r0 "kombos/io/FieldBytes" "count" "I" (.int cnt) ∧ Fld Z h r0 "kombos/io/FieldBytes" "bits" "I" (.int bits) ∧ Fld Z h r0 "kombos/io/FieldBytes" "tooLong" "Z" (.int 0) ∧ Fld Z h r0 "kombos/io/FieldBytes" "full" "Z" (.int fu) ∧ Fld Z h r0 "kombos/io/FieldBytes" "held" "[B" (.ref bh) ∧ Fld Z h r0 "kombos/io/FieldBytes" "bytes" "[B" (.ref by_) ∧ Fld Z h r0 "kombos/io/FieldBytes" "starts" "[I" (.ref bs) ∧ Fld Z h r0 "kombos/io/FieldBytes" "ends" "[I" (.ref be) ∧ Fld Z h r0 "kombos/io/FieldBytes" "plain" "[I" (.ref bp) ∧ own_A Z h bh .byte hv' ∧ own_A Z h bs .int sv ∧ own_A Z h be .int ev ∧ own_A Z h bp .int pv
set_option maxRecDepth 65536 in
set_option maxHeartbeats 40000000 in
theorem own_rm5_1 (l : Launch) (Z : State) (a0 : Array Value) (hw : ∀ d ∈ tables_1, d.before a0 Z = true) (ws : List Jvm.Cond) (r0 : Addr) (x1 : Int32) (bh bs be bp : Addr) (hv sv ev pv : List Value) (mx cnt : Int32) (by_ : Addr) (h0 : Heap) (n0 : Nat)  (E : Exa Z h0 r0 "kombos/io/FieldBytes") (FmaxRecordLength : Fld Z h0 r0 "kombos/io/FieldBytes" "maxRecordLength" "I" (.int mx)) (Flength : Fld Z h0 r0 "kombos/io/FieldBytes" "length" "I" (.int 1)) (Fstart : Fld Z h0 r0 "kombos/io/FieldBytes" "start" "I" (.int 1)) (Fcount : Fld Z h0 r0 "kombos/io/FieldBytes" "count" "I" (.int cnt)) (Fbits : Fld Z h0 r0 "kombos/io/FieldBytes" "bits" "I" (.int 0)) (FtooLong : Fld Z h0 r0 "kombos/io/FieldBytes" "tooLong" "Z" (.int 0)) (Ffull : Fld Z h0 r0 "kombos/io/FieldBytes" "full" "Z" (.int 0)) (Fheld : Fld Z h0 r0 "kombos/io/FieldBytes" "held" "[B" (.ref bh)) (Fbytes : Fld Z h0 r0 "kombos/io/FieldBytes" "bytes" "[B" (.ref by_)) (Fstarts : Fld Z h0 r0 "kombos/io/FieldBytes" "starts" "[I" (.ref bs)) (Fends : Fld Z h0 r0 "kombos/io/FieldBytes" "ends" "[I" (.ref be)) (Fplain : Fld Z h0 r0 "kombos/io/FieldBytes" "plain" "[I" (.ref bp)) (Abh : own_A Z h0 bh .byte hv) (Abs : own_A Z h0 bs .int sv) (Abe : own_A Z h0 be .int ev) (Abp : own_A Z h0 bp .int pv) (ge_r : n0 ≤ r0) (ge_bh : n0 ≤ bh) (ge_bs : n0 ≤ bs) (ge_be : n0 ≤ be) (ge_bp : n0 ≤ bp) (ne_bh_r0 : bh ≠ r0) (ne_bs_r0 : bs ≠ r0) (ne_be_r0 : be ≠ r0) (ne_bp_r0 : bp ≠ r0) (ne_bh_bs : bh ≠ bs) (ne_bh_be : bh ≠ be) (ne_bh_bp : bh ≠ bp) (ne_bs_be : bs ≠ be) (ne_bs_bp : bs ≠ bp) (ne_be_bp : be ≠ bp) (hvl : hv.length = 64) (svl : sv.length = 8) (evl : ev.length = 8) (pvl : pv.length = 8) (hm1 : 1 ≤ mx.toInt) (hm4 : mx.toInt ≤ 4) :
    own_Con l Z (⟨"kombos/io/FieldBytes", "append", "(I)V"⟩ : MethodName) prog_57_method_5_code 2 none ws ({ frames := 1, cells := 0, slots := 0, locals := 14 } : Room) #[(.ref r0), (.int x1)] h0 n0 (own_Q_own_rm5_1 Z r0 bh bs be bp by_ hv sv ev pv mx cnt h0 n0) := by
  refine own_body (plainFor_of_name own_pn0) ?_
  intro p e s m below meth c T0 hx hZ hby hml hown hnm hret hlk Y0
  replace hown : s.vm.findClass "kombos/io/FieldBytes" = some m.cls := hown
  replace hnm : meth.name = "append" := hnm
  rw [own_ef_own_rm5_1 m r0 x1]
  show own_Ends _ _ _ _ (T0.setTop (mkF m 0 #[.val (.ref r0), .val (.int x1)] []))
  refine own_st (fun t_ => XS.aloadN (own_here Y0) hx rfl (hb hby own_d5_0) rfl rfl) ?_
  show own_Ends _ _ _ _ (T0.setTop (mkF m 1 #[.val (.ref r0), .val (.int x1)] [(.ref r0)]))
  refine own_st (fun t_ => XS.iconst (own_here Y0) hx rfl (hb hby own_d5_1) ) ?_
  show own_Ends _ _ _ _ (T0.setTop (mkF m 2 #[.val (.ref r0), .val (.int x1)] [(.int (1 : Int32)), (.ref r0)]))
  refine own_callP Y0 hx hZ (y := (⟨"kombos/io/FieldBytes", "room", "(I)I"⟩ : MethodName)) hown (hw _ (List.mem_of_getElem? (i := 38) rfl)) (hw _ (List.mem_of_getElem? (i := 39) rfl)) (hw _ (List.mem_of_getElem? (i := 1) rfl)) (hw _ (List.mem_of_getElem? (i := 40) rfl)) (hw _ (List.mem_of_getElem? (i := 2) rfl)) (hw _ (List.mem_of_getElem? (i := 41) rfl)) (by decide) (a := r0) E (argsL := [(.int (1 : Int32))]) (rest := []) (own_rm6_1 l Z a0 hw [] r0 bh bs be bp hv sv ev pv mx cnt by_ h0 n0  E FmaxRecordLength Flength Fstart Fcount Fbits FtooLong Ffull Fheld Fbytes Fstarts Fends Fplain Abh Abs Abe Abp ge_r ge_bh ge_bs ge_be ge_bp ne_bh_r0 ne_bs_r0 ne_be_r0 ne_bp_r0 ne_bh_bs ne_bh_be ne_bh_bp ne_bs_be ne_bs_bp ne_be_bp hvl svl evl pvl hm1 hm4) (W := 0) (by decide) (by decide) (by decide) (by decide) rfl (by rw [hml]; rfl) (lenOf own_pd2 rfl) rfl (by show 2 * 0 + _ ≤ _; exact Nat.le_of_eq rfl) (hb hby own_d5_2) (fun T587 h589 v590 Y588 q591 => ?_)
  obtain ⟨z610, fu611, rfl, K592, F593, F594, F595, F596, F597, F598, F599, F600, F601, F602, F603, F604, F605, F606, F607, F608, F609⟩ := q591
  show own_Ends _ _ _ _ (T587.setTop (mkF m 5 #[.val (.ref r0), .val (.int x1)] [(.int z610)]))
  refine own_st (fun t_ => XS.iconst (own_here Y588) hx rfl (hb hby own_d5_5) ) ?_
  show own_Ends _ _ _ _ (T587.setTop (mkF m 6 #[.val (.ref r0), .val (.int x1)] [(.int (1 : Int32)), (.int z610)]))
  by_cases c6_612 : z610 = (1 : Int32)
  ·
   refine own_st (fun t_ => XS.icmpNo (own_here Y588) hx rfl (hb hby own_d5_6) rfl (XT.ii_ne_f c6_612)) ?_
   show own_Ends _ _ _ _ (T587.setTop (mkF m 9 #[.val (.ref r0), .val (.int x1)] []))
   refine own_st (fun t_ => XS.aloadN (own_here Y588) hx rfl (hb hby own_d5_9) rfl rfl) ?_
   show own_Ends _ _ _ _ (T587.setTop (mkF m 10 #[.val (.ref r0), .val (.int x1)] [(.ref r0)]))
   refine own_getF Y588 hx hZ hown (host := "") (Or.inl (hw _ (List.mem_of_getElem? (i := 10) rfl))) Via.refl F601 rfl rfl (hb hby own_d5_10) (fun T613 Y614 => ?_)
   show own_Ends _ _ _ _ (T613.setTop (mkF m 13 #[.val (.ref r0), .val (.int x1)] [(.ref bh)]))
   refine own_st (fun t_ => XS.aloadN (own_here Y614) hx rfl (hb hby own_d5_13) rfl rfl) ?_
   show own_Ends _ _ _ _ (T613.setTop (mkF m 14 #[.val (.ref r0), .val (.int x1)] [(.ref r0), (.ref bh)]))
   refine own_st (fun t_ => XS.dup (own_here Y614) hx rfl (hb hby own_d5_14) rfl rfl) ?_
   show own_Ends _ _ _ _ (T613.setTop (mkF m 15 #[.val (.ref r0), .val (.int x1)] [(.ref r0), (.ref r0), (.ref bh)]))
   refine own_getF Y614 hx hZ hown (host := "") (Or.inl (hw _ (List.mem_of_getElem? (i := 42) rfl))) Via.refl F595 rfl rfl (hb hby own_d5_15) (fun T615 Y616 => ?_)
   show own_Ends _ _ _ _ (T615.setTop (mkF m 18 #[.val (.ref r0), .val (.int x1)] [(.int (1 : Int32)), (.ref r0), (.ref bh)]))
   refine own_st (fun t_ => XS.dupX1 (own_here Y616) hx rfl (hb hby own_d5_18) rfl rfl rfl) ?_
   show own_Ends _ _ _ _ (T615.setTop (mkF m 19 #[.val (.ref r0), .val (.int x1)] [(.int (1 : Int32)), (.ref r0), (.int (1 : Int32)), (.ref bh)]))
   refine own_st (fun t_ => XS.iconst (own_here Y616) hx rfl (hb hby own_d5_19) ) ?_
   show own_Ends _ _ _ _ (T615.setTop (mkF m 20 #[.val (.ref r0), .val (.int x1)] [(.int (1 : Int32)), (.int (1 : Int32)), (.ref r0), (.int (1 : Int32)), (.ref bh)]))
   refine own_st (fun t_ => XS.iadd (own_here Y616) hx rfl (hb hby own_d5_20) rfl) ?_
   show own_Ends _ _ _ _ (T615.setTop (mkF m 21 #[.val (.ref r0), .val (.int x1)] [(.int (2 : Int32)), (.ref r0), (.int (1 : Int32)), (.ref bh)]))
   refine own_putF Y616 hx hZ hown (host := "") (Or.inl (hw _ (List.mem_of_getElem? (i := 42) rfl))) Via.refl F595 F593 (Or.inl (hw _ (List.mem_of_getElem? (i := 43) rfl))) (hw _ (List.mem_of_getElem? (i := 1) rfl)) ge_r (ty := .int) (by decide) rfl rfl rfl rfl (hb hby own_d5_21) (fun T617 h619 Y618 W620 F621 => ?_)
   show own_Ends _ _ _ _ (T617.setTop (mkF m 24 #[.val (.ref r0), .val (.int x1)] [(.int (1 : Int32)), (.ref bh)]))
   refine own_st (fun t_ => XS.iloadN (own_here Y618) hx rfl (hb hby own_d5_24) rfl) ?_
   show own_Ends _ _ _ _ (T617.setTop (mkF m 25 #[.val (.ref r0), .val (.int x1)] [(.int x1), (.int (1 : Int32)), (.ref bh)]))
   refine own_st (fun t_ => XS.i2b (own_here Y618) hx rfl (hb hby own_d5_25) rfl) ?_
   show own_Ends _ _ _ _ (T617.setTop (mkF m 26 #[.val (.ref r0), .val (.int x1)] [(.int (x1.toInt8.toInt32)), (.int (1 : Int32)), (.ref bh)]))
   have f622 : own_A Z h619 bh .byte hv := F606.other W620 ne_bh_r0
   refine own_stB Y618 hx hZ f622 ge_bh (i := 1) (by decide) (by decide) (by rw [hvl]; decide) rfl rfl (hb hby own_d5_26) (fun T623 h625 Y624 W626 A627 => ?_)
   show own_Ends _ _ _ _ (T623.setTop (mkF m 27 #[.val (.ref r0), .val (.int x1)] []))
   refine own_st (fun t_ => XS.aloadN (own_here Y624) hx rfl (hb hby own_d5_27) rfl rfl) ?_
   show own_Ends _ _ _ _ (T623.setTop (mkF m 28 #[.val (.ref r0), .val (.int x1)] [(.ref r0)]))
   refine own_st (fun t_ => XS.dup (own_here Y624) hx rfl (hb hby own_d5_28) rfl rfl) ?_
   show own_Ends _ _ _ _ (T623.setTop (mkF m 29 #[.val (.ref r0), .val (.int x1)] [(.ref r0), (.ref r0)]))
   have f628 : Fld Z h619 r0 "kombos/io/FieldBytes" "bits" "I" (.int (0 : Int32)) := F598.other W620 (Or.inr (slot_ne (Or.inl (hw _ (List.mem_of_getElem? (i := 47) rfl))) (Or.inl (hw _ (List.mem_of_getElem? (i := 43) rfl))) (by decide) (t := .int) (t' := .int) (by decide) (by decide)))
   have f629 : Fld Z h625 r0 "kombos/io/FieldBytes" "bits" "I" (.int (0 : Int32)) := f628.other W626 (Or.inl (Ne.symm ne_bh_r0))
   refine own_getF Y624 hx hZ hown (host := "") (Or.inl (hw _ (List.mem_of_getElem? (i := 46) rfl))) Via.refl f629 rfl rfl (hb hby own_d5_29) (fun T630 Y631 => ?_)
   show own_Ends _ _ _ _ (T630.setTop (mkF m 32 #[.val (.ref r0), .val (.int x1)] [(.int (0 : Int32)), (.ref r0)]))
   refine own_st (fun t_ => XS.iloadN (own_here Y631) hx rfl (hb hby own_d5_32) rfl) ?_
   show own_Ends _ _ _ _ (T630.setTop (mkF m 33 #[.val (.ref r0), .val (.int x1)] [(.int x1), (.int (0 : Int32)), (.ref r0)]))
   refine own_st (fun t_ => XS.i2b (own_here Y631) hx rfl (hb hby own_d5_33) rfl) ?_
   show own_Ends _ _ _ _ (T630.setTop (mkF m 34 #[.val (.ref r0), .val (.int x1)] [(.int (x1.toInt8.toInt32)), (.int (0 : Int32)), (.ref r0)]))
   refine own_callS Y631 hx hZ (y := (⟨"kombos/io/FieldBytes", "bitsOf", "(B)I"⟩ : MethodName)) hown (hw _ (List.mem_of_getElem? (i := 48) rfl)) (hw _ (List.mem_of_getElem? (i := 49) rfl)) (hw _ (List.mem_of_getElem? (i := 2) rfl)) (hw _ (List.mem_of_getElem? (i := 50) rfl)) (by decide) (argsL := [(.int (x1.toInt8.toInt32))]) (rest := [(.int (0 : Int32)), (.ref r0)]) (own_rm7 l Z a0 hw [] (x1.toInt8.toInt32)  h625 n0  ) (W := 2) (by decide) (by decide) (by decide) (by decide) rfl (by rw [hml]; rfl) (lenOf own_pd3 rfl) rfl (by show 2 * 0 + _ ≤ _; exact Nat.le_of_eq rfl) (hb hby own_d5_34) (fun T632 h634 v635 Y633 q636 => ?_)
   obtain ⟨rfl, rfl⟩ := q636
   show own_Ends _ _ _ _ (T632.setTop (mkF m 37 #[.val (.ref r0), .val (.int x1)] [(.int ((x1.toInt8.toInt32) - (32 : Int32))), (.int (0 : Int32)), (.ref r0)]))
   refine own_st (fun t_ => XS.ior (own_here Y633) hx rfl (hb hby own_d5_37) rfl) ?_
   show own_Ends _ _ _ _ (T632.setTop (mkF m 38 #[.val (.ref r0), .val (.int x1)] [(.int ((0 : Int32) ||| ((x1.toInt8.toInt32) - (32 : Int32)))), (.ref r0)]))
   have f637 : Exa Z h619 r0 "kombos/io/FieldBytes" := F593.wr W620
   have f638 : Exa Z h625 r0 "kombos/io/FieldBytes" := f637.wr W626
   refine own_putF Y633 hx hZ hown (host := "") (Or.inl (hw _ (List.mem_of_getElem? (i := 46) rfl))) Via.refl f629 f638 (Or.inl (hw _ (List.mem_of_getElem? (i := 47) rfl))) (hw _ (List.mem_of_getElem? (i := 1) rfl)) ge_r (ty := .int) (by decide) rfl rfl rfl rfl (hb hby own_d5_38) (fun T639 h641 Y640 W642 F643 => ?_)
   show own_Ends _ _ _ _ (T639.setTop (mkF m 41 #[.val (.ref r0), .val (.int x1)] []))
   have K644 : Keep h0 h589 [r0, bh] := (Keep.refl h0 [r0, bh]).trans K592 (allS (Or.inl (List.mem_of_getElem? (i := 0) rfl)) all0)
   have K645 : Keep h0 h619 [r0, bh] := K644.wr W620 (Or.inl (List.mem_of_getElem? (i := 0) rfl))
   have K646 : Keep h0 h625 [r0, bh] := K645.wr W626 (Or.inl (List.mem_of_getElem? (i := 1) rfl))
   have K647 : Keep h0 h641 [r0, bh] := K646.wr W642 (Or.inl (List.mem_of_getElem? (i := 0) rfl))
   have f648 : Exa Z h641 r0 "kombos/io/FieldBytes" := f638.wr W642
   have f649 : Fld Z h619 r0 "kombos/io/FieldBytes" "maxRecordLength" "I" (.int mx) := F594.other W620 (Or.inr (slot_ne (Or.inr (hw _ (List.mem_of_getElem? (i := 22) rfl))) (Or.inl (hw _ (List.mem_of_getElem? (i := 43) rfl))) (by decide) (t := .int) (t' := .int) (by decide) (by decide)))
   have f650 : Fld Z h625 r0 "kombos/io/FieldBytes" "maxRecordLength" "I" (.int mx) := f649.other W626 (Or.inl (Ne.symm ne_bh_r0))
   have f651 : Fld Z h641 r0 "kombos/io/FieldBytes" "maxRecordLength" "I" (.int mx) := f650.other W642 (Or.inr (slot_ne (Or.inr (hw _ (List.mem_of_getElem? (i := 22) rfl))) (Or.inl (hw _ (List.mem_of_getElem? (i := 47) rfl))) (by decide) (t := .int) (t' := .int) (by decide) (by decide)))
   have f652 : Fld Z h625 r0 "kombos/io/FieldBytes" "length" "I" (.int (2 : Int32)) := F621.other W626 (Or.inl (Ne.symm ne_bh_r0))
   have f653 : Fld Z h641 r0 "kombos/io/FieldBytes" "length" "I" (.int (2 : Int32)) := f652.other W642 (Or.inr (slot_ne (Or.inl (hw _ (List.mem_of_getElem? (i := 43) rfl))) (Or.inl (hw _ (List.mem_of_getElem? (i := 47) rfl))) (by decide) (t := .int) (t' := .int) (by decide) (by decide)))
   have f654 : Fld Z h619 r0 "kombos/io/FieldBytes" "start" "I" (.int (1 : Int32)) := F596.other W620 (Or.inr (slot_ne (Or.inl (hw _ (List.mem_of_getElem? (i := 45) rfl))) (Or.inl (hw _ (List.mem_of_getElem? (i := 43) rfl))) (by decide) (t := .int) (t' := .int) (by decide) (by decide)))
   have f655 : Fld Z h625 r0 "kombos/io/FieldBytes" "start" "I" (.int (1 : Int32)) := f654.other W626 (Or.inl (Ne.symm ne_bh_r0))
   have f656 : Fld Z h641 r0 "kombos/io/FieldBytes" "start" "I" (.int (1 : Int32)) := f655.other W642 (Or.inr (slot_ne (Or.inl (hw _ (List.mem_of_getElem? (i := 45) rfl))) (Or.inl (hw _ (List.mem_of_getElem? (i := 47) rfl))) (by decide) (t := .int) (t' := .int) (by decide) (by decide)))
   have f657 : Fld Z h619 r0 "kombos/io/FieldBytes" "count" "I" (.int cnt) := F597.other W620 (Or.inr (slot_ne (Or.inl (hw _ (List.mem_of_getElem? (i := 69) rfl))) (Or.inl (hw _ (List.mem_of_getElem? (i := 43) rfl))) (by decide) (t := .int) (t' := .int) (by decide) (by decide)))
   have f658 : Fld Z h625 r0 "kombos/io/FieldBytes" "count" "I" (.int cnt) := f657.other W626 (Or.inl (Ne.symm ne_bh_r0))
   have f659 : Fld Z h641 r0 "kombos/io/FieldBytes" "count" "I" (.int cnt) := f658.other W642 (Or.inr (slot_ne (Or.inl (hw _ (List.mem_of_getElem? (i := 69) rfl))) (Or.inl (hw _ (List.mem_of_getElem? (i := 47) rfl))) (by decide) (t := .int) (t' := .int) (by decide) (by decide)))
   have f660 : Fld Z h619 r0 "kombos/io/FieldBytes" "tooLong" "Z" (.int (0 : Int32)) := F599.other W620 (Or.inr (slot_ne (Or.inl (hw _ (List.mem_of_getElem? (i := 57) rfl))) (Or.inl (hw _ (List.mem_of_getElem? (i := 43) rfl))) (by decide) (t := .boolean) (t' := .int) (by decide) (by decide)))
   have f661 : Fld Z h625 r0 "kombos/io/FieldBytes" "tooLong" "Z" (.int (0 : Int32)) := f660.other W626 (Or.inl (Ne.symm ne_bh_r0))
   have f662 : Fld Z h641 r0 "kombos/io/FieldBytes" "tooLong" "Z" (.int (0 : Int32)) := f661.other W642 (Or.inr (slot_ne (Or.inl (hw _ (List.mem_of_getElem? (i := 57) rfl))) (Or.inl (hw _ (List.mem_of_getElem? (i := 47) rfl))) (by decide) (t := .boolean) (t' := .int) (by decide) (by decide)))
   have f663 : Fld Z h619 r0 "kombos/io/FieldBytes" "full" "Z" (.int fu611) := F600.other W620 (Or.inr (slot_ne (Or.inl (hw _ (List.mem_of_getElem? (i := 59) rfl))) (Or.inl (hw _ (List.mem_of_getElem? (i := 43) rfl))) (by decide) (t := .boolean) (t' := .int) (by decide) (by decide)))
   have f664 : Fld Z h625 r0 "kombos/io/FieldBytes" "full" "Z" (.int fu611) := f663.other W626 (Or.inl (Ne.symm ne_bh_r0))
   have f665 : Fld Z h641 r0 "kombos/io/FieldBytes" "full" "Z" (.int fu611) := f664.other W642 (Or.inr (slot_ne (Or.inl (hw _ (List.mem_of_getElem? (i := 59) rfl))) (Or.inl (hw _ (List.mem_of_getElem? (i := 47) rfl))) (by decide) (t := .boolean) (t' := .int) (by decide) (by decide)))
   have f666 : Fld Z h619 r0 "kombos/io/FieldBytes" "held" "[B" (.ref bh) := F601.other W620 (Or.inr (slot_ne (Or.inl (hw _ (List.mem_of_getElem? (i := 11) rfl))) (Or.inl (hw _ (List.mem_of_getElem? (i := 43) rfl))) (by decide) (t := (.array .byte)) (t' := .int) (by decide) (by decide)))
   have f667 : Fld Z h625 r0 "kombos/io/FieldBytes" "held" "[B" (.ref bh) := f666.other W626 (Or.inl (Ne.symm ne_bh_r0))
   have f668 : Fld Z h641 r0 "kombos/io/FieldBytes" "held" "[B" (.ref bh) := f667.other W642 (Or.inr (slot_ne (Or.inl (hw _ (List.mem_of_getElem? (i := 11) rfl))) (Or.inl (hw _ (List.mem_of_getElem? (i := 47) rfl))) (by decide) (t := (.array .byte)) (t' := .int) (by decide) (by decide)))
   have f669 : Fld Z h619 r0 "kombos/io/FieldBytes" "bytes" "[B" (.ref by_) := F602.other W620 (Or.inr (slot_ne (Or.inl (hw _ (List.mem_of_getElem? (i := 13) rfl))) (Or.inl (hw _ (List.mem_of_getElem? (i := 43) rfl))) (by decide) (t := (.array .byte)) (t' := .int) (by decide) (by decide)))
   have f670 : Fld Z h625 r0 "kombos/io/FieldBytes" "bytes" "[B" (.ref by_) := f669.other W626 (Or.inl (Ne.symm ne_bh_r0))
   have f671 : Fld Z h641 r0 "kombos/io/FieldBytes" "bytes" "[B" (.ref by_) := f670.other W642 (Or.inr (slot_ne (Or.inl (hw _ (List.mem_of_getElem? (i := 13) rfl))) (Or.inl (hw _ (List.mem_of_getElem? (i := 47) rfl))) (by decide) (t := (.array .byte)) (t' := .int) (by decide) (by decide)))
   have f672 : Fld Z h619 r0 "kombos/io/FieldBytes" "starts" "[I" (.ref bs) := F603.other W620 (Or.inr (slot_ne (Or.inl (hw _ (List.mem_of_getElem? (i := 16) rfl))) (Or.inl (hw _ (List.mem_of_getElem? (i := 43) rfl))) (by decide) (t := (.array .int)) (t' := .int) (by decide) (by decide)))
   have f673 : Fld Z h625 r0 "kombos/io/FieldBytes" "starts" "[I" (.ref bs) := f672.other W626 (Or.inl (Ne.symm ne_bh_r0))
   have f674 : Fld Z h641 r0 "kombos/io/FieldBytes" "starts" "[I" (.ref bs) := f673.other W642 (Or.inr (slot_ne (Or.inl (hw _ (List.mem_of_getElem? (i := 16) rfl))) (Or.inl (hw _ (List.mem_of_getElem? (i := 47) rfl))) (by decide) (t := (.array .int)) (t' := .int) (by decide) (by decide)))
   have f675 : Fld Z h619 r0 "kombos/io/FieldBytes" "ends" "[I" (.ref be) := F604.other W620 (Or.inr (slot_ne (Or.inl (hw _ (List.mem_of_getElem? (i := 18) rfl))) (Or.inl (hw _ (List.mem_of_getElem? (i := 43) rfl))) (by decide) (t := (.array .int)) (t' := .int) (by decide) (by decide)))
   have f676 : Fld Z h625 r0 "kombos/io/FieldBytes" "ends" "[I" (.ref be) := f675.other W626 (Or.inl (Ne.symm ne_bh_r0))
   have f677 : Fld Z h641 r0 "kombos/io/FieldBytes" "ends" "[I" (.ref be) := f676.other W642 (Or.inr (slot_ne (Or.inl (hw _ (List.mem_of_getElem? (i := 18) rfl))) (Or.inl (hw _ (List.mem_of_getElem? (i := 47) rfl))) (by decide) (t := (.array .int)) (t' := .int) (by decide) (by decide)))
   have f678 : Fld Z h619 r0 "kombos/io/FieldBytes" "plain" "[I" (.ref bp) := F605.other W620 (Or.inr (slot_ne (Or.inl (hw _ (List.mem_of_getElem? (i := 20) rfl))) (Or.inl (hw _ (List.mem_of_getElem? (i := 43) rfl))) (by decide) (t := (.array .int)) (t' := .int) (by decide) (by decide)))
   have f679 : Fld Z h625 r0 "kombos/io/FieldBytes" "plain" "[I" (.ref bp) := f678.other W626 (Or.inl (Ne.symm ne_bh_r0))
   have f680 : Fld Z h641 r0 "kombos/io/FieldBytes" "plain" "[I" (.ref bp) := f679.other W642 (Or.inr (slot_ne (Or.inl (hw _ (List.mem_of_getElem? (i := 20) rfl))) (Or.inl (hw _ (List.mem_of_getElem? (i := 47) rfl))) (by decide) (t := (.array .int)) (t' := .int) (by decide) (by decide)))
   have f681 : own_A Z h641 bh .byte (hv.set 1 (.int ((x1.toInt8.toInt32).toInt8.toInt32))) := A627.other W642 ne_bh_r0
   have f682 : own_A Z h619 bs .int sv := F607.other W620 ne_bs_r0
   have f683 : own_A Z h625 bs .int sv := f682.other W626 (Ne.symm ne_bh_bs)
   have f684 : own_A Z h641 bs .int sv := f683.other W642 ne_bs_r0
   have f685 : own_A Z h619 be .int ev := F608.other W620 ne_be_r0
   have f686 : own_A Z h625 be .int ev := f685.other W626 (Ne.symm ne_bh_be)
   have f687 : own_A Z h641 be .int ev := f686.other W642 ne_be_r0
   have f688 : own_A Z h619 bp .int pv := F609.other W620 ne_bp_r0
   have f689 : own_A Z h625 bp .int pv := f688.other W626 (Ne.symm ne_bh_bp)
   have f690 : own_A Z h641 bp .int pv := f689.other W642 ne_bp_r0
   refine own_retV Y640 hx hlk hret (hb hby own_d5_41) (by decide) (by decide) ?_
   exact ⟨_, _, _, _, rfl, by simp [hvl], K647, f648, f651, f653, f656, f659, F643, f662, f665, f668, f671, f674, f677, f680, f681, f684, f687, f690⟩
  ·
   refine own_st (fun t_ => XS.icmpYes (own_here Y588) hx rfl (pc0 := 6) (pc' := 41) rfl (hb hby own_d5_6) rfl (XT.ii_ne_t c6_612) (by decide) (by decide)) ?_
   show own_Ends _ _ _ _ (T587.setTop (mkF m 41 #[.val (.ref r0), .val (.int x1)] []))
   have K691 : Keep h0 h589 [r0, bh] := (Keep.refl h0 [r0, bh]).trans K592 (allS (Or.inl (List.mem_of_getElem? (i := 0) rfl)) all0)
   refine own_retV Y588 hx hlk hret (hb hby own_d5_41) (by decide) (by decide) ?_
   exact ⟨_, _, _, _, rfl, by simp [hvl], K691, F593, F594, F595, F596, F597, F598, F599, F600, F601, F602, F603, F604, F605, F606, F607, F608, F609⟩
theorem own_pn1 : plainName "kombos/graph/Utf8" = true := by first | (simp [plainName, overriddenIn]; done) | decide +kernel
theorem own_d9_0 : decode prog_50_method_2_code 0 = .ok (.iload_n 1, 1) := by decide +kernel
theorem own_d9_1 : decode prog_50_method_2_code 1 = .ok (.istore_n 3, 1) := by decide +kernel
theorem own_d9_2 : decode prog_50_method_2_code 2 = .ok (.iload_n 3, 1) := by decide +kernel
theorem own_d9_3 : decode prog_50_method_2_code 3 = .ok (.iload_n 2, 1) := by decide +kernel
theorem own_d9_4 : decode prog_50_method_2_code 4 = .ok (.if_icmp .ge 257, 3) := by decide +kernel
theorem own_d9_7 : decode prog_50_method_2_code 7 = .ok (.aload_n 0, 1) := by decide +kernel
theorem own_d9_8 : decode prog_50_method_2_code 8 = .ok (.iload_n 3, 1) := by decide +kernel
theorem own_d9_9 : decode prog_50_method_2_code 9 = .ok (.baload, 1) := by decide +kernel
theorem own_d9_10 : decode prog_50_method_2_code 10 = .ok (.sipush 255, 3) := by decide +kernel
theorem own_d9_13 : decode prog_50_method_2_code 13 = .ok (.iand, 1) := by decide +kernel
theorem own_d9_14 : decode prog_50_method_2_code 14 = .ok (.istore 4, 2) := by decide +kernel
theorem own_d9_16 : decode prog_50_method_2_code 16 = .ok (.iload 4, 2) := by decide +kernel
theorem own_d9_18 : decode prog_50_method_2_code 18 = .ok (.sipush 128, 3) := by decide +kernel
theorem own_d9_21 : decode prog_50_method_2_code 21 = .ok (.if_icmp .ge 9, 3) := by decide +kernel
theorem own_d9_24 : decode prog_50_method_2_code 24 = .ok (.iinc 3 1, 3) := by decide +kernel
theorem own_d9_27 : decode prog_50_method_2_code 27 = .ok (.goto (-25), 3) := by decide +kernel
theorem own_d9_261 : decode prog_50_method_2_code 261 = .ok (.iconst 1, 1) := by decide +kernel
theorem own_d9_262 : decode prog_50_method_2_code 262 = .ok (.ireturn, 1) := by decide +kernel
theorem own_d9_30 : decode prog_50_method_2_code 30 = .ok (.sipush 128, 3) := by decide +kernel
theorem own_d9_33 : decode prog_50_method_2_code 33 = .ok (.istore 6, 2) := by decide +kernel
theorem own_d9_35 : decode prog_50_method_2_code 35 = .ok (.sipush 191, 3) := by decide +kernel
theorem own_d9_38 : decode prog_50_method_2_code 38 = .ok (.istore 7, 2) := by decide +kernel
theorem own_d9_40 : decode prog_50_method_2_code 40 = .ok (.iload 4, 2) := by decide +kernel
theorem own_d9_42 : decode prog_50_method_2_code 42 = .ok (.sipush 194, 3) := by decide +kernel
theorem own_d9_45 : decode prog_50_method_2_code 45 = .ok (.if_icmp .lt 17, 3) := by decide +kernel
theorem own_d9_62 : decode prog_50_method_2_code 62 = .ok (.iload 4, 2) := by decide +kernel
theorem own_d9_64 : decode prog_50_method_2_code 64 = .ok (.sipush 224, 3) := by decide +kernel
theorem own_d9_67 : decode prog_50_method_2_code 67 = .ok (.if_icmp .lt 53, 3) := by decide +kernel
theorem own_d9_120 : decode prog_50_method_2_code 120 = .ok (.iload 4, 2) := by decide +kernel
theorem own_d9_122 : decode prog_50_method_2_code 122 = .ok (.sipush 240, 3) := by decide +kernel
theorem own_d9_125 : decode prog_50_method_2_code 125 = .ok (.if_icmp .lt 53, 3) := by decide +kernel
theorem own_d9_178 : decode prog_50_method_2_code 178 = .ok (.iconst 0, 1) := by decide +kernel
theorem own_d9_179 : decode prog_50_method_2_code 179 = .ok (.ireturn, 1) := by decide +kernel
theorem own_d9_48 : decode prog_50_method_2_code 48 = .ok (.iload 4, 2) := by decide +kernel
theorem own_d9_50 : decode prog_50_method_2_code 50 = .ok (.sipush 223, 3) := by decide +kernel
theorem own_d9_53 : decode prog_50_method_2_code 53 = .ok (.if_icmp .gt 9, 3) := by decide +kernel
theorem own_d9_70 : decode prog_50_method_2_code 70 = .ok (.iload 4, 2) := by decide +kernel
theorem own_d9_72 : decode prog_50_method_2_code 72 = .ok (.sipush 239, 3) := by decide +kernel
theorem own_d9_75 : decode prog_50_method_2_code 75 = .ok (.if_icmp .gt 45, 3) := by decide +kernel
theorem own_d9_128 : decode prog_50_method_2_code 128 = .ok (.iload 4, 2) := by decide +kernel
theorem own_d9_130 : decode prog_50_method_2_code 130 = .ok (.sipush 244, 3) := by decide +kernel
theorem own_d9_133 : decode prog_50_method_2_code 133 = .ok (.if_icmp .gt 45, 3) := by decide +kernel
theorem own_d9_136 : decode prog_50_method_2_code 136 = .ok (.iconst 4, 1) := by decide +kernel
theorem own_d9_137 : decode prog_50_method_2_code 137 = .ok (.istore 5, 2) := by decide +kernel
theorem own_d9_139 : decode prog_50_method_2_code 139 = .ok (.iload 4, 2) := by decide +kernel
theorem own_d9_141 : decode prog_50_method_2_code 141 = .ok (.sipush 240, 3) := by decide +kernel
theorem own_d9_144 : decode prog_50_method_2_code 144 = .ok (.if_icmp .ne 9, 3) := by decide +kernel
theorem own_d9_147 : decode prog_50_method_2_code 147 = .ok (.sipush 144, 3) := by decide +kernel
theorem own_d9_150 : decode prog_50_method_2_code 150 = .ok (.goto 5, 3) := by decide +kernel
theorem own_d9_155 : decode prog_50_method_2_code 155 = .ok (.istore 6, 2) := by decide +kernel
theorem own_d9_157 : decode prog_50_method_2_code 157 = .ok (.iload 4, 2) := by decide +kernel
theorem own_d9_159 : decode prog_50_method_2_code 159 = .ok (.sipush 244, 3) := by decide +kernel
theorem own_d9_162 : decode prog_50_method_2_code 162 = .ok (.if_icmp .ne 9, 3) := by decide +kernel
theorem own_d9_171 : decode prog_50_method_2_code 171 = .ok (.iload 7, 2) := by decide +kernel
theorem own_d9_173 : decode prog_50_method_2_code 173 = .ok (.istore 7, 2) := by decide +kernel
theorem own_d9_175 : decode prog_50_method_2_code 175 = .ok (.goto 5, 3) := by decide +kernel
theorem own_d9_180 : decode prog_50_method_2_code 180 = .ok (.iload_n 2, 1) := by decide +kernel
theorem own_d9_181 : decode prog_50_method_2_code 181 = .ok (.iload_n 3, 1) := by decide +kernel
theorem own_d9_182 : decode prog_50_method_2_code 182 = .ok (.isub, 1) := by decide +kernel
theorem own_d9_183 : decode prog_50_method_2_code 183 = .ok (.iload 5, 2) := by decide +kernel
theorem own_d9_185 : decode prog_50_method_2_code 185 = .ok (.if_icmp .ge 5, 3) := by decide +kernel
theorem own_d9_188 : decode prog_50_method_2_code 188 = .ok (.iconst 0, 1) := by decide +kernel
theorem own_d9_189 : decode prog_50_method_2_code 189 = .ok (.ireturn, 1) := by decide +kernel
theorem own_d9_153 : decode prog_50_method_2_code 153 = .ok (.iload 6, 2) := by decide +kernel
theorem own_d9_165 : decode prog_50_method_2_code 165 = .ok (.sipush 143, 3) := by decide +kernel
theorem own_d9_168 : decode prog_50_method_2_code 168 = .ok (.goto 5, 3) := by decide +kernel
theorem own_d9_78 : decode prog_50_method_2_code 78 = .ok (.iconst 3, 1) := by decide +kernel
theorem own_d9_79 : decode prog_50_method_2_code 79 = .ok (.istore 5, 2) := by decide +kernel
theorem own_d9_81 : decode prog_50_method_2_code 81 = .ok (.iload 4, 2) := by decide +kernel
theorem own_d9_83 : decode prog_50_method_2_code 83 = .ok (.sipush 224, 3) := by decide +kernel
theorem own_d9_86 : decode prog_50_method_2_code 86 = .ok (.if_icmp .ne 9, 3) := by decide +kernel
theorem own_d9_89 : decode prog_50_method_2_code 89 = .ok (.sipush 160, 3) := by decide +kernel
theorem own_d9_92 : decode prog_50_method_2_code 92 = .ok (.goto 5, 3) := by decide +kernel
theorem own_d9_97 : decode prog_50_method_2_code 97 = .ok (.istore 6, 2) := by decide +kernel
theorem own_d9_99 : decode prog_50_method_2_code 99 = .ok (.iload 4, 2) := by decide +kernel
theorem own_d9_101 : decode prog_50_method_2_code 101 = .ok (.sipush 237, 3) := by decide +kernel
theorem own_d9_104 : decode prog_50_method_2_code 104 = .ok (.if_icmp .ne 9, 3) := by decide +kernel
theorem own_d9_113 : decode prog_50_method_2_code 113 = .ok (.iload 7, 2) := by decide +kernel
theorem own_d9_115 : decode prog_50_method_2_code 115 = .ok (.istore 7, 2) := by decide +kernel
theorem own_d9_117 : decode prog_50_method_2_code 117 = .ok (.goto 63, 3) := by decide +kernel
theorem own_d9_95 : decode prog_50_method_2_code 95 = .ok (.iload 6, 2) := by decide +kernel
theorem own_d9_107 : decode prog_50_method_2_code 107 = .ok (.sipush 159, 3) := by decide +kernel
theorem own_d9_110 : decode prog_50_method_2_code 110 = .ok (.goto 5, 3) := by decide +kernel
theorem own_d9_56 : decode prog_50_method_2_code 56 = .ok (.iconst 2, 1) := by decide +kernel
theorem own_d9_57 : decode prog_50_method_2_code 57 = .ok (.istore 5, 2) := by decide +kernel
theorem own_d9_59 : decode prog_50_method_2_code 59 = .ok (.goto 121, 3) := by decide +kernel
theorem own_ef_own_rm9 (m : MethodId) (r0 : Addr) : entryFrame m #[(.ref r0), (.int (0 : Int32)), (.int (1 : Int32))] 10 = mkF m 0 #[.val (.ref r0), .val (.int (0 : Int32)), .val (.int (1 : Int32)), .unset, .unset, .unset, .unset, .unset, .unset, .unset] [] := by first | (simp [entryFrame, mkF, argsToLocals, Value.category]; done) | rfl
def own_Q_own_rm9 (Z : State) (w_ : Int32) (h0 : Heap) (n0 : Nat) (v : Option Value) (h : Heap) : Prop := v = some (.int (own_b (decide (0 ≤ w_.toInt)))) ∧ h0 = h
set_option maxRecDepth 65536 in
set_option maxHeartbeats 40000000 in
theorem own_rm9 (l : Launch) (Z : State) (a0 : Array Value) (hw : ∀ d ∈ tables_1, d.before a0 Z = true) (ws : List Jvm.Cond) (r0 : Addr) (hv : List Value) (w_ : Int32) (h0 : Heap) (n0 : Nat)  (A : own_A Z h0 r0 .byte hv) (hvl : hv.length = 64) (hw0 : hv[0]? = some (.int w_)) (hwr : -128 ≤ w_.toInt ∧ w_.toInt ≤ 127) :
    own_Con l Z (⟨"kombos/graph/Utf8", "isValid", "([BII)Z"⟩ : MethodName) prog_50_method_2_code 10 (some .boolean) ws ({ frames := 0, cells := 0, slots := 0, locals := 0 } : Room) #[(.ref r0), (.int (0 : Int32)), (.int (1 : Int32))] h0 n0 (own_Q_own_rm9 Z w_ h0 n0) := by
  refine own_body (plainFor_of_name own_pn1) ?_
  intro p e s m below meth c T0 hx hZ hby hml hown hnm hret hlk Y0
  replace hown : s.vm.findClass "kombos/graph/Utf8" = some m.cls := hown
  replace hnm : meth.name = "isValid" := hnm
  rw [own_ef_own_rm9 m r0]
  show own_Ends _ _ _ _ (T0.setTop (mkF m 0 #[.val (.ref r0), .val (.int (0 : Int32)), .val (.int (1 : Int32)), .unset, .unset, .unset, .unset, .unset, .unset, .unset] []))
  refine own_st (fun t_ => XS.iloadN (own_here Y0) hx rfl (hb hby own_d9_0) rfl) ?_
  show own_Ends _ _ _ _ (T0.setTop (mkF m 1 #[.val (.ref r0), .val (.int (0 : Int32)), .val (.int (1 : Int32)), .unset, .unset, .unset, .unset, .unset, .unset, .unset] [(.int (0 : Int32))]))
  refine own_st (fun t_ => XS.istoreN (own_here Y0) hx rfl (hb hby own_d9_1) rfl (l' := #[.val (.ref r0), .val (.int (0 : Int32)), .val (.int (1 : Int32)), .val (.int (0 : Int32)), .unset, .unset, .unset, .unset, .unset, .unset]) rfl) ?_
  show own_Ends _ _ _ _ (T0.setTop (mkF m 2 #[.val (.ref r0), .val (.int (0 : Int32)), .val (.int (1 : Int32)), .val (.int (0 : Int32)), .unset, .unset, .unset, .unset, .unset, .unset] []))
  refine own_st (fun t_ => XS.iloadN (own_here Y0) hx rfl (hb hby own_d9_2) rfl) ?_
  show own_Ends _ _ _ _ (T0.setTop (mkF m 3 #[.val (.ref r0), .val (.int (0 : Int32)), .val (.int (1 : Int32)), .val (.int (0 : Int32)), .unset, .unset, .unset, .unset, .unset, .unset] [(.int (0 : Int32))]))
  refine own_st (fun t_ => XS.iloadN (own_here Y0) hx rfl (hb hby own_d9_3) rfl) ?_
  show own_Ends _ _ _ _ (T0.setTop (mkF m 4 #[.val (.ref r0), .val (.int (0 : Int32)), .val (.int (1 : Int32)), .val (.int (0 : Int32)), .unset, .unset, .unset, .unset, .unset, .unset] [(.int (1 : Int32)), (.int (0 : Int32))]))
  refine own_st (fun t_ => XS.icmpNo (own_here Y0) hx rfl (hb hby own_d9_4) rfl (XT.ii_ge_f (by decide))) ?_
  show own_Ends _ _ _ _ (T0.setTop (mkF m 7 #[.val (.ref r0), .val (.int (0 : Int32)), .val (.int (1 : Int32)), .val (.int (0 : Int32)), .unset, .unset, .unset, .unset, .unset, .unset] []))
  refine own_st (fun t_ => XS.aloadN (own_here Y0) hx rfl (hb hby own_d9_7) rfl rfl) ?_
  show own_Ends _ _ _ _ (T0.setTop (mkF m 8 #[.val (.ref r0), .val (.int (0 : Int32)), .val (.int (1 : Int32)), .val (.int (0 : Int32)), .unset, .unset, .unset, .unset, .unset, .unset] [(.ref r0)]))
  refine own_st (fun t_ => XS.iloadN (own_here Y0) hx rfl (hb hby own_d9_8) rfl) ?_
  show own_Ends _ _ _ _ (T0.setTop (mkF m 9 #[.val (.ref r0), .val (.int (0 : Int32)), .val (.int (1 : Int32)), .val (.int (0 : Int32)), .unset, .unset, .unset, .unset, .unset, .unset] [(.int (0 : Int32)), (.ref r0)]))
  refine own_ldB Y0 hx hZ A (i := 0) (by decide) (by decide) (by rw [hvl]; decide) (v := (.int w_)) hw0 rfl rfl (hb hby own_d9_9) ?_
  show own_Ends _ _ _ _ (T0.setTop (mkF m 10 #[.val (.ref r0), .val (.int (0 : Int32)), .val (.int (1 : Int32)), .val (.int (0 : Int32)), .unset, .unset, .unset, .unset, .unset, .unset] [(.int w_)]))
  refine own_st (fun t_ => XS.sipush (own_here Y0) hx rfl (hb hby own_d9_10) ) ?_
  show own_Ends _ _ _ _ (T0.setTop (mkF m 13 #[.val (.ref r0), .val (.int (0 : Int32)), .val (.int (1 : Int32)), .val (.int (0 : Int32)), .unset, .unset, .unset, .unset, .unset, .unset] [(.int (255 : Int32)), (.int w_)]))
  refine own_st (fun t_ => XS.iand (own_here Y0) hx rfl (hb hby own_d9_13) rfl) ?_
  show own_Ends _ _ _ _ (T0.setTop (mkF m 14 #[.val (.ref r0), .val (.int (0 : Int32)), .val (.int (1 : Int32)), .val (.int (0 : Int32)), .unset, .unset, .unset, .unset, .unset, .unset] [(.int (w_ &&& (255 : Int32)))]))
  refine own_st (fun t_ => XS.istore (own_here Y0) hx rfl (hb hby own_d9_14) rfl (l' := #[.val (.ref r0), .val (.int (0 : Int32)), .val (.int (1 : Int32)), .val (.int (0 : Int32)), .val (.int (w_ &&& (255 : Int32))), .unset, .unset, .unset, .unset, .unset]) rfl) ?_
  show own_Ends _ _ _ _ (T0.setTop (mkF m 16 #[.val (.ref r0), .val (.int (0 : Int32)), .val (.int (1 : Int32)), .val (.int (0 : Int32)), .val (.int (w_ &&& (255 : Int32))), .unset, .unset, .unset, .unset, .unset] []))
  generalize ha : (w_ &&& (255 : Int32)) = a
  have hra : 0 ≤ a.toInt ∧ a.toInt ≤ 255 := ha ▸ c_and w_ 255 (by decide)
  refine own_st (fun t_ => XS.iload (own_here Y0) hx rfl (hb hby own_d9_16) rfl) ?_
  show own_Ends _ _ _ _ (T0.setTop (mkF m 18 #[.val (.ref r0), .val (.int (0 : Int32)), .val (.int (1 : Int32)), .val (.int (0 : Int32)), .val (.int a), .unset, .unset, .unset, .unset, .unset] [(.int a)]))
  refine own_st (fun t_ => XS.sipush (own_here Y0) hx rfl (hb hby own_d9_18) ) ?_
  show own_Ends _ _ _ _ (T0.setTop (mkF m 21 #[.val (.ref r0), .val (.int (0 : Int32)), .val (.int (1 : Int32)), .val (.int (0 : Int32)), .val (.int a), .unset, .unset, .unset, .unset, .unset] [(.int (128 : Int32)), (.int a)]))
  by_cases c21_692 : a < (128 : Int32)
  ·
   refine own_st (fun t_ => XS.icmpNo (own_here Y0) hx rfl (hb hby own_d9_21) rfl (XT.ii_ge_f c21_692)) ?_
   show own_Ends _ _ _ _ (T0.setTop (mkF m 24 #[.val (.ref r0), .val (.int (0 : Int32)), .val (.int (1 : Int32)), .val (.int (0 : Int32)), .val (.int a), .unset, .unset, .unset, .unset, .unset] []))
   refine own_st (fun t_ => XS.iinc (own_here Y0) hx rfl (hb hby own_d9_24) rfl (l' := #[.val (.ref r0), .val (.int (0 : Int32)), .val (.int (1 : Int32)), .val (.int (1 : Int32)), .val (.int a), .unset, .unset, .unset, .unset, .unset]) rfl) ?_
   show own_Ends _ _ _ _ (T0.setTop (mkF m 27 #[.val (.ref r0), .val (.int (0 : Int32)), .val (.int (1 : Int32)), .val (.int (1 : Int32)), .val (.int a), .unset, .unset, .unset, .unset, .unset] []))
   refine own_st (fun t_ => XS.goto (own_here Y0) hx rfl (pc0 := 27) (pc' := 2) rfl (hb hby own_d9_27) (by decide) (by decide)) ?_
   show own_Ends _ _ _ _ (T0.setTop (mkF m 2 #[.val (.ref r0), .val (.int (0 : Int32)), .val (.int (1 : Int32)), .val (.int (1 : Int32)), .val (.int a), .unset, .unset, .unset, .unset, .unset] []))
   refine own_st (fun t_ => XS.iloadN (own_here Y0) hx rfl (hb hby own_d9_2) rfl) ?_
   show own_Ends _ _ _ _ (T0.setTop (mkF m 3 #[.val (.ref r0), .val (.int (0 : Int32)), .val (.int (1 : Int32)), .val (.int (1 : Int32)), .val (.int a), .unset, .unset, .unset, .unset, .unset] [(.int (1 : Int32))]))
   refine own_st (fun t_ => XS.iloadN (own_here Y0) hx rfl (hb hby own_d9_3) rfl) ?_
   show own_Ends _ _ _ _ (T0.setTop (mkF m 4 #[.val (.ref r0), .val (.int (0 : Int32)), .val (.int (1 : Int32)), .val (.int (1 : Int32)), .val (.int a), .unset, .unset, .unset, .unset, .unset] [(.int (1 : Int32)), (.int (1 : Int32))]))
   refine own_st (fun t_ => XS.icmpYes (own_here Y0) hx rfl (pc0 := 4) (pc' := 261) rfl (hb hby own_d9_4) rfl (XT.ii_ge_t (by decide)) (by decide) (by decide)) ?_
   show own_Ends _ _ _ _ (T0.setTop (mkF m 261 #[.val (.ref r0), .val (.int (0 : Int32)), .val (.int (1 : Int32)), .val (.int (1 : Int32)), .val (.int a), .unset, .unset, .unset, .unset, .unset] []))
   refine own_st (fun t_ => XS.iconst (own_here Y0) hx rfl (hb hby own_d9_261) ) ?_
   show own_Ends _ _ _ _ (T0.setTop (mkF m 262 #[.val (.ref r0), .val (.int (0 : Int32)), .val (.int (1 : Int32)), .val (.int (1 : Int32)), .val (.int a), .unset, .unset, .unset, .unset, .unset] [(.int (1 : Int32))]))
   refine own_retN Y0 hx hlk (t := .boolean) hret (by simp) (hb hby own_d9_262) (by decide) (by decide) ?_
   refine ⟨?_, rfl⟩
   have ua := own_u8 w_; rw [ha] at ua
   have e128 : (128 : Int32).toInt = 128 := rfl
   have q := c21_692; rw [own_lt] at q
   have : decide (0 ≤ w_.toInt) = true := by simp only [decide_eq_true_eq]; omega
   rw [this]; rfl
  ·
   refine own_st (fun t_ => XS.icmpYes (own_here Y0) hx rfl (pc0 := 21) (pc' := 30) rfl (hb hby own_d9_21) rfl (XT.ii_ge_t c21_692) (by decide) (by decide)) ?_
   show own_Ends _ _ _ _ (T0.setTop (mkF m 30 #[.val (.ref r0), .val (.int (0 : Int32)), .val (.int (1 : Int32)), .val (.int (0 : Int32)), .val (.int a), .unset, .unset, .unset, .unset, .unset] []))
   refine own_st (fun t_ => XS.sipush (own_here Y0) hx rfl (hb hby own_d9_30) ) ?_
   show own_Ends _ _ _ _ (T0.setTop (mkF m 33 #[.val (.ref r0), .val (.int (0 : Int32)), .val (.int (1 : Int32)), .val (.int (0 : Int32)), .val (.int a), .unset, .unset, .unset, .unset, .unset] [(.int (128 : Int32))]))
   refine own_st (fun t_ => XS.istore (own_here Y0) hx rfl (hb hby own_d9_33) rfl (l' := #[.val (.ref r0), .val (.int (0 : Int32)), .val (.int (1 : Int32)), .val (.int (0 : Int32)), .val (.int a), .unset, .val (.int (128 : Int32)), .unset, .unset, .unset]) rfl) ?_
   show own_Ends _ _ _ _ (T0.setTop (mkF m 35 #[.val (.ref r0), .val (.int (0 : Int32)), .val (.int (1 : Int32)), .val (.int (0 : Int32)), .val (.int a), .unset, .val (.int (128 : Int32)), .unset, .unset, .unset] []))
   refine own_st (fun t_ => XS.sipush (own_here Y0) hx rfl (hb hby own_d9_35) ) ?_
   show own_Ends _ _ _ _ (T0.setTop (mkF m 38 #[.val (.ref r0), .val (.int (0 : Int32)), .val (.int (1 : Int32)), .val (.int (0 : Int32)), .val (.int a), .unset, .val (.int (128 : Int32)), .unset, .unset, .unset] [(.int (191 : Int32))]))
   refine own_st (fun t_ => XS.istore (own_here Y0) hx rfl (hb hby own_d9_38) rfl (l' := #[.val (.ref r0), .val (.int (0 : Int32)), .val (.int (1 : Int32)), .val (.int (0 : Int32)), .val (.int a), .unset, .val (.int (128 : Int32)), .val (.int (191 : Int32)), .unset, .unset]) rfl) ?_
   show own_Ends _ _ _ _ (T0.setTop (mkF m 40 #[.val (.ref r0), .val (.int (0 : Int32)), .val (.int (1 : Int32)), .val (.int (0 : Int32)), .val (.int a), .unset, .val (.int (128 : Int32)), .val (.int (191 : Int32)), .unset, .unset] []))
   refine own_st (fun t_ => XS.iload (own_here Y0) hx rfl (hb hby own_d9_40) rfl) ?_
   show own_Ends _ _ _ _ (T0.setTop (mkF m 42 #[.val (.ref r0), .val (.int (0 : Int32)), .val (.int (1 : Int32)), .val (.int (0 : Int32)), .val (.int a), .unset, .val (.int (128 : Int32)), .val (.int (191 : Int32)), .unset, .unset] [(.int a)]))
   refine own_st (fun t_ => XS.sipush (own_here Y0) hx rfl (hb hby own_d9_42) ) ?_
   show own_Ends _ _ _ _ (T0.setTop (mkF m 45 #[.val (.ref r0), .val (.int (0 : Int32)), .val (.int (1 : Int32)), .val (.int (0 : Int32)), .val (.int a), .unset, .val (.int (128 : Int32)), .val (.int (191 : Int32)), .unset, .unset] [(.int (194 : Int32)), (.int a)]))
   by_cases c45_693 : a < (194 : Int32)
   ·
    refine own_st (fun t_ => XS.icmpYes (own_here Y0) hx rfl (pc0 := 45) (pc' := 62) rfl (hb hby own_d9_45) rfl (XT.ii_lt_t c45_693) (by decide) (by decide)) ?_
    show own_Ends _ _ _ _ (T0.setTop (mkF m 62 #[.val (.ref r0), .val (.int (0 : Int32)), .val (.int (1 : Int32)), .val (.int (0 : Int32)), .val (.int a), .unset, .val (.int (128 : Int32)), .val (.int (191 : Int32)), .unset, .unset] []))
    refine own_st (fun t_ => XS.iload (own_here Y0) hx rfl (hb hby own_d9_62) rfl) ?_
    show own_Ends _ _ _ _ (T0.setTop (mkF m 64 #[.val (.ref r0), .val (.int (0 : Int32)), .val (.int (1 : Int32)), .val (.int (0 : Int32)), .val (.int a), .unset, .val (.int (128 : Int32)), .val (.int (191 : Int32)), .unset, .unset] [(.int a)]))
    refine own_st (fun t_ => XS.sipush (own_here Y0) hx rfl (hb hby own_d9_64) ) ?_
    show own_Ends _ _ _ _ (T0.setTop (mkF m 67 #[.val (.ref r0), .val (.int (0 : Int32)), .val (.int (1 : Int32)), .val (.int (0 : Int32)), .val (.int a), .unset, .val (.int (128 : Int32)), .val (.int (191 : Int32)), .unset, .unset] [(.int (224 : Int32)), (.int a)]))
    refine own_st (fun t_ => XS.icmpYes (own_here Y0) hx rfl (pc0 := 67) (pc' := 120) rfl (hb hby own_d9_67) rfl (XT.ii_lt_t (by have q0 := c21_692; have q1 := c45_693; have e0 : (128 : Int32).toInt = 128 := rfl; have e1 : (194 : Int32).toInt = 194 := rfl; have e2 : (224 : Int32).toInt = 224 := rfl; have rr := hra; simp only [own_lt, own_eq] at q0 q1 ⊢; omega)) (by decide) (by decide)) ?_
    show own_Ends _ _ _ _ (T0.setTop (mkF m 120 #[.val (.ref r0), .val (.int (0 : Int32)), .val (.int (1 : Int32)), .val (.int (0 : Int32)), .val (.int a), .unset, .val (.int (128 : Int32)), .val (.int (191 : Int32)), .unset, .unset] []))
    refine own_st (fun t_ => XS.iload (own_here Y0) hx rfl (hb hby own_d9_120) rfl) ?_
    show own_Ends _ _ _ _ (T0.setTop (mkF m 122 #[.val (.ref r0), .val (.int (0 : Int32)), .val (.int (1 : Int32)), .val (.int (0 : Int32)), .val (.int a), .unset, .val (.int (128 : Int32)), .val (.int (191 : Int32)), .unset, .unset] [(.int a)]))
    refine own_st (fun t_ => XS.sipush (own_here Y0) hx rfl (hb hby own_d9_122) ) ?_
    show own_Ends _ _ _ _ (T0.setTop (mkF m 125 #[.val (.ref r0), .val (.int (0 : Int32)), .val (.int (1 : Int32)), .val (.int (0 : Int32)), .val (.int a), .unset, .val (.int (128 : Int32)), .val (.int (191 : Int32)), .unset, .unset] [(.int (240 : Int32)), (.int a)]))
    refine own_st (fun t_ => XS.icmpYes (own_here Y0) hx rfl (pc0 := 125) (pc' := 178) rfl (hb hby own_d9_125) rfl (XT.ii_lt_t (by have q0 := c21_692; have q1 := c45_693; have e0 : (128 : Int32).toInt = 128 := rfl; have e1 : (194 : Int32).toInt = 194 := rfl; have e2 : (240 : Int32).toInt = 240 := rfl; have rr := hra; simp only [own_lt, own_eq] at q0 q1 ⊢; omega)) (by decide) (by decide)) ?_
    show own_Ends _ _ _ _ (T0.setTop (mkF m 178 #[.val (.ref r0), .val (.int (0 : Int32)), .val (.int (1 : Int32)), .val (.int (0 : Int32)), .val (.int a), .unset, .val (.int (128 : Int32)), .val (.int (191 : Int32)), .unset, .unset] []))
    refine own_st (fun t_ => XS.iconst (own_here Y0) hx rfl (hb hby own_d9_178) ) ?_
    show own_Ends _ _ _ _ (T0.setTop (mkF m 179 #[.val (.ref r0), .val (.int (0 : Int32)), .val (.int (1 : Int32)), .val (.int (0 : Int32)), .val (.int a), .unset, .val (.int (128 : Int32)), .val (.int (191 : Int32)), .unset, .unset] [(.int (0 : Int32))]))
    refine own_retN Y0 hx hlk (t := .boolean) hret (by simp) (hb hby own_d9_179) (by decide) (by decide) ?_
    refine ⟨?_, rfl⟩
    have ua := own_u8 w_; rw [ha] at ua
    have e128 : (128 : Int32).toInt = 128 := rfl
    have q := c21_692; rw [own_lt] at q
    have : decide (0 ≤ w_.toInt) = false := by simp only [decide_eq_false_iff_not]; omega
    rw [this]; rfl
   ·
    refine own_st (fun t_ => XS.icmpNo (own_here Y0) hx rfl (hb hby own_d9_45) rfl (XT.ii_lt_f c45_693)) ?_
    show own_Ends _ _ _ _ (T0.setTop (mkF m 48 #[.val (.ref r0), .val (.int (0 : Int32)), .val (.int (1 : Int32)), .val (.int (0 : Int32)), .val (.int a), .unset, .val (.int (128 : Int32)), .val (.int (191 : Int32)), .unset, .unset] []))
    refine own_st (fun t_ => XS.iload (own_here Y0) hx rfl (hb hby own_d9_48) rfl) ?_
    show own_Ends _ _ _ _ (T0.setTop (mkF m 50 #[.val (.ref r0), .val (.int (0 : Int32)), .val (.int (1 : Int32)), .val (.int (0 : Int32)), .val (.int a), .unset, .val (.int (128 : Int32)), .val (.int (191 : Int32)), .unset, .unset] [(.int a)]))
    refine own_st (fun t_ => XS.sipush (own_here Y0) hx rfl (hb hby own_d9_50) ) ?_
    show own_Ends _ _ _ _ (T0.setTop (mkF m 53 #[.val (.ref r0), .val (.int (0 : Int32)), .val (.int (1 : Int32)), .val (.int (0 : Int32)), .val (.int a), .unset, .val (.int (128 : Int32)), .val (.int (191 : Int32)), .unset, .unset] [(.int (223 : Int32)), (.int a)]))
    by_cases c53_694 : (223 : Int32) < a
    ·
     refine own_st (fun t_ => XS.icmpYes (own_here Y0) hx rfl (pc0 := 53) (pc' := 62) rfl (hb hby own_d9_53) rfl (XT.ii_gt_t c53_694) (by decide) (by decide)) ?_
     show own_Ends _ _ _ _ (T0.setTop (mkF m 62 #[.val (.ref r0), .val (.int (0 : Int32)), .val (.int (1 : Int32)), .val (.int (0 : Int32)), .val (.int a), .unset, .val (.int (128 : Int32)), .val (.int (191 : Int32)), .unset, .unset] []))
     refine own_st (fun t_ => XS.iload (own_here Y0) hx rfl (hb hby own_d9_62) rfl) ?_
     show own_Ends _ _ _ _ (T0.setTop (mkF m 64 #[.val (.ref r0), .val (.int (0 : Int32)), .val (.int (1 : Int32)), .val (.int (0 : Int32)), .val (.int a), .unset, .val (.int (128 : Int32)), .val (.int (191 : Int32)), .unset, .unset] [(.int a)]))
     refine own_st (fun t_ => XS.sipush (own_here Y0) hx rfl (hb hby own_d9_64) ) ?_
     show own_Ends _ _ _ _ (T0.setTop (mkF m 67 #[.val (.ref r0), .val (.int (0 : Int32)), .val (.int (1 : Int32)), .val (.int (0 : Int32)), .val (.int a), .unset, .val (.int (128 : Int32)), .val (.int (191 : Int32)), .unset, .unset] [(.int (224 : Int32)), (.int a)]))
     refine own_st (fun t_ => XS.icmpNo (own_here Y0) hx rfl (hb hby own_d9_67) rfl (XT.ii_lt_f (by have q0 := c21_692; have q1 := c45_693; have q2 := c53_694; have e0 : (128 : Int32).toInt = 128 := rfl; have e1 : (194 : Int32).toInt = 194 := rfl; have e2 : (223 : Int32).toInt = 223 := rfl; have e3 : (224 : Int32).toInt = 224 := rfl; have rr := hra; simp only [own_lt, own_eq] at q0 q1 q2 ⊢; omega))) ?_
     show own_Ends _ _ _ _ (T0.setTop (mkF m 70 #[.val (.ref r0), .val (.int (0 : Int32)), .val (.int (1 : Int32)), .val (.int (0 : Int32)), .val (.int a), .unset, .val (.int (128 : Int32)), .val (.int (191 : Int32)), .unset, .unset] []))
     refine own_st (fun t_ => XS.iload (own_here Y0) hx rfl (hb hby own_d9_70) rfl) ?_
     show own_Ends _ _ _ _ (T0.setTop (mkF m 72 #[.val (.ref r0), .val (.int (0 : Int32)), .val (.int (1 : Int32)), .val (.int (0 : Int32)), .val (.int a), .unset, .val (.int (128 : Int32)), .val (.int (191 : Int32)), .unset, .unset] [(.int a)]))
     refine own_st (fun t_ => XS.sipush (own_here Y0) hx rfl (hb hby own_d9_72) ) ?_
     show own_Ends _ _ _ _ (T0.setTop (mkF m 75 #[.val (.ref r0), .val (.int (0 : Int32)), .val (.int (1 : Int32)), .val (.int (0 : Int32)), .val (.int a), .unset, .val (.int (128 : Int32)), .val (.int (191 : Int32)), .unset, .unset] [(.int (239 : Int32)), (.int a)]))
     by_cases c75_695 : (239 : Int32) < a
     ·
      refine own_st (fun t_ => XS.icmpYes (own_here Y0) hx rfl (pc0 := 75) (pc' := 120) rfl (hb hby own_d9_75) rfl (XT.ii_gt_t c75_695) (by decide) (by decide)) ?_
      show own_Ends _ _ _ _ (T0.setTop (mkF m 120 #[.val (.ref r0), .val (.int (0 : Int32)), .val (.int (1 : Int32)), .val (.int (0 : Int32)), .val (.int a), .unset, .val (.int (128 : Int32)), .val (.int (191 : Int32)), .unset, .unset] []))
      refine own_st (fun t_ => XS.iload (own_here Y0) hx rfl (hb hby own_d9_120) rfl) ?_
      show own_Ends _ _ _ _ (T0.setTop (mkF m 122 #[.val (.ref r0), .val (.int (0 : Int32)), .val (.int (1 : Int32)), .val (.int (0 : Int32)), .val (.int a), .unset, .val (.int (128 : Int32)), .val (.int (191 : Int32)), .unset, .unset] [(.int a)]))
      refine own_st (fun t_ => XS.sipush (own_here Y0) hx rfl (hb hby own_d9_122) ) ?_
      show own_Ends _ _ _ _ (T0.setTop (mkF m 125 #[.val (.ref r0), .val (.int (0 : Int32)), .val (.int (1 : Int32)), .val (.int (0 : Int32)), .val (.int a), .unset, .val (.int (128 : Int32)), .val (.int (191 : Int32)), .unset, .unset] [(.int (240 : Int32)), (.int a)]))
      refine own_st (fun t_ => XS.icmpNo (own_here Y0) hx rfl (hb hby own_d9_125) rfl (XT.ii_lt_f (by have q0 := c21_692; have q1 := c45_693; have q2 := c53_694; have q3 := c75_695; have e0 : (128 : Int32).toInt = 128 := rfl; have e1 : (194 : Int32).toInt = 194 := rfl; have e2 : (223 : Int32).toInt = 223 := rfl; have e3 : (239 : Int32).toInt = 239 := rfl; have e4 : (240 : Int32).toInt = 240 := rfl; have rr := hra; simp only [own_lt, own_eq] at q0 q1 q2 q3 ⊢; omega))) ?_
      show own_Ends _ _ _ _ (T0.setTop (mkF m 128 #[.val (.ref r0), .val (.int (0 : Int32)), .val (.int (1 : Int32)), .val (.int (0 : Int32)), .val (.int a), .unset, .val (.int (128 : Int32)), .val (.int (191 : Int32)), .unset, .unset] []))
      refine own_st (fun t_ => XS.iload (own_here Y0) hx rfl (hb hby own_d9_128) rfl) ?_
      show own_Ends _ _ _ _ (T0.setTop (mkF m 130 #[.val (.ref r0), .val (.int (0 : Int32)), .val (.int (1 : Int32)), .val (.int (0 : Int32)), .val (.int a), .unset, .val (.int (128 : Int32)), .val (.int (191 : Int32)), .unset, .unset] [(.int a)]))
      refine own_st (fun t_ => XS.sipush (own_here Y0) hx rfl (hb hby own_d9_130) ) ?_
      show own_Ends _ _ _ _ (T0.setTop (mkF m 133 #[.val (.ref r0), .val (.int (0 : Int32)), .val (.int (1 : Int32)), .val (.int (0 : Int32)), .val (.int a), .unset, .val (.int (128 : Int32)), .val (.int (191 : Int32)), .unset, .unset] [(.int (244 : Int32)), (.int a)]))
      by_cases c133_696 : (244 : Int32) < a
      ·
       refine own_st (fun t_ => XS.icmpYes (own_here Y0) hx rfl (pc0 := 133) (pc' := 178) rfl (hb hby own_d9_133) rfl (XT.ii_gt_t c133_696) (by decide) (by decide)) ?_
       show own_Ends _ _ _ _ (T0.setTop (mkF m 178 #[.val (.ref r0), .val (.int (0 : Int32)), .val (.int (1 : Int32)), .val (.int (0 : Int32)), .val (.int a), .unset, .val (.int (128 : Int32)), .val (.int (191 : Int32)), .unset, .unset] []))
       refine own_st (fun t_ => XS.iconst (own_here Y0) hx rfl (hb hby own_d9_178) ) ?_
       show own_Ends _ _ _ _ (T0.setTop (mkF m 179 #[.val (.ref r0), .val (.int (0 : Int32)), .val (.int (1 : Int32)), .val (.int (0 : Int32)), .val (.int a), .unset, .val (.int (128 : Int32)), .val (.int (191 : Int32)), .unset, .unset] [(.int (0 : Int32))]))
       refine own_retN Y0 hx hlk (t := .boolean) hret (by simp) (hb hby own_d9_179) (by decide) (by decide) ?_
       refine ⟨?_, rfl⟩
       have ua := own_u8 w_; rw [ha] at ua
       have e128 : (128 : Int32).toInt = 128 := rfl
       have q := c21_692; rw [own_lt] at q
       have : decide (0 ≤ w_.toInt) = false := by simp only [decide_eq_false_iff_not]; omega
       rw [this]; rfl
      ·
       refine own_st (fun t_ => XS.icmpNo (own_here Y0) hx rfl (hb hby own_d9_133) rfl (XT.ii_gt_f c133_696)) ?_
       show own_Ends _ _ _ _ (T0.setTop (mkF m 136 #[.val (.ref r0), .val (.int (0 : Int32)), .val (.int (1 : Int32)), .val (.int (0 : Int32)), .val (.int a), .unset, .val (.int (128 : Int32)), .val (.int (191 : Int32)), .unset, .unset] []))
       refine own_st (fun t_ => XS.iconst (own_here Y0) hx rfl (hb hby own_d9_136) ) ?_
       show own_Ends _ _ _ _ (T0.setTop (mkF m 137 #[.val (.ref r0), .val (.int (0 : Int32)), .val (.int (1 : Int32)), .val (.int (0 : Int32)), .val (.int a), .unset, .val (.int (128 : Int32)), .val (.int (191 : Int32)), .unset, .unset] [(.int (4 : Int32))]))
       refine own_st (fun t_ => XS.istore (own_here Y0) hx rfl (hb hby own_d9_137) rfl (l' := #[.val (.ref r0), .val (.int (0 : Int32)), .val (.int (1 : Int32)), .val (.int (0 : Int32)), .val (.int a), .val (.int (4 : Int32)), .val (.int (128 : Int32)), .val (.int (191 : Int32)), .unset, .unset]) rfl) ?_
       show own_Ends _ _ _ _ (T0.setTop (mkF m 139 #[.val (.ref r0), .val (.int (0 : Int32)), .val (.int (1 : Int32)), .val (.int (0 : Int32)), .val (.int a), .val (.int (4 : Int32)), .val (.int (128 : Int32)), .val (.int (191 : Int32)), .unset, .unset] []))
       refine own_st (fun t_ => XS.iload (own_here Y0) hx rfl (hb hby own_d9_139) rfl) ?_
       show own_Ends _ _ _ _ (T0.setTop (mkF m 141 #[.val (.ref r0), .val (.int (0 : Int32)), .val (.int (1 : Int32)), .val (.int (0 : Int32)), .val (.int a), .val (.int (4 : Int32)), .val (.int (128 : Int32)), .val (.int (191 : Int32)), .unset, .unset] [(.int a)]))
       refine own_st (fun t_ => XS.sipush (own_here Y0) hx rfl (hb hby own_d9_141) ) ?_
       show own_Ends _ _ _ _ (T0.setTop (mkF m 144 #[.val (.ref r0), .val (.int (0 : Int32)), .val (.int (1 : Int32)), .val (.int (0 : Int32)), .val (.int a), .val (.int (4 : Int32)), .val (.int (128 : Int32)), .val (.int (191 : Int32)), .unset, .unset] [(.int (240 : Int32)), (.int a)]))
       by_cases c144_697 : a = (240 : Int32)
       ·
        refine own_st (fun t_ => XS.icmpNo (own_here Y0) hx rfl (hb hby own_d9_144) rfl (XT.ii_ne_f c144_697)) ?_
        show own_Ends _ _ _ _ (T0.setTop (mkF m 147 #[.val (.ref r0), .val (.int (0 : Int32)), .val (.int (1 : Int32)), .val (.int (0 : Int32)), .val (.int a), .val (.int (4 : Int32)), .val (.int (128 : Int32)), .val (.int (191 : Int32)), .unset, .unset] []))
        refine own_st (fun t_ => XS.sipush (own_here Y0) hx rfl (hb hby own_d9_147) ) ?_
        show own_Ends _ _ _ _ (T0.setTop (mkF m 150 #[.val (.ref r0), .val (.int (0 : Int32)), .val (.int (1 : Int32)), .val (.int (0 : Int32)), .val (.int a), .val (.int (4 : Int32)), .val (.int (128 : Int32)), .val (.int (191 : Int32)), .unset, .unset] [(.int (144 : Int32))]))
        refine own_st (fun t_ => XS.goto (own_here Y0) hx rfl (pc0 := 150) (pc' := 155) rfl (hb hby own_d9_150) (by decide) (by decide)) ?_
        show own_Ends _ _ _ _ (T0.setTop (mkF m 155 #[.val (.ref r0), .val (.int (0 : Int32)), .val (.int (1 : Int32)), .val (.int (0 : Int32)), .val (.int a), .val (.int (4 : Int32)), .val (.int (128 : Int32)), .val (.int (191 : Int32)), .unset, .unset] [(.int (144 : Int32))]))
        refine own_st (fun t_ => XS.istore (own_here Y0) hx rfl (hb hby own_d9_155) rfl (l' := #[.val (.ref r0), .val (.int (0 : Int32)), .val (.int (1 : Int32)), .val (.int (0 : Int32)), .val (.int a), .val (.int (4 : Int32)), .val (.int (144 : Int32)), .val (.int (191 : Int32)), .unset, .unset]) rfl) ?_
        show own_Ends _ _ _ _ (T0.setTop (mkF m 157 #[.val (.ref r0), .val (.int (0 : Int32)), .val (.int (1 : Int32)), .val (.int (0 : Int32)), .val (.int a), .val (.int (4 : Int32)), .val (.int (144 : Int32)), .val (.int (191 : Int32)), .unset, .unset] []))
        refine own_st (fun t_ => XS.iload (own_here Y0) hx rfl (hb hby own_d9_157) rfl) ?_
        show own_Ends _ _ _ _ (T0.setTop (mkF m 159 #[.val (.ref r0), .val (.int (0 : Int32)), .val (.int (1 : Int32)), .val (.int (0 : Int32)), .val (.int a), .val (.int (4 : Int32)), .val (.int (144 : Int32)), .val (.int (191 : Int32)), .unset, .unset] [(.int a)]))
        refine own_st (fun t_ => XS.sipush (own_here Y0) hx rfl (hb hby own_d9_159) ) ?_
        show own_Ends _ _ _ _ (T0.setTop (mkF m 162 #[.val (.ref r0), .val (.int (0 : Int32)), .val (.int (1 : Int32)), .val (.int (0 : Int32)), .val (.int a), .val (.int (4 : Int32)), .val (.int (144 : Int32)), .val (.int (191 : Int32)), .unset, .unset] [(.int (244 : Int32)), (.int a)]))
        refine own_st (fun t_ => XS.icmpYes (own_here Y0) hx rfl (pc0 := 162) (pc' := 171) rfl (hb hby own_d9_162) rfl (XT.ii_ne_t (by have q0 := c21_692; have q1 := c45_693; have q2 := c53_694; have q3 := c75_695; have q4 := c133_696; have q5 := c144_697; have e0 : (128 : Int32).toInt = 128 := rfl; have e1 : (194 : Int32).toInt = 194 := rfl; have e2 : (223 : Int32).toInt = 223 := rfl; have e3 : (239 : Int32).toInt = 239 := rfl; have e4 : (240 : Int32).toInt = 240 := rfl; have e5 : (244 : Int32).toInt = 244 := rfl; have rr := hra; simp only [own_lt, own_eq] at q0 q1 q2 q3 q4 q5 ⊢; omega)) (by decide) (by decide)) ?_
        show own_Ends _ _ _ _ (T0.setTop (mkF m 171 #[.val (.ref r0), .val (.int (0 : Int32)), .val (.int (1 : Int32)), .val (.int (0 : Int32)), .val (.int a), .val (.int (4 : Int32)), .val (.int (144 : Int32)), .val (.int (191 : Int32)), .unset, .unset] []))
        refine own_st (fun t_ => XS.iload (own_here Y0) hx rfl (hb hby own_d9_171) rfl) ?_
        show own_Ends _ _ _ _ (T0.setTop (mkF m 173 #[.val (.ref r0), .val (.int (0 : Int32)), .val (.int (1 : Int32)), .val (.int (0 : Int32)), .val (.int a), .val (.int (4 : Int32)), .val (.int (144 : Int32)), .val (.int (191 : Int32)), .unset, .unset] [(.int (191 : Int32))]))
        refine own_st (fun t_ => XS.istore (own_here Y0) hx rfl (hb hby own_d9_173) rfl (l' := #[.val (.ref r0), .val (.int (0 : Int32)), .val (.int (1 : Int32)), .val (.int (0 : Int32)), .val (.int a), .val (.int (4 : Int32)), .val (.int (144 : Int32)), .val (.int (191 : Int32)), .unset, .unset]) rfl) ?_
        show own_Ends _ _ _ _ (T0.setTop (mkF m 175 #[.val (.ref r0), .val (.int (0 : Int32)), .val (.int (1 : Int32)), .val (.int (0 : Int32)), .val (.int a), .val (.int (4 : Int32)), .val (.int (144 : Int32)), .val (.int (191 : Int32)), .unset, .unset] []))
        refine own_st (fun t_ => XS.goto (own_here Y0) hx rfl (pc0 := 175) (pc' := 180) rfl (hb hby own_d9_175) (by decide) (by decide)) ?_
        show own_Ends _ _ _ _ (T0.setTop (mkF m 180 #[.val (.ref r0), .val (.int (0 : Int32)), .val (.int (1 : Int32)), .val (.int (0 : Int32)), .val (.int a), .val (.int (4 : Int32)), .val (.int (144 : Int32)), .val (.int (191 : Int32)), .unset, .unset] []))
        refine own_st (fun t_ => XS.iloadN (own_here Y0) hx rfl (hb hby own_d9_180) rfl) ?_
        show own_Ends _ _ _ _ (T0.setTop (mkF m 181 #[.val (.ref r0), .val (.int (0 : Int32)), .val (.int (1 : Int32)), .val (.int (0 : Int32)), .val (.int a), .val (.int (4 : Int32)), .val (.int (144 : Int32)), .val (.int (191 : Int32)), .unset, .unset] [(.int (1 : Int32))]))
        refine own_st (fun t_ => XS.iloadN (own_here Y0) hx rfl (hb hby own_d9_181) rfl) ?_
        show own_Ends _ _ _ _ (T0.setTop (mkF m 182 #[.val (.ref r0), .val (.int (0 : Int32)), .val (.int (1 : Int32)), .val (.int (0 : Int32)), .val (.int a), .val (.int (4 : Int32)), .val (.int (144 : Int32)), .val (.int (191 : Int32)), .unset, .unset] [(.int (0 : Int32)), (.int (1 : Int32))]))
        refine own_st (fun t_ => XS.isub (own_here Y0) hx rfl (hb hby own_d9_182) rfl) ?_
        show own_Ends _ _ _ _ (T0.setTop (mkF m 183 #[.val (.ref r0), .val (.int (0 : Int32)), .val (.int (1 : Int32)), .val (.int (0 : Int32)), .val (.int a), .val (.int (4 : Int32)), .val (.int (144 : Int32)), .val (.int (191 : Int32)), .unset, .unset] [(.int (1 : Int32))]))
        refine own_st (fun t_ => XS.iload (own_here Y0) hx rfl (hb hby own_d9_183) rfl) ?_
        show own_Ends _ _ _ _ (T0.setTop (mkF m 185 #[.val (.ref r0), .val (.int (0 : Int32)), .val (.int (1 : Int32)), .val (.int (0 : Int32)), .val (.int a), .val (.int (4 : Int32)), .val (.int (144 : Int32)), .val (.int (191 : Int32)), .unset, .unset] [(.int (4 : Int32)), (.int (1 : Int32))]))
        refine own_st (fun t_ => XS.icmpNo (own_here Y0) hx rfl (hb hby own_d9_185) rfl (XT.ii_ge_f (by decide))) ?_
        show own_Ends _ _ _ _ (T0.setTop (mkF m 188 #[.val (.ref r0), .val (.int (0 : Int32)), .val (.int (1 : Int32)), .val (.int (0 : Int32)), .val (.int a), .val (.int (4 : Int32)), .val (.int (144 : Int32)), .val (.int (191 : Int32)), .unset, .unset] []))
        refine own_st (fun t_ => XS.iconst (own_here Y0) hx rfl (hb hby own_d9_188) ) ?_
        show own_Ends _ _ _ _ (T0.setTop (mkF m 189 #[.val (.ref r0), .val (.int (0 : Int32)), .val (.int (1 : Int32)), .val (.int (0 : Int32)), .val (.int a), .val (.int (4 : Int32)), .val (.int (144 : Int32)), .val (.int (191 : Int32)), .unset, .unset] [(.int (0 : Int32))]))
        refine own_retN Y0 hx hlk (t := .boolean) hret (by simp) (hb hby own_d9_189) (by decide) (by decide) ?_
        refine ⟨?_, rfl⟩
        have ua := own_u8 w_; rw [ha] at ua
        have e128 : (128 : Int32).toInt = 128 := rfl
        have q := c21_692; rw [own_lt] at q
        have : decide (0 ≤ w_.toInt) = false := by simp only [decide_eq_false_iff_not]; omega
        rw [this]; rfl
       ·
        refine own_st (fun t_ => XS.icmpYes (own_here Y0) hx rfl (pc0 := 144) (pc' := 153) rfl (hb hby own_d9_144) rfl (XT.ii_ne_t c144_697) (by decide) (by decide)) ?_
        show own_Ends _ _ _ _ (T0.setTop (mkF m 153 #[.val (.ref r0), .val (.int (0 : Int32)), .val (.int (1 : Int32)), .val (.int (0 : Int32)), .val (.int a), .val (.int (4 : Int32)), .val (.int (128 : Int32)), .val (.int (191 : Int32)), .unset, .unset] []))
        refine own_st (fun t_ => XS.iload (own_here Y0) hx rfl (hb hby own_d9_153) rfl) ?_
        show own_Ends _ _ _ _ (T0.setTop (mkF m 155 #[.val (.ref r0), .val (.int (0 : Int32)), .val (.int (1 : Int32)), .val (.int (0 : Int32)), .val (.int a), .val (.int (4 : Int32)), .val (.int (128 : Int32)), .val (.int (191 : Int32)), .unset, .unset] [(.int (128 : Int32))]))
        refine own_st (fun t_ => XS.istore (own_here Y0) hx rfl (hb hby own_d9_155) rfl (l' := #[.val (.ref r0), .val (.int (0 : Int32)), .val (.int (1 : Int32)), .val (.int (0 : Int32)), .val (.int a), .val (.int (4 : Int32)), .val (.int (128 : Int32)), .val (.int (191 : Int32)), .unset, .unset]) rfl) ?_
        show own_Ends _ _ _ _ (T0.setTop (mkF m 157 #[.val (.ref r0), .val (.int (0 : Int32)), .val (.int (1 : Int32)), .val (.int (0 : Int32)), .val (.int a), .val (.int (4 : Int32)), .val (.int (128 : Int32)), .val (.int (191 : Int32)), .unset, .unset] []))
        refine own_st (fun t_ => XS.iload (own_here Y0) hx rfl (hb hby own_d9_157) rfl) ?_
        show own_Ends _ _ _ _ (T0.setTop (mkF m 159 #[.val (.ref r0), .val (.int (0 : Int32)), .val (.int (1 : Int32)), .val (.int (0 : Int32)), .val (.int a), .val (.int (4 : Int32)), .val (.int (128 : Int32)), .val (.int (191 : Int32)), .unset, .unset] [(.int a)]))
        refine own_st (fun t_ => XS.sipush (own_here Y0) hx rfl (hb hby own_d9_159) ) ?_
        show own_Ends _ _ _ _ (T0.setTop (mkF m 162 #[.val (.ref r0), .val (.int (0 : Int32)), .val (.int (1 : Int32)), .val (.int (0 : Int32)), .val (.int a), .val (.int (4 : Int32)), .val (.int (128 : Int32)), .val (.int (191 : Int32)), .unset, .unset] [(.int (244 : Int32)), (.int a)]))
        by_cases c162_698 : a = (244 : Int32)
        ·
         refine own_st (fun t_ => XS.icmpNo (own_here Y0) hx rfl (hb hby own_d9_162) rfl (XT.ii_ne_f c162_698)) ?_
         show own_Ends _ _ _ _ (T0.setTop (mkF m 165 #[.val (.ref r0), .val (.int (0 : Int32)), .val (.int (1 : Int32)), .val (.int (0 : Int32)), .val (.int a), .val (.int (4 : Int32)), .val (.int (128 : Int32)), .val (.int (191 : Int32)), .unset, .unset] []))
         refine own_st (fun t_ => XS.sipush (own_here Y0) hx rfl (hb hby own_d9_165) ) ?_
         show own_Ends _ _ _ _ (T0.setTop (mkF m 168 #[.val (.ref r0), .val (.int (0 : Int32)), .val (.int (1 : Int32)), .val (.int (0 : Int32)), .val (.int a), .val (.int (4 : Int32)), .val (.int (128 : Int32)), .val (.int (191 : Int32)), .unset, .unset] [(.int (143 : Int32))]))
         refine own_st (fun t_ => XS.goto (own_here Y0) hx rfl (pc0 := 168) (pc' := 173) rfl (hb hby own_d9_168) (by decide) (by decide)) ?_
         show own_Ends _ _ _ _ (T0.setTop (mkF m 173 #[.val (.ref r0), .val (.int (0 : Int32)), .val (.int (1 : Int32)), .val (.int (0 : Int32)), .val (.int a), .val (.int (4 : Int32)), .val (.int (128 : Int32)), .val (.int (191 : Int32)), .unset, .unset] [(.int (143 : Int32))]))
         refine own_st (fun t_ => XS.istore (own_here Y0) hx rfl (hb hby own_d9_173) rfl (l' := #[.val (.ref r0), .val (.int (0 : Int32)), .val (.int (1 : Int32)), .val (.int (0 : Int32)), .val (.int a), .val (.int (4 : Int32)), .val (.int (128 : Int32)), .val (.int (143 : Int32)), .unset, .unset]) rfl) ?_
         show own_Ends _ _ _ _ (T0.setTop (mkF m 175 #[.val (.ref r0), .val (.int (0 : Int32)), .val (.int (1 : Int32)), .val (.int (0 : Int32)), .val (.int a), .val (.int (4 : Int32)), .val (.int (128 : Int32)), .val (.int (143 : Int32)), .unset, .unset] []))
         refine own_st (fun t_ => XS.goto (own_here Y0) hx rfl (pc0 := 175) (pc' := 180) rfl (hb hby own_d9_175) (by decide) (by decide)) ?_
         show own_Ends _ _ _ _ (T0.setTop (mkF m 180 #[.val (.ref r0), .val (.int (0 : Int32)), .val (.int (1 : Int32)), .val (.int (0 : Int32)), .val (.int a), .val (.int (4 : Int32)), .val (.int (128 : Int32)), .val (.int (143 : Int32)), .unset, .unset] []))
         refine own_st (fun t_ => XS.iloadN (own_here Y0) hx rfl (hb hby own_d9_180) rfl) ?_
         show own_Ends _ _ _ _ (T0.setTop (mkF m 181 #[.val (.ref r0), .val (.int (0 : Int32)), .val (.int (1 : Int32)), .val (.int (0 : Int32)), .val (.int a), .val (.int (4 : Int32)), .val (.int (128 : Int32)), .val (.int (143 : Int32)), .unset, .unset] [(.int (1 : Int32))]))
         refine own_st (fun t_ => XS.iloadN (own_here Y0) hx rfl (hb hby own_d9_181) rfl) ?_
         show own_Ends _ _ _ _ (T0.setTop (mkF m 182 #[.val (.ref r0), .val (.int (0 : Int32)), .val (.int (1 : Int32)), .val (.int (0 : Int32)), .val (.int a), .val (.int (4 : Int32)), .val (.int (128 : Int32)), .val (.int (143 : Int32)), .unset, .unset] [(.int (0 : Int32)), (.int (1 : Int32))]))
         refine own_st (fun t_ => XS.isub (own_here Y0) hx rfl (hb hby own_d9_182) rfl) ?_
         show own_Ends _ _ _ _ (T0.setTop (mkF m 183 #[.val (.ref r0), .val (.int (0 : Int32)), .val (.int (1 : Int32)), .val (.int (0 : Int32)), .val (.int a), .val (.int (4 : Int32)), .val (.int (128 : Int32)), .val (.int (143 : Int32)), .unset, .unset] [(.int (1 : Int32))]))
         refine own_st (fun t_ => XS.iload (own_here Y0) hx rfl (hb hby own_d9_183) rfl) ?_
         show own_Ends _ _ _ _ (T0.setTop (mkF m 185 #[.val (.ref r0), .val (.int (0 : Int32)), .val (.int (1 : Int32)), .val (.int (0 : Int32)), .val (.int a), .val (.int (4 : Int32)), .val (.int (128 : Int32)), .val (.int (143 : Int32)), .unset, .unset] [(.int (4 : Int32)), (.int (1 : Int32))]))
         refine own_st (fun t_ => XS.icmpNo (own_here Y0) hx rfl (hb hby own_d9_185) rfl (XT.ii_ge_f (by decide))) ?_
         show own_Ends _ _ _ _ (T0.setTop (mkF m 188 #[.val (.ref r0), .val (.int (0 : Int32)), .val (.int (1 : Int32)), .val (.int (0 : Int32)), .val (.int a), .val (.int (4 : Int32)), .val (.int (128 : Int32)), .val (.int (143 : Int32)), .unset, .unset] []))
         refine own_st (fun t_ => XS.iconst (own_here Y0) hx rfl (hb hby own_d9_188) ) ?_
         show own_Ends _ _ _ _ (T0.setTop (mkF m 189 #[.val (.ref r0), .val (.int (0 : Int32)), .val (.int (1 : Int32)), .val (.int (0 : Int32)), .val (.int a), .val (.int (4 : Int32)), .val (.int (128 : Int32)), .val (.int (143 : Int32)), .unset, .unset] [(.int (0 : Int32))]))
         refine own_retN Y0 hx hlk (t := .boolean) hret (by simp) (hb hby own_d9_189) (by decide) (by decide) ?_
         refine ⟨?_, rfl⟩
         have ua := own_u8 w_; rw [ha] at ua
         have e128 : (128 : Int32).toInt = 128 := rfl
         have q := c21_692; rw [own_lt] at q
         have : decide (0 ≤ w_.toInt) = false := by simp only [decide_eq_false_iff_not]; omega
         rw [this]; rfl
        ·
         refine own_st (fun t_ => XS.icmpYes (own_here Y0) hx rfl (pc0 := 162) (pc' := 171) rfl (hb hby own_d9_162) rfl (XT.ii_ne_t c162_698) (by decide) (by decide)) ?_
         show own_Ends _ _ _ _ (T0.setTop (mkF m 171 #[.val (.ref r0), .val (.int (0 : Int32)), .val (.int (1 : Int32)), .val (.int (0 : Int32)), .val (.int a), .val (.int (4 : Int32)), .val (.int (128 : Int32)), .val (.int (191 : Int32)), .unset, .unset] []))
         refine own_st (fun t_ => XS.iload (own_here Y0) hx rfl (hb hby own_d9_171) rfl) ?_
         show own_Ends _ _ _ _ (T0.setTop (mkF m 173 #[.val (.ref r0), .val (.int (0 : Int32)), .val (.int (1 : Int32)), .val (.int (0 : Int32)), .val (.int a), .val (.int (4 : Int32)), .val (.int (128 : Int32)), .val (.int (191 : Int32)), .unset, .unset] [(.int (191 : Int32))]))
         refine own_st (fun t_ => XS.istore (own_here Y0) hx rfl (hb hby own_d9_173) rfl (l' := #[.val (.ref r0), .val (.int (0 : Int32)), .val (.int (1 : Int32)), .val (.int (0 : Int32)), .val (.int a), .val (.int (4 : Int32)), .val (.int (128 : Int32)), .val (.int (191 : Int32)), .unset, .unset]) rfl) ?_
         show own_Ends _ _ _ _ (T0.setTop (mkF m 175 #[.val (.ref r0), .val (.int (0 : Int32)), .val (.int (1 : Int32)), .val (.int (0 : Int32)), .val (.int a), .val (.int (4 : Int32)), .val (.int (128 : Int32)), .val (.int (191 : Int32)), .unset, .unset] []))
         refine own_st (fun t_ => XS.goto (own_here Y0) hx rfl (pc0 := 175) (pc' := 180) rfl (hb hby own_d9_175) (by decide) (by decide)) ?_
         show own_Ends _ _ _ _ (T0.setTop (mkF m 180 #[.val (.ref r0), .val (.int (0 : Int32)), .val (.int (1 : Int32)), .val (.int (0 : Int32)), .val (.int a), .val (.int (4 : Int32)), .val (.int (128 : Int32)), .val (.int (191 : Int32)), .unset, .unset] []))
         refine own_st (fun t_ => XS.iloadN (own_here Y0) hx rfl (hb hby own_d9_180) rfl) ?_
         show own_Ends _ _ _ _ (T0.setTop (mkF m 181 #[.val (.ref r0), .val (.int (0 : Int32)), .val (.int (1 : Int32)), .val (.int (0 : Int32)), .val (.int a), .val (.int (4 : Int32)), .val (.int (128 : Int32)), .val (.int (191 : Int32)), .unset, .unset] [(.int (1 : Int32))]))
         refine own_st (fun t_ => XS.iloadN (own_here Y0) hx rfl (hb hby own_d9_181) rfl) ?_
         show own_Ends _ _ _ _ (T0.setTop (mkF m 182 #[.val (.ref r0), .val (.int (0 : Int32)), .val (.int (1 : Int32)), .val (.int (0 : Int32)), .val (.int a), .val (.int (4 : Int32)), .val (.int (128 : Int32)), .val (.int (191 : Int32)), .unset, .unset] [(.int (0 : Int32)), (.int (1 : Int32))]))
         refine own_st (fun t_ => XS.isub (own_here Y0) hx rfl (hb hby own_d9_182) rfl) ?_
         show own_Ends _ _ _ _ (T0.setTop (mkF m 183 #[.val (.ref r0), .val (.int (0 : Int32)), .val (.int (1 : Int32)), .val (.int (0 : Int32)), .val (.int a), .val (.int (4 : Int32)), .val (.int (128 : Int32)), .val (.int (191 : Int32)), .unset, .unset] [(.int (1 : Int32))]))
         refine own_st (fun t_ => XS.iload (own_here Y0) hx rfl (hb hby own_d9_183) rfl) ?_
         show own_Ends _ _ _ _ (T0.setTop (mkF m 185 #[.val (.ref r0), .val (.int (0 : Int32)), .val (.int (1 : Int32)), .val (.int (0 : Int32)), .val (.int a), .val (.int (4 : Int32)), .val (.int (128 : Int32)), .val (.int (191 : Int32)), .unset, .unset] [(.int (4 : Int32)), (.int (1 : Int32))]))
         refine own_st (fun t_ => XS.icmpNo (own_here Y0) hx rfl (hb hby own_d9_185) rfl (XT.ii_ge_f (by decide))) ?_
         show own_Ends _ _ _ _ (T0.setTop (mkF m 188 #[.val (.ref r0), .val (.int (0 : Int32)), .val (.int (1 : Int32)), .val (.int (0 : Int32)), .val (.int a), .val (.int (4 : Int32)), .val (.int (128 : Int32)), .val (.int (191 : Int32)), .unset, .unset] []))
         refine own_st (fun t_ => XS.iconst (own_here Y0) hx rfl (hb hby own_d9_188) ) ?_
         show own_Ends _ _ _ _ (T0.setTop (mkF m 189 #[.val (.ref r0), .val (.int (0 : Int32)), .val (.int (1 : Int32)), .val (.int (0 : Int32)), .val (.int a), .val (.int (4 : Int32)), .val (.int (128 : Int32)), .val (.int (191 : Int32)), .unset, .unset] [(.int (0 : Int32))]))
         refine own_retN Y0 hx hlk (t := .boolean) hret (by simp) (hb hby own_d9_189) (by decide) (by decide) ?_
         refine ⟨?_, rfl⟩
         have ua := own_u8 w_; rw [ha] at ua
         have e128 : (128 : Int32).toInt = 128 := rfl
         have q := c21_692; rw [own_lt] at q
         have : decide (0 ≤ w_.toInt) = false := by simp only [decide_eq_false_iff_not]; omega
         rw [this]; rfl
     ·
      refine own_st (fun t_ => XS.icmpNo (own_here Y0) hx rfl (hb hby own_d9_75) rfl (XT.ii_gt_f c75_695)) ?_
      show own_Ends _ _ _ _ (T0.setTop (mkF m 78 #[.val (.ref r0), .val (.int (0 : Int32)), .val (.int (1 : Int32)), .val (.int (0 : Int32)), .val (.int a), .unset, .val (.int (128 : Int32)), .val (.int (191 : Int32)), .unset, .unset] []))
      refine own_st (fun t_ => XS.iconst (own_here Y0) hx rfl (hb hby own_d9_78) ) ?_
      show own_Ends _ _ _ _ (T0.setTop (mkF m 79 #[.val (.ref r0), .val (.int (0 : Int32)), .val (.int (1 : Int32)), .val (.int (0 : Int32)), .val (.int a), .unset, .val (.int (128 : Int32)), .val (.int (191 : Int32)), .unset, .unset] [(.int (3 : Int32))]))
      refine own_st (fun t_ => XS.istore (own_here Y0) hx rfl (hb hby own_d9_79) rfl (l' := #[.val (.ref r0), .val (.int (0 : Int32)), .val (.int (1 : Int32)), .val (.int (0 : Int32)), .val (.int a), .val (.int (3 : Int32)), .val (.int (128 : Int32)), .val (.int (191 : Int32)), .unset, .unset]) rfl) ?_
      show own_Ends _ _ _ _ (T0.setTop (mkF m 81 #[.val (.ref r0), .val (.int (0 : Int32)), .val (.int (1 : Int32)), .val (.int (0 : Int32)), .val (.int a), .val (.int (3 : Int32)), .val (.int (128 : Int32)), .val (.int (191 : Int32)), .unset, .unset] []))
      refine own_st (fun t_ => XS.iload (own_here Y0) hx rfl (hb hby own_d9_81) rfl) ?_
      show own_Ends _ _ _ _ (T0.setTop (mkF m 83 #[.val (.ref r0), .val (.int (0 : Int32)), .val (.int (1 : Int32)), .val (.int (0 : Int32)), .val (.int a), .val (.int (3 : Int32)), .val (.int (128 : Int32)), .val (.int (191 : Int32)), .unset, .unset] [(.int a)]))
      refine own_st (fun t_ => XS.sipush (own_here Y0) hx rfl (hb hby own_d9_83) ) ?_
      show own_Ends _ _ _ _ (T0.setTop (mkF m 86 #[.val (.ref r0), .val (.int (0 : Int32)), .val (.int (1 : Int32)), .val (.int (0 : Int32)), .val (.int a), .val (.int (3 : Int32)), .val (.int (128 : Int32)), .val (.int (191 : Int32)), .unset, .unset] [(.int (224 : Int32)), (.int a)]))
      by_cases c86_699 : a = (224 : Int32)
      ·
       refine own_st (fun t_ => XS.icmpNo (own_here Y0) hx rfl (hb hby own_d9_86) rfl (XT.ii_ne_f c86_699)) ?_
       show own_Ends _ _ _ _ (T0.setTop (mkF m 89 #[.val (.ref r0), .val (.int (0 : Int32)), .val (.int (1 : Int32)), .val (.int (0 : Int32)), .val (.int a), .val (.int (3 : Int32)), .val (.int (128 : Int32)), .val (.int (191 : Int32)), .unset, .unset] []))
       refine own_st (fun t_ => XS.sipush (own_here Y0) hx rfl (hb hby own_d9_89) ) ?_
       show own_Ends _ _ _ _ (T0.setTop (mkF m 92 #[.val (.ref r0), .val (.int (0 : Int32)), .val (.int (1 : Int32)), .val (.int (0 : Int32)), .val (.int a), .val (.int (3 : Int32)), .val (.int (128 : Int32)), .val (.int (191 : Int32)), .unset, .unset] [(.int (160 : Int32))]))
       refine own_st (fun t_ => XS.goto (own_here Y0) hx rfl (pc0 := 92) (pc' := 97) rfl (hb hby own_d9_92) (by decide) (by decide)) ?_
       show own_Ends _ _ _ _ (T0.setTop (mkF m 97 #[.val (.ref r0), .val (.int (0 : Int32)), .val (.int (1 : Int32)), .val (.int (0 : Int32)), .val (.int a), .val (.int (3 : Int32)), .val (.int (128 : Int32)), .val (.int (191 : Int32)), .unset, .unset] [(.int (160 : Int32))]))
       refine own_st (fun t_ => XS.istore (own_here Y0) hx rfl (hb hby own_d9_97) rfl (l' := #[.val (.ref r0), .val (.int (0 : Int32)), .val (.int (1 : Int32)), .val (.int (0 : Int32)), .val (.int a), .val (.int (3 : Int32)), .val (.int (160 : Int32)), .val (.int (191 : Int32)), .unset, .unset]) rfl) ?_
       show own_Ends _ _ _ _ (T0.setTop (mkF m 99 #[.val (.ref r0), .val (.int (0 : Int32)), .val (.int (1 : Int32)), .val (.int (0 : Int32)), .val (.int a), .val (.int (3 : Int32)), .val (.int (160 : Int32)), .val (.int (191 : Int32)), .unset, .unset] []))
       refine own_st (fun t_ => XS.iload (own_here Y0) hx rfl (hb hby own_d9_99) rfl) ?_
       show own_Ends _ _ _ _ (T0.setTop (mkF m 101 #[.val (.ref r0), .val (.int (0 : Int32)), .val (.int (1 : Int32)), .val (.int (0 : Int32)), .val (.int a), .val (.int (3 : Int32)), .val (.int (160 : Int32)), .val (.int (191 : Int32)), .unset, .unset] [(.int a)]))
       refine own_st (fun t_ => XS.sipush (own_here Y0) hx rfl (hb hby own_d9_101) ) ?_
       show own_Ends _ _ _ _ (T0.setTop (mkF m 104 #[.val (.ref r0), .val (.int (0 : Int32)), .val (.int (1 : Int32)), .val (.int (0 : Int32)), .val (.int a), .val (.int (3 : Int32)), .val (.int (160 : Int32)), .val (.int (191 : Int32)), .unset, .unset] [(.int (237 : Int32)), (.int a)]))
       refine own_st (fun t_ => XS.icmpYes (own_here Y0) hx rfl (pc0 := 104) (pc' := 113) rfl (hb hby own_d9_104) rfl (XT.ii_ne_t (by have q0 := c21_692; have q1 := c45_693; have q2 := c53_694; have q3 := c75_695; have q4 := c86_699; have e0 : (128 : Int32).toInt = 128 := rfl; have e1 : (194 : Int32).toInt = 194 := rfl; have e2 : (223 : Int32).toInt = 223 := rfl; have e3 : (224 : Int32).toInt = 224 := rfl; have e4 : (237 : Int32).toInt = 237 := rfl; have e5 : (239 : Int32).toInt = 239 := rfl; have rr := hra; simp only [own_lt, own_eq] at q0 q1 q2 q3 q4 ⊢; omega)) (by decide) (by decide)) ?_
       show own_Ends _ _ _ _ (T0.setTop (mkF m 113 #[.val (.ref r0), .val (.int (0 : Int32)), .val (.int (1 : Int32)), .val (.int (0 : Int32)), .val (.int a), .val (.int (3 : Int32)), .val (.int (160 : Int32)), .val (.int (191 : Int32)), .unset, .unset] []))
       refine own_st (fun t_ => XS.iload (own_here Y0) hx rfl (hb hby own_d9_113) rfl) ?_
       show own_Ends _ _ _ _ (T0.setTop (mkF m 115 #[.val (.ref r0), .val (.int (0 : Int32)), .val (.int (1 : Int32)), .val (.int (0 : Int32)), .val (.int a), .val (.int (3 : Int32)), .val (.int (160 : Int32)), .val (.int (191 : Int32)), .unset, .unset] [(.int (191 : Int32))]))
       refine own_st (fun t_ => XS.istore (own_here Y0) hx rfl (hb hby own_d9_115) rfl (l' := #[.val (.ref r0), .val (.int (0 : Int32)), .val (.int (1 : Int32)), .val (.int (0 : Int32)), .val (.int a), .val (.int (3 : Int32)), .val (.int (160 : Int32)), .val (.int (191 : Int32)), .unset, .unset]) rfl) ?_
       show own_Ends _ _ _ _ (T0.setTop (mkF m 117 #[.val (.ref r0), .val (.int (0 : Int32)), .val (.int (1 : Int32)), .val (.int (0 : Int32)), .val (.int a), .val (.int (3 : Int32)), .val (.int (160 : Int32)), .val (.int (191 : Int32)), .unset, .unset] []))
       refine own_st (fun t_ => XS.goto (own_here Y0) hx rfl (pc0 := 117) (pc' := 180) rfl (hb hby own_d9_117) (by decide) (by decide)) ?_
       show own_Ends _ _ _ _ (T0.setTop (mkF m 180 #[.val (.ref r0), .val (.int (0 : Int32)), .val (.int (1 : Int32)), .val (.int (0 : Int32)), .val (.int a), .val (.int (3 : Int32)), .val (.int (160 : Int32)), .val (.int (191 : Int32)), .unset, .unset] []))
       refine own_st (fun t_ => XS.iloadN (own_here Y0) hx rfl (hb hby own_d9_180) rfl) ?_
       show own_Ends _ _ _ _ (T0.setTop (mkF m 181 #[.val (.ref r0), .val (.int (0 : Int32)), .val (.int (1 : Int32)), .val (.int (0 : Int32)), .val (.int a), .val (.int (3 : Int32)), .val (.int (160 : Int32)), .val (.int (191 : Int32)), .unset, .unset] [(.int (1 : Int32))]))
       refine own_st (fun t_ => XS.iloadN (own_here Y0) hx rfl (hb hby own_d9_181) rfl) ?_
       show own_Ends _ _ _ _ (T0.setTop (mkF m 182 #[.val (.ref r0), .val (.int (0 : Int32)), .val (.int (1 : Int32)), .val (.int (0 : Int32)), .val (.int a), .val (.int (3 : Int32)), .val (.int (160 : Int32)), .val (.int (191 : Int32)), .unset, .unset] [(.int (0 : Int32)), (.int (1 : Int32))]))
       refine own_st (fun t_ => XS.isub (own_here Y0) hx rfl (hb hby own_d9_182) rfl) ?_
       show own_Ends _ _ _ _ (T0.setTop (mkF m 183 #[.val (.ref r0), .val (.int (0 : Int32)), .val (.int (1 : Int32)), .val (.int (0 : Int32)), .val (.int a), .val (.int (3 : Int32)), .val (.int (160 : Int32)), .val (.int (191 : Int32)), .unset, .unset] [(.int (1 : Int32))]))
       refine own_st (fun t_ => XS.iload (own_here Y0) hx rfl (hb hby own_d9_183) rfl) ?_
       show own_Ends _ _ _ _ (T0.setTop (mkF m 185 #[.val (.ref r0), .val (.int (0 : Int32)), .val (.int (1 : Int32)), .val (.int (0 : Int32)), .val (.int a), .val (.int (3 : Int32)), .val (.int (160 : Int32)), .val (.int (191 : Int32)), .unset, .unset] [(.int (3 : Int32)), (.int (1 : Int32))]))
       refine own_st (fun t_ => XS.icmpNo (own_here Y0) hx rfl (hb hby own_d9_185) rfl (XT.ii_ge_f (by decide))) ?_
       show own_Ends _ _ _ _ (T0.setTop (mkF m 188 #[.val (.ref r0), .val (.int (0 : Int32)), .val (.int (1 : Int32)), .val (.int (0 : Int32)), .val (.int a), .val (.int (3 : Int32)), .val (.int (160 : Int32)), .val (.int (191 : Int32)), .unset, .unset] []))
       refine own_st (fun t_ => XS.iconst (own_here Y0) hx rfl (hb hby own_d9_188) ) ?_
       show own_Ends _ _ _ _ (T0.setTop (mkF m 189 #[.val (.ref r0), .val (.int (0 : Int32)), .val (.int (1 : Int32)), .val (.int (0 : Int32)), .val (.int a), .val (.int (3 : Int32)), .val (.int (160 : Int32)), .val (.int (191 : Int32)), .unset, .unset] [(.int (0 : Int32))]))
       refine own_retN Y0 hx hlk (t := .boolean) hret (by simp) (hb hby own_d9_189) (by decide) (by decide) ?_
       refine ⟨?_, rfl⟩
       have ua := own_u8 w_; rw [ha] at ua
       have e128 : (128 : Int32).toInt = 128 := rfl
       have q := c21_692; rw [own_lt] at q
       have : decide (0 ≤ w_.toInt) = false := by simp only [decide_eq_false_iff_not]; omega
       rw [this]; rfl
      ·
       refine own_st (fun t_ => XS.icmpYes (own_here Y0) hx rfl (pc0 := 86) (pc' := 95) rfl (hb hby own_d9_86) rfl (XT.ii_ne_t c86_699) (by decide) (by decide)) ?_
       show own_Ends _ _ _ _ (T0.setTop (mkF m 95 #[.val (.ref r0), .val (.int (0 : Int32)), .val (.int (1 : Int32)), .val (.int (0 : Int32)), .val (.int a), .val (.int (3 : Int32)), .val (.int (128 : Int32)), .val (.int (191 : Int32)), .unset, .unset] []))
       refine own_st (fun t_ => XS.iload (own_here Y0) hx rfl (hb hby own_d9_95) rfl) ?_
       show own_Ends _ _ _ _ (T0.setTop (mkF m 97 #[.val (.ref r0), .val (.int (0 : Int32)), .val (.int (1 : Int32)), .val (.int (0 : Int32)), .val (.int a), .val (.int (3 : Int32)), .val (.int (128 : Int32)), .val (.int (191 : Int32)), .unset, .unset] [(.int (128 : Int32))]))
       refine own_st (fun t_ => XS.istore (own_here Y0) hx rfl (hb hby own_d9_97) rfl (l' := #[.val (.ref r0), .val (.int (0 : Int32)), .val (.int (1 : Int32)), .val (.int (0 : Int32)), .val (.int a), .val (.int (3 : Int32)), .val (.int (128 : Int32)), .val (.int (191 : Int32)), .unset, .unset]) rfl) ?_
       show own_Ends _ _ _ _ (T0.setTop (mkF m 99 #[.val (.ref r0), .val (.int (0 : Int32)), .val (.int (1 : Int32)), .val (.int (0 : Int32)), .val (.int a), .val (.int (3 : Int32)), .val (.int (128 : Int32)), .val (.int (191 : Int32)), .unset, .unset] []))
       refine own_st (fun t_ => XS.iload (own_here Y0) hx rfl (hb hby own_d9_99) rfl) ?_
       show own_Ends _ _ _ _ (T0.setTop (mkF m 101 #[.val (.ref r0), .val (.int (0 : Int32)), .val (.int (1 : Int32)), .val (.int (0 : Int32)), .val (.int a), .val (.int (3 : Int32)), .val (.int (128 : Int32)), .val (.int (191 : Int32)), .unset, .unset] [(.int a)]))
       refine own_st (fun t_ => XS.sipush (own_here Y0) hx rfl (hb hby own_d9_101) ) ?_
       show own_Ends _ _ _ _ (T0.setTop (mkF m 104 #[.val (.ref r0), .val (.int (0 : Int32)), .val (.int (1 : Int32)), .val (.int (0 : Int32)), .val (.int a), .val (.int (3 : Int32)), .val (.int (128 : Int32)), .val (.int (191 : Int32)), .unset, .unset] [(.int (237 : Int32)), (.int a)]))
       by_cases c104_700 : a = (237 : Int32)
       ·
        refine own_st (fun t_ => XS.icmpNo (own_here Y0) hx rfl (hb hby own_d9_104) rfl (XT.ii_ne_f c104_700)) ?_
        show own_Ends _ _ _ _ (T0.setTop (mkF m 107 #[.val (.ref r0), .val (.int (0 : Int32)), .val (.int (1 : Int32)), .val (.int (0 : Int32)), .val (.int a), .val (.int (3 : Int32)), .val (.int (128 : Int32)), .val (.int (191 : Int32)), .unset, .unset] []))
        refine own_st (fun t_ => XS.sipush (own_here Y0) hx rfl (hb hby own_d9_107) ) ?_
        show own_Ends _ _ _ _ (T0.setTop (mkF m 110 #[.val (.ref r0), .val (.int (0 : Int32)), .val (.int (1 : Int32)), .val (.int (0 : Int32)), .val (.int a), .val (.int (3 : Int32)), .val (.int (128 : Int32)), .val (.int (191 : Int32)), .unset, .unset] [(.int (159 : Int32))]))
        refine own_st (fun t_ => XS.goto (own_here Y0) hx rfl (pc0 := 110) (pc' := 115) rfl (hb hby own_d9_110) (by decide) (by decide)) ?_
        show own_Ends _ _ _ _ (T0.setTop (mkF m 115 #[.val (.ref r0), .val (.int (0 : Int32)), .val (.int (1 : Int32)), .val (.int (0 : Int32)), .val (.int a), .val (.int (3 : Int32)), .val (.int (128 : Int32)), .val (.int (191 : Int32)), .unset, .unset] [(.int (159 : Int32))]))
        refine own_st (fun t_ => XS.istore (own_here Y0) hx rfl (hb hby own_d9_115) rfl (l' := #[.val (.ref r0), .val (.int (0 : Int32)), .val (.int (1 : Int32)), .val (.int (0 : Int32)), .val (.int a), .val (.int (3 : Int32)), .val (.int (128 : Int32)), .val (.int (159 : Int32)), .unset, .unset]) rfl) ?_
        show own_Ends _ _ _ _ (T0.setTop (mkF m 117 #[.val (.ref r0), .val (.int (0 : Int32)), .val (.int (1 : Int32)), .val (.int (0 : Int32)), .val (.int a), .val (.int (3 : Int32)), .val (.int (128 : Int32)), .val (.int (159 : Int32)), .unset, .unset] []))
        refine own_st (fun t_ => XS.goto (own_here Y0) hx rfl (pc0 := 117) (pc' := 180) rfl (hb hby own_d9_117) (by decide) (by decide)) ?_
        show own_Ends _ _ _ _ (T0.setTop (mkF m 180 #[.val (.ref r0), .val (.int (0 : Int32)), .val (.int (1 : Int32)), .val (.int (0 : Int32)), .val (.int a), .val (.int (3 : Int32)), .val (.int (128 : Int32)), .val (.int (159 : Int32)), .unset, .unset] []))
        refine own_st (fun t_ => XS.iloadN (own_here Y0) hx rfl (hb hby own_d9_180) rfl) ?_
        show own_Ends _ _ _ _ (T0.setTop (mkF m 181 #[.val (.ref r0), .val (.int (0 : Int32)), .val (.int (1 : Int32)), .val (.int (0 : Int32)), .val (.int a), .val (.int (3 : Int32)), .val (.int (128 : Int32)), .val (.int (159 : Int32)), .unset, .unset] [(.int (1 : Int32))]))
        refine own_st (fun t_ => XS.iloadN (own_here Y0) hx rfl (hb hby own_d9_181) rfl) ?_
        show own_Ends _ _ _ _ (T0.setTop (mkF m 182 #[.val (.ref r0), .val (.int (0 : Int32)), .val (.int (1 : Int32)), .val (.int (0 : Int32)), .val (.int a), .val (.int (3 : Int32)), .val (.int (128 : Int32)), .val (.int (159 : Int32)), .unset, .unset] [(.int (0 : Int32)), (.int (1 : Int32))]))
        refine own_st (fun t_ => XS.isub (own_here Y0) hx rfl (hb hby own_d9_182) rfl) ?_
        show own_Ends _ _ _ _ (T0.setTop (mkF m 183 #[.val (.ref r0), .val (.int (0 : Int32)), .val (.int (1 : Int32)), .val (.int (0 : Int32)), .val (.int a), .val (.int (3 : Int32)), .val (.int (128 : Int32)), .val (.int (159 : Int32)), .unset, .unset] [(.int (1 : Int32))]))
        refine own_st (fun t_ => XS.iload (own_here Y0) hx rfl (hb hby own_d9_183) rfl) ?_
        show own_Ends _ _ _ _ (T0.setTop (mkF m 185 #[.val (.ref r0), .val (.int (0 : Int32)), .val (.int (1 : Int32)), .val (.int (0 : Int32)), .val (.int a), .val (.int (3 : Int32)), .val (.int (128 : Int32)), .val (.int (159 : Int32)), .unset, .unset] [(.int (3 : Int32)), (.int (1 : Int32))]))
        refine own_st (fun t_ => XS.icmpNo (own_here Y0) hx rfl (hb hby own_d9_185) rfl (XT.ii_ge_f (by decide))) ?_
        show own_Ends _ _ _ _ (T0.setTop (mkF m 188 #[.val (.ref r0), .val (.int (0 : Int32)), .val (.int (1 : Int32)), .val (.int (0 : Int32)), .val (.int a), .val (.int (3 : Int32)), .val (.int (128 : Int32)), .val (.int (159 : Int32)), .unset, .unset] []))
        refine own_st (fun t_ => XS.iconst (own_here Y0) hx rfl (hb hby own_d9_188) ) ?_
        show own_Ends _ _ _ _ (T0.setTop (mkF m 189 #[.val (.ref r0), .val (.int (0 : Int32)), .val (.int (1 : Int32)), .val (.int (0 : Int32)), .val (.int a), .val (.int (3 : Int32)), .val (.int (128 : Int32)), .val (.int (159 : Int32)), .unset, .unset] [(.int (0 : Int32))]))
        refine own_retN Y0 hx hlk (t := .boolean) hret (by simp) (hb hby own_d9_189) (by decide) (by decide) ?_
        refine ⟨?_, rfl⟩
        have ua := own_u8 w_; rw [ha] at ua
        have e128 : (128 : Int32).toInt = 128 := rfl
        have q := c21_692; rw [own_lt] at q
        have : decide (0 ≤ w_.toInt) = false := by simp only [decide_eq_false_iff_not]; omega
        rw [this]; rfl
       ·
        refine own_st (fun t_ => XS.icmpYes (own_here Y0) hx rfl (pc0 := 104) (pc' := 113) rfl (hb hby own_d9_104) rfl (XT.ii_ne_t c104_700) (by decide) (by decide)) ?_
        show own_Ends _ _ _ _ (T0.setTop (mkF m 113 #[.val (.ref r0), .val (.int (0 : Int32)), .val (.int (1 : Int32)), .val (.int (0 : Int32)), .val (.int a), .val (.int (3 : Int32)), .val (.int (128 : Int32)), .val (.int (191 : Int32)), .unset, .unset] []))
        refine own_st (fun t_ => XS.iload (own_here Y0) hx rfl (hb hby own_d9_113) rfl) ?_
        show own_Ends _ _ _ _ (T0.setTop (mkF m 115 #[.val (.ref r0), .val (.int (0 : Int32)), .val (.int (1 : Int32)), .val (.int (0 : Int32)), .val (.int a), .val (.int (3 : Int32)), .val (.int (128 : Int32)), .val (.int (191 : Int32)), .unset, .unset] [(.int (191 : Int32))]))
        refine own_st (fun t_ => XS.istore (own_here Y0) hx rfl (hb hby own_d9_115) rfl (l' := #[.val (.ref r0), .val (.int (0 : Int32)), .val (.int (1 : Int32)), .val (.int (0 : Int32)), .val (.int a), .val (.int (3 : Int32)), .val (.int (128 : Int32)), .val (.int (191 : Int32)), .unset, .unset]) rfl) ?_
        show own_Ends _ _ _ _ (T0.setTop (mkF m 117 #[.val (.ref r0), .val (.int (0 : Int32)), .val (.int (1 : Int32)), .val (.int (0 : Int32)), .val (.int a), .val (.int (3 : Int32)), .val (.int (128 : Int32)), .val (.int (191 : Int32)), .unset, .unset] []))
        refine own_st (fun t_ => XS.goto (own_here Y0) hx rfl (pc0 := 117) (pc' := 180) rfl (hb hby own_d9_117) (by decide) (by decide)) ?_
        show own_Ends _ _ _ _ (T0.setTop (mkF m 180 #[.val (.ref r0), .val (.int (0 : Int32)), .val (.int (1 : Int32)), .val (.int (0 : Int32)), .val (.int a), .val (.int (3 : Int32)), .val (.int (128 : Int32)), .val (.int (191 : Int32)), .unset, .unset] []))
        refine own_st (fun t_ => XS.iloadN (own_here Y0) hx rfl (hb hby own_d9_180) rfl) ?_
        show own_Ends _ _ _ _ (T0.setTop (mkF m 181 #[.val (.ref r0), .val (.int (0 : Int32)), .val (.int (1 : Int32)), .val (.int (0 : Int32)), .val (.int a), .val (.int (3 : Int32)), .val (.int (128 : Int32)), .val (.int (191 : Int32)), .unset, .unset] [(.int (1 : Int32))]))
        refine own_st (fun t_ => XS.iloadN (own_here Y0) hx rfl (hb hby own_d9_181) rfl) ?_
        show own_Ends _ _ _ _ (T0.setTop (mkF m 182 #[.val (.ref r0), .val (.int (0 : Int32)), .val (.int (1 : Int32)), .val (.int (0 : Int32)), .val (.int a), .val (.int (3 : Int32)), .val (.int (128 : Int32)), .val (.int (191 : Int32)), .unset, .unset] [(.int (0 : Int32)), (.int (1 : Int32))]))
        refine own_st (fun t_ => XS.isub (own_here Y0) hx rfl (hb hby own_d9_182) rfl) ?_
        show own_Ends _ _ _ _ (T0.setTop (mkF m 183 #[.val (.ref r0), .val (.int (0 : Int32)), .val (.int (1 : Int32)), .val (.int (0 : Int32)), .val (.int a), .val (.int (3 : Int32)), .val (.int (128 : Int32)), .val (.int (191 : Int32)), .unset, .unset] [(.int (1 : Int32))]))
        refine own_st (fun t_ => XS.iload (own_here Y0) hx rfl (hb hby own_d9_183) rfl) ?_
        show own_Ends _ _ _ _ (T0.setTop (mkF m 185 #[.val (.ref r0), .val (.int (0 : Int32)), .val (.int (1 : Int32)), .val (.int (0 : Int32)), .val (.int a), .val (.int (3 : Int32)), .val (.int (128 : Int32)), .val (.int (191 : Int32)), .unset, .unset] [(.int (3 : Int32)), (.int (1 : Int32))]))
        refine own_st (fun t_ => XS.icmpNo (own_here Y0) hx rfl (hb hby own_d9_185) rfl (XT.ii_ge_f (by decide))) ?_
        show own_Ends _ _ _ _ (T0.setTop (mkF m 188 #[.val (.ref r0), .val (.int (0 : Int32)), .val (.int (1 : Int32)), .val (.int (0 : Int32)), .val (.int a), .val (.int (3 : Int32)), .val (.int (128 : Int32)), .val (.int (191 : Int32)), .unset, .unset] []))
        refine own_st (fun t_ => XS.iconst (own_here Y0) hx rfl (hb hby own_d9_188) ) ?_
        show own_Ends _ _ _ _ (T0.setTop (mkF m 189 #[.val (.ref r0), .val (.int (0 : Int32)), .val (.int (1 : Int32)), .val (.int (0 : Int32)), .val (.int a), .val (.int (3 : Int32)), .val (.int (128 : Int32)), .val (.int (191 : Int32)), .unset, .unset] [(.int (0 : Int32))]))
        refine own_retN Y0 hx hlk (t := .boolean) hret (by simp) (hb hby own_d9_189) (by decide) (by decide) ?_
        refine ⟨?_, rfl⟩
        have ua := own_u8 w_; rw [ha] at ua
        have e128 : (128 : Int32).toInt = 128 := rfl
        have q := c21_692; rw [own_lt] at q
        have : decide (0 ≤ w_.toInt) = false := by simp only [decide_eq_false_iff_not]; omega
        rw [this]; rfl
    ·
     refine own_st (fun t_ => XS.icmpNo (own_here Y0) hx rfl (hb hby own_d9_53) rfl (XT.ii_gt_f c53_694)) ?_
     show own_Ends _ _ _ _ (T0.setTop (mkF m 56 #[.val (.ref r0), .val (.int (0 : Int32)), .val (.int (1 : Int32)), .val (.int (0 : Int32)), .val (.int a), .unset, .val (.int (128 : Int32)), .val (.int (191 : Int32)), .unset, .unset] []))
     refine own_st (fun t_ => XS.iconst (own_here Y0) hx rfl (hb hby own_d9_56) ) ?_
     show own_Ends _ _ _ _ (T0.setTop (mkF m 57 #[.val (.ref r0), .val (.int (0 : Int32)), .val (.int (1 : Int32)), .val (.int (0 : Int32)), .val (.int a), .unset, .val (.int (128 : Int32)), .val (.int (191 : Int32)), .unset, .unset] [(.int (2 : Int32))]))
     refine own_st (fun t_ => XS.istore (own_here Y0) hx rfl (hb hby own_d9_57) rfl (l' := #[.val (.ref r0), .val (.int (0 : Int32)), .val (.int (1 : Int32)), .val (.int (0 : Int32)), .val (.int a), .val (.int (2 : Int32)), .val (.int (128 : Int32)), .val (.int (191 : Int32)), .unset, .unset]) rfl) ?_
     show own_Ends _ _ _ _ (T0.setTop (mkF m 59 #[.val (.ref r0), .val (.int (0 : Int32)), .val (.int (1 : Int32)), .val (.int (0 : Int32)), .val (.int a), .val (.int (2 : Int32)), .val (.int (128 : Int32)), .val (.int (191 : Int32)), .unset, .unset] []))
     refine own_st (fun t_ => XS.goto (own_here Y0) hx rfl (pc0 := 59) (pc' := 180) rfl (hb hby own_d9_59) (by decide) (by decide)) ?_
     show own_Ends _ _ _ _ (T0.setTop (mkF m 180 #[.val (.ref r0), .val (.int (0 : Int32)), .val (.int (1 : Int32)), .val (.int (0 : Int32)), .val (.int a), .val (.int (2 : Int32)), .val (.int (128 : Int32)), .val (.int (191 : Int32)), .unset, .unset] []))
     refine own_st (fun t_ => XS.iloadN (own_here Y0) hx rfl (hb hby own_d9_180) rfl) ?_
     show own_Ends _ _ _ _ (T0.setTop (mkF m 181 #[.val (.ref r0), .val (.int (0 : Int32)), .val (.int (1 : Int32)), .val (.int (0 : Int32)), .val (.int a), .val (.int (2 : Int32)), .val (.int (128 : Int32)), .val (.int (191 : Int32)), .unset, .unset] [(.int (1 : Int32))]))
     refine own_st (fun t_ => XS.iloadN (own_here Y0) hx rfl (hb hby own_d9_181) rfl) ?_
     show own_Ends _ _ _ _ (T0.setTop (mkF m 182 #[.val (.ref r0), .val (.int (0 : Int32)), .val (.int (1 : Int32)), .val (.int (0 : Int32)), .val (.int a), .val (.int (2 : Int32)), .val (.int (128 : Int32)), .val (.int (191 : Int32)), .unset, .unset] [(.int (0 : Int32)), (.int (1 : Int32))]))
     refine own_st (fun t_ => XS.isub (own_here Y0) hx rfl (hb hby own_d9_182) rfl) ?_
     show own_Ends _ _ _ _ (T0.setTop (mkF m 183 #[.val (.ref r0), .val (.int (0 : Int32)), .val (.int (1 : Int32)), .val (.int (0 : Int32)), .val (.int a), .val (.int (2 : Int32)), .val (.int (128 : Int32)), .val (.int (191 : Int32)), .unset, .unset] [(.int (1 : Int32))]))
     refine own_st (fun t_ => XS.iload (own_here Y0) hx rfl (hb hby own_d9_183) rfl) ?_
     show own_Ends _ _ _ _ (T0.setTop (mkF m 185 #[.val (.ref r0), .val (.int (0 : Int32)), .val (.int (1 : Int32)), .val (.int (0 : Int32)), .val (.int a), .val (.int (2 : Int32)), .val (.int (128 : Int32)), .val (.int (191 : Int32)), .unset, .unset] [(.int (2 : Int32)), (.int (1 : Int32))]))
     refine own_st (fun t_ => XS.icmpNo (own_here Y0) hx rfl (hb hby own_d9_185) rfl (XT.ii_ge_f (by decide))) ?_
     show own_Ends _ _ _ _ (T0.setTop (mkF m 188 #[.val (.ref r0), .val (.int (0 : Int32)), .val (.int (1 : Int32)), .val (.int (0 : Int32)), .val (.int a), .val (.int (2 : Int32)), .val (.int (128 : Int32)), .val (.int (191 : Int32)), .unset, .unset] []))
     refine own_st (fun t_ => XS.iconst (own_here Y0) hx rfl (hb hby own_d9_188) ) ?_
     show own_Ends _ _ _ _ (T0.setTop (mkF m 189 #[.val (.ref r0), .val (.int (0 : Int32)), .val (.int (1 : Int32)), .val (.int (0 : Int32)), .val (.int a), .val (.int (2 : Int32)), .val (.int (128 : Int32)), .val (.int (191 : Int32)), .unset, .unset] [(.int (0 : Int32))]))
     refine own_retN Y0 hx hlk (t := .boolean) hret (by simp) (hb hby own_d9_189) (by decide) (by decide) ?_
     refine ⟨?_, rfl⟩
     have ua := own_u8 w_; rw [ha] at ua
     have e128 : (128 : Int32).toInt = 128 := rfl
     have q := c21_692; rw [own_lt] at q
     have : decide (0 ≤ w_.toInt) = false := by simp only [decide_eq_false_iff_not]; omega
     rw [this]; rfl
theorem own_d10_0 : decode prog_57_method_11_code 0 = .ok (.aload_n 0, 1) := by decide +kernel
theorem own_d10_1 : decode prog_57_method_11_code 1 = .ok (.getfield 40, 3) := by decide +kernel
theorem own_d10_4 : decode prog_57_method_11_code 4 = .ok (.aload_n 0, 1) := by decide +kernel
theorem own_d10_5 : decode prog_57_method_11_code 5 = .ok (.getfield 24, 3) := by decide +kernel
theorem own_d10_8 : decode prog_57_method_11_code 8 = .ok (.arraylength, 1) := by decide +kernel
theorem own_d10_9 : decode prog_57_method_11_code 9 = .ok (.if_icmp .ne 54, 3) := by decide +kernel
theorem own_d10_63 : decode prog_57_method_11_code 63 = .ok (.aload_n 0, 1) := by decide +kernel
theorem own_d10_64 : decode prog_57_method_11_code 64 = .ok (.getfield 20, 3) := by decide +kernel
theorem own_d10_67 : decode prog_57_method_11_code 67 = .ok (.aload_n 0, 1) := by decide +kernel
theorem own_d10_68 : decode prog_57_method_11_code 68 = .ok (.getfield 40, 3) := by decide +kernel
theorem own_d10_71 : decode prog_57_method_11_code 71 = .ok (.iload_n 1, 1) := by decide +kernel
theorem own_d10_72 : decode prog_57_method_11_code 72 = .ok (.iastore, 1) := by decide +kernel
theorem own_d10_73 : decode prog_57_method_11_code 73 = .ok (.aload_n 0, 1) := by decide +kernel
theorem own_d10_74 : decode prog_57_method_11_code 74 = .ok (.getfield 27, 3) := by decide +kernel
theorem own_d10_77 : decode prog_57_method_11_code 77 = .ok (.aload_n 0, 1) := by decide +kernel
theorem own_d10_78 : decode prog_57_method_11_code 78 = .ok (.getfield 40, 3) := by decide +kernel
theorem own_d10_81 : decode prog_57_method_11_code 81 = .ok (.iload_n 3, 1) := by decide +kernel
theorem own_d10_82 : decode prog_57_method_11_code 82 = .ok (.iastore, 1) := by decide +kernel
theorem own_d10_83 : decode prog_57_method_11_code 83 = .ok (.aload_n 0, 1) := by decide +kernel
theorem own_d10_84 : decode prog_57_method_11_code 84 = .ok (.getfield 24, 3) := by decide +kernel
theorem own_d10_87 : decode prog_57_method_11_code 87 = .ok (.aload_n 0, 1) := by decide +kernel
theorem own_d10_88 : decode prog_57_method_11_code 88 = .ok (.dup, 1) := by decide +kernel
theorem own_d10_89 : decode prog_57_method_11_code 89 = .ok (.getfield 40, 3) := by decide +kernel
theorem own_d10_92 : decode prog_57_method_11_code 92 = .ok (.dup_x1, 1) := by decide +kernel
theorem own_d10_93 : decode prog_57_method_11_code 93 = .ok (.iconst 1, 1) := by decide +kernel
theorem own_d10_94 : decode prog_57_method_11_code 94 = .ok (.iadd, 1) := by decide +kernel
theorem own_d10_95 : decode prog_57_method_11_code 95 = .ok (.putfield 40, 3) := by decide +kernel
theorem own_d10_98 : decode prog_57_method_11_code 98 = .ok (.iload_n 2, 1) := by decide +kernel
theorem own_d10_99 : decode prog_57_method_11_code 99 = .ok (.iastore, 1) := by decide +kernel
theorem own_d10_100 : decode prog_57_method_11_code 100 = .ok (.return_, 1) := by decide +kernel
theorem own_ef_own_rm10 (m : MethodId) (r0 : Addr) (x1 : Int32) (x2 : Int32) (x3 : Int32) : entryFrame m #[(.ref r0), (.int x1), (.int x2), (.int x3)] 4 = mkF m 0 #[.val (.ref r0), .val (.int x1), .val (.int x2), .val (.int x3)] [] := by first | (simp [entryFrame, mkF, argsToLocals, Value.category]; done) | rfl
def own_Q_own_rm10 (Z : State) (r0 bh bs be bp by_ : Addr) (hv sv ev pv : List Value) (mx ln stt bits x1 x2 x3 : Int32) (h0 : Heap) (n0 : Nat) (v : Option Value) (h : Heap) : Prop := v = none ∧ Keep h0 h [r0, bs, bp, be] ∧ Exa Z h r0 "kombos/io/FieldBytes" ∧ Fld Z h r0 "kombos/io/FieldBytes" "maxRecordLength" "I" (.int mx) ∧ Fld Z h r0 "kombos/io/FieldBytes" "length" "I" (.int ln) ∧ Fld Z h r0 "kombos/io/FieldBytes" "start" "I" (.int stt) ∧ Fld Z h r0 "kombos/io/FieldBytes" "count" "I" (.int 1) ∧ Fld Z h r0 "kombos/io/FieldBytes" "bits" "I" (.int bits) ∧ Fld Z h r0 "kombos/io/FieldBytes" "tooLong" "Z" (.int 0) ∧ Fld Z h r0 "kombos/io/FieldBytes" "full" "Z" (.int 0) ∧ Fld Z h r0 "kombos/io/FieldBytes" "held" "[B" (.ref bh) ∧ Fld Z h r0 "kombos/io/FieldBytes" "bytes" "[B" (.ref by_) ∧ Fld Z h r0 "kombos/io/FieldBytes" "starts" "[I" (.ref bs) ∧ Fld Z h r0 "kombos/io/FieldBytes" "ends" "[I" (.ref be) ∧ Fld Z h r0 "kombos/io/FieldBytes" "plain" "[I" (.ref bp) ∧ own_A Z h bh .byte hv ∧ own_A Z h bs .int (sv.set 0 (.int x1)) ∧ own_A Z h be .int (ev.set 0 (.int x2)) ∧ own_A Z h bp .int (pv.set 0 (.int x3))
set_option maxRecDepth 65536 in
set_option maxHeartbeats 40000000 in
theorem own_rm10 (l : Launch) (Z : State) (a0 : Array Value) (hw : ∀ d ∈ tables_1, d.before a0 Z = true) (ws : List Jvm.Cond) (r0 : Addr) (x1 : Int32) (x2 : Int32) (x3 : Int32) (bh bs be bp : Addr) (hv sv ev pv : List Value) (mx ln stt bits : Int32) (by_ : Addr) (h0 : Heap) (n0 : Nat)  (E : Exa Z h0 r0 "kombos/io/FieldBytes") (FmaxRecordLength : Fld Z h0 r0 "kombos/io/FieldBytes" "maxRecordLength" "I" (.int mx)) (Flength : Fld Z h0 r0 "kombos/io/FieldBytes" "length" "I" (.int ln)) (Fstart : Fld Z h0 r0 "kombos/io/FieldBytes" "start" "I" (.int stt)) (Fcount : Fld Z h0 r0 "kombos/io/FieldBytes" "count" "I" (.int 0)) (Fbits : Fld Z h0 r0 "kombos/io/FieldBytes" "bits" "I" (.int bits)) (FtooLong : Fld Z h0 r0 "kombos/io/FieldBytes" "tooLong" "Z" (.int 0)) (Ffull : Fld Z h0 r0 "kombos/io/FieldBytes" "full" "Z" (.int 0)) (Fheld : Fld Z h0 r0 "kombos/io/FieldBytes" "held" "[B" (.ref bh)) (Fbytes : Fld Z h0 r0 "kombos/io/FieldBytes" "bytes" "[B" (.ref by_)) (Fstarts : Fld Z h0 r0 "kombos/io/FieldBytes" "starts" "[I" (.ref bs)) (Fends : Fld Z h0 r0 "kombos/io/FieldBytes" "ends" "[I" (.ref be)) (Fplain : Fld Z h0 r0 "kombos/io/FieldBytes" "plain" "[I" (.ref bp)) (Abh : own_A Z h0 bh .byte hv) (Abs : own_A Z h0 bs .int sv) (Abe : own_A Z h0 be .int ev) (Abp : own_A Z h0 bp .int pv) (ge_r : n0 ≤ r0) (ge_bh : n0 ≤ bh) (ge_bs : n0 ≤ bs) (ge_be : n0 ≤ be) (ge_bp : n0 ≤ bp) (ne_bh_r0 : bh ≠ r0) (ne_bs_r0 : bs ≠ r0) (ne_be_r0 : be ≠ r0) (ne_bp_r0 : bp ≠ r0) (ne_bh_bs : bh ≠ bs) (ne_bh_be : bh ≠ be) (ne_bh_bp : bh ≠ bp) (ne_bs_be : bs ≠ be) (ne_bs_bp : bs ≠ bp) (ne_be_bp : be ≠ bp) (hvl : hv.length = 64) (svl : sv.length = 8) (evl : ev.length = 8) (pvl : pv.length = 8) :
    own_Con l Z (⟨"kombos/io/FieldBytes", "mark", "(III)V"⟩ : MethodName) prog_57_method_11_code 4 none ws ({ frames := 0, cells := 0, slots := 0, locals := 0 } : Room) #[(.ref r0), (.int x1), (.int x2), (.int x3)] h0 n0 (own_Q_own_rm10 Z r0 bh bs be bp by_ hv sv ev pv mx ln stt bits x1 x2 x3 h0 n0) := by
  refine own_body (plainFor_of_name own_pn0) ?_
  intro p e s m below meth c T0 hx hZ hby hml hown hnm hret hlk Y0
  replace hown : s.vm.findClass "kombos/io/FieldBytes" = some m.cls := hown
  replace hnm : meth.name = "mark" := hnm
  rw [own_ef_own_rm10 m r0 x1 x2 x3]
  show own_Ends _ _ _ _ (T0.setTop (mkF m 0 #[.val (.ref r0), .val (.int x1), .val (.int x2), .val (.int x3)] []))
  refine own_st (fun t_ => XS.aloadN (own_here Y0) hx rfl (hb hby own_d10_0) rfl rfl) ?_
  show own_Ends _ _ _ _ (T0.setTop (mkF m 1 #[.val (.ref r0), .val (.int x1), .val (.int x2), .val (.int x3)] [(.ref r0)]))
  refine own_getF Y0 hx hZ hown (host := "") (Or.inl (hw _ (List.mem_of_getElem? (i := 68) rfl))) Via.refl Fcount rfl rfl (hb hby own_d10_1) (fun T701 Y702 => ?_)
  show own_Ends _ _ _ _ (T701.setTop (mkF m 4 #[.val (.ref r0), .val (.int x1), .val (.int x2), .val (.int x3)] [(.int (0 : Int32))]))
  refine own_st (fun t_ => XS.aloadN (own_here Y702) hx rfl (hb hby own_d10_4) rfl rfl) ?_
  show own_Ends _ _ _ _ (T701.setTop (mkF m 5 #[.val (.ref r0), .val (.int x1), .val (.int x2), .val (.int x3)] [(.ref r0), (.int (0 : Int32))]))
  refine own_getF Y702 hx hZ hown (host := "") (Or.inl (hw _ (List.mem_of_getElem? (i := 17) rfl))) Via.refl Fends rfl rfl (hb hby own_d10_5) (fun T703 Y704 => ?_)
  show own_Ends _ _ _ _ (T703.setTop (mkF m 8 #[.val (.ref r0), .val (.int x1), .val (.int x2), .val (.int x3)] [(.ref be), (.int (0 : Int32))]))
  refine own_len Y704 hx hZ Abe (z := (8 : Int32)) (by rw [evl]; rfl) rfl rfl (hb hby own_d10_8) ?_
  show own_Ends _ _ _ _ (T703.setTop (mkF m 9 #[.val (.ref r0), .val (.int x1), .val (.int x2), .val (.int x3)] [(.int (8 : Int32)), (.int (0 : Int32))]))
  refine own_st (fun t_ => XS.icmpYes (own_here Y704) hx rfl (pc0 := 9) (pc' := 63) rfl (hb hby own_d10_9) rfl (XT.ii_ne_t (by decide)) (by decide) (by decide)) ?_
  show own_Ends _ _ _ _ (T703.setTop (mkF m 63 #[.val (.ref r0), .val (.int x1), .val (.int x2), .val (.int x3)] []))
  refine own_st (fun t_ => XS.aloadN (own_here Y704) hx rfl (hb hby own_d10_63) rfl rfl) ?_
  show own_Ends _ _ _ _ (T703.setTop (mkF m 64 #[.val (.ref r0), .val (.int x1), .val (.int x2), .val (.int x3)] [(.ref r0)]))
  refine own_getF Y704 hx hZ hown (host := "") (Or.inl (hw _ (List.mem_of_getElem? (i := 15) rfl))) Via.refl Fstarts rfl rfl (hb hby own_d10_64) (fun T705 Y706 => ?_)
  show own_Ends _ _ _ _ (T705.setTop (mkF m 67 #[.val (.ref r0), .val (.int x1), .val (.int x2), .val (.int x3)] [(.ref bs)]))
  refine own_st (fun t_ => XS.aloadN (own_here Y706) hx rfl (hb hby own_d10_67) rfl rfl) ?_
  show own_Ends _ _ _ _ (T705.setTop (mkF m 68 #[.val (.ref r0), .val (.int x1), .val (.int x2), .val (.int x3)] [(.ref r0), (.ref bs)]))
  refine own_getF Y706 hx hZ hown (host := "") (Or.inl (hw _ (List.mem_of_getElem? (i := 68) rfl))) Via.refl Fcount rfl rfl (hb hby own_d10_68) (fun T707 Y708 => ?_)
  show own_Ends _ _ _ _ (T707.setTop (mkF m 71 #[.val (.ref r0), .val (.int x1), .val (.int x2), .val (.int x3)] [(.int (0 : Int32)), (.ref bs)]))
  refine own_st (fun t_ => XS.iloadN (own_here Y708) hx rfl (hb hby own_d10_71) rfl) ?_
  show own_Ends _ _ _ _ (T707.setTop (mkF m 72 #[.val (.ref r0), .val (.int x1), .val (.int x2), .val (.int x3)] [(.int x1), (.int (0 : Int32)), (.ref bs)]))
  refine own_stI Y708 hx hZ Abs ge_bs (i := 0) (by decide) (by decide) (by rw [svl]; decide) rfl rfl (hb hby own_d10_72) (fun T709 h711 Y710 W712 A713 => ?_)
  show own_Ends _ _ _ _ (T709.setTop (mkF m 73 #[.val (.ref r0), .val (.int x1), .val (.int x2), .val (.int x3)] []))
  refine own_st (fun t_ => XS.aloadN (own_here Y710) hx rfl (hb hby own_d10_73) rfl rfl) ?_
  show own_Ends _ _ _ _ (T709.setTop (mkF m 74 #[.val (.ref r0), .val (.int x1), .val (.int x2), .val (.int x3)] [(.ref r0)]))
  have f714 : Fld Z h711 r0 "kombos/io/FieldBytes" "plain" "[I" (.ref bp) := Fplain.other W712 (Or.inl (Ne.symm ne_bs_r0))
  refine own_getF Y710 hx hZ hown (host := "") (Or.inl (hw _ (List.mem_of_getElem? (i := 19) rfl))) Via.refl f714 rfl rfl (hb hby own_d10_74) (fun T715 Y716 => ?_)
  show own_Ends _ _ _ _ (T715.setTop (mkF m 77 #[.val (.ref r0), .val (.int x1), .val (.int x2), .val (.int x3)] [(.ref bp)]))
  refine own_st (fun t_ => XS.aloadN (own_here Y716) hx rfl (hb hby own_d10_77) rfl rfl) ?_
  show own_Ends _ _ _ _ (T715.setTop (mkF m 78 #[.val (.ref r0), .val (.int x1), .val (.int x2), .val (.int x3)] [(.ref r0), (.ref bp)]))
  have f717 : Fld Z h711 r0 "kombos/io/FieldBytes" "count" "I" (.int (0 : Int32)) := Fcount.other W712 (Or.inl (Ne.symm ne_bs_r0))
  refine own_getF Y716 hx hZ hown (host := "") (Or.inl (hw _ (List.mem_of_getElem? (i := 68) rfl))) Via.refl f717 rfl rfl (hb hby own_d10_78) (fun T718 Y719 => ?_)
  show own_Ends _ _ _ _ (T718.setTop (mkF m 81 #[.val (.ref r0), .val (.int x1), .val (.int x2), .val (.int x3)] [(.int (0 : Int32)), (.ref bp)]))
  refine own_st (fun t_ => XS.iloadN (own_here Y719) hx rfl (hb hby own_d10_81) rfl) ?_
  show own_Ends _ _ _ _ (T718.setTop (mkF m 82 #[.val (.ref r0), .val (.int x1), .val (.int x2), .val (.int x3)] [(.int x3), (.int (0 : Int32)), (.ref bp)]))
  have f720 : own_A Z h711 bp .int pv := Abp.other W712 (Ne.symm ne_bs_bp)
  refine own_stI Y719 hx hZ f720 ge_bp (i := 0) (by decide) (by decide) (by rw [pvl]; decide) rfl rfl (hb hby own_d10_82) (fun T721 h723 Y722 W724 A725 => ?_)
  show own_Ends _ _ _ _ (T721.setTop (mkF m 83 #[.val (.ref r0), .val (.int x1), .val (.int x2), .val (.int x3)] []))
  refine own_st (fun t_ => XS.aloadN (own_here Y722) hx rfl (hb hby own_d10_83) rfl rfl) ?_
  show own_Ends _ _ _ _ (T721.setTop (mkF m 84 #[.val (.ref r0), .val (.int x1), .val (.int x2), .val (.int x3)] [(.ref r0)]))
  have f726 : Fld Z h711 r0 "kombos/io/FieldBytes" "ends" "[I" (.ref be) := Fends.other W712 (Or.inl (Ne.symm ne_bs_r0))
  have f727 : Fld Z h723 r0 "kombos/io/FieldBytes" "ends" "[I" (.ref be) := f726.other W724 (Or.inl (Ne.symm ne_bp_r0))
  refine own_getF Y722 hx hZ hown (host := "") (Or.inl (hw _ (List.mem_of_getElem? (i := 17) rfl))) Via.refl f727 rfl rfl (hb hby own_d10_84) (fun T728 Y729 => ?_)
  show own_Ends _ _ _ _ (T728.setTop (mkF m 87 #[.val (.ref r0), .val (.int x1), .val (.int x2), .val (.int x3)] [(.ref be)]))
  refine own_st (fun t_ => XS.aloadN (own_here Y729) hx rfl (hb hby own_d10_87) rfl rfl) ?_
  show own_Ends _ _ _ _ (T728.setTop (mkF m 88 #[.val (.ref r0), .val (.int x1), .val (.int x2), .val (.int x3)] [(.ref r0), (.ref be)]))
  refine own_st (fun t_ => XS.dup (own_here Y729) hx rfl (hb hby own_d10_88) rfl rfl) ?_
  show own_Ends _ _ _ _ (T728.setTop (mkF m 89 #[.val (.ref r0), .val (.int x1), .val (.int x2), .val (.int x3)] [(.ref r0), (.ref r0), (.ref be)]))
  have f730 : Fld Z h723 r0 "kombos/io/FieldBytes" "count" "I" (.int (0 : Int32)) := f717.other W724 (Or.inl (Ne.symm ne_bp_r0))
  refine own_getF Y729 hx hZ hown (host := "") (Or.inl (hw _ (List.mem_of_getElem? (i := 68) rfl))) Via.refl f730 rfl rfl (hb hby own_d10_89) (fun T731 Y732 => ?_)
  show own_Ends _ _ _ _ (T731.setTop (mkF m 92 #[.val (.ref r0), .val (.int x1), .val (.int x2), .val (.int x3)] [(.int (0 : Int32)), (.ref r0), (.ref be)]))
  refine own_st (fun t_ => XS.dupX1 (own_here Y732) hx rfl (hb hby own_d10_92) rfl rfl rfl) ?_
  show own_Ends _ _ _ _ (T731.setTop (mkF m 93 #[.val (.ref r0), .val (.int x1), .val (.int x2), .val (.int x3)] [(.int (0 : Int32)), (.ref r0), (.int (0 : Int32)), (.ref be)]))
  refine own_st (fun t_ => XS.iconst (own_here Y732) hx rfl (hb hby own_d10_93) ) ?_
  show own_Ends _ _ _ _ (T731.setTop (mkF m 94 #[.val (.ref r0), .val (.int x1), .val (.int x2), .val (.int x3)] [(.int (1 : Int32)), (.int (0 : Int32)), (.ref r0), (.int (0 : Int32)), (.ref be)]))
  refine own_st (fun t_ => XS.iadd (own_here Y732) hx rfl (hb hby own_d10_94) rfl) ?_
  show own_Ends _ _ _ _ (T731.setTop (mkF m 95 #[.val (.ref r0), .val (.int x1), .val (.int x2), .val (.int x3)] [(.int (1 : Int32)), (.ref r0), (.int (0 : Int32)), (.ref be)]))
  have f733 : Exa Z h711 r0 "kombos/io/FieldBytes" := E.wr W712
  have f734 : Exa Z h723 r0 "kombos/io/FieldBytes" := f733.wr W724
  refine own_putF Y732 hx hZ hown (host := "") (Or.inl (hw _ (List.mem_of_getElem? (i := 68) rfl))) Via.refl f730 f734 (Or.inl (hw _ (List.mem_of_getElem? (i := 69) rfl))) (hw _ (List.mem_of_getElem? (i := 1) rfl)) ge_r (ty := .int) (by decide) rfl rfl rfl rfl (hb hby own_d10_95) (fun T735 h737 Y736 W738 F739 => ?_)
  show own_Ends _ _ _ _ (T735.setTop (mkF m 98 #[.val (.ref r0), .val (.int x1), .val (.int x2), .val (.int x3)] [(.int (0 : Int32)), (.ref be)]))
  refine own_st (fun t_ => XS.iloadN (own_here Y736) hx rfl (hb hby own_d10_98) rfl) ?_
  show own_Ends _ _ _ _ (T735.setTop (mkF m 99 #[.val (.ref r0), .val (.int x1), .val (.int x2), .val (.int x3)] [(.int x2), (.int (0 : Int32)), (.ref be)]))
  have f740 : own_A Z h711 be .int ev := Abe.other W712 (Ne.symm ne_bs_be)
  have f741 : own_A Z h723 be .int ev := f740.other W724 ne_be_bp
  have f742 : own_A Z h737 be .int ev := f741.other W738 ne_be_r0
  refine own_stI Y736 hx hZ f742 ge_be (i := 0) (by decide) (by decide) (by rw [evl]; decide) rfl rfl (hb hby own_d10_99) (fun T743 h745 Y744 W746 A747 => ?_)
  show own_Ends _ _ _ _ (T743.setTop (mkF m 100 #[.val (.ref r0), .val (.int x1), .val (.int x2), .val (.int x3)] []))
  have K748 : Keep h0 h711 [r0, bs, bp, be] := (Keep.refl h0 [r0, bs, bp, be]).wr W712 (Or.inl (List.mem_of_getElem? (i := 1) rfl))
  have K749 : Keep h0 h723 [r0, bs, bp, be] := K748.wr W724 (Or.inl (List.mem_of_getElem? (i := 2) rfl))
  have K750 : Keep h0 h737 [r0, bs, bp, be] := K749.wr W738 (Or.inl (List.mem_of_getElem? (i := 0) rfl))
  have K751 : Keep h0 h745 [r0, bs, bp, be] := K750.wr W746 (Or.inl (List.mem_of_getElem? (i := 3) rfl))
  have f752 : Exa Z h737 r0 "kombos/io/FieldBytes" := f734.wr W738
  have f753 : Exa Z h745 r0 "kombos/io/FieldBytes" := f752.wr W746
  have f754 : Fld Z h711 r0 "kombos/io/FieldBytes" "maxRecordLength" "I" (.int mx) := FmaxRecordLength.other W712 (Or.inl (Ne.symm ne_bs_r0))
  have f755 : Fld Z h723 r0 "kombos/io/FieldBytes" "maxRecordLength" "I" (.int mx) := f754.other W724 (Or.inl (Ne.symm ne_bp_r0))
  have f756 : Fld Z h737 r0 "kombos/io/FieldBytes" "maxRecordLength" "I" (.int mx) := f755.other W738 (Or.inr (slot_ne (Or.inr (hw _ (List.mem_of_getElem? (i := 22) rfl))) (Or.inl (hw _ (List.mem_of_getElem? (i := 69) rfl))) (by decide) (t := .int) (t' := .int) (by decide) (by decide)))
  have f757 : Fld Z h745 r0 "kombos/io/FieldBytes" "maxRecordLength" "I" (.int mx) := f756.other W746 (Or.inl (Ne.symm ne_be_r0))
  have f758 : Fld Z h711 r0 "kombos/io/FieldBytes" "length" "I" (.int ln) := Flength.other W712 (Or.inl (Ne.symm ne_bs_r0))
  have f759 : Fld Z h723 r0 "kombos/io/FieldBytes" "length" "I" (.int ln) := f758.other W724 (Or.inl (Ne.symm ne_bp_r0))
  have f760 : Fld Z h737 r0 "kombos/io/FieldBytes" "length" "I" (.int ln) := f759.other W738 (Or.inr (slot_ne (Or.inl (hw _ (List.mem_of_getElem? (i := 43) rfl))) (Or.inl (hw _ (List.mem_of_getElem? (i := 69) rfl))) (by decide) (t := .int) (t' := .int) (by decide) (by decide)))
  have f761 : Fld Z h745 r0 "kombos/io/FieldBytes" "length" "I" (.int ln) := f760.other W746 (Or.inl (Ne.symm ne_be_r0))
  have f762 : Fld Z h711 r0 "kombos/io/FieldBytes" "start" "I" (.int stt) := Fstart.other W712 (Or.inl (Ne.symm ne_bs_r0))
  have f763 : Fld Z h723 r0 "kombos/io/FieldBytes" "start" "I" (.int stt) := f762.other W724 (Or.inl (Ne.symm ne_bp_r0))
  have f764 : Fld Z h737 r0 "kombos/io/FieldBytes" "start" "I" (.int stt) := f763.other W738 (Or.inr (slot_ne (Or.inl (hw _ (List.mem_of_getElem? (i := 45) rfl))) (Or.inl (hw _ (List.mem_of_getElem? (i := 69) rfl))) (by decide) (t := .int) (t' := .int) (by decide) (by decide)))
  have f765 : Fld Z h745 r0 "kombos/io/FieldBytes" "start" "I" (.int stt) := f764.other W746 (Or.inl (Ne.symm ne_be_r0))
  have f766 : Fld Z h745 r0 "kombos/io/FieldBytes" "count" "I" (.int (1 : Int32)) := F739.other W746 (Or.inl (Ne.symm ne_be_r0))
  have f767 : Fld Z h711 r0 "kombos/io/FieldBytes" "bits" "I" (.int bits) := Fbits.other W712 (Or.inl (Ne.symm ne_bs_r0))
  have f768 : Fld Z h723 r0 "kombos/io/FieldBytes" "bits" "I" (.int bits) := f767.other W724 (Or.inl (Ne.symm ne_bp_r0))
  have f769 : Fld Z h737 r0 "kombos/io/FieldBytes" "bits" "I" (.int bits) := f768.other W738 (Or.inr (slot_ne (Or.inl (hw _ (List.mem_of_getElem? (i := 47) rfl))) (Or.inl (hw _ (List.mem_of_getElem? (i := 69) rfl))) (by decide) (t := .int) (t' := .int) (by decide) (by decide)))
  have f770 : Fld Z h745 r0 "kombos/io/FieldBytes" "bits" "I" (.int bits) := f769.other W746 (Or.inl (Ne.symm ne_be_r0))
  have f771 : Fld Z h711 r0 "kombos/io/FieldBytes" "tooLong" "Z" (.int (0 : Int32)) := FtooLong.other W712 (Or.inl (Ne.symm ne_bs_r0))
  have f772 : Fld Z h723 r0 "kombos/io/FieldBytes" "tooLong" "Z" (.int (0 : Int32)) := f771.other W724 (Or.inl (Ne.symm ne_bp_r0))
  have f773 : Fld Z h737 r0 "kombos/io/FieldBytes" "tooLong" "Z" (.int (0 : Int32)) := f772.other W738 (Or.inr (slot_ne (Or.inl (hw _ (List.mem_of_getElem? (i := 57) rfl))) (Or.inl (hw _ (List.mem_of_getElem? (i := 69) rfl))) (by decide) (t := .boolean) (t' := .int) (by decide) (by decide)))
  have f774 : Fld Z h745 r0 "kombos/io/FieldBytes" "tooLong" "Z" (.int (0 : Int32)) := f773.other W746 (Or.inl (Ne.symm ne_be_r0))
  have f775 : Fld Z h711 r0 "kombos/io/FieldBytes" "full" "Z" (.int (0 : Int32)) := Ffull.other W712 (Or.inl (Ne.symm ne_bs_r0))
  have f776 : Fld Z h723 r0 "kombos/io/FieldBytes" "full" "Z" (.int (0 : Int32)) := f775.other W724 (Or.inl (Ne.symm ne_bp_r0))
  have f777 : Fld Z h737 r0 "kombos/io/FieldBytes" "full" "Z" (.int (0 : Int32)) := f776.other W738 (Or.inr (slot_ne (Or.inl (hw _ (List.mem_of_getElem? (i := 59) rfl))) (Or.inl (hw _ (List.mem_of_getElem? (i := 69) rfl))) (by decide) (t := .boolean) (t' := .int) (by decide) (by decide)))
  have f778 : Fld Z h745 r0 "kombos/io/FieldBytes" "full" "Z" (.int (0 : Int32)) := f777.other W746 (Or.inl (Ne.symm ne_be_r0))
  have f779 : Fld Z h711 r0 "kombos/io/FieldBytes" "held" "[B" (.ref bh) := Fheld.other W712 (Or.inl (Ne.symm ne_bs_r0))
  have f780 : Fld Z h723 r0 "kombos/io/FieldBytes" "held" "[B" (.ref bh) := f779.other W724 (Or.inl (Ne.symm ne_bp_r0))
  have f781 : Fld Z h737 r0 "kombos/io/FieldBytes" "held" "[B" (.ref bh) := f780.other W738 (Or.inr (slot_ne (Or.inl (hw _ (List.mem_of_getElem? (i := 11) rfl))) (Or.inl (hw _ (List.mem_of_getElem? (i := 69) rfl))) (by decide) (t := (.array .byte)) (t' := .int) (by decide) (by decide)))
  have f782 : Fld Z h745 r0 "kombos/io/FieldBytes" "held" "[B" (.ref bh) := f781.other W746 (Or.inl (Ne.symm ne_be_r0))
  have f783 : Fld Z h711 r0 "kombos/io/FieldBytes" "bytes" "[B" (.ref by_) := Fbytes.other W712 (Or.inl (Ne.symm ne_bs_r0))
  have f784 : Fld Z h723 r0 "kombos/io/FieldBytes" "bytes" "[B" (.ref by_) := f783.other W724 (Or.inl (Ne.symm ne_bp_r0))
  have f785 : Fld Z h737 r0 "kombos/io/FieldBytes" "bytes" "[B" (.ref by_) := f784.other W738 (Or.inr (slot_ne (Or.inl (hw _ (List.mem_of_getElem? (i := 13) rfl))) (Or.inl (hw _ (List.mem_of_getElem? (i := 69) rfl))) (by decide) (t := (.array .byte)) (t' := .int) (by decide) (by decide)))
  have f786 : Fld Z h745 r0 "kombos/io/FieldBytes" "bytes" "[B" (.ref by_) := f785.other W746 (Or.inl (Ne.symm ne_be_r0))
  have f787 : Fld Z h711 r0 "kombos/io/FieldBytes" "starts" "[I" (.ref bs) := Fstarts.other W712 (Or.inl (Ne.symm ne_bs_r0))
  have f788 : Fld Z h723 r0 "kombos/io/FieldBytes" "starts" "[I" (.ref bs) := f787.other W724 (Or.inl (Ne.symm ne_bp_r0))
  have f789 : Fld Z h737 r0 "kombos/io/FieldBytes" "starts" "[I" (.ref bs) := f788.other W738 (Or.inr (slot_ne (Or.inl (hw _ (List.mem_of_getElem? (i := 16) rfl))) (Or.inl (hw _ (List.mem_of_getElem? (i := 69) rfl))) (by decide) (t := (.array .int)) (t' := .int) (by decide) (by decide)))
  have f790 : Fld Z h745 r0 "kombos/io/FieldBytes" "starts" "[I" (.ref bs) := f789.other W746 (Or.inl (Ne.symm ne_be_r0))
  have f791 : Fld Z h737 r0 "kombos/io/FieldBytes" "ends" "[I" (.ref be) := f727.other W738 (Or.inr (slot_ne (Or.inl (hw _ (List.mem_of_getElem? (i := 18) rfl))) (Or.inl (hw _ (List.mem_of_getElem? (i := 69) rfl))) (by decide) (t := (.array .int)) (t' := .int) (by decide) (by decide)))
  have f792 : Fld Z h745 r0 "kombos/io/FieldBytes" "ends" "[I" (.ref be) := f791.other W746 (Or.inl (Ne.symm ne_be_r0))
  have f793 : Fld Z h723 r0 "kombos/io/FieldBytes" "plain" "[I" (.ref bp) := f714.other W724 (Or.inl (Ne.symm ne_bp_r0))
  have f794 : Fld Z h737 r0 "kombos/io/FieldBytes" "plain" "[I" (.ref bp) := f793.other W738 (Or.inr (slot_ne (Or.inl (hw _ (List.mem_of_getElem? (i := 20) rfl))) (Or.inl (hw _ (List.mem_of_getElem? (i := 69) rfl))) (by decide) (t := (.array .int)) (t' := .int) (by decide) (by decide)))
  have f795 : Fld Z h745 r0 "kombos/io/FieldBytes" "plain" "[I" (.ref bp) := f794.other W746 (Or.inl (Ne.symm ne_be_r0))
  have f796 : own_A Z h711 bh .byte hv := Abh.other W712 ne_bh_bs
  have f797 : own_A Z h723 bh .byte hv := f796.other W724 ne_bh_bp
  have f798 : own_A Z h737 bh .byte hv := f797.other W738 ne_bh_r0
  have f799 : own_A Z h745 bh .byte hv := f798.other W746 ne_bh_be
  have f800 : own_A Z h723 bs .int (sv.set 0 (.int x1)) := A713.other W724 ne_bs_bp
  have f801 : own_A Z h737 bs .int (sv.set 0 (.int x1)) := f800.other W738 ne_bs_r0
  have f802 : own_A Z h745 bs .int (sv.set 0 (.int x1)) := f801.other W746 ne_bs_be
  have f803 : own_A Z h737 bp .int (pv.set 0 (.int x3)) := A725.other W738 ne_bp_r0
  have f804 : own_A Z h745 bp .int (pv.set 0 (.int x3)) := f803.other W746 (Ne.symm ne_be_bp)
  refine own_retV Y744 hx hlk hret (hb hby own_d10_100) (by decide) (by decide) ?_
  exact ⟨rfl, K751, f753, f757, f761, f765, f766, f770, f774, f778, f782, f786, f790, f792, f795, f799, f802, A747, f804⟩
theorem own_pd4 : parseMethodDescriptor "([BII)Z" = some ⟨[(.array .byte), .int, .int], some .boolean⟩ := by decide +kernel
theorem own_pd5 : parseMethodDescriptor "(III)V" = some ⟨[.int, .int, .int], none⟩ := by decide +kernel
theorem own_d8_0 : decode prog_57_method_8_code 0 = .ok (.aconst_null, 1) := by decide +kernel
theorem own_d8_1 : decode prog_57_method_8_code 1 = .ok (.astore_n 1, 1) := by decide +kernel
theorem own_d8_2 : decode prog_57_method_8_code 2 = .ok (.aload_n 0, 1) := by decide +kernel
theorem own_d8_3 : decode prog_57_method_8_code 3 = .ok (.getfield 46, 3) := by decide +kernel
theorem own_d8_6 : decode prog_57_method_8_code 6 = .ok (.ifCond .eq 10, 3) := by decide +kernel
theorem own_d8_16 : decode prog_57_method_8_code 16 = .ok (.aload_n 0, 1) := by decide +kernel
theorem own_d8_17 : decode prog_57_method_8_code 17 = .ok (.getfield 50, 3) := by decide +kernel
theorem own_d8_20 : decode prog_57_method_8_code 20 = .ok (.ifCond .ne 31, 3) := by decide +kernel
theorem own_d8_23 : decode prog_57_method_8_code 23 = .ok (.aload_n 0, 1) := by decide +kernel
theorem own_d8_24 : decode prog_57_method_8_code 24 = .ok (.getfield 43, 3) := by decide +kernel
theorem own_d8_27 : decode prog_57_method_8_code 27 = .ok (.ifCond .ge 24, 3) := by decide +kernel
theorem own_d8_30 : decode prog_57_method_8_code 30 = .ok (.aload_n 0, 1) := by decide +kernel
theorem own_d8_31 : decode prog_57_method_8_code 31 = .ok (.getfield 13, 3) := by decide +kernel
theorem own_d8_34 : decode prog_57_method_8_code 34 = .ok (.aload_n 0, 1) := by decide +kernel
theorem own_d8_35 : decode prog_57_method_8_code 35 = .ok (.getfield 37, 3) := by decide +kernel
theorem own_d8_38 : decode prog_57_method_8_code 38 = .ok (.aload_n 0, 1) := by decide +kernel
theorem own_d8_39 : decode prog_57_method_8_code 39 = .ok (.getfield 34, 3) := by decide +kernel
theorem own_d8_42 : decode prog_57_method_8_code 42 = .ok (.invokestatic 89, 3) := by decide +kernel
theorem own_d8_45 : decode prog_57_method_8_code 45 = .ok (.ifCond .ne 6, 3) := by decide +kernel
theorem own_d8_48 : decode prog_57_method_8_code 48 = .ok (.ldc 95, 2) := by decide +kernel
theorem own_d8_50 : decode prog_57_method_8_code 50 = .ok (.astore_n 1, 1) := by decide +kernel
theorem own_d8_51 : decode prog_57_method_8_code 51 = .ok (.aload_n 1, 1) := by decide +kernel
theorem own_d8_52 : decode prog_57_method_8_code 52 = .ok (.ifnull 11, 3) := by decide +kernel
theorem own_d8_55 : decode prog_57_method_8_code 55 = .ok (.aload_n 0, 1) := by decide +kernel
theorem own_d8_56 : decode prog_57_method_8_code 56 = .ok (.aload_n 0, 1) := by decide +kernel
theorem own_d8_57 : decode prog_57_method_8_code 57 = .ok (.getfield 37, 3) := by decide +kernel
theorem own_d8_60 : decode prog_57_method_8_code 60 = .ok (.putfield 34, 3) := by decide +kernel
theorem own_d8_63 : decode prog_57_method_8_code 63 = .ok (.aload_n 0, 1) := by decide +kernel
theorem own_d8_64 : decode prog_57_method_8_code 64 = .ok (.aload_n 0, 1) := by decide +kernel
theorem own_d8_65 : decode prog_57_method_8_code 65 = .ok (.getfield 37, 3) := by decide +kernel
theorem own_d8_68 : decode prog_57_method_8_code 68 = .ok (.aload_n 0, 1) := by decide +kernel
theorem own_d8_69 : decode prog_57_method_8_code 69 = .ok (.getfield 34, 3) := by decide +kernel
theorem own_d8_72 : decode prog_57_method_8_code 72 = .ok (.aload_n 0, 1) := by decide +kernel
theorem own_d8_73 : decode prog_57_method_8_code 73 = .ok (.getfield 43, 3) := by decide +kernel
theorem own_d8_76 : decode prog_57_method_8_code 76 = .ok (.invokevirtual 97, 3) := by decide +kernel
theorem own_d8_79 : decode prog_57_method_8_code 79 = .ok (.aload_n 0, 1) := by decide +kernel
theorem own_d8_80 : decode prog_57_method_8_code 80 = .ok (.aload_n 0, 1) := by decide +kernel
theorem own_d8_81 : decode prog_57_method_8_code 81 = .ok (.getfield 34, 3) := by decide +kernel
theorem own_d8_84 : decode prog_57_method_8_code 84 = .ok (.putfield 37, 3) := by decide +kernel
theorem own_d8_87 : decode prog_57_method_8_code 87 = .ok (.aload_n 0, 1) := by decide +kernel
theorem own_d8_88 : decode prog_57_method_8_code 88 = .ok (.iconst 0, 1) := by decide +kernel
theorem own_d8_89 : decode prog_57_method_8_code 89 = .ok (.putfield 43, 3) := by decide +kernel
theorem own_d8_92 : decode prog_57_method_8_code 92 = .ok (.aload_n 0, 1) := by decide +kernel
theorem own_d8_93 : decode prog_57_method_8_code 93 = .ok (.iconst 0, 1) := by decide +kernel
theorem own_d8_94 : decode prog_57_method_8_code 94 = .ok (.putfield 46, 3) := by decide +kernel
theorem own_d8_97 : decode prog_57_method_8_code 97 = .ok (.aload_n 1, 1) := by decide +kernel
theorem own_d8_98 : decode prog_57_method_8_code 98 = .ok (.areturn, 1) := by decide +kernel
theorem own_ef_own_rm8 (m : MethodId) (r0 : Addr) : entryFrame m #[(.ref r0)] 2 = mkF m 0 #[.val (.ref r0), .unset] [] := by first | (simp [entryFrame, mkF, argsToLocals, Value.category]; done) | rfl
def own_Q_own_rm8 (Z : State) (r0 bh bs be bp by_ : Addr) (hv sv ev pv : List Value) (mx bits w_ : Int32) (h0 : Heap) (n0 : Nat) (v : Option Value) (h : Heap) : Prop := ∃ (rv : Value) (L : Int32), v = some rv ∧ Keep h0 h [r0, bs, bp, be] ∧ Exa Z h r0 "kombos/io/FieldBytes" ∧ Fld Z h r0 "kombos/io/FieldBytes" "maxRecordLength" "I" (.int mx) ∧ Fld Z h r0 "kombos/io/FieldBytes" "length" "I" (.int L) ∧ Fld Z h r0 "kombos/io/FieldBytes" "start" "I" (.int L) ∧ Fld Z h r0 "kombos/io/FieldBytes" "count" "I" (.int 1) ∧ Fld Z h r0 "kombos/io/FieldBytes" "bits" "I" (.int 0) ∧ Fld Z h r0 "kombos/io/FieldBytes" "tooLong" "Z" (.int 0) ∧ Fld Z h r0 "kombos/io/FieldBytes" "full" "Z" (.int 0) ∧ Fld Z h r0 "kombos/io/FieldBytes" "held" "[B" (.ref bh) ∧ Fld Z h r0 "kombos/io/FieldBytes" "bytes" "[B" (.ref by_) ∧ Fld Z h r0 "kombos/io/FieldBytes" "starts" "[I" (.ref bs) ∧ Fld Z h r0 "kombos/io/FieldBytes" "ends" "[I" (.ref be) ∧ Fld Z h r0 "kombos/io/FieldBytes" "plain" "[I" (.ref bp) ∧ own_A Z h bh .byte hv ∧ own_A Z h bs .int (sv.set 0 (.int 0)) ∧ own_A Z h be .int (ev.set 0 (.int L)) ∧ own_A Z h bp .int (pv.set 0 (.int bits)) ∧ ((0 ≤ w_.toInt ∧ rv = .null ∧ L = 1) ∨ (w_.toInt < 0 ∧ (∃ a, rv = .ref a) ∧ L = 0))
set_option maxRecDepth 65536 in
set_option maxHeartbeats 40000000 in
theorem own_rm8 (l : Launch) (Z : State) (a0 : Array Value) (hw : ∀ d ∈ tables_1, d.before a0 Z = true) (ws : List Jvm.Cond) (r0 : Addr) (bh bs be bp : Addr) (hv sv ev pv : List Value) (mx bits w_ : Int32) (by_ : Addr) (h0 : Heap) (n0 : Nat)  (E : Exa Z h0 r0 "kombos/io/FieldBytes") (FmaxRecordLength : Fld Z h0 r0 "kombos/io/FieldBytes" "maxRecordLength" "I" (.int mx)) (Flength : Fld Z h0 r0 "kombos/io/FieldBytes" "length" "I" (.int 1)) (Fstart : Fld Z h0 r0 "kombos/io/FieldBytes" "start" "I" (.int 0)) (Fcount : Fld Z h0 r0 "kombos/io/FieldBytes" "count" "I" (.int 0)) (Fbits : Fld Z h0 r0 "kombos/io/FieldBytes" "bits" "I" (.int bits)) (FtooLong : Fld Z h0 r0 "kombos/io/FieldBytes" "tooLong" "Z" (.int 0)) (Ffull : Fld Z h0 r0 "kombos/io/FieldBytes" "full" "Z" (.int 0)) (Fheld : Fld Z h0 r0 "kombos/io/FieldBytes" "held" "[B" (.ref bh)) (Fbytes : Fld Z h0 r0 "kombos/io/FieldBytes" "bytes" "[B" (.ref by_)) (Fstarts : Fld Z h0 r0 "kombos/io/FieldBytes" "starts" "[I" (.ref bs)) (Fends : Fld Z h0 r0 "kombos/io/FieldBytes" "ends" "[I" (.ref be)) (Fplain : Fld Z h0 r0 "kombos/io/FieldBytes" "plain" "[I" (.ref bp)) (Abh : own_A Z h0 bh .byte hv) (Abs : own_A Z h0 bs .int sv) (Abe : own_A Z h0 be .int ev) (Abp : own_A Z h0 bp .int pv) (ge_r : n0 ≤ r0) (ge_bh : n0 ≤ bh) (ge_bs : n0 ≤ bs) (ge_be : n0 ≤ be) (ge_bp : n0 ≤ bp) (ne_bh_r0 : bh ≠ r0) (ne_bs_r0 : bs ≠ r0) (ne_be_r0 : be ≠ r0) (ne_bp_r0 : bp ≠ r0) (ne_bh_bs : bh ≠ bs) (ne_bh_be : bh ≠ be) (ne_bh_bp : bh ≠ bp) (ne_bs_be : bs ≠ be) (ne_bs_bp : bs ≠ bp) (ne_be_bp : be ≠ bp) (hvl : hv.length = 64) (svl : sv.length = 8) (evl : ev.length = 8) (pvl : pv.length = 8) (hw0 : hv[0]? = some (.int w_)) (hwr : -128 ≤ w_.toInt ∧ w_.toInt ≤ 127) (hbits : bits.toInt = w_.toInt - 32) :
    own_ConW l Z (⟨"kombos/io/FieldBytes", "endField", "()Ljava/lang/String;"⟩ : MethodName) prog_57_method_8_code 2 (some (.object "java/lang/String")) ws ({ frames := 1, cells := 2, slots := 72, locals := 21 } : Room) #[(.ref r0)] h0 n0 (own_Q_own_rm8 Z r0 bh bs be bp by_ hv sv ev pv mx bits w_ h0 n0) := by
  refine own_bodyW (plainFor_of_name own_pn0) ?_
  intro p e s m below meth c T0 hx hZ hby hml hown hnm hret hlk Y0 hSi
  replace hown : s.vm.findClass "kombos/io/FieldBytes" = some m.cls := hown
  replace hnm : meth.name = "endField" := hnm
  replace Y0 : own_S p l e ({ frames := 1, cells := 2, slots := 72, locals := 21 } : Room) (s.setVm s.vm) m #[(.ref r0)] below meth c n0 T0 h0 0 0 := Y0
  replace hZ : Z.Warmed39 (s.setVm s.vm).vm := hZ
  replace hown : (s.setVm s.vm).vm.findClass "kombos/io/FieldBytes" = some m.cls := hown
  rw [own_ef_own_rm8 m r0]
  show own_Ends _ _ _ _ (T0.setTop (mkF m 0 #[.val (.ref r0), .unset] []))
  refine own_st (fun t_ => XS.aconstNull (own_here Y0) hx rfl (hb hby own_d8_0) ) ?_
  show own_Ends _ _ _ _ (T0.setTop (mkF m 1 #[.val (.ref r0), .unset] [.null]))
  refine own_st (fun t_ => XS.astoreN (own_here Y0) hx rfl (hb hby own_d8_1) rfl rfl (l' := #[.val (.ref r0), .val .null]) rfl) ?_
  show own_Ends _ _ _ _ (T0.setTop (mkF m 2 #[.val (.ref r0), .val .null] []))
  refine own_st (fun t_ => XS.aloadN (own_here Y0) hx rfl (hb hby own_d8_2) rfl rfl) ?_
  show own_Ends _ _ _ _ (T0.setTop (mkF m 3 #[.val (.ref r0), .val .null] [(.ref r0)]))
  refine own_getF Y0 hx hZ hown (host := "") (Or.inl (hw _ (List.mem_of_getElem? (i := 56) rfl))) Via.refl FtooLong rfl rfl (hb hby own_d8_3) (fun T805 Y806 => ?_)
  show own_Ends _ _ _ _ (T805.setTop (mkF m 6 #[.val (.ref r0), .val .null] [(.int (0 : Int32))]))
  refine own_st (fun t_ => XS.ifYes (own_here Y806) hx rfl (pc0 := 6) (pc' := 16) rfl (hb hby own_d8_6) rfl (XT.i0_eq_t (by decide)) (by decide) (by decide)) ?_
  show own_Ends _ _ _ _ (T805.setTop (mkF m 16 #[.val (.ref r0), .val .null] []))
  refine own_st (fun t_ => XS.aloadN (own_here Y806) hx rfl (hb hby own_d8_16) rfl rfl) ?_
  show own_Ends _ _ _ _ (T805.setTop (mkF m 17 #[.val (.ref r0), .val .null] [(.ref r0)]))
  refine own_getF Y806 hx hZ hown (host := "") (Or.inl (hw _ (List.mem_of_getElem? (i := 58) rfl))) Via.refl Ffull rfl rfl (hb hby own_d8_17) (fun T807 Y808 => ?_)
  show own_Ends _ _ _ _ (T807.setTop (mkF m 20 #[.val (.ref r0), .val .null] [(.int (0 : Int32))]))
  refine own_st (fun t_ => XS.ifNo (own_here Y808) hx rfl (hb hby own_d8_20) rfl (XT.i0_ne_f (by decide))) ?_
  show own_Ends _ _ _ _ (T807.setTop (mkF m 23 #[.val (.ref r0), .val .null] []))
  refine own_st (fun t_ => XS.aloadN (own_here Y808) hx rfl (hb hby own_d8_23) rfl rfl) ?_
  show own_Ends _ _ _ _ (T807.setTop (mkF m 24 #[.val (.ref r0), .val .null] [(.ref r0)]))
  refine own_getF Y808 hx hZ hown (host := "") (Or.inl (hw _ (List.mem_of_getElem? (i := 46) rfl))) Via.refl Fbits rfl rfl (hb hby own_d8_24) (fun T809 Y810 => ?_)
  show own_Ends _ _ _ _ (T809.setTop (mkF m 27 #[.val (.ref r0), .val .null] [(.int bits)]))
  by_cases c27_811 : bits < (0 : Int32)
  ·
   refine own_st (fun t_ => XS.ifNo (own_here Y810) hx rfl (hb hby own_d8_27) rfl (XT.i0_ge_f c27_811)) ?_
   show own_Ends _ _ _ _ (T809.setTop (mkF m 30 #[.val (.ref r0), .val .null] []))
   refine own_st (fun t_ => XS.aloadN (own_here Y810) hx rfl (hb hby own_d8_30) rfl rfl) ?_
   show own_Ends _ _ _ _ (T809.setTop (mkF m 31 #[.val (.ref r0), .val .null] [(.ref r0)]))
   refine own_getF Y810 hx hZ hown (host := "") (Or.inl (hw _ (List.mem_of_getElem? (i := 10) rfl))) Via.refl Fheld rfl rfl (hb hby own_d8_31) (fun T812 Y813 => ?_)
   show own_Ends _ _ _ _ (T812.setTop (mkF m 34 #[.val (.ref r0), .val .null] [(.ref bh)]))
   refine own_st (fun t_ => XS.aloadN (own_here Y813) hx rfl (hb hby own_d8_34) rfl rfl) ?_
   show own_Ends _ _ _ _ (T812.setTop (mkF m 35 #[.val (.ref r0), .val .null] [(.ref r0), (.ref bh)]))
   refine own_getF Y813 hx hZ hown (host := "") (Or.inl (hw _ (List.mem_of_getElem? (i := 44) rfl))) Via.refl Fstart rfl rfl (hb hby own_d8_35) (fun T814 Y815 => ?_)
   show own_Ends _ _ _ _ (T814.setTop (mkF m 38 #[.val (.ref r0), .val .null] [(.int (0 : Int32)), (.ref bh)]))
   refine own_st (fun t_ => XS.aloadN (own_here Y815) hx rfl (hb hby own_d8_38) rfl rfl) ?_
   show own_Ends _ _ _ _ (T814.setTop (mkF m 39 #[.val (.ref r0), .val .null] [(.ref r0), (.int (0 : Int32)), (.ref bh)]))
   refine own_getF Y815 hx hZ hown (host := "") (Or.inl (hw _ (List.mem_of_getElem? (i := 42) rfl))) Via.refl Flength rfl rfl (hb hby own_d8_39) (fun T816 Y817 => ?_)
   show own_Ends _ _ _ _ (T816.setTop (mkF m 42 #[.val (.ref r0), .val .null] [(.int (1 : Int32)), (.int (0 : Int32)), (.ref bh)]))
   refine own_callS Y817 hx hZ (y := (⟨"kombos/graph/Utf8", "isValid", "([BII)Z"⟩ : MethodName)) hown (hw _ (List.mem_of_getElem? (i := 60) rfl)) (hw _ (List.mem_of_getElem? (i := 61) rfl)) (hw _ (List.mem_of_getElem? (i := 62) rfl)) (hw _ (List.mem_of_getElem? (i := 63) rfl)) (by decide) (argsL := [(.ref bh), (.int (0 : Int32)), (.int (1 : Int32))]) (rest := []) (own_rm9 l Z a0 hw [] bh hv w_ h0 n0  Abh hvl hw0 hwr) (W := 0) (by decide) (by decide) (by decide) (by decide) rfl (by rw [hml]; rfl) (lenOf own_pd4 rfl) rfl (by show 2 * 0 + _ ≤ _; exact Nat.le_of_eq rfl) (hb hby own_d8_42) (fun T818 h820 v821 Y819 q822 => ?_)
   obtain ⟨rfl, rfl⟩ := q822
   show own_Ends _ _ _ _ (T818.setTop (mkF m 45 #[.val (.ref r0), .val .null] [(.int (own_b (decide (0 ≤ w_.toInt))))]))
   by_cases c45_823 : (own_b (decide (0 ≤ w_.toInt))) = (0 : Int32)
   ·
    refine own_st (fun t_ => XS.ifNo (own_here Y819) hx rfl (hb hby own_d8_45) rfl (XT.i0_ne_f c45_823)) ?_
    show own_Ends _ _ _ _ (T818.setTop (mkF m 48 #[.val (.ref r0), .val .null] []))
    refine own_ldcSt Y819 hSi hx hZ hown (hw _ (List.mem_of_getElem? (i := 106) rfl)) (own_strW hw) rfl (hb hby own_d8_48) (nn := 68) (by decide) (by decide) (by decide) (by decide) (fun sr824 T825 h826 vm827 Y828 si829 E830 hZ' hown' => ?_)
    replace hZ := hZ'; replace hown := hown'
    show own_Ends _ _ _ _ (T825.setTop (mkF m 50 #[.val (.ref r0), .val .null] [(.ref sr824)]))
    refine own_st (fun t_ => XS.astoreN (own_here Y828) hx rfl (hb hby own_d8_50) rfl rfl (l' := #[.val (.ref r0), .val (.ref sr824)]) rfl) ?_
    show own_Ends _ _ _ _ (T825.setTop (mkF m 51 #[.val (.ref r0), .val (.ref sr824)] []))
    refine own_st (fun t_ => XS.aloadN (own_here Y828) hx rfl (hb hby own_d8_51) rfl rfl) ?_
    show own_Ends _ _ _ _ (T825.setTop (mkF m 52 #[.val (.ref r0), .val (.ref sr824)] [(.ref sr824)]))
    refine own_st (fun t_ => XS.ifnullNo (own_here Y828) hx rfl (hb hby own_d8_52) rfl) ?_
    show own_Ends _ _ _ _ (T825.setTop (mkF m 55 #[.val (.ref r0), .val (.ref sr824)] []))
    refine own_st (fun t_ => XS.aloadN (own_here Y828) hx rfl (hb hby own_d8_55) rfl rfl) ?_
    show own_Ends _ _ _ _ (T825.setTop (mkF m 56 #[.val (.ref r0), .val (.ref sr824)] [(.ref r0)]))
    refine own_st (fun t_ => XS.aloadN (own_here Y828) hx rfl (hb hby own_d8_56) rfl rfl) ?_
    show own_Ends _ _ _ _ (T825.setTop (mkF m 57 #[.val (.ref r0), .val (.ref sr824)] [(.ref r0), (.ref r0)]))
    have f831 : Fld Z h826 r0 "kombos/io/FieldBytes" "start" "I" (.int (0 : Int32)) := Fstart.ext E830
    refine own_getF Y828 hx hZ hown (host := "") (Or.inl (hw _ (List.mem_of_getElem? (i := 44) rfl))) Via.refl f831 rfl rfl (hb hby own_d8_57) (fun T832 Y833 => ?_)
    show own_Ends _ _ _ _ (T832.setTop (mkF m 60 #[.val (.ref r0), .val (.ref sr824)] [(.int (0 : Int32)), (.ref r0)]))
    have f834 : Exa Z h826 r0 "kombos/io/FieldBytes" := E.ext E830
    have f835 : Fld Z h826 r0 "kombos/io/FieldBytes" "length" "I" (.int (1 : Int32)) := Flength.ext E830
    refine own_putF Y833 hx hZ hown (host := "") (Or.inl (hw _ (List.mem_of_getElem? (i := 42) rfl))) Via.refl f835 f834 (Or.inl (hw _ (List.mem_of_getElem? (i := 43) rfl))) (hw _ (List.mem_of_getElem? (i := 1) rfl)) ge_r (ty := .int) (by decide) rfl rfl rfl rfl (hb hby own_d8_60) (fun T836 h838 Y837 W839 F840 => ?_)
    show own_Ends _ _ _ _ (T836.setTop (mkF m 63 #[.val (.ref r0), .val (.ref sr824)] []))
    refine own_st (fun t_ => XS.aloadN (own_here Y837) hx rfl (hb hby own_d8_63) rfl rfl) ?_
    show own_Ends _ _ _ _ (T836.setTop (mkF m 64 #[.val (.ref r0), .val (.ref sr824)] [(.ref r0)]))
    refine own_st (fun t_ => XS.aloadN (own_here Y837) hx rfl (hb hby own_d8_64) rfl rfl) ?_
    show own_Ends _ _ _ _ (T836.setTop (mkF m 65 #[.val (.ref r0), .val (.ref sr824)] [(.ref r0), (.ref r0)]))
    have f841 : Fld Z h838 r0 "kombos/io/FieldBytes" "start" "I" (.int (0 : Int32)) := f831.other W839 (Or.inr (slot_ne (Or.inl (hw _ (List.mem_of_getElem? (i := 45) rfl))) (Or.inl (hw _ (List.mem_of_getElem? (i := 43) rfl))) (by decide) (t := .int) (t' := .int) (by decide) (by decide)))
    refine own_getF Y837 hx hZ hown (host := "") (Or.inl (hw _ (List.mem_of_getElem? (i := 44) rfl))) Via.refl f841 rfl rfl (hb hby own_d8_65) (fun T842 Y843 => ?_)
    show own_Ends _ _ _ _ (T842.setTop (mkF m 68 #[.val (.ref r0), .val (.ref sr824)] [(.int (0 : Int32)), (.ref r0)]))
    refine own_st (fun t_ => XS.aloadN (own_here Y843) hx rfl (hb hby own_d8_68) rfl rfl) ?_
    show own_Ends _ _ _ _ (T842.setTop (mkF m 69 #[.val (.ref r0), .val (.ref sr824)] [(.ref r0), (.int (0 : Int32)), (.ref r0)]))
    refine own_getF Y843 hx hZ hown (host := "") (Or.inl (hw _ (List.mem_of_getElem? (i := 42) rfl))) Via.refl F840 rfl rfl (hb hby own_d8_69) (fun T844 Y845 => ?_)
    show own_Ends _ _ _ _ (T844.setTop (mkF m 72 #[.val (.ref r0), .val (.ref sr824)] [(.int (0 : Int32)), (.int (0 : Int32)), (.ref r0)]))
    refine own_st (fun t_ => XS.aloadN (own_here Y845) hx rfl (hb hby own_d8_72) rfl rfl) ?_
    show own_Ends _ _ _ _ (T844.setTop (mkF m 73 #[.val (.ref r0), .val (.ref sr824)] [(.ref r0), (.int (0 : Int32)), (.int (0 : Int32)), (.ref r0)]))
    have f846 : Fld Z h826 r0 "kombos/io/FieldBytes" "bits" "I" (.int bits) := Fbits.ext E830
    have f847 : Fld Z h838 r0 "kombos/io/FieldBytes" "bits" "I" (.int bits) := f846.other W839 (Or.inr (slot_ne (Or.inl (hw _ (List.mem_of_getElem? (i := 47) rfl))) (Or.inl (hw _ (List.mem_of_getElem? (i := 43) rfl))) (by decide) (t := .int) (t' := .int) (by decide) (by decide)))
    refine own_getF Y845 hx hZ hown (host := "") (Or.inl (hw _ (List.mem_of_getElem? (i := 46) rfl))) Via.refl f847 rfl rfl (hb hby own_d8_73) (fun T848 Y849 => ?_)
    show own_Ends _ _ _ _ (T848.setTop (mkF m 76 #[.val (.ref r0), .val (.ref sr824)] [(.int bits), (.int (0 : Int32)), (.int (0 : Int32)), (.ref r0)]))
    have f850 : Exa Z h838 r0 "kombos/io/FieldBytes" := f834.wr W839
    have f851 : Fld Z h826 r0 "kombos/io/FieldBytes" "maxRecordLength" "I" (.int mx) := FmaxRecordLength.ext E830
    have f852 : Fld Z h838 r0 "kombos/io/FieldBytes" "maxRecordLength" "I" (.int mx) := f851.other W839 (Or.inr (slot_ne (Or.inr (hw _ (List.mem_of_getElem? (i := 22) rfl))) (Or.inl (hw _ (List.mem_of_getElem? (i := 43) rfl))) (by decide) (t := .int) (t' := .int) (by decide) (by decide)))
    have f853 : Fld Z h826 r0 "kombos/io/FieldBytes" "count" "I" (.int (0 : Int32)) := Fcount.ext E830
    have f854 : Fld Z h838 r0 "kombos/io/FieldBytes" "count" "I" (.int (0 : Int32)) := f853.other W839 (Or.inr (slot_ne (Or.inl (hw _ (List.mem_of_getElem? (i := 69) rfl))) (Or.inl (hw _ (List.mem_of_getElem? (i := 43) rfl))) (by decide) (t := .int) (t' := .int) (by decide) (by decide)))
    have f855 : Fld Z h826 r0 "kombos/io/FieldBytes" "tooLong" "Z" (.int (0 : Int32)) := FtooLong.ext E830
    have f856 : Fld Z h838 r0 "kombos/io/FieldBytes" "tooLong" "Z" (.int (0 : Int32)) := f855.other W839 (Or.inr (slot_ne (Or.inl (hw _ (List.mem_of_getElem? (i := 57) rfl))) (Or.inl (hw _ (List.mem_of_getElem? (i := 43) rfl))) (by decide) (t := .boolean) (t' := .int) (by decide) (by decide)))
    have f857 : Fld Z h826 r0 "kombos/io/FieldBytes" "full" "Z" (.int (0 : Int32)) := Ffull.ext E830
    have f858 : Fld Z h838 r0 "kombos/io/FieldBytes" "full" "Z" (.int (0 : Int32)) := f857.other W839 (Or.inr (slot_ne (Or.inl (hw _ (List.mem_of_getElem? (i := 59) rfl))) (Or.inl (hw _ (List.mem_of_getElem? (i := 43) rfl))) (by decide) (t := .boolean) (t' := .int) (by decide) (by decide)))
    have f859 : Fld Z h826 r0 "kombos/io/FieldBytes" "held" "[B" (.ref bh) := Fheld.ext E830
    have f860 : Fld Z h838 r0 "kombos/io/FieldBytes" "held" "[B" (.ref bh) := f859.other W839 (Or.inr (slot_ne (Or.inl (hw _ (List.mem_of_getElem? (i := 11) rfl))) (Or.inl (hw _ (List.mem_of_getElem? (i := 43) rfl))) (by decide) (t := (.array .byte)) (t' := .int) (by decide) (by decide)))
    have f861 : Fld Z h826 r0 "kombos/io/FieldBytes" "bytes" "[B" (.ref by_) := Fbytes.ext E830
    have f862 : Fld Z h838 r0 "kombos/io/FieldBytes" "bytes" "[B" (.ref by_) := f861.other W839 (Or.inr (slot_ne (Or.inl (hw _ (List.mem_of_getElem? (i := 13) rfl))) (Or.inl (hw _ (List.mem_of_getElem? (i := 43) rfl))) (by decide) (t := (.array .byte)) (t' := .int) (by decide) (by decide)))
    have f863 : Fld Z h826 r0 "kombos/io/FieldBytes" "starts" "[I" (.ref bs) := Fstarts.ext E830
    have f864 : Fld Z h838 r0 "kombos/io/FieldBytes" "starts" "[I" (.ref bs) := f863.other W839 (Or.inr (slot_ne (Or.inl (hw _ (List.mem_of_getElem? (i := 16) rfl))) (Or.inl (hw _ (List.mem_of_getElem? (i := 43) rfl))) (by decide) (t := (.array .int)) (t' := .int) (by decide) (by decide)))
    have f865 : Fld Z h826 r0 "kombos/io/FieldBytes" "ends" "[I" (.ref be) := Fends.ext E830
    have f866 : Fld Z h838 r0 "kombos/io/FieldBytes" "ends" "[I" (.ref be) := f865.other W839 (Or.inr (slot_ne (Or.inl (hw _ (List.mem_of_getElem? (i := 18) rfl))) (Or.inl (hw _ (List.mem_of_getElem? (i := 43) rfl))) (by decide) (t := (.array .int)) (t' := .int) (by decide) (by decide)))
    have f867 : Fld Z h826 r0 "kombos/io/FieldBytes" "plain" "[I" (.ref bp) := Fplain.ext E830
    have f868 : Fld Z h838 r0 "kombos/io/FieldBytes" "plain" "[I" (.ref bp) := f867.other W839 (Or.inr (slot_ne (Or.inl (hw _ (List.mem_of_getElem? (i := 20) rfl))) (Or.inl (hw _ (List.mem_of_getElem? (i := 43) rfl))) (by decide) (t := (.array .int)) (t' := .int) (by decide) (by decide)))
    have f869 : own_A Z h826 bh .byte hv := Abh.ext E830
    have f870 : own_A Z h838 bh .byte hv := f869.other W839 ne_bh_r0
    have f871 : own_A Z h826 bs .int sv := Abs.ext E830
    have f872 : own_A Z h838 bs .int sv := f871.other W839 ne_bs_r0
    have f873 : own_A Z h826 be .int ev := Abe.ext E830
    have f874 : own_A Z h838 be .int ev := f873.other W839 ne_be_r0
    have f875 : own_A Z h826 bp .int pv := Abp.ext E830
    have f876 : own_A Z h838 bp .int pv := f875.other W839 ne_bp_r0
    refine own_callP Y849 hx hZ (y := (⟨"kombos/io/FieldBytes", "mark", "(III)V"⟩ : MethodName)) hown (hw _ (List.mem_of_getElem? (i := 64) rfl)) (hw _ (List.mem_of_getElem? (i := 65) rfl)) (hw _ (List.mem_of_getElem? (i := 1) rfl)) (hw _ (List.mem_of_getElem? (i := 66) rfl)) (hw _ (List.mem_of_getElem? (i := 2) rfl)) (hw _ (List.mem_of_getElem? (i := 67) rfl)) (by decide) (a := r0) f850 (argsL := [(.int (0 : Int32)), (.int (0 : Int32)), (.int bits)]) (rest := []) (own_rm10 l Z a0 hw [] r0 (0 : Int32) (0 : Int32) bits bh bs be bp hv sv ev pv mx (0 : Int32) (0 : Int32) bits by_ h838 n0  f850 f852 F840 f841 f854 f847 f856 f858 f860 f862 f864 f866 f868 f870 f872 f874 f876 ge_r ge_bh ge_bs ge_be ge_bp ne_bh_r0 ne_bs_r0 ne_be_r0 ne_bp_r0 ne_bh_bs ne_bh_be ne_bh_bp ne_bs_be ne_bs_bp ne_be_bp hvl svl evl pvl) (W := 0) (by decide) (by decide) (by decide) (by decide) rfl (by rw [hml]; rfl) (lenOf own_pd5 rfl) rfl (by show 2 * 0 + _ ≤ _; exact Nat.le_of_eq rfl) (hb hby own_d8_76) (fun T877 h879 v880 Y878 q881 => ?_)
    obtain ⟨rfl, K882, F883, F884, F885, F886, F887, F888, F889, F890, F891, F892, F893, F894, F895, F896, F897, F898, F899⟩ := q881
    show own_Ends _ _ _ _ (T877.setTop (mkF m 79 #[.val (.ref r0), .val (.ref sr824)] []))
    refine own_st (fun t_ => XS.aloadN (own_here Y878) hx rfl (hb hby own_d8_79) rfl rfl) ?_
    show own_Ends _ _ _ _ (T877.setTop (mkF m 80 #[.val (.ref r0), .val (.ref sr824)] [(.ref r0)]))
    refine own_st (fun t_ => XS.aloadN (own_here Y878) hx rfl (hb hby own_d8_80) rfl rfl) ?_
    show own_Ends _ _ _ _ (T877.setTop (mkF m 81 #[.val (.ref r0), .val (.ref sr824)] [(.ref r0), (.ref r0)]))
    refine own_getF Y878 hx hZ hown (host := "") (Or.inl (hw _ (List.mem_of_getElem? (i := 42) rfl))) Via.refl F885 rfl rfl (hb hby own_d8_81) (fun T900 Y901 => ?_)
    show own_Ends _ _ _ _ (T900.setTop (mkF m 84 #[.val (.ref r0), .val (.ref sr824)] [(.int (0 : Int32)), (.ref r0)]))
    refine own_putF Y901 hx hZ hown (host := "") (Or.inl (hw _ (List.mem_of_getElem? (i := 44) rfl))) Via.refl F886 F883 (Or.inl (hw _ (List.mem_of_getElem? (i := 45) rfl))) (hw _ (List.mem_of_getElem? (i := 1) rfl)) ge_r (ty := .int) (by decide) rfl rfl rfl rfl (hb hby own_d8_84) (fun T902 h904 Y903 W905 F906 => ?_)
    show own_Ends _ _ _ _ (T902.setTop (mkF m 87 #[.val (.ref r0), .val (.ref sr824)] []))
    refine own_st (fun t_ => XS.aloadN (own_here Y903) hx rfl (hb hby own_d8_87) rfl rfl) ?_
    show own_Ends _ _ _ _ (T902.setTop (mkF m 88 #[.val (.ref r0), .val (.ref sr824)] [(.ref r0)]))
    refine own_st (fun t_ => XS.iconst (own_here Y903) hx rfl (hb hby own_d8_88) ) ?_
    show own_Ends _ _ _ _ (T902.setTop (mkF m 89 #[.val (.ref r0), .val (.ref sr824)] [(.int (0 : Int32)), (.ref r0)]))
    have f907 : Exa Z h904 r0 "kombos/io/FieldBytes" := F883.wr W905
    have f908 : Fld Z h904 r0 "kombos/io/FieldBytes" "bits" "I" (.int bits) := F888.other W905 (Or.inr (slot_ne (Or.inl (hw _ (List.mem_of_getElem? (i := 47) rfl))) (Or.inl (hw _ (List.mem_of_getElem? (i := 45) rfl))) (by decide) (t := .int) (t' := .int) (by decide) (by decide)))
    refine own_putF Y903 hx hZ hown (host := "") (Or.inl (hw _ (List.mem_of_getElem? (i := 46) rfl))) Via.refl f908 f907 (Or.inl (hw _ (List.mem_of_getElem? (i := 47) rfl))) (hw _ (List.mem_of_getElem? (i := 1) rfl)) ge_r (ty := .int) (by decide) rfl rfl rfl rfl (hb hby own_d8_89) (fun T909 h911 Y910 W912 F913 => ?_)
    show own_Ends _ _ _ _ (T909.setTop (mkF m 92 #[.val (.ref r0), .val (.ref sr824)] []))
    refine own_st (fun t_ => XS.aloadN (own_here Y910) hx rfl (hb hby own_d8_92) rfl rfl) ?_
    show own_Ends _ _ _ _ (T909.setTop (mkF m 93 #[.val (.ref r0), .val (.ref sr824)] [(.ref r0)]))
    refine own_st (fun t_ => XS.iconst (own_here Y910) hx rfl (hb hby own_d8_93) ) ?_
    show own_Ends _ _ _ _ (T909.setTop (mkF m 94 #[.val (.ref r0), .val (.ref sr824)] [(.int (0 : Int32)), (.ref r0)]))
    have f914 : Exa Z h911 r0 "kombos/io/FieldBytes" := f907.wr W912
    have f915 : Fld Z h904 r0 "kombos/io/FieldBytes" "tooLong" "Z" (.int (0 : Int32)) := F889.other W905 (Or.inr (slot_ne (Or.inl (hw _ (List.mem_of_getElem? (i := 57) rfl))) (Or.inl (hw _ (List.mem_of_getElem? (i := 45) rfl))) (by decide) (t := .boolean) (t' := .int) (by decide) (by decide)))
    have f916 : Fld Z h911 r0 "kombos/io/FieldBytes" "tooLong" "Z" (.int (0 : Int32)) := f915.other W912 (Or.inr (slot_ne (Or.inl (hw _ (List.mem_of_getElem? (i := 57) rfl))) (Or.inl (hw _ (List.mem_of_getElem? (i := 47) rfl))) (by decide) (t := .boolean) (t' := .int) (by decide) (by decide)))
    refine own_putFN Y910 hx hZ hown (hw _ (List.mem_of_getElem? (i := 56) rfl)) Via.refl f916 f914 (Or.inl (hw _ (List.mem_of_getElem? (i := 57) rfl))) (hw _ (List.mem_of_getElem? (i := 1) rfl)) ge_r (ty := .boolean) (v' := (.int (0 : Int32))) (by decide) rfl (by decide) rfl rfl (hb hby own_d8_94) (fun T917 h919 Y918 W920 F921 => ?_)
    show own_Ends _ _ _ _ (T917.setTop (mkF m 97 #[.val (.ref r0), .val (.ref sr824)] []))
    refine own_st (fun t_ => XS.aloadN (own_here Y918) hx rfl (hb hby own_d8_97) rfl rfl) ?_
    show own_Ends _ _ _ _ (T917.setTop (mkF m 98 #[.val (.ref r0), .val (.ref sr824)] [(.ref sr824)]))
    have si922 : own_Si s vm827 h838 := si829.mono (Nat.le_of_eq W839.size.symm)
    have si923 : own_Si s vm827 h879 := si922.mono K882.1
    have si924 : own_Si s vm827 h904 := si923.mono (Nat.le_of_eq W905.size.symm)
    have si925 : own_Si s vm827 h911 := si924.mono (Nat.le_of_eq W912.size.symm)
    have si926 : own_Si s vm827 h919 := si925.mono (Nat.le_of_eq W920.size.symm)
    have K927 : Keep h0 h826 [r0, bs, bp, be] := (Keep.refl h0 [r0, bs, bp, be]).ext E830
    have K928 : Keep h0 h838 [r0, bs, bp, be] := K927.wr W839 (Or.inl (List.mem_of_getElem? (i := 0) rfl))
    have K929 : Keep h0 h879 [r0, bs, bp, be] := K928.trans K882 (allS (Or.inl (List.mem_of_getElem? (i := 0) rfl)) (allS (Or.inl (List.mem_of_getElem? (i := 1) rfl)) (allS (Or.inl (List.mem_of_getElem? (i := 2) rfl)) (allS (Or.inl (List.mem_of_getElem? (i := 3) rfl)) all0))))
    have K930 : Keep h0 h904 [r0, bs, bp, be] := K929.wr W905 (Or.inl (List.mem_of_getElem? (i := 0) rfl))
    have K931 : Keep h0 h911 [r0, bs, bp, be] := K930.wr W912 (Or.inl (List.mem_of_getElem? (i := 0) rfl))
    have K932 : Keep h0 h919 [r0, bs, bp, be] := K931.wr W920 (Or.inl (List.mem_of_getElem? (i := 0) rfl))
    have f933 : Exa Z h919 r0 "kombos/io/FieldBytes" := f914.wr W920
    have f934 : Fld Z h904 r0 "kombos/io/FieldBytes" "maxRecordLength" "I" (.int mx) := F884.other W905 (Or.inr (slot_ne (Or.inr (hw _ (List.mem_of_getElem? (i := 22) rfl))) (Or.inl (hw _ (List.mem_of_getElem? (i := 45) rfl))) (by decide) (t := .int) (t' := .int) (by decide) (by decide)))
    have f935 : Fld Z h911 r0 "kombos/io/FieldBytes" "maxRecordLength" "I" (.int mx) := f934.other W912 (Or.inr (slot_ne (Or.inr (hw _ (List.mem_of_getElem? (i := 22) rfl))) (Or.inl (hw _ (List.mem_of_getElem? (i := 47) rfl))) (by decide) (t := .int) (t' := .int) (by decide) (by decide)))
    have f936 : Fld Z h919 r0 "kombos/io/FieldBytes" "maxRecordLength" "I" (.int mx) := f935.other W920 (Or.inr (slot_ne (Or.inr (hw _ (List.mem_of_getElem? (i := 22) rfl))) (Or.inl (hw _ (List.mem_of_getElem? (i := 57) rfl))) (by decide) (t := .int) (t' := .boolean) (by decide) (by decide)))
    have f937 : Fld Z h904 r0 "kombos/io/FieldBytes" "length" "I" (.int (0 : Int32)) := F885.other W905 (Or.inr (slot_ne (Or.inl (hw _ (List.mem_of_getElem? (i := 43) rfl))) (Or.inl (hw _ (List.mem_of_getElem? (i := 45) rfl))) (by decide) (t := .int) (t' := .int) (by decide) (by decide)))
    have f938 : Fld Z h911 r0 "kombos/io/FieldBytes" "length" "I" (.int (0 : Int32)) := f937.other W912 (Or.inr (slot_ne (Or.inl (hw _ (List.mem_of_getElem? (i := 43) rfl))) (Or.inl (hw _ (List.mem_of_getElem? (i := 47) rfl))) (by decide) (t := .int) (t' := .int) (by decide) (by decide)))
    have f939 : Fld Z h919 r0 "kombos/io/FieldBytes" "length" "I" (.int (0 : Int32)) := f938.other W920 (Or.inr (slot_ne (Or.inl (hw _ (List.mem_of_getElem? (i := 43) rfl))) (Or.inl (hw _ (List.mem_of_getElem? (i := 57) rfl))) (by decide) (t := .int) (t' := .boolean) (by decide) (by decide)))
    have f940 : Fld Z h911 r0 "kombos/io/FieldBytes" "start" "I" (.int (0 : Int32)) := F906.other W912 (Or.inr (slot_ne (Or.inl (hw _ (List.mem_of_getElem? (i := 45) rfl))) (Or.inl (hw _ (List.mem_of_getElem? (i := 47) rfl))) (by decide) (t := .int) (t' := .int) (by decide) (by decide)))
    have f941 : Fld Z h919 r0 "kombos/io/FieldBytes" "start" "I" (.int (0 : Int32)) := f940.other W920 (Or.inr (slot_ne (Or.inl (hw _ (List.mem_of_getElem? (i := 45) rfl))) (Or.inl (hw _ (List.mem_of_getElem? (i := 57) rfl))) (by decide) (t := .int) (t' := .boolean) (by decide) (by decide)))
    have f942 : Fld Z h904 r0 "kombos/io/FieldBytes" "count" "I" (.int (1 : Int32)) := F887.other W905 (Or.inr (slot_ne (Or.inl (hw _ (List.mem_of_getElem? (i := 69) rfl))) (Or.inl (hw _ (List.mem_of_getElem? (i := 45) rfl))) (by decide) (t := .int) (t' := .int) (by decide) (by decide)))
    have f943 : Fld Z h911 r0 "kombos/io/FieldBytes" "count" "I" (.int (1 : Int32)) := f942.other W912 (Or.inr (slot_ne (Or.inl (hw _ (List.mem_of_getElem? (i := 69) rfl))) (Or.inl (hw _ (List.mem_of_getElem? (i := 47) rfl))) (by decide) (t := .int) (t' := .int) (by decide) (by decide)))
    have f944 : Fld Z h919 r0 "kombos/io/FieldBytes" "count" "I" (.int (1 : Int32)) := f943.other W920 (Or.inr (slot_ne (Or.inl (hw _ (List.mem_of_getElem? (i := 69) rfl))) (Or.inl (hw _ (List.mem_of_getElem? (i := 57) rfl))) (by decide) (t := .int) (t' := .boolean) (by decide) (by decide)))
    have f945 : Fld Z h919 r0 "kombos/io/FieldBytes" "bits" "I" (.int (0 : Int32)) := F913.other W920 (Or.inr (slot_ne (Or.inl (hw _ (List.mem_of_getElem? (i := 47) rfl))) (Or.inl (hw _ (List.mem_of_getElem? (i := 57) rfl))) (by decide) (t := .int) (t' := .boolean) (by decide) (by decide)))
    have f946 : Fld Z h904 r0 "kombos/io/FieldBytes" "full" "Z" (.int (0 : Int32)) := F890.other W905 (Or.inr (slot_ne (Or.inl (hw _ (List.mem_of_getElem? (i := 59) rfl))) (Or.inl (hw _ (List.mem_of_getElem? (i := 45) rfl))) (by decide) (t := .boolean) (t' := .int) (by decide) (by decide)))
    have f947 : Fld Z h911 r0 "kombos/io/FieldBytes" "full" "Z" (.int (0 : Int32)) := f946.other W912 (Or.inr (slot_ne (Or.inl (hw _ (List.mem_of_getElem? (i := 59) rfl))) (Or.inl (hw _ (List.mem_of_getElem? (i := 47) rfl))) (by decide) (t := .boolean) (t' := .int) (by decide) (by decide)))
    have f948 : Fld Z h919 r0 "kombos/io/FieldBytes" "full" "Z" (.int (0 : Int32)) := f947.other W920 (Or.inr (slot_ne (Or.inl (hw _ (List.mem_of_getElem? (i := 59) rfl))) (Or.inl (hw _ (List.mem_of_getElem? (i := 57) rfl))) (by decide) (t := .boolean) (t' := .boolean) (by decide) (by decide)))
    have f949 : Fld Z h904 r0 "kombos/io/FieldBytes" "held" "[B" (.ref bh) := F891.other W905 (Or.inr (slot_ne (Or.inl (hw _ (List.mem_of_getElem? (i := 11) rfl))) (Or.inl (hw _ (List.mem_of_getElem? (i := 45) rfl))) (by decide) (t := (.array .byte)) (t' := .int) (by decide) (by decide)))
    have f950 : Fld Z h911 r0 "kombos/io/FieldBytes" "held" "[B" (.ref bh) := f949.other W912 (Or.inr (slot_ne (Or.inl (hw _ (List.mem_of_getElem? (i := 11) rfl))) (Or.inl (hw _ (List.mem_of_getElem? (i := 47) rfl))) (by decide) (t := (.array .byte)) (t' := .int) (by decide) (by decide)))
    have f951 : Fld Z h919 r0 "kombos/io/FieldBytes" "held" "[B" (.ref bh) := f950.other W920 (Or.inr (slot_ne (Or.inl (hw _ (List.mem_of_getElem? (i := 11) rfl))) (Or.inl (hw _ (List.mem_of_getElem? (i := 57) rfl))) (by decide) (t := (.array .byte)) (t' := .boolean) (by decide) (by decide)))
    have f952 : Fld Z h904 r0 "kombos/io/FieldBytes" "bytes" "[B" (.ref by_) := F892.other W905 (Or.inr (slot_ne (Or.inl (hw _ (List.mem_of_getElem? (i := 13) rfl))) (Or.inl (hw _ (List.mem_of_getElem? (i := 45) rfl))) (by decide) (t := (.array .byte)) (t' := .int) (by decide) (by decide)))
    have f953 : Fld Z h911 r0 "kombos/io/FieldBytes" "bytes" "[B" (.ref by_) := f952.other W912 (Or.inr (slot_ne (Or.inl (hw _ (List.mem_of_getElem? (i := 13) rfl))) (Or.inl (hw _ (List.mem_of_getElem? (i := 47) rfl))) (by decide) (t := (.array .byte)) (t' := .int) (by decide) (by decide)))
    have f954 : Fld Z h919 r0 "kombos/io/FieldBytes" "bytes" "[B" (.ref by_) := f953.other W920 (Or.inr (slot_ne (Or.inl (hw _ (List.mem_of_getElem? (i := 13) rfl))) (Or.inl (hw _ (List.mem_of_getElem? (i := 57) rfl))) (by decide) (t := (.array .byte)) (t' := .boolean) (by decide) (by decide)))
    have f955 : Fld Z h904 r0 "kombos/io/FieldBytes" "starts" "[I" (.ref bs) := F893.other W905 (Or.inr (slot_ne (Or.inl (hw _ (List.mem_of_getElem? (i := 16) rfl))) (Or.inl (hw _ (List.mem_of_getElem? (i := 45) rfl))) (by decide) (t := (.array .int)) (t' := .int) (by decide) (by decide)))
    have f956 : Fld Z h911 r0 "kombos/io/FieldBytes" "starts" "[I" (.ref bs) := f955.other W912 (Or.inr (slot_ne (Or.inl (hw _ (List.mem_of_getElem? (i := 16) rfl))) (Or.inl (hw _ (List.mem_of_getElem? (i := 47) rfl))) (by decide) (t := (.array .int)) (t' := .int) (by decide) (by decide)))
    have f957 : Fld Z h919 r0 "kombos/io/FieldBytes" "starts" "[I" (.ref bs) := f956.other W920 (Or.inr (slot_ne (Or.inl (hw _ (List.mem_of_getElem? (i := 16) rfl))) (Or.inl (hw _ (List.mem_of_getElem? (i := 57) rfl))) (by decide) (t := (.array .int)) (t' := .boolean) (by decide) (by decide)))
    have f958 : Fld Z h904 r0 "kombos/io/FieldBytes" "ends" "[I" (.ref be) := F894.other W905 (Or.inr (slot_ne (Or.inl (hw _ (List.mem_of_getElem? (i := 18) rfl))) (Or.inl (hw _ (List.mem_of_getElem? (i := 45) rfl))) (by decide) (t := (.array .int)) (t' := .int) (by decide) (by decide)))
    have f959 : Fld Z h911 r0 "kombos/io/FieldBytes" "ends" "[I" (.ref be) := f958.other W912 (Or.inr (slot_ne (Or.inl (hw _ (List.mem_of_getElem? (i := 18) rfl))) (Or.inl (hw _ (List.mem_of_getElem? (i := 47) rfl))) (by decide) (t := (.array .int)) (t' := .int) (by decide) (by decide)))
    have f960 : Fld Z h919 r0 "kombos/io/FieldBytes" "ends" "[I" (.ref be) := f959.other W920 (Or.inr (slot_ne (Or.inl (hw _ (List.mem_of_getElem? (i := 18) rfl))) (Or.inl (hw _ (List.mem_of_getElem? (i := 57) rfl))) (by decide) (t := (.array .int)) (t' := .boolean) (by decide) (by decide)))
    have f961 : Fld Z h904 r0 "kombos/io/FieldBytes" "plain" "[I" (.ref bp) := F895.other W905 (Or.inr (slot_ne (Or.inl (hw _ (List.mem_of_getElem? (i := 20) rfl))) (Or.inl (hw _ (List.mem_of_getElem? (i := 45) rfl))) (by decide) (t := (.array .int)) (t' := .int) (by decide) (by decide)))
    have f962 : Fld Z h911 r0 "kombos/io/FieldBytes" "plain" "[I" (.ref bp) := f961.other W912 (Or.inr (slot_ne (Or.inl (hw _ (List.mem_of_getElem? (i := 20) rfl))) (Or.inl (hw _ (List.mem_of_getElem? (i := 47) rfl))) (by decide) (t := (.array .int)) (t' := .int) (by decide) (by decide)))
    have f963 : Fld Z h919 r0 "kombos/io/FieldBytes" "plain" "[I" (.ref bp) := f962.other W920 (Or.inr (slot_ne (Or.inl (hw _ (List.mem_of_getElem? (i := 20) rfl))) (Or.inl (hw _ (List.mem_of_getElem? (i := 57) rfl))) (by decide) (t := (.array .int)) (t' := .boolean) (by decide) (by decide)))
    have f964 : own_A Z h904 bh .byte hv := F896.other W905 ne_bh_r0
    have f965 : own_A Z h911 bh .byte hv := f964.other W912 ne_bh_r0
    have f966 : own_A Z h919 bh .byte hv := f965.other W920 ne_bh_r0
    have f967 : own_A Z h904 bs .int (sv.set 0 (.int (0 : Int32))) := F897.other W905 ne_bs_r0
    have f968 : own_A Z h911 bs .int (sv.set 0 (.int (0 : Int32))) := f967.other W912 ne_bs_r0
    have f969 : own_A Z h919 bs .int (sv.set 0 (.int (0 : Int32))) := f968.other W920 ne_bs_r0
    have f970 : own_A Z h904 be .int (ev.set 0 (.int (0 : Int32))) := F898.other W905 ne_be_r0
    have f971 : own_A Z h911 be .int (ev.set 0 (.int (0 : Int32))) := f970.other W912 ne_be_r0
    have f972 : own_A Z h919 be .int (ev.set 0 (.int (0 : Int32))) := f971.other W920 ne_be_r0
    have f973 : own_A Z h904 bp .int (pv.set 0 (.int bits)) := F899.other W905 ne_bp_r0
    have f974 : own_A Z h911 bp .int (pv.set 0 (.int bits)) := f973.other W912 ne_bp_r0
    have f975 : own_A Z h919 bp .int (pv.set 0 (.int bits)) := f974.other W920 ne_bp_r0
    refine own_retAW Y918 si926 hx hlk hret rfl rfl rfl (hb hby own_d8_98) (by decide) (by decide) ?_
    have e0 : (0 : Int32).toInt = 0 := rfl
    have e32 : (32 : Int32).toInt = 32 := rfl
    have hw1 : w_.toInt < 0 := by have q := c45_823; simp only [own_b_0, decide_eq_false_iff_not] at q; omega
    exact ⟨_, _, rfl, K932, f933, f936, f939, f941, f944, f945, F921, f948, f951, f954, f957, f960, f963, f966, f969, f972, f975, Or.inr ⟨hw1, ⟨_, rfl⟩, rfl⟩⟩
   ·
    refine own_st (fun t_ => XS.ifYes (own_here Y819) hx rfl (pc0 := 45) (pc' := 51) rfl (hb hby own_d8_45) rfl (XT.i0_ne_t c45_823) (by decide) (by decide)) ?_
    show own_Ends _ _ _ _ (T818.setTop (mkF m 51 #[.val (.ref r0), .val .null] []))
    refine own_st (fun t_ => XS.aloadN (own_here Y819) hx rfl (hb hby own_d8_51) rfl rfl) ?_
    show own_Ends _ _ _ _ (T818.setTop (mkF m 52 #[.val (.ref r0), .val .null] [.null]))
    refine own_st (fun t_ => XS.ifnullYes (own_here Y819) hx rfl (pc0 := 52) (pc' := 63) rfl (hb hby own_d8_52) rfl (by decide) (by decide)) ?_
    show own_Ends _ _ _ _ (T818.setTop (mkF m 63 #[.val (.ref r0), .val .null] []))
    refine own_st (fun t_ => XS.aloadN (own_here Y819) hx rfl (hb hby own_d8_63) rfl rfl) ?_
    show own_Ends _ _ _ _ (T818.setTop (mkF m 64 #[.val (.ref r0), .val .null] [(.ref r0)]))
    refine own_st (fun t_ => XS.aloadN (own_here Y819) hx rfl (hb hby own_d8_64) rfl rfl) ?_
    show own_Ends _ _ _ _ (T818.setTop (mkF m 65 #[.val (.ref r0), .val .null] [(.ref r0), (.ref r0)]))
    refine own_getF Y819 hx hZ hown (host := "") (Or.inl (hw _ (List.mem_of_getElem? (i := 44) rfl))) Via.refl Fstart rfl rfl (hb hby own_d8_65) (fun T976 Y977 => ?_)
    show own_Ends _ _ _ _ (T976.setTop (mkF m 68 #[.val (.ref r0), .val .null] [(.int (0 : Int32)), (.ref r0)]))
    refine own_st (fun t_ => XS.aloadN (own_here Y977) hx rfl (hb hby own_d8_68) rfl rfl) ?_
    show own_Ends _ _ _ _ (T976.setTop (mkF m 69 #[.val (.ref r0), .val .null] [(.ref r0), (.int (0 : Int32)), (.ref r0)]))
    refine own_getF Y977 hx hZ hown (host := "") (Or.inl (hw _ (List.mem_of_getElem? (i := 42) rfl))) Via.refl Flength rfl rfl (hb hby own_d8_69) (fun T978 Y979 => ?_)
    show own_Ends _ _ _ _ (T978.setTop (mkF m 72 #[.val (.ref r0), .val .null] [(.int (1 : Int32)), (.int (0 : Int32)), (.ref r0)]))
    refine own_st (fun t_ => XS.aloadN (own_here Y979) hx rfl (hb hby own_d8_72) rfl rfl) ?_
    show own_Ends _ _ _ _ (T978.setTop (mkF m 73 #[.val (.ref r0), .val .null] [(.ref r0), (.int (1 : Int32)), (.int (0 : Int32)), (.ref r0)]))
    refine own_getF Y979 hx hZ hown (host := "") (Or.inl (hw _ (List.mem_of_getElem? (i := 46) rfl))) Via.refl Fbits rfl rfl (hb hby own_d8_73) (fun T980 Y981 => ?_)
    show own_Ends _ _ _ _ (T980.setTop (mkF m 76 #[.val (.ref r0), .val .null] [(.int bits), (.int (1 : Int32)), (.int (0 : Int32)), (.ref r0)]))
    refine own_callP Y981 hx hZ (y := (⟨"kombos/io/FieldBytes", "mark", "(III)V"⟩ : MethodName)) hown (hw _ (List.mem_of_getElem? (i := 64) rfl)) (hw _ (List.mem_of_getElem? (i := 65) rfl)) (hw _ (List.mem_of_getElem? (i := 1) rfl)) (hw _ (List.mem_of_getElem? (i := 66) rfl)) (hw _ (List.mem_of_getElem? (i := 2) rfl)) (hw _ (List.mem_of_getElem? (i := 67) rfl)) (by decide) (a := r0) E (argsL := [(.int (0 : Int32)), (.int (1 : Int32)), (.int bits)]) (rest := []) (own_rm10 l Z a0 hw [] r0 (0 : Int32) (1 : Int32) bits bh bs be bp hv sv ev pv mx (1 : Int32) (0 : Int32) bits by_ h0 n0  E FmaxRecordLength Flength Fstart Fcount Fbits FtooLong Ffull Fheld Fbytes Fstarts Fends Fplain Abh Abs Abe Abp ge_r ge_bh ge_bs ge_be ge_bp ne_bh_r0 ne_bs_r0 ne_be_r0 ne_bp_r0 ne_bh_bs ne_bh_be ne_bh_bp ne_bs_be ne_bs_bp ne_be_bp hvl svl evl pvl) (W := 0) (by decide) (by decide) (by decide) (by decide) rfl (by rw [hml]; rfl) (lenOf own_pd5 rfl) rfl (by show 2 * 0 + _ ≤ _; exact Nat.le_of_eq rfl) (hb hby own_d8_76) (fun T982 h984 v985 Y983 q986 => ?_)
    obtain ⟨rfl, K987, F988, F989, F990, F991, F992, F993, F994, F995, F996, F997, F998, F999, F1000, F1001, F1002, F1003, F1004⟩ := q986
    show own_Ends _ _ _ _ (T982.setTop (mkF m 79 #[.val (.ref r0), .val .null] []))
    refine own_st (fun t_ => XS.aloadN (own_here Y983) hx rfl (hb hby own_d8_79) rfl rfl) ?_
    show own_Ends _ _ _ _ (T982.setTop (mkF m 80 #[.val (.ref r0), .val .null] [(.ref r0)]))
    refine own_st (fun t_ => XS.aloadN (own_here Y983) hx rfl (hb hby own_d8_80) rfl rfl) ?_
    show own_Ends _ _ _ _ (T982.setTop (mkF m 81 #[.val (.ref r0), .val .null] [(.ref r0), (.ref r0)]))
    refine own_getF Y983 hx hZ hown (host := "") (Or.inl (hw _ (List.mem_of_getElem? (i := 42) rfl))) Via.refl F990 rfl rfl (hb hby own_d8_81) (fun T1005 Y1006 => ?_)
    show own_Ends _ _ _ _ (T1005.setTop (mkF m 84 #[.val (.ref r0), .val .null] [(.int (1 : Int32)), (.ref r0)]))
    refine own_putF Y1006 hx hZ hown (host := "") (Or.inl (hw _ (List.mem_of_getElem? (i := 44) rfl))) Via.refl F991 F988 (Or.inl (hw _ (List.mem_of_getElem? (i := 45) rfl))) (hw _ (List.mem_of_getElem? (i := 1) rfl)) ge_r (ty := .int) (by decide) rfl rfl rfl rfl (hb hby own_d8_84) (fun T1007 h1009 Y1008 W1010 F1011 => ?_)
    show own_Ends _ _ _ _ (T1007.setTop (mkF m 87 #[.val (.ref r0), .val .null] []))
    refine own_st (fun t_ => XS.aloadN (own_here Y1008) hx rfl (hb hby own_d8_87) rfl rfl) ?_
    show own_Ends _ _ _ _ (T1007.setTop (mkF m 88 #[.val (.ref r0), .val .null] [(.ref r0)]))
    refine own_st (fun t_ => XS.iconst (own_here Y1008) hx rfl (hb hby own_d8_88) ) ?_
    show own_Ends _ _ _ _ (T1007.setTop (mkF m 89 #[.val (.ref r0), .val .null] [(.int (0 : Int32)), (.ref r0)]))
    have f1012 : Exa Z h1009 r0 "kombos/io/FieldBytes" := F988.wr W1010
    have f1013 : Fld Z h1009 r0 "kombos/io/FieldBytes" "bits" "I" (.int bits) := F993.other W1010 (Or.inr (slot_ne (Or.inl (hw _ (List.mem_of_getElem? (i := 47) rfl))) (Or.inl (hw _ (List.mem_of_getElem? (i := 45) rfl))) (by decide) (t := .int) (t' := .int) (by decide) (by decide)))
    refine own_putF Y1008 hx hZ hown (host := "") (Or.inl (hw _ (List.mem_of_getElem? (i := 46) rfl))) Via.refl f1013 f1012 (Or.inl (hw _ (List.mem_of_getElem? (i := 47) rfl))) (hw _ (List.mem_of_getElem? (i := 1) rfl)) ge_r (ty := .int) (by decide) rfl rfl rfl rfl (hb hby own_d8_89) (fun T1014 h1016 Y1015 W1017 F1018 => ?_)
    show own_Ends _ _ _ _ (T1014.setTop (mkF m 92 #[.val (.ref r0), .val .null] []))
    refine own_st (fun t_ => XS.aloadN (own_here Y1015) hx rfl (hb hby own_d8_92) rfl rfl) ?_
    show own_Ends _ _ _ _ (T1014.setTop (mkF m 93 #[.val (.ref r0), .val .null] [(.ref r0)]))
    refine own_st (fun t_ => XS.iconst (own_here Y1015) hx rfl (hb hby own_d8_93) ) ?_
    show own_Ends _ _ _ _ (T1014.setTop (mkF m 94 #[.val (.ref r0), .val .null] [(.int (0 : Int32)), (.ref r0)]))
    have f1019 : Exa Z h1016 r0 "kombos/io/FieldBytes" := f1012.wr W1017
    have f1020 : Fld Z h1009 r0 "kombos/io/FieldBytes" "tooLong" "Z" (.int (0 : Int32)) := F994.other W1010 (Or.inr (slot_ne (Or.inl (hw _ (List.mem_of_getElem? (i := 57) rfl))) (Or.inl (hw _ (List.mem_of_getElem? (i := 45) rfl))) (by decide) (t := .boolean) (t' := .int) (by decide) (by decide)))
    have f1021 : Fld Z h1016 r0 "kombos/io/FieldBytes" "tooLong" "Z" (.int (0 : Int32)) := f1020.other W1017 (Or.inr (slot_ne (Or.inl (hw _ (List.mem_of_getElem? (i := 57) rfl))) (Or.inl (hw _ (List.mem_of_getElem? (i := 47) rfl))) (by decide) (t := .boolean) (t' := .int) (by decide) (by decide)))
    refine own_putFN Y1015 hx hZ hown (hw _ (List.mem_of_getElem? (i := 56) rfl)) Via.refl f1021 f1019 (Or.inl (hw _ (List.mem_of_getElem? (i := 57) rfl))) (hw _ (List.mem_of_getElem? (i := 1) rfl)) ge_r (ty := .boolean) (v' := (.int (0 : Int32))) (by decide) rfl (by decide) rfl rfl (hb hby own_d8_94) (fun T1022 h1024 Y1023 W1025 F1026 => ?_)
    show own_Ends _ _ _ _ (T1022.setTop (mkF m 97 #[.val (.ref r0), .val .null] []))
    refine own_st (fun t_ => XS.aloadN (own_here Y1023) hx rfl (hb hby own_d8_97) rfl rfl) ?_
    show own_Ends _ _ _ _ (T1022.setTop (mkF m 98 #[.val (.ref r0), .val .null] [.null]))
    have si1027 : own_Si s s.vm h984 := hSi.mono K987.1
    have si1028 : own_Si s s.vm h1009 := si1027.mono (Nat.le_of_eq W1010.size.symm)
    have si1029 : own_Si s s.vm h1016 := si1028.mono (Nat.le_of_eq W1017.size.symm)
    have si1030 : own_Si s s.vm h1024 := si1029.mono (Nat.le_of_eq W1025.size.symm)
    have K1031 : Keep h0 h984 [r0, bs, bp, be] := (Keep.refl h0 [r0, bs, bp, be]).trans K987 (allS (Or.inl (List.mem_of_getElem? (i := 0) rfl)) (allS (Or.inl (List.mem_of_getElem? (i := 1) rfl)) (allS (Or.inl (List.mem_of_getElem? (i := 2) rfl)) (allS (Or.inl (List.mem_of_getElem? (i := 3) rfl)) all0))))
    have K1032 : Keep h0 h1009 [r0, bs, bp, be] := K1031.wr W1010 (Or.inl (List.mem_of_getElem? (i := 0) rfl))
    have K1033 : Keep h0 h1016 [r0, bs, bp, be] := K1032.wr W1017 (Or.inl (List.mem_of_getElem? (i := 0) rfl))
    have K1034 : Keep h0 h1024 [r0, bs, bp, be] := K1033.wr W1025 (Or.inl (List.mem_of_getElem? (i := 0) rfl))
    have f1035 : Exa Z h1024 r0 "kombos/io/FieldBytes" := f1019.wr W1025
    have f1036 : Fld Z h1009 r0 "kombos/io/FieldBytes" "maxRecordLength" "I" (.int mx) := F989.other W1010 (Or.inr (slot_ne (Or.inr (hw _ (List.mem_of_getElem? (i := 22) rfl))) (Or.inl (hw _ (List.mem_of_getElem? (i := 45) rfl))) (by decide) (t := .int) (t' := .int) (by decide) (by decide)))
    have f1037 : Fld Z h1016 r0 "kombos/io/FieldBytes" "maxRecordLength" "I" (.int mx) := f1036.other W1017 (Or.inr (slot_ne (Or.inr (hw _ (List.mem_of_getElem? (i := 22) rfl))) (Or.inl (hw _ (List.mem_of_getElem? (i := 47) rfl))) (by decide) (t := .int) (t' := .int) (by decide) (by decide)))
    have f1038 : Fld Z h1024 r0 "kombos/io/FieldBytes" "maxRecordLength" "I" (.int mx) := f1037.other W1025 (Or.inr (slot_ne (Or.inr (hw _ (List.mem_of_getElem? (i := 22) rfl))) (Or.inl (hw _ (List.mem_of_getElem? (i := 57) rfl))) (by decide) (t := .int) (t' := .boolean) (by decide) (by decide)))
    have f1039 : Fld Z h1009 r0 "kombos/io/FieldBytes" "length" "I" (.int (1 : Int32)) := F990.other W1010 (Or.inr (slot_ne (Or.inl (hw _ (List.mem_of_getElem? (i := 43) rfl))) (Or.inl (hw _ (List.mem_of_getElem? (i := 45) rfl))) (by decide) (t := .int) (t' := .int) (by decide) (by decide)))
    have f1040 : Fld Z h1016 r0 "kombos/io/FieldBytes" "length" "I" (.int (1 : Int32)) := f1039.other W1017 (Or.inr (slot_ne (Or.inl (hw _ (List.mem_of_getElem? (i := 43) rfl))) (Or.inl (hw _ (List.mem_of_getElem? (i := 47) rfl))) (by decide) (t := .int) (t' := .int) (by decide) (by decide)))
    have f1041 : Fld Z h1024 r0 "kombos/io/FieldBytes" "length" "I" (.int (1 : Int32)) := f1040.other W1025 (Or.inr (slot_ne (Or.inl (hw _ (List.mem_of_getElem? (i := 43) rfl))) (Or.inl (hw _ (List.mem_of_getElem? (i := 57) rfl))) (by decide) (t := .int) (t' := .boolean) (by decide) (by decide)))
    have f1042 : Fld Z h1016 r0 "kombos/io/FieldBytes" "start" "I" (.int (1 : Int32)) := F1011.other W1017 (Or.inr (slot_ne (Or.inl (hw _ (List.mem_of_getElem? (i := 45) rfl))) (Or.inl (hw _ (List.mem_of_getElem? (i := 47) rfl))) (by decide) (t := .int) (t' := .int) (by decide) (by decide)))
    have f1043 : Fld Z h1024 r0 "kombos/io/FieldBytes" "start" "I" (.int (1 : Int32)) := f1042.other W1025 (Or.inr (slot_ne (Or.inl (hw _ (List.mem_of_getElem? (i := 45) rfl))) (Or.inl (hw _ (List.mem_of_getElem? (i := 57) rfl))) (by decide) (t := .int) (t' := .boolean) (by decide) (by decide)))
    have f1044 : Fld Z h1009 r0 "kombos/io/FieldBytes" "count" "I" (.int (1 : Int32)) := F992.other W1010 (Or.inr (slot_ne (Or.inl (hw _ (List.mem_of_getElem? (i := 69) rfl))) (Or.inl (hw _ (List.mem_of_getElem? (i := 45) rfl))) (by decide) (t := .int) (t' := .int) (by decide) (by decide)))
    have f1045 : Fld Z h1016 r0 "kombos/io/FieldBytes" "count" "I" (.int (1 : Int32)) := f1044.other W1017 (Or.inr (slot_ne (Or.inl (hw _ (List.mem_of_getElem? (i := 69) rfl))) (Or.inl (hw _ (List.mem_of_getElem? (i := 47) rfl))) (by decide) (t := .int) (t' := .int) (by decide) (by decide)))
    have f1046 : Fld Z h1024 r0 "kombos/io/FieldBytes" "count" "I" (.int (1 : Int32)) := f1045.other W1025 (Or.inr (slot_ne (Or.inl (hw _ (List.mem_of_getElem? (i := 69) rfl))) (Or.inl (hw _ (List.mem_of_getElem? (i := 57) rfl))) (by decide) (t := .int) (t' := .boolean) (by decide) (by decide)))
    have f1047 : Fld Z h1024 r0 "kombos/io/FieldBytes" "bits" "I" (.int (0 : Int32)) := F1018.other W1025 (Or.inr (slot_ne (Or.inl (hw _ (List.mem_of_getElem? (i := 47) rfl))) (Or.inl (hw _ (List.mem_of_getElem? (i := 57) rfl))) (by decide) (t := .int) (t' := .boolean) (by decide) (by decide)))
    have f1048 : Fld Z h1009 r0 "kombos/io/FieldBytes" "full" "Z" (.int (0 : Int32)) := F995.other W1010 (Or.inr (slot_ne (Or.inl (hw _ (List.mem_of_getElem? (i := 59) rfl))) (Or.inl (hw _ (List.mem_of_getElem? (i := 45) rfl))) (by decide) (t := .boolean) (t' := .int) (by decide) (by decide)))
    have f1049 : Fld Z h1016 r0 "kombos/io/FieldBytes" "full" "Z" (.int (0 : Int32)) := f1048.other W1017 (Or.inr (slot_ne (Or.inl (hw _ (List.mem_of_getElem? (i := 59) rfl))) (Or.inl (hw _ (List.mem_of_getElem? (i := 47) rfl))) (by decide) (t := .boolean) (t' := .int) (by decide) (by decide)))
    have f1050 : Fld Z h1024 r0 "kombos/io/FieldBytes" "full" "Z" (.int (0 : Int32)) := f1049.other W1025 (Or.inr (slot_ne (Or.inl (hw _ (List.mem_of_getElem? (i := 59) rfl))) (Or.inl (hw _ (List.mem_of_getElem? (i := 57) rfl))) (by decide) (t := .boolean) (t' := .boolean) (by decide) (by decide)))
    have f1051 : Fld Z h1009 r0 "kombos/io/FieldBytes" "held" "[B" (.ref bh) := F996.other W1010 (Or.inr (slot_ne (Or.inl (hw _ (List.mem_of_getElem? (i := 11) rfl))) (Or.inl (hw _ (List.mem_of_getElem? (i := 45) rfl))) (by decide) (t := (.array .byte)) (t' := .int) (by decide) (by decide)))
    have f1052 : Fld Z h1016 r0 "kombos/io/FieldBytes" "held" "[B" (.ref bh) := f1051.other W1017 (Or.inr (slot_ne (Or.inl (hw _ (List.mem_of_getElem? (i := 11) rfl))) (Or.inl (hw _ (List.mem_of_getElem? (i := 47) rfl))) (by decide) (t := (.array .byte)) (t' := .int) (by decide) (by decide)))
    have f1053 : Fld Z h1024 r0 "kombos/io/FieldBytes" "held" "[B" (.ref bh) := f1052.other W1025 (Or.inr (slot_ne (Or.inl (hw _ (List.mem_of_getElem? (i := 11) rfl))) (Or.inl (hw _ (List.mem_of_getElem? (i := 57) rfl))) (by decide) (t := (.array .byte)) (t' := .boolean) (by decide) (by decide)))
    have f1054 : Fld Z h1009 r0 "kombos/io/FieldBytes" "bytes" "[B" (.ref by_) := F997.other W1010 (Or.inr (slot_ne (Or.inl (hw _ (List.mem_of_getElem? (i := 13) rfl))) (Or.inl (hw _ (List.mem_of_getElem? (i := 45) rfl))) (by decide) (t := (.array .byte)) (t' := .int) (by decide) (by decide)))
    have f1055 : Fld Z h1016 r0 "kombos/io/FieldBytes" "bytes" "[B" (.ref by_) := f1054.other W1017 (Or.inr (slot_ne (Or.inl (hw _ (List.mem_of_getElem? (i := 13) rfl))) (Or.inl (hw _ (List.mem_of_getElem? (i := 47) rfl))) (by decide) (t := (.array .byte)) (t' := .int) (by decide) (by decide)))
    have f1056 : Fld Z h1024 r0 "kombos/io/FieldBytes" "bytes" "[B" (.ref by_) := f1055.other W1025 (Or.inr (slot_ne (Or.inl (hw _ (List.mem_of_getElem? (i := 13) rfl))) (Or.inl (hw _ (List.mem_of_getElem? (i := 57) rfl))) (by decide) (t := (.array .byte)) (t' := .boolean) (by decide) (by decide)))
    have f1057 : Fld Z h1009 r0 "kombos/io/FieldBytes" "starts" "[I" (.ref bs) := F998.other W1010 (Or.inr (slot_ne (Or.inl (hw _ (List.mem_of_getElem? (i := 16) rfl))) (Or.inl (hw _ (List.mem_of_getElem? (i := 45) rfl))) (by decide) (t := (.array .int)) (t' := .int) (by decide) (by decide)))
    have f1058 : Fld Z h1016 r0 "kombos/io/FieldBytes" "starts" "[I" (.ref bs) := f1057.other W1017 (Or.inr (slot_ne (Or.inl (hw _ (List.mem_of_getElem? (i := 16) rfl))) (Or.inl (hw _ (List.mem_of_getElem? (i := 47) rfl))) (by decide) (t := (.array .int)) (t' := .int) (by decide) (by decide)))
    have f1059 : Fld Z h1024 r0 "kombos/io/FieldBytes" "starts" "[I" (.ref bs) := f1058.other W1025 (Or.inr (slot_ne (Or.inl (hw _ (List.mem_of_getElem? (i := 16) rfl))) (Or.inl (hw _ (List.mem_of_getElem? (i := 57) rfl))) (by decide) (t := (.array .int)) (t' := .boolean) (by decide) (by decide)))
    have f1060 : Fld Z h1009 r0 "kombos/io/FieldBytes" "ends" "[I" (.ref be) := F999.other W1010 (Or.inr (slot_ne (Or.inl (hw _ (List.mem_of_getElem? (i := 18) rfl))) (Or.inl (hw _ (List.mem_of_getElem? (i := 45) rfl))) (by decide) (t := (.array .int)) (t' := .int) (by decide) (by decide)))
    have f1061 : Fld Z h1016 r0 "kombos/io/FieldBytes" "ends" "[I" (.ref be) := f1060.other W1017 (Or.inr (slot_ne (Or.inl (hw _ (List.mem_of_getElem? (i := 18) rfl))) (Or.inl (hw _ (List.mem_of_getElem? (i := 47) rfl))) (by decide) (t := (.array .int)) (t' := .int) (by decide) (by decide)))
    have f1062 : Fld Z h1024 r0 "kombos/io/FieldBytes" "ends" "[I" (.ref be) := f1061.other W1025 (Or.inr (slot_ne (Or.inl (hw _ (List.mem_of_getElem? (i := 18) rfl))) (Or.inl (hw _ (List.mem_of_getElem? (i := 57) rfl))) (by decide) (t := (.array .int)) (t' := .boolean) (by decide) (by decide)))
    have f1063 : Fld Z h1009 r0 "kombos/io/FieldBytes" "plain" "[I" (.ref bp) := F1000.other W1010 (Or.inr (slot_ne (Or.inl (hw _ (List.mem_of_getElem? (i := 20) rfl))) (Or.inl (hw _ (List.mem_of_getElem? (i := 45) rfl))) (by decide) (t := (.array .int)) (t' := .int) (by decide) (by decide)))
    have f1064 : Fld Z h1016 r0 "kombos/io/FieldBytes" "plain" "[I" (.ref bp) := f1063.other W1017 (Or.inr (slot_ne (Or.inl (hw _ (List.mem_of_getElem? (i := 20) rfl))) (Or.inl (hw _ (List.mem_of_getElem? (i := 47) rfl))) (by decide) (t := (.array .int)) (t' := .int) (by decide) (by decide)))
    have f1065 : Fld Z h1024 r0 "kombos/io/FieldBytes" "plain" "[I" (.ref bp) := f1064.other W1025 (Or.inr (slot_ne (Or.inl (hw _ (List.mem_of_getElem? (i := 20) rfl))) (Or.inl (hw _ (List.mem_of_getElem? (i := 57) rfl))) (by decide) (t := (.array .int)) (t' := .boolean) (by decide) (by decide)))
    have f1066 : own_A Z h1009 bh .byte hv := F1001.other W1010 ne_bh_r0
    have f1067 : own_A Z h1016 bh .byte hv := f1066.other W1017 ne_bh_r0
    have f1068 : own_A Z h1024 bh .byte hv := f1067.other W1025 ne_bh_r0
    have f1069 : own_A Z h1009 bs .int (sv.set 0 (.int (0 : Int32))) := F1002.other W1010 ne_bs_r0
    have f1070 : own_A Z h1016 bs .int (sv.set 0 (.int (0 : Int32))) := f1069.other W1017 ne_bs_r0
    have f1071 : own_A Z h1024 bs .int (sv.set 0 (.int (0 : Int32))) := f1070.other W1025 ne_bs_r0
    have f1072 : own_A Z h1009 be .int (ev.set 0 (.int (1 : Int32))) := F1003.other W1010 ne_be_r0
    have f1073 : own_A Z h1016 be .int (ev.set 0 (.int (1 : Int32))) := f1072.other W1017 ne_be_r0
    have f1074 : own_A Z h1024 be .int (ev.set 0 (.int (1 : Int32))) := f1073.other W1025 ne_be_r0
    have f1075 : own_A Z h1009 bp .int (pv.set 0 (.int bits)) := F1004.other W1010 ne_bp_r0
    have f1076 : own_A Z h1016 bp .int (pv.set 0 (.int bits)) := f1075.other W1017 ne_bp_r0
    have f1077 : own_A Z h1024 bp .int (pv.set 0 (.int bits)) := f1076.other W1025 ne_bp_r0
    refine own_retAW Y1023 si1030 hx hlk hret rfl rfl rfl (hb hby own_d8_98) (by decide) (by decide) ?_
    have e0 : (0 : Int32).toInt = 0 := rfl
    have e32 : (32 : Int32).toInt = 32 := rfl
    have hw1 : 0 ≤ w_.toInt := by have q := c45_823; simp only [own_b_0, Bool.not_eq_false, decide_eq_true_eq] at q; omega
    exact ⟨_, _, rfl, K1034, f1035, f1038, f1041, f1043, f1046, f1047, F1026, f1050, f1053, f1056, f1059, f1062, f1065, f1068, f1071, f1074, f1077, Or.inl ⟨hw1, rfl, rfl⟩⟩
  ·
   refine own_st (fun t_ => XS.ifYes (own_here Y810) hx rfl (pc0 := 27) (pc' := 51) rfl (hb hby own_d8_27) rfl (XT.i0_ge_t c27_811) (by decide) (by decide)) ?_
   show own_Ends _ _ _ _ (T809.setTop (mkF m 51 #[.val (.ref r0), .val .null] []))
   refine own_st (fun t_ => XS.aloadN (own_here Y810) hx rfl (hb hby own_d8_51) rfl rfl) ?_
   show own_Ends _ _ _ _ (T809.setTop (mkF m 52 #[.val (.ref r0), .val .null] [.null]))
   refine own_st (fun t_ => XS.ifnullYes (own_here Y810) hx rfl (pc0 := 52) (pc' := 63) rfl (hb hby own_d8_52) rfl (by decide) (by decide)) ?_
   show own_Ends _ _ _ _ (T809.setTop (mkF m 63 #[.val (.ref r0), .val .null] []))
   refine own_st (fun t_ => XS.aloadN (own_here Y810) hx rfl (hb hby own_d8_63) rfl rfl) ?_
   show own_Ends _ _ _ _ (T809.setTop (mkF m 64 #[.val (.ref r0), .val .null] [(.ref r0)]))
   refine own_st (fun t_ => XS.aloadN (own_here Y810) hx rfl (hb hby own_d8_64) rfl rfl) ?_
   show own_Ends _ _ _ _ (T809.setTop (mkF m 65 #[.val (.ref r0), .val .null] [(.ref r0), (.ref r0)]))
   refine own_getF Y810 hx hZ hown (host := "") (Or.inl (hw _ (List.mem_of_getElem? (i := 44) rfl))) Via.refl Fstart rfl rfl (hb hby own_d8_65) (fun T1078 Y1079 => ?_)
   show own_Ends _ _ _ _ (T1078.setTop (mkF m 68 #[.val (.ref r0), .val .null] [(.int (0 : Int32)), (.ref r0)]))
   refine own_st (fun t_ => XS.aloadN (own_here Y1079) hx rfl (hb hby own_d8_68) rfl rfl) ?_
   show own_Ends _ _ _ _ (T1078.setTop (mkF m 69 #[.val (.ref r0), .val .null] [(.ref r0), (.int (0 : Int32)), (.ref r0)]))
   refine own_getF Y1079 hx hZ hown (host := "") (Or.inl (hw _ (List.mem_of_getElem? (i := 42) rfl))) Via.refl Flength rfl rfl (hb hby own_d8_69) (fun T1080 Y1081 => ?_)
   show own_Ends _ _ _ _ (T1080.setTop (mkF m 72 #[.val (.ref r0), .val .null] [(.int (1 : Int32)), (.int (0 : Int32)), (.ref r0)]))
   refine own_st (fun t_ => XS.aloadN (own_here Y1081) hx rfl (hb hby own_d8_72) rfl rfl) ?_
   show own_Ends _ _ _ _ (T1080.setTop (mkF m 73 #[.val (.ref r0), .val .null] [(.ref r0), (.int (1 : Int32)), (.int (0 : Int32)), (.ref r0)]))
   refine own_getF Y1081 hx hZ hown (host := "") (Or.inl (hw _ (List.mem_of_getElem? (i := 46) rfl))) Via.refl Fbits rfl rfl (hb hby own_d8_73) (fun T1082 Y1083 => ?_)
   show own_Ends _ _ _ _ (T1082.setTop (mkF m 76 #[.val (.ref r0), .val .null] [(.int bits), (.int (1 : Int32)), (.int (0 : Int32)), (.ref r0)]))
   refine own_callP Y1083 hx hZ (y := (⟨"kombos/io/FieldBytes", "mark", "(III)V"⟩ : MethodName)) hown (hw _ (List.mem_of_getElem? (i := 64) rfl)) (hw _ (List.mem_of_getElem? (i := 65) rfl)) (hw _ (List.mem_of_getElem? (i := 1) rfl)) (hw _ (List.mem_of_getElem? (i := 66) rfl)) (hw _ (List.mem_of_getElem? (i := 2) rfl)) (hw _ (List.mem_of_getElem? (i := 67) rfl)) (by decide) (a := r0) E (argsL := [(.int (0 : Int32)), (.int (1 : Int32)), (.int bits)]) (rest := []) (own_rm10 l Z a0 hw [] r0 (0 : Int32) (1 : Int32) bits bh bs be bp hv sv ev pv mx (1 : Int32) (0 : Int32) bits by_ h0 n0  E FmaxRecordLength Flength Fstart Fcount Fbits FtooLong Ffull Fheld Fbytes Fstarts Fends Fplain Abh Abs Abe Abp ge_r ge_bh ge_bs ge_be ge_bp ne_bh_r0 ne_bs_r0 ne_be_r0 ne_bp_r0 ne_bh_bs ne_bh_be ne_bh_bp ne_bs_be ne_bs_bp ne_be_bp hvl svl evl pvl) (W := 0) (by decide) (by decide) (by decide) (by decide) rfl (by rw [hml]; rfl) (lenOf own_pd5 rfl) rfl (by show 2 * 0 + _ ≤ _; exact Nat.le_of_eq rfl) (hb hby own_d8_76) (fun T1084 h1086 v1087 Y1085 q1088 => ?_)
   obtain ⟨rfl, K1089, F1090, F1091, F1092, F1093, F1094, F1095, F1096, F1097, F1098, F1099, F1100, F1101, F1102, F1103, F1104, F1105, F1106⟩ := q1088
   show own_Ends _ _ _ _ (T1084.setTop (mkF m 79 #[.val (.ref r0), .val .null] []))
   refine own_st (fun t_ => XS.aloadN (own_here Y1085) hx rfl (hb hby own_d8_79) rfl rfl) ?_
   show own_Ends _ _ _ _ (T1084.setTop (mkF m 80 #[.val (.ref r0), .val .null] [(.ref r0)]))
   refine own_st (fun t_ => XS.aloadN (own_here Y1085) hx rfl (hb hby own_d8_80) rfl rfl) ?_
   show own_Ends _ _ _ _ (T1084.setTop (mkF m 81 #[.val (.ref r0), .val .null] [(.ref r0), (.ref r0)]))
   refine own_getF Y1085 hx hZ hown (host := "") (Or.inl (hw _ (List.mem_of_getElem? (i := 42) rfl))) Via.refl F1092 rfl rfl (hb hby own_d8_81) (fun T1107 Y1108 => ?_)
   show own_Ends _ _ _ _ (T1107.setTop (mkF m 84 #[.val (.ref r0), .val .null] [(.int (1 : Int32)), (.ref r0)]))
   refine own_putF Y1108 hx hZ hown (host := "") (Or.inl (hw _ (List.mem_of_getElem? (i := 44) rfl))) Via.refl F1093 F1090 (Or.inl (hw _ (List.mem_of_getElem? (i := 45) rfl))) (hw _ (List.mem_of_getElem? (i := 1) rfl)) ge_r (ty := .int) (by decide) rfl rfl rfl rfl (hb hby own_d8_84) (fun T1109 h1111 Y1110 W1112 F1113 => ?_)
   show own_Ends _ _ _ _ (T1109.setTop (mkF m 87 #[.val (.ref r0), .val .null] []))
   refine own_st (fun t_ => XS.aloadN (own_here Y1110) hx rfl (hb hby own_d8_87) rfl rfl) ?_
   show own_Ends _ _ _ _ (T1109.setTop (mkF m 88 #[.val (.ref r0), .val .null] [(.ref r0)]))
   refine own_st (fun t_ => XS.iconst (own_here Y1110) hx rfl (hb hby own_d8_88) ) ?_
   show own_Ends _ _ _ _ (T1109.setTop (mkF m 89 #[.val (.ref r0), .val .null] [(.int (0 : Int32)), (.ref r0)]))
   have f1114 : Exa Z h1111 r0 "kombos/io/FieldBytes" := F1090.wr W1112
   have f1115 : Fld Z h1111 r0 "kombos/io/FieldBytes" "bits" "I" (.int bits) := F1095.other W1112 (Or.inr (slot_ne (Or.inl (hw _ (List.mem_of_getElem? (i := 47) rfl))) (Or.inl (hw _ (List.mem_of_getElem? (i := 45) rfl))) (by decide) (t := .int) (t' := .int) (by decide) (by decide)))
   refine own_putF Y1110 hx hZ hown (host := "") (Or.inl (hw _ (List.mem_of_getElem? (i := 46) rfl))) Via.refl f1115 f1114 (Or.inl (hw _ (List.mem_of_getElem? (i := 47) rfl))) (hw _ (List.mem_of_getElem? (i := 1) rfl)) ge_r (ty := .int) (by decide) rfl rfl rfl rfl (hb hby own_d8_89) (fun T1116 h1118 Y1117 W1119 F1120 => ?_)
   show own_Ends _ _ _ _ (T1116.setTop (mkF m 92 #[.val (.ref r0), .val .null] []))
   refine own_st (fun t_ => XS.aloadN (own_here Y1117) hx rfl (hb hby own_d8_92) rfl rfl) ?_
   show own_Ends _ _ _ _ (T1116.setTop (mkF m 93 #[.val (.ref r0), .val .null] [(.ref r0)]))
   refine own_st (fun t_ => XS.iconst (own_here Y1117) hx rfl (hb hby own_d8_93) ) ?_
   show own_Ends _ _ _ _ (T1116.setTop (mkF m 94 #[.val (.ref r0), .val .null] [(.int (0 : Int32)), (.ref r0)]))
   have f1121 : Exa Z h1118 r0 "kombos/io/FieldBytes" := f1114.wr W1119
   have f1122 : Fld Z h1111 r0 "kombos/io/FieldBytes" "tooLong" "Z" (.int (0 : Int32)) := F1096.other W1112 (Or.inr (slot_ne (Or.inl (hw _ (List.mem_of_getElem? (i := 57) rfl))) (Or.inl (hw _ (List.mem_of_getElem? (i := 45) rfl))) (by decide) (t := .boolean) (t' := .int) (by decide) (by decide)))
   have f1123 : Fld Z h1118 r0 "kombos/io/FieldBytes" "tooLong" "Z" (.int (0 : Int32)) := f1122.other W1119 (Or.inr (slot_ne (Or.inl (hw _ (List.mem_of_getElem? (i := 57) rfl))) (Or.inl (hw _ (List.mem_of_getElem? (i := 47) rfl))) (by decide) (t := .boolean) (t' := .int) (by decide) (by decide)))
   refine own_putFN Y1117 hx hZ hown (hw _ (List.mem_of_getElem? (i := 56) rfl)) Via.refl f1123 f1121 (Or.inl (hw _ (List.mem_of_getElem? (i := 57) rfl))) (hw _ (List.mem_of_getElem? (i := 1) rfl)) ge_r (ty := .boolean) (v' := (.int (0 : Int32))) (by decide) rfl (by decide) rfl rfl (hb hby own_d8_94) (fun T1124 h1126 Y1125 W1127 F1128 => ?_)
   show own_Ends _ _ _ _ (T1124.setTop (mkF m 97 #[.val (.ref r0), .val .null] []))
   refine own_st (fun t_ => XS.aloadN (own_here Y1125) hx rfl (hb hby own_d8_97) rfl rfl) ?_
   show own_Ends _ _ _ _ (T1124.setTop (mkF m 98 #[.val (.ref r0), .val .null] [.null]))
   have si1129 : own_Si s s.vm h1086 := hSi.mono K1089.1
   have si1130 : own_Si s s.vm h1111 := si1129.mono (Nat.le_of_eq W1112.size.symm)
   have si1131 : own_Si s s.vm h1118 := si1130.mono (Nat.le_of_eq W1119.size.symm)
   have si1132 : own_Si s s.vm h1126 := si1131.mono (Nat.le_of_eq W1127.size.symm)
   have K1133 : Keep h0 h1086 [r0, bs, bp, be] := (Keep.refl h0 [r0, bs, bp, be]).trans K1089 (allS (Or.inl (List.mem_of_getElem? (i := 0) rfl)) (allS (Or.inl (List.mem_of_getElem? (i := 1) rfl)) (allS (Or.inl (List.mem_of_getElem? (i := 2) rfl)) (allS (Or.inl (List.mem_of_getElem? (i := 3) rfl)) all0))))
   have K1134 : Keep h0 h1111 [r0, bs, bp, be] := K1133.wr W1112 (Or.inl (List.mem_of_getElem? (i := 0) rfl))
   have K1135 : Keep h0 h1118 [r0, bs, bp, be] := K1134.wr W1119 (Or.inl (List.mem_of_getElem? (i := 0) rfl))
   have K1136 : Keep h0 h1126 [r0, bs, bp, be] := K1135.wr W1127 (Or.inl (List.mem_of_getElem? (i := 0) rfl))
   have f1137 : Exa Z h1126 r0 "kombos/io/FieldBytes" := f1121.wr W1127
   have f1138 : Fld Z h1111 r0 "kombos/io/FieldBytes" "maxRecordLength" "I" (.int mx) := F1091.other W1112 (Or.inr (slot_ne (Or.inr (hw _ (List.mem_of_getElem? (i := 22) rfl))) (Or.inl (hw _ (List.mem_of_getElem? (i := 45) rfl))) (by decide) (t := .int) (t' := .int) (by decide) (by decide)))
   have f1139 : Fld Z h1118 r0 "kombos/io/FieldBytes" "maxRecordLength" "I" (.int mx) := f1138.other W1119 (Or.inr (slot_ne (Or.inr (hw _ (List.mem_of_getElem? (i := 22) rfl))) (Or.inl (hw _ (List.mem_of_getElem? (i := 47) rfl))) (by decide) (t := .int) (t' := .int) (by decide) (by decide)))
   have f1140 : Fld Z h1126 r0 "kombos/io/FieldBytes" "maxRecordLength" "I" (.int mx) := f1139.other W1127 (Or.inr (slot_ne (Or.inr (hw _ (List.mem_of_getElem? (i := 22) rfl))) (Or.inl (hw _ (List.mem_of_getElem? (i := 57) rfl))) (by decide) (t := .int) (t' := .boolean) (by decide) (by decide)))
   have f1141 : Fld Z h1111 r0 "kombos/io/FieldBytes" "length" "I" (.int (1 : Int32)) := F1092.other W1112 (Or.inr (slot_ne (Or.inl (hw _ (List.mem_of_getElem? (i := 43) rfl))) (Or.inl (hw _ (List.mem_of_getElem? (i := 45) rfl))) (by decide) (t := .int) (t' := .int) (by decide) (by decide)))
   have f1142 : Fld Z h1118 r0 "kombos/io/FieldBytes" "length" "I" (.int (1 : Int32)) := f1141.other W1119 (Or.inr (slot_ne (Or.inl (hw _ (List.mem_of_getElem? (i := 43) rfl))) (Or.inl (hw _ (List.mem_of_getElem? (i := 47) rfl))) (by decide) (t := .int) (t' := .int) (by decide) (by decide)))
   have f1143 : Fld Z h1126 r0 "kombos/io/FieldBytes" "length" "I" (.int (1 : Int32)) := f1142.other W1127 (Or.inr (slot_ne (Or.inl (hw _ (List.mem_of_getElem? (i := 43) rfl))) (Or.inl (hw _ (List.mem_of_getElem? (i := 57) rfl))) (by decide) (t := .int) (t' := .boolean) (by decide) (by decide)))
   have f1144 : Fld Z h1118 r0 "kombos/io/FieldBytes" "start" "I" (.int (1 : Int32)) := F1113.other W1119 (Or.inr (slot_ne (Or.inl (hw _ (List.mem_of_getElem? (i := 45) rfl))) (Or.inl (hw _ (List.mem_of_getElem? (i := 47) rfl))) (by decide) (t := .int) (t' := .int) (by decide) (by decide)))
   have f1145 : Fld Z h1126 r0 "kombos/io/FieldBytes" "start" "I" (.int (1 : Int32)) := f1144.other W1127 (Or.inr (slot_ne (Or.inl (hw _ (List.mem_of_getElem? (i := 45) rfl))) (Or.inl (hw _ (List.mem_of_getElem? (i := 57) rfl))) (by decide) (t := .int) (t' := .boolean) (by decide) (by decide)))
   have f1146 : Fld Z h1111 r0 "kombos/io/FieldBytes" "count" "I" (.int (1 : Int32)) := F1094.other W1112 (Or.inr (slot_ne (Or.inl (hw _ (List.mem_of_getElem? (i := 69) rfl))) (Or.inl (hw _ (List.mem_of_getElem? (i := 45) rfl))) (by decide) (t := .int) (t' := .int) (by decide) (by decide)))
   have f1147 : Fld Z h1118 r0 "kombos/io/FieldBytes" "count" "I" (.int (1 : Int32)) := f1146.other W1119 (Or.inr (slot_ne (Or.inl (hw _ (List.mem_of_getElem? (i := 69) rfl))) (Or.inl (hw _ (List.mem_of_getElem? (i := 47) rfl))) (by decide) (t := .int) (t' := .int) (by decide) (by decide)))
   have f1148 : Fld Z h1126 r0 "kombos/io/FieldBytes" "count" "I" (.int (1 : Int32)) := f1147.other W1127 (Or.inr (slot_ne (Or.inl (hw _ (List.mem_of_getElem? (i := 69) rfl))) (Or.inl (hw _ (List.mem_of_getElem? (i := 57) rfl))) (by decide) (t := .int) (t' := .boolean) (by decide) (by decide)))
   have f1149 : Fld Z h1126 r0 "kombos/io/FieldBytes" "bits" "I" (.int (0 : Int32)) := F1120.other W1127 (Or.inr (slot_ne (Or.inl (hw _ (List.mem_of_getElem? (i := 47) rfl))) (Or.inl (hw _ (List.mem_of_getElem? (i := 57) rfl))) (by decide) (t := .int) (t' := .boolean) (by decide) (by decide)))
   have f1150 : Fld Z h1111 r0 "kombos/io/FieldBytes" "full" "Z" (.int (0 : Int32)) := F1097.other W1112 (Or.inr (slot_ne (Or.inl (hw _ (List.mem_of_getElem? (i := 59) rfl))) (Or.inl (hw _ (List.mem_of_getElem? (i := 45) rfl))) (by decide) (t := .boolean) (t' := .int) (by decide) (by decide)))
   have f1151 : Fld Z h1118 r0 "kombos/io/FieldBytes" "full" "Z" (.int (0 : Int32)) := f1150.other W1119 (Or.inr (slot_ne (Or.inl (hw _ (List.mem_of_getElem? (i := 59) rfl))) (Or.inl (hw _ (List.mem_of_getElem? (i := 47) rfl))) (by decide) (t := .boolean) (t' := .int) (by decide) (by decide)))
   have f1152 : Fld Z h1126 r0 "kombos/io/FieldBytes" "full" "Z" (.int (0 : Int32)) := f1151.other W1127 (Or.inr (slot_ne (Or.inl (hw _ (List.mem_of_getElem? (i := 59) rfl))) (Or.inl (hw _ (List.mem_of_getElem? (i := 57) rfl))) (by decide) (t := .boolean) (t' := .boolean) (by decide) (by decide)))
   have f1153 : Fld Z h1111 r0 "kombos/io/FieldBytes" "held" "[B" (.ref bh) := F1098.other W1112 (Or.inr (slot_ne (Or.inl (hw _ (List.mem_of_getElem? (i := 11) rfl))) (Or.inl (hw _ (List.mem_of_getElem? (i := 45) rfl))) (by decide) (t := (.array .byte)) (t' := .int) (by decide) (by decide)))
   have f1154 : Fld Z h1118 r0 "kombos/io/FieldBytes" "held" "[B" (.ref bh) := f1153.other W1119 (Or.inr (slot_ne (Or.inl (hw _ (List.mem_of_getElem? (i := 11) rfl))) (Or.inl (hw _ (List.mem_of_getElem? (i := 47) rfl))) (by decide) (t := (.array .byte)) (t' := .int) (by decide) (by decide)))
   have f1155 : Fld Z h1126 r0 "kombos/io/FieldBytes" "held" "[B" (.ref bh) := f1154.other W1127 (Or.inr (slot_ne (Or.inl (hw _ (List.mem_of_getElem? (i := 11) rfl))) (Or.inl (hw _ (List.mem_of_getElem? (i := 57) rfl))) (by decide) (t := (.array .byte)) (t' := .boolean) (by decide) (by decide)))
   have f1156 : Fld Z h1111 r0 "kombos/io/FieldBytes" "bytes" "[B" (.ref by_) := F1099.other W1112 (Or.inr (slot_ne (Or.inl (hw _ (List.mem_of_getElem? (i := 13) rfl))) (Or.inl (hw _ (List.mem_of_getElem? (i := 45) rfl))) (by decide) (t := (.array .byte)) (t' := .int) (by decide) (by decide)))
   have f1157 : Fld Z h1118 r0 "kombos/io/FieldBytes" "bytes" "[B" (.ref by_) := f1156.other W1119 (Or.inr (slot_ne (Or.inl (hw _ (List.mem_of_getElem? (i := 13) rfl))) (Or.inl (hw _ (List.mem_of_getElem? (i := 47) rfl))) (by decide) (t := (.array .byte)) (t' := .int) (by decide) (by decide)))
   have f1158 : Fld Z h1126 r0 "kombos/io/FieldBytes" "bytes" "[B" (.ref by_) := f1157.other W1127 (Or.inr (slot_ne (Or.inl (hw _ (List.mem_of_getElem? (i := 13) rfl))) (Or.inl (hw _ (List.mem_of_getElem? (i := 57) rfl))) (by decide) (t := (.array .byte)) (t' := .boolean) (by decide) (by decide)))
   have f1159 : Fld Z h1111 r0 "kombos/io/FieldBytes" "starts" "[I" (.ref bs) := F1100.other W1112 (Or.inr (slot_ne (Or.inl (hw _ (List.mem_of_getElem? (i := 16) rfl))) (Or.inl (hw _ (List.mem_of_getElem? (i := 45) rfl))) (by decide) (t := (.array .int)) (t' := .int) (by decide) (by decide)))
   have f1160 : Fld Z h1118 r0 "kombos/io/FieldBytes" "starts" "[I" (.ref bs) := f1159.other W1119 (Or.inr (slot_ne (Or.inl (hw _ (List.mem_of_getElem? (i := 16) rfl))) (Or.inl (hw _ (List.mem_of_getElem? (i := 47) rfl))) (by decide) (t := (.array .int)) (t' := .int) (by decide) (by decide)))
   have f1161 : Fld Z h1126 r0 "kombos/io/FieldBytes" "starts" "[I" (.ref bs) := f1160.other W1127 (Or.inr (slot_ne (Or.inl (hw _ (List.mem_of_getElem? (i := 16) rfl))) (Or.inl (hw _ (List.mem_of_getElem? (i := 57) rfl))) (by decide) (t := (.array .int)) (t' := .boolean) (by decide) (by decide)))
   have f1162 : Fld Z h1111 r0 "kombos/io/FieldBytes" "ends" "[I" (.ref be) := F1101.other W1112 (Or.inr (slot_ne (Or.inl (hw _ (List.mem_of_getElem? (i := 18) rfl))) (Or.inl (hw _ (List.mem_of_getElem? (i := 45) rfl))) (by decide) (t := (.array .int)) (t' := .int) (by decide) (by decide)))
   have f1163 : Fld Z h1118 r0 "kombos/io/FieldBytes" "ends" "[I" (.ref be) := f1162.other W1119 (Or.inr (slot_ne (Or.inl (hw _ (List.mem_of_getElem? (i := 18) rfl))) (Or.inl (hw _ (List.mem_of_getElem? (i := 47) rfl))) (by decide) (t := (.array .int)) (t' := .int) (by decide) (by decide)))
   have f1164 : Fld Z h1126 r0 "kombos/io/FieldBytes" "ends" "[I" (.ref be) := f1163.other W1127 (Or.inr (slot_ne (Or.inl (hw _ (List.mem_of_getElem? (i := 18) rfl))) (Or.inl (hw _ (List.mem_of_getElem? (i := 57) rfl))) (by decide) (t := (.array .int)) (t' := .boolean) (by decide) (by decide)))
   have f1165 : Fld Z h1111 r0 "kombos/io/FieldBytes" "plain" "[I" (.ref bp) := F1102.other W1112 (Or.inr (slot_ne (Or.inl (hw _ (List.mem_of_getElem? (i := 20) rfl))) (Or.inl (hw _ (List.mem_of_getElem? (i := 45) rfl))) (by decide) (t := (.array .int)) (t' := .int) (by decide) (by decide)))
   have f1166 : Fld Z h1118 r0 "kombos/io/FieldBytes" "plain" "[I" (.ref bp) := f1165.other W1119 (Or.inr (slot_ne (Or.inl (hw _ (List.mem_of_getElem? (i := 20) rfl))) (Or.inl (hw _ (List.mem_of_getElem? (i := 47) rfl))) (by decide) (t := (.array .int)) (t' := .int) (by decide) (by decide)))
   have f1167 : Fld Z h1126 r0 "kombos/io/FieldBytes" "plain" "[I" (.ref bp) := f1166.other W1127 (Or.inr (slot_ne (Or.inl (hw _ (List.mem_of_getElem? (i := 20) rfl))) (Or.inl (hw _ (List.mem_of_getElem? (i := 57) rfl))) (by decide) (t := (.array .int)) (t' := .boolean) (by decide) (by decide)))
   have f1168 : own_A Z h1111 bh .byte hv := F1103.other W1112 ne_bh_r0
   have f1169 : own_A Z h1118 bh .byte hv := f1168.other W1119 ne_bh_r0
   have f1170 : own_A Z h1126 bh .byte hv := f1169.other W1127 ne_bh_r0
   have f1171 : own_A Z h1111 bs .int (sv.set 0 (.int (0 : Int32))) := F1104.other W1112 ne_bs_r0
   have f1172 : own_A Z h1118 bs .int (sv.set 0 (.int (0 : Int32))) := f1171.other W1119 ne_bs_r0
   have f1173 : own_A Z h1126 bs .int (sv.set 0 (.int (0 : Int32))) := f1172.other W1127 ne_bs_r0
   have f1174 : own_A Z h1111 be .int (ev.set 0 (.int (1 : Int32))) := F1105.other W1112 ne_be_r0
   have f1175 : own_A Z h1118 be .int (ev.set 0 (.int (1 : Int32))) := f1174.other W1119 ne_be_r0
   have f1176 : own_A Z h1126 be .int (ev.set 0 (.int (1 : Int32))) := f1175.other W1127 ne_be_r0
   have f1177 : own_A Z h1111 bp .int (pv.set 0 (.int bits)) := F1106.other W1112 ne_bp_r0
   have f1178 : own_A Z h1118 bp .int (pv.set 0 (.int bits)) := f1177.other W1119 ne_bp_r0
   have f1179 : own_A Z h1126 bp .int (pv.set 0 (.int bits)) := f1178.other W1127 ne_bp_r0
   refine own_retAW Y1125 si1132 hx hlk hret rfl rfl rfl (hb hby own_d8_98) (by decide) (by decide) ?_
   have e0 : (0 : Int32).toInt = 0 := rfl
   have e32 : (32 : Int32).toInt = 32 := rfl
   have hw1 : 0 ≤ w_.toInt := by have q := c27_811; rw [own_lt, hbits] at q; omega
   exact ⟨_, _, rfl, K1136, f1137, f1140, f1143, f1145, f1148, f1149, F1128, f1152, f1155, f1158, f1161, f1164, f1167, f1170, f1173, f1176, f1179, Or.inl ⟨hw1, rfl, rfl⟩⟩
theorem own_d12_0 : decode prog_57_method_14_code 0 = .ok (.aload_n 0, 1) := by decide +kernel
theorem own_d12_1 : decode prog_57_method_14_code 1 = .ok (.getfield 40, 3) := by decide +kernel
theorem own_d12_4 : decode prog_57_method_14_code 4 = .ok (.ireturn, 1) := by decide +kernel
theorem own_ef_own_rm12 (m : MethodId) (r0 : Addr) : entryFrame m #[(.ref r0)] 1 = mkF m 0 #[.val (.ref r0)] [] := by first | (simp [entryFrame, mkF, argsToLocals, Value.category]; done) | rfl
def own_Q_own_rm12 (Z : State)  (h0 : Heap) (n0 : Nat) (v : Option Value) (h : Heap) : Prop := v = some (.int 1) ∧ h0 = h
set_option maxRecDepth 65536 in
set_option maxHeartbeats 40000000 in
theorem own_rm12 (l : Launch) (Z : State) (a0 : Array Value) (hw : ∀ d ∈ tables_1, d.before a0 Z = true) (ws : List Jvm.Cond) (r0 : Addr)  (h0 : Heap) (n0 : Nat)  (F : Fld Z h0 r0 "kombos/io/FieldBytes" "count" "I" (.int 1)) :
    own_Con l Z (⟨"kombos/io/FieldBytes", "count", "()I"⟩ : MethodName) prog_57_method_14_code 1 (some .int) ws ({ frames := 0, cells := 0, slots := 0, locals := 0 } : Room) #[(.ref r0)] h0 n0 (own_Q_own_rm12 Z  h0 n0) := by
  refine own_body (plainFor_of_name own_pn0) ?_
  intro p e s m below meth c T0 hx hZ hby hml hown hnm hret hlk Y0
  replace hown : s.vm.findClass "kombos/io/FieldBytes" = some m.cls := hown
  replace hnm : meth.name = "count" := hnm
  rw [own_ef_own_rm12 m r0]
  show own_Ends _ _ _ _ (T0.setTop (mkF m 0 #[.val (.ref r0)] []))
  refine own_st (fun t_ => XS.aloadN (own_here Y0) hx rfl (hb hby own_d12_0) rfl rfl) ?_
  show own_Ends _ _ _ _ (T0.setTop (mkF m 1 #[.val (.ref r0)] [(.ref r0)]))
  refine own_getF Y0 hx hZ hown (host := "") (Or.inl (hw _ (List.mem_of_getElem? (i := 68) rfl))) Via.refl F rfl rfl (hb hby own_d12_1) (fun T1180 Y1181 => ?_)
  show own_Ends _ _ _ _ (T1180.setTop (mkF m 4 #[.val (.ref r0)] [(.int (1 : Int32))]))
  refine own_retI Y1181 hx hlk hret (hb hby own_d12_4) (by decide) (by decide) ?_
  exact ⟨rfl, rfl⟩
theorem own_d13_0 : decode prog_57_method_12_code 0 = .ok (.aload_n 0, 1) := by decide +kernel
theorem own_d13_1 : decode prog_57_method_12_code 1 = .ok (.getfield 50, 3) := by decide +kernel
theorem own_d13_4 : decode prog_57_method_12_code 4 = .ok (.ifCond .eq 18, 3) := by decide +kernel
theorem own_d13_22 : decode prog_57_method_12_code 22 = .ok (.aconst_null, 1) := by decide +kernel
theorem own_d13_23 : decode prog_57_method_12_code 23 = .ok (.areturn, 1) := by decide +kernel
theorem own_ef_own_rm13 (m : MethodId) (r0 : Addr) : entryFrame m #[(.ref r0)] 1 = mkF m 0 #[.val (.ref r0)] [] := by first | (simp [entryFrame, mkF, argsToLocals, Value.category]; done) | rfl
def own_Q_own_rm13 (Z : State)  (h0 : Heap) (n0 : Nat) (v : Option Value) (h : Heap) : Prop := v = some .null ∧ h0 = h
set_option maxRecDepth 65536 in
set_option maxHeartbeats 40000000 in
theorem own_rm13 (l : Launch) (Z : State) (a0 : Array Value) (hw : ∀ d ∈ tables_1, d.before a0 Z = true) (ws : List Jvm.Cond) (r0 : Addr)  (h0 : Heap) (n0 : Nat)  (F : Fld Z h0 r0 "kombos/io/FieldBytes" "full" "Z" (.int 0)) :
    own_Con l Z (⟨"kombos/io/FieldBytes", "recordProblem", "()Ljava/lang/String;"⟩ : MethodName) prog_57_method_12_code 1 (some (.object "java/lang/String")) ws ({ frames := 0, cells := 0, slots := 0, locals := 0 } : Room) #[(.ref r0)] h0 n0 (own_Q_own_rm13 Z  h0 n0) := by
  refine own_body (plainFor_of_name own_pn0) ?_
  intro p e s m below meth c T0 hx hZ hby hml hown hnm hret hlk Y0
  replace hown : s.vm.findClass "kombos/io/FieldBytes" = some m.cls := hown
  replace hnm : meth.name = "recordProblem" := hnm
  rw [own_ef_own_rm13 m r0]
  show own_Ends _ _ _ _ (T0.setTop (mkF m 0 #[.val (.ref r0)] []))
  refine own_st (fun t_ => XS.aloadN (own_here Y0) hx rfl (hb hby own_d13_0) rfl rfl) ?_
  show own_Ends _ _ _ _ (T0.setTop (mkF m 1 #[.val (.ref r0)] [(.ref r0)]))
  refine own_getF Y0 hx hZ hown (host := "") (Or.inl (hw _ (List.mem_of_getElem? (i := 58) rfl))) Via.refl F rfl rfl (hb hby own_d13_1) (fun T1182 Y1183 => ?_)
  show own_Ends _ _ _ _ (T1182.setTop (mkF m 4 #[.val (.ref r0)] [(.int (0 : Int32))]))
  refine own_st (fun t_ => XS.ifYes (own_here Y1183) hx rfl (pc0 := 4) (pc' := 22) rfl (hb hby own_d13_4) rfl (XT.i0_eq_t (by decide)) (by decide) (by decide)) ?_
  show own_Ends _ _ _ _ (T1182.setTop (mkF m 22 #[.val (.ref r0)] []))
  refine own_st (fun t_ => XS.aconstNull (own_here Y1183) hx rfl (hb hby own_d13_22) ) ?_
  show own_Ends _ _ _ _ (T1182.setTop (mkF m 23 #[.val (.ref r0)] [.null]))
  refine own_retA Y1183 hx hlk hret rfl rfl rfl (hb hby own_d13_23) (by decide) (by decide) ?_
  exact ⟨rfl, rfl⟩
theorem own_d14_0 : decode prog_57_method_15_code 0 = .ok (.aload_n 0, 1) := by decide +kernel
theorem own_d14_1 : decode prog_57_method_15_code 1 = .ok (.getfield 17, 3) := by decide +kernel
theorem own_d14_4 : decode prog_57_method_15_code 4 = .ok (.areturn, 1) := by decide +kernel
theorem own_ef_own_rm14 (m : MethodId) (r0 : Addr) : entryFrame m #[(.ref r0)] 1 = mkF m 0 #[.val (.ref r0)] [] := by first | (simp [entryFrame, mkF, argsToLocals, Value.category]; done) | rfl
def own_Q_own_rm14 (Z : State) (b : Addr) (h0 : Heap) (n0 : Nat) (v : Option Value) (h : Heap) : Prop := v = some (.ref b) ∧ h0 = h
set_option maxRecDepth 65536 in
set_option maxHeartbeats 40000000 in
theorem own_rm14 (l : Launch) (Z : State) (a0 : Array Value) (hw : ∀ d ∈ tables_1, d.before a0 Z = true) (ws : List Jvm.Cond) (r0 : Addr) (b : Addr) (h0 : Heap) (n0 : Nat)  (F : Fld Z h0 r0 "kombos/io/FieldBytes" "bytes" "[B" (.ref b)) :
    own_Con l Z (⟨"kombos/io/FieldBytes", "bytes", "()[B"⟩ : MethodName) prog_57_method_15_code 1 (some (.array .byte)) ws ({ frames := 0, cells := 0, slots := 0, locals := 0 } : Room) #[(.ref r0)] h0 n0 (own_Q_own_rm14 Z b h0 n0) := by
  refine own_body (plainFor_of_name own_pn0) ?_
  intro p e s m below meth c T0 hx hZ hby hml hown hnm hret hlk Y0
  replace hown : s.vm.findClass "kombos/io/FieldBytes" = some m.cls := hown
  replace hnm : meth.name = "bytes" := hnm
  rw [own_ef_own_rm14 m r0]
  show own_Ends _ _ _ _ (T0.setTop (mkF m 0 #[.val (.ref r0)] []))
  refine own_st (fun t_ => XS.aloadN (own_here Y0) hx rfl (hb hby own_d14_0) rfl rfl) ?_
  show own_Ends _ _ _ _ (T0.setTop (mkF m 1 #[.val (.ref r0)] [(.ref r0)]))
  refine own_getF Y0 hx hZ hown (host := "") (Or.inl (hw _ (List.mem_of_getElem? (i := 12) rfl))) Via.refl F rfl rfl (hb hby own_d14_1) (fun T1184 Y1185 => ?_)
  show own_Ends _ _ _ _ (T1184.setTop (mkF m 4 #[.val (.ref r0)] [(.ref b)]))
  refine own_retA Y1185 hx hlk hret rfl rfl rfl (hb hby own_d14_4) (by decide) (by decide) ?_
  exact ⟨rfl, rfl⟩
theorem own_d15_0 : decode prog_57_method_16_code 0 = .ok (.aload_n 0, 1) := by decide +kernel
theorem own_d15_1 : decode prog_57_method_16_code 1 = .ok (.getfield 20, 3) := by decide +kernel
theorem own_d15_4 : decode prog_57_method_16_code 4 = .ok (.iload_n 1, 1) := by decide +kernel
theorem own_d15_5 : decode prog_57_method_16_code 5 = .ok (.iaload, 1) := by decide +kernel
theorem own_d15_6 : decode prog_57_method_16_code 6 = .ok (.ireturn, 1) := by decide +kernel
theorem own_ef_own_rm15 (m : MethodId) (r0 : Addr) : entryFrame m #[(.ref r0), (.int (0 : Int32))] 2 = mkF m 0 #[.val (.ref r0), .val (.int (0 : Int32))] [] := by first | (simp [entryFrame, mkF, argsToLocals, Value.category]; done) | rfl
def own_Q_own_rm15 (Z : State) (z : Int32) (h0 : Heap) (n0 : Nat) (v : Option Value) (h : Heap) : Prop := v = some (.int z) ∧ h0 = h
set_option maxRecDepth 65536 in
set_option maxHeartbeats 40000000 in
theorem own_rm15 (l : Launch) (Z : State) (a0 : Array Value) (hw : ∀ d ∈ tables_1, d.before a0 Z = true) (ws : List Jvm.Cond) (r0 : Addr) (b : Addr) (vs : List Value) (z : Int32) (h0 : Heap) (n0 : Nat)  (F : Fld Z h0 r0 "kombos/io/FieldBytes" "starts" "[I" (.ref b)) (A : own_A Z h0 b .int vs) (hl : vs.length = 8) (hz : vs[0]? = some (.int z)) :
    own_Con l Z (⟨"kombos/io/FieldBytes", "start", "(I)I"⟩ : MethodName) prog_57_method_16_code 2 (some .int) ws ({ frames := 0, cells := 0, slots := 0, locals := 0 } : Room) #[(.ref r0), (.int (0 : Int32))] h0 n0 (own_Q_own_rm15 Z z h0 n0) := by
  refine own_body (plainFor_of_name own_pn0) ?_
  intro p e s m below meth c T0 hx hZ hby hml hown hnm hret hlk Y0
  replace hown : s.vm.findClass "kombos/io/FieldBytes" = some m.cls := hown
  replace hnm : meth.name = "start" := hnm
  rw [own_ef_own_rm15 m r0]
  show own_Ends _ _ _ _ (T0.setTop (mkF m 0 #[.val (.ref r0), .val (.int (0 : Int32))] []))
  refine own_st (fun t_ => XS.aloadN (own_here Y0) hx rfl (hb hby own_d15_0) rfl rfl) ?_
  show own_Ends _ _ _ _ (T0.setTop (mkF m 1 #[.val (.ref r0), .val (.int (0 : Int32))] [(.ref r0)]))
  refine own_getF Y0 hx hZ hown (host := "") (Or.inl (hw _ (List.mem_of_getElem? (i := 15) rfl))) Via.refl F rfl rfl (hb hby own_d15_1) (fun T1186 Y1187 => ?_)
  show own_Ends _ _ _ _ (T1186.setTop (mkF m 4 #[.val (.ref r0), .val (.int (0 : Int32))] [(.ref b)]))
  refine own_st (fun t_ => XS.iloadN (own_here Y1187) hx rfl (hb hby own_d15_4) rfl) ?_
  show own_Ends _ _ _ _ (T1186.setTop (mkF m 5 #[.val (.ref r0), .val (.int (0 : Int32))] [(.int (0 : Int32)), (.ref b)]))
  refine own_ldI Y1187 hx hZ A (i := 0) (by decide) (by decide) (by rw [hl]; decide) (v := (.int z)) hz rfl rfl (hb hby own_d15_5) ?_
  show own_Ends _ _ _ _ (T1186.setTop (mkF m 6 #[.val (.ref r0), .val (.int (0 : Int32))] [(.int z)]))
  refine own_retI Y1187 hx hlk hret (hb hby own_d15_6) (by decide) (by decide) ?_
  exact ⟨rfl, rfl⟩
theorem own_d16_0 : decode prog_57_method_17_code 0 = .ok (.aload_n 0, 1) := by decide +kernel
theorem own_d16_1 : decode prog_57_method_17_code 1 = .ok (.getfield 24, 3) := by decide +kernel
theorem own_d16_4 : decode prog_57_method_17_code 4 = .ok (.iload_n 1, 1) := by decide +kernel
theorem own_d16_5 : decode prog_57_method_17_code 5 = .ok (.iaload, 1) := by decide +kernel
theorem own_d16_6 : decode prog_57_method_17_code 6 = .ok (.ireturn, 1) := by decide +kernel
theorem own_ef_own_rm16 (m : MethodId) (r0 : Addr) : entryFrame m #[(.ref r0), (.int (0 : Int32))] 2 = mkF m 0 #[.val (.ref r0), .val (.int (0 : Int32))] [] := by first | (simp [entryFrame, mkF, argsToLocals, Value.category]; done) | rfl
def own_Q_own_rm16 (Z : State) (z : Int32) (h0 : Heap) (n0 : Nat) (v : Option Value) (h : Heap) : Prop := v = some (.int z) ∧ h0 = h
set_option maxRecDepth 65536 in
set_option maxHeartbeats 40000000 in
theorem own_rm16 (l : Launch) (Z : State) (a0 : Array Value) (hw : ∀ d ∈ tables_1, d.before a0 Z = true) (ws : List Jvm.Cond) (r0 : Addr) (b : Addr) (vs : List Value) (z : Int32) (h0 : Heap) (n0 : Nat)  (F : Fld Z h0 r0 "kombos/io/FieldBytes" "ends" "[I" (.ref b)) (A : own_A Z h0 b .int vs) (hl : vs.length = 8) (hz : vs[0]? = some (.int z)) :
    own_Con l Z (⟨"kombos/io/FieldBytes", "end", "(I)I"⟩ : MethodName) prog_57_method_17_code 2 (some .int) ws ({ frames := 0, cells := 0, slots := 0, locals := 0 } : Room) #[(.ref r0), (.int (0 : Int32))] h0 n0 (own_Q_own_rm16 Z z h0 n0) := by
  refine own_body (plainFor_of_name own_pn0) ?_
  intro p e s m below meth c T0 hx hZ hby hml hown hnm hret hlk Y0
  replace hown : s.vm.findClass "kombos/io/FieldBytes" = some m.cls := hown
  replace hnm : meth.name = "end" := hnm
  rw [own_ef_own_rm16 m r0]
  show own_Ends _ _ _ _ (T0.setTop (mkF m 0 #[.val (.ref r0), .val (.int (0 : Int32))] []))
  refine own_st (fun t_ => XS.aloadN (own_here Y0) hx rfl (hb hby own_d16_0) rfl rfl) ?_
  show own_Ends _ _ _ _ (T0.setTop (mkF m 1 #[.val (.ref r0), .val (.int (0 : Int32))] [(.ref r0)]))
  refine own_getF Y0 hx hZ hown (host := "") (Or.inl (hw _ (List.mem_of_getElem? (i := 17) rfl))) Via.refl F rfl rfl (hb hby own_d16_1) (fun T1188 Y1189 => ?_)
  show own_Ends _ _ _ _ (T1188.setTop (mkF m 4 #[.val (.ref r0), .val (.int (0 : Int32))] [(.ref b)]))
  refine own_st (fun t_ => XS.iloadN (own_here Y1189) hx rfl (hb hby own_d16_4) rfl) ?_
  show own_Ends _ _ _ _ (T1188.setTop (mkF m 5 #[.val (.ref r0), .val (.int (0 : Int32))] [(.int (0 : Int32)), (.ref b)]))
  refine own_ldI Y1189 hx hZ A (i := 0) (by decide) (by decide) (by rw [hl]; decide) (v := (.int z)) hz rfl rfl (hb hby own_d16_5) ?_
  show own_Ends _ _ _ _ (T1188.setTop (mkF m 6 #[.val (.ref r0), .val (.int (0 : Int32))] [(.int z)]))
  refine own_retI Y1189 hx hlk hret (hb hby own_d16_6) (by decide) (by decide) ?_
  exact ⟨rfl, rfl⟩
theorem own_d17_0 : decode prog_57_method_18_code 0 = .ok (.aload_n 0, 1) := by decide +kernel
theorem own_d17_1 : decode prog_57_method_18_code 1 = .ok (.getfield 27, 3) := by decide +kernel
theorem own_d17_4 : decode prog_57_method_18_code 4 = .ok (.iload_n 1, 1) := by decide +kernel
theorem own_d17_5 : decode prog_57_method_18_code 5 = .ok (.iaload, 1) := by decide +kernel
theorem own_d17_6 : decode prog_57_method_18_code 6 = .ok (.ifCond .lt 7, 3) := by decide +kernel
theorem own_d17_13 : decode prog_57_method_18_code 13 = .ok (.iconst 0, 1) := by decide +kernel
theorem own_d17_14 : decode prog_57_method_18_code 14 = .ok (.ireturn, 1) := by decide +kernel
theorem own_d17_9 : decode prog_57_method_18_code 9 = .ok (.iconst 1, 1) := by decide +kernel
theorem own_d17_10 : decode prog_57_method_18_code 10 = .ok (.goto 4, 3) := by decide +kernel
theorem own_ef_own_rm17 (m : MethodId) (r0 : Addr) : entryFrame m #[(.ref r0), (.int (0 : Int32))] 2 = mkF m 0 #[.val (.ref r0), .val (.int (0 : Int32))] [] := by first | (simp [entryFrame, mkF, argsToLocals, Value.category]; done) | rfl
def own_Q_own_rm17 (Z : State) (z : Int32) (h0 : Heap) (n0 : Nat) (v : Option Value) (h : Heap) : Prop := v = some (.int (own_b (decide (0 ≤ z.toInt)))) ∧ h0 = h
set_option maxRecDepth 65536 in
set_option maxHeartbeats 40000000 in
theorem own_rm17 (l : Launch) (Z : State) (a0 : Array Value) (hw : ∀ d ∈ tables_1, d.before a0 Z = true) (ws : List Jvm.Cond) (r0 : Addr) (b : Addr) (vs : List Value) (z : Int32) (h0 : Heap) (n0 : Nat)  (F : Fld Z h0 r0 "kombos/io/FieldBytes" "plain" "[I" (.ref b)) (A : own_A Z h0 b .int vs) (hl : vs.length = 8) (hz : vs[0]? = some (.int z)) :
    own_Con l Z (⟨"kombos/io/FieldBytes", "isPlain", "(I)Z"⟩ : MethodName) prog_57_method_18_code 2 (some .boolean) ws ({ frames := 0, cells := 0, slots := 0, locals := 0 } : Room) #[(.ref r0), (.int (0 : Int32))] h0 n0 (own_Q_own_rm17 Z z h0 n0) := by
  refine own_body (plainFor_of_name own_pn0) ?_
  intro p e s m below meth c T0 hx hZ hby hml hown hnm hret hlk Y0
  replace hown : s.vm.findClass "kombos/io/FieldBytes" = some m.cls := hown
  replace hnm : meth.name = "isPlain" := hnm
  rw [own_ef_own_rm17 m r0]
  show own_Ends _ _ _ _ (T0.setTop (mkF m 0 #[.val (.ref r0), .val (.int (0 : Int32))] []))
  refine own_st (fun t_ => XS.aloadN (own_here Y0) hx rfl (hb hby own_d17_0) rfl rfl) ?_
  show own_Ends _ _ _ _ (T0.setTop (mkF m 1 #[.val (.ref r0), .val (.int (0 : Int32))] [(.ref r0)]))
  refine own_getF Y0 hx hZ hown (host := "") (Or.inl (hw _ (List.mem_of_getElem? (i := 19) rfl))) Via.refl F rfl rfl (hb hby own_d17_1) (fun T1190 Y1191 => ?_)
  show own_Ends _ _ _ _ (T1190.setTop (mkF m 4 #[.val (.ref r0), .val (.int (0 : Int32))] [(.ref b)]))
  refine own_st (fun t_ => XS.iloadN (own_here Y1191) hx rfl (hb hby own_d17_4) rfl) ?_
  show own_Ends _ _ _ _ (T1190.setTop (mkF m 5 #[.val (.ref r0), .val (.int (0 : Int32))] [(.int (0 : Int32)), (.ref b)]))
  refine own_ldI Y1191 hx hZ A (i := 0) (by decide) (by decide) (by rw [hl]; decide) (v := (.int z)) hz rfl rfl (hb hby own_d17_5) ?_
  show own_Ends _ _ _ _ (T1190.setTop (mkF m 6 #[.val (.ref r0), .val (.int (0 : Int32))] [(.int z)]))
  by_cases c6_1192 : z < (0 : Int32)
  ·
   refine own_st (fun t_ => XS.ifYes (own_here Y1191) hx rfl (pc0 := 6) (pc' := 13) rfl (hb hby own_d17_6) rfl (XT.i0_lt_t c6_1192) (by decide) (by decide)) ?_
   show own_Ends _ _ _ _ (T1190.setTop (mkF m 13 #[.val (.ref r0), .val (.int (0 : Int32))] []))
   refine own_st (fun t_ => XS.iconst (own_here Y1191) hx rfl (hb hby own_d17_13) ) ?_
   show own_Ends _ _ _ _ (T1190.setTop (mkF m 14 #[.val (.ref r0), .val (.int (0 : Int32))] [(.int (0 : Int32))]))
   refine own_retN Y1191 hx hlk (t := .boolean) hret (by simp) (hb hby own_d17_14) (by decide) (by decide) ?_
   refine ⟨?_, rfl⟩
   have e0 : (0 : Int32).toInt = 0 := rfl
   have q := c6_1192; rw [own_lt] at q
   have : decide (0 ≤ z.toInt) = false := by simp only [decide_eq_false_iff_not]; omega
   rw [this]; rfl
  ·
   refine own_st (fun t_ => XS.ifNo (own_here Y1191) hx rfl (hb hby own_d17_6) rfl (XT.i0_lt_f c6_1192)) ?_
   show own_Ends _ _ _ _ (T1190.setTop (mkF m 9 #[.val (.ref r0), .val (.int (0 : Int32))] []))
   refine own_st (fun t_ => XS.iconst (own_here Y1191) hx rfl (hb hby own_d17_9) ) ?_
   show own_Ends _ _ _ _ (T1190.setTop (mkF m 10 #[.val (.ref r0), .val (.int (0 : Int32))] [(.int (1 : Int32))]))
   refine own_st (fun t_ => XS.goto (own_here Y1191) hx rfl (pc0 := 10) (pc' := 14) rfl (hb hby own_d17_10) (by decide) (by decide)) ?_
   show own_Ends _ _ _ _ (T1190.setTop (mkF m 14 #[.val (.ref r0), .val (.int (0 : Int32))] [(.int (1 : Int32))]))
   refine own_retN Y1191 hx hlk (t := .boolean) hret (by simp) (hb hby own_d17_14) (by decide) (by decide) ?_
   refine ⟨?_, rfl⟩
   have e0 : (0 : Int32).toInt = 0 := rfl
   have q := c6_1192; rw [own_lt] at q
   have : decide (0 ≤ z.toInt) = true := by simp only [decide_eq_true_eq]; omega
   rw [this]; rfl
theorem own_pn2 : plainName "kombos/io/FieldBytesClearPinLaw" = true := by first | (simp [plainName, overriddenIn]; done) | decide +kernel
theorem own_pd6 : parseMethodDescriptor "(I)V" = some ⟨[.int], none⟩ := by decide +kernel
theorem own_pd7 : parseMethodDescriptor "()Ljava/lang/String;" = some ⟨[], some (.object "java/lang/String")⟩ := by decide +kernel
theorem own_pd8 : parseMethodDescriptor "()I" = some ⟨[], some .int⟩ := by decide +kernel
theorem own_pd9 : parseMethodDescriptor "()[B" = some ⟨[], some (.array .byte)⟩ := by decide +kernel
theorem own_pd10 : parseMethodDescriptor "(I)Z" = some ⟨[.int], some .boolean⟩ := by decide +kernel
theorem own_pd11 : parseMethodDescriptor "([B)Z" = some ⟨[(.array .byte)], some .boolean⟩ := by decide +kernel
theorem own_ef_own_rm0 (m : MethodId) (x0 : Int32) (x1 : Int32) (x2 : Int32) (x3 : Int32) (x4 : Int32) (x5 : Int32) : entryFrame m #[(.int x0), (.int x1), (.int x2), (.int x3), (.int x4), (.int x5)] maxLocals = mkF m 0 #[.val (.int x0), .val (.int x1), .val (.int x2), .val (.int x3), .val (.int x4), .val (.int x5), .unset, .unset, .unset, .unset, .unset, .unset, .unset] [] := by first | (simp [entryFrame, mkF, argsToLocals, Value.category, maxLocals]; done) | rfl
def own_Q_own_rm0 (Z : State) (x0 : Int32) (x1 : Int32) (x2 : Int32) (x3 : Int32) (x4 : Int32) (x5 : Int32) (h0 : Heap) (n0 : Nat) (v : Option Value) (h : Heap) : Prop := v = some (.int 1)
set_option maxRecDepth 65536 in
set_option maxHeartbeats 40000000 in
theorem own_rm0 (l : Launch) (Z : State) (a0 : Array Value) (hw : ∀ d ∈ tables_1, d.before a0 Z = true) (ws : List Jvm.Cond) (x0 : Int32) (x1 : Int32) (x2 : Int32) (x3 : Int32) (x4 : Int32) (x5 : Int32)  (h0 : Heap) (n0 : Nat) (Z0 : n0 ≤ h0.size)  :
    own_ConW l Z x code maxLocals ret ws room_1 #[(.int x0), (.int x1), (.int x2), (.int x3), (.int x4), (.int x5)] h0 n0 (own_Q_own_rm0 Z x0 x1 x2 x3 x4 x5 h0 n0) := by
  refine own_bodyW (plainFor_of_name own_pn2) ?_
  intro p e s m below meth c T0 hx hZ hby hml hown hnm hret hlk Y0 hSi
  replace hown : s.vm.findClass "kombos/io/FieldBytesClearPinLaw" = some m.cls := hown
  replace hml : c.maxLocals = 13 := hml
  replace hret : meth.sig.returnType = some .boolean := hret
  replace Y0 : own_S p l e room_1 (s.setVm s.vm) m #[(.int x0), (.int x1), (.int x2), (.int x3), (.int x4), (.int x5)] below meth c n0 T0 h0 0 0 := Y0
  replace hZ : Z.Warmed39 (s.setVm s.vm).vm := hZ
  replace hown : (s.setVm s.vm).vm.findClass "kombos/io/FieldBytesClearPinLaw" = some m.cls := hown
  rw [own_ef_own_rm0 m x0 x1 x2 x3 x4 x5]
  show own_Ends _ _ _ _ (T0.setTop (mkF m 0 #[.val (.int x0), .val (.int x1), .val (.int x2), .val (.int x3), .val (.int x4), .val (.int x5), .unset, .unset, .unset, .unset, .unset, .unset, .unset] []))
  refine own_new Y0 hx hZ hown (hw _ (List.mem_of_getElem? (i := 0) rfl)) (hw _ (List.mem_of_getElem? (i := 1) rfl)) (hw _ (List.mem_of_getElem? (i := 2) rfl)) rfl (hb hby at_0) (by decide) (by decide) (fun T1193 h1195 b1199 eb1200 Y1194 E1196 X1197 D1198 => ?_)
  have g1201 : n0 ≤ b1199 := by rw [eb1200]; exact Z0
  have F1202 : Fld Z h1195 b1199 "kombos/io/FieldBytes" "held" "[B" .null := D1198 _ _ _ (.array .byte) (Or.inl (hw _ (List.mem_of_getElem? (i := 11) rfl))) (by decide)
  have F1203 : Fld Z h1195 b1199 "kombos/io/FieldBytes" "bytes" "[B" .null := D1198 _ _ _ (.array .byte) (Or.inl (hw _ (List.mem_of_getElem? (i := 13) rfl))) (by decide)
  have F1204 : Fld Z h1195 b1199 "kombos/io/FieldBytes" "starts" "[I" .null := D1198 _ _ _ (.array .int) (Or.inl (hw _ (List.mem_of_getElem? (i := 16) rfl))) (by decide)
  have F1205 : Fld Z h1195 b1199 "kombos/io/FieldBytes" "ends" "[I" .null := D1198 _ _ _ (.array .int) (Or.inl (hw _ (List.mem_of_getElem? (i := 18) rfl))) (by decide)
  have F1206 : Fld Z h1195 b1199 "kombos/io/FieldBytes" "plain" "[I" .null := D1198 _ _ _ (.array .int) (Or.inl (hw _ (List.mem_of_getElem? (i := 20) rfl))) (by decide)
  have F1207 : Fld Z h1195 b1199 "kombos/io/FieldBytes" "maxRecordLength" "I" (.int (0 : Int32)) := D1198 _ _ _ .int (Or.inr (hw _ (List.mem_of_getElem? (i := 22) rfl))) (by decide)
  have F1208 : Fld Z h1195 b1199 "kombos/io/FieldBytes" "length" "I" (.int (0 : Int32)) := D1198 _ _ _ .int (Or.inl (hw _ (List.mem_of_getElem? (i := 43) rfl))) (by decide)
  have F1209 : Fld Z h1195 b1199 "kombos/io/FieldBytes" "start" "I" (.int (0 : Int32)) := D1198 _ _ _ .int (Or.inl (hw _ (List.mem_of_getElem? (i := 45) rfl))) (by decide)
  have F1210 : Fld Z h1195 b1199 "kombos/io/FieldBytes" "bits" "I" (.int (0 : Int32)) := D1198 _ _ _ .int (Or.inl (hw _ (List.mem_of_getElem? (i := 47) rfl))) (by decide)
  have F1211 : Fld Z h1195 b1199 "kombos/io/FieldBytes" "tooLong" "Z" (.int (0 : Int32)) := D1198 _ _ _ .boolean (Or.inl (hw _ (List.mem_of_getElem? (i := 57) rfl))) (by decide)
  have F1212 : Fld Z h1195 b1199 "kombos/io/FieldBytes" "full" "Z" (.int (0 : Int32)) := D1198 _ _ _ .boolean (Or.inl (hw _ (List.mem_of_getElem? (i := 59) rfl))) (by decide)
  have F1213 : Fld Z h1195 b1199 "kombos/io/FieldBytes" "count" "I" (.int (0 : Int32)) := D1198 _ _ _ .int (Or.inl (hw _ (List.mem_of_getElem? (i := 69) rfl))) (by decide)
  show own_Ends _ _ _ _ (T1193.setTop (mkF m 3 #[.val (.int x0), .val (.int x1), .val (.int x2), .val (.int x3), .val (.int x4), .val (.int x5), .unset, .unset, .unset, .unset, .unset, .unset, .unset] [(.ref b1199)]))
  refine own_st (fun t_ => XS.dup (own_here Y1194) hx rfl (hb hby at_3) rfl rfl) ?_
  show own_Ends _ _ _ _ (T1193.setTop (mkF m 4 #[.val (.int x0), .val (.int x1), .val (.int x2), .val (.int x3), .val (.int x4), .val (.int x5), .unset, .unset, .unset, .unset, .unset, .unset, .unset] [(.ref b1199), (.ref b1199)]))
  refine own_st (fun t_ => XS.iconst (own_here Y1194) hx rfl (hb hby at_4) ) ?_
  show own_Ends _ _ _ _ (T1193.setTop (mkF m 5 #[.val (.int x0), .val (.int x1), .val (.int x2), .val (.int x3), .val (.int x4), .val (.int x5), .unset, .unset, .unset, .unset, .unset, .unset, .unset] [(.int (1 : Int32)), (.ref b1199), (.ref b1199)]))
  refine own_st (fun t_ => XS.iloadN (own_here Y1194) hx rfl (hb hby at_5) rfl) ?_
  show own_Ends _ _ _ _ (T1193.setTop (mkF m 6 #[.val (.int x0), .val (.int x1), .val (.int x2), .val (.int x3), .val (.int x4), .val (.int x5), .unset, .unset, .unset, .unset, .unset, .unset, .unset] [(.int x0), (.int (1 : Int32)), (.ref b1199), (.ref b1199)]))
  refine own_st (fun t_ => XS.iconst (own_here Y1194) hx rfl (hb hby at_6) ) ?_
  show own_Ends _ _ _ _ (T1193.setTop (mkF m 7 #[.val (.int x0), .val (.int x1), .val (.int x2), .val (.int x3), .val (.int x4), .val (.int x5), .unset, .unset, .unset, .unset, .unset, .unset, .unset] [(.int (3 : Int32)), (.int x0), (.int (1 : Int32)), (.ref b1199), (.ref b1199)]))
  refine own_st (fun t_ => XS.iand (own_here Y1194) hx rfl (hb hby at_7) rfl) ?_
  show own_Ends _ _ _ _ (T1193.setTop (mkF m 8 #[.val (.int x0), .val (.int x1), .val (.int x2), .val (.int x3), .val (.int x4), .val (.int x5), .unset, .unset, .unset, .unset, .unset, .unset, .unset] [(.int (x0 &&& (3 : Int32))), (.int (1 : Int32)), (.ref b1199), (.ref b1199)]))
  refine own_st (fun t_ => XS.iadd (own_here Y1194) hx rfl (hb hby at_8) rfl) ?_
  show own_Ends _ _ _ _ (T1193.setTop (mkF m 9 #[.val (.int x0), .val (.int x1), .val (.int x2), .val (.int x3), .val (.int x4), .val (.int x5), .unset, .unset, .unset, .unset, .unset, .unset, .unset] [(.int ((1 : Int32) + (x0 &&& (3 : Int32)))), (.ref b1199), (.ref b1199)]))
  generalize hmx : ((1 : Int32) + (x0 &&& (3 : Int32))) = mx
  have hm14 : 1 ≤ mx.toInt ∧ mx.toInt ≤ 4 := by
    rw [← hmx]; have l1 : (1 : Int32).toInt = 1 := rfl; have l3 : (3 : Int32).toInt = 3 := rfl
    have a := c_and x0 3 (by decide); have c := c_iadd 1 (x0 &&& 3); have d := rng32 (1 + (x0 &&& 3))
    omega
  have hm1 := hm14.1; have hm4 := hm14.2
  have z1214 : n0 ≤ h1195.size := Nat.le_trans Z0 E1196.1
  refine own_callN Y1194 hx hZ (y := (⟨"kombos/io/FieldBytes", "<init>", "(I)V"⟩ : MethodName)) rfl hown (hw _ (List.mem_of_getElem? (i := 3) rfl)) (hw _ (List.mem_of_getElem? (i := 4) rfl)) (hw _ (List.mem_of_getElem? (i := 2) rfl)) (hw _ (List.mem_of_getElem? (i := 5) rfl)) (by decide) (a := b1199) (argsL := [(.int mx)]) (rest := [(.ref b1199)]) (own_rm1 l Z a0 hw [] b1199 mx  h1195 n0 z1214 X1197 F1207 F1208 F1209 F1213 F1210 F1211 F1212 F1202 F1203 F1204 F1205 F1206 g1201) (W := 1) (by decide) (by decide) (by decide) (by decide) rfl (by rw [hml]; rfl) (lenOf own_pd6 rfl) rfl (by show 2 * 0 + _ ≤ _; exact Nat.le_of_eq rfl) (hb hby at_9) (fun T1215 h1217 v1218 Y1216 q1219 => ?_)
  obtain ⟨bh, bs, be, bp, hv, sv, ev, pv, rfl, K1220, F1221, F1222, F1223, F1224, F1225, F1226, F1227, F1228, F1229, F1230, F1231, F1232, F1233, F1234, F1235, F1236, F1237, ge_bh, ge_bs, ge_be, ge_bp, ne_bh_r0, ne_bs_r0, ne_be_r0, ne_bp_r0, ne_bh_bs, ne_bh_be, ne_bh_bp, ne_bs_be, ne_bs_bp, ne_be_bp, hvl, svl, evl, pvl⟩ := q1219
  show own_Ends _ _ _ _ (T1215.setTop (mkF m 12 #[.val (.int x0), .val (.int x1), .val (.int x2), .val (.int x3), .val (.int x4), .val (.int x5), .unset, .unset, .unset, .unset, .unset, .unset, .unset] [(.ref b1199)]))
  refine own_st (fun t_ => XS.astore (own_here Y1216) hx rfl (hb hby at_12) rfl rfl (l' := #[.val (.int x0), .val (.int x1), .val (.int x2), .val (.int x3), .val (.int x4), .val (.int x5), .val (.ref b1199), .unset, .unset, .unset, .unset, .unset, .unset]) rfl) ?_
  show own_Ends _ _ _ _ (T1215.setTop (mkF m 14 #[.val (.int x0), .val (.int x1), .val (.int x2), .val (.int x3), .val (.int x4), .val (.int x5), .val (.ref b1199), .unset, .unset, .unset, .unset, .unset, .unset] []))
  refine own_st (fun t_ => XS.iconst (own_here Y1216) hx rfl (hb hby at_14) ) ?_
  show own_Ends _ _ _ _ (T1215.setTop (mkF m 15 #[.val (.int x0), .val (.int x1), .val (.int x2), .val (.int x3), .val (.int x4), .val (.int x5), .val (.ref b1199), .unset, .unset, .unset, .unset, .unset, .unset] [(.int (2 : Int32))]))
  refine own_newP Y1216 hx hZ (hw _ (List.mem_of_getElem? (i := 9) rfl)) rfl (hb hby at_15) rfl (by decide) (nz := 2) (cap := 2) (by decide) (by decide) (by decide) (by decide) (by decide) (ty := .byte) rfl (fun T1238 h1240 b1243 eb1244 Y1239 E1241 A1242 => ?_)
  have ne1245 : b1199 ≠ b1243 := Nat.ne_of_lt (by rw [eb1244]; exact F1221.lt)
  have ne1246 : bh ≠ b1243 := Nat.ne_of_lt (by rw [eb1244]; exact F1234.lt)
  have ne1247 : bs ≠ b1243 := Nat.ne_of_lt (by rw [eb1244]; exact F1235.lt)
  have ne1248 : be ≠ b1243 := Nat.ne_of_lt (by rw [eb1244]; exact F1236.lt)
  have ne1249 : bp ≠ b1243 := Nat.ne_of_lt (by rw [eb1244]; exact F1237.lt)
  have z1251 : n0 ≤ h1217.size := Nat.le_trans z1214 K1220.1
  have g1250 : n0 ≤ b1243 := by rw [eb1244]; exact z1251
  replace A1242 : own_A Z h1240 b1243 .byte [(.int (0 : Int32)), (.int (0 : Int32))] := A1242
  show own_Ends _ _ _ _ (T1238.setTop (mkF m 17 #[.val (.int x0), .val (.int x1), .val (.int x2), .val (.int x3), .val (.int x4), .val (.int x5), .val (.ref b1199), .unset, .unset, .unset, .unset, .unset, .unset] [(.ref b1243)]))
  refine own_st (fun t_ => XS.astore (own_here Y1239) hx rfl (hb hby at_17) rfl rfl (l' := #[.val (.int x0), .val (.int x1), .val (.int x2), .val (.int x3), .val (.int x4), .val (.int x5), .val (.ref b1199), .val (.ref b1243), .unset, .unset, .unset, .unset, .unset]) rfl) ?_
  show own_Ends _ _ _ _ (T1238.setTop (mkF m 19 #[.val (.int x0), .val (.int x1), .val (.int x2), .val (.int x3), .val (.int x4), .val (.int x5), .val (.ref b1199), .val (.ref b1243), .unset, .unset, .unset, .unset, .unset] []))
  refine own_st (fun t_ => XS.aload (own_here Y1239) hx rfl (hb hby at_19) rfl rfl) ?_
  show own_Ends _ _ _ _ (T1238.setTop (mkF m 21 #[.val (.int x0), .val (.int x1), .val (.int x2), .val (.int x3), .val (.int x4), .val (.int x5), .val (.ref b1199), .val (.ref b1243), .unset, .unset, .unset, .unset, .unset] [(.ref b1243)]))
  refine own_st (fun t_ => XS.iconst (own_here Y1239) hx rfl (hb hby at_21) ) ?_
  show own_Ends _ _ _ _ (T1238.setTop (mkF m 22 #[.val (.int x0), .val (.int x1), .val (.int x2), .val (.int x3), .val (.int x4), .val (.int x5), .val (.ref b1199), .val (.ref b1243), .unset, .unset, .unset, .unset, .unset] [(.int (0 : Int32)), (.ref b1243)]))
  refine own_st (fun t_ => XS.iload (own_here Y1239) hx rfl (hb hby at_22) rfl) ?_
  show own_Ends _ _ _ _ (T1238.setTop (mkF m 24 #[.val (.int x0), .val (.int x1), .val (.int x2), .val (.int x3), .val (.int x4), .val (.int x5), .val (.ref b1199), .val (.ref b1243), .unset, .unset, .unset, .unset, .unset] [(.int x4), (.int (0 : Int32)), (.ref b1243)]))
  refine own_st (fun t_ => XS.i2b (own_here Y1239) hx rfl (hb hby at_24) rfl) ?_
  show own_Ends _ _ _ _ (T1238.setTop (mkF m 25 #[.val (.int x0), .val (.int x1), .val (.int x2), .val (.int x3), .val (.int x4), .val (.int x5), .val (.ref b1199), .val (.ref b1243), .unset, .unset, .unset, .unset, .unset] [(.int (x4.toInt8.toInt32)), (.int (0 : Int32)), (.ref b1243)]))
  refine own_stB Y1239 hx hZ A1242 g1250 (i := 0) (by decide) (by decide) (Nat.le_of_ble_eq_true rfl) rfl rfl (hb hby at_25) (fun T1252 h1254 Y1253 W1255 A1256 => ?_)
  replace A1256 : own_A Z h1254 b1243 .byte [(.int ((x4.toInt8.toInt32).toInt8.toInt32)), (.int (0 : Int32))] := A1256
  show own_Ends _ _ _ _ (T1252.setTop (mkF m 26 #[.val (.int x0), .val (.int x1), .val (.int x2), .val (.int x3), .val (.int x4), .val (.int x5), .val (.ref b1199), .val (.ref b1243), .unset, .unset, .unset, .unset, .unset] []))
  refine own_st (fun t_ => XS.aload (own_here Y1253) hx rfl (hb hby at_26) rfl rfl) ?_
  show own_Ends _ _ _ _ (T1252.setTop (mkF m 28 #[.val (.int x0), .val (.int x1), .val (.int x2), .val (.int x3), .val (.int x4), .val (.int x5), .val (.ref b1199), .val (.ref b1243), .unset, .unset, .unset, .unset, .unset] [(.ref b1243)]))
  refine own_st (fun t_ => XS.iconst (own_here Y1253) hx rfl (hb hby at_28) ) ?_
  show own_Ends _ _ _ _ (T1252.setTop (mkF m 29 #[.val (.int x0), .val (.int x1), .val (.int x2), .val (.int x3), .val (.int x4), .val (.int x5), .val (.ref b1199), .val (.ref b1243), .unset, .unset, .unset, .unset, .unset] [(.int (1 : Int32)), (.ref b1243)]))
  refine own_st (fun t_ => XS.iload (own_here Y1253) hx rfl (hb hby at_29) rfl) ?_
  show own_Ends _ _ _ _ (T1252.setTop (mkF m 31 #[.val (.int x0), .val (.int x1), .val (.int x2), .val (.int x3), .val (.int x4), .val (.int x5), .val (.ref b1199), .val (.ref b1243), .unset, .unset, .unset, .unset, .unset] [(.int x4), (.int (1 : Int32)), (.ref b1243)]))
  refine own_st (fun t_ => XS.bipush (own_here Y1253) hx rfl (hb hby at_31) ) ?_
  show own_Ends _ _ _ _ (T1252.setTop (mkF m 33 #[.val (.int x0), .val (.int x1), .val (.int x2), .val (.int x3), .val (.int x4), .val (.int x5), .val (.ref b1199), .val (.ref b1243), .unset, .unset, .unset, .unset, .unset] [(.int (8 : Int32)), (.int x4), (.int (1 : Int32)), (.ref b1243)]))
  refine own_st (fun t_ => XS.ishr (own_here Y1253) hx rfl (hb hby at_33) rfl) ?_
  show own_Ends _ _ _ _ (T1252.setTop (mkF m 34 #[.val (.int x0), .val (.int x1), .val (.int x2), .val (.int x3), .val (.int x4), .val (.int x5), .val (.ref b1199), .val (.ref b1243), .unset, .unset, .unset, .unset, .unset] [(.int (x4 >>> ((8 : Int32) &&& 31))), (.int (1 : Int32)), (.ref b1243)]))
  refine own_st (fun t_ => XS.i2b (own_here Y1253) hx rfl (hb hby at_34) rfl) ?_
  show own_Ends _ _ _ _ (T1252.setTop (mkF m 35 #[.val (.int x0), .val (.int x1), .val (.int x2), .val (.int x3), .val (.int x4), .val (.int x5), .val (.ref b1199), .val (.ref b1243), .unset, .unset, .unset, .unset, .unset] [(.int ((x4 >>> ((8 : Int32) &&& 31)).toInt8.toInt32)), (.int (1 : Int32)), (.ref b1243)]))
  refine own_stB Y1253 hx hZ A1256 g1250 (i := 1) (by decide) (by decide) (Nat.le_of_ble_eq_true rfl) rfl rfl (hb hby at_35) (fun T1257 h1259 Y1258 W1260 A1261 => ?_)
  replace A1261 : own_A Z h1259 b1243 .byte [(.int ((x4.toInt8.toInt32).toInt8.toInt32)), (.int (((x4 >>> ((8 : Int32) &&& 31)).toInt8.toInt32).toInt8.toInt32))] := A1261
  show own_Ends _ _ _ _ (T1257.setTop (mkF m 36 #[.val (.int x0), .val (.int x1), .val (.int x2), .val (.int x3), .val (.int x4), .val (.int x5), .val (.ref b1199), .val (.ref b1243), .unset, .unset, .unset, .unset, .unset] []))
  refine own_st (fun t_ => XS.iloadN (own_here Y1258) hx rfl (hb hby at_36) rfl) ?_
  show own_Ends _ _ _ _ (T1257.setTop (mkF m 37 #[.val (.int x0), .val (.int x1), .val (.int x2), .val (.int x3), .val (.int x4), .val (.int x5), .val (.ref b1199), .val (.ref b1243), .unset, .unset, .unset, .unset, .unset] [(.int x1)]))
  refine own_st (fun t_ => XS.iconst (own_here Y1258) hx rfl (hb hby at_37) ) ?_
  show own_Ends _ _ _ _ (T1257.setTop (mkF m 38 #[.val (.int x0), .val (.int x1), .val (.int x2), .val (.int x3), .val (.int x4), .val (.int x5), .val (.ref b1199), .val (.ref b1243), .unset, .unset, .unset, .unset, .unset] [(.int (1 : Int32)), (.int x1)]))
  refine own_st (fun t_ => XS.iand (own_here Y1258) hx rfl (hb hby at_38) rfl) ?_
  show own_Ends _ _ _ _ (T1257.setTop (mkF m 39 #[.val (.int x0), .val (.int x1), .val (.int x2), .val (.int x3), .val (.int x4), .val (.int x5), .val (.ref b1199), .val (.ref b1243), .unset, .unset, .unset, .unset, .unset] [(.int (x1 &&& (1 : Int32)))]))
  have hJ1262 : ∀ (T1263 : State) (h1265 : Heap) (vm1284 : Vm) (hZ : Z.Warmed39 (s.setVm vm1284).vm) (hown : (s.setVm vm1284).vm.findClass "kombos/io/FieldBytesClearPinLaw" = some m.cls) (si1285 : own_Si s vm1284 h1265) (by1 : Addr) (Y1264 : own_S p l e room_1 (s.setVm vm1284) m #[(.int x0), (.int x1), (.int x2), (.int x3), (.int x4), (.int x5)] below meth c n0 T1263 h1265 6 102) (z1266 : n0 ≤ h1265.size) (f1267 : Exa Z h1265 b1199 "kombos/io/FieldBytes") (f1268 : Fld Z h1265 b1199 "kombos/io/FieldBytes" "maxRecordLength" "I" (.int mx)) (f1269 : Fld Z h1265 b1199 "kombos/io/FieldBytes" "length" "I" (.int (0 : Int32))) (f1270 : Fld Z h1265 b1199 "kombos/io/FieldBytes" "start" "I" (.int (0 : Int32))) (f1271 : Fld Z h1265 b1199 "kombos/io/FieldBytes" "count" "I" (.int (0 : Int32))) (f1272 : Fld Z h1265 b1199 "kombos/io/FieldBytes" "bits" "I" (.int (0 : Int32))) (f1273 : Fld Z h1265 b1199 "kombos/io/FieldBytes" "tooLong" "Z" (.int (0 : Int32))) (f1274 : Fld Z h1265 b1199 "kombos/io/FieldBytes" "full" "Z" (.int (0 : Int32))) (f1275 : Fld Z h1265 b1199 "kombos/io/FieldBytes" "held" "[B" (.ref bh)) (f1276 : Fld Z h1265 b1199 "kombos/io/FieldBytes" "bytes" "[B" (.ref by1)) (f1277 : Fld Z h1265 b1199 "kombos/io/FieldBytes" "starts" "[I" (.ref bs)) (f1278 : Fld Z h1265 b1199 "kombos/io/FieldBytes" "ends" "[I" (.ref be)) (f1279 : Fld Z h1265 b1199 "kombos/io/FieldBytes" "plain" "[I" (.ref bp)) (f1280 : own_A Z h1265 bh .byte hv) (f1281 : own_A Z h1265 bs .int sv) (f1282 : own_A Z h1265 be .int ev) (f1283 : own_A Z h1265 bp .int pv) , own_Ends p.tables e below (own_PW s n0 (own_Q_own_rm0 Z x0 x1 x2 x3 x4 x5 h0 n0) room_1.cells room_1.slots) (T1263.setTop (mkF m 50 #[.val (.int x0), .val (.int x1), .val (.int x2), .val (.int x3), .val (.int x4), .val (.int x5), .val (.ref b1199), .val (.ref b1243), .unset, .unset, .unset, .unset, .unset] [])) := by
   intro T1263 h1265 vm1284 hZ hown si1285 by1 Y1264 z1266 f1267 f1268 f1269 f1270 f1271 f1272 f1273 f1274 f1275 f1276 f1277 f1278 f1279 f1280 f1281 f1282 f1283 
   refine own_st (fun t_ => XS.iloadN (own_here Y1264) hx rfl (hb hby at_50) rfl) ?_
   show own_Ends _ _ _ _ (T1263.setTop (mkF m 51 #[.val (.int x0), .val (.int x1), .val (.int x2), .val (.int x3), .val (.int x4), .val (.int x5), .val (.ref b1199), .val (.ref b1243), .unset, .unset, .unset, .unset, .unset] [(.int x1)]))
   refine own_st (fun t_ => XS.iconst (own_here Y1264) hx rfl (hb hby at_51) ) ?_
   show own_Ends _ _ _ _ (T1263.setTop (mkF m 52 #[.val (.int x0), .val (.int x1), .val (.int x2), .val (.int x3), .val (.int x4), .val (.int x5), .val (.ref b1199), .val (.ref b1243), .unset, .unset, .unset, .unset, .unset] [(.int (2 : Int32)), (.int x1)]))
   refine own_st (fun t_ => XS.iand (own_here Y1264) hx rfl (hb hby at_52) rfl) ?_
   show own_Ends _ _ _ _ (T1263.setTop (mkF m 53 #[.val (.int x0), .val (.int x1), .val (.int x2), .val (.int x3), .val (.int x4), .val (.int x5), .val (.ref b1199), .val (.ref b1243), .unset, .unset, .unset, .unset, .unset] [(.int (x1 &&& (2 : Int32)))]))
   have hJ1286 : ∀ (T1287 : State) (h1289 : Heap) (vm1308 : Vm) (hZ : Z.Warmed39 (s.setVm vm1308).vm) (hown : (s.setVm vm1308).vm.findClass "kombos/io/FieldBytesClearPinLaw" = some m.cls) (si1309 : own_Si s vm1308 h1289) (by2 : Addr) (L c_ : Int32) (hv2 sv2 ev2 pv2 : List Value) (Y1288 : own_S p l e room_1 (s.setVm vm1308) m #[(.int x0), (.int x1), (.int x2), (.int x3), (.int x4), (.int x5)] below meth c n0 T1287 h1289 8 174) (z1290 : n0 ≤ h1289.size) (f1291 : Exa Z h1289 b1199 "kombos/io/FieldBytes") (f1292 : Fld Z h1289 b1199 "kombos/io/FieldBytes" "maxRecordLength" "I" (.int mx)) (f1293 : Fld Z h1289 b1199 "kombos/io/FieldBytes" "length" "I" (.int L)) (f1294 : Fld Z h1289 b1199 "kombos/io/FieldBytes" "start" "I" (.int L)) (f1295 : Fld Z h1289 b1199 "kombos/io/FieldBytes" "count" "I" (.int c_)) (f1296 : Fld Z h1289 b1199 "kombos/io/FieldBytes" "bits" "I" (.int (0 : Int32))) (f1297 : Fld Z h1289 b1199 "kombos/io/FieldBytes" "tooLong" "Z" (.int (0 : Int32))) (f1298 : Fld Z h1289 b1199 "kombos/io/FieldBytes" "full" "Z" (.int (0 : Int32))) (f1299 : Fld Z h1289 b1199 "kombos/io/FieldBytes" "held" "[B" (.ref bh)) (f1300 : Fld Z h1289 b1199 "kombos/io/FieldBytes" "bytes" "[B" (.ref by2)) (f1301 : Fld Z h1289 b1199 "kombos/io/FieldBytes" "starts" "[I" (.ref bs)) (f1302 : Fld Z h1289 b1199 "kombos/io/FieldBytes" "ends" "[I" (.ref be)) (f1303 : Fld Z h1289 b1199 "kombos/io/FieldBytes" "plain" "[I" (.ref bp)) (f1304 : own_A Z h1289 bh .byte hv2) (f1305 : own_A Z h1289 bs .int sv2) (f1306 : own_A Z h1289 be .int ev2) (f1307 : own_A Z h1289 bp .int pv2) (hvl2 : hv2.length = 64) (svl2 : sv2.length = 8) (evl2 : ev2.length = 8) (pvl2 : pv2.length = 8) (hL : L = 0 ∨ L = 1), own_Ends p.tables e below (own_PW s n0 (own_Q_own_rm0 Z x0 x1 x2 x3 x4 x5 h0 n0) room_1.cells room_1.slots) (T1287.setTop (mkF m 68 #[.val (.int x0), .val (.int x1), .val (.int x2), .val (.int x3), .val (.int x4), .val (.int x5), .val (.ref b1199), .val (.ref b1243), .unset, .unset, .unset, .unset, .unset] [])) := by
    intro T1287 h1289 vm1308 hZ hown si1309 by2 L c_ hv2 sv2 ev2 pv2 Y1288 z1290 f1291 f1292 f1293 f1294 f1295 f1296 f1297 f1298 f1299 f1300 f1301 f1302 f1303 f1304 f1305 f1306 f1307 hvl2 svl2 evl2 pvl2 hL
    refine own_st (fun t_ => XS.iloadN (own_here Y1288) hx rfl (hb hby at_68) rfl) ?_
    show own_Ends _ _ _ _ (T1287.setTop (mkF m 69 #[.val (.int x0), .val (.int x1), .val (.int x2), .val (.int x3), .val (.int x4), .val (.int x5), .val (.ref b1199), .val (.ref b1243), .unset, .unset, .unset, .unset, .unset] [(.int x1)]))
    refine own_st (fun t_ => XS.iconst (own_here Y1288) hx rfl (hb hby at_69) ) ?_
    show own_Ends _ _ _ _ (T1287.setTop (mkF m 70 #[.val (.int x0), .val (.int x1), .val (.int x2), .val (.int x3), .val (.int x4), .val (.int x5), .val (.ref b1199), .val (.ref b1243), .unset, .unset, .unset, .unset, .unset] [(.int (4 : Int32)), (.int x1)]))
    refine own_st (fun t_ => XS.iand (own_here Y1288) hx rfl (hb hby at_70) rfl) ?_
    show own_Ends _ _ _ _ (T1287.setTop (mkF m 71 #[.val (.int x0), .val (.int x1), .val (.int x2), .val (.int x3), .val (.int x4), .val (.int x5), .val (.ref b1199), .val (.ref b1243), .unset, .unset, .unset, .unset, .unset] [(.int (x1 &&& (4 : Int32)))]))
    have hJ1310 : ∀ (T1311 : State) (h1313 : Heap) (vm1332 : Vm) (hZ : Z.Warmed39 (s.setVm vm1332).vm) (hown : (s.setVm vm1332).vm.findClass "kombos/io/FieldBytesClearPinLaw" = some m.cls) (si1333 : own_Si s vm1332 h1313) (by3 : Addr) (ln stt cnt bits tl fu : Int32) (hv3 sv3 ev3 pv3 : List Value) (Y1312 : own_S p l e room_1 (s.setVm vm1332) m #[(.int x0), (.int x1), (.int x2), (.int x3), (.int x4), (.int x5)] below meth c n0 T1311 h1313 8 174) (z1314 : n0 ≤ h1313.size) (f1315 : Exa Z h1313 b1199 "kombos/io/FieldBytes") (f1316 : Fld Z h1313 b1199 "kombos/io/FieldBytes" "maxRecordLength" "I" (.int mx)) (f1317 : Fld Z h1313 b1199 "kombos/io/FieldBytes" "length" "I" (.int ln)) (f1318 : Fld Z h1313 b1199 "kombos/io/FieldBytes" "start" "I" (.int stt)) (f1319 : Fld Z h1313 b1199 "kombos/io/FieldBytes" "count" "I" (.int cnt)) (f1320 : Fld Z h1313 b1199 "kombos/io/FieldBytes" "bits" "I" (.int bits)) (f1321 : Fld Z h1313 b1199 "kombos/io/FieldBytes" "tooLong" "Z" (.int tl)) (f1322 : Fld Z h1313 b1199 "kombos/io/FieldBytes" "full" "Z" (.int fu)) (f1323 : Fld Z h1313 b1199 "kombos/io/FieldBytes" "held" "[B" (.ref bh)) (f1324 : Fld Z h1313 b1199 "kombos/io/FieldBytes" "bytes" "[B" (.ref by3)) (f1325 : Fld Z h1313 b1199 "kombos/io/FieldBytes" "starts" "[I" (.ref bs)) (f1326 : Fld Z h1313 b1199 "kombos/io/FieldBytes" "ends" "[I" (.ref be)) (f1327 : Fld Z h1313 b1199 "kombos/io/FieldBytes" "plain" "[I" (.ref bp)) (f1328 : own_A Z h1313 bh .byte hv3) (f1329 : own_A Z h1313 bs .int sv3) (f1330 : own_A Z h1313 be .int ev3) (f1331 : own_A Z h1313 bp .int pv3) (hvl3 : hv3.length = 64) (svl3 : sv3.length = 8) (evl3 : ev3.length = 8) (pvl3 : pv3.length = 8), own_Ends p.tables e below (own_PW s n0 (own_Q_own_rm0 Z x0 x1 x2 x3 x4 x5 h0 n0) room_1.cells room_1.slots) (T1311.setTop (mkF m 80 #[.val (.int x0), .val (.int x1), .val (.int x2), .val (.int x3), .val (.int x4), .val (.int x5), .val (.ref b1199), .val (.ref b1243), .unset, .unset, .unset, .unset, .unset] [])) := by
     intro T1311 h1313 vm1332 hZ hown si1333 by3 ln stt cnt bits tl fu hv3 sv3 ev3 pv3 Y1312 z1314 f1315 f1316 f1317 f1318 f1319 f1320 f1321 f1322 f1323 f1324 f1325 f1326 f1327 f1328 f1329 f1330 f1331 hvl3 svl3 evl3 pvl3
     refine own_st (fun t_ => XS.aload (own_here Y1312) hx rfl (hb hby at_80) rfl rfl) ?_
     show own_Ends _ _ _ _ (T1311.setTop (mkF m 82 #[.val (.int x0), .val (.int x1), .val (.int x2), .val (.int x3), .val (.int x4), .val (.int x5), .val (.ref b1199), .val (.ref b1243), .unset, .unset, .unset, .unset, .unset] [(.ref b1199)]))
     refine own_callV Y1312 hx hZ (y := (⟨"kombos/io/FieldBytes", "clear", "()V"⟩ : MethodName)) (z := (⟨"kombos/io/FieldBytes", "clear", "()V"⟩ : MethodName)) hown (hw _ (List.mem_of_getElem? (i := 70) rfl)) (hw _ (List.mem_of_getElem? (i := 71) rfl)) (notFace_of_selects (args := #[]) (mvT hZ (hw _ (List.mem_of_getElem? (i := 73) rfl)))) (hw _ (List.mem_of_getElem? (i := 73) rfl)) (hw _ (List.mem_of_getElem? (i := 72) rfl)) (hw _ (List.mem_of_getElem? (i := 2) rfl)) (hw _ (List.mem_of_getElem? (i := 74) rfl)) (by decide) (a := b1199) f1315 (argsL := []) (rest := []) (own_rm11 l Z a0 hw [] b1199 bh bs be bp hv3 sv3 ev3 pv3 by3 mx ln stt cnt bits tl fu h1313 n0  f1315 f1316 f1317 f1318 f1319 f1320 f1321 f1322 f1323 f1324 f1325 f1326 f1327 f1328 f1329 f1330 f1331 g1201 ge_bh ge_bs ge_be ge_bp ne_bh_r0 ne_bs_r0 ne_be_r0 ne_bp_r0 ne_bh_bs ne_bh_be ne_bh_bp ne_bs_be ne_bs_bp ne_be_bp hvl3 svl3 evl3 pvl3) (W := 0) (by decide) (by decide) (by decide) (by decide) rfl (by rw [hml]; rfl) (lenOf own_pd1 rfl) rfl (by show 2 * 0 + _ ≤ _; exact Nat.le_of_eq rfl) (hb hby at_82) (fun T1334 h1336 v1337 Y1335 q1338 => ?_)
     obtain ⟨rfl, K1339, F1340, F1341, F1342, F1343, F1344, F1345, F1346, F1347, F1348, F1349, F1350, F1351, F1352, F1353, F1354, F1355, F1356⟩ := q1338
     show own_Ends _ _ _ _ (T1334.setTop (mkF m 85 #[.val (.int x0), .val (.int x1), .val (.int x2), .val (.int x3), .val (.int x4), .val (.int x5), .val (.ref b1199), .val (.ref b1243), .unset, .unset, .unset, .unset, .unset] []))
     refine own_st (fun t_ => XS.iload (own_here Y1335) hx rfl (hb hby at_85) rfl) ?_
     show own_Ends _ _ _ _ (T1334.setTop (mkF m 87 #[.val (.int x0), .val (.int x1), .val (.int x2), .val (.int x3), .val (.int x4), .val (.int x5), .val (.ref b1199), .val (.ref b1243), .unset, .unset, .unset, .unset, .unset] [(.int x5)]))
     refine own_st (fun t_ => XS.i2b (own_here Y1335) hx rfl (hb hby at_87) rfl) ?_
     show own_Ends _ _ _ _ (T1334.setTop (mkF m 88 #[.val (.int x0), .val (.int x1), .val (.int x2), .val (.int x3), .val (.int x4), .val (.int x5), .val (.ref b1199), .val (.ref b1243), .unset, .unset, .unset, .unset, .unset] [(.int (x5.toInt8.toInt32))]))
     refine own_st (fun t_ => XS.istore (own_here Y1335) hx rfl (hb hby at_88) rfl (l' := #[.val (.int x0), .val (.int x1), .val (.int x2), .val (.int x3), .val (.int x4), .val (.int x5), .val (.ref b1199), .val (.ref b1243), .val (.int (x5.toInt8.toInt32)), .unset, .unset, .unset, .unset]) rfl) ?_
     show own_Ends _ _ _ _ (T1334.setTop (mkF m 90 #[.val (.int x0), .val (.int x1), .val (.int x2), .val (.int x3), .val (.int x4), .val (.int x5), .val (.ref b1199), .val (.ref b1243), .val (.int (x5.toInt8.toInt32)), .unset, .unset, .unset, .unset] []))
     refine own_st (fun t_ => XS.aload (own_here Y1335) hx rfl (hb hby at_90) rfl rfl) ?_
     show own_Ends _ _ _ _ (T1334.setTop (mkF m 92 #[.val (.int x0), .val (.int x1), .val (.int x2), .val (.int x3), .val (.int x4), .val (.int x5), .val (.ref b1199), .val (.ref b1243), .val (.int (x5.toInt8.toInt32)), .unset, .unset, .unset, .unset] [(.ref b1199)]))
     refine own_st (fun t_ => XS.iload (own_here Y1335) hx rfl (hb hby at_92) rfl) ?_
     show own_Ends _ _ _ _ (T1334.setTop (mkF m 94 #[.val (.int x0), .val (.int x1), .val (.int x2), .val (.int x3), .val (.int x4), .val (.int x5), .val (.ref b1199), .val (.ref b1243), .val (.int (x5.toInt8.toInt32)), .unset, .unset, .unset, .unset] [(.int x5), (.ref b1199)]))
     refine own_callV Y1335 hx hZ (y := (⟨"kombos/io/FieldBytes", "append", "(I)V"⟩ : MethodName)) (z := (⟨"kombos/io/FieldBytes", "append", "(I)V"⟩ : MethodName)) hown (hw _ (List.mem_of_getElem? (i := 33) rfl)) (hw _ (List.mem_of_getElem? (i := 34) rfl)) (notFace_of_selects (args := #[]) (mvT hZ (hw _ (List.mem_of_getElem? (i := 36) rfl)))) (hw _ (List.mem_of_getElem? (i := 36) rfl)) (hw _ (List.mem_of_getElem? (i := 35) rfl)) (hw _ (List.mem_of_getElem? (i := 2) rfl)) (hw _ (List.mem_of_getElem? (i := 37) rfl)) (by decide) (a := b1199) F1340 (argsL := [(.int x5)]) (rest := []) (own_rm5_0 l Z a0 hw [] b1199 x5 bh bs be bp hv3 sv3 ev3 pv3 mx (0 : Int32) bh h1336 n0  F1340 F1341 F1342 F1343 F1344 F1345 F1346 F1347 F1348 F1349 F1350 F1351 F1352 F1353 F1354 F1355 F1356 g1201 ge_bh ge_bs ge_be ge_bp ne_bh_r0 ne_bs_r0 ne_be_r0 ne_bp_r0 ne_bh_bs ne_bh_be ne_bh_bp ne_bs_be ne_bs_bp ne_be_bp hvl3 svl3 evl3 pvl3 hm1 hm4) (W := 0) (by decide) (by decide) (by decide) (by decide) rfl (by rw [hml]; rfl) (lenOf own_pd6 rfl) rfl (by show 2 * 0 + _ ≤ _; exact Nat.le_of_eq rfl) (hb hby at_94) (fun T1357 h1359 v1360 Y1358 q1361 => ?_)
     obtain ⟨rfl, K1362, F1363, F1364, F1365, F1366, F1367, F1368, F1369, F1370, F1371, F1372, F1373, F1374, F1375, F1376, F1377, F1378, F1379⟩ := q1361
     show own_Ends _ _ _ _ (T1357.setTop (mkF m 97 #[.val (.int x0), .val (.int x1), .val (.int x2), .val (.int x3), .val (.int x4), .val (.int x5), .val (.ref b1199), .val (.ref b1243), .val (.int (x5.toInt8.toInt32)), .unset, .unset, .unset, .unset] []))
     refine own_st (fun t_ => XS.aload (own_here Y1358) hx rfl (hb hby at_97) rfl rfl) ?_
     show own_Ends _ _ _ _ (T1357.setTop (mkF m 99 #[.val (.int x0), .val (.int x1), .val (.int x2), .val (.int x3), .val (.int x4), .val (.int x5), .val (.ref b1199), .val (.ref b1243), .val (.int (x5.toInt8.toInt32)), .unset, .unset, .unset, .unset] [(.ref b1199)]))
     have si1387 : own_Si s vm1332 h1336 := si1333.mono K1339.1
     have si1388 : own_Si s vm1332 h1359 := si1387.mono K1362.1
     refine own_callVW Y1358 si1388 hx hZ (y := (⟨"kombos/io/FieldBytes", "endField", "()Ljava/lang/String;"⟩ : MethodName)) (z := (⟨"kombos/io/FieldBytes", "endField", "()Ljava/lang/String;"⟩ : MethodName)) hown (hw _ (List.mem_of_getElem? (i := 51) rfl)) (hw _ (List.mem_of_getElem? (i := 52) rfl)) (notFace_of_selects (args := #[]) (mvT hZ (hw _ (List.mem_of_getElem? (i := 54) rfl)))) (hw _ (List.mem_of_getElem? (i := 54) rfl)) (hw _ (List.mem_of_getElem? (i := 53) rfl)) (hw _ (List.mem_of_getElem? (i := 2) rfl)) (hw _ (List.mem_of_getElem? (i := 55) rfl)) (by decide) (a := b1199) F1363 (argsL := []) (rest := []) (own_rm8 l Z a0 hw [] b1199 bh bs be bp (hv3.set 0 (.int ((x5.toInt8.toInt32).toInt8.toInt32))) sv3 ev3 pv3 mx ((0 : Int32) ||| ((x5.toInt8.toInt32) - (32 : Int32))) ((x5.toInt8.toInt32).toInt8.toInt32) bh h1359 n0  F1363 F1364 F1365 F1366 F1367 F1368 F1369 F1370 F1371 F1372 F1373 F1374 F1375 F1376 F1377 F1378 F1379 g1201 ge_bh ge_bs ge_be ge_bp ne_bh_r0 ne_bs_r0 ne_be_r0 ne_bp_r0 ne_bh_bs ne_bh_be ne_bh_bp ne_bs_be ne_bs_bp ne_be_bp (own_set_len hvl3) svl3 evl3 pvl3 (own_set0 hvl3) (by have q := c_i2b (x5.toInt8.toInt32); omega) (by rw [own_bb]; exact own_bits _ (by have q := c_i2b x5; omega))) (W := 0) (by decide) (by decide) (by decide) (by decide) rfl (by rw [hml]; rfl) (lenOf own_pd7 rfl) rfl (by show 2 * 0 + _ ≤ _; exact Nat.le_of_eq rfl) (hb hby at_99) (fun T1380 h1382 v1383 vm1385 Y1381 si1386 hZ' hown' gr1389 q1384 => ?_)
     replace hZ := hZ'; replace hown := hown'
     obtain ⟨rv1408, L1409, rfl, K1390, F1391, F1392, F1393, F1394, F1395, F1396, F1397, F1398, F1399, F1400, F1401, F1402, F1403, F1404, F1405, F1406, F1407, H1410⟩ := q1384
     show own_Ends _ _ _ _ (T1380.setTop (mkF m 102 #[.val (.int x0), .val (.int x1), .val (.int x2), .val (.int x3), .val (.int x4), .val (.int x5), .val (.ref b1199), .val (.ref b1243), .val (.int (x5.toInt8.toInt32)), .unset, .unset, .unset, .unset] [rv1408]))
     rcases H1410 with ⟨hw1, rfl, rfl⟩ | ⟨hw1, ⟨ra, rfl⟩, rfl⟩
     ·
      show own_Ends _ _ _ _ (T1380.setTop (mkF m 102 #[.val (.int x0), .val (.int x1), .val (.int x2), .val (.int x3), .val (.int x4), .val (.int x5), .val (.ref b1199), .val (.ref b1243), .val (.int (x5.toInt8.toInt32)), .unset, .unset, .unset, .unset] [.null]))
      refine own_st (fun t_ => XS.astore (own_here Y1381) hx rfl (hb hby at_102) rfl rfl (l' := #[.val (.int x0), .val (.int x1), .val (.int x2), .val (.int x3), .val (.int x4), .val (.int x5), .val (.ref b1199), .val (.ref b1243), .val (.int (x5.toInt8.toInt32)), .val .null, .unset, .unset, .unset]) rfl) ?_
      show own_Ends _ _ _ _ (T1380.setTop (mkF m 104 #[.val (.int x0), .val (.int x1), .val (.int x2), .val (.int x3), .val (.int x4), .val (.int x5), .val (.ref b1199), .val (.ref b1243), .val (.int (x5.toInt8.toInt32)), .val .null, .unset, .unset, .unset] []))
      refine own_st (fun t_ => XS.aload (own_here Y1381) hx rfl (hb hby at_104) rfl rfl) ?_
      show own_Ends _ _ _ _ (T1380.setTop (mkF m 106 #[.val (.int x0), .val (.int x1), .val (.int x2), .val (.int x3), .val (.int x4), .val (.int x5), .val (.ref b1199), .val (.ref b1243), .val (.int (x5.toInt8.toInt32)), .val .null, .unset, .unset, .unset] [(.ref b1199)]))
      refine own_callV Y1381 hx hZ (y := (⟨"kombos/io/FieldBytes", "count", "()I"⟩ : MethodName)) (z := (⟨"kombos/io/FieldBytes", "count", "()I"⟩ : MethodName)) hown (hw _ (List.mem_of_getElem? (i := 75) rfl)) (hw _ (List.mem_of_getElem? (i := 76) rfl)) (notFace_of_selects (args := #[]) (mvT hZ (hw _ (List.mem_of_getElem? (i := 78) rfl)))) (hw _ (List.mem_of_getElem? (i := 78) rfl)) (hw _ (List.mem_of_getElem? (i := 77) rfl)) (hw _ (List.mem_of_getElem? (i := 2) rfl)) (hw _ (List.mem_of_getElem? (i := 79) rfl)) (by decide) (a := b1199) F1391 (argsL := []) (rest := []) (own_rm12 l Z a0 hw [] b1199  h1382 n0  F1395) (W := 0) (by decide) (by decide) (by decide) (by decide) rfl (by rw [hml]; rfl) (lenOf own_pd8 rfl) rfl (by show 2 * 0 + _ ≤ _; exact Nat.le_of_eq rfl) (hb hby at_106) (fun T1411 h1413 v1414 Y1412 q1415 => ?_)
      obtain ⟨rfl, rfl⟩ := q1415
      show own_Ends _ _ _ _ (T1411.setTop (mkF m 109 #[.val (.int x0), .val (.int x1), .val (.int x2), .val (.int x3), .val (.int x4), .val (.int x5), .val (.ref b1199), .val (.ref b1243), .val (.int (x5.toInt8.toInt32)), .val .null, .unset, .unset, .unset] [(.int (1 : Int32))]))
      refine own_st (fun t_ => XS.iconst (own_here Y1412) hx rfl (hb hby at_109) ) ?_
      show own_Ends _ _ _ _ (T1411.setTop (mkF m 110 #[.val (.int x0), .val (.int x1), .val (.int x2), .val (.int x3), .val (.int x4), .val (.int x5), .val (.ref b1199), .val (.ref b1243), .val (.int (x5.toInt8.toInt32)), .val .null, .unset, .unset, .unset] [(.int (1 : Int32)), (.int (1 : Int32))]))
      refine own_st (fun t_ => XS.icmpYes (own_here Y1412) hx rfl (pc0 := 110) (pc' := 115) rfl (hb hby at_110) rfl (XT.ii_eq_t (by decide)) (by decide) (by decide)) ?_
      show own_Ends _ _ _ _ (T1411.setTop (mkF m 115 #[.val (.int x0), .val (.int x1), .val (.int x2), .val (.int x3), .val (.int x4), .val (.int x5), .val (.ref b1199), .val (.ref b1243), .val (.int (x5.toInt8.toInt32)), .val .null, .unset, .unset, .unset] []))
      refine own_st (fun t_ => XS.aload (own_here Y1412) hx rfl (hb hby at_115) rfl rfl) ?_
      show own_Ends _ _ _ _ (T1411.setTop (mkF m 117 #[.val (.int x0), .val (.int x1), .val (.int x2), .val (.int x3), .val (.int x4), .val (.int x5), .val (.ref b1199), .val (.ref b1243), .val (.int (x5.toInt8.toInt32)), .val .null, .unset, .unset, .unset] [(.ref b1199)]))
      refine own_callV Y1412 hx hZ (y := (⟨"kombos/io/FieldBytes", "recordProblem", "()Ljava/lang/String;"⟩ : MethodName)) (z := (⟨"kombos/io/FieldBytes", "recordProblem", "()Ljava/lang/String;"⟩ : MethodName)) hown (hw _ (List.mem_of_getElem? (i := 80) rfl)) (hw _ (List.mem_of_getElem? (i := 81) rfl)) (notFace_of_selects (args := #[]) (mvT hZ (hw _ (List.mem_of_getElem? (i := 83) rfl)))) (hw _ (List.mem_of_getElem? (i := 83) rfl)) (hw _ (List.mem_of_getElem? (i := 82) rfl)) (hw _ (List.mem_of_getElem? (i := 2) rfl)) (hw _ (List.mem_of_getElem? (i := 84) rfl)) (by decide) (a := b1199) F1391 (argsL := []) (rest := []) (own_rm13 l Z a0 hw [] b1199  h1382 n0  F1398) (W := 0) (by decide) (by decide) (by decide) (by decide) rfl (by rw [hml]; rfl) (lenOf own_pd7 rfl) rfl (by show 2 * 0 + _ ≤ _; exact Nat.le_of_eq rfl) (hb hby at_117) (fun T1416 h1418 v1419 Y1417 q1420 => ?_)
      obtain ⟨rfl, rfl⟩ := q1420
      show own_Ends _ _ _ _ (T1416.setTop (mkF m 120 #[.val (.int x0), .val (.int x1), .val (.int x2), .val (.int x3), .val (.int x4), .val (.int x5), .val (.ref b1199), .val (.ref b1243), .val (.int (x5.toInt8.toInt32)), .val .null, .unset, .unset, .unset] [.null]))
      refine own_st (fun t_ => XS.ifnullYes (own_here Y1417) hx rfl (pc0 := 120) (pc' := 125) rfl (hb hby at_120) rfl (by decide) (by decide)) ?_
      show own_Ends _ _ _ _ (T1416.setTop (mkF m 125 #[.val (.int x0), .val (.int x1), .val (.int x2), .val (.int x3), .val (.int x4), .val (.int x5), .val (.ref b1199), .val (.ref b1243), .val (.int (x5.toInt8.toInt32)), .val .null, .unset, .unset, .unset] []))
      refine own_st (fun t_ => XS.aload (own_here Y1417) hx rfl (hb hby at_125) rfl rfl) ?_
      show own_Ends _ _ _ _ (T1416.setTop (mkF m 127 #[.val (.int x0), .val (.int x1), .val (.int x2), .val (.int x3), .val (.int x4), .val (.int x5), .val (.ref b1199), .val (.ref b1243), .val (.int (x5.toInt8.toInt32)), .val .null, .unset, .unset, .unset] [(.ref b1199)]))
      refine own_callV Y1417 hx hZ (y := (⟨"kombos/io/FieldBytes", "bytes", "()[B"⟩ : MethodName)) (z := (⟨"kombos/io/FieldBytes", "bytes", "()[B"⟩ : MethodName)) hown (hw _ (List.mem_of_getElem? (i := 85) rfl)) (hw _ (List.mem_of_getElem? (i := 86) rfl)) (notFace_of_selects (args := #[]) (mvT hZ (hw _ (List.mem_of_getElem? (i := 88) rfl)))) (hw _ (List.mem_of_getElem? (i := 88) rfl)) (hw _ (List.mem_of_getElem? (i := 87) rfl)) (hw _ (List.mem_of_getElem? (i := 2) rfl)) (hw _ (List.mem_of_getElem? (i := 89) rfl)) (by decide) (a := b1199) F1391 (argsL := []) (rest := []) (own_rm14 l Z a0 hw [] b1199 bh h1382 n0  F1400) (W := 0) (by decide) (by decide) (by decide) (by decide) rfl (by rw [hml]; rfl) (lenOf own_pd9 rfl) rfl (by show 2 * 0 + _ ≤ _; exact Nat.le_of_eq rfl) (hb hby at_127) (fun T1421 h1423 v1424 Y1422 q1425 => ?_)
      obtain ⟨rfl, rfl⟩ := q1425
      show own_Ends _ _ _ _ (T1421.setTop (mkF m 130 #[.val (.int x0), .val (.int x1), .val (.int x2), .val (.int x3), .val (.int x4), .val (.int x5), .val (.ref b1199), .val (.ref b1243), .val (.int (x5.toInt8.toInt32)), .val .null, .unset, .unset, .unset] [(.ref bh)]))
      refine own_st (fun t_ => XS.astore (own_here Y1422) hx rfl (hb hby at_130) rfl rfl (l' := #[.val (.int x0), .val (.int x1), .val (.int x2), .val (.int x3), .val (.int x4), .val (.int x5), .val (.ref b1199), .val (.ref b1243), .val (.int (x5.toInt8.toInt32)), .val .null, .val (.ref bh), .unset, .unset]) rfl) ?_
      show own_Ends _ _ _ _ (T1421.setTop (mkF m 132 #[.val (.int x0), .val (.int x1), .val (.int x2), .val (.int x3), .val (.int x4), .val (.int x5), .val (.ref b1199), .val (.ref b1243), .val (.int (x5.toInt8.toInt32)), .val .null, .val (.ref bh), .unset, .unset] []))
      refine own_st (fun t_ => XS.aload (own_here Y1422) hx rfl (hb hby at_132) rfl rfl) ?_
      show own_Ends _ _ _ _ (T1421.setTop (mkF m 134 #[.val (.int x0), .val (.int x1), .val (.int x2), .val (.int x3), .val (.int x4), .val (.int x5), .val (.ref b1199), .val (.ref b1243), .val (.int (x5.toInt8.toInt32)), .val .null, .val (.ref bh), .unset, .unset] [(.ref bh)]))
      refine own_st (fun t_ => XS.iconst (own_here Y1422) hx rfl (hb hby at_134) ) ?_
      show own_Ends _ _ _ _ (T1421.setTop (mkF m 135 #[.val (.int x0), .val (.int x1), .val (.int x2), .val (.int x3), .val (.int x4), .val (.int x5), .val (.ref b1199), .val (.ref b1243), .val (.int (x5.toInt8.toInt32)), .val .null, .val (.ref bh), .unset, .unset] [(.int (0 : Int32)), (.ref bh)]))
      refine own_ldB Y1422 hx hZ F1404 (i := 0) (by decide) (by decide) (by rw [(own_set_len hvl3)]; decide) (v := (.int ((x5.toInt8.toInt32).toInt8.toInt32))) (own_set0 hvl3) rfl rfl (hb hby at_135) ?_
      show own_Ends _ _ _ _ (T1421.setTop (mkF m 136 #[.val (.int x0), .val (.int x1), .val (.int x2), .val (.int x3), .val (.int x4), .val (.int x5), .val (.ref b1199), .val (.ref b1243), .val (.int (x5.toInt8.toInt32)), .val .null, .val (.ref bh), .unset, .unset] [(.int ((x5.toInt8.toInt32).toInt8.toInt32))]))
      refine own_st (fun t_ => XS.iload (own_here Y1422) hx rfl (hb hby at_136) rfl) ?_
      show own_Ends _ _ _ _ (T1421.setTop (mkF m 138 #[.val (.int x0), .val (.int x1), .val (.int x2), .val (.int x3), .val (.int x4), .val (.int x5), .val (.ref b1199), .val (.ref b1243), .val (.int (x5.toInt8.toInt32)), .val .null, .val (.ref bh), .unset, .unset] [(.int (x5.toInt8.toInt32)), (.int ((x5.toInt8.toInt32).toInt8.toInt32))]))
      refine own_st (fun t_ => XS.icmpYes (own_here Y1422) hx rfl (pc0 := 138) (pc' := 143) rfl (hb hby at_138) rfl (XT.ii_eq_t (own_bb _)) (by decide) (by decide)) ?_
      show own_Ends _ _ _ _ (T1421.setTop (mkF m 143 #[.val (.int x0), .val (.int x1), .val (.int x2), .val (.int x3), .val (.int x4), .val (.int x5), .val (.ref b1199), .val (.ref b1243), .val (.int (x5.toInt8.toInt32)), .val .null, .val (.ref bh), .unset, .unset] []))
      refine own_st (fun t_ => XS.aload (own_here Y1422) hx rfl (hb hby at_143) rfl rfl) ?_
      show own_Ends _ _ _ _ (T1421.setTop (mkF m 145 #[.val (.int x0), .val (.int x1), .val (.int x2), .val (.int x3), .val (.int x4), .val (.int x5), .val (.ref b1199), .val (.ref b1243), .val (.int (x5.toInt8.toInt32)), .val .null, .val (.ref bh), .unset, .unset] [(.ref b1199)]))
      refine own_st (fun t_ => XS.iconst (own_here Y1422) hx rfl (hb hby at_145) ) ?_
      show own_Ends _ _ _ _ (T1421.setTop (mkF m 146 #[.val (.int x0), .val (.int x1), .val (.int x2), .val (.int x3), .val (.int x4), .val (.int x5), .val (.ref b1199), .val (.ref b1243), .val (.int (x5.toInt8.toInt32)), .val .null, .val (.ref bh), .unset, .unset] [(.int (0 : Int32)), (.ref b1199)]))
      refine own_callV Y1422 hx hZ (y := (⟨"kombos/io/FieldBytes", "start", "(I)I"⟩ : MethodName)) (z := (⟨"kombos/io/FieldBytes", "start", "(I)I"⟩ : MethodName)) hown (hw _ (List.mem_of_getElem? (i := 90) rfl)) (hw _ (List.mem_of_getElem? (i := 91) rfl)) (notFace_of_selects (args := #[]) (mvT hZ (hw _ (List.mem_of_getElem? (i := 93) rfl)))) (hw _ (List.mem_of_getElem? (i := 93) rfl)) (hw _ (List.mem_of_getElem? (i := 92) rfl)) (hw _ (List.mem_of_getElem? (i := 2) rfl)) (hw _ (List.mem_of_getElem? (i := 94) rfl)) (by decide) (a := b1199) F1391 (argsL := [(.int (0 : Int32))]) (rest := []) (own_rm15 l Z a0 hw [] b1199 bs (sv3.set 0 (.int 0)) (0 : Int32) h1382 n0  F1401 F1405 (own_set_len svl3) (own_set0 svl3)) (W := 0) (by decide) (by decide) (by decide) (by decide) rfl (by rw [hml]; rfl) (lenOf own_pd2 rfl) rfl (by show 2 * 0 + _ ≤ _; exact Nat.le_of_eq rfl) (hb hby at_146) (fun T1426 h1428 v1429 Y1427 q1430 => ?_)
      obtain ⟨rfl, rfl⟩ := q1430
      show own_Ends _ _ _ _ (T1426.setTop (mkF m 149 #[.val (.int x0), .val (.int x1), .val (.int x2), .val (.int x3), .val (.int x4), .val (.int x5), .val (.ref b1199), .val (.ref b1243), .val (.int (x5.toInt8.toInt32)), .val .null, .val (.ref bh), .unset, .unset] [(.int (0 : Int32))]))
      refine own_st (fun t_ => XS.ifYes (own_here Y1427) hx rfl (pc0 := 149) (pc' := 154) rfl (hb hby at_149) rfl (XT.i0_eq_t (by decide)) (by decide) (by decide)) ?_
      show own_Ends _ _ _ _ (T1426.setTop (mkF m 154 #[.val (.int x0), .val (.int x1), .val (.int x2), .val (.int x3), .val (.int x4), .val (.int x5), .val (.ref b1199), .val (.ref b1243), .val (.int (x5.toInt8.toInt32)), .val .null, .val (.ref bh), .unset, .unset] []))
      refine own_st (fun t_ => XS.aload (own_here Y1427) hx rfl (hb hby at_154) rfl rfl) ?_
      show own_Ends _ _ _ _ (T1426.setTop (mkF m 156 #[.val (.int x0), .val (.int x1), .val (.int x2), .val (.int x3), .val (.int x4), .val (.int x5), .val (.ref b1199), .val (.ref b1243), .val (.int (x5.toInt8.toInt32)), .val .null, .val (.ref bh), .unset, .unset] [(.ref b1199)]))
      refine own_st (fun t_ => XS.iconst (own_here Y1427) hx rfl (hb hby at_156) ) ?_
      show own_Ends _ _ _ _ (T1426.setTop (mkF m 157 #[.val (.int x0), .val (.int x1), .val (.int x2), .val (.int x3), .val (.int x4), .val (.int x5), .val (.ref b1199), .val (.ref b1243), .val (.int (x5.toInt8.toInt32)), .val .null, .val (.ref bh), .unset, .unset] [(.int (0 : Int32)), (.ref b1199)]))
      refine own_callV Y1427 hx hZ (y := (⟨"kombos/io/FieldBytes", "end", "(I)I"⟩ : MethodName)) (z := (⟨"kombos/io/FieldBytes", "end", "(I)I"⟩ : MethodName)) hown (hw _ (List.mem_of_getElem? (i := 95) rfl)) (hw _ (List.mem_of_getElem? (i := 96) rfl)) (notFace_of_selects (args := #[]) (mvT hZ (hw _ (List.mem_of_getElem? (i := 98) rfl)))) (hw _ (List.mem_of_getElem? (i := 98) rfl)) (hw _ (List.mem_of_getElem? (i := 97) rfl)) (hw _ (List.mem_of_getElem? (i := 2) rfl)) (hw _ (List.mem_of_getElem? (i := 99) rfl)) (by decide) (a := b1199) F1391 (argsL := [(.int (0 : Int32))]) (rest := []) (own_rm16 l Z a0 hw [] b1199 be (ev3.set 0 (.int (1 : Int32))) (1 : Int32) h1382 n0  F1402 F1406 (own_set_len evl3) (own_set0 evl3)) (W := 0) (by decide) (by decide) (by decide) (by decide) rfl (by rw [hml]; rfl) (lenOf own_pd2 rfl) rfl (by show 2 * 0 + _ ≤ _; exact Nat.le_of_eq rfl) (hb hby at_157) (fun T1431 h1433 v1434 Y1432 q1435 => ?_)
      obtain ⟨rfl, rfl⟩ := q1435
      show own_Ends _ _ _ _ (T1431.setTop (mkF m 160 #[.val (.int x0), .val (.int x1), .val (.int x2), .val (.int x3), .val (.int x4), .val (.int x5), .val (.ref b1199), .val (.ref b1243), .val (.int (x5.toInt8.toInt32)), .val .null, .val (.ref bh), .unset, .unset] [(.int (1 : Int32))]))
      refine own_st (fun t_ => XS.istore (own_here Y1432) hx rfl (hb hby at_160) rfl (l' := #[.val (.int x0), .val (.int x1), .val (.int x2), .val (.int x3), .val (.int x4), .val (.int x5), .val (.ref b1199), .val (.ref b1243), .val (.int (x5.toInt8.toInt32)), .val .null, .val (.ref bh), .val (.int (1 : Int32)), .unset]) rfl) ?_
      show own_Ends _ _ _ _ (T1431.setTop (mkF m 162 #[.val (.int x0), .val (.int x1), .val (.int x2), .val (.int x3), .val (.int x4), .val (.int x5), .val (.ref b1199), .val (.ref b1243), .val (.int (x5.toInt8.toInt32)), .val .null, .val (.ref bh), .val (.int (1 : Int32)), .unset] []))
      refine own_st (fun t_ => XS.aload (own_here Y1432) hx rfl (hb hby at_162) rfl rfl) ?_
      show own_Ends _ _ _ _ (T1431.setTop (mkF m 164 #[.val (.int x0), .val (.int x1), .val (.int x2), .val (.int x3), .val (.int x4), .val (.int x5), .val (.ref b1199), .val (.ref b1243), .val (.int (x5.toInt8.toInt32)), .val .null, .val (.ref bh), .val (.int (1 : Int32)), .unset] [(.ref b1199)]))
      refine own_st (fun t_ => XS.iconst (own_here Y1432) hx rfl (hb hby at_164) ) ?_
      show own_Ends _ _ _ _ (T1431.setTop (mkF m 165 #[.val (.int x0), .val (.int x1), .val (.int x2), .val (.int x3), .val (.int x4), .val (.int x5), .val (.ref b1199), .val (.ref b1243), .val (.int (x5.toInt8.toInt32)), .val .null, .val (.ref bh), .val (.int (1 : Int32)), .unset] [(.int (0 : Int32)), (.ref b1199)]))
      refine own_callV Y1432 hx hZ (y := (⟨"kombos/io/FieldBytes", "isPlain", "(I)Z"⟩ : MethodName)) (z := (⟨"kombos/io/FieldBytes", "isPlain", "(I)Z"⟩ : MethodName)) hown (hw _ (List.mem_of_getElem? (i := 100) rfl)) (hw _ (List.mem_of_getElem? (i := 101) rfl)) (notFace_of_selects (args := #[]) (mvT hZ (hw _ (List.mem_of_getElem? (i := 103) rfl)))) (hw _ (List.mem_of_getElem? (i := 103) rfl)) (hw _ (List.mem_of_getElem? (i := 102) rfl)) (hw _ (List.mem_of_getElem? (i := 2) rfl)) (hw _ (List.mem_of_getElem? (i := 104) rfl)) (by decide) (a := b1199) F1391 (argsL := [(.int (0 : Int32))]) (rest := []) (own_rm17 l Z a0 hw [] b1199 bp (pv3.set 0 (.int ((0 : Int32) ||| ((x5.toInt8.toInt32) - (32 : Int32))))) ((0 : Int32) ||| ((x5.toInt8.toInt32) - (32 : Int32))) h1382 n0  F1403 F1407 (own_set_len pvl3) (own_set0 pvl3)) (W := 0) (by decide) (by decide) (by decide) (by decide) rfl (by rw [hml]; rfl) (lenOf own_pd10 rfl) rfl (by show 2 * 0 + _ ≤ _; exact Nat.le_of_eq rfl) (hb hby at_165) (fun T1436 h1438 v1439 Y1437 q1440 => ?_)
      obtain ⟨rfl, rfl⟩ := q1440
      show own_Ends _ _ _ _ (T1436.setTop (mkF m 168 #[.val (.int x0), .val (.int x1), .val (.int x2), .val (.int x3), .val (.int x4), .val (.int x5), .val (.ref b1199), .val (.ref b1243), .val (.int (x5.toInt8.toInt32)), .val .null, .val (.ref bh), .val (.int (1 : Int32)), .unset] [(.int (own_b (decide (0 ≤ ((0 : Int32) ||| ((x5.toInt8.toInt32) - (32 : Int32))).toInt))))]))
      refine own_st (fun t_ => XS.istore (own_here Y1437) hx rfl (hb hby at_168) rfl (l' := #[.val (.int x0), .val (.int x1), .val (.int x2), .val (.int x3), .val (.int x4), .val (.int x5), .val (.ref b1199), .val (.ref b1243), .val (.int (x5.toInt8.toInt32)), .val .null, .val (.ref bh), .val (.int (1 : Int32)), .val (.int (own_b (decide (0 ≤ ((0 : Int32) ||| ((x5.toInt8.toInt32) - (32 : Int32))).toInt))))]) rfl) ?_
      show own_Ends _ _ _ _ (T1436.setTop (mkF m 170 #[.val (.int x0), .val (.int x1), .val (.int x2), .val (.int x3), .val (.int x4), .val (.int x5), .val (.ref b1199), .val (.ref b1243), .val (.int (x5.toInt8.toInt32)), .val .null, .val (.ref bh), .val (.int (1 : Int32)), .val (.int (own_b (decide (0 ≤ ((0 : Int32) ||| ((x5.toInt8.toInt32) - (32 : Int32))).toInt))))] []))
      refine own_st (fun t_ => XS.iload (own_here Y1437) hx rfl (hb hby at_170) rfl) ?_
      show own_Ends _ _ _ _ (T1436.setTop (mkF m 172 #[.val (.int x0), .val (.int x1), .val (.int x2), .val (.int x3), .val (.int x4), .val (.int x5), .val (.ref b1199), .val (.ref b1243), .val (.int (x5.toInt8.toInt32)), .val .null, .val (.ref bh), .val (.int (1 : Int32)), .val (.int (own_b (decide (0 ≤ ((0 : Int32) ||| ((x5.toInt8.toInt32) - (32 : Int32))).toInt))))] [(.int (x5.toInt8.toInt32))]))
      refine own_st (fun t_ => XS.ifNo (own_here Y1437) hx rfl (hb hby at_172) rfl (XT.i0_lt_f (by have e0 : (0 : Int32).toInt = 0 := rfl; have q := hw1; rw [own_bb] at q; rw [own_lt]; omega))) ?_
      show own_Ends _ _ _ _ (T1436.setTop (mkF m 175 #[.val (.int x0), .val (.int x1), .val (.int x2), .val (.int x3), .val (.int x4), .val (.int x5), .val (.ref b1199), .val (.ref b1243), .val (.int (x5.toInt8.toInt32)), .val .null, .val (.ref bh), .val (.int (1 : Int32)), .val (.int (own_b (decide (0 ≤ ((0 : Int32) ||| ((x5.toInt8.toInt32) - (32 : Int32))).toInt))))] []))
      refine own_st (fun t_ => XS.aload (own_here Y1437) hx rfl (hb hby at_175) rfl rfl) ?_
      show own_Ends _ _ _ _ (T1436.setTop (mkF m 177 #[.val (.int x0), .val (.int x1), .val (.int x2), .val (.int x3), .val (.int x4), .val (.int x5), .val (.ref b1199), .val (.ref b1243), .val (.int (x5.toInt8.toInt32)), .val .null, .val (.ref bh), .val (.int (1 : Int32)), .val (.int (own_b (decide (0 ≤ ((0 : Int32) ||| ((x5.toInt8.toInt32) - (32 : Int32))).toInt))))] [.null]))
      refine own_st (fun t_ => XS.ifnonnullNo (own_here Y1437) hx rfl (hb hby at_177) rfl) ?_
      show own_Ends _ _ _ _ (T1436.setTop (mkF m 180 #[.val (.int x0), .val (.int x1), .val (.int x2), .val (.int x3), .val (.int x4), .val (.int x5), .val (.ref b1199), .val (.ref b1243), .val (.int (x5.toInt8.toInt32)), .val .null, .val (.ref bh), .val (.int (1 : Int32)), .val (.int (own_b (decide (0 ≤ ((0 : Int32) ||| ((x5.toInt8.toInt32) - (32 : Int32))).toInt))))] []))
      refine own_st (fun t_ => XS.iload (own_here Y1437) hx rfl (hb hby at_180) rfl) ?_
      show own_Ends _ _ _ _ (T1436.setTop (mkF m 182 #[.val (.int x0), .val (.int x1), .val (.int x2), .val (.int x3), .val (.int x4), .val (.int x5), .val (.ref b1199), .val (.ref b1243), .val (.int (x5.toInt8.toInt32)), .val .null, .val (.ref bh), .val (.int (1 : Int32)), .val (.int (own_b (decide (0 ≤ ((0 : Int32) ||| ((x5.toInt8.toInt32) - (32 : Int32))).toInt))))] [(.int (1 : Int32))]))
      refine own_st (fun t_ => XS.iconst (own_here Y1437) hx rfl (hb hby at_182) ) ?_
      show own_Ends _ _ _ _ (T1436.setTop (mkF m 183 #[.val (.int x0), .val (.int x1), .val (.int x2), .val (.int x3), .val (.int x4), .val (.int x5), .val (.ref b1199), .val (.ref b1243), .val (.int (x5.toInt8.toInt32)), .val .null, .val (.ref bh), .val (.int (1 : Int32)), .val (.int (own_b (decide (0 ≤ ((0 : Int32) ||| ((x5.toInt8.toInt32) - (32 : Int32))).toInt))))] [(.int (1 : Int32)), (.int (1 : Int32))]))
      refine own_st (fun t_ => XS.icmpNo (own_here Y1437) hx rfl (hb hby at_183) rfl (XT.ii_ne_f (by decide))) ?_
      show own_Ends _ _ _ _ (T1436.setTop (mkF m 186 #[.val (.int x0), .val (.int x1), .val (.int x2), .val (.int x3), .val (.int x4), .val (.int x5), .val (.ref b1199), .val (.ref b1243), .val (.int (x5.toInt8.toInt32)), .val .null, .val (.ref bh), .val (.int (1 : Int32)), .val (.int (own_b (decide (0 ≤ ((0 : Int32) ||| ((x5.toInt8.toInt32) - (32 : Int32))).toInt))))] []))
      refine own_st (fun t_ => XS.iload (own_here Y1437) hx rfl (hb hby at_186) rfl) ?_
      show own_Ends _ _ _ _ (T1436.setTop (mkF m 188 #[.val (.int x0), .val (.int x1), .val (.int x2), .val (.int x3), .val (.int x4), .val (.int x5), .val (.ref b1199), .val (.ref b1243), .val (.int (x5.toInt8.toInt32)), .val .null, .val (.ref bh), .val (.int (1 : Int32)), .val (.int (own_b (decide (0 ≤ ((0 : Int32) ||| ((x5.toInt8.toInt32) - (32 : Int32))).toInt))))] [(.int (own_b (decide (0 ≤ ((0 : Int32) ||| ((x5.toInt8.toInt32) - (32 : Int32))).toInt))))]))
      refine own_st (fun t_ => XS.iload (own_here Y1437) hx rfl (hb hby at_188) rfl) ?_
      show own_Ends _ _ _ _ (T1436.setTop (mkF m 190 #[.val (.int x0), .val (.int x1), .val (.int x2), .val (.int x3), .val (.int x4), .val (.int x5), .val (.ref b1199), .val (.ref b1243), .val (.int (x5.toInt8.toInt32)), .val .null, .val (.ref bh), .val (.int (1 : Int32)), .val (.int (own_b (decide (0 ≤ ((0 : Int32) ||| ((x5.toInt8.toInt32) - (32 : Int32))).toInt))))] [(.int (x5.toInt8.toInt32)), (.int (own_b (decide (0 ≤ ((0 : Int32) ||| ((x5.toInt8.toInt32) - (32 : Int32))).toInt))))]))
      refine own_st (fun t_ => XS.bipush (own_here Y1437) hx rfl (hb hby at_190) ) ?_
      show own_Ends _ _ _ _ (T1436.setTop (mkF m 192 #[.val (.int x0), .val (.int x1), .val (.int x2), .val (.int x3), .val (.int x4), .val (.int x5), .val (.ref b1199), .val (.ref b1243), .val (.int (x5.toInt8.toInt32)), .val .null, .val (.ref bh), .val (.int (1 : Int32)), .val (.int (own_b (decide (0 ≤ ((0 : Int32) ||| ((x5.toInt8.toInt32) - (32 : Int32))).toInt))))] [(.int (32 : Int32)), (.int (x5.toInt8.toInt32)), (.int (own_b (decide (0 ≤ ((0 : Int32) ||| ((x5.toInt8.toInt32) - (32 : Int32))).toInt))))]))
      by_cases c192_1441 : (x5.toInt8.toInt32) < (32 : Int32)
      ·
       refine own_st (fun t_ => XS.icmpYes (own_here Y1437) hx rfl (pc0 := 192) (pc' := 199) rfl (hb hby at_192) rfl (XT.ii_lt_t c192_1441) (by decide) (by decide)) ?_
       show own_Ends _ _ _ _ (T1436.setTop (mkF m 199 #[.val (.int x0), .val (.int x1), .val (.int x2), .val (.int x3), .val (.int x4), .val (.int x5), .val (.ref b1199), .val (.ref b1243), .val (.int (x5.toInt8.toInt32)), .val .null, .val (.ref bh), .val (.int (1 : Int32)), .val (.int (own_b (decide (0 ≤ ((0 : Int32) ||| ((x5.toInt8.toInt32) - (32 : Int32))).toInt))))] [(.int (own_b (decide (0 ≤ ((0 : Int32) ||| ((x5.toInt8.toInt32) - (32 : Int32))).toInt))))]))
       refine own_st (fun t_ => XS.iconst (own_here Y1437) hx rfl (hb hby at_199) ) ?_
       show own_Ends _ _ _ _ (T1436.setTop (mkF m 200 #[.val (.int x0), .val (.int x1), .val (.int x2), .val (.int x3), .val (.int x4), .val (.int x5), .val (.ref b1199), .val (.ref b1243), .val (.int (x5.toInt8.toInt32)), .val .null, .val (.ref bh), .val (.int (1 : Int32)), .val (.int (own_b (decide (0 ≤ ((0 : Int32) ||| ((x5.toInt8.toInt32) - (32 : Int32))).toInt))))] [(.int (0 : Int32)), (.int (own_b (decide (0 ≤ ((0 : Int32) ||| ((x5.toInt8.toInt32) - (32 : Int32))).toInt))))]))
       refine own_st (fun t_ => XS.icmpNo (own_here Y1437) hx rfl (hb hby at_200) rfl (XT.ii_ne_f (own_b_f (by simp only [decide_eq_false_iff_not]; rw [own_bits _ (by have q := c_i2b x5; omega)]; have e32 : (32 : Int32).toInt = 32 := rfl; have q := c192_1441; rw [own_lt] at q; omega)))) ?_
       show own_Ends _ _ _ _ (T1436.setTop (mkF m 203 #[.val (.int x0), .val (.int x1), .val (.int x2), .val (.int x3), .val (.int x4), .val (.int x5), .val (.ref b1199), .val (.ref b1243), .val (.int (x5.toInt8.toInt32)), .val .null, .val (.ref bh), .val (.int (1 : Int32)), .val (.int (own_b (decide (0 ≤ ((0 : Int32) ||| ((x5.toInt8.toInt32) - (32 : Int32))).toInt))))] []))
       refine own_st (fun t_ => XS.iconst (own_here Y1437) hx rfl (hb hby at_203) ) ?_
       show own_Ends _ _ _ _ (T1436.setTop (mkF m 204 #[.val (.int x0), .val (.int x1), .val (.int x2), .val (.int x3), .val (.int x4), .val (.int x5), .val (.ref b1199), .val (.ref b1243), .val (.int (x5.toInt8.toInt32)), .val .null, .val (.ref bh), .val (.int (1 : Int32)), .val (.int (own_b (decide (0 ≤ ((0 : Int32) ||| ((x5.toInt8.toInt32) - (32 : Int32))).toInt))))] [(.int (1 : Int32))]))
       refine own_st (fun t_ => XS.goto (own_here Y1437) hx rfl (pc0 := 204) (pc' := 208) rfl (hb hby at_204) (by decide) (by decide)) ?_
       show own_Ends _ _ _ _ (T1436.setTop (mkF m 208 #[.val (.int x0), .val (.int x1), .val (.int x2), .val (.int x3), .val (.int x4), .val (.int x5), .val (.ref b1199), .val (.ref b1243), .val (.int (x5.toInt8.toInt32)), .val .null, .val (.ref bh), .val (.int (1 : Int32)), .val (.int (own_b (decide (0 ≤ ((0 : Int32) ||| ((x5.toInt8.toInt32) - (32 : Int32))).toInt))))] [(.int (1 : Int32))]))
       refine own_retNW Y1437 si1386 hx hlk (t := .boolean) hret (by simp) (hb hby at_208) (by decide) (by decide) ?_
       exact rfl
      ·
       refine own_st (fun t_ => XS.icmpNo (own_here Y1437) hx rfl (hb hby at_192) rfl (XT.ii_lt_f c192_1441)) ?_
       show own_Ends _ _ _ _ (T1436.setTop (mkF m 195 #[.val (.int x0), .val (.int x1), .val (.int x2), .val (.int x3), .val (.int x4), .val (.int x5), .val (.ref b1199), .val (.ref b1243), .val (.int (x5.toInt8.toInt32)), .val .null, .val (.ref bh), .val (.int (1 : Int32)), .val (.int (own_b (decide (0 ≤ ((0 : Int32) ||| ((x5.toInt8.toInt32) - (32 : Int32))).toInt))))] [(.int (own_b (decide (0 ≤ ((0 : Int32) ||| ((x5.toInt8.toInt32) - (32 : Int32))).toInt))))]))
       refine own_st (fun t_ => XS.iconst (own_here Y1437) hx rfl (hb hby at_195) ) ?_
       show own_Ends _ _ _ _ (T1436.setTop (mkF m 196 #[.val (.int x0), .val (.int x1), .val (.int x2), .val (.int x3), .val (.int x4), .val (.int x5), .val (.ref b1199), .val (.ref b1243), .val (.int (x5.toInt8.toInt32)), .val .null, .val (.ref bh), .val (.int (1 : Int32)), .val (.int (own_b (decide (0 ≤ ((0 : Int32) ||| ((x5.toInt8.toInt32) - (32 : Int32))).toInt))))] [(.int (1 : Int32)), (.int (own_b (decide (0 ≤ ((0 : Int32) ||| ((x5.toInt8.toInt32) - (32 : Int32))).toInt))))]))
       refine own_st (fun t_ => XS.goto (own_here Y1437) hx rfl (pc0 := 196) (pc' := 200) rfl (hb hby at_196) (by decide) (by decide)) ?_
       show own_Ends _ _ _ _ (T1436.setTop (mkF m 200 #[.val (.int x0), .val (.int x1), .val (.int x2), .val (.int x3), .val (.int x4), .val (.int x5), .val (.ref b1199), .val (.ref b1243), .val (.int (x5.toInt8.toInt32)), .val .null, .val (.ref bh), .val (.int (1 : Int32)), .val (.int (own_b (decide (0 ≤ ((0 : Int32) ||| ((x5.toInt8.toInt32) - (32 : Int32))).toInt))))] [(.int (1 : Int32)), (.int (own_b (decide (0 ≤ ((0 : Int32) ||| ((x5.toInt8.toInt32) - (32 : Int32))).toInt))))]))
       refine own_st (fun t_ => XS.icmpNo (own_here Y1437) hx rfl (hb hby at_200) rfl (XT.ii_ne_f (own_b_t (by simp only [decide_eq_true_eq]; rw [own_bits _ (by have q := c_i2b x5; omega)]; have e32 : (32 : Int32).toInt = 32 := rfl; have q := c192_1441; rw [own_lt] at q; omega)))) ?_
       show own_Ends _ _ _ _ (T1436.setTop (mkF m 203 #[.val (.int x0), .val (.int x1), .val (.int x2), .val (.int x3), .val (.int x4), .val (.int x5), .val (.ref b1199), .val (.ref b1243), .val (.int (x5.toInt8.toInt32)), .val .null, .val (.ref bh), .val (.int (1 : Int32)), .val (.int (own_b (decide (0 ≤ ((0 : Int32) ||| ((x5.toInt8.toInt32) - (32 : Int32))).toInt))))] []))
       refine own_st (fun t_ => XS.iconst (own_here Y1437) hx rfl (hb hby at_203) ) ?_
       show own_Ends _ _ _ _ (T1436.setTop (mkF m 204 #[.val (.int x0), .val (.int x1), .val (.int x2), .val (.int x3), .val (.int x4), .val (.int x5), .val (.ref b1199), .val (.ref b1243), .val (.int (x5.toInt8.toInt32)), .val .null, .val (.ref bh), .val (.int (1 : Int32)), .val (.int (own_b (decide (0 ≤ ((0 : Int32) ||| ((x5.toInt8.toInt32) - (32 : Int32))).toInt))))] [(.int (1 : Int32))]))
       refine own_st (fun t_ => XS.goto (own_here Y1437) hx rfl (pc0 := 204) (pc' := 208) rfl (hb hby at_204) (by decide) (by decide)) ?_
       show own_Ends _ _ _ _ (T1436.setTop (mkF m 208 #[.val (.int x0), .val (.int x1), .val (.int x2), .val (.int x3), .val (.int x4), .val (.int x5), .val (.ref b1199), .val (.ref b1243), .val (.int (x5.toInt8.toInt32)), .val .null, .val (.ref bh), .val (.int (1 : Int32)), .val (.int (own_b (decide (0 ≤ ((0 : Int32) ||| ((x5.toInt8.toInt32) - (32 : Int32))).toInt))))] [(.int (1 : Int32))]))
       refine own_retNW Y1437 si1386 hx hlk (t := .boolean) hret (by simp) (hb hby at_208) (by decide) (by decide) ?_
       exact rfl
     ·
      show own_Ends _ _ _ _ (T1380.setTop (mkF m 102 #[.val (.int x0), .val (.int x1), .val (.int x2), .val (.int x3), .val (.int x4), .val (.int x5), .val (.ref b1199), .val (.ref b1243), .val (.int (x5.toInt8.toInt32)), .unset, .unset, .unset, .unset] [(.ref ra)]))
      refine own_st (fun t_ => XS.astore (own_here Y1381) hx rfl (hb hby at_102) rfl rfl (l' := #[.val (.int x0), .val (.int x1), .val (.int x2), .val (.int x3), .val (.int x4), .val (.int x5), .val (.ref b1199), .val (.ref b1243), .val (.int (x5.toInt8.toInt32)), .val (.ref ra), .unset, .unset, .unset]) rfl) ?_
      show own_Ends _ _ _ _ (T1380.setTop (mkF m 104 #[.val (.int x0), .val (.int x1), .val (.int x2), .val (.int x3), .val (.int x4), .val (.int x5), .val (.ref b1199), .val (.ref b1243), .val (.int (x5.toInt8.toInt32)), .val (.ref ra), .unset, .unset, .unset] []))
      refine own_st (fun t_ => XS.aload (own_here Y1381) hx rfl (hb hby at_104) rfl rfl) ?_
      show own_Ends _ _ _ _ (T1380.setTop (mkF m 106 #[.val (.int x0), .val (.int x1), .val (.int x2), .val (.int x3), .val (.int x4), .val (.int x5), .val (.ref b1199), .val (.ref b1243), .val (.int (x5.toInt8.toInt32)), .val (.ref ra), .unset, .unset, .unset] [(.ref b1199)]))
      refine own_callV Y1381 hx hZ (y := (⟨"kombos/io/FieldBytes", "count", "()I"⟩ : MethodName)) (z := (⟨"kombos/io/FieldBytes", "count", "()I"⟩ : MethodName)) hown (hw _ (List.mem_of_getElem? (i := 75) rfl)) (hw _ (List.mem_of_getElem? (i := 76) rfl)) (notFace_of_selects (args := #[]) (mvT hZ (hw _ (List.mem_of_getElem? (i := 78) rfl)))) (hw _ (List.mem_of_getElem? (i := 78) rfl)) (hw _ (List.mem_of_getElem? (i := 77) rfl)) (hw _ (List.mem_of_getElem? (i := 2) rfl)) (hw _ (List.mem_of_getElem? (i := 79) rfl)) (by decide) (a := b1199) F1391 (argsL := []) (rest := []) (own_rm12 l Z a0 hw [] b1199  h1382 n0  F1395) (W := 0) (by decide) (by decide) (by decide) (by decide) rfl (by rw [hml]; rfl) (lenOf own_pd8 rfl) rfl (by show 2 * 0 + _ ≤ _; exact Nat.le_of_eq rfl) (hb hby at_106) (fun T1442 h1444 v1445 Y1443 q1446 => ?_)
      obtain ⟨rfl, rfl⟩ := q1446
      show own_Ends _ _ _ _ (T1442.setTop (mkF m 109 #[.val (.int x0), .val (.int x1), .val (.int x2), .val (.int x3), .val (.int x4), .val (.int x5), .val (.ref b1199), .val (.ref b1243), .val (.int (x5.toInt8.toInt32)), .val (.ref ra), .unset, .unset, .unset] [(.int (1 : Int32))]))
      refine own_st (fun t_ => XS.iconst (own_here Y1443) hx rfl (hb hby at_109) ) ?_
      show own_Ends _ _ _ _ (T1442.setTop (mkF m 110 #[.val (.int x0), .val (.int x1), .val (.int x2), .val (.int x3), .val (.int x4), .val (.int x5), .val (.ref b1199), .val (.ref b1243), .val (.int (x5.toInt8.toInt32)), .val (.ref ra), .unset, .unset, .unset] [(.int (1 : Int32)), (.int (1 : Int32))]))
      refine own_st (fun t_ => XS.icmpYes (own_here Y1443) hx rfl (pc0 := 110) (pc' := 115) rfl (hb hby at_110) rfl (XT.ii_eq_t (by decide)) (by decide) (by decide)) ?_
      show own_Ends _ _ _ _ (T1442.setTop (mkF m 115 #[.val (.int x0), .val (.int x1), .val (.int x2), .val (.int x3), .val (.int x4), .val (.int x5), .val (.ref b1199), .val (.ref b1243), .val (.int (x5.toInt8.toInt32)), .val (.ref ra), .unset, .unset, .unset] []))
      refine own_st (fun t_ => XS.aload (own_here Y1443) hx rfl (hb hby at_115) rfl rfl) ?_
      show own_Ends _ _ _ _ (T1442.setTop (mkF m 117 #[.val (.int x0), .val (.int x1), .val (.int x2), .val (.int x3), .val (.int x4), .val (.int x5), .val (.ref b1199), .val (.ref b1243), .val (.int (x5.toInt8.toInt32)), .val (.ref ra), .unset, .unset, .unset] [(.ref b1199)]))
      refine own_callV Y1443 hx hZ (y := (⟨"kombos/io/FieldBytes", "recordProblem", "()Ljava/lang/String;"⟩ : MethodName)) (z := (⟨"kombos/io/FieldBytes", "recordProblem", "()Ljava/lang/String;"⟩ : MethodName)) hown (hw _ (List.mem_of_getElem? (i := 80) rfl)) (hw _ (List.mem_of_getElem? (i := 81) rfl)) (notFace_of_selects (args := #[]) (mvT hZ (hw _ (List.mem_of_getElem? (i := 83) rfl)))) (hw _ (List.mem_of_getElem? (i := 83) rfl)) (hw _ (List.mem_of_getElem? (i := 82) rfl)) (hw _ (List.mem_of_getElem? (i := 2) rfl)) (hw _ (List.mem_of_getElem? (i := 84) rfl)) (by decide) (a := b1199) F1391 (argsL := []) (rest := []) (own_rm13 l Z a0 hw [] b1199  h1382 n0  F1398) (W := 0) (by decide) (by decide) (by decide) (by decide) rfl (by rw [hml]; rfl) (lenOf own_pd7 rfl) rfl (by show 2 * 0 + _ ≤ _; exact Nat.le_of_eq rfl) (hb hby at_117) (fun T1447 h1449 v1450 Y1448 q1451 => ?_)
      obtain ⟨rfl, rfl⟩ := q1451
      show own_Ends _ _ _ _ (T1447.setTop (mkF m 120 #[.val (.int x0), .val (.int x1), .val (.int x2), .val (.int x3), .val (.int x4), .val (.int x5), .val (.ref b1199), .val (.ref b1243), .val (.int (x5.toInt8.toInt32)), .val (.ref ra), .unset, .unset, .unset] [.null]))
      refine own_st (fun t_ => XS.ifnullYes (own_here Y1448) hx rfl (pc0 := 120) (pc' := 125) rfl (hb hby at_120) rfl (by decide) (by decide)) ?_
      show own_Ends _ _ _ _ (T1447.setTop (mkF m 125 #[.val (.int x0), .val (.int x1), .val (.int x2), .val (.int x3), .val (.int x4), .val (.int x5), .val (.ref b1199), .val (.ref b1243), .val (.int (x5.toInt8.toInt32)), .val (.ref ra), .unset, .unset, .unset] []))
      refine own_st (fun t_ => XS.aload (own_here Y1448) hx rfl (hb hby at_125) rfl rfl) ?_
      show own_Ends _ _ _ _ (T1447.setTop (mkF m 127 #[.val (.int x0), .val (.int x1), .val (.int x2), .val (.int x3), .val (.int x4), .val (.int x5), .val (.ref b1199), .val (.ref b1243), .val (.int (x5.toInt8.toInt32)), .val (.ref ra), .unset, .unset, .unset] [(.ref b1199)]))
      refine own_callV Y1448 hx hZ (y := (⟨"kombos/io/FieldBytes", "bytes", "()[B"⟩ : MethodName)) (z := (⟨"kombos/io/FieldBytes", "bytes", "()[B"⟩ : MethodName)) hown (hw _ (List.mem_of_getElem? (i := 85) rfl)) (hw _ (List.mem_of_getElem? (i := 86) rfl)) (notFace_of_selects (args := #[]) (mvT hZ (hw _ (List.mem_of_getElem? (i := 88) rfl)))) (hw _ (List.mem_of_getElem? (i := 88) rfl)) (hw _ (List.mem_of_getElem? (i := 87) rfl)) (hw _ (List.mem_of_getElem? (i := 2) rfl)) (hw _ (List.mem_of_getElem? (i := 89) rfl)) (by decide) (a := b1199) F1391 (argsL := []) (rest := []) (own_rm14 l Z a0 hw [] b1199 bh h1382 n0  F1400) (W := 0) (by decide) (by decide) (by decide) (by decide) rfl (by rw [hml]; rfl) (lenOf own_pd9 rfl) rfl (by show 2 * 0 + _ ≤ _; exact Nat.le_of_eq rfl) (hb hby at_127) (fun T1452 h1454 v1455 Y1453 q1456 => ?_)
      obtain ⟨rfl, rfl⟩ := q1456
      show own_Ends _ _ _ _ (T1452.setTop (mkF m 130 #[.val (.int x0), .val (.int x1), .val (.int x2), .val (.int x3), .val (.int x4), .val (.int x5), .val (.ref b1199), .val (.ref b1243), .val (.int (x5.toInt8.toInt32)), .val (.ref ra), .unset, .unset, .unset] [(.ref bh)]))
      refine own_st (fun t_ => XS.astore (own_here Y1453) hx rfl (hb hby at_130) rfl rfl (l' := #[.val (.int x0), .val (.int x1), .val (.int x2), .val (.int x3), .val (.int x4), .val (.int x5), .val (.ref b1199), .val (.ref b1243), .val (.int (x5.toInt8.toInt32)), .val (.ref ra), .val (.ref bh), .unset, .unset]) rfl) ?_
      show own_Ends _ _ _ _ (T1452.setTop (mkF m 132 #[.val (.int x0), .val (.int x1), .val (.int x2), .val (.int x3), .val (.int x4), .val (.int x5), .val (.ref b1199), .val (.ref b1243), .val (.int (x5.toInt8.toInt32)), .val (.ref ra), .val (.ref bh), .unset, .unset] []))
      refine own_st (fun t_ => XS.aload (own_here Y1453) hx rfl (hb hby at_132) rfl rfl) ?_
      show own_Ends _ _ _ _ (T1452.setTop (mkF m 134 #[.val (.int x0), .val (.int x1), .val (.int x2), .val (.int x3), .val (.int x4), .val (.int x5), .val (.ref b1199), .val (.ref b1243), .val (.int (x5.toInt8.toInt32)), .val (.ref ra), .val (.ref bh), .unset, .unset] [(.ref bh)]))
      refine own_st (fun t_ => XS.iconst (own_here Y1453) hx rfl (hb hby at_134) ) ?_
      show own_Ends _ _ _ _ (T1452.setTop (mkF m 135 #[.val (.int x0), .val (.int x1), .val (.int x2), .val (.int x3), .val (.int x4), .val (.int x5), .val (.ref b1199), .val (.ref b1243), .val (.int (x5.toInt8.toInt32)), .val (.ref ra), .val (.ref bh), .unset, .unset] [(.int (0 : Int32)), (.ref bh)]))
      refine own_ldB Y1453 hx hZ F1404 (i := 0) (by decide) (by decide) (by rw [(own_set_len hvl3)]; decide) (v := (.int ((x5.toInt8.toInt32).toInt8.toInt32))) (own_set0 hvl3) rfl rfl (hb hby at_135) ?_
      show own_Ends _ _ _ _ (T1452.setTop (mkF m 136 #[.val (.int x0), .val (.int x1), .val (.int x2), .val (.int x3), .val (.int x4), .val (.int x5), .val (.ref b1199), .val (.ref b1243), .val (.int (x5.toInt8.toInt32)), .val (.ref ra), .val (.ref bh), .unset, .unset] [(.int ((x5.toInt8.toInt32).toInt8.toInt32))]))
      refine own_st (fun t_ => XS.iload (own_here Y1453) hx rfl (hb hby at_136) rfl) ?_
      show own_Ends _ _ _ _ (T1452.setTop (mkF m 138 #[.val (.int x0), .val (.int x1), .val (.int x2), .val (.int x3), .val (.int x4), .val (.int x5), .val (.ref b1199), .val (.ref b1243), .val (.int (x5.toInt8.toInt32)), .val (.ref ra), .val (.ref bh), .unset, .unset] [(.int (x5.toInt8.toInt32)), (.int ((x5.toInt8.toInt32).toInt8.toInt32))]))
      refine own_st (fun t_ => XS.icmpYes (own_here Y1453) hx rfl (pc0 := 138) (pc' := 143) rfl (hb hby at_138) rfl (XT.ii_eq_t (own_bb _)) (by decide) (by decide)) ?_
      show own_Ends _ _ _ _ (T1452.setTop (mkF m 143 #[.val (.int x0), .val (.int x1), .val (.int x2), .val (.int x3), .val (.int x4), .val (.int x5), .val (.ref b1199), .val (.ref b1243), .val (.int (x5.toInt8.toInt32)), .val (.ref ra), .val (.ref bh), .unset, .unset] []))
      refine own_st (fun t_ => XS.aload (own_here Y1453) hx rfl (hb hby at_143) rfl rfl) ?_
      show own_Ends _ _ _ _ (T1452.setTop (mkF m 145 #[.val (.int x0), .val (.int x1), .val (.int x2), .val (.int x3), .val (.int x4), .val (.int x5), .val (.ref b1199), .val (.ref b1243), .val (.int (x5.toInt8.toInt32)), .val (.ref ra), .val (.ref bh), .unset, .unset] [(.ref b1199)]))
      refine own_st (fun t_ => XS.iconst (own_here Y1453) hx rfl (hb hby at_145) ) ?_
      show own_Ends _ _ _ _ (T1452.setTop (mkF m 146 #[.val (.int x0), .val (.int x1), .val (.int x2), .val (.int x3), .val (.int x4), .val (.int x5), .val (.ref b1199), .val (.ref b1243), .val (.int (x5.toInt8.toInt32)), .val (.ref ra), .val (.ref bh), .unset, .unset] [(.int (0 : Int32)), (.ref b1199)]))
      refine own_callV Y1453 hx hZ (y := (⟨"kombos/io/FieldBytes", "start", "(I)I"⟩ : MethodName)) (z := (⟨"kombos/io/FieldBytes", "start", "(I)I"⟩ : MethodName)) hown (hw _ (List.mem_of_getElem? (i := 90) rfl)) (hw _ (List.mem_of_getElem? (i := 91) rfl)) (notFace_of_selects (args := #[]) (mvT hZ (hw _ (List.mem_of_getElem? (i := 93) rfl)))) (hw _ (List.mem_of_getElem? (i := 93) rfl)) (hw _ (List.mem_of_getElem? (i := 92) rfl)) (hw _ (List.mem_of_getElem? (i := 2) rfl)) (hw _ (List.mem_of_getElem? (i := 94) rfl)) (by decide) (a := b1199) F1391 (argsL := [(.int (0 : Int32))]) (rest := []) (own_rm15 l Z a0 hw [] b1199 bs (sv3.set 0 (.int 0)) (0 : Int32) h1382 n0  F1401 F1405 (own_set_len svl3) (own_set0 svl3)) (W := 0) (by decide) (by decide) (by decide) (by decide) rfl (by rw [hml]; rfl) (lenOf own_pd2 rfl) rfl (by show 2 * 0 + _ ≤ _; exact Nat.le_of_eq rfl) (hb hby at_146) (fun T1457 h1459 v1460 Y1458 q1461 => ?_)
      obtain ⟨rfl, rfl⟩ := q1461
      show own_Ends _ _ _ _ (T1457.setTop (mkF m 149 #[.val (.int x0), .val (.int x1), .val (.int x2), .val (.int x3), .val (.int x4), .val (.int x5), .val (.ref b1199), .val (.ref b1243), .val (.int (x5.toInt8.toInt32)), .val (.ref ra), .val (.ref bh), .unset, .unset] [(.int (0 : Int32))]))
      refine own_st (fun t_ => XS.ifYes (own_here Y1458) hx rfl (pc0 := 149) (pc' := 154) rfl (hb hby at_149) rfl (XT.i0_eq_t (by decide)) (by decide) (by decide)) ?_
      show own_Ends _ _ _ _ (T1457.setTop (mkF m 154 #[.val (.int x0), .val (.int x1), .val (.int x2), .val (.int x3), .val (.int x4), .val (.int x5), .val (.ref b1199), .val (.ref b1243), .val (.int (x5.toInt8.toInt32)), .val (.ref ra), .val (.ref bh), .unset, .unset] []))
      refine own_st (fun t_ => XS.aload (own_here Y1458) hx rfl (hb hby at_154) rfl rfl) ?_
      show own_Ends _ _ _ _ (T1457.setTop (mkF m 156 #[.val (.int x0), .val (.int x1), .val (.int x2), .val (.int x3), .val (.int x4), .val (.int x5), .val (.ref b1199), .val (.ref b1243), .val (.int (x5.toInt8.toInt32)), .val (.ref ra), .val (.ref bh), .unset, .unset] [(.ref b1199)]))
      refine own_st (fun t_ => XS.iconst (own_here Y1458) hx rfl (hb hby at_156) ) ?_
      show own_Ends _ _ _ _ (T1457.setTop (mkF m 157 #[.val (.int x0), .val (.int x1), .val (.int x2), .val (.int x3), .val (.int x4), .val (.int x5), .val (.ref b1199), .val (.ref b1243), .val (.int (x5.toInt8.toInt32)), .val (.ref ra), .val (.ref bh), .unset, .unset] [(.int (0 : Int32)), (.ref b1199)]))
      refine own_callV Y1458 hx hZ (y := (⟨"kombos/io/FieldBytes", "end", "(I)I"⟩ : MethodName)) (z := (⟨"kombos/io/FieldBytes", "end", "(I)I"⟩ : MethodName)) hown (hw _ (List.mem_of_getElem? (i := 95) rfl)) (hw _ (List.mem_of_getElem? (i := 96) rfl)) (notFace_of_selects (args := #[]) (mvT hZ (hw _ (List.mem_of_getElem? (i := 98) rfl)))) (hw _ (List.mem_of_getElem? (i := 98) rfl)) (hw _ (List.mem_of_getElem? (i := 97) rfl)) (hw _ (List.mem_of_getElem? (i := 2) rfl)) (hw _ (List.mem_of_getElem? (i := 99) rfl)) (by decide) (a := b1199) F1391 (argsL := [(.int (0 : Int32))]) (rest := []) (own_rm16 l Z a0 hw [] b1199 be (ev3.set 0 (.int (0 : Int32))) (0 : Int32) h1382 n0  F1402 F1406 (own_set_len evl3) (own_set0 evl3)) (W := 0) (by decide) (by decide) (by decide) (by decide) rfl (by rw [hml]; rfl) (lenOf own_pd2 rfl) rfl (by show 2 * 0 + _ ≤ _; exact Nat.le_of_eq rfl) (hb hby at_157) (fun T1462 h1464 v1465 Y1463 q1466 => ?_)
      obtain ⟨rfl, rfl⟩ := q1466
      show own_Ends _ _ _ _ (T1462.setTop (mkF m 160 #[.val (.int x0), .val (.int x1), .val (.int x2), .val (.int x3), .val (.int x4), .val (.int x5), .val (.ref b1199), .val (.ref b1243), .val (.int (x5.toInt8.toInt32)), .val (.ref ra), .val (.ref bh), .unset, .unset] [(.int (0 : Int32))]))
      refine own_st (fun t_ => XS.istore (own_here Y1463) hx rfl (hb hby at_160) rfl (l' := #[.val (.int x0), .val (.int x1), .val (.int x2), .val (.int x3), .val (.int x4), .val (.int x5), .val (.ref b1199), .val (.ref b1243), .val (.int (x5.toInt8.toInt32)), .val (.ref ra), .val (.ref bh), .val (.int (0 : Int32)), .unset]) rfl) ?_
      show own_Ends _ _ _ _ (T1462.setTop (mkF m 162 #[.val (.int x0), .val (.int x1), .val (.int x2), .val (.int x3), .val (.int x4), .val (.int x5), .val (.ref b1199), .val (.ref b1243), .val (.int (x5.toInt8.toInt32)), .val (.ref ra), .val (.ref bh), .val (.int (0 : Int32)), .unset] []))
      refine own_st (fun t_ => XS.aload (own_here Y1463) hx rfl (hb hby at_162) rfl rfl) ?_
      show own_Ends _ _ _ _ (T1462.setTop (mkF m 164 #[.val (.int x0), .val (.int x1), .val (.int x2), .val (.int x3), .val (.int x4), .val (.int x5), .val (.ref b1199), .val (.ref b1243), .val (.int (x5.toInt8.toInt32)), .val (.ref ra), .val (.ref bh), .val (.int (0 : Int32)), .unset] [(.ref b1199)]))
      refine own_st (fun t_ => XS.iconst (own_here Y1463) hx rfl (hb hby at_164) ) ?_
      show own_Ends _ _ _ _ (T1462.setTop (mkF m 165 #[.val (.int x0), .val (.int x1), .val (.int x2), .val (.int x3), .val (.int x4), .val (.int x5), .val (.ref b1199), .val (.ref b1243), .val (.int (x5.toInt8.toInt32)), .val (.ref ra), .val (.ref bh), .val (.int (0 : Int32)), .unset] [(.int (0 : Int32)), (.ref b1199)]))
      refine own_callV Y1463 hx hZ (y := (⟨"kombos/io/FieldBytes", "isPlain", "(I)Z"⟩ : MethodName)) (z := (⟨"kombos/io/FieldBytes", "isPlain", "(I)Z"⟩ : MethodName)) hown (hw _ (List.mem_of_getElem? (i := 100) rfl)) (hw _ (List.mem_of_getElem? (i := 101) rfl)) (notFace_of_selects (args := #[]) (mvT hZ (hw _ (List.mem_of_getElem? (i := 103) rfl)))) (hw _ (List.mem_of_getElem? (i := 103) rfl)) (hw _ (List.mem_of_getElem? (i := 102) rfl)) (hw _ (List.mem_of_getElem? (i := 2) rfl)) (hw _ (List.mem_of_getElem? (i := 104) rfl)) (by decide) (a := b1199) F1391 (argsL := [(.int (0 : Int32))]) (rest := []) (own_rm17 l Z a0 hw [] b1199 bp (pv3.set 0 (.int ((0 : Int32) ||| ((x5.toInt8.toInt32) - (32 : Int32))))) ((0 : Int32) ||| ((x5.toInt8.toInt32) - (32 : Int32))) h1382 n0  F1403 F1407 (own_set_len pvl3) (own_set0 pvl3)) (W := 0) (by decide) (by decide) (by decide) (by decide) rfl (by rw [hml]; rfl) (lenOf own_pd10 rfl) rfl (by show 2 * 0 + _ ≤ _; exact Nat.le_of_eq rfl) (hb hby at_165) (fun T1467 h1469 v1470 Y1468 q1471 => ?_)
      obtain ⟨rfl, rfl⟩ := q1471
      show own_Ends _ _ _ _ (T1467.setTop (mkF m 168 #[.val (.int x0), .val (.int x1), .val (.int x2), .val (.int x3), .val (.int x4), .val (.int x5), .val (.ref b1199), .val (.ref b1243), .val (.int (x5.toInt8.toInt32)), .val (.ref ra), .val (.ref bh), .val (.int (0 : Int32)), .unset] [(.int (own_b (decide (0 ≤ ((0 : Int32) ||| ((x5.toInt8.toInt32) - (32 : Int32))).toInt))))]))
      refine own_st (fun t_ => XS.istore (own_here Y1468) hx rfl (hb hby at_168) rfl (l' := #[.val (.int x0), .val (.int x1), .val (.int x2), .val (.int x3), .val (.int x4), .val (.int x5), .val (.ref b1199), .val (.ref b1243), .val (.int (x5.toInt8.toInt32)), .val (.ref ra), .val (.ref bh), .val (.int (0 : Int32)), .val (.int (own_b (decide (0 ≤ ((0 : Int32) ||| ((x5.toInt8.toInt32) - (32 : Int32))).toInt))))]) rfl) ?_
      show own_Ends _ _ _ _ (T1467.setTop (mkF m 170 #[.val (.int x0), .val (.int x1), .val (.int x2), .val (.int x3), .val (.int x4), .val (.int x5), .val (.ref b1199), .val (.ref b1243), .val (.int (x5.toInt8.toInt32)), .val (.ref ra), .val (.ref bh), .val (.int (0 : Int32)), .val (.int (own_b (decide (0 ≤ ((0 : Int32) ||| ((x5.toInt8.toInt32) - (32 : Int32))).toInt))))] []))
      refine own_st (fun t_ => XS.iload (own_here Y1468) hx rfl (hb hby at_170) rfl) ?_
      show own_Ends _ _ _ _ (T1467.setTop (mkF m 172 #[.val (.int x0), .val (.int x1), .val (.int x2), .val (.int x3), .val (.int x4), .val (.int x5), .val (.ref b1199), .val (.ref b1243), .val (.int (x5.toInt8.toInt32)), .val (.ref ra), .val (.ref bh), .val (.int (0 : Int32)), .val (.int (own_b (decide (0 ≤ ((0 : Int32) ||| ((x5.toInt8.toInt32) - (32 : Int32))).toInt))))] [(.int (x5.toInt8.toInt32))]))
      refine own_st (fun t_ => XS.ifYes (own_here Y1468) hx rfl (pc0 := 172) (pc' := 209) rfl (hb hby at_172) rfl (XT.i0_lt_t (by have e0 : (0 : Int32).toInt = 0 := rfl; have q := hw1; rw [own_bb] at q; rw [own_lt]; omega)) (by decide) (by decide)) ?_
      show own_Ends _ _ _ _ (T1467.setTop (mkF m 209 #[.val (.int x0), .val (.int x1), .val (.int x2), .val (.int x3), .val (.int x4), .val (.int x5), .val (.ref b1199), .val (.ref b1243), .val (.int (x5.toInt8.toInt32)), .val (.ref ra), .val (.ref bh), .val (.int (0 : Int32)), .val (.int (own_b (decide (0 ≤ ((0 : Int32) ||| ((x5.toInt8.toInt32) - (32 : Int32))).toInt))))] []))
      refine own_st (fun t_ => XS.aload (own_here Y1468) hx rfl (hb hby at_209) rfl rfl) ?_
      show own_Ends _ _ _ _ (T1467.setTop (mkF m 211 #[.val (.int x0), .val (.int x1), .val (.int x2), .val (.int x3), .val (.int x4), .val (.int x5), .val (.ref b1199), .val (.ref b1243), .val (.int (x5.toInt8.toInt32)), .val (.ref ra), .val (.ref bh), .val (.int (0 : Int32)), .val (.int (own_b (decide (0 ≤ ((0 : Int32) ||| ((x5.toInt8.toInt32) - (32 : Int32))).toInt))))] [(.ref ra)]))
      refine own_st (fun t_ => XS.ifnullNo (own_here Y1468) hx rfl (hb hby at_211) rfl) ?_
      show own_Ends _ _ _ _ (T1467.setTop (mkF m 214 #[.val (.int x0), .val (.int x1), .val (.int x2), .val (.int x3), .val (.int x4), .val (.int x5), .val (.ref b1199), .val (.ref b1243), .val (.int (x5.toInt8.toInt32)), .val (.ref ra), .val (.ref bh), .val (.int (0 : Int32)), .val (.int (own_b (decide (0 ≤ ((0 : Int32) ||| ((x5.toInt8.toInt32) - (32 : Int32))).toInt))))] []))
      refine own_st (fun t_ => XS.iload (own_here Y1468) hx rfl (hb hby at_214) rfl) ?_
      show own_Ends _ _ _ _ (T1467.setTop (mkF m 216 #[.val (.int x0), .val (.int x1), .val (.int x2), .val (.int x3), .val (.int x4), .val (.int x5), .val (.ref b1199), .val (.ref b1243), .val (.int (x5.toInt8.toInt32)), .val (.ref ra), .val (.ref bh), .val (.int (0 : Int32)), .val (.int (own_b (decide (0 ≤ ((0 : Int32) ||| ((x5.toInt8.toInt32) - (32 : Int32))).toInt))))] [(.int (0 : Int32))]))
      refine own_st (fun t_ => XS.ifNo (own_here Y1468) hx rfl (hb hby at_216) rfl (XT.i0_ne_f (by decide))) ?_
      show own_Ends _ _ _ _ (T1467.setTop (mkF m 219 #[.val (.int x0), .val (.int x1), .val (.int x2), .val (.int x3), .val (.int x4), .val (.int x5), .val (.ref b1199), .val (.ref b1243), .val (.int (x5.toInt8.toInt32)), .val (.ref ra), .val (.ref bh), .val (.int (0 : Int32)), .val (.int (own_b (decide (0 ≤ ((0 : Int32) ||| ((x5.toInt8.toInt32) - (32 : Int32))).toInt))))] []))
      refine own_st (fun t_ => XS.iload (own_here Y1468) hx rfl (hb hby at_219) rfl) ?_
      show own_Ends _ _ _ _ (T1467.setTop (mkF m 221 #[.val (.int x0), .val (.int x1), .val (.int x2), .val (.int x3), .val (.int x4), .val (.int x5), .val (.ref b1199), .val (.ref b1243), .val (.int (x5.toInt8.toInt32)), .val (.ref ra), .val (.ref bh), .val (.int (0 : Int32)), .val (.int (own_b (decide (0 ≤ ((0 : Int32) ||| ((x5.toInt8.toInt32) - (32 : Int32))).toInt))))] [(.int (own_b (decide (0 ≤ ((0 : Int32) ||| ((x5.toInt8.toInt32) - (32 : Int32))).toInt))))]))
      refine own_st (fun t_ => XS.ifNo (own_here Y1468) hx rfl (hb hby at_221) rfl (XT.i0_ne_f (own_b_f (by simp only [decide_eq_false_iff_not]; rw [own_bits _ (by have q := c_i2b x5; omega)]; have q := hw1; rw [own_bb] at q; omega)))) ?_
      show own_Ends _ _ _ _ (T1467.setTop (mkF m 224 #[.val (.int x0), .val (.int x1), .val (.int x2), .val (.int x3), .val (.int x4), .val (.int x5), .val (.ref b1199), .val (.ref b1243), .val (.int (x5.toInt8.toInt32)), .val (.ref ra), .val (.ref bh), .val (.int (0 : Int32)), .val (.int (own_b (decide (0 ≤ ((0 : Int32) ||| ((x5.toInt8.toInt32) - (32 : Int32))).toInt))))] []))
      refine own_st (fun t_ => XS.iconst (own_here Y1468) hx rfl (hb hby at_224) ) ?_
      show own_Ends _ _ _ _ (T1467.setTop (mkF m 225 #[.val (.int x0), .val (.int x1), .val (.int x2), .val (.int x3), .val (.int x4), .val (.int x5), .val (.ref b1199), .val (.ref b1243), .val (.int (x5.toInt8.toInt32)), .val (.ref ra), .val (.ref bh), .val (.int (0 : Int32)), .val (.int (own_b (decide (0 ≤ ((0 : Int32) ||| ((x5.toInt8.toInt32) - (32 : Int32))).toInt))))] [(.int (1 : Int32))]))
      refine own_st (fun t_ => XS.goto (own_here Y1468) hx rfl (pc0 := 225) (pc' := 229) rfl (hb hby at_225) (by decide) (by decide)) ?_
      show own_Ends _ _ _ _ (T1467.setTop (mkF m 229 #[.val (.int x0), .val (.int x1), .val (.int x2), .val (.int x3), .val (.int x4), .val (.int x5), .val (.ref b1199), .val (.ref b1243), .val (.int (x5.toInt8.toInt32)), .val (.ref ra), .val (.ref bh), .val (.int (0 : Int32)), .val (.int (own_b (decide (0 ≤ ((0 : Int32) ||| ((x5.toInt8.toInt32) - (32 : Int32))).toInt))))] [(.int (1 : Int32))]))
      refine own_retNW Y1468 si1386 hx hlk (t := .boolean) hret (by simp) (hb hby at_229) (by decide) (by decide) ?_
      exact rfl
    by_cases c71_1472 : (x1 &&& (4 : Int32)) = (0 : Int32)
    ·
     refine own_st (fun t_ => XS.ifYes (own_here Y1288) hx rfl (pc0 := 71) (pc' := 80) rfl (hb hby at_71) rfl (XT.i0_eq_t c71_1472) (by decide) (by decide)) ?_
     show own_Ends _ _ _ _ (T1287.setTop (mkF m 80 #[.val (.int x0), .val (.int x1), .val (.int x2), .val (.int x3), .val (.int x4), .val (.int x5), .val (.ref b1199), .val (.ref b1243), .unset, .unset, .unset, .unset, .unset] []))
     exact hJ1310 T1287 h1289 vm1308 hZ hown si1309 (by2) (L) (L) (c_) ((0 : Int32)) ((0 : Int32)) ((0 : Int32)) (hv2) (sv2) (ev2) (pv2) Y1288 z1290 f1291 f1292 f1293 f1294 f1295 f1296 f1297 f1298 f1299 f1300 f1301 f1302 f1303 f1304 f1305 f1306 f1307 hvl2 svl2 evl2 pvl2
    ·
     refine own_st (fun t_ => XS.ifNo (own_here Y1288) hx rfl (hb hby at_71) rfl (XT.i0_eq_f c71_1472)) ?_
     show own_Ends _ _ _ _ (T1287.setTop (mkF m 74 #[.val (.int x0), .val (.int x1), .val (.int x2), .val (.int x3), .val (.int x4), .val (.int x5), .val (.ref b1199), .val (.ref b1243), .unset, .unset, .unset, .unset, .unset] []))
     rcases hL with rfl | rfl
     ·
      show own_Ends _ _ _ _ (T1287.setTop (mkF m 74 #[.val (.int x0), .val (.int x1), .val (.int x2), .val (.int x3), .val (.int x4), .val (.int x5), .val (.ref b1199), .val (.ref b1243), .unset, .unset, .unset, .unset, .unset] []))
      refine own_st (fun t_ => XS.aload (own_here Y1288) hx rfl (hb hby at_74) rfl rfl) ?_
      show own_Ends _ _ _ _ (T1287.setTop (mkF m 76 #[.val (.int x0), .val (.int x1), .val (.int x2), .val (.int x3), .val (.int x4), .val (.int x5), .val (.ref b1199), .val (.ref b1243), .unset, .unset, .unset, .unset, .unset] [(.ref b1199)]))
      refine own_st (fun t_ => XS.iloadN (own_here Y1288) hx rfl (hb hby at_76) rfl) ?_
      show own_Ends _ _ _ _ (T1287.setTop (mkF m 77 #[.val (.int x0), .val (.int x1), .val (.int x2), .val (.int x3), .val (.int x4), .val (.int x5), .val (.ref b1199), .val (.ref b1243), .unset, .unset, .unset, .unset, .unset] [(.int x3), (.ref b1199)]))
      refine own_callV Y1288 hx hZ (y := (⟨"kombos/io/FieldBytes", "append", "(I)V"⟩ : MethodName)) (z := (⟨"kombos/io/FieldBytes", "append", "(I)V"⟩ : MethodName)) hown (hw _ (List.mem_of_getElem? (i := 33) rfl)) (hw _ (List.mem_of_getElem? (i := 34) rfl)) (notFace_of_selects (args := #[]) (mvT hZ (hw _ (List.mem_of_getElem? (i := 36) rfl)))) (hw _ (List.mem_of_getElem? (i := 36) rfl)) (hw _ (List.mem_of_getElem? (i := 35) rfl)) (hw _ (List.mem_of_getElem? (i := 2) rfl)) (hw _ (List.mem_of_getElem? (i := 37) rfl)) (by decide) (a := b1199) f1291 (argsL := [(.int x3)]) (rest := []) (own_rm5_0 l Z a0 hw [] b1199 x3 bh bs be bp hv2 sv2 ev2 pv2 mx c_ by2 h1289 n0  f1291 f1292 f1293 f1294 f1295 f1296 f1297 f1298 f1299 f1300 f1301 f1302 f1303 f1304 f1305 f1306 f1307 g1201 ge_bh ge_bs ge_be ge_bp ne_bh_r0 ne_bs_r0 ne_be_r0 ne_bp_r0 ne_bh_bs ne_bh_be ne_bh_bp ne_bs_be ne_bs_bp ne_be_bp hvl2 svl2 evl2 pvl2 hm1 hm4) (W := 0) (by decide) (by decide) (by decide) (by decide) rfl (by rw [hml]; rfl) (lenOf own_pd6 rfl) rfl (by show 2 * 0 + _ ≤ _; exact Nat.le_of_eq rfl) (hb hby at_77) (fun T1473 h1475 v1476 Y1474 q1477 => ?_)
      obtain ⟨rfl, K1478, F1479, F1480, F1481, F1482, F1483, F1484, F1485, F1486, F1487, F1488, F1489, F1490, F1491, F1492, F1493, F1494, F1495⟩ := q1477
      show own_Ends _ _ _ _ (T1473.setTop (mkF m 80 #[.val (.int x0), .val (.int x1), .val (.int x2), .val (.int x3), .val (.int x4), .val (.int x5), .val (.ref b1199), .val (.ref b1243), .unset, .unset, .unset, .unset, .unset] []))
      have z1496 : n0 ≤ h1475.size := Nat.le_trans z1290 K1478.1
      have si1497 : own_Si s vm1308 h1475 := si1309.mono K1478.1
      exact hJ1310 T1473 h1475 vm1308 hZ hown si1497 (by2) ((1 : Int32)) ((0 : Int32)) (c_) (((0 : Int32) ||| ((x3.toInt8.toInt32) - (32 : Int32)))) ((0 : Int32)) ((0 : Int32)) ((hv2.set 0 (.int ((x3.toInt8.toInt32).toInt8.toInt32)))) (sv2) (ev2) (pv2) Y1474 z1496 F1479 F1480 F1481 F1482 F1483 F1484 F1485 F1486 F1487 F1488 F1489 F1490 F1491 F1492 F1493 F1494 F1495 (own_set_len hvl2) svl2 evl2 pvl2
     ·
      show own_Ends _ _ _ _ (T1287.setTop (mkF m 74 #[.val (.int x0), .val (.int x1), .val (.int x2), .val (.int x3), .val (.int x4), .val (.int x5), .val (.ref b1199), .val (.ref b1243), .unset, .unset, .unset, .unset, .unset] []))
      refine own_st (fun t_ => XS.aload (own_here Y1288) hx rfl (hb hby at_74) rfl rfl) ?_
      show own_Ends _ _ _ _ (T1287.setTop (mkF m 76 #[.val (.int x0), .val (.int x1), .val (.int x2), .val (.int x3), .val (.int x4), .val (.int x5), .val (.ref b1199), .val (.ref b1243), .unset, .unset, .unset, .unset, .unset] [(.ref b1199)]))
      refine own_st (fun t_ => XS.iloadN (own_here Y1288) hx rfl (hb hby at_76) rfl) ?_
      show own_Ends _ _ _ _ (T1287.setTop (mkF m 77 #[.val (.int x0), .val (.int x1), .val (.int x2), .val (.int x3), .val (.int x4), .val (.int x5), .val (.ref b1199), .val (.ref b1243), .unset, .unset, .unset, .unset, .unset] [(.int x3), (.ref b1199)]))
      refine own_callV Y1288 hx hZ (y := (⟨"kombos/io/FieldBytes", "append", "(I)V"⟩ : MethodName)) (z := (⟨"kombos/io/FieldBytes", "append", "(I)V"⟩ : MethodName)) hown (hw _ (List.mem_of_getElem? (i := 33) rfl)) (hw _ (List.mem_of_getElem? (i := 34) rfl)) (notFace_of_selects (args := #[]) (mvT hZ (hw _ (List.mem_of_getElem? (i := 36) rfl)))) (hw _ (List.mem_of_getElem? (i := 36) rfl)) (hw _ (List.mem_of_getElem? (i := 35) rfl)) (hw _ (List.mem_of_getElem? (i := 2) rfl)) (hw _ (List.mem_of_getElem? (i := 37) rfl)) (by decide) (a := b1199) f1291 (argsL := [(.int x3)]) (rest := []) (own_rm5_1 l Z a0 hw [] b1199 x3 bh bs be bp hv2 sv2 ev2 pv2 mx c_ by2 h1289 n0  f1291 f1292 f1293 f1294 f1295 f1296 f1297 f1298 f1299 f1300 f1301 f1302 f1303 f1304 f1305 f1306 f1307 g1201 ge_bh ge_bs ge_be ge_bp ne_bh_r0 ne_bs_r0 ne_be_r0 ne_bp_r0 ne_bh_bs ne_bh_be ne_bh_bp ne_bs_be ne_bs_bp ne_be_bp hvl2 svl2 evl2 pvl2 hm1 hm4) (W := 0) (by decide) (by decide) (by decide) (by decide) rfl (by rw [hml]; rfl) (lenOf own_pd6 rfl) rfl (by show 2 * 0 + _ ≤ _; exact Nat.le_of_eq rfl) (hb hby at_77) (fun T1498 h1500 v1501 Y1499 q1502 => ?_)
      obtain ⟨ln1521, bi1522, fu1523, hv1524, rfl, hv1524l, K1503, F1504, F1505, F1506, F1507, F1508, F1509, F1510, F1511, F1512, F1513, F1514, F1515, F1516, F1517, F1518, F1519, F1520⟩ := q1502
      show own_Ends _ _ _ _ (T1498.setTop (mkF m 80 #[.val (.int x0), .val (.int x1), .val (.int x2), .val (.int x3), .val (.int x4), .val (.int x5), .val (.ref b1199), .val (.ref b1243), .unset, .unset, .unset, .unset, .unset] []))
      have z1525 : n0 ≤ h1500.size := Nat.le_trans z1290 K1503.1
      have si1526 : own_Si s vm1308 h1500 := si1309.mono K1503.1
      exact hJ1310 T1498 h1500 vm1308 hZ hown si1526 (by2) (ln1521) ((1 : Int32)) (c_) (bi1522) ((0 : Int32)) (fu1523) (hv1524) (sv2) (ev2) (pv2) Y1499 z1525 F1504 F1505 F1506 F1507 F1508 F1509 F1510 F1511 F1512 F1513 F1514 F1515 F1516 F1517 F1518 F1519 F1520 hv1524l svl2 evl2 pvl2
   by_cases c53_1527 : (x1 &&& (2 : Int32)) = (0 : Int32)
   ·
    refine own_st (fun t_ => XS.ifYes (own_here Y1264) hx rfl (pc0 := 53) (pc' := 68) rfl (hb hby at_53) rfl (XT.i0_eq_t c53_1527) (by decide) (by decide)) ?_
    show own_Ends _ _ _ _ (T1263.setTop (mkF m 68 #[.val (.int x0), .val (.int x1), .val (.int x2), .val (.int x3), .val (.int x4), .val (.int x5), .val (.ref b1199), .val (.ref b1243), .unset, .unset, .unset, .unset, .unset] []))
    exact hJ1286 T1263 h1265 vm1284 hZ hown si1285 (by1) ((0 : Int32)) ((0 : Int32)) (hv) (sv) (ev) (pv) (own_mono Y1264 (by decide) (by decide)) z1266 f1267 f1268 f1269 f1270 f1271 f1272 f1273 f1274 f1275 f1276 f1277 f1278 f1279 f1280 f1281 f1282 f1283 hvl svl evl pvl (Or.inl rfl)
   ·
    refine own_st (fun t_ => XS.ifNo (own_here Y1264) hx rfl (hb hby at_53) rfl (XT.i0_eq_f c53_1527)) ?_
    show own_Ends _ _ _ _ (T1263.setTop (mkF m 56 #[.val (.int x0), .val (.int x1), .val (.int x2), .val (.int x3), .val (.int x4), .val (.int x5), .val (.ref b1199), .val (.ref b1243), .unset, .unset, .unset, .unset, .unset] []))
    refine own_st (fun t_ => XS.aload (own_here Y1264) hx rfl (hb hby at_56) rfl rfl) ?_
    show own_Ends _ _ _ _ (T1263.setTop (mkF m 58 #[.val (.int x0), .val (.int x1), .val (.int x2), .val (.int x3), .val (.int x4), .val (.int x5), .val (.ref b1199), .val (.ref b1243), .unset, .unset, .unset, .unset, .unset] [(.ref b1199)]))
    refine own_st (fun t_ => XS.iloadN (own_here Y1264) hx rfl (hb hby at_58) rfl) ?_
    show own_Ends _ _ _ _ (T1263.setTop (mkF m 59 #[.val (.int x0), .val (.int x1), .val (.int x2), .val (.int x3), .val (.int x4), .val (.int x5), .val (.ref b1199), .val (.ref b1243), .unset, .unset, .unset, .unset, .unset] [(.int x2), (.ref b1199)]))
    refine own_callV Y1264 hx hZ (y := (⟨"kombos/io/FieldBytes", "append", "(I)V"⟩ : MethodName)) (z := (⟨"kombos/io/FieldBytes", "append", "(I)V"⟩ : MethodName)) hown (hw _ (List.mem_of_getElem? (i := 33) rfl)) (hw _ (List.mem_of_getElem? (i := 34) rfl)) (notFace_of_selects (args := #[]) (mvT hZ (hw _ (List.mem_of_getElem? (i := 36) rfl)))) (hw _ (List.mem_of_getElem? (i := 36) rfl)) (hw _ (List.mem_of_getElem? (i := 35) rfl)) (hw _ (List.mem_of_getElem? (i := 2) rfl)) (hw _ (List.mem_of_getElem? (i := 37) rfl)) (by decide) (a := b1199) f1267 (argsL := [(.int x2)]) (rest := []) (own_rm5_0 l Z a0 hw [] b1199 x2 bh bs be bp hv sv ev pv mx (0 : Int32) by1 h1265 n0  f1267 f1268 f1269 f1270 f1271 f1272 f1273 f1274 f1275 f1276 f1277 f1278 f1279 f1280 f1281 f1282 f1283 g1201 ge_bh ge_bs ge_be ge_bp ne_bh_r0 ne_bs_r0 ne_be_r0 ne_bp_r0 ne_bh_bs ne_bh_be ne_bh_bp ne_bs_be ne_bs_bp ne_be_bp hvl svl evl pvl hm1 hm4) (W := 0) (by decide) (by decide) (by decide) (by decide) rfl (by rw [hml]; rfl) (lenOf own_pd6 rfl) rfl (by show 2 * 0 + _ ≤ _; exact Nat.le_of_eq rfl) (hb hby at_59) (fun T1528 h1530 v1531 Y1529 q1532 => ?_)
    obtain ⟨rfl, K1533, F1534, F1535, F1536, F1537, F1538, F1539, F1540, F1541, F1542, F1543, F1544, F1545, F1546, F1547, F1548, F1549, F1550⟩ := q1532
    show own_Ends _ _ _ _ (T1528.setTop (mkF m 62 #[.val (.int x0), .val (.int x1), .val (.int x2), .val (.int x3), .val (.int x4), .val (.int x5), .val (.ref b1199), .val (.ref b1243), .unset, .unset, .unset, .unset, .unset] []))
    refine own_st (fun t_ => XS.aload (own_here Y1529) hx rfl (hb hby at_62) rfl rfl) ?_
    show own_Ends _ _ _ _ (T1528.setTop (mkF m 64 #[.val (.int x0), .val (.int x1), .val (.int x2), .val (.int x3), .val (.int x4), .val (.int x5), .val (.ref b1199), .val (.ref b1243), .unset, .unset, .unset, .unset, .unset] [(.ref b1199)]))
    have si1558 : own_Si s vm1284 h1530 := si1285.mono K1533.1
    refine own_callVW Y1529 si1558 hx hZ (y := (⟨"kombos/io/FieldBytes", "endField", "()Ljava/lang/String;"⟩ : MethodName)) (z := (⟨"kombos/io/FieldBytes", "endField", "()Ljava/lang/String;"⟩ : MethodName)) hown (hw _ (List.mem_of_getElem? (i := 51) rfl)) (hw _ (List.mem_of_getElem? (i := 52) rfl)) (notFace_of_selects (args := #[]) (mvT hZ (hw _ (List.mem_of_getElem? (i := 54) rfl)))) (hw _ (List.mem_of_getElem? (i := 54) rfl)) (hw _ (List.mem_of_getElem? (i := 53) rfl)) (hw _ (List.mem_of_getElem? (i := 2) rfl)) (hw _ (List.mem_of_getElem? (i := 55) rfl)) (by decide) (a := b1199) F1534 (argsL := []) (rest := []) (own_rm8 l Z a0 hw [] b1199 bh bs be bp (hv.set 0 (.int ((x2.toInt8.toInt32).toInt8.toInt32))) sv ev pv mx ((0 : Int32) ||| ((x2.toInt8.toInt32) - (32 : Int32))) ((x2.toInt8.toInt32).toInt8.toInt32) by1 h1530 n0  F1534 F1535 F1536 F1537 F1538 F1539 F1540 F1541 F1542 F1543 F1544 F1545 F1546 F1547 F1548 F1549 F1550 g1201 ge_bh ge_bs ge_be ge_bp ne_bh_r0 ne_bs_r0 ne_be_r0 ne_bp_r0 ne_bh_bs ne_bh_be ne_bh_bp ne_bs_be ne_bs_bp ne_be_bp (own_set_len hvl) svl evl pvl (own_set0 hvl) (by have q := c_i2b (x2.toInt8.toInt32); omega) (by rw [own_bb]; exact own_bits _ (by have q := c_i2b x2; omega))) (W := 0) (by decide) (by decide) (by decide) (by decide) rfl (by rw [hml]; rfl) (lenOf own_pd7 rfl) rfl (by show 2 * 0 + _ ≤ _; exact Nat.le_of_eq rfl) (hb hby at_64) (fun T1551 h1553 v1554 vm1556 Y1552 si1557 hZ' hown' gr1559 q1555 => ?_)
    replace hZ := hZ'; replace hown := hown'
    obtain ⟨rv1578, L1579, rfl, K1560, F1561, F1562, F1563, F1564, F1565, F1566, F1567, F1568, F1569, F1570, F1571, F1572, F1573, F1574, F1575, F1576, F1577, H1580⟩ := q1555
    show own_Ends _ _ _ _ (T1551.setTop (mkF m 67 #[.val (.int x0), .val (.int x1), .val (.int x2), .val (.int x3), .val (.int x4), .val (.int x5), .val (.ref b1199), .val (.ref b1243), .unset, .unset, .unset, .unset, .unset] [rv1578]))
    rcases H1580 with ⟨hw1, rfl, rfl⟩ | ⟨hw1, ⟨ra, rfl⟩, rfl⟩
    ·
     show own_Ends _ _ _ _ (T1551.setTop (mkF m 67 #[.val (.int x0), .val (.int x1), .val (.int x2), .val (.int x3), .val (.int x4), .val (.int x5), .val (.ref b1199), .val (.ref b1243), .unset, .unset, .unset, .unset, .unset] [.null]))
     refine own_st (fun t_ => XS.pop (own_here Y1552) hx rfl (hb hby at_67) rfl rfl) ?_
     show own_Ends _ _ _ _ (T1551.setTop (mkF m 68 #[.val (.int x0), .val (.int x1), .val (.int x2), .val (.int x3), .val (.int x4), .val (.int x5), .val (.ref b1199), .val (.ref b1243), .unset, .unset, .unset, .unset, .unset] []))
     have z1581 : n0 ≤ h1530.size := Nat.le_trans z1266 K1533.1
     have z1582 : n0 ≤ h1553.size := Nat.le_trans z1581 K1560.1
     exact hJ1286 T1551 h1553 vm1556 hZ hown si1557 (by1) ((1 : Int32)) ((1 : Int32)) ((hv.set 0 (.int ((x2.toInt8.toInt32).toInt8.toInt32)))) ((sv.set 0 (.int 0))) ((ev.set 0 (.int (1 : Int32)))) ((pv.set 0 (.int ((0 : Int32) ||| ((x2.toInt8.toInt32) - (32 : Int32)))))) Y1552 z1582 F1561 F1562 F1563 F1564 F1565 F1566 F1567 F1568 F1569 F1570 F1571 F1572 F1573 F1574 F1575 F1576 F1577 (own_set_len hvl) (own_set_len svl) (own_set_len evl) (own_set_len pvl) (Or.inr rfl)
    ·
     show own_Ends _ _ _ _ (T1551.setTop (mkF m 67 #[.val (.int x0), .val (.int x1), .val (.int x2), .val (.int x3), .val (.int x4), .val (.int x5), .val (.ref b1199), .val (.ref b1243), .unset, .unset, .unset, .unset, .unset] [(.ref ra)]))
     refine own_st (fun t_ => XS.pop (own_here Y1552) hx rfl (hb hby at_67) rfl rfl) ?_
     show own_Ends _ _ _ _ (T1551.setTop (mkF m 68 #[.val (.int x0), .val (.int x1), .val (.int x2), .val (.int x3), .val (.int x4), .val (.int x5), .val (.ref b1199), .val (.ref b1243), .unset, .unset, .unset, .unset, .unset] []))
     have z1583 : n0 ≤ h1530.size := Nat.le_trans z1266 K1533.1
     have z1584 : n0 ≤ h1553.size := Nat.le_trans z1583 K1560.1
     exact hJ1286 T1551 h1553 vm1556 hZ hown si1557 (by1) ((0 : Int32)) ((1 : Int32)) ((hv.set 0 (.int ((x2.toInt8.toInt32).toInt8.toInt32)))) ((sv.set 0 (.int 0))) ((ev.set 0 (.int (0 : Int32)))) ((pv.set 0 (.int ((0 : Int32) ||| ((x2.toInt8.toInt32) - (32 : Int32)))))) Y1552 z1584 F1561 F1562 F1563 F1564 F1565 F1566 F1567 F1568 F1569 F1570 F1571 F1572 F1573 F1574 F1575 F1576 F1577 (own_set_len hvl) (own_set_len svl) (own_set_len evl) (own_set_len pvl) (Or.inl rfl)
  by_cases c39_1585 : (x1 &&& (1 : Int32)) = (0 : Int32)
  ·
   refine own_st (fun t_ => XS.ifYes (own_here Y1258) hx rfl (pc0 := 39) (pc' := 50) rfl (hb hby at_39) rfl (XT.i0_eq_t c39_1585) (by decide) (by decide)) ?_
   show own_Ends _ _ _ _ (T1257.setTop (mkF m 50 #[.val (.int x0), .val (.int x1), .val (.int x2), .val (.int x3), .val (.int x4), .val (.int x5), .val (.ref b1199), .val (.ref b1243), .unset, .unset, .unset, .unset, .unset] []))
   have z1586 : n0 ≤ h1240.size := Nat.le_trans z1251 E1241.1
   have z1587 : n0 ≤ h1254.size := Nat.le_trans z1586 (Nat.le_of_eq W1255.size.symm)
   have z1588 : n0 ≤ h1259.size := Nat.le_trans z1587 (Nat.le_of_eq W1260.size.symm)
   have f1589 : Exa Z h1240 b1199 "kombos/io/FieldBytes" := F1221.ext E1241
   have f1590 : Exa Z h1254 b1199 "kombos/io/FieldBytes" := f1589.wr W1255
   have f1591 : Exa Z h1259 b1199 "kombos/io/FieldBytes" := f1590.wr W1260
   have f1592 : Fld Z h1240 b1199 "kombos/io/FieldBytes" "maxRecordLength" "I" (.int mx) := F1222.ext E1241
   have f1593 : Fld Z h1254 b1199 "kombos/io/FieldBytes" "maxRecordLength" "I" (.int mx) := f1592.other W1255 (Or.inl ne1245)
   have f1594 : Fld Z h1259 b1199 "kombos/io/FieldBytes" "maxRecordLength" "I" (.int mx) := f1593.other W1260 (Or.inl ne1245)
   have f1595 : Fld Z h1240 b1199 "kombos/io/FieldBytes" "length" "I" (.int (0 : Int32)) := F1223.ext E1241
   have f1596 : Fld Z h1254 b1199 "kombos/io/FieldBytes" "length" "I" (.int (0 : Int32)) := f1595.other W1255 (Or.inl ne1245)
   have f1597 : Fld Z h1259 b1199 "kombos/io/FieldBytes" "length" "I" (.int (0 : Int32)) := f1596.other W1260 (Or.inl ne1245)
   have f1598 : Fld Z h1240 b1199 "kombos/io/FieldBytes" "start" "I" (.int (0 : Int32)) := F1224.ext E1241
   have f1599 : Fld Z h1254 b1199 "kombos/io/FieldBytes" "start" "I" (.int (0 : Int32)) := f1598.other W1255 (Or.inl ne1245)
   have f1600 : Fld Z h1259 b1199 "kombos/io/FieldBytes" "start" "I" (.int (0 : Int32)) := f1599.other W1260 (Or.inl ne1245)
   have f1601 : Fld Z h1240 b1199 "kombos/io/FieldBytes" "count" "I" (.int (0 : Int32)) := F1225.ext E1241
   have f1602 : Fld Z h1254 b1199 "kombos/io/FieldBytes" "count" "I" (.int (0 : Int32)) := f1601.other W1255 (Or.inl ne1245)
   have f1603 : Fld Z h1259 b1199 "kombos/io/FieldBytes" "count" "I" (.int (0 : Int32)) := f1602.other W1260 (Or.inl ne1245)
   have f1604 : Fld Z h1240 b1199 "kombos/io/FieldBytes" "bits" "I" (.int (0 : Int32)) := F1226.ext E1241
   have f1605 : Fld Z h1254 b1199 "kombos/io/FieldBytes" "bits" "I" (.int (0 : Int32)) := f1604.other W1255 (Or.inl ne1245)
   have f1606 : Fld Z h1259 b1199 "kombos/io/FieldBytes" "bits" "I" (.int (0 : Int32)) := f1605.other W1260 (Or.inl ne1245)
   have f1607 : Fld Z h1240 b1199 "kombos/io/FieldBytes" "tooLong" "Z" (.int (0 : Int32)) := F1227.ext E1241
   have f1608 : Fld Z h1254 b1199 "kombos/io/FieldBytes" "tooLong" "Z" (.int (0 : Int32)) := f1607.other W1255 (Or.inl ne1245)
   have f1609 : Fld Z h1259 b1199 "kombos/io/FieldBytes" "tooLong" "Z" (.int (0 : Int32)) := f1608.other W1260 (Or.inl ne1245)
   have f1610 : Fld Z h1240 b1199 "kombos/io/FieldBytes" "full" "Z" (.int (0 : Int32)) := F1228.ext E1241
   have f1611 : Fld Z h1254 b1199 "kombos/io/FieldBytes" "full" "Z" (.int (0 : Int32)) := f1610.other W1255 (Or.inl ne1245)
   have f1612 : Fld Z h1259 b1199 "kombos/io/FieldBytes" "full" "Z" (.int (0 : Int32)) := f1611.other W1260 (Or.inl ne1245)
   have f1613 : Fld Z h1240 b1199 "kombos/io/FieldBytes" "held" "[B" (.ref bh) := F1229.ext E1241
   have f1614 : Fld Z h1254 b1199 "kombos/io/FieldBytes" "held" "[B" (.ref bh) := f1613.other W1255 (Or.inl ne1245)
   have f1615 : Fld Z h1259 b1199 "kombos/io/FieldBytes" "held" "[B" (.ref bh) := f1614.other W1260 (Or.inl ne1245)
   have f1616 : Fld Z h1240 b1199 "kombos/io/FieldBytes" "bytes" "[B" (.ref bh) := F1230.ext E1241
   have f1617 : Fld Z h1254 b1199 "kombos/io/FieldBytes" "bytes" "[B" (.ref bh) := f1616.other W1255 (Or.inl ne1245)
   have f1618 : Fld Z h1259 b1199 "kombos/io/FieldBytes" "bytes" "[B" (.ref bh) := f1617.other W1260 (Or.inl ne1245)
   have f1619 : Fld Z h1240 b1199 "kombos/io/FieldBytes" "starts" "[I" (.ref bs) := F1231.ext E1241
   have f1620 : Fld Z h1254 b1199 "kombos/io/FieldBytes" "starts" "[I" (.ref bs) := f1619.other W1255 (Or.inl ne1245)
   have f1621 : Fld Z h1259 b1199 "kombos/io/FieldBytes" "starts" "[I" (.ref bs) := f1620.other W1260 (Or.inl ne1245)
   have f1622 : Fld Z h1240 b1199 "kombos/io/FieldBytes" "ends" "[I" (.ref be) := F1232.ext E1241
   have f1623 : Fld Z h1254 b1199 "kombos/io/FieldBytes" "ends" "[I" (.ref be) := f1622.other W1255 (Or.inl ne1245)
   have f1624 : Fld Z h1259 b1199 "kombos/io/FieldBytes" "ends" "[I" (.ref be) := f1623.other W1260 (Or.inl ne1245)
   have f1625 : Fld Z h1240 b1199 "kombos/io/FieldBytes" "plain" "[I" (.ref bp) := F1233.ext E1241
   have f1626 : Fld Z h1254 b1199 "kombos/io/FieldBytes" "plain" "[I" (.ref bp) := f1625.other W1255 (Or.inl ne1245)
   have f1627 : Fld Z h1259 b1199 "kombos/io/FieldBytes" "plain" "[I" (.ref bp) := f1626.other W1260 (Or.inl ne1245)
   have f1628 : own_A Z h1240 bh .byte hv := F1234.ext E1241
   have f1629 : own_A Z h1254 bh .byte hv := f1628.other W1255 ne1246
   have f1630 : own_A Z h1259 bh .byte hv := f1629.other W1260 ne1246
   have f1631 : own_A Z h1240 bs .int sv := F1235.ext E1241
   have f1632 : own_A Z h1254 bs .int sv := f1631.other W1255 ne1247
   have f1633 : own_A Z h1259 bs .int sv := f1632.other W1260 ne1247
   have f1634 : own_A Z h1240 be .int ev := F1236.ext E1241
   have f1635 : own_A Z h1254 be .int ev := f1634.other W1255 ne1248
   have f1636 : own_A Z h1259 be .int ev := f1635.other W1260 ne1248
   have f1637 : own_A Z h1240 bp .int pv := F1237.ext E1241
   have f1638 : own_A Z h1254 bp .int pv := f1637.other W1255 ne1249
   have f1639 : own_A Z h1259 bp .int pv := f1638.other W1260 ne1249
   have si1640 : own_Si s s.vm h1195 := hSi.mono E1196.1
   have si1641 : own_Si s s.vm h1217 := si1640.mono K1220.1
   have si1642 : own_Si s s.vm h1240 := si1641.mono E1241.1
   have si1643 : own_Si s s.vm h1254 := si1642.mono (Nat.le_of_eq W1255.size.symm)
   have si1644 : own_Si s s.vm h1259 := si1643.mono (Nat.le_of_eq W1260.size.symm)
   exact hJ1262 T1257 h1259 s.vm hZ hown si1644 (bh) Y1258 z1588 f1591 f1594 f1597 f1600 f1603 f1606 f1609 f1612 f1615 f1618 f1621 f1624 f1627 f1630 f1633 f1636 f1639 
  ·
   refine own_st (fun t_ => XS.ifNo (own_here Y1258) hx rfl (hb hby at_39) rfl (XT.i0_eq_f c39_1585)) ?_
   show own_Ends _ _ _ _ (T1257.setTop (mkF m 42 #[.val (.int x0), .val (.int x1), .val (.int x2), .val (.int x3), .val (.int x4), .val (.int x5), .val (.ref b1199), .val (.ref b1243), .unset, .unset, .unset, .unset, .unset] []))
   refine own_st (fun t_ => XS.aload (own_here Y1258) hx rfl (hb hby at_42) rfl rfl) ?_
   show own_Ends _ _ _ _ (T1257.setTop (mkF m 44 #[.val (.int x0), .val (.int x1), .val (.int x2), .val (.int x3), .val (.int x4), .val (.int x5), .val (.ref b1199), .val (.ref b1243), .unset, .unset, .unset, .unset, .unset] [(.ref b1199)]))
   refine own_st (fun t_ => XS.aload (own_here Y1258) hx rfl (hb hby at_44) rfl rfl) ?_
   show own_Ends _ _ _ _ (T1257.setTop (mkF m 46 #[.val (.int x0), .val (.int x1), .val (.int x2), .val (.int x3), .val (.int x4), .val (.int x5), .val (.ref b1199), .val (.ref b1243), .unset, .unset, .unset, .unset, .unset] [(.ref b1243), (.ref b1199)]))
   have f1645 : Exa Z h1240 b1199 "kombos/io/FieldBytes" := F1221.ext E1241
   have f1646 : Exa Z h1254 b1199 "kombos/io/FieldBytes" := f1645.wr W1255
   have f1647 : Exa Z h1259 b1199 "kombos/io/FieldBytes" := f1646.wr W1260
   have f1648 : Fld Z h1240 b1199 "kombos/io/FieldBytes" "maxRecordLength" "I" (.int mx) := F1222.ext E1241
   have f1649 : Fld Z h1254 b1199 "kombos/io/FieldBytes" "maxRecordLength" "I" (.int mx) := f1648.other W1255 (Or.inl ne1245)
   have f1650 : Fld Z h1259 b1199 "kombos/io/FieldBytes" "maxRecordLength" "I" (.int mx) := f1649.other W1260 (Or.inl ne1245)
   have f1651 : Fld Z h1240 b1199 "kombos/io/FieldBytes" "length" "I" (.int (0 : Int32)) := F1223.ext E1241
   have f1652 : Fld Z h1254 b1199 "kombos/io/FieldBytes" "length" "I" (.int (0 : Int32)) := f1651.other W1255 (Or.inl ne1245)
   have f1653 : Fld Z h1259 b1199 "kombos/io/FieldBytes" "length" "I" (.int (0 : Int32)) := f1652.other W1260 (Or.inl ne1245)
   have f1654 : Fld Z h1240 b1199 "kombos/io/FieldBytes" "start" "I" (.int (0 : Int32)) := F1224.ext E1241
   have f1655 : Fld Z h1254 b1199 "kombos/io/FieldBytes" "start" "I" (.int (0 : Int32)) := f1654.other W1255 (Or.inl ne1245)
   have f1656 : Fld Z h1259 b1199 "kombos/io/FieldBytes" "start" "I" (.int (0 : Int32)) := f1655.other W1260 (Or.inl ne1245)
   have f1657 : Fld Z h1240 b1199 "kombos/io/FieldBytes" "count" "I" (.int (0 : Int32)) := F1225.ext E1241
   have f1658 : Fld Z h1254 b1199 "kombos/io/FieldBytes" "count" "I" (.int (0 : Int32)) := f1657.other W1255 (Or.inl ne1245)
   have f1659 : Fld Z h1259 b1199 "kombos/io/FieldBytes" "count" "I" (.int (0 : Int32)) := f1658.other W1260 (Or.inl ne1245)
   have f1660 : Fld Z h1240 b1199 "kombos/io/FieldBytes" "bits" "I" (.int (0 : Int32)) := F1226.ext E1241
   have f1661 : Fld Z h1254 b1199 "kombos/io/FieldBytes" "bits" "I" (.int (0 : Int32)) := f1660.other W1255 (Or.inl ne1245)
   have f1662 : Fld Z h1259 b1199 "kombos/io/FieldBytes" "bits" "I" (.int (0 : Int32)) := f1661.other W1260 (Or.inl ne1245)
   have f1663 : Fld Z h1240 b1199 "kombos/io/FieldBytes" "tooLong" "Z" (.int (0 : Int32)) := F1227.ext E1241
   have f1664 : Fld Z h1254 b1199 "kombos/io/FieldBytes" "tooLong" "Z" (.int (0 : Int32)) := f1663.other W1255 (Or.inl ne1245)
   have f1665 : Fld Z h1259 b1199 "kombos/io/FieldBytes" "tooLong" "Z" (.int (0 : Int32)) := f1664.other W1260 (Or.inl ne1245)
   have f1666 : Fld Z h1240 b1199 "kombos/io/FieldBytes" "full" "Z" (.int (0 : Int32)) := F1228.ext E1241
   have f1667 : Fld Z h1254 b1199 "kombos/io/FieldBytes" "full" "Z" (.int (0 : Int32)) := f1666.other W1255 (Or.inl ne1245)
   have f1668 : Fld Z h1259 b1199 "kombos/io/FieldBytes" "full" "Z" (.int (0 : Int32)) := f1667.other W1260 (Or.inl ne1245)
   have f1669 : Fld Z h1240 b1199 "kombos/io/FieldBytes" "held" "[B" (.ref bh) := F1229.ext E1241
   have f1670 : Fld Z h1254 b1199 "kombos/io/FieldBytes" "held" "[B" (.ref bh) := f1669.other W1255 (Or.inl ne1245)
   have f1671 : Fld Z h1259 b1199 "kombos/io/FieldBytes" "held" "[B" (.ref bh) := f1670.other W1260 (Or.inl ne1245)
   have f1672 : Fld Z h1240 b1199 "kombos/io/FieldBytes" "bytes" "[B" (.ref bh) := F1230.ext E1241
   have f1673 : Fld Z h1254 b1199 "kombos/io/FieldBytes" "bytes" "[B" (.ref bh) := f1672.other W1255 (Or.inl ne1245)
   have f1674 : Fld Z h1259 b1199 "kombos/io/FieldBytes" "bytes" "[B" (.ref bh) := f1673.other W1260 (Or.inl ne1245)
   have f1675 : Fld Z h1240 b1199 "kombos/io/FieldBytes" "starts" "[I" (.ref bs) := F1231.ext E1241
   have f1676 : Fld Z h1254 b1199 "kombos/io/FieldBytes" "starts" "[I" (.ref bs) := f1675.other W1255 (Or.inl ne1245)
   have f1677 : Fld Z h1259 b1199 "kombos/io/FieldBytes" "starts" "[I" (.ref bs) := f1676.other W1260 (Or.inl ne1245)
   have f1678 : Fld Z h1240 b1199 "kombos/io/FieldBytes" "ends" "[I" (.ref be) := F1232.ext E1241
   have f1679 : Fld Z h1254 b1199 "kombos/io/FieldBytes" "ends" "[I" (.ref be) := f1678.other W1255 (Or.inl ne1245)
   have f1680 : Fld Z h1259 b1199 "kombos/io/FieldBytes" "ends" "[I" (.ref be) := f1679.other W1260 (Or.inl ne1245)
   have f1681 : Fld Z h1240 b1199 "kombos/io/FieldBytes" "plain" "[I" (.ref bp) := F1233.ext E1241
   have f1682 : Fld Z h1254 b1199 "kombos/io/FieldBytes" "plain" "[I" (.ref bp) := f1681.other W1255 (Or.inl ne1245)
   have f1683 : Fld Z h1259 b1199 "kombos/io/FieldBytes" "plain" "[I" (.ref bp) := f1682.other W1260 (Or.inl ne1245)
   have f1684 : own_A Z h1240 bh .byte hv := F1234.ext E1241
   have f1685 : own_A Z h1254 bh .byte hv := f1684.other W1255 ne1246
   have f1686 : own_A Z h1259 bh .byte hv := f1685.other W1260 ne1246
   have f1687 : own_A Z h1240 bs .int sv := F1235.ext E1241
   have f1688 : own_A Z h1254 bs .int sv := f1687.other W1255 ne1247
   have f1689 : own_A Z h1259 bs .int sv := f1688.other W1260 ne1247
   have f1690 : own_A Z h1240 be .int ev := F1236.ext E1241
   have f1691 : own_A Z h1254 be .int ev := f1690.other W1255 ne1248
   have f1692 : own_A Z h1259 be .int ev := f1691.other W1260 ne1248
   have f1693 : own_A Z h1240 bp .int pv := F1237.ext E1241
   have f1694 : own_A Z h1254 bp .int pv := f1693.other W1255 ne1249
   have f1695 : own_A Z h1259 bp .int pv := f1694.other W1260 ne1249
   refine own_callV Y1258 hx hZ (y := (⟨"kombos/io/FieldBytes", "startInPlace", "([B)Z"⟩ : MethodName)) (z := (⟨"kombos/io/FieldBytes", "startInPlace", "([B)Z"⟩ : MethodName)) hown (hw _ (List.mem_of_getElem? (i := 23) rfl)) (hw _ (List.mem_of_getElem? (i := 24) rfl)) (notFace_of_selects (args := #[]) (mvT hZ (hw _ (List.mem_of_getElem? (i := 26) rfl)))) (hw _ (List.mem_of_getElem? (i := 26) rfl)) (hw _ (List.mem_of_getElem? (i := 25) rfl)) (hw _ (List.mem_of_getElem? (i := 2) rfl)) (hw _ (List.mem_of_getElem? (i := 27) rfl)) (by decide) (a := b1199) f1647 (argsL := [(.ref b1243)]) (rest := []) (own_rm3 l Z a0 hw [] b1199 b1243 bh bs be bp hv sv ev pv mx ((x4.toInt8.toInt32).toInt8.toInt32) (((x4 >>> ((8 : Int32) &&& 31)).toInt8.toInt32).toInt8.toInt32) h1259 n0  f1647 f1650 f1653 f1656 f1659 f1662 f1665 f1668 f1671 f1674 f1677 f1680 f1683 f1686 f1689 f1692 f1695 g1201 ge_bh ge_bs ge_be ge_bp ne_bh_r0 ne_bs_r0 ne_be_r0 ne_bp_r0 ne_bh_bs ne_bh_be ne_bh_bp ne_bs_be ne_bs_bp ne_be_bp hvl svl evl pvl A1261 (Ne.symm ne1245)) (W := 0) (by decide) (by decide) (by decide) (by decide) rfl (by rw [hml]; rfl) (lenOf own_pd11 rfl) rfl (by show 2 * 0 + _ ≤ _; exact Nat.le_of_eq rfl) (hb hby at_46) (fun T1696 h1698 v1699 Y1697 q1700 => ?_)
   obtain ⟨zr, by2, rfl, K1701, F1702, F1703, F1704, F1705, F1706, F1707, F1708, F1709, F1710, F1711, F1712, F1713, F1714, F1715, F1716, F1717, F1718⟩ := q1700
   show own_Ends _ _ _ _ (T1696.setTop (mkF m 49 #[.val (.int x0), .val (.int x1), .val (.int x2), .val (.int x3), .val (.int x4), .val (.int x5), .val (.ref b1199), .val (.ref b1243), .unset, .unset, .unset, .unset, .unset] [(.int zr)]))
   refine own_st (fun t_ => XS.pop (own_here Y1697) hx rfl (hb hby at_49) rfl rfl) ?_
   show own_Ends _ _ _ _ (T1696.setTop (mkF m 50 #[.val (.int x0), .val (.int x1), .val (.int x2), .val (.int x3), .val (.int x4), .val (.int x5), .val (.ref b1199), .val (.ref b1243), .unset, .unset, .unset, .unset, .unset] []))
   have z1719 : n0 ≤ h1240.size := Nat.le_trans z1251 E1241.1
   have z1720 : n0 ≤ h1254.size := Nat.le_trans z1719 (Nat.le_of_eq W1255.size.symm)
   have z1721 : n0 ≤ h1259.size := Nat.le_trans z1720 (Nat.le_of_eq W1260.size.symm)
   have z1722 : n0 ≤ h1698.size := Nat.le_trans z1721 K1701.1
   have si1723 : own_Si s s.vm h1195 := hSi.mono E1196.1
   have si1724 : own_Si s s.vm h1217 := si1723.mono K1220.1
   have si1725 : own_Si s s.vm h1240 := si1724.mono E1241.1
   have si1726 : own_Si s s.vm h1254 := si1725.mono (Nat.le_of_eq W1255.size.symm)
   have si1727 : own_Si s s.vm h1259 := si1726.mono (Nat.le_of_eq W1260.size.symm)
   have si1728 : own_Si s s.vm h1698 := si1727.mono K1701.1
   exact hJ1262 T1696 h1698 s.vm hZ hown si1728 (by2) Y1697 z1722 F1702 F1703 F1704 F1705 F1706 F1707 F1708 F1709 F1710 F1711 F1712 F1713 F1714 F1715 F1716 F1717 F1718 
set_option maxRecDepth 65536 in
set_option maxHeartbeats 40000000 in
theorem own_comes_1 {Post : Tables → Env → Array Value → State → Outcome → State → Prop} (hpost : ∀ tb e args s v u, (limb_1_1.after args s (.returned v) u = true ∧ limb_1_2.after args s (.returned v) u = true ∧ True) → ReturnedEndW s (.returned v) u (Jvm.fieldLocs frame_1_writes args s ++ Jvm.arrayLocs frame_1_arrays args s ++ Jvm.staticLocs frame_1_statics s) 24 1344 → Post tb e args s (.returned v) u) :
    ArmFor flags0 classFile x code maxLocals ret World_1 tables_1 room_1 Calls_1 rest_1 Pre_1 Post := by
  intro l hfl _ _ p e ha hc hk s m args below hf hA hF happ hP
  obtain ⟨hcalls, hrest, hpre⟩ := hP
  obtain ⟨-, -, -, hnamed, -, -, -, hat⟩ := (Spec.applies_iff hf).mp happ
  obtain ⟨hg, hn⟩ := and_e (Cond.before_iff.mp (show (Jvm.Cond.and given_1 narrow_1).before args s = true from hpre))
  obtain ⟨g1, g2⟩ := and_e hg
  obtain ⟨g3, g4⟩ := and_e g2
  obtain ⟨g5, g6⟩ := and_e g4
  obtain ⟨g7, g8⟩ := and_e g6
  obtain ⟨g9, g10⟩ := and_e g8
  obtain ⟨g11, g12⟩ := and_e g10
  obtain ⟨w0, w1, w2, w3, w4, w5, rfl⟩ : ∃ w0 w1 w2 w3 w4 w5 : Value, args = #[w0, w1, w2, w3, w4, w5] := by
    have hs : args.size = 6 := by simpa [Cond.value, given_1] using g1
    obtain ⟨L⟩ := args
    match L, hs with
    | [w0, w1, w2, w3, w4, w5], _ => exact ⟨w0, w1, w2, w3, w4, w5, rfl⟩
  have hw := fun d (hd : d ∈ tables_1) => atoms_spec (ws := Jvm.Cond.code x code maxLocals ret :: tables_1) hat d (List.mem_cons_of_mem _ hd)
  have hfit : Fit s := fun {y c} hc i hi => by
    obtain ⟨ha, rfl⟩ := Array.getElem?_eq_some_iff.mp hc
    have q := List.all_eq_true.mp ((Array.all_eq_true_iff_forall_mem.mp hF) _ (Array.getElem_mem ha)) i (List.mem_range.mpr hi)
    simpa [Array.getElem?_eq_getElem hi] using q
  obtain ⟨i0, ei0⟩ := is_v g3
  obtain rfl : w0 = (.int i0) := Option.some.inj ei0
  obtain ⟨i1, ei1⟩ := is_v g5
  obtain rfl : w1 = (.int i1) := Option.some.inj ei1
  obtain ⟨i2, ei2⟩ := is_v g7
  obtain rfl : w2 = (.int i2) := Option.some.inj ei2
  obtain ⟨i3, ei3⟩ := is_v g9
  obtain rfl : w3 = (.int i3) := Option.some.inj ei3
  obtain ⟨i4, ei4⟩ := is_v g11
  obtain rfl : w4 = (.int i4) := Option.some.inj ei4
  obtain ⟨i5, ei5⟩ := is_v g12
  obtain rfl : w5 = (.int i5) := Option.some.inj ei5
  obtain ⟨n, o, h1, h2, h3, _, L, rfl, ⟨N, rfl⟩, hq⟩ := own_rm0 l s _ hw tables_1 i0 i1 i2 i3 i4 i5  s.heap s.heap.size (Nat.le_refl _)  p e ha hc hk s m _ below hf ((Spec.applies_iff_loose hf).mp happ).1 ⟨rfl, State.Warmed39.refl s, rfl⟩ trivial
  refine ⟨n, _, h1, h2, h3, hpost _ _ _ _ _ _ ⟨Cond.after_iff.mpr rfl, Cond.after_iff.mpr (eq_i res_at (Term.int_eval (1)) rfl), trivial⟩ ⟨hq.1, hq.2.1, hq.2.2.1, (hq.2.2.2.sift fun y hy => Or.inr (N y hy)).mono (by decide) (by decide)⟩⟩
theorem main_1_1 : Claimed_1_1 := own_comes_1 fun _ _ _ _ _ _ h hF => ⟨h.1, hF⟩
theorem main_1_2 : Claimed_1_2 := own_comes_1 fun _ _ _ _ _ _ h hF => ⟨h.2.1, hF⟩
end Jvm.Pilot.@@N@@
namespace Jvm.Pilot.@@N@@
open Jvm Jvm.ClassFile Sem Op Lib Jvm.Free Jvm.Stand Jvm.Pilot.@@N@@.Jvm.D
/-! MADE BY PROGRAM (witnessworld.py) out of the Statement's table words and the real class files: 16 classes; the members and pool entries that the words name. The judged class is class 1, her method 1. -/
namespace start1
open Jvm.ClassFile
def u (s : String) : CpInfo := .utf8 (stringToUtf16 s)
/-- a pool by its gaps: so many unusable entries, then the entry; so many at the end -/
def gap : Nat → List CpInfo → List CpInfo
  | 0, r => r
  | n + 1, r => .unusable :: gap n r
def poolList (es : List (Nat × CpInfo)) (last : Nat) : List CpInfo := es.foldr (fun e r => gap e.1 (e.2 :: r)) (gap last [])
def pool (es : List (Nat × CpInfo)) (last : Nat) : Array CpInfo := ⟨poolList es last⟩
def fileOf (pool : Array CpInfo) (this : Nat) (attrs : Array Attribute := #[]) (ms : Array MethodInfo := #[]) (fl : Nat := 33) (sup : Nat := 0) (ifs : Array Nat := #[]) (fds : Array FieldInfo := #[]) : ClassFile where
  minorVersion := 0
  majorVersion := 65
  constantPool := pool
  accessFlags := fl
  thisClass := this
  superClass := sup
  interfaces := ifs
  fields := fds
  methods := ms
  attributes := attrs
def plain (name : String) (sup : Option ClassId) : Class where
  name := name
  kind := .ordinary
  loader := none
  accessFlags := 33
  super := sup
  interfaces := #[]
  cf := none
  fields := #[]
  methods := #[]
  instanceTypes := #[]
  staticTypes := #[]
  resolved := #[]
  callSites := []
  init := .initialized
  statics := none
  mirror := none

def pool0 : Array CpInfo := pool [(5, u "<init>"), (0, u "()V"), (1, .class_ 10), (1, u "java/lang/Object")] 113

def k0c0 : Code := { maxStack := 0, maxLocals := 1, code := object_method_1_code, exceptionTable := #[], attributes := #[] }
def k0m0 : Method := { name := "<init>", desc := "()V", sig := { parameters := [], returnType := none }, accessFlags := 1, code := some k0c0 }
/-- java/lang/Object -/
def k0 : Class := { plain "java/lang/Object" none with
  accessFlags := 33
  interfaces := #[]
  cf := some (fileOf pool0 8 #[] #[{ accessFlags := 1, nameIndex := 5, descriptorIndex := 6, attributes := #[] }] 33 0 #[] #[])
  fields := #[]
  methods := #[k0m0]
  instanceTypes := #[]
  staticTypes := #[]
  resolved := Array.replicate 124 none
  statics := none }

def pool1 : Array CpInfo := pool [(2, .class_ 4), (1, u "java/lang/Object"), (0, u "<init>"), (0, u "()V"), (0, .class_ 8), (0, u "kombos/io/FieldBytes"), (0, .methodref 7 10), (0, .nameAndType 5 11), (0, u "(I)V"), (0, .methodref 7 13), (0, .nameAndType 14 15), (0, u "startInPlace"), (0, u "([B)Z"), (0, .methodref 7 17), (0, .nameAndType 18 11), (0, u "append"), (0, .methodref 7 20), (0, .nameAndType 21 22), (0, u "endField"), (0, u "()Ljava/lang/String;"), (0, .methodref 7 24), (0, .nameAndType 25 6), (0, u "clear"), (0, .methodref 7 27), (0, .nameAndType 28 29), (0, u "count"), (0, u "()I"), (0, .methodref 7 31), (0, .nameAndType 32 22), (0, u "recordProblem"), (0, .methodref 7 34), (0, .nameAndType 35 36), (0, u "bytes"), (0, u "()[B"), (0, .methodref 7 38), (0, .nameAndType 39 40), (0, u "start"), (0, u "(I)I"), (0, .methodref 7 42), (0, .nameAndType 43 40), (0, u "end"), (0, .methodref 7 45), (0, .nameAndType 46 47), (0, u "isPlain"), (0, u "(I)Z"), (0, .class_ 49), (0, u "kombos/io/FieldBytesClearPinLaw"), (2, u "law"), (0, u "(IIIIII)Z")] 7

def k1m0 : Method := { name := "<init>", desc := "()V", sig := { parameters := [], returnType := none }, accessFlags := 1, code := none }
def k1c1 : Code := { maxStack := 5, maxLocals := 13, code := code, exceptionTable := #[], attributes := #[] }
def k1m1 : Method := { name := "law", desc := "(IIIIII)Z", sig := { parameters := [.int, .int, .int, .int, .int, .int], returnType := some .boolean }, accessFlags := 9, code := some k1c1 }
/-- kombos/io/FieldBytesClearPinLaw -/
def k1 : Class := { plain "kombos/io/FieldBytesClearPinLaw" (some 0) with
  accessFlags := 49
  interfaces := #[]
  cf := some (fileOf pool1 48 #[] #[{ accessFlags := 1, nameIndex := 5, descriptorIndex := 6, attributes := #[] }, { accessFlags := 9, nameIndex := 52, descriptorIndex := 53, attributes := #[] }] 49 2 #[] #[])
  fields := #[]
  methods := #[k1m0, k1m1]
  instanceTypes := #[]
  staticTypes := #[]
  resolved := Array.replicate 61 none
  statics := none }

def pool2 : Array CpInfo := pool [(1, .class_ 2), (0, u "kombos/io/FieldBytes"), (3, u "<init>"), (0, u "(I)V"), (0, .methodref 9 10), (0, .class_ 11), (0, .nameAndType 6 12), (0, u "java/lang/Object"), (0, u "()V"), (0, .fieldref 1 14), (0, .nameAndType 15 16), (0, u "held"), (0, u "[B"), (0, .fieldref 1 18), (0, .nameAndType 19 16), (0, u "bytes"), (0, .fieldref 1 21), (0, .nameAndType 22 23), (0, u "starts"), (0, u "[I"), (0, .fieldref 1 25), (0, .nameAndType 26 23), (0, u "ends"), (0, .fieldref 1 28), (0, .nameAndType 29 23), (0, u "plain"), (0, .fieldref 1 31), (0, .nameAndType 32 33), (0, u "maxRecordLength"), (0, u "I"), (0, .fieldref 1 35), (0, .nameAndType 36 33), (0, u "length"), (0, .fieldref 1 38), (0, .nameAndType 39 33), (0, u "start"), (0, .fieldref 1 41), (0, .nameAndType 42 33), (0, u "count"), (0, .fieldref 1 44), (0, .nameAndType 45 33), (0, u "bits"), (0, .fieldref 1 47), (0, .nameAndType 48 49), (0, u "tooLong"), (0, u "Z"), (0, .fieldref 1 51), (0, .nameAndType 52 49), (0, u "full"), (0, .methodref 1 54), (0, .nameAndType 55 56), (0, u "room"), (0, u "(I)I"), (0, .methodref 1 58), (0, .nameAndType 59 60), (0, u "bitsOf"), (0, u "(B)I"), (6, .integer 16777216), (0, .long 2), (2, .class_ 73), (1, u "java/lang/Math"), (4, u "min"), (8, u "TOO_LONG"), (0, u "Ljava/lang/String;"), (0, .methodref 90 91), (0, .class_ 92), (0, .nameAndType 93 94), (0, u "kombos/graph/Utf8"), (0, u "isValid"), (0, u "([BII)Z"), (0, .string 96), (0, u "is not UTF-8 text"), (0, .methodref 1 98), (0, .nameAndType 99 100), (0, u "mark"), (0, u "(III)V"), (0, .methodref 71 102), (0, .nameAndType 78 103), (0, u "(II)I"), (0, .methodref 1 105), (0, .nameAndType 106 12), (0, u "clear"), (19, u "end"), (9, u "MAX_LENGTH"), (1, u "MAX_RECORD_LENGTH"), (0, u "NOT_UTF8"), (2, u "append"), (2, u "endField"), (0, u "()Ljava/lang/String;"), (0, u "startInPlace"), (0, u "([B)Z"), (2, u "recordProblem"), (0, u "()I"), (0, u "()[B"), (0, u "isPlain"), (0, u "(I)Z")] 21

def k2m0 : Method := { name := "<init>", desc := "()V", sig := { parameters := [], returnType := none }, accessFlags := 0, code := none }
def k2c1 : Code := { maxStack := 2, maxLocals := 2, code := prog_57_method_2_code, exceptionTable := #[], attributes := #[] }
def k2m1 : Method := { name := "<init>", desc := "(I)V", sig := { parameters := [.int], returnType := none }, accessFlags := 0, code := some k2c1 }
def k2c2 : Code := { maxStack := 2, maxLocals := 1, code := prog_57_method_3_code, exceptionTable := #[], attributes := #[] }
def k2m2 : Method := { name := "bitsOf", desc := "(B)I", sig := { parameters := [.byte], returnType := some .int }, accessFlags := 8, code := some k2c2 }
def k2c3 : Code := { maxStack := 2, maxLocals := 1, code := prog_57_method_4_code, exceptionTable := #[], attributes := #[] }
def k2m3 : Method := { name := "clear", desc := "()V", sig := { parameters := [], returnType := none }, accessFlags := 0, code := some k2c3 }
def k2c4 : Code := { maxStack := 5, maxLocals := 2, code := prog_57_method_5_code, exceptionTable := #[], attributes := #[] }
def k2m4 : Method := { name := "append", desc := "(I)V", sig := { parameters := [.int], returnType := none }, accessFlags := 0, code := some k2c4 }
def k2c5 : Code := { maxStack := 8, maxLocals := 3, code := prog_57_method_7_code, exceptionTable := #[], attributes := #[] }
def k2m5 : Method := { name := "room", desc := "(I)I", sig := { parameters := [.int], returnType := some .int }, accessFlags := 2, code := some k2c5 }
def k2c6 : Code := { maxStack := 4, maxLocals := 2, code := prog_57_method_8_code, exceptionTable := #[], attributes := #[] }
def k2m6 : Method := { name := "endField", desc := "()Ljava/lang/String;", sig := { parameters := [], returnType := some (.object "java/lang/String") }, accessFlags := 0, code := some k2c6 }
def k2c7 : Code := { maxStack := 3, maxLocals := 2, code := prog_57_method_9_code, exceptionTable := #[], attributes := #[] }
def k2m7 : Method := { name := "startInPlace", desc := "([B)Z", sig := { parameters := [(.array .byte)], returnType := some .boolean }, accessFlags := 0, code := some k2c7 }
def k2c8 : Code := { maxStack := 5, maxLocals := 4, code := prog_57_method_11_code, exceptionTable := #[], attributes := #[] }
def k2m8 : Method := { name := "mark", desc := "(III)V", sig := { parameters := [.int, .int, .int], returnType := none }, accessFlags := 2, code := some k2c8 }
def k2c9 : Code := { maxStack := 1, maxLocals := 1, code := prog_57_method_12_code, exceptionTable := #[], attributes := #[] }
def k2m9 : Method := { name := "recordProblem", desc := "()Ljava/lang/String;", sig := { parameters := [], returnType := some (.object "java/lang/String") }, accessFlags := 0, code := some k2c9 }
def k2c10 : Code := { maxStack := 1, maxLocals := 1, code := prog_57_method_14_code, exceptionTable := #[], attributes := #[] }
def k2m10 : Method := { name := "count", desc := "()I", sig := { parameters := [], returnType := some .int }, accessFlags := 0, code := some k2c10 }
def k2c11 : Code := { maxStack := 1, maxLocals := 1, code := prog_57_method_15_code, exceptionTable := #[], attributes := #[] }
def k2m11 : Method := { name := "bytes", desc := "()[B", sig := { parameters := [], returnType := some (.array .byte) }, accessFlags := 0, code := some k2c11 }
def k2c12 : Code := { maxStack := 2, maxLocals := 2, code := prog_57_method_16_code, exceptionTable := #[], attributes := #[] }
def k2m12 : Method := { name := "start", desc := "(I)I", sig := { parameters := [.int], returnType := some .int }, accessFlags := 0, code := some k2c12 }
def k2c13 : Code := { maxStack := 2, maxLocals := 2, code := prog_57_method_17_code, exceptionTable := #[], attributes := #[] }
def k2m13 : Method := { name := "end", desc := "(I)I", sig := { parameters := [.int], returnType := some .int }, accessFlags := 0, code := some k2c13 }
def k2c14 : Code := { maxStack := 2, maxLocals := 2, code := prog_57_method_18_code, exceptionTable := #[], attributes := #[] }
def k2m14 : Method := { name := "isPlain", desc := "(I)Z", sig := { parameters := [.int], returnType := some .boolean }, accessFlags := 0, code := some k2c14 }
/-- kombos/io/FieldBytes -/
def k2 : Class := { plain "kombos/io/FieldBytes" (some 0) with
  accessFlags := 48
  interfaces := #[]
  cf := some (fileOf pool2 1 #[] #[{ accessFlags := 0, nameIndex := 6, descriptorIndex := 12, attributes := #[] }, { accessFlags := 0, nameIndex := 6, descriptorIndex := 7, attributes := #[] }, { accessFlags := 8, nameIndex := 59, descriptorIndex := 60, attributes := #[] }, { accessFlags := 0, nameIndex := 106, descriptorIndex := 12, attributes := #[] }, { accessFlags := 0, nameIndex := 142, descriptorIndex := 7, attributes := #[] }, { accessFlags := 2, nameIndex := 55, descriptorIndex := 56, attributes := #[] }, { accessFlags := 0, nameIndex := 145, descriptorIndex := 146, attributes := #[] }, { accessFlags := 0, nameIndex := 147, descriptorIndex := 148, attributes := #[] }, { accessFlags := 2, nameIndex := 99, descriptorIndex := 100, attributes := #[] }, { accessFlags := 0, nameIndex := 151, descriptorIndex := 146, attributes := #[] }, { accessFlags := 0, nameIndex := 42, descriptorIndex := 152, attributes := #[] }, { accessFlags := 0, nameIndex := 19, descriptorIndex := 153, attributes := #[] }, { accessFlags := 0, nameIndex := 39, descriptorIndex := 56, attributes := #[] }, { accessFlags := 0, nameIndex := 126, descriptorIndex := 56, attributes := #[] }, { accessFlags := 0, nameIndex := 154, descriptorIndex := 155, attributes := #[] }] 48 9 #[] #[{ accessFlags := 26, nameIndex := 136, descriptorIndex := 33, attributes := #[] }, { accessFlags := 26, nameIndex := 138, descriptorIndex := 33, attributes := #[] }, { accessFlags := 26, nameIndex := 139, descriptorIndex := 88, attributes := #[] }, { accessFlags := 26, nameIndex := 87, descriptorIndex := 88, attributes := #[] }, { accessFlags := 18, nameIndex := 32, descriptorIndex := 33, attributes := #[] }, { accessFlags := 2, nameIndex := 15, descriptorIndex := 16, attributes := #[] }, { accessFlags := 2, nameIndex := 19, descriptorIndex := 16, attributes := #[] }, { accessFlags := 2, nameIndex := 36, descriptorIndex := 33, attributes := #[] }, { accessFlags := 2, nameIndex := 39, descriptorIndex := 33, attributes := #[] }, { accessFlags := 2, nameIndex := 22, descriptorIndex := 23, attributes := #[] }, { accessFlags := 2, nameIndex := 26, descriptorIndex := 23, attributes := #[] }, { accessFlags := 2, nameIndex := 29, descriptorIndex := 23, attributes := #[] }, { accessFlags := 2, nameIndex := 42, descriptorIndex := 33, attributes := #[] }, { accessFlags := 2, nameIndex := 45, descriptorIndex := 33, attributes := #[] }, { accessFlags := 2, nameIndex := 48, descriptorIndex := 49, attributes := #[] }, { accessFlags := 2, nameIndex := 52, descriptorIndex := 49, attributes := #[] }])
  fields := #[{ name := "MAX_LENGTH", type := .int, accessFlags := 26, slot := 0, constantValue := 0 }, { name := "MAX_RECORD_LENGTH", type := .int, accessFlags := 26, slot := 1, constantValue := 0 }, { name := "NOT_UTF8", type := (.object "java/lang/String"), accessFlags := 26, slot := 2, constantValue := 0 }, { name := "TOO_LONG", type := (.object "java/lang/String"), accessFlags := 26, slot := 3, constantValue := 0 }, { name := "maxRecordLength", type := .int, accessFlags := 18, slot := 0, constantValue := 0 }, { name := "held", type := (.array .byte), accessFlags := 2, slot := 1, constantValue := 0 }, { name := "bytes", type := (.array .byte), accessFlags := 2, slot := 2, constantValue := 0 }, { name := "length", type := .int, accessFlags := 2, slot := 3, constantValue := 0 }, { name := "start", type := .int, accessFlags := 2, slot := 4, constantValue := 0 }, { name := "starts", type := (.array .int), accessFlags := 2, slot := 5, constantValue := 0 }, { name := "ends", type := (.array .int), accessFlags := 2, slot := 6, constantValue := 0 }, { name := "plain", type := (.array .int), accessFlags := 2, slot := 7, constantValue := 0 }, { name := "count", type := .int, accessFlags := 2, slot := 8, constantValue := 0 }, { name := "bits", type := .int, accessFlags := 2, slot := 9, constantValue := 0 }, { name := "tooLong", type := .boolean, accessFlags := 2, slot := 10, constantValue := 0 }, { name := "full", type := .boolean, accessFlags := 2, slot := 11, constantValue := 0 }]
  methods := #[k2m0, k2m1, k2m2, k2m3, k2m4, k2m5, k2m6, k2m7, k2m8, k2m9, k2m10, k2m11, k2m12, k2m13, k2m14]
  instanceTypes := #[.int, (.array .byte), (.array .byte), .int, .int, (.array .int), (.array .int), (.array .int), .int, .int, .boolean, .boolean]
  staticTypes := #[.int, .int, (.object "java/lang/String"), (.object "java/lang/String")]
  resolved := Array.replicate 177 none
  statics := none }

def pool3 : Array CpInfo := pool [(1, .class_ 2), (0, u "java/lang/Math"), (1, .class_ 6), (1, u "java/lang/Object"), (0, u "<init>"), (0, u "()V"), (89, .class_ 100), (1, u "java/lang/Math$RandomNumberGeneratorHolder"), (71, u "negativeZeroFloatBits"), (0, u "J"), (2, u "negativeZeroDoubleBits"), (24, u "min"), (43, u "$assertionsDisabled"), (0, u "Z"), (88, u "(II)I"), (2, u "twoToTheDoubleScaleDown"), (0, u "D"), (4, u "twoToTheDoubleScaleUp"), (9, u "E"), (3, u "PI"), (2, u "TAU"), (2, u "DEGREES_TO_RADIANS"), (0, u "RADIANS_TO_DEGREES")] 94

def k3m0 : Method := { name := "<init>", desc := "()V", sig := { parameters := [], returnType := none }, accessFlags := 2, code := none }
def k3c1 : Code := { maxStack := 2, maxLocals := 2, code := jdk_29_method_69_code, exceptionTable := #[], attributes := #[] }
def k3m1 : Method := { name := "min", desc := "(II)I", sig := { parameters := [.int, .int], returnType := some .int }, accessFlags := 9, code := some k3c1 }
/-- java/lang/Math -/
def k3 : Class := { plain "java/lang/Math" (some 0) with
  accessFlags := 49
  interfaces := #[]
  cf := some (fileOf pool3 1 #[.nestMembers #[98]] #[{ accessFlags := 2, nameIndex := 7, descriptorIndex := 8, attributes := #[] }, { accessFlags := 9, nameIndex := 201, descriptorIndex := 335, attributes := #[] }] 49 4 #[] #[{ accessFlags := 25, nameIndex := 354, descriptorIndex := 339, attributes := #[] }, { accessFlags := 25, nameIndex := 358, descriptorIndex := 339, attributes := #[] }, { accessFlags := 25, nameIndex := 361, descriptorIndex := 339, attributes := #[] }, { accessFlags := 26, nameIndex := 364, descriptorIndex := 339, attributes := #[] }, { accessFlags := 26, nameIndex := 365, descriptorIndex := 339, attributes := #[] }, { accessFlags := 26, nameIndex := 172, descriptorIndex := 173, attributes := #[] }, { accessFlags := 26, nameIndex := 176, descriptorIndex := 173, attributes := #[] }, { accessFlags := 8, nameIndex := 344, descriptorIndex := 339, attributes := #[] }, { accessFlags := 8, nameIndex := 338, descriptorIndex := 339, attributes := #[] }, { accessFlags := 4120, nameIndex := 245, descriptorIndex := 246, attributes := #[] }])
  fields := #[{ name := "E", type := .double, accessFlags := 25, slot := 0, constantValue := 0 }, { name := "PI", type := .double, accessFlags := 25, slot := 1, constantValue := 0 }, { name := "TAU", type := .double, accessFlags := 25, slot := 2, constantValue := 0 }, { name := "DEGREES_TO_RADIANS", type := .double, accessFlags := 26, slot := 3, constantValue := 0 }, { name := "RADIANS_TO_DEGREES", type := .double, accessFlags := 26, slot := 4, constantValue := 0 }, { name := "negativeZeroFloatBits", type := .long, accessFlags := 26, slot := 5, constantValue := 0 }, { name := "negativeZeroDoubleBits", type := .long, accessFlags := 26, slot := 6, constantValue := 0 }, { name := "twoToTheDoubleScaleUp", type := .double, accessFlags := 8, slot := 7, constantValue := 0 }, { name := "twoToTheDoubleScaleDown", type := .double, accessFlags := 8, slot := 8, constantValue := 0 }, { name := "$assertionsDisabled", type := .boolean, accessFlags := 4120, slot := 9, constantValue := 0 }]
  methods := #[k3m0, k3m1]
  instanceTypes := #[]
  staticTypes := #[.double, .double, .double, .double, .double, .long, .long, .double, .double, .boolean]
  resolved := Array.replicate 460 none
  statics := none }

def pool4 : Array CpInfo := pool [(2, .class_ 4), (1, u "java/lang/Object"), (0, u "<init>"), (0, u "()V"), (32, .class_ 40), (0, u "kombos/graph/Utf8"), (2, u "isValid"), (0, u "([BII)Z")] 7

def k4m0 : Method := { name := "<init>", desc := "()V", sig := { parameters := [], returnType := none }, accessFlags := 2, code := none }
def k4c1 : Code := { maxStack := 3, maxLocals := 10, code := prog_50_method_2_code, exceptionTable := #[], attributes := #[] }
def k4m1 : Method := { name := "isValid", desc := "([BII)Z", sig := { parameters := [(.array .byte), .int, .int], returnType := some .boolean }, accessFlags := 9, code := some k4c1 }
/-- kombos/graph/Utf8 -/
def k4 : Class := { plain "kombos/graph/Utf8" (some 0) with
  accessFlags := 49
  interfaces := #[]
  cf := some (fileOf pool4 39 #[] #[{ accessFlags := 2, nameIndex := 5, descriptorIndex := 6, attributes := #[] }, { accessFlags := 9, nameIndex := 43, descriptorIndex := 44, attributes := #[] }] 49 2 #[] #[])
  fields := #[]
  methods := #[k4m0, k4m1]
  instanceTypes := #[]
  staticTypes := #[]
  resolved := Array.replicate 52 none
  statics := none }

def pool5 : Array CpInfo := pool [(1, .class_ 2), (0, u "java/io/Serializable"), (0, .class_ 4), (0, u "java/lang/Object")] 2

/-- java/io/Serializable -/
def k5 : Class := { plain "java/io/Serializable" (some 0) with
  accessFlags := 1537
  interfaces := #[]
  cf := some (fileOf pool5 1 #[] #[] 1537 3 #[] #[])
  fields := #[]
  methods := #[]
  instanceTypes := #[]
  staticTypes := #[]
  resolved := Array.replicate 7 none
  statics := none }

def pool6 : Array CpInfo := pool [(1, .class_ 2), (0, u "java/lang/Comparable"), (0, .class_ 4), (0, u "java/lang/Object")] 7

/-- java/lang/Comparable -/
def k6 : Class := { plain "java/lang/Comparable" (some 0) with
  accessFlags := 1537
  interfaces := #[]
  cf := some (fileOf pool6 1 #[] #[] 1537 3 #[] #[])
  fields := #[]
  methods := #[]
  instanceTypes := #[]
  staticTypes := #[]
  resolved := Array.replicate 12 none
  statics := none }

def pool7 : Array CpInfo := pool [(2, .class_ 4), (1, u "java/lang/CharSequence"), (42, .class_ 48), (0, u "java/lang/CharSequence$1CodePointIterator"), (10, .class_ 60), (0, u "java/lang/CharSequence$1CharIterator"), (5, .class_ 67), (0, u "java/lang/Object")] 63

/-- java/lang/CharSequence -/
def k7 : Class := { plain "java/lang/CharSequence" (some 0) with
  accessFlags := 1537
  interfaces := #[]
  cf := some (fileOf pool7 2 #[.nestMembers #[47, 59]] #[] 1537 66 #[] #[])
  fields := #[]
  methods := #[]
  instanceTypes := #[]
  staticTypes := #[]
  resolved := Array.replicate 131 none
  statics := none }

def pool8 : Array CpInfo := pool [(1, .class_ 2), (0, u "java/lang/constant/Constable"), (0, .class_ 4), (0, u "java/lang/Object")] 6

/-- java/lang/constant/Constable -/
def k8 : Class := { plain "java/lang/constant/Constable" (some 0) with
  accessFlags := 1537
  interfaces := #[]
  cf := some (fileOf pool8 1 #[] #[] 1537 3 #[] #[])
  fields := #[]
  methods := #[]
  instanceTypes := #[]
  staticTypes := #[]
  resolved := Array.replicate 11 none
  statics := none }

def pool9 : Array CpInfo := pool [(1, .class_ 2), (0, u "java/lang/constant/ConstantDesc"), (0, .class_ 4), (0, u "java/lang/Object")] 32

/-- java/lang/constant/ConstantDesc -/
def k9 : Class := { plain "java/lang/constant/ConstantDesc" (some 0) with
  accessFlags := 1537
  interfaces := #[]
  cf := some (fileOf pool9 1 #[] #[] 1537 3 #[] #[])
  fields := #[]
  methods := #[]
  instanceTypes := #[]
  staticTypes := #[]
  resolved := Array.replicate 37 none
  statics := none }

def pool10 : Array CpInfo := pool [(2, .class_ 4), (1, u "java/lang/Object"), (0, u "<init>"), (0, u "()V"), (3, .class_ 12), (1, u "java/lang/String"), (0, u "value"), (0, u "[B"), (2, u "coder"), (0, u "B"), (2, u "hash"), (0, u "I"), (2, u "hashIsZero"), (0, u "Z"), (13, u "COMPACT_STRINGS"), (534, .class_ 576), (0, u "java/lang/CharSequence"), (22, u "CASE_INSENSITIVE_ORDER"), (0, u "Ljava/util/Comparator;"), (500, u "serialPersistentFields"), (0, u "[Ljava/io/ObjectStreamField;"), (0, .class_ 1104), (0, u "java/lang/String$CaseInsensitiveComparator"), (1, .class_ 1107), (0, u "java/io/Serializable"), (0, .class_ 1109), (0, u "java/lang/Comparable"), (0, .class_ 1111), (0, u "java/lang/constant/Constable"), (0, .class_ 1113), (0, u "java/lang/constant/ConstantDesc"), (2, u "serialVersionUID"), (0, u "J"), (3, u "REPL"), (0, u "C"), (2, u "LATIN1"), (1, u "UTF16")] 323

def k10m0 : Method := { name := "<init>", desc := "()V", sig := { parameters := [], returnType := none }, accessFlags := 1, code := none }
/-- java/lang/String -/
def k10 : Class := { plain "java/lang/String" (some 0) with
  accessFlags := 49
  interfaces := #[5, 6, 7, 8, 9]
  cf := some (fileOf pool10 10 #[.nestMembers #[1103]] #[{ accessFlags := 1, nameIndex := 5, descriptorIndex := 6, attributes := #[] }] 49 2 #[1106, 1108, 575, 1110, 1112] #[{ accessFlags := 18, nameIndex := 13, descriptorIndex := 14, attributes := #[] }, { accessFlags := 18, nameIndex := 17, descriptorIndex := 18, attributes := #[] }, { accessFlags := 2, nameIndex := 21, descriptorIndex := 22, attributes := #[] }, { accessFlags := 2, nameIndex := 25, descriptorIndex := 26, attributes := #[] }, { accessFlags := 26, nameIndex := 1116, descriptorIndex := 1117, attributes := #[] }, { accessFlags := 24, nameIndex := 40, descriptorIndex := 26, attributes := #[] }, { accessFlags := 26, nameIndex := 1101, descriptorIndex := 1102, attributes := #[] }, { accessFlags := 26, nameIndex := 1121, descriptorIndex := 1122, attributes := #[] }, { accessFlags := 25, nameIndex := 599, descriptorIndex := 600, attributes := #[] }, { accessFlags := 24, nameIndex := 1125, descriptorIndex := 18, attributes := #[] }, { accessFlags := 24, nameIndex := 1127, descriptorIndex := 18, attributes := #[] }])
  fields := #[{ name := "value", type := (.array .byte), accessFlags := 18, slot := 0, constantValue := 0 }, { name := "coder", type := .byte, accessFlags := 18, slot := 1, constantValue := 0 }, { name := "hash", type := .int, accessFlags := 2, slot := 2, constantValue := 0 }, { name := "hashIsZero", type := .boolean, accessFlags := 2, slot := 3, constantValue := 0 }, { name := "serialVersionUID", type := .long, accessFlags := 26, slot := 0, constantValue := 0 }, { name := "COMPACT_STRINGS", type := .boolean, accessFlags := 24, slot := 1, constantValue := 0 }, { name := "serialPersistentFields", type := (.array (.object "java/io/ObjectStreamField")), accessFlags := 26, slot := 2, constantValue := 0 }, { name := "REPL", type := .char, accessFlags := 26, slot := 3, constantValue := 0 }, { name := "CASE_INSENSITIVE_ORDER", type := (.object "java/util/Comparator"), accessFlags := 25, slot := 4, constantValue := 0 }, { name := "LATIN1", type := .byte, accessFlags := 24, slot := 5, constantValue := 0 }, { name := "UTF16", type := .byte, accessFlags := 24, slot := 6, constantValue := 0 }]
  methods := #[k10m0]
  instanceTypes := #[(.array .byte), .byte, .int, .boolean]
  staticTypes := #[.long, .boolean, (.array (.object "java/io/ObjectStreamField")), .char, (.object "java/util/Comparator"), .byte, .byte]
  resolved := Array.replicate 1451 none
  statics := none }

def pool11 : Array CpInfo := pool [(1, u "java/lang/Cloneable"), (0, .class_ 1), (0, u "java/lang/Object"), (0, .class_ 3)] 3

/-- java/lang/Cloneable -/
def k11 : Class := { plain "java/lang/Cloneable" (some 0) with
  accessFlags := 1537
  interfaces := #[]
  cf := some (fileOf pool11 2 #[] #[] 1537 4 #[] #[])
  fields := #[]
  methods := #[]
  instanceTypes := #[]
  staticTypes := #[]
  resolved := Array.replicate 8 none
  statics := none }

/-- the primitive byte -/
def k12 : Class := { plain "byte" none with kind := .primitive 'B', accessFlags := 0x411 }
/-- [B -/
def k13 : Class := { plain "[B" (some 0) with kind := .array 12 .byte, interfaces := #[11, 5], accessFlags := 1041 }

/-- the primitive int -/
def k14 : Class := { plain "int" none with kind := .primitive 'I', accessFlags := 0x411 }
/-- [I -/
def k15 : Class := { plain "[I" (some 0) with kind := .array 14 .int, interfaces := #[11, 5], accessFlags := 1041 }

def heap : Heap := #[]
def classes : Array Class := #[k0, k1, k2, k3, k4, k5, k6, k7, k8, k9, k10, k11, k12, k13, k14, k15]
def interned : List (Array UInt16 × Addr) := []
def slotsUsed : Nat := 0
def theMethod : MethodId := ⟨1, 1⟩
def args0 : Array Value := #[.int 10, .int 17, .int 24, .int 31, .int 38, .int 45]
def aboutOver (below : List Frame) : State where
  vm := { classes := classes, interned := interned.toArray }
  heap := heap
  slotsUsed := slotsUsed
  threads := #[{ frames := .invoking theMethod args0 :: below }]
def below0 : List Frame := [.native { method := ⟨0, 0⟩, args := #[] }]
def about1 : State := aboutOver below0
def p0 : Program := .bare "" "" ""
def e0 : Env := launch0.env 0 0 0
theorem w_frames : about1.frames = Frame.invoking theMethod args0 :: below0 := rfl
set_option maxRecDepth 65536 in
theorem w_args : argsFit about1.vm theMethod args0 = true := by decide +kernel
set_option maxRecDepth 65536 in
theorem w_heap : heapFits about1 = true := by decide +kernel
set_option maxRecDepth 65536 in
theorem w_runnable : about1.curStatus? = some .runnable := by decide +kernel
set_option maxRecDepth 65536 in
theorem w_alone : about1.alone = true := by decide +kernel
set_option maxRecDepth 65536 in
theorem w_named : about1.methodNamed? x = some theMethod := by decide +kernel
set_option maxRecDepth 65536 in
theorem w_hears : about1.hears theMethod below0 = true := by decide +kernel
set_option maxRecDepth 65536 in
theorem w_ripe : about1.ripe theMethod args0 below0 = true := by decide +kernel
theorem w_running : about1.status = .running := rfl
set_option maxRecDepth 65536 in
theorem w_room : about1.hasRoom e0.platform room_1 = true :=
  launch0.hasRoom_least _ room_1 (by decide +kernel) (by decide +kernel) (by decide +kernel) (by decide +kernel) (by decide +kernel) (by decide +kernel)
theorem allAtoms_all (ts : List Jvm.Cond) (a : Array Jvm.Value) (st : Jvm.State) : (allAtoms ts).before a st = ts.all (fun c => c.before a st) := by
  induction ts with
  | nil => rfl
  | cons c t ih =>
    show (Jvm.Cond.and c (allAtoms t)).before a st = _
    rw [Jvm.Cond.before_and, ih, List.all_cons]
def words1 : List Jvm.Cond := Jvm.Cond.code x code maxLocals ret :: tables_1
/-- a 'code' word, met by the world's own term for the bytes: nothing is compared byte by byte -/
theorem code_word {y : MethodName} {bytes : ByteArray} {mx : Nat} {rt : Option FieldType} {a : Array Value} {s : State} {m : MethodId} {meth : Method} {c : Code} (h1 : s.methodNamed? y = some m) (h2 : s.vm.method? m = some meth) (h3 : meth.code = some c) (h4 : c.code = bytes)
    (h5 : (c.maxLocals == mx && c.exceptionTable.isEmpty && decide (c.maxStack ≤ mostOperands) && decide (meth.sig.returnType = rt) && !meth.locks && decide (parseMethodDescriptor y.desc = some meth.sig)) = true) : (Jvm.Cond.code y bytes mx rt).before a s = true := by
  simp only [Bool.and_eq_true, beq_iff_eq, Bool.not_eq_true', decide_eq_true_eq] at h5
  obtain ⟨⟨⟨⟨⟨g1, g2⟩, g3⟩, g4⟩, g5⟩, g6⟩ := h5
  simp [Cond.before, Cond.holds, Cond.value, h1, h2, h3, h4, g1, g2, g3, g4, g5, g6]
def isCode : Jvm.Cond → Bool
  | .code _ _ _ _ => true
  | _ => false
theorem all_split {L : List Jvm.Cond} {P : Jvm.Cond → Bool} (h1 : L.all (fun c => isCode c || P c) = true) (h2 : ∀ c ∈ L.filter isCode, P c = true) : L.all P = true := by
  refine List.all_eq_true.mpr fun c hc => ?_
  have h := List.all_eq_true.mp h1 c hc
  rcases Bool.eq_false_or_eq_true (isCode c) with hi | hi
  · exact h2 c (List.mem_filter.mpr ⟨hc, hi⟩)
  · simpa [hi] using h
set_option maxRecDepth 65536 in
theorem w_c0 : (Jvm.Cond.code x code maxLocals ret).before args0 about1 = true := code_word (m := ⟨1, 1⟩) (meth := k1m1) (c := k1c1) (by decide +kernel) rfl rfl rfl (by decide +kernel)
set_option maxRecDepth 65536 in
theorem w_c1 : (Jvm.Cond.code ({ cls := "kombos/io/FieldBytes", name := "<init>", desc := "(I)V" } : Jvm.MethodName) prog_57_method_2_code (2 : Nat) (Option.none : Option Jvm.ClassFile.FieldType)).before args0 about1 = true := code_word (m := ⟨2, 1⟩) (meth := k2m1) (c := k2c1) (by decide +kernel) rfl rfl rfl (by decide +kernel)
set_option maxRecDepth 65536 in
theorem w_c2 : (Jvm.Cond.code ({ cls := "java/lang/Object", name := "<init>", desc := "()V" } : Jvm.MethodName) object_method_1_code (1 : Nat) (Option.none : Option Jvm.ClassFile.FieldType)).before args0 about1 = true := code_word (m := ⟨0, 0⟩) (meth := k0m0) (c := k0c0) (by decide +kernel) rfl rfl rfl (by decide +kernel)
set_option maxRecDepth 65536 in
theorem w_c3 : (Jvm.Cond.code ({ cls := "kombos/io/FieldBytes", name := "startInPlace", desc := "([B)Z" } : Jvm.MethodName) prog_57_method_9_code (2 : Nat) (Option.some Jvm.ClassFile.FieldType.boolean)).before args0 about1 = true := code_word (m := ⟨2, 7⟩) (meth := k2m7) (c := k2c7) (by decide +kernel) rfl rfl rfl (by decide +kernel)
set_option maxRecDepth 65536 in
theorem w_c4 : (Jvm.Cond.code ({ cls := "java/lang/Math", name := "min", desc := "(II)I" } : Jvm.MethodName) jdk_29_method_69_code (2 : Nat) (Option.some Jvm.ClassFile.FieldType.int)).before args0 about1 = true := code_word (m := ⟨3, 1⟩) (meth := k3m1) (c := k3c1) (by decide +kernel) rfl rfl rfl (by decide +kernel)
set_option maxRecDepth 65536 in
theorem w_c5 : (Jvm.Cond.code ({ cls := "kombos/io/FieldBytes", name := "append", desc := "(I)V" } : Jvm.MethodName) prog_57_method_5_code (2 : Nat) (Option.none : Option Jvm.ClassFile.FieldType)).before args0 about1 = true := code_word (m := ⟨2, 4⟩) (meth := k2m4) (c := k2c4) (by decide +kernel) rfl rfl rfl (by decide +kernel)
set_option maxRecDepth 65536 in
theorem w_c6 : (Jvm.Cond.code ({ cls := "kombos/io/FieldBytes", name := "room", desc := "(I)I" } : Jvm.MethodName) prog_57_method_7_code (3 : Nat) (Option.some Jvm.ClassFile.FieldType.int)).before args0 about1 = true := code_word (m := ⟨2, 5⟩) (meth := k2m5) (c := k2c5) (by decide +kernel) rfl rfl rfl (by decide +kernel)
set_option maxRecDepth 65536 in
theorem w_c7 : (Jvm.Cond.code ({ cls := "kombos/io/FieldBytes", name := "bitsOf", desc := "(B)I" } : Jvm.MethodName) prog_57_method_3_code (1 : Nat) (Option.some Jvm.ClassFile.FieldType.int)).before args0 about1 = true := code_word (m := ⟨2, 2⟩) (meth := k2m2) (c := k2c2) (by decide +kernel) rfl rfl rfl (by decide +kernel)
set_option maxRecDepth 65536 in
theorem w_c8 : (Jvm.Cond.code ({ cls := "kombos/io/FieldBytes", name := "endField", desc := "()Ljava/lang/String;" } : Jvm.MethodName) prog_57_method_8_code (2 : Nat) (Option.some (Jvm.ClassFile.FieldType.object "java/lang/String"))).before args0 about1 = true := code_word (m := ⟨2, 6⟩) (meth := k2m6) (c := k2c6) (by decide +kernel) rfl rfl rfl (by decide +kernel)
set_option maxRecDepth 65536 in
theorem w_c9 : (Jvm.Cond.code ({ cls := "kombos/graph/Utf8", name := "isValid", desc := "([BII)Z" } : Jvm.MethodName) prog_50_method_2_code (10 : Nat) (Option.some Jvm.ClassFile.FieldType.boolean)).before args0 about1 = true := code_word (m := ⟨4, 1⟩) (meth := k4m1) (c := k4c1) (by decide +kernel) rfl rfl rfl (by decide +kernel)
set_option maxRecDepth 65536 in
theorem w_c10 : (Jvm.Cond.code ({ cls := "kombos/io/FieldBytes", name := "mark", desc := "(III)V" } : Jvm.MethodName) prog_57_method_11_code (4 : Nat) (Option.none : Option Jvm.ClassFile.FieldType)).before args0 about1 = true := code_word (m := ⟨2, 8⟩) (meth := k2m8) (c := k2c8) (by decide +kernel) rfl rfl rfl (by decide +kernel)
set_option maxRecDepth 65536 in
theorem w_c11 : (Jvm.Cond.code ({ cls := "kombos/io/FieldBytes", name := "clear", desc := "()V" } : Jvm.MethodName) prog_57_method_4_code (1 : Nat) (Option.none : Option Jvm.ClassFile.FieldType)).before args0 about1 = true := code_word (m := ⟨2, 3⟩) (meth := k2m3) (c := k2c3) (by decide +kernel) rfl rfl rfl (by decide +kernel)
set_option maxRecDepth 65536 in
theorem w_c12 : (Jvm.Cond.code ({ cls := "kombos/io/FieldBytes", name := "count", desc := "()I" } : Jvm.MethodName) prog_57_method_14_code (1 : Nat) (Option.some Jvm.ClassFile.FieldType.int)).before args0 about1 = true := code_word (m := ⟨2, 10⟩) (meth := k2m10) (c := k2c10) (by decide +kernel) rfl rfl rfl (by decide +kernel)
set_option maxRecDepth 65536 in
theorem w_c13 : (Jvm.Cond.code ({ cls := "kombos/io/FieldBytes", name := "recordProblem", desc := "()Ljava/lang/String;" } : Jvm.MethodName) prog_57_method_12_code (1 : Nat) (Option.some (Jvm.ClassFile.FieldType.object "java/lang/String"))).before args0 about1 = true := code_word (m := ⟨2, 9⟩) (meth := k2m9) (c := k2c9) (by decide +kernel) rfl rfl rfl (by decide +kernel)
set_option maxRecDepth 65536 in
theorem w_c14 : (Jvm.Cond.code ({ cls := "kombos/io/FieldBytes", name := "bytes", desc := "()[B" } : Jvm.MethodName) prog_57_method_15_code (1 : Nat) (Option.some (Jvm.ClassFile.FieldType.array Jvm.ClassFile.FieldType.byte))).before args0 about1 = true := code_word (m := ⟨2, 11⟩) (meth := k2m11) (c := k2c11) (by decide +kernel) rfl rfl rfl (by decide +kernel)
set_option maxRecDepth 65536 in
theorem w_c15 : (Jvm.Cond.code ({ cls := "kombos/io/FieldBytes", name := "start", desc := "(I)I" } : Jvm.MethodName) prog_57_method_16_code (2 : Nat) (Option.some Jvm.ClassFile.FieldType.int)).before args0 about1 = true := code_word (m := ⟨2, 12⟩) (meth := k2m12) (c := k2c12) (by decide +kernel) rfl rfl rfl (by decide +kernel)
set_option maxRecDepth 65536 in
theorem w_c16 : (Jvm.Cond.code ({ cls := "kombos/io/FieldBytes", name := "end", desc := "(I)I" } : Jvm.MethodName) prog_57_method_17_code (2 : Nat) (Option.some Jvm.ClassFile.FieldType.int)).before args0 about1 = true := code_word (m := ⟨2, 13⟩) (meth := k2m13) (c := k2c13) (by decide +kernel) rfl rfl rfl (by decide +kernel)
set_option maxRecDepth 65536 in
theorem w_c17 : (Jvm.Cond.code ({ cls := "kombos/io/FieldBytes", name := "isPlain", desc := "(I)Z" } : Jvm.MethodName) prog_57_method_18_code (2 : Nat) (Option.some Jvm.ClassFile.FieldType.boolean)).before args0 about1 = true := code_word (m := ⟨2, 14⟩) (meth := k2m14) (c := k2c14) (by decide +kernel) rfl rfl rfl (by decide +kernel)
def codes1 : List Jvm.Cond := [Jvm.Cond.code x code maxLocals ret, Jvm.Cond.code ({ cls := "kombos/io/FieldBytes", name := "<init>", desc := "(I)V" } : Jvm.MethodName) prog_57_method_2_code (2 : Nat) (Option.none : Option Jvm.ClassFile.FieldType), Jvm.Cond.code ({ cls := "java/lang/Object", name := "<init>", desc := "()V" } : Jvm.MethodName) object_method_1_code (1 : Nat) (Option.none : Option Jvm.ClassFile.FieldType), Jvm.Cond.code ({ cls := "kombos/io/FieldBytes", name := "startInPlace", desc := "([B)Z" } : Jvm.MethodName) prog_57_method_9_code (2 : Nat) (Option.some Jvm.ClassFile.FieldType.boolean), Jvm.Cond.code ({ cls := "java/lang/Math", name := "min", desc := "(II)I" } : Jvm.MethodName) jdk_29_method_69_code (2 : Nat) (Option.some Jvm.ClassFile.FieldType.int), Jvm.Cond.code ({ cls := "kombos/io/FieldBytes", name := "append", desc := "(I)V" } : Jvm.MethodName) prog_57_method_5_code (2 : Nat) (Option.none : Option Jvm.ClassFile.FieldType), Jvm.Cond.code ({ cls := "kombos/io/FieldBytes", name := "room", desc := "(I)I" } : Jvm.MethodName) prog_57_method_7_code (3 : Nat) (Option.some Jvm.ClassFile.FieldType.int), Jvm.Cond.code ({ cls := "kombos/io/FieldBytes", name := "bitsOf", desc := "(B)I" } : Jvm.MethodName) prog_57_method_3_code (1 : Nat) (Option.some Jvm.ClassFile.FieldType.int), Jvm.Cond.code ({ cls := "kombos/io/FieldBytes", name := "endField", desc := "()Ljava/lang/String;" } : Jvm.MethodName) prog_57_method_8_code (2 : Nat) (Option.some (Jvm.ClassFile.FieldType.object "java/lang/String")), Jvm.Cond.code ({ cls := "kombos/graph/Utf8", name := "isValid", desc := "([BII)Z" } : Jvm.MethodName) prog_50_method_2_code (10 : Nat) (Option.some Jvm.ClassFile.FieldType.boolean), Jvm.Cond.code ({ cls := "kombos/io/FieldBytes", name := "mark", desc := "(III)V" } : Jvm.MethodName) prog_57_method_11_code (4 : Nat) (Option.none : Option Jvm.ClassFile.FieldType), Jvm.Cond.code ({ cls := "kombos/io/FieldBytes", name := "clear", desc := "()V" } : Jvm.MethodName) prog_57_method_4_code (1 : Nat) (Option.none : Option Jvm.ClassFile.FieldType), Jvm.Cond.code ({ cls := "kombos/io/FieldBytes", name := "count", desc := "()I" } : Jvm.MethodName) prog_57_method_14_code (1 : Nat) (Option.some Jvm.ClassFile.FieldType.int), Jvm.Cond.code ({ cls := "kombos/io/FieldBytes", name := "recordProblem", desc := "()Ljava/lang/String;" } : Jvm.MethodName) prog_57_method_12_code (1 : Nat) (Option.some (Jvm.ClassFile.FieldType.object "java/lang/String")), Jvm.Cond.code ({ cls := "kombos/io/FieldBytes", name := "bytes", desc := "()[B" } : Jvm.MethodName) prog_57_method_15_code (1 : Nat) (Option.some (Jvm.ClassFile.FieldType.array Jvm.ClassFile.FieldType.byte)), Jvm.Cond.code ({ cls := "kombos/io/FieldBytes", name := "start", desc := "(I)I" } : Jvm.MethodName) prog_57_method_16_code (2 : Nat) (Option.some Jvm.ClassFile.FieldType.int), Jvm.Cond.code ({ cls := "kombos/io/FieldBytes", name := "end", desc := "(I)I" } : Jvm.MethodName) prog_57_method_17_code (2 : Nat) (Option.some Jvm.ClassFile.FieldType.int), Jvm.Cond.code ({ cls := "kombos/io/FieldBytes", name := "isPlain", desc := "(I)Z" } : Jvm.MethodName) prog_57_method_18_code (2 : Nat) (Option.some Jvm.ClassFile.FieldType.boolean)]
set_option maxRecDepth 65536 in
theorem codes_eq : words1.filter isCode = codes1 := rfl
theorem w_codes : ∀ c ∈ words1.filter isCode, c.before args0 about1 = true := by
  rw [codes_eq]
  intro c hc
  simp only [codes1, List.mem_cons, List.not_mem_nil, or_false] at hc
  rcases hc with rfl | rfl | rfl | rfl | rfl | rfl | rfl | rfl | rfl | rfl | rfl | rfl | rfl | rfl | rfl | rfl | rfl | rfl
  · exact w_c0
  · exact w_c1
  · exact w_c2
  · exact w_c3
  · exact w_c4
  · exact w_c5
  · exact w_c6
  · exact w_c7
  · exact w_c8
  · exact w_c9
  · exact w_c10
  · exact w_c11
  · exact w_c12
  · exact w_c13
  · exact w_c14
  · exact w_c15
  · exact w_c16
  · exact w_c17
set_option maxRecDepth 65536 in
theorem w_t1 : (words1.take 24).all (fun c => isCode c || c.before args0 about1) = true := by decide +kernel
set_option maxRecDepth 65536 in
theorem w_t2 : ((words1.drop 24).take 24).all (fun c => isCode c || c.before args0 about1) = true := by decide +kernel
set_option maxRecDepth 65536 in
theorem w_t3 : (((words1.drop 24).drop 24).take 24).all (fun c => isCode c || c.before args0 about1) = true := by decide +kernel
set_option maxRecDepth 65536 in
theorem w_t4 : ((((words1.drop 24).drop 24).drop 24).take 24).all (fun c => isCode c || c.before args0 about1) = true := by decide +kernel
set_option maxRecDepth 65536 in
theorem w_t5 : ((((words1.drop 24).drop 24).drop 24).drop 24).all (fun c => isCode c || c.before args0 about1) = true := by decide +kernel
theorem w_tables : (allAtoms (Jvm.Cond.code x code maxLocals ret :: tables_1)).before args0 about1 = true := by
  rw [allAtoms_all]
  show words1.all (fun c => c.before args0 about1) = true
  refine all_split ?_ w_codes
  rw [← List.take_append_drop 24 words1, List.all_append, w_t1, ← List.take_append_drop 24 (words1.drop 24), List.all_append, w_t2, ← List.take_append_drop 24 ((words1.drop 24).drop 24), List.all_append, w_t3, ← List.take_append_drop 24 (((words1.drop 24).drop 24).drop 24), List.all_append, w_t4, w_t5]
  rfl
set_option maxRecDepth 65536 in
theorem w_case : (Jvm.Cond.and given_1 narrow_1).before args0 about1 = true := by decide +kernel
theorem w_applies : (headSpec (Jvm.Cond.code x code maxLocals ret :: tables_1) room_1).applies x e0.platform about1 = true :=
  (Spec.applies_iff w_frames).mpr ⟨w_running, w_runnable, w_alone, w_named, w_hears, w_ripe, w_room, w_tables⟩
theorem atStart : AtStart classFile x code maxLocals ret World_1 tables_1 room_1 Calls_1 rest_1 Pre_1 launch0 p0 e0 about1 theMethod args0 below0 :=
  ⟨lists_1, trivial, launch0.admits_env _ _ _, launch0.least_env, fairChoices_fair.cas, fairChoices_fair.clock, w_frames, w_args, w_heap, w_applies, trivial, trivial, w_case⟩
end start1
theorem witness_1 : WitnessClaimed_1 := ⟨start1.p0, start1.e0, start1.about1, start1.theMethod, start1.args0, start1.below0, start1.atStart⟩
end Jvm.Pilot.@@N@@
