import JvmDerived
import JvmDerived.Pilot.@@N@@Statement
import JvmDerived.Pilot.@@N@@Code
set_option linter.unusedVariables false
set_option linter.unusedSimpArgs false
set_option maxHeartbeats 4000000
namespace Jvm.Pilot.@@N@@
open Jvm Jvm.ClassFile Sem Op Lib Jvm.Free Jvm.Stand Jvm.LawKit Jvm.RoadKit Bundle Jvm.Pilot.@@N@@.Jvm.D
/-! own kit: a walk read backwards: G T g says that from the state T with g on top the body comes to a good end -/
section OwnKit
variable {p : Program} {l : Launch} {e : Env} {R : Room} {s : State} {m : MethodId} {args : Array Value} {below : List Frame} {meth : Method} {c : Code} {T : State} {cells slots : Nat} {Z : State} {a0 : Array Value} {h : Heap} {n0 : Nat} {G : State → JFrame → Prop} {Q : Option Value → Heap → Prop}
def Clo (p : Program) (e : Env) (below : List Frame) (G : State → JFrame → Prop) : Prop := ∀ (T T' : State) (g g' : JFrame), (∀ t, Steps p.tables e below (T'.setTop g') t → Steps p.tables e below (T.setTop g) t) → G T' g' → G T g
theorem Clo.go (hs : Clo p e below G) {T T' : State} {g g' : JFrame} (st : ∀ t, Steps p.tables e below (T'.setTop g') t → Steps p.tables e below (T.setTop g) t) (k : G T' g') : G T g := hs T T' g g' st k
def Sd (p : Program) (l : Launch) (e : Env) (R : Room) (s : State) (m : MethodId) (args : Array Value) (below : List Frame) (meth : Method) (c : Code) (n0 : Nat) (T : State) (h : Heap) (cells slots : Nat) : Prop := ∃ locs, Stand p l e R s m args below meth c T locs cells slots ∧ Fr n0 locs ∧ T.heap = h
theorem Sd.here (X : Sd p l e R s m args below meth c n0 T h cells slots) : At T m c below := by obtain ⟨_, X, _⟩ := X; exact X.here
theorem Sd.more (X : Sd p l e R s m args below meth c n0 T h cells slots) {k n : Nat} (hk : cells ≤ k) (hn : slots ≤ n) : Sd p l e R s m args below meth c n0 T h k n := by obtain ⟨L, X, N⟩ := X; exact ⟨L, X.more hk hn, N⟩
/-- how a body ends -/
def Fnl (p : Program) (l : Launch) (e : Env) (R : Room) (s : State) (m : MethodId) (args : Array Value) (below : List Frame) (meth : Method) (c : Code) (n0 : Nat) (Q : Option Value → Heap → Prop) (G : State → JFrame → Prop) : Prop :=
  ∀ (T : State) (h : Heap) (k n : Nat) (g : JFrame) (v : Option Value), Sd p l e R s m args below meth c n0 T h k n → k ≤ R.cells → n ≤ R.slots → (meth.sig.returnType = none → v = none) →
    (∀ fs, (∀ (f : JFrame) (acts : List Action), f.method = m → f.locked = none → f.entered = [] → (doReturn e (T.setTop f) acts v).1 = T.setFrames fs) → Steps p.tables e below (T.setTop g) (T.setFrames fs)) → Q v h → G T g
/-- a body's contract -/
def Con (l : Launch) (Z : State) (y : MethodName) (bytes : ByteArray) (maxL : Nat) (ret : Option FieldType) (ws : List Jvm.Cond) (rm : Room) (as' : Array Value) (h : Heap) (n0 : Nat) (Q : Option Value → Heap → Prop) : Prop :=
  MetFree l y (head1 (Jvm.Cond.code y bytes maxL ret :: ws) rm) (fun a U => a = as' ∧ Z.Warmed39 U.vm ∧ U.heap = h) (fun _ _ _ _ _ => True)
    (fun _ U o U' => ∃ v L, o = .returned v ∧ (Q v U'.heap ∧ Fr n0 L) ∧ FrameEnd U o U' L rm.cells rm.slots)
theorem Con.of {y : MethodName} {bytes : ByteArray} {maxL : Nat} {ret : Option FieldType} {ws : List Jvm.Cond} {rm : Room} {as' : Array Value} (hp : plainFor y = true)
    (body : ∀ (G : State → JFrame → Prop) (p : Program) (e : Env) (s : State) (m : MethodId) (below : List Frame) (meth : Method) (c : Code) (s₁ : State),
      Clo p e below G → p.tables.exec = Jvm.exec → c.code = bytes → c.maxLocals = maxL → s.vm.findClass y.cls = some m.cls → meth.name = y.name → meth.sig.returnType = ret → Z.Warmed39 s.vm →
      Sd p l e rm s m as' below meth c n0 s₁ h 0 0 → Fnl p l e rm s m as' below meth c n0 Q G → G s₁ (entryFrame m as' maxL)) : Con l Z y bytes maxL ret ws rm as' h n0 Q := by
  refine MetFree.of_bodySF hp hisR ?_
  intro p e s m args below meth c s₁ Bd hml hP hK
  obtain ⟨ha, hZ, hh⟩ := hP
  subst ha
  refine body (fun T g => ∃ s₂ o, Steps p.tables e below (T.setTop g) s₂ ∧ s₂.status = .running ∧ Ended s₂ below o ∧ ∃ v L, o = .returned v ∧ (Q v s₂.heap ∧ Fr n0 L) ∧ FrameEnd s o s₂ L rm.cells rm.slots) p e s m below meth c s₁ ?_ Bd.exec Bd.bytes hml (findClass_of_methodNamed Bd.named) (name_of_methodNamed Bd.named Bd.method).1 Bd.returns hZ ⟨[], Stand.of_body Bd, Fr.nil n0, by rw [← hh, Bd.state]; rfl⟩ ?_
  · intro T T' g g' st ⟨s₂, o, h1, r⟩
    exact ⟨s₂, o, st _ h1, r⟩
  · intro T h k n g v ⟨locs, X, N, eh⟩ hk hn hv st q
    obtain ⟨fs, hr, hrun, hended, hW, hsame⟩ := X.leave (v := v) hv Bd.notSynchronized
    exact ⟨_, _, st fs hr, hrun, hended, v, locs, rfl, ⟨by show Q v T.heap; rw [eh]; exact q, N⟩, ⟨_, rfl⟩, hW, hsame.mono hk hn⟩
theorem rRetI (fin : Fnl p l e R s m args below meth c n0 Q G) (X : Sd p l e R s m args below meth c n0 T h cells slots) (hx : p.tables.exec = Jvm.exec) (hk : cells ≤ R.cells) (hn : slots ≤ R.slots) (hret : meth.sig.returnType = some .int) {pc : Nat} {Ls : Array Slot} {z : Int32} {rest : List Value} (hd : decode c.code pc = .ok (.ireturn, 1)) (q : Q (some (.int z)) h) : G T (mkF m pc Ls (.int z :: rest)) :=
  fin T h cells slots _ (some (.int z)) X hk hn (fun h => by rw [hret] at h; cases h) (fun fs hr => by obtain ⟨_, X, _⟩ := X; exact retOut X hx hret rfl (Or.inl ⟨rfl, Or.inl rfl, _, rfl⟩) hd hr) q
theorem rRetN (fin : Fnl p l e R s m args below meth c n0 Q G) (X : Sd p l e R s m args below meth c n0 T h cells slots) (hx : p.tables.exec = Jvm.exec) (hk : cells ≤ R.cells) (hn : slots ≤ R.slots) {t : FieldType} (hret : meth.sig.returnType = some t) (ht : t = .boolean ∨ t = .byte ∨ t = .char ∨ t = .short) {pc : Nat} {Ls : Array Slot} {z z' : Int32} {rest : List Value} (hd : decode c.code pc = .ok (.ireturn, 1)) (hz : nar t z = z') (q : Q (some (.int z')) h) : G T (mkF m pc Ls (.int z :: rest)) :=
  fin T h cells slots _ (some (.int (nar t z))) X hk hn (fun h => by rw [hret] at h; cases h) (fun fs hr => by obtain ⟨_, X, _⟩ := X; exact retN X hx hret ht hd hr) (hz ▸ q)
theorem rRetL (fin : Fnl p l e R s m args below meth c n0 Q G) (X : Sd p l e R s m args below meth c n0 T h cells slots) (hx : p.tables.exec = Jvm.exec) (hk : cells ≤ R.cells) (hn : slots ≤ R.slots) (hret : meth.sig.returnType = some .long) {pc : Nat} {Ls : Array Slot} {z : Int64} {rest : List Value} (hd : decode c.code pc = .ok (.lreturn, 1)) (q : Q (some (.long z)) h) : G T (mkF m pc Ls (.long z :: rest)) :=
  fin T h cells slots _ (some (.long z)) X hk hn (fun h => by rw [hret] at h; cases h) (fun fs hr => by obtain ⟨_, X, _⟩ := X; exact retOut X hx hret rfl (Or.inr (Or.inl ⟨rfl, rfl, _, rfl⟩)) hd hr) q
theorem rRetA (fin : Fnl p l e R s m args below meth c n0 Q G) (X : Sd p l e R s m args below meth c n0 T h cells slots) (hx : p.tables.exec = Jvm.exec) (hk : cells ≤ R.cells) (hn : slots ≤ R.slots) {t : FieldType} (hret : meth.sig.returnType = some t) (ht : t.isReference = true) {pc : Nat} {Ls : Array Slot} {z : Value} (hz : z.isRef = true) (hw : narrow t z = z) {rest : List Value} (hd : decode c.code pc = .ok (.areturn, 1)) (q : Q (some z) h) : G T (mkF m pc Ls (z :: rest)) :=
  fin T h cells slots _ (some z) X hk hn (fun h => by rw [hret] at h; cases h) (fun fs hr => by obtain ⟨_, X, _⟩ := X; exact retOut X hx hret hw (Or.inr (Or.inr (Or.inr (Or.inr ⟨rfl, ht, hz⟩)))) hd hr) q
theorem rRetD (fin : Fnl p l e R s m args below meth c n0 Q G) (X : Sd p l e R s m args below meth c n0 T h cells slots) (hx : p.tables.exec = Jvm.exec) (hk : cells ≤ R.cells) (hn : slots ≤ R.slots) (hret : meth.sig.returnType = some .double) {pc : Nat} {Ls : Array Slot} {z : UInt64} {rest : List Value} (hd : decode c.code pc = .ok (.dreturn, 1)) (q : Q (some (.double z)) h) : G T (mkF m pc Ls (.double z :: rest)) :=
  fin T h cells slots _ (some (.double z)) X hk hn (fun h => by rw [hret] at h; cases h) (fun fs hr => by obtain ⟨_, X, _⟩ := X; exact retOut X hx hret rfl (Or.inr (Or.inr (Or.inl ⟨rfl, rfl, _, rfl⟩))) hd hr) q
theorem rRetV (fin : Fnl p l e R s m args below meth c n0 Q G) (X : Sd p l e R s m args below meth c n0 T h cells slots) (hx : p.tables.exec = Jvm.exec) (hk : cells ≤ R.cells) (hn : slots ≤ R.slots) (hret : meth.sig.returnType = none) {pc : Nat} {Ls : Array Slot} (hd : decode c.code pc = .ok (.return_, 1)) (q : Q none h) : G T (mkF m pc Ls []) :=
  fin T h cells slots _ none X hk hn (fun _ => rfl) (fun fs hr => by obtain ⟨_, X, _⟩ := X; exact X.returnOut hx hret hd hr) q
theorem rLdcI (hs : Clo p e below G) (X : Sd p l e R s m args below meth c n0 T h cells slots) (hx : p.tables.exec = Jvm.exec) (hZ : Z.Warmed39 s.vm) {own : String} {index : Nat} {v : Int32} (hown : s.vm.findClass own = some m.cls) (w : (Jvm.Cond.constant own index v).before a0 Z = true) {g : JFrame} (hg : g.method = m) (hd : decode c.code g.pc = .ok (.ldc index, 2)) (k : G T { g with pc := g.pc + 2, stack := .int v :: g.stack }) : G T g := by
  obtain ⟨_, X, _⟩ := X
  exact hs.go (X.ldcInt hx hown (mvT hZ w) hg hd) k
theorem rLdcL (hs : Clo p e below G) (X : Sd p l e R s m args below meth c n0 T h cells slots) (hx : p.tables.exec = Jvm.exec) (hZ : Z.Warmed39 s.vm) {own : String} {index : Nat} {v : Int64} (hown : s.vm.findClass own = some m.cls) (w : (Jvm.Cond.constantLong own index v).before a0 Z = true) {g : JFrame} (hg : g.method = m) (hd : decode c.code g.pc = .ok (.ldc2_w index, 3)) (k : G T { g with pc := g.pc + 3, stack := .long v :: g.stack }) : G T g := by
  obtain ⟨_, X, _⟩ := X
  exact hs.go (X.ldc2Long hx hown (mvT hZ w) hg hd) k
theorem rLdcD (hs : Clo p e below G) (X : Sd p l e R s m args below meth c n0 T h cells slots) (hx : p.tables.exec = Jvm.exec) (hZ : Z.Warmed39 s.vm) {own : String} {index : Nat} {v : UInt64} (hown : s.vm.findClass own = some m.cls) (w : (Jvm.Cond.constantDouble own index v).before a0 Z = true) {g : JFrame} (hg : g.method = m) (hd : decode c.code g.pc = .ok (.ldc2_w index, 3)) (k : G T { g with pc := g.pc + 3, stack := .double v :: g.stack }) : G T g := by
  obtain ⟨_, X, _⟩ := X
  exact hs.go (X.ldc2DoubleC hx hown (mvT hZ w) hg hd) k
theorem rIrem (hs : Clo p e below G) (X : Sd p l e R s m args below meth c n0 T h cells slots) (hx : p.tables.exec = Jvm.exec) {g : JFrame} (hg : g.method = m) {x y : Int32} {rest : List Value} (hd : decode c.code g.pc = .ok (.irem, 1)) (hst : g.stack = .int y :: .int x :: rest) (hy : y ≠ 0) (k : G T { g with pc := g.pc + 1, stack := .int (x % y) :: rest }) : G T g := by
  obtain ⟨_, X, _⟩ := X
  exact hs.go (fun _ q => iremM X hx hg hd hst hy q) k
theorem rLrem (hs : Clo p e below G) (X : Sd p l e R s m args below meth c n0 T h cells slots) (hx : p.tables.exec = Jvm.exec) {g : JFrame} (hg : g.method = m) {x y : Int64} {rest : List Value} (hd : decode c.code g.pc = .ok (.lrem, 1)) (hst : g.stack = .long y :: .long x :: rest) (hy : y ≠ 0) (k : G T { g with pc := g.pc + 1, stack := .long (x % y) :: rest }) : G T g :=
  hs.go (fun _ q => XS.lrem X.here hx hg hd hst hy q) (by rw [lrem_mod]; exact k)
/-! arrays -/
theorem rNewP (hs : Clo p e below G) (X : Sd p l e R s m args below meth c n0 T h cells slots) (hx : p.tables.exec = Jvm.exec) (hZ : Z.Warmed39 s.vm) {aty : ArrayType} (w : (Jvm.Cond.arrayClass (newarray.typeOf aty)).before a0 Z = true) {g : JFrame} (hg : g.method = m) (hd : decode c.code g.pc = .ok (.newarray aty, 2)) {n : Int32} {rest : List Value} (hst : g.stack = .int n :: rest)
    (hn : ¬ n < 0) (cap len : Nat) (hcap : n.toNatClampNeg ≤ cap) (hb : cap * 8 ≤ 536870912) (hc : cells + 1 ≤ R.cells) (hl : slots + cap ≤ R.slots)
    (k : ∀ (T' : State) (h' : Heap) (cA : ClassId) (b : Addr), b = h.size → Sd p l e R s m args below meth c n0 T' h' (cells + 1) (slots + cap) → Ext h h' → Arv Z h' b cA (newarray.typeOf aty) n (List.replicate len (defaultValue (newarray.typeOf aty))) (defaultValue (newarray.typeOf aty)) → G T' { g with pc := g.pc + 2, stack := .ref b :: rest }) : G T g := by
  obtain ⟨L, X, N, eh⟩ := X
  obtain ⟨T', h', cA, X', e', E, A, st⟩ := newP X hx hZ w eh hg hd hst hn hcap hb hc hl
  exact hs.go st (k T' h' cA h.size rfl ⟨L, X', N, e'⟩ E ((Arv.new A hn).pad (pad_rep [] _ len)))
theorem rStI (hs : Clo p e below G) (X : Sd p l e R s m args below meth c n0 T h cells slots) (hx : p.tables.exec = Jvm.exec) (hZ : Z.Warmed39 s.vm) {a : Addr} {kc : ClassId} {z : Int32} {vs : List Value} {dv : Value} (V : Arv Z h a kc .int z vs dv) (ga : n0 ≤ a) {j x : Int32} (hj : ¬ j < 0 ∧ j < z) (i : Nat) (hi : j.toNatClampNeg = i) (hl : i < vs.length)
    {g : JFrame} (hg : g.method = m) {rest : List Value} (hst : g.stack = .int x :: .int j :: .ref a :: rest) (hd : decode c.code g.pc = .ok (.iastore, 1))
    (k : ∀ (T' : State) (h' : Heap), Sd p l e R s m args below meth c n0 T' h' cells slots → Wr h h' a i (.int x) → Arv Z h' a kc .int z (vs.set i (.int x)) dv → G T' { g with pc := g.pc + 1, stack := rest }) : G T g := by
  obtain ⟨L, X, N, eh⟩ := X
  obtain ⟨cl, A, q1, S, q3, H, F⟩ := V
  obtain ⟨T', h', X', e', W, st⟩ := stI X hx hZ eh A (j := j) (inb_of S hj) hg hst hd
  exact hs.go st (k T' h' ⟨_, X', Fr.snoc X' N ga, e'⟩ (hi ▸ W) (Arv.set A q1 S q3 H F rfl W i hi hl))
theorem rStB (hs : Clo p e below G) (X : Sd p l e R s m args below meth c n0 T h cells slots) (hx : p.tables.exec = Jvm.exec) (hZ : Z.Warmed39 s.vm) {a : Addr} {kc : ClassId} {z : Int32} {vs : List Value} {dv : Value} (V : Arv Z h a kc .byte z vs dv) (ga : n0 ≤ a) {j x x' : Int32} (hj : ¬ j < 0 ∧ j < z) (i : Nat) (hi : j.toNatClampNeg = i) (hl : i < vs.length) (hnx : x.toInt8.toInt32 = x')
    {g : JFrame} (hg : g.method = m) {rest : List Value} (hst : g.stack = .int x :: .int j :: .ref a :: rest) (hd : decode c.code g.pc = .ok (.bastore, 1))
    (k : ∀ (T' : State) (h' : Heap), Sd p l e R s m args below meth c n0 T' h' cells slots → Wr h h' a i (.int x') → Arv Z h' a kc .byte z (vs.set i (.int x')) dv → G T' { g with pc := g.pc + 1, stack := rest }) : G T g := by
  obtain ⟨L, X, N, eh⟩ := X
  obtain ⟨cl, A, q1, S, q3, H, F⟩ := V
  obtain ⟨T', h', X', e', W, st⟩ := stB X hx hZ eh A (j := j) (inb_of S hj) hg hst hd
  subst hnx
  exact hs.go st (k T' h' ⟨_, X', Fr.snoc X' N ga, e'⟩ (hi ▸ W) (Arv.set A q1 S q3 H F (fits_nar_byte _) W i hi hl))
theorem rStC (hs : Clo p e below G) (X : Sd p l e R s m args below meth c n0 T h cells slots) (hx : p.tables.exec = Jvm.exec) (hZ : Z.Warmed39 s.vm) {a : Addr} {kc : ClassId} {z : Int32} {vs : List Value} {dv : Value} (V : Arv Z h a kc .char z vs dv) (ga : n0 ≤ a) {j x x' : Int32} (hj : ¬ j < 0 ∧ j < z) (i : Nat) (hi : j.toNatClampNeg = i) (hl : i < vs.length) (hnx : nar .char x = x')
    {g : JFrame} (hg : g.method = m) {rest : List Value} (hst : g.stack = .int x :: .int j :: .ref a :: rest) (hd : decode c.code g.pc = .ok (.castore, 1))
    (k : ∀ (T' : State) (h' : Heap), Sd p l e R s m args below meth c n0 T' h' cells slots → Wr h h' a i (.int x') → Arv Z h' a kc .char z (vs.set i (.int x')) dv → G T' { g with pc := g.pc + 1, stack := rest }) : G T g := by
  obtain ⟨L, X, N, eh⟩ := X
  obtain ⟨cl, A, q1, S, q3, H, F⟩ := V
  obtain ⟨T', h', X', e', W, st⟩ := stC X hx hZ eh A (j := j) (inb_of S hj) hg hst hd
  subst hnx
  exact hs.go st (k T' h' ⟨_, X', Fr.snoc X' N ga, e'⟩ (hi ▸ W) (Arv.set A q1 S q3 H F (fits_nar_char _) W i hi hl))
theorem rLdI (hs : Clo p e below G) (X : Sd p l e R s m args below meth c n0 T h cells slots) (hx : p.tables.exec = Jvm.exec) (hZ : Z.Warmed39 s.vm) {a : Addr} {kc : ClassId} {z : Int32} {vs : List Value} {dv : Value} (V : Arv Z h a kc .int z vs dv) {j : Int32} (hj : ¬ j < 0 ∧ j < z) {v : Value} (hv : vs.getD j.toNatClampNeg dv = v)
    {g : JFrame} (hg : g.method = m) {rest : List Value} (hst : g.stack = .int j :: .ref a :: rest) (hd : decode c.code g.pc = .ok (.iaload, 1)) (k : G T { g with pc := g.pc + 1, stack := v :: rest }) : G T g := by
  obtain ⟨L, X, N, eh⟩ := X
  obtain ⟨cl, A, q1, S, q3, H, F⟩ := V
  exact hs.go (X.iaload hx (j := j) (v := v) (by rw [eh]; exact A.1) (State.isArrayOf_alike hZ.alike A.2.1) A.2.2 (inb_of S hj) (H.at (inb_of S hj) hv) hg hst hd) k
theorem rLdB (hs : Clo p e below G) (X : Sd p l e R s m args below meth c n0 T h cells slots) (hx : p.tables.exec = Jvm.exec) (hZ : Z.Warmed39 s.vm) {a : Addr} {kc : ClassId} {z : Int32} {vs : List Value} {dv : Value} (V : Arv Z h a kc .byte z vs dv) {j : Int32} (hj : ¬ j < 0 ∧ j < z) {v : Value} (hv : vs.getD j.toNatClampNeg dv = v)
    {g : JFrame} (hg : g.method = m) {rest : List Value} (hst : g.stack = .int j :: .ref a :: rest) (hd : decode c.code g.pc = .ok (.baload, 1)) (k : G T { g with pc := g.pc + 1, stack := v :: rest }) : G T g := by
  obtain ⟨L, X, N, eh⟩ := X
  obtain ⟨cl, A, q1, S, q3, H, F⟩ := V
  exact hs.go (X.baloadBytes hx (j := j) (v := v) (by rw [eh]; exact A.1) (State.isArrayOf_alike hZ.alike A.2.1) A.2.2 (inb_of S hj) (H.at (inb_of S hj) hv) hg hst hd) k
theorem rLdC (hs : Clo p e below G) (X : Sd p l e R s m args below meth c n0 T h cells slots) (hx : p.tables.exec = Jvm.exec) (hZ : Z.Warmed39 s.vm) {a : Addr} {kc : ClassId} {z : Int32} {vs : List Value} {dv : Value} (V : Arv Z h a kc .char z vs dv) {j : Int32} (hj : ¬ j < 0 ∧ j < z) {v : Value} (hv : vs.getD j.toNatClampNeg dv = v)
    {g : JFrame} (hg : g.method = m) {rest : List Value} (hst : g.stack = .int j :: .ref a :: rest) (hd : decode c.code g.pc = .ok (.caload, 1)) (k : G T { g with pc := g.pc + 1, stack := v :: rest }) : G T g := by
  obtain ⟨L, X, N, eh⟩ := X
  obtain ⟨cl, A, q1, S, q3, H, F⟩ := V
  exact hs.go (X.caload hx (j := j) (v := v) (by rw [eh]; exact A.1) (State.isArrayOf_alike hZ.alike A.2.1) A.2.2 (inb_of S hj) (H.at (inb_of S hj) hv) hg hst hd) k
theorem rLdR (hs : Clo p e below G) (X : Sd p l e R s m args below meth c n0 T h cells slots) (hx : p.tables.exec = Jvm.exec) (hZ : Z.Warmed39 s.vm) {a : Addr} {kc : ClassId} {ty : FieldType} {z : Int32} {vs : List Value} {dv : Value} (V : Arv Z h a kc ty z vs dv) (hty : ty.isReference = true) {j : Int32} (hj : ¬ j < 0 ∧ j < z) {v : Value} (hv : vs.getD j.toNatClampNeg dv = v)
    {g : JFrame} (hg : g.method = m) {rest : List Value} (hst : g.stack = .int j :: .ref a :: rest) (hd : decode c.code g.pc = .ok (.aaload, 1)) (k : G T { g with pc := g.pc + 1, stack := v :: rest }) : G T g := by
  obtain ⟨L, X, N, eh⟩ := X
  obtain ⟨cl, A, q1, S, q3, H, F⟩ := V
  exact hs.go (X.aaload hx (j := j) (v := v) (by rw [eh]; exact A.1) (State.isArrayOf_alike hZ.alike A.2.1) hty A.2.2 (inb_of S hj) (H.at (inb_of S hj) hv) hg hst hd) k
theorem rLen (hs : Clo p e below G) (X : Sd p l e R s m args below meth c n0 T h cells slots) (hx : p.tables.exec = Jvm.exec) (hZ : Z.Warmed39 s.vm) {a : Addr} {kc : ClassId} {ty : FieldType} {z : Int32} {vs : List Value} {dv : Value} (V : Arv Z h a kc ty z vs dv)
    {g : JFrame} (hg : g.method = m) {rest : List Value} (hst : g.stack = .ref a :: rest) (hd : decode c.code g.pc = .ok (.arraylength, 1)) (k : G T { g with pc := g.pc + 1, stack := .int z :: rest }) : G T g := by
  obtain ⟨L, X, N, eh⟩ := X
  obtain ⟨cl, A, q1, S, q3, H, F⟩ := V
  exact hs.go (X.arraylength hx (by rw [eh]; exact A.1) (State.isArrayOf_alike hZ.alike A.2.1) hg hst hd) (by rw [len_of S q3]; exact k)
theorem rNewR (hs : Clo p e below G) (X : Sd p l e R s m args below meth c n0 T h cells slots) (hx : p.tables.exec = Jvm.exec) (hZ : Z.Warmed39 s.vm) {own C : String} {index : Nat} (hown : s.vm.findClass own = some m.cls) (w1 : (Jvm.Cond.classLink own index C).before a0 Z = true) (w2 : (Jvm.Cond.arrayOver (.object C)).before a0 Z = true) {g : JFrame} (hg : g.method = m) (hd : decode c.code g.pc = .ok (.anewarray index, 3)) {n : Int32} {rest : List Value} (hst : g.stack = .int n :: rest)
    (hn : ¬ n < 0) (cap len : Nat) (hcap : n.toNatClampNeg ≤ cap) (hb : cap * 8 ≤ 536870912) (hc : cells + 1 ≤ R.cells) (hl : slots + cap ≤ R.slots)
    (k : ∀ (T' : State) (h' : Heap) (cA : ClassId) (b : Addr), b = h.size → Sd p l e R s m args below meth c n0 T' h' (cells + 1) (slots + cap) → Ext h h' → Arv Z h' b cA (.object C) n (List.replicate len .null) .null → Ovr Z cA C → G T' { g with pc := g.pc + 3, stack := .ref b :: rest }) : G T g := by
  obtain ⟨L, X, N, eh⟩ := X
  obtain ⟨T', h', cA, X', e', E, A, O, st⟩ := newR X hx hZ hown w1 w2 eh hg hd hst hn hcap hb hc hl
  exact hs.go st (k T' h' cA h.size rfl ⟨L, X', N, e'⟩ E ((Arv.new A hn).pad (pad_rep [] _ len)) O)
theorem rStR (hs : Clo p e below G) (X : Sd p l e R s m args below meth c n0 T h cells slots) (hx : p.tables.exec = Jvm.exec) (hZ : Z.Warmed39 s.vm) {a : Addr} {kc : ClassId} {C : String} {z : Int32} {vs : List Value} {dv : Value} (V : Arv Z h a kc (.object C) z vs dv) (O : Ovr Z kc C) (ga : n0 ≤ a) {j : Int32} {y : Addr} (I : Ins Z h y C true) (hj : ¬ j < 0 ∧ j < z) (i : Nat) (hi : j.toNatClampNeg = i) (hl : i < vs.length)
    {g : JFrame} (hg : g.method = m) {rest : List Value} (hst : g.stack = .ref y :: .int j :: .ref a :: rest) (hd : decode c.code g.pc = .ok (.aastore, 1))
    (k : ∀ (T' : State) (h' : Heap), Sd p l e R s m args below meth c n0 T' h' cells slots → Wr h h' a i (.ref y) → Arv Z h' a kc (.object C) z (vs.set i (.ref y)) dv → G T' { g with pc := g.pc + 1, stack := rest }) : G T g := by
  obtain ⟨L, X, N, eh⟩ := X
  obtain ⟨cl, A, q1, S, q3, H, F⟩ := V
  obtain ⟨T', h', X', e', W, st⟩ := stR X hx hZ eh A (j := j) (v := .ref y) (inb_of S hj) rfl (Sto.ofV A q1 O I) hg hst hd
  exact hs.go st (k T' h' ⟨_, X', Fr.snoc X' N ga, e'⟩ (hi ▸ W) (Arv.set A q1 S q3 H F rfl W i hi hl))
/-! objects -/
theorem rNewO (hs : Clo p e below G) (X : Sd p l e R s m args below meth c n0 T h cells slots) (hx : p.tables.exec = Jvm.exec) (hZ : Z.Warmed39 s.vm) {own C : String} {index n : Nat} (hown : s.vm.findClass own = some m.cls) (w : (Jvm.Cond.classLink own index C).before a0 Z = true) (wi : (Jvm.Cond.instantiable C n).before a0 Z = true) (wz : (Jvm.Cond.initialized C).before a0 Z = true)
    {g : JFrame} (hg : g.method = m) (hd : decode c.code g.pc = .ok (.new index, 3)) (hc : cells + 1 ≤ R.cells) (hl : slots + n ≤ R.slots)
    (k : ∀ (T' : State) (h' : Heap) (b : Addr), b = h.size → Sd p l e R s m args below meth c n0 T' h' (cells + 1) (slots + n) → Ext h h' → Exa Z h' b C → (∀ {O nm d : String} {ty : FieldType}, Laid Z a0 C O nm d → parseFieldDescriptor d = some ty → Fld Z h' b O nm d (defaultValue ty)) → G T' { g with pc := g.pc + 3, stack := .ref b :: g.stack }) : G T g := by
  obtain ⟨L, X, N, eh⟩ := X
  obtain ⟨T', h', X', e', E, A, D, -, st⟩ := newO X hx hZ hown w wi wz eh hg hd hc hl
  exact hs.go st (k T' h' h.size rfl ⟨L, X', N, e'⟩ E A D)
theorem rInitO (hs : Clo p e below G) (X : Sd p l e R s m args below meth c n0 T h cells slots) (hx : p.tables.exec = Jvm.exec) (hZ : Z.Warmed39 s.vm) {own : String} {idx : Nat} (hown : s.vm.findClass own = some m.cls) (w1 : (Jvm.Cond.methodLink own idx Lib.objectInit).before a0 Z = true) (w2 : (Jvm.Cond.instanceMethod Lib.objectInit).before a0 Z = true)
    (w3 : (Jvm.Cond.code Lib.objectInit ⟨#[0xb1]⟩ 1 none).before a0 Z = true) {g : JFrame} (hg : g.method = m) (hsize : g.locals.size = c.maxLocals) {a : Addr} {rest : List Value} (hst : g.stack = .ref a :: rest) (hd : decode c.code g.pc = .ok (.invokespecial idx, 3))
    (hf : 1 ≤ R.frames) {W : Nat} (hW : 2 * g.monitorRoom + (rest.map fun v => v.category).sum ≤ W) (hl : W + 12 ≤ R.locals)
    (k : ∀ T' : State, Sd p l e R s m args below meth c n0 T' h cells slots → G T' { g with pc := g.pc + 3, stack := rest }) : G T g := by
  obtain ⟨L, X, N, eh⟩ := X
  obtain ⟨T', X', e', st⟩ := initO X hx hZ hown w1 w2 w3 eh hg hsize hst hd hf hW hl
  exact hs.go st (k T' ⟨L, X', N, e'⟩)
theorem rGetF (hs : Clo p e below G) (X : Sd p l e R s m args below meth c n0 T h cells slots) (hx : p.tables.exec = Jvm.exec) (hZ : Z.Warmed39 s.vm) {own R0 O n d host : String} {index : Nat} (hown : s.vm.findClass own = some m.cls) (w : (Jvm.Cond.fieldLink own index R0 n d).before a0 Z = true ∨ (Jvm.Cond.fieldLinkNest own index R0 n d host).before a0 Z = true) (via : Via Z R0 O n d)
    {a : Addr} {v : Value} (F : Fld Z h a O n d v) {g : JFrame} (hg : g.method = m) {rest : List Value} (hst : g.stack = .ref a :: rest) (hd : decode c.code g.pc = .ok (.getfield index, 3))
    (k : ∀ T' : State, Sd p l e R s m args below meth c n0 T' h cells slots → G T' { g with pc := g.pc + 3, stack := v :: rest }) : G T g := by
  obtain ⟨L, X, N, eh⟩ := X
  obtain ⟨T', X', e', st⟩ := getF X hx hZ hown w via eh F hg hst hd
  exact hs.go st (k T' ⟨L, X', N, e'⟩)
theorem rGetS (hs : Clo p e below G) (X : Sd p l e R s m args below meth c n0 T h cells slots) (hx : p.tables.exec = Jvm.exec) (hZ : Z.Warmed39 s.vm) {own R0 O n d host : String} {index : Nat} (hown : s.vm.findClass own = some m.cls) (w : (Jvm.Cond.fieldLink own index R0 n d).before a0 Z = true ∨ (Jvm.Cond.fieldLinkNest own index R0 n d host).before a0 Z = true) (via : Via Z R0 O n d)
    {v : Value} (F : Sta Z h O n d v) {g : JFrame} (hg : g.method = m) (hd : decode c.code g.pc = .ok (.getstatic index, 3))
    (k : ∀ T' : State, Sd p l e R s m args below meth c n0 T' h cells slots → G T' { g with pc := g.pc + 3, stack := v :: g.stack }) : G T g := by
  obtain ⟨L, X, N, eh⟩ := X
  obtain ⟨T', X', e', st⟩ := getS2 X hx hZ hown w via eh F hg hd
  exact hs.go st (k T' ⟨L, X', N, e'⟩)
theorem rPutF (hs : Clo p e below G) (X : Sd p l e R s m args below meth c n0 T h cells slots) (hx : p.tables.exec = Jvm.exec) (hZ : Z.Warmed39 s.vm) {own R0 O n d host C : String} {index kk : Nat} (ty : FieldType) (hown : s.vm.findClass own = some m.cls) (w : (Jvm.Cond.fieldLink own index R0 n d).before a0 Z = true ∨ (Jvm.Cond.fieldLinkNest own index R0 n d host).before a0 Z = true) (via : Via Z R0 O n d)
    {a : Addr} {v old : Value} (F : Fld Z h a O n d old) (E : Exa Z h a C) (ga : n0 ≤ a) (L : (Jvm.Cond.lays C O n d).before a0 Z = true ∨ ((Jvm.Cond.laysFinal C O n d).before a0 Z = true ∧ own = O ∧ meth.name = "<init>")) (wi : (Jvm.Cond.instantiable C kk).before a0 Z = true)
    (hty : parseFieldDescriptor d = some ty) (hn : narrow ty v = v) (hf : fits ty v = true) {g : JFrame} (hg : g.method = m) {rest : List Value} (hst : g.stack = v :: .ref a :: rest) (hd : decode c.code g.pc = .ok (.putfield index, 3))
    (k : ∀ (T' : State) (h' : Heap), Sd p l e R s m args below meth c n0 T' h' cells slots → Wr h h' a (Jvm.RoadKit.slotOf Z O n d) v → Fld Z h' a O n d v → G T' { g with pc := g.pc + 3, stack := rest }) : G T g := by
  obtain ⟨L0, X, N, eh⟩ := X
  obtain ⟨T', h', X', e', W, st⟩ := putF X hx hZ hown w via eh F E L wi hty hn hf hg hst hd
  exact hs.go st (k T' h' ⟨_, X', Fr.snoc X' N ga, e'⟩ W (F.same W))
/-! calls -/
theorem rCallS (hs : Clo p e below G) (X : Sd p l e R s m args below meth c n0 T h cells slots) (hx : p.tables.exec = Jvm.exec) (hZ : Z.Warmed39 s.vm) {own : String} {index : Nat} {y : MethodName} {bytes : ByteArray} {maxL : Nat} {ret : Option FieldType} {rm : Room} {as' : List Value} {Q' : Option Value → Heap → Prop}
    (hM : Con l Z y bytes maxL ret [] rm as'.toArray h n0 Q') (hown : s.vm.findClass own = some m.cls) (w1 : (Jvm.Cond.methodLink own index y).before a0 Z = true) (w2 : (Jvm.Cond.static y).before a0 Z = true) (w3 : (Jvm.Cond.initialized y.cls).before a0 Z = true) (w4 : (Jvm.Cond.code y bytes maxL ret).before a0 Z = true)
    (hy : y.cls ≠ "java/lang/invoke/MethodHandle" ∧ y.cls ≠ "java/lang/invoke/VarHandle") {g : JFrame} (hg : g.method = m) (hsize : g.locals.size = c.maxLocals) (rest : List Value) (hlen : ∀ sig, parseMethodDescriptor y.desc = some sig → as'.length = sig.parameters.length)
    (hst : g.stack = as'.reverse ++ rest) (W : Nat) (hW : 2 * g.monitorRoom + (rest.map fun v => v.category).sum ≤ W) (hd : decode c.code g.pc = .ok (.invokestatic index, 3))
    (hf : rm.frames + 1 ≤ R.frames) (hl : W + (maxL + 11) + rm.locals ≤ R.locals) (hc : cells + rm.cells ≤ R.cells) (hsl : slots + rm.slots ≤ R.slots)
    (k : ∀ (v : Option Value) (T' : State) (h' : Heap), Sd p l e R s m args below meth c n0 T' h' (cells + rm.cells) (slots + rm.slots) → Q' v h' → G T' { g with pc := g.pc + 3, stack := v.toList ++ rest }) : G T g := by
  obtain ⟨L, X, N, eh⟩ := X
  obtain ⟨v, vm₁, ⟨T', L', k', n'⟩, -, X', ⟨Lc, ⟨hQ, hN⟩, l', y', z'⟩, st⟩ := Jvm.LawKit.callS X hx (y := y) hown (mvT hZ w1) (mvT hZ w2) (mvT hZ w3) (mvT hZ w4) hy (backOf (Q := fun v h L => Q' v h ∧ Fr n0 L) (W := W) hM hZ w4 w3 hf hl) hg hsize (argsL := as') (rest := rest) hlen hst hW hd (fun _ _ => ⟨rfl, eh, hc, hsl⟩)
  dsimp only [Pt.U, Pt.locs, Pt.cells, Pt.slots] at X' l' y' z' st hQ
  subst l' y' z'
  exact hs.go st (k v T' T'.heap ⟨_, X', Fr.app N hN, rfl⟩ hQ)
theorem rCallI (hs : Clo p e below G) (X : Sd p l e R s m args below meth c n0 T h cells slots) (hx : p.tables.exec = Jvm.exec) (hZ : Z.Warmed39 s.vm) {own : String} {index : Nat} {y : MethodName} {bytes : ByteArray} {maxL : Nat} {rm : Room} {a : Addr} {as' : List Value} {Q' : Option Value → Heap → Prop}
    (hM : Con l Z y bytes maxL none [] rm (Value.ref a :: as').toArray h n0 Q') (hyn : y.name = "<init>") (hown : s.vm.findClass own = some m.cls) (w1 : (Jvm.Cond.methodLink own index y).before a0 Z = true) (w2 : (Jvm.Cond.instanceMethod y).before a0 Z = true) (w3 : (Jvm.Cond.initialized y.cls).before a0 Z = true) (w4 : (Jvm.Cond.code y bytes maxL none).before a0 Z = true)
    (hy : y.cls ≠ "java/lang/invoke/MethodHandle" ∧ y.cls ≠ "java/lang/invoke/VarHandle") {g : JFrame} (hg : g.method = m) (hsize : g.locals.size = c.maxLocals) (rest : List Value) (hlen : ∀ sig, parseMethodDescriptor y.desc = some sig → as'.length = sig.parameters.length)
    (hst : g.stack = as'.reverse ++ .ref a :: rest) (W : Nat) (hW : 2 * g.monitorRoom + (rest.map fun v => v.category).sum ≤ W) (hd : decode c.code g.pc = .ok (.invokespecial index, 3))
    (hf : rm.frames + 1 ≤ R.frames) (hl : W + (maxL + 11) + rm.locals ≤ R.locals) (hc : cells + rm.cells ≤ R.cells) (hsl : slots + rm.slots ≤ R.slots)
    (k : ∀ (v : Option Value) (T' : State) (h' : Heap), Sd p l e R s m args below meth c n0 T' h' (cells + rm.cells) (slots + rm.slots) → Q' v h' → G T' { g with pc := g.pc + 3, stack := v.toList ++ rest }) : G T g := by
  obtain ⟨L, X, N, eh⟩ := X
  obtain ⟨v, vm₁, ⟨T', L', k', n'⟩, -, X', ⟨Lc, ⟨hQ, hN⟩, l', y', z'⟩, st⟩ := X.specialBack hx (y := y) hyn hown (mvT hZ w1) (mvT hZ w2) (mvT hZ w4) hy (backOf (Q := fun v h L => Q' v h ∧ Fr n0 L) (W := W) hM hZ w4 w3 hf hl) hg hsize (Steps.refl _) (a := a) (argsL := as') (rest := rest) hlen hst hW hd (fun _ _ => ⟨rfl, eh, hc, hsl⟩)
  dsimp only [Pt.U, Pt.locs, Pt.cells, Pt.slots] at X' l' y' z' st hQ
  subst l' y' z'
  exact hs.go (fun _ q => st.trans q) (k v T' T'.heap ⟨_, X', Fr.app N hN, rfl⟩ hQ)
theorem rCallV (hs : Clo p e below G) (X : Sd p l e R s m args below meth c n0 T h cells slots) (hx : p.tables.exec = Jvm.exec) (hZ : Z.Warmed39 s.vm) {own C : String} {index : Nat} {y : MethodName} {bytes : ByteArray} {maxL : Nat} {ret : Option FieldType} {rm : Room} {a : Addr} {as' : List Value} {Q' : Option Value → Heap → Prop}
    (hM : Con l Z y bytes maxL ret [] rm (Value.ref a :: as').toArray h n0 Q') (E : Exa Z h a C) (hown : s.vm.findClass own = some m.cls) (w1 : (Jvm.Cond.methodLink own index y).before a0 Z = true) (w5 : (Jvm.Cond.declares y).before a0 Z = true) (w6 : (Jvm.Cond.selects C y y).before a0 Z = true) (w2 : (Jvm.Cond.instanceMethod y).before a0 Z = true) (w3 : (Jvm.Cond.initialized y.cls).before a0 Z = true) (w4 : (Jvm.Cond.code y bytes maxL ret).before a0 Z = true)
    (hy : y.cls ≠ "java/lang/invoke/MethodHandle" ∧ y.cls ≠ "java/lang/invoke/VarHandle") {g : JFrame} (hg : g.method = m) (hsize : g.locals.size = c.maxLocals) (rest : List Value) (hlen : ∀ sig, parseMethodDescriptor y.desc = some sig → as'.length = sig.parameters.length)
    (hst : g.stack = as'.reverse ++ .ref a :: rest) (W : Nat) (hW : 2 * g.monitorRoom + (rest.map fun v => v.category).sum ≤ W) (hd : decode c.code g.pc = .ok (.invokevirtual index, 3))
    (hf : rm.frames + 1 ≤ R.frames) (hl : W + (maxL + 11) + rm.locals ≤ R.locals) (hc : cells + rm.cells ≤ R.cells) (hsl : slots + rm.slots ≤ R.slots)
    (k : ∀ (v : Option Value) (T' : State) (h' : Heap), Sd p l e R s m args below meth c n0 T' h' (cells + rm.cells) (slots + rm.slots) → Q' v h' → G T' { g with pc := g.pc + 3, stack := v.toList ++ rest }) : G T g := by
  obtain ⟨L, X, N, eh⟩ := X
  obtain ⟨cB, kB, qa, qb, qc⟩ := isOf (T := T) hZ eh E
  obtain ⟨v, vm₁, ⟨T', L', k', n'⟩, -, X', ⟨Lc, ⟨hQ, hN⟩, l', y', z'⟩, st⟩ := X.virtualBack hx (y := y) (z := y) hown (mvT hZ w1) (mvT hZ w5) (notFace_of_selects (args := #[]) (mvT hZ w6)) (mvT hZ w6) (mvT hZ w2) hy (backOf (Q := fun v h L => Q' v h ∧ Fr n0 L) (W := W) hM hZ w4 w3 hf hl) qa qc hg hsize (Steps.refl _) (argsL := as') (rest := rest) hlen hst hW hd (fun _ _ => ⟨rfl, eh, hc, hsl⟩)
  dsimp only [Pt.U, Pt.locs, Pt.cells, Pt.slots] at X' l' y' z' st hQ
  subst l' y' z'
  exact hs.go (fun _ q => st.trans q) (k v T' T'.heap ⟨_, X', Fr.app N hN, rfl⟩ hQ)
/-! branches -/
theorem ltL {x y : Int64} (h : x < y) : if_icmp.holds .lt (lcmpW x y) 0 = true ∧ if_icmp.holds .ge (lcmpW x y) 0 = false := have q := tlt ((lw_lt x y).mpr h); ⟨q.1, q.2.1⟩
theorem nltL {x y : Int64} (h : ¬ x < y) : if_icmp.holds .lt (lcmpW x y) 0 = false ∧ if_icmp.holds .ge (lcmpW x y) 0 = true := have q := flt (fun z => h ((lw_lt x y).mp z)); ⟨q.1, q.2.1⟩
theorem gtL {x y : Int64} (h : y < x) : if_icmp.holds .gt (lcmpW x y) 0 = true ∧ if_icmp.holds .le (lcmpW x y) 0 = false := have q := tlt ((lw_gt x y).mpr h); ⟨q.2.2.1, q.2.2.2⟩
theorem ngtL {x y : Int64} (h : ¬ y < x) : if_icmp.holds .gt (lcmpW x y) 0 = false ∧ if_icmp.holds .le (lcmpW x y) 0 = true := have q := flt (fun z => h ((lw_gt x y).mp z)); ⟨q.2.2.1, q.2.2.2⟩
theorem eqL {x y : Int64} (h : x = y) : if_icmp.holds .eq (lcmpW x y) 0 = true ∧ if_icmp.holds .ne (lcmpW x y) 0 = false := teq ((lw_eq x y).mpr h)
theorem neqL {x y : Int64} (h : ¬ x = y) : if_icmp.holds .eq (lcmpW x y) 0 = false ∧ if_icmp.holds .ne (lcmpW x y) 0 = true := feq (fun z => h ((lw_eq x y).mp z))
theorem nameIt {α : Type} {P : α → Prop} (x : α) (k : ∀ z, z = x → P z) : P x := k x rfl
theorem eq64 {x y : Int64} (h : x.toInt = y.toInt) : x = y := Int64.toInt_inj.mp h
theorem eq32 {x y : Int32} (h : x.toInt = y.toInt) : x = y := Int32.toInt_inj.mp h
theorem lt64 {x y : Int64} : x < y ↔ x.toInt < y.toInt := Int64.lt_iff_toInt_lt
theorem lt32 {x y : Int32} : x < y ↔ x.toInt < y.toInt := Int32.lt_iff_toInt_lt
theorem e64 {x y : Int64} : x = y ↔ x.toInt = y.toInt := Int64.toInt_inj.symm
theorem e32 {x y : Int32} : x = y ↔ x.toInt = y.toInt := Int32.toInt_inj.symm
theorem c_lremM (x y : Int64) (d : Int) (hy : y.toInt = d) : (0 ≤ x.toInt → (x % y).toInt = x.toInt % d) ∧ (x.toInt < 0 → (x % y).toInt = -((-x.toInt) % d)) := by rw [Int64.toInt_mod, hy]; exact tr _ _
theorem nar_byte (x : Int32) : x.toInt8.toInt32.toInt8.toInt32 = x.toInt8.toInt32 := by simp
end OwnKit

theorem d2_0 : decode prog_144_method_3_code 0 = .ok (.aload_n 0, 1) := by decide +kernel
theorem d2_1 : decode prog_144_method_3_code 1 = .ok (.invokespecial 21, 3) := by decide +kernel
theorem d2_4 : decode prog_144_method_3_code 4 = .ok (.aload_n 0, 1) := by decide +kernel
theorem d2_5 : decode prog_144_method_3_code 5 = .ok (.iload_n 1, 1) := by decide +kernel
theorem d2_6 : decode prog_144_method_3_code 6 = .ok (.putfield 26, 3) := by decide +kernel
theorem d2_9 : decode prog_144_method_3_code 9 = .ok (.aload_n 0, 1) := by decide +kernel
theorem d2_10 : decode prog_144_method_3_code 10 = .ok (.aload_n 2, 1) := by decide +kernel
theorem d2_11 : decode prog_144_method_3_code 11 = .ok (.putfield 30, 3) := by decide +kernel
theorem d2_14 : decode prog_144_method_3_code 14 = .ok (.aload_n 0, 1) := by decide +kernel
theorem d2_15 : decode prog_144_method_3_code 15 = .ok (.aload_n 3, 1) := by decide +kernel
theorem d2_16 : decode prog_144_method_3_code 16 = .ok (.putfield 34, 3) := by decide +kernel
theorem d2_19 : decode prog_144_method_3_code 19 = .ok (.aload_n 0, 1) := by decide +kernel
theorem d2_20 : decode prog_144_method_3_code 20 = .ok (.iload 4, 2) := by decide +kernel
theorem d2_22 : decode prog_144_method_3_code 22 = .ok (.putfield 38, 3) := by decide +kernel
theorem d2_25 : decode prog_144_method_3_code 25 = .ok (.aload_n 0, 1) := by decide +kernel
theorem d2_26 : decode prog_144_method_3_code 26 = .ok (.iload 5, 2) := by decide +kernel
theorem d2_28 : decode prog_144_method_3_code 28 = .ok (.putfield 41, 3) := by decide +kernel
theorem d2_31 : decode prog_144_method_3_code 31 = .ok (.return_, 1) := by decide +kernel
theorem pn_2 : plainFor (⟨"tabeliao/tree/NodePage", "<init>", "(I[B[IIZ)V"⟩ : MethodName) = true := plainFor_of_name (by first | (simp [plainName, overriddenIn]; done) | decide +kernel)
theorem ef_2 (m : MethodId) (x0 : Addr) (x1 : Int32) (x2 : Addr) (x3 : Addr) (x4 : Int32) (x5 : Int32) : entryFrame m #[(.ref x0), (.int x1), (.ref x2), (.ref x3), (.int x4), (.int x5)] 6 = mkF m 0 #[.val (.ref x0), .val (.int x1), .val (.ref x2), .val (.ref x3), .val (.int x4), .val (.int x5)] [] := by first | (simp [entryFrame, mkF, argsToLocals, Value.category]; done) | rfl
theorem hy_2 : ((⟨"tabeliao/tree/NodePage", "<init>", "(I[B[IIZ)V"⟩ : MethodName)).cls ≠ "java/lang/invoke/MethodHandle" ∧ ((⟨"tabeliao/tree/NodePage", "<init>", "(I[B[IIZ)V"⟩ : MethodName)).cls ≠ "java/lang/invoke/VarHandle" := by decide
set_option maxRecDepth 65536 in
set_option maxHeartbeats 40000000 in
theorem rm2 (l : Launch) (Z : State) (a0 : Array Value) (hw : ∀ d ∈ tables_1, d.before a0 Z = true) (ws : List Jvm.Cond) (a : Addr) (p1 : Int32) (a2 a3 : Addr) (p4 : Int32) (h0 : Heap) (n0 : Nat) (Z0 : n0 ≤ h0.size) (E_a : Exa Z h0 a "tabeliao/tree/NodePage") (g_a : n0 ≤ a) (F_prefixAt_a : Fld Z h0 a "tabeliao/tree/NodePage" "prefixAt" "I" (.int (0 : Int32))) (F_bytes_a : Fld Z h0 a "tabeliao/tree/NodePage" "bytes" "[B" .null) (F_starts_a : Fld Z h0 a "tabeliao/tree/NodePage" "starts" "[I" .null) (F_count_a : Fld Z h0 a "tabeliao/tree/NodePage" "count" "I" (.int (0 : Int32))) (F_shared_a : Fld Z h0 a "tabeliao/tree/NodePage" "shared" "Z" (.int (0 : Int32))) :
    Con l Z (⟨"tabeliao/tree/NodePage", "<init>", "(I[B[IIZ)V"⟩ : MethodName) prog_144_method_3_code 6 none ws ({ frames := 1, cells := 0, slots := 0, locals := 12 } : Room) #[(.ref a), (.int p1), (.ref a2), (.ref a3), (.int p4), (.int (1 : Int32))] h0 n0 (fun v h => v = none ∧ Keep h0 h [a] ∧ Exa Z h a "tabeliao/tree/NodePage" ∧ Fld Z h a "tabeliao/tree/NodePage" "starts" "[I" (.ref a3) ∧ Fld Z h a "tabeliao/tree/NodePage" "count" "I" (.int p4)) := by
  refine Con.of pn_2 ?_
  intro G p e s m below meth c s₁ hs hx hby hml hown hnm hret hZ X0 fin
  have hml : c.maxLocals = 6 := hml
  have hown : s.vm.findClass "tabeliao/tree/NodePage" = some m.cls := hown
  rw [ef_2]
  have K := Keep.refl h0 ([a] : List Addr)
  have Ksz := K.1
  show G s₁ (mkF m 0 #[.val (.ref a), .val (.int p1), .val (.ref a2), .val (.ref a3), .val (.int p4), .val (.int (1 : Int32))] [])
  refine hs.go (fun _ kk_ => XS.aloadN X0.here hx rfl (hb hby d2_0) rfl rfl kk_) ?_
  show G s₁ (mkF m 1 #[.val (.ref a), .val (.int p1), .val (.ref a2), .val (.ref a3), .val (.int p4), .val (.int (1 : Int32))] [(.ref a)])
  refine rInitO hs X0 hx hZ hown (hw _ (List.mem_of_getElem? (i := 11) rfl)) (hw _ (List.mem_of_getElem? (i := 12) rfl)) (hw _ (List.mem_of_getElem? (i := 13) rfl)) rfl (by rw [hml]; rfl) rfl (hb hby d2_1) (by decide) (W := 0) (by show 2 * 0 + _ ≤ _; exact Nat.le_of_eq rfl) (by decide) (fun T1 X1 => ?_)
  show G T1 (mkF m 4 #[.val (.ref a), .val (.int p1), .val (.ref a2), .val (.ref a3), .val (.int p4), .val (.int (1 : Int32))] [])
  refine hs.go (fun _ kk_ => XS.aloadN X1.here hx rfl (hb hby d2_4) rfl rfl kk_) ?_
  show G T1 (mkF m 5 #[.val (.ref a), .val (.int p1), .val (.ref a2), .val (.ref a3), .val (.int p4), .val (.int (1 : Int32))] [(.ref a)])
  refine hs.go (fun _ kk_ => XS.iloadN X1.here hx rfl (hb hby d2_5) rfl  kk_) ?_
  show G T1 (mkF m 6 #[.val (.ref a), .val (.int p1), .val (.ref a2), .val (.ref a3), .val (.int p4), .val (.int (1 : Int32))] [(.int p1), (.ref a)])
  refine rPutF hs X1 hx hZ .int hown (host := "") (Or.inl (hw _ (List.mem_of_getElem? (i := 14) rfl))) Via.refl F_prefixAt_a E_a g_a (Or.inr ⟨(hw _ (List.mem_of_getElem? (i := 15) rfl)), rfl, hnm⟩) (hw _ (List.mem_of_getElem? (i := 3) rfl)) (by decide) rfl rfl rfl rfl (hb hby d2_6) (fun T2 h2 X2 W2 F_prefixAt_a => ?_)
  have E_a := E_a.wr W2
  have F_bytes_a := F_bytes_a.other W2 (Or.inr (slot_ne (Or.inl (hw _ (List.mem_of_getElem? (i := 17) rfl))) (Or.inr (hw _ (List.mem_of_getElem? (i := 15) rfl))) (by decide) (t := (.array .byte)) (t' := .int) (by decide) (by decide)))
  have F_starts_a := F_starts_a.other W2 (Or.inr (slot_ne (Or.inl (hw _ (List.mem_of_getElem? (i := 19) rfl))) (Or.inr (hw _ (List.mem_of_getElem? (i := 15) rfl))) (by decide) (t := (.array .int)) (t' := .int) (by decide) (by decide)))
  have F_count_a := F_count_a.other W2 (Or.inr (slot_ne (Or.inl (hw _ (List.mem_of_getElem? (i := 21) rfl))) (Or.inr (hw _ (List.mem_of_getElem? (i := 15) rfl))) (by decide) (t := .int) (t' := .int) (by decide) (by decide)))
  have F_shared_a := F_shared_a.other W2 (Or.inr (slot_ne (Or.inl (hw _ (List.mem_of_getElem? (i := 23) rfl))) (Or.inr (hw _ (List.mem_of_getElem? (i := 15) rfl))) (by decide) (t := .boolean) (t' := .int) (by decide) (by decide)))
  have K := K.wr W2 (Or.inl (by simp))
  have Ksz := K.1
  have Z0 := Nat.le_trans Z0 (Keep.of_wr W2).1
  show G T2 (mkF m 9 #[.val (.ref a), .val (.int p1), .val (.ref a2), .val (.ref a3), .val (.int p4), .val (.int (1 : Int32))] [])
  refine hs.go (fun _ kk_ => XS.aloadN X2.here hx rfl (hb hby d2_9) rfl rfl kk_) ?_
  show G T2 (mkF m 10 #[.val (.ref a), .val (.int p1), .val (.ref a2), .val (.ref a3), .val (.int p4), .val (.int (1 : Int32))] [(.ref a)])
  refine hs.go (fun _ kk_ => XS.aloadN X2.here hx rfl (hb hby d2_10) rfl rfl kk_) ?_
  show G T2 (mkF m 11 #[.val (.ref a), .val (.int p1), .val (.ref a2), .val (.ref a3), .val (.int p4), .val (.int (1 : Int32))] [(.ref a2), (.ref a)])
  refine rPutF hs X2 hx hZ (.array .byte) hown (host := "") (Or.inl (hw _ (List.mem_of_getElem? (i := 16) rfl))) Via.refl F_bytes_a E_a g_a (Or.inl (hw _ (List.mem_of_getElem? (i := 17) rfl))) (hw _ (List.mem_of_getElem? (i := 3) rfl)) (by decide) rfl rfl rfl rfl (hb hby d2_11) (fun T3 h3 X3 W3 F_bytes_a => ?_)
  have E_a := E_a.wr W3
  have F_prefixAt_a := F_prefixAt_a.other W3 (Or.inr (slot_ne (Or.inr (hw _ (List.mem_of_getElem? (i := 15) rfl))) (Or.inl (hw _ (List.mem_of_getElem? (i := 17) rfl))) (by decide) (t := .int) (t' := (.array .byte)) (by decide) (by decide)))
  have F_starts_a := F_starts_a.other W3 (Or.inr (slot_ne (Or.inl (hw _ (List.mem_of_getElem? (i := 19) rfl))) (Or.inl (hw _ (List.mem_of_getElem? (i := 17) rfl))) (by decide) (t := (.array .int)) (t' := (.array .byte)) (by decide) (by decide)))
  have F_count_a := F_count_a.other W3 (Or.inr (slot_ne (Or.inl (hw _ (List.mem_of_getElem? (i := 21) rfl))) (Or.inl (hw _ (List.mem_of_getElem? (i := 17) rfl))) (by decide) (t := .int) (t' := (.array .byte)) (by decide) (by decide)))
  have F_shared_a := F_shared_a.other W3 (Or.inr (slot_ne (Or.inl (hw _ (List.mem_of_getElem? (i := 23) rfl))) (Or.inl (hw _ (List.mem_of_getElem? (i := 17) rfl))) (by decide) (t := .boolean) (t' := (.array .byte)) (by decide) (by decide)))
  have K := K.wr W3 (Or.inl (by simp))
  have Ksz := K.1
  have Z0 := Nat.le_trans Z0 (Keep.of_wr W3).1
  show G T3 (mkF m 14 #[.val (.ref a), .val (.int p1), .val (.ref a2), .val (.ref a3), .val (.int p4), .val (.int (1 : Int32))] [])
  refine hs.go (fun _ kk_ => XS.aloadN X3.here hx rfl (hb hby d2_14) rfl rfl kk_) ?_
  show G T3 (mkF m 15 #[.val (.ref a), .val (.int p1), .val (.ref a2), .val (.ref a3), .val (.int p4), .val (.int (1 : Int32))] [(.ref a)])
  refine hs.go (fun _ kk_ => XS.aloadN X3.here hx rfl (hb hby d2_15) rfl rfl kk_) ?_
  show G T3 (mkF m 16 #[.val (.ref a), .val (.int p1), .val (.ref a2), .val (.ref a3), .val (.int p4), .val (.int (1 : Int32))] [(.ref a3), (.ref a)])
  refine rPutF hs X3 hx hZ (.array .int) hown (host := "") (Or.inl (hw _ (List.mem_of_getElem? (i := 18) rfl))) Via.refl F_starts_a E_a g_a (Or.inl (hw _ (List.mem_of_getElem? (i := 19) rfl))) (hw _ (List.mem_of_getElem? (i := 3) rfl)) (by decide) rfl rfl rfl rfl (hb hby d2_16) (fun T4 h4 X4 W4 F_starts_a => ?_)
  have E_a := E_a.wr W4
  have F_prefixAt_a := F_prefixAt_a.other W4 (Or.inr (slot_ne (Or.inr (hw _ (List.mem_of_getElem? (i := 15) rfl))) (Or.inl (hw _ (List.mem_of_getElem? (i := 19) rfl))) (by decide) (t := .int) (t' := (.array .int)) (by decide) (by decide)))
  have F_bytes_a := F_bytes_a.other W4 (Or.inr (slot_ne (Or.inl (hw _ (List.mem_of_getElem? (i := 17) rfl))) (Or.inl (hw _ (List.mem_of_getElem? (i := 19) rfl))) (by decide) (t := (.array .byte)) (t' := (.array .int)) (by decide) (by decide)))
  have F_count_a := F_count_a.other W4 (Or.inr (slot_ne (Or.inl (hw _ (List.mem_of_getElem? (i := 21) rfl))) (Or.inl (hw _ (List.mem_of_getElem? (i := 19) rfl))) (by decide) (t := .int) (t' := (.array .int)) (by decide) (by decide)))
  have F_shared_a := F_shared_a.other W4 (Or.inr (slot_ne (Or.inl (hw _ (List.mem_of_getElem? (i := 23) rfl))) (Or.inl (hw _ (List.mem_of_getElem? (i := 19) rfl))) (by decide) (t := .boolean) (t' := (.array .int)) (by decide) (by decide)))
  have K := K.wr W4 (Or.inl (by simp))
  have Ksz := K.1
  have Z0 := Nat.le_trans Z0 (Keep.of_wr W4).1
  show G T4 (mkF m 19 #[.val (.ref a), .val (.int p1), .val (.ref a2), .val (.ref a3), .val (.int p4), .val (.int (1 : Int32))] [])
  refine hs.go (fun _ kk_ => XS.aloadN X4.here hx rfl (hb hby d2_19) rfl rfl kk_) ?_
  show G T4 (mkF m 20 #[.val (.ref a), .val (.int p1), .val (.ref a2), .val (.ref a3), .val (.int p4), .val (.int (1 : Int32))] [(.ref a)])
  refine hs.go (fun _ kk_ => XS.iload X4.here hx rfl (hb hby d2_20) rfl  kk_) ?_
  show G T4 (mkF m 22 #[.val (.ref a), .val (.int p1), .val (.ref a2), .val (.ref a3), .val (.int p4), .val (.int (1 : Int32))] [(.int p4), (.ref a)])
  refine rPutF hs X4 hx hZ .int hown (host := "") (Or.inl (hw _ (List.mem_of_getElem? (i := 20) rfl))) Via.refl F_count_a E_a g_a (Or.inl (hw _ (List.mem_of_getElem? (i := 21) rfl))) (hw _ (List.mem_of_getElem? (i := 3) rfl)) (by decide) rfl rfl rfl rfl (hb hby d2_22) (fun T5 h5 X5 W5 F_count_a => ?_)
  have E_a := E_a.wr W5
  have F_prefixAt_a := F_prefixAt_a.other W5 (Or.inr (slot_ne (Or.inr (hw _ (List.mem_of_getElem? (i := 15) rfl))) (Or.inl (hw _ (List.mem_of_getElem? (i := 21) rfl))) (by decide) (t := .int) (t' := .int) (by decide) (by decide)))
  have F_bytes_a := F_bytes_a.other W5 (Or.inr (slot_ne (Or.inl (hw _ (List.mem_of_getElem? (i := 17) rfl))) (Or.inl (hw _ (List.mem_of_getElem? (i := 21) rfl))) (by decide) (t := (.array .byte)) (t' := .int) (by decide) (by decide)))
  have F_starts_a := F_starts_a.other W5 (Or.inr (slot_ne (Or.inl (hw _ (List.mem_of_getElem? (i := 19) rfl))) (Or.inl (hw _ (List.mem_of_getElem? (i := 21) rfl))) (by decide) (t := (.array .int)) (t' := .int) (by decide) (by decide)))
  have F_shared_a := F_shared_a.other W5 (Or.inr (slot_ne (Or.inl (hw _ (List.mem_of_getElem? (i := 23) rfl))) (Or.inl (hw _ (List.mem_of_getElem? (i := 21) rfl))) (by decide) (t := .boolean) (t' := .int) (by decide) (by decide)))
  have K := K.wr W5 (Or.inl (by simp))
  have Ksz := K.1
  have Z0 := Nat.le_trans Z0 (Keep.of_wr W5).1
  show G T5 (mkF m 25 #[.val (.ref a), .val (.int p1), .val (.ref a2), .val (.ref a3), .val (.int p4), .val (.int (1 : Int32))] [])
  refine hs.go (fun _ kk_ => XS.aloadN X5.here hx rfl (hb hby d2_25) rfl rfl kk_) ?_
  show G T5 (mkF m 26 #[.val (.ref a), .val (.int p1), .val (.ref a2), .val (.ref a3), .val (.int p4), .val (.int (1 : Int32))] [(.ref a)])
  refine hs.go (fun _ kk_ => XS.iload X5.here hx rfl (hb hby d2_26) rfl  kk_) ?_
  show G T5 (mkF m 28 #[.val (.ref a), .val (.int p1), .val (.ref a2), .val (.ref a3), .val (.int p4), .val (.int (1 : Int32))] [(.int (1 : Int32)), (.ref a)])
  refine rPutF hs X5 hx hZ .boolean hown (host := "") (Or.inl (hw _ (List.mem_of_getElem? (i := 22) rfl))) Via.refl F_shared_a E_a g_a (Or.inl (hw _ (List.mem_of_getElem? (i := 23) rfl))) (hw _ (List.mem_of_getElem? (i := 3) rfl)) (by decide) rfl rfl rfl rfl (hb hby d2_28) (fun T6 h6 X6 W6 F_shared_a => ?_)
  have E_a := E_a.wr W6
  have F_prefixAt_a := F_prefixAt_a.other W6 (Or.inr (slot_ne (Or.inr (hw _ (List.mem_of_getElem? (i := 15) rfl))) (Or.inl (hw _ (List.mem_of_getElem? (i := 23) rfl))) (by decide) (t := .int) (t' := .boolean) (by decide) (by decide)))
  have F_bytes_a := F_bytes_a.other W6 (Or.inr (slot_ne (Or.inl (hw _ (List.mem_of_getElem? (i := 17) rfl))) (Or.inl (hw _ (List.mem_of_getElem? (i := 23) rfl))) (by decide) (t := (.array .byte)) (t' := .boolean) (by decide) (by decide)))
  have F_starts_a := F_starts_a.other W6 (Or.inr (slot_ne (Or.inl (hw _ (List.mem_of_getElem? (i := 19) rfl))) (Or.inl (hw _ (List.mem_of_getElem? (i := 23) rfl))) (by decide) (t := (.array .int)) (t' := .boolean) (by decide) (by decide)))
  have F_count_a := F_count_a.other W6 (Or.inr (slot_ne (Or.inl (hw _ (List.mem_of_getElem? (i := 21) rfl))) (Or.inl (hw _ (List.mem_of_getElem? (i := 23) rfl))) (by decide) (t := .int) (t' := .boolean) (by decide) (by decide)))
  have K := K.wr W6 (Or.inl (by simp))
  have Ksz := K.1
  have Z0 := Nat.le_trans Z0 (Keep.of_wr W6).1
  show G T6 (mkF m 31 #[.val (.ref a), .val (.int p1), .val (.ref a2), .val (.ref a3), .val (.int p4), .val (.int (1 : Int32))] [])
  exact rRetV fin X6 hx (by decide) (by decide) hret (hb hby d2_31) ⟨rfl, K, E_a, F_starts_a, F_count_a⟩
theorem pd_0 : parseMethodDescriptor "(I[B[IIZ)V" = some ⟨[.int, (.array .byte), (.array .int), .int, .boolean], none⟩ := by decide +kernel
theorem d1_0 : decode prog_144_method_2_code 0 = .ok (.aload_n 0, 1) := by decide +kernel
theorem d1_1 : decode prog_144_method_2_code 1 = .ok (.iload_n 2, 1) := by decide +kernel
theorem d1_2 : decode prog_144_method_2_code 2 = .ok (.aload_n 1, 1) := by decide +kernel
theorem d1_3 : decode prog_144_method_2_code 3 = .ok (.aload_n 3, 1) := by decide +kernel
theorem d1_4 : decode prog_144_method_2_code 4 = .ok (.iload 4, 2) := by decide +kernel
theorem d1_6 : decode prog_144_method_2_code 6 = .ok (.iconst 1, 1) := by decide +kernel
theorem d1_7 : decode prog_144_method_2_code 7 = .ok (.invokespecial 17, 3) := by decide +kernel
theorem d1_10 : decode prog_144_method_2_code 10 = .ok (.return_, 1) := by decide +kernel
theorem pn_1 : plainFor (⟨"tabeliao/tree/NodePage", "<init>", "([BI[II)V"⟩ : MethodName) = true := plainFor_of_name (by first | (simp [plainName, overriddenIn]; done) | decide +kernel)
theorem ef_1 (m : MethodId) (x0 : Addr) (x1 : Addr) (x2 : Int32) (x3 : Addr) (x4 : Int32) : entryFrame m #[(.ref x0), (.ref x1), (.int x2), (.ref x3), (.int x4)] 5 = mkF m 0 #[.val (.ref x0), .val (.ref x1), .val (.int x2), .val (.ref x3), .val (.int x4)] [] := by first | (simp [entryFrame, mkF, argsToLocals, Value.category]; done) | rfl
theorem hy_1 : ((⟨"tabeliao/tree/NodePage", "<init>", "([BI[II)V"⟩ : MethodName)).cls ≠ "java/lang/invoke/MethodHandle" ∧ ((⟨"tabeliao/tree/NodePage", "<init>", "([BI[II)V"⟩ : MethodName)).cls ≠ "java/lang/invoke/VarHandle" := by decide
set_option maxRecDepth 65536 in
set_option maxHeartbeats 40000000 in
theorem rm1 (l : Launch) (Z : State) (a0 : Array Value) (hw : ∀ d ∈ tables_1, d.before a0 Z = true) (ws : List Jvm.Cond) (a a1 : Addr) (p2 : Int32) (a3 : Addr) (p4 : Int32) (h0 : Heap) (n0 : Nat) (Z0 : n0 ≤ h0.size) (E_a : Exa Z h0 a "tabeliao/tree/NodePage") (g_a : n0 ≤ a) (F_prefixAt_a : Fld Z h0 a "tabeliao/tree/NodePage" "prefixAt" "I" (.int (0 : Int32))) (F_bytes_a : Fld Z h0 a "tabeliao/tree/NodePage" "bytes" "[B" .null) (F_starts_a : Fld Z h0 a "tabeliao/tree/NodePage" "starts" "[I" .null) (F_count_a : Fld Z h0 a "tabeliao/tree/NodePage" "count" "I" (.int (0 : Int32))) (F_shared_a : Fld Z h0 a "tabeliao/tree/NodePage" "shared" "Z" (.int (0 : Int32))) :
    Con l Z (⟨"tabeliao/tree/NodePage", "<init>", "([BI[II)V"⟩ : MethodName) prog_144_method_2_code 5 none ws ({ frames := 2, cells := 0, slots := 0, locals := 29 } : Room) #[(.ref a), (.ref a1), (.int p2), (.ref a3), (.int p4)] h0 n0 (fun v h => v = none ∧ Keep h0 h [a] ∧ Exa Z h a "tabeliao/tree/NodePage" ∧ Fld Z h a "tabeliao/tree/NodePage" "starts" "[I" (.ref a3) ∧ Fld Z h a "tabeliao/tree/NodePage" "count" "I" (.int p4)) := by
  refine Con.of pn_1 ?_
  intro G p e s m below meth c s₁ hs hx hby hml hown hnm hret hZ X0 fin
  have hml : c.maxLocals = 5 := hml
  have hown : s.vm.findClass "tabeliao/tree/NodePage" = some m.cls := hown
  rw [ef_1]
  have K := Keep.refl h0 ([a] : List Addr)
  have Ksz := K.1
  show G s₁ (mkF m 0 #[.val (.ref a), .val (.ref a1), .val (.int p2), .val (.ref a3), .val (.int p4)] [])
  refine hs.go (fun _ kk_ => XS.aloadN X0.here hx rfl (hb hby d1_0) rfl rfl kk_) ?_
  show G s₁ (mkF m 1 #[.val (.ref a), .val (.ref a1), .val (.int p2), .val (.ref a3), .val (.int p4)] [(.ref a)])
  refine hs.go (fun _ kk_ => XS.iloadN X0.here hx rfl (hb hby d1_1) rfl  kk_) ?_
  show G s₁ (mkF m 2 #[.val (.ref a), .val (.ref a1), .val (.int p2), .val (.ref a3), .val (.int p4)] [(.int p2), (.ref a)])
  refine hs.go (fun _ kk_ => XS.aloadN X0.here hx rfl (hb hby d1_2) rfl rfl kk_) ?_
  show G s₁ (mkF m 3 #[.val (.ref a), .val (.ref a1), .val (.int p2), .val (.ref a3), .val (.int p4)] [(.ref a1), (.int p2), (.ref a)])
  refine hs.go (fun _ kk_ => XS.aloadN X0.here hx rfl (hb hby d1_3) rfl rfl kk_) ?_
  show G s₁ (mkF m 4 #[.val (.ref a), .val (.ref a1), .val (.int p2), .val (.ref a3), .val (.int p4)] [(.ref a3), (.ref a1), (.int p2), (.ref a)])
  refine hs.go (fun _ kk_ => XS.iload X0.here hx rfl (hb hby d1_4) rfl  kk_) ?_
  show G s₁ (mkF m 6 #[.val (.ref a), .val (.ref a1), .val (.int p2), .val (.ref a3), .val (.int p4)] [(.int p4), (.ref a3), (.ref a1), (.int p2), (.ref a)])
  refine hs.go (fun _ kk_ => XS.iconst X0.here hx rfl (hb hby d1_6) kk_) ?_
  show G s₁ (mkF m 7 #[.val (.ref a), .val (.ref a1), .val (.int p2), .val (.ref a3), .val (.int p4)] [(.int (1 : Int32)), (.int p4), (.ref a3), (.ref a1), (.int p2), (.ref a)])
  refine rCallI hs X0 hx hZ (as' := [(.int p2), (.ref a1), (.ref a3), (.int p4), (.int (1 : Int32))]) (rm2 l Z a0 hw [] a p2 a1 a3 p4 h0 n0 Z0 E_a g_a F_prefixAt_a F_bytes_a F_starts_a F_count_a F_shared_a) rfl hown (hw _ (List.mem_of_getElem? (i := 8) rfl)) (hw _ (List.mem_of_getElem? (i := 9) rfl)) (hw _ (List.mem_of_getElem? (i := 4) rfl)) (hw _ (List.mem_of_getElem? (i := 10) rfl)) hy_2 rfl (by rw [hml]; rfl) [] (lenOf pd_0 rfl) rfl 0 (by show 2 * 0 + _ ≤ _; exact Nat.le_of_eq rfl) (hb hby d1_7) (by decide) (by decide) (by decide) (by decide) (fun r1 T1 h1 X1 q1 => ?_)
  obtain ⟨rfl, Kc1, E_a, F_starts_a, F_count_a⟩ := q1
  have Z0 := Nat.le_trans Z0 Kc1.1
  have K := K.trans Kc1 (fun x hx => Or.inl hx)
  show G T1 (mkF m 10 #[.val (.ref a), .val (.ref a1), .val (.int p2), .val (.ref a3), .val (.int p4)] [])
  exact rRetV fin X1 hx (by decide) (by decide) hret (hb hby d1_10) ⟨rfl, K, E_a, F_starts_a, F_count_a⟩
def f4 (x : Int32) : Int32 := if (4096 : Int32) < x then (0 : Int32) else (1 : Int32)
theorem d4_0 : decode prog_144_method_10_code 0 = .ok (.aload_n 0, 1) := by decide +kernel
theorem d4_1 : decode prog_144_method_10_code 1 = .ok (.getfield 34, 3) := by decide +kernel
theorem d4_4 : decode prog_144_method_10_code 4 = .ok (.aload_n 0, 1) := by decide +kernel
theorem d4_5 : decode prog_144_method_10_code 5 = .ok (.getfield 38, 3) := by decide +kernel
theorem d4_8 : decode prog_144_method_10_code 8 = .ok (.iaload, 1) := by decide +kernel
theorem d4_9 : decode prog_144_method_10_code 9 = .ok (.sipush 4096, 3) := by decide +kernel
theorem d4_12 : decode prog_144_method_10_code 12 = .ok (.if_icmp .gt 7, 3) := by decide +kernel
theorem d4_15 : decode prog_144_method_10_code 15 = .ok (.iconst 1, 1) := by decide +kernel
theorem d4_16 : decode prog_144_method_10_code 16 = .ok (.goto 4, 3) := by decide +kernel
theorem d4_19 : decode prog_144_method_10_code 19 = .ok (.iconst 0, 1) := by decide +kernel
theorem d4_20 : decode prog_144_method_10_code 20 = .ok (.ireturn, 1) := by decide +kernel
theorem pn_4 : plainFor (⟨"tabeliao/tree/NodePage", "fits", "()Z"⟩ : MethodName) = true := plainFor_of_name (by first | (simp [plainName, overriddenIn]; done) | decide +kernel)
theorem ef_4 (m : MethodId) (x0 : Addr) : entryFrame m #[(.ref x0)] 1 = mkF m 0 #[.val (.ref x0)] [] := by first | (simp [entryFrame, mkF, argsToLocals, Value.category]; done) | rfl
theorem hy_4 : ((⟨"tabeliao/tree/NodePage", "fits", "()Z"⟩ : MethodName)).cls ≠ "java/lang/invoke/MethodHandle" ∧ ((⟨"tabeliao/tree/NodePage", "fits", "()Z"⟩ : MethodName)).cls ≠ "java/lang/invoke/VarHandle" := by decide
set_option maxRecDepth 65536 in
set_option maxHeartbeats 40000000 in
theorem rm4 (l : Launch) (Z : State) (a0 : Array Value) (hw : ∀ d ∈ tables_1, d.before a0 Z = true) (ws : List Jvm.Cond) (a a3 : Addr) (p4 s0 s1 s2 s3 en : Int32) (kc : ClassId) (h0 : Heap) (n0 : Nat) (Z0 : n0 ≤ h0.size) (F_starts_a : Fld Z h0 a "tabeliao/tree/NodePage" "starts" "[I" (.ref a3)) (F_count_a : Fld Z h0 a "tabeliao/tree/NodePage" "count" "I" (.int p4)) (V_a3 : Arv Z h0 a3 kc .int (4 : Int32) [.int s0, .int s1, .int s2, .int s3] (.int (0 : Int32))) (hp : ¬ p4 < 0 ∧ p4 < (4 : Int32)) (hv : List.getD ([.int s0, .int s1, .int s2, .int s3] : List Value) p4.toNatClampNeg (.int (0 : Int32)) = .int en) :
    Con l Z (⟨"tabeliao/tree/NodePage", "fits", "()Z"⟩ : MethodName) prog_144_method_10_code 1 (some .boolean) ws ({ frames := 0, cells := 0, slots := 0, locals := 0 } : Room) #[(.ref a)] h0 n0 (fun v h => v = some (.int (f4 en)) ∧ h = h0) := by
  refine Con.of pn_4 ?_
  intro G p e s m below meth c s₁ hs hx hby hml hown hnm hret hZ X0 fin
  have hml : c.maxLocals = 1 := hml
  have hown : s.vm.findClass "tabeliao/tree/NodePage" = some m.cls := hown
  rw [ef_4]
  show G s₁ (mkF m 0 #[.val (.ref a)] [])
  refine hs.go (fun _ kk_ => XS.aloadN X0.here hx rfl (hb hby d4_0) rfl rfl kk_) ?_
  show G s₁ (mkF m 1 #[.val (.ref a)] [(.ref a)])
  refine rGetF hs X0 hx hZ hown (host := "") (Or.inl (hw _ (List.mem_of_getElem? (i := 18) rfl))) Via.refl F_starts_a rfl rfl (hb hby d4_1) (fun T1 X1 => ?_)
  show G T1 (mkF m 4 #[.val (.ref a)] [(.ref a3)])
  refine hs.go (fun _ kk_ => XS.aloadN X1.here hx rfl (hb hby d4_4) rfl rfl kk_) ?_
  show G T1 (mkF m 5 #[.val (.ref a)] [(.ref a), (.ref a3)])
  refine rGetF hs X1 hx hZ hown (host := "") (Or.inl (hw _ (List.mem_of_getElem? (i := 20) rfl))) Via.refl F_count_a rfl rfl (hb hby d4_5) (fun T2 X2 => ?_)
  show G T2 (mkF m 8 #[.val (.ref a)] [(.int p4), (.ref a3)])
  refine rLdI hs X2 hx hZ V_a3 hp (v := (.int en)) hv rfl rfl (hb hby d4_8) ?_
  show G T2 (mkF m 9 #[.val (.ref a)] [(.int en)])
  refine hs.go (fun _ kk_ => XS.sipush X2.here hx rfl (hb hby d4_9) kk_) ?_
  show G T2 (mkF m 12 #[.val (.ref a)] [(.int (4096 : Int32)), (.int en)])
  by_cases c12 : (4096 : Int32) < en
  · refine hs.go (fun _ kk_ => XS.icmpYes X2.here hx rfl (pc0 := 12) (pc' := 19) rfl (hb hby d4_12) rfl (tlt c12).2.2.1 (by decide) (by decide) kk_) ?_
    show G T2 (mkF m 19 #[.val (.ref a)] [])
    refine hs.go (fun _ kk_ => XS.iconst X2.here hx rfl (hb hby d4_19) kk_) ?_
    show G T2 (mkF m 20 #[.val (.ref a)] [(.int (0 : Int32))])
    exact rRetN fin X2 hx (by decide) (by decide) hret (by simp) (hb hby d4_20) (z' := (0 : Int32)) (by decide) ⟨by rw [f4, if_pos c12], rfl⟩
  · refine hs.go (fun _ kk_ => XS.icmpNo X2.here hx rfl (hb hby d4_12) rfl (flt c12).2.2.1 kk_) ?_
    show G T2 (mkF m 15 #[.val (.ref a)] [])
    refine hs.go (fun _ kk_ => XS.iconst X2.here hx rfl (hb hby d4_15) kk_) ?_
    show G T2 (mkF m 16 #[.val (.ref a)] [(.int (1 : Int32))])
    refine hs.go (fun _ kk_ => XS.goto X2.here hx rfl (pc0 := 16) (pc' := 20) rfl (hb hby d4_16) (by decide) (by decide) kk_) ?_
    show G T2 (mkF m 20 #[.val (.ref a)] [(.int (1 : Int32))])
    exact rRetN fin X2 hx (by decide) (by decide) hret (by simp) (hb hby d4_20) (z' := (1 : Int32)) (by decide) ⟨by rw [f4, if_neg c12], rfl⟩
theorem d5_0 : decode prog_144_method_8_code 0 = .ok (.aload_n 0, 1) := by decide +kernel
theorem d5_1 : decode prog_144_method_8_code 1 = .ok (.getfield 38, 3) := by decide +kernel
theorem d5_4 : decode prog_144_method_8_code 4 = .ok (.ireturn, 1) := by decide +kernel
theorem pn_5 : plainFor (⟨"tabeliao/tree/NodePage", "count", "()I"⟩ : MethodName) = true := plainFor_of_name (by first | (simp [plainName, overriddenIn]; done) | decide +kernel)
theorem ef_5 (m : MethodId) (x0 : Addr) : entryFrame m #[(.ref x0)] 1 = mkF m 0 #[.val (.ref x0)] [] := by first | (simp [entryFrame, mkF, argsToLocals, Value.category]; done) | rfl
theorem hy_5 : ((⟨"tabeliao/tree/NodePage", "count", "()I"⟩ : MethodName)).cls ≠ "java/lang/invoke/MethodHandle" ∧ ((⟨"tabeliao/tree/NodePage", "count", "()I"⟩ : MethodName)).cls ≠ "java/lang/invoke/VarHandle" := by decide
set_option maxRecDepth 65536 in
set_option maxHeartbeats 40000000 in
theorem rm5 (l : Launch) (Z : State) (a0 : Array Value) (hw : ∀ d ∈ tables_1, d.before a0 Z = true) (ws : List Jvm.Cond) (a : Addr) (p4 : Int32) (h0 : Heap) (n0 : Nat) (Z0 : n0 ≤ h0.size) (F_count_a : Fld Z h0 a "tabeliao/tree/NodePage" "count" "I" (.int p4)) :
    Con l Z (⟨"tabeliao/tree/NodePage", "count", "()I"⟩ : MethodName) prog_144_method_8_code 1 (some .int) ws ({ frames := 0, cells := 0, slots := 0, locals := 0 } : Room) #[(.ref a)] h0 n0 (fun v h => v = some (.int p4) ∧ h = h0) := by
  refine Con.of pn_5 ?_
  intro G p e s m below meth c s₁ hs hx hby hml hown hnm hret hZ X0 fin
  have hml : c.maxLocals = 1 := hml
  have hown : s.vm.findClass "tabeliao/tree/NodePage" = some m.cls := hown
  rw [ef_5]
  show G s₁ (mkF m 0 #[.val (.ref a)] [])
  refine hs.go (fun _ kk_ => XS.aloadN X0.here hx rfl (hb hby d5_0) rfl rfl kk_) ?_
  show G s₁ (mkF m 1 #[.val (.ref a)] [(.ref a)])
  refine rGetF hs X0 hx hZ hown (host := "") (Or.inl (hw _ (List.mem_of_getElem? (i := 20) rfl))) Via.refl F_count_a rfl rfl (hb hby d5_1) (fun T1 X1 => ?_)
  show G T1 (mkF m 4 #[.val (.ref a)] [(.int p4)])
  exact rRetI fin X1 hx (by decide) (by decide) hret (hb hby d5_4) ⟨rfl, rfl⟩

theorem own_end {k cnt s0 s1 s2 s3 en : Int32} (hc : cnt = (k &&& (3 : Int32))) (H : (cnt = (0 : Int32) ∧ en = s0) ∨ (¬ (cnt = (0 : Int32)) ∧ cnt = (1 : Int32) ∧ en = s1) ∨ (¬ (cnt = (0 : Int32)) ∧ ¬ (cnt = (1 : Int32)) ∧ cnt = (2 : Int32) ∧ en = s2) ∨ (¬ (cnt = (0 : Int32)) ∧ ¬ (cnt = (1 : Int32)) ∧ ¬ (cnt = (2 : Int32)) ∧ en = s3)) :
    (¬ cnt < 0 ∧ cnt < (4 : Int32)) ∧ List.getD ([.int s0, .int s1, .int s2, .int s3] : List Value) cnt.toNatClampNeg (.int (0 : Int32)) = Value.int en := by
  have a1 : cnt.toInt = k.toInt % 4 := by rw [hc]; exact c_mask k 3 2 (by decide) (by decide)
  rcases H with ⟨rfl, rfl⟩ | ⟨-, rfl, rfl⟩ | ⟨-, -, rfl, rfl⟩ | ⟨h0, h1, h2, rfl⟩
  · exact ⟨⟨by decide, by decide⟩, rfl⟩
  · exact ⟨⟨by decide, by decide⟩, rfl⟩
  · exact ⟨⟨by decide, by decide⟩, rfl⟩
  · have k0 : (0 : Int32).toInt = 0 := rfl
    have k1 : (1 : Int32).toInt = 1 := rfl
    have k2 : (2 : Int32).toInt = 2 := rfl
    have k3 : (3 : Int32).toInt = 3 := rfl
    rw [e32] at h0 h1 h2
    have e : cnt = (3 : Int32) := eq32 (by omega)
    clear hc a1
    subst e
    exact ⟨⟨by decide, by decide⟩, rfl⟩
theorem own_f4 {en z : Int32} (H : ((4096 : Int32) < en ∧ z = (0 : Int32)) ∨ (¬ ((4096 : Int32) < en) ∧ z = (1 : Int32))) : f4 en = z := by
  rcases H with ⟨h, rfl⟩ | ⟨h, rfl⟩
  · rw [f4, if_pos h]
  · rw [f4, if_neg h]

theorem pd_1 : parseMethodDescriptor "([BI[II)V" = some ⟨[(.array .byte), .int, (.array .int), .int], none⟩ := by decide +kernel
theorem pd_2 : parseMethodDescriptor "()Z" = some ⟨[], some .boolean⟩ := by decide +kernel
theorem pd_3 : parseMethodDescriptor "()I" = some ⟨[], some .int⟩ := by decide +kernel
theorem pn_0 : plainFor x = true := plainFor_of_name (show plainName "tabeliao/tree/NodePageFitsPinLaw" = true by first | (simp [plainName, overriddenIn]; done) | decide +kernel)
theorem ef_0 (m : MethodId) (x0 : Int32) (x1 : Int32) (x2 : Int32) (x3 : Int32) (x4 : Int32) (x5 : Int32) : entryFrame m #[(.int x0), (.int x1), (.int x2), (.int x3), (.int x4), (.int x5)] maxLocals = mkF m 0 #[.val (.int x0), .val (.int x1), .val (.int x2), .val (.int x3), .val (.int x4), .val (.int x5), .unset, .unset, .unset, .unset, .unset, .unset, .unset] [] := by first | (simp [entryFrame, mkF, argsToLocals, Value.category, maxLocals]; done) | rfl
set_option maxRecDepth 65536 in
set_option maxHeartbeats 40000000 in
theorem rm0 (l : Launch) (Z : State) (a0 : Array Value) (hw : ∀ d ∈ tables_1, d.before a0 Z = true) (ws : List Jvm.Cond) (s0 s1 s2 s3 k pa : Int32) (h0 : Heap) (n0 : Nat) (Z0 : n0 ≤ h0.size)  :
    Con l Z x code maxLocals ret ws room_1 #[(.int s0), (.int s1), (.int s2), (.int s3), (.int k), (.int pa)] h0 n0 (fun v h => v = some (.int 1)) := by
  refine Con.of pn_0 ?_
  intro G p e s m below meth c s₁ hs hx hby hml hown hnm hret hZ X0 fin
  have hml : c.maxLocals = 13 := hml
  have hown : s.vm.findClass "tabeliao/tree/NodePageFitsPinLaw" = some m.cls := hown
  rw [ef_0]
  show G s₁ (mkF m 0 #[.val (.int s0), .val (.int s1), .val (.int s2), .val (.int s3), .val (.int k), .val (.int pa), .unset, .unset, .unset, .unset, .unset, .unset, .unset] [])
  refine hs.go (fun _ kk_ => XS.iload X0.here hx rfl (hb hby at_0) rfl  kk_) ?_
  show G s₁ (mkF m 2 #[.val (.int s0), .val (.int s1), .val (.int s2), .val (.int s3), .val (.int k), .val (.int pa), .unset, .unset, .unset, .unset, .unset, .unset, .unset] [(.int k)])
  refine hs.go (fun _ kk_ => XS.iconst X0.here hx rfl (hb hby at_2) kk_) ?_
  show G s₁ (mkF m 3 #[.val (.int s0), .val (.int s1), .val (.int s2), .val (.int s3), .val (.int k), .val (.int pa), .unset, .unset, .unset, .unset, .unset, .unset, .unset] [(.int (3 : Int32)), (.int k)])
  refine hs.go (fun _ kk_ => XS.iand X0.here hx rfl (hb hby at_3) rfl kk_) ?_
  show G s₁ (mkF m 4 #[.val (.int s0), .val (.int s1), .val (.int s2), .val (.int s3), .val (.int k), .val (.int pa), .unset, .unset, .unset, .unset, .unset, .unset, .unset] [(.int (k &&& (3 : Int32)))])
  refine nameIt (P := fun zz_ : Int32 => G s₁ (mkF m 4 #[.val (.int s0), .val (.int s1), .val (.int s2), .val (.int s3), .val (.int k), .val (.int pa), .unset, .unset, .unset, .unset, .unset, .unset, .unset] [(.int zz_)])) (k &&& (3 : Int32)) (fun cnt hcnt => ?_)
  show G s₁ (mkF m 4 #[.val (.int s0), .val (.int s1), .val (.int s2), .val (.int s3), .val (.int k), .val (.int pa), .unset, .unset, .unset, .unset, .unset, .unset, .unset] [(.int cnt)])
  refine hs.go (fun _ kk_ => XS.istore X0.here hx rfl (hb hby at_4) rfl (l' := #[.val (.int s0), .val (.int s1), .val (.int s2), .val (.int s3), .val (.int k), .val (.int pa), .val (.int cnt), .unset, .unset, .unset, .unset, .unset, .unset]) rfl kk_) ?_
  show G s₁ (mkF m 6 #[.val (.int s0), .val (.int s1), .val (.int s2), .val (.int s3), .val (.int k), .val (.int pa), .val (.int cnt), .unset, .unset, .unset, .unset, .unset, .unset] [])
  have J20 : ∀ (zb : Int32), (((((k.toUInt32 >>> ((2 : Int32) &&& 31).toUInt32).toInt32) &&& (1 : Int32)) = (0 : Int32) ∧ zb = (0 : Int32)) ∨ (¬ ((((k.toUInt32 >>> ((2 : Int32) &&& 31).toUInt32).toInt32) &&& (1 : Int32)) = (0 : Int32)) ∧ zb = (1 : Int32))) → G s₁ (mkF m 20 #[.val (.int s0), .val (.int s1), .val (.int s2), .val (.int s3), .val (.int k), .val (.int pa), .val (.int cnt), .unset, .unset, .unset, .unset, .unset, .unset] [(.int zb)]) := by
    intro zb hJ20
    show G s₁ (mkF m 20 #[.val (.int s0), .val (.int s1), .val (.int s2), .val (.int s3), .val (.int k), .val (.int pa), .val (.int cnt), .unset, .unset, .unset, .unset, .unset, .unset] [(.int zb)])
    refine hs.go (fun _ kk_ => XS.istore X0.here hx rfl (hb hby at_20) rfl (l' := #[.val (.int s0), .val (.int s1), .val (.int s2), .val (.int s3), .val (.int k), .val (.int pa), .val (.int cnt), .val (.int zb), .unset, .unset, .unset, .unset, .unset]) rfl kk_) ?_
    show G s₁ (mkF m 22 #[.val (.int s0), .val (.int s1), .val (.int s2), .val (.int s3), .val (.int k), .val (.int pa), .val (.int cnt), .val (.int zb), .unset, .unset, .unset, .unset, .unset] [])
    refine hs.go (fun _ kk_ => XS.iload X0.here hx rfl (hb hby at_22) rfl  kk_) ?_
    show G s₁ (mkF m 24 #[.val (.int s0), .val (.int s1), .val (.int s2), .val (.int s3), .val (.int k), .val (.int pa), .val (.int cnt), .val (.int zb), .unset, .unset, .unset, .unset, .unset] [(.int zb)])
    by_cases c24 : zb = (0 : Int32)
    · refine hs.go (fun _ kk_ => XS.ifYes X0.here hx rfl (pc0 := 24) (pc' := 35) rfl (hb hby at_24) rfl ((if0 _ _).trans (teq c24).1) (by decide) (by decide) kk_) ?_
      show G s₁ (mkF m 35 #[.val (.int s0), .val (.int s1), .val (.int s2), .val (.int s3), .val (.int k), .val (.int pa), .val (.int cnt), .val (.int zb), .unset, .unset, .unset, .unset, .unset] [])
      refine hs.go (fun _ kk_ => XS.iconst X0.here hx rfl (hb hby at_35) kk_) ?_
      show G s₁ (mkF m 36 #[.val (.int s0), .val (.int s1), .val (.int s2), .val (.int s3), .val (.int k), .val (.int pa), .val (.int cnt), .val (.int zb), .unset, .unset, .unset, .unset, .unset] [(.int (1 : Int32))])
      refine rNewP hs X0 hx hZ (hw _ (List.mem_of_getElem? (i := 0) rfl)) rfl (hb hby at_36) rfl (by decide) 1 1 (by decide) (by decide) (by decide) (by decide) (fun T1 h1 k1 by1 g1 X1 E1 V_by1 => ?_)
      have V_by1 : Arv Z h1 by1 k1 .byte (1 : Int32) [(.int (0 : Int32))] (.int (0 : Int32)) := V_by1
      have g_by1 : n0 ≤ by1 := by rw [g1]; exact Z0
      have Z0 := Nat.le_trans Z0 E1.1
      show G T1 (mkF m 38 #[.val (.int s0), .val (.int s1), .val (.int s2), .val (.int s3), .val (.int k), .val (.int pa), .val (.int cnt), .val (.int zb), .unset, .unset, .unset, .unset, .unset] [(.ref by1)])
      refine hs.go (fun _ kk_ => XS.astore X1.here hx rfl (hb hby at_38) rfl rfl (l' := #[.val (.int s0), .val (.int s1), .val (.int s2), .val (.int s3), .val (.int k), .val (.int pa), .val (.int cnt), .val (.int zb), .val (.ref by1), .unset, .unset, .unset, .unset]) rfl kk_) ?_
      show G T1 (mkF m 40 #[.val (.int s0), .val (.int s1), .val (.int s2), .val (.int s3), .val (.int k), .val (.int pa), .val (.int cnt), .val (.int zb), .val (.ref by1), .unset, .unset, .unset, .unset] [])
      refine hs.go (fun _ kk_ => XS.iconst X1.here hx rfl (hb hby at_40) kk_) ?_
      show G T1 (mkF m 41 #[.val (.int s0), .val (.int s1), .val (.int s2), .val (.int s3), .val (.int k), .val (.int pa), .val (.int cnt), .val (.int zb), .val (.ref by1), .unset, .unset, .unset, .unset] [(.int (4 : Int32))])
      refine rNewP hs X1 hx hZ (hw _ (List.mem_of_getElem? (i := 1) rfl)) rfl (hb hby at_41) rfl (by decide) 4 4 (by decide) (by decide) (by decide) (by decide) (fun T2 h2 k2 st g2 X2 E2 V_st => ?_)
      have V_st : Arv Z h2 st k2 .int (4 : Int32) [(.int (0 : Int32)), (.int (0 : Int32)), (.int (0 : Int32)), (.int (0 : Int32))] (.int (0 : Int32)) := V_st
      have g_st : n0 ≤ st := by rw [g2]; exact Z0
      have Z0 := Nat.le_trans Z0 E2.1
      have ne_by1_st : by1 ≠ st := Nat.ne_of_lt (Nat.lt_of_lt_of_le V_by1.lt (Nat.le_of_eq g2.symm))
      have V_by1 := V_by1.ext E2
      show G T2 (mkF m 43 #[.val (.int s0), .val (.int s1), .val (.int s2), .val (.int s3), .val (.int k), .val (.int pa), .val (.int cnt), .val (.int zb), .val (.ref by1), .unset, .unset, .unset, .unset] [(.ref st)])
      refine hs.go (fun _ kk_ => XS.astore X2.here hx rfl (hb hby at_43) rfl rfl (l' := #[.val (.int s0), .val (.int s1), .val (.int s2), .val (.int s3), .val (.int k), .val (.int pa), .val (.int cnt), .val (.int zb), .val (.ref by1), .val (.ref st), .unset, .unset, .unset]) rfl kk_) ?_
      show G T2 (mkF m 45 #[.val (.int s0), .val (.int s1), .val (.int s2), .val (.int s3), .val (.int k), .val (.int pa), .val (.int cnt), .val (.int zb), .val (.ref by1), .val (.ref st), .unset, .unset, .unset] [])
      refine hs.go (fun _ kk_ => XS.aload X2.here hx rfl (hb hby at_45) rfl rfl kk_) ?_
      show G T2 (mkF m 47 #[.val (.int s0), .val (.int s1), .val (.int s2), .val (.int s3), .val (.int k), .val (.int pa), .val (.int cnt), .val (.int zb), .val (.ref by1), .val (.ref st), .unset, .unset, .unset] [(.ref st)])
      refine hs.go (fun _ kk_ => XS.iconst X2.here hx rfl (hb hby at_47) kk_) ?_
      show G T2 (mkF m 48 #[.val (.int s0), .val (.int s1), .val (.int s2), .val (.int s3), .val (.int k), .val (.int pa), .val (.int cnt), .val (.int zb), .val (.ref by1), .val (.ref st), .unset, .unset, .unset] [(.int (0 : Int32)), (.ref st)])
      refine hs.go (fun _ kk_ => XS.iloadN X2.here hx rfl (hb hby at_48) rfl  kk_) ?_
      show G T2 (mkF m 49 #[.val (.int s0), .val (.int s1), .val (.int s2), .val (.int s3), .val (.int k), .val (.int pa), .val (.int cnt), .val (.int zb), .val (.ref by1), .val (.ref st), .unset, .unset, .unset] [(.int s0), (.int (0 : Int32)), (.ref st)])
      refine rStI hs X2 hx hZ V_st g_st ⟨by decide, by decide⟩ 0 (by decide) (by simp) rfl rfl (hb hby at_49) (fun T3 h3 X3 W3 V_st => ?_)
      have V_st : Arv Z h3 st k2 .int (4 : Int32) [(.int s0), (.int (0 : Int32)), (.int (0 : Int32)), (.int (0 : Int32))] (.int (0 : Int32)) := V_st
      have V_by1 := V_by1.other W3 ne_by1_st
      have Z0 := Nat.le_trans Z0 (Keep.of_wr W3).1
      show G T3 (mkF m 50 #[.val (.int s0), .val (.int s1), .val (.int s2), .val (.int s3), .val (.int k), .val (.int pa), .val (.int cnt), .val (.int zb), .val (.ref by1), .val (.ref st), .unset, .unset, .unset] [])
      refine hs.go (fun _ kk_ => XS.aload X3.here hx rfl (hb hby at_50) rfl rfl kk_) ?_
      show G T3 (mkF m 52 #[.val (.int s0), .val (.int s1), .val (.int s2), .val (.int s3), .val (.int k), .val (.int pa), .val (.int cnt), .val (.int zb), .val (.ref by1), .val (.ref st), .unset, .unset, .unset] [(.ref st)])
      refine hs.go (fun _ kk_ => XS.iconst X3.here hx rfl (hb hby at_52) kk_) ?_
      show G T3 (mkF m 53 #[.val (.int s0), .val (.int s1), .val (.int s2), .val (.int s3), .val (.int k), .val (.int pa), .val (.int cnt), .val (.int zb), .val (.ref by1), .val (.ref st), .unset, .unset, .unset] [(.int (1 : Int32)), (.ref st)])
      refine hs.go (fun _ kk_ => XS.iloadN X3.here hx rfl (hb hby at_53) rfl  kk_) ?_
      show G T3 (mkF m 54 #[.val (.int s0), .val (.int s1), .val (.int s2), .val (.int s3), .val (.int k), .val (.int pa), .val (.int cnt), .val (.int zb), .val (.ref by1), .val (.ref st), .unset, .unset, .unset] [(.int s1), (.int (1 : Int32)), (.ref st)])
      refine rStI hs X3 hx hZ V_st g_st ⟨by decide, by decide⟩ 1 (by decide) (by simp) rfl rfl (hb hby at_54) (fun T4 h4 X4 W4 V_st => ?_)
      have V_st : Arv Z h4 st k2 .int (4 : Int32) [(.int s0), (.int s1), (.int (0 : Int32)), (.int (0 : Int32))] (.int (0 : Int32)) := V_st
      have V_by1 := V_by1.other W4 ne_by1_st
      have Z0 := Nat.le_trans Z0 (Keep.of_wr W4).1
      show G T4 (mkF m 55 #[.val (.int s0), .val (.int s1), .val (.int s2), .val (.int s3), .val (.int k), .val (.int pa), .val (.int cnt), .val (.int zb), .val (.ref by1), .val (.ref st), .unset, .unset, .unset] [])
      refine hs.go (fun _ kk_ => XS.aload X4.here hx rfl (hb hby at_55) rfl rfl kk_) ?_
      show G T4 (mkF m 57 #[.val (.int s0), .val (.int s1), .val (.int s2), .val (.int s3), .val (.int k), .val (.int pa), .val (.int cnt), .val (.int zb), .val (.ref by1), .val (.ref st), .unset, .unset, .unset] [(.ref st)])
      refine hs.go (fun _ kk_ => XS.iconst X4.here hx rfl (hb hby at_57) kk_) ?_
      show G T4 (mkF m 58 #[.val (.int s0), .val (.int s1), .val (.int s2), .val (.int s3), .val (.int k), .val (.int pa), .val (.int cnt), .val (.int zb), .val (.ref by1), .val (.ref st), .unset, .unset, .unset] [(.int (2 : Int32)), (.ref st)])
      refine hs.go (fun _ kk_ => XS.iloadN X4.here hx rfl (hb hby at_58) rfl  kk_) ?_
      show G T4 (mkF m 59 #[.val (.int s0), .val (.int s1), .val (.int s2), .val (.int s3), .val (.int k), .val (.int pa), .val (.int cnt), .val (.int zb), .val (.ref by1), .val (.ref st), .unset, .unset, .unset] [(.int s2), (.int (2 : Int32)), (.ref st)])
      refine rStI hs X4 hx hZ V_st g_st ⟨by decide, by decide⟩ 2 (by decide) (by simp) rfl rfl (hb hby at_59) (fun T5 h5 X5 W5 V_st => ?_)
      have V_st : Arv Z h5 st k2 .int (4 : Int32) [(.int s0), (.int s1), (.int s2), (.int (0 : Int32))] (.int (0 : Int32)) := V_st
      have V_by1 := V_by1.other W5 ne_by1_st
      have Z0 := Nat.le_trans Z0 (Keep.of_wr W5).1
      show G T5 (mkF m 60 #[.val (.int s0), .val (.int s1), .val (.int s2), .val (.int s3), .val (.int k), .val (.int pa), .val (.int cnt), .val (.int zb), .val (.ref by1), .val (.ref st), .unset, .unset, .unset] [])
      refine hs.go (fun _ kk_ => XS.aload X5.here hx rfl (hb hby at_60) rfl rfl kk_) ?_
      show G T5 (mkF m 62 #[.val (.int s0), .val (.int s1), .val (.int s2), .val (.int s3), .val (.int k), .val (.int pa), .val (.int cnt), .val (.int zb), .val (.ref by1), .val (.ref st), .unset, .unset, .unset] [(.ref st)])
      refine hs.go (fun _ kk_ => XS.iconst X5.here hx rfl (hb hby at_62) kk_) ?_
      show G T5 (mkF m 63 #[.val (.int s0), .val (.int s1), .val (.int s2), .val (.int s3), .val (.int k), .val (.int pa), .val (.int cnt), .val (.int zb), .val (.ref by1), .val (.ref st), .unset, .unset, .unset] [(.int (3 : Int32)), (.ref st)])
      refine hs.go (fun _ kk_ => XS.iloadN X5.here hx rfl (hb hby at_63) rfl  kk_) ?_
      show G T5 (mkF m 64 #[.val (.int s0), .val (.int s1), .val (.int s2), .val (.int s3), .val (.int k), .val (.int pa), .val (.int cnt), .val (.int zb), .val (.ref by1), .val (.ref st), .unset, .unset, .unset] [(.int s3), (.int (3 : Int32)), (.ref st)])
      refine rStI hs X5 hx hZ V_st g_st ⟨by decide, by decide⟩ 3 (by decide) (by simp) rfl rfl (hb hby at_64) (fun T6 h6 X6 W6 V_st => ?_)
      have V_st : Arv Z h6 st k2 .int (4 : Int32) [(.int s0), (.int s1), (.int s2), (.int s3)] (.int (0 : Int32)) := V_st
      have V_by1 := V_by1.other W6 ne_by1_st
      have Z0 := Nat.le_trans Z0 (Keep.of_wr W6).1
      show G T6 (mkF m 65 #[.val (.int s0), .val (.int s1), .val (.int s2), .val (.int s3), .val (.int k), .val (.int pa), .val (.int cnt), .val (.int zb), .val (.ref by1), .val (.ref st), .unset, .unset, .unset] [])
      refine rNewO hs X6 hx hZ hown (hw _ (List.mem_of_getElem? (i := 2) rfl)) (hw _ (List.mem_of_getElem? (i := 3) rfl)) (hw _ (List.mem_of_getElem? (i := 4) rfl)) rfl (hb hby at_65) (by decide) (by decide) (fun T7 h7 pg g7 X7 E7 E_pg D7 => ?_)
      have g_pg : n0 ≤ pg := by rw [g7]; exact Z0
      have Z0 := Nat.le_trans Z0 E7.1
      have ne_by1_pg : by1 ≠ pg := Nat.ne_of_lt (Nat.lt_of_lt_of_le V_by1.lt (Nat.le_of_eq g7.symm))
      have ne_st_pg : st ≠ pg := Nat.ne_of_lt (Nat.lt_of_lt_of_le V_st.lt (Nat.le_of_eq g7.symm))
      have V_by1 := V_by1.ext E7
      have V_st := V_st.ext E7
      have F_prefixAt_pg : Fld Z h7 pg "tabeliao/tree/NodePage" "prefixAt" "I" (.int (0 : Int32)) := D7 (Or.inr (hw _ (List.mem_of_getElem? (i := 15) rfl))) (ty := .int) (by decide)
      have F_bytes_pg : Fld Z h7 pg "tabeliao/tree/NodePage" "bytes" "[B" .null := D7 (Or.inl (hw _ (List.mem_of_getElem? (i := 17) rfl))) (ty := (.array .byte)) (by decide)
      have F_starts_pg : Fld Z h7 pg "tabeliao/tree/NodePage" "starts" "[I" .null := D7 (Or.inl (hw _ (List.mem_of_getElem? (i := 19) rfl))) (ty := (.array .int)) (by decide)
      have F_count_pg : Fld Z h7 pg "tabeliao/tree/NodePage" "count" "I" (.int (0 : Int32)) := D7 (Or.inl (hw _ (List.mem_of_getElem? (i := 21) rfl))) (ty := .int) (by decide)
      have F_shared_pg : Fld Z h7 pg "tabeliao/tree/NodePage" "shared" "Z" (.int (0 : Int32)) := D7 (Or.inl (hw _ (List.mem_of_getElem? (i := 23) rfl))) (ty := .boolean) (by decide)
      show G T7 (mkF m 68 #[.val (.int s0), .val (.int s1), .val (.int s2), .val (.int s3), .val (.int k), .val (.int pa), .val (.int cnt), .val (.int zb), .val (.ref by1), .val (.ref st), .unset, .unset, .unset] [(.ref pg)])
      refine hs.go (fun _ kk_ => XS.dup X7.here hx rfl (hb hby at_68) rfl rfl kk_) ?_
      show G T7 (mkF m 69 #[.val (.int s0), .val (.int s1), .val (.int s2), .val (.int s3), .val (.int k), .val (.int pa), .val (.int cnt), .val (.int zb), .val (.ref by1), .val (.ref st), .unset, .unset, .unset] [(.ref pg), (.ref pg)])
      refine hs.go (fun _ kk_ => XS.aload X7.here hx rfl (hb hby at_69) rfl rfl kk_) ?_
      show G T7 (mkF m 71 #[.val (.int s0), .val (.int s1), .val (.int s2), .val (.int s3), .val (.int k), .val (.int pa), .val (.int cnt), .val (.int zb), .val (.ref by1), .val (.ref st), .unset, .unset, .unset] [(.ref by1), (.ref pg), (.ref pg)])
      refine hs.go (fun _ kk_ => XS.iload X7.here hx rfl (hb hby at_71) rfl  kk_) ?_
      show G T7 (mkF m 73 #[.val (.int s0), .val (.int s1), .val (.int s2), .val (.int s3), .val (.int k), .val (.int pa), .val (.int cnt), .val (.int zb), .val (.ref by1), .val (.ref st), .unset, .unset, .unset] [(.int pa), (.ref by1), (.ref pg), (.ref pg)])
      refine hs.go (fun _ kk_ => XS.aload X7.here hx rfl (hb hby at_73) rfl rfl kk_) ?_
      show G T7 (mkF m 75 #[.val (.int s0), .val (.int s1), .val (.int s2), .val (.int s3), .val (.int k), .val (.int pa), .val (.int cnt), .val (.int zb), .val (.ref by1), .val (.ref st), .unset, .unset, .unset] [(.ref st), (.int pa), (.ref by1), (.ref pg), (.ref pg)])
      refine hs.go (fun _ kk_ => XS.iload X7.here hx rfl (hb hby at_75) rfl  kk_) ?_
      show G T7 (mkF m 77 #[.val (.int s0), .val (.int s1), .val (.int s2), .val (.int s3), .val (.int k), .val (.int pa), .val (.int cnt), .val (.int zb), .val (.ref by1), .val (.ref st), .unset, .unset, .unset] [(.int cnt), (.ref st), (.int pa), (.ref by1), (.ref pg), (.ref pg)])
      refine rCallI hs X7 hx hZ (as' := [(.ref by1), (.int pa), (.ref st), (.int cnt)]) (rm1 l Z a0 hw [] pg by1 pa st cnt h7 n0 Z0 E_pg g_pg F_prefixAt_pg F_bytes_pg F_starts_pg F_count_pg F_shared_pg) rfl hown (hw _ (List.mem_of_getElem? (i := 5) rfl)) (hw _ (List.mem_of_getElem? (i := 6) rfl)) (hw _ (List.mem_of_getElem? (i := 4) rfl)) (hw _ (List.mem_of_getElem? (i := 7) rfl)) hy_1 rfl (by rw [hml]; rfl) [(.ref pg)] (lenOf pd_1 rfl) rfl 1 (by show 2 * 0 + _ ≤ _; exact Nat.le_of_eq rfl) (hb hby at_77) (by decide) (by decide) (by decide) (by decide) (fun r8 T8 h8 X8 q8 => ?_)
      obtain ⟨rfl, Kc8, E_pg, F_starts_pg, F_count_pg⟩ := q8
      have Z0 := Nat.le_trans Z0 Kc8.1
      have V_by1 := V_by1.keep Kc8 (ninS ne_by1_pg nin0)
      have V_st := V_st.keep Kc8 (ninS ne_st_pg nin0)
      show G T8 (mkF m 80 #[.val (.int s0), .val (.int s1), .val (.int s2), .val (.int s3), .val (.int k), .val (.int pa), .val (.int cnt), .val (.int zb), .val (.ref by1), .val (.ref st), .unset, .unset, .unset] [(.ref pg)])
      refine hs.go (fun _ kk_ => XS.astore X8.here hx rfl (hb hby at_80) rfl rfl (l' := #[.val (.int s0), .val (.int s1), .val (.int s2), .val (.int s3), .val (.int k), .val (.int pa), .val (.int cnt), .val (.int zb), .val (.ref by1), .val (.ref st), .val (.ref pg), .unset, .unset]) rfl kk_) ?_
      show G T8 (mkF m 82 #[.val (.int s0), .val (.int s1), .val (.int s2), .val (.int s3), .val (.int k), .val (.int pa), .val (.int cnt), .val (.int zb), .val (.ref by1), .val (.ref st), .val (.ref pg), .unset, .unset] [])
      have J120 : ∀ (en : Int32), ((cnt = (0 : Int32) ∧ en = s0) ∨ (¬ (cnt = (0 : Int32)) ∧ cnt = (1 : Int32) ∧ en = s1) ∨ (¬ (cnt = (0 : Int32)) ∧ ¬ (cnt = (1 : Int32)) ∧ cnt = (2 : Int32) ∧ en = s2) ∨ (¬ (cnt = (0 : Int32)) ∧ ¬ (cnt = (1 : Int32)) ∧ ¬ (cnt = (2 : Int32)) ∧ en = s3)) → G T8 (mkF m 120 #[.val (.int s0), .val (.int s1), .val (.int s2), .val (.int s3), .val (.int k), .val (.int pa), .val (.int cnt), .val (.int zb), .val (.ref by1), .val (.ref st), .val (.ref pg), .val (.int en), .unset] []) := by
        intro en hJ120
        show G T8 (mkF m 120 #[.val (.int s0), .val (.int s1), .val (.int s2), .val (.int s3), .val (.int k), .val (.int pa), .val (.int cnt), .val (.int zb), .val (.ref by1), .val (.ref st), .val (.ref pg), .val (.int en), .unset] [])
        have J133 : ∀ (z2 : Int32), (((4096 : Int32) < en ∧ z2 = (0 : Int32)) ∨ (¬ ((4096 : Int32) < en) ∧ z2 = (1 : Int32))) → G T8 (mkF m 133 #[.val (.int s0), .val (.int s1), .val (.int s2), .val (.int s3), .val (.int k), .val (.int pa), .val (.int cnt), .val (.int zb), .val (.ref by1), .val (.ref st), .val (.ref pg), .val (.int en), .unset] [(.int z2)]) := by
          intro z2 hJ133
          show G T8 (mkF m 133 #[.val (.int s0), .val (.int s1), .val (.int s2), .val (.int s3), .val (.int k), .val (.int pa), .val (.int cnt), .val (.int zb), .val (.ref by1), .val (.ref st), .val (.ref pg), .val (.int en), .unset] [(.int z2)])
          refine hs.go (fun _ kk_ => XS.istore X8.here hx rfl (hb hby at_133) rfl (l' := #[.val (.int s0), .val (.int s1), .val (.int s2), .val (.int s3), .val (.int k), .val (.int pa), .val (.int cnt), .val (.int zb), .val (.ref by1), .val (.ref st), .val (.ref pg), .val (.int en), .val (.int z2)]) rfl kk_) ?_
          show G T8 (mkF m 135 #[.val (.int s0), .val (.int s1), .val (.int s2), .val (.int s3), .val (.int k), .val (.int pa), .val (.int cnt), .val (.int zb), .val (.ref by1), .val (.ref st), .val (.ref pg), .val (.int en), .val (.int z2)] [])
          refine hs.go (fun _ kk_ => XS.aload X8.here hx rfl (hb hby at_135) rfl rfl kk_) ?_
          show G T8 (mkF m 137 #[.val (.int s0), .val (.int s1), .val (.int s2), .val (.int s3), .val (.int k), .val (.int pa), .val (.int cnt), .val (.int zb), .val (.ref by1), .val (.ref st), .val (.ref pg), .val (.int en), .val (.int z2)] [(.ref pg)])
          refine rCallV hs X8 hx hZ (as' := []) (rm4 l Z a0 hw [] pg st cnt s0 s1 s2 s3 en k2 h8 n0 Z0 F_starts_pg F_count_pg V_st (own_end hcnt hJ120).1 (own_end hcnt hJ120).2) E_pg hown (hw _ (List.mem_of_getElem? (i := 24) rfl)) (hw _ (List.mem_of_getElem? (i := 25) rfl)) (hw _ (List.mem_of_getElem? (i := 27) rfl)) (hw _ (List.mem_of_getElem? (i := 26) rfl)) (hw _ (List.mem_of_getElem? (i := 4) rfl)) (hw _ (List.mem_of_getElem? (i := 28) rfl)) hy_4 rfl (by rw [hml]; rfl) [] (lenOf pd_2 rfl) rfl 0 (by show 2 * 0 + _ ≤ _; exact Nat.le_of_eq rfl) (hb hby at_137) (by decide) (by decide) (by decide) (by decide) (fun r9 T9 h9 X9 q9 => ?_)
          obtain ⟨rfl, qh9⟩ := q9
          rw [qh9] at X9
          show G T9 (mkF m 140 #[.val (.int s0), .val (.int s1), .val (.int s2), .val (.int s3), .val (.int k), .val (.int pa), .val (.int cnt), .val (.int zb), .val (.ref by1), .val (.ref st), .val (.ref pg), .val (.int en), .val (.int z2)] [(.int (f4 en))])
          refine hs.go (fun _ kk_ => XS.iload X9.here hx rfl (hb hby at_140) rfl  kk_) ?_
          show G T9 (mkF m 142 #[.val (.int s0), .val (.int s1), .val (.int s2), .val (.int s3), .val (.int k), .val (.int pa), .val (.int cnt), .val (.int zb), .val (.ref by1), .val (.ref st), .val (.ref pg), .val (.int en), .val (.int z2)] [(.int z2), (.int (f4 en))])
          refine hs.go (fun _ kk_ => XS.icmpNo X9.here hx rfl (hb hby at_142) rfl (teq (own_f4 hJ133 : (f4 en) = z2)).2 kk_) ?_
          show G T9 (mkF m 145 #[.val (.int s0), .val (.int s1), .val (.int s2), .val (.int s3), .val (.int k), .val (.int pa), .val (.int cnt), .val (.int zb), .val (.ref by1), .val (.ref st), .val (.ref pg), .val (.int en), .val (.int z2)] [])
          refine hs.go (fun _ kk_ => XS.aload X9.here hx rfl (hb hby at_145) rfl rfl kk_) ?_
          show G T9 (mkF m 147 #[.val (.int s0), .val (.int s1), .val (.int s2), .val (.int s3), .val (.int k), .val (.int pa), .val (.int cnt), .val (.int zb), .val (.ref by1), .val (.ref st), .val (.ref pg), .val (.int en), .val (.int z2)] [(.ref pg)])
          refine rCallV hs X9 hx hZ (as' := []) (rm5 l Z a0 hw [] pg cnt h8 n0 Z0 F_count_pg) E_pg hown (hw _ (List.mem_of_getElem? (i := 29) rfl)) (hw _ (List.mem_of_getElem? (i := 30) rfl)) (hw _ (List.mem_of_getElem? (i := 32) rfl)) (hw _ (List.mem_of_getElem? (i := 31) rfl)) (hw _ (List.mem_of_getElem? (i := 4) rfl)) (hw _ (List.mem_of_getElem? (i := 33) rfl)) hy_5 rfl (by rw [hml]; rfl) [] (lenOf pd_3 rfl) rfl 0 (by show 2 * 0 + _ ≤ _; exact Nat.le_of_eq rfl) (hb hby at_147) (by decide) (by decide) (by decide) (by decide) (fun r10 T10 h10 X10 q10 => ?_)
          obtain ⟨rfl, qh10⟩ := q10
          rw [qh10] at X10
          show G T10 (mkF m 150 #[.val (.int s0), .val (.int s1), .val (.int s2), .val (.int s3), .val (.int k), .val (.int pa), .val (.int cnt), .val (.int zb), .val (.ref by1), .val (.ref st), .val (.ref pg), .val (.int en), .val (.int z2)] [(.int cnt)])
          refine hs.go (fun _ kk_ => XS.iload X10.here hx rfl (hb hby at_150) rfl  kk_) ?_
          show G T10 (mkF m 152 #[.val (.int s0), .val (.int s1), .val (.int s2), .val (.int s3), .val (.int k), .val (.int pa), .val (.int cnt), .val (.int zb), .val (.ref by1), .val (.ref st), .val (.ref pg), .val (.int en), .val (.int z2)] [(.int cnt), (.int cnt)])
          refine hs.go (fun _ kk_ => XS.icmpNo X10.here hx rfl (hb hby at_152) rfl (teq (rfl : cnt = cnt)).2 kk_) ?_
          show G T10 (mkF m 155 #[.val (.int s0), .val (.int s1), .val (.int s2), .val (.int s3), .val (.int k), .val (.int pa), .val (.int cnt), .val (.int zb), .val (.ref by1), .val (.ref st), .val (.ref pg), .val (.int en), .val (.int z2)] [])
          refine hs.go (fun _ kk_ => XS.iconst X10.here hx rfl (hb hby at_155) kk_) ?_
          show G T10 (mkF m 156 #[.val (.int s0), .val (.int s1), .val (.int s2), .val (.int s3), .val (.int k), .val (.int pa), .val (.int cnt), .val (.int zb), .val (.ref by1), .val (.ref st), .val (.ref pg), .val (.int en), .val (.int z2)] [(.int (1 : Int32))])
          refine hs.go (fun _ kk_ => XS.goto X10.here hx rfl (pc0 := 156) (pc' := 160) rfl (hb hby at_156) (by decide) (by decide) kk_) ?_
          show G T10 (mkF m 160 #[.val (.int s0), .val (.int s1), .val (.int s2), .val (.int s3), .val (.int k), .val (.int pa), .val (.int cnt), .val (.int zb), .val (.ref by1), .val (.ref st), .val (.ref pg), .val (.int en), .val (.int z2)] [(.int (1 : Int32))])
          exact rRetN fin X10 hx (by decide) (by decide) hret (by simp) (hb hby at_160) (z' := (1 : Int32)) (by decide) rfl
        refine hs.go (fun _ kk_ => XS.iload X8.here hx rfl (hb hby at_120) rfl  kk_) ?_
        show G T8 (mkF m 122 #[.val (.int s0), .val (.int s1), .val (.int s2), .val (.int s3), .val (.int k), .val (.int pa), .val (.int cnt), .val (.int zb), .val (.ref by1), .val (.ref st), .val (.ref pg), .val (.int en), .unset] [(.int en)])
        refine hs.go (fun _ kk_ => XS.sipush X8.here hx rfl (hb hby at_122) kk_) ?_
        show G T8 (mkF m 125 #[.val (.int s0), .val (.int s1), .val (.int s2), .val (.int s3), .val (.int k), .val (.int pa), .val (.int cnt), .val (.int zb), .val (.ref by1), .val (.ref st), .val (.ref pg), .val (.int en), .unset] [(.int (4096 : Int32)), (.int en)])
        by_cases c125 : (4096 : Int32) < en
        · refine hs.go (fun _ kk_ => XS.icmpYes X8.here hx rfl (pc0 := 125) (pc' := 132) rfl (hb hby at_125) rfl (tlt c125).2.2.1 (by decide) (by decide) kk_) ?_
          show G T8 (mkF m 132 #[.val (.int s0), .val (.int s1), .val (.int s2), .val (.int s3), .val (.int k), .val (.int pa), .val (.int cnt), .val (.int zb), .val (.ref by1), .val (.ref st), .val (.ref pg), .val (.int en), .unset] [])
          refine hs.go (fun _ kk_ => XS.iconst X8.here hx rfl (hb hby at_132) kk_) ?_
          show G T8 (mkF m 133 #[.val (.int s0), .val (.int s1), .val (.int s2), .val (.int s3), .val (.int k), .val (.int pa), .val (.int cnt), .val (.int zb), .val (.ref by1), .val (.ref st), .val (.ref pg), .val (.int en), .unset] [(.int (0 : Int32))])
          exact J133 _ (Or.inl (⟨c125, rfl⟩))
        · refine hs.go (fun _ kk_ => XS.icmpNo X8.here hx rfl (hb hby at_125) rfl (flt c125).2.2.1 kk_) ?_
          show G T8 (mkF m 128 #[.val (.int s0), .val (.int s1), .val (.int s2), .val (.int s3), .val (.int k), .val (.int pa), .val (.int cnt), .val (.int zb), .val (.ref by1), .val (.ref st), .val (.ref pg), .val (.int en), .unset] [])
          refine hs.go (fun _ kk_ => XS.iconst X8.here hx rfl (hb hby at_128) kk_) ?_
          show G T8 (mkF m 129 #[.val (.int s0), .val (.int s1), .val (.int s2), .val (.int s3), .val (.int k), .val (.int pa), .val (.int cnt), .val (.int zb), .val (.ref by1), .val (.ref st), .val (.ref pg), .val (.int en), .unset] [(.int (1 : Int32))])
          refine hs.go (fun _ kk_ => XS.goto X8.here hx rfl (pc0 := 129) (pc' := 133) rfl (hb hby at_129) (by decide) (by decide) kk_) ?_
          show G T8 (mkF m 133 #[.val (.int s0), .val (.int s1), .val (.int s2), .val (.int s3), .val (.int k), .val (.int pa), .val (.int cnt), .val (.int zb), .val (.ref by1), .val (.ref st), .val (.ref pg), .val (.int en), .unset] [(.int (1 : Int32))])
          exact J133 _ (Or.inr (⟨c125, rfl⟩))
      refine hs.go (fun _ kk_ => XS.iload X8.here hx rfl (hb hby at_82) rfl  kk_) ?_
      show G T8 (mkF m 84 #[.val (.int s0), .val (.int s1), .val (.int s2), .val (.int s3), .val (.int k), .val (.int pa), .val (.int cnt), .val (.int zb), .val (.ref by1), .val (.ref st), .val (.ref pg), .unset, .unset] [(.int cnt)])
      by_cases c84 : cnt = (0 : Int32)
      · refine hs.go (fun _ kk_ => XS.ifNo X8.here hx rfl (hb hby at_84) rfl ((if0 _ _).trans (teq c84).2) kk_) ?_
        show G T8 (mkF m 87 #[.val (.int s0), .val (.int s1), .val (.int s2), .val (.int s3), .val (.int k), .val (.int pa), .val (.int cnt), .val (.int zb), .val (.ref by1), .val (.ref st), .val (.ref pg), .unset, .unset] [])
        refine hs.go (fun _ kk_ => XS.iloadN X8.here hx rfl (hb hby at_87) rfl  kk_) ?_
        show G T8 (mkF m 88 #[.val (.int s0), .val (.int s1), .val (.int s2), .val (.int s3), .val (.int k), .val (.int pa), .val (.int cnt), .val (.int zb), .val (.ref by1), .val (.ref st), .val (.ref pg), .unset, .unset] [(.int s0)])
        refine hs.go (fun _ kk_ => XS.istore X8.here hx rfl (hb hby at_88) rfl (l' := #[.val (.int s0), .val (.int s1), .val (.int s2), .val (.int s3), .val (.int k), .val (.int pa), .val (.int cnt), .val (.int zb), .val (.ref by1), .val (.ref st), .val (.ref pg), .val (.int s0), .unset]) rfl kk_) ?_
        show G T8 (mkF m 90 #[.val (.int s0), .val (.int s1), .val (.int s2), .val (.int s3), .val (.int k), .val (.int pa), .val (.int cnt), .val (.int zb), .val (.ref by1), .val (.ref st), .val (.ref pg), .val (.int s0), .unset] [])
        refine hs.go (fun _ kk_ => XS.goto X8.here hx rfl (pc0 := 90) (pc' := 120) rfl (hb hby at_90) (by decide) (by decide) kk_) ?_
        show G T8 (mkF m 120 #[.val (.int s0), .val (.int s1), .val (.int s2), .val (.int s3), .val (.int k), .val (.int pa), .val (.int cnt), .val (.int zb), .val (.ref by1), .val (.ref st), .val (.ref pg), .val (.int s0), .unset] [])
        exact J120 _ (Or.inl (⟨c84, rfl⟩))
      · refine hs.go (fun _ kk_ => XS.ifYes X8.here hx rfl (pc0 := 84) (pc' := 93) rfl (hb hby at_84) rfl ((if0 _ _).trans (feq c84).2) (by decide) (by decide) kk_) ?_
        show G T8 (mkF m 93 #[.val (.int s0), .val (.int s1), .val (.int s2), .val (.int s3), .val (.int k), .val (.int pa), .val (.int cnt), .val (.int zb), .val (.ref by1), .val (.ref st), .val (.ref pg), .unset, .unset] [])
        refine hs.go (fun _ kk_ => XS.iload X8.here hx rfl (hb hby at_93) rfl  kk_) ?_
        show G T8 (mkF m 95 #[.val (.int s0), .val (.int s1), .val (.int s2), .val (.int s3), .val (.int k), .val (.int pa), .val (.int cnt), .val (.int zb), .val (.ref by1), .val (.ref st), .val (.ref pg), .unset, .unset] [(.int cnt)])
        refine hs.go (fun _ kk_ => XS.iconst X8.here hx rfl (hb hby at_95) kk_) ?_
        show G T8 (mkF m 96 #[.val (.int s0), .val (.int s1), .val (.int s2), .val (.int s3), .val (.int k), .val (.int pa), .val (.int cnt), .val (.int zb), .val (.ref by1), .val (.ref st), .val (.ref pg), .unset, .unset] [(.int (1 : Int32)), (.int cnt)])
        by_cases c96 : cnt = (1 : Int32)
        · refine hs.go (fun _ kk_ => XS.icmpNo X8.here hx rfl (hb hby at_96) rfl (teq c96).2 kk_) ?_
          show G T8 (mkF m 99 #[.val (.int s0), .val (.int s1), .val (.int s2), .val (.int s3), .val (.int k), .val (.int pa), .val (.int cnt), .val (.int zb), .val (.ref by1), .val (.ref st), .val (.ref pg), .unset, .unset] [])
          refine hs.go (fun _ kk_ => XS.iloadN X8.here hx rfl (hb hby at_99) rfl  kk_) ?_
          show G T8 (mkF m 100 #[.val (.int s0), .val (.int s1), .val (.int s2), .val (.int s3), .val (.int k), .val (.int pa), .val (.int cnt), .val (.int zb), .val (.ref by1), .val (.ref st), .val (.ref pg), .unset, .unset] [(.int s1)])
          refine hs.go (fun _ kk_ => XS.istore X8.here hx rfl (hb hby at_100) rfl (l' := #[.val (.int s0), .val (.int s1), .val (.int s2), .val (.int s3), .val (.int k), .val (.int pa), .val (.int cnt), .val (.int zb), .val (.ref by1), .val (.ref st), .val (.ref pg), .val (.int s1), .unset]) rfl kk_) ?_
          show G T8 (mkF m 102 #[.val (.int s0), .val (.int s1), .val (.int s2), .val (.int s3), .val (.int k), .val (.int pa), .val (.int cnt), .val (.int zb), .val (.ref by1), .val (.ref st), .val (.ref pg), .val (.int s1), .unset] [])
          refine hs.go (fun _ kk_ => XS.goto X8.here hx rfl (pc0 := 102) (pc' := 120) rfl (hb hby at_102) (by decide) (by decide) kk_) ?_
          show G T8 (mkF m 120 #[.val (.int s0), .val (.int s1), .val (.int s2), .val (.int s3), .val (.int k), .val (.int pa), .val (.int cnt), .val (.int zb), .val (.ref by1), .val (.ref st), .val (.ref pg), .val (.int s1), .unset] [])
          exact J120 _ (Or.inr (Or.inl (⟨c84, c96, rfl⟩)))
        · refine hs.go (fun _ kk_ => XS.icmpYes X8.here hx rfl (pc0 := 96) (pc' := 105) rfl (hb hby at_96) rfl (feq c96).2 (by decide) (by decide) kk_) ?_
          show G T8 (mkF m 105 #[.val (.int s0), .val (.int s1), .val (.int s2), .val (.int s3), .val (.int k), .val (.int pa), .val (.int cnt), .val (.int zb), .val (.ref by1), .val (.ref st), .val (.ref pg), .unset, .unset] [])
          refine hs.go (fun _ kk_ => XS.iload X8.here hx rfl (hb hby at_105) rfl  kk_) ?_
          show G T8 (mkF m 107 #[.val (.int s0), .val (.int s1), .val (.int s2), .val (.int s3), .val (.int k), .val (.int pa), .val (.int cnt), .val (.int zb), .val (.ref by1), .val (.ref st), .val (.ref pg), .unset, .unset] [(.int cnt)])
          refine hs.go (fun _ kk_ => XS.iconst X8.here hx rfl (hb hby at_107) kk_) ?_
          show G T8 (mkF m 108 #[.val (.int s0), .val (.int s1), .val (.int s2), .val (.int s3), .val (.int k), .val (.int pa), .val (.int cnt), .val (.int zb), .val (.ref by1), .val (.ref st), .val (.ref pg), .unset, .unset] [(.int (2 : Int32)), (.int cnt)])
          by_cases c108 : cnt = (2 : Int32)
          · refine hs.go (fun _ kk_ => XS.icmpNo X8.here hx rfl (hb hby at_108) rfl (teq c108).2 kk_) ?_
            show G T8 (mkF m 111 #[.val (.int s0), .val (.int s1), .val (.int s2), .val (.int s3), .val (.int k), .val (.int pa), .val (.int cnt), .val (.int zb), .val (.ref by1), .val (.ref st), .val (.ref pg), .unset, .unset] [])
            refine hs.go (fun _ kk_ => XS.iloadN X8.here hx rfl (hb hby at_111) rfl  kk_) ?_
            show G T8 (mkF m 112 #[.val (.int s0), .val (.int s1), .val (.int s2), .val (.int s3), .val (.int k), .val (.int pa), .val (.int cnt), .val (.int zb), .val (.ref by1), .val (.ref st), .val (.ref pg), .unset, .unset] [(.int s2)])
            refine hs.go (fun _ kk_ => XS.istore X8.here hx rfl (hb hby at_112) rfl (l' := #[.val (.int s0), .val (.int s1), .val (.int s2), .val (.int s3), .val (.int k), .val (.int pa), .val (.int cnt), .val (.int zb), .val (.ref by1), .val (.ref st), .val (.ref pg), .val (.int s2), .unset]) rfl kk_) ?_
            show G T8 (mkF m 114 #[.val (.int s0), .val (.int s1), .val (.int s2), .val (.int s3), .val (.int k), .val (.int pa), .val (.int cnt), .val (.int zb), .val (.ref by1), .val (.ref st), .val (.ref pg), .val (.int s2), .unset] [])
            refine hs.go (fun _ kk_ => XS.goto X8.here hx rfl (pc0 := 114) (pc' := 120) rfl (hb hby at_114) (by decide) (by decide) kk_) ?_
            show G T8 (mkF m 120 #[.val (.int s0), .val (.int s1), .val (.int s2), .val (.int s3), .val (.int k), .val (.int pa), .val (.int cnt), .val (.int zb), .val (.ref by1), .val (.ref st), .val (.ref pg), .val (.int s2), .unset] [])
            exact J120 _ (Or.inr (Or.inr (Or.inl (⟨c84, c96, c108, rfl⟩))))
          · refine hs.go (fun _ kk_ => XS.icmpYes X8.here hx rfl (pc0 := 108) (pc' := 117) rfl (hb hby at_108) rfl (feq c108).2 (by decide) (by decide) kk_) ?_
            show G T8 (mkF m 117 #[.val (.int s0), .val (.int s1), .val (.int s2), .val (.int s3), .val (.int k), .val (.int pa), .val (.int cnt), .val (.int zb), .val (.ref by1), .val (.ref st), .val (.ref pg), .unset, .unset] [])
            refine hs.go (fun _ kk_ => XS.iloadN X8.here hx rfl (hb hby at_117) rfl  kk_) ?_
            show G T8 (mkF m 118 #[.val (.int s0), .val (.int s1), .val (.int s2), .val (.int s3), .val (.int k), .val (.int pa), .val (.int cnt), .val (.int zb), .val (.ref by1), .val (.ref st), .val (.ref pg), .unset, .unset] [(.int s3)])
            refine hs.go (fun _ kk_ => XS.istore X8.here hx rfl (hb hby at_118) rfl (l' := #[.val (.int s0), .val (.int s1), .val (.int s2), .val (.int s3), .val (.int k), .val (.int pa), .val (.int cnt), .val (.int zb), .val (.ref by1), .val (.ref st), .val (.ref pg), .val (.int s3), .unset]) rfl kk_) ?_
            show G T8 (mkF m 120 #[.val (.int s0), .val (.int s1), .val (.int s2), .val (.int s3), .val (.int k), .val (.int pa), .val (.int cnt), .val (.int zb), .val (.ref by1), .val (.ref st), .val (.ref pg), .val (.int s3), .unset] [])
            exact J120 _ (Or.inr (Or.inr (Or.inr (⟨c84, c96, c108, rfl⟩))))
    · refine hs.go (fun _ kk_ => XS.ifNo X0.here hx rfl (hb hby at_24) rfl ((if0 _ _).trans (feq c24).1) kk_) ?_
      show G s₁ (mkF m 27 #[.val (.int s0), .val (.int s1), .val (.int s2), .val (.int s3), .val (.int k), .val (.int pa), .val (.int cnt), .val (.int zb), .unset, .unset, .unset, .unset, .unset] [])
      refine hs.go (fun _ kk_ => XS.sipush X0.here hx rfl (hb hby at_27) kk_) ?_
      show G s₁ (mkF m 30 #[.val (.int s0), .val (.int s1), .val (.int s2), .val (.int s3), .val (.int k), .val (.int pa), .val (.int cnt), .val (.int zb), .unset, .unset, .unset, .unset, .unset] [(.int (5000 : Int32))])
      refine rNewP hs X0 hx hZ (hw _ (List.mem_of_getElem? (i := 0) rfl)) rfl (hb hby at_30) rfl (by decide) 5000 0 (by decide) (by decide) (by decide) (by decide) (fun T11 h11 k11 by1 g11 X11 E11 V_by1 => ?_)
      have V_by1 : Arv Z h11 by1 k11 .byte (5000 : Int32) [] (.int (0 : Int32)) := V_by1
      have g_by1 : n0 ≤ by1 := by rw [g11]; exact Z0
      have Z0 := Nat.le_trans Z0 E11.1
      show G T11 (mkF m 32 #[.val (.int s0), .val (.int s1), .val (.int s2), .val (.int s3), .val (.int k), .val (.int pa), .val (.int cnt), .val (.int zb), .unset, .unset, .unset, .unset, .unset] [(.ref by1)])
      refine hs.go (fun _ kk_ => XS.goto X11.here hx rfl (pc0 := 32) (pc' := 38) rfl (hb hby at_32) (by decide) (by decide) kk_) ?_
      show G T11 (mkF m 38 #[.val (.int s0), .val (.int s1), .val (.int s2), .val (.int s3), .val (.int k), .val (.int pa), .val (.int cnt), .val (.int zb), .unset, .unset, .unset, .unset, .unset] [(.ref by1)])
      refine hs.go (fun _ kk_ => XS.astore X11.here hx rfl (hb hby at_38) rfl rfl (l' := #[.val (.int s0), .val (.int s1), .val (.int s2), .val (.int s3), .val (.int k), .val (.int pa), .val (.int cnt), .val (.int zb), .val (.ref by1), .unset, .unset, .unset, .unset]) rfl kk_) ?_
      show G T11 (mkF m 40 #[.val (.int s0), .val (.int s1), .val (.int s2), .val (.int s3), .val (.int k), .val (.int pa), .val (.int cnt), .val (.int zb), .val (.ref by1), .unset, .unset, .unset, .unset] [])
      refine hs.go (fun _ kk_ => XS.iconst X11.here hx rfl (hb hby at_40) kk_) ?_
      show G T11 (mkF m 41 #[.val (.int s0), .val (.int s1), .val (.int s2), .val (.int s3), .val (.int k), .val (.int pa), .val (.int cnt), .val (.int zb), .val (.ref by1), .unset, .unset, .unset, .unset] [(.int (4 : Int32))])
      refine rNewP hs X11 hx hZ (hw _ (List.mem_of_getElem? (i := 1) rfl)) rfl (hb hby at_41) rfl (by decide) 4 4 (by decide) (by decide) (by decide) (by decide) (fun T12 h12 k12 st g12 X12 E12 V_st => ?_)
      have V_st : Arv Z h12 st k12 .int (4 : Int32) [(.int (0 : Int32)), (.int (0 : Int32)), (.int (0 : Int32)), (.int (0 : Int32))] (.int (0 : Int32)) := V_st
      have g_st : n0 ≤ st := by rw [g12]; exact Z0
      have Z0 := Nat.le_trans Z0 E12.1
      have ne_by1_st : by1 ≠ st := Nat.ne_of_lt (Nat.lt_of_lt_of_le V_by1.lt (Nat.le_of_eq g12.symm))
      have V_by1 := V_by1.ext E12
      show G T12 (mkF m 43 #[.val (.int s0), .val (.int s1), .val (.int s2), .val (.int s3), .val (.int k), .val (.int pa), .val (.int cnt), .val (.int zb), .val (.ref by1), .unset, .unset, .unset, .unset] [(.ref st)])
      refine hs.go (fun _ kk_ => XS.astore X12.here hx rfl (hb hby at_43) rfl rfl (l' := #[.val (.int s0), .val (.int s1), .val (.int s2), .val (.int s3), .val (.int k), .val (.int pa), .val (.int cnt), .val (.int zb), .val (.ref by1), .val (.ref st), .unset, .unset, .unset]) rfl kk_) ?_
      show G T12 (mkF m 45 #[.val (.int s0), .val (.int s1), .val (.int s2), .val (.int s3), .val (.int k), .val (.int pa), .val (.int cnt), .val (.int zb), .val (.ref by1), .val (.ref st), .unset, .unset, .unset] [])
      refine hs.go (fun _ kk_ => XS.aload X12.here hx rfl (hb hby at_45) rfl rfl kk_) ?_
      show G T12 (mkF m 47 #[.val (.int s0), .val (.int s1), .val (.int s2), .val (.int s3), .val (.int k), .val (.int pa), .val (.int cnt), .val (.int zb), .val (.ref by1), .val (.ref st), .unset, .unset, .unset] [(.ref st)])
      refine hs.go (fun _ kk_ => XS.iconst X12.here hx rfl (hb hby at_47) kk_) ?_
      show G T12 (mkF m 48 #[.val (.int s0), .val (.int s1), .val (.int s2), .val (.int s3), .val (.int k), .val (.int pa), .val (.int cnt), .val (.int zb), .val (.ref by1), .val (.ref st), .unset, .unset, .unset] [(.int (0 : Int32)), (.ref st)])
      refine hs.go (fun _ kk_ => XS.iloadN X12.here hx rfl (hb hby at_48) rfl  kk_) ?_
      show G T12 (mkF m 49 #[.val (.int s0), .val (.int s1), .val (.int s2), .val (.int s3), .val (.int k), .val (.int pa), .val (.int cnt), .val (.int zb), .val (.ref by1), .val (.ref st), .unset, .unset, .unset] [(.int s0), (.int (0 : Int32)), (.ref st)])
      refine rStI hs X12 hx hZ V_st g_st ⟨by decide, by decide⟩ 0 (by decide) (by simp) rfl rfl (hb hby at_49) (fun T13 h13 X13 W13 V_st => ?_)
      have V_st : Arv Z h13 st k12 .int (4 : Int32) [(.int s0), (.int (0 : Int32)), (.int (0 : Int32)), (.int (0 : Int32))] (.int (0 : Int32)) := V_st
      have V_by1 := V_by1.other W13 ne_by1_st
      have Z0 := Nat.le_trans Z0 (Keep.of_wr W13).1
      show G T13 (mkF m 50 #[.val (.int s0), .val (.int s1), .val (.int s2), .val (.int s3), .val (.int k), .val (.int pa), .val (.int cnt), .val (.int zb), .val (.ref by1), .val (.ref st), .unset, .unset, .unset] [])
      refine hs.go (fun _ kk_ => XS.aload X13.here hx rfl (hb hby at_50) rfl rfl kk_) ?_
      show G T13 (mkF m 52 #[.val (.int s0), .val (.int s1), .val (.int s2), .val (.int s3), .val (.int k), .val (.int pa), .val (.int cnt), .val (.int zb), .val (.ref by1), .val (.ref st), .unset, .unset, .unset] [(.ref st)])
      refine hs.go (fun _ kk_ => XS.iconst X13.here hx rfl (hb hby at_52) kk_) ?_
      show G T13 (mkF m 53 #[.val (.int s0), .val (.int s1), .val (.int s2), .val (.int s3), .val (.int k), .val (.int pa), .val (.int cnt), .val (.int zb), .val (.ref by1), .val (.ref st), .unset, .unset, .unset] [(.int (1 : Int32)), (.ref st)])
      refine hs.go (fun _ kk_ => XS.iloadN X13.here hx rfl (hb hby at_53) rfl  kk_) ?_
      show G T13 (mkF m 54 #[.val (.int s0), .val (.int s1), .val (.int s2), .val (.int s3), .val (.int k), .val (.int pa), .val (.int cnt), .val (.int zb), .val (.ref by1), .val (.ref st), .unset, .unset, .unset] [(.int s1), (.int (1 : Int32)), (.ref st)])
      refine rStI hs X13 hx hZ V_st g_st ⟨by decide, by decide⟩ 1 (by decide) (by simp) rfl rfl (hb hby at_54) (fun T14 h14 X14 W14 V_st => ?_)
      have V_st : Arv Z h14 st k12 .int (4 : Int32) [(.int s0), (.int s1), (.int (0 : Int32)), (.int (0 : Int32))] (.int (0 : Int32)) := V_st
      have V_by1 := V_by1.other W14 ne_by1_st
      have Z0 := Nat.le_trans Z0 (Keep.of_wr W14).1
      show G T14 (mkF m 55 #[.val (.int s0), .val (.int s1), .val (.int s2), .val (.int s3), .val (.int k), .val (.int pa), .val (.int cnt), .val (.int zb), .val (.ref by1), .val (.ref st), .unset, .unset, .unset] [])
      refine hs.go (fun _ kk_ => XS.aload X14.here hx rfl (hb hby at_55) rfl rfl kk_) ?_
      show G T14 (mkF m 57 #[.val (.int s0), .val (.int s1), .val (.int s2), .val (.int s3), .val (.int k), .val (.int pa), .val (.int cnt), .val (.int zb), .val (.ref by1), .val (.ref st), .unset, .unset, .unset] [(.ref st)])
      refine hs.go (fun _ kk_ => XS.iconst X14.here hx rfl (hb hby at_57) kk_) ?_
      show G T14 (mkF m 58 #[.val (.int s0), .val (.int s1), .val (.int s2), .val (.int s3), .val (.int k), .val (.int pa), .val (.int cnt), .val (.int zb), .val (.ref by1), .val (.ref st), .unset, .unset, .unset] [(.int (2 : Int32)), (.ref st)])
      refine hs.go (fun _ kk_ => XS.iloadN X14.here hx rfl (hb hby at_58) rfl  kk_) ?_
      show G T14 (mkF m 59 #[.val (.int s0), .val (.int s1), .val (.int s2), .val (.int s3), .val (.int k), .val (.int pa), .val (.int cnt), .val (.int zb), .val (.ref by1), .val (.ref st), .unset, .unset, .unset] [(.int s2), (.int (2 : Int32)), (.ref st)])
      refine rStI hs X14 hx hZ V_st g_st ⟨by decide, by decide⟩ 2 (by decide) (by simp) rfl rfl (hb hby at_59) (fun T15 h15 X15 W15 V_st => ?_)
      have V_st : Arv Z h15 st k12 .int (4 : Int32) [(.int s0), (.int s1), (.int s2), (.int (0 : Int32))] (.int (0 : Int32)) := V_st
      have V_by1 := V_by1.other W15 ne_by1_st
      have Z0 := Nat.le_trans Z0 (Keep.of_wr W15).1
      show G T15 (mkF m 60 #[.val (.int s0), .val (.int s1), .val (.int s2), .val (.int s3), .val (.int k), .val (.int pa), .val (.int cnt), .val (.int zb), .val (.ref by1), .val (.ref st), .unset, .unset, .unset] [])
      refine hs.go (fun _ kk_ => XS.aload X15.here hx rfl (hb hby at_60) rfl rfl kk_) ?_
      show G T15 (mkF m 62 #[.val (.int s0), .val (.int s1), .val (.int s2), .val (.int s3), .val (.int k), .val (.int pa), .val (.int cnt), .val (.int zb), .val (.ref by1), .val (.ref st), .unset, .unset, .unset] [(.ref st)])
      refine hs.go (fun _ kk_ => XS.iconst X15.here hx rfl (hb hby at_62) kk_) ?_
      show G T15 (mkF m 63 #[.val (.int s0), .val (.int s1), .val (.int s2), .val (.int s3), .val (.int k), .val (.int pa), .val (.int cnt), .val (.int zb), .val (.ref by1), .val (.ref st), .unset, .unset, .unset] [(.int (3 : Int32)), (.ref st)])
      refine hs.go (fun _ kk_ => XS.iloadN X15.here hx rfl (hb hby at_63) rfl  kk_) ?_
      show G T15 (mkF m 64 #[.val (.int s0), .val (.int s1), .val (.int s2), .val (.int s3), .val (.int k), .val (.int pa), .val (.int cnt), .val (.int zb), .val (.ref by1), .val (.ref st), .unset, .unset, .unset] [(.int s3), (.int (3 : Int32)), (.ref st)])
      refine rStI hs X15 hx hZ V_st g_st ⟨by decide, by decide⟩ 3 (by decide) (by simp) rfl rfl (hb hby at_64) (fun T16 h16 X16 W16 V_st => ?_)
      have V_st : Arv Z h16 st k12 .int (4 : Int32) [(.int s0), (.int s1), (.int s2), (.int s3)] (.int (0 : Int32)) := V_st
      have V_by1 := V_by1.other W16 ne_by1_st
      have Z0 := Nat.le_trans Z0 (Keep.of_wr W16).1
      show G T16 (mkF m 65 #[.val (.int s0), .val (.int s1), .val (.int s2), .val (.int s3), .val (.int k), .val (.int pa), .val (.int cnt), .val (.int zb), .val (.ref by1), .val (.ref st), .unset, .unset, .unset] [])
      refine rNewO hs X16 hx hZ hown (hw _ (List.mem_of_getElem? (i := 2) rfl)) (hw _ (List.mem_of_getElem? (i := 3) rfl)) (hw _ (List.mem_of_getElem? (i := 4) rfl)) rfl (hb hby at_65) (by decide) (by decide) (fun T17 h17 pg g17 X17 E17 E_pg D17 => ?_)
      have g_pg : n0 ≤ pg := by rw [g17]; exact Z0
      have Z0 := Nat.le_trans Z0 E17.1
      have ne_by1_pg : by1 ≠ pg := Nat.ne_of_lt (Nat.lt_of_lt_of_le V_by1.lt (Nat.le_of_eq g17.symm))
      have ne_st_pg : st ≠ pg := Nat.ne_of_lt (Nat.lt_of_lt_of_le V_st.lt (Nat.le_of_eq g17.symm))
      have V_by1 := V_by1.ext E17
      have V_st := V_st.ext E17
      have F_prefixAt_pg : Fld Z h17 pg "tabeliao/tree/NodePage" "prefixAt" "I" (.int (0 : Int32)) := D17 (Or.inr (hw _ (List.mem_of_getElem? (i := 15) rfl))) (ty := .int) (by decide)
      have F_bytes_pg : Fld Z h17 pg "tabeliao/tree/NodePage" "bytes" "[B" .null := D17 (Or.inl (hw _ (List.mem_of_getElem? (i := 17) rfl))) (ty := (.array .byte)) (by decide)
      have F_starts_pg : Fld Z h17 pg "tabeliao/tree/NodePage" "starts" "[I" .null := D17 (Or.inl (hw _ (List.mem_of_getElem? (i := 19) rfl))) (ty := (.array .int)) (by decide)
      have F_count_pg : Fld Z h17 pg "tabeliao/tree/NodePage" "count" "I" (.int (0 : Int32)) := D17 (Or.inl (hw _ (List.mem_of_getElem? (i := 21) rfl))) (ty := .int) (by decide)
      have F_shared_pg : Fld Z h17 pg "tabeliao/tree/NodePage" "shared" "Z" (.int (0 : Int32)) := D17 (Or.inl (hw _ (List.mem_of_getElem? (i := 23) rfl))) (ty := .boolean) (by decide)
      show G T17 (mkF m 68 #[.val (.int s0), .val (.int s1), .val (.int s2), .val (.int s3), .val (.int k), .val (.int pa), .val (.int cnt), .val (.int zb), .val (.ref by1), .val (.ref st), .unset, .unset, .unset] [(.ref pg)])
      refine hs.go (fun _ kk_ => XS.dup X17.here hx rfl (hb hby at_68) rfl rfl kk_) ?_
      show G T17 (mkF m 69 #[.val (.int s0), .val (.int s1), .val (.int s2), .val (.int s3), .val (.int k), .val (.int pa), .val (.int cnt), .val (.int zb), .val (.ref by1), .val (.ref st), .unset, .unset, .unset] [(.ref pg), (.ref pg)])
      refine hs.go (fun _ kk_ => XS.aload X17.here hx rfl (hb hby at_69) rfl rfl kk_) ?_
      show G T17 (mkF m 71 #[.val (.int s0), .val (.int s1), .val (.int s2), .val (.int s3), .val (.int k), .val (.int pa), .val (.int cnt), .val (.int zb), .val (.ref by1), .val (.ref st), .unset, .unset, .unset] [(.ref by1), (.ref pg), (.ref pg)])
      refine hs.go (fun _ kk_ => XS.iload X17.here hx rfl (hb hby at_71) rfl  kk_) ?_
      show G T17 (mkF m 73 #[.val (.int s0), .val (.int s1), .val (.int s2), .val (.int s3), .val (.int k), .val (.int pa), .val (.int cnt), .val (.int zb), .val (.ref by1), .val (.ref st), .unset, .unset, .unset] [(.int pa), (.ref by1), (.ref pg), (.ref pg)])
      refine hs.go (fun _ kk_ => XS.aload X17.here hx rfl (hb hby at_73) rfl rfl kk_) ?_
      show G T17 (mkF m 75 #[.val (.int s0), .val (.int s1), .val (.int s2), .val (.int s3), .val (.int k), .val (.int pa), .val (.int cnt), .val (.int zb), .val (.ref by1), .val (.ref st), .unset, .unset, .unset] [(.ref st), (.int pa), (.ref by1), (.ref pg), (.ref pg)])
      refine hs.go (fun _ kk_ => XS.iload X17.here hx rfl (hb hby at_75) rfl  kk_) ?_
      show G T17 (mkF m 77 #[.val (.int s0), .val (.int s1), .val (.int s2), .val (.int s3), .val (.int k), .val (.int pa), .val (.int cnt), .val (.int zb), .val (.ref by1), .val (.ref st), .unset, .unset, .unset] [(.int cnt), (.ref st), (.int pa), (.ref by1), (.ref pg), (.ref pg)])
      refine rCallI hs X17 hx hZ (as' := [(.ref by1), (.int pa), (.ref st), (.int cnt)]) (rm1 l Z a0 hw [] pg by1 pa st cnt h17 n0 Z0 E_pg g_pg F_prefixAt_pg F_bytes_pg F_starts_pg F_count_pg F_shared_pg) rfl hown (hw _ (List.mem_of_getElem? (i := 5) rfl)) (hw _ (List.mem_of_getElem? (i := 6) rfl)) (hw _ (List.mem_of_getElem? (i := 4) rfl)) (hw _ (List.mem_of_getElem? (i := 7) rfl)) hy_1 rfl (by rw [hml]; rfl) [(.ref pg)] (lenOf pd_1 rfl) rfl 1 (by show 2 * 0 + _ ≤ _; exact Nat.le_of_eq rfl) (hb hby at_77) (by decide) (by decide) (by decide) (by decide) (fun r18 T18 h18 X18 q18 => ?_)
      obtain ⟨rfl, Kc18, E_pg, F_starts_pg, F_count_pg⟩ := q18
      have Z0 := Nat.le_trans Z0 Kc18.1
      have V_by1 := V_by1.keep Kc18 (ninS ne_by1_pg nin0)
      have V_st := V_st.keep Kc18 (ninS ne_st_pg nin0)
      show G T18 (mkF m 80 #[.val (.int s0), .val (.int s1), .val (.int s2), .val (.int s3), .val (.int k), .val (.int pa), .val (.int cnt), .val (.int zb), .val (.ref by1), .val (.ref st), .unset, .unset, .unset] [(.ref pg)])
      refine hs.go (fun _ kk_ => XS.astore X18.here hx rfl (hb hby at_80) rfl rfl (l' := #[.val (.int s0), .val (.int s1), .val (.int s2), .val (.int s3), .val (.int k), .val (.int pa), .val (.int cnt), .val (.int zb), .val (.ref by1), .val (.ref st), .val (.ref pg), .unset, .unset]) rfl kk_) ?_
      show G T18 (mkF m 82 #[.val (.int s0), .val (.int s1), .val (.int s2), .val (.int s3), .val (.int k), .val (.int pa), .val (.int cnt), .val (.int zb), .val (.ref by1), .val (.ref st), .val (.ref pg), .unset, .unset] [])
      have J120 : ∀ (en : Int32), ((cnt = (0 : Int32) ∧ en = s0) ∨ (¬ (cnt = (0 : Int32)) ∧ cnt = (1 : Int32) ∧ en = s1) ∨ (¬ (cnt = (0 : Int32)) ∧ ¬ (cnt = (1 : Int32)) ∧ cnt = (2 : Int32) ∧ en = s2) ∨ (¬ (cnt = (0 : Int32)) ∧ ¬ (cnt = (1 : Int32)) ∧ ¬ (cnt = (2 : Int32)) ∧ en = s3)) → G T18 (mkF m 120 #[.val (.int s0), .val (.int s1), .val (.int s2), .val (.int s3), .val (.int k), .val (.int pa), .val (.int cnt), .val (.int zb), .val (.ref by1), .val (.ref st), .val (.ref pg), .val (.int en), .unset] []) := by
        intro en hJ120
        show G T18 (mkF m 120 #[.val (.int s0), .val (.int s1), .val (.int s2), .val (.int s3), .val (.int k), .val (.int pa), .val (.int cnt), .val (.int zb), .val (.ref by1), .val (.ref st), .val (.ref pg), .val (.int en), .unset] [])
        have J133 : ∀ (z2 : Int32), (((4096 : Int32) < en ∧ z2 = (0 : Int32)) ∨ (¬ ((4096 : Int32) < en) ∧ z2 = (1 : Int32))) → G T18 (mkF m 133 #[.val (.int s0), .val (.int s1), .val (.int s2), .val (.int s3), .val (.int k), .val (.int pa), .val (.int cnt), .val (.int zb), .val (.ref by1), .val (.ref st), .val (.ref pg), .val (.int en), .unset] [(.int z2)]) := by
          intro z2 hJ133
          show G T18 (mkF m 133 #[.val (.int s0), .val (.int s1), .val (.int s2), .val (.int s3), .val (.int k), .val (.int pa), .val (.int cnt), .val (.int zb), .val (.ref by1), .val (.ref st), .val (.ref pg), .val (.int en), .unset] [(.int z2)])
          refine hs.go (fun _ kk_ => XS.istore X18.here hx rfl (hb hby at_133) rfl (l' := #[.val (.int s0), .val (.int s1), .val (.int s2), .val (.int s3), .val (.int k), .val (.int pa), .val (.int cnt), .val (.int zb), .val (.ref by1), .val (.ref st), .val (.ref pg), .val (.int en), .val (.int z2)]) rfl kk_) ?_
          show G T18 (mkF m 135 #[.val (.int s0), .val (.int s1), .val (.int s2), .val (.int s3), .val (.int k), .val (.int pa), .val (.int cnt), .val (.int zb), .val (.ref by1), .val (.ref st), .val (.ref pg), .val (.int en), .val (.int z2)] [])
          refine hs.go (fun _ kk_ => XS.aload X18.here hx rfl (hb hby at_135) rfl rfl kk_) ?_
          show G T18 (mkF m 137 #[.val (.int s0), .val (.int s1), .val (.int s2), .val (.int s3), .val (.int k), .val (.int pa), .val (.int cnt), .val (.int zb), .val (.ref by1), .val (.ref st), .val (.ref pg), .val (.int en), .val (.int z2)] [(.ref pg)])
          refine rCallV hs X18 hx hZ (as' := []) (rm4 l Z a0 hw [] pg st cnt s0 s1 s2 s3 en k12 h18 n0 Z0 F_starts_pg F_count_pg V_st (own_end hcnt hJ120).1 (own_end hcnt hJ120).2) E_pg hown (hw _ (List.mem_of_getElem? (i := 24) rfl)) (hw _ (List.mem_of_getElem? (i := 25) rfl)) (hw _ (List.mem_of_getElem? (i := 27) rfl)) (hw _ (List.mem_of_getElem? (i := 26) rfl)) (hw _ (List.mem_of_getElem? (i := 4) rfl)) (hw _ (List.mem_of_getElem? (i := 28) rfl)) hy_4 rfl (by rw [hml]; rfl) [] (lenOf pd_2 rfl) rfl 0 (by show 2 * 0 + _ ≤ _; exact Nat.le_of_eq rfl) (hb hby at_137) (by decide) (by decide) (by decide) (by decide) (fun r19 T19 h19 X19 q19 => ?_)
          obtain ⟨rfl, qh19⟩ := q19
          rw [qh19] at X19
          show G T19 (mkF m 140 #[.val (.int s0), .val (.int s1), .val (.int s2), .val (.int s3), .val (.int k), .val (.int pa), .val (.int cnt), .val (.int zb), .val (.ref by1), .val (.ref st), .val (.ref pg), .val (.int en), .val (.int z2)] [(.int (f4 en))])
          refine hs.go (fun _ kk_ => XS.iload X19.here hx rfl (hb hby at_140) rfl  kk_) ?_
          show G T19 (mkF m 142 #[.val (.int s0), .val (.int s1), .val (.int s2), .val (.int s3), .val (.int k), .val (.int pa), .val (.int cnt), .val (.int zb), .val (.ref by1), .val (.ref st), .val (.ref pg), .val (.int en), .val (.int z2)] [(.int z2), (.int (f4 en))])
          refine hs.go (fun _ kk_ => XS.icmpNo X19.here hx rfl (hb hby at_142) rfl (teq (own_f4 hJ133 : (f4 en) = z2)).2 kk_) ?_
          show G T19 (mkF m 145 #[.val (.int s0), .val (.int s1), .val (.int s2), .val (.int s3), .val (.int k), .val (.int pa), .val (.int cnt), .val (.int zb), .val (.ref by1), .val (.ref st), .val (.ref pg), .val (.int en), .val (.int z2)] [])
          refine hs.go (fun _ kk_ => XS.aload X19.here hx rfl (hb hby at_145) rfl rfl kk_) ?_
          show G T19 (mkF m 147 #[.val (.int s0), .val (.int s1), .val (.int s2), .val (.int s3), .val (.int k), .val (.int pa), .val (.int cnt), .val (.int zb), .val (.ref by1), .val (.ref st), .val (.ref pg), .val (.int en), .val (.int z2)] [(.ref pg)])
          refine rCallV hs X19 hx hZ (as' := []) (rm5 l Z a0 hw [] pg cnt h18 n0 Z0 F_count_pg) E_pg hown (hw _ (List.mem_of_getElem? (i := 29) rfl)) (hw _ (List.mem_of_getElem? (i := 30) rfl)) (hw _ (List.mem_of_getElem? (i := 32) rfl)) (hw _ (List.mem_of_getElem? (i := 31) rfl)) (hw _ (List.mem_of_getElem? (i := 4) rfl)) (hw _ (List.mem_of_getElem? (i := 33) rfl)) hy_5 rfl (by rw [hml]; rfl) [] (lenOf pd_3 rfl) rfl 0 (by show 2 * 0 + _ ≤ _; exact Nat.le_of_eq rfl) (hb hby at_147) (by decide) (by decide) (by decide) (by decide) (fun r20 T20 h20 X20 q20 => ?_)
          obtain ⟨rfl, qh20⟩ := q20
          rw [qh20] at X20
          show G T20 (mkF m 150 #[.val (.int s0), .val (.int s1), .val (.int s2), .val (.int s3), .val (.int k), .val (.int pa), .val (.int cnt), .val (.int zb), .val (.ref by1), .val (.ref st), .val (.ref pg), .val (.int en), .val (.int z2)] [(.int cnt)])
          refine hs.go (fun _ kk_ => XS.iload X20.here hx rfl (hb hby at_150) rfl  kk_) ?_
          show G T20 (mkF m 152 #[.val (.int s0), .val (.int s1), .val (.int s2), .val (.int s3), .val (.int k), .val (.int pa), .val (.int cnt), .val (.int zb), .val (.ref by1), .val (.ref st), .val (.ref pg), .val (.int en), .val (.int z2)] [(.int cnt), (.int cnt)])
          refine hs.go (fun _ kk_ => XS.icmpNo X20.here hx rfl (hb hby at_152) rfl (teq (rfl : cnt = cnt)).2 kk_) ?_
          show G T20 (mkF m 155 #[.val (.int s0), .val (.int s1), .val (.int s2), .val (.int s3), .val (.int k), .val (.int pa), .val (.int cnt), .val (.int zb), .val (.ref by1), .val (.ref st), .val (.ref pg), .val (.int en), .val (.int z2)] [])
          refine hs.go (fun _ kk_ => XS.iconst X20.here hx rfl (hb hby at_155) kk_) ?_
          show G T20 (mkF m 156 #[.val (.int s0), .val (.int s1), .val (.int s2), .val (.int s3), .val (.int k), .val (.int pa), .val (.int cnt), .val (.int zb), .val (.ref by1), .val (.ref st), .val (.ref pg), .val (.int en), .val (.int z2)] [(.int (1 : Int32))])
          refine hs.go (fun _ kk_ => XS.goto X20.here hx rfl (pc0 := 156) (pc' := 160) rfl (hb hby at_156) (by decide) (by decide) kk_) ?_
          show G T20 (mkF m 160 #[.val (.int s0), .val (.int s1), .val (.int s2), .val (.int s3), .val (.int k), .val (.int pa), .val (.int cnt), .val (.int zb), .val (.ref by1), .val (.ref st), .val (.ref pg), .val (.int en), .val (.int z2)] [(.int (1 : Int32))])
          exact rRetN fin X20 hx (by decide) (by decide) hret (by simp) (hb hby at_160) (z' := (1 : Int32)) (by decide) rfl
        refine hs.go (fun _ kk_ => XS.iload X18.here hx rfl (hb hby at_120) rfl  kk_) ?_
        show G T18 (mkF m 122 #[.val (.int s0), .val (.int s1), .val (.int s2), .val (.int s3), .val (.int k), .val (.int pa), .val (.int cnt), .val (.int zb), .val (.ref by1), .val (.ref st), .val (.ref pg), .val (.int en), .unset] [(.int en)])
        refine hs.go (fun _ kk_ => XS.sipush X18.here hx rfl (hb hby at_122) kk_) ?_
        show G T18 (mkF m 125 #[.val (.int s0), .val (.int s1), .val (.int s2), .val (.int s3), .val (.int k), .val (.int pa), .val (.int cnt), .val (.int zb), .val (.ref by1), .val (.ref st), .val (.ref pg), .val (.int en), .unset] [(.int (4096 : Int32)), (.int en)])
        by_cases c125 : (4096 : Int32) < en
        · refine hs.go (fun _ kk_ => XS.icmpYes X18.here hx rfl (pc0 := 125) (pc' := 132) rfl (hb hby at_125) rfl (tlt c125).2.2.1 (by decide) (by decide) kk_) ?_
          show G T18 (mkF m 132 #[.val (.int s0), .val (.int s1), .val (.int s2), .val (.int s3), .val (.int k), .val (.int pa), .val (.int cnt), .val (.int zb), .val (.ref by1), .val (.ref st), .val (.ref pg), .val (.int en), .unset] [])
          refine hs.go (fun _ kk_ => XS.iconst X18.here hx rfl (hb hby at_132) kk_) ?_
          show G T18 (mkF m 133 #[.val (.int s0), .val (.int s1), .val (.int s2), .val (.int s3), .val (.int k), .val (.int pa), .val (.int cnt), .val (.int zb), .val (.ref by1), .val (.ref st), .val (.ref pg), .val (.int en), .unset] [(.int (0 : Int32))])
          exact J133 _ (Or.inl (⟨c125, rfl⟩))
        · refine hs.go (fun _ kk_ => XS.icmpNo X18.here hx rfl (hb hby at_125) rfl (flt c125).2.2.1 kk_) ?_
          show G T18 (mkF m 128 #[.val (.int s0), .val (.int s1), .val (.int s2), .val (.int s3), .val (.int k), .val (.int pa), .val (.int cnt), .val (.int zb), .val (.ref by1), .val (.ref st), .val (.ref pg), .val (.int en), .unset] [])
          refine hs.go (fun _ kk_ => XS.iconst X18.here hx rfl (hb hby at_128) kk_) ?_
          show G T18 (mkF m 129 #[.val (.int s0), .val (.int s1), .val (.int s2), .val (.int s3), .val (.int k), .val (.int pa), .val (.int cnt), .val (.int zb), .val (.ref by1), .val (.ref st), .val (.ref pg), .val (.int en), .unset] [(.int (1 : Int32))])
          refine hs.go (fun _ kk_ => XS.goto X18.here hx rfl (pc0 := 129) (pc' := 133) rfl (hb hby at_129) (by decide) (by decide) kk_) ?_
          show G T18 (mkF m 133 #[.val (.int s0), .val (.int s1), .val (.int s2), .val (.int s3), .val (.int k), .val (.int pa), .val (.int cnt), .val (.int zb), .val (.ref by1), .val (.ref st), .val (.ref pg), .val (.int en), .unset] [(.int (1 : Int32))])
          exact J133 _ (Or.inr (⟨c125, rfl⟩))
      refine hs.go (fun _ kk_ => XS.iload X18.here hx rfl (hb hby at_82) rfl  kk_) ?_
      show G T18 (mkF m 84 #[.val (.int s0), .val (.int s1), .val (.int s2), .val (.int s3), .val (.int k), .val (.int pa), .val (.int cnt), .val (.int zb), .val (.ref by1), .val (.ref st), .val (.ref pg), .unset, .unset] [(.int cnt)])
      by_cases c84 : cnt = (0 : Int32)
      · refine hs.go (fun _ kk_ => XS.ifNo X18.here hx rfl (hb hby at_84) rfl ((if0 _ _).trans (teq c84).2) kk_) ?_
        show G T18 (mkF m 87 #[.val (.int s0), .val (.int s1), .val (.int s2), .val (.int s3), .val (.int k), .val (.int pa), .val (.int cnt), .val (.int zb), .val (.ref by1), .val (.ref st), .val (.ref pg), .unset, .unset] [])
        refine hs.go (fun _ kk_ => XS.iloadN X18.here hx rfl (hb hby at_87) rfl  kk_) ?_
        show G T18 (mkF m 88 #[.val (.int s0), .val (.int s1), .val (.int s2), .val (.int s3), .val (.int k), .val (.int pa), .val (.int cnt), .val (.int zb), .val (.ref by1), .val (.ref st), .val (.ref pg), .unset, .unset] [(.int s0)])
        refine hs.go (fun _ kk_ => XS.istore X18.here hx rfl (hb hby at_88) rfl (l' := #[.val (.int s0), .val (.int s1), .val (.int s2), .val (.int s3), .val (.int k), .val (.int pa), .val (.int cnt), .val (.int zb), .val (.ref by1), .val (.ref st), .val (.ref pg), .val (.int s0), .unset]) rfl kk_) ?_
        show G T18 (mkF m 90 #[.val (.int s0), .val (.int s1), .val (.int s2), .val (.int s3), .val (.int k), .val (.int pa), .val (.int cnt), .val (.int zb), .val (.ref by1), .val (.ref st), .val (.ref pg), .val (.int s0), .unset] [])
        refine hs.go (fun _ kk_ => XS.goto X18.here hx rfl (pc0 := 90) (pc' := 120) rfl (hb hby at_90) (by decide) (by decide) kk_) ?_
        show G T18 (mkF m 120 #[.val (.int s0), .val (.int s1), .val (.int s2), .val (.int s3), .val (.int k), .val (.int pa), .val (.int cnt), .val (.int zb), .val (.ref by1), .val (.ref st), .val (.ref pg), .val (.int s0), .unset] [])
        exact J120 _ (Or.inl (⟨c84, rfl⟩))
      · refine hs.go (fun _ kk_ => XS.ifYes X18.here hx rfl (pc0 := 84) (pc' := 93) rfl (hb hby at_84) rfl ((if0 _ _).trans (feq c84).2) (by decide) (by decide) kk_) ?_
        show G T18 (mkF m 93 #[.val (.int s0), .val (.int s1), .val (.int s2), .val (.int s3), .val (.int k), .val (.int pa), .val (.int cnt), .val (.int zb), .val (.ref by1), .val (.ref st), .val (.ref pg), .unset, .unset] [])
        refine hs.go (fun _ kk_ => XS.iload X18.here hx rfl (hb hby at_93) rfl  kk_) ?_
        show G T18 (mkF m 95 #[.val (.int s0), .val (.int s1), .val (.int s2), .val (.int s3), .val (.int k), .val (.int pa), .val (.int cnt), .val (.int zb), .val (.ref by1), .val (.ref st), .val (.ref pg), .unset, .unset] [(.int cnt)])
        refine hs.go (fun _ kk_ => XS.iconst X18.here hx rfl (hb hby at_95) kk_) ?_
        show G T18 (mkF m 96 #[.val (.int s0), .val (.int s1), .val (.int s2), .val (.int s3), .val (.int k), .val (.int pa), .val (.int cnt), .val (.int zb), .val (.ref by1), .val (.ref st), .val (.ref pg), .unset, .unset] [(.int (1 : Int32)), (.int cnt)])
        by_cases c96 : cnt = (1 : Int32)
        · refine hs.go (fun _ kk_ => XS.icmpNo X18.here hx rfl (hb hby at_96) rfl (teq c96).2 kk_) ?_
          show G T18 (mkF m 99 #[.val (.int s0), .val (.int s1), .val (.int s2), .val (.int s3), .val (.int k), .val (.int pa), .val (.int cnt), .val (.int zb), .val (.ref by1), .val (.ref st), .val (.ref pg), .unset, .unset] [])
          refine hs.go (fun _ kk_ => XS.iloadN X18.here hx rfl (hb hby at_99) rfl  kk_) ?_
          show G T18 (mkF m 100 #[.val (.int s0), .val (.int s1), .val (.int s2), .val (.int s3), .val (.int k), .val (.int pa), .val (.int cnt), .val (.int zb), .val (.ref by1), .val (.ref st), .val (.ref pg), .unset, .unset] [(.int s1)])
          refine hs.go (fun _ kk_ => XS.istore X18.here hx rfl (hb hby at_100) rfl (l' := #[.val (.int s0), .val (.int s1), .val (.int s2), .val (.int s3), .val (.int k), .val (.int pa), .val (.int cnt), .val (.int zb), .val (.ref by1), .val (.ref st), .val (.ref pg), .val (.int s1), .unset]) rfl kk_) ?_
          show G T18 (mkF m 102 #[.val (.int s0), .val (.int s1), .val (.int s2), .val (.int s3), .val (.int k), .val (.int pa), .val (.int cnt), .val (.int zb), .val (.ref by1), .val (.ref st), .val (.ref pg), .val (.int s1), .unset] [])
          refine hs.go (fun _ kk_ => XS.goto X18.here hx rfl (pc0 := 102) (pc' := 120) rfl (hb hby at_102) (by decide) (by decide) kk_) ?_
          show G T18 (mkF m 120 #[.val (.int s0), .val (.int s1), .val (.int s2), .val (.int s3), .val (.int k), .val (.int pa), .val (.int cnt), .val (.int zb), .val (.ref by1), .val (.ref st), .val (.ref pg), .val (.int s1), .unset] [])
          exact J120 _ (Or.inr (Or.inl (⟨c84, c96, rfl⟩)))
        · refine hs.go (fun _ kk_ => XS.icmpYes X18.here hx rfl (pc0 := 96) (pc' := 105) rfl (hb hby at_96) rfl (feq c96).2 (by decide) (by decide) kk_) ?_
          show G T18 (mkF m 105 #[.val (.int s0), .val (.int s1), .val (.int s2), .val (.int s3), .val (.int k), .val (.int pa), .val (.int cnt), .val (.int zb), .val (.ref by1), .val (.ref st), .val (.ref pg), .unset, .unset] [])
          refine hs.go (fun _ kk_ => XS.iload X18.here hx rfl (hb hby at_105) rfl  kk_) ?_
          show G T18 (mkF m 107 #[.val (.int s0), .val (.int s1), .val (.int s2), .val (.int s3), .val (.int k), .val (.int pa), .val (.int cnt), .val (.int zb), .val (.ref by1), .val (.ref st), .val (.ref pg), .unset, .unset] [(.int cnt)])
          refine hs.go (fun _ kk_ => XS.iconst X18.here hx rfl (hb hby at_107) kk_) ?_
          show G T18 (mkF m 108 #[.val (.int s0), .val (.int s1), .val (.int s2), .val (.int s3), .val (.int k), .val (.int pa), .val (.int cnt), .val (.int zb), .val (.ref by1), .val (.ref st), .val (.ref pg), .unset, .unset] [(.int (2 : Int32)), (.int cnt)])
          by_cases c108 : cnt = (2 : Int32)
          · refine hs.go (fun _ kk_ => XS.icmpNo X18.here hx rfl (hb hby at_108) rfl (teq c108).2 kk_) ?_
            show G T18 (mkF m 111 #[.val (.int s0), .val (.int s1), .val (.int s2), .val (.int s3), .val (.int k), .val (.int pa), .val (.int cnt), .val (.int zb), .val (.ref by1), .val (.ref st), .val (.ref pg), .unset, .unset] [])
            refine hs.go (fun _ kk_ => XS.iloadN X18.here hx rfl (hb hby at_111) rfl  kk_) ?_
            show G T18 (mkF m 112 #[.val (.int s0), .val (.int s1), .val (.int s2), .val (.int s3), .val (.int k), .val (.int pa), .val (.int cnt), .val (.int zb), .val (.ref by1), .val (.ref st), .val (.ref pg), .unset, .unset] [(.int s2)])
            refine hs.go (fun _ kk_ => XS.istore X18.here hx rfl (hb hby at_112) rfl (l' := #[.val (.int s0), .val (.int s1), .val (.int s2), .val (.int s3), .val (.int k), .val (.int pa), .val (.int cnt), .val (.int zb), .val (.ref by1), .val (.ref st), .val (.ref pg), .val (.int s2), .unset]) rfl kk_) ?_
            show G T18 (mkF m 114 #[.val (.int s0), .val (.int s1), .val (.int s2), .val (.int s3), .val (.int k), .val (.int pa), .val (.int cnt), .val (.int zb), .val (.ref by1), .val (.ref st), .val (.ref pg), .val (.int s2), .unset] [])
            refine hs.go (fun _ kk_ => XS.goto X18.here hx rfl (pc0 := 114) (pc' := 120) rfl (hb hby at_114) (by decide) (by decide) kk_) ?_
            show G T18 (mkF m 120 #[.val (.int s0), .val (.int s1), .val (.int s2), .val (.int s3), .val (.int k), .val (.int pa), .val (.int cnt), .val (.int zb), .val (.ref by1), .val (.ref st), .val (.ref pg), .val (.int s2), .unset] [])
            exact J120 _ (Or.inr (Or.inr (Or.inl (⟨c84, c96, c108, rfl⟩))))
          · refine hs.go (fun _ kk_ => XS.icmpYes X18.here hx rfl (pc0 := 108) (pc' := 117) rfl (hb hby at_108) rfl (feq c108).2 (by decide) (by decide) kk_) ?_
            show G T18 (mkF m 117 #[.val (.int s0), .val (.int s1), .val (.int s2), .val (.int s3), .val (.int k), .val (.int pa), .val (.int cnt), .val (.int zb), .val (.ref by1), .val (.ref st), .val (.ref pg), .unset, .unset] [])
            refine hs.go (fun _ kk_ => XS.iloadN X18.here hx rfl (hb hby at_117) rfl  kk_) ?_
            show G T18 (mkF m 118 #[.val (.int s0), .val (.int s1), .val (.int s2), .val (.int s3), .val (.int k), .val (.int pa), .val (.int cnt), .val (.int zb), .val (.ref by1), .val (.ref st), .val (.ref pg), .unset, .unset] [(.int s3)])
            refine hs.go (fun _ kk_ => XS.istore X18.here hx rfl (hb hby at_118) rfl (l' := #[.val (.int s0), .val (.int s1), .val (.int s2), .val (.int s3), .val (.int k), .val (.int pa), .val (.int cnt), .val (.int zb), .val (.ref by1), .val (.ref st), .val (.ref pg), .val (.int s3), .unset]) rfl kk_) ?_
            show G T18 (mkF m 120 #[.val (.int s0), .val (.int s1), .val (.int s2), .val (.int s3), .val (.int k), .val (.int pa), .val (.int cnt), .val (.int zb), .val (.ref by1), .val (.ref st), .val (.ref pg), .val (.int s3), .unset] [])
            exact J120 _ (Or.inr (Or.inr (Or.inr (⟨c84, c96, c108, rfl⟩))))
  refine hs.go (fun _ kk_ => XS.iload X0.here hx rfl (hb hby at_6) rfl  kk_) ?_
  show G s₁ (mkF m 8 #[.val (.int s0), .val (.int s1), .val (.int s2), .val (.int s3), .val (.int k), .val (.int pa), .val (.int cnt), .unset, .unset, .unset, .unset, .unset, .unset] [(.int k)])
  refine hs.go (fun _ kk_ => XS.iconst X0.here hx rfl (hb hby at_8) kk_) ?_
  show G s₁ (mkF m 9 #[.val (.int s0), .val (.int s1), .val (.int s2), .val (.int s3), .val (.int k), .val (.int pa), .val (.int cnt), .unset, .unset, .unset, .unset, .unset, .unset] [(.int (2 : Int32)), (.int k)])
  refine hs.go (fun _ kk_ => XS.iushr X0.here hx rfl (hb hby at_9) rfl kk_) ?_
  show G s₁ (mkF m 10 #[.val (.int s0), .val (.int s1), .val (.int s2), .val (.int s3), .val (.int k), .val (.int pa), .val (.int cnt), .unset, .unset, .unset, .unset, .unset, .unset] [(.int ((k.toUInt32 >>> ((2 : Int32) &&& 31).toUInt32).toInt32))])
  refine hs.go (fun _ kk_ => XS.iconst X0.here hx rfl (hb hby at_10) kk_) ?_
  show G s₁ (mkF m 11 #[.val (.int s0), .val (.int s1), .val (.int s2), .val (.int s3), .val (.int k), .val (.int pa), .val (.int cnt), .unset, .unset, .unset, .unset, .unset, .unset] [(.int (1 : Int32)), (.int ((k.toUInt32 >>> ((2 : Int32) &&& 31).toUInt32).toInt32))])
  refine hs.go (fun _ kk_ => XS.iand X0.here hx rfl (hb hby at_11) rfl kk_) ?_
  show G s₁ (mkF m 12 #[.val (.int s0), .val (.int s1), .val (.int s2), .val (.int s3), .val (.int k), .val (.int pa), .val (.int cnt), .unset, .unset, .unset, .unset, .unset, .unset] [(.int (((k.toUInt32 >>> ((2 : Int32) &&& 31).toUInt32).toInt32) &&& (1 : Int32)))])
  by_cases c12 : (((k.toUInt32 >>> ((2 : Int32) &&& 31).toUInt32).toInt32) &&& (1 : Int32)) = (0 : Int32)
  · refine hs.go (fun _ kk_ => XS.ifYes X0.here hx rfl (pc0 := 12) (pc' := 19) rfl (hb hby at_12) rfl ((if0 _ _).trans (teq c12).1) (by decide) (by decide) kk_) ?_
    show G s₁ (mkF m 19 #[.val (.int s0), .val (.int s1), .val (.int s2), .val (.int s3), .val (.int k), .val (.int pa), .val (.int cnt), .unset, .unset, .unset, .unset, .unset, .unset] [])
    refine hs.go (fun _ kk_ => XS.iconst X0.here hx rfl (hb hby at_19) kk_) ?_
    show G s₁ (mkF m 20 #[.val (.int s0), .val (.int s1), .val (.int s2), .val (.int s3), .val (.int k), .val (.int pa), .val (.int cnt), .unset, .unset, .unset, .unset, .unset, .unset] [(.int (0 : Int32))])
    exact J20 _ (Or.inl (⟨c12, rfl⟩))
  · refine hs.go (fun _ kk_ => XS.ifNo X0.here hx rfl (hb hby at_12) rfl ((if0 _ _).trans (feq c12).1) kk_) ?_
    show G s₁ (mkF m 15 #[.val (.int s0), .val (.int s1), .val (.int s2), .val (.int s3), .val (.int k), .val (.int pa), .val (.int cnt), .unset, .unset, .unset, .unset, .unset, .unset] [])
    refine hs.go (fun _ kk_ => XS.iconst X0.here hx rfl (hb hby at_15) kk_) ?_
    show G s₁ (mkF m 16 #[.val (.int s0), .val (.int s1), .val (.int s2), .val (.int s3), .val (.int k), .val (.int pa), .val (.int cnt), .unset, .unset, .unset, .unset, .unset, .unset] [(.int (1 : Int32))])
    refine hs.go (fun _ kk_ => XS.goto X0.here hx rfl (pc0 := 16) (pc' := 20) rfl (hb hby at_16) (by decide) (by decide) kk_) ?_
    show G s₁ (mkF m 20 #[.val (.int s0), .val (.int s1), .val (.int s2), .val (.int s3), .val (.int k), .val (.int pa), .val (.int cnt), .unset, .unset, .unset, .unset, .unset, .unset] [(.int (1 : Int32))])
    exact J20 _ (Or.inr (⟨c12, rfl⟩))
set_option maxRecDepth 65536 in
set_option maxHeartbeats 40000000 in
theorem comes_1 {Post : Tables → Env → Array Value → State → Outcome → State → Prop} (hpost : ∀ tb e args s v u, (limb_1_1.after args s (.returned v) u = true ∧ limb_1_2.after args s (.returned v) u = true ∧ True) → FrameEnd s (.returned v) u (Jvm.fieldLocs frame_1_writes args s ++ Jvm.arrayLocs frame_1_arrays args s ++ Jvm.staticLocs frame_1_statics s) 16 10112 → Post tb e args s (.returned v) u) :
    ArmFor flags0 classFile x code maxLocals ret World_1 tables_1 room_1 Calls_1 rest_1 Pre_1 Post := by
  intro l hfl _ _ p e ha hc hk s m args below hf hA hF happ hP
  obtain ⟨hcalls, hrest, hpre⟩ := hP
  obtain ⟨-, -, -, hnamed, -, -, -, hat⟩ := (Spec.applies_iff hf).mp happ
  obtain ⟨hg, hn⟩ := and_e (Cond.before_iff.mp (show (Jvm.Cond.and given_1 narrow_1).before args s = true from hpre))
  obtain ⟨hcnt, hg0⟩ := and_e hg
  obtain ⟨t0, hg1⟩ := and_e hg0
  obtain ⟨t1, hg2⟩ := and_e hg1
  obtain ⟨t2, hg3⟩ := and_e hg2
  obtain ⟨t3, hg4⟩ := and_e hg3
  obtain ⟨t4, hg5⟩ := and_e hg4
  have t5 := hg5
  obtain ⟨w0, w1, w2, w3, w4, w5, rfl⟩ : ∃ w0 w1 w2 w3 w4 w5 : Value, args = #[w0, w1, w2, w3, w4, w5] := by
    have hs : args.size = 6 := by simpa [Cond.value, given_1] using hcnt
    obtain ⟨L⟩ := args
    match L, hs with
    | [w0, w1, w2, w3, w4, w5], _ => exact ⟨w0, w1, w2, w3, w4, w5, rfl⟩
  have hw := fun d (hd : d ∈ tables_1) => atoms_spec (ws := Jvm.Cond.code x code maxLocals ret :: tables_1) hat d (List.mem_cons_of_mem _ hd)
  have hfit : Fit s := fun {y c} hc i hi => by
    obtain ⟨ha, rfl⟩ := Array.getElem?_eq_some_iff.mp hc
    have q := List.all_eq_true.mp ((Array.all_eq_true_iff_forall_mem.mp hF) _ (Array.getElem_mem ha)) i (List.mem_range.mpr hi)
    simpa [Array.getElem?_eq_getElem hi] using q
  obtain ⟨i0, ei0⟩ := is_v t0
  obtain rfl : w0 = (.int i0) := Option.some.inj ei0
  obtain ⟨i1, ei1⟩ := is_v t1
  obtain rfl : w1 = (.int i1) := Option.some.inj ei1
  obtain ⟨i2, ei2⟩ := is_v t2
  obtain rfl : w2 = (.int i2) := Option.some.inj ei2
  obtain ⟨i3, ei3⟩ := is_v t3
  obtain rfl : w3 = (.int i3) := Option.some.inj ei3
  obtain ⟨i4, ei4⟩ := is_v t4
  obtain rfl : w4 = (.int i4) := Option.some.inj ei4
  obtain ⟨i5, ei5⟩ := is_v t5
  obtain rfl : w5 = (.int i5) := Option.some.inj ei5
  obtain ⟨n, o, h1, h2, h3, _, L, rfl, ⟨rfl, N⟩, hq⟩ := rm0 l s _ hw tables_1 i0 i1 i2 i3 i4 i5  s.heap s.heap.size (Nat.le_refl _)  p e ha hc hk s m _ below hf ((Spec.applies_iff_loose hf).mp happ).1 ⟨rfl, State.Warmed39.refl s, rfl⟩ trivial
  refine ⟨n, _, h1, h2, h3, hpost _ _ _ _ _ _ ⟨Cond.after_iff.mpr rfl, Cond.after_iff.mpr (eq_i res_at (Term.int_eval (1)) rfl), trivial⟩ ⟨hq.1, hq.2.1, (hq.2.2.sift fun y hy => Or.inr (N y hy)).mono (by decide) (by decide)⟩⟩
theorem main_1_1 : Claimed_1_1 := comes_1 fun _ _ _ _ _ _ h hF => ⟨h.1, hF⟩
theorem main_1_2 : Claimed_1_2 := comes_1 fun _ _ _ _ _ _ h hF => ⟨h.2.1, hF⟩
end Jvm.Pilot.@@N@@
namespace Jvm.Pilot.@@N@@
open Jvm Jvm.ClassFile Sem Op Lib Jvm.Free Jvm.Stand Jvm.Pilot.@@N@@.Jvm.D
/-! MADE BY PROGRAM (witnessworld.py) out of the Statement's table words and the real class files: 9 classes; the members and pool entries that the words name. The judged class is class 1, her method 1. -/
namespace start1
open Jvm.ClassFile
def u (s : String) : CpInfo := .utf8 (stringToUtf16 s)
/-- a pool by its gaps: so many unusable entries, then the entry; so many at the end -/
def gap : Nat → List CpInfo → List CpInfo
  | 0, r => r
  | n + 1, r => .unusable :: gap n r
def poolList (es : List (Nat × CpInfo)) (last : Nat) : List CpInfo := es.foldr (fun e r => gap e.1 (e.2 :: r)) (gap last [])
def pool (es : List (Nat × CpInfo)) (last : Nat) : Array CpInfo := ⟨poolList es last⟩
def fileOf (pool : Array CpInfo) (this : Nat) (attrs : Array Attribute := #[]) (ms : Array MethodInfo := #[]) (fl : Nat := 33) (sup : Nat := 0) (ifs : Array Nat := #[]) (fds : Array FieldInfo := #[]) : ClassFile where
  minorVersion := 0
  majorVersion := 65
  constantPool := pool
  accessFlags := fl
  thisClass := this
  superClass := sup
  interfaces := ifs
  fields := fds
  methods := ms
  attributes := attrs
def plain (name : String) (sup : Option ClassId) : Class where
  name := name
  kind := .ordinary
  loader := none
  accessFlags := 33
  super := sup
  interfaces := #[]
  cf := none
  fields := #[]
  methods := #[]
  instanceTypes := #[]
  staticTypes := #[]
  resolved := #[]
  callSites := []
  init := .initialized
  statics := none
  mirror := none

def pool0 : Array CpInfo := pool [(5, u "<init>"), (0, u "()V"), (1, .class_ 10), (1, u "java/lang/Object")] 113

def k0c0 : Code := { maxStack := 0, maxLocals := 1, code := object_method_1_code, exceptionTable := #[], attributes := #[] }
def k0m0 : Method := { name := "<init>", desc := "()V", sig := { parameters := [], returnType := none }, accessFlags := 1, code := some k0c0 }
/-- java/lang/Object -/
def k0 : Class := { plain "java/lang/Object" none with
  accessFlags := 33
  interfaces := #[]
  cf := some (fileOf pool0 8 #[] #[{ accessFlags := 1, nameIndex := 5, descriptorIndex := 6, attributes := #[] }] 33 0 #[] #[])
  fields := #[]
  methods := #[k0m0]
  instanceTypes := #[]
  staticTypes := #[]
  resolved := Array.replicate 124 none
  statics := none }

def pool1 : Array CpInfo := pool [(2, .class_ 4), (1, u "java/lang/Object"), (0, u "<init>"), (0, u "()V"), (0, .class_ 8), (0, u "tabeliao/tree/NodePage"), (0, .methodref 7 10), (0, .nameAndType 5 11), (0, u "([BI[II)V"), (0, .methodref 7 13), (0, .nameAndType 14 15), (0, u "fits"), (0, u "()Z"), (0, .methodref 7 17), (0, .nameAndType 18 19), (0, u "count"), (0, u "()I"), (0, .class_ 21), (0, u "tabeliao/tree/NodePageFitsPinLaw"), (2, u "law"), (0, u "(IIIIII)Z")] 7

def k1m0 : Method := { name := "<init>", desc := "()V", sig := { parameters := [], returnType := none }, accessFlags := 1, code := none }
def k1c1 : Code := { maxStack := 6, maxLocals := 13, code := code, exceptionTable := #[], attributes := #[] }
def k1m1 : Method := { name := "law", desc := "(IIIIII)Z", sig := { parameters := [.int, .int, .int, .int, .int, .int], returnType := some .boolean }, accessFlags := 9, code := some k1c1 }
/-- tabeliao/tree/NodePageFitsPinLaw -/
def k1 : Class := { plain "tabeliao/tree/NodePageFitsPinLaw" (some 0) with
  accessFlags := 49
  interfaces := #[]
  cf := some (fileOf pool1 20 #[] #[{ accessFlags := 1, nameIndex := 5, descriptorIndex := 6, attributes := #[] }, { accessFlags := 9, nameIndex := 24, descriptorIndex := 25, attributes := #[] }] 49 2 #[] #[])
  fields := #[]
  methods := #[k1m0, k1m1]
  instanceTypes := #[]
  staticTypes := #[]
  resolved := Array.replicate 33 none
  statics := none }

def pool2 : Array CpInfo := pool [(15, .class_ 16), (0, u "tabeliao/tree/NodePage"), (0, .methodref 15 18), (0, .nameAndType 19 20), (0, u "<init>"), (0, u "(I[B[IIZ)V"), (0, .methodref 22 23), (0, .class_ 24), (0, .nameAndType 19 25), (0, u "java/lang/Object"), (0, u "()V"), (0, .fieldref 15 27), (0, .nameAndType 28 29), (0, u "prefixAt"), (0, u "I"), (0, .fieldref 15 31), (0, .nameAndType 32 33), (0, u "bytes"), (0, u "[B"), (0, .fieldref 15 35), (0, .nameAndType 36 37), (0, u "starts"), (0, u "[I"), (0, .fieldref 15 39), (0, .nameAndType 40 29), (0, u "count"), (0, .fieldref 15 42), (0, .nameAndType 43 44), (0, u "shared"), (0, u "Z"), (5, u "()I"), (95, u "fits"), (0, u "()Z"), (14, u "NONE"), (4, u "LENGTH_BYTES"), (2, u "COUNT"), (4, u "([BI[II)V")] 45

def k2c0 : Code := { maxStack := 6, maxLocals := 5, code := prog_144_method_2_code, exceptionTable := #[], attributes := #[] }
def k2m0 : Method := { name := "<init>", desc := "([BI[II)V", sig := { parameters := [(.array .byte), .int, (.array .int), .int], returnType := none }, accessFlags := 0, code := some k2c0 }
def k2c1 : Code := { maxStack := 2, maxLocals := 6, code := prog_144_method_3_code, exceptionTable := #[], attributes := #[] }
def k2m1 : Method := { name := "<init>", desc := "(I[B[IIZ)V", sig := { parameters := [.int, (.array .byte), (.array .int), .int, .boolean], returnType := none }, accessFlags := 2, code := some k2c1 }
def k2c2 : Code := { maxStack := 1, maxLocals := 1, code := prog_144_method_8_code, exceptionTable := #[], attributes := #[] }
def k2m2 : Method := { name := "count", desc := "()I", sig := { parameters := [], returnType := some .int }, accessFlags := 0, code := some k2c2 }
def k2c3 : Code := { maxStack := 2, maxLocals := 1, code := prog_144_method_10_code, exceptionTable := #[], attributes := #[] }
def k2m3 : Method := { name := "fits", desc := "()Z", sig := { parameters := [], returnType := some .boolean }, accessFlags := 0, code := some k2c3 }
/-- tabeliao/tree/NodePage -/
def k2 : Class := { plain "tabeliao/tree/NodePage" (some 0) with
  accessFlags := 48
  interfaces := #[]
  cf := some (fileOf pool2 15 #[] #[{ accessFlags := 0, nameIndex := 19, descriptorIndex := 175, attributes := #[] }, { accessFlags := 2, nameIndex := 19, descriptorIndex := 20, attributes := #[] }, { accessFlags := 0, nameIndex := 40, descriptorIndex := 50, attributes := #[] }, { accessFlags := 0, nameIndex := 146, descriptorIndex := 147, attributes := #[] }] 48 22 #[] #[{ accessFlags := 24, nameIndex := 167, descriptorIndex := 29, attributes := #[] }, { accessFlags := 26, nameIndex := 170, descriptorIndex := 29, attributes := #[] }, { accessFlags := 26, nameIndex := 162, descriptorIndex := 33, attributes := #[] }, { accessFlags := 18, nameIndex := 28, descriptorIndex := 29, attributes := #[] }, { accessFlags := 2, nameIndex := 32, descriptorIndex := 33, attributes := #[] }, { accessFlags := 2, nameIndex := 43, descriptorIndex := 44, attributes := #[] }, { accessFlags := 2, nameIndex := 36, descriptorIndex := 37, attributes := #[] }, { accessFlags := 2, nameIndex := 40, descriptorIndex := 29, attributes := #[] }])
  fields := #[{ name := "LENGTH_BYTES", type := .int, accessFlags := 24, slot := 0, constantValue := 0 }, { name := "COUNT", type := .int, accessFlags := 26, slot := 1, constantValue := 0 }, { name := "NONE", type := (.array .byte), accessFlags := 26, slot := 2, constantValue := 0 }, { name := "prefixAt", type := .int, accessFlags := 18, slot := 0, constantValue := 0 }, { name := "bytes", type := (.array .byte), accessFlags := 2, slot := 1, constantValue := 0 }, { name := "shared", type := .boolean, accessFlags := 2, slot := 2, constantValue := 0 }, { name := "starts", type := (.array .int), accessFlags := 2, slot := 3, constantValue := 0 }, { name := "count", type := .int, accessFlags := 2, slot := 4, constantValue := 0 }]
  methods := #[k2m0, k2m1, k2m2, k2m3]
  instanceTypes := #[.int, (.array .byte), .boolean, (.array .int), .int]
  staticTypes := #[.int, .int, (.array .byte)]
  resolved := Array.replicate 221 none
  statics := none }

def pool3 : Array CpInfo := pool [(1, u "java/lang/Cloneable"), (0, .class_ 1), (0, u "java/lang/Object"), (0, .class_ 3)] 3

/-- java/lang/Cloneable -/
def k3 : Class := { plain "java/lang/Cloneable" (some 0) with
  accessFlags := 1537
  interfaces := #[]
  cf := some (fileOf pool3 2 #[] #[] 1537 4 #[] #[])
  fields := #[]
  methods := #[]
  instanceTypes := #[]
  staticTypes := #[]
  resolved := Array.replicate 8 none
  statics := none }

def pool4 : Array CpInfo := pool [(1, u "java/io/Serializable"), (0, .class_ 1), (0, u "java/lang/Object"), (0, .class_ 3)] 3

/-- java/io/Serializable -/
def k4 : Class := { plain "java/io/Serializable" (some 0) with
  accessFlags := 1537
  interfaces := #[]
  cf := some (fileOf pool4 2 #[] #[] 1537 4 #[] #[])
  fields := #[]
  methods := #[]
  instanceTypes := #[]
  staticTypes := #[]
  resolved := Array.replicate 8 none
  statics := none }

/-- the primitive byte -/
def k5 : Class := { plain "byte" none with kind := .primitive 'B', accessFlags := 0x411 }
/-- [B -/
def k6 : Class := { plain "[B" (some 0) with kind := .array 5 .byte, interfaces := #[3, 4], accessFlags := 1041 }

/-- the primitive int -/
def k7 : Class := { plain "int" none with kind := .primitive 'I', accessFlags := 0x411 }
/-- [I -/
def k8 : Class := { plain "[I" (some 0) with kind := .array 7 .int, interfaces := #[3, 4], accessFlags := 1041 }

def heap : Heap := #[]
def classes : Array Class := #[k0, k1, k2, k3, k4, k5, k6, k7, k8]
def interned : List (Array UInt16 × Addr) := []
def slotsUsed : Nat := 0
def theMethod : MethodId := ⟨1, 1⟩
def args0 : Array Value := #[.int 5, .int 5, .int 5, .int 5, .int 5, .int 5]
def aboutOver (below : List Frame) : State where
  vm := { classes := classes, interned := interned.toArray }
  heap := heap
  slotsUsed := slotsUsed
  threads := #[{ frames := .invoking theMethod args0 :: below }]
def below0 : List Frame := [.native { method := ⟨0, 0⟩, args := #[] }]
def about1 : State := aboutOver below0
def p0 : Program := .bare "" "" ""
def e0 : Env := launch0.env 0 0 0
theorem w_frames : about1.frames = Frame.invoking theMethod args0 :: below0 := rfl
set_option maxRecDepth 65536 in
theorem w_args : argsFit about1.vm theMethod args0 = true := by decide +kernel
set_option maxRecDepth 65536 in
theorem w_heap : heapFits about1 = true := by decide +kernel
set_option maxRecDepth 65536 in
theorem w_runnable : about1.curStatus? = some .runnable := by decide +kernel
set_option maxRecDepth 65536 in
theorem w_alone : about1.alone = true := by decide +kernel
set_option maxRecDepth 65536 in
theorem w_named : about1.methodNamed? x = some theMethod := by decide +kernel
set_option maxRecDepth 65536 in
theorem w_hears : about1.hears theMethod below0 = true := by decide +kernel
set_option maxRecDepth 65536 in
theorem w_ripe : about1.ripe theMethod args0 below0 = true := by decide +kernel
theorem w_running : about1.status = .running := rfl
set_option maxRecDepth 65536 in
theorem w_room : about1.hasRoom e0.platform room_1 = true :=
  launch0.hasRoom_least _ room_1 (by decide +kernel) (by decide +kernel) (by decide +kernel) (by decide +kernel) (by decide +kernel) (by decide +kernel)
theorem allAtoms_all (ts : List Jvm.Cond) (a : Array Jvm.Value) (st : Jvm.State) : (allAtoms ts).before a st = ts.all (fun c => c.before a st) := by
  induction ts with
  | nil => rfl
  | cons c t ih =>
    show (Jvm.Cond.and c (allAtoms t)).before a st = _
    rw [Jvm.Cond.before_and, ih, List.all_cons]
def words1 : List Jvm.Cond := Jvm.Cond.code x code maxLocals ret :: tables_1
/-- a 'code' word, met by the world's own term for the bytes: nothing is compared byte by byte -/
theorem code_word {y : MethodName} {bytes : ByteArray} {mx : Nat} {rt : Option FieldType} {a : Array Value} {s : State} {m : MethodId} {meth : Method} {c : Code} (h1 : s.methodNamed? y = some m) (h2 : s.vm.method? m = some meth) (h3 : meth.code = some c) (h4 : c.code = bytes)
    (h5 : (c.maxLocals == mx && c.exceptionTable.isEmpty && decide (c.maxStack ≤ mostOperands) && decide (meth.sig.returnType = rt) && !meth.locks && decide (parseMethodDescriptor y.desc = some meth.sig)) = true) : (Jvm.Cond.code y bytes mx rt).before a s = true := by
  simp only [Bool.and_eq_true, beq_iff_eq, Bool.not_eq_true', decide_eq_true_eq] at h5
  obtain ⟨⟨⟨⟨⟨g1, g2⟩, g3⟩, g4⟩, g5⟩, g6⟩ := h5
  simp [Cond.before, Cond.holds, Cond.value, h1, h2, h3, h4, g1, g2, g3, g4, g5, g6]
def isCode : Jvm.Cond → Bool
  | .code _ _ _ _ => true
  | _ => false
theorem all_split {L : List Jvm.Cond} {P : Jvm.Cond → Bool} (h1 : L.all (fun c => isCode c || P c) = true) (h2 : ∀ c ∈ L.filter isCode, P c = true) : L.all P = true := by
  refine List.all_eq_true.mpr fun c hc => ?_
  have h := List.all_eq_true.mp h1 c hc
  rcases Bool.eq_false_or_eq_true (isCode c) with hi | hi
  · exact h2 c (List.mem_filter.mpr ⟨hc, hi⟩)
  · simpa [hi] using h
set_option maxRecDepth 65536 in
theorem w_c0 : (Jvm.Cond.code x code maxLocals ret).before args0 about1 = true := code_word (m := ⟨1, 1⟩) (meth := k1m1) (c := k1c1) (by decide +kernel) rfl rfl rfl (by decide +kernel)
set_option maxRecDepth 65536 in
theorem w_c1 : (Jvm.Cond.code ({ cls := "tabeliao/tree/NodePage", name := "<init>", desc := "([BI[II)V" } : Jvm.MethodName) prog_144_method_2_code (5 : Nat) (Option.none : Option Jvm.ClassFile.FieldType)).before args0 about1 = true := code_word (m := ⟨2, 0⟩) (meth := k2m0) (c := k2c0) (by decide +kernel) rfl rfl rfl (by decide +kernel)
set_option maxRecDepth 65536 in
theorem w_c2 : (Jvm.Cond.code ({ cls := "tabeliao/tree/NodePage", name := "<init>", desc := "(I[B[IIZ)V" } : Jvm.MethodName) prog_144_method_3_code (6 : Nat) (Option.none : Option Jvm.ClassFile.FieldType)).before args0 about1 = true := code_word (m := ⟨2, 1⟩) (meth := k2m1) (c := k2c1) (by decide +kernel) rfl rfl rfl (by decide +kernel)
set_option maxRecDepth 65536 in
theorem w_c3 : (Jvm.Cond.code ({ cls := "java/lang/Object", name := "<init>", desc := "()V" } : Jvm.MethodName) object_method_1_code (1 : Nat) (Option.none : Option Jvm.ClassFile.FieldType)).before args0 about1 = true := code_word (m := ⟨0, 0⟩) (meth := k0m0) (c := k0c0) (by decide +kernel) rfl rfl rfl (by decide +kernel)
set_option maxRecDepth 65536 in
theorem w_c4 : (Jvm.Cond.code ({ cls := "tabeliao/tree/NodePage", name := "fits", desc := "()Z" } : Jvm.MethodName) prog_144_method_10_code (1 : Nat) (Option.some Jvm.ClassFile.FieldType.boolean)).before args0 about1 = true := code_word (m := ⟨2, 3⟩) (meth := k2m3) (c := k2c3) (by decide +kernel) rfl rfl rfl (by decide +kernel)
set_option maxRecDepth 65536 in
theorem w_c5 : (Jvm.Cond.code ({ cls := "tabeliao/tree/NodePage", name := "count", desc := "()I" } : Jvm.MethodName) prog_144_method_8_code (1 : Nat) (Option.some Jvm.ClassFile.FieldType.int)).before args0 about1 = true := code_word (m := ⟨2, 2⟩) (meth := k2m2) (c := k2c2) (by decide +kernel) rfl rfl rfl (by decide +kernel)
def codes1 : List Jvm.Cond := [Jvm.Cond.code x code maxLocals ret, Jvm.Cond.code ({ cls := "tabeliao/tree/NodePage", name := "<init>", desc := "([BI[II)V" } : Jvm.MethodName) prog_144_method_2_code (5 : Nat) (Option.none : Option Jvm.ClassFile.FieldType), Jvm.Cond.code ({ cls := "tabeliao/tree/NodePage", name := "<init>", desc := "(I[B[IIZ)V" } : Jvm.MethodName) prog_144_method_3_code (6 : Nat) (Option.none : Option Jvm.ClassFile.FieldType), Jvm.Cond.code ({ cls := "java/lang/Object", name := "<init>", desc := "()V" } : Jvm.MethodName) object_method_1_code (1 : Nat) (Option.none : Option Jvm.ClassFile.FieldType), Jvm.Cond.code ({ cls := "tabeliao/tree/NodePage", name := "fits", desc := "()Z" } : Jvm.MethodName) prog_144_method_10_code (1 : Nat) (Option.some Jvm.ClassFile.FieldType.boolean), Jvm.Cond.code ({ cls := "tabeliao/tree/NodePage", name := "count", desc := "()I" } : Jvm.MethodName) prog_144_method_8_code (1 : Nat) (Option.some Jvm.ClassFile.FieldType.int)]
set_option maxRecDepth 65536 in
theorem codes_eq : words1.filter isCode = codes1 := rfl
theorem w_codes : ∀ c ∈ words1.filter isCode, c.before args0 about1 = true := by
  rw [codes_eq]
  intro c hc
  simp only [codes1, List.mem_cons, List.not_mem_nil, or_false] at hc
  rcases hc with rfl | rfl | rfl | rfl | rfl | rfl
  · exact w_c0
  · exact w_c1
  · exact w_c2
  · exact w_c3
  · exact w_c4
  · exact w_c5
set_option maxRecDepth 65536 in
theorem w_t1 : (words1.take 24).all (fun c => isCode c || c.before args0 about1) = true := by decide +kernel
set_option maxRecDepth 65536 in
theorem w_t2 : (words1.drop 24).all (fun c => isCode c || c.before args0 about1) = true := by decide +kernel
theorem w_tables : (allAtoms (Jvm.Cond.code x code maxLocals ret :: tables_1)).before args0 about1 = true := by
  rw [allAtoms_all]
  show words1.all (fun c => c.before args0 about1) = true
  refine all_split ?_ w_codes
  rw [← List.take_append_drop 24 words1, List.all_append, w_t1, w_t2]
  rfl
set_option maxRecDepth 65536 in
theorem w_case : (Jvm.Cond.and given_1 narrow_1).before args0 about1 = true := by decide +kernel
theorem w_applies : (headSpec (Jvm.Cond.code x code maxLocals ret :: tables_1) room_1).applies x e0.platform about1 = true :=
  (Spec.applies_iff w_frames).mpr ⟨w_running, w_runnable, w_alone, w_named, w_hears, w_ripe, w_room, w_tables⟩
theorem atStart : AtStart classFile x code maxLocals ret World_1 tables_1 room_1 Calls_1 rest_1 Pre_1 launch0 p0 e0 about1 theMethod args0 below0 :=
  ⟨lists_1, trivial, launch0.admits_env _ _ _, launch0.least_env, fairChoices_fair.cas, fairChoices_fair.clock, w_frames, w_args, w_heap, w_applies, trivial, trivial, w_case⟩
end start1
theorem witness_1 : WitnessClaimed_1 := ⟨start1.p0, start1.e0, start1.about1, start1.theMethod, start1.args0, start1.below0, start1.atStart⟩
end Jvm.Pilot.@@N@@
