import JvmDerived
import JvmDerived.Pilot.@@N@@Statement
import JvmDerived.Pilot.@@N@@Code
set_option linter.unusedVariables false
set_option linter.unusedSimpArgs false
set_option maxHeartbeats 4000000
namespace Jvm.Pilot.@@N@@
open Jvm Jvm.ClassFile Sem Op Lib Jvm.Free Jvm.Stand Jvm.LawKit Jvm.RoadKit Bundle Jvm.Pilot.@@N@@.Jvm.D
/-! own kit: a walk read backwards: G T g says that from the state T with g on top the body comes to a good end -/
section OwnKit
variable {p : Program} {l : Launch} {e : Env} {R : Room} {s : State} {m : MethodId} {args : Array Value} {below : List Frame} {meth : Method} {c : Code} {T : State} {cells slots : Nat} {Z : State} {a0 : Array Value} {h : Heap} {n0 : Nat} {G : State → JFrame → Prop} {Q : Option Value → Heap → Prop}
def Clo (p : Program) (e : Env) (below : List Frame) (G : State → JFrame → Prop) : Prop := ∀ (T T' : State) (g g' : JFrame), (∀ t, Steps p.tables e below (T'.setTop g') t → Steps p.tables e below (T.setTop g) t) → G T' g' → G T g
theorem Clo.go (hs : Clo p e below G) {T T' : State} {g g' : JFrame} (st : ∀ t, Steps p.tables e below (T'.setTop g') t → Steps p.tables e below (T.setTop g) t) (k : G T' g') : G T g := hs T T' g g' st k
def Sd (p : Program) (l : Launch) (e : Env) (R : Room) (s : State) (m : MethodId) (args : Array Value) (below : List Frame) (meth : Method) (c : Code) (n0 : Nat) (T : State) (h : Heap) (cells slots : Nat) : Prop := ∃ locs, Stand p l e R s m args below meth c T locs cells slots ∧ Fr n0 locs ∧ T.heap = h
theorem Sd.here (X : Sd p l e R s m args below meth c n0 T h cells slots) : At T m c below := by obtain ⟨_, X, _⟩ := X; exact X.here
theorem Sd.more (X : Sd p l e R s m args below meth c n0 T h cells slots) {k n : Nat} (hk : cells ≤ k) (hn : slots ≤ n) : Sd p l e R s m args below meth c n0 T h k n := by obtain ⟨L, X, N⟩ := X; exact ⟨L, X.more hk hn, N⟩
/-- how a body ends -/
def Fnl (p : Program) (l : Launch) (e : Env) (R : Room) (s : State) (m : MethodId) (args : Array Value) (below : List Frame) (meth : Method) (c : Code) (n0 : Nat) (Q : Option Value → Heap → Prop) (G : State → JFrame → Prop) : Prop :=
  ∀ (T : State) (h : Heap) (k n : Nat) (g : JFrame) (v : Option Value), Sd p l e R s m args below meth c n0 T h k n → k ≤ R.cells → n ≤ R.slots → (meth.sig.returnType = none → v = none) →
    (∀ fs, (∀ (f : JFrame) (acts : List Action), f.method = m → f.locked = none → f.entered = [] → (doReturn e (T.setTop f) acts v).1 = T.setFrames fs) → Steps p.tables e below (T.setTop g) (T.setFrames fs)) → Q v h → G T g
/-- a body's contract -/
def Con (l : Launch) (Z : State) (y : MethodName) (bytes : ByteArray) (maxL : Nat) (ret : Option FieldType) (ws : List Jvm.Cond) (rm : Room) (as' : Array Value) (h : Heap) (n0 : Nat) (Q : Option Value → Heap → Prop) : Prop :=
  MetFree l y (head1 (Jvm.Cond.code y bytes maxL ret :: ws) rm) (fun a U => a = as' ∧ Z.Warmed39 U.vm ∧ U.heap = h) (fun _ _ _ _ _ => True)
    (fun _ U o U' => ∃ v L, o = .returned v ∧ (Q v U'.heap ∧ Fr n0 L) ∧ FrameEnd U o U' L rm.cells rm.slots)
theorem Con.of {y : MethodName} {bytes : ByteArray} {maxL : Nat} {ret : Option FieldType} {ws : List Jvm.Cond} {rm : Room} {as' : Array Value} (hp : plainFor y = true)
    (body : ∀ (G : State → JFrame → Prop) (p : Program) (e : Env) (s : State) (m : MethodId) (below : List Frame) (meth : Method) (c : Code) (s₁ : State),
      Clo p e below G → p.tables.exec = Jvm.exec → c.code = bytes → c.maxLocals = maxL → s.vm.findClass y.cls = some m.cls → meth.name = y.name → meth.sig.returnType = ret → Z.Warmed39 s.vm →
      Sd p l e rm s m as' below meth c n0 s₁ h 0 0 → Fnl p l e rm s m as' below meth c n0 Q G → G s₁ (entryFrame m as' maxL)) : Con l Z y bytes maxL ret ws rm as' h n0 Q := by
  refine MetFree.of_bodySF hp hisR ?_
  intro p e s m args below meth c s₁ Bd hml hP hK
  obtain ⟨ha, hZ, hh⟩ := hP
  subst ha
  refine body (fun T g => ∃ s₂ o, Steps p.tables e below (T.setTop g) s₂ ∧ s₂.status = .running ∧ Ended s₂ below o ∧ ∃ v L, o = .returned v ∧ (Q v s₂.heap ∧ Fr n0 L) ∧ FrameEnd s o s₂ L rm.cells rm.slots) p e s m below meth c s₁ ?_ Bd.exec Bd.bytes hml (findClass_of_methodNamed Bd.named) (name_of_methodNamed Bd.named Bd.method).1 Bd.returns hZ ⟨[], Stand.of_body Bd, Fr.nil n0, by rw [← hh, Bd.state]; rfl⟩ ?_
  · intro T T' g g' st ⟨s₂, o, h1, r⟩
    exact ⟨s₂, o, st _ h1, r⟩
  · intro T h k n g v ⟨locs, X, N, eh⟩ hk hn hv st q
    obtain ⟨fs, hr, hrun, hended, hW, hsame⟩ := X.leave (v := v) hv Bd.notSynchronized
    exact ⟨_, _, st fs hr, hrun, hended, v, locs, rfl, ⟨by show Q v T.heap; rw [eh]; exact q, N⟩, ⟨_, rfl⟩, hW, hsame.mono hk hn⟩
theorem rRetI (fin : Fnl p l e R s m args below meth c n0 Q G) (X : Sd p l e R s m args below meth c n0 T h cells slots) (hx : p.tables.exec = Jvm.exec) (hk : cells ≤ R.cells) (hn : slots ≤ R.slots) (hret : meth.sig.returnType = some .int) {pc : Nat} {Ls : Array Slot} {z : Int32} {rest : List Value} (hd : decode c.code pc = .ok (.ireturn, 1)) (q : Q (some (.int z)) h) : G T (mkF m pc Ls (.int z :: rest)) :=
  fin T h cells slots _ (some (.int z)) X hk hn (fun h => by rw [hret] at h; cases h) (fun fs hr => by obtain ⟨_, X, _⟩ := X; exact retOut X hx hret rfl (Or.inl ⟨rfl, Or.inl rfl, _, rfl⟩) hd hr) q
theorem rRetN (fin : Fnl p l e R s m args below meth c n0 Q G) (X : Sd p l e R s m args below meth c n0 T h cells slots) (hx : p.tables.exec = Jvm.exec) (hk : cells ≤ R.cells) (hn : slots ≤ R.slots) {t : FieldType} (hret : meth.sig.returnType = some t) (ht : t = .boolean ∨ t = .byte ∨ t = .char ∨ t = .short) {pc : Nat} {Ls : Array Slot} {z z' : Int32} {rest : List Value} (hd : decode c.code pc = .ok (.ireturn, 1)) (hz : nar t z = z') (q : Q (some (.int z')) h) : G T (mkF m pc Ls (.int z :: rest)) :=
  fin T h cells slots _ (some (.int (nar t z))) X hk hn (fun h => by rw [hret] at h; cases h) (fun fs hr => by obtain ⟨_, X, _⟩ := X; exact retN X hx hret ht hd hr) (hz ▸ q)
theorem rRetL (fin : Fnl p l e R s m args below meth c n0 Q G) (X : Sd p l e R s m args below meth c n0 T h cells slots) (hx : p.tables.exec = Jvm.exec) (hk : cells ≤ R.cells) (hn : slots ≤ R.slots) (hret : meth.sig.returnType = some .long) {pc : Nat} {Ls : Array Slot} {z : Int64} {rest : List Value} (hd : decode c.code pc = .ok (.lreturn, 1)) (q : Q (some (.long z)) h) : G T (mkF m pc Ls (.long z :: rest)) :=
  fin T h cells slots _ (some (.long z)) X hk hn (fun h => by rw [hret] at h; cases h) (fun fs hr => by obtain ⟨_, X, _⟩ := X; exact retOut X hx hret rfl (Or.inr (Or.inl ⟨rfl, rfl, _, rfl⟩)) hd hr) q
theorem rRetA (fin : Fnl p l e R s m args below meth c n0 Q G) (X : Sd p l e R s m args below meth c n0 T h cells slots) (hx : p.tables.exec = Jvm.exec) (hk : cells ≤ R.cells) (hn : slots ≤ R.slots) {t : FieldType} (hret : meth.sig.returnType = some t) (ht : t.isReference = true) {pc : Nat} {Ls : Array Slot} {z : Value} (hz : z.isRef = true) (hw : narrow t z = z) {rest : List Value} (hd : decode c.code pc = .ok (.areturn, 1)) (q : Q (some z) h) : G T (mkF m pc Ls (z :: rest)) :=
  fin T h cells slots _ (some z) X hk hn (fun h => by rw [hret] at h; cases h) (fun fs hr => by obtain ⟨_, X, _⟩ := X; exact retOut X hx hret hw (Or.inr (Or.inr (Or.inr (Or.inr ⟨rfl, ht, hz⟩)))) hd hr) q
theorem rRetD (fin : Fnl p l e R s m args below meth c n0 Q G) (X : Sd p l e R s m args below meth c n0 T h cells slots) (hx : p.tables.exec = Jvm.exec) (hk : cells ≤ R.cells) (hn : slots ≤ R.slots) (hret : meth.sig.returnType = some .double) {pc : Nat} {Ls : Array Slot} {z : UInt64} {rest : List Value} (hd : decode c.code pc = .ok (.dreturn, 1)) (q : Q (some (.double z)) h) : G T (mkF m pc Ls (.double z :: rest)) :=
  fin T h cells slots _ (some (.double z)) X hk hn (fun h => by rw [hret] at h; cases h) (fun fs hr => by obtain ⟨_, X, _⟩ := X; exact retOut X hx hret rfl (Or.inr (Or.inr (Or.inl ⟨rfl, rfl, _, rfl⟩))) hd hr) q
theorem rRetV (fin : Fnl p l e R s m args below meth c n0 Q G) (X : Sd p l e R s m args below meth c n0 T h cells slots) (hx : p.tables.exec = Jvm.exec) (hk : cells ≤ R.cells) (hn : slots ≤ R.slots) (hret : meth.sig.returnType = none) {pc : Nat} {Ls : Array Slot} (hd : decode c.code pc = .ok (.return_, 1)) (q : Q none h) : G T (mkF m pc Ls []) :=
  fin T h cells slots _ none X hk hn (fun _ => rfl) (fun fs hr => by obtain ⟨_, X, _⟩ := X; exact X.returnOut hx hret hd hr) q
theorem rLdcI (hs : Clo p e below G) (X : Sd p l e R s m args below meth c n0 T h cells slots) (hx : p.tables.exec = Jvm.exec) (hZ : Z.Warmed39 s.vm) {own : String} {index : Nat} {v : Int32} (hown : s.vm.findClass own = some m.cls) (w : (Jvm.Cond.constant own index v).before a0 Z = true) {g : JFrame} (hg : g.method = m) (hd : decode c.code g.pc = .ok (.ldc index, 2)) (k : G T { g with pc := g.pc + 2, stack := .int v :: g.stack }) : G T g := by
  obtain ⟨_, X, _⟩ := X
  exact hs.go (X.ldcInt hx hown (mvT hZ w) hg hd) k
theorem rLdcL (hs : Clo p e below G) (X : Sd p l e R s m args below meth c n0 T h cells slots) (hx : p.tables.exec = Jvm.exec) (hZ : Z.Warmed39 s.vm) {own : String} {index : Nat} {v : Int64} (hown : s.vm.findClass own = some m.cls) (w : (Jvm.Cond.constantLong own index v).before a0 Z = true) {g : JFrame} (hg : g.method = m) (hd : decode c.code g.pc = .ok (.ldc2_w index, 3)) (k : G T { g with pc := g.pc + 3, stack := .long v :: g.stack }) : G T g := by
  obtain ⟨_, X, _⟩ := X
  exact hs.go (X.ldc2Long hx hown (mvT hZ w) hg hd) k
theorem rLdcD (hs : Clo p e below G) (X : Sd p l e R s m args below meth c n0 T h cells slots) (hx : p.tables.exec = Jvm.exec) (hZ : Z.Warmed39 s.vm) {own : String} {index : Nat} {v : UInt64} (hown : s.vm.findClass own = some m.cls) (w : (Jvm.Cond.constantDouble own index v).before a0 Z = true) {g : JFrame} (hg : g.method = m) (hd : decode c.code g.pc = .ok (.ldc2_w index, 3)) (k : G T { g with pc := g.pc + 3, stack := .double v :: g.stack }) : G T g := by
  obtain ⟨_, X, _⟩ := X
  exact hs.go (X.ldc2DoubleC hx hown (mvT hZ w) hg hd) k
theorem rIrem (hs : Clo p e below G) (X : Sd p l e R s m args below meth c n0 T h cells slots) (hx : p.tables.exec = Jvm.exec) {g : JFrame} (hg : g.method = m) {x y : Int32} {rest : List Value} (hd : decode c.code g.pc = .ok (.irem, 1)) (hst : g.stack = .int y :: .int x :: rest) (hy : y ≠ 0) (k : G T { g with pc := g.pc + 1, stack := .int (x % y) :: rest }) : G T g := by
  obtain ⟨_, X, _⟩ := X
  exact hs.go (fun _ q => iremM X hx hg hd hst hy q) k
theorem rLrem (hs : Clo p e below G) (X : Sd p l e R s m args below meth c n0 T h cells slots) (hx : p.tables.exec = Jvm.exec) {g : JFrame} (hg : g.method = m) {x y : Int64} {rest : List Value} (hd : decode c.code g.pc = .ok (.lrem, 1)) (hst : g.stack = .long y :: .long x :: rest) (hy : y ≠ 0) (k : G T { g with pc := g.pc + 1, stack := .long (x % y) :: rest }) : G T g :=
  hs.go (fun _ q => XS.lrem X.here hx hg hd hst hy q) (by rw [lrem_mod]; exact k)
/-! arrays -/
theorem rNewP (hs : Clo p e below G) (X : Sd p l e R s m args below meth c n0 T h cells slots) (hx : p.tables.exec = Jvm.exec) (hZ : Z.Warmed39 s.vm) {aty : ArrayType} (w : (Jvm.Cond.arrayClass (newarray.typeOf aty)).before a0 Z = true) {g : JFrame} (hg : g.method = m) (hd : decode c.code g.pc = .ok (.newarray aty, 2)) {n : Int32} {rest : List Value} (hst : g.stack = .int n :: rest)
    (hn : ¬ n < 0) (cap len : Nat) (hcap : n.toNatClampNeg ≤ cap) (hb : cap * 8 ≤ 536870912) (hc : cells + 1 ≤ R.cells) (hl : slots + cap ≤ R.slots)
    (k : ∀ (T' : State) (h' : Heap) (cA : ClassId) (b : Addr), b = h.size → Sd p l e R s m args below meth c n0 T' h' (cells + 1) (slots + cap) → Ext h h' → Arv Z h' b cA (newarray.typeOf aty) n (List.replicate len (defaultValue (newarray.typeOf aty))) (defaultValue (newarray.typeOf aty)) → G T' { g with pc := g.pc + 2, stack := .ref b :: rest }) : G T g := by
  obtain ⟨L, X, N, eh⟩ := X
  obtain ⟨T', h', cA, X', e', E, A, st⟩ := newP X hx hZ w eh hg hd hst hn hcap hb hc hl
  exact hs.go st (k T' h' cA h.size rfl ⟨L, X', N, e'⟩ E ((Arv.new A hn).pad (pad_rep [] _ len)))
theorem rStI (hs : Clo p e below G) (X : Sd p l e R s m args below meth c n0 T h cells slots) (hx : p.tables.exec = Jvm.exec) (hZ : Z.Warmed39 s.vm) {a : Addr} {kc : ClassId} {z : Int32} {vs : List Value} {dv : Value} (V : Arv Z h a kc .int z vs dv) (ga : n0 ≤ a) {j x : Int32} (hj : ¬ j < 0 ∧ j < z) (i : Nat) (hi : j.toNatClampNeg = i) (hl : i < vs.length)
    {g : JFrame} (hg : g.method = m) {rest : List Value} (hst : g.stack = .int x :: .int j :: .ref a :: rest) (hd : decode c.code g.pc = .ok (.iastore, 1))
    (k : ∀ (T' : State) (h' : Heap), Sd p l e R s m args below meth c n0 T' h' cells slots → Wr h h' a i (.int x) → Arv Z h' a kc .int z (vs.set i (.int x)) dv → G T' { g with pc := g.pc + 1, stack := rest }) : G T g := by
  obtain ⟨L, X, N, eh⟩ := X
  obtain ⟨cl, A, q1, S, q3, H, F⟩ := V
  obtain ⟨T', h', X', e', W, st⟩ := stI X hx hZ eh A (j := j) (inb_of S hj) hg hst hd
  exact hs.go st (k T' h' ⟨_, X', Fr.snoc X' N ga, e'⟩ (hi ▸ W) (Arv.set A q1 S q3 H F rfl W i hi hl))
theorem rStB (hs : Clo p e below G) (X : Sd p l e R s m args below meth c n0 T h cells slots) (hx : p.tables.exec = Jvm.exec) (hZ : Z.Warmed39 s.vm) {a : Addr} {kc : ClassId} {z : Int32} {vs : List Value} {dv : Value} (V : Arv Z h a kc .byte z vs dv) (ga : n0 ≤ a) {j x x' : Int32} (hj : ¬ j < 0 ∧ j < z) (i : Nat) (hi : j.toNatClampNeg = i) (hl : i < vs.length) (hnx : x.toInt8.toInt32 = x')
    {g : JFrame} (hg : g.method = m) {rest : List Value} (hst : g.stack = .int x :: .int j :: .ref a :: rest) (hd : decode c.code g.pc = .ok (.bastore, 1))
    (k : ∀ (T' : State) (h' : Heap), Sd p l e R s m args below meth c n0 T' h' cells slots → Wr h h' a i (.int x') → Arv Z h' a kc .byte z (vs.set i (.int x')) dv → G T' { g with pc := g.pc + 1, stack := rest }) : G T g := by
  obtain ⟨L, X, N, eh⟩ := X
  obtain ⟨cl, A, q1, S, q3, H, F⟩ := V
  obtain ⟨T', h', X', e', W, st⟩ := stB X hx hZ eh A (j := j) (inb_of S hj) hg hst hd
  subst hnx
  exact hs.go st (k T' h' ⟨_, X', Fr.snoc X' N ga, e'⟩ (hi ▸ W) (Arv.set A q1 S q3 H F (fits_nar_byte _) W i hi hl))
theorem rStC (hs : Clo p e below G) (X : Sd p l e R s m args below meth c n0 T h cells slots) (hx : p.tables.exec = Jvm.exec) (hZ : Z.Warmed39 s.vm) {a : Addr} {kc : ClassId} {z : Int32} {vs : List Value} {dv : Value} (V : Arv Z h a kc .char z vs dv) (ga : n0 ≤ a) {j x x' : Int32} (hj : ¬ j < 0 ∧ j < z) (i : Nat) (hi : j.toNatClampNeg = i) (hl : i < vs.length) (hnx : nar .char x = x')
    {g : JFrame} (hg : g.method = m) {rest : List Value} (hst : g.stack = .int x :: .int j :: .ref a :: rest) (hd : decode c.code g.pc = .ok (.castore, 1))
    (k : ∀ (T' : State) (h' : Heap), Sd p l e R s m args below meth c n0 T' h' cells slots → Wr h h' a i (.int x') → Arv Z h' a kc .char z (vs.set i (.int x')) dv → G T' { g with pc := g.pc + 1, stack := rest }) : G T g := by
  obtain ⟨L, X, N, eh⟩ := X
  obtain ⟨cl, A, q1, S, q3, H, F⟩ := V
  obtain ⟨T', h', X', e', W, st⟩ := stC X hx hZ eh A (j := j) (inb_of S hj) hg hst hd
  subst hnx
  exact hs.go st (k T' h' ⟨_, X', Fr.snoc X' N ga, e'⟩ (hi ▸ W) (Arv.set A q1 S q3 H F (fits_nar_char _) W i hi hl))
theorem rLdI (hs : Clo p e below G) (X : Sd p l e R s m args below meth c n0 T h cells slots) (hx : p.tables.exec = Jvm.exec) (hZ : Z.Warmed39 s.vm) {a : Addr} {kc : ClassId} {z : Int32} {vs : List Value} {dv : Value} (V : Arv Z h a kc .int z vs dv) {j : Int32} (hj : ¬ j < 0 ∧ j < z) {v : Value} (hv : vs.getD j.toNatClampNeg dv = v)
    {g : JFrame} (hg : g.method = m) {rest : List Value} (hst : g.stack = .int j :: .ref a :: rest) (hd : decode c.code g.pc = .ok (.iaload, 1)) (k : G T { g with pc := g.pc + 1, stack := v :: rest }) : G T g := by
  obtain ⟨L, X, N, eh⟩ := X
  obtain ⟨cl, A, q1, S, q3, H, F⟩ := V
  exact hs.go (X.iaload hx (j := j) (v := v) (by rw [eh]; exact A.1) (State.isArrayOf_alike hZ.alike A.2.1) A.2.2 (inb_of S hj) (H.at (inb_of S hj) hv) hg hst hd) k
theorem rLdB (hs : Clo p e below G) (X : Sd p l e R s m args below meth c n0 T h cells slots) (hx : p.tables.exec = Jvm.exec) (hZ : Z.Warmed39 s.vm) {a : Addr} {kc : ClassId} {z : Int32} {vs : List Value} {dv : Value} (V : Arv Z h a kc .byte z vs dv) {j : Int32} (hj : ¬ j < 0 ∧ j < z) {v : Value} (hv : vs.getD j.toNatClampNeg dv = v)
    {g : JFrame} (hg : g.method = m) {rest : List Value} (hst : g.stack = .int j :: .ref a :: rest) (hd : decode c.code g.pc = .ok (.baload, 1)) (k : G T { g with pc := g.pc + 1, stack := v :: rest }) : G T g := by
  obtain ⟨L, X, N, eh⟩ := X
  obtain ⟨cl, A, q1, S, q3, H, F⟩ := V
  exact hs.go (X.baloadBytes hx (j := j) (v := v) (by rw [eh]; exact A.1) (State.isArrayOf_alike hZ.alike A.2.1) A.2.2 (inb_of S hj) (H.at (inb_of S hj) hv) hg hst hd) k
theorem rLdC (hs : Clo p e below G) (X : Sd p l e R s m args below meth c n0 T h cells slots) (hx : p.tables.exec = Jvm.exec) (hZ : Z.Warmed39 s.vm) {a : Addr} {kc : ClassId} {z : Int32} {vs : List Value} {dv : Value} (V : Arv Z h a kc .char z vs dv) {j : Int32} (hj : ¬ j < 0 ∧ j < z) {v : Value} (hv : vs.getD j.toNatClampNeg dv = v)
    {g : JFrame} (hg : g.method = m) {rest : List Value} (hst : g.stack = .int j :: .ref a :: rest) (hd : decode c.code g.pc = .ok (.caload, 1)) (k : G T { g with pc := g.pc + 1, stack := v :: rest }) : G T g := by
  obtain ⟨L, X, N, eh⟩ := X
  obtain ⟨cl, A, q1, S, q3, H, F⟩ := V
  exact hs.go (X.caload hx (j := j) (v := v) (by rw [eh]; exact A.1) (State.isArrayOf_alike hZ.alike A.2.1) A.2.2 (inb_of S hj) (H.at (inb_of S hj) hv) hg hst hd) k
theorem rLdR (hs : Clo p e below G) (X : Sd p l e R s m args below meth c n0 T h cells slots) (hx : p.tables.exec = Jvm.exec) (hZ : Z.Warmed39 s.vm) {a : Addr} {kc : ClassId} {ty : FieldType} {z : Int32} {vs : List Value} {dv : Value} (V : Arv Z h a kc ty z vs dv) (hty : ty.isReference = true) {j : Int32} (hj : ¬ j < 0 ∧ j < z) {v : Value} (hv : vs.getD j.toNatClampNeg dv = v)
    {g : JFrame} (hg : g.method = m) {rest : List Value} (hst : g.stack = .int j :: .ref a :: rest) (hd : decode c.code g.pc = .ok (.aaload, 1)) (k : G T { g with pc := g.pc + 1, stack := v :: rest }) : G T g := by
  obtain ⟨L, X, N, eh⟩ := X
  obtain ⟨cl, A, q1, S, q3, H, F⟩ := V
  exact hs.go (X.aaload hx (j := j) (v := v) (by rw [eh]; exact A.1) (State.isArrayOf_alike hZ.alike A.2.1) hty A.2.2 (inb_of S hj) (H.at (inb_of S hj) hv) hg hst hd) k
theorem rLen (hs : Clo p e below G) (X : Sd p l e R s m args below meth c n0 T h cells slots) (hx : p.tables.exec = Jvm.exec) (hZ : Z.Warmed39 s.vm) {a : Addr} {kc : ClassId} {ty : FieldType} {z : Int32} {vs : List Value} {dv : Value} (V : Arv Z h a kc ty z vs dv)
    {g : JFrame} (hg : g.method = m) {rest : List Value} (hst : g.stack = .ref a :: rest) (hd : decode c.code g.pc = .ok (.arraylength, 1)) (k : G T { g with pc := g.pc + 1, stack := .int z :: rest }) : G T g := by
  obtain ⟨L, X, N, eh⟩ := X
  obtain ⟨cl, A, q1, S, q3, H, F⟩ := V
  exact hs.go (X.arraylength hx (by rw [eh]; exact A.1) (State.isArrayOf_alike hZ.alike A.2.1) hg hst hd) (by rw [len_of S q3]; exact k)
theorem rNewR (hs : Clo p e below G) (X : Sd p l e R s m args below meth c n0 T h cells slots) (hx : p.tables.exec = Jvm.exec) (hZ : Z.Warmed39 s.vm) {own C : String} {index : Nat} (hown : s.vm.findClass own = some m.cls) (w1 : (Jvm.Cond.classLink own index C).before a0 Z = true) (w2 : (Jvm.Cond.arrayOver (.object C)).before a0 Z = true) {g : JFrame} (hg : g.method = m) (hd : decode c.code g.pc = .ok (.anewarray index, 3)) {n : Int32} {rest : List Value} (hst : g.stack = .int n :: rest)
    (hn : ¬ n < 0) (cap len : Nat) (hcap : n.toNatClampNeg ≤ cap) (hb : cap * 8 ≤ 536870912) (hc : cells + 1 ≤ R.cells) (hl : slots + cap ≤ R.slots)
    (k : ∀ (T' : State) (h' : Heap) (cA : ClassId) (b : Addr), b = h.size → Sd p l e R s m args below meth c n0 T' h' (cells + 1) (slots + cap) → Ext h h' → Arv Z h' b cA (.object C) n (List.replicate len .null) .null → Ovr Z cA C → G T' { g with pc := g.pc + 3, stack := .ref b :: rest }) : G T g := by
  obtain ⟨L, X, N, eh⟩ := X
  obtain ⟨T', h', cA, X', e', E, A, O, st⟩ := newR X hx hZ hown w1 w2 eh hg hd hst hn hcap hb hc hl
  exact hs.go st (k T' h' cA h.size rfl ⟨L, X', N, e'⟩ E ((Arv.new A hn).pad (pad_rep [] _ len)) O)
theorem rStR (hs : Clo p e below G) (X : Sd p l e R s m args below meth c n0 T h cells slots) (hx : p.tables.exec = Jvm.exec) (hZ : Z.Warmed39 s.vm) {a : Addr} {kc : ClassId} {C : String} {z : Int32} {vs : List Value} {dv : Value} (V : Arv Z h a kc (.object C) z vs dv) (O : Ovr Z kc C) (ga : n0 ≤ a) {j : Int32} {y : Addr} (I : Ins Z h y C true) (hj : ¬ j < 0 ∧ j < z) (i : Nat) (hi : j.toNatClampNeg = i) (hl : i < vs.length)
    {g : JFrame} (hg : g.method = m) {rest : List Value} (hst : g.stack = .ref y :: .int j :: .ref a :: rest) (hd : decode c.code g.pc = .ok (.aastore, 1))
    (k : ∀ (T' : State) (h' : Heap), Sd p l e R s m args below meth c n0 T' h' cells slots → Wr h h' a i (.ref y) → Arv Z h' a kc (.object C) z (vs.set i (.ref y)) dv → G T' { g with pc := g.pc + 1, stack := rest }) : G T g := by
  obtain ⟨L, X, N, eh⟩ := X
  obtain ⟨cl, A, q1, S, q3, H, F⟩ := V
  obtain ⟨T', h', X', e', W, st⟩ := stR X hx hZ eh A (j := j) (v := .ref y) (inb_of S hj) rfl (Sto.ofV A q1 O I) hg hst hd
  exact hs.go st (k T' h' ⟨_, X', Fr.snoc X' N ga, e'⟩ (hi ▸ W) (Arv.set A q1 S q3 H F rfl W i hi hl))
/-! objects -/
theorem rNewO (hs : Clo p e below G) (X : Sd p l e R s m args below meth c n0 T h cells slots) (hx : p.tables.exec = Jvm.exec) (hZ : Z.Warmed39 s.vm) {own C : String} {index n : Nat} (hown : s.vm.findClass own = some m.cls) (w : (Jvm.Cond.classLink own index C).before a0 Z = true) (wi : (Jvm.Cond.instantiable C n).before a0 Z = true) (wz : (Jvm.Cond.initialized C).before a0 Z = true)
    {g : JFrame} (hg : g.method = m) (hd : decode c.code g.pc = .ok (.new index, 3)) (hc : cells + 1 ≤ R.cells) (hl : slots + n ≤ R.slots)
    (k : ∀ (T' : State) (h' : Heap) (b : Addr), b = h.size → Sd p l e R s m args below meth c n0 T' h' (cells + 1) (slots + n) → Ext h h' → Exa Z h' b C → (∀ {O nm d : String} {ty : FieldType}, Laid Z a0 C O nm d → parseFieldDescriptor d = some ty → Fld Z h' b O nm d (defaultValue ty)) → G T' { g with pc := g.pc + 3, stack := .ref b :: g.stack }) : G T g := by
  obtain ⟨L, X, N, eh⟩ := X
  obtain ⟨T', h', X', e', E, A, D, -, st⟩ := newO X hx hZ hown w wi wz eh hg hd hc hl
  exact hs.go st (k T' h' h.size rfl ⟨L, X', N, e'⟩ E A D)
theorem rInitO (hs : Clo p e below G) (X : Sd p l e R s m args below meth c n0 T h cells slots) (hx : p.tables.exec = Jvm.exec) (hZ : Z.Warmed39 s.vm) {own : String} {idx : Nat} (hown : s.vm.findClass own = some m.cls) (w1 : (Jvm.Cond.methodLink own idx Lib.objectInit).before a0 Z = true) (w2 : (Jvm.Cond.instanceMethod Lib.objectInit).before a0 Z = true)
    (w3 : (Jvm.Cond.code Lib.objectInit ⟨#[0xb1]⟩ 1 none).before a0 Z = true) {g : JFrame} (hg : g.method = m) (hsize : g.locals.size = c.maxLocals) {a : Addr} {rest : List Value} (hst : g.stack = .ref a :: rest) (hd : decode c.code g.pc = .ok (.invokespecial idx, 3))
    (hf : 1 ≤ R.frames) {W : Nat} (hW : 2 * g.monitorRoom + (rest.map fun v => v.category).sum ≤ W) (hl : W + 12 ≤ R.locals)
    (k : ∀ T' : State, Sd p l e R s m args below meth c n0 T' h cells slots → G T' { g with pc := g.pc + 3, stack := rest }) : G T g := by
  obtain ⟨L, X, N, eh⟩ := X
  obtain ⟨T', X', e', st⟩ := initO X hx hZ hown w1 w2 w3 eh hg hsize hst hd hf hW hl
  exact hs.go st (k T' ⟨L, X', N, e'⟩)
theorem rGetF (hs : Clo p e below G) (X : Sd p l e R s m args below meth c n0 T h cells slots) (hx : p.tables.exec = Jvm.exec) (hZ : Z.Warmed39 s.vm) {own R0 O n d host : String} {index : Nat} (hown : s.vm.findClass own = some m.cls) (w : (Jvm.Cond.fieldLink own index R0 n d).before a0 Z = true ∨ (Jvm.Cond.fieldLinkNest own index R0 n d host).before a0 Z = true) (via : Via Z R0 O n d)
    {a : Addr} {v : Value} (F : Fld Z h a O n d v) {g : JFrame} (hg : g.method = m) {rest : List Value} (hst : g.stack = .ref a :: rest) (hd : decode c.code g.pc = .ok (.getfield index, 3))
    (k : ∀ T' : State, Sd p l e R s m args below meth c n0 T' h cells slots → G T' { g with pc := g.pc + 3, stack := v :: rest }) : G T g := by
  obtain ⟨L, X, N, eh⟩ := X
  obtain ⟨T', X', e', st⟩ := getF X hx hZ hown w via eh F hg hst hd
  exact hs.go st (k T' ⟨L, X', N, e'⟩)
theorem rGetS (hs : Clo p e below G) (X : Sd p l e R s m args below meth c n0 T h cells slots) (hx : p.tables.exec = Jvm.exec) (hZ : Z.Warmed39 s.vm) {own R0 O n d host : String} {index : Nat} (hown : s.vm.findClass own = some m.cls) (w : (Jvm.Cond.fieldLink own index R0 n d).before a0 Z = true ∨ (Jvm.Cond.fieldLinkNest own index R0 n d host).before a0 Z = true) (via : Via Z R0 O n d)
    {v : Value} (F : Sta Z h O n d v) {g : JFrame} (hg : g.method = m) (hd : decode c.code g.pc = .ok (.getstatic index, 3))
    (k : ∀ T' : State, Sd p l e R s m args below meth c n0 T' h cells slots → G T' { g with pc := g.pc + 3, stack := v :: g.stack }) : G T g := by
  obtain ⟨L, X, N, eh⟩ := X
  obtain ⟨T', X', e', st⟩ := getS2 X hx hZ hown w via eh F hg hd
  exact hs.go st (k T' ⟨L, X', N, e'⟩)
theorem rPutF (hs : Clo p e below G) (X : Sd p l e R s m args below meth c n0 T h cells slots) (hx : p.tables.exec = Jvm.exec) (hZ : Z.Warmed39 s.vm) {own R0 O n d host C : String} {index kk : Nat} (ty : FieldType) (hown : s.vm.findClass own = some m.cls) (w : (Jvm.Cond.fieldLink own index R0 n d).before a0 Z = true ∨ (Jvm.Cond.fieldLinkNest own index R0 n d host).before a0 Z = true) (via : Via Z R0 O n d)
    {a : Addr} {v old : Value} (F : Fld Z h a O n d old) (E : Exa Z h a C) (ga : n0 ≤ a) (L : (Jvm.Cond.lays C O n d).before a0 Z = true ∨ ((Jvm.Cond.laysFinal C O n d).before a0 Z = true ∧ own = O ∧ meth.name = "<init>")) (wi : (Jvm.Cond.instantiable C kk).before a0 Z = true)
    (hty : parseFieldDescriptor d = some ty) (hn : narrow ty v = v) (hf : fits ty v = true) {g : JFrame} (hg : g.method = m) {rest : List Value} (hst : g.stack = v :: .ref a :: rest) (hd : decode c.code g.pc = .ok (.putfield index, 3))
    (k : ∀ (T' : State) (h' : Heap), Sd p l e R s m args below meth c n0 T' h' cells slots → Wr h h' a (Jvm.RoadKit.slotOf Z O n d) v → Fld Z h' a O n d v → G T' { g with pc := g.pc + 3, stack := rest }) : G T g := by
  obtain ⟨L0, X, N, eh⟩ := X
  obtain ⟨T', h', X', e', W, st⟩ := putF X hx hZ hown w via eh F E L wi hty hn hf hg hst hd
  exact hs.go st (k T' h' ⟨_, X', Fr.snoc X' N ga, e'⟩ W (F.same W))
/-! calls -/
theorem rCallS (hs : Clo p e below G) (X : Sd p l e R s m args below meth c n0 T h cells slots) (hx : p.tables.exec = Jvm.exec) (hZ : Z.Warmed39 s.vm) {own : String} {index : Nat} {y : MethodName} {bytes : ByteArray} {maxL : Nat} {ret : Option FieldType} {rm : Room} {as' : List Value} {Q' : Option Value → Heap → Prop}
    (hM : Con l Z y bytes maxL ret [] rm as'.toArray h n0 Q') (hown : s.vm.findClass own = some m.cls) (w1 : (Jvm.Cond.methodLink own index y).before a0 Z = true) (w2 : (Jvm.Cond.static y).before a0 Z = true) (w3 : (Jvm.Cond.initialized y.cls).before a0 Z = true) (w4 : (Jvm.Cond.code y bytes maxL ret).before a0 Z = true)
    (hy : y.cls ≠ "java/lang/invoke/MethodHandle" ∧ y.cls ≠ "java/lang/invoke/VarHandle") {g : JFrame} (hg : g.method = m) (hsize : g.locals.size = c.maxLocals) (rest : List Value) (hlen : ∀ sig, parseMethodDescriptor y.desc = some sig → as'.length = sig.parameters.length)
    (hst : g.stack = as'.reverse ++ rest) (W : Nat) (hW : 2 * g.monitorRoom + (rest.map fun v => v.category).sum ≤ W) (hd : decode c.code g.pc = .ok (.invokestatic index, 3))
    (hf : rm.frames + 1 ≤ R.frames) (hl : W + (maxL + 11) + rm.locals ≤ R.locals) (hc : cells + rm.cells ≤ R.cells) (hsl : slots + rm.slots ≤ R.slots)
    (k : ∀ (v : Option Value) (T' : State) (h' : Heap), Sd p l e R s m args below meth c n0 T' h' (cells + rm.cells) (slots + rm.slots) → Q' v h' → G T' { g with pc := g.pc + 3, stack := v.toList ++ rest }) : G T g := by
  obtain ⟨L, X, N, eh⟩ := X
  obtain ⟨v, vm₁, ⟨T', L', k', n'⟩, -, X', ⟨Lc, ⟨hQ, hN⟩, l', y', z'⟩, st⟩ := Jvm.LawKit.callS X hx (y := y) hown (mvT hZ w1) (mvT hZ w2) (mvT hZ w3) (mvT hZ w4) hy (backOf (Q := fun v h L => Q' v h ∧ Fr n0 L) (W := W) hM hZ w4 w3 hf hl) hg hsize (argsL := as') (rest := rest) hlen hst hW hd (fun _ _ => ⟨rfl, eh, hc, hsl⟩)
  dsimp only [Pt.U, Pt.locs, Pt.cells, Pt.slots] at X' l' y' z' st hQ
  subst l' y' z'
  exact hs.go st (k v T' T'.heap ⟨_, X', Fr.app N hN, rfl⟩ hQ)
theorem rCallI (hs : Clo p e below G) (X : Sd p l e R s m args below meth c n0 T h cells slots) (hx : p.tables.exec = Jvm.exec) (hZ : Z.Warmed39 s.vm) {own : String} {index : Nat} {y : MethodName} {bytes : ByteArray} {maxL : Nat} {rm : Room} {a : Addr} {as' : List Value} {Q' : Option Value → Heap → Prop}
    (hM : Con l Z y bytes maxL none [] rm (Value.ref a :: as').toArray h n0 Q') (hyn : y.name = "<init>") (hown : s.vm.findClass own = some m.cls) (w1 : (Jvm.Cond.methodLink own index y).before a0 Z = true) (w2 : (Jvm.Cond.instanceMethod y).before a0 Z = true) (w3 : (Jvm.Cond.initialized y.cls).before a0 Z = true) (w4 : (Jvm.Cond.code y bytes maxL none).before a0 Z = true)
    (hy : y.cls ≠ "java/lang/invoke/MethodHandle" ∧ y.cls ≠ "java/lang/invoke/VarHandle") {g : JFrame} (hg : g.method = m) (hsize : g.locals.size = c.maxLocals) (rest : List Value) (hlen : ∀ sig, parseMethodDescriptor y.desc = some sig → as'.length = sig.parameters.length)
    (hst : g.stack = as'.reverse ++ .ref a :: rest) (W : Nat) (hW : 2 * g.monitorRoom + (rest.map fun v => v.category).sum ≤ W) (hd : decode c.code g.pc = .ok (.invokespecial index, 3))
    (hf : rm.frames + 1 ≤ R.frames) (hl : W + (maxL + 11) + rm.locals ≤ R.locals) (hc : cells + rm.cells ≤ R.cells) (hsl : slots + rm.slots ≤ R.slots)
    (k : ∀ (v : Option Value) (T' : State) (h' : Heap), Sd p l e R s m args below meth c n0 T' h' (cells + rm.cells) (slots + rm.slots) → Q' v h' → G T' { g with pc := g.pc + 3, stack := v.toList ++ rest }) : G T g := by
  obtain ⟨L, X, N, eh⟩ := X
  obtain ⟨v, vm₁, ⟨T', L', k', n'⟩, -, X', ⟨Lc, ⟨hQ, hN⟩, l', y', z'⟩, st⟩ := X.specialBack hx (y := y) hyn hown (mvT hZ w1) (mvT hZ w2) (mvT hZ w4) hy (backOf (Q := fun v h L => Q' v h ∧ Fr n0 L) (W := W) hM hZ w4 w3 hf hl) hg hsize (Steps.refl _) (a := a) (argsL := as') (rest := rest) hlen hst hW hd (fun _ _ => ⟨rfl, eh, hc, hsl⟩)
  dsimp only [Pt.U, Pt.locs, Pt.cells, Pt.slots] at X' l' y' z' st hQ
  subst l' y' z'
  exact hs.go (fun _ q => st.trans q) (k v T' T'.heap ⟨_, X', Fr.app N hN, rfl⟩ hQ)
theorem rCallV (hs : Clo p e below G) (X : Sd p l e R s m args below meth c n0 T h cells slots) (hx : p.tables.exec = Jvm.exec) (hZ : Z.Warmed39 s.vm) {own C : String} {index : Nat} {y : MethodName} {bytes : ByteArray} {maxL : Nat} {ret : Option FieldType} {rm : Room} {a : Addr} {as' : List Value} {Q' : Option Value → Heap → Prop}
    (hM : Con l Z y bytes maxL ret [] rm (Value.ref a :: as').toArray h n0 Q') (E : Exa Z h a C) (hown : s.vm.findClass own = some m.cls) (w1 : (Jvm.Cond.methodLink own index y).before a0 Z = true) (w5 : (Jvm.Cond.declares y).before a0 Z = true) (w6 : (Jvm.Cond.selects C y y).before a0 Z = true) (w2 : (Jvm.Cond.instanceMethod y).before a0 Z = true) (w3 : (Jvm.Cond.initialized y.cls).before a0 Z = true) (w4 : (Jvm.Cond.code y bytes maxL ret).before a0 Z = true)
    (hy : y.cls ≠ "java/lang/invoke/MethodHandle" ∧ y.cls ≠ "java/lang/invoke/VarHandle") {g : JFrame} (hg : g.method = m) (hsize : g.locals.size = c.maxLocals) (rest : List Value) (hlen : ∀ sig, parseMethodDescriptor y.desc = some sig → as'.length = sig.parameters.length)
    (hst : g.stack = as'.reverse ++ .ref a :: rest) (W : Nat) (hW : 2 * g.monitorRoom + (rest.map fun v => v.category).sum ≤ W) (hd : decode c.code g.pc = .ok (.invokevirtual index, 3))
    (hf : rm.frames + 1 ≤ R.frames) (hl : W + (maxL + 11) + rm.locals ≤ R.locals) (hc : cells + rm.cells ≤ R.cells) (hsl : slots + rm.slots ≤ R.slots)
    (k : ∀ (v : Option Value) (T' : State) (h' : Heap), Sd p l e R s m args below meth c n0 T' h' (cells + rm.cells) (slots + rm.slots) → Q' v h' → G T' { g with pc := g.pc + 3, stack := v.toList ++ rest }) : G T g := by
  obtain ⟨L, X, N, eh⟩ := X
  obtain ⟨cB, kB, qa, qb, qc⟩ := isOf (T := T) hZ eh E
  obtain ⟨v, vm₁, ⟨T', L', k', n'⟩, -, X', ⟨Lc, ⟨hQ, hN⟩, l', y', z'⟩, st⟩ := X.virtualBack hx (y := y) (z := y) hown (mvT hZ w1) (mvT hZ w5) (notFace_of_selects (args := #[]) (mvT hZ w6)) (mvT hZ w6) (mvT hZ w2) hy (backOf (Q := fun v h L => Q' v h ∧ Fr n0 L) (W := W) hM hZ w4 w3 hf hl) qa qc hg hsize (Steps.refl _) (argsL := as') (rest := rest) hlen hst hW hd (fun _ _ => ⟨rfl, eh, hc, hsl⟩)
  dsimp only [Pt.U, Pt.locs, Pt.cells, Pt.slots] at X' l' y' z' st hQ
  subst l' y' z'
  exact hs.go (fun _ q => st.trans q) (k v T' T'.heap ⟨_, X', Fr.app N hN, rfl⟩ hQ)
/-! branches -/
theorem ltL {x y : Int64} (h : x < y) : if_icmp.holds .lt (lcmpW x y) 0 = true ∧ if_icmp.holds .ge (lcmpW x y) 0 = false := have q := tlt ((lw_lt x y).mpr h); ⟨q.1, q.2.1⟩
theorem nltL {x y : Int64} (h : ¬ x < y) : if_icmp.holds .lt (lcmpW x y) 0 = false ∧ if_icmp.holds .ge (lcmpW x y) 0 = true := have q := flt (fun z => h ((lw_lt x y).mp z)); ⟨q.1, q.2.1⟩
theorem gtL {x y : Int64} (h : y < x) : if_icmp.holds .gt (lcmpW x y) 0 = true ∧ if_icmp.holds .le (lcmpW x y) 0 = false := have q := tlt ((lw_gt x y).mpr h); ⟨q.2.2.1, q.2.2.2⟩
theorem ngtL {x y : Int64} (h : ¬ y < x) : if_icmp.holds .gt (lcmpW x y) 0 = false ∧ if_icmp.holds .le (lcmpW x y) 0 = true := have q := flt (fun z => h ((lw_gt x y).mp z)); ⟨q.2.2.1, q.2.2.2⟩
theorem eqL {x y : Int64} (h : x = y) : if_icmp.holds .eq (lcmpW x y) 0 = true ∧ if_icmp.holds .ne (lcmpW x y) 0 = false := teq ((lw_eq x y).mpr h)
theorem neqL {x y : Int64} (h : ¬ x = y) : if_icmp.holds .eq (lcmpW x y) 0 = false ∧ if_icmp.holds .ne (lcmpW x y) 0 = true := feq (fun z => h ((lw_eq x y).mp z))
theorem nameIt {α : Type} {P : α → Prop} (x : α) (k : ∀ z, z = x → P z) : P x := k x rfl
theorem eq64 {x y : Int64} (h : x.toInt = y.toInt) : x = y := Int64.toInt_inj.mp h
theorem eq32 {x y : Int32} (h : x.toInt = y.toInt) : x = y := Int32.toInt_inj.mp h
theorem lt64 {x y : Int64} : x < y ↔ x.toInt < y.toInt := Int64.lt_iff_toInt_lt
theorem lt32 {x y : Int32} : x < y ↔ x.toInt < y.toInt := Int32.lt_iff_toInt_lt
theorem e64 {x y : Int64} : x = y ↔ x.toInt = y.toInt := Int64.toInt_inj.symm
theorem e32 {x y : Int32} : x = y ↔ x.toInt = y.toInt := Int32.toInt_inj.symm
theorem c_lremM (x y : Int64) (d : Int) (hy : y.toInt = d) : (0 ≤ x.toInt → (x % y).toInt = x.toInt % d) ∧ (x.toInt < 0 → (x % y).toInt = -((-x.toInt) % d)) := by rw [Int64.toInt_mod, hy]; exact tr _ _
theorem nar_byte (x : Int32) : x.toInt8.toInt32.toInt8.toInt32 = x.toInt8.toInt32 := by simp
end OwnKit

def f1 (pv : Int32) (sb : Int32) (gp : Int64) (ix : Int32) : Int32 := (if sb = (0 : Int32) then ((pv + (1 : Int32)) + ((((gp.toUInt64 >>> (((3 : Int32) * ix) &&& 0x3f).toInt64.toUInt64).toInt64) &&& (7 : Int64)).toInt32)) else ((((gp.toUInt64 >>> (((3 : Int32) * ix) &&& 0x3f).toInt64.toUInt64).toInt64) &&& (7 : Int64)).toInt32))
theorem d1_0 : decode method_3_code 0 = .ok (.lload_n 2, 1) := by decide +kernel
theorem d1_1 : decode method_3_code 1 = .ok (.iconst 3, 1) := by decide +kernel
theorem d1_2 : decode method_3_code 2 = .ok (.iload 4, 2) := by decide +kernel
theorem d1_4 : decode method_3_code 4 = .ok (.imul, 1) := by decide +kernel
theorem d1_5 : decode method_3_code 5 = .ok (.lushr, 1) := by decide +kernel
theorem d1_6 : decode method_3_code 6 = .ok (.ldc2_w 7, 3) := by decide +kernel
theorem d1_9 : decode method_3_code 9 = .ok (.land, 1) := by decide +kernel
theorem d1_10 : decode method_3_code 10 = .ok (.l2i, 1) := by decide +kernel
theorem d1_11 : decode method_3_code 11 = .ok (.istore 5, 2) := by decide +kernel
theorem d1_13 : decode method_3_code 13 = .ok (.iload_n 1, 1) := by decide +kernel
theorem d1_14 : decode method_3_code 14 = .ok (.ifCond .eq 8, 3) := by decide +kernel
theorem d1_17 : decode method_3_code 17 = .ok (.iload 5, 2) := by decide +kernel
theorem d1_19 : decode method_3_code 19 = .ok (.goto 9, 3) := by decide +kernel
theorem d1_22 : decode method_3_code 22 = .ok (.iload_n 0, 1) := by decide +kernel
theorem d1_23 : decode method_3_code 23 = .ok (.iconst 1, 1) := by decide +kernel
theorem d1_24 : decode method_3_code 24 = .ok (.iadd, 1) := by decide +kernel
theorem d1_25 : decode method_3_code 25 = .ok (.iload 5, 2) := by decide +kernel
theorem d1_27 : decode method_3_code 27 = .ok (.iadd, 1) := by decide +kernel
theorem d1_28 : decode method_3_code 28 = .ok (.ireturn, 1) := by decide +kernel
theorem pn_1 : plainFor (⟨"com/example/vector_space_ranker/vectorspaceranker/IndexPostingPositionPinLaw", "next", "(IZJI)I"⟩ : MethodName) = true := plainFor_of_name (by first | (simp [plainName, overriddenIn]; done) | decide +kernel)
theorem ef_1 (m : MethodId) (x0 : Int32) (x1 : Int32) (x2 : Int64) (x3 : Int32) : entryFrame m #[(.int x0), (.int x1), (.long x2), (.int x3)] 6 = mkF m 0 #[.val (.int x0), .val (.int x1), .val (.long x2), .second, .val (.int x3), .unset] [] := by first | (simp [entryFrame, mkF, argsToLocals, Value.category]; done) | rfl
theorem hy_1 : ((⟨"com/example/vector_space_ranker/vectorspaceranker/IndexPostingPositionPinLaw", "next", "(IZJI)I"⟩ : MethodName)).cls ≠ "java/lang/invoke/MethodHandle" ∧ ((⟨"com/example/vector_space_ranker/vectorspaceranker/IndexPostingPositionPinLaw", "next", "(IZJI)I"⟩ : MethodName)).cls ≠ "java/lang/invoke/VarHandle" := by decide
set_option maxRecDepth 65536 in
set_option maxHeartbeats 40000000 in
theorem rm1 (l : Launch) (Z : State) (a0 : Array Value) (hw : ∀ d ∈ tables_1, d.before a0 Z = true) (ws : List Jvm.Cond) (pv : Int32) (sb : Int32) (gp : Int64) (ix : Int32) (h0 : Heap) (n0 : Nat) (Z0 : n0 ≤ h0.size)  :
    Con l Z (⟨"com/example/vector_space_ranker/vectorspaceranker/IndexPostingPositionPinLaw", "next", "(IZJI)I"⟩ : MethodName) method_3_code 6 (some .int) ws ({ frames := 0, cells := 0, slots := 0, locals := 0 } : Room) #[(.int pv), (.int sb), (.long gp), (.int ix)] h0 n0 (fun v h => v = some (.int (f1 pv sb gp ix)) ∧ h = h0) := by
  refine Con.of pn_1 ?_
  intro G p e s m below meth c s₁ hs hx hby hml hown hnm hret hZ X0 fin
  have hml : c.maxLocals = 6 := hml
  have hown : s.vm.findClass "com/example/vector_space_ranker/vectorspaceranker/IndexPostingPositionPinLaw" = some m.cls := hown
  rw [ef_1]
  show G s₁ (mkF m 0 #[.val (.int pv), .val (.int sb), .val (.long gp), .second, .val (.int ix), .unset] [])
  refine hs.go (fun _ kk_ => XS.lloadN X0.here hx rfl (hb hby d1_0) rfl  kk_) ?_
  show G s₁ (mkF m 1 #[.val (.int pv), .val (.int sb), .val (.long gp), .second, .val (.int ix), .unset] [(.long gp)])
  refine hs.go (fun _ kk_ => XS.iconst X0.here hx rfl (hb hby d1_1) kk_) ?_
  show G s₁ (mkF m 2 #[.val (.int pv), .val (.int sb), .val (.long gp), .second, .val (.int ix), .unset] [(.int (3 : Int32)), (.long gp)])
  refine hs.go (fun _ kk_ => XS.iload X0.here hx rfl (hb hby d1_2) rfl  kk_) ?_
  show G s₁ (mkF m 4 #[.val (.int pv), .val (.int sb), .val (.long gp), .second, .val (.int ix), .unset] [(.int ix), (.int (3 : Int32)), (.long gp)])
  refine hs.go (fun _ kk_ => XS.imul X0.here hx rfl (hb hby d1_4) rfl kk_) ?_
  show G s₁ (mkF m 5 #[.val (.int pv), .val (.int sb), .val (.long gp), .second, .val (.int ix), .unset] [(.int ((3 : Int32) * ix)), (.long gp)])
  refine hs.go (fun _ kk_ => XS.lushr X0.here hx rfl (hb hby d1_5) rfl kk_) ?_
  show G s₁ (mkF m 6 #[.val (.int pv), .val (.int sb), .val (.long gp), .second, .val (.int ix), .unset] [(.long ((gp.toUInt64 >>> (((3 : Int32) * ix) &&& 0x3f).toInt64.toUInt64).toInt64))])
  refine rLdcL hs X0 hx hZ hown (hw _ (List.mem_of_getElem? (i := 1) rfl)) rfl (hb hby d1_6) ?_
  show G s₁ (mkF m 9 #[.val (.int pv), .val (.int sb), .val (.long gp), .second, .val (.int ix), .unset] [(.long (7 : Int64)), (.long ((gp.toUInt64 >>> (((3 : Int32) * ix) &&& 0x3f).toInt64.toUInt64).toInt64))])
  refine hs.go (fun _ kk_ => XS.land X0.here hx rfl (hb hby d1_9) rfl kk_) ?_
  show G s₁ (mkF m 10 #[.val (.int pv), .val (.int sb), .val (.long gp), .second, .val (.int ix), .unset] [(.long (((gp.toUInt64 >>> (((3 : Int32) * ix) &&& 0x3f).toInt64.toUInt64).toInt64) &&& (7 : Int64)))])
  refine hs.go (fun _ kk_ => XS.l2i X0.here hx rfl (hb hby d1_10) rfl kk_) ?_
  show G s₁ (mkF m 11 #[.val (.int pv), .val (.int sb), .val (.long gp), .second, .val (.int ix), .unset] [(.int ((((gp.toUInt64 >>> (((3 : Int32) * ix) &&& 0x3f).toInt64.toUInt64).toInt64) &&& (7 : Int64)).toInt32))])
  refine nameIt (P := fun zz_ : Int32 => G s₁ (mkF m 11 #[.val (.int pv), .val (.int sb), .val (.long gp), .second, .val (.int ix), .unset] [(.int zz_)])) ((((gp.toUInt64 >>> (((3 : Int32) * ix) &&& 0x3f).toInt64.toUInt64).toInt64) &&& (7 : Int64)).toInt32) (fun v1 hv1 => ?_)
  show G s₁ (mkF m 11 #[.val (.int pv), .val (.int sb), .val (.long gp), .second, .val (.int ix), .unset] [(.int v1)])
  refine hs.go (fun _ kk_ => XS.istore X0.here hx rfl (hb hby d1_11) rfl (l' := #[.val (.int pv), .val (.int sb), .val (.long gp), .second, .val (.int ix), .val (.int v1)]) rfl kk_) ?_
  show G s₁ (mkF m 13 #[.val (.int pv), .val (.int sb), .val (.long gp), .second, .val (.int ix), .val (.int v1)] [])
  refine hs.go (fun _ kk_ => XS.iloadN X0.here hx rfl (hb hby d1_13) rfl  kk_) ?_
  show G s₁ (mkF m 14 #[.val (.int pv), .val (.int sb), .val (.long gp), .second, .val (.int ix), .val (.int v1)] [(.int sb)])
  by_cases c14 : sb = (0 : Int32)
  · refine hs.go (fun _ kk_ => XS.ifYes X0.here hx rfl (pc0 := 14) (pc' := 22) rfl (hb hby d1_14) rfl ((if0 _ _).trans (teq c14).1) (by decide) (by decide) kk_) ?_
    show G s₁ (mkF m 22 #[.val (.int pv), .val (.int sb), .val (.long gp), .second, .val (.int ix), .val (.int v1)] [])
    refine hs.go (fun _ kk_ => XS.iloadN X0.here hx rfl (hb hby d1_22) rfl  kk_) ?_
    show G s₁ (mkF m 23 #[.val (.int pv), .val (.int sb), .val (.long gp), .second, .val (.int ix), .val (.int v1)] [(.int pv)])
    refine hs.go (fun _ kk_ => XS.iconst X0.here hx rfl (hb hby d1_23) kk_) ?_
    show G s₁ (mkF m 24 #[.val (.int pv), .val (.int sb), .val (.long gp), .second, .val (.int ix), .val (.int v1)] [(.int (1 : Int32)), (.int pv)])
    refine hs.go (fun _ kk_ => XS.iadd X0.here hx rfl (hb hby d1_24) rfl kk_) ?_
    show G s₁ (mkF m 25 #[.val (.int pv), .val (.int sb), .val (.long gp), .second, .val (.int ix), .val (.int v1)] [(.int (pv + (1 : Int32)))])
    refine hs.go (fun _ kk_ => XS.iload X0.here hx rfl (hb hby d1_25) rfl  kk_) ?_
    show G s₁ (mkF m 27 #[.val (.int pv), .val (.int sb), .val (.long gp), .second, .val (.int ix), .val (.int v1)] [(.int v1), (.int (pv + (1 : Int32)))])
    refine hs.go (fun _ kk_ => XS.iadd X0.here hx rfl (hb hby d1_27) rfl kk_) ?_
    show G s₁ (mkF m 28 #[.val (.int pv), .val (.int sb), .val (.long gp), .second, .val (.int ix), .val (.int v1)] [(.int ((pv + (1 : Int32)) + v1))])
    exact rRetI fin X0 hx (by decide) (by decide) hret (hb hby d1_28) ⟨by subst hv1; rw [f1, if_pos c14], rfl⟩
  · refine hs.go (fun _ kk_ => XS.ifNo X0.here hx rfl (hb hby d1_14) rfl ((if0 _ _).trans (feq c14).1) kk_) ?_
    show G s₁ (mkF m 17 #[.val (.int pv), .val (.int sb), .val (.long gp), .second, .val (.int ix), .val (.int v1)] [])
    refine hs.go (fun _ kk_ => XS.iload X0.here hx rfl (hb hby d1_17) rfl  kk_) ?_
    show G s₁ (mkF m 19 #[.val (.int pv), .val (.int sb), .val (.long gp), .second, .val (.int ix), .val (.int v1)] [(.int v1)])
    refine hs.go (fun _ kk_ => XS.goto X0.here hx rfl (pc0 := 19) (pc' := 28) rfl (hb hby d1_19) (by decide) (by decide) kk_) ?_
    show G s₁ (mkF m 28 #[.val (.int pv), .val (.int sb), .val (.long gp), .second, .val (.int ix), .val (.int v1)] [(.int v1)])
    exact rRetI fin X0 hx (by decide) (by decide) hret (hb hby d1_28) ⟨by subst hv1; rw [f1, if_neg c14], rfl⟩
theorem d2_0 : decode prog_14_method_1_code 0 = .ok (.aload_n 0, 1) := by decide +kernel
theorem d2_1 : decode prog_14_method_1_code 1 = .ok (.invokespecial 3, 3) := by decide +kernel
theorem d2_4 : decode prog_14_method_1_code 4 = .ok (.aload_n 0, 1) := by decide +kernel
theorem d2_5 : decode prog_14_method_1_code 5 = .ok (.aload_n 1, 1) := by decide +kernel
theorem d2_6 : decode prog_14_method_1_code 6 = .ok (.putfield 9, 3) := by decide +kernel
theorem d2_9 : decode prog_14_method_1_code 9 = .ok (.aload_n 0, 1) := by decide +kernel
theorem d2_10 : decode prog_14_method_1_code 10 = .ok (.aload_n 2, 1) := by decide +kernel
theorem d2_11 : decode prog_14_method_1_code 11 = .ok (.putfield 15, 3) := by decide +kernel
theorem d2_14 : decode prog_14_method_1_code 14 = .ok (.aload_n 0, 1) := by decide +kernel
theorem d2_15 : decode prog_14_method_1_code 15 = .ok (.aload_n 3, 1) := by decide +kernel
theorem d2_16 : decode prog_14_method_1_code 16 = .ok (.putfield 19, 3) := by decide +kernel
theorem d2_19 : decode prog_14_method_1_code 19 = .ok (.aload_n 0, 1) := by decide +kernel
theorem d2_20 : decode prog_14_method_1_code 20 = .ok (.aload 4, 2) := by decide +kernel
theorem d2_22 : decode prog_14_method_1_code 22 = .ok (.putfield 23, 3) := by decide +kernel
theorem d2_25 : decode prog_14_method_1_code 25 = .ok (.aload_n 0, 1) := by decide +kernel
theorem d2_26 : decode prog_14_method_1_code 26 = .ok (.aload 5, 2) := by decide +kernel
theorem d2_28 : decode prog_14_method_1_code 28 = .ok (.putfield 26, 3) := by decide +kernel
theorem d2_31 : decode prog_14_method_1_code 31 = .ok (.aload_n 0, 1) := by decide +kernel
theorem d2_32 : decode prog_14_method_1_code 32 = .ok (.aload 6, 2) := by decide +kernel
theorem d2_34 : decode prog_14_method_1_code 34 = .ok (.putfield 29, 3) := by decide +kernel
theorem d2_37 : decode prog_14_method_1_code 37 = .ok (.aload_n 0, 1) := by decide +kernel
theorem d2_38 : decode prog_14_method_1_code 38 = .ok (.aload 7, 2) := by decide +kernel
theorem d2_40 : decode prog_14_method_1_code 40 = .ok (.putfield 32, 3) := by decide +kernel
theorem d2_43 : decode prog_14_method_1_code 43 = .ok (.aload_n 0, 1) := by decide +kernel
theorem d2_44 : decode prog_14_method_1_code 44 = .ok (.lload 8, 2) := by decide +kernel
theorem d2_46 : decode prog_14_method_1_code 46 = .ok (.putfield 35, 3) := by decide +kernel
theorem d2_49 : decode prog_14_method_1_code 49 = .ok (.return_, 1) := by decide +kernel
theorem pn_2 : plainFor (⟨"com/example/vector_space_ranker/vectorspaceranker/Index", "<init>", "(Lcom/example/vector_space_ranker/vectorspaceranker/Analysis;[Ljava/lang/String;[I[Ljava/lang/String;[I[I[IJ)V"⟩ : MethodName) = true := plainFor_of_name (by first | (simp [plainName, overriddenIn]; done) | decide +kernel)
theorem ef_2_xnnnnxxnx (m : MethodId) (x0 : Addr) (x5 : Addr) (x6 : Addr) (x8 : Int64) : entryFrame m #[(.ref x0), .null, .null, .null, .null, (.ref x5), (.ref x6), .null, (.long x8)] 10 = mkF m 0 #[.val (.ref x0), .val .null, .val .null, .val .null, .val .null, .val (.ref x5), .val (.ref x6), .val .null, .val (.long x8), .second] [] := by first | (simp [entryFrame, mkF, argsToLocals, Value.category]; done) | rfl
theorem hy_2 : ((⟨"com/example/vector_space_ranker/vectorspaceranker/Index", "<init>", "(Lcom/example/vector_space_ranker/vectorspaceranker/Analysis;[Ljava/lang/String;[I[Ljava/lang/String;[I[I[IJ)V"⟩ : MethodName)).cls ≠ "java/lang/invoke/MethodHandle" ∧ ((⟨"com/example/vector_space_ranker/vectorspaceranker/Index", "<init>", "(Lcom/example/vector_space_ranker/vectorspaceranker/Analysis;[Ljava/lang/String;[I[Ljava/lang/String;[I[I[IJ)V"⟩ : MethodName)).cls ≠ "java/lang/invoke/VarHandle" := by decide
set_option maxRecDepth 65536 in
set_option maxHeartbeats 40000000 in
theorem rm2 (l : Launch) (Z : State) (a0 : Array Value) (hw : ∀ d ∈ tables_1, d.before a0 Z = true) (ws : List Jvm.Cond) (a : Addr) (a5 : Addr) (a6 : Addr) (q8 : Int64) (h0 : Heap) (n0 : Nat) (Z0 : n0 ≤ h0.size) (E_a : Exa Z h0 a "com/example/vector_space_ranker/vectorspaceranker/Index") (g_a : n0 ≤ a) (F_analysis_a : Fld Z h0 a "com/example/vector_space_ranker/vectorspaceranker/Index" "analysis" "Lcom/example/vector_space_ranker/vectorspaceranker/Analysis;" .null) (F_docnos_a : Fld Z h0 a "com/example/vector_space_ranker/vectorspaceranker/Index" "docnos" "[Ljava/lang/String;" .null) (F_characterLengths_a : Fld Z h0 a "com/example/vector_space_ranker/vectorspaceranker/Index" "characterLengths" "[I" .null) (F_terms_a : Fld Z h0 a "com/example/vector_space_ranker/vectorspaceranker/Index" "terms" "[Ljava/lang/String;" .null) (F_postingStarts_a : Fld Z h0 a "com/example/vector_space_ranker/vectorspaceranker/Index" "postingStarts" "[I" .null) (F_postingDocuments_a : Fld Z h0 a "com/example/vector_space_ranker/vectorspaceranker/Index" "postingDocuments" "[I" .null) (F_postingFrequencies_a : Fld Z h0 a "com/example/vector_space_ranker/vectorspaceranker/Index" "postingFrequencies" "[I" .null) (F_tokenCount_a : Fld Z h0 a "com/example/vector_space_ranker/vectorspaceranker/Index" "tokenCount" "J" (.long (0 : Int64))) :
    Con l Z (⟨"com/example/vector_space_ranker/vectorspaceranker/Index", "<init>", "(Lcom/example/vector_space_ranker/vectorspaceranker/Analysis;[Ljava/lang/String;[I[Ljava/lang/String;[I[I[IJ)V"⟩ : MethodName) prog_14_method_1_code 10 none ws ({ frames := 1, cells := 0, slots := 0, locals := 12 } : Room) #[(.ref a), .null, .null, .null, .null, (.ref a5), (.ref a6), .null, (.long q8)] h0 n0 (fun v h => v = none ∧ Keep h0 h [a] ∧ Exa Z h a "com/example/vector_space_ranker/vectorspaceranker/Index" ∧ Fld Z h a "com/example/vector_space_ranker/vectorspaceranker/Index" "postingStarts" "[I" (.ref a5) ∧ Fld Z h a "com/example/vector_space_ranker/vectorspaceranker/Index" "postingDocuments" "[I" (.ref a6)) := by
  refine Con.of pn_2 ?_
  intro G p e s m below meth c s₁ hs hx hby hml hown hnm hret hZ X0 fin
  have hml : c.maxLocals = 10 := hml
  have hown : s.vm.findClass "com/example/vector_space_ranker/vectorspaceranker/Index" = some m.cls := hown
  rw [ef_2_xnnnnxxnx]
  have K := Keep.refl h0 ([a] : List Addr)
  have Ksz := K.1
  show G s₁ (mkF m 0 #[.val (.ref a), .val .null, .val .null, .val .null, .val .null, .val (.ref a5), .val (.ref a6), .val .null, .val (.long q8), .second] [])
  refine hs.go (fun _ kk_ => XS.aloadN X0.here hx rfl (hb hby d2_0) rfl rfl kk_) ?_
  show G s₁ (mkF m 1 #[.val (.ref a), .val .null, .val .null, .val .null, .val .null, .val (.ref a5), .val (.ref a6), .val .null, .val (.long q8), .second] [(.ref a)])
  refine rInitO hs X0 hx hZ hown (hw _ (List.mem_of_getElem? (i := 13) rfl)) (hw _ (List.mem_of_getElem? (i := 14) rfl)) (hw _ (List.mem_of_getElem? (i := 15) rfl)) rfl (by rw [hml]; rfl) rfl (hb hby d2_1) (by decide) (W := 0) (by show 2 * 0 + _ ≤ _; exact Nat.le_of_eq rfl) (by decide) (fun T1 X1 => ?_)
  show G T1 (mkF m 4 #[.val (.ref a), .val .null, .val .null, .val .null, .val .null, .val (.ref a5), .val (.ref a6), .val .null, .val (.long q8), .second] [])
  refine hs.go (fun _ kk_ => XS.aloadN X1.here hx rfl (hb hby d2_4) rfl rfl kk_) ?_
  show G T1 (mkF m 5 #[.val (.ref a), .val .null, .val .null, .val .null, .val .null, .val (.ref a5), .val (.ref a6), .val .null, .val (.long q8), .second] [(.ref a)])
  refine hs.go (fun _ kk_ => XS.aloadN X1.here hx rfl (hb hby d2_5) rfl rfl kk_) ?_
  show G T1 (mkF m 6 #[.val (.ref a), .val .null, .val .null, .val .null, .val .null, .val (.ref a5), .val (.ref a6), .val .null, .val (.long q8), .second] [.null, (.ref a)])
  refine rPutF hs X1 hx hZ (.object "com/example/vector_space_ranker/vectorspaceranker/Analysis") hown (host := "") (Or.inl (hw _ (List.mem_of_getElem? (i := 16) rfl))) Via.refl F_analysis_a E_a g_a (Or.inr ⟨(hw _ (List.mem_of_getElem? (i := 17) rfl)), rfl, hnm⟩) (hw _ (List.mem_of_getElem? (i := 8) rfl)) (by decide) rfl rfl rfl rfl (hb hby d2_6) (fun T2 h2 X2 W2 F_analysis_a => ?_)
  have E_a := E_a.wr W2
  have F_docnos_a := F_docnos_a.other W2 (Or.inr (slot_ne (Or.inr (hw _ (List.mem_of_getElem? (i := 19) rfl))) (Or.inr (hw _ (List.mem_of_getElem? (i := 17) rfl))) (by decide) (t := (.array (.object "java/lang/String"))) (t' := (.object "com/example/vector_space_ranker/vectorspaceranker/Analysis")) (by decide) (by decide)))
  have F_characterLengths_a := F_characterLengths_a.other W2 (Or.inr (slot_ne (Or.inr (hw _ (List.mem_of_getElem? (i := 21) rfl))) (Or.inr (hw _ (List.mem_of_getElem? (i := 17) rfl))) (by decide) (t := (.array .int)) (t' := (.object "com/example/vector_space_ranker/vectorspaceranker/Analysis")) (by decide) (by decide)))
  have F_terms_a := F_terms_a.other W2 (Or.inr (slot_ne (Or.inr (hw _ (List.mem_of_getElem? (i := 23) rfl))) (Or.inr (hw _ (List.mem_of_getElem? (i := 17) rfl))) (by decide) (t := (.array (.object "java/lang/String"))) (t' := (.object "com/example/vector_space_ranker/vectorspaceranker/Analysis")) (by decide) (by decide)))
  have F_postingStarts_a := F_postingStarts_a.other W2 (Or.inr (slot_ne (Or.inr (hw _ (List.mem_of_getElem? (i := 25) rfl))) (Or.inr (hw _ (List.mem_of_getElem? (i := 17) rfl))) (by decide) (t := (.array .int)) (t' := (.object "com/example/vector_space_ranker/vectorspaceranker/Analysis")) (by decide) (by decide)))
  have F_postingDocuments_a := F_postingDocuments_a.other W2 (Or.inr (slot_ne (Or.inr (hw _ (List.mem_of_getElem? (i := 27) rfl))) (Or.inr (hw _ (List.mem_of_getElem? (i := 17) rfl))) (by decide) (t := (.array .int)) (t' := (.object "com/example/vector_space_ranker/vectorspaceranker/Analysis")) (by decide) (by decide)))
  have F_postingFrequencies_a := F_postingFrequencies_a.other W2 (Or.inr (slot_ne (Or.inr (hw _ (List.mem_of_getElem? (i := 29) rfl))) (Or.inr (hw _ (List.mem_of_getElem? (i := 17) rfl))) (by decide) (t := (.array .int)) (t' := (.object "com/example/vector_space_ranker/vectorspaceranker/Analysis")) (by decide) (by decide)))
  have F_tokenCount_a := F_tokenCount_a.other W2 (Or.inr (slot_ne (Or.inr (hw _ (List.mem_of_getElem? (i := 31) rfl))) (Or.inr (hw _ (List.mem_of_getElem? (i := 17) rfl))) (by decide) (t := .long) (t' := (.object "com/example/vector_space_ranker/vectorspaceranker/Analysis")) (by decide) (by decide)))
  have K := K.wr W2 (Or.inl (by simp))
  have Ksz := K.1
  have Z0 := Nat.le_trans Z0 (Keep.of_wr W2).1
  show G T2 (mkF m 9 #[.val (.ref a), .val .null, .val .null, .val .null, .val .null, .val (.ref a5), .val (.ref a6), .val .null, .val (.long q8), .second] [])
  refine hs.go (fun _ kk_ => XS.aloadN X2.here hx rfl (hb hby d2_9) rfl rfl kk_) ?_
  show G T2 (mkF m 10 #[.val (.ref a), .val .null, .val .null, .val .null, .val .null, .val (.ref a5), .val (.ref a6), .val .null, .val (.long q8), .second] [(.ref a)])
  refine hs.go (fun _ kk_ => XS.aloadN X2.here hx rfl (hb hby d2_10) rfl rfl kk_) ?_
  show G T2 (mkF m 11 #[.val (.ref a), .val .null, .val .null, .val .null, .val .null, .val (.ref a5), .val (.ref a6), .val .null, .val (.long q8), .second] [.null, (.ref a)])
  refine rPutF hs X2 hx hZ (.array (.object "java/lang/String")) hown (host := "") (Or.inl (hw _ (List.mem_of_getElem? (i := 18) rfl))) Via.refl F_docnos_a E_a g_a (Or.inr ⟨(hw _ (List.mem_of_getElem? (i := 19) rfl)), rfl, hnm⟩) (hw _ (List.mem_of_getElem? (i := 8) rfl)) (by decide) rfl rfl rfl rfl (hb hby d2_11) (fun T3 h3 X3 W3 F_docnos_a => ?_)
  have E_a := E_a.wr W3
  have F_characterLengths_a := F_characterLengths_a.other W3 (Or.inr (slot_ne (Or.inr (hw _ (List.mem_of_getElem? (i := 21) rfl))) (Or.inr (hw _ (List.mem_of_getElem? (i := 19) rfl))) (by decide) (t := (.array .int)) (t' := (.array (.object "java/lang/String"))) (by decide) (by decide)))
  have F_terms_a := F_terms_a.other W3 (Or.inr (slot_ne (Or.inr (hw _ (List.mem_of_getElem? (i := 23) rfl))) (Or.inr (hw _ (List.mem_of_getElem? (i := 19) rfl))) (by decide) (t := (.array (.object "java/lang/String"))) (t' := (.array (.object "java/lang/String"))) (by decide) (by decide)))
  have F_postingStarts_a := F_postingStarts_a.other W3 (Or.inr (slot_ne (Or.inr (hw _ (List.mem_of_getElem? (i := 25) rfl))) (Or.inr (hw _ (List.mem_of_getElem? (i := 19) rfl))) (by decide) (t := (.array .int)) (t' := (.array (.object "java/lang/String"))) (by decide) (by decide)))
  have F_postingDocuments_a := F_postingDocuments_a.other W3 (Or.inr (slot_ne (Or.inr (hw _ (List.mem_of_getElem? (i := 27) rfl))) (Or.inr (hw _ (List.mem_of_getElem? (i := 19) rfl))) (by decide) (t := (.array .int)) (t' := (.array (.object "java/lang/String"))) (by decide) (by decide)))
  have F_postingFrequencies_a := F_postingFrequencies_a.other W3 (Or.inr (slot_ne (Or.inr (hw _ (List.mem_of_getElem? (i := 29) rfl))) (Or.inr (hw _ (List.mem_of_getElem? (i := 19) rfl))) (by decide) (t := (.array .int)) (t' := (.array (.object "java/lang/String"))) (by decide) (by decide)))
  have F_tokenCount_a := F_tokenCount_a.other W3 (Or.inr (slot_ne (Or.inr (hw _ (List.mem_of_getElem? (i := 31) rfl))) (Or.inr (hw _ (List.mem_of_getElem? (i := 19) rfl))) (by decide) (t := .long) (t' := (.array (.object "java/lang/String"))) (by decide) (by decide)))
  have K := K.wr W3 (Or.inl (by simp))
  have Ksz := K.1
  have Z0 := Nat.le_trans Z0 (Keep.of_wr W3).1
  show G T3 (mkF m 14 #[.val (.ref a), .val .null, .val .null, .val .null, .val .null, .val (.ref a5), .val (.ref a6), .val .null, .val (.long q8), .second] [])
  refine hs.go (fun _ kk_ => XS.aloadN X3.here hx rfl (hb hby d2_14) rfl rfl kk_) ?_
  show G T3 (mkF m 15 #[.val (.ref a), .val .null, .val .null, .val .null, .val .null, .val (.ref a5), .val (.ref a6), .val .null, .val (.long q8), .second] [(.ref a)])
  refine hs.go (fun _ kk_ => XS.aloadN X3.here hx rfl (hb hby d2_15) rfl rfl kk_) ?_
  show G T3 (mkF m 16 #[.val (.ref a), .val .null, .val .null, .val .null, .val .null, .val (.ref a5), .val (.ref a6), .val .null, .val (.long q8), .second] [.null, (.ref a)])
  refine rPutF hs X3 hx hZ (.array .int) hown (host := "") (Or.inl (hw _ (List.mem_of_getElem? (i := 20) rfl))) Via.refl F_characterLengths_a E_a g_a (Or.inr ⟨(hw _ (List.mem_of_getElem? (i := 21) rfl)), rfl, hnm⟩) (hw _ (List.mem_of_getElem? (i := 8) rfl)) (by decide) rfl rfl rfl rfl (hb hby d2_16) (fun T4 h4 X4 W4 F_characterLengths_a => ?_)
  have E_a := E_a.wr W4
  have F_terms_a := F_terms_a.other W4 (Or.inr (slot_ne (Or.inr (hw _ (List.mem_of_getElem? (i := 23) rfl))) (Or.inr (hw _ (List.mem_of_getElem? (i := 21) rfl))) (by decide) (t := (.array (.object "java/lang/String"))) (t' := (.array .int)) (by decide) (by decide)))
  have F_postingStarts_a := F_postingStarts_a.other W4 (Or.inr (slot_ne (Or.inr (hw _ (List.mem_of_getElem? (i := 25) rfl))) (Or.inr (hw _ (List.mem_of_getElem? (i := 21) rfl))) (by decide) (t := (.array .int)) (t' := (.array .int)) (by decide) (by decide)))
  have F_postingDocuments_a := F_postingDocuments_a.other W4 (Or.inr (slot_ne (Or.inr (hw _ (List.mem_of_getElem? (i := 27) rfl))) (Or.inr (hw _ (List.mem_of_getElem? (i := 21) rfl))) (by decide) (t := (.array .int)) (t' := (.array .int)) (by decide) (by decide)))
  have F_postingFrequencies_a := F_postingFrequencies_a.other W4 (Or.inr (slot_ne (Or.inr (hw _ (List.mem_of_getElem? (i := 29) rfl))) (Or.inr (hw _ (List.mem_of_getElem? (i := 21) rfl))) (by decide) (t := (.array .int)) (t' := (.array .int)) (by decide) (by decide)))
  have F_tokenCount_a := F_tokenCount_a.other W4 (Or.inr (slot_ne (Or.inr (hw _ (List.mem_of_getElem? (i := 31) rfl))) (Or.inr (hw _ (List.mem_of_getElem? (i := 21) rfl))) (by decide) (t := .long) (t' := (.array .int)) (by decide) (by decide)))
  have K := K.wr W4 (Or.inl (by simp))
  have Ksz := K.1
  have Z0 := Nat.le_trans Z0 (Keep.of_wr W4).1
  show G T4 (mkF m 19 #[.val (.ref a), .val .null, .val .null, .val .null, .val .null, .val (.ref a5), .val (.ref a6), .val .null, .val (.long q8), .second] [])
  refine hs.go (fun _ kk_ => XS.aloadN X4.here hx rfl (hb hby d2_19) rfl rfl kk_) ?_
  show G T4 (mkF m 20 #[.val (.ref a), .val .null, .val .null, .val .null, .val .null, .val (.ref a5), .val (.ref a6), .val .null, .val (.long q8), .second] [(.ref a)])
  refine hs.go (fun _ kk_ => XS.aload X4.here hx rfl (hb hby d2_20) rfl rfl kk_) ?_
  show G T4 (mkF m 22 #[.val (.ref a), .val .null, .val .null, .val .null, .val .null, .val (.ref a5), .val (.ref a6), .val .null, .val (.long q8), .second] [.null, (.ref a)])
  refine rPutF hs X4 hx hZ (.array (.object "java/lang/String")) hown (host := "") (Or.inl (hw _ (List.mem_of_getElem? (i := 22) rfl))) Via.refl F_terms_a E_a g_a (Or.inr ⟨(hw _ (List.mem_of_getElem? (i := 23) rfl)), rfl, hnm⟩) (hw _ (List.mem_of_getElem? (i := 8) rfl)) (by decide) rfl rfl rfl rfl (hb hby d2_22) (fun T5 h5 X5 W5 F_terms_a => ?_)
  have E_a := E_a.wr W5
  have F_postingStarts_a := F_postingStarts_a.other W5 (Or.inr (slot_ne (Or.inr (hw _ (List.mem_of_getElem? (i := 25) rfl))) (Or.inr (hw _ (List.mem_of_getElem? (i := 23) rfl))) (by decide) (t := (.array .int)) (t' := (.array (.object "java/lang/String"))) (by decide) (by decide)))
  have F_postingDocuments_a := F_postingDocuments_a.other W5 (Or.inr (slot_ne (Or.inr (hw _ (List.mem_of_getElem? (i := 27) rfl))) (Or.inr (hw _ (List.mem_of_getElem? (i := 23) rfl))) (by decide) (t := (.array .int)) (t' := (.array (.object "java/lang/String"))) (by decide) (by decide)))
  have F_postingFrequencies_a := F_postingFrequencies_a.other W5 (Or.inr (slot_ne (Or.inr (hw _ (List.mem_of_getElem? (i := 29) rfl))) (Or.inr (hw _ (List.mem_of_getElem? (i := 23) rfl))) (by decide) (t := (.array .int)) (t' := (.array (.object "java/lang/String"))) (by decide) (by decide)))
  have F_tokenCount_a := F_tokenCount_a.other W5 (Or.inr (slot_ne (Or.inr (hw _ (List.mem_of_getElem? (i := 31) rfl))) (Or.inr (hw _ (List.mem_of_getElem? (i := 23) rfl))) (by decide) (t := .long) (t' := (.array (.object "java/lang/String"))) (by decide) (by decide)))
  have K := K.wr W5 (Or.inl (by simp))
  have Ksz := K.1
  have Z0 := Nat.le_trans Z0 (Keep.of_wr W5).1
  show G T5 (mkF m 25 #[.val (.ref a), .val .null, .val .null, .val .null, .val .null, .val (.ref a5), .val (.ref a6), .val .null, .val (.long q8), .second] [])
  refine hs.go (fun _ kk_ => XS.aloadN X5.here hx rfl (hb hby d2_25) rfl rfl kk_) ?_
  show G T5 (mkF m 26 #[.val (.ref a), .val .null, .val .null, .val .null, .val .null, .val (.ref a5), .val (.ref a6), .val .null, .val (.long q8), .second] [(.ref a)])
  refine hs.go (fun _ kk_ => XS.aload X5.here hx rfl (hb hby d2_26) rfl rfl kk_) ?_
  show G T5 (mkF m 28 #[.val (.ref a), .val .null, .val .null, .val .null, .val .null, .val (.ref a5), .val (.ref a6), .val .null, .val (.long q8), .second] [(.ref a5), (.ref a)])
  refine rPutF hs X5 hx hZ (.array .int) hown (host := "") (Or.inl (hw _ (List.mem_of_getElem? (i := 24) rfl))) Via.refl F_postingStarts_a E_a g_a (Or.inr ⟨(hw _ (List.mem_of_getElem? (i := 25) rfl)), rfl, hnm⟩) (hw _ (List.mem_of_getElem? (i := 8) rfl)) (by decide) rfl rfl rfl rfl (hb hby d2_28) (fun T6 h6 X6 W6 F_postingStarts_a => ?_)
  have E_a := E_a.wr W6
  have F_postingDocuments_a := F_postingDocuments_a.other W6 (Or.inr (slot_ne (Or.inr (hw _ (List.mem_of_getElem? (i := 27) rfl))) (Or.inr (hw _ (List.mem_of_getElem? (i := 25) rfl))) (by decide) (t := (.array .int)) (t' := (.array .int)) (by decide) (by decide)))
  have F_postingFrequencies_a := F_postingFrequencies_a.other W6 (Or.inr (slot_ne (Or.inr (hw _ (List.mem_of_getElem? (i := 29) rfl))) (Or.inr (hw _ (List.mem_of_getElem? (i := 25) rfl))) (by decide) (t := (.array .int)) (t' := (.array .int)) (by decide) (by decide)))
  have F_tokenCount_a := F_tokenCount_a.other W6 (Or.inr (slot_ne (Or.inr (hw _ (List.mem_of_getElem? (i := 31) rfl))) (Or.inr (hw _ (List.mem_of_getElem? (i := 25) rfl))) (by decide) (t := .long) (t' := (.array .int)) (by decide) (by decide)))
  have K := K.wr W6 (Or.inl (by simp))
  have Ksz := K.1
  have Z0 := Nat.le_trans Z0 (Keep.of_wr W6).1
  show G T6 (mkF m 31 #[.val (.ref a), .val .null, .val .null, .val .null, .val .null, .val (.ref a5), .val (.ref a6), .val .null, .val (.long q8), .second] [])
  refine hs.go (fun _ kk_ => XS.aloadN X6.here hx rfl (hb hby d2_31) rfl rfl kk_) ?_
  show G T6 (mkF m 32 #[.val (.ref a), .val .null, .val .null, .val .null, .val .null, .val (.ref a5), .val (.ref a6), .val .null, .val (.long q8), .second] [(.ref a)])
  refine hs.go (fun _ kk_ => XS.aload X6.here hx rfl (hb hby d2_32) rfl rfl kk_) ?_
  show G T6 (mkF m 34 #[.val (.ref a), .val .null, .val .null, .val .null, .val .null, .val (.ref a5), .val (.ref a6), .val .null, .val (.long q8), .second] [(.ref a6), (.ref a)])
  refine rPutF hs X6 hx hZ (.array .int) hown (host := "") (Or.inl (hw _ (List.mem_of_getElem? (i := 26) rfl))) Via.refl F_postingDocuments_a E_a g_a (Or.inr ⟨(hw _ (List.mem_of_getElem? (i := 27) rfl)), rfl, hnm⟩) (hw _ (List.mem_of_getElem? (i := 8) rfl)) (by decide) rfl rfl rfl rfl (hb hby d2_34) (fun T7 h7 X7 W7 F_postingDocuments_a => ?_)
  have E_a := E_a.wr W7
  have F_postingStarts_a := F_postingStarts_a.other W7 (Or.inr (slot_ne (Or.inr (hw _ (List.mem_of_getElem? (i := 25) rfl))) (Or.inr (hw _ (List.mem_of_getElem? (i := 27) rfl))) (by decide) (t := (.array .int)) (t' := (.array .int)) (by decide) (by decide)))
  have F_postingFrequencies_a := F_postingFrequencies_a.other W7 (Or.inr (slot_ne (Or.inr (hw _ (List.mem_of_getElem? (i := 29) rfl))) (Or.inr (hw _ (List.mem_of_getElem? (i := 27) rfl))) (by decide) (t := (.array .int)) (t' := (.array .int)) (by decide) (by decide)))
  have F_tokenCount_a := F_tokenCount_a.other W7 (Or.inr (slot_ne (Or.inr (hw _ (List.mem_of_getElem? (i := 31) rfl))) (Or.inr (hw _ (List.mem_of_getElem? (i := 27) rfl))) (by decide) (t := .long) (t' := (.array .int)) (by decide) (by decide)))
  have K := K.wr W7 (Or.inl (by simp))
  have Ksz := K.1
  have Z0 := Nat.le_trans Z0 (Keep.of_wr W7).1
  show G T7 (mkF m 37 #[.val (.ref a), .val .null, .val .null, .val .null, .val .null, .val (.ref a5), .val (.ref a6), .val .null, .val (.long q8), .second] [])
  refine hs.go (fun _ kk_ => XS.aloadN X7.here hx rfl (hb hby d2_37) rfl rfl kk_) ?_
  show G T7 (mkF m 38 #[.val (.ref a), .val .null, .val .null, .val .null, .val .null, .val (.ref a5), .val (.ref a6), .val .null, .val (.long q8), .second] [(.ref a)])
  refine hs.go (fun _ kk_ => XS.aload X7.here hx rfl (hb hby d2_38) rfl rfl kk_) ?_
  show G T7 (mkF m 40 #[.val (.ref a), .val .null, .val .null, .val .null, .val .null, .val (.ref a5), .val (.ref a6), .val .null, .val (.long q8), .second] [.null, (.ref a)])
  refine rPutF hs X7 hx hZ (.array .int) hown (host := "") (Or.inl (hw _ (List.mem_of_getElem? (i := 28) rfl))) Via.refl F_postingFrequencies_a E_a g_a (Or.inr ⟨(hw _ (List.mem_of_getElem? (i := 29) rfl)), rfl, hnm⟩) (hw _ (List.mem_of_getElem? (i := 8) rfl)) (by decide) rfl rfl rfl rfl (hb hby d2_40) (fun T8 h8 X8 W8 F_postingFrequencies_a => ?_)
  have E_a := E_a.wr W8
  have F_postingStarts_a := F_postingStarts_a.other W8 (Or.inr (slot_ne (Or.inr (hw _ (List.mem_of_getElem? (i := 25) rfl))) (Or.inr (hw _ (List.mem_of_getElem? (i := 29) rfl))) (by decide) (t := (.array .int)) (t' := (.array .int)) (by decide) (by decide)))
  have F_postingDocuments_a := F_postingDocuments_a.other W8 (Or.inr (slot_ne (Or.inr (hw _ (List.mem_of_getElem? (i := 27) rfl))) (Or.inr (hw _ (List.mem_of_getElem? (i := 29) rfl))) (by decide) (t := (.array .int)) (t' := (.array .int)) (by decide) (by decide)))
  have F_tokenCount_a := F_tokenCount_a.other W8 (Or.inr (slot_ne (Or.inr (hw _ (List.mem_of_getElem? (i := 31) rfl))) (Or.inr (hw _ (List.mem_of_getElem? (i := 29) rfl))) (by decide) (t := .long) (t' := (.array .int)) (by decide) (by decide)))
  have K := K.wr W8 (Or.inl (by simp))
  have Ksz := K.1
  have Z0 := Nat.le_trans Z0 (Keep.of_wr W8).1
  show G T8 (mkF m 43 #[.val (.ref a), .val .null, .val .null, .val .null, .val .null, .val (.ref a5), .val (.ref a6), .val .null, .val (.long q8), .second] [])
  refine hs.go (fun _ kk_ => XS.aloadN X8.here hx rfl (hb hby d2_43) rfl rfl kk_) ?_
  show G T8 (mkF m 44 #[.val (.ref a), .val .null, .val .null, .val .null, .val .null, .val (.ref a5), .val (.ref a6), .val .null, .val (.long q8), .second] [(.ref a)])
  refine hs.go (fun _ kk_ => XS.lload X8.here hx rfl (hb hby d2_44) rfl  kk_) ?_
  show G T8 (mkF m 46 #[.val (.ref a), .val .null, .val .null, .val .null, .val .null, .val (.ref a5), .val (.ref a6), .val .null, .val (.long q8), .second] [(.long q8), (.ref a)])
  refine rPutF hs X8 hx hZ .long hown (host := "") (Or.inl (hw _ (List.mem_of_getElem? (i := 30) rfl))) Via.refl F_tokenCount_a E_a g_a (Or.inr ⟨(hw _ (List.mem_of_getElem? (i := 31) rfl)), rfl, hnm⟩) (hw _ (List.mem_of_getElem? (i := 8) rfl)) (by decide) rfl rfl rfl rfl (hb hby d2_46) (fun T9 h9 X9 W9 F_tokenCount_a => ?_)
  have E_a := E_a.wr W9
  have F_postingStarts_a := F_postingStarts_a.other W9 (Or.inr (slot_ne (Or.inr (hw _ (List.mem_of_getElem? (i := 25) rfl))) (Or.inr (hw _ (List.mem_of_getElem? (i := 31) rfl))) (by decide) (t := (.array .int)) (t' := .long) (by decide) (by decide)))
  have F_postingDocuments_a := F_postingDocuments_a.other W9 (Or.inr (slot_ne (Or.inr (hw _ (List.mem_of_getElem? (i := 27) rfl))) (Or.inr (hw _ (List.mem_of_getElem? (i := 31) rfl))) (by decide) (t := (.array .int)) (t' := .long) (by decide) (by decide)))
  have K := K.wr W9 (Or.inl (by simp))
  have Ksz := K.1
  have Z0 := Nat.le_trans Z0 (Keep.of_wr W9).1
  show G T9 (mkF m 49 #[.val (.ref a), .val .null, .val .null, .val .null, .val .null, .val (.ref a5), .val (.ref a6), .val .null, .val (.long q8), .second] [])
  exact rRetV fin X9 hx (by decide) (by decide) hret (hb hby d2_49) ⟨rfl, K, E_a, F_postingStarts_a, F_postingDocuments_a⟩
theorem d5_0 : decode prog_14_method_16_code 0 = .ok (.aload_n 0, 1) := by decide +kernel
theorem d5_1 : decode prog_14_method_16_code 1 = .ok (.getfield 26, 3) := by decide +kernel
theorem d5_4 : decode prog_14_method_16_code 4 = .ok (.iload_n 1, 1) := by decide +kernel
theorem d5_5 : decode prog_14_method_16_code 5 = .ok (.iaload, 1) := by decide +kernel
theorem d5_6 : decode prog_14_method_16_code 6 = .ok (.ireturn, 1) := by decide +kernel
theorem pn_5 : plainFor (⟨"com/example/vector_space_ranker/vectorspaceranker/Index", "postingsStart", "(I)I"⟩ : MethodName) = true := plainFor_of_name (by first | (simp [plainName, overriddenIn]; done) | decide +kernel)
theorem ef_5 (m : MethodId) (x0 : Addr) (x1 : Int32) : entryFrame m #[(.ref x0), (.int x1)] 2 = mkF m 0 #[.val (.ref x0), .val (.int x1)] [] := by first | (simp [entryFrame, mkF, argsToLocals, Value.category]; done) | rfl
theorem hy_5 : ((⟨"com/example/vector_space_ranker/vectorspaceranker/Index", "postingsStart", "(I)I"⟩ : MethodName)).cls ≠ "java/lang/invoke/MethodHandle" ∧ ((⟨"com/example/vector_space_ranker/vectorspaceranker/Index", "postingsStart", "(I)I"⟩ : MethodName)).cls ≠ "java/lang/invoke/VarHandle" := by decide
set_option maxRecDepth 65536 in
set_option maxHeartbeats 40000000 in
theorem rm5 (l : Launch) (Z : State) (a0 : Array Value) (hw : ∀ d ∈ tables_1, d.before a0 Z = true) (ws : List Jvm.Cond) (a sa : Addr) (pp x z : Int32) (vs : List Value) (dv : Value) (kc : ClassId) (h0 : Heap) (n0 : Nat) (Z0 : n0 ≤ h0.size) (F_postingStarts_a : Fld Z h0 a "com/example/vector_space_ranker/vectorspaceranker/Index" "postingStarts" "[I" (.ref sa)) (V_sa : Arv Z h0 sa kc .int z vs dv) (hj : ¬ pp < 0 ∧ pp < z) (hv : vs.getD pp.toNatClampNeg dv = .int x) :
    Con l Z (⟨"com/example/vector_space_ranker/vectorspaceranker/Index", "postingsStart", "(I)I"⟩ : MethodName) prog_14_method_16_code 2 (some .int) ws ({ frames := 0, cells := 0, slots := 0, locals := 0 } : Room) #[(.ref a), (.int pp)] h0 n0 (fun v h => v = some (.int x) ∧ h = h0) := by
  refine Con.of pn_5 ?_
  intro G p e s m below meth c s₁ hs hx hby hml hown hnm hret hZ X0 fin
  have hml : c.maxLocals = 2 := hml
  have hown : s.vm.findClass "com/example/vector_space_ranker/vectorspaceranker/Index" = some m.cls := hown
  rw [ef_5]
  show G s₁ (mkF m 0 #[.val (.ref a), .val (.int pp)] [])
  refine hs.go (fun _ kk_ => XS.aloadN X0.here hx rfl (hb hby d5_0) rfl rfl kk_) ?_
  show G s₁ (mkF m 1 #[.val (.ref a), .val (.int pp)] [(.ref a)])
  refine rGetF hs X0 hx hZ hown (host := "") (Or.inl (hw _ (List.mem_of_getElem? (i := 24) rfl))) Via.refl F_postingStarts_a rfl rfl (hb hby d5_1) (fun T1 X1 => ?_)
  show G T1 (mkF m 4 #[.val (.ref a), .val (.int pp)] [(.ref sa)])
  refine hs.go (fun _ kk_ => XS.iloadN X1.here hx rfl (hb hby d5_4) rfl  kk_) ?_
  show G T1 (mkF m 5 #[.val (.ref a), .val (.int pp)] [(.int pp), (.ref sa)])
  refine rLdI hs X1 hx hZ V_sa hj (v := (.int x)) hv rfl rfl (hb hby d5_5) ?_
  show G T1 (mkF m 6 #[.val (.ref a), .val (.int pp)] [(.int x)])
  exact rRetI fin X1 hx (by decide) (by decide) hret (hb hby d5_6) ⟨rfl, rfl⟩
theorem d6_0 : decode prog_14_method_17_code 0 = .ok (.aload_n 0, 1) := by decide +kernel
theorem d6_1 : decode prog_14_method_17_code 1 = .ok (.getfield 26, 3) := by decide +kernel
theorem d6_4 : decode prog_14_method_17_code 4 = .ok (.iload_n 1, 1) := by decide +kernel
theorem d6_5 : decode prog_14_method_17_code 5 = .ok (.iconst 1, 1) := by decide +kernel
theorem d6_6 : decode prog_14_method_17_code 6 = .ok (.iadd, 1) := by decide +kernel
theorem d6_7 : decode prog_14_method_17_code 7 = .ok (.iaload, 1) := by decide +kernel
theorem d6_8 : decode prog_14_method_17_code 8 = .ok (.ireturn, 1) := by decide +kernel
theorem pn_6 : plainFor (⟨"com/example/vector_space_ranker/vectorspaceranker/Index", "postingsEnd", "(I)I"⟩ : MethodName) = true := plainFor_of_name (by first | (simp [plainName, overriddenIn]; done) | decide +kernel)
theorem ef_6 (m : MethodId) (x0 : Addr) (x1 : Int32) : entryFrame m #[(.ref x0), (.int x1)] 2 = mkF m 0 #[.val (.ref x0), .val (.int x1)] [] := by first | (simp [entryFrame, mkF, argsToLocals, Value.category]; done) | rfl
theorem hy_6 : ((⟨"com/example/vector_space_ranker/vectorspaceranker/Index", "postingsEnd", "(I)I"⟩ : MethodName)).cls ≠ "java/lang/invoke/MethodHandle" ∧ ((⟨"com/example/vector_space_ranker/vectorspaceranker/Index", "postingsEnd", "(I)I"⟩ : MethodName)).cls ≠ "java/lang/invoke/VarHandle" := by decide
set_option maxRecDepth 65536 in
set_option maxHeartbeats 40000000 in
theorem rm6 (l : Launch) (Z : State) (a0 : Array Value) (hw : ∀ d ∈ tables_1, d.before a0 Z = true) (ws : List Jvm.Cond) (a sa : Addr) (pp x z : Int32) (vs : List Value) (dv : Value) (kc : ClassId) (h0 : Heap) (n0 : Nat) (Z0 : n0 ≤ h0.size) (F_postingStarts_a : Fld Z h0 a "com/example/vector_space_ranker/vectorspaceranker/Index" "postingStarts" "[I" (.ref sa)) (V_sa : Arv Z h0 sa kc .int z vs dv) (hj : ¬ (pp + (1 : Int32)) < 0 ∧ (pp + (1 : Int32)) < z) (hv : vs.getD (pp + (1 : Int32)).toNatClampNeg dv = .int x) :
    Con l Z (⟨"com/example/vector_space_ranker/vectorspaceranker/Index", "postingsEnd", "(I)I"⟩ : MethodName) prog_14_method_17_code 2 (some .int) ws ({ frames := 0, cells := 0, slots := 0, locals := 0 } : Room) #[(.ref a), (.int pp)] h0 n0 (fun v h => v = some (.int x) ∧ h = h0) := by
  refine Con.of pn_6 ?_
  intro G p e s m below meth c s₁ hs hx hby hml hown hnm hret hZ X0 fin
  have hml : c.maxLocals = 2 := hml
  have hown : s.vm.findClass "com/example/vector_space_ranker/vectorspaceranker/Index" = some m.cls := hown
  rw [ef_6]
  show G s₁ (mkF m 0 #[.val (.ref a), .val (.int pp)] [])
  refine hs.go (fun _ kk_ => XS.aloadN X0.here hx rfl (hb hby d6_0) rfl rfl kk_) ?_
  show G s₁ (mkF m 1 #[.val (.ref a), .val (.int pp)] [(.ref a)])
  refine rGetF hs X0 hx hZ hown (host := "") (Or.inl (hw _ (List.mem_of_getElem? (i := 24) rfl))) Via.refl F_postingStarts_a rfl rfl (hb hby d6_1) (fun T1 X1 => ?_)
  show G T1 (mkF m 4 #[.val (.ref a), .val (.int pp)] [(.ref sa)])
  refine hs.go (fun _ kk_ => XS.iloadN X1.here hx rfl (hb hby d6_4) rfl  kk_) ?_
  show G T1 (mkF m 5 #[.val (.ref a), .val (.int pp)] [(.int pp), (.ref sa)])
  refine hs.go (fun _ kk_ => XS.iconst X1.here hx rfl (hb hby d6_5) kk_) ?_
  show G T1 (mkF m 6 #[.val (.ref a), .val (.int pp)] [(.int (1 : Int32)), (.int pp), (.ref sa)])
  refine hs.go (fun _ kk_ => XS.iadd X1.here hx rfl (hb hby d6_6) rfl kk_) ?_
  show G T1 (mkF m 7 #[.val (.ref a), .val (.int pp)] [(.int (pp + (1 : Int32))), (.ref sa)])
  refine rLdI hs X1 hx hZ V_sa hj (v := (.int x)) hv rfl rfl (hb hby d6_7) ?_
  show G T1 (mkF m 8 #[.val (.ref a), .val (.int pp)] [(.int x)])
  exact rRetI fin X1 hx (by decide) (by decide) hret (hb hby d6_8) ⟨rfl, rfl⟩
theorem d8_0 : decode jdk_65_method_30_code 0 = .ok (.iload_n 1, 1) := by decide +kernel
theorem d8_1 : decode jdk_65_method_30_code 1 = .ok (.iload_n 2, 1) := by decide +kernel
theorem d8_2 : decode jdk_65_method_30_code 2 = .ok (.if_icmp .le 44, 3) := by decide +kernel
theorem d8_46 : decode jdk_65_method_30_code 46 = .ok (.iload_n 1, 1) := by decide +kernel
theorem d8_47 : decode jdk_65_method_30_code 47 = .ok (.ifCond .ge 12, 3) := by decide +kernel
theorem d8_59 : decode jdk_65_method_30_code 59 = .ok (.iload_n 2, 1) := by decide +kernel
theorem d8_60 : decode jdk_65_method_30_code 60 = .ok (.iload_n 0, 1) := by decide +kernel
theorem d8_61 : decode jdk_65_method_30_code 61 = .ok (.if_icmp .le 12, 3) := by decide +kernel
theorem d8_73 : decode jdk_65_method_30_code 73 = .ok (.return_, 1) := by decide +kernel
theorem pn_8 : plainFor (⟨"java/util/Arrays", "rangeCheck", "(III)V"⟩ : MethodName) = true := plainFor_of_name (by first | (simp [plainName, overriddenIn]; done) | decide +kernel)
theorem ef_8 (m : MethodId) (x0 : Int32) (x1 : Int32) (x2 : Int32) : entryFrame m #[(.int x0), (.int x1), (.int x2)] 3 = mkF m 0 #[.val (.int x0), .val (.int x1), .val (.int x2)] [] := by first | (simp [entryFrame, mkF, argsToLocals, Value.category]; done) | rfl
theorem hy_8 : ((⟨"java/util/Arrays", "rangeCheck", "(III)V"⟩ : MethodName)).cls ≠ "java/lang/invoke/MethodHandle" ∧ ((⟨"java/util/Arrays", "rangeCheck", "(III)V"⟩ : MethodName)).cls ≠ "java/lang/invoke/VarHandle" := by decide
set_option maxRecDepth 65536 in
set_option maxHeartbeats 40000000 in
theorem rm8 (l : Launch) (Z : State) (a0 : Array Value) (hw : ∀ d ∈ tables_1, d.before a0 Z = true) (ws : List Jvm.Cond) (x y z : Int32) (h0 : Heap) (n0 : Nat) (Z0 : n0 ≤ h0.size) (h1 : ¬ (z < y)) (h2 : ¬ (y < (0 : Int32))) (h3 : ¬ (x < z)) :
    Con l Z (⟨"java/util/Arrays", "rangeCheck", "(III)V"⟩ : MethodName) jdk_65_method_30_code 3 none ws ({ frames := 0, cells := 0, slots := 0, locals := 0 } : Room) #[(.int x), (.int y), (.int z)] h0 n0 (fun v h => v = none ∧ h = h0) := by
  refine Con.of pn_8 ?_
  intro G p e s m below meth c s₁ hs hx hby hml hown hnm hret hZ X0 fin
  have hml : c.maxLocals = 3 := hml
  have hown : s.vm.findClass "java/util/Arrays" = some m.cls := hown
  rw [ef_8]
  show G s₁ (mkF m 0 #[.val (.int x), .val (.int y), .val (.int z)] [])
  refine hs.go (fun _ kk_ => XS.iloadN X0.here hx rfl (hb hby d8_0) rfl  kk_) ?_
  show G s₁ (mkF m 1 #[.val (.int x), .val (.int y), .val (.int z)] [(.int y)])
  refine hs.go (fun _ kk_ => XS.iloadN X0.here hx rfl (hb hby d8_1) rfl  kk_) ?_
  show G s₁ (mkF m 2 #[.val (.int x), .val (.int y), .val (.int z)] [(.int z), (.int y)])
  refine hs.go (fun _ kk_ => XS.icmpYes X0.here hx rfl (pc0 := 2) (pc' := 46) rfl (hb hby d8_2) rfl (flt (h1 : ¬ (z < y))).2.2.2 (by decide) (by decide) kk_) ?_
  show G s₁ (mkF m 46 #[.val (.int x), .val (.int y), .val (.int z)] [])
  refine hs.go (fun _ kk_ => XS.iloadN X0.here hx rfl (hb hby d8_46) rfl  kk_) ?_
  show G s₁ (mkF m 47 #[.val (.int x), .val (.int y), .val (.int z)] [(.int y)])
  refine hs.go (fun _ kk_ => XS.ifYes X0.here hx rfl (pc0 := 47) (pc' := 59) rfl (hb hby d8_47) rfl ((if0 _ _).trans (flt (h2 : ¬ (y < (0 : Int32)))).2.1) (by decide) (by decide) kk_) ?_
  show G s₁ (mkF m 59 #[.val (.int x), .val (.int y), .val (.int z)] [])
  refine hs.go (fun _ kk_ => XS.iloadN X0.here hx rfl (hb hby d8_59) rfl  kk_) ?_
  show G s₁ (mkF m 60 #[.val (.int x), .val (.int y), .val (.int z)] [(.int z)])
  refine hs.go (fun _ kk_ => XS.iloadN X0.here hx rfl (hb hby d8_60) rfl  kk_) ?_
  show G s₁ (mkF m 61 #[.val (.int x), .val (.int y), .val (.int z)] [(.int x), (.int z)])
  refine hs.go (fun _ kk_ => XS.icmpYes X0.here hx rfl (pc0 := 61) (pc' := 73) rfl (hb hby d8_61) rfl (flt (h3 : ¬ (x < z))).2.2.2 (by decide) (by decide) kk_) ?_
  show G s₁ (mkF m 73 #[.val (.int x), .val (.int y), .val (.int z)] [])
  exact rRetV fin X0 hx (by decide) (by decide) hret (hb hby d8_73) ⟨rfl, rfl⟩

theorem own_gm (us : List Int32) (t : Nat) : (us.map Value.int).getD t (.int (0 : Int32)) = .int (us.getD t 0) := by
  simp only [List.getD, List.getElem?_map]
  cases us[t]? <;> rfl
def Srt (ds : List Int32) (n m : Nat) : Prop := ∀ t u : Nat, n ≤ t → t < u → u < m → (ds.getD t 0).toInt < (ds.getD u 0).toInt
def Inv (ds : List Int32) (n m : Nat) (key low high : Int32) : Prop := ∀ t : Nat, n ≤ t → t < m → ds.getD t 0 = key → low.toInt ≤ t ∧ (t : Int) ≤ high.toInt
def Fnd (ds : List Int32) (n m : Nat) (key r : Int32) : Prop := (∃ t : Nat, n ≤ t ∧ t < m ∧ r.toInt = t ∧ ds.getD t 0 = key) ∨ (r.toInt < 0 ∧ ∀ t : Nat, n ≤ t → t < m → ¬ ds.getD t 0 = key)
theorem own_mid {low high md : Int32} (h0 : 0 ≤ low.toInt) (h1 : low.toInt ≤ high.toInt) (h2 : high.toInt ≤ 6) (h : md = (((low + high).toUInt32 >>> ((1 : Int32) &&& 31).toUInt32).toInt32)) : low.toInt ≤ md.toInt ∧ md.toInt ≤ high.toInt := by
  have a := c_iadd low high
  have r := rng32 (low + high)
  have u : (((low + high).toUInt32 >>> ((1 : Int32) &&& 31).toUInt32).toInt32).toInt = ((low + high).toInt % 4294967296) / 2 := c_iushr (low + high) 1 1 (by decide) (by decide)
  rw [h]; omega
theorem own_right {ds : List Int32} {n m : Nat} {key low high md : Int32} (hs : Srt ds n m) (hm : low.toInt ≤ md.toInt ∧ md.toInt ≤ high.toInt) (h0 : (n : Int) ≤ low.toInt) (h1 : high.toInt < m) (inv : Inv ds n m key low high) (c : (ds.getD md.toNatClampNeg 0) < key) : Inv ds n m key (md + (1 : Int32)) high := by
  intro t ht1 ht2 hk
  have i := inv t ht1 ht2 hk
  have q := c_iadd md 1
  have r := rng32 (md + 1)
  have rm := rng32 md
  have k1 : (1 : Int32).toInt = 1 := rfl
  have e : md.toNatClampNeg = md.toInt.toNat := rfl
  rw [lt32, e] at c
  have hk' := congrArg Int32.toInt hk
  refine ⟨?_, i.2⟩
  rcases Nat.lt_trichotomy t md.toInt.toNat with z | z | z
  · have s := hs t md.toInt.toNat ht1 z (by omega); omega
  · rw [z] at hk'; omega
  · omega
theorem own_left {ds : List Int32} {n m : Nat} {key low high md : Int32} (hs : Srt ds n m) (hm : low.toInt ≤ md.toInt ∧ md.toInt ≤ high.toInt) (h0 : (n : Int) ≤ low.toInt) (h1 : high.toInt < m) (inv : Inv ds n m key low high) (c : key < (ds.getD md.toNatClampNeg 0)) : Inv ds n m key low (md - (1 : Int32)) := by
  intro t ht1 ht2 hk
  have i := inv t ht1 ht2 hk
  have q := c_isub md 1
  have r := rng32 (md - 1)
  have rm := rng32 md
  have k1 : (1 : Int32).toInt = 1 := rfl
  have e : md.toNatClampNeg = md.toInt.toNat := rfl
  rw [lt32, e] at c
  have hk' := congrArg Int32.toInt hk
  refine ⟨i.1, ?_⟩
  rcases Nat.lt_trichotomy t md.toInt.toNat with z | z | z
  · omega
  · rw [z] at hk'; omega
  · have s := hs md.toInt.toNat t (by omega) z ht2; omega
theorem own_hit {ds : List Int32} {n m : Nat} {key low high md : Int32} (hm : low.toInt ≤ md.toInt ∧ md.toInt ≤ high.toInt) (h0 : (n : Int) ≤ low.toInt) (h1 : high.toInt < m) (c1 : ¬ (ds.getD md.toNatClampNeg 0) < key) (c2 : ¬ key < (ds.getD md.toNatClampNeg 0)) : Fnd ds n m key md := by
  have e : md.toNatClampNeg = md.toInt.toNat := rfl
  rw [lt32, e] at c1 c2
  exact Or.inl ⟨md.toInt.toNat, by omega, by omega, by omega, eq32 (by omega)⟩
theorem own_out {ds : List Int32} {n m : Nat} {key low high : Int32} (h0 : 0 ≤ low.toInt) (h6 : low.toInt ≤ 7) (inv : Inv ds n m key low high) (c : high < low) : Fnd ds n m key (-(low + (1 : Int32))) := by
  have q := c_iadd low 1
  have r := rng32 (low + 1)
  have k1 : (1 : Int32).toInt = 1 := rfl
  have g := c_ineg (low + 1)
  have rg := rng32 (-(low + 1))
  rw [lt32] at c
  exact Or.inr ⟨by omega, fun t h1 h2 h3 => by have i := inv t h1 h2 h3; omega⟩

theorem d9_0 : decode jdk_65_method_59_code 0 = .ok (.iload_n 1, 1) := by decide +kernel
theorem d9_1 : decode jdk_65_method_59_code 1 = .ok (.istore 4, 2) := by decide +kernel
theorem d9_3 : decode jdk_65_method_59_code 3 = .ok (.iload_n 2, 1) := by decide +kernel
theorem d9_4 : decode jdk_65_method_59_code 4 = .ok (.iconst 1, 1) := by decide +kernel
theorem d9_5 : decode jdk_65_method_59_code 5 = .ok (.isub, 1) := by decide +kernel
theorem d9_6 : decode jdk_65_method_59_code 6 = .ok (.istore 5, 2) := by decide +kernel
theorem d9_8 : decode jdk_65_method_59_code 8 = .ok (.iload 4, 2) := by decide +kernel
theorem d9_10 : decode jdk_65_method_59_code 10 = .ok (.iload 5, 2) := by decide +kernel
theorem d9_12 : decode jdk_65_method_59_code 12 = .ok (.if_icmp .gt 54, 3) := by decide +kernel
theorem d9_15 : decode jdk_65_method_59_code 15 = .ok (.iload 4, 2) := by decide +kernel
theorem d9_17 : decode jdk_65_method_59_code 17 = .ok (.iload 5, 2) := by decide +kernel
theorem d9_19 : decode jdk_65_method_59_code 19 = .ok (.iadd, 1) := by decide +kernel
theorem d9_20 : decode jdk_65_method_59_code 20 = .ok (.iconst 1, 1) := by decide +kernel
theorem d9_21 : decode jdk_65_method_59_code 21 = .ok (.iushr, 1) := by decide +kernel
theorem d9_22 : decode jdk_65_method_59_code 22 = .ok (.istore 6, 2) := by decide +kernel
theorem d9_24 : decode jdk_65_method_59_code 24 = .ok (.aload_n 0, 1) := by decide +kernel
theorem d9_25 : decode jdk_65_method_59_code 25 = .ok (.iload 6, 2) := by decide +kernel
theorem d9_27 : decode jdk_65_method_59_code 27 = .ok (.iaload, 1) := by decide +kernel
theorem d9_28 : decode jdk_65_method_59_code 28 = .ok (.istore 7, 2) := by decide +kernel
theorem d9_30 : decode jdk_65_method_59_code 30 = .ok (.iload 7, 2) := by decide +kernel
theorem d9_32 : decode jdk_65_method_59_code 32 = .ok (.iload_n 3, 1) := by decide +kernel
theorem d9_33 : decode jdk_65_method_59_code 33 = .ok (.if_icmp .ge 12, 3) := by decide +kernel
theorem d9_36 : decode jdk_65_method_59_code 36 = .ok (.iload 6, 2) := by decide +kernel
theorem d9_38 : decode jdk_65_method_59_code 38 = .ok (.iconst 1, 1) := by decide +kernel
theorem d9_39 : decode jdk_65_method_59_code 39 = .ok (.iadd, 1) := by decide +kernel
theorem d9_40 : decode jdk_65_method_59_code 40 = .ok (.istore 4, 2) := by decide +kernel
theorem d9_42 : decode jdk_65_method_59_code 42 = .ok (.goto 21, 3) := by decide +kernel
theorem d9_45 : decode jdk_65_method_59_code 45 = .ok (.iload 7, 2) := by decide +kernel
theorem d9_47 : decode jdk_65_method_59_code 47 = .ok (.iload_n 3, 1) := by decide +kernel
theorem d9_48 : decode jdk_65_method_59_code 48 = .ok (.if_icmp .le 12, 3) := by decide +kernel
theorem d9_51 : decode jdk_65_method_59_code 51 = .ok (.iload 6, 2) := by decide +kernel
theorem d9_53 : decode jdk_65_method_59_code 53 = .ok (.iconst 1, 1) := by decide +kernel
theorem d9_54 : decode jdk_65_method_59_code 54 = .ok (.isub, 1) := by decide +kernel
theorem d9_55 : decode jdk_65_method_59_code 55 = .ok (.istore 5, 2) := by decide +kernel
theorem d9_57 : decode jdk_65_method_59_code 57 = .ok (.goto 6, 3) := by decide +kernel
theorem d9_60 : decode jdk_65_method_59_code 60 = .ok (.iload 6, 2) := by decide +kernel
theorem d9_62 : decode jdk_65_method_59_code 62 = .ok (.ireturn, 1) := by decide +kernel
theorem d9_63 : decode jdk_65_method_59_code 63 = .ok (.goto (-55), 3) := by decide +kernel
theorem d9_66 : decode jdk_65_method_59_code 66 = .ok (.iload 4, 2) := by decide +kernel
theorem d9_68 : decode jdk_65_method_59_code 68 = .ok (.iconst 1, 1) := by decide +kernel
theorem d9_69 : decode jdk_65_method_59_code 69 = .ok (.iadd, 1) := by decide +kernel
theorem d9_70 : decode jdk_65_method_59_code 70 = .ok (.ineg, 1) := by decide +kernel
theorem d9_71 : decode jdk_65_method_59_code 71 = .ok (.ireturn, 1) := by decide +kernel
theorem pn_9 : plainFor (⟨"java/util/Arrays", "binarySearch0", "([IIII)I"⟩ : MethodName) = true := plainFor_of_name (by first | (simp [plainName, overriddenIn]; done) | decide +kernel)
theorem ef_9 (m : MethodId) (x0 : Addr) (x1 : Int32) (x2 : Int32) (x3 : Int32) : entryFrame m #[(.ref x0), (.int x1), (.int x2), (.int x3)] 8 = mkF m 0 #[.val (.ref x0), .val (.int x1), .val (.int x2), .val (.int x3), .unset, .unset, .unset, .unset] [] := by first | (simp [entryFrame, mkF, argsToLocals, Value.category]; done) | rfl
theorem hy_9 : ((⟨"java/util/Arrays", "binarySearch0", "([IIII)I"⟩ : MethodName)).cls ≠ "java/lang/invoke/MethodHandle" ∧ ((⟨"java/util/Arrays", "binarySearch0", "([IIII)I"⟩ : MethodName)).cls ≠ "java/lang/invoke/VarHandle" := by decide
set_option maxRecDepth 65536 in
set_option maxHeartbeats 40000000 in
theorem rm9 (l : Launch) (Z : State) (a0 : Array Value) (hw : ∀ d ∈ tables_1, d.before a0 Z = true) (ws : List Jvm.Cond) (a : Addr) (fr to key : Int32) (ds : List Int32) (kc : ClassId) (n mm : Nat) (h0 : Heap) (n0 : Nat) (Z0 : n0 ≤ h0.size) (V_a : Arv Z h0 a kc .int (6 : Int32) (ds.map Value.int) (.int (0 : Int32))) (hn : fr.toInt = n) (hmm : to.toInt = mm) (hle : n ≤ mm) (h6 : mm ≤ 6) (hs1 : Srt ds n mm) :
    Con l Z (⟨"java/util/Arrays", "binarySearch0", "([IIII)I"⟩ : MethodName) jdk_65_method_59_code 8 (some .int) ws ({ frames := 0, cells := 0, slots := 0, locals := 0 } : Room) #[(.ref a), (.int fr), (.int to), (.int key)] h0 n0 (fun v h => ∃ r : Int32, v = some (.int r) ∧ Fnd ds n mm key r ∧ h = h0) := by
  refine Con.of pn_9 ?_
  intro G p e s m below meth c s₁ hs hx hby hml hown hnm hret hZ X0 fin
  have hml : c.maxLocals = 8 := hml
  have hown : s.vm.findClass "java/util/Arrays" = some m.cls := hown
  rw [ef_9]
  show G s₁ (mkF m 0 #[.val (.ref a), .val (.int fr), .val (.int to), .val (.int key), .unset, .unset, .unset, .unset] [])
  refine hs.go (fun _ kk_ => XS.iloadN X0.here hx rfl (hb hby d9_0) rfl  kk_) ?_
  show G s₁ (mkF m 1 #[.val (.ref a), .val (.int fr), .val (.int to), .val (.int key), .unset, .unset, .unset, .unset] [(.int fr)])
  refine hs.go (fun _ kk_ => XS.istore X0.here hx rfl (hb hby d9_1) rfl (l' := #[.val (.ref a), .val (.int fr), .val (.int to), .val (.int key), .val (.int fr), .unset, .unset, .unset]) rfl kk_) ?_
  show G s₁ (mkF m 3 #[.val (.ref a), .val (.int fr), .val (.int to), .val (.int key), .val (.int fr), .unset, .unset, .unset] [])
  refine hs.go (fun _ kk_ => XS.iloadN X0.here hx rfl (hb hby d9_3) rfl  kk_) ?_
  show G s₁ (mkF m 4 #[.val (.ref a), .val (.int fr), .val (.int to), .val (.int key), .val (.int fr), .unset, .unset, .unset] [(.int to)])
  refine hs.go (fun _ kk_ => XS.iconst X0.here hx rfl (hb hby d9_4) kk_) ?_
  show G s₁ (mkF m 5 #[.val (.ref a), .val (.int fr), .val (.int to), .val (.int key), .val (.int fr), .unset, .unset, .unset] [(.int (1 : Int32)), (.int to)])
  refine hs.go (fun _ kk_ => XS.isub X0.here hx rfl (hb hby d9_5) rfl kk_) ?_
  show G s₁ (mkF m 6 #[.val (.ref a), .val (.int fr), .val (.int to), .val (.int key), .val (.int fr), .unset, .unset, .unset] [(.int (to - (1 : Int32)))])
  refine hs.go (fun _ kk_ => XS.istore X0.here hx rfl (hb hby d9_6) rfl (l' := #[.val (.ref a), .val (.int fr), .val (.int to), .val (.int key), .val (.int fr), .val (.int (to - (1 : Int32))), .unset, .unset]) rfl kk_) ?_
  show G s₁ (mkF m 8 #[.val (.ref a), .val (.int fr), .val (.int to), .val (.int key), .val (.int fr), .val (.int (to - (1 : Int32))), .unset, .unset] [])
  have loop : ∀ (k : Nat) (low high : Int32) (o6 o7 : Slot), high.toInt + 1 - low.toInt ≤ k → (n : Int) ≤ low.toInt → low.toInt ≤ high.toInt + 1 → high.toInt < mm → Inv ds n mm key low high → ((o6 = .unset ∧ o7 = .unset) ∨ ∃ w6 w7, o6 = .val (.int w6) ∧ o7 = .val (.int w7)) → G s₁ (mkF m 8 #[.val (.ref a), .val (.int fr), .val (.int to), .val (.int key), .val (.int low), .val (.int high), o6, o7] []) := by
    intro k
    induction k with
    | zero =>
      intro low high o6 o7 hk h0 h1 h2 inv ho
      show G s₁ (mkF m 8 #[.val (.ref a), .val (.int fr), .val (.int to), .val (.int key), .val (.int low), .val (.int high), o6, o7] [])
      refine hs.go (fun _ kk_ => XS.iload X0.here hx rfl (hb hby d9_8) rfl  kk_) ?_
      show G s₁ (mkF m 10 #[.val (.ref a), .val (.int fr), .val (.int to), .val (.int key), .val (.int low), .val (.int high), o6, o7] [(.int low)])
      refine hs.go (fun _ kk_ => XS.iload X0.here hx rfl (hb hby d9_10) rfl  kk_) ?_
      show G s₁ (mkF m 12 #[.val (.ref a), .val (.int fr), .val (.int to), .val (.int key), .val (.int low), .val (.int high), o6, o7] [(.int high), (.int low)])
      refine hs.go (fun _ kk_ => XS.icmpYes X0.here hx rfl (pc0 := 12) (pc' := 66) rfl (hb hby d9_12) rfl (tlt ((by rw [lt32]; omega) : high < low)).2.2.1 (by decide) (by decide) kk_) ?_
      show G s₁ (mkF m 66 #[.val (.ref a), .val (.int fr), .val (.int to), .val (.int key), .val (.int low), .val (.int high), o6, o7] [])
      refine hs.go (fun _ kk_ => XS.iload X0.here hx rfl (hb hby d9_66) rfl  kk_) ?_
      show G s₁ (mkF m 68 #[.val (.ref a), .val (.int fr), .val (.int to), .val (.int key), .val (.int low), .val (.int high), o6, o7] [(.int low)])
      refine hs.go (fun _ kk_ => XS.iconst X0.here hx rfl (hb hby d9_68) kk_) ?_
      show G s₁ (mkF m 69 #[.val (.ref a), .val (.int fr), .val (.int to), .val (.int key), .val (.int low), .val (.int high), o6, o7] [(.int (1 : Int32)), (.int low)])
      refine hs.go (fun _ kk_ => XS.iadd X0.here hx rfl (hb hby d9_69) rfl kk_) ?_
      show G s₁ (mkF m 70 #[.val (.ref a), .val (.int fr), .val (.int to), .val (.int key), .val (.int low), .val (.int high), o6, o7] [(.int (low + (1 : Int32)))])
      refine hs.go (fun _ kk_ => XS.ineg X0.here hx rfl (hb hby d9_70) rfl kk_) ?_
      show G s₁ (mkF m 71 #[.val (.ref a), .val (.int fr), .val (.int to), .val (.int key), .val (.int low), .val (.int high), o6, o7] [(.int (-(low + (1 : Int32))))])
      exact rRetI fin X0 hx (by decide) (by decide) hret (hb hby d9_71) ⟨_, rfl, own_out (by omega) (by omega) inv (by rw [lt32]; omega), rfl⟩
    | succ k ih =>
      intro low high o6 o7 hk h0 h1 h2 inv ho
      rcases ho with ⟨rfl, rfl⟩ | ⟨w6, w7, rfl, rfl⟩
      · show G s₁ (mkF m 8 #[.val (.ref a), .val (.int fr), .val (.int to), .val (.int key), .val (.int low), .val (.int high), .unset, .unset] [])
        refine hs.go (fun _ kk_ => XS.iload X0.here hx rfl (hb hby d9_8) rfl  kk_) ?_
        show G s₁ (mkF m 10 #[.val (.ref a), .val (.int fr), .val (.int to), .val (.int key), .val (.int low), .val (.int high), .unset, .unset] [(.int low)])
        refine hs.go (fun _ kk_ => XS.iload X0.here hx rfl (hb hby d9_10) rfl  kk_) ?_
        show G s₁ (mkF m 12 #[.val (.ref a), .val (.int fr), .val (.int to), .val (.int key), .val (.int low), .val (.int high), .unset, .unset] [(.int high), (.int low)])
        by_cases c12 : high < low
        · refine hs.go (fun _ kk_ => XS.icmpYes X0.here hx rfl (pc0 := 12) (pc' := 66) rfl (hb hby d9_12) rfl (tlt c12).2.2.1 (by decide) (by decide) kk_) ?_
          show G s₁ (mkF m 66 #[.val (.ref a), .val (.int fr), .val (.int to), .val (.int key), .val (.int low), .val (.int high), .unset, .unset] [])
          refine hs.go (fun _ kk_ => XS.iload X0.here hx rfl (hb hby d9_66) rfl  kk_) ?_
          show G s₁ (mkF m 68 #[.val (.ref a), .val (.int fr), .val (.int to), .val (.int key), .val (.int low), .val (.int high), .unset, .unset] [(.int low)])
          refine hs.go (fun _ kk_ => XS.iconst X0.here hx rfl (hb hby d9_68) kk_) ?_
          show G s₁ (mkF m 69 #[.val (.ref a), .val (.int fr), .val (.int to), .val (.int key), .val (.int low), .val (.int high), .unset, .unset] [(.int (1 : Int32)), (.int low)])
          refine hs.go (fun _ kk_ => XS.iadd X0.here hx rfl (hb hby d9_69) rfl kk_) ?_
          show G s₁ (mkF m 70 #[.val (.ref a), .val (.int fr), .val (.int to), .val (.int key), .val (.int low), .val (.int high), .unset, .unset] [(.int (low + (1 : Int32)))])
          refine hs.go (fun _ kk_ => XS.ineg X0.here hx rfl (hb hby d9_70) rfl kk_) ?_
          show G s₁ (mkF m 71 #[.val (.ref a), .val (.int fr), .val (.int to), .val (.int key), .val (.int low), .val (.int high), .unset, .unset] [(.int (-(low + (1 : Int32))))])
          exact rRetI fin X0 hx (by decide) (by decide) hret (hb hby d9_71) ⟨_, rfl, own_out (by omega) (by omega) inv c12, rfl⟩
        · refine hs.go (fun _ kk_ => XS.icmpNo X0.here hx rfl (hb hby d9_12) rfl (flt c12).2.2.1 kk_) ?_
          show G s₁ (mkF m 15 #[.val (.ref a), .val (.int fr), .val (.int to), .val (.int key), .val (.int low), .val (.int high), .unset, .unset] [])
          refine hs.go (fun _ kk_ => XS.iload X0.here hx rfl (hb hby d9_15) rfl  kk_) ?_
          show G s₁ (mkF m 17 #[.val (.ref a), .val (.int fr), .val (.int to), .val (.int key), .val (.int low), .val (.int high), .unset, .unset] [(.int low)])
          refine hs.go (fun _ kk_ => XS.iload X0.here hx rfl (hb hby d9_17) rfl  kk_) ?_
          show G s₁ (mkF m 19 #[.val (.ref a), .val (.int fr), .val (.int to), .val (.int key), .val (.int low), .val (.int high), .unset, .unset] [(.int high), (.int low)])
          refine hs.go (fun _ kk_ => XS.iadd X0.here hx rfl (hb hby d9_19) rfl kk_) ?_
          show G s₁ (mkF m 20 #[.val (.ref a), .val (.int fr), .val (.int to), .val (.int key), .val (.int low), .val (.int high), .unset, .unset] [(.int (low + high))])
          refine hs.go (fun _ kk_ => XS.iconst X0.here hx rfl (hb hby d9_20) kk_) ?_
          show G s₁ (mkF m 21 #[.val (.ref a), .val (.int fr), .val (.int to), .val (.int key), .val (.int low), .val (.int high), .unset, .unset] [(.int (1 : Int32)), (.int (low + high))])
          refine hs.go (fun _ kk_ => XS.iushr X0.here hx rfl (hb hby d9_21) rfl kk_) ?_
          show G s₁ (mkF m 22 #[.val (.ref a), .val (.int fr), .val (.int to), .val (.int key), .val (.int low), .val (.int high), .unset, .unset] [(.int (((low + high).toUInt32 >>> ((1 : Int32) &&& 31).toUInt32).toInt32))])
          refine nameIt (P := fun zz_ : Int32 => G s₁ (mkF m 22 #[.val (.ref a), .val (.int fr), .val (.int to), .val (.int key), .val (.int low), .val (.int high), .unset, .unset] [(.int zz_)])) (((low + high).toUInt32 >>> ((1 : Int32) &&& 31).toUInt32).toInt32) (fun md hmd => ?_)
          show G s₁ (mkF m 22 #[.val (.ref a), .val (.int fr), .val (.int to), .val (.int key), .val (.int low), .val (.int high), .unset, .unset] [(.int md)])
          refine hs.go (fun _ kk_ => XS.istore X0.here hx rfl (hb hby d9_22) rfl (l' := #[.val (.ref a), .val (.int fr), .val (.int to), .val (.int key), .val (.int low), .val (.int high), .val (.int md), .unset]) rfl kk_) ?_
          show G s₁ (mkF m 24 #[.val (.ref a), .val (.int fr), .val (.int to), .val (.int key), .val (.int low), .val (.int high), .val (.int md), .unset] [])
          have hm := own_mid (by omega) (by rw [lt32] at c12; omega) (by omega) hmd
          refine hs.go (fun _ kk_ => XS.aloadN X0.here hx rfl (hb hby d9_24) rfl rfl kk_) ?_
          show G s₁ (mkF m 25 #[.val (.ref a), .val (.int fr), .val (.int to), .val (.int key), .val (.int low), .val (.int high), .val (.int md), .unset] [(.ref a)])
          refine hs.go (fun _ kk_ => XS.iload X0.here hx rfl (hb hby d9_25) rfl  kk_) ?_
          show G s₁ (mkF m 27 #[.val (.ref a), .val (.int fr), .val (.int to), .val (.int key), .val (.int low), .val (.int high), .val (.int md), .unset] [(.int md), (.ref a)])
          refine rLdI hs X0 hx hZ V_a ⟨by rw [lt32]; have k0 : (0 : Int32).toInt = 0 := rfl; omega, by rw [lt32]; have k6 : (6 : Int32).toInt = 6 := rfl; omega⟩ (v := (.int (ds.getD md.toNatClampNeg 0))) (own_gm ds _) rfl rfl (hb hby d9_27) ?_
          show G s₁ (mkF m 28 #[.val (.ref a), .val (.int fr), .val (.int to), .val (.int key), .val (.int low), .val (.int high), .val (.int md), .unset] [(.int (ds.getD md.toNatClampNeg 0))])
          refine hs.go (fun _ kk_ => XS.istore X0.here hx rfl (hb hby d9_28) rfl (l' := #[.val (.ref a), .val (.int fr), .val (.int to), .val (.int key), .val (.int low), .val (.int high), .val (.int md), .val (.int (ds.getD md.toNatClampNeg 0))]) rfl kk_) ?_
          show G s₁ (mkF m 30 #[.val (.ref a), .val (.int fr), .val (.int to), .val (.int key), .val (.int low), .val (.int high), .val (.int md), .val (.int (ds.getD md.toNatClampNeg 0))] [])
          refine hs.go (fun _ kk_ => XS.iload X0.here hx rfl (hb hby d9_30) rfl  kk_) ?_
          show G s₁ (mkF m 32 #[.val (.ref a), .val (.int fr), .val (.int to), .val (.int key), .val (.int low), .val (.int high), .val (.int md), .val (.int (ds.getD md.toNatClampNeg 0))] [(.int (ds.getD md.toNatClampNeg 0))])
          refine hs.go (fun _ kk_ => XS.iloadN X0.here hx rfl (hb hby d9_32) rfl  kk_) ?_
          show G s₁ (mkF m 33 #[.val (.ref a), .val (.int fr), .val (.int to), .val (.int key), .val (.int low), .val (.int high), .val (.int md), .val (.int (ds.getD md.toNatClampNeg 0))] [(.int key), (.int (ds.getD md.toNatClampNeg 0))])
          by_cases c33 : (ds.getD md.toNatClampNeg 0) < key
          · refine hs.go (fun _ kk_ => XS.icmpNo X0.here hx rfl (hb hby d9_33) rfl (tlt c33).2.1 kk_) ?_
            show G s₁ (mkF m 36 #[.val (.ref a), .val (.int fr), .val (.int to), .val (.int key), .val (.int low), .val (.int high), .val (.int md), .val (.int (ds.getD md.toNatClampNeg 0))] [])
            refine hs.go (fun _ kk_ => XS.iload X0.here hx rfl (hb hby d9_36) rfl  kk_) ?_
            show G s₁ (mkF m 38 #[.val (.ref a), .val (.int fr), .val (.int to), .val (.int key), .val (.int low), .val (.int high), .val (.int md), .val (.int (ds.getD md.toNatClampNeg 0))] [(.int md)])
            refine hs.go (fun _ kk_ => XS.iconst X0.here hx rfl (hb hby d9_38) kk_) ?_
            show G s₁ (mkF m 39 #[.val (.ref a), .val (.int fr), .val (.int to), .val (.int key), .val (.int low), .val (.int high), .val (.int md), .val (.int (ds.getD md.toNatClampNeg 0))] [(.int (1 : Int32)), (.int md)])
            refine hs.go (fun _ kk_ => XS.iadd X0.here hx rfl (hb hby d9_39) rfl kk_) ?_
            show G s₁ (mkF m 40 #[.val (.ref a), .val (.int fr), .val (.int to), .val (.int key), .val (.int low), .val (.int high), .val (.int md), .val (.int (ds.getD md.toNatClampNeg 0))] [(.int (md + (1 : Int32)))])
            refine hs.go (fun _ kk_ => XS.istore X0.here hx rfl (hb hby d9_40) rfl (l' := #[.val (.ref a), .val (.int fr), .val (.int to), .val (.int key), .val (.int (md + (1 : Int32))), .val (.int high), .val (.int md), .val (.int (ds.getD md.toNatClampNeg 0))]) rfl kk_) ?_
            show G s₁ (mkF m 42 #[.val (.ref a), .val (.int fr), .val (.int to), .val (.int key), .val (.int (md + (1 : Int32))), .val (.int high), .val (.int md), .val (.int (ds.getD md.toNatClampNeg 0))] [])
            refine hs.go (fun _ kk_ => XS.goto X0.here hx rfl (pc0 := 42) (pc' := 63) rfl (hb hby d9_42) (by decide) (by decide) kk_) ?_
            show G s₁ (mkF m 63 #[.val (.ref a), .val (.int fr), .val (.int to), .val (.int key), .val (.int (md + (1 : Int32))), .val (.int high), .val (.int md), .val (.int (ds.getD md.toNatClampNeg 0))] [])
            refine hs.go (fun _ kk_ => XS.goto X0.here hx rfl (pc0 := 63) (pc' := 8) rfl (hb hby d9_63) (by decide) (by decide) kk_) ?_
            show G s₁ (mkF m 8 #[.val (.ref a), .val (.int fr), .val (.int to), .val (.int key), .val (.int (md + (1 : Int32))), .val (.int high), .val (.int md), .val (.int (ds.getD md.toNatClampNeg 0))] [])
            exact ih _ _ _ _ (by have q := c_iadd md 1; have r := rng32 (md + 1); have k1 : (1 : Int32).toInt = 1 := rfl; omega) (by have q := c_iadd md 1; have r := rng32 (md + 1); have k1 : (1 : Int32).toInt = 1 := rfl; omega) (by have q := c_iadd md 1; have r := rng32 (md + 1); have k1 : (1 : Int32).toInt = 1 := rfl; omega) h2 (own_right hs1 hm h0 h2 inv c33) (Or.inr ⟨_, _, rfl, rfl⟩)
          · refine hs.go (fun _ kk_ => XS.icmpYes X0.here hx rfl (pc0 := 33) (pc' := 45) rfl (hb hby d9_33) rfl (flt c33).2.1 (by decide) (by decide) kk_) ?_
            show G s₁ (mkF m 45 #[.val (.ref a), .val (.int fr), .val (.int to), .val (.int key), .val (.int low), .val (.int high), .val (.int md), .val (.int (ds.getD md.toNatClampNeg 0))] [])
            refine hs.go (fun _ kk_ => XS.iload X0.here hx rfl (hb hby d9_45) rfl  kk_) ?_
            show G s₁ (mkF m 47 #[.val (.ref a), .val (.int fr), .val (.int to), .val (.int key), .val (.int low), .val (.int high), .val (.int md), .val (.int (ds.getD md.toNatClampNeg 0))] [(.int (ds.getD md.toNatClampNeg 0))])
            refine hs.go (fun _ kk_ => XS.iloadN X0.here hx rfl (hb hby d9_47) rfl  kk_) ?_
            show G s₁ (mkF m 48 #[.val (.ref a), .val (.int fr), .val (.int to), .val (.int key), .val (.int low), .val (.int high), .val (.int md), .val (.int (ds.getD md.toNatClampNeg 0))] [(.int key), (.int (ds.getD md.toNatClampNeg 0))])
            by_cases c48 : key < (ds.getD md.toNatClampNeg 0)
            · refine hs.go (fun _ kk_ => XS.icmpNo X0.here hx rfl (hb hby d9_48) rfl (tlt c48).2.2.2 kk_) ?_
              show G s₁ (mkF m 51 #[.val (.ref a), .val (.int fr), .val (.int to), .val (.int key), .val (.int low), .val (.int high), .val (.int md), .val (.int (ds.getD md.toNatClampNeg 0))] [])
              refine hs.go (fun _ kk_ => XS.iload X0.here hx rfl (hb hby d9_51) rfl  kk_) ?_
              show G s₁ (mkF m 53 #[.val (.ref a), .val (.int fr), .val (.int to), .val (.int key), .val (.int low), .val (.int high), .val (.int md), .val (.int (ds.getD md.toNatClampNeg 0))] [(.int md)])
              refine hs.go (fun _ kk_ => XS.iconst X0.here hx rfl (hb hby d9_53) kk_) ?_
              show G s₁ (mkF m 54 #[.val (.ref a), .val (.int fr), .val (.int to), .val (.int key), .val (.int low), .val (.int high), .val (.int md), .val (.int (ds.getD md.toNatClampNeg 0))] [(.int (1 : Int32)), (.int md)])
              refine hs.go (fun _ kk_ => XS.isub X0.here hx rfl (hb hby d9_54) rfl kk_) ?_
              show G s₁ (mkF m 55 #[.val (.ref a), .val (.int fr), .val (.int to), .val (.int key), .val (.int low), .val (.int high), .val (.int md), .val (.int (ds.getD md.toNatClampNeg 0))] [(.int (md - (1 : Int32)))])
              refine hs.go (fun _ kk_ => XS.istore X0.here hx rfl (hb hby d9_55) rfl (l' := #[.val (.ref a), .val (.int fr), .val (.int to), .val (.int key), .val (.int low), .val (.int (md - (1 : Int32))), .val (.int md), .val (.int (ds.getD md.toNatClampNeg 0))]) rfl kk_) ?_
              show G s₁ (mkF m 57 #[.val (.ref a), .val (.int fr), .val (.int to), .val (.int key), .val (.int low), .val (.int (md - (1 : Int32))), .val (.int md), .val (.int (ds.getD md.toNatClampNeg 0))] [])
              refine hs.go (fun _ kk_ => XS.goto X0.here hx rfl (pc0 := 57) (pc' := 63) rfl (hb hby d9_57) (by decide) (by decide) kk_) ?_
              show G s₁ (mkF m 63 #[.val (.ref a), .val (.int fr), .val (.int to), .val (.int key), .val (.int low), .val (.int (md - (1 : Int32))), .val (.int md), .val (.int (ds.getD md.toNatClampNeg 0))] [])
              refine hs.go (fun _ kk_ => XS.goto X0.here hx rfl (pc0 := 63) (pc' := 8) rfl (hb hby d9_63) (by decide) (by decide) kk_) ?_
              show G s₁ (mkF m 8 #[.val (.ref a), .val (.int fr), .val (.int to), .val (.int key), .val (.int low), .val (.int (md - (1 : Int32))), .val (.int md), .val (.int (ds.getD md.toNatClampNeg 0))] [])
              exact ih _ _ _ _ (by have q := c_isub md 1; have r := rng32 (md - 1); have k1 : (1 : Int32).toInt = 1 := rfl; omega) h0 (by have q := c_isub md 1; have r := rng32 (md - 1); have k1 : (1 : Int32).toInt = 1 := rfl; omega) (by have q := c_isub md 1; have r := rng32 (md - 1); have k1 : (1 : Int32).toInt = 1 := rfl; omega) (own_left hs1 hm h0 h2 inv c48) (Or.inr ⟨_, _, rfl, rfl⟩)
            · refine hs.go (fun _ kk_ => XS.icmpYes X0.here hx rfl (pc0 := 48) (pc' := 60) rfl (hb hby d9_48) rfl (flt c48).2.2.2 (by decide) (by decide) kk_) ?_
              show G s₁ (mkF m 60 #[.val (.ref a), .val (.int fr), .val (.int to), .val (.int key), .val (.int low), .val (.int high), .val (.int md), .val (.int (ds.getD md.toNatClampNeg 0))] [])
              refine hs.go (fun _ kk_ => XS.iload X0.here hx rfl (hb hby d9_60) rfl  kk_) ?_
              show G s₁ (mkF m 62 #[.val (.ref a), .val (.int fr), .val (.int to), .val (.int key), .val (.int low), .val (.int high), .val (.int md), .val (.int (ds.getD md.toNatClampNeg 0))] [(.int md)])
              exact rRetI fin X0 hx (by decide) (by decide) hret (hb hby d9_62) ⟨_, rfl, own_hit hm h0 h2 c33 c48, rfl⟩
      · show G s₁ (mkF m 8 #[.val (.ref a), .val (.int fr), .val (.int to), .val (.int key), .val (.int low), .val (.int high), .val (.int w6), .val (.int w7)] [])
        refine hs.go (fun _ kk_ => XS.iload X0.here hx rfl (hb hby d9_8) rfl  kk_) ?_
        show G s₁ (mkF m 10 #[.val (.ref a), .val (.int fr), .val (.int to), .val (.int key), .val (.int low), .val (.int high), .val (.int w6), .val (.int w7)] [(.int low)])
        refine hs.go (fun _ kk_ => XS.iload X0.here hx rfl (hb hby d9_10) rfl  kk_) ?_
        show G s₁ (mkF m 12 #[.val (.ref a), .val (.int fr), .val (.int to), .val (.int key), .val (.int low), .val (.int high), .val (.int w6), .val (.int w7)] [(.int high), (.int low)])
        by_cases c12 : high < low
        · refine hs.go (fun _ kk_ => XS.icmpYes X0.here hx rfl (pc0 := 12) (pc' := 66) rfl (hb hby d9_12) rfl (tlt c12).2.2.1 (by decide) (by decide) kk_) ?_
          show G s₁ (mkF m 66 #[.val (.ref a), .val (.int fr), .val (.int to), .val (.int key), .val (.int low), .val (.int high), .val (.int w6), .val (.int w7)] [])
          refine hs.go (fun _ kk_ => XS.iload X0.here hx rfl (hb hby d9_66) rfl  kk_) ?_
          show G s₁ (mkF m 68 #[.val (.ref a), .val (.int fr), .val (.int to), .val (.int key), .val (.int low), .val (.int high), .val (.int w6), .val (.int w7)] [(.int low)])
          refine hs.go (fun _ kk_ => XS.iconst X0.here hx rfl (hb hby d9_68) kk_) ?_
          show G s₁ (mkF m 69 #[.val (.ref a), .val (.int fr), .val (.int to), .val (.int key), .val (.int low), .val (.int high), .val (.int w6), .val (.int w7)] [(.int (1 : Int32)), (.int low)])
          refine hs.go (fun _ kk_ => XS.iadd X0.here hx rfl (hb hby d9_69) rfl kk_) ?_
          show G s₁ (mkF m 70 #[.val (.ref a), .val (.int fr), .val (.int to), .val (.int key), .val (.int low), .val (.int high), .val (.int w6), .val (.int w7)] [(.int (low + (1 : Int32)))])
          refine hs.go (fun _ kk_ => XS.ineg X0.here hx rfl (hb hby d9_70) rfl kk_) ?_
          show G s₁ (mkF m 71 #[.val (.ref a), .val (.int fr), .val (.int to), .val (.int key), .val (.int low), .val (.int high), .val (.int w6), .val (.int w7)] [(.int (-(low + (1 : Int32))))])
          exact rRetI fin X0 hx (by decide) (by decide) hret (hb hby d9_71) ⟨_, rfl, own_out (by omega) (by omega) inv c12, rfl⟩
        · refine hs.go (fun _ kk_ => XS.icmpNo X0.here hx rfl (hb hby d9_12) rfl (flt c12).2.2.1 kk_) ?_
          show G s₁ (mkF m 15 #[.val (.ref a), .val (.int fr), .val (.int to), .val (.int key), .val (.int low), .val (.int high), .val (.int w6), .val (.int w7)] [])
          refine hs.go (fun _ kk_ => XS.iload X0.here hx rfl (hb hby d9_15) rfl  kk_) ?_
          show G s₁ (mkF m 17 #[.val (.ref a), .val (.int fr), .val (.int to), .val (.int key), .val (.int low), .val (.int high), .val (.int w6), .val (.int w7)] [(.int low)])
          refine hs.go (fun _ kk_ => XS.iload X0.here hx rfl (hb hby d9_17) rfl  kk_) ?_
          show G s₁ (mkF m 19 #[.val (.ref a), .val (.int fr), .val (.int to), .val (.int key), .val (.int low), .val (.int high), .val (.int w6), .val (.int w7)] [(.int high), (.int low)])
          refine hs.go (fun _ kk_ => XS.iadd X0.here hx rfl (hb hby d9_19) rfl kk_) ?_
          show G s₁ (mkF m 20 #[.val (.ref a), .val (.int fr), .val (.int to), .val (.int key), .val (.int low), .val (.int high), .val (.int w6), .val (.int w7)] [(.int (low + high))])
          refine hs.go (fun _ kk_ => XS.iconst X0.here hx rfl (hb hby d9_20) kk_) ?_
          show G s₁ (mkF m 21 #[.val (.ref a), .val (.int fr), .val (.int to), .val (.int key), .val (.int low), .val (.int high), .val (.int w6), .val (.int w7)] [(.int (1 : Int32)), (.int (low + high))])
          refine hs.go (fun _ kk_ => XS.iushr X0.here hx rfl (hb hby d9_21) rfl kk_) ?_
          show G s₁ (mkF m 22 #[.val (.ref a), .val (.int fr), .val (.int to), .val (.int key), .val (.int low), .val (.int high), .val (.int w6), .val (.int w7)] [(.int (((low + high).toUInt32 >>> ((1 : Int32) &&& 31).toUInt32).toInt32))])
          refine nameIt (P := fun zz_ : Int32 => G s₁ (mkF m 22 #[.val (.ref a), .val (.int fr), .val (.int to), .val (.int key), .val (.int low), .val (.int high), .val (.int w6), .val (.int w7)] [(.int zz_)])) (((low + high).toUInt32 >>> ((1 : Int32) &&& 31).toUInt32).toInt32) (fun md hmd => ?_)
          show G s₁ (mkF m 22 #[.val (.ref a), .val (.int fr), .val (.int to), .val (.int key), .val (.int low), .val (.int high), .val (.int w6), .val (.int w7)] [(.int md)])
          refine hs.go (fun _ kk_ => XS.istore X0.here hx rfl (hb hby d9_22) rfl (l' := #[.val (.ref a), .val (.int fr), .val (.int to), .val (.int key), .val (.int low), .val (.int high), .val (.int md), .val (.int w7)]) rfl kk_) ?_
          show G s₁ (mkF m 24 #[.val (.ref a), .val (.int fr), .val (.int to), .val (.int key), .val (.int low), .val (.int high), .val (.int md), .val (.int w7)] [])
          have hm := own_mid (by omega) (by rw [lt32] at c12; omega) (by omega) hmd
          refine hs.go (fun _ kk_ => XS.aloadN X0.here hx rfl (hb hby d9_24) rfl rfl kk_) ?_
          show G s₁ (mkF m 25 #[.val (.ref a), .val (.int fr), .val (.int to), .val (.int key), .val (.int low), .val (.int high), .val (.int md), .val (.int w7)] [(.ref a)])
          refine hs.go (fun _ kk_ => XS.iload X0.here hx rfl (hb hby d9_25) rfl  kk_) ?_
          show G s₁ (mkF m 27 #[.val (.ref a), .val (.int fr), .val (.int to), .val (.int key), .val (.int low), .val (.int high), .val (.int md), .val (.int w7)] [(.int md), (.ref a)])
          refine rLdI hs X0 hx hZ V_a ⟨by rw [lt32]; have k0 : (0 : Int32).toInt = 0 := rfl; omega, by rw [lt32]; have k6 : (6 : Int32).toInt = 6 := rfl; omega⟩ (v := (.int (ds.getD md.toNatClampNeg 0))) (own_gm ds _) rfl rfl (hb hby d9_27) ?_
          show G s₁ (mkF m 28 #[.val (.ref a), .val (.int fr), .val (.int to), .val (.int key), .val (.int low), .val (.int high), .val (.int md), .val (.int w7)] [(.int (ds.getD md.toNatClampNeg 0))])
          refine hs.go (fun _ kk_ => XS.istore X0.here hx rfl (hb hby d9_28) rfl (l' := #[.val (.ref a), .val (.int fr), .val (.int to), .val (.int key), .val (.int low), .val (.int high), .val (.int md), .val (.int (ds.getD md.toNatClampNeg 0))]) rfl kk_) ?_
          show G s₁ (mkF m 30 #[.val (.ref a), .val (.int fr), .val (.int to), .val (.int key), .val (.int low), .val (.int high), .val (.int md), .val (.int (ds.getD md.toNatClampNeg 0))] [])
          refine hs.go (fun _ kk_ => XS.iload X0.here hx rfl (hb hby d9_30) rfl  kk_) ?_
          show G s₁ (mkF m 32 #[.val (.ref a), .val (.int fr), .val (.int to), .val (.int key), .val (.int low), .val (.int high), .val (.int md), .val (.int (ds.getD md.toNatClampNeg 0))] [(.int (ds.getD md.toNatClampNeg 0))])
          refine hs.go (fun _ kk_ => XS.iloadN X0.here hx rfl (hb hby d9_32) rfl  kk_) ?_
          show G s₁ (mkF m 33 #[.val (.ref a), .val (.int fr), .val (.int to), .val (.int key), .val (.int low), .val (.int high), .val (.int md), .val (.int (ds.getD md.toNatClampNeg 0))] [(.int key), (.int (ds.getD md.toNatClampNeg 0))])
          by_cases c33 : (ds.getD md.toNatClampNeg 0) < key
          · refine hs.go (fun _ kk_ => XS.icmpNo X0.here hx rfl (hb hby d9_33) rfl (tlt c33).2.1 kk_) ?_
            show G s₁ (mkF m 36 #[.val (.ref a), .val (.int fr), .val (.int to), .val (.int key), .val (.int low), .val (.int high), .val (.int md), .val (.int (ds.getD md.toNatClampNeg 0))] [])
            refine hs.go (fun _ kk_ => XS.iload X0.here hx rfl (hb hby d9_36) rfl  kk_) ?_
            show G s₁ (mkF m 38 #[.val (.ref a), .val (.int fr), .val (.int to), .val (.int key), .val (.int low), .val (.int high), .val (.int md), .val (.int (ds.getD md.toNatClampNeg 0))] [(.int md)])
            refine hs.go (fun _ kk_ => XS.iconst X0.here hx rfl (hb hby d9_38) kk_) ?_
            show G s₁ (mkF m 39 #[.val (.ref a), .val (.int fr), .val (.int to), .val (.int key), .val (.int low), .val (.int high), .val (.int md), .val (.int (ds.getD md.toNatClampNeg 0))] [(.int (1 : Int32)), (.int md)])
            refine hs.go (fun _ kk_ => XS.iadd X0.here hx rfl (hb hby d9_39) rfl kk_) ?_
            show G s₁ (mkF m 40 #[.val (.ref a), .val (.int fr), .val (.int to), .val (.int key), .val (.int low), .val (.int high), .val (.int md), .val (.int (ds.getD md.toNatClampNeg 0))] [(.int (md + (1 : Int32)))])
            refine hs.go (fun _ kk_ => XS.istore X0.here hx rfl (hb hby d9_40) rfl (l' := #[.val (.ref a), .val (.int fr), .val (.int to), .val (.int key), .val (.int (md + (1 : Int32))), .val (.int high), .val (.int md), .val (.int (ds.getD md.toNatClampNeg 0))]) rfl kk_) ?_
            show G s₁ (mkF m 42 #[.val (.ref a), .val (.int fr), .val (.int to), .val (.int key), .val (.int (md + (1 : Int32))), .val (.int high), .val (.int md), .val (.int (ds.getD md.toNatClampNeg 0))] [])
            refine hs.go (fun _ kk_ => XS.goto X0.here hx rfl (pc0 := 42) (pc' := 63) rfl (hb hby d9_42) (by decide) (by decide) kk_) ?_
            show G s₁ (mkF m 63 #[.val (.ref a), .val (.int fr), .val (.int to), .val (.int key), .val (.int (md + (1 : Int32))), .val (.int high), .val (.int md), .val (.int (ds.getD md.toNatClampNeg 0))] [])
            refine hs.go (fun _ kk_ => XS.goto X0.here hx rfl (pc0 := 63) (pc' := 8) rfl (hb hby d9_63) (by decide) (by decide) kk_) ?_
            show G s₁ (mkF m 8 #[.val (.ref a), .val (.int fr), .val (.int to), .val (.int key), .val (.int (md + (1 : Int32))), .val (.int high), .val (.int md), .val (.int (ds.getD md.toNatClampNeg 0))] [])
            exact ih _ _ _ _ (by have q := c_iadd md 1; have r := rng32 (md + 1); have k1 : (1 : Int32).toInt = 1 := rfl; omega) (by have q := c_iadd md 1; have r := rng32 (md + 1); have k1 : (1 : Int32).toInt = 1 := rfl; omega) (by have q := c_iadd md 1; have r := rng32 (md + 1); have k1 : (1 : Int32).toInt = 1 := rfl; omega) h2 (own_right hs1 hm h0 h2 inv c33) (Or.inr ⟨_, _, rfl, rfl⟩)
          · refine hs.go (fun _ kk_ => XS.icmpYes X0.here hx rfl (pc0 := 33) (pc' := 45) rfl (hb hby d9_33) rfl (flt c33).2.1 (by decide) (by decide) kk_) ?_
            show G s₁ (mkF m 45 #[.val (.ref a), .val (.int fr), .val (.int to), .val (.int key), .val (.int low), .val (.int high), .val (.int md), .val (.int (ds.getD md.toNatClampNeg 0))] [])
            refine hs.go (fun _ kk_ => XS.iload X0.here hx rfl (hb hby d9_45) rfl  kk_) ?_
            show G s₁ (mkF m 47 #[.val (.ref a), .val (.int fr), .val (.int to), .val (.int key), .val (.int low), .val (.int high), .val (.int md), .val (.int (ds.getD md.toNatClampNeg 0))] [(.int (ds.getD md.toNatClampNeg 0))])
            refine hs.go (fun _ kk_ => XS.iloadN X0.here hx rfl (hb hby d9_47) rfl  kk_) ?_
            show G s₁ (mkF m 48 #[.val (.ref a), .val (.int fr), .val (.int to), .val (.int key), .val (.int low), .val (.int high), .val (.int md), .val (.int (ds.getD md.toNatClampNeg 0))] [(.int key), (.int (ds.getD md.toNatClampNeg 0))])
            by_cases c48 : key < (ds.getD md.toNatClampNeg 0)
            · refine hs.go (fun _ kk_ => XS.icmpNo X0.here hx rfl (hb hby d9_48) rfl (tlt c48).2.2.2 kk_) ?_
              show G s₁ (mkF m 51 #[.val (.ref a), .val (.int fr), .val (.int to), .val (.int key), .val (.int low), .val (.int high), .val (.int md), .val (.int (ds.getD md.toNatClampNeg 0))] [])
              refine hs.go (fun _ kk_ => XS.iload X0.here hx rfl (hb hby d9_51) rfl  kk_) ?_
              show G s₁ (mkF m 53 #[.val (.ref a), .val (.int fr), .val (.int to), .val (.int key), .val (.int low), .val (.int high), .val (.int md), .val (.int (ds.getD md.toNatClampNeg 0))] [(.int md)])
              refine hs.go (fun _ kk_ => XS.iconst X0.here hx rfl (hb hby d9_53) kk_) ?_
              show G s₁ (mkF m 54 #[.val (.ref a), .val (.int fr), .val (.int to), .val (.int key), .val (.int low), .val (.int high), .val (.int md), .val (.int (ds.getD md.toNatClampNeg 0))] [(.int (1 : Int32)), (.int md)])
              refine hs.go (fun _ kk_ => XS.isub X0.here hx rfl (hb hby d9_54) rfl kk_) ?_
              show G s₁ (mkF m 55 #[.val (.ref a), .val (.int fr), .val (.int to), .val (.int key), .val (.int low), .val (.int high), .val (.int md), .val (.int (ds.getD md.toNatClampNeg 0))] [(.int (md - (1 : Int32)))])
              refine hs.go (fun _ kk_ => XS.istore X0.here hx rfl (hb hby d9_55) rfl (l' := #[.val (.ref a), .val (.int fr), .val (.int to), .val (.int key), .val (.int low), .val (.int (md - (1 : Int32))), .val (.int md), .val (.int (ds.getD md.toNatClampNeg 0))]) rfl kk_) ?_
              show G s₁ (mkF m 57 #[.val (.ref a), .val (.int fr), .val (.int to), .val (.int key), .val (.int low), .val (.int (md - (1 : Int32))), .val (.int md), .val (.int (ds.getD md.toNatClampNeg 0))] [])
              refine hs.go (fun _ kk_ => XS.goto X0.here hx rfl (pc0 := 57) (pc' := 63) rfl (hb hby d9_57) (by decide) (by decide) kk_) ?_
              show G s₁ (mkF m 63 #[.val (.ref a), .val (.int fr), .val (.int to), .val (.int key), .val (.int low), .val (.int (md - (1 : Int32))), .val (.int md), .val (.int (ds.getD md.toNatClampNeg 0))] [])
              refine hs.go (fun _ kk_ => XS.goto X0.here hx rfl (pc0 := 63) (pc' := 8) rfl (hb hby d9_63) (by decide) (by decide) kk_) ?_
              show G s₁ (mkF m 8 #[.val (.ref a), .val (.int fr), .val (.int to), .val (.int key), .val (.int low), .val (.int (md - (1 : Int32))), .val (.int md), .val (.int (ds.getD md.toNatClampNeg 0))] [])
              exact ih _ _ _ _ (by have q := c_isub md 1; have r := rng32 (md - 1); have k1 : (1 : Int32).toInt = 1 := rfl; omega) h0 (by have q := c_isub md 1; have r := rng32 (md - 1); have k1 : (1 : Int32).toInt = 1 := rfl; omega) (by have q := c_isub md 1; have r := rng32 (md - 1); have k1 : (1 : Int32).toInt = 1 := rfl; omega) (own_left hs1 hm h0 h2 inv c48) (Or.inr ⟨_, _, rfl, rfl⟩)
            · refine hs.go (fun _ kk_ => XS.icmpYes X0.here hx rfl (pc0 := 48) (pc' := 60) rfl (hb hby d9_48) rfl (flt c48).2.2.2 (by decide) (by decide) kk_) ?_
              show G s₁ (mkF m 60 #[.val (.ref a), .val (.int fr), .val (.int to), .val (.int key), .val (.int low), .val (.int high), .val (.int md), .val (.int (ds.getD md.toNatClampNeg 0))] [])
              refine hs.go (fun _ kk_ => XS.iload X0.here hx rfl (hb hby d9_60) rfl  kk_) ?_
              show G s₁ (mkF m 62 #[.val (.ref a), .val (.int fr), .val (.int to), .val (.int key), .val (.int low), .val (.int high), .val (.int md), .val (.int (ds.getD md.toNatClampNeg 0))] [(.int md)])
              exact rRetI fin X0 hx (by decide) (by decide) hret (hb hby d9_62) ⟨_, rfl, own_hit hm h0 h2 c33 c48, rfl⟩
  refine loop (mm - n) fr (to - (1 : Int32)) .unset .unset ?_ ?_ ?_ ?_ ?_ (Or.inl ⟨rfl, rfl⟩)
  all_goals have q := c_isub to 1
  all_goals have r := rng32 (to - 1)
  all_goals have k1 : (1 : Int32).toInt = 1 := rfl
  · omega
  · omega
  · omega
  · omega
  · intro t g1 g2 _; omega
theorem pd_0 : parseMethodDescriptor "(III)V" = some ⟨[.int, .int, .int], none⟩ := by decide +kernel
theorem pd_1 : parseMethodDescriptor "([IIII)I" = some ⟨[(.array .int), .int, .int, .int], some .int⟩ := by decide +kernel
theorem d7_0 : decode jdk_65_method_58_code 0 = .ok (.aload_n 0, 1) := by decide +kernel
theorem d7_1 : decode jdk_65_method_58_code 1 = .ok (.arraylength, 1) := by decide +kernel
theorem d7_2 : decode jdk_65_method_58_code 2 = .ok (.iload_n 1, 1) := by decide +kernel
theorem d7_3 : decode jdk_65_method_58_code 3 = .ok (.iload_n 2, 1) := by decide +kernel
theorem d7_4 : decode jdk_65_method_58_code 4 = .ok (.invokestatic 13, 3) := by decide +kernel
theorem d7_7 : decode jdk_65_method_58_code 7 = .ok (.aload_n 0, 1) := by decide +kernel
theorem d7_8 : decode jdk_65_method_58_code 8 = .ok (.iload_n 1, 1) := by decide +kernel
theorem d7_9 : decode jdk_65_method_58_code 9 = .ok (.iload_n 2, 1) := by decide +kernel
theorem d7_10 : decode jdk_65_method_58_code 10 = .ok (.iload_n 3, 1) := by decide +kernel
theorem d7_11 : decode jdk_65_method_58_code 11 = .ok (.invokestatic 209, 3) := by decide +kernel
theorem d7_14 : decode jdk_65_method_58_code 14 = .ok (.ireturn, 1) := by decide +kernel
theorem pn_7 : plainFor (⟨"java/util/Arrays", "binarySearch", "([IIII)I"⟩ : MethodName) = true := plainFor_of_name (by first | (simp [plainName, overriddenIn]; done) | decide +kernel)
theorem ef_7 (m : MethodId) (x0 : Addr) (x1 : Int32) (x2 : Int32) (x3 : Int32) : entryFrame m #[(.ref x0), (.int x1), (.int x2), (.int x3)] 4 = mkF m 0 #[.val (.ref x0), .val (.int x1), .val (.int x2), .val (.int x3)] [] := by first | (simp [entryFrame, mkF, argsToLocals, Value.category]; done) | rfl
theorem hy_7 : ((⟨"java/util/Arrays", "binarySearch", "([IIII)I"⟩ : MethodName)).cls ≠ "java/lang/invoke/MethodHandle" ∧ ((⟨"java/util/Arrays", "binarySearch", "([IIII)I"⟩ : MethodName)).cls ≠ "java/lang/invoke/VarHandle" := by decide
set_option maxRecDepth 65536 in
set_option maxHeartbeats 40000000 in
theorem rm7 (l : Launch) (Z : State) (a0 : Array Value) (hw : ∀ d ∈ tables_1, d.before a0 Z = true) (ws : List Jvm.Cond) (a : Addr) (fr to key : Int32) (ds : List Int32) (kc : ClassId) (n mm : Nat) (h0 : Heap) (n0 : Nat) (Z0 : n0 ≤ h0.size) (V_a : Arv Z h0 a kc .int (6 : Int32) (ds.map Value.int) (.int (0 : Int32))) (hn : fr.toInt = n) (hmm : to.toInt = mm) (hle : n ≤ mm) (h6 : mm ≤ 6) (hs1 : Srt ds n mm) :
    Con l Z (⟨"java/util/Arrays", "binarySearch", "([IIII)I"⟩ : MethodName) jdk_65_method_58_code 4 (some .int) ws ({ frames := 1, cells := 0, slots := 0, locals := 19 } : Room) #[(.ref a), (.int fr), (.int to), (.int key)] h0 n0 (fun v h => ∃ r : Int32, v = some (.int r) ∧ Fnd ds n mm key r ∧ h = h0) := by
  refine Con.of pn_7 ?_
  intro G p e s m below meth c s₁ hs hx hby hml hown hnm hret hZ X0 fin
  have hml : c.maxLocals = 4 := hml
  have hown : s.vm.findClass "java/util/Arrays" = some m.cls := hown
  rw [ef_7]
  show G s₁ (mkF m 0 #[.val (.ref a), .val (.int fr), .val (.int to), .val (.int key)] [])
  refine hs.go (fun _ kk_ => XS.aloadN X0.here hx rfl (hb hby d7_0) rfl rfl kk_) ?_
  show G s₁ (mkF m 1 #[.val (.ref a), .val (.int fr), .val (.int to), .val (.int key)] [(.ref a)])
  refine rLen hs X0 hx hZ V_a rfl rfl (hb hby d7_1) ?_
  show G s₁ (mkF m 2 #[.val (.ref a), .val (.int fr), .val (.int to), .val (.int key)] [(.int (6 : Int32))])
  refine hs.go (fun _ kk_ => XS.iloadN X0.here hx rfl (hb hby d7_2) rfl  kk_) ?_
  show G s₁ (mkF m 3 #[.val (.ref a), .val (.int fr), .val (.int to), .val (.int key)] [(.int fr), (.int (6 : Int32))])
  refine hs.go (fun _ kk_ => XS.iloadN X0.here hx rfl (hb hby d7_3) rfl  kk_) ?_
  show G s₁ (mkF m 4 #[.val (.ref a), .val (.int fr), .val (.int to), .val (.int key)] [(.int to), (.int fr), (.int (6 : Int32))])
  have h1 : ¬ (to < fr) := by rw [lt32]; omega
  have h2 : ¬ (fr < (0 : Int32)) := by rw [lt32]; have k0 : (0 : Int32).toInt = 0 := rfl; omega
  have h3 : ¬ ((6 : Int32) < to) := by rw [lt32]; have k6 : (6 : Int32).toInt = 6 := rfl; omega
  refine rCallS hs X0 hx hZ (as' := [(.int (6 : Int32)), (.int fr), (.int to)]) (rm8 l Z a0 hw [] (6 : Int32) fr to h0 n0 Z0 h1 h2 h3) hown (hw _ (List.mem_of_getElem? (i := 51) rfl)) (hw _ (List.mem_of_getElem? (i := 52) rfl)) (hw _ (List.mem_of_getElem? (i := 49) rfl)) (hw _ (List.mem_of_getElem? (i := 53) rfl)) hy_8 rfl (by rw [hml]; rfl) [] (lenOf pd_0 rfl) rfl 0 (by show 2 * 0 + _ ≤ _; exact Nat.le_of_eq rfl) (hb hby d7_4) (by decide) (by decide) (by decide) (by decide) (fun r1 T1 h1 X1 q1 => ?_)
  obtain ⟨rfl, qh1⟩ := q1
  rw [qh1] at X1
  show G T1 (mkF m 7 #[.val (.ref a), .val (.int fr), .val (.int to), .val (.int key)] [])
  refine hs.go (fun _ kk_ => XS.aloadN X1.here hx rfl (hb hby d7_7) rfl rfl kk_) ?_
  show G T1 (mkF m 8 #[.val (.ref a), .val (.int fr), .val (.int to), .val (.int key)] [(.ref a)])
  refine hs.go (fun _ kk_ => XS.iloadN X1.here hx rfl (hb hby d7_8) rfl  kk_) ?_
  show G T1 (mkF m 9 #[.val (.ref a), .val (.int fr), .val (.int to), .val (.int key)] [(.int fr), (.ref a)])
  refine hs.go (fun _ kk_ => XS.iloadN X1.here hx rfl (hb hby d7_9) rfl  kk_) ?_
  show G T1 (mkF m 10 #[.val (.ref a), .val (.int fr), .val (.int to), .val (.int key)] [(.int to), (.int fr), (.ref a)])
  refine hs.go (fun _ kk_ => XS.iloadN X1.here hx rfl (hb hby d7_10) rfl  kk_) ?_
  show G T1 (mkF m 11 #[.val (.ref a), .val (.int fr), .val (.int to), .val (.int key)] [(.int key), (.int to), (.int fr), (.ref a)])
  refine rCallS hs X1 hx hZ (as' := [(.ref a), (.int fr), (.int to), (.int key)]) (rm9 l Z a0 hw [] a fr to key ds kc n mm h0 n0 Z0 V_a hn hmm hle h6 hs1) hown (hw _ (List.mem_of_getElem? (i := 54) rfl)) (hw _ (List.mem_of_getElem? (i := 55) rfl)) (hw _ (List.mem_of_getElem? (i := 49) rfl)) (hw _ (List.mem_of_getElem? (i := 56) rfl)) hy_9 rfl (by rw [hml]; rfl) [] (lenOf pd_1 rfl) rfl 0 (by show 2 * 0 + _ ≤ _; exact Nat.le_of_eq rfl) (hb hby d7_11) (by decide) (by decide) (by decide) (by decide) (fun r2 T2 h2 X2 q2 => ?_)
  obtain ⟨r, rfl, hr, qh2⟩ := q2
  rw [qh2] at X2
  show G T2 (mkF m 14 #[.val (.ref a), .val (.int fr), .val (.int to), .val (.int key)] [(.int r)])
  exact rRetI fin X2 hx (by decide) (by decide) hret (hb hby d7_14) ⟨_, rfl, hr, rfl⟩
theorem pd_2 : parseMethodDescriptor "(I)I" = some ⟨[.int], some .int⟩ := by decide +kernel
theorem d4_0 : decode prog_14_method_15_code 0 = .ok (.aload_n 0, 1) := by decide +kernel
theorem d4_1 : decode prog_14_method_15_code 1 = .ok (.getfield 29, 3) := by decide +kernel
theorem d4_4 : decode prog_14_method_15_code 4 = .ok (.aload_n 0, 1) := by decide +kernel
theorem d4_5 : decode prog_14_method_15_code 5 = .ok (.iload_n 1, 1) := by decide +kernel
theorem d4_6 : decode prog_14_method_15_code 6 = .ok (.invokevirtual 69, 3) := by decide +kernel
theorem d4_9 : decode prog_14_method_15_code 9 = .ok (.aload_n 0, 1) := by decide +kernel
theorem d4_10 : decode prog_14_method_15_code 10 = .ok (.iload_n 1, 1) := by decide +kernel
theorem d4_11 : decode prog_14_method_15_code 11 = .ok (.invokevirtual 73, 3) := by decide +kernel
theorem d4_14 : decode prog_14_method_15_code 14 = .ok (.iload_n 2, 1) := by decide +kernel
theorem d4_15 : decode prog_14_method_15_code 15 = .ok (.invokestatic 76, 3) := by decide +kernel
theorem d4_18 : decode prog_14_method_15_code 18 = .ok (.istore_n 3, 1) := by decide +kernel
theorem d4_19 : decode prog_14_method_15_code 19 = .ok (.iload_n 3, 1) := by decide +kernel
theorem d4_20 : decode prog_14_method_15_code 20 = .ok (.ifCond .lt 7, 3) := by decide +kernel
theorem d4_23 : decode prog_14_method_15_code 23 = .ok (.iload_n 3, 1) := by decide +kernel
theorem d4_24 : decode prog_14_method_15_code 24 = .ok (.goto 4, 3) := by decide +kernel
theorem d4_27 : decode prog_14_method_15_code 27 = .ok (.iconst (-1), 1) := by decide +kernel
theorem d4_28 : decode prog_14_method_15_code 28 = .ok (.ireturn, 1) := by decide +kernel
theorem pn_4 : plainFor (⟨"com/example/vector_space_ranker/vectorspaceranker/Index", "postingPosition", "(II)I"⟩ : MethodName) = true := plainFor_of_name (by first | (simp [plainName, overriddenIn]; done) | decide +kernel)
theorem ef_4 (m : MethodId) (x0 : Addr) (x1 : Int32) (x2 : Int32) : entryFrame m #[(.ref x0), (.int x1), (.int x2)] 4 = mkF m 0 #[.val (.ref x0), .val (.int x1), .val (.int x2), .unset] [] := by first | (simp [entryFrame, mkF, argsToLocals, Value.category]; done) | rfl
theorem hy_4 : ((⟨"com/example/vector_space_ranker/vectorspaceranker/Index", "postingPosition", "(II)I"⟩ : MethodName)).cls ≠ "java/lang/invoke/MethodHandle" ∧ ((⟨"com/example/vector_space_ranker/vectorspaceranker/Index", "postingPosition", "(II)I"⟩ : MethodName)).cls ≠ "java/lang/invoke/VarHandle" := by decide
set_option maxRecDepth 65536 in
set_option maxHeartbeats 40000000 in
theorem rm4 (l : Launch) (Z : State) (a0 : Array Value) (hw : ∀ d ∈ tables_1, d.before a0 Z = true) (ws : List Jvm.Cond) (a da sa : Addr) (pt doc lo hi z : Int32) (ds : List Int32) (vs : List Value) (dv : Value) (kd kc : ClassId) (n mm : Nat) (h0 : Heap) (n0 : Nat) (Z0 : n0 ≤ h0.size) (E_a : Exa Z h0 a "com/example/vector_space_ranker/vectorspaceranker/Index") (F_postingStarts_a : Fld Z h0 a "com/example/vector_space_ranker/vectorspaceranker/Index" "postingStarts" "[I" (.ref sa)) (F_postingDocuments_a : Fld Z h0 a "com/example/vector_space_ranker/vectorspaceranker/Index" "postingDocuments" "[I" (.ref da)) (V_sa : Arv Z h0 sa kc .int z vs dv) (V_da : Arv Z h0 da kd .int (6 : Int32) (ds.map Value.int) (.int (0 : Int32))) (hjl : ¬ pt < 0 ∧ pt < z) (hvl : vs.getD pt.toNatClampNeg dv = .int lo) (hjh : ¬ (pt + (1 : Int32)) < 0 ∧ (pt + (1 : Int32)) < z) (hvh : vs.getD (pt + (1 : Int32)).toNatClampNeg dv = .int hi) (hn : lo.toInt = n) (hmm : hi.toInt = mm) (hle : n ≤ mm) (h6 : mm ≤ 6) (hs1 : Srt ds n mm) :
    Con l Z (⟨"com/example/vector_space_ranker/vectorspaceranker/Index", "postingPosition", "(II)I"⟩ : MethodName) prog_14_method_15_code 4 (some .int) ws ({ frames := 2, cells := 0, slots := 0, locals := 34 } : Room) #[(.ref a), (.int pt), (.int doc)] h0 n0 (fun v h => ∃ u : Int32, v = some (.int u) ∧ (∃ r : Int32, Fnd ds n mm doc r ∧ ((r.toInt < (0 : Int32).toInt ∧ u = (-1 : Int32)) ∨ (¬ r.toInt < (0 : Int32).toInt ∧ u = r))) ∧ h = h0) := by
  refine Con.of pn_4 ?_
  intro G p e s m below meth c s₁ hs hx hby hml hown hnm hret hZ X0 fin
  have hml : c.maxLocals = 4 := hml
  have hown : s.vm.findClass "com/example/vector_space_ranker/vectorspaceranker/Index" = some m.cls := hown
  rw [ef_4]
  show G s₁ (mkF m 0 #[.val (.ref a), .val (.int pt), .val (.int doc), .unset] [])
  refine hs.go (fun _ kk_ => XS.aloadN X0.here hx rfl (hb hby d4_0) rfl rfl kk_) ?_
  show G s₁ (mkF m 1 #[.val (.ref a), .val (.int pt), .val (.int doc), .unset] [(.ref a)])
  refine rGetF hs X0 hx hZ hown (host := "") (Or.inl (hw _ (List.mem_of_getElem? (i := 26) rfl))) Via.refl F_postingDocuments_a rfl rfl (hb hby d4_1) (fun T1 X1 => ?_)
  show G T1 (mkF m 4 #[.val (.ref a), .val (.int pt), .val (.int doc), .unset] [(.ref da)])
  refine hs.go (fun _ kk_ => XS.aloadN X1.here hx rfl (hb hby d4_4) rfl rfl kk_) ?_
  show G T1 (mkF m 5 #[.val (.ref a), .val (.int pt), .val (.int doc), .unset] [(.ref a), (.ref da)])
  refine hs.go (fun _ kk_ => XS.iloadN X1.here hx rfl (hb hby d4_5) rfl  kk_) ?_
  show G T1 (mkF m 6 #[.val (.ref a), .val (.int pt), .val (.int doc), .unset] [(.int pt), (.ref a), (.ref da)])
  refine rCallV hs X1 hx hZ (as' := [(.int pt)]) (rm5 l Z a0 hw [] a sa pt lo z vs dv kc h0 n0 Z0 F_postingStarts_a V_sa hjl hvl) E_a hown (hw _ (List.mem_of_getElem? (i := 37) rfl)) (hw _ (List.mem_of_getElem? (i := 38) rfl)) (hw _ (List.mem_of_getElem? (i := 40) rfl)) (hw _ (List.mem_of_getElem? (i := 39) rfl)) (hw _ (List.mem_of_getElem? (i := 9) rfl)) (hw _ (List.mem_of_getElem? (i := 41) rfl)) hy_5 rfl (by rw [hml]; rfl) [(.ref da)] (lenOf pd_2 rfl) rfl 1 (by show 2 * 0 + _ ≤ _; exact Nat.le_of_eq rfl) (hb hby d4_6) (by decide) (by decide) (by decide) (by decide) (fun r2 T2 h2 X2 q2 => ?_)
  obtain ⟨rfl, qh2⟩ := q2
  rw [qh2] at X2
  show G T2 (mkF m 9 #[.val (.ref a), .val (.int pt), .val (.int doc), .unset] [(.int lo), (.ref da)])
  refine hs.go (fun _ kk_ => XS.aloadN X2.here hx rfl (hb hby d4_9) rfl rfl kk_) ?_
  show G T2 (mkF m 10 #[.val (.ref a), .val (.int pt), .val (.int doc), .unset] [(.ref a), (.int lo), (.ref da)])
  refine hs.go (fun _ kk_ => XS.iloadN X2.here hx rfl (hb hby d4_10) rfl  kk_) ?_
  show G T2 (mkF m 11 #[.val (.ref a), .val (.int pt), .val (.int doc), .unset] [(.int pt), (.ref a), (.int lo), (.ref da)])
  refine rCallV hs X2 hx hZ (as' := [(.int pt)]) (rm6 l Z a0 hw [] a sa pt hi z vs dv kc h0 n0 Z0 F_postingStarts_a V_sa hjh hvh) E_a hown (hw _ (List.mem_of_getElem? (i := 42) rfl)) (hw _ (List.mem_of_getElem? (i := 43) rfl)) (hw _ (List.mem_of_getElem? (i := 45) rfl)) (hw _ (List.mem_of_getElem? (i := 44) rfl)) (hw _ (List.mem_of_getElem? (i := 9) rfl)) (hw _ (List.mem_of_getElem? (i := 46) rfl)) hy_6 rfl (by rw [hml]; rfl) [(.int lo), (.ref da)] (lenOf pd_2 rfl) rfl 2 (by show 2 * 0 + _ ≤ _; exact Nat.le_of_eq rfl) (hb hby d4_11) (by decide) (by decide) (by decide) (by decide) (fun r3 T3 h3 X3 q3 => ?_)
  obtain ⟨rfl, qh3⟩ := q3
  rw [qh3] at X3
  show G T3 (mkF m 14 #[.val (.ref a), .val (.int pt), .val (.int doc), .unset] [(.int hi), (.int lo), (.ref da)])
  refine hs.go (fun _ kk_ => XS.iloadN X3.here hx rfl (hb hby d4_14) rfl  kk_) ?_
  show G T3 (mkF m 15 #[.val (.ref a), .val (.int pt), .val (.int doc), .unset] [(.int doc), (.int hi), (.int lo), (.ref da)])
  refine rCallS hs X3 hx hZ (as' := [(.ref da), (.int lo), (.int hi), (.int doc)]) (rm7 l Z a0 hw [] da lo hi doc ds kd n mm h0 n0 Z0 V_da hn hmm hle h6 hs1) hown (hw _ (List.mem_of_getElem? (i := 47) rfl)) (hw _ (List.mem_of_getElem? (i := 48) rfl)) (hw _ (List.mem_of_getElem? (i := 49) rfl)) (hw _ (List.mem_of_getElem? (i := 50) rfl)) hy_7 rfl (by rw [hml]; rfl) [] (lenOf pd_1 rfl) rfl 0 (by show 2 * 0 + _ ≤ _; exact Nat.le_of_eq rfl) (hb hby d4_15) (by decide) (by decide) (by decide) (by decide) (fun r4 T4 h4 X4 q4 => ?_)
  obtain ⟨r, rfl, hr, qh4⟩ := q4
  rw [qh4] at X4
  show G T4 (mkF m 18 #[.val (.ref a), .val (.int pt), .val (.int doc), .unset] [(.int r)])
  refine hs.go (fun _ kk_ => XS.istoreN X4.here hx rfl (hb hby d4_18) rfl (l' := #[.val (.ref a), .val (.int pt), .val (.int doc), .val (.int r)]) rfl kk_) ?_
  show G T4 (mkF m 19 #[.val (.ref a), .val (.int pt), .val (.int doc), .val (.int r)] [])
  refine hs.go (fun _ kk_ => XS.iloadN X4.here hx rfl (hb hby d4_19) rfl  kk_) ?_
  show G T4 (mkF m 20 #[.val (.ref a), .val (.int pt), .val (.int doc), .val (.int r)] [(.int r)])
  by_cases c20 : r < (0 : Int32)
  · refine hs.go (fun _ kk_ => XS.ifYes X4.here hx rfl (pc0 := 20) (pc' := 27) rfl (hb hby d4_20) rfl ((if0 _ _).trans (tlt c20).1) (by decide) (by decide) kk_) ?_
    show G T4 (mkF m 27 #[.val (.ref a), .val (.int pt), .val (.int doc), .val (.int r)] [])
    refine hs.go (fun _ kk_ => XS.iconst X4.here hx rfl (hb hby d4_27) kk_) ?_
    show G T4 (mkF m 28 #[.val (.ref a), .val (.int pt), .val (.int doc), .val (.int r)] [(.int (-1 : Int32))])
    exact rRetI fin X4 hx (by decide) (by decide) hret (hb hby d4_28) ⟨_, rfl, ⟨r, hr, Or.inl ⟨(by rw [lt32] at c20; exact c20), rfl⟩⟩, rfl⟩
  · refine hs.go (fun _ kk_ => XS.ifNo X4.here hx rfl (hb hby d4_20) rfl ((if0 _ _).trans (flt c20).1) kk_) ?_
    show G T4 (mkF m 23 #[.val (.ref a), .val (.int pt), .val (.int doc), .val (.int r)] [])
    refine hs.go (fun _ kk_ => XS.iloadN X4.here hx rfl (hb hby d4_23) rfl  kk_) ?_
    show G T4 (mkF m 24 #[.val (.ref a), .val (.int pt), .val (.int doc), .val (.int r)] [(.int r)])
    refine hs.go (fun _ kk_ => XS.goto X4.here hx rfl (pc0 := 24) (pc' := 28) rfl (hb hby d4_24) (by decide) (by decide) kk_) ?_
    show G T4 (mkF m 28 #[.val (.ref a), .val (.int pt), .val (.int doc), .val (.int r)] [(.int r)])
    exact rRetI fin X4 hx (by decide) (by decide) hret (hb hby d4_28) ⟨_, rfl, ⟨r, hr, Or.inr ⟨(by rw [lt32] at c20; exact c20), rfl⟩⟩, rfl⟩
def fh (acc i lo hi d x : Int32) : Int32 := if i < lo then acc else (if i < hi then (if x = d then i else acc) else acc)
theorem d10_0 : decode method_4_code 0 = .ok (.iload_n 2, 1) := by decide +kernel
theorem d10_1 : decode method_4_code 1 = .ok (.iload_n 1, 1) := by decide +kernel
theorem d10_2 : decode method_4_code 2 = .ok (.if_icmp .gt 19, 3) := by decide +kernel
theorem d10_5 : decode method_4_code 5 = .ok (.iload_n 1, 1) := by decide +kernel
theorem d10_6 : decode method_4_code 6 = .ok (.iload_n 3, 1) := by decide +kernel
theorem d10_7 : decode method_4_code 7 = .ok (.if_icmp .ge 14, 3) := by decide +kernel
theorem d10_10 : decode method_4_code 10 = .ok (.aload 4, 2) := by decide +kernel
theorem d10_12 : decode method_4_code 12 = .ok (.iload_n 1, 1) := by decide +kernel
theorem d10_13 : decode method_4_code 13 = .ok (.iaload, 1) := by decide +kernel
theorem d10_14 : decode method_4_code 14 = .ok (.iload 5, 2) := by decide +kernel
theorem d10_16 : decode method_4_code 16 = .ok (.if_icmp .ne 5, 3) := by decide +kernel
theorem d10_19 : decode method_4_code 19 = .ok (.iload_n 1, 1) := by decide +kernel
theorem d10_20 : decode method_4_code 20 = .ok (.ireturn, 1) := by decide +kernel
theorem d10_21 : decode method_4_code 21 = .ok (.iload_n 0, 1) := by decide +kernel
theorem d10_22 : decode method_4_code 22 = .ok (.ireturn, 1) := by decide +kernel
theorem pn_10 : plainFor (⟨"com/example/vector_space_ranker/vectorspaceranker/IndexPostingPositionPinLaw", "hit", "(IIII[II)I"⟩ : MethodName) = true := plainFor_of_name (by first | (simp [plainName, overriddenIn]; done) | decide +kernel)
theorem ef_10 (m : MethodId) (x0 : Int32) (x1 : Int32) (x2 : Int32) (x3 : Int32) (x4 : Addr) (x5 : Int32) : entryFrame m #[(.int x0), (.int x1), (.int x2), (.int x3), (.ref x4), (.int x5)] 6 = mkF m 0 #[.val (.int x0), .val (.int x1), .val (.int x2), .val (.int x3), .val (.ref x4), .val (.int x5)] [] := by first | (simp [entryFrame, mkF, argsToLocals, Value.category]; done) | rfl
theorem hy_10 : ((⟨"com/example/vector_space_ranker/vectorspaceranker/IndexPostingPositionPinLaw", "hit", "(IIII[II)I"⟩ : MethodName)).cls ≠ "java/lang/invoke/MethodHandle" ∧ ((⟨"com/example/vector_space_ranker/vectorspaceranker/IndexPostingPositionPinLaw", "hit", "(IIII[II)I"⟩ : MethodName)).cls ≠ "java/lang/invoke/VarHandle" := by decide
set_option maxRecDepth 65536 in
set_option maxHeartbeats 40000000 in
theorem rm10 (l : Launch) (Z : State) (a0 : Array Value) (hw : ∀ d ∈ tables_1, d.before a0 Z = true) (ws : List Jvm.Cond) (acc i lo hi : Int32) (a : Addr) (d : Int32) (ds : List Int32) (kc : ClassId) (h0 : Heap) (n0 : Nat) (Z0 : n0 ≤ h0.size) (V_a : Arv Z h0 a kc .int (6 : Int32) (ds.map Value.int) (.int (0 : Int32))) (hj : ¬ i < 0 ∧ i < (6 : Int32)) :
    Con l Z (⟨"com/example/vector_space_ranker/vectorspaceranker/IndexPostingPositionPinLaw", "hit", "(IIII[II)I"⟩ : MethodName) method_4_code 6 (some .int) ws ({ frames := 0, cells := 0, slots := 0, locals := 0 } : Room) #[(.int acc), (.int i), (.int lo), (.int hi), (.ref a), (.int d)] h0 n0 (fun v h => v = some (.int (fh acc i lo hi d (ds.getD i.toNatClampNeg 0))) ∧ h = h0) := by
  refine Con.of pn_10 ?_
  intro G p e s m below meth c s₁ hs hx hby hml hown hnm hret hZ X0 fin
  have hml : c.maxLocals = 6 := hml
  have hown : s.vm.findClass "com/example/vector_space_ranker/vectorspaceranker/IndexPostingPositionPinLaw" = some m.cls := hown
  rw [ef_10]
  show G s₁ (mkF m 0 #[.val (.int acc), .val (.int i), .val (.int lo), .val (.int hi), .val (.ref a), .val (.int d)] [])
  refine hs.go (fun _ kk_ => XS.iloadN X0.here hx rfl (hb hby d10_0) rfl  kk_) ?_
  show G s₁ (mkF m 1 #[.val (.int acc), .val (.int i), .val (.int lo), .val (.int hi), .val (.ref a), .val (.int d)] [(.int lo)])
  refine hs.go (fun _ kk_ => XS.iloadN X0.here hx rfl (hb hby d10_1) rfl  kk_) ?_
  show G s₁ (mkF m 2 #[.val (.int acc), .val (.int i), .val (.int lo), .val (.int hi), .val (.ref a), .val (.int d)] [(.int i), (.int lo)])
  by_cases c2 : i < lo
  · refine hs.go (fun _ kk_ => XS.icmpYes X0.here hx rfl (pc0 := 2) (pc' := 21) rfl (hb hby d10_2) rfl (tlt c2).2.2.1 (by decide) (by decide) kk_) ?_
    show G s₁ (mkF m 21 #[.val (.int acc), .val (.int i), .val (.int lo), .val (.int hi), .val (.ref a), .val (.int d)] [])
    refine hs.go (fun _ kk_ => XS.iloadN X0.here hx rfl (hb hby d10_21) rfl  kk_) ?_
    show G s₁ (mkF m 22 #[.val (.int acc), .val (.int i), .val (.int lo), .val (.int hi), .val (.ref a), .val (.int d)] [(.int acc)])
    exact rRetI fin X0 hx (by decide) (by decide) hret (hb hby d10_22) ⟨by rw [fh, if_pos c2], rfl⟩
  · refine hs.go (fun _ kk_ => XS.icmpNo X0.here hx rfl (hb hby d10_2) rfl (flt c2).2.2.1 kk_) ?_
    show G s₁ (mkF m 5 #[.val (.int acc), .val (.int i), .val (.int lo), .val (.int hi), .val (.ref a), .val (.int d)] [])
    refine hs.go (fun _ kk_ => XS.iloadN X0.here hx rfl (hb hby d10_5) rfl  kk_) ?_
    show G s₁ (mkF m 6 #[.val (.int acc), .val (.int i), .val (.int lo), .val (.int hi), .val (.ref a), .val (.int d)] [(.int i)])
    refine hs.go (fun _ kk_ => XS.iloadN X0.here hx rfl (hb hby d10_6) rfl  kk_) ?_
    show G s₁ (mkF m 7 #[.val (.int acc), .val (.int i), .val (.int lo), .val (.int hi), .val (.ref a), .val (.int d)] [(.int hi), (.int i)])
    by_cases c7 : i < hi
    · refine hs.go (fun _ kk_ => XS.icmpNo X0.here hx rfl (hb hby d10_7) rfl (tlt c7).2.1 kk_) ?_
      show G s₁ (mkF m 10 #[.val (.int acc), .val (.int i), .val (.int lo), .val (.int hi), .val (.ref a), .val (.int d)] [])
      refine hs.go (fun _ kk_ => XS.aload X0.here hx rfl (hb hby d10_10) rfl rfl kk_) ?_
      show G s₁ (mkF m 12 #[.val (.int acc), .val (.int i), .val (.int lo), .val (.int hi), .val (.ref a), .val (.int d)] [(.ref a)])
      refine hs.go (fun _ kk_ => XS.iloadN X0.here hx rfl (hb hby d10_12) rfl  kk_) ?_
      show G s₁ (mkF m 13 #[.val (.int acc), .val (.int i), .val (.int lo), .val (.int hi), .val (.ref a), .val (.int d)] [(.int i), (.ref a)])
      refine rLdI hs X0 hx hZ V_a hj (v := (.int (ds.getD i.toNatClampNeg 0))) (own_gm ds _) rfl rfl (hb hby d10_13) ?_
      show G s₁ (mkF m 14 #[.val (.int acc), .val (.int i), .val (.int lo), .val (.int hi), .val (.ref a), .val (.int d)] [(.int (ds.getD i.toNatClampNeg 0))])
      refine hs.go (fun _ kk_ => XS.iload X0.here hx rfl (hb hby d10_14) rfl  kk_) ?_
      show G s₁ (mkF m 16 #[.val (.int acc), .val (.int i), .val (.int lo), .val (.int hi), .val (.ref a), .val (.int d)] [(.int d), (.int (ds.getD i.toNatClampNeg 0))])
      by_cases c16 : (ds.getD i.toNatClampNeg 0) = d
      · refine hs.go (fun _ kk_ => XS.icmpNo X0.here hx rfl (hb hby d10_16) rfl (teq c16).2 kk_) ?_
        show G s₁ (mkF m 19 #[.val (.int acc), .val (.int i), .val (.int lo), .val (.int hi), .val (.ref a), .val (.int d)] [])
        refine hs.go (fun _ kk_ => XS.iloadN X0.here hx rfl (hb hby d10_19) rfl  kk_) ?_
        show G s₁ (mkF m 20 #[.val (.int acc), .val (.int i), .val (.int lo), .val (.int hi), .val (.ref a), .val (.int d)] [(.int i)])
        exact rRetI fin X0 hx (by decide) (by decide) hret (hb hby d10_20) ⟨by rw [fh, if_neg c2, if_pos c7, if_pos c16], rfl⟩
      · refine hs.go (fun _ kk_ => XS.icmpYes X0.here hx rfl (pc0 := 16) (pc' := 21) rfl (hb hby d10_16) rfl (feq c16).2 (by decide) (by decide) kk_) ?_
        show G s₁ (mkF m 21 #[.val (.int acc), .val (.int i), .val (.int lo), .val (.int hi), .val (.ref a), .val (.int d)] [])
        refine hs.go (fun _ kk_ => XS.iloadN X0.here hx rfl (hb hby d10_21) rfl  kk_) ?_
        show G s₁ (mkF m 22 #[.val (.int acc), .val (.int i), .val (.int lo), .val (.int hi), .val (.ref a), .val (.int d)] [(.int acc)])
        exact rRetI fin X0 hx (by decide) (by decide) hret (hb hby d10_22) ⟨by rw [fh, if_neg c2, if_pos c7, if_neg c16], rfl⟩
    · refine hs.go (fun _ kk_ => XS.icmpYes X0.here hx rfl (pc0 := 7) (pc' := 21) rfl (hb hby d10_7) rfl (flt c7).2.1 (by decide) (by decide) kk_) ?_
      show G s₁ (mkF m 21 #[.val (.int acc), .val (.int i), .val (.int lo), .val (.int hi), .val (.ref a), .val (.int d)] [])
      refine hs.go (fun _ kk_ => XS.iloadN X0.here hx rfl (hb hby d10_21) rfl  kk_) ?_
      show G s₁ (mkF m 22 #[.val (.int acc), .val (.int i), .val (.int lo), .val (.int hi), .val (.ref a), .val (.int d)] [(.int acc)])
      exact rRetI fin X0 hx (by decide) (by decide) hret (hb hby d10_22) ⟨by rw [fh, if_neg c2, if_neg c7], rfl⟩

theorem own_g (gaps : Int64) (q : Int32) : ∃ g : Int, 0 ≤ g ∧ g ≤ 7 ∧ (((((gaps.toUInt64 >>> (q &&& 0x3f).toInt64.toUInt64).toInt64) &&& (7 : Int64)).toInt32)).toInt = g := by
  have a : (((gaps.toUInt64 >>> (q &&& 0x3f).toInt64.toUInt64).toInt64) &&& (7 : Int64)).toInt = ((gaps.toUInt64 >>> (q &&& 0x3f).toInt64.toUInt64).toInt64).toInt % 8 := c_maskL _ 7 3 (by decide) (by decide)
  have b := c_l2i (((gaps.toUInt64 >>> (q &&& 0x3f).toInt64.toUInt64).toInt64) &&& (7 : Int64))
  have r := rng32 ((((gaps.toUInt64 >>> (q &&& 0x3f).toInt64.toUInt64).toInt64) &&& (7 : Int64)).toInt32)
  exact ⟨_, by omega, by omega, rfl⟩
theorem own_nx {pv z d ix s1 s2 : Int32} {gaps : Int64} (N : Int) (hN : N ≤ 100) (hp : 0 ≤ pv.toInt ∧ pv.toInt ≤ N) (hz : (ix = s1 ∧ z = (1 : Int32)) ∨ (¬ (ix = s1) ∧ ix = s2 ∧ z = (1 : Int32)) ∨ (¬ (ix = s1) ∧ ¬ (ix = s2) ∧ z = (0 : Int32))) (hd : d = f1 pv z gaps ix) :
    0 ≤ d.toInt ∧ d.toInt ≤ N + 8 ∧ (ix.toInt = s1.toInt ∨ ix.toInt = s2.toInt ∨ pv.toInt < d.toInt) := by
  have k1 : (1 : Int32).toInt = 1 := rfl
  have k01 : ¬ ((1 : Int32) = (0 : Int32)) := by decide
  rw [hd, f1]
  obtain ⟨g, g1, g2, g3⟩ := own_g gaps ((3 : Int32) * ix)
  generalize hG : (((gaps.toUInt64 >>> (((3 : Int32) * ix) &&& 0x3f).toInt64.toUInt64).toInt64) &&& (7 : Int64)).toInt32 = G at *
  have q := c_iadd pv 1
  have q2 := c_iadd (pv + 1) G
  have r := rng32 (pv + 1)
  have r2 := rng32 (pv + 1 + G)
  rcases hz with ⟨h, rfl⟩ | ⟨-, h, rfl⟩ | ⟨-, -, rfl⟩
  · rw [if_neg k01]; have h' := congrArg Int32.toInt h; omega
  · rw [if_neg k01]; have h' := congrArg Int32.toInt h; omega
  · rw [if_pos rfl]; omega
theorem own_s1 {x s : Int32} (h : s = ((1 : Int32) + (x &&& (3 : Int32)))) : 1 ≤ s.toInt ∧ s.toInt ≤ 4 := by
  have a : (x &&& (3 : Int32)).toInt = x.toInt % 4 := c_mask x 3 2 (by decide) (by decide)
  have q := c_iadd 1 (x &&& (3 : Int32))
  have r := rng32 ((1 : Int32) + (x &&& (3 : Int32)))
  have k1 : (1 : Int32).toInt = 1 := rfl
  rw [h]; omega
theorem own_nz {s : Int32} (h : 1 ≤ s.toInt ∧ s.toInt ≤ 4) : ((5 : Int32) - s) ≠ 0 := by
  intro q
  have a := c_isub 5 s
  have k5 : (5 : Int32).toInt = 5 := rfl
  have k0 : (0 : Int32).toInt = 0 := rfl
  rw [q] at a
  omega
theorem own_s2 {x s t : Int32} (h : 1 ≤ s.toInt ∧ s.toInt ≤ 4) (ht : t = ((s + (1 : Int32)) + ((((x.toUInt32 >>> ((2 : Int32) &&& 31).toUInt32).toInt32) &&& (255 : Int32)) % ((5 : Int32) - s)))) : s.toInt < t.toInt ∧ t.toInt ≤ 5 := by
  have a := c_isub 5 s
  have r := rng32 ((5 : Int32) - s)
  have k5 : (5 : Int32).toInt = 5 := rfl
  have k1 : (1 : Int32).toInt = 1 := rfl
  have u : (((x.toUInt32 >>> ((2 : Int32) &&& 31).toUInt32).toInt32) &&& (255 : Int32)).toInt = ((x.toUInt32 >>> ((2 : Int32) &&& 31).toUInt32).toInt32).toInt % 256 := c_mask _ 255 8 (by decide) (by decide)
  have v := (c_iremV (((x.toUInt32 >>> ((2 : Int32) &&& 31).toUInt32).toInt32) &&& (255 : Int32)) ((5 : Int32) - s)).1 (by omega) (by omega)
  have q := c_iadd s 1
  have rq := rng32 (s + 1)
  have w := c_iadd (s + 1) ((((x.toUInt32 >>> ((2 : Int32) &&& 31).toUInt32).toInt32) &&& (255 : Int32)) % ((5 : Int32) - s))
  rw [← ht] at w
  have r2 := rng32 t
  omega
theorem own_tm {x f : Int32} (h : f = ((x &&& (2147483647 : Int32)) % (3 : Int32))) : f = (0 : Int32) ∨ f = (1 : Int32) ∨ f = (2 : Int32) := by
  have a := (c_and x 2147483647 (by decide)).1
  have b := (c_irem (x &&& (2147483647 : Int32)) 3 3 rfl).1 a
  rw [← h] at b
  have k0 : (0 : Int32).toInt = 0 := rfl
  have k1 : (1 : Int32).toInt = 1 := rfl
  have k2 : (2 : Int32).toInt = 2 := rfl
  simp only [e32 (x := f), k0, k1, k2]
  omega
theorem own_sl {x f : Int32} (h : f = (((x.toUInt32 >>> ((1 : Int32) &&& 31).toUInt32).toInt32) % (6 : Int32))) : ¬ f < 0 ∧ f < (6 : Int32) := by
  have u : ((x.toUInt32 >>> ((1 : Int32) &&& 31).toUInt32).toInt32).toInt = (x.toInt % 4294967296) / 2 := c_iushr x 1 1 (by decide) (by decide)
  have b := (c_irem ((x.toUInt32 >>> ((1 : Int32) &&& 31).toUInt32).toInt32) 6 6 rfl).1 (by omega)
  rw [← h] at b
  have k0 : (0 : Int32).toInt = 0 := rfl
  have k6 : (6 : Int32).toInt = 6 := rfl
  rw [lt32, lt32]; omega
theorem own_d0 {gaps : Int64} {d : Int32} (h : d = ((gaps &&& (7 : Int64)).toInt32)) : 0 ≤ d.toInt ∧ d.toInt ≤ 7 := by
  have a : (gaps &&& (7 : Int64)).toInt = gaps.toInt % 8 := c_maskL _ 7 3 (by decide) (by decide)
  have b := c_l2i (gaps &&& (7 : Int64))
  have r := rng32 ((gaps &&& (7 : Int64)).toInt32)
  rw [h]; omega
theorem own_srt {d0 d1 d2 d3 d4 d5 s1 s2 : Int32} (b1 : 1 ≤ s1.toInt ∧ s1.toInt ≤ 4) (b2 : s1.toInt < s2.toInt ∧ s2.toInt ≤ 5)
    (c1 : (1 : Int) = s1.toInt ∨ (1 : Int) = s2.toInt ∨ d0.toInt < d1.toInt) (c2 : (2 : Int) = s1.toInt ∨ (2 : Int) = s2.toInt ∨ d1.toInt < d2.toInt) (c3 : (3 : Int) = s1.toInt ∨ (3 : Int) = s2.toInt ∨ d2.toInt < d3.toInt) (c4 : (4 : Int) = s1.toInt ∨ (4 : Int) = s2.toInt ∨ d3.toInt < d4.toInt) (c5 : (5 : Int) = s1.toInt ∨ (5 : Int) = s2.toInt ∨ d4.toInt < d5.toInt)
    (n m : Nat) (H : (n = 0 ∧ (m : Int) = s1.toInt) ∨ ((n : Int) = s1.toInt ∧ (m : Int) = s2.toInt) ∨ ((n : Int) = s2.toInt ∧ m = 6)) : Srt [d0, d1, d2, d3, d4, d5] n m := by
  intro t u h1 h2 h3
  have h5 : u ≤ 5 := by omega
  have hu : u = 1 ∨ u = 2 ∨ u = 3 ∨ u = 4 ∨ u = 5 := by omega
  have g0 : List.getD [d0, d1, d2, d3, d4, d5] 0 0 = d0 := rfl
  have g1 : List.getD [d0, d1, d2, d3, d4, d5] 1 0 = d1 := rfl
  have g2 : List.getD [d0, d1, d2, d3, d4, d5] 2 0 = d2 := rfl
  have g3 : List.getD [d0, d1, d2, d3, d4, d5] 3 0 = d3 := rfl
  have g4 : List.getD [d0, d1, d2, d3, d4, d5] 4 0 = d4 := rfl
  have g5 : List.getD [d0, d1, d2, d3, d4, d5] 5 0 = d5 := rfl
  have ht : t = 0 ∨ t = 1 ∨ t = 2 ∨ t = 3 ∨ t = 4 := by omega
  rcases hu with rfl | rfl | rfl | rfl | rfl <;> rcases ht with rfl | rfl | rfl | rfl | rfl <;> simp only [g0, g1, g2, g3, g4, g5] <;> omega
theorem own_law {d0 d1 d2 d3 d4 d5 lo hi doc u : Int32} {n m : Nat} (hn : lo.toInt = n) (hm : hi.toInt = m) (h6 : m ≤ 6) (hs : Srt [d0, d1, d2, d3, d4, d5] n m)
    (hr : ∃ r : Int32, Fnd [d0, d1, d2, d3, d4, d5] n m doc r ∧ ((r.toInt < (0 : Int32).toInt ∧ u = (-1 : Int32)) ∨ (¬ r.toInt < (0 : Int32).toInt ∧ u = r))) :
    u = fh (fh (fh (fh (fh (fh (-1 : Int32) (0 : Int32) lo hi doc d0) (1 : Int32) lo hi doc d1) (2 : Int32) lo hi doc d2) (3 : Int32) lo hi doc d3) (4 : Int32) lo hi doc d4) (5 : Int32) lo hi doc d5 := by
  obtain ⟨r, hf, hu⟩ := hr
  have k0 : (0 : Int32).toInt = 0 := rfl
  have k1 : (1 : Int32).toInt = 1 := rfl
  have k2 : (2 : Int32).toInt = 2 := rfl
  have k3 : (3 : Int32).toInt = 3 := rfl
  have k4 : (4 : Int32).toInt = 4 := rfl
  have k5 : (5 : Int32).toInt = 5 := rfl
  have km : (-1 : Int32).toInt = -1 := rfl
  rw [k0] at hu
  have yes : ∀ (acc i x : Int32) (t : Nat), i.toInt = t → n ≤ t → t < m → x = doc → fh acc i lo hi doc x = i := by
    intro acc i x t h1 h2 h3 h4
    rw [fh, if_neg (by rw [lt32]; omega), if_pos (by rw [lt32]; omega), if_pos h4]
  have no : ∀ (acc i x : Int32) (t : Nat), i.toInt = t → (n ≤ t → t < m → ¬ x = doc) → fh acc i lo hi doc x = acc := by
    intro acc i x t h1 h2
    rw [fh]
    by_cases c1 : i < lo
    · rw [if_pos c1]
    · rw [if_neg c1]
      by_cases c2 : i < hi
      · rw [if_pos c2]; rw [lt32] at c1 c2; rw [if_neg (h2 (by omega) (by omega))]
      · rw [if_neg c2]
  rcases hf with ⟨t, t1, t2, t3, t4⟩ | ⟨t1, t2⟩
  · have hur : u = r := by rcases hu with ⟨h, -⟩ | ⟨-, h⟩; omega; exact h
    have un : ∀ v : Nat, n ≤ v → v < m → v ≠ t → ¬ List.getD [d0, d1, d2, d3, d4, d5] v 0 = doc := by
      intro v v1 v2 v3 v4
      rcases Nat.lt_or_gt_of_ne v3 with z | z
      · have q := hs v t v1 z t2; rw [v4, t4] at q; omega
      · have q := hs t v t1 z v2; rw [v4, t4] at q; omega
    have ht : t = 0 ∨ t = 1 ∨ t = 2 ∨ t = 3 ∨ t = 4 ∨ t = 5 := by omega
    rw [hur]
    apply eq32
    rw [t3]
    have u1 := fun a b => un 1 a b
    have u2 := fun a b => un 2 a b
    have u3 := fun a b => un 3 a b
    have u4 := fun a b => un 4 a b
    have u5 := fun a b => un 5 a b
    rcases ht with rfl | rfl | rfl | rfl | rfl | rfl
    · rw [no _ _ d5 5 k5 (fun a b => u5 a b (by decide)), no _ _ d4 4 k4 (fun a b => u4 a b (by decide)), no _ _ d3 3 k3 (fun a b => u3 a b (by decide)), no _ _ d2 2 k2 (fun a b => u2 a b (by decide)), no _ _ d1 1 k1 (fun a b => u1 a b (by decide)), yes _ _ d0 0 k0 t1 t2 t4, k0]; rfl
    · rw [no _ _ d5 5 k5 (fun a b => u5 a b (by decide)), no _ _ d4 4 k4 (fun a b => u4 a b (by decide)), no _ _ d3 3 k3 (fun a b => u3 a b (by decide)), no _ _ d2 2 k2 (fun a b => u2 a b (by decide)), yes _ _ d1 1 k1 t1 t2 t4, k1]; rfl
    · rw [no _ _ d5 5 k5 (fun a b => u5 a b (by decide)), no _ _ d4 4 k4 (fun a b => u4 a b (by decide)), no _ _ d3 3 k3 (fun a b => u3 a b (by decide)), yes _ _ d2 2 k2 t1 t2 t4, k2]; rfl
    · rw [no _ _ d5 5 k5 (fun a b => u5 a b (by decide)), no _ _ d4 4 k4 (fun a b => u4 a b (by decide)), yes _ _ d3 3 k3 t1 t2 t4, k3]; rfl
    · rw [no _ _ d5 5 k5 (fun a b => u5 a b (by decide)), yes _ _ d4 4 k4 t1 t2 t4, k4]; rfl
    · rw [yes _ _ d5 5 k5 t1 t2 t4, k5]; rfl
  · have hur : u = (-1 : Int32) := by rcases hu with ⟨-, h⟩ | ⟨h, -⟩; exact h; omega
    rw [hur, no _ _ d5 5 k5 (t2 5), no _ _ d4 4 k4 (t2 4), no _ _ d3 3 k3 (t2 3), no _ _ d2 2 k2 (t2 2), no _ _ d1 1 k1 (t2 1), no _ _ d0 0 k0 (t2 0)]
theorem own_se {tm s1 s2 : Int32} (h : tm = (0 : Int32) ∨ tm = (1 : Int32) ∨ tm = (2 : Int32)) (b1 : 1 ≤ s1.toInt ∧ s1.toInt ≤ 4) (b2 : s1.toInt < s2.toInt ∧ s2.toInt ≤ 5) :
    ∃ n m : Nat, (List.getD [(0 : Int32), s1, s2, (6 : Int32)] tm.toNatClampNeg 0).toInt = n ∧ (List.getD [(0 : Int32), s1, s2, (6 : Int32)] (tm + (1 : Int32)).toNatClampNeg 0).toInt = m ∧ n ≤ m ∧ m ≤ 6 ∧ ((n = 0 ∧ (m : Int) = s1.toInt) ∨ ((n : Int) = s1.toInt ∧ (m : Int) = s2.toInt) ∨ ((n : Int) = s2.toInt ∧ m = 6)) ∧ (¬ tm < 0 ∧ tm < (4 : Int32)) ∧ (¬ (tm + (1 : Int32)) < 0 ∧ (tm + (1 : Int32)) < (4 : Int32)) := by
  rcases h with rfl | rfl | rfl
  · exact ⟨0, s1.toInt.toNat, rfl, by show s1.toInt = _; omega, by omega, by omega, by omega, ⟨by decide, by decide⟩, ⟨by decide, by decide⟩⟩
  · exact ⟨s1.toInt.toNat, s2.toInt.toNat, by show s1.toInt = _; omega, by show s2.toInt = _; omega, by omega, by omega, by omega, ⟨by decide, by decide⟩, ⟨by decide, by decide⟩⟩
  · exact ⟨s2.toInt.toNat, 6, by show s2.toInt = _; omega, rfl, by omega, by omega, by omega, ⟨by decide, by decide⟩, ⟨by decide, by decide⟩⟩

theorem pd_3 : parseMethodDescriptor "(IZJI)I" = some ⟨[.int, .boolean, .long, .int], some .int⟩ := by decide +kernel
theorem pd_4 : parseMethodDescriptor "(Lcom/example/vector_space_ranker/vectorspaceranker/Analysis;[Ljava/lang/String;[I[Ljava/lang/String;[I[I[IJ)V" = some ⟨[(.object "com/example/vector_space_ranker/vectorspaceranker/Analysis"), (.array (.object "java/lang/String")), (.array .int), (.array (.object "java/lang/String")), (.array .int), (.array .int), (.array .int), .long], none⟩ := by decide +kernel
theorem pd_5 : parseMethodDescriptor "(II)I" = some ⟨[.int, .int], some .int⟩ := by decide +kernel
theorem pd_6 : parseMethodDescriptor "(IIII[II)I" = some ⟨[.int, .int, .int, .int, (.array .int), .int], some .int⟩ := by decide +kernel
theorem pn_0 : plainFor x = true := plainFor_of_name (show plainName "com/example/vector_space_ranker/vectorspaceranker/IndexPostingPositionPinLaw" = true by first | (simp [plainName, overriddenIn]; done) | decide +kernel)
theorem ef_0 (m : MethodId) (x0 : Int64) (x1 : Int32) (x2 : Int32) (x3 : Int32) (x4 : Int32) : entryFrame m #[(.long x0), (.int x1), (.int x2), (.int x3), (.int x4)] maxLocals = mkF m 0 #[.val (.long x0), .second, .val (.int x1), .val (.int x2), .val (.int x3), .val (.int x4), .unset, .unset, .unset, .unset, .unset, .unset, .unset, .unset, .unset, .unset, .unset] [] := by first | (simp [entryFrame, mkF, argsToLocals, Value.category, maxLocals]; done) | rfl
set_option maxRecDepth 65536 in
set_option maxHeartbeats 40000000 in
theorem rm0 (l : Launch) (Z : State) (a0 : Array Value) (hw : ∀ d ∈ tables_1, d.before a0 Z = true) (ws : List Jvm.Cond) (gaps : Int64) (sp wh mode raw : Int32) (h0 : Heap) (n0 : Nat) (Z0 : n0 ≤ h0.size)  :
    Con l Z x code maxLocals ret ws room_1 #[(.long gaps), (.int sp), (.int wh), (.int mode), (.int raw)] h0 n0 (fun v h => v = some (.int 1)) := by
  refine Con.of pn_0 ?_
  intro G p e s m below meth c s₁ hs hx hby hml hown hnm hret hZ X0 fin
  have hml : c.maxLocals = 17 := hml
  have hown : s.vm.findClass "com/example/vector_space_ranker/vectorspaceranker/IndexPostingPositionPinLaw" = some m.cls := hown
  rw [ef_0]
  show G s₁ (mkF m 0 #[.val (.long gaps), .second, .val (.int sp), .val (.int wh), .val (.int mode), .val (.int raw), .unset, .unset, .unset, .unset, .unset, .unset, .unset, .unset, .unset, .unset, .unset] [])
  refine hs.go (fun _ kk_ => XS.iconst X0.here hx rfl (hb hby at_0) kk_) ?_
  show G s₁ (mkF m 1 #[.val (.long gaps), .second, .val (.int sp), .val (.int wh), .val (.int mode), .val (.int raw), .unset, .unset, .unset, .unset, .unset, .unset, .unset, .unset, .unset, .unset, .unset] [(.int (1 : Int32))])
  refine hs.go (fun _ kk_ => XS.iloadN X0.here hx rfl (hb hby at_1) rfl  kk_) ?_
  show G s₁ (mkF m 2 #[.val (.long gaps), .second, .val (.int sp), .val (.int wh), .val (.int mode), .val (.int raw), .unset, .unset, .unset, .unset, .unset, .unset, .unset, .unset, .unset, .unset, .unset] [(.int sp), (.int (1 : Int32))])
  refine hs.go (fun _ kk_ => XS.iconst X0.here hx rfl (hb hby at_2) kk_) ?_
  show G s₁ (mkF m 3 #[.val (.long gaps), .second, .val (.int sp), .val (.int wh), .val (.int mode), .val (.int raw), .unset, .unset, .unset, .unset, .unset, .unset, .unset, .unset, .unset, .unset, .unset] [(.int (3 : Int32)), (.int sp), (.int (1 : Int32))])
  refine hs.go (fun _ kk_ => XS.iand X0.here hx rfl (hb hby at_3) rfl kk_) ?_
  show G s₁ (mkF m 4 #[.val (.long gaps), .second, .val (.int sp), .val (.int wh), .val (.int mode), .val (.int raw), .unset, .unset, .unset, .unset, .unset, .unset, .unset, .unset, .unset, .unset, .unset] [(.int (sp &&& (3 : Int32))), (.int (1 : Int32))])
  refine hs.go (fun _ kk_ => XS.iadd X0.here hx rfl (hb hby at_4) rfl kk_) ?_
  show G s₁ (mkF m 5 #[.val (.long gaps), .second, .val (.int sp), .val (.int wh), .val (.int mode), .val (.int raw), .unset, .unset, .unset, .unset, .unset, .unset, .unset, .unset, .unset, .unset, .unset] [(.int ((1 : Int32) + (sp &&& (3 : Int32))))])
  refine nameIt (P := fun zz_ : Int32 => G s₁ (mkF m 5 #[.val (.long gaps), .second, .val (.int sp), .val (.int wh), .val (.int mode), .val (.int raw), .unset, .unset, .unset, .unset, .unset, .unset, .unset, .unset, .unset, .unset, .unset] [(.int zz_)])) ((1 : Int32) + (sp &&& (3 : Int32))) (fun s1 hs1 => ?_)
  show G s₁ (mkF m 5 #[.val (.long gaps), .second, .val (.int sp), .val (.int wh), .val (.int mode), .val (.int raw), .unset, .unset, .unset, .unset, .unset, .unset, .unset, .unset, .unset, .unset, .unset] [(.int s1)])
  refine hs.go (fun _ kk_ => XS.istore X0.here hx rfl (hb hby at_5) rfl (l' := #[.val (.long gaps), .second, .val (.int sp), .val (.int wh), .val (.int mode), .val (.int raw), .val (.int s1), .unset, .unset, .unset, .unset, .unset, .unset, .unset, .unset, .unset, .unset]) rfl kk_) ?_
  show G s₁ (mkF m 7 #[.val (.long gaps), .second, .val (.int sp), .val (.int wh), .val (.int mode), .val (.int raw), .val (.int s1), .unset, .unset, .unset, .unset, .unset, .unset, .unset, .unset, .unset, .unset] [])
  refine hs.go (fun _ kk_ => XS.iload X0.here hx rfl (hb hby at_7) rfl  kk_) ?_
  show G s₁ (mkF m 9 #[.val (.long gaps), .second, .val (.int sp), .val (.int wh), .val (.int mode), .val (.int raw), .val (.int s1), .unset, .unset, .unset, .unset, .unset, .unset, .unset, .unset, .unset, .unset] [(.int s1)])
  refine hs.go (fun _ kk_ => XS.iconst X0.here hx rfl (hb hby at_9) kk_) ?_
  show G s₁ (mkF m 10 #[.val (.long gaps), .second, .val (.int sp), .val (.int wh), .val (.int mode), .val (.int raw), .val (.int s1), .unset, .unset, .unset, .unset, .unset, .unset, .unset, .unset, .unset, .unset] [(.int (1 : Int32)), (.int s1)])
  refine hs.go (fun _ kk_ => XS.iadd X0.here hx rfl (hb hby at_10) rfl kk_) ?_
  show G s₁ (mkF m 11 #[.val (.long gaps), .second, .val (.int sp), .val (.int wh), .val (.int mode), .val (.int raw), .val (.int s1), .unset, .unset, .unset, .unset, .unset, .unset, .unset, .unset, .unset, .unset] [(.int (s1 + (1 : Int32)))])
  refine hs.go (fun _ kk_ => XS.iloadN X0.here hx rfl (hb hby at_11) rfl  kk_) ?_
  show G s₁ (mkF m 12 #[.val (.long gaps), .second, .val (.int sp), .val (.int wh), .val (.int mode), .val (.int raw), .val (.int s1), .unset, .unset, .unset, .unset, .unset, .unset, .unset, .unset, .unset, .unset] [(.int sp), (.int (s1 + (1 : Int32)))])
  refine hs.go (fun _ kk_ => XS.iconst X0.here hx rfl (hb hby at_12) kk_) ?_
  show G s₁ (mkF m 13 #[.val (.long gaps), .second, .val (.int sp), .val (.int wh), .val (.int mode), .val (.int raw), .val (.int s1), .unset, .unset, .unset, .unset, .unset, .unset, .unset, .unset, .unset, .unset] [(.int (2 : Int32)), (.int sp), (.int (s1 + (1 : Int32)))])
  refine hs.go (fun _ kk_ => XS.iushr X0.here hx rfl (hb hby at_13) rfl kk_) ?_
  show G s₁ (mkF m 14 #[.val (.long gaps), .second, .val (.int sp), .val (.int wh), .val (.int mode), .val (.int raw), .val (.int s1), .unset, .unset, .unset, .unset, .unset, .unset, .unset, .unset, .unset, .unset] [(.int ((sp.toUInt32 >>> ((2 : Int32) &&& 31).toUInt32).toInt32)), (.int (s1 + (1 : Int32)))])
  refine hs.go (fun _ kk_ => XS.sipush X0.here hx rfl (hb hby at_14) kk_) ?_
  show G s₁ (mkF m 17 #[.val (.long gaps), .second, .val (.int sp), .val (.int wh), .val (.int mode), .val (.int raw), .val (.int s1), .unset, .unset, .unset, .unset, .unset, .unset, .unset, .unset, .unset, .unset] [(.int (255 : Int32)), (.int ((sp.toUInt32 >>> ((2 : Int32) &&& 31).toUInt32).toInt32)), (.int (s1 + (1 : Int32)))])
  refine hs.go (fun _ kk_ => XS.iand X0.here hx rfl (hb hby at_17) rfl kk_) ?_
  show G s₁ (mkF m 18 #[.val (.long gaps), .second, .val (.int sp), .val (.int wh), .val (.int mode), .val (.int raw), .val (.int s1), .unset, .unset, .unset, .unset, .unset, .unset, .unset, .unset, .unset, .unset] [(.int (((sp.toUInt32 >>> ((2 : Int32) &&& 31).toUInt32).toInt32) &&& (255 : Int32))), (.int (s1 + (1 : Int32)))])
  refine hs.go (fun _ kk_ => XS.iconst X0.here hx rfl (hb hby at_18) kk_) ?_
  show G s₁ (mkF m 19 #[.val (.long gaps), .second, .val (.int sp), .val (.int wh), .val (.int mode), .val (.int raw), .val (.int s1), .unset, .unset, .unset, .unset, .unset, .unset, .unset, .unset, .unset, .unset] [(.int (5 : Int32)), (.int (((sp.toUInt32 >>> ((2 : Int32) &&& 31).toUInt32).toInt32) &&& (255 : Int32))), (.int (s1 + (1 : Int32)))])
  refine hs.go (fun _ kk_ => XS.iload X0.here hx rfl (hb hby at_19) rfl  kk_) ?_
  show G s₁ (mkF m 21 #[.val (.long gaps), .second, .val (.int sp), .val (.int wh), .val (.int mode), .val (.int raw), .val (.int s1), .unset, .unset, .unset, .unset, .unset, .unset, .unset, .unset, .unset, .unset] [(.int s1), (.int (5 : Int32)), (.int (((sp.toUInt32 >>> ((2 : Int32) &&& 31).toUInt32).toInt32) &&& (255 : Int32))), (.int (s1 + (1 : Int32)))])
  refine hs.go (fun _ kk_ => XS.isub X0.here hx rfl (hb hby at_21) rfl kk_) ?_
  show G s₁ (mkF m 22 #[.val (.long gaps), .second, .val (.int sp), .val (.int wh), .val (.int mode), .val (.int raw), .val (.int s1), .unset, .unset, .unset, .unset, .unset, .unset, .unset, .unset, .unset, .unset] [(.int ((5 : Int32) - s1)), (.int (((sp.toUInt32 >>> ((2 : Int32) &&& 31).toUInt32).toInt32) &&& (255 : Int32))), (.int (s1 + (1 : Int32)))])
  refine rIrem hs X0 hx rfl (hb hby at_22) rfl (own_nz (own_s1 hs1)) ?_
  show G s₁ (mkF m 23 #[.val (.long gaps), .second, .val (.int sp), .val (.int wh), .val (.int mode), .val (.int raw), .val (.int s1), .unset, .unset, .unset, .unset, .unset, .unset, .unset, .unset, .unset, .unset] [(.int ((((sp.toUInt32 >>> ((2 : Int32) &&& 31).toUInt32).toInt32) &&& (255 : Int32)) % ((5 : Int32) - s1))), (.int (s1 + (1 : Int32)))])
  refine hs.go (fun _ kk_ => XS.iadd X0.here hx rfl (hb hby at_23) rfl kk_) ?_
  show G s₁ (mkF m 24 #[.val (.long gaps), .second, .val (.int sp), .val (.int wh), .val (.int mode), .val (.int raw), .val (.int s1), .unset, .unset, .unset, .unset, .unset, .unset, .unset, .unset, .unset, .unset] [(.int ((s1 + (1 : Int32)) + ((((sp.toUInt32 >>> ((2 : Int32) &&& 31).toUInt32).toInt32) &&& (255 : Int32)) % ((5 : Int32) - s1))))])
  refine nameIt (P := fun zz_ : Int32 => G s₁ (mkF m 24 #[.val (.long gaps), .second, .val (.int sp), .val (.int wh), .val (.int mode), .val (.int raw), .val (.int s1), .unset, .unset, .unset, .unset, .unset, .unset, .unset, .unset, .unset, .unset] [(.int zz_)])) ((s1 + (1 : Int32)) + ((((sp.toUInt32 >>> ((2 : Int32) &&& 31).toUInt32).toInt32) &&& (255 : Int32)) % ((5 : Int32) - s1))) (fun s2 hs2 => ?_)
  show G s₁ (mkF m 24 #[.val (.long gaps), .second, .val (.int sp), .val (.int wh), .val (.int mode), .val (.int raw), .val (.int s1), .unset, .unset, .unset, .unset, .unset, .unset, .unset, .unset, .unset, .unset] [(.int s2)])
  refine hs.go (fun _ kk_ => XS.istore X0.here hx rfl (hb hby at_24) rfl (l' := #[.val (.long gaps), .second, .val (.int sp), .val (.int wh), .val (.int mode), .val (.int raw), .val (.int s1), .val (.int s2), .unset, .unset, .unset, .unset, .unset, .unset, .unset, .unset, .unset]) rfl kk_) ?_
  show G s₁ (mkF m 26 #[.val (.long gaps), .second, .val (.int sp), .val (.int wh), .val (.int mode), .val (.int raw), .val (.int s1), .val (.int s2), .unset, .unset, .unset, .unset, .unset, .unset, .unset, .unset, .unset] [])
  refine hs.go (fun _ kk_ => XS.iconst X0.here hx rfl (hb hby at_26) kk_) ?_
  show G s₁ (mkF m 27 #[.val (.long gaps), .second, .val (.int sp), .val (.int wh), .val (.int mode), .val (.int raw), .val (.int s1), .val (.int s2), .unset, .unset, .unset, .unset, .unset, .unset, .unset, .unset, .unset] [(.int (4 : Int32))])
  refine rNewP hs X0 hx hZ (hw _ (List.mem_of_getElem? (i := 0) rfl)) rfl (hb hby at_27) rfl (by decide) 4 4 (by decide) (by decide) (by decide) (by decide) (fun T1 h1 k1 sts g1 X1 E1 V_sts => ?_)
  have V_sts : Arv Z h1 sts k1 .int (4 : Int32) [(.int (0 : Int32)), (.int (0 : Int32)), (.int (0 : Int32)), (.int (0 : Int32))] (.int (0 : Int32)) := V_sts
  have g_sts : n0 ≤ sts := by rw [g1]; exact Z0
  have Z0 := Nat.le_trans Z0 E1.1
  show G T1 (mkF m 29 #[.val (.long gaps), .second, .val (.int sp), .val (.int wh), .val (.int mode), .val (.int raw), .val (.int s1), .val (.int s2), .unset, .unset, .unset, .unset, .unset, .unset, .unset, .unset, .unset] [(.ref sts)])
  refine hs.go (fun _ kk_ => XS.dup X1.here hx rfl (hb hby at_29) rfl rfl kk_) ?_
  show G T1 (mkF m 30 #[.val (.long gaps), .second, .val (.int sp), .val (.int wh), .val (.int mode), .val (.int raw), .val (.int s1), .val (.int s2), .unset, .unset, .unset, .unset, .unset, .unset, .unset, .unset, .unset] [(.ref sts), (.ref sts)])
  refine hs.go (fun _ kk_ => XS.iconst X1.here hx rfl (hb hby at_30) kk_) ?_
  show G T1 (mkF m 31 #[.val (.long gaps), .second, .val (.int sp), .val (.int wh), .val (.int mode), .val (.int raw), .val (.int s1), .val (.int s2), .unset, .unset, .unset, .unset, .unset, .unset, .unset, .unset, .unset] [(.int (0 : Int32)), (.ref sts), (.ref sts)])
  refine hs.go (fun _ kk_ => XS.iconst X1.here hx rfl (hb hby at_31) kk_) ?_
  show G T1 (mkF m 32 #[.val (.long gaps), .second, .val (.int sp), .val (.int wh), .val (.int mode), .val (.int raw), .val (.int s1), .val (.int s2), .unset, .unset, .unset, .unset, .unset, .unset, .unset, .unset, .unset] [(.int (0 : Int32)), (.int (0 : Int32)), (.ref sts), (.ref sts)])
  refine rStI hs X1 hx hZ V_sts g_sts ⟨by decide, by decide⟩ 0 (by decide) (by simp) rfl rfl (hb hby at_32) (fun T2 h2 X2 W2 V_sts => ?_)
  have V_sts : Arv Z h2 sts k1 .int (4 : Int32) [(.int (0 : Int32)), (.int (0 : Int32)), (.int (0 : Int32)), (.int (0 : Int32))] (.int (0 : Int32)) := V_sts
  have Z0 := Nat.le_trans Z0 (Keep.of_wr W2).1
  show G T2 (mkF m 33 #[.val (.long gaps), .second, .val (.int sp), .val (.int wh), .val (.int mode), .val (.int raw), .val (.int s1), .val (.int s2), .unset, .unset, .unset, .unset, .unset, .unset, .unset, .unset, .unset] [(.ref sts)])
  refine hs.go (fun _ kk_ => XS.dup X2.here hx rfl (hb hby at_33) rfl rfl kk_) ?_
  show G T2 (mkF m 34 #[.val (.long gaps), .second, .val (.int sp), .val (.int wh), .val (.int mode), .val (.int raw), .val (.int s1), .val (.int s2), .unset, .unset, .unset, .unset, .unset, .unset, .unset, .unset, .unset] [(.ref sts), (.ref sts)])
  refine hs.go (fun _ kk_ => XS.iconst X2.here hx rfl (hb hby at_34) kk_) ?_
  show G T2 (mkF m 35 #[.val (.long gaps), .second, .val (.int sp), .val (.int wh), .val (.int mode), .val (.int raw), .val (.int s1), .val (.int s2), .unset, .unset, .unset, .unset, .unset, .unset, .unset, .unset, .unset] [(.int (1 : Int32)), (.ref sts), (.ref sts)])
  refine hs.go (fun _ kk_ => XS.iload X2.here hx rfl (hb hby at_35) rfl  kk_) ?_
  show G T2 (mkF m 37 #[.val (.long gaps), .second, .val (.int sp), .val (.int wh), .val (.int mode), .val (.int raw), .val (.int s1), .val (.int s2), .unset, .unset, .unset, .unset, .unset, .unset, .unset, .unset, .unset] [(.int s1), (.int (1 : Int32)), (.ref sts), (.ref sts)])
  refine rStI hs X2 hx hZ V_sts g_sts ⟨by decide, by decide⟩ 1 (by decide) (by simp) rfl rfl (hb hby at_37) (fun T3 h3 X3 W3 V_sts => ?_)
  have V_sts : Arv Z h3 sts k1 .int (4 : Int32) [(.int (0 : Int32)), (.int s1), (.int (0 : Int32)), (.int (0 : Int32))] (.int (0 : Int32)) := V_sts
  have Z0 := Nat.le_trans Z0 (Keep.of_wr W3).1
  show G T3 (mkF m 38 #[.val (.long gaps), .second, .val (.int sp), .val (.int wh), .val (.int mode), .val (.int raw), .val (.int s1), .val (.int s2), .unset, .unset, .unset, .unset, .unset, .unset, .unset, .unset, .unset] [(.ref sts)])
  refine hs.go (fun _ kk_ => XS.dup X3.here hx rfl (hb hby at_38) rfl rfl kk_) ?_
  show G T3 (mkF m 39 #[.val (.long gaps), .second, .val (.int sp), .val (.int wh), .val (.int mode), .val (.int raw), .val (.int s1), .val (.int s2), .unset, .unset, .unset, .unset, .unset, .unset, .unset, .unset, .unset] [(.ref sts), (.ref sts)])
  refine hs.go (fun _ kk_ => XS.iconst X3.here hx rfl (hb hby at_39) kk_) ?_
  show G T3 (mkF m 40 #[.val (.long gaps), .second, .val (.int sp), .val (.int wh), .val (.int mode), .val (.int raw), .val (.int s1), .val (.int s2), .unset, .unset, .unset, .unset, .unset, .unset, .unset, .unset, .unset] [(.int (2 : Int32)), (.ref sts), (.ref sts)])
  refine hs.go (fun _ kk_ => XS.iload X3.here hx rfl (hb hby at_40) rfl  kk_) ?_
  show G T3 (mkF m 42 #[.val (.long gaps), .second, .val (.int sp), .val (.int wh), .val (.int mode), .val (.int raw), .val (.int s1), .val (.int s2), .unset, .unset, .unset, .unset, .unset, .unset, .unset, .unset, .unset] [(.int s2), (.int (2 : Int32)), (.ref sts), (.ref sts)])
  refine rStI hs X3 hx hZ V_sts g_sts ⟨by decide, by decide⟩ 2 (by decide) (by simp) rfl rfl (hb hby at_42) (fun T4 h4 X4 W4 V_sts => ?_)
  have V_sts : Arv Z h4 sts k1 .int (4 : Int32) [(.int (0 : Int32)), (.int s1), (.int s2), (.int (0 : Int32))] (.int (0 : Int32)) := V_sts
  have Z0 := Nat.le_trans Z0 (Keep.of_wr W4).1
  show G T4 (mkF m 43 #[.val (.long gaps), .second, .val (.int sp), .val (.int wh), .val (.int mode), .val (.int raw), .val (.int s1), .val (.int s2), .unset, .unset, .unset, .unset, .unset, .unset, .unset, .unset, .unset] [(.ref sts)])
  refine hs.go (fun _ kk_ => XS.dup X4.here hx rfl (hb hby at_43) rfl rfl kk_) ?_
  show G T4 (mkF m 44 #[.val (.long gaps), .second, .val (.int sp), .val (.int wh), .val (.int mode), .val (.int raw), .val (.int s1), .val (.int s2), .unset, .unset, .unset, .unset, .unset, .unset, .unset, .unset, .unset] [(.ref sts), (.ref sts)])
  refine hs.go (fun _ kk_ => XS.iconst X4.here hx rfl (hb hby at_44) kk_) ?_
  show G T4 (mkF m 45 #[.val (.long gaps), .second, .val (.int sp), .val (.int wh), .val (.int mode), .val (.int raw), .val (.int s1), .val (.int s2), .unset, .unset, .unset, .unset, .unset, .unset, .unset, .unset, .unset] [(.int (3 : Int32)), (.ref sts), (.ref sts)])
  refine hs.go (fun _ kk_ => XS.bipush X4.here hx rfl (hb hby at_45) kk_) ?_
  show G T4 (mkF m 47 #[.val (.long gaps), .second, .val (.int sp), .val (.int wh), .val (.int mode), .val (.int raw), .val (.int s1), .val (.int s2), .unset, .unset, .unset, .unset, .unset, .unset, .unset, .unset, .unset] [(.int (6 : Int32)), (.int (3 : Int32)), (.ref sts), (.ref sts)])
  refine rStI hs X4 hx hZ V_sts g_sts ⟨by decide, by decide⟩ 3 (by decide) (by simp) rfl rfl (hb hby at_47) (fun T5 h5 X5 W5 V_sts => ?_)
  have V_sts : Arv Z h5 sts k1 .int (4 : Int32) [(.int (0 : Int32)), (.int s1), (.int s2), (.int (6 : Int32))] (.int (0 : Int32)) := V_sts
  have Z0 := Nat.le_trans Z0 (Keep.of_wr W5).1
  show G T5 (mkF m 48 #[.val (.long gaps), .second, .val (.int sp), .val (.int wh), .val (.int mode), .val (.int raw), .val (.int s1), .val (.int s2), .unset, .unset, .unset, .unset, .unset, .unset, .unset, .unset, .unset] [(.ref sts)])
  refine hs.go (fun _ kk_ => XS.astore X5.here hx rfl (hb hby at_48) rfl rfl (l' := #[.val (.long gaps), .second, .val (.int sp), .val (.int wh), .val (.int mode), .val (.int raw), .val (.int s1), .val (.int s2), .val (.ref sts), .unset, .unset, .unset, .unset, .unset, .unset, .unset, .unset]) rfl kk_) ?_
  show G T5 (mkF m 50 #[.val (.long gaps), .second, .val (.int sp), .val (.int wh), .val (.int mode), .val (.int raw), .val (.int s1), .val (.int s2), .val (.ref sts), .unset, .unset, .unset, .unset, .unset, .unset, .unset, .unset] [])
  refine hs.go (fun _ kk_ => XS.bipush X5.here hx rfl (hb hby at_50) kk_) ?_
  show G T5 (mkF m 52 #[.val (.long gaps), .second, .val (.int sp), .val (.int wh), .val (.int mode), .val (.int raw), .val (.int s1), .val (.int s2), .val (.ref sts), .unset, .unset, .unset, .unset, .unset, .unset, .unset, .unset] [(.int (6 : Int32))])
  refine rNewP hs X5 hx hZ (hw _ (List.mem_of_getElem? (i := 0) rfl)) rfl (hb hby at_52) rfl (by decide) 6 6 (by decide) (by decide) (by decide) (by decide) (fun T6 h6 k6 dcs g6 X6 E6 V_dcs => ?_)
  have V_dcs : Arv Z h6 dcs k6 .int (6 : Int32) [(.int (0 : Int32)), (.int (0 : Int32)), (.int (0 : Int32)), (.int (0 : Int32)), (.int (0 : Int32)), (.int (0 : Int32))] (.int (0 : Int32)) := V_dcs
  have g_dcs : n0 ≤ dcs := by rw [g6]; exact Z0
  have Z0 := Nat.le_trans Z0 E6.1
  have ne_sts_dcs : sts ≠ dcs := Nat.ne_of_lt (Nat.lt_of_lt_of_le V_sts.lt (Nat.le_of_eq g6.symm))
  have V_sts := V_sts.ext E6
  show G T6 (mkF m 54 #[.val (.long gaps), .second, .val (.int sp), .val (.int wh), .val (.int mode), .val (.int raw), .val (.int s1), .val (.int s2), .val (.ref sts), .unset, .unset, .unset, .unset, .unset, .unset, .unset, .unset] [(.ref dcs)])
  refine hs.go (fun _ kk_ => XS.astore X6.here hx rfl (hb hby at_54) rfl rfl (l' := #[.val (.long gaps), .second, .val (.int sp), .val (.int wh), .val (.int mode), .val (.int raw), .val (.int s1), .val (.int s2), .val (.ref sts), .val (.ref dcs), .unset, .unset, .unset, .unset, .unset, .unset, .unset]) rfl kk_) ?_
  show G T6 (mkF m 56 #[.val (.long gaps), .second, .val (.int sp), .val (.int wh), .val (.int mode), .val (.int raw), .val (.int s1), .val (.int s2), .val (.ref sts), .val (.ref dcs), .unset, .unset, .unset, .unset, .unset, .unset, .unset] [])
  refine hs.go (fun _ kk_ => XS.aload X6.here hx rfl (hb hby at_56) rfl rfl kk_) ?_
  show G T6 (mkF m 58 #[.val (.long gaps), .second, .val (.int sp), .val (.int wh), .val (.int mode), .val (.int raw), .val (.int s1), .val (.int s2), .val (.ref sts), .val (.ref dcs), .unset, .unset, .unset, .unset, .unset, .unset, .unset] [(.ref dcs)])
  refine hs.go (fun _ kk_ => XS.iconst X6.here hx rfl (hb hby at_58) kk_) ?_
  show G T6 (mkF m 59 #[.val (.long gaps), .second, .val (.int sp), .val (.int wh), .val (.int mode), .val (.int raw), .val (.int s1), .val (.int s2), .val (.ref sts), .val (.ref dcs), .unset, .unset, .unset, .unset, .unset, .unset, .unset] [(.int (0 : Int32)), (.ref dcs)])
  refine hs.go (fun _ kk_ => XS.lloadN X6.here hx rfl (hb hby at_59) rfl  kk_) ?_
  show G T6 (mkF m 60 #[.val (.long gaps), .second, .val (.int sp), .val (.int wh), .val (.int mode), .val (.int raw), .val (.int s1), .val (.int s2), .val (.ref sts), .val (.ref dcs), .unset, .unset, .unset, .unset, .unset, .unset, .unset] [(.long gaps), (.int (0 : Int32)), (.ref dcs)])
  refine rLdcL hs X6 hx hZ hown (hw _ (List.mem_of_getElem? (i := 1) rfl)) rfl (hb hby at_60) ?_
  show G T6 (mkF m 63 #[.val (.long gaps), .second, .val (.int sp), .val (.int wh), .val (.int mode), .val (.int raw), .val (.int s1), .val (.int s2), .val (.ref sts), .val (.ref dcs), .unset, .unset, .unset, .unset, .unset, .unset, .unset] [(.long (7 : Int64)), (.long gaps), (.int (0 : Int32)), (.ref dcs)])
  refine hs.go (fun _ kk_ => XS.land X6.here hx rfl (hb hby at_63) rfl kk_) ?_
  show G T6 (mkF m 64 #[.val (.long gaps), .second, .val (.int sp), .val (.int wh), .val (.int mode), .val (.int raw), .val (.int s1), .val (.int s2), .val (.ref sts), .val (.ref dcs), .unset, .unset, .unset, .unset, .unset, .unset, .unset] [(.long (gaps &&& (7 : Int64))), (.int (0 : Int32)), (.ref dcs)])
  refine hs.go (fun _ kk_ => XS.l2i X6.here hx rfl (hb hby at_64) rfl kk_) ?_
  show G T6 (mkF m 65 #[.val (.long gaps), .second, .val (.int sp), .val (.int wh), .val (.int mode), .val (.int raw), .val (.int s1), .val (.int s2), .val (.ref sts), .val (.ref dcs), .unset, .unset, .unset, .unset, .unset, .unset, .unset] [(.int ((gaps &&& (7 : Int64)).toInt32)), (.int (0 : Int32)), (.ref dcs)])
  refine nameIt (P := fun zz_ : Int32 => G T6 (mkF m 65 #[.val (.long gaps), .second, .val (.int sp), .val (.int wh), .val (.int mode), .val (.int raw), .val (.int s1), .val (.int s2), .val (.ref sts), .val (.ref dcs), .unset, .unset, .unset, .unset, .unset, .unset, .unset] [(.int zz_), (.int (0 : Int32)), (.ref dcs)])) ((gaps &&& (7 : Int64)).toInt32) (fun d0 hd0 => ?_)
  show G T6 (mkF m 65 #[.val (.long gaps), .second, .val (.int sp), .val (.int wh), .val (.int mode), .val (.int raw), .val (.int s1), .val (.int s2), .val (.ref sts), .val (.ref dcs), .unset, .unset, .unset, .unset, .unset, .unset, .unset] [(.int d0), (.int (0 : Int32)), (.ref dcs)])
  refine rStI hs X6 hx hZ V_dcs g_dcs ⟨by decide, by decide⟩ 0 (by decide) (by simp) rfl rfl (hb hby at_65) (fun T7 h7 X7 W7 V_dcs => ?_)
  have V_dcs : Arv Z h7 dcs k6 .int (6 : Int32) [(.int d0), (.int (0 : Int32)), (.int (0 : Int32)), (.int (0 : Int32)), (.int (0 : Int32)), (.int (0 : Int32))] (.int (0 : Int32)) := V_dcs
  have V_sts := V_sts.other W7 ne_sts_dcs
  have Z0 := Nat.le_trans Z0 (Keep.of_wr W7).1
  show G T7 (mkF m 66 #[.val (.long gaps), .second, .val (.int sp), .val (.int wh), .val (.int mode), .val (.int raw), .val (.int s1), .val (.int s2), .val (.ref sts), .val (.ref dcs), .unset, .unset, .unset, .unset, .unset, .unset, .unset] [])
  refine hs.go (fun _ kk_ => XS.aload X7.here hx rfl (hb hby at_66) rfl rfl kk_) ?_
  show G T7 (mkF m 68 #[.val (.long gaps), .second, .val (.int sp), .val (.int wh), .val (.int mode), .val (.int raw), .val (.int s1), .val (.int s2), .val (.ref sts), .val (.ref dcs), .unset, .unset, .unset, .unset, .unset, .unset, .unset] [(.ref dcs)])
  refine hs.go (fun _ kk_ => XS.iconst X7.here hx rfl (hb hby at_68) kk_) ?_
  show G T7 (mkF m 69 #[.val (.long gaps), .second, .val (.int sp), .val (.int wh), .val (.int mode), .val (.int raw), .val (.int s1), .val (.int s2), .val (.ref sts), .val (.ref dcs), .unset, .unset, .unset, .unset, .unset, .unset, .unset] [(.int (1 : Int32)), (.ref dcs)])
  refine hs.go (fun _ kk_ => XS.aload X7.here hx rfl (hb hby at_69) rfl rfl kk_) ?_
  show G T7 (mkF m 71 #[.val (.long gaps), .second, .val (.int sp), .val (.int wh), .val (.int mode), .val (.int raw), .val (.int s1), .val (.int s2), .val (.ref sts), .val (.ref dcs), .unset, .unset, .unset, .unset, .unset, .unset, .unset] [(.ref dcs), (.int (1 : Int32)), (.ref dcs)])
  refine hs.go (fun _ kk_ => XS.iconst X7.here hx rfl (hb hby at_71) kk_) ?_
  show G T7 (mkF m 72 #[.val (.long gaps), .second, .val (.int sp), .val (.int wh), .val (.int mode), .val (.int raw), .val (.int s1), .val (.int s2), .val (.ref sts), .val (.ref dcs), .unset, .unset, .unset, .unset, .unset, .unset, .unset] [(.int (0 : Int32)), (.ref dcs), (.int (1 : Int32)), (.ref dcs)])
  refine rLdI hs X7 hx hZ V_dcs ⟨by decide, by decide⟩ (v := (.int d0)) rfl rfl rfl (hb hby at_72) ?_
  show G T7 (mkF m 73 #[.val (.long gaps), .second, .val (.int sp), .val (.int wh), .val (.int mode), .val (.int raw), .val (.int s1), .val (.int s2), .val (.ref sts), .val (.ref dcs), .unset, .unset, .unset, .unset, .unset, .unset, .unset] [(.int d0), (.int (1 : Int32)), (.ref dcs)])
  have J90 : ∀ (z1 : Int32), (((1 : Int32) = s1 ∧ z1 = (1 : Int32)) ∨ (¬ ((1 : Int32) = s1) ∧ (1 : Int32) = s2 ∧ z1 = (1 : Int32)) ∨ (¬ ((1 : Int32) = s1) ∧ ¬ ((1 : Int32) = s2) ∧ z1 = (0 : Int32))) → G T7 (mkF m 90 #[.val (.long gaps), .second, .val (.int sp), .val (.int wh), .val (.int mode), .val (.int raw), .val (.int s1), .val (.int s2), .val (.ref sts), .val (.ref dcs), .unset, .unset, .unset, .unset, .unset, .unset, .unset] [(.int z1), (.int d0), (.int (1 : Int32)), (.ref dcs)]) := by
    intro z1 hJ90
    show G T7 (mkF m 90 #[.val (.long gaps), .second, .val (.int sp), .val (.int wh), .val (.int mode), .val (.int raw), .val (.int s1), .val (.int s2), .val (.ref sts), .val (.ref dcs), .unset, .unset, .unset, .unset, .unset, .unset, .unset] [(.int z1), (.int d0), (.int (1 : Int32)), (.ref dcs)])
    refine hs.go (fun _ kk_ => XS.lloadN X7.here hx rfl (hb hby at_90) rfl  kk_) ?_
    show G T7 (mkF m 91 #[.val (.long gaps), .second, .val (.int sp), .val (.int wh), .val (.int mode), .val (.int raw), .val (.int s1), .val (.int s2), .val (.ref sts), .val (.ref dcs), .unset, .unset, .unset, .unset, .unset, .unset, .unset] [(.long gaps), (.int z1), (.int d0), (.int (1 : Int32)), (.ref dcs)])
    refine hs.go (fun _ kk_ => XS.iconst X7.here hx rfl (hb hby at_91) kk_) ?_
    show G T7 (mkF m 92 #[.val (.long gaps), .second, .val (.int sp), .val (.int wh), .val (.int mode), .val (.int raw), .val (.int s1), .val (.int s2), .val (.ref sts), .val (.ref dcs), .unset, .unset, .unset, .unset, .unset, .unset, .unset] [(.int (1 : Int32)), (.long gaps), (.int z1), (.int d0), (.int (1 : Int32)), (.ref dcs)])
    refine rCallS hs X7 hx hZ (as' := [(.int d0), (.int z1), (.long gaps), (.int (1 : Int32))]) (rm1 l Z a0 hw [] d0 z1 gaps (1 : Int32) h7 n0 Z0) hown (hw _ (List.mem_of_getElem? (i := 2) rfl)) (hw _ (List.mem_of_getElem? (i := 3) rfl)) (hw _ (List.mem_of_getElem? (i := 4) rfl)) (hw _ (List.mem_of_getElem? (i := 5) rfl)) hy_1 rfl (by rw [hml]; rfl) [(.int (1 : Int32)), (.ref dcs)] (lenOf pd_3 rfl) rfl 2 (by show 2 * 0 + _ ≤ _; exact Nat.le_of_eq rfl) (hb hby at_92) (by decide) (by decide) (by decide) (by decide) (fun r8 T8 h8 X8 q8 => ?_)
    obtain ⟨rfl, qh8⟩ := q8
    rw [qh8] at X8
    show G T8 (mkF m 95 #[.val (.long gaps), .second, .val (.int sp), .val (.int wh), .val (.int mode), .val (.int raw), .val (.int s1), .val (.int s2), .val (.ref sts), .val (.ref dcs), .unset, .unset, .unset, .unset, .unset, .unset, .unset] [(.int (f1 d0 z1 gaps (1 : Int32))), (.int (1 : Int32)), (.ref dcs)])
    refine nameIt (P := fun zz_ : Int32 => G T8 (mkF m 95 #[.val (.long gaps), .second, .val (.int sp), .val (.int wh), .val (.int mode), .val (.int raw), .val (.int s1), .val (.int s2), .val (.ref sts), .val (.ref dcs), .unset, .unset, .unset, .unset, .unset, .unset, .unset] [(.int zz_), (.int (1 : Int32)), (.ref dcs)])) (f1 d0 z1 gaps (1 : Int32)) (fun d1 hd1 => ?_)
    show G T8 (mkF m 95 #[.val (.long gaps), .second, .val (.int sp), .val (.int wh), .val (.int mode), .val (.int raw), .val (.int s1), .val (.int s2), .val (.ref sts), .val (.ref dcs), .unset, .unset, .unset, .unset, .unset, .unset, .unset] [(.int d1), (.int (1 : Int32)), (.ref dcs)])
    refine rStI hs X8 hx hZ V_dcs g_dcs ⟨by decide, by decide⟩ 1 (by decide) (by simp) rfl rfl (hb hby at_95) (fun T9 h9 X9 W9 V_dcs => ?_)
    have V_dcs : Arv Z h9 dcs k6 .int (6 : Int32) [(.int d0), (.int d1), (.int (0 : Int32)), (.int (0 : Int32)), (.int (0 : Int32)), (.int (0 : Int32))] (.int (0 : Int32)) := V_dcs
    have V_sts := V_sts.other W9 ne_sts_dcs
    have Z0 := Nat.le_trans Z0 (Keep.of_wr W9).1
    show G T9 (mkF m 96 #[.val (.long gaps), .second, .val (.int sp), .val (.int wh), .val (.int mode), .val (.int raw), .val (.int s1), .val (.int s2), .val (.ref sts), .val (.ref dcs), .unset, .unset, .unset, .unset, .unset, .unset, .unset] [])
    refine hs.go (fun _ kk_ => XS.aload X9.here hx rfl (hb hby at_96) rfl rfl kk_) ?_
    show G T9 (mkF m 98 #[.val (.long gaps), .second, .val (.int sp), .val (.int wh), .val (.int mode), .val (.int raw), .val (.int s1), .val (.int s2), .val (.ref sts), .val (.ref dcs), .unset, .unset, .unset, .unset, .unset, .unset, .unset] [(.ref dcs)])
    refine hs.go (fun _ kk_ => XS.iconst X9.here hx rfl (hb hby at_98) kk_) ?_
    show G T9 (mkF m 99 #[.val (.long gaps), .second, .val (.int sp), .val (.int wh), .val (.int mode), .val (.int raw), .val (.int s1), .val (.int s2), .val (.ref sts), .val (.ref dcs), .unset, .unset, .unset, .unset, .unset, .unset, .unset] [(.int (2 : Int32)), (.ref dcs)])
    refine hs.go (fun _ kk_ => XS.aload X9.here hx rfl (hb hby at_99) rfl rfl kk_) ?_
    show G T9 (mkF m 101 #[.val (.long gaps), .second, .val (.int sp), .val (.int wh), .val (.int mode), .val (.int raw), .val (.int s1), .val (.int s2), .val (.ref sts), .val (.ref dcs), .unset, .unset, .unset, .unset, .unset, .unset, .unset] [(.ref dcs), (.int (2 : Int32)), (.ref dcs)])
    refine hs.go (fun _ kk_ => XS.iconst X9.here hx rfl (hb hby at_101) kk_) ?_
    show G T9 (mkF m 102 #[.val (.long gaps), .second, .val (.int sp), .val (.int wh), .val (.int mode), .val (.int raw), .val (.int s1), .val (.int s2), .val (.ref sts), .val (.ref dcs), .unset, .unset, .unset, .unset, .unset, .unset, .unset] [(.int (1 : Int32)), (.ref dcs), (.int (2 : Int32)), (.ref dcs)])
    refine rLdI hs X9 hx hZ V_dcs ⟨by decide, by decide⟩ (v := (.int d1)) rfl rfl rfl (hb hby at_102) ?_
    show G T9 (mkF m 103 #[.val (.long gaps), .second, .val (.int sp), .val (.int wh), .val (.int mode), .val (.int raw), .val (.int s1), .val (.int s2), .val (.ref sts), .val (.ref dcs), .unset, .unset, .unset, .unset, .unset, .unset, .unset] [(.int d1), (.int (2 : Int32)), (.ref dcs)])
    have J120 : ∀ (z2 : Int32), (((2 : Int32) = s1 ∧ z2 = (1 : Int32)) ∨ (¬ ((2 : Int32) = s1) ∧ (2 : Int32) = s2 ∧ z2 = (1 : Int32)) ∨ (¬ ((2 : Int32) = s1) ∧ ¬ ((2 : Int32) = s2) ∧ z2 = (0 : Int32))) → G T9 (mkF m 120 #[.val (.long gaps), .second, .val (.int sp), .val (.int wh), .val (.int mode), .val (.int raw), .val (.int s1), .val (.int s2), .val (.ref sts), .val (.ref dcs), .unset, .unset, .unset, .unset, .unset, .unset, .unset] [(.int z2), (.int d1), (.int (2 : Int32)), (.ref dcs)]) := by
      intro z2 hJ120
      show G T9 (mkF m 120 #[.val (.long gaps), .second, .val (.int sp), .val (.int wh), .val (.int mode), .val (.int raw), .val (.int s1), .val (.int s2), .val (.ref sts), .val (.ref dcs), .unset, .unset, .unset, .unset, .unset, .unset, .unset] [(.int z2), (.int d1), (.int (2 : Int32)), (.ref dcs)])
      refine hs.go (fun _ kk_ => XS.lloadN X9.here hx rfl (hb hby at_120) rfl  kk_) ?_
      show G T9 (mkF m 121 #[.val (.long gaps), .second, .val (.int sp), .val (.int wh), .val (.int mode), .val (.int raw), .val (.int s1), .val (.int s2), .val (.ref sts), .val (.ref dcs), .unset, .unset, .unset, .unset, .unset, .unset, .unset] [(.long gaps), (.int z2), (.int d1), (.int (2 : Int32)), (.ref dcs)])
      refine hs.go (fun _ kk_ => XS.iconst X9.here hx rfl (hb hby at_121) kk_) ?_
      show G T9 (mkF m 122 #[.val (.long gaps), .second, .val (.int sp), .val (.int wh), .val (.int mode), .val (.int raw), .val (.int s1), .val (.int s2), .val (.ref sts), .val (.ref dcs), .unset, .unset, .unset, .unset, .unset, .unset, .unset] [(.int (2 : Int32)), (.long gaps), (.int z2), (.int d1), (.int (2 : Int32)), (.ref dcs)])
      refine rCallS hs X9 hx hZ (as' := [(.int d1), (.int z2), (.long gaps), (.int (2 : Int32))]) (rm1 l Z a0 hw [] d1 z2 gaps (2 : Int32) h9 n0 Z0) hown (hw _ (List.mem_of_getElem? (i := 2) rfl)) (hw _ (List.mem_of_getElem? (i := 3) rfl)) (hw _ (List.mem_of_getElem? (i := 4) rfl)) (hw _ (List.mem_of_getElem? (i := 5) rfl)) hy_1 rfl (by rw [hml]; rfl) [(.int (2 : Int32)), (.ref dcs)] (lenOf pd_3 rfl) rfl 2 (by show 2 * 0 + _ ≤ _; exact Nat.le_of_eq rfl) (hb hby at_122) (by decide) (by decide) (by decide) (by decide) (fun r10 T10 h10 X10 q10 => ?_)
      obtain ⟨rfl, qh10⟩ := q10
      rw [qh10] at X10
      show G T10 (mkF m 125 #[.val (.long gaps), .second, .val (.int sp), .val (.int wh), .val (.int mode), .val (.int raw), .val (.int s1), .val (.int s2), .val (.ref sts), .val (.ref dcs), .unset, .unset, .unset, .unset, .unset, .unset, .unset] [(.int (f1 d1 z2 gaps (2 : Int32))), (.int (2 : Int32)), (.ref dcs)])
      refine nameIt (P := fun zz_ : Int32 => G T10 (mkF m 125 #[.val (.long gaps), .second, .val (.int sp), .val (.int wh), .val (.int mode), .val (.int raw), .val (.int s1), .val (.int s2), .val (.ref sts), .val (.ref dcs), .unset, .unset, .unset, .unset, .unset, .unset, .unset] [(.int zz_), (.int (2 : Int32)), (.ref dcs)])) (f1 d1 z2 gaps (2 : Int32)) (fun d2 hd2 => ?_)
      show G T10 (mkF m 125 #[.val (.long gaps), .second, .val (.int sp), .val (.int wh), .val (.int mode), .val (.int raw), .val (.int s1), .val (.int s2), .val (.ref sts), .val (.ref dcs), .unset, .unset, .unset, .unset, .unset, .unset, .unset] [(.int d2), (.int (2 : Int32)), (.ref dcs)])
      refine rStI hs X10 hx hZ V_dcs g_dcs ⟨by decide, by decide⟩ 2 (by decide) (by simp) rfl rfl (hb hby at_125) (fun T11 h11 X11 W11 V_dcs => ?_)
      have V_dcs : Arv Z h11 dcs k6 .int (6 : Int32) [(.int d0), (.int d1), (.int d2), (.int (0 : Int32)), (.int (0 : Int32)), (.int (0 : Int32))] (.int (0 : Int32)) := V_dcs
      have V_sts := V_sts.other W11 ne_sts_dcs
      have Z0 := Nat.le_trans Z0 (Keep.of_wr W11).1
      show G T11 (mkF m 126 #[.val (.long gaps), .second, .val (.int sp), .val (.int wh), .val (.int mode), .val (.int raw), .val (.int s1), .val (.int s2), .val (.ref sts), .val (.ref dcs), .unset, .unset, .unset, .unset, .unset, .unset, .unset] [])
      refine hs.go (fun _ kk_ => XS.aload X11.here hx rfl (hb hby at_126) rfl rfl kk_) ?_
      show G T11 (mkF m 128 #[.val (.long gaps), .second, .val (.int sp), .val (.int wh), .val (.int mode), .val (.int raw), .val (.int s1), .val (.int s2), .val (.ref sts), .val (.ref dcs), .unset, .unset, .unset, .unset, .unset, .unset, .unset] [(.ref dcs)])
      refine hs.go (fun _ kk_ => XS.iconst X11.here hx rfl (hb hby at_128) kk_) ?_
      show G T11 (mkF m 129 #[.val (.long gaps), .second, .val (.int sp), .val (.int wh), .val (.int mode), .val (.int raw), .val (.int s1), .val (.int s2), .val (.ref sts), .val (.ref dcs), .unset, .unset, .unset, .unset, .unset, .unset, .unset] [(.int (3 : Int32)), (.ref dcs)])
      refine hs.go (fun _ kk_ => XS.aload X11.here hx rfl (hb hby at_129) rfl rfl kk_) ?_
      show G T11 (mkF m 131 #[.val (.long gaps), .second, .val (.int sp), .val (.int wh), .val (.int mode), .val (.int raw), .val (.int s1), .val (.int s2), .val (.ref sts), .val (.ref dcs), .unset, .unset, .unset, .unset, .unset, .unset, .unset] [(.ref dcs), (.int (3 : Int32)), (.ref dcs)])
      refine hs.go (fun _ kk_ => XS.iconst X11.here hx rfl (hb hby at_131) kk_) ?_
      show G T11 (mkF m 132 #[.val (.long gaps), .second, .val (.int sp), .val (.int wh), .val (.int mode), .val (.int raw), .val (.int s1), .val (.int s2), .val (.ref sts), .val (.ref dcs), .unset, .unset, .unset, .unset, .unset, .unset, .unset] [(.int (2 : Int32)), (.ref dcs), (.int (3 : Int32)), (.ref dcs)])
      refine rLdI hs X11 hx hZ V_dcs ⟨by decide, by decide⟩ (v := (.int d2)) rfl rfl rfl (hb hby at_132) ?_
      show G T11 (mkF m 133 #[.val (.long gaps), .second, .val (.int sp), .val (.int wh), .val (.int mode), .val (.int raw), .val (.int s1), .val (.int s2), .val (.ref sts), .val (.ref dcs), .unset, .unset, .unset, .unset, .unset, .unset, .unset] [(.int d2), (.int (3 : Int32)), (.ref dcs)])
      have J150 : ∀ (z3 : Int32), (((3 : Int32) = s1 ∧ z3 = (1 : Int32)) ∨ (¬ ((3 : Int32) = s1) ∧ (3 : Int32) = s2 ∧ z3 = (1 : Int32)) ∨ (¬ ((3 : Int32) = s1) ∧ ¬ ((3 : Int32) = s2) ∧ z3 = (0 : Int32))) → G T11 (mkF m 150 #[.val (.long gaps), .second, .val (.int sp), .val (.int wh), .val (.int mode), .val (.int raw), .val (.int s1), .val (.int s2), .val (.ref sts), .val (.ref dcs), .unset, .unset, .unset, .unset, .unset, .unset, .unset] [(.int z3), (.int d2), (.int (3 : Int32)), (.ref dcs)]) := by
        intro z3 hJ150
        show G T11 (mkF m 150 #[.val (.long gaps), .second, .val (.int sp), .val (.int wh), .val (.int mode), .val (.int raw), .val (.int s1), .val (.int s2), .val (.ref sts), .val (.ref dcs), .unset, .unset, .unset, .unset, .unset, .unset, .unset] [(.int z3), (.int d2), (.int (3 : Int32)), (.ref dcs)])
        refine hs.go (fun _ kk_ => XS.lloadN X11.here hx rfl (hb hby at_150) rfl  kk_) ?_
        show G T11 (mkF m 151 #[.val (.long gaps), .second, .val (.int sp), .val (.int wh), .val (.int mode), .val (.int raw), .val (.int s1), .val (.int s2), .val (.ref sts), .val (.ref dcs), .unset, .unset, .unset, .unset, .unset, .unset, .unset] [(.long gaps), (.int z3), (.int d2), (.int (3 : Int32)), (.ref dcs)])
        refine hs.go (fun _ kk_ => XS.iconst X11.here hx rfl (hb hby at_151) kk_) ?_
        show G T11 (mkF m 152 #[.val (.long gaps), .second, .val (.int sp), .val (.int wh), .val (.int mode), .val (.int raw), .val (.int s1), .val (.int s2), .val (.ref sts), .val (.ref dcs), .unset, .unset, .unset, .unset, .unset, .unset, .unset] [(.int (3 : Int32)), (.long gaps), (.int z3), (.int d2), (.int (3 : Int32)), (.ref dcs)])
        refine rCallS hs X11 hx hZ (as' := [(.int d2), (.int z3), (.long gaps), (.int (3 : Int32))]) (rm1 l Z a0 hw [] d2 z3 gaps (3 : Int32) h11 n0 Z0) hown (hw _ (List.mem_of_getElem? (i := 2) rfl)) (hw _ (List.mem_of_getElem? (i := 3) rfl)) (hw _ (List.mem_of_getElem? (i := 4) rfl)) (hw _ (List.mem_of_getElem? (i := 5) rfl)) hy_1 rfl (by rw [hml]; rfl) [(.int (3 : Int32)), (.ref dcs)] (lenOf pd_3 rfl) rfl 2 (by show 2 * 0 + _ ≤ _; exact Nat.le_of_eq rfl) (hb hby at_152) (by decide) (by decide) (by decide) (by decide) (fun r12 T12 h12 X12 q12 => ?_)
        obtain ⟨rfl, qh12⟩ := q12
        rw [qh12] at X12
        show G T12 (mkF m 155 #[.val (.long gaps), .second, .val (.int sp), .val (.int wh), .val (.int mode), .val (.int raw), .val (.int s1), .val (.int s2), .val (.ref sts), .val (.ref dcs), .unset, .unset, .unset, .unset, .unset, .unset, .unset] [(.int (f1 d2 z3 gaps (3 : Int32))), (.int (3 : Int32)), (.ref dcs)])
        refine nameIt (P := fun zz_ : Int32 => G T12 (mkF m 155 #[.val (.long gaps), .second, .val (.int sp), .val (.int wh), .val (.int mode), .val (.int raw), .val (.int s1), .val (.int s2), .val (.ref sts), .val (.ref dcs), .unset, .unset, .unset, .unset, .unset, .unset, .unset] [(.int zz_), (.int (3 : Int32)), (.ref dcs)])) (f1 d2 z3 gaps (3 : Int32)) (fun d3 hd3 => ?_)
        show G T12 (mkF m 155 #[.val (.long gaps), .second, .val (.int sp), .val (.int wh), .val (.int mode), .val (.int raw), .val (.int s1), .val (.int s2), .val (.ref sts), .val (.ref dcs), .unset, .unset, .unset, .unset, .unset, .unset, .unset] [(.int d3), (.int (3 : Int32)), (.ref dcs)])
        refine rStI hs X12 hx hZ V_dcs g_dcs ⟨by decide, by decide⟩ 3 (by decide) (by simp) rfl rfl (hb hby at_155) (fun T13 h13 X13 W13 V_dcs => ?_)
        have V_dcs : Arv Z h13 dcs k6 .int (6 : Int32) [(.int d0), (.int d1), (.int d2), (.int d3), (.int (0 : Int32)), (.int (0 : Int32))] (.int (0 : Int32)) := V_dcs
        have V_sts := V_sts.other W13 ne_sts_dcs
        have Z0 := Nat.le_trans Z0 (Keep.of_wr W13).1
        show G T13 (mkF m 156 #[.val (.long gaps), .second, .val (.int sp), .val (.int wh), .val (.int mode), .val (.int raw), .val (.int s1), .val (.int s2), .val (.ref sts), .val (.ref dcs), .unset, .unset, .unset, .unset, .unset, .unset, .unset] [])
        refine hs.go (fun _ kk_ => XS.aload X13.here hx rfl (hb hby at_156) rfl rfl kk_) ?_
        show G T13 (mkF m 158 #[.val (.long gaps), .second, .val (.int sp), .val (.int wh), .val (.int mode), .val (.int raw), .val (.int s1), .val (.int s2), .val (.ref sts), .val (.ref dcs), .unset, .unset, .unset, .unset, .unset, .unset, .unset] [(.ref dcs)])
        refine hs.go (fun _ kk_ => XS.iconst X13.here hx rfl (hb hby at_158) kk_) ?_
        show G T13 (mkF m 159 #[.val (.long gaps), .second, .val (.int sp), .val (.int wh), .val (.int mode), .val (.int raw), .val (.int s1), .val (.int s2), .val (.ref sts), .val (.ref dcs), .unset, .unset, .unset, .unset, .unset, .unset, .unset] [(.int (4 : Int32)), (.ref dcs)])
        refine hs.go (fun _ kk_ => XS.aload X13.here hx rfl (hb hby at_159) rfl rfl kk_) ?_
        show G T13 (mkF m 161 #[.val (.long gaps), .second, .val (.int sp), .val (.int wh), .val (.int mode), .val (.int raw), .val (.int s1), .val (.int s2), .val (.ref sts), .val (.ref dcs), .unset, .unset, .unset, .unset, .unset, .unset, .unset] [(.ref dcs), (.int (4 : Int32)), (.ref dcs)])
        refine hs.go (fun _ kk_ => XS.iconst X13.here hx rfl (hb hby at_161) kk_) ?_
        show G T13 (mkF m 162 #[.val (.long gaps), .second, .val (.int sp), .val (.int wh), .val (.int mode), .val (.int raw), .val (.int s1), .val (.int s2), .val (.ref sts), .val (.ref dcs), .unset, .unset, .unset, .unset, .unset, .unset, .unset] [(.int (3 : Int32)), (.ref dcs), (.int (4 : Int32)), (.ref dcs)])
        refine rLdI hs X13 hx hZ V_dcs ⟨by decide, by decide⟩ (v := (.int d3)) rfl rfl rfl (hb hby at_162) ?_
        show G T13 (mkF m 163 #[.val (.long gaps), .second, .val (.int sp), .val (.int wh), .val (.int mode), .val (.int raw), .val (.int s1), .val (.int s2), .val (.ref sts), .val (.ref dcs), .unset, .unset, .unset, .unset, .unset, .unset, .unset] [(.int d3), (.int (4 : Int32)), (.ref dcs)])
        have J180 : ∀ (z4 : Int32), (((4 : Int32) = s1 ∧ z4 = (1 : Int32)) ∨ (¬ ((4 : Int32) = s1) ∧ (4 : Int32) = s2 ∧ z4 = (1 : Int32)) ∨ (¬ ((4 : Int32) = s1) ∧ ¬ ((4 : Int32) = s2) ∧ z4 = (0 : Int32))) → G T13 (mkF m 180 #[.val (.long gaps), .second, .val (.int sp), .val (.int wh), .val (.int mode), .val (.int raw), .val (.int s1), .val (.int s2), .val (.ref sts), .val (.ref dcs), .unset, .unset, .unset, .unset, .unset, .unset, .unset] [(.int z4), (.int d3), (.int (4 : Int32)), (.ref dcs)]) := by
          intro z4 hJ180
          show G T13 (mkF m 180 #[.val (.long gaps), .second, .val (.int sp), .val (.int wh), .val (.int mode), .val (.int raw), .val (.int s1), .val (.int s2), .val (.ref sts), .val (.ref dcs), .unset, .unset, .unset, .unset, .unset, .unset, .unset] [(.int z4), (.int d3), (.int (4 : Int32)), (.ref dcs)])
          refine hs.go (fun _ kk_ => XS.lloadN X13.here hx rfl (hb hby at_180) rfl  kk_) ?_
          show G T13 (mkF m 181 #[.val (.long gaps), .second, .val (.int sp), .val (.int wh), .val (.int mode), .val (.int raw), .val (.int s1), .val (.int s2), .val (.ref sts), .val (.ref dcs), .unset, .unset, .unset, .unset, .unset, .unset, .unset] [(.long gaps), (.int z4), (.int d3), (.int (4 : Int32)), (.ref dcs)])
          refine hs.go (fun _ kk_ => XS.iconst X13.here hx rfl (hb hby at_181) kk_) ?_
          show G T13 (mkF m 182 #[.val (.long gaps), .second, .val (.int sp), .val (.int wh), .val (.int mode), .val (.int raw), .val (.int s1), .val (.int s2), .val (.ref sts), .val (.ref dcs), .unset, .unset, .unset, .unset, .unset, .unset, .unset] [(.int (4 : Int32)), (.long gaps), (.int z4), (.int d3), (.int (4 : Int32)), (.ref dcs)])
          refine rCallS hs X13 hx hZ (as' := [(.int d3), (.int z4), (.long gaps), (.int (4 : Int32))]) (rm1 l Z a0 hw [] d3 z4 gaps (4 : Int32) h13 n0 Z0) hown (hw _ (List.mem_of_getElem? (i := 2) rfl)) (hw _ (List.mem_of_getElem? (i := 3) rfl)) (hw _ (List.mem_of_getElem? (i := 4) rfl)) (hw _ (List.mem_of_getElem? (i := 5) rfl)) hy_1 rfl (by rw [hml]; rfl) [(.int (4 : Int32)), (.ref dcs)] (lenOf pd_3 rfl) rfl 2 (by show 2 * 0 + _ ≤ _; exact Nat.le_of_eq rfl) (hb hby at_182) (by decide) (by decide) (by decide) (by decide) (fun r14 T14 h14 X14 q14 => ?_)
          obtain ⟨rfl, qh14⟩ := q14
          rw [qh14] at X14
          show G T14 (mkF m 185 #[.val (.long gaps), .second, .val (.int sp), .val (.int wh), .val (.int mode), .val (.int raw), .val (.int s1), .val (.int s2), .val (.ref sts), .val (.ref dcs), .unset, .unset, .unset, .unset, .unset, .unset, .unset] [(.int (f1 d3 z4 gaps (4 : Int32))), (.int (4 : Int32)), (.ref dcs)])
          refine nameIt (P := fun zz_ : Int32 => G T14 (mkF m 185 #[.val (.long gaps), .second, .val (.int sp), .val (.int wh), .val (.int mode), .val (.int raw), .val (.int s1), .val (.int s2), .val (.ref sts), .val (.ref dcs), .unset, .unset, .unset, .unset, .unset, .unset, .unset] [(.int zz_), (.int (4 : Int32)), (.ref dcs)])) (f1 d3 z4 gaps (4 : Int32)) (fun d4 hd4 => ?_)
          show G T14 (mkF m 185 #[.val (.long gaps), .second, .val (.int sp), .val (.int wh), .val (.int mode), .val (.int raw), .val (.int s1), .val (.int s2), .val (.ref sts), .val (.ref dcs), .unset, .unset, .unset, .unset, .unset, .unset, .unset] [(.int d4), (.int (4 : Int32)), (.ref dcs)])
          refine rStI hs X14 hx hZ V_dcs g_dcs ⟨by decide, by decide⟩ 4 (by decide) (by simp) rfl rfl (hb hby at_185) (fun T15 h15 X15 W15 V_dcs => ?_)
          have V_dcs : Arv Z h15 dcs k6 .int (6 : Int32) [(.int d0), (.int d1), (.int d2), (.int d3), (.int d4), (.int (0 : Int32))] (.int (0 : Int32)) := V_dcs
          have V_sts := V_sts.other W15 ne_sts_dcs
          have Z0 := Nat.le_trans Z0 (Keep.of_wr W15).1
          show G T15 (mkF m 186 #[.val (.long gaps), .second, .val (.int sp), .val (.int wh), .val (.int mode), .val (.int raw), .val (.int s1), .val (.int s2), .val (.ref sts), .val (.ref dcs), .unset, .unset, .unset, .unset, .unset, .unset, .unset] [])
          refine hs.go (fun _ kk_ => XS.aload X15.here hx rfl (hb hby at_186) rfl rfl kk_) ?_
          show G T15 (mkF m 188 #[.val (.long gaps), .second, .val (.int sp), .val (.int wh), .val (.int mode), .val (.int raw), .val (.int s1), .val (.int s2), .val (.ref sts), .val (.ref dcs), .unset, .unset, .unset, .unset, .unset, .unset, .unset] [(.ref dcs)])
          refine hs.go (fun _ kk_ => XS.iconst X15.here hx rfl (hb hby at_188) kk_) ?_
          show G T15 (mkF m 189 #[.val (.long gaps), .second, .val (.int sp), .val (.int wh), .val (.int mode), .val (.int raw), .val (.int s1), .val (.int s2), .val (.ref sts), .val (.ref dcs), .unset, .unset, .unset, .unset, .unset, .unset, .unset] [(.int (5 : Int32)), (.ref dcs)])
          refine hs.go (fun _ kk_ => XS.aload X15.here hx rfl (hb hby at_189) rfl rfl kk_) ?_
          show G T15 (mkF m 191 #[.val (.long gaps), .second, .val (.int sp), .val (.int wh), .val (.int mode), .val (.int raw), .val (.int s1), .val (.int s2), .val (.ref sts), .val (.ref dcs), .unset, .unset, .unset, .unset, .unset, .unset, .unset] [(.ref dcs), (.int (5 : Int32)), (.ref dcs)])
          refine hs.go (fun _ kk_ => XS.iconst X15.here hx rfl (hb hby at_191) kk_) ?_
          show G T15 (mkF m 192 #[.val (.long gaps), .second, .val (.int sp), .val (.int wh), .val (.int mode), .val (.int raw), .val (.int s1), .val (.int s2), .val (.ref sts), .val (.ref dcs), .unset, .unset, .unset, .unset, .unset, .unset, .unset] [(.int (4 : Int32)), (.ref dcs), (.int (5 : Int32)), (.ref dcs)])
          refine rLdI hs X15 hx hZ V_dcs ⟨by decide, by decide⟩ (v := (.int d4)) rfl rfl rfl (hb hby at_192) ?_
          show G T15 (mkF m 193 #[.val (.long gaps), .second, .val (.int sp), .val (.int wh), .val (.int mode), .val (.int raw), .val (.int s1), .val (.int s2), .val (.ref sts), .val (.ref dcs), .unset, .unset, .unset, .unset, .unset, .unset, .unset] [(.int d4), (.int (5 : Int32)), (.ref dcs)])
          have J210 : ∀ (z5 : Int32), (((5 : Int32) = s1 ∧ z5 = (1 : Int32)) ∨ (¬ ((5 : Int32) = s1) ∧ (5 : Int32) = s2 ∧ z5 = (1 : Int32)) ∨ (¬ ((5 : Int32) = s1) ∧ ¬ ((5 : Int32) = s2) ∧ z5 = (0 : Int32))) → G T15 (mkF m 210 #[.val (.long gaps), .second, .val (.int sp), .val (.int wh), .val (.int mode), .val (.int raw), .val (.int s1), .val (.int s2), .val (.ref sts), .val (.ref dcs), .unset, .unset, .unset, .unset, .unset, .unset, .unset] [(.int z5), (.int d4), (.int (5 : Int32)), (.ref dcs)]) := by
            intro z5 hJ210
            show G T15 (mkF m 210 #[.val (.long gaps), .second, .val (.int sp), .val (.int wh), .val (.int mode), .val (.int raw), .val (.int s1), .val (.int s2), .val (.ref sts), .val (.ref dcs), .unset, .unset, .unset, .unset, .unset, .unset, .unset] [(.int z5), (.int d4), (.int (5 : Int32)), (.ref dcs)])
            refine hs.go (fun _ kk_ => XS.lloadN X15.here hx rfl (hb hby at_210) rfl  kk_) ?_
            show G T15 (mkF m 211 #[.val (.long gaps), .second, .val (.int sp), .val (.int wh), .val (.int mode), .val (.int raw), .val (.int s1), .val (.int s2), .val (.ref sts), .val (.ref dcs), .unset, .unset, .unset, .unset, .unset, .unset, .unset] [(.long gaps), (.int z5), (.int d4), (.int (5 : Int32)), (.ref dcs)])
            refine hs.go (fun _ kk_ => XS.iconst X15.here hx rfl (hb hby at_211) kk_) ?_
            show G T15 (mkF m 212 #[.val (.long gaps), .second, .val (.int sp), .val (.int wh), .val (.int mode), .val (.int raw), .val (.int s1), .val (.int s2), .val (.ref sts), .val (.ref dcs), .unset, .unset, .unset, .unset, .unset, .unset, .unset] [(.int (5 : Int32)), (.long gaps), (.int z5), (.int d4), (.int (5 : Int32)), (.ref dcs)])
            refine rCallS hs X15 hx hZ (as' := [(.int d4), (.int z5), (.long gaps), (.int (5 : Int32))]) (rm1 l Z a0 hw [] d4 z5 gaps (5 : Int32) h15 n0 Z0) hown (hw _ (List.mem_of_getElem? (i := 2) rfl)) (hw _ (List.mem_of_getElem? (i := 3) rfl)) (hw _ (List.mem_of_getElem? (i := 4) rfl)) (hw _ (List.mem_of_getElem? (i := 5) rfl)) hy_1 rfl (by rw [hml]; rfl) [(.int (5 : Int32)), (.ref dcs)] (lenOf pd_3 rfl) rfl 2 (by show 2 * 0 + _ ≤ _; exact Nat.le_of_eq rfl) (hb hby at_212) (by decide) (by decide) (by decide) (by decide) (fun r16 T16 h16 X16 q16 => ?_)
            obtain ⟨rfl, qh16⟩ := q16
            rw [qh16] at X16
            show G T16 (mkF m 215 #[.val (.long gaps), .second, .val (.int sp), .val (.int wh), .val (.int mode), .val (.int raw), .val (.int s1), .val (.int s2), .val (.ref sts), .val (.ref dcs), .unset, .unset, .unset, .unset, .unset, .unset, .unset] [(.int (f1 d4 z5 gaps (5 : Int32))), (.int (5 : Int32)), (.ref dcs)])
            refine nameIt (P := fun zz_ : Int32 => G T16 (mkF m 215 #[.val (.long gaps), .second, .val (.int sp), .val (.int wh), .val (.int mode), .val (.int raw), .val (.int s1), .val (.int s2), .val (.ref sts), .val (.ref dcs), .unset, .unset, .unset, .unset, .unset, .unset, .unset] [(.int zz_), (.int (5 : Int32)), (.ref dcs)])) (f1 d4 z5 gaps (5 : Int32)) (fun d5 hd5 => ?_)
            show G T16 (mkF m 215 #[.val (.long gaps), .second, .val (.int sp), .val (.int wh), .val (.int mode), .val (.int raw), .val (.int s1), .val (.int s2), .val (.ref sts), .val (.ref dcs), .unset, .unset, .unset, .unset, .unset, .unset, .unset] [(.int d5), (.int (5 : Int32)), (.ref dcs)])
            refine rStI hs X16 hx hZ V_dcs g_dcs ⟨by decide, by decide⟩ 5 (by decide) (by simp) rfl rfl (hb hby at_215) (fun T17 h17 X17 W17 V_dcs => ?_)
            have V_dcs : Arv Z h17 dcs k6 .int (6 : Int32) [(.int d0), (.int d1), (.int d2), (.int d3), (.int d4), (.int d5)] (.int (0 : Int32)) := V_dcs
            have V_sts := V_sts.other W17 ne_sts_dcs
            have Z0 := Nat.le_trans Z0 (Keep.of_wr W17).1
            show G T17 (mkF m 216 #[.val (.long gaps), .second, .val (.int sp), .val (.int wh), .val (.int mode), .val (.int raw), .val (.int s1), .val (.int s2), .val (.ref sts), .val (.ref dcs), .unset, .unset, .unset, .unset, .unset, .unset, .unset] [])
            refine hs.go (fun _ kk_ => XS.iloadN X17.here hx rfl (hb hby at_216) rfl  kk_) ?_
            show G T17 (mkF m 217 #[.val (.long gaps), .second, .val (.int sp), .val (.int wh), .val (.int mode), .val (.int raw), .val (.int s1), .val (.int s2), .val (.ref sts), .val (.ref dcs), .unset, .unset, .unset, .unset, .unset, .unset, .unset] [(.int wh)])
            refine rLdcI hs X17 hx hZ hown (hw _ (List.mem_of_getElem? (i := 6) rfl)) rfl (hb hby at_217) ?_
            show G T17 (mkF m 219 #[.val (.long gaps), .second, .val (.int sp), .val (.int wh), .val (.int mode), .val (.int raw), .val (.int s1), .val (.int s2), .val (.ref sts), .val (.ref dcs), .unset, .unset, .unset, .unset, .unset, .unset, .unset] [(.int (2147483647 : Int32)), (.int wh)])
            refine hs.go (fun _ kk_ => XS.iand X17.here hx rfl (hb hby at_219) rfl kk_) ?_
            show G T17 (mkF m 220 #[.val (.long gaps), .second, .val (.int sp), .val (.int wh), .val (.int mode), .val (.int raw), .val (.int s1), .val (.int s2), .val (.ref sts), .val (.ref dcs), .unset, .unset, .unset, .unset, .unset, .unset, .unset] [(.int (wh &&& (2147483647 : Int32)))])
            refine hs.go (fun _ kk_ => XS.iconst X17.here hx rfl (hb hby at_220) kk_) ?_
            show G T17 (mkF m 221 #[.val (.long gaps), .second, .val (.int sp), .val (.int wh), .val (.int mode), .val (.int raw), .val (.int s1), .val (.int s2), .val (.ref sts), .val (.ref dcs), .unset, .unset, .unset, .unset, .unset, .unset, .unset] [(.int (3 : Int32)), (.int (wh &&& (2147483647 : Int32)))])
            refine rIrem hs X17 hx rfl (hb hby at_221) rfl (by decide) ?_
            show G T17 (mkF m 222 #[.val (.long gaps), .second, .val (.int sp), .val (.int wh), .val (.int mode), .val (.int raw), .val (.int s1), .val (.int s2), .val (.ref sts), .val (.ref dcs), .unset, .unset, .unset, .unset, .unset, .unset, .unset] [(.int ((wh &&& (2147483647 : Int32)) % (3 : Int32)))])
            refine nameIt (P := fun zz_ : Int32 => G T17 (mkF m 222 #[.val (.long gaps), .second, .val (.int sp), .val (.int wh), .val (.int mode), .val (.int raw), .val (.int s1), .val (.int s2), .val (.ref sts), .val (.ref dcs), .unset, .unset, .unset, .unset, .unset, .unset, .unset] [(.int zz_)])) ((wh &&& (2147483647 : Int32)) % (3 : Int32)) (fun tm htm => ?_)
            show G T17 (mkF m 222 #[.val (.long gaps), .second, .val (.int sp), .val (.int wh), .val (.int mode), .val (.int raw), .val (.int s1), .val (.int s2), .val (.ref sts), .val (.ref dcs), .unset, .unset, .unset, .unset, .unset, .unset, .unset] [(.int tm)])
            refine hs.go (fun _ kk_ => XS.istore X17.here hx rfl (hb hby at_222) rfl (l' := #[.val (.long gaps), .second, .val (.int sp), .val (.int wh), .val (.int mode), .val (.int raw), .val (.int s1), .val (.int s2), .val (.ref sts), .val (.ref dcs), .val (.int tm), .unset, .unset, .unset, .unset, .unset, .unset]) rfl kk_) ?_
            show G T17 (mkF m 224 #[.val (.long gaps), .second, .val (.int sp), .val (.int wh), .val (.int mode), .val (.int raw), .val (.int s1), .val (.int s2), .val (.ref sts), .val (.ref dcs), .val (.int tm), .unset, .unset, .unset, .unset, .unset, .unset] [])
            have b1 := own_s1 hs1
            have b2 := own_s2 b1 hs2
            have e0 := own_d0 hd0
            have k1_ : (1 : Int32).toInt = 1 := rfl
            have k2_ : (2 : Int32).toInt = 2 := rfl
            have k3_ : (3 : Int32).toInt = 3 := rfl
            have k4_ : (4 : Int32).toInt = 4 := rfl
            have k5_ : (5 : Int32).toInt = 5 := rfl
            have e1 := own_nx 7 (by decide) e0 hJ90 hd1
            have e2 := own_nx 15 (by decide) ⟨e1.1, e1.2.1⟩ hJ120 hd2
            have e3 := own_nx 23 (by decide) ⟨e2.1, e2.2.1⟩ hJ150 hd3
            have e4 := own_nx 31 (by decide) ⟨e3.1, e3.2.1⟩ hJ180 hd4
            have e5 := own_nx 39 (by decide) ⟨e4.1, e4.2.1⟩ hJ210 hd5
            rw [k1_] at e1
            rw [k2_] at e2
            rw [k3_] at e3
            rw [k4_] at e4
            rw [k5_] at e5
            obtain ⟨n, m6, hlo1, hhi1, hnm, hm6, hcase, hjt, hjt1⟩ := own_se (own_tm htm) b1 b2
            have HS := own_srt b1 b2 e1.2.2 e2.2.2 e3.2.2 e4.2.2 e5.2.2 n m6 hcase
            refine hs.go (fun _ kk_ => XS.iload X17.here hx rfl (hb hby at_224) rfl  kk_) ?_
            show G T17 (mkF m 226 #[.val (.long gaps), .second, .val (.int sp), .val (.int wh), .val (.int mode), .val (.int raw), .val (.int s1), .val (.int s2), .val (.ref sts), .val (.ref dcs), .val (.int tm), .unset, .unset, .unset, .unset, .unset, .unset] [(.int mode)])
            refine hs.go (fun _ kk_ => XS.iconst X17.here hx rfl (hb hby at_226) kk_) ?_
            show G T17 (mkF m 227 #[.val (.long gaps), .second, .val (.int sp), .val (.int wh), .val (.int mode), .val (.int raw), .val (.int s1), .val (.int s2), .val (.ref sts), .val (.ref dcs), .val (.int tm), .unset, .unset, .unset, .unset, .unset, .unset] [(.int (1 : Int32)), (.int mode)])
            refine hs.go (fun _ kk_ => XS.iand X17.here hx rfl (hb hby at_227) rfl kk_) ?_
            show G T17 (mkF m 228 #[.val (.long gaps), .second, .val (.int sp), .val (.int wh), .val (.int mode), .val (.int raw), .val (.int s1), .val (.int s2), .val (.ref sts), .val (.ref dcs), .val (.int tm), .unset, .unset, .unset, .unset, .unset, .unset] [(.int (mode &&& (1 : Int32)))])
            by_cases c228 : (mode &&& (1 : Int32)) = (0 : Int32)
            · refine hs.go (fun _ kk_ => XS.ifYes X17.here hx rfl (pc0 := 228) (pc' := 238) rfl (hb hby at_228) rfl ((if0 _ _).trans (teq c228).1) (by decide) (by decide) kk_) ?_
              show G T17 (mkF m 238 #[.val (.long gaps), .second, .val (.int sp), .val (.int wh), .val (.int mode), .val (.int raw), .val (.int s1), .val (.int s2), .val (.ref sts), .val (.ref dcs), .val (.int tm), .unset, .unset, .unset, .unset, .unset, .unset] [])
              refine hs.go (fun _ kk_ => XS.iload X17.here hx rfl (hb hby at_238) rfl  kk_) ?_
              show G T17 (mkF m 240 #[.val (.long gaps), .second, .val (.int sp), .val (.int wh), .val (.int mode), .val (.int raw), .val (.int s1), .val (.int s2), .val (.ref sts), .val (.ref dcs), .val (.int tm), .unset, .unset, .unset, .unset, .unset, .unset] [(.int mode)])
              refine hs.go (fun _ kk_ => XS.iconst X17.here hx rfl (hb hby at_240) kk_) ?_
              show G T17 (mkF m 241 #[.val (.long gaps), .second, .val (.int sp), .val (.int wh), .val (.int mode), .val (.int raw), .val (.int s1), .val (.int s2), .val (.ref sts), .val (.ref dcs), .val (.int tm), .unset, .unset, .unset, .unset, .unset, .unset] [(.int (1 : Int32)), (.int mode)])
              refine hs.go (fun _ kk_ => XS.iushr X17.here hx rfl (hb hby at_241) rfl kk_) ?_
              show G T17 (mkF m 242 #[.val (.long gaps), .second, .val (.int sp), .val (.int wh), .val (.int mode), .val (.int raw), .val (.int s1), .val (.int s2), .val (.ref sts), .val (.ref dcs), .val (.int tm), .unset, .unset, .unset, .unset, .unset, .unset] [(.int ((mode.toUInt32 >>> ((1 : Int32) &&& 31).toUInt32).toInt32))])
              refine hs.go (fun _ kk_ => XS.bipush X17.here hx rfl (hb hby at_242) kk_) ?_
              show G T17 (mkF m 244 #[.val (.long gaps), .second, .val (.int sp), .val (.int wh), .val (.int mode), .val (.int raw), .val (.int s1), .val (.int s2), .val (.ref sts), .val (.ref dcs), .val (.int tm), .unset, .unset, .unset, .unset, .unset, .unset] [(.int (6 : Int32)), (.int ((mode.toUInt32 >>> ((1 : Int32) &&& 31).toUInt32).toInt32))])
              refine rIrem hs X17 hx rfl (hb hby at_244) rfl (by decide) ?_
              show G T17 (mkF m 245 #[.val (.long gaps), .second, .val (.int sp), .val (.int wh), .val (.int mode), .val (.int raw), .val (.int s1), .val (.int s2), .val (.ref sts), .val (.ref dcs), .val (.int tm), .unset, .unset, .unset, .unset, .unset, .unset] [(.int (((mode.toUInt32 >>> ((1 : Int32) &&& 31).toUInt32).toInt32) % (6 : Int32)))])
              refine nameIt (P := fun zz_ : Int32 => G T17 (mkF m 245 #[.val (.long gaps), .second, .val (.int sp), .val (.int wh), .val (.int mode), .val (.int raw), .val (.int s1), .val (.int s2), .val (.ref sts), .val (.ref dcs), .val (.int tm), .unset, .unset, .unset, .unset, .unset, .unset] [(.int zz_)])) (((mode.toUInt32 >>> ((1 : Int32) &&& 31).toUInt32).toInt32) % (6 : Int32)) (fun sl hsl => ?_)
              show G T17 (mkF m 245 #[.val (.long gaps), .second, .val (.int sp), .val (.int wh), .val (.int mode), .val (.int raw), .val (.int s1), .val (.int s2), .val (.ref sts), .val (.ref dcs), .val (.int tm), .unset, .unset, .unset, .unset, .unset, .unset] [(.int sl)])
              refine hs.go (fun _ kk_ => XS.istore X17.here hx rfl (hb hby at_245) rfl (l' := #[.val (.long gaps), .second, .val (.int sp), .val (.int wh), .val (.int mode), .val (.int raw), .val (.int s1), .val (.int s2), .val (.ref sts), .val (.ref dcs), .val (.int tm), .unset, .val (.int sl), .unset, .unset, .unset, .unset]) rfl kk_) ?_
              show G T17 (mkF m 247 #[.val (.long gaps), .second, .val (.int sp), .val (.int wh), .val (.int mode), .val (.int raw), .val (.int s1), .val (.int s2), .val (.ref sts), .val (.ref dcs), .val (.int tm), .unset, .val (.int sl), .unset, .unset, .unset, .unset] [])
              refine hs.go (fun _ kk_ => XS.iload X17.here hx rfl (hb hby at_247) rfl  kk_) ?_
              show G T17 (mkF m 249 #[.val (.long gaps), .second, .val (.int sp), .val (.int wh), .val (.int mode), .val (.int raw), .val (.int s1), .val (.int s2), .val (.ref sts), .val (.ref dcs), .val (.int tm), .unset, .val (.int sl), .unset, .unset, .unset, .unset] [(.int mode)])
              refine hs.go (fun _ kk_ => XS.bipush X17.here hx rfl (hb hby at_249) kk_) ?_
              show G T17 (mkF m 251 #[.val (.long gaps), .second, .val (.int sp), .val (.int wh), .val (.int mode), .val (.int raw), .val (.int s1), .val (.int s2), .val (.ref sts), .val (.ref dcs), .val (.int tm), .unset, .val (.int sl), .unset, .unset, .unset, .unset] [(.int (29 : Int32)), (.int mode)])
              refine hs.go (fun _ kk_ => XS.iushr X17.here hx rfl (hb hby at_251) rfl kk_) ?_
              show G T17 (mkF m 252 #[.val (.long gaps), .second, .val (.int sp), .val (.int wh), .val (.int mode), .val (.int raw), .val (.int s1), .val (.int s2), .val (.ref sts), .val (.ref dcs), .val (.int tm), .unset, .val (.int sl), .unset, .unset, .unset, .unset] [(.int ((mode.toUInt32 >>> ((29 : Int32) &&& 31).toUInt32).toInt32))])
              refine hs.go (fun _ kk_ => XS.iconst X17.here hx rfl (hb hby at_252) kk_) ?_
              show G T17 (mkF m 253 #[.val (.long gaps), .second, .val (.int sp), .val (.int wh), .val (.int mode), .val (.int raw), .val (.int s1), .val (.int s2), .val (.ref sts), .val (.ref dcs), .val (.int tm), .unset, .val (.int sl), .unset, .unset, .unset, .unset] [(.int (3 : Int32)), (.int ((mode.toUInt32 >>> ((29 : Int32) &&& 31).toUInt32).toInt32))])
              refine hs.go (fun _ kk_ => XS.iand X17.here hx rfl (hb hby at_253) rfl kk_) ?_
              show G T17 (mkF m 254 #[.val (.long gaps), .second, .val (.int sp), .val (.int wh), .val (.int mode), .val (.int raw), .val (.int s1), .val (.int s2), .val (.ref sts), .val (.ref dcs), .val (.int tm), .unset, .val (.int sl), .unset, .unset, .unset, .unset] [(.int (((mode.toUInt32 >>> ((29 : Int32) &&& 31).toUInt32).toInt32) &&& (3 : Int32)))])
              refine hs.go (fun _ kk_ => XS.iconst X17.here hx rfl (hb hby at_254) kk_) ?_
              show G T17 (mkF m 255 #[.val (.long gaps), .second, .val (.int sp), .val (.int wh), .val (.int mode), .val (.int raw), .val (.int s1), .val (.int s2), .val (.ref sts), .val (.ref dcs), .val (.int tm), .unset, .val (.int sl), .unset, .unset, .unset, .unset] [(.int (1 : Int32)), (.int (((mode.toUInt32 >>> ((29 : Int32) &&& 31).toUInt32).toInt32) &&& (3 : Int32)))])
              refine hs.go (fun _ kk_ => XS.isub X17.here hx rfl (hb hby at_255) rfl kk_) ?_
              show G T17 (mkF m 256 #[.val (.long gaps), .second, .val (.int sp), .val (.int wh), .val (.int mode), .val (.int raw), .val (.int s1), .val (.int s2), .val (.ref sts), .val (.ref dcs), .val (.int tm), .unset, .val (.int sl), .unset, .unset, .unset, .unset] [(.int ((((mode.toUInt32 >>> ((29 : Int32) &&& 31).toUInt32).toInt32) &&& (3 : Int32)) - (1 : Int32)))])
              refine nameIt (P := fun zz_ : Int32 => G T17 (mkF m 256 #[.val (.long gaps), .second, .val (.int sp), .val (.int wh), .val (.int mode), .val (.int raw), .val (.int s1), .val (.int s2), .val (.ref sts), .val (.ref dcs), .val (.int tm), .unset, .val (.int sl), .unset, .unset, .unset, .unset] [(.int zz_)])) ((((mode.toUInt32 >>> ((29 : Int32) &&& 31).toUInt32).toInt32) &&& (3 : Int32)) - (1 : Int32)) (fun of hof => ?_)
              show G T17 (mkF m 256 #[.val (.long gaps), .second, .val (.int sp), .val (.int wh), .val (.int mode), .val (.int raw), .val (.int s1), .val (.int s2), .val (.ref sts), .val (.ref dcs), .val (.int tm), .unset, .val (.int sl), .unset, .unset, .unset, .unset] [(.int of)])
              refine hs.go (fun _ kk_ => XS.istore X17.here hx rfl (hb hby at_256) rfl (l' := #[.val (.long gaps), .second, .val (.int sp), .val (.int wh), .val (.int mode), .val (.int raw), .val (.int s1), .val (.int s2), .val (.ref sts), .val (.ref dcs), .val (.int tm), .unset, .val (.int sl), .val (.int of), .unset, .unset, .unset]) rfl kk_) ?_
              show G T17 (mkF m 258 #[.val (.long gaps), .second, .val (.int sp), .val (.int wh), .val (.int mode), .val (.int raw), .val (.int s1), .val (.int s2), .val (.ref sts), .val (.ref dcs), .val (.int tm), .unset, .val (.int sl), .val (.int of), .unset, .unset, .unset] [])
              refine hs.go (fun _ kk_ => XS.aload X17.here hx rfl (hb hby at_258) rfl rfl kk_) ?_
              show G T17 (mkF m 260 #[.val (.long gaps), .second, .val (.int sp), .val (.int wh), .val (.int mode), .val (.int raw), .val (.int s1), .val (.int s2), .val (.ref sts), .val (.ref dcs), .val (.int tm), .unset, .val (.int sl), .val (.int of), .unset, .unset, .unset] [(.ref dcs)])
              refine hs.go (fun _ kk_ => XS.iload X17.here hx rfl (hb hby at_260) rfl  kk_) ?_
              show G T17 (mkF m 262 #[.val (.long gaps), .second, .val (.int sp), .val (.int wh), .val (.int mode), .val (.int raw), .val (.int s1), .val (.int s2), .val (.ref sts), .val (.ref dcs), .val (.int tm), .unset, .val (.int sl), .val (.int of), .unset, .unset, .unset] [(.int sl), (.ref dcs)])
              refine rLdI hs X17 hx hZ V_dcs (own_sl hsl) (v := (.int (List.getD [d0, d1, d2, d3, d4, d5] sl.toNatClampNeg 0))) (own_gm [d0, d1, d2, d3, d4, d5] _) rfl rfl (hb hby at_262) ?_
              show G T17 (mkF m 263 #[.val (.long gaps), .second, .val (.int sp), .val (.int wh), .val (.int mode), .val (.int raw), .val (.int s1), .val (.int s2), .val (.ref sts), .val (.ref dcs), .val (.int tm), .unset, .val (.int sl), .val (.int of), .unset, .unset, .unset] [(.int (List.getD [d0, d1, d2, d3, d4, d5] sl.toNatClampNeg 0))])
              refine hs.go (fun _ kk_ => XS.iload X17.here hx rfl (hb hby at_263) rfl  kk_) ?_
              show G T17 (mkF m 265 #[.val (.long gaps), .second, .val (.int sp), .val (.int wh), .val (.int mode), .val (.int raw), .val (.int s1), .val (.int s2), .val (.ref sts), .val (.ref dcs), .val (.int tm), .unset, .val (.int sl), .val (.int of), .unset, .unset, .unset] [(.int of), (.int (List.getD [d0, d1, d2, d3, d4, d5] sl.toNatClampNeg 0))])
              refine hs.go (fun _ kk_ => XS.iadd X17.here hx rfl (hb hby at_265) rfl kk_) ?_
              show G T17 (mkF m 266 #[.val (.long gaps), .second, .val (.int sp), .val (.int wh), .val (.int mode), .val (.int raw), .val (.int s1), .val (.int s2), .val (.ref sts), .val (.ref dcs), .val (.int tm), .unset, .val (.int sl), .val (.int of), .unset, .unset, .unset] [(.int ((List.getD [d0, d1, d2, d3, d4, d5] sl.toNatClampNeg 0) + of))])
              refine nameIt (P := fun zz_ : Int32 => G T17 (mkF m 266 #[.val (.long gaps), .second, .val (.int sp), .val (.int wh), .val (.int mode), .val (.int raw), .val (.int s1), .val (.int s2), .val (.ref sts), .val (.ref dcs), .val (.int tm), .unset, .val (.int sl), .val (.int of), .unset, .unset, .unset] [(.int zz_)])) ((List.getD [d0, d1, d2, d3, d4, d5] sl.toNatClampNeg 0) + of) (fun doc hdoc => ?_)
              show G T17 (mkF m 266 #[.val (.long gaps), .second, .val (.int sp), .val (.int wh), .val (.int mode), .val (.int raw), .val (.int s1), .val (.int s2), .val (.ref sts), .val (.ref dcs), .val (.int tm), .unset, .val (.int sl), .val (.int of), .unset, .unset, .unset] [(.int doc)])
              refine hs.go (fun _ kk_ => XS.istore X17.here hx rfl (hb hby at_266) rfl (l' := #[.val (.long gaps), .second, .val (.int sp), .val (.int wh), .val (.int mode), .val (.int raw), .val (.int s1), .val (.int s2), .val (.ref sts), .val (.ref dcs), .val (.int tm), .val (.int doc), .val (.int sl), .val (.int of), .unset, .unset, .unset]) rfl kk_) ?_
              show G T17 (mkF m 268 #[.val (.long gaps), .second, .val (.int sp), .val (.int wh), .val (.int mode), .val (.int raw), .val (.int s1), .val (.int s2), .val (.ref sts), .val (.ref dcs), .val (.int tm), .val (.int doc), .val (.int sl), .val (.int of), .unset, .unset, .unset] [])
              refine rNewO hs X17 hx hZ hown (hw _ (List.mem_of_getElem? (i := 7) rfl)) (hw _ (List.mem_of_getElem? (i := 8) rfl)) (hw _ (List.mem_of_getElem? (i := 9) rfl)) rfl (hb hby at_268) (by decide) (by decide) (fun T18 h18 ob g18 X18 E18 E_ob D18 => ?_)
              have g_ob : n0 ≤ ob := by rw [g18]; exact Z0
              have Z0 := Nat.le_trans Z0 E18.1
              have ne_sts_ob : sts ≠ ob := Nat.ne_of_lt (Nat.lt_of_lt_of_le V_sts.lt (Nat.le_of_eq g18.symm))
              have ne_dcs_ob : dcs ≠ ob := Nat.ne_of_lt (Nat.lt_of_lt_of_le V_dcs.lt (Nat.le_of_eq g18.symm))
              have V_sts := V_sts.ext E18
              have V_dcs := V_dcs.ext E18
              have F_analysis_ob : Fld Z h18 ob "com/example/vector_space_ranker/vectorspaceranker/Index" "analysis" "Lcom/example/vector_space_ranker/vectorspaceranker/Analysis;" .null := D18 (Or.inr (hw _ (List.mem_of_getElem? (i := 17) rfl))) (ty := (.object "com/example/vector_space_ranker/vectorspaceranker/Analysis")) (by decide)
              have F_docnos_ob : Fld Z h18 ob "com/example/vector_space_ranker/vectorspaceranker/Index" "docnos" "[Ljava/lang/String;" .null := D18 (Or.inr (hw _ (List.mem_of_getElem? (i := 19) rfl))) (ty := (.array (.object "java/lang/String"))) (by decide)
              have F_characterLengths_ob : Fld Z h18 ob "com/example/vector_space_ranker/vectorspaceranker/Index" "characterLengths" "[I" .null := D18 (Or.inr (hw _ (List.mem_of_getElem? (i := 21) rfl))) (ty := (.array .int)) (by decide)
              have F_terms_ob : Fld Z h18 ob "com/example/vector_space_ranker/vectorspaceranker/Index" "terms" "[Ljava/lang/String;" .null := D18 (Or.inr (hw _ (List.mem_of_getElem? (i := 23) rfl))) (ty := (.array (.object "java/lang/String"))) (by decide)
              have F_postingStarts_ob : Fld Z h18 ob "com/example/vector_space_ranker/vectorspaceranker/Index" "postingStarts" "[I" .null := D18 (Or.inr (hw _ (List.mem_of_getElem? (i := 25) rfl))) (ty := (.array .int)) (by decide)
              have F_postingDocuments_ob : Fld Z h18 ob "com/example/vector_space_ranker/vectorspaceranker/Index" "postingDocuments" "[I" .null := D18 (Or.inr (hw _ (List.mem_of_getElem? (i := 27) rfl))) (ty := (.array .int)) (by decide)
              have F_postingFrequencies_ob : Fld Z h18 ob "com/example/vector_space_ranker/vectorspaceranker/Index" "postingFrequencies" "[I" .null := D18 (Or.inr (hw _ (List.mem_of_getElem? (i := 29) rfl))) (ty := (.array .int)) (by decide)
              have F_tokenCount_ob : Fld Z h18 ob "com/example/vector_space_ranker/vectorspaceranker/Index" "tokenCount" "J" (.long (0 : Int64)) := D18 (Or.inr (hw _ (List.mem_of_getElem? (i := 31) rfl))) (ty := .long) (by decide)
              show G T18 (mkF m 271 #[.val (.long gaps), .second, .val (.int sp), .val (.int wh), .val (.int mode), .val (.int raw), .val (.int s1), .val (.int s2), .val (.ref sts), .val (.ref dcs), .val (.int tm), .val (.int doc), .val (.int sl), .val (.int of), .unset, .unset, .unset] [(.ref ob)])
              refine hs.go (fun _ kk_ => XS.dup X18.here hx rfl (hb hby at_271) rfl rfl kk_) ?_
              show G T18 (mkF m 272 #[.val (.long gaps), .second, .val (.int sp), .val (.int wh), .val (.int mode), .val (.int raw), .val (.int s1), .val (.int s2), .val (.ref sts), .val (.ref dcs), .val (.int tm), .val (.int doc), .val (.int sl), .val (.int of), .unset, .unset, .unset] [(.ref ob), (.ref ob)])
              refine hs.go (fun _ kk_ => XS.aconstNull X18.here hx rfl (hb hby at_272) kk_) ?_
              show G T18 (mkF m 273 #[.val (.long gaps), .second, .val (.int sp), .val (.int wh), .val (.int mode), .val (.int raw), .val (.int s1), .val (.int s2), .val (.ref sts), .val (.ref dcs), .val (.int tm), .val (.int doc), .val (.int sl), .val (.int of), .unset, .unset, .unset] [.null, (.ref ob), (.ref ob)])
              refine hs.go (fun _ kk_ => XS.aconstNull X18.here hx rfl (hb hby at_273) kk_) ?_
              show G T18 (mkF m 274 #[.val (.long gaps), .second, .val (.int sp), .val (.int wh), .val (.int mode), .val (.int raw), .val (.int s1), .val (.int s2), .val (.ref sts), .val (.ref dcs), .val (.int tm), .val (.int doc), .val (.int sl), .val (.int of), .unset, .unset, .unset] [.null, .null, (.ref ob), (.ref ob)])
              refine hs.go (fun _ kk_ => XS.aconstNull X18.here hx rfl (hb hby at_274) kk_) ?_
              show G T18 (mkF m 275 #[.val (.long gaps), .second, .val (.int sp), .val (.int wh), .val (.int mode), .val (.int raw), .val (.int s1), .val (.int s2), .val (.ref sts), .val (.ref dcs), .val (.int tm), .val (.int doc), .val (.int sl), .val (.int of), .unset, .unset, .unset] [.null, .null, .null, (.ref ob), (.ref ob)])
              refine hs.go (fun _ kk_ => XS.aconstNull X18.here hx rfl (hb hby at_275) kk_) ?_
              show G T18 (mkF m 276 #[.val (.long gaps), .second, .val (.int sp), .val (.int wh), .val (.int mode), .val (.int raw), .val (.int s1), .val (.int s2), .val (.ref sts), .val (.ref dcs), .val (.int tm), .val (.int doc), .val (.int sl), .val (.int of), .unset, .unset, .unset] [.null, .null, .null, .null, (.ref ob), (.ref ob)])
              refine hs.go (fun _ kk_ => XS.aload X18.here hx rfl (hb hby at_276) rfl rfl kk_) ?_
              show G T18 (mkF m 278 #[.val (.long gaps), .second, .val (.int sp), .val (.int wh), .val (.int mode), .val (.int raw), .val (.int s1), .val (.int s2), .val (.ref sts), .val (.ref dcs), .val (.int tm), .val (.int doc), .val (.int sl), .val (.int of), .unset, .unset, .unset] [(.ref sts), .null, .null, .null, .null, (.ref ob), (.ref ob)])
              refine hs.go (fun _ kk_ => XS.aload X18.here hx rfl (hb hby at_278) rfl rfl kk_) ?_
              show G T18 (mkF m 280 #[.val (.long gaps), .second, .val (.int sp), .val (.int wh), .val (.int mode), .val (.int raw), .val (.int s1), .val (.int s2), .val (.ref sts), .val (.ref dcs), .val (.int tm), .val (.int doc), .val (.int sl), .val (.int of), .unset, .unset, .unset] [(.ref dcs), (.ref sts), .null, .null, .null, .null, (.ref ob), (.ref ob)])
              refine hs.go (fun _ kk_ => XS.aconstNull X18.here hx rfl (hb hby at_280) kk_) ?_
              show G T18 (mkF m 281 #[.val (.long gaps), .second, .val (.int sp), .val (.int wh), .val (.int mode), .val (.int raw), .val (.int s1), .val (.int s2), .val (.ref sts), .val (.ref dcs), .val (.int tm), .val (.int doc), .val (.int sl), .val (.int of), .unset, .unset, .unset] [.null, (.ref dcs), (.ref sts), .null, .null, .null, .null, (.ref ob), (.ref ob)])
              refine hs.go (fun _ kk_ => XS.lconst X18.here hx rfl (hb hby at_281) kk_) ?_
              show G T18 (mkF m 282 #[.val (.long gaps), .second, .val (.int sp), .val (.int wh), .val (.int mode), .val (.int raw), .val (.int s1), .val (.int s2), .val (.ref sts), .val (.ref dcs), .val (.int tm), .val (.int doc), .val (.int sl), .val (.int of), .unset, .unset, .unset] [(.long (0 : Int64)), .null, (.ref dcs), (.ref sts), .null, .null, .null, .null, (.ref ob), (.ref ob)])
              refine rCallI hs X18 hx hZ (as' := [.null, .null, .null, .null, (.ref sts), (.ref dcs), .null, (.long (0 : Int64))]) (rm2 l Z a0 hw [] ob sts dcs (0 : Int64) h18 n0 Z0 E_ob g_ob F_analysis_ob F_docnos_ob F_characterLengths_ob F_terms_ob F_postingStarts_ob F_postingDocuments_ob F_postingFrequencies_ob F_tokenCount_ob) rfl hown (hw _ (List.mem_of_getElem? (i := 10) rfl)) (hw _ (List.mem_of_getElem? (i := 11) rfl)) (hw _ (List.mem_of_getElem? (i := 9) rfl)) (hw _ (List.mem_of_getElem? (i := 12) rfl)) hy_2 rfl (by rw [hml]; rfl) [(.ref ob)] (lenOf pd_4 rfl) rfl 1 (by show 2 * 0 + _ ≤ _; exact Nat.le_of_eq rfl) (hb hby at_282) (by decide) (by decide) (by decide) (by decide) (fun r19 T19 h19 X19 q19 => ?_)
              obtain ⟨rfl, Kc19, E_ob, F_postingStarts_ob, F_postingDocuments_ob⟩ := q19
              have Z0 := Nat.le_trans Z0 Kc19.1
              have V_sts := V_sts.keep Kc19 (ninS ne_sts_ob nin0)
              have V_dcs := V_dcs.keep Kc19 (ninS ne_dcs_ob nin0)
              show G T19 (mkF m 285 #[.val (.long gaps), .second, .val (.int sp), .val (.int wh), .val (.int mode), .val (.int raw), .val (.int s1), .val (.int s2), .val (.ref sts), .val (.ref dcs), .val (.int tm), .val (.int doc), .val (.int sl), .val (.int of), .unset, .unset, .unset] [(.ref ob)])
              refine hs.go (fun _ kk_ => XS.astore X19.here hx rfl (hb hby at_285) rfl rfl (l' := #[.val (.long gaps), .second, .val (.int sp), .val (.int wh), .val (.int mode), .val (.int raw), .val (.int s1), .val (.int s2), .val (.ref sts), .val (.ref dcs), .val (.int tm), .val (.int doc), .val (.ref ob), .val (.int of), .unset, .unset, .unset]) rfl kk_) ?_
              show G T19 (mkF m 287 #[.val (.long gaps), .second, .val (.int sp), .val (.int wh), .val (.int mode), .val (.int raw), .val (.int s1), .val (.int s2), .val (.ref sts), .val (.ref dcs), .val (.int tm), .val (.int doc), .val (.ref ob), .val (.int of), .unset, .unset, .unset] [])
              refine hs.go (fun _ kk_ => XS.aload X19.here hx rfl (hb hby at_287) rfl rfl kk_) ?_
              show G T19 (mkF m 289 #[.val (.long gaps), .second, .val (.int sp), .val (.int wh), .val (.int mode), .val (.int raw), .val (.int s1), .val (.int s2), .val (.ref sts), .val (.ref dcs), .val (.int tm), .val (.int doc), .val (.ref ob), .val (.int of), .unset, .unset, .unset] [(.ref ob)])
              refine hs.go (fun _ kk_ => XS.iload X19.here hx rfl (hb hby at_289) rfl  kk_) ?_
              show G T19 (mkF m 291 #[.val (.long gaps), .second, .val (.int sp), .val (.int wh), .val (.int mode), .val (.int raw), .val (.int s1), .val (.int s2), .val (.ref sts), .val (.ref dcs), .val (.int tm), .val (.int doc), .val (.ref ob), .val (.int of), .unset, .unset, .unset] [(.int tm), (.ref ob)])
              refine hs.go (fun _ kk_ => XS.iload X19.here hx rfl (hb hby at_291) rfl  kk_) ?_
              show G T19 (mkF m 293 #[.val (.long gaps), .second, .val (.int sp), .val (.int wh), .val (.int mode), .val (.int raw), .val (.int s1), .val (.int s2), .val (.ref sts), .val (.ref dcs), .val (.int tm), .val (.int doc), .val (.ref ob), .val (.int of), .unset, .unset, .unset] [(.int doc), (.int tm), (.ref ob)])
              refine rCallV hs X19 hx hZ (as' := [(.int tm), (.int doc)]) (rm4 l Z a0 hw [] ob dcs sts tm doc (List.getD [(0 : Int32), s1, s2, (6 : Int32)] tm.toNatClampNeg 0) (List.getD [(0 : Int32), s1, s2, (6 : Int32)] (tm + (1 : Int32)).toNatClampNeg 0) (4 : Int32) [d0, d1, d2, d3, d4, d5] [(.int (0 : Int32)), (.int s1), (.int s2), (.int (6 : Int32))] (.int (0 : Int32)) k6 k1 n m6 h19 n0 Z0 E_ob F_postingStarts_ob F_postingDocuments_ob V_sts V_dcs hjt (own_gm [(0 : Int32), s1, s2, (6 : Int32)] _) hjt1 (own_gm [(0 : Int32), s1, s2, (6 : Int32)] _) hlo1 hhi1 hnm hm6 HS) E_ob hown (hw _ (List.mem_of_getElem? (i := 32) rfl)) (hw _ (List.mem_of_getElem? (i := 33) rfl)) (hw _ (List.mem_of_getElem? (i := 35) rfl)) (hw _ (List.mem_of_getElem? (i := 34) rfl)) (hw _ (List.mem_of_getElem? (i := 9) rfl)) (hw _ (List.mem_of_getElem? (i := 36) rfl)) hy_4 rfl (by rw [hml]; rfl) [] (lenOf pd_5 rfl) rfl 0 (by show 2 * 0 + _ ≤ _; exact Nat.le_of_eq rfl) (hb hby at_293) (by decide) (by decide) (by decide) (by decide) (fun r20 T20 h20 X20 q20 => ?_)
              obtain ⟨uu, rfl, hrr, qh20⟩ := q20
              rw [qh20] at X20
              show G T20 (mkF m 296 #[.val (.long gaps), .second, .val (.int sp), .val (.int wh), .val (.int mode), .val (.int raw), .val (.int s1), .val (.int s2), .val (.ref sts), .val (.ref dcs), .val (.int tm), .val (.int doc), .val (.ref ob), .val (.int of), .unset, .unset, .unset] [(.int uu)])
              refine hs.go (fun _ kk_ => XS.istore X20.here hx rfl (hb hby at_296) rfl (l' := #[.val (.long gaps), .second, .val (.int sp), .val (.int wh), .val (.int mode), .val (.int raw), .val (.int s1), .val (.int s2), .val (.ref sts), .val (.ref dcs), .val (.int tm), .val (.int doc), .val (.ref ob), .val (.int uu), .unset, .unset, .unset]) rfl kk_) ?_
              show G T20 (mkF m 298 #[.val (.long gaps), .second, .val (.int sp), .val (.int wh), .val (.int mode), .val (.int raw), .val (.int s1), .val (.int s2), .val (.ref sts), .val (.ref dcs), .val (.int tm), .val (.int doc), .val (.ref ob), .val (.int uu), .unset, .unset, .unset] [])
              refine hs.go (fun _ kk_ => XS.aload X20.here hx rfl (hb hby at_298) rfl rfl kk_) ?_
              show G T20 (mkF m 300 #[.val (.long gaps), .second, .val (.int sp), .val (.int wh), .val (.int mode), .val (.int raw), .val (.int s1), .val (.int s2), .val (.ref sts), .val (.ref dcs), .val (.int tm), .val (.int doc), .val (.ref ob), .val (.int uu), .unset, .unset, .unset] [(.ref sts)])
              refine hs.go (fun _ kk_ => XS.iload X20.here hx rfl (hb hby at_300) rfl  kk_) ?_
              show G T20 (mkF m 302 #[.val (.long gaps), .second, .val (.int sp), .val (.int wh), .val (.int mode), .val (.int raw), .val (.int s1), .val (.int s2), .val (.ref sts), .val (.ref dcs), .val (.int tm), .val (.int doc), .val (.ref ob), .val (.int uu), .unset, .unset, .unset] [(.int tm), (.ref sts)])
              refine rLdI hs X20 hx hZ V_sts hjt (v := (.int (List.getD [(0 : Int32), s1, s2, (6 : Int32)] tm.toNatClampNeg 0))) (own_gm [(0 : Int32), s1, s2, (6 : Int32)] _) rfl rfl (hb hby at_302) ?_
              show G T20 (mkF m 303 #[.val (.long gaps), .second, .val (.int sp), .val (.int wh), .val (.int mode), .val (.int raw), .val (.int s1), .val (.int s2), .val (.ref sts), .val (.ref dcs), .val (.int tm), .val (.int doc), .val (.ref ob), .val (.int uu), .unset, .unset, .unset] [(.int (List.getD [(0 : Int32), s1, s2, (6 : Int32)] tm.toNatClampNeg 0))])
              refine nameIt (P := fun zz_ : Int32 => G T20 (mkF m 303 #[.val (.long gaps), .second, .val (.int sp), .val (.int wh), .val (.int mode), .val (.int raw), .val (.int s1), .val (.int s2), .val (.ref sts), .val (.ref dcs), .val (.int tm), .val (.int doc), .val (.ref ob), .val (.int uu), .unset, .unset, .unset] [(.int zz_)])) (List.getD [(0 : Int32), s1, s2, (6 : Int32)] tm.toNatClampNeg 0) (fun lo hlo => ?_)
              show G T20 (mkF m 303 #[.val (.long gaps), .second, .val (.int sp), .val (.int wh), .val (.int mode), .val (.int raw), .val (.int s1), .val (.int s2), .val (.ref sts), .val (.ref dcs), .val (.int tm), .val (.int doc), .val (.ref ob), .val (.int uu), .unset, .unset, .unset] [(.int lo)])
              refine hs.go (fun _ kk_ => XS.istore X20.here hx rfl (hb hby at_303) rfl (l' := #[.val (.long gaps), .second, .val (.int sp), .val (.int wh), .val (.int mode), .val (.int raw), .val (.int s1), .val (.int s2), .val (.ref sts), .val (.ref dcs), .val (.int tm), .val (.int doc), .val (.ref ob), .val (.int uu), .val (.int lo), .unset, .unset]) rfl kk_) ?_
              show G T20 (mkF m 305 #[.val (.long gaps), .second, .val (.int sp), .val (.int wh), .val (.int mode), .val (.int raw), .val (.int s1), .val (.int s2), .val (.ref sts), .val (.ref dcs), .val (.int tm), .val (.int doc), .val (.ref ob), .val (.int uu), .val (.int lo), .unset, .unset] [])
              refine hs.go (fun _ kk_ => XS.aload X20.here hx rfl (hb hby at_305) rfl rfl kk_) ?_
              show G T20 (mkF m 307 #[.val (.long gaps), .second, .val (.int sp), .val (.int wh), .val (.int mode), .val (.int raw), .val (.int s1), .val (.int s2), .val (.ref sts), .val (.ref dcs), .val (.int tm), .val (.int doc), .val (.ref ob), .val (.int uu), .val (.int lo), .unset, .unset] [(.ref sts)])
              refine hs.go (fun _ kk_ => XS.iload X20.here hx rfl (hb hby at_307) rfl  kk_) ?_
              show G T20 (mkF m 309 #[.val (.long gaps), .second, .val (.int sp), .val (.int wh), .val (.int mode), .val (.int raw), .val (.int s1), .val (.int s2), .val (.ref sts), .val (.ref dcs), .val (.int tm), .val (.int doc), .val (.ref ob), .val (.int uu), .val (.int lo), .unset, .unset] [(.int tm), (.ref sts)])
              refine hs.go (fun _ kk_ => XS.iconst X20.here hx rfl (hb hby at_309) kk_) ?_
              show G T20 (mkF m 310 #[.val (.long gaps), .second, .val (.int sp), .val (.int wh), .val (.int mode), .val (.int raw), .val (.int s1), .val (.int s2), .val (.ref sts), .val (.ref dcs), .val (.int tm), .val (.int doc), .val (.ref ob), .val (.int uu), .val (.int lo), .unset, .unset] [(.int (1 : Int32)), (.int tm), (.ref sts)])
              refine hs.go (fun _ kk_ => XS.iadd X20.here hx rfl (hb hby at_310) rfl kk_) ?_
              show G T20 (mkF m 311 #[.val (.long gaps), .second, .val (.int sp), .val (.int wh), .val (.int mode), .val (.int raw), .val (.int s1), .val (.int s2), .val (.ref sts), .val (.ref dcs), .val (.int tm), .val (.int doc), .val (.ref ob), .val (.int uu), .val (.int lo), .unset, .unset] [(.int (tm + (1 : Int32))), (.ref sts)])
              refine rLdI hs X20 hx hZ V_sts hjt1 (v := (.int (List.getD [(0 : Int32), s1, s2, (6 : Int32)] (tm + (1 : Int32)).toNatClampNeg 0))) (own_gm [(0 : Int32), s1, s2, (6 : Int32)] _) rfl rfl (hb hby at_311) ?_
              show G T20 (mkF m 312 #[.val (.long gaps), .second, .val (.int sp), .val (.int wh), .val (.int mode), .val (.int raw), .val (.int s1), .val (.int s2), .val (.ref sts), .val (.ref dcs), .val (.int tm), .val (.int doc), .val (.ref ob), .val (.int uu), .val (.int lo), .unset, .unset] [(.int (List.getD [(0 : Int32), s1, s2, (6 : Int32)] (tm + (1 : Int32)).toNatClampNeg 0))])
              refine nameIt (P := fun zz_ : Int32 => G T20 (mkF m 312 #[.val (.long gaps), .second, .val (.int sp), .val (.int wh), .val (.int mode), .val (.int raw), .val (.int s1), .val (.int s2), .val (.ref sts), .val (.ref dcs), .val (.int tm), .val (.int doc), .val (.ref ob), .val (.int uu), .val (.int lo), .unset, .unset] [(.int zz_)])) (List.getD [(0 : Int32), s1, s2, (6 : Int32)] (tm + (1 : Int32)).toNatClampNeg 0) (fun hi hhi => ?_)
              show G T20 (mkF m 312 #[.val (.long gaps), .second, .val (.int sp), .val (.int wh), .val (.int mode), .val (.int raw), .val (.int s1), .val (.int s2), .val (.ref sts), .val (.ref dcs), .val (.int tm), .val (.int doc), .val (.ref ob), .val (.int uu), .val (.int lo), .unset, .unset] [(.int hi)])
              refine hs.go (fun _ kk_ => XS.istore X20.here hx rfl (hb hby at_312) rfl (l' := #[.val (.long gaps), .second, .val (.int sp), .val (.int wh), .val (.int mode), .val (.int raw), .val (.int s1), .val (.int s2), .val (.ref sts), .val (.ref dcs), .val (.int tm), .val (.int doc), .val (.ref ob), .val (.int uu), .val (.int lo), .val (.int hi), .unset]) rfl kk_) ?_
              show G T20 (mkF m 314 #[.val (.long gaps), .second, .val (.int sp), .val (.int wh), .val (.int mode), .val (.int raw), .val (.int s1), .val (.int s2), .val (.ref sts), .val (.ref dcs), .val (.int tm), .val (.int doc), .val (.ref ob), .val (.int uu), .val (.int lo), .val (.int hi), .unset] [])
              refine hs.go (fun _ kk_ => XS.iconst X20.here hx rfl (hb hby at_314) kk_) ?_
              show G T20 (mkF m 315 #[.val (.long gaps), .second, .val (.int sp), .val (.int wh), .val (.int mode), .val (.int raw), .val (.int s1), .val (.int s2), .val (.ref sts), .val (.ref dcs), .val (.int tm), .val (.int doc), .val (.ref ob), .val (.int uu), .val (.int lo), .val (.int hi), .unset] [(.int (-1 : Int32))])
              refine hs.go (fun _ kk_ => XS.istore X20.here hx rfl (hb hby at_315) rfl (l' := #[.val (.long gaps), .second, .val (.int sp), .val (.int wh), .val (.int mode), .val (.int raw), .val (.int s1), .val (.int s2), .val (.ref sts), .val (.ref dcs), .val (.int tm), .val (.int doc), .val (.ref ob), .val (.int uu), .val (.int lo), .val (.int hi), .val (.int (-1 : Int32))]) rfl kk_) ?_
              show G T20 (mkF m 317 #[.val (.long gaps), .second, .val (.int sp), .val (.int wh), .val (.int mode), .val (.int raw), .val (.int s1), .val (.int s2), .val (.ref sts), .val (.ref dcs), .val (.int tm), .val (.int doc), .val (.ref ob), .val (.int uu), .val (.int lo), .val (.int hi), .val (.int (-1 : Int32))] [])
              refine hs.go (fun _ kk_ => XS.iload X20.here hx rfl (hb hby at_317) rfl  kk_) ?_
              show G T20 (mkF m 319 #[.val (.long gaps), .second, .val (.int sp), .val (.int wh), .val (.int mode), .val (.int raw), .val (.int s1), .val (.int s2), .val (.ref sts), .val (.ref dcs), .val (.int tm), .val (.int doc), .val (.ref ob), .val (.int uu), .val (.int lo), .val (.int hi), .val (.int (-1 : Int32))] [(.int (-1 : Int32))])
              refine hs.go (fun _ kk_ => XS.iconst X20.here hx rfl (hb hby at_319) kk_) ?_
              show G T20 (mkF m 320 #[.val (.long gaps), .second, .val (.int sp), .val (.int wh), .val (.int mode), .val (.int raw), .val (.int s1), .val (.int s2), .val (.ref sts), .val (.ref dcs), .val (.int tm), .val (.int doc), .val (.ref ob), .val (.int uu), .val (.int lo), .val (.int hi), .val (.int (-1 : Int32))] [(.int (0 : Int32)), (.int (-1 : Int32))])
              refine hs.go (fun _ kk_ => XS.iload X20.here hx rfl (hb hby at_320) rfl  kk_) ?_
              show G T20 (mkF m 322 #[.val (.long gaps), .second, .val (.int sp), .val (.int wh), .val (.int mode), .val (.int raw), .val (.int s1), .val (.int s2), .val (.ref sts), .val (.ref dcs), .val (.int tm), .val (.int doc), .val (.ref ob), .val (.int uu), .val (.int lo), .val (.int hi), .val (.int (-1 : Int32))] [(.int lo), (.int (0 : Int32)), (.int (-1 : Int32))])
              refine hs.go (fun _ kk_ => XS.iload X20.here hx rfl (hb hby at_322) rfl  kk_) ?_
              show G T20 (mkF m 324 #[.val (.long gaps), .second, .val (.int sp), .val (.int wh), .val (.int mode), .val (.int raw), .val (.int s1), .val (.int s2), .val (.ref sts), .val (.ref dcs), .val (.int tm), .val (.int doc), .val (.ref ob), .val (.int uu), .val (.int lo), .val (.int hi), .val (.int (-1 : Int32))] [(.int hi), (.int lo), (.int (0 : Int32)), (.int (-1 : Int32))])
              refine hs.go (fun _ kk_ => XS.aload X20.here hx rfl (hb hby at_324) rfl rfl kk_) ?_
              show G T20 (mkF m 326 #[.val (.long gaps), .second, .val (.int sp), .val (.int wh), .val (.int mode), .val (.int raw), .val (.int s1), .val (.int s2), .val (.ref sts), .val (.ref dcs), .val (.int tm), .val (.int doc), .val (.ref ob), .val (.int uu), .val (.int lo), .val (.int hi), .val (.int (-1 : Int32))] [(.ref dcs), (.int hi), (.int lo), (.int (0 : Int32)), (.int (-1 : Int32))])
              refine hs.go (fun _ kk_ => XS.iload X20.here hx rfl (hb hby at_326) rfl  kk_) ?_
              show G T20 (mkF m 328 #[.val (.long gaps), .second, .val (.int sp), .val (.int wh), .val (.int mode), .val (.int raw), .val (.int s1), .val (.int s2), .val (.ref sts), .val (.ref dcs), .val (.int tm), .val (.int doc), .val (.ref ob), .val (.int uu), .val (.int lo), .val (.int hi), .val (.int (-1 : Int32))] [(.int doc), (.ref dcs), (.int hi), (.int lo), (.int (0 : Int32)), (.int (-1 : Int32))])
              refine rCallS hs X20 hx hZ (as' := [(.int (-1 : Int32)), (.int (0 : Int32)), (.int lo), (.int hi), (.ref dcs), (.int doc)]) (rm10 l Z a0 hw [] (-1 : Int32) (0 : Int32) lo hi dcs doc [d0, d1, d2, d3, d4, d5] k6 h19 n0 Z0 V_dcs ⟨by decide, by decide⟩) hown (hw _ (List.mem_of_getElem? (i := 57) rfl)) (hw _ (List.mem_of_getElem? (i := 58) rfl)) (hw _ (List.mem_of_getElem? (i := 4) rfl)) (hw _ (List.mem_of_getElem? (i := 59) rfl)) hy_10 rfl (by rw [hml]; rfl) [] (lenOf pd_6 rfl) rfl 0 (by show 2 * 0 + _ ≤ _; exact Nat.le_of_eq rfl) (hb hby at_328) (by decide) (by decide) (by decide) (by decide) (fun r21 T21 h21 X21 q21 => ?_)
              obtain ⟨rfl, qh21⟩ := q21
              rw [qh21] at X21
              show G T21 (mkF m 331 #[.val (.long gaps), .second, .val (.int sp), .val (.int wh), .val (.int mode), .val (.int raw), .val (.int s1), .val (.int s2), .val (.ref sts), .val (.ref dcs), .val (.int tm), .val (.int doc), .val (.ref ob), .val (.int uu), .val (.int lo), .val (.int hi), .val (.int (-1 : Int32))] [(.int (fh (-1 : Int32) (0 : Int32) lo hi doc d0))])
              refine hs.go (fun _ kk_ => XS.istore X21.here hx rfl (hb hby at_331) rfl (l' := #[.val (.long gaps), .second, .val (.int sp), .val (.int wh), .val (.int mode), .val (.int raw), .val (.int s1), .val (.int s2), .val (.ref sts), .val (.ref dcs), .val (.int tm), .val (.int doc), .val (.ref ob), .val (.int uu), .val (.int lo), .val (.int hi), .val (.int (fh (-1 : Int32) (0 : Int32) lo hi doc d0))]) rfl kk_) ?_
              show G T21 (mkF m 333 #[.val (.long gaps), .second, .val (.int sp), .val (.int wh), .val (.int mode), .val (.int raw), .val (.int s1), .val (.int s2), .val (.ref sts), .val (.ref dcs), .val (.int tm), .val (.int doc), .val (.ref ob), .val (.int uu), .val (.int lo), .val (.int hi), .val (.int (fh (-1 : Int32) (0 : Int32) lo hi doc d0))] [])
              refine hs.go (fun _ kk_ => XS.iload X21.here hx rfl (hb hby at_333) rfl  kk_) ?_
              show G T21 (mkF m 335 #[.val (.long gaps), .second, .val (.int sp), .val (.int wh), .val (.int mode), .val (.int raw), .val (.int s1), .val (.int s2), .val (.ref sts), .val (.ref dcs), .val (.int tm), .val (.int doc), .val (.ref ob), .val (.int uu), .val (.int lo), .val (.int hi), .val (.int (fh (-1 : Int32) (0 : Int32) lo hi doc d0))] [(.int (fh (-1 : Int32) (0 : Int32) lo hi doc d0))])
              refine hs.go (fun _ kk_ => XS.iconst X21.here hx rfl (hb hby at_335) kk_) ?_
              show G T21 (mkF m 336 #[.val (.long gaps), .second, .val (.int sp), .val (.int wh), .val (.int mode), .val (.int raw), .val (.int s1), .val (.int s2), .val (.ref sts), .val (.ref dcs), .val (.int tm), .val (.int doc), .val (.ref ob), .val (.int uu), .val (.int lo), .val (.int hi), .val (.int (fh (-1 : Int32) (0 : Int32) lo hi doc d0))] [(.int (1 : Int32)), (.int (fh (-1 : Int32) (0 : Int32) lo hi doc d0))])
              refine hs.go (fun _ kk_ => XS.iload X21.here hx rfl (hb hby at_336) rfl  kk_) ?_
              show G T21 (mkF m 338 #[.val (.long gaps), .second, .val (.int sp), .val (.int wh), .val (.int mode), .val (.int raw), .val (.int s1), .val (.int s2), .val (.ref sts), .val (.ref dcs), .val (.int tm), .val (.int doc), .val (.ref ob), .val (.int uu), .val (.int lo), .val (.int hi), .val (.int (fh (-1 : Int32) (0 : Int32) lo hi doc d0))] [(.int lo), (.int (1 : Int32)), (.int (fh (-1 : Int32) (0 : Int32) lo hi doc d0))])
              refine hs.go (fun _ kk_ => XS.iload X21.here hx rfl (hb hby at_338) rfl  kk_) ?_
              show G T21 (mkF m 340 #[.val (.long gaps), .second, .val (.int sp), .val (.int wh), .val (.int mode), .val (.int raw), .val (.int s1), .val (.int s2), .val (.ref sts), .val (.ref dcs), .val (.int tm), .val (.int doc), .val (.ref ob), .val (.int uu), .val (.int lo), .val (.int hi), .val (.int (fh (-1 : Int32) (0 : Int32) lo hi doc d0))] [(.int hi), (.int lo), (.int (1 : Int32)), (.int (fh (-1 : Int32) (0 : Int32) lo hi doc d0))])
              refine hs.go (fun _ kk_ => XS.aload X21.here hx rfl (hb hby at_340) rfl rfl kk_) ?_
              show G T21 (mkF m 342 #[.val (.long gaps), .second, .val (.int sp), .val (.int wh), .val (.int mode), .val (.int raw), .val (.int s1), .val (.int s2), .val (.ref sts), .val (.ref dcs), .val (.int tm), .val (.int doc), .val (.ref ob), .val (.int uu), .val (.int lo), .val (.int hi), .val (.int (fh (-1 : Int32) (0 : Int32) lo hi doc d0))] [(.ref dcs), (.int hi), (.int lo), (.int (1 : Int32)), (.int (fh (-1 : Int32) (0 : Int32) lo hi doc d0))])
              refine hs.go (fun _ kk_ => XS.iload X21.here hx rfl (hb hby at_342) rfl  kk_) ?_
              show G T21 (mkF m 344 #[.val (.long gaps), .second, .val (.int sp), .val (.int wh), .val (.int mode), .val (.int raw), .val (.int s1), .val (.int s2), .val (.ref sts), .val (.ref dcs), .val (.int tm), .val (.int doc), .val (.ref ob), .val (.int uu), .val (.int lo), .val (.int hi), .val (.int (fh (-1 : Int32) (0 : Int32) lo hi doc d0))] [(.int doc), (.ref dcs), (.int hi), (.int lo), (.int (1 : Int32)), (.int (fh (-1 : Int32) (0 : Int32) lo hi doc d0))])
              refine rCallS hs X21 hx hZ (as' := [(.int (fh (-1 : Int32) (0 : Int32) lo hi doc d0)), (.int (1 : Int32)), (.int lo), (.int hi), (.ref dcs), (.int doc)]) (rm10 l Z a0 hw [] (fh (-1 : Int32) (0 : Int32) lo hi doc d0) (1 : Int32) lo hi dcs doc [d0, d1, d2, d3, d4, d5] k6 h19 n0 Z0 V_dcs ⟨by decide, by decide⟩) hown (hw _ (List.mem_of_getElem? (i := 57) rfl)) (hw _ (List.mem_of_getElem? (i := 58) rfl)) (hw _ (List.mem_of_getElem? (i := 4) rfl)) (hw _ (List.mem_of_getElem? (i := 59) rfl)) hy_10 rfl (by rw [hml]; rfl) [] (lenOf pd_6 rfl) rfl 0 (by show 2 * 0 + _ ≤ _; exact Nat.le_of_eq rfl) (hb hby at_344) (by decide) (by decide) (by decide) (by decide) (fun r22 T22 h22 X22 q22 => ?_)
              obtain ⟨rfl, qh22⟩ := q22
              rw [qh22] at X22
              show G T22 (mkF m 347 #[.val (.long gaps), .second, .val (.int sp), .val (.int wh), .val (.int mode), .val (.int raw), .val (.int s1), .val (.int s2), .val (.ref sts), .val (.ref dcs), .val (.int tm), .val (.int doc), .val (.ref ob), .val (.int uu), .val (.int lo), .val (.int hi), .val (.int (fh (-1 : Int32) (0 : Int32) lo hi doc d0))] [(.int (fh (fh (-1 : Int32) (0 : Int32) lo hi doc d0) (1 : Int32) lo hi doc d1))])
              refine hs.go (fun _ kk_ => XS.istore X22.here hx rfl (hb hby at_347) rfl (l' := #[.val (.long gaps), .second, .val (.int sp), .val (.int wh), .val (.int mode), .val (.int raw), .val (.int s1), .val (.int s2), .val (.ref sts), .val (.ref dcs), .val (.int tm), .val (.int doc), .val (.ref ob), .val (.int uu), .val (.int lo), .val (.int hi), .val (.int (fh (fh (-1 : Int32) (0 : Int32) lo hi doc d0) (1 : Int32) lo hi doc d1))]) rfl kk_) ?_
              show G T22 (mkF m 349 #[.val (.long gaps), .second, .val (.int sp), .val (.int wh), .val (.int mode), .val (.int raw), .val (.int s1), .val (.int s2), .val (.ref sts), .val (.ref dcs), .val (.int tm), .val (.int doc), .val (.ref ob), .val (.int uu), .val (.int lo), .val (.int hi), .val (.int (fh (fh (-1 : Int32) (0 : Int32) lo hi doc d0) (1 : Int32) lo hi doc d1))] [])
              refine hs.go (fun _ kk_ => XS.iload X22.here hx rfl (hb hby at_349) rfl  kk_) ?_
              show G T22 (mkF m 351 #[.val (.long gaps), .second, .val (.int sp), .val (.int wh), .val (.int mode), .val (.int raw), .val (.int s1), .val (.int s2), .val (.ref sts), .val (.ref dcs), .val (.int tm), .val (.int doc), .val (.ref ob), .val (.int uu), .val (.int lo), .val (.int hi), .val (.int (fh (fh (-1 : Int32) (0 : Int32) lo hi doc d0) (1 : Int32) lo hi doc d1))] [(.int (fh (fh (-1 : Int32) (0 : Int32) lo hi doc d0) (1 : Int32) lo hi doc d1))])
              refine hs.go (fun _ kk_ => XS.iconst X22.here hx rfl (hb hby at_351) kk_) ?_
              show G T22 (mkF m 352 #[.val (.long gaps), .second, .val (.int sp), .val (.int wh), .val (.int mode), .val (.int raw), .val (.int s1), .val (.int s2), .val (.ref sts), .val (.ref dcs), .val (.int tm), .val (.int doc), .val (.ref ob), .val (.int uu), .val (.int lo), .val (.int hi), .val (.int (fh (fh (-1 : Int32) (0 : Int32) lo hi doc d0) (1 : Int32) lo hi doc d1))] [(.int (2 : Int32)), (.int (fh (fh (-1 : Int32) (0 : Int32) lo hi doc d0) (1 : Int32) lo hi doc d1))])
              refine hs.go (fun _ kk_ => XS.iload X22.here hx rfl (hb hby at_352) rfl  kk_) ?_
              show G T22 (mkF m 354 #[.val (.long gaps), .second, .val (.int sp), .val (.int wh), .val (.int mode), .val (.int raw), .val (.int s1), .val (.int s2), .val (.ref sts), .val (.ref dcs), .val (.int tm), .val (.int doc), .val (.ref ob), .val (.int uu), .val (.int lo), .val (.int hi), .val (.int (fh (fh (-1 : Int32) (0 : Int32) lo hi doc d0) (1 : Int32) lo hi doc d1))] [(.int lo), (.int (2 : Int32)), (.int (fh (fh (-1 : Int32) (0 : Int32) lo hi doc d0) (1 : Int32) lo hi doc d1))])
              refine hs.go (fun _ kk_ => XS.iload X22.here hx rfl (hb hby at_354) rfl  kk_) ?_
              show G T22 (mkF m 356 #[.val (.long gaps), .second, .val (.int sp), .val (.int wh), .val (.int mode), .val (.int raw), .val (.int s1), .val (.int s2), .val (.ref sts), .val (.ref dcs), .val (.int tm), .val (.int doc), .val (.ref ob), .val (.int uu), .val (.int lo), .val (.int hi), .val (.int (fh (fh (-1 : Int32) (0 : Int32) lo hi doc d0) (1 : Int32) lo hi doc d1))] [(.int hi), (.int lo), (.int (2 : Int32)), (.int (fh (fh (-1 : Int32) (0 : Int32) lo hi doc d0) (1 : Int32) lo hi doc d1))])
              refine hs.go (fun _ kk_ => XS.aload X22.here hx rfl (hb hby at_356) rfl rfl kk_) ?_
              show G T22 (mkF m 358 #[.val (.long gaps), .second, .val (.int sp), .val (.int wh), .val (.int mode), .val (.int raw), .val (.int s1), .val (.int s2), .val (.ref sts), .val (.ref dcs), .val (.int tm), .val (.int doc), .val (.ref ob), .val (.int uu), .val (.int lo), .val (.int hi), .val (.int (fh (fh (-1 : Int32) (0 : Int32) lo hi doc d0) (1 : Int32) lo hi doc d1))] [(.ref dcs), (.int hi), (.int lo), (.int (2 : Int32)), (.int (fh (fh (-1 : Int32) (0 : Int32) lo hi doc d0) (1 : Int32) lo hi doc d1))])
              refine hs.go (fun _ kk_ => XS.iload X22.here hx rfl (hb hby at_358) rfl  kk_) ?_
              show G T22 (mkF m 360 #[.val (.long gaps), .second, .val (.int sp), .val (.int wh), .val (.int mode), .val (.int raw), .val (.int s1), .val (.int s2), .val (.ref sts), .val (.ref dcs), .val (.int tm), .val (.int doc), .val (.ref ob), .val (.int uu), .val (.int lo), .val (.int hi), .val (.int (fh (fh (-1 : Int32) (0 : Int32) lo hi doc d0) (1 : Int32) lo hi doc d1))] [(.int doc), (.ref dcs), (.int hi), (.int lo), (.int (2 : Int32)), (.int (fh (fh (-1 : Int32) (0 : Int32) lo hi doc d0) (1 : Int32) lo hi doc d1))])
              refine rCallS hs X22 hx hZ (as' := [(.int (fh (fh (-1 : Int32) (0 : Int32) lo hi doc d0) (1 : Int32) lo hi doc d1)), (.int (2 : Int32)), (.int lo), (.int hi), (.ref dcs), (.int doc)]) (rm10 l Z a0 hw [] (fh (fh (-1 : Int32) (0 : Int32) lo hi doc d0) (1 : Int32) lo hi doc d1) (2 : Int32) lo hi dcs doc [d0, d1, d2, d3, d4, d5] k6 h19 n0 Z0 V_dcs ⟨by decide, by decide⟩) hown (hw _ (List.mem_of_getElem? (i := 57) rfl)) (hw _ (List.mem_of_getElem? (i := 58) rfl)) (hw _ (List.mem_of_getElem? (i := 4) rfl)) (hw _ (List.mem_of_getElem? (i := 59) rfl)) hy_10 rfl (by rw [hml]; rfl) [] (lenOf pd_6 rfl) rfl 0 (by show 2 * 0 + _ ≤ _; exact Nat.le_of_eq rfl) (hb hby at_360) (by decide) (by decide) (by decide) (by decide) (fun r23 T23 h23 X23 q23 => ?_)
              obtain ⟨rfl, qh23⟩ := q23
              rw [qh23] at X23
              show G T23 (mkF m 363 #[.val (.long gaps), .second, .val (.int sp), .val (.int wh), .val (.int mode), .val (.int raw), .val (.int s1), .val (.int s2), .val (.ref sts), .val (.ref dcs), .val (.int tm), .val (.int doc), .val (.ref ob), .val (.int uu), .val (.int lo), .val (.int hi), .val (.int (fh (fh (-1 : Int32) (0 : Int32) lo hi doc d0) (1 : Int32) lo hi doc d1))] [(.int (fh (fh (fh (-1 : Int32) (0 : Int32) lo hi doc d0) (1 : Int32) lo hi doc d1) (2 : Int32) lo hi doc d2))])
              refine hs.go (fun _ kk_ => XS.istore X23.here hx rfl (hb hby at_363) rfl (l' := #[.val (.long gaps), .second, .val (.int sp), .val (.int wh), .val (.int mode), .val (.int raw), .val (.int s1), .val (.int s2), .val (.ref sts), .val (.ref dcs), .val (.int tm), .val (.int doc), .val (.ref ob), .val (.int uu), .val (.int lo), .val (.int hi), .val (.int (fh (fh (fh (-1 : Int32) (0 : Int32) lo hi doc d0) (1 : Int32) lo hi doc d1) (2 : Int32) lo hi doc d2))]) rfl kk_) ?_
              show G T23 (mkF m 365 #[.val (.long gaps), .second, .val (.int sp), .val (.int wh), .val (.int mode), .val (.int raw), .val (.int s1), .val (.int s2), .val (.ref sts), .val (.ref dcs), .val (.int tm), .val (.int doc), .val (.ref ob), .val (.int uu), .val (.int lo), .val (.int hi), .val (.int (fh (fh (fh (-1 : Int32) (0 : Int32) lo hi doc d0) (1 : Int32) lo hi doc d1) (2 : Int32) lo hi doc d2))] [])
              refine hs.go (fun _ kk_ => XS.iload X23.here hx rfl (hb hby at_365) rfl  kk_) ?_
              show G T23 (mkF m 367 #[.val (.long gaps), .second, .val (.int sp), .val (.int wh), .val (.int mode), .val (.int raw), .val (.int s1), .val (.int s2), .val (.ref sts), .val (.ref dcs), .val (.int tm), .val (.int doc), .val (.ref ob), .val (.int uu), .val (.int lo), .val (.int hi), .val (.int (fh (fh (fh (-1 : Int32) (0 : Int32) lo hi doc d0) (1 : Int32) lo hi doc d1) (2 : Int32) lo hi doc d2))] [(.int (fh (fh (fh (-1 : Int32) (0 : Int32) lo hi doc d0) (1 : Int32) lo hi doc d1) (2 : Int32) lo hi doc d2))])
              refine hs.go (fun _ kk_ => XS.iconst X23.here hx rfl (hb hby at_367) kk_) ?_
              show G T23 (mkF m 368 #[.val (.long gaps), .second, .val (.int sp), .val (.int wh), .val (.int mode), .val (.int raw), .val (.int s1), .val (.int s2), .val (.ref sts), .val (.ref dcs), .val (.int tm), .val (.int doc), .val (.ref ob), .val (.int uu), .val (.int lo), .val (.int hi), .val (.int (fh (fh (fh (-1 : Int32) (0 : Int32) lo hi doc d0) (1 : Int32) lo hi doc d1) (2 : Int32) lo hi doc d2))] [(.int (3 : Int32)), (.int (fh (fh (fh (-1 : Int32) (0 : Int32) lo hi doc d0) (1 : Int32) lo hi doc d1) (2 : Int32) lo hi doc d2))])
              refine hs.go (fun _ kk_ => XS.iload X23.here hx rfl (hb hby at_368) rfl  kk_) ?_
              show G T23 (mkF m 370 #[.val (.long gaps), .second, .val (.int sp), .val (.int wh), .val (.int mode), .val (.int raw), .val (.int s1), .val (.int s2), .val (.ref sts), .val (.ref dcs), .val (.int tm), .val (.int doc), .val (.ref ob), .val (.int uu), .val (.int lo), .val (.int hi), .val (.int (fh (fh (fh (-1 : Int32) (0 : Int32) lo hi doc d0) (1 : Int32) lo hi doc d1) (2 : Int32) lo hi doc d2))] [(.int lo), (.int (3 : Int32)), (.int (fh (fh (fh (-1 : Int32) (0 : Int32) lo hi doc d0) (1 : Int32) lo hi doc d1) (2 : Int32) lo hi doc d2))])
              refine hs.go (fun _ kk_ => XS.iload X23.here hx rfl (hb hby at_370) rfl  kk_) ?_
              show G T23 (mkF m 372 #[.val (.long gaps), .second, .val (.int sp), .val (.int wh), .val (.int mode), .val (.int raw), .val (.int s1), .val (.int s2), .val (.ref sts), .val (.ref dcs), .val (.int tm), .val (.int doc), .val (.ref ob), .val (.int uu), .val (.int lo), .val (.int hi), .val (.int (fh (fh (fh (-1 : Int32) (0 : Int32) lo hi doc d0) (1 : Int32) lo hi doc d1) (2 : Int32) lo hi doc d2))] [(.int hi), (.int lo), (.int (3 : Int32)), (.int (fh (fh (fh (-1 : Int32) (0 : Int32) lo hi doc d0) (1 : Int32) lo hi doc d1) (2 : Int32) lo hi doc d2))])
              refine hs.go (fun _ kk_ => XS.aload X23.here hx rfl (hb hby at_372) rfl rfl kk_) ?_
              show G T23 (mkF m 374 #[.val (.long gaps), .second, .val (.int sp), .val (.int wh), .val (.int mode), .val (.int raw), .val (.int s1), .val (.int s2), .val (.ref sts), .val (.ref dcs), .val (.int tm), .val (.int doc), .val (.ref ob), .val (.int uu), .val (.int lo), .val (.int hi), .val (.int (fh (fh (fh (-1 : Int32) (0 : Int32) lo hi doc d0) (1 : Int32) lo hi doc d1) (2 : Int32) lo hi doc d2))] [(.ref dcs), (.int hi), (.int lo), (.int (3 : Int32)), (.int (fh (fh (fh (-1 : Int32) (0 : Int32) lo hi doc d0) (1 : Int32) lo hi doc d1) (2 : Int32) lo hi doc d2))])
              refine hs.go (fun _ kk_ => XS.iload X23.here hx rfl (hb hby at_374) rfl  kk_) ?_
              show G T23 (mkF m 376 #[.val (.long gaps), .second, .val (.int sp), .val (.int wh), .val (.int mode), .val (.int raw), .val (.int s1), .val (.int s2), .val (.ref sts), .val (.ref dcs), .val (.int tm), .val (.int doc), .val (.ref ob), .val (.int uu), .val (.int lo), .val (.int hi), .val (.int (fh (fh (fh (-1 : Int32) (0 : Int32) lo hi doc d0) (1 : Int32) lo hi doc d1) (2 : Int32) lo hi doc d2))] [(.int doc), (.ref dcs), (.int hi), (.int lo), (.int (3 : Int32)), (.int (fh (fh (fh (-1 : Int32) (0 : Int32) lo hi doc d0) (1 : Int32) lo hi doc d1) (2 : Int32) lo hi doc d2))])
              refine rCallS hs X23 hx hZ (as' := [(.int (fh (fh (fh (-1 : Int32) (0 : Int32) lo hi doc d0) (1 : Int32) lo hi doc d1) (2 : Int32) lo hi doc d2)), (.int (3 : Int32)), (.int lo), (.int hi), (.ref dcs), (.int doc)]) (rm10 l Z a0 hw [] (fh (fh (fh (-1 : Int32) (0 : Int32) lo hi doc d0) (1 : Int32) lo hi doc d1) (2 : Int32) lo hi doc d2) (3 : Int32) lo hi dcs doc [d0, d1, d2, d3, d4, d5] k6 h19 n0 Z0 V_dcs ⟨by decide, by decide⟩) hown (hw _ (List.mem_of_getElem? (i := 57) rfl)) (hw _ (List.mem_of_getElem? (i := 58) rfl)) (hw _ (List.mem_of_getElem? (i := 4) rfl)) (hw _ (List.mem_of_getElem? (i := 59) rfl)) hy_10 rfl (by rw [hml]; rfl) [] (lenOf pd_6 rfl) rfl 0 (by show 2 * 0 + _ ≤ _; exact Nat.le_of_eq rfl) (hb hby at_376) (by decide) (by decide) (by decide) (by decide) (fun r24 T24 h24 X24 q24 => ?_)
              obtain ⟨rfl, qh24⟩ := q24
              rw [qh24] at X24
              show G T24 (mkF m 379 #[.val (.long gaps), .second, .val (.int sp), .val (.int wh), .val (.int mode), .val (.int raw), .val (.int s1), .val (.int s2), .val (.ref sts), .val (.ref dcs), .val (.int tm), .val (.int doc), .val (.ref ob), .val (.int uu), .val (.int lo), .val (.int hi), .val (.int (fh (fh (fh (-1 : Int32) (0 : Int32) lo hi doc d0) (1 : Int32) lo hi doc d1) (2 : Int32) lo hi doc d2))] [(.int (fh (fh (fh (fh (-1 : Int32) (0 : Int32) lo hi doc d0) (1 : Int32) lo hi doc d1) (2 : Int32) lo hi doc d2) (3 : Int32) lo hi doc d3))])
              refine hs.go (fun _ kk_ => XS.istore X24.here hx rfl (hb hby at_379) rfl (l' := #[.val (.long gaps), .second, .val (.int sp), .val (.int wh), .val (.int mode), .val (.int raw), .val (.int s1), .val (.int s2), .val (.ref sts), .val (.ref dcs), .val (.int tm), .val (.int doc), .val (.ref ob), .val (.int uu), .val (.int lo), .val (.int hi), .val (.int (fh (fh (fh (fh (-1 : Int32) (0 : Int32) lo hi doc d0) (1 : Int32) lo hi doc d1) (2 : Int32) lo hi doc d2) (3 : Int32) lo hi doc d3))]) rfl kk_) ?_
              show G T24 (mkF m 381 #[.val (.long gaps), .second, .val (.int sp), .val (.int wh), .val (.int mode), .val (.int raw), .val (.int s1), .val (.int s2), .val (.ref sts), .val (.ref dcs), .val (.int tm), .val (.int doc), .val (.ref ob), .val (.int uu), .val (.int lo), .val (.int hi), .val (.int (fh (fh (fh (fh (-1 : Int32) (0 : Int32) lo hi doc d0) (1 : Int32) lo hi doc d1) (2 : Int32) lo hi doc d2) (3 : Int32) lo hi doc d3))] [])
              refine hs.go (fun _ kk_ => XS.iload X24.here hx rfl (hb hby at_381) rfl  kk_) ?_
              show G T24 (mkF m 383 #[.val (.long gaps), .second, .val (.int sp), .val (.int wh), .val (.int mode), .val (.int raw), .val (.int s1), .val (.int s2), .val (.ref sts), .val (.ref dcs), .val (.int tm), .val (.int doc), .val (.ref ob), .val (.int uu), .val (.int lo), .val (.int hi), .val (.int (fh (fh (fh (fh (-1 : Int32) (0 : Int32) lo hi doc d0) (1 : Int32) lo hi doc d1) (2 : Int32) lo hi doc d2) (3 : Int32) lo hi doc d3))] [(.int (fh (fh (fh (fh (-1 : Int32) (0 : Int32) lo hi doc d0) (1 : Int32) lo hi doc d1) (2 : Int32) lo hi doc d2) (3 : Int32) lo hi doc d3))])
              refine hs.go (fun _ kk_ => XS.iconst X24.here hx rfl (hb hby at_383) kk_) ?_
              show G T24 (mkF m 384 #[.val (.long gaps), .second, .val (.int sp), .val (.int wh), .val (.int mode), .val (.int raw), .val (.int s1), .val (.int s2), .val (.ref sts), .val (.ref dcs), .val (.int tm), .val (.int doc), .val (.ref ob), .val (.int uu), .val (.int lo), .val (.int hi), .val (.int (fh (fh (fh (fh (-1 : Int32) (0 : Int32) lo hi doc d0) (1 : Int32) lo hi doc d1) (2 : Int32) lo hi doc d2) (3 : Int32) lo hi doc d3))] [(.int (4 : Int32)), (.int (fh (fh (fh (fh (-1 : Int32) (0 : Int32) lo hi doc d0) (1 : Int32) lo hi doc d1) (2 : Int32) lo hi doc d2) (3 : Int32) lo hi doc d3))])
              refine hs.go (fun _ kk_ => XS.iload X24.here hx rfl (hb hby at_384) rfl  kk_) ?_
              show G T24 (mkF m 386 #[.val (.long gaps), .second, .val (.int sp), .val (.int wh), .val (.int mode), .val (.int raw), .val (.int s1), .val (.int s2), .val (.ref sts), .val (.ref dcs), .val (.int tm), .val (.int doc), .val (.ref ob), .val (.int uu), .val (.int lo), .val (.int hi), .val (.int (fh (fh (fh (fh (-1 : Int32) (0 : Int32) lo hi doc d0) (1 : Int32) lo hi doc d1) (2 : Int32) lo hi doc d2) (3 : Int32) lo hi doc d3))] [(.int lo), (.int (4 : Int32)), (.int (fh (fh (fh (fh (-1 : Int32) (0 : Int32) lo hi doc d0) (1 : Int32) lo hi doc d1) (2 : Int32) lo hi doc d2) (3 : Int32) lo hi doc d3))])
              refine hs.go (fun _ kk_ => XS.iload X24.here hx rfl (hb hby at_386) rfl  kk_) ?_
              show G T24 (mkF m 388 #[.val (.long gaps), .second, .val (.int sp), .val (.int wh), .val (.int mode), .val (.int raw), .val (.int s1), .val (.int s2), .val (.ref sts), .val (.ref dcs), .val (.int tm), .val (.int doc), .val (.ref ob), .val (.int uu), .val (.int lo), .val (.int hi), .val (.int (fh (fh (fh (fh (-1 : Int32) (0 : Int32) lo hi doc d0) (1 : Int32) lo hi doc d1) (2 : Int32) lo hi doc d2) (3 : Int32) lo hi doc d3))] [(.int hi), (.int lo), (.int (4 : Int32)), (.int (fh (fh (fh (fh (-1 : Int32) (0 : Int32) lo hi doc d0) (1 : Int32) lo hi doc d1) (2 : Int32) lo hi doc d2) (3 : Int32) lo hi doc d3))])
              refine hs.go (fun _ kk_ => XS.aload X24.here hx rfl (hb hby at_388) rfl rfl kk_) ?_
              show G T24 (mkF m 390 #[.val (.long gaps), .second, .val (.int sp), .val (.int wh), .val (.int mode), .val (.int raw), .val (.int s1), .val (.int s2), .val (.ref sts), .val (.ref dcs), .val (.int tm), .val (.int doc), .val (.ref ob), .val (.int uu), .val (.int lo), .val (.int hi), .val (.int (fh (fh (fh (fh (-1 : Int32) (0 : Int32) lo hi doc d0) (1 : Int32) lo hi doc d1) (2 : Int32) lo hi doc d2) (3 : Int32) lo hi doc d3))] [(.ref dcs), (.int hi), (.int lo), (.int (4 : Int32)), (.int (fh (fh (fh (fh (-1 : Int32) (0 : Int32) lo hi doc d0) (1 : Int32) lo hi doc d1) (2 : Int32) lo hi doc d2) (3 : Int32) lo hi doc d3))])
              refine hs.go (fun _ kk_ => XS.iload X24.here hx rfl (hb hby at_390) rfl  kk_) ?_
              show G T24 (mkF m 392 #[.val (.long gaps), .second, .val (.int sp), .val (.int wh), .val (.int mode), .val (.int raw), .val (.int s1), .val (.int s2), .val (.ref sts), .val (.ref dcs), .val (.int tm), .val (.int doc), .val (.ref ob), .val (.int uu), .val (.int lo), .val (.int hi), .val (.int (fh (fh (fh (fh (-1 : Int32) (0 : Int32) lo hi doc d0) (1 : Int32) lo hi doc d1) (2 : Int32) lo hi doc d2) (3 : Int32) lo hi doc d3))] [(.int doc), (.ref dcs), (.int hi), (.int lo), (.int (4 : Int32)), (.int (fh (fh (fh (fh (-1 : Int32) (0 : Int32) lo hi doc d0) (1 : Int32) lo hi doc d1) (2 : Int32) lo hi doc d2) (3 : Int32) lo hi doc d3))])
              refine rCallS hs X24 hx hZ (as' := [(.int (fh (fh (fh (fh (-1 : Int32) (0 : Int32) lo hi doc d0) (1 : Int32) lo hi doc d1) (2 : Int32) lo hi doc d2) (3 : Int32) lo hi doc d3)), (.int (4 : Int32)), (.int lo), (.int hi), (.ref dcs), (.int doc)]) (rm10 l Z a0 hw [] (fh (fh (fh (fh (-1 : Int32) (0 : Int32) lo hi doc d0) (1 : Int32) lo hi doc d1) (2 : Int32) lo hi doc d2) (3 : Int32) lo hi doc d3) (4 : Int32) lo hi dcs doc [d0, d1, d2, d3, d4, d5] k6 h19 n0 Z0 V_dcs ⟨by decide, by decide⟩) hown (hw _ (List.mem_of_getElem? (i := 57) rfl)) (hw _ (List.mem_of_getElem? (i := 58) rfl)) (hw _ (List.mem_of_getElem? (i := 4) rfl)) (hw _ (List.mem_of_getElem? (i := 59) rfl)) hy_10 rfl (by rw [hml]; rfl) [] (lenOf pd_6 rfl) rfl 0 (by show 2 * 0 + _ ≤ _; exact Nat.le_of_eq rfl) (hb hby at_392) (by decide) (by decide) (by decide) (by decide) (fun r25 T25 h25 X25 q25 => ?_)
              obtain ⟨rfl, qh25⟩ := q25
              rw [qh25] at X25
              show G T25 (mkF m 395 #[.val (.long gaps), .second, .val (.int sp), .val (.int wh), .val (.int mode), .val (.int raw), .val (.int s1), .val (.int s2), .val (.ref sts), .val (.ref dcs), .val (.int tm), .val (.int doc), .val (.ref ob), .val (.int uu), .val (.int lo), .val (.int hi), .val (.int (fh (fh (fh (fh (-1 : Int32) (0 : Int32) lo hi doc d0) (1 : Int32) lo hi doc d1) (2 : Int32) lo hi doc d2) (3 : Int32) lo hi doc d3))] [(.int (fh (fh (fh (fh (fh (-1 : Int32) (0 : Int32) lo hi doc d0) (1 : Int32) lo hi doc d1) (2 : Int32) lo hi doc d2) (3 : Int32) lo hi doc d3) (4 : Int32) lo hi doc d4))])
              refine hs.go (fun _ kk_ => XS.istore X25.here hx rfl (hb hby at_395) rfl (l' := #[.val (.long gaps), .second, .val (.int sp), .val (.int wh), .val (.int mode), .val (.int raw), .val (.int s1), .val (.int s2), .val (.ref sts), .val (.ref dcs), .val (.int tm), .val (.int doc), .val (.ref ob), .val (.int uu), .val (.int lo), .val (.int hi), .val (.int (fh (fh (fh (fh (fh (-1 : Int32) (0 : Int32) lo hi doc d0) (1 : Int32) lo hi doc d1) (2 : Int32) lo hi doc d2) (3 : Int32) lo hi doc d3) (4 : Int32) lo hi doc d4))]) rfl kk_) ?_
              show G T25 (mkF m 397 #[.val (.long gaps), .second, .val (.int sp), .val (.int wh), .val (.int mode), .val (.int raw), .val (.int s1), .val (.int s2), .val (.ref sts), .val (.ref dcs), .val (.int tm), .val (.int doc), .val (.ref ob), .val (.int uu), .val (.int lo), .val (.int hi), .val (.int (fh (fh (fh (fh (fh (-1 : Int32) (0 : Int32) lo hi doc d0) (1 : Int32) lo hi doc d1) (2 : Int32) lo hi doc d2) (3 : Int32) lo hi doc d3) (4 : Int32) lo hi doc d4))] [])
              refine hs.go (fun _ kk_ => XS.iload X25.here hx rfl (hb hby at_397) rfl  kk_) ?_
              show G T25 (mkF m 399 #[.val (.long gaps), .second, .val (.int sp), .val (.int wh), .val (.int mode), .val (.int raw), .val (.int s1), .val (.int s2), .val (.ref sts), .val (.ref dcs), .val (.int tm), .val (.int doc), .val (.ref ob), .val (.int uu), .val (.int lo), .val (.int hi), .val (.int (fh (fh (fh (fh (fh (-1 : Int32) (0 : Int32) lo hi doc d0) (1 : Int32) lo hi doc d1) (2 : Int32) lo hi doc d2) (3 : Int32) lo hi doc d3) (4 : Int32) lo hi doc d4))] [(.int (fh (fh (fh (fh (fh (-1 : Int32) (0 : Int32) lo hi doc d0) (1 : Int32) lo hi doc d1) (2 : Int32) lo hi doc d2) (3 : Int32) lo hi doc d3) (4 : Int32) lo hi doc d4))])
              refine hs.go (fun _ kk_ => XS.iconst X25.here hx rfl (hb hby at_399) kk_) ?_
              show G T25 (mkF m 400 #[.val (.long gaps), .second, .val (.int sp), .val (.int wh), .val (.int mode), .val (.int raw), .val (.int s1), .val (.int s2), .val (.ref sts), .val (.ref dcs), .val (.int tm), .val (.int doc), .val (.ref ob), .val (.int uu), .val (.int lo), .val (.int hi), .val (.int (fh (fh (fh (fh (fh (-1 : Int32) (0 : Int32) lo hi doc d0) (1 : Int32) lo hi doc d1) (2 : Int32) lo hi doc d2) (3 : Int32) lo hi doc d3) (4 : Int32) lo hi doc d4))] [(.int (5 : Int32)), (.int (fh (fh (fh (fh (fh (-1 : Int32) (0 : Int32) lo hi doc d0) (1 : Int32) lo hi doc d1) (2 : Int32) lo hi doc d2) (3 : Int32) lo hi doc d3) (4 : Int32) lo hi doc d4))])
              refine hs.go (fun _ kk_ => XS.iload X25.here hx rfl (hb hby at_400) rfl  kk_) ?_
              show G T25 (mkF m 402 #[.val (.long gaps), .second, .val (.int sp), .val (.int wh), .val (.int mode), .val (.int raw), .val (.int s1), .val (.int s2), .val (.ref sts), .val (.ref dcs), .val (.int tm), .val (.int doc), .val (.ref ob), .val (.int uu), .val (.int lo), .val (.int hi), .val (.int (fh (fh (fh (fh (fh (-1 : Int32) (0 : Int32) lo hi doc d0) (1 : Int32) lo hi doc d1) (2 : Int32) lo hi doc d2) (3 : Int32) lo hi doc d3) (4 : Int32) lo hi doc d4))] [(.int lo), (.int (5 : Int32)), (.int (fh (fh (fh (fh (fh (-1 : Int32) (0 : Int32) lo hi doc d0) (1 : Int32) lo hi doc d1) (2 : Int32) lo hi doc d2) (3 : Int32) lo hi doc d3) (4 : Int32) lo hi doc d4))])
              refine hs.go (fun _ kk_ => XS.iload X25.here hx rfl (hb hby at_402) rfl  kk_) ?_
              show G T25 (mkF m 404 #[.val (.long gaps), .second, .val (.int sp), .val (.int wh), .val (.int mode), .val (.int raw), .val (.int s1), .val (.int s2), .val (.ref sts), .val (.ref dcs), .val (.int tm), .val (.int doc), .val (.ref ob), .val (.int uu), .val (.int lo), .val (.int hi), .val (.int (fh (fh (fh (fh (fh (-1 : Int32) (0 : Int32) lo hi doc d0) (1 : Int32) lo hi doc d1) (2 : Int32) lo hi doc d2) (3 : Int32) lo hi doc d3) (4 : Int32) lo hi doc d4))] [(.int hi), (.int lo), (.int (5 : Int32)), (.int (fh (fh (fh (fh (fh (-1 : Int32) (0 : Int32) lo hi doc d0) (1 : Int32) lo hi doc d1) (2 : Int32) lo hi doc d2) (3 : Int32) lo hi doc d3) (4 : Int32) lo hi doc d4))])
              refine hs.go (fun _ kk_ => XS.aload X25.here hx rfl (hb hby at_404) rfl rfl kk_) ?_
              show G T25 (mkF m 406 #[.val (.long gaps), .second, .val (.int sp), .val (.int wh), .val (.int mode), .val (.int raw), .val (.int s1), .val (.int s2), .val (.ref sts), .val (.ref dcs), .val (.int tm), .val (.int doc), .val (.ref ob), .val (.int uu), .val (.int lo), .val (.int hi), .val (.int (fh (fh (fh (fh (fh (-1 : Int32) (0 : Int32) lo hi doc d0) (1 : Int32) lo hi doc d1) (2 : Int32) lo hi doc d2) (3 : Int32) lo hi doc d3) (4 : Int32) lo hi doc d4))] [(.ref dcs), (.int hi), (.int lo), (.int (5 : Int32)), (.int (fh (fh (fh (fh (fh (-1 : Int32) (0 : Int32) lo hi doc d0) (1 : Int32) lo hi doc d1) (2 : Int32) lo hi doc d2) (3 : Int32) lo hi doc d3) (4 : Int32) lo hi doc d4))])
              refine hs.go (fun _ kk_ => XS.iload X25.here hx rfl (hb hby at_406) rfl  kk_) ?_
              show G T25 (mkF m 408 #[.val (.long gaps), .second, .val (.int sp), .val (.int wh), .val (.int mode), .val (.int raw), .val (.int s1), .val (.int s2), .val (.ref sts), .val (.ref dcs), .val (.int tm), .val (.int doc), .val (.ref ob), .val (.int uu), .val (.int lo), .val (.int hi), .val (.int (fh (fh (fh (fh (fh (-1 : Int32) (0 : Int32) lo hi doc d0) (1 : Int32) lo hi doc d1) (2 : Int32) lo hi doc d2) (3 : Int32) lo hi doc d3) (4 : Int32) lo hi doc d4))] [(.int doc), (.ref dcs), (.int hi), (.int lo), (.int (5 : Int32)), (.int (fh (fh (fh (fh (fh (-1 : Int32) (0 : Int32) lo hi doc d0) (1 : Int32) lo hi doc d1) (2 : Int32) lo hi doc d2) (3 : Int32) lo hi doc d3) (4 : Int32) lo hi doc d4))])
              refine rCallS hs X25 hx hZ (as' := [(.int (fh (fh (fh (fh (fh (-1 : Int32) (0 : Int32) lo hi doc d0) (1 : Int32) lo hi doc d1) (2 : Int32) lo hi doc d2) (3 : Int32) lo hi doc d3) (4 : Int32) lo hi doc d4)), (.int (5 : Int32)), (.int lo), (.int hi), (.ref dcs), (.int doc)]) (rm10 l Z a0 hw [] (fh (fh (fh (fh (fh (-1 : Int32) (0 : Int32) lo hi doc d0) (1 : Int32) lo hi doc d1) (2 : Int32) lo hi doc d2) (3 : Int32) lo hi doc d3) (4 : Int32) lo hi doc d4) (5 : Int32) lo hi dcs doc [d0, d1, d2, d3, d4, d5] k6 h19 n0 Z0 V_dcs ⟨by decide, by decide⟩) hown (hw _ (List.mem_of_getElem? (i := 57) rfl)) (hw _ (List.mem_of_getElem? (i := 58) rfl)) (hw _ (List.mem_of_getElem? (i := 4) rfl)) (hw _ (List.mem_of_getElem? (i := 59) rfl)) hy_10 rfl (by rw [hml]; rfl) [] (lenOf pd_6 rfl) rfl 0 (by show 2 * 0 + _ ≤ _; exact Nat.le_of_eq rfl) (hb hby at_408) (by decide) (by decide) (by decide) (by decide) (fun r26 T26 h26 X26 q26 => ?_)
              obtain ⟨rfl, qh26⟩ := q26
              rw [qh26] at X26
              show G T26 (mkF m 411 #[.val (.long gaps), .second, .val (.int sp), .val (.int wh), .val (.int mode), .val (.int raw), .val (.int s1), .val (.int s2), .val (.ref sts), .val (.ref dcs), .val (.int tm), .val (.int doc), .val (.ref ob), .val (.int uu), .val (.int lo), .val (.int hi), .val (.int (fh (fh (fh (fh (fh (-1 : Int32) (0 : Int32) lo hi doc d0) (1 : Int32) lo hi doc d1) (2 : Int32) lo hi doc d2) (3 : Int32) lo hi doc d3) (4 : Int32) lo hi doc d4))] [(.int (fh (fh (fh (fh (fh (fh (-1 : Int32) (0 : Int32) lo hi doc d0) (1 : Int32) lo hi doc d1) (2 : Int32) lo hi doc d2) (3 : Int32) lo hi doc d3) (4 : Int32) lo hi doc d4) (5 : Int32) lo hi doc d5))])
              refine nameIt (P := fun zz_ : Int32 => G T26 (mkF m 411 #[.val (.long gaps), .second, .val (.int sp), .val (.int wh), .val (.int mode), .val (.int raw), .val (.int s1), .val (.int s2), .val (.ref sts), .val (.ref dcs), .val (.int tm), .val (.int doc), .val (.ref ob), .val (.int uu), .val (.int lo), .val (.int hi), .val (.int (fh (fh (fh (fh (fh (-1 : Int32) (0 : Int32) lo hi doc d0) (1 : Int32) lo hi doc d1) (2 : Int32) lo hi doc d2) (3 : Int32) lo hi doc d3) (4 : Int32) lo hi doc d4))] [(.int zz_)])) (fh (fh (fh (fh (fh (fh (-1 : Int32) (0 : Int32) lo hi doc d0) (1 : Int32) lo hi doc d1) (2 : Int32) lo hi doc d2) (3 : Int32) lo hi doc d3) (4 : Int32) lo hi doc d4) (5 : Int32) lo hi doc d5) (fun ex hex => ?_)
              show G T26 (mkF m 411 #[.val (.long gaps), .second, .val (.int sp), .val (.int wh), .val (.int mode), .val (.int raw), .val (.int s1), .val (.int s2), .val (.ref sts), .val (.ref dcs), .val (.int tm), .val (.int doc), .val (.ref ob), .val (.int uu), .val (.int lo), .val (.int hi), .val (.int (fh (fh (fh (fh (fh (-1 : Int32) (0 : Int32) lo hi doc d0) (1 : Int32) lo hi doc d1) (2 : Int32) lo hi doc d2) (3 : Int32) lo hi doc d3) (4 : Int32) lo hi doc d4))] [(.int ex)])
              refine hs.go (fun _ kk_ => XS.istore X26.here hx rfl (hb hby at_411) rfl (l' := #[.val (.long gaps), .second, .val (.int sp), .val (.int wh), .val (.int mode), .val (.int raw), .val (.int s1), .val (.int s2), .val (.ref sts), .val (.ref dcs), .val (.int tm), .val (.int doc), .val (.ref ob), .val (.int uu), .val (.int lo), .val (.int hi), .val (.int ex)]) rfl kk_) ?_
              show G T26 (mkF m 413 #[.val (.long gaps), .second, .val (.int sp), .val (.int wh), .val (.int mode), .val (.int raw), .val (.int s1), .val (.int s2), .val (.ref sts), .val (.ref dcs), .val (.int tm), .val (.int doc), .val (.ref ob), .val (.int uu), .val (.int lo), .val (.int hi), .val (.int ex)] [])
              refine hs.go (fun _ kk_ => XS.iload X26.here hx rfl (hb hby at_413) rfl  kk_) ?_
              show G T26 (mkF m 415 #[.val (.long gaps), .second, .val (.int sp), .val (.int wh), .val (.int mode), .val (.int raw), .val (.int s1), .val (.int s2), .val (.ref sts), .val (.ref dcs), .val (.int tm), .val (.int doc), .val (.ref ob), .val (.int uu), .val (.int lo), .val (.int hi), .val (.int ex)] [(.int uu)])
              refine hs.go (fun _ kk_ => XS.iload X26.here hx rfl (hb hby at_415) rfl  kk_) ?_
              show G T26 (mkF m 417 #[.val (.long gaps), .second, .val (.int sp), .val (.int wh), .val (.int mode), .val (.int raw), .val (.int s1), .val (.int s2), .val (.ref sts), .val (.ref dcs), .val (.int tm), .val (.int doc), .val (.ref ob), .val (.int uu), .val (.int lo), .val (.int hi), .val (.int ex)] [(.int ex), (.int uu)])
              refine hs.go (fun _ kk_ => XS.icmpNo X26.here hx rfl (hb hby at_417) rfl (teq ((own_law (by rw [hlo]; exact hlo1) (by rw [hhi]; exact hhi1) hm6 HS hrr).trans hex.symm : uu = ex)).2 kk_) ?_
              show G T26 (mkF m 420 #[.val (.long gaps), .second, .val (.int sp), .val (.int wh), .val (.int mode), .val (.int raw), .val (.int s1), .val (.int s2), .val (.ref sts), .val (.ref dcs), .val (.int tm), .val (.int doc), .val (.ref ob), .val (.int uu), .val (.int lo), .val (.int hi), .val (.int ex)] [])
              refine hs.go (fun _ kk_ => XS.iconst X26.here hx rfl (hb hby at_420) kk_) ?_
              show G T26 (mkF m 421 #[.val (.long gaps), .second, .val (.int sp), .val (.int wh), .val (.int mode), .val (.int raw), .val (.int s1), .val (.int s2), .val (.ref sts), .val (.ref dcs), .val (.int tm), .val (.int doc), .val (.ref ob), .val (.int uu), .val (.int lo), .val (.int hi), .val (.int ex)] [(.int (1 : Int32))])
              refine hs.go (fun _ kk_ => XS.goto X26.here hx rfl (pc0 := 421) (pc' := 425) rfl (hb hby at_421) (by decide) (by decide) kk_) ?_
              show G T26 (mkF m 425 #[.val (.long gaps), .second, .val (.int sp), .val (.int wh), .val (.int mode), .val (.int raw), .val (.int s1), .val (.int s2), .val (.ref sts), .val (.ref dcs), .val (.int tm), .val (.int doc), .val (.ref ob), .val (.int uu), .val (.int lo), .val (.int hi), .val (.int ex)] [(.int (1 : Int32))])
              exact rRetN fin X26 hx (by decide) (by decide) hret (by simp) (hb hby at_425) (z' := (1 : Int32)) (by decide) rfl
            · refine hs.go (fun _ kk_ => XS.ifNo X17.here hx rfl (hb hby at_228) rfl ((if0 _ _).trans (feq c228).1) kk_) ?_
              show G T17 (mkF m 231 #[.val (.long gaps), .second, .val (.int sp), .val (.int wh), .val (.int mode), .val (.int raw), .val (.int s1), .val (.int s2), .val (.ref sts), .val (.ref dcs), .val (.int tm), .unset, .unset, .unset, .unset, .unset, .unset] [])
              refine hs.go (fun _ kk_ => XS.iload X17.here hx rfl (hb hby at_231) rfl  kk_) ?_
              show G T17 (mkF m 233 #[.val (.long gaps), .second, .val (.int sp), .val (.int wh), .val (.int mode), .val (.int raw), .val (.int s1), .val (.int s2), .val (.ref sts), .val (.ref dcs), .val (.int tm), .unset, .unset, .unset, .unset, .unset, .unset] [(.int raw)])
              refine hs.go (fun _ kk_ => XS.istore X17.here hx rfl (hb hby at_233) rfl (l' := #[.val (.long gaps), .second, .val (.int sp), .val (.int wh), .val (.int mode), .val (.int raw), .val (.int s1), .val (.int s2), .val (.ref sts), .val (.ref dcs), .val (.int tm), .val (.int raw), .unset, .unset, .unset, .unset, .unset]) rfl kk_) ?_
              show G T17 (mkF m 235 #[.val (.long gaps), .second, .val (.int sp), .val (.int wh), .val (.int mode), .val (.int raw), .val (.int s1), .val (.int s2), .val (.ref sts), .val (.ref dcs), .val (.int tm), .val (.int raw), .unset, .unset, .unset, .unset, .unset] [])
              refine hs.go (fun _ kk_ => XS.goto X17.here hx rfl (pc0 := 235) (pc' := 268) rfl (hb hby at_235) (by decide) (by decide) kk_) ?_
              show G T17 (mkF m 268 #[.val (.long gaps), .second, .val (.int sp), .val (.int wh), .val (.int mode), .val (.int raw), .val (.int s1), .val (.int s2), .val (.ref sts), .val (.ref dcs), .val (.int tm), .val (.int raw), .unset, .unset, .unset, .unset, .unset] [])
              refine rNewO hs X17 hx hZ hown (hw _ (List.mem_of_getElem? (i := 7) rfl)) (hw _ (List.mem_of_getElem? (i := 8) rfl)) (hw _ (List.mem_of_getElem? (i := 9) rfl)) rfl (hb hby at_268) (by decide) (by decide) (fun T27 h27 ob g27 X27 E27 E_ob D27 => ?_)
              have g_ob : n0 ≤ ob := by rw [g27]; exact Z0
              have Z0 := Nat.le_trans Z0 E27.1
              have ne_sts_ob : sts ≠ ob := Nat.ne_of_lt (Nat.lt_of_lt_of_le V_sts.lt (Nat.le_of_eq g27.symm))
              have ne_dcs_ob : dcs ≠ ob := Nat.ne_of_lt (Nat.lt_of_lt_of_le V_dcs.lt (Nat.le_of_eq g27.symm))
              have V_sts := V_sts.ext E27
              have V_dcs := V_dcs.ext E27
              have F_analysis_ob : Fld Z h27 ob "com/example/vector_space_ranker/vectorspaceranker/Index" "analysis" "Lcom/example/vector_space_ranker/vectorspaceranker/Analysis;" .null := D27 (Or.inr (hw _ (List.mem_of_getElem? (i := 17) rfl))) (ty := (.object "com/example/vector_space_ranker/vectorspaceranker/Analysis")) (by decide)
              have F_docnos_ob : Fld Z h27 ob "com/example/vector_space_ranker/vectorspaceranker/Index" "docnos" "[Ljava/lang/String;" .null := D27 (Or.inr (hw _ (List.mem_of_getElem? (i := 19) rfl))) (ty := (.array (.object "java/lang/String"))) (by decide)
              have F_characterLengths_ob : Fld Z h27 ob "com/example/vector_space_ranker/vectorspaceranker/Index" "characterLengths" "[I" .null := D27 (Or.inr (hw _ (List.mem_of_getElem? (i := 21) rfl))) (ty := (.array .int)) (by decide)
              have F_terms_ob : Fld Z h27 ob "com/example/vector_space_ranker/vectorspaceranker/Index" "terms" "[Ljava/lang/String;" .null := D27 (Or.inr (hw _ (List.mem_of_getElem? (i := 23) rfl))) (ty := (.array (.object "java/lang/String"))) (by decide)
              have F_postingStarts_ob : Fld Z h27 ob "com/example/vector_space_ranker/vectorspaceranker/Index" "postingStarts" "[I" .null := D27 (Or.inr (hw _ (List.mem_of_getElem? (i := 25) rfl))) (ty := (.array .int)) (by decide)
              have F_postingDocuments_ob : Fld Z h27 ob "com/example/vector_space_ranker/vectorspaceranker/Index" "postingDocuments" "[I" .null := D27 (Or.inr (hw _ (List.mem_of_getElem? (i := 27) rfl))) (ty := (.array .int)) (by decide)
              have F_postingFrequencies_ob : Fld Z h27 ob "com/example/vector_space_ranker/vectorspaceranker/Index" "postingFrequencies" "[I" .null := D27 (Or.inr (hw _ (List.mem_of_getElem? (i := 29) rfl))) (ty := (.array .int)) (by decide)
              have F_tokenCount_ob : Fld Z h27 ob "com/example/vector_space_ranker/vectorspaceranker/Index" "tokenCount" "J" (.long (0 : Int64)) := D27 (Or.inr (hw _ (List.mem_of_getElem? (i := 31) rfl))) (ty := .long) (by decide)
              show G T27 (mkF m 271 #[.val (.long gaps), .second, .val (.int sp), .val (.int wh), .val (.int mode), .val (.int raw), .val (.int s1), .val (.int s2), .val (.ref sts), .val (.ref dcs), .val (.int tm), .val (.int raw), .unset, .unset, .unset, .unset, .unset] [(.ref ob)])
              refine hs.go (fun _ kk_ => XS.dup X27.here hx rfl (hb hby at_271) rfl rfl kk_) ?_
              show G T27 (mkF m 272 #[.val (.long gaps), .second, .val (.int sp), .val (.int wh), .val (.int mode), .val (.int raw), .val (.int s1), .val (.int s2), .val (.ref sts), .val (.ref dcs), .val (.int tm), .val (.int raw), .unset, .unset, .unset, .unset, .unset] [(.ref ob), (.ref ob)])
              refine hs.go (fun _ kk_ => XS.aconstNull X27.here hx rfl (hb hby at_272) kk_) ?_
              show G T27 (mkF m 273 #[.val (.long gaps), .second, .val (.int sp), .val (.int wh), .val (.int mode), .val (.int raw), .val (.int s1), .val (.int s2), .val (.ref sts), .val (.ref dcs), .val (.int tm), .val (.int raw), .unset, .unset, .unset, .unset, .unset] [.null, (.ref ob), (.ref ob)])
              refine hs.go (fun _ kk_ => XS.aconstNull X27.here hx rfl (hb hby at_273) kk_) ?_
              show G T27 (mkF m 274 #[.val (.long gaps), .second, .val (.int sp), .val (.int wh), .val (.int mode), .val (.int raw), .val (.int s1), .val (.int s2), .val (.ref sts), .val (.ref dcs), .val (.int tm), .val (.int raw), .unset, .unset, .unset, .unset, .unset] [.null, .null, (.ref ob), (.ref ob)])
              refine hs.go (fun _ kk_ => XS.aconstNull X27.here hx rfl (hb hby at_274) kk_) ?_
              show G T27 (mkF m 275 #[.val (.long gaps), .second, .val (.int sp), .val (.int wh), .val (.int mode), .val (.int raw), .val (.int s1), .val (.int s2), .val (.ref sts), .val (.ref dcs), .val (.int tm), .val (.int raw), .unset, .unset, .unset, .unset, .unset] [.null, .null, .null, (.ref ob), (.ref ob)])
              refine hs.go (fun _ kk_ => XS.aconstNull X27.here hx rfl (hb hby at_275) kk_) ?_
              show G T27 (mkF m 276 #[.val (.long gaps), .second, .val (.int sp), .val (.int wh), .val (.int mode), .val (.int raw), .val (.int s1), .val (.int s2), .val (.ref sts), .val (.ref dcs), .val (.int tm), .val (.int raw), .unset, .unset, .unset, .unset, .unset] [.null, .null, .null, .null, (.ref ob), (.ref ob)])
              refine hs.go (fun _ kk_ => XS.aload X27.here hx rfl (hb hby at_276) rfl rfl kk_) ?_
              show G T27 (mkF m 278 #[.val (.long gaps), .second, .val (.int sp), .val (.int wh), .val (.int mode), .val (.int raw), .val (.int s1), .val (.int s2), .val (.ref sts), .val (.ref dcs), .val (.int tm), .val (.int raw), .unset, .unset, .unset, .unset, .unset] [(.ref sts), .null, .null, .null, .null, (.ref ob), (.ref ob)])
              refine hs.go (fun _ kk_ => XS.aload X27.here hx rfl (hb hby at_278) rfl rfl kk_) ?_
              show G T27 (mkF m 280 #[.val (.long gaps), .second, .val (.int sp), .val (.int wh), .val (.int mode), .val (.int raw), .val (.int s1), .val (.int s2), .val (.ref sts), .val (.ref dcs), .val (.int tm), .val (.int raw), .unset, .unset, .unset, .unset, .unset] [(.ref dcs), (.ref sts), .null, .null, .null, .null, (.ref ob), (.ref ob)])
              refine hs.go (fun _ kk_ => XS.aconstNull X27.here hx rfl (hb hby at_280) kk_) ?_
              show G T27 (mkF m 281 #[.val (.long gaps), .second, .val (.int sp), .val (.int wh), .val (.int mode), .val (.int raw), .val (.int s1), .val (.int s2), .val (.ref sts), .val (.ref dcs), .val (.int tm), .val (.int raw), .unset, .unset, .unset, .unset, .unset] [.null, (.ref dcs), (.ref sts), .null, .null, .null, .null, (.ref ob), (.ref ob)])
              refine hs.go (fun _ kk_ => XS.lconst X27.here hx rfl (hb hby at_281) kk_) ?_
              show G T27 (mkF m 282 #[.val (.long gaps), .second, .val (.int sp), .val (.int wh), .val (.int mode), .val (.int raw), .val (.int s1), .val (.int s2), .val (.ref sts), .val (.ref dcs), .val (.int tm), .val (.int raw), .unset, .unset, .unset, .unset, .unset] [(.long (0 : Int64)), .null, (.ref dcs), (.ref sts), .null, .null, .null, .null, (.ref ob), (.ref ob)])
              refine rCallI hs X27 hx hZ (as' := [.null, .null, .null, .null, (.ref sts), (.ref dcs), .null, (.long (0 : Int64))]) (rm2 l Z a0 hw [] ob sts dcs (0 : Int64) h27 n0 Z0 E_ob g_ob F_analysis_ob F_docnos_ob F_characterLengths_ob F_terms_ob F_postingStarts_ob F_postingDocuments_ob F_postingFrequencies_ob F_tokenCount_ob) rfl hown (hw _ (List.mem_of_getElem? (i := 10) rfl)) (hw _ (List.mem_of_getElem? (i := 11) rfl)) (hw _ (List.mem_of_getElem? (i := 9) rfl)) (hw _ (List.mem_of_getElem? (i := 12) rfl)) hy_2 rfl (by rw [hml]; rfl) [(.ref ob)] (lenOf pd_4 rfl) rfl 1 (by show 2 * 0 + _ ≤ _; exact Nat.le_of_eq rfl) (hb hby at_282) (by decide) (by decide) (by decide) (by decide) (fun r28 T28 h28 X28 q28 => ?_)
              obtain ⟨rfl, Kc28, E_ob, F_postingStarts_ob, F_postingDocuments_ob⟩ := q28
              have Z0 := Nat.le_trans Z0 Kc28.1
              have V_sts := V_sts.keep Kc28 (ninS ne_sts_ob nin0)
              have V_dcs := V_dcs.keep Kc28 (ninS ne_dcs_ob nin0)
              show G T28 (mkF m 285 #[.val (.long gaps), .second, .val (.int sp), .val (.int wh), .val (.int mode), .val (.int raw), .val (.int s1), .val (.int s2), .val (.ref sts), .val (.ref dcs), .val (.int tm), .val (.int raw), .unset, .unset, .unset, .unset, .unset] [(.ref ob)])
              refine hs.go (fun _ kk_ => XS.astore X28.here hx rfl (hb hby at_285) rfl rfl (l' := #[.val (.long gaps), .second, .val (.int sp), .val (.int wh), .val (.int mode), .val (.int raw), .val (.int s1), .val (.int s2), .val (.ref sts), .val (.ref dcs), .val (.int tm), .val (.int raw), .val (.ref ob), .unset, .unset, .unset, .unset]) rfl kk_) ?_
              show G T28 (mkF m 287 #[.val (.long gaps), .second, .val (.int sp), .val (.int wh), .val (.int mode), .val (.int raw), .val (.int s1), .val (.int s2), .val (.ref sts), .val (.ref dcs), .val (.int tm), .val (.int raw), .val (.ref ob), .unset, .unset, .unset, .unset] [])
              refine hs.go (fun _ kk_ => XS.aload X28.here hx rfl (hb hby at_287) rfl rfl kk_) ?_
              show G T28 (mkF m 289 #[.val (.long gaps), .second, .val (.int sp), .val (.int wh), .val (.int mode), .val (.int raw), .val (.int s1), .val (.int s2), .val (.ref sts), .val (.ref dcs), .val (.int tm), .val (.int raw), .val (.ref ob), .unset, .unset, .unset, .unset] [(.ref ob)])
              refine hs.go (fun _ kk_ => XS.iload X28.here hx rfl (hb hby at_289) rfl  kk_) ?_
              show G T28 (mkF m 291 #[.val (.long gaps), .second, .val (.int sp), .val (.int wh), .val (.int mode), .val (.int raw), .val (.int s1), .val (.int s2), .val (.ref sts), .val (.ref dcs), .val (.int tm), .val (.int raw), .val (.ref ob), .unset, .unset, .unset, .unset] [(.int tm), (.ref ob)])
              refine hs.go (fun _ kk_ => XS.iload X28.here hx rfl (hb hby at_291) rfl  kk_) ?_
              show G T28 (mkF m 293 #[.val (.long gaps), .second, .val (.int sp), .val (.int wh), .val (.int mode), .val (.int raw), .val (.int s1), .val (.int s2), .val (.ref sts), .val (.ref dcs), .val (.int tm), .val (.int raw), .val (.ref ob), .unset, .unset, .unset, .unset] [(.int raw), (.int tm), (.ref ob)])
              refine rCallV hs X28 hx hZ (as' := [(.int tm), (.int raw)]) (rm4 l Z a0 hw [] ob dcs sts tm raw (List.getD [(0 : Int32), s1, s2, (6 : Int32)] tm.toNatClampNeg 0) (List.getD [(0 : Int32), s1, s2, (6 : Int32)] (tm + (1 : Int32)).toNatClampNeg 0) (4 : Int32) [d0, d1, d2, d3, d4, d5] [(.int (0 : Int32)), (.int s1), (.int s2), (.int (6 : Int32))] (.int (0 : Int32)) k6 k1 n m6 h28 n0 Z0 E_ob F_postingStarts_ob F_postingDocuments_ob V_sts V_dcs hjt (own_gm [(0 : Int32), s1, s2, (6 : Int32)] _) hjt1 (own_gm [(0 : Int32), s1, s2, (6 : Int32)] _) hlo1 hhi1 hnm hm6 HS) E_ob hown (hw _ (List.mem_of_getElem? (i := 32) rfl)) (hw _ (List.mem_of_getElem? (i := 33) rfl)) (hw _ (List.mem_of_getElem? (i := 35) rfl)) (hw _ (List.mem_of_getElem? (i := 34) rfl)) (hw _ (List.mem_of_getElem? (i := 9) rfl)) (hw _ (List.mem_of_getElem? (i := 36) rfl)) hy_4 rfl (by rw [hml]; rfl) [] (lenOf pd_5 rfl) rfl 0 (by show 2 * 0 + _ ≤ _; exact Nat.le_of_eq rfl) (hb hby at_293) (by decide) (by decide) (by decide) (by decide) (fun r29 T29 h29 X29 q29 => ?_)
              obtain ⟨uu, rfl, hrr, qh29⟩ := q29
              rw [qh29] at X29
              show G T29 (mkF m 296 #[.val (.long gaps), .second, .val (.int sp), .val (.int wh), .val (.int mode), .val (.int raw), .val (.int s1), .val (.int s2), .val (.ref sts), .val (.ref dcs), .val (.int tm), .val (.int raw), .val (.ref ob), .unset, .unset, .unset, .unset] [(.int uu)])
              refine hs.go (fun _ kk_ => XS.istore X29.here hx rfl (hb hby at_296) rfl (l' := #[.val (.long gaps), .second, .val (.int sp), .val (.int wh), .val (.int mode), .val (.int raw), .val (.int s1), .val (.int s2), .val (.ref sts), .val (.ref dcs), .val (.int tm), .val (.int raw), .val (.ref ob), .val (.int uu), .unset, .unset, .unset]) rfl kk_) ?_
              show G T29 (mkF m 298 #[.val (.long gaps), .second, .val (.int sp), .val (.int wh), .val (.int mode), .val (.int raw), .val (.int s1), .val (.int s2), .val (.ref sts), .val (.ref dcs), .val (.int tm), .val (.int raw), .val (.ref ob), .val (.int uu), .unset, .unset, .unset] [])
              refine hs.go (fun _ kk_ => XS.aload X29.here hx rfl (hb hby at_298) rfl rfl kk_) ?_
              show G T29 (mkF m 300 #[.val (.long gaps), .second, .val (.int sp), .val (.int wh), .val (.int mode), .val (.int raw), .val (.int s1), .val (.int s2), .val (.ref sts), .val (.ref dcs), .val (.int tm), .val (.int raw), .val (.ref ob), .val (.int uu), .unset, .unset, .unset] [(.ref sts)])
              refine hs.go (fun _ kk_ => XS.iload X29.here hx rfl (hb hby at_300) rfl  kk_) ?_
              show G T29 (mkF m 302 #[.val (.long gaps), .second, .val (.int sp), .val (.int wh), .val (.int mode), .val (.int raw), .val (.int s1), .val (.int s2), .val (.ref sts), .val (.ref dcs), .val (.int tm), .val (.int raw), .val (.ref ob), .val (.int uu), .unset, .unset, .unset] [(.int tm), (.ref sts)])
              refine rLdI hs X29 hx hZ V_sts hjt (v := (.int (List.getD [(0 : Int32), s1, s2, (6 : Int32)] tm.toNatClampNeg 0))) (own_gm [(0 : Int32), s1, s2, (6 : Int32)] _) rfl rfl (hb hby at_302) ?_
              show G T29 (mkF m 303 #[.val (.long gaps), .second, .val (.int sp), .val (.int wh), .val (.int mode), .val (.int raw), .val (.int s1), .val (.int s2), .val (.ref sts), .val (.ref dcs), .val (.int tm), .val (.int raw), .val (.ref ob), .val (.int uu), .unset, .unset, .unset] [(.int (List.getD [(0 : Int32), s1, s2, (6 : Int32)] tm.toNatClampNeg 0))])
              refine nameIt (P := fun zz_ : Int32 => G T29 (mkF m 303 #[.val (.long gaps), .second, .val (.int sp), .val (.int wh), .val (.int mode), .val (.int raw), .val (.int s1), .val (.int s2), .val (.ref sts), .val (.ref dcs), .val (.int tm), .val (.int raw), .val (.ref ob), .val (.int uu), .unset, .unset, .unset] [(.int zz_)])) (List.getD [(0 : Int32), s1, s2, (6 : Int32)] tm.toNatClampNeg 0) (fun lo hlo => ?_)
              show G T29 (mkF m 303 #[.val (.long gaps), .second, .val (.int sp), .val (.int wh), .val (.int mode), .val (.int raw), .val (.int s1), .val (.int s2), .val (.ref sts), .val (.ref dcs), .val (.int tm), .val (.int raw), .val (.ref ob), .val (.int uu), .unset, .unset, .unset] [(.int lo)])
              refine hs.go (fun _ kk_ => XS.istore X29.here hx rfl (hb hby at_303) rfl (l' := #[.val (.long gaps), .second, .val (.int sp), .val (.int wh), .val (.int mode), .val (.int raw), .val (.int s1), .val (.int s2), .val (.ref sts), .val (.ref dcs), .val (.int tm), .val (.int raw), .val (.ref ob), .val (.int uu), .val (.int lo), .unset, .unset]) rfl kk_) ?_
              show G T29 (mkF m 305 #[.val (.long gaps), .second, .val (.int sp), .val (.int wh), .val (.int mode), .val (.int raw), .val (.int s1), .val (.int s2), .val (.ref sts), .val (.ref dcs), .val (.int tm), .val (.int raw), .val (.ref ob), .val (.int uu), .val (.int lo), .unset, .unset] [])
              refine hs.go (fun _ kk_ => XS.aload X29.here hx rfl (hb hby at_305) rfl rfl kk_) ?_
              show G T29 (mkF m 307 #[.val (.long gaps), .second, .val (.int sp), .val (.int wh), .val (.int mode), .val (.int raw), .val (.int s1), .val (.int s2), .val (.ref sts), .val (.ref dcs), .val (.int tm), .val (.int raw), .val (.ref ob), .val (.int uu), .val (.int lo), .unset, .unset] [(.ref sts)])
              refine hs.go (fun _ kk_ => XS.iload X29.here hx rfl (hb hby at_307) rfl  kk_) ?_
              show G T29 (mkF m 309 #[.val (.long gaps), .second, .val (.int sp), .val (.int wh), .val (.int mode), .val (.int raw), .val (.int s1), .val (.int s2), .val (.ref sts), .val (.ref dcs), .val (.int tm), .val (.int raw), .val (.ref ob), .val (.int uu), .val (.int lo), .unset, .unset] [(.int tm), (.ref sts)])
              refine hs.go (fun _ kk_ => XS.iconst X29.here hx rfl (hb hby at_309) kk_) ?_
              show G T29 (mkF m 310 #[.val (.long gaps), .second, .val (.int sp), .val (.int wh), .val (.int mode), .val (.int raw), .val (.int s1), .val (.int s2), .val (.ref sts), .val (.ref dcs), .val (.int tm), .val (.int raw), .val (.ref ob), .val (.int uu), .val (.int lo), .unset, .unset] [(.int (1 : Int32)), (.int tm), (.ref sts)])
              refine hs.go (fun _ kk_ => XS.iadd X29.here hx rfl (hb hby at_310) rfl kk_) ?_
              show G T29 (mkF m 311 #[.val (.long gaps), .second, .val (.int sp), .val (.int wh), .val (.int mode), .val (.int raw), .val (.int s1), .val (.int s2), .val (.ref sts), .val (.ref dcs), .val (.int tm), .val (.int raw), .val (.ref ob), .val (.int uu), .val (.int lo), .unset, .unset] [(.int (tm + (1 : Int32))), (.ref sts)])
              refine rLdI hs X29 hx hZ V_sts hjt1 (v := (.int (List.getD [(0 : Int32), s1, s2, (6 : Int32)] (tm + (1 : Int32)).toNatClampNeg 0))) (own_gm [(0 : Int32), s1, s2, (6 : Int32)] _) rfl rfl (hb hby at_311) ?_
              show G T29 (mkF m 312 #[.val (.long gaps), .second, .val (.int sp), .val (.int wh), .val (.int mode), .val (.int raw), .val (.int s1), .val (.int s2), .val (.ref sts), .val (.ref dcs), .val (.int tm), .val (.int raw), .val (.ref ob), .val (.int uu), .val (.int lo), .unset, .unset] [(.int (List.getD [(0 : Int32), s1, s2, (6 : Int32)] (tm + (1 : Int32)).toNatClampNeg 0))])
              refine nameIt (P := fun zz_ : Int32 => G T29 (mkF m 312 #[.val (.long gaps), .second, .val (.int sp), .val (.int wh), .val (.int mode), .val (.int raw), .val (.int s1), .val (.int s2), .val (.ref sts), .val (.ref dcs), .val (.int tm), .val (.int raw), .val (.ref ob), .val (.int uu), .val (.int lo), .unset, .unset] [(.int zz_)])) (List.getD [(0 : Int32), s1, s2, (6 : Int32)] (tm + (1 : Int32)).toNatClampNeg 0) (fun hi hhi => ?_)
              show G T29 (mkF m 312 #[.val (.long gaps), .second, .val (.int sp), .val (.int wh), .val (.int mode), .val (.int raw), .val (.int s1), .val (.int s2), .val (.ref sts), .val (.ref dcs), .val (.int tm), .val (.int raw), .val (.ref ob), .val (.int uu), .val (.int lo), .unset, .unset] [(.int hi)])
              refine hs.go (fun _ kk_ => XS.istore X29.here hx rfl (hb hby at_312) rfl (l' := #[.val (.long gaps), .second, .val (.int sp), .val (.int wh), .val (.int mode), .val (.int raw), .val (.int s1), .val (.int s2), .val (.ref sts), .val (.ref dcs), .val (.int tm), .val (.int raw), .val (.ref ob), .val (.int uu), .val (.int lo), .val (.int hi), .unset]) rfl kk_) ?_
              show G T29 (mkF m 314 #[.val (.long gaps), .second, .val (.int sp), .val (.int wh), .val (.int mode), .val (.int raw), .val (.int s1), .val (.int s2), .val (.ref sts), .val (.ref dcs), .val (.int tm), .val (.int raw), .val (.ref ob), .val (.int uu), .val (.int lo), .val (.int hi), .unset] [])
              refine hs.go (fun _ kk_ => XS.iconst X29.here hx rfl (hb hby at_314) kk_) ?_
              show G T29 (mkF m 315 #[.val (.long gaps), .second, .val (.int sp), .val (.int wh), .val (.int mode), .val (.int raw), .val (.int s1), .val (.int s2), .val (.ref sts), .val (.ref dcs), .val (.int tm), .val (.int raw), .val (.ref ob), .val (.int uu), .val (.int lo), .val (.int hi), .unset] [(.int (-1 : Int32))])
              refine hs.go (fun _ kk_ => XS.istore X29.here hx rfl (hb hby at_315) rfl (l' := #[.val (.long gaps), .second, .val (.int sp), .val (.int wh), .val (.int mode), .val (.int raw), .val (.int s1), .val (.int s2), .val (.ref sts), .val (.ref dcs), .val (.int tm), .val (.int raw), .val (.ref ob), .val (.int uu), .val (.int lo), .val (.int hi), .val (.int (-1 : Int32))]) rfl kk_) ?_
              show G T29 (mkF m 317 #[.val (.long gaps), .second, .val (.int sp), .val (.int wh), .val (.int mode), .val (.int raw), .val (.int s1), .val (.int s2), .val (.ref sts), .val (.ref dcs), .val (.int tm), .val (.int raw), .val (.ref ob), .val (.int uu), .val (.int lo), .val (.int hi), .val (.int (-1 : Int32))] [])
              refine hs.go (fun _ kk_ => XS.iload X29.here hx rfl (hb hby at_317) rfl  kk_) ?_
              show G T29 (mkF m 319 #[.val (.long gaps), .second, .val (.int sp), .val (.int wh), .val (.int mode), .val (.int raw), .val (.int s1), .val (.int s2), .val (.ref sts), .val (.ref dcs), .val (.int tm), .val (.int raw), .val (.ref ob), .val (.int uu), .val (.int lo), .val (.int hi), .val (.int (-1 : Int32))] [(.int (-1 : Int32))])
              refine hs.go (fun _ kk_ => XS.iconst X29.here hx rfl (hb hby at_319) kk_) ?_
              show G T29 (mkF m 320 #[.val (.long gaps), .second, .val (.int sp), .val (.int wh), .val (.int mode), .val (.int raw), .val (.int s1), .val (.int s2), .val (.ref sts), .val (.ref dcs), .val (.int tm), .val (.int raw), .val (.ref ob), .val (.int uu), .val (.int lo), .val (.int hi), .val (.int (-1 : Int32))] [(.int (0 : Int32)), (.int (-1 : Int32))])
              refine hs.go (fun _ kk_ => XS.iload X29.here hx rfl (hb hby at_320) rfl  kk_) ?_
              show G T29 (mkF m 322 #[.val (.long gaps), .second, .val (.int sp), .val (.int wh), .val (.int mode), .val (.int raw), .val (.int s1), .val (.int s2), .val (.ref sts), .val (.ref dcs), .val (.int tm), .val (.int raw), .val (.ref ob), .val (.int uu), .val (.int lo), .val (.int hi), .val (.int (-1 : Int32))] [(.int lo), (.int (0 : Int32)), (.int (-1 : Int32))])
              refine hs.go (fun _ kk_ => XS.iload X29.here hx rfl (hb hby at_322) rfl  kk_) ?_
              show G T29 (mkF m 324 #[.val (.long gaps), .second, .val (.int sp), .val (.int wh), .val (.int mode), .val (.int raw), .val (.int s1), .val (.int s2), .val (.ref sts), .val (.ref dcs), .val (.int tm), .val (.int raw), .val (.ref ob), .val (.int uu), .val (.int lo), .val (.int hi), .val (.int (-1 : Int32))] [(.int hi), (.int lo), (.int (0 : Int32)), (.int (-1 : Int32))])
              refine hs.go (fun _ kk_ => XS.aload X29.here hx rfl (hb hby at_324) rfl rfl kk_) ?_
              show G T29 (mkF m 326 #[.val (.long gaps), .second, .val (.int sp), .val (.int wh), .val (.int mode), .val (.int raw), .val (.int s1), .val (.int s2), .val (.ref sts), .val (.ref dcs), .val (.int tm), .val (.int raw), .val (.ref ob), .val (.int uu), .val (.int lo), .val (.int hi), .val (.int (-1 : Int32))] [(.ref dcs), (.int hi), (.int lo), (.int (0 : Int32)), (.int (-1 : Int32))])
              refine hs.go (fun _ kk_ => XS.iload X29.here hx rfl (hb hby at_326) rfl  kk_) ?_
              show G T29 (mkF m 328 #[.val (.long gaps), .second, .val (.int sp), .val (.int wh), .val (.int mode), .val (.int raw), .val (.int s1), .val (.int s2), .val (.ref sts), .val (.ref dcs), .val (.int tm), .val (.int raw), .val (.ref ob), .val (.int uu), .val (.int lo), .val (.int hi), .val (.int (-1 : Int32))] [(.int raw), (.ref dcs), (.int hi), (.int lo), (.int (0 : Int32)), (.int (-1 : Int32))])
              refine rCallS hs X29 hx hZ (as' := [(.int (-1 : Int32)), (.int (0 : Int32)), (.int lo), (.int hi), (.ref dcs), (.int raw)]) (rm10 l Z a0 hw [] (-1 : Int32) (0 : Int32) lo hi dcs raw [d0, d1, d2, d3, d4, d5] k6 h28 n0 Z0 V_dcs ⟨by decide, by decide⟩) hown (hw _ (List.mem_of_getElem? (i := 57) rfl)) (hw _ (List.mem_of_getElem? (i := 58) rfl)) (hw _ (List.mem_of_getElem? (i := 4) rfl)) (hw _ (List.mem_of_getElem? (i := 59) rfl)) hy_10 rfl (by rw [hml]; rfl) [] (lenOf pd_6 rfl) rfl 0 (by show 2 * 0 + _ ≤ _; exact Nat.le_of_eq rfl) (hb hby at_328) (by decide) (by decide) (by decide) (by decide) (fun r30 T30 h30 X30 q30 => ?_)
              obtain ⟨rfl, qh30⟩ := q30
              rw [qh30] at X30
              show G T30 (mkF m 331 #[.val (.long gaps), .second, .val (.int sp), .val (.int wh), .val (.int mode), .val (.int raw), .val (.int s1), .val (.int s2), .val (.ref sts), .val (.ref dcs), .val (.int tm), .val (.int raw), .val (.ref ob), .val (.int uu), .val (.int lo), .val (.int hi), .val (.int (-1 : Int32))] [(.int (fh (-1 : Int32) (0 : Int32) lo hi raw d0))])
              refine hs.go (fun _ kk_ => XS.istore X30.here hx rfl (hb hby at_331) rfl (l' := #[.val (.long gaps), .second, .val (.int sp), .val (.int wh), .val (.int mode), .val (.int raw), .val (.int s1), .val (.int s2), .val (.ref sts), .val (.ref dcs), .val (.int tm), .val (.int raw), .val (.ref ob), .val (.int uu), .val (.int lo), .val (.int hi), .val (.int (fh (-1 : Int32) (0 : Int32) lo hi raw d0))]) rfl kk_) ?_
              show G T30 (mkF m 333 #[.val (.long gaps), .second, .val (.int sp), .val (.int wh), .val (.int mode), .val (.int raw), .val (.int s1), .val (.int s2), .val (.ref sts), .val (.ref dcs), .val (.int tm), .val (.int raw), .val (.ref ob), .val (.int uu), .val (.int lo), .val (.int hi), .val (.int (fh (-1 : Int32) (0 : Int32) lo hi raw d0))] [])
              refine hs.go (fun _ kk_ => XS.iload X30.here hx rfl (hb hby at_333) rfl  kk_) ?_
              show G T30 (mkF m 335 #[.val (.long gaps), .second, .val (.int sp), .val (.int wh), .val (.int mode), .val (.int raw), .val (.int s1), .val (.int s2), .val (.ref sts), .val (.ref dcs), .val (.int tm), .val (.int raw), .val (.ref ob), .val (.int uu), .val (.int lo), .val (.int hi), .val (.int (fh (-1 : Int32) (0 : Int32) lo hi raw d0))] [(.int (fh (-1 : Int32) (0 : Int32) lo hi raw d0))])
              refine hs.go (fun _ kk_ => XS.iconst X30.here hx rfl (hb hby at_335) kk_) ?_
              show G T30 (mkF m 336 #[.val (.long gaps), .second, .val (.int sp), .val (.int wh), .val (.int mode), .val (.int raw), .val (.int s1), .val (.int s2), .val (.ref sts), .val (.ref dcs), .val (.int tm), .val (.int raw), .val (.ref ob), .val (.int uu), .val (.int lo), .val (.int hi), .val (.int (fh (-1 : Int32) (0 : Int32) lo hi raw d0))] [(.int (1 : Int32)), (.int (fh (-1 : Int32) (0 : Int32) lo hi raw d0))])
              refine hs.go (fun _ kk_ => XS.iload X30.here hx rfl (hb hby at_336) rfl  kk_) ?_
              show G T30 (mkF m 338 #[.val (.long gaps), .second, .val (.int sp), .val (.int wh), .val (.int mode), .val (.int raw), .val (.int s1), .val (.int s2), .val (.ref sts), .val (.ref dcs), .val (.int tm), .val (.int raw), .val (.ref ob), .val (.int uu), .val (.int lo), .val (.int hi), .val (.int (fh (-1 : Int32) (0 : Int32) lo hi raw d0))] [(.int lo), (.int (1 : Int32)), (.int (fh (-1 : Int32) (0 : Int32) lo hi raw d0))])
              refine hs.go (fun _ kk_ => XS.iload X30.here hx rfl (hb hby at_338) rfl  kk_) ?_
              show G T30 (mkF m 340 #[.val (.long gaps), .second, .val (.int sp), .val (.int wh), .val (.int mode), .val (.int raw), .val (.int s1), .val (.int s2), .val (.ref sts), .val (.ref dcs), .val (.int tm), .val (.int raw), .val (.ref ob), .val (.int uu), .val (.int lo), .val (.int hi), .val (.int (fh (-1 : Int32) (0 : Int32) lo hi raw d0))] [(.int hi), (.int lo), (.int (1 : Int32)), (.int (fh (-1 : Int32) (0 : Int32) lo hi raw d0))])
              refine hs.go (fun _ kk_ => XS.aload X30.here hx rfl (hb hby at_340) rfl rfl kk_) ?_
              show G T30 (mkF m 342 #[.val (.long gaps), .second, .val (.int sp), .val (.int wh), .val (.int mode), .val (.int raw), .val (.int s1), .val (.int s2), .val (.ref sts), .val (.ref dcs), .val (.int tm), .val (.int raw), .val (.ref ob), .val (.int uu), .val (.int lo), .val (.int hi), .val (.int (fh (-1 : Int32) (0 : Int32) lo hi raw d0))] [(.ref dcs), (.int hi), (.int lo), (.int (1 : Int32)), (.int (fh (-1 : Int32) (0 : Int32) lo hi raw d0))])
              refine hs.go (fun _ kk_ => XS.iload X30.here hx rfl (hb hby at_342) rfl  kk_) ?_
              show G T30 (mkF m 344 #[.val (.long gaps), .second, .val (.int sp), .val (.int wh), .val (.int mode), .val (.int raw), .val (.int s1), .val (.int s2), .val (.ref sts), .val (.ref dcs), .val (.int tm), .val (.int raw), .val (.ref ob), .val (.int uu), .val (.int lo), .val (.int hi), .val (.int (fh (-1 : Int32) (0 : Int32) lo hi raw d0))] [(.int raw), (.ref dcs), (.int hi), (.int lo), (.int (1 : Int32)), (.int (fh (-1 : Int32) (0 : Int32) lo hi raw d0))])
              refine rCallS hs X30 hx hZ (as' := [(.int (fh (-1 : Int32) (0 : Int32) lo hi raw d0)), (.int (1 : Int32)), (.int lo), (.int hi), (.ref dcs), (.int raw)]) (rm10 l Z a0 hw [] (fh (-1 : Int32) (0 : Int32) lo hi raw d0) (1 : Int32) lo hi dcs raw [d0, d1, d2, d3, d4, d5] k6 h28 n0 Z0 V_dcs ⟨by decide, by decide⟩) hown (hw _ (List.mem_of_getElem? (i := 57) rfl)) (hw _ (List.mem_of_getElem? (i := 58) rfl)) (hw _ (List.mem_of_getElem? (i := 4) rfl)) (hw _ (List.mem_of_getElem? (i := 59) rfl)) hy_10 rfl (by rw [hml]; rfl) [] (lenOf pd_6 rfl) rfl 0 (by show 2 * 0 + _ ≤ _; exact Nat.le_of_eq rfl) (hb hby at_344) (by decide) (by decide) (by decide) (by decide) (fun r31 T31 h31 X31 q31 => ?_)
              obtain ⟨rfl, qh31⟩ := q31
              rw [qh31] at X31
              show G T31 (mkF m 347 #[.val (.long gaps), .second, .val (.int sp), .val (.int wh), .val (.int mode), .val (.int raw), .val (.int s1), .val (.int s2), .val (.ref sts), .val (.ref dcs), .val (.int tm), .val (.int raw), .val (.ref ob), .val (.int uu), .val (.int lo), .val (.int hi), .val (.int (fh (-1 : Int32) (0 : Int32) lo hi raw d0))] [(.int (fh (fh (-1 : Int32) (0 : Int32) lo hi raw d0) (1 : Int32) lo hi raw d1))])
              refine hs.go (fun _ kk_ => XS.istore X31.here hx rfl (hb hby at_347) rfl (l' := #[.val (.long gaps), .second, .val (.int sp), .val (.int wh), .val (.int mode), .val (.int raw), .val (.int s1), .val (.int s2), .val (.ref sts), .val (.ref dcs), .val (.int tm), .val (.int raw), .val (.ref ob), .val (.int uu), .val (.int lo), .val (.int hi), .val (.int (fh (fh (-1 : Int32) (0 : Int32) lo hi raw d0) (1 : Int32) lo hi raw d1))]) rfl kk_) ?_
              show G T31 (mkF m 349 #[.val (.long gaps), .second, .val (.int sp), .val (.int wh), .val (.int mode), .val (.int raw), .val (.int s1), .val (.int s2), .val (.ref sts), .val (.ref dcs), .val (.int tm), .val (.int raw), .val (.ref ob), .val (.int uu), .val (.int lo), .val (.int hi), .val (.int (fh (fh (-1 : Int32) (0 : Int32) lo hi raw d0) (1 : Int32) lo hi raw d1))] [])
              refine hs.go (fun _ kk_ => XS.iload X31.here hx rfl (hb hby at_349) rfl  kk_) ?_
              show G T31 (mkF m 351 #[.val (.long gaps), .second, .val (.int sp), .val (.int wh), .val (.int mode), .val (.int raw), .val (.int s1), .val (.int s2), .val (.ref sts), .val (.ref dcs), .val (.int tm), .val (.int raw), .val (.ref ob), .val (.int uu), .val (.int lo), .val (.int hi), .val (.int (fh (fh (-1 : Int32) (0 : Int32) lo hi raw d0) (1 : Int32) lo hi raw d1))] [(.int (fh (fh (-1 : Int32) (0 : Int32) lo hi raw d0) (1 : Int32) lo hi raw d1))])
              refine hs.go (fun _ kk_ => XS.iconst X31.here hx rfl (hb hby at_351) kk_) ?_
              show G T31 (mkF m 352 #[.val (.long gaps), .second, .val (.int sp), .val (.int wh), .val (.int mode), .val (.int raw), .val (.int s1), .val (.int s2), .val (.ref sts), .val (.ref dcs), .val (.int tm), .val (.int raw), .val (.ref ob), .val (.int uu), .val (.int lo), .val (.int hi), .val (.int (fh (fh (-1 : Int32) (0 : Int32) lo hi raw d0) (1 : Int32) lo hi raw d1))] [(.int (2 : Int32)), (.int (fh (fh (-1 : Int32) (0 : Int32) lo hi raw d0) (1 : Int32) lo hi raw d1))])
              refine hs.go (fun _ kk_ => XS.iload X31.here hx rfl (hb hby at_352) rfl  kk_) ?_
              show G T31 (mkF m 354 #[.val (.long gaps), .second, .val (.int sp), .val (.int wh), .val (.int mode), .val (.int raw), .val (.int s1), .val (.int s2), .val (.ref sts), .val (.ref dcs), .val (.int tm), .val (.int raw), .val (.ref ob), .val (.int uu), .val (.int lo), .val (.int hi), .val (.int (fh (fh (-1 : Int32) (0 : Int32) lo hi raw d0) (1 : Int32) lo hi raw d1))] [(.int lo), (.int (2 : Int32)), (.int (fh (fh (-1 : Int32) (0 : Int32) lo hi raw d0) (1 : Int32) lo hi raw d1))])
              refine hs.go (fun _ kk_ => XS.iload X31.here hx rfl (hb hby at_354) rfl  kk_) ?_
              show G T31 (mkF m 356 #[.val (.long gaps), .second, .val (.int sp), .val (.int wh), .val (.int mode), .val (.int raw), .val (.int s1), .val (.int s2), .val (.ref sts), .val (.ref dcs), .val (.int tm), .val (.int raw), .val (.ref ob), .val (.int uu), .val (.int lo), .val (.int hi), .val (.int (fh (fh (-1 : Int32) (0 : Int32) lo hi raw d0) (1 : Int32) lo hi raw d1))] [(.int hi), (.int lo), (.int (2 : Int32)), (.int (fh (fh (-1 : Int32) (0 : Int32) lo hi raw d0) (1 : Int32) lo hi raw d1))])
              refine hs.go (fun _ kk_ => XS.aload X31.here hx rfl (hb hby at_356) rfl rfl kk_) ?_
              show G T31 (mkF m 358 #[.val (.long gaps), .second, .val (.int sp), .val (.int wh), .val (.int mode), .val (.int raw), .val (.int s1), .val (.int s2), .val (.ref sts), .val (.ref dcs), .val (.int tm), .val (.int raw), .val (.ref ob), .val (.int uu), .val (.int lo), .val (.int hi), .val (.int (fh (fh (-1 : Int32) (0 : Int32) lo hi raw d0) (1 : Int32) lo hi raw d1))] [(.ref dcs), (.int hi), (.int lo), (.int (2 : Int32)), (.int (fh (fh (-1 : Int32) (0 : Int32) lo hi raw d0) (1 : Int32) lo hi raw d1))])
              refine hs.go (fun _ kk_ => XS.iload X31.here hx rfl (hb hby at_358) rfl  kk_) ?_
              show G T31 (mkF m 360 #[.val (.long gaps), .second, .val (.int sp), .val (.int wh), .val (.int mode), .val (.int raw), .val (.int s1), .val (.int s2), .val (.ref sts), .val (.ref dcs), .val (.int tm), .val (.int raw), .val (.ref ob), .val (.int uu), .val (.int lo), .val (.int hi), .val (.int (fh (fh (-1 : Int32) (0 : Int32) lo hi raw d0) (1 : Int32) lo hi raw d1))] [(.int raw), (.ref dcs), (.int hi), (.int lo), (.int (2 : Int32)), (.int (fh (fh (-1 : Int32) (0 : Int32) lo hi raw d0) (1 : Int32) lo hi raw d1))])
              refine rCallS hs X31 hx hZ (as' := [(.int (fh (fh (-1 : Int32) (0 : Int32) lo hi raw d0) (1 : Int32) lo hi raw d1)), (.int (2 : Int32)), (.int lo), (.int hi), (.ref dcs), (.int raw)]) (rm10 l Z a0 hw [] (fh (fh (-1 : Int32) (0 : Int32) lo hi raw d0) (1 : Int32) lo hi raw d1) (2 : Int32) lo hi dcs raw [d0, d1, d2, d3, d4, d5] k6 h28 n0 Z0 V_dcs ⟨by decide, by decide⟩) hown (hw _ (List.mem_of_getElem? (i := 57) rfl)) (hw _ (List.mem_of_getElem? (i := 58) rfl)) (hw _ (List.mem_of_getElem? (i := 4) rfl)) (hw _ (List.mem_of_getElem? (i := 59) rfl)) hy_10 rfl (by rw [hml]; rfl) [] (lenOf pd_6 rfl) rfl 0 (by show 2 * 0 + _ ≤ _; exact Nat.le_of_eq rfl) (hb hby at_360) (by decide) (by decide) (by decide) (by decide) (fun r32 T32 h32 X32 q32 => ?_)
              obtain ⟨rfl, qh32⟩ := q32
              rw [qh32] at X32
              show G T32 (mkF m 363 #[.val (.long gaps), .second, .val (.int sp), .val (.int wh), .val (.int mode), .val (.int raw), .val (.int s1), .val (.int s2), .val (.ref sts), .val (.ref dcs), .val (.int tm), .val (.int raw), .val (.ref ob), .val (.int uu), .val (.int lo), .val (.int hi), .val (.int (fh (fh (-1 : Int32) (0 : Int32) lo hi raw d0) (1 : Int32) lo hi raw d1))] [(.int (fh (fh (fh (-1 : Int32) (0 : Int32) lo hi raw d0) (1 : Int32) lo hi raw d1) (2 : Int32) lo hi raw d2))])
              refine hs.go (fun _ kk_ => XS.istore X32.here hx rfl (hb hby at_363) rfl (l' := #[.val (.long gaps), .second, .val (.int sp), .val (.int wh), .val (.int mode), .val (.int raw), .val (.int s1), .val (.int s2), .val (.ref sts), .val (.ref dcs), .val (.int tm), .val (.int raw), .val (.ref ob), .val (.int uu), .val (.int lo), .val (.int hi), .val (.int (fh (fh (fh (-1 : Int32) (0 : Int32) lo hi raw d0) (1 : Int32) lo hi raw d1) (2 : Int32) lo hi raw d2))]) rfl kk_) ?_
              show G T32 (mkF m 365 #[.val (.long gaps), .second, .val (.int sp), .val (.int wh), .val (.int mode), .val (.int raw), .val (.int s1), .val (.int s2), .val (.ref sts), .val (.ref dcs), .val (.int tm), .val (.int raw), .val (.ref ob), .val (.int uu), .val (.int lo), .val (.int hi), .val (.int (fh (fh (fh (-1 : Int32) (0 : Int32) lo hi raw d0) (1 : Int32) lo hi raw d1) (2 : Int32) lo hi raw d2))] [])
              refine hs.go (fun _ kk_ => XS.iload X32.here hx rfl (hb hby at_365) rfl  kk_) ?_
              show G T32 (mkF m 367 #[.val (.long gaps), .second, .val (.int sp), .val (.int wh), .val (.int mode), .val (.int raw), .val (.int s1), .val (.int s2), .val (.ref sts), .val (.ref dcs), .val (.int tm), .val (.int raw), .val (.ref ob), .val (.int uu), .val (.int lo), .val (.int hi), .val (.int (fh (fh (fh (-1 : Int32) (0 : Int32) lo hi raw d0) (1 : Int32) lo hi raw d1) (2 : Int32) lo hi raw d2))] [(.int (fh (fh (fh (-1 : Int32) (0 : Int32) lo hi raw d0) (1 : Int32) lo hi raw d1) (2 : Int32) lo hi raw d2))])
              refine hs.go (fun _ kk_ => XS.iconst X32.here hx rfl (hb hby at_367) kk_) ?_
              show G T32 (mkF m 368 #[.val (.long gaps), .second, .val (.int sp), .val (.int wh), .val (.int mode), .val (.int raw), .val (.int s1), .val (.int s2), .val (.ref sts), .val (.ref dcs), .val (.int tm), .val (.int raw), .val (.ref ob), .val (.int uu), .val (.int lo), .val (.int hi), .val (.int (fh (fh (fh (-1 : Int32) (0 : Int32) lo hi raw d0) (1 : Int32) lo hi raw d1) (2 : Int32) lo hi raw d2))] [(.int (3 : Int32)), (.int (fh (fh (fh (-1 : Int32) (0 : Int32) lo hi raw d0) (1 : Int32) lo hi raw d1) (2 : Int32) lo hi raw d2))])
              refine hs.go (fun _ kk_ => XS.iload X32.here hx rfl (hb hby at_368) rfl  kk_) ?_
              show G T32 (mkF m 370 #[.val (.long gaps), .second, .val (.int sp), .val (.int wh), .val (.int mode), .val (.int raw), .val (.int s1), .val (.int s2), .val (.ref sts), .val (.ref dcs), .val (.int tm), .val (.int raw), .val (.ref ob), .val (.int uu), .val (.int lo), .val (.int hi), .val (.int (fh (fh (fh (-1 : Int32) (0 : Int32) lo hi raw d0) (1 : Int32) lo hi raw d1) (2 : Int32) lo hi raw d2))] [(.int lo), (.int (3 : Int32)), (.int (fh (fh (fh (-1 : Int32) (0 : Int32) lo hi raw d0) (1 : Int32) lo hi raw d1) (2 : Int32) lo hi raw d2))])
              refine hs.go (fun _ kk_ => XS.iload X32.here hx rfl (hb hby at_370) rfl  kk_) ?_
              show G T32 (mkF m 372 #[.val (.long gaps), .second, .val (.int sp), .val (.int wh), .val (.int mode), .val (.int raw), .val (.int s1), .val (.int s2), .val (.ref sts), .val (.ref dcs), .val (.int tm), .val (.int raw), .val (.ref ob), .val (.int uu), .val (.int lo), .val (.int hi), .val (.int (fh (fh (fh (-1 : Int32) (0 : Int32) lo hi raw d0) (1 : Int32) lo hi raw d1) (2 : Int32) lo hi raw d2))] [(.int hi), (.int lo), (.int (3 : Int32)), (.int (fh (fh (fh (-1 : Int32) (0 : Int32) lo hi raw d0) (1 : Int32) lo hi raw d1) (2 : Int32) lo hi raw d2))])
              refine hs.go (fun _ kk_ => XS.aload X32.here hx rfl (hb hby at_372) rfl rfl kk_) ?_
              show G T32 (mkF m 374 #[.val (.long gaps), .second, .val (.int sp), .val (.int wh), .val (.int mode), .val (.int raw), .val (.int s1), .val (.int s2), .val (.ref sts), .val (.ref dcs), .val (.int tm), .val (.int raw), .val (.ref ob), .val (.int uu), .val (.int lo), .val (.int hi), .val (.int (fh (fh (fh (-1 : Int32) (0 : Int32) lo hi raw d0) (1 : Int32) lo hi raw d1) (2 : Int32) lo hi raw d2))] [(.ref dcs), (.int hi), (.int lo), (.int (3 : Int32)), (.int (fh (fh (fh (-1 : Int32) (0 : Int32) lo hi raw d0) (1 : Int32) lo hi raw d1) (2 : Int32) lo hi raw d2))])
              refine hs.go (fun _ kk_ => XS.iload X32.here hx rfl (hb hby at_374) rfl  kk_) ?_
              show G T32 (mkF m 376 #[.val (.long gaps), .second, .val (.int sp), .val (.int wh), .val (.int mode), .val (.int raw), .val (.int s1), .val (.int s2), .val (.ref sts), .val (.ref dcs), .val (.int tm), .val (.int raw), .val (.ref ob), .val (.int uu), .val (.int lo), .val (.int hi), .val (.int (fh (fh (fh (-1 : Int32) (0 : Int32) lo hi raw d0) (1 : Int32) lo hi raw d1) (2 : Int32) lo hi raw d2))] [(.int raw), (.ref dcs), (.int hi), (.int lo), (.int (3 : Int32)), (.int (fh (fh (fh (-1 : Int32) (0 : Int32) lo hi raw d0) (1 : Int32) lo hi raw d1) (2 : Int32) lo hi raw d2))])
              refine rCallS hs X32 hx hZ (as' := [(.int (fh (fh (fh (-1 : Int32) (0 : Int32) lo hi raw d0) (1 : Int32) lo hi raw d1) (2 : Int32) lo hi raw d2)), (.int (3 : Int32)), (.int lo), (.int hi), (.ref dcs), (.int raw)]) (rm10 l Z a0 hw [] (fh (fh (fh (-1 : Int32) (0 : Int32) lo hi raw d0) (1 : Int32) lo hi raw d1) (2 : Int32) lo hi raw d2) (3 : Int32) lo hi dcs raw [d0, d1, d2, d3, d4, d5] k6 h28 n0 Z0 V_dcs ⟨by decide, by decide⟩) hown (hw _ (List.mem_of_getElem? (i := 57) rfl)) (hw _ (List.mem_of_getElem? (i := 58) rfl)) (hw _ (List.mem_of_getElem? (i := 4) rfl)) (hw _ (List.mem_of_getElem? (i := 59) rfl)) hy_10 rfl (by rw [hml]; rfl) [] (lenOf pd_6 rfl) rfl 0 (by show 2 * 0 + _ ≤ _; exact Nat.le_of_eq rfl) (hb hby at_376) (by decide) (by decide) (by decide) (by decide) (fun r33 T33 h33 X33 q33 => ?_)
              obtain ⟨rfl, qh33⟩ := q33
              rw [qh33] at X33
              show G T33 (mkF m 379 #[.val (.long gaps), .second, .val (.int sp), .val (.int wh), .val (.int mode), .val (.int raw), .val (.int s1), .val (.int s2), .val (.ref sts), .val (.ref dcs), .val (.int tm), .val (.int raw), .val (.ref ob), .val (.int uu), .val (.int lo), .val (.int hi), .val (.int (fh (fh (fh (-1 : Int32) (0 : Int32) lo hi raw d0) (1 : Int32) lo hi raw d1) (2 : Int32) lo hi raw d2))] [(.int (fh (fh (fh (fh (-1 : Int32) (0 : Int32) lo hi raw d0) (1 : Int32) lo hi raw d1) (2 : Int32) lo hi raw d2) (3 : Int32) lo hi raw d3))])
              refine hs.go (fun _ kk_ => XS.istore X33.here hx rfl (hb hby at_379) rfl (l' := #[.val (.long gaps), .second, .val (.int sp), .val (.int wh), .val (.int mode), .val (.int raw), .val (.int s1), .val (.int s2), .val (.ref sts), .val (.ref dcs), .val (.int tm), .val (.int raw), .val (.ref ob), .val (.int uu), .val (.int lo), .val (.int hi), .val (.int (fh (fh (fh (fh (-1 : Int32) (0 : Int32) lo hi raw d0) (1 : Int32) lo hi raw d1) (2 : Int32) lo hi raw d2) (3 : Int32) lo hi raw d3))]) rfl kk_) ?_
              show G T33 (mkF m 381 #[.val (.long gaps), .second, .val (.int sp), .val (.int wh), .val (.int mode), .val (.int raw), .val (.int s1), .val (.int s2), .val (.ref sts), .val (.ref dcs), .val (.int tm), .val (.int raw), .val (.ref ob), .val (.int uu), .val (.int lo), .val (.int hi), .val (.int (fh (fh (fh (fh (-1 : Int32) (0 : Int32) lo hi raw d0) (1 : Int32) lo hi raw d1) (2 : Int32) lo hi raw d2) (3 : Int32) lo hi raw d3))] [])
              refine hs.go (fun _ kk_ => XS.iload X33.here hx rfl (hb hby at_381) rfl  kk_) ?_
              show G T33 (mkF m 383 #[.val (.long gaps), .second, .val (.int sp), .val (.int wh), .val (.int mode), .val (.int raw), .val (.int s1), .val (.int s2), .val (.ref sts), .val (.ref dcs), .val (.int tm), .val (.int raw), .val (.ref ob), .val (.int uu), .val (.int lo), .val (.int hi), .val (.int (fh (fh (fh (fh (-1 : Int32) (0 : Int32) lo hi raw d0) (1 : Int32) lo hi raw d1) (2 : Int32) lo hi raw d2) (3 : Int32) lo hi raw d3))] [(.int (fh (fh (fh (fh (-1 : Int32) (0 : Int32) lo hi raw d0) (1 : Int32) lo hi raw d1) (2 : Int32) lo hi raw d2) (3 : Int32) lo hi raw d3))])
              refine hs.go (fun _ kk_ => XS.iconst X33.here hx rfl (hb hby at_383) kk_) ?_
              show G T33 (mkF m 384 #[.val (.long gaps), .second, .val (.int sp), .val (.int wh), .val (.int mode), .val (.int raw), .val (.int s1), .val (.int s2), .val (.ref sts), .val (.ref dcs), .val (.int tm), .val (.int raw), .val (.ref ob), .val (.int uu), .val (.int lo), .val (.int hi), .val (.int (fh (fh (fh (fh (-1 : Int32) (0 : Int32) lo hi raw d0) (1 : Int32) lo hi raw d1) (2 : Int32) lo hi raw d2) (3 : Int32) lo hi raw d3))] [(.int (4 : Int32)), (.int (fh (fh (fh (fh (-1 : Int32) (0 : Int32) lo hi raw d0) (1 : Int32) lo hi raw d1) (2 : Int32) lo hi raw d2) (3 : Int32) lo hi raw d3))])
              refine hs.go (fun _ kk_ => XS.iload X33.here hx rfl (hb hby at_384) rfl  kk_) ?_
              show G T33 (mkF m 386 #[.val (.long gaps), .second, .val (.int sp), .val (.int wh), .val (.int mode), .val (.int raw), .val (.int s1), .val (.int s2), .val (.ref sts), .val (.ref dcs), .val (.int tm), .val (.int raw), .val (.ref ob), .val (.int uu), .val (.int lo), .val (.int hi), .val (.int (fh (fh (fh (fh (-1 : Int32) (0 : Int32) lo hi raw d0) (1 : Int32) lo hi raw d1) (2 : Int32) lo hi raw d2) (3 : Int32) lo hi raw d3))] [(.int lo), (.int (4 : Int32)), (.int (fh (fh (fh (fh (-1 : Int32) (0 : Int32) lo hi raw d0) (1 : Int32) lo hi raw d1) (2 : Int32) lo hi raw d2) (3 : Int32) lo hi raw d3))])
              refine hs.go (fun _ kk_ => XS.iload X33.here hx rfl (hb hby at_386) rfl  kk_) ?_
              show G T33 (mkF m 388 #[.val (.long gaps), .second, .val (.int sp), .val (.int wh), .val (.int mode), .val (.int raw), .val (.int s1), .val (.int s2), .val (.ref sts), .val (.ref dcs), .val (.int tm), .val (.int raw), .val (.ref ob), .val (.int uu), .val (.int lo), .val (.int hi), .val (.int (fh (fh (fh (fh (-1 : Int32) (0 : Int32) lo hi raw d0) (1 : Int32) lo hi raw d1) (2 : Int32) lo hi raw d2) (3 : Int32) lo hi raw d3))] [(.int hi), (.int lo), (.int (4 : Int32)), (.int (fh (fh (fh (fh (-1 : Int32) (0 : Int32) lo hi raw d0) (1 : Int32) lo hi raw d1) (2 : Int32) lo hi raw d2) (3 : Int32) lo hi raw d3))])
              refine hs.go (fun _ kk_ => XS.aload X33.here hx rfl (hb hby at_388) rfl rfl kk_) ?_
              show G T33 (mkF m 390 #[.val (.long gaps), .second, .val (.int sp), .val (.int wh), .val (.int mode), .val (.int raw), .val (.int s1), .val (.int s2), .val (.ref sts), .val (.ref dcs), .val (.int tm), .val (.int raw), .val (.ref ob), .val (.int uu), .val (.int lo), .val (.int hi), .val (.int (fh (fh (fh (fh (-1 : Int32) (0 : Int32) lo hi raw d0) (1 : Int32) lo hi raw d1) (2 : Int32) lo hi raw d2) (3 : Int32) lo hi raw d3))] [(.ref dcs), (.int hi), (.int lo), (.int (4 : Int32)), (.int (fh (fh (fh (fh (-1 : Int32) (0 : Int32) lo hi raw d0) (1 : Int32) lo hi raw d1) (2 : Int32) lo hi raw d2) (3 : Int32) lo hi raw d3))])
              refine hs.go (fun _ kk_ => XS.iload X33.here hx rfl (hb hby at_390) rfl  kk_) ?_
              show G T33 (mkF m 392 #[.val (.long gaps), .second, .val (.int sp), .val (.int wh), .val (.int mode), .val (.int raw), .val (.int s1), .val (.int s2), .val (.ref sts), .val (.ref dcs), .val (.int tm), .val (.int raw), .val (.ref ob), .val (.int uu), .val (.int lo), .val (.int hi), .val (.int (fh (fh (fh (fh (-1 : Int32) (0 : Int32) lo hi raw d0) (1 : Int32) lo hi raw d1) (2 : Int32) lo hi raw d2) (3 : Int32) lo hi raw d3))] [(.int raw), (.ref dcs), (.int hi), (.int lo), (.int (4 : Int32)), (.int (fh (fh (fh (fh (-1 : Int32) (0 : Int32) lo hi raw d0) (1 : Int32) lo hi raw d1) (2 : Int32) lo hi raw d2) (3 : Int32) lo hi raw d3))])
              refine rCallS hs X33 hx hZ (as' := [(.int (fh (fh (fh (fh (-1 : Int32) (0 : Int32) lo hi raw d0) (1 : Int32) lo hi raw d1) (2 : Int32) lo hi raw d2) (3 : Int32) lo hi raw d3)), (.int (4 : Int32)), (.int lo), (.int hi), (.ref dcs), (.int raw)]) (rm10 l Z a0 hw [] (fh (fh (fh (fh (-1 : Int32) (0 : Int32) lo hi raw d0) (1 : Int32) lo hi raw d1) (2 : Int32) lo hi raw d2) (3 : Int32) lo hi raw d3) (4 : Int32) lo hi dcs raw [d0, d1, d2, d3, d4, d5] k6 h28 n0 Z0 V_dcs ⟨by decide, by decide⟩) hown (hw _ (List.mem_of_getElem? (i := 57) rfl)) (hw _ (List.mem_of_getElem? (i := 58) rfl)) (hw _ (List.mem_of_getElem? (i := 4) rfl)) (hw _ (List.mem_of_getElem? (i := 59) rfl)) hy_10 rfl (by rw [hml]; rfl) [] (lenOf pd_6 rfl) rfl 0 (by show 2 * 0 + _ ≤ _; exact Nat.le_of_eq rfl) (hb hby at_392) (by decide) (by decide) (by decide) (by decide) (fun r34 T34 h34 X34 q34 => ?_)
              obtain ⟨rfl, qh34⟩ := q34
              rw [qh34] at X34
              show G T34 (mkF m 395 #[.val (.long gaps), .second, .val (.int sp), .val (.int wh), .val (.int mode), .val (.int raw), .val (.int s1), .val (.int s2), .val (.ref sts), .val (.ref dcs), .val (.int tm), .val (.int raw), .val (.ref ob), .val (.int uu), .val (.int lo), .val (.int hi), .val (.int (fh (fh (fh (fh (-1 : Int32) (0 : Int32) lo hi raw d0) (1 : Int32) lo hi raw d1) (2 : Int32) lo hi raw d2) (3 : Int32) lo hi raw d3))] [(.int (fh (fh (fh (fh (fh (-1 : Int32) (0 : Int32) lo hi raw d0) (1 : Int32) lo hi raw d1) (2 : Int32) lo hi raw d2) (3 : Int32) lo hi raw d3) (4 : Int32) lo hi raw d4))])
              refine hs.go (fun _ kk_ => XS.istore X34.here hx rfl (hb hby at_395) rfl (l' := #[.val (.long gaps), .second, .val (.int sp), .val (.int wh), .val (.int mode), .val (.int raw), .val (.int s1), .val (.int s2), .val (.ref sts), .val (.ref dcs), .val (.int tm), .val (.int raw), .val (.ref ob), .val (.int uu), .val (.int lo), .val (.int hi), .val (.int (fh (fh (fh (fh (fh (-1 : Int32) (0 : Int32) lo hi raw d0) (1 : Int32) lo hi raw d1) (2 : Int32) lo hi raw d2) (3 : Int32) lo hi raw d3) (4 : Int32) lo hi raw d4))]) rfl kk_) ?_
              show G T34 (mkF m 397 #[.val (.long gaps), .second, .val (.int sp), .val (.int wh), .val (.int mode), .val (.int raw), .val (.int s1), .val (.int s2), .val (.ref sts), .val (.ref dcs), .val (.int tm), .val (.int raw), .val (.ref ob), .val (.int uu), .val (.int lo), .val (.int hi), .val (.int (fh (fh (fh (fh (fh (-1 : Int32) (0 : Int32) lo hi raw d0) (1 : Int32) lo hi raw d1) (2 : Int32) lo hi raw d2) (3 : Int32) lo hi raw d3) (4 : Int32) lo hi raw d4))] [])
              refine hs.go (fun _ kk_ => XS.iload X34.here hx rfl (hb hby at_397) rfl  kk_) ?_
              show G T34 (mkF m 399 #[.val (.long gaps), .second, .val (.int sp), .val (.int wh), .val (.int mode), .val (.int raw), .val (.int s1), .val (.int s2), .val (.ref sts), .val (.ref dcs), .val (.int tm), .val (.int raw), .val (.ref ob), .val (.int uu), .val (.int lo), .val (.int hi), .val (.int (fh (fh (fh (fh (fh (-1 : Int32) (0 : Int32) lo hi raw d0) (1 : Int32) lo hi raw d1) (2 : Int32) lo hi raw d2) (3 : Int32) lo hi raw d3) (4 : Int32) lo hi raw d4))] [(.int (fh (fh (fh (fh (fh (-1 : Int32) (0 : Int32) lo hi raw d0) (1 : Int32) lo hi raw d1) (2 : Int32) lo hi raw d2) (3 : Int32) lo hi raw d3) (4 : Int32) lo hi raw d4))])
              refine hs.go (fun _ kk_ => XS.iconst X34.here hx rfl (hb hby at_399) kk_) ?_
              show G T34 (mkF m 400 #[.val (.long gaps), .second, .val (.int sp), .val (.int wh), .val (.int mode), .val (.int raw), .val (.int s1), .val (.int s2), .val (.ref sts), .val (.ref dcs), .val (.int tm), .val (.int raw), .val (.ref ob), .val (.int uu), .val (.int lo), .val (.int hi), .val (.int (fh (fh (fh (fh (fh (-1 : Int32) (0 : Int32) lo hi raw d0) (1 : Int32) lo hi raw d1) (2 : Int32) lo hi raw d2) (3 : Int32) lo hi raw d3) (4 : Int32) lo hi raw d4))] [(.int (5 : Int32)), (.int (fh (fh (fh (fh (fh (-1 : Int32) (0 : Int32) lo hi raw d0) (1 : Int32) lo hi raw d1) (2 : Int32) lo hi raw d2) (3 : Int32) lo hi raw d3) (4 : Int32) lo hi raw d4))])
              refine hs.go (fun _ kk_ => XS.iload X34.here hx rfl (hb hby at_400) rfl  kk_) ?_
              show G T34 (mkF m 402 #[.val (.long gaps), .second, .val (.int sp), .val (.int wh), .val (.int mode), .val (.int raw), .val (.int s1), .val (.int s2), .val (.ref sts), .val (.ref dcs), .val (.int tm), .val (.int raw), .val (.ref ob), .val (.int uu), .val (.int lo), .val (.int hi), .val (.int (fh (fh (fh (fh (fh (-1 : Int32) (0 : Int32) lo hi raw d0) (1 : Int32) lo hi raw d1) (2 : Int32) lo hi raw d2) (3 : Int32) lo hi raw d3) (4 : Int32) lo hi raw d4))] [(.int lo), (.int (5 : Int32)), (.int (fh (fh (fh (fh (fh (-1 : Int32) (0 : Int32) lo hi raw d0) (1 : Int32) lo hi raw d1) (2 : Int32) lo hi raw d2) (3 : Int32) lo hi raw d3) (4 : Int32) lo hi raw d4))])
              refine hs.go (fun _ kk_ => XS.iload X34.here hx rfl (hb hby at_402) rfl  kk_) ?_
              show G T34 (mkF m 404 #[.val (.long gaps), .second, .val (.int sp), .val (.int wh), .val (.int mode), .val (.int raw), .val (.int s1), .val (.int s2), .val (.ref sts), .val (.ref dcs), .val (.int tm), .val (.int raw), .val (.ref ob), .val (.int uu), .val (.int lo), .val (.int hi), .val (.int (fh (fh (fh (fh (fh (-1 : Int32) (0 : Int32) lo hi raw d0) (1 : Int32) lo hi raw d1) (2 : Int32) lo hi raw d2) (3 : Int32) lo hi raw d3) (4 : Int32) lo hi raw d4))] [(.int hi), (.int lo), (.int (5 : Int32)), (.int (fh (fh (fh (fh (fh (-1 : Int32) (0 : Int32) lo hi raw d0) (1 : Int32) lo hi raw d1) (2 : Int32) lo hi raw d2) (3 : Int32) lo hi raw d3) (4 : Int32) lo hi raw d4))])
              refine hs.go (fun _ kk_ => XS.aload X34.here hx rfl (hb hby at_404) rfl rfl kk_) ?_
              show G T34 (mkF m 406 #[.val (.long gaps), .second, .val (.int sp), .val (.int wh), .val (.int mode), .val (.int raw), .val (.int s1), .val (.int s2), .val (.ref sts), .val (.ref dcs), .val (.int tm), .val (.int raw), .val (.ref ob), .val (.int uu), .val (.int lo), .val (.int hi), .val (.int (fh (fh (fh (fh (fh (-1 : Int32) (0 : Int32) lo hi raw d0) (1 : Int32) lo hi raw d1) (2 : Int32) lo hi raw d2) (3 : Int32) lo hi raw d3) (4 : Int32) lo hi raw d4))] [(.ref dcs), (.int hi), (.int lo), (.int (5 : Int32)), (.int (fh (fh (fh (fh (fh (-1 : Int32) (0 : Int32) lo hi raw d0) (1 : Int32) lo hi raw d1) (2 : Int32) lo hi raw d2) (3 : Int32) lo hi raw d3) (4 : Int32) lo hi raw d4))])
              refine hs.go (fun _ kk_ => XS.iload X34.here hx rfl (hb hby at_406) rfl  kk_) ?_
              show G T34 (mkF m 408 #[.val (.long gaps), .second, .val (.int sp), .val (.int wh), .val (.int mode), .val (.int raw), .val (.int s1), .val (.int s2), .val (.ref sts), .val (.ref dcs), .val (.int tm), .val (.int raw), .val (.ref ob), .val (.int uu), .val (.int lo), .val (.int hi), .val (.int (fh (fh (fh (fh (fh (-1 : Int32) (0 : Int32) lo hi raw d0) (1 : Int32) lo hi raw d1) (2 : Int32) lo hi raw d2) (3 : Int32) lo hi raw d3) (4 : Int32) lo hi raw d4))] [(.int raw), (.ref dcs), (.int hi), (.int lo), (.int (5 : Int32)), (.int (fh (fh (fh (fh (fh (-1 : Int32) (0 : Int32) lo hi raw d0) (1 : Int32) lo hi raw d1) (2 : Int32) lo hi raw d2) (3 : Int32) lo hi raw d3) (4 : Int32) lo hi raw d4))])
              refine rCallS hs X34 hx hZ (as' := [(.int (fh (fh (fh (fh (fh (-1 : Int32) (0 : Int32) lo hi raw d0) (1 : Int32) lo hi raw d1) (2 : Int32) lo hi raw d2) (3 : Int32) lo hi raw d3) (4 : Int32) lo hi raw d4)), (.int (5 : Int32)), (.int lo), (.int hi), (.ref dcs), (.int raw)]) (rm10 l Z a0 hw [] (fh (fh (fh (fh (fh (-1 : Int32) (0 : Int32) lo hi raw d0) (1 : Int32) lo hi raw d1) (2 : Int32) lo hi raw d2) (3 : Int32) lo hi raw d3) (4 : Int32) lo hi raw d4) (5 : Int32) lo hi dcs raw [d0, d1, d2, d3, d4, d5] k6 h28 n0 Z0 V_dcs ⟨by decide, by decide⟩) hown (hw _ (List.mem_of_getElem? (i := 57) rfl)) (hw _ (List.mem_of_getElem? (i := 58) rfl)) (hw _ (List.mem_of_getElem? (i := 4) rfl)) (hw _ (List.mem_of_getElem? (i := 59) rfl)) hy_10 rfl (by rw [hml]; rfl) [] (lenOf pd_6 rfl) rfl 0 (by show 2 * 0 + _ ≤ _; exact Nat.le_of_eq rfl) (hb hby at_408) (by decide) (by decide) (by decide) (by decide) (fun r35 T35 h35 X35 q35 => ?_)
              obtain ⟨rfl, qh35⟩ := q35
              rw [qh35] at X35
              show G T35 (mkF m 411 #[.val (.long gaps), .second, .val (.int sp), .val (.int wh), .val (.int mode), .val (.int raw), .val (.int s1), .val (.int s2), .val (.ref sts), .val (.ref dcs), .val (.int tm), .val (.int raw), .val (.ref ob), .val (.int uu), .val (.int lo), .val (.int hi), .val (.int (fh (fh (fh (fh (fh (-1 : Int32) (0 : Int32) lo hi raw d0) (1 : Int32) lo hi raw d1) (2 : Int32) lo hi raw d2) (3 : Int32) lo hi raw d3) (4 : Int32) lo hi raw d4))] [(.int (fh (fh (fh (fh (fh (fh (-1 : Int32) (0 : Int32) lo hi raw d0) (1 : Int32) lo hi raw d1) (2 : Int32) lo hi raw d2) (3 : Int32) lo hi raw d3) (4 : Int32) lo hi raw d4) (5 : Int32) lo hi raw d5))])
              refine nameIt (P := fun zz_ : Int32 => G T35 (mkF m 411 #[.val (.long gaps), .second, .val (.int sp), .val (.int wh), .val (.int mode), .val (.int raw), .val (.int s1), .val (.int s2), .val (.ref sts), .val (.ref dcs), .val (.int tm), .val (.int raw), .val (.ref ob), .val (.int uu), .val (.int lo), .val (.int hi), .val (.int (fh (fh (fh (fh (fh (-1 : Int32) (0 : Int32) lo hi raw d0) (1 : Int32) lo hi raw d1) (2 : Int32) lo hi raw d2) (3 : Int32) lo hi raw d3) (4 : Int32) lo hi raw d4))] [(.int zz_)])) (fh (fh (fh (fh (fh (fh (-1 : Int32) (0 : Int32) lo hi raw d0) (1 : Int32) lo hi raw d1) (2 : Int32) lo hi raw d2) (3 : Int32) lo hi raw d3) (4 : Int32) lo hi raw d4) (5 : Int32) lo hi raw d5) (fun ex hex => ?_)
              show G T35 (mkF m 411 #[.val (.long gaps), .second, .val (.int sp), .val (.int wh), .val (.int mode), .val (.int raw), .val (.int s1), .val (.int s2), .val (.ref sts), .val (.ref dcs), .val (.int tm), .val (.int raw), .val (.ref ob), .val (.int uu), .val (.int lo), .val (.int hi), .val (.int (fh (fh (fh (fh (fh (-1 : Int32) (0 : Int32) lo hi raw d0) (1 : Int32) lo hi raw d1) (2 : Int32) lo hi raw d2) (3 : Int32) lo hi raw d3) (4 : Int32) lo hi raw d4))] [(.int ex)])
              refine hs.go (fun _ kk_ => XS.istore X35.here hx rfl (hb hby at_411) rfl (l' := #[.val (.long gaps), .second, .val (.int sp), .val (.int wh), .val (.int mode), .val (.int raw), .val (.int s1), .val (.int s2), .val (.ref sts), .val (.ref dcs), .val (.int tm), .val (.int raw), .val (.ref ob), .val (.int uu), .val (.int lo), .val (.int hi), .val (.int ex)]) rfl kk_) ?_
              show G T35 (mkF m 413 #[.val (.long gaps), .second, .val (.int sp), .val (.int wh), .val (.int mode), .val (.int raw), .val (.int s1), .val (.int s2), .val (.ref sts), .val (.ref dcs), .val (.int tm), .val (.int raw), .val (.ref ob), .val (.int uu), .val (.int lo), .val (.int hi), .val (.int ex)] [])
              refine hs.go (fun _ kk_ => XS.iload X35.here hx rfl (hb hby at_413) rfl  kk_) ?_
              show G T35 (mkF m 415 #[.val (.long gaps), .second, .val (.int sp), .val (.int wh), .val (.int mode), .val (.int raw), .val (.int s1), .val (.int s2), .val (.ref sts), .val (.ref dcs), .val (.int tm), .val (.int raw), .val (.ref ob), .val (.int uu), .val (.int lo), .val (.int hi), .val (.int ex)] [(.int uu)])
              refine hs.go (fun _ kk_ => XS.iload X35.here hx rfl (hb hby at_415) rfl  kk_) ?_
              show G T35 (mkF m 417 #[.val (.long gaps), .second, .val (.int sp), .val (.int wh), .val (.int mode), .val (.int raw), .val (.int s1), .val (.int s2), .val (.ref sts), .val (.ref dcs), .val (.int tm), .val (.int raw), .val (.ref ob), .val (.int uu), .val (.int lo), .val (.int hi), .val (.int ex)] [(.int ex), (.int uu)])
              refine hs.go (fun _ kk_ => XS.icmpNo X35.here hx rfl (hb hby at_417) rfl (teq ((own_law (by rw [hlo]; exact hlo1) (by rw [hhi]; exact hhi1) hm6 HS hrr).trans hex.symm : uu = ex)).2 kk_) ?_
              show G T35 (mkF m 420 #[.val (.long gaps), .second, .val (.int sp), .val (.int wh), .val (.int mode), .val (.int raw), .val (.int s1), .val (.int s2), .val (.ref sts), .val (.ref dcs), .val (.int tm), .val (.int raw), .val (.ref ob), .val (.int uu), .val (.int lo), .val (.int hi), .val (.int ex)] [])
              refine hs.go (fun _ kk_ => XS.iconst X35.here hx rfl (hb hby at_420) kk_) ?_
              show G T35 (mkF m 421 #[.val (.long gaps), .second, .val (.int sp), .val (.int wh), .val (.int mode), .val (.int raw), .val (.int s1), .val (.int s2), .val (.ref sts), .val (.ref dcs), .val (.int tm), .val (.int raw), .val (.ref ob), .val (.int uu), .val (.int lo), .val (.int hi), .val (.int ex)] [(.int (1 : Int32))])
              refine hs.go (fun _ kk_ => XS.goto X35.here hx rfl (pc0 := 421) (pc' := 425) rfl (hb hby at_421) (by decide) (by decide) kk_) ?_
              show G T35 (mkF m 425 #[.val (.long gaps), .second, .val (.int sp), .val (.int wh), .val (.int mode), .val (.int raw), .val (.int s1), .val (.int s2), .val (.ref sts), .val (.ref dcs), .val (.int tm), .val (.int raw), .val (.ref ob), .val (.int uu), .val (.int lo), .val (.int hi), .val (.int ex)] [(.int (1 : Int32))])
              exact rRetN fin X35 hx (by decide) (by decide) hret (by simp) (hb hby at_425) (z' := (1 : Int32)) (by decide) rfl
          refine hs.go (fun _ kk_ => XS.iconst X15.here hx rfl (hb hby at_193) kk_) ?_
          show G T15 (mkF m 194 #[.val (.long gaps), .second, .val (.int sp), .val (.int wh), .val (.int mode), .val (.int raw), .val (.int s1), .val (.int s2), .val (.ref sts), .val (.ref dcs), .unset, .unset, .unset, .unset, .unset, .unset, .unset] [(.int (5 : Int32)), (.int d4), (.int (5 : Int32)), (.ref dcs)])
          refine hs.go (fun _ kk_ => XS.iload X15.here hx rfl (hb hby at_194) rfl  kk_) ?_
          show G T15 (mkF m 196 #[.val (.long gaps), .second, .val (.int sp), .val (.int wh), .val (.int mode), .val (.int raw), .val (.int s1), .val (.int s2), .val (.ref sts), .val (.ref dcs), .unset, .unset, .unset, .unset, .unset, .unset, .unset] [(.int s1), (.int (5 : Int32)), (.int d4), (.int (5 : Int32)), (.ref dcs)])
          by_cases c196 : (5 : Int32) = s1
          · refine hs.go (fun _ kk_ => XS.icmpYes X15.here hx rfl (pc0 := 196) (pc' := 205) rfl (hb hby at_196) rfl (teq c196).1 (by decide) (by decide) kk_) ?_
            show G T15 (mkF m 205 #[.val (.long gaps), .second, .val (.int sp), .val (.int wh), .val (.int mode), .val (.int raw), .val (.int s1), .val (.int s2), .val (.ref sts), .val (.ref dcs), .unset, .unset, .unset, .unset, .unset, .unset, .unset] [(.int d4), (.int (5 : Int32)), (.ref dcs)])
            refine hs.go (fun _ kk_ => XS.iconst X15.here hx rfl (hb hby at_205) kk_) ?_
            show G T15 (mkF m 206 #[.val (.long gaps), .second, .val (.int sp), .val (.int wh), .val (.int mode), .val (.int raw), .val (.int s1), .val (.int s2), .val (.ref sts), .val (.ref dcs), .unset, .unset, .unset, .unset, .unset, .unset, .unset] [(.int (1 : Int32)), (.int d4), (.int (5 : Int32)), (.ref dcs)])
            refine hs.go (fun _ kk_ => XS.goto X15.here hx rfl (pc0 := 206) (pc' := 210) rfl (hb hby at_206) (by decide) (by decide) kk_) ?_
            show G T15 (mkF m 210 #[.val (.long gaps), .second, .val (.int sp), .val (.int wh), .val (.int mode), .val (.int raw), .val (.int s1), .val (.int s2), .val (.ref sts), .val (.ref dcs), .unset, .unset, .unset, .unset, .unset, .unset, .unset] [(.int (1 : Int32)), (.int d4), (.int (5 : Int32)), (.ref dcs)])
            exact J210 _ (Or.inl (⟨c196, rfl⟩))
          · refine hs.go (fun _ kk_ => XS.icmpNo X15.here hx rfl (hb hby at_196) rfl (feq c196).1 kk_) ?_
            show G T15 (mkF m 199 #[.val (.long gaps), .second, .val (.int sp), .val (.int wh), .val (.int mode), .val (.int raw), .val (.int s1), .val (.int s2), .val (.ref sts), .val (.ref dcs), .unset, .unset, .unset, .unset, .unset, .unset, .unset] [(.int d4), (.int (5 : Int32)), (.ref dcs)])
            refine hs.go (fun _ kk_ => XS.iconst X15.here hx rfl (hb hby at_199) kk_) ?_
            show G T15 (mkF m 200 #[.val (.long gaps), .second, .val (.int sp), .val (.int wh), .val (.int mode), .val (.int raw), .val (.int s1), .val (.int s2), .val (.ref sts), .val (.ref dcs), .unset, .unset, .unset, .unset, .unset, .unset, .unset] [(.int (5 : Int32)), (.int d4), (.int (5 : Int32)), (.ref dcs)])
            refine hs.go (fun _ kk_ => XS.iload X15.here hx rfl (hb hby at_200) rfl  kk_) ?_
            show G T15 (mkF m 202 #[.val (.long gaps), .second, .val (.int sp), .val (.int wh), .val (.int mode), .val (.int raw), .val (.int s1), .val (.int s2), .val (.ref sts), .val (.ref dcs), .unset, .unset, .unset, .unset, .unset, .unset, .unset] [(.int s2), (.int (5 : Int32)), (.int d4), (.int (5 : Int32)), (.ref dcs)])
            by_cases c202 : (5 : Int32) = s2
            · refine hs.go (fun _ kk_ => XS.icmpNo X15.here hx rfl (hb hby at_202) rfl (teq c202).2 kk_) ?_
              show G T15 (mkF m 205 #[.val (.long gaps), .second, .val (.int sp), .val (.int wh), .val (.int mode), .val (.int raw), .val (.int s1), .val (.int s2), .val (.ref sts), .val (.ref dcs), .unset, .unset, .unset, .unset, .unset, .unset, .unset] [(.int d4), (.int (5 : Int32)), (.ref dcs)])
              refine hs.go (fun _ kk_ => XS.iconst X15.here hx rfl (hb hby at_205) kk_) ?_
              show G T15 (mkF m 206 #[.val (.long gaps), .second, .val (.int sp), .val (.int wh), .val (.int mode), .val (.int raw), .val (.int s1), .val (.int s2), .val (.ref sts), .val (.ref dcs), .unset, .unset, .unset, .unset, .unset, .unset, .unset] [(.int (1 : Int32)), (.int d4), (.int (5 : Int32)), (.ref dcs)])
              refine hs.go (fun _ kk_ => XS.goto X15.here hx rfl (pc0 := 206) (pc' := 210) rfl (hb hby at_206) (by decide) (by decide) kk_) ?_
              show G T15 (mkF m 210 #[.val (.long gaps), .second, .val (.int sp), .val (.int wh), .val (.int mode), .val (.int raw), .val (.int s1), .val (.int s2), .val (.ref sts), .val (.ref dcs), .unset, .unset, .unset, .unset, .unset, .unset, .unset] [(.int (1 : Int32)), (.int d4), (.int (5 : Int32)), (.ref dcs)])
              exact J210 _ (Or.inr (Or.inl (⟨c196, c202, rfl⟩)))
            · refine hs.go (fun _ kk_ => XS.icmpYes X15.here hx rfl (pc0 := 202) (pc' := 209) rfl (hb hby at_202) rfl (feq c202).2 (by decide) (by decide) kk_) ?_
              show G T15 (mkF m 209 #[.val (.long gaps), .second, .val (.int sp), .val (.int wh), .val (.int mode), .val (.int raw), .val (.int s1), .val (.int s2), .val (.ref sts), .val (.ref dcs), .unset, .unset, .unset, .unset, .unset, .unset, .unset] [(.int d4), (.int (5 : Int32)), (.ref dcs)])
              refine hs.go (fun _ kk_ => XS.iconst X15.here hx rfl (hb hby at_209) kk_) ?_
              show G T15 (mkF m 210 #[.val (.long gaps), .second, .val (.int sp), .val (.int wh), .val (.int mode), .val (.int raw), .val (.int s1), .val (.int s2), .val (.ref sts), .val (.ref dcs), .unset, .unset, .unset, .unset, .unset, .unset, .unset] [(.int (0 : Int32)), (.int d4), (.int (5 : Int32)), (.ref dcs)])
              exact J210 _ (Or.inr (Or.inr (⟨c196, c202, rfl⟩)))
        refine hs.go (fun _ kk_ => XS.iconst X13.here hx rfl (hb hby at_163) kk_) ?_
        show G T13 (mkF m 164 #[.val (.long gaps), .second, .val (.int sp), .val (.int wh), .val (.int mode), .val (.int raw), .val (.int s1), .val (.int s2), .val (.ref sts), .val (.ref dcs), .unset, .unset, .unset, .unset, .unset, .unset, .unset] [(.int (4 : Int32)), (.int d3), (.int (4 : Int32)), (.ref dcs)])
        refine hs.go (fun _ kk_ => XS.iload X13.here hx rfl (hb hby at_164) rfl  kk_) ?_
        show G T13 (mkF m 166 #[.val (.long gaps), .second, .val (.int sp), .val (.int wh), .val (.int mode), .val (.int raw), .val (.int s1), .val (.int s2), .val (.ref sts), .val (.ref dcs), .unset, .unset, .unset, .unset, .unset, .unset, .unset] [(.int s1), (.int (4 : Int32)), (.int d3), (.int (4 : Int32)), (.ref dcs)])
        by_cases c166 : (4 : Int32) = s1
        · refine hs.go (fun _ kk_ => XS.icmpYes X13.here hx rfl (pc0 := 166) (pc' := 175) rfl (hb hby at_166) rfl (teq c166).1 (by decide) (by decide) kk_) ?_
          show G T13 (mkF m 175 #[.val (.long gaps), .second, .val (.int sp), .val (.int wh), .val (.int mode), .val (.int raw), .val (.int s1), .val (.int s2), .val (.ref sts), .val (.ref dcs), .unset, .unset, .unset, .unset, .unset, .unset, .unset] [(.int d3), (.int (4 : Int32)), (.ref dcs)])
          refine hs.go (fun _ kk_ => XS.iconst X13.here hx rfl (hb hby at_175) kk_) ?_
          show G T13 (mkF m 176 #[.val (.long gaps), .second, .val (.int sp), .val (.int wh), .val (.int mode), .val (.int raw), .val (.int s1), .val (.int s2), .val (.ref sts), .val (.ref dcs), .unset, .unset, .unset, .unset, .unset, .unset, .unset] [(.int (1 : Int32)), (.int d3), (.int (4 : Int32)), (.ref dcs)])
          refine hs.go (fun _ kk_ => XS.goto X13.here hx rfl (pc0 := 176) (pc' := 180) rfl (hb hby at_176) (by decide) (by decide) kk_) ?_
          show G T13 (mkF m 180 #[.val (.long gaps), .second, .val (.int sp), .val (.int wh), .val (.int mode), .val (.int raw), .val (.int s1), .val (.int s2), .val (.ref sts), .val (.ref dcs), .unset, .unset, .unset, .unset, .unset, .unset, .unset] [(.int (1 : Int32)), (.int d3), (.int (4 : Int32)), (.ref dcs)])
          exact J180 _ (Or.inl (⟨c166, rfl⟩))
        · refine hs.go (fun _ kk_ => XS.icmpNo X13.here hx rfl (hb hby at_166) rfl (feq c166).1 kk_) ?_
          show G T13 (mkF m 169 #[.val (.long gaps), .second, .val (.int sp), .val (.int wh), .val (.int mode), .val (.int raw), .val (.int s1), .val (.int s2), .val (.ref sts), .val (.ref dcs), .unset, .unset, .unset, .unset, .unset, .unset, .unset] [(.int d3), (.int (4 : Int32)), (.ref dcs)])
          refine hs.go (fun _ kk_ => XS.iconst X13.here hx rfl (hb hby at_169) kk_) ?_
          show G T13 (mkF m 170 #[.val (.long gaps), .second, .val (.int sp), .val (.int wh), .val (.int mode), .val (.int raw), .val (.int s1), .val (.int s2), .val (.ref sts), .val (.ref dcs), .unset, .unset, .unset, .unset, .unset, .unset, .unset] [(.int (4 : Int32)), (.int d3), (.int (4 : Int32)), (.ref dcs)])
          refine hs.go (fun _ kk_ => XS.iload X13.here hx rfl (hb hby at_170) rfl  kk_) ?_
          show G T13 (mkF m 172 #[.val (.long gaps), .second, .val (.int sp), .val (.int wh), .val (.int mode), .val (.int raw), .val (.int s1), .val (.int s2), .val (.ref sts), .val (.ref dcs), .unset, .unset, .unset, .unset, .unset, .unset, .unset] [(.int s2), (.int (4 : Int32)), (.int d3), (.int (4 : Int32)), (.ref dcs)])
          by_cases c172 : (4 : Int32) = s2
          · refine hs.go (fun _ kk_ => XS.icmpNo X13.here hx rfl (hb hby at_172) rfl (teq c172).2 kk_) ?_
            show G T13 (mkF m 175 #[.val (.long gaps), .second, .val (.int sp), .val (.int wh), .val (.int mode), .val (.int raw), .val (.int s1), .val (.int s2), .val (.ref sts), .val (.ref dcs), .unset, .unset, .unset, .unset, .unset, .unset, .unset] [(.int d3), (.int (4 : Int32)), (.ref dcs)])
            refine hs.go (fun _ kk_ => XS.iconst X13.here hx rfl (hb hby at_175) kk_) ?_
            show G T13 (mkF m 176 #[.val (.long gaps), .second, .val (.int sp), .val (.int wh), .val (.int mode), .val (.int raw), .val (.int s1), .val (.int s2), .val (.ref sts), .val (.ref dcs), .unset, .unset, .unset, .unset, .unset, .unset, .unset] [(.int (1 : Int32)), (.int d3), (.int (4 : Int32)), (.ref dcs)])
            refine hs.go (fun _ kk_ => XS.goto X13.here hx rfl (pc0 := 176) (pc' := 180) rfl (hb hby at_176) (by decide) (by decide) kk_) ?_
            show G T13 (mkF m 180 #[.val (.long gaps), .second, .val (.int sp), .val (.int wh), .val (.int mode), .val (.int raw), .val (.int s1), .val (.int s2), .val (.ref sts), .val (.ref dcs), .unset, .unset, .unset, .unset, .unset, .unset, .unset] [(.int (1 : Int32)), (.int d3), (.int (4 : Int32)), (.ref dcs)])
            exact J180 _ (Or.inr (Or.inl (⟨c166, c172, rfl⟩)))
          · refine hs.go (fun _ kk_ => XS.icmpYes X13.here hx rfl (pc0 := 172) (pc' := 179) rfl (hb hby at_172) rfl (feq c172).2 (by decide) (by decide) kk_) ?_
            show G T13 (mkF m 179 #[.val (.long gaps), .second, .val (.int sp), .val (.int wh), .val (.int mode), .val (.int raw), .val (.int s1), .val (.int s2), .val (.ref sts), .val (.ref dcs), .unset, .unset, .unset, .unset, .unset, .unset, .unset] [(.int d3), (.int (4 : Int32)), (.ref dcs)])
            refine hs.go (fun _ kk_ => XS.iconst X13.here hx rfl (hb hby at_179) kk_) ?_
            show G T13 (mkF m 180 #[.val (.long gaps), .second, .val (.int sp), .val (.int wh), .val (.int mode), .val (.int raw), .val (.int s1), .val (.int s2), .val (.ref sts), .val (.ref dcs), .unset, .unset, .unset, .unset, .unset, .unset, .unset] [(.int (0 : Int32)), (.int d3), (.int (4 : Int32)), (.ref dcs)])
            exact J180 _ (Or.inr (Or.inr (⟨c166, c172, rfl⟩)))
      refine hs.go (fun _ kk_ => XS.iconst X11.here hx rfl (hb hby at_133) kk_) ?_
      show G T11 (mkF m 134 #[.val (.long gaps), .second, .val (.int sp), .val (.int wh), .val (.int mode), .val (.int raw), .val (.int s1), .val (.int s2), .val (.ref sts), .val (.ref dcs), .unset, .unset, .unset, .unset, .unset, .unset, .unset] [(.int (3 : Int32)), (.int d2), (.int (3 : Int32)), (.ref dcs)])
      refine hs.go (fun _ kk_ => XS.iload X11.here hx rfl (hb hby at_134) rfl  kk_) ?_
      show G T11 (mkF m 136 #[.val (.long gaps), .second, .val (.int sp), .val (.int wh), .val (.int mode), .val (.int raw), .val (.int s1), .val (.int s2), .val (.ref sts), .val (.ref dcs), .unset, .unset, .unset, .unset, .unset, .unset, .unset] [(.int s1), (.int (3 : Int32)), (.int d2), (.int (3 : Int32)), (.ref dcs)])
      by_cases c136 : (3 : Int32) = s1
      · refine hs.go (fun _ kk_ => XS.icmpYes X11.here hx rfl (pc0 := 136) (pc' := 145) rfl (hb hby at_136) rfl (teq c136).1 (by decide) (by decide) kk_) ?_
        show G T11 (mkF m 145 #[.val (.long gaps), .second, .val (.int sp), .val (.int wh), .val (.int mode), .val (.int raw), .val (.int s1), .val (.int s2), .val (.ref sts), .val (.ref dcs), .unset, .unset, .unset, .unset, .unset, .unset, .unset] [(.int d2), (.int (3 : Int32)), (.ref dcs)])
        refine hs.go (fun _ kk_ => XS.iconst X11.here hx rfl (hb hby at_145) kk_) ?_
        show G T11 (mkF m 146 #[.val (.long gaps), .second, .val (.int sp), .val (.int wh), .val (.int mode), .val (.int raw), .val (.int s1), .val (.int s2), .val (.ref sts), .val (.ref dcs), .unset, .unset, .unset, .unset, .unset, .unset, .unset] [(.int (1 : Int32)), (.int d2), (.int (3 : Int32)), (.ref dcs)])
        refine hs.go (fun _ kk_ => XS.goto X11.here hx rfl (pc0 := 146) (pc' := 150) rfl (hb hby at_146) (by decide) (by decide) kk_) ?_
        show G T11 (mkF m 150 #[.val (.long gaps), .second, .val (.int sp), .val (.int wh), .val (.int mode), .val (.int raw), .val (.int s1), .val (.int s2), .val (.ref sts), .val (.ref dcs), .unset, .unset, .unset, .unset, .unset, .unset, .unset] [(.int (1 : Int32)), (.int d2), (.int (3 : Int32)), (.ref dcs)])
        exact J150 _ (Or.inl (⟨c136, rfl⟩))
      · refine hs.go (fun _ kk_ => XS.icmpNo X11.here hx rfl (hb hby at_136) rfl (feq c136).1 kk_) ?_
        show G T11 (mkF m 139 #[.val (.long gaps), .second, .val (.int sp), .val (.int wh), .val (.int mode), .val (.int raw), .val (.int s1), .val (.int s2), .val (.ref sts), .val (.ref dcs), .unset, .unset, .unset, .unset, .unset, .unset, .unset] [(.int d2), (.int (3 : Int32)), (.ref dcs)])
        refine hs.go (fun _ kk_ => XS.iconst X11.here hx rfl (hb hby at_139) kk_) ?_
        show G T11 (mkF m 140 #[.val (.long gaps), .second, .val (.int sp), .val (.int wh), .val (.int mode), .val (.int raw), .val (.int s1), .val (.int s2), .val (.ref sts), .val (.ref dcs), .unset, .unset, .unset, .unset, .unset, .unset, .unset] [(.int (3 : Int32)), (.int d2), (.int (3 : Int32)), (.ref dcs)])
        refine hs.go (fun _ kk_ => XS.iload X11.here hx rfl (hb hby at_140) rfl  kk_) ?_
        show G T11 (mkF m 142 #[.val (.long gaps), .second, .val (.int sp), .val (.int wh), .val (.int mode), .val (.int raw), .val (.int s1), .val (.int s2), .val (.ref sts), .val (.ref dcs), .unset, .unset, .unset, .unset, .unset, .unset, .unset] [(.int s2), (.int (3 : Int32)), (.int d2), (.int (3 : Int32)), (.ref dcs)])
        by_cases c142 : (3 : Int32) = s2
        · refine hs.go (fun _ kk_ => XS.icmpNo X11.here hx rfl (hb hby at_142) rfl (teq c142).2 kk_) ?_
          show G T11 (mkF m 145 #[.val (.long gaps), .second, .val (.int sp), .val (.int wh), .val (.int mode), .val (.int raw), .val (.int s1), .val (.int s2), .val (.ref sts), .val (.ref dcs), .unset, .unset, .unset, .unset, .unset, .unset, .unset] [(.int d2), (.int (3 : Int32)), (.ref dcs)])
          refine hs.go (fun _ kk_ => XS.iconst X11.here hx rfl (hb hby at_145) kk_) ?_
          show G T11 (mkF m 146 #[.val (.long gaps), .second, .val (.int sp), .val (.int wh), .val (.int mode), .val (.int raw), .val (.int s1), .val (.int s2), .val (.ref sts), .val (.ref dcs), .unset, .unset, .unset, .unset, .unset, .unset, .unset] [(.int (1 : Int32)), (.int d2), (.int (3 : Int32)), (.ref dcs)])
          refine hs.go (fun _ kk_ => XS.goto X11.here hx rfl (pc0 := 146) (pc' := 150) rfl (hb hby at_146) (by decide) (by decide) kk_) ?_
          show G T11 (mkF m 150 #[.val (.long gaps), .second, .val (.int sp), .val (.int wh), .val (.int mode), .val (.int raw), .val (.int s1), .val (.int s2), .val (.ref sts), .val (.ref dcs), .unset, .unset, .unset, .unset, .unset, .unset, .unset] [(.int (1 : Int32)), (.int d2), (.int (3 : Int32)), (.ref dcs)])
          exact J150 _ (Or.inr (Or.inl (⟨c136, c142, rfl⟩)))
        · refine hs.go (fun _ kk_ => XS.icmpYes X11.here hx rfl (pc0 := 142) (pc' := 149) rfl (hb hby at_142) rfl (feq c142).2 (by decide) (by decide) kk_) ?_
          show G T11 (mkF m 149 #[.val (.long gaps), .second, .val (.int sp), .val (.int wh), .val (.int mode), .val (.int raw), .val (.int s1), .val (.int s2), .val (.ref sts), .val (.ref dcs), .unset, .unset, .unset, .unset, .unset, .unset, .unset] [(.int d2), (.int (3 : Int32)), (.ref dcs)])
          refine hs.go (fun _ kk_ => XS.iconst X11.here hx rfl (hb hby at_149) kk_) ?_
          show G T11 (mkF m 150 #[.val (.long gaps), .second, .val (.int sp), .val (.int wh), .val (.int mode), .val (.int raw), .val (.int s1), .val (.int s2), .val (.ref sts), .val (.ref dcs), .unset, .unset, .unset, .unset, .unset, .unset, .unset] [(.int (0 : Int32)), (.int d2), (.int (3 : Int32)), (.ref dcs)])
          exact J150 _ (Or.inr (Or.inr (⟨c136, c142, rfl⟩)))
    refine hs.go (fun _ kk_ => XS.iconst X9.here hx rfl (hb hby at_103) kk_) ?_
    show G T9 (mkF m 104 #[.val (.long gaps), .second, .val (.int sp), .val (.int wh), .val (.int mode), .val (.int raw), .val (.int s1), .val (.int s2), .val (.ref sts), .val (.ref dcs), .unset, .unset, .unset, .unset, .unset, .unset, .unset] [(.int (2 : Int32)), (.int d1), (.int (2 : Int32)), (.ref dcs)])
    refine hs.go (fun _ kk_ => XS.iload X9.here hx rfl (hb hby at_104) rfl  kk_) ?_
    show G T9 (mkF m 106 #[.val (.long gaps), .second, .val (.int sp), .val (.int wh), .val (.int mode), .val (.int raw), .val (.int s1), .val (.int s2), .val (.ref sts), .val (.ref dcs), .unset, .unset, .unset, .unset, .unset, .unset, .unset] [(.int s1), (.int (2 : Int32)), (.int d1), (.int (2 : Int32)), (.ref dcs)])
    by_cases c106 : (2 : Int32) = s1
    · refine hs.go (fun _ kk_ => XS.icmpYes X9.here hx rfl (pc0 := 106) (pc' := 115) rfl (hb hby at_106) rfl (teq c106).1 (by decide) (by decide) kk_) ?_
      show G T9 (mkF m 115 #[.val (.long gaps), .second, .val (.int sp), .val (.int wh), .val (.int mode), .val (.int raw), .val (.int s1), .val (.int s2), .val (.ref sts), .val (.ref dcs), .unset, .unset, .unset, .unset, .unset, .unset, .unset] [(.int d1), (.int (2 : Int32)), (.ref dcs)])
      refine hs.go (fun _ kk_ => XS.iconst X9.here hx rfl (hb hby at_115) kk_) ?_
      show G T9 (mkF m 116 #[.val (.long gaps), .second, .val (.int sp), .val (.int wh), .val (.int mode), .val (.int raw), .val (.int s1), .val (.int s2), .val (.ref sts), .val (.ref dcs), .unset, .unset, .unset, .unset, .unset, .unset, .unset] [(.int (1 : Int32)), (.int d1), (.int (2 : Int32)), (.ref dcs)])
      refine hs.go (fun _ kk_ => XS.goto X9.here hx rfl (pc0 := 116) (pc' := 120) rfl (hb hby at_116) (by decide) (by decide) kk_) ?_
      show G T9 (mkF m 120 #[.val (.long gaps), .second, .val (.int sp), .val (.int wh), .val (.int mode), .val (.int raw), .val (.int s1), .val (.int s2), .val (.ref sts), .val (.ref dcs), .unset, .unset, .unset, .unset, .unset, .unset, .unset] [(.int (1 : Int32)), (.int d1), (.int (2 : Int32)), (.ref dcs)])
      exact J120 _ (Or.inl (⟨c106, rfl⟩))
    · refine hs.go (fun _ kk_ => XS.icmpNo X9.here hx rfl (hb hby at_106) rfl (feq c106).1 kk_) ?_
      show G T9 (mkF m 109 #[.val (.long gaps), .second, .val (.int sp), .val (.int wh), .val (.int mode), .val (.int raw), .val (.int s1), .val (.int s2), .val (.ref sts), .val (.ref dcs), .unset, .unset, .unset, .unset, .unset, .unset, .unset] [(.int d1), (.int (2 : Int32)), (.ref dcs)])
      refine hs.go (fun _ kk_ => XS.iconst X9.here hx rfl (hb hby at_109) kk_) ?_
      show G T9 (mkF m 110 #[.val (.long gaps), .second, .val (.int sp), .val (.int wh), .val (.int mode), .val (.int raw), .val (.int s1), .val (.int s2), .val (.ref sts), .val (.ref dcs), .unset, .unset, .unset, .unset, .unset, .unset, .unset] [(.int (2 : Int32)), (.int d1), (.int (2 : Int32)), (.ref dcs)])
      refine hs.go (fun _ kk_ => XS.iload X9.here hx rfl (hb hby at_110) rfl  kk_) ?_
      show G T9 (mkF m 112 #[.val (.long gaps), .second, .val (.int sp), .val (.int wh), .val (.int mode), .val (.int raw), .val (.int s1), .val (.int s2), .val (.ref sts), .val (.ref dcs), .unset, .unset, .unset, .unset, .unset, .unset, .unset] [(.int s2), (.int (2 : Int32)), (.int d1), (.int (2 : Int32)), (.ref dcs)])
      by_cases c112 : (2 : Int32) = s2
      · refine hs.go (fun _ kk_ => XS.icmpNo X9.here hx rfl (hb hby at_112) rfl (teq c112).2 kk_) ?_
        show G T9 (mkF m 115 #[.val (.long gaps), .second, .val (.int sp), .val (.int wh), .val (.int mode), .val (.int raw), .val (.int s1), .val (.int s2), .val (.ref sts), .val (.ref dcs), .unset, .unset, .unset, .unset, .unset, .unset, .unset] [(.int d1), (.int (2 : Int32)), (.ref dcs)])
        refine hs.go (fun _ kk_ => XS.iconst X9.here hx rfl (hb hby at_115) kk_) ?_
        show G T9 (mkF m 116 #[.val (.long gaps), .second, .val (.int sp), .val (.int wh), .val (.int mode), .val (.int raw), .val (.int s1), .val (.int s2), .val (.ref sts), .val (.ref dcs), .unset, .unset, .unset, .unset, .unset, .unset, .unset] [(.int (1 : Int32)), (.int d1), (.int (2 : Int32)), (.ref dcs)])
        refine hs.go (fun _ kk_ => XS.goto X9.here hx rfl (pc0 := 116) (pc' := 120) rfl (hb hby at_116) (by decide) (by decide) kk_) ?_
        show G T9 (mkF m 120 #[.val (.long gaps), .second, .val (.int sp), .val (.int wh), .val (.int mode), .val (.int raw), .val (.int s1), .val (.int s2), .val (.ref sts), .val (.ref dcs), .unset, .unset, .unset, .unset, .unset, .unset, .unset] [(.int (1 : Int32)), (.int d1), (.int (2 : Int32)), (.ref dcs)])
        exact J120 _ (Or.inr (Or.inl (⟨c106, c112, rfl⟩)))
      · refine hs.go (fun _ kk_ => XS.icmpYes X9.here hx rfl (pc0 := 112) (pc' := 119) rfl (hb hby at_112) rfl (feq c112).2 (by decide) (by decide) kk_) ?_
        show G T9 (mkF m 119 #[.val (.long gaps), .second, .val (.int sp), .val (.int wh), .val (.int mode), .val (.int raw), .val (.int s1), .val (.int s2), .val (.ref sts), .val (.ref dcs), .unset, .unset, .unset, .unset, .unset, .unset, .unset] [(.int d1), (.int (2 : Int32)), (.ref dcs)])
        refine hs.go (fun _ kk_ => XS.iconst X9.here hx rfl (hb hby at_119) kk_) ?_
        show G T9 (mkF m 120 #[.val (.long gaps), .second, .val (.int sp), .val (.int wh), .val (.int mode), .val (.int raw), .val (.int s1), .val (.int s2), .val (.ref sts), .val (.ref dcs), .unset, .unset, .unset, .unset, .unset, .unset, .unset] [(.int (0 : Int32)), (.int d1), (.int (2 : Int32)), (.ref dcs)])
        exact J120 _ (Or.inr (Or.inr (⟨c106, c112, rfl⟩)))
  refine hs.go (fun _ kk_ => XS.iconst X7.here hx rfl (hb hby at_73) kk_) ?_
  show G T7 (mkF m 74 #[.val (.long gaps), .second, .val (.int sp), .val (.int wh), .val (.int mode), .val (.int raw), .val (.int s1), .val (.int s2), .val (.ref sts), .val (.ref dcs), .unset, .unset, .unset, .unset, .unset, .unset, .unset] [(.int (1 : Int32)), (.int d0), (.int (1 : Int32)), (.ref dcs)])
  refine hs.go (fun _ kk_ => XS.iload X7.here hx rfl (hb hby at_74) rfl  kk_) ?_
  show G T7 (mkF m 76 #[.val (.long gaps), .second, .val (.int sp), .val (.int wh), .val (.int mode), .val (.int raw), .val (.int s1), .val (.int s2), .val (.ref sts), .val (.ref dcs), .unset, .unset, .unset, .unset, .unset, .unset, .unset] [(.int s1), (.int (1 : Int32)), (.int d0), (.int (1 : Int32)), (.ref dcs)])
  by_cases c76 : (1 : Int32) = s1
  · refine hs.go (fun _ kk_ => XS.icmpYes X7.here hx rfl (pc0 := 76) (pc' := 85) rfl (hb hby at_76) rfl (teq c76).1 (by decide) (by decide) kk_) ?_
    show G T7 (mkF m 85 #[.val (.long gaps), .second, .val (.int sp), .val (.int wh), .val (.int mode), .val (.int raw), .val (.int s1), .val (.int s2), .val (.ref sts), .val (.ref dcs), .unset, .unset, .unset, .unset, .unset, .unset, .unset] [(.int d0), (.int (1 : Int32)), (.ref dcs)])
    refine hs.go (fun _ kk_ => XS.iconst X7.here hx rfl (hb hby at_85) kk_) ?_
    show G T7 (mkF m 86 #[.val (.long gaps), .second, .val (.int sp), .val (.int wh), .val (.int mode), .val (.int raw), .val (.int s1), .val (.int s2), .val (.ref sts), .val (.ref dcs), .unset, .unset, .unset, .unset, .unset, .unset, .unset] [(.int (1 : Int32)), (.int d0), (.int (1 : Int32)), (.ref dcs)])
    refine hs.go (fun _ kk_ => XS.goto X7.here hx rfl (pc0 := 86) (pc' := 90) rfl (hb hby at_86) (by decide) (by decide) kk_) ?_
    show G T7 (mkF m 90 #[.val (.long gaps), .second, .val (.int sp), .val (.int wh), .val (.int mode), .val (.int raw), .val (.int s1), .val (.int s2), .val (.ref sts), .val (.ref dcs), .unset, .unset, .unset, .unset, .unset, .unset, .unset] [(.int (1 : Int32)), (.int d0), (.int (1 : Int32)), (.ref dcs)])
    exact J90 _ (Or.inl (⟨c76, rfl⟩))
  · refine hs.go (fun _ kk_ => XS.icmpNo X7.here hx rfl (hb hby at_76) rfl (feq c76).1 kk_) ?_
    show G T7 (mkF m 79 #[.val (.long gaps), .second, .val (.int sp), .val (.int wh), .val (.int mode), .val (.int raw), .val (.int s1), .val (.int s2), .val (.ref sts), .val (.ref dcs), .unset, .unset, .unset, .unset, .unset, .unset, .unset] [(.int d0), (.int (1 : Int32)), (.ref dcs)])
    refine hs.go (fun _ kk_ => XS.iconst X7.here hx rfl (hb hby at_79) kk_) ?_
    show G T7 (mkF m 80 #[.val (.long gaps), .second, .val (.int sp), .val (.int wh), .val (.int mode), .val (.int raw), .val (.int s1), .val (.int s2), .val (.ref sts), .val (.ref dcs), .unset, .unset, .unset, .unset, .unset, .unset, .unset] [(.int (1 : Int32)), (.int d0), (.int (1 : Int32)), (.ref dcs)])
    refine hs.go (fun _ kk_ => XS.iload X7.here hx rfl (hb hby at_80) rfl  kk_) ?_
    show G T7 (mkF m 82 #[.val (.long gaps), .second, .val (.int sp), .val (.int wh), .val (.int mode), .val (.int raw), .val (.int s1), .val (.int s2), .val (.ref sts), .val (.ref dcs), .unset, .unset, .unset, .unset, .unset, .unset, .unset] [(.int s2), (.int (1 : Int32)), (.int d0), (.int (1 : Int32)), (.ref dcs)])
    by_cases c82 : (1 : Int32) = s2
    · refine hs.go (fun _ kk_ => XS.icmpNo X7.here hx rfl (hb hby at_82) rfl (teq c82).2 kk_) ?_
      show G T7 (mkF m 85 #[.val (.long gaps), .second, .val (.int sp), .val (.int wh), .val (.int mode), .val (.int raw), .val (.int s1), .val (.int s2), .val (.ref sts), .val (.ref dcs), .unset, .unset, .unset, .unset, .unset, .unset, .unset] [(.int d0), (.int (1 : Int32)), (.ref dcs)])
      refine hs.go (fun _ kk_ => XS.iconst X7.here hx rfl (hb hby at_85) kk_) ?_
      show G T7 (mkF m 86 #[.val (.long gaps), .second, .val (.int sp), .val (.int wh), .val (.int mode), .val (.int raw), .val (.int s1), .val (.int s2), .val (.ref sts), .val (.ref dcs), .unset, .unset, .unset, .unset, .unset, .unset, .unset] [(.int (1 : Int32)), (.int d0), (.int (1 : Int32)), (.ref dcs)])
      refine hs.go (fun _ kk_ => XS.goto X7.here hx rfl (pc0 := 86) (pc' := 90) rfl (hb hby at_86) (by decide) (by decide) kk_) ?_
      show G T7 (mkF m 90 #[.val (.long gaps), .second, .val (.int sp), .val (.int wh), .val (.int mode), .val (.int raw), .val (.int s1), .val (.int s2), .val (.ref sts), .val (.ref dcs), .unset, .unset, .unset, .unset, .unset, .unset, .unset] [(.int (1 : Int32)), (.int d0), (.int (1 : Int32)), (.ref dcs)])
      exact J90 _ (Or.inr (Or.inl (⟨c76, c82, rfl⟩)))
    · refine hs.go (fun _ kk_ => XS.icmpYes X7.here hx rfl (pc0 := 82) (pc' := 89) rfl (hb hby at_82) rfl (feq c82).2 (by decide) (by decide) kk_) ?_
      show G T7 (mkF m 89 #[.val (.long gaps), .second, .val (.int sp), .val (.int wh), .val (.int mode), .val (.int raw), .val (.int s1), .val (.int s2), .val (.ref sts), .val (.ref dcs), .unset, .unset, .unset, .unset, .unset, .unset, .unset] [(.int d0), (.int (1 : Int32)), (.ref dcs)])
      refine hs.go (fun _ kk_ => XS.iconst X7.here hx rfl (hb hby at_89) kk_) ?_
      show G T7 (mkF m 90 #[.val (.long gaps), .second, .val (.int sp), .val (.int wh), .val (.int mode), .val (.int raw), .val (.int s1), .val (.int s2), .val (.ref sts), .val (.ref dcs), .unset, .unset, .unset, .unset, .unset, .unset, .unset] [(.int (0 : Int32)), (.int d0), (.int (1 : Int32)), (.ref dcs)])
      exact J90 _ (Or.inr (Or.inr (⟨c76, c82, rfl⟩)))
set_option maxRecDepth 65536 in
set_option maxHeartbeats 40000000 in
theorem comes_1 {Post : Tables → Env → Array Value → State → Outcome → State → Prop} (hpost : ∀ tb e args s v u, (limb_1_1.after args s (.returned v) u = true ∧ limb_1_2.after args s (.returned v) u = true ∧ True) → FrameEnd s (.returned v) u (Jvm.fieldLocs frame_1_writes args s ++ Jvm.arrayLocs frame_1_arrays args s ++ Jvm.staticLocs frame_1_statics s) 16 128 → Post tb e args s (.returned v) u) :
    ArmFor flags0 classFile x code maxLocals ret World_1 tables_1 room_1 Calls_1 rest_1 Pre_1 Post := by
  intro l hfl _ _ p e ha hc hk s m args below hf hA hF happ hP
  obtain ⟨hcalls, hrest, hpre⟩ := hP
  obtain ⟨-, -, -, hnamed, -, -, -, hat⟩ := (Spec.applies_iff hf).mp happ
  obtain ⟨hg, hn⟩ := and_e (Cond.before_iff.mp (show (Jvm.Cond.and given_1 narrow_1).before args s = true from hpre))
  obtain ⟨hcnt, hg0⟩ := and_e hg
  obtain ⟨t0, hg1⟩ := and_e hg0
  obtain ⟨t1, hg2⟩ := and_e hg1
  obtain ⟨t2, hg3⟩ := and_e hg2
  obtain ⟨t3, hg4⟩ := and_e hg3
  have t4 := hg4
  obtain ⟨w0, w1, w2, w3, w4, rfl⟩ : ∃ w0 w1 w2 w3 w4 : Value, args = #[w0, w1, w2, w3, w4] := by
    have hs : args.size = 5 := by simpa [Cond.value, given_1] using hcnt
    obtain ⟨L⟩ := args
    match L, hs with
    | [w0, w1, w2, w3, w4], _ => exact ⟨w0, w1, w2, w3, w4, rfl⟩
  have hw := fun d (hd : d ∈ tables_1) => atoms_spec (ws := Jvm.Cond.code x code maxLocals ret :: tables_1) hat d (List.mem_cons_of_mem _ hd)
  have hfit : Fit s := fun {y c} hc i hi => by
    obtain ⟨ha, rfl⟩ := Array.getElem?_eq_some_iff.mp hc
    have q := List.all_eq_true.mp ((Array.all_eq_true_iff_forall_mem.mp hF) _ (Array.getElem_mem ha)) i (List.mem_range.mpr hi)
    simpa [Array.getElem?_eq_getElem hi] using q
  obtain ⟨i0, ei0⟩ := isL_v t0
  obtain rfl : w0 = (.long i0) := Option.some.inj ei0
  obtain ⟨i1, ei1⟩ := is_v t1
  obtain rfl : w1 = (.int i1) := Option.some.inj ei1
  obtain ⟨i2, ei2⟩ := is_v t2
  obtain rfl : w2 = (.int i2) := Option.some.inj ei2
  obtain ⟨i3, ei3⟩ := is_v t3
  obtain rfl : w3 = (.int i3) := Option.some.inj ei3
  obtain ⟨i4, ei4⟩ := is_v t4
  obtain rfl : w4 = (.int i4) := Option.some.inj ei4
  obtain ⟨n, o, h1, h2, h3, _, L, rfl, ⟨rfl, N⟩, hq⟩ := rm0 l s _ hw tables_1 i0 i1 i2 i3 i4  s.heap s.heap.size (Nat.le_refl _)  p e ha hc hk s m _ below hf ((Spec.applies_iff_loose hf).mp happ).1 ⟨rfl, State.Warmed39.refl s, rfl⟩ trivial
  refine ⟨n, _, h1, h2, h3, hpost _ _ _ _ _ _ ⟨Cond.after_iff.mpr rfl, Cond.after_iff.mpr (eq_i res_at (Term.int_eval (1)) rfl), trivial⟩ ⟨hq.1, hq.2.1, (hq.2.2.sift fun y hy => Or.inr (N y hy)).mono (by decide) (by decide)⟩⟩
theorem main_1_1 : Claimed_1_1 := comes_1 fun _ _ _ _ _ _ h hF => ⟨h.1, hF⟩
theorem main_1_2 : Claimed_1_2 := comes_1 fun _ _ _ _ _ _ h hF => ⟨h.2.1, hF⟩
end Jvm.Pilot.@@N@@
namespace Jvm.Pilot.@@N@@
open Jvm Jvm.ClassFile Sem Op Lib Jvm.Free Jvm.Stand Jvm.Pilot.@@N@@.Jvm.D
/-! MADE BY PROGRAM (witnessworld.py) out of the Statement's table words and the real class files: 10 classes; the members and pool entries that the words name. The judged class is class 1, her method 1. -/
namespace start1
open Jvm.ClassFile
def u (s : String) : CpInfo := .utf8 (stringToUtf16 s)
/-- a pool by its gaps: so many unusable entries, then the entry; so many at the end -/
def gap : Nat → List CpInfo → List CpInfo
  | 0, r => r
  | n + 1, r => .unusable :: gap n r
def poolList (es : List (Nat × CpInfo)) (last : Nat) : List CpInfo := es.foldr (fun e r => gap e.1 (e.2 :: r)) (gap last [])
def pool (es : List (Nat × CpInfo)) (last : Nat) : Array CpInfo := ⟨poolList es last⟩
def fileOf (pool : Array CpInfo) (this : Nat) (attrs : Array Attribute := #[]) (ms : Array MethodInfo := #[]) (fl : Nat := 33) (sup : Nat := 0) (ifs : Array Nat := #[]) (fds : Array FieldInfo := #[]) : ClassFile where
  minorVersion := 0
  majorVersion := 65
  constantPool := pool
  accessFlags := fl
  thisClass := this
  superClass := sup
  interfaces := ifs
  fields := fds
  methods := ms
  attributes := attrs
def plain (name : String) (sup : Option ClassId) : Class where
  name := name
  kind := .ordinary
  loader := none
  accessFlags := 33
  super := sup
  interfaces := #[]
  cf := none
  fields := #[]
  methods := #[]
  instanceTypes := #[]
  staticTypes := #[]
  resolved := #[]
  callSites := []
  init := .initialized
  statics := none
  mirror := none

def pool0 : Array CpInfo := pool [(5, u "<init>"), (0, u "()V"), (1, .class_ 10), (1, u "java/lang/Object")] 113

def k0c0 : Code := { maxStack := 0, maxLocals := 1, code := object_method_1_code, exceptionTable := #[], attributes := #[] }
def k0m0 : Method := { name := "<init>", desc := "()V", sig := { parameters := [], returnType := none }, accessFlags := 1, code := some k0c0 }
/-- java/lang/Object -/
def k0 : Class := { plain "java/lang/Object" none with
  accessFlags := 33
  interfaces := #[]
  cf := some (fileOf pool0 8 #[] #[{ accessFlags := 1, nameIndex := 5, descriptorIndex := 6, attributes := #[] }] 33 0 #[] #[])
  fields := #[]
  methods := #[k0m0]
  instanceTypes := #[]
  staticTypes := #[]
  resolved := Array.replicate 124 none
  statics := none }

def pool1 : Array CpInfo := pool [(2, .class_ 4), (1, u "java/lang/Object"), (0, u "<init>"), (0, u "()V"), (0, .long 7), (1, .methodref 10 11), (0, .class_ 12), (0, .nameAndType 13 14), (0, u "com/example/vector_space_ranker/vectorspaceranker/IndexPostingPositionPinLaw"), (0, u "next"), (0, u "(IZJI)I"), (0, .integer 2147483647), (0, .class_ 17), (0, u "com/example/vector_space_ranker/vectorspaceranker/Index"), (0, .methodref 16 19), (0, .nameAndType 5 20), (0, u "(Lcom/example/vector_space_ranker/vectorspaceranker/Analysis;[Ljava/lang/String;[I[Ljava/lang/String;[I[I[IJ)V"), (0, .methodref 16 22), (0, .nameAndType 23 24), (0, u "postingPosition"), (0, u "(II)I"), (0, .methodref 10 26), (0, .nameAndType 27 28), (0, u "hit"), (0, u "(IIII[II)I"), (2, u "law"), (0, u "(JIIII)Z")] 5

def k1m0 : Method := { name := "<init>", desc := "()V", sig := { parameters := [], returnType := none }, accessFlags := 1, code := none }
def k1c1 : Code := { maxStack := 11, maxLocals := 17, code := code, exceptionTable := #[], attributes := #[] }
def k1m1 : Method := { name := "law", desc := "(JIIII)Z", sig := { parameters := [.long, .int, .int, .int, .int], returnType := some .boolean }, accessFlags := 9, code := some k1c1 }
def k1c2 : Code := { maxStack := 4, maxLocals := 6, code := method_3_code, exceptionTable := #[], attributes := #[] }
def k1m2 : Method := { name := "next", desc := "(IZJI)I", sig := { parameters := [.int, .boolean, .long, .int], returnType := some .int }, accessFlags := 10, code := some k1c2 }
def k1c3 : Code := { maxStack := 2, maxLocals := 6, code := method_4_code, exceptionTable := #[], attributes := #[] }
def k1m3 : Method := { name := "hit", desc := "(IIII[II)I", sig := { parameters := [.int, .int, .int, .int, (.array .int), .int], returnType := some .int }, accessFlags := 10, code := some k1c3 }
/-- com/example/vector_space_ranker/vectorspaceranker/IndexPostingPositionPinLaw -/
def k1 : Class := { plain "com/example/vector_space_ranker/vectorspaceranker/IndexPostingPositionPinLaw" (some 0) with
  accessFlags := 49
  interfaces := #[]
  cf := some (fileOf pool1 10 #[] #[{ accessFlags := 1, nameIndex := 5, descriptorIndex := 6, attributes := #[] }, { accessFlags := 9, nameIndex := 31, descriptorIndex := 32, attributes := #[] }, { accessFlags := 10, nameIndex := 13, descriptorIndex := 14, attributes := #[] }, { accessFlags := 10, nameIndex := 27, descriptorIndex := 28, attributes := #[] }] 49 2 #[] #[])
  fields := #[]
  methods := #[k1m0, k1m1, k1m2, k1m3]
  instanceTypes := #[]
  staticTypes := #[]
  resolved := Array.replicate 38 none
  statics := none }

def pool2 : Array CpInfo := pool [(3, .methodref 4 5), (0, .class_ 6), (0, .nameAndType 7 8), (0, u "java/lang/Object"), (0, u "<init>"), (0, u "()V"), (0, .fieldref 10 11), (0, .class_ 12), (0, .nameAndType 13 14), (0, u "com/example/vector_space_ranker/vectorspaceranker/Index"), (0, u "analysis"), (0, u "Lcom/example/vector_space_ranker/vectorspaceranker/Analysis;"), (0, .fieldref 10 16), (0, .nameAndType 17 18), (0, u "docnos"), (0, u "[Ljava/lang/String;"), (0, .fieldref 10 20), (0, .nameAndType 21 22), (0, u "characterLengths"), (0, u "[I"), (0, .fieldref 10 24), (0, .nameAndType 25 18), (0, u "terms"), (0, .fieldref 10 27), (0, .nameAndType 28 22), (0, u "postingStarts"), (0, .fieldref 10 30), (0, .nameAndType 31 22), (0, u "postingDocuments"), (0, .fieldref 10 33), (0, .nameAndType 34 22), (0, u "postingFrequencies"), (0, .fieldref 10 36), (0, .nameAndType 37 38), (0, u "tokenCount"), (0, u "J"), (25, .class_ 66), (1, u "java/util/Arrays"), (0, u "binarySearch"), (1, .methodref 10 70), (0, .nameAndType 71 72), (0, u "postingsStart"), (0, u "(I)I"), (0, .methodref 10 74), (0, .nameAndType 75 72), (0, u "postingsEnd"), (0, .methodref 64 77), (0, .nameAndType 67 78), (0, u "([IIII)I"), (0, u "MAX_POSTINGS"), (0, u "I"), (2, u "(Lcom/example/vector_space_ranker/vectorspaceranker/Analysis;[Ljava/lang/String;[I[Ljava/lang/String;[I[I[IJ)V"), (21, u "postingPosition"), (0, u "(II)I")] 5

def k2c0 : Code := { maxStack := 3, maxLocals := 10, code := prog_14_method_1_code, exceptionTable := #[], attributes := #[] }
def k2m0 : Method := { name := "<init>", desc := "(Lcom/example/vector_space_ranker/vectorspaceranker/Analysis;[Ljava/lang/String;[I[Ljava/lang/String;[I[I[IJ)V", sig := { parameters := [(.object "com/example/vector_space_ranker/vectorspaceranker/Analysis"), (.array (.object "java/lang/String")), (.array .int), (.array (.object "java/lang/String")), (.array .int), (.array .int), (.array .int), .long], returnType := none }, accessFlags := 0, code := some k2c0 }
def k2c1 : Code := { maxStack := 4, maxLocals := 4, code := prog_14_method_15_code, exceptionTable := #[], attributes := #[] }
def k2m1 : Method := { name := "postingPosition", desc := "(II)I", sig := { parameters := [.int, .int], returnType := some .int }, accessFlags := 0, code := some k2c1 }
def k2c2 : Code := { maxStack := 2, maxLocals := 2, code := prog_14_method_16_code, exceptionTable := #[], attributes := #[] }
def k2m2 : Method := { name := "postingsStart", desc := "(I)I", sig := { parameters := [.int], returnType := some .int }, accessFlags := 0, code := some k2c2 }
def k2c3 : Code := { maxStack := 3, maxLocals := 2, code := prog_14_method_17_code, exceptionTable := #[], attributes := #[] }
def k2m3 : Method := { name := "postingsEnd", desc := "(I)I", sig := { parameters := [.int], returnType := some .int }, accessFlags := 0, code := some k2c3 }
/-- com/example/vector_space_ranker/vectorspaceranker/Index -/
def k2 : Class := { plain "com/example/vector_space_ranker/vectorspaceranker/Index" (some 0) with
  accessFlags := 49
  interfaces := #[]
  cf := some (fileOf pool2 10 #[] #[{ accessFlags := 0, nameIndex := 7, descriptorIndex := 83, attributes := #[] }, { accessFlags := 0, nameIndex := 105, descriptorIndex := 106, attributes := #[] }, { accessFlags := 0, nameIndex := 71, descriptorIndex := 72, attributes := #[] }, { accessFlags := 0, nameIndex := 75, descriptorIndex := 72, attributes := #[] }] 49 4 #[] #[{ accessFlags := 24, nameIndex := 79, descriptorIndex := 80, attributes := #[] }, { accessFlags := 18, nameIndex := 13, descriptorIndex := 14, attributes := #[] }, { accessFlags := 18, nameIndex := 17, descriptorIndex := 18, attributes := #[] }, { accessFlags := 18, nameIndex := 21, descriptorIndex := 22, attributes := #[] }, { accessFlags := 18, nameIndex := 25, descriptorIndex := 18, attributes := #[] }, { accessFlags := 18, nameIndex := 28, descriptorIndex := 22, attributes := #[] }, { accessFlags := 18, nameIndex := 31, descriptorIndex := 22, attributes := #[] }, { accessFlags := 18, nameIndex := 34, descriptorIndex := 22, attributes := #[] }, { accessFlags := 18, nameIndex := 37, descriptorIndex := 38, attributes := #[] }])
  fields := #[{ name := "MAX_POSTINGS", type := .int, accessFlags := 24, slot := 0, constantValue := 0 }, { name := "analysis", type := (.object "com/example/vector_space_ranker/vectorspaceranker/Analysis"), accessFlags := 18, slot := 0, constantValue := 0 }, { name := "docnos", type := (.array (.object "java/lang/String")), accessFlags := 18, slot := 1, constantValue := 0 }, { name := "characterLengths", type := (.array .int), accessFlags := 18, slot := 2, constantValue := 0 }, { name := "terms", type := (.array (.object "java/lang/String")), accessFlags := 18, slot := 3, constantValue := 0 }, { name := "postingStarts", type := (.array .int), accessFlags := 18, slot := 4, constantValue := 0 }, { name := "postingDocuments", type := (.array .int), accessFlags := 18, slot := 5, constantValue := 0 }, { name := "postingFrequencies", type := (.array .int), accessFlags := 18, slot := 6, constantValue := 0 }, { name := "tokenCount", type := .long, accessFlags := 18, slot := 7, constantValue := 0 }]
  methods := #[k2m0, k2m1, k2m2, k2m3]
  instanceTypes := #[(.object "com/example/vector_space_ranker/vectorspaceranker/Analysis"), (.array (.object "java/lang/String")), (.array .int), (.array (.object "java/lang/String")), (.array .int), (.array .int), (.array .int), .long]
  staticTypes := #[.int]
  resolved := Array.replicate 112 none
  statics := none }

def pool3 : Array CpInfo := pool [(2, .class_ 4), (1, u "java/lang/Object"), (0, u "<init>"), (0, u "()V"), (6, .methodref 14 15), (0, .class_ 16), (0, .nameAndType 17 18), (0, u "java/util/Arrays"), (0, u "rangeCheck"), (0, u "(III)V"), (55, .class_ 76), (1, u "java/util/Arrays$NaturalOrder"), (36, .class_ 115), (1, u "java/util/Arrays$LegacyMergeSort"), (1, u "Z"), (89, u "binarySearch0"), (1, .methodref 14 210), (0, .nameAndType 207 211), (0, u "([IIII)I"), (163, .class_ 376), (0, u "java/util/Arrays$ArrayList"), (68, u "$assertionsDisabled"), (269, u "MIN_ARRAY_SORT_GRAN"), (0, u "I"), (2, u "INSERTIONSORT_THRESHOLD"), (74, u "binarySearch"), (180, .class_ 976), (0, u "java/util/Arrays$ArrayItr")] 52

def k3m0 : Method := { name := "<init>", desc := "()V", sig := { parameters := [], returnType := none }, accessFlags := 2, code := none }
def k3c1 : Code := { maxStack := 4, maxLocals := 3, code := jdk_65_method_30_code, exceptionTable := #[], attributes := #[] }
def k3m1 : Method := { name := "rangeCheck", desc := "(III)V", sig := { parameters := [.int, .int, .int], returnType := none }, accessFlags := 8, code := some k3c1 }
def k3c2 : Code := { maxStack := 4, maxLocals := 4, code := jdk_65_method_58_code, exceptionTable := #[], attributes := #[] }
def k3m2 : Method := { name := "binarySearch", desc := "([IIII)I", sig := { parameters := [(.array .int), .int, .int, .int], returnType := some .int }, accessFlags := 9, code := some k3c2 }
def k3c3 : Code := { maxStack := 2, maxLocals := 8, code := jdk_65_method_59_code, exceptionTable := #[], attributes := #[] }
def k3m3 : Method := { name := "binarySearch0", desc := "([IIII)I", sig := { parameters := [(.array .int), .int, .int, .int], returnType := some .int }, accessFlags := 10, code := some k3c3 }
/-- java/util/Arrays -/
def k3 : Class := { plain "java/util/Arrays" (some 0) with
  accessFlags := 49
  interfaces := #[]
  cf := some (fileOf pool3 14 #[.nestMembers #[975, 375, 113, 74]] #[{ accessFlags := 2, nameIndex := 5, descriptorIndex := 6, attributes := #[] }, { accessFlags := 8, nameIndex := 17, descriptorIndex := 18, attributes := #[] }, { accessFlags := 9, nameIndex := 794, descriptorIndex := 211, attributes := #[] }, { accessFlags := 10, nameIndex := 207, descriptorIndex := 211, attributes := #[] }] 49 2 #[] #[{ accessFlags := 26, nameIndex := 715, descriptorIndex := 716, attributes := #[] }, { accessFlags := 26, nameIndex := 719, descriptorIndex := 716, attributes := #[] }, { accessFlags := 4120, nameIndex := 445, descriptorIndex := 117, attributes := #[] }])
  fields := #[{ name := "MIN_ARRAY_SORT_GRAN", type := .int, accessFlags := 26, slot := 0, constantValue := 0 }, { name := "INSERTIONSORT_THRESHOLD", type := .int, accessFlags := 26, slot := 1, constantValue := 0 }, { name := "$assertionsDisabled", type := .boolean, accessFlags := 4120, slot := 2, constantValue := 0 }]
  methods := #[k3m0, k3m1, k3m2, k3m3]
  instanceTypes := #[]
  staticTypes := #[.int, .int, .boolean]
  resolved := Array.replicate 1029 none
  statics := none }

def pool4 : Array CpInfo := pool [(1, u "java/lang/Cloneable"), (0, .class_ 1), (0, u "java/lang/Object"), (0, .class_ 3)] 3

/-- java/lang/Cloneable -/
def k4 : Class := { plain "java/lang/Cloneable" (some 0) with
  accessFlags := 1537
  interfaces := #[]
  cf := some (fileOf pool4 2 #[] #[] 1537 4 #[] #[])
  fields := #[]
  methods := #[]
  instanceTypes := #[]
  staticTypes := #[]
  resolved := Array.replicate 8 none
  statics := none }

def pool5 : Array CpInfo := pool [(1, u "java/io/Serializable"), (0, .class_ 1), (0, u "java/lang/Object"), (0, .class_ 3)] 3

/-- java/io/Serializable -/
def k5 : Class := { plain "java/io/Serializable" (some 0) with
  accessFlags := 1537
  interfaces := #[]
  cf := some (fileOf pool5 2 #[] #[] 1537 4 #[] #[])
  fields := #[]
  methods := #[]
  instanceTypes := #[]
  staticTypes := #[]
  resolved := Array.replicate 8 none
  statics := none }

/-- the primitive byte -/
def k6 : Class := { plain "byte" none with kind := .primitive 'B', accessFlags := 0x411 }
/-- [B -/
def k7 : Class := { plain "[B" (some 0) with kind := .array 6 .byte, interfaces := #[4, 5], accessFlags := 1041 }

/-- the primitive int -/
def k8 : Class := { plain "int" none with kind := .primitive 'I', accessFlags := 0x411 }
/-- [I -/
def k9 : Class := { plain "[I" (some 0) with kind := .array 8 .int, interfaces := #[4, 5], accessFlags := 1041 }

def heap : Heap := #[]
def classes : Array Class := #[k0, k1, k2, k3, k4, k5, k6, k7, k8, k9]
def interned : List (Array UInt16 × Addr) := []
def slotsUsed : Nat := 0
def theMethod : MethodId := ⟨1, 1⟩
def args0 : Array Value := #[.long 7, .int 5, .int 5, .int 5, .int 5]
def aboutOver (below : List Frame) : State where
  vm := { classes := classes, interned := interned.toArray }
  heap := heap
  slotsUsed := slotsUsed
  threads := #[{ frames := .invoking theMethod args0 :: below }]
def below0 : List Frame := [.native { method := ⟨0, 0⟩, args := #[] }]
def about1 : State := aboutOver below0
def p0 : Program := .bare "" "" ""
def e0 : Env := launch0.env 0 0 0
theorem w_frames : about1.frames = Frame.invoking theMethod args0 :: below0 := rfl
set_option maxRecDepth 65536 in
theorem w_args : argsFit about1.vm theMethod args0 = true := by decide +kernel
set_option maxRecDepth 65536 in
theorem w_heap : heapFits about1 = true := by decide +kernel
set_option maxRecDepth 65536 in
theorem w_runnable : about1.curStatus? = some .runnable := by decide +kernel
set_option maxRecDepth 65536 in
theorem w_alone : about1.alone = true := by decide +kernel
set_option maxRecDepth 65536 in
theorem w_named : about1.methodNamed? x = some theMethod := by decide +kernel
set_option maxRecDepth 65536 in
theorem w_hears : about1.hears theMethod below0 = true := by decide +kernel
set_option maxRecDepth 65536 in
theorem w_ripe : about1.ripe theMethod args0 below0 = true := by decide +kernel
theorem w_running : about1.status = .running := rfl
set_option maxRecDepth 65536 in
theorem w_room : about1.hasRoom e0.platform room_1 = true :=
  launch0.hasRoom_least _ room_1 (by decide +kernel) (by decide +kernel) (by decide +kernel) (by decide +kernel) (by decide +kernel) (by decide +kernel)
theorem allAtoms_all (ts : List Jvm.Cond) (a : Array Jvm.Value) (st : Jvm.State) : (allAtoms ts).before a st = ts.all (fun c => c.before a st) := by
  induction ts with
  | nil => rfl
  | cons c t ih =>
    show (Jvm.Cond.and c (allAtoms t)).before a st = _
    rw [Jvm.Cond.before_and, ih, List.all_cons]
def words1 : List Jvm.Cond := Jvm.Cond.code x code maxLocals ret :: tables_1
/-- a 'code' word, met by the world's own term for the bytes: nothing is compared byte by byte -/
theorem code_word {y : MethodName} {bytes : ByteArray} {mx : Nat} {rt : Option FieldType} {a : Array Value} {s : State} {m : MethodId} {meth : Method} {c : Code} (h1 : s.methodNamed? y = some m) (h2 : s.vm.method? m = some meth) (h3 : meth.code = some c) (h4 : c.code = bytes)
    (h5 : (c.maxLocals == mx && c.exceptionTable.isEmpty && decide (c.maxStack ≤ mostOperands) && decide (meth.sig.returnType = rt) && !meth.locks && decide (parseMethodDescriptor y.desc = some meth.sig)) = true) : (Jvm.Cond.code y bytes mx rt).before a s = true := by
  simp only [Bool.and_eq_true, beq_iff_eq, Bool.not_eq_true', decide_eq_true_eq] at h5
  obtain ⟨⟨⟨⟨⟨g1, g2⟩, g3⟩, g4⟩, g5⟩, g6⟩ := h5
  simp [Cond.before, Cond.holds, Cond.value, h1, h2, h3, h4, g1, g2, g3, g4, g5, g6]
def isCode : Jvm.Cond → Bool
  | .code _ _ _ _ => true
  | _ => false
theorem all_split {L : List Jvm.Cond} {P : Jvm.Cond → Bool} (h1 : L.all (fun c => isCode c || P c) = true) (h2 : ∀ c ∈ L.filter isCode, P c = true) : L.all P = true := by
  refine List.all_eq_true.mpr fun c hc => ?_
  have h := List.all_eq_true.mp h1 c hc
  rcases Bool.eq_false_or_eq_true (isCode c) with hi | hi
  · exact h2 c (List.mem_filter.mpr ⟨hc, hi⟩)
  · simpa [hi] using h
set_option maxRecDepth 65536 in
theorem w_c0 : (Jvm.Cond.code x code maxLocals ret).before args0 about1 = true := code_word (m := ⟨1, 1⟩) (meth := k1m1) (c := k1c1) (by decide +kernel) rfl rfl rfl (by decide +kernel)
set_option maxRecDepth 65536 in
theorem w_c1 : (Jvm.Cond.code ({ cls := "com/example/vector_space_ranker/vectorspaceranker/IndexPostingPositionPinLaw", name := "next", desc := "(IZJI)I" } : Jvm.MethodName) method_3_code (6 : Nat) (Option.some Jvm.ClassFile.FieldType.int)).before args0 about1 = true := code_word (m := ⟨1, 2⟩) (meth := k1m2) (c := k1c2) (by decide +kernel) rfl rfl rfl (by decide +kernel)
set_option maxRecDepth 65536 in
theorem w_c2 : (Jvm.Cond.code ({ cls := "com/example/vector_space_ranker/vectorspaceranker/Index", name := "<init>", desc := "(Lcom/example/vector_space_ranker/vectorspaceranker/Analysis;[Ljava/lang/String;[I[Ljava/lang/String;[I[I[IJ)V" } : Jvm.MethodName) prog_14_method_1_code (10 : Nat) (Option.none : Option Jvm.ClassFile.FieldType)).before args0 about1 = true := code_word (m := ⟨2, 0⟩) (meth := k2m0) (c := k2c0) (by decide +kernel) rfl rfl rfl (by decide +kernel)
set_option maxRecDepth 65536 in
theorem w_c3 : (Jvm.Cond.code ({ cls := "java/lang/Object", name := "<init>", desc := "()V" } : Jvm.MethodName) object_method_1_code (1 : Nat) (Option.none : Option Jvm.ClassFile.FieldType)).before args0 about1 = true := code_word (m := ⟨0, 0⟩) (meth := k0m0) (c := k0c0) (by decide +kernel) rfl rfl rfl (by decide +kernel)
set_option maxRecDepth 65536 in
theorem w_c4 : (Jvm.Cond.code ({ cls := "com/example/vector_space_ranker/vectorspaceranker/Index", name := "postingPosition", desc := "(II)I" } : Jvm.MethodName) prog_14_method_15_code (4 : Nat) (Option.some Jvm.ClassFile.FieldType.int)).before args0 about1 = true := code_word (m := ⟨2, 1⟩) (meth := k2m1) (c := k2c1) (by decide +kernel) rfl rfl rfl (by decide +kernel)
set_option maxRecDepth 65536 in
theorem w_c5 : (Jvm.Cond.code ({ cls := "com/example/vector_space_ranker/vectorspaceranker/Index", name := "postingsStart", desc := "(I)I" } : Jvm.MethodName) prog_14_method_16_code (2 : Nat) (Option.some Jvm.ClassFile.FieldType.int)).before args0 about1 = true := code_word (m := ⟨2, 2⟩) (meth := k2m2) (c := k2c2) (by decide +kernel) rfl rfl rfl (by decide +kernel)
set_option maxRecDepth 65536 in
theorem w_c6 : (Jvm.Cond.code ({ cls := "com/example/vector_space_ranker/vectorspaceranker/Index", name := "postingsEnd", desc := "(I)I" } : Jvm.MethodName) prog_14_method_17_code (2 : Nat) (Option.some Jvm.ClassFile.FieldType.int)).before args0 about1 = true := code_word (m := ⟨2, 3⟩) (meth := k2m3) (c := k2c3) (by decide +kernel) rfl rfl rfl (by decide +kernel)
set_option maxRecDepth 65536 in
theorem w_c7 : (Jvm.Cond.code ({ cls := "java/util/Arrays", name := "binarySearch", desc := "([IIII)I" } : Jvm.MethodName) jdk_65_method_58_code (4 : Nat) (Option.some Jvm.ClassFile.FieldType.int)).before args0 about1 = true := code_word (m := ⟨3, 2⟩) (meth := k3m2) (c := k3c2) (by decide +kernel) rfl rfl rfl (by decide +kernel)
set_option maxRecDepth 65536 in
theorem w_c8 : (Jvm.Cond.code ({ cls := "java/util/Arrays", name := "rangeCheck", desc := "(III)V" } : Jvm.MethodName) jdk_65_method_30_code (3 : Nat) (Option.none : Option Jvm.ClassFile.FieldType)).before args0 about1 = true := code_word (m := ⟨3, 1⟩) (meth := k3m1) (c := k3c1) (by decide +kernel) rfl rfl rfl (by decide +kernel)
set_option maxRecDepth 65536 in
theorem w_c9 : (Jvm.Cond.code ({ cls := "java/util/Arrays", name := "binarySearch0", desc := "([IIII)I" } : Jvm.MethodName) jdk_65_method_59_code (8 : Nat) (Option.some Jvm.ClassFile.FieldType.int)).before args0 about1 = true := code_word (m := ⟨3, 3⟩) (meth := k3m3) (c := k3c3) (by decide +kernel) rfl rfl rfl (by decide +kernel)
set_option maxRecDepth 65536 in
theorem w_c10 : (Jvm.Cond.code ({ cls := "com/example/vector_space_ranker/vectorspaceranker/IndexPostingPositionPinLaw", name := "hit", desc := "(IIII[II)I" } : Jvm.MethodName) method_4_code (6 : Nat) (Option.some Jvm.ClassFile.FieldType.int)).before args0 about1 = true := code_word (m := ⟨1, 3⟩) (meth := k1m3) (c := k1c3) (by decide +kernel) rfl rfl rfl (by decide +kernel)
def codes1 : List Jvm.Cond := [Jvm.Cond.code x code maxLocals ret, Jvm.Cond.code ({ cls := "com/example/vector_space_ranker/vectorspaceranker/IndexPostingPositionPinLaw", name := "next", desc := "(IZJI)I" } : Jvm.MethodName) method_3_code (6 : Nat) (Option.some Jvm.ClassFile.FieldType.int), Jvm.Cond.code ({ cls := "com/example/vector_space_ranker/vectorspaceranker/Index", name := "<init>", desc := "(Lcom/example/vector_space_ranker/vectorspaceranker/Analysis;[Ljava/lang/String;[I[Ljava/lang/String;[I[I[IJ)V" } : Jvm.MethodName) prog_14_method_1_code (10 : Nat) (Option.none : Option Jvm.ClassFile.FieldType), Jvm.Cond.code ({ cls := "java/lang/Object", name := "<init>", desc := "()V" } : Jvm.MethodName) object_method_1_code (1 : Nat) (Option.none : Option Jvm.ClassFile.FieldType), Jvm.Cond.code ({ cls := "com/example/vector_space_ranker/vectorspaceranker/Index", name := "postingPosition", desc := "(II)I" } : Jvm.MethodName) prog_14_method_15_code (4 : Nat) (Option.some Jvm.ClassFile.FieldType.int), Jvm.Cond.code ({ cls := "com/example/vector_space_ranker/vectorspaceranker/Index", name := "postingsStart", desc := "(I)I" } : Jvm.MethodName) prog_14_method_16_code (2 : Nat) (Option.some Jvm.ClassFile.FieldType.int), Jvm.Cond.code ({ cls := "com/example/vector_space_ranker/vectorspaceranker/Index", name := "postingsEnd", desc := "(I)I" } : Jvm.MethodName) prog_14_method_17_code (2 : Nat) (Option.some Jvm.ClassFile.FieldType.int), Jvm.Cond.code ({ cls := "java/util/Arrays", name := "binarySearch", desc := "([IIII)I" } : Jvm.MethodName) jdk_65_method_58_code (4 : Nat) (Option.some Jvm.ClassFile.FieldType.int), Jvm.Cond.code ({ cls := "java/util/Arrays", name := "rangeCheck", desc := "(III)V" } : Jvm.MethodName) jdk_65_method_30_code (3 : Nat) (Option.none : Option Jvm.ClassFile.FieldType), Jvm.Cond.code ({ cls := "java/util/Arrays", name := "binarySearch0", desc := "([IIII)I" } : Jvm.MethodName) jdk_65_method_59_code (8 : Nat) (Option.some Jvm.ClassFile.FieldType.int), Jvm.Cond.code ({ cls := "com/example/vector_space_ranker/vectorspaceranker/IndexPostingPositionPinLaw", name := "hit", desc := "(IIII[II)I" } : Jvm.MethodName) method_4_code (6 : Nat) (Option.some Jvm.ClassFile.FieldType.int)]
set_option maxRecDepth 65536 in
theorem codes_eq : words1.filter isCode = codes1 := rfl
theorem w_codes : ∀ c ∈ words1.filter isCode, c.before args0 about1 = true := by
  rw [codes_eq]
  intro c hc
  simp only [codes1, List.mem_cons, List.not_mem_nil, or_false] at hc
  rcases hc with rfl | rfl | rfl | rfl | rfl | rfl | rfl | rfl | rfl | rfl | rfl
  · exact w_c0
  · exact w_c1
  · exact w_c2
  · exact w_c3
  · exact w_c4
  · exact w_c5
  · exact w_c6
  · exact w_c7
  · exact w_c8
  · exact w_c9
  · exact w_c10
set_option maxRecDepth 65536 in
theorem w_t1 : (words1.take 24).all (fun c => isCode c || c.before args0 about1) = true := by decide +kernel
set_option maxRecDepth 65536 in
theorem w_t2 : ((words1.drop 24).take 24).all (fun c => isCode c || c.before args0 about1) = true := by decide +kernel
set_option maxRecDepth 65536 in
theorem w_t3 : ((words1.drop 24).drop 24).all (fun c => isCode c || c.before args0 about1) = true := by decide +kernel
theorem w_tables : (allAtoms (Jvm.Cond.code x code maxLocals ret :: tables_1)).before args0 about1 = true := by
  rw [allAtoms_all]
  show words1.all (fun c => c.before args0 about1) = true
  refine all_split ?_ w_codes
  rw [← List.take_append_drop 24 words1, List.all_append, w_t1, ← List.take_append_drop 24 (words1.drop 24), List.all_append, w_t2, w_t3]
  rfl
set_option maxRecDepth 65536 in
theorem w_case : (Jvm.Cond.and given_1 narrow_1).before args0 about1 = true := by decide +kernel
theorem w_applies : (headSpec (Jvm.Cond.code x code maxLocals ret :: tables_1) room_1).applies x e0.platform about1 = true :=
  (Spec.applies_iff w_frames).mpr ⟨w_running, w_runnable, w_alone, w_named, w_hears, w_ripe, w_room, w_tables⟩
theorem atStart : AtStart classFile x code maxLocals ret World_1 tables_1 room_1 Calls_1 rest_1 Pre_1 launch0 p0 e0 about1 theMethod args0 below0 :=
  ⟨lists_1, trivial, launch0.admits_env _ _ _, launch0.least_env, fairChoices_fair.cas, fairChoices_fair.clock, w_frames, w_args, w_heap, w_applies, trivial, trivial, w_case⟩
end start1
theorem witness_1 : WitnessClaimed_1 := ⟨start1.p0, start1.e0, start1.about1, start1.theMethod, start1.args0, start1.below0, start1.atStart⟩
end Jvm.Pilot.@@N@@
