import JvmDerived
import JvmDerived.Pilot.@@N@@Statement
import JvmDerived.Pilot.@@N@@Code
set_option linter.unusedVariables false
set_option linter.unusedSimpArgs false
set_option maxHeartbeats 4000000
namespace Jvm.Pilot.@@N@@
open Jvm Jvm.ClassFile Sem Op Lib Jvm.Free Jvm.Stand Jvm.LawKit Jvm.RoadKit Bundle Jvm.Pilot.@@N@@.Jvm.D
/-! own kit: a walk read backwards: G T g says that from the state T with g on top the body comes to a good end -/
section OwnKit
variable {p : Program} {l : Launch} {e : Env} {R : Room} {s : State} {m : MethodId} {args : Array Value} {below : List Frame} {meth : Method} {c : Code} {T : State} {cells slots : Nat} {Z : State} {a0 : Array Value} {h : Heap} {n0 : Nat} {G : State → JFrame → Prop} {Q : Option Value → Heap → Prop}
def Clo (p : Program) (e : Env) (below : List Frame) (G : State → JFrame → Prop) : Prop := ∀ (T T' : State) (g g' : JFrame), (∀ t, Steps p.tables e below (T'.setTop g') t → Steps p.tables e below (T.setTop g) t) → G T' g' → G T g
theorem Clo.go (hs : Clo p e below G) {T T' : State} {g g' : JFrame} (st : ∀ t, Steps p.tables e below (T'.setTop g') t → Steps p.tables e below (T.setTop g) t) (k : G T' g') : G T g := hs T T' g g' st k
def Sd (p : Program) (l : Launch) (e : Env) (R : Room) (s : State) (m : MethodId) (args : Array Value) (below : List Frame) (meth : Method) (c : Code) (n0 : Nat) (T : State) (h : Heap) (cells slots : Nat) : Prop := ∃ (vm₁ : Vm) (locs : List Loc) (k0 : Nat), Stand p l e R (s.setVm vm₁) m args below meth c T locs cells slots ∧ Fr n0 locs ∧ T.heap = h ∧ s.Since vm₁ k0 ∧ k0 ≤ h.size
theorem wzh {vm₁ : Vm} {k0 : Nat} (hZ : Z.Warmed39 s.vm) (hS : s.Since vm₁ k0) : Z.Warmed39 (s.setVm vm₁).vm := State.Warmed39.trans (t := s) hZ hS.1
theorem wo {vm₁ : Vm} {k0 : Nat} {own : String} (hown : s.vm.findClass own = some m.cls) (hS : s.Since vm₁ k0) : (s.setVm vm₁).vm.findClass own = some m.cls := by rw [show (s.setVm vm₁).vm = vm₁ from rfl, hS.1.alike.findClass]; exact hown
theorem Sd.here (X : Sd p l e R s m args below meth c n0 T h cells slots) : At T m c below := by obtain ⟨_, _, _, X, _⟩ := X; exact X.here
theorem Sd.more (X : Sd p l e R s m args below meth c n0 T h cells slots) {k n : Nat} (hk : cells ≤ k) (hn : slots ≤ n) : Sd p l e R s m args below meth c n0 T h k n := by obtain ⟨v, L, k0, X, N⟩ := X; exact ⟨v, L, k0, X.more hk hn, N⟩
/-- how a body ends -/
def Fnl (p : Program) (l : Launch) (e : Env) (R : Room) (s : State) (m : MethodId) (args : Array Value) (below : List Frame) (meth : Method) (c : Code) (n0 : Nat) (Q : Option Value → Heap → Prop) (G : State → JFrame → Prop) : Prop :=
  ∀ (T : State) (h : Heap) (k n : Nat) (g : JFrame) (v : Option Value), Sd p l e R s m args below meth c n0 T h k n → k ≤ R.cells → n ≤ R.slots → (meth.sig.returnType = none → v = none) →
    (∀ fs, (∀ (f : JFrame) (acts : List Action), f.method = m → f.locked = none → f.entered = [] → (doReturn e (T.setTop f) acts v).1 = T.setFrames fs) → Steps p.tables e below (T.setTop g) (T.setFrames fs)) → Q v h → G T g
/-- a body's contract -/
def Con (l : Launch) (Z : State) (y : MethodName) (bytes : ByteArray) (maxL : Nat) (ret : Option FieldType) (ws : List Jvm.Cond) (rm : Room) (as' : Array Value) (h : Heap) (n0 : Nat) (Q : Option Value → Heap → Prop) : Prop :=
  MetFree l y (head1 (Jvm.Cond.code y bytes maxL ret :: ws) rm) (fun a U => a = as' ∧ Z.Warmed39 U.vm ∧ U.heap = h) (fun _ _ _ _ _ => True)
    (fun _ U o U' => ∃ v L, o = .returned v ∧ (Q v U'.heap ∧ Fr n0 L) ∧ ReturnedEndW U o U' L rm.cells rm.slots)
theorem Con.of {y : MethodName} {bytes : ByteArray} {maxL : Nat} {ret : Option FieldType} {ws : List Jvm.Cond} {rm : Room} {as' : Array Value} (hp : plainFor y = true)
    (body : ∀ (G : State → JFrame → Prop) (p : Program) (e : Env) (s : State) (m : MethodId) (below : List Frame) (meth : Method) (c : Code) (s₁ : State),
      Clo p e below G → p.tables.exec = Jvm.exec → c.code = bytes → c.maxLocals = maxL → s.vm.findClass y.cls = some m.cls → meth.name = y.name → meth.sig.returnType = ret → Z.Warmed39 s.vm →
      Sd p l e rm s m as' below meth c n0 s₁ h 0 0 → Fnl p l e rm s m as' below meth c n0 Q G → G s₁ (entryFrame m as' maxL)) : Con l Z y bytes maxL ret ws rm as' h n0 Q := by
  refine MetFree.of_bodySF hp hisR ?_
  intro p e s m args below meth c s₁ Bd hml hP hK
  obtain ⟨ha, hZ, hh⟩ := hP
  subst ha
  refine body (fun T g => ∃ s₂ o, Steps p.tables e below (T.setTop g) s₂ ∧ s₂.status = .running ∧ Ended s₂ below o ∧ ∃ v L, o = .returned v ∧ (Q v s₂.heap ∧ Fr n0 L) ∧ ReturnedEndW s o s₂ L rm.cells rm.slots) p e s m below meth c s₁ ?_ Bd.exec Bd.bytes hml (findClass_of_methodNamed Bd.named) (name_of_methodNamed Bd.named Bd.method).1 Bd.returns hZ ⟨s.vm, [], 0, Stand.of_body Bd, Fr.nil n0, by rw [← hh, Bd.state]; rfl, (State.WarmedH.refl s).since 0, Nat.zero_le _⟩ ?_
  · intro T T' g g' st ⟨s₂, o, h1, r⟩
    exact ⟨s₂, o, st _ h1, r⟩
  · intro T h k n g v ⟨vm₁, locs, k0, X, N, eh, hS, hk0⟩ hk hn hv st q
    obtain ⟨fs, hr, hrun, hended, hE⟩ := X.leaveW hS (by rw [eh]; exact hk0) (v := v) hv Bd.notSynchronized
    exact ⟨_, _, st fs hr, hrun, hended, v, locs, rfl, ⟨by show Q v T.heap; rw [eh]; exact q, N⟩, hE.1, hE.2.1, hE.2.2.1, hE.2.2.2.mono hk hn⟩
theorem rRetI (fin : Fnl p l e R s m args below meth c n0 Q G) (X : Sd p l e R s m args below meth c n0 T h cells slots) (hx : p.tables.exec = Jvm.exec) (hk : cells ≤ R.cells) (hn : slots ≤ R.slots) (hret : meth.sig.returnType = some .int) {pc : Nat} {Ls : Array Slot} {z : Int32} {rest : List Value} (hd : decode c.code pc = .ok (.ireturn, 1)) (q : Q (some (.int z)) h) : G T (mkF m pc Ls (.int z :: rest)) :=
  fin T h cells slots _ (some (.int z)) X hk hn (fun h => by rw [hret] at h; cases h) (fun fs hr => by obtain ⟨_, _, _, X, _⟩ := X; exact retOut X hx hret rfl (Or.inl ⟨rfl, Or.inl rfl, _, rfl⟩) hd hr) q
theorem rRetN (fin : Fnl p l e R s m args below meth c n0 Q G) (X : Sd p l e R s m args below meth c n0 T h cells slots) (hx : p.tables.exec = Jvm.exec) (hk : cells ≤ R.cells) (hn : slots ≤ R.slots) {t : FieldType} (hret : meth.sig.returnType = some t) (ht : t = .boolean ∨ t = .byte ∨ t = .char ∨ t = .short) {pc : Nat} {Ls : Array Slot} {z z' : Int32} {rest : List Value} (hd : decode c.code pc = .ok (.ireturn, 1)) (hz : nar t z = z') (q : Q (some (.int z')) h) : G T (mkF m pc Ls (.int z :: rest)) :=
  fin T h cells slots _ (some (.int (nar t z))) X hk hn (fun h => by rw [hret] at h; cases h) (fun fs hr => by obtain ⟨_, _, _, X, _⟩ := X; exact retN X hx hret ht hd hr) (hz ▸ q)
theorem rRetL (fin : Fnl p l e R s m args below meth c n0 Q G) (X : Sd p l e R s m args below meth c n0 T h cells slots) (hx : p.tables.exec = Jvm.exec) (hk : cells ≤ R.cells) (hn : slots ≤ R.slots) (hret : meth.sig.returnType = some .long) {pc : Nat} {Ls : Array Slot} {z : Int64} {rest : List Value} (hd : decode c.code pc = .ok (.lreturn, 1)) (q : Q (some (.long z)) h) : G T (mkF m pc Ls (.long z :: rest)) :=
  fin T h cells slots _ (some (.long z)) X hk hn (fun h => by rw [hret] at h; cases h) (fun fs hr => by obtain ⟨_, _, _, X, _⟩ := X; exact retOut X hx hret rfl (Or.inr (Or.inl ⟨rfl, rfl, _, rfl⟩)) hd hr) q
theorem rRetA (fin : Fnl p l e R s m args below meth c n0 Q G) (X : Sd p l e R s m args below meth c n0 T h cells slots) (hx : p.tables.exec = Jvm.exec) (hk : cells ≤ R.cells) (hn : slots ≤ R.slots) {t : FieldType} (hret : meth.sig.returnType = some t) (ht : t.isReference = true) {pc : Nat} {Ls : Array Slot} {z : Value} (hz : z.isRef = true) (hw : narrow t z = z) {rest : List Value} (hd : decode c.code pc = .ok (.areturn, 1)) (q : Q (some z) h) : G T (mkF m pc Ls (z :: rest)) :=
  fin T h cells slots _ (some z) X hk hn (fun h => by rw [hret] at h; cases h) (fun fs hr => by obtain ⟨_, _, _, X, _⟩ := X; exact retOut X hx hret hw (Or.inr (Or.inr (Or.inr (Or.inr ⟨rfl, ht, hz⟩)))) hd hr) q
theorem rRetD (fin : Fnl p l e R s m args below meth c n0 Q G) (X : Sd p l e R s m args below meth c n0 T h cells slots) (hx : p.tables.exec = Jvm.exec) (hk : cells ≤ R.cells) (hn : slots ≤ R.slots) (hret : meth.sig.returnType = some .double) {pc : Nat} {Ls : Array Slot} {z : UInt64} {rest : List Value} (hd : decode c.code pc = .ok (.dreturn, 1)) (q : Q (some (.double z)) h) : G T (mkF m pc Ls (.double z :: rest)) :=
  fin T h cells slots _ (some (.double z)) X hk hn (fun h => by rw [hret] at h; cases h) (fun fs hr => by obtain ⟨_, _, _, X, _⟩ := X; exact retOut X hx hret rfl (Or.inr (Or.inr (Or.inl ⟨rfl, rfl, _, rfl⟩))) hd hr) q
theorem rRetV (fin : Fnl p l e R s m args below meth c n0 Q G) (X : Sd p l e R s m args below meth c n0 T h cells slots) (hx : p.tables.exec = Jvm.exec) (hk : cells ≤ R.cells) (hn : slots ≤ R.slots) (hret : meth.sig.returnType = none) {pc : Nat} {Ls : Array Slot} (hd : decode c.code pc = .ok (.return_, 1)) (q : Q none h) : G T (mkF m pc Ls []) :=
  fin T h cells slots _ none X hk hn (fun _ => rfl) (fun fs hr => by obtain ⟨_, _, _, X, _⟩ := X; exact X.returnOut hx hret hd hr) q
theorem rLdcI (hs : Clo p e below G) (X : Sd p l e R s m args below meth c n0 T h cells slots) (hx : p.tables.exec = Jvm.exec) (hZ : Z.Warmed39 s.vm) {own : String} {index : Nat} {v : Int32} (hown : s.vm.findClass own = some m.cls) (w : (Jvm.Cond.constant own index v).before a0 Z = true) {g : JFrame} (hg : g.method = m) (hd : decode c.code g.pc = .ok (.ldc index, 2)) (k : G T { g with pc := g.pc + 2, stack := .int v :: g.stack }) : G T g := by
  obtain ⟨vm₁, _, _, X, _, _, hS, _⟩ := X
  have hZ := wzh hZ hS
  have hown := wo hown hS
  exact hs.go (X.ldcInt hx hown (mvT hZ w) hg hd) k
theorem rLdcL (hs : Clo p e below G) (X : Sd p l e R s m args below meth c n0 T h cells slots) (hx : p.tables.exec = Jvm.exec) (hZ : Z.Warmed39 s.vm) {own : String} {index : Nat} {v : Int64} (hown : s.vm.findClass own = some m.cls) (w : (Jvm.Cond.constantLong own index v).before a0 Z = true) {g : JFrame} (hg : g.method = m) (hd : decode c.code g.pc = .ok (.ldc2_w index, 3)) (k : G T { g with pc := g.pc + 3, stack := .long v :: g.stack }) : G T g := by
  obtain ⟨vm₁, _, _, X, _, _, hS, _⟩ := X
  have hZ := wzh hZ hS
  have hown := wo hown hS
  exact hs.go (X.ldc2Long hx hown (mvT hZ w) hg hd) k
theorem rLdcD (hs : Clo p e below G) (X : Sd p l e R s m args below meth c n0 T h cells slots) (hx : p.tables.exec = Jvm.exec) (hZ : Z.Warmed39 s.vm) {own : String} {index : Nat} {v : UInt64} (hown : s.vm.findClass own = some m.cls) (w : (Jvm.Cond.constantDouble own index v).before a0 Z = true) {g : JFrame} (hg : g.method = m) (hd : decode c.code g.pc = .ok (.ldc2_w index, 3)) (k : G T { g with pc := g.pc + 3, stack := .double v :: g.stack }) : G T g := by
  obtain ⟨vm₁, _, _, X, _, _, hS, _⟩ := X
  have hZ := wzh hZ hS
  have hown := wo hown hS
  exact hs.go (X.ldc2DoubleC hx hown (mvT hZ w) hg hd) k
theorem rIrem (hs : Clo p e below G) (X : Sd p l e R s m args below meth c n0 T h cells slots) (hx : p.tables.exec = Jvm.exec) {g : JFrame} (hg : g.method = m) {x y : Int32} {rest : List Value} (hd : decode c.code g.pc = .ok (.irem, 1)) (hst : g.stack = .int y :: .int x :: rest) (hy : y ≠ 0) (k : G T { g with pc := g.pc + 1, stack := .int (x % y) :: rest }) : G T g := by
  obtain ⟨_, _, _, X, _⟩ := X
  exact hs.go (fun _ q => iremM X hx hg hd hst hy q) k
theorem rLrem (hs : Clo p e below G) (X : Sd p l e R s m args below meth c n0 T h cells slots) (hx : p.tables.exec = Jvm.exec) {g : JFrame} (hg : g.method = m) {x y : Int64} {rest : List Value} (hd : decode c.code g.pc = .ok (.lrem, 1)) (hst : g.stack = .long y :: .long x :: rest) (hy : y ≠ 0) (k : G T { g with pc := g.pc + 1, stack := .long (x % y) :: rest }) : G T g :=
  hs.go (fun _ q => XS.lrem X.here hx hg hd hst hy q) (by rw [lrem_mod]; exact k)
/-! arrays -/
theorem rNewP (hs : Clo p e below G) (X : Sd p l e R s m args below meth c n0 T h cells slots) (hx : p.tables.exec = Jvm.exec) (hZ : Z.Warmed39 s.vm) {aty : ArrayType} (w : (Jvm.Cond.arrayClass (newarray.typeOf aty)).before a0 Z = true) {g : JFrame} (hg : g.method = m) (hd : decode c.code g.pc = .ok (.newarray aty, 2)) {n : Int32} {rest : List Value} (hst : g.stack = .int n :: rest)
    (hn : ¬ n < 0) (cap len : Nat) (hcap : n.toNatClampNeg ≤ cap) (hb : cap * 8 ≤ 536870912) (hc : cells + 1 ≤ R.cells) (hl : slots + cap ≤ R.slots)
    (k : ∀ (T' : State) (h' : Heap) (cA : ClassId) (b : Addr), b = h.size → Sd p l e R s m args below meth c n0 T' h' (cells + 1) (slots + cap) → Ext h h' → Arv Z h' b cA (newarray.typeOf aty) n (List.replicate len (defaultValue (newarray.typeOf aty))) (defaultValue (newarray.typeOf aty)) → G T' { g with pc := g.pc + 2, stack := .ref b :: rest }) : G T g := by
  obtain ⟨vm₁, L, k0, X, N, eh, hS, hk0⟩ := X
  have hZ := wzh hZ hS
  obtain ⟨T', h', cA, X', e', E, A, st⟩ := newP X hx hZ w eh hg hd hst hn hcap hb hc hl
  exact hs.go st (k T' h' cA h.size rfl ⟨vm₁, L, k0, X', N, e', hS, Nat.le_trans hk0 E.1⟩ E ((Arv.new A hn).pad (pad_rep [] _ len)))
theorem rStI (hs : Clo p e below G) (X : Sd p l e R s m args below meth c n0 T h cells slots) (hx : p.tables.exec = Jvm.exec) (hZ : Z.Warmed39 s.vm) {a : Addr} {kc : ClassId} {z : Int32} {vs : List Value} {dv : Value} (V : Arv Z h a kc .int z vs dv) (ga : n0 ≤ a) {j x : Int32} (hj : ¬ j < 0 ∧ j < z) (i : Nat) (hi : j.toNatClampNeg = i) (hl : i < vs.length)
    {g : JFrame} (hg : g.method = m) {rest : List Value} (hst : g.stack = .int x :: .int j :: .ref a :: rest) (hd : decode c.code g.pc = .ok (.iastore, 1))
    (k : ∀ (T' : State) (h' : Heap), Sd p l e R s m args below meth c n0 T' h' cells slots → Wr h h' a i (.int x) → Arv Z h' a kc .int z (vs.set i (.int x)) dv → G T' { g with pc := g.pc + 1, stack := rest }) : G T g := by
  obtain ⟨vm₁, L, k0, X, N, eh, hS, hk0⟩ := X
  have hZ := wzh hZ hS
  obtain ⟨cl, A, q1, S, q3, H, F⟩ := V
  obtain ⟨T', h', X', e', W, st⟩ := stI X hx hZ eh A (j := j) (inb_of S hj) hg hst hd
  exact hs.go st (k T' h' ⟨vm₁, _, k0, X', Fr.snoc X' N ga, e', hS, Nat.le_trans hk0 (Keep.of_wr W).1⟩ (hi ▸ W) (Arv.set A q1 S q3 H F rfl W i hi hl))
theorem rStB (hs : Clo p e below G) (X : Sd p l e R s m args below meth c n0 T h cells slots) (hx : p.tables.exec = Jvm.exec) (hZ : Z.Warmed39 s.vm) {a : Addr} {kc : ClassId} {z : Int32} {vs : List Value} {dv : Value} (V : Arv Z h a kc .byte z vs dv) (ga : n0 ≤ a) {j x x' : Int32} (hj : ¬ j < 0 ∧ j < z) (i : Nat) (hi : j.toNatClampNeg = i) (hl : i < vs.length) (hnx : x.toInt8.toInt32 = x')
    {g : JFrame} (hg : g.method = m) {rest : List Value} (hst : g.stack = .int x :: .int j :: .ref a :: rest) (hd : decode c.code g.pc = .ok (.bastore, 1))
    (k : ∀ (T' : State) (h' : Heap), Sd p l e R s m args below meth c n0 T' h' cells slots → Wr h h' a i (.int x') → Arv Z h' a kc .byte z (vs.set i (.int x')) dv → G T' { g with pc := g.pc + 1, stack := rest }) : G T g := by
  obtain ⟨vm₁, L, k0, X, N, eh, hS, hk0⟩ := X
  have hZ := wzh hZ hS
  obtain ⟨cl, A, q1, S, q3, H, F⟩ := V
  obtain ⟨T', h', X', e', W, st⟩ := stB X hx hZ eh A (j := j) (inb_of S hj) hg hst hd
  subst hnx
  exact hs.go st (k T' h' ⟨vm₁, _, k0, X', Fr.snoc X' N ga, e', hS, Nat.le_trans hk0 (Keep.of_wr W).1⟩ (hi ▸ W) (Arv.set A q1 S q3 H F (fits_nar_byte _) W i hi hl))
theorem rStC (hs : Clo p e below G) (X : Sd p l e R s m args below meth c n0 T h cells slots) (hx : p.tables.exec = Jvm.exec) (hZ : Z.Warmed39 s.vm) {a : Addr} {kc : ClassId} {z : Int32} {vs : List Value} {dv : Value} (V : Arv Z h a kc .char z vs dv) (ga : n0 ≤ a) {j x x' : Int32} (hj : ¬ j < 0 ∧ j < z) (i : Nat) (hi : j.toNatClampNeg = i) (hl : i < vs.length) (hnx : nar .char x = x')
    {g : JFrame} (hg : g.method = m) {rest : List Value} (hst : g.stack = .int x :: .int j :: .ref a :: rest) (hd : decode c.code g.pc = .ok (.castore, 1))
    (k : ∀ (T' : State) (h' : Heap), Sd p l e R s m args below meth c n0 T' h' cells slots → Wr h h' a i (.int x') → Arv Z h' a kc .char z (vs.set i (.int x')) dv → G T' { g with pc := g.pc + 1, stack := rest }) : G T g := by
  obtain ⟨vm₁, L, k0, X, N, eh, hS, hk0⟩ := X
  have hZ := wzh hZ hS
  obtain ⟨cl, A, q1, S, q3, H, F⟩ := V
  obtain ⟨T', h', X', e', W, st⟩ := stC X hx hZ eh A (j := j) (inb_of S hj) hg hst hd
  subst hnx
  exact hs.go st (k T' h' ⟨vm₁, _, k0, X', Fr.snoc X' N ga, e', hS, Nat.le_trans hk0 (Keep.of_wr W).1⟩ (hi ▸ W) (Arv.set A q1 S q3 H F (fits_nar_char _) W i hi hl))
theorem rLdI (hs : Clo p e below G) (X : Sd p l e R s m args below meth c n0 T h cells slots) (hx : p.tables.exec = Jvm.exec) (hZ : Z.Warmed39 s.vm) {a : Addr} {kc : ClassId} {z : Int32} {vs : List Value} {dv : Value} (V : Arv Z h a kc .int z vs dv) {j : Int32} (hj : ¬ j < 0 ∧ j < z) {v : Value} (hv : vs.getD j.toNatClampNeg dv = v)
    {g : JFrame} (hg : g.method = m) {rest : List Value} (hst : g.stack = .int j :: .ref a :: rest) (hd : decode c.code g.pc = .ok (.iaload, 1)) (k : G T { g with pc := g.pc + 1, stack := v :: rest }) : G T g := by
  obtain ⟨vm₁, L, k0, X, N, eh, hS, hk0⟩ := X
  have hZ := wzh hZ hS
  obtain ⟨cl, A, q1, S, q3, H, F⟩ := V
  exact hs.go (X.iaload hx (j := j) (v := v) (by rw [eh]; exact A.1) (State.isArrayOf_alike hZ.alike A.2.1) A.2.2 (inb_of S hj) (H.at (inb_of S hj) hv) hg hst hd) k
theorem rLdB (hs : Clo p e below G) (X : Sd p l e R s m args below meth c n0 T h cells slots) (hx : p.tables.exec = Jvm.exec) (hZ : Z.Warmed39 s.vm) {a : Addr} {kc : ClassId} {z : Int32} {vs : List Value} {dv : Value} (V : Arv Z h a kc .byte z vs dv) {j : Int32} (hj : ¬ j < 0 ∧ j < z) {v : Value} (hv : vs.getD j.toNatClampNeg dv = v)
    {g : JFrame} (hg : g.method = m) {rest : List Value} (hst : g.stack = .int j :: .ref a :: rest) (hd : decode c.code g.pc = .ok (.baload, 1)) (k : G T { g with pc := g.pc + 1, stack := v :: rest }) : G T g := by
  obtain ⟨vm₁, L, k0, X, N, eh, hS, hk0⟩ := X
  have hZ := wzh hZ hS
  obtain ⟨cl, A, q1, S, q3, H, F⟩ := V
  exact hs.go (X.baloadBytes hx (j := j) (v := v) (by rw [eh]; exact A.1) (State.isArrayOf_alike hZ.alike A.2.1) A.2.2 (inb_of S hj) (H.at (inb_of S hj) hv) hg hst hd) k
theorem rLdC (hs : Clo p e below G) (X : Sd p l e R s m args below meth c n0 T h cells slots) (hx : p.tables.exec = Jvm.exec) (hZ : Z.Warmed39 s.vm) {a : Addr} {kc : ClassId} {z : Int32} {vs : List Value} {dv : Value} (V : Arv Z h a kc .char z vs dv) {j : Int32} (hj : ¬ j < 0 ∧ j < z) {v : Value} (hv : vs.getD j.toNatClampNeg dv = v)
    {g : JFrame} (hg : g.method = m) {rest : List Value} (hst : g.stack = .int j :: .ref a :: rest) (hd : decode c.code g.pc = .ok (.caload, 1)) (k : G T { g with pc := g.pc + 1, stack := v :: rest }) : G T g := by
  obtain ⟨vm₁, L, k0, X, N, eh, hS, hk0⟩ := X
  have hZ := wzh hZ hS
  obtain ⟨cl, A, q1, S, q3, H, F⟩ := V
  exact hs.go (X.caload hx (j := j) (v := v) (by rw [eh]; exact A.1) (State.isArrayOf_alike hZ.alike A.2.1) A.2.2 (inb_of S hj) (H.at (inb_of S hj) hv) hg hst hd) k
theorem rLdR (hs : Clo p e below G) (X : Sd p l e R s m args below meth c n0 T h cells slots) (hx : p.tables.exec = Jvm.exec) (hZ : Z.Warmed39 s.vm) {a : Addr} {kc : ClassId} {ty : FieldType} {z : Int32} {vs : List Value} {dv : Value} (V : Arv Z h a kc ty z vs dv) (hty : ty.isReference = true) {j : Int32} (hj : ¬ j < 0 ∧ j < z) {v : Value} (hv : vs.getD j.toNatClampNeg dv = v)
    {g : JFrame} (hg : g.method = m) {rest : List Value} (hst : g.stack = .int j :: .ref a :: rest) (hd : decode c.code g.pc = .ok (.aaload, 1)) (k : G T { g with pc := g.pc + 1, stack := v :: rest }) : G T g := by
  obtain ⟨vm₁, L, k0, X, N, eh, hS, hk0⟩ := X
  have hZ := wzh hZ hS
  obtain ⟨cl, A, q1, S, q3, H, F⟩ := V
  exact hs.go (X.aaload hx (j := j) (v := v) (by rw [eh]; exact A.1) (State.isArrayOf_alike hZ.alike A.2.1) hty A.2.2 (inb_of S hj) (H.at (inb_of S hj) hv) hg hst hd) k
theorem rLen (hs : Clo p e below G) (X : Sd p l e R s m args below meth c n0 T h cells slots) (hx : p.tables.exec = Jvm.exec) (hZ : Z.Warmed39 s.vm) {a : Addr} {kc : ClassId} {ty : FieldType} {z : Int32} {vs : List Value} {dv : Value} (V : Arv Z h a kc ty z vs dv)
    {g : JFrame} (hg : g.method = m) {rest : List Value} (hst : g.stack = .ref a :: rest) (hd : decode c.code g.pc = .ok (.arraylength, 1)) (k : G T { g with pc := g.pc + 1, stack := .int z :: rest }) : G T g := by
  obtain ⟨vm₁, L, k0, X, N, eh, hS, hk0⟩ := X
  have hZ := wzh hZ hS
  obtain ⟨cl, A, q1, S, q3, H, F⟩ := V
  exact hs.go (X.arraylength hx (by rw [eh]; exact A.1) (State.isArrayOf_alike hZ.alike A.2.1) hg hst hd) (by rw [len_of S q3]; exact k)
theorem rNewR (hs : Clo p e below G) (X : Sd p l e R s m args below meth c n0 T h cells slots) (hx : p.tables.exec = Jvm.exec) (hZ : Z.Warmed39 s.vm) {own C : String} {index : Nat} (hown : s.vm.findClass own = some m.cls) (w1 : (Jvm.Cond.classLink own index C).before a0 Z = true) (w2 : (Jvm.Cond.arrayOver (.object C)).before a0 Z = true) {g : JFrame} (hg : g.method = m) (hd : decode c.code g.pc = .ok (.anewarray index, 3)) {n : Int32} {rest : List Value} (hst : g.stack = .int n :: rest)
    (hn : ¬ n < 0) (cap len : Nat) (hcap : n.toNatClampNeg ≤ cap) (hb : cap * 8 ≤ 536870912) (hc : cells + 1 ≤ R.cells) (hl : slots + cap ≤ R.slots)
    (k : ∀ (T' : State) (h' : Heap) (cA : ClassId) (b : Addr), b = h.size → Sd p l e R s m args below meth c n0 T' h' (cells + 1) (slots + cap) → Ext h h' → Arv Z h' b cA (.object C) n (List.replicate len .null) .null → Ovr Z cA C → G T' { g with pc := g.pc + 3, stack := .ref b :: rest }) : G T g := by
  obtain ⟨vm₁, L, k0, X, N, eh, hS, hk0⟩ := X
  have hZ := wzh hZ hS
  have hown := wo hown hS
  obtain ⟨T', h', cA, X', e', E, A, O, st⟩ := newR X hx hZ hown w1 w2 eh hg hd hst hn hcap hb hc hl
  exact hs.go st (k T' h' cA h.size rfl ⟨vm₁, L, k0, X', N, e', hS, Nat.le_trans hk0 E.1⟩ E ((Arv.new A hn).pad (pad_rep [] _ len)) O)
theorem rStR (hs : Clo p e below G) (X : Sd p l e R s m args below meth c n0 T h cells slots) (hx : p.tables.exec = Jvm.exec) (hZ : Z.Warmed39 s.vm) {a : Addr} {kc : ClassId} {C : String} {z : Int32} {vs : List Value} {dv : Value} (V : Arv Z h a kc (.object C) z vs dv) (O : Ovr Z kc C) (ga : n0 ≤ a) {j : Int32} {y : Addr} (I : Ins Z h y C true) (hj : ¬ j < 0 ∧ j < z) (i : Nat) (hi : j.toNatClampNeg = i) (hl : i < vs.length)
    {g : JFrame} (hg : g.method = m) {rest : List Value} (hst : g.stack = .ref y :: .int j :: .ref a :: rest) (hd : decode c.code g.pc = .ok (.aastore, 1))
    (k : ∀ (T' : State) (h' : Heap), Sd p l e R s m args below meth c n0 T' h' cells slots → Wr h h' a i (.ref y) → Arv Z h' a kc (.object C) z (vs.set i (.ref y)) dv → G T' { g with pc := g.pc + 1, stack := rest }) : G T g := by
  obtain ⟨vm₁, L, k0, X, N, eh, hS, hk0⟩ := X
  have hZ := wzh hZ hS
  obtain ⟨cl, A, q1, S, q3, H, F⟩ := V
  obtain ⟨T', h', X', e', W, st⟩ := stR X hx hZ eh A (j := j) (v := .ref y) (inb_of S hj) rfl (Sto.ofV A q1 O I) hg hst hd
  exact hs.go st (k T' h' ⟨vm₁, _, k0, X', Fr.snoc X' N ga, e', hS, Nat.le_trans hk0 (Keep.of_wr W).1⟩ (hi ▸ W) (Arv.set A q1 S q3 H F rfl W i hi hl))
/-! objects -/
theorem rNewO (hs : Clo p e below G) (X : Sd p l e R s m args below meth c n0 T h cells slots) (hx : p.tables.exec = Jvm.exec) (hZ : Z.Warmed39 s.vm) {own C : String} {index n : Nat} (hown : s.vm.findClass own = some m.cls) (w : (Jvm.Cond.classLink own index C).before a0 Z = true) (wi : (Jvm.Cond.instantiable C n).before a0 Z = true) (wz : (Jvm.Cond.initialized C).before a0 Z = true)
    {g : JFrame} (hg : g.method = m) (hd : decode c.code g.pc = .ok (.new index, 3)) (hc : cells + 1 ≤ R.cells) (hl : slots + n ≤ R.slots)
    (k : ∀ (T' : State) (h' : Heap) (b : Addr), b = h.size → Sd p l e R s m args below meth c n0 T' h' (cells + 1) (slots + n) → Ext h h' → Exa Z h' b C → (∀ {O nm d : String} {ty : FieldType}, Laid Z a0 C O nm d → parseFieldDescriptor d = some ty → Fld Z h' b O nm d (defaultValue ty)) → G T' { g with pc := g.pc + 3, stack := .ref b :: g.stack }) : G T g := by
  obtain ⟨vm₁, L, k0, X, N, eh, hS, hk0⟩ := X
  have hZ := wzh hZ hS
  have hown := wo hown hS
  obtain ⟨T', h', X', e', E, A, D, -, st⟩ := newO X hx hZ hown w wi wz eh hg hd hc hl
  exact hs.go st (k T' h' h.size rfl ⟨vm₁, L, k0, X', N, e', hS, Nat.le_trans hk0 E.1⟩ E A D)
theorem rInitO (hs : Clo p e below G) (X : Sd p l e R s m args below meth c n0 T h cells slots) (hx : p.tables.exec = Jvm.exec) (hZ : Z.Warmed39 s.vm) {own : String} {idx : Nat} (hown : s.vm.findClass own = some m.cls) (w1 : (Jvm.Cond.methodLink own idx Lib.objectInit).before a0 Z = true) (w2 : (Jvm.Cond.instanceMethod Lib.objectInit).before a0 Z = true)
    (w3 : (Jvm.Cond.code Lib.objectInit ⟨#[0xb1]⟩ 1 none).before a0 Z = true) {g : JFrame} (hg : g.method = m) (hsize : g.locals.size = c.maxLocals) {a : Addr} {rest : List Value} (hst : g.stack = .ref a :: rest) (hd : decode c.code g.pc = .ok (.invokespecial idx, 3))
    (hf : 1 ≤ R.frames) {W : Nat} (hW : 2 * g.monitorRoom + (rest.map fun v => v.category).sum ≤ W) (hl : W + 12 ≤ R.locals)
    (k : ∀ T' : State, Sd p l e R s m args below meth c n0 T' h cells slots → G T' { g with pc := g.pc + 3, stack := rest }) : G T g := by
  obtain ⟨vm₁, L, k0, X, N, eh, hS, hk0⟩ := X
  have hZ := wzh hZ hS
  have hown := wo hown hS
  obtain ⟨T', X', e', st⟩ := initO X hx hZ hown w1 w2 w3 eh hg hsize hst hd hf hW hl
  exact hs.go st (k T' ⟨vm₁, L, k0, X', N, e', hS, hk0⟩)
theorem rGetF (hs : Clo p e below G) (X : Sd p l e R s m args below meth c n0 T h cells slots) (hx : p.tables.exec = Jvm.exec) (hZ : Z.Warmed39 s.vm) {own R0 O n d host : String} {index : Nat} (hown : s.vm.findClass own = some m.cls) (w : (Jvm.Cond.fieldLink own index R0 n d).before a0 Z = true ∨ (Jvm.Cond.fieldLinkNest own index R0 n d host).before a0 Z = true) (via : Via Z R0 O n d)
    {a : Addr} {v : Value} (F : Fld Z h a O n d v) {g : JFrame} (hg : g.method = m) {rest : List Value} (hst : g.stack = .ref a :: rest) (hd : decode c.code g.pc = .ok (.getfield index, 3))
    (k : ∀ T' : State, Sd p l e R s m args below meth c n0 T' h cells slots → G T' { g with pc := g.pc + 3, stack := v :: rest }) : G T g := by
  obtain ⟨vm₁, L, k0, X, N, eh, hS, hk0⟩ := X
  have hZ := wzh hZ hS
  have hown := wo hown hS
  obtain ⟨T', X', e', st⟩ := getF X hx hZ hown w via eh F hg hst hd
  exact hs.go st (k T' ⟨vm₁, L, k0, X', N, e', hS, hk0⟩)
theorem rGetS (hs : Clo p e below G) (X : Sd p l e R s m args below meth c n0 T h cells slots) (hx : p.tables.exec = Jvm.exec) (hZ : Z.Warmed39 s.vm) {own R0 O n d host : String} {index : Nat} (hown : s.vm.findClass own = some m.cls) (w : (Jvm.Cond.fieldLink own index R0 n d).before a0 Z = true ∨ (Jvm.Cond.fieldLinkNest own index R0 n d host).before a0 Z = true) (via : Via Z R0 O n d)
    {v : Value} (F : Sta Z h O n d v) {g : JFrame} (hg : g.method = m) (hd : decode c.code g.pc = .ok (.getstatic index, 3))
    (k : ∀ T' : State, Sd p l e R s m args below meth c n0 T' h cells slots → G T' { g with pc := g.pc + 3, stack := v :: g.stack }) : G T g := by
  obtain ⟨vm₁, L, k0, X, N, eh, hS, hk0⟩ := X
  have hZ := wzh hZ hS
  have hown := wo hown hS
  obtain ⟨T', X', e', st⟩ := getS2 X hx hZ hown w via eh F hg hd
  exact hs.go st (k T' ⟨vm₁, L, k0, X', N, e', hS, hk0⟩)
theorem rPutF (hs : Clo p e below G) (X : Sd p l e R s m args below meth c n0 T h cells slots) (hx : p.tables.exec = Jvm.exec) (hZ : Z.Warmed39 s.vm) {own R0 O n d host C : String} {index kk : Nat} (ty : FieldType) (hown : s.vm.findClass own = some m.cls) (w : (Jvm.Cond.fieldLink own index R0 n d).before a0 Z = true ∨ (Jvm.Cond.fieldLinkNest own index R0 n d host).before a0 Z = true) (via : Via Z R0 O n d)
    {a : Addr} {v old : Value} (F : Fld Z h a O n d old) (E : Exa Z h a C) (ga : n0 ≤ a) (L : (Jvm.Cond.lays C O n d).before a0 Z = true ∨ ((Jvm.Cond.laysFinal C O n d).before a0 Z = true ∧ own = O ∧ meth.name = "<init>")) (wi : (Jvm.Cond.instantiable C kk).before a0 Z = true)
    (hty : parseFieldDescriptor d = some ty) (hn : narrow ty v = v) (hf : fits ty v = true) {g : JFrame} (hg : g.method = m) {rest : List Value} (hst : g.stack = v :: .ref a :: rest) (hd : decode c.code g.pc = .ok (.putfield index, 3))
    (k : ∀ (T' : State) (h' : Heap), Sd p l e R s m args below meth c n0 T' h' cells slots → Wr h h' a (Jvm.RoadKit.slotOf Z O n d) v → Fld Z h' a O n d v → G T' { g with pc := g.pc + 3, stack := rest }) : G T g := by
  obtain ⟨vm₁, L0, k0, X, N, eh, hS, hk0⟩ := X
  have hZ := wzh hZ hS
  have hown := wo hown hS
  obtain ⟨T', h', X', e', W, st⟩ := putF X hx hZ hown w via eh F E L wi hty hn hf hg hst hd
  exact hs.go st (k T' h' ⟨vm₁, _, k0, X', Fr.snoc X' N ga, e', hS, Nat.le_trans hk0 (Keep.of_wr W).1⟩ W (F.same W))
theorem backOfW {y : MethodName} {bytes : ByteArray} {maxL : Nat} {ret : Option FieldType} {rm : Room} {len W : Nat} {as' : Array Value} (hM : Con l Z y bytes maxL ret [] rm as' h n0 Q)
    (hZ : Z.Warmed39 s.vm) (wc : (Jvm.Cond.code y bytes maxL ret).before a0 Z = true) (wi : (Jvm.Cond.initialized y.cls).before a0 Z = true) (hf : rm.frames + 1 ≤ R.frames) (hl : W + (maxL + 11) + rm.locals ≤ R.locals) :
    BackS l R p e below s args y len W (fun A a => a = as' ∧ A.U.heap = h ∧ A.cells + rm.cells ≤ R.cells ∧ A.slots + rm.slots ≤ R.slots)
      (fun A _ v B => ∃ L, (Q v B.U.heap ∧ Fr n0 L) ∧ B.locs = A.locs ++ L ∧ B.cells = A.cells + rm.cells ∧ B.slots = A.slots + rm.slots) :=
  BackS.of_freeW (bytes := bytes) (maxL := maxL) (ret := ret) (E := fun _ _ o t L k n => k = rm.cells ∧ n = rm.slots ∧ ∃ v, o = .returned v ∧ (Q v t.heap ∧ Fr n0 L)) hM hf hl
    (fun m meth c A a Y hp => have hU : Z.Warmed39 A.U.vm := wtrans hZ Y.warmed
      ⟨by show (Jvm.Cond.and _ .tt).before a A.U = true; rw [Cond.before_and, mv hU wc]; rfl, mv hU wc, mv hU wi, hp.2.2.1, hp.2.2.2⟩)
    (fun m meth c A a g mk Y hp => ⟨hp.1, wtrans hZ Y.warmed, hp.2.1⟩) (fun _ _ _ _ _ _ _ _ _ => trivial)
    (fun _ _ _ _ ⟨v, L, h1, h2, h3⟩ => ⟨L, _, _, h3, rfl, rfl, v, h1, h2⟩)
    (fun m meth c A a g mk v t L k n Y hp _ _ ⟨e1, e2, v', e3, e4⟩ => by cases e3; subst e1 e2; exact ⟨L, e4, rfl, rfl, rfl⟩)
theorem rLdcS (hs : Clo p e below G) (X : Sd p l e R s m args below meth c n0 T h cells slots) (hx : p.tables.exec = Jvm.exec) (hZ : Z.Warmed39 s.vm) {own text : String} {index : Nat} (hown : s.vm.findClass own = some m.cls) (w : (Jvm.Cond.stringLink own index text).before a0 Z = true) (wS : ∀ a ∈ Bundle.stringAtoms, a.before a0 Z = true)
    {g : JFrame} (hg : g.method = m) (hd : decode c.code g.pc = .ok (.ldc index, 2)) (n : Nat) (hn : 4 * text.toList.length ≤ n) (hbig : n ≤ 536870912) (hc : cells + 2 ≤ R.cells) (hl : slots + (n + 4) ≤ R.slots)
    (k : ∀ (T' : State) (h' : Heap) (a : Addr), Sd p l e R s m args below meth c n0 T' h' (cells + 2) (slots + (n + 4)) → Ext h h' → G T' { g with pc := g.pc + 2, stack := .ref a :: g.stack }) : G T g := by
  obtain ⟨vm₁, L, k0, X, N, eh, hS, hk0⟩ := X
  obtain ⟨a, T', h', k1, X', e', E, hS', hk', -, -, st⟩ := ldcS X hx (wzh hZ hS) (wo hown hS) w wS eh hS hk0 hg hd hn hbig hc hl
  exact hs.go st (k T' h' a ⟨T'.vm, L, k1, X', N, e', hS', hk'⟩ E)
/-! calls -/
theorem rCallS (hs : Clo p e below G) (X : Sd p l e R s m args below meth c n0 T h cells slots) (hx : p.tables.exec = Jvm.exec) (hZ : Z.Warmed39 s.vm) {own : String} {index : Nat} {y : MethodName} {bytes : ByteArray} {maxL : Nat} {ret : Option FieldType} {rm : Room} {as' : List Value} {Q' : Option Value → Heap → Prop}
    (hM : Con l Z y bytes maxL ret [] rm as'.toArray h n0 Q') (hown : s.vm.findClass own = some m.cls) (w1 : (Jvm.Cond.methodLink own index y).before a0 Z = true) (w2 : (Jvm.Cond.static y).before a0 Z = true) (w3 : (Jvm.Cond.initialized y.cls).before a0 Z = true) (w4 : (Jvm.Cond.code y bytes maxL ret).before a0 Z = true)
    (hy : y.cls ≠ "java/lang/invoke/MethodHandle" ∧ y.cls ≠ "java/lang/invoke/VarHandle") {g : JFrame} (hg : g.method = m) (hsize : g.locals.size = c.maxLocals) (rest : List Value) (hlen : ∀ sig, parseMethodDescriptor y.desc = some sig → as'.length = sig.parameters.length)
    (hst : g.stack = as'.reverse ++ rest) (W : Nat) (hW : 2 * g.monitorRoom + (rest.map fun v => v.category).sum ≤ W) (hd : decode c.code g.pc = .ok (.invokestatic index, 3))
    (hf : rm.frames + 1 ≤ R.frames) (hl : W + (maxL + 11) + rm.locals ≤ R.locals) (hc : cells + rm.cells ≤ R.cells) (hsl : slots + rm.slots ≤ R.slots)
    (k : ∀ (v : Option Value) (T' : State) (h' : Heap), Sd p l e R s m args below meth c n0 T' h' (cells + rm.cells) (slots + rm.slots) → Q' v h' → G T' { g with pc := g.pc + 3, stack := v.toList ++ rest }) : G T g := by
  obtain ⟨vm₀, L, k0, X, N, eh, hS, hk0⟩ := X
  have hZ := wzh hZ hS
  have hown := wo hown hS
  have w4' : (Jvm.Cond.code y bytes maxL ret).before args (s.setVm vm₀) = true := mvT hZ w4
  obtain ⟨mk, hnamed⟩ := Cond.code_named w4'
  obtain ⟨methM, cM, hmethM, -, -, -, -, -, -, hsigM⟩ := Cond.code_spec hnamed w4'
  obtain ⟨v, vm₁, ⟨T', L', k', n'⟩, -, X', hS', hgr, ⟨Lc, ⟨hQ, hN⟩, l', y', z'⟩, st⟩ := X.staticBackS hx (y := y) hown (mvT hZ w1) (mvT hZ w2) (mvT hZ w3) hnamed hmethM hsigM hy (backOfW (W := W) hM hZ w4 w3 hf hl) hg hsize (Steps.refl _) (argsL := as') (rest := rest) hlen hst hW hd (fun _ _ => ⟨rfl, eh, hc, hsl⟩)
  dsimp only [Pt.U, Pt.locs, Pt.cells, Pt.slots] at X' hS' hgr l' y' z' st hQ
  subst l' y' z'
  exact hs.go (fun _ q => st.trans q) (k v T' T'.heap ⟨T'.vm, _, T'.heap.size, X', Fr.app N hN, rfl, hS.trans hS' (Nat.le_trans hk0 (by rw [← eh]; exact hgr)), Nat.le_refl _⟩ hQ)
theorem rCallI (hs : Clo p e below G) (X : Sd p l e R s m args below meth c n0 T h cells slots) (hx : p.tables.exec = Jvm.exec) (hZ : Z.Warmed39 s.vm) {own : String} {index : Nat} {y : MethodName} {bytes : ByteArray} {maxL : Nat} {rm : Room} {a : Addr} {as' : List Value} {Q' : Option Value → Heap → Prop}
    (hM : Con l Z y bytes maxL none [] rm (Value.ref a :: as').toArray h n0 Q') (hyn : y.name = "<init>") (hown : s.vm.findClass own = some m.cls) (w1 : (Jvm.Cond.methodLink own index y).before a0 Z = true) (w2 : (Jvm.Cond.instanceMethod y).before a0 Z = true) (w3 : (Jvm.Cond.initialized y.cls).before a0 Z = true) (w4 : (Jvm.Cond.code y bytes maxL none).before a0 Z = true)
    (hy : y.cls ≠ "java/lang/invoke/MethodHandle" ∧ y.cls ≠ "java/lang/invoke/VarHandle") {g : JFrame} (hg : g.method = m) (hsize : g.locals.size = c.maxLocals) (rest : List Value) (hlen : ∀ sig, parseMethodDescriptor y.desc = some sig → as'.length = sig.parameters.length)
    (hst : g.stack = as'.reverse ++ .ref a :: rest) (W : Nat) (hW : 2 * g.monitorRoom + (rest.map fun v => v.category).sum ≤ W) (hd : decode c.code g.pc = .ok (.invokespecial index, 3))
    (hf : rm.frames + 1 ≤ R.frames) (hl : W + (maxL + 11) + rm.locals ≤ R.locals) (hc : cells + rm.cells ≤ R.cells) (hsl : slots + rm.slots ≤ R.slots)
    (k : ∀ (v : Option Value) (T' : State) (h' : Heap), Sd p l e R s m args below meth c n0 T' h' (cells + rm.cells) (slots + rm.slots) → Q' v h' → G T' { g with pc := g.pc + 3, stack := v.toList ++ rest }) : G T g := by
  obtain ⟨vm₀, L, k0, X, N, eh, hS, hk0⟩ := X
  have hZ := wzh hZ hS
  have hown := wo hown hS
  obtain ⟨v, vm₁, ⟨T', L', k', n'⟩, -, X', hS', hgr, ⟨Lc, ⟨hQ, hN⟩, l', y', z'⟩, st⟩ := X.specialBackS hx (y := y) hyn hown (mvT hZ w1) (mvT hZ w2) (mvT hZ w4) hy (backOfW (W := W) hM hZ w4 w3 hf hl) hg hsize (Steps.refl _) (a := a) (argsL := as') (rest := rest) hlen hst hW hd (fun _ _ => ⟨rfl, eh, hc, hsl⟩)
  dsimp only [Pt.U, Pt.locs, Pt.cells, Pt.slots] at X' hS' hgr l' y' z' st hQ
  subst l' y' z'
  exact hs.go (fun _ q => st.trans q) (k v T' T'.heap ⟨T'.vm, _, T'.heap.size, X', Fr.app N hN, rfl, hS.trans hS' (Nat.le_trans hk0 (by rw [← eh]; exact hgr)), Nat.le_refl _⟩ hQ)
theorem rCallV (hs : Clo p e below G) (X : Sd p l e R s m args below meth c n0 T h cells slots) (hx : p.tables.exec = Jvm.exec) (hZ : Z.Warmed39 s.vm) {own C : String} {index : Nat} {y : MethodName} {bytes : ByteArray} {maxL : Nat} {ret : Option FieldType} {rm : Room} {a : Addr} {as' : List Value} {Q' : Option Value → Heap → Prop}
    (hM : Con l Z y bytes maxL ret [] rm (Value.ref a :: as').toArray h n0 Q') (E : Exa Z h a C) (hown : s.vm.findClass own = some m.cls) (w1 : (Jvm.Cond.methodLink own index y).before a0 Z = true) (w5 : (Jvm.Cond.declares y).before a0 Z = true) (w6 : (Jvm.Cond.selects C y y).before a0 Z = true) (w2 : (Jvm.Cond.instanceMethod y).before a0 Z = true) (w3 : (Jvm.Cond.initialized y.cls).before a0 Z = true) (w4 : (Jvm.Cond.code y bytes maxL ret).before a0 Z = true)
    (hy : y.cls ≠ "java/lang/invoke/MethodHandle" ∧ y.cls ≠ "java/lang/invoke/VarHandle") {g : JFrame} (hg : g.method = m) (hsize : g.locals.size = c.maxLocals) (rest : List Value) (hlen : ∀ sig, parseMethodDescriptor y.desc = some sig → as'.length = sig.parameters.length)
    (hst : g.stack = as'.reverse ++ .ref a :: rest) (W : Nat) (hW : 2 * g.monitorRoom + (rest.map fun v => v.category).sum ≤ W) (hd : decode c.code g.pc = .ok (.invokevirtual index, 3))
    (hf : rm.frames + 1 ≤ R.frames) (hl : W + (maxL + 11) + rm.locals ≤ R.locals) (hc : cells + rm.cells ≤ R.cells) (hsl : slots + rm.slots ≤ R.slots)
    (k : ∀ (v : Option Value) (T' : State) (h' : Heap), Sd p l e R s m args below meth c n0 T' h' (cells + rm.cells) (slots + rm.slots) → Q' v h' → G T' { g with pc := g.pc + 3, stack := v.toList ++ rest }) : G T g := by
  obtain ⟨vm₀, L, k0, X, N, eh, hS, hk0⟩ := X
  have hZ := wzh hZ hS
  have hown := wo hown hS
  obtain ⟨cB, kB, qa, qb, qc⟩ := isOf (T := T) hZ eh E
  obtain ⟨v, vm₁, ⟨T', L', k', n'⟩, -, X', hS', hgr, ⟨Lc, ⟨hQ, hN⟩, l', y', z'⟩, st⟩ := X.virtualBackS hx (y := y) (z := y) hown (mvT hZ w1) (mvT hZ w5) (notFace_of_selects (args := #[]) (mvT hZ w6)) (mvT hZ w6) (mvT hZ w2) hy (backOfW (W := W) hM hZ w4 w3 hf hl) qa qc hg hsize (Steps.refl _) (argsL := as') (rest := rest) hlen hst hW hd (fun _ _ => ⟨rfl, eh, hc, hsl⟩)
  dsimp only [Pt.U, Pt.locs, Pt.cells, Pt.slots] at X' hS' hgr l' y' z' st hQ
  subst l' y' z'
  exact hs.go (fun _ q => st.trans q) (k v T' T'.heap ⟨T'.vm, _, T'.heap.size, X', Fr.app N hN, rfl, hS.trans hS' (Nat.le_trans hk0 (by rw [← eh]; exact hgr)), Nat.le_refl _⟩ hQ)
/-! branches -/
theorem ltL {x y : Int64} (h : x < y) : if_icmp.holds .lt (lcmpW x y) 0 = true ∧ if_icmp.holds .ge (lcmpW x y) 0 = false := have q := tlt ((lw_lt x y).mpr h); ⟨q.1, q.2.1⟩
theorem nltL {x y : Int64} (h : ¬ x < y) : if_icmp.holds .lt (lcmpW x y) 0 = false ∧ if_icmp.holds .ge (lcmpW x y) 0 = true := have q := flt (fun z => h ((lw_lt x y).mp z)); ⟨q.1, q.2.1⟩
theorem gtL {x y : Int64} (h : y < x) : if_icmp.holds .gt (lcmpW x y) 0 = true ∧ if_icmp.holds .le (lcmpW x y) 0 = false := have q := tlt ((lw_gt x y).mpr h); ⟨q.2.2.1, q.2.2.2⟩
theorem ngtL {x y : Int64} (h : ¬ y < x) : if_icmp.holds .gt (lcmpW x y) 0 = false ∧ if_icmp.holds .le (lcmpW x y) 0 = true := have q := flt (fun z => h ((lw_gt x y).mp z)); ⟨q.2.2.1, q.2.2.2⟩
theorem eqL {x y : Int64} (h : x = y) : if_icmp.holds .eq (lcmpW x y) 0 = true ∧ if_icmp.holds .ne (lcmpW x y) 0 = false := teq ((lw_eq x y).mpr h)
theorem neqL {x y : Int64} (h : ¬ x = y) : if_icmp.holds .eq (lcmpW x y) 0 = false ∧ if_icmp.holds .ne (lcmpW x y) 0 = true := feq (fun z => h ((lw_eq x y).mp z))
theorem nameIt {α : Type} {P : α → Prop} (x : α) (k : ∀ z, z = x → P z) : P x := k x rfl
theorem eq64 {x y : Int64} (h : x.toInt = y.toInt) : x = y := Int64.toInt_inj.mp h
theorem eq32 {x y : Int32} (h : x.toInt = y.toInt) : x = y := Int32.toInt_inj.mp h
theorem lt64 {x y : Int64} : x < y ↔ x.toInt < y.toInt := Int64.lt_iff_toInt_lt
theorem lt32 {x y : Int32} : x < y ↔ x.toInt < y.toInt := Int32.lt_iff_toInt_lt
theorem e64 {x y : Int64} : x = y ↔ x.toInt = y.toInt := Int64.toInt_inj.symm
theorem e32 {x y : Int32} : x = y ↔ x.toInt = y.toInt := Int32.toInt_inj.symm
theorem c_lremM (x y : Int64) (d : Int) (hy : y.toInt = d) : (0 ≤ x.toInt → (x % y).toInt = x.toInt % d) ∧ (x.toInt < 0 → (x % y).toInt = -((-x.toInt) % d)) := by rw [Int64.toInt_mod, hy]; exact tr _ _
theorem nar_byte (x : Int32) : x.toInt8.toInt32.toInt8.toInt32 = x.toInt8.toInt32 := by simp
end OwnKit

theorem own_sa : ∀ d ∈ Bundle.stringAtoms, d ∈ tables_1 := by
  intro d hd
  simp only [Bundle.stringAtoms, List.mem_cons, List.not_mem_nil, or_false] at hd
  rcases hd with rfl | rfl | rfl | rfl | rfl | rfl | rfl
  · first | exact List.mem_of_getElem? (i := 8) rfl | exact List.mem_of_getElem? (i := 9) rfl | exact List.mem_of_getElem? (i := 10) rfl | exact List.mem_of_getElem? (i := 11) rfl | exact List.mem_of_getElem? (i := 12) rfl | exact List.mem_of_getElem? (i := 13) rfl | exact List.mem_of_getElem? (i := 14) rfl
  · first | exact List.mem_of_getElem? (i := 8) rfl | exact List.mem_of_getElem? (i := 9) rfl | exact List.mem_of_getElem? (i := 10) rfl | exact List.mem_of_getElem? (i := 11) rfl | exact List.mem_of_getElem? (i := 12) rfl | exact List.mem_of_getElem? (i := 13) rfl | exact List.mem_of_getElem? (i := 14) rfl
  · first | exact List.mem_of_getElem? (i := 8) rfl | exact List.mem_of_getElem? (i := 9) rfl | exact List.mem_of_getElem? (i := 10) rfl | exact List.mem_of_getElem? (i := 11) rfl | exact List.mem_of_getElem? (i := 12) rfl | exact List.mem_of_getElem? (i := 13) rfl | exact List.mem_of_getElem? (i := 14) rfl
  · first | exact List.mem_of_getElem? (i := 8) rfl | exact List.mem_of_getElem? (i := 9) rfl | exact List.mem_of_getElem? (i := 10) rfl | exact List.mem_of_getElem? (i := 11) rfl | exact List.mem_of_getElem? (i := 12) rfl | exact List.mem_of_getElem? (i := 13) rfl | exact List.mem_of_getElem? (i := 14) rfl
  · first | exact List.mem_of_getElem? (i := 8) rfl | exact List.mem_of_getElem? (i := 9) rfl | exact List.mem_of_getElem? (i := 10) rfl | exact List.mem_of_getElem? (i := 11) rfl | exact List.mem_of_getElem? (i := 12) rfl | exact List.mem_of_getElem? (i := 13) rfl | exact List.mem_of_getElem? (i := 14) rfl
  · first | exact List.mem_of_getElem? (i := 8) rfl | exact List.mem_of_getElem? (i := 9) rfl | exact List.mem_of_getElem? (i := 10) rfl | exact List.mem_of_getElem? (i := 11) rfl | exact List.mem_of_getElem? (i := 12) rfl | exact List.mem_of_getElem? (i := 13) rfl | exact List.mem_of_getElem? (i := 14) rfl
  · first | exact List.mem_of_getElem? (i := 8) rfl | exact List.mem_of_getElem? (i := 9) rfl | exact List.mem_of_getElem? (i := 10) rfl | exact List.mem_of_getElem? (i := 11) rfl | exact List.mem_of_getElem? (i := 12) rfl | exact List.mem_of_getElem? (i := 13) rfl | exact List.mem_of_getElem? (i := 14) rfl
theorem d2_0 : decode jdk_30_method_1_code 0 = .ok (.aload_n 0, 1) := by decide +kernel
theorem d2_1 : decode jdk_30_method_1_code 1 = .ok (.invokespecial 1, 3) := by decide +kernel
theorem d2_4 : decode jdk_30_method_1_code 4 = .ok (.return_, 1) := by decide +kernel
theorem pn_2 : plainFor (⟨"java/lang/Record", "<init>", "()V"⟩ : MethodName) = true := plainFor_of_name (by first | (simp [plainName, overriddenIn]; done) | decide +kernel)
theorem ef_2 (m : MethodId) (x0 : Addr) : entryFrame m #[(.ref x0)] 1 = mkF m 0 #[.val (.ref x0)] [] := by first | (simp [entryFrame, mkF, argsToLocals, Value.category]; done) | rfl
theorem hy_2 : ((⟨"java/lang/Record", "<init>", "()V"⟩ : MethodName)).cls ≠ "java/lang/invoke/MethodHandle" ∧ ((⟨"java/lang/Record", "<init>", "()V"⟩ : MethodName)).cls ≠ "java/lang/invoke/VarHandle" := by decide
set_option maxRecDepth 65536 in
set_option maxHeartbeats 40000000 in
theorem rm2 (l : Launch) (Z : State) (a0 : Array Value) (hw : ∀ d ∈ tables_1, d.before a0 Z = true) (ws : List Jvm.Cond) (a : Addr) (h0 : Heap) (n0 : Nat) (Z0 : n0 ≤ h0.size)  :
    Con l Z (⟨"java/lang/Record", "<init>", "()V"⟩ : MethodName) jdk_30_method_1_code 1 none ws ({ frames := 1, cells := 0, slots := 0, locals := 12 } : Room) #[(.ref a)] h0 n0 (fun v h => v = none ∧ h = h0) := by
  refine Con.of pn_2 ?_
  intro G p e s m below meth c s₁ hs hx hby hml hown hnm hret hZ X0 fin
  have hml : c.maxLocals = 1 := hml
  have hown : s.vm.findClass "java/lang/Record" = some m.cls := hown
  rw [ef_2]
  show G s₁ (mkF m 0 #[.val (.ref a)] [])
  refine hs.go (fun _ kk_ => XS.aloadN X0.here hx rfl (hb hby d2_0) rfl rfl kk_) ?_
  show G s₁ (mkF m 1 #[.val (.ref a)] [(.ref a)])
  refine rInitO hs X0 hx hZ hown (hw _ (List.mem_of_getElem? (i := 23) rfl)) (hw _ (List.mem_of_getElem? (i := 24) rfl)) (hw _ (List.mem_of_getElem? (i := 25) rfl)) rfl (by rw [hml]; rfl) rfl (hb hby d2_1) (by decide) (W := 0) (by show 2 * 0 + _ ≤ _; exact Nat.le_of_eq rfl) (by decide) (fun T1 X1 => ?_)
  show G T1 (mkF m 4 #[.val (.ref a)] [])
  exact rRetV fin X1 hx (by decide) (by decide) hret (hb hby d2_4) ⟨rfl, rfl⟩
theorem d4_0 : decode jdk_31_method_11_code 0 = .ok (.aload_n 0, 1) := by decide +kernel
theorem d4_1 : decode jdk_31_method_11_code 1 = .ok (.ifnonnull 12, 3) := by decide +kernel
theorem d4_13 : decode jdk_31_method_11_code 13 = .ok (.aload_n 0, 1) := by decide +kernel
theorem d4_14 : decode jdk_31_method_11_code 14 = .ok (.areturn, 1) := by decide +kernel
theorem pn_4 : plainFor (⟨"java/util/Objects", "requireNonNull", "(Ljava/lang/Object;Ljava/lang/String;)Ljava/lang/Object;"⟩ : MethodName) = true := plainFor_of_name (by first | (simp [plainName, overriddenIn]; done) | decide +kernel)
theorem ef_4 (m : MethodId) (x0 : Addr) (x1 : Addr) : entryFrame m #[(.ref x0), (.ref x1)] 2 = mkF m 0 #[.val (.ref x0), .val (.ref x1)] [] := by first | (simp [entryFrame, mkF, argsToLocals, Value.category]; done) | rfl
theorem hy_4 : ((⟨"java/util/Objects", "requireNonNull", "(Ljava/lang/Object;Ljava/lang/String;)Ljava/lang/Object;"⟩ : MethodName)).cls ≠ "java/lang/invoke/MethodHandle" ∧ ((⟨"java/util/Objects", "requireNonNull", "(Ljava/lang/Object;Ljava/lang/String;)Ljava/lang/Object;"⟩ : MethodName)).cls ≠ "java/lang/invoke/VarHandle" := by decide
set_option maxRecDepth 65536 in
set_option maxHeartbeats 40000000 in
theorem rm4 (l : Launch) (Z : State) (a0 : Array Value) (hw : ∀ d ∈ tables_1, d.before a0 Z = true) (ws : List Jvm.Cond) (a b : Addr) (h0 : Heap) (n0 : Nat) (Z0 : n0 ≤ h0.size)  :
    Con l Z (⟨"java/util/Objects", "requireNonNull", "(Ljava/lang/Object;Ljava/lang/String;)Ljava/lang/Object;"⟩ : MethodName) jdk_31_method_11_code 2 (some (.object "java/lang/Object")) ws ({ frames := 0, cells := 0, slots := 0, locals := 0 } : Room) #[(.ref a), (.ref b)] h0 n0 (fun v h => v = some (.ref a) ∧ h = h0) := by
  refine Con.of pn_4 ?_
  intro G p e s m below meth c s₁ hs hx hby hml hown hnm hret hZ X0 fin
  have hml : c.maxLocals = 2 := hml
  have hown : s.vm.findClass "java/util/Objects" = some m.cls := hown
  rw [ef_4]
  show G s₁ (mkF m 0 #[.val (.ref a), .val (.ref b)] [])
  refine hs.go (fun _ kk_ => XS.aloadN X0.here hx rfl (hb hby d4_0) rfl rfl kk_) ?_
  show G s₁ (mkF m 1 #[.val (.ref a), .val (.ref b)] [(.ref a)])
  refine hs.go (fun _ kk_ => XS.ifnonnullYes X0.here hx rfl (pc0 := 1) (pc' := 13) rfl (hb hby d4_1) rfl (by decide) (by decide) kk_) ?_
  show G s₁ (mkF m 13 #[.val (.ref a), .val (.ref b)] [])
  refine hs.go (fun _ kk_ => XS.aloadN X0.here hx rfl (hb hby d4_13) rfl rfl kk_) ?_
  show G s₁ (mkF m 14 #[.val (.ref a), .val (.ref b)] [(.ref a)])
  exact rRetA fin X0 hx (by decide) (by decide) hret rfl rfl rfl (hb hby d4_14) ⟨rfl, rfl⟩
theorem pd_0 : parseMethodDescriptor "()V" = some ⟨[], none⟩ := by decide +kernel
theorem pd_1 : parseMethodDescriptor "(Ljava/lang/Object;Ljava/lang/String;)Ljava/lang/Object;" = some ⟨[(.object "java/lang/Object"), (.object "java/lang/String")], some (.object "java/lang/Object")⟩ := by decide +kernel
theorem d1_0 : decode prog_16_method_1_code 0 = .ok (.aload_n 0, 1) := by decide +kernel
theorem d1_1 : decode prog_16_method_1_code 1 = .ok (.invokespecial 3, 3) := by decide +kernel
theorem d1_4 : decode prog_16_method_1_code 4 = .ok (.aload_n 1, 1) := by decide +kernel
theorem d1_5 : decode prog_16_method_1_code 5 = .ok (.ldc 9, 2) := by decide +kernel
theorem d1_7 : decode prog_16_method_1_code 7 = .ok (.invokestatic 11, 3) := by decide +kernel
theorem d1_10 : decode prog_16_method_1_code 10 = .ok (.pop, 1) := by decide +kernel
theorem d1_11 : decode prog_16_method_1_code 11 = .ok (.iload_n 2, 1) := by decide +kernel
theorem d1_12 : decode prog_16_method_1_code 12 = .ok (.iconst 1, 1) := by decide +kernel
theorem d1_13 : decode prog_16_method_1_code 13 = .ok (.if_icmp .ge 18, 3) := by decide +kernel
theorem d1_31 : decode prog_16_method_1_code 31 = .ok (.lload_n 3, 1) := by decide +kernel
theorem d1_32 : decode prog_16_method_1_code 32 = .ok (.lconst 1, 1) := by decide +kernel
theorem d1_33 : decode prog_16_method_1_code 33 = .ok (.lcmp, 1) := by decide +kernel
theorem d1_34 : decode prog_16_method_1_code 34 = .ok (.ifCond .ge 18, 3) := by decide +kernel
theorem d1_52 : decode prog_16_method_1_code 52 = .ok (.aload_n 0, 1) := by decide +kernel
theorem d1_53 : decode prog_16_method_1_code 53 = .ok (.aload_n 1, 1) := by decide +kernel
theorem d1_54 : decode prog_16_method_1_code 54 = .ok (.putfield 29, 3) := by decide +kernel
theorem d1_57 : decode prog_16_method_1_code 57 = .ok (.aload_n 0, 1) := by decide +kernel
theorem d1_58 : decode prog_16_method_1_code 58 = .ok (.iload_n 2, 1) := by decide +kernel
theorem d1_59 : decode prog_16_method_1_code 59 = .ok (.putfield 34, 3) := by decide +kernel
theorem d1_62 : decode prog_16_method_1_code 62 = .ok (.aload_n 0, 1) := by decide +kernel
theorem d1_63 : decode prog_16_method_1_code 63 = .ok (.lload_n 3, 1) := by decide +kernel
theorem d1_64 : decode prog_16_method_1_code 64 = .ok (.putfield 38, 3) := by decide +kernel
theorem d1_67 : decode prog_16_method_1_code 67 = .ok (.return_, 1) := by decide +kernel
theorem pn_1 : plainFor (⟨"com/example/rowcall/rowcall/Family", "<init>", "(Ljava/lang/String;IJ)V"⟩ : MethodName) = true := plainFor_of_name (by first | (simp [plainName, overriddenIn]; done) | decide +kernel)
theorem ef_1 (m : MethodId) (x0 : Addr) (x1 : Addr) (x2 : Int32) (x3 : Int64) : entryFrame m #[(.ref x0), (.ref x1), (.int x2), (.long x3)] 5 = mkF m 0 #[.val (.ref x0), .val (.ref x1), .val (.int x2), .val (.long x3), .second] [] := by first | (simp [entryFrame, mkF, argsToLocals, Value.category]; done) | rfl
theorem hy_1 : ((⟨"com/example/rowcall/rowcall/Family", "<init>", "(Ljava/lang/String;IJ)V"⟩ : MethodName)).cls ≠ "java/lang/invoke/MethodHandle" ∧ ((⟨"com/example/rowcall/rowcall/Family", "<init>", "(Ljava/lang/String;IJ)V"⟩ : MethodName)).cls ≠ "java/lang/invoke/VarHandle" := by decide
set_option maxRecDepth 65536 in
set_option maxHeartbeats 40000000 in
theorem rm1 (l : Launch) (Z : State) (a0 : Array Value) (hw : ∀ d ∈ tables_1, d.before a0 Z = true) (ws : List Jvm.Cond) (a a1 : Addr) (q3 : Int64) (h0 : Heap) (n0 : Nat) (Z0 : n0 ≤ h0.size) (E_a : Exa Z h0 a "com/example/rowcall/rowcall/Family") (g_a : n0 ≤ a) (F_name_a : Fld Z h0 a "com/example/rowcall/rowcall/Family" "name" "Ljava/lang/String;" .null) (F_maxVersions_a : Fld Z h0 a "com/example/rowcall/rowcall/Family" "maxVersions" "I" (.int (0 : Int32))) (F_ttlSeconds_a : Fld Z h0 a "com/example/rowcall/rowcall/Family" "ttlSeconds" "J" (.long (0 : Int64))) (hq1 : ¬ (q3 < (1 : Int64))) :
    Con l Z (⟨"com/example/rowcall/rowcall/Family", "<init>", "(Ljava/lang/String;IJ)V"⟩ : MethodName) prog_16_method_1_code 5 none ws ({ frames := 2, cells := 2, slots := 20, locals := 24 } : Room) #[(.ref a), (.ref a1), (.int (1 : Int32)), (.long q3)] h0 n0 (fun v h => v = none ∧ Keep h0 h [a] ∧ Exa Z h a "com/example/rowcall/rowcall/Family" ∧ Fld Z h a "com/example/rowcall/rowcall/Family" "ttlSeconds" "J" (.long q3)) := by
  refine Con.of pn_1 ?_
  intro G p e s m below meth c s₁ hs hx hby hml hown hnm hret hZ X0 fin
  have hml : c.maxLocals = 5 := hml
  have hown : s.vm.findClass "com/example/rowcall/rowcall/Family" = some m.cls := hown
  rw [ef_1]
  have K := Keep.refl h0 ([a] : List Addr)
  have Ksz := K.1
  show G s₁ (mkF m 0 #[.val (.ref a), .val (.ref a1), .val (.int (1 : Int32)), .val (.long q3), .second] [])
  refine hs.go (fun _ kk_ => XS.aloadN X0.here hx rfl (hb hby d1_0) rfl rfl kk_) ?_
  show G s₁ (mkF m 1 #[.val (.ref a), .val (.ref a1), .val (.int (1 : Int32)), .val (.long q3), .second] [(.ref a)])
  refine rCallI hs X0 hx hZ (as' := []) (rm2 l Z a0 hw [] a h0 n0 Z0) rfl hown (hw _ (List.mem_of_getElem? (i := 18) rfl)) (hw _ (List.mem_of_getElem? (i := 19) rfl)) (hw _ (List.mem_of_getElem? (i := 21) rfl)) (hw _ (List.mem_of_getElem? (i := 22) rfl)) hy_2 rfl (by rw [hml]; rfl) [] (lenOf pd_0 rfl) rfl 0 (by show 2 * 0 + _ ≤ _; exact Nat.le_of_eq rfl) (hb hby d1_1) (by decide) (by decide) (by decide) (by decide) (fun r1 T1 h1 X1 q1 => ?_)
  obtain ⟨rfl, qh1⟩ := q1
  rw [qh1] at X1
  show G T1 (mkF m 4 #[.val (.ref a), .val (.ref a1), .val (.int (1 : Int32)), .val (.long q3), .second] [])
  refine hs.go (fun _ kk_ => XS.aloadN X1.here hx rfl (hb hby d1_4) rfl rfl kk_) ?_
  show G T1 (mkF m 5 #[.val (.ref a), .val (.ref a1), .val (.int (1 : Int32)), .val (.long q3), .second] [(.ref a1)])
  refine rLdcS hs X1 hx hZ hown (hw _ (List.mem_of_getElem? (i := 26) rfl)) (fun d hd => hw d (own_sa d hd)) rfl (hb hby d1_5) 16 (by decide) (by decide) (by decide) (by decide) (fun T2 h2 ls2 X2 E2 => ?_)
  have Z0 := Nat.le_trans Z0 E2.1
  have E_a := E_a.ext E2
  have F_name_a := F_name_a.ext E2
  have F_maxVersions_a := F_maxVersions_a.ext E2
  have F_ttlSeconds_a := F_ttlSeconds_a.ext E2
  have K := K.ext E2
  have Ksz := K.1
  show G T2 (mkF m 7 #[.val (.ref a), .val (.ref a1), .val (.int (1 : Int32)), .val (.long q3), .second] [(.ref ls2), (.ref a1)])
  refine rCallS hs X2 hx hZ (as' := [(.ref a1), (.ref ls2)]) (rm4 l Z a0 hw [] a1 ls2 h2 n0 Z0) hown (hw _ (List.mem_of_getElem? (i := 27) rfl)) (hw _ (List.mem_of_getElem? (i := 28) rfl)) (hw _ (List.mem_of_getElem? (i := 29) rfl)) (hw _ (List.mem_of_getElem? (i := 30) rfl)) hy_4 rfl (by rw [hml]; rfl) [] (lenOf pd_1 rfl) rfl 0 (by show 2 * 0 + _ ≤ _; exact Nat.le_of_eq rfl) (hb hby d1_7) (by decide) (by decide) (by decide) (by decide) (fun r3 T3 h3 X3 q3 => ?_)
  obtain ⟨rfl, qh3⟩ := q3
  rw [qh3] at X3
  show G T3 (mkF m 10 #[.val (.ref a), .val (.ref a1), .val (.int (1 : Int32)), .val (.long q3), .second] [(.ref a1)])
  refine hs.go (fun _ kk_ => XS.pop X3.here hx rfl (hb hby d1_10) rfl rfl kk_) ?_
  show G T3 (mkF m 11 #[.val (.ref a), .val (.ref a1), .val (.int (1 : Int32)), .val (.long q3), .second] [])
  refine hs.go (fun _ kk_ => XS.iloadN X3.here hx rfl (hb hby d1_11) rfl  kk_) ?_
  show G T3 (mkF m 12 #[.val (.ref a), .val (.ref a1), .val (.int (1 : Int32)), .val (.long q3), .second] [(.int (1 : Int32))])
  refine hs.go (fun _ kk_ => XS.iconst X3.here hx rfl (hb hby d1_12) kk_) ?_
  show G T3 (mkF m 13 #[.val (.ref a), .val (.ref a1), .val (.int (1 : Int32)), .val (.long q3), .second] [(.int (1 : Int32)), (.int (1 : Int32))])
  refine hs.go (fun _ kk_ => XS.icmpYes X3.here hx rfl (pc0 := 13) (pc' := 31) rfl (hb hby d1_13) rfl (flt ((by decide) : ¬ ((1 : Int32) < (1 : Int32)))).2.1 (by decide) (by decide) kk_) ?_
  show G T3 (mkF m 31 #[.val (.ref a), .val (.ref a1), .val (.int (1 : Int32)), .val (.long q3), .second] [])
  refine hs.go (fun _ kk_ => XS.lloadN X3.here hx rfl (hb hby d1_31) rfl  kk_) ?_
  show G T3 (mkF m 32 #[.val (.ref a), .val (.ref a1), .val (.int (1 : Int32)), .val (.long q3), .second] [(.long q3)])
  refine hs.go (fun _ kk_ => XS.lconst X3.here hx rfl (hb hby d1_32) kk_) ?_
  show G T3 (mkF m 33 #[.val (.ref a), .val (.ref a1), .val (.int (1 : Int32)), .val (.long q3), .second] [(.long (1 : Int64)), (.long q3)])
  refine hs.go (fun _ kk_ => XS.lcmp X3.here hx rfl (hb hby d1_33) rfl kk_) ?_
  show G T3 (mkF m 34 #[.val (.ref a), .val (.ref a1), .val (.int (1 : Int32)), .val (.long q3), .second] [(.int (lcmpW q3 (1 : Int64)))])
  refine hs.go (fun _ kk_ => XS.ifYes X3.here hx rfl (pc0 := 34) (pc' := 52) rfl (hb hby d1_34) rfl ((if0 _ _).trans (nltL (hq1 : ¬ (q3 < (1 : Int64)))).2) (by decide) (by decide) kk_) ?_
  show G T3 (mkF m 52 #[.val (.ref a), .val (.ref a1), .val (.int (1 : Int32)), .val (.long q3), .second] [])
  refine hs.go (fun _ kk_ => XS.aloadN X3.here hx rfl (hb hby d1_52) rfl rfl kk_) ?_
  show G T3 (mkF m 53 #[.val (.ref a), .val (.ref a1), .val (.int (1 : Int32)), .val (.long q3), .second] [(.ref a)])
  refine hs.go (fun _ kk_ => XS.aloadN X3.here hx rfl (hb hby d1_53) rfl rfl kk_) ?_
  show G T3 (mkF m 54 #[.val (.ref a), .val (.ref a1), .val (.int (1 : Int32)), .val (.long q3), .second] [(.ref a1), (.ref a)])
  refine rPutF hs X3 hx hZ (.object "java/lang/String") hown (host := "") (Or.inl (hw _ (List.mem_of_getElem? (i := 31) rfl))) Via.refl F_name_a E_a g_a (Or.inr ⟨(hw _ (List.mem_of_getElem? (i := 32) rfl)), rfl, hnm⟩) (hw _ (List.mem_of_getElem? (i := 5) rfl)) (by decide) rfl rfl rfl rfl (hb hby d1_54) (fun T4 h4 X4 W4 F_name_a => ?_)
  have E_a := E_a.wr W4
  have F_maxVersions_a := F_maxVersions_a.other W4 (Or.inr (slot_ne (Or.inr (hw _ (List.mem_of_getElem? (i := 34) rfl))) (Or.inr (hw _ (List.mem_of_getElem? (i := 32) rfl))) (by decide) (t := .int) (t' := (.object "java/lang/String")) (by decide) (by decide)))
  have F_ttlSeconds_a := F_ttlSeconds_a.other W4 (Or.inr (slot_ne (Or.inr (hw _ (List.mem_of_getElem? (i := 36) rfl))) (Or.inr (hw _ (List.mem_of_getElem? (i := 32) rfl))) (by decide) (t := .long) (t' := (.object "java/lang/String")) (by decide) (by decide)))
  have K := K.wr W4 (Or.inl (by simp))
  have Ksz := K.1
  have Z0 := Nat.le_trans Z0 (Keep.of_wr W4).1
  show G T4 (mkF m 57 #[.val (.ref a), .val (.ref a1), .val (.int (1 : Int32)), .val (.long q3), .second] [])
  refine hs.go (fun _ kk_ => XS.aloadN X4.here hx rfl (hb hby d1_57) rfl rfl kk_) ?_
  show G T4 (mkF m 58 #[.val (.ref a), .val (.ref a1), .val (.int (1 : Int32)), .val (.long q3), .second] [(.ref a)])
  refine hs.go (fun _ kk_ => XS.iloadN X4.here hx rfl (hb hby d1_58) rfl  kk_) ?_
  show G T4 (mkF m 59 #[.val (.ref a), .val (.ref a1), .val (.int (1 : Int32)), .val (.long q3), .second] [(.int (1 : Int32)), (.ref a)])
  refine rPutF hs X4 hx hZ .int hown (host := "") (Or.inl (hw _ (List.mem_of_getElem? (i := 33) rfl))) Via.refl F_maxVersions_a E_a g_a (Or.inr ⟨(hw _ (List.mem_of_getElem? (i := 34) rfl)), rfl, hnm⟩) (hw _ (List.mem_of_getElem? (i := 5) rfl)) (by decide) rfl rfl rfl rfl (hb hby d1_59) (fun T5 h5 X5 W5 F_maxVersions_a => ?_)
  have E_a := E_a.wr W5
  have F_ttlSeconds_a := F_ttlSeconds_a.other W5 (Or.inr (slot_ne (Or.inr (hw _ (List.mem_of_getElem? (i := 36) rfl))) (Or.inr (hw _ (List.mem_of_getElem? (i := 34) rfl))) (by decide) (t := .long) (t' := .int) (by decide) (by decide)))
  have K := K.wr W5 (Or.inl (by simp))
  have Ksz := K.1
  have Z0 := Nat.le_trans Z0 (Keep.of_wr W5).1
  show G T5 (mkF m 62 #[.val (.ref a), .val (.ref a1), .val (.int (1 : Int32)), .val (.long q3), .second] [])
  refine hs.go (fun _ kk_ => XS.aloadN X5.here hx rfl (hb hby d1_62) rfl rfl kk_) ?_
  show G T5 (mkF m 63 #[.val (.ref a), .val (.ref a1), .val (.int (1 : Int32)), .val (.long q3), .second] [(.ref a)])
  refine hs.go (fun _ kk_ => XS.lloadN X5.here hx rfl (hb hby d1_63) rfl  kk_) ?_
  show G T5 (mkF m 64 #[.val (.ref a), .val (.ref a1), .val (.int (1 : Int32)), .val (.long q3), .second] [(.long q3), (.ref a)])
  refine rPutF hs X5 hx hZ .long hown (host := "") (Or.inl (hw _ (List.mem_of_getElem? (i := 35) rfl))) Via.refl F_ttlSeconds_a E_a g_a (Or.inr ⟨(hw _ (List.mem_of_getElem? (i := 36) rfl)), rfl, hnm⟩) (hw _ (List.mem_of_getElem? (i := 5) rfl)) (by decide) rfl rfl rfl rfl (hb hby d1_64) (fun T6 h6 X6 W6 F_ttlSeconds_a => ?_)
  have E_a := E_a.wr W6
  have K := K.wr W6 (Or.inl (by simp))
  have Ksz := K.1
  have Z0 := Nat.le_trans Z0 (Keep.of_wr W6).1
  show G T6 (mkF m 67 #[.val (.ref a), .val (.ref a1), .val (.int (1 : Int32)), .val (.long q3), .second] [])
  exact rRetV fin X6 hx (by decide) (by decide) hret (hb hby d1_67) ⟨rfl, K, E_a, F_ttlSeconds_a⟩
def fex (tt ts nw : Int64) : Int32 := if (9223372036854775 : Int64) < tt then (if (9223372036854775807 : Int64) < (nw - ts) then (1 : Int32) else (0 : Int32)) else (if (tt * (1000 : Int64)) < (nw - ts) then (1 : Int32) else (0 : Int32))
theorem d5_0 : decode prog_16_method_4_code 0 = .ok (.aload_n 0, 1) := by decide +kernel
theorem d5_1 : decode prog_16_method_4_code 1 = .ok (.getfield 38, 3) := by decide +kernel
theorem d5_4 : decode prog_16_method_4_code 4 = .ok (.ldc2_w 50, 3) := by decide +kernel
theorem d5_7 : decode prog_16_method_4_code 7 = .ok (.lcmp, 1) := by decide +kernel
theorem d5_8 : decode prog_16_method_4_code 8 = .ok (.ifCond .le 9, 3) := by decide +kernel
theorem d5_11 : decode prog_16_method_4_code 11 = .ok (.ldc2_w 42, 3) := by decide +kernel
theorem d5_14 : decode prog_16_method_4_code 14 = .ok (.goto 11, 3) := by decide +kernel
theorem d5_17 : decode prog_16_method_4_code 17 = .ok (.aload_n 0, 1) := by decide +kernel
theorem d5_18 : decode prog_16_method_4_code 18 = .ok (.getfield 38, 3) := by decide +kernel
theorem d5_21 : decode prog_16_method_4_code 21 = .ok (.ldc2_w 52, 3) := by decide +kernel
theorem d5_24 : decode prog_16_method_4_code 24 = .ok (.lmul, 1) := by decide +kernel
theorem d5_25 : decode prog_16_method_4_code 25 = .ok (.lstore 5, 2) := by decide +kernel
theorem d5_27 : decode prog_16_method_4_code 27 = .ok (.lload_n 3, 1) := by decide +kernel
theorem d5_28 : decode prog_16_method_4_code 28 = .ok (.lload_n 1, 1) := by decide +kernel
theorem d5_29 : decode prog_16_method_4_code 29 = .ok (.lsub, 1) := by decide +kernel
theorem d5_30 : decode prog_16_method_4_code 30 = .ok (.lload 5, 2) := by decide +kernel
theorem d5_32 : decode prog_16_method_4_code 32 = .ok (.lcmp, 1) := by decide +kernel
theorem d5_33 : decode prog_16_method_4_code 33 = .ok (.ifCond .le 7, 3) := by decide +kernel
theorem d5_36 : decode prog_16_method_4_code 36 = .ok (.iconst 1, 1) := by decide +kernel
theorem d5_37 : decode prog_16_method_4_code 37 = .ok (.goto 4, 3) := by decide +kernel
theorem d5_40 : decode prog_16_method_4_code 40 = .ok (.iconst 0, 1) := by decide +kernel
theorem d5_41 : decode prog_16_method_4_code 41 = .ok (.ireturn, 1) := by decide +kernel
theorem pn_5 : plainFor (⟨"com/example/rowcall/rowcall/Family", "expired", "(JJ)Z"⟩ : MethodName) = true := plainFor_of_name (by first | (simp [plainName, overriddenIn]; done) | decide +kernel)
theorem ef_5 (m : MethodId) (x0 : Addr) (x1 : Int64) (x2 : Int64) : entryFrame m #[(.ref x0), (.long x1), (.long x2)] 7 = mkF m 0 #[.val (.ref x0), .val (.long x1), .second, .val (.long x2), .second, .unset, .unset] [] := by first | (simp [entryFrame, mkF, argsToLocals, Value.category]; done) | rfl
theorem hy_5 : ((⟨"com/example/rowcall/rowcall/Family", "expired", "(JJ)Z"⟩ : MethodName)).cls ≠ "java/lang/invoke/MethodHandle" ∧ ((⟨"com/example/rowcall/rowcall/Family", "expired", "(JJ)Z"⟩ : MethodName)).cls ≠ "java/lang/invoke/VarHandle" := by decide
set_option maxRecDepth 65536 in
set_option maxHeartbeats 40000000 in
theorem rm5 (l : Launch) (Z : State) (a0 : Array Value) (hw : ∀ d ∈ tables_1, d.before a0 Z = true) (ws : List Jvm.Cond) (a : Addr) (ts nw tt : Int64) (h0 : Heap) (n0 : Nat) (Z0 : n0 ≤ h0.size) (F_ttlSeconds_a : Fld Z h0 a "com/example/rowcall/rowcall/Family" "ttlSeconds" "J" (.long tt)) :
    Con l Z (⟨"com/example/rowcall/rowcall/Family", "expired", "(JJ)Z"⟩ : MethodName) prog_16_method_4_code 7 (some .boolean) ws ({ frames := 0, cells := 0, slots := 0, locals := 0 } : Room) #[(.ref a), (.long ts), (.long nw)] h0 n0 (fun v h => v = some (.int (fex tt ts nw)) ∧ h = h0) := by
  refine Con.of pn_5 ?_
  intro G p e s m below meth c s₁ hs hx hby hml hown hnm hret hZ X0 fin
  have hml : c.maxLocals = 7 := hml
  have hown : s.vm.findClass "com/example/rowcall/rowcall/Family" = some m.cls := hown
  rw [ef_5]
  show G s₁ (mkF m 0 #[.val (.ref a), .val (.long ts), .second, .val (.long nw), .second, .unset, .unset] [])
  refine hs.go (fun _ kk_ => XS.aloadN X0.here hx rfl (hb hby d5_0) rfl rfl kk_) ?_
  show G s₁ (mkF m 1 #[.val (.ref a), .val (.long ts), .second, .val (.long nw), .second, .unset, .unset] [(.ref a)])
  refine rGetF hs X0 hx hZ hown (host := "") (Or.inl (hw _ (List.mem_of_getElem? (i := 35) rfl))) Via.refl F_ttlSeconds_a rfl rfl (hb hby d5_1) (fun T1 X1 => ?_)
  show G T1 (mkF m 4 #[.val (.ref a), .val (.long ts), .second, .val (.long nw), .second, .unset, .unset] [(.long tt)])
  refine rLdcL hs X1 hx hZ hown (hw _ (List.mem_of_getElem? (i := 42) rfl)) rfl (hb hby d5_4) ?_
  show G T1 (mkF m 7 #[.val (.ref a), .val (.long ts), .second, .val (.long nw), .second, .unset, .unset] [(.long (9223372036854775 : Int64)), (.long tt)])
  refine hs.go (fun _ kk_ => XS.lcmp X1.here hx rfl (hb hby d5_7) rfl kk_) ?_
  show G T1 (mkF m 8 #[.val (.ref a), .val (.long ts), .second, .val (.long nw), .second, .unset, .unset] [(.int (lcmpW tt (9223372036854775 : Int64)))])
  by_cases c8 : (9223372036854775 : Int64) < tt
  · refine hs.go (fun _ kk_ => XS.ifNo X1.here hx rfl (hb hby d5_8) rfl ((if0 _ _).trans (gtL c8).2) kk_) ?_
    show G T1 (mkF m 11 #[.val (.ref a), .val (.long ts), .second, .val (.long nw), .second, .unset, .unset] [])
    refine rLdcL hs X1 hx hZ hown (hw _ (List.mem_of_getElem? (i := 45) rfl)) rfl (hb hby d5_11) ?_
    show G T1 (mkF m 14 #[.val (.ref a), .val (.long ts), .second, .val (.long nw), .second, .unset, .unset] [(.long (9223372036854775807 : Int64))])
    refine hs.go (fun _ kk_ => XS.goto X1.here hx rfl (pc0 := 14) (pc' := 25) rfl (hb hby d5_14) (by decide) (by decide) kk_) ?_
    show G T1 (mkF m 25 #[.val (.ref a), .val (.long ts), .second, .val (.long nw), .second, .unset, .unset] [(.long (9223372036854775807 : Int64))])
    refine hs.go (fun _ kk_ => XS.lstore X1.here hx rfl (hb hby d5_25) rfl (l' := #[.val (.ref a), .val (.long ts), .second, .val (.long nw), .second, .val (.long (9223372036854775807 : Int64)), .second]) rfl kk_) ?_
    show G T1 (mkF m 27 #[.val (.ref a), .val (.long ts), .second, .val (.long nw), .second, .val (.long (9223372036854775807 : Int64)), .second] [])
    refine hs.go (fun _ kk_ => XS.lloadN X1.here hx rfl (hb hby d5_27) rfl  kk_) ?_
    show G T1 (mkF m 28 #[.val (.ref a), .val (.long ts), .second, .val (.long nw), .second, .val (.long (9223372036854775807 : Int64)), .second] [(.long nw)])
    refine hs.go (fun _ kk_ => XS.lloadN X1.here hx rfl (hb hby d5_28) rfl  kk_) ?_
    show G T1 (mkF m 29 #[.val (.ref a), .val (.long ts), .second, .val (.long nw), .second, .val (.long (9223372036854775807 : Int64)), .second] [(.long ts), (.long nw)])
    refine hs.go (fun _ kk_ => XS.lsub X1.here hx rfl (hb hby d5_29) rfl kk_) ?_
    show G T1 (mkF m 30 #[.val (.ref a), .val (.long ts), .second, .val (.long nw), .second, .val (.long (9223372036854775807 : Int64)), .second] [(.long (nw - ts))])
    refine hs.go (fun _ kk_ => XS.lload X1.here hx rfl (hb hby d5_30) rfl  kk_) ?_
    show G T1 (mkF m 32 #[.val (.ref a), .val (.long ts), .second, .val (.long nw), .second, .val (.long (9223372036854775807 : Int64)), .second] [(.long (9223372036854775807 : Int64)), (.long (nw - ts))])
    refine hs.go (fun _ kk_ => XS.lcmp X1.here hx rfl (hb hby d5_32) rfl kk_) ?_
    show G T1 (mkF m 33 #[.val (.ref a), .val (.long ts), .second, .val (.long nw), .second, .val (.long (9223372036854775807 : Int64)), .second] [(.int (lcmpW (nw - ts) (9223372036854775807 : Int64)))])
    by_cases c33 : (9223372036854775807 : Int64) < (nw - ts)
    · refine hs.go (fun _ kk_ => XS.ifNo X1.here hx rfl (hb hby d5_33) rfl ((if0 _ _).trans (gtL c33).2) kk_) ?_
      show G T1 (mkF m 36 #[.val (.ref a), .val (.long ts), .second, .val (.long nw), .second, .val (.long (9223372036854775807 : Int64)), .second] [])
      refine hs.go (fun _ kk_ => XS.iconst X1.here hx rfl (hb hby d5_36) kk_) ?_
      show G T1 (mkF m 37 #[.val (.ref a), .val (.long ts), .second, .val (.long nw), .second, .val (.long (9223372036854775807 : Int64)), .second] [(.int (1 : Int32))])
      refine hs.go (fun _ kk_ => XS.goto X1.here hx rfl (pc0 := 37) (pc' := 41) rfl (hb hby d5_37) (by decide) (by decide) kk_) ?_
      show G T1 (mkF m 41 #[.val (.ref a), .val (.long ts), .second, .val (.long nw), .second, .val (.long (9223372036854775807 : Int64)), .second] [(.int (1 : Int32))])
      exact rRetN fin X1 hx (by decide) (by decide) hret (by simp) (hb hby d5_41) (z' := (1 : Int32)) (by decide) ⟨by rw [fex, if_pos c8, if_pos c33], rfl⟩
    · refine hs.go (fun _ kk_ => XS.ifYes X1.here hx rfl (pc0 := 33) (pc' := 40) rfl (hb hby d5_33) rfl ((if0 _ _).trans (ngtL c33).2) (by decide) (by decide) kk_) ?_
      show G T1 (mkF m 40 #[.val (.ref a), .val (.long ts), .second, .val (.long nw), .second, .val (.long (9223372036854775807 : Int64)), .second] [])
      refine hs.go (fun _ kk_ => XS.iconst X1.here hx rfl (hb hby d5_40) kk_) ?_
      show G T1 (mkF m 41 #[.val (.ref a), .val (.long ts), .second, .val (.long nw), .second, .val (.long (9223372036854775807 : Int64)), .second] [(.int (0 : Int32))])
      exact rRetN fin X1 hx (by decide) (by decide) hret (by simp) (hb hby d5_41) (z' := (0 : Int32)) (by decide) ⟨by rw [fex, if_pos c8, if_neg c33], rfl⟩
  · refine hs.go (fun _ kk_ => XS.ifYes X1.here hx rfl (pc0 := 8) (pc' := 17) rfl (hb hby d5_8) rfl ((if0 _ _).trans (ngtL c8).2) (by decide) (by decide) kk_) ?_
    show G T1 (mkF m 17 #[.val (.ref a), .val (.long ts), .second, .val (.long nw), .second, .unset, .unset] [])
    refine hs.go (fun _ kk_ => XS.aloadN X1.here hx rfl (hb hby d5_17) rfl rfl kk_) ?_
    show G T1 (mkF m 18 #[.val (.ref a), .val (.long ts), .second, .val (.long nw), .second, .unset, .unset] [(.ref a)])
    refine rGetF hs X1 hx hZ hown (host := "") (Or.inl (hw _ (List.mem_of_getElem? (i := 35) rfl))) Via.refl F_ttlSeconds_a rfl rfl (hb hby d5_18) (fun T2 X2 => ?_)
    show G T2 (mkF m 21 #[.val (.ref a), .val (.long ts), .second, .val (.long nw), .second, .unset, .unset] [(.long tt)])
    refine rLdcL hs X2 hx hZ hown (hw _ (List.mem_of_getElem? (i := 43) rfl)) rfl (hb hby d5_21) ?_
    show G T2 (mkF m 24 #[.val (.ref a), .val (.long ts), .second, .val (.long nw), .second, .unset, .unset] [(.long (1000 : Int64)), (.long tt)])
    refine hs.go (fun _ kk_ => XS.lmul X2.here hx rfl (hb hby d5_24) rfl kk_) ?_
    show G T2 (mkF m 25 #[.val (.ref a), .val (.long ts), .second, .val (.long nw), .second, .unset, .unset] [(.long (tt * (1000 : Int64)))])
    refine nameIt (P := fun zz_ : Int64 => G T2 (mkF m 25 #[.val (.ref a), .val (.long ts), .second, .val (.long nw), .second, .unset, .unset] [(.long zz_)])) (tt * (1000 : Int64)) (fun mi hmi => ?_)
    show G T2 (mkF m 25 #[.val (.ref a), .val (.long ts), .second, .val (.long nw), .second, .unset, .unset] [(.long mi)])
    refine hs.go (fun _ kk_ => XS.lstore X2.here hx rfl (hb hby d5_25) rfl (l' := #[.val (.ref a), .val (.long ts), .second, .val (.long nw), .second, .val (.long mi), .second]) rfl kk_) ?_
    show G T2 (mkF m 27 #[.val (.ref a), .val (.long ts), .second, .val (.long nw), .second, .val (.long mi), .second] [])
    refine hs.go (fun _ kk_ => XS.lloadN X2.here hx rfl (hb hby d5_27) rfl  kk_) ?_
    show G T2 (mkF m 28 #[.val (.ref a), .val (.long ts), .second, .val (.long nw), .second, .val (.long mi), .second] [(.long nw)])
    refine hs.go (fun _ kk_ => XS.lloadN X2.here hx rfl (hb hby d5_28) rfl  kk_) ?_
    show G T2 (mkF m 29 #[.val (.ref a), .val (.long ts), .second, .val (.long nw), .second, .val (.long mi), .second] [(.long ts), (.long nw)])
    refine hs.go (fun _ kk_ => XS.lsub X2.here hx rfl (hb hby d5_29) rfl kk_) ?_
    show G T2 (mkF m 30 #[.val (.ref a), .val (.long ts), .second, .val (.long nw), .second, .val (.long mi), .second] [(.long (nw - ts))])
    refine hs.go (fun _ kk_ => XS.lload X2.here hx rfl (hb hby d5_30) rfl  kk_) ?_
    show G T2 (mkF m 32 #[.val (.ref a), .val (.long ts), .second, .val (.long nw), .second, .val (.long mi), .second] [(.long mi), (.long (nw - ts))])
    refine hs.go (fun _ kk_ => XS.lcmp X2.here hx rfl (hb hby d5_32) rfl kk_) ?_
    show G T2 (mkF m 33 #[.val (.ref a), .val (.long ts), .second, .val (.long nw), .second, .val (.long mi), .second] [(.int (lcmpW (nw - ts) mi))])
    by_cases c33 : mi < (nw - ts)
    · refine hs.go (fun _ kk_ => XS.ifNo X2.here hx rfl (hb hby d5_33) rfl ((if0 _ _).trans (gtL c33).2) kk_) ?_
      show G T2 (mkF m 36 #[.val (.ref a), .val (.long ts), .second, .val (.long nw), .second, .val (.long mi), .second] [])
      refine hs.go (fun _ kk_ => XS.iconst X2.here hx rfl (hb hby d5_36) kk_) ?_
      show G T2 (mkF m 37 #[.val (.ref a), .val (.long ts), .second, .val (.long nw), .second, .val (.long mi), .second] [(.int (1 : Int32))])
      refine hs.go (fun _ kk_ => XS.goto X2.here hx rfl (pc0 := 37) (pc' := 41) rfl (hb hby d5_37) (by decide) (by decide) kk_) ?_
      show G T2 (mkF m 41 #[.val (.ref a), .val (.long ts), .second, .val (.long nw), .second, .val (.long mi), .second] [(.int (1 : Int32))])
      exact rRetN fin X2 hx (by decide) (by decide) hret (by simp) (hb hby d5_41) (z' := (1 : Int32)) (by decide) ⟨by subst hmi; rw [fex, if_neg c8, if_pos c33], rfl⟩
    · refine hs.go (fun _ kk_ => XS.ifYes X2.here hx rfl (pc0 := 33) (pc' := 40) rfl (hb hby d5_33) rfl ((if0 _ _).trans (ngtL c33).2) (by decide) (by decide) kk_) ?_
      show G T2 (mkF m 40 #[.val (.ref a), .val (.long ts), .second, .val (.long nw), .second, .val (.long mi), .second] [])
      refine hs.go (fun _ kk_ => XS.iconst X2.here hx rfl (hb hby d5_40) kk_) ?_
      show G T2 (mkF m 41 #[.val (.ref a), .val (.long ts), .second, .val (.long nw), .second, .val (.long mi), .second] [(.int (0 : Int32))])
      exact rRetN fin X2 hx (by decide) (by decide) hret (by simp) (hb hby d5_41) (z' := (0 : Int32)) (by decide) ⟨by subst hmi; rw [fex, if_neg c8, if_neg c33], rfl⟩

theorem own_ttl {t t0 u1 u2 : Int64} {mode : Int32} (ht0 : t0 = (t &&& (9223372036854775807 : Int64)))
    (J23 : ((mode &&& (1 : Int32)) = (0 : Int32) ∧ u1 = t0) ∨ (¬ ((mode &&& (1 : Int32)) = (0 : Int32)) ∧ u1 = ((t &&& (4294967295 : Int64)) + (1 : Int64))))
    (J33 : (u1 = (0 : Int64) ∧ u2 = (1 : Int64)) ∨ (¬ (u1 = (0 : Int64)) ∧ u2 = u1)) : 1 ≤ u2.toInt := by
  have a0 : t0.toInt = t.toInt % 9223372036854775808 := by rw [ht0]; exact c_maskL t 9223372036854775807 63 (by decide) (by decide)
  have a1 : (t &&& (4294967295 : Int64)).toInt = t.toInt % 4294967296 := c_maskL t 4294967295 32 (by decide) (by decide)
  have a2 := c_ladd (t &&& (4294967295 : Int64)) 1
  have r2 := rng64 ((t &&& (4294967295 : Int64)) + 1)
  have k1 : (1 : Int64).toInt = 1 := rfl
  have k0 : (0 : Int64).toInt = 0 := rfl
  have b : 0 ≤ u1.toInt := by
    rcases J23 with ⟨-, rfl⟩ | ⟨-, rfl⟩ <;> omega
  rcases J33 with ⟨-, rfl⟩ | ⟨h, rfl⟩
  · omega
  · rw [e64, k0] at h; omega
theorem own_u2 {t t0 u1 u2 : Int64} {mode : Int32} (ht0 : t0 = (t &&& (9223372036854775807 : Int64)))
    (J23 : ((mode &&& (1 : Int32)) = (0 : Int32) ∧ u1 = t0) ∨ (¬ ((mode &&& (1 : Int32)) = (0 : Int32)) ∧ u1 = ((t &&& (4294967295 : Int64)) + (1 : Int64))))
    (J33 : (u1 = (0 : Int64) ∧ u2 = (1 : Int64)) ∨ (¬ (u1 = (0 : Int64)) ∧ u2 = u1)) : ¬ (u2 < (1 : Int64)) := by
  have a := own_ttl ht0 J23 J33
  have k1 : (1 : Int64).toInt = 1 := rfl
  rw [lt64]; omega
theorem own_law {t t0 u1 u2 ts tp d nw df : Int64} {mode gt wz : Int32} (ht0 : t0 = (t &&& (9223372036854775807 : Int64)))
    (J23 : ((mode &&& (1 : Int32)) = (0 : Int32) ∧ u1 = t0) ∨ (¬ ((mode &&& (1 : Int32)) = (0 : Int32)) ∧ u1 = ((t &&& (4294967295 : Int64)) + (1 : Int64))))
    (J33 : (u1 = (0 : Int64) ∧ u2 = (1 : Int64)) ∨ (¬ (u1 = (0 : Int64)) ∧ u2 = u1))
    (htp : tp = (ts >>> ((2 : Int32) &&& 0x3f).toInt64))
    (J81 : ((mode &&& (2 : Int32)) = (0 : Int32) ∧ nw = (d >>> ((2 : Int32) &&& 0x3f).toInt64)) ∨ (¬ ((mode &&& (2 : Int32)) = (0 : Int32)) ∧ (4294967296 : Int64) < u2 ∧ nw = (d >>> ((2 : Int32) &&& 0x3f).toInt64)) ∨ (¬ ((mode &&& (2 : Int32)) = (0 : Int32)) ∧ ¬ ((4294967296 : Int64) < u2) ∧ nw = ((tp + (u2 * (1000 : Int64))) + (d % (3 : Int64)))))
    (hgt : gt = fex u2 tp nw) (hdf : df = (nw - tp))
    (J139 : ((0 : Int64) < df ∧ ((df - (1 : Int64)) / (1000 : Int64)) < u2 ∧ wz = (0 : Int32)) ∨ ((0 : Int64) < df ∧ ¬ (((df - (1 : Int64)) / (1000 : Int64)) < u2) ∧ wz = (1 : Int32)) ∨ (¬ ((0 : Int64) < df) ∧ wz = (0 : Int32))) : gt = wz := by
  have hu := own_ttl ht0 J23 J33
  have ru := rng64 u2
  have k1 : (1 : Int64).toInt = 1 := rfl
  have k0 : (0 : Int64).toInt = 0 := rfl
  have k3 : (3 : Int64).toInt = 3 := rfl
  have km : (1000 : Int64).toInt = 1000 := rfl
  have kb : (4294967296 : Int64).toInt = 4294967296 := rfl
  have kx : (9223372036854775 : Int64).toInt = 9223372036854775 := rfl
  have kM : (9223372036854775807 : Int64).toInt = 9223372036854775807 := rfl
  have p1 : tp.toInt = ts.toInt / 4 := by rw [htp]; exact c_lshr ts 2 2 (by decide)
  have p2 : (d >>> ((2 : Int32) &&& 0x3f).toInt64).toInt = d.toInt / 4 := c_lshr d 2 2 (by decide)
  have rs := rng64 ts
  have rd := rng64 d
  have m1 := c_lmul u2 1000
  rw [km] at m1
  have rm := rng64 (u2 * 1000)
  have m2 := c_ladd tp (u2 * 1000)
  have rm2 := rng64 (tp + u2 * 1000)
  have m3 := c_ladd (tp + u2 * 1000) (d % 3)
  have rm3 := rng64 (tp + u2 * 1000 + d % 3)
  have q := c_lremM d 3 3 rfl
  have nwB : tp.toInt - 9223372036854775807 ≤ nw.toInt ∧ nw.toInt ≤ tp.toInt + 4611686018427387904 := by
    rw [lt64, kb] at J81
    rcases J81 with ⟨-, e⟩ | ⟨-, -, e⟩ | ⟨-, h, e⟩
    · have e' := congrArg Int64.toInt e; omega
    · have e' := congrArg Int64.toInt e; omega
    · have e' := congrArg Int64.toInt e
      have y1 : (u2 * 1000).toInt = u2.toInt * 1000 := by omega
      have y2 : (tp + u2 * 1000).toInt = tp.toInt + u2.toInt * 1000 := by omega
      have y3 : -2 ≤ (d % 3).toInt ∧ (d % 3).toInt ≤ 2 := by
        rcases Int.lt_or_le d.toInt 0 with c | c
        · have q1 := q.2 c; omega
        · have q1 := q.1 c; omega
      have y4 : (tp + u2 * 1000 + d % 3).toInt = tp.toInt + u2.toInt * 1000 + (d % 3).toInt := by omega
      omega
  have s1 := c_lsub nw tp
  have rs1 := rng64 (nw - tp)
  have sd : (nw - tp).toInt = nw.toInt - tp.toInt := by omega
  rw [← hdf] at sd
  have s2 := c_lsub df 1
  have rs2 := rng64 (df - 1)
  have dv := c_ldiv (df - 1) 1000 1000 rfl (by decide)
  rw [hgt, fex, ← hdf]
  simp only [lt64, k0, kx, kM] at J139 ⊢
  have um1 : ¬ 9223372036854775 < u2.toInt → (u2 * 1000).toInt = u2.toInt * 1000 := fun c => by omega
  have d1e : 0 < df.toInt → (df - 1).toInt = df.toInt - 1 := fun c => by omega
  have um0 := um1
  generalize ((df - (1 : Int64)) / (1000 : Int64)).toInt = dq at *
  generalize (df - (1 : Int64)).toInt = d1 at *
  generalize (u2 * (1000 : Int64)).toInt = um at *
  have rdf := rng64 df
  clear m1 m2 m3 rm rm2 rm3 s1 s2 p1 p2 J81 J23 J33
  rcases J139 with ⟨h1, h2, rfl⟩ | ⟨h1, h2, rfl⟩ | ⟨h1, rfl⟩
  · have e1 := d1e h1
    have dv1 := dv.1 (by omega)
    by_cases c : 9223372036854775 < u2.toInt
    · rw [if_pos c, if_neg (by omega)]
    · have e2 := um1 c
      rw [if_neg c, if_neg (by omega)]
  · have e1 := d1e h1
    have dv1 := dv.1 (by omega)
    by_cases c : 9223372036854775 < u2.toInt
    · exfalso; omega
    · have e2 := um1 c
      rw [if_neg c, if_pos (by omega)]
  · by_cases c : 9223372036854775 < u2.toInt
    · rw [if_pos c, if_neg (by omega)]
    · have e2 := um1 c
      rw [if_neg c, if_neg (by omega)]

theorem pd_2 : parseMethodDescriptor "(Ljava/lang/String;IJ)V" = some ⟨[(.object "java/lang/String"), .int, .long], none⟩ := by decide +kernel
theorem pd_3 : parseMethodDescriptor "(JJ)Z" = some ⟨[.long, .long], some .boolean⟩ := by decide +kernel
theorem pn_0 : plainFor x = true := plainFor_of_name (show plainName "com/example/rowcall/rowcall/FamilyExpiredPinLaw" = true by first | (simp [plainName, overriddenIn]; done) | decide +kernel)
theorem ef_0 (m : MethodId) (x0 : Int64) (x1 : Int64) (x2 : Int64) (x3 : Int32) : entryFrame m #[(.long x0), (.long x1), (.long x2), (.int x3)] maxLocals = mkF m 0 #[.val (.long x0), .second, .val (.long x1), .second, .val (.long x2), .second, .val (.int x3), .unset, .unset, .unset, .unset, .unset, .unset, .unset, .unset, .unset, .unset, .unset] [] := by first | (simp [entryFrame, mkF, argsToLocals, Value.category, maxLocals]; done) | rfl
set_option maxRecDepth 65536 in
set_option maxHeartbeats 40000000 in
theorem rm0 (l : Launch) (Z : State) (a0 : Array Value) (hw : ∀ d ∈ tables_1, d.before a0 Z = true) (ws : List Jvm.Cond) (t ts d : Int64) (mode : Int32) (h0 : Heap) (n0 : Nat) (Z0 : n0 ≤ h0.size)  :
    Con l Z x code maxLocals ret ws room_1 #[(.long t), (.long ts), (.long d), (.int mode)] h0 n0 (fun v h => v = some (.int 1)) := by
  refine Con.of pn_0 ?_
  intro G p e s m below meth c s₁ hs hx hby hml hown hnm hret hZ X0 fin
  have hml : c.maxLocals = 18 := hml
  have hown : s.vm.findClass "com/example/rowcall/rowcall/FamilyExpiredPinLaw" = some m.cls := hown
  rw [ef_0]
  show G s₁ (mkF m 0 #[.val (.long t), .second, .val (.long ts), .second, .val (.long d), .second, .val (.int mode), .unset, .unset, .unset, .unset, .unset, .unset, .unset, .unset, .unset, .unset, .unset] [])
  refine hs.go (fun _ kk_ => XS.lloadN X0.here hx rfl (hb hby at_0) rfl  kk_) ?_
  show G s₁ (mkF m 1 #[.val (.long t), .second, .val (.long ts), .second, .val (.long d), .second, .val (.int mode), .unset, .unset, .unset, .unset, .unset, .unset, .unset, .unset, .unset, .unset, .unset] [(.long t)])
  refine rLdcL hs X0 hx hZ hown (hw _ (List.mem_of_getElem? (i := 0) rfl)) rfl (hb hby at_1) ?_
  show G s₁ (mkF m 4 #[.val (.long t), .second, .val (.long ts), .second, .val (.long d), .second, .val (.int mode), .unset, .unset, .unset, .unset, .unset, .unset, .unset, .unset, .unset, .unset, .unset] [(.long (9223372036854775807 : Int64)), (.long t)])
  refine hs.go (fun _ kk_ => XS.land X0.here hx rfl (hb hby at_4) rfl kk_) ?_
  show G s₁ (mkF m 5 #[.val (.long t), .second, .val (.long ts), .second, .val (.long d), .second, .val (.int mode), .unset, .unset, .unset, .unset, .unset, .unset, .unset, .unset, .unset, .unset, .unset] [(.long (t &&& (9223372036854775807 : Int64)))])
  refine nameIt (P := fun zz_ : Int64 => G s₁ (mkF m 5 #[.val (.long t), .second, .val (.long ts), .second, .val (.long d), .second, .val (.int mode), .unset, .unset, .unset, .unset, .unset, .unset, .unset, .unset, .unset, .unset, .unset] [(.long zz_)])) (t &&& (9223372036854775807 : Int64)) (fun t0 ht0 => ?_)
  show G s₁ (mkF m 5 #[.val (.long t), .second, .val (.long ts), .second, .val (.long d), .second, .val (.int mode), .unset, .unset, .unset, .unset, .unset, .unset, .unset, .unset, .unset, .unset, .unset] [(.long t0)])
  refine hs.go (fun _ kk_ => XS.lstore X0.here hx rfl (hb hby at_5) rfl (l' := #[.val (.long t), .second, .val (.long ts), .second, .val (.long d), .second, .val (.int mode), .val (.long t0), .second, .unset, .unset, .unset, .unset, .unset, .unset, .unset, .unset, .unset]) rfl kk_) ?_
  show G s₁ (mkF m 7 #[.val (.long t), .second, .val (.long ts), .second, .val (.long d), .second, .val (.int mode), .val (.long t0), .second, .unset, .unset, .unset, .unset, .unset, .unset, .unset, .unset, .unset] [])
  have J23 : ∀ (u1 : Int64), (((mode &&& (1 : Int32)) = (0 : Int32) ∧ u1 = t0) ∨ (¬ ((mode &&& (1 : Int32)) = (0 : Int32)) ∧ u1 = ((t &&& (4294967295 : Int64)) + (1 : Int64)))) → G s₁ (mkF m 23 #[.val (.long t), .second, .val (.long ts), .second, .val (.long d), .second, .val (.int mode), .val (.long u1), .second, .unset, .unset, .unset, .unset, .unset, .unset, .unset, .unset, .unset] []) := by
    intro u1 hJ23
    show G s₁ (mkF m 23 #[.val (.long t), .second, .val (.long ts), .second, .val (.long d), .second, .val (.int mode), .val (.long u1), .second, .unset, .unset, .unset, .unset, .unset, .unset, .unset, .unset, .unset] [])
    have J33 : ∀ (u2 : Int64), ((u1 = (0 : Int64) ∧ u2 = (1 : Int64)) ∨ (¬ (u1 = (0 : Int64)) ∧ u2 = u1)) → G s₁ (mkF m 33 #[.val (.long t), .second, .val (.long ts), .second, .val (.long d), .second, .val (.int mode), .val (.long u2), .second, .unset, .unset, .unset, .unset, .unset, .unset, .unset, .unset, .unset] []) := by
      intro u2 hJ33
      show G s₁ (mkF m 33 #[.val (.long t), .second, .val (.long ts), .second, .val (.long d), .second, .val (.int mode), .val (.long u2), .second, .unset, .unset, .unset, .unset, .unset, .unset, .unset, .unset, .unset] [])
      refine hs.go (fun _ kk_ => XS.lloadN X0.here hx rfl (hb hby at_33) rfl  kk_) ?_
      show G s₁ (mkF m 34 #[.val (.long t), .second, .val (.long ts), .second, .val (.long d), .second, .val (.int mode), .val (.long u2), .second, .unset, .unset, .unset, .unset, .unset, .unset, .unset, .unset, .unset] [(.long ts)])
      refine hs.go (fun _ kk_ => XS.iconst X0.here hx rfl (hb hby at_34) kk_) ?_
      show G s₁ (mkF m 35 #[.val (.long t), .second, .val (.long ts), .second, .val (.long d), .second, .val (.int mode), .val (.long u2), .second, .unset, .unset, .unset, .unset, .unset, .unset, .unset, .unset, .unset] [(.int (2 : Int32)), (.long ts)])
      refine hs.go (fun _ kk_ => XS.lshr X0.here hx rfl (hb hby at_35) rfl kk_) ?_
      show G s₁ (mkF m 36 #[.val (.long t), .second, .val (.long ts), .second, .val (.long d), .second, .val (.int mode), .val (.long u2), .second, .unset, .unset, .unset, .unset, .unset, .unset, .unset, .unset, .unset] [(.long (ts >>> ((2 : Int32) &&& 0x3f).toInt64))])
      refine nameIt (P := fun zz_ : Int64 => G s₁ (mkF m 36 #[.val (.long t), .second, .val (.long ts), .second, .val (.long d), .second, .val (.int mode), .val (.long u2), .second, .unset, .unset, .unset, .unset, .unset, .unset, .unset, .unset, .unset] [(.long zz_)])) (ts >>> ((2 : Int32) &&& 0x3f).toInt64) (fun tp htp => ?_)
      show G s₁ (mkF m 36 #[.val (.long t), .second, .val (.long ts), .second, .val (.long d), .second, .val (.int mode), .val (.long u2), .second, .unset, .unset, .unset, .unset, .unset, .unset, .unset, .unset, .unset] [(.long tp)])
      refine hs.go (fun _ kk_ => XS.lstore X0.here hx rfl (hb hby at_36) rfl (l' := #[.val (.long t), .second, .val (.long ts), .second, .val (.long d), .second, .val (.int mode), .val (.long u2), .second, .val (.long tp), .second, .unset, .unset, .unset, .unset, .unset, .unset, .unset]) rfl kk_) ?_
      show G s₁ (mkF m 38 #[.val (.long t), .second, .val (.long ts), .second, .val (.long d), .second, .val (.int mode), .val (.long u2), .second, .val (.long tp), .second, .unset, .unset, .unset, .unset, .unset, .unset, .unset] [])
      have J81 : ∀ (nw : Int64), (((mode &&& (2 : Int32)) = (0 : Int32) ∧ nw = (d >>> ((2 : Int32) &&& 0x3f).toInt64)) ∨ (¬ ((mode &&& (2 : Int32)) = (0 : Int32)) ∧ (4294967296 : Int64) < u2 ∧ nw = (d >>> ((2 : Int32) &&& 0x3f).toInt64)) ∨ (¬ ((mode &&& (2 : Int32)) = (0 : Int32)) ∧ ¬ ((4294967296 : Int64) < u2) ∧ nw = ((tp + (u2 * (1000 : Int64))) + (d % (3 : Int64))))) → G s₁ (mkF m 81 #[.val (.long t), .second, .val (.long ts), .second, .val (.long d), .second, .val (.int mode), .val (.long u2), .second, .val (.long tp), .second, .val (.long nw), .second, .unset, .unset, .unset, .unset, .unset] []) := by
        intro nw hJ81
        show G s₁ (mkF m 81 #[.val (.long t), .second, .val (.long ts), .second, .val (.long d), .second, .val (.int mode), .val (.long u2), .second, .val (.long tp), .second, .val (.long nw), .second, .unset, .unset, .unset, .unset, .unset] [])
        refine rNewO hs X0 hx hZ hown (hw _ (List.mem_of_getElem? (i := 4) rfl)) (hw _ (List.mem_of_getElem? (i := 5) rfl)) (hw _ (List.mem_of_getElem? (i := 6) rfl)) rfl (hb hby at_81) (by decide) (by decide) (fun T1 h1 ob g1 X1 E1 E_ob D1 => ?_)
        have g_ob : n0 ≤ ob := by rw [g1]; exact Z0
        have Z0 := Nat.le_trans Z0 E1.1
        have F_name_ob : Fld Z h1 ob "com/example/rowcall/rowcall/Family" "name" "Ljava/lang/String;" .null := D1 (Or.inr (hw _ (List.mem_of_getElem? (i := 32) rfl))) (ty := (.object "java/lang/String")) (by decide)
        have F_maxVersions_ob : Fld Z h1 ob "com/example/rowcall/rowcall/Family" "maxVersions" "I" (.int (0 : Int32)) := D1 (Or.inr (hw _ (List.mem_of_getElem? (i := 34) rfl))) (ty := .int) (by decide)
        have F_ttlSeconds_ob : Fld Z h1 ob "com/example/rowcall/rowcall/Family" "ttlSeconds" "J" (.long (0 : Int64)) := D1 (Or.inr (hw _ (List.mem_of_getElem? (i := 36) rfl))) (ty := .long) (by decide)
        show G T1 (mkF m 84 #[.val (.long t), .second, .val (.long ts), .second, .val (.long d), .second, .val (.int mode), .val (.long u2), .second, .val (.long tp), .second, .val (.long nw), .second, .unset, .unset, .unset, .unset, .unset] [(.ref ob)])
        refine hs.go (fun _ kk_ => XS.dup X1.here hx rfl (hb hby at_84) rfl rfl kk_) ?_
        show G T1 (mkF m 85 #[.val (.long t), .second, .val (.long ts), .second, .val (.long d), .second, .val (.int mode), .val (.long u2), .second, .val (.long tp), .second, .val (.long nw), .second, .unset, .unset, .unset, .unset, .unset] [(.ref ob), (.ref ob)])
        refine rLdcS hs X1 hx hZ hown (hw _ (List.mem_of_getElem? (i := 7) rfl)) (fun d hd => hw d (own_sa d hd)) rfl (hb hby at_85) 4 (by decide) (by decide) (by decide) (by decide) (fun T2 h2 lf X2 E2 => ?_)
        have Z0 := Nat.le_trans Z0 E2.1
        have E_ob := E_ob.ext E2
        have F_name_ob := F_name_ob.ext E2
        have F_maxVersions_ob := F_maxVersions_ob.ext E2
        have F_ttlSeconds_ob := F_ttlSeconds_ob.ext E2
        show G T2 (mkF m 87 #[.val (.long t), .second, .val (.long ts), .second, .val (.long d), .second, .val (.int mode), .val (.long u2), .second, .val (.long tp), .second, .val (.long nw), .second, .unset, .unset, .unset, .unset, .unset] [(.ref lf), (.ref ob), (.ref ob)])
        refine hs.go (fun _ kk_ => XS.iconst X2.here hx rfl (hb hby at_87) kk_) ?_
        show G T2 (mkF m 88 #[.val (.long t), .second, .val (.long ts), .second, .val (.long d), .second, .val (.int mode), .val (.long u2), .second, .val (.long tp), .second, .val (.long nw), .second, .unset, .unset, .unset, .unset, .unset] [(.int (1 : Int32)), (.ref lf), (.ref ob), (.ref ob)])
        refine hs.go (fun _ kk_ => XS.lload X2.here hx rfl (hb hby at_88) rfl  kk_) ?_
        show G T2 (mkF m 90 #[.val (.long t), .second, .val (.long ts), .second, .val (.long d), .second, .val (.int mode), .val (.long u2), .second, .val (.long tp), .second, .val (.long nw), .second, .unset, .unset, .unset, .unset, .unset] [(.long u2), (.int (1 : Int32)), (.ref lf), (.ref ob), (.ref ob)])
        refine rCallI hs X2 hx hZ (as' := [(.ref lf), (.int (1 : Int32)), (.long u2)]) (rm1 l Z a0 hw [] ob lf u2 h2 n0 Z0 E_ob g_ob F_name_ob F_maxVersions_ob F_ttlSeconds_ob (own_u2 ht0 hJ23 hJ33)) rfl hown (hw _ (List.mem_of_getElem? (i := 15) rfl)) (hw _ (List.mem_of_getElem? (i := 16) rfl)) (hw _ (List.mem_of_getElem? (i := 6) rfl)) (hw _ (List.mem_of_getElem? (i := 17) rfl)) hy_1 rfl (by rw [hml]; rfl) [(.ref ob)] (lenOf pd_2 rfl) rfl 1 (by show 2 * 0 + _ ≤ _; exact Nat.le_of_eq rfl) (hb hby at_90) (by decide) (by decide) (by decide) (by decide) (fun r3 T3 h3 X3 q3 => ?_)
        obtain ⟨rfl, Kc3, E_ob, F_ttlSeconds_ob⟩ := q3
        have Z0 := Nat.le_trans Z0 Kc3.1
        show G T3 (mkF m 93 #[.val (.long t), .second, .val (.long ts), .second, .val (.long d), .second, .val (.int mode), .val (.long u2), .second, .val (.long tp), .second, .val (.long nw), .second, .unset, .unset, .unset, .unset, .unset] [(.ref ob)])
        refine hs.go (fun _ kk_ => XS.astore X3.here hx rfl (hb hby at_93) rfl rfl (l' := #[.val (.long t), .second, .val (.long ts), .second, .val (.long d), .second, .val (.int mode), .val (.long u2), .second, .val (.long tp), .second, .val (.long nw), .second, .val (.ref ob), .unset, .unset, .unset, .unset]) rfl kk_) ?_
        show G T3 (mkF m 95 #[.val (.long t), .second, .val (.long ts), .second, .val (.long d), .second, .val (.int mode), .val (.long u2), .second, .val (.long tp), .second, .val (.long nw), .second, .val (.ref ob), .unset, .unset, .unset, .unset] [])
        refine hs.go (fun _ kk_ => XS.aload X3.here hx rfl (hb hby at_95) rfl rfl kk_) ?_
        show G T3 (mkF m 97 #[.val (.long t), .second, .val (.long ts), .second, .val (.long d), .second, .val (.int mode), .val (.long u2), .second, .val (.long tp), .second, .val (.long nw), .second, .val (.ref ob), .unset, .unset, .unset, .unset] [(.ref ob)])
        refine hs.go (fun _ kk_ => XS.lload X3.here hx rfl (hb hby at_97) rfl  kk_) ?_
        show G T3 (mkF m 99 #[.val (.long t), .second, .val (.long ts), .second, .val (.long d), .second, .val (.int mode), .val (.long u2), .second, .val (.long tp), .second, .val (.long nw), .second, .val (.ref ob), .unset, .unset, .unset, .unset] [(.long tp), (.ref ob)])
        refine hs.go (fun _ kk_ => XS.lload X3.here hx rfl (hb hby at_99) rfl  kk_) ?_
        show G T3 (mkF m 101 #[.val (.long t), .second, .val (.long ts), .second, .val (.long d), .second, .val (.int mode), .val (.long u2), .second, .val (.long tp), .second, .val (.long nw), .second, .val (.ref ob), .unset, .unset, .unset, .unset] [(.long nw), (.long tp), (.ref ob)])
        refine rCallV hs X3 hx hZ (as' := [(.long tp), (.long nw)]) (rm5 l Z a0 hw [] ob tp nw u2 h3 n0 Z0 F_ttlSeconds_ob) E_ob hown (hw _ (List.mem_of_getElem? (i := 37) rfl)) (hw _ (List.mem_of_getElem? (i := 38) rfl)) (hw _ (List.mem_of_getElem? (i := 40) rfl)) (hw _ (List.mem_of_getElem? (i := 39) rfl)) (hw _ (List.mem_of_getElem? (i := 6) rfl)) (hw _ (List.mem_of_getElem? (i := 41) rfl)) hy_5 rfl (by rw [hml]; rfl) [] (lenOf pd_3 rfl) rfl 0 (by show 2 * 0 + _ ≤ _; exact Nat.le_of_eq rfl) (hb hby at_101) (by decide) (by decide) (by decide) (by decide) (fun r4 T4 h4 X4 q4 => ?_)
        obtain ⟨rfl, qh4⟩ := q4
        rw [qh4] at X4
        show G T4 (mkF m 104 #[.val (.long t), .second, .val (.long ts), .second, .val (.long d), .second, .val (.int mode), .val (.long u2), .second, .val (.long tp), .second, .val (.long nw), .second, .val (.ref ob), .unset, .unset, .unset, .unset] [(.int (fex u2 tp nw))])
        refine nameIt (P := fun zz_ : Int32 => G T4 (mkF m 104 #[.val (.long t), .second, .val (.long ts), .second, .val (.long d), .second, .val (.int mode), .val (.long u2), .second, .val (.long tp), .second, .val (.long nw), .second, .val (.ref ob), .unset, .unset, .unset, .unset] [(.int zz_)])) (fex u2 tp nw) (fun gt hgt => ?_)
        show G T4 (mkF m 104 #[.val (.long t), .second, .val (.long ts), .second, .val (.long d), .second, .val (.int mode), .val (.long u2), .second, .val (.long tp), .second, .val (.long nw), .second, .val (.ref ob), .unset, .unset, .unset, .unset] [(.int gt)])
        refine hs.go (fun _ kk_ => XS.istore X4.here hx rfl (hb hby at_104) rfl (l' := #[.val (.long t), .second, .val (.long ts), .second, .val (.long d), .second, .val (.int mode), .val (.long u2), .second, .val (.long tp), .second, .val (.long nw), .second, .val (.ref ob), .val (.int gt), .unset, .unset, .unset]) rfl kk_) ?_
        show G T4 (mkF m 106 #[.val (.long t), .second, .val (.long ts), .second, .val (.long d), .second, .val (.int mode), .val (.long u2), .second, .val (.long tp), .second, .val (.long nw), .second, .val (.ref ob), .val (.int gt), .unset, .unset, .unset] [])
        refine hs.go (fun _ kk_ => XS.lload X4.here hx rfl (hb hby at_106) rfl  kk_) ?_
        show G T4 (mkF m 108 #[.val (.long t), .second, .val (.long ts), .second, .val (.long d), .second, .val (.int mode), .val (.long u2), .second, .val (.long tp), .second, .val (.long nw), .second, .val (.ref ob), .val (.int gt), .unset, .unset, .unset] [(.long nw)])
        refine hs.go (fun _ kk_ => XS.lload X4.here hx rfl (hb hby at_108) rfl  kk_) ?_
        show G T4 (mkF m 110 #[.val (.long t), .second, .val (.long ts), .second, .val (.long d), .second, .val (.int mode), .val (.long u2), .second, .val (.long tp), .second, .val (.long nw), .second, .val (.ref ob), .val (.int gt), .unset, .unset, .unset] [(.long tp), (.long nw)])
        refine hs.go (fun _ kk_ => XS.lsub X4.here hx rfl (hb hby at_110) rfl kk_) ?_
        show G T4 (mkF m 111 #[.val (.long t), .second, .val (.long ts), .second, .val (.long d), .second, .val (.int mode), .val (.long u2), .second, .val (.long tp), .second, .val (.long nw), .second, .val (.ref ob), .val (.int gt), .unset, .unset, .unset] [(.long (nw - tp))])
        refine nameIt (P := fun zz_ : Int64 => G T4 (mkF m 111 #[.val (.long t), .second, .val (.long ts), .second, .val (.long d), .second, .val (.int mode), .val (.long u2), .second, .val (.long tp), .second, .val (.long nw), .second, .val (.ref ob), .val (.int gt), .unset, .unset, .unset] [(.long zz_)])) (nw - tp) (fun df hdf => ?_)
        show G T4 (mkF m 111 #[.val (.long t), .second, .val (.long ts), .second, .val (.long d), .second, .val (.int mode), .val (.long u2), .second, .val (.long tp), .second, .val (.long nw), .second, .val (.ref ob), .val (.int gt), .unset, .unset, .unset] [(.long df)])
        refine hs.go (fun _ kk_ => XS.lstore X4.here hx rfl (hb hby at_111) rfl (l' := #[.val (.long t), .second, .val (.long ts), .second, .val (.long d), .second, .val (.int mode), .val (.long u2), .second, .val (.long tp), .second, .val (.long nw), .second, .val (.ref ob), .val (.int gt), .val (.long df), .second, .unset]) rfl kk_) ?_
        show G T4 (mkF m 113 #[.val (.long t), .second, .val (.long ts), .second, .val (.long d), .second, .val (.int mode), .val (.long u2), .second, .val (.long tp), .second, .val (.long nw), .second, .val (.ref ob), .val (.int gt), .val (.long df), .second, .unset] [])
        have J139 : ∀ (wz : Int32), (((0 : Int64) < df ∧ ((df - (1 : Int64)) / (1000 : Int64)) < u2 ∧ wz = (0 : Int32)) ∨ ((0 : Int64) < df ∧ ¬ (((df - (1 : Int64)) / (1000 : Int64)) < u2) ∧ wz = (1 : Int32)) ∨ (¬ ((0 : Int64) < df) ∧ wz = (0 : Int32))) → G T4 (mkF m 139 #[.val (.long t), .second, .val (.long ts), .second, .val (.long d), .second, .val (.int mode), .val (.long u2), .second, .val (.long tp), .second, .val (.long nw), .second, .val (.ref ob), .val (.int gt), .val (.long df), .second, .unset] [(.int wz)]) := by
          intro wz hJ139
          show G T4 (mkF m 139 #[.val (.long t), .second, .val (.long ts), .second, .val (.long d), .second, .val (.int mode), .val (.long u2), .second, .val (.long tp), .second, .val (.long nw), .second, .val (.ref ob), .val (.int gt), .val (.long df), .second, .unset] [(.int wz)])
          refine hs.go (fun _ kk_ => XS.istore X4.here hx rfl (hb hby at_139) rfl (l' := #[.val (.long t), .second, .val (.long ts), .second, .val (.long d), .second, .val (.int mode), .val (.long u2), .second, .val (.long tp), .second, .val (.long nw), .second, .val (.ref ob), .val (.int gt), .val (.long df), .second, .val (.int wz)]) rfl kk_) ?_
          show G T4 (mkF m 141 #[.val (.long t), .second, .val (.long ts), .second, .val (.long d), .second, .val (.int mode), .val (.long u2), .second, .val (.long tp), .second, .val (.long nw), .second, .val (.ref ob), .val (.int gt), .val (.long df), .second, .val (.int wz)] [])
          refine hs.go (fun _ kk_ => XS.iload X4.here hx rfl (hb hby at_141) rfl  kk_) ?_
          show G T4 (mkF m 143 #[.val (.long t), .second, .val (.long ts), .second, .val (.long d), .second, .val (.int mode), .val (.long u2), .second, .val (.long tp), .second, .val (.long nw), .second, .val (.ref ob), .val (.int gt), .val (.long df), .second, .val (.int wz)] [(.int gt)])
          refine hs.go (fun _ kk_ => XS.iload X4.here hx rfl (hb hby at_143) rfl  kk_) ?_
          show G T4 (mkF m 145 #[.val (.long t), .second, .val (.long ts), .second, .val (.long d), .second, .val (.int mode), .val (.long u2), .second, .val (.long tp), .second, .val (.long nw), .second, .val (.ref ob), .val (.int gt), .val (.long df), .second, .val (.int wz)] [(.int wz), (.int gt)])
          refine hs.go (fun _ kk_ => XS.icmpNo X4.here hx rfl (hb hby at_145) rfl (teq (own_law ht0 hJ23 hJ33 htp hJ81 hgt hdf hJ139 : gt = wz)).2 kk_) ?_
          show G T4 (mkF m 148 #[.val (.long t), .second, .val (.long ts), .second, .val (.long d), .second, .val (.int mode), .val (.long u2), .second, .val (.long tp), .second, .val (.long nw), .second, .val (.ref ob), .val (.int gt), .val (.long df), .second, .val (.int wz)] [])
          refine hs.go (fun _ kk_ => XS.iconst X4.here hx rfl (hb hby at_148) kk_) ?_
          show G T4 (mkF m 149 #[.val (.long t), .second, .val (.long ts), .second, .val (.long d), .second, .val (.int mode), .val (.long u2), .second, .val (.long tp), .second, .val (.long nw), .second, .val (.ref ob), .val (.int gt), .val (.long df), .second, .val (.int wz)] [(.int (1 : Int32))])
          refine hs.go (fun _ kk_ => XS.goto X4.here hx rfl (pc0 := 149) (pc' := 153) rfl (hb hby at_149) (by decide) (by decide) kk_) ?_
          show G T4 (mkF m 153 #[.val (.long t), .second, .val (.long ts), .second, .val (.long d), .second, .val (.int mode), .val (.long u2), .second, .val (.long tp), .second, .val (.long nw), .second, .val (.ref ob), .val (.int gt), .val (.long df), .second, .val (.int wz)] [(.int (1 : Int32))])
          exact rRetN fin X4 hx (by decide) (by decide) hret (by simp) (hb hby at_153) (z' := (1 : Int32)) (by decide) rfl
        refine hs.go (fun _ kk_ => XS.lload X4.here hx rfl (hb hby at_113) rfl  kk_) ?_
        show G T4 (mkF m 115 #[.val (.long t), .second, .val (.long ts), .second, .val (.long d), .second, .val (.int mode), .val (.long u2), .second, .val (.long tp), .second, .val (.long nw), .second, .val (.ref ob), .val (.int gt), .val (.long df), .second, .unset] [(.long df)])
        refine hs.go (fun _ kk_ => XS.lconst X4.here hx rfl (hb hby at_115) kk_) ?_
        show G T4 (mkF m 116 #[.val (.long t), .second, .val (.long ts), .second, .val (.long d), .second, .val (.int mode), .val (.long u2), .second, .val (.long tp), .second, .val (.long nw), .second, .val (.ref ob), .val (.int gt), .val (.long df), .second, .unset] [(.long (0 : Int64)), (.long df)])
        refine hs.go (fun _ kk_ => XS.lcmp X4.here hx rfl (hb hby at_116) rfl kk_) ?_
        show G T4 (mkF m 117 #[.val (.long t), .second, .val (.long ts), .second, .val (.long d), .second, .val (.int mode), .val (.long u2), .second, .val (.long tp), .second, .val (.long nw), .second, .val (.ref ob), .val (.int gt), .val (.long df), .second, .unset] [(.int (lcmpW df (0 : Int64)))])
        by_cases c117 : (0 : Int64) < df
        · refine hs.go (fun _ kk_ => XS.ifNo X4.here hx rfl (hb hby at_117) rfl ((if0 _ _).trans (gtL c117).2) kk_) ?_
          show G T4 (mkF m 120 #[.val (.long t), .second, .val (.long ts), .second, .val (.long d), .second, .val (.int mode), .val (.long u2), .second, .val (.long tp), .second, .val (.long nw), .second, .val (.ref ob), .val (.int gt), .val (.long df), .second, .unset] [])
          refine hs.go (fun _ kk_ => XS.lload X4.here hx rfl (hb hby at_120) rfl  kk_) ?_
          show G T4 (mkF m 122 #[.val (.long t), .second, .val (.long ts), .second, .val (.long d), .second, .val (.int mode), .val (.long u2), .second, .val (.long tp), .second, .val (.long nw), .second, .val (.ref ob), .val (.int gt), .val (.long df), .second, .unset] [(.long df)])
          refine hs.go (fun _ kk_ => XS.lconst X4.here hx rfl (hb hby at_122) kk_) ?_
          show G T4 (mkF m 123 #[.val (.long t), .second, .val (.long ts), .second, .val (.long d), .second, .val (.int mode), .val (.long u2), .second, .val (.long tp), .second, .val (.long nw), .second, .val (.ref ob), .val (.int gt), .val (.long df), .second, .unset] [(.long (1 : Int64)), (.long df)])
          refine hs.go (fun _ kk_ => XS.lsub X4.here hx rfl (hb hby at_123) rfl kk_) ?_
          show G T4 (mkF m 124 #[.val (.long t), .second, .val (.long ts), .second, .val (.long d), .second, .val (.int mode), .val (.long u2), .second, .val (.long tp), .second, .val (.long nw), .second, .val (.ref ob), .val (.int gt), .val (.long df), .second, .unset] [(.long (df - (1 : Int64)))])
          refine rLdcL hs X4 hx hZ hown (hw _ (List.mem_of_getElem? (i := 2) rfl)) rfl (hb hby at_124) ?_
          show G T4 (mkF m 127 #[.val (.long t), .second, .val (.long ts), .second, .val (.long d), .second, .val (.int mode), .val (.long u2), .second, .val (.long tp), .second, .val (.long nw), .second, .val (.ref ob), .val (.int gt), .val (.long df), .second, .unset] [(.long (1000 : Int64)), (.long (df - (1 : Int64)))])
          refine hs.go (fun _ kk_ => XS.ldiv X4.here hx rfl (hb hby at_127) rfl (by decide) kk_) ?_
          show G T4 (mkF m 128 #[.val (.long t), .second, .val (.long ts), .second, .val (.long d), .second, .val (.int mode), .val (.long u2), .second, .val (.long tp), .second, .val (.long nw), .second, .val (.ref ob), .val (.int gt), .val (.long df), .second, .unset] [(.long ((df - (1 : Int64)) / (1000 : Int64)))])
          refine hs.go (fun _ kk_ => XS.lload X4.here hx rfl (hb hby at_128) rfl  kk_) ?_
          show G T4 (mkF m 130 #[.val (.long t), .second, .val (.long ts), .second, .val (.long d), .second, .val (.int mode), .val (.long u2), .second, .val (.long tp), .second, .val (.long nw), .second, .val (.ref ob), .val (.int gt), .val (.long df), .second, .unset] [(.long u2), (.long ((df - (1 : Int64)) / (1000 : Int64)))])
          refine hs.go (fun _ kk_ => XS.lcmp X4.here hx rfl (hb hby at_130) rfl kk_) ?_
          show G T4 (mkF m 131 #[.val (.long t), .second, .val (.long ts), .second, .val (.long d), .second, .val (.int mode), .val (.long u2), .second, .val (.long tp), .second, .val (.long nw), .second, .val (.ref ob), .val (.int gt), .val (.long df), .second, .unset] [(.int (lcmpW ((df - (1 : Int64)) / (1000 : Int64)) u2))])
          by_cases c131 : ((df - (1 : Int64)) / (1000 : Int64)) < u2
          · refine hs.go (fun _ kk_ => XS.ifYes X4.here hx rfl (pc0 := 131) (pc' := 138) rfl (hb hby at_131) rfl ((if0 _ _).trans (ltL c131).1) (by decide) (by decide) kk_) ?_
            show G T4 (mkF m 138 #[.val (.long t), .second, .val (.long ts), .second, .val (.long d), .second, .val (.int mode), .val (.long u2), .second, .val (.long tp), .second, .val (.long nw), .second, .val (.ref ob), .val (.int gt), .val (.long df), .second, .unset] [])
            refine hs.go (fun _ kk_ => XS.iconst X4.here hx rfl (hb hby at_138) kk_) ?_
            show G T4 (mkF m 139 #[.val (.long t), .second, .val (.long ts), .second, .val (.long d), .second, .val (.int mode), .val (.long u2), .second, .val (.long tp), .second, .val (.long nw), .second, .val (.ref ob), .val (.int gt), .val (.long df), .second, .unset] [(.int (0 : Int32))])
            exact J139 _ (Or.inl (⟨c117, c131, rfl⟩))
          · refine hs.go (fun _ kk_ => XS.ifNo X4.here hx rfl (hb hby at_131) rfl ((if0 _ _).trans (nltL c131).1) kk_) ?_
            show G T4 (mkF m 134 #[.val (.long t), .second, .val (.long ts), .second, .val (.long d), .second, .val (.int mode), .val (.long u2), .second, .val (.long tp), .second, .val (.long nw), .second, .val (.ref ob), .val (.int gt), .val (.long df), .second, .unset] [])
            refine hs.go (fun _ kk_ => XS.iconst X4.here hx rfl (hb hby at_134) kk_) ?_
            show G T4 (mkF m 135 #[.val (.long t), .second, .val (.long ts), .second, .val (.long d), .second, .val (.int mode), .val (.long u2), .second, .val (.long tp), .second, .val (.long nw), .second, .val (.ref ob), .val (.int gt), .val (.long df), .second, .unset] [(.int (1 : Int32))])
            refine hs.go (fun _ kk_ => XS.goto X4.here hx rfl (pc0 := 135) (pc' := 139) rfl (hb hby at_135) (by decide) (by decide) kk_) ?_
            show G T4 (mkF m 139 #[.val (.long t), .second, .val (.long ts), .second, .val (.long d), .second, .val (.int mode), .val (.long u2), .second, .val (.long tp), .second, .val (.long nw), .second, .val (.ref ob), .val (.int gt), .val (.long df), .second, .unset] [(.int (1 : Int32))])
            exact J139 _ (Or.inr (Or.inl (⟨c117, c131, rfl⟩)))
        · refine hs.go (fun _ kk_ => XS.ifYes X4.here hx rfl (pc0 := 117) (pc' := 138) rfl (hb hby at_117) rfl ((if0 _ _).trans (ngtL c117).2) (by decide) (by decide) kk_) ?_
          show G T4 (mkF m 138 #[.val (.long t), .second, .val (.long ts), .second, .val (.long d), .second, .val (.int mode), .val (.long u2), .second, .val (.long tp), .second, .val (.long nw), .second, .val (.ref ob), .val (.int gt), .val (.long df), .second, .unset] [])
          refine hs.go (fun _ kk_ => XS.iconst X4.here hx rfl (hb hby at_138) kk_) ?_
          show G T4 (mkF m 139 #[.val (.long t), .second, .val (.long ts), .second, .val (.long d), .second, .val (.int mode), .val (.long u2), .second, .val (.long tp), .second, .val (.long nw), .second, .val (.ref ob), .val (.int gt), .val (.long df), .second, .unset] [(.int (0 : Int32))])
          exact J139 _ (Or.inr (Or.inr (⟨c117, rfl⟩)))
      refine hs.go (fun _ kk_ => XS.iload X0.here hx rfl (hb hby at_38) rfl  kk_) ?_
      show G s₁ (mkF m 40 #[.val (.long t), .second, .val (.long ts), .second, .val (.long d), .second, .val (.int mode), .val (.long u2), .second, .val (.long tp), .second, .unset, .unset, .unset, .unset, .unset, .unset, .unset] [(.int mode)])
      refine hs.go (fun _ kk_ => XS.iconst X0.here hx rfl (hb hby at_40) kk_) ?_
      show G s₁ (mkF m 41 #[.val (.long t), .second, .val (.long ts), .second, .val (.long d), .second, .val (.int mode), .val (.long u2), .second, .val (.long tp), .second, .unset, .unset, .unset, .unset, .unset, .unset, .unset] [(.int (2 : Int32)), (.int mode)])
      refine hs.go (fun _ kk_ => XS.iand X0.here hx rfl (hb hby at_41) rfl kk_) ?_
      show G s₁ (mkF m 42 #[.val (.long t), .second, .val (.long ts), .second, .val (.long d), .second, .val (.int mode), .val (.long u2), .second, .val (.long tp), .second, .unset, .unset, .unset, .unset, .unset, .unset, .unset] [(.int (mode &&& (2 : Int32)))])
      by_cases c42 : (mode &&& (2 : Int32)) = (0 : Int32)
      · refine hs.go (fun _ kk_ => XS.ifYes X0.here hx rfl (pc0 := 42) (pc' := 75) rfl (hb hby at_42) rfl ((if0 _ _).trans (teq c42).1) (by decide) (by decide) kk_) ?_
        show G s₁ (mkF m 75 #[.val (.long t), .second, .val (.long ts), .second, .val (.long d), .second, .val (.int mode), .val (.long u2), .second, .val (.long tp), .second, .unset, .unset, .unset, .unset, .unset, .unset, .unset] [])
        refine hs.go (fun _ kk_ => XS.lload X0.here hx rfl (hb hby at_75) rfl  kk_) ?_
        show G s₁ (mkF m 77 #[.val (.long t), .second, .val (.long ts), .second, .val (.long d), .second, .val (.int mode), .val (.long u2), .second, .val (.long tp), .second, .unset, .unset, .unset, .unset, .unset, .unset, .unset] [(.long d)])
        refine hs.go (fun _ kk_ => XS.iconst X0.here hx rfl (hb hby at_77) kk_) ?_
        show G s₁ (mkF m 78 #[.val (.long t), .second, .val (.long ts), .second, .val (.long d), .second, .val (.int mode), .val (.long u2), .second, .val (.long tp), .second, .unset, .unset, .unset, .unset, .unset, .unset, .unset] [(.int (2 : Int32)), (.long d)])
        refine hs.go (fun _ kk_ => XS.lshr X0.here hx rfl (hb hby at_78) rfl kk_) ?_
        show G s₁ (mkF m 79 #[.val (.long t), .second, .val (.long ts), .second, .val (.long d), .second, .val (.int mode), .val (.long u2), .second, .val (.long tp), .second, .unset, .unset, .unset, .unset, .unset, .unset, .unset] [(.long (d >>> ((2 : Int32) &&& 0x3f).toInt64))])
        refine nameIt (P := fun zz_ : Int64 => G s₁ (mkF m 79 #[.val (.long t), .second, .val (.long ts), .second, .val (.long d), .second, .val (.int mode), .val (.long u2), .second, .val (.long tp), .second, .unset, .unset, .unset, .unset, .unset, .unset, .unset] [(.long zz_)])) (d >>> ((2 : Int32) &&& 0x3f).toInt64) (fun v5 hv5 => ?_)
        show G s₁ (mkF m 79 #[.val (.long t), .second, .val (.long ts), .second, .val (.long d), .second, .val (.int mode), .val (.long u2), .second, .val (.long tp), .second, .unset, .unset, .unset, .unset, .unset, .unset, .unset] [(.long v5)])
        refine hs.go (fun _ kk_ => XS.lstore X0.here hx rfl (hb hby at_79) rfl (l' := #[.val (.long t), .second, .val (.long ts), .second, .val (.long d), .second, .val (.int mode), .val (.long u2), .second, .val (.long tp), .second, .val (.long v5), .second, .unset, .unset, .unset, .unset, .unset]) rfl kk_) ?_
        show G s₁ (mkF m 81 #[.val (.long t), .second, .val (.long ts), .second, .val (.long d), .second, .val (.int mode), .val (.long u2), .second, .val (.long tp), .second, .val (.long v5), .second, .unset, .unset, .unset, .unset, .unset] [])
        subst hv5
        exact J81 _ (Or.inl (⟨c42, rfl⟩))
      · refine hs.go (fun _ kk_ => XS.ifNo X0.here hx rfl (hb hby at_42) rfl ((if0 _ _).trans (feq c42).1) kk_) ?_
        show G s₁ (mkF m 45 #[.val (.long t), .second, .val (.long ts), .second, .val (.long d), .second, .val (.int mode), .val (.long u2), .second, .val (.long tp), .second, .unset, .unset, .unset, .unset, .unset, .unset, .unset] [])
        refine hs.go (fun _ kk_ => XS.lload X0.here hx rfl (hb hby at_45) rfl  kk_) ?_
        show G s₁ (mkF m 47 #[.val (.long t), .second, .val (.long ts), .second, .val (.long d), .second, .val (.int mode), .val (.long u2), .second, .val (.long tp), .second, .unset, .unset, .unset, .unset, .unset, .unset, .unset] [(.long u2)])
        refine rLdcL hs X0 hx hZ hown (hw _ (List.mem_of_getElem? (i := 1) rfl)) rfl (hb hby at_47) ?_
        show G s₁ (mkF m 50 #[.val (.long t), .second, .val (.long ts), .second, .val (.long d), .second, .val (.int mode), .val (.long u2), .second, .val (.long tp), .second, .unset, .unset, .unset, .unset, .unset, .unset, .unset] [(.long (4294967296 : Int64)), (.long u2)])
        refine hs.go (fun _ kk_ => XS.lcmp X0.here hx rfl (hb hby at_50) rfl kk_) ?_
        show G s₁ (mkF m 51 #[.val (.long t), .second, .val (.long ts), .second, .val (.long d), .second, .val (.int mode), .val (.long u2), .second, .val (.long tp), .second, .unset, .unset, .unset, .unset, .unset, .unset, .unset] [(.int (lcmpW u2 (4294967296 : Int64)))])
        by_cases c51 : (4294967296 : Int64) < u2
        · refine hs.go (fun _ kk_ => XS.ifYes X0.here hx rfl (pc0 := 51) (pc' := 75) rfl (hb hby at_51) rfl ((if0 _ _).trans (gtL c51).1) (by decide) (by decide) kk_) ?_
          show G s₁ (mkF m 75 #[.val (.long t), .second, .val (.long ts), .second, .val (.long d), .second, .val (.int mode), .val (.long u2), .second, .val (.long tp), .second, .unset, .unset, .unset, .unset, .unset, .unset, .unset] [])
          refine hs.go (fun _ kk_ => XS.lload X0.here hx rfl (hb hby at_75) rfl  kk_) ?_
          show G s₁ (mkF m 77 #[.val (.long t), .second, .val (.long ts), .second, .val (.long d), .second, .val (.int mode), .val (.long u2), .second, .val (.long tp), .second, .unset, .unset, .unset, .unset, .unset, .unset, .unset] [(.long d)])
          refine hs.go (fun _ kk_ => XS.iconst X0.here hx rfl (hb hby at_77) kk_) ?_
          show G s₁ (mkF m 78 #[.val (.long t), .second, .val (.long ts), .second, .val (.long d), .second, .val (.int mode), .val (.long u2), .second, .val (.long tp), .second, .unset, .unset, .unset, .unset, .unset, .unset, .unset] [(.int (2 : Int32)), (.long d)])
          refine hs.go (fun _ kk_ => XS.lshr X0.here hx rfl (hb hby at_78) rfl kk_) ?_
          show G s₁ (mkF m 79 #[.val (.long t), .second, .val (.long ts), .second, .val (.long d), .second, .val (.int mode), .val (.long u2), .second, .val (.long tp), .second, .unset, .unset, .unset, .unset, .unset, .unset, .unset] [(.long (d >>> ((2 : Int32) &&& 0x3f).toInt64))])
          refine nameIt (P := fun zz_ : Int64 => G s₁ (mkF m 79 #[.val (.long t), .second, .val (.long ts), .second, .val (.long d), .second, .val (.int mode), .val (.long u2), .second, .val (.long tp), .second, .unset, .unset, .unset, .unset, .unset, .unset, .unset] [(.long zz_)])) (d >>> ((2 : Int32) &&& 0x3f).toInt64) (fun v6 hv6 => ?_)
          show G s₁ (mkF m 79 #[.val (.long t), .second, .val (.long ts), .second, .val (.long d), .second, .val (.int mode), .val (.long u2), .second, .val (.long tp), .second, .unset, .unset, .unset, .unset, .unset, .unset, .unset] [(.long v6)])
          refine hs.go (fun _ kk_ => XS.lstore X0.here hx rfl (hb hby at_79) rfl (l' := #[.val (.long t), .second, .val (.long ts), .second, .val (.long d), .second, .val (.int mode), .val (.long u2), .second, .val (.long tp), .second, .val (.long v6), .second, .unset, .unset, .unset, .unset, .unset]) rfl kk_) ?_
          show G s₁ (mkF m 81 #[.val (.long t), .second, .val (.long ts), .second, .val (.long d), .second, .val (.int mode), .val (.long u2), .second, .val (.long tp), .second, .val (.long v6), .second, .unset, .unset, .unset, .unset, .unset] [])
          subst hv6
          exact J81 _ (Or.inr (Or.inl (⟨c42, c51, rfl⟩)))
        · refine hs.go (fun _ kk_ => XS.ifNo X0.here hx rfl (hb hby at_51) rfl ((if0 _ _).trans (ngtL c51).1) kk_) ?_
          show G s₁ (mkF m 54 #[.val (.long t), .second, .val (.long ts), .second, .val (.long d), .second, .val (.int mode), .val (.long u2), .second, .val (.long tp), .second, .unset, .unset, .unset, .unset, .unset, .unset, .unset] [])
          refine hs.go (fun _ kk_ => XS.lload X0.here hx rfl (hb hby at_54) rfl  kk_) ?_
          show G s₁ (mkF m 56 #[.val (.long t), .second, .val (.long ts), .second, .val (.long d), .second, .val (.int mode), .val (.long u2), .second, .val (.long tp), .second, .unset, .unset, .unset, .unset, .unset, .unset, .unset] [(.long tp)])
          refine hs.go (fun _ kk_ => XS.lload X0.here hx rfl (hb hby at_56) rfl  kk_) ?_
          show G s₁ (mkF m 58 #[.val (.long t), .second, .val (.long ts), .second, .val (.long d), .second, .val (.int mode), .val (.long u2), .second, .val (.long tp), .second, .unset, .unset, .unset, .unset, .unset, .unset, .unset] [(.long u2), (.long tp)])
          refine rLdcL hs X0 hx hZ hown (hw _ (List.mem_of_getElem? (i := 2) rfl)) rfl (hb hby at_58) ?_
          show G s₁ (mkF m 61 #[.val (.long t), .second, .val (.long ts), .second, .val (.long d), .second, .val (.int mode), .val (.long u2), .second, .val (.long tp), .second, .unset, .unset, .unset, .unset, .unset, .unset, .unset] [(.long (1000 : Int64)), (.long u2), (.long tp)])
          refine hs.go (fun _ kk_ => XS.lmul X0.here hx rfl (hb hby at_61) rfl kk_) ?_
          show G s₁ (mkF m 62 #[.val (.long t), .second, .val (.long ts), .second, .val (.long d), .second, .val (.int mode), .val (.long u2), .second, .val (.long tp), .second, .unset, .unset, .unset, .unset, .unset, .unset, .unset] [(.long (u2 * (1000 : Int64))), (.long tp)])
          refine hs.go (fun _ kk_ => XS.ladd X0.here hx rfl (hb hby at_62) rfl kk_) ?_
          show G s₁ (mkF m 63 #[.val (.long t), .second, .val (.long ts), .second, .val (.long d), .second, .val (.int mode), .val (.long u2), .second, .val (.long tp), .second, .unset, .unset, .unset, .unset, .unset, .unset, .unset] [(.long (tp + (u2 * (1000 : Int64))))])
          refine hs.go (fun _ kk_ => XS.lload X0.here hx rfl (hb hby at_63) rfl  kk_) ?_
          show G s₁ (mkF m 65 #[.val (.long t), .second, .val (.long ts), .second, .val (.long d), .second, .val (.int mode), .val (.long u2), .second, .val (.long tp), .second, .unset, .unset, .unset, .unset, .unset, .unset, .unset] [(.long d), (.long (tp + (u2 * (1000 : Int64))))])
          refine rLdcL hs X0 hx hZ hown (hw _ (List.mem_of_getElem? (i := 3) rfl)) rfl (hb hby at_65) ?_
          show G s₁ (mkF m 68 #[.val (.long t), .second, .val (.long ts), .second, .val (.long d), .second, .val (.int mode), .val (.long u2), .second, .val (.long tp), .second, .unset, .unset, .unset, .unset, .unset, .unset, .unset] [(.long (3 : Int64)), (.long d), (.long (tp + (u2 * (1000 : Int64))))])
          refine rLrem hs X0 hx rfl (hb hby at_68) rfl (by decide) ?_
          show G s₁ (mkF m 69 #[.val (.long t), .second, .val (.long ts), .second, .val (.long d), .second, .val (.int mode), .val (.long u2), .second, .val (.long tp), .second, .unset, .unset, .unset, .unset, .unset, .unset, .unset] [(.long (d % (3 : Int64))), (.long (tp + (u2 * (1000 : Int64))))])
          refine hs.go (fun _ kk_ => XS.ladd X0.here hx rfl (hb hby at_69) rfl kk_) ?_
          show G s₁ (mkF m 70 #[.val (.long t), .second, .val (.long ts), .second, .val (.long d), .second, .val (.int mode), .val (.long u2), .second, .val (.long tp), .second, .unset, .unset, .unset, .unset, .unset, .unset, .unset] [(.long ((tp + (u2 * (1000 : Int64))) + (d % (3 : Int64))))])
          refine nameIt (P := fun zz_ : Int64 => G s₁ (mkF m 70 #[.val (.long t), .second, .val (.long ts), .second, .val (.long d), .second, .val (.int mode), .val (.long u2), .second, .val (.long tp), .second, .unset, .unset, .unset, .unset, .unset, .unset, .unset] [(.long zz_)])) ((tp + (u2 * (1000 : Int64))) + (d % (3 : Int64))) (fun v7 hv7 => ?_)
          show G s₁ (mkF m 70 #[.val (.long t), .second, .val (.long ts), .second, .val (.long d), .second, .val (.int mode), .val (.long u2), .second, .val (.long tp), .second, .unset, .unset, .unset, .unset, .unset, .unset, .unset] [(.long v7)])
          refine hs.go (fun _ kk_ => XS.lstore X0.here hx rfl (hb hby at_70) rfl (l' := #[.val (.long t), .second, .val (.long ts), .second, .val (.long d), .second, .val (.int mode), .val (.long u2), .second, .val (.long tp), .second, .val (.long v7), .second, .unset, .unset, .unset, .unset, .unset]) rfl kk_) ?_
          show G s₁ (mkF m 72 #[.val (.long t), .second, .val (.long ts), .second, .val (.long d), .second, .val (.int mode), .val (.long u2), .second, .val (.long tp), .second, .val (.long v7), .second, .unset, .unset, .unset, .unset, .unset] [])
          refine hs.go (fun _ kk_ => XS.goto X0.here hx rfl (pc0 := 72) (pc' := 81) rfl (hb hby at_72) (by decide) (by decide) kk_) ?_
          show G s₁ (mkF m 81 #[.val (.long t), .second, .val (.long ts), .second, .val (.long d), .second, .val (.int mode), .val (.long u2), .second, .val (.long tp), .second, .val (.long v7), .second, .unset, .unset, .unset, .unset, .unset] [])
          subst hv7
          exact J81 _ (Or.inr (Or.inr (⟨c42, c51, rfl⟩)))
    refine hs.go (fun _ kk_ => XS.lload X0.here hx rfl (hb hby at_23) rfl  kk_) ?_
    show G s₁ (mkF m 25 #[.val (.long t), .second, .val (.long ts), .second, .val (.long d), .second, .val (.int mode), .val (.long u1), .second, .unset, .unset, .unset, .unset, .unset, .unset, .unset, .unset, .unset] [(.long u1)])
    refine hs.go (fun _ kk_ => XS.lconst X0.here hx rfl (hb hby at_25) kk_) ?_
    show G s₁ (mkF m 26 #[.val (.long t), .second, .val (.long ts), .second, .val (.long d), .second, .val (.int mode), .val (.long u1), .second, .unset, .unset, .unset, .unset, .unset, .unset, .unset, .unset, .unset] [(.long (0 : Int64)), (.long u1)])
    refine hs.go (fun _ kk_ => XS.lcmp X0.here hx rfl (hb hby at_26) rfl kk_) ?_
    show G s₁ (mkF m 27 #[.val (.long t), .second, .val (.long ts), .second, .val (.long d), .second, .val (.int mode), .val (.long u1), .second, .unset, .unset, .unset, .unset, .unset, .unset, .unset, .unset, .unset] [(.int (lcmpW u1 (0 : Int64)))])
    by_cases c27 : u1 = (0 : Int64)
    · refine hs.go (fun _ kk_ => XS.ifNo X0.here hx rfl (hb hby at_27) rfl ((if0 _ _).trans (eqL c27).2) kk_) ?_
      show G s₁ (mkF m 30 #[.val (.long t), .second, .val (.long ts), .second, .val (.long d), .second, .val (.int mode), .val (.long u1), .second, .unset, .unset, .unset, .unset, .unset, .unset, .unset, .unset, .unset] [])
      refine hs.go (fun _ kk_ => XS.lconst X0.here hx rfl (hb hby at_30) kk_) ?_
      show G s₁ (mkF m 31 #[.val (.long t), .second, .val (.long ts), .second, .val (.long d), .second, .val (.int mode), .val (.long u1), .second, .unset, .unset, .unset, .unset, .unset, .unset, .unset, .unset, .unset] [(.long (1 : Int64))])
      refine hs.go (fun _ kk_ => XS.lstore X0.here hx rfl (hb hby at_31) rfl (l' := #[.val (.long t), .second, .val (.long ts), .second, .val (.long d), .second, .val (.int mode), .val (.long (1 : Int64)), .second, .unset, .unset, .unset, .unset, .unset, .unset, .unset, .unset, .unset]) rfl kk_) ?_
      show G s₁ (mkF m 33 #[.val (.long t), .second, .val (.long ts), .second, .val (.long d), .second, .val (.int mode), .val (.long (1 : Int64)), .second, .unset, .unset, .unset, .unset, .unset, .unset, .unset, .unset, .unset] [])
      exact J33 _ (Or.inl (⟨c27, rfl⟩))
    · refine hs.go (fun _ kk_ => XS.ifYes X0.here hx rfl (pc0 := 27) (pc' := 33) rfl (hb hby at_27) rfl ((if0 _ _).trans (neqL c27).2) (by decide) (by decide) kk_) ?_
      show G s₁ (mkF m 33 #[.val (.long t), .second, .val (.long ts), .second, .val (.long d), .second, .val (.int mode), .val (.long u1), .second, .unset, .unset, .unset, .unset, .unset, .unset, .unset, .unset, .unset] [])
      exact J33 _ (Or.inr (⟨c27, rfl⟩))
  refine hs.go (fun _ kk_ => XS.iload X0.here hx rfl (hb hby at_7) rfl  kk_) ?_
  show G s₁ (mkF m 9 #[.val (.long t), .second, .val (.long ts), .second, .val (.long d), .second, .val (.int mode), .val (.long t0), .second, .unset, .unset, .unset, .unset, .unset, .unset, .unset, .unset, .unset] [(.int mode)])
  refine hs.go (fun _ kk_ => XS.iconst X0.here hx rfl (hb hby at_9) kk_) ?_
  show G s₁ (mkF m 10 #[.val (.long t), .second, .val (.long ts), .second, .val (.long d), .second, .val (.int mode), .val (.long t0), .second, .unset, .unset, .unset, .unset, .unset, .unset, .unset, .unset, .unset] [(.int (1 : Int32)), (.int mode)])
  refine hs.go (fun _ kk_ => XS.iand X0.here hx rfl (hb hby at_10) rfl kk_) ?_
  show G s₁ (mkF m 11 #[.val (.long t), .second, .val (.long ts), .second, .val (.long d), .second, .val (.int mode), .val (.long t0), .second, .unset, .unset, .unset, .unset, .unset, .unset, .unset, .unset, .unset] [(.int (mode &&& (1 : Int32)))])
  by_cases c11 : (mode &&& (1 : Int32)) = (0 : Int32)
  · refine hs.go (fun _ kk_ => XS.ifYes X0.here hx rfl (pc0 := 11) (pc' := 23) rfl (hb hby at_11) rfl ((if0 _ _).trans (teq c11).1) (by decide) (by decide) kk_) ?_
    show G s₁ (mkF m 23 #[.val (.long t), .second, .val (.long ts), .second, .val (.long d), .second, .val (.int mode), .val (.long t0), .second, .unset, .unset, .unset, .unset, .unset, .unset, .unset, .unset, .unset] [])
    exact J23 _ (Or.inl (⟨c11, rfl⟩))
  · refine hs.go (fun _ kk_ => XS.ifNo X0.here hx rfl (hb hby at_11) rfl ((if0 _ _).trans (feq c11).1) kk_) ?_
    show G s₁ (mkF m 14 #[.val (.long t), .second, .val (.long ts), .second, .val (.long d), .second, .val (.int mode), .val (.long t0), .second, .unset, .unset, .unset, .unset, .unset, .unset, .unset, .unset, .unset] [])
    refine hs.go (fun _ kk_ => XS.lloadN X0.here hx rfl (hb hby at_14) rfl  kk_) ?_
    show G s₁ (mkF m 15 #[.val (.long t), .second, .val (.long ts), .second, .val (.long d), .second, .val (.int mode), .val (.long t0), .second, .unset, .unset, .unset, .unset, .unset, .unset, .unset, .unset, .unset] [(.long t)])
    refine rLdcL hs X0 hx hZ hown (hw _ (List.mem_of_getElem? (i := 44) rfl)) rfl (hb hby at_15) ?_
    show G s₁ (mkF m 18 #[.val (.long t), .second, .val (.long ts), .second, .val (.long d), .second, .val (.int mode), .val (.long t0), .second, .unset, .unset, .unset, .unset, .unset, .unset, .unset, .unset, .unset] [(.long (4294967295 : Int64)), (.long t)])
    refine hs.go (fun _ kk_ => XS.land X0.here hx rfl (hb hby at_18) rfl kk_) ?_
    show G s₁ (mkF m 19 #[.val (.long t), .second, .val (.long ts), .second, .val (.long d), .second, .val (.int mode), .val (.long t0), .second, .unset, .unset, .unset, .unset, .unset, .unset, .unset, .unset, .unset] [(.long (t &&& (4294967295 : Int64)))])
    refine hs.go (fun _ kk_ => XS.lconst X0.here hx rfl (hb hby at_19) kk_) ?_
    show G s₁ (mkF m 20 #[.val (.long t), .second, .val (.long ts), .second, .val (.long d), .second, .val (.int mode), .val (.long t0), .second, .unset, .unset, .unset, .unset, .unset, .unset, .unset, .unset, .unset] [(.long (1 : Int64)), (.long (t &&& (4294967295 : Int64)))])
    refine hs.go (fun _ kk_ => XS.ladd X0.here hx rfl (hb hby at_20) rfl kk_) ?_
    show G s₁ (mkF m 21 #[.val (.long t), .second, .val (.long ts), .second, .val (.long d), .second, .val (.int mode), .val (.long t0), .second, .unset, .unset, .unset, .unset, .unset, .unset, .unset, .unset, .unset] [(.long ((t &&& (4294967295 : Int64)) + (1 : Int64)))])
    refine nameIt (P := fun zz_ : Int64 => G s₁ (mkF m 21 #[.val (.long t), .second, .val (.long ts), .second, .val (.long d), .second, .val (.int mode), .val (.long t0), .second, .unset, .unset, .unset, .unset, .unset, .unset, .unset, .unset, .unset] [(.long zz_)])) ((t &&& (4294967295 : Int64)) + (1 : Int64)) (fun v8 hv8 => ?_)
    show G s₁ (mkF m 21 #[.val (.long t), .second, .val (.long ts), .second, .val (.long d), .second, .val (.int mode), .val (.long t0), .second, .unset, .unset, .unset, .unset, .unset, .unset, .unset, .unset, .unset] [(.long v8)])
    refine hs.go (fun _ kk_ => XS.lstore X0.here hx rfl (hb hby at_21) rfl (l' := #[.val (.long t), .second, .val (.long ts), .second, .val (.long d), .second, .val (.int mode), .val (.long v8), .second, .unset, .unset, .unset, .unset, .unset, .unset, .unset, .unset, .unset]) rfl kk_) ?_
    show G s₁ (mkF m 23 #[.val (.long t), .second, .val (.long ts), .second, .val (.long d), .second, .val (.int mode), .val (.long v8), .second, .unset, .unset, .unset, .unset, .unset, .unset, .unset, .unset, .unset] [])
    subst hv8
    exact J23 _ (Or.inr (⟨c11, rfl⟩))
set_option maxRecDepth 65536 in
set_option maxHeartbeats 40000000 in
theorem comes_1 {Post : Tables → Env → Array Value → State → Outcome → State → Prop} (hpost : ∀ tb e args s v u, (limb_1_1.after args s (.returned v) u = true ∧ limb_1_2.after args s (.returned v) u = true ∧ True) → ReturnedEndW s (.returned v) u (Jvm.fieldLocs frame_1_writes args s ++ Jvm.arrayLocs frame_1_arrays args s ++ Jvm.staticLocs frame_1_statics s) 16 2176 → Post tb e args s (.returned v) u) :
    ArmFor flags0 classFile x code maxLocals ret World_1 tables_1 room_1 Calls_1 rest_1 Pre_1 Post := by
  intro l hfl _ _ p e ha hc hk s m args below hf hA hF happ hP
  obtain ⟨hcalls, hrest, hpre⟩ := hP
  obtain ⟨-, -, -, hnamed, -, -, -, hat⟩ := (Spec.applies_iff hf).mp happ
  obtain ⟨hg, hn⟩ := and_e (Cond.before_iff.mp (show (Jvm.Cond.and given_1 narrow_1).before args s = true from hpre))
  obtain ⟨hcnt, hg0⟩ := and_e hg
  obtain ⟨t0, hg1⟩ := and_e hg0
  obtain ⟨t1, hg2⟩ := and_e hg1
  obtain ⟨t2, hg3⟩ := and_e hg2
  have t3 := hg3
  obtain ⟨w0, w1, w2, w3, rfl⟩ : ∃ w0 w1 w2 w3 : Value, args = #[w0, w1, w2, w3] := by
    have hs : args.size = 4 := by simpa [Cond.value, given_1] using hcnt
    obtain ⟨L⟩ := args
    match L, hs with
    | [w0, w1, w2, w3], _ => exact ⟨w0, w1, w2, w3, rfl⟩
  have hw := fun d (hd : d ∈ tables_1) => atoms_spec (ws := Jvm.Cond.code x code maxLocals ret :: tables_1) hat d (List.mem_cons_of_mem _ hd)
  have hfit : Fit s := fun {y c} hc i hi => by
    obtain ⟨ha, rfl⟩ := Array.getElem?_eq_some_iff.mp hc
    have q := List.all_eq_true.mp ((Array.all_eq_true_iff_forall_mem.mp hF) _ (Array.getElem_mem ha)) i (List.mem_range.mpr hi)
    simpa [Array.getElem?_eq_getElem hi] using q
  obtain ⟨i0, ei0⟩ := isL_v t0
  obtain rfl : w0 = (.long i0) := Option.some.inj ei0
  obtain ⟨i1, ei1⟩ := isL_v t1
  obtain rfl : w1 = (.long i1) := Option.some.inj ei1
  obtain ⟨i2, ei2⟩ := isL_v t2
  obtain rfl : w2 = (.long i2) := Option.some.inj ei2
  obtain ⟨i3, ei3⟩ := is_v t3
  obtain rfl : w3 = (.int i3) := Option.some.inj ei3
  obtain ⟨n, o, h1, h2, h3, _, L, rfl, ⟨rfl, N⟩, hq⟩ := rm0 l s _ hw tables_1 i0 i1 i2 i3  s.heap s.heap.size (Nat.le_refl _)  p e ha hc hk s m _ below hf ((Spec.applies_iff_loose hf).mp happ).1 ⟨rfl, State.Warmed39.refl s, rfl⟩ trivial
  refine ⟨n, _, h1, h2, h3, hpost _ _ _ _ _ _ ⟨Cond.after_iff.mpr rfl, Cond.after_iff.mpr (eq_i res_at (Term.int_eval (1)) rfl), trivial⟩ ⟨hq.1, hq.2.1, hq.2.2.1, (hq.2.2.2.sift fun y hy => Or.inr (N y hy)).mono (by decide) (by decide)⟩⟩
theorem main_1_1 : Claimed_1_1 := comes_1 fun _ _ _ _ _ _ h hF => ⟨h.1, hF⟩
theorem main_1_2 : Claimed_1_2 := comes_1 fun _ _ _ _ _ _ h hF => ⟨h.2.1, hF⟩
end Jvm.Pilot.@@N@@
namespace Jvm.Pilot.@@N@@
open Jvm Jvm.ClassFile Sem Op Lib Jvm.Free Jvm.Stand Jvm.Pilot.@@N@@.Jvm.D
/-! MADE BY PROGRAM (witnessworld.py) out of the Statement's table words and the real class files: 16 classes; the members and pool entries that the words name. The judged class is class 1, her method 1. -/
namespace start1
open Jvm.ClassFile
def u (s : String) : CpInfo := .utf8 (stringToUtf16 s)
/-- a pool by its gaps: so many unusable entries, then the entry; so many at the end -/
def gap : Nat → List CpInfo → List CpInfo
  | 0, r => r
  | n + 1, r => .unusable :: gap n r
def poolList (es : List (Nat × CpInfo)) (last : Nat) : List CpInfo := es.foldr (fun e r => gap e.1 (e.2 :: r)) (gap last [])
def pool (es : List (Nat × CpInfo)) (last : Nat) : Array CpInfo := ⟨poolList es last⟩
def fileOf (pool : Array CpInfo) (this : Nat) (attrs : Array Attribute := #[]) (ms : Array MethodInfo := #[]) (fl : Nat := 33) (sup : Nat := 0) (ifs : Array Nat := #[]) (fds : Array FieldInfo := #[]) : ClassFile where
  minorVersion := 0
  majorVersion := 65
  constantPool := pool
  accessFlags := fl
  thisClass := this
  superClass := sup
  interfaces := ifs
  fields := fds
  methods := ms
  attributes := attrs
def plain (name : String) (sup : Option ClassId) : Class where
  name := name
  kind := .ordinary
  loader := none
  accessFlags := 33
  super := sup
  interfaces := #[]
  cf := none
  fields := #[]
  methods := #[]
  instanceTypes := #[]
  staticTypes := #[]
  resolved := #[]
  callSites := []
  init := .initialized
  statics := none
  mirror := none

def pool0 : Array CpInfo := pool [(5, u "<init>"), (0, u "()V"), (1, .class_ 10), (1, u "java/lang/Object")] 113

def k0c0 : Code := { maxStack := 0, maxLocals := 1, code := object_method_1_code, exceptionTable := #[], attributes := #[] }
def k0m0 : Method := { name := "<init>", desc := "()V", sig := { parameters := [], returnType := none }, accessFlags := 1, code := some k0c0 }
/-- java/lang/Object -/
def k0 : Class := { plain "java/lang/Object" none with
  accessFlags := 33
  interfaces := #[]
  cf := some (fileOf pool0 8 #[] #[{ accessFlags := 1, nameIndex := 5, descriptorIndex := 6, attributes := #[] }] 33 0 #[] #[])
  fields := #[]
  methods := #[k0m0]
  instanceTypes := #[]
  staticTypes := #[]
  resolved := Array.replicate 124 none
  statics := none }

def pool1 : Array CpInfo := pool [(2, .class_ 4), (1, u "java/lang/Object"), (0, u "<init>"), (0, u "()V"), (2, .long 9223372036854775807), (1, .long 4294967295), (1, .long 4294967296), (1, .long 1000), (1, .long 3), (1, .class_ 20), (0, u "com/example/rowcall/rowcall/Family"), (0, .string 22), (0, u "f"), (0, .methodref 19 24), (0, .nameAndType 5 25), (0, u "(Ljava/lang/String;IJ)V"), (0, .methodref 19 27), (0, .nameAndType 28 29), (0, u "expired"), (0, u "(JJ)Z"), (0, .class_ 31), (0, u "com/example/rowcall/rowcall/FamilyExpiredPinLaw"), (2, u "law"), (0, u "(JJJI)Z")] 3

def k1m0 : Method := { name := "<init>", desc := "()V", sig := { parameters := [], returnType := none }, accessFlags := 1, code := none }
def k1c1 : Code := { maxStack := 6, maxLocals := 18, code := code, exceptionTable := #[], attributes := #[] }
def k1m1 : Method := { name := "law", desc := "(JJJI)Z", sig := { parameters := [.long, .long, .long, .int], returnType := some .boolean }, accessFlags := 9, code := some k1c1 }
/-- com/example/rowcall/rowcall/FamilyExpiredPinLaw -/
def k1 : Class := { plain "com/example/rowcall/rowcall/FamilyExpiredPinLaw" (some 0) with
  accessFlags := 49
  interfaces := #[]
  cf := some (fileOf pool1 30 #[] #[{ accessFlags := 1, nameIndex := 5, descriptorIndex := 6, attributes := #[] }, { accessFlags := 9, nameIndex := 34, descriptorIndex := 35, attributes := #[] }] 49 2 #[] #[])
  fields := #[]
  methods := #[k1m0, k1m1]
  instanceTypes := #[]
  staticTypes := #[]
  resolved := Array.replicate 39 none
  statics := none }

def pool2 : Array CpInfo := pool [(1, .methodref 2 3), (0, .class_ 4), (0, .nameAndType 5 6), (0, u "java/lang/Object"), (0, u "<init>"), (0, u "()V"), (0, .class_ 8), (0, u "java/lang/Record")] 13

def k2c0 : Code := { maxStack := 1, maxLocals := 1, code := jdk_30_method_1_code, exceptionTable := #[], attributes := #[] }
def k2m0 : Method := { name := "<init>", desc := "()V", sig := { parameters := [], returnType := none }, accessFlags := 4, code := some k2c0 }
/-- java/lang/Record -/
def k2 : Class := { plain "java/lang/Record" (some 0) with
  accessFlags := 1057
  interfaces := #[]
  cf := some (fileOf pool2 7 #[] #[{ accessFlags := 4, nameIndex := 5, descriptorIndex := 6, attributes := #[] }] 1057 2 #[] #[])
  fields := #[]
  methods := #[k2m0]
  instanceTypes := #[]
  staticTypes := #[]
  resolved := Array.replicate 22 none
  statics := none }

def pool3 : Array CpInfo := pool [(3, .methodref 4 5), (0, .class_ 6), (0, .nameAndType 7 8), (0, u "java/lang/Record"), (0, u "<init>"), (0, u "()V"), (0, .string 10), (0, u "name"), (0, .methodref 12 13), (0, .class_ 14), (0, .nameAndType 15 16), (0, u "java/util/Objects"), (0, u "requireNonNull"), (0, u "(Ljava/lang/Object;Ljava/lang/String;)Ljava/lang/Object;"), (12, .fieldref 30 31), (0, .class_ 32), (0, .nameAndType 10 33), (0, u "com/example/rowcall/rowcall/Family"), (0, u "Ljava/lang/String;"), (0, .fieldref 30 35), (0, .nameAndType 36 37), (0, u "maxVersions"), (0, u "I"), (0, .fieldref 30 39), (0, .nameAndType 40 41), (0, u "ttlSeconds"), (0, u "J"), (0, .long 9223372036854775807), (3, u "(Ljava/lang/String;IJ)V"), (3, .long 9223372036854775), (1, .long 1000), (13, u "FOREVER"), (7, u "expired"), (0, u "(JJ)Z")] 36

def k3c0 : Code := { maxStack := 5, maxLocals := 5, code := prog_16_method_1_code, exceptionTable := #[], attributes := #[] }
def k3m0 : Method := { name := "<init>", desc := "(Ljava/lang/String;IJ)V", sig := { parameters := [(.object "java/lang/String"), .int, .long], returnType := none }, accessFlags := 1, code := some k3c0 }
def k3c1 : Code := { maxStack := 4, maxLocals := 7, code := prog_16_method_4_code, exceptionTable := #[], attributes := #[] }
def k3m1 : Method := { name := "expired", desc := "(JJ)Z", sig := { parameters := [.long, .long], returnType := some .boolean }, accessFlags := 0, code := some k3c1 }
/-- com/example/rowcall/rowcall/Family -/
def k3 : Class := { plain "com/example/rowcall/rowcall/Family" (some 2) with
  accessFlags := 49
  interfaces := #[]
  cf := some (fileOf pool3 30 #[] #[{ accessFlags := 1, nameIndex := 7, descriptorIndex := 46, attributes := #[] }, { accessFlags := 0, nameIndex := 74, descriptorIndex := 75, attributes := #[] }] 49 4 #[] #[{ accessFlags := 18, nameIndex := 10, descriptorIndex := 33, attributes := #[] }, { accessFlags := 18, nameIndex := 36, descriptorIndex := 37, attributes := #[] }, { accessFlags := 18, nameIndex := 40, descriptorIndex := 41, attributes := #[] }, { accessFlags := 25, nameIndex := 66, descriptorIndex := 41, attributes := #[] }])
  fields := #[{ name := "name", type := (.object "java/lang/String"), accessFlags := 18, slot := 0, constantValue := 0 }, { name := "maxVersions", type := .int, accessFlags := 18, slot := 1, constantValue := 0 }, { name := "ttlSeconds", type := .long, accessFlags := 18, slot := 2, constantValue := 0 }, { name := "FOREVER", type := .long, accessFlags := 25, slot := 0, constantValue := 0 }]
  methods := #[k3m0, k3m1]
  instanceTypes := #[(.object "java/lang/String"), .int, .long]
  staticTypes := #[.long]
  resolved := Array.replicate 112 none
  statics := none }

def pool4 : Array CpInfo := pool [(1, .class_ 2), (0, u "java/io/Serializable"), (0, .class_ 4), (0, u "java/lang/Object")] 2

/-- java/io/Serializable -/
def k4 : Class := { plain "java/io/Serializable" (some 0) with
  accessFlags := 1537
  interfaces := #[]
  cf := some (fileOf pool4 1 #[] #[] 1537 3 #[] #[])
  fields := #[]
  methods := #[]
  instanceTypes := #[]
  staticTypes := #[]
  resolved := Array.replicate 7 none
  statics := none }

def pool5 : Array CpInfo := pool [(1, .class_ 2), (0, u "java/lang/Comparable"), (0, .class_ 4), (0, u "java/lang/Object")] 7

/-- java/lang/Comparable -/
def k5 : Class := { plain "java/lang/Comparable" (some 0) with
  accessFlags := 1537
  interfaces := #[]
  cf := some (fileOf pool5 1 #[] #[] 1537 3 #[] #[])
  fields := #[]
  methods := #[]
  instanceTypes := #[]
  staticTypes := #[]
  resolved := Array.replicate 12 none
  statics := none }

def pool6 : Array CpInfo := pool [(2, .class_ 4), (1, u "java/lang/CharSequence"), (42, .class_ 48), (0, u "java/lang/CharSequence$1CodePointIterator"), (10, .class_ 60), (0, u "java/lang/CharSequence$1CharIterator"), (5, .class_ 67), (0, u "java/lang/Object")] 63

/-- java/lang/CharSequence -/
def k6 : Class := { plain "java/lang/CharSequence" (some 0) with
  accessFlags := 1537
  interfaces := #[]
  cf := some (fileOf pool6 2 #[.nestMembers #[47, 59]] #[] 1537 66 #[] #[])
  fields := #[]
  methods := #[]
  instanceTypes := #[]
  staticTypes := #[]
  resolved := Array.replicate 131 none
  statics := none }

def pool7 : Array CpInfo := pool [(1, .class_ 2), (0, u "java/lang/constant/Constable"), (0, .class_ 4), (0, u "java/lang/Object")] 6

/-- java/lang/constant/Constable -/
def k7 : Class := { plain "java/lang/constant/Constable" (some 0) with
  accessFlags := 1537
  interfaces := #[]
  cf := some (fileOf pool7 1 #[] #[] 1537 3 #[] #[])
  fields := #[]
  methods := #[]
  instanceTypes := #[]
  staticTypes := #[]
  resolved := Array.replicate 11 none
  statics := none }

def pool8 : Array CpInfo := pool [(1, .class_ 2), (0, u "java/lang/constant/ConstantDesc"), (0, .class_ 4), (0, u "java/lang/Object")] 32

/-- java/lang/constant/ConstantDesc -/
def k8 : Class := { plain "java/lang/constant/ConstantDesc" (some 0) with
  accessFlags := 1537
  interfaces := #[]
  cf := some (fileOf pool8 1 #[] #[] 1537 3 #[] #[])
  fields := #[]
  methods := #[]
  instanceTypes := #[]
  staticTypes := #[]
  resolved := Array.replicate 37 none
  statics := none }

def pool9 : Array CpInfo := pool [(2, .class_ 4), (1, u "java/lang/Object"), (0, u "<init>"), (0, u "()V"), (3, .class_ 12), (1, u "java/lang/String"), (0, u "value"), (0, u "[B"), (2, u "coder"), (0, u "B"), (2, u "hash"), (0, u "I"), (2, u "hashIsZero"), (0, u "Z"), (13, u "COMPACT_STRINGS"), (534, .class_ 576), (0, u "java/lang/CharSequence"), (22, u "CASE_INSENSITIVE_ORDER"), (0, u "Ljava/util/Comparator;"), (500, u "serialPersistentFields"), (0, u "[Ljava/io/ObjectStreamField;"), (0, .class_ 1104), (0, u "java/lang/String$CaseInsensitiveComparator"), (1, .class_ 1107), (0, u "java/io/Serializable"), (0, .class_ 1109), (0, u "java/lang/Comparable"), (0, .class_ 1111), (0, u "java/lang/constant/Constable"), (0, .class_ 1113), (0, u "java/lang/constant/ConstantDesc"), (2, u "serialVersionUID"), (0, u "J"), (3, u "REPL"), (0, u "C"), (2, u "LATIN1"), (1, u "UTF16")] 323

def k9m0 : Method := { name := "<init>", desc := "()V", sig := { parameters := [], returnType := none }, accessFlags := 1, code := none }
/-- java/lang/String -/
def k9 : Class := { plain "java/lang/String" (some 0) with
  accessFlags := 49
  interfaces := #[4, 5, 6, 7, 8]
  cf := some (fileOf pool9 10 #[.nestMembers #[1103]] #[{ accessFlags := 1, nameIndex := 5, descriptorIndex := 6, attributes := #[] }] 49 2 #[1106, 1108, 575, 1110, 1112] #[{ accessFlags := 18, nameIndex := 13, descriptorIndex := 14, attributes := #[] }, { accessFlags := 18, nameIndex := 17, descriptorIndex := 18, attributes := #[] }, { accessFlags := 2, nameIndex := 21, descriptorIndex := 22, attributes := #[] }, { accessFlags := 2, nameIndex := 25, descriptorIndex := 26, attributes := #[] }, { accessFlags := 26, nameIndex := 1116, descriptorIndex := 1117, attributes := #[] }, { accessFlags := 24, nameIndex := 40, descriptorIndex := 26, attributes := #[] }, { accessFlags := 26, nameIndex := 1101, descriptorIndex := 1102, attributes := #[] }, { accessFlags := 26, nameIndex := 1121, descriptorIndex := 1122, attributes := #[] }, { accessFlags := 25, nameIndex := 599, descriptorIndex := 600, attributes := #[] }, { accessFlags := 24, nameIndex := 1125, descriptorIndex := 18, attributes := #[] }, { accessFlags := 24, nameIndex := 1127, descriptorIndex := 18, attributes := #[] }])
  fields := #[{ name := "value", type := (.array .byte), accessFlags := 18, slot := 0, constantValue := 0 }, { name := "coder", type := .byte, accessFlags := 18, slot := 1, constantValue := 0 }, { name := "hash", type := .int, accessFlags := 2, slot := 2, constantValue := 0 }, { name := "hashIsZero", type := .boolean, accessFlags := 2, slot := 3, constantValue := 0 }, { name := "serialVersionUID", type := .long, accessFlags := 26, slot := 0, constantValue := 0 }, { name := "COMPACT_STRINGS", type := .boolean, accessFlags := 24, slot := 1, constantValue := 0 }, { name := "serialPersistentFields", type := (.array (.object "java/io/ObjectStreamField")), accessFlags := 26, slot := 2, constantValue := 0 }, { name := "REPL", type := .char, accessFlags := 26, slot := 3, constantValue := 0 }, { name := "CASE_INSENSITIVE_ORDER", type := (.object "java/util/Comparator"), accessFlags := 25, slot := 4, constantValue := 0 }, { name := "LATIN1", type := .byte, accessFlags := 24, slot := 5, constantValue := 0 }, { name := "UTF16", type := .byte, accessFlags := 24, slot := 6, constantValue := 0 }]
  methods := #[k9m0]
  instanceTypes := #[(.array .byte), .byte, .int, .boolean]
  staticTypes := #[.long, .boolean, (.array (.object "java/io/ObjectStreamField")), .char, (.object "java/util/Comparator"), .byte, .byte]
  resolved := Array.replicate 1451 none
  statics := none }

def pool10 : Array CpInfo := pool [(2, .class_ 4), (1, u "java/lang/Object"), (0, u "<init>"), (0, u "()V"), (35, .class_ 44), (1, u "java/util/Objects"), (0, u "requireNonNull"), (48, u "(Ljava/lang/Object;Ljava/lang/String;)Ljava/lang/Object;")] 89

def k10m0 : Method := { name := "<init>", desc := "()V", sig := { parameters := [], returnType := none }, accessFlags := 2, code := none }
def k10c1 : Code := { maxStack := 3, maxLocals := 2, code := jdk_31_method_11_code, exceptionTable := #[], attributes := #[] }
def k10m1 : Method := { name := "requireNonNull", desc := "(Ljava/lang/Object;Ljava/lang/String;)Ljava/lang/Object;", sig := { parameters := [(.object "java/lang/Object"), (.object "java/lang/String")], returnType := some (.object "java/lang/Object") }, accessFlags := 9, code := some k10c1 }
/-- java/util/Objects -/
def k10 : Class := { plain "java/util/Objects" (some 0) with
  accessFlags := 49
  interfaces := #[]
  cf := some (fileOf pool10 42 #[] #[{ accessFlags := 2, nameIndex := 5, descriptorIndex := 6, attributes := #[] }, { accessFlags := 9, nameIndex := 45, descriptorIndex := 94, attributes := #[] }] 49 2 #[] #[])
  fields := #[]
  methods := #[k10m0, k10m1]
  instanceTypes := #[]
  staticTypes := #[]
  resolved := Array.replicate 184 none
  statics := none }

def pool11 : Array CpInfo := pool [(1, u "java/lang/Cloneable"), (0, .class_ 1), (0, u "java/lang/Object"), (0, .class_ 3)] 3

/-- java/lang/Cloneable -/
def k11 : Class := { plain "java/lang/Cloneable" (some 0) with
  accessFlags := 1537
  interfaces := #[]
  cf := some (fileOf pool11 2 #[] #[] 1537 4 #[] #[])
  fields := #[]
  methods := #[]
  instanceTypes := #[]
  staticTypes := #[]
  resolved := Array.replicate 8 none
  statics := none }

/-- the primitive byte -/
def k12 : Class := { plain "byte" none with kind := .primitive 'B', accessFlags := 0x411 }
/-- [B -/
def k13 : Class := { plain "[B" (some 0) with kind := .array 12 .byte, interfaces := #[11, 4], accessFlags := 1041 }

/-- the primitive int -/
def k14 : Class := { plain "int" none with kind := .primitive 'I', accessFlags := 0x411 }
/-- [I -/
def k15 : Class := { plain "[I" (some 0) with kind := .array 14 .int, interfaces := #[11, 4], accessFlags := 1041 }

def heap : Heap := #[]
def classes : Array Class := #[k0, k1, k2, k3, k4, k5, k6, k7, k8, k9, k10, k11, k12, k13, k14, k15]
def interned : List (Array UInt16 × Addr) := []
def slotsUsed : Nat := 0
def theMethod : MethodId := ⟨1, 1⟩
def args0 : Array Value := #[.long 7, .long 7, .long 7, .int 5]
def aboutOver (below : List Frame) : State where
  vm := { classes := classes, interned := interned.toArray }
  heap := heap
  slotsUsed := slotsUsed
  threads := #[{ frames := .invoking theMethod args0 :: below }]
def below0 : List Frame := [.native { method := ⟨0, 0⟩, args := #[] }]
def about1 : State := aboutOver below0
def p0 : Program := .bare "" "" ""
def e0 : Env := launch0.env 0 0 0
theorem w_frames : about1.frames = Frame.invoking theMethod args0 :: below0 := rfl
set_option maxRecDepth 65536 in
theorem w_args : argsFit about1.vm theMethod args0 = true := by decide +kernel
set_option maxRecDepth 65536 in
theorem w_heap : heapFits about1 = true := by decide +kernel
set_option maxRecDepth 65536 in
theorem w_runnable : about1.curStatus? = some .runnable := by decide +kernel
set_option maxRecDepth 65536 in
theorem w_alone : about1.alone = true := by decide +kernel
set_option maxRecDepth 65536 in
theorem w_named : about1.methodNamed? x = some theMethod := by decide +kernel
set_option maxRecDepth 65536 in
theorem w_hears : about1.hears theMethod below0 = true := by decide +kernel
set_option maxRecDepth 65536 in
theorem w_ripe : about1.ripe theMethod args0 below0 = true := by decide +kernel
theorem w_running : about1.status = .running := rfl
set_option maxRecDepth 65536 in
theorem w_room : about1.hasRoom e0.platform room_1 = true :=
  launch0.hasRoom_least _ room_1 (by decide +kernel) (by decide +kernel) (by decide +kernel) (by decide +kernel) (by decide +kernel) (by decide +kernel)
theorem allAtoms_all (ts : List Jvm.Cond) (a : Array Jvm.Value) (st : Jvm.State) : (allAtoms ts).before a st = ts.all (fun c => c.before a st) := by
  induction ts with
  | nil => rfl
  | cons c t ih =>
    show (Jvm.Cond.and c (allAtoms t)).before a st = _
    rw [Jvm.Cond.before_and, ih, List.all_cons]
def words1 : List Jvm.Cond := Jvm.Cond.code x code maxLocals ret :: tables_1
/-- a 'code' word, met by the world's own term for the bytes: nothing is compared byte by byte -/
theorem code_word {y : MethodName} {bytes : ByteArray} {mx : Nat} {rt : Option FieldType} {a : Array Value} {s : State} {m : MethodId} {meth : Method} {c : Code} (h1 : s.methodNamed? y = some m) (h2 : s.vm.method? m = some meth) (h3 : meth.code = some c) (h4 : c.code = bytes)
    (h5 : (c.maxLocals == mx && c.exceptionTable.isEmpty && decide (c.maxStack ≤ mostOperands) && decide (meth.sig.returnType = rt) && !meth.locks && decide (parseMethodDescriptor y.desc = some meth.sig)) = true) : (Jvm.Cond.code y bytes mx rt).before a s = true := by
  simp only [Bool.and_eq_true, beq_iff_eq, Bool.not_eq_true', decide_eq_true_eq] at h5
  obtain ⟨⟨⟨⟨⟨g1, g2⟩, g3⟩, g4⟩, g5⟩, g6⟩ := h5
  simp [Cond.before, Cond.holds, Cond.value, h1, h2, h3, h4, g1, g2, g3, g4, g5, g6]
def isCode : Jvm.Cond → Bool
  | .code _ _ _ _ => true
  | _ => false
theorem all_split {L : List Jvm.Cond} {P : Jvm.Cond → Bool} (h1 : L.all (fun c => isCode c || P c) = true) (h2 : ∀ c ∈ L.filter isCode, P c = true) : L.all P = true := by
  refine List.all_eq_true.mpr fun c hc => ?_
  have h := List.all_eq_true.mp h1 c hc
  rcases Bool.eq_false_or_eq_true (isCode c) with hi | hi
  · exact h2 c (List.mem_filter.mpr ⟨hc, hi⟩)
  · simpa [hi] using h
set_option maxRecDepth 65536 in
theorem w_c0 : (Jvm.Cond.code x code maxLocals ret).before args0 about1 = true := code_word (m := ⟨1, 1⟩) (meth := k1m1) (c := k1c1) (by decide +kernel) rfl rfl rfl (by decide +kernel)
set_option maxRecDepth 65536 in
theorem w_c1 : (Jvm.Cond.code ({ cls := "com/example/rowcall/rowcall/Family", name := "<init>", desc := "(Ljava/lang/String;IJ)V" } : Jvm.MethodName) prog_16_method_1_code (5 : Nat) (Option.none : Option Jvm.ClassFile.FieldType)).before args0 about1 = true := code_word (m := ⟨3, 0⟩) (meth := k3m0) (c := k3c0) (by decide +kernel) rfl rfl rfl (by decide +kernel)
set_option maxRecDepth 65536 in
theorem w_c2 : (Jvm.Cond.code ({ cls := "java/lang/Record", name := "<init>", desc := "()V" } : Jvm.MethodName) jdk_30_method_1_code (1 : Nat) (Option.none : Option Jvm.ClassFile.FieldType)).before args0 about1 = true := code_word (m := ⟨2, 0⟩) (meth := k2m0) (c := k2c0) (by decide +kernel) rfl rfl rfl (by decide +kernel)
set_option maxRecDepth 65536 in
theorem w_c3 : (Jvm.Cond.code ({ cls := "java/lang/Object", name := "<init>", desc := "()V" } : Jvm.MethodName) object_method_1_code (1 : Nat) (Option.none : Option Jvm.ClassFile.FieldType)).before args0 about1 = true := code_word (m := ⟨0, 0⟩) (meth := k0m0) (c := k0c0) (by decide +kernel) rfl rfl rfl (by decide +kernel)
set_option maxRecDepth 65536 in
theorem w_c4 : (Jvm.Cond.code ({ cls := "java/util/Objects", name := "requireNonNull", desc := "(Ljava/lang/Object;Ljava/lang/String;)Ljava/lang/Object;" } : Jvm.MethodName) jdk_31_method_11_code (2 : Nat) (Option.some (Jvm.ClassFile.FieldType.object "java/lang/Object"))).before args0 about1 = true := code_word (m := ⟨10, 1⟩) (meth := k10m1) (c := k10c1) (by decide +kernel) rfl rfl rfl (by decide +kernel)
set_option maxRecDepth 65536 in
theorem w_c5 : (Jvm.Cond.code ({ cls := "com/example/rowcall/rowcall/Family", name := "expired", desc := "(JJ)Z" } : Jvm.MethodName) prog_16_method_4_code (7 : Nat) (Option.some Jvm.ClassFile.FieldType.boolean)).before args0 about1 = true := code_word (m := ⟨3, 1⟩) (meth := k3m1) (c := k3c1) (by decide +kernel) rfl rfl rfl (by decide +kernel)
def codes1 : List Jvm.Cond := [Jvm.Cond.code x code maxLocals ret, Jvm.Cond.code ({ cls := "com/example/rowcall/rowcall/Family", name := "<init>", desc := "(Ljava/lang/String;IJ)V" } : Jvm.MethodName) prog_16_method_1_code (5 : Nat) (Option.none : Option Jvm.ClassFile.FieldType), Jvm.Cond.code ({ cls := "java/lang/Record", name := "<init>", desc := "()V" } : Jvm.MethodName) jdk_30_method_1_code (1 : Nat) (Option.none : Option Jvm.ClassFile.FieldType), Jvm.Cond.code ({ cls := "java/lang/Object", name := "<init>", desc := "()V" } : Jvm.MethodName) object_method_1_code (1 : Nat) (Option.none : Option Jvm.ClassFile.FieldType), Jvm.Cond.code ({ cls := "java/util/Objects", name := "requireNonNull", desc := "(Ljava/lang/Object;Ljava/lang/String;)Ljava/lang/Object;" } : Jvm.MethodName) jdk_31_method_11_code (2 : Nat) (Option.some (Jvm.ClassFile.FieldType.object "java/lang/Object")), Jvm.Cond.code ({ cls := "com/example/rowcall/rowcall/Family", name := "expired", desc := "(JJ)Z" } : Jvm.MethodName) prog_16_method_4_code (7 : Nat) (Option.some Jvm.ClassFile.FieldType.boolean)]
set_option maxRecDepth 65536 in
theorem codes_eq : words1.filter isCode = codes1 := rfl
theorem w_codes : ∀ c ∈ words1.filter isCode, c.before args0 about1 = true := by
  rw [codes_eq]
  intro c hc
  simp only [codes1, List.mem_cons, List.not_mem_nil, or_false] at hc
  rcases hc with rfl | rfl | rfl | rfl | rfl | rfl
  · exact w_c0
  · exact w_c1
  · exact w_c2
  · exact w_c3
  · exact w_c4
  · exact w_c5
set_option maxRecDepth 65536 in
theorem w_t1 : (words1.take 24).all (fun c => isCode c || c.before args0 about1) = true := by decide +kernel
set_option maxRecDepth 65536 in
theorem w_t2 : (words1.drop 24).all (fun c => isCode c || c.before args0 about1) = true := by decide +kernel
theorem w_tables : (allAtoms (Jvm.Cond.code x code maxLocals ret :: tables_1)).before args0 about1 = true := by
  rw [allAtoms_all]
  show words1.all (fun c => c.before args0 about1) = true
  refine all_split ?_ w_codes
  rw [← List.take_append_drop 24 words1, List.all_append, w_t1, w_t2]
  rfl
set_option maxRecDepth 65536 in
theorem w_case : (Jvm.Cond.and given_1 narrow_1).before args0 about1 = true := by decide +kernel
theorem w_applies : (headSpec (Jvm.Cond.code x code maxLocals ret :: tables_1) room_1).applies x e0.platform about1 = true :=
  (Spec.applies_iff w_frames).mpr ⟨w_running, w_runnable, w_alone, w_named, w_hears, w_ripe, w_room, w_tables⟩
theorem atStart : AtStart classFile x code maxLocals ret World_1 tables_1 room_1 Calls_1 rest_1 Pre_1 launch0 p0 e0 about1 theMethod args0 below0 :=
  ⟨lists_1, trivial, launch0.admits_env _ _ _, launch0.least_env, fairChoices_fair.cas, fairChoices_fair.clock, w_frames, w_args, w_heap, w_applies, trivial, trivial, w_case⟩
end start1
theorem witness_1 : WitnessClaimed_1 := ⟨start1.p0, start1.e0, start1.about1, start1.theMethod, start1.args0, start1.below0, start1.atStart⟩
end Jvm.Pilot.@@N@@
