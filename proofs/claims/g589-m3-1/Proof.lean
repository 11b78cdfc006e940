import JvmDerived
import JvmDerived.Pilot.@@N@@Statement
import JvmDerived.Pilot.@@N@@Code
set_option linter.unusedVariables false
set_option linter.unusedSimpArgs false
namespace Jvm.Pilot.@@N@@
open Jvm Jvm.ClassFile Sem Op Lib Jvm.Free Jvm.Stand Jvm.LawKit Jvm.RoadKit Bundle Jvm.Pilot.@@N@@.Jvm.D
/-! ## the walking judgement -/
section Core
variable {w : Bool} {Z : State} {EL : List (String × Nat)} {own nm : String} {bytes : ByteArray} {ml : Nat} {ret : Option FieldType} {R : Room} {hS : Heap} {ws : List Addr} {Q : Option Value → Heap → Prop} {os : List Addr} {cells slots : Nat} {h h' : Heap} {pc pc' : Nat} {Ls Ls' : Array Slot} {rest : List Value} {a0 : Array Value}
def Ok (p : Program) (s : State) (m : MethodId) (meth : Method) (c : Code) (Z : State) (own nm : String) (bytes : ByteArray) (ml : Nat) (ret : Option FieldType) : Prop :=
  p.tables.exec = Jvm.exec ∧ c.code = bytes ∧ c.maxLocals = ml ∧ Z.Warmed39 s.vm ∧ s.vm.findClass own = some m.cls ∧ meth.name = nm ∧ meth.sig.returnType = ret ∧ meth.locks = false
/-- what is known of the tables at hand: in a plain walk they are the start's; in a wide one literals may have been loaded -/
def Sn : Bool → State → List (String × Nat) → State → Vm → Heap → List Addr → Prop
  | false, _, _, s, vm0, _, _ => vm0 = s.vm
  | true, Z, EL, s, vm0, h, os => (∃ k0, s.Since vm0 k0 ∧ k0 ≤ h.size) ∧ CHr Z EL s.vm s.heap vm0 h ∧ (∃ a0, EW Z a0 EL) ∧ ∀ x ∈ os, x < h.size ∧ Safe Z EL vm0 h x
def EndC : Bool → State → List (String × Nat) → State → Outcome → State → List Loc → Nat → Nat → Prop
  | false, _, _, s, o, t, L, k, n => FrameEnd s o t L k n
  | true, Z, EL, s, o, t, L, k, n => CHr Z EL s.vm s.heap t.vm t.heap ∧ ReturnedEndW s o t L k n
def Go (w : Bool) (Z : State) (EL : List (String × Nat)) (p : Program) (e : Env) (s : State) (below : List Frame) (R : Room) (hS : Heap) (ws : List Addr) (Q : Option Value → Heap → Prop) (S : State) : Prop :=
  ∃ s₂ o, Steps p.tables e below S s₂ ∧ s₂.status = .running ∧ Ended s₂ below o ∧ ∃ v L, o = .returned v ∧ (Fr Z.heap.size L ∧ Keep hS s₂.heap ws ∧ Q v s₂.heap) ∧ EndC w Z EL s o s₂ L R.cells R.slots
/-- the walk stands at pc over the heap h and ends as Q says -/
def Rn (w : Bool) (Z : State) (EL : List (String × Nat)) (own nm : String) (bytes : ByteArray) (ml : Nat) (ret : Option FieldType) (R : Room) (hS : Heap) (ws : List Addr) (Q : Option Value → Heap → Prop) (os : List Addr) (cells slots : Nat) (h : Heap) (pc : Nat) (Ls : Array Slot) (st : List Value) : Prop :=
  ∀ (p : Program) (l : Launch) (e : Env) (s : State) (vm0 : Vm) (m : MethodId) (args : Array Value) (below : List Frame) (meth : Method) (c : Code) (T : State) (locs : List Loc),
    Ok p (s.setVm vm0) m meth c Z own nm bytes ml ret → Stand p l e R (s.setVm vm0) m args below meth c T locs cells slots → Sn w Z EL s vm0 h os → Fr Z.heap.size locs → Keep hS h ws → (Ext Z.heap hS ∧ ∀ x ∈ ws, Z.heap.size ≤ x) → T.heap = h →
    Go w Z EL p e s below R hS ws Q (T.setTop (mkF m pc Ls st))
theorem Go.pre {p : Program} {e : Env} {s : State} {below : List Frame} {S S' : State} (k : ∀ t, Steps p.tables e below S' t → Steps p.tables e below S t) (g : Go w Z EL p e s below R hS ws Q S') : Go w Z EL p e s below R hS ws Q S := by
  obtain ⟨s₂, o, h1, r⟩ := g
  exact ⟨s₂, o, k _ h1, r⟩
/-- a step that moves nothing but the frame -/
theorem Rn.pure {st st' : List Value} (k : Rn w Z EL own nm bytes ml ret R hS ws Q os cells slots h pc' Ls' st')
    (f : ∀ (p : Program) (l : Launch) (e : Env) (s : State) (m : MethodId) (args : Array Value) (below : List Frame) (meth : Method) (c : Code) (T : State) (locs : List Loc), p.tables.exec = Jvm.exec → c.code = bytes → Stand p l e R s m args below meth c T locs cells slots → Z.Warmed39 s.vm → s.vm.findClass own = some m.cls → T.heap = h → ∀ t, Steps p.tables e below (T.setTop (mkF m pc' Ls' st')) t → Steps p.tables e below (T.setTop (mkF m pc Ls st)) t) :
    Rn w Z EL own nm bytes ml ret R hS ws Q os cells slots h pc Ls st := by
  intro p l e s vm0 m args below meth c T locs ok X sn fr K O eT
  exact (k p l e s vm0 m args below meth c T locs ok X sn fr K O eT).pre (f p l e _ m args below meth c T locs ok.1 ok.2.1 X ok.2.2.2.1 ok.2.2.2.2.1 eT)
/-- a step that may resolve an entry of the tables, and moves nothing else but the frame -/
theorem Rn.note {st st' : List Value} (k : Rn w Z EL own nm bytes ml ret R hS ws Q os cells slots h pc' Ls' st')
    (f : ∀ (p : Program) (l : Launch) (e : Env) (s : State) (m : MethodId) (args : Array Value) (below : List Frame) (meth : Method) (c : Code) (T : State) (locs : List Loc), p.tables.exec = Jvm.exec → c.code = bytes → c.maxLocals = ml → Stand p l e R s m args below meth c T locs cells slots → Z.Warmed39 s.vm → s.vm.findClass own = some m.cls → T.heap = h → ∃ T', Stand p l e R s m args below meth c T' locs cells slots ∧ T'.heap = h ∧ ∀ t, Steps p.tables e below (T'.setTop (mkF m pc' Ls' st')) t → Steps p.tables e below (T.setTop (mkF m pc Ls st)) t) :
    Rn w Z EL own nm bytes ml ret R hS ws Q os cells slots h pc Ls st := by
  intro p l e s vm0 m args below meth c T locs ok X sn fr K O eT
  obtain ⟨T', X', e', stp⟩ := f p l e _ m args below meth c T locs ok.1 ok.2.1 ok.2.2.1 X ok.2.2.2.1 ok.2.2.2.2.1 eT
  exact (k p l e s vm0 m args below meth c T' locs ok X' sn fr K O e').pre stp
theorem Sn.ext {s : State} {vm0 : Vm} (E : Ext h h') (sn : Sn w Z EL s vm0 h os) : Sn w Z EL s vm0 h' os := by
  cases w
  · exact sn
  · obtain ⟨⟨k0, a, b⟩, c, d, f⟩ := sn
    exact ⟨⟨k0, a, Nat.le_trans b E.1⟩, c.trans (CHr.ext E c.1), d, fun x hx => ⟨Nat.lt_of_lt_of_le (f x hx).1 E.1, (f x hx).2.ext E c.1⟩⟩
/-- the address may be written: no literal's cell -/
def Sf (w : Bool) (Z : State) (EL : List (String × Nat)) (os : List Addr) (h : Heap) (a : Addr) : Prop := w = true → a ∈ os ∨ ∀ vm, Z.vm.Alike vm → Safe Z EL vm h a
theorem Sf.no {a : Addr} : Sf false Z EL os h a := fun q => nomatch q
theorem Sf.mem {a : Addr} (q : a ∈ os) : Sf w Z EL os h a := fun _ => Or.inl q
theorem Sf.exa {a : Addr} {C : String} (E : Exa Z h a C) (h1 : C ≠ "java/lang/String") (h2 : C ≠ "[B") : Sf w Z EL os h a := fun _ => Or.inr fun _ al => Safe.exa al E h1 h2
theorem Sf.arr {a : Addr} {cl : Cell} {ty : FieldType} (A : Arr Z h a cl ty) (ht : ty ≠ .byte) : Sf w Z EL os h a := fun _ => Or.inr fun _ al => Safe.arr al A ht
theorem Sn.keep {s : State} {vm0 : Vm} {ws' : List Addr} (hZ : Z.Warmed39 vm0) (K : Keep h h' ws') (q : ∀ x ∈ ws', Sf w Z EL os h x) (sn : Sn w Z EL s vm0 h os) : Sn w Z EL s vm0 h' os := by
  cases w
  · exact sn
  · obtain ⟨⟨k0, a, b⟩, c, d, f⟩ := sn
    have q' : ∀ x ∈ ws', Safe Z EL vm0 h x := fun x hx => ((q x hx) rfl).elim (fun z => (f x z).2) (fun z => z _ hZ.alike)
    exact ⟨⟨k0, a, Nat.le_trans b K.1⟩, c.trans (CHr.keep K q' c.1), d, fun x hx => ⟨Nat.lt_of_lt_of_le (f x hx).1 K.1, (f x hx).2.keep K q' c.1⟩⟩
theorem Sn.wr {s : State} {vm0 : Vm} {a : Addr} {sl : Nat} {v : Value} (hZ : Z.Warmed39 vm0) (W : Wr h h' a sl v) (q : Sf w Z EL os h a) (sn : Sn w Z EL s vm0 h os) : Sn w Z EL s vm0 h' os :=
  sn.keep hZ (Keep.of_wr W) fun x hx => by cases List.mem_singleton.mp hx; exact q
theorem ge_of {a : Addr} (O : Ext Z.heap hS ∧ ∀ x ∈ ws, Z.heap.size ≤ x) (q : a ∈ ws ∨ hS.size ≤ a) : Z.heap.size ≤ a := q.elim (O.2 a) fun z => Nat.le_trans O.1.1 z
theorem Rn.wrote {st st' : List Value} {a : Addr} {sl : Nat} {v : Value} (q : a ∈ ws ∨ hS.size ≤ a) (sf : Sf w Z EL os h a) (k : ∀ h', Wr h h' a sl v → Rn w Z EL own nm bytes ml ret R hS ws Q os cells slots h' pc' Ls' st')
    (f : ∀ (p : Program) (l : Launch) (e : Env) (s : State) (m : MethodId) (args : Array Value) (below : List Frame) (meth : Method) (c : Code) (T : State) (locs : List Loc), p.tables.exec = Jvm.exec → c.code = bytes → meth.name = nm → Stand p l e R s m args below meth c T locs cells slots → Z.Warmed39 s.vm → s.vm.findClass own = some m.cls → T.heap = h → ∃ T' h', Stand p l e R s m args below meth c T' (locs ++ [⟨a, sl⟩]) cells slots ∧ T'.heap = h' ∧ Wr h h' a sl v ∧ ∀ t, Steps p.tables e below (T'.setTop (mkF m pc' Ls' st')) t → Steps p.tables e below (T.setTop (mkF m pc Ls st)) t) :
    Rn w Z EL own nm bytes ml ret R hS ws Q os cells slots h pc Ls st := by
  intro p l e s vm0 m args below meth c T locs ok X sn fr K O eT
  obtain ⟨T', h', X', e', W, stp⟩ := f p l e _ m args below meth c T locs ok.1 ok.2.1 ok.2.2.2.2.2.1 X ok.2.2.2.1 ok.2.2.2.2.1 eT
  exact (k h' W p l e s vm0 m args below meth c T' _ ok X' (sn.wr ok.2.2.2.1 W sf) (Fr.snoc X' fr (ge_of O q)) (K.wr W q) O e').pre stp
theorem Rn.made {st st' : Addr → List Value} {st0 : List Value} {G : Heap → Addr → Prop} {c1 s1 : Nat} (k : ∀ h' a, a = h.size → hS.size ≤ a → Ext h h' → G h' a → Rn w Z EL own nm bytes ml ret R hS ws Q (a :: os) (cells + c1) (slots + s1) h' pc' Ls' (st' a))
    (lt : ∀ h', G h' h.size → h.size < h'.size)
    (f : ∀ (p : Program) (l : Launch) (e : Env) (s : State) (m : MethodId) (args : Array Value) (below : List Frame) (meth : Method) (c : Code) (T : State) (locs : List Loc), p.tables.exec = Jvm.exec → c.code = bytes → Stand p l e R s m args below meth c T locs cells slots → Z.Warmed39 s.vm → s.vm.findClass own = some m.cls → T.heap = h → ∃ T' h', Stand p l e R s m args below meth c T' locs (cells + c1) (slots + s1) ∧ T'.heap = h' ∧ Ext h h' ∧ G h' h.size ∧ ∀ t, Steps p.tables e below (T'.setTop (mkF m pc' Ls' (st' h.size))) t → Steps p.tables e below (T.setTop (mkF m pc Ls st0)) t) :
    Rn w Z EL own nm bytes ml ret R hS ws Q os cells slots h pc Ls st0 := by
  intro p l e s vm0 m args below meth c T locs ok X sn fr K O eT
  obtain ⟨T', h', X', e', E, g, stp⟩ := f p l e _ m args below meth c T locs ok.1 ok.2.1 X ok.2.2.2.1 ok.2.2.2.2.1 eT
  have sn1 : Sn w Z EL s vm0 h' os := sn.ext E
  have sn' : Sn w Z EL s vm0 h' (h.size :: os) := by
    cases w
    · exact sn1
    · refine ⟨sn1.1, sn1.2.1, sn1.2.2.1, fun x hx => ?_⟩
      rcases List.mem_cons.mp hx with rfl | hx
      · exact ⟨lt h' g, (Safe.new (Nat.le_refl _)).ext E sn.2.1.1⟩
      · exact sn1.2.2.2 x hx
  exact (k h' h.size rfl K.1 E g p l e s vm0 m args below meth c T' _ ok X' sn' fr (K.ext E) O e').pre stp
theorem Rn.old (k : Ext Z.heap h → Keep hS h ws → Rn w Z EL own nm bytes ml ret R hS ws Q os cells slots h pc Ls rest) : Rn w Z EL own nm bytes ml ret R hS ws Q os cells slots h pc Ls rest := by
  intro p l e s vm0 m args below meth c T locs ok X sn fr K O eT
  have X0 : Old Z Z.heap.size h := Old.keep (h := hS) ⟨rfl, O.1⟩ K O.2
  exact k X0.2 K p l e s vm0 m args below meth c T locs ok X sn fr K O eT
theorem Rn.more {c2 s2 : Nat} (hc : cells ≤ c2) (hs : slots ≤ s2) (k : Rn w Z EL own nm bytes ml ret R hS ws Q os c2 s2 h pc Ls rest) : Rn w Z EL own nm bytes ml ret R hS ws Q os cells slots h pc Ls rest := by
  intro p l e s vm0 m args below meth c T locs ok X sn fr K O eT
  exact k p l e s vm0 m args below meth c T locs ok (X.more hc hs) sn fr K O eT
theorem Rn.less {os' : List Addr} (q : ∀ x ∈ os', x ∈ os) (k : Rn w Z EL own nm bytes ml ret R hS ws Q os' cells slots h pc Ls rest) : Rn w Z EL own nm bytes ml ret R hS ws Q os cells slots h pc Ls rest := by
  intro p l e s vm0 m args below meth c T locs ok X sn fr K O eT
  refine k p l e s vm0 m args below meth c T locs ok X ?_ fr K O eT
  cases w
  · exact sn
  · exact ⟨sn.1, sn.2.1, sn.2.2.1, fun x hx => sn.2.2.2 x (q x hx)⟩
/-! ### the ends -/
theorem Rn.leave {v : Option Value} {st : List Value} (hc : cells ≤ R.cells) (hs : slots ≤ R.slots) (hv : ret = none → v = none) (q : Q v h)
    (f : ∀ (p : Program) (l : Launch) (e : Env) (s : State) (m : MethodId) (args : Array Value) (below : List Frame) (meth : Method) (c : Code) (T : State) (locs : List Loc) (fs : List Frame), p.tables.exec = Jvm.exec → c.code = bytes → meth.sig.returnType = ret → Stand p l e R s m args below meth c T locs cells slots → (∀ (f : JFrame) (acts : List Action), f.method = m → f.locked = none → f.entered = [] → (doReturn e (T.setTop f) acts v).1 = T.setFrames fs) → Steps p.tables e below (T.setTop (mkF m pc Ls st)) (T.setFrames fs)) :
    Rn w Z EL own nm bytes ml ret R hS ws Q os cells slots h pc Ls st := by
  intro p l e s vm0 m args below meth c T locs ok X sn fr K O eT
  obtain ⟨hx, hby, hml, hZ, hown, hnm, hret, hlk⟩ := ok
  subst eT
  cases w
  · cases (sn : vm0 = s.vm)
    obtain ⟨fs, hr, hrun, hended, hW, hsame⟩ := X.leave (v := v) (fun z => hv (hret.symm.trans z)) hlk
    exact ⟨_, _, f p l e _ m args below meth c T locs fs hx hby hret X hr, hrun, hended, _, _, rfl, ⟨fr, K, q⟩, ⟨_, rfl⟩, hW, hsame.mono hc hs⟩
  · obtain ⟨⟨k0, hS0, hk⟩, hC, ⟨b0, hE⟩, -⟩ := sn
    obtain ⟨fs, hr, hrun, hended, h1, h2, h3, h4⟩ := Jvm.Stand.leaveW X hS0 hk (v := v) (fun z => hv (hret.symm.trans z)) hlk
    exact ⟨_, _, f p l e _ m args below meth c T locs fs hx hby hret X hr, hrun, hended, _, _, rfl, ⟨fr, K, q⟩, (show CHr Z EL s.vm s.heap T.vm T.heap from hC.trans (CHv.at X hZ hE hC.1)), h1, h2, h3, h4.mono hc hs⟩
theorem Rn.retV (hr : ret = none) (hd : decode bytes pc = .ok (.return_, 1)) (hc : cells ≤ R.cells) (hs : slots ≤ R.slots) (q : Q none h) : Rn w Z EL own nm bytes ml ret R hS ws Q os cells slots h pc Ls [] :=
  Rn.leave (v := none) hc hs (fun _ => rfl) q fun p l e s m args below meth c T locs fs hx hby hret X hl => X.returnOut hx (hret.trans hr) (hb hby hd) hl
theorem Rn.retN {t : FieldType} {z : Int32} (hr : ret = some t) (ht : t = .boolean ∨ t = .byte ∨ t = .char ∨ t = .short) (hd : decode bytes pc = .ok (.ireturn, 1)) (hc : cells ≤ R.cells) (hs : slots ≤ R.slots) (q : Q (some (.int (nar t z))) h) : Rn w Z EL own nm bytes ml ret R hS ws Q os cells slots h pc Ls (.int z :: rest) :=
  Rn.leave (v := some (.int (nar t z))) hc hs (fun z => by rw [hr] at z; cases z) q fun p l e s m args below meth c T locs fs hx hby hret X hl => Jvm.RoadKit.retN X hx (hret.trans hr) ht (hb hby hd) hl
theorem Rn.retO {t : FieldType} {v : Value} {i : Instr} (hr : ret = some t) (hn : narrow t v = v) (hi : (i = .ireturn ∧ (t = .int ∨ t = .boolean ∨ t = .byte ∨ t = .char ∨ t = .short) ∧ ∃ z, v = .int z) ∨ (i = .lreturn ∧ t = .long ∧ ∃ z, v = .long z) ∨ (i = .dreturn ∧ t = .double ∧ ∃ z, v = .double z) ∨ (i = .freturn ∧ t = .float ∧ ∃ z, v = .float z) ∨ (i = .areturn ∧ t.isReference = true ∧ v.isRef = true)) (hd : decode bytes pc = .ok (i, 1)) (hc : cells ≤ R.cells) (hs : slots ≤ R.slots) (q : Q (some v) h) : Rn w Z EL own nm bytes ml ret R hS ws Q os cells slots h pc Ls (v :: rest) :=
  Rn.leave (v := some v) hc hs (fun z => by rw [hr] at z; cases z) q fun p l e s m args below meth c T locs fs hx hby hret X hl => retOut X hx (hret.trans hr) hn hi (hb hby hd) hl
theorem Rn.retI {z : Int32} (hr : ret = some .int) (hd : decode bytes pc = .ok (.ireturn, 1)) (hc : cells ≤ R.cells) (hs : slots ≤ R.slots) (q : Q (some (.int z)) h) : Rn w Z EL own nm bytes ml ret R hS ws Q os cells slots h pc Ls (.int z :: rest) :=
  Rn.retO hr rfl (Or.inl ⟨rfl, Or.inl rfl, _, rfl⟩) hd hc hs q
theorem Rn.retJ {z : Int64} (hr : ret = some .long) (hd : decode bytes pc = .ok (.lreturn, 1)) (hc : cells ≤ R.cells) (hs : slots ≤ R.slots) (q : Q (some (.long z)) h) : Rn w Z EL own nm bytes ml ret R hS ws Q os cells slots h pc Ls (.long z :: rest) :=
  Rn.retO hr rfl (Or.inr (Or.inl ⟨rfl, rfl, _, rfl⟩)) hd hc hs q
theorem Rn.retD {z : UInt64} (hr : ret = some .double) (hd : decode bytes pc = .ok (.dreturn, 1)) (hc : cells ≤ R.cells) (hs : slots ≤ R.slots) (q : Q (some (.double z)) h) : Rn w Z EL own nm bytes ml ret R hS ws Q os cells slots h pc Ls (.double z :: rest) :=
  Rn.retO hr rfl (Or.inr (Or.inr (Or.inl ⟨rfl, rfl, _, rfl⟩))) hd hc hs q
theorem Rn.retA {t : FieldType} {v : Value} (hr : ret = some t) (ht : t.isReference = true) (hv : v.isRef = true) (hd : decode bytes pc = .ok (.areturn, 1)) (hc : cells ≤ R.cells) (hs : slots ≤ R.slots) (q : Q (some v) h) : Rn w Z EL own nm bytes ml ret R hS ws Q os cells slots h pc Ls (v :: rest) :=
  Rn.retO hr (by rcases ref_cases hv with rfl | ⟨a, rfl⟩ <;> cases t <;> simp [FieldType.isReference] at ht <;> rfl) (Or.inr (Or.inr (Or.inr (Or.inr ⟨rfl, ht, hv⟩)))) hd hc hs q
end Core
section Steps
variable {w : Bool} {Z : State} {EL : List (String × Nat)} {own nm : String} {bytes : ByteArray} {ml : Nat} {ret : Option FieldType} {R : Room} {hS : Heap} {ws : List Addr} {Q : Option Value → Heap → Prop} {os : List Addr} {cells slots : Nat} {h h' : Heap} {pc pc' : Nat} {Ls Ls' : Array Slot} {rest : List Value} {a0 : Array Value}
theorem Rn.iconst {i : Int} {v : Int32} (hd : decode bytes pc = .ok (.iconst i, 1)) (hv : Int32.ofInt i = v) (hp : pc + 1 = pc') (k : Rn w Z EL own nm bytes ml ret R hS ws Q os cells slots h pc' Ls (.int v :: rest)) : Rn w Z EL own nm bytes ml ret R hS ws Q os cells slots h pc Ls rest :=
  k.pure fun p l e s m args below meth c T locs hx hby X hZ hown eT t r => by subst hp; exact XS.iconst X.here hx rfl (hb hby hd) (hv ▸ r)
theorem Rn.bipush {i : Int} {v : Int32} (hd : decode bytes pc = .ok (.bipush i, 2)) (hv : (Int8.ofInt i).toInt32 = v) (hp : pc + 2 = pc') (k : Rn w Z EL own nm bytes ml ret R hS ws Q os cells slots h pc' Ls (.int v :: rest)) : Rn w Z EL own nm bytes ml ret R hS ws Q os cells slots h pc Ls rest :=
  k.pure fun p l e s m args below meth c T locs hx hby X hZ hown eT t r => by subst hp; exact XS.bipush X.here hx rfl (hb hby hd) (hv ▸ r)
theorem Rn.sipush {i : Int} {v : Int32} (hd : decode bytes pc = .ok (.sipush i, 3)) (hv : (Int16.ofInt i).toInt32 = v) (hp : pc + 3 = pc') (k : Rn w Z EL own nm bytes ml ret R hS ws Q os cells slots h pc' Ls (.int v :: rest)) : Rn w Z EL own nm bytes ml ret R hS ws Q os cells slots h pc Ls rest :=
  k.pure fun p l e s m args below meth c T locs hx hby X hZ hown eT t r => by subst hp; exact XS.sipush X.here hx rfl (hb hby hd) (hv ▸ r)
theorem Rn.lconst {i : Fin 2} {v : Int64} (hd : decode bytes pc = .ok (.lconst i, 1)) (hv : Int64.ofNat i = v) (hp : pc + 1 = pc') (k : Rn w Z EL own nm bytes ml ret R hS ws Q os cells slots h pc' Ls (.long v :: rest)) : Rn w Z EL own nm bytes ml ret R hS ws Q os cells slots h pc Ls rest :=
  k.pure fun p l e s m args below meth c T locs hx hby X hZ hown eT t r => by subst hp; exact XT.lconst X.here hx rfl (hb hby hd) (hv ▸ r)
theorem Rn.dconst0 {v : UInt64} (hd : decode bytes pc = .ok (.dconst 0, 1)) (hv : FP.dconst0 = v) (hp : pc + 1 = pc') (k : Rn w Z EL own nm bytes ml ret R hS ws Q os cells slots h pc' Ls (.double v :: rest)) : Rn w Z EL own nm bytes ml ret R hS ws Q os cells slots h pc Ls rest :=
  k.pure fun p l e s m args below meth c T locs hx hby X hZ hown eT t r => by subst hp; exact XS.dconst0 X.here hx rfl (hb hby hd) hv r
theorem Rn.dconst1 {v : UInt64} (hd : decode bytes pc = .ok (.dconst 1, 1)) (hv : FP.dconst1 = v) (hp : pc + 1 = pc') (k : Rn w Z EL own nm bytes ml ret R hS ws Q os cells slots h pc' Ls (.double v :: rest)) : Rn w Z EL own nm bytes ml ret R hS ws Q os cells slots h pc Ls rest :=
  k.pure fun p l e s m args below meth c T locs hx hby X hZ hown eT t r => by subst hp; exact XS.dconst1 X.here hx rfl (hb hby hd) hv r
theorem Rn.aconst_null  (hd : decode bytes pc = .ok (.aconst_null, 1)) (hp : pc + 1 = pc') (k : Rn w Z EL own nm bytes ml ret R hS ws Q os cells slots h pc' Ls (.null :: rest)) : Rn w Z EL own nm bytes ml ret R hS ws Q os cells slots h pc Ls rest :=
  k.pure fun p l e s m args below meth c T locs hx hby X hZ hown eT t r => by subst hp; exact XS.aconstNull X.here hx rfl (hb hby hd) r
theorem Rn.iload {n : Nat} {v : Int32} (hd : decode bytes pc = .ok (.iload n, 2)) (hl : Ls[n]? = some (.val (.int v))) (hp : pc + 2 = pc') (k : Rn w Z EL own nm bytes ml ret R hS ws Q os cells slots h pc' Ls (.int v :: rest)) : Rn w Z EL own nm bytes ml ret R hS ws Q os cells slots h pc Ls rest :=
  k.pure fun p l e s m args below meth c T locs hx hby X hZ hown eT t r => by subst hp; exact XS.iload X.here hx rfl (hb hby hd) hl r
theorem Rn.iloadN {n : Fin 4} {v : Int32} (hd : decode bytes pc = .ok (.iload_n n, 1)) (hl : Ls[n.val]? = some (.val (.int v))) (hp : pc + 1 = pc') (k : Rn w Z EL own nm bytes ml ret R hS ws Q os cells slots h pc' Ls (.int v :: rest)) : Rn w Z EL own nm bytes ml ret R hS ws Q os cells slots h pc Ls rest :=
  k.pure fun p l e s m args below meth c T locs hx hby X hZ hown eT t r => by subst hp; exact XS.iloadN X.here hx rfl (hb hby hd) hl r
theorem Rn.istore {n : Nat} {v : Int32} (hd : decode bytes pc = .ok (.istore n, 2)) (hl : storeLocals Ls n (.int v) = some Ls') (hp : pc + 2 = pc') (k : Rn w Z EL own nm bytes ml ret R hS ws Q os cells slots h pc' Ls' rest) : Rn w Z EL own nm bytes ml ret R hS ws Q os cells slots h pc Ls (.int v :: rest) :=
  k.pure fun p l e s m args below meth c T locs hx hby X hZ hown eT t r => by subst hp; exact XS.istore X.here hx rfl (hb hby hd) rfl hl r
theorem Rn.istoreN {n : Fin 4} {v : Int32} (hd : decode bytes pc = .ok (.istore_n n, 1)) (hl : storeLocals Ls n.val (.int v) = some Ls') (hp : pc + 1 = pc') (k : Rn w Z EL own nm bytes ml ret R hS ws Q os cells slots h pc' Ls' rest) : Rn w Z EL own nm bytes ml ret R hS ws Q os cells slots h pc Ls (.int v :: rest) :=
  k.pure fun p l e s m args below meth c T locs hx hby X hZ hown eT t r => by subst hp; exact XS.istoreN X.here hx rfl (hb hby hd) rfl hl r
theorem Rn.lload {n : Nat} {v : Int64} (hd : decode bytes pc = .ok (.lload n, 2)) (hl : Ls[n]? = some (.val (.long v))) (hp : pc + 2 = pc') (k : Rn w Z EL own nm bytes ml ret R hS ws Q os cells slots h pc' Ls (.long v :: rest)) : Rn w Z EL own nm bytes ml ret R hS ws Q os cells slots h pc Ls rest :=
  k.pure fun p l e s m args below meth c T locs hx hby X hZ hown eT t r => by subst hp; exact XT.lload X.here hx rfl (hb hby hd) hl r
theorem Rn.lloadN {n : Fin 4} {v : Int64} (hd : decode bytes pc = .ok (.lload_n n, 1)) (hl : Ls[n.val]? = some (.val (.long v))) (hp : pc + 1 = pc') (k : Rn w Z EL own nm bytes ml ret R hS ws Q os cells slots h pc' Ls (.long v :: rest)) : Rn w Z EL own nm bytes ml ret R hS ws Q os cells slots h pc Ls rest :=
  k.pure fun p l e s m args below meth c T locs hx hby X hZ hown eT t r => by subst hp; exact XT.lloadN X.here hx rfl (hb hby hd) hl r
theorem Rn.lstore {n : Nat} {v : Int64} (hd : decode bytes pc = .ok (.lstore n, 2)) (hl : storeLocals Ls n (.long v) = some Ls') (hp : pc + 2 = pc') (k : Rn w Z EL own nm bytes ml ret R hS ws Q os cells slots h pc' Ls' rest) : Rn w Z EL own nm bytes ml ret R hS ws Q os cells slots h pc Ls (.long v :: rest) :=
  k.pure fun p l e s m args below meth c T locs hx hby X hZ hown eT t r => by subst hp; exact XT.lstore X.here hx rfl (hb hby hd) rfl hl r
theorem Rn.lstoreN {n : Fin 4} {v : Int64} (hd : decode bytes pc = .ok (.lstore_n n, 1)) (hl : storeLocals Ls n.val (.long v) = some Ls') (hp : pc + 1 = pc') (k : Rn w Z EL own nm bytes ml ret R hS ws Q os cells slots h pc' Ls' rest) : Rn w Z EL own nm bytes ml ret R hS ws Q os cells slots h pc Ls (.long v :: rest) :=
  k.pure fun p l e s m args below meth c T locs hx hby X hZ hown eT t r => by subst hp; exact XT.lstoreN X.here hx rfl (hb hby hd) rfl hl r
theorem Rn.dload {n : Nat} {v : UInt64} (hd : decode bytes pc = .ok (.dload n, 2)) (hl : Ls[n]? = some (.val (.double v))) (hp : pc + 2 = pc') (k : Rn w Z EL own nm bytes ml ret R hS ws Q os cells slots h pc' Ls (.double v :: rest)) : Rn w Z EL own nm bytes ml ret R hS ws Q os cells slots h pc Ls rest :=
  k.pure fun p l e s m args below meth c T locs hx hby X hZ hown eT t r => by subst hp; exact XS.dload X.here hx rfl (hb hby hd) hl r
theorem Rn.dloadN {n : Fin 4} {v : UInt64} (hd : decode bytes pc = .ok (.dload_n n, 1)) (hl : Ls[n.val]? = some (.val (.double v))) (hp : pc + 1 = pc') (k : Rn w Z EL own nm bytes ml ret R hS ws Q os cells slots h pc' Ls (.double v :: rest)) : Rn w Z EL own nm bytes ml ret R hS ws Q os cells slots h pc Ls rest :=
  k.pure fun p l e s m args below meth c T locs hx hby X hZ hown eT t r => by subst hp; exact XS.dloadN X.here hx rfl (hb hby hd) hl r
theorem Rn.dstore {n : Nat} {v : UInt64} (hd : decode bytes pc = .ok (.dstore n, 2)) (hl : storeLocals Ls n (.double v) = some Ls') (hp : pc + 2 = pc') (k : Rn w Z EL own nm bytes ml ret R hS ws Q os cells slots h pc' Ls' rest) : Rn w Z EL own nm bytes ml ret R hS ws Q os cells slots h pc Ls (.double v :: rest) :=
  k.pure fun p l e s m args below meth c T locs hx hby X hZ hown eT t r => by subst hp; exact XS.dstore X.here hx rfl (hb hby hd) rfl hl r
theorem Rn.dstoreN {n : Fin 4} {v : UInt64} (hd : decode bytes pc = .ok (.dstore_n n, 1)) (hl : storeLocals Ls n.val (.double v) = some Ls') (hp : pc + 1 = pc') (k : Rn w Z EL own nm bytes ml ret R hS ws Q os cells slots h pc' Ls' rest) : Rn w Z EL own nm bytes ml ret R hS ws Q os cells slots h pc Ls (.double v :: rest) :=
  k.pure fun p l e s m args below meth c T locs hx hby X hZ hown eT t r => by subst hp; exact XS.dstoreN X.here hx rfl (hb hby hd) rfl hl r
theorem Rn.aload {n : Nat} {v : Value} (hd : decode bytes pc = .ok (.aload n, 2)) (hl : Ls[n]? = some (.val v)) (hv : v.isRef = true) (hp : pc + 2 = pc') (k : Rn w Z EL own nm bytes ml ret R hS ws Q os cells slots h pc' Ls (v :: rest)) : Rn w Z EL own nm bytes ml ret R hS ws Q os cells slots h pc Ls rest :=
  k.pure fun p l e s m args below meth c T locs hx hby X hZ hown eT t r => by subst hp; exact XS.aload X.here hx rfl (hb hby hd) hl hv r
theorem Rn.aloadN {n : Fin 4} {v : Value} (hd : decode bytes pc = .ok (.aload_n n, 1)) (hl : Ls[n.val]? = some (.val v)) (hv : v.isRef = true) (hp : pc + 1 = pc') (k : Rn w Z EL own nm bytes ml ret R hS ws Q os cells slots h pc' Ls (v :: rest)) : Rn w Z EL own nm bytes ml ret R hS ws Q os cells slots h pc Ls rest :=
  k.pure fun p l e s m args below meth c T locs hx hby X hZ hown eT t r => by subst hp; exact XS.aloadN X.here hx rfl (hb hby hd) hl hv r
theorem Rn.astore {n : Nat} {v : Value} (hd : decode bytes pc = .ok (.astore n, 2)) (hv : v.isRef = true) (hl : storeLocals Ls n v = some Ls') (hp : pc + 2 = pc') (k : Rn w Z EL own nm bytes ml ret R hS ws Q os cells slots h pc' Ls' rest) : Rn w Z EL own nm bytes ml ret R hS ws Q os cells slots h pc Ls (v :: rest) :=
  k.pure fun p l e s m args below meth c T locs hx hby X hZ hown eT t r => by subst hp; exact XS.astore X.here hx rfl (hb hby hd) rfl hv hl r
theorem Rn.astoreN {n : Fin 4} {v : Value} (hd : decode bytes pc = .ok (.astore_n n, 1)) (hv : v.isRef = true) (hl : storeLocals Ls n.val v = some Ls') (hp : pc + 1 = pc') (k : Rn w Z EL own nm bytes ml ret R hS ws Q os cells slots h pc' Ls' rest) : Rn w Z EL own nm bytes ml ret R hS ws Q os cells slots h pc Ls (v :: rest) :=
  k.pure fun p l e s m args below meth c T locs hx hby X hZ hown eT t r => by subst hp; exact XS.astoreN X.here hx rfl (hb hby hd) rfl hv hl r
theorem Rn.iinc {n : Nat} {ct : Int} {x v : Int32} (hd : decode bytes pc = .ok (.iinc n ct, 3)) (hl : Ls[n]? = some (.val (.int x))) (hv : x + Int32.ofInt ct = v) (hl' : storeLocals Ls n (.int v) = some Ls') (hp : pc + 3 = pc') (k : Rn w Z EL own nm bytes ml ret R hS ws Q os cells slots h pc' Ls' rest) : Rn w Z EL own nm bytes ml ret R hS ws Q os cells slots h pc Ls rest :=
  k.pure fun p l e s m args below meth c T locs hx hby X hZ hown eT t r => by subst hp; exact XS.iinc X.here hx rfl (hb hby hd) hl (hv ▸ hl') r
theorem Rn.iadd {x y v : Int32} (hd : decode bytes pc = .ok (.iadd, 1)) (hv : x + y = v) (hp : pc + 1 = pc') (k : Rn w Z EL own nm bytes ml ret R hS ws Q os cells slots h pc' Ls (.int v :: rest)) : Rn w Z EL own nm bytes ml ret R hS ws Q os cells slots h pc Ls (.int y :: .int x :: rest) :=
  k.pure fun p l e s m args below meth c T locs hx hby X hZ hown eT t r => by subst hp; exact XS.iadd X.here hx rfl (hb hby hd) rfl (hv ▸ r)
theorem Rn.isub {x y v : Int32} (hd : decode bytes pc = .ok (.isub, 1)) (hv : x - y = v) (hp : pc + 1 = pc') (k : Rn w Z EL own nm bytes ml ret R hS ws Q os cells slots h pc' Ls (.int v :: rest)) : Rn w Z EL own nm bytes ml ret R hS ws Q os cells slots h pc Ls (.int y :: .int x :: rest) :=
  k.pure fun p l e s m args below meth c T locs hx hby X hZ hown eT t r => by subst hp; exact XS.isub X.here hx rfl (hb hby hd) rfl (hv ▸ r)
theorem Rn.imul {x y v : Int32} (hd : decode bytes pc = .ok (.imul, 1)) (hv : x * y = v) (hp : pc + 1 = pc') (k : Rn w Z EL own nm bytes ml ret R hS ws Q os cells slots h pc' Ls (.int v :: rest)) : Rn w Z EL own nm bytes ml ret R hS ws Q os cells slots h pc Ls (.int y :: .int x :: rest) :=
  k.pure fun p l e s m args below meth c T locs hx hby X hZ hown eT t r => by subst hp; exact XS.imul X.here hx rfl (hb hby hd) rfl (hv ▸ r)
theorem Rn.iand {x y v : Int32} (hd : decode bytes pc = .ok (.iand, 1)) (hv : x &&& y = v) (hp : pc + 1 = pc') (k : Rn w Z EL own nm bytes ml ret R hS ws Q os cells slots h pc' Ls (.int v :: rest)) : Rn w Z EL own nm bytes ml ret R hS ws Q os cells slots h pc Ls (.int y :: .int x :: rest) :=
  k.pure fun p l e s m args below meth c T locs hx hby X hZ hown eT t r => by subst hp; exact XS.iand X.here hx rfl (hb hby hd) rfl (hv ▸ r)
theorem Rn.ior {x y v : Int32} (hd : decode bytes pc = .ok (.ior, 1)) (hv : x ||| y = v) (hp : pc + 1 = pc') (k : Rn w Z EL own nm bytes ml ret R hS ws Q os cells slots h pc' Ls (.int v :: rest)) : Rn w Z EL own nm bytes ml ret R hS ws Q os cells slots h pc Ls (.int y :: .int x :: rest) :=
  k.pure fun p l e s m args below meth c T locs hx hby X hZ hown eT t r => by subst hp; exact XT.ior X.here hx rfl (hb hby hd) rfl (hv ▸ r)
theorem Rn.ixor {x y v : Int32} (hd : decode bytes pc = .ok (.ixor, 1)) (hv : x ^^^ y = v) (hp : pc + 1 = pc') (k : Rn w Z EL own nm bytes ml ret R hS ws Q os cells slots h pc' Ls (.int v :: rest)) : Rn w Z EL own nm bytes ml ret R hS ws Q os cells slots h pc Ls (.int y :: .int x :: rest) :=
  k.pure fun p l e s m args below meth c T locs hx hby X hZ hown eT t r => by subst hp; exact XT.ixor X.here hx rfl (hb hby hd) rfl (hv ▸ r)
theorem Rn.ishl {x y v : Int32} (hd : decode bytes pc = .ok (.ishl, 1)) (hv : x <<< (y &&& 31) = v) (hp : pc + 1 = pc') (k : Rn w Z EL own nm bytes ml ret R hS ws Q os cells slots h pc' Ls (.int v :: rest)) : Rn w Z EL own nm bytes ml ret R hS ws Q os cells slots h pc Ls (.int y :: .int x :: rest) :=
  k.pure fun p l e s m args below meth c T locs hx hby X hZ hown eT t r => by subst hp; exact XT.ishl X.here hx rfl (hb hby hd) rfl (hv ▸ r)
theorem Rn.ishr {x y v : Int32} (hd : decode bytes pc = .ok (.ishr, 1)) (hv : x >>> (y &&& 31) = v) (hp : pc + 1 = pc') (k : Rn w Z EL own nm bytes ml ret R hS ws Q os cells slots h pc' Ls (.int v :: rest)) : Rn w Z EL own nm bytes ml ret R hS ws Q os cells slots h pc Ls (.int y :: .int x :: rest) :=
  k.pure fun p l e s m args below meth c T locs hx hby X hZ hown eT t r => by subst hp; exact XT.ishr X.here hx rfl (hb hby hd) rfl (hv ▸ r)
theorem Rn.iushr {x y v : Int32} (hd : decode bytes pc = .ok (.iushr, 1)) (hv : XT.ushr x y = v) (hp : pc + 1 = pc') (k : Rn w Z EL own nm bytes ml ret R hS ws Q os cells slots h pc' Ls (.int v :: rest)) : Rn w Z EL own nm bytes ml ret R hS ws Q os cells slots h pc Ls (.int y :: .int x :: rest) :=
  k.pure fun p l e s m args below meth c T locs hx hby X hZ hown eT t r => by subst hp; exact XT.iushr X.here hx rfl (hb hby hd) rfl (hv ▸ r)
theorem Rn.idiv {x y v : Int32} (hd : decode bytes pc = .ok (.idiv, 1)) (hy : y ≠ 0) (hv : x / y = v) (hp : pc + 1 = pc') (k : Rn w Z EL own nm bytes ml ret R hS ws Q os cells slots h pc' Ls (.int v :: rest)) : Rn w Z EL own nm bytes ml ret R hS ws Q os cells slots h pc Ls (.int y :: .int x :: rest) :=
  k.pure fun p l e s m args below meth c T locs hx hby X hZ hown eT t r => by subst hp; exact XS.idiv X.here hx rfl (hb hby hd) rfl hy (hv ▸ r)
theorem Rn.irem {x y v : Int32} (hd : decode bytes pc = .ok (.irem, 1)) (hy : y ≠ 0) (hv : x % y = v) (hp : pc + 1 = pc') (k : Rn w Z EL own nm bytes ml ret R hS ws Q os cells slots h pc' Ls (.int v :: rest)) : Rn w Z EL own nm bytes ml ret R hS ws Q os cells slots h pc Ls (.int y :: .int x :: rest) :=
  k.pure fun p l e s m args below meth c T locs hx hby X hZ hown eT t r => by subst hp; exact iremM X hx rfl (hb hby hd) rfl hy (hv ▸ r)
theorem Rn.ineg {x v : Int32} (hd : decode bytes pc = .ok (.ineg, 1)) (hv : -x = v) (hp : pc + 1 = pc') (k : Rn w Z EL own nm bytes ml ret R hS ws Q os cells slots h pc' Ls (.int v :: rest)) : Rn w Z EL own nm bytes ml ret R hS ws Q os cells slots h pc Ls (.int x :: rest) :=
  k.pure fun p l e s m args below meth c T locs hx hby X hZ hown eT t r => by subst hp; exact XS.ineg X.here hx rfl (hb hby hd) rfl (hv ▸ r)
theorem Rn.ladd {x y v : Int64} (hd : decode bytes pc = .ok (.ladd, 1)) (hv : x + y = v) (hp : pc + 1 = pc') (k : Rn w Z EL own nm bytes ml ret R hS ws Q os cells slots h pc' Ls (.long v :: rest)) : Rn w Z EL own nm bytes ml ret R hS ws Q os cells slots h pc Ls (.long y :: .long x :: rest) :=
  k.pure fun p l e s m args below meth c T locs hx hby X hZ hown eT t r => by subst hp; exact XT.ladd X.here hx rfl (hb hby hd) rfl (hv ▸ r)
theorem Rn.lsub {x y v : Int64} (hd : decode bytes pc = .ok (.lsub, 1)) (hv : x - y = v) (hp : pc + 1 = pc') (k : Rn w Z EL own nm bytes ml ret R hS ws Q os cells slots h pc' Ls (.long v :: rest)) : Rn w Z EL own nm bytes ml ret R hS ws Q os cells slots h pc Ls (.long y :: .long x :: rest) :=
  k.pure fun p l e s m args below meth c T locs hx hby X hZ hown eT t r => by subst hp; exact XT.lsub X.here hx rfl (hb hby hd) rfl (hv ▸ r)
theorem Rn.lmul {x y v : Int64} (hd : decode bytes pc = .ok (.lmul, 1)) (hv : x * y = v) (hp : pc + 1 = pc') (k : Rn w Z EL own nm bytes ml ret R hS ws Q os cells slots h pc' Ls (.long v :: rest)) : Rn w Z EL own nm bytes ml ret R hS ws Q os cells slots h pc Ls (.long y :: .long x :: rest) :=
  k.pure fun p l e s m args below meth c T locs hx hby X hZ hown eT t r => by subst hp; exact XT.lmul X.here hx rfl (hb hby hd) rfl (hv ▸ r)
theorem Rn.land {x y v : Int64} (hd : decode bytes pc = .ok (.land, 1)) (hv : x &&& y = v) (hp : pc + 1 = pc') (k : Rn w Z EL own nm bytes ml ret R hS ws Q os cells slots h pc' Ls (.long v :: rest)) : Rn w Z EL own nm bytes ml ret R hS ws Q os cells slots h pc Ls (.long y :: .long x :: rest) :=
  k.pure fun p l e s m args below meth c T locs hx hby X hZ hown eT t r => by subst hp; exact XT.land X.here hx rfl (hb hby hd) rfl (hv ▸ r)
theorem Rn.lor {x y v : Int64} (hd : decode bytes pc = .ok (.lor, 1)) (hv : x ||| y = v) (hp : pc + 1 = pc') (k : Rn w Z EL own nm bytes ml ret R hS ws Q os cells slots h pc' Ls (.long v :: rest)) : Rn w Z EL own nm bytes ml ret R hS ws Q os cells slots h pc Ls (.long y :: .long x :: rest) :=
  k.pure fun p l e s m args below meth c T locs hx hby X hZ hown eT t r => by subst hp; exact XT.lor X.here hx rfl (hb hby hd) rfl (hv ▸ r)
theorem Rn.lxor {x y v : Int64} (hd : decode bytes pc = .ok (.lxor, 1)) (hv : x ^^^ y = v) (hp : pc + 1 = pc') (k : Rn w Z EL own nm bytes ml ret R hS ws Q os cells slots h pc' Ls (.long v :: rest)) : Rn w Z EL own nm bytes ml ret R hS ws Q os cells slots h pc Ls (.long y :: .long x :: rest) :=
  k.pure fun p l e s m args below meth c T locs hx hby X hZ hown eT t r => by subst hp; exact XT.lxor X.here hx rfl (hb hby hd) rfl (hv ▸ r)
theorem Rn.lshl {x v : Int64} {y : Int32} (hd : decode bytes pc = .ok (.lshl, 1)) (hv : x <<< (y.toInt64 &&& 63) = v) (hp : pc + 1 = pc') (k : Rn w Z EL own nm bytes ml ret R hS ws Q os cells slots h pc' Ls (.long v :: rest)) : Rn w Z EL own nm bytes ml ret R hS ws Q os cells slots h pc Ls (.int y :: .long x :: rest) :=
  k.pure fun p l e s m args below meth c T locs hx hby X hZ hown eT t r => by subst hp; exact XT.lshl X.here hx rfl (hb hby hd) rfl (hv ▸ r)
theorem Rn.lshr {x v : Int64} {y : Int32} (hd : decode bytes pc = .ok (.lshr, 1)) (hv : x >>> (y.toInt64 &&& 63) = v) (hp : pc + 1 = pc') (k : Rn w Z EL own nm bytes ml ret R hS ws Q os cells slots h pc' Ls (.long v :: rest)) : Rn w Z EL own nm bytes ml ret R hS ws Q os cells slots h pc Ls (.int y :: .long x :: rest) :=
  k.pure fun p l e s m args below meth c T locs hx hby X hZ hown eT t r => by subst hp; exact XT.lshr X.here hx rfl (hb hby hd) rfl (hv ▸ r)
theorem Rn.lushr {x v : Int64} {y : Int32} (hd : decode bytes pc = .ok (.lushr, 1)) (hv : XT.ushrL x y = v) (hp : pc + 1 = pc') (k : Rn w Z EL own nm bytes ml ret R hS ws Q os cells slots h pc' Ls (.long v :: rest)) : Rn w Z EL own nm bytes ml ret R hS ws Q os cells slots h pc Ls (.int y :: .long x :: rest) :=
  k.pure fun p l e s m args below meth c T locs hx hby X hZ hown eT t r => by subst hp; exact XT.lushr X.here hx rfl (hb hby hd) rfl (hv ▸ r)
theorem Rn.lneg {x v : Int64} (hd : decode bytes pc = .ok (.lneg, 1)) (hv : -x = v) (hp : pc + 1 = pc') (k : Rn w Z EL own nm bytes ml ret R hS ws Q os cells slots h pc' Ls (.long v :: rest)) : Rn w Z EL own nm bytes ml ret R hS ws Q os cells slots h pc Ls (.long x :: rest) :=
  k.pure fun p l e s m args below meth c T locs hx hby X hZ hown eT t r => by subst hp; exact XT.lneg X.here hx rfl (hb hby hd) rfl (hv ▸ r)
theorem Rn.i2l {x : Int32} {v : Int64} (hd : decode bytes pc = .ok (.i2l, 1)) (hv : x.toInt64 = v) (hp : pc + 1 = pc') (k : Rn w Z EL own nm bytes ml ret R hS ws Q os cells slots h pc' Ls (.long v :: rest)) : Rn w Z EL own nm bytes ml ret R hS ws Q os cells slots h pc Ls (.int x :: rest) :=
  k.pure fun p l e s m args below meth c T locs hx hby X hZ hown eT t r => by subst hp; exact XT.i2l X.here hx rfl (hb hby hd) rfl (hv ▸ r)
theorem Rn.l2i {x : Int64} {v : Int32} (hd : decode bytes pc = .ok (.l2i, 1)) (hv : x.toInt32 = v) (hp : pc + 1 = pc') (k : Rn w Z EL own nm bytes ml ret R hS ws Q os cells slots h pc' Ls (.int v :: rest)) : Rn w Z EL own nm bytes ml ret R hS ws Q os cells slots h pc Ls (.long x :: rest) :=
  k.pure fun p l e s m args below meth c T locs hx hby X hZ hown eT t r => by subst hp; exact XT.l2i X.here hx rfl (hb hby hd) rfl (hv ▸ r)
theorem Rn.i2b {x : Int32} {v : Int32} (hd : decode bytes pc = .ok (.i2b, 1)) (hv : x.toInt8.toInt32 = v) (hp : pc + 1 = pc') (k : Rn w Z EL own nm bytes ml ret R hS ws Q os cells slots h pc' Ls (.int v :: rest)) : Rn w Z EL own nm bytes ml ret R hS ws Q os cells slots h pc Ls (.int x :: rest) :=
  k.pure fun p l e s m args below meth c T locs hx hby X hZ hown eT t r => by subst hp; exact XT.i2b X.here hx rfl (hb hby hd) rfl (hv ▸ r)
theorem Rn.i2c {x : Int32} {v : Int32} (hd : decode bytes pc = .ok (.i2c, 1)) (hv : x.toUInt32.toUInt16.toUInt32.toInt32 = v) (hp : pc + 1 = pc') (k : Rn w Z EL own nm bytes ml ret R hS ws Q os cells slots h pc' Ls (.int v :: rest)) : Rn w Z EL own nm bytes ml ret R hS ws Q os cells slots h pc Ls (.int x :: rest) :=
  k.pure fun p l e s m args below meth c T locs hx hby X hZ hown eT t r => by subst hp; exact XT.i2c X.here hx rfl (hb hby hd) rfl (hv ▸ r)
theorem Rn.i2s {x : Int32} {v : Int32} (hd : decode bytes pc = .ok (.i2s, 1)) (hv : x.toInt16.toInt32 = v) (hp : pc + 1 = pc') (k : Rn w Z EL own nm bytes ml ret R hS ws Q os cells slots h pc' Ls (.int v :: rest)) : Rn w Z EL own nm bytes ml ret R hS ws Q os cells slots h pc Ls (.int x :: rest) :=
  k.pure fun p l e s m args below meth c T locs hx hby X hZ hown eT t r => by subst hp; exact XT.i2s X.here hx rfl (hb hby hd) rfl (hv ▸ r)
theorem Rn.i2d {x : Int32} {v : UInt64} (hd : decode bytes pc = .ok (.i2d, 1)) (hv : FP.i2d x = v) (hp : pc + 1 = pc') (k : Rn w Z EL own nm bytes ml ret R hS ws Q os cells slots h pc' Ls (.double v :: rest)) : Rn w Z EL own nm bytes ml ret R hS ws Q os cells slots h pc Ls (.int x :: rest) :=
  k.pure fun p l e s m args below meth c T locs hx hby X hZ hown eT t r => by subst hp; exact XS.i2dS X.here hx rfl (hb hby hd) rfl hv r
theorem Rn.l2d {x : Int64} {v : UInt64} (hd : decode bytes pc = .ok (.l2d, 1)) (hv : FP.l2d x = v) (hp : pc + 1 = pc') (k : Rn w Z EL own nm bytes ml ret R hS ws Q os cells slots h pc' Ls (.double v :: rest)) : Rn w Z EL own nm bytes ml ret R hS ws Q os cells slots h pc Ls (.long x :: rest) :=
  k.pure fun p l e s m args below meth c T locs hx hby X hZ hown eT t r => by subst hp; exact XS.l2dS X.here hx rfl (hb hby hd) rfl hv r
theorem Rn.d2i {x : UInt64} {v : Int32} (hd : decode bytes pc = .ok (.d2i, 1)) (hv : FP.d2i x = v) (hp : pc + 1 = pc') (k : Rn w Z EL own nm bytes ml ret R hS ws Q os cells slots h pc' Ls (.int v :: rest)) : Rn w Z EL own nm bytes ml ret R hS ws Q os cells slots h pc Ls (.double x :: rest) :=
  k.pure fun p l e s m args below meth c T locs hx hby X hZ hown eT t r => by subst hp; exact XS.d2iS X.here hx rfl (hb hby hd) rfl hv r
theorem Rn.d2l {x : UInt64} {v : Int64} (hd : decode bytes pc = .ok (.d2l, 1)) (hv : FP.d2l x = v) (hp : pc + 1 = pc') (k : Rn w Z EL own nm bytes ml ret R hS ws Q os cells slots h pc' Ls (.long v :: rest)) : Rn w Z EL own nm bytes ml ret R hS ws Q os cells slots h pc Ls (.double x :: rest) :=
  k.pure fun p l e s m args below meth c T locs hx hby X hZ hown eT t r => by subst hp; exact XS.d2lS X.here hx rfl (hb hby hd) rfl hv r
theorem Rn.dneg {x : UInt64} {v : UInt64} (hd : decode bytes pc = .ok (.dneg, 1)) (hv : FP.dneg x = v) (hp : pc + 1 = pc') (k : Rn w Z EL own nm bytes ml ret R hS ws Q os cells slots h pc' Ls (.double v :: rest)) : Rn w Z EL own nm bytes ml ret R hS ws Q os cells slots h pc Ls (.double x :: rest) :=
  k.pure fun p l e s m args below meth c T locs hx hby X hZ hown eT t r => by subst hp; exact XS.dnegS X.here hx rfl (hb hby hd) rfl hv r
theorem Rn.dadd {x y v : UInt64} (hd : decode bytes pc = .ok (.dadd, 1)) (hn : Jvm.Free.Fl.NoNaN64 v) (hv : FP.dadd x y = v) (hp : pc + 1 = pc') (k : Rn w Z EL own nm bytes ml ret R hS ws Q os cells slots h pc' Ls (.double v :: rest)) : Rn w Z EL own nm bytes ml ret R hS ws Q os cells slots h pc Ls (.double y :: .double x :: rest) :=
  k.pure fun p l e s m args below meth c T locs hx hby X hZ hown eT t r => by subst hp; exact XS.daddS X.here hx rfl (hb hby hd) rfl (hv.symm ▸ hn) hv r
theorem Rn.dsub {x y v : UInt64} (hd : decode bytes pc = .ok (.dsub, 1)) (hn : Jvm.Free.Fl.NoNaN64 v) (hv : FP.dsub x y = v) (hp : pc + 1 = pc') (k : Rn w Z EL own nm bytes ml ret R hS ws Q os cells slots h pc' Ls (.double v :: rest)) : Rn w Z EL own nm bytes ml ret R hS ws Q os cells slots h pc Ls (.double y :: .double x :: rest) :=
  k.pure fun p l e s m args below meth c T locs hx hby X hZ hown eT t r => by subst hp; exact XS.dsubS X.here hx rfl (hb hby hd) rfl (hv.symm ▸ hn) hv r
theorem Rn.dmul {x y v : UInt64} (hd : decode bytes pc = .ok (.dmul, 1)) (hn : Jvm.Free.Fl.NoNaN64 v) (hv : FP.dmul x y = v) (hp : pc + 1 = pc') (k : Rn w Z EL own nm bytes ml ret R hS ws Q os cells slots h pc' Ls (.double v :: rest)) : Rn w Z EL own nm bytes ml ret R hS ws Q os cells slots h pc Ls (.double y :: .double x :: rest) :=
  k.pure fun p l e s m args below meth c T locs hx hby X hZ hown eT t r => by subst hp; exact XS.dmulS X.here hx rfl (hb hby hd) rfl (hv.symm ▸ hn) hv r
theorem Rn.ddiv {x y v : UInt64} (hd : decode bytes pc = .ok (.ddiv, 1)) (hn : Jvm.Free.Fl.NoNaN64 v) (hv : FP.ddiv x y = v) (hp : pc + 1 = pc') (k : Rn w Z EL own nm bytes ml ret R hS ws Q os cells slots h pc' Ls (.double v :: rest)) : Rn w Z EL own nm bytes ml ret R hS ws Q os cells slots h pc Ls (.double y :: .double x :: rest) :=
  k.pure fun p l e s m args below meth c T locs hx hby X hZ hown eT t r => by subst hp; exact XS.ddivS X.here hx rfl (hb hby hd) rfl (hv.symm ▸ hn) hv r
theorem Rn.dcmp {o : CmpOp} {x y : UInt64} {v : Int32} (hd : decode bytes pc = .ok (.dcmp o, 1)) (hv : cmpValue (FP.dcmp x y) o = v) (hp : pc + 1 = pc') (k : Rn w Z EL own nm bytes ml ret R hS ws Q os cells slots h pc' Ls (.int v :: rest)) : Rn w Z EL own nm bytes ml ret R hS ws Q os cells slots h pc Ls (.double y :: .double x :: rest) :=
  k.pure fun p l e s m args below meth c T locs hx hby X hZ hown eT t r => by subst hp; exact XS.dcmpS X.here hx rfl (hb hby hd) rfl hv r
theorem Rn.lcmp {x y : Int64} {v : Int32} (hd : decode bytes pc = .ok (.lcmp, 1)) (hv : XT.cmpL x y = v) (hp : pc + 1 = pc') (k : Rn w Z EL own nm bytes ml ret R hS ws Q os cells slots h pc' Ls (.int v :: rest)) : Rn w Z EL own nm bytes ml ret R hS ws Q os cells slots h pc Ls (.long y :: .long x :: rest) :=
  k.pure fun p l e s m args below meth c T locs hx hby X hZ hown eT t r => by subst hp; exact XT.lcmp X.here hx rfl (hb hby hd) rfl (hv ▸ r)
theorem Rn.pop {x : Value} (hd : decode bytes pc = .ok (.pop, 1)) (hc : x.category = 1) (hp : pc + 1 = pc') (k : Rn w Z EL own nm bytes ml ret R hS ws Q os cells slots h pc' Ls rest) : Rn w Z EL own nm bytes ml ret R hS ws Q os cells slots h pc Ls (x :: rest) :=
  k.pure fun p l e s m args below meth c T locs hx hby X hZ hown eT t r => by subst hp; exact XT.pop X.here hx rfl (hb hby hd) rfl hc r
theorem Rn.dup {x : Value} (hd : decode bytes pc = .ok (.dup, 1)) (hc : x.category = 1) (hp : pc + 1 = pc') (k : Rn w Z EL own nm bytes ml ret R hS ws Q os cells slots h pc' Ls (x :: x :: rest)) : Rn w Z EL own nm bytes ml ret R hS ws Q os cells slots h pc Ls (x :: rest) :=
  k.pure fun p l e s m args below meth c T locs hx hby X hZ hown eT t r => by subst hp; exact XS.dup X.here hx rfl (hb hby hd) rfl hc r
theorem Rn.dup_x1 {x y : Value} (hd : decode bytes pc = .ok (.dup_x1, 1)) (hc : x.category = 1) (hc' : y.category = 1) (hp : pc + 1 = pc') (k : Rn w Z EL own nm bytes ml ret R hS ws Q os cells slots h pc' Ls (x :: y :: x :: rest)) : Rn w Z EL own nm bytes ml ret R hS ws Q os cells slots h pc Ls (x :: y :: rest) :=
  k.pure fun p l e s m args below meth c T locs hx hby X hZ hown eT t r => by subst hp; exact XT.dupX1 X.here hx rfl (hb hby hd) rfl hc hc' r
theorem Rn.dup2 {x y : Value} (hd : decode bytes pc = .ok (.dup2, 1)) (hc : x.category = 1) (hc' : y.category = 1) (hp : pc + 1 = pc') (k : Rn w Z EL own nm bytes ml ret R hS ws Q os cells slots h pc' Ls (x :: y :: x :: y :: rest)) : Rn w Z EL own nm bytes ml ret R hS ws Q os cells slots h pc Ls (x :: y :: rest) :=
  k.pure fun p l e s m args below meth c T locs hx hby X hZ hown eT t r => by subst hp; exact XT.dup2 X.here hx rfl (hb hby hd) rfl hc hc' r
theorem Rn.goto {o : Int} (hd : decode bytes pc = .ok (.goto o, 3)) (ho : 0 ≤ (pc : Int) + o) (hp : ((pc : Int) + o).toNat = pc') (k : Rn w Z EL own nm bytes ml ret R hS ws Q os cells slots h pc' Ls rest) : Rn w Z EL own nm bytes ml ret R hS ws Q os cells slots h pc Ls rest :=
  k.pure fun p l e s m args below meth c T locs hx hby X hZ hown eT t r => XS.goto X.here hx rfl rfl (hb hby hd) ho hp r
theorem Rn.icmp_eq {x y : Int32} {o : Int} {pn : Nat} (hd : decode bytes pc = .ok (.if_icmp .eq o, 3)) (ho : 0 ≤ (pc : Int) + o) (hp : ((pc : Int) + o).toNat = pc') (hn : pc + 3 = pn) (ky : x = y → Rn w Z EL own nm bytes ml ret R hS ws Q os cells slots h pc' Ls rest) (kn : ¬ x = y → Rn w Z EL own nm bytes ml ret R hS ws Q os cells slots h pn Ls rest) : Rn w Z EL own nm bytes ml ret R hS ws Q os cells slots h pc Ls (.int y :: .int x :: rest) := by
  by_cases q : x = y
  · exact (ky q).pure fun p l e s m args below meth c T locs hx hby X hZ hown eT t r => XS.icmpYes X.here hx rfl rfl (hb hby hd) rfl (teq q).1 ho hp r
  · exact (kn q).pure fun p l e s m args below meth c T locs hx hby X hZ hown eT t r => by subst hn; exact XS.icmpNo X.here hx rfl (hb hby hd) rfl (feq q).1 r
theorem Rn.if_eq {x : Int32} {o : Int} {pn : Nat} (hd : decode bytes pc = .ok (.ifCond .eq o, 3)) (ho : 0 ≤ (pc : Int) + o) (hp : ((pc : Int) + o).toNat = pc') (hn : pc + 3 = pn) (ky : x = 0 → Rn w Z EL own nm bytes ml ret R hS ws Q os cells slots h pc' Ls rest) (kn : ¬ x = 0 → Rn w Z EL own nm bytes ml ret R hS ws Q os cells slots h pn Ls rest) : Rn w Z EL own nm bytes ml ret R hS ws Q os cells slots h pc Ls (.int x :: rest) := by
  by_cases q : x = 0
  · exact (ky q).pure fun p l e s m args below meth c T locs hx hby X hZ hown eT t r => XS.ifYes X.here hx rfl rfl (hb hby hd) rfl (by rw [if0]; exact (teq q).1) ho hp r
  · exact (kn q).pure fun p l e s m args below meth c T locs hx hby X hZ hown eT t r => by subst hn; exact XS.ifNo X.here hx rfl (hb hby hd) rfl (by rw [if0]; exact (feq q).1) r
theorem Rn.icmp_ne {x y : Int32} {o : Int} {pn : Nat} (hd : decode bytes pc = .ok (.if_icmp .ne o, 3)) (ho : 0 ≤ (pc : Int) + o) (hp : ((pc : Int) + o).toNat = pc') (hn : pc + 3 = pn) (ky : ¬ x = y → Rn w Z EL own nm bytes ml ret R hS ws Q os cells slots h pc' Ls rest) (kn : x = y → Rn w Z EL own nm bytes ml ret R hS ws Q os cells slots h pn Ls rest) : Rn w Z EL own nm bytes ml ret R hS ws Q os cells slots h pc Ls (.int y :: .int x :: rest) := by
  by_cases q : x = y
  · exact (kn q).pure fun p l e s m args below meth c T locs hx hby X hZ hown eT t r => by subst hn; exact XS.icmpNo X.here hx rfl (hb hby hd) rfl (teq q).2 r
  · exact (ky q).pure fun p l e s m args below meth c T locs hx hby X hZ hown eT t r => XS.icmpYes X.here hx rfl rfl (hb hby hd) rfl (feq q).2 ho hp r
theorem Rn.if_ne {x : Int32} {o : Int} {pn : Nat} (hd : decode bytes pc = .ok (.ifCond .ne o, 3)) (ho : 0 ≤ (pc : Int) + o) (hp : ((pc : Int) + o).toNat = pc') (hn : pc + 3 = pn) (ky : ¬ x = 0 → Rn w Z EL own nm bytes ml ret R hS ws Q os cells slots h pc' Ls rest) (kn : x = 0 → Rn w Z EL own nm bytes ml ret R hS ws Q os cells slots h pn Ls rest) : Rn w Z EL own nm bytes ml ret R hS ws Q os cells slots h pc Ls (.int x :: rest) := by
  by_cases q : x = 0
  · exact (kn q).pure fun p l e s m args below meth c T locs hx hby X hZ hown eT t r => by subst hn; exact XS.ifNo X.here hx rfl (hb hby hd) rfl (by rw [if0]; exact (teq q).2) r
  · exact (ky q).pure fun p l e s m args below meth c T locs hx hby X hZ hown eT t r => XS.ifYes X.here hx rfl rfl (hb hby hd) rfl (by rw [if0]; exact (feq q).2) ho hp r
theorem Rn.icmp_lt {x y : Int32} {o : Int} {pn : Nat} (hd : decode bytes pc = .ok (.if_icmp .lt o, 3)) (ho : 0 ≤ (pc : Int) + o) (hp : ((pc : Int) + o).toNat = pc') (hn : pc + 3 = pn) (ky : x < y → Rn w Z EL own nm bytes ml ret R hS ws Q os cells slots h pc' Ls rest) (kn : ¬ x < y → Rn w Z EL own nm bytes ml ret R hS ws Q os cells slots h pn Ls rest) : Rn w Z EL own nm bytes ml ret R hS ws Q os cells slots h pc Ls (.int y :: .int x :: rest) := by
  by_cases q : x < y
  · exact (ky q).pure fun p l e s m args below meth c T locs hx hby X hZ hown eT t r => XS.icmpYes X.here hx rfl rfl (hb hby hd) rfl (tlt q).1 ho hp r
  · exact (kn q).pure fun p l e s m args below meth c T locs hx hby X hZ hown eT t r => by subst hn; exact XS.icmpNo X.here hx rfl (hb hby hd) rfl (flt q).1 r
theorem Rn.if_lt {x : Int32} {o : Int} {pn : Nat} (hd : decode bytes pc = .ok (.ifCond .lt o, 3)) (ho : 0 ≤ (pc : Int) + o) (hp : ((pc : Int) + o).toNat = pc') (hn : pc + 3 = pn) (ky : x < 0 → Rn w Z EL own nm bytes ml ret R hS ws Q os cells slots h pc' Ls rest) (kn : ¬ x < 0 → Rn w Z EL own nm bytes ml ret R hS ws Q os cells slots h pn Ls rest) : Rn w Z EL own nm bytes ml ret R hS ws Q os cells slots h pc Ls (.int x :: rest) := by
  by_cases q : x < 0
  · exact (ky q).pure fun p l e s m args below meth c T locs hx hby X hZ hown eT t r => XS.ifYes X.here hx rfl rfl (hb hby hd) rfl (by rw [if0]; exact (tlt q).1) ho hp r
  · exact (kn q).pure fun p l e s m args below meth c T locs hx hby X hZ hown eT t r => by subst hn; exact XS.ifNo X.here hx rfl (hb hby hd) rfl (by rw [if0]; exact (flt q).1) r
theorem Rn.icmp_ge {x y : Int32} {o : Int} {pn : Nat} (hd : decode bytes pc = .ok (.if_icmp .ge o, 3)) (ho : 0 ≤ (pc : Int) + o) (hp : ((pc : Int) + o).toNat = pc') (hn : pc + 3 = pn) (ky : ¬ x < y → Rn w Z EL own nm bytes ml ret R hS ws Q os cells slots h pc' Ls rest) (kn : x < y → Rn w Z EL own nm bytes ml ret R hS ws Q os cells slots h pn Ls rest) : Rn w Z EL own nm bytes ml ret R hS ws Q os cells slots h pc Ls (.int y :: .int x :: rest) := by
  by_cases q : x < y
  · exact (kn q).pure fun p l e s m args below meth c T locs hx hby X hZ hown eT t r => by subst hn; exact XS.icmpNo X.here hx rfl (hb hby hd) rfl (tlt q).2.1 r
  · exact (ky q).pure fun p l e s m args below meth c T locs hx hby X hZ hown eT t r => XS.icmpYes X.here hx rfl rfl (hb hby hd) rfl (flt q).2.1 ho hp r
theorem Rn.if_ge {x : Int32} {o : Int} {pn : Nat} (hd : decode bytes pc = .ok (.ifCond .ge o, 3)) (ho : 0 ≤ (pc : Int) + o) (hp : ((pc : Int) + o).toNat = pc') (hn : pc + 3 = pn) (ky : ¬ x < 0 → Rn w Z EL own nm bytes ml ret R hS ws Q os cells slots h pc' Ls rest) (kn : x < 0 → Rn w Z EL own nm bytes ml ret R hS ws Q os cells slots h pn Ls rest) : Rn w Z EL own nm bytes ml ret R hS ws Q os cells slots h pc Ls (.int x :: rest) := by
  by_cases q : x < 0
  · exact (kn q).pure fun p l e s m args below meth c T locs hx hby X hZ hown eT t r => by subst hn; exact XS.ifNo X.here hx rfl (hb hby hd) rfl (by rw [if0]; exact (tlt q).2.1) r
  · exact (ky q).pure fun p l e s m args below meth c T locs hx hby X hZ hown eT t r => XS.ifYes X.here hx rfl rfl (hb hby hd) rfl (by rw [if0]; exact (flt q).2.1) ho hp r
theorem Rn.icmp_gt {x y : Int32} {o : Int} {pn : Nat} (hd : decode bytes pc = .ok (.if_icmp .gt o, 3)) (ho : 0 ≤ (pc : Int) + o) (hp : ((pc : Int) + o).toNat = pc') (hn : pc + 3 = pn) (ky : y < x → Rn w Z EL own nm bytes ml ret R hS ws Q os cells slots h pc' Ls rest) (kn : ¬ y < x → Rn w Z EL own nm bytes ml ret R hS ws Q os cells slots h pn Ls rest) : Rn w Z EL own nm bytes ml ret R hS ws Q os cells slots h pc Ls (.int y :: .int x :: rest) := by
  by_cases q : y < x
  · exact (ky q).pure fun p l e s m args below meth c T locs hx hby X hZ hown eT t r => XS.icmpYes X.here hx rfl rfl (hb hby hd) rfl (tlt q).2.2.1 ho hp r
  · exact (kn q).pure fun p l e s m args below meth c T locs hx hby X hZ hown eT t r => by subst hn; exact XS.icmpNo X.here hx rfl (hb hby hd) rfl (flt q).2.2.1 r
theorem Rn.if_gt {x : Int32} {o : Int} {pn : Nat} (hd : decode bytes pc = .ok (.ifCond .gt o, 3)) (ho : 0 ≤ (pc : Int) + o) (hp : ((pc : Int) + o).toNat = pc') (hn : pc + 3 = pn) (ky : 0 < x → Rn w Z EL own nm bytes ml ret R hS ws Q os cells slots h pc' Ls rest) (kn : ¬ 0 < x → Rn w Z EL own nm bytes ml ret R hS ws Q os cells slots h pn Ls rest) : Rn w Z EL own nm bytes ml ret R hS ws Q os cells slots h pc Ls (.int x :: rest) := by
  by_cases q : 0 < x
  · exact (ky q).pure fun p l e s m args below meth c T locs hx hby X hZ hown eT t r => XS.ifYes X.here hx rfl rfl (hb hby hd) rfl (by rw [if0]; exact (tlt q).2.2.1) ho hp r
  · exact (kn q).pure fun p l e s m args below meth c T locs hx hby X hZ hown eT t r => by subst hn; exact XS.ifNo X.here hx rfl (hb hby hd) rfl (by rw [if0]; exact (flt q).2.2.1) r
theorem Rn.icmp_le {x y : Int32} {o : Int} {pn : Nat} (hd : decode bytes pc = .ok (.if_icmp .le o, 3)) (ho : 0 ≤ (pc : Int) + o) (hp : ((pc : Int) + o).toNat = pc') (hn : pc + 3 = pn) (ky : ¬ y < x → Rn w Z EL own nm bytes ml ret R hS ws Q os cells slots h pc' Ls rest) (kn : y < x → Rn w Z EL own nm bytes ml ret R hS ws Q os cells slots h pn Ls rest) : Rn w Z EL own nm bytes ml ret R hS ws Q os cells slots h pc Ls (.int y :: .int x :: rest) := by
  by_cases q : y < x
  · exact (kn q).pure fun p l e s m args below meth c T locs hx hby X hZ hown eT t r => by subst hn; exact XS.icmpNo X.here hx rfl (hb hby hd) rfl (tlt q).2.2.2 r
  · exact (ky q).pure fun p l e s m args below meth c T locs hx hby X hZ hown eT t r => XS.icmpYes X.here hx rfl rfl (hb hby hd) rfl (flt q).2.2.2 ho hp r
theorem Rn.if_le {x : Int32} {o : Int} {pn : Nat} (hd : decode bytes pc = .ok (.ifCond .le o, 3)) (ho : 0 ≤ (pc : Int) + o) (hp : ((pc : Int) + o).toNat = pc') (hn : pc + 3 = pn) (ky : ¬ 0 < x → Rn w Z EL own nm bytes ml ret R hS ws Q os cells slots h pc' Ls rest) (kn : 0 < x → Rn w Z EL own nm bytes ml ret R hS ws Q os cells slots h pn Ls rest) : Rn w Z EL own nm bytes ml ret R hS ws Q os cells slots h pc Ls (.int x :: rest) := by
  by_cases q : 0 < x
  · exact (kn q).pure fun p l e s m args below meth c T locs hx hby X hZ hown eT t r => by subst hn; exact XS.ifNo X.here hx rfl (hb hby hd) rfl (by rw [if0]; exact (tlt q).2.2.2) r
  · exact (ky q).pure fun p l e s m args below meth c T locs hx hby X hZ hown eT t r => XS.ifYes X.here hx rfl rfl (hb hby hd) rfl (by rw [if0]; exact (flt q).2.2.2) ho hp r
theorem Rn.ifnull_y {o : Int} (hd : decode bytes pc = .ok (.ifnull o, 3)) (ho : 0 ≤ (pc : Int) + o) (hp : ((pc : Int) + o).toNat = pc') (k : Rn w Z EL own nm bytes ml ret R hS ws Q os cells slots h pc' Ls rest) : Rn w Z EL own nm bytes ml ret R hS ws Q os cells slots h pc Ls (.null :: rest) :=
  k.pure fun p l e s m args below meth c T locs hx hby X hZ hown eT t r => XS.ifnullYes X.here hx rfl rfl (hb hby hd) rfl ho hp r
theorem Rn.ifnull_n {o : Int} {a : Addr} (hd : decode bytes pc = .ok (.ifnull o, 3)) (hn : pc + 3 = pc') (k : Rn w Z EL own nm bytes ml ret R hS ws Q os cells slots h pc' Ls rest) : Rn w Z EL own nm bytes ml ret R hS ws Q os cells slots h pc Ls (.ref a :: rest) :=
  k.pure fun p l e s m args below meth c T locs hx hby X hZ hown eT t r => by subst hn; exact XS.ifnullNo X.here hx rfl (hb hby hd) rfl r
theorem Rn.ifnonnull_y {o : Int} {a : Addr} (hd : decode bytes pc = .ok (.ifnonnull o, 3)) (ho : 0 ≤ (pc : Int) + o) (hp : ((pc : Int) + o).toNat = pc') (k : Rn w Z EL own nm bytes ml ret R hS ws Q os cells slots h pc' Ls rest) : Rn w Z EL own nm bytes ml ret R hS ws Q os cells slots h pc Ls (.ref a :: rest) :=
  k.pure fun p l e s m args below meth c T locs hx hby X hZ hown eT t r => XT.ifnonnullYes X.here hx rfl rfl (hb hby hd) rfl ho hp r
theorem Rn.ifnonnull_n {o : Int} (hd : decode bytes pc = .ok (.ifnonnull o, 3)) (hn : pc + 3 = pc') (k : Rn w Z EL own nm bytes ml ret R hS ws Q os cells slots h pc' Ls rest) : Rn w Z EL own nm bytes ml ret R hS ws Q os cells slots h pc Ls (.null :: rest) :=
  k.pure fun p l e s m args below meth c T locs hx hby X hZ hown eT t r => by subst hn; exact XT.ifnonnullNo X.here hx rfl (hb hby hd) rfl r
theorem Rn.acmp_eq {x y : Value} {o : Int} {pn : Nat} (h1 : x.isRef = true) (h2 : y.isRef = true) (hd : decode bytes pc = .ok (.if_acmp .eq o, 3)) (ho : 0 ≤ (pc : Int) + o) (hp : ((pc : Int) + o).toNat = pc') (hn : pc + 3 = pn) (ky : x = y → Rn w Z EL own nm bytes ml ret R hS ws Q os cells slots h pc' Ls rest) (kn : ¬ x = y → Rn w Z EL own nm bytes ml ret R hS ws Q os cells slots h pn Ls rest) : Rn w Z EL own nm bytes ml ret R hS ws Q os cells slots h pc Ls (y :: x :: rest) := by
  by_cases q : x = y
  · exact (ky q).pure fun p l e s m args below meth c T locs hx hby X hZ hown eT t r => by exact acmp X hx rfl h1 h2 (same := true) rfl (hb hby hd) rfl (by simp [q]) ho (by simp [acV, hp]) r
  · exact (kn q).pure fun p l e s m args below meth c T locs hx hby X hZ hown eT t r => by exact acmp X hx rfl h1 h2 (same := false) rfl (hb hby hd) rfl (by simp [q]) ho (by simp [acV, hn]) r
theorem Rn.acmp_ne {x y : Value} {o : Int} {pn : Nat} (h1 : x.isRef = true) (h2 : y.isRef = true) (hd : decode bytes pc = .ok (.if_acmp .ne o, 3)) (ho : 0 ≤ (pc : Int) + o) (hp : ((pc : Int) + o).toNat = pc') (hn : pc + 3 = pn) (ky : ¬ x = y → Rn w Z EL own nm bytes ml ret R hS ws Q os cells slots h pc' Ls rest) (kn : x = y → Rn w Z EL own nm bytes ml ret R hS ws Q os cells slots h pn Ls rest) : Rn w Z EL own nm bytes ml ret R hS ws Q os cells slots h pc Ls (y :: x :: rest) := by
  by_cases q : x = y
  · exact (kn q).pure fun p l e s m args below meth c T locs hx hby X hZ hown eT t r => by exact acmp X hx rfl h1 h2 (same := true) rfl (hb hby hd) rfl (by simp [q]) ho (by simp [acV, hn]) r
  · exact (ky q).pure fun p l e s m args below meth c T locs hx hby X hZ hown eT t r => by exact acmp X hx rfl h1 h2 (same := false) rfl (hb hby hd) rfl (by simp [q]) ho (by simp [acV, hp]) r
theorem Rn.tsw {dflt low high : Int} {offs : Array Int} {len : Nat} {o : Int} {i : Int32} (hd : decode bytes pc = .ok (.tableswitch dflt low high offs, len)) (hin : ¬ (i.toInt < low ∨ i.toInt > high)) (hoff : offs[(i.toInt - low).toNat]? = some o) (ho : 0 ≤ (pc : Int) + o) (hp : ((pc : Int) + o).toNat = pc') (k : Rn w Z EL own nm bytes ml ret R hS ws Q os cells slots h pc' Ls rest) : Rn w Z EL own nm bytes ml ret R hS ws Q os cells slots h pc Ls (.int i :: rest) :=
  k.pure fun p l e s m args below meth c T locs hx hby X hZ hown eT t r => XS.tswIn X.here hx rfl rfl (hb hby hd) rfl hin hoff ho hp r
theorem Rn.tswD {dflt low high : Int} {offs : Array Int} {len : Nat} {i : Int32} (hd : decode bytes pc = .ok (.tableswitch dflt low high offs, len)) (hout : i.toInt < low ∨ i.toInt > high) (ho : 0 ≤ (pc : Int) + dflt) (hp : ((pc : Int) + dflt).toNat = pc') (k : Rn w Z EL own nm bytes ml ret R hS ws Q os cells slots h pc' Ls rest) : Rn w Z EL own nm bytes ml ret R hS ws Q os cells slots h pc Ls (.int i :: rest) :=
  k.pure fun p l e s m args below meth c T locs hx hby X hZ hown eT t r => XS.tswOut X.here hx rfl rfl (hb hby hd) rfl hout ho hp r
theorem Rn.ldcI {ix : Nat} {v : Int32} (wd : (Jvm.Cond.constant own ix v).before a0 Z = true) (hd : decode bytes pc = .ok (.ldc ix, 2)) (hp : pc + 2 = pc') (k : Rn w Z EL own nm bytes ml ret R hS ws Q os cells slots h pc' Ls (.int v :: rest)) : Rn w Z EL own nm bytes ml ret R hS ws Q os cells slots h pc Ls rest :=
  k.pure fun p l e s m args below meth c T locs hx hby X hZ hown eT t r => by subst hp; exact X.ldcInt hx hown (mvT hZ wd) (g := mkF m pc Ls rest) rfl (hb hby hd) t r
theorem Rn.ldcJ {ix : Nat} {v : Int64} (wd : (Jvm.Cond.constantLong own ix v).before a0 Z = true) (hd : decode bytes pc = .ok (.ldc2_w ix, 3)) (hp : pc + 3 = pc') (k : Rn w Z EL own nm bytes ml ret R hS ws Q os cells slots h pc' Ls (.long v :: rest)) : Rn w Z EL own nm bytes ml ret R hS ws Q os cells slots h pc Ls rest :=
  k.pure fun p l e s m args below meth c T locs hx hby X hZ hown eT t r => by subst hp; exact X.ldc2Long hx hown (mvT hZ wd) (g := mkF m pc Ls rest) rfl (hb hby hd) t r
theorem Rn.ldcD {ix : Nat} {v : UInt64} (wd : (Jvm.Cond.constantDouble own ix v).before a0 Z = true) (hd : decode bytes pc = .ok (.ldc2_w ix, 3)) (hp : pc + 3 = pc') (k : Rn w Z EL own nm bytes ml ret R hS ws Q os cells slots h pc' Ls (.double v :: rest)) : Rn w Z EL own nm bytes ml ret R hS ws Q os cells slots h pc Ls rest :=
  k.pure fun p l e s m args below meth c T locs hx hby X hZ hown eT t r => by subst hp; exact X.ldc2DoubleC hx hown (mvT hZ wd) (g := mkF m pc Ls rest) rfl (hb hby hd) t r
/-- an array and all that it holds -/
def Ax (Z : State) (h : Heap) (a : Addr) (ty : FieldType) (vs : List Value) : Prop := ∃ c : Cell, Arr Z h a c ty ∧ c.slots = vs.toArray ∧ vs.length < 2 ^ 31
section AxFacts
variable {a b : Addr} {ty : FieldType} {vs : List Value} {sl : Nat} {v : Value}
theorem Ax.lt (F : Ax Z h a ty vs) : a < h.size := by obtain ⟨c, A, -⟩ := F; exact A.lt
theorem Ax.ext (F : Ax Z h a ty vs) (E : Ext h h') : Ax Z h' a ty vs := by obtain ⟨c, A, r⟩ := F; exact ⟨c, A.ext E, r⟩
theorem Ax.other (F : Ax Z h b ty vs) (W : Wr h h' a sl v) (q : b ≠ a) : Ax Z h' b ty vs := by obtain ⟨c, A, r⟩ := F; exact ⟨c, A.other W q, r⟩
theorem Ax.keep {ws : List Addr} (F : Ax Z h a ty vs) (K : Keep h h' ws) (q : a ∉ ws) : Ax Z h' a ty vs := by obtain ⟨c, A, r⟩ := F; exact ⟨c, ⟨K.2.1 a c A.1 q, A.2⟩, r⟩
theorem Ax.set (F : Ax Z h a ty vs) (W : Wr h h' a sl v) : Ax Z h' a ty (vs.set sl v) := by
  obtain ⟨c, A, r, q⟩ := F
  refine ⟨_, A.same W, ?_, by simpa using q⟩
  simp [Cell.setSlot, r]
theorem Ax.new {cA : ClassId} {n : Int32} (A : Arr Z h a (newA cA ty n) ty) (q : ¬ n < 0) : Ax Z h a ty (List.replicate n.toNatClampNeg (defaultValue ty)) := by
  refine ⟨_, A, ?_, by simpa using (back32 q).2⟩
  simp [newA]
theorem Ax.sf {w : Bool} {EL : List (String × Nat)} {os : List Addr} (F : Ax Z h a ty vs) (ht : ty ≠ .byte) : Sf w Z EL os h a := by obtain ⟨c, A, -⟩ := F; exact Sf.arr A ht
theorem Ax.arv {d : Value} (F : Ax Z h a ty vs) (hf : ∀ x ∈ vs, fits ty x = true) (n : Int32) (hn : n.toNatClampNeg = vs.length) (h0 : ¬ n < 0) : ∃ k, Arv Z h a k ty n vs d := by
  obtain ⟨c, A, r, q⟩ := F
  refine ⟨c.cls, c, A, rfl, by simp [r, hn], h0, fun k hk => ?_, fun i hi => ?_⟩
  · have : k < vs.length := by simpa [r] using hk
    simp [r, this]
  · have : i < vs.length := by simpa [r] using hi
    simp only [List.getD_eq_getElem?_getD, List.getElem?_eq_getElem this, Option.getD_some]
    exact hf _ (List.getElem_mem this)
theorem Ax.ofArv {k : ClassId} {n : Int32} {d : Value} (F : Arv Z h a k ty n vs d) (hl : vs.length = n.toNatClampNeg) : Ax Z h a ty vs := by
  obtain ⟨c, A, -, S, N, H, -⟩ := F
  refine ⟨c, A, ?_, by rw [hl]; exact (back32 N).2⟩
  apply Array.ext_getElem?
  intro i
  by_cases q : i < c.slots.size
  · have q2 : i < vs.length := by rw [hl, ← S]; exact q
    rw [H i q]; simp [q2]
  · have q2 : ¬ i < vs.length := by rw [hl, ← S]; exact q
    rw [Array.getElem?_eq_none (Nat.le_of_not_lt q)]; simp [Nat.le_of_not_lt q2]
theorem Ax.at {j : Int32} (c : Cell) (r : c.slots = vs.toArray) (h0 : ¬ j < 0) (hv : vs[j.toNatClampNeg]? = some v) : ¬ (j < 0 ∨ c.slots.size ≤ j.toNatClampNeg) ∧ c.slots[j.toNatClampNeg]? = some v := by
  have q := (List.getElem?_eq_some_iff.mp hv).1
  refine ⟨fun z => z.elim h0 fun z => ?_, by simpa [r] using hv⟩
  simp [r] at z; omega
end AxFacts
theorem Rn.iaload {a : Addr} {vs : List Value} {j : Int32} {v : Value} (A : Ax Z h a .int vs) (h0 : ¬ j < 0) (hv : vs[j.toNatClampNeg]? = some v) (hd : decode bytes pc = .ok (.iaload, 1)) (hp : pc + 1 = pc') (k : Rn w Z EL own nm bytes ml ret R hS ws Q os cells slots h pc' Ls (v :: rest)) : Rn w Z EL own nm bytes ml ret R hS ws Q os cells slots h pc Ls (.int j :: .ref a :: rest) := by
  obtain ⟨cl, Ar, r1, -⟩ := A
  obtain ⟨q1, q2⟩ := Ax.at cl r1 h0 hv
  exact k.pure fun p l e s m args below meth c T locs hx hby X hZ hown eT t r => by subst hp; exact X.iaload hx (j := j) (v := v) (by rw [eT]; exact Ar.1) (State.isArrayOf_alike hZ.alike Ar.2.1) Ar.2.2 q1 q2 (g := mkF m pc Ls (.int j :: .ref a :: rest)) rfl rfl (hb hby hd) t r
theorem Rn.caload {a : Addr} {vs : List Value} {j : Int32} {v : Value} (A : Ax Z h a .char vs) (h0 : ¬ j < 0) (hv : vs[j.toNatClampNeg]? = some v) (hd : decode bytes pc = .ok (.caload, 1)) (hp : pc + 1 = pc') (k : Rn w Z EL own nm bytes ml ret R hS ws Q os cells slots h pc' Ls (v :: rest)) : Rn w Z EL own nm bytes ml ret R hS ws Q os cells slots h pc Ls (.int j :: .ref a :: rest) := by
  obtain ⟨cl, Ar, r1, -⟩ := A
  obtain ⟨q1, q2⟩ := Ax.at cl r1 h0 hv
  exact k.pure fun p l e s m args below meth c T locs hx hby X hZ hown eT t r => by subst hp; exact X.caload hx (j := j) (v := v) (by rw [eT]; exact Ar.1) (State.isArrayOf_alike hZ.alike Ar.2.1) Ar.2.2 q1 q2 (g := mkF m pc Ls (.int j :: .ref a :: rest)) rfl rfl (hb hby hd) t r
theorem Rn.laload {a : Addr} {vs : List Value} {j : Int32} {v : Value} (A : Ax Z h a .long vs) (h0 : ¬ j < 0) (hv : vs[j.toNatClampNeg]? = some v) (hd : decode bytes pc = .ok (.laload, 1)) (hp : pc + 1 = pc') (k : Rn w Z EL own nm bytes ml ret R hS ws Q os cells slots h pc' Ls (v :: rest)) : Rn w Z EL own nm bytes ml ret R hS ws Q os cells slots h pc Ls (.int j :: .ref a :: rest) := by
  obtain ⟨cl, Ar, r1, -⟩ := A
  obtain ⟨q1, q2⟩ := Ax.at cl r1 h0 hv
  exact k.pure fun p l e s m args below meth c T locs hx hby X hZ hown eT t r => by subst hp; exact X.laload hx (j := j) (v := v) (by rw [eT]; exact Ar.1) (State.isArrayOf_alike hZ.alike Ar.2.1) Ar.2.2 q1 q2 (g := mkF m pc Ls (.int j :: .ref a :: rest)) rfl rfl (hb hby hd) t r
theorem Rn.baload {a : Addr} {vs : List Value} {j : Int32} {v : Value} (A : Ax Z h a .byte vs) (h0 : ¬ j < 0) (hv : vs[j.toNatClampNeg]? = some v) (hd : decode bytes pc = .ok (.baload, 1)) (hp : pc + 1 = pc') (k : Rn w Z EL own nm bytes ml ret R hS ws Q os cells slots h pc' Ls (v :: rest)) : Rn w Z EL own nm bytes ml ret R hS ws Q os cells slots h pc Ls (.int j :: .ref a :: rest) := by
  obtain ⟨cl, Ar, r1, -⟩ := A
  obtain ⟨q1, q2⟩ := Ax.at cl r1 h0 hv
  exact k.pure fun p l e s m args below meth c T locs hx hby X hZ hown eT t r => by subst hp; exact X.baloadBytes hx (j := j) (v := v) (by rw [eT]; exact Ar.1) (State.isArrayOf_alike hZ.alike Ar.2.1) Ar.2.2 q1 q2 (g := mkF m pc Ls (.int j :: .ref a :: rest)) rfl rfl (hb hby hd) t r
theorem Rn.daload {a : Addr} {vs : List Value} {j : Int32} {v : Value} (A : Ax Z h a .double vs) (h0 : ¬ j < 0) (hv : vs[j.toNatClampNeg]? = some v) (hd : decode bytes pc = .ok (.daload, 1)) (hp : pc + 1 = pc') (k : Rn w Z EL own nm bytes ml ret R hS ws Q os cells slots h pc' Ls (v :: rest)) : Rn w Z EL own nm bytes ml ret R hS ws Q os cells slots h pc Ls (.int j :: .ref a :: rest) := by
  obtain ⟨cl, Ar, r1, -⟩ := A
  obtain ⟨q1, q2⟩ := Ax.at cl r1 h0 hv
  exact k.pure fun p l e s m args below meth c T locs hx hby X hZ hown eT t r => by subst hp; exact X.daload hx (j := j) (v := v) (by rw [eT]; exact Ar.1) (State.isArrayOf_alike hZ.alike Ar.2.1) Ar.2.2 q1 q2 (g := mkF m pc Ls (.int j :: .ref a :: rest)) rfl rfl (hb hby hd) t r
theorem Rn.saload {a : Addr} {vs : List Value} {j : Int32} {v : Value} (A : Ax Z h a .short vs) (h0 : ¬ j < 0) (hv : vs[j.toNatClampNeg]? = some v) (hd : decode bytes pc = .ok (.saload, 1)) (hp : pc + 1 = pc') (k : Rn w Z EL own nm bytes ml ret R hS ws Q os cells slots h pc' Ls (v :: rest)) : Rn w Z EL own nm bytes ml ret R hS ws Q os cells slots h pc Ls (.int j :: .ref a :: rest) := by
  obtain ⟨cl, Ar, r1, -⟩ := A
  obtain ⟨q1, q2⟩ := Ax.at cl r1 h0 hv
  exact k.pure fun p l e s m args below meth c T locs hx hby X hZ hown eT t r => by subst hp; exact X.saload hx (j := j) (v := v) (by rw [eT]; exact Ar.1) (State.isArrayOf_alike hZ.alike Ar.2.1) Ar.2.2 q1 q2 (g := mkF m pc Ls (.int j :: .ref a :: rest)) rfl rfl (hb hby hd) t r
theorem Rn.aaload {a : Addr} {ty : FieldType} {vs : List Value} {j : Int32} {v : Value} (A : Ax Z h a ty vs) (ht : ty.isReference = true) (h0 : ¬ j < 0) (hv : vs[j.toNatClampNeg]? = some v) (hd : decode bytes pc = .ok (.aaload, 1)) (hp : pc + 1 = pc') (k : Rn w Z EL own nm bytes ml ret R hS ws Q os cells slots h pc' Ls (v :: rest)) : Rn w Z EL own nm bytes ml ret R hS ws Q os cells slots h pc Ls (.int j :: .ref a :: rest) := by
  obtain ⟨cl, Ar, r1, -⟩ := A
  obtain ⟨q1, q2⟩ := Ax.at cl r1 h0 hv
  exact k.pure fun p l e s m args below meth c T locs hx hby X hZ hown eT t r => by subst hp; exact X.aaload hx (j := j) (v := v) (by rw [eT]; exact Ar.1) (State.isArrayOf_alike hZ.alike Ar.2.1) ht Ar.2.2 q1 q2 (g := mkF m pc Ls (.int j :: .ref a :: rest)) rfl rfl (hb hby hd) t r
theorem Rn.arraylength {a : Addr} {ty : FieldType} {vs : List Value} {n : Int32} (A : Ax Z h a ty vs) (hn : vs.length.toInt32 = n) (hd : decode bytes pc = .ok (.arraylength, 1)) (hp : pc + 1 = pc') (k : Rn w Z EL own nm bytes ml ret R hS ws Q os cells slots h pc' Ls (.int n :: rest)) : Rn w Z EL own nm bytes ml ret R hS ws Q os cells slots h pc Ls (.ref a :: rest) := by
  obtain ⟨cl, Ar, r1, -⟩ := A
  have e1 : cl.slots.size.toInt32 = n := by rw [r1, ← hn]; simp
  exact k.pure fun p l e s m args below meth c T locs hx hby X hZ hown eT t r => by subst hp; exact X.arraylength hx (by rw [eT]; exact Ar.1) (State.isArrayOf_alike hZ.alike Ar.2.1) (g := mkF m pc Ls (.ref a :: rest)) rfl rfl (hb hby hd) t (by rw [e1]; exact r)
theorem Rn.iastore {a : Addr} {vs : List Value} {j : Int32} {x : Int32} {v : Value} (A : Ax Z h a .int vs) (h0 : ¬ j < 0) (hi : j.toNatClampNeg < vs.length) (hv : (.int x : Value) = v) (q : a ∈ ws ∨ hS.size ≤ a) (sf : Sf w Z EL os h a) (hd : decode bytes pc = .ok (.iastore, 1)) (hp : pc + 1 = pc') (k : ∀ h', Wr h h' a j.toNatClampNeg v → Ax Z h' a .int (vs.set j.toNatClampNeg v) → Rn w Z EL own nm bytes ml ret R hS ws Q os cells slots h' pc' Ls rest) : Rn w Z EL own nm bytes ml ret R hS ws Q os cells slots h pc Ls (.int x :: .int j :: .ref a :: rest) := by
  obtain ⟨cl, Ar, r1, -⟩ := id A
  have q1 : ¬ (j < 0 ∨ cl.slots.size ≤ j.toNatClampNeg) := fun z => z.elim h0 fun z => by simp [r1] at z; omega
  subst hv
  exact Rn.wrote q sf (fun h' W => k h' W (A.set W)) fun p l e s m args below meth c T locs hx hby hnm X hZ hown eT => by subst hp; exact stI X hx hZ eT Ar q1 (g := mkF m pc Ls (.int x :: .int j :: .ref a :: rest)) rfl rfl (hb hby hd)
theorem Rn.lastore {a : Addr} {vs : List Value} {j : Int32} {x : Int64} {v : Value} (A : Ax Z h a .long vs) (h0 : ¬ j < 0) (hi : j.toNatClampNeg < vs.length) (hv : (.long x : Value) = v) (q : a ∈ ws ∨ hS.size ≤ a) (sf : Sf w Z EL os h a) (hd : decode bytes pc = .ok (.lastore, 1)) (hp : pc + 1 = pc') (k : ∀ h', Wr h h' a j.toNatClampNeg v → Ax Z h' a .long (vs.set j.toNatClampNeg v) → Rn w Z EL own nm bytes ml ret R hS ws Q os cells slots h' pc' Ls rest) : Rn w Z EL own nm bytes ml ret R hS ws Q os cells slots h pc Ls (.long x :: .int j :: .ref a :: rest) := by
  obtain ⟨cl, Ar, r1, -⟩ := id A
  have q1 : ¬ (j < 0 ∨ cl.slots.size ≤ j.toNatClampNeg) := fun z => z.elim h0 fun z => by simp [r1] at z; omega
  subst hv
  exact Rn.wrote q sf (fun h' W => k h' W (A.set W)) fun p l e s m args below meth c T locs hx hby hnm X hZ hown eT => by subst hp; exact stJ X hx hZ eT Ar q1 (g := mkF m pc Ls (.long x :: .int j :: .ref a :: rest)) rfl rfl (hb hby hd)
theorem Rn.dastore {a : Addr} {vs : List Value} {j : Int32} {x : UInt64} {v : Value} (A : Ax Z h a .double vs) (h0 : ¬ j < 0) (hi : j.toNatClampNeg < vs.length) (hv : (.double x : Value) = v) (q : a ∈ ws ∨ hS.size ≤ a) (sf : Sf w Z EL os h a) (hd : decode bytes pc = .ok (.dastore, 1)) (hp : pc + 1 = pc') (k : ∀ h', Wr h h' a j.toNatClampNeg v → Ax Z h' a .double (vs.set j.toNatClampNeg v) → Rn w Z EL own nm bytes ml ret R hS ws Q os cells slots h' pc' Ls rest) : Rn w Z EL own nm bytes ml ret R hS ws Q os cells slots h pc Ls (.double x :: .int j :: .ref a :: rest) := by
  obtain ⟨cl, Ar, r1, -⟩ := id A
  have q1 : ¬ (j < 0 ∨ cl.slots.size ≤ j.toNatClampNeg) := fun z => z.elim h0 fun z => by simp [r1] at z; omega
  subst hv
  exact Rn.wrote q sf (fun h' W => k h' W (A.set W)) fun p l e s m args below meth c T locs hx hby hnm X hZ hown eT => by subst hp; exact stD X hx hZ eT Ar q1 (g := mkF m pc Ls (.double x :: .int j :: .ref a :: rest)) rfl rfl (hb hby hd)
theorem Rn.castore {a : Addr} {vs : List Value} {j : Int32} {x : Int32} {v : Value} (A : Ax Z h a .char vs) (h0 : ¬ j < 0) (hi : j.toNatClampNeg < vs.length) (hv : (.int (nar .char x) : Value) = v) (q : a ∈ ws ∨ hS.size ≤ a) (sf : Sf w Z EL os h a) (hd : decode bytes pc = .ok (.castore, 1)) (hp : pc + 1 = pc') (k : ∀ h', Wr h h' a j.toNatClampNeg v → Ax Z h' a .char (vs.set j.toNatClampNeg v) → Rn w Z EL own nm bytes ml ret R hS ws Q os cells slots h' pc' Ls rest) : Rn w Z EL own nm bytes ml ret R hS ws Q os cells slots h pc Ls (.int x :: .int j :: .ref a :: rest) := by
  obtain ⟨cl, Ar, r1, -⟩ := id A
  have q1 : ¬ (j < 0 ∨ cl.slots.size ≤ j.toNatClampNeg) := fun z => z.elim h0 fun z => by simp [r1] at z; omega
  subst hv
  exact Rn.wrote q sf (fun h' W => k h' W (A.set W)) fun p l e s m args below meth c T locs hx hby hnm X hZ hown eT => by subst hp; exact stC X hx hZ eT Ar q1 (g := mkF m pc Ls (.int x :: .int j :: .ref a :: rest)) rfl rfl (hb hby hd)
theorem Rn.bastore {a : Addr} {vs : List Value} {j : Int32} {x : Int32} {v : Value} (A : Ax Z h a .byte vs) (h0 : ¬ j < 0) (hi : j.toNatClampNeg < vs.length) (hv : (.int (nar .byte x) : Value) = v) (q : a ∈ ws ∨ hS.size ≤ a) (sf : Sf w Z EL os h a) (hd : decode bytes pc = .ok (.bastore, 1)) (hp : pc + 1 = pc') (k : ∀ h', Wr h h' a j.toNatClampNeg v → Ax Z h' a .byte (vs.set j.toNatClampNeg v) → Rn w Z EL own nm bytes ml ret R hS ws Q os cells slots h' pc' Ls rest) : Rn w Z EL own nm bytes ml ret R hS ws Q os cells slots h pc Ls (.int x :: .int j :: .ref a :: rest) := by
  obtain ⟨cl, Ar, r1, -⟩ := id A
  have q1 : ¬ (j < 0 ∨ cl.slots.size ≤ j.toNatClampNeg) := fun z => z.elim h0 fun z => by simp [r1] at z; omega
  subst hv
  exact Rn.wrote q sf (fun h' W => k h' W (A.set W)) fun p l e s m args below meth c T locs hx hby hnm X hZ hown eT => by subst hp; exact stB X hx hZ eT Ar q1 (g := mkF m pc Ls (.int x :: .int j :: .ref a :: rest)) rfl rfl (hb hby hd)
theorem Rn.aastore {a : Addr} {ty : FieldType} {vs : List Value} {j : Int32} {v : Value} (A : Ax Z h a ty vs) (ht : ty.isReference = true) (F : Sto Z h a v) (h0 : ¬ j < 0) (hi : j.toNatClampNeg < vs.length) (hv : v.isRef = true) (q : a ∈ ws ∨ hS.size ≤ a) (sf : Sf w Z EL os h a) (hd : decode bytes pc = .ok (.aastore, 1)) (hp : pc + 1 = pc') (k : ∀ h', Wr h h' a j.toNatClampNeg v → Ax Z h' a ty (vs.set j.toNatClampNeg v) → Rn w Z EL own nm bytes ml ret R hS ws Q os cells slots h' pc' Ls rest) : Rn w Z EL own nm bytes ml ret R hS ws Q os cells slots h pc Ls (v :: .int j :: .ref a :: rest) := by
  obtain ⟨cl, Ar, r1, -⟩ := id A
  have q1 : ¬ (j < 0 ∨ cl.slots.size ≤ j.toNatClampNeg) := fun z => z.elim h0 fun z => by simp [r1] at z; omega
  exact Rn.wrote q sf (fun h' W => k h' W (A.set W)) fun p l e s m args below meth c T locs hx hby hnm X hZ hown eT => by subst hp; exact stR X hx hZ eT Ar q1 ht F (g := mkF m pc Ls (v :: .int j :: .ref a :: rest)) rfl rfl (hb hby hd)
end Steps
section Objs
variable {w : Bool} {Z : State} {EL : List (String × Nat)} {own nm : String} {bytes : ByteArray} {ml : Nat} {ret : Option FieldType} {R : Room} {hS : Heap} {ws : List Addr} {Q : Option Value → Heap → Prop} {os : List Addr} {cells slots : Nat} {h h' : Heap} {pc pc' : Nat} {Ls Ls' : Array Slot} {rest : List Value} {a0 : Array Value}
theorem Rn.getF {ix : Nat} {R0 O n d host : String} {a : Addr} {v : Value} (wd : (Jvm.Cond.fieldLink own ix R0 n d).before a0 Z = true ∨ (Jvm.Cond.fieldLinkNest own ix R0 n d host).before a0 Z = true) (via : Via Z R0 O n d) (F : Fld Z h a O n d v) (hd : decode bytes pc = .ok (.getfield ix, 3)) (hp : pc + 3 = pc') (k : Rn w Z EL own nm bytes ml ret R hS ws Q os cells slots h pc' Ls (v :: rest)) : Rn w Z EL own nm bytes ml ret R hS ws Q os cells slots h pc Ls (.ref a :: rest) :=
  k.note fun p l e s m args below meth c T locs hx hby hml X hZ hown eT => by subst hp; exact Jvm.RoadKit.getF X hx hZ hown wd via eT F (g := mkF m pc Ls (.ref a :: rest)) rfl rfl (hb hby hd)
theorem Rn.getS {ix : Nat} {R0 O n d : String} {v : Value} (wd : (Jvm.Cond.fieldLink own ix R0 n d).before a0 Z = true) (via : Via Z R0 O n d) (F : Sta Z h O n d v) (hd : decode bytes pc = .ok (.getstatic ix, 3)) (hp : pc + 3 = pc') (k : Rn w Z EL own nm bytes ml ret R hS ws Q os cells slots h pc' Ls (v :: rest)) : Rn w Z EL own nm bytes ml ret R hS ws Q os cells slots h pc Ls rest :=
  k.note fun p l e s m args below meth c T locs hx hby hml X hZ hown eT => by subst hp; exact Jvm.RoadKit.getS X hx hZ hown (host := "") wd via eT F (g := mkF m pc Ls rest) rfl (hb hby hd)
theorem Rn.putF {ix kk : Nat} {R0 O n d C : String} {ty : FieldType} {a : Addr} {v old : Value} (wd : (Jvm.Cond.fieldLink own ix R0 n d).before a0 Z = true) (via : Via Z R0 O n d) (F : Fld Z h a O n d old) (E : Exa Z h a C) (L : (Jvm.Cond.lays C O n d).before a0 Z = true ∨ ((Jvm.Cond.laysFinal C O n d).before a0 Z = true ∧ own = O ∧ nm = "<init>")) (wi : (Jvm.Cond.instantiable C kk).before a0 Z = true)
    (hty : parseFieldDescriptor d = some ty) (hn : narrow ty v = v) (hf : fits ty v = true) (q : a ∈ ws ∨ hS.size ≤ a) (sf : Sf w Z EL os h a) (hd : decode bytes pc = .ok (.putfield ix, 3)) (hp : pc + 3 = pc') (k : ∀ h', Wr h h' a (Jvm.RoadKit.slotOf Z O n d) v → Rn w Z EL own nm bytes ml ret R hS ws Q os cells slots h' pc' Ls rest) : Rn w Z EL own nm bytes ml ret R hS ws Q os cells slots h pc Ls (v :: .ref a :: rest) :=
  Rn.wrote q sf k fun p l e s m args below meth c T locs hx hby hnm X hZ hown eT => by
    subst hp
    exact Jvm.RoadKit.putF X hx hZ hown (host := "") (Or.inl wd) via eT F E (L.imp id fun z => ⟨z.1, z.2.1, hnm.trans z.2.2⟩) wi hty hn hf (g := mkF m pc Ls (v :: .ref a :: rest)) rfl rfl (hb hby hd)
theorem Rn.newO {ix n : Nat} {C : String} (w1 : (Jvm.Cond.classLink own ix C).before a0 Z = true) (w2 : (Jvm.Cond.instantiable C n).before a0 Z = true) (w3 : (Jvm.Cond.initialized C).before a0 Z = true) (hd : decode bytes pc = .ok (.new ix, 3)) (hc : cells + 1 ≤ R.cells) (hs : slots + n ≤ R.slots) (hp : pc + 3 = pc')
    (k : ∀ h' a, a = h.size → hS.size ≤ a → Ext h h' → (Exa Z h' a C ∧ (∀ {O nm d : String} {ty : FieldType}, Laid Z a0 C O nm d → parseFieldDescriptor d = some ty → Fld Z h' a O nm d (defaultValue ty)) ∧ (∃ cell : Cell, h'[a]? = some cell ∧ cell.vm = .none ∧ cell.monitor = {})) → Rn w Z EL own nm bytes ml ret R hS ws Q (a :: os) (cells + 1) (slots + n) h' pc' Ls (.ref a :: rest)) : Rn w Z EL own nm bytes ml ret R hS ws Q os cells slots h pc Ls rest :=
  Rn.made (G := fun h' a => Exa Z h' a C ∧ (∀ {O nm d : String} {ty : FieldType}, Laid Z a0 C O nm d → parseFieldDescriptor d = some ty → Fld Z h' a O nm d (defaultValue ty)) ∧ (∃ cell : Cell, h'[a]? = some cell ∧ cell.vm = .none ∧ cell.monitor = {})) (st' := fun a => .ref a :: rest) (st := fun _ => rest) k (fun h' g => g.1.lt) fun p l e s m args below meth c T locs hx hby X hZ hown eT => by
    subst hp
    obtain ⟨T', h', X', e', E, A, D, U, st⟩ := Jvm.RoadKit.newO X hx hZ hown w1 w2 w3 eT (g := mkF m pc Ls rest) rfl (hb hby hd) hc hs
    exact ⟨T', h', X', e', E, ⟨A, D, U⟩, st⟩
theorem Rn.newP {aty : ArrayType} {n : Int32} {cap : Nat} {ty : FieldType} {ad : String} (wd : (Jvm.Cond.arrayClass ty).before a0 Z = true) (hty : newarray.typeOf aty = ty) (had : "[" ++ ty.toString = ad) (hd : decode bytes pc = .ok (.newarray aty, 2)) (hn : ¬ n < 0) (hcap : n.toNatClampNeg ≤ cap) (hb8 : cap * 8 ≤ 536870912) (hc : cells + 1 ≤ R.cells) (hs : slots + cap ≤ R.slots) (hp : pc + 2 = pc')
    (k : ∀ h' a, a = h.size → hS.size ≤ a → Ext h h' → (Ax Z h' a ty (List.replicate n.toNatClampNeg (defaultValue ty)) ∧ Exa Z h' a ad) → Rn w Z EL own nm bytes ml ret R hS ws Q (a :: os) (cells + 1) (slots + cap) h' pc' Ls (.ref a :: rest)) : Rn w Z EL own nm bytes ml ret R hS ws Q os cells slots h pc Ls (.int n :: rest) := by
  subst hty
  refine Rn.made (G := fun h' a => Ax Z h' a (newarray.typeOf aty) (List.replicate n.toNatClampNeg (defaultValue (newarray.typeOf aty))) ∧ Exa Z h' a ad) (st' := fun a => .ref a :: rest) (st := fun _ => rest) k (fun h' g => g.1.lt) fun p l e s m args below meth c T locs hx hby X hZ hown eT => ?_
  subst hp
  obtain ⟨T', h', cA, X', e', E, A, B, st⟩ := Jvm.RoadKit.newPE X hx hZ wd eT (g := mkF m pc Ls (.int n :: rest)) rfl (hb hby hd) rfl hn hcap hb8 hc hs had
  exact ⟨T', h', X', e', E, ⟨Ax.new A hn, B⟩, st⟩
theorem Rn.castY {ix : Nat} {K : String} {a : Addr} (wd : (Jvm.Cond.classLink own ix K).before a0 Z = true) (F : Ins Z h a K true) (hd : decode bytes pc = .ok (.checkcast ix, 3)) (hp : pc + 3 = pc') (k : Rn w Z EL own nm bytes ml ret R hS ws Q os cells slots h pc' Ls (.ref a :: rest)) : Rn w Z EL own nm bytes ml ret R hS ws Q os cells slots h pc Ls (.ref a :: rest) :=
  k.note fun p l e s m args below meth c T locs hx hby hml X hZ hown eT => by subst hp; exact Jvm.RoadKit.castY X hx hZ hown wd eT F (g := mkF m pc Ls (.ref a :: rest)) rfl rfl (hb hby hd)
theorem Rn.instY {ix : Nat} {K : String} {a : Addr} (wd : (Jvm.Cond.classLink own ix K).before a0 Z = true) (F : Ins Z h a K true) (hd : decode bytes pc = .ok (.instanceof ix, 3)) (hp : pc + 3 = pc') (k : Rn w Z EL own nm bytes ml ret R hS ws Q os cells slots h pc' Ls (.int 1 :: rest)) : Rn w Z EL own nm bytes ml ret R hS ws Q os cells slots h pc Ls (.ref a :: rest) :=
  k.note fun p l e s m args below meth c T locs hx hby hml X hZ hown eT => by subst hp; exact Jvm.RoadKit.instY X hx hZ hown wd eT F (g := mkF m pc Ls (.ref a :: rest)) rfl rfl (hb hby hd)
theorem Rn.instNo {ix : Nat} {K C : String} {a : Addr} (wd : (Jvm.Cond.classLink own ix K).before a0 Z = true) (E : Exa Z h a C) (F : ∃ c t, Z.vm.findClass C = some c ∧ Z.vm.findClass K = some t ∧ Z.vm.assignable c t = false) (hd : decode bytes pc = .ok (.instanceof ix, 3)) (hp : pc + 3 = pc') (k : Rn w Z EL own nm bytes ml ret R hS ws Q os cells slots h pc' Ls (.int 0 :: rest)) : Rn w Z EL own nm bytes ml ret R hS ws Q os cells slots h pc Ls (.ref a :: rest) :=
  k.note fun p l e s m args below meth c T locs hx hby hml X hZ hown eT => by subst hp; exact Jvm.RoadKit.instNo X hx hZ hown wd eT E F (g := mkF m pc Ls (.ref a :: rest)) rfl rfl (hb hby hd)
theorem Rn.initO {ix : Nat} {a : Addr} (w1 : (Jvm.Cond.methodLink own ix Lib.objectInit).before a0 Z = true) (w2 : (Jvm.Cond.instanceMethod Lib.objectInit).before a0 Z = true) (w3 : (Jvm.Cond.code Lib.objectInit ⟨#[0xb1]⟩ 1 none).before a0 Z = true) (hsz : Ls.size = ml) (hd : decode bytes pc = .ok (.invokespecial ix, 3)) (hf : 1 ≤ R.frames) (hl : (rest.map fun v => v.category).sum + 12 ≤ R.locals) (hp : pc + 3 = pc') (k : Rn w Z EL own nm bytes ml ret R hS ws Q os cells slots h pc' Ls rest) : Rn w Z EL own nm bytes ml ret R hS ws Q os cells slots h pc Ls (.ref a :: rest) :=
  k.note fun p l e s m args below meth c T locs hx hby hml X hZ hown eT => by subst hp; exact Jvm.RoadKit.initO X hx hZ hown w1 w2 w3 eT (g := mkF m pc Ls (.ref a :: rest)) rfl (hsz.trans hml.symm) rfl (hb hby hd) hf (W := (rest.map fun v => v.category).sum) (by show 2 * 0 + _ ≤ _; omega) hl
/-! ### contracts -/
/-- the contract of a method, in a walk that loads no literal: called with as over the heap h it returns as Q says and writes nothing but cells at ws and cells of its own -/
def Ct (Z : State) (y : MethodName) (bytes : ByteArray) (ml : Nat) (ret : Option FieldType) (rm : Room) (as : Array Value) (h : Heap) (ws : List Addr) (Q : Option Value → Heap → Prop) : Prop :=
  Ext Z.heap h → (∀ x ∈ ws, Z.heap.size ≤ x) → ∀ l, MetFree l y (head1 [Jvm.Cond.code y bytes ml ret] rm) (fun a U => a = as ∧ Z.Warmed39 U.vm ∧ U.heap = h) (fun _ _ _ _ _ => True) (fun _ U o U' => ∃ v L, o = .returned v ∧ (Fr Z.heap.size L ∧ Keep h U'.heap ws ∧ Q v U'.heap) ∧ FrameEnd U o U' L rm.cells rm.slots)
theorem met_of {wsT : List Jvm.Cond} {cls d : String} {as : Array Value} (pn : plainName cls = true) (ef : ∀ m, entryFrame m as ml = mkF m 0 Ls []) (hO : Ext Z.heap h) (hW : ∀ x ∈ ws, Z.heap.size ≤ x) (l : Launch) (k : Rn false Z [] cls nm bytes ml ret R h ws Q [] 0 0 h 0 Ls []) :
    MetFree l ⟨cls, nm, d⟩ (head1 (Jvm.Cond.code ⟨cls, nm, d⟩ bytes ml ret :: wsT) R) (fun a U => a = as ∧ Z.Warmed39 U.vm ∧ U.heap = h) (fun _ _ _ _ _ => True) (fun _ U o U' => ∃ v L, o = .returned v ∧ (Fr Z.heap.size L ∧ Keep h U'.heap ws ∧ Q v U'.heap) ∧ FrameEnd U o U' L R.cells R.slots) := by
  refine MetFree.of_bodySF (plainFor_of_name pn) hisR ?_
  intro p e s m args below meth c s₁ Bd hml0 hP hK
  obtain ⟨rfl, hZ, hh⟩ := hP
  have g := k p l e s s.vm m args below meth c s₁ [] ⟨Bd.exec, Bd.bytes, hml0, hZ, findClass_of_methodNamed Bd.named, (name_of_methodNamed Bd.named Bd.method).1, Bd.returns, Bd.notSynchronized⟩ (Stand.of_body Bd) rfl (Fr.nil _) (Keep.refl _ _) ⟨hO, hW⟩ (by rw [← hh, Bd.state]; rfl)
  obtain ⟨s₂, o, h1, h2, h3, h4⟩ := g
  exact ⟨s₂, o, castTop (ef m) h1, h2, h3, h4⟩
theorem Ct.intro {cls d : String} {as : Array Value} (pn : plainName cls = true) (ef : ∀ m, entryFrame m as ml = mkF m 0 Ls []) (k : Rn false Z [] cls nm bytes ml ret R h ws Q [] 0 0 h 0 Ls []) : Ct Z ⟨cls, nm, d⟩ bytes ml ret R as h ws Q :=
  fun hO hW l => met_of pn ef hO hW l k
theorem Ct.weaken {y : MethodName} {as : Array Value} {Q' : Option Value → Heap → Prop} (C : Ct Z y bytes ml ret R as h ws Q) (q : ∀ v h', Keep h h' ws → Q v h' → Q' v h') : Ct Z y bytes ml ret R as h ws Q' := by
  intro hO hW l p e ha hc hk s m args below hf happ hP hK
  obtain ⟨n, o, h1, h2, h3, v, L, h4, ⟨h5, h6, h7⟩, h8⟩ := C hO hW l p e ha hc hk s m args below hf happ hP hK
  exact ⟨n, o, h1, h2, h3, v, L, h4, ⟨h5, h6, q v _ h6 h7⟩, h8⟩
/-- behind a call by a plain contract -/
theorem Rn.called {st : List Value} {ws' : List Addr} {Q' : Option Value → Heap → Prop} {rm : Room} (hws : ∀ x ∈ ws', x ∈ ws ∨ hS.size ≤ x) (hsf : ∀ x ∈ ws', Sf w Z EL os h x)
    (k : ∀ v h', Keep h h' ws' → Q' v h' → Rn w Z EL own nm bytes ml ret R hS ws Q os (cells + rm.cells) (slots + rm.slots) h' pc' Ls (v.toList ++ rest))
    (f : ∀ (p : Program) (l : Launch) (e : Env) (s : State) (m : MethodId) (args : Array Value) (below : List Frame) (meth : Method) (c : Code) (T : State) (locs : List Loc), p.tables.exec = Jvm.exec → c.code = bytes → c.maxLocals = ml → Stand p l e R s m args below meth c T locs cells slots → Z.Warmed39 s.vm → s.vm.findClass own = some m.cls → T.heap = h → Ext Z.heap h → (∀ x ∈ ws', Z.heap.size ≤ x) →
      ∃ (v : Option Value) (B : Pt), Stand p l e R s m args below meth c B.U B.locs B.cells B.slots ∧ (∃ L, (Fr Z.heap.size L ∧ Keep h B.U.heap ws' ∧ Q' v B.U.heap) ∧ B.locs = locs ++ L ∧ B.cells = cells + rm.cells ∧ B.slots = slots + rm.slots) ∧ ∀ t, Steps p.tables e below (B.U.setTop (mkF m pc' Ls (v.toList ++ rest))) t → Steps p.tables e below (T.setTop (mkF m pc Ls st)) t) :
    Rn w Z EL own nm bytes ml ret R hS ws Q os cells slots h pc Ls st := by
  intro p l e s vm0 m args below meth c T locs ok X sn fr K O eT
  have X0 : Old Z Z.heap.size h := Old.keep (h := hS) ⟨rfl, O.1⟩ K O.2
  obtain ⟨v, ⟨U, L', c', s'⟩, X', ⟨L, ⟨f1, K', q'⟩, e1, e2, e3⟩, stp⟩ := f p l e _ m args below meth c T locs ok.1 ok.2.1 ok.2.2.1 X ok.2.2.2.1 ok.2.2.2.2.1 eT X0.2 (fun x hx => ge_of O (hws x hx))
  dsimp only [Pt.U, Pt.locs, Pt.cells, Pt.slots] at X' K' q' e1 e2 e3 stp
  subst e1 e2 e3
  exact (k v U.heap K' q' p l e s vm0 m args below meth c U _ ok X' (sn.keep ok.2.2.2.1 K' hsf) (fr.app f1) (K.trans K' hws) O rfl).pre stp
theorem Rn.callS {ix : Nat} {y : MethodName} {yb : ByteArray} {yl : Nat} {yr : Option FieldType} {rm : Room} {as : Array Value} {ws' : List Addr} {Q' : Option Value → Heap → Prop} {argsL : List Value} {st : List Value}
    (C : Ct Z y yb yl yr rm as h ws' Q') (w1 : (Jvm.Cond.methodLink own ix y).before a0 Z = true) (w2 : (Jvm.Cond.static y).before a0 Z = true) (w3 : (Jvm.Cond.initialized y.cls).before a0 Z = true) (w4 : (Jvm.Cond.code y yb yl yr).before a0 Z = true) (hy : y.cls ≠ "java/lang/invoke/MethodHandle" ∧ y.cls ≠ "java/lang/invoke/VarHandle")
    (hst : st = argsL.reverse ++ rest) (has : argsL.toArray = as) (hlen : ∀ sig, parseMethodDescriptor y.desc = some sig → argsL.length = sig.parameters.length) (hsz : Ls.size = ml) (hd : decode bytes pc = .ok (.invokestatic ix, 3)) (hp : pc + 3 = pc')
    (hf : rm.frames + 1 ≤ R.frames) (hl : (rest.map fun v => v.category).sum + (yl + 11) + rm.locals ≤ R.locals) (hc : cells + rm.cells ≤ R.cells) (hs : slots + rm.slots ≤ R.slots) (hws : ∀ x ∈ ws', x ∈ ws ∨ hS.size ≤ x) (hsf : ∀ x ∈ ws', Sf w Z EL os h x)
    (k : ∀ v h', Keep h h' ws' → Q' v h' → Rn w Z EL own nm bytes ml ret R hS ws Q os (cells + rm.cells) (slots + rm.slots) h' pc' Ls (v.toList ++ rest)) : Rn w Z EL own nm bytes ml ret R hS ws Q os cells slots h pc Ls st := by
  refine Rn.called hws hsf k fun p l e s m args below meth c T locs hx hby hml X hZ hown eT hO hge => ?_
  obtain ⟨v, vm1, B, -, X', ⟨L, q⟩, stp⟩ := Jvm.LawKit.callS X hx (y := y) hown (mvT hZ w1) (mvT hZ w2) (mvT hZ w3) (mvT hZ w4) hy (backOf (W := (rest.map fun v => v.category).sum) (Q := fun v h2 L => Fr Z.heap.size L ∧ Keep h h2 ws' ∧ Q' v h2) (C hO hge l) hZ w4 w3 hf hl) (g := mkF m pc Ls st) rfl (hsz.trans hml.symm) (argsL := argsL) (rest := rest) hlen hst (by show 2 * 0 + _ ≤ _; omega) (hb hby hd) (fun _ _ => ⟨has, eT, hc, hs⟩)
  subst hp
  exact ⟨v, B, X', ⟨L, q⟩, stp⟩
theorem Rn.callI {ix : Nat} {y : MethodName} {yb : ByteArray} {yl : Nat} {rm : Room} {as : Array Value} {ws' : List Addr} {Q' : Option Value → Heap → Prop} {a : Addr} {argsL : List Value} {st : List Value}
    (C : Ct Z y yb yl none rm as h ws' Q') (hy1 : y.name = "<init>") (w1 : (Jvm.Cond.methodLink own ix y).before a0 Z = true) (w2 : (Jvm.Cond.instanceMethod y).before a0 Z = true) (w3 : (Jvm.Cond.initialized y.cls).before a0 Z = true) (w4 : (Jvm.Cond.code y yb yl none).before a0 Z = true) (hy : y.cls ≠ "java/lang/invoke/MethodHandle" ∧ y.cls ≠ "java/lang/invoke/VarHandle")
    (hst : st = argsL.reverse ++ .ref a :: rest) (has : (.ref a :: argsL).toArray = as) (hlen : ∀ sig, parseMethodDescriptor y.desc = some sig → argsL.length = sig.parameters.length) (hsz : Ls.size = ml) (hd : decode bytes pc = .ok (.invokespecial ix, 3)) (hp : pc + 3 = pc')
    (hf : rm.frames + 1 ≤ R.frames) (hl : (rest.map fun v => v.category).sum + (yl + 11) + rm.locals ≤ R.locals) (hc : cells + rm.cells ≤ R.cells) (hs : slots + rm.slots ≤ R.slots) (hws : ∀ x ∈ ws', x ∈ ws ∨ hS.size ≤ x) (hsf : ∀ x ∈ ws', Sf w Z EL os h x)
    (k : ∀ v h', Keep h h' ws' → Q' v h' → Rn w Z EL own nm bytes ml ret R hS ws Q os (cells + rm.cells) (slots + rm.slots) h' pc' Ls (v.toList ++ rest)) : Rn w Z EL own nm bytes ml ret R hS ws Q os cells slots h pc Ls st := by
  refine Rn.called hws hsf k fun p l e s m args below meth c T locs hx hby hml X hZ hown eT hO hge => ?_
  obtain ⟨v, vm1, B, -, X', ⟨L, q⟩, stp⟩ := X.specialBack hx (y := y) hy1 hown (mvT hZ w1) (mvT hZ w2) (mvT hZ w4) hy (backOf (W := (rest.map fun v => v.category).sum) (Q := fun v h2 L => Fr Z.heap.size L ∧ Keep h h2 ws' ∧ Q' v h2) (C hO hge l) hZ w4 w3 hf hl) (g := mkF m pc Ls st) rfl (hsz.trans hml.symm) (Steps.refl _) (a := a) (argsL := argsL) (rest := rest) hlen hst (by show 2 * 0 + _ ≤ _; omega) (hb hby hd) (fun _ _ => ⟨has, eT, hc, hs⟩)
  subst hp
  exact ⟨v, B, X', ⟨L, q⟩, fun t r => stp.trans r⟩
theorem Rn.callV {ix : Nat} {C0 : String} {y z : MethodName} {yb : ByteArray} {yl : Nat} {yr : Option FieldType} {rm : Room} {as : Array Value} {ws' : List Addr} {Q' : Option Value → Heap → Prop} {a : Addr} {argsL : List Value} {st : List Value}
    (C : Ct Z z yb yl yr rm as h ws' Q') (E : Exa Z h a C0) (w1 : (Jvm.Cond.methodLink own ix y).before a0 Z = true) (w2 : (Jvm.Cond.declares y).before a0 Z = true) (nf : ∀ s : State, Z.Warmed39 s.vm → NotFace s y) (w5 : (Jvm.Cond.selects C0 y z).before a0 Z = true) (w6 : (Jvm.Cond.instanceMethod z).before a0 Z = true) (w3 : (Jvm.Cond.initialized z.cls).before a0 Z = true) (w4 : (Jvm.Cond.code z yb yl yr).before a0 Z = true) (hy : y.cls ≠ "java/lang/invoke/MethodHandle" ∧ y.cls ≠ "java/lang/invoke/VarHandle")
    (hst : st = argsL.reverse ++ .ref a :: rest) (has : (.ref a :: argsL).toArray = as) (hlen : ∀ sig, parseMethodDescriptor y.desc = some sig → argsL.length = sig.parameters.length) (hsz : Ls.size = ml) (hd : decode bytes pc = .ok (.invokevirtual ix, 3)) (hp : pc + 3 = pc')
    (hf : rm.frames + 1 ≤ R.frames) (hl : (rest.map fun v => v.category).sum + (yl + 11) + rm.locals ≤ R.locals) (hc : cells + rm.cells ≤ R.cells) (hs : slots + rm.slots ≤ R.slots) (hws : ∀ x ∈ ws', x ∈ ws ∨ hS.size ≤ x) (hsf : ∀ x ∈ ws', Sf w Z EL os h x)
    (k : ∀ v h', Keep h h' ws' → Q' v h' → Rn w Z EL own nm bytes ml ret R hS ws Q os (cells + rm.cells) (slots + rm.slots) h' pc' Ls (v.toList ++ rest)) : Rn w Z EL own nm bytes ml ret R hS ws Q os cells slots h pc Ls st := by
  refine Rn.called hws hsf k fun p l e s m args below meth c T locs hx hby hml X hZ hown eT hO hge => ?_
  obtain ⟨cq, kq, qa, qb, qc⟩ := isOf hZ eT E
  obtain ⟨v, vm1, B, -, X', ⟨L, q⟩, stp⟩ := X.virtualBack hx (y := y) (z := z) hown (mvT hZ w1) (mvT hZ w2) (nf s hZ) (mvT hZ w5) (mvT hZ w6) hy (backOf (W := (rest.map fun v => v.category).sum) (Q := fun v h2 L => Fr Z.heap.size L ∧ Keep h h2 ws' ∧ Q' v h2) (C hO hge l) hZ w4 w3 hf hl) qa qc (g := mkF m pc Ls st) rfl (hsz.trans hml.symm) (Steps.refl _) (argsL := argsL) (rest := rest) hlen hst (by show 2 * 0 + _ ≤ _; omega) (hb hby hd) (fun _ _ => ⟨has, eT, hc, hs⟩)
  subst hp
  exact ⟨v, B, X', ⟨L, q⟩, fun t r => stp.trans r⟩
end Objs
section Objs2
variable {w : Bool} {Z : State} {EL : List (String × Nat)} {own nm : String} {bytes : ByteArray} {ml : Nat} {ret : Option FieldType} {R : Room} {hS : Heap} {ws : List Addr} {Q : Option Value → Heap → Prop} {os : List Addr} {cells slots : Nat} {h h' : Heap} {pc pc' : Nat} {Ls Ls' : Array Slot} {rest : List Value} {a0 : Array Value}
theorem Rn.callU {ix : Nat} {C0 owner : String} {y z : MethodName} {yb : ByteArray} {yl : Nat} {yr : Option FieldType} {rm : Room} {as : Array Value} {ws' : List Addr} {Q' : Option Value → Heap → Prop} {a : Addr} {argsL : List Value} {st : List Value}
    (C : Ct Z z yb yl yr rm as h ws' Q') (E : Exa Z h a C0) (w1 : (Jvm.Cond.methodLink own ix y).before a0 Z = true) (w2 : (Jvm.Cond.sameMethod y.cls owner y.name y.desc).before a0 Z = true) (w7 : (Jvm.Cond.declares ⟨owner, y.name, y.desc⟩).before a0 Z = true) (hy : owner ≠ "java/lang/invoke/MethodHandle" ∧ owner ≠ "java/lang/invoke/VarHandle") (w5 : (Jvm.Cond.selects C0 y z).before a0 Z = true) (w6 : (Jvm.Cond.instanceMethod z).before a0 Z = true) (w3 : (Jvm.Cond.initialized z.cls).before a0 Z = true) (w4 : (Jvm.Cond.code z yb yl yr).before a0 Z = true)
    (hst : st = argsL.reverse ++ .ref a :: rest) (has : (.ref a :: argsL).toArray = as) (hlen : ∀ sig, parseMethodDescriptor y.desc = some sig → argsL.length = sig.parameters.length) (hsz : Ls.size = ml) (hd : decode bytes pc = .ok (.invokevirtual ix, 3)) (hp : pc + 3 = pc')
    (hf : rm.frames + 1 ≤ R.frames) (hl : (rest.map fun v => v.category).sum + (yl + 11) + rm.locals ≤ R.locals) (hc : cells + rm.cells ≤ R.cells) (hs : slots + rm.slots ≤ R.slots) (hws : ∀ x ∈ ws', x ∈ ws ∨ hS.size ≤ x) (hsf : ∀ x ∈ ws', Sf w Z EL os h x)
    (k : ∀ v h', Keep h h' ws' → Q' v h' → Rn w Z EL own nm bytes ml ret R hS ws Q os (cells + rm.cells) (slots + rm.slots) h' pc' Ls (v.toList ++ rest)) : Rn w Z EL own nm bytes ml ret R hS ws Q os cells slots h pc Ls st := by
  refine Rn.called hws hsf k fun p l e s m args below meth c T locs hx hby hml X hZ hown eT hO hge => ?_
  obtain ⟨cq, kq, qa, qb, qc⟩ := isOf hZ eT E
  obtain ⟨v, vm1, B, -, X', ⟨L, q⟩, stp⟩ := X.virtualBackUp hx (x := y) (y := z) hown (mvT hZ w1) (mvT hZ w2) (mvT hZ w7) hy (mvT hZ w5) (mvT hZ w6) (backOf (W := (rest.map fun v => v.category).sum) (Q := fun v h2 L => Fr Z.heap.size L ∧ Keep h h2 ws' ∧ Q' v h2) (C hO hge l) hZ w4 w3 hf hl) qa qc (g := mkF m pc Ls st) rfl (hsz.trans hml.symm) (Steps.refl _) (argsL := argsL) (rest := rest) hlen hst (by show 2 * 0 + _ ≤ _; omega) (hb hby hd) (fun _ _ => ⟨has, eT, hc, hs⟩)
  subst hp
  exact ⟨v, B, X', ⟨L, q⟩, fun t r => stp.trans r⟩
end Objs2
section Objs3
variable {w : Bool} {Z : State} {EL : List (String × Nat)} {own nm : String} {bytes : ByteArray} {ml : Nat} {ret : Option FieldType} {R : Room} {hS : Heap} {ws : List Addr} {Q : Option Value → Heap → Prop} {os : List Addr} {cells slots : Nat} {h h' : Heap} {pc pc' : Nat} {Ls Ls' : Array Slot} {rest : List Value} {a0 : Array Value}
theorem Rn.instNull {ix : Nat} (hd : decode bytes pc = .ok (.instanceof ix, 3)) (hp : pc + 3 = pc') (k : Rn w Z EL own nm bytes ml ret R hS ws Q os cells slots h pc' Ls (.int 0 :: rest)) : Rn w Z EL own nm bytes ml ret R hS ws Q os cells slots h pc Ls (.null :: rest) :=
  k.pure fun p l e s m args below meth c T locs hx hby X hZ hown eT t r => by subst hp; exact Jvm.Stand.instanceofNull X hx (g := mkF m pc Ls (.null :: rest)) rfl rfl (hb hby hd) t r
theorem Rn.castNull {ix : Nat} (hd : decode bytes pc = .ok (.checkcast ix, 3)) (hp : pc + 3 = pc') (k : Rn w Z EL own nm bytes ml ret R hS ws Q os cells slots h pc' Ls (.null :: rest)) : Rn w Z EL own nm bytes ml ret R hS ws Q os cells slots h pc Ls (.null :: rest) :=
  k.pure fun p l e s m args below meth c T locs hx hby X hZ hown eT t r => by subst hp; exact Jvm.Stand.checkcastNull X hx (g := mkF m pc Ls (.null :: rest)) rfl rfl (hb hby hd) t r
theorem ni_of {C C0 : String} {y z : MethodName} (w5 : (Jvm.Cond.selects C y z).before a0 Z = true) (e : z.cls = C0) (s : State) (hZ : Z.Warmed39 s.vm) : ∃ c k, s.vm.findClass C0 = some c ∧ s.vm.classes[c]? = some k ∧ k.isInterface = false := by
  subst e
  obtain ⟨c2, r2, m2, -, -, q3, -, kP, hkP, hkPi⟩ := Cond.selects_spec (mvT (args := #[]) (s := s) hZ w5)
  exact ⟨_, kP, findClass_of_methodNamed q3, hkP, hkPi⟩
theorem Rn.callP {ix : Nat} {C0 : String} {y : MethodName} {yb : ByteArray} {yl : Nat} {yr : Option FieldType} {rm : Room} {as : Array Value} {ws' : List Addr} {Q' : Option Value → Heap → Prop} {a : Addr} {argsL : List Value} {st : List Value}
    (C : Ct Z y yb yl yr rm as h ws' Q') (E : Exa Z h a C0) (w1 : (Jvm.Cond.methodLink own ix y).before a0 Z = true) (w6 : (Jvm.Cond.instanceMethod y).before a0 Z = true) (w7 : (Jvm.Cond.privateMethod y).before a0 Z = true) (ni : ∀ s : State, Z.Warmed39 s.vm → ∃ c k, s.vm.findClass y.cls = some c ∧ s.vm.classes[c]? = some k ∧ k.isInterface = false) (w3 : (Jvm.Cond.initialized y.cls).before a0 Z = true) (w4 : (Jvm.Cond.code y yb yl yr).before a0 Z = true) (hy : y.cls ≠ "java/lang/invoke/MethodHandle" ∧ y.cls ≠ "java/lang/invoke/VarHandle")
    (hst : st = argsL.reverse ++ .ref a :: rest) (has : (.ref a :: argsL).toArray = as) (hlen : ∀ sig, parseMethodDescriptor y.desc = some sig → argsL.length = sig.parameters.length) (hsz : Ls.size = ml) (hd : decode bytes pc = .ok (.invokevirtual ix, 3)) (hp : pc + 3 = pc')
    (hf : rm.frames + 1 ≤ R.frames) (hl : (rest.map fun v => v.category).sum + (yl + 11) + rm.locals ≤ R.locals) (hc : cells + rm.cells ≤ R.cells) (hs : slots + rm.slots ≤ R.slots) (hws : ∀ x ∈ ws', x ∈ ws ∨ hS.size ≤ x) (hsf : ∀ x ∈ ws', Sf w Z EL os h x)
    (k : ∀ v h', Keep h h' ws' → Q' v h' → Rn w Z EL own nm bytes ml ret R hS ws Q os (cells + rm.cells) (slots + rm.slots) h' pc' Ls (v.toList ++ rest)) : Rn w Z EL own nm bytes ml ret R hS ws Q os cells slots h pc Ls st := by
  refine Rn.called hws hsf k fun p l e s m args below meth c T locs hx hby hml X hZ hown eT hO hge => ?_
  obtain ⟨cl, e1, e2⟩ := E.cell
  obtain ⟨c9, k9, z1, z2, z3⟩ := ni s hZ
  have hpv : s.PrivateAt y := Cond.privateMethod_at (mvP (args := #[]) hZ w7)
  have hin : (Jvm.Cond.instanceMethod y).before args s = true := mvT hZ w6
  have hsel : (Jvm.Cond.selects y.cls y y).before args s = true := selects_self_of_private z1 z2 z3 hpv hin hy
  obtain ⟨v, vm1, B, -, X', ⟨L, q⟩, stp⟩ := X.privateBack hx (y := y) hown (mvT hZ w1) hin hsel hpv (mvT hZ w4) hy (backOf (W := (rest.map fun v => v.category).sum) (Q := fun v h2 L => Fr Z.heap.size L ∧ Keep h h2 ws' ∧ Q' v h2) (C hO hge l) hZ w4 w3 hf hl) (g := mkF m pc Ls st) rfl (hsz.trans hml.symm) (Steps.refl _) (a := a) (cell := cl) (by rw [eT]; exact e1) e2 (argsL := argsL) (rest := rest) hlen hst (by show 2 * 0 + _ ≤ _; omega) (hb hby hd) (fun _ _ => ⟨has, eT, hc, hs⟩)
  subst hp
  exact ⟨v, B, X', ⟨L, q⟩, fun t r => stp.trans r⟩
/-- 'anewarray' of an array type -/
theorem Rn.newRA {ix : Nat} {n : Int32} {cap : Nat} {ty : FieldType} {C ad : String} (w1 : (Jvm.Cond.classLink own ix C).before a0 Z = true) (w2 : (Jvm.Cond.arrayOver (.array ty)).before a0 Z = true) (hC : (FieldType.array ty).toString = C) (had : "[" ++ C = ad) (hd : decode bytes pc = .ok (.anewarray ix, 3)) (hn : ¬ n < 0) (hcap : n.toNatClampNeg ≤ cap) (hb8 : cap * 8 ≤ 536870912) (hc : cells + 1 ≤ R.cells) (hs : slots + cap ≤ R.slots) (hp : pc + 3 = pc')
    (k : ∀ h' a, a = h.size → hS.size ≤ a → Ext h h' → (Ax Z h' a (.array ty) (List.replicate n.toNatClampNeg .null) ∧ Exa Z h' a ad ∧ ∀ y, ∀ {h2 : Heap} {vs : List Value}, Ax Z h2 a (.array ty) vs → (∃ cl, h2[a]? = some cl ∧ ∃ cl', h'[a]? = some cl' ∧ cl.cls = cl'.cls) → Ins Z h2 y C true → Sto Z h2 a (.ref y)) → Rn w Z EL own nm bytes ml ret R hS ws Q (a :: os) (cells + 1) (slots + cap) h' pc' Ls (.ref a :: rest)) : Rn w Z EL own nm bytes ml ret R hS ws Q os cells slots h pc Ls (.int n :: rest) := by
  refine Rn.made (G := fun h' a => Ax Z h' a (.array ty) (List.replicate n.toNatClampNeg .null) ∧ Exa Z h' a ad ∧ ∀ y, ∀ {h2 : Heap} {vs : List Value}, Ax Z h2 a (.array ty) vs → (∃ cl, h2[a]? = some cl ∧ ∃ cl', h'[a]? = some cl' ∧ cl.cls = cl'.cls) → Ins Z h2 y C true → Sto Z h2 a (.ref y)) (st' := fun a => .ref a :: rest) (st := fun _ => rest) k (fun h' g => g.1.lt) fun p l e s m args below meth c T locs hx hby X hZ hown eT => ?_
  subst hp
  obtain ⟨T', h', cA, X', e', E, A, B, O, st⟩ := Jvm.RoadKit.newRA X hx hZ hown hC w1 w2 eT (g := mkF m pc Ls (.int n :: rest)) rfl (hb hby hd) rfl hn hcap hb8 hc hs had
  refine ⟨T', h', X', e', E, ⟨Ax.new A hn, B, fun y h2 vs A2 ⟨cl, q1, cl', q2, q3⟩ I => ?_⟩, st⟩
  obtain ⟨c2, A3, -⟩ := A2
  cases q1.symm.trans A3.1
  cases q2.symm.trans A.1
  exact Sto.ofVA A3 q3 O I
/-- 'System.arraycopy' between arrays of one primitive type (or one array and itself) -/
theorem Rn.arraycopy {ix : Nat} {a b : Addr} {ty : FieldType} {vs vd vs' : List Value} {sp dp nn : Int32} (A : Ax Z h a ty vs) (B : Ax Z h b ty vd) (fa : ∀ x ∈ vs, fits ty x = true) (fb : ∀ x ∈ vd, fits ty x = true) (hty : refKind ty = false)
    (w1 : (Jvm.Cond.methodLink own ix Jvm.Stand.acN).before a0 Z = true) (w2 : (Jvm.Cond.native Jvm.Stand.acN).before a0 Z = true) (w3 : (Jvm.Cond.static Jvm.Stand.acN).before a0 Z = true) (w4 : (Jvm.Cond.initialized "java/lang/System").before a0 Z = true)
    (h1 : ¬ sp < 0) (h2 : ¬ dp < 0) (h3 : ¬ nn < 0) (h4 : sp.toNatClampNeg + nn.toNatClampNeg ≤ vs.length) (h5 : dp.toNatClampNeg + nn.toNatClampNeg ≤ vd.length)
    (hv : vd.take dp.toNatClampNeg ++ (List.range nn.toNatClampNeg).map (fun i => vs.getD (sp.toNatClampNeg + i) (.int 0)) ++ vd.drop (dp.toNatClampNeg + nn.toNatClampNeg) = vs')
    (hsz : Ls.size = ml) (hd : decode bytes pc = .ok (.invokestatic ix, 3)) (hf : 1 ≤ R.frames) (hl : (rest.map fun v => v.category).sum + 18 ≤ R.locals) (q : b ∈ ws ∨ hS.size ≤ b) (sf : Sf w Z EL os h b) (hp : pc + 3 = pc')
    (k : ∀ h', Keep h h' [b] → Ax Z h' b ty vs' → Rn w Z EL own nm bytes ml ret R hS ws Q os cells slots h' pc' Ls rest) : Rn w Z EL own nm bytes ml ret R hS ws Q os cells slots h pc Ls (.int nn :: .int dp :: .ref b :: .int sp :: .ref a :: rest) := by
  intro p l e s vm0 m args below meth c T locs ok X sn fr K O eT
  have hlen : ∀ {xs : List Value}, xs.length < 2 ^ 31 → (Int32.ofNat xs.length).toNatClampNeg = xs.length ∧ ¬ Int32.ofNat xs.length < 0 := fun {xs} hx => by
    have e1 : (Int32.ofNat xs.length).toInt = xs.length := Int32.toInt_ofNat_of_lt hx
    refine ⟨by simp [Int32.toNatClampNeg, e1], ?_⟩
    rw [Int32.lt_iff_toInt_lt, e1]; have : (0 : Int32).toInt = 0 := rfl; omega
  obtain ⟨la, na⟩ := hlen (xs := vs) (by obtain ⟨_, _, _, z⟩ := A; exact z)
  obtain ⟨lb, nb⟩ := hlen (xs := vd) (by obtain ⟨_, _, _, z⟩ := B; exact z)
  obtain ⟨ka, Aa⟩ := A.arv (d := .int 0) fa _ la na
  obtain ⟨kb, Bb⟩ := B.arv (d := .int 0) fb _ lb nb
  obtain ⟨T', h', L, X', e', N', K', A', stp⟩ := cpA X ok.1 ok.2.2.2.1 ok.2.2.2.2.1 w1 w2 w3 w4 eT Aa Bb (Or.inl ⟨rfl, hty⟩) h1 h2 h3 (by rw [la]; exact h4) (by rw [lb]; exact h5) rfl h5 fr (ge_of O q) (g := mkF m pc Ls (.int nn :: .int dp :: .ref b :: .int sp :: .ref a :: rest)) rfl (hsz.trans ok.2.2.1.symm) rfl (hb ok.2.1 hd) hf (W := (rest.map fun v => v.category).sum) (by show 2 * 0 + _ ≤ _; omega) hl
  have A2 : Ax Z h' b ty vs' := by
    rw [← hv]
    refine Ax.ofArv A' ?_
    simp only [List.length_append, List.length_take, List.length_map, List.length_range, List.length_drop]; omega
  subst hp
  exact (k h' K' A2 p l e s vm0 m args below meth c T' L ok X' (sn.keep ok.2.2.2.1 K' fun x hx => by cases List.mem_singleton.mp hx; exact sf) N' (K.trans K' fun x hx => by cases List.mem_singleton.mp hx; exact q) O e').pre stp
end Objs3
theorem ns_root {Z : State} {a0 : Array Value} {O K : String} {n : Nat} (w : (Jvm.Cond.noSuperclass O).before a0 Z = true) (wi : (Jvm.Cond.instantiable K n).before a0 Z = true) (hn : O ≠ K) : NS Z O K := by
  obtain ⟨c, k, h1, h2, h3, -, -⟩ := Cond.noSuperclass_spec w
  obtain ⟨t, kt, g1, -⟩ := Cond.instantiable_spec wi
  have ne := ids_ne h1 g1 hn
  refine ⟨c, t, h1, g1, fun fuel => ?_⟩
  cases fuel with
  | zero => rfl
  | succ f => simp [Vm.isSubclassAux, ne, h2, h3]
theorem ns_no {Z : State} {a0 : Array Value} {C S K : String} {n : Nat} (w : (Jvm.Cond.superclass C S).before a0 Z = true) (wi : (Jvm.Cond.instantiable K n).before a0 Z = true) (nn : NS Z C K) (hn : C ≠ K) : ∃ c t, Z.vm.findClass C = some c ∧ Z.vm.findClass K = some t ∧ Z.vm.assignable c t = false := by
  obtain ⟨c, t, h0, g0, n3⟩ := nn
  obtain ⟨p, k, kp, h1, h2, h3, h4, h5, -, h7⟩ := Cond.superclass_spec h0 w
  obtain ⟨t', k', g1, g2, g5, g7, -⟩ := Cond.instantiable_spec wi
  cases g0.symm.trans g1
  have g8 : k'.isInterface = false := by cases q : k'.isInterface <;> simp [q] at g7 ⊢
  have ne := ids_ne h0 g0 hn
  refine ⟨c, t, h0, g0, ?_⟩
  show Z.vm.assignableAux (255 + 1) c t = false
  simp [Vm.assignableAux, ne, h2, g2, h5, g5, g8, Vm.isSubclass, n3]
theorem pd_0 : parseMethodDescriptor "(III)V" = some ⟨[.int, .int, .int], none⟩ := by decide +kernel
theorem pd_1 : parseMethodDescriptor "([IIII)I" = some ⟨[(.array .int), .int, .int, .int], some .int⟩ := by decide +kernel
theorem pd_2 : parseMethodDescriptor "(I)I" = some ⟨[.int], some .int⟩ := by decide +kernel
theorem pd_3 : parseMethodDescriptor "(IIIJ)V" = some ⟨[.int, .int, .int, .long], none⟩ := by decide +kernel
theorem pd_4 : parseMethodDescriptor "(II)I" = some ⟨[.int, .int], some .int⟩ := by decide +kernel
theorem pd_5 : parseMethodDescriptor "()V" = some ⟨[], none⟩ := by decide +kernel
theorem pd_6 : parseMethodDescriptor "(IJ)V" = some ⟨[.int, .long], none⟩ := by decide +kernel
theorem pd_7 : parseMethodDescriptor "(I)J" = some ⟨[.int], some .long⟩ := by decide +kernel
theorem pd_8 : parseMethodDescriptor "()I" = some ⟨[], some .int⟩ := by decide +kernel
theorem pn_0 : plainName "com/example/ratecraft/ratecraft/SortedIntLongMap" = true := by first | (simp [plainName, overriddenIn]; done) | decide +kernel
theorem pn_1 : plainName "java/util/Arrays" = true := by first | (simp [plainName, overriddenIn]; done) | decide +kernel
theorem pn_2 : plainName "com/example/ratecraft/ratecraft/SortedIntLongMapSetValuePinLaw" = true := by first | (simp [plainName, overriddenIn]; done) | decide +kernel
/-- the map m of n entries, keys ks and values vs in its one block of four -/
def own_Mp (Z : State) (h : Heap) (m kk kb vv vb sz fs : Addr) (n f : Int32) (ks vs : List Value) : Prop :=
  Exa Z h m "com/example/ratecraft/ratecraft/SortedIntLongMap" ∧ Fld Z h m "com/example/ratecraft/ratecraft/SortedIntLongMap" "keys" "[[I" (.ref kk) ∧ Fld Z h m "com/example/ratecraft/ratecraft/SortedIntLongMap" "values" "[[J" (.ref vv) ∧ Fld Z h m "com/example/ratecraft/ratecraft/SortedIntLongMap" "sizes" "[I" (.ref sz) ∧ Fld Z h m "com/example/ratecraft/ratecraft/SortedIntLongMap" "firsts" "[I" (.ref fs) ∧ Fld Z h m "com/example/ratecraft/ratecraft/SortedIntLongMap" "blocks" "I" (.int (1 : Int32)) ∧ Fld Z h m "com/example/ratecraft/ratecraft/SortedIntLongMap" "size" "I" (.int n) ∧
  Ax Z h kk (.array .int) [.ref kb] ∧ Ax Z h kb .int ks ∧ Ax Z h vv (.array .long) [.ref vb] ∧ Ax Z h vb .long vs ∧ Ax Z h sz .int [.int n] ∧ Ax Z h fs .int [.int f]
/-- the seven cells are seven -/
def own_Nd (m kk kb vv vb sz fs : Addr) : Prop := m ≠ kk ∧ m ≠ kb ∧ m ≠ vv ∧ m ≠ vb ∧ m ≠ sz ∧ m ≠ fs ∧ kk ≠ kb ∧ kk ≠ vv ∧ kk ≠ vb ∧ kk ≠ sz ∧ kk ≠ fs ∧ kb ≠ vv ∧ kb ≠ vb ∧ kb ≠ sz ∧ kb ≠ fs ∧ vv ≠ vb ∧ vv ≠ sz ∧ vv ≠ fs ∧ vb ≠ sz ∧ vb ≠ fs ∧ sz ≠ fs
theorem d3_0 : decode prog_36_method_14_code 0 = .ok (.iconst 0, 1) := by decide +kernel
theorem d3_1 : decode prog_36_method_14_code 1 = .ok (.istore_n 2, 1) := by decide +kernel
theorem d3_2 : decode prog_36_method_14_code 2 = .ok (.aload_n 0, 1) := by decide +kernel
theorem d3_3 : decode prog_36_method_14_code 3 = .ok (.getfield 27, 3) := by decide +kernel
theorem d3_6 : decode prog_36_method_14_code 6 = .ok (.iconst 1, 1) := by decide +kernel
theorem d3_7 : decode prog_36_method_14_code 7 = .ok (.isub, 1) := by decide +kernel
theorem d3_8 : decode prog_36_method_14_code 8 = .ok (.istore_n 3, 1) := by decide +kernel
theorem d3_9 : decode prog_36_method_14_code 9 = .ok (.iload_n 2, 1) := by decide +kernel
theorem d3_10 : decode prog_36_method_14_code 10 = .ok (.iload_n 3, 1) := by decide +kernel
theorem d3_11 : decode prog_36_method_14_code 11 = .ok (.if_icmp .ge 37, 3) := by decide +kernel
theorem d3_14 : decode prog_36_method_14_code 14 = .ok (.iload_n 2, 1) := by decide +kernel
theorem d3_15 : decode prog_36_method_14_code 15 = .ok (.iload_n 3, 1) := by decide +kernel
theorem d3_16 : decode prog_36_method_14_code 16 = .ok (.iadd, 1) := by decide +kernel
theorem d3_17 : decode prog_36_method_14_code 17 = .ok (.iconst 1, 1) := by decide +kernel
theorem d3_18 : decode prog_36_method_14_code 18 = .ok (.iadd, 1) := by decide +kernel
theorem d3_19 : decode prog_36_method_14_code 19 = .ok (.iconst 1, 1) := by decide +kernel
theorem d3_20 : decode prog_36_method_14_code 20 = .ok (.iushr, 1) := by decide +kernel
theorem d3_21 : decode prog_36_method_14_code 21 = .ok (.istore 4, 2) := by decide +kernel
theorem d3_23 : decode prog_36_method_14_code 23 = .ok (.aload_n 0, 1) := by decide +kernel
theorem d3_24 : decode prog_36_method_14_code 24 = .ok (.getfield 24, 3) := by decide +kernel
theorem d3_27 : decode prog_36_method_14_code 27 = .ok (.iload 4, 2) := by decide +kernel
theorem d3_29 : decode prog_36_method_14_code 29 = .ok (.iaload, 1) := by decide +kernel
theorem d3_30 : decode prog_36_method_14_code 30 = .ok (.iload_n 1, 1) := by decide +kernel
theorem d3_31 : decode prog_36_method_14_code 31 = .ok (.if_icmp .gt 9, 3) := by decide +kernel
theorem d3_34 : decode prog_36_method_14_code 34 = .ok (.iload 4, 2) := by decide +kernel
theorem d3_36 : decode prog_36_method_14_code 36 = .ok (.istore_n 2, 1) := by decide +kernel
theorem d3_37 : decode prog_36_method_14_code 37 = .ok (.goto 8, 3) := by decide +kernel
theorem d3_40 : decode prog_36_method_14_code 40 = .ok (.iload 4, 2) := by decide +kernel
theorem d3_42 : decode prog_36_method_14_code 42 = .ok (.iconst 1, 1) := by decide +kernel
theorem d3_43 : decode prog_36_method_14_code 43 = .ok (.isub, 1) := by decide +kernel
theorem d3_44 : decode prog_36_method_14_code 44 = .ok (.istore_n 3, 1) := by decide +kernel
theorem d3_45 : decode prog_36_method_14_code 45 = .ok (.goto (-36), 3) := by decide +kernel
theorem d3_48 : decode prog_36_method_14_code 48 = .ok (.iload_n 2, 1) := by decide +kernel
theorem d3_49 : decode prog_36_method_14_code 49 = .ok (.ireturn, 1) := by decide +kernel
set_option maxRecDepth 65536 in
set_option maxHeartbeats 40000000 in
theorem ct_bo (Z : State) (a0 : Array Value) (hw : ∀ d ∈ tables_1, d.before a0 Z = true) (m : Addr) (key : Int32) (h0 : Heap) (F : Fld Z h0 m "com/example/ratecraft/ratecraft/SortedIntLongMap" "blocks" "I" (.int (1 : Int32))) :
    Ct Z ⟨"com/example/ratecraft/ratecraft/SortedIntLongMap", "blockOf", "(I)I"⟩ prog_36_method_14_code 5 (Option.some FieldType.int) ({ frames := 0, cells := 0, slots := 0, locals := 0 } : Room) #[(.ref m), (.int key)] h0 [] (fun v h => v = some (.int (0 : Int32)) ∧ h0 = h) := by
  refine Ct.intro (Ls := #[.val (.ref m), .val (.int key), .unset, .unset, .unset]) pn_0 (by intro m; first | (simp [entryFrame, mkF, argsToLocals, Value.category]; done) | rfl) ?_
  refine Rn.iconst (pc' := 1) (v := (0 : Int32)) d3_0 rfl rfl ?_
  refine Rn.istoreN (pc' := 2) (Ls' := #[.val (.ref m), .val (.int key), .val (.int (0 : Int32)), .unset, .unset]) d3_1 rfl rfl ?_
  refine Rn.aloadN (pc' := 3) d3_2 rfl rfl rfl ?_
  refine Rn.getF (pc' := 6) (host := "") (Or.inl (hw _ (List.mem_of_getElem? (i := 25) rfl))) Via.refl F d3_3 rfl ?_
  refine Rn.iconst (pc' := 7) (v := (1 : Int32)) d3_6 rfl rfl ?_
  refine Rn.isub (pc' := 8) (v := (0 : Int32)) d3_7 rfl rfl ?_
  refine Rn.istoreN (pc' := 9) (Ls' := #[.val (.ref m), .val (.int key), .val (.int (0 : Int32)), .val (.int (0 : Int32)), .unset]) d3_8 rfl rfl ?_
  refine Rn.iloadN (pc' := 10) d3_9 rfl rfl ?_
  refine Rn.iloadN (pc' := 11) d3_10 rfl rfl ?_
  refine Rn.icmp_ge (pc' := 48) (pn := 14) d3_11 (by decide) (by decide) rfl (fun cq1 => ?_) (fun cq1 => absurd cq1 (by decide))
  refine Rn.iloadN (pc' := 49) d3_48 rfl rfl ?_
  refine Rn.retI rfl d3_49 (Nat.le_of_ble_eq_true rfl) (Nat.le_of_ble_eq_true rfl) ?_
  exact ⟨rfl, rfl⟩
theorem d10_0 : decode prog_36_method_13_code 0 = .ok (.iload_n 0, 1) := by decide +kernel
theorem d10_1 : decode prog_36_method_13_code 1 = .ok (.bipush 6, 2) := by decide +kernel
theorem d10_3 : decode prog_36_method_13_code 3 = .ok (.ishl, 1) := by decide +kernel
theorem d10_4 : decode prog_36_method_13_code 4 = .ok (.iload_n 1, 1) := by decide +kernel
theorem d10_5 : decode prog_36_method_13_code 5 = .ok (.ior, 1) := by decide +kernel
theorem d10_6 : decode prog_36_method_13_code 6 = .ok (.ireturn, 1) := by decide +kernel
set_option maxRecDepth 65536 in
set_option maxHeartbeats 40000000 in
theorem ct_pos (Z : State) (a0 : Array Value) (hw : ∀ d ∈ tables_1, d.before a0 Z = true) (i : Int32) (h0 : Heap) :
    Ct Z ⟨"com/example/ratecraft/ratecraft/SortedIntLongMap", "position", "(II)I"⟩ prog_36_method_13_code 2 (Option.some FieldType.int) ({ frames := 0, cells := 0, slots := 0, locals := 0 } : Room) #[(.int (0 : Int32)), (.int i)] h0 [] (fun v h => v = some (.int ((0 : Int32) ||| i)) ∧ h0 = h) := by
  refine Ct.intro (Ls := #[.val (.int (0 : Int32)), .val (.int i)]) pn_0 (by intro m; first | (simp [entryFrame, mkF, argsToLocals, Value.category]; done) | rfl) ?_
  refine Rn.iloadN (pc' := 1) d10_0 rfl rfl ?_
  refine Rn.bipush (pc' := 3) (v := (6 : Int32)) d10_1 rfl rfl ?_
  refine Rn.ishl (pc' := 4) (v := (0 : Int32)) d10_3 rfl rfl ?_
  refine Rn.iloadN (pc' := 5) d10_4 rfl rfl ?_
  refine Rn.ior (pc' := 6) (v := ((0 : Int32) ||| i)) d10_5 rfl rfl ?_
  refine Rn.retI rfl d10_6 (Nat.le_of_ble_eq_true rfl) (Nat.le_of_ble_eq_true rfl) ?_
  exact ⟨rfl, rfl⟩
theorem d5_0 : decode jdk_65_method_30_code 0 = .ok (.iload_n 1, 1) := by decide +kernel
theorem d5_1 : decode jdk_65_method_30_code 1 = .ok (.iload_n 2, 1) := by decide +kernel
theorem d5_2 : decode jdk_65_method_30_code 2 = .ok (.if_icmp .le 44, 3) := by decide +kernel
theorem d5_5 : decode jdk_65_method_30_code 5 = .ok (.new 43, 3) := by decide +kernel
theorem d5_8 : decode jdk_65_method_30_code 8 = .ok (.dup, 1) := by decide +kernel
theorem d5_9 : decode jdk_65_method_30_code 9 = .ok (.new 45, 3) := by decide +kernel
theorem d5_12 : decode jdk_65_method_30_code 12 = .ok (.dup, 1) := by decide +kernel
theorem d5_13 : decode jdk_65_method_30_code 13 = .ok (.invokespecial 47, 3) := by decide +kernel
theorem d5_16 : decode jdk_65_method_30_code 16 = .ok (.ldc 48, 2) := by decide +kernel
theorem d5_18 : decode jdk_65_method_30_code 18 = .ok (.invokevirtual 50, 3) := by decide +kernel
theorem d5_21 : decode jdk_65_method_30_code 21 = .ok (.iload_n 1, 1) := by decide +kernel
theorem d5_22 : decode jdk_65_method_30_code 22 = .ok (.invokevirtual 54, 3) := by decide +kernel
theorem d5_25 : decode jdk_65_method_30_code 25 = .ok (.ldc 57, 2) := by decide +kernel
theorem d5_27 : decode jdk_65_method_30_code 27 = .ok (.invokevirtual 50, 3) := by decide +kernel
theorem d5_30 : decode jdk_65_method_30_code 30 = .ok (.iload_n 2, 1) := by decide +kernel
theorem d5_31 : decode jdk_65_method_30_code 31 = .ok (.invokevirtual 54, 3) := by decide +kernel
theorem d5_34 : decode jdk_65_method_30_code 34 = .ok (.ldc 59, 2) := by decide +kernel
theorem d5_36 : decode jdk_65_method_30_code 36 = .ok (.invokevirtual 50, 3) := by decide +kernel
theorem d5_39 : decode jdk_65_method_30_code 39 = .ok (.invokevirtual 61, 3) := by decide +kernel
theorem d5_42 : decode jdk_65_method_30_code 42 = .ok (.invokespecial 65, 3) := by decide +kernel
theorem d5_45 : decode jdk_65_method_30_code 45 = .ok (.athrow, 1) := by decide +kernel
theorem d5_46 : decode jdk_65_method_30_code 46 = .ok (.iload_n 1, 1) := by decide +kernel
theorem d5_47 : decode jdk_65_method_30_code 47 = .ok (.ifCond .ge 12, 3) := by decide +kernel
theorem d5_50 : decode jdk_65_method_30_code 50 = .ok (.new 68, 3) := by decide +kernel
theorem d5_53 : decode jdk_65_method_30_code 53 = .ok (.dup, 1) := by decide +kernel
theorem d5_54 : decode jdk_65_method_30_code 54 = .ok (.iload_n 1, 1) := by decide +kernel
theorem d5_55 : decode jdk_65_method_30_code 55 = .ok (.invokespecial 70, 3) := by decide +kernel
theorem d5_58 : decode jdk_65_method_30_code 58 = .ok (.athrow, 1) := by decide +kernel
theorem d5_59 : decode jdk_65_method_30_code 59 = .ok (.iload_n 2, 1) := by decide +kernel
theorem d5_60 : decode jdk_65_method_30_code 60 = .ok (.iload_n 0, 1) := by decide +kernel
theorem d5_61 : decode jdk_65_method_30_code 61 = .ok (.if_icmp .le 12, 3) := by decide +kernel
theorem d5_64 : decode jdk_65_method_30_code 64 = .ok (.new 68, 3) := by decide +kernel
theorem d5_67 : decode jdk_65_method_30_code 67 = .ok (.dup, 1) := by decide +kernel
theorem d5_68 : decode jdk_65_method_30_code 68 = .ok (.iload_n 2, 1) := by decide +kernel
theorem d5_69 : decode jdk_65_method_30_code 69 = .ok (.invokespecial 70, 3) := by decide +kernel
theorem d5_72 : decode jdk_65_method_30_code 72 = .ok (.athrow, 1) := by decide +kernel
theorem d5_73 : decode jdk_65_method_30_code 73 = .ok (.return_, 1) := by decide +kernel
set_option maxRecDepth 65536 in
set_option maxHeartbeats 40000000 in
theorem ct_rc0 (Z : State) (a0 : Array Value) (hw : ∀ d ∈ tables_1, d.before a0 Z = true) (h0 : Heap) :
    Ct Z ⟨"java/util/Arrays", "rangeCheck", "(III)V"⟩ jdk_65_method_30_code 3 (Option.none : Option FieldType) ({ frames := 0, cells := 0, slots := 0, locals := 0 } : Room) #[(.int (4 : Int32)), (.int (0 : Int32)), (.int (0 : Int32))] h0 [] (fun v h => v = none ∧ h0 = h) := by
  refine Ct.intro (Ls := #[.val (.int (4 : Int32)), .val (.int (0 : Int32)), .val (.int (0 : Int32))]) pn_1 (by intro m; first | (simp [entryFrame, mkF, argsToLocals, Value.category]; done) | rfl) ?_
  refine Rn.iloadN (pc' := 1) d5_0 rfl rfl ?_
  refine Rn.iloadN (pc' := 2) d5_1 rfl rfl ?_
  refine Rn.icmp_le (pc' := 46) (pn := 5) d5_2 (by decide) (by decide) rfl (fun cq1 => ?_) (fun cq1 => absurd cq1 (by decide))
  refine Rn.iloadN (pc' := 47) d5_46 rfl rfl ?_
  refine Rn.if_ge (pc' := 59) (pn := 50) d5_47 (by decide) (by decide) rfl (fun cq2 => ?_) (fun cq2 => absurd cq2 (by decide))
  refine Rn.iloadN (pc' := 60) d5_59 rfl rfl ?_
  refine Rn.iloadN (pc' := 61) d5_60 rfl rfl ?_
  refine Rn.icmp_le (pc' := 73) (pn := 64) d5_61 (by decide) (by decide) rfl (fun cq3 => ?_) (fun cq3 => absurd cq3 (by decide))
  refine Rn.retV rfl d5_73 (Nat.le_of_ble_eq_true rfl) (Nat.le_of_ble_eq_true rfl) ?_
  exact ⟨rfl, rfl⟩
set_option maxRecDepth 65536 in
set_option maxHeartbeats 40000000 in
theorem ct_rc1 (Z : State) (a0 : Array Value) (hw : ∀ d ∈ tables_1, d.before a0 Z = true) (h0 : Heap) :
    Ct Z ⟨"java/util/Arrays", "rangeCheck", "(III)V"⟩ jdk_65_method_30_code 3 (Option.none : Option FieldType) ({ frames := 0, cells := 0, slots := 0, locals := 0 } : Room) #[(.int (4 : Int32)), (.int (0 : Int32)), (.int (1 : Int32))] h0 [] (fun v h => v = none ∧ h0 = h) := by
  refine Ct.intro (Ls := #[.val (.int (4 : Int32)), .val (.int (0 : Int32)), .val (.int (1 : Int32))]) pn_1 (by intro m; first | (simp [entryFrame, mkF, argsToLocals, Value.category]; done) | rfl) ?_
  refine Rn.iloadN (pc' := 1) d5_0 rfl rfl ?_
  refine Rn.iloadN (pc' := 2) d5_1 rfl rfl ?_
  refine Rn.icmp_le (pc' := 46) (pn := 5) d5_2 (by decide) (by decide) rfl (fun cq1 => ?_) (fun cq1 => absurd cq1 (by decide))
  refine Rn.iloadN (pc' := 47) d5_46 rfl rfl ?_
  refine Rn.if_ge (pc' := 59) (pn := 50) d5_47 (by decide) (by decide) rfl (fun cq2 => ?_) (fun cq2 => absurd cq2 (by decide))
  refine Rn.iloadN (pc' := 60) d5_59 rfl rfl ?_
  refine Rn.iloadN (pc' := 61) d5_60 rfl rfl ?_
  refine Rn.icmp_le (pc' := 73) (pn := 64) d5_61 (by decide) (by decide) rfl (fun cq3 => ?_) (fun cq3 => absurd cq3 (by decide))
  refine Rn.retV rfl d5_73 (Nat.le_of_ble_eq_true rfl) (Nat.le_of_ble_eq_true rfl) ?_
  exact ⟨rfl, rfl⟩
set_option maxRecDepth 65536 in
set_option maxHeartbeats 40000000 in
theorem ct_rc2 (Z : State) (a0 : Array Value) (hw : ∀ d ∈ tables_1, d.before a0 Z = true) (h0 : Heap) :
    Ct Z ⟨"java/util/Arrays", "rangeCheck", "(III)V"⟩ jdk_65_method_30_code 3 (Option.none : Option FieldType) ({ frames := 0, cells := 0, slots := 0, locals := 0 } : Room) #[(.int (4 : Int32)), (.int (0 : Int32)), (.int (2 : Int32))] h0 [] (fun v h => v = none ∧ h0 = h) := by
  refine Ct.intro (Ls := #[.val (.int (4 : Int32)), .val (.int (0 : Int32)), .val (.int (2 : Int32))]) pn_1 (by intro m; first | (simp [entryFrame, mkF, argsToLocals, Value.category]; done) | rfl) ?_
  refine Rn.iloadN (pc' := 1) d5_0 rfl rfl ?_
  refine Rn.iloadN (pc' := 2) d5_1 rfl rfl ?_
  refine Rn.icmp_le (pc' := 46) (pn := 5) d5_2 (by decide) (by decide) rfl (fun cq1 => ?_) (fun cq1 => absurd cq1 (by decide))
  refine Rn.iloadN (pc' := 47) d5_46 rfl rfl ?_
  refine Rn.if_ge (pc' := 59) (pn := 50) d5_47 (by decide) (by decide) rfl (fun cq2 => ?_) (fun cq2 => absurd cq2 (by decide))
  refine Rn.iloadN (pc' := 60) d5_59 rfl rfl ?_
  refine Rn.iloadN (pc' := 61) d5_60 rfl rfl ?_
  refine Rn.icmp_le (pc' := 73) (pn := 64) d5_61 (by decide) (by decide) rfl (fun cq3 => ?_) (fun cq3 => absurd cq3 (by decide))
  refine Rn.retV rfl d5_73 (Nat.le_of_ble_eq_true rfl) (Nat.le_of_ble_eq_true rfl) ?_
  exact ⟨rfl, rfl⟩
/-- what Arrays.binarySearch answers on no, one or two sorted keys -/
def own_bs0 (x : Int32) : Int32 := -1
def own_bs1 (a x : Int32) : Int32 := if a < x then -2 else if x < a then -1 else 0
def own_bs2 (a b x : Int32) : Int32 := if a < x then (if b < x then -3 else if x < b then -2 else 1) else if x < a then -1 else 0
theorem d6_0 : decode jdk_65_method_59_code 0 = .ok (.iload_n 1, 1) := by decide +kernel
theorem d6_1 : decode jdk_65_method_59_code 1 = .ok (.istore 4, 2) := by decide +kernel
theorem d6_3 : decode jdk_65_method_59_code 3 = .ok (.iload_n 2, 1) := by decide +kernel
theorem d6_4 : decode jdk_65_method_59_code 4 = .ok (.iconst 1, 1) := by decide +kernel
theorem d6_5 : decode jdk_65_method_59_code 5 = .ok (.isub, 1) := by decide +kernel
theorem d6_6 : decode jdk_65_method_59_code 6 = .ok (.istore 5, 2) := by decide +kernel
theorem d6_8 : decode jdk_65_method_59_code 8 = .ok (.iload 4, 2) := by decide +kernel
theorem d6_10 : decode jdk_65_method_59_code 10 = .ok (.iload 5, 2) := by decide +kernel
theorem d6_12 : decode jdk_65_method_59_code 12 = .ok (.if_icmp .gt 54, 3) := by decide +kernel
theorem d6_15 : decode jdk_65_method_59_code 15 = .ok (.iload 4, 2) := by decide +kernel
theorem d6_17 : decode jdk_65_method_59_code 17 = .ok (.iload 5, 2) := by decide +kernel
theorem d6_19 : decode jdk_65_method_59_code 19 = .ok (.iadd, 1) := by decide +kernel
theorem d6_20 : decode jdk_65_method_59_code 20 = .ok (.iconst 1, 1) := by decide +kernel
theorem d6_21 : decode jdk_65_method_59_code 21 = .ok (.iushr, 1) := by decide +kernel
theorem d6_22 : decode jdk_65_method_59_code 22 = .ok (.istore 6, 2) := by decide +kernel
theorem d6_24 : decode jdk_65_method_59_code 24 = .ok (.aload_n 0, 1) := by decide +kernel
theorem d6_25 : decode jdk_65_method_59_code 25 = .ok (.iload 6, 2) := by decide +kernel
theorem d6_27 : decode jdk_65_method_59_code 27 = .ok (.iaload, 1) := by decide +kernel
theorem d6_28 : decode jdk_65_method_59_code 28 = .ok (.istore 7, 2) := by decide +kernel
theorem d6_30 : decode jdk_65_method_59_code 30 = .ok (.iload 7, 2) := by decide +kernel
theorem d6_32 : decode jdk_65_method_59_code 32 = .ok (.iload_n 3, 1) := by decide +kernel
theorem d6_33 : decode jdk_65_method_59_code 33 = .ok (.if_icmp .ge 12, 3) := by decide +kernel
theorem d6_36 : decode jdk_65_method_59_code 36 = .ok (.iload 6, 2) := by decide +kernel
theorem d6_38 : decode jdk_65_method_59_code 38 = .ok (.iconst 1, 1) := by decide +kernel
theorem d6_39 : decode jdk_65_method_59_code 39 = .ok (.iadd, 1) := by decide +kernel
theorem d6_40 : decode jdk_65_method_59_code 40 = .ok (.istore 4, 2) := by decide +kernel
theorem d6_42 : decode jdk_65_method_59_code 42 = .ok (.goto 21, 3) := by decide +kernel
theorem d6_45 : decode jdk_65_method_59_code 45 = .ok (.iload 7, 2) := by decide +kernel
theorem d6_47 : decode jdk_65_method_59_code 47 = .ok (.iload_n 3, 1) := by decide +kernel
theorem d6_48 : decode jdk_65_method_59_code 48 = .ok (.if_icmp .le 12, 3) := by decide +kernel
theorem d6_51 : decode jdk_65_method_59_code 51 = .ok (.iload 6, 2) := by decide +kernel
theorem d6_53 : decode jdk_65_method_59_code 53 = .ok (.iconst 1, 1) := by decide +kernel
theorem d6_54 : decode jdk_65_method_59_code 54 = .ok (.isub, 1) := by decide +kernel
theorem d6_55 : decode jdk_65_method_59_code 55 = .ok (.istore 5, 2) := by decide +kernel
theorem d6_57 : decode jdk_65_method_59_code 57 = .ok (.goto 6, 3) := by decide +kernel
theorem d6_60 : decode jdk_65_method_59_code 60 = .ok (.iload 6, 2) := by decide +kernel
theorem d6_62 : decode jdk_65_method_59_code 62 = .ok (.ireturn, 1) := by decide +kernel
theorem d6_63 : decode jdk_65_method_59_code 63 = .ok (.goto (-55), 3) := by decide +kernel
theorem d6_66 : decode jdk_65_method_59_code 66 = .ok (.iload 4, 2) := by decide +kernel
theorem d6_68 : decode jdk_65_method_59_code 68 = .ok (.iconst 1, 1) := by decide +kernel
theorem d6_69 : decode jdk_65_method_59_code 69 = .ok (.iadd, 1) := by decide +kernel
theorem d6_70 : decode jdk_65_method_59_code 70 = .ok (.ineg, 1) := by decide +kernel
theorem d6_71 : decode jdk_65_method_59_code 71 = .ok (.ireturn, 1) := by decide +kernel
set_option maxRecDepth 65536 in
set_option maxHeartbeats 40000000 in
theorem ct_bsa0 (Z : State) (a0 : Array Value) (hw : ∀ d ∈ tables_1, d.before a0 Z = true) (a : Addr) ( x : Int32) (h0 : Heap) (A : Ax Z h0 a .int [.int (0 : Int32), .int (0 : Int32), .int (0 : Int32), .int (0 : Int32)]) :
    Ct Z ⟨"java/util/Arrays", "binarySearch0", "([IIII)I"⟩ jdk_65_method_59_code 8 (Option.some FieldType.int) ({ frames := 0, cells := 0, slots := 0, locals := 0 } : Room) #[(.ref a), (.int (0 : Int32)), (.int (0 : Int32)), (.int x)] h0 [] (fun v h => v = some (.int (own_bs0 x)) ∧ h0 = h) := by
  refine Ct.intro (Ls := #[.val (.ref a), .val (.int (0 : Int32)), .val (.int (0 : Int32)), .val (.int x), .unset, .unset, .unset, .unset]) pn_1 (by intro m; first | (simp [entryFrame, mkF, argsToLocals, Value.category]; done) | rfl) ?_
  refine Rn.iloadN (pc' := 1) d6_0 rfl rfl ?_
  refine Rn.istore (pc' := 3) (Ls' := #[.val (.ref a), .val (.int (0 : Int32)), .val (.int (0 : Int32)), .val (.int x), .val (.int (0 : Int32)), .unset, .unset, .unset]) d6_1 rfl rfl ?_
  refine Rn.iloadN (pc' := 4) d6_3 rfl rfl ?_
  refine Rn.iconst (pc' := 5) (v := (1 : Int32)) d6_4 rfl rfl ?_
  refine Rn.isub (pc' := 6) (v := (-1 : Int32)) d6_5 rfl rfl ?_
  refine Rn.istore (pc' := 8) (Ls' := #[.val (.ref a), .val (.int (0 : Int32)), .val (.int (0 : Int32)), .val (.int x), .val (.int (0 : Int32)), .val (.int (-1 : Int32)), .unset, .unset]) d6_6 rfl rfl ?_
  refine Rn.iload (pc' := 10) d6_8 rfl rfl ?_
  refine Rn.iload (pc' := 12) d6_10 rfl rfl ?_
  refine Rn.icmp_gt (pc' := 66) (pn := 15) d6_12 (by decide) (by decide) rfl (fun cq1 => ?_) (fun cq1 => absurd cq1 (by decide))
  refine Rn.iload (pc' := 68) d6_66 rfl rfl ?_
  refine Rn.iconst (pc' := 69) (v := (1 : Int32)) d6_68 rfl rfl ?_
  refine Rn.iadd (pc' := 70) (v := (1 : Int32)) d6_69 rfl rfl ?_
  refine Rn.ineg (pc' := 71) (v := (-(1 : Int32))) d6_70 rfl rfl ?_
  refine Rn.retI rfl d6_71 (Nat.le_of_ble_eq_true rfl) (Nat.le_of_ble_eq_true rfl) ?_
  exact ⟨by simp [own_bs0, *], rfl⟩
theorem d4_0 : decode jdk_65_method_58_code 0 = .ok (.aload_n 0, 1) := by decide +kernel
theorem d4_1 : decode jdk_65_method_58_code 1 = .ok (.arraylength, 1) := by decide +kernel
theorem d4_2 : decode jdk_65_method_58_code 2 = .ok (.iload_n 1, 1) := by decide +kernel
theorem d4_3 : decode jdk_65_method_58_code 3 = .ok (.iload_n 2, 1) := by decide +kernel
theorem d4_4 : decode jdk_65_method_58_code 4 = .ok (.invokestatic 13, 3) := by decide +kernel
theorem d4_7 : decode jdk_65_method_58_code 7 = .ok (.aload_n 0, 1) := by decide +kernel
theorem d4_8 : decode jdk_65_method_58_code 8 = .ok (.iload_n 1, 1) := by decide +kernel
theorem d4_9 : decode jdk_65_method_58_code 9 = .ok (.iload_n 2, 1) := by decide +kernel
theorem d4_10 : decode jdk_65_method_58_code 10 = .ok (.iload_n 3, 1) := by decide +kernel
theorem d4_11 : decode jdk_65_method_58_code 11 = .ok (.invokestatic 209, 3) := by decide +kernel
theorem d4_14 : decode jdk_65_method_58_code 14 = .ok (.ireturn, 1) := by decide +kernel
set_option maxRecDepth 65536 in
set_option maxHeartbeats 40000000 in
theorem ct_bs0 (Z : State) (a0 : Array Value) (hw : ∀ d ∈ tables_1, d.before a0 Z = true) (a : Addr) ( x : Int32) (h0 : Heap) (A : Ax Z h0 a .int [.int (0 : Int32), .int (0 : Int32), .int (0 : Int32), .int (0 : Int32)]) :
    Ct Z ⟨"java/util/Arrays", "binarySearch", "([IIII)I"⟩ jdk_65_method_58_code 4 (Option.some FieldType.int) ({ frames := 1, cells := 0, slots := 0, locals := 19 } : Room) #[(.ref a), (.int (0 : Int32)), (.int (0 : Int32)), (.int x)] h0 [] (fun v h => v = some (.int (own_bs0 x)) ∧ h0 = h) := by
  refine Ct.intro (Ls := #[.val (.ref a), .val (.int (0 : Int32)), .val (.int (0 : Int32)), .val (.int x)]) pn_1 (by intro m; first | (simp [entryFrame, mkF, argsToLocals, Value.category]; done) | rfl) ?_
  refine Rn.aloadN (pc' := 1) d4_0 rfl rfl rfl ?_
  refine Rn.arraylength (pc' := 2) (n := (4 : Int32)) A rfl d4_1 rfl ?_
  refine Rn.iloadN (pc' := 3) d4_2 rfl rfl ?_
  refine Rn.iloadN (pc' := 4) d4_3 rfl rfl ?_
  refine Rn.callS (pc' := 7) (argsL := [.int (4 : Int32), .int (0 : Int32), .int (0 : Int32)]) (rest := []) (ct_rc0 Z a0 hw h0) (hw _ (List.mem_of_getElem? (i := 40) rfl)) (hw _ (List.mem_of_getElem? (i := 41) rfl)) (hw _ (List.mem_of_getElem? (i := 38) rfl)) (hw _ (List.mem_of_getElem? (i := 42) rfl)) (by decide) rfl rfl (lenOf pd_0 rfl) rfl d4_4 rfl (Nat.le_of_ble_eq_true rfl) (Nat.le_of_ble_eq_true rfl) (Nat.le_of_ble_eq_true rfl) (Nat.le_of_ble_eq_true rfl) (fun _ z => nomatch z) (fun _ z => nomatch z) (fun vq1 hq2 Kq3 qq4 => ?_)
  obtain ⟨rfl, rfl⟩ := qq4
  simp only [Option.toList, List.cons_append, List.nil_append]
  refine Rn.aloadN (pc' := 8) d4_7 rfl rfl rfl ?_
  refine Rn.iloadN (pc' := 9) d4_8 rfl rfl ?_
  refine Rn.iloadN (pc' := 10) d4_9 rfl rfl ?_
  refine Rn.iloadN (pc' := 11) d4_10 rfl rfl ?_
  refine Rn.callS (pc' := 14) (argsL := [.ref a, .int (0 : Int32), .int (0 : Int32), .int x]) (rest := []) (ct_bsa0 Z a0 hw a  x h0 A) (hw _ (List.mem_of_getElem? (i := 43) rfl)) (hw _ (List.mem_of_getElem? (i := 44) rfl)) (hw _ (List.mem_of_getElem? (i := 38) rfl)) (hw _ (List.mem_of_getElem? (i := 45) rfl)) (by decide) rfl rfl (lenOf pd_1 rfl) rfl d4_11 rfl (Nat.le_of_ble_eq_true rfl) (Nat.le_of_ble_eq_true rfl) (Nat.le_of_ble_eq_true rfl) (Nat.le_of_ble_eq_true rfl) (fun _ z => nomatch z) (fun _ z => nomatch z) (fun vq5 hq6 Kq7 qq8 => ?_)
  obtain ⟨rfl, rfl⟩ := qq8
  simp only [Option.toList, List.cons_append, List.nil_append]
  refine Rn.retI rfl d4_14 (Nat.le_of_ble_eq_true rfl) (Nat.le_of_ble_eq_true rfl) ?_
  exact ⟨rfl, rfl⟩
set_option maxRecDepth 65536 in
set_option maxHeartbeats 40000000 in
theorem ct_bsa1 (Z : State) (a0 : Array Value) (hw : ∀ d ∈ tables_1, d.before a0 Z = true) (a : Addr) ( k0 x : Int32) (h0 : Heap) (A : Ax Z h0 a .int [.int k0, .int (0 : Int32), .int (0 : Int32), .int (0 : Int32)]) :
    Ct Z ⟨"java/util/Arrays", "binarySearch0", "([IIII)I"⟩ jdk_65_method_59_code 8 (Option.some FieldType.int) ({ frames := 0, cells := 0, slots := 0, locals := 0 } : Room) #[(.ref a), (.int (0 : Int32)), (.int (1 : Int32)), (.int x)] h0 [] (fun v h => v = some (.int (own_bs1 k0 x)) ∧ h0 = h) := by
  refine Ct.intro (Ls := #[.val (.ref a), .val (.int (0 : Int32)), .val (.int (1 : Int32)), .val (.int x), .unset, .unset, .unset, .unset]) pn_1 (by intro m; first | (simp [entryFrame, mkF, argsToLocals, Value.category]; done) | rfl) ?_
  refine Rn.iloadN (pc' := 1) d6_0 rfl rfl ?_
  refine Rn.istore (pc' := 3) (Ls' := #[.val (.ref a), .val (.int (0 : Int32)), .val (.int (1 : Int32)), .val (.int x), .val (.int (0 : Int32)), .unset, .unset, .unset]) d6_1 rfl rfl ?_
  refine Rn.iloadN (pc' := 4) d6_3 rfl rfl ?_
  refine Rn.iconst (pc' := 5) (v := (1 : Int32)) d6_4 rfl rfl ?_
  refine Rn.isub (pc' := 6) (v := (0 : Int32)) d6_5 rfl rfl ?_
  refine Rn.istore (pc' := 8) (Ls' := #[.val (.ref a), .val (.int (0 : Int32)), .val (.int (1 : Int32)), .val (.int x), .val (.int (0 : Int32)), .val (.int (0 : Int32)), .unset, .unset]) d6_6 rfl rfl ?_
  refine Rn.iload (pc' := 10) d6_8 rfl rfl ?_
  refine Rn.iload (pc' := 12) d6_10 rfl rfl ?_
  refine Rn.icmp_gt (pc' := 66) (pn := 15) d6_12 (by decide) (by decide) rfl (fun cq1 => absurd cq1 (by decide)) (fun cq1 => ?_)
  refine Rn.iload (pc' := 17) d6_15 rfl rfl ?_
  refine Rn.iload (pc' := 19) d6_17 rfl rfl ?_
  refine Rn.iadd (pc' := 20) (v := (0 : Int32)) d6_19 rfl rfl ?_
  refine Rn.iconst (pc' := 21) (v := (1 : Int32)) d6_20 rfl rfl ?_
  refine Rn.iushr (pc' := 22) (v := (0 : Int32)) d6_21 rfl rfl ?_
  refine Rn.istore (pc' := 24) (Ls' := #[.val (.ref a), .val (.int (0 : Int32)), .val (.int (1 : Int32)), .val (.int x), .val (.int (0 : Int32)), .val (.int (0 : Int32)), .val (.int (0 : Int32)), .unset]) d6_22 rfl rfl ?_
  refine Rn.aloadN (pc' := 25) d6_24 rfl rfl rfl ?_
  refine Rn.iload (pc' := 27) d6_25 rfl rfl ?_
  refine Rn.iaload (pc' := 28) (v := .int k0) A (by decide) rfl d6_27 rfl ?_
  refine Rn.istore (pc' := 30) (Ls' := #[.val (.ref a), .val (.int (0 : Int32)), .val (.int (1 : Int32)), .val (.int x), .val (.int (0 : Int32)), .val (.int (0 : Int32)), .val (.int (0 : Int32)), .val (.int k0)]) d6_28 rfl rfl ?_
  refine Rn.iload (pc' := 32) d6_30 rfl rfl ?_
  refine Rn.iloadN (pc' := 33) d6_32 rfl rfl ?_
  refine Rn.icmp_ge (pc' := 45) (pn := 36) d6_33 (by decide) (by decide) rfl (fun cq2 => ?_) (fun cq2 => ?_)
  ·
    refine Rn.iload (pc' := 47) d6_45 rfl rfl ?_
    refine Rn.iloadN (pc' := 48) d6_47 rfl rfl ?_
    refine Rn.icmp_le (pc' := 60) (pn := 51) d6_48 (by decide) (by decide) rfl (fun cq3 => ?_) (fun cq3 => ?_)
    ·
      refine Rn.iload (pc' := 62) d6_60 rfl rfl ?_
      refine Rn.retI rfl d6_62 (Nat.le_of_ble_eq_true rfl) (Nat.le_of_ble_eq_true rfl) ?_
      exact ⟨by simp [own_bs1, *], rfl⟩
    ·
      refine Rn.iload (pc' := 53) d6_51 rfl rfl ?_
      refine Rn.iconst (pc' := 54) (v := (1 : Int32)) d6_53 rfl rfl ?_
      refine Rn.isub (pc' := 55) (v := (-1 : Int32)) d6_54 rfl rfl ?_
      refine Rn.istore (pc' := 57) (Ls' := #[.val (.ref a), .val (.int (0 : Int32)), .val (.int (1 : Int32)), .val (.int x), .val (.int (0 : Int32)), .val (.int (-1 : Int32)), .val (.int (0 : Int32)), .val (.int k0)]) d6_55 rfl rfl ?_
      refine Rn.goto (pc' := 63) d6_57 (by decide) (by decide) ?_
      refine Rn.goto (pc' := 8) d6_63 (by decide) (by decide) ?_
      refine Rn.iload (pc' := 10) d6_8 rfl rfl ?_
      refine Rn.iload (pc' := 12) d6_10 rfl rfl ?_
      refine Rn.icmp_gt (pc' := 66) (pn := 15) d6_12 (by decide) (by decide) rfl (fun cq4 => ?_) (fun cq4 => absurd cq4 (by decide))
      refine Rn.iload (pc' := 68) d6_66 rfl rfl ?_
      refine Rn.iconst (pc' := 69) (v := (1 : Int32)) d6_68 rfl rfl ?_
      refine Rn.iadd (pc' := 70) (v := (1 : Int32)) d6_69 rfl rfl ?_
      refine Rn.ineg (pc' := 71) (v := (-(1 : Int32))) d6_70 rfl rfl ?_
      refine Rn.retI rfl d6_71 (Nat.le_of_ble_eq_true rfl) (Nat.le_of_ble_eq_true rfl) ?_
      exact ⟨by simp [own_bs1, *], rfl⟩
  ·
    refine Rn.iload (pc' := 38) d6_36 rfl rfl ?_
    refine Rn.iconst (pc' := 39) (v := (1 : Int32)) d6_38 rfl rfl ?_
    refine Rn.iadd (pc' := 40) (v := (1 : Int32)) d6_39 rfl rfl ?_
    refine Rn.istore (pc' := 42) (Ls' := #[.val (.ref a), .val (.int (0 : Int32)), .val (.int (1 : Int32)), .val (.int x), .val (.int (1 : Int32)), .val (.int (0 : Int32)), .val (.int (0 : Int32)), .val (.int k0)]) d6_40 rfl rfl ?_
    refine Rn.goto (pc' := 63) d6_42 (by decide) (by decide) ?_
    refine Rn.goto (pc' := 8) d6_63 (by decide) (by decide) ?_
    refine Rn.iload (pc' := 10) d6_8 rfl rfl ?_
    refine Rn.iload (pc' := 12) d6_10 rfl rfl ?_
    refine Rn.icmp_gt (pc' := 66) (pn := 15) d6_12 (by decide) (by decide) rfl (fun cq5 => ?_) (fun cq5 => absurd cq5 (by decide))
    refine Rn.iload (pc' := 68) d6_66 rfl rfl ?_
    refine Rn.iconst (pc' := 69) (v := (1 : Int32)) d6_68 rfl rfl ?_
    refine Rn.iadd (pc' := 70) (v := (2 : Int32)) d6_69 rfl rfl ?_
    refine Rn.ineg (pc' := 71) (v := (-(2 : Int32))) d6_70 rfl rfl ?_
    refine Rn.retI rfl d6_71 (Nat.le_of_ble_eq_true rfl) (Nat.le_of_ble_eq_true rfl) ?_
    exact ⟨by simp [own_bs1, *], rfl⟩
set_option maxRecDepth 65536 in
set_option maxHeartbeats 40000000 in
theorem ct_bs1 (Z : State) (a0 : Array Value) (hw : ∀ d ∈ tables_1, d.before a0 Z = true) (a : Addr) ( k0 x : Int32) (h0 : Heap) (A : Ax Z h0 a .int [.int k0, .int (0 : Int32), .int (0 : Int32), .int (0 : Int32)]) :
    Ct Z ⟨"java/util/Arrays", "binarySearch", "([IIII)I"⟩ jdk_65_method_58_code 4 (Option.some FieldType.int) ({ frames := 1, cells := 0, slots := 0, locals := 19 } : Room) #[(.ref a), (.int (0 : Int32)), (.int (1 : Int32)), (.int x)] h0 [] (fun v h => v = some (.int (own_bs1 k0 x)) ∧ h0 = h) := by
  refine Ct.intro (Ls := #[.val (.ref a), .val (.int (0 : Int32)), .val (.int (1 : Int32)), .val (.int x)]) pn_1 (by intro m; first | (simp [entryFrame, mkF, argsToLocals, Value.category]; done) | rfl) ?_
  refine Rn.aloadN (pc' := 1) d4_0 rfl rfl rfl ?_
  refine Rn.arraylength (pc' := 2) (n := (4 : Int32)) A rfl d4_1 rfl ?_
  refine Rn.iloadN (pc' := 3) d4_2 rfl rfl ?_
  refine Rn.iloadN (pc' := 4) d4_3 rfl rfl ?_
  refine Rn.callS (pc' := 7) (argsL := [.int (4 : Int32), .int (0 : Int32), .int (1 : Int32)]) (rest := []) (ct_rc1 Z a0 hw h0) (hw _ (List.mem_of_getElem? (i := 40) rfl)) (hw _ (List.mem_of_getElem? (i := 41) rfl)) (hw _ (List.mem_of_getElem? (i := 38) rfl)) (hw _ (List.mem_of_getElem? (i := 42) rfl)) (by decide) rfl rfl (lenOf pd_0 rfl) rfl d4_4 rfl (Nat.le_of_ble_eq_true rfl) (Nat.le_of_ble_eq_true rfl) (Nat.le_of_ble_eq_true rfl) (Nat.le_of_ble_eq_true rfl) (fun _ z => nomatch z) (fun _ z => nomatch z) (fun vq1 hq2 Kq3 qq4 => ?_)
  obtain ⟨rfl, rfl⟩ := qq4
  simp only [Option.toList, List.cons_append, List.nil_append]
  refine Rn.aloadN (pc' := 8) d4_7 rfl rfl rfl ?_
  refine Rn.iloadN (pc' := 9) d4_8 rfl rfl ?_
  refine Rn.iloadN (pc' := 10) d4_9 rfl rfl ?_
  refine Rn.iloadN (pc' := 11) d4_10 rfl rfl ?_
  refine Rn.callS (pc' := 14) (argsL := [.ref a, .int (0 : Int32), .int (1 : Int32), .int x]) (rest := []) (ct_bsa1 Z a0 hw a  k0 x h0 A) (hw _ (List.mem_of_getElem? (i := 43) rfl)) (hw _ (List.mem_of_getElem? (i := 44) rfl)) (hw _ (List.mem_of_getElem? (i := 38) rfl)) (hw _ (List.mem_of_getElem? (i := 45) rfl)) (by decide) rfl rfl (lenOf pd_1 rfl) rfl d4_11 rfl (Nat.le_of_ble_eq_true rfl) (Nat.le_of_ble_eq_true rfl) (Nat.le_of_ble_eq_true rfl) (Nat.le_of_ble_eq_true rfl) (fun _ z => nomatch z) (fun _ z => nomatch z) (fun vq5 hq6 Kq7 qq8 => ?_)
  obtain ⟨rfl, rfl⟩ := qq8
  simp only [Option.toList, List.cons_append, List.nil_append]
  refine Rn.retI rfl d4_14 (Nat.le_of_ble_eq_true rfl) (Nat.le_of_ble_eq_true rfl) ?_
  exact ⟨rfl, rfl⟩
set_option maxRecDepth 65536 in
set_option maxHeartbeats 40000000 in
theorem ct_bsa2 (Z : State) (a0 : Array Value) (hw : ∀ d ∈ tables_1, d.before a0 Z = true) (a : Addr) ( k0 k1 x : Int32) (h0 : Heap) (A : Ax Z h0 a .int [.int k0, .int k1, .int (0 : Int32), .int (0 : Int32)]) :
    Ct Z ⟨"java/util/Arrays", "binarySearch0", "([IIII)I"⟩ jdk_65_method_59_code 8 (Option.some FieldType.int) ({ frames := 0, cells := 0, slots := 0, locals := 0 } : Room) #[(.ref a), (.int (0 : Int32)), (.int (2 : Int32)), (.int x)] h0 [] (fun v h => v = some (.int (own_bs2 k0 k1 x)) ∧ h0 = h) := by
  refine Ct.intro (Ls := #[.val (.ref a), .val (.int (0 : Int32)), .val (.int (2 : Int32)), .val (.int x), .unset, .unset, .unset, .unset]) pn_1 (by intro m; first | (simp [entryFrame, mkF, argsToLocals, Value.category]; done) | rfl) ?_
  refine Rn.iloadN (pc' := 1) d6_0 rfl rfl ?_
  refine Rn.istore (pc' := 3) (Ls' := #[.val (.ref a), .val (.int (0 : Int32)), .val (.int (2 : Int32)), .val (.int x), .val (.int (0 : Int32)), .unset, .unset, .unset]) d6_1 rfl rfl ?_
  refine Rn.iloadN (pc' := 4) d6_3 rfl rfl ?_
  refine Rn.iconst (pc' := 5) (v := (1 : Int32)) d6_4 rfl rfl ?_
  refine Rn.isub (pc' := 6) (v := (1 : Int32)) d6_5 rfl rfl ?_
  refine Rn.istore (pc' := 8) (Ls' := #[.val (.ref a), .val (.int (0 : Int32)), .val (.int (2 : Int32)), .val (.int x), .val (.int (0 : Int32)), .val (.int (1 : Int32)), .unset, .unset]) d6_6 rfl rfl ?_
  refine Rn.iload (pc' := 10) d6_8 rfl rfl ?_
  refine Rn.iload (pc' := 12) d6_10 rfl rfl ?_
  refine Rn.icmp_gt (pc' := 66) (pn := 15) d6_12 (by decide) (by decide) rfl (fun cq1 => absurd cq1 (by decide)) (fun cq1 => ?_)
  refine Rn.iload (pc' := 17) d6_15 rfl rfl ?_
  refine Rn.iload (pc' := 19) d6_17 rfl rfl ?_
  refine Rn.iadd (pc' := 20) (v := (1 : Int32)) d6_19 rfl rfl ?_
  refine Rn.iconst (pc' := 21) (v := (1 : Int32)) d6_20 rfl rfl ?_
  refine Rn.iushr (pc' := 22) (v := (0 : Int32)) d6_21 rfl rfl ?_
  refine Rn.istore (pc' := 24) (Ls' := #[.val (.ref a), .val (.int (0 : Int32)), .val (.int (2 : Int32)), .val (.int x), .val (.int (0 : Int32)), .val (.int (1 : Int32)), .val (.int (0 : Int32)), .unset]) d6_22 rfl rfl ?_
  refine Rn.aloadN (pc' := 25) d6_24 rfl rfl rfl ?_
  refine Rn.iload (pc' := 27) d6_25 rfl rfl ?_
  refine Rn.iaload (pc' := 28) (v := .int k0) A (by decide) rfl d6_27 rfl ?_
  refine Rn.istore (pc' := 30) (Ls' := #[.val (.ref a), .val (.int (0 : Int32)), .val (.int (2 : Int32)), .val (.int x), .val (.int (0 : Int32)), .val (.int (1 : Int32)), .val (.int (0 : Int32)), .val (.int k0)]) d6_28 rfl rfl ?_
  refine Rn.iload (pc' := 32) d6_30 rfl rfl ?_
  refine Rn.iloadN (pc' := 33) d6_32 rfl rfl ?_
  refine Rn.icmp_ge (pc' := 45) (pn := 36) d6_33 (by decide) (by decide) rfl (fun cq2 => ?_) (fun cq2 => ?_)
  ·
    refine Rn.iload (pc' := 47) d6_45 rfl rfl ?_
    refine Rn.iloadN (pc' := 48) d6_47 rfl rfl ?_
    refine Rn.icmp_le (pc' := 60) (pn := 51) d6_48 (by decide) (by decide) rfl (fun cq3 => ?_) (fun cq3 => ?_)
    ·
      refine Rn.iload (pc' := 62) d6_60 rfl rfl ?_
      refine Rn.retI rfl d6_62 (Nat.le_of_ble_eq_true rfl) (Nat.le_of_ble_eq_true rfl) ?_
      exact ⟨by simp [own_bs2, *], rfl⟩
    ·
      refine Rn.iload (pc' := 53) d6_51 rfl rfl ?_
      refine Rn.iconst (pc' := 54) (v := (1 : Int32)) d6_53 rfl rfl ?_
      refine Rn.isub (pc' := 55) (v := (-1 : Int32)) d6_54 rfl rfl ?_
      refine Rn.istore (pc' := 57) (Ls' := #[.val (.ref a), .val (.int (0 : Int32)), .val (.int (2 : Int32)), .val (.int x), .val (.int (0 : Int32)), .val (.int (-1 : Int32)), .val (.int (0 : Int32)), .val (.int k0)]) d6_55 rfl rfl ?_
      refine Rn.goto (pc' := 63) d6_57 (by decide) (by decide) ?_
      refine Rn.goto (pc' := 8) d6_63 (by decide) (by decide) ?_
      refine Rn.iload (pc' := 10) d6_8 rfl rfl ?_
      refine Rn.iload (pc' := 12) d6_10 rfl rfl ?_
      refine Rn.icmp_gt (pc' := 66) (pn := 15) d6_12 (by decide) (by decide) rfl (fun cq4 => ?_) (fun cq4 => absurd cq4 (by decide))
      refine Rn.iload (pc' := 68) d6_66 rfl rfl ?_
      refine Rn.iconst (pc' := 69) (v := (1 : Int32)) d6_68 rfl rfl ?_
      refine Rn.iadd (pc' := 70) (v := (1 : Int32)) d6_69 rfl rfl ?_
      refine Rn.ineg (pc' := 71) (v := (-(1 : Int32))) d6_70 rfl rfl ?_
      refine Rn.retI rfl d6_71 (Nat.le_of_ble_eq_true rfl) (Nat.le_of_ble_eq_true rfl) ?_
      exact ⟨by simp [own_bs2, *], rfl⟩
  ·
    refine Rn.iload (pc' := 38) d6_36 rfl rfl ?_
    refine Rn.iconst (pc' := 39) (v := (1 : Int32)) d6_38 rfl rfl ?_
    refine Rn.iadd (pc' := 40) (v := (1 : Int32)) d6_39 rfl rfl ?_
    refine Rn.istore (pc' := 42) (Ls' := #[.val (.ref a), .val (.int (0 : Int32)), .val (.int (2 : Int32)), .val (.int x), .val (.int (1 : Int32)), .val (.int (1 : Int32)), .val (.int (0 : Int32)), .val (.int k0)]) d6_40 rfl rfl ?_
    refine Rn.goto (pc' := 63) d6_42 (by decide) (by decide) ?_
    refine Rn.goto (pc' := 8) d6_63 (by decide) (by decide) ?_
    refine Rn.iload (pc' := 10) d6_8 rfl rfl ?_
    refine Rn.iload (pc' := 12) d6_10 rfl rfl ?_
    refine Rn.icmp_gt (pc' := 66) (pn := 15) d6_12 (by decide) (by decide) rfl (fun cq5 => absurd cq5 (by decide)) (fun cq5 => ?_)
    refine Rn.iload (pc' := 17) d6_15 rfl rfl ?_
    refine Rn.iload (pc' := 19) d6_17 rfl rfl ?_
    refine Rn.iadd (pc' := 20) (v := (2 : Int32)) d6_19 rfl rfl ?_
    refine Rn.iconst (pc' := 21) (v := (1 : Int32)) d6_20 rfl rfl ?_
    refine Rn.iushr (pc' := 22) (v := (1 : Int32)) d6_21 rfl rfl ?_
    refine Rn.istore (pc' := 24) (Ls' := #[.val (.ref a), .val (.int (0 : Int32)), .val (.int (2 : Int32)), .val (.int x), .val (.int (1 : Int32)), .val (.int (1 : Int32)), .val (.int (1 : Int32)), .val (.int k0)]) d6_22 rfl rfl ?_
    refine Rn.aloadN (pc' := 25) d6_24 rfl rfl rfl ?_
    refine Rn.iload (pc' := 27) d6_25 rfl rfl ?_
    refine Rn.iaload (pc' := 28) (v := .int k1) A (by decide) rfl d6_27 rfl ?_
    refine Rn.istore (pc' := 30) (Ls' := #[.val (.ref a), .val (.int (0 : Int32)), .val (.int (2 : Int32)), .val (.int x), .val (.int (1 : Int32)), .val (.int (1 : Int32)), .val (.int (1 : Int32)), .val (.int k1)]) d6_28 rfl rfl ?_
    refine Rn.iload (pc' := 32) d6_30 rfl rfl ?_
    refine Rn.iloadN (pc' := 33) d6_32 rfl rfl ?_
    refine Rn.icmp_ge (pc' := 45) (pn := 36) d6_33 (by decide) (by decide) rfl (fun cq6 => ?_) (fun cq6 => ?_)
    ·
      refine Rn.iload (pc' := 47) d6_45 rfl rfl ?_
      refine Rn.iloadN (pc' := 48) d6_47 rfl rfl ?_
      refine Rn.icmp_le (pc' := 60) (pn := 51) d6_48 (by decide) (by decide) rfl (fun cq7 => ?_) (fun cq7 => ?_)
      ·
        refine Rn.iload (pc' := 62) d6_60 rfl rfl ?_
        refine Rn.retI rfl d6_62 (Nat.le_of_ble_eq_true rfl) (Nat.le_of_ble_eq_true rfl) ?_
        exact ⟨by simp [own_bs2, *], rfl⟩
      ·
        refine Rn.iload (pc' := 53) d6_51 rfl rfl ?_
        refine Rn.iconst (pc' := 54) (v := (1 : Int32)) d6_53 rfl rfl ?_
        refine Rn.isub (pc' := 55) (v := (0 : Int32)) d6_54 rfl rfl ?_
        refine Rn.istore (pc' := 57) (Ls' := #[.val (.ref a), .val (.int (0 : Int32)), .val (.int (2 : Int32)), .val (.int x), .val (.int (1 : Int32)), .val (.int (0 : Int32)), .val (.int (1 : Int32)), .val (.int k1)]) d6_55 rfl rfl ?_
        refine Rn.goto (pc' := 63) d6_57 (by decide) (by decide) ?_
        refine Rn.goto (pc' := 8) d6_63 (by decide) (by decide) ?_
        refine Rn.iload (pc' := 10) d6_8 rfl rfl ?_
        refine Rn.iload (pc' := 12) d6_10 rfl rfl ?_
        refine Rn.icmp_gt (pc' := 66) (pn := 15) d6_12 (by decide) (by decide) rfl (fun cq8 => ?_) (fun cq8 => absurd cq8 (by decide))
        refine Rn.iload (pc' := 68) d6_66 rfl rfl ?_
        refine Rn.iconst (pc' := 69) (v := (1 : Int32)) d6_68 rfl rfl ?_
        refine Rn.iadd (pc' := 70) (v := (2 : Int32)) d6_69 rfl rfl ?_
        refine Rn.ineg (pc' := 71) (v := (-(2 : Int32))) d6_70 rfl rfl ?_
        refine Rn.retI rfl d6_71 (Nat.le_of_ble_eq_true rfl) (Nat.le_of_ble_eq_true rfl) ?_
        exact ⟨by simp [own_bs2, *], rfl⟩
    ·
      refine Rn.iload (pc' := 38) d6_36 rfl rfl ?_
      refine Rn.iconst (pc' := 39) (v := (1 : Int32)) d6_38 rfl rfl ?_
      refine Rn.iadd (pc' := 40) (v := (2 : Int32)) d6_39 rfl rfl ?_
      refine Rn.istore (pc' := 42) (Ls' := #[.val (.ref a), .val (.int (0 : Int32)), .val (.int (2 : Int32)), .val (.int x), .val (.int (2 : Int32)), .val (.int (1 : Int32)), .val (.int (1 : Int32)), .val (.int k1)]) d6_40 rfl rfl ?_
      refine Rn.goto (pc' := 63) d6_42 (by decide) (by decide) ?_
      refine Rn.goto (pc' := 8) d6_63 (by decide) (by decide) ?_
      refine Rn.iload (pc' := 10) d6_8 rfl rfl ?_
      refine Rn.iload (pc' := 12) d6_10 rfl rfl ?_
      refine Rn.icmp_gt (pc' := 66) (pn := 15) d6_12 (by decide) (by decide) rfl (fun cq9 => ?_) (fun cq9 => absurd cq9 (by decide))
      refine Rn.iload (pc' := 68) d6_66 rfl rfl ?_
      refine Rn.iconst (pc' := 69) (v := (1 : Int32)) d6_68 rfl rfl ?_
      refine Rn.iadd (pc' := 70) (v := (3 : Int32)) d6_69 rfl rfl ?_
      refine Rn.ineg (pc' := 71) (v := (-(3 : Int32))) d6_70 rfl rfl ?_
      refine Rn.retI rfl d6_71 (Nat.le_of_ble_eq_true rfl) (Nat.le_of_ble_eq_true rfl) ?_
      exact ⟨by simp [own_bs2, *], rfl⟩
set_option maxRecDepth 65536 in
set_option maxHeartbeats 40000000 in
theorem ct_bs2 (Z : State) (a0 : Array Value) (hw : ∀ d ∈ tables_1, d.before a0 Z = true) (a : Addr) ( k0 k1 x : Int32) (h0 : Heap) (A : Ax Z h0 a .int [.int k0, .int k1, .int (0 : Int32), .int (0 : Int32)]) :
    Ct Z ⟨"java/util/Arrays", "binarySearch", "([IIII)I"⟩ jdk_65_method_58_code 4 (Option.some FieldType.int) ({ frames := 1, cells := 0, slots := 0, locals := 19 } : Room) #[(.ref a), (.int (0 : Int32)), (.int (2 : Int32)), (.int x)] h0 [] (fun v h => v = some (.int (own_bs2 k0 k1 x)) ∧ h0 = h) := by
  refine Ct.intro (Ls := #[.val (.ref a), .val (.int (0 : Int32)), .val (.int (2 : Int32)), .val (.int x)]) pn_1 (by intro m; first | (simp [entryFrame, mkF, argsToLocals, Value.category]; done) | rfl) ?_
  refine Rn.aloadN (pc' := 1) d4_0 rfl rfl rfl ?_
  refine Rn.arraylength (pc' := 2) (n := (4 : Int32)) A rfl d4_1 rfl ?_
  refine Rn.iloadN (pc' := 3) d4_2 rfl rfl ?_
  refine Rn.iloadN (pc' := 4) d4_3 rfl rfl ?_
  refine Rn.callS (pc' := 7) (argsL := [.int (4 : Int32), .int (0 : Int32), .int (2 : Int32)]) (rest := []) (ct_rc2 Z a0 hw h0) (hw _ (List.mem_of_getElem? (i := 40) rfl)) (hw _ (List.mem_of_getElem? (i := 41) rfl)) (hw _ (List.mem_of_getElem? (i := 38) rfl)) (hw _ (List.mem_of_getElem? (i := 42) rfl)) (by decide) rfl rfl (lenOf pd_0 rfl) rfl d4_4 rfl (Nat.le_of_ble_eq_true rfl) (Nat.le_of_ble_eq_true rfl) (Nat.le_of_ble_eq_true rfl) (Nat.le_of_ble_eq_true rfl) (fun _ z => nomatch z) (fun _ z => nomatch z) (fun vq1 hq2 Kq3 qq4 => ?_)
  obtain ⟨rfl, rfl⟩ := qq4
  simp only [Option.toList, List.cons_append, List.nil_append]
  refine Rn.aloadN (pc' := 8) d4_7 rfl rfl rfl ?_
  refine Rn.iloadN (pc' := 9) d4_8 rfl rfl ?_
  refine Rn.iloadN (pc' := 10) d4_9 rfl rfl ?_
  refine Rn.iloadN (pc' := 11) d4_10 rfl rfl ?_
  refine Rn.callS (pc' := 14) (argsL := [.ref a, .int (0 : Int32), .int (2 : Int32), .int x]) (rest := []) (ct_bsa2 Z a0 hw a  k0 k1 x h0 A) (hw _ (List.mem_of_getElem? (i := 43) rfl)) (hw _ (List.mem_of_getElem? (i := 44) rfl)) (hw _ (List.mem_of_getElem? (i := 38) rfl)) (hw _ (List.mem_of_getElem? (i := 45) rfl)) (by decide) rfl rfl (lenOf pd_1 rfl) rfl d4_11 rfl (Nat.le_of_ble_eq_true rfl) (Nat.le_of_ble_eq_true rfl) (Nat.le_of_ble_eq_true rfl) (Nat.le_of_ble_eq_true rfl) (fun _ z => nomatch z) (fun _ z => nomatch z) (fun vq5 hq6 Kq7 qq8 => ?_)
  obtain ⟨rfl, rfl⟩ := qq8
  simp only [Option.toList, List.cons_append, List.nil_append]
  refine Rn.retI rfl d4_14 (Nat.le_of_ble_eq_true rfl) (Nat.le_of_ble_eq_true rfl) ?_
  exact ⟨rfl, rfl⟩
theorem d7_0 : decode prog_36_method_16_code 0 = .ok (.iload_n 1, 1) := by decide +kernel
theorem d7_1 : decode prog_36_method_16_code 1 = .ok (.istore 6, 2) := by decide +kernel
theorem d7_3 : decode prog_36_method_16_code 3 = .ok (.iload_n 2, 1) := by decide +kernel
theorem d7_4 : decode prog_36_method_16_code 4 = .ok (.istore 7, 2) := by decide +kernel
theorem d7_6 : decode prog_36_method_16_code 6 = .ok (.aload_n 0, 1) := by decide +kernel
theorem d7_7 : decode prog_36_method_16_code 7 = .ok (.getfield 21, 3) := by decide +kernel
theorem d7_10 : decode prog_36_method_16_code 10 = .ok (.iload 6, 2) := by decide +kernel
theorem d7_12 : decode prog_36_method_16_code 12 = .ok (.iaload, 1) := by decide +kernel
theorem d7_13 : decode prog_36_method_16_code 13 = .ok (.aload_n 0, 1) := by decide +kernel
theorem d7_14 : decode prog_36_method_16_code 14 = .ok (.getfield 11, 3) := by decide +kernel
theorem d7_17 : decode prog_36_method_16_code 17 = .ok (.iload 6, 2) := by decide +kernel
theorem d7_19 : decode prog_36_method_16_code 19 = .ok (.aaload, 1) := by decide +kernel
theorem d7_20 : decode prog_36_method_16_code 20 = .ok (.arraylength, 1) := by decide +kernel
theorem d7_21 : decode prog_36_method_16_code 21 = .ok (.if_icmp .ne 95, 3) := by decide +kernel
theorem d7_24 : decode prog_36_method_16_code 24 = .ok (.aload_n 0, 1) := by decide +kernel
theorem d7_25 : decode prog_36_method_16_code 25 = .ok (.getfield 11, 3) := by decide +kernel
theorem d7_28 : decode prog_36_method_16_code 28 = .ok (.iload 6, 2) := by decide +kernel
theorem d7_30 : decode prog_36_method_16_code 30 = .ok (.aaload, 1) := by decide +kernel
theorem d7_31 : decode prog_36_method_16_code 31 = .ok (.arraylength, 1) := by decide +kernel
theorem d7_32 : decode prog_36_method_16_code 32 = .ok (.bipush 64, 2) := by decide +kernel
theorem d7_34 : decode prog_36_method_16_code 34 = .ok (.if_icmp .ge 63, 3) := by decide +kernel
theorem d7_37 : decode prog_36_method_16_code 37 = .ok (.aload_n 0, 1) := by decide +kernel
theorem d7_38 : decode prog_36_method_16_code 38 = .ok (.getfield 11, 3) := by decide +kernel
theorem d7_41 : decode prog_36_method_16_code 41 = .ok (.iload 6, 2) := by decide +kernel
theorem d7_43 : decode prog_36_method_16_code 43 = .ok (.aload_n 0, 1) := by decide +kernel
theorem d7_44 : decode prog_36_method_16_code 44 = .ok (.getfield 11, 3) := by decide +kernel
theorem d7_47 : decode prog_36_method_16_code 47 = .ok (.iload 6, 2) := by decide +kernel
theorem d7_49 : decode prog_36_method_16_code 49 = .ok (.aaload, 1) := by decide +kernel
theorem d7_50 : decode prog_36_method_16_code 50 = .ok (.bipush 64, 2) := by decide +kernel
theorem d7_52 : decode prog_36_method_16_code 52 = .ok (.iconst 2, 1) := by decide +kernel
theorem d7_53 : decode prog_36_method_16_code 53 = .ok (.aload_n 0, 1) := by decide +kernel
theorem d7_54 : decode prog_36_method_16_code 54 = .ok (.getfield 11, 3) := by decide +kernel
theorem d7_57 : decode prog_36_method_16_code 57 = .ok (.iload 6, 2) := by decide +kernel
theorem d7_59 : decode prog_36_method_16_code 59 = .ok (.aaload, 1) := by decide +kernel
theorem d7_60 : decode prog_36_method_16_code 60 = .ok (.arraylength, 1) := by decide +kernel
theorem d7_61 : decode prog_36_method_16_code 61 = .ok (.imul, 1) := by decide +kernel
theorem d7_62 : decode prog_36_method_16_code 62 = .ok (.invokestatic 69, 3) := by decide +kernel
theorem d7_65 : decode prog_36_method_16_code 65 = .ok (.invokestatic 74, 3) := by decide +kernel
theorem d7_68 : decode prog_36_method_16_code 68 = .ok (.aastore, 1) := by decide +kernel
theorem d7_69 : decode prog_36_method_16_code 69 = .ok (.aload_n 0, 1) := by decide +kernel
theorem d7_70 : decode prog_36_method_16_code 70 = .ok (.getfield 17, 3) := by decide +kernel
theorem d7_73 : decode prog_36_method_16_code 73 = .ok (.iload 6, 2) := by decide +kernel
theorem d7_75 : decode prog_36_method_16_code 75 = .ok (.aload_n 0, 1) := by decide +kernel
theorem d7_76 : decode prog_36_method_16_code 76 = .ok (.getfield 17, 3) := by decide +kernel
theorem d7_79 : decode prog_36_method_16_code 79 = .ok (.iload 6, 2) := by decide +kernel
theorem d7_81 : decode prog_36_method_16_code 81 = .ok (.aaload, 1) := by decide +kernel
theorem d7_82 : decode prog_36_method_16_code 82 = .ok (.aload_n 0, 1) := by decide +kernel
theorem d7_83 : decode prog_36_method_16_code 83 = .ok (.getfield 11, 3) := by decide +kernel
theorem d7_86 : decode prog_36_method_16_code 86 = .ok (.iload 6, 2) := by decide +kernel
theorem d7_88 : decode prog_36_method_16_code 88 = .ok (.aaload, 1) := by decide +kernel
theorem d7_89 : decode prog_36_method_16_code 89 = .ok (.arraylength, 1) := by decide +kernel
theorem d7_90 : decode prog_36_method_16_code 90 = .ok (.invokestatic 78, 3) := by decide +kernel
theorem d7_93 : decode prog_36_method_16_code 93 = .ok (.aastore, 1) := by decide +kernel
theorem d7_94 : decode prog_36_method_16_code 94 = .ok (.goto 22, 3) := by decide +kernel
theorem d7_97 : decode prog_36_method_16_code 97 = .ok (.aload_n 0, 1) := by decide +kernel
theorem d7_98 : decode prog_36_method_16_code 98 = .ok (.iload 6, 2) := by decide +kernel
theorem d7_100 : decode prog_36_method_16_code 100 = .ok (.invokevirtual 81, 3) := by decide +kernel
theorem d7_103 : decode prog_36_method_16_code 103 = .ok (.iload 7, 2) := by decide +kernel
theorem d7_105 : decode prog_36_method_16_code 105 = .ok (.bipush 32, 2) := by decide +kernel
theorem d7_107 : decode prog_36_method_16_code 107 = .ok (.if_icmp .le 9, 3) := by decide +kernel
theorem d7_110 : decode prog_36_method_16_code 110 = .ok (.iinc 6 1, 3) := by decide +kernel
theorem d7_113 : decode prog_36_method_16_code 113 = .ok (.iinc 7 (-32), 3) := by decide +kernel
theorem d7_116 : decode prog_36_method_16_code 116 = .ok (.aload_n 0, 1) := by decide +kernel
theorem d7_117 : decode prog_36_method_16_code 117 = .ok (.getfield 11, 3) := by decide +kernel
theorem d7_120 : decode prog_36_method_16_code 120 = .ok (.iload 6, 2) := by decide +kernel
theorem d7_122 : decode prog_36_method_16_code 122 = .ok (.aaload, 1) := by decide +kernel
theorem d7_123 : decode prog_36_method_16_code 123 = .ok (.iload 7, 2) := by decide +kernel
theorem d7_125 : decode prog_36_method_16_code 125 = .ok (.aload_n 0, 1) := by decide +kernel
theorem d7_126 : decode prog_36_method_16_code 126 = .ok (.getfield 11, 3) := by decide +kernel
theorem d7_129 : decode prog_36_method_16_code 129 = .ok (.iload 6, 2) := by decide +kernel
theorem d7_131 : decode prog_36_method_16_code 131 = .ok (.aaload, 1) := by decide +kernel
theorem d7_132 : decode prog_36_method_16_code 132 = .ok (.iload 7, 2) := by decide +kernel
theorem d7_134 : decode prog_36_method_16_code 134 = .ok (.iconst 1, 1) := by decide +kernel
theorem d7_135 : decode prog_36_method_16_code 135 = .ok (.iadd, 1) := by decide +kernel
theorem d7_136 : decode prog_36_method_16_code 136 = .ok (.aload_n 0, 1) := by decide +kernel
theorem d7_137 : decode prog_36_method_16_code 137 = .ok (.getfield 21, 3) := by decide +kernel
theorem d7_140 : decode prog_36_method_16_code 140 = .ok (.iload 6, 2) := by decide +kernel
theorem d7_142 : decode prog_36_method_16_code 142 = .ok (.iaload, 1) := by decide +kernel
theorem d7_143 : decode prog_36_method_16_code 143 = .ok (.iload 7, 2) := by decide +kernel
theorem d7_145 : decode prog_36_method_16_code 145 = .ok (.isub, 1) := by decide +kernel
theorem d7_146 : decode prog_36_method_16_code 146 = .ok (.invokestatic 85, 3) := by decide +kernel
theorem d7_149 : decode prog_36_method_16_code 149 = .ok (.aload_n 0, 1) := by decide +kernel
theorem d7_150 : decode prog_36_method_16_code 150 = .ok (.getfield 17, 3) := by decide +kernel
theorem d7_153 : decode prog_36_method_16_code 153 = .ok (.iload 6, 2) := by decide +kernel
theorem d7_155 : decode prog_36_method_16_code 155 = .ok (.aaload, 1) := by decide +kernel
theorem d7_156 : decode prog_36_method_16_code 156 = .ok (.iload 7, 2) := by decide +kernel
theorem d7_158 : decode prog_36_method_16_code 158 = .ok (.aload_n 0, 1) := by decide +kernel
theorem d7_159 : decode prog_36_method_16_code 159 = .ok (.getfield 17, 3) := by decide +kernel
theorem d7_162 : decode prog_36_method_16_code 162 = .ok (.iload 6, 2) := by decide +kernel
theorem d7_164 : decode prog_36_method_16_code 164 = .ok (.aaload, 1) := by decide +kernel
theorem d7_165 : decode prog_36_method_16_code 165 = .ok (.iload 7, 2) := by decide +kernel
theorem d7_167 : decode prog_36_method_16_code 167 = .ok (.iconst 1, 1) := by decide +kernel
theorem d7_168 : decode prog_36_method_16_code 168 = .ok (.iadd, 1) := by decide +kernel
theorem d7_169 : decode prog_36_method_16_code 169 = .ok (.aload_n 0, 1) := by decide +kernel
theorem d7_170 : decode prog_36_method_16_code 170 = .ok (.getfield 21, 3) := by decide +kernel
theorem d7_173 : decode prog_36_method_16_code 173 = .ok (.iload 6, 2) := by decide +kernel
theorem d7_175 : decode prog_36_method_16_code 175 = .ok (.iaload, 1) := by decide +kernel
theorem d7_176 : decode prog_36_method_16_code 176 = .ok (.iload 7, 2) := by decide +kernel
theorem d7_178 : decode prog_36_method_16_code 178 = .ok (.isub, 1) := by decide +kernel
theorem d7_179 : decode prog_36_method_16_code 179 = .ok (.invokestatic 85, 3) := by decide +kernel
theorem d7_182 : decode prog_36_method_16_code 182 = .ok (.aload_n 0, 1) := by decide +kernel
theorem d7_183 : decode prog_36_method_16_code 183 = .ok (.getfield 11, 3) := by decide +kernel
theorem d7_186 : decode prog_36_method_16_code 186 = .ok (.iload 6, 2) := by decide +kernel
theorem d7_188 : decode prog_36_method_16_code 188 = .ok (.aaload, 1) := by decide +kernel
theorem d7_189 : decode prog_36_method_16_code 189 = .ok (.iload 7, 2) := by decide +kernel
theorem d7_191 : decode prog_36_method_16_code 191 = .ok (.iload_n 3, 1) := by decide +kernel
theorem d7_192 : decode prog_36_method_16_code 192 = .ok (.iastore, 1) := by decide +kernel
theorem d7_193 : decode prog_36_method_16_code 193 = .ok (.aload_n 0, 1) := by decide +kernel
theorem d7_194 : decode prog_36_method_16_code 194 = .ok (.getfield 17, 3) := by decide +kernel
theorem d7_197 : decode prog_36_method_16_code 197 = .ok (.iload 6, 2) := by decide +kernel
theorem d7_199 : decode prog_36_method_16_code 199 = .ok (.aaload, 1) := by decide +kernel
theorem d7_200 : decode prog_36_method_16_code 200 = .ok (.iload 7, 2) := by decide +kernel
theorem d7_202 : decode prog_36_method_16_code 202 = .ok (.lload 4, 2) := by decide +kernel
theorem d7_204 : decode prog_36_method_16_code 204 = .ok (.lastore, 1) := by decide +kernel
theorem d7_205 : decode prog_36_method_16_code 205 = .ok (.aload_n 0, 1) := by decide +kernel
theorem d7_206 : decode prog_36_method_16_code 206 = .ok (.getfield 21, 3) := by decide +kernel
theorem d7_209 : decode prog_36_method_16_code 209 = .ok (.iload 6, 2) := by decide +kernel
theorem d7_211 : decode prog_36_method_16_code 211 = .ok (.dup2, 1) := by decide +kernel
theorem d7_212 : decode prog_36_method_16_code 212 = .ok (.iaload, 1) := by decide +kernel
theorem d7_213 : decode prog_36_method_16_code 213 = .ok (.iconst 1, 1) := by decide +kernel
theorem d7_214 : decode prog_36_method_16_code 214 = .ok (.iadd, 1) := by decide +kernel
theorem d7_215 : decode prog_36_method_16_code 215 = .ok (.iastore, 1) := by decide +kernel
theorem d7_216 : decode prog_36_method_16_code 216 = .ok (.aload_n 0, 1) := by decide +kernel
theorem d7_217 : decode prog_36_method_16_code 217 = .ok (.dup, 1) := by decide +kernel
theorem d7_218 : decode prog_36_method_16_code 218 = .ok (.getfield 31, 3) := by decide +kernel
theorem d7_221 : decode prog_36_method_16_code 221 = .ok (.iconst 1, 1) := by decide +kernel
theorem d7_222 : decode prog_36_method_16_code 222 = .ok (.iadd, 1) := by decide +kernel
theorem d7_223 : decode prog_36_method_16_code 223 = .ok (.putfield 31, 3) := by decide +kernel
theorem d7_226 : decode prog_36_method_16_code 226 = .ok (.iload 7, 2) := by decide +kernel
theorem d7_228 : decode prog_36_method_16_code 228 = .ok (.ifCond .ne 11, 3) := by decide +kernel
theorem d7_231 : decode prog_36_method_16_code 231 = .ok (.aload_n 0, 1) := by decide +kernel
theorem d7_232 : decode prog_36_method_16_code 232 = .ok (.getfield 24, 3) := by decide +kernel
theorem d7_235 : decode prog_36_method_16_code 235 = .ok (.iload 6, 2) := by decide +kernel
theorem d7_237 : decode prog_36_method_16_code 237 = .ok (.iload_n 3, 1) := by decide +kernel
theorem d7_238 : decode prog_36_method_16_code 238 = .ok (.iastore, 1) := by decide +kernel
theorem d7_239 : decode prog_36_method_16_code 239 = .ok (.return_, 1) := by decide +kernel
set_option maxRecDepth 65536 in
set_option maxHeartbeats 40000000 in
theorem ct_ins00 (Z : State) (a0 : Array Value) (hw : ∀ d ∈ tables_1, d.before a0 Z = true) (m kk kb vv vb sz fs : Addr) (f : Int32) (h0 : Heap) (nd : own_Nd m kk kb vv vb sz fs) (M : own_Mp Z h0 m kk kb vv vb sz fs (0 : Int32) f [.int (0 : Int32), .int (0 : Int32), .int (0 : Int32), .int (0 : Int32)] [.long (0 : Int64), .long (0 : Int64), .long (0 : Int64), .long (0 : Int64)]) (x : Int32) (y : Int64) :
    Ct Z ⟨"com/example/ratecraft/ratecraft/SortedIntLongMap", "insert", "(IIIJ)V"⟩ prog_36_method_16_code 8 (Option.none : Option FieldType) ({ frames := 1, cells := 0, slots := 0, locals := 26 } : Room) #[(.ref m), (.int (0 : Int32)), (.int (0 : Int32)), (.int x), (.long y)] h0 [m, kb, vb, sz, fs] (fun v h => v = none ∧ own_Mp Z h m kk kb vv vb sz fs (1 : Int32) x [.int x, .int (0 : Int32), .int (0 : Int32), .int (0 : Int32)] [.long y, .long (0 : Int64), .long (0 : Int64), .long (0 : Int64)]) := by
  refine Ct.intro (Ls := #[.val (.ref m), .val (.int (0 : Int32)), .val (.int (0 : Int32)), .val (.int x), .val (.long y), .second, .unset, .unset]) pn_0 (by intro m; first | (simp [entryFrame, mkF, argsToLocals, Value.category]; done) | rfl) ?_
  refine Rn.iloadN (pc' := 1) d7_0 rfl rfl ?_
  refine Rn.istore (pc' := 3) (Ls' := #[.val (.ref m), .val (.int (0 : Int32)), .val (.int (0 : Int32)), .val (.int x), .val (.long y), .second, .val (.int (0 : Int32)), .unset]) d7_1 rfl rfl ?_
  refine Rn.iloadN (pc' := 4) d7_3 rfl rfl ?_
  refine Rn.istore (pc' := 6) (Ls' := #[.val (.ref m), .val (.int (0 : Int32)), .val (.int (0 : Int32)), .val (.int x), .val (.long y), .second, .val (.int (0 : Int32)), .val (.int (0 : Int32))]) d7_4 rfl rfl ?_
  refine Rn.aloadN (pc' := 7) d7_6 rfl rfl rfl ?_
  refine Rn.getF (pc' := 10) (host := "") (Or.inl (hw _ (List.mem_of_getElem? (i := 21) rfl))) Via.refl M.2.2.2.1 d7_7 rfl ?_
  refine Rn.iload (pc' := 12) d7_10 rfl rfl ?_
  refine Rn.iaload (pc' := 13) (v := .int (0 : Int32)) M.2.2.2.2.2.2.2.2.2.2.2.1 (by decide) rfl d7_12 rfl ?_
  refine Rn.aloadN (pc' := 14) d7_13 rfl rfl rfl ?_
  refine Rn.getF (pc' := 17) (host := "") (Or.inl (hw _ (List.mem_of_getElem? (i := 13) rfl))) Via.refl M.2.1 d7_14 rfl ?_
  refine Rn.iload (pc' := 19) d7_17 rfl rfl ?_
  refine Rn.aaload (pc' := 20) (v := .ref kb) M.2.2.2.2.2.2.2.1 rfl (by decide) rfl d7_19 rfl ?_
  refine Rn.arraylength (pc' := 21) (n := (4 : Int32)) M.2.2.2.2.2.2.2.2.1 rfl d7_20 rfl ?_
  refine Rn.icmp_ne (pc' := 116) (pn := 24) d7_21 (by decide) (by decide) rfl (fun cq1 => ?_) (fun cq1 => absurd cq1 (by decide))
  refine Rn.aloadN (pc' := 117) d7_116 rfl rfl rfl ?_
  refine Rn.getF (pc' := 120) (host := "") (Or.inl (hw _ (List.mem_of_getElem? (i := 13) rfl))) Via.refl M.2.1 d7_117 rfl ?_
  refine Rn.iload (pc' := 122) d7_120 rfl rfl ?_
  refine Rn.aaload (pc' := 123) (v := .ref kb) M.2.2.2.2.2.2.2.1 rfl (by decide) rfl d7_122 rfl ?_
  refine Rn.iload (pc' := 125) d7_123 rfl rfl ?_
  refine Rn.aloadN (pc' := 126) d7_125 rfl rfl rfl ?_
  refine Rn.getF (pc' := 129) (host := "") (Or.inl (hw _ (List.mem_of_getElem? (i := 13) rfl))) Via.refl M.2.1 d7_126 rfl ?_
  refine Rn.iload (pc' := 131) d7_129 rfl rfl ?_
  refine Rn.aaload (pc' := 132) (v := .ref kb) M.2.2.2.2.2.2.2.1 rfl (by decide) rfl d7_131 rfl ?_
  refine Rn.iload (pc' := 134) d7_132 rfl rfl ?_
  refine Rn.iconst (pc' := 135) (v := (1 : Int32)) d7_134 rfl rfl ?_
  refine Rn.iadd (pc' := 136) (v := (1 : Int32)) d7_135 rfl rfl ?_
  refine Rn.aloadN (pc' := 137) d7_136 rfl rfl rfl ?_
  refine Rn.getF (pc' := 140) (host := "") (Or.inl (hw _ (List.mem_of_getElem? (i := 21) rfl))) Via.refl M.2.2.2.1 d7_137 rfl ?_
  refine Rn.iload (pc' := 142) d7_140 rfl rfl ?_
  refine Rn.iaload (pc' := 143) (v := .int (0 : Int32)) M.2.2.2.2.2.2.2.2.2.2.2.1 (by decide) rfl d7_142 rfl ?_
  refine Rn.iload (pc' := 145) d7_143 rfl rfl ?_
  refine Rn.isub (pc' := 146) (v := (0 : Int32)) d7_145 rfl rfl ?_
  refine Rn.arraycopy (pc' := 149) (vs' := [.int (0 : Int32), .int (0 : Int32), .int (0 : Int32), .int (0 : Int32)]) M.2.2.2.2.2.2.2.2.1 M.2.2.2.2.2.2.2.2.1 (by simp [fits]) (by simp [fits]) rfl (hw _ (List.mem_of_getElem? (i := 50) rfl)) (hw _ (List.mem_of_getElem? (i := 53) rfl)) (hw _ (List.mem_of_getElem? (i := 51) rfl)) (hw _ (List.mem_of_getElem? (i := 52) rfl)) (by decide) (by decide) (by decide) (Nat.le_of_ble_eq_true rfl) (Nat.le_of_ble_eq_true rfl) rfl rfl d7_146 (Nat.le_of_ble_eq_true rfl) (Nat.le_of_ble_eq_true rfl) (Or.inl (List.mem_of_getElem? (i := 1) rfl)) Sf.no rfl (fun hq3 Kq2 Aq4 => ?_)
  refine Rn.aloadN (pc' := 150) d7_149 rfl rfl rfl ?_
  have Fq5 := M.2.2.1.keep Kq2 (ninS nd.2.1 nin0)
  refine Rn.getF (pc' := 153) (host := "") (Or.inl (hw _ (List.mem_of_getElem? (i := 19) rfl))) Via.refl Fq5 d7_150 rfl ?_
  refine Rn.iload (pc' := 155) d7_153 rfl rfl ?_
  have Fq6 := M.2.2.2.2.2.2.2.2.2.1.keep Kq2 (ninS (Ne.symm nd.2.2.2.2.2.2.2.2.2.2.2.1) nin0)
  refine Rn.aaload (pc' := 156) (v := .ref vb) Fq6 rfl (by decide) rfl d7_155 rfl ?_
  refine Rn.iload (pc' := 158) d7_156 rfl rfl ?_
  refine Rn.aloadN (pc' := 159) d7_158 rfl rfl rfl ?_
  refine Rn.getF (pc' := 162) (host := "") (Or.inl (hw _ (List.mem_of_getElem? (i := 19) rfl))) Via.refl Fq5 d7_159 rfl ?_
  refine Rn.iload (pc' := 164) d7_162 rfl rfl ?_
  refine Rn.aaload (pc' := 165) (v := .ref vb) Fq6 rfl (by decide) rfl d7_164 rfl ?_
  refine Rn.iload (pc' := 167) d7_165 rfl rfl ?_
  refine Rn.iconst (pc' := 168) (v := (1 : Int32)) d7_167 rfl rfl ?_
  refine Rn.iadd (pc' := 169) (v := (1 : Int32)) d7_168 rfl rfl ?_
  refine Rn.aloadN (pc' := 170) d7_169 rfl rfl rfl ?_
  have Fq7 := M.2.2.2.1.keep Kq2 (ninS nd.2.1 nin0)
  refine Rn.getF (pc' := 173) (host := "") (Or.inl (hw _ (List.mem_of_getElem? (i := 21) rfl))) Via.refl Fq7 d7_170 rfl ?_
  refine Rn.iload (pc' := 175) d7_173 rfl rfl ?_
  have Fq8 := M.2.2.2.2.2.2.2.2.2.2.2.1.keep Kq2 (ninS (Ne.symm nd.2.2.2.2.2.2.2.2.2.2.2.2.2.1) nin0)
  refine Rn.iaload (pc' := 176) (v := .int (0 : Int32)) Fq8 (by decide) rfl d7_175 rfl ?_
  refine Rn.iload (pc' := 178) d7_176 rfl rfl ?_
  refine Rn.isub (pc' := 179) (v := (0 : Int32)) d7_178 rfl rfl ?_
  have Fq9 := M.2.2.2.2.2.2.2.2.2.2.1.keep Kq2 (ninS (Ne.symm nd.2.2.2.2.2.2.2.2.2.2.2.2.1) nin0)
  refine Rn.arraycopy (pc' := 182) (vs' := [.long (0 : Int64), .long (0 : Int64), .long (0 : Int64), .long (0 : Int64)]) Fq9 Fq9 (by simp [fits]) (by simp [fits]) rfl (hw _ (List.mem_of_getElem? (i := 50) rfl)) (hw _ (List.mem_of_getElem? (i := 53) rfl)) (hw _ (List.mem_of_getElem? (i := 51) rfl)) (hw _ (List.mem_of_getElem? (i := 52) rfl)) (by decide) (by decide) (by decide) (Nat.le_of_ble_eq_true rfl) (Nat.le_of_ble_eq_true rfl) rfl rfl d7_179 (Nat.le_of_ble_eq_true rfl) (Nat.le_of_ble_eq_true rfl) (Or.inl (List.mem_of_getElem? (i := 2) rfl)) Sf.no rfl (fun hq11 Kq10 Aq12 => ?_)
  refine Rn.aloadN (pc' := 183) d7_182 rfl rfl rfl ?_
  have Fq13 := M.2.1.keep Kq2 (ninS nd.2.1 nin0)
  have Fq14 := Fq13.keep Kq10 (ninS nd.2.2.2.1 nin0)
  refine Rn.getF (pc' := 186) (host := "") (Or.inl (hw _ (List.mem_of_getElem? (i := 13) rfl))) Via.refl Fq14 d7_183 rfl ?_
  refine Rn.iload (pc' := 188) d7_186 rfl rfl ?_
  have Fq15 := M.2.2.2.2.2.2.2.1.keep Kq2 (ninS nd.2.2.2.2.2.2.1 nin0)
  have Fq16 := Fq15.keep Kq10 (ninS nd.2.2.2.2.2.2.2.2.1 nin0)
  refine Rn.aaload (pc' := 189) (v := .ref kb) Fq16 rfl (by decide) rfl d7_188 rfl ?_
  refine Rn.iload (pc' := 191) d7_189 rfl rfl ?_
  refine Rn.iloadN (pc' := 192) d7_191 rfl rfl ?_
  have Fq17 := Aq4.keep Kq10 (ninS nd.2.2.2.2.2.2.2.2.2.2.2.2.1 nin0)
  refine Rn.iastore (pc' := 193) (v := .int x) Fq17 (by decide) (Nat.le_of_ble_eq_true rfl) rfl (Or.inl (List.mem_of_getElem? (i := 1) rfl)) Sf.no d7_192 rfl (fun hq19 Wq18 Aq20 => ?_)
  have Aq21 : Ax Z hq19 kb .int ([.int x, .int (0 : Int32), .int (0 : Int32), .int (0 : Int32)]) := Aq20
  refine Rn.aloadN (pc' := 194) d7_193 rfl rfl rfl ?_
  have Fq22 := Fq5.keep Kq10 (ninS nd.2.2.2.1 nin0)
  have Fq23 := Fq22.other Wq18 (Or.inl nd.2.1)
  refine Rn.getF (pc' := 197) (host := "") (Or.inl (hw _ (List.mem_of_getElem? (i := 19) rfl))) Via.refl Fq23 d7_194 rfl ?_
  refine Rn.iload (pc' := 199) d7_197 rfl rfl ?_
  have Fq24 := Fq6.keep Kq10 (ninS nd.2.2.2.2.2.2.2.2.2.2.2.2.2.2.2.1 nin0)
  have Fq25 := Fq24.other Wq18 (Ne.symm nd.2.2.2.2.2.2.2.2.2.2.2.1)
  refine Rn.aaload (pc' := 200) (v := .ref vb) Fq25 rfl (by decide) rfl d7_199 rfl ?_
  refine Rn.iload (pc' := 202) d7_200 rfl rfl ?_
  refine Rn.lload (pc' := 204) d7_202 rfl rfl ?_
  have Fq26 := Aq12.other Wq18 (Ne.symm nd.2.2.2.2.2.2.2.2.2.2.2.2.1)
  refine Rn.lastore (pc' := 205) (v := .long y) Fq26 (by decide) (Nat.le_of_ble_eq_true rfl) rfl (Or.inl (List.mem_of_getElem? (i := 2) rfl)) Sf.no d7_204 rfl (fun hq28 Wq27 Aq29 => ?_)
  have Aq30 : Ax Z hq28 vb .long ([.long y, .long (0 : Int64), .long (0 : Int64), .long (0 : Int64)]) := Aq29
  refine Rn.aloadN (pc' := 206) d7_205 rfl rfl rfl ?_
  have Fq31 := Fq7.keep Kq10 (ninS nd.2.2.2.1 nin0)
  have Fq32 := Fq31.other Wq18 (Or.inl nd.2.1)
  have Fq33 := Fq32.other Wq27 (Or.inl nd.2.2.2.1)
  refine Rn.getF (pc' := 209) (host := "") (Or.inl (hw _ (List.mem_of_getElem? (i := 21) rfl))) Via.refl Fq33 d7_206 rfl ?_
  refine Rn.iload (pc' := 211) d7_209 rfl rfl ?_
  refine Rn.dup2 (pc' := 212) d7_211 rfl rfl rfl ?_
  have Fq34 := Fq8.keep Kq10 (ninS (Ne.symm nd.2.2.2.2.2.2.2.2.2.2.2.2.2.2.2.2.2.2.1) nin0)
  have Fq35 := Fq34.other Wq18 (Ne.symm nd.2.2.2.2.2.2.2.2.2.2.2.2.2.1)
  have Fq36 := Fq35.other Wq27 (Ne.symm nd.2.2.2.2.2.2.2.2.2.2.2.2.2.2.2.2.2.2.1)
  refine Rn.iaload (pc' := 213) (v := .int (0 : Int32)) Fq36 (by decide) rfl d7_212 rfl ?_
  refine Rn.iconst (pc' := 214) (v := (1 : Int32)) d7_213 rfl rfl ?_
  refine Rn.iadd (pc' := 215) (v := (1 : Int32)) d7_214 rfl rfl ?_
  refine Rn.iastore (pc' := 216) (v := .int (1 : Int32)) Fq36 (by decide) (Nat.le_of_ble_eq_true rfl) rfl (Or.inl (List.mem_of_getElem? (i := 3) rfl)) Sf.no d7_215 rfl (fun hq38 Wq37 Aq39 => ?_)
  have Aq40 : Ax Z hq38 sz .int ([.int (1 : Int32)]) := Aq39
  refine Rn.aloadN (pc' := 217) d7_216 rfl rfl rfl ?_
  refine Rn.dup (pc' := 218) d7_217 rfl rfl ?_
  have Fq41 := M.2.2.2.2.2.2.1.keep Kq2 (ninS nd.2.1 nin0)
  have Fq42 := Fq41.keep Kq10 (ninS nd.2.2.2.1 nin0)
  have Fq43 := Fq42.other Wq18 (Or.inl nd.2.1)
  have Fq44 := Fq43.other Wq27 (Or.inl nd.2.2.2.1)
  have Fq45 := Fq44.other Wq37 (Or.inl nd.2.2.2.2.1)
  refine Rn.getF (pc' := 221) (host := "") (Or.inl (hw _ (List.mem_of_getElem? (i := 54) rfl))) Via.refl Fq45 d7_218 rfl ?_
  refine Rn.iconst (pc' := 222) (v := (1 : Int32)) d7_221 rfl rfl ?_
  refine Rn.iadd (pc' := 223) (v := (1 : Int32)) d7_222 rfl rfl ?_
  have Fq46 := M.1.keep Kq2
  have Fq47 := Fq46.keep Kq10
  have Fq48 := Fq47.wr Wq18
  have Fq49 := Fq48.wr Wq27
  have Fq50 := Fq49.wr Wq37
  refine Rn.putF (pc' := 226) (hw _ (List.mem_of_getElem? (i := 54) rfl)) Via.refl Fq45 Fq50 (Or.inl (hw _ (List.mem_of_getElem? (i := 55) rfl))) (hw _ (List.mem_of_getElem? (i := 1) rfl)) (ty := .int) (by decide) rfl rfl (Or.inl (List.mem_of_getElem? (i := 0) rfl)) Sf.no d7_223 rfl (fun hq52 Wq51 => ?_)
  have Fq53 := Fq45.same Wq51
  refine Rn.iload (pc' := 228) d7_226 rfl rfl ?_
  refine Rn.if_ne (pc' := 239) (pn := 231) d7_228 (by decide) (by decide) rfl (fun cq54 => absurd cq54 (by decide)) (fun cq54 => ?_)
  refine Rn.aloadN (pc' := 232) d7_231 rfl rfl rfl ?_
  have Fq55 := M.2.2.2.2.1.keep Kq2 (ninS nd.2.1 nin0)
  have Fq56 := Fq55.keep Kq10 (ninS nd.2.2.2.1 nin0)
  have Fq57 := Fq56.other Wq18 (Or.inl nd.2.1)
  have Fq58 := Fq57.other Wq27 (Or.inl nd.2.2.2.1)
  have Fq59 := Fq58.other Wq37 (Or.inl nd.2.2.2.2.1)
  have Fq60 := Fq59.other Wq51 (Or.inr (slot_ne (t := (.array .int)) (t' := .int) (Or.inl (hw _ (List.mem_of_getElem? (i := 24) rfl))) (Or.inl (hw _ (List.mem_of_getElem? (i := 55) rfl))) (by decide) (by decide) (by decide)))
  refine Rn.getF (pc' := 235) (host := "") (Or.inl (hw _ (List.mem_of_getElem? (i := 23) rfl))) Via.refl Fq60 d7_232 rfl ?_
  refine Rn.iload (pc' := 237) d7_235 rfl rfl ?_
  refine Rn.iloadN (pc' := 238) d7_237 rfl rfl ?_
  have Fq61 := M.2.2.2.2.2.2.2.2.2.2.2.2.keep Kq2 (ninS (Ne.symm nd.2.2.2.2.2.2.2.2.2.2.2.2.2.2.1) nin0)
  have Fq62 := Fq61.keep Kq10 (ninS (Ne.symm nd.2.2.2.2.2.2.2.2.2.2.2.2.2.2.2.2.2.2.2.1) nin0)
  have Fq63 := Fq62.other Wq18 (Ne.symm nd.2.2.2.2.2.2.2.2.2.2.2.2.2.2.1)
  have Fq64 := Fq63.other Wq27 (Ne.symm nd.2.2.2.2.2.2.2.2.2.2.2.2.2.2.2.2.2.2.2.1)
  have Fq65 := Fq64.other Wq37 (Ne.symm nd.2.2.2.2.2.2.2.2.2.2.2.2.2.2.2.2.2.2.2.2)
  have Fq66 := Fq65.other Wq51 (Ne.symm nd.2.2.2.2.2.1)
  refine Rn.iastore (pc' := 239) (v := .int x) Fq66 (by decide) (Nat.le_of_ble_eq_true rfl) rfl (Or.inl (List.mem_of_getElem? (i := 4) rfl)) Sf.no d7_238 rfl (fun hq68 Wq67 Aq69 => ?_)
  have Aq70 : Ax Z hq68 fs .int ([.int x]) := Aq69
  refine Rn.retV rfl d7_239 (Nat.le_of_ble_eq_true rfl) (Nat.le_of_ble_eq_true rfl) ?_
  have Fq71 := Fq50.wr Wq51
  have Fq72 := Fq71.wr Wq67
  have Fq73 := Fq14.other Wq18 (Or.inl nd.2.1)
  have Fq74 := Fq73.other Wq27 (Or.inl nd.2.2.2.1)
  have Fq75 := Fq74.other Wq37 (Or.inl nd.2.2.2.2.1)
  have Fq76 := Fq75.other Wq51 (Or.inr (slot_ne (t := (.array (.array .int))) (t' := .int) (Or.inl (hw _ (List.mem_of_getElem? (i := 14) rfl))) (Or.inl (hw _ (List.mem_of_getElem? (i := 55) rfl))) (by decide) (by decide) (by decide)))
  have Fq77 := Fq76.other Wq67 (Or.inl nd.2.2.2.2.2.1)
  have Fq78 := Fq23.other Wq27 (Or.inl nd.2.2.2.1)
  have Fq79 := Fq78.other Wq37 (Or.inl nd.2.2.2.2.1)
  have Fq80 := Fq79.other Wq51 (Or.inr (slot_ne (t := (.array (.array .long))) (t' := .int) (Or.inl (hw _ (List.mem_of_getElem? (i := 20) rfl))) (Or.inl (hw _ (List.mem_of_getElem? (i := 55) rfl))) (by decide) (by decide) (by decide)))
  have Fq81 := Fq80.other Wq67 (Or.inl nd.2.2.2.2.2.1)
  have Fq82 := Fq33.other Wq37 (Or.inl nd.2.2.2.2.1)
  have Fq83 := Fq82.other Wq51 (Or.inr (slot_ne (t := (.array .int)) (t' := .int) (Or.inl (hw _ (List.mem_of_getElem? (i := 22) rfl))) (Or.inl (hw _ (List.mem_of_getElem? (i := 55) rfl))) (by decide) (by decide) (by decide)))
  have Fq84 := Fq83.other Wq67 (Or.inl nd.2.2.2.2.2.1)
  have Fq85 := Fq60.other Wq67 (Or.inl nd.2.2.2.2.2.1)
  have Fq86 := M.2.2.2.2.2.1.keep Kq2 (ninS nd.2.1 nin0)
  have Fq87 := Fq86.keep Kq10 (ninS nd.2.2.2.1 nin0)
  have Fq88 := Fq87.other Wq18 (Or.inl nd.2.1)
  have Fq89 := Fq88.other Wq27 (Or.inl nd.2.2.2.1)
  have Fq90 := Fq89.other Wq37 (Or.inl nd.2.2.2.2.1)
  have Fq91 := Fq90.other Wq51 (Or.inr (slot_ne (t := .int) (t' := .int) (Or.inl (hw _ (List.mem_of_getElem? (i := 26) rfl))) (Or.inl (hw _ (List.mem_of_getElem? (i := 55) rfl))) (by decide) (by decide) (by decide)))
  have Fq92 := Fq91.other Wq67 (Or.inl nd.2.2.2.2.2.1)
  have Fq93 := Fq53.other Wq67 (Or.inl nd.2.2.2.2.2.1)
  have Fq94 := Fq16.other Wq18 nd.2.2.2.2.2.2.1
  have Fq95 := Fq94.other Wq27 nd.2.2.2.2.2.2.2.2.1
  have Fq96 := Fq95.other Wq37 nd.2.2.2.2.2.2.2.2.2.1
  have Fq97 := Fq96.other Wq51 (Ne.symm nd.1)
  have Fq98 := Fq97.other Wq67 nd.2.2.2.2.2.2.2.2.2.2.1
  have Fq99 := Aq21.other Wq27 nd.2.2.2.2.2.2.2.2.2.2.2.2.1
  have Fq100 := Fq99.other Wq37 nd.2.2.2.2.2.2.2.2.2.2.2.2.2.1
  have Fq101 := Fq100.other Wq51 (Ne.symm nd.2.1)
  have Fq102 := Fq101.other Wq67 nd.2.2.2.2.2.2.2.2.2.2.2.2.2.2.1
  have Fq103 := Fq25.other Wq27 nd.2.2.2.2.2.2.2.2.2.2.2.2.2.2.2.1
  have Fq104 := Fq103.other Wq37 nd.2.2.2.2.2.2.2.2.2.2.2.2.2.2.2.2.1
  have Fq105 := Fq104.other Wq51 (Ne.symm nd.2.2.1)
  have Fq106 := Fq105.other Wq67 nd.2.2.2.2.2.2.2.2.2.2.2.2.2.2.2.2.2.1
  have Fq107 := Aq30.other Wq37 nd.2.2.2.2.2.2.2.2.2.2.2.2.2.2.2.2.2.2.1
  have Fq108 := Fq107.other Wq51 (Ne.symm nd.2.2.2.1)
  have Fq109 := Fq108.other Wq67 nd.2.2.2.2.2.2.2.2.2.2.2.2.2.2.2.2.2.2.2.1
  have Fq110 := Aq40.other Wq51 (Ne.symm nd.2.2.2.2.1)
  have Fq111 := Fq110.other Wq67 nd.2.2.2.2.2.2.2.2.2.2.2.2.2.2.2.2.2.2.2.2
  exact ⟨rfl, ⟨Fq72, Fq77, Fq81, Fq84, Fq85, Fq92, Fq93, Fq98, Fq102, Fq106, Fq109, Fq111, Aq70⟩⟩
set_option maxRecDepth 65536 in
set_option maxHeartbeats 40000000 in
theorem ct_ins10 (Z : State) (a0 : Array Value) (hw : ∀ d ∈ tables_1, d.before a0 Z = true) (m kk kb vv vb sz fs : Addr) (f k0 : Int32) (u0 : Int64) (h0 : Heap) (nd : own_Nd m kk kb vv vb sz fs) (M : own_Mp Z h0 m kk kb vv vb sz fs (1 : Int32) f [.int k0, .int (0 : Int32), .int (0 : Int32), .int (0 : Int32)] [.long u0, .long (0 : Int64), .long (0 : Int64), .long (0 : Int64)]) (x : Int32) (y : Int64) :
    Ct Z ⟨"com/example/ratecraft/ratecraft/SortedIntLongMap", "insert", "(IIIJ)V"⟩ prog_36_method_16_code 8 (Option.none : Option FieldType) ({ frames := 1, cells := 0, slots := 0, locals := 26 } : Room) #[(.ref m), (.int (0 : Int32)), (.int (0 : Int32)), (.int x), (.long y)] h0 [m, kb, vb, sz, fs] (fun v h => v = none ∧ own_Mp Z h m kk kb vv vb sz fs (2 : Int32) x [.int x, .int k0, .int (0 : Int32), .int (0 : Int32)] [.long y, .long u0, .long (0 : Int64), .long (0 : Int64)]) := by
  refine Ct.intro (Ls := #[.val (.ref m), .val (.int (0 : Int32)), .val (.int (0 : Int32)), .val (.int x), .val (.long y), .second, .unset, .unset]) pn_0 (by intro m; first | (simp [entryFrame, mkF, argsToLocals, Value.category]; done) | rfl) ?_
  refine Rn.iloadN (pc' := 1) d7_0 rfl rfl ?_
  refine Rn.istore (pc' := 3) (Ls' := #[.val (.ref m), .val (.int (0 : Int32)), .val (.int (0 : Int32)), .val (.int x), .val (.long y), .second, .val (.int (0 : Int32)), .unset]) d7_1 rfl rfl ?_
  refine Rn.iloadN (pc' := 4) d7_3 rfl rfl ?_
  refine Rn.istore (pc' := 6) (Ls' := #[.val (.ref m), .val (.int (0 : Int32)), .val (.int (0 : Int32)), .val (.int x), .val (.long y), .second, .val (.int (0 : Int32)), .val (.int (0 : Int32))]) d7_4 rfl rfl ?_
  refine Rn.aloadN (pc' := 7) d7_6 rfl rfl rfl ?_
  refine Rn.getF (pc' := 10) (host := "") (Or.inl (hw _ (List.mem_of_getElem? (i := 21) rfl))) Via.refl M.2.2.2.1 d7_7 rfl ?_
  refine Rn.iload (pc' := 12) d7_10 rfl rfl ?_
  refine Rn.iaload (pc' := 13) (v := .int (1 : Int32)) M.2.2.2.2.2.2.2.2.2.2.2.1 (by decide) rfl d7_12 rfl ?_
  refine Rn.aloadN (pc' := 14) d7_13 rfl rfl rfl ?_
  refine Rn.getF (pc' := 17) (host := "") (Or.inl (hw _ (List.mem_of_getElem? (i := 13) rfl))) Via.refl M.2.1 d7_14 rfl ?_
  refine Rn.iload (pc' := 19) d7_17 rfl rfl ?_
  refine Rn.aaload (pc' := 20) (v := .ref kb) M.2.2.2.2.2.2.2.1 rfl (by decide) rfl d7_19 rfl ?_
  refine Rn.arraylength (pc' := 21) (n := (4 : Int32)) M.2.2.2.2.2.2.2.2.1 rfl d7_20 rfl ?_
  refine Rn.icmp_ne (pc' := 116) (pn := 24) d7_21 (by decide) (by decide) rfl (fun cq1 => ?_) (fun cq1 => absurd cq1 (by decide))
  refine Rn.aloadN (pc' := 117) d7_116 rfl rfl rfl ?_
  refine Rn.getF (pc' := 120) (host := "") (Or.inl (hw _ (List.mem_of_getElem? (i := 13) rfl))) Via.refl M.2.1 d7_117 rfl ?_
  refine Rn.iload (pc' := 122) d7_120 rfl rfl ?_
  refine Rn.aaload (pc' := 123) (v := .ref kb) M.2.2.2.2.2.2.2.1 rfl (by decide) rfl d7_122 rfl ?_
  refine Rn.iload (pc' := 125) d7_123 rfl rfl ?_
  refine Rn.aloadN (pc' := 126) d7_125 rfl rfl rfl ?_
  refine Rn.getF (pc' := 129) (host := "") (Or.inl (hw _ (List.mem_of_getElem? (i := 13) rfl))) Via.refl M.2.1 d7_126 rfl ?_
  refine Rn.iload (pc' := 131) d7_129 rfl rfl ?_
  refine Rn.aaload (pc' := 132) (v := .ref kb) M.2.2.2.2.2.2.2.1 rfl (by decide) rfl d7_131 rfl ?_
  refine Rn.iload (pc' := 134) d7_132 rfl rfl ?_
  refine Rn.iconst (pc' := 135) (v := (1 : Int32)) d7_134 rfl rfl ?_
  refine Rn.iadd (pc' := 136) (v := (1 : Int32)) d7_135 rfl rfl ?_
  refine Rn.aloadN (pc' := 137) d7_136 rfl rfl rfl ?_
  refine Rn.getF (pc' := 140) (host := "") (Or.inl (hw _ (List.mem_of_getElem? (i := 21) rfl))) Via.refl M.2.2.2.1 d7_137 rfl ?_
  refine Rn.iload (pc' := 142) d7_140 rfl rfl ?_
  refine Rn.iaload (pc' := 143) (v := .int (1 : Int32)) M.2.2.2.2.2.2.2.2.2.2.2.1 (by decide) rfl d7_142 rfl ?_
  refine Rn.iload (pc' := 145) d7_143 rfl rfl ?_
  refine Rn.isub (pc' := 146) (v := (1 : Int32)) d7_145 rfl rfl ?_
  refine Rn.arraycopy (pc' := 149) (vs' := [.int k0, .int k0, .int (0 : Int32), .int (0 : Int32)]) M.2.2.2.2.2.2.2.2.1 M.2.2.2.2.2.2.2.2.1 (by simp [fits]) (by simp [fits]) rfl (hw _ (List.mem_of_getElem? (i := 50) rfl)) (hw _ (List.mem_of_getElem? (i := 53) rfl)) (hw _ (List.mem_of_getElem? (i := 51) rfl)) (hw _ (List.mem_of_getElem? (i := 52) rfl)) (by decide) (by decide) (by decide) (Nat.le_of_ble_eq_true rfl) (Nat.le_of_ble_eq_true rfl) rfl rfl d7_146 (Nat.le_of_ble_eq_true rfl) (Nat.le_of_ble_eq_true rfl) (Or.inl (List.mem_of_getElem? (i := 1) rfl)) Sf.no rfl (fun hq3 Kq2 Aq4 => ?_)
  refine Rn.aloadN (pc' := 150) d7_149 rfl rfl rfl ?_
  have Fq5 := M.2.2.1.keep Kq2 (ninS nd.2.1 nin0)
  refine Rn.getF (pc' := 153) (host := "") (Or.inl (hw _ (List.mem_of_getElem? (i := 19) rfl))) Via.refl Fq5 d7_150 rfl ?_
  refine Rn.iload (pc' := 155) d7_153 rfl rfl ?_
  have Fq6 := M.2.2.2.2.2.2.2.2.2.1.keep Kq2 (ninS (Ne.symm nd.2.2.2.2.2.2.2.2.2.2.2.1) nin0)
  refine Rn.aaload (pc' := 156) (v := .ref vb) Fq6 rfl (by decide) rfl d7_155 rfl ?_
  refine Rn.iload (pc' := 158) d7_156 rfl rfl ?_
  refine Rn.aloadN (pc' := 159) d7_158 rfl rfl rfl ?_
  refine Rn.getF (pc' := 162) (host := "") (Or.inl (hw _ (List.mem_of_getElem? (i := 19) rfl))) Via.refl Fq5 d7_159 rfl ?_
  refine Rn.iload (pc' := 164) d7_162 rfl rfl ?_
  refine Rn.aaload (pc' := 165) (v := .ref vb) Fq6 rfl (by decide) rfl d7_164 rfl ?_
  refine Rn.iload (pc' := 167) d7_165 rfl rfl ?_
  refine Rn.iconst (pc' := 168) (v := (1 : Int32)) d7_167 rfl rfl ?_
  refine Rn.iadd (pc' := 169) (v := (1 : Int32)) d7_168 rfl rfl ?_
  refine Rn.aloadN (pc' := 170) d7_169 rfl rfl rfl ?_
  have Fq7 := M.2.2.2.1.keep Kq2 (ninS nd.2.1 nin0)
  refine Rn.getF (pc' := 173) (host := "") (Or.inl (hw _ (List.mem_of_getElem? (i := 21) rfl))) Via.refl Fq7 d7_170 rfl ?_
  refine Rn.iload (pc' := 175) d7_173 rfl rfl ?_
  have Fq8 := M.2.2.2.2.2.2.2.2.2.2.2.1.keep Kq2 (ninS (Ne.symm nd.2.2.2.2.2.2.2.2.2.2.2.2.2.1) nin0)
  refine Rn.iaload (pc' := 176) (v := .int (1 : Int32)) Fq8 (by decide) rfl d7_175 rfl ?_
  refine Rn.iload (pc' := 178) d7_176 rfl rfl ?_
  refine Rn.isub (pc' := 179) (v := (1 : Int32)) d7_178 rfl rfl ?_
  have Fq9 := M.2.2.2.2.2.2.2.2.2.2.1.keep Kq2 (ninS (Ne.symm nd.2.2.2.2.2.2.2.2.2.2.2.2.1) nin0)
  refine Rn.arraycopy (pc' := 182) (vs' := [.long u0, .long u0, .long (0 : Int64), .long (0 : Int64)]) Fq9 Fq9 (by simp [fits]) (by simp [fits]) rfl (hw _ (List.mem_of_getElem? (i := 50) rfl)) (hw _ (List.mem_of_getElem? (i := 53) rfl)) (hw _ (List.mem_of_getElem? (i := 51) rfl)) (hw _ (List.mem_of_getElem? (i := 52) rfl)) (by decide) (by decide) (by decide) (Nat.le_of_ble_eq_true rfl) (Nat.le_of_ble_eq_true rfl) rfl rfl d7_179 (Nat.le_of_ble_eq_true rfl) (Nat.le_of_ble_eq_true rfl) (Or.inl (List.mem_of_getElem? (i := 2) rfl)) Sf.no rfl (fun hq11 Kq10 Aq12 => ?_)
  refine Rn.aloadN (pc' := 183) d7_182 rfl rfl rfl ?_
  have Fq13 := M.2.1.keep Kq2 (ninS nd.2.1 nin0)
  have Fq14 := Fq13.keep Kq10 (ninS nd.2.2.2.1 nin0)
  refine Rn.getF (pc' := 186) (host := "") (Or.inl (hw _ (List.mem_of_getElem? (i := 13) rfl))) Via.refl Fq14 d7_183 rfl ?_
  refine Rn.iload (pc' := 188) d7_186 rfl rfl ?_
  have Fq15 := M.2.2.2.2.2.2.2.1.keep Kq2 (ninS nd.2.2.2.2.2.2.1 nin0)
  have Fq16 := Fq15.keep Kq10 (ninS nd.2.2.2.2.2.2.2.2.1 nin0)
  refine Rn.aaload (pc' := 189) (v := .ref kb) Fq16 rfl (by decide) rfl d7_188 rfl ?_
  refine Rn.iload (pc' := 191) d7_189 rfl rfl ?_
  refine Rn.iloadN (pc' := 192) d7_191 rfl rfl ?_
  have Fq17 := Aq4.keep Kq10 (ninS nd.2.2.2.2.2.2.2.2.2.2.2.2.1 nin0)
  refine Rn.iastore (pc' := 193) (v := .int x) Fq17 (by decide) (Nat.le_of_ble_eq_true rfl) rfl (Or.inl (List.mem_of_getElem? (i := 1) rfl)) Sf.no d7_192 rfl (fun hq19 Wq18 Aq20 => ?_)
  have Aq21 : Ax Z hq19 kb .int ([.int x, .int k0, .int (0 : Int32), .int (0 : Int32)]) := Aq20
  refine Rn.aloadN (pc' := 194) d7_193 rfl rfl rfl ?_
  have Fq22 := Fq5.keep Kq10 (ninS nd.2.2.2.1 nin0)
  have Fq23 := Fq22.other Wq18 (Or.inl nd.2.1)
  refine Rn.getF (pc' := 197) (host := "") (Or.inl (hw _ (List.mem_of_getElem? (i := 19) rfl))) Via.refl Fq23 d7_194 rfl ?_
  refine Rn.iload (pc' := 199) d7_197 rfl rfl ?_
  have Fq24 := Fq6.keep Kq10 (ninS nd.2.2.2.2.2.2.2.2.2.2.2.2.2.2.2.1 nin0)
  have Fq25 := Fq24.other Wq18 (Ne.symm nd.2.2.2.2.2.2.2.2.2.2.2.1)
  refine Rn.aaload (pc' := 200) (v := .ref vb) Fq25 rfl (by decide) rfl d7_199 rfl ?_
  refine Rn.iload (pc' := 202) d7_200 rfl rfl ?_
  refine Rn.lload (pc' := 204) d7_202 rfl rfl ?_
  have Fq26 := Aq12.other Wq18 (Ne.symm nd.2.2.2.2.2.2.2.2.2.2.2.2.1)
  refine Rn.lastore (pc' := 205) (v := .long y) Fq26 (by decide) (Nat.le_of_ble_eq_true rfl) rfl (Or.inl (List.mem_of_getElem? (i := 2) rfl)) Sf.no d7_204 rfl (fun hq28 Wq27 Aq29 => ?_)
  have Aq30 : Ax Z hq28 vb .long ([.long y, .long u0, .long (0 : Int64), .long (0 : Int64)]) := Aq29
  refine Rn.aloadN (pc' := 206) d7_205 rfl rfl rfl ?_
  have Fq31 := Fq7.keep Kq10 (ninS nd.2.2.2.1 nin0)
  have Fq32 := Fq31.other Wq18 (Or.inl nd.2.1)
  have Fq33 := Fq32.other Wq27 (Or.inl nd.2.2.2.1)
  refine Rn.getF (pc' := 209) (host := "") (Or.inl (hw _ (List.mem_of_getElem? (i := 21) rfl))) Via.refl Fq33 d7_206 rfl ?_
  refine Rn.iload (pc' := 211) d7_209 rfl rfl ?_
  refine Rn.dup2 (pc' := 212) d7_211 rfl rfl rfl ?_
  have Fq34 := Fq8.keep Kq10 (ninS (Ne.symm nd.2.2.2.2.2.2.2.2.2.2.2.2.2.2.2.2.2.2.1) nin0)
  have Fq35 := Fq34.other Wq18 (Ne.symm nd.2.2.2.2.2.2.2.2.2.2.2.2.2.1)
  have Fq36 := Fq35.other Wq27 (Ne.symm nd.2.2.2.2.2.2.2.2.2.2.2.2.2.2.2.2.2.2.1)
  refine Rn.iaload (pc' := 213) (v := .int (1 : Int32)) Fq36 (by decide) rfl d7_212 rfl ?_
  refine Rn.iconst (pc' := 214) (v := (1 : Int32)) d7_213 rfl rfl ?_
  refine Rn.iadd (pc' := 215) (v := (2 : Int32)) d7_214 rfl rfl ?_
  refine Rn.iastore (pc' := 216) (v := .int (2 : Int32)) Fq36 (by decide) (Nat.le_of_ble_eq_true rfl) rfl (Or.inl (List.mem_of_getElem? (i := 3) rfl)) Sf.no d7_215 rfl (fun hq38 Wq37 Aq39 => ?_)
  have Aq40 : Ax Z hq38 sz .int ([.int (2 : Int32)]) := Aq39
  refine Rn.aloadN (pc' := 217) d7_216 rfl rfl rfl ?_
  refine Rn.dup (pc' := 218) d7_217 rfl rfl ?_
  have Fq41 := M.2.2.2.2.2.2.1.keep Kq2 (ninS nd.2.1 nin0)
  have Fq42 := Fq41.keep Kq10 (ninS nd.2.2.2.1 nin0)
  have Fq43 := Fq42.other Wq18 (Or.inl nd.2.1)
  have Fq44 := Fq43.other Wq27 (Or.inl nd.2.2.2.1)
  have Fq45 := Fq44.other Wq37 (Or.inl nd.2.2.2.2.1)
  refine Rn.getF (pc' := 221) (host := "") (Or.inl (hw _ (List.mem_of_getElem? (i := 54) rfl))) Via.refl Fq45 d7_218 rfl ?_
  refine Rn.iconst (pc' := 222) (v := (1 : Int32)) d7_221 rfl rfl ?_
  refine Rn.iadd (pc' := 223) (v := (2 : Int32)) d7_222 rfl rfl ?_
  have Fq46 := M.1.keep Kq2
  have Fq47 := Fq46.keep Kq10
  have Fq48 := Fq47.wr Wq18
  have Fq49 := Fq48.wr Wq27
  have Fq50 := Fq49.wr Wq37
  refine Rn.putF (pc' := 226) (hw _ (List.mem_of_getElem? (i := 54) rfl)) Via.refl Fq45 Fq50 (Or.inl (hw _ (List.mem_of_getElem? (i := 55) rfl))) (hw _ (List.mem_of_getElem? (i := 1) rfl)) (ty := .int) (by decide) rfl rfl (Or.inl (List.mem_of_getElem? (i := 0) rfl)) Sf.no d7_223 rfl (fun hq52 Wq51 => ?_)
  have Fq53 := Fq45.same Wq51
  refine Rn.iload (pc' := 228) d7_226 rfl rfl ?_
  refine Rn.if_ne (pc' := 239) (pn := 231) d7_228 (by decide) (by decide) rfl (fun cq54 => absurd cq54 (by decide)) (fun cq54 => ?_)
  refine Rn.aloadN (pc' := 232) d7_231 rfl rfl rfl ?_
  have Fq55 := M.2.2.2.2.1.keep Kq2 (ninS nd.2.1 nin0)
  have Fq56 := Fq55.keep Kq10 (ninS nd.2.2.2.1 nin0)
  have Fq57 := Fq56.other Wq18 (Or.inl nd.2.1)
  have Fq58 := Fq57.other Wq27 (Or.inl nd.2.2.2.1)
  have Fq59 := Fq58.other Wq37 (Or.inl nd.2.2.2.2.1)
  have Fq60 := Fq59.other Wq51 (Or.inr (slot_ne (t := (.array .int)) (t' := .int) (Or.inl (hw _ (List.mem_of_getElem? (i := 24) rfl))) (Or.inl (hw _ (List.mem_of_getElem? (i := 55) rfl))) (by decide) (by decide) (by decide)))
  refine Rn.getF (pc' := 235) (host := "") (Or.inl (hw _ (List.mem_of_getElem? (i := 23) rfl))) Via.refl Fq60 d7_232 rfl ?_
  refine Rn.iload (pc' := 237) d7_235 rfl rfl ?_
  refine Rn.iloadN (pc' := 238) d7_237 rfl rfl ?_
  have Fq61 := M.2.2.2.2.2.2.2.2.2.2.2.2.keep Kq2 (ninS (Ne.symm nd.2.2.2.2.2.2.2.2.2.2.2.2.2.2.1) nin0)
  have Fq62 := Fq61.keep Kq10 (ninS (Ne.symm nd.2.2.2.2.2.2.2.2.2.2.2.2.2.2.2.2.2.2.2.1) nin0)
  have Fq63 := Fq62.other Wq18 (Ne.symm nd.2.2.2.2.2.2.2.2.2.2.2.2.2.2.1)
  have Fq64 := Fq63.other Wq27 (Ne.symm nd.2.2.2.2.2.2.2.2.2.2.2.2.2.2.2.2.2.2.2.1)
  have Fq65 := Fq64.other Wq37 (Ne.symm nd.2.2.2.2.2.2.2.2.2.2.2.2.2.2.2.2.2.2.2.2)
  have Fq66 := Fq65.other Wq51 (Ne.symm nd.2.2.2.2.2.1)
  refine Rn.iastore (pc' := 239) (v := .int x) Fq66 (by decide) (Nat.le_of_ble_eq_true rfl) rfl (Or.inl (List.mem_of_getElem? (i := 4) rfl)) Sf.no d7_238 rfl (fun hq68 Wq67 Aq69 => ?_)
  have Aq70 : Ax Z hq68 fs .int ([.int x]) := Aq69
  refine Rn.retV rfl d7_239 (Nat.le_of_ble_eq_true rfl) (Nat.le_of_ble_eq_true rfl) ?_
  have Fq71 := Fq50.wr Wq51
  have Fq72 := Fq71.wr Wq67
  have Fq73 := Fq14.other Wq18 (Or.inl nd.2.1)
  have Fq74 := Fq73.other Wq27 (Or.inl nd.2.2.2.1)
  have Fq75 := Fq74.other Wq37 (Or.inl nd.2.2.2.2.1)
  have Fq76 := Fq75.other Wq51 (Or.inr (slot_ne (t := (.array (.array .int))) (t' := .int) (Or.inl (hw _ (List.mem_of_getElem? (i := 14) rfl))) (Or.inl (hw _ (List.mem_of_getElem? (i := 55) rfl))) (by decide) (by decide) (by decide)))
  have Fq77 := Fq76.other Wq67 (Or.inl nd.2.2.2.2.2.1)
  have Fq78 := Fq23.other Wq27 (Or.inl nd.2.2.2.1)
  have Fq79 := Fq78.other Wq37 (Or.inl nd.2.2.2.2.1)
  have Fq80 := Fq79.other Wq51 (Or.inr (slot_ne (t := (.array (.array .long))) (t' := .int) (Or.inl (hw _ (List.mem_of_getElem? (i := 20) rfl))) (Or.inl (hw _ (List.mem_of_getElem? (i := 55) rfl))) (by decide) (by decide) (by decide)))
  have Fq81 := Fq80.other Wq67 (Or.inl nd.2.2.2.2.2.1)
  have Fq82 := Fq33.other Wq37 (Or.inl nd.2.2.2.2.1)
  have Fq83 := Fq82.other Wq51 (Or.inr (slot_ne (t := (.array .int)) (t' := .int) (Or.inl (hw _ (List.mem_of_getElem? (i := 22) rfl))) (Or.inl (hw _ (List.mem_of_getElem? (i := 55) rfl))) (by decide) (by decide) (by decide)))
  have Fq84 := Fq83.other Wq67 (Or.inl nd.2.2.2.2.2.1)
  have Fq85 := Fq60.other Wq67 (Or.inl nd.2.2.2.2.2.1)
  have Fq86 := M.2.2.2.2.2.1.keep Kq2 (ninS nd.2.1 nin0)
  have Fq87 := Fq86.keep Kq10 (ninS nd.2.2.2.1 nin0)
  have Fq88 := Fq87.other Wq18 (Or.inl nd.2.1)
  have Fq89 := Fq88.other Wq27 (Or.inl nd.2.2.2.1)
  have Fq90 := Fq89.other Wq37 (Or.inl nd.2.2.2.2.1)
  have Fq91 := Fq90.other Wq51 (Or.inr (slot_ne (t := .int) (t' := .int) (Or.inl (hw _ (List.mem_of_getElem? (i := 26) rfl))) (Or.inl (hw _ (List.mem_of_getElem? (i := 55) rfl))) (by decide) (by decide) (by decide)))
  have Fq92 := Fq91.other Wq67 (Or.inl nd.2.2.2.2.2.1)
  have Fq93 := Fq53.other Wq67 (Or.inl nd.2.2.2.2.2.1)
  have Fq94 := Fq16.other Wq18 nd.2.2.2.2.2.2.1
  have Fq95 := Fq94.other Wq27 nd.2.2.2.2.2.2.2.2.1
  have Fq96 := Fq95.other Wq37 nd.2.2.2.2.2.2.2.2.2.1
  have Fq97 := Fq96.other Wq51 (Ne.symm nd.1)
  have Fq98 := Fq97.other Wq67 nd.2.2.2.2.2.2.2.2.2.2.1
  have Fq99 := Aq21.other Wq27 nd.2.2.2.2.2.2.2.2.2.2.2.2.1
  have Fq100 := Fq99.other Wq37 nd.2.2.2.2.2.2.2.2.2.2.2.2.2.1
  have Fq101 := Fq100.other Wq51 (Ne.symm nd.2.1)
  have Fq102 := Fq101.other Wq67 nd.2.2.2.2.2.2.2.2.2.2.2.2.2.2.1
  have Fq103 := Fq25.other Wq27 nd.2.2.2.2.2.2.2.2.2.2.2.2.2.2.2.1
  have Fq104 := Fq103.other Wq37 nd.2.2.2.2.2.2.2.2.2.2.2.2.2.2.2.2.1
  have Fq105 := Fq104.other Wq51 (Ne.symm nd.2.2.1)
  have Fq106 := Fq105.other Wq67 nd.2.2.2.2.2.2.2.2.2.2.2.2.2.2.2.2.2.1
  have Fq107 := Aq30.other Wq37 nd.2.2.2.2.2.2.2.2.2.2.2.2.2.2.2.2.2.2.1
  have Fq108 := Fq107.other Wq51 (Ne.symm nd.2.2.2.1)
  have Fq109 := Fq108.other Wq67 nd.2.2.2.2.2.2.2.2.2.2.2.2.2.2.2.2.2.2.2.1
  have Fq110 := Aq40.other Wq51 (Ne.symm nd.2.2.2.2.1)
  have Fq111 := Fq110.other Wq67 nd.2.2.2.2.2.2.2.2.2.2.2.2.2.2.2.2.2.2.2.2
  exact ⟨rfl, ⟨Fq72, Fq77, Fq81, Fq84, Fq85, Fq92, Fq93, Fq98, Fq102, Fq106, Fq109, Fq111, Aq70⟩⟩
set_option maxRecDepth 65536 in
set_option maxHeartbeats 40000000 in
theorem ct_ins11 (Z : State) (a0 : Array Value) (hw : ∀ d ∈ tables_1, d.before a0 Z = true) (m kk kb vv vb sz fs : Addr) (f k0 : Int32) (u0 : Int64) (h0 : Heap) (nd : own_Nd m kk kb vv vb sz fs) (M : own_Mp Z h0 m kk kb vv vb sz fs (1 : Int32) f [.int k0, .int (0 : Int32), .int (0 : Int32), .int (0 : Int32)] [.long u0, .long (0 : Int64), .long (0 : Int64), .long (0 : Int64)]) (x : Int32) (y : Int64) :
    Ct Z ⟨"com/example/ratecraft/ratecraft/SortedIntLongMap", "insert", "(IIIJ)V"⟩ prog_36_method_16_code 8 (Option.none : Option FieldType) ({ frames := 1, cells := 0, slots := 0, locals := 26 } : Room) #[(.ref m), (.int (0 : Int32)), (.int (1 : Int32)), (.int x), (.long y)] h0 [m, kb, vb, sz, fs] (fun v h => v = none ∧ own_Mp Z h m kk kb vv vb sz fs (2 : Int32) f [.int k0, .int x, .int (0 : Int32), .int (0 : Int32)] [.long u0, .long y, .long (0 : Int64), .long (0 : Int64)]) := by
  refine Ct.intro (Ls := #[.val (.ref m), .val (.int (0 : Int32)), .val (.int (1 : Int32)), .val (.int x), .val (.long y), .second, .unset, .unset]) pn_0 (by intro m; first | (simp [entryFrame, mkF, argsToLocals, Value.category]; done) | rfl) ?_
  refine Rn.iloadN (pc' := 1) d7_0 rfl rfl ?_
  refine Rn.istore (pc' := 3) (Ls' := #[.val (.ref m), .val (.int (0 : Int32)), .val (.int (1 : Int32)), .val (.int x), .val (.long y), .second, .val (.int (0 : Int32)), .unset]) d7_1 rfl rfl ?_
  refine Rn.iloadN (pc' := 4) d7_3 rfl rfl ?_
  refine Rn.istore (pc' := 6) (Ls' := #[.val (.ref m), .val (.int (0 : Int32)), .val (.int (1 : Int32)), .val (.int x), .val (.long y), .second, .val (.int (0 : Int32)), .val (.int (1 : Int32))]) d7_4 rfl rfl ?_
  refine Rn.aloadN (pc' := 7) d7_6 rfl rfl rfl ?_
  refine Rn.getF (pc' := 10) (host := "") (Or.inl (hw _ (List.mem_of_getElem? (i := 21) rfl))) Via.refl M.2.2.2.1 d7_7 rfl ?_
  refine Rn.iload (pc' := 12) d7_10 rfl rfl ?_
  refine Rn.iaload (pc' := 13) (v := .int (1 : Int32)) M.2.2.2.2.2.2.2.2.2.2.2.1 (by decide) rfl d7_12 rfl ?_
  refine Rn.aloadN (pc' := 14) d7_13 rfl rfl rfl ?_
  refine Rn.getF (pc' := 17) (host := "") (Or.inl (hw _ (List.mem_of_getElem? (i := 13) rfl))) Via.refl M.2.1 d7_14 rfl ?_
  refine Rn.iload (pc' := 19) d7_17 rfl rfl ?_
  refine Rn.aaload (pc' := 20) (v := .ref kb) M.2.2.2.2.2.2.2.1 rfl (by decide) rfl d7_19 rfl ?_
  refine Rn.arraylength (pc' := 21) (n := (4 : Int32)) M.2.2.2.2.2.2.2.2.1 rfl d7_20 rfl ?_
  refine Rn.icmp_ne (pc' := 116) (pn := 24) d7_21 (by decide) (by decide) rfl (fun cq1 => ?_) (fun cq1 => absurd cq1 (by decide))
  refine Rn.aloadN (pc' := 117) d7_116 rfl rfl rfl ?_
  refine Rn.getF (pc' := 120) (host := "") (Or.inl (hw _ (List.mem_of_getElem? (i := 13) rfl))) Via.refl M.2.1 d7_117 rfl ?_
  refine Rn.iload (pc' := 122) d7_120 rfl rfl ?_
  refine Rn.aaload (pc' := 123) (v := .ref kb) M.2.2.2.2.2.2.2.1 rfl (by decide) rfl d7_122 rfl ?_
  refine Rn.iload (pc' := 125) d7_123 rfl rfl ?_
  refine Rn.aloadN (pc' := 126) d7_125 rfl rfl rfl ?_
  refine Rn.getF (pc' := 129) (host := "") (Or.inl (hw _ (List.mem_of_getElem? (i := 13) rfl))) Via.refl M.2.1 d7_126 rfl ?_
  refine Rn.iload (pc' := 131) d7_129 rfl rfl ?_
  refine Rn.aaload (pc' := 132) (v := .ref kb) M.2.2.2.2.2.2.2.1 rfl (by decide) rfl d7_131 rfl ?_
  refine Rn.iload (pc' := 134) d7_132 rfl rfl ?_
  refine Rn.iconst (pc' := 135) (v := (1 : Int32)) d7_134 rfl rfl ?_
  refine Rn.iadd (pc' := 136) (v := (2 : Int32)) d7_135 rfl rfl ?_
  refine Rn.aloadN (pc' := 137) d7_136 rfl rfl rfl ?_
  refine Rn.getF (pc' := 140) (host := "") (Or.inl (hw _ (List.mem_of_getElem? (i := 21) rfl))) Via.refl M.2.2.2.1 d7_137 rfl ?_
  refine Rn.iload (pc' := 142) d7_140 rfl rfl ?_
  refine Rn.iaload (pc' := 143) (v := .int (1 : Int32)) M.2.2.2.2.2.2.2.2.2.2.2.1 (by decide) rfl d7_142 rfl ?_
  refine Rn.iload (pc' := 145) d7_143 rfl rfl ?_
  refine Rn.isub (pc' := 146) (v := (0 : Int32)) d7_145 rfl rfl ?_
  refine Rn.arraycopy (pc' := 149) (vs' := [.int k0, .int (0 : Int32), .int (0 : Int32), .int (0 : Int32)]) M.2.2.2.2.2.2.2.2.1 M.2.2.2.2.2.2.2.2.1 (by simp [fits]) (by simp [fits]) rfl (hw _ (List.mem_of_getElem? (i := 50) rfl)) (hw _ (List.mem_of_getElem? (i := 53) rfl)) (hw _ (List.mem_of_getElem? (i := 51) rfl)) (hw _ (List.mem_of_getElem? (i := 52) rfl)) (by decide) (by decide) (by decide) (Nat.le_of_ble_eq_true rfl) (Nat.le_of_ble_eq_true rfl) rfl rfl d7_146 (Nat.le_of_ble_eq_true rfl) (Nat.le_of_ble_eq_true rfl) (Or.inl (List.mem_of_getElem? (i := 1) rfl)) Sf.no rfl (fun hq3 Kq2 Aq4 => ?_)
  refine Rn.aloadN (pc' := 150) d7_149 rfl rfl rfl ?_
  have Fq5 := M.2.2.1.keep Kq2 (ninS nd.2.1 nin0)
  refine Rn.getF (pc' := 153) (host := "") (Or.inl (hw _ (List.mem_of_getElem? (i := 19) rfl))) Via.refl Fq5 d7_150 rfl ?_
  refine Rn.iload (pc' := 155) d7_153 rfl rfl ?_
  have Fq6 := M.2.2.2.2.2.2.2.2.2.1.keep Kq2 (ninS (Ne.symm nd.2.2.2.2.2.2.2.2.2.2.2.1) nin0)
  refine Rn.aaload (pc' := 156) (v := .ref vb) Fq6 rfl (by decide) rfl d7_155 rfl ?_
  refine Rn.iload (pc' := 158) d7_156 rfl rfl ?_
  refine Rn.aloadN (pc' := 159) d7_158 rfl rfl rfl ?_
  refine Rn.getF (pc' := 162) (host := "") (Or.inl (hw _ (List.mem_of_getElem? (i := 19) rfl))) Via.refl Fq5 d7_159 rfl ?_
  refine Rn.iload (pc' := 164) d7_162 rfl rfl ?_
  refine Rn.aaload (pc' := 165) (v := .ref vb) Fq6 rfl (by decide) rfl d7_164 rfl ?_
  refine Rn.iload (pc' := 167) d7_165 rfl rfl ?_
  refine Rn.iconst (pc' := 168) (v := (1 : Int32)) d7_167 rfl rfl ?_
  refine Rn.iadd (pc' := 169) (v := (2 : Int32)) d7_168 rfl rfl ?_
  refine Rn.aloadN (pc' := 170) d7_169 rfl rfl rfl ?_
  have Fq7 := M.2.2.2.1.keep Kq2 (ninS nd.2.1 nin0)
  refine Rn.getF (pc' := 173) (host := "") (Or.inl (hw _ (List.mem_of_getElem? (i := 21) rfl))) Via.refl Fq7 d7_170 rfl ?_
  refine Rn.iload (pc' := 175) d7_173 rfl rfl ?_
  have Fq8 := M.2.2.2.2.2.2.2.2.2.2.2.1.keep Kq2 (ninS (Ne.symm nd.2.2.2.2.2.2.2.2.2.2.2.2.2.1) nin0)
  refine Rn.iaload (pc' := 176) (v := .int (1 : Int32)) Fq8 (by decide) rfl d7_175 rfl ?_
  refine Rn.iload (pc' := 178) d7_176 rfl rfl ?_
  refine Rn.isub (pc' := 179) (v := (0 : Int32)) d7_178 rfl rfl ?_
  have Fq9 := M.2.2.2.2.2.2.2.2.2.2.1.keep Kq2 (ninS (Ne.symm nd.2.2.2.2.2.2.2.2.2.2.2.2.1) nin0)
  refine Rn.arraycopy (pc' := 182) (vs' := [.long u0, .long (0 : Int64), .long (0 : Int64), .long (0 : Int64)]) Fq9 Fq9 (by simp [fits]) (by simp [fits]) rfl (hw _ (List.mem_of_getElem? (i := 50) rfl)) (hw _ (List.mem_of_getElem? (i := 53) rfl)) (hw _ (List.mem_of_getElem? (i := 51) rfl)) (hw _ (List.mem_of_getElem? (i := 52) rfl)) (by decide) (by decide) (by decide) (Nat.le_of_ble_eq_true rfl) (Nat.le_of_ble_eq_true rfl) rfl rfl d7_179 (Nat.le_of_ble_eq_true rfl) (Nat.le_of_ble_eq_true rfl) (Or.inl (List.mem_of_getElem? (i := 2) rfl)) Sf.no rfl (fun hq11 Kq10 Aq12 => ?_)
  refine Rn.aloadN (pc' := 183) d7_182 rfl rfl rfl ?_
  have Fq13 := M.2.1.keep Kq2 (ninS nd.2.1 nin0)
  have Fq14 := Fq13.keep Kq10 (ninS nd.2.2.2.1 nin0)
  refine Rn.getF (pc' := 186) (host := "") (Or.inl (hw _ (List.mem_of_getElem? (i := 13) rfl))) Via.refl Fq14 d7_183 rfl ?_
  refine Rn.iload (pc' := 188) d7_186 rfl rfl ?_
  have Fq15 := M.2.2.2.2.2.2.2.1.keep Kq2 (ninS nd.2.2.2.2.2.2.1 nin0)
  have Fq16 := Fq15.keep Kq10 (ninS nd.2.2.2.2.2.2.2.2.1 nin0)
  refine Rn.aaload (pc' := 189) (v := .ref kb) Fq16 rfl (by decide) rfl d7_188 rfl ?_
  refine Rn.iload (pc' := 191) d7_189 rfl rfl ?_
  refine Rn.iloadN (pc' := 192) d7_191 rfl rfl ?_
  have Fq17 := Aq4.keep Kq10 (ninS nd.2.2.2.2.2.2.2.2.2.2.2.2.1 nin0)
  refine Rn.iastore (pc' := 193) (v := .int x) Fq17 (by decide) (Nat.le_of_ble_eq_true rfl) rfl (Or.inl (List.mem_of_getElem? (i := 1) rfl)) Sf.no d7_192 rfl (fun hq19 Wq18 Aq20 => ?_)
  have Aq21 : Ax Z hq19 kb .int ([.int k0, .int x, .int (0 : Int32), .int (0 : Int32)]) := Aq20
  refine Rn.aloadN (pc' := 194) d7_193 rfl rfl rfl ?_
  have Fq22 := Fq5.keep Kq10 (ninS nd.2.2.2.1 nin0)
  have Fq23 := Fq22.other Wq18 (Or.inl nd.2.1)
  refine Rn.getF (pc' := 197) (host := "") (Or.inl (hw _ (List.mem_of_getElem? (i := 19) rfl))) Via.refl Fq23 d7_194 rfl ?_
  refine Rn.iload (pc' := 199) d7_197 rfl rfl ?_
  have Fq24 := Fq6.keep Kq10 (ninS nd.2.2.2.2.2.2.2.2.2.2.2.2.2.2.2.1 nin0)
  have Fq25 := Fq24.other Wq18 (Ne.symm nd.2.2.2.2.2.2.2.2.2.2.2.1)
  refine Rn.aaload (pc' := 200) (v := .ref vb) Fq25 rfl (by decide) rfl d7_199 rfl ?_
  refine Rn.iload (pc' := 202) d7_200 rfl rfl ?_
  refine Rn.lload (pc' := 204) d7_202 rfl rfl ?_
  have Fq26 := Aq12.other Wq18 (Ne.symm nd.2.2.2.2.2.2.2.2.2.2.2.2.1)
  refine Rn.lastore (pc' := 205) (v := .long y) Fq26 (by decide) (Nat.le_of_ble_eq_true rfl) rfl (Or.inl (List.mem_of_getElem? (i := 2) rfl)) Sf.no d7_204 rfl (fun hq28 Wq27 Aq29 => ?_)
  have Aq30 : Ax Z hq28 vb .long ([.long u0, .long y, .long (0 : Int64), .long (0 : Int64)]) := Aq29
  refine Rn.aloadN (pc' := 206) d7_205 rfl rfl rfl ?_
  have Fq31 := Fq7.keep Kq10 (ninS nd.2.2.2.1 nin0)
  have Fq32 := Fq31.other Wq18 (Or.inl nd.2.1)
  have Fq33 := Fq32.other Wq27 (Or.inl nd.2.2.2.1)
  refine Rn.getF (pc' := 209) (host := "") (Or.inl (hw _ (List.mem_of_getElem? (i := 21) rfl))) Via.refl Fq33 d7_206 rfl ?_
  refine Rn.iload (pc' := 211) d7_209 rfl rfl ?_
  refine Rn.dup2 (pc' := 212) d7_211 rfl rfl rfl ?_
  have Fq34 := Fq8.keep Kq10 (ninS (Ne.symm nd.2.2.2.2.2.2.2.2.2.2.2.2.2.2.2.2.2.2.1) nin0)
  have Fq35 := Fq34.other Wq18 (Ne.symm nd.2.2.2.2.2.2.2.2.2.2.2.2.2.1)
  have Fq36 := Fq35.other Wq27 (Ne.symm nd.2.2.2.2.2.2.2.2.2.2.2.2.2.2.2.2.2.2.1)
  refine Rn.iaload (pc' := 213) (v := .int (1 : Int32)) Fq36 (by decide) rfl d7_212 rfl ?_
  refine Rn.iconst (pc' := 214) (v := (1 : Int32)) d7_213 rfl rfl ?_
  refine Rn.iadd (pc' := 215) (v := (2 : Int32)) d7_214 rfl rfl ?_
  refine Rn.iastore (pc' := 216) (v := .int (2 : Int32)) Fq36 (by decide) (Nat.le_of_ble_eq_true rfl) rfl (Or.inl (List.mem_of_getElem? (i := 3) rfl)) Sf.no d7_215 rfl (fun hq38 Wq37 Aq39 => ?_)
  have Aq40 : Ax Z hq38 sz .int ([.int (2 : Int32)]) := Aq39
  refine Rn.aloadN (pc' := 217) d7_216 rfl rfl rfl ?_
  refine Rn.dup (pc' := 218) d7_217 rfl rfl ?_
  have Fq41 := M.2.2.2.2.2.2.1.keep Kq2 (ninS nd.2.1 nin0)
  have Fq42 := Fq41.keep Kq10 (ninS nd.2.2.2.1 nin0)
  have Fq43 := Fq42.other Wq18 (Or.inl nd.2.1)
  have Fq44 := Fq43.other Wq27 (Or.inl nd.2.2.2.1)
  have Fq45 := Fq44.other Wq37 (Or.inl nd.2.2.2.2.1)
  refine Rn.getF (pc' := 221) (host := "") (Or.inl (hw _ (List.mem_of_getElem? (i := 54) rfl))) Via.refl Fq45 d7_218 rfl ?_
  refine Rn.iconst (pc' := 222) (v := (1 : Int32)) d7_221 rfl rfl ?_
  refine Rn.iadd (pc' := 223) (v := (2 : Int32)) d7_222 rfl rfl ?_
  have Fq46 := M.1.keep Kq2
  have Fq47 := Fq46.keep Kq10
  have Fq48 := Fq47.wr Wq18
  have Fq49 := Fq48.wr Wq27
  have Fq50 := Fq49.wr Wq37
  refine Rn.putF (pc' := 226) (hw _ (List.mem_of_getElem? (i := 54) rfl)) Via.refl Fq45 Fq50 (Or.inl (hw _ (List.mem_of_getElem? (i := 55) rfl))) (hw _ (List.mem_of_getElem? (i := 1) rfl)) (ty := .int) (by decide) rfl rfl (Or.inl (List.mem_of_getElem? (i := 0) rfl)) Sf.no d7_223 rfl (fun hq52 Wq51 => ?_)
  have Fq53 := Fq45.same Wq51
  refine Rn.iload (pc' := 228) d7_226 rfl rfl ?_
  refine Rn.if_ne (pc' := 239) (pn := 231) d7_228 (by decide) (by decide) rfl (fun cq54 => ?_) (fun cq54 => absurd cq54 (by decide))
  refine Rn.retV rfl d7_239 (Nat.le_of_ble_eq_true rfl) (Nat.le_of_ble_eq_true rfl) ?_
  have Fq55 := Fq50.wr Wq51
  have Fq56 := Fq14.other Wq18 (Or.inl nd.2.1)
  have Fq57 := Fq56.other Wq27 (Or.inl nd.2.2.2.1)
  have Fq58 := Fq57.other Wq37 (Or.inl nd.2.2.2.2.1)
  have Fq59 := Fq58.other Wq51 (Or.inr (slot_ne (t := (.array (.array .int))) (t' := .int) (Or.inl (hw _ (List.mem_of_getElem? (i := 14) rfl))) (Or.inl (hw _ (List.mem_of_getElem? (i := 55) rfl))) (by decide) (by decide) (by decide)))
  have Fq60 := Fq23.other Wq27 (Or.inl nd.2.2.2.1)
  have Fq61 := Fq60.other Wq37 (Or.inl nd.2.2.2.2.1)
  have Fq62 := Fq61.other Wq51 (Or.inr (slot_ne (t := (.array (.array .long))) (t' := .int) (Or.inl (hw _ (List.mem_of_getElem? (i := 20) rfl))) (Or.inl (hw _ (List.mem_of_getElem? (i := 55) rfl))) (by decide) (by decide) (by decide)))
  have Fq63 := Fq33.other Wq37 (Or.inl nd.2.2.2.2.1)
  have Fq64 := Fq63.other Wq51 (Or.inr (slot_ne (t := (.array .int)) (t' := .int) (Or.inl (hw _ (List.mem_of_getElem? (i := 22) rfl))) (Or.inl (hw _ (List.mem_of_getElem? (i := 55) rfl))) (by decide) (by decide) (by decide)))
  have Fq65 := M.2.2.2.2.1.keep Kq2 (ninS nd.2.1 nin0)
  have Fq66 := Fq65.keep Kq10 (ninS nd.2.2.2.1 nin0)
  have Fq67 := Fq66.other Wq18 (Or.inl nd.2.1)
  have Fq68 := Fq67.other Wq27 (Or.inl nd.2.2.2.1)
  have Fq69 := Fq68.other Wq37 (Or.inl nd.2.2.2.2.1)
  have Fq70 := Fq69.other Wq51 (Or.inr (slot_ne (t := (.array .int)) (t' := .int) (Or.inl (hw _ (List.mem_of_getElem? (i := 24) rfl))) (Or.inl (hw _ (List.mem_of_getElem? (i := 55) rfl))) (by decide) (by decide) (by decide)))
  have Fq71 := M.2.2.2.2.2.1.keep Kq2 (ninS nd.2.1 nin0)
  have Fq72 := Fq71.keep Kq10 (ninS nd.2.2.2.1 nin0)
  have Fq73 := Fq72.other Wq18 (Or.inl nd.2.1)
  have Fq74 := Fq73.other Wq27 (Or.inl nd.2.2.2.1)
  have Fq75 := Fq74.other Wq37 (Or.inl nd.2.2.2.2.1)
  have Fq76 := Fq75.other Wq51 (Or.inr (slot_ne (t := .int) (t' := .int) (Or.inl (hw _ (List.mem_of_getElem? (i := 26) rfl))) (Or.inl (hw _ (List.mem_of_getElem? (i := 55) rfl))) (by decide) (by decide) (by decide)))
  have Fq77 := Fq16.other Wq18 nd.2.2.2.2.2.2.1
  have Fq78 := Fq77.other Wq27 nd.2.2.2.2.2.2.2.2.1
  have Fq79 := Fq78.other Wq37 nd.2.2.2.2.2.2.2.2.2.1
  have Fq80 := Fq79.other Wq51 (Ne.symm nd.1)
  have Fq81 := Aq21.other Wq27 nd.2.2.2.2.2.2.2.2.2.2.2.2.1
  have Fq82 := Fq81.other Wq37 nd.2.2.2.2.2.2.2.2.2.2.2.2.2.1
  have Fq83 := Fq82.other Wq51 (Ne.symm nd.2.1)
  have Fq84 := Fq25.other Wq27 nd.2.2.2.2.2.2.2.2.2.2.2.2.2.2.2.1
  have Fq85 := Fq84.other Wq37 nd.2.2.2.2.2.2.2.2.2.2.2.2.2.2.2.2.1
  have Fq86 := Fq85.other Wq51 (Ne.symm nd.2.2.1)
  have Fq87 := Aq30.other Wq37 nd.2.2.2.2.2.2.2.2.2.2.2.2.2.2.2.2.2.2.1
  have Fq88 := Fq87.other Wq51 (Ne.symm nd.2.2.2.1)
  have Fq89 := Aq40.other Wq51 (Ne.symm nd.2.2.2.2.1)
  have Fq90 := M.2.2.2.2.2.2.2.2.2.2.2.2.keep Kq2 (ninS (Ne.symm nd.2.2.2.2.2.2.2.2.2.2.2.2.2.2.1) nin0)
  have Fq91 := Fq90.keep Kq10 (ninS (Ne.symm nd.2.2.2.2.2.2.2.2.2.2.2.2.2.2.2.2.2.2.2.1) nin0)
  have Fq92 := Fq91.other Wq18 (Ne.symm nd.2.2.2.2.2.2.2.2.2.2.2.2.2.2.1)
  have Fq93 := Fq92.other Wq27 (Ne.symm nd.2.2.2.2.2.2.2.2.2.2.2.2.2.2.2.2.2.2.2.1)
  have Fq94 := Fq93.other Wq37 (Ne.symm nd.2.2.2.2.2.2.2.2.2.2.2.2.2.2.2.2.2.2.2.2)
  have Fq95 := Fq94.other Wq51 (Ne.symm nd.2.2.2.2.2.1)
  exact ⟨rfl, ⟨Fq55, Fq59, Fq62, Fq64, Fq70, Fq76, Fq53, Fq80, Fq83, Fq86, Fq88, Fq89, Fq95⟩⟩
theorem d2_0 : decode prog_36_method_10_code 0 = .ok (.aload_n 0, 1) := by decide +kernel
theorem d2_1 : decode prog_36_method_10_code 1 = .ok (.iload_n 1, 1) := by decide +kernel
theorem d2_2 : decode prog_36_method_10_code 2 = .ok (.invokevirtual 34, 3) := by decide +kernel
theorem d2_5 : decode prog_36_method_10_code 5 = .ok (.istore 4, 2) := by decide +kernel
theorem d2_7 : decode prog_36_method_10_code 7 = .ok (.aload_n 0, 1) := by decide +kernel
theorem d2_8 : decode prog_36_method_10_code 8 = .ok (.getfield 11, 3) := by decide +kernel
theorem d2_11 : decode prog_36_method_10_code 11 = .ok (.iload 4, 2) := by decide +kernel
theorem d2_13 : decode prog_36_method_10_code 13 = .ok (.aaload, 1) := by decide +kernel
theorem d2_14 : decode prog_36_method_10_code 14 = .ok (.iconst 0, 1) := by decide +kernel
theorem d2_15 : decode prog_36_method_10_code 15 = .ok (.aload_n 0, 1) := by decide +kernel
theorem d2_16 : decode prog_36_method_10_code 16 = .ok (.getfield 21, 3) := by decide +kernel
theorem d2_19 : decode prog_36_method_10_code 19 = .ok (.iload 4, 2) := by decide +kernel
theorem d2_21 : decode prog_36_method_10_code 21 = .ok (.iaload, 1) := by decide +kernel
theorem d2_22 : decode prog_36_method_10_code 22 = .ok (.iload_n 1, 1) := by decide +kernel
theorem d2_23 : decode prog_36_method_10_code 23 = .ok (.invokestatic 55, 3) := by decide +kernel
theorem d2_26 : decode prog_36_method_10_code 26 = .ok (.istore 5, 2) := by decide +kernel
theorem d2_28 : decode prog_36_method_10_code 28 = .ok (.iload 5, 2) := by decide +kernel
theorem d2_30 : decode prog_36_method_10_code 30 = .ok (.ifCond .lt 17, 3) := by decide +kernel
theorem d2_33 : decode prog_36_method_10_code 33 = .ok (.aload_n 0, 1) := by decide +kernel
theorem d2_34 : decode prog_36_method_10_code 34 = .ok (.getfield 17, 3) := by decide +kernel
theorem d2_37 : decode prog_36_method_10_code 37 = .ok (.iload 4, 2) := by decide +kernel
theorem d2_39 : decode prog_36_method_10_code 39 = .ok (.aaload, 1) := by decide +kernel
theorem d2_40 : decode prog_36_method_10_code 40 = .ok (.iload 5, 2) := by decide +kernel
theorem d2_42 : decode prog_36_method_10_code 42 = .ok (.lload_n 2, 1) := by decide +kernel
theorem d2_43 : decode prog_36_method_10_code 43 = .ok (.lastore, 1) := by decide +kernel
theorem d2_44 : decode prog_36_method_10_code 44 = .ok (.goto 16, 3) := by decide +kernel
theorem d2_47 : decode prog_36_method_10_code 47 = .ok (.aload_n 0, 1) := by decide +kernel
theorem d2_48 : decode prog_36_method_10_code 48 = .ok (.iload 4, 2) := by decide +kernel
theorem d2_50 : decode prog_36_method_10_code 50 = .ok (.iload 5, 2) := by decide +kernel
theorem d2_52 : decode prog_36_method_10_code 52 = .ok (.ineg, 1) := by decide +kernel
theorem d2_53 : decode prog_36_method_10_code 53 = .ok (.iconst 1, 1) := by decide +kernel
theorem d2_54 : decode prog_36_method_10_code 54 = .ok (.isub, 1) := by decide +kernel
theorem d2_55 : decode prog_36_method_10_code 55 = .ok (.iload_n 1, 1) := by decide +kernel
theorem d2_56 : decode prog_36_method_10_code 56 = .ok (.lload_n 2, 1) := by decide +kernel
theorem d2_57 : decode prog_36_method_10_code 57 = .ok (.invokevirtual 61, 3) := by decide +kernel
theorem d2_60 : decode prog_36_method_10_code 60 = .ok (.return_, 1) := by decide +kernel
set_option maxRecDepth 65536 in
set_option maxHeartbeats 40000000 in
theorem ct_put0 (Z : State) (a0 : Array Value) (hw : ∀ d ∈ tables_1, d.before a0 Z = true) (m kk kb vv vb sz fs : Addr) (f : Int32) (h0 : Heap) (nd : own_Nd m kk kb vv vb sz fs) (M : own_Mp Z h0 m kk kb vv vb sz fs (0 : Int32) f [.int (0 : Int32), .int (0 : Int32), .int (0 : Int32), .int (0 : Int32)] [.long (0 : Int64), .long (0 : Int64), .long (0 : Int64), .long (0 : Int64)]) (x : Int32) (y : Int64) :
    Ct Z ⟨"com/example/ratecraft/ratecraft/SortedIntLongMap", "put", "(IJ)V"⟩ prog_36_method_10_code 6 (Option.none : Option FieldType) ({ frames := 2, cells := 0, slots := 0, locals := 64 } : Room) #[(.ref m), (.int x), (.long y)] h0 [m, kb, vb, sz, fs] (fun v h => v = none ∧ own_Mp Z h m kk kb vv vb sz fs (1 : Int32) x [.int x, .int (0 : Int32), .int (0 : Int32), .int (0 : Int32)] [.long y, .long (0 : Int64), .long (0 : Int64), .long (0 : Int64)]) := by
  refine Ct.intro (Ls := #[.val (.ref m), .val (.int x), .val (.long y), .second, .unset, .unset]) pn_0 (by intro m; first | (simp [entryFrame, mkF, argsToLocals, Value.category]; done) | rfl) ?_
  refine Rn.aloadN (pc' := 1) d2_0 rfl rfl rfl ?_
  refine Rn.iloadN (pc' := 2) d2_1 rfl rfl ?_
  refine Rn.callP (pc' := 5) (argsL := [.int x]) (a := m) (rest := []) (ct_bo Z a0 hw m x h0 M.2.2.2.2.2.1) M.1 (hw _ (List.mem_of_getElem? (i := 32) rfl)) (hw _ (List.mem_of_getElem? (i := 33) rfl)) (hw _ (List.mem_of_getElem? (i := 34) rfl)) (ni_of (hw _ (List.mem_of_getElem? (i := 30) rfl)) rfl) (hw _ (List.mem_of_getElem? (i := 2) rfl)) (hw _ (List.mem_of_getElem? (i := 35) rfl)) (by decide) rfl rfl (lenOf pd_2 rfl) rfl d2_2 rfl (Nat.le_of_ble_eq_true rfl) (Nat.le_of_ble_eq_true rfl) (Nat.le_of_ble_eq_true rfl) (Nat.le_of_ble_eq_true rfl) (fun _ z => nomatch z) (fun _ z => nomatch z) (fun vq1 hq2 Kq3 qq4 => ?_)
  obtain ⟨rfl, rfl⟩ := qq4
  simp only [Option.toList, List.cons_append, List.nil_append]
  refine Rn.istore (pc' := 7) (Ls' := #[.val (.ref m), .val (.int x), .val (.long y), .second, .val (.int (0 : Int32)), .unset]) d2_5 rfl rfl ?_
  refine Rn.aloadN (pc' := 8) d2_7 rfl rfl rfl ?_
  refine Rn.getF (pc' := 11) (host := "") (Or.inl (hw _ (List.mem_of_getElem? (i := 13) rfl))) Via.refl M.2.1 d2_8 rfl ?_
  refine Rn.iload (pc' := 13) d2_11 rfl rfl ?_
  refine Rn.aaload (pc' := 14) (v := .ref kb) M.2.2.2.2.2.2.2.1 rfl (by decide) rfl d2_13 rfl ?_
  refine Rn.iconst (pc' := 15) (v := (0 : Int32)) d2_14 rfl rfl ?_
  refine Rn.aloadN (pc' := 16) d2_15 rfl rfl rfl ?_
  refine Rn.getF (pc' := 19) (host := "") (Or.inl (hw _ (List.mem_of_getElem? (i := 21) rfl))) Via.refl M.2.2.2.1 d2_16 rfl ?_
  refine Rn.iload (pc' := 21) d2_19 rfl rfl ?_
  refine Rn.iaload (pc' := 22) (v := .int (0 : Int32)) M.2.2.2.2.2.2.2.2.2.2.2.1 (by decide) rfl d2_21 rfl ?_
  refine Rn.iloadN (pc' := 23) d2_22 rfl rfl ?_
  refine Rn.callS (pc' := 26) (argsL := [.ref kb, .int (0 : Int32), .int (0 : Int32), .int x]) (rest := []) (ct_bs0 Z a0 hw kb x h0 M.2.2.2.2.2.2.2.2.1) (hw _ (List.mem_of_getElem? (i := 36) rfl)) (hw _ (List.mem_of_getElem? (i := 37) rfl)) (hw _ (List.mem_of_getElem? (i := 38) rfl)) (hw _ (List.mem_of_getElem? (i := 39) rfl)) (by decide) rfl rfl (lenOf pd_1 rfl) rfl d2_23 rfl (Nat.le_of_ble_eq_true rfl) (Nat.le_of_ble_eq_true rfl) (Nat.le_of_ble_eq_true rfl) (Nat.le_of_ble_eq_true rfl) (fun _ z => nomatch z) (fun _ z => nomatch z) (fun vq5 hq6 Kq7 qq8 => ?_)
  obtain ⟨rfl, rfl⟩ := qq8
  simp only [Option.toList, List.cons_append, List.nil_append]
  rw [show own_bs0 x = (-1 : Int32) from rfl]
  refine Rn.istore (pc' := 28) (Ls' := #[.val (.ref m), .val (.int x), .val (.long y), .second, .val (.int (0 : Int32)), .val (.int (-1 : Int32))]) d2_26 rfl rfl ?_
  refine Rn.iload (pc' := 30) d2_28 rfl rfl ?_
  refine Rn.if_lt (pc' := 47) (pn := 33) d2_30 (by decide) (by decide) rfl (fun cq9 => ?_) (fun cq9 => absurd cq9 (by decide))
  refine Rn.aloadN (pc' := 48) d2_47 rfl rfl rfl ?_
  refine Rn.iload (pc' := 50) d2_48 rfl rfl ?_
  refine Rn.iload (pc' := 52) d2_50 rfl rfl ?_
  refine Rn.ineg (pc' := 53) (v := (-(-1 : Int32))) d2_52 rfl rfl ?_
  refine Rn.iconst (pc' := 54) (v := (1 : Int32)) d2_53 rfl rfl ?_
  refine Rn.isub (pc' := 55) (v := ((-(-1 : Int32)) - (1 : Int32))) d2_54 rfl rfl ?_
  refine Rn.iloadN (pc' := 56) d2_55 rfl rfl ?_
  refine Rn.lloadN (pc' := 57) d2_56 rfl rfl ?_
  refine Rn.callP (pc' := 60) (argsL := [.int (0 : Int32), .int ((-(-1 : Int32)) - (1 : Int32)), .int x, .long y]) (a := m) (rest := []) (ct_ins00 Z a0 hw m kk kb vv vb sz fs f h0 nd ⟨M.1, M.2.1, M.2.2.1, M.2.2.2.1, M.2.2.2.2.1, M.2.2.2.2.2.1, M.2.2.2.2.2.2.1, M.2.2.2.2.2.2.2.1, M.2.2.2.2.2.2.2.2.1, M.2.2.2.2.2.2.2.2.2.1, M.2.2.2.2.2.2.2.2.2.2.1, M.2.2.2.2.2.2.2.2.2.2.2.1, M.2.2.2.2.2.2.2.2.2.2.2.2⟩ x y) M.1 (hw _ (List.mem_of_getElem? (i := 46) rfl)) (hw _ (List.mem_of_getElem? (i := 47) rfl)) (hw _ (List.mem_of_getElem? (i := 48) rfl)) (ni_of (hw _ (List.mem_of_getElem? (i := 30) rfl)) rfl) (hw _ (List.mem_of_getElem? (i := 2) rfl)) (hw _ (List.mem_of_getElem? (i := 49) rfl)) (by decide) rfl rfl (lenOf pd_3 rfl) rfl d2_57 rfl (Nat.le_of_ble_eq_true rfl) (Nat.le_of_ble_eq_true rfl) (Nat.le_of_ble_eq_true rfl) (Nat.le_of_ble_eq_true rfl) (allS (Or.inl (List.mem_of_getElem? (i := 0) rfl)) (allS (Or.inl (List.mem_of_getElem? (i := 1) rfl)) (allS (Or.inl (List.mem_of_getElem? (i := 2) rfl)) (allS (Or.inl (List.mem_of_getElem? (i := 3) rfl)) (allS (Or.inl (List.mem_of_getElem? (i := 4) rfl)) (all0)))))) (allS Sf.no (allS Sf.no (allS Sf.no (allS Sf.no (allS Sf.no (all0)))))) (fun vq10 hq11 Kq12 qq13 => ?_)
  obtain ⟨rfl, M2⟩ := qq13
  simp only [Option.toList, List.cons_append, List.nil_append]
  refine Rn.retV rfl d2_60 (Nat.le_of_ble_eq_true rfl) (Nat.le_of_ble_eq_true rfl) ?_
  exact ⟨rfl, M2⟩
set_option maxRecDepth 65536 in
set_option maxHeartbeats 40000000 in
theorem ct_put1a (Z : State) (a0 : Array Value) (hw : ∀ d ∈ tables_1, d.before a0 Z = true) (m kk kb vv vb sz fs : Addr) (f k0 : Int32) (u0 : Int64) (h0 : Heap) (nd : own_Nd m kk kb vv vb sz fs) (M : own_Mp Z h0 m kk kb vv vb sz fs (1 : Int32) f [.int k0, .int (0 : Int32), .int (0 : Int32), .int (0 : Int32)] [.long u0, .long (0 : Int64), .long (0 : Int64), .long (0 : Int64)]) (x : Int32) (y : Int64) (hbs : own_bs1 k0 x = (-2 : Int32)) :
    Ct Z ⟨"com/example/ratecraft/ratecraft/SortedIntLongMap", "put", "(IJ)V"⟩ prog_36_method_10_code 6 (Option.none : Option FieldType) ({ frames := 2, cells := 0, slots := 0, locals := 64 } : Room) #[(.ref m), (.int x), (.long y)] h0 [m, kb, vb, sz, fs] (fun v h => v = none ∧ own_Mp Z h m kk kb vv vb sz fs (2 : Int32) f [.int k0, .int x, .int (0 : Int32), .int (0 : Int32)] [.long u0, .long y, .long (0 : Int64), .long (0 : Int64)]) := by
  refine Ct.intro (Ls := #[.val (.ref m), .val (.int x), .val (.long y), .second, .unset, .unset]) pn_0 (by intro m; first | (simp [entryFrame, mkF, argsToLocals, Value.category]; done) | rfl) ?_
  refine Rn.aloadN (pc' := 1) d2_0 rfl rfl rfl ?_
  refine Rn.iloadN (pc' := 2) d2_1 rfl rfl ?_
  refine Rn.callP (pc' := 5) (argsL := [.int x]) (a := m) (rest := []) (ct_bo Z a0 hw m x h0 M.2.2.2.2.2.1) M.1 (hw _ (List.mem_of_getElem? (i := 32) rfl)) (hw _ (List.mem_of_getElem? (i := 33) rfl)) (hw _ (List.mem_of_getElem? (i := 34) rfl)) (ni_of (hw _ (List.mem_of_getElem? (i := 30) rfl)) rfl) (hw _ (List.mem_of_getElem? (i := 2) rfl)) (hw _ (List.mem_of_getElem? (i := 35) rfl)) (by decide) rfl rfl (lenOf pd_2 rfl) rfl d2_2 rfl (Nat.le_of_ble_eq_true rfl) (Nat.le_of_ble_eq_true rfl) (Nat.le_of_ble_eq_true rfl) (Nat.le_of_ble_eq_true rfl) (fun _ z => nomatch z) (fun _ z => nomatch z) (fun vq1 hq2 Kq3 qq4 => ?_)
  obtain ⟨rfl, rfl⟩ := qq4
  simp only [Option.toList, List.cons_append, List.nil_append]
  refine Rn.istore (pc' := 7) (Ls' := #[.val (.ref m), .val (.int x), .val (.long y), .second, .val (.int (0 : Int32)), .unset]) d2_5 rfl rfl ?_
  refine Rn.aloadN (pc' := 8) d2_7 rfl rfl rfl ?_
  refine Rn.getF (pc' := 11) (host := "") (Or.inl (hw _ (List.mem_of_getElem? (i := 13) rfl))) Via.refl M.2.1 d2_8 rfl ?_
  refine Rn.iload (pc' := 13) d2_11 rfl rfl ?_
  refine Rn.aaload (pc' := 14) (v := .ref kb) M.2.2.2.2.2.2.2.1 rfl (by decide) rfl d2_13 rfl ?_
  refine Rn.iconst (pc' := 15) (v := (0 : Int32)) d2_14 rfl rfl ?_
  refine Rn.aloadN (pc' := 16) d2_15 rfl rfl rfl ?_
  refine Rn.getF (pc' := 19) (host := "") (Or.inl (hw _ (List.mem_of_getElem? (i := 21) rfl))) Via.refl M.2.2.2.1 d2_16 rfl ?_
  refine Rn.iload (pc' := 21) d2_19 rfl rfl ?_
  refine Rn.iaload (pc' := 22) (v := .int (1 : Int32)) M.2.2.2.2.2.2.2.2.2.2.2.1 (by decide) rfl d2_21 rfl ?_
  refine Rn.iloadN (pc' := 23) d2_22 rfl rfl ?_
  refine Rn.callS (pc' := 26) (argsL := [.ref kb, .int (0 : Int32), .int (1 : Int32), .int x]) (rest := []) (ct_bs1 Z a0 hw kb k0 x h0 M.2.2.2.2.2.2.2.2.1) (hw _ (List.mem_of_getElem? (i := 36) rfl)) (hw _ (List.mem_of_getElem? (i := 37) rfl)) (hw _ (List.mem_of_getElem? (i := 38) rfl)) (hw _ (List.mem_of_getElem? (i := 39) rfl)) (by decide) rfl rfl (lenOf pd_1 rfl) rfl d2_23 rfl (Nat.le_of_ble_eq_true rfl) (Nat.le_of_ble_eq_true rfl) (Nat.le_of_ble_eq_true rfl) (Nat.le_of_ble_eq_true rfl) (fun _ z => nomatch z) (fun _ z => nomatch z) (fun vq5 hq6 Kq7 qq8 => ?_)
  obtain ⟨rfl, rfl⟩ := qq8
  simp only [Option.toList, List.cons_append, List.nil_append]
  rw [hbs]
  refine Rn.istore (pc' := 28) (Ls' := #[.val (.ref m), .val (.int x), .val (.long y), .second, .val (.int (0 : Int32)), .val (.int (-2 : Int32))]) d2_26 rfl rfl ?_
  refine Rn.iload (pc' := 30) d2_28 rfl rfl ?_
  refine Rn.if_lt (pc' := 47) (pn := 33) d2_30 (by decide) (by decide) rfl (fun cq9 => ?_) (fun cq9 => absurd cq9 (by decide))
  refine Rn.aloadN (pc' := 48) d2_47 rfl rfl rfl ?_
  refine Rn.iload (pc' := 50) d2_48 rfl rfl ?_
  refine Rn.iload (pc' := 52) d2_50 rfl rfl ?_
  refine Rn.ineg (pc' := 53) (v := (-(-2 : Int32))) d2_52 rfl rfl ?_
  refine Rn.iconst (pc' := 54) (v := (1 : Int32)) d2_53 rfl rfl ?_
  refine Rn.isub (pc' := 55) (v := ((-(-2 : Int32)) - (1 : Int32))) d2_54 rfl rfl ?_
  refine Rn.iloadN (pc' := 56) d2_55 rfl rfl ?_
  refine Rn.lloadN (pc' := 57) d2_56 rfl rfl ?_
  refine Rn.callP (pc' := 60) (argsL := [.int (0 : Int32), .int ((-(-2 : Int32)) - (1 : Int32)), .int x, .long y]) (a := m) (rest := []) (ct_ins11 Z a0 hw m kk kb vv vb sz fs f k0 u0 h0 nd ⟨M.1, M.2.1, M.2.2.1, M.2.2.2.1, M.2.2.2.2.1, M.2.2.2.2.2.1, M.2.2.2.2.2.2.1, M.2.2.2.2.2.2.2.1, M.2.2.2.2.2.2.2.2.1, M.2.2.2.2.2.2.2.2.2.1, M.2.2.2.2.2.2.2.2.2.2.1, M.2.2.2.2.2.2.2.2.2.2.2.1, M.2.2.2.2.2.2.2.2.2.2.2.2⟩ x y) M.1 (hw _ (List.mem_of_getElem? (i := 46) rfl)) (hw _ (List.mem_of_getElem? (i := 47) rfl)) (hw _ (List.mem_of_getElem? (i := 48) rfl)) (ni_of (hw _ (List.mem_of_getElem? (i := 30) rfl)) rfl) (hw _ (List.mem_of_getElem? (i := 2) rfl)) (hw _ (List.mem_of_getElem? (i := 49) rfl)) (by decide) rfl rfl (lenOf pd_3 rfl) rfl d2_57 rfl (Nat.le_of_ble_eq_true rfl) (Nat.le_of_ble_eq_true rfl) (Nat.le_of_ble_eq_true rfl) (Nat.le_of_ble_eq_true rfl) (allS (Or.inl (List.mem_of_getElem? (i := 0) rfl)) (allS (Or.inl (List.mem_of_getElem? (i := 1) rfl)) (allS (Or.inl (List.mem_of_getElem? (i := 2) rfl)) (allS (Or.inl (List.mem_of_getElem? (i := 3) rfl)) (allS (Or.inl (List.mem_of_getElem? (i := 4) rfl)) (all0)))))) (allS Sf.no (allS Sf.no (allS Sf.no (allS Sf.no (allS Sf.no (all0)))))) (fun vq10 hq11 Kq12 qq13 => ?_)
  obtain ⟨rfl, M2⟩ := qq13
  simp only [Option.toList, List.cons_append, List.nil_append]
  refine Rn.retV rfl d2_60 (Nat.le_of_ble_eq_true rfl) (Nat.le_of_ble_eq_true rfl) ?_
  exact ⟨rfl, M2⟩
set_option maxRecDepth 65536 in
set_option maxHeartbeats 40000000 in
theorem ct_put1b (Z : State) (a0 : Array Value) (hw : ∀ d ∈ tables_1, d.before a0 Z = true) (m kk kb vv vb sz fs : Addr) (f k0 : Int32) (u0 : Int64) (h0 : Heap) (nd : own_Nd m kk kb vv vb sz fs) (M : own_Mp Z h0 m kk kb vv vb sz fs (1 : Int32) f [.int k0, .int (0 : Int32), .int (0 : Int32), .int (0 : Int32)] [.long u0, .long (0 : Int64), .long (0 : Int64), .long (0 : Int64)]) (x : Int32) (y : Int64) (hbs : own_bs1 k0 x = (-1 : Int32)) :
    Ct Z ⟨"com/example/ratecraft/ratecraft/SortedIntLongMap", "put", "(IJ)V"⟩ prog_36_method_10_code 6 (Option.none : Option FieldType) ({ frames := 2, cells := 0, slots := 0, locals := 64 } : Room) #[(.ref m), (.int x), (.long y)] h0 [m, kb, vb, sz, fs] (fun v h => v = none ∧ own_Mp Z h m kk kb vv vb sz fs (2 : Int32) x [.int x, .int k0, .int (0 : Int32), .int (0 : Int32)] [.long y, .long u0, .long (0 : Int64), .long (0 : Int64)]) := by
  refine Ct.intro (Ls := #[.val (.ref m), .val (.int x), .val (.long y), .second, .unset, .unset]) pn_0 (by intro m; first | (simp [entryFrame, mkF, argsToLocals, Value.category]; done) | rfl) ?_
  refine Rn.aloadN (pc' := 1) d2_0 rfl rfl rfl ?_
  refine Rn.iloadN (pc' := 2) d2_1 rfl rfl ?_
  refine Rn.callP (pc' := 5) (argsL := [.int x]) (a := m) (rest := []) (ct_bo Z a0 hw m x h0 M.2.2.2.2.2.1) M.1 (hw _ (List.mem_of_getElem? (i := 32) rfl)) (hw _ (List.mem_of_getElem? (i := 33) rfl)) (hw _ (List.mem_of_getElem? (i := 34) rfl)) (ni_of (hw _ (List.mem_of_getElem? (i := 30) rfl)) rfl) (hw _ (List.mem_of_getElem? (i := 2) rfl)) (hw _ (List.mem_of_getElem? (i := 35) rfl)) (by decide) rfl rfl (lenOf pd_2 rfl) rfl d2_2 rfl (Nat.le_of_ble_eq_true rfl) (Nat.le_of_ble_eq_true rfl) (Nat.le_of_ble_eq_true rfl) (Nat.le_of_ble_eq_true rfl) (fun _ z => nomatch z) (fun _ z => nomatch z) (fun vq1 hq2 Kq3 qq4 => ?_)
  obtain ⟨rfl, rfl⟩ := qq4
  simp only [Option.toList, List.cons_append, List.nil_append]
  refine Rn.istore (pc' := 7) (Ls' := #[.val (.ref m), .val (.int x), .val (.long y), .second, .val (.int (0 : Int32)), .unset]) d2_5 rfl rfl ?_
  refine Rn.aloadN (pc' := 8) d2_7 rfl rfl rfl ?_
  refine Rn.getF (pc' := 11) (host := "") (Or.inl (hw _ (List.mem_of_getElem? (i := 13) rfl))) Via.refl M.2.1 d2_8 rfl ?_
  refine Rn.iload (pc' := 13) d2_11 rfl rfl ?_
  refine Rn.aaload (pc' := 14) (v := .ref kb) M.2.2.2.2.2.2.2.1 rfl (by decide) rfl d2_13 rfl ?_
  refine Rn.iconst (pc' := 15) (v := (0 : Int32)) d2_14 rfl rfl ?_
  refine Rn.aloadN (pc' := 16) d2_15 rfl rfl rfl ?_
  refine Rn.getF (pc' := 19) (host := "") (Or.inl (hw _ (List.mem_of_getElem? (i := 21) rfl))) Via.refl M.2.2.2.1 d2_16 rfl ?_
  refine Rn.iload (pc' := 21) d2_19 rfl rfl ?_
  refine Rn.iaload (pc' := 22) (v := .int (1 : Int32)) M.2.2.2.2.2.2.2.2.2.2.2.1 (by decide) rfl d2_21 rfl ?_
  refine Rn.iloadN (pc' := 23) d2_22 rfl rfl ?_
  refine Rn.callS (pc' := 26) (argsL := [.ref kb, .int (0 : Int32), .int (1 : Int32), .int x]) (rest := []) (ct_bs1 Z a0 hw kb k0 x h0 M.2.2.2.2.2.2.2.2.1) (hw _ (List.mem_of_getElem? (i := 36) rfl)) (hw _ (List.mem_of_getElem? (i := 37) rfl)) (hw _ (List.mem_of_getElem? (i := 38) rfl)) (hw _ (List.mem_of_getElem? (i := 39) rfl)) (by decide) rfl rfl (lenOf pd_1 rfl) rfl d2_23 rfl (Nat.le_of_ble_eq_true rfl) (Nat.le_of_ble_eq_true rfl) (Nat.le_of_ble_eq_true rfl) (Nat.le_of_ble_eq_true rfl) (fun _ z => nomatch z) (fun _ z => nomatch z) (fun vq5 hq6 Kq7 qq8 => ?_)
  obtain ⟨rfl, rfl⟩ := qq8
  simp only [Option.toList, List.cons_append, List.nil_append]
  rw [hbs]
  refine Rn.istore (pc' := 28) (Ls' := #[.val (.ref m), .val (.int x), .val (.long y), .second, .val (.int (0 : Int32)), .val (.int (-1 : Int32))]) d2_26 rfl rfl ?_
  refine Rn.iload (pc' := 30) d2_28 rfl rfl ?_
  refine Rn.if_lt (pc' := 47) (pn := 33) d2_30 (by decide) (by decide) rfl (fun cq9 => ?_) (fun cq9 => absurd cq9 (by decide))
  refine Rn.aloadN (pc' := 48) d2_47 rfl rfl rfl ?_
  refine Rn.iload (pc' := 50) d2_48 rfl rfl ?_
  refine Rn.iload (pc' := 52) d2_50 rfl rfl ?_
  refine Rn.ineg (pc' := 53) (v := (-(-1 : Int32))) d2_52 rfl rfl ?_
  refine Rn.iconst (pc' := 54) (v := (1 : Int32)) d2_53 rfl rfl ?_
  refine Rn.isub (pc' := 55) (v := ((-(-1 : Int32)) - (1 : Int32))) d2_54 rfl rfl ?_
  refine Rn.iloadN (pc' := 56) d2_55 rfl rfl ?_
  refine Rn.lloadN (pc' := 57) d2_56 rfl rfl ?_
  refine Rn.callP (pc' := 60) (argsL := [.int (0 : Int32), .int ((-(-1 : Int32)) - (1 : Int32)), .int x, .long y]) (a := m) (rest := []) (ct_ins10 Z a0 hw m kk kb vv vb sz fs f k0 u0 h0 nd ⟨M.1, M.2.1, M.2.2.1, M.2.2.2.1, M.2.2.2.2.1, M.2.2.2.2.2.1, M.2.2.2.2.2.2.1, M.2.2.2.2.2.2.2.1, M.2.2.2.2.2.2.2.2.1, M.2.2.2.2.2.2.2.2.2.1, M.2.2.2.2.2.2.2.2.2.2.1, M.2.2.2.2.2.2.2.2.2.2.2.1, M.2.2.2.2.2.2.2.2.2.2.2.2⟩ x y) M.1 (hw _ (List.mem_of_getElem? (i := 46) rfl)) (hw _ (List.mem_of_getElem? (i := 47) rfl)) (hw _ (List.mem_of_getElem? (i := 48) rfl)) (ni_of (hw _ (List.mem_of_getElem? (i := 30) rfl)) rfl) (hw _ (List.mem_of_getElem? (i := 2) rfl)) (hw _ (List.mem_of_getElem? (i := 49) rfl)) (by decide) rfl rfl (lenOf pd_3 rfl) rfl d2_57 rfl (Nat.le_of_ble_eq_true rfl) (Nat.le_of_ble_eq_true rfl) (Nat.le_of_ble_eq_true rfl) (Nat.le_of_ble_eq_true rfl) (allS (Or.inl (List.mem_of_getElem? (i := 0) rfl)) (allS (Or.inl (List.mem_of_getElem? (i := 1) rfl)) (allS (Or.inl (List.mem_of_getElem? (i := 2) rfl)) (allS (Or.inl (List.mem_of_getElem? (i := 3) rfl)) (allS (Or.inl (List.mem_of_getElem? (i := 4) rfl)) (all0)))))) (allS Sf.no (allS Sf.no (allS Sf.no (allS Sf.no (allS Sf.no (all0)))))) (fun vq10 hq11 Kq12 qq13 => ?_)
  obtain ⟨rfl, M2⟩ := qq13
  simp only [Option.toList, List.cons_append, List.nil_append]
  refine Rn.retV rfl d2_60 (Nat.le_of_ble_eq_true rfl) (Nat.le_of_ble_eq_true rfl) ?_
  exact ⟨rfl, M2⟩
set_option maxRecDepth 65536 in
set_option maxHeartbeats 40000000 in
theorem ct_put1c (Z : State) (a0 : Array Value) (hw : ∀ d ∈ tables_1, d.before a0 Z = true) (m kk kb vv vb sz fs : Addr) (f k0 : Int32) (u0 : Int64) (h0 : Heap) (nd : own_Nd m kk kb vv vb sz fs) (M : own_Mp Z h0 m kk kb vv vb sz fs (1 : Int32) f [.int k0, .int (0 : Int32), .int (0 : Int32), .int (0 : Int32)] [.long u0, .long (0 : Int64), .long (0 : Int64), .long (0 : Int64)]) (x : Int32) (y : Int64) (hbs : own_bs1 k0 x = (0 : Int32)) :
    Ct Z ⟨"com/example/ratecraft/ratecraft/SortedIntLongMap", "put", "(IJ)V"⟩ prog_36_method_10_code 6 (Option.none : Option FieldType) ({ frames := 2, cells := 0, slots := 0, locals := 64 } : Room) #[(.ref m), (.int x), (.long y)] h0 [m, kb, vb, sz, fs] (fun v h => v = none ∧ own_Mp Z h m kk kb vv vb sz fs (1 : Int32) f [.int k0, .int (0 : Int32), .int (0 : Int32), .int (0 : Int32)] [.long y, .long (0 : Int64), .long (0 : Int64), .long (0 : Int64)]) := by
  refine Ct.intro (Ls := #[.val (.ref m), .val (.int x), .val (.long y), .second, .unset, .unset]) pn_0 (by intro m; first | (simp [entryFrame, mkF, argsToLocals, Value.category]; done) | rfl) ?_
  refine Rn.aloadN (pc' := 1) d2_0 rfl rfl rfl ?_
  refine Rn.iloadN (pc' := 2) d2_1 rfl rfl ?_
  refine Rn.callP (pc' := 5) (argsL := [.int x]) (a := m) (rest := []) (ct_bo Z a0 hw m x h0 M.2.2.2.2.2.1) M.1 (hw _ (List.mem_of_getElem? (i := 32) rfl)) (hw _ (List.mem_of_getElem? (i := 33) rfl)) (hw _ (List.mem_of_getElem? (i := 34) rfl)) (ni_of (hw _ (List.mem_of_getElem? (i := 30) rfl)) rfl) (hw _ (List.mem_of_getElem? (i := 2) rfl)) (hw _ (List.mem_of_getElem? (i := 35) rfl)) (by decide) rfl rfl (lenOf pd_2 rfl) rfl d2_2 rfl (Nat.le_of_ble_eq_true rfl) (Nat.le_of_ble_eq_true rfl) (Nat.le_of_ble_eq_true rfl) (Nat.le_of_ble_eq_true rfl) (fun _ z => nomatch z) (fun _ z => nomatch z) (fun vq1 hq2 Kq3 qq4 => ?_)
  obtain ⟨rfl, rfl⟩ := qq4
  simp only [Option.toList, List.cons_append, List.nil_append]
  refine Rn.istore (pc' := 7) (Ls' := #[.val (.ref m), .val (.int x), .val (.long y), .second, .val (.int (0 : Int32)), .unset]) d2_5 rfl rfl ?_
  refine Rn.aloadN (pc' := 8) d2_7 rfl rfl rfl ?_
  refine Rn.getF (pc' := 11) (host := "") (Or.inl (hw _ (List.mem_of_getElem? (i := 13) rfl))) Via.refl M.2.1 d2_8 rfl ?_
  refine Rn.iload (pc' := 13) d2_11 rfl rfl ?_
  refine Rn.aaload (pc' := 14) (v := .ref kb) M.2.2.2.2.2.2.2.1 rfl (by decide) rfl d2_13 rfl ?_
  refine Rn.iconst (pc' := 15) (v := (0 : Int32)) d2_14 rfl rfl ?_
  refine Rn.aloadN (pc' := 16) d2_15 rfl rfl rfl ?_
  refine Rn.getF (pc' := 19) (host := "") (Or.inl (hw _ (List.mem_of_getElem? (i := 21) rfl))) Via.refl M.2.2.2.1 d2_16 rfl ?_
  refine Rn.iload (pc' := 21) d2_19 rfl rfl ?_
  refine Rn.iaload (pc' := 22) (v := .int (1 : Int32)) M.2.2.2.2.2.2.2.2.2.2.2.1 (by decide) rfl d2_21 rfl ?_
  refine Rn.iloadN (pc' := 23) d2_22 rfl rfl ?_
  refine Rn.callS (pc' := 26) (argsL := [.ref kb, .int (0 : Int32), .int (1 : Int32), .int x]) (rest := []) (ct_bs1 Z a0 hw kb k0 x h0 M.2.2.2.2.2.2.2.2.1) (hw _ (List.mem_of_getElem? (i := 36) rfl)) (hw _ (List.mem_of_getElem? (i := 37) rfl)) (hw _ (List.mem_of_getElem? (i := 38) rfl)) (hw _ (List.mem_of_getElem? (i := 39) rfl)) (by decide) rfl rfl (lenOf pd_1 rfl) rfl d2_23 rfl (Nat.le_of_ble_eq_true rfl) (Nat.le_of_ble_eq_true rfl) (Nat.le_of_ble_eq_true rfl) (Nat.le_of_ble_eq_true rfl) (fun _ z => nomatch z) (fun _ z => nomatch z) (fun vq5 hq6 Kq7 qq8 => ?_)
  obtain ⟨rfl, rfl⟩ := qq8
  simp only [Option.toList, List.cons_append, List.nil_append]
  rw [hbs]
  refine Rn.istore (pc' := 28) (Ls' := #[.val (.ref m), .val (.int x), .val (.long y), .second, .val (.int (0 : Int32)), .val (.int (0 : Int32))]) d2_26 rfl rfl ?_
  refine Rn.iload (pc' := 30) d2_28 rfl rfl ?_
  refine Rn.if_lt (pc' := 47) (pn := 33) d2_30 (by decide) (by decide) rfl (fun cq9 => absurd cq9 (by decide)) (fun cq9 => ?_)
  refine Rn.aloadN (pc' := 34) d2_33 rfl rfl rfl ?_
  refine Rn.getF (pc' := 37) (host := "") (Or.inl (hw _ (List.mem_of_getElem? (i := 19) rfl))) Via.refl M.2.2.1 d2_34 rfl ?_
  refine Rn.iload (pc' := 39) d2_37 rfl rfl ?_
  refine Rn.aaload (pc' := 40) (v := .ref vb) M.2.2.2.2.2.2.2.2.2.1 rfl (by decide) rfl d2_39 rfl ?_
  refine Rn.iload (pc' := 42) d2_40 rfl rfl ?_
  refine Rn.lloadN (pc' := 43) d2_42 rfl rfl ?_
  refine Rn.lastore (pc' := 44) (v := .long y) M.2.2.2.2.2.2.2.2.2.2.1 (by decide) (Nat.le_of_ble_eq_true rfl) rfl (Or.inl (List.mem_of_getElem? (i := 2) rfl)) Sf.no d2_43 rfl (fun hq11 Wq10 Aq12 => ?_)
  have Aq13 : Ax Z hq11 vb .long ([.long y, .long (0 : Int64), .long (0 : Int64), .long (0 : Int64)]) := Aq12
  refine Rn.goto (pc' := 60) d2_44 (by decide) (by decide) ?_
  refine Rn.retV rfl d2_60 (Nat.le_of_ble_eq_true rfl) (Nat.le_of_ble_eq_true rfl) ?_
  have Fq14 := M.1.wr Wq10
  have Fq15 := M.2.1.other Wq10 (Or.inl nd.2.2.2.1)
  have Fq16 := M.2.2.1.other Wq10 (Or.inl nd.2.2.2.1)
  have Fq17 := M.2.2.2.1.other Wq10 (Or.inl nd.2.2.2.1)
  have Fq18 := M.2.2.2.2.1.other Wq10 (Or.inl nd.2.2.2.1)
  have Fq19 := M.2.2.2.2.2.1.other Wq10 (Or.inl nd.2.2.2.1)
  have Fq20 := M.2.2.2.2.2.2.1.other Wq10 (Or.inl nd.2.2.2.1)
  have Fq21 := M.2.2.2.2.2.2.2.1.other Wq10 nd.2.2.2.2.2.2.2.2.1
  have Fq22 := M.2.2.2.2.2.2.2.2.1.other Wq10 nd.2.2.2.2.2.2.2.2.2.2.2.2.1
  have Fq23 := M.2.2.2.2.2.2.2.2.2.1.other Wq10 nd.2.2.2.2.2.2.2.2.2.2.2.2.2.2.2.1
  have Fq24 := M.2.2.2.2.2.2.2.2.2.2.2.1.other Wq10 (Ne.symm nd.2.2.2.2.2.2.2.2.2.2.2.2.2.2.2.2.2.2.1)
  have Fq25 := M.2.2.2.2.2.2.2.2.2.2.2.2.other Wq10 (Ne.symm nd.2.2.2.2.2.2.2.2.2.2.2.2.2.2.2.2.2.2.2.1)
  exact ⟨rfl, ⟨Fq14, Fq15, Fq16, Fq17, Fq18, Fq19, Fq20, Fq21, Fq22, Fq23, Aq13, Fq24, Fq25⟩⟩
theorem d9_0 : decode prog_36_method_15_code 0 = .ok (.aload_n 0, 1) := by decide +kernel
theorem d9_1 : decode prog_36_method_15_code 1 = .ok (.getfield 11, 3) := by decide +kernel
theorem d9_4 : decode prog_36_method_15_code 4 = .ok (.iload_n 1, 1) := by decide +kernel
theorem d9_5 : decode prog_36_method_15_code 5 = .ok (.aaload, 1) := by decide +kernel
theorem d9_6 : decode prog_36_method_15_code 6 = .ok (.iconst 0, 1) := by decide +kernel
theorem d9_7 : decode prog_36_method_15_code 7 = .ok (.aload_n 0, 1) := by decide +kernel
theorem d9_8 : decode prog_36_method_15_code 8 = .ok (.getfield 21, 3) := by decide +kernel
theorem d9_11 : decode prog_36_method_15_code 11 = .ok (.iload_n 1, 1) := by decide +kernel
theorem d9_12 : decode prog_36_method_15_code 12 = .ok (.iaload, 1) := by decide +kernel
theorem d9_13 : decode prog_36_method_15_code 13 = .ok (.iload_n 2, 1) := by decide +kernel
theorem d9_14 : decode prog_36_method_15_code 14 = .ok (.invokestatic 55, 3) := by decide +kernel
theorem d9_17 : decode prog_36_method_15_code 17 = .ok (.istore_n 3, 1) := by decide +kernel
theorem d9_18 : decode prog_36_method_15_code 18 = .ok (.iload_n 3, 1) := by decide +kernel
theorem d9_19 : decode prog_36_method_15_code 19 = .ok (.ifCond .lt 7, 3) := by decide +kernel
theorem d9_22 : decode prog_36_method_15_code 22 = .ok (.iload_n 3, 1) := by decide +kernel
theorem d9_23 : decode prog_36_method_15_code 23 = .ok (.goto 7, 3) := by decide +kernel
theorem d9_26 : decode prog_36_method_15_code 26 = .ok (.iload_n 3, 1) := by decide +kernel
theorem d9_27 : decode prog_36_method_15_code 27 = .ok (.ineg, 1) := by decide +kernel
theorem d9_28 : decode prog_36_method_15_code 28 = .ok (.iconst 2, 1) := by decide +kernel
theorem d9_29 : decode prog_36_method_15_code 29 = .ok (.isub, 1) := by decide +kernel
theorem d9_30 : decode prog_36_method_15_code 30 = .ok (.ireturn, 1) := by decide +kernel
set_option maxRecDepth 65536 in
set_option maxHeartbeats 40000000 in
theorem ct_lam10 (Z : State) (a0 : Array Value) (hw : ∀ d ∈ tables_1, d.before a0 Z = true) (m kk kb vv vb sz fs : Addr) (f k0 : Int32) (u0 : Int64) (h0 : Heap) (nd : own_Nd m kk kb vv vb sz fs) (M : own_Mp Z h0 m kk kb vv vb sz fs (1 : Int32) f [.int k0, .int (0 : Int32), .int (0 : Int32), .int (0 : Int32)] [.long u0, .long (0 : Int64), .long (0 : Int64), .long (0 : Int64)]) (x : Int32) (hbs : own_bs1 k0 x = (0 : Int32)) :
    Ct Z ⟨"com/example/ratecraft/ratecraft/SortedIntLongMap", "lastAtMost", "(II)I"⟩ prog_36_method_15_code 4 (Option.some FieldType.int) ({ frames := 2, cells := 0, slots := 0, locals := 35 } : Room) #[(.ref m), (.int (0 : Int32)), (.int x)] h0 [] (fun v h => v = some (.int (0 : Int32)) ∧ h0 = h) := by
  refine Ct.intro (Ls := #[.val (.ref m), .val (.int (0 : Int32)), .val (.int x), .unset]) pn_0 (by intro m; first | (simp [entryFrame, mkF, argsToLocals, Value.category]; done) | rfl) ?_
  refine Rn.aloadN (pc' := 1) d9_0 rfl rfl rfl ?_
  refine Rn.getF (pc' := 4) (host := "") (Or.inl (hw _ (List.mem_of_getElem? (i := 13) rfl))) Via.refl M.2.1 d9_1 rfl ?_
  refine Rn.iloadN (pc' := 5) d9_4 rfl rfl ?_
  refine Rn.aaload (pc' := 6) (v := .ref kb) M.2.2.2.2.2.2.2.1 rfl (by decide) rfl d9_5 rfl ?_
  refine Rn.iconst (pc' := 7) (v := (0 : Int32)) d9_6 rfl rfl ?_
  refine Rn.aloadN (pc' := 8) d9_7 rfl rfl rfl ?_
  refine Rn.getF (pc' := 11) (host := "") (Or.inl (hw _ (List.mem_of_getElem? (i := 21) rfl))) Via.refl M.2.2.2.1 d9_8 rfl ?_
  refine Rn.iloadN (pc' := 12) d9_11 rfl rfl ?_
  refine Rn.iaload (pc' := 13) (v := .int (1 : Int32)) M.2.2.2.2.2.2.2.2.2.2.2.1 (by decide) rfl d9_12 rfl ?_
  refine Rn.iloadN (pc' := 14) d9_13 rfl rfl ?_
  refine Rn.callS (pc' := 17) (argsL := [.ref kb, .int (0 : Int32), .int (1 : Int32), .int x]) (rest := []) (ct_bs1 Z a0 hw kb k0 x h0 M.2.2.2.2.2.2.2.2.1) (hw _ (List.mem_of_getElem? (i := 36) rfl)) (hw _ (List.mem_of_getElem? (i := 37) rfl)) (hw _ (List.mem_of_getElem? (i := 38) rfl)) (hw _ (List.mem_of_getElem? (i := 39) rfl)) (by decide) rfl rfl (lenOf pd_1 rfl) rfl d9_14 rfl (Nat.le_of_ble_eq_true rfl) (Nat.le_of_ble_eq_true rfl) (Nat.le_of_ble_eq_true rfl) (Nat.le_of_ble_eq_true rfl) (fun _ z => nomatch z) (fun _ z => nomatch z) (fun vq1 hq2 Kq3 qq4 => ?_)
  obtain ⟨rfl, rfl⟩ := qq4
  simp only [Option.toList, List.cons_append, List.nil_append]
  rw [hbs]
  refine Rn.istoreN (pc' := 18) (Ls' := #[.val (.ref m), .val (.int (0 : Int32)), .val (.int x), .val (.int (0 : Int32))]) d9_17 rfl rfl ?_
  refine Rn.iloadN (pc' := 19) d9_18 rfl rfl ?_
  refine Rn.if_lt (pc' := 26) (pn := 22) d9_19 (by decide) (by decide) rfl (fun cq5 => absurd cq5 (by decide)) (fun cq5 => ?_)
  refine Rn.iloadN (pc' := 23) d9_22 rfl rfl ?_
  refine Rn.goto (pc' := 30) d9_23 (by decide) (by decide) ?_
  refine Rn.retI rfl d9_30 (Nat.le_of_ble_eq_true rfl) (Nat.le_of_ble_eq_true rfl) ?_
  exact ⟨rfl, rfl⟩
theorem d8_0 : decode prog_36_method_3_code 0 = .ok (.aload_n 0, 1) := by decide +kernel
theorem d8_1 : decode prog_36_method_3_code 1 = .ok (.iload_n 1, 1) := by decide +kernel
theorem d8_2 : decode prog_36_method_3_code 2 = .ok (.invokevirtual 34, 3) := by decide +kernel
theorem d8_5 : decode prog_36_method_3_code 5 = .ok (.istore_n 2, 1) := by decide +kernel
theorem d8_6 : decode prog_36_method_3_code 6 = .ok (.aload_n 0, 1) := by decide +kernel
theorem d8_7 : decode prog_36_method_3_code 7 = .ok (.iload_n 2, 1) := by decide +kernel
theorem d8_8 : decode prog_36_method_3_code 8 = .ok (.iload_n 1, 1) := by decide +kernel
theorem d8_9 : decode prog_36_method_3_code 9 = .ok (.invokevirtual 38, 3) := by decide +kernel
theorem d8_12 : decode prog_36_method_3_code 12 = .ok (.istore_n 3, 1) := by decide +kernel
theorem d8_13 : decode prog_36_method_3_code 13 = .ok (.iload_n 3, 1) := by decide +kernel
theorem d8_14 : decode prog_36_method_3_code 14 = .ok (.ifCond .ge 7, 3) := by decide +kernel
theorem d8_17 : decode prog_36_method_3_code 17 = .ok (.iconst (-1), 1) := by decide +kernel
theorem d8_18 : decode prog_36_method_3_code 18 = .ok (.goto 8, 3) := by decide +kernel
theorem d8_21 : decode prog_36_method_3_code 21 = .ok (.iload_n 2, 1) := by decide +kernel
theorem d8_22 : decode prog_36_method_3_code 22 = .ok (.iload_n 3, 1) := by decide +kernel
theorem d8_23 : decode prog_36_method_3_code 23 = .ok (.invokestatic 42, 3) := by decide +kernel
theorem d8_26 : decode prog_36_method_3_code 26 = .ok (.ireturn, 1) := by decide +kernel
set_option maxRecDepth 65536 in
set_option maxHeartbeats 40000000 in
theorem ct_fl10 (Z : State) (a0 : Array Value) (hw : ∀ d ∈ tables_1, d.before a0 Z = true) (m kk kb vv vb sz fs : Addr) (f k0 : Int32) (u0 : Int64) (h0 : Heap) (nd : own_Nd m kk kb vv vb sz fs) (M : own_Mp Z h0 m kk kb vv vb sz fs (1 : Int32) f [.int k0, .int (0 : Int32), .int (0 : Int32), .int (0 : Int32)] [.long u0, .long (0 : Int64), .long (0 : Int64), .long (0 : Int64)]) (x : Int32) (hbs : own_bs1 k0 x = (0 : Int32)) :
    Ct Z ⟨"com/example/ratecraft/ratecraft/SortedIntLongMap", "floor", "(I)I"⟩ prog_36_method_3_code 4 (Option.some FieldType.int) ({ frames := 3, cells := 0, slots := 0, locals := 50 } : Room) #[(.ref m), (.int x)] h0 [] (fun v h => v = some (.int (0 : Int32)) ∧ h0 = h) := by
  refine Ct.intro (Ls := #[.val (.ref m), .val (.int x), .unset, .unset]) pn_0 (by intro m; first | (simp [entryFrame, mkF, argsToLocals, Value.category]; done) | rfl) ?_
  refine Rn.aloadN (pc' := 1) d8_0 rfl rfl rfl ?_
  refine Rn.iloadN (pc' := 2) d8_1 rfl rfl ?_
  refine Rn.callP (pc' := 5) (argsL := [.int x]) (a := m) (rest := []) (ct_bo Z a0 hw m x h0 M.2.2.2.2.2.1) M.1 (hw _ (List.mem_of_getElem? (i := 32) rfl)) (hw _ (List.mem_of_getElem? (i := 33) rfl)) (hw _ (List.mem_of_getElem? (i := 34) rfl)) (ni_of (hw _ (List.mem_of_getElem? (i := 30) rfl)) rfl) (hw _ (List.mem_of_getElem? (i := 2) rfl)) (hw _ (List.mem_of_getElem? (i := 35) rfl)) (by decide) rfl rfl (lenOf pd_2 rfl) rfl d8_2 rfl (Nat.le_of_ble_eq_true rfl) (Nat.le_of_ble_eq_true rfl) (Nat.le_of_ble_eq_true rfl) (Nat.le_of_ble_eq_true rfl) (fun _ z => nomatch z) (fun _ z => nomatch z) (fun vq1 hq2 Kq3 qq4 => ?_)
  obtain ⟨rfl, rfl⟩ := qq4
  simp only [Option.toList, List.cons_append, List.nil_append]
  refine Rn.istoreN (pc' := 6) (Ls' := #[.val (.ref m), .val (.int x), .val (.int (0 : Int32)), .unset]) d8_5 rfl rfl ?_
  refine Rn.aloadN (pc' := 7) d8_6 rfl rfl rfl ?_
  refine Rn.iloadN (pc' := 8) d8_7 rfl rfl ?_
  refine Rn.iloadN (pc' := 9) d8_8 rfl rfl ?_
  refine Rn.callP (pc' := 12) (argsL := [.int (0 : Int32), .int x]) (a := m) (rest := []) (ct_lam10 Z a0 hw m kk kb vv vb sz fs f k0 u0 h0 nd M x hbs) M.1 (hw _ (List.mem_of_getElem? (i := 61) rfl)) (hw _ (List.mem_of_getElem? (i := 62) rfl)) (hw _ (List.mem_of_getElem? (i := 63) rfl)) (ni_of (hw _ (List.mem_of_getElem? (i := 30) rfl)) rfl) (hw _ (List.mem_of_getElem? (i := 2) rfl)) (hw _ (List.mem_of_getElem? (i := 64) rfl)) (by decide) rfl rfl (lenOf pd_4 rfl) rfl d8_9 rfl (Nat.le_of_ble_eq_true rfl) (Nat.le_of_ble_eq_true rfl) (Nat.le_of_ble_eq_true rfl) (Nat.le_of_ble_eq_true rfl) (fun _ z => nomatch z) (fun _ z => nomatch z) (fun vq5 hq6 Kq7 qq8 => ?_)
  obtain ⟨rfl, rfl⟩ := qq8
  simp only [Option.toList, List.cons_append, List.nil_append]
  refine Rn.istoreN (pc' := 13) (Ls' := #[.val (.ref m), .val (.int x), .val (.int (0 : Int32)), .val (.int (0 : Int32))]) d8_12 rfl rfl ?_
  refine Rn.iloadN (pc' := 14) d8_13 rfl rfl ?_
  refine Rn.if_ge (pc' := 21) (pn := 17) d8_14 (by decide) (by decide) rfl (fun cq9 => ?_) (fun cq9 => absurd cq9 (by decide))
  refine Rn.iloadN (pc' := 22) d8_21 rfl rfl ?_
  refine Rn.iloadN (pc' := 23) d8_22 rfl rfl ?_
  refine Rn.callS (pc' := 26) (argsL := [.int (0 : Int32), .int (0 : Int32)]) (rest := []) (ct_pos Z a0 hw (0 : Int32) h0) (hw _ (List.mem_of_getElem? (i := 65) rfl)) (hw _ (List.mem_of_getElem? (i := 66) rfl)) (hw _ (List.mem_of_getElem? (i := 2) rfl)) (hw _ (List.mem_of_getElem? (i := 67) rfl)) (by decide) rfl rfl (lenOf pd_4 rfl) rfl d8_23 rfl (Nat.le_of_ble_eq_true rfl) (Nat.le_of_ble_eq_true rfl) (Nat.le_of_ble_eq_true rfl) (Nat.le_of_ble_eq_true rfl) (fun _ z => nomatch z) (fun _ z => nomatch z) (fun vq10 hq11 Kq12 qq13 => ?_)
  obtain ⟨rfl, rfl⟩ := qq13
  simp only [Option.toList, List.cons_append, List.nil_append]
  refine Rn.retI rfl d8_26 (Nat.le_of_ble_eq_true rfl) (Nat.le_of_ble_eq_true rfl) ?_
  exact ⟨rfl, rfl⟩
theorem d11_0 : decode prog_36_method_9_code 0 = .ok (.aload_n 0, 1) := by decide +kernel
theorem d11_1 : decode prog_36_method_9_code 1 = .ok (.getfield 17, 3) := by decide +kernel
theorem d11_4 : decode prog_36_method_9_code 4 = .ok (.iload_n 1, 1) := by decide +kernel
theorem d11_5 : decode prog_36_method_9_code 5 = .ok (.bipush 6, 2) := by decide +kernel
theorem d11_7 : decode prog_36_method_9_code 7 = .ok (.iushr, 1) := by decide +kernel
theorem d11_8 : decode prog_36_method_9_code 8 = .ok (.aaload, 1) := by decide +kernel
theorem d11_9 : decode prog_36_method_9_code 9 = .ok (.iload_n 1, 1) := by decide +kernel
theorem d11_10 : decode prog_36_method_9_code 10 = .ok (.bipush 63, 2) := by decide +kernel
theorem d11_12 : decode prog_36_method_9_code 12 = .ok (.iand, 1) := by decide +kernel
theorem d11_13 : decode prog_36_method_9_code 13 = .ok (.lload_n 2, 1) := by decide +kernel
theorem d11_14 : decode prog_36_method_9_code 14 = .ok (.lastore, 1) := by decide +kernel
theorem d11_15 : decode prog_36_method_9_code 15 = .ok (.return_, 1) := by decide +kernel
set_option maxRecDepth 65536 in
set_option maxHeartbeats 40000000 in
theorem ct_sv10 (Z : State) (a0 : Array Value) (hw : ∀ d ∈ tables_1, d.before a0 Z = true) (m kk kb vv vb sz fs : Addr) (f k0 : Int32) (u0 : Int64) (h0 : Heap) (nd : own_Nd m kk kb vv vb sz fs) (M : own_Mp Z h0 m kk kb vv vb sz fs (1 : Int32) f [.int k0, .int (0 : Int32), .int (0 : Int32), .int (0 : Int32)] [.long u0, .long (0 : Int64), .long (0 : Int64), .long (0 : Int64)]) (y : Int64) :
    Ct Z ⟨"com/example/ratecraft/ratecraft/SortedIntLongMap", "setValue", "(IJ)V"⟩ prog_36_method_9_code 4 (Option.none : Option FieldType) ({ frames := 0, cells := 0, slots := 0, locals := 0 } : Room) #[(.ref m), (.int (0 : Int32)), (.long y)] h0 [vb] (fun v h => v = none ∧ own_Mp Z h m kk kb vv vb sz fs (1 : Int32) f [.int k0, .int (0 : Int32), .int (0 : Int32), .int (0 : Int32)] [.long y, .long (0 : Int64), .long (0 : Int64), .long (0 : Int64)]) := by
  refine Ct.intro (Ls := #[.val (.ref m), .val (.int (0 : Int32)), .val (.long y), .second]) pn_0 (by intro m; first | (simp [entryFrame, mkF, argsToLocals, Value.category]; done) | rfl) ?_
  refine Rn.aloadN (pc' := 1) d11_0 rfl rfl rfl ?_
  refine Rn.getF (pc' := 4) (host := "") (Or.inl (hw _ (List.mem_of_getElem? (i := 19) rfl))) Via.refl M.2.2.1 d11_1 rfl ?_
  refine Rn.iloadN (pc' := 5) d11_4 rfl rfl ?_
  refine Rn.bipush (pc' := 7) (v := (6 : Int32)) d11_5 rfl rfl ?_
  refine Rn.iushr (pc' := 8) (v := (0 : Int32)) d11_7 rfl rfl ?_
  refine Rn.aaload (pc' := 9) (v := .ref vb) M.2.2.2.2.2.2.2.2.2.1 rfl (by decide) rfl d11_8 rfl ?_
  refine Rn.iloadN (pc' := 10) d11_9 rfl rfl ?_
  refine Rn.bipush (pc' := 12) (v := (63 : Int32)) d11_10 rfl rfl ?_
  refine Rn.iand (pc' := 13) (v := (0 : Int32)) d11_12 rfl rfl ?_
  refine Rn.lloadN (pc' := 14) d11_13 rfl rfl ?_
  refine Rn.lastore (pc' := 15) (v := .long y) M.2.2.2.2.2.2.2.2.2.2.1 (by decide) (Nat.le_of_ble_eq_true rfl) rfl (Or.inl (List.mem_of_getElem? (i := 0) rfl)) Sf.no d11_14 rfl (fun hq2 Wq1 Aq3 => ?_)
  have Aq4 : Ax Z hq2 vb .long ([.long y, .long (0 : Int64), .long (0 : Int64), .long (0 : Int64)]) := Aq3
  refine Rn.retV rfl d11_15 (Nat.le_of_ble_eq_true rfl) (Nat.le_of_ble_eq_true rfl) ?_
  have Fq5 := M.1.wr Wq1
  have Fq6 := M.2.1.other Wq1 (Or.inl nd.2.2.2.1)
  have Fq7 := M.2.2.1.other Wq1 (Or.inl nd.2.2.2.1)
  have Fq8 := M.2.2.2.1.other Wq1 (Or.inl nd.2.2.2.1)
  have Fq9 := M.2.2.2.2.1.other Wq1 (Or.inl nd.2.2.2.1)
  have Fq10 := M.2.2.2.2.2.1.other Wq1 (Or.inl nd.2.2.2.1)
  have Fq11 := M.2.2.2.2.2.2.1.other Wq1 (Or.inl nd.2.2.2.1)
  have Fq12 := M.2.2.2.2.2.2.2.1.other Wq1 nd.2.2.2.2.2.2.2.2.1
  have Fq13 := M.2.2.2.2.2.2.2.2.1.other Wq1 nd.2.2.2.2.2.2.2.2.2.2.2.2.1
  have Fq14 := M.2.2.2.2.2.2.2.2.2.1.other Wq1 nd.2.2.2.2.2.2.2.2.2.2.2.2.2.2.2.1
  have Fq15 := M.2.2.2.2.2.2.2.2.2.2.2.1.other Wq1 (Ne.symm nd.2.2.2.2.2.2.2.2.2.2.2.2.2.2.2.2.2.2.1)
  have Fq16 := M.2.2.2.2.2.2.2.2.2.2.2.2.other Wq1 (Ne.symm nd.2.2.2.2.2.2.2.2.2.2.2.2.2.2.2.2.2.2.2.1)
  exact ⟨rfl, ⟨Fq5, Fq6, Fq7, Fq8, Fq9, Fq10, Fq11, Fq12, Fq13, Fq14, Aq4, Fq15, Fq16⟩⟩
theorem d12_0 : decode prog_36_method_8_code 0 = .ok (.aload_n 0, 1) := by decide +kernel
theorem d12_1 : decode prog_36_method_8_code 1 = .ok (.getfield 17, 3) := by decide +kernel
theorem d12_4 : decode prog_36_method_8_code 4 = .ok (.iload_n 1, 1) := by decide +kernel
theorem d12_5 : decode prog_36_method_8_code 5 = .ok (.bipush 6, 2) := by decide +kernel
theorem d12_7 : decode prog_36_method_8_code 7 = .ok (.iushr, 1) := by decide +kernel
theorem d12_8 : decode prog_36_method_8_code 8 = .ok (.aaload, 1) := by decide +kernel
theorem d12_9 : decode prog_36_method_8_code 9 = .ok (.iload_n 1, 1) := by decide +kernel
theorem d12_10 : decode prog_36_method_8_code 10 = .ok (.bipush 63, 2) := by decide +kernel
theorem d12_12 : decode prog_36_method_8_code 12 = .ok (.iand, 1) := by decide +kernel
theorem d12_13 : decode prog_36_method_8_code 13 = .ok (.laload, 1) := by decide +kernel
theorem d12_14 : decode prog_36_method_8_code 14 = .ok (.lreturn, 1) := by decide +kernel
set_option maxRecDepth 65536 in
set_option maxHeartbeats 40000000 in
theorem ct_gv10 (Z : State) (a0 : Array Value) (hw : ∀ d ∈ tables_1, d.before a0 Z = true) (m kk kb vv vb sz fs : Addr) (f k0 : Int32) (u0 : Int64) (h0 : Heap) (nd : own_Nd m kk kb vv vb sz fs) (M : own_Mp Z h0 m kk kb vv vb sz fs (1 : Int32) f [.int k0, .int (0 : Int32), .int (0 : Int32), .int (0 : Int32)] [.long u0, .long (0 : Int64), .long (0 : Int64), .long (0 : Int64)]) :
    Ct Z ⟨"com/example/ratecraft/ratecraft/SortedIntLongMap", "value", "(I)J"⟩ prog_36_method_8_code 2 (Option.some FieldType.long) ({ frames := 0, cells := 0, slots := 0, locals := 0 } : Room) #[(.ref m), (.int (0 : Int32))] h0 [] (fun v h => v = some (.long u0) ∧ h0 = h) := by
  refine Ct.intro (Ls := #[.val (.ref m), .val (.int (0 : Int32))]) pn_0 (by intro m; first | (simp [entryFrame, mkF, argsToLocals, Value.category]; done) | rfl) ?_
  refine Rn.aloadN (pc' := 1) d12_0 rfl rfl rfl ?_
  refine Rn.getF (pc' := 4) (host := "") (Or.inl (hw _ (List.mem_of_getElem? (i := 19) rfl))) Via.refl M.2.2.1 d12_1 rfl ?_
  refine Rn.iloadN (pc' := 5) d12_4 rfl rfl ?_
  refine Rn.bipush (pc' := 7) (v := (6 : Int32)) d12_5 rfl rfl ?_
  refine Rn.iushr (pc' := 8) (v := (0 : Int32)) d12_7 rfl rfl ?_
  refine Rn.aaload (pc' := 9) (v := .ref vb) M.2.2.2.2.2.2.2.2.2.1 rfl (by decide) rfl d12_8 rfl ?_
  refine Rn.iloadN (pc' := 10) d12_9 rfl rfl ?_
  refine Rn.bipush (pc' := 12) (v := (63 : Int32)) d12_10 rfl rfl ?_
  refine Rn.iand (pc' := 13) (v := (0 : Int32)) d12_12 rfl rfl ?_
  refine Rn.laload (pc' := 14) (v := .long u0) M.2.2.2.2.2.2.2.2.2.2.1 (by decide) rfl d12_13 rfl ?_
  refine Rn.retJ rfl d12_14 (Nat.le_of_ble_eq_true rfl) (Nat.le_of_ble_eq_true rfl) ?_
  exact ⟨rfl, rfl⟩
theorem d13_0 : decode prog_36_method_7_code 0 = .ok (.aload_n 0, 1) := by decide +kernel
theorem d13_1 : decode prog_36_method_7_code 1 = .ok (.getfield 11, 3) := by decide +kernel
theorem d13_4 : decode prog_36_method_7_code 4 = .ok (.iload_n 1, 1) := by decide +kernel
theorem d13_5 : decode prog_36_method_7_code 5 = .ok (.bipush 6, 2) := by decide +kernel
theorem d13_7 : decode prog_36_method_7_code 7 = .ok (.iushr, 1) := by decide +kernel
theorem d13_8 : decode prog_36_method_7_code 8 = .ok (.aaload, 1) := by decide +kernel
theorem d13_9 : decode prog_36_method_7_code 9 = .ok (.iload_n 1, 1) := by decide +kernel
theorem d13_10 : decode prog_36_method_7_code 10 = .ok (.bipush 63, 2) := by decide +kernel
theorem d13_12 : decode prog_36_method_7_code 12 = .ok (.iand, 1) := by decide +kernel
theorem d13_13 : decode prog_36_method_7_code 13 = .ok (.iaload, 1) := by decide +kernel
theorem d13_14 : decode prog_36_method_7_code 14 = .ok (.ireturn, 1) := by decide +kernel
set_option maxRecDepth 65536 in
set_option maxHeartbeats 40000000 in
theorem ct_ke10 (Z : State) (a0 : Array Value) (hw : ∀ d ∈ tables_1, d.before a0 Z = true) (m kk kb vv vb sz fs : Addr) (f k0 : Int32) (u0 : Int64) (h0 : Heap) (nd : own_Nd m kk kb vv vb sz fs) (M : own_Mp Z h0 m kk kb vv vb sz fs (1 : Int32) f [.int k0, .int (0 : Int32), .int (0 : Int32), .int (0 : Int32)] [.long u0, .long (0 : Int64), .long (0 : Int64), .long (0 : Int64)]) :
    Ct Z ⟨"com/example/ratecraft/ratecraft/SortedIntLongMap", "key", "(I)I"⟩ prog_36_method_7_code 2 (Option.some FieldType.int) ({ frames := 0, cells := 0, slots := 0, locals := 0 } : Room) #[(.ref m), (.int (0 : Int32))] h0 [] (fun v h => v = some (.int k0) ∧ h0 = h) := by
  refine Ct.intro (Ls := #[.val (.ref m), .val (.int (0 : Int32))]) pn_0 (by intro m; first | (simp [entryFrame, mkF, argsToLocals, Value.category]; done) | rfl) ?_
  refine Rn.aloadN (pc' := 1) d13_0 rfl rfl rfl ?_
  refine Rn.getF (pc' := 4) (host := "") (Or.inl (hw _ (List.mem_of_getElem? (i := 13) rfl))) Via.refl M.2.1 d13_1 rfl ?_
  refine Rn.iloadN (pc' := 5) d13_4 rfl rfl ?_
  refine Rn.bipush (pc' := 7) (v := (6 : Int32)) d13_5 rfl rfl ?_
  refine Rn.iushr (pc' := 8) (v := (0 : Int32)) d13_7 rfl rfl ?_
  refine Rn.aaload (pc' := 9) (v := .ref kb) M.2.2.2.2.2.2.2.1 rfl (by decide) rfl d13_8 rfl ?_
  refine Rn.iloadN (pc' := 10) d13_9 rfl rfl ?_
  refine Rn.bipush (pc' := 12) (v := (63 : Int32)) d13_10 rfl rfl ?_
  refine Rn.iand (pc' := 13) (v := (0 : Int32)) d13_12 rfl rfl ?_
  refine Rn.iaload (pc' := 14) (v := .int k0) M.2.2.2.2.2.2.2.2.1 (by decide) rfl d13_13 rfl ?_
  refine Rn.retI rfl d13_14 (Nat.le_of_ble_eq_true rfl) (Nat.le_of_ble_eq_true rfl) ?_
  exact ⟨rfl, rfl⟩
set_option maxRecDepth 65536 in
set_option maxHeartbeats 40000000 in
theorem ct_lam20 (Z : State) (a0 : Array Value) (hw : ∀ d ∈ tables_1, d.before a0 Z = true) (m kk kb vv vb sz fs : Addr) (f k0 k1 : Int32) (u0 u1 : Int64) (h0 : Heap) (nd : own_Nd m kk kb vv vb sz fs) (M : own_Mp Z h0 m kk kb vv vb sz fs (2 : Int32) f [.int k0, .int k1, .int (0 : Int32), .int (0 : Int32)] [.long u0, .long u1, .long (0 : Int64), .long (0 : Int64)]) (x : Int32) (hbs : own_bs2 k0 k1 x = (0 : Int32)) :
    Ct Z ⟨"com/example/ratecraft/ratecraft/SortedIntLongMap", "lastAtMost", "(II)I"⟩ prog_36_method_15_code 4 (Option.some FieldType.int) ({ frames := 2, cells := 0, slots := 0, locals := 35 } : Room) #[(.ref m), (.int (0 : Int32)), (.int x)] h0 [] (fun v h => v = some (.int (0 : Int32)) ∧ h0 = h) := by
  refine Ct.intro (Ls := #[.val (.ref m), .val (.int (0 : Int32)), .val (.int x), .unset]) pn_0 (by intro m; first | (simp [entryFrame, mkF, argsToLocals, Value.category]; done) | rfl) ?_
  refine Rn.aloadN (pc' := 1) d9_0 rfl rfl rfl ?_
  refine Rn.getF (pc' := 4) (host := "") (Or.inl (hw _ (List.mem_of_getElem? (i := 13) rfl))) Via.refl M.2.1 d9_1 rfl ?_
  refine Rn.iloadN (pc' := 5) d9_4 rfl rfl ?_
  refine Rn.aaload (pc' := 6) (v := .ref kb) M.2.2.2.2.2.2.2.1 rfl (by decide) rfl d9_5 rfl ?_
  refine Rn.iconst (pc' := 7) (v := (0 : Int32)) d9_6 rfl rfl ?_
  refine Rn.aloadN (pc' := 8) d9_7 rfl rfl rfl ?_
  refine Rn.getF (pc' := 11) (host := "") (Or.inl (hw _ (List.mem_of_getElem? (i := 21) rfl))) Via.refl M.2.2.2.1 d9_8 rfl ?_
  refine Rn.iloadN (pc' := 12) d9_11 rfl rfl ?_
  refine Rn.iaload (pc' := 13) (v := .int (2 : Int32)) M.2.2.2.2.2.2.2.2.2.2.2.1 (by decide) rfl d9_12 rfl ?_
  refine Rn.iloadN (pc' := 14) d9_13 rfl rfl ?_
  refine Rn.callS (pc' := 17) (argsL := [.ref kb, .int (0 : Int32), .int (2 : Int32), .int x]) (rest := []) (ct_bs2 Z a0 hw kb k0 k1 x h0 M.2.2.2.2.2.2.2.2.1) (hw _ (List.mem_of_getElem? (i := 36) rfl)) (hw _ (List.mem_of_getElem? (i := 37) rfl)) (hw _ (List.mem_of_getElem? (i := 38) rfl)) (hw _ (List.mem_of_getElem? (i := 39) rfl)) (by decide) rfl rfl (lenOf pd_1 rfl) rfl d9_14 rfl (Nat.le_of_ble_eq_true rfl) (Nat.le_of_ble_eq_true rfl) (Nat.le_of_ble_eq_true rfl) (Nat.le_of_ble_eq_true rfl) (fun _ z => nomatch z) (fun _ z => nomatch z) (fun vq1 hq2 Kq3 qq4 => ?_)
  obtain ⟨rfl, rfl⟩ := qq4
  simp only [Option.toList, List.cons_append, List.nil_append]
  rw [hbs]
  refine Rn.istoreN (pc' := 18) (Ls' := #[.val (.ref m), .val (.int (0 : Int32)), .val (.int x), .val (.int (0 : Int32))]) d9_17 rfl rfl ?_
  refine Rn.iloadN (pc' := 19) d9_18 rfl rfl ?_
  refine Rn.if_lt (pc' := 26) (pn := 22) d9_19 (by decide) (by decide) rfl (fun cq5 => absurd cq5 (by decide)) (fun cq5 => ?_)
  refine Rn.iloadN (pc' := 23) d9_22 rfl rfl ?_
  refine Rn.goto (pc' := 30) d9_23 (by decide) (by decide) ?_
  refine Rn.retI rfl d9_30 (Nat.le_of_ble_eq_true rfl) (Nat.le_of_ble_eq_true rfl) ?_
  exact ⟨rfl, rfl⟩
set_option maxRecDepth 65536 in
set_option maxHeartbeats 40000000 in
theorem ct_fl20 (Z : State) (a0 : Array Value) (hw : ∀ d ∈ tables_1, d.before a0 Z = true) (m kk kb vv vb sz fs : Addr) (f k0 k1 : Int32) (u0 u1 : Int64) (h0 : Heap) (nd : own_Nd m kk kb vv vb sz fs) (M : own_Mp Z h0 m kk kb vv vb sz fs (2 : Int32) f [.int k0, .int k1, .int (0 : Int32), .int (0 : Int32)] [.long u0, .long u1, .long (0 : Int64), .long (0 : Int64)]) (x : Int32) (hbs : own_bs2 k0 k1 x = (0 : Int32)) :
    Ct Z ⟨"com/example/ratecraft/ratecraft/SortedIntLongMap", "floor", "(I)I"⟩ prog_36_method_3_code 4 (Option.some FieldType.int) ({ frames := 3, cells := 0, slots := 0, locals := 50 } : Room) #[(.ref m), (.int x)] h0 [] (fun v h => v = some (.int (0 : Int32)) ∧ h0 = h) := by
  refine Ct.intro (Ls := #[.val (.ref m), .val (.int x), .unset, .unset]) pn_0 (by intro m; first | (simp [entryFrame, mkF, argsToLocals, Value.category]; done) | rfl) ?_
  refine Rn.aloadN (pc' := 1) d8_0 rfl rfl rfl ?_
  refine Rn.iloadN (pc' := 2) d8_1 rfl rfl ?_
  refine Rn.callP (pc' := 5) (argsL := [.int x]) (a := m) (rest := []) (ct_bo Z a0 hw m x h0 M.2.2.2.2.2.1) M.1 (hw _ (List.mem_of_getElem? (i := 32) rfl)) (hw _ (List.mem_of_getElem? (i := 33) rfl)) (hw _ (List.mem_of_getElem? (i := 34) rfl)) (ni_of (hw _ (List.mem_of_getElem? (i := 30) rfl)) rfl) (hw _ (List.mem_of_getElem? (i := 2) rfl)) (hw _ (List.mem_of_getElem? (i := 35) rfl)) (by decide) rfl rfl (lenOf pd_2 rfl) rfl d8_2 rfl (Nat.le_of_ble_eq_true rfl) (Nat.le_of_ble_eq_true rfl) (Nat.le_of_ble_eq_true rfl) (Nat.le_of_ble_eq_true rfl) (fun _ z => nomatch z) (fun _ z => nomatch z) (fun vq1 hq2 Kq3 qq4 => ?_)
  obtain ⟨rfl, rfl⟩ := qq4
  simp only [Option.toList, List.cons_append, List.nil_append]
  refine Rn.istoreN (pc' := 6) (Ls' := #[.val (.ref m), .val (.int x), .val (.int (0 : Int32)), .unset]) d8_5 rfl rfl ?_
  refine Rn.aloadN (pc' := 7) d8_6 rfl rfl rfl ?_
  refine Rn.iloadN (pc' := 8) d8_7 rfl rfl ?_
  refine Rn.iloadN (pc' := 9) d8_8 rfl rfl ?_
  refine Rn.callP (pc' := 12) (argsL := [.int (0 : Int32), .int x]) (a := m) (rest := []) (ct_lam20 Z a0 hw m kk kb vv vb sz fs f k0 k1 u0 u1 h0 nd M x hbs) M.1 (hw _ (List.mem_of_getElem? (i := 61) rfl)) (hw _ (List.mem_of_getElem? (i := 62) rfl)) (hw _ (List.mem_of_getElem? (i := 63) rfl)) (ni_of (hw _ (List.mem_of_getElem? (i := 30) rfl)) rfl) (hw _ (List.mem_of_getElem? (i := 2) rfl)) (hw _ (List.mem_of_getElem? (i := 64) rfl)) (by decide) rfl rfl (lenOf pd_4 rfl) rfl d8_9 rfl (Nat.le_of_ble_eq_true rfl) (Nat.le_of_ble_eq_true rfl) (Nat.le_of_ble_eq_true rfl) (Nat.le_of_ble_eq_true rfl) (fun _ z => nomatch z) (fun _ z => nomatch z) (fun vq5 hq6 Kq7 qq8 => ?_)
  obtain ⟨rfl, rfl⟩ := qq8
  simp only [Option.toList, List.cons_append, List.nil_append]
  refine Rn.istoreN (pc' := 13) (Ls' := #[.val (.ref m), .val (.int x), .val (.int (0 : Int32)), .val (.int (0 : Int32))]) d8_12 rfl rfl ?_
  refine Rn.iloadN (pc' := 14) d8_13 rfl rfl ?_
  refine Rn.if_ge (pc' := 21) (pn := 17) d8_14 (by decide) (by decide) rfl (fun cq9 => ?_) (fun cq9 => absurd cq9 (by decide))
  refine Rn.iloadN (pc' := 22) d8_21 rfl rfl ?_
  refine Rn.iloadN (pc' := 23) d8_22 rfl rfl ?_
  refine Rn.callS (pc' := 26) (argsL := [.int (0 : Int32), .int (0 : Int32)]) (rest := []) (ct_pos Z a0 hw (0 : Int32) h0) (hw _ (List.mem_of_getElem? (i := 65) rfl)) (hw _ (List.mem_of_getElem? (i := 66) rfl)) (hw _ (List.mem_of_getElem? (i := 2) rfl)) (hw _ (List.mem_of_getElem? (i := 67) rfl)) (by decide) rfl rfl (lenOf pd_4 rfl) rfl d8_23 rfl (Nat.le_of_ble_eq_true rfl) (Nat.le_of_ble_eq_true rfl) (Nat.le_of_ble_eq_true rfl) (Nat.le_of_ble_eq_true rfl) (fun _ z => nomatch z) (fun _ z => nomatch z) (fun vq10 hq11 Kq12 qq13 => ?_)
  obtain ⟨rfl, rfl⟩ := qq13
  simp only [Option.toList, List.cons_append, List.nil_append]
  refine Rn.retI rfl d8_26 (Nat.le_of_ble_eq_true rfl) (Nat.le_of_ble_eq_true rfl) ?_
  exact ⟨rfl, rfl⟩
set_option maxRecDepth 65536 in
set_option maxHeartbeats 40000000 in
theorem ct_sv20 (Z : State) (a0 : Array Value) (hw : ∀ d ∈ tables_1, d.before a0 Z = true) (m kk kb vv vb sz fs : Addr) (f k0 k1 : Int32) (u0 u1 : Int64) (h0 : Heap) (nd : own_Nd m kk kb vv vb sz fs) (M : own_Mp Z h0 m kk kb vv vb sz fs (2 : Int32) f [.int k0, .int k1, .int (0 : Int32), .int (0 : Int32)] [.long u0, .long u1, .long (0 : Int64), .long (0 : Int64)]) (y : Int64) :
    Ct Z ⟨"com/example/ratecraft/ratecraft/SortedIntLongMap", "setValue", "(IJ)V"⟩ prog_36_method_9_code 4 (Option.none : Option FieldType) ({ frames := 0, cells := 0, slots := 0, locals := 0 } : Room) #[(.ref m), (.int (0 : Int32)), (.long y)] h0 [vb] (fun v h => v = none ∧ own_Mp Z h m kk kb vv vb sz fs (2 : Int32) f [.int k0, .int k1, .int (0 : Int32), .int (0 : Int32)] [.long y, .long u1, .long (0 : Int64), .long (0 : Int64)]) := by
  refine Ct.intro (Ls := #[.val (.ref m), .val (.int (0 : Int32)), .val (.long y), .second]) pn_0 (by intro m; first | (simp [entryFrame, mkF, argsToLocals, Value.category]; done) | rfl) ?_
  refine Rn.aloadN (pc' := 1) d11_0 rfl rfl rfl ?_
  refine Rn.getF (pc' := 4) (host := "") (Or.inl (hw _ (List.mem_of_getElem? (i := 19) rfl))) Via.refl M.2.2.1 d11_1 rfl ?_
  refine Rn.iloadN (pc' := 5) d11_4 rfl rfl ?_
  refine Rn.bipush (pc' := 7) (v := (6 : Int32)) d11_5 rfl rfl ?_
  refine Rn.iushr (pc' := 8) (v := (0 : Int32)) d11_7 rfl rfl ?_
  refine Rn.aaload (pc' := 9) (v := .ref vb) M.2.2.2.2.2.2.2.2.2.1 rfl (by decide) rfl d11_8 rfl ?_
  refine Rn.iloadN (pc' := 10) d11_9 rfl rfl ?_
  refine Rn.bipush (pc' := 12) (v := (63 : Int32)) d11_10 rfl rfl ?_
  refine Rn.iand (pc' := 13) (v := (0 : Int32)) d11_12 rfl rfl ?_
  refine Rn.lloadN (pc' := 14) d11_13 rfl rfl ?_
  refine Rn.lastore (pc' := 15) (v := .long y) M.2.2.2.2.2.2.2.2.2.2.1 (by decide) (Nat.le_of_ble_eq_true rfl) rfl (Or.inl (List.mem_of_getElem? (i := 0) rfl)) Sf.no d11_14 rfl (fun hq2 Wq1 Aq3 => ?_)
  have Aq4 : Ax Z hq2 vb .long ([.long y, .long u1, .long (0 : Int64), .long (0 : Int64)]) := Aq3
  refine Rn.retV rfl d11_15 (Nat.le_of_ble_eq_true rfl) (Nat.le_of_ble_eq_true rfl) ?_
  have Fq5 := M.1.wr Wq1
  have Fq6 := M.2.1.other Wq1 (Or.inl nd.2.2.2.1)
  have Fq7 := M.2.2.1.other Wq1 (Or.inl nd.2.2.2.1)
  have Fq8 := M.2.2.2.1.other Wq1 (Or.inl nd.2.2.2.1)
  have Fq9 := M.2.2.2.2.1.other Wq1 (Or.inl nd.2.2.2.1)
  have Fq10 := M.2.2.2.2.2.1.other Wq1 (Or.inl nd.2.2.2.1)
  have Fq11 := M.2.2.2.2.2.2.1.other Wq1 (Or.inl nd.2.2.2.1)
  have Fq12 := M.2.2.2.2.2.2.2.1.other Wq1 nd.2.2.2.2.2.2.2.2.1
  have Fq13 := M.2.2.2.2.2.2.2.2.1.other Wq1 nd.2.2.2.2.2.2.2.2.2.2.2.2.1
  have Fq14 := M.2.2.2.2.2.2.2.2.2.1.other Wq1 nd.2.2.2.2.2.2.2.2.2.2.2.2.2.2.2.1
  have Fq15 := M.2.2.2.2.2.2.2.2.2.2.2.1.other Wq1 (Ne.symm nd.2.2.2.2.2.2.2.2.2.2.2.2.2.2.2.2.2.2.1)
  have Fq16 := M.2.2.2.2.2.2.2.2.2.2.2.2.other Wq1 (Ne.symm nd.2.2.2.2.2.2.2.2.2.2.2.2.2.2.2.2.2.2.2.1)
  exact ⟨rfl, ⟨Fq5, Fq6, Fq7, Fq8, Fq9, Fq10, Fq11, Fq12, Fq13, Fq14, Aq4, Fq15, Fq16⟩⟩
set_option maxRecDepth 65536 in
set_option maxHeartbeats 40000000 in
theorem ct_gv20 (Z : State) (a0 : Array Value) (hw : ∀ d ∈ tables_1, d.before a0 Z = true) (m kk kb vv vb sz fs : Addr) (f k0 k1 : Int32) (u0 u1 : Int64) (h0 : Heap) (nd : own_Nd m kk kb vv vb sz fs) (M : own_Mp Z h0 m kk kb vv vb sz fs (2 : Int32) f [.int k0, .int k1, .int (0 : Int32), .int (0 : Int32)] [.long u0, .long u1, .long (0 : Int64), .long (0 : Int64)]) :
    Ct Z ⟨"com/example/ratecraft/ratecraft/SortedIntLongMap", "value", "(I)J"⟩ prog_36_method_8_code 2 (Option.some FieldType.long) ({ frames := 0, cells := 0, slots := 0, locals := 0 } : Room) #[(.ref m), (.int (0 : Int32))] h0 [] (fun v h => v = some (.long u0) ∧ h0 = h) := by
  refine Ct.intro (Ls := #[.val (.ref m), .val (.int (0 : Int32))]) pn_0 (by intro m; first | (simp [entryFrame, mkF, argsToLocals, Value.category]; done) | rfl) ?_
  refine Rn.aloadN (pc' := 1) d12_0 rfl rfl rfl ?_
  refine Rn.getF (pc' := 4) (host := "") (Or.inl (hw _ (List.mem_of_getElem? (i := 19) rfl))) Via.refl M.2.2.1 d12_1 rfl ?_
  refine Rn.iloadN (pc' := 5) d12_4 rfl rfl ?_
  refine Rn.bipush (pc' := 7) (v := (6 : Int32)) d12_5 rfl rfl ?_
  refine Rn.iushr (pc' := 8) (v := (0 : Int32)) d12_7 rfl rfl ?_
  refine Rn.aaload (pc' := 9) (v := .ref vb) M.2.2.2.2.2.2.2.2.2.1 rfl (by decide) rfl d12_8 rfl ?_
  refine Rn.iloadN (pc' := 10) d12_9 rfl rfl ?_
  refine Rn.bipush (pc' := 12) (v := (63 : Int32)) d12_10 rfl rfl ?_
  refine Rn.iand (pc' := 13) (v := (0 : Int32)) d12_12 rfl rfl ?_
  refine Rn.laload (pc' := 14) (v := .long u0) M.2.2.2.2.2.2.2.2.2.2.1 (by decide) rfl d12_13 rfl ?_
  refine Rn.retJ rfl d12_14 (Nat.le_of_ble_eq_true rfl) (Nat.le_of_ble_eq_true rfl) ?_
  exact ⟨rfl, rfl⟩
set_option maxRecDepth 65536 in
set_option maxHeartbeats 40000000 in
theorem ct_ke20 (Z : State) (a0 : Array Value) (hw : ∀ d ∈ tables_1, d.before a0 Z = true) (m kk kb vv vb sz fs : Addr) (f k0 k1 : Int32) (u0 u1 : Int64) (h0 : Heap) (nd : own_Nd m kk kb vv vb sz fs) (M : own_Mp Z h0 m kk kb vv vb sz fs (2 : Int32) f [.int k0, .int k1, .int (0 : Int32), .int (0 : Int32)] [.long u0, .long u1, .long (0 : Int64), .long (0 : Int64)]) :
    Ct Z ⟨"com/example/ratecraft/ratecraft/SortedIntLongMap", "key", "(I)I"⟩ prog_36_method_7_code 2 (Option.some FieldType.int) ({ frames := 0, cells := 0, slots := 0, locals := 0 } : Room) #[(.ref m), (.int (0 : Int32))] h0 [] (fun v h => v = some (.int k0) ∧ h0 = h) := by
  refine Ct.intro (Ls := #[.val (.ref m), .val (.int (0 : Int32))]) pn_0 (by intro m; first | (simp [entryFrame, mkF, argsToLocals, Value.category]; done) | rfl) ?_
  refine Rn.aloadN (pc' := 1) d13_0 rfl rfl rfl ?_
  refine Rn.getF (pc' := 4) (host := "") (Or.inl (hw _ (List.mem_of_getElem? (i := 13) rfl))) Via.refl M.2.1 d13_1 rfl ?_
  refine Rn.iloadN (pc' := 5) d13_4 rfl rfl ?_
  refine Rn.bipush (pc' := 7) (v := (6 : Int32)) d13_5 rfl rfl ?_
  refine Rn.iushr (pc' := 8) (v := (0 : Int32)) d13_7 rfl rfl ?_
  refine Rn.aaload (pc' := 9) (v := .ref kb) M.2.2.2.2.2.2.2.1 rfl (by decide) rfl d13_8 rfl ?_
  refine Rn.iloadN (pc' := 10) d13_9 rfl rfl ?_
  refine Rn.bipush (pc' := 12) (v := (63 : Int32)) d13_10 rfl rfl ?_
  refine Rn.iand (pc' := 13) (v := (0 : Int32)) d13_12 rfl rfl ?_
  refine Rn.iaload (pc' := 14) (v := .int k0) M.2.2.2.2.2.2.2.2.1 (by decide) rfl d13_13 rfl ?_
  refine Rn.retI rfl d13_14 (Nat.le_of_ble_eq_true rfl) (Nat.le_of_ble_eq_true rfl) ?_
  exact ⟨rfl, rfl⟩
set_option maxRecDepth 65536 in
set_option maxHeartbeats 40000000 in
theorem ct_lam21 (Z : State) (a0 : Array Value) (hw : ∀ d ∈ tables_1, d.before a0 Z = true) (m kk kb vv vb sz fs : Addr) (f k0 k1 : Int32) (u0 u1 : Int64) (h0 : Heap) (nd : own_Nd m kk kb vv vb sz fs) (M : own_Mp Z h0 m kk kb vv vb sz fs (2 : Int32) f [.int k0, .int k1, .int (0 : Int32), .int (0 : Int32)] [.long u0, .long u1, .long (0 : Int64), .long (0 : Int64)]) (x : Int32) (hbs : own_bs2 k0 k1 x = (1 : Int32)) :
    Ct Z ⟨"com/example/ratecraft/ratecraft/SortedIntLongMap", "lastAtMost", "(II)I"⟩ prog_36_method_15_code 4 (Option.some FieldType.int) ({ frames := 2, cells := 0, slots := 0, locals := 35 } : Room) #[(.ref m), (.int (0 : Int32)), (.int x)] h0 [] (fun v h => v = some (.int (1 : Int32)) ∧ h0 = h) := by
  refine Ct.intro (Ls := #[.val (.ref m), .val (.int (0 : Int32)), .val (.int x), .unset]) pn_0 (by intro m; first | (simp [entryFrame, mkF, argsToLocals, Value.category]; done) | rfl) ?_
  refine Rn.aloadN (pc' := 1) d9_0 rfl rfl rfl ?_
  refine Rn.getF (pc' := 4) (host := "") (Or.inl (hw _ (List.mem_of_getElem? (i := 13) rfl))) Via.refl M.2.1 d9_1 rfl ?_
  refine Rn.iloadN (pc' := 5) d9_4 rfl rfl ?_
  refine Rn.aaload (pc' := 6) (v := .ref kb) M.2.2.2.2.2.2.2.1 rfl (by decide) rfl d9_5 rfl ?_
  refine Rn.iconst (pc' := 7) (v := (0 : Int32)) d9_6 rfl rfl ?_
  refine Rn.aloadN (pc' := 8) d9_7 rfl rfl rfl ?_
  refine Rn.getF (pc' := 11) (host := "") (Or.inl (hw _ (List.mem_of_getElem? (i := 21) rfl))) Via.refl M.2.2.2.1 d9_8 rfl ?_
  refine Rn.iloadN (pc' := 12) d9_11 rfl rfl ?_
  refine Rn.iaload (pc' := 13) (v := .int (2 : Int32)) M.2.2.2.2.2.2.2.2.2.2.2.1 (by decide) rfl d9_12 rfl ?_
  refine Rn.iloadN (pc' := 14) d9_13 rfl rfl ?_
  refine Rn.callS (pc' := 17) (argsL := [.ref kb, .int (0 : Int32), .int (2 : Int32), .int x]) (rest := []) (ct_bs2 Z a0 hw kb k0 k1 x h0 M.2.2.2.2.2.2.2.2.1) (hw _ (List.mem_of_getElem? (i := 36) rfl)) (hw _ (List.mem_of_getElem? (i := 37) rfl)) (hw _ (List.mem_of_getElem? (i := 38) rfl)) (hw _ (List.mem_of_getElem? (i := 39) rfl)) (by decide) rfl rfl (lenOf pd_1 rfl) rfl d9_14 rfl (Nat.le_of_ble_eq_true rfl) (Nat.le_of_ble_eq_true rfl) (Nat.le_of_ble_eq_true rfl) (Nat.le_of_ble_eq_true rfl) (fun _ z => nomatch z) (fun _ z => nomatch z) (fun vq1 hq2 Kq3 qq4 => ?_)
  obtain ⟨rfl, rfl⟩ := qq4
  simp only [Option.toList, List.cons_append, List.nil_append]
  rw [hbs]
  refine Rn.istoreN (pc' := 18) (Ls' := #[.val (.ref m), .val (.int (0 : Int32)), .val (.int x), .val (.int (1 : Int32))]) d9_17 rfl rfl ?_
  refine Rn.iloadN (pc' := 19) d9_18 rfl rfl ?_
  refine Rn.if_lt (pc' := 26) (pn := 22) d9_19 (by decide) (by decide) rfl (fun cq5 => absurd cq5 (by decide)) (fun cq5 => ?_)
  refine Rn.iloadN (pc' := 23) d9_22 rfl rfl ?_
  refine Rn.goto (pc' := 30) d9_23 (by decide) (by decide) ?_
  refine Rn.retI rfl d9_30 (Nat.le_of_ble_eq_true rfl) (Nat.le_of_ble_eq_true rfl) ?_
  exact ⟨rfl, rfl⟩
set_option maxRecDepth 65536 in
set_option maxHeartbeats 40000000 in
theorem ct_fl21 (Z : State) (a0 : Array Value) (hw : ∀ d ∈ tables_1, d.before a0 Z = true) (m kk kb vv vb sz fs : Addr) (f k0 k1 : Int32) (u0 u1 : Int64) (h0 : Heap) (nd : own_Nd m kk kb vv vb sz fs) (M : own_Mp Z h0 m kk kb vv vb sz fs (2 : Int32) f [.int k0, .int k1, .int (0 : Int32), .int (0 : Int32)] [.long u0, .long u1, .long (0 : Int64), .long (0 : Int64)]) (x : Int32) (hbs : own_bs2 k0 k1 x = (1 : Int32)) :
    Ct Z ⟨"com/example/ratecraft/ratecraft/SortedIntLongMap", "floor", "(I)I"⟩ prog_36_method_3_code 4 (Option.some FieldType.int) ({ frames := 3, cells := 0, slots := 0, locals := 50 } : Room) #[(.ref m), (.int x)] h0 [] (fun v h => v = some (.int (1 : Int32)) ∧ h0 = h) := by
  refine Ct.intro (Ls := #[.val (.ref m), .val (.int x), .unset, .unset]) pn_0 (by intro m; first | (simp [entryFrame, mkF, argsToLocals, Value.category]; done) | rfl) ?_
  refine Rn.aloadN (pc' := 1) d8_0 rfl rfl rfl ?_
  refine Rn.iloadN (pc' := 2) d8_1 rfl rfl ?_
  refine Rn.callP (pc' := 5) (argsL := [.int x]) (a := m) (rest := []) (ct_bo Z a0 hw m x h0 M.2.2.2.2.2.1) M.1 (hw _ (List.mem_of_getElem? (i := 32) rfl)) (hw _ (List.mem_of_getElem? (i := 33) rfl)) (hw _ (List.mem_of_getElem? (i := 34) rfl)) (ni_of (hw _ (List.mem_of_getElem? (i := 30) rfl)) rfl) (hw _ (List.mem_of_getElem? (i := 2) rfl)) (hw _ (List.mem_of_getElem? (i := 35) rfl)) (by decide) rfl rfl (lenOf pd_2 rfl) rfl d8_2 rfl (Nat.le_of_ble_eq_true rfl) (Nat.le_of_ble_eq_true rfl) (Nat.le_of_ble_eq_true rfl) (Nat.le_of_ble_eq_true rfl) (fun _ z => nomatch z) (fun _ z => nomatch z) (fun vq1 hq2 Kq3 qq4 => ?_)
  obtain ⟨rfl, rfl⟩ := qq4
  simp only [Option.toList, List.cons_append, List.nil_append]
  refine Rn.istoreN (pc' := 6) (Ls' := #[.val (.ref m), .val (.int x), .val (.int (0 : Int32)), .unset]) d8_5 rfl rfl ?_
  refine Rn.aloadN (pc' := 7) d8_6 rfl rfl rfl ?_
  refine Rn.iloadN (pc' := 8) d8_7 rfl rfl ?_
  refine Rn.iloadN (pc' := 9) d8_8 rfl rfl ?_
  refine Rn.callP (pc' := 12) (argsL := [.int (0 : Int32), .int x]) (a := m) (rest := []) (ct_lam21 Z a0 hw m kk kb vv vb sz fs f k0 k1 u0 u1 h0 nd M x hbs) M.1 (hw _ (List.mem_of_getElem? (i := 61) rfl)) (hw _ (List.mem_of_getElem? (i := 62) rfl)) (hw _ (List.mem_of_getElem? (i := 63) rfl)) (ni_of (hw _ (List.mem_of_getElem? (i := 30) rfl)) rfl) (hw _ (List.mem_of_getElem? (i := 2) rfl)) (hw _ (List.mem_of_getElem? (i := 64) rfl)) (by decide) rfl rfl (lenOf pd_4 rfl) rfl d8_9 rfl (Nat.le_of_ble_eq_true rfl) (Nat.le_of_ble_eq_true rfl) (Nat.le_of_ble_eq_true rfl) (Nat.le_of_ble_eq_true rfl) (fun _ z => nomatch z) (fun _ z => nomatch z) (fun vq5 hq6 Kq7 qq8 => ?_)
  obtain ⟨rfl, rfl⟩ := qq8
  simp only [Option.toList, List.cons_append, List.nil_append]
  refine Rn.istoreN (pc' := 13) (Ls' := #[.val (.ref m), .val (.int x), .val (.int (0 : Int32)), .val (.int (1 : Int32))]) d8_12 rfl rfl ?_
  refine Rn.iloadN (pc' := 14) d8_13 rfl rfl ?_
  refine Rn.if_ge (pc' := 21) (pn := 17) d8_14 (by decide) (by decide) rfl (fun cq9 => ?_) (fun cq9 => absurd cq9 (by decide))
  refine Rn.iloadN (pc' := 22) d8_21 rfl rfl ?_
  refine Rn.iloadN (pc' := 23) d8_22 rfl rfl ?_
  refine Rn.callS (pc' := 26) (argsL := [.int (0 : Int32), .int (1 : Int32)]) (rest := []) (ct_pos Z a0 hw (1 : Int32) h0) (hw _ (List.mem_of_getElem? (i := 65) rfl)) (hw _ (List.mem_of_getElem? (i := 66) rfl)) (hw _ (List.mem_of_getElem? (i := 2) rfl)) (hw _ (List.mem_of_getElem? (i := 67) rfl)) (by decide) rfl rfl (lenOf pd_4 rfl) rfl d8_23 rfl (Nat.le_of_ble_eq_true rfl) (Nat.le_of_ble_eq_true rfl) (Nat.le_of_ble_eq_true rfl) (Nat.le_of_ble_eq_true rfl) (fun _ z => nomatch z) (fun _ z => nomatch z) (fun vq10 hq11 Kq12 qq13 => ?_)
  obtain ⟨rfl, rfl⟩ := qq13
  simp only [Option.toList, List.cons_append, List.nil_append]
  refine Rn.retI rfl d8_26 (Nat.le_of_ble_eq_true rfl) (Nat.le_of_ble_eq_true rfl) ?_
  exact ⟨rfl, rfl⟩
set_option maxRecDepth 65536 in
set_option maxHeartbeats 40000000 in
theorem ct_sv21 (Z : State) (a0 : Array Value) (hw : ∀ d ∈ tables_1, d.before a0 Z = true) (m kk kb vv vb sz fs : Addr) (f k0 k1 : Int32) (u0 u1 : Int64) (h0 : Heap) (nd : own_Nd m kk kb vv vb sz fs) (M : own_Mp Z h0 m kk kb vv vb sz fs (2 : Int32) f [.int k0, .int k1, .int (0 : Int32), .int (0 : Int32)] [.long u0, .long u1, .long (0 : Int64), .long (0 : Int64)]) (y : Int64) :
    Ct Z ⟨"com/example/ratecraft/ratecraft/SortedIntLongMap", "setValue", "(IJ)V"⟩ prog_36_method_9_code 4 (Option.none : Option FieldType) ({ frames := 0, cells := 0, slots := 0, locals := 0 } : Room) #[(.ref m), (.int (1 : Int32)), (.long y)] h0 [vb] (fun v h => v = none ∧ own_Mp Z h m kk kb vv vb sz fs (2 : Int32) f [.int k0, .int k1, .int (0 : Int32), .int (0 : Int32)] [.long u0, .long y, .long (0 : Int64), .long (0 : Int64)]) := by
  refine Ct.intro (Ls := #[.val (.ref m), .val (.int (1 : Int32)), .val (.long y), .second]) pn_0 (by intro m; first | (simp [entryFrame, mkF, argsToLocals, Value.category]; done) | rfl) ?_
  refine Rn.aloadN (pc' := 1) d11_0 rfl rfl rfl ?_
  refine Rn.getF (pc' := 4) (host := "") (Or.inl (hw _ (List.mem_of_getElem? (i := 19) rfl))) Via.refl M.2.2.1 d11_1 rfl ?_
  refine Rn.iloadN (pc' := 5) d11_4 rfl rfl ?_
  refine Rn.bipush (pc' := 7) (v := (6 : Int32)) d11_5 rfl rfl ?_
  refine Rn.iushr (pc' := 8) (v := (0 : Int32)) d11_7 rfl rfl ?_
  refine Rn.aaload (pc' := 9) (v := .ref vb) M.2.2.2.2.2.2.2.2.2.1 rfl (by decide) rfl d11_8 rfl ?_
  refine Rn.iloadN (pc' := 10) d11_9 rfl rfl ?_
  refine Rn.bipush (pc' := 12) (v := (63 : Int32)) d11_10 rfl rfl ?_
  refine Rn.iand (pc' := 13) (v := (1 : Int32)) d11_12 rfl rfl ?_
  refine Rn.lloadN (pc' := 14) d11_13 rfl rfl ?_
  refine Rn.lastore (pc' := 15) (v := .long y) M.2.2.2.2.2.2.2.2.2.2.1 (by decide) (Nat.le_of_ble_eq_true rfl) rfl (Or.inl (List.mem_of_getElem? (i := 0) rfl)) Sf.no d11_14 rfl (fun hq2 Wq1 Aq3 => ?_)
  have Aq4 : Ax Z hq2 vb .long ([.long u0, .long y, .long (0 : Int64), .long (0 : Int64)]) := Aq3
  refine Rn.retV rfl d11_15 (Nat.le_of_ble_eq_true rfl) (Nat.le_of_ble_eq_true rfl) ?_
  have Fq5 := M.1.wr Wq1
  have Fq6 := M.2.1.other Wq1 (Or.inl nd.2.2.2.1)
  have Fq7 := M.2.2.1.other Wq1 (Or.inl nd.2.2.2.1)
  have Fq8 := M.2.2.2.1.other Wq1 (Or.inl nd.2.2.2.1)
  have Fq9 := M.2.2.2.2.1.other Wq1 (Or.inl nd.2.2.2.1)
  have Fq10 := M.2.2.2.2.2.1.other Wq1 (Or.inl nd.2.2.2.1)
  have Fq11 := M.2.2.2.2.2.2.1.other Wq1 (Or.inl nd.2.2.2.1)
  have Fq12 := M.2.2.2.2.2.2.2.1.other Wq1 nd.2.2.2.2.2.2.2.2.1
  have Fq13 := M.2.2.2.2.2.2.2.2.1.other Wq1 nd.2.2.2.2.2.2.2.2.2.2.2.2.1
  have Fq14 := M.2.2.2.2.2.2.2.2.2.1.other Wq1 nd.2.2.2.2.2.2.2.2.2.2.2.2.2.2.2.1
  have Fq15 := M.2.2.2.2.2.2.2.2.2.2.2.1.other Wq1 (Ne.symm nd.2.2.2.2.2.2.2.2.2.2.2.2.2.2.2.2.2.2.1)
  have Fq16 := M.2.2.2.2.2.2.2.2.2.2.2.2.other Wq1 (Ne.symm nd.2.2.2.2.2.2.2.2.2.2.2.2.2.2.2.2.2.2.2.1)
  exact ⟨rfl, ⟨Fq5, Fq6, Fq7, Fq8, Fq9, Fq10, Fq11, Fq12, Fq13, Fq14, Aq4, Fq15, Fq16⟩⟩
set_option maxRecDepth 65536 in
set_option maxHeartbeats 40000000 in
theorem ct_gv21 (Z : State) (a0 : Array Value) (hw : ∀ d ∈ tables_1, d.before a0 Z = true) (m kk kb vv vb sz fs : Addr) (f k0 k1 : Int32) (u0 u1 : Int64) (h0 : Heap) (nd : own_Nd m kk kb vv vb sz fs) (M : own_Mp Z h0 m kk kb vv vb sz fs (2 : Int32) f [.int k0, .int k1, .int (0 : Int32), .int (0 : Int32)] [.long u0, .long u1, .long (0 : Int64), .long (0 : Int64)]) :
    Ct Z ⟨"com/example/ratecraft/ratecraft/SortedIntLongMap", "value", "(I)J"⟩ prog_36_method_8_code 2 (Option.some FieldType.long) ({ frames := 0, cells := 0, slots := 0, locals := 0 } : Room) #[(.ref m), (.int (1 : Int32))] h0 [] (fun v h => v = some (.long u1) ∧ h0 = h) := by
  refine Ct.intro (Ls := #[.val (.ref m), .val (.int (1 : Int32))]) pn_0 (by intro m; first | (simp [entryFrame, mkF, argsToLocals, Value.category]; done) | rfl) ?_
  refine Rn.aloadN (pc' := 1) d12_0 rfl rfl rfl ?_
  refine Rn.getF (pc' := 4) (host := "") (Or.inl (hw _ (List.mem_of_getElem? (i := 19) rfl))) Via.refl M.2.2.1 d12_1 rfl ?_
  refine Rn.iloadN (pc' := 5) d12_4 rfl rfl ?_
  refine Rn.bipush (pc' := 7) (v := (6 : Int32)) d12_5 rfl rfl ?_
  refine Rn.iushr (pc' := 8) (v := (0 : Int32)) d12_7 rfl rfl ?_
  refine Rn.aaload (pc' := 9) (v := .ref vb) M.2.2.2.2.2.2.2.2.2.1 rfl (by decide) rfl d12_8 rfl ?_
  refine Rn.iloadN (pc' := 10) d12_9 rfl rfl ?_
  refine Rn.bipush (pc' := 12) (v := (63 : Int32)) d12_10 rfl rfl ?_
  refine Rn.iand (pc' := 13) (v := (1 : Int32)) d12_12 rfl rfl ?_
  refine Rn.laload (pc' := 14) (v := .long u1) M.2.2.2.2.2.2.2.2.2.2.1 (by decide) rfl d12_13 rfl ?_
  refine Rn.retJ rfl d12_14 (Nat.le_of_ble_eq_true rfl) (Nat.le_of_ble_eq_true rfl) ?_
  exact ⟨rfl, rfl⟩
set_option maxRecDepth 65536 in
set_option maxHeartbeats 40000000 in
theorem ct_ke21 (Z : State) (a0 : Array Value) (hw : ∀ d ∈ tables_1, d.before a0 Z = true) (m kk kb vv vb sz fs : Addr) (f k0 k1 : Int32) (u0 u1 : Int64) (h0 : Heap) (nd : own_Nd m kk kb vv vb sz fs) (M : own_Mp Z h0 m kk kb vv vb sz fs (2 : Int32) f [.int k0, .int k1, .int (0 : Int32), .int (0 : Int32)] [.long u0, .long u1, .long (0 : Int64), .long (0 : Int64)]) :
    Ct Z ⟨"com/example/ratecraft/ratecraft/SortedIntLongMap", "key", "(I)I"⟩ prog_36_method_7_code 2 (Option.some FieldType.int) ({ frames := 0, cells := 0, slots := 0, locals := 0 } : Room) #[(.ref m), (.int (1 : Int32))] h0 [] (fun v h => v = some (.int k1) ∧ h0 = h) := by
  refine Ct.intro (Ls := #[.val (.ref m), .val (.int (1 : Int32))]) pn_0 (by intro m; first | (simp [entryFrame, mkF, argsToLocals, Value.category]; done) | rfl) ?_
  refine Rn.aloadN (pc' := 1) d13_0 rfl rfl rfl ?_
  refine Rn.getF (pc' := 4) (host := "") (Or.inl (hw _ (List.mem_of_getElem? (i := 13) rfl))) Via.refl M.2.1 d13_1 rfl ?_
  refine Rn.iloadN (pc' := 5) d13_4 rfl rfl ?_
  refine Rn.bipush (pc' := 7) (v := (6 : Int32)) d13_5 rfl rfl ?_
  refine Rn.iushr (pc' := 8) (v := (0 : Int32)) d13_7 rfl rfl ?_
  refine Rn.aaload (pc' := 9) (v := .ref kb) M.2.2.2.2.2.2.2.1 rfl (by decide) rfl d13_8 rfl ?_
  refine Rn.iloadN (pc' := 10) d13_9 rfl rfl ?_
  refine Rn.bipush (pc' := 12) (v := (63 : Int32)) d13_10 rfl rfl ?_
  refine Rn.iand (pc' := 13) (v := (1 : Int32)) d13_12 rfl rfl ?_
  refine Rn.iaload (pc' := 14) (v := .int k1) M.2.2.2.2.2.2.2.2.1 (by decide) rfl d13_13 rfl ?_
  refine Rn.retI rfl d13_14 (Nat.le_of_ble_eq_true rfl) (Nat.le_of_ble_eq_true rfl) ?_
  exact ⟨rfl, rfl⟩
theorem d14_0 : decode prog_36_method_2_code 0 = .ok (.aload_n 0, 1) := by decide +kernel
theorem d14_1 : decode prog_36_method_2_code 1 = .ok (.getfield 31, 3) := by decide +kernel
theorem d14_4 : decode prog_36_method_2_code 4 = .ok (.ireturn, 1) := by decide +kernel
set_option maxRecDepth 65536 in
set_option maxHeartbeats 40000000 in
theorem ct_size1 (Z : State) (a0 : Array Value) (hw : ∀ d ∈ tables_1, d.before a0 Z = true) (m kk kb vv vb sz fs : Addr) (f k0 : Int32) (u0 : Int64) (h0 : Heap) (nd : own_Nd m kk kb vv vb sz fs) (M : own_Mp Z h0 m kk kb vv vb sz fs (1 : Int32) f [.int k0, .int (0 : Int32), .int (0 : Int32), .int (0 : Int32)] [.long u0, .long (0 : Int64), .long (0 : Int64), .long (0 : Int64)]) :
    Ct Z ⟨"com/example/ratecraft/ratecraft/SortedIntLongMap", "size", "()I"⟩ prog_36_method_2_code 1 (Option.some FieldType.int) ({ frames := 0, cells := 0, slots := 0, locals := 0 } : Room) #[(.ref m)] h0 [] (fun v h => v = some (.int (1 : Int32)) ∧ h0 = h) := by
  refine Ct.intro (Ls := #[.val (.ref m)]) pn_0 (by intro m; first | (simp [entryFrame, mkF, argsToLocals, Value.category]; done) | rfl) ?_
  refine Rn.aloadN (pc' := 1) d14_0 rfl rfl rfl ?_
  refine Rn.getF (pc' := 4) (host := "") (Or.inl (hw _ (List.mem_of_getElem? (i := 54) rfl))) Via.refl M.2.2.2.2.2.2.1 d14_1 rfl ?_
  refine Rn.retI rfl d14_4 (Nat.le_of_ble_eq_true rfl) (Nat.le_of_ble_eq_true rfl) ?_
  exact ⟨rfl, rfl⟩
set_option maxRecDepth 65536 in
set_option maxHeartbeats 40000000 in
theorem ct_size2 (Z : State) (a0 : Array Value) (hw : ∀ d ∈ tables_1, d.before a0 Z = true) (m kk kb vv vb sz fs : Addr) (f k0 k1 : Int32) (u0 u1 : Int64) (h0 : Heap) (nd : own_Nd m kk kb vv vb sz fs) (M : own_Mp Z h0 m kk kb vv vb sz fs (2 : Int32) f [.int k0, .int k1, .int (0 : Int32), .int (0 : Int32)] [.long u0, .long u1, .long (0 : Int64), .long (0 : Int64)]) :
    Ct Z ⟨"com/example/ratecraft/ratecraft/SortedIntLongMap", "size", "()I"⟩ prog_36_method_2_code 1 (Option.some FieldType.int) ({ frames := 0, cells := 0, slots := 0, locals := 0 } : Room) #[(.ref m)] h0 [] (fun v h => v = some (.int (2 : Int32)) ∧ h0 = h) := by
  refine Ct.intro (Ls := #[.val (.ref m)]) pn_0 (by intro m; first | (simp [entryFrame, mkF, argsToLocals, Value.category]; done) | rfl) ?_
  refine Rn.aloadN (pc' := 1) d14_0 rfl rfl rfl ?_
  refine Rn.getF (pc' := 4) (host := "") (Or.inl (hw _ (List.mem_of_getElem? (i := 54) rfl))) Via.refl M.2.2.2.2.2.2.1 d14_1 rfl ?_
  refine Rn.retI rfl d14_4 (Nat.le_of_ble_eq_true rfl) (Nat.le_of_ble_eq_true rfl) ?_
  exact ⟨rfl, rfl⟩
theorem d0_0 : decode prog_36_method_1_code 0 = .ok (.aload_n 0, 1) := by decide +kernel
theorem d0_1 : decode prog_36_method_1_code 1 = .ok (.invokespecial 3, 3) := by decide +kernel
theorem d0_4 : decode prog_36_method_1_code 4 = .ok (.aload_n 0, 1) := by decide +kernel
theorem d0_5 : decode prog_36_method_1_code 5 = .ok (.iconst 1, 1) := by decide +kernel
theorem d0_6 : decode prog_36_method_1_code 6 = .ok (.anewarray 9, 3) := by decide +kernel
theorem d0_9 : decode prog_36_method_1_code 9 = .ok (.dup, 1) := by decide +kernel
theorem d0_10 : decode prog_36_method_1_code 10 = .ok (.iconst 0, 1) := by decide +kernel
theorem d0_11 : decode prog_36_method_1_code 11 = .ok (.iconst 4, 1) := by decide +kernel
theorem d0_12 : decode prog_36_method_1_code 12 = .ok (.newarray .int, 2) := by decide +kernel
theorem d0_14 : decode prog_36_method_1_code 14 = .ok (.aastore, 1) := by decide +kernel
theorem d0_15 : decode prog_36_method_1_code 15 = .ok (.putfield 11, 3) := by decide +kernel
theorem d0_18 : decode prog_36_method_1_code 18 = .ok (.aload_n 0, 1) := by decide +kernel
theorem d0_19 : decode prog_36_method_1_code 19 = .ok (.iconst 1, 1) := by decide +kernel
theorem d0_20 : decode prog_36_method_1_code 20 = .ok (.anewarray 15, 3) := by decide +kernel
theorem d0_23 : decode prog_36_method_1_code 23 = .ok (.dup, 1) := by decide +kernel
theorem d0_24 : decode prog_36_method_1_code 24 = .ok (.iconst 0, 1) := by decide +kernel
theorem d0_25 : decode prog_36_method_1_code 25 = .ok (.iconst 4, 1) := by decide +kernel
theorem d0_26 : decode prog_36_method_1_code 26 = .ok (.newarray .long, 2) := by decide +kernel
theorem d0_28 : decode prog_36_method_1_code 28 = .ok (.aastore, 1) := by decide +kernel
theorem d0_29 : decode prog_36_method_1_code 29 = .ok (.putfield 17, 3) := by decide +kernel
theorem d0_32 : decode prog_36_method_1_code 32 = .ok (.aload_n 0, 1) := by decide +kernel
theorem d0_33 : decode prog_36_method_1_code 33 = .ok (.iconst 1, 1) := by decide +kernel
theorem d0_34 : decode prog_36_method_1_code 34 = .ok (.newarray .int, 2) := by decide +kernel
theorem d0_36 : decode prog_36_method_1_code 36 = .ok (.putfield 21, 3) := by decide +kernel
theorem d0_39 : decode prog_36_method_1_code 39 = .ok (.aload_n 0, 1) := by decide +kernel
theorem d0_40 : decode prog_36_method_1_code 40 = .ok (.iconst 1, 1) := by decide +kernel
theorem d0_41 : decode prog_36_method_1_code 41 = .ok (.newarray .int, 2) := by decide +kernel
theorem d0_43 : decode prog_36_method_1_code 43 = .ok (.putfield 24, 3) := by decide +kernel
theorem d0_46 : decode prog_36_method_1_code 46 = .ok (.aload_n 0, 1) := by decide +kernel
theorem d0_47 : decode prog_36_method_1_code 47 = .ok (.iconst 1, 1) := by decide +kernel
theorem d0_48 : decode prog_36_method_1_code 48 = .ok (.putfield 27, 3) := by decide +kernel
theorem d0_51 : decode prog_36_method_1_code 51 = .ok (.return_, 1) := by decide +kernel
set_option maxRecDepth 65536 in
set_option maxHeartbeats 40000000 in
theorem ct_init (Z : State) (a0 : Array Value) (hw : ∀ d ∈ tables_1, d.before a0 Z = true) (m : Addr) (h0 : Heap) (E : Exa Z h0 m "com/example/ratecraft/ratecraft/SortedIntLongMap") (F0 : Fld Z h0 m "com/example/ratecraft/ratecraft/SortedIntLongMap" "keys" "[[I" .null) (F1 : Fld Z h0 m "com/example/ratecraft/ratecraft/SortedIntLongMap" "values" "[[J" .null) (F2 : Fld Z h0 m "com/example/ratecraft/ratecraft/SortedIntLongMap" "sizes" "[I" .null) (F3 : Fld Z h0 m "com/example/ratecraft/ratecraft/SortedIntLongMap" "firsts" "[I" .null) (F4 : Fld Z h0 m "com/example/ratecraft/ratecraft/SortedIntLongMap" "blocks" "I" (.int (0 : Int32))) (F5 : Fld Z h0 m "com/example/ratecraft/ratecraft/SortedIntLongMap" "size" "I" (.int (0 : Int32))) :
    Ct Z ⟨"com/example/ratecraft/ratecraft/SortedIntLongMap", "<init>", "()V"⟩ prog_36_method_1_code 1 (Option.none : Option FieldType) ({ frames := 1, cells := 6, slots := 12, locals := 12 } : Room) #[(.ref m)] h0 [m] (fun v h => v = none ∧ ∃ kk kb vv vb sz fs, h0.size ≤ kk ∧ h0.size ≤ kb ∧ h0.size ≤ vv ∧ h0.size ≤ vb ∧ h0.size ≤ sz ∧ h0.size ≤ fs ∧ own_Nd m kk kb vv vb sz fs ∧ own_Mp Z h m kk kb vv vb sz fs (0 : Int32) (0 : Int32) [.int (0 : Int32), .int (0 : Int32), .int (0 : Int32), .int (0 : Int32)] [.long (0 : Int64), .long (0 : Int64), .long (0 : Int64), .long (0 : Int64)]) := by
  refine Ct.intro (Ls := #[.val (.ref m)]) pn_0 (by intro m; first | (simp [entryFrame, mkF, argsToLocals, Value.category]; done) | rfl) ?_
  refine Rn.aloadN (pc' := 1) d0_0 rfl rfl rfl ?_
  refine Rn.initO (pc' := 4) (hw _ (List.mem_of_getElem? (i := 6) rfl)) (hw _ (List.mem_of_getElem? (i := 7) rfl)) (hw _ (List.mem_of_getElem? (i := 8) rfl)) rfl d0_1 (Nat.le_of_ble_eq_true rfl) (Nat.le_of_ble_eq_true rfl) rfl ?_
  refine Rn.aloadN (pc' := 5) d0_4 rfl rfl rfl ?_
  refine Rn.iconst (pc' := 6) (v := (1 : Int32)) d0_5 rfl rfl ?_
  refine Rn.newRA (pc' := 9) (cap := 1) (ty := .int) (C := "[I") (ad := "[[I") (hw _ (List.mem_of_getElem? (i := 9) rfl)) (hw _ (List.mem_of_getElem? (i := 10) rfl)) rfl rfl d0_6 (by decide) (Nat.le_of_ble_eq_true rfl) (by decide) (Nat.le_of_ble_eq_true rfl) (Nat.le_of_ble_eq_true rfl) rfl (fun hq2 aq1 eq3 gq4 Eq5 ⟨Aq6, Bq7, Soq8⟩ => ?_)
  have nq9 : m ≠ aq1 := by rw [eq3]; exact Nat.ne_of_lt (E.lt)
  have Aq10 : Ax Z hq2 aq1 (.array .int) [.null] := Aq6
  refine Rn.dup (pc' := 10) d0_9 rfl rfl ?_
  refine Rn.iconst (pc' := 11) (v := (0 : Int32)) d0_10 rfl rfl ?_
  refine Rn.iconst (pc' := 12) (v := (4 : Int32)) d0_11 rfl rfl ?_
  refine Rn.newP (pc' := 14) (cap := 4) (ty := .int) (ad := "[I") (hw _ (List.mem_of_getElem? (i := 11) rfl)) rfl rfl d0_12 (by decide) (Nat.le_of_ble_eq_true rfl) (by decide) (Nat.le_of_ble_eq_true rfl) (Nat.le_of_ble_eq_true rfl) rfl (fun hq12 aq11 eq13 gq14 Eq15 ⟨Aq16, Bq17⟩ => ?_)
  have Fq18 := E.ext Eq5
  have nq19 : m ≠ aq11 := by rw [eq13]; exact Nat.ne_of_lt (Fq18.lt)
  have nq20 : aq1 ≠ aq11 := by rw [eq13]; exact Nat.ne_of_lt (Aq10.lt)
  have Aq21 : Ax Z hq12 aq11 .int ([.int (0 : Int32), .int (0 : Int32), .int (0 : Int32), .int (0 : Int32)]) := Aq16
  have Fq22 := Aq10.ext Eq15
  refine Rn.aastore (pc' := 15) Fq22 rfl (Soq8 aq11 Fq22 (by obtain ⟨c1, q1, -⟩ := id Aq10; exact ⟨c1, Eq15.2 _ _ q1.1, c1, q1.1, rfl⟩) (Ins.self Bq17)) (by decide) (Nat.le_of_ble_eq_true rfl) rfl (Or.inr gq4) Sf.no d0_14 rfl (fun hq24 Wq23 Aq25 => ?_)
  have Aq26 : Ax Z hq24 aq1 (.array .int) [.ref aq11] := Aq25
  have Fq27 := F0.ext Eq5
  have Fq28 := Fq27.ext Eq15
  have Fq29 := Fq28.other Wq23 (Or.inl nq9)
  have Fq30 := Fq18.ext Eq15
  have Fq31 := Fq30.wr Wq23
  refine Rn.putF (pc' := 18) (hw _ (List.mem_of_getElem? (i := 13) rfl)) Via.refl Fq29 Fq31 (Or.inl (hw _ (List.mem_of_getElem? (i := 14) rfl))) (hw _ (List.mem_of_getElem? (i := 1) rfl)) (ty := (.array (.array .int))) (by decide) rfl rfl (Or.inl (List.mem_of_getElem? (i := 0) rfl)) Sf.no d0_15 rfl (fun hq33 Wq32 => ?_)
  have Fq34 := Fq29.same Wq32
  refine Rn.aloadN (pc' := 19) d0_18 rfl rfl rfl ?_
  refine Rn.iconst (pc' := 20) (v := (1 : Int32)) d0_19 rfl rfl ?_
  refine Rn.newRA (pc' := 23) (cap := 1) (ty := .long) (C := "[J") (ad := "[[J") (hw _ (List.mem_of_getElem? (i := 15) rfl)) (hw _ (List.mem_of_getElem? (i := 16) rfl)) rfl rfl d0_20 (by decide) (Nat.le_of_ble_eq_true rfl) (by decide) (Nat.le_of_ble_eq_true rfl) (Nat.le_of_ble_eq_true rfl) rfl (fun hq36 aq35 eq37 gq38 Eq39 ⟨Aq40, Bq41, Soq42⟩ => ?_)
  have Fq43 := Fq31.wr Wq32
  have nq44 : m ≠ aq35 := by rw [eq37]; exact Nat.ne_of_lt (Fq43.lt)
  have Fq45 := Aq26.other Wq32 (Ne.symm nq9)
  have nq46 : aq1 ≠ aq35 := by rw [eq37]; exact Nat.ne_of_lt (Fq45.lt)
  have Fq47 := Aq21.other Wq23 (Ne.symm nq20)
  have Fq48 := Fq47.other Wq32 (Ne.symm nq19)
  have nq49 : aq11 ≠ aq35 := by rw [eq37]; exact Nat.ne_of_lt (Fq48.lt)
  have Aq50 : Ax Z hq36 aq35 (.array .long) [.null] := Aq40
  refine Rn.dup (pc' := 24) d0_23 rfl rfl ?_
  refine Rn.iconst (pc' := 25) (v := (0 : Int32)) d0_24 rfl rfl ?_
  refine Rn.iconst (pc' := 26) (v := (4 : Int32)) d0_25 rfl rfl ?_
  refine Rn.newP (pc' := 28) (cap := 4) (ty := .long) (ad := "[J") (hw _ (List.mem_of_getElem? (i := 17) rfl)) rfl rfl d0_26 (by decide) (Nat.le_of_ble_eq_true rfl) (by decide) (Nat.le_of_ble_eq_true rfl) (Nat.le_of_ble_eq_true rfl) rfl (fun hq52 aq51 eq53 gq54 Eq55 ⟨Aq56, Bq57⟩ => ?_)
  have Fq58 := Fq43.ext Eq39
  have nq59 : m ≠ aq51 := by rw [eq53]; exact Nat.ne_of_lt (Fq58.lt)
  have Fq60 := Fq45.ext Eq39
  have nq61 : aq1 ≠ aq51 := by rw [eq53]; exact Nat.ne_of_lt (Fq60.lt)
  have Fq62 := Fq48.ext Eq39
  have nq63 : aq11 ≠ aq51 := by rw [eq53]; exact Nat.ne_of_lt (Fq62.lt)
  have nq64 : aq35 ≠ aq51 := by rw [eq53]; exact Nat.ne_of_lt (Aq50.lt)
  have Aq65 : Ax Z hq52 aq51 .long ([.long (0 : Int64), .long (0 : Int64), .long (0 : Int64), .long (0 : Int64)]) := Aq56
  have Fq66 := Aq50.ext Eq55
  refine Rn.aastore (pc' := 29) Fq66 rfl (Soq42 aq51 Fq66 (by obtain ⟨c1, q1, -⟩ := id Aq50; exact ⟨c1, Eq55.2 _ _ q1.1, c1, q1.1, rfl⟩) (Ins.self Bq57)) (by decide) (Nat.le_of_ble_eq_true rfl) rfl (Or.inr gq38) Sf.no d0_28 rfl (fun hq68 Wq67 Aq69 => ?_)
  have Aq70 : Ax Z hq68 aq35 (.array .long) [.ref aq51] := Aq69
  have Fq71 := F1.ext Eq5
  have Fq72 := Fq71.ext Eq15
  have Fq73 := Fq72.other Wq23 (Or.inl nq9)
  have Fq74 := Fq73.other Wq32 (Or.inr (slot_ne (t := (.array (.array .long))) (t' := (.array (.array .int))) (Or.inl (hw _ (List.mem_of_getElem? (i := 20) rfl))) (Or.inl (hw _ (List.mem_of_getElem? (i := 14) rfl))) (by decide) (by decide) (by decide)))
  have Fq75 := Fq74.ext Eq39
  have Fq76 := Fq75.ext Eq55
  have Fq77 := Fq76.other Wq67 (Or.inl nq44)
  have Fq78 := Fq58.ext Eq55
  have Fq79 := Fq78.wr Wq67
  refine Rn.putF (pc' := 32) (hw _ (List.mem_of_getElem? (i := 19) rfl)) Via.refl Fq77 Fq79 (Or.inl (hw _ (List.mem_of_getElem? (i := 20) rfl))) (hw _ (List.mem_of_getElem? (i := 1) rfl)) (ty := (.array (.array .long))) (by decide) rfl rfl (Or.inl (List.mem_of_getElem? (i := 0) rfl)) Sf.no d0_29 rfl (fun hq81 Wq80 => ?_)
  have Fq82 := Fq77.same Wq80
  refine Rn.aloadN (pc' := 33) d0_32 rfl rfl rfl ?_
  refine Rn.iconst (pc' := 34) (v := (1 : Int32)) d0_33 rfl rfl ?_
  refine Rn.newP (pc' := 36) (cap := 1) (ty := .int) (ad := "[I") (hw _ (List.mem_of_getElem? (i := 11) rfl)) rfl rfl d0_34 (by decide) (Nat.le_of_ble_eq_true rfl) (by decide) (Nat.le_of_ble_eq_true rfl) (Nat.le_of_ble_eq_true rfl) rfl (fun hq84 aq83 eq85 gq86 Eq87 ⟨Aq88, Bq89⟩ => ?_)
  have Fq90 := Fq79.wr Wq80
  have nq91 : m ≠ aq83 := by rw [eq85]; exact Nat.ne_of_lt (Fq90.lt)
  have Fq92 := Fq60.ext Eq55
  have Fq93 := Fq92.other Wq67 nq46
  have Fq94 := Fq93.other Wq80 (Ne.symm nq9)
  have nq95 : aq1 ≠ aq83 := by rw [eq85]; exact Nat.ne_of_lt (Fq94.lt)
  have Fq96 := Fq62.ext Eq55
  have Fq97 := Fq96.other Wq67 nq49
  have Fq98 := Fq97.other Wq80 (Ne.symm nq19)
  have nq99 : aq11 ≠ aq83 := by rw [eq85]; exact Nat.ne_of_lt (Fq98.lt)
  have Fq100 := Aq70.other Wq80 (Ne.symm nq44)
  have nq101 : aq35 ≠ aq83 := by rw [eq85]; exact Nat.ne_of_lt (Fq100.lt)
  have Fq102 := Aq65.other Wq67 (Ne.symm nq64)
  have Fq103 := Fq102.other Wq80 (Ne.symm nq59)
  have nq104 : aq51 ≠ aq83 := by rw [eq85]; exact Nat.ne_of_lt (Fq103.lt)
  have Aq105 : Ax Z hq84 aq83 .int ([.int (0 : Int32)]) := Aq88
  have Fq106 := F2.ext Eq5
  have Fq107 := Fq106.ext Eq15
  have Fq108 := Fq107.other Wq23 (Or.inl nq9)
  have Fq109 := Fq108.other Wq32 (Or.inr (slot_ne (t := (.array .int)) (t' := (.array (.array .int))) (Or.inl (hw _ (List.mem_of_getElem? (i := 22) rfl))) (Or.inl (hw _ (List.mem_of_getElem? (i := 14) rfl))) (by decide) (by decide) (by decide)))
  have Fq110 := Fq109.ext Eq39
  have Fq111 := Fq110.ext Eq55
  have Fq112 := Fq111.other Wq67 (Or.inl nq44)
  have Fq113 := Fq112.other Wq80 (Or.inr (slot_ne (t := (.array .int)) (t' := (.array (.array .long))) (Or.inl (hw _ (List.mem_of_getElem? (i := 22) rfl))) (Or.inl (hw _ (List.mem_of_getElem? (i := 20) rfl))) (by decide) (by decide) (by decide)))
  have Fq114 := Fq113.ext Eq87
  have Fq115 := Fq90.ext Eq87
  refine Rn.putF (pc' := 39) (hw _ (List.mem_of_getElem? (i := 21) rfl)) Via.refl Fq114 Fq115 (Or.inl (hw _ (List.mem_of_getElem? (i := 22) rfl))) (hw _ (List.mem_of_getElem? (i := 1) rfl)) (ty := (.array .int)) (by decide) rfl rfl (Or.inl (List.mem_of_getElem? (i := 0) rfl)) Sf.no d0_36 rfl (fun hq117 Wq116 => ?_)
  have Fq118 := Fq114.same Wq116
  refine Rn.aloadN (pc' := 40) d0_39 rfl rfl rfl ?_
  refine Rn.iconst (pc' := 41) (v := (1 : Int32)) d0_40 rfl rfl ?_
  refine Rn.newP (pc' := 43) (cap := 1) (ty := .int) (ad := "[I") (hw _ (List.mem_of_getElem? (i := 11) rfl)) rfl rfl d0_41 (by decide) (Nat.le_of_ble_eq_true rfl) (by decide) (Nat.le_of_ble_eq_true rfl) (Nat.le_of_ble_eq_true rfl) rfl (fun hq120 aq119 eq121 gq122 Eq123 ⟨Aq124, Bq125⟩ => ?_)
  have Fq126 := Fq115.wr Wq116
  have nq127 : m ≠ aq119 := by rw [eq121]; exact Nat.ne_of_lt (Fq126.lt)
  have Fq128 := Fq94.ext Eq87
  have Fq129 := Fq128.other Wq116 (Ne.symm nq9)
  have nq130 : aq1 ≠ aq119 := by rw [eq121]; exact Nat.ne_of_lt (Fq129.lt)
  have Fq131 := Fq98.ext Eq87
  have Fq132 := Fq131.other Wq116 (Ne.symm nq19)
  have nq133 : aq11 ≠ aq119 := by rw [eq121]; exact Nat.ne_of_lt (Fq132.lt)
  have Fq134 := Fq100.ext Eq87
  have Fq135 := Fq134.other Wq116 (Ne.symm nq44)
  have nq136 : aq35 ≠ aq119 := by rw [eq121]; exact Nat.ne_of_lt (Fq135.lt)
  have Fq137 := Fq103.ext Eq87
  have Fq138 := Fq137.other Wq116 (Ne.symm nq59)
  have nq139 : aq51 ≠ aq119 := by rw [eq121]; exact Nat.ne_of_lt (Fq138.lt)
  have Fq140 := Aq105.other Wq116 (Ne.symm nq91)
  have nq141 : aq83 ≠ aq119 := by rw [eq121]; exact Nat.ne_of_lt (Fq140.lt)
  have Aq142 : Ax Z hq120 aq119 .int ([.int (0 : Int32)]) := Aq124
  have Fq143 := F3.ext Eq5
  have Fq144 := Fq143.ext Eq15
  have Fq145 := Fq144.other Wq23 (Or.inl nq9)
  have Fq146 := Fq145.other Wq32 (Or.inr (slot_ne (t := (.array .int)) (t' := (.array (.array .int))) (Or.inl (hw _ (List.mem_of_getElem? (i := 24) rfl))) (Or.inl (hw _ (List.mem_of_getElem? (i := 14) rfl))) (by decide) (by decide) (by decide)))
  have Fq147 := Fq146.ext Eq39
  have Fq148 := Fq147.ext Eq55
  have Fq149 := Fq148.other Wq67 (Or.inl nq44)
  have Fq150 := Fq149.other Wq80 (Or.inr (slot_ne (t := (.array .int)) (t' := (.array (.array .long))) (Or.inl (hw _ (List.mem_of_getElem? (i := 24) rfl))) (Or.inl (hw _ (List.mem_of_getElem? (i := 20) rfl))) (by decide) (by decide) (by decide)))
  have Fq151 := Fq150.ext Eq87
  have Fq152 := Fq151.other Wq116 (Or.inr (slot_ne (t := (.array .int)) (t' := (.array .int)) (Or.inl (hw _ (List.mem_of_getElem? (i := 24) rfl))) (Or.inl (hw _ (List.mem_of_getElem? (i := 22) rfl))) (by decide) (by decide) (by decide)))
  have Fq153 := Fq152.ext Eq123
  have Fq154 := Fq126.ext Eq123
  refine Rn.putF (pc' := 46) (hw _ (List.mem_of_getElem? (i := 23) rfl)) Via.refl Fq153 Fq154 (Or.inl (hw _ (List.mem_of_getElem? (i := 24) rfl))) (hw _ (List.mem_of_getElem? (i := 1) rfl)) (ty := (.array .int)) (by decide) rfl rfl (Or.inl (List.mem_of_getElem? (i := 0) rfl)) Sf.no d0_43 rfl (fun hq156 Wq155 => ?_)
  have Fq157 := Fq153.same Wq155
  refine Rn.aloadN (pc' := 47) d0_46 rfl rfl rfl ?_
  refine Rn.iconst (pc' := 48) (v := (1 : Int32)) d0_47 rfl rfl ?_
  have Fq158 := F4.ext Eq5
  have Fq159 := Fq158.ext Eq15
  have Fq160 := Fq159.other Wq23 (Or.inl nq9)
  have Fq161 := Fq160.other Wq32 (Or.inr (slot_ne (t := .int) (t' := (.array (.array .int))) (Or.inl (hw _ (List.mem_of_getElem? (i := 26) rfl))) (Or.inl (hw _ (List.mem_of_getElem? (i := 14) rfl))) (by decide) (by decide) (by decide)))
  have Fq162 := Fq161.ext Eq39
  have Fq163 := Fq162.ext Eq55
  have Fq164 := Fq163.other Wq67 (Or.inl nq44)
  have Fq165 := Fq164.other Wq80 (Or.inr (slot_ne (t := .int) (t' := (.array (.array .long))) (Or.inl (hw _ (List.mem_of_getElem? (i := 26) rfl))) (Or.inl (hw _ (List.mem_of_getElem? (i := 20) rfl))) (by decide) (by decide) (by decide)))
  have Fq166 := Fq165.ext Eq87
  have Fq167 := Fq166.other Wq116 (Or.inr (slot_ne (t := .int) (t' := (.array .int)) (Or.inl (hw _ (List.mem_of_getElem? (i := 26) rfl))) (Or.inl (hw _ (List.mem_of_getElem? (i := 22) rfl))) (by decide) (by decide) (by decide)))
  have Fq168 := Fq167.ext Eq123
  have Fq169 := Fq168.other Wq155 (Or.inr (slot_ne (t := .int) (t' := (.array .int)) (Or.inl (hw _ (List.mem_of_getElem? (i := 26) rfl))) (Or.inl (hw _ (List.mem_of_getElem? (i := 24) rfl))) (by decide) (by decide) (by decide)))
  have Fq170 := Fq154.wr Wq155
  refine Rn.putF (pc' := 51) (hw _ (List.mem_of_getElem? (i := 25) rfl)) Via.refl Fq169 Fq170 (Or.inl (hw _ (List.mem_of_getElem? (i := 26) rfl))) (hw _ (List.mem_of_getElem? (i := 1) rfl)) (ty := .int) (by decide) rfl rfl (Or.inl (List.mem_of_getElem? (i := 0) rfl)) Sf.no d0_48 rfl (fun hq172 Wq171 => ?_)
  have Fq173 := Fq169.same Wq171
  refine Rn.retV rfl d0_51 (Nat.le_of_ble_eq_true rfl) (Nat.le_of_ble_eq_true rfl) ?_
  have Fq174 := Fq170.wr Wq171
  have Fq175 := Fq34.ext Eq39
  have Fq176 := Fq175.ext Eq55
  have Fq177 := Fq176.other Wq67 (Or.inl nq44)
  have Fq178 := Fq177.other Wq80 (Or.inr (slot_ne (t := (.array (.array .int))) (t' := (.array (.array .long))) (Or.inl (hw _ (List.mem_of_getElem? (i := 14) rfl))) (Or.inl (hw _ (List.mem_of_getElem? (i := 20) rfl))) (by decide) (by decide) (by decide)))
  have Fq179 := Fq178.ext Eq87
  have Fq180 := Fq179.other Wq116 (Or.inr (slot_ne (t := (.array (.array .int))) (t' := (.array .int)) (Or.inl (hw _ (List.mem_of_getElem? (i := 14) rfl))) (Or.inl (hw _ (List.mem_of_getElem? (i := 22) rfl))) (by decide) (by decide) (by decide)))
  have Fq181 := Fq180.ext Eq123
  have Fq182 := Fq181.other Wq155 (Or.inr (slot_ne (t := (.array (.array .int))) (t' := (.array .int)) (Or.inl (hw _ (List.mem_of_getElem? (i := 14) rfl))) (Or.inl (hw _ (List.mem_of_getElem? (i := 24) rfl))) (by decide) (by decide) (by decide)))
  have Fq183 := Fq182.other Wq171 (Or.inr (slot_ne (t := (.array (.array .int))) (t' := .int) (Or.inl (hw _ (List.mem_of_getElem? (i := 14) rfl))) (Or.inl (hw _ (List.mem_of_getElem? (i := 26) rfl))) (by decide) (by decide) (by decide)))
  have Fq184 := Fq82.ext Eq87
  have Fq185 := Fq184.other Wq116 (Or.inr (slot_ne (t := (.array (.array .long))) (t' := (.array .int)) (Or.inl (hw _ (List.mem_of_getElem? (i := 20) rfl))) (Or.inl (hw _ (List.mem_of_getElem? (i := 22) rfl))) (by decide) (by decide) (by decide)))
  have Fq186 := Fq185.ext Eq123
  have Fq187 := Fq186.other Wq155 (Or.inr (slot_ne (t := (.array (.array .long))) (t' := (.array .int)) (Or.inl (hw _ (List.mem_of_getElem? (i := 20) rfl))) (Or.inl (hw _ (List.mem_of_getElem? (i := 24) rfl))) (by decide) (by decide) (by decide)))
  have Fq188 := Fq187.other Wq171 (Or.inr (slot_ne (t := (.array (.array .long))) (t' := .int) (Or.inl (hw _ (List.mem_of_getElem? (i := 20) rfl))) (Or.inl (hw _ (List.mem_of_getElem? (i := 26) rfl))) (by decide) (by decide) (by decide)))
  have Fq189 := Fq118.ext Eq123
  have Fq190 := Fq189.other Wq155 (Or.inr (slot_ne (t := (.array .int)) (t' := (.array .int)) (Or.inl (hw _ (List.mem_of_getElem? (i := 22) rfl))) (Or.inl (hw _ (List.mem_of_getElem? (i := 24) rfl))) (by decide) (by decide) (by decide)))
  have Fq191 := Fq190.other Wq171 (Or.inr (slot_ne (t := (.array .int)) (t' := .int) (Or.inl (hw _ (List.mem_of_getElem? (i := 22) rfl))) (Or.inl (hw _ (List.mem_of_getElem? (i := 26) rfl))) (by decide) (by decide) (by decide)))
  have Fq192 := Fq157.other Wq171 (Or.inr (slot_ne (t := (.array .int)) (t' := .int) (Or.inl (hw _ (List.mem_of_getElem? (i := 24) rfl))) (Or.inl (hw _ (List.mem_of_getElem? (i := 26) rfl))) (by decide) (by decide) (by decide)))
  have Fq193 := F5.ext Eq5
  have Fq194 := Fq193.ext Eq15
  have Fq195 := Fq194.other Wq23 (Or.inl nq9)
  have Fq196 := Fq195.other Wq32 (Or.inr (slot_ne (t := .int) (t' := (.array (.array .int))) (Or.inl (hw _ (List.mem_of_getElem? (i := 55) rfl))) (Or.inl (hw _ (List.mem_of_getElem? (i := 14) rfl))) (by decide) (by decide) (by decide)))
  have Fq197 := Fq196.ext Eq39
  have Fq198 := Fq197.ext Eq55
  have Fq199 := Fq198.other Wq67 (Or.inl nq44)
  have Fq200 := Fq199.other Wq80 (Or.inr (slot_ne (t := .int) (t' := (.array (.array .long))) (Or.inl (hw _ (List.mem_of_getElem? (i := 55) rfl))) (Or.inl (hw _ (List.mem_of_getElem? (i := 20) rfl))) (by decide) (by decide) (by decide)))
  have Fq201 := Fq200.ext Eq87
  have Fq202 := Fq201.other Wq116 (Or.inr (slot_ne (t := .int) (t' := (.array .int)) (Or.inl (hw _ (List.mem_of_getElem? (i := 55) rfl))) (Or.inl (hw _ (List.mem_of_getElem? (i := 22) rfl))) (by decide) (by decide) (by decide)))
  have Fq203 := Fq202.ext Eq123
  have Fq204 := Fq203.other Wq155 (Or.inr (slot_ne (t := .int) (t' := (.array .int)) (Or.inl (hw _ (List.mem_of_getElem? (i := 55) rfl))) (Or.inl (hw _ (List.mem_of_getElem? (i := 24) rfl))) (by decide) (by decide) (by decide)))
  have Fq205 := Fq204.other Wq171 (Or.inr (slot_ne (t := .int) (t' := .int) (Or.inl (hw _ (List.mem_of_getElem? (i := 55) rfl))) (Or.inl (hw _ (List.mem_of_getElem? (i := 26) rfl))) (by decide) (by decide) (by decide)))
  have Fq206 := Fq129.ext Eq123
  have Fq207 := Fq206.other Wq155 (Ne.symm nq9)
  have Fq208 := Fq207.other Wq171 (Ne.symm nq9)
  have Fq209 := Fq132.ext Eq123
  have Fq210 := Fq209.other Wq155 (Ne.symm nq19)
  have Fq211 := Fq210.other Wq171 (Ne.symm nq19)
  have Fq212 := Fq135.ext Eq123
  have Fq213 := Fq212.other Wq155 (Ne.symm nq44)
  have Fq214 := Fq213.other Wq171 (Ne.symm nq44)
  have Fq215 := Fq138.ext Eq123
  have Fq216 := Fq215.other Wq155 (Ne.symm nq59)
  have Fq217 := Fq216.other Wq171 (Ne.symm nq59)
  have Fq218 := Fq140.ext Eq123
  have Fq219 := Fq218.other Wq155 (Ne.symm nq91)
  have Fq220 := Fq219.other Wq171 (Ne.symm nq91)
  have Fq221 := Aq142.other Wq155 (Ne.symm nq127)
  have Fq222 := Fq221.other Wq171 (Ne.symm nq127)
  exact ⟨rfl, aq1, aq11, aq35, aq51, aq83, aq119, gq4, gq14, gq38, gq54, gq86, gq122, ⟨nq9, nq19, nq44, nq59, nq91, nq127, nq20, nq46, nq61, nq95, nq130, nq49, nq63, nq99, nq133, nq64, nq101, nq136, nq104, nq139, nq141⟩, ⟨Fq174, Fq183, Fq188, Fq191, Fq192, Fq173, Fq205, Fq208, Fq211, Fq214, Fq217, Fq220, Fq222⟩⟩
theorem own_tri (a b : Int32) : a < b ∨ b < a ∨ a = b := by
  simp only [Int32.lt_iff_toInt_lt, ← Int32.toInt_inj]; omega
theorem own_cs (x : Int64) : XT.cmpL x x = (0 : Int32) := by
  unfold XT.cmpL; rw [if_neg (by rw [Int64.lt_iff_toInt_lt]; omega), if_pos rfl]
theorem own_irr (a : Int32) : ¬ a < a := by rw [Int32.lt_iff_toInt_lt]; omega
theorem own_asy {a b : Int32} (h : a < b) : ¬ b < a := by rw [Int32.lt_iff_toInt_lt] at *; omega
theorem own_ne {a b : Int32} (h : a < b) : ¬ a = b := fun e => by subst e; exact own_irr _ h
theorem own_e1a {a b : Int32} (h : a < b) : own_bs1 a b = (-2 : Int32) := by simp [own_bs1, h]
theorem own_e1b {a b : Int32} (h : b < a) : own_bs1 a b = (-1 : Int32) := by simp [own_bs1, h, own_asy h]
theorem own_e1c (a : Int32) : own_bs1 a a = (0 : Int32) := by simp [own_bs1, own_irr]
theorem own_e20 (a b : Int32) : own_bs2 a b a = (0 : Int32) := by simp [own_bs2, own_irr]
theorem own_e21 {a b : Int32} (h : a < b) : own_bs2 a b b = (1 : Int32) := by simp [own_bs2, own_irr, h]
set_option maxRecDepth 65536 in
set_option maxHeartbeats 40000000 in
theorem own_law (Z : State) (a0 : Array Value) (hw : ∀ d ∈ tables_1, d.before a0 Z = true) (k1 k2 sel : Int32) (v1 v2 w : Int64) :
    Rn false Z [] "com/example/ratecraft/ratecraft/SortedIntLongMapSetValuePinLaw" "law" code 20 ret room_1 Z.heap [] (fun v _ => v = some (.int 1)) [] 0 0 Z.heap 0 #[.val (.int k1), .val (.int k2), .val (.long v1), .second, .val (.long v2), .second, .val (.long w), .second, .val (.int sel), .unset, .unset, .unset, .unset, .unset, .unset, .unset, .unset, .unset, .unset, .unset] [] := by
  refine Rn.newO (pc' := 3) (hw _ (List.mem_of_getElem? (i := 0) rfl)) (hw _ (List.mem_of_getElem? (i := 1) rfl)) (hw _ (List.mem_of_getElem? (i := 2) rfl)) at_0 (Nat.le_of_ble_eq_true rfl) (Nat.le_of_ble_eq_true rfl) rfl (fun hq2 aq1 eq3 gq4 Eq5 ⟨Aq6, Dq7, Uq8⟩ => ?_)
  have Fq9 : Fld Z hq2 aq1 "com/example/ratecraft/ratecraft/SortedIntLongMap" "keys" "[[I" (.null) := Dq7 (Or.inl (hw _ (List.mem_of_getElem? (i := 14) rfl))) (ty := (.array (.array .int))) (by decide)
  have Fq10 : Fld Z hq2 aq1 "com/example/ratecraft/ratecraft/SortedIntLongMap" "values" "[[J" (.null) := Dq7 (Or.inl (hw _ (List.mem_of_getElem? (i := 20) rfl))) (ty := (.array (.array .long))) (by decide)
  have Fq11 : Fld Z hq2 aq1 "com/example/ratecraft/ratecraft/SortedIntLongMap" "sizes" "[I" (.null) := Dq7 (Or.inl (hw _ (List.mem_of_getElem? (i := 22) rfl))) (ty := (.array .int)) (by decide)
  have Fq12 : Fld Z hq2 aq1 "com/example/ratecraft/ratecraft/SortedIntLongMap" "firsts" "[I" (.null) := Dq7 (Or.inl (hw _ (List.mem_of_getElem? (i := 24) rfl))) (ty := (.array .int)) (by decide)
  have Fq13 : Fld Z hq2 aq1 "com/example/ratecraft/ratecraft/SortedIntLongMap" "blocks" "I" (.int (0 : Int32)) := Dq7 (Or.inl (hw _ (List.mem_of_getElem? (i := 26) rfl))) (ty := .int) (by decide)
  have Fq14 : Fld Z hq2 aq1 "com/example/ratecraft/ratecraft/SortedIntLongMap" "size" "I" (.int (0 : Int32)) := Dq7 (Or.inl (hw _ (List.mem_of_getElem? (i := 55) rfl))) (ty := .int) (by decide)
  refine Rn.dup (pc' := 4) at_3 rfl rfl ?_
  refine Rn.callI (pc' := 7) (argsL := []) (a := aq1) (rest := [.ref aq1]) (ct_init Z a0 hw aq1 hq2 Aq6 Fq9 Fq10 Fq11 Fq12 Fq13 Fq14) rfl (hw _ (List.mem_of_getElem? (i := 3) rfl)) (hw _ (List.mem_of_getElem? (i := 4) rfl)) (hw _ (List.mem_of_getElem? (i := 2) rfl)) (hw _ (List.mem_of_getElem? (i := 5) rfl)) (by decide) rfl rfl (lenOf pd_5 rfl) rfl at_4 rfl (Nat.le_of_ble_eq_true rfl) (Nat.le_of_ble_eq_true rfl) (Nat.le_of_ble_eq_true rfl) (Nat.le_of_ble_eq_true rfl) (allS (Or.inr gq4) all0) (allS Sf.no (all0)) (fun vq15 hq16 Kq17 qq18 => ?_)
  obtain ⟨rfl, kk, kb, vv, vb, sz, fs, g_kk, g_kb, g_vv, g_vb, g_sz, g_fs, nd, M0⟩ := qq18
  simp only [Option.toList, List.cons_append, List.nil_append]
  have hm := Nat.le_trans gq4 (Nat.le_of_lt Aq6.lt)
  refine Rn.astore (pc' := 9) (Ls' := #[.val (.int k1), .val (.int k2), .val (.long v1), .second, .val (.long v2), .second, .val (.long w), .second, .val (.int sel), .val (.ref aq1), .unset, .unset, .unset, .unset, .unset, .unset, .unset, .unset, .unset, .unset]) at_7 rfl rfl rfl ?_
  refine Rn.aload (pc' := 11) at_9 rfl rfl rfl ?_
  refine Rn.iloadN (pc' := 12) at_11 rfl rfl ?_
  refine Rn.lloadN (pc' := 13) at_12 rfl rfl ?_
  refine Rn.callV (pc' := 16) (argsL := [.int k1, .long v1]) (a := aq1) (rest := []) (ct_put0 Z a0 hw aq1 kk kb vv vb sz fs (0 : Int32)   hq16 nd M0 k1 v1) M0.1 (hw _ (List.mem_of_getElem? (i := 27) rfl)) (hw _ (List.mem_of_getElem? (i := 28) rfl)) (fun _ hZ => notFace_of_selects (args := #[]) (mvT hZ (hw _ (List.mem_of_getElem? (i := 30) rfl)))) (hw _ (List.mem_of_getElem? (i := 30) rfl)) (hw _ (List.mem_of_getElem? (i := 29) rfl)) (hw _ (List.mem_of_getElem? (i := 2) rfl)) (hw _ (List.mem_of_getElem? (i := 31) rfl)) (by decide) rfl rfl (lenOf pd_6 rfl) rfl at_13 rfl (Nat.le_of_ble_eq_true rfl) (Nat.le_of_ble_eq_true rfl) (Nat.le_of_ble_eq_true rfl) (Nat.le_of_ble_eq_true rfl) (allS (Or.inr gq4) (allS (Or.inr (Nat.le_trans hm g_kb)) (allS (Or.inr (Nat.le_trans hm g_vb)) (allS (Or.inr (Nat.le_trans hm g_sz)) (allS (Or.inr (Nat.le_trans hm g_fs)) (all0)))))) (allS Sf.no (allS Sf.no (allS Sf.no (allS Sf.no (allS Sf.no (all0)))))) (fun vq19 hq20 Kq21 qq22 => ?_)
  obtain ⟨rfl, M1⟩ := qq22
  simp only [Option.toList, List.cons_append, List.nil_append]
  refine Rn.aload (pc' := 18) at_16 rfl rfl rfl ?_
  refine Rn.iloadN (pc' := 19) at_18 rfl rfl ?_
  refine Rn.lload (pc' := 21) at_19 rfl rfl ?_
  rcases own_tri k1 k2 with hlt | hgt | heq
  ·
    refine Rn.callV (pc' := 24) (argsL := [.int k2, .long v2]) (a := aq1) (rest := []) (ct_put1a Z a0 hw aq1 kk kb vv vb sz fs k1 k1 v1 hq20 nd M1 k2 v2 (own_e1a hlt)) M1.1 (hw _ (List.mem_of_getElem? (i := 27) rfl)) (hw _ (List.mem_of_getElem? (i := 28) rfl)) (fun _ hZ => notFace_of_selects (args := #[]) (mvT hZ (hw _ (List.mem_of_getElem? (i := 30) rfl)))) (hw _ (List.mem_of_getElem? (i := 30) rfl)) (hw _ (List.mem_of_getElem? (i := 29) rfl)) (hw _ (List.mem_of_getElem? (i := 2) rfl)) (hw _ (List.mem_of_getElem? (i := 31) rfl)) (by decide) rfl rfl (lenOf pd_6 rfl) rfl at_21 rfl (Nat.le_of_ble_eq_true rfl) (Nat.le_of_ble_eq_true rfl) (Nat.le_of_ble_eq_true rfl) (Nat.le_of_ble_eq_true rfl) (allS (Or.inr gq4) (allS (Or.inr (Nat.le_trans hm g_kb)) (allS (Or.inr (Nat.le_trans hm g_vb)) (allS (Or.inr (Nat.le_trans hm g_sz)) (allS (Or.inr (Nat.le_trans hm g_fs)) (all0)))))) (allS Sf.no (allS Sf.no (allS Sf.no (allS Sf.no (allS Sf.no (all0)))))) (fun vq23 hq24 Kq25 qq26 => ?_)
    obtain ⟨rfl, M2⟩ := qq26
    simp only [Option.toList, List.cons_append, List.nil_append]
    refine Rn.iload (pc' := 26) at_24 rfl rfl ?_
    refine Rn.iconst (pc' := 27) (v := (1 : Int32)) at_26 rfl rfl ?_
    refine Rn.iand (pc' := 28) (v := (sel &&& (1 : Int32))) at_27 rfl rfl ?_
    refine Rn.if_ne (pc' := 35) (pn := 31) at_28 (by decide) (by decide) rfl (fun cq27 => ?_) (fun cq27 => ?_)
    ·
      refine Rn.iconst (pc' := 36) (v := (0 : Int32)) at_35 rfl rfl ?_
      refine Rn.istore (pc' := 38) (Ls' := #[.val (.int k1), .val (.int k2), .val (.long v1), .second, .val (.long v2), .second, .val (.long w), .second, .val (.int sel), .val (.ref aq1), .val (.int (0 : Int32)), .unset, .unset, .unset, .unset, .unset, .unset, .unset, .unset, .unset]) at_36 rfl rfl ?_
      refine Rn.iload (pc' := 40) at_38 rfl rfl ?_
      refine Rn.if_eq (pc' := 47) (pn := 43) at_40 (by decide) (by decide) rfl (fun cq28 => ?_) (fun cq28 => absurd cq28 (by decide))
      refine Rn.iloadN (pc' := 48) at_47 rfl rfl ?_
      refine Rn.istore (pc' := 50) (Ls' := #[.val (.int k1), .val (.int k2), .val (.long v1), .second, .val (.long v2), .second, .val (.long w), .second, .val (.int sel), .val (.ref aq1), .val (.int (0 : Int32)), .val (.int k2), .unset, .unset, .unset, .unset, .unset, .unset, .unset, .unset]) at_48 rfl rfl ?_
      refine Rn.iload (pc' := 52) at_50 rfl rfl ?_
      refine Rn.if_eq (pc' := 59) (pn := 55) at_52 (by decide) (by decide) rfl (fun cq29 => ?_) (fun cq29 => absurd cq29 (by decide))
      refine Rn.iloadN (pc' := 60) at_59 rfl rfl ?_
      refine Rn.istore (pc' := 62) (Ls' := #[.val (.int k1), .val (.int k2), .val (.long v1), .second, .val (.long v2), .second, .val (.long w), .second, .val (.int sel), .val (.ref aq1), .val (.int (0 : Int32)), .val (.int k2), .val (.int k1), .unset, .unset, .unset, .unset, .unset, .unset, .unset]) at_60 rfl rfl ?_
      refine Rn.iload (pc' := 64) at_62 rfl rfl ?_
      refine Rn.if_eq (pc' := 72) (pn := 67) at_64 (by decide) (by decide) rfl (fun cq30 => ?_) (fun cq30 => absurd cq30 (by decide))
      refine Rn.lloadN (pc' := 73) at_72 rfl rfl ?_
      refine Rn.lstore (pc' := 75) (Ls' := #[.val (.int k1), .val (.int k2), .val (.long v1), .second, .val (.long v2), .second, .val (.long w), .second, .val (.int sel), .val (.ref aq1), .val (.int (0 : Int32)), .val (.int k2), .val (.int k1), .val (.long v1), .second, .unset, .unset, .unset, .unset, .unset]) at_73 rfl rfl ?_
      refine Rn.aload (pc' := 77) at_75 rfl rfl rfl ?_
      refine Rn.iload (pc' := 79) at_77 rfl rfl ?_
      refine Rn.callV (pc' := 82) (argsL := [.int k2]) (a := aq1) (rest := []) (ct_fl21 Z a0 hw aq1 kk kb vv vb sz fs k1 k1 k2 v1 v2 hq24 nd M2 k2 (own_e21 hlt)) M2.1 (hw _ (List.mem_of_getElem? (i := 56) rfl)) (hw _ (List.mem_of_getElem? (i := 57) rfl)) (fun _ hZ => notFace_of_selects (args := #[]) (mvT hZ (hw _ (List.mem_of_getElem? (i := 59) rfl)))) (hw _ (List.mem_of_getElem? (i := 59) rfl)) (hw _ (List.mem_of_getElem? (i := 58) rfl)) (hw _ (List.mem_of_getElem? (i := 2) rfl)) (hw _ (List.mem_of_getElem? (i := 60) rfl)) (by decide) rfl rfl (lenOf pd_2 rfl) rfl at_79 rfl (Nat.le_of_ble_eq_true rfl) (Nat.le_of_ble_eq_true rfl) (Nat.le_of_ble_eq_true rfl) (Nat.le_of_ble_eq_true rfl) (fun _ z => nomatch z) (fun _ z => nomatch z) (fun vq31 hq32 Kq33 qq34 => ?_)
      obtain ⟨rfl, rfl⟩ := qq34
      simp only [Option.toList, List.cons_append, List.nil_append]
      refine Rn.istore (pc' := 84) (Ls' := #[.val (.int k1), .val (.int k2), .val (.long v1), .second, .val (.long v2), .second, .val (.long w), .second, .val (.int sel), .val (.ref aq1), .val (.int (0 : Int32)), .val (.int k2), .val (.int k1), .val (.long v1), .second, .val (.int (1 : Int32)), .unset, .unset, .unset, .unset]) at_82 rfl rfl ?_
      refine Rn.aload (pc' := 86) at_84 rfl rfl rfl ?_
      refine Rn.iload (pc' := 88) at_86 rfl rfl ?_
      refine Rn.lload (pc' := 90) at_88 rfl rfl ?_
      refine Rn.callV (pc' := 93) (argsL := [.int (1 : Int32), .long w]) (a := aq1) (rest := []) (ct_sv21 Z a0 hw aq1 kk kb vv vb sz fs k1 k1 k2 v1 v2 hq24 nd M2 w) M2.1 (hw _ (List.mem_of_getElem? (i := 68) rfl)) (hw _ (List.mem_of_getElem? (i := 69) rfl)) (fun _ hZ => notFace_of_selects (args := #[]) (mvT hZ (hw _ (List.mem_of_getElem? (i := 71) rfl)))) (hw _ (List.mem_of_getElem? (i := 71) rfl)) (hw _ (List.mem_of_getElem? (i := 70) rfl)) (hw _ (List.mem_of_getElem? (i := 2) rfl)) (hw _ (List.mem_of_getElem? (i := 72) rfl)) (by decide) rfl rfl (lenOf pd_6 rfl) rfl at_90 rfl (Nat.le_of_ble_eq_true rfl) (Nat.le_of_ble_eq_true rfl) (Nat.le_of_ble_eq_true rfl) (Nat.le_of_ble_eq_true rfl) (allS (Or.inr (Nat.le_trans hm g_vb)) all0) (allS Sf.no (all0)) (fun vq36 hq37 Kq38 qq39 => ?_)
      obtain ⟨rfl, Mq35⟩ := qq39
      simp only [Option.toList, List.cons_append, List.nil_append]
      refine Rn.aload (pc' := 95) at_93 rfl rfl rfl ?_
      refine Rn.iload (pc' := 97) at_95 rfl rfl ?_
      refine Rn.callV (pc' := 100) (argsL := [.int (1 : Int32)]) (a := aq1) (rest := []) (ct_gv21 Z a0 hw aq1 kk kb vv vb sz fs k1 k1 k2 v1 w hq37 nd Mq35 ) Mq35.1 (hw _ (List.mem_of_getElem? (i := 73) rfl)) (hw _ (List.mem_of_getElem? (i := 74) rfl)) (fun _ hZ => notFace_of_selects (args := #[]) (mvT hZ (hw _ (List.mem_of_getElem? (i := 76) rfl)))) (hw _ (List.mem_of_getElem? (i := 76) rfl)) (hw _ (List.mem_of_getElem? (i := 75) rfl)) (hw _ (List.mem_of_getElem? (i := 2) rfl)) (hw _ (List.mem_of_getElem? (i := 77) rfl)) (by decide) rfl rfl (lenOf pd_7 rfl) rfl at_97 rfl (Nat.le_of_ble_eq_true rfl) (Nat.le_of_ble_eq_true rfl) (Nat.le_of_ble_eq_true rfl) (Nat.le_of_ble_eq_true rfl) (fun _ z => nomatch z) (fun _ z => nomatch z) (fun vq40 hq41 Kq42 qq43 => ?_)
      obtain ⟨rfl, rfl⟩ := qq43
      simp only [Option.toList, List.cons_append, List.nil_append]
      refine Rn.lload (pc' := 102) at_100 rfl rfl ?_
      refine Rn.lcmp (pc' := 103) (v := (0 : Int32)) at_102 (own_cs _) rfl ?_
      refine Rn.if_ne (pc' := 110) (pn := 106) at_103 (by decide) (by decide) rfl (fun cq44 => absurd cq44 (by decide)) (fun cq44 => ?_)
      refine Rn.iconst (pc' := 107) (v := (1 : Int32)) at_106 rfl rfl ?_
      refine Rn.goto (pc' := 111) at_107 (by decide) (by decide) ?_
      refine Rn.istore (pc' := 113) (Ls' := #[.val (.int k1), .val (.int k2), .val (.long v1), .second, .val (.long v2), .second, .val (.long w), .second, .val (.int sel), .val (.ref aq1), .val (.int (0 : Int32)), .val (.int k2), .val (.int k1), .val (.long v1), .second, .val (.int (1 : Int32)), .val (.int (1 : Int32)), .unset, .unset, .unset]) at_111 rfl rfl ?_
      refine Rn.iload (pc' := 115) at_113 rfl rfl ?_
      refine Rn.if_eq (pc' := 134) (pn := 118) at_115 (by decide) (by decide) rfl (fun cq45 => absurd cq45 (by decide)) (fun cq45 => ?_)
      refine Rn.aload (pc' := 120) at_118 rfl rfl rfl ?_
      refine Rn.iload (pc' := 122) at_120 rfl rfl ?_
      refine Rn.callV (pc' := 125) (argsL := [.int (1 : Int32)]) (a := aq1) (rest := []) (ct_ke21 Z a0 hw aq1 kk kb vv vb sz fs k1 k1 k2 v1 w hq37 nd Mq35 ) Mq35.1 (hw _ (List.mem_of_getElem? (i := 78) rfl)) (hw _ (List.mem_of_getElem? (i := 79) rfl)) (fun _ hZ => notFace_of_selects (args := #[]) (mvT hZ (hw _ (List.mem_of_getElem? (i := 81) rfl)))) (hw _ (List.mem_of_getElem? (i := 81) rfl)) (hw _ (List.mem_of_getElem? (i := 80) rfl)) (hw _ (List.mem_of_getElem? (i := 2) rfl)) (hw _ (List.mem_of_getElem? (i := 82) rfl)) (by decide) rfl rfl (lenOf pd_2 rfl) rfl at_122 rfl (Nat.le_of_ble_eq_true rfl) (Nat.le_of_ble_eq_true rfl) (Nat.le_of_ble_eq_true rfl) (Nat.le_of_ble_eq_true rfl) (fun _ z => nomatch z) (fun _ z => nomatch z) (fun vq46 hq47 Kq48 qq49 => ?_)
      obtain ⟨rfl, rfl⟩ := qq49
      simp only [Option.toList, List.cons_append, List.nil_append]
      refine Rn.iload (pc' := 127) at_125 rfl rfl ?_
      refine Rn.icmp_ne (pc' := 134) (pn := 130) at_127 (by decide) (by decide) rfl (fun cq50 => absurd rfl cq50) (fun cq50 => ?_)
      refine Rn.iconst (pc' := 131) (v := (1 : Int32)) at_130 rfl rfl ?_
      refine Rn.goto (pc' := 135) at_131 (by decide) (by decide) ?_
      refine Rn.istore (pc' := 137) (Ls' := #[.val (.int k1), .val (.int k2), .val (.long v1), .second, .val (.long v2), .second, .val (.long w), .second, .val (.int sel), .val (.ref aq1), .val (.int (0 : Int32)), .val (.int k2), .val (.int k1), .val (.long v1), .second, .val (.int (1 : Int32)), .val (.int (1 : Int32)), .unset, .unset, .unset]) at_135 rfl rfl ?_
      refine Rn.iloadN (pc' := 138) at_137 rfl rfl ?_
      refine Rn.iloadN (pc' := 139) at_138 rfl rfl ?_
      refine Rn.icmp_ne (pc' := 146) (pn := 142) at_139 (by decide) (by decide) rfl (fun cq51 => ?_) (fun cq51 => absurd cq51 (own_ne hlt))
      refine Rn.iconst (pc' := 147) (v := (2 : Int32)) at_146 rfl rfl ?_
      refine Rn.istore (pc' := 149) (Ls' := #[.val (.int k1), .val (.int k2), .val (.long v1), .second, .val (.long v2), .second, .val (.long w), .second, .val (.int sel), .val (.ref aq1), .val (.int (0 : Int32)), .val (.int k2), .val (.int k1), .val (.long v1), .second, .val (.int (1 : Int32)), .val (.int (1 : Int32)), .val (.int (2 : Int32)), .unset, .unset]) at_147 rfl rfl ?_
      refine Rn.iload (pc' := 151) at_149 rfl rfl ?_
      refine Rn.if_eq (pc' := 168) (pn := 154) at_151 (by decide) (by decide) rfl (fun cq52 => absurd cq52 (by decide)) (fun cq52 => ?_)
      refine Rn.aload (pc' := 156) at_154 rfl rfl rfl ?_
      refine Rn.callV (pc' := 159) (argsL := []) (a := aq1) (rest := []) (ct_size2 Z a0 hw aq1 kk kb vv vb sz fs k1 k1 k2 v1 w hq37 nd Mq35 ) Mq35.1 (hw _ (List.mem_of_getElem? (i := 83) rfl)) (hw _ (List.mem_of_getElem? (i := 84) rfl)) (fun _ hZ => notFace_of_selects (args := #[]) (mvT hZ (hw _ (List.mem_of_getElem? (i := 86) rfl)))) (hw _ (List.mem_of_getElem? (i := 86) rfl)) (hw _ (List.mem_of_getElem? (i := 85) rfl)) (hw _ (List.mem_of_getElem? (i := 2) rfl)) (hw _ (List.mem_of_getElem? (i := 87) rfl)) (by decide) rfl rfl (lenOf pd_8 rfl) rfl at_156 rfl (Nat.le_of_ble_eq_true rfl) (Nat.le_of_ble_eq_true rfl) (Nat.le_of_ble_eq_true rfl) (Nat.le_of_ble_eq_true rfl) (fun _ z => nomatch z) (fun _ z => nomatch z) (fun vq53 hq54 Kq55 qq56 => ?_)
      obtain ⟨rfl, rfl⟩ := qq56
      simp only [Option.toList, List.cons_append, List.nil_append]
      refine Rn.iload (pc' := 161) at_159 rfl rfl ?_
      refine Rn.icmp_ne (pc' := 168) (pn := 164) at_161 (by decide) (by decide) rfl (fun cq57 => absurd cq57 (by decide)) (fun cq57 => ?_)
      refine Rn.iconst (pc' := 165) (v := (1 : Int32)) at_164 rfl rfl ?_
      refine Rn.goto (pc' := 169) at_165 (by decide) (by decide) ?_
      refine Rn.istore (pc' := 171) (Ls' := #[.val (.int k1), .val (.int k2), .val (.long v1), .second, .val (.long v2), .second, .val (.long w), .second, .val (.int sel), .val (.ref aq1), .val (.int (0 : Int32)), .val (.int k2), .val (.int k1), .val (.long v1), .second, .val (.int (1 : Int32)), .val (.int (1 : Int32)), .val (.int (2 : Int32)), .unset, .unset]) at_169 rfl rfl ?_
      refine Rn.iloadN (pc' := 172) at_171 rfl rfl ?_
      refine Rn.iloadN (pc' := 173) at_172 rfl rfl ?_
      refine Rn.icmp_ne (pc' := 181) (pn := 176) at_173 (by decide) (by decide) rfl (fun cq58 => ?_) (fun cq58 => absurd cq58 (own_ne hlt))
      refine Rn.lload (pc' := 183) at_181 rfl rfl ?_
      refine Rn.lstore (pc' := 185) (Ls' := #[.val (.int k1), .val (.int k2), .val (.long v1), .second, .val (.long v2), .second, .val (.long w), .second, .val (.int sel), .val (.ref aq1), .val (.int (0 : Int32)), .val (.int k2), .val (.int k1), .val (.long v1), .second, .val (.int (1 : Int32)), .val (.int (1 : Int32)), .val (.int (2 : Int32)), .val (.long v1), .second]) at_183 rfl rfl ?_
      refine Rn.iload (pc' := 187) at_185 rfl rfl ?_
      refine Rn.if_eq (pc' := 212) (pn := 190) at_187 (by decide) (by decide) rfl (fun cq59 => absurd cq59 (by decide)) (fun cq59 => ?_)
      refine Rn.aload (pc' := 192) at_190 rfl rfl rfl ?_
      refine Rn.aload (pc' := 194) at_192 rfl rfl rfl ?_
      refine Rn.iload (pc' := 196) at_194 rfl rfl ?_
      refine Rn.callV (pc' := 199) (argsL := [.int k1]) (a := aq1) (rest := [.ref aq1]) (ct_fl20 Z a0 hw aq1 kk kb vv vb sz fs k1 k1 k2 v1 w hq37 nd Mq35 k1 (own_e20 k1 k2)) Mq35.1 (hw _ (List.mem_of_getElem? (i := 56) rfl)) (hw _ (List.mem_of_getElem? (i := 57) rfl)) (fun _ hZ => notFace_of_selects (args := #[]) (mvT hZ (hw _ (List.mem_of_getElem? (i := 59) rfl)))) (hw _ (List.mem_of_getElem? (i := 59) rfl)) (hw _ (List.mem_of_getElem? (i := 58) rfl)) (hw _ (List.mem_of_getElem? (i := 2) rfl)) (hw _ (List.mem_of_getElem? (i := 60) rfl)) (by decide) rfl rfl (lenOf pd_2 rfl) rfl at_196 rfl (Nat.le_of_ble_eq_true rfl) (Nat.le_of_ble_eq_true rfl) (Nat.le_of_ble_eq_true rfl) (Nat.le_of_ble_eq_true rfl) (fun _ z => nomatch z) (fun _ z => nomatch z) (fun vq60 hq61 Kq62 qq63 => ?_)
      obtain ⟨rfl, rfl⟩ := qq63
      simp only [Option.toList, List.cons_append, List.nil_append]
      refine Rn.callV (pc' := 202) (argsL := [.int (0 : Int32)]) (a := aq1) (rest := []) (ct_gv20 Z a0 hw aq1 kk kb vv vb sz fs k1 k1 k2 v1 w hq37 nd Mq35 ) Mq35.1 (hw _ (List.mem_of_getElem? (i := 73) rfl)) (hw _ (List.mem_of_getElem? (i := 74) rfl)) (fun _ hZ => notFace_of_selects (args := #[]) (mvT hZ (hw _ (List.mem_of_getElem? (i := 76) rfl)))) (hw _ (List.mem_of_getElem? (i := 76) rfl)) (hw _ (List.mem_of_getElem? (i := 75) rfl)) (hw _ (List.mem_of_getElem? (i := 2) rfl)) (hw _ (List.mem_of_getElem? (i := 77) rfl)) (by decide) rfl rfl (lenOf pd_7 rfl) rfl at_199 rfl (Nat.le_of_ble_eq_true rfl) (Nat.le_of_ble_eq_true rfl) (Nat.le_of_ble_eq_true rfl) (Nat.le_of_ble_eq_true rfl) (fun _ z => nomatch z) (fun _ z => nomatch z) (fun vq64 hq65 Kq66 qq67 => ?_)
      obtain ⟨rfl, rfl⟩ := qq67
      simp only [Option.toList, List.cons_append, List.nil_append]
      refine Rn.lload (pc' := 204) at_202 rfl rfl ?_
      refine Rn.lcmp (pc' := 205) (v := (0 : Int32)) at_204 (own_cs _) rfl ?_
      refine Rn.if_ne (pc' := 212) (pn := 208) at_205 (by decide) (by decide) rfl (fun cq68 => absurd cq68 (by decide)) (fun cq68 => ?_)
      refine Rn.iconst (pc' := 209) (v := (1 : Int32)) at_208 rfl rfl ?_
      refine Rn.goto (pc' := 213) at_209 (by decide) (by decide) ?_
      refine Rn.istore (pc' := 215) (Ls' := #[.val (.int k1), .val (.int k2), .val (.long v1), .second, .val (.long v2), .second, .val (.long w), .second, .val (.int sel), .val (.ref aq1), .val (.int (0 : Int32)), .val (.int k2), .val (.int k1), .val (.long v1), .second, .val (.int (1 : Int32)), .val (.int (1 : Int32)), .val (.int (2 : Int32)), .val (.long v1), .second]) at_213 rfl rfl ?_
      refine Rn.iload (pc' := 217) at_215 rfl rfl ?_
      refine Rn.retN (t := .boolean) rfl (by simp) at_217 (Nat.le_of_ble_eq_true rfl) (Nat.le_of_ble_eq_true rfl) ?_
      rfl
    ·
      refine Rn.iconst (pc' := 32) (v := (1 : Int32)) at_31 rfl rfl ?_
      refine Rn.goto (pc' := 36) at_32 (by decide) (by decide) ?_
      refine Rn.istore (pc' := 38) (Ls' := #[.val (.int k1), .val (.int k2), .val (.long v1), .second, .val (.long v2), .second, .val (.long w), .second, .val (.int sel), .val (.ref aq1), .val (.int (1 : Int32)), .unset, .unset, .unset, .unset, .unset, .unset, .unset, .unset, .unset]) at_36 rfl rfl ?_
      refine Rn.iload (pc' := 40) at_38 rfl rfl ?_
      refine Rn.if_eq (pc' := 47) (pn := 43) at_40 (by decide) (by decide) rfl (fun cq69 => absurd cq69 (by decide)) (fun cq69 => ?_)
      refine Rn.iloadN (pc' := 44) at_43 rfl rfl ?_
      refine Rn.goto (pc' := 48) at_44 (by decide) (by decide) ?_
      refine Rn.istore (pc' := 50) (Ls' := #[.val (.int k1), .val (.int k2), .val (.long v1), .second, .val (.long v2), .second, .val (.long w), .second, .val (.int sel), .val (.ref aq1), .val (.int (1 : Int32)), .val (.int k1), .unset, .unset, .unset, .unset, .unset, .unset, .unset, .unset]) at_48 rfl rfl ?_
      refine Rn.iload (pc' := 52) at_50 rfl rfl ?_
      refine Rn.if_eq (pc' := 59) (pn := 55) at_52 (by decide) (by decide) rfl (fun cq70 => absurd cq70 (by decide)) (fun cq70 => ?_)
      refine Rn.iloadN (pc' := 56) at_55 rfl rfl ?_
      refine Rn.goto (pc' := 60) at_56 (by decide) (by decide) ?_
      refine Rn.istore (pc' := 62) (Ls' := #[.val (.int k1), .val (.int k2), .val (.long v1), .second, .val (.long v2), .second, .val (.long w), .second, .val (.int sel), .val (.ref aq1), .val (.int (1 : Int32)), .val (.int k1), .val (.int k2), .unset, .unset, .unset, .unset, .unset, .unset, .unset]) at_60 rfl rfl ?_
      refine Rn.iload (pc' := 64) at_62 rfl rfl ?_
      refine Rn.if_eq (pc' := 72) (pn := 67) at_64 (by decide) (by decide) rfl (fun cq71 => absurd cq71 (by decide)) (fun cq71 => ?_)
      refine Rn.lload (pc' := 69) at_67 rfl rfl ?_
      refine Rn.goto (pc' := 73) at_69 (by decide) (by decide) ?_
      refine Rn.lstore (pc' := 75) (Ls' := #[.val (.int k1), .val (.int k2), .val (.long v1), .second, .val (.long v2), .second, .val (.long w), .second, .val (.int sel), .val (.ref aq1), .val (.int (1 : Int32)), .val (.int k1), .val (.int k2), .val (.long v2), .second, .unset, .unset, .unset, .unset, .unset]) at_73 rfl rfl ?_
      refine Rn.aload (pc' := 77) at_75 rfl rfl rfl ?_
      refine Rn.iload (pc' := 79) at_77 rfl rfl ?_
      refine Rn.callV (pc' := 82) (argsL := [.int k1]) (a := aq1) (rest := []) (ct_fl20 Z a0 hw aq1 kk kb vv vb sz fs k1 k1 k2 v1 v2 hq24 nd M2 k1 (own_e20 k1 k2)) M2.1 (hw _ (List.mem_of_getElem? (i := 56) rfl)) (hw _ (List.mem_of_getElem? (i := 57) rfl)) (fun _ hZ => notFace_of_selects (args := #[]) (mvT hZ (hw _ (List.mem_of_getElem? (i := 59) rfl)))) (hw _ (List.mem_of_getElem? (i := 59) rfl)) (hw _ (List.mem_of_getElem? (i := 58) rfl)) (hw _ (List.mem_of_getElem? (i := 2) rfl)) (hw _ (List.mem_of_getElem? (i := 60) rfl)) (by decide) rfl rfl (lenOf pd_2 rfl) rfl at_79 rfl (Nat.le_of_ble_eq_true rfl) (Nat.le_of_ble_eq_true rfl) (Nat.le_of_ble_eq_true rfl) (Nat.le_of_ble_eq_true rfl) (fun _ z => nomatch z) (fun _ z => nomatch z) (fun vq72 hq73 Kq74 qq75 => ?_)
      obtain ⟨rfl, rfl⟩ := qq75
      simp only [Option.toList, List.cons_append, List.nil_append]
      refine Rn.istore (pc' := 84) (Ls' := #[.val (.int k1), .val (.int k2), .val (.long v1), .second, .val (.long v2), .second, .val (.long w), .second, .val (.int sel), .val (.ref aq1), .val (.int (1 : Int32)), .val (.int k1), .val (.int k2), .val (.long v2), .second, .val (.int (0 : Int32)), .unset, .unset, .unset, .unset]) at_82 rfl rfl ?_
      refine Rn.aload (pc' := 86) at_84 rfl rfl rfl ?_
      refine Rn.iload (pc' := 88) at_86 rfl rfl ?_
      refine Rn.lload (pc' := 90) at_88 rfl rfl ?_
      refine Rn.callV (pc' := 93) (argsL := [.int (0 : Int32), .long w]) (a := aq1) (rest := []) (ct_sv20 Z a0 hw aq1 kk kb vv vb sz fs k1 k1 k2 v1 v2 hq24 nd M2 w) M2.1 (hw _ (List.mem_of_getElem? (i := 68) rfl)) (hw _ (List.mem_of_getElem? (i := 69) rfl)) (fun _ hZ => notFace_of_selects (args := #[]) (mvT hZ (hw _ (List.mem_of_getElem? (i := 71) rfl)))) (hw _ (List.mem_of_getElem? (i := 71) rfl)) (hw _ (List.mem_of_getElem? (i := 70) rfl)) (hw _ (List.mem_of_getElem? (i := 2) rfl)) (hw _ (List.mem_of_getElem? (i := 72) rfl)) (by decide) rfl rfl (lenOf pd_6 rfl) rfl at_90 rfl (Nat.le_of_ble_eq_true rfl) (Nat.le_of_ble_eq_true rfl) (Nat.le_of_ble_eq_true rfl) (Nat.le_of_ble_eq_true rfl) (allS (Or.inr (Nat.le_trans hm g_vb)) all0) (allS Sf.no (all0)) (fun vq77 hq78 Kq79 qq80 => ?_)
      obtain ⟨rfl, Mq76⟩ := qq80
      simp only [Option.toList, List.cons_append, List.nil_append]
      refine Rn.aload (pc' := 95) at_93 rfl rfl rfl ?_
      refine Rn.iload (pc' := 97) at_95 rfl rfl ?_
      refine Rn.callV (pc' := 100) (argsL := [.int (0 : Int32)]) (a := aq1) (rest := []) (ct_gv20 Z a0 hw aq1 kk kb vv vb sz fs k1 k1 k2 w v2 hq78 nd Mq76 ) Mq76.1 (hw _ (List.mem_of_getElem? (i := 73) rfl)) (hw _ (List.mem_of_getElem? (i := 74) rfl)) (fun _ hZ => notFace_of_selects (args := #[]) (mvT hZ (hw _ (List.mem_of_getElem? (i := 76) rfl)))) (hw _ (List.mem_of_getElem? (i := 76) rfl)) (hw _ (List.mem_of_getElem? (i := 75) rfl)) (hw _ (List.mem_of_getElem? (i := 2) rfl)) (hw _ (List.mem_of_getElem? (i := 77) rfl)) (by decide) rfl rfl (lenOf pd_7 rfl) rfl at_97 rfl (Nat.le_of_ble_eq_true rfl) (Nat.le_of_ble_eq_true rfl) (Nat.le_of_ble_eq_true rfl) (Nat.le_of_ble_eq_true rfl) (fun _ z => nomatch z) (fun _ z => nomatch z) (fun vq81 hq82 Kq83 qq84 => ?_)
      obtain ⟨rfl, rfl⟩ := qq84
      simp only [Option.toList, List.cons_append, List.nil_append]
      refine Rn.lload (pc' := 102) at_100 rfl rfl ?_
      refine Rn.lcmp (pc' := 103) (v := (0 : Int32)) at_102 (own_cs _) rfl ?_
      refine Rn.if_ne (pc' := 110) (pn := 106) at_103 (by decide) (by decide) rfl (fun cq85 => absurd cq85 (by decide)) (fun cq85 => ?_)
      refine Rn.iconst (pc' := 107) (v := (1 : Int32)) at_106 rfl rfl ?_
      refine Rn.goto (pc' := 111) at_107 (by decide) (by decide) ?_
      refine Rn.istore (pc' := 113) (Ls' := #[.val (.int k1), .val (.int k2), .val (.long v1), .second, .val (.long v2), .second, .val (.long w), .second, .val (.int sel), .val (.ref aq1), .val (.int (1 : Int32)), .val (.int k1), .val (.int k2), .val (.long v2), .second, .val (.int (0 : Int32)), .val (.int (1 : Int32)), .unset, .unset, .unset]) at_111 rfl rfl ?_
      refine Rn.iload (pc' := 115) at_113 rfl rfl ?_
      refine Rn.if_eq (pc' := 134) (pn := 118) at_115 (by decide) (by decide) rfl (fun cq86 => absurd cq86 (by decide)) (fun cq86 => ?_)
      refine Rn.aload (pc' := 120) at_118 rfl rfl rfl ?_
      refine Rn.iload (pc' := 122) at_120 rfl rfl ?_
      refine Rn.callV (pc' := 125) (argsL := [.int (0 : Int32)]) (a := aq1) (rest := []) (ct_ke20 Z a0 hw aq1 kk kb vv vb sz fs k1 k1 k2 w v2 hq78 nd Mq76 ) Mq76.1 (hw _ (List.mem_of_getElem? (i := 78) rfl)) (hw _ (List.mem_of_getElem? (i := 79) rfl)) (fun _ hZ => notFace_of_selects (args := #[]) (mvT hZ (hw _ (List.mem_of_getElem? (i := 81) rfl)))) (hw _ (List.mem_of_getElem? (i := 81) rfl)) (hw _ (List.mem_of_getElem? (i := 80) rfl)) (hw _ (List.mem_of_getElem? (i := 2) rfl)) (hw _ (List.mem_of_getElem? (i := 82) rfl)) (by decide) rfl rfl (lenOf pd_2 rfl) rfl at_122 rfl (Nat.le_of_ble_eq_true rfl) (Nat.le_of_ble_eq_true rfl) (Nat.le_of_ble_eq_true rfl) (Nat.le_of_ble_eq_true rfl) (fun _ z => nomatch z) (fun _ z => nomatch z) (fun vq87 hq88 Kq89 qq90 => ?_)
      obtain ⟨rfl, rfl⟩ := qq90
      simp only [Option.toList, List.cons_append, List.nil_append]
      refine Rn.iload (pc' := 127) at_125 rfl rfl ?_
      refine Rn.icmp_ne (pc' := 134) (pn := 130) at_127 (by decide) (by decide) rfl (fun cq91 => absurd rfl cq91) (fun cq91 => ?_)
      refine Rn.iconst (pc' := 131) (v := (1 : Int32)) at_130 rfl rfl ?_
      refine Rn.goto (pc' := 135) at_131 (by decide) (by decide) ?_
      refine Rn.istore (pc' := 137) (Ls' := #[.val (.int k1), .val (.int k2), .val (.long v1), .second, .val (.long v2), .second, .val (.long w), .second, .val (.int sel), .val (.ref aq1), .val (.int (1 : Int32)), .val (.int k1), .val (.int k2), .val (.long v2), .second, .val (.int (0 : Int32)), .val (.int (1 : Int32)), .unset, .unset, .unset]) at_135 rfl rfl ?_
      refine Rn.iloadN (pc' := 138) at_137 rfl rfl ?_
      refine Rn.iloadN (pc' := 139) at_138 rfl rfl ?_
      refine Rn.icmp_ne (pc' := 146) (pn := 142) at_139 (by decide) (by decide) rfl (fun cq92 => ?_) (fun cq92 => absurd cq92 (own_ne hlt))
      refine Rn.iconst (pc' := 147) (v := (2 : Int32)) at_146 rfl rfl ?_
      refine Rn.istore (pc' := 149) (Ls' := #[.val (.int k1), .val (.int k2), .val (.long v1), .second, .val (.long v2), .second, .val (.long w), .second, .val (.int sel), .val (.ref aq1), .val (.int (1 : Int32)), .val (.int k1), .val (.int k2), .val (.long v2), .second, .val (.int (0 : Int32)), .val (.int (1 : Int32)), .val (.int (2 : Int32)), .unset, .unset]) at_147 rfl rfl ?_
      refine Rn.iload (pc' := 151) at_149 rfl rfl ?_
      refine Rn.if_eq (pc' := 168) (pn := 154) at_151 (by decide) (by decide) rfl (fun cq93 => absurd cq93 (by decide)) (fun cq93 => ?_)
      refine Rn.aload (pc' := 156) at_154 rfl rfl rfl ?_
      refine Rn.callV (pc' := 159) (argsL := []) (a := aq1) (rest := []) (ct_size2 Z a0 hw aq1 kk kb vv vb sz fs k1 k1 k2 w v2 hq78 nd Mq76 ) Mq76.1 (hw _ (List.mem_of_getElem? (i := 83) rfl)) (hw _ (List.mem_of_getElem? (i := 84) rfl)) (fun _ hZ => notFace_of_selects (args := #[]) (mvT hZ (hw _ (List.mem_of_getElem? (i := 86) rfl)))) (hw _ (List.mem_of_getElem? (i := 86) rfl)) (hw _ (List.mem_of_getElem? (i := 85) rfl)) (hw _ (List.mem_of_getElem? (i := 2) rfl)) (hw _ (List.mem_of_getElem? (i := 87) rfl)) (by decide) rfl rfl (lenOf pd_8 rfl) rfl at_156 rfl (Nat.le_of_ble_eq_true rfl) (Nat.le_of_ble_eq_true rfl) (Nat.le_of_ble_eq_true rfl) (Nat.le_of_ble_eq_true rfl) (fun _ z => nomatch z) (fun _ z => nomatch z) (fun vq94 hq95 Kq96 qq97 => ?_)
      obtain ⟨rfl, rfl⟩ := qq97
      simp only [Option.toList, List.cons_append, List.nil_append]
      refine Rn.iload (pc' := 161) at_159 rfl rfl ?_
      refine Rn.icmp_ne (pc' := 168) (pn := 164) at_161 (by decide) (by decide) rfl (fun cq98 => absurd cq98 (by decide)) (fun cq98 => ?_)
      refine Rn.iconst (pc' := 165) (v := (1 : Int32)) at_164 rfl rfl ?_
      refine Rn.goto (pc' := 169) at_165 (by decide) (by decide) ?_
      refine Rn.istore (pc' := 171) (Ls' := #[.val (.int k1), .val (.int k2), .val (.long v1), .second, .val (.long v2), .second, .val (.long w), .second, .val (.int sel), .val (.ref aq1), .val (.int (1 : Int32)), .val (.int k1), .val (.int k2), .val (.long v2), .second, .val (.int (0 : Int32)), .val (.int (1 : Int32)), .val (.int (2 : Int32)), .unset, .unset]) at_169 rfl rfl ?_
      refine Rn.iloadN (pc' := 172) at_171 rfl rfl ?_
      refine Rn.iloadN (pc' := 173) at_172 rfl rfl ?_
      refine Rn.icmp_ne (pc' := 181) (pn := 176) at_173 (by decide) (by decide) rfl (fun cq99 => ?_) (fun cq99 => absurd cq99 (own_ne hlt))
      refine Rn.lload (pc' := 183) at_181 rfl rfl ?_
      refine Rn.lstore (pc' := 185) (Ls' := #[.val (.int k1), .val (.int k2), .val (.long v1), .second, .val (.long v2), .second, .val (.long w), .second, .val (.int sel), .val (.ref aq1), .val (.int (1 : Int32)), .val (.int k1), .val (.int k2), .val (.long v2), .second, .val (.int (0 : Int32)), .val (.int (1 : Int32)), .val (.int (2 : Int32)), .val (.long v2), .second]) at_183 rfl rfl ?_
      refine Rn.iload (pc' := 187) at_185 rfl rfl ?_
      refine Rn.if_eq (pc' := 212) (pn := 190) at_187 (by decide) (by decide) rfl (fun cq100 => absurd cq100 (by decide)) (fun cq100 => ?_)
      refine Rn.aload (pc' := 192) at_190 rfl rfl rfl ?_
      refine Rn.aload (pc' := 194) at_192 rfl rfl rfl ?_
      refine Rn.iload (pc' := 196) at_194 rfl rfl ?_
      refine Rn.callV (pc' := 199) (argsL := [.int k2]) (a := aq1) (rest := [.ref aq1]) (ct_fl21 Z a0 hw aq1 kk kb vv vb sz fs k1 k1 k2 w v2 hq78 nd Mq76 k2 (own_e21 hlt)) Mq76.1 (hw _ (List.mem_of_getElem? (i := 56) rfl)) (hw _ (List.mem_of_getElem? (i := 57) rfl)) (fun _ hZ => notFace_of_selects (args := #[]) (mvT hZ (hw _ (List.mem_of_getElem? (i := 59) rfl)))) (hw _ (List.mem_of_getElem? (i := 59) rfl)) (hw _ (List.mem_of_getElem? (i := 58) rfl)) (hw _ (List.mem_of_getElem? (i := 2) rfl)) (hw _ (List.mem_of_getElem? (i := 60) rfl)) (by decide) rfl rfl (lenOf pd_2 rfl) rfl at_196 rfl (Nat.le_of_ble_eq_true rfl) (Nat.le_of_ble_eq_true rfl) (Nat.le_of_ble_eq_true rfl) (Nat.le_of_ble_eq_true rfl) (fun _ z => nomatch z) (fun _ z => nomatch z) (fun vq101 hq102 Kq103 qq104 => ?_)
      obtain ⟨rfl, rfl⟩ := qq104
      simp only [Option.toList, List.cons_append, List.nil_append]
      refine Rn.callV (pc' := 202) (argsL := [.int (1 : Int32)]) (a := aq1) (rest := []) (ct_gv21 Z a0 hw aq1 kk kb vv vb sz fs k1 k1 k2 w v2 hq78 nd Mq76 ) Mq76.1 (hw _ (List.mem_of_getElem? (i := 73) rfl)) (hw _ (List.mem_of_getElem? (i := 74) rfl)) (fun _ hZ => notFace_of_selects (args := #[]) (mvT hZ (hw _ (List.mem_of_getElem? (i := 76) rfl)))) (hw _ (List.mem_of_getElem? (i := 76) rfl)) (hw _ (List.mem_of_getElem? (i := 75) rfl)) (hw _ (List.mem_of_getElem? (i := 2) rfl)) (hw _ (List.mem_of_getElem? (i := 77) rfl)) (by decide) rfl rfl (lenOf pd_7 rfl) rfl at_199 rfl (Nat.le_of_ble_eq_true rfl) (Nat.le_of_ble_eq_true rfl) (Nat.le_of_ble_eq_true rfl) (Nat.le_of_ble_eq_true rfl) (fun _ z => nomatch z) (fun _ z => nomatch z) (fun vq105 hq106 Kq107 qq108 => ?_)
      obtain ⟨rfl, rfl⟩ := qq108
      simp only [Option.toList, List.cons_append, List.nil_append]
      refine Rn.lload (pc' := 204) at_202 rfl rfl ?_
      refine Rn.lcmp (pc' := 205) (v := (0 : Int32)) at_204 (own_cs _) rfl ?_
      refine Rn.if_ne (pc' := 212) (pn := 208) at_205 (by decide) (by decide) rfl (fun cq109 => absurd cq109 (by decide)) (fun cq109 => ?_)
      refine Rn.iconst (pc' := 209) (v := (1 : Int32)) at_208 rfl rfl ?_
      refine Rn.goto (pc' := 213) at_209 (by decide) (by decide) ?_
      refine Rn.istore (pc' := 215) (Ls' := #[.val (.int k1), .val (.int k2), .val (.long v1), .second, .val (.long v2), .second, .val (.long w), .second, .val (.int sel), .val (.ref aq1), .val (.int (1 : Int32)), .val (.int k1), .val (.int k2), .val (.long v2), .second, .val (.int (0 : Int32)), .val (.int (1 : Int32)), .val (.int (2 : Int32)), .val (.long v2), .second]) at_213 rfl rfl ?_
      refine Rn.iload (pc' := 217) at_215 rfl rfl ?_
      refine Rn.retN (t := .boolean) rfl (by simp) at_217 (Nat.le_of_ble_eq_true rfl) (Nat.le_of_ble_eq_true rfl) ?_
      rfl
  ·
    refine Rn.callV (pc' := 24) (argsL := [.int k2, .long v2]) (a := aq1) (rest := []) (ct_put1b Z a0 hw aq1 kk kb vv vb sz fs k1 k1 v1 hq20 nd M1 k2 v2 (own_e1b hgt)) M1.1 (hw _ (List.mem_of_getElem? (i := 27) rfl)) (hw _ (List.mem_of_getElem? (i := 28) rfl)) (fun _ hZ => notFace_of_selects (args := #[]) (mvT hZ (hw _ (List.mem_of_getElem? (i := 30) rfl)))) (hw _ (List.mem_of_getElem? (i := 30) rfl)) (hw _ (List.mem_of_getElem? (i := 29) rfl)) (hw _ (List.mem_of_getElem? (i := 2) rfl)) (hw _ (List.mem_of_getElem? (i := 31) rfl)) (by decide) rfl rfl (lenOf pd_6 rfl) rfl at_21 rfl (Nat.le_of_ble_eq_true rfl) (Nat.le_of_ble_eq_true rfl) (Nat.le_of_ble_eq_true rfl) (Nat.le_of_ble_eq_true rfl) (allS (Or.inr gq4) (allS (Or.inr (Nat.le_trans hm g_kb)) (allS (Or.inr (Nat.le_trans hm g_vb)) (allS (Or.inr (Nat.le_trans hm g_sz)) (allS (Or.inr (Nat.le_trans hm g_fs)) (all0)))))) (allS Sf.no (allS Sf.no (allS Sf.no (allS Sf.no (allS Sf.no (all0)))))) (fun vq110 hq111 Kq112 qq113 => ?_)
    obtain ⟨rfl, M2⟩ := qq113
    simp only [Option.toList, List.cons_append, List.nil_append]
    refine Rn.iload (pc' := 26) at_24 rfl rfl ?_
    refine Rn.iconst (pc' := 27) (v := (1 : Int32)) at_26 rfl rfl ?_
    refine Rn.iand (pc' := 28) (v := (sel &&& (1 : Int32))) at_27 rfl rfl ?_
    refine Rn.if_ne (pc' := 35) (pn := 31) at_28 (by decide) (by decide) rfl (fun cq114 => ?_) (fun cq114 => ?_)
    ·
      refine Rn.iconst (pc' := 36) (v := (0 : Int32)) at_35 rfl rfl ?_
      refine Rn.istore (pc' := 38) (Ls' := #[.val (.int k1), .val (.int k2), .val (.long v1), .second, .val (.long v2), .second, .val (.long w), .second, .val (.int sel), .val (.ref aq1), .val (.int (0 : Int32)), .unset, .unset, .unset, .unset, .unset, .unset, .unset, .unset, .unset]) at_36 rfl rfl ?_
      refine Rn.iload (pc' := 40) at_38 rfl rfl ?_
      refine Rn.if_eq (pc' := 47) (pn := 43) at_40 (by decide) (by decide) rfl (fun cq115 => ?_) (fun cq115 => absurd cq115 (by decide))
      refine Rn.iloadN (pc' := 48) at_47 rfl rfl ?_
      refine Rn.istore (pc' := 50) (Ls' := #[.val (.int k1), .val (.int k2), .val (.long v1), .second, .val (.long v2), .second, .val (.long w), .second, .val (.int sel), .val (.ref aq1), .val (.int (0 : Int32)), .val (.int k2), .unset, .unset, .unset, .unset, .unset, .unset, .unset, .unset]) at_48 rfl rfl ?_
      refine Rn.iload (pc' := 52) at_50 rfl rfl ?_
      refine Rn.if_eq (pc' := 59) (pn := 55) at_52 (by decide) (by decide) rfl (fun cq116 => ?_) (fun cq116 => absurd cq116 (by decide))
      refine Rn.iloadN (pc' := 60) at_59 rfl rfl ?_
      refine Rn.istore (pc' := 62) (Ls' := #[.val (.int k1), .val (.int k2), .val (.long v1), .second, .val (.long v2), .second, .val (.long w), .second, .val (.int sel), .val (.ref aq1), .val (.int (0 : Int32)), .val (.int k2), .val (.int k1), .unset, .unset, .unset, .unset, .unset, .unset, .unset]) at_60 rfl rfl ?_
      refine Rn.iload (pc' := 64) at_62 rfl rfl ?_
      refine Rn.if_eq (pc' := 72) (pn := 67) at_64 (by decide) (by decide) rfl (fun cq117 => ?_) (fun cq117 => absurd cq117 (by decide))
      refine Rn.lloadN (pc' := 73) at_72 rfl rfl ?_
      refine Rn.lstore (pc' := 75) (Ls' := #[.val (.int k1), .val (.int k2), .val (.long v1), .second, .val (.long v2), .second, .val (.long w), .second, .val (.int sel), .val (.ref aq1), .val (.int (0 : Int32)), .val (.int k2), .val (.int k1), .val (.long v1), .second, .unset, .unset, .unset, .unset, .unset]) at_73 rfl rfl ?_
      refine Rn.aload (pc' := 77) at_75 rfl rfl rfl ?_
      refine Rn.iload (pc' := 79) at_77 rfl rfl ?_
      refine Rn.callV (pc' := 82) (argsL := [.int k2]) (a := aq1) (rest := []) (ct_fl20 Z a0 hw aq1 kk kb vv vb sz fs k2 k2 k1 v2 v1 hq111 nd M2 k2 (own_e20 k2 k1)) M2.1 (hw _ (List.mem_of_getElem? (i := 56) rfl)) (hw _ (List.mem_of_getElem? (i := 57) rfl)) (fun _ hZ => notFace_of_selects (args := #[]) (mvT hZ (hw _ (List.mem_of_getElem? (i := 59) rfl)))) (hw _ (List.mem_of_getElem? (i := 59) rfl)) (hw _ (List.mem_of_getElem? (i := 58) rfl)) (hw _ (List.mem_of_getElem? (i := 2) rfl)) (hw _ (List.mem_of_getElem? (i := 60) rfl)) (by decide) rfl rfl (lenOf pd_2 rfl) rfl at_79 rfl (Nat.le_of_ble_eq_true rfl) (Nat.le_of_ble_eq_true rfl) (Nat.le_of_ble_eq_true rfl) (Nat.le_of_ble_eq_true rfl) (fun _ z => nomatch z) (fun _ z => nomatch z) (fun vq118 hq119 Kq120 qq121 => ?_)
      obtain ⟨rfl, rfl⟩ := qq121
      simp only [Option.toList, List.cons_append, List.nil_append]
      refine Rn.istore (pc' := 84) (Ls' := #[.val (.int k1), .val (.int k2), .val (.long v1), .second, .val (.long v2), .second, .val (.long w), .second, .val (.int sel), .val (.ref aq1), .val (.int (0 : Int32)), .val (.int k2), .val (.int k1), .val (.long v1), .second, .val (.int (0 : Int32)), .unset, .unset, .unset, .unset]) at_82 rfl rfl ?_
      refine Rn.aload (pc' := 86) at_84 rfl rfl rfl ?_
      refine Rn.iload (pc' := 88) at_86 rfl rfl ?_
      refine Rn.lload (pc' := 90) at_88 rfl rfl ?_
      refine Rn.callV (pc' := 93) (argsL := [.int (0 : Int32), .long w]) (a := aq1) (rest := []) (ct_sv20 Z a0 hw aq1 kk kb vv vb sz fs k2 k2 k1 v2 v1 hq111 nd M2 w) M2.1 (hw _ (List.mem_of_getElem? (i := 68) rfl)) (hw _ (List.mem_of_getElem? (i := 69) rfl)) (fun _ hZ => notFace_of_selects (args := #[]) (mvT hZ (hw _ (List.mem_of_getElem? (i := 71) rfl)))) (hw _ (List.mem_of_getElem? (i := 71) rfl)) (hw _ (List.mem_of_getElem? (i := 70) rfl)) (hw _ (List.mem_of_getElem? (i := 2) rfl)) (hw _ (List.mem_of_getElem? (i := 72) rfl)) (by decide) rfl rfl (lenOf pd_6 rfl) rfl at_90 rfl (Nat.le_of_ble_eq_true rfl) (Nat.le_of_ble_eq_true rfl) (Nat.le_of_ble_eq_true rfl) (Nat.le_of_ble_eq_true rfl) (allS (Or.inr (Nat.le_trans hm g_vb)) all0) (allS Sf.no (all0)) (fun vq123 hq124 Kq125 qq126 => ?_)
      obtain ⟨rfl, Mq122⟩ := qq126
      simp only [Option.toList, List.cons_append, List.nil_append]
      refine Rn.aload (pc' := 95) at_93 rfl rfl rfl ?_
      refine Rn.iload (pc' := 97) at_95 rfl rfl ?_
      refine Rn.callV (pc' := 100) (argsL := [.int (0 : Int32)]) (a := aq1) (rest := []) (ct_gv20 Z a0 hw aq1 kk kb vv vb sz fs k2 k2 k1 w v1 hq124 nd Mq122 ) Mq122.1 (hw _ (List.mem_of_getElem? (i := 73) rfl)) (hw _ (List.mem_of_getElem? (i := 74) rfl)) (fun _ hZ => notFace_of_selects (args := #[]) (mvT hZ (hw _ (List.mem_of_getElem? (i := 76) rfl)))) (hw _ (List.mem_of_getElem? (i := 76) rfl)) (hw _ (List.mem_of_getElem? (i := 75) rfl)) (hw _ (List.mem_of_getElem? (i := 2) rfl)) (hw _ (List.mem_of_getElem? (i := 77) rfl)) (by decide) rfl rfl (lenOf pd_7 rfl) rfl at_97 rfl (Nat.le_of_ble_eq_true rfl) (Nat.le_of_ble_eq_true rfl) (Nat.le_of_ble_eq_true rfl) (Nat.le_of_ble_eq_true rfl) (fun _ z => nomatch z) (fun _ z => nomatch z) (fun vq127 hq128 Kq129 qq130 => ?_)
      obtain ⟨rfl, rfl⟩ := qq130
      simp only [Option.toList, List.cons_append, List.nil_append]
      refine Rn.lload (pc' := 102) at_100 rfl rfl ?_
      refine Rn.lcmp (pc' := 103) (v := (0 : Int32)) at_102 (own_cs _) rfl ?_
      refine Rn.if_ne (pc' := 110) (pn := 106) at_103 (by decide) (by decide) rfl (fun cq131 => absurd cq131 (by decide)) (fun cq131 => ?_)
      refine Rn.iconst (pc' := 107) (v := (1 : Int32)) at_106 rfl rfl ?_
      refine Rn.goto (pc' := 111) at_107 (by decide) (by decide) ?_
      refine Rn.istore (pc' := 113) (Ls' := #[.val (.int k1), .val (.int k2), .val (.long v1), .second, .val (.long v2), .second, .val (.long w), .second, .val (.int sel), .val (.ref aq1), .val (.int (0 : Int32)), .val (.int k2), .val (.int k1), .val (.long v1), .second, .val (.int (0 : Int32)), .val (.int (1 : Int32)), .unset, .unset, .unset]) at_111 rfl rfl ?_
      refine Rn.iload (pc' := 115) at_113 rfl rfl ?_
      refine Rn.if_eq (pc' := 134) (pn := 118) at_115 (by decide) (by decide) rfl (fun cq132 => absurd cq132 (by decide)) (fun cq132 => ?_)
      refine Rn.aload (pc' := 120) at_118 rfl rfl rfl ?_
      refine Rn.iload (pc' := 122) at_120 rfl rfl ?_
      refine Rn.callV (pc' := 125) (argsL := [.int (0 : Int32)]) (a := aq1) (rest := []) (ct_ke20 Z a0 hw aq1 kk kb vv vb sz fs k2 k2 k1 w v1 hq124 nd Mq122 ) Mq122.1 (hw _ (List.mem_of_getElem? (i := 78) rfl)) (hw _ (List.mem_of_getElem? (i := 79) rfl)) (fun _ hZ => notFace_of_selects (args := #[]) (mvT hZ (hw _ (List.mem_of_getElem? (i := 81) rfl)))) (hw _ (List.mem_of_getElem? (i := 81) rfl)) (hw _ (List.mem_of_getElem? (i := 80) rfl)) (hw _ (List.mem_of_getElem? (i := 2) rfl)) (hw _ (List.mem_of_getElem? (i := 82) rfl)) (by decide) rfl rfl (lenOf pd_2 rfl) rfl at_122 rfl (Nat.le_of_ble_eq_true rfl) (Nat.le_of_ble_eq_true rfl) (Nat.le_of_ble_eq_true rfl) (Nat.le_of_ble_eq_true rfl) (fun _ z => nomatch z) (fun _ z => nomatch z) (fun vq133 hq134 Kq135 qq136 => ?_)
      obtain ⟨rfl, rfl⟩ := qq136
      simp only [Option.toList, List.cons_append, List.nil_append]
      refine Rn.iload (pc' := 127) at_125 rfl rfl ?_
      refine Rn.icmp_ne (pc' := 134) (pn := 130) at_127 (by decide) (by decide) rfl (fun cq137 => absurd rfl cq137) (fun cq137 => ?_)
      refine Rn.iconst (pc' := 131) (v := (1 : Int32)) at_130 rfl rfl ?_
      refine Rn.goto (pc' := 135) at_131 (by decide) (by decide) ?_
      refine Rn.istore (pc' := 137) (Ls' := #[.val (.int k1), .val (.int k2), .val (.long v1), .second, .val (.long v2), .second, .val (.long w), .second, .val (.int sel), .val (.ref aq1), .val (.int (0 : Int32)), .val (.int k2), .val (.int k1), .val (.long v1), .second, .val (.int (0 : Int32)), .val (.int (1 : Int32)), .unset, .unset, .unset]) at_135 rfl rfl ?_
      refine Rn.iloadN (pc' := 138) at_137 rfl rfl ?_
      refine Rn.iloadN (pc' := 139) at_138 rfl rfl ?_
      refine Rn.icmp_ne (pc' := 146) (pn := 142) at_139 (by decide) (by decide) rfl (fun cq138 => ?_) (fun cq138 => absurd cq138.symm (own_ne hgt))
      refine Rn.iconst (pc' := 147) (v := (2 : Int32)) at_146 rfl rfl ?_
      refine Rn.istore (pc' := 149) (Ls' := #[.val (.int k1), .val (.int k2), .val (.long v1), .second, .val (.long v2), .second, .val (.long w), .second, .val (.int sel), .val (.ref aq1), .val (.int (0 : Int32)), .val (.int k2), .val (.int k1), .val (.long v1), .second, .val (.int (0 : Int32)), .val (.int (1 : Int32)), .val (.int (2 : Int32)), .unset, .unset]) at_147 rfl rfl ?_
      refine Rn.iload (pc' := 151) at_149 rfl rfl ?_
      refine Rn.if_eq (pc' := 168) (pn := 154) at_151 (by decide) (by decide) rfl (fun cq139 => absurd cq139 (by decide)) (fun cq139 => ?_)
      refine Rn.aload (pc' := 156) at_154 rfl rfl rfl ?_
      refine Rn.callV (pc' := 159) (argsL := []) (a := aq1) (rest := []) (ct_size2 Z a0 hw aq1 kk kb vv vb sz fs k2 k2 k1 w v1 hq124 nd Mq122 ) Mq122.1 (hw _ (List.mem_of_getElem? (i := 83) rfl)) (hw _ (List.mem_of_getElem? (i := 84) rfl)) (fun _ hZ => notFace_of_selects (args := #[]) (mvT hZ (hw _ (List.mem_of_getElem? (i := 86) rfl)))) (hw _ (List.mem_of_getElem? (i := 86) rfl)) (hw _ (List.mem_of_getElem? (i := 85) rfl)) (hw _ (List.mem_of_getElem? (i := 2) rfl)) (hw _ (List.mem_of_getElem? (i := 87) rfl)) (by decide) rfl rfl (lenOf pd_8 rfl) rfl at_156 rfl (Nat.le_of_ble_eq_true rfl) (Nat.le_of_ble_eq_true rfl) (Nat.le_of_ble_eq_true rfl) (Nat.le_of_ble_eq_true rfl) (fun _ z => nomatch z) (fun _ z => nomatch z) (fun vq140 hq141 Kq142 qq143 => ?_)
      obtain ⟨rfl, rfl⟩ := qq143
      simp only [Option.toList, List.cons_append, List.nil_append]
      refine Rn.iload (pc' := 161) at_159 rfl rfl ?_
      refine Rn.icmp_ne (pc' := 168) (pn := 164) at_161 (by decide) (by decide) rfl (fun cq144 => absurd cq144 (by decide)) (fun cq144 => ?_)
      refine Rn.iconst (pc' := 165) (v := (1 : Int32)) at_164 rfl rfl ?_
      refine Rn.goto (pc' := 169) at_165 (by decide) (by decide) ?_
      refine Rn.istore (pc' := 171) (Ls' := #[.val (.int k1), .val (.int k2), .val (.long v1), .second, .val (.long v2), .second, .val (.long w), .second, .val (.int sel), .val (.ref aq1), .val (.int (0 : Int32)), .val (.int k2), .val (.int k1), .val (.long v1), .second, .val (.int (0 : Int32)), .val (.int (1 : Int32)), .val (.int (2 : Int32)), .unset, .unset]) at_169 rfl rfl ?_
      refine Rn.iloadN (pc' := 172) at_171 rfl rfl ?_
      refine Rn.iloadN (pc' := 173) at_172 rfl rfl ?_
      refine Rn.icmp_ne (pc' := 181) (pn := 176) at_173 (by decide) (by decide) rfl (fun cq145 => ?_) (fun cq145 => absurd cq145.symm (own_ne hgt))
      refine Rn.lload (pc' := 183) at_181 rfl rfl ?_
      refine Rn.lstore (pc' := 185) (Ls' := #[.val (.int k1), .val (.int k2), .val (.long v1), .second, .val (.long v2), .second, .val (.long w), .second, .val (.int sel), .val (.ref aq1), .val (.int (0 : Int32)), .val (.int k2), .val (.int k1), .val (.long v1), .second, .val (.int (0 : Int32)), .val (.int (1 : Int32)), .val (.int (2 : Int32)), .val (.long v1), .second]) at_183 rfl rfl ?_
      refine Rn.iload (pc' := 187) at_185 rfl rfl ?_
      refine Rn.if_eq (pc' := 212) (pn := 190) at_187 (by decide) (by decide) rfl (fun cq146 => absurd cq146 (by decide)) (fun cq146 => ?_)
      refine Rn.aload (pc' := 192) at_190 rfl rfl rfl ?_
      refine Rn.aload (pc' := 194) at_192 rfl rfl rfl ?_
      refine Rn.iload (pc' := 196) at_194 rfl rfl ?_
      refine Rn.callV (pc' := 199) (argsL := [.int k1]) (a := aq1) (rest := [.ref aq1]) (ct_fl21 Z a0 hw aq1 kk kb vv vb sz fs k2 k2 k1 w v1 hq124 nd Mq122 k1 (own_e21 hgt)) Mq122.1 (hw _ (List.mem_of_getElem? (i := 56) rfl)) (hw _ (List.mem_of_getElem? (i := 57) rfl)) (fun _ hZ => notFace_of_selects (args := #[]) (mvT hZ (hw _ (List.mem_of_getElem? (i := 59) rfl)))) (hw _ (List.mem_of_getElem? (i := 59) rfl)) (hw _ (List.mem_of_getElem? (i := 58) rfl)) (hw _ (List.mem_of_getElem? (i := 2) rfl)) (hw _ (List.mem_of_getElem? (i := 60) rfl)) (by decide) rfl rfl (lenOf pd_2 rfl) rfl at_196 rfl (Nat.le_of_ble_eq_true rfl) (Nat.le_of_ble_eq_true rfl) (Nat.le_of_ble_eq_true rfl) (Nat.le_of_ble_eq_true rfl) (fun _ z => nomatch z) (fun _ z => nomatch z) (fun vq147 hq148 Kq149 qq150 => ?_)
      obtain ⟨rfl, rfl⟩ := qq150
      simp only [Option.toList, List.cons_append, List.nil_append]
      refine Rn.callV (pc' := 202) (argsL := [.int (1 : Int32)]) (a := aq1) (rest := []) (ct_gv21 Z a0 hw aq1 kk kb vv vb sz fs k2 k2 k1 w v1 hq124 nd Mq122 ) Mq122.1 (hw _ (List.mem_of_getElem? (i := 73) rfl)) (hw _ (List.mem_of_getElem? (i := 74) rfl)) (fun _ hZ => notFace_of_selects (args := #[]) (mvT hZ (hw _ (List.mem_of_getElem? (i := 76) rfl)))) (hw _ (List.mem_of_getElem? (i := 76) rfl)) (hw _ (List.mem_of_getElem? (i := 75) rfl)) (hw _ (List.mem_of_getElem? (i := 2) rfl)) (hw _ (List.mem_of_getElem? (i := 77) rfl)) (by decide) rfl rfl (lenOf pd_7 rfl) rfl at_199 rfl (Nat.le_of_ble_eq_true rfl) (Nat.le_of_ble_eq_true rfl) (Nat.le_of_ble_eq_true rfl) (Nat.le_of_ble_eq_true rfl) (fun _ z => nomatch z) (fun _ z => nomatch z) (fun vq151 hq152 Kq153 qq154 => ?_)
      obtain ⟨rfl, rfl⟩ := qq154
      simp only [Option.toList, List.cons_append, List.nil_append]
      refine Rn.lload (pc' := 204) at_202 rfl rfl ?_
      refine Rn.lcmp (pc' := 205) (v := (0 : Int32)) at_204 (own_cs _) rfl ?_
      refine Rn.if_ne (pc' := 212) (pn := 208) at_205 (by decide) (by decide) rfl (fun cq155 => absurd cq155 (by decide)) (fun cq155 => ?_)
      refine Rn.iconst (pc' := 209) (v := (1 : Int32)) at_208 rfl rfl ?_
      refine Rn.goto (pc' := 213) at_209 (by decide) (by decide) ?_
      refine Rn.istore (pc' := 215) (Ls' := #[.val (.int k1), .val (.int k2), .val (.long v1), .second, .val (.long v2), .second, .val (.long w), .second, .val (.int sel), .val (.ref aq1), .val (.int (0 : Int32)), .val (.int k2), .val (.int k1), .val (.long v1), .second, .val (.int (0 : Int32)), .val (.int (1 : Int32)), .val (.int (2 : Int32)), .val (.long v1), .second]) at_213 rfl rfl ?_
      refine Rn.iload (pc' := 217) at_215 rfl rfl ?_
      refine Rn.retN (t := .boolean) rfl (by simp) at_217 (Nat.le_of_ble_eq_true rfl) (Nat.le_of_ble_eq_true rfl) ?_
      rfl
    ·
      refine Rn.iconst (pc' := 32) (v := (1 : Int32)) at_31 rfl rfl ?_
      refine Rn.goto (pc' := 36) at_32 (by decide) (by decide) ?_
      refine Rn.istore (pc' := 38) (Ls' := #[.val (.int k1), .val (.int k2), .val (.long v1), .second, .val (.long v2), .second, .val (.long w), .second, .val (.int sel), .val (.ref aq1), .val (.int (1 : Int32)), .unset, .unset, .unset, .unset, .unset, .unset, .unset, .unset, .unset]) at_36 rfl rfl ?_
      refine Rn.iload (pc' := 40) at_38 rfl rfl ?_
      refine Rn.if_eq (pc' := 47) (pn := 43) at_40 (by decide) (by decide) rfl (fun cq156 => absurd cq156 (by decide)) (fun cq156 => ?_)
      refine Rn.iloadN (pc' := 44) at_43 rfl rfl ?_
      refine Rn.goto (pc' := 48) at_44 (by decide) (by decide) ?_
      refine Rn.istore (pc' := 50) (Ls' := #[.val (.int k1), .val (.int k2), .val (.long v1), .second, .val (.long v2), .second, .val (.long w), .second, .val (.int sel), .val (.ref aq1), .val (.int (1 : Int32)), .val (.int k1), .unset, .unset, .unset, .unset, .unset, .unset, .unset, .unset]) at_48 rfl rfl ?_
      refine Rn.iload (pc' := 52) at_50 rfl rfl ?_
      refine Rn.if_eq (pc' := 59) (pn := 55) at_52 (by decide) (by decide) rfl (fun cq157 => absurd cq157 (by decide)) (fun cq157 => ?_)
      refine Rn.iloadN (pc' := 56) at_55 rfl rfl ?_
      refine Rn.goto (pc' := 60) at_56 (by decide) (by decide) ?_
      refine Rn.istore (pc' := 62) (Ls' := #[.val (.int k1), .val (.int k2), .val (.long v1), .second, .val (.long v2), .second, .val (.long w), .second, .val (.int sel), .val (.ref aq1), .val (.int (1 : Int32)), .val (.int k1), .val (.int k2), .unset, .unset, .unset, .unset, .unset, .unset, .unset]) at_60 rfl rfl ?_
      refine Rn.iload (pc' := 64) at_62 rfl rfl ?_
      refine Rn.if_eq (pc' := 72) (pn := 67) at_64 (by decide) (by decide) rfl (fun cq158 => absurd cq158 (by decide)) (fun cq158 => ?_)
      refine Rn.lload (pc' := 69) at_67 rfl rfl ?_
      refine Rn.goto (pc' := 73) at_69 (by decide) (by decide) ?_
      refine Rn.lstore (pc' := 75) (Ls' := #[.val (.int k1), .val (.int k2), .val (.long v1), .second, .val (.long v2), .second, .val (.long w), .second, .val (.int sel), .val (.ref aq1), .val (.int (1 : Int32)), .val (.int k1), .val (.int k2), .val (.long v2), .second, .unset, .unset, .unset, .unset, .unset]) at_73 rfl rfl ?_
      refine Rn.aload (pc' := 77) at_75 rfl rfl rfl ?_
      refine Rn.iload (pc' := 79) at_77 rfl rfl ?_
      refine Rn.callV (pc' := 82) (argsL := [.int k1]) (a := aq1) (rest := []) (ct_fl21 Z a0 hw aq1 kk kb vv vb sz fs k2 k2 k1 v2 v1 hq111 nd M2 k1 (own_e21 hgt)) M2.1 (hw _ (List.mem_of_getElem? (i := 56) rfl)) (hw _ (List.mem_of_getElem? (i := 57) rfl)) (fun _ hZ => notFace_of_selects (args := #[]) (mvT hZ (hw _ (List.mem_of_getElem? (i := 59) rfl)))) (hw _ (List.mem_of_getElem? (i := 59) rfl)) (hw _ (List.mem_of_getElem? (i := 58) rfl)) (hw _ (List.mem_of_getElem? (i := 2) rfl)) (hw _ (List.mem_of_getElem? (i := 60) rfl)) (by decide) rfl rfl (lenOf pd_2 rfl) rfl at_79 rfl (Nat.le_of_ble_eq_true rfl) (Nat.le_of_ble_eq_true rfl) (Nat.le_of_ble_eq_true rfl) (Nat.le_of_ble_eq_true rfl) (fun _ z => nomatch z) (fun _ z => nomatch z) (fun vq159 hq160 Kq161 qq162 => ?_)
      obtain ⟨rfl, rfl⟩ := qq162
      simp only [Option.toList, List.cons_append, List.nil_append]
      refine Rn.istore (pc' := 84) (Ls' := #[.val (.int k1), .val (.int k2), .val (.long v1), .second, .val (.long v2), .second, .val (.long w), .second, .val (.int sel), .val (.ref aq1), .val (.int (1 : Int32)), .val (.int k1), .val (.int k2), .val (.long v2), .second, .val (.int (1 : Int32)), .unset, .unset, .unset, .unset]) at_82 rfl rfl ?_
      refine Rn.aload (pc' := 86) at_84 rfl rfl rfl ?_
      refine Rn.iload (pc' := 88) at_86 rfl rfl ?_
      refine Rn.lload (pc' := 90) at_88 rfl rfl ?_
      refine Rn.callV (pc' := 93) (argsL := [.int (1 : Int32), .long w]) (a := aq1) (rest := []) (ct_sv21 Z a0 hw aq1 kk kb vv vb sz fs k2 k2 k1 v2 v1 hq111 nd M2 w) M2.1 (hw _ (List.mem_of_getElem? (i := 68) rfl)) (hw _ (List.mem_of_getElem? (i := 69) rfl)) (fun _ hZ => notFace_of_selects (args := #[]) (mvT hZ (hw _ (List.mem_of_getElem? (i := 71) rfl)))) (hw _ (List.mem_of_getElem? (i := 71) rfl)) (hw _ (List.mem_of_getElem? (i := 70) rfl)) (hw _ (List.mem_of_getElem? (i := 2) rfl)) (hw _ (List.mem_of_getElem? (i := 72) rfl)) (by decide) rfl rfl (lenOf pd_6 rfl) rfl at_90 rfl (Nat.le_of_ble_eq_true rfl) (Nat.le_of_ble_eq_true rfl) (Nat.le_of_ble_eq_true rfl) (Nat.le_of_ble_eq_true rfl) (allS (Or.inr (Nat.le_trans hm g_vb)) all0) (allS Sf.no (all0)) (fun vq164 hq165 Kq166 qq167 => ?_)
      obtain ⟨rfl, Mq163⟩ := qq167
      simp only [Option.toList, List.cons_append, List.nil_append]
      refine Rn.aload (pc' := 95) at_93 rfl rfl rfl ?_
      refine Rn.iload (pc' := 97) at_95 rfl rfl ?_
      refine Rn.callV (pc' := 100) (argsL := [.int (1 : Int32)]) (a := aq1) (rest := []) (ct_gv21 Z a0 hw aq1 kk kb vv vb sz fs k2 k2 k1 v2 w hq165 nd Mq163 ) Mq163.1 (hw _ (List.mem_of_getElem? (i := 73) rfl)) (hw _ (List.mem_of_getElem? (i := 74) rfl)) (fun _ hZ => notFace_of_selects (args := #[]) (mvT hZ (hw _ (List.mem_of_getElem? (i := 76) rfl)))) (hw _ (List.mem_of_getElem? (i := 76) rfl)) (hw _ (List.mem_of_getElem? (i := 75) rfl)) (hw _ (List.mem_of_getElem? (i := 2) rfl)) (hw _ (List.mem_of_getElem? (i := 77) rfl)) (by decide) rfl rfl (lenOf pd_7 rfl) rfl at_97 rfl (Nat.le_of_ble_eq_true rfl) (Nat.le_of_ble_eq_true rfl) (Nat.le_of_ble_eq_true rfl) (Nat.le_of_ble_eq_true rfl) (fun _ z => nomatch z) (fun _ z => nomatch z) (fun vq168 hq169 Kq170 qq171 => ?_)
      obtain ⟨rfl, rfl⟩ := qq171
      simp only [Option.toList, List.cons_append, List.nil_append]
      refine Rn.lload (pc' := 102) at_100 rfl rfl ?_
      refine Rn.lcmp (pc' := 103) (v := (0 : Int32)) at_102 (own_cs _) rfl ?_
      refine Rn.if_ne (pc' := 110) (pn := 106) at_103 (by decide) (by decide) rfl (fun cq172 => absurd cq172 (by decide)) (fun cq172 => ?_)
      refine Rn.iconst (pc' := 107) (v := (1 : Int32)) at_106 rfl rfl ?_
      refine Rn.goto (pc' := 111) at_107 (by decide) (by decide) ?_
      refine Rn.istore (pc' := 113) (Ls' := #[.val (.int k1), .val (.int k2), .val (.long v1), .second, .val (.long v2), .second, .val (.long w), .second, .val (.int sel), .val (.ref aq1), .val (.int (1 : Int32)), .val (.int k1), .val (.int k2), .val (.long v2), .second, .val (.int (1 : Int32)), .val (.int (1 : Int32)), .unset, .unset, .unset]) at_111 rfl rfl ?_
      refine Rn.iload (pc' := 115) at_113 rfl rfl ?_
      refine Rn.if_eq (pc' := 134) (pn := 118) at_115 (by decide) (by decide) rfl (fun cq173 => absurd cq173 (by decide)) (fun cq173 => ?_)
      refine Rn.aload (pc' := 120) at_118 rfl rfl rfl ?_
      refine Rn.iload (pc' := 122) at_120 rfl rfl ?_
      refine Rn.callV (pc' := 125) (argsL := [.int (1 : Int32)]) (a := aq1) (rest := []) (ct_ke21 Z a0 hw aq1 kk kb vv vb sz fs k2 k2 k1 v2 w hq165 nd Mq163 ) Mq163.1 (hw _ (List.mem_of_getElem? (i := 78) rfl)) (hw _ (List.mem_of_getElem? (i := 79) rfl)) (fun _ hZ => notFace_of_selects (args := #[]) (mvT hZ (hw _ (List.mem_of_getElem? (i := 81) rfl)))) (hw _ (List.mem_of_getElem? (i := 81) rfl)) (hw _ (List.mem_of_getElem? (i := 80) rfl)) (hw _ (List.mem_of_getElem? (i := 2) rfl)) (hw _ (List.mem_of_getElem? (i := 82) rfl)) (by decide) rfl rfl (lenOf pd_2 rfl) rfl at_122 rfl (Nat.le_of_ble_eq_true rfl) (Nat.le_of_ble_eq_true rfl) (Nat.le_of_ble_eq_true rfl) (Nat.le_of_ble_eq_true rfl) (fun _ z => nomatch z) (fun _ z => nomatch z) (fun vq174 hq175 Kq176 qq177 => ?_)
      obtain ⟨rfl, rfl⟩ := qq177
      simp only [Option.toList, List.cons_append, List.nil_append]
      refine Rn.iload (pc' := 127) at_125 rfl rfl ?_
      refine Rn.icmp_ne (pc' := 134) (pn := 130) at_127 (by decide) (by decide) rfl (fun cq178 => absurd rfl cq178) (fun cq178 => ?_)
      refine Rn.iconst (pc' := 131) (v := (1 : Int32)) at_130 rfl rfl ?_
      refine Rn.goto (pc' := 135) at_131 (by decide) (by decide) ?_
      refine Rn.istore (pc' := 137) (Ls' := #[.val (.int k1), .val (.int k2), .val (.long v1), .second, .val (.long v2), .second, .val (.long w), .second, .val (.int sel), .val (.ref aq1), .val (.int (1 : Int32)), .val (.int k1), .val (.int k2), .val (.long v2), .second, .val (.int (1 : Int32)), .val (.int (1 : Int32)), .unset, .unset, .unset]) at_135 rfl rfl ?_
      refine Rn.iloadN (pc' := 138) at_137 rfl rfl ?_
      refine Rn.iloadN (pc' := 139) at_138 rfl rfl ?_
      refine Rn.icmp_ne (pc' := 146) (pn := 142) at_139 (by decide) (by decide) rfl (fun cq179 => ?_) (fun cq179 => absurd cq179.symm (own_ne hgt))
      refine Rn.iconst (pc' := 147) (v := (2 : Int32)) at_146 rfl rfl ?_
      refine Rn.istore (pc' := 149) (Ls' := #[.val (.int k1), .val (.int k2), .val (.long v1), .second, .val (.long v2), .second, .val (.long w), .second, .val (.int sel), .val (.ref aq1), .val (.int (1 : Int32)), .val (.int k1), .val (.int k2), .val (.long v2), .second, .val (.int (1 : Int32)), .val (.int (1 : Int32)), .val (.int (2 : Int32)), .unset, .unset]) at_147 rfl rfl ?_
      refine Rn.iload (pc' := 151) at_149 rfl rfl ?_
      refine Rn.if_eq (pc' := 168) (pn := 154) at_151 (by decide) (by decide) rfl (fun cq180 => absurd cq180 (by decide)) (fun cq180 => ?_)
      refine Rn.aload (pc' := 156) at_154 rfl rfl rfl ?_
      refine Rn.callV (pc' := 159) (argsL := []) (a := aq1) (rest := []) (ct_size2 Z a0 hw aq1 kk kb vv vb sz fs k2 k2 k1 v2 w hq165 nd Mq163 ) Mq163.1 (hw _ (List.mem_of_getElem? (i := 83) rfl)) (hw _ (List.mem_of_getElem? (i := 84) rfl)) (fun _ hZ => notFace_of_selects (args := #[]) (mvT hZ (hw _ (List.mem_of_getElem? (i := 86) rfl)))) (hw _ (List.mem_of_getElem? (i := 86) rfl)) (hw _ (List.mem_of_getElem? (i := 85) rfl)) (hw _ (List.mem_of_getElem? (i := 2) rfl)) (hw _ (List.mem_of_getElem? (i := 87) rfl)) (by decide) rfl rfl (lenOf pd_8 rfl) rfl at_156 rfl (Nat.le_of_ble_eq_true rfl) (Nat.le_of_ble_eq_true rfl) (Nat.le_of_ble_eq_true rfl) (Nat.le_of_ble_eq_true rfl) (fun _ z => nomatch z) (fun _ z => nomatch z) (fun vq181 hq182 Kq183 qq184 => ?_)
      obtain ⟨rfl, rfl⟩ := qq184
      simp only [Option.toList, List.cons_append, List.nil_append]
      refine Rn.iload (pc' := 161) at_159 rfl rfl ?_
      refine Rn.icmp_ne (pc' := 168) (pn := 164) at_161 (by decide) (by decide) rfl (fun cq185 => absurd cq185 (by decide)) (fun cq185 => ?_)
      refine Rn.iconst (pc' := 165) (v := (1 : Int32)) at_164 rfl rfl ?_
      refine Rn.goto (pc' := 169) at_165 (by decide) (by decide) ?_
      refine Rn.istore (pc' := 171) (Ls' := #[.val (.int k1), .val (.int k2), .val (.long v1), .second, .val (.long v2), .second, .val (.long w), .second, .val (.int sel), .val (.ref aq1), .val (.int (1 : Int32)), .val (.int k1), .val (.int k2), .val (.long v2), .second, .val (.int (1 : Int32)), .val (.int (1 : Int32)), .val (.int (2 : Int32)), .unset, .unset]) at_169 rfl rfl ?_
      refine Rn.iloadN (pc' := 172) at_171 rfl rfl ?_
      refine Rn.iloadN (pc' := 173) at_172 rfl rfl ?_
      refine Rn.icmp_ne (pc' := 181) (pn := 176) at_173 (by decide) (by decide) rfl (fun cq186 => ?_) (fun cq186 => absurd cq186.symm (own_ne hgt))
      refine Rn.lload (pc' := 183) at_181 rfl rfl ?_
      refine Rn.lstore (pc' := 185) (Ls' := #[.val (.int k1), .val (.int k2), .val (.long v1), .second, .val (.long v2), .second, .val (.long w), .second, .val (.int sel), .val (.ref aq1), .val (.int (1 : Int32)), .val (.int k1), .val (.int k2), .val (.long v2), .second, .val (.int (1 : Int32)), .val (.int (1 : Int32)), .val (.int (2 : Int32)), .val (.long v2), .second]) at_183 rfl rfl ?_
      refine Rn.iload (pc' := 187) at_185 rfl rfl ?_
      refine Rn.if_eq (pc' := 212) (pn := 190) at_187 (by decide) (by decide) rfl (fun cq187 => absurd cq187 (by decide)) (fun cq187 => ?_)
      refine Rn.aload (pc' := 192) at_190 rfl rfl rfl ?_
      refine Rn.aload (pc' := 194) at_192 rfl rfl rfl ?_
      refine Rn.iload (pc' := 196) at_194 rfl rfl ?_
      refine Rn.callV (pc' := 199) (argsL := [.int k2]) (a := aq1) (rest := [.ref aq1]) (ct_fl20 Z a0 hw aq1 kk kb vv vb sz fs k2 k2 k1 v2 w hq165 nd Mq163 k2 (own_e20 k2 k1)) Mq163.1 (hw _ (List.mem_of_getElem? (i := 56) rfl)) (hw _ (List.mem_of_getElem? (i := 57) rfl)) (fun _ hZ => notFace_of_selects (args := #[]) (mvT hZ (hw _ (List.mem_of_getElem? (i := 59) rfl)))) (hw _ (List.mem_of_getElem? (i := 59) rfl)) (hw _ (List.mem_of_getElem? (i := 58) rfl)) (hw _ (List.mem_of_getElem? (i := 2) rfl)) (hw _ (List.mem_of_getElem? (i := 60) rfl)) (by decide) rfl rfl (lenOf pd_2 rfl) rfl at_196 rfl (Nat.le_of_ble_eq_true rfl) (Nat.le_of_ble_eq_true rfl) (Nat.le_of_ble_eq_true rfl) (Nat.le_of_ble_eq_true rfl) (fun _ z => nomatch z) (fun _ z => nomatch z) (fun vq188 hq189 Kq190 qq191 => ?_)
      obtain ⟨rfl, rfl⟩ := qq191
      simp only [Option.toList, List.cons_append, List.nil_append]
      refine Rn.callV (pc' := 202) (argsL := [.int (0 : Int32)]) (a := aq1) (rest := []) (ct_gv20 Z a0 hw aq1 kk kb vv vb sz fs k2 k2 k1 v2 w hq165 nd Mq163 ) Mq163.1 (hw _ (List.mem_of_getElem? (i := 73) rfl)) (hw _ (List.mem_of_getElem? (i := 74) rfl)) (fun _ hZ => notFace_of_selects (args := #[]) (mvT hZ (hw _ (List.mem_of_getElem? (i := 76) rfl)))) (hw _ (List.mem_of_getElem? (i := 76) rfl)) (hw _ (List.mem_of_getElem? (i := 75) rfl)) (hw _ (List.mem_of_getElem? (i := 2) rfl)) (hw _ (List.mem_of_getElem? (i := 77) rfl)) (by decide) rfl rfl (lenOf pd_7 rfl) rfl at_199 rfl (Nat.le_of_ble_eq_true rfl) (Nat.le_of_ble_eq_true rfl) (Nat.le_of_ble_eq_true rfl) (Nat.le_of_ble_eq_true rfl) (fun _ z => nomatch z) (fun _ z => nomatch z) (fun vq192 hq193 Kq194 qq195 => ?_)
      obtain ⟨rfl, rfl⟩ := qq195
      simp only [Option.toList, List.cons_append, List.nil_append]
      refine Rn.lload (pc' := 204) at_202 rfl rfl ?_
      refine Rn.lcmp (pc' := 205) (v := (0 : Int32)) at_204 (own_cs _) rfl ?_
      refine Rn.if_ne (pc' := 212) (pn := 208) at_205 (by decide) (by decide) rfl (fun cq196 => absurd cq196 (by decide)) (fun cq196 => ?_)
      refine Rn.iconst (pc' := 209) (v := (1 : Int32)) at_208 rfl rfl ?_
      refine Rn.goto (pc' := 213) at_209 (by decide) (by decide) ?_
      refine Rn.istore (pc' := 215) (Ls' := #[.val (.int k1), .val (.int k2), .val (.long v1), .second, .val (.long v2), .second, .val (.long w), .second, .val (.int sel), .val (.ref aq1), .val (.int (1 : Int32)), .val (.int k1), .val (.int k2), .val (.long v2), .second, .val (.int (1 : Int32)), .val (.int (1 : Int32)), .val (.int (2 : Int32)), .val (.long v2), .second]) at_213 rfl rfl ?_
      refine Rn.iload (pc' := 217) at_215 rfl rfl ?_
      refine Rn.retN (t := .boolean) rfl (by simp) at_217 (Nat.le_of_ble_eq_true rfl) (Nat.le_of_ble_eq_true rfl) ?_
      rfl
  ·
    subst heq
    refine Rn.callV (pc' := 24) (argsL := [.int k1, .long v2]) (a := aq1) (rest := []) (ct_put1c Z a0 hw aq1 kk kb vv vb sz fs k1 k1 v1 hq20 nd M1 k1 v2 (own_e1c k1)) M1.1 (hw _ (List.mem_of_getElem? (i := 27) rfl)) (hw _ (List.mem_of_getElem? (i := 28) rfl)) (fun _ hZ => notFace_of_selects (args := #[]) (mvT hZ (hw _ (List.mem_of_getElem? (i := 30) rfl)))) (hw _ (List.mem_of_getElem? (i := 30) rfl)) (hw _ (List.mem_of_getElem? (i := 29) rfl)) (hw _ (List.mem_of_getElem? (i := 2) rfl)) (hw _ (List.mem_of_getElem? (i := 31) rfl)) (by decide) rfl rfl (lenOf pd_6 rfl) rfl at_21 rfl (Nat.le_of_ble_eq_true rfl) (Nat.le_of_ble_eq_true rfl) (Nat.le_of_ble_eq_true rfl) (Nat.le_of_ble_eq_true rfl) (allS (Or.inr gq4) (allS (Or.inr (Nat.le_trans hm g_kb)) (allS (Or.inr (Nat.le_trans hm g_vb)) (allS (Or.inr (Nat.le_trans hm g_sz)) (allS (Or.inr (Nat.le_trans hm g_fs)) (all0)))))) (allS Sf.no (allS Sf.no (allS Sf.no (allS Sf.no (allS Sf.no (all0)))))) (fun vq197 hq198 Kq199 qq200 => ?_)
    obtain ⟨rfl, M2⟩ := qq200
    simp only [Option.toList, List.cons_append, List.nil_append]
    refine Rn.iload (pc' := 26) at_24 rfl rfl ?_
    refine Rn.iconst (pc' := 27) (v := (1 : Int32)) at_26 rfl rfl ?_
    refine Rn.iand (pc' := 28) (v := (sel &&& (1 : Int32))) at_27 rfl rfl ?_
    refine Rn.if_ne (pc' := 35) (pn := 31) at_28 (by decide) (by decide) rfl (fun cq201 => ?_) (fun cq201 => ?_)
    ·
      refine Rn.iconst (pc' := 36) (v := (0 : Int32)) at_35 rfl rfl ?_
      refine Rn.istore (pc' := 38) (Ls' := #[.val (.int k1), .val (.int k1), .val (.long v1), .second, .val (.long v2), .second, .val (.long w), .second, .val (.int sel), .val (.ref aq1), .val (.int (0 : Int32)), .unset, .unset, .unset, .unset, .unset, .unset, .unset, .unset, .unset]) at_36 rfl rfl ?_
      refine Rn.iload (pc' := 40) at_38 rfl rfl ?_
      refine Rn.if_eq (pc' := 47) (pn := 43) at_40 (by decide) (by decide) rfl (fun cq202 => ?_) (fun cq202 => absurd cq202 (by decide))
      refine Rn.iloadN (pc' := 48) at_47 rfl rfl ?_
      refine Rn.istore (pc' := 50) (Ls' := #[.val (.int k1), .val (.int k1), .val (.long v1), .second, .val (.long v2), .second, .val (.long w), .second, .val (.int sel), .val (.ref aq1), .val (.int (0 : Int32)), .val (.int k1), .unset, .unset, .unset, .unset, .unset, .unset, .unset, .unset]) at_48 rfl rfl ?_
      refine Rn.iload (pc' := 52) at_50 rfl rfl ?_
      refine Rn.if_eq (pc' := 59) (pn := 55) at_52 (by decide) (by decide) rfl (fun cq203 => ?_) (fun cq203 => absurd cq203 (by decide))
      refine Rn.iloadN (pc' := 60) at_59 rfl rfl ?_
      refine Rn.istore (pc' := 62) (Ls' := #[.val (.int k1), .val (.int k1), .val (.long v1), .second, .val (.long v2), .second, .val (.long w), .second, .val (.int sel), .val (.ref aq1), .val (.int (0 : Int32)), .val (.int k1), .val (.int k1), .unset, .unset, .unset, .unset, .unset, .unset, .unset]) at_60 rfl rfl ?_
      refine Rn.iload (pc' := 64) at_62 rfl rfl ?_
      refine Rn.if_eq (pc' := 72) (pn := 67) at_64 (by decide) (by decide) rfl (fun cq204 => ?_) (fun cq204 => absurd cq204 (by decide))
      refine Rn.lloadN (pc' := 73) at_72 rfl rfl ?_
      refine Rn.lstore (pc' := 75) (Ls' := #[.val (.int k1), .val (.int k1), .val (.long v1), .second, .val (.long v2), .second, .val (.long w), .second, .val (.int sel), .val (.ref aq1), .val (.int (0 : Int32)), .val (.int k1), .val (.int k1), .val (.long v1), .second, .unset, .unset, .unset, .unset, .unset]) at_73 rfl rfl ?_
      refine Rn.aload (pc' := 77) at_75 rfl rfl rfl ?_
      refine Rn.iload (pc' := 79) at_77 rfl rfl ?_
      refine Rn.callV (pc' := 82) (argsL := [.int k1]) (a := aq1) (rest := []) (ct_fl10 Z a0 hw aq1 kk kb vv vb sz fs k1 k1 v2 hq198 nd M2 k1 (own_e1c k1)) M2.1 (hw _ (List.mem_of_getElem? (i := 56) rfl)) (hw _ (List.mem_of_getElem? (i := 57) rfl)) (fun _ hZ => notFace_of_selects (args := #[]) (mvT hZ (hw _ (List.mem_of_getElem? (i := 59) rfl)))) (hw _ (List.mem_of_getElem? (i := 59) rfl)) (hw _ (List.mem_of_getElem? (i := 58) rfl)) (hw _ (List.mem_of_getElem? (i := 2) rfl)) (hw _ (List.mem_of_getElem? (i := 60) rfl)) (by decide) rfl rfl (lenOf pd_2 rfl) rfl at_79 rfl (Nat.le_of_ble_eq_true rfl) (Nat.le_of_ble_eq_true rfl) (Nat.le_of_ble_eq_true rfl) (Nat.le_of_ble_eq_true rfl) (fun _ z => nomatch z) (fun _ z => nomatch z) (fun vq205 hq206 Kq207 qq208 => ?_)
      obtain ⟨rfl, rfl⟩ := qq208
      simp only [Option.toList, List.cons_append, List.nil_append]
      refine Rn.istore (pc' := 84) (Ls' := #[.val (.int k1), .val (.int k1), .val (.long v1), .second, .val (.long v2), .second, .val (.long w), .second, .val (.int sel), .val (.ref aq1), .val (.int (0 : Int32)), .val (.int k1), .val (.int k1), .val (.long v1), .second, .val (.int (0 : Int32)), .unset, .unset, .unset, .unset]) at_82 rfl rfl ?_
      refine Rn.aload (pc' := 86) at_84 rfl rfl rfl ?_
      refine Rn.iload (pc' := 88) at_86 rfl rfl ?_
      refine Rn.lload (pc' := 90) at_88 rfl rfl ?_
      refine Rn.callV (pc' := 93) (argsL := [.int (0 : Int32), .long w]) (a := aq1) (rest := []) (ct_sv10 Z a0 hw aq1 kk kb vv vb sz fs k1 k1 v2 hq198 nd M2 w) M2.1 (hw _ (List.mem_of_getElem? (i := 68) rfl)) (hw _ (List.mem_of_getElem? (i := 69) rfl)) (fun _ hZ => notFace_of_selects (args := #[]) (mvT hZ (hw _ (List.mem_of_getElem? (i := 71) rfl)))) (hw _ (List.mem_of_getElem? (i := 71) rfl)) (hw _ (List.mem_of_getElem? (i := 70) rfl)) (hw _ (List.mem_of_getElem? (i := 2) rfl)) (hw _ (List.mem_of_getElem? (i := 72) rfl)) (by decide) rfl rfl (lenOf pd_6 rfl) rfl at_90 rfl (Nat.le_of_ble_eq_true rfl) (Nat.le_of_ble_eq_true rfl) (Nat.le_of_ble_eq_true rfl) (Nat.le_of_ble_eq_true rfl) (allS (Or.inr (Nat.le_trans hm g_vb)) all0) (allS Sf.no (all0)) (fun vq210 hq211 Kq212 qq213 => ?_)
      obtain ⟨rfl, Mq209⟩ := qq213
      simp only [Option.toList, List.cons_append, List.nil_append]
      refine Rn.aload (pc' := 95) at_93 rfl rfl rfl ?_
      refine Rn.iload (pc' := 97) at_95 rfl rfl ?_
      refine Rn.callV (pc' := 100) (argsL := [.int (0 : Int32)]) (a := aq1) (rest := []) (ct_gv10 Z a0 hw aq1 kk kb vv vb sz fs k1 k1 w hq211 nd Mq209 ) Mq209.1 (hw _ (List.mem_of_getElem? (i := 73) rfl)) (hw _ (List.mem_of_getElem? (i := 74) rfl)) (fun _ hZ => notFace_of_selects (args := #[]) (mvT hZ (hw _ (List.mem_of_getElem? (i := 76) rfl)))) (hw _ (List.mem_of_getElem? (i := 76) rfl)) (hw _ (List.mem_of_getElem? (i := 75) rfl)) (hw _ (List.mem_of_getElem? (i := 2) rfl)) (hw _ (List.mem_of_getElem? (i := 77) rfl)) (by decide) rfl rfl (lenOf pd_7 rfl) rfl at_97 rfl (Nat.le_of_ble_eq_true rfl) (Nat.le_of_ble_eq_true rfl) (Nat.le_of_ble_eq_true rfl) (Nat.le_of_ble_eq_true rfl) (fun _ z => nomatch z) (fun _ z => nomatch z) (fun vq214 hq215 Kq216 qq217 => ?_)
      obtain ⟨rfl, rfl⟩ := qq217
      simp only [Option.toList, List.cons_append, List.nil_append]
      refine Rn.lload (pc' := 102) at_100 rfl rfl ?_
      refine Rn.lcmp (pc' := 103) (v := (0 : Int32)) at_102 (own_cs _) rfl ?_
      refine Rn.if_ne (pc' := 110) (pn := 106) at_103 (by decide) (by decide) rfl (fun cq218 => absurd cq218 (by decide)) (fun cq218 => ?_)
      refine Rn.iconst (pc' := 107) (v := (1 : Int32)) at_106 rfl rfl ?_
      refine Rn.goto (pc' := 111) at_107 (by decide) (by decide) ?_
      refine Rn.istore (pc' := 113) (Ls' := #[.val (.int k1), .val (.int k1), .val (.long v1), .second, .val (.long v2), .second, .val (.long w), .second, .val (.int sel), .val (.ref aq1), .val (.int (0 : Int32)), .val (.int k1), .val (.int k1), .val (.long v1), .second, .val (.int (0 : Int32)), .val (.int (1 : Int32)), .unset, .unset, .unset]) at_111 rfl rfl ?_
      refine Rn.iload (pc' := 115) at_113 rfl rfl ?_
      refine Rn.if_eq (pc' := 134) (pn := 118) at_115 (by decide) (by decide) rfl (fun cq219 => absurd cq219 (by decide)) (fun cq219 => ?_)
      refine Rn.aload (pc' := 120) at_118 rfl rfl rfl ?_
      refine Rn.iload (pc' := 122) at_120 rfl rfl ?_
      refine Rn.callV (pc' := 125) (argsL := [.int (0 : Int32)]) (a := aq1) (rest := []) (ct_ke10 Z a0 hw aq1 kk kb vv vb sz fs k1 k1 w hq211 nd Mq209 ) Mq209.1 (hw _ (List.mem_of_getElem? (i := 78) rfl)) (hw _ (List.mem_of_getElem? (i := 79) rfl)) (fun _ hZ => notFace_of_selects (args := #[]) (mvT hZ (hw _ (List.mem_of_getElem? (i := 81) rfl)))) (hw _ (List.mem_of_getElem? (i := 81) rfl)) (hw _ (List.mem_of_getElem? (i := 80) rfl)) (hw _ (List.mem_of_getElem? (i := 2) rfl)) (hw _ (List.mem_of_getElem? (i := 82) rfl)) (by decide) rfl rfl (lenOf pd_2 rfl) rfl at_122 rfl (Nat.le_of_ble_eq_true rfl) (Nat.le_of_ble_eq_true rfl) (Nat.le_of_ble_eq_true rfl) (Nat.le_of_ble_eq_true rfl) (fun _ z => nomatch z) (fun _ z => nomatch z) (fun vq220 hq221 Kq222 qq223 => ?_)
      obtain ⟨rfl, rfl⟩ := qq223
      simp only [Option.toList, List.cons_append, List.nil_append]
      refine Rn.iload (pc' := 127) at_125 rfl rfl ?_
      refine Rn.icmp_ne (pc' := 134) (pn := 130) at_127 (by decide) (by decide) rfl (fun cq224 => absurd rfl cq224) (fun cq224 => ?_)
      refine Rn.iconst (pc' := 131) (v := (1 : Int32)) at_130 rfl rfl ?_
      refine Rn.goto (pc' := 135) at_131 (by decide) (by decide) ?_
      refine Rn.istore (pc' := 137) (Ls' := #[.val (.int k1), .val (.int k1), .val (.long v1), .second, .val (.long v2), .second, .val (.long w), .second, .val (.int sel), .val (.ref aq1), .val (.int (0 : Int32)), .val (.int k1), .val (.int k1), .val (.long v1), .second, .val (.int (0 : Int32)), .val (.int (1 : Int32)), .unset, .unset, .unset]) at_135 rfl rfl ?_
      refine Rn.iloadN (pc' := 138) at_137 rfl rfl ?_
      refine Rn.iloadN (pc' := 139) at_138 rfl rfl ?_
      refine Rn.icmp_ne (pc' := 146) (pn := 142) at_139 (by decide) (by decide) rfl (fun cq225 => absurd rfl cq225) (fun cq225 => ?_)
      refine Rn.iconst (pc' := 143) (v := (1 : Int32)) at_142 rfl rfl ?_
      refine Rn.goto (pc' := 147) at_143 (by decide) (by decide) ?_
      refine Rn.istore (pc' := 149) (Ls' := #[.val (.int k1), .val (.int k1), .val (.long v1), .second, .val (.long v2), .second, .val (.long w), .second, .val (.int sel), .val (.ref aq1), .val (.int (0 : Int32)), .val (.int k1), .val (.int k1), .val (.long v1), .second, .val (.int (0 : Int32)), .val (.int (1 : Int32)), .val (.int (1 : Int32)), .unset, .unset]) at_147 rfl rfl ?_
      refine Rn.iload (pc' := 151) at_149 rfl rfl ?_
      refine Rn.if_eq (pc' := 168) (pn := 154) at_151 (by decide) (by decide) rfl (fun cq226 => absurd cq226 (by decide)) (fun cq226 => ?_)
      refine Rn.aload (pc' := 156) at_154 rfl rfl rfl ?_
      refine Rn.callV (pc' := 159) (argsL := []) (a := aq1) (rest := []) (ct_size1 Z a0 hw aq1 kk kb vv vb sz fs k1 k1 w hq211 nd Mq209 ) Mq209.1 (hw _ (List.mem_of_getElem? (i := 83) rfl)) (hw _ (List.mem_of_getElem? (i := 84) rfl)) (fun _ hZ => notFace_of_selects (args := #[]) (mvT hZ (hw _ (List.mem_of_getElem? (i := 86) rfl)))) (hw _ (List.mem_of_getElem? (i := 86) rfl)) (hw _ (List.mem_of_getElem? (i := 85) rfl)) (hw _ (List.mem_of_getElem? (i := 2) rfl)) (hw _ (List.mem_of_getElem? (i := 87) rfl)) (by decide) rfl rfl (lenOf pd_8 rfl) rfl at_156 rfl (Nat.le_of_ble_eq_true rfl) (Nat.le_of_ble_eq_true rfl) (Nat.le_of_ble_eq_true rfl) (Nat.le_of_ble_eq_true rfl) (fun _ z => nomatch z) (fun _ z => nomatch z) (fun vq227 hq228 Kq229 qq230 => ?_)
      obtain ⟨rfl, rfl⟩ := qq230
      simp only [Option.toList, List.cons_append, List.nil_append]
      refine Rn.iload (pc' := 161) at_159 rfl rfl ?_
      refine Rn.icmp_ne (pc' := 168) (pn := 164) at_161 (by decide) (by decide) rfl (fun cq231 => absurd cq231 (by decide)) (fun cq231 => ?_)
      refine Rn.iconst (pc' := 165) (v := (1 : Int32)) at_164 rfl rfl ?_
      refine Rn.goto (pc' := 169) at_165 (by decide) (by decide) ?_
      refine Rn.istore (pc' := 171) (Ls' := #[.val (.int k1), .val (.int k1), .val (.long v1), .second, .val (.long v2), .second, .val (.long w), .second, .val (.int sel), .val (.ref aq1), .val (.int (0 : Int32)), .val (.int k1), .val (.int k1), .val (.long v1), .second, .val (.int (0 : Int32)), .val (.int (1 : Int32)), .val (.int (1 : Int32)), .unset, .unset]) at_169 rfl rfl ?_
      refine Rn.iloadN (pc' := 172) at_171 rfl rfl ?_
      refine Rn.iloadN (pc' := 173) at_172 rfl rfl ?_
      refine Rn.icmp_ne (pc' := 181) (pn := 176) at_173 (by decide) (by decide) rfl (fun cq232 => absurd rfl cq232) (fun cq232 => ?_)
      refine Rn.lload (pc' := 178) at_176 rfl rfl ?_
      refine Rn.goto (pc' := 183) at_178 (by decide) (by decide) ?_
      refine Rn.lstore (pc' := 185) (Ls' := #[.val (.int k1), .val (.int k1), .val (.long v1), .second, .val (.long v2), .second, .val (.long w), .second, .val (.int sel), .val (.ref aq1), .val (.int (0 : Int32)), .val (.int k1), .val (.int k1), .val (.long v1), .second, .val (.int (0 : Int32)), .val (.int (1 : Int32)), .val (.int (1 : Int32)), .val (.long w), .second]) at_183 rfl rfl ?_
      refine Rn.iload (pc' := 187) at_185 rfl rfl ?_
      refine Rn.if_eq (pc' := 212) (pn := 190) at_187 (by decide) (by decide) rfl (fun cq233 => absurd cq233 (by decide)) (fun cq233 => ?_)
      refine Rn.aload (pc' := 192) at_190 rfl rfl rfl ?_
      refine Rn.aload (pc' := 194) at_192 rfl rfl rfl ?_
      refine Rn.iload (pc' := 196) at_194 rfl rfl ?_
      refine Rn.callV (pc' := 199) (argsL := [.int k1]) (a := aq1) (rest := [.ref aq1]) (ct_fl10 Z a0 hw aq1 kk kb vv vb sz fs k1 k1 w hq211 nd Mq209 k1 (own_e1c k1)) Mq209.1 (hw _ (List.mem_of_getElem? (i := 56) rfl)) (hw _ (List.mem_of_getElem? (i := 57) rfl)) (fun _ hZ => notFace_of_selects (args := #[]) (mvT hZ (hw _ (List.mem_of_getElem? (i := 59) rfl)))) (hw _ (List.mem_of_getElem? (i := 59) rfl)) (hw _ (List.mem_of_getElem? (i := 58) rfl)) (hw _ (List.mem_of_getElem? (i := 2) rfl)) (hw _ (List.mem_of_getElem? (i := 60) rfl)) (by decide) rfl rfl (lenOf pd_2 rfl) rfl at_196 rfl (Nat.le_of_ble_eq_true rfl) (Nat.le_of_ble_eq_true rfl) (Nat.le_of_ble_eq_true rfl) (Nat.le_of_ble_eq_true rfl) (fun _ z => nomatch z) (fun _ z => nomatch z) (fun vq234 hq235 Kq236 qq237 => ?_)
      obtain ⟨rfl, rfl⟩ := qq237
      simp only [Option.toList, List.cons_append, List.nil_append]
      refine Rn.callV (pc' := 202) (argsL := [.int (0 : Int32)]) (a := aq1) (rest := []) (ct_gv10 Z a0 hw aq1 kk kb vv vb sz fs k1 k1 w hq211 nd Mq209 ) Mq209.1 (hw _ (List.mem_of_getElem? (i := 73) rfl)) (hw _ (List.mem_of_getElem? (i := 74) rfl)) (fun _ hZ => notFace_of_selects (args := #[]) (mvT hZ (hw _ (List.mem_of_getElem? (i := 76) rfl)))) (hw _ (List.mem_of_getElem? (i := 76) rfl)) (hw _ (List.mem_of_getElem? (i := 75) rfl)) (hw _ (List.mem_of_getElem? (i := 2) rfl)) (hw _ (List.mem_of_getElem? (i := 77) rfl)) (by decide) rfl rfl (lenOf pd_7 rfl) rfl at_199 rfl (Nat.le_of_ble_eq_true rfl) (Nat.le_of_ble_eq_true rfl) (Nat.le_of_ble_eq_true rfl) (Nat.le_of_ble_eq_true rfl) (fun _ z => nomatch z) (fun _ z => nomatch z) (fun vq238 hq239 Kq240 qq241 => ?_)
      obtain ⟨rfl, rfl⟩ := qq241
      simp only [Option.toList, List.cons_append, List.nil_append]
      refine Rn.lload (pc' := 204) at_202 rfl rfl ?_
      refine Rn.lcmp (pc' := 205) (v := (0 : Int32)) at_204 (own_cs _) rfl ?_
      refine Rn.if_ne (pc' := 212) (pn := 208) at_205 (by decide) (by decide) rfl (fun cq242 => absurd cq242 (by decide)) (fun cq242 => ?_)
      refine Rn.iconst (pc' := 209) (v := (1 : Int32)) at_208 rfl rfl ?_
      refine Rn.goto (pc' := 213) at_209 (by decide) (by decide) ?_
      refine Rn.istore (pc' := 215) (Ls' := #[.val (.int k1), .val (.int k1), .val (.long v1), .second, .val (.long v2), .second, .val (.long w), .second, .val (.int sel), .val (.ref aq1), .val (.int (0 : Int32)), .val (.int k1), .val (.int k1), .val (.long v1), .second, .val (.int (0 : Int32)), .val (.int (1 : Int32)), .val (.int (1 : Int32)), .val (.long w), .second]) at_213 rfl rfl ?_
      refine Rn.iload (pc' := 217) at_215 rfl rfl ?_
      refine Rn.retN (t := .boolean) rfl (by simp) at_217 (Nat.le_of_ble_eq_true rfl) (Nat.le_of_ble_eq_true rfl) ?_
      rfl
    ·
      refine Rn.iconst (pc' := 32) (v := (1 : Int32)) at_31 rfl rfl ?_
      refine Rn.goto (pc' := 36) at_32 (by decide) (by decide) ?_
      refine Rn.istore (pc' := 38) (Ls' := #[.val (.int k1), .val (.int k1), .val (.long v1), .second, .val (.long v2), .second, .val (.long w), .second, .val (.int sel), .val (.ref aq1), .val (.int (1 : Int32)), .unset, .unset, .unset, .unset, .unset, .unset, .unset, .unset, .unset]) at_36 rfl rfl ?_
      refine Rn.iload (pc' := 40) at_38 rfl rfl ?_
      refine Rn.if_eq (pc' := 47) (pn := 43) at_40 (by decide) (by decide) rfl (fun cq243 => absurd cq243 (by decide)) (fun cq243 => ?_)
      refine Rn.iloadN (pc' := 44) at_43 rfl rfl ?_
      refine Rn.goto (pc' := 48) at_44 (by decide) (by decide) ?_
      refine Rn.istore (pc' := 50) (Ls' := #[.val (.int k1), .val (.int k1), .val (.long v1), .second, .val (.long v2), .second, .val (.long w), .second, .val (.int sel), .val (.ref aq1), .val (.int (1 : Int32)), .val (.int k1), .unset, .unset, .unset, .unset, .unset, .unset, .unset, .unset]) at_48 rfl rfl ?_
      refine Rn.iload (pc' := 52) at_50 rfl rfl ?_
      refine Rn.if_eq (pc' := 59) (pn := 55) at_52 (by decide) (by decide) rfl (fun cq244 => absurd cq244 (by decide)) (fun cq244 => ?_)
      refine Rn.iloadN (pc' := 56) at_55 rfl rfl ?_
      refine Rn.goto (pc' := 60) at_56 (by decide) (by decide) ?_
      refine Rn.istore (pc' := 62) (Ls' := #[.val (.int k1), .val (.int k1), .val (.long v1), .second, .val (.long v2), .second, .val (.long w), .second, .val (.int sel), .val (.ref aq1), .val (.int (1 : Int32)), .val (.int k1), .val (.int k1), .unset, .unset, .unset, .unset, .unset, .unset, .unset]) at_60 rfl rfl ?_
      refine Rn.iload (pc' := 64) at_62 rfl rfl ?_
      refine Rn.if_eq (pc' := 72) (pn := 67) at_64 (by decide) (by decide) rfl (fun cq245 => absurd cq245 (by decide)) (fun cq245 => ?_)
      refine Rn.lload (pc' := 69) at_67 rfl rfl ?_
      refine Rn.goto (pc' := 73) at_69 (by decide) (by decide) ?_
      refine Rn.lstore (pc' := 75) (Ls' := #[.val (.int k1), .val (.int k1), .val (.long v1), .second, .val (.long v2), .second, .val (.long w), .second, .val (.int sel), .val (.ref aq1), .val (.int (1 : Int32)), .val (.int k1), .val (.int k1), .val (.long v2), .second, .unset, .unset, .unset, .unset, .unset]) at_73 rfl rfl ?_
      refine Rn.aload (pc' := 77) at_75 rfl rfl rfl ?_
      refine Rn.iload (pc' := 79) at_77 rfl rfl ?_
      refine Rn.callV (pc' := 82) (argsL := [.int k1]) (a := aq1) (rest := []) (ct_fl10 Z a0 hw aq1 kk kb vv vb sz fs k1 k1 v2 hq198 nd M2 k1 (own_e1c k1)) M2.1 (hw _ (List.mem_of_getElem? (i := 56) rfl)) (hw _ (List.mem_of_getElem? (i := 57) rfl)) (fun _ hZ => notFace_of_selects (args := #[]) (mvT hZ (hw _ (List.mem_of_getElem? (i := 59) rfl)))) (hw _ (List.mem_of_getElem? (i := 59) rfl)) (hw _ (List.mem_of_getElem? (i := 58) rfl)) (hw _ (List.mem_of_getElem? (i := 2) rfl)) (hw _ (List.mem_of_getElem? (i := 60) rfl)) (by decide) rfl rfl (lenOf pd_2 rfl) rfl at_79 rfl (Nat.le_of_ble_eq_true rfl) (Nat.le_of_ble_eq_true rfl) (Nat.le_of_ble_eq_true rfl) (Nat.le_of_ble_eq_true rfl) (fun _ z => nomatch z) (fun _ z => nomatch z) (fun vq246 hq247 Kq248 qq249 => ?_)
      obtain ⟨rfl, rfl⟩ := qq249
      simp only [Option.toList, List.cons_append, List.nil_append]
      refine Rn.istore (pc' := 84) (Ls' := #[.val (.int k1), .val (.int k1), .val (.long v1), .second, .val (.long v2), .second, .val (.long w), .second, .val (.int sel), .val (.ref aq1), .val (.int (1 : Int32)), .val (.int k1), .val (.int k1), .val (.long v2), .second, .val (.int (0 : Int32)), .unset, .unset, .unset, .unset]) at_82 rfl rfl ?_
      refine Rn.aload (pc' := 86) at_84 rfl rfl rfl ?_
      refine Rn.iload (pc' := 88) at_86 rfl rfl ?_
      refine Rn.lload (pc' := 90) at_88 rfl rfl ?_
      refine Rn.callV (pc' := 93) (argsL := [.int (0 : Int32), .long w]) (a := aq1) (rest := []) (ct_sv10 Z a0 hw aq1 kk kb vv vb sz fs k1 k1 v2 hq198 nd M2 w) M2.1 (hw _ (List.mem_of_getElem? (i := 68) rfl)) (hw _ (List.mem_of_getElem? (i := 69) rfl)) (fun _ hZ => notFace_of_selects (args := #[]) (mvT hZ (hw _ (List.mem_of_getElem? (i := 71) rfl)))) (hw _ (List.mem_of_getElem? (i := 71) rfl)) (hw _ (List.mem_of_getElem? (i := 70) rfl)) (hw _ (List.mem_of_getElem? (i := 2) rfl)) (hw _ (List.mem_of_getElem? (i := 72) rfl)) (by decide) rfl rfl (lenOf pd_6 rfl) rfl at_90 rfl (Nat.le_of_ble_eq_true rfl) (Nat.le_of_ble_eq_true rfl) (Nat.le_of_ble_eq_true rfl) (Nat.le_of_ble_eq_true rfl) (allS (Or.inr (Nat.le_trans hm g_vb)) all0) (allS Sf.no (all0)) (fun vq251 hq252 Kq253 qq254 => ?_)
      obtain ⟨rfl, Mq250⟩ := qq254
      simp only [Option.toList, List.cons_append, List.nil_append]
      refine Rn.aload (pc' := 95) at_93 rfl rfl rfl ?_
      refine Rn.iload (pc' := 97) at_95 rfl rfl ?_
      refine Rn.callV (pc' := 100) (argsL := [.int (0 : Int32)]) (a := aq1) (rest := []) (ct_gv10 Z a0 hw aq1 kk kb vv vb sz fs k1 k1 w hq252 nd Mq250 ) Mq250.1 (hw _ (List.mem_of_getElem? (i := 73) rfl)) (hw _ (List.mem_of_getElem? (i := 74) rfl)) (fun _ hZ => notFace_of_selects (args := #[]) (mvT hZ (hw _ (List.mem_of_getElem? (i := 76) rfl)))) (hw _ (List.mem_of_getElem? (i := 76) rfl)) (hw _ (List.mem_of_getElem? (i := 75) rfl)) (hw _ (List.mem_of_getElem? (i := 2) rfl)) (hw _ (List.mem_of_getElem? (i := 77) rfl)) (by decide) rfl rfl (lenOf pd_7 rfl) rfl at_97 rfl (Nat.le_of_ble_eq_true rfl) (Nat.le_of_ble_eq_true rfl) (Nat.le_of_ble_eq_true rfl) (Nat.le_of_ble_eq_true rfl) (fun _ z => nomatch z) (fun _ z => nomatch z) (fun vq255 hq256 Kq257 qq258 => ?_)
      obtain ⟨rfl, rfl⟩ := qq258
      simp only [Option.toList, List.cons_append, List.nil_append]
      refine Rn.lload (pc' := 102) at_100 rfl rfl ?_
      refine Rn.lcmp (pc' := 103) (v := (0 : Int32)) at_102 (own_cs _) rfl ?_
      refine Rn.if_ne (pc' := 110) (pn := 106) at_103 (by decide) (by decide) rfl (fun cq259 => absurd cq259 (by decide)) (fun cq259 => ?_)
      refine Rn.iconst (pc' := 107) (v := (1 : Int32)) at_106 rfl rfl ?_
      refine Rn.goto (pc' := 111) at_107 (by decide) (by decide) ?_
      refine Rn.istore (pc' := 113) (Ls' := #[.val (.int k1), .val (.int k1), .val (.long v1), .second, .val (.long v2), .second, .val (.long w), .second, .val (.int sel), .val (.ref aq1), .val (.int (1 : Int32)), .val (.int k1), .val (.int k1), .val (.long v2), .second, .val (.int (0 : Int32)), .val (.int (1 : Int32)), .unset, .unset, .unset]) at_111 rfl rfl ?_
      refine Rn.iload (pc' := 115) at_113 rfl rfl ?_
      refine Rn.if_eq (pc' := 134) (pn := 118) at_115 (by decide) (by decide) rfl (fun cq260 => absurd cq260 (by decide)) (fun cq260 => ?_)
      refine Rn.aload (pc' := 120) at_118 rfl rfl rfl ?_
      refine Rn.iload (pc' := 122) at_120 rfl rfl ?_
      refine Rn.callV (pc' := 125) (argsL := [.int (0 : Int32)]) (a := aq1) (rest := []) (ct_ke10 Z a0 hw aq1 kk kb vv vb sz fs k1 k1 w hq252 nd Mq250 ) Mq250.1 (hw _ (List.mem_of_getElem? (i := 78) rfl)) (hw _ (List.mem_of_getElem? (i := 79) rfl)) (fun _ hZ => notFace_of_selects (args := #[]) (mvT hZ (hw _ (List.mem_of_getElem? (i := 81) rfl)))) (hw _ (List.mem_of_getElem? (i := 81) rfl)) (hw _ (List.mem_of_getElem? (i := 80) rfl)) (hw _ (List.mem_of_getElem? (i := 2) rfl)) (hw _ (List.mem_of_getElem? (i := 82) rfl)) (by decide) rfl rfl (lenOf pd_2 rfl) rfl at_122 rfl (Nat.le_of_ble_eq_true rfl) (Nat.le_of_ble_eq_true rfl) (Nat.le_of_ble_eq_true rfl) (Nat.le_of_ble_eq_true rfl) (fun _ z => nomatch z) (fun _ z => nomatch z) (fun vq261 hq262 Kq263 qq264 => ?_)
      obtain ⟨rfl, rfl⟩ := qq264
      simp only [Option.toList, List.cons_append, List.nil_append]
      refine Rn.iload (pc' := 127) at_125 rfl rfl ?_
      refine Rn.icmp_ne (pc' := 134) (pn := 130) at_127 (by decide) (by decide) rfl (fun cq265 => absurd rfl cq265) (fun cq265 => ?_)
      refine Rn.iconst (pc' := 131) (v := (1 : Int32)) at_130 rfl rfl ?_
      refine Rn.goto (pc' := 135) at_131 (by decide) (by decide) ?_
      refine Rn.istore (pc' := 137) (Ls' := #[.val (.int k1), .val (.int k1), .val (.long v1), .second, .val (.long v2), .second, .val (.long w), .second, .val (.int sel), .val (.ref aq1), .val (.int (1 : Int32)), .val (.int k1), .val (.int k1), .val (.long v2), .second, .val (.int (0 : Int32)), .val (.int (1 : Int32)), .unset, .unset, .unset]) at_135 rfl rfl ?_
      refine Rn.iloadN (pc' := 138) at_137 rfl rfl ?_
      refine Rn.iloadN (pc' := 139) at_138 rfl rfl ?_
      refine Rn.icmp_ne (pc' := 146) (pn := 142) at_139 (by decide) (by decide) rfl (fun cq266 => absurd rfl cq266) (fun cq266 => ?_)
      refine Rn.iconst (pc' := 143) (v := (1 : Int32)) at_142 rfl rfl ?_
      refine Rn.goto (pc' := 147) at_143 (by decide) (by decide) ?_
      refine Rn.istore (pc' := 149) (Ls' := #[.val (.int k1), .val (.int k1), .val (.long v1), .second, .val (.long v2), .second, .val (.long w), .second, .val (.int sel), .val (.ref aq1), .val (.int (1 : Int32)), .val (.int k1), .val (.int k1), .val (.long v2), .second, .val (.int (0 : Int32)), .val (.int (1 : Int32)), .val (.int (1 : Int32)), .unset, .unset]) at_147 rfl rfl ?_
      refine Rn.iload (pc' := 151) at_149 rfl rfl ?_
      refine Rn.if_eq (pc' := 168) (pn := 154) at_151 (by decide) (by decide) rfl (fun cq267 => absurd cq267 (by decide)) (fun cq267 => ?_)
      refine Rn.aload (pc' := 156) at_154 rfl rfl rfl ?_
      refine Rn.callV (pc' := 159) (argsL := []) (a := aq1) (rest := []) (ct_size1 Z a0 hw aq1 kk kb vv vb sz fs k1 k1 w hq252 nd Mq250 ) Mq250.1 (hw _ (List.mem_of_getElem? (i := 83) rfl)) (hw _ (List.mem_of_getElem? (i := 84) rfl)) (fun _ hZ => notFace_of_selects (args := #[]) (mvT hZ (hw _ (List.mem_of_getElem? (i := 86) rfl)))) (hw _ (List.mem_of_getElem? (i := 86) rfl)) (hw _ (List.mem_of_getElem? (i := 85) rfl)) (hw _ (List.mem_of_getElem? (i := 2) rfl)) (hw _ (List.mem_of_getElem? (i := 87) rfl)) (by decide) rfl rfl (lenOf pd_8 rfl) rfl at_156 rfl (Nat.le_of_ble_eq_true rfl) (Nat.le_of_ble_eq_true rfl) (Nat.le_of_ble_eq_true rfl) (Nat.le_of_ble_eq_true rfl) (fun _ z => nomatch z) (fun _ z => nomatch z) (fun vq268 hq269 Kq270 qq271 => ?_)
      obtain ⟨rfl, rfl⟩ := qq271
      simp only [Option.toList, List.cons_append, List.nil_append]
      refine Rn.iload (pc' := 161) at_159 rfl rfl ?_
      refine Rn.icmp_ne (pc' := 168) (pn := 164) at_161 (by decide) (by decide) rfl (fun cq272 => absurd cq272 (by decide)) (fun cq272 => ?_)
      refine Rn.iconst (pc' := 165) (v := (1 : Int32)) at_164 rfl rfl ?_
      refine Rn.goto (pc' := 169) at_165 (by decide) (by decide) ?_
      refine Rn.istore (pc' := 171) (Ls' := #[.val (.int k1), .val (.int k1), .val (.long v1), .second, .val (.long v2), .second, .val (.long w), .second, .val (.int sel), .val (.ref aq1), .val (.int (1 : Int32)), .val (.int k1), .val (.int k1), .val (.long v2), .second, .val (.int (0 : Int32)), .val (.int (1 : Int32)), .val (.int (1 : Int32)), .unset, .unset]) at_169 rfl rfl ?_
      refine Rn.iloadN (pc' := 172) at_171 rfl rfl ?_
      refine Rn.iloadN (pc' := 173) at_172 rfl rfl ?_
      refine Rn.icmp_ne (pc' := 181) (pn := 176) at_173 (by decide) (by decide) rfl (fun cq273 => absurd rfl cq273) (fun cq273 => ?_)
      refine Rn.lload (pc' := 178) at_176 rfl rfl ?_
      refine Rn.goto (pc' := 183) at_178 (by decide) (by decide) ?_
      refine Rn.lstore (pc' := 185) (Ls' := #[.val (.int k1), .val (.int k1), .val (.long v1), .second, .val (.long v2), .second, .val (.long w), .second, .val (.int sel), .val (.ref aq1), .val (.int (1 : Int32)), .val (.int k1), .val (.int k1), .val (.long v2), .second, .val (.int (0 : Int32)), .val (.int (1 : Int32)), .val (.int (1 : Int32)), .val (.long w), .second]) at_183 rfl rfl ?_
      refine Rn.iload (pc' := 187) at_185 rfl rfl ?_
      refine Rn.if_eq (pc' := 212) (pn := 190) at_187 (by decide) (by decide) rfl (fun cq274 => absurd cq274 (by decide)) (fun cq274 => ?_)
      refine Rn.aload (pc' := 192) at_190 rfl rfl rfl ?_
      refine Rn.aload (pc' := 194) at_192 rfl rfl rfl ?_
      refine Rn.iload (pc' := 196) at_194 rfl rfl ?_
      refine Rn.callV (pc' := 199) (argsL := [.int k1]) (a := aq1) (rest := [.ref aq1]) (ct_fl10 Z a0 hw aq1 kk kb vv vb sz fs k1 k1 w hq252 nd Mq250 k1 (own_e1c k1)) Mq250.1 (hw _ (List.mem_of_getElem? (i := 56) rfl)) (hw _ (List.mem_of_getElem? (i := 57) rfl)) (fun _ hZ => notFace_of_selects (args := #[]) (mvT hZ (hw _ (List.mem_of_getElem? (i := 59) rfl)))) (hw _ (List.mem_of_getElem? (i := 59) rfl)) (hw _ (List.mem_of_getElem? (i := 58) rfl)) (hw _ (List.mem_of_getElem? (i := 2) rfl)) (hw _ (List.mem_of_getElem? (i := 60) rfl)) (by decide) rfl rfl (lenOf pd_2 rfl) rfl at_196 rfl (Nat.le_of_ble_eq_true rfl) (Nat.le_of_ble_eq_true rfl) (Nat.le_of_ble_eq_true rfl) (Nat.le_of_ble_eq_true rfl) (fun _ z => nomatch z) (fun _ z => nomatch z) (fun vq275 hq276 Kq277 qq278 => ?_)
      obtain ⟨rfl, rfl⟩ := qq278
      simp only [Option.toList, List.cons_append, List.nil_append]
      refine Rn.callV (pc' := 202) (argsL := [.int (0 : Int32)]) (a := aq1) (rest := []) (ct_gv10 Z a0 hw aq1 kk kb vv vb sz fs k1 k1 w hq252 nd Mq250 ) Mq250.1 (hw _ (List.mem_of_getElem? (i := 73) rfl)) (hw _ (List.mem_of_getElem? (i := 74) rfl)) (fun _ hZ => notFace_of_selects (args := #[]) (mvT hZ (hw _ (List.mem_of_getElem? (i := 76) rfl)))) (hw _ (List.mem_of_getElem? (i := 76) rfl)) (hw _ (List.mem_of_getElem? (i := 75) rfl)) (hw _ (List.mem_of_getElem? (i := 2) rfl)) (hw _ (List.mem_of_getElem? (i := 77) rfl)) (by decide) rfl rfl (lenOf pd_7 rfl) rfl at_199 rfl (Nat.le_of_ble_eq_true rfl) (Nat.le_of_ble_eq_true rfl) (Nat.le_of_ble_eq_true rfl) (Nat.le_of_ble_eq_true rfl) (fun _ z => nomatch z) (fun _ z => nomatch z) (fun vq279 hq280 Kq281 qq282 => ?_)
      obtain ⟨rfl, rfl⟩ := qq282
      simp only [Option.toList, List.cons_append, List.nil_append]
      refine Rn.lload (pc' := 204) at_202 rfl rfl ?_
      refine Rn.lcmp (pc' := 205) (v := (0 : Int32)) at_204 (own_cs _) rfl ?_
      refine Rn.if_ne (pc' := 212) (pn := 208) at_205 (by decide) (by decide) rfl (fun cq283 => absurd cq283 (by decide)) (fun cq283 => ?_)
      refine Rn.iconst (pc' := 209) (v := (1 : Int32)) at_208 rfl rfl ?_
      refine Rn.goto (pc' := 213) at_209 (by decide) (by decide) ?_
      refine Rn.istore (pc' := 215) (Ls' := #[.val (.int k1), .val (.int k1), .val (.long v1), .second, .val (.long v2), .second, .val (.long w), .second, .val (.int sel), .val (.ref aq1), .val (.int (1 : Int32)), .val (.int k1), .val (.int k1), .val (.long v2), .second, .val (.int (0 : Int32)), .val (.int (1 : Int32)), .val (.int (1 : Int32)), .val (.long w), .second]) at_213 rfl rfl ?_
      refine Rn.iload (pc' := 217) at_215 rfl rfl ?_
      refine Rn.retN (t := .boolean) rfl (by simp) at_217 (Nat.le_of_ble_eq_true rfl) (Nat.le_of_ble_eq_true rfl) ?_
      rfl
set_option maxRecDepth 65536 in
set_option maxHeartbeats 40000000 in
theorem comes_1 {Post : Tables → Env → Array Value → State → Outcome → State → Prop} (hpost : ∀ tb e args s v u, (limb_1_1.after args s (.returned v) u = true ∧ limb_1_2.after args s (.returned v) u = true ∧ True) → FrameEnd s (.returned v) u (Jvm.fieldLocs frame_1_writes args s ++ Jvm.arrayLocs frame_1_arrays args s ++ Jvm.staticLocs frame_1_statics s) 24 128 → Post tb e args s (.returned v) u) :
    ArmFor flags0 classFile x code maxLocals ret World_1 tables_1 room_1 Calls_1 rest_1 Pre_1 Post := by
  intro l hfl _ _ p e ha hc hk s m args below hf hA hF happ hP
  obtain ⟨hcalls, hrest, hpre⟩ := hP
  obtain ⟨-, -, -, hnamed, -, -, -, hat⟩ := (Spec.applies_iff hf).mp happ
  obtain ⟨hg, hn⟩ := and_e (Cond.before_iff.mp (show (Jvm.Cond.and given_1 narrow_1).before args s = true from hpre))
  obtain ⟨hn1, hg1⟩ := and_e hg
  obtain ⟨w0, w1, w2, w3, w4, w5, rfl⟩ : ∃ w0 w1 w2 w3 w4 w5 : Value, args = #[w0, w1, w2, w3, w4, w5] := by
    have hs : args.size = 6 := by simpa [Cond.value, given_1] using hn1
    obtain ⟨L⟩ := args
    match L, hs with
    | [w0, w1, w2, w3, w4, w5], _ => exact ⟨w0, w1, w2, w3, w4, w5, rfl⟩
  have hw := fun d (hd : d ∈ tables_1) => atoms_spec (ws := Jvm.Cond.code x code maxLocals ret :: tables_1) hat d (List.mem_cons_of_mem _ hd)
  have hfit : Fit s := fun {y c} hc i hi => by
    obtain ⟨ha, rfl⟩ := Array.getElem?_eq_some_iff.mp hc
    have q := List.all_eq_true.mp ((Array.all_eq_true_iff_forall_mem.mp hF) _ (Array.getElem_mem ha)) i (List.mem_range.mpr hi)
    simpa [Array.getElem?_eq_getElem hi] using q
  obtain ⟨ka0, kb0⟩ := and_e hg1
  obtain ⟨x0, e0⟩ := is_v ka0
  obtain rfl : w0 = (.int x0) := Option.some.inj e0
  obtain ⟨ka1, kb1⟩ := and_e kb0
  obtain ⟨x1, e1⟩ := is_v ka1
  obtain rfl : w1 = (.int x1) := Option.some.inj e1
  obtain ⟨ka2, kb2⟩ := and_e kb1
  obtain ⟨x2, e2⟩ := isL_v ka2
  obtain rfl : w2 = (.long x2) := Option.some.inj e2
  obtain ⟨ka3, kb3⟩ := and_e kb2
  obtain ⟨x3, e3⟩ := isL_v ka3
  obtain rfl : w3 = (.long x3) := Option.some.inj e3
  obtain ⟨ka4, kb4⟩ := and_e kb3
  obtain ⟨x4, e4⟩ := isL_v ka4
  obtain rfl : w4 = (.long x4) := Option.some.inj e4
  obtain ⟨x5, e5⟩ := is_v kb4
  obtain rfl : w5 = (.int x5) := Option.some.inj e5
  have M := met_of (ws := []) (wsT := tables_1) (as := #[(.int x0), (.int x1), (.long x2), (.long x3), (.long x4), (.int x5)]) (Ls := #[.val (.int x0), .val (.int x1), .val (.long x2), .second, .val (.long x3), .second, .val (.long x4), .second, .val (.int x5), .unset, .unset, .unset, .unset, .unset, .unset, .unset, .unset, .unset, .unset, .unset]) (d := "(IIJJJI)Z") pn_2 (by intro m; first | (simp [entryFrame, mkF, argsToLocals, Value.category, maxLocals]; done) | rfl) ⟨Nat.le_refl _, fun _ _ q => q⟩ (fun _ z => nomatch z) l (own_law s _ hw x0 x1 x5 x2 x3 x4)
  obtain ⟨n, o, h1, h2, h3, v, L, rfl, ⟨N, -, rfl⟩, hq⟩ := M p e ha hc hk s m _ below hf ((Spec.applies_iff_loose hf).mp happ).1 ⟨rfl, State.Warmed39.refl s, rfl⟩ trivial
  refine ⟨n, _, h1, h2, h3, hpost _ _ _ _ _ _ ⟨Cond.after_iff.mpr rfl, Cond.after_iff.mpr (eq_i res_at (Term.int_eval (1)) rfl), trivial⟩ ⟨hq.1, hq.2.1, (hq.2.2.sift fun y hy => Or.inr (N y hy)).mono (by decide) (by decide)⟩⟩
theorem main_1_1 : Claimed_1_1 := comes_1 fun _ _ _ _ _ _ h hF => ⟨h.1, hF⟩
theorem main_1_2 : Claimed_1_2 := comes_1 fun _ _ _ _ _ _ h hF => ⟨h.2.1, hF⟩
end Jvm.Pilot.@@N@@
namespace Jvm.Pilot.@@N@@
open Jvm Jvm.ClassFile Sem Op Lib Jvm.Free Jvm.Stand Jvm.Pilot.@@N@@.Jvm.D
/-! MADE BY PROGRAM (witnessworld.py) out of the Statement's table words and the real class files: 13 classes; the members and pool entries that the words name. The judged class is class 1, her method 1. -/
namespace start1
open Jvm.ClassFile
def u (s : String) : CpInfo := .utf8 (stringToUtf16 s)
/-- a pool by its gaps: so many unusable entries, then the entry; so many at the end -/
def gap : Nat → List CpInfo → List CpInfo
  | 0, r => r
  | n + 1, r => .unusable :: gap n r
def poolList (es : List (Nat × CpInfo)) (last : Nat) : List CpInfo := es.foldr (fun e r => gap e.1 (e.2 :: r)) (gap last [])
def pool (es : List (Nat × CpInfo)) (last : Nat) : Array CpInfo := ⟨poolList es last⟩
def fileOf (pool : Array CpInfo) (this : Nat) (attrs : Array Attribute := #[]) (ms : Array MethodInfo := #[]) (fl : Nat := 33) (sup : Nat := 0) (ifs : Array Nat := #[]) (fds : Array FieldInfo := #[]) : ClassFile where
  minorVersion := 0
  majorVersion := 65
  constantPool := pool
  accessFlags := fl
  thisClass := this
  superClass := sup
  interfaces := ifs
  fields := fds
  methods := ms
  attributes := attrs
def plain (name : String) (sup : Option ClassId) : Class where
  name := name
  kind := .ordinary
  loader := none
  accessFlags := 33
  super := sup
  interfaces := #[]
  cf := none
  fields := #[]
  methods := #[]
  instanceTypes := #[]
  staticTypes := #[]
  resolved := #[]
  callSites := []
  init := .initialized
  statics := none
  mirror := none

def pool0 : Array CpInfo := pool [(5, u "<init>"), (0, u "()V"), (1, .class_ 10), (1, u "java/lang/Object")] 113

def k0c0 : Code := { maxStack := 0, maxLocals := 1, code := object_method_1_code, exceptionTable := #[], attributes := #[] }
def k0m0 : Method := { name := "<init>", desc := "()V", sig := { parameters := [], returnType := none }, accessFlags := 1, code := some k0c0 }
/-- java/lang/Object -/
def k0 : Class := { plain "java/lang/Object" none with
  accessFlags := 33
  interfaces := #[]
  cf := some (fileOf pool0 8 #[] #[{ accessFlags := 1, nameIndex := 5, descriptorIndex := 6, attributes := #[] }] 33 0 #[] #[])
  fields := #[]
  methods := #[k0m0]
  instanceTypes := #[]
  staticTypes := #[]
  resolved := Array.replicate 124 none
  statics := none }

def pool1 : Array CpInfo := pool [(2, .class_ 4), (0, .nameAndType 5 6), (0, u "java/lang/Object"), (0, u "<init>"), (0, u "()V"), (0, .class_ 8), (0, u "com/example/ratecraft/ratecraft/SortedIntLongMap"), (0, .methodref 7 3), (0, .methodref 7 11), (0, .nameAndType 12 13), (0, u "put"), (0, u "(IJ)V"), (0, .methodref 7 15), (0, .nameAndType 16 17), (0, u "floor"), (0, u "(I)I"), (0, .methodref 7 19), (0, .nameAndType 20 13), (0, u "setValue"), (0, .methodref 7 22), (0, .nameAndType 23 24), (0, u "value"), (0, u "(I)J"), (0, .methodref 7 26), (0, .nameAndType 27 17), (0, u "key"), (0, .methodref 7 29), (0, .nameAndType 30 31), (0, u "size"), (0, u "()I"), (0, .class_ 33), (0, u "com/example/ratecraft/ratecraft/SortedIntLongMapSetValuePinLaw"), (2, u "law"), (0, u "(IIJJJI)Z")] 3

def k1m0 : Method := { name := "<init>", desc := "()V", sig := { parameters := [], returnType := none }, accessFlags := 1, code := none }
def k1c1 : Code := { maxStack := 4, maxLocals := 20, code := code, exceptionTable := #[], attributes := #[] }
def k1m1 : Method := { name := "law", desc := "(IIJJJI)Z", sig := { parameters := [.int, .int, .long, .long, .long, .int], returnType := some .boolean }, accessFlags := 9, code := some k1c1 }
/-- com/example/ratecraft/ratecraft/SortedIntLongMapSetValuePinLaw -/
def k1 : Class := { plain "com/example/ratecraft/ratecraft/SortedIntLongMapSetValuePinLaw" (some 0) with
  accessFlags := 49
  interfaces := #[]
  cf := some (fileOf pool1 32 #[] #[{ accessFlags := 1, nameIndex := 5, descriptorIndex := 6, attributes := #[] }, { accessFlags := 9, nameIndex := 36, descriptorIndex := 37, attributes := #[] }] 49 2 #[] #[])
  fields := #[]
  methods := #[k1m0, k1m1]
  instanceTypes := #[]
  staticTypes := #[]
  resolved := Array.replicate 41 none
  statics := none }

def pool2 : Array CpInfo := pool [(1, .class_ 2), (0, u "com/example/ratecraft/ratecraft/SortedIntLongMap"), (0, .methodref 4 5), (0, .class_ 6), (0, .nameAndType 7 8), (0, u "java/lang/Object"), (0, u "<init>"), (0, u "()V"), (0, .class_ 10), (0, u "[I"), (0, .fieldref 1 12), (0, .nameAndType 13 14), (0, u "keys"), (0, u "[[I"), (0, .class_ 16), (0, u "[J"), (0, .fieldref 1 18), (0, .nameAndType 19 20), (0, u "values"), (0, u "[[J"), (0, .fieldref 1 22), (0, .nameAndType 23 10), (0, u "sizes"), (0, .fieldref 1 25), (0, .nameAndType 26 10), (0, u "firsts"), (0, .fieldref 1 28), (0, .nameAndType 29 30), (0, u "blocks"), (0, u "I"), (0, .fieldref 1 32), (0, .nameAndType 33 30), (0, u "size"), (0, .methodref 1 35), (0, .nameAndType 36 37), (0, u "blockOf"), (0, u "(I)I"), (0, .methodref 1 39), (0, .nameAndType 40 41), (0, u "lastAtMost"), (0, u "(II)I"), (0, .methodref 1 43), (0, .nameAndType 44 41), (0, u "position"), (2, u "floor"), (3, u "()I"), (3, .methodref 56 57), (0, .class_ 58), (0, .nameAndType 59 60), (0, u "java/util/Arrays"), (0, u "binarySearch"), (0, u "([IIII)I"), (0, .methodref 1 62), (0, .nameAndType 63 64), (0, u "insert"), (0, u "(IIIJ)V"), (20, .methodref 86 87), (0, .class_ 88), (0, .nameAndType 89 90), (0, u "java/lang/System"), (0, u "arraycopy"), (0, u "(Ljava/lang/Object;ILjava/lang/Object;II)V"), (8, u "SHIFT"), (2, u "BLOCK"), (1, u "INDEX"), (5, u "key"), (0, u "value"), (0, u "(I)J"), (0, u "setValue"), (0, u "(IJ)V"), (0, u "put")] 4

def k2c0 : Code := { maxStack := 5, maxLocals := 1, code := prog_36_method_1_code, exceptionTable := #[], attributes := #[] }
def k2m0 : Method := { name := "<init>", desc := "()V", sig := { parameters := [], returnType := none }, accessFlags := 0, code := some k2c0 }
def k2c1 : Code := { maxStack := 1, maxLocals := 1, code := prog_36_method_2_code, exceptionTable := #[], attributes := #[] }
def k2m1 : Method := { name := "size", desc := "()I", sig := { parameters := [], returnType := some .int }, accessFlags := 0, code := some k2c1 }
def k2c2 : Code := { maxStack := 3, maxLocals := 4, code := prog_36_method_3_code, exceptionTable := #[], attributes := #[] }
def k2m2 : Method := { name := "floor", desc := "(I)I", sig := { parameters := [.int], returnType := some .int }, accessFlags := 0, code := some k2c2 }
def k2c3 : Code := { maxStack := 3, maxLocals := 2, code := prog_36_method_7_code, exceptionTable := #[], attributes := #[] }
def k2m3 : Method := { name := "key", desc := "(I)I", sig := { parameters := [.int], returnType := some .int }, accessFlags := 0, code := some k2c3 }
def k2c4 : Code := { maxStack := 3, maxLocals := 2, code := prog_36_method_8_code, exceptionTable := #[], attributes := #[] }
def k2m4 : Method := { name := "value", desc := "(I)J", sig := { parameters := [.int], returnType := some .long }, accessFlags := 0, code := some k2c4 }
def k2c5 : Code := { maxStack := 4, maxLocals := 4, code := prog_36_method_9_code, exceptionTable := #[], attributes := #[] }
def k2m5 : Method := { name := "setValue", desc := "(IJ)V", sig := { parameters := [.int, .long], returnType := none }, accessFlags := 0, code := some k2c5 }
def k2c6 : Code := { maxStack := 6, maxLocals := 6, code := prog_36_method_10_code, exceptionTable := #[], attributes := #[] }
def k2m6 : Method := { name := "put", desc := "(IJ)V", sig := { parameters := [.int, .long], returnType := none }, accessFlags := 0, code := some k2c6 }
def k2c7 : Code := { maxStack := 2, maxLocals := 2, code := prog_36_method_13_code, exceptionTable := #[], attributes := #[] }
def k2m7 : Method := { name := "position", desc := "(II)I", sig := { parameters := [.int, .int], returnType := some .int }, accessFlags := 10, code := some k2c7 }
def k2c8 : Code := { maxStack := 2, maxLocals := 5, code := prog_36_method_14_code, exceptionTable := #[], attributes := #[] }
def k2m8 : Method := { name := "blockOf", desc := "(I)I", sig := { parameters := [.int], returnType := some .int }, accessFlags := 2, code := some k2c8 }
def k2c9 : Code := { maxStack := 4, maxLocals := 4, code := prog_36_method_15_code, exceptionTable := #[], attributes := #[] }
def k2m9 : Method := { name := "lastAtMost", desc := "(II)I", sig := { parameters := [.int, .int], returnType := some .int }, accessFlags := 2, code := some k2c9 }
def k2c10 : Code := { maxStack := 7, maxLocals := 8, code := prog_36_method_16_code, exceptionTable := #[], attributes := #[] }
def k2m10 : Method := { name := "insert", desc := "(IIIJ)V", sig := { parameters := [.int, .int, .int, .long], returnType := none }, accessFlags := 2, code := some k2c10 }
/-- com/example/ratecraft/ratecraft/SortedIntLongMap -/
def k2 : Class := { plain "com/example/ratecraft/ratecraft/SortedIntLongMap" (some 0) with
  accessFlags := 48
  interfaces := #[]
  cf := some (fileOf pool2 1 #[] #[{ accessFlags := 0, nameIndex := 7, descriptorIndex := 8, attributes := #[] }, { accessFlags := 0, nameIndex := 33, descriptorIndex := 51, attributes := #[] }, { accessFlags := 0, nameIndex := 47, descriptorIndex := 37, attributes := #[] }, { accessFlags := 0, nameIndex := 110, descriptorIndex := 37, attributes := #[] }, { accessFlags := 0, nameIndex := 111, descriptorIndex := 112, attributes := #[] }, { accessFlags := 0, nameIndex := 113, descriptorIndex := 114, attributes := #[] }, { accessFlags := 0, nameIndex := 115, descriptorIndex := 114, attributes := #[] }, { accessFlags := 10, nameIndex := 44, descriptorIndex := 41, attributes := #[] }, { accessFlags := 2, nameIndex := 36, descriptorIndex := 37, attributes := #[] }, { accessFlags := 2, nameIndex := 40, descriptorIndex := 41, attributes := #[] }, { accessFlags := 2, nameIndex := 63, descriptorIndex := 64, attributes := #[] }] 48 4 #[] #[{ accessFlags := 26, nameIndex := 99, descriptorIndex := 30, attributes := #[] }, { accessFlags := 26, nameIndex := 102, descriptorIndex := 30, attributes := #[] }, { accessFlags := 26, nameIndex := 104, descriptorIndex := 30, attributes := #[] }, { accessFlags := 2, nameIndex := 13, descriptorIndex := 14, attributes := #[] }, { accessFlags := 2, nameIndex := 19, descriptorIndex := 20, attributes := #[] }, { accessFlags := 2, nameIndex := 23, descriptorIndex := 10, attributes := #[] }, { accessFlags := 2, nameIndex := 26, descriptorIndex := 10, attributes := #[] }, { accessFlags := 2, nameIndex := 29, descriptorIndex := 30, attributes := #[] }, { accessFlags := 2, nameIndex := 33, descriptorIndex := 30, attributes := #[] }])
  fields := #[{ name := "SHIFT", type := .int, accessFlags := 26, slot := 0, constantValue := 0 }, { name := "BLOCK", type := .int, accessFlags := 26, slot := 1, constantValue := 0 }, { name := "INDEX", type := .int, accessFlags := 26, slot := 2, constantValue := 0 }, { name := "keys", type := (.array (.array .int)), accessFlags := 2, slot := 0, constantValue := 0 }, { name := "values", type := (.array (.array .long)), accessFlags := 2, slot := 1, constantValue := 0 }, { name := "sizes", type := (.array .int), accessFlags := 2, slot := 2, constantValue := 0 }, { name := "firsts", type := (.array .int), accessFlags := 2, slot := 3, constantValue := 0 }, { name := "blocks", type := .int, accessFlags := 2, slot := 4, constantValue := 0 }, { name := "size", type := .int, accessFlags := 2, slot := 5, constantValue := 0 }]
  methods := #[k2m0, k2m1, k2m2, k2m3, k2m4, k2m5, k2m6, k2m7, k2m8, k2m9, k2m10]
  instanceTypes := #[(.array (.array .int)), (.array (.array .long)), (.array .int), (.array .int), .int, .int]
  staticTypes := #[.int, .int, .int]
  resolved := Array.replicate 120 none
  statics := none }

def pool3 : Array CpInfo := pool [(2, .class_ 4), (1, u "java/lang/Object"), (0, u "<init>"), (0, u "()V"), (6, .methodref 14 15), (0, .class_ 16), (0, .nameAndType 17 18), (0, u "java/util/Arrays"), (0, u "rangeCheck"), (0, u "(III)V"), (55, .class_ 76), (1, u "java/util/Arrays$NaturalOrder"), (36, .class_ 115), (1, u "java/util/Arrays$LegacyMergeSort"), (1, u "Z"), (89, u "binarySearch0"), (1, .methodref 14 210), (0, .nameAndType 207 211), (0, u "([IIII)I"), (163, .class_ 376), (0, u "java/util/Arrays$ArrayList"), (68, u "$assertionsDisabled"), (269, u "MIN_ARRAY_SORT_GRAN"), (0, u "I"), (2, u "INSERTIONSORT_THRESHOLD"), (74, u "binarySearch"), (180, .class_ 976), (0, u "java/util/Arrays$ArrayItr")] 52

def k3m0 : Method := { name := "<init>", desc := "()V", sig := { parameters := [], returnType := none }, accessFlags := 2, code := none }
def k3c1 : Code := { maxStack := 4, maxLocals := 3, code := jdk_65_method_30_code, exceptionTable := #[], attributes := #[] }
def k3m1 : Method := { name := "rangeCheck", desc := "(III)V", sig := { parameters := [.int, .int, .int], returnType := none }, accessFlags := 8, code := some k3c1 }
def k3c2 : Code := { maxStack := 4, maxLocals := 4, code := jdk_65_method_58_code, exceptionTable := #[], attributes := #[] }
def k3m2 : Method := { name := "binarySearch", desc := "([IIII)I", sig := { parameters := [(.array .int), .int, .int, .int], returnType := some .int }, accessFlags := 9, code := some k3c2 }
def k3c3 : Code := { maxStack := 2, maxLocals := 8, code := jdk_65_method_59_code, exceptionTable := #[], attributes := #[] }
def k3m3 : Method := { name := "binarySearch0", desc := "([IIII)I", sig := { parameters := [(.array .int), .int, .int, .int], returnType := some .int }, accessFlags := 10, code := some k3c3 }
/-- java/util/Arrays -/
def k3 : Class := { plain "java/util/Arrays" (some 0) with
  accessFlags := 49
  interfaces := #[]
  cf := some (fileOf pool3 14 #[.nestMembers #[975, 375, 113, 74]] #[{ accessFlags := 2, nameIndex := 5, descriptorIndex := 6, attributes := #[] }, { accessFlags := 8, nameIndex := 17, descriptorIndex := 18, attributes := #[] }, { accessFlags := 9, nameIndex := 794, descriptorIndex := 211, attributes := #[] }, { accessFlags := 10, nameIndex := 207, descriptorIndex := 211, attributes := #[] }] 49 2 #[] #[{ accessFlags := 26, nameIndex := 715, descriptorIndex := 716, attributes := #[] }, { accessFlags := 26, nameIndex := 719, descriptorIndex := 716, attributes := #[] }, { accessFlags := 4120, nameIndex := 445, descriptorIndex := 117, attributes := #[] }])
  fields := #[{ name := "MIN_ARRAY_SORT_GRAN", type := .int, accessFlags := 26, slot := 0, constantValue := 0 }, { name := "INSERTIONSORT_THRESHOLD", type := .int, accessFlags := 26, slot := 1, constantValue := 0 }, { name := "$assertionsDisabled", type := .boolean, accessFlags := 4120, slot := 2, constantValue := 0 }]
  methods := #[k3m0, k3m1, k3m2, k3m3]
  instanceTypes := #[]
  staticTypes := #[.int, .int, .boolean]
  resolved := Array.replicate 1029 none
  statics := none }

def pool4 : Array CpInfo := pool [(2, .class_ 4), (1, u "java/lang/Object"), (0, u "<init>"), (0, u "()V"), (1, .class_ 10), (1, u "java/lang/System"), (0, u "allowSecurityManager"), (0, u "I"), (16, u "cons"), (0, u "Ljava/io/Console;"), (77, .class_ 110), (1, u "java/lang/System$CallersHolder"), (43, u "initialErrStream"), (0, u "Ljava/io/PrintStream;"), (19, u "security"), (0, u "Ljava/lang/SecurityManager;"), (31, .class_ 209), (0, u "java/lang/System$1"), (7, u "props"), (0, u "Ljava/util/Properties;"), (2, u "lineSeparator"), (0, u "Ljava/lang/String;"), (96, .class_ 321), (1, u "java/lang/System$LoggerFinder"), (5, .class_ 328), (0, u "java/lang/System$Logger"), (67, u "err"), (2, u "out"), (91, u "notSupportedJnuEncoding"), (15, u "in"), (17, u "initialIn"), (0, u "Ljava/io/InputStream;"), (35, u "bootLayer"), (0, u "Ljava/lang/ModuleLayer;"), (99, .class_ 664), (0, u "java/lang/System$2"), (9, u "NEVER"), (2, u "MAYBE"), (49, u "arraycopy"), (0, u "(Ljava/lang/Object;ILjava/lang/Object;II)V"), (72, .class_ 802), (0, u "java/lang/System$Logger$Level")] 31

def k4m0 : Method := { name := "<init>", desc := "()V", sig := { parameters := [], returnType := none }, accessFlags := 2, code := none }
def k4m1 : Method := { name := "arraycopy", desc := "(Ljava/lang/Object;ILjava/lang/Object;II)V", sig := { parameters := [(.object "java/lang/Object"), .int, (.object "java/lang/Object"), .int, .int], returnType := none }, accessFlags := 265, code := none }
/-- java/lang/System -/
def k4 : Class := { plain "java/lang/System" (some 0) with
  accessFlags := 49
  interfaces := #[]
  cf := some (fileOf pool4 8 #[.nestMembers #[319, 327, 801, 108, 663, 208]] #[{ accessFlags := 2, nameIndex := 5, descriptorIndex := 6, attributes := #[] }, { accessFlags := 265, nameIndex := 727, descriptorIndex := 728, attributes := #[] }] 49 2 #[] #[{ accessFlags := 25, nameIndex := 507, descriptorIndex := 526, attributes := #[] }, { accessFlags := 25, nameIndex := 399, descriptorIndex := 155, attributes := #[] }, { accessFlags := 25, nameIndex := 396, descriptorIndex := 155, attributes := #[] }, { accessFlags := 10, nameIndex := 525, descriptorIndex := 526, attributes := #[] }, { accessFlags := 26, nameIndex := 674, descriptorIndex := 12, attributes := #[] }, { accessFlags := 26, nameIndex := 677, descriptorIndex := 12, attributes := #[] }, { accessFlags := 10, nameIndex := 11, descriptorIndex := 12, attributes := #[] }, { accessFlags := 74, nameIndex := 175, descriptorIndex := 176, attributes := #[] }, { accessFlags := 10, nameIndex := 491, descriptorIndex := 222, attributes := #[] }, { accessFlags := 74, nameIndex := 29, descriptorIndex := 30, attributes := #[] }, { accessFlags := 74, nameIndex := 154, descriptorIndex := 155, attributes := #[] }, { accessFlags := 10, nameIndex := 217, descriptorIndex := 218, attributes := #[] }, { accessFlags := 10, nameIndex := 221, descriptorIndex := 222, attributes := #[] }, { accessFlags := 8, nameIndex := 562, descriptorIndex := 563, attributes := #[] }])
  fields := #[{ name := "in", type := (.object "java/io/InputStream"), accessFlags := 25, slot := 0, constantValue := 0 }, { name := "out", type := (.object "java/io/PrintStream"), accessFlags := 25, slot := 1, constantValue := 0 }, { name := "err", type := (.object "java/io/PrintStream"), accessFlags := 25, slot := 2, constantValue := 0 }, { name := "initialIn", type := (.object "java/io/InputStream"), accessFlags := 10, slot := 3, constantValue := 0 }, { name := "NEVER", type := .int, accessFlags := 26, slot := 4, constantValue := 0 }, { name := "MAYBE", type := .int, accessFlags := 26, slot := 5, constantValue := 0 }, { name := "allowSecurityManager", type := .int, accessFlags := 10, slot := 6, constantValue := 0 }, { name := "security", type := (.object "java/lang/SecurityManager"), accessFlags := 74, slot := 7, constantValue := 0 }, { name := "notSupportedJnuEncoding", type := (.object "java/lang/String"), accessFlags := 10, slot := 8, constantValue := 0 }, { name := "cons", type := (.object "java/io/Console"), accessFlags := 74, slot := 9, constantValue := 0 }, { name := "initialErrStream", type := (.object "java/io/PrintStream"), accessFlags := 74, slot := 10, constantValue := 0 }, { name := "props", type := (.object "java/util/Properties"), accessFlags := 10, slot := 11, constantValue := 0 }, { name := "lineSeparator", type := (.object "java/lang/String"), accessFlags := 10, slot := 12, constantValue := 0 }, { name := "bootLayer", type := (.object "java/lang/ModuleLayer"), accessFlags := 8, slot := 13, constantValue := 0 }]
  methods := #[k4m0, k4m1]
  instanceTypes := #[]
  staticTypes := #[(.object "java/io/InputStream"), (.object "java/io/PrintStream"), (.object "java/io/PrintStream"), (.object "java/io/InputStream"), .int, .int, .int, (.object "java/lang/SecurityManager"), (.object "java/lang/String"), (.object "java/io/Console"), (.object "java/io/PrintStream"), (.object "java/util/Properties"), (.object "java/lang/String"), (.object "java/lang/ModuleLayer")]
  resolved := Array.replicate 834 none
  statics := none }

def pool5 : Array CpInfo := pool [(1, u "java/lang/Cloneable"), (0, .class_ 1), (0, u "java/lang/Object"), (0, .class_ 3)] 3

/-- java/lang/Cloneable -/
def k5 : Class := { plain "java/lang/Cloneable" (some 0) with
  accessFlags := 1537
  interfaces := #[]
  cf := some (fileOf pool5 2 #[] #[] 1537 4 #[] #[])
  fields := #[]
  methods := #[]
  instanceTypes := #[]
  staticTypes := #[]
  resolved := Array.replicate 8 none
  statics := none }

def pool6 : Array CpInfo := pool [(1, u "java/io/Serializable"), (0, .class_ 1), (0, u "java/lang/Object"), (0, .class_ 3)] 3

/-- java/io/Serializable -/
def k6 : Class := { plain "java/io/Serializable" (some 0) with
  accessFlags := 1537
  interfaces := #[]
  cf := some (fileOf pool6 2 #[] #[] 1537 4 #[] #[])
  fields := #[]
  methods := #[]
  instanceTypes := #[]
  staticTypes := #[]
  resolved := Array.replicate 8 none
  statics := none }

/-- the primitive byte -/
def k7 : Class := { plain "byte" none with kind := .primitive 'B', accessFlags := 0x411 }
/-- [B -/
def k8 : Class := { plain "[B" (some 0) with kind := .array 7 .byte, interfaces := #[5, 6], accessFlags := 1041 }

/-- the primitive int -/
def k9 : Class := { plain "int" none with kind := .primitive 'I', accessFlags := 0x411 }
/-- [I -/
def k10 : Class := { plain "[I" (some 0) with kind := .array 9 .int, interfaces := #[5, 6], accessFlags := 1041 }

/-- the primitive long -/
def k11 : Class := { plain "long" none with kind := .primitive 'J', accessFlags := 0x411 }
/-- [J -/
def k12 : Class := { plain "[J" (some 0) with kind := .array 11 .long, interfaces := #[5, 6], accessFlags := 1041 }

/-- [[I -/
def k13 : Class := { plain "[[I" (some 0) with kind := .array 10 (.array .int), interfaces := #[5, 6], accessFlags := 1041 }
/-- [[J -/
def k14 : Class := { plain "[[J" (some 0) with kind := .array 12 (.array .long), interfaces := #[5, 6], accessFlags := 1041 }
def heap : Heap := #[]
def classes : Array Class := #[k0, k1, k2, k3, k4, k5, k6, k7, k8, k9, k10, k11, k12, k13, k14]
def interned : List (Array UInt16 × Addr) := []
def slotsUsed : Nat := 0
def theMethod : MethodId := ⟨1, 1⟩
def args0 : Array Value := #[.int 5, .int 3, .long 4, .long 1, .long 2, .int 0]
def aboutOver (below : List Frame) : State where
  vm := { classes := classes, interned := interned.toArray }
  heap := heap
  slotsUsed := slotsUsed
  threads := #[{ frames := .invoking theMethod args0 :: below }]
def below0 : List Frame := [.native { method := ⟨0, 0⟩, args := #[] }]
def about1 : State := aboutOver below0
def p0 : Program := .bare "" "" ""
def e0 : Env := launch0.env 0 0 0
theorem w_frames : about1.frames = Frame.invoking theMethod args0 :: below0 := rfl
set_option maxRecDepth 65536 in
theorem w_args : argsFit about1.vm theMethod args0 = true := by decide +kernel
set_option maxRecDepth 65536 in
theorem w_heap : heapFits about1 = true := by decide +kernel
set_option maxRecDepth 65536 in
theorem w_runnable : about1.curStatus? = some .runnable := by decide +kernel
set_option maxRecDepth 65536 in
theorem w_alone : about1.alone = true := by decide +kernel
set_option maxRecDepth 65536 in
theorem w_named : about1.methodNamed? x = some theMethod := by decide +kernel
set_option maxRecDepth 65536 in
theorem w_hears : about1.hears theMethod below0 = true := by decide +kernel
set_option maxRecDepth 65536 in
theorem w_ripe : about1.ripe theMethod args0 below0 = true := by decide +kernel
theorem w_running : about1.status = .running := rfl
set_option maxRecDepth 65536 in
theorem w_room : about1.hasRoom e0.platform room_1 = true :=
  launch0.hasRoom_least _ room_1 (by decide +kernel) (by decide +kernel) (by decide +kernel) (by decide +kernel) (by decide +kernel) (by decide +kernel)
theorem allAtoms_all (ts : List Jvm.Cond) (a : Array Jvm.Value) (st : Jvm.State) : (allAtoms ts).before a st = ts.all (fun c => c.before a st) := by
  induction ts with
  | nil => rfl
  | cons c t ih =>
    show (Jvm.Cond.and c (allAtoms t)).before a st = _
    rw [Jvm.Cond.before_and, ih, List.all_cons]
def words1 : List Jvm.Cond := Jvm.Cond.code x code maxLocals ret :: tables_1
/-- a 'code' word, met by the world's own term for the bytes: nothing is compared byte by byte -/
theorem code_word {y : MethodName} {bytes : ByteArray} {mx : Nat} {rt : Option FieldType} {a : Array Value} {s : State} {m : MethodId} {meth : Method} {c : Code} (h1 : s.methodNamed? y = some m) (h2 : s.vm.method? m = some meth) (h3 : meth.code = some c) (h4 : c.code = bytes)
    (h5 : (c.maxLocals == mx && c.exceptionTable.isEmpty && decide (c.maxStack ≤ mostOperands) && decide (meth.sig.returnType = rt) && !meth.locks && decide (parseMethodDescriptor y.desc = some meth.sig)) = true) : (Jvm.Cond.code y bytes mx rt).before a s = true := by
  simp only [Bool.and_eq_true, beq_iff_eq, Bool.not_eq_true', decide_eq_true_eq] at h5
  obtain ⟨⟨⟨⟨⟨g1, g2⟩, g3⟩, g4⟩, g5⟩, g6⟩ := h5
  simp [Cond.before, Cond.holds, Cond.value, h1, h2, h3, h4, g1, g2, g3, g4, g5, g6]
def isCode : Jvm.Cond → Bool
  | .code _ _ _ _ => true
  | _ => false
theorem all_split {L : List Jvm.Cond} {P : Jvm.Cond → Bool} (h1 : L.all (fun c => isCode c || P c) = true) (h2 : ∀ c ∈ L.filter isCode, P c = true) : L.all P = true := by
  refine List.all_eq_true.mpr fun c hc => ?_
  have h := List.all_eq_true.mp h1 c hc
  rcases Bool.eq_false_or_eq_true (isCode c) with hi | hi
  · exact h2 c (List.mem_filter.mpr ⟨hc, hi⟩)
  · simpa [hi] using h
set_option maxRecDepth 65536 in
theorem w_c0 : (Jvm.Cond.code x code maxLocals ret).before args0 about1 = true := code_word (m := ⟨1, 1⟩) (meth := k1m1) (c := k1c1) (by decide +kernel) rfl rfl rfl (by decide +kernel)
set_option maxRecDepth 65536 in
theorem w_c1 : (Jvm.Cond.code ({ cls := "com/example/ratecraft/ratecraft/SortedIntLongMap", name := "<init>", desc := "()V" } : Jvm.MethodName) prog_36_method_1_code (1 : Nat) (Option.none : Option Jvm.ClassFile.FieldType)).before args0 about1 = true := code_word (m := ⟨2, 0⟩) (meth := k2m0) (c := k2c0) (by decide +kernel) rfl rfl rfl (by decide +kernel)
set_option maxRecDepth 65536 in
theorem w_c2 : (Jvm.Cond.code ({ cls := "java/lang/Object", name := "<init>", desc := "()V" } : Jvm.MethodName) object_method_1_code (1 : Nat) (Option.none : Option Jvm.ClassFile.FieldType)).before args0 about1 = true := code_word (m := ⟨0, 0⟩) (meth := k0m0) (c := k0c0) (by decide +kernel) rfl rfl rfl (by decide +kernel)
set_option maxRecDepth 65536 in
theorem w_c3 : (Jvm.Cond.code ({ cls := "com/example/ratecraft/ratecraft/SortedIntLongMap", name := "put", desc := "(IJ)V" } : Jvm.MethodName) prog_36_method_10_code (6 : Nat) (Option.none : Option Jvm.ClassFile.FieldType)).before args0 about1 = true := code_word (m := ⟨2, 6⟩) (meth := k2m6) (c := k2c6) (by decide +kernel) rfl rfl rfl (by decide +kernel)
set_option maxRecDepth 65536 in
theorem w_c4 : (Jvm.Cond.code ({ cls := "com/example/ratecraft/ratecraft/SortedIntLongMap", name := "blockOf", desc := "(I)I" } : Jvm.MethodName) prog_36_method_14_code (5 : Nat) (Option.some Jvm.ClassFile.FieldType.int)).before args0 about1 = true := code_word (m := ⟨2, 8⟩) (meth := k2m8) (c := k2c8) (by decide +kernel) rfl rfl rfl (by decide +kernel)
set_option maxRecDepth 65536 in
theorem w_c5 : (Jvm.Cond.code ({ cls := "java/util/Arrays", name := "binarySearch", desc := "([IIII)I" } : Jvm.MethodName) jdk_65_method_58_code (4 : Nat) (Option.some Jvm.ClassFile.FieldType.int)).before args0 about1 = true := code_word (m := ⟨3, 2⟩) (meth := k3m2) (c := k3c2) (by decide +kernel) rfl rfl rfl (by decide +kernel)
set_option maxRecDepth 65536 in
theorem w_c6 : (Jvm.Cond.code ({ cls := "java/util/Arrays", name := "rangeCheck", desc := "(III)V" } : Jvm.MethodName) jdk_65_method_30_code (3 : Nat) (Option.none : Option Jvm.ClassFile.FieldType)).before args0 about1 = true := code_word (m := ⟨3, 1⟩) (meth := k3m1) (c := k3c1) (by decide +kernel) rfl rfl rfl (by decide +kernel)
set_option maxRecDepth 65536 in
theorem w_c7 : (Jvm.Cond.code ({ cls := "java/util/Arrays", name := "binarySearch0", desc := "([IIII)I" } : Jvm.MethodName) jdk_65_method_59_code (8 : Nat) (Option.some Jvm.ClassFile.FieldType.int)).before args0 about1 = true := code_word (m := ⟨3, 3⟩) (meth := k3m3) (c := k3c3) (by decide +kernel) rfl rfl rfl (by decide +kernel)
set_option maxRecDepth 65536 in
theorem w_c8 : (Jvm.Cond.code ({ cls := "com/example/ratecraft/ratecraft/SortedIntLongMap", name := "insert", desc := "(IIIJ)V" } : Jvm.MethodName) prog_36_method_16_code (8 : Nat) (Option.none : Option Jvm.ClassFile.FieldType)).before args0 about1 = true := code_word (m := ⟨2, 10⟩) (meth := k2m10) (c := k2c10) (by decide +kernel) rfl rfl rfl (by decide +kernel)
set_option maxRecDepth 65536 in
theorem w_c9 : (Jvm.Cond.code ({ cls := "com/example/ratecraft/ratecraft/SortedIntLongMap", name := "floor", desc := "(I)I" } : Jvm.MethodName) prog_36_method_3_code (4 : Nat) (Option.some Jvm.ClassFile.FieldType.int)).before args0 about1 = true := code_word (m := ⟨2, 2⟩) (meth := k2m2) (c := k2c2) (by decide +kernel) rfl rfl rfl (by decide +kernel)
set_option maxRecDepth 65536 in
theorem w_c10 : (Jvm.Cond.code ({ cls := "com/example/ratecraft/ratecraft/SortedIntLongMap", name := "lastAtMost", desc := "(II)I" } : Jvm.MethodName) prog_36_method_15_code (4 : Nat) (Option.some Jvm.ClassFile.FieldType.int)).before args0 about1 = true := code_word (m := ⟨2, 9⟩) (meth := k2m9) (c := k2c9) (by decide +kernel) rfl rfl rfl (by decide +kernel)
set_option maxRecDepth 65536 in
theorem w_c11 : (Jvm.Cond.code ({ cls := "com/example/ratecraft/ratecraft/SortedIntLongMap", name := "position", desc := "(II)I" } : Jvm.MethodName) prog_36_method_13_code (2 : Nat) (Option.some Jvm.ClassFile.FieldType.int)).before args0 about1 = true := code_word (m := ⟨2, 7⟩) (meth := k2m7) (c := k2c7) (by decide +kernel) rfl rfl rfl (by decide +kernel)
set_option maxRecDepth 65536 in
theorem w_c12 : (Jvm.Cond.code ({ cls := "com/example/ratecraft/ratecraft/SortedIntLongMap", name := "setValue", desc := "(IJ)V" } : Jvm.MethodName) prog_36_method_9_code (4 : Nat) (Option.none : Option Jvm.ClassFile.FieldType)).before args0 about1 = true := code_word (m := ⟨2, 5⟩) (meth := k2m5) (c := k2c5) (by decide +kernel) rfl rfl rfl (by decide +kernel)
set_option maxRecDepth 65536 in
theorem w_c13 : (Jvm.Cond.code ({ cls := "com/example/ratecraft/ratecraft/SortedIntLongMap", name := "value", desc := "(I)J" } : Jvm.MethodName) prog_36_method_8_code (2 : Nat) (Option.some Jvm.ClassFile.FieldType.long)).before args0 about1 = true := code_word (m := ⟨2, 4⟩) (meth := k2m4) (c := k2c4) (by decide +kernel) rfl rfl rfl (by decide +kernel)
set_option maxRecDepth 65536 in
theorem w_c14 : (Jvm.Cond.code ({ cls := "com/example/ratecraft/ratecraft/SortedIntLongMap", name := "key", desc := "(I)I" } : Jvm.MethodName) prog_36_method_7_code (2 : Nat) (Option.some Jvm.ClassFile.FieldType.int)).before args0 about1 = true := code_word (m := ⟨2, 3⟩) (meth := k2m3) (c := k2c3) (by decide +kernel) rfl rfl rfl (by decide +kernel)
set_option maxRecDepth 65536 in
theorem w_c15 : (Jvm.Cond.code ({ cls := "com/example/ratecraft/ratecraft/SortedIntLongMap", name := "size", desc := "()I" } : Jvm.MethodName) prog_36_method_2_code (1 : Nat) (Option.some Jvm.ClassFile.FieldType.int)).before args0 about1 = true := code_word (m := ⟨2, 1⟩) (meth := k2m1) (c := k2c1) (by decide +kernel) rfl rfl rfl (by decide +kernel)
def codes1 : List Jvm.Cond := [Jvm.Cond.code x code maxLocals ret, Jvm.Cond.code ({ cls := "com/example/ratecraft/ratecraft/SortedIntLongMap", name := "<init>", desc := "()V" } : Jvm.MethodName) prog_36_method_1_code (1 : Nat) (Option.none : Option Jvm.ClassFile.FieldType), Jvm.Cond.code ({ cls := "java/lang/Object", name := "<init>", desc := "()V" } : Jvm.MethodName) object_method_1_code (1 : Nat) (Option.none : Option Jvm.ClassFile.FieldType), Jvm.Cond.code ({ cls := "com/example/ratecraft/ratecraft/SortedIntLongMap", name := "put", desc := "(IJ)V" } : Jvm.MethodName) prog_36_method_10_code (6 : Nat) (Option.none : Option Jvm.ClassFile.FieldType), Jvm.Cond.code ({ cls := "com/example/ratecraft/ratecraft/SortedIntLongMap", name := "blockOf", desc := "(I)I" } : Jvm.MethodName) prog_36_method_14_code (5 : Nat) (Option.some Jvm.ClassFile.FieldType.int), Jvm.Cond.code ({ cls := "java/util/Arrays", name := "binarySearch", desc := "([IIII)I" } : Jvm.MethodName) jdk_65_method_58_code (4 : Nat) (Option.some Jvm.ClassFile.FieldType.int), Jvm.Cond.code ({ cls := "java/util/Arrays", name := "rangeCheck", desc := "(III)V" } : Jvm.MethodName) jdk_65_method_30_code (3 : Nat) (Option.none : Option Jvm.ClassFile.FieldType), Jvm.Cond.code ({ cls := "java/util/Arrays", name := "binarySearch0", desc := "([IIII)I" } : Jvm.MethodName) jdk_65_method_59_code (8 : Nat) (Option.some Jvm.ClassFile.FieldType.int), Jvm.Cond.code ({ cls := "com/example/ratecraft/ratecraft/SortedIntLongMap", name := "insert", desc := "(IIIJ)V" } : Jvm.MethodName) prog_36_method_16_code (8 : Nat) (Option.none : Option Jvm.ClassFile.FieldType), Jvm.Cond.code ({ cls := "com/example/ratecraft/ratecraft/SortedIntLongMap", name := "floor", desc := "(I)I" } : Jvm.MethodName) prog_36_method_3_code (4 : Nat) (Option.some Jvm.ClassFile.FieldType.int), Jvm.Cond.code ({ cls := "com/example/ratecraft/ratecraft/SortedIntLongMap", name := "lastAtMost", desc := "(II)I" } : Jvm.MethodName) prog_36_method_15_code (4 : Nat) (Option.some Jvm.ClassFile.FieldType.int), Jvm.Cond.code ({ cls := "com/example/ratecraft/ratecraft/SortedIntLongMap", name := "position", desc := "(II)I" } : Jvm.MethodName) prog_36_method_13_code (2 : Nat) (Option.some Jvm.ClassFile.FieldType.int), Jvm.Cond.code ({ cls := "com/example/ratecraft/ratecraft/SortedIntLongMap", name := "setValue", desc := "(IJ)V" } : Jvm.MethodName) prog_36_method_9_code (4 : Nat) (Option.none : Option Jvm.ClassFile.FieldType), Jvm.Cond.code ({ cls := "com/example/ratecraft/ratecraft/SortedIntLongMap", name := "value", desc := "(I)J" } : Jvm.MethodName) prog_36_method_8_code (2 : Nat) (Option.some Jvm.ClassFile.FieldType.long), Jvm.Cond.code ({ cls := "com/example/ratecraft/ratecraft/SortedIntLongMap", name := "key", desc := "(I)I" } : Jvm.MethodName) prog_36_method_7_code (2 : Nat) (Option.some Jvm.ClassFile.FieldType.int), Jvm.Cond.code ({ cls := "com/example/ratecraft/ratecraft/SortedIntLongMap", name := "size", desc := "()I" } : Jvm.MethodName) prog_36_method_2_code (1 : Nat) (Option.some Jvm.ClassFile.FieldType.int)]
set_option maxRecDepth 65536 in
theorem codes_eq : words1.filter isCode = codes1 := rfl
theorem w_codes : ∀ c ∈ words1.filter isCode, c.before args0 about1 = true := by
  rw [codes_eq]
  intro c hc
  simp only [codes1, List.mem_cons, List.not_mem_nil, or_false] at hc
  rcases hc with rfl | rfl | rfl | rfl | rfl | rfl | rfl | rfl | rfl | rfl | rfl | rfl | rfl | rfl | rfl | rfl
  · exact w_c0
  · exact w_c1
  · exact w_c2
  · exact w_c3
  · exact w_c4
  · exact w_c5
  · exact w_c6
  · exact w_c7
  · exact w_c8
  · exact w_c9
  · exact w_c10
  · exact w_c11
  · exact w_c12
  · exact w_c13
  · exact w_c14
  · exact w_c15
set_option maxRecDepth 65536 in
theorem w_t1 : (words1.take 24).all (fun c => isCode c || c.before args0 about1) = true := by decide +kernel
set_option maxRecDepth 65536 in
theorem w_t2 : ((words1.drop 24).take 24).all (fun c => isCode c || c.before args0 about1) = true := by decide +kernel
set_option maxRecDepth 65536 in
theorem w_t3 : (((words1.drop 24).drop 24).take 24).all (fun c => isCode c || c.before args0 about1) = true := by decide +kernel
set_option maxRecDepth 65536 in
theorem w_t4 : (((words1.drop 24).drop 24).drop 24).all (fun c => isCode c || c.before args0 about1) = true := by decide +kernel
theorem w_tables : (allAtoms (Jvm.Cond.code x code maxLocals ret :: tables_1)).before args0 about1 = true := by
  rw [allAtoms_all]
  show words1.all (fun c => c.before args0 about1) = true
  refine all_split ?_ w_codes
  rw [← List.take_append_drop 24 words1, List.all_append, w_t1, ← List.take_append_drop 24 (words1.drop 24), List.all_append, w_t2, ← List.take_append_drop 24 ((words1.drop 24).drop 24), List.all_append, w_t3, w_t4]
  rfl
set_option maxRecDepth 65536 in
theorem w_case : (Jvm.Cond.and given_1 narrow_1).before args0 about1 = true := by decide +kernel
theorem w_applies : (headSpec (Jvm.Cond.code x code maxLocals ret :: tables_1) room_1).applies x e0.platform about1 = true :=
  (Spec.applies_iff w_frames).mpr ⟨w_running, w_runnable, w_alone, w_named, w_hears, w_ripe, w_room, w_tables⟩
theorem atStart : AtStart classFile x code maxLocals ret World_1 tables_1 room_1 Calls_1 rest_1 Pre_1 launch0 p0 e0 about1 theMethod args0 below0 :=
  ⟨lists_1, trivial, launch0.admits_env _ _ _, launch0.least_env, fairChoices_fair.cas, fairChoices_fair.clock, w_frames, w_args, w_heap, w_applies, trivial, trivial, w_case⟩
end start1
theorem witness_1 : WitnessClaimed_1 := ⟨start1.p0, start1.e0, start1.about1, start1.theMethod, start1.args0, start1.below0, start1.atStart⟩
end Jvm.Pilot.@@N@@
