import JvmDerived
import JvmDerived.Pilot.@@N@@Statement
import JvmDerived.Pilot.@@N@@Code
set_option linter.unusedVariables false
set_option linter.unusedSimpArgs false
namespace Jvm.Pilot.@@N@@
open Jvm Jvm.ClassFile Sem Op Lib Jvm.Free Jvm.Stand Jvm.LawKit Jvm.RoadKit Bundle Jvm.Pilot.@@N@@.Jvm.D
/-! ## the walking judgement -/
section Core
variable {w : Bool} {Z : State} {EL : List (String × Nat)} {own nm : String} {bytes : ByteArray} {ml : Nat} {ret : Option FieldType} {R : Room} {hS : Heap} {ws : List Addr} {Q : Option Value → Heap → Prop} {os : List Addr} {cells slots : Nat} {h h' : Heap} {pc pc' : Nat} {Ls Ls' : Array Slot} {rest : List Value} {a0 : Array Value}
def Ok (p : Program) (s : State) (m : MethodId) (meth : Method) (c : Code) (Z : State) (own nm : String) (bytes : ByteArray) (ml : Nat) (ret : Option FieldType) : Prop :=
  p.tables.exec = Jvm.exec ∧ c.code = bytes ∧ c.maxLocals = ml ∧ Z.Warmed39 s.vm ∧ s.vm.findClass own = some m.cls ∧ meth.name = nm ∧ meth.sig.returnType = ret ∧ meth.locks = false
/-- what is known of the tables at hand: in a plain walk they are the start's; in a wide one literals may have been loaded -/
def Sn : Bool → State → List (String × Nat) → State → Vm → Heap → List Addr → Prop
  | false, _, _, s, vm0, _, _ => vm0 = s.vm
  | true, Z, EL, s, vm0, h, os => (∃ k0, s.Since vm0 k0 ∧ k0 ≤ h.size) ∧ CHr Z EL s.vm s.heap vm0 h ∧ (∃ a0, EW Z a0 EL) ∧ ∀ x ∈ os, x < h.size ∧ Safe Z EL vm0 h x
def EndC : Bool → State → List (String × Nat) → State → Outcome → State → List Loc → Nat → Nat → Prop
  | false, _, _, s, o, t, L, k, n => FrameEnd s o t L k n
  | true, Z, EL, s, o, t, L, k, n => CHr Z EL s.vm s.heap t.vm t.heap ∧ ReturnedEndW s o t L k n
def Go (w : Bool) (Z : State) (EL : List (String × Nat)) (p : Program) (e : Env) (s : State) (below : List Frame) (R : Room) (hS : Heap) (ws : List Addr) (Q : Option Value → Heap → Prop) (S : State) : Prop :=
  ∃ s₂ o, Steps p.tables e below S s₂ ∧ s₂.status = .running ∧ Ended s₂ below o ∧ ∃ v L, o = .returned v ∧ (Fr Z.heap.size L ∧ Keep hS s₂.heap ws ∧ Q v s₂.heap) ∧ EndC w Z EL s o s₂ L R.cells R.slots
/-- the walk stands at pc over the heap h and ends as Q says -/
def Rn (w : Bool) (Z : State) (EL : List (String × Nat)) (own nm : String) (bytes : ByteArray) (ml : Nat) (ret : Option FieldType) (R : Room) (hS : Heap) (ws : List Addr) (Q : Option Value → Heap → Prop) (os : List Addr) (cells slots : Nat) (h : Heap) (pc : Nat) (Ls : Array Slot) (st : List Value) : Prop :=
  ∀ (p : Program) (l : Launch) (e : Env) (s : State) (vm0 : Vm) (m : MethodId) (args : Array Value) (below : List Frame) (meth : Method) (c : Code) (T : State) (locs : List Loc),
    Ok p (s.setVm vm0) m meth c Z own nm bytes ml ret → Stand p l e R (s.setVm vm0) m args below meth c T locs cells slots → Sn w Z EL s vm0 h os → Fr Z.heap.size locs → Keep hS h ws → (Ext Z.heap hS ∧ ∀ x ∈ ws, Z.heap.size ≤ x) → T.heap = h →
    Go w Z EL p e s below R hS ws Q (T.setTop (mkF m pc Ls st))
theorem Go.pre {p : Program} {e : Env} {s : State} {below : List Frame} {S S' : State} (k : ∀ t, Steps p.tables e below S' t → Steps p.tables e below S t) (g : Go w Z EL p e s below R hS ws Q S') : Go w Z EL p e s below R hS ws Q S := by
  obtain ⟨s₂, o, h1, r⟩ := g
  exact ⟨s₂, o, k _ h1, r⟩
/-- a step that moves nothing but the frame -/
theorem Rn.pure {st st' : List Value} (k : Rn w Z EL own nm bytes ml ret R hS ws Q os cells slots h pc' Ls' st')
    (f : ∀ (p : Program) (l : Launch) (e : Env) (s : State) (m : MethodId) (args : Array Value) (below : List Frame) (meth : Method) (c : Code) (T : State) (locs : List Loc), p.tables.exec = Jvm.exec → c.code = bytes → Stand p l e R s m args below meth c T locs cells slots → Z.Warmed39 s.vm → s.vm.findClass own = some m.cls → T.heap = h → ∀ t, Steps p.tables e below (T.setTop (mkF m pc' Ls' st')) t → Steps p.tables e below (T.setTop (mkF m pc Ls st)) t) :
    Rn w Z EL own nm bytes ml ret R hS ws Q os cells slots h pc Ls st := by
  intro p l e s vm0 m args below meth c T locs ok X sn fr K O eT
  exact (k p l e s vm0 m args below meth c T locs ok X sn fr K O eT).pre (f p l e _ m args below meth c T locs ok.1 ok.2.1 X ok.2.2.2.1 ok.2.2.2.2.1 eT)
/-- a step that may resolve an entry of the tables, and moves nothing else but the frame -/
theorem Rn.note {st st' : List Value} (k : Rn w Z EL own nm bytes ml ret R hS ws Q os cells slots h pc' Ls' st')
    (f : ∀ (p : Program) (l : Launch) (e : Env) (s : State) (m : MethodId) (args : Array Value) (below : List Frame) (meth : Method) (c : Code) (T : State) (locs : List Loc), p.tables.exec = Jvm.exec → c.code = bytes → c.maxLocals = ml → Stand p l e R s m args below meth c T locs cells slots → Z.Warmed39 s.vm → s.vm.findClass own = some m.cls → T.heap = h → ∃ T', Stand p l e R s m args below meth c T' locs cells slots ∧ T'.heap = h ∧ ∀ t, Steps p.tables e below (T'.setTop (mkF m pc' Ls' st')) t → Steps p.tables e below (T.setTop (mkF m pc Ls st)) t) :
    Rn w Z EL own nm bytes ml ret R hS ws Q os cells slots h pc Ls st := by
  intro p l e s vm0 m args below meth c T locs ok X sn fr K O eT
  obtain ⟨T', X', e', stp⟩ := f p l e _ m args below meth c T locs ok.1 ok.2.1 ok.2.2.1 X ok.2.2.2.1 ok.2.2.2.2.1 eT
  exact (k p l e s vm0 m args below meth c T' locs ok X' sn fr K O e').pre stp
theorem Sn.ext {s : State} {vm0 : Vm} (E : Ext h h') (sn : Sn w Z EL s vm0 h os) : Sn w Z EL s vm0 h' os := by
  cases w
  · exact sn
  · obtain ⟨⟨k0, a, b⟩, c, d, f⟩ := sn
    exact ⟨⟨k0, a, Nat.le_trans b E.1⟩, c.trans (CHr.ext E c.1), d, fun x hx => ⟨Nat.lt_of_lt_of_le (f x hx).1 E.1, (f x hx).2.ext E c.1⟩⟩
/-- the address may be written: no literal's cell -/
def Sf (w : Bool) (Z : State) (EL : List (String × Nat)) (os : List Addr) (h : Heap) (a : Addr) : Prop := w = true → a ∈ os ∨ ∀ vm, Z.vm.Alike vm → Safe Z EL vm h a
theorem Sf.no {a : Addr} : Sf false Z EL os h a := fun q => nomatch q
theorem Sf.mem {a : Addr} (q : a ∈ os) : Sf w Z EL os h a := fun _ => Or.inl q
theorem Sf.exa {a : Addr} {C : String} (E : Exa Z h a C) (h1 : C ≠ "java/lang/String") (h2 : C ≠ "[B") : Sf w Z EL os h a := fun _ => Or.inr fun _ al => Safe.exa al E h1 h2
theorem Sf.arr {a : Addr} {cl : Cell} {ty : FieldType} (A : Arr Z h a cl ty) (ht : ty ≠ .byte) : Sf w Z EL os h a := fun _ => Or.inr fun _ al => Safe.arr al A ht
theorem Sn.keep {s : State} {vm0 : Vm} {ws' : List Addr} (hZ : Z.Warmed39 vm0) (K : Keep h h' ws') (q : ∀ x ∈ ws', Sf w Z EL os h x) (sn : Sn w Z EL s vm0 h os) : Sn w Z EL s vm0 h' os := by
  cases w
  · exact sn
  · obtain ⟨⟨k0, a, b⟩, c, d, f⟩ := sn
    have q' : ∀ x ∈ ws', Safe Z EL vm0 h x := fun x hx => ((q x hx) rfl).elim (fun z => (f x z).2) (fun z => z _ hZ.alike)
    exact ⟨⟨k0, a, Nat.le_trans b K.1⟩, c.trans (CHr.keep K q' c.1), d, fun x hx => ⟨Nat.lt_of_lt_of_le (f x hx).1 K.1, (f x hx).2.keep K q' c.1⟩⟩
theorem Sn.wr {s : State} {vm0 : Vm} {a : Addr} {sl : Nat} {v : Value} (hZ : Z.Warmed39 vm0) (W : Wr h h' a sl v) (q : Sf w Z EL os h a) (sn : Sn w Z EL s vm0 h os) : Sn w Z EL s vm0 h' os :=
  sn.keep hZ (Keep.of_wr W) fun x hx => by cases List.mem_singleton.mp hx; exact q
theorem ge_of {a : Addr} (O : Ext Z.heap hS ∧ ∀ x ∈ ws, Z.heap.size ≤ x) (q : a ∈ ws ∨ hS.size ≤ a) : Z.heap.size ≤ a := q.elim (O.2 a) fun z => Nat.le_trans O.1.1 z
theorem Rn.wrote {st st' : List Value} {a : Addr} {sl : Nat} {v : Value} (q : a ∈ ws ∨ hS.size ≤ a) (sf : Sf w Z EL os h a) (k : ∀ h', Wr h h' a sl v → Rn w Z EL own nm bytes ml ret R hS ws Q os cells slots h' pc' Ls' st')
    (f : ∀ (p : Program) (l : Launch) (e : Env) (s : State) (m : MethodId) (args : Array Value) (below : List Frame) (meth : Method) (c : Code) (T : State) (locs : List Loc), p.tables.exec = Jvm.exec → c.code = bytes → meth.name = nm → Stand p l e R s m args below meth c T locs cells slots → Z.Warmed39 s.vm → s.vm.findClass own = some m.cls → T.heap = h → ∃ T' h', Stand p l e R s m args below meth c T' (locs ++ [⟨a, sl⟩]) cells slots ∧ T'.heap = h' ∧ Wr h h' a sl v ∧ ∀ t, Steps p.tables e below (T'.setTop (mkF m pc' Ls' st')) t → Steps p.tables e below (T.setTop (mkF m pc Ls st)) t) :
    Rn w Z EL own nm bytes ml ret R hS ws Q os cells slots h pc Ls st := by
  intro p l e s vm0 m args below meth c T locs ok X sn fr K O eT
  obtain ⟨T', h', X', e', W, stp⟩ := f p l e _ m args below meth c T locs ok.1 ok.2.1 ok.2.2.2.2.2.1 X ok.2.2.2.1 ok.2.2.2.2.1 eT
  exact (k h' W p l e s vm0 m args below meth c T' _ ok X' (sn.wr ok.2.2.2.1 W sf) (Fr.snoc X' fr (ge_of O q)) (K.wr W q) O e').pre stp
theorem Rn.made {st st' : Addr → List Value} {st0 : List Value} {G : Heap → Addr → Prop} {c1 s1 : Nat} (k : ∀ h' a, a = h.size → hS.size ≤ a → Ext h h' → G h' a → Rn w Z EL own nm bytes ml ret R hS ws Q (a :: os) (cells + c1) (slots + s1) h' pc' Ls' (st' a))
    (lt : ∀ h', G h' h.size → h.size < h'.size)
    (f : ∀ (p : Program) (l : Launch) (e : Env) (s : State) (m : MethodId) (args : Array Value) (below : List Frame) (meth : Method) (c : Code) (T : State) (locs : List Loc), p.tables.exec = Jvm.exec → c.code = bytes → Stand p l e R s m args below meth c T locs cells slots → Z.Warmed39 s.vm → s.vm.findClass own = some m.cls → T.heap = h → ∃ T' h', Stand p l e R s m args below meth c T' locs (cells + c1) (slots + s1) ∧ T'.heap = h' ∧ Ext h h' ∧ G h' h.size ∧ ∀ t, Steps p.tables e below (T'.setTop (mkF m pc' Ls' (st' h.size))) t → Steps p.tables e below (T.setTop (mkF m pc Ls st0)) t) :
    Rn w Z EL own nm bytes ml ret R hS ws Q os cells slots h pc Ls st0 := by
  intro p l e s vm0 m args below meth c T locs ok X sn fr K O eT
  obtain ⟨T', h', X', e', E, g, stp⟩ := f p l e _ m args below meth c T locs ok.1 ok.2.1 X ok.2.2.2.1 ok.2.2.2.2.1 eT
  have sn1 : Sn w Z EL s vm0 h' os := sn.ext E
  have sn' : Sn w Z EL s vm0 h' (h.size :: os) := by
    cases w
    · exact sn1
    · refine ⟨sn1.1, sn1.2.1, sn1.2.2.1, fun x hx => ?_⟩
      rcases List.mem_cons.mp hx with rfl | hx
      · exact ⟨lt h' g, (Safe.new (Nat.le_refl _)).ext E sn.2.1.1⟩
      · exact sn1.2.2.2 x hx
  exact (k h' h.size rfl K.1 E g p l e s vm0 m args below meth c T' _ ok X' sn' fr (K.ext E) O e').pre stp
theorem Rn.old (k : Ext Z.heap h → Keep hS h ws → Rn w Z EL own nm bytes ml ret R hS ws Q os cells slots h pc Ls rest) : Rn w Z EL own nm bytes ml ret R hS ws Q os cells slots h pc Ls rest := by
  intro p l e s vm0 m args below meth c T locs ok X sn fr K O eT
  have X0 : Old Z Z.heap.size h := Old.keep (h := hS) ⟨rfl, O.1⟩ K O.2
  exact k X0.2 K p l e s vm0 m args below meth c T locs ok X sn fr K O eT
theorem Rn.more {c2 s2 : Nat} (hc : cells ≤ c2) (hs : slots ≤ s2) (k : Rn w Z EL own nm bytes ml ret R hS ws Q os c2 s2 h pc Ls rest) : Rn w Z EL own nm bytes ml ret R hS ws Q os cells slots h pc Ls rest := by
  intro p l e s vm0 m args below meth c T locs ok X sn fr K O eT
  exact k p l e s vm0 m args below meth c T locs ok (X.more hc hs) sn fr K O eT
theorem Rn.less {os' : List Addr} (q : ∀ x ∈ os', x ∈ os) (k : Rn w Z EL own nm bytes ml ret R hS ws Q os' cells slots h pc Ls rest) : Rn w Z EL own nm bytes ml ret R hS ws Q os cells slots h pc Ls rest := by
  intro p l e s vm0 m args below meth c T locs ok X sn fr K O eT
  refine k p l e s vm0 m args below meth c T locs ok X ?_ fr K O eT
  cases w
  · exact sn
  · exact ⟨sn.1, sn.2.1, sn.2.2.1, fun x hx => sn.2.2.2 x (q x hx)⟩
/-! ### the ends -/
theorem Rn.leave {v : Option Value} {st : List Value} (hc : cells ≤ R.cells) (hs : slots ≤ R.slots) (hv : ret = none → v = none) (q : Q v h)
    (f : ∀ (p : Program) (l : Launch) (e : Env) (s : State) (m : MethodId) (args : Array Value) (below : List Frame) (meth : Method) (c : Code) (T : State) (locs : List Loc) (fs : List Frame), p.tables.exec = Jvm.exec → c.code = bytes → meth.sig.returnType = ret → Stand p l e R s m args below meth c T locs cells slots → (∀ (f : JFrame) (acts : List Action), f.method = m → f.locked = none → f.entered = [] → (doReturn e (T.setTop f) acts v).1 = T.setFrames fs) → Steps p.tables e below (T.setTop (mkF m pc Ls st)) (T.setFrames fs)) :
    Rn w Z EL own nm bytes ml ret R hS ws Q os cells slots h pc Ls st := by
  intro p l e s vm0 m args below meth c T locs ok X sn fr K O eT
  obtain ⟨hx, hby, hml, hZ, hown, hnm, hret, hlk⟩ := ok
  subst eT
  cases w
  · cases (sn : vm0 = s.vm)
    obtain ⟨fs, hr, hrun, hended, hW, hsame⟩ := X.leave (v := v) (fun z => hv (hret.symm.trans z)) hlk
    exact ⟨_, _, f p l e _ m args below meth c T locs fs hx hby hret X hr, hrun, hended, _, _, rfl, ⟨fr, K, q⟩, ⟨_, rfl⟩, hW, hsame.mono hc hs⟩
  · obtain ⟨⟨k0, hS0, hk⟩, hC, ⟨b0, hE⟩, -⟩ := sn
    obtain ⟨fs, hr, hrun, hended, h1, h2, h3, h4⟩ := Jvm.Stand.leaveW X hS0 hk (v := v) (fun z => hv (hret.symm.trans z)) hlk
    exact ⟨_, _, f p l e _ m args below meth c T locs fs hx hby hret X hr, hrun, hended, _, _, rfl, ⟨fr, K, q⟩, (show CHr Z EL s.vm s.heap T.vm T.heap from hC.trans (CHv.at X hZ hE hC.1)), h1, h2, h3, h4.mono hc hs⟩
theorem Rn.retV (hr : ret = none) (hd : decode bytes pc = .ok (.return_, 1)) (hc : cells ≤ R.cells) (hs : slots ≤ R.slots) (q : Q none h) : Rn w Z EL own nm bytes ml ret R hS ws Q os cells slots h pc Ls [] :=
  Rn.leave (v := none) hc hs (fun _ => rfl) q fun p l e s m args below meth c T locs fs hx hby hret X hl => X.returnOut hx (hret.trans hr) (hb hby hd) hl
theorem Rn.retN {t : FieldType} {z : Int32} (hr : ret = some t) (ht : t = .boolean ∨ t = .byte ∨ t = .char ∨ t = .short) (hd : decode bytes pc = .ok (.ireturn, 1)) (hc : cells ≤ R.cells) (hs : slots ≤ R.slots) (q : Q (some (.int (nar t z))) h) : Rn w Z EL own nm bytes ml ret R hS ws Q os cells slots h pc Ls (.int z :: rest) :=
  Rn.leave (v := some (.int (nar t z))) hc hs (fun z => by rw [hr] at z; cases z) q fun p l e s m args below meth c T locs fs hx hby hret X hl => Jvm.RoadKit.retN X hx (hret.trans hr) ht (hb hby hd) hl
theorem Rn.retO {t : FieldType} {v : Value} {i : Instr} (hr : ret = some t) (hn : narrow t v = v) (hi : (i = .ireturn ∧ (t = .int ∨ t = .boolean ∨ t = .byte ∨ t = .char ∨ t = .short) ∧ ∃ z, v = .int z) ∨ (i = .lreturn ∧ t = .long ∧ ∃ z, v = .long z) ∨ (i = .dreturn ∧ t = .double ∧ ∃ z, v = .double z) ∨ (i = .freturn ∧ t = .float ∧ ∃ z, v = .float z) ∨ (i = .areturn ∧ t.isReference = true ∧ v.isRef = true)) (hd : decode bytes pc = .ok (i, 1)) (hc : cells ≤ R.cells) (hs : slots ≤ R.slots) (q : Q (some v) h) : Rn w Z EL own nm bytes ml ret R hS ws Q os cells slots h pc Ls (v :: rest) :=
  Rn.leave (v := some v) hc hs (fun z => by rw [hr] at z; cases z) q fun p l e s m args below meth c T locs fs hx hby hret X hl => retOut X hx (hret.trans hr) hn hi (hb hby hd) hl
theorem Rn.retI {z : Int32} (hr : ret = some .int) (hd : decode bytes pc = .ok (.ireturn, 1)) (hc : cells ≤ R.cells) (hs : slots ≤ R.slots) (q : Q (some (.int z)) h) : Rn w Z EL own nm bytes ml ret R hS ws Q os cells slots h pc Ls (.int z :: rest) :=
  Rn.retO hr rfl (Or.inl ⟨rfl, Or.inl rfl, _, rfl⟩) hd hc hs q
theorem Rn.retJ {z : Int64} (hr : ret = some .long) (hd : decode bytes pc = .ok (.lreturn, 1)) (hc : cells ≤ R.cells) (hs : slots ≤ R.slots) (q : Q (some (.long z)) h) : Rn w Z EL own nm bytes ml ret R hS ws Q os cells slots h pc Ls (.long z :: rest) :=
  Rn.retO hr rfl (Or.inr (Or.inl ⟨rfl, rfl, _, rfl⟩)) hd hc hs q
theorem Rn.retD {z : UInt64} (hr : ret = some .double) (hd : decode bytes pc = .ok (.dreturn, 1)) (hc : cells ≤ R.cells) (hs : slots ≤ R.slots) (q : Q (some (.double z)) h) : Rn w Z EL own nm bytes ml ret R hS ws Q os cells slots h pc Ls (.double z :: rest) :=
  Rn.retO hr rfl (Or.inr (Or.inr (Or.inl ⟨rfl, rfl, _, rfl⟩))) hd hc hs q
theorem Rn.retA {t : FieldType} {v : Value} (hr : ret = some t) (ht : t.isReference = true) (hv : v.isRef = true) (hd : decode bytes pc = .ok (.areturn, 1)) (hc : cells ≤ R.cells) (hs : slots ≤ R.slots) (q : Q (some v) h) : Rn w Z EL own nm bytes ml ret R hS ws Q os cells slots h pc Ls (v :: rest) :=
  Rn.retO hr (by rcases ref_cases hv with rfl | ⟨a, rfl⟩ <;> cases t <;> simp [FieldType.isReference] at ht <;> rfl) (Or.inr (Or.inr (Or.inr (Or.inr ⟨rfl, ht, hv⟩)))) hd hc hs q
end Core
section Steps
variable {w : Bool} {Z : State} {EL : List (String × Nat)} {own nm : String} {bytes : ByteArray} {ml : Nat} {ret : Option FieldType} {R : Room} {hS : Heap} {ws : List Addr} {Q : Option Value → Heap → Prop} {os : List Addr} {cells slots : Nat} {h h' : Heap} {pc pc' : Nat} {Ls Ls' : Array Slot} {rest : List Value} {a0 : Array Value}
theorem Rn.iconst {i : Int} {v : Int32} (hd : decode bytes pc = .ok (.iconst i, 1)) (hv : Int32.ofInt i = v) (hp : pc + 1 = pc') (k : Rn w Z EL own nm bytes ml ret R hS ws Q os cells slots h pc' Ls (.int v :: rest)) : Rn w Z EL own nm bytes ml ret R hS ws Q os cells slots h pc Ls rest :=
  k.pure fun p l e s m args below meth c T locs hx hby X hZ hown eT t r => by subst hp; exact XS.iconst X.here hx rfl (hb hby hd) (hv ▸ r)
theorem Rn.bipush {i : Int} {v : Int32} (hd : decode bytes pc = .ok (.bipush i, 2)) (hv : (Int8.ofInt i).toInt32 = v) (hp : pc + 2 = pc') (k : Rn w Z EL own nm bytes ml ret R hS ws Q os cells slots h pc' Ls (.int v :: rest)) : Rn w Z EL own nm bytes ml ret R hS ws Q os cells slots h pc Ls rest :=
  k.pure fun p l e s m args below meth c T locs hx hby X hZ hown eT t r => by subst hp; exact XS.bipush X.here hx rfl (hb hby hd) (hv ▸ r)
theorem Rn.sipush {i : Int} {v : Int32} (hd : decode bytes pc = .ok (.sipush i, 3)) (hv : (Int16.ofInt i).toInt32 = v) (hp : pc + 3 = pc') (k : Rn w Z EL own nm bytes ml ret R hS ws Q os cells slots h pc' Ls (.int v :: rest)) : Rn w Z EL own nm bytes ml ret R hS ws Q os cells slots h pc Ls rest :=
  k.pure fun p l e s m args below meth c T locs hx hby X hZ hown eT t r => by subst hp; exact XS.sipush X.here hx rfl (hb hby hd) (hv ▸ r)
theorem Rn.lconst {i : Fin 2} {v : Int64} (hd : decode bytes pc = .ok (.lconst i, 1)) (hv : Int64.ofNat i = v) (hp : pc + 1 = pc') (k : Rn w Z EL own nm bytes ml ret R hS ws Q os cells slots h pc' Ls (.long v :: rest)) : Rn w Z EL own nm bytes ml ret R hS ws Q os cells slots h pc Ls rest :=
  k.pure fun p l e s m args below meth c T locs hx hby X hZ hown eT t r => by subst hp; exact XT.lconst X.here hx rfl (hb hby hd) (hv ▸ r)
theorem Rn.dconst0 {v : UInt64} (hd : decode bytes pc = .ok (.dconst 0, 1)) (hv : FP.dconst0 = v) (hp : pc + 1 = pc') (k : Rn w Z EL own nm bytes ml ret R hS ws Q os cells slots h pc' Ls (.double v :: rest)) : Rn w Z EL own nm bytes ml ret R hS ws Q os cells slots h pc Ls rest :=
  k.pure fun p l e s m args below meth c T locs hx hby X hZ hown eT t r => by subst hp; exact XS.dconst0 X.here hx rfl (hb hby hd) hv r
theorem Rn.dconst1 {v : UInt64} (hd : decode bytes pc = .ok (.dconst 1, 1)) (hv : FP.dconst1 = v) (hp : pc + 1 = pc') (k : Rn w Z EL own nm bytes ml ret R hS ws Q os cells slots h pc' Ls (.double v :: rest)) : Rn w Z EL own nm bytes ml ret R hS ws Q os cells slots h pc Ls rest :=
  k.pure fun p l e s m args below meth c T locs hx hby X hZ hown eT t r => by subst hp; exact XS.dconst1 X.here hx rfl (hb hby hd) hv r
theorem Rn.aconst_null  (hd : decode bytes pc = .ok (.aconst_null, 1)) (hp : pc + 1 = pc') (k : Rn w Z EL own nm bytes ml ret R hS ws Q os cells slots h pc' Ls (.null :: rest)) : Rn w Z EL own nm bytes ml ret R hS ws Q os cells slots h pc Ls rest :=
  k.pure fun p l e s m args below meth c T locs hx hby X hZ hown eT t r => by subst hp; exact XS.aconstNull X.here hx rfl (hb hby hd) r
theorem Rn.iload {n : Nat} {v : Int32} (hd : decode bytes pc = .ok (.iload n, 2)) (hl : Ls[n]? = some (.val (.int v))) (hp : pc + 2 = pc') (k : Rn w Z EL own nm bytes ml ret R hS ws Q os cells slots h pc' Ls (.int v :: rest)) : Rn w Z EL own nm bytes ml ret R hS ws Q os cells slots h pc Ls rest :=
  k.pure fun p l e s m args below meth c T locs hx hby X hZ hown eT t r => by subst hp; exact XS.iload X.here hx rfl (hb hby hd) hl r
theorem Rn.iloadN {n : Fin 4} {v : Int32} (hd : decode bytes pc = .ok (.iload_n n, 1)) (hl : Ls[n.val]? = some (.val (.int v))) (hp : pc + 1 = pc') (k : Rn w Z EL own nm bytes ml ret R hS ws Q os cells slots h pc' Ls (.int v :: rest)) : Rn w Z EL own nm bytes ml ret R hS ws Q os cells slots h pc Ls rest :=
  k.pure fun p l e s m args below meth c T locs hx hby X hZ hown eT t r => by subst hp; exact XS.iloadN X.here hx rfl (hb hby hd) hl r
theorem Rn.istore {n : Nat} {v : Int32} (hd : decode bytes pc = .ok (.istore n, 2)) (hl : storeLocals Ls n (.int v) = some Ls') (hp : pc + 2 = pc') (k : Rn w Z EL own nm bytes ml ret R hS ws Q os cells slots h pc' Ls' rest) : Rn w Z EL own nm bytes ml ret R hS ws Q os cells slots h pc Ls (.int v :: rest) :=
  k.pure fun p l e s m args below meth c T locs hx hby X hZ hown eT t r => by subst hp; exact XS.istore X.here hx rfl (hb hby hd) rfl hl r
theorem Rn.istoreN {n : Fin 4} {v : Int32} (hd : decode bytes pc = .ok (.istore_n n, 1)) (hl : storeLocals Ls n.val (.int v) = some Ls') (hp : pc + 1 = pc') (k : Rn w Z EL own nm bytes ml ret R hS ws Q os cells slots h pc' Ls' rest) : Rn w Z EL own nm bytes ml ret R hS ws Q os cells slots h pc Ls (.int v :: rest) :=
  k.pure fun p l e s m args below meth c T locs hx hby X hZ hown eT t r => by subst hp; exact XS.istoreN X.here hx rfl (hb hby hd) rfl hl r
theorem Rn.lload {n : Nat} {v : Int64} (hd : decode bytes pc = .ok (.lload n, 2)) (hl : Ls[n]? = some (.val (.long v))) (hp : pc + 2 = pc') (k : Rn w Z EL own nm bytes ml ret R hS ws Q os cells slots h pc' Ls (.long v :: rest)) : Rn w Z EL own nm bytes ml ret R hS ws Q os cells slots h pc Ls rest :=
  k.pure fun p l e s m args below meth c T locs hx hby X hZ hown eT t r => by subst hp; exact XT.lload X.here hx rfl (hb hby hd) hl r
theorem Rn.lloadN {n : Fin 4} {v : Int64} (hd : decode bytes pc = .ok (.lload_n n, 1)) (hl : Ls[n.val]? = some (.val (.long v))) (hp : pc + 1 = pc') (k : Rn w Z EL own nm bytes ml ret R hS ws Q os cells slots h pc' Ls (.long v :: rest)) : Rn w Z EL own nm bytes ml ret R hS ws Q os cells slots h pc Ls rest :=
  k.pure fun p l e s m args below meth c T locs hx hby X hZ hown eT t r => by subst hp; exact XT.lloadN X.here hx rfl (hb hby hd) hl r
theorem Rn.lstore {n : Nat} {v : Int64} (hd : decode bytes pc = .ok (.lstore n, 2)) (hl : storeLocals Ls n (.long v) = some Ls') (hp : pc + 2 = pc') (k : Rn w Z EL own nm bytes ml ret R hS ws Q os cells slots h pc' Ls' rest) : Rn w Z EL own nm bytes ml ret R hS ws Q os cells slots h pc Ls (.long v :: rest) :=
  k.pure fun p l e s m args below meth c T locs hx hby X hZ hown eT t r => by subst hp; exact XT.lstore X.here hx rfl (hb hby hd) rfl hl r
theorem Rn.lstoreN {n : Fin 4} {v : Int64} (hd : decode bytes pc = .ok (.lstore_n n, 1)) (hl : storeLocals Ls n.val (.long v) = some Ls') (hp : pc + 1 = pc') (k : Rn w Z EL own nm bytes ml ret R hS ws Q os cells slots h pc' Ls' rest) : Rn w Z EL own nm bytes ml ret R hS ws Q os cells slots h pc Ls (.long v :: rest) :=
  k.pure fun p l e s m args below meth c T locs hx hby X hZ hown eT t r => by subst hp; exact XT.lstoreN X.here hx rfl (hb hby hd) rfl hl r
theorem Rn.dload {n : Nat} {v : UInt64} (hd : decode bytes pc = .ok (.dload n, 2)) (hl : Ls[n]? = some (.val (.double v))) (hp : pc + 2 = pc') (k : Rn w Z EL own nm bytes ml ret R hS ws Q os cells slots h pc' Ls (.double v :: rest)) : Rn w Z EL own nm bytes ml ret R hS ws Q os cells slots h pc Ls rest :=
  k.pure fun p l e s m args below meth c T locs hx hby X hZ hown eT t r => by subst hp; exact XS.dload X.here hx rfl (hb hby hd) hl r
theorem Rn.dloadN {n : Fin 4} {v : UInt64} (hd : decode bytes pc = .ok (.dload_n n, 1)) (hl : Ls[n.val]? = some (.val (.double v))) (hp : pc + 1 = pc') (k : Rn w Z EL own nm bytes ml ret R hS ws Q os cells slots h pc' Ls (.double v :: rest)) : Rn w Z EL own nm bytes ml ret R hS ws Q os cells slots h pc Ls rest :=
  k.pure fun p l e s m args below meth c T locs hx hby X hZ hown eT t r => by subst hp; exact XS.dloadN X.here hx rfl (hb hby hd) hl r
theorem Rn.dstore {n : Nat} {v : UInt64} (hd : decode bytes pc = .ok (.dstore n, 2)) (hl : storeLocals Ls n (.double v) = some Ls') (hp : pc + 2 = pc') (k : Rn w Z EL own nm bytes ml ret R hS ws Q os cells slots h pc' Ls' rest) : Rn w Z EL own nm bytes ml ret R hS ws Q os cells slots h pc Ls (.double v :: rest) :=
  k.pure fun p l e s m args below meth c T locs hx hby X hZ hown eT t r => by subst hp; exact XS.dstore X.here hx rfl (hb hby hd) rfl hl r
theorem Rn.dstoreN {n : Fin 4} {v : UInt64} (hd : decode bytes pc = .ok (.dstore_n n, 1)) (hl : storeLocals Ls n.val (.double v) = some Ls') (hp : pc + 1 = pc') (k : Rn w Z EL own nm bytes ml ret R hS ws Q os cells slots h pc' Ls' rest) : Rn w Z EL own nm bytes ml ret R hS ws Q os cells slots h pc Ls (.double v :: rest) :=
  k.pure fun p l e s m args below meth c T locs hx hby X hZ hown eT t r => by subst hp; exact XS.dstoreN X.here hx rfl (hb hby hd) rfl hl r
theorem Rn.aload {n : Nat} {v : Value} (hd : decode bytes pc = .ok (.aload n, 2)) (hl : Ls[n]? = some (.val v)) (hv : v.isRef = true) (hp : pc + 2 = pc') (k : Rn w Z EL own nm bytes ml ret R hS ws Q os cells slots h pc' Ls (v :: rest)) : Rn w Z EL own nm bytes ml ret R hS ws Q os cells slots h pc Ls rest :=
  k.pure fun p l e s m args below meth c T locs hx hby X hZ hown eT t r => by subst hp; exact XS.aload X.here hx rfl (hb hby hd) hl hv r
theorem Rn.aloadN {n : Fin 4} {v : Value} (hd : decode bytes pc = .ok (.aload_n n, 1)) (hl : Ls[n.val]? = some (.val v)) (hv : v.isRef = true) (hp : pc + 1 = pc') (k : Rn w Z EL own nm bytes ml ret R hS ws Q os cells slots h pc' Ls (v :: rest)) : Rn w Z EL own nm bytes ml ret R hS ws Q os cells slots h pc Ls rest :=
  k.pure fun p l e s m args below meth c T locs hx hby X hZ hown eT t r => by subst hp; exact XS.aloadN X.here hx rfl (hb hby hd) hl hv r
theorem Rn.astore {n : Nat} {v : Value} (hd : decode bytes pc = .ok (.astore n, 2)) (hv : v.isRef = true) (hl : storeLocals Ls n v = some Ls') (hp : pc + 2 = pc') (k : Rn w Z EL own nm bytes ml ret R hS ws Q os cells slots h pc' Ls' rest) : Rn w Z EL own nm bytes ml ret R hS ws Q os cells slots h pc Ls (v :: rest) :=
  k.pure fun p l e s m args below meth c T locs hx hby X hZ hown eT t r => by subst hp; exact XS.astore X.here hx rfl (hb hby hd) rfl hv hl r
theorem Rn.astoreN {n : Fin 4} {v : Value} (hd : decode bytes pc = .ok (.astore_n n, 1)) (hv : v.isRef = true) (hl : storeLocals Ls n.val v = some Ls') (hp : pc + 1 = pc') (k : Rn w Z EL own nm bytes ml ret R hS ws Q os cells slots h pc' Ls' rest) : Rn w Z EL own nm bytes ml ret R hS ws Q os cells slots h pc Ls (v :: rest) :=
  k.pure fun p l e s m args below meth c T locs hx hby X hZ hown eT t r => by subst hp; exact XS.astoreN X.here hx rfl (hb hby hd) rfl hv hl r
theorem Rn.iinc {n : Nat} {ct : Int} {x v : Int32} (hd : decode bytes pc = .ok (.iinc n ct, 3)) (hl : Ls[n]? = some (.val (.int x))) (hv : x + Int32.ofInt ct = v) (hl' : storeLocals Ls n (.int v) = some Ls') (hp : pc + 3 = pc') (k : Rn w Z EL own nm bytes ml ret R hS ws Q os cells slots h pc' Ls' rest) : Rn w Z EL own nm bytes ml ret R hS ws Q os cells slots h pc Ls rest :=
  k.pure fun p l e s m args below meth c T locs hx hby X hZ hown eT t r => by subst hp; exact XS.iinc X.here hx rfl (hb hby hd) hl (hv ▸ hl') r
theorem Rn.iadd {x y v : Int32} (hd : decode bytes pc = .ok (.iadd, 1)) (hv : x + y = v) (hp : pc + 1 = pc') (k : Rn w Z EL own nm bytes ml ret R hS ws Q os cells slots h pc' Ls (.int v :: rest)) : Rn w Z EL own nm bytes ml ret R hS ws Q os cells slots h pc Ls (.int y :: .int x :: rest) :=
  k.pure fun p l e s m args below meth c T locs hx hby X hZ hown eT t r => by subst hp; exact XS.iadd X.here hx rfl (hb hby hd) rfl (hv ▸ r)
theorem Rn.isub {x y v : Int32} (hd : decode bytes pc = .ok (.isub, 1)) (hv : x - y = v) (hp : pc + 1 = pc') (k : Rn w Z EL own nm bytes ml ret R hS ws Q os cells slots h pc' Ls (.int v :: rest)) : Rn w Z EL own nm bytes ml ret R hS ws Q os cells slots h pc Ls (.int y :: .int x :: rest) :=
  k.pure fun p l e s m args below meth c T locs hx hby X hZ hown eT t r => by subst hp; exact XS.isub X.here hx rfl (hb hby hd) rfl (hv ▸ r)
theorem Rn.imul {x y v : Int32} (hd : decode bytes pc = .ok (.imul, 1)) (hv : x * y = v) (hp : pc + 1 = pc') (k : Rn w Z EL own nm bytes ml ret R hS ws Q os cells slots h pc' Ls (.int v :: rest)) : Rn w Z EL own nm bytes ml ret R hS ws Q os cells slots h pc Ls (.int y :: .int x :: rest) :=
  k.pure fun p l e s m args below meth c T locs hx hby X hZ hown eT t r => by subst hp; exact XS.imul X.here hx rfl (hb hby hd) rfl (hv ▸ r)
theorem Rn.iand {x y v : Int32} (hd : decode bytes pc = .ok (.iand, 1)) (hv : x &&& y = v) (hp : pc + 1 = pc') (k : Rn w Z EL own nm bytes ml ret R hS ws Q os cells slots h pc' Ls (.int v :: rest)) : Rn w Z EL own nm bytes ml ret R hS ws Q os cells slots h pc Ls (.int y :: .int x :: rest) :=
  k.pure fun p l e s m args below meth c T locs hx hby X hZ hown eT t r => by subst hp; exact XS.iand X.here hx rfl (hb hby hd) rfl (hv ▸ r)
theorem Rn.ior {x y v : Int32} (hd : decode bytes pc = .ok (.ior, 1)) (hv : x ||| y = v) (hp : pc + 1 = pc') (k : Rn w Z EL own nm bytes ml ret R hS ws Q os cells slots h pc' Ls (.int v :: rest)) : Rn w Z EL own nm bytes ml ret R hS ws Q os cells slots h pc Ls (.int y :: .int x :: rest) :=
  k.pure fun p l e s m args below meth c T locs hx hby X hZ hown eT t r => by subst hp; exact XT.ior X.here hx rfl (hb hby hd) rfl (hv ▸ r)
theorem Rn.ixor {x y v : Int32} (hd : decode bytes pc = .ok (.ixor, 1)) (hv : x ^^^ y = v) (hp : pc + 1 = pc') (k : Rn w Z EL own nm bytes ml ret R hS ws Q os cells slots h pc' Ls (.int v :: rest)) : Rn w Z EL own nm bytes ml ret R hS ws Q os cells slots h pc Ls (.int y :: .int x :: rest) :=
  k.pure fun p l e s m args below meth c T locs hx hby X hZ hown eT t r => by subst hp; exact XT.ixor X.here hx rfl (hb hby hd) rfl (hv ▸ r)
theorem Rn.ishl {x y v : Int32} (hd : decode bytes pc = .ok (.ishl, 1)) (hv : x <<< (y &&& 31) = v) (hp : pc + 1 = pc') (k : Rn w Z EL own nm bytes ml ret R hS ws Q os cells slots h pc' Ls (.int v :: rest)) : Rn w Z EL own nm bytes ml ret R hS ws Q os cells slots h pc Ls (.int y :: .int x :: rest) :=
  k.pure fun p l e s m args below meth c T locs hx hby X hZ hown eT t r => by subst hp; exact XT.ishl X.here hx rfl (hb hby hd) rfl (hv ▸ r)
theorem Rn.ishr {x y v : Int32} (hd : decode bytes pc = .ok (.ishr, 1)) (hv : x >>> (y &&& 31) = v) (hp : pc + 1 = pc') (k : Rn w Z EL own nm bytes ml ret R hS ws Q os cells slots h pc' Ls (.int v :: rest)) : Rn w Z EL own nm bytes ml ret R hS ws Q os cells slots h pc Ls (.int y :: .int x :: rest) :=
  k.pure fun p l e s m args below meth c T locs hx hby X hZ hown eT t r => by subst hp; exact XT.ishr X.here hx rfl (hb hby hd) rfl (hv ▸ r)
theorem Rn.iushr {x y v : Int32} (hd : decode bytes pc = .ok (.iushr, 1)) (hv : XT.ushr x y = v) (hp : pc + 1 = pc') (k : Rn w Z EL own nm bytes ml ret R hS ws Q os cells slots h pc' Ls (.int v :: rest)) : Rn w Z EL own nm bytes ml ret R hS ws Q os cells slots h pc Ls (.int y :: .int x :: rest) :=
  k.pure fun p l e s m args below meth c T locs hx hby X hZ hown eT t r => by subst hp; exact XT.iushr X.here hx rfl (hb hby hd) rfl (hv ▸ r)
theorem Rn.idiv {x y v : Int32} (hd : decode bytes pc = .ok (.idiv, 1)) (hy : y ≠ 0) (hv : x / y = v) (hp : pc + 1 = pc') (k : Rn w Z EL own nm bytes ml ret R hS ws Q os cells slots h pc' Ls (.int v :: rest)) : Rn w Z EL own nm bytes ml ret R hS ws Q os cells slots h pc Ls (.int y :: .int x :: rest) :=
  k.pure fun p l e s m args below meth c T locs hx hby X hZ hown eT t r => by subst hp; exact XS.idiv X.here hx rfl (hb hby hd) rfl hy (hv ▸ r)
theorem Rn.irem {x y v : Int32} (hd : decode bytes pc = .ok (.irem, 1)) (hy : y ≠ 0) (hv : x % y = v) (hp : pc + 1 = pc') (k : Rn w Z EL own nm bytes ml ret R hS ws Q os cells slots h pc' Ls (.int v :: rest)) : Rn w Z EL own nm bytes ml ret R hS ws Q os cells slots h pc Ls (.int y :: .int x :: rest) :=
  k.pure fun p l e s m args below meth c T locs hx hby X hZ hown eT t r => by subst hp; exact iremM X hx rfl (hb hby hd) rfl hy (hv ▸ r)
theorem Rn.ineg {x v : Int32} (hd : decode bytes pc = .ok (.ineg, 1)) (hv : -x = v) (hp : pc + 1 = pc') (k : Rn w Z EL own nm bytes ml ret R hS ws Q os cells slots h pc' Ls (.int v :: rest)) : Rn w Z EL own nm bytes ml ret R hS ws Q os cells slots h pc Ls (.int x :: rest) :=
  k.pure fun p l e s m args below meth c T locs hx hby X hZ hown eT t r => by subst hp; exact XS.ineg X.here hx rfl (hb hby hd) rfl (hv ▸ r)
theorem Rn.ladd {x y v : Int64} (hd : decode bytes pc = .ok (.ladd, 1)) (hv : x + y = v) (hp : pc + 1 = pc') (k : Rn w Z EL own nm bytes ml ret R hS ws Q os cells slots h pc' Ls (.long v :: rest)) : Rn w Z EL own nm bytes ml ret R hS ws Q os cells slots h pc Ls (.long y :: .long x :: rest) :=
  k.pure fun p l e s m args below meth c T locs hx hby X hZ hown eT t r => by subst hp; exact XT.ladd X.here hx rfl (hb hby hd) rfl (hv ▸ r)
theorem Rn.lsub {x y v : Int64} (hd : decode bytes pc = .ok (.lsub, 1)) (hv : x - y = v) (hp : pc + 1 = pc') (k : Rn w Z EL own nm bytes ml ret R hS ws Q os cells slots h pc' Ls (.long v :: rest)) : Rn w Z EL own nm bytes ml ret R hS ws Q os cells slots h pc Ls (.long y :: .long x :: rest) :=
  k.pure fun p l e s m args below meth c T locs hx hby X hZ hown eT t r => by subst hp; exact XT.lsub X.here hx rfl (hb hby hd) rfl (hv ▸ r)
theorem Rn.lmul {x y v : Int64} (hd : decode bytes pc = .ok (.lmul, 1)) (hv : x * y = v) (hp : pc + 1 = pc') (k : Rn w Z EL own nm bytes ml ret R hS ws Q os cells slots h pc' Ls (.long v :: rest)) : Rn w Z EL own nm bytes ml ret R hS ws Q os cells slots h pc Ls (.long y :: .long x :: rest) :=
  k.pure fun p l e s m args below meth c T locs hx hby X hZ hown eT t r => by subst hp; exact XT.lmul X.here hx rfl (hb hby hd) rfl (hv ▸ r)
theorem Rn.land {x y v : Int64} (hd : decode bytes pc = .ok (.land, 1)) (hv : x &&& y = v) (hp : pc + 1 = pc') (k : Rn w Z EL own nm bytes ml ret R hS ws Q os cells slots h pc' Ls (.long v :: rest)) : Rn w Z EL own nm bytes ml ret R hS ws Q os cells slots h pc Ls (.long y :: .long x :: rest) :=
  k.pure fun p l e s m args below meth c T locs hx hby X hZ hown eT t r => by subst hp; exact XT.land X.here hx rfl (hb hby hd) rfl (hv ▸ r)
theorem Rn.lor {x y v : Int64} (hd : decode bytes pc = .ok (.lor, 1)) (hv : x ||| y = v) (hp : pc + 1 = pc') (k : Rn w Z EL own nm bytes ml ret R hS ws Q os cells slots h pc' Ls (.long v :: rest)) : Rn w Z EL own nm bytes ml ret R hS ws Q os cells slots h pc Ls (.long y :: .long x :: rest) :=
  k.pure fun p l e s m args below meth c T locs hx hby X hZ hown eT t r => by subst hp; exact XT.lor X.here hx rfl (hb hby hd) rfl (hv ▸ r)
theorem Rn.lxor {x y v : Int64} (hd : decode bytes pc = .ok (.lxor, 1)) (hv : x ^^^ y = v) (hp : pc + 1 = pc') (k : Rn w Z EL own nm bytes ml ret R hS ws Q os cells slots h pc' Ls (.long v :: rest)) : Rn w Z EL own nm bytes ml ret R hS ws Q os cells slots h pc Ls (.long y :: .long x :: rest) :=
  k.pure fun p l e s m args below meth c T locs hx hby X hZ hown eT t r => by subst hp; exact XT.lxor X.here hx rfl (hb hby hd) rfl (hv ▸ r)
theorem Rn.lshl {x v : Int64} {y : Int32} (hd : decode bytes pc = .ok (.lshl, 1)) (hv : x <<< (y.toInt64 &&& 63) = v) (hp : pc + 1 = pc') (k : Rn w Z EL own nm bytes ml ret R hS ws Q os cells slots h pc' Ls (.long v :: rest)) : Rn w Z EL own nm bytes ml ret R hS ws Q os cells slots h pc Ls (.int y :: .long x :: rest) :=
  k.pure fun p l e s m args below meth c T locs hx hby X hZ hown eT t r => by subst hp; exact XT.lshl X.here hx rfl (hb hby hd) rfl (hv ▸ r)
theorem Rn.lshr {x v : Int64} {y : Int32} (hd : decode bytes pc = .ok (.lshr, 1)) (hv : x >>> (y.toInt64 &&& 63) = v) (hp : pc + 1 = pc') (k : Rn w Z EL own nm bytes ml ret R hS ws Q os cells slots h pc' Ls (.long v :: rest)) : Rn w Z EL own nm bytes ml ret R hS ws Q os cells slots h pc Ls (.int y :: .long x :: rest) :=
  k.pure fun p l e s m args below meth c T locs hx hby X hZ hown eT t r => by subst hp; exact XT.lshr X.here hx rfl (hb hby hd) rfl (hv ▸ r)
theorem Rn.lushr {x v : Int64} {y : Int32} (hd : decode bytes pc = .ok (.lushr, 1)) (hv : XT.ushrL x y = v) (hp : pc + 1 = pc') (k : Rn w Z EL own nm bytes ml ret R hS ws Q os cells slots h pc' Ls (.long v :: rest)) : Rn w Z EL own nm bytes ml ret R hS ws Q os cells slots h pc Ls (.int y :: .long x :: rest) :=
  k.pure fun p l e s m args below meth c T locs hx hby X hZ hown eT t r => by subst hp; exact XT.lushr X.here hx rfl (hb hby hd) rfl (hv ▸ r)
theorem Rn.lneg {x v : Int64} (hd : decode bytes pc = .ok (.lneg, 1)) (hv : -x = v) (hp : pc + 1 = pc') (k : Rn w Z EL own nm bytes ml ret R hS ws Q os cells slots h pc' Ls (.long v :: rest)) : Rn w Z EL own nm bytes ml ret R hS ws Q os cells slots h pc Ls (.long x :: rest) :=
  k.pure fun p l e s m args below meth c T locs hx hby X hZ hown eT t r => by subst hp; exact XT.lneg X.here hx rfl (hb hby hd) rfl (hv ▸ r)
theorem Rn.i2l {x : Int32} {v : Int64} (hd : decode bytes pc = .ok (.i2l, 1)) (hv : x.toInt64 = v) (hp : pc + 1 = pc') (k : Rn w Z EL own nm bytes ml ret R hS ws Q os cells slots h pc' Ls (.long v :: rest)) : Rn w Z EL own nm bytes ml ret R hS ws Q os cells slots h pc Ls (.int x :: rest) :=
  k.pure fun p l e s m args below meth c T locs hx hby X hZ hown eT t r => by subst hp; exact XT.i2l X.here hx rfl (hb hby hd) rfl (hv ▸ r)
theorem Rn.l2i {x : Int64} {v : Int32} (hd : decode bytes pc = .ok (.l2i, 1)) (hv : x.toInt32 = v) (hp : pc + 1 = pc') (k : Rn w Z EL own nm bytes ml ret R hS ws Q os cells slots h pc' Ls (.int v :: rest)) : Rn w Z EL own nm bytes ml ret R hS ws Q os cells slots h pc Ls (.long x :: rest) :=
  k.pure fun p l e s m args below meth c T locs hx hby X hZ hown eT t r => by subst hp; exact XT.l2i X.here hx rfl (hb hby hd) rfl (hv ▸ r)
theorem Rn.i2b {x : Int32} {v : Int32} (hd : decode bytes pc = .ok (.i2b, 1)) (hv : x.toInt8.toInt32 = v) (hp : pc + 1 = pc') (k : Rn w Z EL own nm bytes ml ret R hS ws Q os cells slots h pc' Ls (.int v :: rest)) : Rn w Z EL own nm bytes ml ret R hS ws Q os cells slots h pc Ls (.int x :: rest) :=
  k.pure fun p l e s m args below meth c T locs hx hby X hZ hown eT t r => by subst hp; exact XT.i2b X.here hx rfl (hb hby hd) rfl (hv ▸ r)
theorem Rn.i2c {x : Int32} {v : Int32} (hd : decode bytes pc = .ok (.i2c, 1)) (hv : x.toUInt32.toUInt16.toUInt32.toInt32 = v) (hp : pc + 1 = pc') (k : Rn w Z EL own nm bytes ml ret R hS ws Q os cells slots h pc' Ls (.int v :: rest)) : Rn w Z EL own nm bytes ml ret R hS ws Q os cells slots h pc Ls (.int x :: rest) :=
  k.pure fun p l e s m args below meth c T locs hx hby X hZ hown eT t r => by subst hp; exact XT.i2c X.here hx rfl (hb hby hd) rfl (hv ▸ r)
theorem Rn.i2s {x : Int32} {v : Int32} (hd : decode bytes pc = .ok (.i2s, 1)) (hv : x.toInt16.toInt32 = v) (hp : pc + 1 = pc') (k : Rn w Z EL own nm bytes ml ret R hS ws Q os cells slots h pc' Ls (.int v :: rest)) : Rn w Z EL own nm bytes ml ret R hS ws Q os cells slots h pc Ls (.int x :: rest) :=
  k.pure fun p l e s m args below meth c T locs hx hby X hZ hown eT t r => by subst hp; exact XT.i2s X.here hx rfl (hb hby hd) rfl (hv ▸ r)
theorem Rn.i2d {x : Int32} {v : UInt64} (hd : decode bytes pc = .ok (.i2d, 1)) (hv : FP.i2d x = v) (hp : pc + 1 = pc') (k : Rn w Z EL own nm bytes ml ret R hS ws Q os cells slots h pc' Ls (.double v :: rest)) : Rn w Z EL own nm bytes ml ret R hS ws Q os cells slots h pc Ls (.int x :: rest) :=
  k.pure fun p l e s m args below meth c T locs hx hby X hZ hown eT t r => by subst hp; exact XS.i2dS X.here hx rfl (hb hby hd) rfl hv r
theorem Rn.l2d {x : Int64} {v : UInt64} (hd : decode bytes pc = .ok (.l2d, 1)) (hv : FP.l2d x = v) (hp : pc + 1 = pc') (k : Rn w Z EL own nm bytes ml ret R hS ws Q os cells slots h pc' Ls (.double v :: rest)) : Rn w Z EL own nm bytes ml ret R hS ws Q os cells slots h pc Ls (.long x :: rest) :=
  k.pure fun p l e s m args below meth c T locs hx hby X hZ hown eT t r => by subst hp; exact XS.l2dS X.here hx rfl (hb hby hd) rfl hv r
theorem Rn.d2i {x : UInt64} {v : Int32} (hd : decode bytes pc = .ok (.d2i, 1)) (hv : FP.d2i x = v) (hp : pc + 1 = pc') (k : Rn w Z EL own nm bytes ml ret R hS ws Q os cells slots h pc' Ls (.int v :: rest)) : Rn w Z EL own nm bytes ml ret R hS ws Q os cells slots h pc Ls (.double x :: rest) :=
  k.pure fun p l e s m args below meth c T locs hx hby X hZ hown eT t r => by subst hp; exact XS.d2iS X.here hx rfl (hb hby hd) rfl hv r
theorem Rn.d2l {x : UInt64} {v : Int64} (hd : decode bytes pc = .ok (.d2l, 1)) (hv : FP.d2l x = v) (hp : pc + 1 = pc') (k : Rn w Z EL own nm bytes ml ret R hS ws Q os cells slots h pc' Ls (.long v :: rest)) : Rn w Z EL own nm bytes ml ret R hS ws Q os cells slots h pc Ls (.double x :: rest) :=
  k.pure fun p l e s m args below meth c T locs hx hby X hZ hown eT t r => by subst hp; exact XS.d2lS X.here hx rfl (hb hby hd) rfl hv r
theorem Rn.dneg {x : UInt64} {v : UInt64} (hd : decode bytes pc = .ok (.dneg, 1)) (hv : FP.dneg x = v) (hp : pc + 1 = pc') (k : Rn w Z EL own nm bytes ml ret R hS ws Q os cells slots h pc' Ls (.double v :: rest)) : Rn w Z EL own nm bytes ml ret R hS ws Q os cells slots h pc Ls (.double x :: rest) :=
  k.pure fun p l e s m args below meth c T locs hx hby X hZ hown eT t r => by subst hp; exact XS.dnegS X.here hx rfl (hb hby hd) rfl hv r
theorem Rn.dadd {x y v : UInt64} (hd : decode bytes pc = .ok (.dadd, 1)) (hn : Jvm.Free.Fl.NoNaN64 v) (hv : FP.dadd x y = v) (hp : pc + 1 = pc') (k : Rn w Z EL own nm bytes ml ret R hS ws Q os cells slots h pc' Ls (.double v :: rest)) : Rn w Z EL own nm bytes ml ret R hS ws Q os cells slots h pc Ls (.double y :: .double x :: rest) :=
  k.pure fun p l e s m args below meth c T locs hx hby X hZ hown eT t r => by subst hp; exact XS.daddS X.here hx rfl (hb hby hd) rfl (hv.symm ▸ hn) hv r
theorem Rn.dsub {x y v : UInt64} (hd : decode bytes pc = .ok (.dsub, 1)) (hn : Jvm.Free.Fl.NoNaN64 v) (hv : FP.dsub x y = v) (hp : pc + 1 = pc') (k : Rn w Z EL own nm bytes ml ret R hS ws Q os cells slots h pc' Ls (.double v :: rest)) : Rn w Z EL own nm bytes ml ret R hS ws Q os cells slots h pc Ls (.double y :: .double x :: rest) :=
  k.pure fun p l e s m args below meth c T locs hx hby X hZ hown eT t r => by subst hp; exact XS.dsubS X.here hx rfl (hb hby hd) rfl (hv.symm ▸ hn) hv r
theorem Rn.dmul {x y v : UInt64} (hd : decode bytes pc = .ok (.dmul, 1)) (hn : Jvm.Free.Fl.NoNaN64 v) (hv : FP.dmul x y = v) (hp : pc + 1 = pc') (k : Rn w Z EL own nm bytes ml ret R hS ws Q os cells slots h pc' Ls (.double v :: rest)) : Rn w Z EL own nm bytes ml ret R hS ws Q os cells slots h pc Ls (.double y :: .double x :: rest) :=
  k.pure fun p l e s m args below meth c T locs hx hby X hZ hown eT t r => by subst hp; exact XS.dmulS X.here hx rfl (hb hby hd) rfl (hv.symm ▸ hn) hv r
theorem Rn.ddiv {x y v : UInt64} (hd : decode bytes pc = .ok (.ddiv, 1)) (hn : Jvm.Free.Fl.NoNaN64 v) (hv : FP.ddiv x y = v) (hp : pc + 1 = pc') (k : Rn w Z EL own nm bytes ml ret R hS ws Q os cells slots h pc' Ls (.double v :: rest)) : Rn w Z EL own nm bytes ml ret R hS ws Q os cells slots h pc Ls (.double y :: .double x :: rest) :=
  k.pure fun p l e s m args below meth c T locs hx hby X hZ hown eT t r => by subst hp; exact XS.ddivS X.here hx rfl (hb hby hd) rfl (hv.symm ▸ hn) hv r
theorem Rn.dcmp {o : CmpOp} {x y : UInt64} {v : Int32} (hd : decode bytes pc = .ok (.dcmp o, 1)) (hv : cmpValue (FP.dcmp x y) o = v) (hp : pc + 1 = pc') (k : Rn w Z EL own nm bytes ml ret R hS ws Q os cells slots h pc' Ls (.int v :: rest)) : Rn w Z EL own nm bytes ml ret R hS ws Q os cells slots h pc Ls (.double y :: .double x :: rest) :=
  k.pure fun p l e s m args below meth c T locs hx hby X hZ hown eT t r => by subst hp; exact XS.dcmpS X.here hx rfl (hb hby hd) rfl hv r
theorem Rn.lcmp {x y : Int64} {v : Int32} (hd : decode bytes pc = .ok (.lcmp, 1)) (hv : XT.cmpL x y = v) (hp : pc + 1 = pc') (k : Rn w Z EL own nm bytes ml ret R hS ws Q os cells slots h pc' Ls (.int v :: rest)) : Rn w Z EL own nm bytes ml ret R hS ws Q os cells slots h pc Ls (.long y :: .long x :: rest) :=
  k.pure fun p l e s m args below meth c T locs hx hby X hZ hown eT t r => by subst hp; exact XT.lcmp X.here hx rfl (hb hby hd) rfl (hv ▸ r)
theorem Rn.pop {x : Value} (hd : decode bytes pc = .ok (.pop, 1)) (hc : x.category = 1) (hp : pc + 1 = pc') (k : Rn w Z EL own nm bytes ml ret R hS ws Q os cells slots h pc' Ls rest) : Rn w Z EL own nm bytes ml ret R hS ws Q os cells slots h pc Ls (x :: rest) :=
  k.pure fun p l e s m args below meth c T locs hx hby X hZ hown eT t r => by subst hp; exact XT.pop X.here hx rfl (hb hby hd) rfl hc r
theorem Rn.dup {x : Value} (hd : decode bytes pc = .ok (.dup, 1)) (hc : x.category = 1) (hp : pc + 1 = pc') (k : Rn w Z EL own nm bytes ml ret R hS ws Q os cells slots h pc' Ls (x :: x :: rest)) : Rn w Z EL own nm bytes ml ret R hS ws Q os cells slots h pc Ls (x :: rest) :=
  k.pure fun p l e s m args below meth c T locs hx hby X hZ hown eT t r => by subst hp; exact XS.dup X.here hx rfl (hb hby hd) rfl hc r
theorem Rn.dup_x1 {x y : Value} (hd : decode bytes pc = .ok (.dup_x1, 1)) (hc : x.category = 1) (hc' : y.category = 1) (hp : pc + 1 = pc') (k : Rn w Z EL own nm bytes ml ret R hS ws Q os cells slots h pc' Ls (x :: y :: x :: rest)) : Rn w Z EL own nm bytes ml ret R hS ws Q os cells slots h pc Ls (x :: y :: rest) :=
  k.pure fun p l e s m args below meth c T locs hx hby X hZ hown eT t r => by subst hp; exact XT.dupX1 X.here hx rfl (hb hby hd) rfl hc hc' r
theorem Rn.dup2 {x y : Value} (hd : decode bytes pc = .ok (.dup2, 1)) (hc : x.category = 1) (hc' : y.category = 1) (hp : pc + 1 = pc') (k : Rn w Z EL own nm bytes ml ret R hS ws Q os cells slots h pc' Ls (x :: y :: x :: y :: rest)) : Rn w Z EL own nm bytes ml ret R hS ws Q os cells slots h pc Ls (x :: y :: rest) :=
  k.pure fun p l e s m args below meth c T locs hx hby X hZ hown eT t r => by subst hp; exact XT.dup2 X.here hx rfl (hb hby hd) rfl hc hc' r
theorem Rn.goto {o : Int} (hd : decode bytes pc = .ok (.goto o, 3)) (ho : 0 ≤ (pc : Int) + o) (hp : ((pc : Int) + o).toNat = pc') (k : Rn w Z EL own nm bytes ml ret R hS ws Q os cells slots h pc' Ls rest) : Rn w Z EL own nm bytes ml ret R hS ws Q os cells slots h pc Ls rest :=
  k.pure fun p l e s m args below meth c T locs hx hby X hZ hown eT t r => XS.goto X.here hx rfl rfl (hb hby hd) ho hp r
theorem Rn.icmp_eq {x y : Int32} {o : Int} {pn : Nat} (hd : decode bytes pc = .ok (.if_icmp .eq o, 3)) (ho : 0 ≤ (pc : Int) + o) (hp : ((pc : Int) + o).toNat = pc') (hn : pc + 3 = pn) (ky : x = y → Rn w Z EL own nm bytes ml ret R hS ws Q os cells slots h pc' Ls rest) (kn : ¬ x = y → Rn w Z EL own nm bytes ml ret R hS ws Q os cells slots h pn Ls rest) : Rn w Z EL own nm bytes ml ret R hS ws Q os cells slots h pc Ls (.int y :: .int x :: rest) := by
  by_cases q : x = y
  · exact (ky q).pure fun p l e s m args below meth c T locs hx hby X hZ hown eT t r => XS.icmpYes X.here hx rfl rfl (hb hby hd) rfl (teq q).1 ho hp r
  · exact (kn q).pure fun p l e s m args below meth c T locs hx hby X hZ hown eT t r => by subst hn; exact XS.icmpNo X.here hx rfl (hb hby hd) rfl (feq q).1 r
theorem Rn.if_eq {x : Int32} {o : Int} {pn : Nat} (hd : decode bytes pc = .ok (.ifCond .eq o, 3)) (ho : 0 ≤ (pc : Int) + o) (hp : ((pc : Int) + o).toNat = pc') (hn : pc + 3 = pn) (ky : x = 0 → Rn w Z EL own nm bytes ml ret R hS ws Q os cells slots h pc' Ls rest) (kn : ¬ x = 0 → Rn w Z EL own nm bytes ml ret R hS ws Q os cells slots h pn Ls rest) : Rn w Z EL own nm bytes ml ret R hS ws Q os cells slots h pc Ls (.int x :: rest) := by
  by_cases q : x = 0
  · exact (ky q).pure fun p l e s m args below meth c T locs hx hby X hZ hown eT t r => XS.ifYes X.here hx rfl rfl (hb hby hd) rfl (by rw [if0]; exact (teq q).1) ho hp r
  · exact (kn q).pure fun p l e s m args below meth c T locs hx hby X hZ hown eT t r => by subst hn; exact XS.ifNo X.here hx rfl (hb hby hd) rfl (by rw [if0]; exact (feq q).1) r
theorem Rn.icmp_ne {x y : Int32} {o : Int} {pn : Nat} (hd : decode bytes pc = .ok (.if_icmp .ne o, 3)) (ho : 0 ≤ (pc : Int) + o) (hp : ((pc : Int) + o).toNat = pc') (hn : pc + 3 = pn) (ky : ¬ x = y → Rn w Z EL own nm bytes ml ret R hS ws Q os cells slots h pc' Ls rest) (kn : x = y → Rn w Z EL own nm bytes ml ret R hS ws Q os cells slots h pn Ls rest) : Rn w Z EL own nm bytes ml ret R hS ws Q os cells slots h pc Ls (.int y :: .int x :: rest) := by
  by_cases q : x = y
  · exact (kn q).pure fun p l e s m args below meth c T locs hx hby X hZ hown eT t r => by subst hn; exact XS.icmpNo X.here hx rfl (hb hby hd) rfl (teq q).2 r
  · exact (ky q).pure fun p l e s m args below meth c T locs hx hby X hZ hown eT t r => XS.icmpYes X.here hx rfl rfl (hb hby hd) rfl (feq q).2 ho hp r
theorem Rn.if_ne {x : Int32} {o : Int} {pn : Nat} (hd : decode bytes pc = .ok (.ifCond .ne o, 3)) (ho : 0 ≤ (pc : Int) + o) (hp : ((pc : Int) + o).toNat = pc') (hn : pc + 3 = pn) (ky : ¬ x = 0 → Rn w Z EL own nm bytes ml ret R hS ws Q os cells slots h pc' Ls rest) (kn : x = 0 → Rn w Z EL own nm bytes ml ret R hS ws Q os cells slots h pn Ls rest) : Rn w Z EL own nm bytes ml ret R hS ws Q os cells slots h pc Ls (.int x :: rest) := by
  by_cases q : x = 0
  · exact (kn q).pure fun p l e s m args below meth c T locs hx hby X hZ hown eT t r => by subst hn; exact XS.ifNo X.here hx rfl (hb hby hd) rfl (by rw [if0]; exact (teq q).2) r
  · exact (ky q).pure fun p l e s m args below meth c T locs hx hby X hZ hown eT t r => XS.ifYes X.here hx rfl rfl (hb hby hd) rfl (by rw [if0]; exact (feq q).2) ho hp r
theorem Rn.icmp_lt {x y : Int32} {o : Int} {pn : Nat} (hd : decode bytes pc = .ok (.if_icmp .lt o, 3)) (ho : 0 ≤ (pc : Int) + o) (hp : ((pc : Int) + o).toNat = pc') (hn : pc + 3 = pn) (ky : x < y → Rn w Z EL own nm bytes ml ret R hS ws Q os cells slots h pc' Ls rest) (kn : ¬ x < y → Rn w Z EL own nm bytes ml ret R hS ws Q os cells slots h pn Ls rest) : Rn w Z EL own nm bytes ml ret R hS ws Q os cells slots h pc Ls (.int y :: .int x :: rest) := by
  by_cases q : x < y
  · exact (ky q).pure fun p l e s m args below meth c T locs hx hby X hZ hown eT t r => XS.icmpYes X.here hx rfl rfl (hb hby hd) rfl (tlt q).1 ho hp r
  · exact (kn q).pure fun p l e s m args below meth c T locs hx hby X hZ hown eT t r => by subst hn; exact XS.icmpNo X.here hx rfl (hb hby hd) rfl (flt q).1 r
theorem Rn.if_lt {x : Int32} {o : Int} {pn : Nat} (hd : decode bytes pc = .ok (.ifCond .lt o, 3)) (ho : 0 ≤ (pc : Int) + o) (hp : ((pc : Int) + o).toNat = pc') (hn : pc + 3 = pn) (ky : x < 0 → Rn w Z EL own nm bytes ml ret R hS ws Q os cells slots h pc' Ls rest) (kn : ¬ x < 0 → Rn w Z EL own nm bytes ml ret R hS ws Q os cells slots h pn Ls rest) : Rn w Z EL own nm bytes ml ret R hS ws Q os cells slots h pc Ls (.int x :: rest) := by
  by_cases q : x < 0
  · exact (ky q).pure fun p l e s m args below meth c T locs hx hby X hZ hown eT t r => XS.ifYes X.here hx rfl rfl (hb hby hd) rfl (by rw [if0]; exact (tlt q).1) ho hp r
  · exact (kn q).pure fun p l e s m args below meth c T locs hx hby X hZ hown eT t r => by subst hn; exact XS.ifNo X.here hx rfl (hb hby hd) rfl (by rw [if0]; exact (flt q).1) r
theorem Rn.icmp_ge {x y : Int32} {o : Int} {pn : Nat} (hd : decode bytes pc = .ok (.if_icmp .ge o, 3)) (ho : 0 ≤ (pc : Int) + o) (hp : ((pc : Int) + o).toNat = pc') (hn : pc + 3 = pn) (ky : ¬ x < y → Rn w Z EL own nm bytes ml ret R hS ws Q os cells slots h pc' Ls rest) (kn : x < y → Rn w Z EL own nm bytes ml ret R hS ws Q os cells slots h pn Ls rest) : Rn w Z EL own nm bytes ml ret R hS ws Q os cells slots h pc Ls (.int y :: .int x :: rest) := by
  by_cases q : x < y
  · exact (kn q).pure fun p l e s m args below meth c T locs hx hby X hZ hown eT t r => by subst hn; exact XS.icmpNo X.here hx rfl (hb hby hd) rfl (tlt q).2.1 r
  · exact (ky q).pure fun p l e s m args below meth c T locs hx hby X hZ hown eT t r => XS.icmpYes X.here hx rfl rfl (hb hby hd) rfl (flt q).2.1 ho hp r
theorem Rn.if_ge {x : Int32} {o : Int} {pn : Nat} (hd : decode bytes pc = .ok (.ifCond .ge o, 3)) (ho : 0 ≤ (pc : Int) + o) (hp : ((pc : Int) + o).toNat = pc') (hn : pc + 3 = pn) (ky : ¬ x < 0 → Rn w Z EL own nm bytes ml ret R hS ws Q os cells slots h pc' Ls rest) (kn : x < 0 → Rn w Z EL own nm bytes ml ret R hS ws Q os cells slots h pn Ls rest) : Rn w Z EL own nm bytes ml ret R hS ws Q os cells slots h pc Ls (.int x :: rest) := by
  by_cases q : x < 0
  · exact (kn q).pure fun p l e s m args below meth c T locs hx hby X hZ hown eT t r => by subst hn; exact XS.ifNo X.here hx rfl (hb hby hd) rfl (by rw [if0]; exact (tlt q).2.1) r
  · exact (ky q).pure fun p l e s m args below meth c T locs hx hby X hZ hown eT t r => XS.ifYes X.here hx rfl rfl (hb hby hd) rfl (by rw [if0]; exact (flt q).2.1) ho hp r
theorem Rn.icmp_gt {x y : Int32} {o : Int} {pn : Nat} (hd : decode bytes pc = .ok (.if_icmp .gt o, 3)) (ho : 0 ≤ (pc : Int) + o) (hp : ((pc : Int) + o).toNat = pc') (hn : pc + 3 = pn) (ky : y < x → Rn w Z EL own nm bytes ml ret R hS ws Q os cells slots h pc' Ls rest) (kn : ¬ y < x → Rn w Z EL own nm bytes ml ret R hS ws Q os cells slots h pn Ls rest) : Rn w Z EL own nm bytes ml ret R hS ws Q os cells slots h pc Ls (.int y :: .int x :: rest) := by
  by_cases q : y < x
  · exact (ky q).pure fun p l e s m args below meth c T locs hx hby X hZ hown eT t r => XS.icmpYes X.here hx rfl rfl (hb hby hd) rfl (tlt q).2.2.1 ho hp r
  · exact (kn q).pure fun p l e s m args below meth c T locs hx hby X hZ hown eT t r => by subst hn; exact XS.icmpNo X.here hx rfl (hb hby hd) rfl (flt q).2.2.1 r
theorem Rn.if_gt {x : Int32} {o : Int} {pn : Nat} (hd : decode bytes pc = .ok (.ifCond .gt o, 3)) (ho : 0 ≤ (pc : Int) + o) (hp : ((pc : Int) + o).toNat = pc') (hn : pc + 3 = pn) (ky : 0 < x → Rn w Z EL own nm bytes ml ret R hS ws Q os cells slots h pc' Ls rest) (kn : ¬ 0 < x → Rn w Z EL own nm bytes ml ret R hS ws Q os cells slots h pn Ls rest) : Rn w Z EL own nm bytes ml ret R hS ws Q os cells slots h pc Ls (.int x :: rest) := by
  by_cases q : 0 < x
  · exact (ky q).pure fun p l e s m args below meth c T locs hx hby X hZ hown eT t r => XS.ifYes X.here hx rfl rfl (hb hby hd) rfl (by rw [if0]; exact (tlt q).2.2.1) ho hp r
  · exact (kn q).pure fun p l e s m args below meth c T locs hx hby X hZ hown eT t r => by subst hn; exact XS.ifNo X.here hx rfl (hb hby hd) rfl (by rw [if0]; exact (flt q).2.2.1) r
theorem Rn.icmp_le {x y : Int32} {o : Int} {pn : Nat} (hd : decode bytes pc = .ok (.if_icmp .le o, 3)) (ho : 0 ≤ (pc : Int) + o) (hp : ((pc : Int) + o).toNat = pc') (hn : pc + 3 = pn) (ky : ¬ y < x → Rn w Z EL own nm bytes ml ret R hS ws Q os cells slots h pc' Ls rest) (kn : y < x → Rn w Z EL own nm bytes ml ret R hS ws Q os cells slots h pn Ls rest) : Rn w Z EL own nm bytes ml ret R hS ws Q os cells slots h pc Ls (.int y :: .int x :: rest) := by
  by_cases q : y < x
  · exact (kn q).pure fun p l e s m args below meth c T locs hx hby X hZ hown eT t r => by subst hn; exact XS.icmpNo X.here hx rfl (hb hby hd) rfl (tlt q).2.2.2 r
  · exact (ky q).pure fun p l e s m args below meth c T locs hx hby X hZ hown eT t r => XS.icmpYes X.here hx rfl rfl (hb hby hd) rfl (flt q).2.2.2 ho hp r
theorem Rn.if_le {x : Int32} {o : Int} {pn : Nat} (hd : decode bytes pc = .ok (.ifCond .le o, 3)) (ho : 0 ≤ (pc : Int) + o) (hp : ((pc : Int) + o).toNat = pc') (hn : pc + 3 = pn) (ky : ¬ 0 < x → Rn w Z EL own nm bytes ml ret R hS ws Q os cells slots h pc' Ls rest) (kn : 0 < x → Rn w Z EL own nm bytes ml ret R hS ws Q os cells slots h pn Ls rest) : Rn w Z EL own nm bytes ml ret R hS ws Q os cells slots h pc Ls (.int x :: rest) := by
  by_cases q : 0 < x
  · exact (kn q).pure fun p l e s m args below meth c T locs hx hby X hZ hown eT t r => by subst hn; exact XS.ifNo X.here hx rfl (hb hby hd) rfl (by rw [if0]; exact (tlt q).2.2.2) r
  · exact (ky q).pure fun p l e s m args below meth c T locs hx hby X hZ hown eT t r => XS.ifYes X.here hx rfl rfl (hb hby hd) rfl (by rw [if0]; exact (flt q).2.2.2) ho hp r
theorem Rn.ifnull_y {o : Int} (hd : decode bytes pc = .ok (.ifnull o, 3)) (ho : 0 ≤ (pc : Int) + o) (hp : ((pc : Int) + o).toNat = pc') (k : Rn w Z EL own nm bytes ml ret R hS ws Q os cells slots h pc' Ls rest) : Rn w Z EL own nm bytes ml ret R hS ws Q os cells slots h pc Ls (.null :: rest) :=
  k.pure fun p l e s m args below meth c T locs hx hby X hZ hown eT t r => XS.ifnullYes X.here hx rfl rfl (hb hby hd) rfl ho hp r
theorem Rn.ifnull_n {o : Int} {a : Addr} (hd : decode bytes pc = .ok (.ifnull o, 3)) (hn : pc + 3 = pc') (k : Rn w Z EL own nm bytes ml ret R hS ws Q os cells slots h pc' Ls rest) : Rn w Z EL own nm bytes ml ret R hS ws Q os cells slots h pc Ls (.ref a :: rest) :=
  k.pure fun p l e s m args below meth c T locs hx hby X hZ hown eT t r => by subst hn; exact XS.ifnullNo X.here hx rfl (hb hby hd) rfl r
theorem Rn.ifnonnull_y {o : Int} {a : Addr} (hd : decode bytes pc = .ok (.ifnonnull o, 3)) (ho : 0 ≤ (pc : Int) + o) (hp : ((pc : Int) + o).toNat = pc') (k : Rn w Z EL own nm bytes ml ret R hS ws Q os cells slots h pc' Ls rest) : Rn w Z EL own nm bytes ml ret R hS ws Q os cells slots h pc Ls (.ref a :: rest) :=
  k.pure fun p l e s m args below meth c T locs hx hby X hZ hown eT t r => XT.ifnonnullYes X.here hx rfl rfl (hb hby hd) rfl ho hp r
theorem Rn.ifnonnull_n {o : Int} (hd : decode bytes pc = .ok (.ifnonnull o, 3)) (hn : pc + 3 = pc') (k : Rn w Z EL own nm bytes ml ret R hS ws Q os cells slots h pc' Ls rest) : Rn w Z EL own nm bytes ml ret R hS ws Q os cells slots h pc Ls (.null :: rest) :=
  k.pure fun p l e s m args below meth c T locs hx hby X hZ hown eT t r => by subst hn; exact XT.ifnonnullNo X.here hx rfl (hb hby hd) rfl r
theorem Rn.acmp_eq {x y : Value} {o : Int} {pn : Nat} (h1 : x.isRef = true) (h2 : y.isRef = true) (hd : decode bytes pc = .ok (.if_acmp .eq o, 3)) (ho : 0 ≤ (pc : Int) + o) (hp : ((pc : Int) + o).toNat = pc') (hn : pc + 3 = pn) (ky : x = y → Rn w Z EL own nm bytes ml ret R hS ws Q os cells slots h pc' Ls rest) (kn : ¬ x = y → Rn w Z EL own nm bytes ml ret R hS ws Q os cells slots h pn Ls rest) : Rn w Z EL own nm bytes ml ret R hS ws Q os cells slots h pc Ls (y :: x :: rest) := by
  by_cases q : x = y
  · exact (ky q).pure fun p l e s m args below meth c T locs hx hby X hZ hown eT t r => by exact acmp X hx rfl h1 h2 (same := true) rfl (hb hby hd) rfl (by simp [q]) ho (by simp [acV, hp]) r
  · exact (kn q).pure fun p l e s m args below meth c T locs hx hby X hZ hown eT t r => by exact acmp X hx rfl h1 h2 (same := false) rfl (hb hby hd) rfl (by simp [q]) ho (by simp [acV, hn]) r
theorem Rn.acmp_ne {x y : Value} {o : Int} {pn : Nat} (h1 : x.isRef = true) (h2 : y.isRef = true) (hd : decode bytes pc = .ok (.if_acmp .ne o, 3)) (ho : 0 ≤ (pc : Int) + o) (hp : ((pc : Int) + o).toNat = pc') (hn : pc + 3 = pn) (ky : ¬ x = y → Rn w Z EL own nm bytes ml ret R hS ws Q os cells slots h pc' Ls rest) (kn : x = y → Rn w Z EL own nm bytes ml ret R hS ws Q os cells slots h pn Ls rest) : Rn w Z EL own nm bytes ml ret R hS ws Q os cells slots h pc Ls (y :: x :: rest) := by
  by_cases q : x = y
  · exact (kn q).pure fun p l e s m args below meth c T locs hx hby X hZ hown eT t r => by exact acmp X hx rfl h1 h2 (same := true) rfl (hb hby hd) rfl (by simp [q]) ho (by simp [acV, hn]) r
  · exact (ky q).pure fun p l e s m args below meth c T locs hx hby X hZ hown eT t r => by exact acmp X hx rfl h1 h2 (same := false) rfl (hb hby hd) rfl (by simp [q]) ho (by simp [acV, hp]) r
theorem Rn.tsw {dflt low high : Int} {offs : Array Int} {len : Nat} {o : Int} {i : Int32} (hd : decode bytes pc = .ok (.tableswitch dflt low high offs, len)) (hin : ¬ (i.toInt < low ∨ i.toInt > high)) (hoff : offs[(i.toInt - low).toNat]? = some o) (ho : 0 ≤ (pc : Int) + o) (hp : ((pc : Int) + o).toNat = pc') (k : Rn w Z EL own nm bytes ml ret R hS ws Q os cells slots h pc' Ls rest) : Rn w Z EL own nm bytes ml ret R hS ws Q os cells slots h pc Ls (.int i :: rest) :=
  k.pure fun p l e s m args below meth c T locs hx hby X hZ hown eT t r => XS.tswIn X.here hx rfl rfl (hb hby hd) rfl hin hoff ho hp r
theorem Rn.tswD {dflt low high : Int} {offs : Array Int} {len : Nat} {i : Int32} (hd : decode bytes pc = .ok (.tableswitch dflt low high offs, len)) (hout : i.toInt < low ∨ i.toInt > high) (ho : 0 ≤ (pc : Int) + dflt) (hp : ((pc : Int) + dflt).toNat = pc') (k : Rn w Z EL own nm bytes ml ret R hS ws Q os cells slots h pc' Ls rest) : Rn w Z EL own nm bytes ml ret R hS ws Q os cells slots h pc Ls (.int i :: rest) :=
  k.pure fun p l e s m args below meth c T locs hx hby X hZ hown eT t r => XS.tswOut X.here hx rfl rfl (hb hby hd) rfl hout ho hp r
theorem Rn.ldcI {ix : Nat} {v : Int32} (wd : (Jvm.Cond.constant own ix v).before a0 Z = true) (hd : decode bytes pc = .ok (.ldc ix, 2)) (hp : pc + 2 = pc') (k : Rn w Z EL own nm bytes ml ret R hS ws Q os cells slots h pc' Ls (.int v :: rest)) : Rn w Z EL own nm bytes ml ret R hS ws Q os cells slots h pc Ls rest :=
  k.pure fun p l e s m args below meth c T locs hx hby X hZ hown eT t r => by subst hp; exact X.ldcInt hx hown (mvT hZ wd) (g := mkF m pc Ls rest) rfl (hb hby hd) t r
theorem Rn.ldcJ {ix : Nat} {v : Int64} (wd : (Jvm.Cond.constantLong own ix v).before a0 Z = true) (hd : decode bytes pc = .ok (.ldc2_w ix, 3)) (hp : pc + 3 = pc') (k : Rn w Z EL own nm bytes ml ret R hS ws Q os cells slots h pc' Ls (.long v :: rest)) : Rn w Z EL own nm bytes ml ret R hS ws Q os cells slots h pc Ls rest :=
  k.pure fun p l e s m args below meth c T locs hx hby X hZ hown eT t r => by subst hp; exact X.ldc2Long hx hown (mvT hZ wd) (g := mkF m pc Ls rest) rfl (hb hby hd) t r
theorem Rn.ldcD {ix : Nat} {v : UInt64} (wd : (Jvm.Cond.constantDouble own ix v).before a0 Z = true) (hd : decode bytes pc = .ok (.ldc2_w ix, 3)) (hp : pc + 3 = pc') (k : Rn w Z EL own nm bytes ml ret R hS ws Q os cells slots h pc' Ls (.double v :: rest)) : Rn w Z EL own nm bytes ml ret R hS ws Q os cells slots h pc Ls rest :=
  k.pure fun p l e s m args below meth c T locs hx hby X hZ hown eT t r => by subst hp; exact X.ldc2DoubleC hx hown (mvT hZ wd) (g := mkF m pc Ls rest) rfl (hb hby hd) t r
/-- an array and all that it holds -/
def Ax (Z : State) (h : Heap) (a : Addr) (ty : FieldType) (vs : List Value) : Prop := ∃ c : Cell, Arr Z h a c ty ∧ c.slots = vs.toArray ∧ vs.length < 2 ^ 31
section AxFacts
variable {a b : Addr} {ty : FieldType} {vs : List Value} {sl : Nat} {v : Value}
theorem Ax.lt (F : Ax Z h a ty vs) : a < h.size := by obtain ⟨c, A, -⟩ := F; exact A.lt
theorem Ax.ext (F : Ax Z h a ty vs) (E : Ext h h') : Ax Z h' a ty vs := by obtain ⟨c, A, r⟩ := F; exact ⟨c, A.ext E, r⟩
theorem Ax.other (F : Ax Z h b ty vs) (W : Wr h h' a sl v) (q : b ≠ a) : Ax Z h' b ty vs := by obtain ⟨c, A, r⟩ := F; exact ⟨c, A.other W q, r⟩
theorem Ax.keep {ws : List Addr} (F : Ax Z h a ty vs) (K : Keep h h' ws) (q : a ∉ ws) : Ax Z h' a ty vs := by obtain ⟨c, A, r⟩ := F; exact ⟨c, ⟨K.2.1 a c A.1 q, A.2⟩, r⟩
theorem Ax.set (F : Ax Z h a ty vs) (W : Wr h h' a sl v) : Ax Z h' a ty (vs.set sl v) := by
  obtain ⟨c, A, r, q⟩ := F
  refine ⟨_, A.same W, ?_, by simpa using q⟩
  simp [Cell.setSlot, r]
theorem Ax.new {cA : ClassId} {n : Int32} (A : Arr Z h a (newA cA ty n) ty) (q : ¬ n < 0) : Ax Z h a ty (List.replicate n.toNatClampNeg (defaultValue ty)) := by
  refine ⟨_, A, ?_, by simpa using (back32 q).2⟩
  simp [newA]
theorem Ax.sf {w : Bool} {EL : List (String × Nat)} {os : List Addr} (F : Ax Z h a ty vs) (ht : ty ≠ .byte) : Sf w Z EL os h a := by obtain ⟨c, A, -⟩ := F; exact Sf.arr A ht
theorem Ax.arv {d : Value} (F : Ax Z h a ty vs) (hf : ∀ x ∈ vs, fits ty x = true) (n : Int32) (hn : n.toNatClampNeg = vs.length) (h0 : ¬ n < 0) : ∃ k, Arv Z h a k ty n vs d := by
  obtain ⟨c, A, r, q⟩ := F
  refine ⟨c.cls, c, A, rfl, by simp [r, hn], h0, fun k hk => ?_, fun i hi => ?_⟩
  · have : k < vs.length := by simpa [r] using hk
    simp [r, this]
  · have : i < vs.length := by simpa [r] using hi
    simp only [List.getD_eq_getElem?_getD, List.getElem?_eq_getElem this, Option.getD_some]
    exact hf _ (List.getElem_mem this)
theorem Ax.ofArv {k : ClassId} {n : Int32} {d : Value} (F : Arv Z h a k ty n vs d) (hl : vs.length = n.toNatClampNeg) : Ax Z h a ty vs := by
  obtain ⟨c, A, -, S, N, H, -⟩ := F
  refine ⟨c, A, ?_, by rw [hl]; exact (back32 N).2⟩
  apply Array.ext_getElem?
  intro i
  by_cases q : i < c.slots.size
  · have q2 : i < vs.length := by rw [hl, ← S]; exact q
    rw [H i q]; simp [q2]
  · have q2 : ¬ i < vs.length := by rw [hl, ← S]; exact q
    rw [Array.getElem?_eq_none (Nat.le_of_not_lt q)]; simp [Nat.le_of_not_lt q2]
theorem Ax.at {j : Int32} (c : Cell) (r : c.slots = vs.toArray) (h0 : ¬ j < 0) (hv : vs[j.toNatClampNeg]? = some v) : ¬ (j < 0 ∨ c.slots.size ≤ j.toNatClampNeg) ∧ c.slots[j.toNatClampNeg]? = some v := by
  have q := (List.getElem?_eq_some_iff.mp hv).1
  refine ⟨fun z => z.elim h0 fun z => ?_, by simpa [r] using hv⟩
  simp [r] at z; omega
end AxFacts
theorem Rn.iaload {a : Addr} {vs : List Value} {j : Int32} {v : Value} (A : Ax Z h a .int vs) (h0 : ¬ j < 0) (hv : vs[j.toNatClampNeg]? = some v) (hd : decode bytes pc = .ok (.iaload, 1)) (hp : pc + 1 = pc') (k : Rn w Z EL own nm bytes ml ret R hS ws Q os cells slots h pc' Ls (v :: rest)) : Rn w Z EL own nm bytes ml ret R hS ws Q os cells slots h pc Ls (.int j :: .ref a :: rest) := by
  obtain ⟨cl, Ar, r1, -⟩ := A
  obtain ⟨q1, q2⟩ := Ax.at cl r1 h0 hv
  exact k.pure fun p l e s m args below meth c T locs hx hby X hZ hown eT t r => by subst hp; exact X.iaload hx (j := j) (v := v) (by rw [eT]; exact Ar.1) (State.isArrayOf_alike hZ.alike Ar.2.1) Ar.2.2 q1 q2 (g := mkF m pc Ls (.int j :: .ref a :: rest)) rfl rfl (hb hby hd) t r
theorem Rn.caload {a : Addr} {vs : List Value} {j : Int32} {v : Value} (A : Ax Z h a .char vs) (h0 : ¬ j < 0) (hv : vs[j.toNatClampNeg]? = some v) (hd : decode bytes pc = .ok (.caload, 1)) (hp : pc + 1 = pc') (k : Rn w Z EL own nm bytes ml ret R hS ws Q os cells slots h pc' Ls (v :: rest)) : Rn w Z EL own nm bytes ml ret R hS ws Q os cells slots h pc Ls (.int j :: .ref a :: rest) := by
  obtain ⟨cl, Ar, r1, -⟩ := A
  obtain ⟨q1, q2⟩ := Ax.at cl r1 h0 hv
  exact k.pure fun p l e s m args below meth c T locs hx hby X hZ hown eT t r => by subst hp; exact X.caload hx (j := j) (v := v) (by rw [eT]; exact Ar.1) (State.isArrayOf_alike hZ.alike Ar.2.1) Ar.2.2 q1 q2 (g := mkF m pc Ls (.int j :: .ref a :: rest)) rfl rfl (hb hby hd) t r
theorem Rn.laload {a : Addr} {vs : List Value} {j : Int32} {v : Value} (A : Ax Z h a .long vs) (h0 : ¬ j < 0) (hv : vs[j.toNatClampNeg]? = some v) (hd : decode bytes pc = .ok (.laload, 1)) (hp : pc + 1 = pc') (k : Rn w Z EL own nm bytes ml ret R hS ws Q os cells slots h pc' Ls (v :: rest)) : Rn w Z EL own nm bytes ml ret R hS ws Q os cells slots h pc Ls (.int j :: .ref a :: rest) := by
  obtain ⟨cl, Ar, r1, -⟩ := A
  obtain ⟨q1, q2⟩ := Ax.at cl r1 h0 hv
  exact k.pure fun p l e s m args below meth c T locs hx hby X hZ hown eT t r => by subst hp; exact X.laload hx (j := j) (v := v) (by rw [eT]; exact Ar.1) (State.isArrayOf_alike hZ.alike Ar.2.1) Ar.2.2 q1 q2 (g := mkF m pc Ls (.int j :: .ref a :: rest)) rfl rfl (hb hby hd) t r
theorem Rn.baload {a : Addr} {vs : List Value} {j : Int32} {v : Value} (A : Ax Z h a .byte vs) (h0 : ¬ j < 0) (hv : vs[j.toNatClampNeg]? = some v) (hd : decode bytes pc = .ok (.baload, 1)) (hp : pc + 1 = pc') (k : Rn w Z EL own nm bytes ml ret R hS ws Q os cells slots h pc' Ls (v :: rest)) : Rn w Z EL own nm bytes ml ret R hS ws Q os cells slots h pc Ls (.int j :: .ref a :: rest) := by
  obtain ⟨cl, Ar, r1, -⟩ := A
  obtain ⟨q1, q2⟩ := Ax.at cl r1 h0 hv
  exact k.pure fun p l e s m args below meth c T locs hx hby X hZ hown eT t r => by subst hp; exact X.baloadBytes hx (j := j) (v := v) (by rw [eT]; exact Ar.1) (State.isArrayOf_alike hZ.alike Ar.2.1) Ar.2.2 q1 q2 (g := mkF m pc Ls (.int j :: .ref a :: rest)) rfl rfl (hb hby hd) t r
theorem Rn.daload {a : Addr} {vs : List Value} {j : Int32} {v : Value} (A : Ax Z h a .double vs) (h0 : ¬ j < 0) (hv : vs[j.toNatClampNeg]? = some v) (hd : decode bytes pc = .ok (.daload, 1)) (hp : pc + 1 = pc') (k : Rn w Z EL own nm bytes ml ret R hS ws Q os cells slots h pc' Ls (v :: rest)) : Rn w Z EL own nm bytes ml ret R hS ws Q os cells slots h pc Ls (.int j :: .ref a :: rest) := by
  obtain ⟨cl, Ar, r1, -⟩ := A
  obtain ⟨q1, q2⟩ := Ax.at cl r1 h0 hv
  exact k.pure fun p l e s m args below meth c T locs hx hby X hZ hown eT t r => by subst hp; exact X.daload hx (j := j) (v := v) (by rw [eT]; exact Ar.1) (State.isArrayOf_alike hZ.alike Ar.2.1) Ar.2.2 q1 q2 (g := mkF m pc Ls (.int j :: .ref a :: rest)) rfl rfl (hb hby hd) t r
theorem Rn.saload {a : Addr} {vs : List Value} {j : Int32} {v : Value} (A : Ax Z h a .short vs) (h0 : ¬ j < 0) (hv : vs[j.toNatClampNeg]? = some v) (hd : decode bytes pc = .ok (.saload, 1)) (hp : pc + 1 = pc') (k : Rn w Z EL own nm bytes ml ret R hS ws Q os cells slots h pc' Ls (v :: rest)) : Rn w Z EL own nm bytes ml ret R hS ws Q os cells slots h pc Ls (.int j :: .ref a :: rest) := by
  obtain ⟨cl, Ar, r1, -⟩ := A
  obtain ⟨q1, q2⟩ := Ax.at cl r1 h0 hv
  exact k.pure fun p l e s m args below meth c T locs hx hby X hZ hown eT t r => by subst hp; exact X.saload hx (j := j) (v := v) (by rw [eT]; exact Ar.1) (State.isArrayOf_alike hZ.alike Ar.2.1) Ar.2.2 q1 q2 (g := mkF m pc Ls (.int j :: .ref a :: rest)) rfl rfl (hb hby hd) t r
theorem Rn.aaload {a : Addr} {ty : FieldType} {vs : List Value} {j : Int32} {v : Value} (A : Ax Z h a ty vs) (ht : ty.isReference = true) (h0 : ¬ j < 0) (hv : vs[j.toNatClampNeg]? = some v) (hd : decode bytes pc = .ok (.aaload, 1)) (hp : pc + 1 = pc') (k : Rn w Z EL own nm bytes ml ret R hS ws Q os cells slots h pc' Ls (v :: rest)) : Rn w Z EL own nm bytes ml ret R hS ws Q os cells slots h pc Ls (.int j :: .ref a :: rest) := by
  obtain ⟨cl, Ar, r1, -⟩ := A
  obtain ⟨q1, q2⟩ := Ax.at cl r1 h0 hv
  exact k.pure fun p l e s m args below meth c T locs hx hby X hZ hown eT t r => by subst hp; exact X.aaload hx (j := j) (v := v) (by rw [eT]; exact Ar.1) (State.isArrayOf_alike hZ.alike Ar.2.1) ht Ar.2.2 q1 q2 (g := mkF m pc Ls (.int j :: .ref a :: rest)) rfl rfl (hb hby hd) t r
theorem Rn.arraylength {a : Addr} {ty : FieldType} {vs : List Value} {n : Int32} (A : Ax Z h a ty vs) (hn : vs.length.toInt32 = n) (hd : decode bytes pc = .ok (.arraylength, 1)) (hp : pc + 1 = pc') (k : Rn w Z EL own nm bytes ml ret R hS ws Q os cells slots h pc' Ls (.int n :: rest)) : Rn w Z EL own nm bytes ml ret R hS ws Q os cells slots h pc Ls (.ref a :: rest) := by
  obtain ⟨cl, Ar, r1, -⟩ := A
  have e1 : cl.slots.size.toInt32 = n := by rw [r1, ← hn]; simp
  exact k.pure fun p l e s m args below meth c T locs hx hby X hZ hown eT t r => by subst hp; exact X.arraylength hx (by rw [eT]; exact Ar.1) (State.isArrayOf_alike hZ.alike Ar.2.1) (g := mkF m pc Ls (.ref a :: rest)) rfl rfl (hb hby hd) t (by rw [e1]; exact r)
theorem Rn.iastore {a : Addr} {vs : List Value} {j : Int32} {x : Int32} {v : Value} (A : Ax Z h a .int vs) (h0 : ¬ j < 0) (hi : j.toNatClampNeg < vs.length) (hv : (.int x : Value) = v) (q : a ∈ ws ∨ hS.size ≤ a) (sf : Sf w Z EL os h a) (hd : decode bytes pc = .ok (.iastore, 1)) (hp : pc + 1 = pc') (k : ∀ h', Wr h h' a j.toNatClampNeg v → Ax Z h' a .int (vs.set j.toNatClampNeg v) → Rn w Z EL own nm bytes ml ret R hS ws Q os cells slots h' pc' Ls rest) : Rn w Z EL own nm bytes ml ret R hS ws Q os cells slots h pc Ls (.int x :: .int j :: .ref a :: rest) := by
  obtain ⟨cl, Ar, r1, -⟩ := id A
  have q1 : ¬ (j < 0 ∨ cl.slots.size ≤ j.toNatClampNeg) := fun z => z.elim h0 fun z => by simp [r1] at z; omega
  subst hv
  exact Rn.wrote q sf (fun h' W => k h' W (A.set W)) fun p l e s m args below meth c T locs hx hby hnm X hZ hown eT => by subst hp; exact stI X hx hZ eT Ar q1 (g := mkF m pc Ls (.int x :: .int j :: .ref a :: rest)) rfl rfl (hb hby hd)
theorem Rn.lastore {a : Addr} {vs : List Value} {j : Int32} {x : Int64} {v : Value} (A : Ax Z h a .long vs) (h0 : ¬ j < 0) (hi : j.toNatClampNeg < vs.length) (hv : (.long x : Value) = v) (q : a ∈ ws ∨ hS.size ≤ a) (sf : Sf w Z EL os h a) (hd : decode bytes pc = .ok (.lastore, 1)) (hp : pc + 1 = pc') (k : ∀ h', Wr h h' a j.toNatClampNeg v → Ax Z h' a .long (vs.set j.toNatClampNeg v) → Rn w Z EL own nm bytes ml ret R hS ws Q os cells slots h' pc' Ls rest) : Rn w Z EL own nm bytes ml ret R hS ws Q os cells slots h pc Ls (.long x :: .int j :: .ref a :: rest) := by
  obtain ⟨cl, Ar, r1, -⟩ := id A
  have q1 : ¬ (j < 0 ∨ cl.slots.size ≤ j.toNatClampNeg) := fun z => z.elim h0 fun z => by simp [r1] at z; omega
  subst hv
  exact Rn.wrote q sf (fun h' W => k h' W (A.set W)) fun p l e s m args below meth c T locs hx hby hnm X hZ hown eT => by subst hp; exact stJ X hx hZ eT Ar q1 (g := mkF m pc Ls (.long x :: .int j :: .ref a :: rest)) rfl rfl (hb hby hd)
theorem Rn.dastore {a : Addr} {vs : List Value} {j : Int32} {x : UInt64} {v : Value} (A : Ax Z h a .double vs) (h0 : ¬ j < 0) (hi : j.toNatClampNeg < vs.length) (hv : (.double x : Value) = v) (q : a ∈ ws ∨ hS.size ≤ a) (sf : Sf w Z EL os h a) (hd : decode bytes pc = .ok (.dastore, 1)) (hp : pc + 1 = pc') (k : ∀ h', Wr h h' a j.toNatClampNeg v → Ax Z h' a .double (vs.set j.toNatClampNeg v) → Rn w Z EL own nm bytes ml ret R hS ws Q os cells slots h' pc' Ls rest) : Rn w Z EL own nm bytes ml ret R hS ws Q os cells slots h pc Ls (.double x :: .int j :: .ref a :: rest) := by
  obtain ⟨cl, Ar, r1, -⟩ := id A
  have q1 : ¬ (j < 0 ∨ cl.slots.size ≤ j.toNatClampNeg) := fun z => z.elim h0 fun z => by simp [r1] at z; omega
  subst hv
  exact Rn.wrote q sf (fun h' W => k h' W (A.set W)) fun p l e s m args below meth c T locs hx hby hnm X hZ hown eT => by subst hp; exact stD X hx hZ eT Ar q1 (g := mkF m pc Ls (.double x :: .int j :: .ref a :: rest)) rfl rfl (hb hby hd)
theorem Rn.castore {a : Addr} {vs : List Value} {j : Int32} {x : Int32} {v : Value} (A : Ax Z h a .char vs) (h0 : ¬ j < 0) (hi : j.toNatClampNeg < vs.length) (hv : (.int (nar .char x) : Value) = v) (q : a ∈ ws ∨ hS.size ≤ a) (sf : Sf w Z EL os h a) (hd : decode bytes pc = .ok (.castore, 1)) (hp : pc + 1 = pc') (k : ∀ h', Wr h h' a j.toNatClampNeg v → Ax Z h' a .char (vs.set j.toNatClampNeg v) → Rn w Z EL own nm bytes ml ret R hS ws Q os cells slots h' pc' Ls rest) : Rn w Z EL own nm bytes ml ret R hS ws Q os cells slots h pc Ls (.int x :: .int j :: .ref a :: rest) := by
  obtain ⟨cl, Ar, r1, -⟩ := id A
  have q1 : ¬ (j < 0 ∨ cl.slots.size ≤ j.toNatClampNeg) := fun z => z.elim h0 fun z => by simp [r1] at z; omega
  subst hv
  exact Rn.wrote q sf (fun h' W => k h' W (A.set W)) fun p l e s m args below meth c T locs hx hby hnm X hZ hown eT => by subst hp; exact stC X hx hZ eT Ar q1 (g := mkF m pc Ls (.int x :: .int j :: .ref a :: rest)) rfl rfl (hb hby hd)
theorem Rn.bastore {a : Addr} {vs : List Value} {j : Int32} {x : Int32} {v : Value} (A : Ax Z h a .byte vs) (h0 : ¬ j < 0) (hi : j.toNatClampNeg < vs.length) (hv : (.int (nar .byte x) : Value) = v) (q : a ∈ ws ∨ hS.size ≤ a) (sf : Sf w Z EL os h a) (hd : decode bytes pc = .ok (.bastore, 1)) (hp : pc + 1 = pc') (k : ∀ h', Wr h h' a j.toNatClampNeg v → Ax Z h' a .byte (vs.set j.toNatClampNeg v) → Rn w Z EL own nm bytes ml ret R hS ws Q os cells slots h' pc' Ls rest) : Rn w Z EL own nm bytes ml ret R hS ws Q os cells slots h pc Ls (.int x :: .int j :: .ref a :: rest) := by
  obtain ⟨cl, Ar, r1, -⟩ := id A
  have q1 : ¬ (j < 0 ∨ cl.slots.size ≤ j.toNatClampNeg) := fun z => z.elim h0 fun z => by simp [r1] at z; omega
  subst hv
  exact Rn.wrote q sf (fun h' W => k h' W (A.set W)) fun p l e s m args below meth c T locs hx hby hnm X hZ hown eT => by subst hp; exact stB X hx hZ eT Ar q1 (g := mkF m pc Ls (.int x :: .int j :: .ref a :: rest)) rfl rfl (hb hby hd)
theorem Rn.aastore {a : Addr} {ty : FieldType} {vs : List Value} {j : Int32} {v : Value} (A : Ax Z h a ty vs) (ht : ty.isReference = true) (F : Sto Z h a v) (h0 : ¬ j < 0) (hi : j.toNatClampNeg < vs.length) (hv : v.isRef = true) (q : a ∈ ws ∨ hS.size ≤ a) (sf : Sf w Z EL os h a) (hd : decode bytes pc = .ok (.aastore, 1)) (hp : pc + 1 = pc') (k : ∀ h', Wr h h' a j.toNatClampNeg v → Ax Z h' a ty (vs.set j.toNatClampNeg v) → Rn w Z EL own nm bytes ml ret R hS ws Q os cells slots h' pc' Ls rest) : Rn w Z EL own nm bytes ml ret R hS ws Q os cells slots h pc Ls (v :: .int j :: .ref a :: rest) := by
  obtain ⟨cl, Ar, r1, -⟩ := id A
  have q1 : ¬ (j < 0 ∨ cl.slots.size ≤ j.toNatClampNeg) := fun z => z.elim h0 fun z => by simp [r1] at z; omega
  exact Rn.wrote q sf (fun h' W => k h' W (A.set W)) fun p l e s m args below meth c T locs hx hby hnm X hZ hown eT => by subst hp; exact stR X hx hZ eT Ar q1 ht F (g := mkF m pc Ls (v :: .int j :: .ref a :: rest)) rfl rfl (hb hby hd)
end Steps
section Objs
variable {w : Bool} {Z : State} {EL : List (String × Nat)} {own nm : String} {bytes : ByteArray} {ml : Nat} {ret : Option FieldType} {R : Room} {hS : Heap} {ws : List Addr} {Q : Option Value → Heap → Prop} {os : List Addr} {cells slots : Nat} {h h' : Heap} {pc pc' : Nat} {Ls Ls' : Array Slot} {rest : List Value} {a0 : Array Value}
theorem Rn.getF {ix : Nat} {R0 O n d host : String} {a : Addr} {v : Value} (wd : (Jvm.Cond.fieldLink own ix R0 n d).before a0 Z = true ∨ (Jvm.Cond.fieldLinkNest own ix R0 n d host).before a0 Z = true) (via : Via Z R0 O n d) (F : Fld Z h a O n d v) (hd : decode bytes pc = .ok (.getfield ix, 3)) (hp : pc + 3 = pc') (k : Rn w Z EL own nm bytes ml ret R hS ws Q os cells slots h pc' Ls (v :: rest)) : Rn w Z EL own nm bytes ml ret R hS ws Q os cells slots h pc Ls (.ref a :: rest) :=
  k.note fun p l e s m args below meth c T locs hx hby hml X hZ hown eT => by subst hp; exact Jvm.RoadKit.getF X hx hZ hown wd via eT F (g := mkF m pc Ls (.ref a :: rest)) rfl rfl (hb hby hd)
theorem Rn.getS {ix : Nat} {R0 O n d : String} {v : Value} (wd : (Jvm.Cond.fieldLink own ix R0 n d).before a0 Z = true) (via : Via Z R0 O n d) (F : Sta Z h O n d v) (hd : decode bytes pc = .ok (.getstatic ix, 3)) (hp : pc + 3 = pc') (k : Rn w Z EL own nm bytes ml ret R hS ws Q os cells slots h pc' Ls (v :: rest)) : Rn w Z EL own nm bytes ml ret R hS ws Q os cells slots h pc Ls rest :=
  k.note fun p l e s m args below meth c T locs hx hby hml X hZ hown eT => by subst hp; exact Jvm.RoadKit.getS X hx hZ hown (host := "") wd via eT F (g := mkF m pc Ls rest) rfl (hb hby hd)
theorem Rn.putF {ix kk : Nat} {R0 O n d C : String} {ty : FieldType} {a : Addr} {v old : Value} (wd : (Jvm.Cond.fieldLink own ix R0 n d).before a0 Z = true) (via : Via Z R0 O n d) (F : Fld Z h a O n d old) (E : Exa Z h a C) (L : (Jvm.Cond.lays C O n d).before a0 Z = true ∨ ((Jvm.Cond.laysFinal C O n d).before a0 Z = true ∧ own = O ∧ nm = "<init>")) (wi : (Jvm.Cond.instantiable C kk).before a0 Z = true)
    (hty : parseFieldDescriptor d = some ty) (hn : narrow ty v = v) (hf : fits ty v = true) (q : a ∈ ws ∨ hS.size ≤ a) (sf : Sf w Z EL os h a) (hd : decode bytes pc = .ok (.putfield ix, 3)) (hp : pc + 3 = pc') (k : ∀ h', Wr h h' a (Jvm.RoadKit.slotOf Z O n d) v → Rn w Z EL own nm bytes ml ret R hS ws Q os cells slots h' pc' Ls rest) : Rn w Z EL own nm bytes ml ret R hS ws Q os cells slots h pc Ls (v :: .ref a :: rest) :=
  Rn.wrote q sf k fun p l e s m args below meth c T locs hx hby hnm X hZ hown eT => by
    subst hp
    exact Jvm.RoadKit.putF X hx hZ hown (host := "") (Or.inl wd) via eT F E (L.imp id fun z => ⟨z.1, z.2.1, hnm.trans z.2.2⟩) wi hty hn hf (g := mkF m pc Ls (v :: .ref a :: rest)) rfl rfl (hb hby hd)
theorem Rn.newO {ix n : Nat} {C : String} (w1 : (Jvm.Cond.classLink own ix C).before a0 Z = true) (w2 : (Jvm.Cond.instantiable C n).before a0 Z = true) (w3 : (Jvm.Cond.initialized C).before a0 Z = true) (hd : decode bytes pc = .ok (.new ix, 3)) (hc : cells + 1 ≤ R.cells) (hs : slots + n ≤ R.slots) (hp : pc + 3 = pc')
    (k : ∀ h' a, a = h.size → hS.size ≤ a → Ext h h' → (Exa Z h' a C ∧ (∀ {O nm d : String} {ty : FieldType}, Laid Z a0 C O nm d → parseFieldDescriptor d = some ty → Fld Z h' a O nm d (defaultValue ty)) ∧ (∃ cell : Cell, h'[a]? = some cell ∧ cell.vm = .none ∧ cell.monitor = {})) → Rn w Z EL own nm bytes ml ret R hS ws Q (a :: os) (cells + 1) (slots + n) h' pc' Ls (.ref a :: rest)) : Rn w Z EL own nm bytes ml ret R hS ws Q os cells slots h pc Ls rest :=
  Rn.made (G := fun h' a => Exa Z h' a C ∧ (∀ {O nm d : String} {ty : FieldType}, Laid Z a0 C O nm d → parseFieldDescriptor d = some ty → Fld Z h' a O nm d (defaultValue ty)) ∧ (∃ cell : Cell, h'[a]? = some cell ∧ cell.vm = .none ∧ cell.monitor = {})) (st' := fun a => .ref a :: rest) (st := fun _ => rest) k (fun h' g => g.1.lt) fun p l e s m args below meth c T locs hx hby X hZ hown eT => by
    subst hp
    obtain ⟨T', h', X', e', E, A, D, U, st⟩ := Jvm.RoadKit.newO X hx hZ hown w1 w2 w3 eT (g := mkF m pc Ls rest) rfl (hb hby hd) hc hs
    exact ⟨T', h', X', e', E, ⟨A, D, U⟩, st⟩
theorem Rn.newP {aty : ArrayType} {n : Int32} {cap : Nat} {ty : FieldType} {ad : String} (wd : (Jvm.Cond.arrayClass ty).before a0 Z = true) (hty : newarray.typeOf aty = ty) (had : "[" ++ ty.toString = ad) (hd : decode bytes pc = .ok (.newarray aty, 2)) (hn : ¬ n < 0) (hcap : n.toNatClampNeg ≤ cap) (hb8 : cap * 8 ≤ 536870912) (hc : cells + 1 ≤ R.cells) (hs : slots + cap ≤ R.slots) (hp : pc + 2 = pc')
    (k : ∀ h' a, a = h.size → hS.size ≤ a → Ext h h' → (Ax Z h' a ty (List.replicate n.toNatClampNeg (defaultValue ty)) ∧ Exa Z h' a ad) → Rn w Z EL own nm bytes ml ret R hS ws Q (a :: os) (cells + 1) (slots + cap) h' pc' Ls (.ref a :: rest)) : Rn w Z EL own nm bytes ml ret R hS ws Q os cells slots h pc Ls (.int n :: rest) := by
  subst hty
  refine Rn.made (G := fun h' a => Ax Z h' a (newarray.typeOf aty) (List.replicate n.toNatClampNeg (defaultValue (newarray.typeOf aty))) ∧ Exa Z h' a ad) (st' := fun a => .ref a :: rest) (st := fun _ => rest) k (fun h' g => g.1.lt) fun p l e s m args below meth c T locs hx hby X hZ hown eT => ?_
  subst hp
  obtain ⟨T', h', cA, X', e', E, A, B, st⟩ := Jvm.RoadKit.newPE X hx hZ wd eT (g := mkF m pc Ls (.int n :: rest)) rfl (hb hby hd) rfl hn hcap hb8 hc hs had
  exact ⟨T', h', X', e', E, ⟨Ax.new A hn, B⟩, st⟩
theorem Rn.castY {ix : Nat} {K : String} {a : Addr} (wd : (Jvm.Cond.classLink own ix K).before a0 Z = true) (F : Ins Z h a K true) (hd : decode bytes pc = .ok (.checkcast ix, 3)) (hp : pc + 3 = pc') (k : Rn w Z EL own nm bytes ml ret R hS ws Q os cells slots h pc' Ls (.ref a :: rest)) : Rn w Z EL own nm bytes ml ret R hS ws Q os cells slots h pc Ls (.ref a :: rest) :=
  k.note fun p l e s m args below meth c T locs hx hby hml X hZ hown eT => by subst hp; exact Jvm.RoadKit.castY X hx hZ hown wd eT F (g := mkF m pc Ls (.ref a :: rest)) rfl rfl (hb hby hd)
theorem Rn.instY {ix : Nat} {K : String} {a : Addr} (wd : (Jvm.Cond.classLink own ix K).before a0 Z = true) (F : Ins Z h a K true) (hd : decode bytes pc = .ok (.instanceof ix, 3)) (hp : pc + 3 = pc') (k : Rn w Z EL own nm bytes ml ret R hS ws Q os cells slots h pc' Ls (.int 1 :: rest)) : Rn w Z EL own nm bytes ml ret R hS ws Q os cells slots h pc Ls (.ref a :: rest) :=
  k.note fun p l e s m args below meth c T locs hx hby hml X hZ hown eT => by subst hp; exact Jvm.RoadKit.instY X hx hZ hown wd eT F (g := mkF m pc Ls (.ref a :: rest)) rfl rfl (hb hby hd)
theorem Rn.instNo {ix : Nat} {K C : String} {a : Addr} (wd : (Jvm.Cond.classLink own ix K).before a0 Z = true) (E : Exa Z h a C) (F : ∃ c t, Z.vm.findClass C = some c ∧ Z.vm.findClass K = some t ∧ Z.vm.assignable c t = false) (hd : decode bytes pc = .ok (.instanceof ix, 3)) (hp : pc + 3 = pc') (k : Rn w Z EL own nm bytes ml ret R hS ws Q os cells slots h pc' Ls (.int 0 :: rest)) : Rn w Z EL own nm bytes ml ret R hS ws Q os cells slots h pc Ls (.ref a :: rest) :=
  k.note fun p l e s m args below meth c T locs hx hby hml X hZ hown eT => by subst hp; exact Jvm.RoadKit.instNo X hx hZ hown wd eT E F (g := mkF m pc Ls (.ref a :: rest)) rfl rfl (hb hby hd)
theorem Rn.initO {ix : Nat} {a : Addr} (w1 : (Jvm.Cond.methodLink own ix Lib.objectInit).before a0 Z = true) (w2 : (Jvm.Cond.instanceMethod Lib.objectInit).before a0 Z = true) (w3 : (Jvm.Cond.code Lib.objectInit ⟨#[0xb1]⟩ 1 none).before a0 Z = true) (hsz : Ls.size = ml) (hd : decode bytes pc = .ok (.invokespecial ix, 3)) (hf : 1 ≤ R.frames) (hl : (rest.map fun v => v.category).sum + 12 ≤ R.locals) (hp : pc + 3 = pc') (k : Rn w Z EL own nm bytes ml ret R hS ws Q os cells slots h pc' Ls rest) : Rn w Z EL own nm bytes ml ret R hS ws Q os cells slots h pc Ls (.ref a :: rest) :=
  k.note fun p l e s m args below meth c T locs hx hby hml X hZ hown eT => by subst hp; exact Jvm.RoadKit.initO X hx hZ hown w1 w2 w3 eT (g := mkF m pc Ls (.ref a :: rest)) rfl (hsz.trans hml.symm) rfl (hb hby hd) hf (W := (rest.map fun v => v.category).sum) (by show 2 * 0 + _ ≤ _; omega) hl
/-! ### contracts -/
/-- the contract of a method, in a walk that loads no literal: called with as over the heap h it returns as Q says and writes nothing but cells at ws and cells of its own -/
def Ct (Z : State) (y : MethodName) (bytes : ByteArray) (ml : Nat) (ret : Option FieldType) (rm : Room) (as : Array Value) (h : Heap) (ws : List Addr) (Q : Option Value → Heap → Prop) : Prop :=
  Ext Z.heap h → (∀ x ∈ ws, Z.heap.size ≤ x) → ∀ l, MetFree l y (head1 [Jvm.Cond.code y bytes ml ret] rm) (fun a U => a = as ∧ Z.Warmed39 U.vm ∧ U.heap = h) (fun _ _ _ _ _ => True) (fun _ U o U' => ∃ v L, o = .returned v ∧ (Fr Z.heap.size L ∧ Keep h U'.heap ws ∧ Q v U'.heap) ∧ FrameEnd U o U' L rm.cells rm.slots)
theorem met_of {wsT : List Jvm.Cond} {cls d : String} {as : Array Value} (pn : plainFor ⟨cls, nm, d⟩ = true) (ef : ∀ m, entryFrame m as ml = mkF m 0 Ls []) (hO : Ext Z.heap h) (hW : ∀ x ∈ ws, Z.heap.size ≤ x) (l : Launch) (k : Rn false Z [] cls nm bytes ml ret R h ws Q [] 0 0 h 0 Ls []) :
    MetFree l ⟨cls, nm, d⟩ (head1 (Jvm.Cond.code ⟨cls, nm, d⟩ bytes ml ret :: wsT) R) (fun a U => a = as ∧ Z.Warmed39 U.vm ∧ U.heap = h) (fun _ _ _ _ _ => True) (fun _ U o U' => ∃ v L, o = .returned v ∧ (Fr Z.heap.size L ∧ Keep h U'.heap ws ∧ Q v U'.heap) ∧ FrameEnd U o U' L R.cells R.slots) := by
  refine MetFree.of_bodySF pn hisR ?_
  intro p e s m args below meth c s₁ Bd hml0 hP hK
  obtain ⟨rfl, hZ, hh⟩ := hP
  have g := k p l e s s.vm m args below meth c s₁ [] ⟨Bd.exec, Bd.bytes, hml0, hZ, findClass_of_methodNamed Bd.named, (name_of_methodNamed Bd.named Bd.method).1, Bd.returns, Bd.notSynchronized⟩ (Stand.of_body Bd) rfl (Fr.nil _) (Keep.refl _ _) ⟨hO, hW⟩ (by rw [← hh, Bd.state]; rfl)
  obtain ⟨s₂, o, h1, h2, h3, h4⟩ := g
  exact ⟨s₂, o, castTop (ef m) h1, h2, h3, h4⟩
theorem Ct.intro {cls d : String} {as : Array Value} (pn : plainFor ⟨cls, nm, d⟩ = true) (ef : ∀ m, entryFrame m as ml = mkF m 0 Ls []) (k : Rn false Z [] cls nm bytes ml ret R h ws Q [] 0 0 h 0 Ls []) : Ct Z ⟨cls, nm, d⟩ bytes ml ret R as h ws Q :=
  fun hO hW l => met_of pn ef hO hW l k
theorem Ct.weaken {y : MethodName} {as : Array Value} {Q' : Option Value → Heap → Prop} (C : Ct Z y bytes ml ret R as h ws Q) (q : ∀ v h', Keep h h' ws → Q v h' → Q' v h') : Ct Z y bytes ml ret R as h ws Q' := by
  intro hO hW l p e ha hc hk s m args below hf happ hP hK
  obtain ⟨n, o, h1, h2, h3, v, L, h4, ⟨h5, h6, h7⟩, h8⟩ := C hO hW l p e ha hc hk s m args below hf happ hP hK
  exact ⟨n, o, h1, h2, h3, v, L, h4, ⟨h5, h6, q v _ h6 h7⟩, h8⟩
/-- behind a call by a plain contract -/
theorem Rn.called {st : List Value} {ws' : List Addr} {Q' : Option Value → Heap → Prop} {rm : Room} (hws : ∀ x ∈ ws', x ∈ ws ∨ hS.size ≤ x) (hsf : ∀ x ∈ ws', Sf w Z EL os h x)
    (k : ∀ v h', Keep h h' ws' → Q' v h' → Rn w Z EL own nm bytes ml ret R hS ws Q os (cells + rm.cells) (slots + rm.slots) h' pc' Ls (v.toList ++ rest))
    (f : ∀ (p : Program) (l : Launch) (e : Env) (s : State) (m : MethodId) (args : Array Value) (below : List Frame) (meth : Method) (c : Code) (T : State) (locs : List Loc), p.tables.exec = Jvm.exec → c.code = bytes → c.maxLocals = ml → Stand p l e R s m args below meth c T locs cells slots → Z.Warmed39 s.vm → s.vm.findClass own = some m.cls → T.heap = h → Ext Z.heap h → (∀ x ∈ ws', Z.heap.size ≤ x) →
      ∃ (v : Option Value) (B : Pt), Stand p l e R s m args below meth c B.U B.locs B.cells B.slots ∧ (∃ L, (Fr Z.heap.size L ∧ Keep h B.U.heap ws' ∧ Q' v B.U.heap) ∧ B.locs = locs ++ L ∧ B.cells = cells + rm.cells ∧ B.slots = slots + rm.slots) ∧ ∀ t, Steps p.tables e below (B.U.setTop (mkF m pc' Ls (v.toList ++ rest))) t → Steps p.tables e below (T.setTop (mkF m pc Ls st)) t) :
    Rn w Z EL own nm bytes ml ret R hS ws Q os cells slots h pc Ls st := by
  intro p l e s vm0 m args below meth c T locs ok X sn fr K O eT
  have X0 : Old Z Z.heap.size h := Old.keep (h := hS) ⟨rfl, O.1⟩ K O.2
  obtain ⟨v, ⟨U, L', c', s'⟩, X', ⟨L, ⟨f1, K', q'⟩, e1, e2, e3⟩, stp⟩ := f p l e _ m args below meth c T locs ok.1 ok.2.1 ok.2.2.1 X ok.2.2.2.1 ok.2.2.2.2.1 eT X0.2 (fun x hx => ge_of O (hws x hx))
  dsimp only [Pt.U, Pt.locs, Pt.cells, Pt.slots] at X' K' q' e1 e2 e3 stp
  subst e1 e2 e3
  exact (k v U.heap K' q' p l e s vm0 m args below meth c U _ ok X' (sn.keep ok.2.2.2.1 K' hsf) (fr.app f1) (K.trans K' hws) O rfl).pre stp
theorem Rn.callS {ix : Nat} {y : MethodName} {yb : ByteArray} {yl : Nat} {yr : Option FieldType} {rm : Room} {as : Array Value} {ws' : List Addr} {Q' : Option Value → Heap → Prop} {argsL : List Value} {st : List Value}
    (C : Ct Z y yb yl yr rm as h ws' Q') (w1 : (Jvm.Cond.methodLink own ix y).before a0 Z = true) (w2 : (Jvm.Cond.static y).before a0 Z = true) (w3 : (Jvm.Cond.initialized y.cls).before a0 Z = true) (w4 : (Jvm.Cond.code y yb yl yr).before a0 Z = true) (hy : y.cls ≠ "java/lang/invoke/MethodHandle" ∧ y.cls ≠ "java/lang/invoke/VarHandle")
    (hst : st = argsL.reverse ++ rest) (has : argsL.toArray = as) (hlen : ∀ sig, parseMethodDescriptor y.desc = some sig → argsL.length = sig.parameters.length) (hsz : Ls.size = ml) (hd : decode bytes pc = .ok (.invokestatic ix, 3)) (hp : pc + 3 = pc')
    (hf : rm.frames + 1 ≤ R.frames) (hl : (rest.map fun v => v.category).sum + (yl + 11) + rm.locals ≤ R.locals) (hc : cells + rm.cells ≤ R.cells) (hs : slots + rm.slots ≤ R.slots) (hws : ∀ x ∈ ws', x ∈ ws ∨ hS.size ≤ x) (hsf : ∀ x ∈ ws', Sf w Z EL os h x)
    (k : ∀ v h', Keep h h' ws' → Q' v h' → Rn w Z EL own nm bytes ml ret R hS ws Q os (cells + rm.cells) (slots + rm.slots) h' pc' Ls (v.toList ++ rest)) : Rn w Z EL own nm bytes ml ret R hS ws Q os cells slots h pc Ls st := by
  refine Rn.called hws hsf k fun p l e s m args below meth c T locs hx hby hml X hZ hown eT hO hge => ?_
  obtain ⟨v, vm1, B, -, X', ⟨L, q⟩, stp⟩ := Jvm.LawKit.callS X hx (y := y) hown (mvT hZ w1) (mvT hZ w2) (mvT hZ w3) (mvT hZ w4) hy (backOf (W := (rest.map fun v => v.category).sum) (Q := fun v h2 L => Fr Z.heap.size L ∧ Keep h h2 ws' ∧ Q' v h2) (C hO hge l) hZ w4 w3 hf hl) (g := mkF m pc Ls st) rfl (hsz.trans hml.symm) (argsL := argsL) (rest := rest) hlen hst (by show 2 * 0 + _ ≤ _; omega) (hb hby hd) (fun _ _ => ⟨has, eT, hc, hs⟩)
  subst hp
  exact ⟨v, B, X', ⟨L, q⟩, stp⟩
theorem Rn.callI {ix : Nat} {y : MethodName} {yb : ByteArray} {yl : Nat} {rm : Room} {as : Array Value} {ws' : List Addr} {Q' : Option Value → Heap → Prop} {a : Addr} {argsL : List Value} {st : List Value}
    (C : Ct Z y yb yl none rm as h ws' Q') (hy1 : y.name = "<init>") (w1 : (Jvm.Cond.methodLink own ix y).before a0 Z = true) (w2 : (Jvm.Cond.instanceMethod y).before a0 Z = true) (w3 : (Jvm.Cond.initialized y.cls).before a0 Z = true) (w4 : (Jvm.Cond.code y yb yl none).before a0 Z = true) (hy : y.cls ≠ "java/lang/invoke/MethodHandle" ∧ y.cls ≠ "java/lang/invoke/VarHandle")
    (hst : st = argsL.reverse ++ .ref a :: rest) (has : (.ref a :: argsL).toArray = as) (hlen : ∀ sig, parseMethodDescriptor y.desc = some sig → argsL.length = sig.parameters.length) (hsz : Ls.size = ml) (hd : decode bytes pc = .ok (.invokespecial ix, 3)) (hp : pc + 3 = pc')
    (hf : rm.frames + 1 ≤ R.frames) (hl : (rest.map fun v => v.category).sum + (yl + 11) + rm.locals ≤ R.locals) (hc : cells + rm.cells ≤ R.cells) (hs : slots + rm.slots ≤ R.slots) (hws : ∀ x ∈ ws', x ∈ ws ∨ hS.size ≤ x) (hsf : ∀ x ∈ ws', Sf w Z EL os h x)
    (k : ∀ v h', Keep h h' ws' → Q' v h' → Rn w Z EL own nm bytes ml ret R hS ws Q os (cells + rm.cells) (slots + rm.slots) h' pc' Ls (v.toList ++ rest)) : Rn w Z EL own nm bytes ml ret R hS ws Q os cells slots h pc Ls st := by
  refine Rn.called hws hsf k fun p l e s m args below meth c T locs hx hby hml X hZ hown eT hO hge => ?_
  obtain ⟨v, vm1, B, -, X', ⟨L, q⟩, stp⟩ := X.specialBack hx (y := y) hy1 hown (mvT hZ w1) (mvT hZ w2) (mvT hZ w4) hy (backOf (W := (rest.map fun v => v.category).sum) (Q := fun v h2 L => Fr Z.heap.size L ∧ Keep h h2 ws' ∧ Q' v h2) (C hO hge l) hZ w4 w3 hf hl) (g := mkF m pc Ls st) rfl (hsz.trans hml.symm) (Steps.refl _) (a := a) (argsL := argsL) (rest := rest) hlen hst (by show 2 * 0 + _ ≤ _; omega) (hb hby hd) (fun _ _ => ⟨has, eT, hc, hs⟩)
  subst hp
  exact ⟨v, B, X', ⟨L, q⟩, fun t r => stp.trans r⟩
theorem Rn.callV {ix : Nat} {C0 : String} {y z : MethodName} {yb : ByteArray} {yl : Nat} {yr : Option FieldType} {rm : Room} {as : Array Value} {ws' : List Addr} {Q' : Option Value → Heap → Prop} {a : Addr} {argsL : List Value} {st : List Value}
    (C : Ct Z z yb yl yr rm as h ws' Q') (E : Exa Z h a C0) (w1 : (Jvm.Cond.methodLink own ix y).before a0 Z = true) (w2 : (Jvm.Cond.declares y).before a0 Z = true) (nf : ∀ s : State, Z.Warmed39 s.vm → NotFace s y) (w5 : (Jvm.Cond.selects C0 y z).before a0 Z = true) (w6 : (Jvm.Cond.instanceMethod z).before a0 Z = true) (w3 : (Jvm.Cond.initialized z.cls).before a0 Z = true) (w4 : (Jvm.Cond.code z yb yl yr).before a0 Z = true) (hy : y.cls ≠ "java/lang/invoke/MethodHandle" ∧ y.cls ≠ "java/lang/invoke/VarHandle")
    (hst : st = argsL.reverse ++ .ref a :: rest) (has : (.ref a :: argsL).toArray = as) (hlen : ∀ sig, parseMethodDescriptor y.desc = some sig → argsL.length = sig.parameters.length) (hsz : Ls.size = ml) (hd : decode bytes pc = .ok (.invokevirtual ix, 3)) (hp : pc + 3 = pc')
    (hf : rm.frames + 1 ≤ R.frames) (hl : (rest.map fun v => v.category).sum + (yl + 11) + rm.locals ≤ R.locals) (hc : cells + rm.cells ≤ R.cells) (hs : slots + rm.slots ≤ R.slots) (hws : ∀ x ∈ ws', x ∈ ws ∨ hS.size ≤ x) (hsf : ∀ x ∈ ws', Sf w Z EL os h x)
    (k : ∀ v h', Keep h h' ws' → Q' v h' → Rn w Z EL own nm bytes ml ret R hS ws Q os (cells + rm.cells) (slots + rm.slots) h' pc' Ls (v.toList ++ rest)) : Rn w Z EL own nm bytes ml ret R hS ws Q os cells slots h pc Ls st := by
  refine Rn.called hws hsf k fun p l e s m args below meth c T locs hx hby hml X hZ hown eT hO hge => ?_
  obtain ⟨cq, kq, qa, qb, qc⟩ := isOf hZ eT E
  obtain ⟨v, vm1, B, -, X', ⟨L, q⟩, stp⟩ := X.virtualBack hx (y := y) (z := z) hown (mvT hZ w1) (mvT hZ w2) (nf s hZ) (mvT hZ w5) (mvT hZ w6) hy (backOf (W := (rest.map fun v => v.category).sum) (Q := fun v h2 L => Fr Z.heap.size L ∧ Keep h h2 ws' ∧ Q' v h2) (C hO hge l) hZ w4 w3 hf hl) qa qc (g := mkF m pc Ls st) rfl (hsz.trans hml.symm) (Steps.refl _) (argsL := argsL) (rest := rest) hlen hst (by show 2 * 0 + _ ≤ _; omega) (hb hby hd) (fun _ _ => ⟨has, eT, hc, hs⟩)
  subst hp
  exact ⟨v, B, X', ⟨L, q⟩, fun t r => stp.trans r⟩
end Objs
section Objs2
variable {w : Bool} {Z : State} {EL : List (String × Nat)} {own nm : String} {bytes : ByteArray} {ml : Nat} {ret : Option FieldType} {R : Room} {hS : Heap} {ws : List Addr} {Q : Option Value → Heap → Prop} {os : List Addr} {cells slots : Nat} {h h' : Heap} {pc pc' : Nat} {Ls Ls' : Array Slot} {rest : List Value} {a0 : Array Value}
theorem Rn.callU {ix : Nat} {C0 owner : String} {y z : MethodName} {yb : ByteArray} {yl : Nat} {yr : Option FieldType} {rm : Room} {as : Array Value} {ws' : List Addr} {Q' : Option Value → Heap → Prop} {a : Addr} {argsL : List Value} {st : List Value}
    (C : Ct Z z yb yl yr rm as h ws' Q') (E : Exa Z h a C0) (w1 : (Jvm.Cond.methodLink own ix y).before a0 Z = true) (w2 : (Jvm.Cond.sameMethod y.cls owner y.name y.desc).before a0 Z = true) (w7 : (Jvm.Cond.declares ⟨owner, y.name, y.desc⟩).before a0 Z = true) (hy : owner ≠ "java/lang/invoke/MethodHandle" ∧ owner ≠ "java/lang/invoke/VarHandle") (w5 : (Jvm.Cond.selects C0 y z).before a0 Z = true) (w6 : (Jvm.Cond.instanceMethod z).before a0 Z = true) (w3 : (Jvm.Cond.initialized z.cls).before a0 Z = true) (w4 : (Jvm.Cond.code z yb yl yr).before a0 Z = true)
    (hst : st = argsL.reverse ++ .ref a :: rest) (has : (.ref a :: argsL).toArray = as) (hlen : ∀ sig, parseMethodDescriptor y.desc = some sig → argsL.length = sig.parameters.length) (hsz : Ls.size = ml) (hd : decode bytes pc = .ok (.invokevirtual ix, 3)) (hp : pc + 3 = pc')
    (hf : rm.frames + 1 ≤ R.frames) (hl : (rest.map fun v => v.category).sum + (yl + 11) + rm.locals ≤ R.locals) (hc : cells + rm.cells ≤ R.cells) (hs : slots + rm.slots ≤ R.slots) (hws : ∀ x ∈ ws', x ∈ ws ∨ hS.size ≤ x) (hsf : ∀ x ∈ ws', Sf w Z EL os h x)
    (k : ∀ v h', Keep h h' ws' → Q' v h' → Rn w Z EL own nm bytes ml ret R hS ws Q os (cells + rm.cells) (slots + rm.slots) h' pc' Ls (v.toList ++ rest)) : Rn w Z EL own nm bytes ml ret R hS ws Q os cells slots h pc Ls st := by
  refine Rn.called hws hsf k fun p l e s m args below meth c T locs hx hby hml X hZ hown eT hO hge => ?_
  obtain ⟨cq, kq, qa, qb, qc⟩ := isOf hZ eT E
  obtain ⟨v, vm1, B, -, X', ⟨L, q⟩, stp⟩ := X.virtualBackUp hx (x := y) (y := z) hown (mvT hZ w1) (mvT hZ w2) (mvT hZ w7) hy (mvT hZ w5) (mvT hZ w6) (backOf (W := (rest.map fun v => v.category).sum) (Q := fun v h2 L => Fr Z.heap.size L ∧ Keep h h2 ws' ∧ Q' v h2) (C hO hge l) hZ w4 w3 hf hl) qa qc (g := mkF m pc Ls st) rfl (hsz.trans hml.symm) (Steps.refl _) (argsL := argsL) (rest := rest) hlen hst (by show 2 * 0 + _ ≤ _; omega) (hb hby hd) (fun _ _ => ⟨has, eT, hc, hs⟩)
  subst hp
  exact ⟨v, B, X', ⟨L, q⟩, fun t r => stp.trans r⟩
end Objs2
section Objs3
variable {w : Bool} {Z : State} {EL : List (String × Nat)} {own nm : String} {bytes : ByteArray} {ml : Nat} {ret : Option FieldType} {R : Room} {hS : Heap} {ws : List Addr} {Q : Option Value → Heap → Prop} {os : List Addr} {cells slots : Nat} {h h' : Heap} {pc pc' : Nat} {Ls Ls' : Array Slot} {rest : List Value} {a0 : Array Value}
theorem Rn.instNull {ix : Nat} (hd : decode bytes pc = .ok (.instanceof ix, 3)) (hp : pc + 3 = pc') (k : Rn w Z EL own nm bytes ml ret R hS ws Q os cells slots h pc' Ls (.int 0 :: rest)) : Rn w Z EL own nm bytes ml ret R hS ws Q os cells slots h pc Ls (.null :: rest) :=
  k.pure fun p l e s m args below meth c T locs hx hby X hZ hown eT t r => by subst hp; exact Jvm.Stand.instanceofNull X hx (g := mkF m pc Ls (.null :: rest)) rfl rfl (hb hby hd) t r
theorem Rn.castNull {ix : Nat} (hd : decode bytes pc = .ok (.checkcast ix, 3)) (hp : pc + 3 = pc') (k : Rn w Z EL own nm bytes ml ret R hS ws Q os cells slots h pc' Ls (.null :: rest)) : Rn w Z EL own nm bytes ml ret R hS ws Q os cells slots h pc Ls (.null :: rest) :=
  k.pure fun p l e s m args below meth c T locs hx hby X hZ hown eT t r => by subst hp; exact Jvm.Stand.checkcastNull X hx (g := mkF m pc Ls (.null :: rest)) rfl rfl (hb hby hd) t r
theorem ni_of {C C0 : String} {y z : MethodName} (w5 : (Jvm.Cond.selects C y z).before a0 Z = true) (e : z.cls = C0) (s : State) (hZ : Z.Warmed39 s.vm) : ∃ c k, s.vm.findClass C0 = some c ∧ s.vm.classes[c]? = some k ∧ k.isInterface = false := by
  subst e
  obtain ⟨c2, r2, m2, -, -, q3, -, kP, hkP, hkPi⟩ := Cond.selects_spec (mvT (args := #[]) (s := s) hZ w5)
  exact ⟨_, kP, findClass_of_methodNamed q3, hkP, hkPi⟩
theorem Rn.callP {ix : Nat} {C0 : String} {y : MethodName} {yb : ByteArray} {yl : Nat} {yr : Option FieldType} {rm : Room} {as : Array Value} {ws' : List Addr} {Q' : Option Value → Heap → Prop} {a : Addr} {argsL : List Value} {st : List Value}
    (C : Ct Z y yb yl yr rm as h ws' Q') (E : Exa Z h a C0) (w1 : (Jvm.Cond.methodLink own ix y).before a0 Z = true) (w6 : (Jvm.Cond.instanceMethod y).before a0 Z = true) (w7 : (Jvm.Cond.privateMethod y).before a0 Z = true) (ni : ∀ s : State, Z.Warmed39 s.vm → ∃ c k, s.vm.findClass y.cls = some c ∧ s.vm.classes[c]? = some k ∧ k.isInterface = false) (w3 : (Jvm.Cond.initialized y.cls).before a0 Z = true) (w4 : (Jvm.Cond.code y yb yl yr).before a0 Z = true) (hy : y.cls ≠ "java/lang/invoke/MethodHandle" ∧ y.cls ≠ "java/lang/invoke/VarHandle")
    (hst : st = argsL.reverse ++ .ref a :: rest) (has : (.ref a :: argsL).toArray = as) (hlen : ∀ sig, parseMethodDescriptor y.desc = some sig → argsL.length = sig.parameters.length) (hsz : Ls.size = ml) (hd : decode bytes pc = .ok (.invokevirtual ix, 3)) (hp : pc + 3 = pc')
    (hf : rm.frames + 1 ≤ R.frames) (hl : (rest.map fun v => v.category).sum + (yl + 11) + rm.locals ≤ R.locals) (hc : cells + rm.cells ≤ R.cells) (hs : slots + rm.slots ≤ R.slots) (hws : ∀ x ∈ ws', x ∈ ws ∨ hS.size ≤ x) (hsf : ∀ x ∈ ws', Sf w Z EL os h x)
    (k : ∀ v h', Keep h h' ws' → Q' v h' → Rn w Z EL own nm bytes ml ret R hS ws Q os (cells + rm.cells) (slots + rm.slots) h' pc' Ls (v.toList ++ rest)) : Rn w Z EL own nm bytes ml ret R hS ws Q os cells slots h pc Ls st := by
  refine Rn.called hws hsf k fun p l e s m args below meth c T locs hx hby hml X hZ hown eT hO hge => ?_
  obtain ⟨cl, e1, e2⟩ := E.cell
  obtain ⟨c9, k9, z1, z2, z3⟩ := ni s hZ
  have hpv : s.PrivateAt y := Cond.privateMethod_at (mvP (args := #[]) hZ w7)
  have hin : (Jvm.Cond.instanceMethod y).before args s = true := mvT hZ w6
  have hsel : (Jvm.Cond.selects y.cls y y).before args s = true := selects_self_of_private z1 z2 z3 hpv hin hy
  obtain ⟨v, vm1, B, -, X', ⟨L, q⟩, stp⟩ := X.privateBack hx (y := y) hown (mvT hZ w1) hin hsel hpv (mvT hZ w4) hy (backOf (W := (rest.map fun v => v.category).sum) (Q := fun v h2 L => Fr Z.heap.size L ∧ Keep h h2 ws' ∧ Q' v h2) (C hO hge l) hZ w4 w3 hf hl) (g := mkF m pc Ls st) rfl (hsz.trans hml.symm) (Steps.refl _) (a := a) (cell := cl) (by rw [eT]; exact e1) e2 (argsL := argsL) (rest := rest) hlen hst (by show 2 * 0 + _ ≤ _; omega) (hb hby hd) (fun _ _ => ⟨has, eT, hc, hs⟩)
  subst hp
  exact ⟨v, B, X', ⟨L, q⟩, fun t r => stp.trans r⟩
/-- a new array of references -/
theorem Rn.newRO {ix : Nat} {n : Int32} {cap : Nat} {C : String} (w1 : (Jvm.Cond.classLink own ix C).before a0 Z = true) (w2 : (Jvm.Cond.arrayOver (.object C)).before a0 Z = true) (hd : decode bytes pc = .ok (.anewarray ix, 3)) (hn : ¬ n < 0) (hcap : n.toNatClampNeg ≤ cap) (hb8 : cap * 8 ≤ 536870912) (hc : cells + 1 ≤ R.cells) (hs : slots + cap ≤ R.slots) (hp : pc + 3 = pc')
    (k : ∀ h' a, a = h.size → hS.size ≤ a → Ext h h' → (Ax Z h' a (.object C) (List.replicate n.toNatClampNeg .null) ∧ ∃ cA cl, h'[a]? = some cl ∧ cl.cls = cA ∧ Ovr Z cA C) → Rn w Z EL own nm bytes ml ret R hS ws Q (a :: os) (cells + 1) (slots + cap) h' pc' Ls (.ref a :: rest)) : Rn w Z EL own nm bytes ml ret R hS ws Q os cells slots h pc Ls (.int n :: rest) := by
  refine Rn.made (G := fun h' a => Ax Z h' a (.object C) (List.replicate n.toNatClampNeg .null) ∧ ∃ cA cl, h'[a]? = some cl ∧ cl.cls = cA ∧ Ovr Z cA C) (st' := fun a => .ref a :: rest) (st := fun _ => rest) k (fun h' g => g.1.lt) fun p l e s m args below meth c T locs hx hby X hZ hown eT => ?_
  subst hp
  obtain ⟨T', h', cA, X', e', E, A, O, st⟩ := Jvm.RoadKit.newR X hx hZ hown w1 w2 eT (g := mkF m pc Ls (.int n :: rest)) rfl (hb hby hd) rfl hn hcap hb8 hc hs
  exact ⟨T', h', X', e', E, ⟨Ax.new A hn, cA, _, A.1, rfl, O⟩, st⟩
/-- an old array's clone -/
theorem Rn.clone {ix cap : Nat} {a : Addr} {ad : String} {ty : FieldType} {cl : Cell} {vs : List Value} (w1 : (Jvm.Cond.methodLink own ix ⟨ad, "clone", "()Ljava/lang/Object;"⟩).before a0 Z = true) (w2 : (Jvm.Cond.sameMethod ad "java/lang/Object" "clone" "()Ljava/lang/Object;").before a0 Z = true) (w3 : (Jvm.Cond.native ⟨"java/lang/Object", "clone", "()Ljava/lang/Object;"⟩).before a0 Z = true)
    (w4 : (Jvm.Cond.instanceMethod ⟨"java/lang/Object", "clone", "()Ljava/lang/Object;"⟩).before a0 Z = true) (w5 : (Jvm.Cond.selects ad ⟨ad, "clone", "()Ljava/lang/Object;"⟩ ⟨"java/lang/Object", "clone", "()Ljava/lang/Object;"⟩).before a0 Z = true) (w6 : (Jvm.Cond.castable ad "java/lang/Cloneable").before a0 Z = true)
    (A : Arr Z h a cl ty) (E0 : Exa Z h a ad) (F : FitC Z cl) (hvs : cl.slots = vs.toArray) (hlen : vs.length < 2 ^ 31) (hd : decode bytes pc = .ok (.invokevirtual ix, 3)) (hsz : Ls.size = ml) (hf : 1 ≤ R.frames) (hl : (rest.map fun v => v.category).sum + 14 ≤ R.locals) (hcap : vs.length ≤ cap) (hc : cells + 1 ≤ R.cells) (hs : slots + cap ≤ R.slots) (hp : pc + 3 = pc')
    (k : ∀ h' b, b = h.size → hS.size ≤ b → Ext h h' → (Ax Z h' b ty vs ∧ Exa Z h' b ad) → Rn w Z EL own nm bytes ml ret R hS ws Q (b :: os) (cells + 1) (slots + cap) h' pc' Ls (.ref b :: rest)) : Rn w Z EL own nm bytes ml ret R hS ws Q os cells slots h pc Ls (.ref a :: rest) := by
  intro p l e s vm0 m args below meth c T locs ok X sn fr K O eT
  obtain ⟨hx, hby, hml, hZ, hown, hnm, hret, hlk⟩ := id ok
  obtain ⟨T', h', X', e', E, A', B', stp⟩ := Jvm.RoadKit.cloneA X hx hZ hown w1 w2 w3 w4 w5 w6 eT A E0 F (g := mkF m pc Ls (.ref a :: rest)) rfl (hsz.trans hml.symm) rfl (hb hby hd) hf (W := (rest.map fun v => v.category).sum) (by show 2 * 0 + _ ≤ _; omega) hl (by rw [hvs]; simpa using hcap) hc hs
  have g : Ax Z h' h.size ty vs := ⟨_, A', hvs, hlen⟩
  have sn1 : Sn w Z EL s vm0 h' os := sn.ext E
  have sn' : Sn w Z EL s vm0 h' (h.size :: os) := by
    cases w
    · exact sn1
    · refine ⟨sn1.1, sn1.2.1, sn1.2.2.1, fun x hx => ?_⟩
      rcases List.mem_cons.mp hx with rfl | hx
      · exact ⟨g.lt, (Safe.new (Nat.le_refl _)).ext E sn.2.1.1⟩
      · exact sn1.2.2.2 x hx
  subst hp
  exact (k h' h.size rfl K.1 E ⟨g, B'⟩ p l e s vm0 m args below meth c T' _ ok X' sn' fr (K.ext E) O e').pre stp
theorem eqv_r {Z : State} {args : Array Value} {X F : Term} {idx : List Nat} {y : Addr} (hF : F.eval args Z none idx Z = some (.ref y)) (h : (Cond.eq X F).value args Z none Z idx = some true) : X.eval args Z none idx Z = some (.ref y) := by
  cases hX : X.eval args Z none idx Z with
  | none => simp [Cond.value, hX] at h
  | some x => cases x <;> simp [Cond.value, hX, hF] at h ⊢; exact h
theorem lenIs {s : State} {args : Array Value} {t : Term} {a : Addr} {c : Cell} {ty : FieldType} {n : Int32} {k : Nat} (et : t.eval args s none [] s = some (.ref a)) (A : Arr s s.heap a c ty) (h : (Term.length t).eval args s none [] s = some (.int n)) (hk : n.toInt = k) : c.slots.size = k := by
  have ha := A.fin (Vm.Alike.refl _)
  by_cases q : c.slots.size < 2 ^ 31
  · rw [len_f et ha q] at h
    have := congrArg Int32.toInt (Value.int.inj (Option.some.inj h))
    rw [len_toInt q] at this
    omega
  · have q' : ¬ c.slots.size < 2147483648 := q
    simp [Term.eval, et, ha, q'] at h
/-- 'anewarray' of an array type -/
theorem Rn.newRA {ix : Nat} {n : Int32} {cap : Nat} {ty : FieldType} {C ad : String} (w1 : (Jvm.Cond.classLink own ix C).before a0 Z = true) (w2 : (Jvm.Cond.arrayOver (.array ty)).before a0 Z = true) (hC : (FieldType.array ty).toString = C) (had : "[" ++ C = ad) (hd : decode bytes pc = .ok (.anewarray ix, 3)) (hn : ¬ n < 0) (hcap : n.toNatClampNeg ≤ cap) (hb8 : cap * 8 ≤ 536870912) (hc : cells + 1 ≤ R.cells) (hs : slots + cap ≤ R.slots) (hp : pc + 3 = pc')
    (k : ∀ h' a, a = h.size → hS.size ≤ a → Ext h h' → (Ax Z h' a (.array ty) (List.replicate n.toNatClampNeg .null) ∧ Exa Z h' a ad ∧ ∀ y, ∀ {h2 : Heap} {vs : List Value}, Ax Z h2 a (.array ty) vs → (∃ cl, h2[a]? = some cl ∧ ∃ cl', h'[a]? = some cl' ∧ cl.cls = cl'.cls) → Ins Z h2 y C true → Sto Z h2 a (.ref y)) → Rn w Z EL own nm bytes ml ret R hS ws Q (a :: os) (cells + 1) (slots + cap) h' pc' Ls (.ref a :: rest)) : Rn w Z EL own nm bytes ml ret R hS ws Q os cells slots h pc Ls (.int n :: rest) := by
  refine Rn.made (G := fun h' a => Ax Z h' a (.array ty) (List.replicate n.toNatClampNeg .null) ∧ Exa Z h' a ad ∧ ∀ y, ∀ {h2 : Heap} {vs : List Value}, Ax Z h2 a (.array ty) vs → (∃ cl, h2[a]? = some cl ∧ ∃ cl', h'[a]? = some cl' ∧ cl.cls = cl'.cls) → Ins Z h2 y C true → Sto Z h2 a (.ref y)) (st' := fun a => .ref a :: rest) (st := fun _ => rest) k (fun h' g => g.1.lt) fun p l e s m args below meth c T locs hx hby X hZ hown eT => ?_
  subst hp
  obtain ⟨T', h', cA, X', e', E, A, B, O, st⟩ := Jvm.RoadKit.newRA X hx hZ hown hC w1 w2 eT (g := mkF m pc Ls (.int n :: rest)) rfl (hb hby hd) rfl hn hcap hb8 hc hs had
  refine ⟨T', h', X', e', E, ⟨Ax.new A hn, B, fun y h2 vs A2 ⟨cl, q1, cl', q2, q3⟩ I => ?_⟩, st⟩
  obtain ⟨c2, A3, -⟩ := A2
  cases q1.symm.trans A3.1
  cases q2.symm.trans A.1
  exact Sto.ofVA A3 q3 O I
/-- 'System.arraycopy' between arrays of one primitive type (or one array and itself) -/
theorem Rn.arraycopy {ix : Nat} {a b : Addr} {ty : FieldType} {vs vd vs' : List Value} {sp dp nn : Int32} (A : Ax Z h a ty vs) (B : Ax Z h b ty vd) (fa : ∀ x ∈ vs, fits ty x = true) (fb : ∀ x ∈ vd, fits ty x = true) (hty : refKind ty = false)
    (w1 : (Jvm.Cond.methodLink own ix Jvm.Stand.acN).before a0 Z = true) (w2 : (Jvm.Cond.native Jvm.Stand.acN).before a0 Z = true) (w3 : (Jvm.Cond.static Jvm.Stand.acN).before a0 Z = true) (w4 : (Jvm.Cond.initialized "java/lang/System").before a0 Z = true)
    (h1 : ¬ sp < 0) (h2 : ¬ dp < 0) (h3 : ¬ nn < 0) (h4 : sp.toNatClampNeg + nn.toNatClampNeg ≤ vs.length) (h5 : dp.toNatClampNeg + nn.toNatClampNeg ≤ vd.length)
    (hv : vd.take dp.toNatClampNeg ++ (List.range nn.toNatClampNeg).map (fun i => vs.getD (sp.toNatClampNeg + i) (.int 0)) ++ vd.drop (dp.toNatClampNeg + nn.toNatClampNeg) = vs')
    (hsz : Ls.size = ml) (hd : decode bytes pc = .ok (.invokestatic ix, 3)) (hf : 1 ≤ R.frames) (hl : (rest.map fun v => v.category).sum + 18 ≤ R.locals) (q : b ∈ ws ∨ hS.size ≤ b) (sf : Sf w Z EL os h b) (hp : pc + 3 = pc')
    (k : ∀ h', Keep h h' [b] → Ax Z h' b ty vs' → Rn w Z EL own nm bytes ml ret R hS ws Q os cells slots h' pc' Ls rest) : Rn w Z EL own nm bytes ml ret R hS ws Q os cells slots h pc Ls (.int nn :: .int dp :: .ref b :: .int sp :: .ref a :: rest) := by
  intro p l e s vm0 m args below meth c T locs ok X sn fr K O eT
  have hlen : ∀ {xs : List Value}, xs.length < 2 ^ 31 → (Int32.ofNat xs.length).toNatClampNeg = xs.length ∧ ¬ Int32.ofNat xs.length < 0 := fun {xs} hx => by
    have e1 : (Int32.ofNat xs.length).toInt = xs.length := Int32.toInt_ofNat_of_lt hx
    refine ⟨by simp [Int32.toNatClampNeg, e1], ?_⟩
    rw [Int32.lt_iff_toInt_lt, e1]; have : (0 : Int32).toInt = 0 := rfl; omega
  obtain ⟨la, na⟩ := hlen (xs := vs) (by obtain ⟨_, _, _, z⟩ := A; exact z)
  obtain ⟨lb, nb⟩ := hlen (xs := vd) (by obtain ⟨_, _, _, z⟩ := B; exact z)
  obtain ⟨ka, Aa⟩ := A.arv (d := .int 0) fa _ la na
  obtain ⟨kb, Bb⟩ := B.arv (d := .int 0) fb _ lb nb
  obtain ⟨T', h', L, X', e', N', K', A', stp⟩ := cpA X ok.1 ok.2.2.2.1 ok.2.2.2.2.1 w1 w2 w3 w4 eT Aa Bb (Or.inl ⟨rfl, hty⟩) h1 h2 h3 (by rw [la]; exact h4) (by rw [lb]; exact h5) rfl h5 fr (ge_of O q) (g := mkF m pc Ls (.int nn :: .int dp :: .ref b :: .int sp :: .ref a :: rest)) rfl (hsz.trans ok.2.2.1.symm) rfl (hb ok.2.1 hd) hf (W := (rest.map fun v => v.category).sum) (by show 2 * 0 + _ ≤ _; omega) hl
  have A2 : Ax Z h' b ty vs' := by
    rw [← hv]
    refine Ax.ofArv A' ?_
    simp only [List.length_append, List.length_take, List.length_map, List.length_range, List.length_drop]; omega
  subst hp
  exact (k h' K' A2 p l e s vm0 m args below meth c T' L ok X' (sn.keep ok.2.2.2.1 K' fun x hx => by cases List.mem_singleton.mp hx; exact sf) N' (K.trans K' fun x hx => by cases List.mem_singleton.mp hx; exact q) O e').pre stp
end Objs3
theorem ns_root {Z : State} {a0 : Array Value} {O K : String} {n : Nat} (w : (Jvm.Cond.noSuperclass O).before a0 Z = true) (wi : (Jvm.Cond.instantiable K n).before a0 Z = true) (hn : O ≠ K) : NS Z O K := by
  obtain ⟨c, k, h1, h2, h3, -, -⟩ := Cond.noSuperclass_spec w
  obtain ⟨t, kt, g1, -⟩ := Cond.instantiable_spec wi
  have ne := ids_ne h1 g1 hn
  refine ⟨c, t, h1, g1, fun fuel => ?_⟩
  cases fuel with
  | zero => rfl
  | succ f => simp [Vm.isSubclassAux, ne, h2, h3]
theorem ns_no {Z : State} {a0 : Array Value} {C S K : String} {n : Nat} (w : (Jvm.Cond.superclass C S).before a0 Z = true) (wi : (Jvm.Cond.instantiable K n).before a0 Z = true) (nn : NS Z C K) (hn : C ≠ K) : ∃ c t, Z.vm.findClass C = some c ∧ Z.vm.findClass K = some t ∧ Z.vm.assignable c t = false := by
  obtain ⟨c, t, h0, g0, n3⟩ := nn
  obtain ⟨p, k, kp, h1, h2, h3, h4, h5, -, h7⟩ := Cond.superclass_spec h0 w
  obtain ⟨t', k', g1, g2, g5, g7, -⟩ := Cond.instantiable_spec wi
  cases g0.symm.trans g1
  have g8 : k'.isInterface = false := by cases q : k'.isInterface <;> simp [q] at g7 ⊢
  have ne := ids_ne h0 g0 hn
  refine ⟨c, t, h0, g0, ?_⟩
  show Z.vm.assignableAux (255 + 1) c t = false
  simp [Vm.assignableAux, ne, h2, g2, h5, g5, g8, Vm.isSubclass, n3]
/-! ### walks that load String literals -/
section Wide
variable {Z : State} {EL : List (String × Nat)} {own nm : String} {bytes : ByteArray} {ml : Nat} {ret : Option FieldType} {R : Room} {hS : Heap} {ws : List Addr} {Q : Option Value → Heap → Prop} {os : List Addr} {cells slots : Nat} {h h' : Heap} {pc pc' : Nat} {Ls Ls' : Array Slot} {rest : List Value} {a0 : Array Value}
theorem Sn.later {s : State} {vm0 vm1 : Vm} {k1 : Nat} (sn : Sn true Z EL s vm0 h os) (hS1 : s.Since vm1 k1) (hk : k1 ≤ h'.size) (C : CHr Z EL vm0 h vm1 h') : Sn true Z EL s vm1 h' os :=
  ⟨⟨k1, hS1, hk⟩, sn.2.1.trans C, sn.2.2.1, fun x hx => ⟨Nat.lt_of_lt_of_le (sn.2.2.2 x hx).1 C.2.1, C.safe (sn.2.2.2 x hx).1 (sn.2.2.2 x hx).2⟩⟩
/-- 'ldc' of a literal that is only handed on -/
theorem Rn.ldcO {ix n : Nat} {text : String} (hE : EW Z a0 EL) (wS : ∀ a ∈ Bundle.stringAtoms, a.before a0 Z = true) (wd : (Jvm.Cond.stringLink own ix text).before a0 Z = true) (hd : decode bytes pc = .ok (.ldc ix, 2)) (hn : 4 * text.toList.length ≤ n) (hbig : n ≤ 536870912) (hc : cells + 2 ≤ R.cells) (hs : slots + (n + 4) ≤ R.slots) (hp : pc + 2 = pc')
    (k : ∀ h' a, Ext h h' → Rn true Z EL own nm bytes ml ret R hS ws Q os (cells + 2) (slots + (n + 4)) h' pc' Ls (.ref a :: rest)) : Rn true Z EL own nm bytes ml ret R hS ws Q os cells slots h pc Ls rest := by
  intro p l e s vm0 m args below meth c T locs ok X sn fr K O eT
  obtain ⟨hx, hby, hml, hZ, hown, hnm, hret, hlk⟩ := ok
  obtain ⟨⟨k0, hS0, hk0⟩, hC, -, -⟩ := id sn
  obtain ⟨a, T', h1, k1, X', e', E, hS1, hk1, hZ', hown', C, -, stp⟩ := ldcOH X hx hZ hown wd wS eT hS0 hk0 hE hC.1 (g := mkF m pc Ls rest) rfl (hb hby hd) hn hbig hc hs
  subst hp
  exact (k h1 a E p l e s T'.vm m args below meth c T' locs ⟨hx, hby, hml, hZ', hown', hnm, hret, hlk⟩ X' (sn.later hS1 hk1 C) fr (K.ext E) O e').pre stp
/-- 'ldc' of a literal that is read -/
theorem Rn.ldcR {ix n : Nat} {text : String} {vs : List Value} {z : Int32} (hE : EW Z a0 EL) (wS : ∀ a ∈ Bundle.stringAtoms, a.before a0 Z = true) (wd : (Jvm.Cond.stringLink own ix text).before a0 Z = true) (hm : (own, ix) ∈ EL) (ht : (∀ c ∈ text.toList, c.toNat < 256) ∧ text.toList.map (fun c => Value.int (Jvm.Lit.byteI c.toNat.toUInt16)) = vs) (hz : ¬ z < 0) (hl : z.toNatClampNeg = vs.length) (hd : decode bytes pc = .ok (.ldc ix, 2)) (hn : 4 * text.toList.length ≤ n) (hbig : n ≤ 536870912) (hc : cells + 2 ≤ R.cells) (hs : slots + (n + 4) ≤ R.slots) (hp : pc + 2 = pc')
    (k : ∀ h' a t, Ext h h' → Exa Z h' a "java/lang/String" → Fld Z h' a "java/lang/String" "coder" "B" (.int 0) → Fld Z h' a "java/lang/String" "value" "[B" (.ref t) → Ax Z h' t .byte vs → (∀ x ∈ os, x ≠ a ∧ x ≠ t) → Rn true Z EL own nm bytes ml ret R hS ws Q os (cells + 2) (slots + (n + 4)) h' pc' Ls (.ref a :: rest)) : Rn true Z EL own nm bytes ml ret R hS ws Q os cells slots h pc Ls rest := by
  intro p l e s vm0 m args below meth c T locs ok X sn fr K O eT
  obtain ⟨hx, hby, hml, hZ, hown, hnm, hret, hlk⟩ := ok
  obtain ⟨⟨k0, hS0, hk0⟩, hC, -, hos⟩ := id sn
  obtain ⟨a, T', h1, k1, b, kb, X', e', E, hS1, hk1, hZ', hown', A1, A2, A3, A4, -, -, C, -, hne, stp⟩ := ldcCH X hx hZ hown wd wS eT hS0 hk0 hE hm hC.1 ht hz hl (g := mkF m pc Ls rest) rfl (hb hby hd) hn hbig hc hs
  subst hp
  exact (k h1 a b E A1 A2 A3 (Ax.ofArv A4 hl.symm) (fun x hx => hne x (C.safe (hos x hx).1 (hos x hx).2)) p l e s T'.vm m args below meth c T' locs ⟨hx, hby, hml, hZ', hown', hnm, hret, hlk⟩ X' (sn.later hS1 hk1 C) fr (K.ext E) O e').pre stp
/-- the contract of a method whose walk may load literals -/
def CtW (Z : State) (EL : List (String × Nat)) (y : MethodName) (bytes : ByteArray) (ml : Nat) (ret : Option FieldType) (rm : Room) (as : Array Value) (h : Heap) (os ws : List Addr) (Q : Option Value → Heap → Prop) : Prop :=
  Ext Z.heap h → (∀ x ∈ ws, Z.heap.size ≤ x) → (∃ a0, EW Z a0 EL) → ∀ l, MetFree l y (head1 [Jvm.Cond.code y bytes ml ret] rm) (fun a U => a = as ∧ Z.Warmed39 U.vm ∧ U.heap = h ∧ CHv Z EL U.vm h ∧ ∀ x ∈ os, x < h.size ∧ Safe Z EL U.vm h x) (fun _ _ _ _ _ => True) (fun _ U o U' => ∃ v L, o = .returned v ∧ (Fr Z.heap.size L ∧ Keep h U'.heap ws ∧ Q v U'.heap) ∧ CHr Z EL U.vm U.heap U'.vm U'.heap ∧ ReturnedEndW U o U' L rm.cells rm.slots)
theorem metW_of {wsT : List Jvm.Cond} {cls d : String} {as : Array Value} (pn : plainFor ⟨cls, nm, d⟩ = true) (ef : ∀ m, entryFrame m as ml = mkF m 0 Ls []) (hO : Ext Z.heap h) (hW : ∀ x ∈ ws, Z.heap.size ≤ x) (hE : ∃ a0, EW Z a0 EL) (l : Launch) (k : Rn true Z EL cls nm bytes ml ret R h ws Q os 0 0 h 0 Ls []) :
    MetFree l ⟨cls, nm, d⟩ (head1 (Jvm.Cond.code ⟨cls, nm, d⟩ bytes ml ret :: wsT) R) (fun a U => a = as ∧ Z.Warmed39 U.vm ∧ U.heap = h ∧ CHv Z EL U.vm h ∧ ∀ x ∈ os, x < h.size ∧ Safe Z EL U.vm h x) (fun _ _ _ _ _ => True) (fun _ U o U' => ∃ v L, o = .returned v ∧ (Fr Z.heap.size L ∧ Keep h U'.heap ws ∧ Q v U'.heap) ∧ CHr Z EL U.vm U.heap U'.vm U'.heap ∧ ReturnedEndW U o U' L R.cells R.slots) := by
  refine MetFree.of_bodySF pn hisR ?_
  intro p e s m args below meth c s₁ Bd hml0 hP hK
  obtain ⟨rfl, hZ, rfl, hC, hos⟩ := hP
  have g := k p l e s s.vm m args below meth c s₁ [] ⟨Bd.exec, Bd.bytes, hml0, hZ, findClass_of_methodNamed Bd.named, (name_of_methodNamed Bd.named Bd.method).1, Bd.returns, Bd.notSynchronized⟩ (Stand.of_body Bd) ⟨⟨_, (State.WarmedH.refl s).since s.heap.size, Nat.le_refl _⟩, CHr.refl hC, hE, hos⟩ (Fr.nil _) (Keep.refl _ _) ⟨hO, hW⟩ (by rw [Bd.state]; rfl)
  obtain ⟨s₂, o, h1, h2, h3, h4⟩ := g
  exact ⟨s₂, o, castTop (ef m) h1, h2, h3, h4⟩
theorem CtW.intro {cls d : String} {as : Array Value} (pn : plainFor ⟨cls, nm, d⟩ = true) (ef : ∀ m, entryFrame m as ml = mkF m 0 Ls []) (k : Rn true Z EL cls nm bytes ml ret R h ws Q os 0 0 h 0 Ls []) : CtW Z EL ⟨cls, nm, d⟩ bytes ml ret R as h os ws Q :=
  fun hO hW hE l => metW_of pn ef hO hW hE l k
/-- what pays a call by a wide contract -/
theorem backW {y : MethodName} {yb : ByteArray} {yl : Nat} {yr : Option FieldType} {rm : Room} {len W : Nat} {as : Array Value} {os' ws' : List Addr} {Q' : Option Value → Heap → Prop} {p : Program} {l : Launch} {e : Env} {s : State} {vm0 : Vm} {args : Array Value} {below : List Frame} (C : CtW Z EL y yb yl yr rm as h os' ws' Q') (hO : Ext Z.heap h) (hge : ∀ x ∈ ws', Z.heap.size ≤ x)
    (hZ : Z.Warmed39 vm0) (wc : (Jvm.Cond.code y yb yl yr).before a0 Z = true) (wz : (Jvm.Cond.initialized y.cls).before a0 Z = true) (hf : rm.frames + 1 ≤ R.frames) (hl : W + (yl + 11) + rm.locals ≤ R.locals) (hEL : EW Z a0 EL) (H : CHv Z EL vm0 h) (hos : ∀ x ∈ os', x < h.size ∧ Safe Z EL vm0 h x) :
    BackS l R p e below (s.setVm vm0) args y len W (fun A a => a = as ∧ A.U.heap = h ∧ A.cells + rm.cells ≤ R.cells ∧ A.slots + rm.slots ≤ R.slots)
      (fun A _ v B => ∃ L, (Fr Z.heap.size L ∧ Keep h B.U.heap ws' ∧ Q' v B.U.heap) ∧ B.locs = A.locs ++ L ∧ B.cells = A.cells + rm.cells ∧ B.slots = A.slots + rm.slots ∧ CHr Z EL vm0 h B.U.vm B.U.heap) :=
  BackS.of_freeW (bytes := yb) (maxL := yl) (ret := yr) (E := fun _ first o t L k n => k = rm.cells ∧ n = rm.slots ∧ (∃ v, o = .returned v ∧ (Fr Z.heap.size L ∧ Keep h t.heap ws' ∧ Q' v t.heap)) ∧ CHr Z EL first.vm first.heap t.vm t.heap) (C hO hge ⟨_, hEL⟩ l) hf hl
    (fun m meth c A a Y hp => have hU : Z.Warmed39 A.U.vm := wtrans (s := s.setVm vm0) hZ Y.warmed
      ⟨by show (Jvm.Cond.and _ .tt).before a A.U = true; rw [Cond.before_and, mv hU wc]; rfl, mv hU wc, mv hU wz, hp.2.2.1, hp.2.2.2⟩)
    (fun m meth c A a g mk Y hp => ⟨hp.1, wtrans (s := s.setVm vm0) hZ Y.warmed, hp.2.1, (CHv.at Y hZ hEL H).1, fun x hx => ⟨(hos x hx).1, (CHv.at Y hZ hEL H).safe (hos x hx).1 (hos x hx).2⟩⟩) (fun _ _ _ _ _ _ _ _ _ => trivial)
    (fun _ _ _ _ ⟨v, L, h1, h2, h3, h4⟩ => ⟨L, _, _, h4, rfl, rfl, ⟨v, h1, h2⟩, h3⟩)
    (fun m meth c A a g mk v t L k n Y hp _ _ ⟨e1, e2, ⟨v', e3, e4⟩, e5⟩ => by
      cases e3; subst e1 e2
      refine ⟨L, e4, rfl, rfl, rfl, (CHv.at Y hZ hEL H).trans ?_⟩
      rw [← hp.2.1]; exact e5)
theorem Rn.calledW {st : List Value} {os' ws' : List Addr} {Q' : Option Value → Heap → Prop} {rm : Room} (hws : ∀ x ∈ ws', x ∈ ws ∨ hS.size ≤ x) (hos : ∀ x ∈ os', x ∈ os)
    (k : ∀ v h', Keep h h' ws' → Q' v h' → Rn true Z EL own nm bytes ml ret R hS ws Q os (cells + rm.cells) (slots + rm.slots) h' pc' Ls (v.toList ++ rest))
    (f : ∀ (p : Program) (l : Launch) (e : Env) (s : State) (vm0 : Vm) (m : MethodId) (args : Array Value) (below : List Frame) (meth : Method) (c : Code) (T : State) (locs : List Loc), p.tables.exec = Jvm.exec → c.code = bytes → c.maxLocals = ml → Stand p l e R (s.setVm vm0) m args below meth c T locs cells slots → Z.Warmed39 vm0 → (s.setVm vm0).vm.findClass own = some m.cls → T.heap = h → Ext Z.heap h → (∀ x ∈ ws', Z.heap.size ≤ x) → CHv Z EL vm0 h → (∀ x ∈ os', x < h.size ∧ Safe Z EL vm0 h x) →
      ∃ (v : Option Value) (B : Pt), Stand p l e R ((s.setVm vm0).setVm B.U.vm) m args below meth c B.U B.locs B.cells B.slots ∧ (s.setVm vm0).Since B.U.vm B.U.heap.size ∧ T.heap.size ≤ B.U.heap.size ∧ (∃ L, (Fr Z.heap.size L ∧ Keep h B.U.heap ws' ∧ Q' v B.U.heap) ∧ B.locs = locs ++ L ∧ B.cells = cells + rm.cells ∧ B.slots = slots + rm.slots ∧ CHr Z EL vm0 h B.U.vm B.U.heap) ∧ ∀ t, Steps p.tables e below (B.U.setTop (mkF m pc' Ls (v.toList ++ rest))) t → Steps p.tables e below (T.setTop (mkF m pc Ls st)) t) :
    Rn true Z EL own nm bytes ml ret R hS ws Q os cells slots h pc Ls st := by
  intro p l e s vm0 m args below meth c T locs ok X sn fr K O eT
  have X0 : Old Z Z.heap.size h := Old.keep (h := hS) ⟨rfl, O.1⟩ K O.2
  obtain ⟨hx, hby, hml, hZ, hown, hnm, hret, hlk⟩ := ok
  obtain ⟨⟨k0, hS0, hk0⟩, hC, -, hs0⟩ := id sn
  obtain ⟨v, ⟨U, L', c', s'⟩, X', hS1, hg, ⟨L, ⟨f1, K', q'⟩, e1, e2, e3, C⟩, stp⟩ := f p l e s vm0 m args below meth c T locs hx hby hml X hZ hown eT X0.2 (fun x hx => ge_of O (hws x hx)) hC.1 (fun x hx => hs0 x (hos x hx))
  dsimp only [Pt.U, Pt.locs, Pt.cells, Pt.slots] at X' K' q' e1 e2 e3 stp C hS1 hg
  subst e1 e2 e3
  obtain ⟨X2, hS2, hZ2, hown2⟩ := rebS hS0 hk0 X' hS1 (by rw [← eT]; exact hg) hZ hown
  exact (k v U.heap K' q' p l e s U.vm m args below meth c U _ ⟨hx, hby, hml, hZ2, hown2, hnm, hret, hlk⟩ X2 (sn.later hS2 (Nat.le_refl _) C) (fr.app f1) (K.trans K' hws) O rfl).pre stp
theorem Rn.callSW {ix : Nat} {y : MethodName} {yb : ByteArray} {yl : Nat} {yr : Option FieldType} {rm : Room} {as : Array Value} {os' ws' : List Addr} {Q' : Option Value → Heap → Prop} {argsL : List Value} {st : List Value} (hE : EW Z a0 EL)
    (C : CtW Z EL y yb yl yr rm as h os' ws' Q') (w1 : (Jvm.Cond.methodLink own ix y).before a0 Z = true) (w2 : (Jvm.Cond.static y).before a0 Z = true) (w3 : (Jvm.Cond.initialized y.cls).before a0 Z = true) (w4 : (Jvm.Cond.code y yb yl yr).before a0 Z = true) (hy : y.cls ≠ "java/lang/invoke/MethodHandle" ∧ y.cls ≠ "java/lang/invoke/VarHandle")
    (hst : st = argsL.reverse ++ rest) (has : argsL.toArray = as) (hlen : ∀ sig, parseMethodDescriptor y.desc = some sig → argsL.length = sig.parameters.length) (hsz : Ls.size = ml) (hd : decode bytes pc = .ok (.invokestatic ix, 3)) (hp : pc + 3 = pc')
    (hf : rm.frames + 1 ≤ R.frames) (hl : (rest.map fun v => v.category).sum + (yl + 11) + rm.locals ≤ R.locals) (hc : cells + rm.cells ≤ R.cells) (hs : slots + rm.slots ≤ R.slots) (hws : ∀ x ∈ ws', x ∈ ws ∨ hS.size ≤ x) (hos : ∀ x ∈ os', x ∈ os)
    (k : ∀ v h', Keep h h' ws' → Q' v h' → Rn true Z EL own nm bytes ml ret R hS ws Q os (cells + rm.cells) (slots + rm.slots) h' pc' Ls (v.toList ++ rest)) : Rn true Z EL own nm bytes ml ret R hS ws Q os cells slots h pc Ls st := by
  refine Rn.calledW hws hos k fun p l e s vm0 m args below meth c T locs hx hby hml X hZ hown eT hO hge H hsf => ?_
  have hZ' : Z.Warmed39 (s.setVm vm0).vm := hZ
  obtain ⟨v, vm1, B, -, X', hS1, hg, ⟨L, q⟩, stp⟩ := callSS X hx (y := y) hown (mvT hZ' w1) (mvT hZ' w2) (mvT hZ' w3) (mvT hZ' w4) hy (backW (W := (rest.map fun v => v.category).sum) C hO hge hZ w4 w3 hf hl hE H hsf) (g := mkF m pc Ls st) rfl (hsz.trans hml.symm) (argsL := argsL) (rest := rest) hlen hst (by show 2 * 0 + _ ≤ _; omega) (hb hby hd) (fun _ _ => ⟨has, eT, hc, hs⟩)
  subst hp
  exact ⟨v, B, X', hS1, hg, ⟨L, q⟩, fun t r => stp.trans r⟩
theorem Rn.callIW {ix : Nat} {y : MethodName} {yb : ByteArray} {yl : Nat} {rm : Room} {as : Array Value} {os' ws' : List Addr} {Q' : Option Value → Heap → Prop} {a : Addr} {argsL : List Value} {st : List Value} (hE : EW Z a0 EL)
    (C : CtW Z EL y yb yl none rm as h os' ws' Q') (hy1 : y.name = "<init>") (w1 : (Jvm.Cond.methodLink own ix y).before a0 Z = true) (w2 : (Jvm.Cond.instanceMethod y).before a0 Z = true) (w3 : (Jvm.Cond.initialized y.cls).before a0 Z = true) (w4 : (Jvm.Cond.code y yb yl none).before a0 Z = true) (hy : y.cls ≠ "java/lang/invoke/MethodHandle" ∧ y.cls ≠ "java/lang/invoke/VarHandle")
    (hst : st = argsL.reverse ++ .ref a :: rest) (has : (.ref a :: argsL).toArray = as) (hlen : ∀ sig, parseMethodDescriptor y.desc = some sig → argsL.length = sig.parameters.length) (hsz : Ls.size = ml) (hd : decode bytes pc = .ok (.invokespecial ix, 3)) (hp : pc + 3 = pc')
    (hf : rm.frames + 1 ≤ R.frames) (hl : (rest.map fun v => v.category).sum + (yl + 11) + rm.locals ≤ R.locals) (hc : cells + rm.cells ≤ R.cells) (hs : slots + rm.slots ≤ R.slots) (hws : ∀ x ∈ ws', x ∈ ws ∨ hS.size ≤ x) (hos : ∀ x ∈ os', x ∈ os)
    (k : ∀ v h', Keep h h' ws' → Q' v h' → Rn true Z EL own nm bytes ml ret R hS ws Q os (cells + rm.cells) (slots + rm.slots) h' pc' Ls (v.toList ++ rest)) : Rn true Z EL own nm bytes ml ret R hS ws Q os cells slots h pc Ls st := by
  refine Rn.calledW hws hos k fun p l e s vm0 m args below meth c T locs hx hby hml X hZ hown eT hO hge H hsf => ?_
  have hZ' : Z.Warmed39 (s.setVm vm0).vm := hZ
  obtain ⟨v, vm1, B, -, X', hS1, hg, ⟨L, q⟩, stp⟩ := X.specialBackS hx (y := y) hy1 hown (mvT hZ' w1) (mvT hZ' w2) (mvT hZ' w4) hy (backW (W := (rest.map fun v => v.category).sum) C hO hge hZ w4 w3 hf hl hE H hsf) (g := mkF m pc Ls st) rfl (hsz.trans hml.symm) (Steps.refl _) (a := a) (argsL := argsL) (rest := rest) hlen hst (by show 2 * 0 + _ ≤ _; omega) (hb hby hd) (fun _ _ => ⟨has, eT, hc, hs⟩)
  subst hp
  exact ⟨v, B, X', hS1, hg, ⟨L, q⟩, fun t r => stp.trans r⟩
theorem Rn.callVW {ix : Nat} {C0 : String} {y z : MethodName} {yb : ByteArray} {yl : Nat} {yr : Option FieldType} {rm : Room} {as : Array Value} {os' ws' : List Addr} {Q' : Option Value → Heap → Prop} {a : Addr} {argsL : List Value} {st : List Value} (hE : EW Z a0 EL)
    (C : CtW Z EL z yb yl yr rm as h os' ws' Q') (E : Exa Z h a C0) (w1 : (Jvm.Cond.methodLink own ix y).before a0 Z = true) (w2 : (Jvm.Cond.declares y).before a0 Z = true) (nf : ∀ s : State, Z.Warmed39 s.vm → NotFace s y) (w5 : (Jvm.Cond.selects C0 y z).before a0 Z = true) (w6 : (Jvm.Cond.instanceMethod z).before a0 Z = true) (w3 : (Jvm.Cond.initialized z.cls).before a0 Z = true) (w4 : (Jvm.Cond.code z yb yl yr).before a0 Z = true) (hy : y.cls ≠ "java/lang/invoke/MethodHandle" ∧ y.cls ≠ "java/lang/invoke/VarHandle")
    (hst : st = argsL.reverse ++ .ref a :: rest) (has : (.ref a :: argsL).toArray = as) (hlen : ∀ sig, parseMethodDescriptor y.desc = some sig → argsL.length = sig.parameters.length) (hsz : Ls.size = ml) (hd : decode bytes pc = .ok (.invokevirtual ix, 3)) (hp : pc + 3 = pc')
    (hf : rm.frames + 1 ≤ R.frames) (hl : (rest.map fun v => v.category).sum + (yl + 11) + rm.locals ≤ R.locals) (hc : cells + rm.cells ≤ R.cells) (hs : slots + rm.slots ≤ R.slots) (hws : ∀ x ∈ ws', x ∈ ws ∨ hS.size ≤ x) (hos : ∀ x ∈ os', x ∈ os)
    (k : ∀ v h', Keep h h' ws' → Q' v h' → Rn true Z EL own nm bytes ml ret R hS ws Q os (cells + rm.cells) (slots + rm.slots) h' pc' Ls (v.toList ++ rest)) : Rn true Z EL own nm bytes ml ret R hS ws Q os cells slots h pc Ls st := by
  refine Rn.calledW hws hos k fun p l e s vm0 m args below meth c T locs hx hby hml X hZ hown eT hO hge H hsf => ?_
  have hZ' : Z.Warmed39 (s.setVm vm0).vm := hZ
  obtain ⟨cq, kq, qa, qb, qc⟩ := isOf hZ' eT E
  obtain ⟨v, vm1, B, -, X', hS1, hg, ⟨L, q⟩, stp⟩ := X.virtualBackS hx (y := y) (z := z) hown (mvT hZ' w1) (mvT hZ' w2) (nf _ hZ') (mvT hZ' w5) (mvT hZ' w6) hy (backW (W := (rest.map fun v => v.category).sum) C hO hge hZ w4 w3 hf hl hE H hsf) qa qc (g := mkF m pc Ls st) rfl (hsz.trans hml.symm) (Steps.refl _) (argsL := argsL) (rest := rest) hlen hst (by show 2 * 0 + _ ≤ _; omega) (hb hby hd) (fun _ _ => ⟨has, eT, hc, hs⟩)
  subst hp
  exact ⟨v, B, X', hS1, hg, ⟨L, q⟩, fun t r => stp.trans r⟩
end Wide
section Strs
variable {Z : State} {h h' : Heap} {x t : Addr} {bs : List Value}
/-- a String of Latin-1 bytes -/
def Sg (Z : State) (h : Heap) (x t : Addr) (bs : List Value) : Prop := Exa Z h x "java/lang/String" ∧ Fld Z h x "java/lang/String" "coder" "B" (.int (0 : Int32)) ∧ Fld Z h x "java/lang/String" "value" "[B" (.ref t) ∧ Ax Z h t .byte bs
theorem Sg.lt (F : Sg Z h x t bs) : x < h.size := F.1.lt
theorem Sg.ltt (F : Sg Z h x t bs) : t < h.size := F.2.2.2.lt
theorem Sg.ext (F : Sg Z h x t bs) (E : Ext h h') : Sg Z h' x t bs := ⟨F.1.ext E, F.2.1.ext E, F.2.2.1.ext E, F.2.2.2.ext E⟩
theorem Sg.keep {ws : List Addr} (F : Sg Z h x t bs) (K : Keep h h' ws) (q : x ∉ ws) (r : t ∉ ws) : Sg Z h' x t bs := ⟨F.1.keep K, F.2.1.keep K q, F.2.2.1.keep K q, F.2.2.2.keep K r⟩
/-- the low byte, signed -/
def b8 (c : Int32) : Int32 := c.toInt8.toInt32
theorem nar_b8 (c : Int32) : nar .byte (b8 c) = b8 c := by
  show (c.toInt8.toInt32).toInt8.toInt32 = c.toInt8.toInt32
  rw [Int8.toInt8_toInt32]
theorem b8_fits (c : Int32) : fits .byte (.int (b8 c)) = true := fits_nar_byte c
end Strs
theorem own_if_t {p : Prop} [Decidable p] (h : p) : (some (Value.int (nar .boolean 1)) : Option Value) = some (.int (if p then 1 else 0)) := by rw [if_pos h]; rfl
theorem own_if_f {p : Prop} [Decidable p] (h : ¬ p) : (some (Value.int (nar .boolean 0)) : Option Value) = some (.int (if p then 1 else 0)) := by rw [if_neg h]; rfl
theorem pd_0 : parseMethodDescriptor "(I)I" = some ⟨[.int], some .int⟩ := by decide +kernel
theorem pd_1 : parseMethodDescriptor "(I)[B" = some ⟨[.int], some (.array .byte)⟩ := by decide +kernel
theorem pd_2 : parseMethodDescriptor "([BII)V" = some ⟨[(.array .byte), .int, .int], none⟩ := by decide +kernel
theorem pd_3 : parseMethodDescriptor "([CI[BII)I" = some ⟨[(.array .char), .int, (.array .byte), .int, .int], some .int⟩ := by decide +kernel
theorem pd_4 : parseMethodDescriptor "([CII)[B" = some ⟨[(.array .char), .int, .int], some (.array .byte)⟩ := by decide +kernel
theorem pd_5 : parseMethodDescriptor "([BI)C" = some ⟨[(.array .byte), .int], some .char⟩ := by decide +kernel
theorem pd_6 : parseMethodDescriptor "([BI)B" = some ⟨[(.array .byte), .int], some .byte⟩ := by decide +kernel
theorem pd_7 : parseMethodDescriptor "([CIILjava/lang/Void;)V" = some ⟨[(.array .char), .int, .int, (.object "java/lang/Void")], none⟩ := by decide +kernel
theorem pd_8 : parseMethodDescriptor "(I)Z" = some ⟨[.int], some .boolean⟩ := by decide +kernel
theorem pd_9 : parseMethodDescriptor "(II)I" = some ⟨[.int, .int], some .int⟩ := by decide +kernel
theorem pd_10 : parseMethodDescriptor "()B" = some ⟨[], some .byte⟩ := by decide +kernel
theorem pd_11 : parseMethodDescriptor "()Z" = some ⟨[], some .boolean⟩ := by decide +kernel
theorem pd_12 : parseMethodDescriptor "()I" = some ⟨[], some .int⟩ := by decide +kernel
theorem pd_13 : parseMethodDescriptor "([BIII)I" = some ⟨[(.array .byte), .int, .int, .int], some .int⟩ := by decide +kernel
theorem pd_14 : parseMethodDescriptor "(IIILjava/util/function/BiFunction;)I" = some ⟨[.int, .int, .int, (.object "java/util/function/BiFunction")], some .int⟩ := by decide +kernel
theorem pd_15 : parseMethodDescriptor "([B)I" = some ⟨[(.array .byte)], some .int⟩ := by decide +kernel
theorem pd_16 : parseMethodDescriptor "(III)V" = some ⟨[.int, .int, .int], none⟩ := by decide +kernel
theorem pd_17 : parseMethodDescriptor "(II[B)V" = some ⟨[.int, .int, (.array .byte)], none⟩ := by decide +kernel
theorem pd_18 : parseMethodDescriptor "(I)C" = some ⟨[.int], some .char⟩ := by decide +kernel
theorem pd_19 : parseMethodDescriptor "([C)V" = some ⟨[(.array .char)], none⟩ := by decide +kernel
theorem pd_20 : parseMethodDescriptor "(Ljava/lang/String;)Z" = some ⟨[(.object "java/lang/String")], some .boolean⟩ := by decide +kernel
theorem pd_21 : parseMethodDescriptor "(C)Z" = some ⟨[.char], some .boolean⟩ := by decide +kernel
theorem pn_0 : plainFor ⟨"java/lang/Math", "max", "(II)I"⟩ = true := by decide +kernel
theorem pn_1 : plainFor ⟨"java/lang/Math", "min", "(II)I"⟩ = true := by decide +kernel
theorem pn_2 : plainName "com/example/fleet_quant/fleetquant/io/TableCellsCanHoldPinLaw" = true := by first | (simp [plainName, overriddenIn]; done) | decide +kernel
theorem pn_3 : plainName "java/lang/StringUTF16" = true := by first | (simp [plainName, overriddenIn]; done) | decide +kernel
theorem pn_4 : plainName "java/lang/String" = true := by first | (simp [plainName, overriddenIn]; done) | decide +kernel
theorem pn_5 : plainName "java/lang/StringLatin1" = true := by first | (simp [plainName, overriddenIn]; done) | decide +kernel
theorem pn_6 : plainName "com/example/fleet_quant/fleetquant/io/TableCells" = true := by first | (simp [plainName, overriddenIn]; done) | decide +kernel
theorem pn_7 : plainName "jdk/internal/util/Preconditions" = true := by first | (simp [plainName, overriddenIn]; done) | decide +kernel
/-- a char below 256 -/
def own_B (y : Int32) : Prop := (¬ 255 < y ∧ ¬ y < 0) ∧ nar .char y = y
theorem own_b (x : Int32) : own_B (x &&& (255 : Int32)) := by
  have h := c_and x 255 (by decide)
  have e : (255 : Int32).toInt = 255 := rfl
  rw [e] at h
  refine ⟨⟨?_, ?_⟩, i2c_mask x⟩ <;> rw [Int32.lt_iff_toInt_lt]
  · rw [e]; omega
  · have e0 : (0 : Int32).toInt = 0 := rfl
    rw [e0]; omega
theorem own_b8 {x y : Int32} (hx : own_B x) (hy : own_B y) (h : b8 x = b8 y) : x = y := by
  have h1 := c_i2b x
  have h2 := c_i2b y
  have e : b8 x = x.toInt8.toInt32 := rfl
  have e' : b8 y = y.toInt8.toInt32 := rfl
  rw [e, e'] at h
  rw [h] at h1
  obtain ⟨⟨a1, a2⟩, -⟩ := hx
  obtain ⟨⟨b1, b2⟩, -⟩ := hy
  rw [Int32.lt_iff_toInt_lt] at a1 a2 b1 b2
  have e5 : (255 : Int32).toInt = 255 := rfl
  have e0 : (0 : Int32).toInt = 0 := rfl
  exact Int32.toInt_inj.mp (by omega)
theorem own_bv255 (i : Nat) : (255#32).getLsbD i = decide (i < 8) := by
  by_cases h : i < 32
  · revert i; decide
  · rw [BitVec.getLsbD_of_ge _ _ (by omega)]; simp; omega
theorem own_bvl (c : BitVec 32) (hc : ∀ i, 16 ≤ i → c.getLsbD i = false) : (((((c.signExtend 8).signExtend 32 &&& 255#32) ||| ((((c.sshiftRight 8).signExtend 8).signExtend 32 &&& 255#32) <<< 8)).setWidth 16).setWidth 32) = c := by
  apply BitVec.eq_of_getLsbD_eq
  intro i hi
  simp only [BitVec.getLsbD_setWidth, BitVec.getLsbD_or, BitVec.getLsbD_and, BitVec.getLsbD_signExtend, BitVec.getLsbD_shiftLeft, own_bv255, BitVec.getLsbD_sshiftRight]
  by_cases h16 : i < 16
  · by_cases h8 : i < 8
    · simp [hi, h16, h8]
    · have h3 : i - 8 < 8 := by omega
      have h4 : 8 + (i - 8) = i := by omega
      have h5 : i - 8 < 32 := by omega
      simp [hi, h16, h8, h3, h4, h5]
  · rw [hc i (by omega)]; simp [h16]
theorem own_shr0 (c : Int32) : c >>> ((0 : Int32) &&& 31) = c := by
  apply Int32.toBitVec_inj.mp
  simp
def own_C (c : Int32) : Prop := (¬ c < 0 ∧ ¬ 65535 < c) ∧ nar .char c = c
def own_hi (c : Int32) : Int32 := c >>> ((8 : Int32) &&& 31)
theorem own_gc {c : Int32} (h : own_C c) : (((b8 c &&& (255 : Int32)) <<< ((0 : Int32) &&& 31)) ||| ((b8 (own_hi c) &&& (255 : Int32)) <<< ((8 : Int32) &&& 31))).toUInt32.toUInt16.toUInt32.toInt32 = c := by
  have hc := h.2
  have hb : ∀ i, 16 ≤ i → c.toBitVec.getLsbD i = false := by
    intro i hi
    have e : c.toBitVec = (c.toBitVec.setWidth 16).setWidth 32 := congrArg Int32.toBitVec hc.symm
    rw [e, BitVec.getLsbD_setWidth, BitVec.getLsbD_setWidth]
    simp; omega
  have q := own_bvl c.toBitVec hb
  apply Int32.toBitVec_inj.mp
  refine Eq.trans ?_ q
  show BitVec.setWidth 32 (BitVec.setWidth 16 ((((b8 c).toBitVec &&& 255#32) <<< (((0 : Int32) &&& 31).toBitVec.smod 32)) ||| (((b8 (own_hi c)).toBitVec &&& 255#32) <<< (((8 : Int32) &&& 31).toBitVec.smod 32)))) = _
  have e0 : (((0 : Int32) &&& 31).toBitVec.smod 32) = 0#32 := by decide
  have e8 : (((8 : Int32) &&& 31).toBitVec.smod 32) = 8#32 := by decide
  rw [e0, e8]
  have e1 : (b8 c).toBitVec = (c.toBitVec.signExtend 8).signExtend 32 := rfl
  have e2 : (b8 (own_hi c)).toBitVec = ((c.toBitVec.sshiftRight 8).signExtend 8).signExtend 32 := by
    show ((c.toBitVec.sshiftRight' (((8 : Int32) &&& 31).toBitVec.smod 32)).signExtend 8).signExtend 32 = _
    rw [e8]; rfl
  rw [e1, e2]
  simp
theorem own_nC (y : Int32) : own_C (y.toUInt32.toUInt16.toUInt32.toInt32) := by
  have h := c_i2c y
  have r := rng32 (y.toUInt32.toUInt16.toUInt32.toInt32)
  refine ⟨⟨?_, ?_⟩, ?_⟩
  · rw [Int32.lt_iff_toInt_lt]
    have e0 : (0 : Int32).toInt = 0 := rfl
    rw [e0]; omega
  · rw [Int32.lt_iff_toInt_lt]
    have e0 : (65535 : Int32).toInt = 65535 := rfl
    rw [e0]; omega
  · show (y.toUInt32.toUInt16.toUInt32.toInt32).toUInt32.toUInt16.toUInt32.toInt32 = _
    apply Int32.toBitVec_inj.mp
    show BitVec.setWidth 32 (BitVec.setWidth 16 (BitVec.setWidth 32 (BitVec.setWidth 16 y.toBitVec))) = BitVec.setWidth 32 (BitVec.setWidth 16 y.toBitVec)
    exact congrArg (BitVec.setWidth 32) (by ext i hi; simp; try omega)
/-- a String of chars of which one is above 255 -/
def Su (Z : State) (h : Heap) (x t : Addr) (bs : List Value) : Prop := Exa Z h x "java/lang/String" ∧ Fld Z h x "java/lang/String" "coder" "B" (.int (1 : Int32)) ∧ Fld Z h x "java/lang/String" "value" "[B" (.ref t) ∧ Ax Z h t .byte bs
theorem own_wS {Z : State} {a0 : Array Value} (hw : ∀ d ∈ tables_1, d.before a0 Z = true) : ∀ a ∈ Bundle.stringAtoms, a.before a0 Z = true := by
  intro a ha
  simp only [Bundle.stringAtoms, List.mem_cons, List.not_mem_nil, or_false] at ha
  rcases ha with rfl | rfl | rfl | rfl | rfl | rfl | rfl
  · exact (hw _ (List.mem_of_getElem? (i := 7) rfl))
  · exact (hw _ (List.mem_of_getElem? (i := 6) rfl))
  · exact (hw _ (List.mem_of_getElem? (i := 20) rfl))
  · exact (hw _ (List.mem_of_getElem? (i := 21) rfl))
  · exact (hw _ (List.mem_of_getElem? (i := 22) rfl))
  · exact (hw _ (List.mem_of_getElem? (i := 23) rfl))
  · exact (hw _ (List.mem_of_getElem? (i := 24) rfl))
theorem d12_0 : decode jdk_29_method_65_code 0 = .ok (.iload_n 0, 1) := by decide +kernel
theorem d12_1 : decode jdk_29_method_65_code 1 = .ok (.iload_n 1, 1) := by decide +kernel
theorem d12_2 : decode jdk_29_method_65_code 2 = .ok (.if_icmp .lt 7, 3) := by decide +kernel
theorem d12_5 : decode jdk_29_method_65_code 5 = .ok (.iload_n 0, 1) := by decide +kernel
theorem d12_6 : decode jdk_29_method_65_code 6 = .ok (.goto 4, 3) := by decide +kernel
theorem d12_9 : decode jdk_29_method_65_code 9 = .ok (.iload_n 1, 1) := by decide +kernel
theorem d12_10 : decode jdk_29_method_65_code 10 = .ok (.ireturn, 1) := by decide +kernel
set_option maxRecDepth 65536 in
set_option maxHeartbeats 40000000 in
theorem ct_mx00 (Z : State) (a0 : Array Value) (hw : ∀ d ∈ tables_1, d.before a0 Z = true) (h0 : Heap) :
    Ct Z ⟨"java/lang/Math", "max", "(II)I"⟩ jdk_29_method_65_code 2 (Option.some FieldType.int) ({ frames := 0, cells := 0, slots := 0, locals := 0 } : Room) #[(.int (0 : Int32)), (.int (0 : Int32))] h0 [] (fun v h => v = some (.int (0 : Int32)) ∧ h0 = h) := by
  refine Ct.intro (Ls := #[.val (.int (0 : Int32)), .val (.int (0 : Int32))]) pn_0 (by intro m; first | (simp [entryFrame, mkF, argsToLocals, Value.category]; done) | rfl) ?_
  refine Rn.iloadN (pc' := 1) d12_0 rfl rfl ?_
  refine Rn.iloadN (pc' := 2) d12_1 rfl rfl ?_
  refine Rn.icmp_lt (pc' := 9) (pn := 5) d12_2 (by decide) (by decide) rfl (fun cq1 => absurd cq1 (by decide)) (fun cq1 => ?_)
  refine Rn.iloadN (pc' := 6) d12_5 rfl rfl ?_
  refine Rn.goto (pc' := 10) d12_6 (by decide) (by decide) ?_
  refine Rn.retI rfl d12_10 (Nat.le_of_ble_eq_true rfl) (Nat.le_of_ble_eq_true rfl) ?_
  exact ⟨rfl, rfl⟩
theorem d13_0 : decode jdk_29_method_69_code 0 = .ok (.iload_n 0, 1) := by decide +kernel
theorem d13_1 : decode jdk_29_method_69_code 1 = .ok (.iload_n 1, 1) := by decide +kernel
theorem d13_2 : decode jdk_29_method_69_code 2 = .ok (.if_icmp .gt 7, 3) := by decide +kernel
theorem d13_5 : decode jdk_29_method_69_code 5 = .ok (.iload_n 0, 1) := by decide +kernel
theorem d13_6 : decode jdk_29_method_69_code 6 = .ok (.goto 4, 3) := by decide +kernel
theorem d13_9 : decode jdk_29_method_69_code 9 = .ok (.iload_n 1, 1) := by decide +kernel
theorem d13_10 : decode jdk_29_method_69_code 10 = .ok (.ireturn, 1) := by decide +kernel
set_option maxRecDepth 65536 in
set_option maxHeartbeats 40000000 in
theorem ct_mn0 (Z : State) (a0 : Array Value) (hw : ∀ d ∈ tables_1, d.before a0 Z = true) (h0 : Heap) :
    Ct Z ⟨"java/lang/Math", "min", "(II)I"⟩ jdk_29_method_69_code 2 (Option.some FieldType.int) ({ frames := 0, cells := 0, slots := 0, locals := 0 } : Room) #[(.int (0 : Int32)), (.int (0 : Int32))] h0 [] (fun v h => v = some (.int (0 : Int32)) ∧ h0 = h) := by
  refine Ct.intro (Ls := #[.val (.int (0 : Int32)), .val (.int (0 : Int32))]) pn_1 (by intro m; first | (simp [entryFrame, mkF, argsToLocals, Value.category]; done) | rfl) ?_
  refine Rn.iloadN (pc' := 1) d13_0 rfl rfl ?_
  refine Rn.iloadN (pc' := 2) d13_1 rfl rfl ?_
  refine Rn.icmp_gt (pc' := 9) (pn := 5) d13_2 (by decide) (by decide) rfl (fun cq1 => absurd cq1 (by decide)) (fun cq1 => ?_)
  refine Rn.iloadN (pc' := 6) d13_5 rfl rfl ?_
  refine Rn.goto (pc' := 10) d13_6 (by decide) (by decide) ?_
  refine Rn.retI rfl d13_10 (Nat.le_of_ble_eq_true rfl) (Nat.le_of_ble_eq_true rfl) ?_
  exact ⟨rfl, rfl⟩
set_option maxRecDepth 65536 in
set_option maxHeartbeats 40000000 in
theorem ct_mn1 (Z : State) (a0 : Array Value) (hw : ∀ d ∈ tables_1, d.before a0 Z = true) (h0 : Heap) :
    Ct Z ⟨"java/lang/Math", "min", "(II)I"⟩ jdk_29_method_69_code 2 (Option.some FieldType.int) ({ frames := 0, cells := 0, slots := 0, locals := 0 } : Room) #[(.int (1 : Int32)), (.int (1 : Int32))] h0 [] (fun v h => v = some (.int (1 : Int32)) ∧ h0 = h) := by
  refine Ct.intro (Ls := #[.val (.int (1 : Int32)), .val (.int (1 : Int32))]) pn_1 (by intro m; first | (simp [entryFrame, mkF, argsToLocals, Value.category]; done) | rfl) ?_
  refine Rn.iloadN (pc' := 1) d13_0 rfl rfl ?_
  refine Rn.iloadN (pc' := 2) d13_1 rfl rfl ?_
  refine Rn.icmp_gt (pc' := 9) (pn := 5) d13_2 (by decide) (by decide) rfl (fun cq1 => absurd cq1 (by decide)) (fun cq1 => ?_)
  refine Rn.iloadN (pc' := 6) d13_5 rfl rfl ?_
  refine Rn.goto (pc' := 10) d13_6 (by decide) (by decide) ?_
  refine Rn.retI rfl d13_10 (Nat.le_of_ble_eq_true rfl) (Nat.le_of_ble_eq_true rfl) ?_
  exact ⟨rfl, rfl⟩
set_option maxRecDepth 65536 in
set_option maxHeartbeats 40000000 in
theorem ct_mn2 (Z : State) (a0 : Array Value) (hw : ∀ d ∈ tables_1, d.before a0 Z = true) (h0 : Heap) :
    Ct Z ⟨"java/lang/Math", "min", "(II)I"⟩ jdk_29_method_69_code 2 (Option.some FieldType.int) ({ frames := 0, cells := 0, slots := 0, locals := 0 } : Room) #[(.int (2 : Int32)), (.int (2 : Int32))] h0 [] (fun v h => v = some (.int (2 : Int32)) ∧ h0 = h) := by
  refine Ct.intro (Ls := #[.val (.int (2 : Int32)), .val (.int (2 : Int32))]) pn_1 (by intro m; first | (simp [entryFrame, mkF, argsToLocals, Value.category]; done) | rfl) ?_
  refine Rn.iloadN (pc' := 1) d13_0 rfl rfl ?_
  refine Rn.iloadN (pc' := 2) d13_1 rfl rfl ?_
  refine Rn.icmp_gt (pc' := 9) (pn := 5) d13_2 (by decide) (by decide) rfl (fun cq1 => absurd cq1 (by decide)) (fun cq1 => ?_)
  refine Rn.iloadN (pc' := 6) d13_5 rfl rfl ?_
  refine Rn.goto (pc' := 10) d13_6 (by decide) (by decide) ?_
  refine Rn.retI rfl d13_10 (Nat.le_of_ble_eq_true rfl) (Nat.le_of_ble_eq_true rfl) ?_
  exact ⟨rfl, rfl⟩
set_option maxRecDepth 65536 in
set_option maxHeartbeats 40000000 in
theorem ct_mn3 (Z : State) (a0 : Array Value) (hw : ∀ d ∈ tables_1, d.before a0 Z = true) (h0 : Heap) :
    Ct Z ⟨"java/lang/Math", "min", "(II)I"⟩ jdk_29_method_69_code 2 (Option.some FieldType.int) ({ frames := 0, cells := 0, slots := 0, locals := 0 } : Room) #[(.int (3 : Int32)), (.int (3 : Int32))] h0 [] (fun v h => v = some (.int (3 : Int32)) ∧ h0 = h) := by
  refine Ct.intro (Ls := #[.val (.int (3 : Int32)), .val (.int (3 : Int32))]) pn_1 (by intro m; first | (simp [entryFrame, mkF, argsToLocals, Value.category]; done) | rfl) ?_
  refine Rn.iloadN (pc' := 1) d13_0 rfl rfl ?_
  refine Rn.iloadN (pc' := 2) d13_1 rfl rfl ?_
  refine Rn.icmp_gt (pc' := 9) (pn := 5) d13_2 (by decide) (by decide) rfl (fun cq1 => absurd cq1 (by decide)) (fun cq1 => ?_)
  refine Rn.iloadN (pc' := 6) d13_5 rfl rfl ?_
  refine Rn.goto (pc' := 10) d13_6 (by decide) (by decide) ?_
  refine Rn.retI rfl d13_10 (Nat.le_of_ble_eq_true rfl) (Nat.le_of_ble_eq_true rfl) ?_
  exact ⟨rfl, rfl⟩
theorem d0_0 : decode method_2_code 0 = .ok (.iload_n 0, 1) := by decide +kernel
theorem d0_1 : decode method_2_code 1 = .ok (.iconst 3, 1) := by decide +kernel
theorem d0_2 : decode method_2_code 2 = .ok (.iand, 1) := by decide +kernel
theorem d0_3 : decode method_2_code 3 = .ok (.istore_n 1, 1) := by decide +kernel
theorem d0_4 : decode method_2_code 4 = .ok (.iload_n 1, 1) := by decide +kernel
theorem d0_5 : decode method_2_code 5 = .ok (.ifCond .ne 9, 3) := by decide +kernel
theorem d0_8 : decode method_2_code 8 = .ok (.bipush 9, 2) := by decide +kernel
theorem d0_10 : decode method_2_code 10 = .ok (.istore_n 2, 1) := by decide +kernel
theorem d0_11 : decode method_2_code 11 = .ok (.goto 33, 3) := by decide +kernel
theorem d0_14 : decode method_2_code 14 = .ok (.iload_n 1, 1) := by decide +kernel
theorem d0_15 : decode method_2_code 15 = .ok (.iconst 1, 1) := by decide +kernel
theorem d0_16 : decode method_2_code 16 = .ok (.if_icmp .ne 9, 3) := by decide +kernel
theorem d0_19 : decode method_2_code 19 = .ok (.bipush 10, 2) := by decide +kernel
theorem d0_21 : decode method_2_code 21 = .ok (.istore_n 2, 1) := by decide +kernel
theorem d0_22 : decode method_2_code 22 = .ok (.goto 22, 3) := by decide +kernel
theorem d0_25 : decode method_2_code 25 = .ok (.iload_n 1, 1) := by decide +kernel
theorem d0_26 : decode method_2_code 26 = .ok (.iconst 2, 1) := by decide +kernel
theorem d0_27 : decode method_2_code 27 = .ok (.if_icmp .ne 9, 3) := by decide +kernel
theorem d0_30 : decode method_2_code 30 = .ok (.bipush 13, 2) := by decide +kernel
theorem d0_32 : decode method_2_code 32 = .ok (.istore_n 2, 1) := by decide +kernel
theorem d0_33 : decode method_2_code 33 = .ok (.goto 11, 3) := by decide +kernel
theorem d0_36 : decode method_2_code 36 = .ok (.iload_n 0, 1) := by decide +kernel
theorem d0_37 : decode method_2_code 37 = .ok (.iconst 2, 1) := by decide +kernel
theorem d0_38 : decode method_2_code 38 = .ok (.iushr, 1) := by decide +kernel
theorem d0_39 : decode method_2_code 39 = .ok (.ldc 7, 2) := by decide +kernel
theorem d0_41 : decode method_2_code 41 = .ok (.iand, 1) := by decide +kernel
theorem d0_42 : decode method_2_code 42 = .ok (.i2c, 1) := by decide +kernel
theorem d0_43 : decode method_2_code 43 = .ok (.istore_n 2, 1) := by decide +kernel
theorem d0_44 : decode method_2_code 44 = .ok (.iload_n 2, 1) := by decide +kernel
theorem d0_45 : decode method_2_code 45 = .ok (.ireturn, 1) := by decide +kernel
set_option maxRecDepth 65536 in
set_option maxHeartbeats 40000000 in
theorem ct_dr (Z : State) (a0 : Array Value) (hw : ∀ d ∈ tables_1, d.before a0 Z = true) (x : Int32) (h0 : Heap) :
    Ct Z ⟨"com/example/fleet_quant/fleetquant/io/TableCellsCanHoldPinLaw", "draw", "(I)C"⟩ method_2_code 3 (Option.some FieldType.char) ({ frames := 0, cells := 0, slots := 0, locals := 0 } : Room) #[(.int x)] h0 [] (fun v h => ∃ c, v = some (.int c) ∧ own_C c) := by
  refine Ct.intro (Ls := #[.val (.int x), .unset, .unset]) (plainFor_of_name pn_2) (by intro m; first | (simp [entryFrame, mkF, argsToLocals, Value.category]; done) | rfl) ?_
  refine Rn.iloadN (pc' := 1) d0_0 rfl rfl ?_
  refine Rn.iconst (pc' := 2) (v := (3 : Int32)) d0_1 rfl rfl ?_
  refine Rn.iand (pc' := 3) (v := (x &&& (3 : Int32))) d0_2 rfl rfl ?_
  refine Rn.istoreN (pc' := 4) (Ls' := #[.val (.int x), .val (.int (x &&& (3 : Int32))), .unset]) d0_3 rfl rfl ?_
  refine Rn.iloadN (pc' := 5) d0_4 rfl rfl ?_
  refine Rn.if_ne (pc' := 14) (pn := 8) d0_5 (by decide) (by decide) rfl (fun cq1 => ?_) (fun cq1 => ?_)
  ·
    refine Rn.iloadN (pc' := 15) d0_14 rfl rfl ?_
    refine Rn.iconst (pc' := 16) (v := (1 : Int32)) d0_15 rfl rfl ?_
    refine Rn.icmp_ne (pc' := 25) (pn := 19) d0_16 (by decide) (by decide) rfl (fun cq2 => ?_) (fun cq2 => ?_)
    ·
      refine Rn.iloadN (pc' := 26) d0_25 rfl rfl ?_
      refine Rn.iconst (pc' := 27) (v := (2 : Int32)) d0_26 rfl rfl ?_
      refine Rn.icmp_ne (pc' := 36) (pn := 30) d0_27 (by decide) (by decide) rfl (fun cq3 => ?_) (fun cq3 => ?_)
      ·
        refine Rn.iloadN (pc' := 37) d0_36 rfl rfl ?_
        refine Rn.iconst (pc' := 38) (v := (2 : Int32)) d0_37 rfl rfl ?_
        refine Rn.iushr (pc' := 39) (v := (XT.ushr x (2 : Int32))) d0_38 rfl rfl ?_
        refine Rn.ldcI (pc' := 41) (hw _ (List.mem_of_getElem? (i := 4) rfl)) d0_39 rfl ?_
        refine Rn.iand (pc' := 42) (v := ((XT.ushr x (2 : Int32)) &&& (65535 : Int32))) d0_41 rfl rfl ?_
        refine Rn.i2c (pc' := 43) (v := (((XT.ushr x (2 : Int32)) &&& (65535 : Int32)).toUInt32.toUInt16.toUInt32.toInt32)) d0_42 rfl rfl ?_
        refine Rn.istoreN (pc' := 44) (Ls' := #[.val (.int x), .val (.int (x &&& (3 : Int32))), .val (.int (((XT.ushr x (2 : Int32)) &&& (65535 : Int32)).toUInt32.toUInt16.toUInt32.toInt32))]) d0_43 rfl rfl ?_
        refine Rn.iloadN (pc' := 45) d0_44 rfl rfl ?_
        refine Rn.retN (t := .char) rfl (by simp) d0_45 (Nat.le_of_ble_eq_true rfl) (Nat.le_of_ble_eq_true rfl) ?_
        exact ⟨_, congrArg (fun q => some (Value.int q)) (own_nC _).2, own_nC _⟩
      ·
        refine Rn.bipush (pc' := 32) (v := (13 : Int32)) d0_30 rfl rfl ?_
        refine Rn.istoreN (pc' := 33) (Ls' := #[.val (.int x), .val (.int (x &&& (3 : Int32))), .val (.int (13 : Int32))]) d0_32 rfl rfl ?_
        refine Rn.goto (pc' := 44) d0_33 (by decide) (by decide) ?_
        refine Rn.iloadN (pc' := 45) d0_44 rfl rfl ?_
        refine Rn.retN (t := .char) rfl (by simp) d0_45 (Nat.le_of_ble_eq_true rfl) (Nat.le_of_ble_eq_true rfl) ?_
        exact ⟨(13 : Int32), rfl, ⟨⟨by decide, by decide⟩, rfl⟩⟩
    ·
      refine Rn.bipush (pc' := 21) (v := (10 : Int32)) d0_19 rfl rfl ?_
      refine Rn.istoreN (pc' := 22) (Ls' := #[.val (.int x), .val (.int (x &&& (3 : Int32))), .val (.int (10 : Int32))]) d0_21 rfl rfl ?_
      refine Rn.goto (pc' := 44) d0_22 (by decide) (by decide) ?_
      refine Rn.iloadN (pc' := 45) d0_44 rfl rfl ?_
      refine Rn.retN (t := .char) rfl (by simp) d0_45 (Nat.le_of_ble_eq_true rfl) (Nat.le_of_ble_eq_true rfl) ?_
      exact ⟨(10 : Int32), rfl, ⟨⟨by decide, by decide⟩, rfl⟩⟩
  ·
    refine Rn.bipush (pc' := 10) (v := (9 : Int32)) d0_8 rfl rfl ?_
    refine Rn.istoreN (pc' := 11) (Ls' := #[.val (.int x), .val (.int (x &&& (3 : Int32))), .val (.int (9 : Int32))]) d0_10 rfl rfl ?_
    refine Rn.goto (pc' := 44) d0_11 (by decide) (by decide) ?_
    refine Rn.iloadN (pc' := 45) d0_44 rfl rfl ?_
    refine Rn.retN (t := .char) rfl (by simp) d0_45 (Nat.le_of_ble_eq_true rfl) (Nat.le_of_ble_eq_true rfl) ?_
    exact ⟨(9 : Int32), rfl, ⟨⟨by decide, by decide⟩, rfl⟩⟩
def own_ok (c : Int32) : Prop := ¬ c = 9 ∧ ¬ c = 10 ∧ ¬ c = 13
instance (c : Int32) : Decidable (own_ok c) := by unfold own_ok; exact inferInstance
theorem d17_0 : decode method_3_code 0 = .ok (.iload_n 0, 1) := by decide +kernel
theorem d17_1 : decode method_3_code 1 = .ok (.bipush 9, 2) := by decide +kernel
theorem d17_3 : decode method_3_code 3 = .ok (.if_icmp .eq 19, 3) := by decide +kernel
theorem d17_6 : decode method_3_code 6 = .ok (.iload_n 0, 1) := by decide +kernel
theorem d17_7 : decode method_3_code 7 = .ok (.bipush 10, 2) := by decide +kernel
theorem d17_9 : decode method_3_code 9 = .ok (.if_icmp .eq 13, 3) := by decide +kernel
theorem d17_12 : decode method_3_code 12 = .ok (.iload_n 0, 1) := by decide +kernel
theorem d17_13 : decode method_3_code 13 = .ok (.bipush 13, 2) := by decide +kernel
theorem d17_15 : decode method_3_code 15 = .ok (.if_icmp .eq 7, 3) := by decide +kernel
theorem d17_18 : decode method_3_code 18 = .ok (.iconst 1, 1) := by decide +kernel
theorem d17_19 : decode method_3_code 19 = .ok (.goto 4, 3) := by decide +kernel
theorem d17_22 : decode method_3_code 22 = .ok (.iconst 0, 1) := by decide +kernel
theorem d17_23 : decode method_3_code 23 = .ok (.ireturn, 1) := by decide +kernel
set_option maxRecDepth 65536 in
set_option maxHeartbeats 40000000 in
theorem ct_ok (Z : State) (a0 : Array Value) (hw : ∀ d ∈ tables_1, d.before a0 Z = true) (c : Int32) (h0 : Heap) :
    Ct Z ⟨"com/example/fleet_quant/fleetquant/io/TableCellsCanHoldPinLaw", "ok", "(C)Z"⟩ method_3_code 1 (Option.some FieldType.boolean) ({ frames := 0, cells := 0, slots := 0, locals := 0 } : Room) #[(.int c)] h0 [] (fun v h => v = some (.int (if own_ok c then 1 else 0)) ∧ h0 = h) := by
  refine Ct.intro (Ls := #[.val (.int c)]) (plainFor_of_name pn_2) (by intro m; first | (simp [entryFrame, mkF, argsToLocals, Value.category]; done) | rfl) ?_
  refine Rn.iloadN (pc' := 1) d17_0 rfl rfl ?_
  refine Rn.bipush (pc' := 3) (v := (9 : Int32)) d17_1 rfl rfl ?_
  refine Rn.icmp_eq (pc' := 22) (pn := 6) d17_3 (by decide) (by decide) rfl (fun cq1 => ?_) (fun cq1 => ?_)
  ·
    refine Rn.iconst (pc' := 23) (v := (0 : Int32)) d17_22 rfl rfl ?_
    refine Rn.retN (t := .boolean) rfl (by simp) d17_23 (Nat.le_of_ble_eq_true rfl) (Nat.le_of_ble_eq_true rfl) ?_
    exact ⟨own_if_f (fun q => q.1 cq1), rfl⟩
  ·
    refine Rn.iloadN (pc' := 7) d17_6 rfl rfl ?_
    refine Rn.bipush (pc' := 9) (v := (10 : Int32)) d17_7 rfl rfl ?_
    refine Rn.icmp_eq (pc' := 22) (pn := 12) d17_9 (by decide) (by decide) rfl (fun cq2 => ?_) (fun cq2 => ?_)
    ·
      refine Rn.iconst (pc' := 23) (v := (0 : Int32)) d17_22 rfl rfl ?_
      refine Rn.retN (t := .boolean) rfl (by simp) d17_23 (Nat.le_of_ble_eq_true rfl) (Nat.le_of_ble_eq_true rfl) ?_
      exact ⟨own_if_f (fun q => q.2.1 cq2), rfl⟩
    ·
      refine Rn.iloadN (pc' := 13) d17_12 rfl rfl ?_
      refine Rn.bipush (pc' := 15) (v := (13 : Int32)) d17_13 rfl rfl ?_
      refine Rn.icmp_eq (pc' := 22) (pn := 18) d17_15 (by decide) (by decide) rfl (fun cq3 => ?_) (fun cq3 => ?_)
      ·
        refine Rn.iconst (pc' := 23) (v := (0 : Int32)) d17_22 rfl rfl ?_
        refine Rn.retN (t := .boolean) rfl (by simp) d17_23 (Nat.le_of_ble_eq_true rfl) (Nat.le_of_ble_eq_true rfl) ?_
        exact ⟨own_if_f (fun q => q.2.2 cq3), rfl⟩
      ·
        refine Rn.iconst (pc' := 19) (v := (1 : Int32)) d17_18 rfl rfl ?_
        refine Rn.goto (pc' := 23) d17_19 (by decide) (by decide) ?_
        refine Rn.retN (t := .boolean) rfl (by simp) d17_23 (Nat.le_of_ble_eq_true rfl) (Nat.le_of_ble_eq_true rfl) ?_
        exact ⟨own_if_t ⟨cq1, cq2, cq3⟩, rfl⟩
theorem d21_0 : decode jdk_52_method_3_code 0 = .ok (.iload_n 0, 1) := by decide +kernel
theorem d21_1 : decode jdk_52_method_3_code 1 = .ok (.ifCond .ge 11, 3) := by decide +kernel
theorem d21_4 : decode jdk_52_method_3_code 4 = .ok (.new 17, 3) := by decide +kernel
theorem d21_7 : decode jdk_52_method_3_code 7 = .ok (.dup, 1) := by decide +kernel
theorem d21_8 : decode jdk_52_method_3_code 8 = .ok (.invokespecial 19, 3) := by decide +kernel
theorem d21_11 : decode jdk_52_method_3_code 11 = .ok (.athrow, 1) := by decide +kernel
theorem d21_12 : decode jdk_52_method_3_code 12 = .ok (.iload_n 0, 1) := by decide +kernel
theorem d21_13 : decode jdk_52_method_3_code 13 = .ok (.ldc 20, 2) := by decide +kernel
theorem d21_15 : decode jdk_52_method_3_code 15 = .ok (.if_icmp .lt 40, 3) := by decide +kernel
theorem d21_18 : decode jdk_52_method_3_code 18 = .ok (.new 21, 3) := by decide +kernel
theorem d21_21 : decode jdk_52_method_3_code 21 = .ok (.dup, 1) := by decide +kernel
theorem d21_22 : decode jdk_52_method_3_code 22 = .ok (.new 23, 3) := by decide +kernel
theorem d21_25 : decode jdk_52_method_3_code 25 = .ok (.dup, 1) := by decide +kernel
theorem d21_26 : decode jdk_52_method_3_code 26 = .ok (.invokespecial 25, 3) := by decide +kernel
theorem d21_29 : decode jdk_52_method_3_code 29 = .ok (.ldc 26, 2) := by decide +kernel
theorem d21_31 : decode jdk_52_method_3_code 31 = .ok (.invokevirtual 28, 3) := by decide +kernel
theorem d21_34 : decode jdk_52_method_3_code 34 = .ok (.iload_n 0, 1) := by decide +kernel
theorem d21_35 : decode jdk_52_method_3_code 35 = .ok (.invokevirtual 32, 3) := by decide +kernel
theorem d21_38 : decode jdk_52_method_3_code 38 = .ok (.ldc 35, 2) := by decide +kernel
theorem d21_40 : decode jdk_52_method_3_code 40 = .ok (.invokevirtual 28, 3) := by decide +kernel
theorem d21_43 : decode jdk_52_method_3_code 43 = .ok (.ldc 20, 2) := by decide +kernel
theorem d21_45 : decode jdk_52_method_3_code 45 = .ok (.invokevirtual 32, 3) := by decide +kernel
theorem d21_48 : decode jdk_52_method_3_code 48 = .ok (.invokevirtual 37, 3) := by decide +kernel
theorem d21_51 : decode jdk_52_method_3_code 51 = .ok (.invokespecial 41, 3) := by decide +kernel
theorem d21_54 : decode jdk_52_method_3_code 54 = .ok (.athrow, 1) := by decide +kernel
theorem d21_55 : decode jdk_52_method_3_code 55 = .ok (.iload_n 0, 1) := by decide +kernel
theorem d21_56 : decode jdk_52_method_3_code 56 = .ok (.iconst 1, 1) := by decide +kernel
theorem d21_57 : decode jdk_52_method_3_code 57 = .ok (.ishl, 1) := by decide +kernel
theorem d21_58 : decode jdk_52_method_3_code 58 = .ok (.ireturn, 1) := by decide +kernel
set_option maxRecDepth 65536 in
set_option maxHeartbeats 40000000 in
theorem ct_nbl1 (Z : State) (a0 : Array Value) (hw : ∀ d ∈ tables_1, d.before a0 Z = true) (h0 : Heap) :
    Ct Z ⟨"java/lang/StringUTF16", "newBytesLength", "(I)I"⟩ jdk_52_method_3_code 1 (Option.some FieldType.int) ({ frames := 0, cells := 0, slots := 0, locals := 0 } : Room) #[(.int (1 : Int32))] h0 [] (fun v h => v = some (.int (2 : Int32)) ∧ h0 = h) := by
  refine Ct.intro (Ls := #[.val (.int (1 : Int32))]) (plainFor_of_name pn_3) (by intro m; first | (simp [entryFrame, mkF, argsToLocals, Value.category]; done) | rfl) ?_
  refine Rn.iloadN (pc' := 1) d21_0 rfl rfl ?_
  refine Rn.if_ge (pc' := 12) (pn := 4) d21_1 (by decide) (by decide) rfl (fun cq1 => ?_) (fun cq1 => absurd cq1 (by decide))
  refine Rn.iloadN (pc' := 13) d21_12 rfl rfl ?_
  refine Rn.ldcI (pc' := 15) (hw _ (List.mem_of_getElem? (i := 96) rfl)) d21_13 rfl ?_
  refine Rn.icmp_lt (pc' := 55) (pn := 18) d21_15 (by decide) (by decide) rfl (fun cq2 => ?_) (fun cq2 => absurd cq2 (by decide))
  refine Rn.iloadN (pc' := 56) d21_55 rfl rfl ?_
  refine Rn.iconst (pc' := 57) (v := (1 : Int32)) d21_56 rfl rfl ?_
  refine Rn.ishl (pc' := 58) (v := (2 : Int32)) d21_57 rfl rfl ?_
  refine Rn.retI rfl d21_58 (Nat.le_of_ble_eq_true rfl) (Nat.le_of_ble_eq_true rfl) ?_
  exact ⟨rfl, rfl⟩
theorem d20_0 : decode jdk_52_method_2_code 0 = .ok (.iload_n 0, 1) := by decide +kernel
theorem d20_1 : decode jdk_52_method_2_code 1 = .ok (.invokestatic 11, 3) := by decide +kernel
theorem d20_4 : decode jdk_52_method_2_code 4 = .ok (.newarray .byte, 2) := by decide +kernel
theorem d20_6 : decode jdk_52_method_2_code 6 = .ok (.areturn, 1) := by decide +kernel
set_option maxRecDepth 65536 in
set_option maxHeartbeats 40000000 in
theorem ct_nbf1 (Z : State) (a0 : Array Value) (hw : ∀ d ∈ tables_1, d.before a0 Z = true) (h0 : Heap) :
    Ct Z ⟨"java/lang/StringUTF16", "newBytesFor", "(I)[B"⟩ jdk_52_method_2_code 1 (Option.some (FieldType.array FieldType.byte)) ({ frames := 1, cells := 1, slots := 2, locals := 12 } : Room) #[(.int (1 : Int32))] h0 [] (fun v h => ∃ t, v = some (.ref t) ∧ h0.size ≤ t ∧ Ax Z h t .byte [.int (0 : Int32), .int (0 : Int32)]) := by
  refine Ct.intro (Ls := #[.val (.int (1 : Int32))]) (plainFor_of_name pn_3) (by intro m; first | (simp [entryFrame, mkF, argsToLocals, Value.category]; done) | rfl) ?_
  refine Rn.iloadN (pc' := 1) d20_0 rfl rfl ?_
  refine Rn.callS (pc' := 4) (argsL := [.int (1 : Int32)]) (rest := []) (ct_nbl1 Z a0 hw h0) (hw _ (List.mem_of_getElem? (i := 93) rfl)) (hw _ (List.mem_of_getElem? (i := 94) rfl)) (hw _ (List.mem_of_getElem? (i := 73) rfl)) (hw _ (List.mem_of_getElem? (i := 95) rfl)) (by decide) rfl rfl (lenOf pd_0 rfl) rfl d20_1 rfl (Nat.le_of_ble_eq_true rfl) (Nat.le_of_ble_eq_true rfl) (Nat.le_of_ble_eq_true rfl) (Nat.le_of_ble_eq_true rfl) (fun _ z => nomatch z) (fun _ z => nomatch z) (fun vq1 hq2 Kq3 qq4 => ?_)
  obtain ⟨rfl, rfl⟩ := qq4
  simp only [Option.toList, List.cons_append, List.nil_append]
  refine Rn.newP (pc' := 6) (cap := 2) (ty := .byte) (ad := "[B") (hw _ (List.mem_of_getElem? (i := 20) rfl)) rfl rfl d20_4 (by decide) (Nat.le_of_ble_eq_true rfl) (by decide) (Nat.le_of_ble_eq_true rfl) (Nat.le_of_ble_eq_true rfl) rfl (fun hq6 aq5 eq7 gq8 Eq9 ⟨Aq10, Bq11⟩ => ?_)
  have Aq12 : Ax Z hq6 aq5 .byte ([.int (0 : Int32), .int (0 : Int32)]) := Aq10
  refine Rn.retA (t := (.array .byte)) rfl rfl rfl d20_6 (Nat.le_of_ble_eq_true rfl) (Nat.le_of_ble_eq_true rfl) ?_
  exact ⟨_, rfl, gq8, Aq12⟩
theorem d22_0 : decode jdk_52_method_4_code 0 = .ok (.getstatic 44, 3) := by decide +kernel
theorem d22_3 : decode jdk_52_method_4_code 3 = .ok (.ifCond .ne 25, 3) := by decide +kernel
theorem d22_6 : decode jdk_52_method_4_code 6 = .ok (.iload_n 1, 1) := by decide +kernel
theorem d22_7 : decode jdk_52_method_4_code 7 = .ok (.ifCond .lt 11, 3) := by decide +kernel
theorem d22_10 : decode jdk_52_method_4_code 10 = .ok (.iload_n 1, 1) := by decide +kernel
theorem d22_11 : decode jdk_52_method_4_code 11 = .ok (.aload_n 0, 1) := by decide +kernel
theorem d22_12 : decode jdk_52_method_4_code 12 = .ok (.invokestatic 48, 3) := by decide +kernel
theorem d22_15 : decode jdk_52_method_4_code 15 = .ok (.if_icmp .lt 13, 3) := by decide +kernel
theorem d22_18 : decode jdk_52_method_4_code 18 = .ok (.new 52, 3) := by decide +kernel
theorem d22_21 : decode jdk_52_method_4_code 21 = .ok (.dup, 1) := by decide +kernel
theorem d22_22 : decode jdk_52_method_4_code 22 = .ok (.ldc 54, 2) := by decide +kernel
theorem d22_24 : decode jdk_52_method_4_code 24 = .ok (.invokespecial 56, 3) := by decide +kernel
theorem d22_27 : decode jdk_52_method_4_code 27 = .ok (.athrow, 1) := by decide +kernel
theorem d22_28 : decode jdk_52_method_4_code 28 = .ok (.iload_n 1, 1) := by decide +kernel
theorem d22_29 : decode jdk_52_method_4_code 29 = .ok (.iconst 1, 1) := by decide +kernel
theorem d22_30 : decode jdk_52_method_4_code 30 = .ok (.ishl, 1) := by decide +kernel
theorem d22_31 : decode jdk_52_method_4_code 31 = .ok (.istore_n 1, 1) := by decide +kernel
theorem d22_32 : decode jdk_52_method_4_code 32 = .ok (.aload_n 0, 1) := by decide +kernel
theorem d22_33 : decode jdk_52_method_4_code 33 = .ok (.iload_n 1, 1) := by decide +kernel
theorem d22_34 : decode jdk_52_method_4_code 34 = .ok (.iinc 1 1, 3) := by decide +kernel
theorem d22_37 : decode jdk_52_method_4_code 37 = .ok (.iload_n 2, 1) := by decide +kernel
theorem d22_38 : decode jdk_52_method_4_code 38 = .ok (.getstatic 59, 3) := by decide +kernel
theorem d22_41 : decode jdk_52_method_4_code 41 = .ok (.ishr, 1) := by decide +kernel
theorem d22_42 : decode jdk_52_method_4_code 42 = .ok (.i2b, 1) := by decide +kernel
theorem d22_43 : decode jdk_52_method_4_code 43 = .ok (.bastore, 1) := by decide +kernel
theorem d22_44 : decode jdk_52_method_4_code 44 = .ok (.aload_n 0, 1) := by decide +kernel
theorem d22_45 : decode jdk_52_method_4_code 45 = .ok (.iload_n 1, 1) := by decide +kernel
theorem d22_46 : decode jdk_52_method_4_code 46 = .ok (.iload_n 2, 1) := by decide +kernel
theorem d22_47 : decode jdk_52_method_4_code 47 = .ok (.getstatic 63, 3) := by decide +kernel
theorem d22_50 : decode jdk_52_method_4_code 50 = .ok (.ishr, 1) := by decide +kernel
theorem d22_51 : decode jdk_52_method_4_code 51 = .ok (.i2b, 1) := by decide +kernel
theorem d22_52 : decode jdk_52_method_4_code 52 = .ok (.bastore, 1) := by decide +kernel
theorem d22_53 : decode jdk_52_method_4_code 53 = .ok (.return_, 1) := by decide +kernel
set_option maxRecDepth 65536 in
set_option maxHeartbeats 40000000 in
theorem ct_pch1_0 (Z : State) (a0 : Array Value) (hw : ∀ d ∈ tables_1, d.before a0 Z = true) (t : Addr) (c0 : Int32) (h0 : Heap) (A : Ax Z h0 t .byte [.int (0 : Int32), .int (0 : Int32)]) (UA : Sta Z Z.heap "java/lang/StringUTF16" "$assertionsDisabled" "Z" (.int (1 : Int32))) (UH : Sta Z Z.heap "java/lang/StringUTF16" "HI_BYTE_SHIFT" "I" (.int (0 : Int32))) (UL : Sta Z Z.heap "java/lang/StringUTF16" "LO_BYTE_SHIFT" "I" (.int (8 : Int32))) :
    Ct Z ⟨"java/lang/StringUTF16", "putChar", "([BII)V"⟩ jdk_52_method_4_code 3 (Option.none : Option FieldType) ({ frames := 0, cells := 0, slots := 0, locals := 0 } : Room) #[(.ref t), (.int (0 : Int32)), (.int c0)] h0 [t] (fun v h => v = none ∧ Ax Z h t .byte [.int (b8 c0), .int (b8 (own_hi c0))]) := by
  refine Ct.intro (Ls := #[.val (.ref t), .val (.int (0 : Int32)), .val (.int c0)]) (plainFor_of_name pn_3) (by intro m; first | (simp [entryFrame, mkF, argsToLocals, Value.category]; done) | rfl) ?_
  refine Rn.old fun Oq1 _ => ?_
  refine Rn.getS (pc' := 3) (hw _ (List.mem_of_getElem? (i := 100) rfl)) Via.refl (UA.ext Oq1) d22_0 rfl ?_
  refine Rn.if_ne (pc' := 28) (pn := 6) d22_3 (by decide) (by decide) rfl (fun cq2 => ?_) (fun cq2 => absurd cq2 (by decide))
  refine Rn.iloadN (pc' := 29) d22_28 rfl rfl ?_
  refine Rn.iconst (pc' := 30) (v := (1 : Int32)) d22_29 rfl rfl ?_
  refine Rn.ishl (pc' := 31) (v := (0 : Int32)) d22_30 rfl rfl ?_
  refine Rn.istoreN (pc' := 32) (Ls' := #[.val (.ref t), .val (.int (0 : Int32)), .val (.int c0)]) d22_31 rfl rfl ?_
  refine Rn.aloadN (pc' := 33) d22_32 rfl rfl rfl ?_
  refine Rn.iloadN (pc' := 34) d22_33 rfl rfl ?_
  refine Rn.iinc (pc' := 37) (v := (1 : Int32)) (Ls' := #[.val (.ref t), .val (.int (1 : Int32)), .val (.int c0)]) d22_34 rfl rfl rfl rfl ?_
  refine Rn.iloadN (pc' := 38) d22_37 rfl rfl ?_
  refine Rn.old fun Oq3 _ => ?_
  refine Rn.getS (pc' := 41) (hw _ (List.mem_of_getElem? (i := 101) rfl)) Via.refl (UH.ext Oq3) d22_38 rfl ?_
  refine Rn.ishr (pc' := 42) (v := c0) d22_41 (own_shr0 _) rfl ?_
  refine Rn.i2b (pc' := 43) (v := (b8 c0)) d22_42 rfl rfl ?_
  refine Rn.bastore (pc' := 44) (v := .int (b8 c0)) A (by decide) (Nat.le_of_ble_eq_true rfl) (congrArg Value.int (nar_b8 c0)) (Or.inl (List.mem_of_getElem? (i := 0) rfl)) Sf.no d22_43 rfl (fun hq5 Wq4 Aq6 => ?_)
  have Aq7 : Ax Z hq5 t .byte ([.int (b8 c0), .int (0 : Int32)]) := Aq6
  refine Rn.aloadN (pc' := 45) d22_44 rfl rfl rfl ?_
  refine Rn.iloadN (pc' := 46) d22_45 rfl rfl ?_
  refine Rn.iloadN (pc' := 47) d22_46 rfl rfl ?_
  refine Rn.old fun Oq8 _ => ?_
  refine Rn.getS (pc' := 50) (hw _ (List.mem_of_getElem? (i := 102) rfl)) Via.refl (UL.ext Oq8) d22_47 rfl ?_
  refine Rn.ishr (pc' := 51) (v := (own_hi c0)) d22_50 rfl rfl ?_
  refine Rn.i2b (pc' := 52) (v := (b8 (own_hi c0))) d22_51 rfl rfl ?_
  refine Rn.bastore (pc' := 53) (v := .int (b8 (own_hi c0))) Aq7 (by decide) (Nat.le_of_ble_eq_true rfl) (congrArg Value.int (nar_b8 (own_hi c0))) (Or.inl (List.mem_of_getElem? (i := 0) rfl)) Sf.no d22_52 rfl (fun hq10 Wq9 Aq11 => ?_)
  have Aq12 : Ax Z hq10 t .byte ([.int (b8 c0), .int (b8 (own_hi c0))]) := Aq11
  refine Rn.retV rfl d22_53 (Nat.le_of_ble_eq_true rfl) (Nat.le_of_ble_eq_true rfl) ?_
  exact ⟨rfl, Aq12⟩
theorem d23_0 : decode jdk_52_method_5_code 0 = .ok (.getstatic 44, 3) := by decide +kernel
theorem d23_3 : decode jdk_52_method_5_code 3 = .ok (.ifCond .ne 25, 3) := by decide +kernel
theorem d23_6 : decode jdk_52_method_5_code 6 = .ok (.iload_n 1, 1) := by decide +kernel
theorem d23_7 : decode jdk_52_method_5_code 7 = .ok (.ifCond .lt 11, 3) := by decide +kernel
theorem d23_10 : decode jdk_52_method_5_code 10 = .ok (.iload_n 1, 1) := by decide +kernel
theorem d23_11 : decode jdk_52_method_5_code 11 = .ok (.aload_n 0, 1) := by decide +kernel
theorem d23_12 : decode jdk_52_method_5_code 12 = .ok (.invokestatic 48, 3) := by decide +kernel
theorem d23_15 : decode jdk_52_method_5_code 15 = .ok (.if_icmp .lt 13, 3) := by decide +kernel
theorem d23_18 : decode jdk_52_method_5_code 18 = .ok (.new 52, 3) := by decide +kernel
theorem d23_21 : decode jdk_52_method_5_code 21 = .ok (.dup, 1) := by decide +kernel
theorem d23_22 : decode jdk_52_method_5_code 22 = .ok (.ldc 54, 2) := by decide +kernel
theorem d23_24 : decode jdk_52_method_5_code 24 = .ok (.invokespecial 56, 3) := by decide +kernel
theorem d23_27 : decode jdk_52_method_5_code 27 = .ok (.athrow, 1) := by decide +kernel
theorem d23_28 : decode jdk_52_method_5_code 28 = .ok (.iload_n 1, 1) := by decide +kernel
theorem d23_29 : decode jdk_52_method_5_code 29 = .ok (.iconst 1, 1) := by decide +kernel
theorem d23_30 : decode jdk_52_method_5_code 30 = .ok (.ishl, 1) := by decide +kernel
theorem d23_31 : decode jdk_52_method_5_code 31 = .ok (.istore_n 1, 1) := by decide +kernel
theorem d23_32 : decode jdk_52_method_5_code 32 = .ok (.aload_n 0, 1) := by decide +kernel
theorem d23_33 : decode jdk_52_method_5_code 33 = .ok (.iload_n 1, 1) := by decide +kernel
theorem d23_34 : decode jdk_52_method_5_code 34 = .ok (.iinc 1 1, 3) := by decide +kernel
theorem d23_37 : decode jdk_52_method_5_code 37 = .ok (.baload, 1) := by decide +kernel
theorem d23_38 : decode jdk_52_method_5_code 38 = .ok (.sipush 255, 3) := by decide +kernel
theorem d23_41 : decode jdk_52_method_5_code 41 = .ok (.iand, 1) := by decide +kernel
theorem d23_42 : decode jdk_52_method_5_code 42 = .ok (.getstatic 59, 3) := by decide +kernel
theorem d23_45 : decode jdk_52_method_5_code 45 = .ok (.ishl, 1) := by decide +kernel
theorem d23_46 : decode jdk_52_method_5_code 46 = .ok (.aload_n 0, 1) := by decide +kernel
theorem d23_47 : decode jdk_52_method_5_code 47 = .ok (.iload_n 1, 1) := by decide +kernel
theorem d23_48 : decode jdk_52_method_5_code 48 = .ok (.baload, 1) := by decide +kernel
theorem d23_49 : decode jdk_52_method_5_code 49 = .ok (.sipush 255, 3) := by decide +kernel
theorem d23_52 : decode jdk_52_method_5_code 52 = .ok (.iand, 1) := by decide +kernel
theorem d23_53 : decode jdk_52_method_5_code 53 = .ok (.getstatic 63, 3) := by decide +kernel
theorem d23_56 : decode jdk_52_method_5_code 56 = .ok (.ishl, 1) := by decide +kernel
theorem d23_57 : decode jdk_52_method_5_code 57 = .ok (.ior, 1) := by decide +kernel
theorem d23_58 : decode jdk_52_method_5_code 58 = .ok (.i2c, 1) := by decide +kernel
theorem d23_59 : decode jdk_52_method_5_code 59 = .ok (.ireturn, 1) := by decide +kernel
set_option maxRecDepth 65536 in
set_option maxHeartbeats 40000000 in
theorem ct_gch1_0 (Z : State) (a0 : Array Value) (hw : ∀ d ∈ tables_1, d.before a0 Z = true) (t : Addr) (c0 : Int32) (hC : own_C c0) (h0 : Heap) (A : Ax Z h0 t .byte [.int (b8 c0), .int (b8 (own_hi c0))]) (UA : Sta Z Z.heap "java/lang/StringUTF16" "$assertionsDisabled" "Z" (.int (1 : Int32))) (UH : Sta Z Z.heap "java/lang/StringUTF16" "HI_BYTE_SHIFT" "I" (.int (0 : Int32))) (UL : Sta Z Z.heap "java/lang/StringUTF16" "LO_BYTE_SHIFT" "I" (.int (8 : Int32))) :
    Ct Z ⟨"java/lang/StringUTF16", "getChar", "([BI)C"⟩ jdk_52_method_5_code 2 (Option.some FieldType.char) ({ frames := 0, cells := 0, slots := 0, locals := 0 } : Room) #[(.ref t), (.int (0 : Int32))] h0 [] (fun v h => v = some (.int c0) ∧ h0 = h) := by
  refine Ct.intro (Ls := #[.val (.ref t), .val (.int (0 : Int32))]) (plainFor_of_name pn_3) (by intro m; first | (simp [entryFrame, mkF, argsToLocals, Value.category]; done) | rfl) ?_
  refine Rn.old fun Oq1 _ => ?_
  refine Rn.getS (pc' := 3) (hw _ (List.mem_of_getElem? (i := 100) rfl)) Via.refl (UA.ext Oq1) d23_0 rfl ?_
  refine Rn.if_ne (pc' := 28) (pn := 6) d23_3 (by decide) (by decide) rfl (fun cq2 => ?_) (fun cq2 => absurd cq2 (by decide))
  refine Rn.iloadN (pc' := 29) d23_28 rfl rfl ?_
  refine Rn.iconst (pc' := 30) (v := (1 : Int32)) d23_29 rfl rfl ?_
  refine Rn.ishl (pc' := 31) (v := (0 : Int32)) d23_30 rfl rfl ?_
  refine Rn.istoreN (pc' := 32) (Ls' := #[.val (.ref t), .val (.int (0 : Int32))]) d23_31 rfl rfl ?_
  refine Rn.aloadN (pc' := 33) d23_32 rfl rfl rfl ?_
  refine Rn.iloadN (pc' := 34) d23_33 rfl rfl ?_
  refine Rn.iinc (pc' := 37) (v := (1 : Int32)) (Ls' := #[.val (.ref t), .val (.int (1 : Int32))]) d23_34 rfl rfl rfl rfl ?_
  refine Rn.baload (pc' := 38) (v := .int (b8 c0)) A (by decide) rfl d23_37 rfl ?_
  refine Rn.sipush (pc' := 41) (v := (255 : Int32)) d23_38 rfl rfl ?_
  refine Rn.iand (pc' := 42) (v := ((b8 c0) &&& (255 : Int32))) d23_41 rfl rfl ?_
  refine Rn.old fun Oq3 _ => ?_
  refine Rn.getS (pc' := 45) (hw _ (List.mem_of_getElem? (i := 101) rfl)) Via.refl (UH.ext Oq3) d23_42 rfl ?_
  refine Rn.ishl (pc' := 46) (v := (((b8 c0) &&& (255 : Int32)) <<< ((0 : Int32) &&& 31))) d23_45 rfl rfl ?_
  refine Rn.aloadN (pc' := 47) d23_46 rfl rfl rfl ?_
  refine Rn.iloadN (pc' := 48) d23_47 rfl rfl ?_
  refine Rn.baload (pc' := 49) (v := .int (b8 (own_hi c0))) A (by decide) rfl d23_48 rfl ?_
  refine Rn.sipush (pc' := 52) (v := (255 : Int32)) d23_49 rfl rfl ?_
  refine Rn.iand (pc' := 53) (v := ((b8 (own_hi c0)) &&& (255 : Int32))) d23_52 rfl rfl ?_
  refine Rn.old fun Oq4 _ => ?_
  refine Rn.getS (pc' := 56) (hw _ (List.mem_of_getElem? (i := 102) rfl)) Via.refl (UL.ext Oq4) d23_53 rfl ?_
  refine Rn.ishl (pc' := 57) (v := (((b8 (own_hi c0)) &&& (255 : Int32)) <<< ((8 : Int32) &&& 31))) d23_56 rfl rfl ?_
  refine Rn.ior (pc' := 58) (v := ((((b8 c0) &&& (255 : Int32)) <<< ((0 : Int32) &&& 31)) ||| (((b8 (own_hi c0)) &&& (255 : Int32)) <<< ((8 : Int32) &&& 31)))) d23_57 rfl rfl ?_
  refine Rn.i2c (pc' := 59) (v := c0) d23_58 (own_gc hC) rfl ?_
  refine Rn.retN (t := .char) rfl (by simp) d23_59 (Nat.le_of_ble_eq_true rfl) (Nat.le_of_ble_eq_true rfl) ?_
  exact ⟨congrArg (fun q => some (Value.int q)) hC.2, rfl⟩
theorem d19_0 : decode jdk_52_method_14_code 0 = .ok (.iload_n 2, 1) := by decide +kernel
theorem d19_1 : decode jdk_52_method_14_code 1 = .ok (.invokestatic 107, 3) := by decide +kernel
theorem d19_4 : decode jdk_52_method_14_code 4 = .ok (.astore_n 3, 1) := by decide +kernel
theorem d19_5 : decode jdk_52_method_14_code 5 = .ok (.iconst 0, 1) := by decide +kernel
theorem d19_6 : decode jdk_52_method_14_code 6 = .ok (.istore 4, 2) := by decide +kernel
theorem d19_8 : decode jdk_52_method_14_code 8 = .ok (.iload 4, 2) := by decide +kernel
theorem d19_10 : decode jdk_52_method_14_code 10 = .ok (.iload_n 2, 1) := by decide +kernel
theorem d19_11 : decode jdk_52_method_14_code 11 = .ok (.if_icmp .ge 21, 3) := by decide +kernel
theorem d19_14 : decode jdk_52_method_14_code 14 = .ok (.aload_n 3, 1) := by decide +kernel
theorem d19_15 : decode jdk_52_method_14_code 15 = .ok (.iload 4, 2) := by decide +kernel
theorem d19_17 : decode jdk_52_method_14_code 17 = .ok (.aload_n 0, 1) := by decide +kernel
theorem d19_18 : decode jdk_52_method_14_code 18 = .ok (.iload_n 1, 1) := by decide +kernel
theorem d19_19 : decode jdk_52_method_14_code 19 = .ok (.caload, 1) := by decide +kernel
theorem d19_20 : decode jdk_52_method_14_code 20 = .ok (.invokestatic 111, 3) := by decide +kernel
theorem d19_23 : decode jdk_52_method_14_code 23 = .ok (.iinc 1 1, 3) := by decide +kernel
theorem d19_26 : decode jdk_52_method_14_code 26 = .ok (.iinc 4 1, 3) := by decide +kernel
theorem d19_29 : decode jdk_52_method_14_code 29 = .ok (.goto (-21), 3) := by decide +kernel
theorem d19_32 : decode jdk_52_method_14_code 32 = .ok (.aload_n 3, 1) := by decide +kernel
theorem d19_33 : decode jdk_52_method_14_code 33 = .ok (.areturn, 1) := by decide +kernel
set_option maxRecDepth 65536 in
set_option maxHeartbeats 40000000 in
theorem ct_tb1 (Z : State) (a0 : Array Value) (hw : ∀ d ∈ tables_1, d.before a0 Z = true) (src : Addr) (c0 : Int32) (h0 : Heap) (A : Ax Z h0 src .char [.int c0]) (UA : Sta Z Z.heap "java/lang/StringUTF16" "$assertionsDisabled" "Z" (.int (1 : Int32))) (UH : Sta Z Z.heap "java/lang/StringUTF16" "HI_BYTE_SHIFT" "I" (.int (0 : Int32))) (UL : Sta Z Z.heap "java/lang/StringUTF16" "LO_BYTE_SHIFT" "I" (.int (8 : Int32))) :
    Ct Z ⟨"java/lang/StringUTF16", "toBytes", "([CII)[B"⟩ jdk_52_method_14_code 5 (Option.some (FieldType.array FieldType.byte)) ({ frames := 2, cells := 1, slots := 2, locals := 24 } : Room) #[(.ref src), (.int (0 : Int32)), (.int (1 : Int32))] h0 [] (fun v h => ∃ t, v = some (.ref t) ∧ h0.size ≤ t ∧ Ax Z h t .byte [.int (b8 c0), .int (b8 (own_hi c0))]) := by
  refine Ct.intro (Ls := #[.val (.ref src), .val (.int (0 : Int32)), .val (.int (1 : Int32)), .unset, .unset]) (plainFor_of_name pn_3) (by intro m; first | (simp [entryFrame, mkF, argsToLocals, Value.category]; done) | rfl) ?_
  refine Rn.iloadN (pc' := 1) d19_0 rfl rfl ?_
  refine Rn.callS (pc' := 4) (argsL := [.int (1 : Int32)]) (rest := []) (ct_nbf1 Z a0 hw h0) (hw _ (List.mem_of_getElem? (i := 90) rfl)) (hw _ (List.mem_of_getElem? (i := 91) rfl)) (hw _ (List.mem_of_getElem? (i := 73) rfl)) (hw _ (List.mem_of_getElem? (i := 92) rfl)) (by decide) rfl rfl (lenOf pd_1 rfl) rfl d19_1 rfl (Nat.le_of_ble_eq_true rfl) (Nat.le_of_ble_eq_true rfl) (Nat.le_of_ble_eq_true rfl) (Nat.le_of_ble_eq_true rfl) (fun _ z => nomatch z) (fun _ z => nomatch z) (fun vq1 hq2 Kq3 qq4 => ?_)
  obtain ⟨t, rfl, ht, At⟩ := qq4
  simp only [Option.toList, List.cons_append, List.nil_append]
  have nt : src ≠ t := Nat.ne_of_lt (Nat.lt_of_lt_of_le A.lt ht)
  refine Rn.astoreN (pc' := 5) (Ls' := #[.val (.ref src), .val (.int (0 : Int32)), .val (.int (1 : Int32)), .val (.ref t), .unset]) d19_4 rfl rfl rfl ?_
  refine Rn.iconst (pc' := 6) (v := (0 : Int32)) d19_5 rfl rfl ?_
  refine Rn.istore (pc' := 8) (Ls' := #[.val (.ref src), .val (.int (0 : Int32)), .val (.int (1 : Int32)), .val (.ref t), .val (.int (0 : Int32))]) d19_6 rfl rfl ?_
  refine Rn.iload (pc' := 10) d19_8 rfl rfl ?_
  refine Rn.iloadN (pc' := 11) d19_10 rfl rfl ?_
  refine Rn.icmp_ge (pc' := 32) (pn := 14) d19_11 (by decide) (by decide) rfl (fun cq5 => absurd cq5 (by decide)) (fun cq5 => ?_)
  refine Rn.aloadN (pc' := 15) d19_14 rfl rfl rfl ?_
  refine Rn.iload (pc' := 17) d19_15 rfl rfl ?_
  refine Rn.aloadN (pc' := 18) d19_17 rfl rfl rfl ?_
  refine Rn.iloadN (pc' := 19) d19_18 rfl rfl ?_
  have Fq6 := A.keep Kq3 nin0
  refine Rn.caload (pc' := 20) (v := .int c0) Fq6 (by decide) rfl d19_19 rfl ?_
  refine Rn.callS (pc' := 23) (argsL := [.ref t, .int (0 : Int32), .int c0]) (rest := []) (ct_pch1_0 Z a0 hw t c0 hq2 At UA UH UL) (hw _ (List.mem_of_getElem? (i := 97) rfl)) (hw _ (List.mem_of_getElem? (i := 98) rfl)) (hw _ (List.mem_of_getElem? (i := 73) rfl)) (hw _ (List.mem_of_getElem? (i := 99) rfl)) (by decide) rfl rfl (lenOf pd_2 rfl) rfl d19_20 rfl (Nat.le_of_ble_eq_true rfl) (Nat.le_of_ble_eq_true rfl) (Nat.le_of_ble_eq_true rfl) (Nat.le_of_ble_eq_true rfl) (allS (Or.inr ht) all0) (allS Sf.no (all0)) (fun vq8 hq9 Kq10 qq11 => ?_)
  obtain ⟨rfl, Aq7⟩ := qq11
  simp only [Option.toList, List.cons_append, List.nil_append]
  refine Rn.iinc (pc' := 26) (v := (1 : Int32)) (Ls' := #[.val (.ref src), .val (.int (1 : Int32)), .val (.int (1 : Int32)), .val (.ref t), .val (.int (0 : Int32))]) d19_23 rfl rfl rfl rfl ?_
  refine Rn.iinc (pc' := 29) (v := (1 : Int32)) (Ls' := #[.val (.ref src), .val (.int (1 : Int32)), .val (.int (1 : Int32)), .val (.ref t), .val (.int (1 : Int32))]) d19_26 rfl rfl rfl rfl ?_
  refine Rn.goto (pc' := 8) d19_29 (by decide) (by decide) ?_
  refine Rn.iload (pc' := 10) d19_8 rfl rfl ?_
  refine Rn.iloadN (pc' := 11) d19_10 rfl rfl ?_
  refine Rn.icmp_ge (pc' := 32) (pn := 14) d19_11 (by decide) (by decide) rfl (fun cq12 => ?_) (fun cq12 => absurd cq12 (by decide))
  refine Rn.aloadN (pc' := 33) d19_32 rfl rfl rfl ?_
  refine Rn.retA (t := (.array .byte)) rfl rfl rfl d19_33 (Nat.le_of_ble_eq_true rfl) (Nat.le_of_ble_eq_true rfl) ?_
  exact ⟨_, rfl, ht, Aq7⟩
theorem d16_0 : decode jdk_52_method_15_code 0 = .ok (.iload_n 1, 1) := by decide +kernel
theorem d16_1 : decode jdk_52_method_15_code 1 = .ok (.aload_n 0, 1) := by decide +kernel
theorem d16_2 : decode jdk_52_method_15_code 2 = .ok (.arraylength, 1) := by decide +kernel
theorem d16_3 : decode jdk_52_method_15_code 3 = .ok (.isub, 1) := by decide +kernel
theorem d16_4 : decode jdk_52_method_15_code 4 = .ok (.bipush 31, 2) := by decide +kernel
theorem d16_6 : decode jdk_52_method_15_code 6 = .ok (.iushr, 1) := by decide +kernel
theorem d16_7 : decode jdk_52_method_15_code 7 = .ok (.i2b, 1) := by decide +kernel
theorem d16_8 : decode jdk_52_method_15_code 8 = .ok (.ireturn, 1) := by decide +kernel
set_option maxRecDepth 65536 in
set_option maxHeartbeats 40000000 in
theorem ct_cod16_1 (Z : State) (a0 : Array Value) (hw : ∀ d ∈ tables_1, d.before a0 Z = true) (t : Addr) (c0 : Int32) (h0 : Heap) (A : Ax Z h0 t .byte [.int (b8 c0), .int (b8 (own_hi c0))]) :
    Ct Z ⟨"java/lang/StringUTF16", "coderFromArrayLen", "([BI)B"⟩ jdk_52_method_15_code 2 (Option.some FieldType.byte) ({ frames := 0, cells := 0, slots := 0, locals := 0 } : Room) #[(.ref t), (.int (1 : Int32))] h0 [] (fun v h => v = some (.int (1 : Int32)) ∧ h0 = h) := by
  refine Ct.intro (Ls := #[.val (.ref t), .val (.int (1 : Int32))]) (plainFor_of_name pn_3) (by intro m; first | (simp [entryFrame, mkF, argsToLocals, Value.category]; done) | rfl) ?_
  refine Rn.iloadN (pc' := 1) d16_0 rfl rfl ?_
  refine Rn.aloadN (pc' := 2) d16_1 rfl rfl rfl ?_
  refine Rn.arraylength (pc' := 3) (n := (2 : Int32)) A rfl d16_2 rfl ?_
  refine Rn.isub (pc' := 4) (v := (-1 : Int32)) d16_3 rfl rfl ?_
  refine Rn.bipush (pc' := 6) (v := (31 : Int32)) d16_4 rfl rfl ?_
  refine Rn.iushr (pc' := 7) (v := (1 : Int32)) d16_6 rfl rfl ?_
  refine Rn.i2b (pc' := 8) (v := (1 : Int32)) d16_7 rfl rfl ?_
  refine Rn.retN (t := .byte) rfl (by simp) d16_8 (Nat.le_of_ble_eq_true rfl) (Nat.le_of_ble_eq_true rfl) ?_
  exact ⟨rfl, rfl⟩
theorem d15_0 : decode jdk_52_method_21_code 0 = .ok (.iconst 0, 1) := by decide +kernel
theorem d15_1 : decode jdk_52_method_21_code 1 = .ok (.istore 5, 2) := by decide +kernel
theorem d15_3 : decode jdk_52_method_21_code 3 = .ok (.iload 5, 2) := by decide +kernel
theorem d15_5 : decode jdk_52_method_21_code 5 = .ok (.iload 4, 2) := by decide +kernel
theorem d15_7 : decode jdk_52_method_21_code 7 = .ok (.if_icmp .ge 37, 3) := by decide +kernel
theorem d15_10 : decode jdk_52_method_21_code 10 = .ok (.aload_n 0, 1) := by decide +kernel
theorem d15_11 : decode jdk_52_method_21_code 11 = .ok (.iload_n 1, 1) := by decide +kernel
theorem d15_12 : decode jdk_52_method_21_code 12 = .ok (.caload, 1) := by decide +kernel
theorem d15_13 : decode jdk_52_method_21_code 13 = .ok (.istore 6, 2) := by decide +kernel
theorem d15_15 : decode jdk_52_method_21_code 15 = .ok (.iload 6, 2) := by decide +kernel
theorem d15_17 : decode jdk_52_method_21_code 17 = .ok (.sipush 255, 3) := by decide +kernel
theorem d15_20 : decode jdk_52_method_21_code 20 = .ok (.if_icmp .le 6, 3) := by decide +kernel
theorem d15_23 : decode jdk_52_method_21_code 23 = .ok (.iload 5, 2) := by decide +kernel
theorem d15_25 : decode jdk_52_method_21_code 25 = .ok (.ireturn, 1) := by decide +kernel
theorem d15_26 : decode jdk_52_method_21_code 26 = .ok (.aload_n 2, 1) := by decide +kernel
theorem d15_27 : decode jdk_52_method_21_code 27 = .ok (.iload_n 3, 1) := by decide +kernel
theorem d15_28 : decode jdk_52_method_21_code 28 = .ok (.iload 6, 2) := by decide +kernel
theorem d15_30 : decode jdk_52_method_21_code 30 = .ok (.i2b, 1) := by decide +kernel
theorem d15_31 : decode jdk_52_method_21_code 31 = .ok (.bastore, 1) := by decide +kernel
theorem d15_32 : decode jdk_52_method_21_code 32 = .ok (.iinc 1 1, 3) := by decide +kernel
theorem d15_35 : decode jdk_52_method_21_code 35 = .ok (.iinc 3 1, 3) := by decide +kernel
theorem d15_38 : decode jdk_52_method_21_code 38 = .ok (.iinc 5 1, 3) := by decide +kernel
theorem d15_41 : decode jdk_52_method_21_code 41 = .ok (.goto (-38), 3) := by decide +kernel
theorem d15_44 : decode jdk_52_method_21_code 44 = .ok (.iload 4, 2) := by decide +kernel
theorem d15_46 : decode jdk_52_method_21_code 46 = .ok (.ireturn, 1) := by decide +kernel
set_option maxRecDepth 65536 in
set_option maxHeartbeats 40000000 in
theorem ct_cf1_0 (Z : State) (a0 : Array Value) (hw : ∀ d ∈ tables_1, d.before a0 Z = true) (src t : Addr) (c0 : Int32)  (hq : 255 < c0) (h0 : Heap) (A : Ax Z h0 src .char [.int c0]) (B : Ax Z h0 t .byte [.int (0 : Int32)]) (hn : src ≠ t) :
    Ct Z ⟨"java/lang/StringUTF16", "compress", "([CI[BII)I"⟩ jdk_52_method_21_code 7 (Option.some FieldType.int) ({ frames := 0, cells := 0, slots := 0, locals := 0 } : Room) #[(.ref src), (.int (0 : Int32)), (.ref t), (.int (0 : Int32)), (.int (1 : Int32))] h0 [t] (fun v h => v = some (.int (0 : Int32))) := by
  refine Ct.intro (Ls := #[.val (.ref src), .val (.int (0 : Int32)), .val (.ref t), .val (.int (0 : Int32)), .val (.int (1 : Int32)), .unset, .unset]) (plainFor_of_name pn_3) (by intro m; first | (simp [entryFrame, mkF, argsToLocals, Value.category]; done) | rfl) ?_
  refine Rn.iconst (pc' := 1) (v := (0 : Int32)) d15_0 rfl rfl ?_
  refine Rn.istore (pc' := 3) (Ls' := #[.val (.ref src), .val (.int (0 : Int32)), .val (.ref t), .val (.int (0 : Int32)), .val (.int (1 : Int32)), .val (.int (0 : Int32)), .unset]) d15_1 rfl rfl ?_
  refine Rn.iload (pc' := 5) d15_3 rfl rfl ?_
  refine Rn.iload (pc' := 7) d15_5 rfl rfl ?_
  refine Rn.icmp_ge (pc' := 44) (pn := 10) d15_7 (by decide) (by decide) rfl (fun cq1 => absurd cq1 (by decide)) (fun cq1 => ?_)
  refine Rn.aloadN (pc' := 11) d15_10 rfl rfl rfl ?_
  refine Rn.iloadN (pc' := 12) d15_11 rfl rfl ?_
  refine Rn.caload (pc' := 13) (v := .int c0) A (by decide) rfl d15_12 rfl ?_
  refine Rn.istore (pc' := 15) (Ls' := #[.val (.ref src), .val (.int (0 : Int32)), .val (.ref t), .val (.int (0 : Int32)), .val (.int (1 : Int32)), .val (.int (0 : Int32)), .val (.int c0)]) d15_13 rfl rfl ?_
  refine Rn.iload (pc' := 17) d15_15 rfl rfl ?_
  refine Rn.sipush (pc' := 20) (v := (255 : Int32)) d15_17 rfl rfl ?_
  refine Rn.icmp_le (pc' := 26) (pn := 23) d15_20 (by decide) (by decide) rfl (fun cq2 => absurd hq cq2) (fun cq2 => ?_)
  refine Rn.iload (pc' := 25) d15_23 rfl rfl ?_
  refine Rn.retI rfl d15_25 (Nat.le_of_ble_eq_true rfl) (Nat.le_of_ble_eq_true rfl) ?_
  rfl
theorem d14_0 : decode jdk_52_method_16_code 0 = .ok (.iload_n 2, 1) := by decide +kernel
theorem d14_1 : decode jdk_52_method_16_code 1 = .ok (.newarray .byte, 2) := by decide +kernel
theorem d14_3 : decode jdk_52_method_16_code 3 = .ok (.astore_n 3, 1) := by decide +kernel
theorem d14_4 : decode jdk_52_method_16_code 4 = .ok (.aload_n 0, 1) := by decide +kernel
theorem d14_5 : decode jdk_52_method_16_code 5 = .ok (.iload_n 1, 1) := by decide +kernel
theorem d14_6 : decode jdk_52_method_16_code 6 = .ok (.aload_n 3, 1) := by decide +kernel
theorem d14_7 : decode jdk_52_method_16_code 7 = .ok (.iconst 0, 1) := by decide +kernel
theorem d14_8 : decode jdk_52_method_16_code 8 = .ok (.iload_n 2, 1) := by decide +kernel
theorem d14_9 : decode jdk_52_method_16_code 9 = .ok (.invokestatic 115, 3) := by decide +kernel
theorem d14_12 : decode jdk_52_method_16_code 12 = .ok (.istore 4, 2) := by decide +kernel
theorem d14_14 : decode jdk_52_method_16_code 14 = .ok (.iload 4, 2) := by decide +kernel
theorem d14_16 : decode jdk_52_method_16_code 16 = .ok (.iload_n 2, 1) := by decide +kernel
theorem d14_17 : decode jdk_52_method_16_code 17 = .ok (.if_icmp .eq 40, 3) := by decide +kernel
theorem d14_20 : decode jdk_52_method_16_code 20 = .ok (.aload_n 0, 1) := by decide +kernel
theorem d14_21 : decode jdk_52_method_16_code 21 = .ok (.iload_n 1, 1) := by decide +kernel
theorem d14_22 : decode jdk_52_method_16_code 22 = .ok (.iload_n 2, 1) := by decide +kernel
theorem d14_23 : decode jdk_52_method_16_code 23 = .ok (.invokestatic 119, 3) := by decide +kernel
theorem d14_26 : decode jdk_52_method_16_code 26 = .ok (.astore 5, 2) := by decide +kernel
theorem d14_28 : decode jdk_52_method_16_code 28 = .ok (.aload 5, 2) := by decide +kernel
theorem d14_30 : decode jdk_52_method_16_code 30 = .ok (.iload 4, 2) := by decide +kernel
theorem d14_32 : decode jdk_52_method_16_code 32 = .ok (.invokestatic 71, 3) := by decide +kernel
theorem d14_35 : decode jdk_52_method_16_code 35 = .ok (.sipush 255, 3) := by decide +kernel
theorem d14_38 : decode jdk_52_method_16_code 38 = .ok (.if_icmp .gt 16, 3) := by decide +kernel
theorem d14_41 : decode jdk_52_method_16_code 41 = .ok (.aload 5, 2) := by decide +kernel
theorem d14_43 : decode jdk_52_method_16_code 43 = .ok (.iconst 0, 1) := by decide +kernel
theorem d14_44 : decode jdk_52_method_16_code 44 = .ok (.aload_n 3, 1) := by decide +kernel
theorem d14_45 : decode jdk_52_method_16_code 45 = .ok (.iconst 0, 1) := by decide +kernel
theorem d14_46 : decode jdk_52_method_16_code 46 = .ok (.iload_n 2, 1) := by decide +kernel
theorem d14_47 : decode jdk_52_method_16_code 47 = .ok (.invokestatic 123, 3) := by decide +kernel
theorem d14_50 : decode jdk_52_method_16_code 50 = .ok (.iload_n 2, 1) := by decide +kernel
theorem d14_51 : decode jdk_52_method_16_code 51 = .ok (.if_icmp .eq 6, 3) := by decide +kernel
theorem d14_54 : decode jdk_52_method_16_code 54 = .ok (.aload 5, 2) := by decide +kernel
theorem d14_56 : decode jdk_52_method_16_code 56 = .ok (.areturn, 1) := by decide +kernel
theorem d14_57 : decode jdk_52_method_16_code 57 = .ok (.aload_n 3, 1) := by decide +kernel
theorem d14_58 : decode jdk_52_method_16_code 58 = .ok (.areturn, 1) := by decide +kernel
set_option maxRecDepth 65536 in
set_option maxHeartbeats 40000000 in
theorem ct_cu1_0 (Z : State) (a0 : Array Value) (hw : ∀ d ∈ tables_1, d.before a0 Z = true) (src : Addr) (c0 : Int32)  (hq : 255 < c0) (hC0 : own_C c0) (h0 : Heap) (A : Ax Z h0 src .char [.int c0]) (UA : Sta Z Z.heap "java/lang/StringUTF16" "$assertionsDisabled" "Z" (.int (1 : Int32))) (UH : Sta Z Z.heap "java/lang/StringUTF16" "HI_BYTE_SHIFT" "I" (.int (0 : Int32))) (UL : Sta Z Z.heap "java/lang/StringUTF16" "LO_BYTE_SHIFT" "I" (.int (8 : Int32))) :
    Ct Z ⟨"java/lang/StringUTF16", "compress", "([CII)[B"⟩ jdk_52_method_16_code 6 (Option.some (FieldType.array FieldType.byte)) ({ frames := 3, cells := 2, slots := 3, locals := 40 } : Room) #[(.ref src), (.int (0 : Int32)), (.int (1 : Int32))] h0 [] (fun v h => ∃ t, v = some (.ref t) ∧ h0.size ≤ t ∧ Ax Z h t .byte [.int (b8 c0), .int (b8 (own_hi c0))]) := by
  refine Ct.intro (Ls := #[.val (.ref src), .val (.int (0 : Int32)), .val (.int (1 : Int32)), .unset, .unset, .unset]) (plainFor_of_name pn_3) (by intro m; first | (simp [entryFrame, mkF, argsToLocals, Value.category]; done) | rfl) ?_
  refine Rn.iloadN (pc' := 1) d14_0 rfl rfl ?_
  refine Rn.newP (pc' := 3) (cap := 1) (ty := .byte) (ad := "[B") (hw _ (List.mem_of_getElem? (i := 20) rfl)) rfl rfl d14_1 (by decide) (Nat.le_of_ble_eq_true rfl) (by decide) (Nat.le_of_ble_eq_true rfl) (Nat.le_of_ble_eq_true rfl) rfl (fun hq2 aq1 eq3 gq4 Eq5 ⟨Aq6, Bq7⟩ => ?_)
  have nq8 : src ≠ aq1 := by rw [eq3]; exact Nat.ne_of_lt (A.lt)
  have Aq9 : Ax Z hq2 aq1 .byte ([.int (0 : Int32)]) := Aq6
  refine Rn.astoreN (pc' := 4) (Ls' := #[.val (.ref src), .val (.int (0 : Int32)), .val (.int (1 : Int32)), .val (.ref aq1), .unset, .unset]) d14_3 rfl rfl rfl ?_
  refine Rn.aloadN (pc' := 5) d14_4 rfl rfl rfl ?_
  refine Rn.iloadN (pc' := 6) d14_5 rfl rfl ?_
  refine Rn.aloadN (pc' := 7) d14_6 rfl rfl rfl ?_
  refine Rn.iconst (pc' := 8) (v := (0 : Int32)) d14_7 rfl rfl ?_
  refine Rn.iloadN (pc' := 9) d14_8 rfl rfl ?_
  have Fq10 := A.ext Eq5
  refine Rn.callS (pc' := 12) (argsL := [.ref src, .int (0 : Int32), .ref aq1, .int (0 : Int32), .int (1 : Int32)]) (rest := []) (ct_cf1_0 Z a0 hw src aq1 c0 hq hq2 Fq10 Aq9 nq8) (hw _ (List.mem_of_getElem? (i := 75) rfl)) (hw _ (List.mem_of_getElem? (i := 76) rfl)) (hw _ (List.mem_of_getElem? (i := 73) rfl)) (hw _ (List.mem_of_getElem? (i := 77) rfl)) (by decide) rfl rfl (lenOf pd_3 rfl) rfl d14_9 rfl (Nat.le_of_ble_eq_true rfl) (Nat.le_of_ble_eq_true rfl) (Nat.le_of_ble_eq_true rfl) (Nat.le_of_ble_eq_true rfl) (allS (Or.inr gq4) all0) (allS Sf.no (all0)) (fun vq11 hq12 Kq13 qq14 => ?_)
  obtain rfl := qq14
  simp only [Option.toList, List.cons_append, List.nil_append]
  refine Rn.istore (pc' := 14) (Ls' := #[.val (.ref src), .val (.int (0 : Int32)), .val (.int (1 : Int32)), .val (.ref aq1), .val (.int (0 : Int32)), .unset]) d14_12 rfl rfl ?_
  refine Rn.iload (pc' := 16) d14_14 rfl rfl ?_
  refine Rn.iloadN (pc' := 17) d14_16 rfl rfl ?_
  refine Rn.icmp_eq (pc' := 57) (pn := 20) d14_17 (by decide) (by decide) rfl (fun cq15 => absurd cq15 (by decide)) (fun cq15 => ?_)
  refine Rn.aloadN (pc' := 21) d14_20 rfl rfl rfl ?_
  refine Rn.iloadN (pc' := 22) d14_21 rfl rfl ?_
  refine Rn.iloadN (pc' := 23) d14_22 rfl rfl ?_
  have Fq16 := Fq10.keep Kq13 (ninS nq8 nin0)
  refine Rn.old fun _ hK => ?_
  refine Rn.callS (pc' := 26) (argsL := [.ref src, .int (0 : Int32), .int (1 : Int32)]) (rest := []) (ct_tb1 Z a0 hw src c0 hq12 Fq16 UA UH UL) (hw _ (List.mem_of_getElem? (i := 87) rfl)) (hw _ (List.mem_of_getElem? (i := 88) rfl)) (hw _ (List.mem_of_getElem? (i := 73) rfl)) (hw _ (List.mem_of_getElem? (i := 89) rfl)) (by decide) rfl rfl (lenOf pd_4 rfl) rfl d14_23 rfl (Nat.le_of_ble_eq_true rfl) (Nat.le_of_ble_eq_true rfl) (Nat.le_of_ble_eq_true rfl) (Nat.le_of_ble_eq_true rfl) (fun _ z => nomatch z) (fun _ z => nomatch z) (fun vq17 hq18 Kq19 qq20 => ?_)
  obtain ⟨u, rfl, hu, Au⟩ := qq20
  simp only [Option.toList, List.cons_append, List.nil_append]
  refine Rn.astore (pc' := 28) (Ls' := #[.val (.ref src), .val (.int (0 : Int32)), .val (.int (1 : Int32)), .val (.ref aq1), .val (.int (0 : Int32)), .val (.ref u)]) d14_26 rfl rfl rfl ?_
  refine Rn.aload (pc' := 30) d14_28 rfl rfl rfl ?_
  refine Rn.iload (pc' := 32) d14_30 rfl rfl ?_
  refine Rn.callS (pc' := 35) (argsL := [.ref u, .int (0 : Int32)]) (rest := []) (ct_gch1_0 Z a0 hw u c0 hC0 hq18 Au UA UH UL) (hw _ (List.mem_of_getElem? (i := 103) rfl)) (hw _ (List.mem_of_getElem? (i := 104) rfl)) (hw _ (List.mem_of_getElem? (i := 73) rfl)) (hw _ (List.mem_of_getElem? (i := 105) rfl)) (by decide) rfl rfl (lenOf pd_5 rfl) rfl d14_32 rfl (Nat.le_of_ble_eq_true rfl) (Nat.le_of_ble_eq_true rfl) (Nat.le_of_ble_eq_true rfl) (Nat.le_of_ble_eq_true rfl) (fun _ z => nomatch z) (fun _ z => nomatch z) (fun vq21 hq22 Kq23 qq24 => ?_)
  obtain ⟨rfl, rfl⟩ := qq24
  simp only [Option.toList, List.cons_append, List.nil_append]
  refine Rn.sipush (pc' := 38) (v := (255 : Int32)) d14_35 rfl rfl ?_
  refine Rn.icmp_gt (pc' := 54) (pn := 41) d14_38 (by decide) (by decide) rfl (fun cq25 => ?_) (fun cq25 => absurd hq cq25)
  refine Rn.aload (pc' := 56) d14_54 rfl rfl rfl ?_
  refine Rn.retA (t := (.array .byte)) rfl rfl rfl d14_56 (Nat.le_of_ble_eq_true rfl) (Nat.le_of_ble_eq_true rfl) ?_
  exact ⟨u, rfl, Nat.le_trans hK.1 hu, Au⟩
theorem d2_0 : decode jdk_42_method_149_code 0 = .ok (.aload_n 0, 1) := by decide +kernel
theorem d2_1 : decode jdk_42_method_149_code 1 = .ok (.invokespecial 1, 3) := by decide +kernel
theorem d2_4 : decode jdk_42_method_149_code 4 = .ok (.iload_n 3, 1) := by decide +kernel
theorem d2_5 : decode jdk_42_method_149_code 5 = .ok (.ifCond .ne 22, 3) := by decide +kernel
theorem d2_8 : decode jdk_42_method_149_code 8 = .ok (.aload_n 0, 1) := by decide +kernel
theorem d2_9 : decode jdk_42_method_149_code 9 = .ok (.ldc 7, 2) := by decide +kernel
theorem d2_11 : decode jdk_42_method_149_code 11 = .ok (.getfield 9, 3) := by decide +kernel
theorem d2_14 : decode jdk_42_method_149_code 14 = .ok (.putfield 9, 3) := by decide +kernel
theorem d2_17 : decode jdk_42_method_149_code 17 = .ok (.aload_n 0, 1) := by decide +kernel
theorem d2_18 : decode jdk_42_method_149_code 18 = .ok (.ldc 7, 2) := by decide +kernel
theorem d2_20 : decode jdk_42_method_149_code 20 = .ok (.getfield 15, 3) := by decide +kernel
theorem d2_23 : decode jdk_42_method_149_code 23 = .ok (.putfield 15, 3) := by decide +kernel
theorem d2_26 : decode jdk_42_method_149_code 26 = .ok (.return_, 1) := by decide +kernel
theorem d2_27 : decode jdk_42_method_149_code 27 = .ok (.getstatic 38, 3) := by decide +kernel
theorem d2_30 : decode jdk_42_method_149_code 30 = .ok (.ifCond .eq 28, 3) := by decide +kernel
theorem d2_33 : decode jdk_42_method_149_code 33 = .ok (.aload_n 1, 1) := by decide +kernel
theorem d2_34 : decode jdk_42_method_149_code 34 = .ok (.iload_n 2, 1) := by decide +kernel
theorem d2_35 : decode jdk_42_method_149_code 35 = .ok (.iload_n 3, 1) := by decide +kernel
theorem d2_36 : decode jdk_42_method_149_code 36 = .ok (.invokestatic 177, 3) := by decide +kernel
theorem d2_39 : decode jdk_42_method_149_code 39 = .ok (.astore 5, 2) := by decide +kernel
theorem d2_41 : decode jdk_42_method_149_code 41 = .ok (.aload_n 0, 1) := by decide +kernel
theorem d2_42 : decode jdk_42_method_149_code 42 = .ok (.aload 5, 2) := by decide +kernel
theorem d2_44 : decode jdk_42_method_149_code 44 = .ok (.iload_n 3, 1) := by decide +kernel
theorem d2_45 : decode jdk_42_method_149_code 45 = .ok (.invokestatic 47, 3) := by decide +kernel
theorem d2_48 : decode jdk_42_method_149_code 48 = .ok (.putfield 15, 3) := by decide +kernel
theorem d2_51 : decode jdk_42_method_149_code 51 = .ok (.aload_n 0, 1) := by decide +kernel
theorem d2_52 : decode jdk_42_method_149_code 52 = .ok (.aload 5, 2) := by decide +kernel
theorem d2_54 : decode jdk_42_method_149_code 54 = .ok (.putfield 9, 3) := by decide +kernel
theorem d2_57 : decode jdk_42_method_149_code 57 = .ok (.return_, 1) := by decide +kernel
theorem d2_58 : decode jdk_42_method_149_code 58 = .ok (.aload_n 0, 1) := by decide +kernel
theorem d2_59 : decode jdk_42_method_149_code 59 = .ok (.iconst 1, 1) := by decide +kernel
theorem d2_60 : decode jdk_42_method_149_code 60 = .ok (.putfield 15, 3) := by decide +kernel
theorem d2_63 : decode jdk_42_method_149_code 63 = .ok (.aload_n 0, 1) := by decide +kernel
theorem d2_64 : decode jdk_42_method_149_code 64 = .ok (.aload_n 1, 1) := by decide +kernel
theorem d2_65 : decode jdk_42_method_149_code 65 = .ok (.iload_n 2, 1) := by decide +kernel
theorem d2_66 : decode jdk_42_method_149_code 66 = .ok (.iload_n 3, 1) := by decide +kernel
theorem d2_67 : decode jdk_42_method_149_code 67 = .ok (.invokestatic 180, 3) := by decide +kernel
theorem d2_70 : decode jdk_42_method_149_code 70 = .ok (.putfield 9, 3) := by decide +kernel
theorem d2_73 : decode jdk_42_method_149_code 73 = .ok (.return_, 1) := by decide +kernel
set_option maxRecDepth 65536 in
set_option maxHeartbeats 40000000 in
theorem ct_siw1_0 (Z : State) (a0 : Array Value) (hw : ∀ d ∈ tables_1, d.before a0 Z = true) (x : Addr) (src : Addr) (c0 : Int32)  (hq : 255 < c0) (hC0 : own_C c0) (h0 : Heap) (E : Exa Z h0 x "java/lang/String") (V : Fld Z h0 x "java/lang/String" "value" "[B" .null) (Co : Fld Z h0 x "java/lang/String" "coder" "B" (.int (0 : Int32))) (A : Ax Z h0 src .char [.int c0]) (hn : src ≠ x) (z : Int32) (hz : z ≠ 0) (S : Sta Z Z.heap "java/lang/String" "COMPACT_STRINGS" "Z" (.int z)) (UA : Sta Z Z.heap "java/lang/StringUTF16" "$assertionsDisabled" "Z" (.int (1 : Int32))) (UH : Sta Z Z.heap "java/lang/StringUTF16" "HI_BYTE_SHIFT" "I" (.int (0 : Int32))) (UL : Sta Z Z.heap "java/lang/StringUTF16" "LO_BYTE_SHIFT" "I" (.int (8 : Int32))) :
    Ct Z ⟨"java/lang/String", "<init>", "([CIILjava/lang/Void;)V"⟩ jdk_42_method_149_code 6 (Option.none : Option FieldType) ({ frames := 4, cells := 2, slots := 3, locals := 57 } : Room) #[(.ref x), (.ref src), (.int (0 : Int32)), (.int (1 : Int32)), (.null)] h0 [x] (fun v h => v = none ∧ ∃ t, Su Z h x t [.int (b8 c0), .int (b8 (own_hi c0))]) := by
  refine Ct.intro (Ls := #[.val (.ref x), .val (.ref src), .val (.int (0 : Int32)), .val (.int (1 : Int32)), .val (.null), .unset]) (plainFor_of_name pn_4) (by intro m; first | (simp [entryFrame, mkF, argsToLocals, Value.category]; done) | rfl) ?_
  refine Rn.aloadN (pc' := 1) d2_0 rfl rfl rfl ?_
  refine Rn.initO (pc' := 4) (hw _ (List.mem_of_getElem? (i := 16) rfl)) (hw _ (List.mem_of_getElem? (i := 17) rfl)) (hw _ (List.mem_of_getElem? (i := 18) rfl)) rfl d2_1 (Nat.le_of_ble_eq_true rfl) (Nat.le_of_ble_eq_true rfl) rfl ?_
  refine Rn.iloadN (pc' := 5) d2_4 rfl rfl ?_
  refine Rn.if_ne (pc' := 27) (pn := 8) d2_5 (by decide) (by decide) rfl (fun cq1 => ?_) (fun cq1 => absurd cq1 (by decide))
  refine Rn.old fun Oq2 _ => ?_
  refine Rn.getS (pc' := 30) (hw _ (List.mem_of_getElem? (i := 46) rfl)) Via.refl (S.ext Oq2) d2_27 rfl ?_
  refine Rn.if_eq (pc' := 58) (pn := 33) d2_30 (by decide) (by decide) rfl (fun cq3 => absurd cq3 hz) (fun cq3 => ?_)
  refine Rn.aloadN (pc' := 34) d2_33 rfl rfl rfl ?_
  refine Rn.iloadN (pc' := 35) d2_34 rfl rfl ?_
  refine Rn.iloadN (pc' := 36) d2_35 rfl rfl ?_
  refine Rn.callS (pc' := 39) (argsL := [.ref src, .int (0 : Int32), .int (1 : Int32)]) (rest := []) (ct_cu1_0 Z a0 hw src c0 hq hC0 h0 A UA UH UL) (hw _ (List.mem_of_getElem? (i := 71) rfl)) (hw _ (List.mem_of_getElem? (i := 72) rfl)) (hw _ (List.mem_of_getElem? (i := 73) rfl)) (hw _ (List.mem_of_getElem? (i := 74) rfl)) (by decide) rfl rfl (lenOf pd_4 rfl) rfl d2_36 rfl (Nat.le_of_ble_eq_true rfl) (Nat.le_of_ble_eq_true rfl) (Nat.le_of_ble_eq_true rfl) (Nat.le_of_ble_eq_true rfl) (fun _ z => nomatch z) (fun _ z => nomatch z) (fun vq4 hq5 Kq6 qq7 => ?_)
  obtain ⟨t, rfl, ht, At⟩ := qq7
  simp only [Option.toList, List.cons_append, List.nil_append]
  have nt : x ≠ t := Nat.ne_of_lt (Nat.lt_of_lt_of_le E.lt ht)
  refine Rn.astore (pc' := 41) (Ls' := #[.val (.ref x), .val (.ref src), .val (.int (0 : Int32)), .val (.int (1 : Int32)), .val (.null), .val (.ref t)]) d2_39 rfl rfl rfl ?_
  refine Rn.aloadN (pc' := 42) d2_41 rfl rfl rfl ?_
  refine Rn.aload (pc' := 44) d2_42 rfl rfl rfl ?_
  refine Rn.iloadN (pc' := 45) d2_44 rfl rfl ?_
  refine Rn.callS (pc' := 48) (argsL := [.ref t, .int (1 : Int32)]) (rest := [.ref x]) (ct_cod16_1 Z a0 hw t c0 hq5 At) (hw _ (List.mem_of_getElem? (i := 78) rfl)) (hw _ (List.mem_of_getElem? (i := 79) rfl)) (hw _ (List.mem_of_getElem? (i := 73) rfl)) (hw _ (List.mem_of_getElem? (i := 80) rfl)) (by decide) rfl rfl (lenOf pd_6 rfl) rfl d2_45 rfl (Nat.le_of_ble_eq_true rfl) (Nat.le_of_ble_eq_true rfl) (Nat.le_of_ble_eq_true rfl) (Nat.le_of_ble_eq_true rfl) (fun _ z => nomatch z) (fun _ z => nomatch z) (fun vq8 hq9 Kq10 qq11 => ?_)
  obtain ⟨rfl, rfl⟩ := qq11
  simp only [Option.toList, List.cons_append, List.nil_append]
  have Fq12 := Co.keep Kq6 nin0
  have Fq13 := E.keep Kq6
  refine Rn.putF (pc' := 51) (hw _ (List.mem_of_getElem? (i := 26) rfl)) Via.refl Fq12 Fq13 (Or.inr ⟨(hw _ (List.mem_of_getElem? (i := 22) rfl)), rfl, rfl⟩) (hw _ (List.mem_of_getElem? (i := 6) rfl)) (ty := .byte) (by decide) rfl rfl (Or.inl (List.mem_of_getElem? (i := 0) rfl)) Sf.no d2_48 rfl (fun hq15 Wq14 => ?_)
  have Fq16 := Fq12.same Wq14
  refine Rn.aloadN (pc' := 52) d2_51 rfl rfl rfl ?_
  refine Rn.aload (pc' := 54) d2_52 rfl rfl rfl ?_
  have Fq17 := V.keep Kq6 nin0
  have Fq18 := Fq17.other Wq14 (Or.inr (slot_ne (t := (.array .byte)) (t' := .byte) (Or.inr (hw _ (List.mem_of_getElem? (i := 21) rfl))) (Or.inr (hw _ (List.mem_of_getElem? (i := 22) rfl))) (by decide) (by decide) (by decide)))
  have Fq19 := Fq13.wr Wq14
  refine Rn.putF (pc' := 57) (hw _ (List.mem_of_getElem? (i := 25) rfl)) Via.refl Fq18 Fq19 (Or.inr ⟨(hw _ (List.mem_of_getElem? (i := 21) rfl)), rfl, rfl⟩) (hw _ (List.mem_of_getElem? (i := 6) rfl)) (ty := (.array .byte)) (by decide) rfl rfl (Or.inl (List.mem_of_getElem? (i := 0) rfl)) Sf.no d2_54 rfl (fun hq21 Wq20 => ?_)
  have Fq22 := Fq18.same Wq20
  refine Rn.retV rfl d2_57 (Nat.le_of_ble_eq_true rfl) (Nat.le_of_ble_eq_true rfl) ?_
  have Fq23 := Fq19.wr Wq20
  have Fq24 := Fq16.other Wq20 (Or.inr (slot_ne (t := .byte) (t' := (.array .byte)) (Or.inr (hw _ (List.mem_of_getElem? (i := 22) rfl))) (Or.inr (hw _ (List.mem_of_getElem? (i := 21) rfl))) (by decide) (by decide) (by decide)))
  have Fq25 := At.other Wq14 (Ne.symm nt)
  have Fq26 := Fq25.other Wq20 (Ne.symm nt)
  exact ⟨rfl, t, ⟨Fq23, Fq24, Fq22, Fq26⟩⟩
theorem d1_0 : decode jdk_42_method_3_code 0 = .ok (.aload_n 0, 1) := by decide +kernel
theorem d1_1 : decode jdk_42_method_3_code 1 = .ok (.aload_n 1, 1) := by decide +kernel
theorem d1_2 : decode jdk_42_method_3_code 2 = .ok (.iconst 0, 1) := by decide +kernel
theorem d1_3 : decode jdk_42_method_3_code 3 = .ok (.aload_n 1, 1) := by decide +kernel
theorem d1_4 : decode jdk_42_method_3_code 4 = .ok (.arraylength, 1) := by decide +kernel
theorem d1_5 : decode jdk_42_method_3_code 5 = .ok (.aconst_null, 1) := by decide +kernel
theorem d1_6 : decode jdk_42_method_3_code 6 = .ok (.invokespecial 27, 3) := by decide +kernel
theorem d1_9 : decode jdk_42_method_3_code 9 = .ok (.return_, 1) := by decide +kernel
set_option maxRecDepth 65536 in
set_option maxHeartbeats 40000000 in
theorem ct_sx1_0 (Z : State) (a0 : Array Value) (hw : ∀ d ∈ tables_1, d.before a0 Z = true) (x : Addr) (src : Addr) (c0 : Int32)  (hq : 255 < c0) (hC0 : own_C c0) (h0 : Heap) (E : Exa Z h0 x "java/lang/String") (V : Fld Z h0 x "java/lang/String" "value" "[B" .null) (Co : Fld Z h0 x "java/lang/String" "coder" "B" (.int (0 : Int32))) (A : Ax Z h0 src .char [.int c0]) (hn : src ≠ x) (z : Int32) (hz : z ≠ 0) (S : Sta Z Z.heap "java/lang/String" "COMPACT_STRINGS" "Z" (.int z)) (UA : Sta Z Z.heap "java/lang/StringUTF16" "$assertionsDisabled" "Z" (.int (1 : Int32))) (UH : Sta Z Z.heap "java/lang/StringUTF16" "HI_BYTE_SHIFT" "I" (.int (0 : Int32))) (UL : Sta Z Z.heap "java/lang/StringUTF16" "LO_BYTE_SHIFT" "I" (.int (8 : Int32))) :
    Ct Z ⟨"java/lang/String", "<init>", "([C)V"⟩ jdk_42_method_3_code 2 (Option.none : Option FieldType) ({ frames := 5, cells := 2, slots := 3, locals := 74 } : Room) #[(.ref x), (.ref src)] h0 [x] (fun v h => v = none ∧ ∃ t, Su Z h x t [.int (b8 c0), .int (b8 (own_hi c0))]) := by
  refine Ct.intro (Ls := #[.val (.ref x), .val (.ref src)]) (plainFor_of_name pn_4) (by intro m; first | (simp [entryFrame, mkF, argsToLocals, Value.category]; done) | rfl) ?_
  refine Rn.aloadN (pc' := 1) d1_0 rfl rfl rfl ?_
  refine Rn.aloadN (pc' := 2) d1_1 rfl rfl rfl ?_
  refine Rn.iconst (pc' := 3) (v := (0 : Int32)) d1_2 rfl rfl ?_
  refine Rn.aloadN (pc' := 4) d1_3 rfl rfl rfl ?_
  refine Rn.arraylength (pc' := 5) (n := (1 : Int32)) A rfl d1_4 rfl ?_
  refine Rn.aconst_null (pc' := 6) d1_5 rfl ?_
  refine Rn.callI (pc' := 9) (argsL := [.ref src, .int (0 : Int32), .int (1 : Int32), .null]) (a := x) (rest := []) (ct_siw1_0 Z a0 hw x src c0 hq hC0 h0 E V Co A hn z hz S UA UH UL) rfl (hw _ (List.mem_of_getElem? (i := 12) rfl)) (hw _ (List.mem_of_getElem? (i := 13) rfl)) (hw _ (List.mem_of_getElem? (i := 7) rfl)) (hw _ (List.mem_of_getElem? (i := 15) rfl)) (by decide) rfl rfl (lenOf pd_7 rfl) rfl d1_6 rfl (Nat.le_of_ble_eq_true rfl) (Nat.le_of_ble_eq_true rfl) (Nat.le_of_ble_eq_true rfl) (Nat.le_of_ble_eq_true rfl) (allS (Or.inl (List.mem_of_getElem? (i := 0) rfl)) all0) (allS Sf.no (all0)) (fun vq1 hq2 Kq3 qq4 => ?_)
  obtain ⟨rfl, t, G⟩ := qq4
  simp only [Option.toList, List.cons_append, List.nil_append]
  refine Rn.retV rfl d1_9 (Nat.le_of_ble_eq_true rfl) (Nat.le_of_ble_eq_true rfl) ?_
  exact ⟨rfl, t, G⟩
set_option maxRecDepth 65536 in
set_option maxHeartbeats 40000000 in
theorem ct_cmpb1 (Z : State) (a0 : Array Value) (hw : ∀ d ∈ tables_1, d.before a0 Z = true) (src t : Addr) (c0 : Int32) (hp0 : ¬ 255 < c0) (h0 : Heap) (A : Ax Z h0 src .char [.int c0]) (B : Ax Z h0 t .byte [.int (0 : Int32)]) (hn : src ≠ t) :
    Ct Z ⟨"java/lang/StringUTF16", "compress", "([CI[BII)I"⟩ jdk_52_method_21_code 7 (Option.some FieldType.int) ({ frames := 0, cells := 0, slots := 0, locals := 0 } : Room) #[(.ref src), (.int (0 : Int32)), (.ref t), (.int (0 : Int32)), (.int (1 : Int32))] h0 [t] (fun v h => v = some (.int (1 : Int32)) ∧ Ax Z h t .byte [.int (b8 c0)]) := by
  refine Ct.intro (Ls := #[.val (.ref src), .val (.int (0 : Int32)), .val (.ref t), .val (.int (0 : Int32)), .val (.int (1 : Int32)), .unset, .unset]) (plainFor_of_name pn_3) (by intro m; first | (simp [entryFrame, mkF, argsToLocals, Value.category]; done) | rfl) ?_
  refine Rn.iconst (pc' := 1) (v := (0 : Int32)) d15_0 rfl rfl ?_
  refine Rn.istore (pc' := 3) (Ls' := #[.val (.ref src), .val (.int (0 : Int32)), .val (.ref t), .val (.int (0 : Int32)), .val (.int (1 : Int32)), .val (.int (0 : Int32)), .unset]) d15_1 rfl rfl ?_
  refine Rn.iload (pc' := 5) d15_3 rfl rfl ?_
  refine Rn.iload (pc' := 7) d15_5 rfl rfl ?_
  refine Rn.icmp_ge (pc' := 44) (pn := 10) d15_7 (by decide) (by decide) rfl (fun cq1 => absurd cq1 (by decide)) (fun cq1 => ?_)
  refine Rn.aloadN (pc' := 11) d15_10 rfl rfl rfl ?_
  refine Rn.iloadN (pc' := 12) d15_11 rfl rfl ?_
  refine Rn.caload (pc' := 13) (v := .int c0) A (by decide) rfl d15_12 rfl ?_
  refine Rn.istore (pc' := 15) (Ls' := #[.val (.ref src), .val (.int (0 : Int32)), .val (.ref t), .val (.int (0 : Int32)), .val (.int (1 : Int32)), .val (.int (0 : Int32)), .val (.int c0)]) d15_13 rfl rfl ?_
  refine Rn.iload (pc' := 17) d15_15 rfl rfl ?_
  refine Rn.sipush (pc' := 20) (v := (255 : Int32)) d15_17 rfl rfl ?_
  refine Rn.icmp_le (pc' := 26) (pn := 23) d15_20 (by decide) (by decide) rfl (fun cq2 => ?_) (fun cq2 => absurd cq2 hp0)
  refine Rn.aloadN (pc' := 27) d15_26 rfl rfl rfl ?_
  refine Rn.iloadN (pc' := 28) d15_27 rfl rfl ?_
  refine Rn.iload (pc' := 30) d15_28 rfl rfl ?_
  refine Rn.i2b (pc' := 31) (v := (b8 c0)) d15_30 rfl rfl ?_
  refine Rn.bastore (pc' := 32) (v := .int (b8 c0)) B (by decide) (Nat.le_of_ble_eq_true rfl) (congrArg Value.int (nar_b8 c0)) (Or.inl (List.mem_of_getElem? (i := 0) rfl)) Sf.no d15_31 rfl (fun hq4 Wq3 Aq5 => ?_)
  have Aq6 : Ax Z hq4 t .byte ([.int (b8 c0)]) := Aq5
  refine Rn.iinc (pc' := 35) (v := (1 : Int32)) (Ls' := #[.val (.ref src), .val (.int (1 : Int32)), .val (.ref t), .val (.int (0 : Int32)), .val (.int (1 : Int32)), .val (.int (0 : Int32)), .val (.int c0)]) d15_32 rfl rfl rfl rfl ?_
  refine Rn.iinc (pc' := 38) (v := (1 : Int32)) (Ls' := #[.val (.ref src), .val (.int (1 : Int32)), .val (.ref t), .val (.int (1 : Int32)), .val (.int (1 : Int32)), .val (.int (0 : Int32)), .val (.int c0)]) d15_35 rfl rfl rfl rfl ?_
  refine Rn.iinc (pc' := 41) (v := (1 : Int32)) (Ls' := #[.val (.ref src), .val (.int (1 : Int32)), .val (.ref t), .val (.int (1 : Int32)), .val (.int (1 : Int32)), .val (.int (1 : Int32)), .val (.int c0)]) d15_38 rfl rfl rfl rfl ?_
  refine Rn.goto (pc' := 3) d15_41 (by decide) (by decide) ?_
  refine Rn.iload (pc' := 5) d15_3 rfl rfl ?_
  refine Rn.iload (pc' := 7) d15_5 rfl rfl ?_
  refine Rn.icmp_ge (pc' := 44) (pn := 10) d15_7 (by decide) (by decide) rfl (fun cq7 => ?_) (fun cq7 => absurd cq7 (by decide))
  refine Rn.iload (pc' := 46) d15_44 rfl rfl ?_
  refine Rn.retI rfl d15_46 (Nat.le_of_ble_eq_true rfl) (Nat.le_of_ble_eq_true rfl) ?_
  exact ⟨rfl, Aq6⟩
set_option maxRecDepth 65536 in
set_option maxHeartbeats 40000000 in
theorem ct_cmpa1 (Z : State) (a0 : Array Value) (hw : ∀ d ∈ tables_1, d.before a0 Z = true) (src : Addr) (c0 : Int32) (hp0 : ¬ 255 < c0) (h0 : Heap) (A : Ax Z h0 src .char [.int c0]) :
    Ct Z ⟨"java/lang/StringUTF16", "compress", "([CII)[B"⟩ jdk_52_method_16_code 6 (Option.some (FieldType.array FieldType.byte)) ({ frames := 1, cells := 1, slots := 1, locals := 18 } : Room) #[(.ref src), (.int (0 : Int32)), (.int (1 : Int32))] h0 [] (fun v h => ∃ t, v = some (.ref t) ∧ h0.size ≤ t ∧ Ax Z h t .byte [.int (b8 c0)]) := by
  refine Ct.intro (Ls := #[.val (.ref src), .val (.int (0 : Int32)), .val (.int (1 : Int32)), .unset, .unset, .unset]) (plainFor_of_name pn_3) (by intro m; first | (simp [entryFrame, mkF, argsToLocals, Value.category]; done) | rfl) ?_
  refine Rn.iloadN (pc' := 1) d14_0 rfl rfl ?_
  refine Rn.newP (pc' := 3) (cap := 1) (ty := .byte) (ad := "[B") (hw _ (List.mem_of_getElem? (i := 20) rfl)) rfl rfl d14_1 (by decide) (Nat.le_of_ble_eq_true rfl) (by decide) (Nat.le_of_ble_eq_true rfl) (Nat.le_of_ble_eq_true rfl) rfl (fun hq2 aq1 eq3 gq4 Eq5 ⟨Aq6, Bq7⟩ => ?_)
  have nq8 : src ≠ aq1 := by rw [eq3]; exact Nat.ne_of_lt (A.lt)
  have Aq9 : Ax Z hq2 aq1 .byte ([.int (0 : Int32)]) := Aq6
  refine Rn.astoreN (pc' := 4) (Ls' := #[.val (.ref src), .val (.int (0 : Int32)), .val (.int (1 : Int32)), .val (.ref aq1), .unset, .unset]) d14_3 rfl rfl rfl ?_
  refine Rn.aloadN (pc' := 5) d14_4 rfl rfl rfl ?_
  refine Rn.iloadN (pc' := 6) d14_5 rfl rfl ?_
  refine Rn.aloadN (pc' := 7) d14_6 rfl rfl rfl ?_
  refine Rn.iconst (pc' := 8) (v := (0 : Int32)) d14_7 rfl rfl ?_
  refine Rn.iloadN (pc' := 9) d14_8 rfl rfl ?_
  have Fq10 := A.ext Eq5
  refine Rn.callS (pc' := 12) (argsL := [.ref src, .int (0 : Int32), .ref aq1, .int (0 : Int32), .int (1 : Int32)]) (rest := []) (ct_cmpb1 Z a0 hw src aq1 c0 hp0 hq2 Fq10 Aq9 nq8) (hw _ (List.mem_of_getElem? (i := 75) rfl)) (hw _ (List.mem_of_getElem? (i := 76) rfl)) (hw _ (List.mem_of_getElem? (i := 73) rfl)) (hw _ (List.mem_of_getElem? (i := 77) rfl)) (by decide) rfl rfl (lenOf pd_3 rfl) rfl d14_9 rfl (Nat.le_of_ble_eq_true rfl) (Nat.le_of_ble_eq_true rfl) (Nat.le_of_ble_eq_true rfl) (Nat.le_of_ble_eq_true rfl) (allS (Or.inr gq4) all0) (allS Sf.no (all0)) (fun vq11 hq12 Kq13 qq14 => ?_)
  obtain ⟨rfl, At⟩ := qq14
  simp only [Option.toList, List.cons_append, List.nil_append]
  refine Rn.istore (pc' := 14) (Ls' := #[.val (.ref src), .val (.int (0 : Int32)), .val (.int (1 : Int32)), .val (.ref aq1), .val (.int (1 : Int32)), .unset]) d14_12 rfl rfl ?_
  refine Rn.iload (pc' := 16) d14_14 rfl rfl ?_
  refine Rn.iloadN (pc' := 17) d14_16 rfl rfl ?_
  refine Rn.icmp_eq (pc' := 57) (pn := 20) d14_17 (by decide) (by decide) rfl (fun cq15 => ?_) (fun cq15 => absurd cq15 (by decide))
  refine Rn.aloadN (pc' := 58) d14_57 rfl rfl rfl ?_
  refine Rn.retA (t := (.array .byte)) rfl rfl rfl d14_58 (Nat.le_of_ble_eq_true rfl) (Nat.le_of_ble_eq_true rfl) ?_
  exact ⟨_, rfl, gq4, At⟩
set_option maxRecDepth 65536 in
set_option maxHeartbeats 40000000 in
theorem ct_cod1 (Z : State) (a0 : Array Value) (hw : ∀ d ∈ tables_1, d.before a0 Z = true) (t : Addr) (c0 : Int32) (h0 : Heap) (A : Ax Z h0 t .byte [.int (b8 c0)]) :
    Ct Z ⟨"java/lang/StringUTF16", "coderFromArrayLen", "([BI)B"⟩ jdk_52_method_15_code 2 (Option.some FieldType.byte) ({ frames := 0, cells := 0, slots := 0, locals := 0 } : Room) #[(.ref t), (.int (1 : Int32))] h0 [] (fun v h => v = some (.int (0 : Int32)) ∧ h0 = h) := by
  refine Ct.intro (Ls := #[.val (.ref t), .val (.int (1 : Int32))]) (plainFor_of_name pn_3) (by intro m; first | (simp [entryFrame, mkF, argsToLocals, Value.category]; done) | rfl) ?_
  refine Rn.iloadN (pc' := 1) d16_0 rfl rfl ?_
  refine Rn.aloadN (pc' := 2) d16_1 rfl rfl rfl ?_
  refine Rn.arraylength (pc' := 3) (n := (1 : Int32)) A rfl d16_2 rfl ?_
  refine Rn.isub (pc' := 4) (v := (0 : Int32)) d16_3 rfl rfl ?_
  refine Rn.bipush (pc' := 6) (v := (31 : Int32)) d16_4 rfl rfl ?_
  refine Rn.iushr (pc' := 7) (v := (0 : Int32)) d16_6 rfl rfl ?_
  refine Rn.i2b (pc' := 8) (v := (0 : Int32)) d16_7 rfl rfl ?_
  refine Rn.retN (t := .byte) rfl (by simp) d16_8 (Nat.le_of_ble_eq_true rfl) (Nat.le_of_ble_eq_true rfl) ?_
  exact ⟨rfl, rfl⟩
set_option maxRecDepth 65536 in
set_option maxHeartbeats 40000000 in
theorem ct_siv1 (Z : State) (a0 : Array Value) (hw : ∀ d ∈ tables_1, d.before a0 Z = true) (x src : Addr) (c0 : Int32) (hp0 : ¬ 255 < c0) (z : Int32) (hz : z ≠ 0) (h0 : Heap) (E : Exa Z h0 x "java/lang/String") (V : Fld Z h0 x "java/lang/String" "value" "[B" .null) (Co : Fld Z h0 x "java/lang/String" "coder" "B" (.int (0 : Int32))) (A : Ax Z h0 src .char [.int c0]) (hn : src ≠ x) (S : Sta Z Z.heap "java/lang/String" "COMPACT_STRINGS" "Z" (.int z)) :
    Ct Z ⟨"java/lang/String", "<init>", "([CIILjava/lang/Void;)V"⟩ jdk_42_method_149_code 6 (Option.none : Option FieldType) ({ frames := 2, cells := 1, slots := 1, locals := 36 } : Room) #[(.ref x), (.ref src), (.int (0 : Int32)), (.int (1 : Int32)), (.null)] h0 [x] (fun v h => v = none ∧ ∃ t, h0.size ≤ t ∧ Sg Z h x t [.int (b8 c0)]) := by
  refine Ct.intro (Ls := #[.val (.ref x), .val (.ref src), .val (.int (0 : Int32)), .val (.int (1 : Int32)), .val (.null), .unset]) (plainFor_of_name pn_4) (by intro m; first | (simp [entryFrame, mkF, argsToLocals, Value.category]; done) | rfl) ?_
  refine Rn.aloadN (pc' := 1) d2_0 rfl rfl rfl ?_
  refine Rn.initO (pc' := 4) (hw _ (List.mem_of_getElem? (i := 16) rfl)) (hw _ (List.mem_of_getElem? (i := 17) rfl)) (hw _ (List.mem_of_getElem? (i := 18) rfl)) rfl d2_1 (Nat.le_of_ble_eq_true rfl) (Nat.le_of_ble_eq_true rfl) rfl ?_
  refine Rn.iloadN (pc' := 5) d2_4 rfl rfl ?_
  refine Rn.if_ne (pc' := 27) (pn := 8) d2_5 (by decide) (by decide) rfl (fun cq1 => ?_) (fun cq1 => absurd cq1 (by decide))
  refine Rn.old fun Oq2 _ => ?_
  refine Rn.getS (pc' := 30) (hw _ (List.mem_of_getElem? (i := 46) rfl)) Via.refl (S.ext Oq2) d2_27 rfl ?_
  refine Rn.if_eq (pc' := 58) (pn := 33) d2_30 (by decide) (by decide) rfl (fun cq3 => absurd cq3 hz) (fun cq3 => ?_)
  refine Rn.aloadN (pc' := 34) d2_33 rfl rfl rfl ?_
  refine Rn.iloadN (pc' := 35) d2_34 rfl rfl ?_
  refine Rn.iloadN (pc' := 36) d2_35 rfl rfl ?_
  refine Rn.callS (pc' := 39) (argsL := [.ref src, .int (0 : Int32), .int (1 : Int32)]) (rest := []) (ct_cmpa1 Z a0 hw src c0 hp0 h0 A) (hw _ (List.mem_of_getElem? (i := 71) rfl)) (hw _ (List.mem_of_getElem? (i := 72) rfl)) (hw _ (List.mem_of_getElem? (i := 73) rfl)) (hw _ (List.mem_of_getElem? (i := 74) rfl)) (by decide) rfl rfl (lenOf pd_4 rfl) rfl d2_36 rfl (Nat.le_of_ble_eq_true rfl) (Nat.le_of_ble_eq_true rfl) (Nat.le_of_ble_eq_true rfl) (Nat.le_of_ble_eq_true rfl) (fun _ z => nomatch z) (fun _ z => nomatch z) (fun vq4 hq5 Kq6 qq7 => ?_)
  obtain ⟨t, rfl, ht, At⟩ := qq7
  simp only [Option.toList, List.cons_append, List.nil_append]
  have Fq8 := E.keep Kq6
  have nt_x : x ≠ t := Nat.ne_of_lt (Nat.lt_of_lt_of_le E.lt ht)
  have Fq9 := A.keep Kq6 nin0
  have nt_src : src ≠ t := Nat.ne_of_lt (Nat.lt_of_lt_of_le A.lt ht)
  refine Rn.astore (pc' := 41) (Ls' := #[.val (.ref x), .val (.ref src), .val (.int (0 : Int32)), .val (.int (1 : Int32)), .val (.null), .val (.ref t)]) d2_39 rfl rfl rfl ?_
  refine Rn.aloadN (pc' := 42) d2_41 rfl rfl rfl ?_
  refine Rn.aload (pc' := 44) d2_42 rfl rfl rfl ?_
  refine Rn.iloadN (pc' := 45) d2_44 rfl rfl ?_
  refine Rn.callS (pc' := 48) (argsL := [.ref t, .int (1 : Int32)]) (rest := [.ref x]) (ct_cod1 Z a0 hw t c0 hq5 At) (hw _ (List.mem_of_getElem? (i := 78) rfl)) (hw _ (List.mem_of_getElem? (i := 79) rfl)) (hw _ (List.mem_of_getElem? (i := 73) rfl)) (hw _ (List.mem_of_getElem? (i := 80) rfl)) (by decide) rfl rfl (lenOf pd_6 rfl) rfl d2_45 rfl (Nat.le_of_ble_eq_true rfl) (Nat.le_of_ble_eq_true rfl) (Nat.le_of_ble_eq_true rfl) (Nat.le_of_ble_eq_true rfl) (fun _ z => nomatch z) (fun _ z => nomatch z) (fun vq10 hq11 Kq12 qq13 => ?_)
  obtain ⟨rfl, rfl⟩ := qq13
  simp only [Option.toList, List.cons_append, List.nil_append]
  have Fq14 := Co.keep Kq6 nin0
  refine Rn.putF (pc' := 51) (hw _ (List.mem_of_getElem? (i := 26) rfl)) Via.refl Fq14 Fq8 (Or.inr ⟨(hw _ (List.mem_of_getElem? (i := 22) rfl)), rfl, rfl⟩) (hw _ (List.mem_of_getElem? (i := 6) rfl)) (ty := .byte) (by decide) rfl rfl (Or.inl (List.mem_of_getElem? (i := 0) rfl)) Sf.no d2_48 rfl (fun hq16 Wq15 => ?_)
  have Fq17 := Fq14.same Wq15
  refine Rn.aloadN (pc' := 52) d2_51 rfl rfl rfl ?_
  refine Rn.aload (pc' := 54) d2_52 rfl rfl rfl ?_
  have Fq18 := V.keep Kq6 nin0
  have Fq19 := Fq18.other Wq15 (Or.inr (slot_ne (t := (.array .byte)) (t' := .byte) (Or.inr (hw _ (List.mem_of_getElem? (i := 21) rfl))) (Or.inr (hw _ (List.mem_of_getElem? (i := 22) rfl))) (by decide) (by decide) (by decide)))
  have Fq20 := Fq8.wr Wq15
  refine Rn.putF (pc' := 57) (hw _ (List.mem_of_getElem? (i := 25) rfl)) Via.refl Fq19 Fq20 (Or.inr ⟨(hw _ (List.mem_of_getElem? (i := 21) rfl)), rfl, rfl⟩) (hw _ (List.mem_of_getElem? (i := 6) rfl)) (ty := (.array .byte)) (by decide) rfl rfl (Or.inl (List.mem_of_getElem? (i := 0) rfl)) Sf.no d2_54 rfl (fun hq22 Wq21 => ?_)
  have Fq23 := Fq19.same Wq21
  refine Rn.retV rfl d2_57 (Nat.le_of_ble_eq_true rfl) (Nat.le_of_ble_eq_true rfl) ?_
  have Fq24 := Fq20.wr Wq21
  have Fq25 := Fq17.other Wq21 (Or.inr (slot_ne (t := .byte) (t' := (.array .byte)) (Or.inr (hw _ (List.mem_of_getElem? (i := 22) rfl))) (Or.inr (hw _ (List.mem_of_getElem? (i := 21) rfl))) (by decide) (by decide) (by decide)))
  have Fq26 := At.other Wq15 (Ne.symm nt_x)
  have Fq27 := Fq26.other Wq21 (Ne.symm nt_x)
  exact ⟨rfl, t, ht, Fq24, Fq25, Fq23, Fq27⟩
set_option maxRecDepth 65536 in
set_option maxHeartbeats 40000000 in
theorem ct_sl1 (Z : State) (a0 : Array Value) (hw : ∀ d ∈ tables_1, d.before a0 Z = true) (x src : Addr) (c0 : Int32) (hp0 : ¬ 255 < c0) (h0 : Heap) (E : Exa Z h0 x "java/lang/String") (V : Fld Z h0 x "java/lang/String" "value" "[B" .null) (Co : Fld Z h0 x "java/lang/String" "coder" "B" (.int (0 : Int32))) (A : Ax Z h0 src .char [.int c0]) (hn : src ≠ x) (z : Int32) (hz : z ≠ 0) (S : Sta Z Z.heap "java/lang/String" "COMPACT_STRINGS" "Z" (.int z)) :
    Ct Z ⟨"java/lang/String", "<init>", "([C)V"⟩ jdk_42_method_3_code 2 (Option.none : Option FieldType) ({ frames := 5, cells := 2, slots := 3, locals := 74 } : Room) #[(.ref x), (.ref src)] h0 [x] (fun v h => v = none ∧ ∃ t, Sg Z h x t [.int (b8 c0)]) := by
  refine Ct.intro (Ls := #[.val (.ref x), .val (.ref src)]) (plainFor_of_name pn_4) (by intro m; first | (simp [entryFrame, mkF, argsToLocals, Value.category]; done) | rfl) ?_
  refine Rn.aloadN (pc' := 1) d1_0 rfl rfl rfl ?_
  refine Rn.aloadN (pc' := 2) d1_1 rfl rfl rfl ?_
  refine Rn.iconst (pc' := 3) (v := (0 : Int32)) d1_2 rfl rfl ?_
  refine Rn.aloadN (pc' := 4) d1_3 rfl rfl rfl ?_
  refine Rn.arraylength (pc' := 5) (n := (1 : Int32)) A rfl d1_4 rfl ?_
  refine Rn.aconst_null (pc' := 6) d1_5 rfl ?_
  refine Rn.callI (pc' := 9) (argsL := [.ref src, .int (0 : Int32), .int (1 : Int32), .null]) (a := x) (rest := []) (ct_siv1 Z a0 hw x src c0 hp0 z hz h0 E V Co A hn S) rfl (hw _ (List.mem_of_getElem? (i := 12) rfl)) (hw _ (List.mem_of_getElem? (i := 13) rfl)) (hw _ (List.mem_of_getElem? (i := 7) rfl)) (hw _ (List.mem_of_getElem? (i := 15) rfl)) (by decide) rfl rfl (lenOf pd_7 rfl) rfl d1_6 rfl (Nat.le_of_ble_eq_true rfl) (Nat.le_of_ble_eq_true rfl) (Nat.le_of_ble_eq_true rfl) (Nat.le_of_ble_eq_true rfl) (allS (Or.inl (List.mem_of_getElem? (i := 0) rfl)) all0) (allS Sf.no (all0)) (fun vq1 hq2 Kq3 qq4 => ?_)
  obtain ⟨rfl, t, ht, G⟩ := qq4
  simp only [Option.toList, List.cons_append, List.nil_append]
  refine Rn.retV rfl d1_9 (Nat.le_of_ble_eq_true rfl) (Nat.le_of_ble_eq_true rfl) ?_
  exact ⟨rfl, t, G⟩
def own_S1 (Z : State) (h : Heap) (x : Addr) (c0 : Int32) : Prop := ∃ t, ((¬ 255 < c0) ∧ Sg Z h x t [.int (b8 c0)]) ∨ Su Z h x t [.int (b8 c0), .int (b8 (own_hi c0))]
theorem ct_s1 (Z : State) (a0 : Array Value) (hw : ∀ d ∈ tables_1, d.before a0 Z = true) (x src : Addr) (c0 : Int32) (hC0 : own_C c0) (h0 : Heap) (E : Exa Z h0 x "java/lang/String") (V : Fld Z h0 x "java/lang/String" "value" "[B" .null) (Co : Fld Z h0 x "java/lang/String" "coder" "B" (.int (0 : Int32))) (A : Ax Z h0 src .char [.int c0]) (hn : src ≠ x) (z : Int32) (hz : z ≠ 0) (S : Sta Z Z.heap "java/lang/String" "COMPACT_STRINGS" "Z" (.int z)) (UA : Sta Z Z.heap "java/lang/StringUTF16" "$assertionsDisabled" "Z" (.int (1 : Int32))) (UH : Sta Z Z.heap "java/lang/StringUTF16" "HI_BYTE_SHIFT" "I" (.int (0 : Int32))) (UL : Sta Z Z.heap "java/lang/StringUTF16" "LO_BYTE_SHIFT" "I" (.int (8 : Int32))) :
    Ct Z ⟨"java/lang/String", "<init>", "([C)V"⟩ jdk_42_method_3_code 2 (Option.none : Option FieldType) ({ frames := 5, cells := 2, slots := 3, locals := 74 } : Room) #[(.ref x), (.ref src)] h0 [x] (fun v h => v = none ∧ own_S1 Z h x c0) := by
  by_cases hp0 : 255 < c0
  · exact (ct_sx1_0 Z a0 hw x src c0 hp0 hC0 h0 E V Co A hn z hz S UA UH UL).weaken (fun v h _ q => ⟨q.1, q.2.elim fun t g => ⟨t, Or.inr g⟩⟩)
  exact (ct_sl1 Z a0 hw x src c0 hp0 h0 E V Co A hn z hz S).weaken (fun v h _ q => ⟨q.1, q.2.elim fun t g => ⟨t, Or.inl ⟨hp0, g⟩⟩⟩)
set_option maxRecDepth 65536 in
set_option maxHeartbeats 40000000 in
theorem ct_nbl2 (Z : State) (a0 : Array Value) (hw : ∀ d ∈ tables_1, d.before a0 Z = true) (h0 : Heap) :
    Ct Z ⟨"java/lang/StringUTF16", "newBytesLength", "(I)I"⟩ jdk_52_method_3_code 1 (Option.some FieldType.int) ({ frames := 0, cells := 0, slots := 0, locals := 0 } : Room) #[(.int (2 : Int32))] h0 [] (fun v h => v = some (.int (4 : Int32)) ∧ h0 = h) := by
  refine Ct.intro (Ls := #[.val (.int (2 : Int32))]) (plainFor_of_name pn_3) (by intro m; first | (simp [entryFrame, mkF, argsToLocals, Value.category]; done) | rfl) ?_
  refine Rn.iloadN (pc' := 1) d21_0 rfl rfl ?_
  refine Rn.if_ge (pc' := 12) (pn := 4) d21_1 (by decide) (by decide) rfl (fun cq1 => ?_) (fun cq1 => absurd cq1 (by decide))
  refine Rn.iloadN (pc' := 13) d21_12 rfl rfl ?_
  refine Rn.ldcI (pc' := 15) (hw _ (List.mem_of_getElem? (i := 96) rfl)) d21_13 rfl ?_
  refine Rn.icmp_lt (pc' := 55) (pn := 18) d21_15 (by decide) (by decide) rfl (fun cq2 => ?_) (fun cq2 => absurd cq2 (by decide))
  refine Rn.iloadN (pc' := 56) d21_55 rfl rfl ?_
  refine Rn.iconst (pc' := 57) (v := (1 : Int32)) d21_56 rfl rfl ?_
  refine Rn.ishl (pc' := 58) (v := (4 : Int32)) d21_57 rfl rfl ?_
  refine Rn.retI rfl d21_58 (Nat.le_of_ble_eq_true rfl) (Nat.le_of_ble_eq_true rfl) ?_
  exact ⟨rfl, rfl⟩
set_option maxRecDepth 65536 in
set_option maxHeartbeats 40000000 in
theorem ct_nbf2 (Z : State) (a0 : Array Value) (hw : ∀ d ∈ tables_1, d.before a0 Z = true) (h0 : Heap) :
    Ct Z ⟨"java/lang/StringUTF16", "newBytesFor", "(I)[B"⟩ jdk_52_method_2_code 1 (Option.some (FieldType.array FieldType.byte)) ({ frames := 1, cells := 1, slots := 4, locals := 12 } : Room) #[(.int (2 : Int32))] h0 [] (fun v h => ∃ t, v = some (.ref t) ∧ h0.size ≤ t ∧ Ax Z h t .byte [.int (0 : Int32), .int (0 : Int32), .int (0 : Int32), .int (0 : Int32)]) := by
  refine Ct.intro (Ls := #[.val (.int (2 : Int32))]) (plainFor_of_name pn_3) (by intro m; first | (simp [entryFrame, mkF, argsToLocals, Value.category]; done) | rfl) ?_
  refine Rn.iloadN (pc' := 1) d20_0 rfl rfl ?_
  refine Rn.callS (pc' := 4) (argsL := [.int (2 : Int32)]) (rest := []) (ct_nbl2 Z a0 hw h0) (hw _ (List.mem_of_getElem? (i := 93) rfl)) (hw _ (List.mem_of_getElem? (i := 94) rfl)) (hw _ (List.mem_of_getElem? (i := 73) rfl)) (hw _ (List.mem_of_getElem? (i := 95) rfl)) (by decide) rfl rfl (lenOf pd_0 rfl) rfl d20_1 rfl (Nat.le_of_ble_eq_true rfl) (Nat.le_of_ble_eq_true rfl) (Nat.le_of_ble_eq_true rfl) (Nat.le_of_ble_eq_true rfl) (fun _ z => nomatch z) (fun _ z => nomatch z) (fun vq1 hq2 Kq3 qq4 => ?_)
  obtain ⟨rfl, rfl⟩ := qq4
  simp only [Option.toList, List.cons_append, List.nil_append]
  refine Rn.newP (pc' := 6) (cap := 4) (ty := .byte) (ad := "[B") (hw _ (List.mem_of_getElem? (i := 20) rfl)) rfl rfl d20_4 (by decide) (Nat.le_of_ble_eq_true rfl) (by decide) (Nat.le_of_ble_eq_true rfl) (Nat.le_of_ble_eq_true rfl) rfl (fun hq6 aq5 eq7 gq8 Eq9 ⟨Aq10, Bq11⟩ => ?_)
  have Aq12 : Ax Z hq6 aq5 .byte ([.int (0 : Int32), .int (0 : Int32), .int (0 : Int32), .int (0 : Int32)]) := Aq10
  refine Rn.retA (t := (.array .byte)) rfl rfl rfl d20_6 (Nat.le_of_ble_eq_true rfl) (Nat.le_of_ble_eq_true rfl) ?_
  exact ⟨_, rfl, gq8, Aq12⟩
set_option maxRecDepth 65536 in
set_option maxHeartbeats 40000000 in
theorem ct_pch2_0 (Z : State) (a0 : Array Value) (hw : ∀ d ∈ tables_1, d.before a0 Z = true) (t : Addr) (c0 : Int32) (h0 : Heap) (A : Ax Z h0 t .byte [.int (0 : Int32), .int (0 : Int32), .int (0 : Int32), .int (0 : Int32)]) (UA : Sta Z Z.heap "java/lang/StringUTF16" "$assertionsDisabled" "Z" (.int (1 : Int32))) (UH : Sta Z Z.heap "java/lang/StringUTF16" "HI_BYTE_SHIFT" "I" (.int (0 : Int32))) (UL : Sta Z Z.heap "java/lang/StringUTF16" "LO_BYTE_SHIFT" "I" (.int (8 : Int32))) :
    Ct Z ⟨"java/lang/StringUTF16", "putChar", "([BII)V"⟩ jdk_52_method_4_code 3 (Option.none : Option FieldType) ({ frames := 0, cells := 0, slots := 0, locals := 0 } : Room) #[(.ref t), (.int (0 : Int32)), (.int c0)] h0 [t] (fun v h => v = none ∧ Ax Z h t .byte [.int (b8 c0), .int (b8 (own_hi c0)), .int (0 : Int32), .int (0 : Int32)]) := by
  refine Ct.intro (Ls := #[.val (.ref t), .val (.int (0 : Int32)), .val (.int c0)]) (plainFor_of_name pn_3) (by intro m; first | (simp [entryFrame, mkF, argsToLocals, Value.category]; done) | rfl) ?_
  refine Rn.old fun Oq1 _ => ?_
  refine Rn.getS (pc' := 3) (hw _ (List.mem_of_getElem? (i := 100) rfl)) Via.refl (UA.ext Oq1) d22_0 rfl ?_
  refine Rn.if_ne (pc' := 28) (pn := 6) d22_3 (by decide) (by decide) rfl (fun cq2 => ?_) (fun cq2 => absurd cq2 (by decide))
  refine Rn.iloadN (pc' := 29) d22_28 rfl rfl ?_
  refine Rn.iconst (pc' := 30) (v := (1 : Int32)) d22_29 rfl rfl ?_
  refine Rn.ishl (pc' := 31) (v := (0 : Int32)) d22_30 rfl rfl ?_
  refine Rn.istoreN (pc' := 32) (Ls' := #[.val (.ref t), .val (.int (0 : Int32)), .val (.int c0)]) d22_31 rfl rfl ?_
  refine Rn.aloadN (pc' := 33) d22_32 rfl rfl rfl ?_
  refine Rn.iloadN (pc' := 34) d22_33 rfl rfl ?_
  refine Rn.iinc (pc' := 37) (v := (1 : Int32)) (Ls' := #[.val (.ref t), .val (.int (1 : Int32)), .val (.int c0)]) d22_34 rfl rfl rfl rfl ?_
  refine Rn.iloadN (pc' := 38) d22_37 rfl rfl ?_
  refine Rn.old fun Oq3 _ => ?_
  refine Rn.getS (pc' := 41) (hw _ (List.mem_of_getElem? (i := 101) rfl)) Via.refl (UH.ext Oq3) d22_38 rfl ?_
  refine Rn.ishr (pc' := 42) (v := c0) d22_41 (own_shr0 _) rfl ?_
  refine Rn.i2b (pc' := 43) (v := (b8 c0)) d22_42 rfl rfl ?_
  refine Rn.bastore (pc' := 44) (v := .int (b8 c0)) A (by decide) (Nat.le_of_ble_eq_true rfl) (congrArg Value.int (nar_b8 c0)) (Or.inl (List.mem_of_getElem? (i := 0) rfl)) Sf.no d22_43 rfl (fun hq5 Wq4 Aq6 => ?_)
  have Aq7 : Ax Z hq5 t .byte ([.int (b8 c0), .int (0 : Int32), .int (0 : Int32), .int (0 : Int32)]) := Aq6
  refine Rn.aloadN (pc' := 45) d22_44 rfl rfl rfl ?_
  refine Rn.iloadN (pc' := 46) d22_45 rfl rfl ?_
  refine Rn.iloadN (pc' := 47) d22_46 rfl rfl ?_
  refine Rn.old fun Oq8 _ => ?_
  refine Rn.getS (pc' := 50) (hw _ (List.mem_of_getElem? (i := 102) rfl)) Via.refl (UL.ext Oq8) d22_47 rfl ?_
  refine Rn.ishr (pc' := 51) (v := (own_hi c0)) d22_50 rfl rfl ?_
  refine Rn.i2b (pc' := 52) (v := (b8 (own_hi c0))) d22_51 rfl rfl ?_
  refine Rn.bastore (pc' := 53) (v := .int (b8 (own_hi c0))) Aq7 (by decide) (Nat.le_of_ble_eq_true rfl) (congrArg Value.int (nar_b8 (own_hi c0))) (Or.inl (List.mem_of_getElem? (i := 0) rfl)) Sf.no d22_52 rfl (fun hq10 Wq9 Aq11 => ?_)
  have Aq12 : Ax Z hq10 t .byte ([.int (b8 c0), .int (b8 (own_hi c0)), .int (0 : Int32), .int (0 : Int32)]) := Aq11
  refine Rn.retV rfl d22_53 (Nat.le_of_ble_eq_true rfl) (Nat.le_of_ble_eq_true rfl) ?_
  exact ⟨rfl, Aq12⟩
set_option maxRecDepth 65536 in
set_option maxHeartbeats 40000000 in
theorem ct_gch2_0 (Z : State) (a0 : Array Value) (hw : ∀ d ∈ tables_1, d.before a0 Z = true) (t : Addr) (c0 c1 : Int32) (hC : own_C c0) (h0 : Heap) (A : Ax Z h0 t .byte [.int (b8 c0), .int (b8 (own_hi c0)), .int (b8 c1), .int (b8 (own_hi c1))]) (UA : Sta Z Z.heap "java/lang/StringUTF16" "$assertionsDisabled" "Z" (.int (1 : Int32))) (UH : Sta Z Z.heap "java/lang/StringUTF16" "HI_BYTE_SHIFT" "I" (.int (0 : Int32))) (UL : Sta Z Z.heap "java/lang/StringUTF16" "LO_BYTE_SHIFT" "I" (.int (8 : Int32))) :
    Ct Z ⟨"java/lang/StringUTF16", "getChar", "([BI)C"⟩ jdk_52_method_5_code 2 (Option.some FieldType.char) ({ frames := 0, cells := 0, slots := 0, locals := 0 } : Room) #[(.ref t), (.int (0 : Int32))] h0 [] (fun v h => v = some (.int c0) ∧ h0 = h) := by
  refine Ct.intro (Ls := #[.val (.ref t), .val (.int (0 : Int32))]) (plainFor_of_name pn_3) (by intro m; first | (simp [entryFrame, mkF, argsToLocals, Value.category]; done) | rfl) ?_
  refine Rn.old fun Oq1 _ => ?_
  refine Rn.getS (pc' := 3) (hw _ (List.mem_of_getElem? (i := 100) rfl)) Via.refl (UA.ext Oq1) d23_0 rfl ?_
  refine Rn.if_ne (pc' := 28) (pn := 6) d23_3 (by decide) (by decide) rfl (fun cq2 => ?_) (fun cq2 => absurd cq2 (by decide))
  refine Rn.iloadN (pc' := 29) d23_28 rfl rfl ?_
  refine Rn.iconst (pc' := 30) (v := (1 : Int32)) d23_29 rfl rfl ?_
  refine Rn.ishl (pc' := 31) (v := (0 : Int32)) d23_30 rfl rfl ?_
  refine Rn.istoreN (pc' := 32) (Ls' := #[.val (.ref t), .val (.int (0 : Int32))]) d23_31 rfl rfl ?_
  refine Rn.aloadN (pc' := 33) d23_32 rfl rfl rfl ?_
  refine Rn.iloadN (pc' := 34) d23_33 rfl rfl ?_
  refine Rn.iinc (pc' := 37) (v := (1 : Int32)) (Ls' := #[.val (.ref t), .val (.int (1 : Int32))]) d23_34 rfl rfl rfl rfl ?_
  refine Rn.baload (pc' := 38) (v := .int (b8 c0)) A (by decide) rfl d23_37 rfl ?_
  refine Rn.sipush (pc' := 41) (v := (255 : Int32)) d23_38 rfl rfl ?_
  refine Rn.iand (pc' := 42) (v := ((b8 c0) &&& (255 : Int32))) d23_41 rfl rfl ?_
  refine Rn.old fun Oq3 _ => ?_
  refine Rn.getS (pc' := 45) (hw _ (List.mem_of_getElem? (i := 101) rfl)) Via.refl (UH.ext Oq3) d23_42 rfl ?_
  refine Rn.ishl (pc' := 46) (v := (((b8 c0) &&& (255 : Int32)) <<< ((0 : Int32) &&& 31))) d23_45 rfl rfl ?_
  refine Rn.aloadN (pc' := 47) d23_46 rfl rfl rfl ?_
  refine Rn.iloadN (pc' := 48) d23_47 rfl rfl ?_
  refine Rn.baload (pc' := 49) (v := .int (b8 (own_hi c0))) A (by decide) rfl d23_48 rfl ?_
  refine Rn.sipush (pc' := 52) (v := (255 : Int32)) d23_49 rfl rfl ?_
  refine Rn.iand (pc' := 53) (v := ((b8 (own_hi c0)) &&& (255 : Int32))) d23_52 rfl rfl ?_
  refine Rn.old fun Oq4 _ => ?_
  refine Rn.getS (pc' := 56) (hw _ (List.mem_of_getElem? (i := 102) rfl)) Via.refl (UL.ext Oq4) d23_53 rfl ?_
  refine Rn.ishl (pc' := 57) (v := (((b8 (own_hi c0)) &&& (255 : Int32)) <<< ((8 : Int32) &&& 31))) d23_56 rfl rfl ?_
  refine Rn.ior (pc' := 58) (v := ((((b8 c0) &&& (255 : Int32)) <<< ((0 : Int32) &&& 31)) ||| (((b8 (own_hi c0)) &&& (255 : Int32)) <<< ((8 : Int32) &&& 31)))) d23_57 rfl rfl ?_
  refine Rn.i2c (pc' := 59) (v := c0) d23_58 (own_gc hC) rfl ?_
  refine Rn.retN (t := .char) rfl (by simp) d23_59 (Nat.le_of_ble_eq_true rfl) (Nat.le_of_ble_eq_true rfl) ?_
  exact ⟨congrArg (fun q => some (Value.int q)) hC.2, rfl⟩
set_option maxRecDepth 65536 in
set_option maxHeartbeats 40000000 in
theorem ct_pch2_1 (Z : State) (a0 : Array Value) (hw : ∀ d ∈ tables_1, d.before a0 Z = true) (t : Addr) (c0 c1 : Int32) (h0 : Heap) (A : Ax Z h0 t .byte [.int (b8 c0), .int (b8 (own_hi c0)), .int (0 : Int32), .int (0 : Int32)]) (UA : Sta Z Z.heap "java/lang/StringUTF16" "$assertionsDisabled" "Z" (.int (1 : Int32))) (UH : Sta Z Z.heap "java/lang/StringUTF16" "HI_BYTE_SHIFT" "I" (.int (0 : Int32))) (UL : Sta Z Z.heap "java/lang/StringUTF16" "LO_BYTE_SHIFT" "I" (.int (8 : Int32))) :
    Ct Z ⟨"java/lang/StringUTF16", "putChar", "([BII)V"⟩ jdk_52_method_4_code 3 (Option.none : Option FieldType) ({ frames := 0, cells := 0, slots := 0, locals := 0 } : Room) #[(.ref t), (.int (1 : Int32)), (.int c1)] h0 [t] (fun v h => v = none ∧ Ax Z h t .byte [.int (b8 c0), .int (b8 (own_hi c0)), .int (b8 c1), .int (b8 (own_hi c1))]) := by
  refine Ct.intro (Ls := #[.val (.ref t), .val (.int (1 : Int32)), .val (.int c1)]) (plainFor_of_name pn_3) (by intro m; first | (simp [entryFrame, mkF, argsToLocals, Value.category]; done) | rfl) ?_
  refine Rn.old fun Oq1 _ => ?_
  refine Rn.getS (pc' := 3) (hw _ (List.mem_of_getElem? (i := 100) rfl)) Via.refl (UA.ext Oq1) d22_0 rfl ?_
  refine Rn.if_ne (pc' := 28) (pn := 6) d22_3 (by decide) (by decide) rfl (fun cq2 => ?_) (fun cq2 => absurd cq2 (by decide))
  refine Rn.iloadN (pc' := 29) d22_28 rfl rfl ?_
  refine Rn.iconst (pc' := 30) (v := (1 : Int32)) d22_29 rfl rfl ?_
  refine Rn.ishl (pc' := 31) (v := (2 : Int32)) d22_30 rfl rfl ?_
  refine Rn.istoreN (pc' := 32) (Ls' := #[.val (.ref t), .val (.int (2 : Int32)), .val (.int c1)]) d22_31 rfl rfl ?_
  refine Rn.aloadN (pc' := 33) d22_32 rfl rfl rfl ?_
  refine Rn.iloadN (pc' := 34) d22_33 rfl rfl ?_
  refine Rn.iinc (pc' := 37) (v := (3 : Int32)) (Ls' := #[.val (.ref t), .val (.int (3 : Int32)), .val (.int c1)]) d22_34 rfl rfl rfl rfl ?_
  refine Rn.iloadN (pc' := 38) d22_37 rfl rfl ?_
  refine Rn.old fun Oq3 _ => ?_
  refine Rn.getS (pc' := 41) (hw _ (List.mem_of_getElem? (i := 101) rfl)) Via.refl (UH.ext Oq3) d22_38 rfl ?_
  refine Rn.ishr (pc' := 42) (v := c1) d22_41 (own_shr0 _) rfl ?_
  refine Rn.i2b (pc' := 43) (v := (b8 c1)) d22_42 rfl rfl ?_
  refine Rn.bastore (pc' := 44) (v := .int (b8 c1)) A (by decide) (Nat.le_of_ble_eq_true rfl) (congrArg Value.int (nar_b8 c1)) (Or.inl (List.mem_of_getElem? (i := 0) rfl)) Sf.no d22_43 rfl (fun hq5 Wq4 Aq6 => ?_)
  have Aq7 : Ax Z hq5 t .byte ([.int (b8 c0), .int (b8 (own_hi c0)), .int (b8 c1), .int (0 : Int32)]) := Aq6
  refine Rn.aloadN (pc' := 45) d22_44 rfl rfl rfl ?_
  refine Rn.iloadN (pc' := 46) d22_45 rfl rfl ?_
  refine Rn.iloadN (pc' := 47) d22_46 rfl rfl ?_
  refine Rn.old fun Oq8 _ => ?_
  refine Rn.getS (pc' := 50) (hw _ (List.mem_of_getElem? (i := 102) rfl)) Via.refl (UL.ext Oq8) d22_47 rfl ?_
  refine Rn.ishr (pc' := 51) (v := (own_hi c1)) d22_50 rfl rfl ?_
  refine Rn.i2b (pc' := 52) (v := (b8 (own_hi c1))) d22_51 rfl rfl ?_
  refine Rn.bastore (pc' := 53) (v := .int (b8 (own_hi c1))) Aq7 (by decide) (Nat.le_of_ble_eq_true rfl) (congrArg Value.int (nar_b8 (own_hi c1))) (Or.inl (List.mem_of_getElem? (i := 0) rfl)) Sf.no d22_52 rfl (fun hq10 Wq9 Aq11 => ?_)
  have Aq12 : Ax Z hq10 t .byte ([.int (b8 c0), .int (b8 (own_hi c0)), .int (b8 c1), .int (b8 (own_hi c1))]) := Aq11
  refine Rn.retV rfl d22_53 (Nat.le_of_ble_eq_true rfl) (Nat.le_of_ble_eq_true rfl) ?_
  exact ⟨rfl, Aq12⟩
set_option maxRecDepth 65536 in
set_option maxHeartbeats 40000000 in
theorem ct_gch2_1 (Z : State) (a0 : Array Value) (hw : ∀ d ∈ tables_1, d.before a0 Z = true) (t : Addr) (c0 c1 : Int32) (hC : own_C c1) (h0 : Heap) (A : Ax Z h0 t .byte [.int (b8 c0), .int (b8 (own_hi c0)), .int (b8 c1), .int (b8 (own_hi c1))]) (UA : Sta Z Z.heap "java/lang/StringUTF16" "$assertionsDisabled" "Z" (.int (1 : Int32))) (UH : Sta Z Z.heap "java/lang/StringUTF16" "HI_BYTE_SHIFT" "I" (.int (0 : Int32))) (UL : Sta Z Z.heap "java/lang/StringUTF16" "LO_BYTE_SHIFT" "I" (.int (8 : Int32))) :
    Ct Z ⟨"java/lang/StringUTF16", "getChar", "([BI)C"⟩ jdk_52_method_5_code 2 (Option.some FieldType.char) ({ frames := 0, cells := 0, slots := 0, locals := 0 } : Room) #[(.ref t), (.int (1 : Int32))] h0 [] (fun v h => v = some (.int c1) ∧ h0 = h) := by
  refine Ct.intro (Ls := #[.val (.ref t), .val (.int (1 : Int32))]) (plainFor_of_name pn_3) (by intro m; first | (simp [entryFrame, mkF, argsToLocals, Value.category]; done) | rfl) ?_
  refine Rn.old fun Oq1 _ => ?_
  refine Rn.getS (pc' := 3) (hw _ (List.mem_of_getElem? (i := 100) rfl)) Via.refl (UA.ext Oq1) d23_0 rfl ?_
  refine Rn.if_ne (pc' := 28) (pn := 6) d23_3 (by decide) (by decide) rfl (fun cq2 => ?_) (fun cq2 => absurd cq2 (by decide))
  refine Rn.iloadN (pc' := 29) d23_28 rfl rfl ?_
  refine Rn.iconst (pc' := 30) (v := (1 : Int32)) d23_29 rfl rfl ?_
  refine Rn.ishl (pc' := 31) (v := (2 : Int32)) d23_30 rfl rfl ?_
  refine Rn.istoreN (pc' := 32) (Ls' := #[.val (.ref t), .val (.int (2 : Int32))]) d23_31 rfl rfl ?_
  refine Rn.aloadN (pc' := 33) d23_32 rfl rfl rfl ?_
  refine Rn.iloadN (pc' := 34) d23_33 rfl rfl ?_
  refine Rn.iinc (pc' := 37) (v := (3 : Int32)) (Ls' := #[.val (.ref t), .val (.int (3 : Int32))]) d23_34 rfl rfl rfl rfl ?_
  refine Rn.baload (pc' := 38) (v := .int (b8 c1)) A (by decide) rfl d23_37 rfl ?_
  refine Rn.sipush (pc' := 41) (v := (255 : Int32)) d23_38 rfl rfl ?_
  refine Rn.iand (pc' := 42) (v := ((b8 c1) &&& (255 : Int32))) d23_41 rfl rfl ?_
  refine Rn.old fun Oq3 _ => ?_
  refine Rn.getS (pc' := 45) (hw _ (List.mem_of_getElem? (i := 101) rfl)) Via.refl (UH.ext Oq3) d23_42 rfl ?_
  refine Rn.ishl (pc' := 46) (v := (((b8 c1) &&& (255 : Int32)) <<< ((0 : Int32) &&& 31))) d23_45 rfl rfl ?_
  refine Rn.aloadN (pc' := 47) d23_46 rfl rfl rfl ?_
  refine Rn.iloadN (pc' := 48) d23_47 rfl rfl ?_
  refine Rn.baload (pc' := 49) (v := .int (b8 (own_hi c1))) A (by decide) rfl d23_48 rfl ?_
  refine Rn.sipush (pc' := 52) (v := (255 : Int32)) d23_49 rfl rfl ?_
  refine Rn.iand (pc' := 53) (v := ((b8 (own_hi c1)) &&& (255 : Int32))) d23_52 rfl rfl ?_
  refine Rn.old fun Oq4 _ => ?_
  refine Rn.getS (pc' := 56) (hw _ (List.mem_of_getElem? (i := 102) rfl)) Via.refl (UL.ext Oq4) d23_53 rfl ?_
  refine Rn.ishl (pc' := 57) (v := (((b8 (own_hi c1)) &&& (255 : Int32)) <<< ((8 : Int32) &&& 31))) d23_56 rfl rfl ?_
  refine Rn.ior (pc' := 58) (v := ((((b8 c1) &&& (255 : Int32)) <<< ((0 : Int32) &&& 31)) ||| (((b8 (own_hi c1)) &&& (255 : Int32)) <<< ((8 : Int32) &&& 31)))) d23_57 rfl rfl ?_
  refine Rn.i2c (pc' := 59) (v := c1) d23_58 (own_gc hC) rfl ?_
  refine Rn.retN (t := .char) rfl (by simp) d23_59 (Nat.le_of_ble_eq_true rfl) (Nat.le_of_ble_eq_true rfl) ?_
  exact ⟨congrArg (fun q => some (Value.int q)) hC.2, rfl⟩
set_option maxRecDepth 65536 in
set_option maxHeartbeats 40000000 in
theorem ct_tb2 (Z : State) (a0 : Array Value) (hw : ∀ d ∈ tables_1, d.before a0 Z = true) (src : Addr) (c0 c1 : Int32) (h0 : Heap) (A : Ax Z h0 src .char [.int c0, .int c1]) (UA : Sta Z Z.heap "java/lang/StringUTF16" "$assertionsDisabled" "Z" (.int (1 : Int32))) (UH : Sta Z Z.heap "java/lang/StringUTF16" "HI_BYTE_SHIFT" "I" (.int (0 : Int32))) (UL : Sta Z Z.heap "java/lang/StringUTF16" "LO_BYTE_SHIFT" "I" (.int (8 : Int32))) :
    Ct Z ⟨"java/lang/StringUTF16", "toBytes", "([CII)[B"⟩ jdk_52_method_14_code 5 (Option.some (FieldType.array FieldType.byte)) ({ frames := 2, cells := 1, slots := 4, locals := 24 } : Room) #[(.ref src), (.int (0 : Int32)), (.int (2 : Int32))] h0 [] (fun v h => ∃ t, v = some (.ref t) ∧ h0.size ≤ t ∧ Ax Z h t .byte [.int (b8 c0), .int (b8 (own_hi c0)), .int (b8 c1), .int (b8 (own_hi c1))]) := by
  refine Ct.intro (Ls := #[.val (.ref src), .val (.int (0 : Int32)), .val (.int (2 : Int32)), .unset, .unset]) (plainFor_of_name pn_3) (by intro m; first | (simp [entryFrame, mkF, argsToLocals, Value.category]; done) | rfl) ?_
  refine Rn.iloadN (pc' := 1) d19_0 rfl rfl ?_
  refine Rn.callS (pc' := 4) (argsL := [.int (2 : Int32)]) (rest := []) (ct_nbf2 Z a0 hw h0) (hw _ (List.mem_of_getElem? (i := 90) rfl)) (hw _ (List.mem_of_getElem? (i := 91) rfl)) (hw _ (List.mem_of_getElem? (i := 73) rfl)) (hw _ (List.mem_of_getElem? (i := 92) rfl)) (by decide) rfl rfl (lenOf pd_1 rfl) rfl d19_1 rfl (Nat.le_of_ble_eq_true rfl) (Nat.le_of_ble_eq_true rfl) (Nat.le_of_ble_eq_true rfl) (Nat.le_of_ble_eq_true rfl) (fun _ z => nomatch z) (fun _ z => nomatch z) (fun vq1 hq2 Kq3 qq4 => ?_)
  obtain ⟨t, rfl, ht, At⟩ := qq4
  simp only [Option.toList, List.cons_append, List.nil_append]
  have nt : src ≠ t := Nat.ne_of_lt (Nat.lt_of_lt_of_le A.lt ht)
  refine Rn.astoreN (pc' := 5) (Ls' := #[.val (.ref src), .val (.int (0 : Int32)), .val (.int (2 : Int32)), .val (.ref t), .unset]) d19_4 rfl rfl rfl ?_
  refine Rn.iconst (pc' := 6) (v := (0 : Int32)) d19_5 rfl rfl ?_
  refine Rn.istore (pc' := 8) (Ls' := #[.val (.ref src), .val (.int (0 : Int32)), .val (.int (2 : Int32)), .val (.ref t), .val (.int (0 : Int32))]) d19_6 rfl rfl ?_
  refine Rn.iload (pc' := 10) d19_8 rfl rfl ?_
  refine Rn.iloadN (pc' := 11) d19_10 rfl rfl ?_
  refine Rn.icmp_ge (pc' := 32) (pn := 14) d19_11 (by decide) (by decide) rfl (fun cq5 => absurd cq5 (by decide)) (fun cq5 => ?_)
  refine Rn.aloadN (pc' := 15) d19_14 rfl rfl rfl ?_
  refine Rn.iload (pc' := 17) d19_15 rfl rfl ?_
  refine Rn.aloadN (pc' := 18) d19_17 rfl rfl rfl ?_
  refine Rn.iloadN (pc' := 19) d19_18 rfl rfl ?_
  have Fq6 := A.keep Kq3 nin0
  refine Rn.caload (pc' := 20) (v := .int c0) Fq6 (by decide) rfl d19_19 rfl ?_
  refine Rn.callS (pc' := 23) (argsL := [.ref t, .int (0 : Int32), .int c0]) (rest := []) (ct_pch2_0 Z a0 hw t c0 hq2 At UA UH UL) (hw _ (List.mem_of_getElem? (i := 97) rfl)) (hw _ (List.mem_of_getElem? (i := 98) rfl)) (hw _ (List.mem_of_getElem? (i := 73) rfl)) (hw _ (List.mem_of_getElem? (i := 99) rfl)) (by decide) rfl rfl (lenOf pd_2 rfl) rfl d19_20 rfl (Nat.le_of_ble_eq_true rfl) (Nat.le_of_ble_eq_true rfl) (Nat.le_of_ble_eq_true rfl) (Nat.le_of_ble_eq_true rfl) (allS (Or.inr ht) all0) (allS Sf.no (all0)) (fun vq8 hq9 Kq10 qq11 => ?_)
  obtain ⟨rfl, Aq7⟩ := qq11
  simp only [Option.toList, List.cons_append, List.nil_append]
  refine Rn.iinc (pc' := 26) (v := (1 : Int32)) (Ls' := #[.val (.ref src), .val (.int (1 : Int32)), .val (.int (2 : Int32)), .val (.ref t), .val (.int (0 : Int32))]) d19_23 rfl rfl rfl rfl ?_
  refine Rn.iinc (pc' := 29) (v := (1 : Int32)) (Ls' := #[.val (.ref src), .val (.int (1 : Int32)), .val (.int (2 : Int32)), .val (.ref t), .val (.int (1 : Int32))]) d19_26 rfl rfl rfl rfl ?_
  refine Rn.goto (pc' := 8) d19_29 (by decide) (by decide) ?_
  refine Rn.iload (pc' := 10) d19_8 rfl rfl ?_
  refine Rn.iloadN (pc' := 11) d19_10 rfl rfl ?_
  refine Rn.icmp_ge (pc' := 32) (pn := 14) d19_11 (by decide) (by decide) rfl (fun cq12 => absurd cq12 (by decide)) (fun cq12 => ?_)
  refine Rn.aloadN (pc' := 15) d19_14 rfl rfl rfl ?_
  refine Rn.iload (pc' := 17) d19_15 rfl rfl ?_
  refine Rn.aloadN (pc' := 18) d19_17 rfl rfl rfl ?_
  refine Rn.iloadN (pc' := 19) d19_18 rfl rfl ?_
  have Fq13 := Fq6.keep Kq10 (ninS nt nin0)
  refine Rn.caload (pc' := 20) (v := .int c1) Fq13 (by decide) rfl d19_19 rfl ?_
  refine Rn.callS (pc' := 23) (argsL := [.ref t, .int (1 : Int32), .int c1]) (rest := []) (ct_pch2_1 Z a0 hw t c0 c1 hq9 Aq7 UA UH UL) (hw _ (List.mem_of_getElem? (i := 97) rfl)) (hw _ (List.mem_of_getElem? (i := 98) rfl)) (hw _ (List.mem_of_getElem? (i := 73) rfl)) (hw _ (List.mem_of_getElem? (i := 99) rfl)) (by decide) rfl rfl (lenOf pd_2 rfl) rfl d19_20 rfl (Nat.le_of_ble_eq_true rfl) (Nat.le_of_ble_eq_true rfl) (Nat.le_of_ble_eq_true rfl) (Nat.le_of_ble_eq_true rfl) (allS (Or.inr ht) all0) (allS Sf.no (all0)) (fun vq15 hq16 Kq17 qq18 => ?_)
  obtain ⟨rfl, Aq14⟩ := qq18
  simp only [Option.toList, List.cons_append, List.nil_append]
  refine Rn.iinc (pc' := 26) (v := (2 : Int32)) (Ls' := #[.val (.ref src), .val (.int (2 : Int32)), .val (.int (2 : Int32)), .val (.ref t), .val (.int (1 : Int32))]) d19_23 rfl rfl rfl rfl ?_
  refine Rn.iinc (pc' := 29) (v := (2 : Int32)) (Ls' := #[.val (.ref src), .val (.int (2 : Int32)), .val (.int (2 : Int32)), .val (.ref t), .val (.int (2 : Int32))]) d19_26 rfl rfl rfl rfl ?_
  refine Rn.goto (pc' := 8) d19_29 (by decide) (by decide) ?_
  refine Rn.iload (pc' := 10) d19_8 rfl rfl ?_
  refine Rn.iloadN (pc' := 11) d19_10 rfl rfl ?_
  refine Rn.icmp_ge (pc' := 32) (pn := 14) d19_11 (by decide) (by decide) rfl (fun cq19 => ?_) (fun cq19 => absurd cq19 (by decide))
  refine Rn.aloadN (pc' := 33) d19_32 rfl rfl rfl ?_
  refine Rn.retA (t := (.array .byte)) rfl rfl rfl d19_33 (Nat.le_of_ble_eq_true rfl) (Nat.le_of_ble_eq_true rfl) ?_
  exact ⟨_, rfl, ht, Aq14⟩
set_option maxRecDepth 65536 in
set_option maxHeartbeats 40000000 in
theorem ct_cod16_2 (Z : State) (a0 : Array Value) (hw : ∀ d ∈ tables_1, d.before a0 Z = true) (t : Addr) (c0 c1 : Int32) (h0 : Heap) (A : Ax Z h0 t .byte [.int (b8 c0), .int (b8 (own_hi c0)), .int (b8 c1), .int (b8 (own_hi c1))]) :
    Ct Z ⟨"java/lang/StringUTF16", "coderFromArrayLen", "([BI)B"⟩ jdk_52_method_15_code 2 (Option.some FieldType.byte) ({ frames := 0, cells := 0, slots := 0, locals := 0 } : Room) #[(.ref t), (.int (2 : Int32))] h0 [] (fun v h => v = some (.int (1 : Int32)) ∧ h0 = h) := by
  refine Ct.intro (Ls := #[.val (.ref t), .val (.int (2 : Int32))]) (plainFor_of_name pn_3) (by intro m; first | (simp [entryFrame, mkF, argsToLocals, Value.category]; done) | rfl) ?_
  refine Rn.iloadN (pc' := 1) d16_0 rfl rfl ?_
  refine Rn.aloadN (pc' := 2) d16_1 rfl rfl rfl ?_
  refine Rn.arraylength (pc' := 3) (n := (4 : Int32)) A rfl d16_2 rfl ?_
  refine Rn.isub (pc' := 4) (v := (-2 : Int32)) d16_3 rfl rfl ?_
  refine Rn.bipush (pc' := 6) (v := (31 : Int32)) d16_4 rfl rfl ?_
  refine Rn.iushr (pc' := 7) (v := (1 : Int32)) d16_6 rfl rfl ?_
  refine Rn.i2b (pc' := 8) (v := (1 : Int32)) d16_7 rfl rfl ?_
  refine Rn.retN (t := .byte) rfl (by simp) d16_8 (Nat.le_of_ble_eq_true rfl) (Nat.le_of_ble_eq_true rfl) ?_
  exact ⟨rfl, rfl⟩
set_option maxRecDepth 65536 in
set_option maxHeartbeats 40000000 in
theorem ct_cf2_0 (Z : State) (a0 : Array Value) (hw : ∀ d ∈ tables_1, d.before a0 Z = true) (src t : Addr) (c0 c1 : Int32)  (hq : 255 < c0) (h0 : Heap) (A : Ax Z h0 src .char [.int c0, .int c1]) (B : Ax Z h0 t .byte [.int (0 : Int32), .int (0 : Int32)]) (hn : src ≠ t) :
    Ct Z ⟨"java/lang/StringUTF16", "compress", "([CI[BII)I"⟩ jdk_52_method_21_code 7 (Option.some FieldType.int) ({ frames := 0, cells := 0, slots := 0, locals := 0 } : Room) #[(.ref src), (.int (0 : Int32)), (.ref t), (.int (0 : Int32)), (.int (2 : Int32))] h0 [t] (fun v h => v = some (.int (0 : Int32))) := by
  refine Ct.intro (Ls := #[.val (.ref src), .val (.int (0 : Int32)), .val (.ref t), .val (.int (0 : Int32)), .val (.int (2 : Int32)), .unset, .unset]) (plainFor_of_name pn_3) (by intro m; first | (simp [entryFrame, mkF, argsToLocals, Value.category]; done) | rfl) ?_
  refine Rn.iconst (pc' := 1) (v := (0 : Int32)) d15_0 rfl rfl ?_
  refine Rn.istore (pc' := 3) (Ls' := #[.val (.ref src), .val (.int (0 : Int32)), .val (.ref t), .val (.int (0 : Int32)), .val (.int (2 : Int32)), .val (.int (0 : Int32)), .unset]) d15_1 rfl rfl ?_
  refine Rn.iload (pc' := 5) d15_3 rfl rfl ?_
  refine Rn.iload (pc' := 7) d15_5 rfl rfl ?_
  refine Rn.icmp_ge (pc' := 44) (pn := 10) d15_7 (by decide) (by decide) rfl (fun cq1 => absurd cq1 (by decide)) (fun cq1 => ?_)
  refine Rn.aloadN (pc' := 11) d15_10 rfl rfl rfl ?_
  refine Rn.iloadN (pc' := 12) d15_11 rfl rfl ?_
  refine Rn.caload (pc' := 13) (v := .int c0) A (by decide) rfl d15_12 rfl ?_
  refine Rn.istore (pc' := 15) (Ls' := #[.val (.ref src), .val (.int (0 : Int32)), .val (.ref t), .val (.int (0 : Int32)), .val (.int (2 : Int32)), .val (.int (0 : Int32)), .val (.int c0)]) d15_13 rfl rfl ?_
  refine Rn.iload (pc' := 17) d15_15 rfl rfl ?_
  refine Rn.sipush (pc' := 20) (v := (255 : Int32)) d15_17 rfl rfl ?_
  refine Rn.icmp_le (pc' := 26) (pn := 23) d15_20 (by decide) (by decide) rfl (fun cq2 => absurd hq cq2) (fun cq2 => ?_)
  refine Rn.iload (pc' := 25) d15_23 rfl rfl ?_
  refine Rn.retI rfl d15_25 (Nat.le_of_ble_eq_true rfl) (Nat.le_of_ble_eq_true rfl) ?_
  rfl
set_option maxRecDepth 65536 in
set_option maxHeartbeats 40000000 in
theorem ct_cu2_0 (Z : State) (a0 : Array Value) (hw : ∀ d ∈ tables_1, d.before a0 Z = true) (src : Addr) (c0 c1 : Int32)  (hq : 255 < c0) (hC0 : own_C c0) (hC1 : own_C c1) (h0 : Heap) (A : Ax Z h0 src .char [.int c0, .int c1]) (UA : Sta Z Z.heap "java/lang/StringUTF16" "$assertionsDisabled" "Z" (.int (1 : Int32))) (UH : Sta Z Z.heap "java/lang/StringUTF16" "HI_BYTE_SHIFT" "I" (.int (0 : Int32))) (UL : Sta Z Z.heap "java/lang/StringUTF16" "LO_BYTE_SHIFT" "I" (.int (8 : Int32))) :
    Ct Z ⟨"java/lang/StringUTF16", "compress", "([CII)[B"⟩ jdk_52_method_16_code 6 (Option.some (FieldType.array FieldType.byte)) ({ frames := 3, cells := 2, slots := 6, locals := 40 } : Room) #[(.ref src), (.int (0 : Int32)), (.int (2 : Int32))] h0 [] (fun v h => ∃ t, v = some (.ref t) ∧ h0.size ≤ t ∧ Ax Z h t .byte [.int (b8 c0), .int (b8 (own_hi c0)), .int (b8 c1), .int (b8 (own_hi c1))]) := by
  refine Ct.intro (Ls := #[.val (.ref src), .val (.int (0 : Int32)), .val (.int (2 : Int32)), .unset, .unset, .unset]) (plainFor_of_name pn_3) (by intro m; first | (simp [entryFrame, mkF, argsToLocals, Value.category]; done) | rfl) ?_
  refine Rn.iloadN (pc' := 1) d14_0 rfl rfl ?_
  refine Rn.newP (pc' := 3) (cap := 2) (ty := .byte) (ad := "[B") (hw _ (List.mem_of_getElem? (i := 20) rfl)) rfl rfl d14_1 (by decide) (Nat.le_of_ble_eq_true rfl) (by decide) (Nat.le_of_ble_eq_true rfl) (Nat.le_of_ble_eq_true rfl) rfl (fun hq2 aq1 eq3 gq4 Eq5 ⟨Aq6, Bq7⟩ => ?_)
  have nq8 : src ≠ aq1 := by rw [eq3]; exact Nat.ne_of_lt (A.lt)
  have Aq9 : Ax Z hq2 aq1 .byte ([.int (0 : Int32), .int (0 : Int32)]) := Aq6
  refine Rn.astoreN (pc' := 4) (Ls' := #[.val (.ref src), .val (.int (0 : Int32)), .val (.int (2 : Int32)), .val (.ref aq1), .unset, .unset]) d14_3 rfl rfl rfl ?_
  refine Rn.aloadN (pc' := 5) d14_4 rfl rfl rfl ?_
  refine Rn.iloadN (pc' := 6) d14_5 rfl rfl ?_
  refine Rn.aloadN (pc' := 7) d14_6 rfl rfl rfl ?_
  refine Rn.iconst (pc' := 8) (v := (0 : Int32)) d14_7 rfl rfl ?_
  refine Rn.iloadN (pc' := 9) d14_8 rfl rfl ?_
  have Fq10 := A.ext Eq5
  refine Rn.callS (pc' := 12) (argsL := [.ref src, .int (0 : Int32), .ref aq1, .int (0 : Int32), .int (2 : Int32)]) (rest := []) (ct_cf2_0 Z a0 hw src aq1 c0 c1 hq hq2 Fq10 Aq9 nq8) (hw _ (List.mem_of_getElem? (i := 75) rfl)) (hw _ (List.mem_of_getElem? (i := 76) rfl)) (hw _ (List.mem_of_getElem? (i := 73) rfl)) (hw _ (List.mem_of_getElem? (i := 77) rfl)) (by decide) rfl rfl (lenOf pd_3 rfl) rfl d14_9 rfl (Nat.le_of_ble_eq_true rfl) (Nat.le_of_ble_eq_true rfl) (Nat.le_of_ble_eq_true rfl) (Nat.le_of_ble_eq_true rfl) (allS (Or.inr gq4) all0) (allS Sf.no (all0)) (fun vq11 hq12 Kq13 qq14 => ?_)
  obtain rfl := qq14
  simp only [Option.toList, List.cons_append, List.nil_append]
  refine Rn.istore (pc' := 14) (Ls' := #[.val (.ref src), .val (.int (0 : Int32)), .val (.int (2 : Int32)), .val (.ref aq1), .val (.int (0 : Int32)), .unset]) d14_12 rfl rfl ?_
  refine Rn.iload (pc' := 16) d14_14 rfl rfl ?_
  refine Rn.iloadN (pc' := 17) d14_16 rfl rfl ?_
  refine Rn.icmp_eq (pc' := 57) (pn := 20) d14_17 (by decide) (by decide) rfl (fun cq15 => absurd cq15 (by decide)) (fun cq15 => ?_)
  refine Rn.aloadN (pc' := 21) d14_20 rfl rfl rfl ?_
  refine Rn.iloadN (pc' := 22) d14_21 rfl rfl ?_
  refine Rn.iloadN (pc' := 23) d14_22 rfl rfl ?_
  have Fq16 := Fq10.keep Kq13 (ninS nq8 nin0)
  refine Rn.old fun _ hK => ?_
  refine Rn.callS (pc' := 26) (argsL := [.ref src, .int (0 : Int32), .int (2 : Int32)]) (rest := []) (ct_tb2 Z a0 hw src c0 c1 hq12 Fq16 UA UH UL) (hw _ (List.mem_of_getElem? (i := 87) rfl)) (hw _ (List.mem_of_getElem? (i := 88) rfl)) (hw _ (List.mem_of_getElem? (i := 73) rfl)) (hw _ (List.mem_of_getElem? (i := 89) rfl)) (by decide) rfl rfl (lenOf pd_4 rfl) rfl d14_23 rfl (Nat.le_of_ble_eq_true rfl) (Nat.le_of_ble_eq_true rfl) (Nat.le_of_ble_eq_true rfl) (Nat.le_of_ble_eq_true rfl) (fun _ z => nomatch z) (fun _ z => nomatch z) (fun vq17 hq18 Kq19 qq20 => ?_)
  obtain ⟨u, rfl, hu, Au⟩ := qq20
  simp only [Option.toList, List.cons_append, List.nil_append]
  refine Rn.astore (pc' := 28) (Ls' := #[.val (.ref src), .val (.int (0 : Int32)), .val (.int (2 : Int32)), .val (.ref aq1), .val (.int (0 : Int32)), .val (.ref u)]) d14_26 rfl rfl rfl ?_
  refine Rn.aload (pc' := 30) d14_28 rfl rfl rfl ?_
  refine Rn.iload (pc' := 32) d14_30 rfl rfl ?_
  refine Rn.callS (pc' := 35) (argsL := [.ref u, .int (0 : Int32)]) (rest := []) (ct_gch2_0 Z a0 hw u c0 c1 hC0 hq18 Au UA UH UL) (hw _ (List.mem_of_getElem? (i := 103) rfl)) (hw _ (List.mem_of_getElem? (i := 104) rfl)) (hw _ (List.mem_of_getElem? (i := 73) rfl)) (hw _ (List.mem_of_getElem? (i := 105) rfl)) (by decide) rfl rfl (lenOf pd_5 rfl) rfl d14_32 rfl (Nat.le_of_ble_eq_true rfl) (Nat.le_of_ble_eq_true rfl) (Nat.le_of_ble_eq_true rfl) (Nat.le_of_ble_eq_true rfl) (fun _ z => nomatch z) (fun _ z => nomatch z) (fun vq21 hq22 Kq23 qq24 => ?_)
  obtain ⟨rfl, rfl⟩ := qq24
  simp only [Option.toList, List.cons_append, List.nil_append]
  refine Rn.sipush (pc' := 38) (v := (255 : Int32)) d14_35 rfl rfl ?_
  refine Rn.icmp_gt (pc' := 54) (pn := 41) d14_38 (by decide) (by decide) rfl (fun cq25 => ?_) (fun cq25 => absurd hq cq25)
  refine Rn.aload (pc' := 56) d14_54 rfl rfl rfl ?_
  refine Rn.retA (t := (.array .byte)) rfl rfl rfl d14_56 (Nat.le_of_ble_eq_true rfl) (Nat.le_of_ble_eq_true rfl) ?_
  exact ⟨u, rfl, Nat.le_trans hK.1 hu, Au⟩
set_option maxRecDepth 65536 in
set_option maxHeartbeats 40000000 in
theorem ct_siw2_0 (Z : State) (a0 : Array Value) (hw : ∀ d ∈ tables_1, d.before a0 Z = true) (x : Addr) (src : Addr) (c0 c1 : Int32)  (hq : 255 < c0) (hC0 : own_C c0) (hC1 : own_C c1) (h0 : Heap) (E : Exa Z h0 x "java/lang/String") (V : Fld Z h0 x "java/lang/String" "value" "[B" .null) (Co : Fld Z h0 x "java/lang/String" "coder" "B" (.int (0 : Int32))) (A : Ax Z h0 src .char [.int c0, .int c1]) (hn : src ≠ x) (z : Int32) (hz : z ≠ 0) (S : Sta Z Z.heap "java/lang/String" "COMPACT_STRINGS" "Z" (.int z)) (UA : Sta Z Z.heap "java/lang/StringUTF16" "$assertionsDisabled" "Z" (.int (1 : Int32))) (UH : Sta Z Z.heap "java/lang/StringUTF16" "HI_BYTE_SHIFT" "I" (.int (0 : Int32))) (UL : Sta Z Z.heap "java/lang/StringUTF16" "LO_BYTE_SHIFT" "I" (.int (8 : Int32))) :
    Ct Z ⟨"java/lang/String", "<init>", "([CIILjava/lang/Void;)V"⟩ jdk_42_method_149_code 6 (Option.none : Option FieldType) ({ frames := 4, cells := 2, slots := 6, locals := 57 } : Room) #[(.ref x), (.ref src), (.int (0 : Int32)), (.int (2 : Int32)), (.null)] h0 [x] (fun v h => v = none ∧ ∃ t, Su Z h x t [.int (b8 c0), .int (b8 (own_hi c0)), .int (b8 c1), .int (b8 (own_hi c1))]) := by
  refine Ct.intro (Ls := #[.val (.ref x), .val (.ref src), .val (.int (0 : Int32)), .val (.int (2 : Int32)), .val (.null), .unset]) (plainFor_of_name pn_4) (by intro m; first | (simp [entryFrame, mkF, argsToLocals, Value.category]; done) | rfl) ?_
  refine Rn.aloadN (pc' := 1) d2_0 rfl rfl rfl ?_
  refine Rn.initO (pc' := 4) (hw _ (List.mem_of_getElem? (i := 16) rfl)) (hw _ (List.mem_of_getElem? (i := 17) rfl)) (hw _ (List.mem_of_getElem? (i := 18) rfl)) rfl d2_1 (Nat.le_of_ble_eq_true rfl) (Nat.le_of_ble_eq_true rfl) rfl ?_
  refine Rn.iloadN (pc' := 5) d2_4 rfl rfl ?_
  refine Rn.if_ne (pc' := 27) (pn := 8) d2_5 (by decide) (by decide) rfl (fun cq1 => ?_) (fun cq1 => absurd cq1 (by decide))
  refine Rn.old fun Oq2 _ => ?_
  refine Rn.getS (pc' := 30) (hw _ (List.mem_of_getElem? (i := 46) rfl)) Via.refl (S.ext Oq2) d2_27 rfl ?_
  refine Rn.if_eq (pc' := 58) (pn := 33) d2_30 (by decide) (by decide) rfl (fun cq3 => absurd cq3 hz) (fun cq3 => ?_)
  refine Rn.aloadN (pc' := 34) d2_33 rfl rfl rfl ?_
  refine Rn.iloadN (pc' := 35) d2_34 rfl rfl ?_
  refine Rn.iloadN (pc' := 36) d2_35 rfl rfl ?_
  refine Rn.callS (pc' := 39) (argsL := [.ref src, .int (0 : Int32), .int (2 : Int32)]) (rest := []) (ct_cu2_0 Z a0 hw src c0 c1 hq hC0 hC1 h0 A UA UH UL) (hw _ (List.mem_of_getElem? (i := 71) rfl)) (hw _ (List.mem_of_getElem? (i := 72) rfl)) (hw _ (List.mem_of_getElem? (i := 73) rfl)) (hw _ (List.mem_of_getElem? (i := 74) rfl)) (by decide) rfl rfl (lenOf pd_4 rfl) rfl d2_36 rfl (Nat.le_of_ble_eq_true rfl) (Nat.le_of_ble_eq_true rfl) (Nat.le_of_ble_eq_true rfl) (Nat.le_of_ble_eq_true rfl) (fun _ z => nomatch z) (fun _ z => nomatch z) (fun vq4 hq5 Kq6 qq7 => ?_)
  obtain ⟨t, rfl, ht, At⟩ := qq7
  simp only [Option.toList, List.cons_append, List.nil_append]
  have nt : x ≠ t := Nat.ne_of_lt (Nat.lt_of_lt_of_le E.lt ht)
  refine Rn.astore (pc' := 41) (Ls' := #[.val (.ref x), .val (.ref src), .val (.int (0 : Int32)), .val (.int (2 : Int32)), .val (.null), .val (.ref t)]) d2_39 rfl rfl rfl ?_
  refine Rn.aloadN (pc' := 42) d2_41 rfl rfl rfl ?_
  refine Rn.aload (pc' := 44) d2_42 rfl rfl rfl ?_
  refine Rn.iloadN (pc' := 45) d2_44 rfl rfl ?_
  refine Rn.callS (pc' := 48) (argsL := [.ref t, .int (2 : Int32)]) (rest := [.ref x]) (ct_cod16_2 Z a0 hw t c0 c1 hq5 At) (hw _ (List.mem_of_getElem? (i := 78) rfl)) (hw _ (List.mem_of_getElem? (i := 79) rfl)) (hw _ (List.mem_of_getElem? (i := 73) rfl)) (hw _ (List.mem_of_getElem? (i := 80) rfl)) (by decide) rfl rfl (lenOf pd_6 rfl) rfl d2_45 rfl (Nat.le_of_ble_eq_true rfl) (Nat.le_of_ble_eq_true rfl) (Nat.le_of_ble_eq_true rfl) (Nat.le_of_ble_eq_true rfl) (fun _ z => nomatch z) (fun _ z => nomatch z) (fun vq8 hq9 Kq10 qq11 => ?_)
  obtain ⟨rfl, rfl⟩ := qq11
  simp only [Option.toList, List.cons_append, List.nil_append]
  have Fq12 := Co.keep Kq6 nin0
  have Fq13 := E.keep Kq6
  refine Rn.putF (pc' := 51) (hw _ (List.mem_of_getElem? (i := 26) rfl)) Via.refl Fq12 Fq13 (Or.inr ⟨(hw _ (List.mem_of_getElem? (i := 22) rfl)), rfl, rfl⟩) (hw _ (List.mem_of_getElem? (i := 6) rfl)) (ty := .byte) (by decide) rfl rfl (Or.inl (List.mem_of_getElem? (i := 0) rfl)) Sf.no d2_48 rfl (fun hq15 Wq14 => ?_)
  have Fq16 := Fq12.same Wq14
  refine Rn.aloadN (pc' := 52) d2_51 rfl rfl rfl ?_
  refine Rn.aload (pc' := 54) d2_52 rfl rfl rfl ?_
  have Fq17 := V.keep Kq6 nin0
  have Fq18 := Fq17.other Wq14 (Or.inr (slot_ne (t := (.array .byte)) (t' := .byte) (Or.inr (hw _ (List.mem_of_getElem? (i := 21) rfl))) (Or.inr (hw _ (List.mem_of_getElem? (i := 22) rfl))) (by decide) (by decide) (by decide)))
  have Fq19 := Fq13.wr Wq14
  refine Rn.putF (pc' := 57) (hw _ (List.mem_of_getElem? (i := 25) rfl)) Via.refl Fq18 Fq19 (Or.inr ⟨(hw _ (List.mem_of_getElem? (i := 21) rfl)), rfl, rfl⟩) (hw _ (List.mem_of_getElem? (i := 6) rfl)) (ty := (.array .byte)) (by decide) rfl rfl (Or.inl (List.mem_of_getElem? (i := 0) rfl)) Sf.no d2_54 rfl (fun hq21 Wq20 => ?_)
  have Fq22 := Fq18.same Wq20
  refine Rn.retV rfl d2_57 (Nat.le_of_ble_eq_true rfl) (Nat.le_of_ble_eq_true rfl) ?_
  have Fq23 := Fq19.wr Wq20
  have Fq24 := Fq16.other Wq20 (Or.inr (slot_ne (t := .byte) (t' := (.array .byte)) (Or.inr (hw _ (List.mem_of_getElem? (i := 22) rfl))) (Or.inr (hw _ (List.mem_of_getElem? (i := 21) rfl))) (by decide) (by decide) (by decide)))
  have Fq25 := At.other Wq14 (Ne.symm nt)
  have Fq26 := Fq25.other Wq20 (Ne.symm nt)
  exact ⟨rfl, t, ⟨Fq23, Fq24, Fq22, Fq26⟩⟩
set_option maxRecDepth 65536 in
set_option maxHeartbeats 40000000 in
theorem ct_sx2_0 (Z : State) (a0 : Array Value) (hw : ∀ d ∈ tables_1, d.before a0 Z = true) (x : Addr) (src : Addr) (c0 c1 : Int32)  (hq : 255 < c0) (hC0 : own_C c0) (hC1 : own_C c1) (h0 : Heap) (E : Exa Z h0 x "java/lang/String") (V : Fld Z h0 x "java/lang/String" "value" "[B" .null) (Co : Fld Z h0 x "java/lang/String" "coder" "B" (.int (0 : Int32))) (A : Ax Z h0 src .char [.int c0, .int c1]) (hn : src ≠ x) (z : Int32) (hz : z ≠ 0) (S : Sta Z Z.heap "java/lang/String" "COMPACT_STRINGS" "Z" (.int z)) (UA : Sta Z Z.heap "java/lang/StringUTF16" "$assertionsDisabled" "Z" (.int (1 : Int32))) (UH : Sta Z Z.heap "java/lang/StringUTF16" "HI_BYTE_SHIFT" "I" (.int (0 : Int32))) (UL : Sta Z Z.heap "java/lang/StringUTF16" "LO_BYTE_SHIFT" "I" (.int (8 : Int32))) :
    Ct Z ⟨"java/lang/String", "<init>", "([C)V"⟩ jdk_42_method_3_code 2 (Option.none : Option FieldType) ({ frames := 5, cells := 2, slots := 6, locals := 74 } : Room) #[(.ref x), (.ref src)] h0 [x] (fun v h => v = none ∧ ∃ t, Su Z h x t [.int (b8 c0), .int (b8 (own_hi c0)), .int (b8 c1), .int (b8 (own_hi c1))]) := by
  refine Ct.intro (Ls := #[.val (.ref x), .val (.ref src)]) (plainFor_of_name pn_4) (by intro m; first | (simp [entryFrame, mkF, argsToLocals, Value.category]; done) | rfl) ?_
  refine Rn.aloadN (pc' := 1) d1_0 rfl rfl rfl ?_
  refine Rn.aloadN (pc' := 2) d1_1 rfl rfl rfl ?_
  refine Rn.iconst (pc' := 3) (v := (0 : Int32)) d1_2 rfl rfl ?_
  refine Rn.aloadN (pc' := 4) d1_3 rfl rfl rfl ?_
  refine Rn.arraylength (pc' := 5) (n := (2 : Int32)) A rfl d1_4 rfl ?_
  refine Rn.aconst_null (pc' := 6) d1_5 rfl ?_
  refine Rn.callI (pc' := 9) (argsL := [.ref src, .int (0 : Int32), .int (2 : Int32), .null]) (a := x) (rest := []) (ct_siw2_0 Z a0 hw x src c0 c1 hq hC0 hC1 h0 E V Co A hn z hz S UA UH UL) rfl (hw _ (List.mem_of_getElem? (i := 12) rfl)) (hw _ (List.mem_of_getElem? (i := 13) rfl)) (hw _ (List.mem_of_getElem? (i := 7) rfl)) (hw _ (List.mem_of_getElem? (i := 15) rfl)) (by decide) rfl rfl (lenOf pd_7 rfl) rfl d1_6 rfl (Nat.le_of_ble_eq_true rfl) (Nat.le_of_ble_eq_true rfl) (Nat.le_of_ble_eq_true rfl) (Nat.le_of_ble_eq_true rfl) (allS (Or.inl (List.mem_of_getElem? (i := 0) rfl)) all0) (allS Sf.no (all0)) (fun vq1 hq2 Kq3 qq4 => ?_)
  obtain ⟨rfl, t, G⟩ := qq4
  simp only [Option.toList, List.cons_append, List.nil_append]
  refine Rn.retV rfl d1_9 (Nat.le_of_ble_eq_true rfl) (Nat.le_of_ble_eq_true rfl) ?_
  exact ⟨rfl, t, G⟩
set_option maxRecDepth 65536 in
set_option maxHeartbeats 40000000 in
theorem ct_cf2_1 (Z : State) (a0 : Array Value) (hw : ∀ d ∈ tables_1, d.before a0 Z = true) (src t : Addr) (c0 c1 : Int32) (hp0 : ¬ 255 < c0) (hq : 255 < c1) (h0 : Heap) (A : Ax Z h0 src .char [.int c0, .int c1]) (B : Ax Z h0 t .byte [.int (0 : Int32), .int (0 : Int32)]) (hn : src ≠ t) :
    Ct Z ⟨"java/lang/StringUTF16", "compress", "([CI[BII)I"⟩ jdk_52_method_21_code 7 (Option.some FieldType.int) ({ frames := 0, cells := 0, slots := 0, locals := 0 } : Room) #[(.ref src), (.int (0 : Int32)), (.ref t), (.int (0 : Int32)), (.int (2 : Int32))] h0 [t] (fun v h => v = some (.int (1 : Int32))) := by
  refine Ct.intro (Ls := #[.val (.ref src), .val (.int (0 : Int32)), .val (.ref t), .val (.int (0 : Int32)), .val (.int (2 : Int32)), .unset, .unset]) (plainFor_of_name pn_3) (by intro m; first | (simp [entryFrame, mkF, argsToLocals, Value.category]; done) | rfl) ?_
  refine Rn.iconst (pc' := 1) (v := (0 : Int32)) d15_0 rfl rfl ?_
  refine Rn.istore (pc' := 3) (Ls' := #[.val (.ref src), .val (.int (0 : Int32)), .val (.ref t), .val (.int (0 : Int32)), .val (.int (2 : Int32)), .val (.int (0 : Int32)), .unset]) d15_1 rfl rfl ?_
  refine Rn.iload (pc' := 5) d15_3 rfl rfl ?_
  refine Rn.iload (pc' := 7) d15_5 rfl rfl ?_
  refine Rn.icmp_ge (pc' := 44) (pn := 10) d15_7 (by decide) (by decide) rfl (fun cq1 => absurd cq1 (by decide)) (fun cq1 => ?_)
  refine Rn.aloadN (pc' := 11) d15_10 rfl rfl rfl ?_
  refine Rn.iloadN (pc' := 12) d15_11 rfl rfl ?_
  refine Rn.caload (pc' := 13) (v := .int c0) A (by decide) rfl d15_12 rfl ?_
  refine Rn.istore (pc' := 15) (Ls' := #[.val (.ref src), .val (.int (0 : Int32)), .val (.ref t), .val (.int (0 : Int32)), .val (.int (2 : Int32)), .val (.int (0 : Int32)), .val (.int c0)]) d15_13 rfl rfl ?_
  refine Rn.iload (pc' := 17) d15_15 rfl rfl ?_
  refine Rn.sipush (pc' := 20) (v := (255 : Int32)) d15_17 rfl rfl ?_
  refine Rn.icmp_le (pc' := 26) (pn := 23) d15_20 (by decide) (by decide) rfl (fun cq2 => ?_) (fun cq2 => absurd cq2 hp0)
  refine Rn.aloadN (pc' := 27) d15_26 rfl rfl rfl ?_
  refine Rn.iloadN (pc' := 28) d15_27 rfl rfl ?_
  refine Rn.iload (pc' := 30) d15_28 rfl rfl ?_
  refine Rn.i2b (pc' := 31) (v := (b8 c0)) d15_30 rfl rfl ?_
  refine Rn.bastore (pc' := 32) (v := .int (b8 c0)) B (by decide) (Nat.le_of_ble_eq_true rfl) (congrArg Value.int (nar_b8 c0)) (Or.inl (List.mem_of_getElem? (i := 0) rfl)) Sf.no d15_31 rfl (fun hq4 Wq3 Aq5 => ?_)
  have Aq6 : Ax Z hq4 t .byte ([.int (b8 c0), .int (0 : Int32)]) := Aq5
  refine Rn.iinc (pc' := 35) (v := (1 : Int32)) (Ls' := #[.val (.ref src), .val (.int (1 : Int32)), .val (.ref t), .val (.int (0 : Int32)), .val (.int (2 : Int32)), .val (.int (0 : Int32)), .val (.int c0)]) d15_32 rfl rfl rfl rfl ?_
  refine Rn.iinc (pc' := 38) (v := (1 : Int32)) (Ls' := #[.val (.ref src), .val (.int (1 : Int32)), .val (.ref t), .val (.int (1 : Int32)), .val (.int (2 : Int32)), .val (.int (0 : Int32)), .val (.int c0)]) d15_35 rfl rfl rfl rfl ?_
  refine Rn.iinc (pc' := 41) (v := (1 : Int32)) (Ls' := #[.val (.ref src), .val (.int (1 : Int32)), .val (.ref t), .val (.int (1 : Int32)), .val (.int (2 : Int32)), .val (.int (1 : Int32)), .val (.int c0)]) d15_38 rfl rfl rfl rfl ?_
  refine Rn.goto (pc' := 3) d15_41 (by decide) (by decide) ?_
  refine Rn.iload (pc' := 5) d15_3 rfl rfl ?_
  refine Rn.iload (pc' := 7) d15_5 rfl rfl ?_
  refine Rn.icmp_ge (pc' := 44) (pn := 10) d15_7 (by decide) (by decide) rfl (fun cq7 => absurd cq7 (by decide)) (fun cq7 => ?_)
  refine Rn.aloadN (pc' := 11) d15_10 rfl rfl rfl ?_
  refine Rn.iloadN (pc' := 12) d15_11 rfl rfl ?_
  have Fq8 := A.other Wq3 hn
  refine Rn.caload (pc' := 13) (v := .int c1) Fq8 (by decide) rfl d15_12 rfl ?_
  refine Rn.istore (pc' := 15) (Ls' := #[.val (.ref src), .val (.int (1 : Int32)), .val (.ref t), .val (.int (1 : Int32)), .val (.int (2 : Int32)), .val (.int (1 : Int32)), .val (.int c1)]) d15_13 rfl rfl ?_
  refine Rn.iload (pc' := 17) d15_15 rfl rfl ?_
  refine Rn.sipush (pc' := 20) (v := (255 : Int32)) d15_17 rfl rfl ?_
  refine Rn.icmp_le (pc' := 26) (pn := 23) d15_20 (by decide) (by decide) rfl (fun cq9 => absurd hq cq9) (fun cq9 => ?_)
  refine Rn.iload (pc' := 25) d15_23 rfl rfl ?_
  refine Rn.retI rfl d15_25 (Nat.le_of_ble_eq_true rfl) (Nat.le_of_ble_eq_true rfl) ?_
  rfl
set_option maxRecDepth 65536 in
set_option maxHeartbeats 40000000 in
theorem ct_cu2_1 (Z : State) (a0 : Array Value) (hw : ∀ d ∈ tables_1, d.before a0 Z = true) (src : Addr) (c0 c1 : Int32) (hp0 : ¬ 255 < c0) (hq : 255 < c1) (hC0 : own_C c0) (hC1 : own_C c1) (h0 : Heap) (A : Ax Z h0 src .char [.int c0, .int c1]) (UA : Sta Z Z.heap "java/lang/StringUTF16" "$assertionsDisabled" "Z" (.int (1 : Int32))) (UH : Sta Z Z.heap "java/lang/StringUTF16" "HI_BYTE_SHIFT" "I" (.int (0 : Int32))) (UL : Sta Z Z.heap "java/lang/StringUTF16" "LO_BYTE_SHIFT" "I" (.int (8 : Int32))) :
    Ct Z ⟨"java/lang/StringUTF16", "compress", "([CII)[B"⟩ jdk_52_method_16_code 6 (Option.some (FieldType.array FieldType.byte)) ({ frames := 3, cells := 2, slots := 6, locals := 40 } : Room) #[(.ref src), (.int (0 : Int32)), (.int (2 : Int32))] h0 [] (fun v h => ∃ t, v = some (.ref t) ∧ h0.size ≤ t ∧ Ax Z h t .byte [.int (b8 c0), .int (b8 (own_hi c0)), .int (b8 c1), .int (b8 (own_hi c1))]) := by
  refine Ct.intro (Ls := #[.val (.ref src), .val (.int (0 : Int32)), .val (.int (2 : Int32)), .unset, .unset, .unset]) (plainFor_of_name pn_3) (by intro m; first | (simp [entryFrame, mkF, argsToLocals, Value.category]; done) | rfl) ?_
  refine Rn.iloadN (pc' := 1) d14_0 rfl rfl ?_
  refine Rn.newP (pc' := 3) (cap := 2) (ty := .byte) (ad := "[B") (hw _ (List.mem_of_getElem? (i := 20) rfl)) rfl rfl d14_1 (by decide) (Nat.le_of_ble_eq_true rfl) (by decide) (Nat.le_of_ble_eq_true rfl) (Nat.le_of_ble_eq_true rfl) rfl (fun hq2 aq1 eq3 gq4 Eq5 ⟨Aq6, Bq7⟩ => ?_)
  have nq8 : src ≠ aq1 := by rw [eq3]; exact Nat.ne_of_lt (A.lt)
  have Aq9 : Ax Z hq2 aq1 .byte ([.int (0 : Int32), .int (0 : Int32)]) := Aq6
  refine Rn.astoreN (pc' := 4) (Ls' := #[.val (.ref src), .val (.int (0 : Int32)), .val (.int (2 : Int32)), .val (.ref aq1), .unset, .unset]) d14_3 rfl rfl rfl ?_
  refine Rn.aloadN (pc' := 5) d14_4 rfl rfl rfl ?_
  refine Rn.iloadN (pc' := 6) d14_5 rfl rfl ?_
  refine Rn.aloadN (pc' := 7) d14_6 rfl rfl rfl ?_
  refine Rn.iconst (pc' := 8) (v := (0 : Int32)) d14_7 rfl rfl ?_
  refine Rn.iloadN (pc' := 9) d14_8 rfl rfl ?_
  have Fq10 := A.ext Eq5
  refine Rn.callS (pc' := 12) (argsL := [.ref src, .int (0 : Int32), .ref aq1, .int (0 : Int32), .int (2 : Int32)]) (rest := []) (ct_cf2_1 Z a0 hw src aq1 c0 c1 hp0 hq hq2 Fq10 Aq9 nq8) (hw _ (List.mem_of_getElem? (i := 75) rfl)) (hw _ (List.mem_of_getElem? (i := 76) rfl)) (hw _ (List.mem_of_getElem? (i := 73) rfl)) (hw _ (List.mem_of_getElem? (i := 77) rfl)) (by decide) rfl rfl (lenOf pd_3 rfl) rfl d14_9 rfl (Nat.le_of_ble_eq_true rfl) (Nat.le_of_ble_eq_true rfl) (Nat.le_of_ble_eq_true rfl) (Nat.le_of_ble_eq_true rfl) (allS (Or.inr gq4) all0) (allS Sf.no (all0)) (fun vq11 hq12 Kq13 qq14 => ?_)
  obtain rfl := qq14
  simp only [Option.toList, List.cons_append, List.nil_append]
  refine Rn.istore (pc' := 14) (Ls' := #[.val (.ref src), .val (.int (0 : Int32)), .val (.int (2 : Int32)), .val (.ref aq1), .val (.int (1 : Int32)), .unset]) d14_12 rfl rfl ?_
  refine Rn.iload (pc' := 16) d14_14 rfl rfl ?_
  refine Rn.iloadN (pc' := 17) d14_16 rfl rfl ?_
  refine Rn.icmp_eq (pc' := 57) (pn := 20) d14_17 (by decide) (by decide) rfl (fun cq15 => absurd cq15 (by decide)) (fun cq15 => ?_)
  refine Rn.aloadN (pc' := 21) d14_20 rfl rfl rfl ?_
  refine Rn.iloadN (pc' := 22) d14_21 rfl rfl ?_
  refine Rn.iloadN (pc' := 23) d14_22 rfl rfl ?_
  have Fq16 := Fq10.keep Kq13 (ninS nq8 nin0)
  refine Rn.old fun _ hK => ?_
  refine Rn.callS (pc' := 26) (argsL := [.ref src, .int (0 : Int32), .int (2 : Int32)]) (rest := []) (ct_tb2 Z a0 hw src c0 c1 hq12 Fq16 UA UH UL) (hw _ (List.mem_of_getElem? (i := 87) rfl)) (hw _ (List.mem_of_getElem? (i := 88) rfl)) (hw _ (List.mem_of_getElem? (i := 73) rfl)) (hw _ (List.mem_of_getElem? (i := 89) rfl)) (by decide) rfl rfl (lenOf pd_4 rfl) rfl d14_23 rfl (Nat.le_of_ble_eq_true rfl) (Nat.le_of_ble_eq_true rfl) (Nat.le_of_ble_eq_true rfl) (Nat.le_of_ble_eq_true rfl) (fun _ z => nomatch z) (fun _ z => nomatch z) (fun vq17 hq18 Kq19 qq20 => ?_)
  obtain ⟨u, rfl, hu, Au⟩ := qq20
  simp only [Option.toList, List.cons_append, List.nil_append]
  refine Rn.astore (pc' := 28) (Ls' := #[.val (.ref src), .val (.int (0 : Int32)), .val (.int (2 : Int32)), .val (.ref aq1), .val (.int (1 : Int32)), .val (.ref u)]) d14_26 rfl rfl rfl ?_
  refine Rn.aload (pc' := 30) d14_28 rfl rfl rfl ?_
  refine Rn.iload (pc' := 32) d14_30 rfl rfl ?_
  refine Rn.callS (pc' := 35) (argsL := [.ref u, .int (1 : Int32)]) (rest := []) (ct_gch2_1 Z a0 hw u c0 c1 hC1 hq18 Au UA UH UL) (hw _ (List.mem_of_getElem? (i := 103) rfl)) (hw _ (List.mem_of_getElem? (i := 104) rfl)) (hw _ (List.mem_of_getElem? (i := 73) rfl)) (hw _ (List.mem_of_getElem? (i := 105) rfl)) (by decide) rfl rfl (lenOf pd_5 rfl) rfl d14_32 rfl (Nat.le_of_ble_eq_true rfl) (Nat.le_of_ble_eq_true rfl) (Nat.le_of_ble_eq_true rfl) (Nat.le_of_ble_eq_true rfl) (fun _ z => nomatch z) (fun _ z => nomatch z) (fun vq21 hq22 Kq23 qq24 => ?_)
  obtain ⟨rfl, rfl⟩ := qq24
  simp only [Option.toList, List.cons_append, List.nil_append]
  refine Rn.sipush (pc' := 38) (v := (255 : Int32)) d14_35 rfl rfl ?_
  refine Rn.icmp_gt (pc' := 54) (pn := 41) d14_38 (by decide) (by decide) rfl (fun cq25 => ?_) (fun cq25 => absurd hq cq25)
  refine Rn.aload (pc' := 56) d14_54 rfl rfl rfl ?_
  refine Rn.retA (t := (.array .byte)) rfl rfl rfl d14_56 (Nat.le_of_ble_eq_true rfl) (Nat.le_of_ble_eq_true rfl) ?_
  exact ⟨u, rfl, Nat.le_trans hK.1 hu, Au⟩
set_option maxRecDepth 65536 in
set_option maxHeartbeats 40000000 in
theorem ct_siw2_1 (Z : State) (a0 : Array Value) (hw : ∀ d ∈ tables_1, d.before a0 Z = true) (x : Addr) (src : Addr) (c0 c1 : Int32) (hp0 : ¬ 255 < c0) (hq : 255 < c1) (hC0 : own_C c0) (hC1 : own_C c1) (h0 : Heap) (E : Exa Z h0 x "java/lang/String") (V : Fld Z h0 x "java/lang/String" "value" "[B" .null) (Co : Fld Z h0 x "java/lang/String" "coder" "B" (.int (0 : Int32))) (A : Ax Z h0 src .char [.int c0, .int c1]) (hn : src ≠ x) (z : Int32) (hz : z ≠ 0) (S : Sta Z Z.heap "java/lang/String" "COMPACT_STRINGS" "Z" (.int z)) (UA : Sta Z Z.heap "java/lang/StringUTF16" "$assertionsDisabled" "Z" (.int (1 : Int32))) (UH : Sta Z Z.heap "java/lang/StringUTF16" "HI_BYTE_SHIFT" "I" (.int (0 : Int32))) (UL : Sta Z Z.heap "java/lang/StringUTF16" "LO_BYTE_SHIFT" "I" (.int (8 : Int32))) :
    Ct Z ⟨"java/lang/String", "<init>", "([CIILjava/lang/Void;)V"⟩ jdk_42_method_149_code 6 (Option.none : Option FieldType) ({ frames := 4, cells := 2, slots := 6, locals := 57 } : Room) #[(.ref x), (.ref src), (.int (0 : Int32)), (.int (2 : Int32)), (.null)] h0 [x] (fun v h => v = none ∧ ∃ t, Su Z h x t [.int (b8 c0), .int (b8 (own_hi c0)), .int (b8 c1), .int (b8 (own_hi c1))]) := by
  refine Ct.intro (Ls := #[.val (.ref x), .val (.ref src), .val (.int (0 : Int32)), .val (.int (2 : Int32)), .val (.null), .unset]) (plainFor_of_name pn_4) (by intro m; first | (simp [entryFrame, mkF, argsToLocals, Value.category]; done) | rfl) ?_
  refine Rn.aloadN (pc' := 1) d2_0 rfl rfl rfl ?_
  refine Rn.initO (pc' := 4) (hw _ (List.mem_of_getElem? (i := 16) rfl)) (hw _ (List.mem_of_getElem? (i := 17) rfl)) (hw _ (List.mem_of_getElem? (i := 18) rfl)) rfl d2_1 (Nat.le_of_ble_eq_true rfl) (Nat.le_of_ble_eq_true rfl) rfl ?_
  refine Rn.iloadN (pc' := 5) d2_4 rfl rfl ?_
  refine Rn.if_ne (pc' := 27) (pn := 8) d2_5 (by decide) (by decide) rfl (fun cq1 => ?_) (fun cq1 => absurd cq1 (by decide))
  refine Rn.old fun Oq2 _ => ?_
  refine Rn.getS (pc' := 30) (hw _ (List.mem_of_getElem? (i := 46) rfl)) Via.refl (S.ext Oq2) d2_27 rfl ?_
  refine Rn.if_eq (pc' := 58) (pn := 33) d2_30 (by decide) (by decide) rfl (fun cq3 => absurd cq3 hz) (fun cq3 => ?_)
  refine Rn.aloadN (pc' := 34) d2_33 rfl rfl rfl ?_
  refine Rn.iloadN (pc' := 35) d2_34 rfl rfl ?_
  refine Rn.iloadN (pc' := 36) d2_35 rfl rfl ?_
  refine Rn.callS (pc' := 39) (argsL := [.ref src, .int (0 : Int32), .int (2 : Int32)]) (rest := []) (ct_cu2_1 Z a0 hw src c0 c1 hp0 hq hC0 hC1 h0 A UA UH UL) (hw _ (List.mem_of_getElem? (i := 71) rfl)) (hw _ (List.mem_of_getElem? (i := 72) rfl)) (hw _ (List.mem_of_getElem? (i := 73) rfl)) (hw _ (List.mem_of_getElem? (i := 74) rfl)) (by decide) rfl rfl (lenOf pd_4 rfl) rfl d2_36 rfl (Nat.le_of_ble_eq_true rfl) (Nat.le_of_ble_eq_true rfl) (Nat.le_of_ble_eq_true rfl) (Nat.le_of_ble_eq_true rfl) (fun _ z => nomatch z) (fun _ z => nomatch z) (fun vq4 hq5 Kq6 qq7 => ?_)
  obtain ⟨t, rfl, ht, At⟩ := qq7
  simp only [Option.toList, List.cons_append, List.nil_append]
  have nt : x ≠ t := Nat.ne_of_lt (Nat.lt_of_lt_of_le E.lt ht)
  refine Rn.astore (pc' := 41) (Ls' := #[.val (.ref x), .val (.ref src), .val (.int (0 : Int32)), .val (.int (2 : Int32)), .val (.null), .val (.ref t)]) d2_39 rfl rfl rfl ?_
  refine Rn.aloadN (pc' := 42) d2_41 rfl rfl rfl ?_
  refine Rn.aload (pc' := 44) d2_42 rfl rfl rfl ?_
  refine Rn.iloadN (pc' := 45) d2_44 rfl rfl ?_
  refine Rn.callS (pc' := 48) (argsL := [.ref t, .int (2 : Int32)]) (rest := [.ref x]) (ct_cod16_2 Z a0 hw t c0 c1 hq5 At) (hw _ (List.mem_of_getElem? (i := 78) rfl)) (hw _ (List.mem_of_getElem? (i := 79) rfl)) (hw _ (List.mem_of_getElem? (i := 73) rfl)) (hw _ (List.mem_of_getElem? (i := 80) rfl)) (by decide) rfl rfl (lenOf pd_6 rfl) rfl d2_45 rfl (Nat.le_of_ble_eq_true rfl) (Nat.le_of_ble_eq_true rfl) (Nat.le_of_ble_eq_true rfl) (Nat.le_of_ble_eq_true rfl) (fun _ z => nomatch z) (fun _ z => nomatch z) (fun vq8 hq9 Kq10 qq11 => ?_)
  obtain ⟨rfl, rfl⟩ := qq11
  simp only [Option.toList, List.cons_append, List.nil_append]
  have Fq12 := Co.keep Kq6 nin0
  have Fq13 := E.keep Kq6
  refine Rn.putF (pc' := 51) (hw _ (List.mem_of_getElem? (i := 26) rfl)) Via.refl Fq12 Fq13 (Or.inr ⟨(hw _ (List.mem_of_getElem? (i := 22) rfl)), rfl, rfl⟩) (hw _ (List.mem_of_getElem? (i := 6) rfl)) (ty := .byte) (by decide) rfl rfl (Or.inl (List.mem_of_getElem? (i := 0) rfl)) Sf.no d2_48 rfl (fun hq15 Wq14 => ?_)
  have Fq16 := Fq12.same Wq14
  refine Rn.aloadN (pc' := 52) d2_51 rfl rfl rfl ?_
  refine Rn.aload (pc' := 54) d2_52 rfl rfl rfl ?_
  have Fq17 := V.keep Kq6 nin0
  have Fq18 := Fq17.other Wq14 (Or.inr (slot_ne (t := (.array .byte)) (t' := .byte) (Or.inr (hw _ (List.mem_of_getElem? (i := 21) rfl))) (Or.inr (hw _ (List.mem_of_getElem? (i := 22) rfl))) (by decide) (by decide) (by decide)))
  have Fq19 := Fq13.wr Wq14
  refine Rn.putF (pc' := 57) (hw _ (List.mem_of_getElem? (i := 25) rfl)) Via.refl Fq18 Fq19 (Or.inr ⟨(hw _ (List.mem_of_getElem? (i := 21) rfl)), rfl, rfl⟩) (hw _ (List.mem_of_getElem? (i := 6) rfl)) (ty := (.array .byte)) (by decide) rfl rfl (Or.inl (List.mem_of_getElem? (i := 0) rfl)) Sf.no d2_54 rfl (fun hq21 Wq20 => ?_)
  have Fq22 := Fq18.same Wq20
  refine Rn.retV rfl d2_57 (Nat.le_of_ble_eq_true rfl) (Nat.le_of_ble_eq_true rfl) ?_
  have Fq23 := Fq19.wr Wq20
  have Fq24 := Fq16.other Wq20 (Or.inr (slot_ne (t := .byte) (t' := (.array .byte)) (Or.inr (hw _ (List.mem_of_getElem? (i := 22) rfl))) (Or.inr (hw _ (List.mem_of_getElem? (i := 21) rfl))) (by decide) (by decide) (by decide)))
  have Fq25 := At.other Wq14 (Ne.symm nt)
  have Fq26 := Fq25.other Wq20 (Ne.symm nt)
  exact ⟨rfl, t, ⟨Fq23, Fq24, Fq22, Fq26⟩⟩
set_option maxRecDepth 65536 in
set_option maxHeartbeats 40000000 in
theorem ct_sx2_1 (Z : State) (a0 : Array Value) (hw : ∀ d ∈ tables_1, d.before a0 Z = true) (x : Addr) (src : Addr) (c0 c1 : Int32) (hp0 : ¬ 255 < c0) (hq : 255 < c1) (hC0 : own_C c0) (hC1 : own_C c1) (h0 : Heap) (E : Exa Z h0 x "java/lang/String") (V : Fld Z h0 x "java/lang/String" "value" "[B" .null) (Co : Fld Z h0 x "java/lang/String" "coder" "B" (.int (0 : Int32))) (A : Ax Z h0 src .char [.int c0, .int c1]) (hn : src ≠ x) (z : Int32) (hz : z ≠ 0) (S : Sta Z Z.heap "java/lang/String" "COMPACT_STRINGS" "Z" (.int z)) (UA : Sta Z Z.heap "java/lang/StringUTF16" "$assertionsDisabled" "Z" (.int (1 : Int32))) (UH : Sta Z Z.heap "java/lang/StringUTF16" "HI_BYTE_SHIFT" "I" (.int (0 : Int32))) (UL : Sta Z Z.heap "java/lang/StringUTF16" "LO_BYTE_SHIFT" "I" (.int (8 : Int32))) :
    Ct Z ⟨"java/lang/String", "<init>", "([C)V"⟩ jdk_42_method_3_code 2 (Option.none : Option FieldType) ({ frames := 5, cells := 2, slots := 6, locals := 74 } : Room) #[(.ref x), (.ref src)] h0 [x] (fun v h => v = none ∧ ∃ t, Su Z h x t [.int (b8 c0), .int (b8 (own_hi c0)), .int (b8 c1), .int (b8 (own_hi c1))]) := by
  refine Ct.intro (Ls := #[.val (.ref x), .val (.ref src)]) (plainFor_of_name pn_4) (by intro m; first | (simp [entryFrame, mkF, argsToLocals, Value.category]; done) | rfl) ?_
  refine Rn.aloadN (pc' := 1) d1_0 rfl rfl rfl ?_
  refine Rn.aloadN (pc' := 2) d1_1 rfl rfl rfl ?_
  refine Rn.iconst (pc' := 3) (v := (0 : Int32)) d1_2 rfl rfl ?_
  refine Rn.aloadN (pc' := 4) d1_3 rfl rfl rfl ?_
  refine Rn.arraylength (pc' := 5) (n := (2 : Int32)) A rfl d1_4 rfl ?_
  refine Rn.aconst_null (pc' := 6) d1_5 rfl ?_
  refine Rn.callI (pc' := 9) (argsL := [.ref src, .int (0 : Int32), .int (2 : Int32), .null]) (a := x) (rest := []) (ct_siw2_1 Z a0 hw x src c0 c1 hp0 hq hC0 hC1 h0 E V Co A hn z hz S UA UH UL) rfl (hw _ (List.mem_of_getElem? (i := 12) rfl)) (hw _ (List.mem_of_getElem? (i := 13) rfl)) (hw _ (List.mem_of_getElem? (i := 7) rfl)) (hw _ (List.mem_of_getElem? (i := 15) rfl)) (by decide) rfl rfl (lenOf pd_7 rfl) rfl d1_6 rfl (Nat.le_of_ble_eq_true rfl) (Nat.le_of_ble_eq_true rfl) (Nat.le_of_ble_eq_true rfl) (Nat.le_of_ble_eq_true rfl) (allS (Or.inl (List.mem_of_getElem? (i := 0) rfl)) all0) (allS Sf.no (all0)) (fun vq1 hq2 Kq3 qq4 => ?_)
  obtain ⟨rfl, t, G⟩ := qq4
  simp only [Option.toList, List.cons_append, List.nil_append]
  refine Rn.retV rfl d1_9 (Nat.le_of_ble_eq_true rfl) (Nat.le_of_ble_eq_true rfl) ?_
  exact ⟨rfl, t, G⟩
set_option maxRecDepth 65536 in
set_option maxHeartbeats 40000000 in
theorem ct_cmpb2 (Z : State) (a0 : Array Value) (hw : ∀ d ∈ tables_1, d.before a0 Z = true) (src t : Addr) (c0 c1 : Int32) (hp0 : ¬ 255 < c0) (hp1 : ¬ 255 < c1) (h0 : Heap) (A : Ax Z h0 src .char [.int c0, .int c1]) (B : Ax Z h0 t .byte [.int (0 : Int32), .int (0 : Int32)]) (hn : src ≠ t) :
    Ct Z ⟨"java/lang/StringUTF16", "compress", "([CI[BII)I"⟩ jdk_52_method_21_code 7 (Option.some FieldType.int) ({ frames := 0, cells := 0, slots := 0, locals := 0 } : Room) #[(.ref src), (.int (0 : Int32)), (.ref t), (.int (0 : Int32)), (.int (2 : Int32))] h0 [t] (fun v h => v = some (.int (2 : Int32)) ∧ Ax Z h t .byte [.int (b8 c0), .int (b8 c1)]) := by
  refine Ct.intro (Ls := #[.val (.ref src), .val (.int (0 : Int32)), .val (.ref t), .val (.int (0 : Int32)), .val (.int (2 : Int32)), .unset, .unset]) (plainFor_of_name pn_3) (by intro m; first | (simp [entryFrame, mkF, argsToLocals, Value.category]; done) | rfl) ?_
  refine Rn.iconst (pc' := 1) (v := (0 : Int32)) d15_0 rfl rfl ?_
  refine Rn.istore (pc' := 3) (Ls' := #[.val (.ref src), .val (.int (0 : Int32)), .val (.ref t), .val (.int (0 : Int32)), .val (.int (2 : Int32)), .val (.int (0 : Int32)), .unset]) d15_1 rfl rfl ?_
  refine Rn.iload (pc' := 5) d15_3 rfl rfl ?_
  refine Rn.iload (pc' := 7) d15_5 rfl rfl ?_
  refine Rn.icmp_ge (pc' := 44) (pn := 10) d15_7 (by decide) (by decide) rfl (fun cq1 => absurd cq1 (by decide)) (fun cq1 => ?_)
  refine Rn.aloadN (pc' := 11) d15_10 rfl rfl rfl ?_
  refine Rn.iloadN (pc' := 12) d15_11 rfl rfl ?_
  refine Rn.caload (pc' := 13) (v := .int c0) A (by decide) rfl d15_12 rfl ?_
  refine Rn.istore (pc' := 15) (Ls' := #[.val (.ref src), .val (.int (0 : Int32)), .val (.ref t), .val (.int (0 : Int32)), .val (.int (2 : Int32)), .val (.int (0 : Int32)), .val (.int c0)]) d15_13 rfl rfl ?_
  refine Rn.iload (pc' := 17) d15_15 rfl rfl ?_
  refine Rn.sipush (pc' := 20) (v := (255 : Int32)) d15_17 rfl rfl ?_
  refine Rn.icmp_le (pc' := 26) (pn := 23) d15_20 (by decide) (by decide) rfl (fun cq2 => ?_) (fun cq2 => absurd cq2 hp0)
  refine Rn.aloadN (pc' := 27) d15_26 rfl rfl rfl ?_
  refine Rn.iloadN (pc' := 28) d15_27 rfl rfl ?_
  refine Rn.iload (pc' := 30) d15_28 rfl rfl ?_
  refine Rn.i2b (pc' := 31) (v := (b8 c0)) d15_30 rfl rfl ?_
  refine Rn.bastore (pc' := 32) (v := .int (b8 c0)) B (by decide) (Nat.le_of_ble_eq_true rfl) (congrArg Value.int (nar_b8 c0)) (Or.inl (List.mem_of_getElem? (i := 0) rfl)) Sf.no d15_31 rfl (fun hq4 Wq3 Aq5 => ?_)
  have Aq6 : Ax Z hq4 t .byte ([.int (b8 c0), .int (0 : Int32)]) := Aq5
  refine Rn.iinc (pc' := 35) (v := (1 : Int32)) (Ls' := #[.val (.ref src), .val (.int (1 : Int32)), .val (.ref t), .val (.int (0 : Int32)), .val (.int (2 : Int32)), .val (.int (0 : Int32)), .val (.int c0)]) d15_32 rfl rfl rfl rfl ?_
  refine Rn.iinc (pc' := 38) (v := (1 : Int32)) (Ls' := #[.val (.ref src), .val (.int (1 : Int32)), .val (.ref t), .val (.int (1 : Int32)), .val (.int (2 : Int32)), .val (.int (0 : Int32)), .val (.int c0)]) d15_35 rfl rfl rfl rfl ?_
  refine Rn.iinc (pc' := 41) (v := (1 : Int32)) (Ls' := #[.val (.ref src), .val (.int (1 : Int32)), .val (.ref t), .val (.int (1 : Int32)), .val (.int (2 : Int32)), .val (.int (1 : Int32)), .val (.int c0)]) d15_38 rfl rfl rfl rfl ?_
  refine Rn.goto (pc' := 3) d15_41 (by decide) (by decide) ?_
  refine Rn.iload (pc' := 5) d15_3 rfl rfl ?_
  refine Rn.iload (pc' := 7) d15_5 rfl rfl ?_
  refine Rn.icmp_ge (pc' := 44) (pn := 10) d15_7 (by decide) (by decide) rfl (fun cq7 => absurd cq7 (by decide)) (fun cq7 => ?_)
  refine Rn.aloadN (pc' := 11) d15_10 rfl rfl rfl ?_
  refine Rn.iloadN (pc' := 12) d15_11 rfl rfl ?_
  have Fq8 := A.other Wq3 hn
  refine Rn.caload (pc' := 13) (v := .int c1) Fq8 (by decide) rfl d15_12 rfl ?_
  refine Rn.istore (pc' := 15) (Ls' := #[.val (.ref src), .val (.int (1 : Int32)), .val (.ref t), .val (.int (1 : Int32)), .val (.int (2 : Int32)), .val (.int (1 : Int32)), .val (.int c1)]) d15_13 rfl rfl ?_
  refine Rn.iload (pc' := 17) d15_15 rfl rfl ?_
  refine Rn.sipush (pc' := 20) (v := (255 : Int32)) d15_17 rfl rfl ?_
  refine Rn.icmp_le (pc' := 26) (pn := 23) d15_20 (by decide) (by decide) rfl (fun cq9 => ?_) (fun cq9 => absurd cq9 hp1)
  refine Rn.aloadN (pc' := 27) d15_26 rfl rfl rfl ?_
  refine Rn.iloadN (pc' := 28) d15_27 rfl rfl ?_
  refine Rn.iload (pc' := 30) d15_28 rfl rfl ?_
  refine Rn.i2b (pc' := 31) (v := (b8 c1)) d15_30 rfl rfl ?_
  refine Rn.bastore (pc' := 32) (v := .int (b8 c1)) Aq6 (by decide) (Nat.le_of_ble_eq_true rfl) (congrArg Value.int (nar_b8 c1)) (Or.inl (List.mem_of_getElem? (i := 0) rfl)) Sf.no d15_31 rfl (fun hq11 Wq10 Aq12 => ?_)
  have Aq13 : Ax Z hq11 t .byte ([.int (b8 c0), .int (b8 c1)]) := Aq12
  refine Rn.iinc (pc' := 35) (v := (2 : Int32)) (Ls' := #[.val (.ref src), .val (.int (2 : Int32)), .val (.ref t), .val (.int (1 : Int32)), .val (.int (2 : Int32)), .val (.int (1 : Int32)), .val (.int c1)]) d15_32 rfl rfl rfl rfl ?_
  refine Rn.iinc (pc' := 38) (v := (2 : Int32)) (Ls' := #[.val (.ref src), .val (.int (2 : Int32)), .val (.ref t), .val (.int (2 : Int32)), .val (.int (2 : Int32)), .val (.int (1 : Int32)), .val (.int c1)]) d15_35 rfl rfl rfl rfl ?_
  refine Rn.iinc (pc' := 41) (v := (2 : Int32)) (Ls' := #[.val (.ref src), .val (.int (2 : Int32)), .val (.ref t), .val (.int (2 : Int32)), .val (.int (2 : Int32)), .val (.int (2 : Int32)), .val (.int c1)]) d15_38 rfl rfl rfl rfl ?_
  refine Rn.goto (pc' := 3) d15_41 (by decide) (by decide) ?_
  refine Rn.iload (pc' := 5) d15_3 rfl rfl ?_
  refine Rn.iload (pc' := 7) d15_5 rfl rfl ?_
  refine Rn.icmp_ge (pc' := 44) (pn := 10) d15_7 (by decide) (by decide) rfl (fun cq14 => ?_) (fun cq14 => absurd cq14 (by decide))
  refine Rn.iload (pc' := 46) d15_44 rfl rfl ?_
  refine Rn.retI rfl d15_46 (Nat.le_of_ble_eq_true rfl) (Nat.le_of_ble_eq_true rfl) ?_
  exact ⟨rfl, Aq13⟩
set_option maxRecDepth 65536 in
set_option maxHeartbeats 40000000 in
theorem ct_cmpa2 (Z : State) (a0 : Array Value) (hw : ∀ d ∈ tables_1, d.before a0 Z = true) (src : Addr) (c0 c1 : Int32) (hp0 : ¬ 255 < c0) (hp1 : ¬ 255 < c1) (h0 : Heap) (A : Ax Z h0 src .char [.int c0, .int c1]) :
    Ct Z ⟨"java/lang/StringUTF16", "compress", "([CII)[B"⟩ jdk_52_method_16_code 6 (Option.some (FieldType.array FieldType.byte)) ({ frames := 1, cells := 1, slots := 2, locals := 18 } : Room) #[(.ref src), (.int (0 : Int32)), (.int (2 : Int32))] h0 [] (fun v h => ∃ t, v = some (.ref t) ∧ h0.size ≤ t ∧ Ax Z h t .byte [.int (b8 c0), .int (b8 c1)]) := by
  refine Ct.intro (Ls := #[.val (.ref src), .val (.int (0 : Int32)), .val (.int (2 : Int32)), .unset, .unset, .unset]) (plainFor_of_name pn_3) (by intro m; first | (simp [entryFrame, mkF, argsToLocals, Value.category]; done) | rfl) ?_
  refine Rn.iloadN (pc' := 1) d14_0 rfl rfl ?_
  refine Rn.newP (pc' := 3) (cap := 2) (ty := .byte) (ad := "[B") (hw _ (List.mem_of_getElem? (i := 20) rfl)) rfl rfl d14_1 (by decide) (Nat.le_of_ble_eq_true rfl) (by decide) (Nat.le_of_ble_eq_true rfl) (Nat.le_of_ble_eq_true rfl) rfl (fun hq2 aq1 eq3 gq4 Eq5 ⟨Aq6, Bq7⟩ => ?_)
  have nq8 : src ≠ aq1 := by rw [eq3]; exact Nat.ne_of_lt (A.lt)
  have Aq9 : Ax Z hq2 aq1 .byte ([.int (0 : Int32), .int (0 : Int32)]) := Aq6
  refine Rn.astoreN (pc' := 4) (Ls' := #[.val (.ref src), .val (.int (0 : Int32)), .val (.int (2 : Int32)), .val (.ref aq1), .unset, .unset]) d14_3 rfl rfl rfl ?_
  refine Rn.aloadN (pc' := 5) d14_4 rfl rfl rfl ?_
  refine Rn.iloadN (pc' := 6) d14_5 rfl rfl ?_
  refine Rn.aloadN (pc' := 7) d14_6 rfl rfl rfl ?_
  refine Rn.iconst (pc' := 8) (v := (0 : Int32)) d14_7 rfl rfl ?_
  refine Rn.iloadN (pc' := 9) d14_8 rfl rfl ?_
  have Fq10 := A.ext Eq5
  refine Rn.callS (pc' := 12) (argsL := [.ref src, .int (0 : Int32), .ref aq1, .int (0 : Int32), .int (2 : Int32)]) (rest := []) (ct_cmpb2 Z a0 hw src aq1 c0 c1 hp0 hp1 hq2 Fq10 Aq9 nq8) (hw _ (List.mem_of_getElem? (i := 75) rfl)) (hw _ (List.mem_of_getElem? (i := 76) rfl)) (hw _ (List.mem_of_getElem? (i := 73) rfl)) (hw _ (List.mem_of_getElem? (i := 77) rfl)) (by decide) rfl rfl (lenOf pd_3 rfl) rfl d14_9 rfl (Nat.le_of_ble_eq_true rfl) (Nat.le_of_ble_eq_true rfl) (Nat.le_of_ble_eq_true rfl) (Nat.le_of_ble_eq_true rfl) (allS (Or.inr gq4) all0) (allS Sf.no (all0)) (fun vq11 hq12 Kq13 qq14 => ?_)
  obtain ⟨rfl, At⟩ := qq14
  simp only [Option.toList, List.cons_append, List.nil_append]
  refine Rn.istore (pc' := 14) (Ls' := #[.val (.ref src), .val (.int (0 : Int32)), .val (.int (2 : Int32)), .val (.ref aq1), .val (.int (2 : Int32)), .unset]) d14_12 rfl rfl ?_
  refine Rn.iload (pc' := 16) d14_14 rfl rfl ?_
  refine Rn.iloadN (pc' := 17) d14_16 rfl rfl ?_
  refine Rn.icmp_eq (pc' := 57) (pn := 20) d14_17 (by decide) (by decide) rfl (fun cq15 => ?_) (fun cq15 => absurd cq15 (by decide))
  refine Rn.aloadN (pc' := 58) d14_57 rfl rfl rfl ?_
  refine Rn.retA (t := (.array .byte)) rfl rfl rfl d14_58 (Nat.le_of_ble_eq_true rfl) (Nat.le_of_ble_eq_true rfl) ?_
  exact ⟨_, rfl, gq4, At⟩
set_option maxRecDepth 65536 in
set_option maxHeartbeats 40000000 in
theorem ct_cod2 (Z : State) (a0 : Array Value) (hw : ∀ d ∈ tables_1, d.before a0 Z = true) (t : Addr) (c0 c1 : Int32) (h0 : Heap) (A : Ax Z h0 t .byte [.int (b8 c0), .int (b8 c1)]) :
    Ct Z ⟨"java/lang/StringUTF16", "coderFromArrayLen", "([BI)B"⟩ jdk_52_method_15_code 2 (Option.some FieldType.byte) ({ frames := 0, cells := 0, slots := 0, locals := 0 } : Room) #[(.ref t), (.int (2 : Int32))] h0 [] (fun v h => v = some (.int (0 : Int32)) ∧ h0 = h) := by
  refine Ct.intro (Ls := #[.val (.ref t), .val (.int (2 : Int32))]) (plainFor_of_name pn_3) (by intro m; first | (simp [entryFrame, mkF, argsToLocals, Value.category]; done) | rfl) ?_
  refine Rn.iloadN (pc' := 1) d16_0 rfl rfl ?_
  refine Rn.aloadN (pc' := 2) d16_1 rfl rfl rfl ?_
  refine Rn.arraylength (pc' := 3) (n := (2 : Int32)) A rfl d16_2 rfl ?_
  refine Rn.isub (pc' := 4) (v := (0 : Int32)) d16_3 rfl rfl ?_
  refine Rn.bipush (pc' := 6) (v := (31 : Int32)) d16_4 rfl rfl ?_
  refine Rn.iushr (pc' := 7) (v := (0 : Int32)) d16_6 rfl rfl ?_
  refine Rn.i2b (pc' := 8) (v := (0 : Int32)) d16_7 rfl rfl ?_
  refine Rn.retN (t := .byte) rfl (by simp) d16_8 (Nat.le_of_ble_eq_true rfl) (Nat.le_of_ble_eq_true rfl) ?_
  exact ⟨rfl, rfl⟩
set_option maxRecDepth 65536 in
set_option maxHeartbeats 40000000 in
theorem ct_siv2 (Z : State) (a0 : Array Value) (hw : ∀ d ∈ tables_1, d.before a0 Z = true) (x src : Addr) (c0 c1 : Int32) (hp0 : ¬ 255 < c0) (hp1 : ¬ 255 < c1) (z : Int32) (hz : z ≠ 0) (h0 : Heap) (E : Exa Z h0 x "java/lang/String") (V : Fld Z h0 x "java/lang/String" "value" "[B" .null) (Co : Fld Z h0 x "java/lang/String" "coder" "B" (.int (0 : Int32))) (A : Ax Z h0 src .char [.int c0, .int c1]) (hn : src ≠ x) (S : Sta Z Z.heap "java/lang/String" "COMPACT_STRINGS" "Z" (.int z)) :
    Ct Z ⟨"java/lang/String", "<init>", "([CIILjava/lang/Void;)V"⟩ jdk_42_method_149_code 6 (Option.none : Option FieldType) ({ frames := 2, cells := 1, slots := 2, locals := 36 } : Room) #[(.ref x), (.ref src), (.int (0 : Int32)), (.int (2 : Int32)), (.null)] h0 [x] (fun v h => v = none ∧ ∃ t, h0.size ≤ t ∧ Sg Z h x t [.int (b8 c0), .int (b8 c1)]) := by
  refine Ct.intro (Ls := #[.val (.ref x), .val (.ref src), .val (.int (0 : Int32)), .val (.int (2 : Int32)), .val (.null), .unset]) (plainFor_of_name pn_4) (by intro m; first | (simp [entryFrame, mkF, argsToLocals, Value.category]; done) | rfl) ?_
  refine Rn.aloadN (pc' := 1) d2_0 rfl rfl rfl ?_
  refine Rn.initO (pc' := 4) (hw _ (List.mem_of_getElem? (i := 16) rfl)) (hw _ (List.mem_of_getElem? (i := 17) rfl)) (hw _ (List.mem_of_getElem? (i := 18) rfl)) rfl d2_1 (Nat.le_of_ble_eq_true rfl) (Nat.le_of_ble_eq_true rfl) rfl ?_
  refine Rn.iloadN (pc' := 5) d2_4 rfl rfl ?_
  refine Rn.if_ne (pc' := 27) (pn := 8) d2_5 (by decide) (by decide) rfl (fun cq1 => ?_) (fun cq1 => absurd cq1 (by decide))
  refine Rn.old fun Oq2 _ => ?_
  refine Rn.getS (pc' := 30) (hw _ (List.mem_of_getElem? (i := 46) rfl)) Via.refl (S.ext Oq2) d2_27 rfl ?_
  refine Rn.if_eq (pc' := 58) (pn := 33) d2_30 (by decide) (by decide) rfl (fun cq3 => absurd cq3 hz) (fun cq3 => ?_)
  refine Rn.aloadN (pc' := 34) d2_33 rfl rfl rfl ?_
  refine Rn.iloadN (pc' := 35) d2_34 rfl rfl ?_
  refine Rn.iloadN (pc' := 36) d2_35 rfl rfl ?_
  refine Rn.callS (pc' := 39) (argsL := [.ref src, .int (0 : Int32), .int (2 : Int32)]) (rest := []) (ct_cmpa2 Z a0 hw src c0 c1 hp0 hp1 h0 A) (hw _ (List.mem_of_getElem? (i := 71) rfl)) (hw _ (List.mem_of_getElem? (i := 72) rfl)) (hw _ (List.mem_of_getElem? (i := 73) rfl)) (hw _ (List.mem_of_getElem? (i := 74) rfl)) (by decide) rfl rfl (lenOf pd_4 rfl) rfl d2_36 rfl (Nat.le_of_ble_eq_true rfl) (Nat.le_of_ble_eq_true rfl) (Nat.le_of_ble_eq_true rfl) (Nat.le_of_ble_eq_true rfl) (fun _ z => nomatch z) (fun _ z => nomatch z) (fun vq4 hq5 Kq6 qq7 => ?_)
  obtain ⟨t, rfl, ht, At⟩ := qq7
  simp only [Option.toList, List.cons_append, List.nil_append]
  have Fq8 := E.keep Kq6
  have nt_x : x ≠ t := Nat.ne_of_lt (Nat.lt_of_lt_of_le E.lt ht)
  have Fq9 := A.keep Kq6 nin0
  have nt_src : src ≠ t := Nat.ne_of_lt (Nat.lt_of_lt_of_le A.lt ht)
  refine Rn.astore (pc' := 41) (Ls' := #[.val (.ref x), .val (.ref src), .val (.int (0 : Int32)), .val (.int (2 : Int32)), .val (.null), .val (.ref t)]) d2_39 rfl rfl rfl ?_
  refine Rn.aloadN (pc' := 42) d2_41 rfl rfl rfl ?_
  refine Rn.aload (pc' := 44) d2_42 rfl rfl rfl ?_
  refine Rn.iloadN (pc' := 45) d2_44 rfl rfl ?_
  refine Rn.callS (pc' := 48) (argsL := [.ref t, .int (2 : Int32)]) (rest := [.ref x]) (ct_cod2 Z a0 hw t c0 c1 hq5 At) (hw _ (List.mem_of_getElem? (i := 78) rfl)) (hw _ (List.mem_of_getElem? (i := 79) rfl)) (hw _ (List.mem_of_getElem? (i := 73) rfl)) (hw _ (List.mem_of_getElem? (i := 80) rfl)) (by decide) rfl rfl (lenOf pd_6 rfl) rfl d2_45 rfl (Nat.le_of_ble_eq_true rfl) (Nat.le_of_ble_eq_true rfl) (Nat.le_of_ble_eq_true rfl) (Nat.le_of_ble_eq_true rfl) (fun _ z => nomatch z) (fun _ z => nomatch z) (fun vq10 hq11 Kq12 qq13 => ?_)
  obtain ⟨rfl, rfl⟩ := qq13
  simp only [Option.toList, List.cons_append, List.nil_append]
  have Fq14 := Co.keep Kq6 nin0
  refine Rn.putF (pc' := 51) (hw _ (List.mem_of_getElem? (i := 26) rfl)) Via.refl Fq14 Fq8 (Or.inr ⟨(hw _ (List.mem_of_getElem? (i := 22) rfl)), rfl, rfl⟩) (hw _ (List.mem_of_getElem? (i := 6) rfl)) (ty := .byte) (by decide) rfl rfl (Or.inl (List.mem_of_getElem? (i := 0) rfl)) Sf.no d2_48 rfl (fun hq16 Wq15 => ?_)
  have Fq17 := Fq14.same Wq15
  refine Rn.aloadN (pc' := 52) d2_51 rfl rfl rfl ?_
  refine Rn.aload (pc' := 54) d2_52 rfl rfl rfl ?_
  have Fq18 := V.keep Kq6 nin0
  have Fq19 := Fq18.other Wq15 (Or.inr (slot_ne (t := (.array .byte)) (t' := .byte) (Or.inr (hw _ (List.mem_of_getElem? (i := 21) rfl))) (Or.inr (hw _ (List.mem_of_getElem? (i := 22) rfl))) (by decide) (by decide) (by decide)))
  have Fq20 := Fq8.wr Wq15
  refine Rn.putF (pc' := 57) (hw _ (List.mem_of_getElem? (i := 25) rfl)) Via.refl Fq19 Fq20 (Or.inr ⟨(hw _ (List.mem_of_getElem? (i := 21) rfl)), rfl, rfl⟩) (hw _ (List.mem_of_getElem? (i := 6) rfl)) (ty := (.array .byte)) (by decide) rfl rfl (Or.inl (List.mem_of_getElem? (i := 0) rfl)) Sf.no d2_54 rfl (fun hq22 Wq21 => ?_)
  have Fq23 := Fq19.same Wq21
  refine Rn.retV rfl d2_57 (Nat.le_of_ble_eq_true rfl) (Nat.le_of_ble_eq_true rfl) ?_
  have Fq24 := Fq20.wr Wq21
  have Fq25 := Fq17.other Wq21 (Or.inr (slot_ne (t := .byte) (t' := (.array .byte)) (Or.inr (hw _ (List.mem_of_getElem? (i := 22) rfl))) (Or.inr (hw _ (List.mem_of_getElem? (i := 21) rfl))) (by decide) (by decide) (by decide)))
  have Fq26 := At.other Wq15 (Ne.symm nt_x)
  have Fq27 := Fq26.other Wq21 (Ne.symm nt_x)
  exact ⟨rfl, t, ht, Fq24, Fq25, Fq23, Fq27⟩
set_option maxRecDepth 65536 in
set_option maxHeartbeats 40000000 in
theorem ct_sl2 (Z : State) (a0 : Array Value) (hw : ∀ d ∈ tables_1, d.before a0 Z = true) (x src : Addr) (c0 c1 : Int32) (hp0 : ¬ 255 < c0) (hp1 : ¬ 255 < c1) (h0 : Heap) (E : Exa Z h0 x "java/lang/String") (V : Fld Z h0 x "java/lang/String" "value" "[B" .null) (Co : Fld Z h0 x "java/lang/String" "coder" "B" (.int (0 : Int32))) (A : Ax Z h0 src .char [.int c0, .int c1]) (hn : src ≠ x) (z : Int32) (hz : z ≠ 0) (S : Sta Z Z.heap "java/lang/String" "COMPACT_STRINGS" "Z" (.int z)) :
    Ct Z ⟨"java/lang/String", "<init>", "([C)V"⟩ jdk_42_method_3_code 2 (Option.none : Option FieldType) ({ frames := 5, cells := 2, slots := 6, locals := 74 } : Room) #[(.ref x), (.ref src)] h0 [x] (fun v h => v = none ∧ ∃ t, Sg Z h x t [.int (b8 c0), .int (b8 c1)]) := by
  refine Ct.intro (Ls := #[.val (.ref x), .val (.ref src)]) (plainFor_of_name pn_4) (by intro m; first | (simp [entryFrame, mkF, argsToLocals, Value.category]; done) | rfl) ?_
  refine Rn.aloadN (pc' := 1) d1_0 rfl rfl rfl ?_
  refine Rn.aloadN (pc' := 2) d1_1 rfl rfl rfl ?_
  refine Rn.iconst (pc' := 3) (v := (0 : Int32)) d1_2 rfl rfl ?_
  refine Rn.aloadN (pc' := 4) d1_3 rfl rfl rfl ?_
  refine Rn.arraylength (pc' := 5) (n := (2 : Int32)) A rfl d1_4 rfl ?_
  refine Rn.aconst_null (pc' := 6) d1_5 rfl ?_
  refine Rn.callI (pc' := 9) (argsL := [.ref src, .int (0 : Int32), .int (2 : Int32), .null]) (a := x) (rest := []) (ct_siv2 Z a0 hw x src c0 c1 hp0 hp1 z hz h0 E V Co A hn S) rfl (hw _ (List.mem_of_getElem? (i := 12) rfl)) (hw _ (List.mem_of_getElem? (i := 13) rfl)) (hw _ (List.mem_of_getElem? (i := 7) rfl)) (hw _ (List.mem_of_getElem? (i := 15) rfl)) (by decide) rfl rfl (lenOf pd_7 rfl) rfl d1_6 rfl (Nat.le_of_ble_eq_true rfl) (Nat.le_of_ble_eq_true rfl) (Nat.le_of_ble_eq_true rfl) (Nat.le_of_ble_eq_true rfl) (allS (Or.inl (List.mem_of_getElem? (i := 0) rfl)) all0) (allS Sf.no (all0)) (fun vq1 hq2 Kq3 qq4 => ?_)
  obtain ⟨rfl, t, ht, G⟩ := qq4
  simp only [Option.toList, List.cons_append, List.nil_append]
  refine Rn.retV rfl d1_9 (Nat.le_of_ble_eq_true rfl) (Nat.le_of_ble_eq_true rfl) ?_
  exact ⟨rfl, t, G⟩
def own_S2 (Z : State) (h : Heap) (x : Addr) (c0 c1 : Int32) : Prop := ∃ t, ((¬ 255 < c0 ∧ ¬ 255 < c1) ∧ Sg Z h x t [.int (b8 c0), .int (b8 c1)]) ∨ Su Z h x t [.int (b8 c0), .int (b8 (own_hi c0)), .int (b8 c1), .int (b8 (own_hi c1))]
theorem ct_s2 (Z : State) (a0 : Array Value) (hw : ∀ d ∈ tables_1, d.before a0 Z = true) (x src : Addr) (c0 c1 : Int32) (hC0 : own_C c0) (hC1 : own_C c1) (h0 : Heap) (E : Exa Z h0 x "java/lang/String") (V : Fld Z h0 x "java/lang/String" "value" "[B" .null) (Co : Fld Z h0 x "java/lang/String" "coder" "B" (.int (0 : Int32))) (A : Ax Z h0 src .char [.int c0, .int c1]) (hn : src ≠ x) (z : Int32) (hz : z ≠ 0) (S : Sta Z Z.heap "java/lang/String" "COMPACT_STRINGS" "Z" (.int z)) (UA : Sta Z Z.heap "java/lang/StringUTF16" "$assertionsDisabled" "Z" (.int (1 : Int32))) (UH : Sta Z Z.heap "java/lang/StringUTF16" "HI_BYTE_SHIFT" "I" (.int (0 : Int32))) (UL : Sta Z Z.heap "java/lang/StringUTF16" "LO_BYTE_SHIFT" "I" (.int (8 : Int32))) :
    Ct Z ⟨"java/lang/String", "<init>", "([C)V"⟩ jdk_42_method_3_code 2 (Option.none : Option FieldType) ({ frames := 5, cells := 2, slots := 6, locals := 74 } : Room) #[(.ref x), (.ref src)] h0 [x] (fun v h => v = none ∧ own_S2 Z h x c0 c1) := by
  by_cases hp0 : 255 < c0
  · exact (ct_sx2_0 Z a0 hw x src c0 c1 hp0 hC0 hC1 h0 E V Co A hn z hz S UA UH UL).weaken (fun v h _ q => ⟨q.1, q.2.elim fun t g => ⟨t, Or.inr g⟩⟩)
  by_cases hp1 : 255 < c1
  · exact (ct_sx2_1 Z a0 hw x src c0 c1 hp0 hp1 hC0 hC1 h0 E V Co A hn z hz S UA UH UL).weaken (fun v h _ q => ⟨q.1, q.2.elim fun t g => ⟨t, Or.inr g⟩⟩)
  exact (ct_sl2 Z a0 hw x src c0 c1 hp0 hp1 h0 E V Co A hn z hz S).weaken (fun v h _ q => ⟨q.1, q.2.elim fun t g => ⟨t, Or.inl ⟨⟨hp0, hp1⟩, g⟩⟩⟩)
set_option maxRecDepth 65536 in
set_option maxHeartbeats 40000000 in
theorem ct_nbl3 (Z : State) (a0 : Array Value) (hw : ∀ d ∈ tables_1, d.before a0 Z = true) (h0 : Heap) :
    Ct Z ⟨"java/lang/StringUTF16", "newBytesLength", "(I)I"⟩ jdk_52_method_3_code 1 (Option.some FieldType.int) ({ frames := 0, cells := 0, slots := 0, locals := 0 } : Room) #[(.int (3 : Int32))] h0 [] (fun v h => v = some (.int (6 : Int32)) ∧ h0 = h) := by
  refine Ct.intro (Ls := #[.val (.int (3 : Int32))]) (plainFor_of_name pn_3) (by intro m; first | (simp [entryFrame, mkF, argsToLocals, Value.category]; done) | rfl) ?_
  refine Rn.iloadN (pc' := 1) d21_0 rfl rfl ?_
  refine Rn.if_ge (pc' := 12) (pn := 4) d21_1 (by decide) (by decide) rfl (fun cq1 => ?_) (fun cq1 => absurd cq1 (by decide))
  refine Rn.iloadN (pc' := 13) d21_12 rfl rfl ?_
  refine Rn.ldcI (pc' := 15) (hw _ (List.mem_of_getElem? (i := 96) rfl)) d21_13 rfl ?_
  refine Rn.icmp_lt (pc' := 55) (pn := 18) d21_15 (by decide) (by decide) rfl (fun cq2 => ?_) (fun cq2 => absurd cq2 (by decide))
  refine Rn.iloadN (pc' := 56) d21_55 rfl rfl ?_
  refine Rn.iconst (pc' := 57) (v := (1 : Int32)) d21_56 rfl rfl ?_
  refine Rn.ishl (pc' := 58) (v := (6 : Int32)) d21_57 rfl rfl ?_
  refine Rn.retI rfl d21_58 (Nat.le_of_ble_eq_true rfl) (Nat.le_of_ble_eq_true rfl) ?_
  exact ⟨rfl, rfl⟩
set_option maxRecDepth 65536 in
set_option maxHeartbeats 40000000 in
theorem ct_nbf3 (Z : State) (a0 : Array Value) (hw : ∀ d ∈ tables_1, d.before a0 Z = true) (h0 : Heap) :
    Ct Z ⟨"java/lang/StringUTF16", "newBytesFor", "(I)[B"⟩ jdk_52_method_2_code 1 (Option.some (FieldType.array FieldType.byte)) ({ frames := 1, cells := 1, slots := 6, locals := 12 } : Room) #[(.int (3 : Int32))] h0 [] (fun v h => ∃ t, v = some (.ref t) ∧ h0.size ≤ t ∧ Ax Z h t .byte [.int (0 : Int32), .int (0 : Int32), .int (0 : Int32), .int (0 : Int32), .int (0 : Int32), .int (0 : Int32)]) := by
  refine Ct.intro (Ls := #[.val (.int (3 : Int32))]) (plainFor_of_name pn_3) (by intro m; first | (simp [entryFrame, mkF, argsToLocals, Value.category]; done) | rfl) ?_
  refine Rn.iloadN (pc' := 1) d20_0 rfl rfl ?_
  refine Rn.callS (pc' := 4) (argsL := [.int (3 : Int32)]) (rest := []) (ct_nbl3 Z a0 hw h0) (hw _ (List.mem_of_getElem? (i := 93) rfl)) (hw _ (List.mem_of_getElem? (i := 94) rfl)) (hw _ (List.mem_of_getElem? (i := 73) rfl)) (hw _ (List.mem_of_getElem? (i := 95) rfl)) (by decide) rfl rfl (lenOf pd_0 rfl) rfl d20_1 rfl (Nat.le_of_ble_eq_true rfl) (Nat.le_of_ble_eq_true rfl) (Nat.le_of_ble_eq_true rfl) (Nat.le_of_ble_eq_true rfl) (fun _ z => nomatch z) (fun _ z => nomatch z) (fun vq1 hq2 Kq3 qq4 => ?_)
  obtain ⟨rfl, rfl⟩ := qq4
  simp only [Option.toList, List.cons_append, List.nil_append]
  refine Rn.newP (pc' := 6) (cap := 6) (ty := .byte) (ad := "[B") (hw _ (List.mem_of_getElem? (i := 20) rfl)) rfl rfl d20_4 (by decide) (Nat.le_of_ble_eq_true rfl) (by decide) (Nat.le_of_ble_eq_true rfl) (Nat.le_of_ble_eq_true rfl) rfl (fun hq6 aq5 eq7 gq8 Eq9 ⟨Aq10, Bq11⟩ => ?_)
  have Aq12 : Ax Z hq6 aq5 .byte ([.int (0 : Int32), .int (0 : Int32), .int (0 : Int32), .int (0 : Int32), .int (0 : Int32), .int (0 : Int32)]) := Aq10
  refine Rn.retA (t := (.array .byte)) rfl rfl rfl d20_6 (Nat.le_of_ble_eq_true rfl) (Nat.le_of_ble_eq_true rfl) ?_
  exact ⟨_, rfl, gq8, Aq12⟩
set_option maxRecDepth 65536 in
set_option maxHeartbeats 40000000 in
theorem ct_pch3_0 (Z : State) (a0 : Array Value) (hw : ∀ d ∈ tables_1, d.before a0 Z = true) (t : Addr) (c0 : Int32) (h0 : Heap) (A : Ax Z h0 t .byte [.int (0 : Int32), .int (0 : Int32), .int (0 : Int32), .int (0 : Int32), .int (0 : Int32), .int (0 : Int32)]) (UA : Sta Z Z.heap "java/lang/StringUTF16" "$assertionsDisabled" "Z" (.int (1 : Int32))) (UH : Sta Z Z.heap "java/lang/StringUTF16" "HI_BYTE_SHIFT" "I" (.int (0 : Int32))) (UL : Sta Z Z.heap "java/lang/StringUTF16" "LO_BYTE_SHIFT" "I" (.int (8 : Int32))) :
    Ct Z ⟨"java/lang/StringUTF16", "putChar", "([BII)V"⟩ jdk_52_method_4_code 3 (Option.none : Option FieldType) ({ frames := 0, cells := 0, slots := 0, locals := 0 } : Room) #[(.ref t), (.int (0 : Int32)), (.int c0)] h0 [t] (fun v h => v = none ∧ Ax Z h t .byte [.int (b8 c0), .int (b8 (own_hi c0)), .int (0 : Int32), .int (0 : Int32), .int (0 : Int32), .int (0 : Int32)]) := by
  refine Ct.intro (Ls := #[.val (.ref t), .val (.int (0 : Int32)), .val (.int c0)]) (plainFor_of_name pn_3) (by intro m; first | (simp [entryFrame, mkF, argsToLocals, Value.category]; done) | rfl) ?_
  refine Rn.old fun Oq1 _ => ?_
  refine Rn.getS (pc' := 3) (hw _ (List.mem_of_getElem? (i := 100) rfl)) Via.refl (UA.ext Oq1) d22_0 rfl ?_
  refine Rn.if_ne (pc' := 28) (pn := 6) d22_3 (by decide) (by decide) rfl (fun cq2 => ?_) (fun cq2 => absurd cq2 (by decide))
  refine Rn.iloadN (pc' := 29) d22_28 rfl rfl ?_
  refine Rn.iconst (pc' := 30) (v := (1 : Int32)) d22_29 rfl rfl ?_
  refine Rn.ishl (pc' := 31) (v := (0 : Int32)) d22_30 rfl rfl ?_
  refine Rn.istoreN (pc' := 32) (Ls' := #[.val (.ref t), .val (.int (0 : Int32)), .val (.int c0)]) d22_31 rfl rfl ?_
  refine Rn.aloadN (pc' := 33) d22_32 rfl rfl rfl ?_
  refine Rn.iloadN (pc' := 34) d22_33 rfl rfl ?_
  refine Rn.iinc (pc' := 37) (v := (1 : Int32)) (Ls' := #[.val (.ref t), .val (.int (1 : Int32)), .val (.int c0)]) d22_34 rfl rfl rfl rfl ?_
  refine Rn.iloadN (pc' := 38) d22_37 rfl rfl ?_
  refine Rn.old fun Oq3 _ => ?_
  refine Rn.getS (pc' := 41) (hw _ (List.mem_of_getElem? (i := 101) rfl)) Via.refl (UH.ext Oq3) d22_38 rfl ?_
  refine Rn.ishr (pc' := 42) (v := c0) d22_41 (own_shr0 _) rfl ?_
  refine Rn.i2b (pc' := 43) (v := (b8 c0)) d22_42 rfl rfl ?_
  refine Rn.bastore (pc' := 44) (v := .int (b8 c0)) A (by decide) (Nat.le_of_ble_eq_true rfl) (congrArg Value.int (nar_b8 c0)) (Or.inl (List.mem_of_getElem? (i := 0) rfl)) Sf.no d22_43 rfl (fun hq5 Wq4 Aq6 => ?_)
  have Aq7 : Ax Z hq5 t .byte ([.int (b8 c0), .int (0 : Int32), .int (0 : Int32), .int (0 : Int32), .int (0 : Int32), .int (0 : Int32)]) := Aq6
  refine Rn.aloadN (pc' := 45) d22_44 rfl rfl rfl ?_
  refine Rn.iloadN (pc' := 46) d22_45 rfl rfl ?_
  refine Rn.iloadN (pc' := 47) d22_46 rfl rfl ?_
  refine Rn.old fun Oq8 _ => ?_
  refine Rn.getS (pc' := 50) (hw _ (List.mem_of_getElem? (i := 102) rfl)) Via.refl (UL.ext Oq8) d22_47 rfl ?_
  refine Rn.ishr (pc' := 51) (v := (own_hi c0)) d22_50 rfl rfl ?_
  refine Rn.i2b (pc' := 52) (v := (b8 (own_hi c0))) d22_51 rfl rfl ?_
  refine Rn.bastore (pc' := 53) (v := .int (b8 (own_hi c0))) Aq7 (by decide) (Nat.le_of_ble_eq_true rfl) (congrArg Value.int (nar_b8 (own_hi c0))) (Or.inl (List.mem_of_getElem? (i := 0) rfl)) Sf.no d22_52 rfl (fun hq10 Wq9 Aq11 => ?_)
  have Aq12 : Ax Z hq10 t .byte ([.int (b8 c0), .int (b8 (own_hi c0)), .int (0 : Int32), .int (0 : Int32), .int (0 : Int32), .int (0 : Int32)]) := Aq11
  refine Rn.retV rfl d22_53 (Nat.le_of_ble_eq_true rfl) (Nat.le_of_ble_eq_true rfl) ?_
  exact ⟨rfl, Aq12⟩
set_option maxRecDepth 65536 in
set_option maxHeartbeats 40000000 in
theorem ct_gch3_0 (Z : State) (a0 : Array Value) (hw : ∀ d ∈ tables_1, d.before a0 Z = true) (t : Addr) (c0 c1 c2 : Int32) (hC : own_C c0) (h0 : Heap) (A : Ax Z h0 t .byte [.int (b8 c0), .int (b8 (own_hi c0)), .int (b8 c1), .int (b8 (own_hi c1)), .int (b8 c2), .int (b8 (own_hi c2))]) (UA : Sta Z Z.heap "java/lang/StringUTF16" "$assertionsDisabled" "Z" (.int (1 : Int32))) (UH : Sta Z Z.heap "java/lang/StringUTF16" "HI_BYTE_SHIFT" "I" (.int (0 : Int32))) (UL : Sta Z Z.heap "java/lang/StringUTF16" "LO_BYTE_SHIFT" "I" (.int (8 : Int32))) :
    Ct Z ⟨"java/lang/StringUTF16", "getChar", "([BI)C"⟩ jdk_52_method_5_code 2 (Option.some FieldType.char) ({ frames := 0, cells := 0, slots := 0, locals := 0 } : Room) #[(.ref t), (.int (0 : Int32))] h0 [] (fun v h => v = some (.int c0) ∧ h0 = h) := by
  refine Ct.intro (Ls := #[.val (.ref t), .val (.int (0 : Int32))]) (plainFor_of_name pn_3) (by intro m; first | (simp [entryFrame, mkF, argsToLocals, Value.category]; done) | rfl) ?_
  refine Rn.old fun Oq1 _ => ?_
  refine Rn.getS (pc' := 3) (hw _ (List.mem_of_getElem? (i := 100) rfl)) Via.refl (UA.ext Oq1) d23_0 rfl ?_
  refine Rn.if_ne (pc' := 28) (pn := 6) d23_3 (by decide) (by decide) rfl (fun cq2 => ?_) (fun cq2 => absurd cq2 (by decide))
  refine Rn.iloadN (pc' := 29) d23_28 rfl rfl ?_
  refine Rn.iconst (pc' := 30) (v := (1 : Int32)) d23_29 rfl rfl ?_
  refine Rn.ishl (pc' := 31) (v := (0 : Int32)) d23_30 rfl rfl ?_
  refine Rn.istoreN (pc' := 32) (Ls' := #[.val (.ref t), .val (.int (0 : Int32))]) d23_31 rfl rfl ?_
  refine Rn.aloadN (pc' := 33) d23_32 rfl rfl rfl ?_
  refine Rn.iloadN (pc' := 34) d23_33 rfl rfl ?_
  refine Rn.iinc (pc' := 37) (v := (1 : Int32)) (Ls' := #[.val (.ref t), .val (.int (1 : Int32))]) d23_34 rfl rfl rfl rfl ?_
  refine Rn.baload (pc' := 38) (v := .int (b8 c0)) A (by decide) rfl d23_37 rfl ?_
  refine Rn.sipush (pc' := 41) (v := (255 : Int32)) d23_38 rfl rfl ?_
  refine Rn.iand (pc' := 42) (v := ((b8 c0) &&& (255 : Int32))) d23_41 rfl rfl ?_
  refine Rn.old fun Oq3 _ => ?_
  refine Rn.getS (pc' := 45) (hw _ (List.mem_of_getElem? (i := 101) rfl)) Via.refl (UH.ext Oq3) d23_42 rfl ?_
  refine Rn.ishl (pc' := 46) (v := (((b8 c0) &&& (255 : Int32)) <<< ((0 : Int32) &&& 31))) d23_45 rfl rfl ?_
  refine Rn.aloadN (pc' := 47) d23_46 rfl rfl rfl ?_
  refine Rn.iloadN (pc' := 48) d23_47 rfl rfl ?_
  refine Rn.baload (pc' := 49) (v := .int (b8 (own_hi c0))) A (by decide) rfl d23_48 rfl ?_
  refine Rn.sipush (pc' := 52) (v := (255 : Int32)) d23_49 rfl rfl ?_
  refine Rn.iand (pc' := 53) (v := ((b8 (own_hi c0)) &&& (255 : Int32))) d23_52 rfl rfl ?_
  refine Rn.old fun Oq4 _ => ?_
  refine Rn.getS (pc' := 56) (hw _ (List.mem_of_getElem? (i := 102) rfl)) Via.refl (UL.ext Oq4) d23_53 rfl ?_
  refine Rn.ishl (pc' := 57) (v := (((b8 (own_hi c0)) &&& (255 : Int32)) <<< ((8 : Int32) &&& 31))) d23_56 rfl rfl ?_
  refine Rn.ior (pc' := 58) (v := ((((b8 c0) &&& (255 : Int32)) <<< ((0 : Int32) &&& 31)) ||| (((b8 (own_hi c0)) &&& (255 : Int32)) <<< ((8 : Int32) &&& 31)))) d23_57 rfl rfl ?_
  refine Rn.i2c (pc' := 59) (v := c0) d23_58 (own_gc hC) rfl ?_
  refine Rn.retN (t := .char) rfl (by simp) d23_59 (Nat.le_of_ble_eq_true rfl) (Nat.le_of_ble_eq_true rfl) ?_
  exact ⟨congrArg (fun q => some (Value.int q)) hC.2, rfl⟩
set_option maxRecDepth 65536 in
set_option maxHeartbeats 40000000 in
theorem ct_pch3_1 (Z : State) (a0 : Array Value) (hw : ∀ d ∈ tables_1, d.before a0 Z = true) (t : Addr) (c0 c1 : Int32) (h0 : Heap) (A : Ax Z h0 t .byte [.int (b8 c0), .int (b8 (own_hi c0)), .int (0 : Int32), .int (0 : Int32), .int (0 : Int32), .int (0 : Int32)]) (UA : Sta Z Z.heap "java/lang/StringUTF16" "$assertionsDisabled" "Z" (.int (1 : Int32))) (UH : Sta Z Z.heap "java/lang/StringUTF16" "HI_BYTE_SHIFT" "I" (.int (0 : Int32))) (UL : Sta Z Z.heap "java/lang/StringUTF16" "LO_BYTE_SHIFT" "I" (.int (8 : Int32))) :
    Ct Z ⟨"java/lang/StringUTF16", "putChar", "([BII)V"⟩ jdk_52_method_4_code 3 (Option.none : Option FieldType) ({ frames := 0, cells := 0, slots := 0, locals := 0 } : Room) #[(.ref t), (.int (1 : Int32)), (.int c1)] h0 [t] (fun v h => v = none ∧ Ax Z h t .byte [.int (b8 c0), .int (b8 (own_hi c0)), .int (b8 c1), .int (b8 (own_hi c1)), .int (0 : Int32), .int (0 : Int32)]) := by
  refine Ct.intro (Ls := #[.val (.ref t), .val (.int (1 : Int32)), .val (.int c1)]) (plainFor_of_name pn_3) (by intro m; first | (simp [entryFrame, mkF, argsToLocals, Value.category]; done) | rfl) ?_
  refine Rn.old fun Oq1 _ => ?_
  refine Rn.getS (pc' := 3) (hw _ (List.mem_of_getElem? (i := 100) rfl)) Via.refl (UA.ext Oq1) d22_0 rfl ?_
  refine Rn.if_ne (pc' := 28) (pn := 6) d22_3 (by decide) (by decide) rfl (fun cq2 => ?_) (fun cq2 => absurd cq2 (by decide))
  refine Rn.iloadN (pc' := 29) d22_28 rfl rfl ?_
  refine Rn.iconst (pc' := 30) (v := (1 : Int32)) d22_29 rfl rfl ?_
  refine Rn.ishl (pc' := 31) (v := (2 : Int32)) d22_30 rfl rfl ?_
  refine Rn.istoreN (pc' := 32) (Ls' := #[.val (.ref t), .val (.int (2 : Int32)), .val (.int c1)]) d22_31 rfl rfl ?_
  refine Rn.aloadN (pc' := 33) d22_32 rfl rfl rfl ?_
  refine Rn.iloadN (pc' := 34) d22_33 rfl rfl ?_
  refine Rn.iinc (pc' := 37) (v := (3 : Int32)) (Ls' := #[.val (.ref t), .val (.int (3 : Int32)), .val (.int c1)]) d22_34 rfl rfl rfl rfl ?_
  refine Rn.iloadN (pc' := 38) d22_37 rfl rfl ?_
  refine Rn.old fun Oq3 _ => ?_
  refine Rn.getS (pc' := 41) (hw _ (List.mem_of_getElem? (i := 101) rfl)) Via.refl (UH.ext Oq3) d22_38 rfl ?_
  refine Rn.ishr (pc' := 42) (v := c1) d22_41 (own_shr0 _) rfl ?_
  refine Rn.i2b (pc' := 43) (v := (b8 c1)) d22_42 rfl rfl ?_
  refine Rn.bastore (pc' := 44) (v := .int (b8 c1)) A (by decide) (Nat.le_of_ble_eq_true rfl) (congrArg Value.int (nar_b8 c1)) (Or.inl (List.mem_of_getElem? (i := 0) rfl)) Sf.no d22_43 rfl (fun hq5 Wq4 Aq6 => ?_)
  have Aq7 : Ax Z hq5 t .byte ([.int (b8 c0), .int (b8 (own_hi c0)), .int (b8 c1), .int (0 : Int32), .int (0 : Int32), .int (0 : Int32)]) := Aq6
  refine Rn.aloadN (pc' := 45) d22_44 rfl rfl rfl ?_
  refine Rn.iloadN (pc' := 46) d22_45 rfl rfl ?_
  refine Rn.iloadN (pc' := 47) d22_46 rfl rfl ?_
  refine Rn.old fun Oq8 _ => ?_
  refine Rn.getS (pc' := 50) (hw _ (List.mem_of_getElem? (i := 102) rfl)) Via.refl (UL.ext Oq8) d22_47 rfl ?_
  refine Rn.ishr (pc' := 51) (v := (own_hi c1)) d22_50 rfl rfl ?_
  refine Rn.i2b (pc' := 52) (v := (b8 (own_hi c1))) d22_51 rfl rfl ?_
  refine Rn.bastore (pc' := 53) (v := .int (b8 (own_hi c1))) Aq7 (by decide) (Nat.le_of_ble_eq_true rfl) (congrArg Value.int (nar_b8 (own_hi c1))) (Or.inl (List.mem_of_getElem? (i := 0) rfl)) Sf.no d22_52 rfl (fun hq10 Wq9 Aq11 => ?_)
  have Aq12 : Ax Z hq10 t .byte ([.int (b8 c0), .int (b8 (own_hi c0)), .int (b8 c1), .int (b8 (own_hi c1)), .int (0 : Int32), .int (0 : Int32)]) := Aq11
  refine Rn.retV rfl d22_53 (Nat.le_of_ble_eq_true rfl) (Nat.le_of_ble_eq_true rfl) ?_
  exact ⟨rfl, Aq12⟩
set_option maxRecDepth 65536 in
set_option maxHeartbeats 40000000 in
theorem ct_gch3_1 (Z : State) (a0 : Array Value) (hw : ∀ d ∈ tables_1, d.before a0 Z = true) (t : Addr) (c0 c1 c2 : Int32) (hC : own_C c1) (h0 : Heap) (A : Ax Z h0 t .byte [.int (b8 c0), .int (b8 (own_hi c0)), .int (b8 c1), .int (b8 (own_hi c1)), .int (b8 c2), .int (b8 (own_hi c2))]) (UA : Sta Z Z.heap "java/lang/StringUTF16" "$assertionsDisabled" "Z" (.int (1 : Int32))) (UH : Sta Z Z.heap "java/lang/StringUTF16" "HI_BYTE_SHIFT" "I" (.int (0 : Int32))) (UL : Sta Z Z.heap "java/lang/StringUTF16" "LO_BYTE_SHIFT" "I" (.int (8 : Int32))) :
    Ct Z ⟨"java/lang/StringUTF16", "getChar", "([BI)C"⟩ jdk_52_method_5_code 2 (Option.some FieldType.char) ({ frames := 0, cells := 0, slots := 0, locals := 0 } : Room) #[(.ref t), (.int (1 : Int32))] h0 [] (fun v h => v = some (.int c1) ∧ h0 = h) := by
  refine Ct.intro (Ls := #[.val (.ref t), .val (.int (1 : Int32))]) (plainFor_of_name pn_3) (by intro m; first | (simp [entryFrame, mkF, argsToLocals, Value.category]; done) | rfl) ?_
  refine Rn.old fun Oq1 _ => ?_
  refine Rn.getS (pc' := 3) (hw _ (List.mem_of_getElem? (i := 100) rfl)) Via.refl (UA.ext Oq1) d23_0 rfl ?_
  refine Rn.if_ne (pc' := 28) (pn := 6) d23_3 (by decide) (by decide) rfl (fun cq2 => ?_) (fun cq2 => absurd cq2 (by decide))
  refine Rn.iloadN (pc' := 29) d23_28 rfl rfl ?_
  refine Rn.iconst (pc' := 30) (v := (1 : Int32)) d23_29 rfl rfl ?_
  refine Rn.ishl (pc' := 31) (v := (2 : Int32)) d23_30 rfl rfl ?_
  refine Rn.istoreN (pc' := 32) (Ls' := #[.val (.ref t), .val (.int (2 : Int32))]) d23_31 rfl rfl ?_
  refine Rn.aloadN (pc' := 33) d23_32 rfl rfl rfl ?_
  refine Rn.iloadN (pc' := 34) d23_33 rfl rfl ?_
  refine Rn.iinc (pc' := 37) (v := (3 : Int32)) (Ls' := #[.val (.ref t), .val (.int (3 : Int32))]) d23_34 rfl rfl rfl rfl ?_
  refine Rn.baload (pc' := 38) (v := .int (b8 c1)) A (by decide) rfl d23_37 rfl ?_
  refine Rn.sipush (pc' := 41) (v := (255 : Int32)) d23_38 rfl rfl ?_
  refine Rn.iand (pc' := 42) (v := ((b8 c1) &&& (255 : Int32))) d23_41 rfl rfl ?_
  refine Rn.old fun Oq3 _ => ?_
  refine Rn.getS (pc' := 45) (hw _ (List.mem_of_getElem? (i := 101) rfl)) Via.refl (UH.ext Oq3) d23_42 rfl ?_
  refine Rn.ishl (pc' := 46) (v := (((b8 c1) &&& (255 : Int32)) <<< ((0 : Int32) &&& 31))) d23_45 rfl rfl ?_
  refine Rn.aloadN (pc' := 47) d23_46 rfl rfl rfl ?_
  refine Rn.iloadN (pc' := 48) d23_47 rfl rfl ?_
  refine Rn.baload (pc' := 49) (v := .int (b8 (own_hi c1))) A (by decide) rfl d23_48 rfl ?_
  refine Rn.sipush (pc' := 52) (v := (255 : Int32)) d23_49 rfl rfl ?_
  refine Rn.iand (pc' := 53) (v := ((b8 (own_hi c1)) &&& (255 : Int32))) d23_52 rfl rfl ?_
  refine Rn.old fun Oq4 _ => ?_
  refine Rn.getS (pc' := 56) (hw _ (List.mem_of_getElem? (i := 102) rfl)) Via.refl (UL.ext Oq4) d23_53 rfl ?_
  refine Rn.ishl (pc' := 57) (v := (((b8 (own_hi c1)) &&& (255 : Int32)) <<< ((8 : Int32) &&& 31))) d23_56 rfl rfl ?_
  refine Rn.ior (pc' := 58) (v := ((((b8 c1) &&& (255 : Int32)) <<< ((0 : Int32) &&& 31)) ||| (((b8 (own_hi c1)) &&& (255 : Int32)) <<< ((8 : Int32) &&& 31)))) d23_57 rfl rfl ?_
  refine Rn.i2c (pc' := 59) (v := c1) d23_58 (own_gc hC) rfl ?_
  refine Rn.retN (t := .char) rfl (by simp) d23_59 (Nat.le_of_ble_eq_true rfl) (Nat.le_of_ble_eq_true rfl) ?_
  exact ⟨congrArg (fun q => some (Value.int q)) hC.2, rfl⟩
set_option maxRecDepth 65536 in
set_option maxHeartbeats 40000000 in
theorem ct_pch3_2 (Z : State) (a0 : Array Value) (hw : ∀ d ∈ tables_1, d.before a0 Z = true) (t : Addr) (c0 c1 c2 : Int32) (h0 : Heap) (A : Ax Z h0 t .byte [.int (b8 c0), .int (b8 (own_hi c0)), .int (b8 c1), .int (b8 (own_hi c1)), .int (0 : Int32), .int (0 : Int32)]) (UA : Sta Z Z.heap "java/lang/StringUTF16" "$assertionsDisabled" "Z" (.int (1 : Int32))) (UH : Sta Z Z.heap "java/lang/StringUTF16" "HI_BYTE_SHIFT" "I" (.int (0 : Int32))) (UL : Sta Z Z.heap "java/lang/StringUTF16" "LO_BYTE_SHIFT" "I" (.int (8 : Int32))) :
    Ct Z ⟨"java/lang/StringUTF16", "putChar", "([BII)V"⟩ jdk_52_method_4_code 3 (Option.none : Option FieldType) ({ frames := 0, cells := 0, slots := 0, locals := 0 } : Room) #[(.ref t), (.int (2 : Int32)), (.int c2)] h0 [t] (fun v h => v = none ∧ Ax Z h t .byte [.int (b8 c0), .int (b8 (own_hi c0)), .int (b8 c1), .int (b8 (own_hi c1)), .int (b8 c2), .int (b8 (own_hi c2))]) := by
  refine Ct.intro (Ls := #[.val (.ref t), .val (.int (2 : Int32)), .val (.int c2)]) (plainFor_of_name pn_3) (by intro m; first | (simp [entryFrame, mkF, argsToLocals, Value.category]; done) | rfl) ?_
  refine Rn.old fun Oq1 _ => ?_
  refine Rn.getS (pc' := 3) (hw _ (List.mem_of_getElem? (i := 100) rfl)) Via.refl (UA.ext Oq1) d22_0 rfl ?_
  refine Rn.if_ne (pc' := 28) (pn := 6) d22_3 (by decide) (by decide) rfl (fun cq2 => ?_) (fun cq2 => absurd cq2 (by decide))
  refine Rn.iloadN (pc' := 29) d22_28 rfl rfl ?_
  refine Rn.iconst (pc' := 30) (v := (1 : Int32)) d22_29 rfl rfl ?_
  refine Rn.ishl (pc' := 31) (v := (4 : Int32)) d22_30 rfl rfl ?_
  refine Rn.istoreN (pc' := 32) (Ls' := #[.val (.ref t), .val (.int (4 : Int32)), .val (.int c2)]) d22_31 rfl rfl ?_
  refine Rn.aloadN (pc' := 33) d22_32 rfl rfl rfl ?_
  refine Rn.iloadN (pc' := 34) d22_33 rfl rfl ?_
  refine Rn.iinc (pc' := 37) (v := (5 : Int32)) (Ls' := #[.val (.ref t), .val (.int (5 : Int32)), .val (.int c2)]) d22_34 rfl rfl rfl rfl ?_
  refine Rn.iloadN (pc' := 38) d22_37 rfl rfl ?_
  refine Rn.old fun Oq3 _ => ?_
  refine Rn.getS (pc' := 41) (hw _ (List.mem_of_getElem? (i := 101) rfl)) Via.refl (UH.ext Oq3) d22_38 rfl ?_
  refine Rn.ishr (pc' := 42) (v := c2) d22_41 (own_shr0 _) rfl ?_
  refine Rn.i2b (pc' := 43) (v := (b8 c2)) d22_42 rfl rfl ?_
  refine Rn.bastore (pc' := 44) (v := .int (b8 c2)) A (by decide) (Nat.le_of_ble_eq_true rfl) (congrArg Value.int (nar_b8 c2)) (Or.inl (List.mem_of_getElem? (i := 0) rfl)) Sf.no d22_43 rfl (fun hq5 Wq4 Aq6 => ?_)
  have Aq7 : Ax Z hq5 t .byte ([.int (b8 c0), .int (b8 (own_hi c0)), .int (b8 c1), .int (b8 (own_hi c1)), .int (b8 c2), .int (0 : Int32)]) := Aq6
  refine Rn.aloadN (pc' := 45) d22_44 rfl rfl rfl ?_
  refine Rn.iloadN (pc' := 46) d22_45 rfl rfl ?_
  refine Rn.iloadN (pc' := 47) d22_46 rfl rfl ?_
  refine Rn.old fun Oq8 _ => ?_
  refine Rn.getS (pc' := 50) (hw _ (List.mem_of_getElem? (i := 102) rfl)) Via.refl (UL.ext Oq8) d22_47 rfl ?_
  refine Rn.ishr (pc' := 51) (v := (own_hi c2)) d22_50 rfl rfl ?_
  refine Rn.i2b (pc' := 52) (v := (b8 (own_hi c2))) d22_51 rfl rfl ?_
  refine Rn.bastore (pc' := 53) (v := .int (b8 (own_hi c2))) Aq7 (by decide) (Nat.le_of_ble_eq_true rfl) (congrArg Value.int (nar_b8 (own_hi c2))) (Or.inl (List.mem_of_getElem? (i := 0) rfl)) Sf.no d22_52 rfl (fun hq10 Wq9 Aq11 => ?_)
  have Aq12 : Ax Z hq10 t .byte ([.int (b8 c0), .int (b8 (own_hi c0)), .int (b8 c1), .int (b8 (own_hi c1)), .int (b8 c2), .int (b8 (own_hi c2))]) := Aq11
  refine Rn.retV rfl d22_53 (Nat.le_of_ble_eq_true rfl) (Nat.le_of_ble_eq_true rfl) ?_
  exact ⟨rfl, Aq12⟩
set_option maxRecDepth 65536 in
set_option maxHeartbeats 40000000 in
theorem ct_gch3_2 (Z : State) (a0 : Array Value) (hw : ∀ d ∈ tables_1, d.before a0 Z = true) (t : Addr) (c0 c1 c2 : Int32) (hC : own_C c2) (h0 : Heap) (A : Ax Z h0 t .byte [.int (b8 c0), .int (b8 (own_hi c0)), .int (b8 c1), .int (b8 (own_hi c1)), .int (b8 c2), .int (b8 (own_hi c2))]) (UA : Sta Z Z.heap "java/lang/StringUTF16" "$assertionsDisabled" "Z" (.int (1 : Int32))) (UH : Sta Z Z.heap "java/lang/StringUTF16" "HI_BYTE_SHIFT" "I" (.int (0 : Int32))) (UL : Sta Z Z.heap "java/lang/StringUTF16" "LO_BYTE_SHIFT" "I" (.int (8 : Int32))) :
    Ct Z ⟨"java/lang/StringUTF16", "getChar", "([BI)C"⟩ jdk_52_method_5_code 2 (Option.some FieldType.char) ({ frames := 0, cells := 0, slots := 0, locals := 0 } : Room) #[(.ref t), (.int (2 : Int32))] h0 [] (fun v h => v = some (.int c2) ∧ h0 = h) := by
  refine Ct.intro (Ls := #[.val (.ref t), .val (.int (2 : Int32))]) (plainFor_of_name pn_3) (by intro m; first | (simp [entryFrame, mkF, argsToLocals, Value.category]; done) | rfl) ?_
  refine Rn.old fun Oq1 _ => ?_
  refine Rn.getS (pc' := 3) (hw _ (List.mem_of_getElem? (i := 100) rfl)) Via.refl (UA.ext Oq1) d23_0 rfl ?_
  refine Rn.if_ne (pc' := 28) (pn := 6) d23_3 (by decide) (by decide) rfl (fun cq2 => ?_) (fun cq2 => absurd cq2 (by decide))
  refine Rn.iloadN (pc' := 29) d23_28 rfl rfl ?_
  refine Rn.iconst (pc' := 30) (v := (1 : Int32)) d23_29 rfl rfl ?_
  refine Rn.ishl (pc' := 31) (v := (4 : Int32)) d23_30 rfl rfl ?_
  refine Rn.istoreN (pc' := 32) (Ls' := #[.val (.ref t), .val (.int (4 : Int32))]) d23_31 rfl rfl ?_
  refine Rn.aloadN (pc' := 33) d23_32 rfl rfl rfl ?_
  refine Rn.iloadN (pc' := 34) d23_33 rfl rfl ?_
  refine Rn.iinc (pc' := 37) (v := (5 : Int32)) (Ls' := #[.val (.ref t), .val (.int (5 : Int32))]) d23_34 rfl rfl rfl rfl ?_
  refine Rn.baload (pc' := 38) (v := .int (b8 c2)) A (by decide) rfl d23_37 rfl ?_
  refine Rn.sipush (pc' := 41) (v := (255 : Int32)) d23_38 rfl rfl ?_
  refine Rn.iand (pc' := 42) (v := ((b8 c2) &&& (255 : Int32))) d23_41 rfl rfl ?_
  refine Rn.old fun Oq3 _ => ?_
  refine Rn.getS (pc' := 45) (hw _ (List.mem_of_getElem? (i := 101) rfl)) Via.refl (UH.ext Oq3) d23_42 rfl ?_
  refine Rn.ishl (pc' := 46) (v := (((b8 c2) &&& (255 : Int32)) <<< ((0 : Int32) &&& 31))) d23_45 rfl rfl ?_
  refine Rn.aloadN (pc' := 47) d23_46 rfl rfl rfl ?_
  refine Rn.iloadN (pc' := 48) d23_47 rfl rfl ?_
  refine Rn.baload (pc' := 49) (v := .int (b8 (own_hi c2))) A (by decide) rfl d23_48 rfl ?_
  refine Rn.sipush (pc' := 52) (v := (255 : Int32)) d23_49 rfl rfl ?_
  refine Rn.iand (pc' := 53) (v := ((b8 (own_hi c2)) &&& (255 : Int32))) d23_52 rfl rfl ?_
  refine Rn.old fun Oq4 _ => ?_
  refine Rn.getS (pc' := 56) (hw _ (List.mem_of_getElem? (i := 102) rfl)) Via.refl (UL.ext Oq4) d23_53 rfl ?_
  refine Rn.ishl (pc' := 57) (v := (((b8 (own_hi c2)) &&& (255 : Int32)) <<< ((8 : Int32) &&& 31))) d23_56 rfl rfl ?_
  refine Rn.ior (pc' := 58) (v := ((((b8 c2) &&& (255 : Int32)) <<< ((0 : Int32) &&& 31)) ||| (((b8 (own_hi c2)) &&& (255 : Int32)) <<< ((8 : Int32) &&& 31)))) d23_57 rfl rfl ?_
  refine Rn.i2c (pc' := 59) (v := c2) d23_58 (own_gc hC) rfl ?_
  refine Rn.retN (t := .char) rfl (by simp) d23_59 (Nat.le_of_ble_eq_true rfl) (Nat.le_of_ble_eq_true rfl) ?_
  exact ⟨congrArg (fun q => some (Value.int q)) hC.2, rfl⟩
set_option maxRecDepth 65536 in
set_option maxHeartbeats 40000000 in
theorem ct_tb3 (Z : State) (a0 : Array Value) (hw : ∀ d ∈ tables_1, d.before a0 Z = true) (src : Addr) (c0 c1 c2 : Int32) (h0 : Heap) (A : Ax Z h0 src .char [.int c0, .int c1, .int c2]) (UA : Sta Z Z.heap "java/lang/StringUTF16" "$assertionsDisabled" "Z" (.int (1 : Int32))) (UH : Sta Z Z.heap "java/lang/StringUTF16" "HI_BYTE_SHIFT" "I" (.int (0 : Int32))) (UL : Sta Z Z.heap "java/lang/StringUTF16" "LO_BYTE_SHIFT" "I" (.int (8 : Int32))) :
    Ct Z ⟨"java/lang/StringUTF16", "toBytes", "([CII)[B"⟩ jdk_52_method_14_code 5 (Option.some (FieldType.array FieldType.byte)) ({ frames := 2, cells := 1, slots := 6, locals := 24 } : Room) #[(.ref src), (.int (0 : Int32)), (.int (3 : Int32))] h0 [] (fun v h => ∃ t, v = some (.ref t) ∧ h0.size ≤ t ∧ Ax Z h t .byte [.int (b8 c0), .int (b8 (own_hi c0)), .int (b8 c1), .int (b8 (own_hi c1)), .int (b8 c2), .int (b8 (own_hi c2))]) := by
  refine Ct.intro (Ls := #[.val (.ref src), .val (.int (0 : Int32)), .val (.int (3 : Int32)), .unset, .unset]) (plainFor_of_name pn_3) (by intro m; first | (simp [entryFrame, mkF, argsToLocals, Value.category]; done) | rfl) ?_
  refine Rn.iloadN (pc' := 1) d19_0 rfl rfl ?_
  refine Rn.callS (pc' := 4) (argsL := [.int (3 : Int32)]) (rest := []) (ct_nbf3 Z a0 hw h0) (hw _ (List.mem_of_getElem? (i := 90) rfl)) (hw _ (List.mem_of_getElem? (i := 91) rfl)) (hw _ (List.mem_of_getElem? (i := 73) rfl)) (hw _ (List.mem_of_getElem? (i := 92) rfl)) (by decide) rfl rfl (lenOf pd_1 rfl) rfl d19_1 rfl (Nat.le_of_ble_eq_true rfl) (Nat.le_of_ble_eq_true rfl) (Nat.le_of_ble_eq_true rfl) (Nat.le_of_ble_eq_true rfl) (fun _ z => nomatch z) (fun _ z => nomatch z) (fun vq1 hq2 Kq3 qq4 => ?_)
  obtain ⟨t, rfl, ht, At⟩ := qq4
  simp only [Option.toList, List.cons_append, List.nil_append]
  have nt : src ≠ t := Nat.ne_of_lt (Nat.lt_of_lt_of_le A.lt ht)
  refine Rn.astoreN (pc' := 5) (Ls' := #[.val (.ref src), .val (.int (0 : Int32)), .val (.int (3 : Int32)), .val (.ref t), .unset]) d19_4 rfl rfl rfl ?_
  refine Rn.iconst (pc' := 6) (v := (0 : Int32)) d19_5 rfl rfl ?_
  refine Rn.istore (pc' := 8) (Ls' := #[.val (.ref src), .val (.int (0 : Int32)), .val (.int (3 : Int32)), .val (.ref t), .val (.int (0 : Int32))]) d19_6 rfl rfl ?_
  refine Rn.iload (pc' := 10) d19_8 rfl rfl ?_
  refine Rn.iloadN (pc' := 11) d19_10 rfl rfl ?_
  refine Rn.icmp_ge (pc' := 32) (pn := 14) d19_11 (by decide) (by decide) rfl (fun cq5 => absurd cq5 (by decide)) (fun cq5 => ?_)
  refine Rn.aloadN (pc' := 15) d19_14 rfl rfl rfl ?_
  refine Rn.iload (pc' := 17) d19_15 rfl rfl ?_
  refine Rn.aloadN (pc' := 18) d19_17 rfl rfl rfl ?_
  refine Rn.iloadN (pc' := 19) d19_18 rfl rfl ?_
  have Fq6 := A.keep Kq3 nin0
  refine Rn.caload (pc' := 20) (v := .int c0) Fq6 (by decide) rfl d19_19 rfl ?_
  refine Rn.callS (pc' := 23) (argsL := [.ref t, .int (0 : Int32), .int c0]) (rest := []) (ct_pch3_0 Z a0 hw t c0 hq2 At UA UH UL) (hw _ (List.mem_of_getElem? (i := 97) rfl)) (hw _ (List.mem_of_getElem? (i := 98) rfl)) (hw _ (List.mem_of_getElem? (i := 73) rfl)) (hw _ (List.mem_of_getElem? (i := 99) rfl)) (by decide) rfl rfl (lenOf pd_2 rfl) rfl d19_20 rfl (Nat.le_of_ble_eq_true rfl) (Nat.le_of_ble_eq_true rfl) (Nat.le_of_ble_eq_true rfl) (Nat.le_of_ble_eq_true rfl) (allS (Or.inr ht) all0) (allS Sf.no (all0)) (fun vq8 hq9 Kq10 qq11 => ?_)
  obtain ⟨rfl, Aq7⟩ := qq11
  simp only [Option.toList, List.cons_append, List.nil_append]
  refine Rn.iinc (pc' := 26) (v := (1 : Int32)) (Ls' := #[.val (.ref src), .val (.int (1 : Int32)), .val (.int (3 : Int32)), .val (.ref t), .val (.int (0 : Int32))]) d19_23 rfl rfl rfl rfl ?_
  refine Rn.iinc (pc' := 29) (v := (1 : Int32)) (Ls' := #[.val (.ref src), .val (.int (1 : Int32)), .val (.int (3 : Int32)), .val (.ref t), .val (.int (1 : Int32))]) d19_26 rfl rfl rfl rfl ?_
  refine Rn.goto (pc' := 8) d19_29 (by decide) (by decide) ?_
  refine Rn.iload (pc' := 10) d19_8 rfl rfl ?_
  refine Rn.iloadN (pc' := 11) d19_10 rfl rfl ?_
  refine Rn.icmp_ge (pc' := 32) (pn := 14) d19_11 (by decide) (by decide) rfl (fun cq12 => absurd cq12 (by decide)) (fun cq12 => ?_)
  refine Rn.aloadN (pc' := 15) d19_14 rfl rfl rfl ?_
  refine Rn.iload (pc' := 17) d19_15 rfl rfl ?_
  refine Rn.aloadN (pc' := 18) d19_17 rfl rfl rfl ?_
  refine Rn.iloadN (pc' := 19) d19_18 rfl rfl ?_
  have Fq13 := Fq6.keep Kq10 (ninS nt nin0)
  refine Rn.caload (pc' := 20) (v := .int c1) Fq13 (by decide) rfl d19_19 rfl ?_
  refine Rn.callS (pc' := 23) (argsL := [.ref t, .int (1 : Int32), .int c1]) (rest := []) (ct_pch3_1 Z a0 hw t c0 c1 hq9 Aq7 UA UH UL) (hw _ (List.mem_of_getElem? (i := 97) rfl)) (hw _ (List.mem_of_getElem? (i := 98) rfl)) (hw _ (List.mem_of_getElem? (i := 73) rfl)) (hw _ (List.mem_of_getElem? (i := 99) rfl)) (by decide) rfl rfl (lenOf pd_2 rfl) rfl d19_20 rfl (Nat.le_of_ble_eq_true rfl) (Nat.le_of_ble_eq_true rfl) (Nat.le_of_ble_eq_true rfl) (Nat.le_of_ble_eq_true rfl) (allS (Or.inr ht) all0) (allS Sf.no (all0)) (fun vq15 hq16 Kq17 qq18 => ?_)
  obtain ⟨rfl, Aq14⟩ := qq18
  simp only [Option.toList, List.cons_append, List.nil_append]
  refine Rn.iinc (pc' := 26) (v := (2 : Int32)) (Ls' := #[.val (.ref src), .val (.int (2 : Int32)), .val (.int (3 : Int32)), .val (.ref t), .val (.int (1 : Int32))]) d19_23 rfl rfl rfl rfl ?_
  refine Rn.iinc (pc' := 29) (v := (2 : Int32)) (Ls' := #[.val (.ref src), .val (.int (2 : Int32)), .val (.int (3 : Int32)), .val (.ref t), .val (.int (2 : Int32))]) d19_26 rfl rfl rfl rfl ?_
  refine Rn.goto (pc' := 8) d19_29 (by decide) (by decide) ?_
  refine Rn.iload (pc' := 10) d19_8 rfl rfl ?_
  refine Rn.iloadN (pc' := 11) d19_10 rfl rfl ?_
  refine Rn.icmp_ge (pc' := 32) (pn := 14) d19_11 (by decide) (by decide) rfl (fun cq19 => absurd cq19 (by decide)) (fun cq19 => ?_)
  refine Rn.aloadN (pc' := 15) d19_14 rfl rfl rfl ?_
  refine Rn.iload (pc' := 17) d19_15 rfl rfl ?_
  refine Rn.aloadN (pc' := 18) d19_17 rfl rfl rfl ?_
  refine Rn.iloadN (pc' := 19) d19_18 rfl rfl ?_
  have Fq20 := Fq13.keep Kq17 (ninS nt nin0)
  refine Rn.caload (pc' := 20) (v := .int c2) Fq20 (by decide) rfl d19_19 rfl ?_
  refine Rn.callS (pc' := 23) (argsL := [.ref t, .int (2 : Int32), .int c2]) (rest := []) (ct_pch3_2 Z a0 hw t c0 c1 c2 hq16 Aq14 UA UH UL) (hw _ (List.mem_of_getElem? (i := 97) rfl)) (hw _ (List.mem_of_getElem? (i := 98) rfl)) (hw _ (List.mem_of_getElem? (i := 73) rfl)) (hw _ (List.mem_of_getElem? (i := 99) rfl)) (by decide) rfl rfl (lenOf pd_2 rfl) rfl d19_20 rfl (Nat.le_of_ble_eq_true rfl) (Nat.le_of_ble_eq_true rfl) (Nat.le_of_ble_eq_true rfl) (Nat.le_of_ble_eq_true rfl) (allS (Or.inr ht) all0) (allS Sf.no (all0)) (fun vq22 hq23 Kq24 qq25 => ?_)
  obtain ⟨rfl, Aq21⟩ := qq25
  simp only [Option.toList, List.cons_append, List.nil_append]
  refine Rn.iinc (pc' := 26) (v := (3 : Int32)) (Ls' := #[.val (.ref src), .val (.int (3 : Int32)), .val (.int (3 : Int32)), .val (.ref t), .val (.int (2 : Int32))]) d19_23 rfl rfl rfl rfl ?_
  refine Rn.iinc (pc' := 29) (v := (3 : Int32)) (Ls' := #[.val (.ref src), .val (.int (3 : Int32)), .val (.int (3 : Int32)), .val (.ref t), .val (.int (3 : Int32))]) d19_26 rfl rfl rfl rfl ?_
  refine Rn.goto (pc' := 8) d19_29 (by decide) (by decide) ?_
  refine Rn.iload (pc' := 10) d19_8 rfl rfl ?_
  refine Rn.iloadN (pc' := 11) d19_10 rfl rfl ?_
  refine Rn.icmp_ge (pc' := 32) (pn := 14) d19_11 (by decide) (by decide) rfl (fun cq26 => ?_) (fun cq26 => absurd cq26 (by decide))
  refine Rn.aloadN (pc' := 33) d19_32 rfl rfl rfl ?_
  refine Rn.retA (t := (.array .byte)) rfl rfl rfl d19_33 (Nat.le_of_ble_eq_true rfl) (Nat.le_of_ble_eq_true rfl) ?_
  exact ⟨_, rfl, ht, Aq21⟩
set_option maxRecDepth 65536 in
set_option maxHeartbeats 40000000 in
theorem ct_cod16_3 (Z : State) (a0 : Array Value) (hw : ∀ d ∈ tables_1, d.before a0 Z = true) (t : Addr) (c0 c1 c2 : Int32) (h0 : Heap) (A : Ax Z h0 t .byte [.int (b8 c0), .int (b8 (own_hi c0)), .int (b8 c1), .int (b8 (own_hi c1)), .int (b8 c2), .int (b8 (own_hi c2))]) :
    Ct Z ⟨"java/lang/StringUTF16", "coderFromArrayLen", "([BI)B"⟩ jdk_52_method_15_code 2 (Option.some FieldType.byte) ({ frames := 0, cells := 0, slots := 0, locals := 0 } : Room) #[(.ref t), (.int (3 : Int32))] h0 [] (fun v h => v = some (.int (1 : Int32)) ∧ h0 = h) := by
  refine Ct.intro (Ls := #[.val (.ref t), .val (.int (3 : Int32))]) (plainFor_of_name pn_3) (by intro m; first | (simp [entryFrame, mkF, argsToLocals, Value.category]; done) | rfl) ?_
  refine Rn.iloadN (pc' := 1) d16_0 rfl rfl ?_
  refine Rn.aloadN (pc' := 2) d16_1 rfl rfl rfl ?_
  refine Rn.arraylength (pc' := 3) (n := (6 : Int32)) A rfl d16_2 rfl ?_
  refine Rn.isub (pc' := 4) (v := (-3 : Int32)) d16_3 rfl rfl ?_
  refine Rn.bipush (pc' := 6) (v := (31 : Int32)) d16_4 rfl rfl ?_
  refine Rn.iushr (pc' := 7) (v := (1 : Int32)) d16_6 rfl rfl ?_
  refine Rn.i2b (pc' := 8) (v := (1 : Int32)) d16_7 rfl rfl ?_
  refine Rn.retN (t := .byte) rfl (by simp) d16_8 (Nat.le_of_ble_eq_true rfl) (Nat.le_of_ble_eq_true rfl) ?_
  exact ⟨rfl, rfl⟩
set_option maxRecDepth 65536 in
set_option maxHeartbeats 40000000 in
theorem ct_cf3_0 (Z : State) (a0 : Array Value) (hw : ∀ d ∈ tables_1, d.before a0 Z = true) (src t : Addr) (c0 c1 c2 : Int32)  (hq : 255 < c0) (h0 : Heap) (A : Ax Z h0 src .char [.int c0, .int c1, .int c2]) (B : Ax Z h0 t .byte [.int (0 : Int32), .int (0 : Int32), .int (0 : Int32)]) (hn : src ≠ t) :
    Ct Z ⟨"java/lang/StringUTF16", "compress", "([CI[BII)I"⟩ jdk_52_method_21_code 7 (Option.some FieldType.int) ({ frames := 0, cells := 0, slots := 0, locals := 0 } : Room) #[(.ref src), (.int (0 : Int32)), (.ref t), (.int (0 : Int32)), (.int (3 : Int32))] h0 [t] (fun v h => v = some (.int (0 : Int32))) := by
  refine Ct.intro (Ls := #[.val (.ref src), .val (.int (0 : Int32)), .val (.ref t), .val (.int (0 : Int32)), .val (.int (3 : Int32)), .unset, .unset]) (plainFor_of_name pn_3) (by intro m; first | (simp [entryFrame, mkF, argsToLocals, Value.category]; done) | rfl) ?_
  refine Rn.iconst (pc' := 1) (v := (0 : Int32)) d15_0 rfl rfl ?_
  refine Rn.istore (pc' := 3) (Ls' := #[.val (.ref src), .val (.int (0 : Int32)), .val (.ref t), .val (.int (0 : Int32)), .val (.int (3 : Int32)), .val (.int (0 : Int32)), .unset]) d15_1 rfl rfl ?_
  refine Rn.iload (pc' := 5) d15_3 rfl rfl ?_
  refine Rn.iload (pc' := 7) d15_5 rfl rfl ?_
  refine Rn.icmp_ge (pc' := 44) (pn := 10) d15_7 (by decide) (by decide) rfl (fun cq1 => absurd cq1 (by decide)) (fun cq1 => ?_)
  refine Rn.aloadN (pc' := 11) d15_10 rfl rfl rfl ?_
  refine Rn.iloadN (pc' := 12) d15_11 rfl rfl ?_
  refine Rn.caload (pc' := 13) (v := .int c0) A (by decide) rfl d15_12 rfl ?_
  refine Rn.istore (pc' := 15) (Ls' := #[.val (.ref src), .val (.int (0 : Int32)), .val (.ref t), .val (.int (0 : Int32)), .val (.int (3 : Int32)), .val (.int (0 : Int32)), .val (.int c0)]) d15_13 rfl rfl ?_
  refine Rn.iload (pc' := 17) d15_15 rfl rfl ?_
  refine Rn.sipush (pc' := 20) (v := (255 : Int32)) d15_17 rfl rfl ?_
  refine Rn.icmp_le (pc' := 26) (pn := 23) d15_20 (by decide) (by decide) rfl (fun cq2 => absurd hq cq2) (fun cq2 => ?_)
  refine Rn.iload (pc' := 25) d15_23 rfl rfl ?_
  refine Rn.retI rfl d15_25 (Nat.le_of_ble_eq_true rfl) (Nat.le_of_ble_eq_true rfl) ?_
  rfl
set_option maxRecDepth 65536 in
set_option maxHeartbeats 40000000 in
theorem ct_cu3_0 (Z : State) (a0 : Array Value) (hw : ∀ d ∈ tables_1, d.before a0 Z = true) (src : Addr) (c0 c1 c2 : Int32)  (hq : 255 < c0) (hC0 : own_C c0) (hC1 : own_C c1) (hC2 : own_C c2) (h0 : Heap) (A : Ax Z h0 src .char [.int c0, .int c1, .int c2]) (UA : Sta Z Z.heap "java/lang/StringUTF16" "$assertionsDisabled" "Z" (.int (1 : Int32))) (UH : Sta Z Z.heap "java/lang/StringUTF16" "HI_BYTE_SHIFT" "I" (.int (0 : Int32))) (UL : Sta Z Z.heap "java/lang/StringUTF16" "LO_BYTE_SHIFT" "I" (.int (8 : Int32))) :
    Ct Z ⟨"java/lang/StringUTF16", "compress", "([CII)[B"⟩ jdk_52_method_16_code 6 (Option.some (FieldType.array FieldType.byte)) ({ frames := 3, cells := 2, slots := 9, locals := 40 } : Room) #[(.ref src), (.int (0 : Int32)), (.int (3 : Int32))] h0 [] (fun v h => ∃ t, v = some (.ref t) ∧ h0.size ≤ t ∧ Ax Z h t .byte [.int (b8 c0), .int (b8 (own_hi c0)), .int (b8 c1), .int (b8 (own_hi c1)), .int (b8 c2), .int (b8 (own_hi c2))]) := by
  refine Ct.intro (Ls := #[.val (.ref src), .val (.int (0 : Int32)), .val (.int (3 : Int32)), .unset, .unset, .unset]) (plainFor_of_name pn_3) (by intro m; first | (simp [entryFrame, mkF, argsToLocals, Value.category]; done) | rfl) ?_
  refine Rn.iloadN (pc' := 1) d14_0 rfl rfl ?_
  refine Rn.newP (pc' := 3) (cap := 3) (ty := .byte) (ad := "[B") (hw _ (List.mem_of_getElem? (i := 20) rfl)) rfl rfl d14_1 (by decide) (Nat.le_of_ble_eq_true rfl) (by decide) (Nat.le_of_ble_eq_true rfl) (Nat.le_of_ble_eq_true rfl) rfl (fun hq2 aq1 eq3 gq4 Eq5 ⟨Aq6, Bq7⟩ => ?_)
  have nq8 : src ≠ aq1 := by rw [eq3]; exact Nat.ne_of_lt (A.lt)
  have Aq9 : Ax Z hq2 aq1 .byte ([.int (0 : Int32), .int (0 : Int32), .int (0 : Int32)]) := Aq6
  refine Rn.astoreN (pc' := 4) (Ls' := #[.val (.ref src), .val (.int (0 : Int32)), .val (.int (3 : Int32)), .val (.ref aq1), .unset, .unset]) d14_3 rfl rfl rfl ?_
  refine Rn.aloadN (pc' := 5) d14_4 rfl rfl rfl ?_
  refine Rn.iloadN (pc' := 6) d14_5 rfl rfl ?_
  refine Rn.aloadN (pc' := 7) d14_6 rfl rfl rfl ?_
  refine Rn.iconst (pc' := 8) (v := (0 : Int32)) d14_7 rfl rfl ?_
  refine Rn.iloadN (pc' := 9) d14_8 rfl rfl ?_
  have Fq10 := A.ext Eq5
  refine Rn.callS (pc' := 12) (argsL := [.ref src, .int (0 : Int32), .ref aq1, .int (0 : Int32), .int (3 : Int32)]) (rest := []) (ct_cf3_0 Z a0 hw src aq1 c0 c1 c2 hq hq2 Fq10 Aq9 nq8) (hw _ (List.mem_of_getElem? (i := 75) rfl)) (hw _ (List.mem_of_getElem? (i := 76) rfl)) (hw _ (List.mem_of_getElem? (i := 73) rfl)) (hw _ (List.mem_of_getElem? (i := 77) rfl)) (by decide) rfl rfl (lenOf pd_3 rfl) rfl d14_9 rfl (Nat.le_of_ble_eq_true rfl) (Nat.le_of_ble_eq_true rfl) (Nat.le_of_ble_eq_true rfl) (Nat.le_of_ble_eq_true rfl) (allS (Or.inr gq4) all0) (allS Sf.no (all0)) (fun vq11 hq12 Kq13 qq14 => ?_)
  obtain rfl := qq14
  simp only [Option.toList, List.cons_append, List.nil_append]
  refine Rn.istore (pc' := 14) (Ls' := #[.val (.ref src), .val (.int (0 : Int32)), .val (.int (3 : Int32)), .val (.ref aq1), .val (.int (0 : Int32)), .unset]) d14_12 rfl rfl ?_
  refine Rn.iload (pc' := 16) d14_14 rfl rfl ?_
  refine Rn.iloadN (pc' := 17) d14_16 rfl rfl ?_
  refine Rn.icmp_eq (pc' := 57) (pn := 20) d14_17 (by decide) (by decide) rfl (fun cq15 => absurd cq15 (by decide)) (fun cq15 => ?_)
  refine Rn.aloadN (pc' := 21) d14_20 rfl rfl rfl ?_
  refine Rn.iloadN (pc' := 22) d14_21 rfl rfl ?_
  refine Rn.iloadN (pc' := 23) d14_22 rfl rfl ?_
  have Fq16 := Fq10.keep Kq13 (ninS nq8 nin0)
  refine Rn.old fun _ hK => ?_
  refine Rn.callS (pc' := 26) (argsL := [.ref src, .int (0 : Int32), .int (3 : Int32)]) (rest := []) (ct_tb3 Z a0 hw src c0 c1 c2 hq12 Fq16 UA UH UL) (hw _ (List.mem_of_getElem? (i := 87) rfl)) (hw _ (List.mem_of_getElem? (i := 88) rfl)) (hw _ (List.mem_of_getElem? (i := 73) rfl)) (hw _ (List.mem_of_getElem? (i := 89) rfl)) (by decide) rfl rfl (lenOf pd_4 rfl) rfl d14_23 rfl (Nat.le_of_ble_eq_true rfl) (Nat.le_of_ble_eq_true rfl) (Nat.le_of_ble_eq_true rfl) (Nat.le_of_ble_eq_true rfl) (fun _ z => nomatch z) (fun _ z => nomatch z) (fun vq17 hq18 Kq19 qq20 => ?_)
  obtain ⟨u, rfl, hu, Au⟩ := qq20
  simp only [Option.toList, List.cons_append, List.nil_append]
  refine Rn.astore (pc' := 28) (Ls' := #[.val (.ref src), .val (.int (0 : Int32)), .val (.int (3 : Int32)), .val (.ref aq1), .val (.int (0 : Int32)), .val (.ref u)]) d14_26 rfl rfl rfl ?_
  refine Rn.aload (pc' := 30) d14_28 rfl rfl rfl ?_
  refine Rn.iload (pc' := 32) d14_30 rfl rfl ?_
  refine Rn.callS (pc' := 35) (argsL := [.ref u, .int (0 : Int32)]) (rest := []) (ct_gch3_0 Z a0 hw u c0 c1 c2 hC0 hq18 Au UA UH UL) (hw _ (List.mem_of_getElem? (i := 103) rfl)) (hw _ (List.mem_of_getElem? (i := 104) rfl)) (hw _ (List.mem_of_getElem? (i := 73) rfl)) (hw _ (List.mem_of_getElem? (i := 105) rfl)) (by decide) rfl rfl (lenOf pd_5 rfl) rfl d14_32 rfl (Nat.le_of_ble_eq_true rfl) (Nat.le_of_ble_eq_true rfl) (Nat.le_of_ble_eq_true rfl) (Nat.le_of_ble_eq_true rfl) (fun _ z => nomatch z) (fun _ z => nomatch z) (fun vq21 hq22 Kq23 qq24 => ?_)
  obtain ⟨rfl, rfl⟩ := qq24
  simp only [Option.toList, List.cons_append, List.nil_append]
  refine Rn.sipush (pc' := 38) (v := (255 : Int32)) d14_35 rfl rfl ?_
  refine Rn.icmp_gt (pc' := 54) (pn := 41) d14_38 (by decide) (by decide) rfl (fun cq25 => ?_) (fun cq25 => absurd hq cq25)
  refine Rn.aload (pc' := 56) d14_54 rfl rfl rfl ?_
  refine Rn.retA (t := (.array .byte)) rfl rfl rfl d14_56 (Nat.le_of_ble_eq_true rfl) (Nat.le_of_ble_eq_true rfl) ?_
  exact ⟨u, rfl, Nat.le_trans hK.1 hu, Au⟩
set_option maxRecDepth 65536 in
set_option maxHeartbeats 40000000 in
theorem ct_siw3_0 (Z : State) (a0 : Array Value) (hw : ∀ d ∈ tables_1, d.before a0 Z = true) (x : Addr) (src : Addr) (c0 c1 c2 : Int32)  (hq : 255 < c0) (hC0 : own_C c0) (hC1 : own_C c1) (hC2 : own_C c2) (h0 : Heap) (E : Exa Z h0 x "java/lang/String") (V : Fld Z h0 x "java/lang/String" "value" "[B" .null) (Co : Fld Z h0 x "java/lang/String" "coder" "B" (.int (0 : Int32))) (A : Ax Z h0 src .char [.int c0, .int c1, .int c2]) (hn : src ≠ x) (z : Int32) (hz : z ≠ 0) (S : Sta Z Z.heap "java/lang/String" "COMPACT_STRINGS" "Z" (.int z)) (UA : Sta Z Z.heap "java/lang/StringUTF16" "$assertionsDisabled" "Z" (.int (1 : Int32))) (UH : Sta Z Z.heap "java/lang/StringUTF16" "HI_BYTE_SHIFT" "I" (.int (0 : Int32))) (UL : Sta Z Z.heap "java/lang/StringUTF16" "LO_BYTE_SHIFT" "I" (.int (8 : Int32))) :
    Ct Z ⟨"java/lang/String", "<init>", "([CIILjava/lang/Void;)V"⟩ jdk_42_method_149_code 6 (Option.none : Option FieldType) ({ frames := 4, cells := 2, slots := 9, locals := 57 } : Room) #[(.ref x), (.ref src), (.int (0 : Int32)), (.int (3 : Int32)), (.null)] h0 [x] (fun v h => v = none ∧ ∃ t, Su Z h x t [.int (b8 c0), .int (b8 (own_hi c0)), .int (b8 c1), .int (b8 (own_hi c1)), .int (b8 c2), .int (b8 (own_hi c2))]) := by
  refine Ct.intro (Ls := #[.val (.ref x), .val (.ref src), .val (.int (0 : Int32)), .val (.int (3 : Int32)), .val (.null), .unset]) (plainFor_of_name pn_4) (by intro m; first | (simp [entryFrame, mkF, argsToLocals, Value.category]; done) | rfl) ?_
  refine Rn.aloadN (pc' := 1) d2_0 rfl rfl rfl ?_
  refine Rn.initO (pc' := 4) (hw _ (List.mem_of_getElem? (i := 16) rfl)) (hw _ (List.mem_of_getElem? (i := 17) rfl)) (hw _ (List.mem_of_getElem? (i := 18) rfl)) rfl d2_1 (Nat.le_of_ble_eq_true rfl) (Nat.le_of_ble_eq_true rfl) rfl ?_
  refine Rn.iloadN (pc' := 5) d2_4 rfl rfl ?_
  refine Rn.if_ne (pc' := 27) (pn := 8) d2_5 (by decide) (by decide) rfl (fun cq1 => ?_) (fun cq1 => absurd cq1 (by decide))
  refine Rn.old fun Oq2 _ => ?_
  refine Rn.getS (pc' := 30) (hw _ (List.mem_of_getElem? (i := 46) rfl)) Via.refl (S.ext Oq2) d2_27 rfl ?_
  refine Rn.if_eq (pc' := 58) (pn := 33) d2_30 (by decide) (by decide) rfl (fun cq3 => absurd cq3 hz) (fun cq3 => ?_)
  refine Rn.aloadN (pc' := 34) d2_33 rfl rfl rfl ?_
  refine Rn.iloadN (pc' := 35) d2_34 rfl rfl ?_
  refine Rn.iloadN (pc' := 36) d2_35 rfl rfl ?_
  refine Rn.callS (pc' := 39) (argsL := [.ref src, .int (0 : Int32), .int (3 : Int32)]) (rest := []) (ct_cu3_0 Z a0 hw src c0 c1 c2 hq hC0 hC1 hC2 h0 A UA UH UL) (hw _ (List.mem_of_getElem? (i := 71) rfl)) (hw _ (List.mem_of_getElem? (i := 72) rfl)) (hw _ (List.mem_of_getElem? (i := 73) rfl)) (hw _ (List.mem_of_getElem? (i := 74) rfl)) (by decide) rfl rfl (lenOf pd_4 rfl) rfl d2_36 rfl (Nat.le_of_ble_eq_true rfl) (Nat.le_of_ble_eq_true rfl) (Nat.le_of_ble_eq_true rfl) (Nat.le_of_ble_eq_true rfl) (fun _ z => nomatch z) (fun _ z => nomatch z) (fun vq4 hq5 Kq6 qq7 => ?_)
  obtain ⟨t, rfl, ht, At⟩ := qq7
  simp only [Option.toList, List.cons_append, List.nil_append]
  have nt : x ≠ t := Nat.ne_of_lt (Nat.lt_of_lt_of_le E.lt ht)
  refine Rn.astore (pc' := 41) (Ls' := #[.val (.ref x), .val (.ref src), .val (.int (0 : Int32)), .val (.int (3 : Int32)), .val (.null), .val (.ref t)]) d2_39 rfl rfl rfl ?_
  refine Rn.aloadN (pc' := 42) d2_41 rfl rfl rfl ?_
  refine Rn.aload (pc' := 44) d2_42 rfl rfl rfl ?_
  refine Rn.iloadN (pc' := 45) d2_44 rfl rfl ?_
  refine Rn.callS (pc' := 48) (argsL := [.ref t, .int (3 : Int32)]) (rest := [.ref x]) (ct_cod16_3 Z a0 hw t c0 c1 c2 hq5 At) (hw _ (List.mem_of_getElem? (i := 78) rfl)) (hw _ (List.mem_of_getElem? (i := 79) rfl)) (hw _ (List.mem_of_getElem? (i := 73) rfl)) (hw _ (List.mem_of_getElem? (i := 80) rfl)) (by decide) rfl rfl (lenOf pd_6 rfl) rfl d2_45 rfl (Nat.le_of_ble_eq_true rfl) (Nat.le_of_ble_eq_true rfl) (Nat.le_of_ble_eq_true rfl) (Nat.le_of_ble_eq_true rfl) (fun _ z => nomatch z) (fun _ z => nomatch z) (fun vq8 hq9 Kq10 qq11 => ?_)
  obtain ⟨rfl, rfl⟩ := qq11
  simp only [Option.toList, List.cons_append, List.nil_append]
  have Fq12 := Co.keep Kq6 nin0
  have Fq13 := E.keep Kq6
  refine Rn.putF (pc' := 51) (hw _ (List.mem_of_getElem? (i := 26) rfl)) Via.refl Fq12 Fq13 (Or.inr ⟨(hw _ (List.mem_of_getElem? (i := 22) rfl)), rfl, rfl⟩) (hw _ (List.mem_of_getElem? (i := 6) rfl)) (ty := .byte) (by decide) rfl rfl (Or.inl (List.mem_of_getElem? (i := 0) rfl)) Sf.no d2_48 rfl (fun hq15 Wq14 => ?_)
  have Fq16 := Fq12.same Wq14
  refine Rn.aloadN (pc' := 52) d2_51 rfl rfl rfl ?_
  refine Rn.aload (pc' := 54) d2_52 rfl rfl rfl ?_
  have Fq17 := V.keep Kq6 nin0
  have Fq18 := Fq17.other Wq14 (Or.inr (slot_ne (t := (.array .byte)) (t' := .byte) (Or.inr (hw _ (List.mem_of_getElem? (i := 21) rfl))) (Or.inr (hw _ (List.mem_of_getElem? (i := 22) rfl))) (by decide) (by decide) (by decide)))
  have Fq19 := Fq13.wr Wq14
  refine Rn.putF (pc' := 57) (hw _ (List.mem_of_getElem? (i := 25) rfl)) Via.refl Fq18 Fq19 (Or.inr ⟨(hw _ (List.mem_of_getElem? (i := 21) rfl)), rfl, rfl⟩) (hw _ (List.mem_of_getElem? (i := 6) rfl)) (ty := (.array .byte)) (by decide) rfl rfl (Or.inl (List.mem_of_getElem? (i := 0) rfl)) Sf.no d2_54 rfl (fun hq21 Wq20 => ?_)
  have Fq22 := Fq18.same Wq20
  refine Rn.retV rfl d2_57 (Nat.le_of_ble_eq_true rfl) (Nat.le_of_ble_eq_true rfl) ?_
  have Fq23 := Fq19.wr Wq20
  have Fq24 := Fq16.other Wq20 (Or.inr (slot_ne (t := .byte) (t' := (.array .byte)) (Or.inr (hw _ (List.mem_of_getElem? (i := 22) rfl))) (Or.inr (hw _ (List.mem_of_getElem? (i := 21) rfl))) (by decide) (by decide) (by decide)))
  have Fq25 := At.other Wq14 (Ne.symm nt)
  have Fq26 := Fq25.other Wq20 (Ne.symm nt)
  exact ⟨rfl, t, ⟨Fq23, Fq24, Fq22, Fq26⟩⟩
set_option maxRecDepth 65536 in
set_option maxHeartbeats 40000000 in
theorem ct_sx3_0 (Z : State) (a0 : Array Value) (hw : ∀ d ∈ tables_1, d.before a0 Z = true) (x : Addr) (src : Addr) (c0 c1 c2 : Int32)  (hq : 255 < c0) (hC0 : own_C c0) (hC1 : own_C c1) (hC2 : own_C c2) (h0 : Heap) (E : Exa Z h0 x "java/lang/String") (V : Fld Z h0 x "java/lang/String" "value" "[B" .null) (Co : Fld Z h0 x "java/lang/String" "coder" "B" (.int (0 : Int32))) (A : Ax Z h0 src .char [.int c0, .int c1, .int c2]) (hn : src ≠ x) (z : Int32) (hz : z ≠ 0) (S : Sta Z Z.heap "java/lang/String" "COMPACT_STRINGS" "Z" (.int z)) (UA : Sta Z Z.heap "java/lang/StringUTF16" "$assertionsDisabled" "Z" (.int (1 : Int32))) (UH : Sta Z Z.heap "java/lang/StringUTF16" "HI_BYTE_SHIFT" "I" (.int (0 : Int32))) (UL : Sta Z Z.heap "java/lang/StringUTF16" "LO_BYTE_SHIFT" "I" (.int (8 : Int32))) :
    Ct Z ⟨"java/lang/String", "<init>", "([C)V"⟩ jdk_42_method_3_code 2 (Option.none : Option FieldType) ({ frames := 5, cells := 2, slots := 9, locals := 74 } : Room) #[(.ref x), (.ref src)] h0 [x] (fun v h => v = none ∧ ∃ t, Su Z h x t [.int (b8 c0), .int (b8 (own_hi c0)), .int (b8 c1), .int (b8 (own_hi c1)), .int (b8 c2), .int (b8 (own_hi c2))]) := by
  refine Ct.intro (Ls := #[.val (.ref x), .val (.ref src)]) (plainFor_of_name pn_4) (by intro m; first | (simp [entryFrame, mkF, argsToLocals, Value.category]; done) | rfl) ?_
  refine Rn.aloadN (pc' := 1) d1_0 rfl rfl rfl ?_
  refine Rn.aloadN (pc' := 2) d1_1 rfl rfl rfl ?_
  refine Rn.iconst (pc' := 3) (v := (0 : Int32)) d1_2 rfl rfl ?_
  refine Rn.aloadN (pc' := 4) d1_3 rfl rfl rfl ?_
  refine Rn.arraylength (pc' := 5) (n := (3 : Int32)) A rfl d1_4 rfl ?_
  refine Rn.aconst_null (pc' := 6) d1_5 rfl ?_
  refine Rn.callI (pc' := 9) (argsL := [.ref src, .int (0 : Int32), .int (3 : Int32), .null]) (a := x) (rest := []) (ct_siw3_0 Z a0 hw x src c0 c1 c2 hq hC0 hC1 hC2 h0 E V Co A hn z hz S UA UH UL) rfl (hw _ (List.mem_of_getElem? (i := 12) rfl)) (hw _ (List.mem_of_getElem? (i := 13) rfl)) (hw _ (List.mem_of_getElem? (i := 7) rfl)) (hw _ (List.mem_of_getElem? (i := 15) rfl)) (by decide) rfl rfl (lenOf pd_7 rfl) rfl d1_6 rfl (Nat.le_of_ble_eq_true rfl) (Nat.le_of_ble_eq_true rfl) (Nat.le_of_ble_eq_true rfl) (Nat.le_of_ble_eq_true rfl) (allS (Or.inl (List.mem_of_getElem? (i := 0) rfl)) all0) (allS Sf.no (all0)) (fun vq1 hq2 Kq3 qq4 => ?_)
  obtain ⟨rfl, t, G⟩ := qq4
  simp only [Option.toList, List.cons_append, List.nil_append]
  refine Rn.retV rfl d1_9 (Nat.le_of_ble_eq_true rfl) (Nat.le_of_ble_eq_true rfl) ?_
  exact ⟨rfl, t, G⟩
set_option maxRecDepth 65536 in
set_option maxHeartbeats 40000000 in
theorem ct_cf3_1 (Z : State) (a0 : Array Value) (hw : ∀ d ∈ tables_1, d.before a0 Z = true) (src t : Addr) (c0 c1 c2 : Int32) (hp0 : ¬ 255 < c0) (hq : 255 < c1) (h0 : Heap) (A : Ax Z h0 src .char [.int c0, .int c1, .int c2]) (B : Ax Z h0 t .byte [.int (0 : Int32), .int (0 : Int32), .int (0 : Int32)]) (hn : src ≠ t) :
    Ct Z ⟨"java/lang/StringUTF16", "compress", "([CI[BII)I"⟩ jdk_52_method_21_code 7 (Option.some FieldType.int) ({ frames := 0, cells := 0, slots := 0, locals := 0 } : Room) #[(.ref src), (.int (0 : Int32)), (.ref t), (.int (0 : Int32)), (.int (3 : Int32))] h0 [t] (fun v h => v = some (.int (1 : Int32))) := by
  refine Ct.intro (Ls := #[.val (.ref src), .val (.int (0 : Int32)), .val (.ref t), .val (.int (0 : Int32)), .val (.int (3 : Int32)), .unset, .unset]) (plainFor_of_name pn_3) (by intro m; first | (simp [entryFrame, mkF, argsToLocals, Value.category]; done) | rfl) ?_
  refine Rn.iconst (pc' := 1) (v := (0 : Int32)) d15_0 rfl rfl ?_
  refine Rn.istore (pc' := 3) (Ls' := #[.val (.ref src), .val (.int (0 : Int32)), .val (.ref t), .val (.int (0 : Int32)), .val (.int (3 : Int32)), .val (.int (0 : Int32)), .unset]) d15_1 rfl rfl ?_
  refine Rn.iload (pc' := 5) d15_3 rfl rfl ?_
  refine Rn.iload (pc' := 7) d15_5 rfl rfl ?_
  refine Rn.icmp_ge (pc' := 44) (pn := 10) d15_7 (by decide) (by decide) rfl (fun cq1 => absurd cq1 (by decide)) (fun cq1 => ?_)
  refine Rn.aloadN (pc' := 11) d15_10 rfl rfl rfl ?_
  refine Rn.iloadN (pc' := 12) d15_11 rfl rfl ?_
  refine Rn.caload (pc' := 13) (v := .int c0) A (by decide) rfl d15_12 rfl ?_
  refine Rn.istore (pc' := 15) (Ls' := #[.val (.ref src), .val (.int (0 : Int32)), .val (.ref t), .val (.int (0 : Int32)), .val (.int (3 : Int32)), .val (.int (0 : Int32)), .val (.int c0)]) d15_13 rfl rfl ?_
  refine Rn.iload (pc' := 17) d15_15 rfl rfl ?_
  refine Rn.sipush (pc' := 20) (v := (255 : Int32)) d15_17 rfl rfl ?_
  refine Rn.icmp_le (pc' := 26) (pn := 23) d15_20 (by decide) (by decide) rfl (fun cq2 => ?_) (fun cq2 => absurd cq2 hp0)
  refine Rn.aloadN (pc' := 27) d15_26 rfl rfl rfl ?_
  refine Rn.iloadN (pc' := 28) d15_27 rfl rfl ?_
  refine Rn.iload (pc' := 30) d15_28 rfl rfl ?_
  refine Rn.i2b (pc' := 31) (v := (b8 c0)) d15_30 rfl rfl ?_
  refine Rn.bastore (pc' := 32) (v := .int (b8 c0)) B (by decide) (Nat.le_of_ble_eq_true rfl) (congrArg Value.int (nar_b8 c0)) (Or.inl (List.mem_of_getElem? (i := 0) rfl)) Sf.no d15_31 rfl (fun hq4 Wq3 Aq5 => ?_)
  have Aq6 : Ax Z hq4 t .byte ([.int (b8 c0), .int (0 : Int32), .int (0 : Int32)]) := Aq5
  refine Rn.iinc (pc' := 35) (v := (1 : Int32)) (Ls' := #[.val (.ref src), .val (.int (1 : Int32)), .val (.ref t), .val (.int (0 : Int32)), .val (.int (3 : Int32)), .val (.int (0 : Int32)), .val (.int c0)]) d15_32 rfl rfl rfl rfl ?_
  refine Rn.iinc (pc' := 38) (v := (1 : Int32)) (Ls' := #[.val (.ref src), .val (.int (1 : Int32)), .val (.ref t), .val (.int (1 : Int32)), .val (.int (3 : Int32)), .val (.int (0 : Int32)), .val (.int c0)]) d15_35 rfl rfl rfl rfl ?_
  refine Rn.iinc (pc' := 41) (v := (1 : Int32)) (Ls' := #[.val (.ref src), .val (.int (1 : Int32)), .val (.ref t), .val (.int (1 : Int32)), .val (.int (3 : Int32)), .val (.int (1 : Int32)), .val (.int c0)]) d15_38 rfl rfl rfl rfl ?_
  refine Rn.goto (pc' := 3) d15_41 (by decide) (by decide) ?_
  refine Rn.iload (pc' := 5) d15_3 rfl rfl ?_
  refine Rn.iload (pc' := 7) d15_5 rfl rfl ?_
  refine Rn.icmp_ge (pc' := 44) (pn := 10) d15_7 (by decide) (by decide) rfl (fun cq7 => absurd cq7 (by decide)) (fun cq7 => ?_)
  refine Rn.aloadN (pc' := 11) d15_10 rfl rfl rfl ?_
  refine Rn.iloadN (pc' := 12) d15_11 rfl rfl ?_
  have Fq8 := A.other Wq3 hn
  refine Rn.caload (pc' := 13) (v := .int c1) Fq8 (by decide) rfl d15_12 rfl ?_
  refine Rn.istore (pc' := 15) (Ls' := #[.val (.ref src), .val (.int (1 : Int32)), .val (.ref t), .val (.int (1 : Int32)), .val (.int (3 : Int32)), .val (.int (1 : Int32)), .val (.int c1)]) d15_13 rfl rfl ?_
  refine Rn.iload (pc' := 17) d15_15 rfl rfl ?_
  refine Rn.sipush (pc' := 20) (v := (255 : Int32)) d15_17 rfl rfl ?_
  refine Rn.icmp_le (pc' := 26) (pn := 23) d15_20 (by decide) (by decide) rfl (fun cq9 => absurd hq cq9) (fun cq9 => ?_)
  refine Rn.iload (pc' := 25) d15_23 rfl rfl ?_
  refine Rn.retI rfl d15_25 (Nat.le_of_ble_eq_true rfl) (Nat.le_of_ble_eq_true rfl) ?_
  rfl
set_option maxRecDepth 65536 in
set_option maxHeartbeats 40000000 in
theorem ct_cu3_1 (Z : State) (a0 : Array Value) (hw : ∀ d ∈ tables_1, d.before a0 Z = true) (src : Addr) (c0 c1 c2 : Int32) (hp0 : ¬ 255 < c0) (hq : 255 < c1) (hC0 : own_C c0) (hC1 : own_C c1) (hC2 : own_C c2) (h0 : Heap) (A : Ax Z h0 src .char [.int c0, .int c1, .int c2]) (UA : Sta Z Z.heap "java/lang/StringUTF16" "$assertionsDisabled" "Z" (.int (1 : Int32))) (UH : Sta Z Z.heap "java/lang/StringUTF16" "HI_BYTE_SHIFT" "I" (.int (0 : Int32))) (UL : Sta Z Z.heap "java/lang/StringUTF16" "LO_BYTE_SHIFT" "I" (.int (8 : Int32))) :
    Ct Z ⟨"java/lang/StringUTF16", "compress", "([CII)[B"⟩ jdk_52_method_16_code 6 (Option.some (FieldType.array FieldType.byte)) ({ frames := 3, cells := 2, slots := 9, locals := 40 } : Room) #[(.ref src), (.int (0 : Int32)), (.int (3 : Int32))] h0 [] (fun v h => ∃ t, v = some (.ref t) ∧ h0.size ≤ t ∧ Ax Z h t .byte [.int (b8 c0), .int (b8 (own_hi c0)), .int (b8 c1), .int (b8 (own_hi c1)), .int (b8 c2), .int (b8 (own_hi c2))]) := by
  refine Ct.intro (Ls := #[.val (.ref src), .val (.int (0 : Int32)), .val (.int (3 : Int32)), .unset, .unset, .unset]) (plainFor_of_name pn_3) (by intro m; first | (simp [entryFrame, mkF, argsToLocals, Value.category]; done) | rfl) ?_
  refine Rn.iloadN (pc' := 1) d14_0 rfl rfl ?_
  refine Rn.newP (pc' := 3) (cap := 3) (ty := .byte) (ad := "[B") (hw _ (List.mem_of_getElem? (i := 20) rfl)) rfl rfl d14_1 (by decide) (Nat.le_of_ble_eq_true rfl) (by decide) (Nat.le_of_ble_eq_true rfl) (Nat.le_of_ble_eq_true rfl) rfl (fun hq2 aq1 eq3 gq4 Eq5 ⟨Aq6, Bq7⟩ => ?_)
  have nq8 : src ≠ aq1 := by rw [eq3]; exact Nat.ne_of_lt (A.lt)
  have Aq9 : Ax Z hq2 aq1 .byte ([.int (0 : Int32), .int (0 : Int32), .int (0 : Int32)]) := Aq6
  refine Rn.astoreN (pc' := 4) (Ls' := #[.val (.ref src), .val (.int (0 : Int32)), .val (.int (3 : Int32)), .val (.ref aq1), .unset, .unset]) d14_3 rfl rfl rfl ?_
  refine Rn.aloadN (pc' := 5) d14_4 rfl rfl rfl ?_
  refine Rn.iloadN (pc' := 6) d14_5 rfl rfl ?_
  refine Rn.aloadN (pc' := 7) d14_6 rfl rfl rfl ?_
  refine Rn.iconst (pc' := 8) (v := (0 : Int32)) d14_7 rfl rfl ?_
  refine Rn.iloadN (pc' := 9) d14_8 rfl rfl ?_
  have Fq10 := A.ext Eq5
  refine Rn.callS (pc' := 12) (argsL := [.ref src, .int (0 : Int32), .ref aq1, .int (0 : Int32), .int (3 : Int32)]) (rest := []) (ct_cf3_1 Z a0 hw src aq1 c0 c1 c2 hp0 hq hq2 Fq10 Aq9 nq8) (hw _ (List.mem_of_getElem? (i := 75) rfl)) (hw _ (List.mem_of_getElem? (i := 76) rfl)) (hw _ (List.mem_of_getElem? (i := 73) rfl)) (hw _ (List.mem_of_getElem? (i := 77) rfl)) (by decide) rfl rfl (lenOf pd_3 rfl) rfl d14_9 rfl (Nat.le_of_ble_eq_true rfl) (Nat.le_of_ble_eq_true rfl) (Nat.le_of_ble_eq_true rfl) (Nat.le_of_ble_eq_true rfl) (allS (Or.inr gq4) all0) (allS Sf.no (all0)) (fun vq11 hq12 Kq13 qq14 => ?_)
  obtain rfl := qq14
  simp only [Option.toList, List.cons_append, List.nil_append]
  refine Rn.istore (pc' := 14) (Ls' := #[.val (.ref src), .val (.int (0 : Int32)), .val (.int (3 : Int32)), .val (.ref aq1), .val (.int (1 : Int32)), .unset]) d14_12 rfl rfl ?_
  refine Rn.iload (pc' := 16) d14_14 rfl rfl ?_
  refine Rn.iloadN (pc' := 17) d14_16 rfl rfl ?_
  refine Rn.icmp_eq (pc' := 57) (pn := 20) d14_17 (by decide) (by decide) rfl (fun cq15 => absurd cq15 (by decide)) (fun cq15 => ?_)
  refine Rn.aloadN (pc' := 21) d14_20 rfl rfl rfl ?_
  refine Rn.iloadN (pc' := 22) d14_21 rfl rfl ?_
  refine Rn.iloadN (pc' := 23) d14_22 rfl rfl ?_
  have Fq16 := Fq10.keep Kq13 (ninS nq8 nin0)
  refine Rn.old fun _ hK => ?_
  refine Rn.callS (pc' := 26) (argsL := [.ref src, .int (0 : Int32), .int (3 : Int32)]) (rest := []) (ct_tb3 Z a0 hw src c0 c1 c2 hq12 Fq16 UA UH UL) (hw _ (List.mem_of_getElem? (i := 87) rfl)) (hw _ (List.mem_of_getElem? (i := 88) rfl)) (hw _ (List.mem_of_getElem? (i := 73) rfl)) (hw _ (List.mem_of_getElem? (i := 89) rfl)) (by decide) rfl rfl (lenOf pd_4 rfl) rfl d14_23 rfl (Nat.le_of_ble_eq_true rfl) (Nat.le_of_ble_eq_true rfl) (Nat.le_of_ble_eq_true rfl) (Nat.le_of_ble_eq_true rfl) (fun _ z => nomatch z) (fun _ z => nomatch z) (fun vq17 hq18 Kq19 qq20 => ?_)
  obtain ⟨u, rfl, hu, Au⟩ := qq20
  simp only [Option.toList, List.cons_append, List.nil_append]
  refine Rn.astore (pc' := 28) (Ls' := #[.val (.ref src), .val (.int (0 : Int32)), .val (.int (3 : Int32)), .val (.ref aq1), .val (.int (1 : Int32)), .val (.ref u)]) d14_26 rfl rfl rfl ?_
  refine Rn.aload (pc' := 30) d14_28 rfl rfl rfl ?_
  refine Rn.iload (pc' := 32) d14_30 rfl rfl ?_
  refine Rn.callS (pc' := 35) (argsL := [.ref u, .int (1 : Int32)]) (rest := []) (ct_gch3_1 Z a0 hw u c0 c1 c2 hC1 hq18 Au UA UH UL) (hw _ (List.mem_of_getElem? (i := 103) rfl)) (hw _ (List.mem_of_getElem? (i := 104) rfl)) (hw _ (List.mem_of_getElem? (i := 73) rfl)) (hw _ (List.mem_of_getElem? (i := 105) rfl)) (by decide) rfl rfl (lenOf pd_5 rfl) rfl d14_32 rfl (Nat.le_of_ble_eq_true rfl) (Nat.le_of_ble_eq_true rfl) (Nat.le_of_ble_eq_true rfl) (Nat.le_of_ble_eq_true rfl) (fun _ z => nomatch z) (fun _ z => nomatch z) (fun vq21 hq22 Kq23 qq24 => ?_)
  obtain ⟨rfl, rfl⟩ := qq24
  simp only [Option.toList, List.cons_append, List.nil_append]
  refine Rn.sipush (pc' := 38) (v := (255 : Int32)) d14_35 rfl rfl ?_
  refine Rn.icmp_gt (pc' := 54) (pn := 41) d14_38 (by decide) (by decide) rfl (fun cq25 => ?_) (fun cq25 => absurd hq cq25)
  refine Rn.aload (pc' := 56) d14_54 rfl rfl rfl ?_
  refine Rn.retA (t := (.array .byte)) rfl rfl rfl d14_56 (Nat.le_of_ble_eq_true rfl) (Nat.le_of_ble_eq_true rfl) ?_
  exact ⟨u, rfl, Nat.le_trans hK.1 hu, Au⟩
set_option maxRecDepth 65536 in
set_option maxHeartbeats 40000000 in
theorem ct_siw3_1 (Z : State) (a0 : Array Value) (hw : ∀ d ∈ tables_1, d.before a0 Z = true) (x : Addr) (src : Addr) (c0 c1 c2 : Int32) (hp0 : ¬ 255 < c0) (hq : 255 < c1) (hC0 : own_C c0) (hC1 : own_C c1) (hC2 : own_C c2) (h0 : Heap) (E : Exa Z h0 x "java/lang/String") (V : Fld Z h0 x "java/lang/String" "value" "[B" .null) (Co : Fld Z h0 x "java/lang/String" "coder" "B" (.int (0 : Int32))) (A : Ax Z h0 src .char [.int c0, .int c1, .int c2]) (hn : src ≠ x) (z : Int32) (hz : z ≠ 0) (S : Sta Z Z.heap "java/lang/String" "COMPACT_STRINGS" "Z" (.int z)) (UA : Sta Z Z.heap "java/lang/StringUTF16" "$assertionsDisabled" "Z" (.int (1 : Int32))) (UH : Sta Z Z.heap "java/lang/StringUTF16" "HI_BYTE_SHIFT" "I" (.int (0 : Int32))) (UL : Sta Z Z.heap "java/lang/StringUTF16" "LO_BYTE_SHIFT" "I" (.int (8 : Int32))) :
    Ct Z ⟨"java/lang/String", "<init>", "([CIILjava/lang/Void;)V"⟩ jdk_42_method_149_code 6 (Option.none : Option FieldType) ({ frames := 4, cells := 2, slots := 9, locals := 57 } : Room) #[(.ref x), (.ref src), (.int (0 : Int32)), (.int (3 : Int32)), (.null)] h0 [x] (fun v h => v = none ∧ ∃ t, Su Z h x t [.int (b8 c0), .int (b8 (own_hi c0)), .int (b8 c1), .int (b8 (own_hi c1)), .int (b8 c2), .int (b8 (own_hi c2))]) := by
  refine Ct.intro (Ls := #[.val (.ref x), .val (.ref src), .val (.int (0 : Int32)), .val (.int (3 : Int32)), .val (.null), .unset]) (plainFor_of_name pn_4) (by intro m; first | (simp [entryFrame, mkF, argsToLocals, Value.category]; done) | rfl) ?_
  refine Rn.aloadN (pc' := 1) d2_0 rfl rfl rfl ?_
  refine Rn.initO (pc' := 4) (hw _ (List.mem_of_getElem? (i := 16) rfl)) (hw _ (List.mem_of_getElem? (i := 17) rfl)) (hw _ (List.mem_of_getElem? (i := 18) rfl)) rfl d2_1 (Nat.le_of_ble_eq_true rfl) (Nat.le_of_ble_eq_true rfl) rfl ?_
  refine Rn.iloadN (pc' := 5) d2_4 rfl rfl ?_
  refine Rn.if_ne (pc' := 27) (pn := 8) d2_5 (by decide) (by decide) rfl (fun cq1 => ?_) (fun cq1 => absurd cq1 (by decide))
  refine Rn.old fun Oq2 _ => ?_
  refine Rn.getS (pc' := 30) (hw _ (List.mem_of_getElem? (i := 46) rfl)) Via.refl (S.ext Oq2) d2_27 rfl ?_
  refine Rn.if_eq (pc' := 58) (pn := 33) d2_30 (by decide) (by decide) rfl (fun cq3 => absurd cq3 hz) (fun cq3 => ?_)
  refine Rn.aloadN (pc' := 34) d2_33 rfl rfl rfl ?_
  refine Rn.iloadN (pc' := 35) d2_34 rfl rfl ?_
  refine Rn.iloadN (pc' := 36) d2_35 rfl rfl ?_
  refine Rn.callS (pc' := 39) (argsL := [.ref src, .int (0 : Int32), .int (3 : Int32)]) (rest := []) (ct_cu3_1 Z a0 hw src c0 c1 c2 hp0 hq hC0 hC1 hC2 h0 A UA UH UL) (hw _ (List.mem_of_getElem? (i := 71) rfl)) (hw _ (List.mem_of_getElem? (i := 72) rfl)) (hw _ (List.mem_of_getElem? (i := 73) rfl)) (hw _ (List.mem_of_getElem? (i := 74) rfl)) (by decide) rfl rfl (lenOf pd_4 rfl) rfl d2_36 rfl (Nat.le_of_ble_eq_true rfl) (Nat.le_of_ble_eq_true rfl) (Nat.le_of_ble_eq_true rfl) (Nat.le_of_ble_eq_true rfl) (fun _ z => nomatch z) (fun _ z => nomatch z) (fun vq4 hq5 Kq6 qq7 => ?_)
  obtain ⟨t, rfl, ht, At⟩ := qq7
  simp only [Option.toList, List.cons_append, List.nil_append]
  have nt : x ≠ t := Nat.ne_of_lt (Nat.lt_of_lt_of_le E.lt ht)
  refine Rn.astore (pc' := 41) (Ls' := #[.val (.ref x), .val (.ref src), .val (.int (0 : Int32)), .val (.int (3 : Int32)), .val (.null), .val (.ref t)]) d2_39 rfl rfl rfl ?_
  refine Rn.aloadN (pc' := 42) d2_41 rfl rfl rfl ?_
  refine Rn.aload (pc' := 44) d2_42 rfl rfl rfl ?_
  refine Rn.iloadN (pc' := 45) d2_44 rfl rfl ?_
  refine Rn.callS (pc' := 48) (argsL := [.ref t, .int (3 : Int32)]) (rest := [.ref x]) (ct_cod16_3 Z a0 hw t c0 c1 c2 hq5 At) (hw _ (List.mem_of_getElem? (i := 78) rfl)) (hw _ (List.mem_of_getElem? (i := 79) rfl)) (hw _ (List.mem_of_getElem? (i := 73) rfl)) (hw _ (List.mem_of_getElem? (i := 80) rfl)) (by decide) rfl rfl (lenOf pd_6 rfl) rfl d2_45 rfl (Nat.le_of_ble_eq_true rfl) (Nat.le_of_ble_eq_true rfl) (Nat.le_of_ble_eq_true rfl) (Nat.le_of_ble_eq_true rfl) (fun _ z => nomatch z) (fun _ z => nomatch z) (fun vq8 hq9 Kq10 qq11 => ?_)
  obtain ⟨rfl, rfl⟩ := qq11
  simp only [Option.toList, List.cons_append, List.nil_append]
  have Fq12 := Co.keep Kq6 nin0
  have Fq13 := E.keep Kq6
  refine Rn.putF (pc' := 51) (hw _ (List.mem_of_getElem? (i := 26) rfl)) Via.refl Fq12 Fq13 (Or.inr ⟨(hw _ (List.mem_of_getElem? (i := 22) rfl)), rfl, rfl⟩) (hw _ (List.mem_of_getElem? (i := 6) rfl)) (ty := .byte) (by decide) rfl rfl (Or.inl (List.mem_of_getElem? (i := 0) rfl)) Sf.no d2_48 rfl (fun hq15 Wq14 => ?_)
  have Fq16 := Fq12.same Wq14
  refine Rn.aloadN (pc' := 52) d2_51 rfl rfl rfl ?_
  refine Rn.aload (pc' := 54) d2_52 rfl rfl rfl ?_
  have Fq17 := V.keep Kq6 nin0
  have Fq18 := Fq17.other Wq14 (Or.inr (slot_ne (t := (.array .byte)) (t' := .byte) (Or.inr (hw _ (List.mem_of_getElem? (i := 21) rfl))) (Or.inr (hw _ (List.mem_of_getElem? (i := 22) rfl))) (by decide) (by decide) (by decide)))
  have Fq19 := Fq13.wr Wq14
  refine Rn.putF (pc' := 57) (hw _ (List.mem_of_getElem? (i := 25) rfl)) Via.refl Fq18 Fq19 (Or.inr ⟨(hw _ (List.mem_of_getElem? (i := 21) rfl)), rfl, rfl⟩) (hw _ (List.mem_of_getElem? (i := 6) rfl)) (ty := (.array .byte)) (by decide) rfl rfl (Or.inl (List.mem_of_getElem? (i := 0) rfl)) Sf.no d2_54 rfl (fun hq21 Wq20 => ?_)
  have Fq22 := Fq18.same Wq20
  refine Rn.retV rfl d2_57 (Nat.le_of_ble_eq_true rfl) (Nat.le_of_ble_eq_true rfl) ?_
  have Fq23 := Fq19.wr Wq20
  have Fq24 := Fq16.other Wq20 (Or.inr (slot_ne (t := .byte) (t' := (.array .byte)) (Or.inr (hw _ (List.mem_of_getElem? (i := 22) rfl))) (Or.inr (hw _ (List.mem_of_getElem? (i := 21) rfl))) (by decide) (by decide) (by decide)))
  have Fq25 := At.other Wq14 (Ne.symm nt)
  have Fq26 := Fq25.other Wq20 (Ne.symm nt)
  exact ⟨rfl, t, ⟨Fq23, Fq24, Fq22, Fq26⟩⟩
set_option maxRecDepth 65536 in
set_option maxHeartbeats 40000000 in
theorem ct_sx3_1 (Z : State) (a0 : Array Value) (hw : ∀ d ∈ tables_1, d.before a0 Z = true) (x : Addr) (src : Addr) (c0 c1 c2 : Int32) (hp0 : ¬ 255 < c0) (hq : 255 < c1) (hC0 : own_C c0) (hC1 : own_C c1) (hC2 : own_C c2) (h0 : Heap) (E : Exa Z h0 x "java/lang/String") (V : Fld Z h0 x "java/lang/String" "value" "[B" .null) (Co : Fld Z h0 x "java/lang/String" "coder" "B" (.int (0 : Int32))) (A : Ax Z h0 src .char [.int c0, .int c1, .int c2]) (hn : src ≠ x) (z : Int32) (hz : z ≠ 0) (S : Sta Z Z.heap "java/lang/String" "COMPACT_STRINGS" "Z" (.int z)) (UA : Sta Z Z.heap "java/lang/StringUTF16" "$assertionsDisabled" "Z" (.int (1 : Int32))) (UH : Sta Z Z.heap "java/lang/StringUTF16" "HI_BYTE_SHIFT" "I" (.int (0 : Int32))) (UL : Sta Z Z.heap "java/lang/StringUTF16" "LO_BYTE_SHIFT" "I" (.int (8 : Int32))) :
    Ct Z ⟨"java/lang/String", "<init>", "([C)V"⟩ jdk_42_method_3_code 2 (Option.none : Option FieldType) ({ frames := 5, cells := 2, slots := 9, locals := 74 } : Room) #[(.ref x), (.ref src)] h0 [x] (fun v h => v = none ∧ ∃ t, Su Z h x t [.int (b8 c0), .int (b8 (own_hi c0)), .int (b8 c1), .int (b8 (own_hi c1)), .int (b8 c2), .int (b8 (own_hi c2))]) := by
  refine Ct.intro (Ls := #[.val (.ref x), .val (.ref src)]) (plainFor_of_name pn_4) (by intro m; first | (simp [entryFrame, mkF, argsToLocals, Value.category]; done) | rfl) ?_
  refine Rn.aloadN (pc' := 1) d1_0 rfl rfl rfl ?_
  refine Rn.aloadN (pc' := 2) d1_1 rfl rfl rfl ?_
  refine Rn.iconst (pc' := 3) (v := (0 : Int32)) d1_2 rfl rfl ?_
  refine Rn.aloadN (pc' := 4) d1_3 rfl rfl rfl ?_
  refine Rn.arraylength (pc' := 5) (n := (3 : Int32)) A rfl d1_4 rfl ?_
  refine Rn.aconst_null (pc' := 6) d1_5 rfl ?_
  refine Rn.callI (pc' := 9) (argsL := [.ref src, .int (0 : Int32), .int (3 : Int32), .null]) (a := x) (rest := []) (ct_siw3_1 Z a0 hw x src c0 c1 c2 hp0 hq hC0 hC1 hC2 h0 E V Co A hn z hz S UA UH UL) rfl (hw _ (List.mem_of_getElem? (i := 12) rfl)) (hw _ (List.mem_of_getElem? (i := 13) rfl)) (hw _ (List.mem_of_getElem? (i := 7) rfl)) (hw _ (List.mem_of_getElem? (i := 15) rfl)) (by decide) rfl rfl (lenOf pd_7 rfl) rfl d1_6 rfl (Nat.le_of_ble_eq_true rfl) (Nat.le_of_ble_eq_true rfl) (Nat.le_of_ble_eq_true rfl) (Nat.le_of_ble_eq_true rfl) (allS (Or.inl (List.mem_of_getElem? (i := 0) rfl)) all0) (allS Sf.no (all0)) (fun vq1 hq2 Kq3 qq4 => ?_)
  obtain ⟨rfl, t, G⟩ := qq4
  simp only [Option.toList, List.cons_append, List.nil_append]
  refine Rn.retV rfl d1_9 (Nat.le_of_ble_eq_true rfl) (Nat.le_of_ble_eq_true rfl) ?_
  exact ⟨rfl, t, G⟩
set_option maxRecDepth 65536 in
set_option maxHeartbeats 40000000 in
theorem ct_cf3_2 (Z : State) (a0 : Array Value) (hw : ∀ d ∈ tables_1, d.before a0 Z = true) (src t : Addr) (c0 c1 c2 : Int32) (hp0 : ¬ 255 < c0) (hp1 : ¬ 255 < c1) (hq : 255 < c2) (h0 : Heap) (A : Ax Z h0 src .char [.int c0, .int c1, .int c2]) (B : Ax Z h0 t .byte [.int (0 : Int32), .int (0 : Int32), .int (0 : Int32)]) (hn : src ≠ t) :
    Ct Z ⟨"java/lang/StringUTF16", "compress", "([CI[BII)I"⟩ jdk_52_method_21_code 7 (Option.some FieldType.int) ({ frames := 0, cells := 0, slots := 0, locals := 0 } : Room) #[(.ref src), (.int (0 : Int32)), (.ref t), (.int (0 : Int32)), (.int (3 : Int32))] h0 [t] (fun v h => v = some (.int (2 : Int32))) := by
  refine Ct.intro (Ls := #[.val (.ref src), .val (.int (0 : Int32)), .val (.ref t), .val (.int (0 : Int32)), .val (.int (3 : Int32)), .unset, .unset]) (plainFor_of_name pn_3) (by intro m; first | (simp [entryFrame, mkF, argsToLocals, Value.category]; done) | rfl) ?_
  refine Rn.iconst (pc' := 1) (v := (0 : Int32)) d15_0 rfl rfl ?_
  refine Rn.istore (pc' := 3) (Ls' := #[.val (.ref src), .val (.int (0 : Int32)), .val (.ref t), .val (.int (0 : Int32)), .val (.int (3 : Int32)), .val (.int (0 : Int32)), .unset]) d15_1 rfl rfl ?_
  refine Rn.iload (pc' := 5) d15_3 rfl rfl ?_
  refine Rn.iload (pc' := 7) d15_5 rfl rfl ?_
  refine Rn.icmp_ge (pc' := 44) (pn := 10) d15_7 (by decide) (by decide) rfl (fun cq1 => absurd cq1 (by decide)) (fun cq1 => ?_)
  refine Rn.aloadN (pc' := 11) d15_10 rfl rfl rfl ?_
  refine Rn.iloadN (pc' := 12) d15_11 rfl rfl ?_
  refine Rn.caload (pc' := 13) (v := .int c0) A (by decide) rfl d15_12 rfl ?_
  refine Rn.istore (pc' := 15) (Ls' := #[.val (.ref src), .val (.int (0 : Int32)), .val (.ref t), .val (.int (0 : Int32)), .val (.int (3 : Int32)), .val (.int (0 : Int32)), .val (.int c0)]) d15_13 rfl rfl ?_
  refine Rn.iload (pc' := 17) d15_15 rfl rfl ?_
  refine Rn.sipush (pc' := 20) (v := (255 : Int32)) d15_17 rfl rfl ?_
  refine Rn.icmp_le (pc' := 26) (pn := 23) d15_20 (by decide) (by decide) rfl (fun cq2 => ?_) (fun cq2 => absurd cq2 hp0)
  refine Rn.aloadN (pc' := 27) d15_26 rfl rfl rfl ?_
  refine Rn.iloadN (pc' := 28) d15_27 rfl rfl ?_
  refine Rn.iload (pc' := 30) d15_28 rfl rfl ?_
  refine Rn.i2b (pc' := 31) (v := (b8 c0)) d15_30 rfl rfl ?_
  refine Rn.bastore (pc' := 32) (v := .int (b8 c0)) B (by decide) (Nat.le_of_ble_eq_true rfl) (congrArg Value.int (nar_b8 c0)) (Or.inl (List.mem_of_getElem? (i := 0) rfl)) Sf.no d15_31 rfl (fun hq4 Wq3 Aq5 => ?_)
  have Aq6 : Ax Z hq4 t .byte ([.int (b8 c0), .int (0 : Int32), .int (0 : Int32)]) := Aq5
  refine Rn.iinc (pc' := 35) (v := (1 : Int32)) (Ls' := #[.val (.ref src), .val (.int (1 : Int32)), .val (.ref t), .val (.int (0 : Int32)), .val (.int (3 : Int32)), .val (.int (0 : Int32)), .val (.int c0)]) d15_32 rfl rfl rfl rfl ?_
  refine Rn.iinc (pc' := 38) (v := (1 : Int32)) (Ls' := #[.val (.ref src), .val (.int (1 : Int32)), .val (.ref t), .val (.int (1 : Int32)), .val (.int (3 : Int32)), .val (.int (0 : Int32)), .val (.int c0)]) d15_35 rfl rfl rfl rfl ?_
  refine Rn.iinc (pc' := 41) (v := (1 : Int32)) (Ls' := #[.val (.ref src), .val (.int (1 : Int32)), .val (.ref t), .val (.int (1 : Int32)), .val (.int (3 : Int32)), .val (.int (1 : Int32)), .val (.int c0)]) d15_38 rfl rfl rfl rfl ?_
  refine Rn.goto (pc' := 3) d15_41 (by decide) (by decide) ?_
  refine Rn.iload (pc' := 5) d15_3 rfl rfl ?_
  refine Rn.iload (pc' := 7) d15_5 rfl rfl ?_
  refine Rn.icmp_ge (pc' := 44) (pn := 10) d15_7 (by decide) (by decide) rfl (fun cq7 => absurd cq7 (by decide)) (fun cq7 => ?_)
  refine Rn.aloadN (pc' := 11) d15_10 rfl rfl rfl ?_
  refine Rn.iloadN (pc' := 12) d15_11 rfl rfl ?_
  have Fq8 := A.other Wq3 hn
  refine Rn.caload (pc' := 13) (v := .int c1) Fq8 (by decide) rfl d15_12 rfl ?_
  refine Rn.istore (pc' := 15) (Ls' := #[.val (.ref src), .val (.int (1 : Int32)), .val (.ref t), .val (.int (1 : Int32)), .val (.int (3 : Int32)), .val (.int (1 : Int32)), .val (.int c1)]) d15_13 rfl rfl ?_
  refine Rn.iload (pc' := 17) d15_15 rfl rfl ?_
  refine Rn.sipush (pc' := 20) (v := (255 : Int32)) d15_17 rfl rfl ?_
  refine Rn.icmp_le (pc' := 26) (pn := 23) d15_20 (by decide) (by decide) rfl (fun cq9 => ?_) (fun cq9 => absurd cq9 hp1)
  refine Rn.aloadN (pc' := 27) d15_26 rfl rfl rfl ?_
  refine Rn.iloadN (pc' := 28) d15_27 rfl rfl ?_
  refine Rn.iload (pc' := 30) d15_28 rfl rfl ?_
  refine Rn.i2b (pc' := 31) (v := (b8 c1)) d15_30 rfl rfl ?_
  refine Rn.bastore (pc' := 32) (v := .int (b8 c1)) Aq6 (by decide) (Nat.le_of_ble_eq_true rfl) (congrArg Value.int (nar_b8 c1)) (Or.inl (List.mem_of_getElem? (i := 0) rfl)) Sf.no d15_31 rfl (fun hq11 Wq10 Aq12 => ?_)
  have Aq13 : Ax Z hq11 t .byte ([.int (b8 c0), .int (b8 c1), .int (0 : Int32)]) := Aq12
  refine Rn.iinc (pc' := 35) (v := (2 : Int32)) (Ls' := #[.val (.ref src), .val (.int (2 : Int32)), .val (.ref t), .val (.int (1 : Int32)), .val (.int (3 : Int32)), .val (.int (1 : Int32)), .val (.int c1)]) d15_32 rfl rfl rfl rfl ?_
  refine Rn.iinc (pc' := 38) (v := (2 : Int32)) (Ls' := #[.val (.ref src), .val (.int (2 : Int32)), .val (.ref t), .val (.int (2 : Int32)), .val (.int (3 : Int32)), .val (.int (1 : Int32)), .val (.int c1)]) d15_35 rfl rfl rfl rfl ?_
  refine Rn.iinc (pc' := 41) (v := (2 : Int32)) (Ls' := #[.val (.ref src), .val (.int (2 : Int32)), .val (.ref t), .val (.int (2 : Int32)), .val (.int (3 : Int32)), .val (.int (2 : Int32)), .val (.int c1)]) d15_38 rfl rfl rfl rfl ?_
  refine Rn.goto (pc' := 3) d15_41 (by decide) (by decide) ?_
  refine Rn.iload (pc' := 5) d15_3 rfl rfl ?_
  refine Rn.iload (pc' := 7) d15_5 rfl rfl ?_
  refine Rn.icmp_ge (pc' := 44) (pn := 10) d15_7 (by decide) (by decide) rfl (fun cq14 => absurd cq14 (by decide)) (fun cq14 => ?_)
  refine Rn.aloadN (pc' := 11) d15_10 rfl rfl rfl ?_
  refine Rn.iloadN (pc' := 12) d15_11 rfl rfl ?_
  have Fq15 := Fq8.other Wq10 hn
  refine Rn.caload (pc' := 13) (v := .int c2) Fq15 (by decide) rfl d15_12 rfl ?_
  refine Rn.istore (pc' := 15) (Ls' := #[.val (.ref src), .val (.int (2 : Int32)), .val (.ref t), .val (.int (2 : Int32)), .val (.int (3 : Int32)), .val (.int (2 : Int32)), .val (.int c2)]) d15_13 rfl rfl ?_
  refine Rn.iload (pc' := 17) d15_15 rfl rfl ?_
  refine Rn.sipush (pc' := 20) (v := (255 : Int32)) d15_17 rfl rfl ?_
  refine Rn.icmp_le (pc' := 26) (pn := 23) d15_20 (by decide) (by decide) rfl (fun cq16 => absurd hq cq16) (fun cq16 => ?_)
  refine Rn.iload (pc' := 25) d15_23 rfl rfl ?_
  refine Rn.retI rfl d15_25 (Nat.le_of_ble_eq_true rfl) (Nat.le_of_ble_eq_true rfl) ?_
  rfl
set_option maxRecDepth 65536 in
set_option maxHeartbeats 40000000 in
theorem ct_cu3_2 (Z : State) (a0 : Array Value) (hw : ∀ d ∈ tables_1, d.before a0 Z = true) (src : Addr) (c0 c1 c2 : Int32) (hp0 : ¬ 255 < c0) (hp1 : ¬ 255 < c1) (hq : 255 < c2) (hC0 : own_C c0) (hC1 : own_C c1) (hC2 : own_C c2) (h0 : Heap) (A : Ax Z h0 src .char [.int c0, .int c1, .int c2]) (UA : Sta Z Z.heap "java/lang/StringUTF16" "$assertionsDisabled" "Z" (.int (1 : Int32))) (UH : Sta Z Z.heap "java/lang/StringUTF16" "HI_BYTE_SHIFT" "I" (.int (0 : Int32))) (UL : Sta Z Z.heap "java/lang/StringUTF16" "LO_BYTE_SHIFT" "I" (.int (8 : Int32))) :
    Ct Z ⟨"java/lang/StringUTF16", "compress", "([CII)[B"⟩ jdk_52_method_16_code 6 (Option.some (FieldType.array FieldType.byte)) ({ frames := 3, cells := 2, slots := 9, locals := 40 } : Room) #[(.ref src), (.int (0 : Int32)), (.int (3 : Int32))] h0 [] (fun v h => ∃ t, v = some (.ref t) ∧ h0.size ≤ t ∧ Ax Z h t .byte [.int (b8 c0), .int (b8 (own_hi c0)), .int (b8 c1), .int (b8 (own_hi c1)), .int (b8 c2), .int (b8 (own_hi c2))]) := by
  refine Ct.intro (Ls := #[.val (.ref src), .val (.int (0 : Int32)), .val (.int (3 : Int32)), .unset, .unset, .unset]) (plainFor_of_name pn_3) (by intro m; first | (simp [entryFrame, mkF, argsToLocals, Value.category]; done) | rfl) ?_
  refine Rn.iloadN (pc' := 1) d14_0 rfl rfl ?_
  refine Rn.newP (pc' := 3) (cap := 3) (ty := .byte) (ad := "[B") (hw _ (List.mem_of_getElem? (i := 20) rfl)) rfl rfl d14_1 (by decide) (Nat.le_of_ble_eq_true rfl) (by decide) (Nat.le_of_ble_eq_true rfl) (Nat.le_of_ble_eq_true rfl) rfl (fun hq2 aq1 eq3 gq4 Eq5 ⟨Aq6, Bq7⟩ => ?_)
  have nq8 : src ≠ aq1 := by rw [eq3]; exact Nat.ne_of_lt (A.lt)
  have Aq9 : Ax Z hq2 aq1 .byte ([.int (0 : Int32), .int (0 : Int32), .int (0 : Int32)]) := Aq6
  refine Rn.astoreN (pc' := 4) (Ls' := #[.val (.ref src), .val (.int (0 : Int32)), .val (.int (3 : Int32)), .val (.ref aq1), .unset, .unset]) d14_3 rfl rfl rfl ?_
  refine Rn.aloadN (pc' := 5) d14_4 rfl rfl rfl ?_
  refine Rn.iloadN (pc' := 6) d14_5 rfl rfl ?_
  refine Rn.aloadN (pc' := 7) d14_6 rfl rfl rfl ?_
  refine Rn.iconst (pc' := 8) (v := (0 : Int32)) d14_7 rfl rfl ?_
  refine Rn.iloadN (pc' := 9) d14_8 rfl rfl ?_
  have Fq10 := A.ext Eq5
  refine Rn.callS (pc' := 12) (argsL := [.ref src, .int (0 : Int32), .ref aq1, .int (0 : Int32), .int (3 : Int32)]) (rest := []) (ct_cf3_2 Z a0 hw src aq1 c0 c1 c2 hp0 hp1 hq hq2 Fq10 Aq9 nq8) (hw _ (List.mem_of_getElem? (i := 75) rfl)) (hw _ (List.mem_of_getElem? (i := 76) rfl)) (hw _ (List.mem_of_getElem? (i := 73) rfl)) (hw _ (List.mem_of_getElem? (i := 77) rfl)) (by decide) rfl rfl (lenOf pd_3 rfl) rfl d14_9 rfl (Nat.le_of_ble_eq_true rfl) (Nat.le_of_ble_eq_true rfl) (Nat.le_of_ble_eq_true rfl) (Nat.le_of_ble_eq_true rfl) (allS (Or.inr gq4) all0) (allS Sf.no (all0)) (fun vq11 hq12 Kq13 qq14 => ?_)
  obtain rfl := qq14
  simp only [Option.toList, List.cons_append, List.nil_append]
  refine Rn.istore (pc' := 14) (Ls' := #[.val (.ref src), .val (.int (0 : Int32)), .val (.int (3 : Int32)), .val (.ref aq1), .val (.int (2 : Int32)), .unset]) d14_12 rfl rfl ?_
  refine Rn.iload (pc' := 16) d14_14 rfl rfl ?_
  refine Rn.iloadN (pc' := 17) d14_16 rfl rfl ?_
  refine Rn.icmp_eq (pc' := 57) (pn := 20) d14_17 (by decide) (by decide) rfl (fun cq15 => absurd cq15 (by decide)) (fun cq15 => ?_)
  refine Rn.aloadN (pc' := 21) d14_20 rfl rfl rfl ?_
  refine Rn.iloadN (pc' := 22) d14_21 rfl rfl ?_
  refine Rn.iloadN (pc' := 23) d14_22 rfl rfl ?_
  have Fq16 := Fq10.keep Kq13 (ninS nq8 nin0)
  refine Rn.old fun _ hK => ?_
  refine Rn.callS (pc' := 26) (argsL := [.ref src, .int (0 : Int32), .int (3 : Int32)]) (rest := []) (ct_tb3 Z a0 hw src c0 c1 c2 hq12 Fq16 UA UH UL) (hw _ (List.mem_of_getElem? (i := 87) rfl)) (hw _ (List.mem_of_getElem? (i := 88) rfl)) (hw _ (List.mem_of_getElem? (i := 73) rfl)) (hw _ (List.mem_of_getElem? (i := 89) rfl)) (by decide) rfl rfl (lenOf pd_4 rfl) rfl d14_23 rfl (Nat.le_of_ble_eq_true rfl) (Nat.le_of_ble_eq_true rfl) (Nat.le_of_ble_eq_true rfl) (Nat.le_of_ble_eq_true rfl) (fun _ z => nomatch z) (fun _ z => nomatch z) (fun vq17 hq18 Kq19 qq20 => ?_)
  obtain ⟨u, rfl, hu, Au⟩ := qq20
  simp only [Option.toList, List.cons_append, List.nil_append]
  refine Rn.astore (pc' := 28) (Ls' := #[.val (.ref src), .val (.int (0 : Int32)), .val (.int (3 : Int32)), .val (.ref aq1), .val (.int (2 : Int32)), .val (.ref u)]) d14_26 rfl rfl rfl ?_
  refine Rn.aload (pc' := 30) d14_28 rfl rfl rfl ?_
  refine Rn.iload (pc' := 32) d14_30 rfl rfl ?_
  refine Rn.callS (pc' := 35) (argsL := [.ref u, .int (2 : Int32)]) (rest := []) (ct_gch3_2 Z a0 hw u c0 c1 c2 hC2 hq18 Au UA UH UL) (hw _ (List.mem_of_getElem? (i := 103) rfl)) (hw _ (List.mem_of_getElem? (i := 104) rfl)) (hw _ (List.mem_of_getElem? (i := 73) rfl)) (hw _ (List.mem_of_getElem? (i := 105) rfl)) (by decide) rfl rfl (lenOf pd_5 rfl) rfl d14_32 rfl (Nat.le_of_ble_eq_true rfl) (Nat.le_of_ble_eq_true rfl) (Nat.le_of_ble_eq_true rfl) (Nat.le_of_ble_eq_true rfl) (fun _ z => nomatch z) (fun _ z => nomatch z) (fun vq21 hq22 Kq23 qq24 => ?_)
  obtain ⟨rfl, rfl⟩ := qq24
  simp only [Option.toList, List.cons_append, List.nil_append]
  refine Rn.sipush (pc' := 38) (v := (255 : Int32)) d14_35 rfl rfl ?_
  refine Rn.icmp_gt (pc' := 54) (pn := 41) d14_38 (by decide) (by decide) rfl (fun cq25 => ?_) (fun cq25 => absurd hq cq25)
  refine Rn.aload (pc' := 56) d14_54 rfl rfl rfl ?_
  refine Rn.retA (t := (.array .byte)) rfl rfl rfl d14_56 (Nat.le_of_ble_eq_true rfl) (Nat.le_of_ble_eq_true rfl) ?_
  exact ⟨u, rfl, Nat.le_trans hK.1 hu, Au⟩
set_option maxRecDepth 65536 in
set_option maxHeartbeats 40000000 in
theorem ct_siw3_2 (Z : State) (a0 : Array Value) (hw : ∀ d ∈ tables_1, d.before a0 Z = true) (x : Addr) (src : Addr) (c0 c1 c2 : Int32) (hp0 : ¬ 255 < c0) (hp1 : ¬ 255 < c1) (hq : 255 < c2) (hC0 : own_C c0) (hC1 : own_C c1) (hC2 : own_C c2) (h0 : Heap) (E : Exa Z h0 x "java/lang/String") (V : Fld Z h0 x "java/lang/String" "value" "[B" .null) (Co : Fld Z h0 x "java/lang/String" "coder" "B" (.int (0 : Int32))) (A : Ax Z h0 src .char [.int c0, .int c1, .int c2]) (hn : src ≠ x) (z : Int32) (hz : z ≠ 0) (S : Sta Z Z.heap "java/lang/String" "COMPACT_STRINGS" "Z" (.int z)) (UA : Sta Z Z.heap "java/lang/StringUTF16" "$assertionsDisabled" "Z" (.int (1 : Int32))) (UH : Sta Z Z.heap "java/lang/StringUTF16" "HI_BYTE_SHIFT" "I" (.int (0 : Int32))) (UL : Sta Z Z.heap "java/lang/StringUTF16" "LO_BYTE_SHIFT" "I" (.int (8 : Int32))) :
    Ct Z ⟨"java/lang/String", "<init>", "([CIILjava/lang/Void;)V"⟩ jdk_42_method_149_code 6 (Option.none : Option FieldType) ({ frames := 4, cells := 2, slots := 9, locals := 57 } : Room) #[(.ref x), (.ref src), (.int (0 : Int32)), (.int (3 : Int32)), (.null)] h0 [x] (fun v h => v = none ∧ ∃ t, Su Z h x t [.int (b8 c0), .int (b8 (own_hi c0)), .int (b8 c1), .int (b8 (own_hi c1)), .int (b8 c2), .int (b8 (own_hi c2))]) := by
  refine Ct.intro (Ls := #[.val (.ref x), .val (.ref src), .val (.int (0 : Int32)), .val (.int (3 : Int32)), .val (.null), .unset]) (plainFor_of_name pn_4) (by intro m; first | (simp [entryFrame, mkF, argsToLocals, Value.category]; done) | rfl) ?_
  refine Rn.aloadN (pc' := 1) d2_0 rfl rfl rfl ?_
  refine Rn.initO (pc' := 4) (hw _ (List.mem_of_getElem? (i := 16) rfl)) (hw _ (List.mem_of_getElem? (i := 17) rfl)) (hw _ (List.mem_of_getElem? (i := 18) rfl)) rfl d2_1 (Nat.le_of_ble_eq_true rfl) (Nat.le_of_ble_eq_true rfl) rfl ?_
  refine Rn.iloadN (pc' := 5) d2_4 rfl rfl ?_
  refine Rn.if_ne (pc' := 27) (pn := 8) d2_5 (by decide) (by decide) rfl (fun cq1 => ?_) (fun cq1 => absurd cq1 (by decide))
  refine Rn.old fun Oq2 _ => ?_
  refine Rn.getS (pc' := 30) (hw _ (List.mem_of_getElem? (i := 46) rfl)) Via.refl (S.ext Oq2) d2_27 rfl ?_
  refine Rn.if_eq (pc' := 58) (pn := 33) d2_30 (by decide) (by decide) rfl (fun cq3 => absurd cq3 hz) (fun cq3 => ?_)
  refine Rn.aloadN (pc' := 34) d2_33 rfl rfl rfl ?_
  refine Rn.iloadN (pc' := 35) d2_34 rfl rfl ?_
  refine Rn.iloadN (pc' := 36) d2_35 rfl rfl ?_
  refine Rn.callS (pc' := 39) (argsL := [.ref src, .int (0 : Int32), .int (3 : Int32)]) (rest := []) (ct_cu3_2 Z a0 hw src c0 c1 c2 hp0 hp1 hq hC0 hC1 hC2 h0 A UA UH UL) (hw _ (List.mem_of_getElem? (i := 71) rfl)) (hw _ (List.mem_of_getElem? (i := 72) rfl)) (hw _ (List.mem_of_getElem? (i := 73) rfl)) (hw _ (List.mem_of_getElem? (i := 74) rfl)) (by decide) rfl rfl (lenOf pd_4 rfl) rfl d2_36 rfl (Nat.le_of_ble_eq_true rfl) (Nat.le_of_ble_eq_true rfl) (Nat.le_of_ble_eq_true rfl) (Nat.le_of_ble_eq_true rfl) (fun _ z => nomatch z) (fun _ z => nomatch z) (fun vq4 hq5 Kq6 qq7 => ?_)
  obtain ⟨t, rfl, ht, At⟩ := qq7
  simp only [Option.toList, List.cons_append, List.nil_append]
  have nt : x ≠ t := Nat.ne_of_lt (Nat.lt_of_lt_of_le E.lt ht)
  refine Rn.astore (pc' := 41) (Ls' := #[.val (.ref x), .val (.ref src), .val (.int (0 : Int32)), .val (.int (3 : Int32)), .val (.null), .val (.ref t)]) d2_39 rfl rfl rfl ?_
  refine Rn.aloadN (pc' := 42) d2_41 rfl rfl rfl ?_
  refine Rn.aload (pc' := 44) d2_42 rfl rfl rfl ?_
  refine Rn.iloadN (pc' := 45) d2_44 rfl rfl ?_
  refine Rn.callS (pc' := 48) (argsL := [.ref t, .int (3 : Int32)]) (rest := [.ref x]) (ct_cod16_3 Z a0 hw t c0 c1 c2 hq5 At) (hw _ (List.mem_of_getElem? (i := 78) rfl)) (hw _ (List.mem_of_getElem? (i := 79) rfl)) (hw _ (List.mem_of_getElem? (i := 73) rfl)) (hw _ (List.mem_of_getElem? (i := 80) rfl)) (by decide) rfl rfl (lenOf pd_6 rfl) rfl d2_45 rfl (Nat.le_of_ble_eq_true rfl) (Nat.le_of_ble_eq_true rfl) (Nat.le_of_ble_eq_true rfl) (Nat.le_of_ble_eq_true rfl) (fun _ z => nomatch z) (fun _ z => nomatch z) (fun vq8 hq9 Kq10 qq11 => ?_)
  obtain ⟨rfl, rfl⟩ := qq11
  simp only [Option.toList, List.cons_append, List.nil_append]
  have Fq12 := Co.keep Kq6 nin0
  have Fq13 := E.keep Kq6
  refine Rn.putF (pc' := 51) (hw _ (List.mem_of_getElem? (i := 26) rfl)) Via.refl Fq12 Fq13 (Or.inr ⟨(hw _ (List.mem_of_getElem? (i := 22) rfl)), rfl, rfl⟩) (hw _ (List.mem_of_getElem? (i := 6) rfl)) (ty := .byte) (by decide) rfl rfl (Or.inl (List.mem_of_getElem? (i := 0) rfl)) Sf.no d2_48 rfl (fun hq15 Wq14 => ?_)
  have Fq16 := Fq12.same Wq14
  refine Rn.aloadN (pc' := 52) d2_51 rfl rfl rfl ?_
  refine Rn.aload (pc' := 54) d2_52 rfl rfl rfl ?_
  have Fq17 := V.keep Kq6 nin0
  have Fq18 := Fq17.other Wq14 (Or.inr (slot_ne (t := (.array .byte)) (t' := .byte) (Or.inr (hw _ (List.mem_of_getElem? (i := 21) rfl))) (Or.inr (hw _ (List.mem_of_getElem? (i := 22) rfl))) (by decide) (by decide) (by decide)))
  have Fq19 := Fq13.wr Wq14
  refine Rn.putF (pc' := 57) (hw _ (List.mem_of_getElem? (i := 25) rfl)) Via.refl Fq18 Fq19 (Or.inr ⟨(hw _ (List.mem_of_getElem? (i := 21) rfl)), rfl, rfl⟩) (hw _ (List.mem_of_getElem? (i := 6) rfl)) (ty := (.array .byte)) (by decide) rfl rfl (Or.inl (List.mem_of_getElem? (i := 0) rfl)) Sf.no d2_54 rfl (fun hq21 Wq20 => ?_)
  have Fq22 := Fq18.same Wq20
  refine Rn.retV rfl d2_57 (Nat.le_of_ble_eq_true rfl) (Nat.le_of_ble_eq_true rfl) ?_
  have Fq23 := Fq19.wr Wq20
  have Fq24 := Fq16.other Wq20 (Or.inr (slot_ne (t := .byte) (t' := (.array .byte)) (Or.inr (hw _ (List.mem_of_getElem? (i := 22) rfl))) (Or.inr (hw _ (List.mem_of_getElem? (i := 21) rfl))) (by decide) (by decide) (by decide)))
  have Fq25 := At.other Wq14 (Ne.symm nt)
  have Fq26 := Fq25.other Wq20 (Ne.symm nt)
  exact ⟨rfl, t, ⟨Fq23, Fq24, Fq22, Fq26⟩⟩
set_option maxRecDepth 65536 in
set_option maxHeartbeats 40000000 in
theorem ct_sx3_2 (Z : State) (a0 : Array Value) (hw : ∀ d ∈ tables_1, d.before a0 Z = true) (x : Addr) (src : Addr) (c0 c1 c2 : Int32) (hp0 : ¬ 255 < c0) (hp1 : ¬ 255 < c1) (hq : 255 < c2) (hC0 : own_C c0) (hC1 : own_C c1) (hC2 : own_C c2) (h0 : Heap) (E : Exa Z h0 x "java/lang/String") (V : Fld Z h0 x "java/lang/String" "value" "[B" .null) (Co : Fld Z h0 x "java/lang/String" "coder" "B" (.int (0 : Int32))) (A : Ax Z h0 src .char [.int c0, .int c1, .int c2]) (hn : src ≠ x) (z : Int32) (hz : z ≠ 0) (S : Sta Z Z.heap "java/lang/String" "COMPACT_STRINGS" "Z" (.int z)) (UA : Sta Z Z.heap "java/lang/StringUTF16" "$assertionsDisabled" "Z" (.int (1 : Int32))) (UH : Sta Z Z.heap "java/lang/StringUTF16" "HI_BYTE_SHIFT" "I" (.int (0 : Int32))) (UL : Sta Z Z.heap "java/lang/StringUTF16" "LO_BYTE_SHIFT" "I" (.int (8 : Int32))) :
    Ct Z ⟨"java/lang/String", "<init>", "([C)V"⟩ jdk_42_method_3_code 2 (Option.none : Option FieldType) ({ frames := 5, cells := 2, slots := 9, locals := 74 } : Room) #[(.ref x), (.ref src)] h0 [x] (fun v h => v = none ∧ ∃ t, Su Z h x t [.int (b8 c0), .int (b8 (own_hi c0)), .int (b8 c1), .int (b8 (own_hi c1)), .int (b8 c2), .int (b8 (own_hi c2))]) := by
  refine Ct.intro (Ls := #[.val (.ref x), .val (.ref src)]) (plainFor_of_name pn_4) (by intro m; first | (simp [entryFrame, mkF, argsToLocals, Value.category]; done) | rfl) ?_
  refine Rn.aloadN (pc' := 1) d1_0 rfl rfl rfl ?_
  refine Rn.aloadN (pc' := 2) d1_1 rfl rfl rfl ?_
  refine Rn.iconst (pc' := 3) (v := (0 : Int32)) d1_2 rfl rfl ?_
  refine Rn.aloadN (pc' := 4) d1_3 rfl rfl rfl ?_
  refine Rn.arraylength (pc' := 5) (n := (3 : Int32)) A rfl d1_4 rfl ?_
  refine Rn.aconst_null (pc' := 6) d1_5 rfl ?_
  refine Rn.callI (pc' := 9) (argsL := [.ref src, .int (0 : Int32), .int (3 : Int32), .null]) (a := x) (rest := []) (ct_siw3_2 Z a0 hw x src c0 c1 c2 hp0 hp1 hq hC0 hC1 hC2 h0 E V Co A hn z hz S UA UH UL) rfl (hw _ (List.mem_of_getElem? (i := 12) rfl)) (hw _ (List.mem_of_getElem? (i := 13) rfl)) (hw _ (List.mem_of_getElem? (i := 7) rfl)) (hw _ (List.mem_of_getElem? (i := 15) rfl)) (by decide) rfl rfl (lenOf pd_7 rfl) rfl d1_6 rfl (Nat.le_of_ble_eq_true rfl) (Nat.le_of_ble_eq_true rfl) (Nat.le_of_ble_eq_true rfl) (Nat.le_of_ble_eq_true rfl) (allS (Or.inl (List.mem_of_getElem? (i := 0) rfl)) all0) (allS Sf.no (all0)) (fun vq1 hq2 Kq3 qq4 => ?_)
  obtain ⟨rfl, t, G⟩ := qq4
  simp only [Option.toList, List.cons_append, List.nil_append]
  refine Rn.retV rfl d1_9 (Nat.le_of_ble_eq_true rfl) (Nat.le_of_ble_eq_true rfl) ?_
  exact ⟨rfl, t, G⟩
set_option maxRecDepth 65536 in
set_option maxHeartbeats 40000000 in
theorem ct_cmpb3 (Z : State) (a0 : Array Value) (hw : ∀ d ∈ tables_1, d.before a0 Z = true) (src t : Addr) (c0 c1 c2 : Int32) (hp0 : ¬ 255 < c0) (hp1 : ¬ 255 < c1) (hp2 : ¬ 255 < c2) (h0 : Heap) (A : Ax Z h0 src .char [.int c0, .int c1, .int c2]) (B : Ax Z h0 t .byte [.int (0 : Int32), .int (0 : Int32), .int (0 : Int32)]) (hn : src ≠ t) :
    Ct Z ⟨"java/lang/StringUTF16", "compress", "([CI[BII)I"⟩ jdk_52_method_21_code 7 (Option.some FieldType.int) ({ frames := 0, cells := 0, slots := 0, locals := 0 } : Room) #[(.ref src), (.int (0 : Int32)), (.ref t), (.int (0 : Int32)), (.int (3 : Int32))] h0 [t] (fun v h => v = some (.int (3 : Int32)) ∧ Ax Z h t .byte [.int (b8 c0), .int (b8 c1), .int (b8 c2)]) := by
  refine Ct.intro (Ls := #[.val (.ref src), .val (.int (0 : Int32)), .val (.ref t), .val (.int (0 : Int32)), .val (.int (3 : Int32)), .unset, .unset]) (plainFor_of_name pn_3) (by intro m; first | (simp [entryFrame, mkF, argsToLocals, Value.category]; done) | rfl) ?_
  refine Rn.iconst (pc' := 1) (v := (0 : Int32)) d15_0 rfl rfl ?_
  refine Rn.istore (pc' := 3) (Ls' := #[.val (.ref src), .val (.int (0 : Int32)), .val (.ref t), .val (.int (0 : Int32)), .val (.int (3 : Int32)), .val (.int (0 : Int32)), .unset]) d15_1 rfl rfl ?_
  refine Rn.iload (pc' := 5) d15_3 rfl rfl ?_
  refine Rn.iload (pc' := 7) d15_5 rfl rfl ?_
  refine Rn.icmp_ge (pc' := 44) (pn := 10) d15_7 (by decide) (by decide) rfl (fun cq1 => absurd cq1 (by decide)) (fun cq1 => ?_)
  refine Rn.aloadN (pc' := 11) d15_10 rfl rfl rfl ?_
  refine Rn.iloadN (pc' := 12) d15_11 rfl rfl ?_
  refine Rn.caload (pc' := 13) (v := .int c0) A (by decide) rfl d15_12 rfl ?_
  refine Rn.istore (pc' := 15) (Ls' := #[.val (.ref src), .val (.int (0 : Int32)), .val (.ref t), .val (.int (0 : Int32)), .val (.int (3 : Int32)), .val (.int (0 : Int32)), .val (.int c0)]) d15_13 rfl rfl ?_
  refine Rn.iload (pc' := 17) d15_15 rfl rfl ?_
  refine Rn.sipush (pc' := 20) (v := (255 : Int32)) d15_17 rfl rfl ?_
  refine Rn.icmp_le (pc' := 26) (pn := 23) d15_20 (by decide) (by decide) rfl (fun cq2 => ?_) (fun cq2 => absurd cq2 hp0)
  refine Rn.aloadN (pc' := 27) d15_26 rfl rfl rfl ?_
  refine Rn.iloadN (pc' := 28) d15_27 rfl rfl ?_
  refine Rn.iload (pc' := 30) d15_28 rfl rfl ?_
  refine Rn.i2b (pc' := 31) (v := (b8 c0)) d15_30 rfl rfl ?_
  refine Rn.bastore (pc' := 32) (v := .int (b8 c0)) B (by decide) (Nat.le_of_ble_eq_true rfl) (congrArg Value.int (nar_b8 c0)) (Or.inl (List.mem_of_getElem? (i := 0) rfl)) Sf.no d15_31 rfl (fun hq4 Wq3 Aq5 => ?_)
  have Aq6 : Ax Z hq4 t .byte ([.int (b8 c0), .int (0 : Int32), .int (0 : Int32)]) := Aq5
  refine Rn.iinc (pc' := 35) (v := (1 : Int32)) (Ls' := #[.val (.ref src), .val (.int (1 : Int32)), .val (.ref t), .val (.int (0 : Int32)), .val (.int (3 : Int32)), .val (.int (0 : Int32)), .val (.int c0)]) d15_32 rfl rfl rfl rfl ?_
  refine Rn.iinc (pc' := 38) (v := (1 : Int32)) (Ls' := #[.val (.ref src), .val (.int (1 : Int32)), .val (.ref t), .val (.int (1 : Int32)), .val (.int (3 : Int32)), .val (.int (0 : Int32)), .val (.int c0)]) d15_35 rfl rfl rfl rfl ?_
  refine Rn.iinc (pc' := 41) (v := (1 : Int32)) (Ls' := #[.val (.ref src), .val (.int (1 : Int32)), .val (.ref t), .val (.int (1 : Int32)), .val (.int (3 : Int32)), .val (.int (1 : Int32)), .val (.int c0)]) d15_38 rfl rfl rfl rfl ?_
  refine Rn.goto (pc' := 3) d15_41 (by decide) (by decide) ?_
  refine Rn.iload (pc' := 5) d15_3 rfl rfl ?_
  refine Rn.iload (pc' := 7) d15_5 rfl rfl ?_
  refine Rn.icmp_ge (pc' := 44) (pn := 10) d15_7 (by decide) (by decide) rfl (fun cq7 => absurd cq7 (by decide)) (fun cq7 => ?_)
  refine Rn.aloadN (pc' := 11) d15_10 rfl rfl rfl ?_
  refine Rn.iloadN (pc' := 12) d15_11 rfl rfl ?_
  have Fq8 := A.other Wq3 hn
  refine Rn.caload (pc' := 13) (v := .int c1) Fq8 (by decide) rfl d15_12 rfl ?_
  refine Rn.istore (pc' := 15) (Ls' := #[.val (.ref src), .val (.int (1 : Int32)), .val (.ref t), .val (.int (1 : Int32)), .val (.int (3 : Int32)), .val (.int (1 : Int32)), .val (.int c1)]) d15_13 rfl rfl ?_
  refine Rn.iload (pc' := 17) d15_15 rfl rfl ?_
  refine Rn.sipush (pc' := 20) (v := (255 : Int32)) d15_17 rfl rfl ?_
  refine Rn.icmp_le (pc' := 26) (pn := 23) d15_20 (by decide) (by decide) rfl (fun cq9 => ?_) (fun cq9 => absurd cq9 hp1)
  refine Rn.aloadN (pc' := 27) d15_26 rfl rfl rfl ?_
  refine Rn.iloadN (pc' := 28) d15_27 rfl rfl ?_
  refine Rn.iload (pc' := 30) d15_28 rfl rfl ?_
  refine Rn.i2b (pc' := 31) (v := (b8 c1)) d15_30 rfl rfl ?_
  refine Rn.bastore (pc' := 32) (v := .int (b8 c1)) Aq6 (by decide) (Nat.le_of_ble_eq_true rfl) (congrArg Value.int (nar_b8 c1)) (Or.inl (List.mem_of_getElem? (i := 0) rfl)) Sf.no d15_31 rfl (fun hq11 Wq10 Aq12 => ?_)
  have Aq13 : Ax Z hq11 t .byte ([.int (b8 c0), .int (b8 c1), .int (0 : Int32)]) := Aq12
  refine Rn.iinc (pc' := 35) (v := (2 : Int32)) (Ls' := #[.val (.ref src), .val (.int (2 : Int32)), .val (.ref t), .val (.int (1 : Int32)), .val (.int (3 : Int32)), .val (.int (1 : Int32)), .val (.int c1)]) d15_32 rfl rfl rfl rfl ?_
  refine Rn.iinc (pc' := 38) (v := (2 : Int32)) (Ls' := #[.val (.ref src), .val (.int (2 : Int32)), .val (.ref t), .val (.int (2 : Int32)), .val (.int (3 : Int32)), .val (.int (1 : Int32)), .val (.int c1)]) d15_35 rfl rfl rfl rfl ?_
  refine Rn.iinc (pc' := 41) (v := (2 : Int32)) (Ls' := #[.val (.ref src), .val (.int (2 : Int32)), .val (.ref t), .val (.int (2 : Int32)), .val (.int (3 : Int32)), .val (.int (2 : Int32)), .val (.int c1)]) d15_38 rfl rfl rfl rfl ?_
  refine Rn.goto (pc' := 3) d15_41 (by decide) (by decide) ?_
  refine Rn.iload (pc' := 5) d15_3 rfl rfl ?_
  refine Rn.iload (pc' := 7) d15_5 rfl rfl ?_
  refine Rn.icmp_ge (pc' := 44) (pn := 10) d15_7 (by decide) (by decide) rfl (fun cq14 => absurd cq14 (by decide)) (fun cq14 => ?_)
  refine Rn.aloadN (pc' := 11) d15_10 rfl rfl rfl ?_
  refine Rn.iloadN (pc' := 12) d15_11 rfl rfl ?_
  have Fq15 := Fq8.other Wq10 hn
  refine Rn.caload (pc' := 13) (v := .int c2) Fq15 (by decide) rfl d15_12 rfl ?_
  refine Rn.istore (pc' := 15) (Ls' := #[.val (.ref src), .val (.int (2 : Int32)), .val (.ref t), .val (.int (2 : Int32)), .val (.int (3 : Int32)), .val (.int (2 : Int32)), .val (.int c2)]) d15_13 rfl rfl ?_
  refine Rn.iload (pc' := 17) d15_15 rfl rfl ?_
  refine Rn.sipush (pc' := 20) (v := (255 : Int32)) d15_17 rfl rfl ?_
  refine Rn.icmp_le (pc' := 26) (pn := 23) d15_20 (by decide) (by decide) rfl (fun cq16 => ?_) (fun cq16 => absurd cq16 hp2)
  refine Rn.aloadN (pc' := 27) d15_26 rfl rfl rfl ?_
  refine Rn.iloadN (pc' := 28) d15_27 rfl rfl ?_
  refine Rn.iload (pc' := 30) d15_28 rfl rfl ?_
  refine Rn.i2b (pc' := 31) (v := (b8 c2)) d15_30 rfl rfl ?_
  refine Rn.bastore (pc' := 32) (v := .int (b8 c2)) Aq13 (by decide) (Nat.le_of_ble_eq_true rfl) (congrArg Value.int (nar_b8 c2)) (Or.inl (List.mem_of_getElem? (i := 0) rfl)) Sf.no d15_31 rfl (fun hq18 Wq17 Aq19 => ?_)
  have Aq20 : Ax Z hq18 t .byte ([.int (b8 c0), .int (b8 c1), .int (b8 c2)]) := Aq19
  refine Rn.iinc (pc' := 35) (v := (3 : Int32)) (Ls' := #[.val (.ref src), .val (.int (3 : Int32)), .val (.ref t), .val (.int (2 : Int32)), .val (.int (3 : Int32)), .val (.int (2 : Int32)), .val (.int c2)]) d15_32 rfl rfl rfl rfl ?_
  refine Rn.iinc (pc' := 38) (v := (3 : Int32)) (Ls' := #[.val (.ref src), .val (.int (3 : Int32)), .val (.ref t), .val (.int (3 : Int32)), .val (.int (3 : Int32)), .val (.int (2 : Int32)), .val (.int c2)]) d15_35 rfl rfl rfl rfl ?_
  refine Rn.iinc (pc' := 41) (v := (3 : Int32)) (Ls' := #[.val (.ref src), .val (.int (3 : Int32)), .val (.ref t), .val (.int (3 : Int32)), .val (.int (3 : Int32)), .val (.int (3 : Int32)), .val (.int c2)]) d15_38 rfl rfl rfl rfl ?_
  refine Rn.goto (pc' := 3) d15_41 (by decide) (by decide) ?_
  refine Rn.iload (pc' := 5) d15_3 rfl rfl ?_
  refine Rn.iload (pc' := 7) d15_5 rfl rfl ?_
  refine Rn.icmp_ge (pc' := 44) (pn := 10) d15_7 (by decide) (by decide) rfl (fun cq21 => ?_) (fun cq21 => absurd cq21 (by decide))
  refine Rn.iload (pc' := 46) d15_44 rfl rfl ?_
  refine Rn.retI rfl d15_46 (Nat.le_of_ble_eq_true rfl) (Nat.le_of_ble_eq_true rfl) ?_
  exact ⟨rfl, Aq20⟩
set_option maxRecDepth 65536 in
set_option maxHeartbeats 40000000 in
theorem ct_cmpa3 (Z : State) (a0 : Array Value) (hw : ∀ d ∈ tables_1, d.before a0 Z = true) (src : Addr) (c0 c1 c2 : Int32) (hp0 : ¬ 255 < c0) (hp1 : ¬ 255 < c1) (hp2 : ¬ 255 < c2) (h0 : Heap) (A : Ax Z h0 src .char [.int c0, .int c1, .int c2]) :
    Ct Z ⟨"java/lang/StringUTF16", "compress", "([CII)[B"⟩ jdk_52_method_16_code 6 (Option.some (FieldType.array FieldType.byte)) ({ frames := 1, cells := 1, slots := 3, locals := 18 } : Room) #[(.ref src), (.int (0 : Int32)), (.int (3 : Int32))] h0 [] (fun v h => ∃ t, v = some (.ref t) ∧ h0.size ≤ t ∧ Ax Z h t .byte [.int (b8 c0), .int (b8 c1), .int (b8 c2)]) := by
  refine Ct.intro (Ls := #[.val (.ref src), .val (.int (0 : Int32)), .val (.int (3 : Int32)), .unset, .unset, .unset]) (plainFor_of_name pn_3) (by intro m; first | (simp [entryFrame, mkF, argsToLocals, Value.category]; done) | rfl) ?_
  refine Rn.iloadN (pc' := 1) d14_0 rfl rfl ?_
  refine Rn.newP (pc' := 3) (cap := 3) (ty := .byte) (ad := "[B") (hw _ (List.mem_of_getElem? (i := 20) rfl)) rfl rfl d14_1 (by decide) (Nat.le_of_ble_eq_true rfl) (by decide) (Nat.le_of_ble_eq_true rfl) (Nat.le_of_ble_eq_true rfl) rfl (fun hq2 aq1 eq3 gq4 Eq5 ⟨Aq6, Bq7⟩ => ?_)
  have nq8 : src ≠ aq1 := by rw [eq3]; exact Nat.ne_of_lt (A.lt)
  have Aq9 : Ax Z hq2 aq1 .byte ([.int (0 : Int32), .int (0 : Int32), .int (0 : Int32)]) := Aq6
  refine Rn.astoreN (pc' := 4) (Ls' := #[.val (.ref src), .val (.int (0 : Int32)), .val (.int (3 : Int32)), .val (.ref aq1), .unset, .unset]) d14_3 rfl rfl rfl ?_
  refine Rn.aloadN (pc' := 5) d14_4 rfl rfl rfl ?_
  refine Rn.iloadN (pc' := 6) d14_5 rfl rfl ?_
  refine Rn.aloadN (pc' := 7) d14_6 rfl rfl rfl ?_
  refine Rn.iconst (pc' := 8) (v := (0 : Int32)) d14_7 rfl rfl ?_
  refine Rn.iloadN (pc' := 9) d14_8 rfl rfl ?_
  have Fq10 := A.ext Eq5
  refine Rn.callS (pc' := 12) (argsL := [.ref src, .int (0 : Int32), .ref aq1, .int (0 : Int32), .int (3 : Int32)]) (rest := []) (ct_cmpb3 Z a0 hw src aq1 c0 c1 c2 hp0 hp1 hp2 hq2 Fq10 Aq9 nq8) (hw _ (List.mem_of_getElem? (i := 75) rfl)) (hw _ (List.mem_of_getElem? (i := 76) rfl)) (hw _ (List.mem_of_getElem? (i := 73) rfl)) (hw _ (List.mem_of_getElem? (i := 77) rfl)) (by decide) rfl rfl (lenOf pd_3 rfl) rfl d14_9 rfl (Nat.le_of_ble_eq_true rfl) (Nat.le_of_ble_eq_true rfl) (Nat.le_of_ble_eq_true rfl) (Nat.le_of_ble_eq_true rfl) (allS (Or.inr gq4) all0) (allS Sf.no (all0)) (fun vq11 hq12 Kq13 qq14 => ?_)
  obtain ⟨rfl, At⟩ := qq14
  simp only [Option.toList, List.cons_append, List.nil_append]
  refine Rn.istore (pc' := 14) (Ls' := #[.val (.ref src), .val (.int (0 : Int32)), .val (.int (3 : Int32)), .val (.ref aq1), .val (.int (3 : Int32)), .unset]) d14_12 rfl rfl ?_
  refine Rn.iload (pc' := 16) d14_14 rfl rfl ?_
  refine Rn.iloadN (pc' := 17) d14_16 rfl rfl ?_
  refine Rn.icmp_eq (pc' := 57) (pn := 20) d14_17 (by decide) (by decide) rfl (fun cq15 => ?_) (fun cq15 => absurd cq15 (by decide))
  refine Rn.aloadN (pc' := 58) d14_57 rfl rfl rfl ?_
  refine Rn.retA (t := (.array .byte)) rfl rfl rfl d14_58 (Nat.le_of_ble_eq_true rfl) (Nat.le_of_ble_eq_true rfl) ?_
  exact ⟨_, rfl, gq4, At⟩
set_option maxRecDepth 65536 in
set_option maxHeartbeats 40000000 in
theorem ct_cod3 (Z : State) (a0 : Array Value) (hw : ∀ d ∈ tables_1, d.before a0 Z = true) (t : Addr) (c0 c1 c2 : Int32) (h0 : Heap) (A : Ax Z h0 t .byte [.int (b8 c0), .int (b8 c1), .int (b8 c2)]) :
    Ct Z ⟨"java/lang/StringUTF16", "coderFromArrayLen", "([BI)B"⟩ jdk_52_method_15_code 2 (Option.some FieldType.byte) ({ frames := 0, cells := 0, slots := 0, locals := 0 } : Room) #[(.ref t), (.int (3 : Int32))] h0 [] (fun v h => v = some (.int (0 : Int32)) ∧ h0 = h) := by
  refine Ct.intro (Ls := #[.val (.ref t), .val (.int (3 : Int32))]) (plainFor_of_name pn_3) (by intro m; first | (simp [entryFrame, mkF, argsToLocals, Value.category]; done) | rfl) ?_
  refine Rn.iloadN (pc' := 1) d16_0 rfl rfl ?_
  refine Rn.aloadN (pc' := 2) d16_1 rfl rfl rfl ?_
  refine Rn.arraylength (pc' := 3) (n := (3 : Int32)) A rfl d16_2 rfl ?_
  refine Rn.isub (pc' := 4) (v := (0 : Int32)) d16_3 rfl rfl ?_
  refine Rn.bipush (pc' := 6) (v := (31 : Int32)) d16_4 rfl rfl ?_
  refine Rn.iushr (pc' := 7) (v := (0 : Int32)) d16_6 rfl rfl ?_
  refine Rn.i2b (pc' := 8) (v := (0 : Int32)) d16_7 rfl rfl ?_
  refine Rn.retN (t := .byte) rfl (by simp) d16_8 (Nat.le_of_ble_eq_true rfl) (Nat.le_of_ble_eq_true rfl) ?_
  exact ⟨rfl, rfl⟩
set_option maxRecDepth 65536 in
set_option maxHeartbeats 40000000 in
theorem ct_siv3 (Z : State) (a0 : Array Value) (hw : ∀ d ∈ tables_1, d.before a0 Z = true) (x src : Addr) (c0 c1 c2 : Int32) (hp0 : ¬ 255 < c0) (hp1 : ¬ 255 < c1) (hp2 : ¬ 255 < c2) (z : Int32) (hz : z ≠ 0) (h0 : Heap) (E : Exa Z h0 x "java/lang/String") (V : Fld Z h0 x "java/lang/String" "value" "[B" .null) (Co : Fld Z h0 x "java/lang/String" "coder" "B" (.int (0 : Int32))) (A : Ax Z h0 src .char [.int c0, .int c1, .int c2]) (hn : src ≠ x) (S : Sta Z Z.heap "java/lang/String" "COMPACT_STRINGS" "Z" (.int z)) :
    Ct Z ⟨"java/lang/String", "<init>", "([CIILjava/lang/Void;)V"⟩ jdk_42_method_149_code 6 (Option.none : Option FieldType) ({ frames := 2, cells := 1, slots := 3, locals := 36 } : Room) #[(.ref x), (.ref src), (.int (0 : Int32)), (.int (3 : Int32)), (.null)] h0 [x] (fun v h => v = none ∧ ∃ t, h0.size ≤ t ∧ Sg Z h x t [.int (b8 c0), .int (b8 c1), .int (b8 c2)]) := by
  refine Ct.intro (Ls := #[.val (.ref x), .val (.ref src), .val (.int (0 : Int32)), .val (.int (3 : Int32)), .val (.null), .unset]) (plainFor_of_name pn_4) (by intro m; first | (simp [entryFrame, mkF, argsToLocals, Value.category]; done) | rfl) ?_
  refine Rn.aloadN (pc' := 1) d2_0 rfl rfl rfl ?_
  refine Rn.initO (pc' := 4) (hw _ (List.mem_of_getElem? (i := 16) rfl)) (hw _ (List.mem_of_getElem? (i := 17) rfl)) (hw _ (List.mem_of_getElem? (i := 18) rfl)) rfl d2_1 (Nat.le_of_ble_eq_true rfl) (Nat.le_of_ble_eq_true rfl) rfl ?_
  refine Rn.iloadN (pc' := 5) d2_4 rfl rfl ?_
  refine Rn.if_ne (pc' := 27) (pn := 8) d2_5 (by decide) (by decide) rfl (fun cq1 => ?_) (fun cq1 => absurd cq1 (by decide))
  refine Rn.old fun Oq2 _ => ?_
  refine Rn.getS (pc' := 30) (hw _ (List.mem_of_getElem? (i := 46) rfl)) Via.refl (S.ext Oq2) d2_27 rfl ?_
  refine Rn.if_eq (pc' := 58) (pn := 33) d2_30 (by decide) (by decide) rfl (fun cq3 => absurd cq3 hz) (fun cq3 => ?_)
  refine Rn.aloadN (pc' := 34) d2_33 rfl rfl rfl ?_
  refine Rn.iloadN (pc' := 35) d2_34 rfl rfl ?_
  refine Rn.iloadN (pc' := 36) d2_35 rfl rfl ?_
  refine Rn.callS (pc' := 39) (argsL := [.ref src, .int (0 : Int32), .int (3 : Int32)]) (rest := []) (ct_cmpa3 Z a0 hw src c0 c1 c2 hp0 hp1 hp2 h0 A) (hw _ (List.mem_of_getElem? (i := 71) rfl)) (hw _ (List.mem_of_getElem? (i := 72) rfl)) (hw _ (List.mem_of_getElem? (i := 73) rfl)) (hw _ (List.mem_of_getElem? (i := 74) rfl)) (by decide) rfl rfl (lenOf pd_4 rfl) rfl d2_36 rfl (Nat.le_of_ble_eq_true rfl) (Nat.le_of_ble_eq_true rfl) (Nat.le_of_ble_eq_true rfl) (Nat.le_of_ble_eq_true rfl) (fun _ z => nomatch z) (fun _ z => nomatch z) (fun vq4 hq5 Kq6 qq7 => ?_)
  obtain ⟨t, rfl, ht, At⟩ := qq7
  simp only [Option.toList, List.cons_append, List.nil_append]
  have Fq8 := E.keep Kq6
  have nt_x : x ≠ t := Nat.ne_of_lt (Nat.lt_of_lt_of_le E.lt ht)
  have Fq9 := A.keep Kq6 nin0
  have nt_src : src ≠ t := Nat.ne_of_lt (Nat.lt_of_lt_of_le A.lt ht)
  refine Rn.astore (pc' := 41) (Ls' := #[.val (.ref x), .val (.ref src), .val (.int (0 : Int32)), .val (.int (3 : Int32)), .val (.null), .val (.ref t)]) d2_39 rfl rfl rfl ?_
  refine Rn.aloadN (pc' := 42) d2_41 rfl rfl rfl ?_
  refine Rn.aload (pc' := 44) d2_42 rfl rfl rfl ?_
  refine Rn.iloadN (pc' := 45) d2_44 rfl rfl ?_
  refine Rn.callS (pc' := 48) (argsL := [.ref t, .int (3 : Int32)]) (rest := [.ref x]) (ct_cod3 Z a0 hw t c0 c1 c2 hq5 At) (hw _ (List.mem_of_getElem? (i := 78) rfl)) (hw _ (List.mem_of_getElem? (i := 79) rfl)) (hw _ (List.mem_of_getElem? (i := 73) rfl)) (hw _ (List.mem_of_getElem? (i := 80) rfl)) (by decide) rfl rfl (lenOf pd_6 rfl) rfl d2_45 rfl (Nat.le_of_ble_eq_true rfl) (Nat.le_of_ble_eq_true rfl) (Nat.le_of_ble_eq_true rfl) (Nat.le_of_ble_eq_true rfl) (fun _ z => nomatch z) (fun _ z => nomatch z) (fun vq10 hq11 Kq12 qq13 => ?_)
  obtain ⟨rfl, rfl⟩ := qq13
  simp only [Option.toList, List.cons_append, List.nil_append]
  have Fq14 := Co.keep Kq6 nin0
  refine Rn.putF (pc' := 51) (hw _ (List.mem_of_getElem? (i := 26) rfl)) Via.refl Fq14 Fq8 (Or.inr ⟨(hw _ (List.mem_of_getElem? (i := 22) rfl)), rfl, rfl⟩) (hw _ (List.mem_of_getElem? (i := 6) rfl)) (ty := .byte) (by decide) rfl rfl (Or.inl (List.mem_of_getElem? (i := 0) rfl)) Sf.no d2_48 rfl (fun hq16 Wq15 => ?_)
  have Fq17 := Fq14.same Wq15
  refine Rn.aloadN (pc' := 52) d2_51 rfl rfl rfl ?_
  refine Rn.aload (pc' := 54) d2_52 rfl rfl rfl ?_
  have Fq18 := V.keep Kq6 nin0
  have Fq19 := Fq18.other Wq15 (Or.inr (slot_ne (t := (.array .byte)) (t' := .byte) (Or.inr (hw _ (List.mem_of_getElem? (i := 21) rfl))) (Or.inr (hw _ (List.mem_of_getElem? (i := 22) rfl))) (by decide) (by decide) (by decide)))
  have Fq20 := Fq8.wr Wq15
  refine Rn.putF (pc' := 57) (hw _ (List.mem_of_getElem? (i := 25) rfl)) Via.refl Fq19 Fq20 (Or.inr ⟨(hw _ (List.mem_of_getElem? (i := 21) rfl)), rfl, rfl⟩) (hw _ (List.mem_of_getElem? (i := 6) rfl)) (ty := (.array .byte)) (by decide) rfl rfl (Or.inl (List.mem_of_getElem? (i := 0) rfl)) Sf.no d2_54 rfl (fun hq22 Wq21 => ?_)
  have Fq23 := Fq19.same Wq21
  refine Rn.retV rfl d2_57 (Nat.le_of_ble_eq_true rfl) (Nat.le_of_ble_eq_true rfl) ?_
  have Fq24 := Fq20.wr Wq21
  have Fq25 := Fq17.other Wq21 (Or.inr (slot_ne (t := .byte) (t' := (.array .byte)) (Or.inr (hw _ (List.mem_of_getElem? (i := 22) rfl))) (Or.inr (hw _ (List.mem_of_getElem? (i := 21) rfl))) (by decide) (by decide) (by decide)))
  have Fq26 := At.other Wq15 (Ne.symm nt_x)
  have Fq27 := Fq26.other Wq21 (Ne.symm nt_x)
  exact ⟨rfl, t, ht, Fq24, Fq25, Fq23, Fq27⟩
set_option maxRecDepth 65536 in
set_option maxHeartbeats 40000000 in
theorem ct_sl3 (Z : State) (a0 : Array Value) (hw : ∀ d ∈ tables_1, d.before a0 Z = true) (x src : Addr) (c0 c1 c2 : Int32) (hp0 : ¬ 255 < c0) (hp1 : ¬ 255 < c1) (hp2 : ¬ 255 < c2) (h0 : Heap) (E : Exa Z h0 x "java/lang/String") (V : Fld Z h0 x "java/lang/String" "value" "[B" .null) (Co : Fld Z h0 x "java/lang/String" "coder" "B" (.int (0 : Int32))) (A : Ax Z h0 src .char [.int c0, .int c1, .int c2]) (hn : src ≠ x) (z : Int32) (hz : z ≠ 0) (S : Sta Z Z.heap "java/lang/String" "COMPACT_STRINGS" "Z" (.int z)) :
    Ct Z ⟨"java/lang/String", "<init>", "([C)V"⟩ jdk_42_method_3_code 2 (Option.none : Option FieldType) ({ frames := 5, cells := 2, slots := 9, locals := 74 } : Room) #[(.ref x), (.ref src)] h0 [x] (fun v h => v = none ∧ ∃ t, Sg Z h x t [.int (b8 c0), .int (b8 c1), .int (b8 c2)]) := by
  refine Ct.intro (Ls := #[.val (.ref x), .val (.ref src)]) (plainFor_of_name pn_4) (by intro m; first | (simp [entryFrame, mkF, argsToLocals, Value.category]; done) | rfl) ?_
  refine Rn.aloadN (pc' := 1) d1_0 rfl rfl rfl ?_
  refine Rn.aloadN (pc' := 2) d1_1 rfl rfl rfl ?_
  refine Rn.iconst (pc' := 3) (v := (0 : Int32)) d1_2 rfl rfl ?_
  refine Rn.aloadN (pc' := 4) d1_3 rfl rfl rfl ?_
  refine Rn.arraylength (pc' := 5) (n := (3 : Int32)) A rfl d1_4 rfl ?_
  refine Rn.aconst_null (pc' := 6) d1_5 rfl ?_
  refine Rn.callI (pc' := 9) (argsL := [.ref src, .int (0 : Int32), .int (3 : Int32), .null]) (a := x) (rest := []) (ct_siv3 Z a0 hw x src c0 c1 c2 hp0 hp1 hp2 z hz h0 E V Co A hn S) rfl (hw _ (List.mem_of_getElem? (i := 12) rfl)) (hw _ (List.mem_of_getElem? (i := 13) rfl)) (hw _ (List.mem_of_getElem? (i := 7) rfl)) (hw _ (List.mem_of_getElem? (i := 15) rfl)) (by decide) rfl rfl (lenOf pd_7 rfl) rfl d1_6 rfl (Nat.le_of_ble_eq_true rfl) (Nat.le_of_ble_eq_true rfl) (Nat.le_of_ble_eq_true rfl) (Nat.le_of_ble_eq_true rfl) (allS (Or.inl (List.mem_of_getElem? (i := 0) rfl)) all0) (allS Sf.no (all0)) (fun vq1 hq2 Kq3 qq4 => ?_)
  obtain ⟨rfl, t, ht, G⟩ := qq4
  simp only [Option.toList, List.cons_append, List.nil_append]
  refine Rn.retV rfl d1_9 (Nat.le_of_ble_eq_true rfl) (Nat.le_of_ble_eq_true rfl) ?_
  exact ⟨rfl, t, G⟩
def own_S3 (Z : State) (h : Heap) (x : Addr) (c0 c1 c2 : Int32) : Prop := ∃ t, ((¬ 255 < c0 ∧ ¬ 255 < c1 ∧ ¬ 255 < c2) ∧ Sg Z h x t [.int (b8 c0), .int (b8 c1), .int (b8 c2)]) ∨ Su Z h x t [.int (b8 c0), .int (b8 (own_hi c0)), .int (b8 c1), .int (b8 (own_hi c1)), .int (b8 c2), .int (b8 (own_hi c2))]
theorem ct_s3 (Z : State) (a0 : Array Value) (hw : ∀ d ∈ tables_1, d.before a0 Z = true) (x src : Addr) (c0 c1 c2 : Int32) (hC0 : own_C c0) (hC1 : own_C c1) (hC2 : own_C c2) (h0 : Heap) (E : Exa Z h0 x "java/lang/String") (V : Fld Z h0 x "java/lang/String" "value" "[B" .null) (Co : Fld Z h0 x "java/lang/String" "coder" "B" (.int (0 : Int32))) (A : Ax Z h0 src .char [.int c0, .int c1, .int c2]) (hn : src ≠ x) (z : Int32) (hz : z ≠ 0) (S : Sta Z Z.heap "java/lang/String" "COMPACT_STRINGS" "Z" (.int z)) (UA : Sta Z Z.heap "java/lang/StringUTF16" "$assertionsDisabled" "Z" (.int (1 : Int32))) (UH : Sta Z Z.heap "java/lang/StringUTF16" "HI_BYTE_SHIFT" "I" (.int (0 : Int32))) (UL : Sta Z Z.heap "java/lang/StringUTF16" "LO_BYTE_SHIFT" "I" (.int (8 : Int32))) :
    Ct Z ⟨"java/lang/String", "<init>", "([C)V"⟩ jdk_42_method_3_code 2 (Option.none : Option FieldType) ({ frames := 5, cells := 2, slots := 9, locals := 74 } : Room) #[(.ref x), (.ref src)] h0 [x] (fun v h => v = none ∧ own_S3 Z h x c0 c1 c2) := by
  by_cases hp0 : 255 < c0
  · exact (ct_sx3_0 Z a0 hw x src c0 c1 c2 hp0 hC0 hC1 hC2 h0 E V Co A hn z hz S UA UH UL).weaken (fun v h _ q => ⟨q.1, q.2.elim fun t g => ⟨t, Or.inr g⟩⟩)
  by_cases hp1 : 255 < c1
  · exact (ct_sx3_1 Z a0 hw x src c0 c1 c2 hp0 hp1 hC0 hC1 hC2 h0 E V Co A hn z hz S UA UH UL).weaken (fun v h _ q => ⟨q.1, q.2.elim fun t g => ⟨t, Or.inr g⟩⟩)
  by_cases hp2 : 255 < c2
  · exact (ct_sx3_2 Z a0 hw x src c0 c1 c2 hp0 hp1 hp2 hC0 hC1 hC2 h0 E V Co A hn z hz S UA UH UL).weaken (fun v h _ q => ⟨q.1, q.2.elim fun t g => ⟨t, Or.inr g⟩⟩)
  exact (ct_sl3 Z a0 hw x src c0 c1 c2 hp0 hp1 hp2 h0 E V Co A hn z hz S).weaken (fun v h _ q => ⟨q.1, q.2.elim fun t g => ⟨t, Or.inl ⟨⟨hp0, hp1, hp2⟩, g⟩⟩⟩)
theorem own_C_B {c : Int32} (h : own_C c) (q : ¬ 255 < c) : own_B c := ⟨⟨q, h.1.1⟩, h.2⟩
theorem own_b8c {c ch : Int32} (hc : own_B c) (hh : own_B ch) (hb : b8 ch = ch) (q : b8 c = ch) : c = ch := own_b8 hc hh (q.trans hb.symm)
theorem d11_0 : decode jdk_43_method_4_code 0 = .ok (.iload_n 0, 1) := by decide +kernel
theorem d11_1 : decode jdk_43_method_4_code 1 = .ok (.ifCond .lt 14, 3) := by decide +kernel
theorem d11_4 : decode jdk_43_method_4_code 4 = .ok (.iload_n 0, 1) := by decide +kernel
theorem d11_5 : decode jdk_43_method_4_code 5 = .ok (.sipush 255, 3) := by decide +kernel
theorem d11_8 : decode jdk_43_method_4_code 8 = .ok (.if_icmp .gt 7, 3) := by decide +kernel
theorem d11_11 : decode jdk_43_method_4_code 11 = .ok (.iconst 1, 1) := by decide +kernel
theorem d11_12 : decode jdk_43_method_4_code 12 = .ok (.goto 4, 3) := by decide +kernel
theorem d11_15 : decode jdk_43_method_4_code 15 = .ok (.iconst 0, 1) := by decide +kernel
theorem d11_16 : decode jdk_43_method_4_code 16 = .ok (.ireturn, 1) := by decide +kernel
set_option maxRecDepth 65536 in
set_option maxHeartbeats 40000000 in
theorem ct_ce (Z : State) (a0 : Array Value) (hw : ∀ d ∈ tables_1, d.before a0 Z = true) (ch : Int32) (hB : own_B ch) (h0 : Heap) :
    Ct Z ⟨"java/lang/StringLatin1", "canEncode", "(I)Z"⟩ jdk_43_method_4_code 1 (Option.some FieldType.boolean) ({ frames := 0, cells := 0, slots := 0, locals := 0 } : Room) #[(.int ch)] h0 [] (fun v h => v = some (.int (1 : Int32)) ∧ h0 = h) := by
  refine Ct.intro (Ls := #[.val (.int ch)]) (plainFor_of_name pn_5) (by intro m; first | (simp [entryFrame, mkF, argsToLocals, Value.category]; done) | rfl) ?_
  refine Rn.iloadN (pc' := 1) d11_0 rfl rfl ?_
  refine Rn.if_lt (pc' := 15) (pn := 4) d11_1 (by decide) (by decide) rfl (fun cq1 => absurd cq1 hB.1.2) (fun cq1 => ?_)
  refine Rn.iloadN (pc' := 5) d11_4 rfl rfl ?_
  refine Rn.sipush (pc' := 8) (v := (255 : Int32)) d11_5 rfl rfl ?_
  refine Rn.icmp_gt (pc' := 15) (pn := 11) d11_8 (by decide) (by decide) rfl (fun cq2 => absurd cq2 hB.1.1) (fun cq2 => ?_)
  refine Rn.iconst (pc' := 12) (v := (1 : Int32)) d11_11 rfl rfl ?_
  refine Rn.goto (pc' := 16) d11_12 (by decide) (by decide) ?_
  refine Rn.retN (t := .boolean) rfl (by simp) d11_16 (Nat.le_of_ble_eq_true rfl) (Nat.le_of_ble_eq_true rfl) ?_
  exact ⟨rfl, rfl⟩
theorem own_k9 : own_B 9 := ⟨⟨by decide, by decide⟩, rfl⟩
theorem own_k10 : own_B 10 := ⟨⟨by decide, by decide⟩, rfl⟩
theorem own_k13 : own_B 13 := ⟨⟨by decide, by decide⟩, rfl⟩
theorem own_lt16 {c : Int32} (h : own_B c) : c < (65536 : Int32) := by
  have q := h.1.1
  rw [Int32.lt_iff_toInt_lt] at q ⊢
  have e1 : (255 : Int32).toInt = 255 := rfl
  have e2 : (65536 : Int32).toInt = 65536 := rfl
  omega
theorem own_nge {r : Int32} (h : r < 0) : r < 0 := h
theorem own_ngt {r : Int32} (h : ¬ r < 0) : ¬ r < 0 := h
theorem d10_0 : decode jdk_43_method_22_code 0 = .ok (.iload_n 1, 1) := by decide +kernel
theorem d10_1 : decode jdk_43_method_22_code 1 = .ok (.invokestatic 88, 3) := by decide +kernel
theorem d10_4 : decode jdk_43_method_22_code 4 = .ok (.ifCond .ne 5, 3) := by decide +kernel
theorem d10_7 : decode jdk_43_method_22_code 7 = .ok (.iconst (-1), 1) := by decide +kernel
theorem d10_8 : decode jdk_43_method_22_code 8 = .ok (.ireturn, 1) := by decide +kernel
theorem d10_9 : decode jdk_43_method_22_code 9 = .ok (.iload_n 2, 1) := by decide +kernel
theorem d10_10 : decode jdk_43_method_22_code 10 = .ok (.iconst 0, 1) := by decide +kernel
theorem d10_11 : decode jdk_43_method_22_code 11 = .ok (.invokestatic 92, 3) := by decide +kernel
theorem d10_14 : decode jdk_43_method_22_code 14 = .ok (.istore_n 2, 1) := by decide +kernel
theorem d10_15 : decode jdk_43_method_22_code 15 = .ok (.iload_n 3, 1) := by decide +kernel
theorem d10_16 : decode jdk_43_method_22_code 16 = .ok (.aload_n 0, 1) := by decide +kernel
theorem d10_17 : decode jdk_43_method_22_code 17 = .ok (.arraylength, 1) := by decide +kernel
theorem d10_18 : decode jdk_43_method_22_code 18 = .ok (.invokestatic 38, 3) := by decide +kernel
theorem d10_21 : decode jdk_43_method_22_code 21 = .ok (.istore_n 3, 1) := by decide +kernel
theorem d10_22 : decode jdk_43_method_22_code 22 = .ok (.iload_n 2, 1) := by decide +kernel
theorem d10_23 : decode jdk_43_method_22_code 23 = .ok (.iload_n 3, 1) := by decide +kernel
theorem d10_24 : decode jdk_43_method_22_code 24 = .ok (.if_icmp .lt 5, 3) := by decide +kernel
theorem d10_27 : decode jdk_43_method_22_code 27 = .ok (.iconst (-1), 1) := by decide +kernel
theorem d10_28 : decode jdk_43_method_22_code 28 = .ok (.ireturn, 1) := by decide +kernel
theorem d10_29 : decode jdk_43_method_22_code 29 = .ok (.aload_n 0, 1) := by decide +kernel
theorem d10_30 : decode jdk_43_method_22_code 30 = .ok (.iload_n 1, 1) := by decide +kernel
theorem d10_31 : decode jdk_43_method_22_code 31 = .ok (.iload_n 2, 1) := by decide +kernel
theorem d10_32 : decode jdk_43_method_22_code 32 = .ok (.iload_n 3, 1) := by decide +kernel
theorem d10_33 : decode jdk_43_method_22_code 33 = .ok (.invokestatic 95, 3) := by decide +kernel
theorem d10_36 : decode jdk_43_method_22_code 36 = .ok (.ireturn, 1) := by decide +kernel
set_option maxRecDepth 65536 in
set_option maxHeartbeats 40000000 in
theorem ct_ixl0 (Z : State) (a0 : Array Value) (hw : ∀ d ∈ tables_1, d.before a0 Z = true) (t : Addr)   (h0 : Heap) (A : Ax Z h0 t .byte []) (ch : Int32) (hb : b8 ch = ch) (hB : own_B ch) :
    Ct Z ⟨"java/lang/StringLatin1", "indexOf", "([BIII)I"⟩ jdk_43_method_22_code 4 (Option.some FieldType.int) ({ frames := 1, cells := 0, slots := 0, locals := 13 } : Room) #[(.ref t), (.int ch), (.int (0 : Int32)), (.int (0 : Int32))] h0 [] (fun v h => (∃ r, v = some (.int r) ∧ (r < 0 ↔ ¬ (False))) ∧ h0 = h) := by
  refine Ct.intro (Ls := #[.val (.ref t), .val (.int ch), .val (.int (0 : Int32)), .val (.int (0 : Int32))]) (plainFor_of_name pn_5) (by intro m; first | (simp [entryFrame, mkF, argsToLocals, Value.category]; done) | rfl) ?_
  refine Rn.iloadN (pc' := 1) d10_0 rfl rfl ?_
  refine Rn.callS (pc' := 4) (argsL := [.int ch]) (rest := []) (ct_ce Z a0 hw ch hB h0) (hw _ (List.mem_of_getElem? (i := 61) rfl)) (hw _ (List.mem_of_getElem? (i := 62) rfl)) (hw _ (List.mem_of_getElem? (i := 59) rfl)) (hw _ (List.mem_of_getElem? (i := 63) rfl)) (by decide) rfl rfl (lenOf pd_8 rfl) rfl d10_1 rfl (Nat.le_of_ble_eq_true rfl) (Nat.le_of_ble_eq_true rfl) (Nat.le_of_ble_eq_true rfl) (Nat.le_of_ble_eq_true rfl) (fun _ z => nomatch z) (fun _ z => nomatch z) (fun vq1 hq2 Kq3 qq4 => ?_)
  obtain ⟨rfl, rfl⟩ := qq4
  simp only [Option.toList, List.cons_append, List.nil_append]
  refine Rn.if_ne (pc' := 9) (pn := 7) d10_4 (by decide) (by decide) rfl (fun cq5 => ?_) (fun cq5 => absurd cq5 (by decide))
  refine Rn.iloadN (pc' := 10) d10_9 rfl rfl ?_
  refine Rn.iconst (pc' := 11) (v := (0 : Int32)) d10_10 rfl rfl ?_
  refine Rn.callS (pc' := 14) (argsL := [.int (0 : Int32), .int (0 : Int32)]) (rest := []) (ct_mx00 Z a0 hw h0) (hw _ (List.mem_of_getElem? (i := 64) rfl)) (hw _ (List.mem_of_getElem? (i := 65) rfl)) (hw _ (List.mem_of_getElem? (i := 66) rfl)) (hw _ (List.mem_of_getElem? (i := 67) rfl)) (by decide) rfl rfl (lenOf pd_9 rfl) rfl d10_11 rfl (Nat.le_of_ble_eq_true rfl) (Nat.le_of_ble_eq_true rfl) (Nat.le_of_ble_eq_true rfl) (Nat.le_of_ble_eq_true rfl) (fun _ z => nomatch z) (fun _ z => nomatch z) (fun vq6 hq7 Kq8 qq9 => ?_)
  obtain ⟨rfl, rfl⟩ := qq9
  simp only [Option.toList, List.cons_append, List.nil_append]
  refine Rn.istoreN (pc' := 15) (Ls' := #[.val (.ref t), .val (.int ch), .val (.int (0 : Int32)), .val (.int (0 : Int32))]) d10_14 rfl rfl ?_
  refine Rn.iloadN (pc' := 16) d10_15 rfl rfl ?_
  refine Rn.aloadN (pc' := 17) d10_16 rfl rfl rfl ?_
  refine Rn.arraylength (pc' := 18) (n := (0 : Int32)) A rfl d10_17 rfl ?_
  refine Rn.callS (pc' := 21) (argsL := [.int (0 : Int32), .int (0 : Int32)]) (rest := []) (ct_mn0 Z a0 hw h0) (hw _ (List.mem_of_getElem? (i := 68) rfl)) (hw _ (List.mem_of_getElem? (i := 69) rfl)) (hw _ (List.mem_of_getElem? (i := 66) rfl)) (hw _ (List.mem_of_getElem? (i := 70) rfl)) (by decide) rfl rfl (lenOf pd_9 rfl) rfl d10_18 rfl (Nat.le_of_ble_eq_true rfl) (Nat.le_of_ble_eq_true rfl) (Nat.le_of_ble_eq_true rfl) (Nat.le_of_ble_eq_true rfl) (fun _ z => nomatch z) (fun _ z => nomatch z) (fun vq10 hq11 Kq12 qq13 => ?_)
  obtain ⟨rfl, rfl⟩ := qq13
  simp only [Option.toList, List.cons_append, List.nil_append]
  refine Rn.istoreN (pc' := 22) (Ls' := #[.val (.ref t), .val (.int ch), .val (.int (0 : Int32)), .val (.int (0 : Int32))]) d10_21 rfl rfl ?_
  refine Rn.iloadN (pc' := 23) d10_22 rfl rfl ?_
  refine Rn.iloadN (pc' := 24) d10_23 rfl rfl ?_
  refine Rn.icmp_lt (pc' := 29) (pn := 27) d10_24 (by decide) (by decide) rfl (fun cq14 => absurd cq14 (by decide)) (fun cq14 => ?_)
  refine Rn.iconst (pc' := 28) (v := (-1 : Int32)) d10_27 rfl rfl ?_
  refine Rn.retI rfl d10_28 (Nat.le_of_ble_eq_true rfl) (Nat.le_of_ble_eq_true rfl) ?_
  refine ⟨⟨_, rfl, ⟨fun _ q => ?_, fun _ => by decide⟩⟩, rfl⟩
  exact q
theorem d9_0 : decode jdk_42_method_152_code 0 = .ok (.getstatic 38, 3) := by decide +kernel
theorem d9_3 : decode jdk_42_method_152_code 3 = .ok (.ifCond .eq 10, 3) := by decide +kernel
theorem d9_6 : decode jdk_42_method_152_code 6 = .ok (.aload_n 0, 1) := by decide +kernel
theorem d9_7 : decode jdk_42_method_152_code 7 = .ok (.getfield 15, 3) := by decide +kernel
theorem d9_10 : decode jdk_42_method_152_code 10 = .ok (.goto 4, 3) := by decide +kernel
theorem d9_13 : decode jdk_42_method_152_code 13 = .ok (.iconst 1, 1) := by decide +kernel
theorem d9_14 : decode jdk_42_method_152_code 14 = .ok (.ireturn, 1) := by decide +kernel
set_option maxRecDepth 65536 in
set_option maxHeartbeats 40000000 in
theorem ct_cdl0 (Z : State) (a0 : Array Value) (hw : ∀ d ∈ tables_1, d.before a0 Z = true) (x t : Addr)   (h0 : Heap) (G : Sg Z h0 x t []) (z : Int32) (hz : z ≠ 0) (S : Sta Z Z.heap "java/lang/String" "COMPACT_STRINGS" "Z" (.int z)) :
    Ct Z ⟨"java/lang/String", "coder", "()B"⟩ jdk_42_method_152_code 1 (Option.some FieldType.byte) ({ frames := 0, cells := 0, slots := 0, locals := 0 } : Room) #[(.ref x)] h0 [] (fun v h => v = some (.int (0 : Int32)) ∧ h0 = h) := by
  refine Ct.intro (Ls := #[.val (.ref x)]) (plainFor_of_name pn_4) (by intro m; first | (simp [entryFrame, mkF, argsToLocals, Value.category]; done) | rfl) ?_
  refine Rn.old fun Oq1 _ => ?_
  refine Rn.getS (pc' := 3) (hw _ (List.mem_of_getElem? (i := 46) rfl)) Via.refl (S.ext Oq1) d9_0 rfl ?_
  refine Rn.if_eq (pc' := 13) (pn := 6) d9_3 (by decide) (by decide) rfl (fun cq2 => absurd cq2 hz) (fun cq2 => ?_)
  refine Rn.aloadN (pc' := 7) d9_6 rfl rfl rfl ?_
  refine Rn.getF (pc' := 10) (host := "") (Or.inl (hw _ (List.mem_of_getElem? (i := 26) rfl))) Via.refl G.2.1 d9_7 rfl ?_
  refine Rn.goto (pc' := 14) d9_10 (by decide) (by decide) ?_
  refine Rn.retN (t := .byte) rfl (by simp) d9_14 (Nat.le_of_ble_eq_true rfl) (Nat.le_of_ble_eq_true rfl) ?_
  exact ⟨rfl, rfl⟩
theorem d7_0 : decode jdk_42_method_154_code 0 = .ok (.getstatic 38, 3) := by decide +kernel
theorem d7_3 : decode jdk_42_method_154_code 3 = .ok (.ifCond .eq 14, 3) := by decide +kernel
theorem d7_6 : decode jdk_42_method_154_code 6 = .ok (.aload_n 0, 1) := by decide +kernel
theorem d7_7 : decode jdk_42_method_154_code 7 = .ok (.getfield 15, 3) := by decide +kernel
theorem d7_10 : decode jdk_42_method_154_code 10 = .ok (.ifCond .ne 7, 3) := by decide +kernel
theorem d7_13 : decode jdk_42_method_154_code 13 = .ok (.iconst 1, 1) := by decide +kernel
theorem d7_14 : decode jdk_42_method_154_code 14 = .ok (.goto 4, 3) := by decide +kernel
theorem d7_17 : decode jdk_42_method_154_code 17 = .ok (.iconst 0, 1) := by decide +kernel
theorem d7_18 : decode jdk_42_method_154_code 18 = .ok (.ireturn, 1) := by decide +kernel
set_option maxRecDepth 65536 in
set_option maxHeartbeats 40000000 in
theorem ct_ill0 (Z : State) (a0 : Array Value) (hw : ∀ d ∈ tables_1, d.before a0 Z = true) (x t : Addr)   (h0 : Heap) (G : Sg Z h0 x t []) (z : Int32) (hz : z ≠ 0) (S : Sta Z Z.heap "java/lang/String" "COMPACT_STRINGS" "Z" (.int z)) :
    Ct Z ⟨"java/lang/String", "isLatin1", "()Z"⟩ jdk_42_method_154_code 1 (Option.some FieldType.boolean) ({ frames := 0, cells := 0, slots := 0, locals := 0 } : Room) #[(.ref x)] h0 [] (fun v h => v = some (.int (1 : Int32)) ∧ h0 = h) := by
  refine Ct.intro (Ls := #[.val (.ref x)]) (plainFor_of_name pn_4) (by intro m; first | (simp [entryFrame, mkF, argsToLocals, Value.category]; done) | rfl) ?_
  refine Rn.old fun Oq1 _ => ?_
  refine Rn.getS (pc' := 3) (hw _ (List.mem_of_getElem? (i := 46) rfl)) Via.refl (S.ext Oq1) d7_0 rfl ?_
  refine Rn.if_eq (pc' := 17) (pn := 6) d7_3 (by decide) (by decide) rfl (fun cq2 => absurd cq2 hz) (fun cq2 => ?_)
  refine Rn.aloadN (pc' := 7) d7_6 rfl rfl rfl ?_
  refine Rn.getF (pc' := 10) (host := "") (Or.inl (hw _ (List.mem_of_getElem? (i := 26) rfl))) Via.refl G.2.1 d7_7 rfl ?_
  refine Rn.if_ne (pc' := 17) (pn := 13) d7_10 (by decide) (by decide) rfl (fun cq3 => absurd cq3 (by decide)) (fun cq3 => ?_)
  refine Rn.iconst (pc' := 14) (v := (1 : Int32)) d7_13 rfl rfl ?_
  refine Rn.goto (pc' := 18) d7_14 (by decide) (by decide) ?_
  refine Rn.retN (t := .boolean) rfl (by simp) d7_18 (Nat.le_of_ble_eq_true rfl) (Nat.le_of_ble_eq_true rfl) ?_
  exact ⟨rfl, rfl⟩
theorem d8_0 : decode jdk_42_method_54_code 0 = .ok (.aload_n 0, 1) := by decide +kernel
theorem d8_1 : decode jdk_42_method_54_code 1 = .ok (.getfield 9, 3) := by decide +kernel
theorem d8_4 : decode jdk_42_method_54_code 4 = .ok (.arraylength, 1) := by decide +kernel
theorem d8_5 : decode jdk_42_method_54_code 5 = .ok (.aload_n 0, 1) := by decide +kernel
theorem d8_6 : decode jdk_42_method_54_code 6 = .ok (.invokevirtual 335, 3) := by decide +kernel
theorem d8_9 : decode jdk_42_method_54_code 9 = .ok (.ishr, 1) := by decide +kernel
theorem d8_10 : decode jdk_42_method_54_code 10 = .ok (.ireturn, 1) := by decide +kernel
set_option maxRecDepth 65536 in
set_option maxHeartbeats 40000000 in
theorem ct_lnl0 (Z : State) (a0 : Array Value) (hw : ∀ d ∈ tables_1, d.before a0 Z = true) (x t : Addr)   (h0 : Heap) (G : Sg Z h0 x t []) (z : Int32) (hz : z ≠ 0) (S : Sta Z Z.heap "java/lang/String" "COMPACT_STRINGS" "Z" (.int z)) :
    Ct Z ⟨"java/lang/String", "length", "()I"⟩ jdk_42_method_54_code 1 (Option.some FieldType.int) ({ frames := 1, cells := 0, slots := 0, locals := 13 } : Room) #[(.ref x)] h0 [] (fun v h => v = some (.int (0 : Int32)) ∧ h0 = h) := by
  refine Ct.intro (Ls := #[.val (.ref x)]) (plainFor_of_name pn_4) (by intro m; first | (simp [entryFrame, mkF, argsToLocals, Value.category]; done) | rfl) ?_
  refine Rn.aloadN (pc' := 1) d8_0 rfl rfl rfl ?_
  refine Rn.getF (pc' := 4) (host := "") (Or.inl (hw _ (List.mem_of_getElem? (i := 25) rfl))) Via.refl G.2.2.1 d8_1 rfl ?_
  refine Rn.arraylength (pc' := 5) (n := (0 : Int32)) G.2.2.2 rfl d8_4 rfl ?_
  refine Rn.aloadN (pc' := 6) d8_5 rfl rfl rfl ?_
  refine Rn.callV (pc' := 9) (argsL := []) (a := x) (rest := [.int (0 : Int32)]) (ct_cdl0 Z a0 hw x t    h0 G z hz S) G.1 (hw _ (List.mem_of_getElem? (i := 52) rfl)) (hw _ (List.mem_of_getElem? (i := 53) rfl)) (fun _ hZ => notFace_of_selects (args := #[]) (mvT hZ (hw _ (List.mem_of_getElem? (i := 55) rfl)))) (hw _ (List.mem_of_getElem? (i := 55) rfl)) (hw _ (List.mem_of_getElem? (i := 54) rfl)) (hw _ (List.mem_of_getElem? (i := 7) rfl)) (hw _ (List.mem_of_getElem? (i := 56) rfl)) (by decide) rfl rfl (lenOf pd_10 rfl) rfl d8_6 rfl (Nat.le_of_ble_eq_true rfl) (Nat.le_of_ble_eq_true rfl) (Nat.le_of_ble_eq_true rfl) (Nat.le_of_ble_eq_true rfl) (fun _ z => nomatch z) (fun _ z => nomatch z) (fun vq1 hq2 Kq3 qq4 => ?_)
  obtain ⟨rfl, rfl⟩ := qq4
  simp only [Option.toList, List.cons_append, List.nil_append]
  refine Rn.ishr (pc' := 10) (v := (0 : Int32)) d8_9 rfl rfl ?_
  refine Rn.retI rfl d8_10 (Nat.le_of_ble_eq_true rfl) (Nat.le_of_ble_eq_true rfl) ?_
  exact ⟨rfl, rfl⟩
theorem d6_0 : decode jdk_42_method_80_code 0 = .ok (.aload_n 0, 1) := by decide +kernel
theorem d6_1 : decode jdk_42_method_80_code 1 = .ok (.invokevirtual 492, 3) := by decide +kernel
theorem d6_4 : decode jdk_42_method_80_code 4 = .ok (.ifCond .eq 19, 3) := by decide +kernel
theorem d6_7 : decode jdk_42_method_80_code 7 = .ok (.aload_n 0, 1) := by decide +kernel
theorem d6_8 : decode jdk_42_method_80_code 8 = .ok (.getfield 9, 3) := by decide +kernel
theorem d6_11 : decode jdk_42_method_80_code 11 = .ok (.iload_n 1, 1) := by decide +kernel
theorem d6_12 : decode jdk_42_method_80_code 12 = .ok (.iload_n 2, 1) := by decide +kernel
theorem d6_13 : decode jdk_42_method_80_code 13 = .ok (.aload_n 0, 1) := by decide +kernel
theorem d6_14 : decode jdk_42_method_80_code 14 = .ok (.invokevirtual 505, 3) := by decide +kernel
theorem d6_17 : decode jdk_42_method_80_code 17 = .ok (.invokestatic 637, 3) := by decide +kernel
theorem d6_20 : decode jdk_42_method_80_code 20 = .ok (.goto 16, 3) := by decide +kernel
theorem d6_23 : decode jdk_42_method_80_code 23 = .ok (.aload_n 0, 1) := by decide +kernel
theorem d6_24 : decode jdk_42_method_80_code 24 = .ok (.getfield 9, 3) := by decide +kernel
theorem d6_27 : decode jdk_42_method_80_code 27 = .ok (.iload_n 1, 1) := by decide +kernel
theorem d6_28 : decode jdk_42_method_80_code 28 = .ok (.iload_n 2, 1) := by decide +kernel
theorem d6_29 : decode jdk_42_method_80_code 29 = .ok (.aload_n 0, 1) := by decide +kernel
theorem d6_30 : decode jdk_42_method_80_code 30 = .ok (.invokevirtual 505, 3) := by decide +kernel
theorem d6_33 : decode jdk_42_method_80_code 33 = .ok (.invokestatic 640, 3) := by decide +kernel
theorem d6_36 : decode jdk_42_method_80_code 36 = .ok (.ireturn, 1) := by decide +kernel
set_option maxRecDepth 65536 in
set_option maxHeartbeats 40000000 in
theorem ct_i2l0 (Z : State) (a0 : Array Value) (hw : ∀ d ∈ tables_1, d.before a0 Z = true) (x t : Addr)   (h0 : Heap) (G : Sg Z h0 x t []) (z : Int32) (hz : z ≠ 0) (S : Sta Z Z.heap "java/lang/String" "COMPACT_STRINGS" "Z" (.int z))(ch : Int32) (hb : b8 ch = ch) (hB : own_B ch)(UA : Sta Z Z.heap "java/lang/StringUTF16" "$assertionsDisabled" "Z" (.int (1 : Int32))) (UH : Sta Z Z.heap "java/lang/StringUTF16" "HI_BYTE_SHIFT" "I" (.int (0 : Int32))) (UL : Sta Z Z.heap "java/lang/StringUTF16" "LO_BYTE_SHIFT" "I" (.int (8 : Int32)))(f : Value) (hf : f.isRef = true) (SF : Sta Z Z.heap "jdk/internal/util/Preconditions" "SIOOBE_FORMATTER" "Ljava/util/function/BiFunction;" f) :
    Ct Z ⟨"java/lang/String", "indexOf", "(II)I"⟩ jdk_42_method_80_code 3 (Option.some FieldType.int) ({ frames := 2, cells := 0, slots := 0, locals := 28 } : Room) #[(.ref x), (.int ch), (.int (0 : Int32))] h0 [] (fun v h => (∃ r, v = some (.int r) ∧ (r < 0 ↔ ¬ (False))) ∧ h0 = h) := by
  refine Ct.intro (Ls := #[.val (.ref x), .val (.int ch), .val (.int (0 : Int32))]) (plainFor_of_name pn_4) (by intro m; first | (simp [entryFrame, mkF, argsToLocals, Value.category]; done) | rfl) ?_
  refine Rn.aloadN (pc' := 1) d6_0 rfl rfl rfl ?_
  refine Rn.callV (pc' := 4) (argsL := []) (a := x) (rest := []) (ct_ill0 Z a0 hw x t    h0 G z hz S) G.1 (hw _ (List.mem_of_getElem? (i := 41) rfl)) (hw _ (List.mem_of_getElem? (i := 42) rfl)) (fun _ hZ => notFace_of_selects (args := #[]) (mvT hZ (hw _ (List.mem_of_getElem? (i := 44) rfl)))) (hw _ (List.mem_of_getElem? (i := 44) rfl)) (hw _ (List.mem_of_getElem? (i := 43) rfl)) (hw _ (List.mem_of_getElem? (i := 7) rfl)) (hw _ (List.mem_of_getElem? (i := 45) rfl)) (by decide) rfl rfl (lenOf pd_11 rfl) rfl d6_1 rfl (Nat.le_of_ble_eq_true rfl) (Nat.le_of_ble_eq_true rfl) (Nat.le_of_ble_eq_true rfl) (Nat.le_of_ble_eq_true rfl) (fun _ z => nomatch z) (fun _ z => nomatch z) (fun vq1 hq2 Kq3 qq4 => ?_)
  obtain ⟨rfl, rfl⟩ := qq4
  simp only [Option.toList, List.cons_append, List.nil_append]
  refine Rn.if_eq (pc' := 23) (pn := 7) d6_4 (by decide) (by decide) rfl (fun cq5 => absurd cq5 (by decide)) (fun cq5 => ?_)
  refine Rn.aloadN (pc' := 8) d6_7 rfl rfl rfl ?_
  refine Rn.getF (pc' := 11) (host := "") (Or.inl (hw _ (List.mem_of_getElem? (i := 25) rfl))) Via.refl G.2.2.1 d6_8 rfl ?_
  refine Rn.iloadN (pc' := 12) d6_11 rfl rfl ?_
  refine Rn.iloadN (pc' := 13) d6_12 rfl rfl ?_
  refine Rn.aloadN (pc' := 14) d6_13 rfl rfl rfl ?_
  refine Rn.callV (pc' := 17) (argsL := []) (a := x) (rest := [.int (0 : Int32), .int ch, .ref t]) (ct_lnl0 Z a0 hw x t    h0 G z hz S) G.1 (hw _ (List.mem_of_getElem? (i := 47) rfl)) (hw _ (List.mem_of_getElem? (i := 48) rfl)) (fun _ hZ => notFace_of_selects (args := #[]) (mvT hZ (hw _ (List.mem_of_getElem? (i := 50) rfl)))) (hw _ (List.mem_of_getElem? (i := 50) rfl)) (hw _ (List.mem_of_getElem? (i := 49) rfl)) (hw _ (List.mem_of_getElem? (i := 7) rfl)) (hw _ (List.mem_of_getElem? (i := 51) rfl)) (by decide) rfl rfl (lenOf pd_12 rfl) rfl d6_14 rfl (Nat.le_of_ble_eq_true rfl) (Nat.le_of_ble_eq_true rfl) (Nat.le_of_ble_eq_true rfl) (Nat.le_of_ble_eq_true rfl) (fun _ z => nomatch z) (fun _ z => nomatch z) (fun vq6 hq7 Kq8 qq9 => ?_)
  obtain ⟨rfl, rfl⟩ := qq9
  simp only [Option.toList, List.cons_append, List.nil_append]
  refine Rn.callS (pc' := 20) (argsL := [.ref t, .int ch, .int (0 : Int32), .int (0 : Int32)]) (rest := []) (ct_ixl0 Z a0 hw t    h0 G.2.2.2 ch hb hB) (hw _ (List.mem_of_getElem? (i := 57) rfl)) (hw _ (List.mem_of_getElem? (i := 58) rfl)) (hw _ (List.mem_of_getElem? (i := 59) rfl)) (hw _ (List.mem_of_getElem? (i := 60) rfl)) (by decide) rfl rfl (lenOf pd_13 rfl) rfl d6_17 rfl (Nat.le_of_ble_eq_true rfl) (Nat.le_of_ble_eq_true rfl) (Nat.le_of_ble_eq_true rfl) (Nat.le_of_ble_eq_true rfl) (fun _ z => nomatch z) (fun _ z => nomatch z) (fun vq10 hq11 Kq12 qq13 => ?_)
  obtain ⟨⟨r, rfl, hr⟩, rfl⟩ := qq13
  simp only [Option.toList, List.cons_append, List.nil_append]
  refine Rn.goto (pc' := 36) d6_20 (by decide) (by decide) ?_
  refine Rn.retI rfl d6_36 (Nat.le_of_ble_eq_true rfl) (Nat.le_of_ble_eq_true rfl) ?_
  exact ⟨⟨r, rfl, hr⟩, rfl⟩
theorem d5_0 : decode jdk_42_method_79_code 0 = .ok (.aload_n 0, 1) := by decide +kernel
theorem d5_1 : decode jdk_42_method_79_code 1 = .ok (.iload_n 1, 1) := by decide +kernel
theorem d5_2 : decode jdk_42_method_79_code 2 = .ok (.iconst 0, 1) := by decide +kernel
theorem d5_3 : decode jdk_42_method_79_code 3 = .ok (.invokevirtual 633, 3) := by decide +kernel
theorem d5_6 : decode jdk_42_method_79_code 6 = .ok (.ireturn, 1) := by decide +kernel
set_option maxRecDepth 65536 in
set_option maxHeartbeats 40000000 in
theorem ct_i1l0 (Z : State) (a0 : Array Value) (hw : ∀ d ∈ tables_1, d.before a0 Z = true) (x t : Addr)   (h0 : Heap) (G : Sg Z h0 x t []) (z : Int32) (hz : z ≠ 0) (S : Sta Z Z.heap "java/lang/String" "COMPACT_STRINGS" "Z" (.int z))(ch : Int32) (hb : b8 ch = ch) (hB : own_B ch)(UA : Sta Z Z.heap "java/lang/StringUTF16" "$assertionsDisabled" "Z" (.int (1 : Int32))) (UH : Sta Z Z.heap "java/lang/StringUTF16" "HI_BYTE_SHIFT" "I" (.int (0 : Int32))) (UL : Sta Z Z.heap "java/lang/StringUTF16" "LO_BYTE_SHIFT" "I" (.int (8 : Int32)))(f : Value) (hf : f.isRef = true) (SF : Sta Z Z.heap "jdk/internal/util/Preconditions" "SIOOBE_FORMATTER" "Ljava/util/function/BiFunction;" f) :
    Ct Z ⟨"java/lang/String", "indexOf", "(I)I"⟩ jdk_42_method_79_code 2 (Option.some FieldType.int) ({ frames := 3, cells := 0, slots := 0, locals := 42 } : Room) #[(.ref x), (.int ch)] h0 [] (fun v h => (∃ r, v = some (.int r) ∧ (r < 0 ↔ ¬ (False))) ∧ h0 = h) := by
  refine Ct.intro (Ls := #[.val (.ref x), .val (.int ch)]) (plainFor_of_name pn_4) (by intro m; first | (simp [entryFrame, mkF, argsToLocals, Value.category]; done) | rfl) ?_
  refine Rn.aloadN (pc' := 1) d5_0 rfl rfl rfl ?_
  refine Rn.iloadN (pc' := 2) d5_1 rfl rfl ?_
  refine Rn.iconst (pc' := 3) (v := (0 : Int32)) d5_2 rfl rfl ?_
  refine Rn.callV (pc' := 6) (argsL := [.int ch, .int (0 : Int32)]) (a := x) (rest := []) (ct_i2l0 Z a0 hw x t    h0 G z hz S ch hb hB UA UH UL f hf SF) G.1 (hw _ (List.mem_of_getElem? (i := 36) rfl)) (hw _ (List.mem_of_getElem? (i := 37) rfl)) (fun _ hZ => notFace_of_selects (args := #[]) (mvT hZ (hw _ (List.mem_of_getElem? (i := 39) rfl)))) (hw _ (List.mem_of_getElem? (i := 39) rfl)) (hw _ (List.mem_of_getElem? (i := 38) rfl)) (hw _ (List.mem_of_getElem? (i := 7) rfl)) (hw _ (List.mem_of_getElem? (i := 40) rfl)) (by decide) rfl rfl (lenOf pd_9 rfl) rfl d5_3 rfl (Nat.le_of_ble_eq_true rfl) (Nat.le_of_ble_eq_true rfl) (Nat.le_of_ble_eq_true rfl) (Nat.le_of_ble_eq_true rfl) (fun _ z => nomatch z) (fun _ z => nomatch z) (fun vq1 hq2 Kq3 qq4 => ?_)
  obtain ⟨⟨r, rfl, hr⟩, rfl⟩ := qq4
  simp only [Option.toList, List.cons_append, List.nil_append]
  refine Rn.retI rfl d5_6 (Nat.le_of_ble_eq_true rfl) (Nat.le_of_ble_eq_true rfl) ?_
  exact ⟨⟨r, rfl, hr⟩, rfl⟩
theorem d4_0 : decode prog_28_method_2_code 0 = .ok (.aload_n 0, 1) := by decide +kernel
theorem d4_1 : decode prog_28_method_2_code 1 = .ok (.bipush 9, 2) := by decide +kernel
theorem d4_3 : decode prog_28_method_2_code 3 = .ok (.invokevirtual 7, 3) := by decide +kernel
theorem d4_6 : decode prog_28_method_2_code 6 = .ok (.ifCond .ge 25, 3) := by decide +kernel
theorem d4_9 : decode prog_28_method_2_code 9 = .ok (.aload_n 0, 1) := by decide +kernel
theorem d4_10 : decode prog_28_method_2_code 10 = .ok (.bipush 10, 2) := by decide +kernel
theorem d4_12 : decode prog_28_method_2_code 12 = .ok (.invokevirtual 7, 3) := by decide +kernel
theorem d4_15 : decode prog_28_method_2_code 15 = .ok (.ifCond .ge 16, 3) := by decide +kernel
theorem d4_18 : decode prog_28_method_2_code 18 = .ok (.aload_n 0, 1) := by decide +kernel
theorem d4_19 : decode prog_28_method_2_code 19 = .ok (.bipush 13, 2) := by decide +kernel
theorem d4_21 : decode prog_28_method_2_code 21 = .ok (.invokevirtual 7, 3) := by decide +kernel
theorem d4_24 : decode prog_28_method_2_code 24 = .ok (.ifCond .ge 7, 3) := by decide +kernel
theorem d4_27 : decode prog_28_method_2_code 27 = .ok (.iconst 1, 1) := by decide +kernel
theorem d4_28 : decode prog_28_method_2_code 28 = .ok (.goto 4, 3) := by decide +kernel
theorem d4_31 : decode prog_28_method_2_code 31 = .ok (.iconst 0, 1) := by decide +kernel
theorem d4_32 : decode prog_28_method_2_code 32 = .ok (.ireturn, 1) := by decide +kernel
set_option maxRecDepth 65536 in
set_option maxHeartbeats 40000000 in
theorem ct_chhl0 (Z : State) (a0 : Array Value) (hw : ∀ d ∈ tables_1, d.before a0 Z = true) (x t : Addr)   (h0 : Heap) (G : Sg Z h0 x t []) (z : Int32) (hz : z ≠ 0) (S : Sta Z Z.heap "java/lang/String" "COMPACT_STRINGS" "Z" (.int z))(UA : Sta Z Z.heap "java/lang/StringUTF16" "$assertionsDisabled" "Z" (.int (1 : Int32))) (UH : Sta Z Z.heap "java/lang/StringUTF16" "HI_BYTE_SHIFT" "I" (.int (0 : Int32))) (UL : Sta Z Z.heap "java/lang/StringUTF16" "LO_BYTE_SHIFT" "I" (.int (8 : Int32)))(f : Value) (hf : f.isRef = true) (SF : Sta Z Z.heap "jdk/internal/util/Preconditions" "SIOOBE_FORMATTER" "Ljava/util/function/BiFunction;" f) :
    Ct Z ⟨"com/example/fleet_quant/fleetquant/io/TableCells", "canHold", "(Ljava/lang/String;)Z"⟩ prog_28_method_2_code 1 (Option.some FieldType.boolean) ({ frames := 9, cells := 0, slots := 0, locals := 140 } : Room) #[(.ref x)] h0 [] (fun v h => v = some (.int (if True then 1 else 0)) ∧ h0 = h) := by
  refine Ct.intro (Ls := #[.val (.ref x)]) (plainFor_of_name pn_6) (by intro m; first | (simp [entryFrame, mkF, argsToLocals, Value.category]; done) | rfl) ?_
  refine Rn.aloadN (pc' := 1) d4_0 rfl rfl rfl ?_
  refine Rn.bipush (pc' := 3) (v := (9 : Int32)) d4_1 rfl rfl ?_
  refine Rn.callV (pc' := 6) (argsL := [.int (9 : Int32)]) (a := x) (rest := []) (ct_i1l0 Z a0 hw x t    h0 G z hz S 9 rfl own_k9 UA UH UL f hf SF) G.1 (hw _ (List.mem_of_getElem? (i := 31) rfl)) (hw _ (List.mem_of_getElem? (i := 32) rfl)) (fun _ hZ => notFace_of_selects (args := #[]) (mvT hZ (hw _ (List.mem_of_getElem? (i := 34) rfl)))) (hw _ (List.mem_of_getElem? (i := 34) rfl)) (hw _ (List.mem_of_getElem? (i := 33) rfl)) (hw _ (List.mem_of_getElem? (i := 7) rfl)) (hw _ (List.mem_of_getElem? (i := 35) rfl)) (by decide) rfl rfl (lenOf pd_0 rfl) rfl d4_3 rfl (Nat.le_of_ble_eq_true rfl) (Nat.le_of_ble_eq_true rfl) (Nat.le_of_ble_eq_true rfl) (Nat.le_of_ble_eq_true rfl) (fun _ z => nomatch z) (fun _ z => nomatch z) (fun vq1 hq2 Kq3 qq4 => ?_)
  obtain ⟨⟨r9, rfl, hr9⟩, rfl⟩ := qq4
  simp only [Option.toList, List.cons_append, List.nil_append]
  refine Rn.if_ge (pc' := 31) (pn := 9) d4_6 (by decide) (by decide) rfl (fun cq5 => ?_) (fun cq5 => ?_)
  ·
    refine Rn.iconst (pc' := 32) (v := (0 : Int32)) d4_31 rfl rfl ?_
    refine Rn.retN (t := .boolean) rfl (by simp) d4_32 (Nat.le_of_ble_eq_true rfl) (Nat.le_of_ble_eq_true rfl) ?_
    refine ⟨?_, rfl⟩
    exact own_if_f (fun q => own_ngt cq5 (hr9.mpr (fun q' => q')))
  ·
    refine Rn.aloadN (pc' := 10) d4_9 rfl rfl rfl ?_
    refine Rn.bipush (pc' := 12) (v := (10 : Int32)) d4_10 rfl rfl ?_
    refine Rn.callV (pc' := 15) (argsL := [.int (10 : Int32)]) (a := x) (rest := []) (ct_i1l0 Z a0 hw x t    h0 G z hz S 10 rfl own_k10 UA UH UL f hf SF) G.1 (hw _ (List.mem_of_getElem? (i := 31) rfl)) (hw _ (List.mem_of_getElem? (i := 32) rfl)) (fun _ hZ => notFace_of_selects (args := #[]) (mvT hZ (hw _ (List.mem_of_getElem? (i := 34) rfl)))) (hw _ (List.mem_of_getElem? (i := 34) rfl)) (hw _ (List.mem_of_getElem? (i := 33) rfl)) (hw _ (List.mem_of_getElem? (i := 7) rfl)) (hw _ (List.mem_of_getElem? (i := 35) rfl)) (by decide) rfl rfl (lenOf pd_0 rfl) rfl d4_12 rfl (Nat.le_of_ble_eq_true rfl) (Nat.le_of_ble_eq_true rfl) (Nat.le_of_ble_eq_true rfl) (Nat.le_of_ble_eq_true rfl) (fun _ z => nomatch z) (fun _ z => nomatch z) (fun vq6 hq7 Kq8 qq9 => ?_)
    obtain ⟨⟨r10, rfl, hr10⟩, rfl⟩ := qq9
    simp only [Option.toList, List.cons_append, List.nil_append]
    refine Rn.if_ge (pc' := 31) (pn := 18) d4_15 (by decide) (by decide) rfl (fun cq10 => ?_) (fun cq10 => ?_)
    ·
      refine Rn.iconst (pc' := 32) (v := (0 : Int32)) d4_31 rfl rfl ?_
      refine Rn.retN (t := .boolean) rfl (by simp) d4_32 (Nat.le_of_ble_eq_true rfl) (Nat.le_of_ble_eq_true rfl) ?_
      refine ⟨?_, rfl⟩
      exact own_if_f (fun q => own_ngt cq10 (hr10.mpr (fun q' => q')))
    ·
      refine Rn.aloadN (pc' := 19) d4_18 rfl rfl rfl ?_
      refine Rn.bipush (pc' := 21) (v := (13 : Int32)) d4_19 rfl rfl ?_
      refine Rn.callV (pc' := 24) (argsL := [.int (13 : Int32)]) (a := x) (rest := []) (ct_i1l0 Z a0 hw x t    h0 G z hz S 13 rfl own_k13 UA UH UL f hf SF) G.1 (hw _ (List.mem_of_getElem? (i := 31) rfl)) (hw _ (List.mem_of_getElem? (i := 32) rfl)) (fun _ hZ => notFace_of_selects (args := #[]) (mvT hZ (hw _ (List.mem_of_getElem? (i := 34) rfl)))) (hw _ (List.mem_of_getElem? (i := 34) rfl)) (hw _ (List.mem_of_getElem? (i := 33) rfl)) (hw _ (List.mem_of_getElem? (i := 7) rfl)) (hw _ (List.mem_of_getElem? (i := 35) rfl)) (by decide) rfl rfl (lenOf pd_0 rfl) rfl d4_21 rfl (Nat.le_of_ble_eq_true rfl) (Nat.le_of_ble_eq_true rfl) (Nat.le_of_ble_eq_true rfl) (Nat.le_of_ble_eq_true rfl) (fun _ z => nomatch z) (fun _ z => nomatch z) (fun vq11 hq12 Kq13 qq14 => ?_)
      obtain ⟨⟨r13, rfl, hr13⟩, rfl⟩ := qq14
      simp only [Option.toList, List.cons_append, List.nil_append]
      refine Rn.if_ge (pc' := 31) (pn := 27) d4_24 (by decide) (by decide) rfl (fun cq15 => ?_) (fun cq15 => ?_)
      ·
        refine Rn.iconst (pc' := 32) (v := (0 : Int32)) d4_31 rfl rfl ?_
        refine Rn.retN (t := .boolean) rfl (by simp) d4_32 (Nat.le_of_ble_eq_true rfl) (Nat.le_of_ble_eq_true rfl) ?_
        refine ⟨?_, rfl⟩
        exact own_if_f (fun q => own_ngt cq15 (hr13.mpr (fun q' => q')))
      ·
        refine Rn.iconst (pc' := 28) (v := (1 : Int32)) d4_27 rfl rfl ?_
        refine Rn.goto (pc' := 32) d4_28 (by decide) (by decide) ?_
        refine Rn.retN (t := .boolean) rfl (by simp) d4_32 (Nat.le_of_ble_eq_true rfl) (Nat.le_of_ble_eq_true rfl) ?_
        refine ⟨?_, rfl⟩
        exact own_if_t trivial
theorem d18_0 : decode jdk_43_method_23_code 0 = .ok (.iload_n 1, 1) := by decide +kernel
theorem d18_1 : decode jdk_43_method_23_code 1 = .ok (.i2b, 1) := by decide +kernel
theorem d18_2 : decode jdk_43_method_23_code 2 = .ok (.istore 4, 2) := by decide +kernel
theorem d18_4 : decode jdk_43_method_23_code 4 = .ok (.iload_n 2, 1) := by decide +kernel
theorem d18_5 : decode jdk_43_method_23_code 5 = .ok (.istore 5, 2) := by decide +kernel
theorem d18_7 : decode jdk_43_method_23_code 7 = .ok (.iload 5, 2) := by decide +kernel
theorem d18_9 : decode jdk_43_method_23_code 9 = .ok (.iload_n 3, 1) := by decide +kernel
theorem d18_10 : decode jdk_43_method_23_code 10 = .ok (.if_icmp .ge 21, 3) := by decide +kernel
theorem d18_13 : decode jdk_43_method_23_code 13 = .ok (.aload_n 0, 1) := by decide +kernel
theorem d18_14 : decode jdk_43_method_23_code 14 = .ok (.iload 5, 2) := by decide +kernel
theorem d18_16 : decode jdk_43_method_23_code 16 = .ok (.baload, 1) := by decide +kernel
theorem d18_17 : decode jdk_43_method_23_code 17 = .ok (.iload 4, 2) := by decide +kernel
theorem d18_19 : decode jdk_43_method_23_code 19 = .ok (.if_icmp .ne 6, 3) := by decide +kernel
theorem d18_22 : decode jdk_43_method_23_code 22 = .ok (.iload 5, 2) := by decide +kernel
theorem d18_24 : decode jdk_43_method_23_code 24 = .ok (.ireturn, 1) := by decide +kernel
theorem d18_25 : decode jdk_43_method_23_code 25 = .ok (.iinc 5 1, 3) := by decide +kernel
theorem d18_28 : decode jdk_43_method_23_code 28 = .ok (.goto (-21), 3) := by decide +kernel
theorem d18_31 : decode jdk_43_method_23_code 31 = .ok (.iconst (-1), 1) := by decide +kernel
theorem d18_32 : decode jdk_43_method_23_code 32 = .ok (.ireturn, 1) := by decide +kernel
set_option maxRecDepth 65536 in
set_option maxHeartbeats 40000000 in
theorem ct_iocl1 (Z : State) (a0 : Array Value) (hw : ∀ d ∈ tables_1, d.before a0 Z = true) (t : Addr) (c0 : Int32) (hp0 : ¬ 255 < c0) (hC0 : own_C c0) (h0 : Heap) (A : Ax Z h0 t .byte [.int (b8 c0)]) (ch : Int32) (hb : b8 ch = ch) (hB : own_B ch) :
    Ct Z ⟨"java/lang/StringLatin1", "indexOfChar", "([BIII)I"⟩ jdk_43_method_23_code 6 (Option.some FieldType.int) ({ frames := 0, cells := 0, slots := 0, locals := 0 } : Room) #[(.ref t), (.int ch), (.int (0 : Int32)), (.int (1 : Int32))] h0 [] (fun v h => (∃ r, v = some (.int r) ∧ (r < 0 ↔ ¬ (c0 = ch))) ∧ h0 = h) := by
  refine Ct.intro (Ls := #[.val (.ref t), .val (.int ch), .val (.int (0 : Int32)), .val (.int (1 : Int32)), .unset, .unset]) (plainFor_of_name pn_5) (by intro m; first | (simp [entryFrame, mkF, argsToLocals, Value.category]; done) | rfl) ?_
  refine Rn.iloadN (pc' := 1) d18_0 rfl rfl ?_
  refine Rn.i2b (pc' := 2) (v := ch) d18_1 hb rfl ?_
  refine Rn.istore (pc' := 4) (Ls' := #[.val (.ref t), .val (.int ch), .val (.int (0 : Int32)), .val (.int (1 : Int32)), .val (.int ch), .unset]) d18_2 rfl rfl ?_
  refine Rn.iloadN (pc' := 5) d18_4 rfl rfl ?_
  refine Rn.istore (pc' := 7) (Ls' := #[.val (.ref t), .val (.int ch), .val (.int (0 : Int32)), .val (.int (1 : Int32)), .val (.int ch), .val (.int (0 : Int32))]) d18_5 rfl rfl ?_
  refine Rn.iload (pc' := 9) d18_7 rfl rfl ?_
  refine Rn.iloadN (pc' := 10) d18_9 rfl rfl ?_
  refine Rn.icmp_ge (pc' := 31) (pn := 13) d18_10 (by decide) (by decide) rfl (fun cq1 => absurd cq1 (by decide)) (fun cq1 => ?_)
  refine Rn.aloadN (pc' := 14) d18_13 rfl rfl rfl ?_
  refine Rn.iload (pc' := 16) d18_14 rfl rfl ?_
  refine Rn.baload (pc' := 17) (v := .int (b8 c0)) A (by decide) rfl d18_16 rfl ?_
  refine Rn.iload (pc' := 19) d18_17 rfl rfl ?_
  refine Rn.icmp_ne (pc' := 25) (pn := 22) d18_19 (by decide) (by decide) rfl (fun cq2 => ?_) (fun cq2 => ?_)
  ·
    refine Rn.iinc (pc' := 28) (v := (1 : Int32)) (Ls' := #[.val (.ref t), .val (.int ch), .val (.int (0 : Int32)), .val (.int (1 : Int32)), .val (.int ch), .val (.int (1 : Int32))]) d18_25 rfl rfl rfl rfl ?_
    refine Rn.goto (pc' := 7) d18_28 (by decide) (by decide) ?_
    refine Rn.iload (pc' := 9) d18_7 rfl rfl ?_
    refine Rn.iloadN (pc' := 10) d18_9 rfl rfl ?_
    refine Rn.icmp_ge (pc' := 31) (pn := 13) d18_10 (by decide) (by decide) rfl (fun cq3 => ?_) (fun cq3 => absurd cq3 (by decide))
    refine Rn.iconst (pc' := 32) (v := (-1 : Int32)) d18_31 rfl rfl ?_
    refine Rn.retI rfl d18_32 (Nat.le_of_ble_eq_true rfl) (Nat.le_of_ble_eq_true rfl) ?_
    refine ⟨⟨_, rfl, ⟨fun _ q => ?_, fun _ => by decide⟩⟩, rfl⟩
    rcases q with q
    · exact cq2 ((congrArg b8 q).trans hb)
  ·
    refine Rn.iload (pc' := 24) d18_22 rfl rfl ?_
    refine Rn.retI rfl d18_24 (Nat.le_of_ble_eq_true rfl) (Nat.le_of_ble_eq_true rfl) ?_
    exact ⟨⟨_, rfl, ⟨fun q => absurd q (by decide), fun q => absurd ((own_b8c (own_C_B hC0 hp0) hB hb cq2)) q⟩⟩, rfl⟩
set_option maxRecDepth 65536 in
set_option maxHeartbeats 40000000 in
theorem ct_ixl1 (Z : State) (a0 : Array Value) (hw : ∀ d ∈ tables_1, d.before a0 Z = true) (t : Addr) (c0 : Int32) (hp0 : ¬ 255 < c0) (hC0 : own_C c0) (h0 : Heap) (A : Ax Z h0 t .byte [.int (b8 c0)]) (ch : Int32) (hb : b8 ch = ch) (hB : own_B ch) :
    Ct Z ⟨"java/lang/StringLatin1", "indexOf", "([BIII)I"⟩ jdk_43_method_22_code 4 (Option.some FieldType.int) ({ frames := 1, cells := 0, slots := 0, locals := 17 } : Room) #[(.ref t), (.int ch), (.int (0 : Int32)), (.int (1 : Int32))] h0 [] (fun v h => (∃ r, v = some (.int r) ∧ (r < 0 ↔ ¬ (c0 = ch))) ∧ h0 = h) := by
  refine Ct.intro (Ls := #[.val (.ref t), .val (.int ch), .val (.int (0 : Int32)), .val (.int (1 : Int32))]) (plainFor_of_name pn_5) (by intro m; first | (simp [entryFrame, mkF, argsToLocals, Value.category]; done) | rfl) ?_
  refine Rn.iloadN (pc' := 1) d10_0 rfl rfl ?_
  refine Rn.callS (pc' := 4) (argsL := [.int ch]) (rest := []) (ct_ce Z a0 hw ch hB h0) (hw _ (List.mem_of_getElem? (i := 61) rfl)) (hw _ (List.mem_of_getElem? (i := 62) rfl)) (hw _ (List.mem_of_getElem? (i := 59) rfl)) (hw _ (List.mem_of_getElem? (i := 63) rfl)) (by decide) rfl rfl (lenOf pd_8 rfl) rfl d10_1 rfl (Nat.le_of_ble_eq_true rfl) (Nat.le_of_ble_eq_true rfl) (Nat.le_of_ble_eq_true rfl) (Nat.le_of_ble_eq_true rfl) (fun _ z => nomatch z) (fun _ z => nomatch z) (fun vq1 hq2 Kq3 qq4 => ?_)
  obtain ⟨rfl, rfl⟩ := qq4
  simp only [Option.toList, List.cons_append, List.nil_append]
  refine Rn.if_ne (pc' := 9) (pn := 7) d10_4 (by decide) (by decide) rfl (fun cq5 => ?_) (fun cq5 => absurd cq5 (by decide))
  refine Rn.iloadN (pc' := 10) d10_9 rfl rfl ?_
  refine Rn.iconst (pc' := 11) (v := (0 : Int32)) d10_10 rfl rfl ?_
  refine Rn.callS (pc' := 14) (argsL := [.int (0 : Int32), .int (0 : Int32)]) (rest := []) (ct_mx00 Z a0 hw h0) (hw _ (List.mem_of_getElem? (i := 64) rfl)) (hw _ (List.mem_of_getElem? (i := 65) rfl)) (hw _ (List.mem_of_getElem? (i := 66) rfl)) (hw _ (List.mem_of_getElem? (i := 67) rfl)) (by decide) rfl rfl (lenOf pd_9 rfl) rfl d10_11 rfl (Nat.le_of_ble_eq_true rfl) (Nat.le_of_ble_eq_true rfl) (Nat.le_of_ble_eq_true rfl) (Nat.le_of_ble_eq_true rfl) (fun _ z => nomatch z) (fun _ z => nomatch z) (fun vq6 hq7 Kq8 qq9 => ?_)
  obtain ⟨rfl, rfl⟩ := qq9
  simp only [Option.toList, List.cons_append, List.nil_append]
  refine Rn.istoreN (pc' := 15) (Ls' := #[.val (.ref t), .val (.int ch), .val (.int (0 : Int32)), .val (.int (1 : Int32))]) d10_14 rfl rfl ?_
  refine Rn.iloadN (pc' := 16) d10_15 rfl rfl ?_
  refine Rn.aloadN (pc' := 17) d10_16 rfl rfl rfl ?_
  refine Rn.arraylength (pc' := 18) (n := (1 : Int32)) A rfl d10_17 rfl ?_
  refine Rn.callS (pc' := 21) (argsL := [.int (1 : Int32), .int (1 : Int32)]) (rest := []) (ct_mn1 Z a0 hw h0) (hw _ (List.mem_of_getElem? (i := 68) rfl)) (hw _ (List.mem_of_getElem? (i := 69) rfl)) (hw _ (List.mem_of_getElem? (i := 66) rfl)) (hw _ (List.mem_of_getElem? (i := 70) rfl)) (by decide) rfl rfl (lenOf pd_9 rfl) rfl d10_18 rfl (Nat.le_of_ble_eq_true rfl) (Nat.le_of_ble_eq_true rfl) (Nat.le_of_ble_eq_true rfl) (Nat.le_of_ble_eq_true rfl) (fun _ z => nomatch z) (fun _ z => nomatch z) (fun vq10 hq11 Kq12 qq13 => ?_)
  obtain ⟨rfl, rfl⟩ := qq13
  simp only [Option.toList, List.cons_append, List.nil_append]
  refine Rn.istoreN (pc' := 22) (Ls' := #[.val (.ref t), .val (.int ch), .val (.int (0 : Int32)), .val (.int (1 : Int32))]) d10_21 rfl rfl ?_
  refine Rn.iloadN (pc' := 23) d10_22 rfl rfl ?_
  refine Rn.iloadN (pc' := 24) d10_23 rfl rfl ?_
  refine Rn.icmp_lt (pc' := 29) (pn := 27) d10_24 (by decide) (by decide) rfl (fun cq14 => ?_) (fun cq14 => absurd cq14 (by decide))
  refine Rn.aloadN (pc' := 30) d10_29 rfl rfl rfl ?_
  refine Rn.iloadN (pc' := 31) d10_30 rfl rfl ?_
  refine Rn.iloadN (pc' := 32) d10_31 rfl rfl ?_
  refine Rn.iloadN (pc' := 33) d10_32 rfl rfl ?_
  refine Rn.callS (pc' := 36) (argsL := [.ref t, .int ch, .int (0 : Int32), .int (1 : Int32)]) (rest := []) (ct_iocl1 Z a0 hw t c0 hp0 hC0 h0 A ch hb hB) (hw _ (List.mem_of_getElem? (i := 84) rfl)) (hw _ (List.mem_of_getElem? (i := 85) rfl)) (hw _ (List.mem_of_getElem? (i := 59) rfl)) (hw _ (List.mem_of_getElem? (i := 86) rfl)) (by decide) rfl rfl (lenOf pd_13 rfl) rfl d10_33 rfl (Nat.le_of_ble_eq_true rfl) (Nat.le_of_ble_eq_true rfl) (Nat.le_of_ble_eq_true rfl) (Nat.le_of_ble_eq_true rfl) (fun _ z => nomatch z) (fun _ z => nomatch z) (fun vq15 hq16 Kq17 qq18 => ?_)
  obtain ⟨⟨r, rfl, hr⟩, rfl⟩ := qq18
  simp only [Option.toList, List.cons_append, List.nil_append]
  refine Rn.retI rfl d10_36 (Nat.le_of_ble_eq_true rfl) (Nat.le_of_ble_eq_true rfl) ?_
  exact ⟨⟨r, rfl, hr⟩, rfl⟩
set_option maxRecDepth 65536 in
set_option maxHeartbeats 40000000 in
theorem ct_cdl1 (Z : State) (a0 : Array Value) (hw : ∀ d ∈ tables_1, d.before a0 Z = true) (x t : Addr) (c0 : Int32) (hp0 : ¬ 255 < c0) (hC0 : own_C c0) (h0 : Heap) (G : Sg Z h0 x t [.int (b8 c0)]) (z : Int32) (hz : z ≠ 0) (S : Sta Z Z.heap "java/lang/String" "COMPACT_STRINGS" "Z" (.int z)) :
    Ct Z ⟨"java/lang/String", "coder", "()B"⟩ jdk_42_method_152_code 1 (Option.some FieldType.byte) ({ frames := 0, cells := 0, slots := 0, locals := 0 } : Room) #[(.ref x)] h0 [] (fun v h => v = some (.int (0 : Int32)) ∧ h0 = h) := by
  refine Ct.intro (Ls := #[.val (.ref x)]) (plainFor_of_name pn_4) (by intro m; first | (simp [entryFrame, mkF, argsToLocals, Value.category]; done) | rfl) ?_
  refine Rn.old fun Oq1 _ => ?_
  refine Rn.getS (pc' := 3) (hw _ (List.mem_of_getElem? (i := 46) rfl)) Via.refl (S.ext Oq1) d9_0 rfl ?_
  refine Rn.if_eq (pc' := 13) (pn := 6) d9_3 (by decide) (by decide) rfl (fun cq2 => absurd cq2 hz) (fun cq2 => ?_)
  refine Rn.aloadN (pc' := 7) d9_6 rfl rfl rfl ?_
  refine Rn.getF (pc' := 10) (host := "") (Or.inl (hw _ (List.mem_of_getElem? (i := 26) rfl))) Via.refl G.2.1 d9_7 rfl ?_
  refine Rn.goto (pc' := 14) d9_10 (by decide) (by decide) ?_
  refine Rn.retN (t := .byte) rfl (by simp) d9_14 (Nat.le_of_ble_eq_true rfl) (Nat.le_of_ble_eq_true rfl) ?_
  exact ⟨rfl, rfl⟩
set_option maxRecDepth 65536 in
set_option maxHeartbeats 40000000 in
theorem ct_ill1 (Z : State) (a0 : Array Value) (hw : ∀ d ∈ tables_1, d.before a0 Z = true) (x t : Addr) (c0 : Int32) (hp0 : ¬ 255 < c0) (hC0 : own_C c0) (h0 : Heap) (G : Sg Z h0 x t [.int (b8 c0)]) (z : Int32) (hz : z ≠ 0) (S : Sta Z Z.heap "java/lang/String" "COMPACT_STRINGS" "Z" (.int z)) :
    Ct Z ⟨"java/lang/String", "isLatin1", "()Z"⟩ jdk_42_method_154_code 1 (Option.some FieldType.boolean) ({ frames := 0, cells := 0, slots := 0, locals := 0 } : Room) #[(.ref x)] h0 [] (fun v h => v = some (.int (1 : Int32)) ∧ h0 = h) := by
  refine Ct.intro (Ls := #[.val (.ref x)]) (plainFor_of_name pn_4) (by intro m; first | (simp [entryFrame, mkF, argsToLocals, Value.category]; done) | rfl) ?_
  refine Rn.old fun Oq1 _ => ?_
  refine Rn.getS (pc' := 3) (hw _ (List.mem_of_getElem? (i := 46) rfl)) Via.refl (S.ext Oq1) d7_0 rfl ?_
  refine Rn.if_eq (pc' := 17) (pn := 6) d7_3 (by decide) (by decide) rfl (fun cq2 => absurd cq2 hz) (fun cq2 => ?_)
  refine Rn.aloadN (pc' := 7) d7_6 rfl rfl rfl ?_
  refine Rn.getF (pc' := 10) (host := "") (Or.inl (hw _ (List.mem_of_getElem? (i := 26) rfl))) Via.refl G.2.1 d7_7 rfl ?_
  refine Rn.if_ne (pc' := 17) (pn := 13) d7_10 (by decide) (by decide) rfl (fun cq3 => absurd cq3 (by decide)) (fun cq3 => ?_)
  refine Rn.iconst (pc' := 14) (v := (1 : Int32)) d7_13 rfl rfl ?_
  refine Rn.goto (pc' := 18) d7_14 (by decide) (by decide) ?_
  refine Rn.retN (t := .boolean) rfl (by simp) d7_18 (Nat.le_of_ble_eq_true rfl) (Nat.le_of_ble_eq_true rfl) ?_
  exact ⟨rfl, rfl⟩
set_option maxRecDepth 65536 in
set_option maxHeartbeats 40000000 in
theorem ct_lnl1 (Z : State) (a0 : Array Value) (hw : ∀ d ∈ tables_1, d.before a0 Z = true) (x t : Addr) (c0 : Int32) (hp0 : ¬ 255 < c0) (hC0 : own_C c0) (h0 : Heap) (G : Sg Z h0 x t [.int (b8 c0)]) (z : Int32) (hz : z ≠ 0) (S : Sta Z Z.heap "java/lang/String" "COMPACT_STRINGS" "Z" (.int z)) :
    Ct Z ⟨"java/lang/String", "length", "()I"⟩ jdk_42_method_54_code 1 (Option.some FieldType.int) ({ frames := 1, cells := 0, slots := 0, locals := 13 } : Room) #[(.ref x)] h0 [] (fun v h => v = some (.int (1 : Int32)) ∧ h0 = h) := by
  refine Ct.intro (Ls := #[.val (.ref x)]) (plainFor_of_name pn_4) (by intro m; first | (simp [entryFrame, mkF, argsToLocals, Value.category]; done) | rfl) ?_
  refine Rn.aloadN (pc' := 1) d8_0 rfl rfl rfl ?_
  refine Rn.getF (pc' := 4) (host := "") (Or.inl (hw _ (List.mem_of_getElem? (i := 25) rfl))) Via.refl G.2.2.1 d8_1 rfl ?_
  refine Rn.arraylength (pc' := 5) (n := (1 : Int32)) G.2.2.2 rfl d8_4 rfl ?_
  refine Rn.aloadN (pc' := 6) d8_5 rfl rfl rfl ?_
  refine Rn.callV (pc' := 9) (argsL := []) (a := x) (rest := [.int (1 : Int32)]) (ct_cdl1 Z a0 hw x t c0 hp0 hC0 h0 G z hz S) G.1 (hw _ (List.mem_of_getElem? (i := 52) rfl)) (hw _ (List.mem_of_getElem? (i := 53) rfl)) (fun _ hZ => notFace_of_selects (args := #[]) (mvT hZ (hw _ (List.mem_of_getElem? (i := 55) rfl)))) (hw _ (List.mem_of_getElem? (i := 55) rfl)) (hw _ (List.mem_of_getElem? (i := 54) rfl)) (hw _ (List.mem_of_getElem? (i := 7) rfl)) (hw _ (List.mem_of_getElem? (i := 56) rfl)) (by decide) rfl rfl (lenOf pd_10 rfl) rfl d8_6 rfl (Nat.le_of_ble_eq_true rfl) (Nat.le_of_ble_eq_true rfl) (Nat.le_of_ble_eq_true rfl) (Nat.le_of_ble_eq_true rfl) (fun _ z => nomatch z) (fun _ z => nomatch z) (fun vq1 hq2 Kq3 qq4 => ?_)
  obtain ⟨rfl, rfl⟩ := qq4
  simp only [Option.toList, List.cons_append, List.nil_append]
  refine Rn.ishr (pc' := 10) (v := (1 : Int32)) d8_9 rfl rfl ?_
  refine Rn.retI rfl d8_10 (Nat.le_of_ble_eq_true rfl) (Nat.le_of_ble_eq_true rfl) ?_
  exact ⟨rfl, rfl⟩
set_option maxRecDepth 65536 in
set_option maxHeartbeats 40000000 in
theorem ct_i2l1 (Z : State) (a0 : Array Value) (hw : ∀ d ∈ tables_1, d.before a0 Z = true) (x t : Addr) (c0 : Int32) (hp0 : ¬ 255 < c0) (hC0 : own_C c0) (h0 : Heap) (G : Sg Z h0 x t [.int (b8 c0)]) (z : Int32) (hz : z ≠ 0) (S : Sta Z Z.heap "java/lang/String" "COMPACT_STRINGS" "Z" (.int z))(ch : Int32) (hb : b8 ch = ch) (hB : own_B ch)(UA : Sta Z Z.heap "java/lang/StringUTF16" "$assertionsDisabled" "Z" (.int (1 : Int32))) (UH : Sta Z Z.heap "java/lang/StringUTF16" "HI_BYTE_SHIFT" "I" (.int (0 : Int32))) (UL : Sta Z Z.heap "java/lang/StringUTF16" "LO_BYTE_SHIFT" "I" (.int (8 : Int32)))(f : Value) (hf : f.isRef = true) (SF : Sta Z Z.heap "jdk/internal/util/Preconditions" "SIOOBE_FORMATTER" "Ljava/util/function/BiFunction;" f) :
    Ct Z ⟨"java/lang/String", "indexOf", "(II)I"⟩ jdk_42_method_80_code 3 (Option.some FieldType.int) ({ frames := 2, cells := 0, slots := 0, locals := 32 } : Room) #[(.ref x), (.int ch), (.int (0 : Int32))] h0 [] (fun v h => (∃ r, v = some (.int r) ∧ (r < 0 ↔ ¬ (c0 = ch))) ∧ h0 = h) := by
  refine Ct.intro (Ls := #[.val (.ref x), .val (.int ch), .val (.int (0 : Int32))]) (plainFor_of_name pn_4) (by intro m; first | (simp [entryFrame, mkF, argsToLocals, Value.category]; done) | rfl) ?_
  refine Rn.aloadN (pc' := 1) d6_0 rfl rfl rfl ?_
  refine Rn.callV (pc' := 4) (argsL := []) (a := x) (rest := []) (ct_ill1 Z a0 hw x t c0 hp0 hC0 h0 G z hz S) G.1 (hw _ (List.mem_of_getElem? (i := 41) rfl)) (hw _ (List.mem_of_getElem? (i := 42) rfl)) (fun _ hZ => notFace_of_selects (args := #[]) (mvT hZ (hw _ (List.mem_of_getElem? (i := 44) rfl)))) (hw _ (List.mem_of_getElem? (i := 44) rfl)) (hw _ (List.mem_of_getElem? (i := 43) rfl)) (hw _ (List.mem_of_getElem? (i := 7) rfl)) (hw _ (List.mem_of_getElem? (i := 45) rfl)) (by decide) rfl rfl (lenOf pd_11 rfl) rfl d6_1 rfl (Nat.le_of_ble_eq_true rfl) (Nat.le_of_ble_eq_true rfl) (Nat.le_of_ble_eq_true rfl) (Nat.le_of_ble_eq_true rfl) (fun _ z => nomatch z) (fun _ z => nomatch z) (fun vq1 hq2 Kq3 qq4 => ?_)
  obtain ⟨rfl, rfl⟩ := qq4
  simp only [Option.toList, List.cons_append, List.nil_append]
  refine Rn.if_eq (pc' := 23) (pn := 7) d6_4 (by decide) (by decide) rfl (fun cq5 => absurd cq5 (by decide)) (fun cq5 => ?_)
  refine Rn.aloadN (pc' := 8) d6_7 rfl rfl rfl ?_
  refine Rn.getF (pc' := 11) (host := "") (Or.inl (hw _ (List.mem_of_getElem? (i := 25) rfl))) Via.refl G.2.2.1 d6_8 rfl ?_
  refine Rn.iloadN (pc' := 12) d6_11 rfl rfl ?_
  refine Rn.iloadN (pc' := 13) d6_12 rfl rfl ?_
  refine Rn.aloadN (pc' := 14) d6_13 rfl rfl rfl ?_
  refine Rn.callV (pc' := 17) (argsL := []) (a := x) (rest := [.int (0 : Int32), .int ch, .ref t]) (ct_lnl1 Z a0 hw x t c0 hp0 hC0 h0 G z hz S) G.1 (hw _ (List.mem_of_getElem? (i := 47) rfl)) (hw _ (List.mem_of_getElem? (i := 48) rfl)) (fun _ hZ => notFace_of_selects (args := #[]) (mvT hZ (hw _ (List.mem_of_getElem? (i := 50) rfl)))) (hw _ (List.mem_of_getElem? (i := 50) rfl)) (hw _ (List.mem_of_getElem? (i := 49) rfl)) (hw _ (List.mem_of_getElem? (i := 7) rfl)) (hw _ (List.mem_of_getElem? (i := 51) rfl)) (by decide) rfl rfl (lenOf pd_12 rfl) rfl d6_14 rfl (Nat.le_of_ble_eq_true rfl) (Nat.le_of_ble_eq_true rfl) (Nat.le_of_ble_eq_true rfl) (Nat.le_of_ble_eq_true rfl) (fun _ z => nomatch z) (fun _ z => nomatch z) (fun vq6 hq7 Kq8 qq9 => ?_)
  obtain ⟨rfl, rfl⟩ := qq9
  simp only [Option.toList, List.cons_append, List.nil_append]
  refine Rn.callS (pc' := 20) (argsL := [.ref t, .int ch, .int (0 : Int32), .int (1 : Int32)]) (rest := []) (ct_ixl1 Z a0 hw t c0 hp0 hC0 h0 G.2.2.2 ch hb hB) (hw _ (List.mem_of_getElem? (i := 57) rfl)) (hw _ (List.mem_of_getElem? (i := 58) rfl)) (hw _ (List.mem_of_getElem? (i := 59) rfl)) (hw _ (List.mem_of_getElem? (i := 60) rfl)) (by decide) rfl rfl (lenOf pd_13 rfl) rfl d6_17 rfl (Nat.le_of_ble_eq_true rfl) (Nat.le_of_ble_eq_true rfl) (Nat.le_of_ble_eq_true rfl) (Nat.le_of_ble_eq_true rfl) (fun _ z => nomatch z) (fun _ z => nomatch z) (fun vq10 hq11 Kq12 qq13 => ?_)
  obtain ⟨⟨r, rfl, hr⟩, rfl⟩ := qq13
  simp only [Option.toList, List.cons_append, List.nil_append]
  refine Rn.goto (pc' := 36) d6_20 (by decide) (by decide) ?_
  refine Rn.retI rfl d6_36 (Nat.le_of_ble_eq_true rfl) (Nat.le_of_ble_eq_true rfl) ?_
  exact ⟨⟨r, rfl, hr⟩, rfl⟩
set_option maxRecDepth 65536 in
set_option maxHeartbeats 40000000 in
theorem ct_i1l1 (Z : State) (a0 : Array Value) (hw : ∀ d ∈ tables_1, d.before a0 Z = true) (x t : Addr) (c0 : Int32) (hp0 : ¬ 255 < c0) (hC0 : own_C c0) (h0 : Heap) (G : Sg Z h0 x t [.int (b8 c0)]) (z : Int32) (hz : z ≠ 0) (S : Sta Z Z.heap "java/lang/String" "COMPACT_STRINGS" "Z" (.int z))(ch : Int32) (hb : b8 ch = ch) (hB : own_B ch)(UA : Sta Z Z.heap "java/lang/StringUTF16" "$assertionsDisabled" "Z" (.int (1 : Int32))) (UH : Sta Z Z.heap "java/lang/StringUTF16" "HI_BYTE_SHIFT" "I" (.int (0 : Int32))) (UL : Sta Z Z.heap "java/lang/StringUTF16" "LO_BYTE_SHIFT" "I" (.int (8 : Int32)))(f : Value) (hf : f.isRef = true) (SF : Sta Z Z.heap "jdk/internal/util/Preconditions" "SIOOBE_FORMATTER" "Ljava/util/function/BiFunction;" f) :
    Ct Z ⟨"java/lang/String", "indexOf", "(I)I"⟩ jdk_42_method_79_code 2 (Option.some FieldType.int) ({ frames := 3, cells := 0, slots := 0, locals := 46 } : Room) #[(.ref x), (.int ch)] h0 [] (fun v h => (∃ r, v = some (.int r) ∧ (r < 0 ↔ ¬ (c0 = ch))) ∧ h0 = h) := by
  refine Ct.intro (Ls := #[.val (.ref x), .val (.int ch)]) (plainFor_of_name pn_4) (by intro m; first | (simp [entryFrame, mkF, argsToLocals, Value.category]; done) | rfl) ?_
  refine Rn.aloadN (pc' := 1) d5_0 rfl rfl rfl ?_
  refine Rn.iloadN (pc' := 2) d5_1 rfl rfl ?_
  refine Rn.iconst (pc' := 3) (v := (0 : Int32)) d5_2 rfl rfl ?_
  refine Rn.callV (pc' := 6) (argsL := [.int ch, .int (0 : Int32)]) (a := x) (rest := []) (ct_i2l1 Z a0 hw x t c0 hp0 hC0 h0 G z hz S ch hb hB UA UH UL f hf SF) G.1 (hw _ (List.mem_of_getElem? (i := 36) rfl)) (hw _ (List.mem_of_getElem? (i := 37) rfl)) (fun _ hZ => notFace_of_selects (args := #[]) (mvT hZ (hw _ (List.mem_of_getElem? (i := 39) rfl)))) (hw _ (List.mem_of_getElem? (i := 39) rfl)) (hw _ (List.mem_of_getElem? (i := 38) rfl)) (hw _ (List.mem_of_getElem? (i := 7) rfl)) (hw _ (List.mem_of_getElem? (i := 40) rfl)) (by decide) rfl rfl (lenOf pd_9 rfl) rfl d5_3 rfl (Nat.le_of_ble_eq_true rfl) (Nat.le_of_ble_eq_true rfl) (Nat.le_of_ble_eq_true rfl) (Nat.le_of_ble_eq_true rfl) (fun _ z => nomatch z) (fun _ z => nomatch z) (fun vq1 hq2 Kq3 qq4 => ?_)
  obtain ⟨⟨r, rfl, hr⟩, rfl⟩ := qq4
  simp only [Option.toList, List.cons_append, List.nil_append]
  refine Rn.retI rfl d5_6 (Nat.le_of_ble_eq_true rfl) (Nat.le_of_ble_eq_true rfl) ?_
  exact ⟨⟨r, rfl, hr⟩, rfl⟩
set_option maxRecDepth 65536 in
set_option maxHeartbeats 40000000 in
theorem ct_chhl1 (Z : State) (a0 : Array Value) (hw : ∀ d ∈ tables_1, d.before a0 Z = true) (x t : Addr) (c0 : Int32) (hp0 : ¬ 255 < c0) (hC0 : own_C c0) (h0 : Heap) (G : Sg Z h0 x t [.int (b8 c0)]) (z : Int32) (hz : z ≠ 0) (S : Sta Z Z.heap "java/lang/String" "COMPACT_STRINGS" "Z" (.int z))(UA : Sta Z Z.heap "java/lang/StringUTF16" "$assertionsDisabled" "Z" (.int (1 : Int32))) (UH : Sta Z Z.heap "java/lang/StringUTF16" "HI_BYTE_SHIFT" "I" (.int (0 : Int32))) (UL : Sta Z Z.heap "java/lang/StringUTF16" "LO_BYTE_SHIFT" "I" (.int (8 : Int32)))(f : Value) (hf : f.isRef = true) (SF : Sta Z Z.heap "jdk/internal/util/Preconditions" "SIOOBE_FORMATTER" "Ljava/util/function/BiFunction;" f) :
    Ct Z ⟨"com/example/fleet_quant/fleetquant/io/TableCells", "canHold", "(Ljava/lang/String;)Z"⟩ prog_28_method_2_code 1 (Option.some FieldType.boolean) ({ frames := 9, cells := 0, slots := 0, locals := 140 } : Room) #[(.ref x)] h0 [] (fun v h => v = some (.int (if own_ok c0 then 1 else 0)) ∧ h0 = h) := by
  refine Ct.intro (Ls := #[.val (.ref x)]) (plainFor_of_name pn_6) (by intro m; first | (simp [entryFrame, mkF, argsToLocals, Value.category]; done) | rfl) ?_
  refine Rn.aloadN (pc' := 1) d4_0 rfl rfl rfl ?_
  refine Rn.bipush (pc' := 3) (v := (9 : Int32)) d4_1 rfl rfl ?_
  refine Rn.callV (pc' := 6) (argsL := [.int (9 : Int32)]) (a := x) (rest := []) (ct_i1l1 Z a0 hw x t c0 hp0 hC0 h0 G z hz S 9 rfl own_k9 UA UH UL f hf SF) G.1 (hw _ (List.mem_of_getElem? (i := 31) rfl)) (hw _ (List.mem_of_getElem? (i := 32) rfl)) (fun _ hZ => notFace_of_selects (args := #[]) (mvT hZ (hw _ (List.mem_of_getElem? (i := 34) rfl)))) (hw _ (List.mem_of_getElem? (i := 34) rfl)) (hw _ (List.mem_of_getElem? (i := 33) rfl)) (hw _ (List.mem_of_getElem? (i := 7) rfl)) (hw _ (List.mem_of_getElem? (i := 35) rfl)) (by decide) rfl rfl (lenOf pd_0 rfl) rfl d4_3 rfl (Nat.le_of_ble_eq_true rfl) (Nat.le_of_ble_eq_true rfl) (Nat.le_of_ble_eq_true rfl) (Nat.le_of_ble_eq_true rfl) (fun _ z => nomatch z) (fun _ z => nomatch z) (fun vq1 hq2 Kq3 qq4 => ?_)
  obtain ⟨⟨r9, rfl, hr9⟩, rfl⟩ := qq4
  simp only [Option.toList, List.cons_append, List.nil_append]
  refine Rn.if_ge (pc' := 31) (pn := 9) d4_6 (by decide) (by decide) rfl (fun cq5 => ?_) (fun cq5 => ?_)
  ·
    refine Rn.iconst (pc' := 32) (v := (0 : Int32)) d4_31 rfl rfl ?_
    refine Rn.retN (t := .boolean) rfl (by simp) d4_32 (Nat.le_of_ble_eq_true rfl) (Nat.le_of_ble_eq_true rfl) ?_
    refine ⟨?_, rfl⟩
    exact own_if_f (fun q => own_ngt cq5 (hr9.mpr (fun q' => by rcases q' with q' <;> first | exact absurd q' q.1 | exact absurd q' q.1.1 | exact absurd q' q.2.1 | exact absurd q' q.2.1.1 | exact absurd q' q.2.2.1)))
  ·
    refine Rn.aloadN (pc' := 10) d4_9 rfl rfl rfl ?_
    refine Rn.bipush (pc' := 12) (v := (10 : Int32)) d4_10 rfl rfl ?_
    refine Rn.callV (pc' := 15) (argsL := [.int (10 : Int32)]) (a := x) (rest := []) (ct_i1l1 Z a0 hw x t c0 hp0 hC0 h0 G z hz S 10 rfl own_k10 UA UH UL f hf SF) G.1 (hw _ (List.mem_of_getElem? (i := 31) rfl)) (hw _ (List.mem_of_getElem? (i := 32) rfl)) (fun _ hZ => notFace_of_selects (args := #[]) (mvT hZ (hw _ (List.mem_of_getElem? (i := 34) rfl)))) (hw _ (List.mem_of_getElem? (i := 34) rfl)) (hw _ (List.mem_of_getElem? (i := 33) rfl)) (hw _ (List.mem_of_getElem? (i := 7) rfl)) (hw _ (List.mem_of_getElem? (i := 35) rfl)) (by decide) rfl rfl (lenOf pd_0 rfl) rfl d4_12 rfl (Nat.le_of_ble_eq_true rfl) (Nat.le_of_ble_eq_true rfl) (Nat.le_of_ble_eq_true rfl) (Nat.le_of_ble_eq_true rfl) (fun _ z => nomatch z) (fun _ z => nomatch z) (fun vq6 hq7 Kq8 qq9 => ?_)
    obtain ⟨⟨r10, rfl, hr10⟩, rfl⟩ := qq9
    simp only [Option.toList, List.cons_append, List.nil_append]
    refine Rn.if_ge (pc' := 31) (pn := 18) d4_15 (by decide) (by decide) rfl (fun cq10 => ?_) (fun cq10 => ?_)
    ·
      refine Rn.iconst (pc' := 32) (v := (0 : Int32)) d4_31 rfl rfl ?_
      refine Rn.retN (t := .boolean) rfl (by simp) d4_32 (Nat.le_of_ble_eq_true rfl) (Nat.le_of_ble_eq_true rfl) ?_
      refine ⟨?_, rfl⟩
      exact own_if_f (fun q => own_ngt cq10 (hr10.mpr (fun q' => by rcases q' with q' <;> first | exact absurd q' q.2.1 | exact absurd q' q.1.2.1 | exact absurd q' q.2.2.1 | exact absurd q' q.2.1.2.1 | exact absurd q' q.2.2.2.1)))
    ·
      refine Rn.aloadN (pc' := 19) d4_18 rfl rfl rfl ?_
      refine Rn.bipush (pc' := 21) (v := (13 : Int32)) d4_19 rfl rfl ?_
      refine Rn.callV (pc' := 24) (argsL := [.int (13 : Int32)]) (a := x) (rest := []) (ct_i1l1 Z a0 hw x t c0 hp0 hC0 h0 G z hz S 13 rfl own_k13 UA UH UL f hf SF) G.1 (hw _ (List.mem_of_getElem? (i := 31) rfl)) (hw _ (List.mem_of_getElem? (i := 32) rfl)) (fun _ hZ => notFace_of_selects (args := #[]) (mvT hZ (hw _ (List.mem_of_getElem? (i := 34) rfl)))) (hw _ (List.mem_of_getElem? (i := 34) rfl)) (hw _ (List.mem_of_getElem? (i := 33) rfl)) (hw _ (List.mem_of_getElem? (i := 7) rfl)) (hw _ (List.mem_of_getElem? (i := 35) rfl)) (by decide) rfl rfl (lenOf pd_0 rfl) rfl d4_21 rfl (Nat.le_of_ble_eq_true rfl) (Nat.le_of_ble_eq_true rfl) (Nat.le_of_ble_eq_true rfl) (Nat.le_of_ble_eq_true rfl) (fun _ z => nomatch z) (fun _ z => nomatch z) (fun vq11 hq12 Kq13 qq14 => ?_)
      obtain ⟨⟨r13, rfl, hr13⟩, rfl⟩ := qq14
      simp only [Option.toList, List.cons_append, List.nil_append]
      refine Rn.if_ge (pc' := 31) (pn := 27) d4_24 (by decide) (by decide) rfl (fun cq15 => ?_) (fun cq15 => ?_)
      ·
        refine Rn.iconst (pc' := 32) (v := (0 : Int32)) d4_31 rfl rfl ?_
        refine Rn.retN (t := .boolean) rfl (by simp) d4_32 (Nat.le_of_ble_eq_true rfl) (Nat.le_of_ble_eq_true rfl) ?_
        refine ⟨?_, rfl⟩
        exact own_if_f (fun q => own_ngt cq15 (hr13.mpr (fun q' => by rcases q' with q' <;> first | exact absurd q' q.2.2 | exact absurd q' q.1.2.2 | exact absurd q' q.2.2.2 | exact absurd q' q.2.1.2.2 | exact absurd q' q.2.2.2.2)))
      ·
        refine Rn.iconst (pc' := 28) (v := (1 : Int32)) d4_27 rfl rfl ?_
        refine Rn.goto (pc' := 32) d4_28 (by decide) (by decide) ?_
        refine Rn.retN (t := .boolean) rfl (by simp) d4_32 (Nat.le_of_ble_eq_true rfl) (Nat.le_of_ble_eq_true rfl) ?_
        refine ⟨?_, rfl⟩
        exact own_if_t ⟨fun q => (hr9.mp (own_nge cq5)) (q), fun q => (hr10.mp (own_nge cq10)) (q), fun q => (hr13.mp (own_nge cq15)) (q)⟩
theorem d30_0 : decode jdk_52_method_48_code 0 = .ok (.iload_n 2, 1) := by decide +kernel
theorem d30_1 : decode jdk_52_method_48_code 1 = .ok (.istore 4, 2) := by decide +kernel
theorem d30_3 : decode jdk_52_method_48_code 3 = .ok (.iload 4, 2) := by decide +kernel
theorem d30_5 : decode jdk_52_method_48_code 5 = .ok (.iload_n 3, 1) := by decide +kernel
theorem d30_6 : decode jdk_52_method_48_code 6 = .ok (.if_icmp .ge 22, 3) := by decide +kernel
theorem d30_9 : decode jdk_52_method_48_code 9 = .ok (.aload_n 0, 1) := by decide +kernel
theorem d30_10 : decode jdk_52_method_48_code 10 = .ok (.iload 4, 2) := by decide +kernel
theorem d30_12 : decode jdk_52_method_48_code 12 = .ok (.invokestatic 71, 3) := by decide +kernel
theorem d30_15 : decode jdk_52_method_48_code 15 = .ok (.iload_n 1, 1) := by decide +kernel
theorem d30_16 : decode jdk_52_method_48_code 16 = .ok (.if_icmp .ne 6, 3) := by decide +kernel
theorem d30_19 : decode jdk_52_method_48_code 19 = .ok (.iload 4, 2) := by decide +kernel
theorem d30_21 : decode jdk_52_method_48_code 21 = .ok (.ireturn, 1) := by decide +kernel
theorem d30_22 : decode jdk_52_method_48_code 22 = .ok (.iinc 4 1, 3) := by decide +kernel
theorem d30_25 : decode jdk_52_method_48_code 25 = .ok (.goto (-22), 3) := by decide +kernel
theorem d30_28 : decode jdk_52_method_48_code 28 = .ok (.iconst (-1), 1) := by decide +kernel
theorem d30_29 : decode jdk_52_method_48_code 29 = .ok (.ireturn, 1) := by decide +kernel
set_option maxRecDepth 65536 in
set_option maxHeartbeats 40000000 in
theorem ct_iouu1 (Z : State) (a0 : Array Value) (hw : ∀ d ∈ tables_1, d.before a0 Z = true) (t : Addr) (c0 : Int32) (hC0 : own_C c0) (h0 : Heap) (A : Ax Z h0 t .byte [.int (b8 c0), .int (b8 (own_hi c0))]) (ch : Int32) (hb : b8 ch = ch) (hB : own_B ch)(UA : Sta Z Z.heap "java/lang/StringUTF16" "$assertionsDisabled" "Z" (.int (1 : Int32))) (UH : Sta Z Z.heap "java/lang/StringUTF16" "HI_BYTE_SHIFT" "I" (.int (0 : Int32))) (UL : Sta Z Z.heap "java/lang/StringUTF16" "LO_BYTE_SHIFT" "I" (.int (8 : Int32))) :
    Ct Z ⟨"java/lang/StringUTF16", "indexOfCharUnsafe", "([BIII)I"⟩ jdk_52_method_48_code 5 (Option.some FieldType.int) ({ frames := 1, cells := 0, slots := 0, locals := 13 } : Room) #[(.ref t), (.int ch), (.int (0 : Int32)), (.int (1 : Int32))] h0 [] (fun v h => (∃ r, v = some (.int r) ∧ (r < 0 ↔ ¬ (c0 = ch))) ∧ h0 = h) := by
  refine Ct.intro (Ls := #[.val (.ref t), .val (.int ch), .val (.int (0 : Int32)), .val (.int (1 : Int32)), .unset]) (plainFor_of_name pn_3) (by intro m; first | (simp [entryFrame, mkF, argsToLocals, Value.category]; done) | rfl) ?_
  refine Rn.iloadN (pc' := 1) d30_0 rfl rfl ?_
  refine Rn.istore (pc' := 3) (Ls' := #[.val (.ref t), .val (.int ch), .val (.int (0 : Int32)), .val (.int (1 : Int32)), .val (.int (0 : Int32))]) d30_1 rfl rfl ?_
  refine Rn.iload (pc' := 5) d30_3 rfl rfl ?_
  refine Rn.iloadN (pc' := 6) d30_5 rfl rfl ?_
  refine Rn.icmp_ge (pc' := 28) (pn := 9) d30_6 (by decide) (by decide) rfl (fun cq1 => absurd cq1 (by decide)) (fun cq1 => ?_)
  refine Rn.aloadN (pc' := 10) d30_9 rfl rfl rfl ?_
  refine Rn.iload (pc' := 12) d30_10 rfl rfl ?_
  refine Rn.callS (pc' := 15) (argsL := [.ref t, .int (0 : Int32)]) (rest := []) (ct_gch1_0 Z a0 hw t c0 hC0 h0 A UA UH UL) (hw _ (List.mem_of_getElem? (i := 103) rfl)) (hw _ (List.mem_of_getElem? (i := 104) rfl)) (hw _ (List.mem_of_getElem? (i := 73) rfl)) (hw _ (List.mem_of_getElem? (i := 105) rfl)) (by decide) rfl rfl (lenOf pd_5 rfl) rfl d30_12 rfl (Nat.le_of_ble_eq_true rfl) (Nat.le_of_ble_eq_true rfl) (Nat.le_of_ble_eq_true rfl) (Nat.le_of_ble_eq_true rfl) (fun _ z => nomatch z) (fun _ z => nomatch z) (fun vq2 hq3 Kq4 qq5 => ?_)
  obtain ⟨rfl, rfl⟩ := qq5
  simp only [Option.toList, List.cons_append, List.nil_append]
  refine Rn.iloadN (pc' := 16) d30_15 rfl rfl ?_
  refine Rn.icmp_ne (pc' := 22) (pn := 19) d30_16 (by decide) (by decide) rfl (fun cq6 => ?_) (fun cq6 => ?_)
  ·
    refine Rn.iinc (pc' := 25) (v := (1 : Int32)) (Ls' := #[.val (.ref t), .val (.int ch), .val (.int (0 : Int32)), .val (.int (1 : Int32)), .val (.int (1 : Int32))]) d30_22 rfl rfl rfl rfl ?_
    refine Rn.goto (pc' := 3) d30_25 (by decide) (by decide) ?_
    refine Rn.iload (pc' := 5) d30_3 rfl rfl ?_
    refine Rn.iloadN (pc' := 6) d30_5 rfl rfl ?_
    refine Rn.icmp_ge (pc' := 28) (pn := 9) d30_6 (by decide) (by decide) rfl (fun cq7 => ?_) (fun cq7 => absurd cq7 (by decide))
    refine Rn.iconst (pc' := 29) (v := (-1 : Int32)) d30_28 rfl rfl ?_
    refine Rn.retI rfl d30_29 (Nat.le_of_ble_eq_true rfl) (Nat.le_of_ble_eq_true rfl) ?_
    refine ⟨⟨_, rfl, ⟨fun _ q => ?_, fun _ => by decide⟩⟩, rfl⟩
    rcases q with q
    · exact cq6 q
  ·
    refine Rn.iload (pc' := 21) d30_19 rfl rfl ?_
    refine Rn.retI rfl d30_21 (Nat.le_of_ble_eq_true rfl) (Nat.le_of_ble_eq_true rfl) ?_
    exact ⟨⟨_, rfl, ⟨fun q => absurd q (by decide), fun q => absurd ((cq6)) q⟩⟩, rfl⟩
theorem d27_0 : decode jdk_52_method_6_code 0 = .ok (.aload_n 0, 1) := by decide +kernel
theorem d27_1 : decode jdk_52_method_6_code 1 = .ok (.arraylength, 1) := by decide +kernel
theorem d27_2 : decode jdk_52_method_6_code 2 = .ok (.iconst 1, 1) := by decide +kernel
theorem d27_3 : decode jdk_52_method_6_code 3 = .ok (.ishr, 1) := by decide +kernel
theorem d27_4 : decode jdk_52_method_6_code 4 = .ok (.ireturn, 1) := by decide +kernel
set_option maxRecDepth 65536 in
set_option maxHeartbeats 40000000 in
theorem ct_ulu1 (Z : State) (a0 : Array Value) (hw : ∀ d ∈ tables_1, d.before a0 Z = true) (t : Addr) (c0 : Int32) (hC0 : own_C c0) (h0 : Heap) (A : Ax Z h0 t .byte [.int (b8 c0), .int (b8 (own_hi c0))]) (ch : Int32) (hb : b8 ch = ch) (hB : own_B ch) :
    Ct Z ⟨"java/lang/StringUTF16", "length", "([B)I"⟩ jdk_52_method_6_code 1 (Option.some FieldType.int) ({ frames := 0, cells := 0, slots := 0, locals := 0 } : Room) #[(.ref t)] h0 [] (fun v h => v = some (.int (1 : Int32)) ∧ h0 = h) := by
  refine Ct.intro (Ls := #[.val (.ref t)]) (plainFor_of_name pn_3) (by intro m; first | (simp [entryFrame, mkF, argsToLocals, Value.category]; done) | rfl) ?_
  refine Rn.aloadN (pc' := 1) d27_0 rfl rfl rfl ?_
  refine Rn.arraylength (pc' := 2) (n := (2 : Int32)) A rfl d27_1 rfl ?_
  refine Rn.iconst (pc' := 3) (v := (1 : Int32)) d27_2 rfl rfl ?_
  refine Rn.ishr (pc' := 4) (v := (1 : Int32)) d27_3 rfl rfl ?_
  refine Rn.retI rfl d27_4 (Nat.le_of_ble_eq_true rfl) (Nat.le_of_ble_eq_true rfl) ?_
  exact ⟨rfl, rfl⟩
theorem d29_0 : decode jdk_41_method_12_code 0 = .ok (.iload_n 0, 1) := by decide +kernel
theorem d29_1 : decode jdk_41_method_12_code 1 = .ok (.ifCond .lt 13, 3) := by decide +kernel
theorem d29_4 : decode jdk_41_method_12_code 4 = .ok (.iload_n 0, 1) := by decide +kernel
theorem d29_5 : decode jdk_41_method_12_code 5 = .ok (.iload_n 1, 1) := by decide +kernel
theorem d29_6 : decode jdk_41_method_12_code 6 = .ok (.if_icmp .gt 8, 3) := by decide +kernel
theorem d29_9 : decode jdk_41_method_12_code 9 = .ok (.iload_n 1, 1) := by decide +kernel
theorem d29_10 : decode jdk_41_method_12_code 10 = .ok (.iload_n 2, 1) := by decide +kernel
theorem d29_11 : decode jdk_41_method_12_code 11 = .ok (.if_icmp .le 11, 3) := by decide +kernel
theorem d29_14 : decode jdk_41_method_12_code 14 = .ok (.aload_n 3, 1) := by decide +kernel
theorem d29_15 : decode jdk_41_method_12_code 15 = .ok (.iload_n 0, 1) := by decide +kernel
theorem d29_16 : decode jdk_41_method_12_code 16 = .ok (.iload_n 1, 1) := by decide +kernel
theorem d29_17 : decode jdk_41_method_12_code 17 = .ok (.iload_n 2, 1) := by decide +kernel
theorem d29_18 : decode jdk_41_method_12_code 18 = .ok (.invokestatic 99, 3) := by decide +kernel
theorem d29_21 : decode jdk_41_method_12_code 21 = .ok (.athrow, 1) := by decide +kernel
theorem d29_22 : decode jdk_41_method_12_code 22 = .ok (.iload_n 0, 1) := by decide +kernel
theorem d29_23 : decode jdk_41_method_12_code 23 = .ok (.ireturn, 1) := by decide +kernel
set_option maxRecDepth 65536 in
set_option maxHeartbeats 40000000 in
theorem ct_cftA1 (Z : State) (a0 : Array Value) (hw : ∀ d ∈ tables_1, d.before a0 Z = true) (f : Addr) (h0 : Heap) :
    Ct Z ⟨"jdk/internal/util/Preconditions", "checkFromToIndex", "(IIILjava/util/function/BiFunction;)I"⟩ jdk_41_method_12_code 4 (Option.some FieldType.int) ({ frames := 0, cells := 0, slots := 0, locals := 0 } : Room) #[(.int (0 : Int32)), (.int (1 : Int32)), (.int (1 : Int32)), (.ref f)] h0 [] (fun v h => v = some (.int (0 : Int32)) ∧ h0 = h) := by
  refine Ct.intro (Ls := #[.val (.int (0 : Int32)), .val (.int (1 : Int32)), .val (.int (1 : Int32)), .val (.ref f)]) (plainFor_of_name pn_7) (by intro m; first | (simp [entryFrame, mkF, argsToLocals, Value.category]; done) | rfl) ?_
  refine Rn.iloadN (pc' := 1) d29_0 rfl rfl ?_
  refine Rn.if_lt (pc' := 14) (pn := 4) d29_1 (by decide) (by decide) rfl (fun cq1 => absurd cq1 (by decide)) (fun cq1 => ?_)
  refine Rn.iloadN (pc' := 5) d29_4 rfl rfl ?_
  refine Rn.iloadN (pc' := 6) d29_5 rfl rfl ?_
  refine Rn.icmp_gt (pc' := 14) (pn := 9) d29_6 (by decide) (by decide) rfl (fun cq2 => absurd cq2 (by decide)) (fun cq2 => ?_)
  refine Rn.iloadN (pc' := 10) d29_9 rfl rfl ?_
  refine Rn.iloadN (pc' := 11) d29_10 rfl rfl ?_
  refine Rn.icmp_le (pc' := 22) (pn := 14) d29_11 (by decide) (by decide) rfl (fun cq3 => ?_) (fun cq3 => absurd cq3 (by decide))
  refine Rn.iloadN (pc' := 23) d29_22 rfl rfl ?_
  refine Rn.retI rfl d29_23 (Nat.le_of_ble_eq_true rfl) (Nat.le_of_ble_eq_true rfl) ?_
  exact ⟨rfl, rfl⟩
theorem d28_0 : decode jdk_42_method_158_code 0 = .ok (.iload_n 0, 1) := by decide +kernel
theorem d28_1 : decode jdk_42_method_158_code 1 = .ok (.iload_n 1, 1) := by decide +kernel
theorem d28_2 : decode jdk_42_method_158_code 2 = .ok (.iload_n 2, 1) := by decide +kernel
theorem d28_3 : decode jdk_42_method_158_code 3 = .ok (.getstatic 1053, 3) := by decide +kernel
theorem d28_6 : decode jdk_42_method_158_code 6 = .ok (.invokestatic 1062, 3) := by decide +kernel
theorem d28_9 : decode jdk_42_method_158_code 9 = .ok (.pop, 1) := by decide +kernel
theorem d28_10 : decode jdk_42_method_158_code 10 = .ok (.return_, 1) := by decide +kernel
set_option maxRecDepth 65536 in
set_option maxHeartbeats 40000000 in
theorem ct_cbeA1 (Z : State) (a0 : Array Value) (hw : ∀ d ∈ tables_1, d.before a0 Z = true) (f : Addr) (h0 : Heap) (SF : Sta Z Z.heap "jdk/internal/util/Preconditions" "SIOOBE_FORMATTER" "Ljava/util/function/BiFunction;" (.ref f)) :
    Ct Z ⟨"java/lang/String", "checkBoundsBeginEnd", "(III)V"⟩ jdk_42_method_158_code 3 (Option.none : Option FieldType) ({ frames := 1, cells := 0, slots := 0, locals := 15 } : Room) #[(.int (0 : Int32)), (.int (1 : Int32)), (.int (1 : Int32))] h0 [] (fun v h => v = none ∧ h0 = h) := by
  refine Ct.intro (Ls := #[.val (.int (0 : Int32)), .val (.int (1 : Int32)), .val (.int (1 : Int32))]) (plainFor_of_name pn_4) (by intro m; first | (simp [entryFrame, mkF, argsToLocals, Value.category]; done) | rfl) ?_
  refine Rn.iloadN (pc' := 1) d28_0 rfl rfl ?_
  refine Rn.iloadN (pc' := 2) d28_1 rfl rfl ?_
  refine Rn.iloadN (pc' := 3) d28_2 rfl rfl ?_
  refine Rn.old fun Oq1 _ => ?_
  refine Rn.getS (pc' := 6) (hw _ (List.mem_of_getElem? (i := 124) rfl)) Via.refl (SF.ext Oq1) d28_3 rfl ?_
  refine Rn.callS (pc' := 9) (argsL := [.int (0 : Int32), .int (1 : Int32), .int (1 : Int32), .ref f]) (rest := []) (ct_cftA1 Z a0 hw f h0) (hw _ (List.mem_of_getElem? (i := 126) rfl)) (hw _ (List.mem_of_getElem? (i := 127) rfl)) (hw _ (List.mem_of_getElem? (i := 125) rfl)) (hw _ (List.mem_of_getElem? (i := 128) rfl)) (by decide) rfl rfl (lenOf pd_14 rfl) rfl d28_6 rfl (Nat.le_of_ble_eq_true rfl) (Nat.le_of_ble_eq_true rfl) (Nat.le_of_ble_eq_true rfl) (Nat.le_of_ble_eq_true rfl) (fun _ z => nomatch z) (fun _ z => nomatch z) (fun vq2 hq3 Kq4 qq5 => ?_)
  obtain ⟨rfl, rfl⟩ := qq5
  simp only [Option.toList, List.cons_append, List.nil_append]
  refine Rn.pop (pc' := 10) d28_9 rfl rfl ?_
  refine Rn.retV rfl d28_10 (Nat.le_of_ble_eq_true rfl) (Nat.le_of_ble_eq_true rfl) ?_
  exact ⟨rfl, rfl⟩
set_option maxRecDepth 65536 in
set_option maxHeartbeats 40000000 in
theorem ct_cftN1 (Z : State) (a0 : Array Value) (hw : ∀ d ∈ tables_1, d.before a0 Z = true) (h0 : Heap) :
    Ct Z ⟨"jdk/internal/util/Preconditions", "checkFromToIndex", "(IIILjava/util/function/BiFunction;)I"⟩ jdk_41_method_12_code 4 (Option.some FieldType.int) ({ frames := 0, cells := 0, slots := 0, locals := 0 } : Room) #[(.int (0 : Int32)), (.int (1 : Int32)), (.int (1 : Int32)), (.null)] h0 [] (fun v h => v = some (.int (0 : Int32)) ∧ h0 = h) := by
  refine Ct.intro (Ls := #[.val (.int (0 : Int32)), .val (.int (1 : Int32)), .val (.int (1 : Int32)), .val (.null)]) (plainFor_of_name pn_7) (by intro m; first | (simp [entryFrame, mkF, argsToLocals, Value.category]; done) | rfl) ?_
  refine Rn.iloadN (pc' := 1) d29_0 rfl rfl ?_
  refine Rn.if_lt (pc' := 14) (pn := 4) d29_1 (by decide) (by decide) rfl (fun cq1 => absurd cq1 (by decide)) (fun cq1 => ?_)
  refine Rn.iloadN (pc' := 5) d29_4 rfl rfl ?_
  refine Rn.iloadN (pc' := 6) d29_5 rfl rfl ?_
  refine Rn.icmp_gt (pc' := 14) (pn := 9) d29_6 (by decide) (by decide) rfl (fun cq2 => absurd cq2 (by decide)) (fun cq2 => ?_)
  refine Rn.iloadN (pc' := 10) d29_9 rfl rfl ?_
  refine Rn.iloadN (pc' := 11) d29_10 rfl rfl ?_
  refine Rn.icmp_le (pc' := 22) (pn := 14) d29_11 (by decide) (by decide) rfl (fun cq3 => ?_) (fun cq3 => absurd cq3 (by decide))
  refine Rn.iloadN (pc' := 23) d29_22 rfl rfl ?_
  refine Rn.retI rfl d29_23 (Nat.le_of_ble_eq_true rfl) (Nat.le_of_ble_eq_true rfl) ?_
  exact ⟨rfl, rfl⟩
set_option maxRecDepth 65536 in
set_option maxHeartbeats 40000000 in
theorem ct_cbeN1 (Z : State) (a0 : Array Value) (hw : ∀ d ∈ tables_1, d.before a0 Z = true) (h0 : Heap) (SF : Sta Z Z.heap "jdk/internal/util/Preconditions" "SIOOBE_FORMATTER" "Ljava/util/function/BiFunction;" (.null)) :
    Ct Z ⟨"java/lang/String", "checkBoundsBeginEnd", "(III)V"⟩ jdk_42_method_158_code 3 (Option.none : Option FieldType) ({ frames := 1, cells := 0, slots := 0, locals := 15 } : Room) #[(.int (0 : Int32)), (.int (1 : Int32)), (.int (1 : Int32))] h0 [] (fun v h => v = none ∧ h0 = h) := by
  refine Ct.intro (Ls := #[.val (.int (0 : Int32)), .val (.int (1 : Int32)), .val (.int (1 : Int32))]) (plainFor_of_name pn_4) (by intro m; first | (simp [entryFrame, mkF, argsToLocals, Value.category]; done) | rfl) ?_
  refine Rn.iloadN (pc' := 1) d28_0 rfl rfl ?_
  refine Rn.iloadN (pc' := 2) d28_1 rfl rfl ?_
  refine Rn.iloadN (pc' := 3) d28_2 rfl rfl ?_
  refine Rn.old fun Oq1 _ => ?_
  refine Rn.getS (pc' := 6) (hw _ (List.mem_of_getElem? (i := 124) rfl)) Via.refl (SF.ext Oq1) d28_3 rfl ?_
  refine Rn.callS (pc' := 9) (argsL := [.int (0 : Int32), .int (1 : Int32), .int (1 : Int32), .null]) (rest := []) (ct_cftN1 Z a0 hw h0) (hw _ (List.mem_of_getElem? (i := 126) rfl)) (hw _ (List.mem_of_getElem? (i := 127) rfl)) (hw _ (List.mem_of_getElem? (i := 125) rfl)) (hw _ (List.mem_of_getElem? (i := 128) rfl)) (by decide) rfl rfl (lenOf pd_14 rfl) rfl d28_6 rfl (Nat.le_of_ble_eq_true rfl) (Nat.le_of_ble_eq_true rfl) (Nat.le_of_ble_eq_true rfl) (Nat.le_of_ble_eq_true rfl) (fun _ z => nomatch z) (fun _ z => nomatch z) (fun vq2 hq3 Kq4 qq5 => ?_)
  obtain ⟨rfl, rfl⟩ := qq5
  simp only [Option.toList, List.cons_append, List.nil_append]
  refine Rn.pop (pc' := 10) d28_9 rfl rfl ?_
  refine Rn.retV rfl d28_10 (Nat.le_of_ble_eq_true rfl) (Nat.le_of_ble_eq_true rfl) ?_
  exact ⟨rfl, rfl⟩
theorem ct_cbe1 (Z : State) (a0 : Array Value) (hw : ∀ d ∈ tables_1, d.before a0 Z = true) (h0 : Heap) (f : Value) (hf : f.isRef = true) (SF : Sta Z Z.heap "jdk/internal/util/Preconditions" "SIOOBE_FORMATTER" "Ljava/util/function/BiFunction;" f) :
    Ct Z ⟨"java/lang/String", "checkBoundsBeginEnd", "(III)V"⟩ jdk_42_method_158_code 3 (Option.none : Option FieldType) ({ frames := 1, cells := 0, slots := 0, locals := 15 } : Room) #[(.int (0 : Int32)), (.int (1 : Int32)), (.int (1 : Int32))] h0 [] (fun v h => v = none ∧ h0 = h) := by
  rcases ref_cases hf with rfl | ⟨f, rfl⟩
  · exact ct_cbeN1 Z a0 hw h0 SF
  · exact ct_cbeA1 Z a0 hw f h0 SF
theorem d26_0 : decode jdk_52_method_93_code 0 = .ok (.iload_n 0, 1) := by decide +kernel
theorem d26_1 : decode jdk_52_method_93_code 1 = .ok (.iload_n 1, 1) := by decide +kernel
theorem d26_2 : decode jdk_52_method_93_code 2 = .ok (.aload_n 2, 1) := by decide +kernel
theorem d26_3 : decode jdk_52_method_93_code 3 = .ok (.invokestatic 48, 3) := by decide +kernel
theorem d26_6 : decode jdk_52_method_93_code 6 = .ok (.invokestatic 241, 3) := by decide +kernel
theorem d26_9 : decode jdk_52_method_93_code 9 = .ok (.return_, 1) := by decide +kernel
set_option maxRecDepth 65536 in
set_option maxHeartbeats 40000000 in
theorem ct_ucbu1 (Z : State) (a0 : Array Value) (hw : ∀ d ∈ tables_1, d.before a0 Z = true) (t : Addr) (c0 : Int32) (hC0 : own_C c0) (h0 : Heap) (A : Ax Z h0 t .byte [.int (b8 c0), .int (b8 (own_hi c0))]) (ch : Int32) (hb : b8 ch = ch) (hB : own_B ch)(f : Value) (hf : f.isRef = true) (SF : Sta Z Z.heap "jdk/internal/util/Preconditions" "SIOOBE_FORMATTER" "Ljava/util/function/BiFunction;" f) :
    Ct Z ⟨"java/lang/StringUTF16", "checkBoundsBeginEnd", "(II[B)V"⟩ jdk_52_method_93_code 3 (Option.none : Option FieldType) ({ frames := 2, cells := 0, slots := 0, locals := 29 } : Room) #[(.int (0 : Int32)), (.int (1 : Int32)), (.ref t)] h0 [] (fun v h => v = none ∧ h0 = h) := by
  refine Ct.intro (Ls := #[.val (.int (0 : Int32)), .val (.int (1 : Int32)), .val (.ref t)]) (plainFor_of_name pn_3) (by intro m; first | (simp [entryFrame, mkF, argsToLocals, Value.category]; done) | rfl) ?_
  refine Rn.iloadN (pc' := 1) d26_0 rfl rfl ?_
  refine Rn.iloadN (pc' := 2) d26_1 rfl rfl ?_
  refine Rn.aloadN (pc' := 3) d26_2 rfl rfl rfl ?_
  refine Rn.callS (pc' := 6) (argsL := [.ref t]) (rest := [.int (1 : Int32), .int (0 : Int32)]) (ct_ulu1 Z a0 hw t c0  hC0 h0 A ch hb hB) (hw _ (List.mem_of_getElem? (i := 118) rfl)) (hw _ (List.mem_of_getElem? (i := 119) rfl)) (hw _ (List.mem_of_getElem? (i := 73) rfl)) (hw _ (List.mem_of_getElem? (i := 120) rfl)) (by decide) rfl rfl (lenOf pd_15 rfl) rfl d26_3 rfl (Nat.le_of_ble_eq_true rfl) (Nat.le_of_ble_eq_true rfl) (Nat.le_of_ble_eq_true rfl) (Nat.le_of_ble_eq_true rfl) (fun _ z => nomatch z) (fun _ z => nomatch z) (fun vq1 hq2 Kq3 qq4 => ?_)
  obtain ⟨rfl, rfl⟩ := qq4
  simp only [Option.toList, List.cons_append, List.nil_append]
  refine Rn.callS (pc' := 9) (argsL := [.int (0 : Int32), .int (1 : Int32), .int (1 : Int32)]) (rest := []) (ct_cbe1 Z a0 hw h0 f hf SF) (hw _ (List.mem_of_getElem? (i := 121) rfl)) (hw _ (List.mem_of_getElem? (i := 122) rfl)) (hw _ (List.mem_of_getElem? (i := 7) rfl)) (hw _ (List.mem_of_getElem? (i := 123) rfl)) (by decide) rfl rfl (lenOf pd_16 rfl) rfl d26_6 rfl (Nat.le_of_ble_eq_true rfl) (Nat.le_of_ble_eq_true rfl) (Nat.le_of_ble_eq_true rfl) (Nat.le_of_ble_eq_true rfl) (fun _ z => nomatch z) (fun _ z => nomatch z) (fun vq5 hq6 Kq7 qq8 => ?_)
  obtain ⟨rfl, rfl⟩ := qq8
  simp only [Option.toList, List.cons_append, List.nil_append]
  refine Rn.retV rfl d26_9 (Nat.le_of_ble_eq_true rfl) (Nat.le_of_ble_eq_true rfl) ?_
  exact ⟨rfl, rfl⟩
theorem d25_0 : decode jdk_52_method_47_code 0 = .ok (.iload_n 2, 1) := by decide +kernel
theorem d25_1 : decode jdk_52_method_47_code 1 = .ok (.iload_n 3, 1) := by decide +kernel
theorem d25_2 : decode jdk_52_method_47_code 2 = .ok (.aload_n 0, 1) := by decide +kernel
theorem d25_3 : decode jdk_52_method_47_code 3 = .ok (.invokestatic 96, 3) := by decide +kernel
theorem d25_6 : decode jdk_52_method_47_code 6 = .ok (.aload_n 0, 1) := by decide +kernel
theorem d25_7 : decode jdk_52_method_47_code 7 = .ok (.iload_n 1, 1) := by decide +kernel
theorem d25_8 : decode jdk_52_method_47_code 8 = .ok (.iload_n 2, 1) := by decide +kernel
theorem d25_9 : decode jdk_52_method_47_code 9 = .ok (.iload_n 3, 1) := by decide +kernel
theorem d25_10 : decode jdk_52_method_47_code 10 = .ok (.invokestatic 244, 3) := by decide +kernel
theorem d25_13 : decode jdk_52_method_47_code 13 = .ok (.ireturn, 1) := by decide +kernel
set_option maxRecDepth 65536 in
set_option maxHeartbeats 40000000 in
theorem ct_iocu1 (Z : State) (a0 : Array Value) (hw : ∀ d ∈ tables_1, d.before a0 Z = true) (t : Addr) (c0 : Int32) (hC0 : own_C c0) (h0 : Heap) (A : Ax Z h0 t .byte [.int (b8 c0), .int (b8 (own_hi c0))]) (ch : Int32) (hb : b8 ch = ch) (hB : own_B ch)(UA : Sta Z Z.heap "java/lang/StringUTF16" "$assertionsDisabled" "Z" (.int (1 : Int32))) (UH : Sta Z Z.heap "java/lang/StringUTF16" "HI_BYTE_SHIFT" "I" (.int (0 : Int32))) (UL : Sta Z Z.heap "java/lang/StringUTF16" "LO_BYTE_SHIFT" "I" (.int (8 : Int32)))(f : Value) (hf : f.isRef = true) (SF : Sta Z Z.heap "jdk/internal/util/Preconditions" "SIOOBE_FORMATTER" "Ljava/util/function/BiFunction;" f) :
    Ct Z ⟨"java/lang/StringUTF16", "indexOfChar", "([BIII)I"⟩ jdk_52_method_47_code 4 (Option.some FieldType.int) ({ frames := 3, cells := 0, slots := 0, locals := 43 } : Room) #[(.ref t), (.int ch), (.int (0 : Int32)), (.int (1 : Int32))] h0 [] (fun v h => (∃ r, v = some (.int r) ∧ (r < 0 ↔ ¬ (c0 = ch))) ∧ h0 = h) := by
  refine Ct.intro (Ls := #[.val (.ref t), .val (.int ch), .val (.int (0 : Int32)), .val (.int (1 : Int32))]) (plainFor_of_name pn_3) (by intro m; first | (simp [entryFrame, mkF, argsToLocals, Value.category]; done) | rfl) ?_
  refine Rn.iloadN (pc' := 1) d25_0 rfl rfl ?_
  refine Rn.iloadN (pc' := 2) d25_1 rfl rfl ?_
  refine Rn.aloadN (pc' := 3) d25_2 rfl rfl rfl ?_
  refine Rn.callS (pc' := 6) (argsL := [.int (0 : Int32), .int (1 : Int32), .ref t]) (rest := []) (ct_ucbu1 Z a0 hw t c0  hC0 h0 A ch hb hB f hf SF) (hw _ (List.mem_of_getElem? (i := 115) rfl)) (hw _ (List.mem_of_getElem? (i := 116) rfl)) (hw _ (List.mem_of_getElem? (i := 73) rfl)) (hw _ (List.mem_of_getElem? (i := 117) rfl)) (by decide) rfl rfl (lenOf pd_17 rfl) rfl d25_3 rfl (Nat.le_of_ble_eq_true rfl) (Nat.le_of_ble_eq_true rfl) (Nat.le_of_ble_eq_true rfl) (Nat.le_of_ble_eq_true rfl) (fun _ z => nomatch z) (fun _ z => nomatch z) (fun vq1 hq2 Kq3 qq4 => ?_)
  obtain ⟨rfl, rfl⟩ := qq4
  simp only [Option.toList, List.cons_append, List.nil_append]
  refine Rn.aloadN (pc' := 7) d25_6 rfl rfl rfl ?_
  refine Rn.iloadN (pc' := 8) d25_7 rfl rfl ?_
  refine Rn.iloadN (pc' := 9) d25_8 rfl rfl ?_
  refine Rn.iloadN (pc' := 10) d25_9 rfl rfl ?_
  refine Rn.callS (pc' := 13) (argsL := [.ref t, .int ch, .int (0 : Int32), .int (1 : Int32)]) (rest := []) (ct_iouu1 Z a0 hw t c0  hC0 h0 A ch hb hB UA UH UL) (hw _ (List.mem_of_getElem? (i := 129) rfl)) (hw _ (List.mem_of_getElem? (i := 130) rfl)) (hw _ (List.mem_of_getElem? (i := 73) rfl)) (hw _ (List.mem_of_getElem? (i := 131) rfl)) (by decide) rfl rfl (lenOf pd_13 rfl) rfl d25_10 rfl (Nat.le_of_ble_eq_true rfl) (Nat.le_of_ble_eq_true rfl) (Nat.le_of_ble_eq_true rfl) (Nat.le_of_ble_eq_true rfl) (fun _ z => nomatch z) (fun _ z => nomatch z) (fun vq5 hq6 Kq7 qq8 => ?_)
  obtain ⟨⟨r, rfl, hr⟩, rfl⟩ := qq8
  simp only [Option.toList, List.cons_append, List.nil_append]
  refine Rn.retI rfl d25_13 (Nat.le_of_ble_eq_true rfl) (Nat.le_of_ble_eq_true rfl) ?_
  exact ⟨⟨r, rfl, hr⟩, rfl⟩
theorem d24_0 : decode jdk_52_method_40_code 0 = .ok (.iload_n 2, 1) := by decide +kernel
theorem d24_1 : decode jdk_52_method_40_code 1 = .ok (.iconst 0, 1) := by decide +kernel
theorem d24_2 : decode jdk_52_method_40_code 2 = .ok (.invokestatic 224, 3) := by decide +kernel
theorem d24_5 : decode jdk_52_method_40_code 5 = .ok (.istore_n 2, 1) := by decide +kernel
theorem d24_6 : decode jdk_52_method_40_code 6 = .ok (.iload_n 3, 1) := by decide +kernel
theorem d24_7 : decode jdk_52_method_40_code 7 = .ok (.aload_n 0, 1) := by decide +kernel
theorem d24_8 : decode jdk_52_method_40_code 8 = .ok (.arraylength, 1) := by decide +kernel
theorem d24_9 : decode jdk_52_method_40_code 9 = .ok (.iconst 1, 1) := by decide +kernel
theorem d24_10 : decode jdk_52_method_40_code 10 = .ok (.ishr, 1) := by decide +kernel
theorem d24_11 : decode jdk_52_method_40_code 11 = .ok (.invokestatic 183, 3) := by decide +kernel
theorem d24_14 : decode jdk_52_method_40_code 14 = .ok (.istore_n 3, 1) := by decide +kernel
theorem d24_15 : decode jdk_52_method_40_code 15 = .ok (.iload_n 2, 1) := by decide +kernel
theorem d24_16 : decode jdk_52_method_40_code 16 = .ok (.iload_n 3, 1) := by decide +kernel
theorem d24_17 : decode jdk_52_method_40_code 17 = .ok (.if_icmp .lt 5, 3) := by decide +kernel
theorem d24_20 : decode jdk_52_method_40_code 20 = .ok (.iconst (-1), 1) := by decide +kernel
theorem d24_21 : decode jdk_52_method_40_code 21 = .ok (.ireturn, 1) := by decide +kernel
theorem d24_22 : decode jdk_52_method_40_code 22 = .ok (.iload_n 1, 1) := by decide +kernel
theorem d24_23 : decode jdk_52_method_40_code 23 = .ok (.ldc 227, 2) := by decide +kernel
theorem d24_25 : decode jdk_52_method_40_code 25 = .ok (.if_icmp .ge 11, 3) := by decide +kernel
theorem d24_28 : decode jdk_52_method_40_code 28 = .ok (.aload_n 0, 1) := by decide +kernel
theorem d24_29 : decode jdk_52_method_40_code 29 = .ok (.iload_n 1, 1) := by decide +kernel
theorem d24_30 : decode jdk_52_method_40_code 30 = .ok (.iload_n 2, 1) := by decide +kernel
theorem d24_31 : decode jdk_52_method_40_code 31 = .ok (.iload_n 3, 1) := by decide +kernel
theorem d24_32 : decode jdk_52_method_40_code 32 = .ok (.invokestatic 228, 3) := by decide +kernel
theorem d24_35 : decode jdk_52_method_40_code 35 = .ok (.ireturn, 1) := by decide +kernel
theorem d24_36 : decode jdk_52_method_40_code 36 = .ok (.aload_n 0, 1) := by decide +kernel
theorem d24_37 : decode jdk_52_method_40_code 37 = .ok (.iload_n 1, 1) := by decide +kernel
theorem d24_38 : decode jdk_52_method_40_code 38 = .ok (.iload_n 2, 1) := by decide +kernel
theorem d24_39 : decode jdk_52_method_40_code 39 = .ok (.iload_n 3, 1) := by decide +kernel
theorem d24_40 : decode jdk_52_method_40_code 40 = .ok (.invokestatic 232, 3) := by decide +kernel
theorem d24_43 : decode jdk_52_method_40_code 43 = .ok (.ireturn, 1) := by decide +kernel
set_option maxRecDepth 65536 in
set_option maxHeartbeats 40000000 in
theorem ct_ixu1 (Z : State) (a0 : Array Value) (hw : ∀ d ∈ tables_1, d.before a0 Z = true) (t : Addr) (c0 : Int32) (hC0 : own_C c0) (h0 : Heap) (A : Ax Z h0 t .byte [.int (b8 c0), .int (b8 (own_hi c0))]) (ch : Int32) (hb : b8 ch = ch) (hB : own_B ch)(UA : Sta Z Z.heap "java/lang/StringUTF16" "$assertionsDisabled" "Z" (.int (1 : Int32))) (UH : Sta Z Z.heap "java/lang/StringUTF16" "HI_BYTE_SHIFT" "I" (.int (0 : Int32))) (UL : Sta Z Z.heap "java/lang/StringUTF16" "LO_BYTE_SHIFT" "I" (.int (8 : Int32)))(f : Value) (hf : f.isRef = true) (SF : Sta Z Z.heap "jdk/internal/util/Preconditions" "SIOOBE_FORMATTER" "Ljava/util/function/BiFunction;" f) :
    Ct Z ⟨"java/lang/StringUTF16", "indexOf", "([BIII)I"⟩ jdk_52_method_40_code 4 (Option.some FieldType.int) ({ frames := 4, cells := 0, slots := 0, locals := 58 } : Room) #[(.ref t), (.int ch), (.int (0 : Int32)), (.int (1 : Int32))] h0 [] (fun v h => (∃ r, v = some (.int r) ∧ (r < 0 ↔ ¬ (c0 = ch))) ∧ h0 = h) := by
  refine Ct.intro (Ls := #[.val (.ref t), .val (.int ch), .val (.int (0 : Int32)), .val (.int (1 : Int32))]) (plainFor_of_name pn_3) (by intro m; first | (simp [entryFrame, mkF, argsToLocals, Value.category]; done) | rfl) ?_
  refine Rn.iloadN (pc' := 1) d24_0 rfl rfl ?_
  refine Rn.iconst (pc' := 2) (v := (0 : Int32)) d24_1 rfl rfl ?_
  refine Rn.callS (pc' := 5) (argsL := [.int (0 : Int32), .int (0 : Int32)]) (rest := []) (ct_mx00 Z a0 hw h0) (hw _ (List.mem_of_getElem? (i := 109) rfl)) (hw _ (List.mem_of_getElem? (i := 65) rfl)) (hw _ (List.mem_of_getElem? (i := 66) rfl)) (hw _ (List.mem_of_getElem? (i := 67) rfl)) (by decide) rfl rfl (lenOf pd_9 rfl) rfl d24_2 rfl (Nat.le_of_ble_eq_true rfl) (Nat.le_of_ble_eq_true rfl) (Nat.le_of_ble_eq_true rfl) (Nat.le_of_ble_eq_true rfl) (fun _ z => nomatch z) (fun _ z => nomatch z) (fun vq1 hq2 Kq3 qq4 => ?_)
  obtain ⟨rfl, rfl⟩ := qq4
  simp only [Option.toList, List.cons_append, List.nil_append]
  refine Rn.istoreN (pc' := 6) (Ls' := #[.val (.ref t), .val (.int ch), .val (.int (0 : Int32)), .val (.int (1 : Int32))]) d24_5 rfl rfl ?_
  refine Rn.iloadN (pc' := 7) d24_6 rfl rfl ?_
  refine Rn.aloadN (pc' := 8) d24_7 rfl rfl rfl ?_
  refine Rn.arraylength (pc' := 9) (n := (2 : Int32)) A rfl d24_8 rfl ?_
  refine Rn.iconst (pc' := 10) (v := (1 : Int32)) d24_9 rfl rfl ?_
  refine Rn.ishr (pc' := 11) (v := (1 : Int32)) d24_10 rfl rfl ?_
  refine Rn.callS (pc' := 14) (argsL := [.int (1 : Int32), .int (1 : Int32)]) (rest := []) (ct_mn1 Z a0 hw h0) (hw _ (List.mem_of_getElem? (i := 110) rfl)) (hw _ (List.mem_of_getElem? (i := 69) rfl)) (hw _ (List.mem_of_getElem? (i := 66) rfl)) (hw _ (List.mem_of_getElem? (i := 70) rfl)) (by decide) rfl rfl (lenOf pd_9 rfl) rfl d24_11 rfl (Nat.le_of_ble_eq_true rfl) (Nat.le_of_ble_eq_true rfl) (Nat.le_of_ble_eq_true rfl) (Nat.le_of_ble_eq_true rfl) (fun _ z => nomatch z) (fun _ z => nomatch z) (fun vq5 hq6 Kq7 qq8 => ?_)
  obtain ⟨rfl, rfl⟩ := qq8
  simp only [Option.toList, List.cons_append, List.nil_append]
  refine Rn.istoreN (pc' := 15) (Ls' := #[.val (.ref t), .val (.int ch), .val (.int (0 : Int32)), .val (.int (1 : Int32))]) d24_14 rfl rfl ?_
  refine Rn.iloadN (pc' := 16) d24_15 rfl rfl ?_
  refine Rn.iloadN (pc' := 17) d24_16 rfl rfl ?_
  refine Rn.icmp_lt (pc' := 22) (pn := 20) d24_17 (by decide) (by decide) rfl (fun cq9 => ?_) (fun cq9 => absurd cq9 (by decide))
  refine Rn.iloadN (pc' := 23) d24_22 rfl rfl ?_
  refine Rn.ldcI (pc' := 25) (hw _ (List.mem_of_getElem? (i := 111) rfl)) d24_23 rfl ?_
  refine Rn.icmp_ge (pc' := 36) (pn := 28) d24_25 (by decide) (by decide) rfl (fun cq10 => absurd (own_lt16 hB) cq10) (fun cq10 => ?_)
  refine Rn.aloadN (pc' := 29) d24_28 rfl rfl rfl ?_
  refine Rn.iloadN (pc' := 30) d24_29 rfl rfl ?_
  refine Rn.iloadN (pc' := 31) d24_30 rfl rfl ?_
  refine Rn.iloadN (pc' := 32) d24_31 rfl rfl ?_
  refine Rn.callS (pc' := 35) (argsL := [.ref t, .int ch, .int (0 : Int32), .int (1 : Int32)]) (rest := []) (ct_iocu1 Z a0 hw t c0  hC0 h0 A ch hb hB UA UH UL f hf SF) (hw _ (List.mem_of_getElem? (i := 112) rfl)) (hw _ (List.mem_of_getElem? (i := 113) rfl)) (hw _ (List.mem_of_getElem? (i := 73) rfl)) (hw _ (List.mem_of_getElem? (i := 114) rfl)) (by decide) rfl rfl (lenOf pd_13 rfl) rfl d24_32 rfl (Nat.le_of_ble_eq_true rfl) (Nat.le_of_ble_eq_true rfl) (Nat.le_of_ble_eq_true rfl) (Nat.le_of_ble_eq_true rfl) (fun _ z => nomatch z) (fun _ z => nomatch z) (fun vq11 hq12 Kq13 qq14 => ?_)
  obtain ⟨⟨r, rfl, hr⟩, rfl⟩ := qq14
  simp only [Option.toList, List.cons_append, List.nil_append]
  refine Rn.retI rfl d24_35 (Nat.le_of_ble_eq_true rfl) (Nat.le_of_ble_eq_true rfl) ?_
  exact ⟨⟨r, rfl, hr⟩, rfl⟩
set_option maxRecDepth 65536 in
set_option maxHeartbeats 40000000 in
theorem ct_cdu1 (Z : State) (a0 : Array Value) (hw : ∀ d ∈ tables_1, d.before a0 Z = true) (x t : Addr) (c0 : Int32) (hC0 : own_C c0) (h0 : Heap) (G : Su Z h0 x t [.int (b8 c0), .int (b8 (own_hi c0))]) (z : Int32) (hz : z ≠ 0) (S : Sta Z Z.heap "java/lang/String" "COMPACT_STRINGS" "Z" (.int z)) :
    Ct Z ⟨"java/lang/String", "coder", "()B"⟩ jdk_42_method_152_code 1 (Option.some FieldType.byte) ({ frames := 0, cells := 0, slots := 0, locals := 0 } : Room) #[(.ref x)] h0 [] (fun v h => v = some (.int (1 : Int32)) ∧ h0 = h) := by
  refine Ct.intro (Ls := #[.val (.ref x)]) (plainFor_of_name pn_4) (by intro m; first | (simp [entryFrame, mkF, argsToLocals, Value.category]; done) | rfl) ?_
  refine Rn.old fun Oq1 _ => ?_
  refine Rn.getS (pc' := 3) (hw _ (List.mem_of_getElem? (i := 46) rfl)) Via.refl (S.ext Oq1) d9_0 rfl ?_
  refine Rn.if_eq (pc' := 13) (pn := 6) d9_3 (by decide) (by decide) rfl (fun cq2 => absurd cq2 hz) (fun cq2 => ?_)
  refine Rn.aloadN (pc' := 7) d9_6 rfl rfl rfl ?_
  refine Rn.getF (pc' := 10) (host := "") (Or.inl (hw _ (List.mem_of_getElem? (i := 26) rfl))) Via.refl G.2.1 d9_7 rfl ?_
  refine Rn.goto (pc' := 14) d9_10 (by decide) (by decide) ?_
  refine Rn.retN (t := .byte) rfl (by simp) d9_14 (Nat.le_of_ble_eq_true rfl) (Nat.le_of_ble_eq_true rfl) ?_
  exact ⟨rfl, rfl⟩
set_option maxRecDepth 65536 in
set_option maxHeartbeats 40000000 in
theorem ct_ilu1 (Z : State) (a0 : Array Value) (hw : ∀ d ∈ tables_1, d.before a0 Z = true) (x t : Addr) (c0 : Int32) (hC0 : own_C c0) (h0 : Heap) (G : Su Z h0 x t [.int (b8 c0), .int (b8 (own_hi c0))]) (z : Int32) (hz : z ≠ 0) (S : Sta Z Z.heap "java/lang/String" "COMPACT_STRINGS" "Z" (.int z)) :
    Ct Z ⟨"java/lang/String", "isLatin1", "()Z"⟩ jdk_42_method_154_code 1 (Option.some FieldType.boolean) ({ frames := 0, cells := 0, slots := 0, locals := 0 } : Room) #[(.ref x)] h0 [] (fun v h => v = some (.int (0 : Int32)) ∧ h0 = h) := by
  refine Ct.intro (Ls := #[.val (.ref x)]) (plainFor_of_name pn_4) (by intro m; first | (simp [entryFrame, mkF, argsToLocals, Value.category]; done) | rfl) ?_
  refine Rn.old fun Oq1 _ => ?_
  refine Rn.getS (pc' := 3) (hw _ (List.mem_of_getElem? (i := 46) rfl)) Via.refl (S.ext Oq1) d7_0 rfl ?_
  refine Rn.if_eq (pc' := 17) (pn := 6) d7_3 (by decide) (by decide) rfl (fun cq2 => absurd cq2 hz) (fun cq2 => ?_)
  refine Rn.aloadN (pc' := 7) d7_6 rfl rfl rfl ?_
  refine Rn.getF (pc' := 10) (host := "") (Or.inl (hw _ (List.mem_of_getElem? (i := 26) rfl))) Via.refl G.2.1 d7_7 rfl ?_
  refine Rn.if_ne (pc' := 17) (pn := 13) d7_10 (by decide) (by decide) rfl (fun cq3 => ?_) (fun cq3 => absurd cq3 (by decide))
  refine Rn.iconst (pc' := 18) (v := (0 : Int32)) d7_17 rfl rfl ?_
  refine Rn.retN (t := .boolean) rfl (by simp) d7_18 (Nat.le_of_ble_eq_true rfl) (Nat.le_of_ble_eq_true rfl) ?_
  exact ⟨rfl, rfl⟩
set_option maxRecDepth 65536 in
set_option maxHeartbeats 40000000 in
theorem ct_lnu1 (Z : State) (a0 : Array Value) (hw : ∀ d ∈ tables_1, d.before a0 Z = true) (x t : Addr) (c0 : Int32) (hC0 : own_C c0) (h0 : Heap) (G : Su Z h0 x t [.int (b8 c0), .int (b8 (own_hi c0))]) (z : Int32) (hz : z ≠ 0) (S : Sta Z Z.heap "java/lang/String" "COMPACT_STRINGS" "Z" (.int z)) :
    Ct Z ⟨"java/lang/String", "length", "()I"⟩ jdk_42_method_54_code 1 (Option.some FieldType.int) ({ frames := 1, cells := 0, slots := 0, locals := 13 } : Room) #[(.ref x)] h0 [] (fun v h => v = some (.int (1 : Int32)) ∧ h0 = h) := by
  refine Ct.intro (Ls := #[.val (.ref x)]) (plainFor_of_name pn_4) (by intro m; first | (simp [entryFrame, mkF, argsToLocals, Value.category]; done) | rfl) ?_
  refine Rn.aloadN (pc' := 1) d8_0 rfl rfl rfl ?_
  refine Rn.getF (pc' := 4) (host := "") (Or.inl (hw _ (List.mem_of_getElem? (i := 25) rfl))) Via.refl G.2.2.1 d8_1 rfl ?_
  refine Rn.arraylength (pc' := 5) (n := (2 : Int32)) G.2.2.2 rfl d8_4 rfl ?_
  refine Rn.aloadN (pc' := 6) d8_5 rfl rfl rfl ?_
  refine Rn.callV (pc' := 9) (argsL := []) (a := x) (rest := [.int (2 : Int32)]) (ct_cdu1 Z a0 hw x t c0  hC0 h0 G z hz S) G.1 (hw _ (List.mem_of_getElem? (i := 52) rfl)) (hw _ (List.mem_of_getElem? (i := 53) rfl)) (fun _ hZ => notFace_of_selects (args := #[]) (mvT hZ (hw _ (List.mem_of_getElem? (i := 55) rfl)))) (hw _ (List.mem_of_getElem? (i := 55) rfl)) (hw _ (List.mem_of_getElem? (i := 54) rfl)) (hw _ (List.mem_of_getElem? (i := 7) rfl)) (hw _ (List.mem_of_getElem? (i := 56) rfl)) (by decide) rfl rfl (lenOf pd_10 rfl) rfl d8_6 rfl (Nat.le_of_ble_eq_true rfl) (Nat.le_of_ble_eq_true rfl) (Nat.le_of_ble_eq_true rfl) (Nat.le_of_ble_eq_true rfl) (fun _ z => nomatch z) (fun _ z => nomatch z) (fun vq1 hq2 Kq3 qq4 => ?_)
  obtain ⟨rfl, rfl⟩ := qq4
  simp only [Option.toList, List.cons_append, List.nil_append]
  refine Rn.ishr (pc' := 10) (v := (1 : Int32)) d8_9 rfl rfl ?_
  refine Rn.retI rfl d8_10 (Nat.le_of_ble_eq_true rfl) (Nat.le_of_ble_eq_true rfl) ?_
  exact ⟨rfl, rfl⟩
set_option maxRecDepth 65536 in
set_option maxHeartbeats 40000000 in
theorem ct_i2u1 (Z : State) (a0 : Array Value) (hw : ∀ d ∈ tables_1, d.before a0 Z = true) (x t : Addr) (c0 : Int32) (hC0 : own_C c0) (h0 : Heap) (G : Su Z h0 x t [.int (b8 c0), .int (b8 (own_hi c0))]) (z : Int32) (hz : z ≠ 0) (S : Sta Z Z.heap "java/lang/String" "COMPACT_STRINGS" "Z" (.int z))(ch : Int32) (hb : b8 ch = ch) (hB : own_B ch)(UA : Sta Z Z.heap "java/lang/StringUTF16" "$assertionsDisabled" "Z" (.int (1 : Int32))) (UH : Sta Z Z.heap "java/lang/StringUTF16" "HI_BYTE_SHIFT" "I" (.int (0 : Int32))) (UL : Sta Z Z.heap "java/lang/StringUTF16" "LO_BYTE_SHIFT" "I" (.int (8 : Int32)))(f : Value) (hf : f.isRef = true) (SF : Sta Z Z.heap "jdk/internal/util/Preconditions" "SIOOBE_FORMATTER" "Ljava/util/function/BiFunction;" f) :
    Ct Z ⟨"java/lang/String", "indexOf", "(II)I"⟩ jdk_42_method_80_code 3 (Option.some FieldType.int) ({ frames := 5, cells := 0, slots := 0, locals := 73 } : Room) #[(.ref x), (.int ch), (.int (0 : Int32))] h0 [] (fun v h => (∃ r, v = some (.int r) ∧ (r < 0 ↔ ¬ (c0 = ch))) ∧ h0 = h) := by
  refine Ct.intro (Ls := #[.val (.ref x), .val (.int ch), .val (.int (0 : Int32))]) (plainFor_of_name pn_4) (by intro m; first | (simp [entryFrame, mkF, argsToLocals, Value.category]; done) | rfl) ?_
  refine Rn.aloadN (pc' := 1) d6_0 rfl rfl rfl ?_
  refine Rn.callV (pc' := 4) (argsL := []) (a := x) (rest := []) (ct_ilu1 Z a0 hw x t c0  hC0 h0 G z hz S) G.1 (hw _ (List.mem_of_getElem? (i := 41) rfl)) (hw _ (List.mem_of_getElem? (i := 42) rfl)) (fun _ hZ => notFace_of_selects (args := #[]) (mvT hZ (hw _ (List.mem_of_getElem? (i := 44) rfl)))) (hw _ (List.mem_of_getElem? (i := 44) rfl)) (hw _ (List.mem_of_getElem? (i := 43) rfl)) (hw _ (List.mem_of_getElem? (i := 7) rfl)) (hw _ (List.mem_of_getElem? (i := 45) rfl)) (by decide) rfl rfl (lenOf pd_11 rfl) rfl d6_1 rfl (Nat.le_of_ble_eq_true rfl) (Nat.le_of_ble_eq_true rfl) (Nat.le_of_ble_eq_true rfl) (Nat.le_of_ble_eq_true rfl) (fun _ z => nomatch z) (fun _ z => nomatch z) (fun vq1 hq2 Kq3 qq4 => ?_)
  obtain ⟨rfl, rfl⟩ := qq4
  simp only [Option.toList, List.cons_append, List.nil_append]
  refine Rn.if_eq (pc' := 23) (pn := 7) d6_4 (by decide) (by decide) rfl (fun cq5 => ?_) (fun cq5 => absurd cq5 (by decide))
  refine Rn.aloadN (pc' := 24) d6_23 rfl rfl rfl ?_
  refine Rn.getF (pc' := 27) (host := "") (Or.inl (hw _ (List.mem_of_getElem? (i := 25) rfl))) Via.refl G.2.2.1 d6_24 rfl ?_
  refine Rn.iloadN (pc' := 28) d6_27 rfl rfl ?_
  refine Rn.iloadN (pc' := 29) d6_28 rfl rfl ?_
  refine Rn.aloadN (pc' := 30) d6_29 rfl rfl rfl ?_
  refine Rn.callV (pc' := 33) (argsL := []) (a := x) (rest := [.int (0 : Int32), .int ch, .ref t]) (ct_lnu1 Z a0 hw x t c0  hC0 h0 G z hz S) G.1 (hw _ (List.mem_of_getElem? (i := 47) rfl)) (hw _ (List.mem_of_getElem? (i := 48) rfl)) (fun _ hZ => notFace_of_selects (args := #[]) (mvT hZ (hw _ (List.mem_of_getElem? (i := 50) rfl)))) (hw _ (List.mem_of_getElem? (i := 50) rfl)) (hw _ (List.mem_of_getElem? (i := 49) rfl)) (hw _ (List.mem_of_getElem? (i := 7) rfl)) (hw _ (List.mem_of_getElem? (i := 51) rfl)) (by decide) rfl rfl (lenOf pd_12 rfl) rfl d6_30 rfl (Nat.le_of_ble_eq_true rfl) (Nat.le_of_ble_eq_true rfl) (Nat.le_of_ble_eq_true rfl) (Nat.le_of_ble_eq_true rfl) (fun _ z => nomatch z) (fun _ z => nomatch z) (fun vq6 hq7 Kq8 qq9 => ?_)
  obtain ⟨rfl, rfl⟩ := qq9
  simp only [Option.toList, List.cons_append, List.nil_append]
  refine Rn.callS (pc' := 36) (argsL := [.ref t, .int ch, .int (0 : Int32), .int (1 : Int32)]) (rest := []) (ct_ixu1 Z a0 hw t c0  hC0 h0 G.2.2.2 ch hb hB UA UH UL f hf SF) (hw _ (List.mem_of_getElem? (i := 106) rfl)) (hw _ (List.mem_of_getElem? (i := 107) rfl)) (hw _ (List.mem_of_getElem? (i := 73) rfl)) (hw _ (List.mem_of_getElem? (i := 108) rfl)) (by decide) rfl rfl (lenOf pd_13 rfl) rfl d6_33 rfl (Nat.le_of_ble_eq_true rfl) (Nat.le_of_ble_eq_true rfl) (Nat.le_of_ble_eq_true rfl) (Nat.le_of_ble_eq_true rfl) (fun _ z => nomatch z) (fun _ z => nomatch z) (fun vq10 hq11 Kq12 qq13 => ?_)
  obtain ⟨⟨r, rfl, hr⟩, rfl⟩ := qq13
  simp only [Option.toList, List.cons_append, List.nil_append]
  refine Rn.retI rfl d6_36 (Nat.le_of_ble_eq_true rfl) (Nat.le_of_ble_eq_true rfl) ?_
  exact ⟨⟨r, rfl, hr⟩, rfl⟩
set_option maxRecDepth 65536 in
set_option maxHeartbeats 40000000 in
theorem ct_i1u1 (Z : State) (a0 : Array Value) (hw : ∀ d ∈ tables_1, d.before a0 Z = true) (x t : Addr) (c0 : Int32) (hC0 : own_C c0) (h0 : Heap) (G : Su Z h0 x t [.int (b8 c0), .int (b8 (own_hi c0))]) (z : Int32) (hz : z ≠ 0) (S : Sta Z Z.heap "java/lang/String" "COMPACT_STRINGS" "Z" (.int z))(ch : Int32) (hb : b8 ch = ch) (hB : own_B ch)(UA : Sta Z Z.heap "java/lang/StringUTF16" "$assertionsDisabled" "Z" (.int (1 : Int32))) (UH : Sta Z Z.heap "java/lang/StringUTF16" "HI_BYTE_SHIFT" "I" (.int (0 : Int32))) (UL : Sta Z Z.heap "java/lang/StringUTF16" "LO_BYTE_SHIFT" "I" (.int (8 : Int32)))(f : Value) (hf : f.isRef = true) (SF : Sta Z Z.heap "jdk/internal/util/Preconditions" "SIOOBE_FORMATTER" "Ljava/util/function/BiFunction;" f) :
    Ct Z ⟨"java/lang/String", "indexOf", "(I)I"⟩ jdk_42_method_79_code 2 (Option.some FieldType.int) ({ frames := 6, cells := 0, slots := 0, locals := 87 } : Room) #[(.ref x), (.int ch)] h0 [] (fun v h => (∃ r, v = some (.int r) ∧ (r < 0 ↔ ¬ (c0 = ch))) ∧ h0 = h) := by
  refine Ct.intro (Ls := #[.val (.ref x), .val (.int ch)]) (plainFor_of_name pn_4) (by intro m; first | (simp [entryFrame, mkF, argsToLocals, Value.category]; done) | rfl) ?_
  refine Rn.aloadN (pc' := 1) d5_0 rfl rfl rfl ?_
  refine Rn.iloadN (pc' := 2) d5_1 rfl rfl ?_
  refine Rn.iconst (pc' := 3) (v := (0 : Int32)) d5_2 rfl rfl ?_
  refine Rn.callV (pc' := 6) (argsL := [.int ch, .int (0 : Int32)]) (a := x) (rest := []) (ct_i2u1 Z a0 hw x t c0  hC0 h0 G z hz S ch hb hB UA UH UL f hf SF) G.1 (hw _ (List.mem_of_getElem? (i := 36) rfl)) (hw _ (List.mem_of_getElem? (i := 37) rfl)) (fun _ hZ => notFace_of_selects (args := #[]) (mvT hZ (hw _ (List.mem_of_getElem? (i := 39) rfl)))) (hw _ (List.mem_of_getElem? (i := 39) rfl)) (hw _ (List.mem_of_getElem? (i := 38) rfl)) (hw _ (List.mem_of_getElem? (i := 7) rfl)) (hw _ (List.mem_of_getElem? (i := 40) rfl)) (by decide) rfl rfl (lenOf pd_9 rfl) rfl d5_3 rfl (Nat.le_of_ble_eq_true rfl) (Nat.le_of_ble_eq_true rfl) (Nat.le_of_ble_eq_true rfl) (Nat.le_of_ble_eq_true rfl) (fun _ z => nomatch z) (fun _ z => nomatch z) (fun vq1 hq2 Kq3 qq4 => ?_)
  obtain ⟨⟨r, rfl, hr⟩, rfl⟩ := qq4
  simp only [Option.toList, List.cons_append, List.nil_append]
  refine Rn.retI rfl d5_6 (Nat.le_of_ble_eq_true rfl) (Nat.le_of_ble_eq_true rfl) ?_
  exact ⟨⟨r, rfl, hr⟩, rfl⟩
set_option maxRecDepth 65536 in
set_option maxHeartbeats 40000000 in
theorem ct_chhu1 (Z : State) (a0 : Array Value) (hw : ∀ d ∈ tables_1, d.before a0 Z = true) (x t : Addr) (c0 : Int32) (hC0 : own_C c0) (h0 : Heap) (G : Su Z h0 x t [.int (b8 c0), .int (b8 (own_hi c0))]) (z : Int32) (hz : z ≠ 0) (S : Sta Z Z.heap "java/lang/String" "COMPACT_STRINGS" "Z" (.int z))(UA : Sta Z Z.heap "java/lang/StringUTF16" "$assertionsDisabled" "Z" (.int (1 : Int32))) (UH : Sta Z Z.heap "java/lang/StringUTF16" "HI_BYTE_SHIFT" "I" (.int (0 : Int32))) (UL : Sta Z Z.heap "java/lang/StringUTF16" "LO_BYTE_SHIFT" "I" (.int (8 : Int32)))(f : Value) (hf : f.isRef = true) (SF : Sta Z Z.heap "jdk/internal/util/Preconditions" "SIOOBE_FORMATTER" "Ljava/util/function/BiFunction;" f) :
    Ct Z ⟨"com/example/fleet_quant/fleetquant/io/TableCells", "canHold", "(Ljava/lang/String;)Z"⟩ prog_28_method_2_code 1 (Option.some FieldType.boolean) ({ frames := 9, cells := 0, slots := 0, locals := 140 } : Room) #[(.ref x)] h0 [] (fun v h => v = some (.int (if own_ok c0 then 1 else 0)) ∧ h0 = h) := by
  refine Ct.intro (Ls := #[.val (.ref x)]) (plainFor_of_name pn_6) (by intro m; first | (simp [entryFrame, mkF, argsToLocals, Value.category]; done) | rfl) ?_
  refine Rn.aloadN (pc' := 1) d4_0 rfl rfl rfl ?_
  refine Rn.bipush (pc' := 3) (v := (9 : Int32)) d4_1 rfl rfl ?_
  refine Rn.callV (pc' := 6) (argsL := [.int (9 : Int32)]) (a := x) (rest := []) (ct_i1u1 Z a0 hw x t c0  hC0 h0 G z hz S 9 rfl own_k9 UA UH UL f hf SF) G.1 (hw _ (List.mem_of_getElem? (i := 31) rfl)) (hw _ (List.mem_of_getElem? (i := 32) rfl)) (fun _ hZ => notFace_of_selects (args := #[]) (mvT hZ (hw _ (List.mem_of_getElem? (i := 34) rfl)))) (hw _ (List.mem_of_getElem? (i := 34) rfl)) (hw _ (List.mem_of_getElem? (i := 33) rfl)) (hw _ (List.mem_of_getElem? (i := 7) rfl)) (hw _ (List.mem_of_getElem? (i := 35) rfl)) (by decide) rfl rfl (lenOf pd_0 rfl) rfl d4_3 rfl (Nat.le_of_ble_eq_true rfl) (Nat.le_of_ble_eq_true rfl) (Nat.le_of_ble_eq_true rfl) (Nat.le_of_ble_eq_true rfl) (fun _ z => nomatch z) (fun _ z => nomatch z) (fun vq1 hq2 Kq3 qq4 => ?_)
  obtain ⟨⟨r9, rfl, hr9⟩, rfl⟩ := qq4
  simp only [Option.toList, List.cons_append, List.nil_append]
  refine Rn.if_ge (pc' := 31) (pn := 9) d4_6 (by decide) (by decide) rfl (fun cq5 => ?_) (fun cq5 => ?_)
  ·
    refine Rn.iconst (pc' := 32) (v := (0 : Int32)) d4_31 rfl rfl ?_
    refine Rn.retN (t := .boolean) rfl (by simp) d4_32 (Nat.le_of_ble_eq_true rfl) (Nat.le_of_ble_eq_true rfl) ?_
    refine ⟨?_, rfl⟩
    exact own_if_f (fun q => own_ngt cq5 (hr9.mpr (fun q' => by rcases q' with q' <;> first | exact absurd q' q.1 | exact absurd q' q.1.1 | exact absurd q' q.2.1 | exact absurd q' q.2.1.1 | exact absurd q' q.2.2.1)))
  ·
    refine Rn.aloadN (pc' := 10) d4_9 rfl rfl rfl ?_
    refine Rn.bipush (pc' := 12) (v := (10 : Int32)) d4_10 rfl rfl ?_
    refine Rn.callV (pc' := 15) (argsL := [.int (10 : Int32)]) (a := x) (rest := []) (ct_i1u1 Z a0 hw x t c0  hC0 h0 G z hz S 10 rfl own_k10 UA UH UL f hf SF) G.1 (hw _ (List.mem_of_getElem? (i := 31) rfl)) (hw _ (List.mem_of_getElem? (i := 32) rfl)) (fun _ hZ => notFace_of_selects (args := #[]) (mvT hZ (hw _ (List.mem_of_getElem? (i := 34) rfl)))) (hw _ (List.mem_of_getElem? (i := 34) rfl)) (hw _ (List.mem_of_getElem? (i := 33) rfl)) (hw _ (List.mem_of_getElem? (i := 7) rfl)) (hw _ (List.mem_of_getElem? (i := 35) rfl)) (by decide) rfl rfl (lenOf pd_0 rfl) rfl d4_12 rfl (Nat.le_of_ble_eq_true rfl) (Nat.le_of_ble_eq_true rfl) (Nat.le_of_ble_eq_true rfl) (Nat.le_of_ble_eq_true rfl) (fun _ z => nomatch z) (fun _ z => nomatch z) (fun vq6 hq7 Kq8 qq9 => ?_)
    obtain ⟨⟨r10, rfl, hr10⟩, rfl⟩ := qq9
    simp only [Option.toList, List.cons_append, List.nil_append]
    refine Rn.if_ge (pc' := 31) (pn := 18) d4_15 (by decide) (by decide) rfl (fun cq10 => ?_) (fun cq10 => ?_)
    ·
      refine Rn.iconst (pc' := 32) (v := (0 : Int32)) d4_31 rfl rfl ?_
      refine Rn.retN (t := .boolean) rfl (by simp) d4_32 (Nat.le_of_ble_eq_true rfl) (Nat.le_of_ble_eq_true rfl) ?_
      refine ⟨?_, rfl⟩
      exact own_if_f (fun q => own_ngt cq10 (hr10.mpr (fun q' => by rcases q' with q' <;> first | exact absurd q' q.2.1 | exact absurd q' q.1.2.1 | exact absurd q' q.2.2.1 | exact absurd q' q.2.1.2.1 | exact absurd q' q.2.2.2.1)))
    ·
      refine Rn.aloadN (pc' := 19) d4_18 rfl rfl rfl ?_
      refine Rn.bipush (pc' := 21) (v := (13 : Int32)) d4_19 rfl rfl ?_
      refine Rn.callV (pc' := 24) (argsL := [.int (13 : Int32)]) (a := x) (rest := []) (ct_i1u1 Z a0 hw x t c0  hC0 h0 G z hz S 13 rfl own_k13 UA UH UL f hf SF) G.1 (hw _ (List.mem_of_getElem? (i := 31) rfl)) (hw _ (List.mem_of_getElem? (i := 32) rfl)) (fun _ hZ => notFace_of_selects (args := #[]) (mvT hZ (hw _ (List.mem_of_getElem? (i := 34) rfl)))) (hw _ (List.mem_of_getElem? (i := 34) rfl)) (hw _ (List.mem_of_getElem? (i := 33) rfl)) (hw _ (List.mem_of_getElem? (i := 7) rfl)) (hw _ (List.mem_of_getElem? (i := 35) rfl)) (by decide) rfl rfl (lenOf pd_0 rfl) rfl d4_21 rfl (Nat.le_of_ble_eq_true rfl) (Nat.le_of_ble_eq_true rfl) (Nat.le_of_ble_eq_true rfl) (Nat.le_of_ble_eq_true rfl) (fun _ z => nomatch z) (fun _ z => nomatch z) (fun vq11 hq12 Kq13 qq14 => ?_)
      obtain ⟨⟨r13, rfl, hr13⟩, rfl⟩ := qq14
      simp only [Option.toList, List.cons_append, List.nil_append]
      refine Rn.if_ge (pc' := 31) (pn := 27) d4_24 (by decide) (by decide) rfl (fun cq15 => ?_) (fun cq15 => ?_)
      ·
        refine Rn.iconst (pc' := 32) (v := (0 : Int32)) d4_31 rfl rfl ?_
        refine Rn.retN (t := .boolean) rfl (by simp) d4_32 (Nat.le_of_ble_eq_true rfl) (Nat.le_of_ble_eq_true rfl) ?_
        refine ⟨?_, rfl⟩
        exact own_if_f (fun q => own_ngt cq15 (hr13.mpr (fun q' => by rcases q' with q' <;> first | exact absurd q' q.2.2 | exact absurd q' q.1.2.2 | exact absurd q' q.2.2.2 | exact absurd q' q.2.1.2.2 | exact absurd q' q.2.2.2.2)))
      ·
        refine Rn.iconst (pc' := 28) (v := (1 : Int32)) d4_27 rfl rfl ?_
        refine Rn.goto (pc' := 32) d4_28 (by decide) (by decide) ?_
        refine Rn.retN (t := .boolean) rfl (by simp) d4_32 (Nat.le_of_ble_eq_true rfl) (Nat.le_of_ble_eq_true rfl) ?_
        refine ⟨?_, rfl⟩
        exact own_if_t ⟨fun q => (hr9.mp (own_nge cq5)) (q), fun q => (hr10.mp (own_nge cq10)) (q), fun q => (hr13.mp (own_nge cq15)) (q)⟩
theorem ct_chx1 (Z : State) (a0 : Array Value) (hw : ∀ d ∈ tables_1, d.before a0 Z = true) (x : Addr) (c0 : Int32) (hC0 : own_C c0) (h0 : Heap) (G : own_S1 Z h0 x c0) (z : Int32) (hz : z ≠ 0) (S : Sta Z Z.heap "java/lang/String" "COMPACT_STRINGS" "Z" (.int z)) (UA : Sta Z Z.heap "java/lang/StringUTF16" "$assertionsDisabled" "Z" (.int (1 : Int32))) (UH : Sta Z Z.heap "java/lang/StringUTF16" "HI_BYTE_SHIFT" "I" (.int (0 : Int32))) (UL : Sta Z Z.heap "java/lang/StringUTF16" "LO_BYTE_SHIFT" "I" (.int (8 : Int32))) (f : Value) (hf : f.isRef = true) (SF : Sta Z Z.heap "jdk/internal/util/Preconditions" "SIOOBE_FORMATTER" "Ljava/util/function/BiFunction;" f) :
    Ct Z ⟨"com/example/fleet_quant/fleetquant/io/TableCells", "canHold", "(Ljava/lang/String;)Z"⟩ prog_28_method_2_code 1 (Option.some FieldType.boolean) ({ frames := 9, cells := 0, slots := 0, locals := 140 } : Room) #[(.ref x)] h0 [] (fun v h => v = some (.int (if own_ok c0 then 1 else 0)) ∧ h0 = h) := by
  obtain ⟨t, ⟨g, G⟩ | G⟩ := G
  · have hp0 := g
    exact ct_chhl1 Z a0 hw x t c0 hp0 hC0 h0 G z hz S UA UH UL f hf SF
  · exact ct_chhu1 Z a0 hw x t c0 hC0 h0 G z hz S UA UH UL f hf SF
set_option maxRecDepth 65536 in
set_option maxHeartbeats 40000000 in
theorem ct_iocl2 (Z : State) (a0 : Array Value) (hw : ∀ d ∈ tables_1, d.before a0 Z = true) (t : Addr) (c0 c1 : Int32) (hp0 : ¬ 255 < c0) (hp1 : ¬ 255 < c1) (hC0 : own_C c0) (hC1 : own_C c1) (h0 : Heap) (A : Ax Z h0 t .byte [.int (b8 c0), .int (b8 c1)]) (ch : Int32) (hb : b8 ch = ch) (hB : own_B ch) :
    Ct Z ⟨"java/lang/StringLatin1", "indexOfChar", "([BIII)I"⟩ jdk_43_method_23_code 6 (Option.some FieldType.int) ({ frames := 0, cells := 0, slots := 0, locals := 0 } : Room) #[(.ref t), (.int ch), (.int (0 : Int32)), (.int (2 : Int32))] h0 [] (fun v h => (∃ r, v = some (.int r) ∧ (r < 0 ↔ ¬ (c0 = ch ∨ c1 = ch))) ∧ h0 = h) := by
  refine Ct.intro (Ls := #[.val (.ref t), .val (.int ch), .val (.int (0 : Int32)), .val (.int (2 : Int32)), .unset, .unset]) (plainFor_of_name pn_5) (by intro m; first | (simp [entryFrame, mkF, argsToLocals, Value.category]; done) | rfl) ?_
  refine Rn.iloadN (pc' := 1) d18_0 rfl rfl ?_
  refine Rn.i2b (pc' := 2) (v := ch) d18_1 hb rfl ?_
  refine Rn.istore (pc' := 4) (Ls' := #[.val (.ref t), .val (.int ch), .val (.int (0 : Int32)), .val (.int (2 : Int32)), .val (.int ch), .unset]) d18_2 rfl rfl ?_
  refine Rn.iloadN (pc' := 5) d18_4 rfl rfl ?_
  refine Rn.istore (pc' := 7) (Ls' := #[.val (.ref t), .val (.int ch), .val (.int (0 : Int32)), .val (.int (2 : Int32)), .val (.int ch), .val (.int (0 : Int32))]) d18_5 rfl rfl ?_
  refine Rn.iload (pc' := 9) d18_7 rfl rfl ?_
  refine Rn.iloadN (pc' := 10) d18_9 rfl rfl ?_
  refine Rn.icmp_ge (pc' := 31) (pn := 13) d18_10 (by decide) (by decide) rfl (fun cq1 => absurd cq1 (by decide)) (fun cq1 => ?_)
  refine Rn.aloadN (pc' := 14) d18_13 rfl rfl rfl ?_
  refine Rn.iload (pc' := 16) d18_14 rfl rfl ?_
  refine Rn.baload (pc' := 17) (v := .int (b8 c0)) A (by decide) rfl d18_16 rfl ?_
  refine Rn.iload (pc' := 19) d18_17 rfl rfl ?_
  refine Rn.icmp_ne (pc' := 25) (pn := 22) d18_19 (by decide) (by decide) rfl (fun cq2 => ?_) (fun cq2 => ?_)
  ·
    refine Rn.iinc (pc' := 28) (v := (1 : Int32)) (Ls' := #[.val (.ref t), .val (.int ch), .val (.int (0 : Int32)), .val (.int (2 : Int32)), .val (.int ch), .val (.int (1 : Int32))]) d18_25 rfl rfl rfl rfl ?_
    refine Rn.goto (pc' := 7) d18_28 (by decide) (by decide) ?_
    refine Rn.iload (pc' := 9) d18_7 rfl rfl ?_
    refine Rn.iloadN (pc' := 10) d18_9 rfl rfl ?_
    refine Rn.icmp_ge (pc' := 31) (pn := 13) d18_10 (by decide) (by decide) rfl (fun cq3 => absurd cq3 (by decide)) (fun cq3 => ?_)
    refine Rn.aloadN (pc' := 14) d18_13 rfl rfl rfl ?_
    refine Rn.iload (pc' := 16) d18_14 rfl rfl ?_
    refine Rn.baload (pc' := 17) (v := .int (b8 c1)) A (by decide) rfl d18_16 rfl ?_
    refine Rn.iload (pc' := 19) d18_17 rfl rfl ?_
    refine Rn.icmp_ne (pc' := 25) (pn := 22) d18_19 (by decide) (by decide) rfl (fun cq4 => ?_) (fun cq4 => ?_)
    ·
      refine Rn.iinc (pc' := 28) (v := (2 : Int32)) (Ls' := #[.val (.ref t), .val (.int ch), .val (.int (0 : Int32)), .val (.int (2 : Int32)), .val (.int ch), .val (.int (2 : Int32))]) d18_25 rfl rfl rfl rfl ?_
      refine Rn.goto (pc' := 7) d18_28 (by decide) (by decide) ?_
      refine Rn.iload (pc' := 9) d18_7 rfl rfl ?_
      refine Rn.iloadN (pc' := 10) d18_9 rfl rfl ?_
      refine Rn.icmp_ge (pc' := 31) (pn := 13) d18_10 (by decide) (by decide) rfl (fun cq5 => ?_) (fun cq5 => absurd cq5 (by decide))
      refine Rn.iconst (pc' := 32) (v := (-1 : Int32)) d18_31 rfl rfl ?_
      refine Rn.retI rfl d18_32 (Nat.le_of_ble_eq_true rfl) (Nat.le_of_ble_eq_true rfl) ?_
      refine ⟨⟨_, rfl, ⟨fun _ q => ?_, fun _ => by decide⟩⟩, rfl⟩
      rcases q with q | q
      · exact cq2 ((congrArg b8 q).trans hb)
      · exact cq4 ((congrArg b8 q).trans hb)
    ·
      refine Rn.iload (pc' := 24) d18_22 rfl rfl ?_
      refine Rn.retI rfl d18_24 (Nat.le_of_ble_eq_true rfl) (Nat.le_of_ble_eq_true rfl) ?_
      exact ⟨⟨_, rfl, ⟨fun q => absurd q (by decide), fun q => absurd (Or.inr ((own_b8c (own_C_B hC1 hp1) hB hb cq4))) q⟩⟩, rfl⟩
  ·
    refine Rn.iload (pc' := 24) d18_22 rfl rfl ?_
    refine Rn.retI rfl d18_24 (Nat.le_of_ble_eq_true rfl) (Nat.le_of_ble_eq_true rfl) ?_
    exact ⟨⟨_, rfl, ⟨fun q => absurd q (by decide), fun q => absurd (Or.inl (own_b8c (own_C_B hC0 hp0) hB hb cq2)) q⟩⟩, rfl⟩
set_option maxRecDepth 65536 in
set_option maxHeartbeats 40000000 in
theorem ct_ixl2 (Z : State) (a0 : Array Value) (hw : ∀ d ∈ tables_1, d.before a0 Z = true) (t : Addr) (c0 c1 : Int32) (hp0 : ¬ 255 < c0) (hp1 : ¬ 255 < c1) (hC0 : own_C c0) (hC1 : own_C c1) (h0 : Heap) (A : Ax Z h0 t .byte [.int (b8 c0), .int (b8 c1)]) (ch : Int32) (hb : b8 ch = ch) (hB : own_B ch) :
    Ct Z ⟨"java/lang/StringLatin1", "indexOf", "([BIII)I"⟩ jdk_43_method_22_code 4 (Option.some FieldType.int) ({ frames := 1, cells := 0, slots := 0, locals := 17 } : Room) #[(.ref t), (.int ch), (.int (0 : Int32)), (.int (2 : Int32))] h0 [] (fun v h => (∃ r, v = some (.int r) ∧ (r < 0 ↔ ¬ (c0 = ch ∨ c1 = ch))) ∧ h0 = h) := by
  refine Ct.intro (Ls := #[.val (.ref t), .val (.int ch), .val (.int (0 : Int32)), .val (.int (2 : Int32))]) (plainFor_of_name pn_5) (by intro m; first | (simp [entryFrame, mkF, argsToLocals, Value.category]; done) | rfl) ?_
  refine Rn.iloadN (pc' := 1) d10_0 rfl rfl ?_
  refine Rn.callS (pc' := 4) (argsL := [.int ch]) (rest := []) (ct_ce Z a0 hw ch hB h0) (hw _ (List.mem_of_getElem? (i := 61) rfl)) (hw _ (List.mem_of_getElem? (i := 62) rfl)) (hw _ (List.mem_of_getElem? (i := 59) rfl)) (hw _ (List.mem_of_getElem? (i := 63) rfl)) (by decide) rfl rfl (lenOf pd_8 rfl) rfl d10_1 rfl (Nat.le_of_ble_eq_true rfl) (Nat.le_of_ble_eq_true rfl) (Nat.le_of_ble_eq_true rfl) (Nat.le_of_ble_eq_true rfl) (fun _ z => nomatch z) (fun _ z => nomatch z) (fun vq1 hq2 Kq3 qq4 => ?_)
  obtain ⟨rfl, rfl⟩ := qq4
  simp only [Option.toList, List.cons_append, List.nil_append]
  refine Rn.if_ne (pc' := 9) (pn := 7) d10_4 (by decide) (by decide) rfl (fun cq5 => ?_) (fun cq5 => absurd cq5 (by decide))
  refine Rn.iloadN (pc' := 10) d10_9 rfl rfl ?_
  refine Rn.iconst (pc' := 11) (v := (0 : Int32)) d10_10 rfl rfl ?_
  refine Rn.callS (pc' := 14) (argsL := [.int (0 : Int32), .int (0 : Int32)]) (rest := []) (ct_mx00 Z a0 hw h0) (hw _ (List.mem_of_getElem? (i := 64) rfl)) (hw _ (List.mem_of_getElem? (i := 65) rfl)) (hw _ (List.mem_of_getElem? (i := 66) rfl)) (hw _ (List.mem_of_getElem? (i := 67) rfl)) (by decide) rfl rfl (lenOf pd_9 rfl) rfl d10_11 rfl (Nat.le_of_ble_eq_true rfl) (Nat.le_of_ble_eq_true rfl) (Nat.le_of_ble_eq_true rfl) (Nat.le_of_ble_eq_true rfl) (fun _ z => nomatch z) (fun _ z => nomatch z) (fun vq6 hq7 Kq8 qq9 => ?_)
  obtain ⟨rfl, rfl⟩ := qq9
  simp only [Option.toList, List.cons_append, List.nil_append]
  refine Rn.istoreN (pc' := 15) (Ls' := #[.val (.ref t), .val (.int ch), .val (.int (0 : Int32)), .val (.int (2 : Int32))]) d10_14 rfl rfl ?_
  refine Rn.iloadN (pc' := 16) d10_15 rfl rfl ?_
  refine Rn.aloadN (pc' := 17) d10_16 rfl rfl rfl ?_
  refine Rn.arraylength (pc' := 18) (n := (2 : Int32)) A rfl d10_17 rfl ?_
  refine Rn.callS (pc' := 21) (argsL := [.int (2 : Int32), .int (2 : Int32)]) (rest := []) (ct_mn2 Z a0 hw h0) (hw _ (List.mem_of_getElem? (i := 68) rfl)) (hw _ (List.mem_of_getElem? (i := 69) rfl)) (hw _ (List.mem_of_getElem? (i := 66) rfl)) (hw _ (List.mem_of_getElem? (i := 70) rfl)) (by decide) rfl rfl (lenOf pd_9 rfl) rfl d10_18 rfl (Nat.le_of_ble_eq_true rfl) (Nat.le_of_ble_eq_true rfl) (Nat.le_of_ble_eq_true rfl) (Nat.le_of_ble_eq_true rfl) (fun _ z => nomatch z) (fun _ z => nomatch z) (fun vq10 hq11 Kq12 qq13 => ?_)
  obtain ⟨rfl, rfl⟩ := qq13
  simp only [Option.toList, List.cons_append, List.nil_append]
  refine Rn.istoreN (pc' := 22) (Ls' := #[.val (.ref t), .val (.int ch), .val (.int (0 : Int32)), .val (.int (2 : Int32))]) d10_21 rfl rfl ?_
  refine Rn.iloadN (pc' := 23) d10_22 rfl rfl ?_
  refine Rn.iloadN (pc' := 24) d10_23 rfl rfl ?_
  refine Rn.icmp_lt (pc' := 29) (pn := 27) d10_24 (by decide) (by decide) rfl (fun cq14 => ?_) (fun cq14 => absurd cq14 (by decide))
  refine Rn.aloadN (pc' := 30) d10_29 rfl rfl rfl ?_
  refine Rn.iloadN (pc' := 31) d10_30 rfl rfl ?_
  refine Rn.iloadN (pc' := 32) d10_31 rfl rfl ?_
  refine Rn.iloadN (pc' := 33) d10_32 rfl rfl ?_
  refine Rn.callS (pc' := 36) (argsL := [.ref t, .int ch, .int (0 : Int32), .int (2 : Int32)]) (rest := []) (ct_iocl2 Z a0 hw t c0 c1 hp0 hp1 hC0 hC1 h0 A ch hb hB) (hw _ (List.mem_of_getElem? (i := 84) rfl)) (hw _ (List.mem_of_getElem? (i := 85) rfl)) (hw _ (List.mem_of_getElem? (i := 59) rfl)) (hw _ (List.mem_of_getElem? (i := 86) rfl)) (by decide) rfl rfl (lenOf pd_13 rfl) rfl d10_33 rfl (Nat.le_of_ble_eq_true rfl) (Nat.le_of_ble_eq_true rfl) (Nat.le_of_ble_eq_true rfl) (Nat.le_of_ble_eq_true rfl) (fun _ z => nomatch z) (fun _ z => nomatch z) (fun vq15 hq16 Kq17 qq18 => ?_)
  obtain ⟨⟨r, rfl, hr⟩, rfl⟩ := qq18
  simp only [Option.toList, List.cons_append, List.nil_append]
  refine Rn.retI rfl d10_36 (Nat.le_of_ble_eq_true rfl) (Nat.le_of_ble_eq_true rfl) ?_
  exact ⟨⟨r, rfl, hr⟩, rfl⟩
set_option maxRecDepth 65536 in
set_option maxHeartbeats 40000000 in
theorem ct_cdl2 (Z : State) (a0 : Array Value) (hw : ∀ d ∈ tables_1, d.before a0 Z = true) (x t : Addr) (c0 c1 : Int32) (hp0 : ¬ 255 < c0) (hp1 : ¬ 255 < c1) (hC0 : own_C c0) (hC1 : own_C c1) (h0 : Heap) (G : Sg Z h0 x t [.int (b8 c0), .int (b8 c1)]) (z : Int32) (hz : z ≠ 0) (S : Sta Z Z.heap "java/lang/String" "COMPACT_STRINGS" "Z" (.int z)) :
    Ct Z ⟨"java/lang/String", "coder", "()B"⟩ jdk_42_method_152_code 1 (Option.some FieldType.byte) ({ frames := 0, cells := 0, slots := 0, locals := 0 } : Room) #[(.ref x)] h0 [] (fun v h => v = some (.int (0 : Int32)) ∧ h0 = h) := by
  refine Ct.intro (Ls := #[.val (.ref x)]) (plainFor_of_name pn_4) (by intro m; first | (simp [entryFrame, mkF, argsToLocals, Value.category]; done) | rfl) ?_
  refine Rn.old fun Oq1 _ => ?_
  refine Rn.getS (pc' := 3) (hw _ (List.mem_of_getElem? (i := 46) rfl)) Via.refl (S.ext Oq1) d9_0 rfl ?_
  refine Rn.if_eq (pc' := 13) (pn := 6) d9_3 (by decide) (by decide) rfl (fun cq2 => absurd cq2 hz) (fun cq2 => ?_)
  refine Rn.aloadN (pc' := 7) d9_6 rfl rfl rfl ?_
  refine Rn.getF (pc' := 10) (host := "") (Or.inl (hw _ (List.mem_of_getElem? (i := 26) rfl))) Via.refl G.2.1 d9_7 rfl ?_
  refine Rn.goto (pc' := 14) d9_10 (by decide) (by decide) ?_
  refine Rn.retN (t := .byte) rfl (by simp) d9_14 (Nat.le_of_ble_eq_true rfl) (Nat.le_of_ble_eq_true rfl) ?_
  exact ⟨rfl, rfl⟩
set_option maxRecDepth 65536 in
set_option maxHeartbeats 40000000 in
theorem ct_ill2 (Z : State) (a0 : Array Value) (hw : ∀ d ∈ tables_1, d.before a0 Z = true) (x t : Addr) (c0 c1 : Int32) (hp0 : ¬ 255 < c0) (hp1 : ¬ 255 < c1) (hC0 : own_C c0) (hC1 : own_C c1) (h0 : Heap) (G : Sg Z h0 x t [.int (b8 c0), .int (b8 c1)]) (z : Int32) (hz : z ≠ 0) (S : Sta Z Z.heap "java/lang/String" "COMPACT_STRINGS" "Z" (.int z)) :
    Ct Z ⟨"java/lang/String", "isLatin1", "()Z"⟩ jdk_42_method_154_code 1 (Option.some FieldType.boolean) ({ frames := 0, cells := 0, slots := 0, locals := 0 } : Room) #[(.ref x)] h0 [] (fun v h => v = some (.int (1 : Int32)) ∧ h0 = h) := by
  refine Ct.intro (Ls := #[.val (.ref x)]) (plainFor_of_name pn_4) (by intro m; first | (simp [entryFrame, mkF, argsToLocals, Value.category]; done) | rfl) ?_
  refine Rn.old fun Oq1 _ => ?_
  refine Rn.getS (pc' := 3) (hw _ (List.mem_of_getElem? (i := 46) rfl)) Via.refl (S.ext Oq1) d7_0 rfl ?_
  refine Rn.if_eq (pc' := 17) (pn := 6) d7_3 (by decide) (by decide) rfl (fun cq2 => absurd cq2 hz) (fun cq2 => ?_)
  refine Rn.aloadN (pc' := 7) d7_6 rfl rfl rfl ?_
  refine Rn.getF (pc' := 10) (host := "") (Or.inl (hw _ (List.mem_of_getElem? (i := 26) rfl))) Via.refl G.2.1 d7_7 rfl ?_
  refine Rn.if_ne (pc' := 17) (pn := 13) d7_10 (by decide) (by decide) rfl (fun cq3 => absurd cq3 (by decide)) (fun cq3 => ?_)
  refine Rn.iconst (pc' := 14) (v := (1 : Int32)) d7_13 rfl rfl ?_
  refine Rn.goto (pc' := 18) d7_14 (by decide) (by decide) ?_
  refine Rn.retN (t := .boolean) rfl (by simp) d7_18 (Nat.le_of_ble_eq_true rfl) (Nat.le_of_ble_eq_true rfl) ?_
  exact ⟨rfl, rfl⟩
set_option maxRecDepth 65536 in
set_option maxHeartbeats 40000000 in
theorem ct_lnl2 (Z : State) (a0 : Array Value) (hw : ∀ d ∈ tables_1, d.before a0 Z = true) (x t : Addr) (c0 c1 : Int32) (hp0 : ¬ 255 < c0) (hp1 : ¬ 255 < c1) (hC0 : own_C c0) (hC1 : own_C c1) (h0 : Heap) (G : Sg Z h0 x t [.int (b8 c0), .int (b8 c1)]) (z : Int32) (hz : z ≠ 0) (S : Sta Z Z.heap "java/lang/String" "COMPACT_STRINGS" "Z" (.int z)) :
    Ct Z ⟨"java/lang/String", "length", "()I"⟩ jdk_42_method_54_code 1 (Option.some FieldType.int) ({ frames := 1, cells := 0, slots := 0, locals := 13 } : Room) #[(.ref x)] h0 [] (fun v h => v = some (.int (2 : Int32)) ∧ h0 = h) := by
  refine Ct.intro (Ls := #[.val (.ref x)]) (plainFor_of_name pn_4) (by intro m; first | (simp [entryFrame, mkF, argsToLocals, Value.category]; done) | rfl) ?_
  refine Rn.aloadN (pc' := 1) d8_0 rfl rfl rfl ?_
  refine Rn.getF (pc' := 4) (host := "") (Or.inl (hw _ (List.mem_of_getElem? (i := 25) rfl))) Via.refl G.2.2.1 d8_1 rfl ?_
  refine Rn.arraylength (pc' := 5) (n := (2 : Int32)) G.2.2.2 rfl d8_4 rfl ?_
  refine Rn.aloadN (pc' := 6) d8_5 rfl rfl rfl ?_
  refine Rn.callV (pc' := 9) (argsL := []) (a := x) (rest := [.int (2 : Int32)]) (ct_cdl2 Z a0 hw x t c0 c1 hp0 hp1 hC0 hC1 h0 G z hz S) G.1 (hw _ (List.mem_of_getElem? (i := 52) rfl)) (hw _ (List.mem_of_getElem? (i := 53) rfl)) (fun _ hZ => notFace_of_selects (args := #[]) (mvT hZ (hw _ (List.mem_of_getElem? (i := 55) rfl)))) (hw _ (List.mem_of_getElem? (i := 55) rfl)) (hw _ (List.mem_of_getElem? (i := 54) rfl)) (hw _ (List.mem_of_getElem? (i := 7) rfl)) (hw _ (List.mem_of_getElem? (i := 56) rfl)) (by decide) rfl rfl (lenOf pd_10 rfl) rfl d8_6 rfl (Nat.le_of_ble_eq_true rfl) (Nat.le_of_ble_eq_true rfl) (Nat.le_of_ble_eq_true rfl) (Nat.le_of_ble_eq_true rfl) (fun _ z => nomatch z) (fun _ z => nomatch z) (fun vq1 hq2 Kq3 qq4 => ?_)
  obtain ⟨rfl, rfl⟩ := qq4
  simp only [Option.toList, List.cons_append, List.nil_append]
  refine Rn.ishr (pc' := 10) (v := (2 : Int32)) d8_9 rfl rfl ?_
  refine Rn.retI rfl d8_10 (Nat.le_of_ble_eq_true rfl) (Nat.le_of_ble_eq_true rfl) ?_
  exact ⟨rfl, rfl⟩
set_option maxRecDepth 65536 in
set_option maxHeartbeats 40000000 in
theorem ct_i2l2 (Z : State) (a0 : Array Value) (hw : ∀ d ∈ tables_1, d.before a0 Z = true) (x t : Addr) (c0 c1 : Int32) (hp0 : ¬ 255 < c0) (hp1 : ¬ 255 < c1) (hC0 : own_C c0) (hC1 : own_C c1) (h0 : Heap) (G : Sg Z h0 x t [.int (b8 c0), .int (b8 c1)]) (z : Int32) (hz : z ≠ 0) (S : Sta Z Z.heap "java/lang/String" "COMPACT_STRINGS" "Z" (.int z))(ch : Int32) (hb : b8 ch = ch) (hB : own_B ch)(UA : Sta Z Z.heap "java/lang/StringUTF16" "$assertionsDisabled" "Z" (.int (1 : Int32))) (UH : Sta Z Z.heap "java/lang/StringUTF16" "HI_BYTE_SHIFT" "I" (.int (0 : Int32))) (UL : Sta Z Z.heap "java/lang/StringUTF16" "LO_BYTE_SHIFT" "I" (.int (8 : Int32)))(f : Value) (hf : f.isRef = true) (SF : Sta Z Z.heap "jdk/internal/util/Preconditions" "SIOOBE_FORMATTER" "Ljava/util/function/BiFunction;" f) :
    Ct Z ⟨"java/lang/String", "indexOf", "(II)I"⟩ jdk_42_method_80_code 3 (Option.some FieldType.int) ({ frames := 2, cells := 0, slots := 0, locals := 32 } : Room) #[(.ref x), (.int ch), (.int (0 : Int32))] h0 [] (fun v h => (∃ r, v = some (.int r) ∧ (r < 0 ↔ ¬ (c0 = ch ∨ c1 = ch))) ∧ h0 = h) := by
  refine Ct.intro (Ls := #[.val (.ref x), .val (.int ch), .val (.int (0 : Int32))]) (plainFor_of_name pn_4) (by intro m; first | (simp [entryFrame, mkF, argsToLocals, Value.category]; done) | rfl) ?_
  refine Rn.aloadN (pc' := 1) d6_0 rfl rfl rfl ?_
  refine Rn.callV (pc' := 4) (argsL := []) (a := x) (rest := []) (ct_ill2 Z a0 hw x t c0 c1 hp0 hp1 hC0 hC1 h0 G z hz S) G.1 (hw _ (List.mem_of_getElem? (i := 41) rfl)) (hw _ (List.mem_of_getElem? (i := 42) rfl)) (fun _ hZ => notFace_of_selects (args := #[]) (mvT hZ (hw _ (List.mem_of_getElem? (i := 44) rfl)))) (hw _ (List.mem_of_getElem? (i := 44) rfl)) (hw _ (List.mem_of_getElem? (i := 43) rfl)) (hw _ (List.mem_of_getElem? (i := 7) rfl)) (hw _ (List.mem_of_getElem? (i := 45) rfl)) (by decide) rfl rfl (lenOf pd_11 rfl) rfl d6_1 rfl (Nat.le_of_ble_eq_true rfl) (Nat.le_of_ble_eq_true rfl) (Nat.le_of_ble_eq_true rfl) (Nat.le_of_ble_eq_true rfl) (fun _ z => nomatch z) (fun _ z => nomatch z) (fun vq1 hq2 Kq3 qq4 => ?_)
  obtain ⟨rfl, rfl⟩ := qq4
  simp only [Option.toList, List.cons_append, List.nil_append]
  refine Rn.if_eq (pc' := 23) (pn := 7) d6_4 (by decide) (by decide) rfl (fun cq5 => absurd cq5 (by decide)) (fun cq5 => ?_)
  refine Rn.aloadN (pc' := 8) d6_7 rfl rfl rfl ?_
  refine Rn.getF (pc' := 11) (host := "") (Or.inl (hw _ (List.mem_of_getElem? (i := 25) rfl))) Via.refl G.2.2.1 d6_8 rfl ?_
  refine Rn.iloadN (pc' := 12) d6_11 rfl rfl ?_
  refine Rn.iloadN (pc' := 13) d6_12 rfl rfl ?_
  refine Rn.aloadN (pc' := 14) d6_13 rfl rfl rfl ?_
  refine Rn.callV (pc' := 17) (argsL := []) (a := x) (rest := [.int (0 : Int32), .int ch, .ref t]) (ct_lnl2 Z a0 hw x t c0 c1 hp0 hp1 hC0 hC1 h0 G z hz S) G.1 (hw _ (List.mem_of_getElem? (i := 47) rfl)) (hw _ (List.mem_of_getElem? (i := 48) rfl)) (fun _ hZ => notFace_of_selects (args := #[]) (mvT hZ (hw _ (List.mem_of_getElem? (i := 50) rfl)))) (hw _ (List.mem_of_getElem? (i := 50) rfl)) (hw _ (List.mem_of_getElem? (i := 49) rfl)) (hw _ (List.mem_of_getElem? (i := 7) rfl)) (hw _ (List.mem_of_getElem? (i := 51) rfl)) (by decide) rfl rfl (lenOf pd_12 rfl) rfl d6_14 rfl (Nat.le_of_ble_eq_true rfl) (Nat.le_of_ble_eq_true rfl) (Nat.le_of_ble_eq_true rfl) (Nat.le_of_ble_eq_true rfl) (fun _ z => nomatch z) (fun _ z => nomatch z) (fun vq6 hq7 Kq8 qq9 => ?_)
  obtain ⟨rfl, rfl⟩ := qq9
  simp only [Option.toList, List.cons_append, List.nil_append]
  refine Rn.callS (pc' := 20) (argsL := [.ref t, .int ch, .int (0 : Int32), .int (2 : Int32)]) (rest := []) (ct_ixl2 Z a0 hw t c0 c1 hp0 hp1 hC0 hC1 h0 G.2.2.2 ch hb hB) (hw _ (List.mem_of_getElem? (i := 57) rfl)) (hw _ (List.mem_of_getElem? (i := 58) rfl)) (hw _ (List.mem_of_getElem? (i := 59) rfl)) (hw _ (List.mem_of_getElem? (i := 60) rfl)) (by decide) rfl rfl (lenOf pd_13 rfl) rfl d6_17 rfl (Nat.le_of_ble_eq_true rfl) (Nat.le_of_ble_eq_true rfl) (Nat.le_of_ble_eq_true rfl) (Nat.le_of_ble_eq_true rfl) (fun _ z => nomatch z) (fun _ z => nomatch z) (fun vq10 hq11 Kq12 qq13 => ?_)
  obtain ⟨⟨r, rfl, hr⟩, rfl⟩ := qq13
  simp only [Option.toList, List.cons_append, List.nil_append]
  refine Rn.goto (pc' := 36) d6_20 (by decide) (by decide) ?_
  refine Rn.retI rfl d6_36 (Nat.le_of_ble_eq_true rfl) (Nat.le_of_ble_eq_true rfl) ?_
  exact ⟨⟨r, rfl, hr⟩, rfl⟩
set_option maxRecDepth 65536 in
set_option maxHeartbeats 40000000 in
theorem ct_i1l2 (Z : State) (a0 : Array Value) (hw : ∀ d ∈ tables_1, d.before a0 Z = true) (x t : Addr) (c0 c1 : Int32) (hp0 : ¬ 255 < c0) (hp1 : ¬ 255 < c1) (hC0 : own_C c0) (hC1 : own_C c1) (h0 : Heap) (G : Sg Z h0 x t [.int (b8 c0), .int (b8 c1)]) (z : Int32) (hz : z ≠ 0) (S : Sta Z Z.heap "java/lang/String" "COMPACT_STRINGS" "Z" (.int z))(ch : Int32) (hb : b8 ch = ch) (hB : own_B ch)(UA : Sta Z Z.heap "java/lang/StringUTF16" "$assertionsDisabled" "Z" (.int (1 : Int32))) (UH : Sta Z Z.heap "java/lang/StringUTF16" "HI_BYTE_SHIFT" "I" (.int (0 : Int32))) (UL : Sta Z Z.heap "java/lang/StringUTF16" "LO_BYTE_SHIFT" "I" (.int (8 : Int32)))(f : Value) (hf : f.isRef = true) (SF : Sta Z Z.heap "jdk/internal/util/Preconditions" "SIOOBE_FORMATTER" "Ljava/util/function/BiFunction;" f) :
    Ct Z ⟨"java/lang/String", "indexOf", "(I)I"⟩ jdk_42_method_79_code 2 (Option.some FieldType.int) ({ frames := 3, cells := 0, slots := 0, locals := 46 } : Room) #[(.ref x), (.int ch)] h0 [] (fun v h => (∃ r, v = some (.int r) ∧ (r < 0 ↔ ¬ (c0 = ch ∨ c1 = ch))) ∧ h0 = h) := by
  refine Ct.intro (Ls := #[.val (.ref x), .val (.int ch)]) (plainFor_of_name pn_4) (by intro m; first | (simp [entryFrame, mkF, argsToLocals, Value.category]; done) | rfl) ?_
  refine Rn.aloadN (pc' := 1) d5_0 rfl rfl rfl ?_
  refine Rn.iloadN (pc' := 2) d5_1 rfl rfl ?_
  refine Rn.iconst (pc' := 3) (v := (0 : Int32)) d5_2 rfl rfl ?_
  refine Rn.callV (pc' := 6) (argsL := [.int ch, .int (0 : Int32)]) (a := x) (rest := []) (ct_i2l2 Z a0 hw x t c0 c1 hp0 hp1 hC0 hC1 h0 G z hz S ch hb hB UA UH UL f hf SF) G.1 (hw _ (List.mem_of_getElem? (i := 36) rfl)) (hw _ (List.mem_of_getElem? (i := 37) rfl)) (fun _ hZ => notFace_of_selects (args := #[]) (mvT hZ (hw _ (List.mem_of_getElem? (i := 39) rfl)))) (hw _ (List.mem_of_getElem? (i := 39) rfl)) (hw _ (List.mem_of_getElem? (i := 38) rfl)) (hw _ (List.mem_of_getElem? (i := 7) rfl)) (hw _ (List.mem_of_getElem? (i := 40) rfl)) (by decide) rfl rfl (lenOf pd_9 rfl) rfl d5_3 rfl (Nat.le_of_ble_eq_true rfl) (Nat.le_of_ble_eq_true rfl) (Nat.le_of_ble_eq_true rfl) (Nat.le_of_ble_eq_true rfl) (fun _ z => nomatch z) (fun _ z => nomatch z) (fun vq1 hq2 Kq3 qq4 => ?_)
  obtain ⟨⟨r, rfl, hr⟩, rfl⟩ := qq4
  simp only [Option.toList, List.cons_append, List.nil_append]
  refine Rn.retI rfl d5_6 (Nat.le_of_ble_eq_true rfl) (Nat.le_of_ble_eq_true rfl) ?_
  exact ⟨⟨r, rfl, hr⟩, rfl⟩
set_option maxRecDepth 65536 in
set_option maxHeartbeats 40000000 in
theorem ct_chhl2 (Z : State) (a0 : Array Value) (hw : ∀ d ∈ tables_1, d.before a0 Z = true) (x t : Addr) (c0 c1 : Int32) (hp0 : ¬ 255 < c0) (hp1 : ¬ 255 < c1) (hC0 : own_C c0) (hC1 : own_C c1) (h0 : Heap) (G : Sg Z h0 x t [.int (b8 c0), .int (b8 c1)]) (z : Int32) (hz : z ≠ 0) (S : Sta Z Z.heap "java/lang/String" "COMPACT_STRINGS" "Z" (.int z))(UA : Sta Z Z.heap "java/lang/StringUTF16" "$assertionsDisabled" "Z" (.int (1 : Int32))) (UH : Sta Z Z.heap "java/lang/StringUTF16" "HI_BYTE_SHIFT" "I" (.int (0 : Int32))) (UL : Sta Z Z.heap "java/lang/StringUTF16" "LO_BYTE_SHIFT" "I" (.int (8 : Int32)))(f : Value) (hf : f.isRef = true) (SF : Sta Z Z.heap "jdk/internal/util/Preconditions" "SIOOBE_FORMATTER" "Ljava/util/function/BiFunction;" f) :
    Ct Z ⟨"com/example/fleet_quant/fleetquant/io/TableCells", "canHold", "(Ljava/lang/String;)Z"⟩ prog_28_method_2_code 1 (Option.some FieldType.boolean) ({ frames := 9, cells := 0, slots := 0, locals := 140 } : Room) #[(.ref x)] h0 [] (fun v h => v = some (.int (if own_ok c0 ∧ own_ok c1 then 1 else 0)) ∧ h0 = h) := by
  refine Ct.intro (Ls := #[.val (.ref x)]) (plainFor_of_name pn_6) (by intro m; first | (simp [entryFrame, mkF, argsToLocals, Value.category]; done) | rfl) ?_
  refine Rn.aloadN (pc' := 1) d4_0 rfl rfl rfl ?_
  refine Rn.bipush (pc' := 3) (v := (9 : Int32)) d4_1 rfl rfl ?_
  refine Rn.callV (pc' := 6) (argsL := [.int (9 : Int32)]) (a := x) (rest := []) (ct_i1l2 Z a0 hw x t c0 c1 hp0 hp1 hC0 hC1 h0 G z hz S 9 rfl own_k9 UA UH UL f hf SF) G.1 (hw _ (List.mem_of_getElem? (i := 31) rfl)) (hw _ (List.mem_of_getElem? (i := 32) rfl)) (fun _ hZ => notFace_of_selects (args := #[]) (mvT hZ (hw _ (List.mem_of_getElem? (i := 34) rfl)))) (hw _ (List.mem_of_getElem? (i := 34) rfl)) (hw _ (List.mem_of_getElem? (i := 33) rfl)) (hw _ (List.mem_of_getElem? (i := 7) rfl)) (hw _ (List.mem_of_getElem? (i := 35) rfl)) (by decide) rfl rfl (lenOf pd_0 rfl) rfl d4_3 rfl (Nat.le_of_ble_eq_true rfl) (Nat.le_of_ble_eq_true rfl) (Nat.le_of_ble_eq_true rfl) (Nat.le_of_ble_eq_true rfl) (fun _ z => nomatch z) (fun _ z => nomatch z) (fun vq1 hq2 Kq3 qq4 => ?_)
  obtain ⟨⟨r9, rfl, hr9⟩, rfl⟩ := qq4
  simp only [Option.toList, List.cons_append, List.nil_append]
  refine Rn.if_ge (pc' := 31) (pn := 9) d4_6 (by decide) (by decide) rfl (fun cq5 => ?_) (fun cq5 => ?_)
  ·
    refine Rn.iconst (pc' := 32) (v := (0 : Int32)) d4_31 rfl rfl ?_
    refine Rn.retN (t := .boolean) rfl (by simp) d4_32 (Nat.le_of_ble_eq_true rfl) (Nat.le_of_ble_eq_true rfl) ?_
    refine ⟨?_, rfl⟩
    exact own_if_f (fun q => own_ngt cq5 (hr9.mpr (fun q' => by rcases q' with q' | q' <;> first | exact absurd q' q.1 | exact absurd q' q.1.1 | exact absurd q' q.2.1 | exact absurd q' q.2.1.1 | exact absurd q' q.2.2.1)))
  ·
    refine Rn.aloadN (pc' := 10) d4_9 rfl rfl rfl ?_
    refine Rn.bipush (pc' := 12) (v := (10 : Int32)) d4_10 rfl rfl ?_
    refine Rn.callV (pc' := 15) (argsL := [.int (10 : Int32)]) (a := x) (rest := []) (ct_i1l2 Z a0 hw x t c0 c1 hp0 hp1 hC0 hC1 h0 G z hz S 10 rfl own_k10 UA UH UL f hf SF) G.1 (hw _ (List.mem_of_getElem? (i := 31) rfl)) (hw _ (List.mem_of_getElem? (i := 32) rfl)) (fun _ hZ => notFace_of_selects (args := #[]) (mvT hZ (hw _ (List.mem_of_getElem? (i := 34) rfl)))) (hw _ (List.mem_of_getElem? (i := 34) rfl)) (hw _ (List.mem_of_getElem? (i := 33) rfl)) (hw _ (List.mem_of_getElem? (i := 7) rfl)) (hw _ (List.mem_of_getElem? (i := 35) rfl)) (by decide) rfl rfl (lenOf pd_0 rfl) rfl d4_12 rfl (Nat.le_of_ble_eq_true rfl) (Nat.le_of_ble_eq_true rfl) (Nat.le_of_ble_eq_true rfl) (Nat.le_of_ble_eq_true rfl) (fun _ z => nomatch z) (fun _ z => nomatch z) (fun vq6 hq7 Kq8 qq9 => ?_)
    obtain ⟨⟨r10, rfl, hr10⟩, rfl⟩ := qq9
    simp only [Option.toList, List.cons_append, List.nil_append]
    refine Rn.if_ge (pc' := 31) (pn := 18) d4_15 (by decide) (by decide) rfl (fun cq10 => ?_) (fun cq10 => ?_)
    ·
      refine Rn.iconst (pc' := 32) (v := (0 : Int32)) d4_31 rfl rfl ?_
      refine Rn.retN (t := .boolean) rfl (by simp) d4_32 (Nat.le_of_ble_eq_true rfl) (Nat.le_of_ble_eq_true rfl) ?_
      refine ⟨?_, rfl⟩
      exact own_if_f (fun q => own_ngt cq10 (hr10.mpr (fun q' => by rcases q' with q' | q' <;> first | exact absurd q' q.2.1 | exact absurd q' q.1.2.1 | exact absurd q' q.2.2.1 | exact absurd q' q.2.1.2.1 | exact absurd q' q.2.2.2.1)))
    ·
      refine Rn.aloadN (pc' := 19) d4_18 rfl rfl rfl ?_
      refine Rn.bipush (pc' := 21) (v := (13 : Int32)) d4_19 rfl rfl ?_
      refine Rn.callV (pc' := 24) (argsL := [.int (13 : Int32)]) (a := x) (rest := []) (ct_i1l2 Z a0 hw x t c0 c1 hp0 hp1 hC0 hC1 h0 G z hz S 13 rfl own_k13 UA UH UL f hf SF) G.1 (hw _ (List.mem_of_getElem? (i := 31) rfl)) (hw _ (List.mem_of_getElem? (i := 32) rfl)) (fun _ hZ => notFace_of_selects (args := #[]) (mvT hZ (hw _ (List.mem_of_getElem? (i := 34) rfl)))) (hw _ (List.mem_of_getElem? (i := 34) rfl)) (hw _ (List.mem_of_getElem? (i := 33) rfl)) (hw _ (List.mem_of_getElem? (i := 7) rfl)) (hw _ (List.mem_of_getElem? (i := 35) rfl)) (by decide) rfl rfl (lenOf pd_0 rfl) rfl d4_21 rfl (Nat.le_of_ble_eq_true rfl) (Nat.le_of_ble_eq_true rfl) (Nat.le_of_ble_eq_true rfl) (Nat.le_of_ble_eq_true rfl) (fun _ z => nomatch z) (fun _ z => nomatch z) (fun vq11 hq12 Kq13 qq14 => ?_)
      obtain ⟨⟨r13, rfl, hr13⟩, rfl⟩ := qq14
      simp only [Option.toList, List.cons_append, List.nil_append]
      refine Rn.if_ge (pc' := 31) (pn := 27) d4_24 (by decide) (by decide) rfl (fun cq15 => ?_) (fun cq15 => ?_)
      ·
        refine Rn.iconst (pc' := 32) (v := (0 : Int32)) d4_31 rfl rfl ?_
        refine Rn.retN (t := .boolean) rfl (by simp) d4_32 (Nat.le_of_ble_eq_true rfl) (Nat.le_of_ble_eq_true rfl) ?_
        refine ⟨?_, rfl⟩
        exact own_if_f (fun q => own_ngt cq15 (hr13.mpr (fun q' => by rcases q' with q' | q' <;> first | exact absurd q' q.2.2 | exact absurd q' q.1.2.2 | exact absurd q' q.2.2.2 | exact absurd q' q.2.1.2.2 | exact absurd q' q.2.2.2.2)))
      ·
        refine Rn.iconst (pc' := 28) (v := (1 : Int32)) d4_27 rfl rfl ?_
        refine Rn.goto (pc' := 32) d4_28 (by decide) (by decide) ?_
        refine Rn.retN (t := .boolean) rfl (by simp) d4_32 (Nat.le_of_ble_eq_true rfl) (Nat.le_of_ble_eq_true rfl) ?_
        refine ⟨?_, rfl⟩
        exact own_if_t ⟨⟨fun q => (hr9.mp (own_nge cq5)) (Or.inl q), fun q => (hr10.mp (own_nge cq10)) (Or.inl q), fun q => (hr13.mp (own_nge cq15)) (Or.inl q)⟩, ⟨fun q => (hr9.mp (own_nge cq5)) (Or.inr (q)), fun q => (hr10.mp (own_nge cq10)) (Or.inr (q)), fun q => (hr13.mp (own_nge cq15)) (Or.inr (q))⟩⟩
set_option maxRecDepth 65536 in
set_option maxHeartbeats 40000000 in
theorem ct_iouu2 (Z : State) (a0 : Array Value) (hw : ∀ d ∈ tables_1, d.before a0 Z = true) (t : Addr) (c0 c1 : Int32) (hC0 : own_C c0) (hC1 : own_C c1) (h0 : Heap) (A : Ax Z h0 t .byte [.int (b8 c0), .int (b8 (own_hi c0)), .int (b8 c1), .int (b8 (own_hi c1))]) (ch : Int32) (hb : b8 ch = ch) (hB : own_B ch)(UA : Sta Z Z.heap "java/lang/StringUTF16" "$assertionsDisabled" "Z" (.int (1 : Int32))) (UH : Sta Z Z.heap "java/lang/StringUTF16" "HI_BYTE_SHIFT" "I" (.int (0 : Int32))) (UL : Sta Z Z.heap "java/lang/StringUTF16" "LO_BYTE_SHIFT" "I" (.int (8 : Int32))) :
    Ct Z ⟨"java/lang/StringUTF16", "indexOfCharUnsafe", "([BIII)I"⟩ jdk_52_method_48_code 5 (Option.some FieldType.int) ({ frames := 1, cells := 0, slots := 0, locals := 13 } : Room) #[(.ref t), (.int ch), (.int (0 : Int32)), (.int (2 : Int32))] h0 [] (fun v h => (∃ r, v = some (.int r) ∧ (r < 0 ↔ ¬ (c0 = ch ∨ c1 = ch))) ∧ h0 = h) := by
  refine Ct.intro (Ls := #[.val (.ref t), .val (.int ch), .val (.int (0 : Int32)), .val (.int (2 : Int32)), .unset]) (plainFor_of_name pn_3) (by intro m; first | (simp [entryFrame, mkF, argsToLocals, Value.category]; done) | rfl) ?_
  refine Rn.iloadN (pc' := 1) d30_0 rfl rfl ?_
  refine Rn.istore (pc' := 3) (Ls' := #[.val (.ref t), .val (.int ch), .val (.int (0 : Int32)), .val (.int (2 : Int32)), .val (.int (0 : Int32))]) d30_1 rfl rfl ?_
  refine Rn.iload (pc' := 5) d30_3 rfl rfl ?_
  refine Rn.iloadN (pc' := 6) d30_5 rfl rfl ?_
  refine Rn.icmp_ge (pc' := 28) (pn := 9) d30_6 (by decide) (by decide) rfl (fun cq1 => absurd cq1 (by decide)) (fun cq1 => ?_)
  refine Rn.aloadN (pc' := 10) d30_9 rfl rfl rfl ?_
  refine Rn.iload (pc' := 12) d30_10 rfl rfl ?_
  refine Rn.callS (pc' := 15) (argsL := [.ref t, .int (0 : Int32)]) (rest := []) (ct_gch2_0 Z a0 hw t c0 c1 hC0 h0 A UA UH UL) (hw _ (List.mem_of_getElem? (i := 103) rfl)) (hw _ (List.mem_of_getElem? (i := 104) rfl)) (hw _ (List.mem_of_getElem? (i := 73) rfl)) (hw _ (List.mem_of_getElem? (i := 105) rfl)) (by decide) rfl rfl (lenOf pd_5 rfl) rfl d30_12 rfl (Nat.le_of_ble_eq_true rfl) (Nat.le_of_ble_eq_true rfl) (Nat.le_of_ble_eq_true rfl) (Nat.le_of_ble_eq_true rfl) (fun _ z => nomatch z) (fun _ z => nomatch z) (fun vq2 hq3 Kq4 qq5 => ?_)
  obtain ⟨rfl, rfl⟩ := qq5
  simp only [Option.toList, List.cons_append, List.nil_append]
  refine Rn.iloadN (pc' := 16) d30_15 rfl rfl ?_
  refine Rn.icmp_ne (pc' := 22) (pn := 19) d30_16 (by decide) (by decide) rfl (fun cq6 => ?_) (fun cq6 => ?_)
  ·
    refine Rn.iinc (pc' := 25) (v := (1 : Int32)) (Ls' := #[.val (.ref t), .val (.int ch), .val (.int (0 : Int32)), .val (.int (2 : Int32)), .val (.int (1 : Int32))]) d30_22 rfl rfl rfl rfl ?_
    refine Rn.goto (pc' := 3) d30_25 (by decide) (by decide) ?_
    refine Rn.iload (pc' := 5) d30_3 rfl rfl ?_
    refine Rn.iloadN (pc' := 6) d30_5 rfl rfl ?_
    refine Rn.icmp_ge (pc' := 28) (pn := 9) d30_6 (by decide) (by decide) rfl (fun cq7 => absurd cq7 (by decide)) (fun cq7 => ?_)
    refine Rn.aloadN (pc' := 10) d30_9 rfl rfl rfl ?_
    refine Rn.iload (pc' := 12) d30_10 rfl rfl ?_
    refine Rn.callS (pc' := 15) (argsL := [.ref t, .int (1 : Int32)]) (rest := []) (ct_gch2_1 Z a0 hw t c0 c1 hC1 h0 A UA UH UL) (hw _ (List.mem_of_getElem? (i := 103) rfl)) (hw _ (List.mem_of_getElem? (i := 104) rfl)) (hw _ (List.mem_of_getElem? (i := 73) rfl)) (hw _ (List.mem_of_getElem? (i := 105) rfl)) (by decide) rfl rfl (lenOf pd_5 rfl) rfl d30_12 rfl (Nat.le_of_ble_eq_true rfl) (Nat.le_of_ble_eq_true rfl) (Nat.le_of_ble_eq_true rfl) (Nat.le_of_ble_eq_true rfl) (fun _ z => nomatch z) (fun _ z => nomatch z) (fun vq8 hq9 Kq10 qq11 => ?_)
    obtain ⟨rfl, rfl⟩ := qq11
    simp only [Option.toList, List.cons_append, List.nil_append]
    refine Rn.iloadN (pc' := 16) d30_15 rfl rfl ?_
    refine Rn.icmp_ne (pc' := 22) (pn := 19) d30_16 (by decide) (by decide) rfl (fun cq12 => ?_) (fun cq12 => ?_)
    ·
      refine Rn.iinc (pc' := 25) (v := (2 : Int32)) (Ls' := #[.val (.ref t), .val (.int ch), .val (.int (0 : Int32)), .val (.int (2 : Int32)), .val (.int (2 : Int32))]) d30_22 rfl rfl rfl rfl ?_
      refine Rn.goto (pc' := 3) d30_25 (by decide) (by decide) ?_
      refine Rn.iload (pc' := 5) d30_3 rfl rfl ?_
      refine Rn.iloadN (pc' := 6) d30_5 rfl rfl ?_
      refine Rn.icmp_ge (pc' := 28) (pn := 9) d30_6 (by decide) (by decide) rfl (fun cq13 => ?_) (fun cq13 => absurd cq13 (by decide))
      refine Rn.iconst (pc' := 29) (v := (-1 : Int32)) d30_28 rfl rfl ?_
      refine Rn.retI rfl d30_29 (Nat.le_of_ble_eq_true rfl) (Nat.le_of_ble_eq_true rfl) ?_
      refine ⟨⟨_, rfl, ⟨fun _ q => ?_, fun _ => by decide⟩⟩, rfl⟩
      rcases q with q | q
      · exact cq6 q
      · exact cq12 q
    ·
      refine Rn.iload (pc' := 21) d30_19 rfl rfl ?_
      refine Rn.retI rfl d30_21 (Nat.le_of_ble_eq_true rfl) (Nat.le_of_ble_eq_true rfl) ?_
      exact ⟨⟨_, rfl, ⟨fun q => absurd q (by decide), fun q => absurd (Or.inr ((cq12))) q⟩⟩, rfl⟩
  ·
    refine Rn.iload (pc' := 21) d30_19 rfl rfl ?_
    refine Rn.retI rfl d30_21 (Nat.le_of_ble_eq_true rfl) (Nat.le_of_ble_eq_true rfl) ?_
    exact ⟨⟨_, rfl, ⟨fun q => absurd q (by decide), fun q => absurd (Or.inl (cq6)) q⟩⟩, rfl⟩
set_option maxRecDepth 65536 in
set_option maxHeartbeats 40000000 in
theorem ct_ulu2 (Z : State) (a0 : Array Value) (hw : ∀ d ∈ tables_1, d.before a0 Z = true) (t : Addr) (c0 c1 : Int32) (hC0 : own_C c0) (hC1 : own_C c1) (h0 : Heap) (A : Ax Z h0 t .byte [.int (b8 c0), .int (b8 (own_hi c0)), .int (b8 c1), .int (b8 (own_hi c1))]) (ch : Int32) (hb : b8 ch = ch) (hB : own_B ch) :
    Ct Z ⟨"java/lang/StringUTF16", "length", "([B)I"⟩ jdk_52_method_6_code 1 (Option.some FieldType.int) ({ frames := 0, cells := 0, slots := 0, locals := 0 } : Room) #[(.ref t)] h0 [] (fun v h => v = some (.int (2 : Int32)) ∧ h0 = h) := by
  refine Ct.intro (Ls := #[.val (.ref t)]) (plainFor_of_name pn_3) (by intro m; first | (simp [entryFrame, mkF, argsToLocals, Value.category]; done) | rfl) ?_
  refine Rn.aloadN (pc' := 1) d27_0 rfl rfl rfl ?_
  refine Rn.arraylength (pc' := 2) (n := (4 : Int32)) A rfl d27_1 rfl ?_
  refine Rn.iconst (pc' := 3) (v := (1 : Int32)) d27_2 rfl rfl ?_
  refine Rn.ishr (pc' := 4) (v := (2 : Int32)) d27_3 rfl rfl ?_
  refine Rn.retI rfl d27_4 (Nat.le_of_ble_eq_true rfl) (Nat.le_of_ble_eq_true rfl) ?_
  exact ⟨rfl, rfl⟩
set_option maxRecDepth 65536 in
set_option maxHeartbeats 40000000 in
theorem ct_cftA2 (Z : State) (a0 : Array Value) (hw : ∀ d ∈ tables_1, d.before a0 Z = true) (f : Addr) (h0 : Heap) :
    Ct Z ⟨"jdk/internal/util/Preconditions", "checkFromToIndex", "(IIILjava/util/function/BiFunction;)I"⟩ jdk_41_method_12_code 4 (Option.some FieldType.int) ({ frames := 0, cells := 0, slots := 0, locals := 0 } : Room) #[(.int (0 : Int32)), (.int (2 : Int32)), (.int (2 : Int32)), (.ref f)] h0 [] (fun v h => v = some (.int (0 : Int32)) ∧ h0 = h) := by
  refine Ct.intro (Ls := #[.val (.int (0 : Int32)), .val (.int (2 : Int32)), .val (.int (2 : Int32)), .val (.ref f)]) (plainFor_of_name pn_7) (by intro m; first | (simp [entryFrame, mkF, argsToLocals, Value.category]; done) | rfl) ?_
  refine Rn.iloadN (pc' := 1) d29_0 rfl rfl ?_
  refine Rn.if_lt (pc' := 14) (pn := 4) d29_1 (by decide) (by decide) rfl (fun cq1 => absurd cq1 (by decide)) (fun cq1 => ?_)
  refine Rn.iloadN (pc' := 5) d29_4 rfl rfl ?_
  refine Rn.iloadN (pc' := 6) d29_5 rfl rfl ?_
  refine Rn.icmp_gt (pc' := 14) (pn := 9) d29_6 (by decide) (by decide) rfl (fun cq2 => absurd cq2 (by decide)) (fun cq2 => ?_)
  refine Rn.iloadN (pc' := 10) d29_9 rfl rfl ?_
  refine Rn.iloadN (pc' := 11) d29_10 rfl rfl ?_
  refine Rn.icmp_le (pc' := 22) (pn := 14) d29_11 (by decide) (by decide) rfl (fun cq3 => ?_) (fun cq3 => absurd cq3 (by decide))
  refine Rn.iloadN (pc' := 23) d29_22 rfl rfl ?_
  refine Rn.retI rfl d29_23 (Nat.le_of_ble_eq_true rfl) (Nat.le_of_ble_eq_true rfl) ?_
  exact ⟨rfl, rfl⟩
set_option maxRecDepth 65536 in
set_option maxHeartbeats 40000000 in
theorem ct_cbeA2 (Z : State) (a0 : Array Value) (hw : ∀ d ∈ tables_1, d.before a0 Z = true) (f : Addr) (h0 : Heap) (SF : Sta Z Z.heap "jdk/internal/util/Preconditions" "SIOOBE_FORMATTER" "Ljava/util/function/BiFunction;" (.ref f)) :
    Ct Z ⟨"java/lang/String", "checkBoundsBeginEnd", "(III)V"⟩ jdk_42_method_158_code 3 (Option.none : Option FieldType) ({ frames := 1, cells := 0, slots := 0, locals := 15 } : Room) #[(.int (0 : Int32)), (.int (2 : Int32)), (.int (2 : Int32))] h0 [] (fun v h => v = none ∧ h0 = h) := by
  refine Ct.intro (Ls := #[.val (.int (0 : Int32)), .val (.int (2 : Int32)), .val (.int (2 : Int32))]) (plainFor_of_name pn_4) (by intro m; first | (simp [entryFrame, mkF, argsToLocals, Value.category]; done) | rfl) ?_
  refine Rn.iloadN (pc' := 1) d28_0 rfl rfl ?_
  refine Rn.iloadN (pc' := 2) d28_1 rfl rfl ?_
  refine Rn.iloadN (pc' := 3) d28_2 rfl rfl ?_
  refine Rn.old fun Oq1 _ => ?_
  refine Rn.getS (pc' := 6) (hw _ (List.mem_of_getElem? (i := 124) rfl)) Via.refl (SF.ext Oq1) d28_3 rfl ?_
  refine Rn.callS (pc' := 9) (argsL := [.int (0 : Int32), .int (2 : Int32), .int (2 : Int32), .ref f]) (rest := []) (ct_cftA2 Z a0 hw f h0) (hw _ (List.mem_of_getElem? (i := 126) rfl)) (hw _ (List.mem_of_getElem? (i := 127) rfl)) (hw _ (List.mem_of_getElem? (i := 125) rfl)) (hw _ (List.mem_of_getElem? (i := 128) rfl)) (by decide) rfl rfl (lenOf pd_14 rfl) rfl d28_6 rfl (Nat.le_of_ble_eq_true rfl) (Nat.le_of_ble_eq_true rfl) (Nat.le_of_ble_eq_true rfl) (Nat.le_of_ble_eq_true rfl) (fun _ z => nomatch z) (fun _ z => nomatch z) (fun vq2 hq3 Kq4 qq5 => ?_)
  obtain ⟨rfl, rfl⟩ := qq5
  simp only [Option.toList, List.cons_append, List.nil_append]
  refine Rn.pop (pc' := 10) d28_9 rfl rfl ?_
  refine Rn.retV rfl d28_10 (Nat.le_of_ble_eq_true rfl) (Nat.le_of_ble_eq_true rfl) ?_
  exact ⟨rfl, rfl⟩
set_option maxRecDepth 65536 in
set_option maxHeartbeats 40000000 in
theorem ct_cftN2 (Z : State) (a0 : Array Value) (hw : ∀ d ∈ tables_1, d.before a0 Z = true) (h0 : Heap) :
    Ct Z ⟨"jdk/internal/util/Preconditions", "checkFromToIndex", "(IIILjava/util/function/BiFunction;)I"⟩ jdk_41_method_12_code 4 (Option.some FieldType.int) ({ frames := 0, cells := 0, slots := 0, locals := 0 } : Room) #[(.int (0 : Int32)), (.int (2 : Int32)), (.int (2 : Int32)), (.null)] h0 [] (fun v h => v = some (.int (0 : Int32)) ∧ h0 = h) := by
  refine Ct.intro (Ls := #[.val (.int (0 : Int32)), .val (.int (2 : Int32)), .val (.int (2 : Int32)), .val (.null)]) (plainFor_of_name pn_7) (by intro m; first | (simp [entryFrame, mkF, argsToLocals, Value.category]; done) | rfl) ?_
  refine Rn.iloadN (pc' := 1) d29_0 rfl rfl ?_
  refine Rn.if_lt (pc' := 14) (pn := 4) d29_1 (by decide) (by decide) rfl (fun cq1 => absurd cq1 (by decide)) (fun cq1 => ?_)
  refine Rn.iloadN (pc' := 5) d29_4 rfl rfl ?_
  refine Rn.iloadN (pc' := 6) d29_5 rfl rfl ?_
  refine Rn.icmp_gt (pc' := 14) (pn := 9) d29_6 (by decide) (by decide) rfl (fun cq2 => absurd cq2 (by decide)) (fun cq2 => ?_)
  refine Rn.iloadN (pc' := 10) d29_9 rfl rfl ?_
  refine Rn.iloadN (pc' := 11) d29_10 rfl rfl ?_
  refine Rn.icmp_le (pc' := 22) (pn := 14) d29_11 (by decide) (by decide) rfl (fun cq3 => ?_) (fun cq3 => absurd cq3 (by decide))
  refine Rn.iloadN (pc' := 23) d29_22 rfl rfl ?_
  refine Rn.retI rfl d29_23 (Nat.le_of_ble_eq_true rfl) (Nat.le_of_ble_eq_true rfl) ?_
  exact ⟨rfl, rfl⟩
set_option maxRecDepth 65536 in
set_option maxHeartbeats 40000000 in
theorem ct_cbeN2 (Z : State) (a0 : Array Value) (hw : ∀ d ∈ tables_1, d.before a0 Z = true) (h0 : Heap) (SF : Sta Z Z.heap "jdk/internal/util/Preconditions" "SIOOBE_FORMATTER" "Ljava/util/function/BiFunction;" (.null)) :
    Ct Z ⟨"java/lang/String", "checkBoundsBeginEnd", "(III)V"⟩ jdk_42_method_158_code 3 (Option.none : Option FieldType) ({ frames := 1, cells := 0, slots := 0, locals := 15 } : Room) #[(.int (0 : Int32)), (.int (2 : Int32)), (.int (2 : Int32))] h0 [] (fun v h => v = none ∧ h0 = h) := by
  refine Ct.intro (Ls := #[.val (.int (0 : Int32)), .val (.int (2 : Int32)), .val (.int (2 : Int32))]) (plainFor_of_name pn_4) (by intro m; first | (simp [entryFrame, mkF, argsToLocals, Value.category]; done) | rfl) ?_
  refine Rn.iloadN (pc' := 1) d28_0 rfl rfl ?_
  refine Rn.iloadN (pc' := 2) d28_1 rfl rfl ?_
  refine Rn.iloadN (pc' := 3) d28_2 rfl rfl ?_
  refine Rn.old fun Oq1 _ => ?_
  refine Rn.getS (pc' := 6) (hw _ (List.mem_of_getElem? (i := 124) rfl)) Via.refl (SF.ext Oq1) d28_3 rfl ?_
  refine Rn.callS (pc' := 9) (argsL := [.int (0 : Int32), .int (2 : Int32), .int (2 : Int32), .null]) (rest := []) (ct_cftN2 Z a0 hw h0) (hw _ (List.mem_of_getElem? (i := 126) rfl)) (hw _ (List.mem_of_getElem? (i := 127) rfl)) (hw _ (List.mem_of_getElem? (i := 125) rfl)) (hw _ (List.mem_of_getElem? (i := 128) rfl)) (by decide) rfl rfl (lenOf pd_14 rfl) rfl d28_6 rfl (Nat.le_of_ble_eq_true rfl) (Nat.le_of_ble_eq_true rfl) (Nat.le_of_ble_eq_true rfl) (Nat.le_of_ble_eq_true rfl) (fun _ z => nomatch z) (fun _ z => nomatch z) (fun vq2 hq3 Kq4 qq5 => ?_)
  obtain ⟨rfl, rfl⟩ := qq5
  simp only [Option.toList, List.cons_append, List.nil_append]
  refine Rn.pop (pc' := 10) d28_9 rfl rfl ?_
  refine Rn.retV rfl d28_10 (Nat.le_of_ble_eq_true rfl) (Nat.le_of_ble_eq_true rfl) ?_
  exact ⟨rfl, rfl⟩
theorem ct_cbe2 (Z : State) (a0 : Array Value) (hw : ∀ d ∈ tables_1, d.before a0 Z = true) (h0 : Heap) (f : Value) (hf : f.isRef = true) (SF : Sta Z Z.heap "jdk/internal/util/Preconditions" "SIOOBE_FORMATTER" "Ljava/util/function/BiFunction;" f) :
    Ct Z ⟨"java/lang/String", "checkBoundsBeginEnd", "(III)V"⟩ jdk_42_method_158_code 3 (Option.none : Option FieldType) ({ frames := 1, cells := 0, slots := 0, locals := 15 } : Room) #[(.int (0 : Int32)), (.int (2 : Int32)), (.int (2 : Int32))] h0 [] (fun v h => v = none ∧ h0 = h) := by
  rcases ref_cases hf with rfl | ⟨f, rfl⟩
  · exact ct_cbeN2 Z a0 hw h0 SF
  · exact ct_cbeA2 Z a0 hw f h0 SF
set_option maxRecDepth 65536 in
set_option maxHeartbeats 40000000 in
theorem ct_ucbu2 (Z : State) (a0 : Array Value) (hw : ∀ d ∈ tables_1, d.before a0 Z = true) (t : Addr) (c0 c1 : Int32) (hC0 : own_C c0) (hC1 : own_C c1) (h0 : Heap) (A : Ax Z h0 t .byte [.int (b8 c0), .int (b8 (own_hi c0)), .int (b8 c1), .int (b8 (own_hi c1))]) (ch : Int32) (hb : b8 ch = ch) (hB : own_B ch)(f : Value) (hf : f.isRef = true) (SF : Sta Z Z.heap "jdk/internal/util/Preconditions" "SIOOBE_FORMATTER" "Ljava/util/function/BiFunction;" f) :
    Ct Z ⟨"java/lang/StringUTF16", "checkBoundsBeginEnd", "(II[B)V"⟩ jdk_52_method_93_code 3 (Option.none : Option FieldType) ({ frames := 2, cells := 0, slots := 0, locals := 29 } : Room) #[(.int (0 : Int32)), (.int (2 : Int32)), (.ref t)] h0 [] (fun v h => v = none ∧ h0 = h) := by
  refine Ct.intro (Ls := #[.val (.int (0 : Int32)), .val (.int (2 : Int32)), .val (.ref t)]) (plainFor_of_name pn_3) (by intro m; first | (simp [entryFrame, mkF, argsToLocals, Value.category]; done) | rfl) ?_
  refine Rn.iloadN (pc' := 1) d26_0 rfl rfl ?_
  refine Rn.iloadN (pc' := 2) d26_1 rfl rfl ?_
  refine Rn.aloadN (pc' := 3) d26_2 rfl rfl rfl ?_
  refine Rn.callS (pc' := 6) (argsL := [.ref t]) (rest := [.int (2 : Int32), .int (0 : Int32)]) (ct_ulu2 Z a0 hw t c0 c1  hC0 hC1 h0 A ch hb hB) (hw _ (List.mem_of_getElem? (i := 118) rfl)) (hw _ (List.mem_of_getElem? (i := 119) rfl)) (hw _ (List.mem_of_getElem? (i := 73) rfl)) (hw _ (List.mem_of_getElem? (i := 120) rfl)) (by decide) rfl rfl (lenOf pd_15 rfl) rfl d26_3 rfl (Nat.le_of_ble_eq_true rfl) (Nat.le_of_ble_eq_true rfl) (Nat.le_of_ble_eq_true rfl) (Nat.le_of_ble_eq_true rfl) (fun _ z => nomatch z) (fun _ z => nomatch z) (fun vq1 hq2 Kq3 qq4 => ?_)
  obtain ⟨rfl, rfl⟩ := qq4
  simp only [Option.toList, List.cons_append, List.nil_append]
  refine Rn.callS (pc' := 9) (argsL := [.int (0 : Int32), .int (2 : Int32), .int (2 : Int32)]) (rest := []) (ct_cbe2 Z a0 hw h0 f hf SF) (hw _ (List.mem_of_getElem? (i := 121) rfl)) (hw _ (List.mem_of_getElem? (i := 122) rfl)) (hw _ (List.mem_of_getElem? (i := 7) rfl)) (hw _ (List.mem_of_getElem? (i := 123) rfl)) (by decide) rfl rfl (lenOf pd_16 rfl) rfl d26_6 rfl (Nat.le_of_ble_eq_true rfl) (Nat.le_of_ble_eq_true rfl) (Nat.le_of_ble_eq_true rfl) (Nat.le_of_ble_eq_true rfl) (fun _ z => nomatch z) (fun _ z => nomatch z) (fun vq5 hq6 Kq7 qq8 => ?_)
  obtain ⟨rfl, rfl⟩ := qq8
  simp only [Option.toList, List.cons_append, List.nil_append]
  refine Rn.retV rfl d26_9 (Nat.le_of_ble_eq_true rfl) (Nat.le_of_ble_eq_true rfl) ?_
  exact ⟨rfl, rfl⟩
set_option maxRecDepth 65536 in
set_option maxHeartbeats 40000000 in
theorem ct_iocu2 (Z : State) (a0 : Array Value) (hw : ∀ d ∈ tables_1, d.before a0 Z = true) (t : Addr) (c0 c1 : Int32) (hC0 : own_C c0) (hC1 : own_C c1) (h0 : Heap) (A : Ax Z h0 t .byte [.int (b8 c0), .int (b8 (own_hi c0)), .int (b8 c1), .int (b8 (own_hi c1))]) (ch : Int32) (hb : b8 ch = ch) (hB : own_B ch)(UA : Sta Z Z.heap "java/lang/StringUTF16" "$assertionsDisabled" "Z" (.int (1 : Int32))) (UH : Sta Z Z.heap "java/lang/StringUTF16" "HI_BYTE_SHIFT" "I" (.int (0 : Int32))) (UL : Sta Z Z.heap "java/lang/StringUTF16" "LO_BYTE_SHIFT" "I" (.int (8 : Int32)))(f : Value) (hf : f.isRef = true) (SF : Sta Z Z.heap "jdk/internal/util/Preconditions" "SIOOBE_FORMATTER" "Ljava/util/function/BiFunction;" f) :
    Ct Z ⟨"java/lang/StringUTF16", "indexOfChar", "([BIII)I"⟩ jdk_52_method_47_code 4 (Option.some FieldType.int) ({ frames := 3, cells := 0, slots := 0, locals := 43 } : Room) #[(.ref t), (.int ch), (.int (0 : Int32)), (.int (2 : Int32))] h0 [] (fun v h => (∃ r, v = some (.int r) ∧ (r < 0 ↔ ¬ (c0 = ch ∨ c1 = ch))) ∧ h0 = h) := by
  refine Ct.intro (Ls := #[.val (.ref t), .val (.int ch), .val (.int (0 : Int32)), .val (.int (2 : Int32))]) (plainFor_of_name pn_3) (by intro m; first | (simp [entryFrame, mkF, argsToLocals, Value.category]; done) | rfl) ?_
  refine Rn.iloadN (pc' := 1) d25_0 rfl rfl ?_
  refine Rn.iloadN (pc' := 2) d25_1 rfl rfl ?_
  refine Rn.aloadN (pc' := 3) d25_2 rfl rfl rfl ?_
  refine Rn.callS (pc' := 6) (argsL := [.int (0 : Int32), .int (2 : Int32), .ref t]) (rest := []) (ct_ucbu2 Z a0 hw t c0 c1  hC0 hC1 h0 A ch hb hB f hf SF) (hw _ (List.mem_of_getElem? (i := 115) rfl)) (hw _ (List.mem_of_getElem? (i := 116) rfl)) (hw _ (List.mem_of_getElem? (i := 73) rfl)) (hw _ (List.mem_of_getElem? (i := 117) rfl)) (by decide) rfl rfl (lenOf pd_17 rfl) rfl d25_3 rfl (Nat.le_of_ble_eq_true rfl) (Nat.le_of_ble_eq_true rfl) (Nat.le_of_ble_eq_true rfl) (Nat.le_of_ble_eq_true rfl) (fun _ z => nomatch z) (fun _ z => nomatch z) (fun vq1 hq2 Kq3 qq4 => ?_)
  obtain ⟨rfl, rfl⟩ := qq4
  simp only [Option.toList, List.cons_append, List.nil_append]
  refine Rn.aloadN (pc' := 7) d25_6 rfl rfl rfl ?_
  refine Rn.iloadN (pc' := 8) d25_7 rfl rfl ?_
  refine Rn.iloadN (pc' := 9) d25_8 rfl rfl ?_
  refine Rn.iloadN (pc' := 10) d25_9 rfl rfl ?_
  refine Rn.callS (pc' := 13) (argsL := [.ref t, .int ch, .int (0 : Int32), .int (2 : Int32)]) (rest := []) (ct_iouu2 Z a0 hw t c0 c1  hC0 hC1 h0 A ch hb hB UA UH UL) (hw _ (List.mem_of_getElem? (i := 129) rfl)) (hw _ (List.mem_of_getElem? (i := 130) rfl)) (hw _ (List.mem_of_getElem? (i := 73) rfl)) (hw _ (List.mem_of_getElem? (i := 131) rfl)) (by decide) rfl rfl (lenOf pd_13 rfl) rfl d25_10 rfl (Nat.le_of_ble_eq_true rfl) (Nat.le_of_ble_eq_true rfl) (Nat.le_of_ble_eq_true rfl) (Nat.le_of_ble_eq_true rfl) (fun _ z => nomatch z) (fun _ z => nomatch z) (fun vq5 hq6 Kq7 qq8 => ?_)
  obtain ⟨⟨r, rfl, hr⟩, rfl⟩ := qq8
  simp only [Option.toList, List.cons_append, List.nil_append]
  refine Rn.retI rfl d25_13 (Nat.le_of_ble_eq_true rfl) (Nat.le_of_ble_eq_true rfl) ?_
  exact ⟨⟨r, rfl, hr⟩, rfl⟩
set_option maxRecDepth 65536 in
set_option maxHeartbeats 40000000 in
theorem ct_ixu2 (Z : State) (a0 : Array Value) (hw : ∀ d ∈ tables_1, d.before a0 Z = true) (t : Addr) (c0 c1 : Int32) (hC0 : own_C c0) (hC1 : own_C c1) (h0 : Heap) (A : Ax Z h0 t .byte [.int (b8 c0), .int (b8 (own_hi c0)), .int (b8 c1), .int (b8 (own_hi c1))]) (ch : Int32) (hb : b8 ch = ch) (hB : own_B ch)(UA : Sta Z Z.heap "java/lang/StringUTF16" "$assertionsDisabled" "Z" (.int (1 : Int32))) (UH : Sta Z Z.heap "java/lang/StringUTF16" "HI_BYTE_SHIFT" "I" (.int (0 : Int32))) (UL : Sta Z Z.heap "java/lang/StringUTF16" "LO_BYTE_SHIFT" "I" (.int (8 : Int32)))(f : Value) (hf : f.isRef = true) (SF : Sta Z Z.heap "jdk/internal/util/Preconditions" "SIOOBE_FORMATTER" "Ljava/util/function/BiFunction;" f) :
    Ct Z ⟨"java/lang/StringUTF16", "indexOf", "([BIII)I"⟩ jdk_52_method_40_code 4 (Option.some FieldType.int) ({ frames := 4, cells := 0, slots := 0, locals := 58 } : Room) #[(.ref t), (.int ch), (.int (0 : Int32)), (.int (2 : Int32))] h0 [] (fun v h => (∃ r, v = some (.int r) ∧ (r < 0 ↔ ¬ (c0 = ch ∨ c1 = ch))) ∧ h0 = h) := by
  refine Ct.intro (Ls := #[.val (.ref t), .val (.int ch), .val (.int (0 : Int32)), .val (.int (2 : Int32))]) (plainFor_of_name pn_3) (by intro m; first | (simp [entryFrame, mkF, argsToLocals, Value.category]; done) | rfl) ?_
  refine Rn.iloadN (pc' := 1) d24_0 rfl rfl ?_
  refine Rn.iconst (pc' := 2) (v := (0 : Int32)) d24_1 rfl rfl ?_
  refine Rn.callS (pc' := 5) (argsL := [.int (0 : Int32), .int (0 : Int32)]) (rest := []) (ct_mx00 Z a0 hw h0) (hw _ (List.mem_of_getElem? (i := 109) rfl)) (hw _ (List.mem_of_getElem? (i := 65) rfl)) (hw _ (List.mem_of_getElem? (i := 66) rfl)) (hw _ (List.mem_of_getElem? (i := 67) rfl)) (by decide) rfl rfl (lenOf pd_9 rfl) rfl d24_2 rfl (Nat.le_of_ble_eq_true rfl) (Nat.le_of_ble_eq_true rfl) (Nat.le_of_ble_eq_true rfl) (Nat.le_of_ble_eq_true rfl) (fun _ z => nomatch z) (fun _ z => nomatch z) (fun vq1 hq2 Kq3 qq4 => ?_)
  obtain ⟨rfl, rfl⟩ := qq4
  simp only [Option.toList, List.cons_append, List.nil_append]
  refine Rn.istoreN (pc' := 6) (Ls' := #[.val (.ref t), .val (.int ch), .val (.int (0 : Int32)), .val (.int (2 : Int32))]) d24_5 rfl rfl ?_
  refine Rn.iloadN (pc' := 7) d24_6 rfl rfl ?_
  refine Rn.aloadN (pc' := 8) d24_7 rfl rfl rfl ?_
  refine Rn.arraylength (pc' := 9) (n := (4 : Int32)) A rfl d24_8 rfl ?_
  refine Rn.iconst (pc' := 10) (v := (1 : Int32)) d24_9 rfl rfl ?_
  refine Rn.ishr (pc' := 11) (v := (2 : Int32)) d24_10 rfl rfl ?_
  refine Rn.callS (pc' := 14) (argsL := [.int (2 : Int32), .int (2 : Int32)]) (rest := []) (ct_mn2 Z a0 hw h0) (hw _ (List.mem_of_getElem? (i := 110) rfl)) (hw _ (List.mem_of_getElem? (i := 69) rfl)) (hw _ (List.mem_of_getElem? (i := 66) rfl)) (hw _ (List.mem_of_getElem? (i := 70) rfl)) (by decide) rfl rfl (lenOf pd_9 rfl) rfl d24_11 rfl (Nat.le_of_ble_eq_true rfl) (Nat.le_of_ble_eq_true rfl) (Nat.le_of_ble_eq_true rfl) (Nat.le_of_ble_eq_true rfl) (fun _ z => nomatch z) (fun _ z => nomatch z) (fun vq5 hq6 Kq7 qq8 => ?_)
  obtain ⟨rfl, rfl⟩ := qq8
  simp only [Option.toList, List.cons_append, List.nil_append]
  refine Rn.istoreN (pc' := 15) (Ls' := #[.val (.ref t), .val (.int ch), .val (.int (0 : Int32)), .val (.int (2 : Int32))]) d24_14 rfl rfl ?_
  refine Rn.iloadN (pc' := 16) d24_15 rfl rfl ?_
  refine Rn.iloadN (pc' := 17) d24_16 rfl rfl ?_
  refine Rn.icmp_lt (pc' := 22) (pn := 20) d24_17 (by decide) (by decide) rfl (fun cq9 => ?_) (fun cq9 => absurd cq9 (by decide))
  refine Rn.iloadN (pc' := 23) d24_22 rfl rfl ?_
  refine Rn.ldcI (pc' := 25) (hw _ (List.mem_of_getElem? (i := 111) rfl)) d24_23 rfl ?_
  refine Rn.icmp_ge (pc' := 36) (pn := 28) d24_25 (by decide) (by decide) rfl (fun cq10 => absurd (own_lt16 hB) cq10) (fun cq10 => ?_)
  refine Rn.aloadN (pc' := 29) d24_28 rfl rfl rfl ?_
  refine Rn.iloadN (pc' := 30) d24_29 rfl rfl ?_
  refine Rn.iloadN (pc' := 31) d24_30 rfl rfl ?_
  refine Rn.iloadN (pc' := 32) d24_31 rfl rfl ?_
  refine Rn.callS (pc' := 35) (argsL := [.ref t, .int ch, .int (0 : Int32), .int (2 : Int32)]) (rest := []) (ct_iocu2 Z a0 hw t c0 c1  hC0 hC1 h0 A ch hb hB UA UH UL f hf SF) (hw _ (List.mem_of_getElem? (i := 112) rfl)) (hw _ (List.mem_of_getElem? (i := 113) rfl)) (hw _ (List.mem_of_getElem? (i := 73) rfl)) (hw _ (List.mem_of_getElem? (i := 114) rfl)) (by decide) rfl rfl (lenOf pd_13 rfl) rfl d24_32 rfl (Nat.le_of_ble_eq_true rfl) (Nat.le_of_ble_eq_true rfl) (Nat.le_of_ble_eq_true rfl) (Nat.le_of_ble_eq_true rfl) (fun _ z => nomatch z) (fun _ z => nomatch z) (fun vq11 hq12 Kq13 qq14 => ?_)
  obtain ⟨⟨r, rfl, hr⟩, rfl⟩ := qq14
  simp only [Option.toList, List.cons_append, List.nil_append]
  refine Rn.retI rfl d24_35 (Nat.le_of_ble_eq_true rfl) (Nat.le_of_ble_eq_true rfl) ?_
  exact ⟨⟨r, rfl, hr⟩, rfl⟩
set_option maxRecDepth 65536 in
set_option maxHeartbeats 40000000 in
theorem ct_cdu2 (Z : State) (a0 : Array Value) (hw : ∀ d ∈ tables_1, d.before a0 Z = true) (x t : Addr) (c0 c1 : Int32) (hC0 : own_C c0) (hC1 : own_C c1) (h0 : Heap) (G : Su Z h0 x t [.int (b8 c0), .int (b8 (own_hi c0)), .int (b8 c1), .int (b8 (own_hi c1))]) (z : Int32) (hz : z ≠ 0) (S : Sta Z Z.heap "java/lang/String" "COMPACT_STRINGS" "Z" (.int z)) :
    Ct Z ⟨"java/lang/String", "coder", "()B"⟩ jdk_42_method_152_code 1 (Option.some FieldType.byte) ({ frames := 0, cells := 0, slots := 0, locals := 0 } : Room) #[(.ref x)] h0 [] (fun v h => v = some (.int (1 : Int32)) ∧ h0 = h) := by
  refine Ct.intro (Ls := #[.val (.ref x)]) (plainFor_of_name pn_4) (by intro m; first | (simp [entryFrame, mkF, argsToLocals, Value.category]; done) | rfl) ?_
  refine Rn.old fun Oq1 _ => ?_
  refine Rn.getS (pc' := 3) (hw _ (List.mem_of_getElem? (i := 46) rfl)) Via.refl (S.ext Oq1) d9_0 rfl ?_
  refine Rn.if_eq (pc' := 13) (pn := 6) d9_3 (by decide) (by decide) rfl (fun cq2 => absurd cq2 hz) (fun cq2 => ?_)
  refine Rn.aloadN (pc' := 7) d9_6 rfl rfl rfl ?_
  refine Rn.getF (pc' := 10) (host := "") (Or.inl (hw _ (List.mem_of_getElem? (i := 26) rfl))) Via.refl G.2.1 d9_7 rfl ?_
  refine Rn.goto (pc' := 14) d9_10 (by decide) (by decide) ?_
  refine Rn.retN (t := .byte) rfl (by simp) d9_14 (Nat.le_of_ble_eq_true rfl) (Nat.le_of_ble_eq_true rfl) ?_
  exact ⟨rfl, rfl⟩
set_option maxRecDepth 65536 in
set_option maxHeartbeats 40000000 in
theorem ct_ilu2 (Z : State) (a0 : Array Value) (hw : ∀ d ∈ tables_1, d.before a0 Z = true) (x t : Addr) (c0 c1 : Int32) (hC0 : own_C c0) (hC1 : own_C c1) (h0 : Heap) (G : Su Z h0 x t [.int (b8 c0), .int (b8 (own_hi c0)), .int (b8 c1), .int (b8 (own_hi c1))]) (z : Int32) (hz : z ≠ 0) (S : Sta Z Z.heap "java/lang/String" "COMPACT_STRINGS" "Z" (.int z)) :
    Ct Z ⟨"java/lang/String", "isLatin1", "()Z"⟩ jdk_42_method_154_code 1 (Option.some FieldType.boolean) ({ frames := 0, cells := 0, slots := 0, locals := 0 } : Room) #[(.ref x)] h0 [] (fun v h => v = some (.int (0 : Int32)) ∧ h0 = h) := by
  refine Ct.intro (Ls := #[.val (.ref x)]) (plainFor_of_name pn_4) (by intro m; first | (simp [entryFrame, mkF, argsToLocals, Value.category]; done) | rfl) ?_
  refine Rn.old fun Oq1 _ => ?_
  refine Rn.getS (pc' := 3) (hw _ (List.mem_of_getElem? (i := 46) rfl)) Via.refl (S.ext Oq1) d7_0 rfl ?_
  refine Rn.if_eq (pc' := 17) (pn := 6) d7_3 (by decide) (by decide) rfl (fun cq2 => absurd cq2 hz) (fun cq2 => ?_)
  refine Rn.aloadN (pc' := 7) d7_6 rfl rfl rfl ?_
  refine Rn.getF (pc' := 10) (host := "") (Or.inl (hw _ (List.mem_of_getElem? (i := 26) rfl))) Via.refl G.2.1 d7_7 rfl ?_
  refine Rn.if_ne (pc' := 17) (pn := 13) d7_10 (by decide) (by decide) rfl (fun cq3 => ?_) (fun cq3 => absurd cq3 (by decide))
  refine Rn.iconst (pc' := 18) (v := (0 : Int32)) d7_17 rfl rfl ?_
  refine Rn.retN (t := .boolean) rfl (by simp) d7_18 (Nat.le_of_ble_eq_true rfl) (Nat.le_of_ble_eq_true rfl) ?_
  exact ⟨rfl, rfl⟩
set_option maxRecDepth 65536 in
set_option maxHeartbeats 40000000 in
theorem ct_lnu2 (Z : State) (a0 : Array Value) (hw : ∀ d ∈ tables_1, d.before a0 Z = true) (x t : Addr) (c0 c1 : Int32) (hC0 : own_C c0) (hC1 : own_C c1) (h0 : Heap) (G : Su Z h0 x t [.int (b8 c0), .int (b8 (own_hi c0)), .int (b8 c1), .int (b8 (own_hi c1))]) (z : Int32) (hz : z ≠ 0) (S : Sta Z Z.heap "java/lang/String" "COMPACT_STRINGS" "Z" (.int z)) :
    Ct Z ⟨"java/lang/String", "length", "()I"⟩ jdk_42_method_54_code 1 (Option.some FieldType.int) ({ frames := 1, cells := 0, slots := 0, locals := 13 } : Room) #[(.ref x)] h0 [] (fun v h => v = some (.int (2 : Int32)) ∧ h0 = h) := by
  refine Ct.intro (Ls := #[.val (.ref x)]) (plainFor_of_name pn_4) (by intro m; first | (simp [entryFrame, mkF, argsToLocals, Value.category]; done) | rfl) ?_
  refine Rn.aloadN (pc' := 1) d8_0 rfl rfl rfl ?_
  refine Rn.getF (pc' := 4) (host := "") (Or.inl (hw _ (List.mem_of_getElem? (i := 25) rfl))) Via.refl G.2.2.1 d8_1 rfl ?_
  refine Rn.arraylength (pc' := 5) (n := (4 : Int32)) G.2.2.2 rfl d8_4 rfl ?_
  refine Rn.aloadN (pc' := 6) d8_5 rfl rfl rfl ?_
  refine Rn.callV (pc' := 9) (argsL := []) (a := x) (rest := [.int (4 : Int32)]) (ct_cdu2 Z a0 hw x t c0 c1  hC0 hC1 h0 G z hz S) G.1 (hw _ (List.mem_of_getElem? (i := 52) rfl)) (hw _ (List.mem_of_getElem? (i := 53) rfl)) (fun _ hZ => notFace_of_selects (args := #[]) (mvT hZ (hw _ (List.mem_of_getElem? (i := 55) rfl)))) (hw _ (List.mem_of_getElem? (i := 55) rfl)) (hw _ (List.mem_of_getElem? (i := 54) rfl)) (hw _ (List.mem_of_getElem? (i := 7) rfl)) (hw _ (List.mem_of_getElem? (i := 56) rfl)) (by decide) rfl rfl (lenOf pd_10 rfl) rfl d8_6 rfl (Nat.le_of_ble_eq_true rfl) (Nat.le_of_ble_eq_true rfl) (Nat.le_of_ble_eq_true rfl) (Nat.le_of_ble_eq_true rfl) (fun _ z => nomatch z) (fun _ z => nomatch z) (fun vq1 hq2 Kq3 qq4 => ?_)
  obtain ⟨rfl, rfl⟩ := qq4
  simp only [Option.toList, List.cons_append, List.nil_append]
  refine Rn.ishr (pc' := 10) (v := (2 : Int32)) d8_9 rfl rfl ?_
  refine Rn.retI rfl d8_10 (Nat.le_of_ble_eq_true rfl) (Nat.le_of_ble_eq_true rfl) ?_
  exact ⟨rfl, rfl⟩
set_option maxRecDepth 65536 in
set_option maxHeartbeats 40000000 in
theorem ct_i2u2 (Z : State) (a0 : Array Value) (hw : ∀ d ∈ tables_1, d.before a0 Z = true) (x t : Addr) (c0 c1 : Int32) (hC0 : own_C c0) (hC1 : own_C c1) (h0 : Heap) (G : Su Z h0 x t [.int (b8 c0), .int (b8 (own_hi c0)), .int (b8 c1), .int (b8 (own_hi c1))]) (z : Int32) (hz : z ≠ 0) (S : Sta Z Z.heap "java/lang/String" "COMPACT_STRINGS" "Z" (.int z))(ch : Int32) (hb : b8 ch = ch) (hB : own_B ch)(UA : Sta Z Z.heap "java/lang/StringUTF16" "$assertionsDisabled" "Z" (.int (1 : Int32))) (UH : Sta Z Z.heap "java/lang/StringUTF16" "HI_BYTE_SHIFT" "I" (.int (0 : Int32))) (UL : Sta Z Z.heap "java/lang/StringUTF16" "LO_BYTE_SHIFT" "I" (.int (8 : Int32)))(f : Value) (hf : f.isRef = true) (SF : Sta Z Z.heap "jdk/internal/util/Preconditions" "SIOOBE_FORMATTER" "Ljava/util/function/BiFunction;" f) :
    Ct Z ⟨"java/lang/String", "indexOf", "(II)I"⟩ jdk_42_method_80_code 3 (Option.some FieldType.int) ({ frames := 5, cells := 0, slots := 0, locals := 73 } : Room) #[(.ref x), (.int ch), (.int (0 : Int32))] h0 [] (fun v h => (∃ r, v = some (.int r) ∧ (r < 0 ↔ ¬ (c0 = ch ∨ c1 = ch))) ∧ h0 = h) := by
  refine Ct.intro (Ls := #[.val (.ref x), .val (.int ch), .val (.int (0 : Int32))]) (plainFor_of_name pn_4) (by intro m; first | (simp [entryFrame, mkF, argsToLocals, Value.category]; done) | rfl) ?_
  refine Rn.aloadN (pc' := 1) d6_0 rfl rfl rfl ?_
  refine Rn.callV (pc' := 4) (argsL := []) (a := x) (rest := []) (ct_ilu2 Z a0 hw x t c0 c1  hC0 hC1 h0 G z hz S) G.1 (hw _ (List.mem_of_getElem? (i := 41) rfl)) (hw _ (List.mem_of_getElem? (i := 42) rfl)) (fun _ hZ => notFace_of_selects (args := #[]) (mvT hZ (hw _ (List.mem_of_getElem? (i := 44) rfl)))) (hw _ (List.mem_of_getElem? (i := 44) rfl)) (hw _ (List.mem_of_getElem? (i := 43) rfl)) (hw _ (List.mem_of_getElem? (i := 7) rfl)) (hw _ (List.mem_of_getElem? (i := 45) rfl)) (by decide) rfl rfl (lenOf pd_11 rfl) rfl d6_1 rfl (Nat.le_of_ble_eq_true rfl) (Nat.le_of_ble_eq_true rfl) (Nat.le_of_ble_eq_true rfl) (Nat.le_of_ble_eq_true rfl) (fun _ z => nomatch z) (fun _ z => nomatch z) (fun vq1 hq2 Kq3 qq4 => ?_)
  obtain ⟨rfl, rfl⟩ := qq4
  simp only [Option.toList, List.cons_append, List.nil_append]
  refine Rn.if_eq (pc' := 23) (pn := 7) d6_4 (by decide) (by decide) rfl (fun cq5 => ?_) (fun cq5 => absurd cq5 (by decide))
  refine Rn.aloadN (pc' := 24) d6_23 rfl rfl rfl ?_
  refine Rn.getF (pc' := 27) (host := "") (Or.inl (hw _ (List.mem_of_getElem? (i := 25) rfl))) Via.refl G.2.2.1 d6_24 rfl ?_
  refine Rn.iloadN (pc' := 28) d6_27 rfl rfl ?_
  refine Rn.iloadN (pc' := 29) d6_28 rfl rfl ?_
  refine Rn.aloadN (pc' := 30) d6_29 rfl rfl rfl ?_
  refine Rn.callV (pc' := 33) (argsL := []) (a := x) (rest := [.int (0 : Int32), .int ch, .ref t]) (ct_lnu2 Z a0 hw x t c0 c1  hC0 hC1 h0 G z hz S) G.1 (hw _ (List.mem_of_getElem? (i := 47) rfl)) (hw _ (List.mem_of_getElem? (i := 48) rfl)) (fun _ hZ => notFace_of_selects (args := #[]) (mvT hZ (hw _ (List.mem_of_getElem? (i := 50) rfl)))) (hw _ (List.mem_of_getElem? (i := 50) rfl)) (hw _ (List.mem_of_getElem? (i := 49) rfl)) (hw _ (List.mem_of_getElem? (i := 7) rfl)) (hw _ (List.mem_of_getElem? (i := 51) rfl)) (by decide) rfl rfl (lenOf pd_12 rfl) rfl d6_30 rfl (Nat.le_of_ble_eq_true rfl) (Nat.le_of_ble_eq_true rfl) (Nat.le_of_ble_eq_true rfl) (Nat.le_of_ble_eq_true rfl) (fun _ z => nomatch z) (fun _ z => nomatch z) (fun vq6 hq7 Kq8 qq9 => ?_)
  obtain ⟨rfl, rfl⟩ := qq9
  simp only [Option.toList, List.cons_append, List.nil_append]
  refine Rn.callS (pc' := 36) (argsL := [.ref t, .int ch, .int (0 : Int32), .int (2 : Int32)]) (rest := []) (ct_ixu2 Z a0 hw t c0 c1  hC0 hC1 h0 G.2.2.2 ch hb hB UA UH UL f hf SF) (hw _ (List.mem_of_getElem? (i := 106) rfl)) (hw _ (List.mem_of_getElem? (i := 107) rfl)) (hw _ (List.mem_of_getElem? (i := 73) rfl)) (hw _ (List.mem_of_getElem? (i := 108) rfl)) (by decide) rfl rfl (lenOf pd_13 rfl) rfl d6_33 rfl (Nat.le_of_ble_eq_true rfl) (Nat.le_of_ble_eq_true rfl) (Nat.le_of_ble_eq_true rfl) (Nat.le_of_ble_eq_true rfl) (fun _ z => nomatch z) (fun _ z => nomatch z) (fun vq10 hq11 Kq12 qq13 => ?_)
  obtain ⟨⟨r, rfl, hr⟩, rfl⟩ := qq13
  simp only [Option.toList, List.cons_append, List.nil_append]
  refine Rn.retI rfl d6_36 (Nat.le_of_ble_eq_true rfl) (Nat.le_of_ble_eq_true rfl) ?_
  exact ⟨⟨r, rfl, hr⟩, rfl⟩
set_option maxRecDepth 65536 in
set_option maxHeartbeats 40000000 in
theorem ct_i1u2 (Z : State) (a0 : Array Value) (hw : ∀ d ∈ tables_1, d.before a0 Z = true) (x t : Addr) (c0 c1 : Int32) (hC0 : own_C c0) (hC1 : own_C c1) (h0 : Heap) (G : Su Z h0 x t [.int (b8 c0), .int (b8 (own_hi c0)), .int (b8 c1), .int (b8 (own_hi c1))]) (z : Int32) (hz : z ≠ 0) (S : Sta Z Z.heap "java/lang/String" "COMPACT_STRINGS" "Z" (.int z))(ch : Int32) (hb : b8 ch = ch) (hB : own_B ch)(UA : Sta Z Z.heap "java/lang/StringUTF16" "$assertionsDisabled" "Z" (.int (1 : Int32))) (UH : Sta Z Z.heap "java/lang/StringUTF16" "HI_BYTE_SHIFT" "I" (.int (0 : Int32))) (UL : Sta Z Z.heap "java/lang/StringUTF16" "LO_BYTE_SHIFT" "I" (.int (8 : Int32)))(f : Value) (hf : f.isRef = true) (SF : Sta Z Z.heap "jdk/internal/util/Preconditions" "SIOOBE_FORMATTER" "Ljava/util/function/BiFunction;" f) :
    Ct Z ⟨"java/lang/String", "indexOf", "(I)I"⟩ jdk_42_method_79_code 2 (Option.some FieldType.int) ({ frames := 6, cells := 0, slots := 0, locals := 87 } : Room) #[(.ref x), (.int ch)] h0 [] (fun v h => (∃ r, v = some (.int r) ∧ (r < 0 ↔ ¬ (c0 = ch ∨ c1 = ch))) ∧ h0 = h) := by
  refine Ct.intro (Ls := #[.val (.ref x), .val (.int ch)]) (plainFor_of_name pn_4) (by intro m; first | (simp [entryFrame, mkF, argsToLocals, Value.category]; done) | rfl) ?_
  refine Rn.aloadN (pc' := 1) d5_0 rfl rfl rfl ?_
  refine Rn.iloadN (pc' := 2) d5_1 rfl rfl ?_
  refine Rn.iconst (pc' := 3) (v := (0 : Int32)) d5_2 rfl rfl ?_
  refine Rn.callV (pc' := 6) (argsL := [.int ch, .int (0 : Int32)]) (a := x) (rest := []) (ct_i2u2 Z a0 hw x t c0 c1  hC0 hC1 h0 G z hz S ch hb hB UA UH UL f hf SF) G.1 (hw _ (List.mem_of_getElem? (i := 36) rfl)) (hw _ (List.mem_of_getElem? (i := 37) rfl)) (fun _ hZ => notFace_of_selects (args := #[]) (mvT hZ (hw _ (List.mem_of_getElem? (i := 39) rfl)))) (hw _ (List.mem_of_getElem? (i := 39) rfl)) (hw _ (List.mem_of_getElem? (i := 38) rfl)) (hw _ (List.mem_of_getElem? (i := 7) rfl)) (hw _ (List.mem_of_getElem? (i := 40) rfl)) (by decide) rfl rfl (lenOf pd_9 rfl) rfl d5_3 rfl (Nat.le_of_ble_eq_true rfl) (Nat.le_of_ble_eq_true rfl) (Nat.le_of_ble_eq_true rfl) (Nat.le_of_ble_eq_true rfl) (fun _ z => nomatch z) (fun _ z => nomatch z) (fun vq1 hq2 Kq3 qq4 => ?_)
  obtain ⟨⟨r, rfl, hr⟩, rfl⟩ := qq4
  simp only [Option.toList, List.cons_append, List.nil_append]
  refine Rn.retI rfl d5_6 (Nat.le_of_ble_eq_true rfl) (Nat.le_of_ble_eq_true rfl) ?_
  exact ⟨⟨r, rfl, hr⟩, rfl⟩
set_option maxRecDepth 65536 in
set_option maxHeartbeats 40000000 in
theorem ct_chhu2 (Z : State) (a0 : Array Value) (hw : ∀ d ∈ tables_1, d.before a0 Z = true) (x t : Addr) (c0 c1 : Int32) (hC0 : own_C c0) (hC1 : own_C c1) (h0 : Heap) (G : Su Z h0 x t [.int (b8 c0), .int (b8 (own_hi c0)), .int (b8 c1), .int (b8 (own_hi c1))]) (z : Int32) (hz : z ≠ 0) (S : Sta Z Z.heap "java/lang/String" "COMPACT_STRINGS" "Z" (.int z))(UA : Sta Z Z.heap "java/lang/StringUTF16" "$assertionsDisabled" "Z" (.int (1 : Int32))) (UH : Sta Z Z.heap "java/lang/StringUTF16" "HI_BYTE_SHIFT" "I" (.int (0 : Int32))) (UL : Sta Z Z.heap "java/lang/StringUTF16" "LO_BYTE_SHIFT" "I" (.int (8 : Int32)))(f : Value) (hf : f.isRef = true) (SF : Sta Z Z.heap "jdk/internal/util/Preconditions" "SIOOBE_FORMATTER" "Ljava/util/function/BiFunction;" f) :
    Ct Z ⟨"com/example/fleet_quant/fleetquant/io/TableCells", "canHold", "(Ljava/lang/String;)Z"⟩ prog_28_method_2_code 1 (Option.some FieldType.boolean) ({ frames := 9, cells := 0, slots := 0, locals := 140 } : Room) #[(.ref x)] h0 [] (fun v h => v = some (.int (if own_ok c0 ∧ own_ok c1 then 1 else 0)) ∧ h0 = h) := by
  refine Ct.intro (Ls := #[.val (.ref x)]) (plainFor_of_name pn_6) (by intro m; first | (simp [entryFrame, mkF, argsToLocals, Value.category]; done) | rfl) ?_
  refine Rn.aloadN (pc' := 1) d4_0 rfl rfl rfl ?_
  refine Rn.bipush (pc' := 3) (v := (9 : Int32)) d4_1 rfl rfl ?_
  refine Rn.callV (pc' := 6) (argsL := [.int (9 : Int32)]) (a := x) (rest := []) (ct_i1u2 Z a0 hw x t c0 c1  hC0 hC1 h0 G z hz S 9 rfl own_k9 UA UH UL f hf SF) G.1 (hw _ (List.mem_of_getElem? (i := 31) rfl)) (hw _ (List.mem_of_getElem? (i := 32) rfl)) (fun _ hZ => notFace_of_selects (args := #[]) (mvT hZ (hw _ (List.mem_of_getElem? (i := 34) rfl)))) (hw _ (List.mem_of_getElem? (i := 34) rfl)) (hw _ (List.mem_of_getElem? (i := 33) rfl)) (hw _ (List.mem_of_getElem? (i := 7) rfl)) (hw _ (List.mem_of_getElem? (i := 35) rfl)) (by decide) rfl rfl (lenOf pd_0 rfl) rfl d4_3 rfl (Nat.le_of_ble_eq_true rfl) (Nat.le_of_ble_eq_true rfl) (Nat.le_of_ble_eq_true rfl) (Nat.le_of_ble_eq_true rfl) (fun _ z => nomatch z) (fun _ z => nomatch z) (fun vq1 hq2 Kq3 qq4 => ?_)
  obtain ⟨⟨r9, rfl, hr9⟩, rfl⟩ := qq4
  simp only [Option.toList, List.cons_append, List.nil_append]
  refine Rn.if_ge (pc' := 31) (pn := 9) d4_6 (by decide) (by decide) rfl (fun cq5 => ?_) (fun cq5 => ?_)
  ·
    refine Rn.iconst (pc' := 32) (v := (0 : Int32)) d4_31 rfl rfl ?_
    refine Rn.retN (t := .boolean) rfl (by simp) d4_32 (Nat.le_of_ble_eq_true rfl) (Nat.le_of_ble_eq_true rfl) ?_
    refine ⟨?_, rfl⟩
    exact own_if_f (fun q => own_ngt cq5 (hr9.mpr (fun q' => by rcases q' with q' | q' <;> first | exact absurd q' q.1 | exact absurd q' q.1.1 | exact absurd q' q.2.1 | exact absurd q' q.2.1.1 | exact absurd q' q.2.2.1)))
  ·
    refine Rn.aloadN (pc' := 10) d4_9 rfl rfl rfl ?_
    refine Rn.bipush (pc' := 12) (v := (10 : Int32)) d4_10 rfl rfl ?_
    refine Rn.callV (pc' := 15) (argsL := [.int (10 : Int32)]) (a := x) (rest := []) (ct_i1u2 Z a0 hw x t c0 c1  hC0 hC1 h0 G z hz S 10 rfl own_k10 UA UH UL f hf SF) G.1 (hw _ (List.mem_of_getElem? (i := 31) rfl)) (hw _ (List.mem_of_getElem? (i := 32) rfl)) (fun _ hZ => notFace_of_selects (args := #[]) (mvT hZ (hw _ (List.mem_of_getElem? (i := 34) rfl)))) (hw _ (List.mem_of_getElem? (i := 34) rfl)) (hw _ (List.mem_of_getElem? (i := 33) rfl)) (hw _ (List.mem_of_getElem? (i := 7) rfl)) (hw _ (List.mem_of_getElem? (i := 35) rfl)) (by decide) rfl rfl (lenOf pd_0 rfl) rfl d4_12 rfl (Nat.le_of_ble_eq_true rfl) (Nat.le_of_ble_eq_true rfl) (Nat.le_of_ble_eq_true rfl) (Nat.le_of_ble_eq_true rfl) (fun _ z => nomatch z) (fun _ z => nomatch z) (fun vq6 hq7 Kq8 qq9 => ?_)
    obtain ⟨⟨r10, rfl, hr10⟩, rfl⟩ := qq9
    simp only [Option.toList, List.cons_append, List.nil_append]
    refine Rn.if_ge (pc' := 31) (pn := 18) d4_15 (by decide) (by decide) rfl (fun cq10 => ?_) (fun cq10 => ?_)
    ·
      refine Rn.iconst (pc' := 32) (v := (0 : Int32)) d4_31 rfl rfl ?_
      refine Rn.retN (t := .boolean) rfl (by simp) d4_32 (Nat.le_of_ble_eq_true rfl) (Nat.le_of_ble_eq_true rfl) ?_
      refine ⟨?_, rfl⟩
      exact own_if_f (fun q => own_ngt cq10 (hr10.mpr (fun q' => by rcases q' with q' | q' <;> first | exact absurd q' q.2.1 | exact absurd q' q.1.2.1 | exact absurd q' q.2.2.1 | exact absurd q' q.2.1.2.1 | exact absurd q' q.2.2.2.1)))
    ·
      refine Rn.aloadN (pc' := 19) d4_18 rfl rfl rfl ?_
      refine Rn.bipush (pc' := 21) (v := (13 : Int32)) d4_19 rfl rfl ?_
      refine Rn.callV (pc' := 24) (argsL := [.int (13 : Int32)]) (a := x) (rest := []) (ct_i1u2 Z a0 hw x t c0 c1  hC0 hC1 h0 G z hz S 13 rfl own_k13 UA UH UL f hf SF) G.1 (hw _ (List.mem_of_getElem? (i := 31) rfl)) (hw _ (List.mem_of_getElem? (i := 32) rfl)) (fun _ hZ => notFace_of_selects (args := #[]) (mvT hZ (hw _ (List.mem_of_getElem? (i := 34) rfl)))) (hw _ (List.mem_of_getElem? (i := 34) rfl)) (hw _ (List.mem_of_getElem? (i := 33) rfl)) (hw _ (List.mem_of_getElem? (i := 7) rfl)) (hw _ (List.mem_of_getElem? (i := 35) rfl)) (by decide) rfl rfl (lenOf pd_0 rfl) rfl d4_21 rfl (Nat.le_of_ble_eq_true rfl) (Nat.le_of_ble_eq_true rfl) (Nat.le_of_ble_eq_true rfl) (Nat.le_of_ble_eq_true rfl) (fun _ z => nomatch z) (fun _ z => nomatch z) (fun vq11 hq12 Kq13 qq14 => ?_)
      obtain ⟨⟨r13, rfl, hr13⟩, rfl⟩ := qq14
      simp only [Option.toList, List.cons_append, List.nil_append]
      refine Rn.if_ge (pc' := 31) (pn := 27) d4_24 (by decide) (by decide) rfl (fun cq15 => ?_) (fun cq15 => ?_)
      ·
        refine Rn.iconst (pc' := 32) (v := (0 : Int32)) d4_31 rfl rfl ?_
        refine Rn.retN (t := .boolean) rfl (by simp) d4_32 (Nat.le_of_ble_eq_true rfl) (Nat.le_of_ble_eq_true rfl) ?_
        refine ⟨?_, rfl⟩
        exact own_if_f (fun q => own_ngt cq15 (hr13.mpr (fun q' => by rcases q' with q' | q' <;> first | exact absurd q' q.2.2 | exact absurd q' q.1.2.2 | exact absurd q' q.2.2.2 | exact absurd q' q.2.1.2.2 | exact absurd q' q.2.2.2.2)))
      ·
        refine Rn.iconst (pc' := 28) (v := (1 : Int32)) d4_27 rfl rfl ?_
        refine Rn.goto (pc' := 32) d4_28 (by decide) (by decide) ?_
        refine Rn.retN (t := .boolean) rfl (by simp) d4_32 (Nat.le_of_ble_eq_true rfl) (Nat.le_of_ble_eq_true rfl) ?_
        refine ⟨?_, rfl⟩
        exact own_if_t ⟨⟨fun q => (hr9.mp (own_nge cq5)) (Or.inl q), fun q => (hr10.mp (own_nge cq10)) (Or.inl q), fun q => (hr13.mp (own_nge cq15)) (Or.inl q)⟩, ⟨fun q => (hr9.mp (own_nge cq5)) (Or.inr (q)), fun q => (hr10.mp (own_nge cq10)) (Or.inr (q)), fun q => (hr13.mp (own_nge cq15)) (Or.inr (q))⟩⟩
theorem ct_chx2 (Z : State) (a0 : Array Value) (hw : ∀ d ∈ tables_1, d.before a0 Z = true) (x : Addr) (c0 c1 : Int32) (hC0 : own_C c0) (hC1 : own_C c1) (h0 : Heap) (G : own_S2 Z h0 x c0 c1) (z : Int32) (hz : z ≠ 0) (S : Sta Z Z.heap "java/lang/String" "COMPACT_STRINGS" "Z" (.int z)) (UA : Sta Z Z.heap "java/lang/StringUTF16" "$assertionsDisabled" "Z" (.int (1 : Int32))) (UH : Sta Z Z.heap "java/lang/StringUTF16" "HI_BYTE_SHIFT" "I" (.int (0 : Int32))) (UL : Sta Z Z.heap "java/lang/StringUTF16" "LO_BYTE_SHIFT" "I" (.int (8 : Int32))) (f : Value) (hf : f.isRef = true) (SF : Sta Z Z.heap "jdk/internal/util/Preconditions" "SIOOBE_FORMATTER" "Ljava/util/function/BiFunction;" f) :
    Ct Z ⟨"com/example/fleet_quant/fleetquant/io/TableCells", "canHold", "(Ljava/lang/String;)Z"⟩ prog_28_method_2_code 1 (Option.some FieldType.boolean) ({ frames := 9, cells := 0, slots := 0, locals := 140 } : Room) #[(.ref x)] h0 [] (fun v h => v = some (.int (if own_ok c0 ∧ own_ok c1 then 1 else 0)) ∧ h0 = h) := by
  obtain ⟨t, ⟨g, G⟩ | G⟩ := G
  · obtain ⟨hp0, hp1⟩ := g
    exact ct_chhl2 Z a0 hw x t c0 c1 hp0 hp1 hC0 hC1 h0 G z hz S UA UH UL f hf SF
  · exact ct_chhu2 Z a0 hw x t c0 c1 hC0 hC1 h0 G z hz S UA UH UL f hf SF
set_option maxRecDepth 65536 in
set_option maxHeartbeats 40000000 in
theorem ct_iocl3 (Z : State) (a0 : Array Value) (hw : ∀ d ∈ tables_1, d.before a0 Z = true) (t : Addr) (c0 c1 c2 : Int32) (hp0 : ¬ 255 < c0) (hp1 : ¬ 255 < c1) (hp2 : ¬ 255 < c2) (hC0 : own_C c0) (hC1 : own_C c1) (hC2 : own_C c2) (h0 : Heap) (A : Ax Z h0 t .byte [.int (b8 c0), .int (b8 c1), .int (b8 c2)]) (ch : Int32) (hb : b8 ch = ch) (hB : own_B ch) :
    Ct Z ⟨"java/lang/StringLatin1", "indexOfChar", "([BIII)I"⟩ jdk_43_method_23_code 6 (Option.some FieldType.int) ({ frames := 0, cells := 0, slots := 0, locals := 0 } : Room) #[(.ref t), (.int ch), (.int (0 : Int32)), (.int (3 : Int32))] h0 [] (fun v h => (∃ r, v = some (.int r) ∧ (r < 0 ↔ ¬ (c0 = ch ∨ c1 = ch ∨ c2 = ch))) ∧ h0 = h) := by
  refine Ct.intro (Ls := #[.val (.ref t), .val (.int ch), .val (.int (0 : Int32)), .val (.int (3 : Int32)), .unset, .unset]) (plainFor_of_name pn_5) (by intro m; first | (simp [entryFrame, mkF, argsToLocals, Value.category]; done) | rfl) ?_
  refine Rn.iloadN (pc' := 1) d18_0 rfl rfl ?_
  refine Rn.i2b (pc' := 2) (v := ch) d18_1 hb rfl ?_
  refine Rn.istore (pc' := 4) (Ls' := #[.val (.ref t), .val (.int ch), .val (.int (0 : Int32)), .val (.int (3 : Int32)), .val (.int ch), .unset]) d18_2 rfl rfl ?_
  refine Rn.iloadN (pc' := 5) d18_4 rfl rfl ?_
  refine Rn.istore (pc' := 7) (Ls' := #[.val (.ref t), .val (.int ch), .val (.int (0 : Int32)), .val (.int (3 : Int32)), .val (.int ch), .val (.int (0 : Int32))]) d18_5 rfl rfl ?_
  refine Rn.iload (pc' := 9) d18_7 rfl rfl ?_
  refine Rn.iloadN (pc' := 10) d18_9 rfl rfl ?_
  refine Rn.icmp_ge (pc' := 31) (pn := 13) d18_10 (by decide) (by decide) rfl (fun cq1 => absurd cq1 (by decide)) (fun cq1 => ?_)
  refine Rn.aloadN (pc' := 14) d18_13 rfl rfl rfl ?_
  refine Rn.iload (pc' := 16) d18_14 rfl rfl ?_
  refine Rn.baload (pc' := 17) (v := .int (b8 c0)) A (by decide) rfl d18_16 rfl ?_
  refine Rn.iload (pc' := 19) d18_17 rfl rfl ?_
  refine Rn.icmp_ne (pc' := 25) (pn := 22) d18_19 (by decide) (by decide) rfl (fun cq2 => ?_) (fun cq2 => ?_)
  ·
    refine Rn.iinc (pc' := 28) (v := (1 : Int32)) (Ls' := #[.val (.ref t), .val (.int ch), .val (.int (0 : Int32)), .val (.int (3 : Int32)), .val (.int ch), .val (.int (1 : Int32))]) d18_25 rfl rfl rfl rfl ?_
    refine Rn.goto (pc' := 7) d18_28 (by decide) (by decide) ?_
    refine Rn.iload (pc' := 9) d18_7 rfl rfl ?_
    refine Rn.iloadN (pc' := 10) d18_9 rfl rfl ?_
    refine Rn.icmp_ge (pc' := 31) (pn := 13) d18_10 (by decide) (by decide) rfl (fun cq3 => absurd cq3 (by decide)) (fun cq3 => ?_)
    refine Rn.aloadN (pc' := 14) d18_13 rfl rfl rfl ?_
    refine Rn.iload (pc' := 16) d18_14 rfl rfl ?_
    refine Rn.baload (pc' := 17) (v := .int (b8 c1)) A (by decide) rfl d18_16 rfl ?_
    refine Rn.iload (pc' := 19) d18_17 rfl rfl ?_
    refine Rn.icmp_ne (pc' := 25) (pn := 22) d18_19 (by decide) (by decide) rfl (fun cq4 => ?_) (fun cq4 => ?_)
    ·
      refine Rn.iinc (pc' := 28) (v := (2 : Int32)) (Ls' := #[.val (.ref t), .val (.int ch), .val (.int (0 : Int32)), .val (.int (3 : Int32)), .val (.int ch), .val (.int (2 : Int32))]) d18_25 rfl rfl rfl rfl ?_
      refine Rn.goto (pc' := 7) d18_28 (by decide) (by decide) ?_
      refine Rn.iload (pc' := 9) d18_7 rfl rfl ?_
      refine Rn.iloadN (pc' := 10) d18_9 rfl rfl ?_
      refine Rn.icmp_ge (pc' := 31) (pn := 13) d18_10 (by decide) (by decide) rfl (fun cq5 => absurd cq5 (by decide)) (fun cq5 => ?_)
      refine Rn.aloadN (pc' := 14) d18_13 rfl rfl rfl ?_
      refine Rn.iload (pc' := 16) d18_14 rfl rfl ?_
      refine Rn.baload (pc' := 17) (v := .int (b8 c2)) A (by decide) rfl d18_16 rfl ?_
      refine Rn.iload (pc' := 19) d18_17 rfl rfl ?_
      refine Rn.icmp_ne (pc' := 25) (pn := 22) d18_19 (by decide) (by decide) rfl (fun cq6 => ?_) (fun cq6 => ?_)
      ·
        refine Rn.iinc (pc' := 28) (v := (3 : Int32)) (Ls' := #[.val (.ref t), .val (.int ch), .val (.int (0 : Int32)), .val (.int (3 : Int32)), .val (.int ch), .val (.int (3 : Int32))]) d18_25 rfl rfl rfl rfl ?_
        refine Rn.goto (pc' := 7) d18_28 (by decide) (by decide) ?_
        refine Rn.iload (pc' := 9) d18_7 rfl rfl ?_
        refine Rn.iloadN (pc' := 10) d18_9 rfl rfl ?_
        refine Rn.icmp_ge (pc' := 31) (pn := 13) d18_10 (by decide) (by decide) rfl (fun cq7 => ?_) (fun cq7 => absurd cq7 (by decide))
        refine Rn.iconst (pc' := 32) (v := (-1 : Int32)) d18_31 rfl rfl ?_
        refine Rn.retI rfl d18_32 (Nat.le_of_ble_eq_true rfl) (Nat.le_of_ble_eq_true rfl) ?_
        refine ⟨⟨_, rfl, ⟨fun _ q => ?_, fun _ => by decide⟩⟩, rfl⟩
        rcases q with q | q | q
        · exact cq2 ((congrArg b8 q).trans hb)
        · exact cq4 ((congrArg b8 q).trans hb)
        · exact cq6 ((congrArg b8 q).trans hb)
      ·
        refine Rn.iload (pc' := 24) d18_22 rfl rfl ?_
        refine Rn.retI rfl d18_24 (Nat.le_of_ble_eq_true rfl) (Nat.le_of_ble_eq_true rfl) ?_
        exact ⟨⟨_, rfl, ⟨fun q => absurd q (by decide), fun q => absurd (Or.inr (Or.inr ((own_b8c (own_C_B hC2 hp2) hB hb cq6)))) q⟩⟩, rfl⟩
    ·
      refine Rn.iload (pc' := 24) d18_22 rfl rfl ?_
      refine Rn.retI rfl d18_24 (Nat.le_of_ble_eq_true rfl) (Nat.le_of_ble_eq_true rfl) ?_
      exact ⟨⟨_, rfl, ⟨fun q => absurd q (by decide), fun q => absurd (Or.inr (Or.inl (own_b8c (own_C_B hC1 hp1) hB hb cq4))) q⟩⟩, rfl⟩
  ·
    refine Rn.iload (pc' := 24) d18_22 rfl rfl ?_
    refine Rn.retI rfl d18_24 (Nat.le_of_ble_eq_true rfl) (Nat.le_of_ble_eq_true rfl) ?_
    exact ⟨⟨_, rfl, ⟨fun q => absurd q (by decide), fun q => absurd (Or.inl (own_b8c (own_C_B hC0 hp0) hB hb cq2)) q⟩⟩, rfl⟩
set_option maxRecDepth 65536 in
set_option maxHeartbeats 40000000 in
theorem ct_ixl3 (Z : State) (a0 : Array Value) (hw : ∀ d ∈ tables_1, d.before a0 Z = true) (t : Addr) (c0 c1 c2 : Int32) (hp0 : ¬ 255 < c0) (hp1 : ¬ 255 < c1) (hp2 : ¬ 255 < c2) (hC0 : own_C c0) (hC1 : own_C c1) (hC2 : own_C c2) (h0 : Heap) (A : Ax Z h0 t .byte [.int (b8 c0), .int (b8 c1), .int (b8 c2)]) (ch : Int32) (hb : b8 ch = ch) (hB : own_B ch) :
    Ct Z ⟨"java/lang/StringLatin1", "indexOf", "([BIII)I"⟩ jdk_43_method_22_code 4 (Option.some FieldType.int) ({ frames := 1, cells := 0, slots := 0, locals := 17 } : Room) #[(.ref t), (.int ch), (.int (0 : Int32)), (.int (3 : Int32))] h0 [] (fun v h => (∃ r, v = some (.int r) ∧ (r < 0 ↔ ¬ (c0 = ch ∨ c1 = ch ∨ c2 = ch))) ∧ h0 = h) := by
  refine Ct.intro (Ls := #[.val (.ref t), .val (.int ch), .val (.int (0 : Int32)), .val (.int (3 : Int32))]) (plainFor_of_name pn_5) (by intro m; first | (simp [entryFrame, mkF, argsToLocals, Value.category]; done) | rfl) ?_
  refine Rn.iloadN (pc' := 1) d10_0 rfl rfl ?_
  refine Rn.callS (pc' := 4) (argsL := [.int ch]) (rest := []) (ct_ce Z a0 hw ch hB h0) (hw _ (List.mem_of_getElem? (i := 61) rfl)) (hw _ (List.mem_of_getElem? (i := 62) rfl)) (hw _ (List.mem_of_getElem? (i := 59) rfl)) (hw _ (List.mem_of_getElem? (i := 63) rfl)) (by decide) rfl rfl (lenOf pd_8 rfl) rfl d10_1 rfl (Nat.le_of_ble_eq_true rfl) (Nat.le_of_ble_eq_true rfl) (Nat.le_of_ble_eq_true rfl) (Nat.le_of_ble_eq_true rfl) (fun _ z => nomatch z) (fun _ z => nomatch z) (fun vq1 hq2 Kq3 qq4 => ?_)
  obtain ⟨rfl, rfl⟩ := qq4
  simp only [Option.toList, List.cons_append, List.nil_append]
  refine Rn.if_ne (pc' := 9) (pn := 7) d10_4 (by decide) (by decide) rfl (fun cq5 => ?_) (fun cq5 => absurd cq5 (by decide))
  refine Rn.iloadN (pc' := 10) d10_9 rfl rfl ?_
  refine Rn.iconst (pc' := 11) (v := (0 : Int32)) d10_10 rfl rfl ?_
  refine Rn.callS (pc' := 14) (argsL := [.int (0 : Int32), .int (0 : Int32)]) (rest := []) (ct_mx00 Z a0 hw h0) (hw _ (List.mem_of_getElem? (i := 64) rfl)) (hw _ (List.mem_of_getElem? (i := 65) rfl)) (hw _ (List.mem_of_getElem? (i := 66) rfl)) (hw _ (List.mem_of_getElem? (i := 67) rfl)) (by decide) rfl rfl (lenOf pd_9 rfl) rfl d10_11 rfl (Nat.le_of_ble_eq_true rfl) (Nat.le_of_ble_eq_true rfl) (Nat.le_of_ble_eq_true rfl) (Nat.le_of_ble_eq_true rfl) (fun _ z => nomatch z) (fun _ z => nomatch z) (fun vq6 hq7 Kq8 qq9 => ?_)
  obtain ⟨rfl, rfl⟩ := qq9
  simp only [Option.toList, List.cons_append, List.nil_append]
  refine Rn.istoreN (pc' := 15) (Ls' := #[.val (.ref t), .val (.int ch), .val (.int (0 : Int32)), .val (.int (3 : Int32))]) d10_14 rfl rfl ?_
  refine Rn.iloadN (pc' := 16) d10_15 rfl rfl ?_
  refine Rn.aloadN (pc' := 17) d10_16 rfl rfl rfl ?_
  refine Rn.arraylength (pc' := 18) (n := (3 : Int32)) A rfl d10_17 rfl ?_
  refine Rn.callS (pc' := 21) (argsL := [.int (3 : Int32), .int (3 : Int32)]) (rest := []) (ct_mn3 Z a0 hw h0) (hw _ (List.mem_of_getElem? (i := 68) rfl)) (hw _ (List.mem_of_getElem? (i := 69) rfl)) (hw _ (List.mem_of_getElem? (i := 66) rfl)) (hw _ (List.mem_of_getElem? (i := 70) rfl)) (by decide) rfl rfl (lenOf pd_9 rfl) rfl d10_18 rfl (Nat.le_of_ble_eq_true rfl) (Nat.le_of_ble_eq_true rfl) (Nat.le_of_ble_eq_true rfl) (Nat.le_of_ble_eq_true rfl) (fun _ z => nomatch z) (fun _ z => nomatch z) (fun vq10 hq11 Kq12 qq13 => ?_)
  obtain ⟨rfl, rfl⟩ := qq13
  simp only [Option.toList, List.cons_append, List.nil_append]
  refine Rn.istoreN (pc' := 22) (Ls' := #[.val (.ref t), .val (.int ch), .val (.int (0 : Int32)), .val (.int (3 : Int32))]) d10_21 rfl rfl ?_
  refine Rn.iloadN (pc' := 23) d10_22 rfl rfl ?_
  refine Rn.iloadN (pc' := 24) d10_23 rfl rfl ?_
  refine Rn.icmp_lt (pc' := 29) (pn := 27) d10_24 (by decide) (by decide) rfl (fun cq14 => ?_) (fun cq14 => absurd cq14 (by decide))
  refine Rn.aloadN (pc' := 30) d10_29 rfl rfl rfl ?_
  refine Rn.iloadN (pc' := 31) d10_30 rfl rfl ?_
  refine Rn.iloadN (pc' := 32) d10_31 rfl rfl ?_
  refine Rn.iloadN (pc' := 33) d10_32 rfl rfl ?_
  refine Rn.callS (pc' := 36) (argsL := [.ref t, .int ch, .int (0 : Int32), .int (3 : Int32)]) (rest := []) (ct_iocl3 Z a0 hw t c0 c1 c2 hp0 hp1 hp2 hC0 hC1 hC2 h0 A ch hb hB) (hw _ (List.mem_of_getElem? (i := 84) rfl)) (hw _ (List.mem_of_getElem? (i := 85) rfl)) (hw _ (List.mem_of_getElem? (i := 59) rfl)) (hw _ (List.mem_of_getElem? (i := 86) rfl)) (by decide) rfl rfl (lenOf pd_13 rfl) rfl d10_33 rfl (Nat.le_of_ble_eq_true rfl) (Nat.le_of_ble_eq_true rfl) (Nat.le_of_ble_eq_true rfl) (Nat.le_of_ble_eq_true rfl) (fun _ z => nomatch z) (fun _ z => nomatch z) (fun vq15 hq16 Kq17 qq18 => ?_)
  obtain ⟨⟨r, rfl, hr⟩, rfl⟩ := qq18
  simp only [Option.toList, List.cons_append, List.nil_append]
  refine Rn.retI rfl d10_36 (Nat.le_of_ble_eq_true rfl) (Nat.le_of_ble_eq_true rfl) ?_
  exact ⟨⟨r, rfl, hr⟩, rfl⟩
set_option maxRecDepth 65536 in
set_option maxHeartbeats 40000000 in
theorem ct_cdl3 (Z : State) (a0 : Array Value) (hw : ∀ d ∈ tables_1, d.before a0 Z = true) (x t : Addr) (c0 c1 c2 : Int32) (hp0 : ¬ 255 < c0) (hp1 : ¬ 255 < c1) (hp2 : ¬ 255 < c2) (hC0 : own_C c0) (hC1 : own_C c1) (hC2 : own_C c2) (h0 : Heap) (G : Sg Z h0 x t [.int (b8 c0), .int (b8 c1), .int (b8 c2)]) (z : Int32) (hz : z ≠ 0) (S : Sta Z Z.heap "java/lang/String" "COMPACT_STRINGS" "Z" (.int z)) :
    Ct Z ⟨"java/lang/String", "coder", "()B"⟩ jdk_42_method_152_code 1 (Option.some FieldType.byte) ({ frames := 0, cells := 0, slots := 0, locals := 0 } : Room) #[(.ref x)] h0 [] (fun v h => v = some (.int (0 : Int32)) ∧ h0 = h) := by
  refine Ct.intro (Ls := #[.val (.ref x)]) (plainFor_of_name pn_4) (by intro m; first | (simp [entryFrame, mkF, argsToLocals, Value.category]; done) | rfl) ?_
  refine Rn.old fun Oq1 _ => ?_
  refine Rn.getS (pc' := 3) (hw _ (List.mem_of_getElem? (i := 46) rfl)) Via.refl (S.ext Oq1) d9_0 rfl ?_
  refine Rn.if_eq (pc' := 13) (pn := 6) d9_3 (by decide) (by decide) rfl (fun cq2 => absurd cq2 hz) (fun cq2 => ?_)
  refine Rn.aloadN (pc' := 7) d9_6 rfl rfl rfl ?_
  refine Rn.getF (pc' := 10) (host := "") (Or.inl (hw _ (List.mem_of_getElem? (i := 26) rfl))) Via.refl G.2.1 d9_7 rfl ?_
  refine Rn.goto (pc' := 14) d9_10 (by decide) (by decide) ?_
  refine Rn.retN (t := .byte) rfl (by simp) d9_14 (Nat.le_of_ble_eq_true rfl) (Nat.le_of_ble_eq_true rfl) ?_
  exact ⟨rfl, rfl⟩
set_option maxRecDepth 65536 in
set_option maxHeartbeats 40000000 in
theorem ct_ill3 (Z : State) (a0 : Array Value) (hw : ∀ d ∈ tables_1, d.before a0 Z = true) (x t : Addr) (c0 c1 c2 : Int32) (hp0 : ¬ 255 < c0) (hp1 : ¬ 255 < c1) (hp2 : ¬ 255 < c2) (hC0 : own_C c0) (hC1 : own_C c1) (hC2 : own_C c2) (h0 : Heap) (G : Sg Z h0 x t [.int (b8 c0), .int (b8 c1), .int (b8 c2)]) (z : Int32) (hz : z ≠ 0) (S : Sta Z Z.heap "java/lang/String" "COMPACT_STRINGS" "Z" (.int z)) :
    Ct Z ⟨"java/lang/String", "isLatin1", "()Z"⟩ jdk_42_method_154_code 1 (Option.some FieldType.boolean) ({ frames := 0, cells := 0, slots := 0, locals := 0 } : Room) #[(.ref x)] h0 [] (fun v h => v = some (.int (1 : Int32)) ∧ h0 = h) := by
  refine Ct.intro (Ls := #[.val (.ref x)]) (plainFor_of_name pn_4) (by intro m; first | (simp [entryFrame, mkF, argsToLocals, Value.category]; done) | rfl) ?_
  refine Rn.old fun Oq1 _ => ?_
  refine Rn.getS (pc' := 3) (hw _ (List.mem_of_getElem? (i := 46) rfl)) Via.refl (S.ext Oq1) d7_0 rfl ?_
  refine Rn.if_eq (pc' := 17) (pn := 6) d7_3 (by decide) (by decide) rfl (fun cq2 => absurd cq2 hz) (fun cq2 => ?_)
  refine Rn.aloadN (pc' := 7) d7_6 rfl rfl rfl ?_
  refine Rn.getF (pc' := 10) (host := "") (Or.inl (hw _ (List.mem_of_getElem? (i := 26) rfl))) Via.refl G.2.1 d7_7 rfl ?_
  refine Rn.if_ne (pc' := 17) (pn := 13) d7_10 (by decide) (by decide) rfl (fun cq3 => absurd cq3 (by decide)) (fun cq3 => ?_)
  refine Rn.iconst (pc' := 14) (v := (1 : Int32)) d7_13 rfl rfl ?_
  refine Rn.goto (pc' := 18) d7_14 (by decide) (by decide) ?_
  refine Rn.retN (t := .boolean) rfl (by simp) d7_18 (Nat.le_of_ble_eq_true rfl) (Nat.le_of_ble_eq_true rfl) ?_
  exact ⟨rfl, rfl⟩
set_option maxRecDepth 65536 in
set_option maxHeartbeats 40000000 in
theorem ct_lnl3 (Z : State) (a0 : Array Value) (hw : ∀ d ∈ tables_1, d.before a0 Z = true) (x t : Addr) (c0 c1 c2 : Int32) (hp0 : ¬ 255 < c0) (hp1 : ¬ 255 < c1) (hp2 : ¬ 255 < c2) (hC0 : own_C c0) (hC1 : own_C c1) (hC2 : own_C c2) (h0 : Heap) (G : Sg Z h0 x t [.int (b8 c0), .int (b8 c1), .int (b8 c2)]) (z : Int32) (hz : z ≠ 0) (S : Sta Z Z.heap "java/lang/String" "COMPACT_STRINGS" "Z" (.int z)) :
    Ct Z ⟨"java/lang/String", "length", "()I"⟩ jdk_42_method_54_code 1 (Option.some FieldType.int) ({ frames := 1, cells := 0, slots := 0, locals := 13 } : Room) #[(.ref x)] h0 [] (fun v h => v = some (.int (3 : Int32)) ∧ h0 = h) := by
  refine Ct.intro (Ls := #[.val (.ref x)]) (plainFor_of_name pn_4) (by intro m; first | (simp [entryFrame, mkF, argsToLocals, Value.category]; done) | rfl) ?_
  refine Rn.aloadN (pc' := 1) d8_0 rfl rfl rfl ?_
  refine Rn.getF (pc' := 4) (host := "") (Or.inl (hw _ (List.mem_of_getElem? (i := 25) rfl))) Via.refl G.2.2.1 d8_1 rfl ?_
  refine Rn.arraylength (pc' := 5) (n := (3 : Int32)) G.2.2.2 rfl d8_4 rfl ?_
  refine Rn.aloadN (pc' := 6) d8_5 rfl rfl rfl ?_
  refine Rn.callV (pc' := 9) (argsL := []) (a := x) (rest := [.int (3 : Int32)]) (ct_cdl3 Z a0 hw x t c0 c1 c2 hp0 hp1 hp2 hC0 hC1 hC2 h0 G z hz S) G.1 (hw _ (List.mem_of_getElem? (i := 52) rfl)) (hw _ (List.mem_of_getElem? (i := 53) rfl)) (fun _ hZ => notFace_of_selects (args := #[]) (mvT hZ (hw _ (List.mem_of_getElem? (i := 55) rfl)))) (hw _ (List.mem_of_getElem? (i := 55) rfl)) (hw _ (List.mem_of_getElem? (i := 54) rfl)) (hw _ (List.mem_of_getElem? (i := 7) rfl)) (hw _ (List.mem_of_getElem? (i := 56) rfl)) (by decide) rfl rfl (lenOf pd_10 rfl) rfl d8_6 rfl (Nat.le_of_ble_eq_true rfl) (Nat.le_of_ble_eq_true rfl) (Nat.le_of_ble_eq_true rfl) (Nat.le_of_ble_eq_true rfl) (fun _ z => nomatch z) (fun _ z => nomatch z) (fun vq1 hq2 Kq3 qq4 => ?_)
  obtain ⟨rfl, rfl⟩ := qq4
  simp only [Option.toList, List.cons_append, List.nil_append]
  refine Rn.ishr (pc' := 10) (v := (3 : Int32)) d8_9 rfl rfl ?_
  refine Rn.retI rfl d8_10 (Nat.le_of_ble_eq_true rfl) (Nat.le_of_ble_eq_true rfl) ?_
  exact ⟨rfl, rfl⟩
set_option maxRecDepth 65536 in
set_option maxHeartbeats 40000000 in
theorem ct_i2l3 (Z : State) (a0 : Array Value) (hw : ∀ d ∈ tables_1, d.before a0 Z = true) (x t : Addr) (c0 c1 c2 : Int32) (hp0 : ¬ 255 < c0) (hp1 : ¬ 255 < c1) (hp2 : ¬ 255 < c2) (hC0 : own_C c0) (hC1 : own_C c1) (hC2 : own_C c2) (h0 : Heap) (G : Sg Z h0 x t [.int (b8 c0), .int (b8 c1), .int (b8 c2)]) (z : Int32) (hz : z ≠ 0) (S : Sta Z Z.heap "java/lang/String" "COMPACT_STRINGS" "Z" (.int z))(ch : Int32) (hb : b8 ch = ch) (hB : own_B ch)(UA : Sta Z Z.heap "java/lang/StringUTF16" "$assertionsDisabled" "Z" (.int (1 : Int32))) (UH : Sta Z Z.heap "java/lang/StringUTF16" "HI_BYTE_SHIFT" "I" (.int (0 : Int32))) (UL : Sta Z Z.heap "java/lang/StringUTF16" "LO_BYTE_SHIFT" "I" (.int (8 : Int32)))(f : Value) (hf : f.isRef = true) (SF : Sta Z Z.heap "jdk/internal/util/Preconditions" "SIOOBE_FORMATTER" "Ljava/util/function/BiFunction;" f) :
    Ct Z ⟨"java/lang/String", "indexOf", "(II)I"⟩ jdk_42_method_80_code 3 (Option.some FieldType.int) ({ frames := 2, cells := 0, slots := 0, locals := 32 } : Room) #[(.ref x), (.int ch), (.int (0 : Int32))] h0 [] (fun v h => (∃ r, v = some (.int r) ∧ (r < 0 ↔ ¬ (c0 = ch ∨ c1 = ch ∨ c2 = ch))) ∧ h0 = h) := by
  refine Ct.intro (Ls := #[.val (.ref x), .val (.int ch), .val (.int (0 : Int32))]) (plainFor_of_name pn_4) (by intro m; first | (simp [entryFrame, mkF, argsToLocals, Value.category]; done) | rfl) ?_
  refine Rn.aloadN (pc' := 1) d6_0 rfl rfl rfl ?_
  refine Rn.callV (pc' := 4) (argsL := []) (a := x) (rest := []) (ct_ill3 Z a0 hw x t c0 c1 c2 hp0 hp1 hp2 hC0 hC1 hC2 h0 G z hz S) G.1 (hw _ (List.mem_of_getElem? (i := 41) rfl)) (hw _ (List.mem_of_getElem? (i := 42) rfl)) (fun _ hZ => notFace_of_selects (args := #[]) (mvT hZ (hw _ (List.mem_of_getElem? (i := 44) rfl)))) (hw _ (List.mem_of_getElem? (i := 44) rfl)) (hw _ (List.mem_of_getElem? (i := 43) rfl)) (hw _ (List.mem_of_getElem? (i := 7) rfl)) (hw _ (List.mem_of_getElem? (i := 45) rfl)) (by decide) rfl rfl (lenOf pd_11 rfl) rfl d6_1 rfl (Nat.le_of_ble_eq_true rfl) (Nat.le_of_ble_eq_true rfl) (Nat.le_of_ble_eq_true rfl) (Nat.le_of_ble_eq_true rfl) (fun _ z => nomatch z) (fun _ z => nomatch z) (fun vq1 hq2 Kq3 qq4 => ?_)
  obtain ⟨rfl, rfl⟩ := qq4
  simp only [Option.toList, List.cons_append, List.nil_append]
  refine Rn.if_eq (pc' := 23) (pn := 7) d6_4 (by decide) (by decide) rfl (fun cq5 => absurd cq5 (by decide)) (fun cq5 => ?_)
  refine Rn.aloadN (pc' := 8) d6_7 rfl rfl rfl ?_
  refine Rn.getF (pc' := 11) (host := "") (Or.inl (hw _ (List.mem_of_getElem? (i := 25) rfl))) Via.refl G.2.2.1 d6_8 rfl ?_
  refine Rn.iloadN (pc' := 12) d6_11 rfl rfl ?_
  refine Rn.iloadN (pc' := 13) d6_12 rfl rfl ?_
  refine Rn.aloadN (pc' := 14) d6_13 rfl rfl rfl ?_
  refine Rn.callV (pc' := 17) (argsL := []) (a := x) (rest := [.int (0 : Int32), .int ch, .ref t]) (ct_lnl3 Z a0 hw x t c0 c1 c2 hp0 hp1 hp2 hC0 hC1 hC2 h0 G z hz S) G.1 (hw _ (List.mem_of_getElem? (i := 47) rfl)) (hw _ (List.mem_of_getElem? (i := 48) rfl)) (fun _ hZ => notFace_of_selects (args := #[]) (mvT hZ (hw _ (List.mem_of_getElem? (i := 50) rfl)))) (hw _ (List.mem_of_getElem? (i := 50) rfl)) (hw _ (List.mem_of_getElem? (i := 49) rfl)) (hw _ (List.mem_of_getElem? (i := 7) rfl)) (hw _ (List.mem_of_getElem? (i := 51) rfl)) (by decide) rfl rfl (lenOf pd_12 rfl) rfl d6_14 rfl (Nat.le_of_ble_eq_true rfl) (Nat.le_of_ble_eq_true rfl) (Nat.le_of_ble_eq_true rfl) (Nat.le_of_ble_eq_true rfl) (fun _ z => nomatch z) (fun _ z => nomatch z) (fun vq6 hq7 Kq8 qq9 => ?_)
  obtain ⟨rfl, rfl⟩ := qq9
  simp only [Option.toList, List.cons_append, List.nil_append]
  refine Rn.callS (pc' := 20) (argsL := [.ref t, .int ch, .int (0 : Int32), .int (3 : Int32)]) (rest := []) (ct_ixl3 Z a0 hw t c0 c1 c2 hp0 hp1 hp2 hC0 hC1 hC2 h0 G.2.2.2 ch hb hB) (hw _ (List.mem_of_getElem? (i := 57) rfl)) (hw _ (List.mem_of_getElem? (i := 58) rfl)) (hw _ (List.mem_of_getElem? (i := 59) rfl)) (hw _ (List.mem_of_getElem? (i := 60) rfl)) (by decide) rfl rfl (lenOf pd_13 rfl) rfl d6_17 rfl (Nat.le_of_ble_eq_true rfl) (Nat.le_of_ble_eq_true rfl) (Nat.le_of_ble_eq_true rfl) (Nat.le_of_ble_eq_true rfl) (fun _ z => nomatch z) (fun _ z => nomatch z) (fun vq10 hq11 Kq12 qq13 => ?_)
  obtain ⟨⟨r, rfl, hr⟩, rfl⟩ := qq13
  simp only [Option.toList, List.cons_append, List.nil_append]
  refine Rn.goto (pc' := 36) d6_20 (by decide) (by decide) ?_
  refine Rn.retI rfl d6_36 (Nat.le_of_ble_eq_true rfl) (Nat.le_of_ble_eq_true rfl) ?_
  exact ⟨⟨r, rfl, hr⟩, rfl⟩
set_option maxRecDepth 65536 in
set_option maxHeartbeats 40000000 in
theorem ct_i1l3 (Z : State) (a0 : Array Value) (hw : ∀ d ∈ tables_1, d.before a0 Z = true) (x t : Addr) (c0 c1 c2 : Int32) (hp0 : ¬ 255 < c0) (hp1 : ¬ 255 < c1) (hp2 : ¬ 255 < c2) (hC0 : own_C c0) (hC1 : own_C c1) (hC2 : own_C c2) (h0 : Heap) (G : Sg Z h0 x t [.int (b8 c0), .int (b8 c1), .int (b8 c2)]) (z : Int32) (hz : z ≠ 0) (S : Sta Z Z.heap "java/lang/String" "COMPACT_STRINGS" "Z" (.int z))(ch : Int32) (hb : b8 ch = ch) (hB : own_B ch)(UA : Sta Z Z.heap "java/lang/StringUTF16" "$assertionsDisabled" "Z" (.int (1 : Int32))) (UH : Sta Z Z.heap "java/lang/StringUTF16" "HI_BYTE_SHIFT" "I" (.int (0 : Int32))) (UL : Sta Z Z.heap "java/lang/StringUTF16" "LO_BYTE_SHIFT" "I" (.int (8 : Int32)))(f : Value) (hf : f.isRef = true) (SF : Sta Z Z.heap "jdk/internal/util/Preconditions" "SIOOBE_FORMATTER" "Ljava/util/function/BiFunction;" f) :
    Ct Z ⟨"java/lang/String", "indexOf", "(I)I"⟩ jdk_42_method_79_code 2 (Option.some FieldType.int) ({ frames := 3, cells := 0, slots := 0, locals := 46 } : Room) #[(.ref x), (.int ch)] h0 [] (fun v h => (∃ r, v = some (.int r) ∧ (r < 0 ↔ ¬ (c0 = ch ∨ c1 = ch ∨ c2 = ch))) ∧ h0 = h) := by
  refine Ct.intro (Ls := #[.val (.ref x), .val (.int ch)]) (plainFor_of_name pn_4) (by intro m; first | (simp [entryFrame, mkF, argsToLocals, Value.category]; done) | rfl) ?_
  refine Rn.aloadN (pc' := 1) d5_0 rfl rfl rfl ?_
  refine Rn.iloadN (pc' := 2) d5_1 rfl rfl ?_
  refine Rn.iconst (pc' := 3) (v := (0 : Int32)) d5_2 rfl rfl ?_
  refine Rn.callV (pc' := 6) (argsL := [.int ch, .int (0 : Int32)]) (a := x) (rest := []) (ct_i2l3 Z a0 hw x t c0 c1 c2 hp0 hp1 hp2 hC0 hC1 hC2 h0 G z hz S ch hb hB UA UH UL f hf SF) G.1 (hw _ (List.mem_of_getElem? (i := 36) rfl)) (hw _ (List.mem_of_getElem? (i := 37) rfl)) (fun _ hZ => notFace_of_selects (args := #[]) (mvT hZ (hw _ (List.mem_of_getElem? (i := 39) rfl)))) (hw _ (List.mem_of_getElem? (i := 39) rfl)) (hw _ (List.mem_of_getElem? (i := 38) rfl)) (hw _ (List.mem_of_getElem? (i := 7) rfl)) (hw _ (List.mem_of_getElem? (i := 40) rfl)) (by decide) rfl rfl (lenOf pd_9 rfl) rfl d5_3 rfl (Nat.le_of_ble_eq_true rfl) (Nat.le_of_ble_eq_true rfl) (Nat.le_of_ble_eq_true rfl) (Nat.le_of_ble_eq_true rfl) (fun _ z => nomatch z) (fun _ z => nomatch z) (fun vq1 hq2 Kq3 qq4 => ?_)
  obtain ⟨⟨r, rfl, hr⟩, rfl⟩ := qq4
  simp only [Option.toList, List.cons_append, List.nil_append]
  refine Rn.retI rfl d5_6 (Nat.le_of_ble_eq_true rfl) (Nat.le_of_ble_eq_true rfl) ?_
  exact ⟨⟨r, rfl, hr⟩, rfl⟩
set_option maxRecDepth 65536 in
set_option maxHeartbeats 40000000 in
theorem ct_chhl3 (Z : State) (a0 : Array Value) (hw : ∀ d ∈ tables_1, d.before a0 Z = true) (x t : Addr) (c0 c1 c2 : Int32) (hp0 : ¬ 255 < c0) (hp1 : ¬ 255 < c1) (hp2 : ¬ 255 < c2) (hC0 : own_C c0) (hC1 : own_C c1) (hC2 : own_C c2) (h0 : Heap) (G : Sg Z h0 x t [.int (b8 c0), .int (b8 c1), .int (b8 c2)]) (z : Int32) (hz : z ≠ 0) (S : Sta Z Z.heap "java/lang/String" "COMPACT_STRINGS" "Z" (.int z))(UA : Sta Z Z.heap "java/lang/StringUTF16" "$assertionsDisabled" "Z" (.int (1 : Int32))) (UH : Sta Z Z.heap "java/lang/StringUTF16" "HI_BYTE_SHIFT" "I" (.int (0 : Int32))) (UL : Sta Z Z.heap "java/lang/StringUTF16" "LO_BYTE_SHIFT" "I" (.int (8 : Int32)))(f : Value) (hf : f.isRef = true) (SF : Sta Z Z.heap "jdk/internal/util/Preconditions" "SIOOBE_FORMATTER" "Ljava/util/function/BiFunction;" f) :
    Ct Z ⟨"com/example/fleet_quant/fleetquant/io/TableCells", "canHold", "(Ljava/lang/String;)Z"⟩ prog_28_method_2_code 1 (Option.some FieldType.boolean) ({ frames := 9, cells := 0, slots := 0, locals := 140 } : Room) #[(.ref x)] h0 [] (fun v h => v = some (.int (if own_ok c0 ∧ own_ok c1 ∧ own_ok c2 then 1 else 0)) ∧ h0 = h) := by
  refine Ct.intro (Ls := #[.val (.ref x)]) (plainFor_of_name pn_6) (by intro m; first | (simp [entryFrame, mkF, argsToLocals, Value.category]; done) | rfl) ?_
  refine Rn.aloadN (pc' := 1) d4_0 rfl rfl rfl ?_
  refine Rn.bipush (pc' := 3) (v := (9 : Int32)) d4_1 rfl rfl ?_
  refine Rn.callV (pc' := 6) (argsL := [.int (9 : Int32)]) (a := x) (rest := []) (ct_i1l3 Z a0 hw x t c0 c1 c2 hp0 hp1 hp2 hC0 hC1 hC2 h0 G z hz S 9 rfl own_k9 UA UH UL f hf SF) G.1 (hw _ (List.mem_of_getElem? (i := 31) rfl)) (hw _ (List.mem_of_getElem? (i := 32) rfl)) (fun _ hZ => notFace_of_selects (args := #[]) (mvT hZ (hw _ (List.mem_of_getElem? (i := 34) rfl)))) (hw _ (List.mem_of_getElem? (i := 34) rfl)) (hw _ (List.mem_of_getElem? (i := 33) rfl)) (hw _ (List.mem_of_getElem? (i := 7) rfl)) (hw _ (List.mem_of_getElem? (i := 35) rfl)) (by decide) rfl rfl (lenOf pd_0 rfl) rfl d4_3 rfl (Nat.le_of_ble_eq_true rfl) (Nat.le_of_ble_eq_true rfl) (Nat.le_of_ble_eq_true rfl) (Nat.le_of_ble_eq_true rfl) (fun _ z => nomatch z) (fun _ z => nomatch z) (fun vq1 hq2 Kq3 qq4 => ?_)
  obtain ⟨⟨r9, rfl, hr9⟩, rfl⟩ := qq4
  simp only [Option.toList, List.cons_append, List.nil_append]
  refine Rn.if_ge (pc' := 31) (pn := 9) d4_6 (by decide) (by decide) rfl (fun cq5 => ?_) (fun cq5 => ?_)
  ·
    refine Rn.iconst (pc' := 32) (v := (0 : Int32)) d4_31 rfl rfl ?_
    refine Rn.retN (t := .boolean) rfl (by simp) d4_32 (Nat.le_of_ble_eq_true rfl) (Nat.le_of_ble_eq_true rfl) ?_
    refine ⟨?_, rfl⟩
    exact own_if_f (fun q => own_ngt cq5 (hr9.mpr (fun q' => by rcases q' with q' | q' | q' <;> first | exact absurd q' q.1 | exact absurd q' q.1.1 | exact absurd q' q.2.1 | exact absurd q' q.2.1.1 | exact absurd q' q.2.2.1)))
  ·
    refine Rn.aloadN (pc' := 10) d4_9 rfl rfl rfl ?_
    refine Rn.bipush (pc' := 12) (v := (10 : Int32)) d4_10 rfl rfl ?_
    refine Rn.callV (pc' := 15) (argsL := [.int (10 : Int32)]) (a := x) (rest := []) (ct_i1l3 Z a0 hw x t c0 c1 c2 hp0 hp1 hp2 hC0 hC1 hC2 h0 G z hz S 10 rfl own_k10 UA UH UL f hf SF) G.1 (hw _ (List.mem_of_getElem? (i := 31) rfl)) (hw _ (List.mem_of_getElem? (i := 32) rfl)) (fun _ hZ => notFace_of_selects (args := #[]) (mvT hZ (hw _ (List.mem_of_getElem? (i := 34) rfl)))) (hw _ (List.mem_of_getElem? (i := 34) rfl)) (hw _ (List.mem_of_getElem? (i := 33) rfl)) (hw _ (List.mem_of_getElem? (i := 7) rfl)) (hw _ (List.mem_of_getElem? (i := 35) rfl)) (by decide) rfl rfl (lenOf pd_0 rfl) rfl d4_12 rfl (Nat.le_of_ble_eq_true rfl) (Nat.le_of_ble_eq_true rfl) (Nat.le_of_ble_eq_true rfl) (Nat.le_of_ble_eq_true rfl) (fun _ z => nomatch z) (fun _ z => nomatch z) (fun vq6 hq7 Kq8 qq9 => ?_)
    obtain ⟨⟨r10, rfl, hr10⟩, rfl⟩ := qq9
    simp only [Option.toList, List.cons_append, List.nil_append]
    refine Rn.if_ge (pc' := 31) (pn := 18) d4_15 (by decide) (by decide) rfl (fun cq10 => ?_) (fun cq10 => ?_)
    ·
      refine Rn.iconst (pc' := 32) (v := (0 : Int32)) d4_31 rfl rfl ?_
      refine Rn.retN (t := .boolean) rfl (by simp) d4_32 (Nat.le_of_ble_eq_true rfl) (Nat.le_of_ble_eq_true rfl) ?_
      refine ⟨?_, rfl⟩
      exact own_if_f (fun q => own_ngt cq10 (hr10.mpr (fun q' => by rcases q' with q' | q' | q' <;> first | exact absurd q' q.2.1 | exact absurd q' q.1.2.1 | exact absurd q' q.2.2.1 | exact absurd q' q.2.1.2.1 | exact absurd q' q.2.2.2.1)))
    ·
      refine Rn.aloadN (pc' := 19) d4_18 rfl rfl rfl ?_
      refine Rn.bipush (pc' := 21) (v := (13 : Int32)) d4_19 rfl rfl ?_
      refine Rn.callV (pc' := 24) (argsL := [.int (13 : Int32)]) (a := x) (rest := []) (ct_i1l3 Z a0 hw x t c0 c1 c2 hp0 hp1 hp2 hC0 hC1 hC2 h0 G z hz S 13 rfl own_k13 UA UH UL f hf SF) G.1 (hw _ (List.mem_of_getElem? (i := 31) rfl)) (hw _ (List.mem_of_getElem? (i := 32) rfl)) (fun _ hZ => notFace_of_selects (args := #[]) (mvT hZ (hw _ (List.mem_of_getElem? (i := 34) rfl)))) (hw _ (List.mem_of_getElem? (i := 34) rfl)) (hw _ (List.mem_of_getElem? (i := 33) rfl)) (hw _ (List.mem_of_getElem? (i := 7) rfl)) (hw _ (List.mem_of_getElem? (i := 35) rfl)) (by decide) rfl rfl (lenOf pd_0 rfl) rfl d4_21 rfl (Nat.le_of_ble_eq_true rfl) (Nat.le_of_ble_eq_true rfl) (Nat.le_of_ble_eq_true rfl) (Nat.le_of_ble_eq_true rfl) (fun _ z => nomatch z) (fun _ z => nomatch z) (fun vq11 hq12 Kq13 qq14 => ?_)
      obtain ⟨⟨r13, rfl, hr13⟩, rfl⟩ := qq14
      simp only [Option.toList, List.cons_append, List.nil_append]
      refine Rn.if_ge (pc' := 31) (pn := 27) d4_24 (by decide) (by decide) rfl (fun cq15 => ?_) (fun cq15 => ?_)
      ·
        refine Rn.iconst (pc' := 32) (v := (0 : Int32)) d4_31 rfl rfl ?_
        refine Rn.retN (t := .boolean) rfl (by simp) d4_32 (Nat.le_of_ble_eq_true rfl) (Nat.le_of_ble_eq_true rfl) ?_
        refine ⟨?_, rfl⟩
        exact own_if_f (fun q => own_ngt cq15 (hr13.mpr (fun q' => by rcases q' with q' | q' | q' <;> first | exact absurd q' q.2.2 | exact absurd q' q.1.2.2 | exact absurd q' q.2.2.2 | exact absurd q' q.2.1.2.2 | exact absurd q' q.2.2.2.2)))
      ·
        refine Rn.iconst (pc' := 28) (v := (1 : Int32)) d4_27 rfl rfl ?_
        refine Rn.goto (pc' := 32) d4_28 (by decide) (by decide) ?_
        refine Rn.retN (t := .boolean) rfl (by simp) d4_32 (Nat.le_of_ble_eq_true rfl) (Nat.le_of_ble_eq_true rfl) ?_
        refine ⟨?_, rfl⟩
        exact own_if_t ⟨⟨fun q => (hr9.mp (own_nge cq5)) (Or.inl q), fun q => (hr10.mp (own_nge cq10)) (Or.inl q), fun q => (hr13.mp (own_nge cq15)) (Or.inl q)⟩, ⟨fun q => (hr9.mp (own_nge cq5)) (Or.inr (Or.inl q)), fun q => (hr10.mp (own_nge cq10)) (Or.inr (Or.inl q)), fun q => (hr13.mp (own_nge cq15)) (Or.inr (Or.inl q))⟩, ⟨fun q => (hr9.mp (own_nge cq5)) (Or.inr (Or.inr (q))), fun q => (hr10.mp (own_nge cq10)) (Or.inr (Or.inr (q))), fun q => (hr13.mp (own_nge cq15)) (Or.inr (Or.inr (q)))⟩⟩
set_option maxRecDepth 65536 in
set_option maxHeartbeats 40000000 in
theorem ct_iouu3 (Z : State) (a0 : Array Value) (hw : ∀ d ∈ tables_1, d.before a0 Z = true) (t : Addr) (c0 c1 c2 : Int32) (hC0 : own_C c0) (hC1 : own_C c1) (hC2 : own_C c2) (h0 : Heap) (A : Ax Z h0 t .byte [.int (b8 c0), .int (b8 (own_hi c0)), .int (b8 c1), .int (b8 (own_hi c1)), .int (b8 c2), .int (b8 (own_hi c2))]) (ch : Int32) (hb : b8 ch = ch) (hB : own_B ch)(UA : Sta Z Z.heap "java/lang/StringUTF16" "$assertionsDisabled" "Z" (.int (1 : Int32))) (UH : Sta Z Z.heap "java/lang/StringUTF16" "HI_BYTE_SHIFT" "I" (.int (0 : Int32))) (UL : Sta Z Z.heap "java/lang/StringUTF16" "LO_BYTE_SHIFT" "I" (.int (8 : Int32))) :
    Ct Z ⟨"java/lang/StringUTF16", "indexOfCharUnsafe", "([BIII)I"⟩ jdk_52_method_48_code 5 (Option.some FieldType.int) ({ frames := 1, cells := 0, slots := 0, locals := 13 } : Room) #[(.ref t), (.int ch), (.int (0 : Int32)), (.int (3 : Int32))] h0 [] (fun v h => (∃ r, v = some (.int r) ∧ (r < 0 ↔ ¬ (c0 = ch ∨ c1 = ch ∨ c2 = ch))) ∧ h0 = h) := by
  refine Ct.intro (Ls := #[.val (.ref t), .val (.int ch), .val (.int (0 : Int32)), .val (.int (3 : Int32)), .unset]) (plainFor_of_name pn_3) (by intro m; first | (simp [entryFrame, mkF, argsToLocals, Value.category]; done) | rfl) ?_
  refine Rn.iloadN (pc' := 1) d30_0 rfl rfl ?_
  refine Rn.istore (pc' := 3) (Ls' := #[.val (.ref t), .val (.int ch), .val (.int (0 : Int32)), .val (.int (3 : Int32)), .val (.int (0 : Int32))]) d30_1 rfl rfl ?_
  refine Rn.iload (pc' := 5) d30_3 rfl rfl ?_
  refine Rn.iloadN (pc' := 6) d30_5 rfl rfl ?_
  refine Rn.icmp_ge (pc' := 28) (pn := 9) d30_6 (by decide) (by decide) rfl (fun cq1 => absurd cq1 (by decide)) (fun cq1 => ?_)
  refine Rn.aloadN (pc' := 10) d30_9 rfl rfl rfl ?_
  refine Rn.iload (pc' := 12) d30_10 rfl rfl ?_
  refine Rn.callS (pc' := 15) (argsL := [.ref t, .int (0 : Int32)]) (rest := []) (ct_gch3_0 Z a0 hw t c0 c1 c2 hC0 h0 A UA UH UL) (hw _ (List.mem_of_getElem? (i := 103) rfl)) (hw _ (List.mem_of_getElem? (i := 104) rfl)) (hw _ (List.mem_of_getElem? (i := 73) rfl)) (hw _ (List.mem_of_getElem? (i := 105) rfl)) (by decide) rfl rfl (lenOf pd_5 rfl) rfl d30_12 rfl (Nat.le_of_ble_eq_true rfl) (Nat.le_of_ble_eq_true rfl) (Nat.le_of_ble_eq_true rfl) (Nat.le_of_ble_eq_true rfl) (fun _ z => nomatch z) (fun _ z => nomatch z) (fun vq2 hq3 Kq4 qq5 => ?_)
  obtain ⟨rfl, rfl⟩ := qq5
  simp only [Option.toList, List.cons_append, List.nil_append]
  refine Rn.iloadN (pc' := 16) d30_15 rfl rfl ?_
  refine Rn.icmp_ne (pc' := 22) (pn := 19) d30_16 (by decide) (by decide) rfl (fun cq6 => ?_) (fun cq6 => ?_)
  ·
    refine Rn.iinc (pc' := 25) (v := (1 : Int32)) (Ls' := #[.val (.ref t), .val (.int ch), .val (.int (0 : Int32)), .val (.int (3 : Int32)), .val (.int (1 : Int32))]) d30_22 rfl rfl rfl rfl ?_
    refine Rn.goto (pc' := 3) d30_25 (by decide) (by decide) ?_
    refine Rn.iload (pc' := 5) d30_3 rfl rfl ?_
    refine Rn.iloadN (pc' := 6) d30_5 rfl rfl ?_
    refine Rn.icmp_ge (pc' := 28) (pn := 9) d30_6 (by decide) (by decide) rfl (fun cq7 => absurd cq7 (by decide)) (fun cq7 => ?_)
    refine Rn.aloadN (pc' := 10) d30_9 rfl rfl rfl ?_
    refine Rn.iload (pc' := 12) d30_10 rfl rfl ?_
    refine Rn.callS (pc' := 15) (argsL := [.ref t, .int (1 : Int32)]) (rest := []) (ct_gch3_1 Z a0 hw t c0 c1 c2 hC1 h0 A UA UH UL) (hw _ (List.mem_of_getElem? (i := 103) rfl)) (hw _ (List.mem_of_getElem? (i := 104) rfl)) (hw _ (List.mem_of_getElem? (i := 73) rfl)) (hw _ (List.mem_of_getElem? (i := 105) rfl)) (by decide) rfl rfl (lenOf pd_5 rfl) rfl d30_12 rfl (Nat.le_of_ble_eq_true rfl) (Nat.le_of_ble_eq_true rfl) (Nat.le_of_ble_eq_true rfl) (Nat.le_of_ble_eq_true rfl) (fun _ z => nomatch z) (fun _ z => nomatch z) (fun vq8 hq9 Kq10 qq11 => ?_)
    obtain ⟨rfl, rfl⟩ := qq11
    simp only [Option.toList, List.cons_append, List.nil_append]
    refine Rn.iloadN (pc' := 16) d30_15 rfl rfl ?_
    refine Rn.icmp_ne (pc' := 22) (pn := 19) d30_16 (by decide) (by decide) rfl (fun cq12 => ?_) (fun cq12 => ?_)
    ·
      refine Rn.iinc (pc' := 25) (v := (2 : Int32)) (Ls' := #[.val (.ref t), .val (.int ch), .val (.int (0 : Int32)), .val (.int (3 : Int32)), .val (.int (2 : Int32))]) d30_22 rfl rfl rfl rfl ?_
      refine Rn.goto (pc' := 3) d30_25 (by decide) (by decide) ?_
      refine Rn.iload (pc' := 5) d30_3 rfl rfl ?_
      refine Rn.iloadN (pc' := 6) d30_5 rfl rfl ?_
      refine Rn.icmp_ge (pc' := 28) (pn := 9) d30_6 (by decide) (by decide) rfl (fun cq13 => absurd cq13 (by decide)) (fun cq13 => ?_)
      refine Rn.aloadN (pc' := 10) d30_9 rfl rfl rfl ?_
      refine Rn.iload (pc' := 12) d30_10 rfl rfl ?_
      refine Rn.callS (pc' := 15) (argsL := [.ref t, .int (2 : Int32)]) (rest := []) (ct_gch3_2 Z a0 hw t c0 c1 c2 hC2 h0 A UA UH UL) (hw _ (List.mem_of_getElem? (i := 103) rfl)) (hw _ (List.mem_of_getElem? (i := 104) rfl)) (hw _ (List.mem_of_getElem? (i := 73) rfl)) (hw _ (List.mem_of_getElem? (i := 105) rfl)) (by decide) rfl rfl (lenOf pd_5 rfl) rfl d30_12 rfl (Nat.le_of_ble_eq_true rfl) (Nat.le_of_ble_eq_true rfl) (Nat.le_of_ble_eq_true rfl) (Nat.le_of_ble_eq_true rfl) (fun _ z => nomatch z) (fun _ z => nomatch z) (fun vq14 hq15 Kq16 qq17 => ?_)
      obtain ⟨rfl, rfl⟩ := qq17
      simp only [Option.toList, List.cons_append, List.nil_append]
      refine Rn.iloadN (pc' := 16) d30_15 rfl rfl ?_
      refine Rn.icmp_ne (pc' := 22) (pn := 19) d30_16 (by decide) (by decide) rfl (fun cq18 => ?_) (fun cq18 => ?_)
      ·
        refine Rn.iinc (pc' := 25) (v := (3 : Int32)) (Ls' := #[.val (.ref t), .val (.int ch), .val (.int (0 : Int32)), .val (.int (3 : Int32)), .val (.int (3 : Int32))]) d30_22 rfl rfl rfl rfl ?_
        refine Rn.goto (pc' := 3) d30_25 (by decide) (by decide) ?_
        refine Rn.iload (pc' := 5) d30_3 rfl rfl ?_
        refine Rn.iloadN (pc' := 6) d30_5 rfl rfl ?_
        refine Rn.icmp_ge (pc' := 28) (pn := 9) d30_6 (by decide) (by decide) rfl (fun cq19 => ?_) (fun cq19 => absurd cq19 (by decide))
        refine Rn.iconst (pc' := 29) (v := (-1 : Int32)) d30_28 rfl rfl ?_
        refine Rn.retI rfl d30_29 (Nat.le_of_ble_eq_true rfl) (Nat.le_of_ble_eq_true rfl) ?_
        refine ⟨⟨_, rfl, ⟨fun _ q => ?_, fun _ => by decide⟩⟩, rfl⟩
        rcases q with q | q | q
        · exact cq6 q
        · exact cq12 q
        · exact cq18 q
      ·
        refine Rn.iload (pc' := 21) d30_19 rfl rfl ?_
        refine Rn.retI rfl d30_21 (Nat.le_of_ble_eq_true rfl) (Nat.le_of_ble_eq_true rfl) ?_
        exact ⟨⟨_, rfl, ⟨fun q => absurd q (by decide), fun q => absurd (Or.inr (Or.inr ((cq18)))) q⟩⟩, rfl⟩
    ·
      refine Rn.iload (pc' := 21) d30_19 rfl rfl ?_
      refine Rn.retI rfl d30_21 (Nat.le_of_ble_eq_true rfl) (Nat.le_of_ble_eq_true rfl) ?_
      exact ⟨⟨_, rfl, ⟨fun q => absurd q (by decide), fun q => absurd (Or.inr (Or.inl (cq12))) q⟩⟩, rfl⟩
  ·
    refine Rn.iload (pc' := 21) d30_19 rfl rfl ?_
    refine Rn.retI rfl d30_21 (Nat.le_of_ble_eq_true rfl) (Nat.le_of_ble_eq_true rfl) ?_
    exact ⟨⟨_, rfl, ⟨fun q => absurd q (by decide), fun q => absurd (Or.inl (cq6)) q⟩⟩, rfl⟩
set_option maxRecDepth 65536 in
set_option maxHeartbeats 40000000 in
theorem ct_ulu3 (Z : State) (a0 : Array Value) (hw : ∀ d ∈ tables_1, d.before a0 Z = true) (t : Addr) (c0 c1 c2 : Int32) (hC0 : own_C c0) (hC1 : own_C c1) (hC2 : own_C c2) (h0 : Heap) (A : Ax Z h0 t .byte [.int (b8 c0), .int (b8 (own_hi c0)), .int (b8 c1), .int (b8 (own_hi c1)), .int (b8 c2), .int (b8 (own_hi c2))]) (ch : Int32) (hb : b8 ch = ch) (hB : own_B ch) :
    Ct Z ⟨"java/lang/StringUTF16", "length", "([B)I"⟩ jdk_52_method_6_code 1 (Option.some FieldType.int) ({ frames := 0, cells := 0, slots := 0, locals := 0 } : Room) #[(.ref t)] h0 [] (fun v h => v = some (.int (3 : Int32)) ∧ h0 = h) := by
  refine Ct.intro (Ls := #[.val (.ref t)]) (plainFor_of_name pn_3) (by intro m; first | (simp [entryFrame, mkF, argsToLocals, Value.category]; done) | rfl) ?_
  refine Rn.aloadN (pc' := 1) d27_0 rfl rfl rfl ?_
  refine Rn.arraylength (pc' := 2) (n := (6 : Int32)) A rfl d27_1 rfl ?_
  refine Rn.iconst (pc' := 3) (v := (1 : Int32)) d27_2 rfl rfl ?_
  refine Rn.ishr (pc' := 4) (v := (3 : Int32)) d27_3 rfl rfl ?_
  refine Rn.retI rfl d27_4 (Nat.le_of_ble_eq_true rfl) (Nat.le_of_ble_eq_true rfl) ?_
  exact ⟨rfl, rfl⟩
set_option maxRecDepth 65536 in
set_option maxHeartbeats 40000000 in
theorem ct_cftA3 (Z : State) (a0 : Array Value) (hw : ∀ d ∈ tables_1, d.before a0 Z = true) (f : Addr) (h0 : Heap) :
    Ct Z ⟨"jdk/internal/util/Preconditions", "checkFromToIndex", "(IIILjava/util/function/BiFunction;)I"⟩ jdk_41_method_12_code 4 (Option.some FieldType.int) ({ frames := 0, cells := 0, slots := 0, locals := 0 } : Room) #[(.int (0 : Int32)), (.int (3 : Int32)), (.int (3 : Int32)), (.ref f)] h0 [] (fun v h => v = some (.int (0 : Int32)) ∧ h0 = h) := by
  refine Ct.intro (Ls := #[.val (.int (0 : Int32)), .val (.int (3 : Int32)), .val (.int (3 : Int32)), .val (.ref f)]) (plainFor_of_name pn_7) (by intro m; first | (simp [entryFrame, mkF, argsToLocals, Value.category]; done) | rfl) ?_
  refine Rn.iloadN (pc' := 1) d29_0 rfl rfl ?_
  refine Rn.if_lt (pc' := 14) (pn := 4) d29_1 (by decide) (by decide) rfl (fun cq1 => absurd cq1 (by decide)) (fun cq1 => ?_)
  refine Rn.iloadN (pc' := 5) d29_4 rfl rfl ?_
  refine Rn.iloadN (pc' := 6) d29_5 rfl rfl ?_
  refine Rn.icmp_gt (pc' := 14) (pn := 9) d29_6 (by decide) (by decide) rfl (fun cq2 => absurd cq2 (by decide)) (fun cq2 => ?_)
  refine Rn.iloadN (pc' := 10) d29_9 rfl rfl ?_
  refine Rn.iloadN (pc' := 11) d29_10 rfl rfl ?_
  refine Rn.icmp_le (pc' := 22) (pn := 14) d29_11 (by decide) (by decide) rfl (fun cq3 => ?_) (fun cq3 => absurd cq3 (by decide))
  refine Rn.iloadN (pc' := 23) d29_22 rfl rfl ?_
  refine Rn.retI rfl d29_23 (Nat.le_of_ble_eq_true rfl) (Nat.le_of_ble_eq_true rfl) ?_
  exact ⟨rfl, rfl⟩
set_option maxRecDepth 65536 in
set_option maxHeartbeats 40000000 in
theorem ct_cbeA3 (Z : State) (a0 : Array Value) (hw : ∀ d ∈ tables_1, d.before a0 Z = true) (f : Addr) (h0 : Heap) (SF : Sta Z Z.heap "jdk/internal/util/Preconditions" "SIOOBE_FORMATTER" "Ljava/util/function/BiFunction;" (.ref f)) :
    Ct Z ⟨"java/lang/String", "checkBoundsBeginEnd", "(III)V"⟩ jdk_42_method_158_code 3 (Option.none : Option FieldType) ({ frames := 1, cells := 0, slots := 0, locals := 15 } : Room) #[(.int (0 : Int32)), (.int (3 : Int32)), (.int (3 : Int32))] h0 [] (fun v h => v = none ∧ h0 = h) := by
  refine Ct.intro (Ls := #[.val (.int (0 : Int32)), .val (.int (3 : Int32)), .val (.int (3 : Int32))]) (plainFor_of_name pn_4) (by intro m; first | (simp [entryFrame, mkF, argsToLocals, Value.category]; done) | rfl) ?_
  refine Rn.iloadN (pc' := 1) d28_0 rfl rfl ?_
  refine Rn.iloadN (pc' := 2) d28_1 rfl rfl ?_
  refine Rn.iloadN (pc' := 3) d28_2 rfl rfl ?_
  refine Rn.old fun Oq1 _ => ?_
  refine Rn.getS (pc' := 6) (hw _ (List.mem_of_getElem? (i := 124) rfl)) Via.refl (SF.ext Oq1) d28_3 rfl ?_
  refine Rn.callS (pc' := 9) (argsL := [.int (0 : Int32), .int (3 : Int32), .int (3 : Int32), .ref f]) (rest := []) (ct_cftA3 Z a0 hw f h0) (hw _ (List.mem_of_getElem? (i := 126) rfl)) (hw _ (List.mem_of_getElem? (i := 127) rfl)) (hw _ (List.mem_of_getElem? (i := 125) rfl)) (hw _ (List.mem_of_getElem? (i := 128) rfl)) (by decide) rfl rfl (lenOf pd_14 rfl) rfl d28_6 rfl (Nat.le_of_ble_eq_true rfl) (Nat.le_of_ble_eq_true rfl) (Nat.le_of_ble_eq_true rfl) (Nat.le_of_ble_eq_true rfl) (fun _ z => nomatch z) (fun _ z => nomatch z) (fun vq2 hq3 Kq4 qq5 => ?_)
  obtain ⟨rfl, rfl⟩ := qq5
  simp only [Option.toList, List.cons_append, List.nil_append]
  refine Rn.pop (pc' := 10) d28_9 rfl rfl ?_
  refine Rn.retV rfl d28_10 (Nat.le_of_ble_eq_true rfl) (Nat.le_of_ble_eq_true rfl) ?_
  exact ⟨rfl, rfl⟩
set_option maxRecDepth 65536 in
set_option maxHeartbeats 40000000 in
theorem ct_cftN3 (Z : State) (a0 : Array Value) (hw : ∀ d ∈ tables_1, d.before a0 Z = true) (h0 : Heap) :
    Ct Z ⟨"jdk/internal/util/Preconditions", "checkFromToIndex", "(IIILjava/util/function/BiFunction;)I"⟩ jdk_41_method_12_code 4 (Option.some FieldType.int) ({ frames := 0, cells := 0, slots := 0, locals := 0 } : Room) #[(.int (0 : Int32)), (.int (3 : Int32)), (.int (3 : Int32)), (.null)] h0 [] (fun v h => v = some (.int (0 : Int32)) ∧ h0 = h) := by
  refine Ct.intro (Ls := #[.val (.int (0 : Int32)), .val (.int (3 : Int32)), .val (.int (3 : Int32)), .val (.null)]) (plainFor_of_name pn_7) (by intro m; first | (simp [entryFrame, mkF, argsToLocals, Value.category]; done) | rfl) ?_
  refine Rn.iloadN (pc' := 1) d29_0 rfl rfl ?_
  refine Rn.if_lt (pc' := 14) (pn := 4) d29_1 (by decide) (by decide) rfl (fun cq1 => absurd cq1 (by decide)) (fun cq1 => ?_)
  refine Rn.iloadN (pc' := 5) d29_4 rfl rfl ?_
  refine Rn.iloadN (pc' := 6) d29_5 rfl rfl ?_
  refine Rn.icmp_gt (pc' := 14) (pn := 9) d29_6 (by decide) (by decide) rfl (fun cq2 => absurd cq2 (by decide)) (fun cq2 => ?_)
  refine Rn.iloadN (pc' := 10) d29_9 rfl rfl ?_
  refine Rn.iloadN (pc' := 11) d29_10 rfl rfl ?_
  refine Rn.icmp_le (pc' := 22) (pn := 14) d29_11 (by decide) (by decide) rfl (fun cq3 => ?_) (fun cq3 => absurd cq3 (by decide))
  refine Rn.iloadN (pc' := 23) d29_22 rfl rfl ?_
  refine Rn.retI rfl d29_23 (Nat.le_of_ble_eq_true rfl) (Nat.le_of_ble_eq_true rfl) ?_
  exact ⟨rfl, rfl⟩
set_option maxRecDepth 65536 in
set_option maxHeartbeats 40000000 in
theorem ct_cbeN3 (Z : State) (a0 : Array Value) (hw : ∀ d ∈ tables_1, d.before a0 Z = true) (h0 : Heap) (SF : Sta Z Z.heap "jdk/internal/util/Preconditions" "SIOOBE_FORMATTER" "Ljava/util/function/BiFunction;" (.null)) :
    Ct Z ⟨"java/lang/String", "checkBoundsBeginEnd", "(III)V"⟩ jdk_42_method_158_code 3 (Option.none : Option FieldType) ({ frames := 1, cells := 0, slots := 0, locals := 15 } : Room) #[(.int (0 : Int32)), (.int (3 : Int32)), (.int (3 : Int32))] h0 [] (fun v h => v = none ∧ h0 = h) := by
  refine Ct.intro (Ls := #[.val (.int (0 : Int32)), .val (.int (3 : Int32)), .val (.int (3 : Int32))]) (plainFor_of_name pn_4) (by intro m; first | (simp [entryFrame, mkF, argsToLocals, Value.category]; done) | rfl) ?_
  refine Rn.iloadN (pc' := 1) d28_0 rfl rfl ?_
  refine Rn.iloadN (pc' := 2) d28_1 rfl rfl ?_
  refine Rn.iloadN (pc' := 3) d28_2 rfl rfl ?_
  refine Rn.old fun Oq1 _ => ?_
  refine Rn.getS (pc' := 6) (hw _ (List.mem_of_getElem? (i := 124) rfl)) Via.refl (SF.ext Oq1) d28_3 rfl ?_
  refine Rn.callS (pc' := 9) (argsL := [.int (0 : Int32), .int (3 : Int32), .int (3 : Int32), .null]) (rest := []) (ct_cftN3 Z a0 hw h0) (hw _ (List.mem_of_getElem? (i := 126) rfl)) (hw _ (List.mem_of_getElem? (i := 127) rfl)) (hw _ (List.mem_of_getElem? (i := 125) rfl)) (hw _ (List.mem_of_getElem? (i := 128) rfl)) (by decide) rfl rfl (lenOf pd_14 rfl) rfl d28_6 rfl (Nat.le_of_ble_eq_true rfl) (Nat.le_of_ble_eq_true rfl) (Nat.le_of_ble_eq_true rfl) (Nat.le_of_ble_eq_true rfl) (fun _ z => nomatch z) (fun _ z => nomatch z) (fun vq2 hq3 Kq4 qq5 => ?_)
  obtain ⟨rfl, rfl⟩ := qq5
  simp only [Option.toList, List.cons_append, List.nil_append]
  refine Rn.pop (pc' := 10) d28_9 rfl rfl ?_
  refine Rn.retV rfl d28_10 (Nat.le_of_ble_eq_true rfl) (Nat.le_of_ble_eq_true rfl) ?_
  exact ⟨rfl, rfl⟩
theorem ct_cbe3 (Z : State) (a0 : Array Value) (hw : ∀ d ∈ tables_1, d.before a0 Z = true) (h0 : Heap) (f : Value) (hf : f.isRef = true) (SF : Sta Z Z.heap "jdk/internal/util/Preconditions" "SIOOBE_FORMATTER" "Ljava/util/function/BiFunction;" f) :
    Ct Z ⟨"java/lang/String", "checkBoundsBeginEnd", "(III)V"⟩ jdk_42_method_158_code 3 (Option.none : Option FieldType) ({ frames := 1, cells := 0, slots := 0, locals := 15 } : Room) #[(.int (0 : Int32)), (.int (3 : Int32)), (.int (3 : Int32))] h0 [] (fun v h => v = none ∧ h0 = h) := by
  rcases ref_cases hf with rfl | ⟨f, rfl⟩
  · exact ct_cbeN3 Z a0 hw h0 SF
  · exact ct_cbeA3 Z a0 hw f h0 SF
set_option maxRecDepth 65536 in
set_option maxHeartbeats 40000000 in
theorem ct_ucbu3 (Z : State) (a0 : Array Value) (hw : ∀ d ∈ tables_1, d.before a0 Z = true) (t : Addr) (c0 c1 c2 : Int32) (hC0 : own_C c0) (hC1 : own_C c1) (hC2 : own_C c2) (h0 : Heap) (A : Ax Z h0 t .byte [.int (b8 c0), .int (b8 (own_hi c0)), .int (b8 c1), .int (b8 (own_hi c1)), .int (b8 c2), .int (b8 (own_hi c2))]) (ch : Int32) (hb : b8 ch = ch) (hB : own_B ch)(f : Value) (hf : f.isRef = true) (SF : Sta Z Z.heap "jdk/internal/util/Preconditions" "SIOOBE_FORMATTER" "Ljava/util/function/BiFunction;" f) :
    Ct Z ⟨"java/lang/StringUTF16", "checkBoundsBeginEnd", "(II[B)V"⟩ jdk_52_method_93_code 3 (Option.none : Option FieldType) ({ frames := 2, cells := 0, slots := 0, locals := 29 } : Room) #[(.int (0 : Int32)), (.int (3 : Int32)), (.ref t)] h0 [] (fun v h => v = none ∧ h0 = h) := by
  refine Ct.intro (Ls := #[.val (.int (0 : Int32)), .val (.int (3 : Int32)), .val (.ref t)]) (plainFor_of_name pn_3) (by intro m; first | (simp [entryFrame, mkF, argsToLocals, Value.category]; done) | rfl) ?_
  refine Rn.iloadN (pc' := 1) d26_0 rfl rfl ?_
  refine Rn.iloadN (pc' := 2) d26_1 rfl rfl ?_
  refine Rn.aloadN (pc' := 3) d26_2 rfl rfl rfl ?_
  refine Rn.callS (pc' := 6) (argsL := [.ref t]) (rest := [.int (3 : Int32), .int (0 : Int32)]) (ct_ulu3 Z a0 hw t c0 c1 c2  hC0 hC1 hC2 h0 A ch hb hB) (hw _ (List.mem_of_getElem? (i := 118) rfl)) (hw _ (List.mem_of_getElem? (i := 119) rfl)) (hw _ (List.mem_of_getElem? (i := 73) rfl)) (hw _ (List.mem_of_getElem? (i := 120) rfl)) (by decide) rfl rfl (lenOf pd_15 rfl) rfl d26_3 rfl (Nat.le_of_ble_eq_true rfl) (Nat.le_of_ble_eq_true rfl) (Nat.le_of_ble_eq_true rfl) (Nat.le_of_ble_eq_true rfl) (fun _ z => nomatch z) (fun _ z => nomatch z) (fun vq1 hq2 Kq3 qq4 => ?_)
  obtain ⟨rfl, rfl⟩ := qq4
  simp only [Option.toList, List.cons_append, List.nil_append]
  refine Rn.callS (pc' := 9) (argsL := [.int (0 : Int32), .int (3 : Int32), .int (3 : Int32)]) (rest := []) (ct_cbe3 Z a0 hw h0 f hf SF) (hw _ (List.mem_of_getElem? (i := 121) rfl)) (hw _ (List.mem_of_getElem? (i := 122) rfl)) (hw _ (List.mem_of_getElem? (i := 7) rfl)) (hw _ (List.mem_of_getElem? (i := 123) rfl)) (by decide) rfl rfl (lenOf pd_16 rfl) rfl d26_6 rfl (Nat.le_of_ble_eq_true rfl) (Nat.le_of_ble_eq_true rfl) (Nat.le_of_ble_eq_true rfl) (Nat.le_of_ble_eq_true rfl) (fun _ z => nomatch z) (fun _ z => nomatch z) (fun vq5 hq6 Kq7 qq8 => ?_)
  obtain ⟨rfl, rfl⟩ := qq8
  simp only [Option.toList, List.cons_append, List.nil_append]
  refine Rn.retV rfl d26_9 (Nat.le_of_ble_eq_true rfl) (Nat.le_of_ble_eq_true rfl) ?_
  exact ⟨rfl, rfl⟩
set_option maxRecDepth 65536 in
set_option maxHeartbeats 40000000 in
theorem ct_iocu3 (Z : State) (a0 : Array Value) (hw : ∀ d ∈ tables_1, d.before a0 Z = true) (t : Addr) (c0 c1 c2 : Int32) (hC0 : own_C c0) (hC1 : own_C c1) (hC2 : own_C c2) (h0 : Heap) (A : Ax Z h0 t .byte [.int (b8 c0), .int (b8 (own_hi c0)), .int (b8 c1), .int (b8 (own_hi c1)), .int (b8 c2), .int (b8 (own_hi c2))]) (ch : Int32) (hb : b8 ch = ch) (hB : own_B ch)(UA : Sta Z Z.heap "java/lang/StringUTF16" "$assertionsDisabled" "Z" (.int (1 : Int32))) (UH : Sta Z Z.heap "java/lang/StringUTF16" "HI_BYTE_SHIFT" "I" (.int (0 : Int32))) (UL : Sta Z Z.heap "java/lang/StringUTF16" "LO_BYTE_SHIFT" "I" (.int (8 : Int32)))(f : Value) (hf : f.isRef = true) (SF : Sta Z Z.heap "jdk/internal/util/Preconditions" "SIOOBE_FORMATTER" "Ljava/util/function/BiFunction;" f) :
    Ct Z ⟨"java/lang/StringUTF16", "indexOfChar", "([BIII)I"⟩ jdk_52_method_47_code 4 (Option.some FieldType.int) ({ frames := 3, cells := 0, slots := 0, locals := 43 } : Room) #[(.ref t), (.int ch), (.int (0 : Int32)), (.int (3 : Int32))] h0 [] (fun v h => (∃ r, v = some (.int r) ∧ (r < 0 ↔ ¬ (c0 = ch ∨ c1 = ch ∨ c2 = ch))) ∧ h0 = h) := by
  refine Ct.intro (Ls := #[.val (.ref t), .val (.int ch), .val (.int (0 : Int32)), .val (.int (3 : Int32))]) (plainFor_of_name pn_3) (by intro m; first | (simp [entryFrame, mkF, argsToLocals, Value.category]; done) | rfl) ?_
  refine Rn.iloadN (pc' := 1) d25_0 rfl rfl ?_
  refine Rn.iloadN (pc' := 2) d25_1 rfl rfl ?_
  refine Rn.aloadN (pc' := 3) d25_2 rfl rfl rfl ?_
  refine Rn.callS (pc' := 6) (argsL := [.int (0 : Int32), .int (3 : Int32), .ref t]) (rest := []) (ct_ucbu3 Z a0 hw t c0 c1 c2  hC0 hC1 hC2 h0 A ch hb hB f hf SF) (hw _ (List.mem_of_getElem? (i := 115) rfl)) (hw _ (List.mem_of_getElem? (i := 116) rfl)) (hw _ (List.mem_of_getElem? (i := 73) rfl)) (hw _ (List.mem_of_getElem? (i := 117) rfl)) (by decide) rfl rfl (lenOf pd_17 rfl) rfl d25_3 rfl (Nat.le_of_ble_eq_true rfl) (Nat.le_of_ble_eq_true rfl) (Nat.le_of_ble_eq_true rfl) (Nat.le_of_ble_eq_true rfl) (fun _ z => nomatch z) (fun _ z => nomatch z) (fun vq1 hq2 Kq3 qq4 => ?_)
  obtain ⟨rfl, rfl⟩ := qq4
  simp only [Option.toList, List.cons_append, List.nil_append]
  refine Rn.aloadN (pc' := 7) d25_6 rfl rfl rfl ?_
  refine Rn.iloadN (pc' := 8) d25_7 rfl rfl ?_
  refine Rn.iloadN (pc' := 9) d25_8 rfl rfl ?_
  refine Rn.iloadN (pc' := 10) d25_9 rfl rfl ?_
  refine Rn.callS (pc' := 13) (argsL := [.ref t, .int ch, .int (0 : Int32), .int (3 : Int32)]) (rest := []) (ct_iouu3 Z a0 hw t c0 c1 c2  hC0 hC1 hC2 h0 A ch hb hB UA UH UL) (hw _ (List.mem_of_getElem? (i := 129) rfl)) (hw _ (List.mem_of_getElem? (i := 130) rfl)) (hw _ (List.mem_of_getElem? (i := 73) rfl)) (hw _ (List.mem_of_getElem? (i := 131) rfl)) (by decide) rfl rfl (lenOf pd_13 rfl) rfl d25_10 rfl (Nat.le_of_ble_eq_true rfl) (Nat.le_of_ble_eq_true rfl) (Nat.le_of_ble_eq_true rfl) (Nat.le_of_ble_eq_true rfl) (fun _ z => nomatch z) (fun _ z => nomatch z) (fun vq5 hq6 Kq7 qq8 => ?_)
  obtain ⟨⟨r, rfl, hr⟩, rfl⟩ := qq8
  simp only [Option.toList, List.cons_append, List.nil_append]
  refine Rn.retI rfl d25_13 (Nat.le_of_ble_eq_true rfl) (Nat.le_of_ble_eq_true rfl) ?_
  exact ⟨⟨r, rfl, hr⟩, rfl⟩
set_option maxRecDepth 65536 in
set_option maxHeartbeats 40000000 in
theorem ct_ixu3 (Z : State) (a0 : Array Value) (hw : ∀ d ∈ tables_1, d.before a0 Z = true) (t : Addr) (c0 c1 c2 : Int32) (hC0 : own_C c0) (hC1 : own_C c1) (hC2 : own_C c2) (h0 : Heap) (A : Ax Z h0 t .byte [.int (b8 c0), .int (b8 (own_hi c0)), .int (b8 c1), .int (b8 (own_hi c1)), .int (b8 c2), .int (b8 (own_hi c2))]) (ch : Int32) (hb : b8 ch = ch) (hB : own_B ch)(UA : Sta Z Z.heap "java/lang/StringUTF16" "$assertionsDisabled" "Z" (.int (1 : Int32))) (UH : Sta Z Z.heap "java/lang/StringUTF16" "HI_BYTE_SHIFT" "I" (.int (0 : Int32))) (UL : Sta Z Z.heap "java/lang/StringUTF16" "LO_BYTE_SHIFT" "I" (.int (8 : Int32)))(f : Value) (hf : f.isRef = true) (SF : Sta Z Z.heap "jdk/internal/util/Preconditions" "SIOOBE_FORMATTER" "Ljava/util/function/BiFunction;" f) :
    Ct Z ⟨"java/lang/StringUTF16", "indexOf", "([BIII)I"⟩ jdk_52_method_40_code 4 (Option.some FieldType.int) ({ frames := 4, cells := 0, slots := 0, locals := 58 } : Room) #[(.ref t), (.int ch), (.int (0 : Int32)), (.int (3 : Int32))] h0 [] (fun v h => (∃ r, v = some (.int r) ∧ (r < 0 ↔ ¬ (c0 = ch ∨ c1 = ch ∨ c2 = ch))) ∧ h0 = h) := by
  refine Ct.intro (Ls := #[.val (.ref t), .val (.int ch), .val (.int (0 : Int32)), .val (.int (3 : Int32))]) (plainFor_of_name pn_3) (by intro m; first | (simp [entryFrame, mkF, argsToLocals, Value.category]; done) | rfl) ?_
  refine Rn.iloadN (pc' := 1) d24_0 rfl rfl ?_
  refine Rn.iconst (pc' := 2) (v := (0 : Int32)) d24_1 rfl rfl ?_
  refine Rn.callS (pc' := 5) (argsL := [.int (0 : Int32), .int (0 : Int32)]) (rest := []) (ct_mx00 Z a0 hw h0) (hw _ (List.mem_of_getElem? (i := 109) rfl)) (hw _ (List.mem_of_getElem? (i := 65) rfl)) (hw _ (List.mem_of_getElem? (i := 66) rfl)) (hw _ (List.mem_of_getElem? (i := 67) rfl)) (by decide) rfl rfl (lenOf pd_9 rfl) rfl d24_2 rfl (Nat.le_of_ble_eq_true rfl) (Nat.le_of_ble_eq_true rfl) (Nat.le_of_ble_eq_true rfl) (Nat.le_of_ble_eq_true rfl) (fun _ z => nomatch z) (fun _ z => nomatch z) (fun vq1 hq2 Kq3 qq4 => ?_)
  obtain ⟨rfl, rfl⟩ := qq4
  simp only [Option.toList, List.cons_append, List.nil_append]
  refine Rn.istoreN (pc' := 6) (Ls' := #[.val (.ref t), .val (.int ch), .val (.int (0 : Int32)), .val (.int (3 : Int32))]) d24_5 rfl rfl ?_
  refine Rn.iloadN (pc' := 7) d24_6 rfl rfl ?_
  refine Rn.aloadN (pc' := 8) d24_7 rfl rfl rfl ?_
  refine Rn.arraylength (pc' := 9) (n := (6 : Int32)) A rfl d24_8 rfl ?_
  refine Rn.iconst (pc' := 10) (v := (1 : Int32)) d24_9 rfl rfl ?_
  refine Rn.ishr (pc' := 11) (v := (3 : Int32)) d24_10 rfl rfl ?_
  refine Rn.callS (pc' := 14) (argsL := [.int (3 : Int32), .int (3 : Int32)]) (rest := []) (ct_mn3 Z a0 hw h0) (hw _ (List.mem_of_getElem? (i := 110) rfl)) (hw _ (List.mem_of_getElem? (i := 69) rfl)) (hw _ (List.mem_of_getElem? (i := 66) rfl)) (hw _ (List.mem_of_getElem? (i := 70) rfl)) (by decide) rfl rfl (lenOf pd_9 rfl) rfl d24_11 rfl (Nat.le_of_ble_eq_true rfl) (Nat.le_of_ble_eq_true rfl) (Nat.le_of_ble_eq_true rfl) (Nat.le_of_ble_eq_true rfl) (fun _ z => nomatch z) (fun _ z => nomatch z) (fun vq5 hq6 Kq7 qq8 => ?_)
  obtain ⟨rfl, rfl⟩ := qq8
  simp only [Option.toList, List.cons_append, List.nil_append]
  refine Rn.istoreN (pc' := 15) (Ls' := #[.val (.ref t), .val (.int ch), .val (.int (0 : Int32)), .val (.int (3 : Int32))]) d24_14 rfl rfl ?_
  refine Rn.iloadN (pc' := 16) d24_15 rfl rfl ?_
  refine Rn.iloadN (pc' := 17) d24_16 rfl rfl ?_
  refine Rn.icmp_lt (pc' := 22) (pn := 20) d24_17 (by decide) (by decide) rfl (fun cq9 => ?_) (fun cq9 => absurd cq9 (by decide))
  refine Rn.iloadN (pc' := 23) d24_22 rfl rfl ?_
  refine Rn.ldcI (pc' := 25) (hw _ (List.mem_of_getElem? (i := 111) rfl)) d24_23 rfl ?_
  refine Rn.icmp_ge (pc' := 36) (pn := 28) d24_25 (by decide) (by decide) rfl (fun cq10 => absurd (own_lt16 hB) cq10) (fun cq10 => ?_)
  refine Rn.aloadN (pc' := 29) d24_28 rfl rfl rfl ?_
  refine Rn.iloadN (pc' := 30) d24_29 rfl rfl ?_
  refine Rn.iloadN (pc' := 31) d24_30 rfl rfl ?_
  refine Rn.iloadN (pc' := 32) d24_31 rfl rfl ?_
  refine Rn.callS (pc' := 35) (argsL := [.ref t, .int ch, .int (0 : Int32), .int (3 : Int32)]) (rest := []) (ct_iocu3 Z a0 hw t c0 c1 c2  hC0 hC1 hC2 h0 A ch hb hB UA UH UL f hf SF) (hw _ (List.mem_of_getElem? (i := 112) rfl)) (hw _ (List.mem_of_getElem? (i := 113) rfl)) (hw _ (List.mem_of_getElem? (i := 73) rfl)) (hw _ (List.mem_of_getElem? (i := 114) rfl)) (by decide) rfl rfl (lenOf pd_13 rfl) rfl d24_32 rfl (Nat.le_of_ble_eq_true rfl) (Nat.le_of_ble_eq_true rfl) (Nat.le_of_ble_eq_true rfl) (Nat.le_of_ble_eq_true rfl) (fun _ z => nomatch z) (fun _ z => nomatch z) (fun vq11 hq12 Kq13 qq14 => ?_)
  obtain ⟨⟨r, rfl, hr⟩, rfl⟩ := qq14
  simp only [Option.toList, List.cons_append, List.nil_append]
  refine Rn.retI rfl d24_35 (Nat.le_of_ble_eq_true rfl) (Nat.le_of_ble_eq_true rfl) ?_
  exact ⟨⟨r, rfl, hr⟩, rfl⟩
set_option maxRecDepth 65536 in
set_option maxHeartbeats 40000000 in
theorem ct_cdu3 (Z : State) (a0 : Array Value) (hw : ∀ d ∈ tables_1, d.before a0 Z = true) (x t : Addr) (c0 c1 c2 : Int32) (hC0 : own_C c0) (hC1 : own_C c1) (hC2 : own_C c2) (h0 : Heap) (G : Su Z h0 x t [.int (b8 c0), .int (b8 (own_hi c0)), .int (b8 c1), .int (b8 (own_hi c1)), .int (b8 c2), .int (b8 (own_hi c2))]) (z : Int32) (hz : z ≠ 0) (S : Sta Z Z.heap "java/lang/String" "COMPACT_STRINGS" "Z" (.int z)) :
    Ct Z ⟨"java/lang/String", "coder", "()B"⟩ jdk_42_method_152_code 1 (Option.some FieldType.byte) ({ frames := 0, cells := 0, slots := 0, locals := 0 } : Room) #[(.ref x)] h0 [] (fun v h => v = some (.int (1 : Int32)) ∧ h0 = h) := by
  refine Ct.intro (Ls := #[.val (.ref x)]) (plainFor_of_name pn_4) (by intro m; first | (simp [entryFrame, mkF, argsToLocals, Value.category]; done) | rfl) ?_
  refine Rn.old fun Oq1 _ => ?_
  refine Rn.getS (pc' := 3) (hw _ (List.mem_of_getElem? (i := 46) rfl)) Via.refl (S.ext Oq1) d9_0 rfl ?_
  refine Rn.if_eq (pc' := 13) (pn := 6) d9_3 (by decide) (by decide) rfl (fun cq2 => absurd cq2 hz) (fun cq2 => ?_)
  refine Rn.aloadN (pc' := 7) d9_6 rfl rfl rfl ?_
  refine Rn.getF (pc' := 10) (host := "") (Or.inl (hw _ (List.mem_of_getElem? (i := 26) rfl))) Via.refl G.2.1 d9_7 rfl ?_
  refine Rn.goto (pc' := 14) d9_10 (by decide) (by decide) ?_
  refine Rn.retN (t := .byte) rfl (by simp) d9_14 (Nat.le_of_ble_eq_true rfl) (Nat.le_of_ble_eq_true rfl) ?_
  exact ⟨rfl, rfl⟩
set_option maxRecDepth 65536 in
set_option maxHeartbeats 40000000 in
theorem ct_ilu3 (Z : State) (a0 : Array Value) (hw : ∀ d ∈ tables_1, d.before a0 Z = true) (x t : Addr) (c0 c1 c2 : Int32) (hC0 : own_C c0) (hC1 : own_C c1) (hC2 : own_C c2) (h0 : Heap) (G : Su Z h0 x t [.int (b8 c0), .int (b8 (own_hi c0)), .int (b8 c1), .int (b8 (own_hi c1)), .int (b8 c2), .int (b8 (own_hi c2))]) (z : Int32) (hz : z ≠ 0) (S : Sta Z Z.heap "java/lang/String" "COMPACT_STRINGS" "Z" (.int z)) :
    Ct Z ⟨"java/lang/String", "isLatin1", "()Z"⟩ jdk_42_method_154_code 1 (Option.some FieldType.boolean) ({ frames := 0, cells := 0, slots := 0, locals := 0 } : Room) #[(.ref x)] h0 [] (fun v h => v = some (.int (0 : Int32)) ∧ h0 = h) := by
  refine Ct.intro (Ls := #[.val (.ref x)]) (plainFor_of_name pn_4) (by intro m; first | (simp [entryFrame, mkF, argsToLocals, Value.category]; done) | rfl) ?_
  refine Rn.old fun Oq1 _ => ?_
  refine Rn.getS (pc' := 3) (hw _ (List.mem_of_getElem? (i := 46) rfl)) Via.refl (S.ext Oq1) d7_0 rfl ?_
  refine Rn.if_eq (pc' := 17) (pn := 6) d7_3 (by decide) (by decide) rfl (fun cq2 => absurd cq2 hz) (fun cq2 => ?_)
  refine Rn.aloadN (pc' := 7) d7_6 rfl rfl rfl ?_
  refine Rn.getF (pc' := 10) (host := "") (Or.inl (hw _ (List.mem_of_getElem? (i := 26) rfl))) Via.refl G.2.1 d7_7 rfl ?_
  refine Rn.if_ne (pc' := 17) (pn := 13) d7_10 (by decide) (by decide) rfl (fun cq3 => ?_) (fun cq3 => absurd cq3 (by decide))
  refine Rn.iconst (pc' := 18) (v := (0 : Int32)) d7_17 rfl rfl ?_
  refine Rn.retN (t := .boolean) rfl (by simp) d7_18 (Nat.le_of_ble_eq_true rfl) (Nat.le_of_ble_eq_true rfl) ?_
  exact ⟨rfl, rfl⟩
set_option maxRecDepth 65536 in
set_option maxHeartbeats 40000000 in
theorem ct_lnu3 (Z : State) (a0 : Array Value) (hw : ∀ d ∈ tables_1, d.before a0 Z = true) (x t : Addr) (c0 c1 c2 : Int32) (hC0 : own_C c0) (hC1 : own_C c1) (hC2 : own_C c2) (h0 : Heap) (G : Su Z h0 x t [.int (b8 c0), .int (b8 (own_hi c0)), .int (b8 c1), .int (b8 (own_hi c1)), .int (b8 c2), .int (b8 (own_hi c2))]) (z : Int32) (hz : z ≠ 0) (S : Sta Z Z.heap "java/lang/String" "COMPACT_STRINGS" "Z" (.int z)) :
    Ct Z ⟨"java/lang/String", "length", "()I"⟩ jdk_42_method_54_code 1 (Option.some FieldType.int) ({ frames := 1, cells := 0, slots := 0, locals := 13 } : Room) #[(.ref x)] h0 [] (fun v h => v = some (.int (3 : Int32)) ∧ h0 = h) := by
  refine Ct.intro (Ls := #[.val (.ref x)]) (plainFor_of_name pn_4) (by intro m; first | (simp [entryFrame, mkF, argsToLocals, Value.category]; done) | rfl) ?_
  refine Rn.aloadN (pc' := 1) d8_0 rfl rfl rfl ?_
  refine Rn.getF (pc' := 4) (host := "") (Or.inl (hw _ (List.mem_of_getElem? (i := 25) rfl))) Via.refl G.2.2.1 d8_1 rfl ?_
  refine Rn.arraylength (pc' := 5) (n := (6 : Int32)) G.2.2.2 rfl d8_4 rfl ?_
  refine Rn.aloadN (pc' := 6) d8_5 rfl rfl rfl ?_
  refine Rn.callV (pc' := 9) (argsL := []) (a := x) (rest := [.int (6 : Int32)]) (ct_cdu3 Z a0 hw x t c0 c1 c2  hC0 hC1 hC2 h0 G z hz S) G.1 (hw _ (List.mem_of_getElem? (i := 52) rfl)) (hw _ (List.mem_of_getElem? (i := 53) rfl)) (fun _ hZ => notFace_of_selects (args := #[]) (mvT hZ (hw _ (List.mem_of_getElem? (i := 55) rfl)))) (hw _ (List.mem_of_getElem? (i := 55) rfl)) (hw _ (List.mem_of_getElem? (i := 54) rfl)) (hw _ (List.mem_of_getElem? (i := 7) rfl)) (hw _ (List.mem_of_getElem? (i := 56) rfl)) (by decide) rfl rfl (lenOf pd_10 rfl) rfl d8_6 rfl (Nat.le_of_ble_eq_true rfl) (Nat.le_of_ble_eq_true rfl) (Nat.le_of_ble_eq_true rfl) (Nat.le_of_ble_eq_true rfl) (fun _ z => nomatch z) (fun _ z => nomatch z) (fun vq1 hq2 Kq3 qq4 => ?_)
  obtain ⟨rfl, rfl⟩ := qq4
  simp only [Option.toList, List.cons_append, List.nil_append]
  refine Rn.ishr (pc' := 10) (v := (3 : Int32)) d8_9 rfl rfl ?_
  refine Rn.retI rfl d8_10 (Nat.le_of_ble_eq_true rfl) (Nat.le_of_ble_eq_true rfl) ?_
  exact ⟨rfl, rfl⟩
set_option maxRecDepth 65536 in
set_option maxHeartbeats 40000000 in
theorem ct_i2u3 (Z : State) (a0 : Array Value) (hw : ∀ d ∈ tables_1, d.before a0 Z = true) (x t : Addr) (c0 c1 c2 : Int32) (hC0 : own_C c0) (hC1 : own_C c1) (hC2 : own_C c2) (h0 : Heap) (G : Su Z h0 x t [.int (b8 c0), .int (b8 (own_hi c0)), .int (b8 c1), .int (b8 (own_hi c1)), .int (b8 c2), .int (b8 (own_hi c2))]) (z : Int32) (hz : z ≠ 0) (S : Sta Z Z.heap "java/lang/String" "COMPACT_STRINGS" "Z" (.int z))(ch : Int32) (hb : b8 ch = ch) (hB : own_B ch)(UA : Sta Z Z.heap "java/lang/StringUTF16" "$assertionsDisabled" "Z" (.int (1 : Int32))) (UH : Sta Z Z.heap "java/lang/StringUTF16" "HI_BYTE_SHIFT" "I" (.int (0 : Int32))) (UL : Sta Z Z.heap "java/lang/StringUTF16" "LO_BYTE_SHIFT" "I" (.int (8 : Int32)))(f : Value) (hf : f.isRef = true) (SF : Sta Z Z.heap "jdk/internal/util/Preconditions" "SIOOBE_FORMATTER" "Ljava/util/function/BiFunction;" f) :
    Ct Z ⟨"java/lang/String", "indexOf", "(II)I"⟩ jdk_42_method_80_code 3 (Option.some FieldType.int) ({ frames := 5, cells := 0, slots := 0, locals := 73 } : Room) #[(.ref x), (.int ch), (.int (0 : Int32))] h0 [] (fun v h => (∃ r, v = some (.int r) ∧ (r < 0 ↔ ¬ (c0 = ch ∨ c1 = ch ∨ c2 = ch))) ∧ h0 = h) := by
  refine Ct.intro (Ls := #[.val (.ref x), .val (.int ch), .val (.int (0 : Int32))]) (plainFor_of_name pn_4) (by intro m; first | (simp [entryFrame, mkF, argsToLocals, Value.category]; done) | rfl) ?_
  refine Rn.aloadN (pc' := 1) d6_0 rfl rfl rfl ?_
  refine Rn.callV (pc' := 4) (argsL := []) (a := x) (rest := []) (ct_ilu3 Z a0 hw x t c0 c1 c2  hC0 hC1 hC2 h0 G z hz S) G.1 (hw _ (List.mem_of_getElem? (i := 41) rfl)) (hw _ (List.mem_of_getElem? (i := 42) rfl)) (fun _ hZ => notFace_of_selects (args := #[]) (mvT hZ (hw _ (List.mem_of_getElem? (i := 44) rfl)))) (hw _ (List.mem_of_getElem? (i := 44) rfl)) (hw _ (List.mem_of_getElem? (i := 43) rfl)) (hw _ (List.mem_of_getElem? (i := 7) rfl)) (hw _ (List.mem_of_getElem? (i := 45) rfl)) (by decide) rfl rfl (lenOf pd_11 rfl) rfl d6_1 rfl (Nat.le_of_ble_eq_true rfl) (Nat.le_of_ble_eq_true rfl) (Nat.le_of_ble_eq_true rfl) (Nat.le_of_ble_eq_true rfl) (fun _ z => nomatch z) (fun _ z => nomatch z) (fun vq1 hq2 Kq3 qq4 => ?_)
  obtain ⟨rfl, rfl⟩ := qq4
  simp only [Option.toList, List.cons_append, List.nil_append]
  refine Rn.if_eq (pc' := 23) (pn := 7) d6_4 (by decide) (by decide) rfl (fun cq5 => ?_) (fun cq5 => absurd cq5 (by decide))
  refine Rn.aloadN (pc' := 24) d6_23 rfl rfl rfl ?_
  refine Rn.getF (pc' := 27) (host := "") (Or.inl (hw _ (List.mem_of_getElem? (i := 25) rfl))) Via.refl G.2.2.1 d6_24 rfl ?_
  refine Rn.iloadN (pc' := 28) d6_27 rfl rfl ?_
  refine Rn.iloadN (pc' := 29) d6_28 rfl rfl ?_
  refine Rn.aloadN (pc' := 30) d6_29 rfl rfl rfl ?_
  refine Rn.callV (pc' := 33) (argsL := []) (a := x) (rest := [.int (0 : Int32), .int ch, .ref t]) (ct_lnu3 Z a0 hw x t c0 c1 c2  hC0 hC1 hC2 h0 G z hz S) G.1 (hw _ (List.mem_of_getElem? (i := 47) rfl)) (hw _ (List.mem_of_getElem? (i := 48) rfl)) (fun _ hZ => notFace_of_selects (args := #[]) (mvT hZ (hw _ (List.mem_of_getElem? (i := 50) rfl)))) (hw _ (List.mem_of_getElem? (i := 50) rfl)) (hw _ (List.mem_of_getElem? (i := 49) rfl)) (hw _ (List.mem_of_getElem? (i := 7) rfl)) (hw _ (List.mem_of_getElem? (i := 51) rfl)) (by decide) rfl rfl (lenOf pd_12 rfl) rfl d6_30 rfl (Nat.le_of_ble_eq_true rfl) (Nat.le_of_ble_eq_true rfl) (Nat.le_of_ble_eq_true rfl) (Nat.le_of_ble_eq_true rfl) (fun _ z => nomatch z) (fun _ z => nomatch z) (fun vq6 hq7 Kq8 qq9 => ?_)
  obtain ⟨rfl, rfl⟩ := qq9
  simp only [Option.toList, List.cons_append, List.nil_append]
  refine Rn.callS (pc' := 36) (argsL := [.ref t, .int ch, .int (0 : Int32), .int (3 : Int32)]) (rest := []) (ct_ixu3 Z a0 hw t c0 c1 c2  hC0 hC1 hC2 h0 G.2.2.2 ch hb hB UA UH UL f hf SF) (hw _ (List.mem_of_getElem? (i := 106) rfl)) (hw _ (List.mem_of_getElem? (i := 107) rfl)) (hw _ (List.mem_of_getElem? (i := 73) rfl)) (hw _ (List.mem_of_getElem? (i := 108) rfl)) (by decide) rfl rfl (lenOf pd_13 rfl) rfl d6_33 rfl (Nat.le_of_ble_eq_true rfl) (Nat.le_of_ble_eq_true rfl) (Nat.le_of_ble_eq_true rfl) (Nat.le_of_ble_eq_true rfl) (fun _ z => nomatch z) (fun _ z => nomatch z) (fun vq10 hq11 Kq12 qq13 => ?_)
  obtain ⟨⟨r, rfl, hr⟩, rfl⟩ := qq13
  simp only [Option.toList, List.cons_append, List.nil_append]
  refine Rn.retI rfl d6_36 (Nat.le_of_ble_eq_true rfl) (Nat.le_of_ble_eq_true rfl) ?_
  exact ⟨⟨r, rfl, hr⟩, rfl⟩
set_option maxRecDepth 65536 in
set_option maxHeartbeats 40000000 in
theorem ct_i1u3 (Z : State) (a0 : Array Value) (hw : ∀ d ∈ tables_1, d.before a0 Z = true) (x t : Addr) (c0 c1 c2 : Int32) (hC0 : own_C c0) (hC1 : own_C c1) (hC2 : own_C c2) (h0 : Heap) (G : Su Z h0 x t [.int (b8 c0), .int (b8 (own_hi c0)), .int (b8 c1), .int (b8 (own_hi c1)), .int (b8 c2), .int (b8 (own_hi c2))]) (z : Int32) (hz : z ≠ 0) (S : Sta Z Z.heap "java/lang/String" "COMPACT_STRINGS" "Z" (.int z))(ch : Int32) (hb : b8 ch = ch) (hB : own_B ch)(UA : Sta Z Z.heap "java/lang/StringUTF16" "$assertionsDisabled" "Z" (.int (1 : Int32))) (UH : Sta Z Z.heap "java/lang/StringUTF16" "HI_BYTE_SHIFT" "I" (.int (0 : Int32))) (UL : Sta Z Z.heap "java/lang/StringUTF16" "LO_BYTE_SHIFT" "I" (.int (8 : Int32)))(f : Value) (hf : f.isRef = true) (SF : Sta Z Z.heap "jdk/internal/util/Preconditions" "SIOOBE_FORMATTER" "Ljava/util/function/BiFunction;" f) :
    Ct Z ⟨"java/lang/String", "indexOf", "(I)I"⟩ jdk_42_method_79_code 2 (Option.some FieldType.int) ({ frames := 6, cells := 0, slots := 0, locals := 87 } : Room) #[(.ref x), (.int ch)] h0 [] (fun v h => (∃ r, v = some (.int r) ∧ (r < 0 ↔ ¬ (c0 = ch ∨ c1 = ch ∨ c2 = ch))) ∧ h0 = h) := by
  refine Ct.intro (Ls := #[.val (.ref x), .val (.int ch)]) (plainFor_of_name pn_4) (by intro m; first | (simp [entryFrame, mkF, argsToLocals, Value.category]; done) | rfl) ?_
  refine Rn.aloadN (pc' := 1) d5_0 rfl rfl rfl ?_
  refine Rn.iloadN (pc' := 2) d5_1 rfl rfl ?_
  refine Rn.iconst (pc' := 3) (v := (0 : Int32)) d5_2 rfl rfl ?_
  refine Rn.callV (pc' := 6) (argsL := [.int ch, .int (0 : Int32)]) (a := x) (rest := []) (ct_i2u3 Z a0 hw x t c0 c1 c2  hC0 hC1 hC2 h0 G z hz S ch hb hB UA UH UL f hf SF) G.1 (hw _ (List.mem_of_getElem? (i := 36) rfl)) (hw _ (List.mem_of_getElem? (i := 37) rfl)) (fun _ hZ => notFace_of_selects (args := #[]) (mvT hZ (hw _ (List.mem_of_getElem? (i := 39) rfl)))) (hw _ (List.mem_of_getElem? (i := 39) rfl)) (hw _ (List.mem_of_getElem? (i := 38) rfl)) (hw _ (List.mem_of_getElem? (i := 7) rfl)) (hw _ (List.mem_of_getElem? (i := 40) rfl)) (by decide) rfl rfl (lenOf pd_9 rfl) rfl d5_3 rfl (Nat.le_of_ble_eq_true rfl) (Nat.le_of_ble_eq_true rfl) (Nat.le_of_ble_eq_true rfl) (Nat.le_of_ble_eq_true rfl) (fun _ z => nomatch z) (fun _ z => nomatch z) (fun vq1 hq2 Kq3 qq4 => ?_)
  obtain ⟨⟨r, rfl, hr⟩, rfl⟩ := qq4
  simp only [Option.toList, List.cons_append, List.nil_append]
  refine Rn.retI rfl d5_6 (Nat.le_of_ble_eq_true rfl) (Nat.le_of_ble_eq_true rfl) ?_
  exact ⟨⟨r, rfl, hr⟩, rfl⟩
set_option maxRecDepth 65536 in
set_option maxHeartbeats 40000000 in
theorem ct_chhu3 (Z : State) (a0 : Array Value) (hw : ∀ d ∈ tables_1, d.before a0 Z = true) (x t : Addr) (c0 c1 c2 : Int32) (hC0 : own_C c0) (hC1 : own_C c1) (hC2 : own_C c2) (h0 : Heap) (G : Su Z h0 x t [.int (b8 c0), .int (b8 (own_hi c0)), .int (b8 c1), .int (b8 (own_hi c1)), .int (b8 c2), .int (b8 (own_hi c2))]) (z : Int32) (hz : z ≠ 0) (S : Sta Z Z.heap "java/lang/String" "COMPACT_STRINGS" "Z" (.int z))(UA : Sta Z Z.heap "java/lang/StringUTF16" "$assertionsDisabled" "Z" (.int (1 : Int32))) (UH : Sta Z Z.heap "java/lang/StringUTF16" "HI_BYTE_SHIFT" "I" (.int (0 : Int32))) (UL : Sta Z Z.heap "java/lang/StringUTF16" "LO_BYTE_SHIFT" "I" (.int (8 : Int32)))(f : Value) (hf : f.isRef = true) (SF : Sta Z Z.heap "jdk/internal/util/Preconditions" "SIOOBE_FORMATTER" "Ljava/util/function/BiFunction;" f) :
    Ct Z ⟨"com/example/fleet_quant/fleetquant/io/TableCells", "canHold", "(Ljava/lang/String;)Z"⟩ prog_28_method_2_code 1 (Option.some FieldType.boolean) ({ frames := 9, cells := 0, slots := 0, locals := 140 } : Room) #[(.ref x)] h0 [] (fun v h => v = some (.int (if own_ok c0 ∧ own_ok c1 ∧ own_ok c2 then 1 else 0)) ∧ h0 = h) := by
  refine Ct.intro (Ls := #[.val (.ref x)]) (plainFor_of_name pn_6) (by intro m; first | (simp [entryFrame, mkF, argsToLocals, Value.category]; done) | rfl) ?_
  refine Rn.aloadN (pc' := 1) d4_0 rfl rfl rfl ?_
  refine Rn.bipush (pc' := 3) (v := (9 : Int32)) d4_1 rfl rfl ?_
  refine Rn.callV (pc' := 6) (argsL := [.int (9 : Int32)]) (a := x) (rest := []) (ct_i1u3 Z a0 hw x t c0 c1 c2  hC0 hC1 hC2 h0 G z hz S 9 rfl own_k9 UA UH UL f hf SF) G.1 (hw _ (List.mem_of_getElem? (i := 31) rfl)) (hw _ (List.mem_of_getElem? (i := 32) rfl)) (fun _ hZ => notFace_of_selects (args := #[]) (mvT hZ (hw _ (List.mem_of_getElem? (i := 34) rfl)))) (hw _ (List.mem_of_getElem? (i := 34) rfl)) (hw _ (List.mem_of_getElem? (i := 33) rfl)) (hw _ (List.mem_of_getElem? (i := 7) rfl)) (hw _ (List.mem_of_getElem? (i := 35) rfl)) (by decide) rfl rfl (lenOf pd_0 rfl) rfl d4_3 rfl (Nat.le_of_ble_eq_true rfl) (Nat.le_of_ble_eq_true rfl) (Nat.le_of_ble_eq_true rfl) (Nat.le_of_ble_eq_true rfl) (fun _ z => nomatch z) (fun _ z => nomatch z) (fun vq1 hq2 Kq3 qq4 => ?_)
  obtain ⟨⟨r9, rfl, hr9⟩, rfl⟩ := qq4
  simp only [Option.toList, List.cons_append, List.nil_append]
  refine Rn.if_ge (pc' := 31) (pn := 9) d4_6 (by decide) (by decide) rfl (fun cq5 => ?_) (fun cq5 => ?_)
  ·
    refine Rn.iconst (pc' := 32) (v := (0 : Int32)) d4_31 rfl rfl ?_
    refine Rn.retN (t := .boolean) rfl (by simp) d4_32 (Nat.le_of_ble_eq_true rfl) (Nat.le_of_ble_eq_true rfl) ?_
    refine ⟨?_, rfl⟩
    exact own_if_f (fun q => own_ngt cq5 (hr9.mpr (fun q' => by rcases q' with q' | q' | q' <;> first | exact absurd q' q.1 | exact absurd q' q.1.1 | exact absurd q' q.2.1 | exact absurd q' q.2.1.1 | exact absurd q' q.2.2.1)))
  ·
    refine Rn.aloadN (pc' := 10) d4_9 rfl rfl rfl ?_
    refine Rn.bipush (pc' := 12) (v := (10 : Int32)) d4_10 rfl rfl ?_
    refine Rn.callV (pc' := 15) (argsL := [.int (10 : Int32)]) (a := x) (rest := []) (ct_i1u3 Z a0 hw x t c0 c1 c2  hC0 hC1 hC2 h0 G z hz S 10 rfl own_k10 UA UH UL f hf SF) G.1 (hw _ (List.mem_of_getElem? (i := 31) rfl)) (hw _ (List.mem_of_getElem? (i := 32) rfl)) (fun _ hZ => notFace_of_selects (args := #[]) (mvT hZ (hw _ (List.mem_of_getElem? (i := 34) rfl)))) (hw _ (List.mem_of_getElem? (i := 34) rfl)) (hw _ (List.mem_of_getElem? (i := 33) rfl)) (hw _ (List.mem_of_getElem? (i := 7) rfl)) (hw _ (List.mem_of_getElem? (i := 35) rfl)) (by decide) rfl rfl (lenOf pd_0 rfl) rfl d4_12 rfl (Nat.le_of_ble_eq_true rfl) (Nat.le_of_ble_eq_true rfl) (Nat.le_of_ble_eq_true rfl) (Nat.le_of_ble_eq_true rfl) (fun _ z => nomatch z) (fun _ z => nomatch z) (fun vq6 hq7 Kq8 qq9 => ?_)
    obtain ⟨⟨r10, rfl, hr10⟩, rfl⟩ := qq9
    simp only [Option.toList, List.cons_append, List.nil_append]
    refine Rn.if_ge (pc' := 31) (pn := 18) d4_15 (by decide) (by decide) rfl (fun cq10 => ?_) (fun cq10 => ?_)
    ·
      refine Rn.iconst (pc' := 32) (v := (0 : Int32)) d4_31 rfl rfl ?_
      refine Rn.retN (t := .boolean) rfl (by simp) d4_32 (Nat.le_of_ble_eq_true rfl) (Nat.le_of_ble_eq_true rfl) ?_
      refine ⟨?_, rfl⟩
      exact own_if_f (fun q => own_ngt cq10 (hr10.mpr (fun q' => by rcases q' with q' | q' | q' <;> first | exact absurd q' q.2.1 | exact absurd q' q.1.2.1 | exact absurd q' q.2.2.1 | exact absurd q' q.2.1.2.1 | exact absurd q' q.2.2.2.1)))
    ·
      refine Rn.aloadN (pc' := 19) d4_18 rfl rfl rfl ?_
      refine Rn.bipush (pc' := 21) (v := (13 : Int32)) d4_19 rfl rfl ?_
      refine Rn.callV (pc' := 24) (argsL := [.int (13 : Int32)]) (a := x) (rest := []) (ct_i1u3 Z a0 hw x t c0 c1 c2  hC0 hC1 hC2 h0 G z hz S 13 rfl own_k13 UA UH UL f hf SF) G.1 (hw _ (List.mem_of_getElem? (i := 31) rfl)) (hw _ (List.mem_of_getElem? (i := 32) rfl)) (fun _ hZ => notFace_of_selects (args := #[]) (mvT hZ (hw _ (List.mem_of_getElem? (i := 34) rfl)))) (hw _ (List.mem_of_getElem? (i := 34) rfl)) (hw _ (List.mem_of_getElem? (i := 33) rfl)) (hw _ (List.mem_of_getElem? (i := 7) rfl)) (hw _ (List.mem_of_getElem? (i := 35) rfl)) (by decide) rfl rfl (lenOf pd_0 rfl) rfl d4_21 rfl (Nat.le_of_ble_eq_true rfl) (Nat.le_of_ble_eq_true rfl) (Nat.le_of_ble_eq_true rfl) (Nat.le_of_ble_eq_true rfl) (fun _ z => nomatch z) (fun _ z => nomatch z) (fun vq11 hq12 Kq13 qq14 => ?_)
      obtain ⟨⟨r13, rfl, hr13⟩, rfl⟩ := qq14
      simp only [Option.toList, List.cons_append, List.nil_append]
      refine Rn.if_ge (pc' := 31) (pn := 27) d4_24 (by decide) (by decide) rfl (fun cq15 => ?_) (fun cq15 => ?_)
      ·
        refine Rn.iconst (pc' := 32) (v := (0 : Int32)) d4_31 rfl rfl ?_
        refine Rn.retN (t := .boolean) rfl (by simp) d4_32 (Nat.le_of_ble_eq_true rfl) (Nat.le_of_ble_eq_true rfl) ?_
        refine ⟨?_, rfl⟩
        exact own_if_f (fun q => own_ngt cq15 (hr13.mpr (fun q' => by rcases q' with q' | q' | q' <;> first | exact absurd q' q.2.2 | exact absurd q' q.1.2.2 | exact absurd q' q.2.2.2 | exact absurd q' q.2.1.2.2 | exact absurd q' q.2.2.2.2)))
      ·
        refine Rn.iconst (pc' := 28) (v := (1 : Int32)) d4_27 rfl rfl ?_
        refine Rn.goto (pc' := 32) d4_28 (by decide) (by decide) ?_
        refine Rn.retN (t := .boolean) rfl (by simp) d4_32 (Nat.le_of_ble_eq_true rfl) (Nat.le_of_ble_eq_true rfl) ?_
        refine ⟨?_, rfl⟩
        exact own_if_t ⟨⟨fun q => (hr9.mp (own_nge cq5)) (Or.inl q), fun q => (hr10.mp (own_nge cq10)) (Or.inl q), fun q => (hr13.mp (own_nge cq15)) (Or.inl q)⟩, ⟨fun q => (hr9.mp (own_nge cq5)) (Or.inr (Or.inl q)), fun q => (hr10.mp (own_nge cq10)) (Or.inr (Or.inl q)), fun q => (hr13.mp (own_nge cq15)) (Or.inr (Or.inl q))⟩, ⟨fun q => (hr9.mp (own_nge cq5)) (Or.inr (Or.inr (q))), fun q => (hr10.mp (own_nge cq10)) (Or.inr (Or.inr (q))), fun q => (hr13.mp (own_nge cq15)) (Or.inr (Or.inr (q)))⟩⟩
theorem ct_chx3 (Z : State) (a0 : Array Value) (hw : ∀ d ∈ tables_1, d.before a0 Z = true) (x : Addr) (c0 c1 c2 : Int32) (hC0 : own_C c0) (hC1 : own_C c1) (hC2 : own_C c2) (h0 : Heap) (G : own_S3 Z h0 x c0 c1 c2) (z : Int32) (hz : z ≠ 0) (S : Sta Z Z.heap "java/lang/String" "COMPACT_STRINGS" "Z" (.int z)) (UA : Sta Z Z.heap "java/lang/StringUTF16" "$assertionsDisabled" "Z" (.int (1 : Int32))) (UH : Sta Z Z.heap "java/lang/StringUTF16" "HI_BYTE_SHIFT" "I" (.int (0 : Int32))) (UL : Sta Z Z.heap "java/lang/StringUTF16" "LO_BYTE_SHIFT" "I" (.int (8 : Int32))) (f : Value) (hf : f.isRef = true) (SF : Sta Z Z.heap "jdk/internal/util/Preconditions" "SIOOBE_FORMATTER" "Ljava/util/function/BiFunction;" f) :
    Ct Z ⟨"com/example/fleet_quant/fleetquant/io/TableCells", "canHold", "(Ljava/lang/String;)Z"⟩ prog_28_method_2_code 1 (Option.some FieldType.boolean) ({ frames := 9, cells := 0, slots := 0, locals := 140 } : Room) #[(.ref x)] h0 [] (fun v h => v = some (.int (if own_ok c0 ∧ own_ok c1 ∧ own_ok c2 then 1 else 0)) ∧ h0 = h) := by
  obtain ⟨t, ⟨g, G⟩ | G⟩ := G
  · obtain ⟨hp0, hp1, hp2⟩ := g
    exact ct_chhl3 Z a0 hw x t c0 c1 c2 hp0 hp1 hp2 hC0 hC1 hC2 h0 G z hz S UA UH UL f hf SF
  · exact ct_chhu3 Z a0 hw x t c0 c1 c2 hC0 hC1 hC2 h0 G z hz S UA UH UL f hf SF
set_option maxRecDepth 65536 in
set_option maxHeartbeats 40000000 in
theorem ct_siv0 (Z : State) (a0 : Array Value) (hw : ∀ d ∈ tables_1, d.before a0 Z = true) (hE : EW Z a0 [("java/lang/String", 7)]) (x src : Addr) (h0 : Heap) (E : Exa Z h0 x "java/lang/String") (V : Fld Z h0 x "java/lang/String" "value" "[B" .null) (Co : Fld Z h0 x "java/lang/String" "coder" "B" (.int (0 : Int32))) :
    CtW Z [("java/lang/String", 7)] ⟨"java/lang/String", "<init>", "([CIILjava/lang/Void;)V"⟩ jdk_42_method_149_code 6 (Option.none : Option FieldType) ({ frames := 1, cells := 4, slots := 8, locals := 12 } : Room) #[(.ref x), (.ref src), (.int (0 : Int32)), (.int (0 : Int32)), (.null)] h0 [x] [x] (fun v h => v = none ∧ ∃ t, Sg Z h x t []) := by
  refine CtW.intro (Ls := #[.val (.ref x), .val (.ref src), .val (.int (0 : Int32)), .val (.int (0 : Int32)), .val (.null), .unset]) (plainFor_of_name pn_4) (by intro m; first | (simp [entryFrame, mkF, argsToLocals, Value.category]; done) | rfl) ?_
  refine Rn.aloadN (pc' := 1) d2_0 rfl rfl rfl ?_
  refine Rn.initO (pc' := 4) (hw _ (List.mem_of_getElem? (i := 16) rfl)) (hw _ (List.mem_of_getElem? (i := 17) rfl)) (hw _ (List.mem_of_getElem? (i := 18) rfl)) rfl d2_1 (Nat.le_of_ble_eq_true rfl) (Nat.le_of_ble_eq_true rfl) rfl ?_
  refine Rn.iloadN (pc' := 5) d2_4 rfl rfl ?_
  refine Rn.if_ne (pc' := 27) (pn := 8) d2_5 (by decide) (by decide) rfl (fun cq1 => absurd cq1 (by decide)) (fun cq1 => ?_)
  refine Rn.aloadN (pc' := 9) d2_8 rfl rfl rfl ?_
  refine Rn.ldcR (pc' := 11) (n := 0) (vs := []) (z := (0 : Int32)) hE (own_wS hw) (hw _ (List.mem_of_getElem? (i := 19) rfl)) (List.mem_of_getElem? (i := 0) rfl) ⟨by decide, by decide⟩ (by decide) (by decide) d2_9 (Nat.le_of_ble_eq_true rfl) (Nat.le_of_ble_eq_true rfl) (Nat.le_of_ble_eq_true rfl) (Nat.le_of_ble_eq_true rfl) rfl (fun hq2 aq3 tq5 Eq4 Aq6 Aq7 Aq8 Aq9 nq10 => ?_)
  have nq11 : x ≠ aq3 := (nq10 x (List.mem_of_getElem? (i := 0) rfl)).1
  have nq12 : x ≠ tq5 := (nq10 x (List.mem_of_getElem? (i := 0) rfl)).2
  have Aq13 : Ax Z hq2 tq5 .byte ([]) := Aq9
  refine Rn.getF (pc' := 14) (host := "") (Or.inl (hw _ (List.mem_of_getElem? (i := 25) rfl))) Via.refl Aq8 d2_11 rfl ?_
  have Fq14 := V.ext Eq4
  have Fq15 := E.ext Eq4
  refine Rn.putF (pc' := 17) (hw _ (List.mem_of_getElem? (i := 25) rfl)) Via.refl Fq14 Fq15 (Or.inr ⟨(hw _ (List.mem_of_getElem? (i := 21) rfl)), rfl, rfl⟩) (hw _ (List.mem_of_getElem? (i := 6) rfl)) (ty := (.array .byte)) (by decide) rfl rfl (Or.inl (List.mem_of_getElem? (i := 0) rfl)) (Sf.mem (List.mem_of_getElem? (i := 0) rfl)) d2_14 rfl (fun hq17 Wq16 => ?_)
  have Fq18 := Fq14.same Wq16
  refine Rn.aloadN (pc' := 18) d2_17 rfl rfl rfl ?_
  refine Rn.ldcR (pc' := 20) (n := 0) (vs := []) (z := (0 : Int32)) hE (own_wS hw) (hw _ (List.mem_of_getElem? (i := 19) rfl)) (List.mem_of_getElem? (i := 0) rfl) ⟨by decide, by decide⟩ (by decide) (by decide) d2_18 (Nat.le_of_ble_eq_true rfl) (Nat.le_of_ble_eq_true rfl) (Nat.le_of_ble_eq_true rfl) (Nat.le_of_ble_eq_true rfl) rfl (fun hq19 aq20 tq22 Eq21 Aq23 Aq24 Aq25 Aq26 nq27 => ?_)
  have nq28 : x ≠ aq20 := (nq27 x (List.mem_of_getElem? (i := 0) rfl)).1
  have nq29 : x ≠ tq22 := (nq27 x (List.mem_of_getElem? (i := 0) rfl)).2
  have Aq30 : Ax Z hq19 tq22 .byte ([]) := Aq26
  refine Rn.getF (pc' := 23) (host := "") (Or.inl (hw _ (List.mem_of_getElem? (i := 26) rfl))) Via.refl Aq24 d2_20 rfl ?_
  have Fq31 := Co.ext Eq4
  have Fq32 := Fq31.other Wq16 (Or.inr (slot_ne (t := .byte) (t' := (.array .byte)) (Or.inr (hw _ (List.mem_of_getElem? (i := 22) rfl))) (Or.inr (hw _ (List.mem_of_getElem? (i := 21) rfl))) (by decide) (by decide) (by decide)))
  have Fq33 := Fq32.ext Eq21
  have Fq34 := Fq15.wr Wq16
  have Fq35 := Fq34.ext Eq21
  refine Rn.putF (pc' := 26) (hw _ (List.mem_of_getElem? (i := 26) rfl)) Via.refl Fq33 Fq35 (Or.inr ⟨(hw _ (List.mem_of_getElem? (i := 22) rfl)), rfl, rfl⟩) (hw _ (List.mem_of_getElem? (i := 6) rfl)) (ty := .byte) (by decide) rfl rfl (Or.inl (List.mem_of_getElem? (i := 0) rfl)) (Sf.mem (List.mem_of_getElem? (i := 0) rfl)) d2_23 rfl (fun hq37 Wq36 => ?_)
  have Fq38 := Fq33.same Wq36
  refine Rn.retV rfl d2_26 (Nat.le_of_ble_eq_true rfl) (Nat.le_of_ble_eq_true rfl) ?_
  have Fq39 := Fq35.wr Wq36
  have Fq40 := Fq18.ext Eq21
  have Fq41 := Fq40.other Wq36 (Or.inr (slot_ne (t := (.array .byte)) (t' := .byte) (Or.inr (hw _ (List.mem_of_getElem? (i := 21) rfl))) (Or.inr (hw _ (List.mem_of_getElem? (i := 22) rfl))) (by decide) (by decide) (by decide)))
  have Fq42 := Aq13.other Wq16 (Ne.symm nq12)
  have Fq43 := Fq42.ext Eq21
  have Fq44 := Fq43.other Wq36 (Ne.symm nq12)
  exact ⟨rfl, _, ⟨Fq39, Fq38, Fq41, Fq44⟩⟩
set_option maxRecDepth 65536 in
set_option maxHeartbeats 40000000 in
theorem ct_si0 (Z : State) (a0 : Array Value) (hw : ∀ d ∈ tables_1, d.before a0 Z = true) (hE : EW Z a0 [("java/lang/String", 7)]) (x src : Addr) (h0 : Heap) (E : Exa Z h0 x "java/lang/String") (V : Fld Z h0 x "java/lang/String" "value" "[B" .null) (Co : Fld Z h0 x "java/lang/String" "coder" "B" (.int (0 : Int32))) (A : Ax Z h0 src .char []) :
    CtW Z [("java/lang/String", 7)] ⟨"java/lang/String", "<init>", "([C)V"⟩ jdk_42_method_3_code 2 (Option.none : Option FieldType) ({ frames := 2, cells := 4, slots := 8, locals := 29 } : Room) #[(.ref x), (.ref src)] h0 [x] [x] (fun v h => v = none ∧ ∃ t, Sg Z h x t []) := by
  refine CtW.intro (Ls := #[.val (.ref x), .val (.ref src)]) (plainFor_of_name pn_4) (by intro m; first | (simp [entryFrame, mkF, argsToLocals, Value.category]; done) | rfl) ?_
  refine Rn.aloadN (pc' := 1) d1_0 rfl rfl rfl ?_
  refine Rn.aloadN (pc' := 2) d1_1 rfl rfl rfl ?_
  refine Rn.iconst (pc' := 3) (v := (0 : Int32)) d1_2 rfl rfl ?_
  refine Rn.aloadN (pc' := 4) d1_3 rfl rfl rfl ?_
  refine Rn.arraylength (pc' := 5) (n := (0 : Int32)) A rfl d1_4 rfl ?_
  refine Rn.aconst_null (pc' := 6) d1_5 rfl ?_
  refine Rn.callIW (pc' := 9) (argsL := [.ref src, .int (0 : Int32), .int (0 : Int32), .null]) (a := x) (rest := []) hE (ct_siv0 Z a0 hw hE x src h0 E V Co) rfl (hw _ (List.mem_of_getElem? (i := 12) rfl)) (hw _ (List.mem_of_getElem? (i := 13) rfl)) (hw _ (List.mem_of_getElem? (i := 7) rfl)) (hw _ (List.mem_of_getElem? (i := 15) rfl)) (by decide) rfl rfl (lenOf pd_7 rfl) rfl d1_6 rfl (Nat.le_of_ble_eq_true rfl) (Nat.le_of_ble_eq_true rfl) (Nat.le_of_ble_eq_true rfl) (Nat.le_of_ble_eq_true rfl) (allS (Or.inl (List.mem_of_getElem? (i := 0) rfl)) all0) (allS (List.mem_of_getElem? (i := 0) rfl) (all0)) (fun vq1 hq2 Kq3 qq4 => ?_)
  obtain ⟨rfl, t, G⟩ := qq4
  simp only [Option.toList, List.cons_append, List.nil_append]
  refine Rn.retV rfl d1_9 (Nat.le_of_ble_eq_true rfl) (Nat.le_of_ble_eq_true rfl) ?_
  exact ⟨rfl, t, G⟩
def own_R4 (k : Int32) : Prop := k = 0 ∨ k = 1 ∨ k = 2 ∨ k = 3
theorem own_r4 (x : Int32) : own_R4 (x &&& (3 : Int32)) := by
  have h := c_and x 3 (by decide)
  have e3 : (3 : Int32).toInt = 3 := rfl
  rw [e3] at h
  obtain ⟨k, ek⟩ : ∃ k, k = x &&& (3 : Int32) := ⟨_, rfl⟩
  rw [← ek] at h ⊢
  have t : ∀ j : Int32, k.toInt = j.toInt → k = j := fun j q => Int32.toInt_inj.mp q
  unfold own_R4
  rcases (by omega : k.toInt = 0 ∨ k.toInt = 1 ∨ k.toInt = 2 ∨ k.toInt = 3) with q | q | q | q
  · exact Or.inl (t 0 q)
  · exact Or.inr (Or.inl (t 1 q))
  · exact Or.inr (Or.inr (Or.inl (t 2 q)))
  · exact Or.inr (Or.inr (Or.inr (t 3 q)))
set_option maxRecDepth 65536 in
set_option maxHeartbeats 40000000 in
theorem own_law (Z : State) (a0 : Array Value) (hw : ∀ d ∈ tables_1, d.before a0 Z = true) (hE : EW Z a0 [("java/lang/String", 7)]) (l a b d : Int32) (m : Int32) (em : l &&& (3 : Int32) = m) (hm : own_R4 m) (z : Int32) (hz : z ≠ 0) (S : Sta Z Z.heap "java/lang/String" "COMPACT_STRINGS" "Z" (.int z)) (UA : Sta Z Z.heap "java/lang/StringUTF16" "$assertionsDisabled" "Z" (.int (1 : Int32))) (UH : Sta Z Z.heap "java/lang/StringUTF16" "HI_BYTE_SHIFT" "I" (.int (0 : Int32))) (UL : Sta Z Z.heap "java/lang/StringUTF16" "LO_BYTE_SHIFT" "I" (.int (8 : Int32))) (f : Value) (hf : f.isRef = true) (SF : Sta Z Z.heap "jdk/internal/util/Preconditions" "SIOOBE_FORMATTER" "Ljava/util/function/BiFunction;" f) :
    Rn true Z [("java/lang/String", 7)] "com/example/fleet_quant/fleetquant/io/TableCellsCanHoldPinLaw" "law" code 10 ret room_1 Z.heap [] (fun v _ => v = some (.int 1)) [] 0 0 Z.heap 0 #[.val (.int l), .val (.int a), .val (.int b), .val (.int d), .unset, .unset, .unset, .unset, .unset, .unset] [] := by
  refine Rn.iloadN (pc' := 1) at_0 rfl rfl ?_
  refine Rn.iconst (pc' := 2) (v := (3 : Int32)) at_1 rfl rfl ?_
  refine Rn.iand (pc' := 3) (v := m) at_2 em rfl ?_
  refine Rn.istore (pc' := 5) (Ls' := #[.val (.int l), .val (.int a), .val (.int b), .val (.int d), .val (.int m), .unset, .unset, .unset, .unset, .unset]) at_3 rfl rfl ?_
  refine Rn.iloadN (pc' := 6) at_5 rfl rfl ?_
  refine Rn.callS (pc' := 9) (argsL := [.int a]) (rest := []) (ct_dr Z a0 hw a Z.heap) (hw _ (List.mem_of_getElem? (i := 0) rfl)) (hw _ (List.mem_of_getElem? (i := 1) rfl)) (hw _ (List.mem_of_getElem? (i := 2) rfl)) (hw _ (List.mem_of_getElem? (i := 3) rfl)) (by decide) rfl rfl (lenOf pd_18 rfl) rfl at_6 rfl (Nat.le_of_ble_eq_true rfl) (Nat.le_of_ble_eq_true rfl) (Nat.le_of_ble_eq_true rfl) (Nat.le_of_ble_eq_true rfl) (fun _ z => nomatch z) (fun _ z => nomatch z) (fun vq1 hq2 Kq3 qq4 => ?_)
  obtain ⟨c0, rfl, hC0⟩ := qq4
  simp only [Option.toList, List.cons_append, List.nil_append]
  refine Rn.istore (pc' := 11) (Ls' := #[.val (.int l), .val (.int a), .val (.int b), .val (.int d), .val (.int m), .val (.int c0), .unset, .unset, .unset, .unset]) at_9 rfl rfl ?_
  refine Rn.iloadN (pc' := 12) at_11 rfl rfl ?_
  refine Rn.callS (pc' := 15) (argsL := [.int b]) (rest := []) (ct_dr Z a0 hw b hq2) (hw _ (List.mem_of_getElem? (i := 0) rfl)) (hw _ (List.mem_of_getElem? (i := 1) rfl)) (hw _ (List.mem_of_getElem? (i := 2) rfl)) (hw _ (List.mem_of_getElem? (i := 3) rfl)) (by decide) rfl rfl (lenOf pd_18 rfl) rfl at_12 rfl (Nat.le_of_ble_eq_true rfl) (Nat.le_of_ble_eq_true rfl) (Nat.le_of_ble_eq_true rfl) (Nat.le_of_ble_eq_true rfl) (fun _ z => nomatch z) (fun _ z => nomatch z) (fun vq5 hq6 Kq7 qq8 => ?_)
  obtain ⟨c1, rfl, hC1⟩ := qq8
  simp only [Option.toList, List.cons_append, List.nil_append]
  refine Rn.istore (pc' := 17) (Ls' := #[.val (.int l), .val (.int a), .val (.int b), .val (.int d), .val (.int m), .val (.int c0), .val (.int c1), .unset, .unset, .unset]) at_15 rfl rfl ?_
  refine Rn.iloadN (pc' := 18) at_17 rfl rfl ?_
  refine Rn.callS (pc' := 21) (argsL := [.int d]) (rest := []) (ct_dr Z a0 hw d hq6) (hw _ (List.mem_of_getElem? (i := 0) rfl)) (hw _ (List.mem_of_getElem? (i := 1) rfl)) (hw _ (List.mem_of_getElem? (i := 2) rfl)) (hw _ (List.mem_of_getElem? (i := 3) rfl)) (by decide) rfl rfl (lenOf pd_18 rfl) rfl at_18 rfl (Nat.le_of_ble_eq_true rfl) (Nat.le_of_ble_eq_true rfl) (Nat.le_of_ble_eq_true rfl) (Nat.le_of_ble_eq_true rfl) (fun _ z => nomatch z) (fun _ z => nomatch z) (fun vq9 hq10 Kq11 qq12 => ?_)
  obtain ⟨c2, rfl, hC2⟩ := qq12
  simp only [Option.toList, List.cons_append, List.nil_append]
  refine Rn.istore (pc' := 23) (Ls' := #[.val (.int l), .val (.int a), .val (.int b), .val (.int d), .val (.int m), .val (.int c0), .val (.int c1), .val (.int c2), .unset, .unset]) at_21 rfl rfl ?_
  rcases hm with rfl | rfl | rfl | rfl
  ·
    refine Rn.iload (pc' := 25) at_23 rfl rfl ?_
    refine Rn.if_ne (pc' := 43) (pn := 28) at_25 (by decide) (by decide) rfl (fun cq13 => absurd cq13 (by decide)) (fun cq13 => ?_)
    refine Rn.newO (pc' := 31) (hw _ (List.mem_of_getElem? (i := 5) rfl)) (hw _ (List.mem_of_getElem? (i := 6) rfl)) (hw _ (List.mem_of_getElem? (i := 7) rfl)) at_28 (Nat.le_of_ble_eq_true rfl) (Nat.le_of_ble_eq_true rfl) rfl (fun hq15 aq14 eq16 gq17 Eq18 ⟨Aq19, Dq20, Uq21⟩ => ?_)
    have Fq22 : Fld Z hq15 aq14 "java/lang/String" "value" "[B" (.null) := Dq20 (Or.inr (hw _ (List.mem_of_getElem? (i := 21) rfl))) (ty := (.array .byte)) (by decide)
    have Fq23 : Fld Z hq15 aq14 "java/lang/String" "coder" "B" (.int (0 : Int32)) := Dq20 (Or.inr (hw _ (List.mem_of_getElem? (i := 22) rfl))) (ty := .byte) (by decide)
    refine Rn.dup (pc' := 32) at_31 rfl rfl ?_
    refine Rn.iconst (pc' := 33) (v := (0 : Int32)) at_32 rfl rfl ?_
    refine Rn.newP (pc' := 35) (cap := 0) (ty := .char) (ad := "[C") (hw _ (List.mem_of_getElem? (i := 8) rfl)) rfl rfl at_33 (by decide) (Nat.le_of_ble_eq_true rfl) (by decide) (Nat.le_of_ble_eq_true rfl) (Nat.le_of_ble_eq_true rfl) rfl (fun hq25 aq24 eq26 gq27 Eq28 ⟨Aq29, Bq30⟩ => ?_)
    have nq31 : aq14 ≠ aq24 := by rw [eq26]; exact Nat.ne_of_lt (Aq19.lt)
    have Aq32 : Ax Z hq25 aq24 .char ([]) := Aq29
    have Fq35 := Aq19.ext Eq28
    have Fq36 := Fq22.ext Eq28
    have Fq37 := Fq23.ext Eq28
    refine Rn.callIW (pc' := 38) (argsL := [.ref aq24]) (a := aq14) (rest := [.ref aq14]) hE (ct_si0 Z a0 hw hE aq14 aq24 hq25 Fq35 Fq36 Fq37 Aq32) rfl (hw _ (List.mem_of_getElem? (i := 9) rfl)) (hw _ (List.mem_of_getElem? (i := 10) rfl)) (hw _ (List.mem_of_getElem? (i := 7) rfl)) (hw _ (List.mem_of_getElem? (i := 11) rfl)) (by decide) rfl rfl (lenOf pd_19 rfl) rfl at_35 rfl (Nat.le_of_ble_eq_true rfl) (Nat.le_of_ble_eq_true rfl) (Nat.le_of_ble_eq_true rfl) (Nat.le_of_ble_eq_true rfl) (allS (Or.inr gq17) all0) (allS (List.mem_of_getElem? (i := 1) rfl) (all0)) (fun vq38 hq39 Kq40 qq41 => ?_)
    obtain ⟨rfl, tq33, Gq34⟩ := qq41
    simp only [Option.toList, List.cons_append, List.nil_append]
    refine Rn.astore (pc' := 40) (Ls' := #[.val (.int l), .val (.int a), .val (.int b), .val (.int d), .val (.int (0 : Int32)), .val (.int c0), .val (.int c1), .val (.int c2), .val (.ref aq14), .unset]) at_38 rfl rfl rfl ?_
    refine Rn.goto (pc' := 127) at_40 (by decide) (by decide) ?_
    refine Rn.iload (pc' := 129) at_127 rfl rfl ?_
    refine Rn.iconst (pc' := 130) (v := (1 : Int32)) at_129 rfl rfl ?_
    refine Rn.icmp_lt (pc' := 141) (pn := 133) at_130 (by decide) (by decide) rfl (fun cq42 => ?_) (fun cq42 => absurd cq42 (by decide))
    refine Rn.iload (pc' := 143) at_141 rfl rfl ?_
    refine Rn.iconst (pc' := 144) (v := (2 : Int32)) at_143 rfl rfl ?_
    refine Rn.icmp_lt (pc' := 155) (pn := 147) at_144 (by decide) (by decide) rfl (fun cq43 => ?_) (fun cq43 => absurd cq43 (by decide))
    refine Rn.iload (pc' := 157) at_155 rfl rfl ?_
    refine Rn.iconst (pc' := 158) (v := (3 : Int32)) at_157 rfl rfl ?_
    refine Rn.icmp_lt (pc' := 169) (pn := 161) at_158 (by decide) (by decide) rfl (fun cq44 => ?_) (fun cq44 => absurd cq44 (by decide))
    refine Rn.iconst (pc' := 170) (v := (1 : Int32)) at_169 rfl rfl ?_
    refine Rn.goto (pc' := 174) at_170 (by decide) (by decide) ?_
    refine Rn.istore (pc' := 176) (Ls' := #[.val (.int l), .val (.int a), .val (.int b), .val (.int d), .val (.int (0 : Int32)), .val (.int c0), .val (.int c1), .val (.int c2), .val (.ref aq14), .val (.int (1 : Int32))]) at_174 rfl rfl ?_
    refine Rn.aload (pc' := 178) at_176 rfl rfl rfl ?_
    refine Rn.callS (pc' := 181) (argsL := [.ref aq14]) (rest := []) (ct_chhl0 Z a0 hw aq14 tq33 hq39 ⟨Gq34.1, Gq34.2.1, Gq34.2.2.1, Gq34.2.2.2⟩ z hz S UA UH UL f hf SF) (hw _ (List.mem_of_getElem? (i := 27) rfl)) (hw _ (List.mem_of_getElem? (i := 28) rfl)) (hw _ (List.mem_of_getElem? (i := 29) rfl)) (hw _ (List.mem_of_getElem? (i := 30) rfl)) (by decide) rfl rfl (lenOf pd_20 rfl) rfl at_178 rfl (Nat.le_of_ble_eq_true rfl) (Nat.le_of_ble_eq_true rfl) (Nat.le_of_ble_eq_true rfl) (Nat.le_of_ble_eq_true rfl) (fun _ z => nomatch z) (fun _ z => nomatch z) (fun vq45 hq46 Kq47 qq48 => ?_)
    obtain ⟨rfl, rfl⟩ := qq48
    simp only [Option.toList, List.cons_append, List.nil_append]
    refine Rn.iload (pc' := 183) at_181 rfl rfl ?_
    refine Rn.icmp_ne (pc' := 190) (pn := 186) at_183 (by decide) (by decide) rfl (fun cq49 => absurd (if_pos (c := True) trivial) cq49) (fun cq49 => ?_)
    refine Rn.iconst (pc' := 187) (v := (1 : Int32)) at_186 rfl rfl ?_
    refine Rn.goto (pc' := 191) at_187 (by decide) (by decide) ?_
    refine Rn.retN (t := .boolean) rfl (by simp) at_191 (Nat.le_of_ble_eq_true rfl) (Nat.le_of_ble_eq_true rfl) ?_
    rfl
  ·
    refine Rn.iload (pc' := 25) at_23 rfl rfl ?_
    refine Rn.if_ne (pc' := 43) (pn := 28) at_25 (by decide) (by decide) rfl (fun cq50 => ?_) (fun cq50 => absurd cq50 (by decide))
    refine Rn.iload (pc' := 45) at_43 rfl rfl ?_
    refine Rn.iconst (pc' := 46) (v := (1 : Int32)) at_45 rfl rfl ?_
    refine Rn.icmp_ne (pc' := 69) (pn := 49) at_46 (by decide) (by decide) rfl (fun cq51 => absurd cq51 (by decide)) (fun cq51 => ?_)
    refine Rn.newO (pc' := 52) (hw _ (List.mem_of_getElem? (i := 5) rfl)) (hw _ (List.mem_of_getElem? (i := 6) rfl)) (hw _ (List.mem_of_getElem? (i := 7) rfl)) at_49 (Nat.le_of_ble_eq_true rfl) (Nat.le_of_ble_eq_true rfl) rfl (fun hq53 aq52 eq54 gq55 Eq56 ⟨Aq57, Dq58, Uq59⟩ => ?_)
    have Fq60 : Fld Z hq53 aq52 "java/lang/String" "value" "[B" (.null) := Dq58 (Or.inr (hw _ (List.mem_of_getElem? (i := 21) rfl))) (ty := (.array .byte)) (by decide)
    have Fq61 : Fld Z hq53 aq52 "java/lang/String" "coder" "B" (.int (0 : Int32)) := Dq58 (Or.inr (hw _ (List.mem_of_getElem? (i := 22) rfl))) (ty := .byte) (by decide)
    refine Rn.dup (pc' := 53) at_52 rfl rfl ?_
    refine Rn.iconst (pc' := 54) (v := (1 : Int32)) at_53 rfl rfl ?_
    refine Rn.newP (pc' := 56) (cap := 1) (ty := .char) (ad := "[C") (hw _ (List.mem_of_getElem? (i := 8) rfl)) rfl rfl at_54 (by decide) (Nat.le_of_ble_eq_true rfl) (by decide) (Nat.le_of_ble_eq_true rfl) (Nat.le_of_ble_eq_true rfl) rfl (fun hq63 aq62 eq64 gq65 Eq66 ⟨Aq67, Bq68⟩ => ?_)
    have nq69 : aq52 ≠ aq62 := by rw [eq64]; exact Nat.ne_of_lt (Aq57.lt)
    have Aq70 : Ax Z hq63 aq62 .char ([.int (0 : Int32)]) := Aq67
    refine Rn.dup (pc' := 57) at_56 rfl rfl ?_
    refine Rn.iconst (pc' := 58) (v := (0 : Int32)) at_57 rfl rfl ?_
    refine Rn.iload (pc' := 60) at_58 rfl rfl ?_
    refine Rn.castore (pc' := 61) (v := .int c0) Aq70 (by decide) (Nat.le_of_ble_eq_true rfl) (congrArg Value.int hC0.2) (Or.inr gq65) (Sf.mem (List.mem_of_getElem? (i := 0) rfl)) at_60 rfl (fun hq72 Wq71 Aq73 => ?_)
    have Aq74 : Ax Z hq72 aq62 .char ([.int c0]) := Aq73
    have Fq75 := Aq57.ext Eq66
    have Fq76 := Fq75.wr Wq71
    have Fq77 := Fq60.ext Eq66
    have Fq78 := Fq77.other Wq71 (Or.inl nq69)
    have Fq79 := Fq61.ext Eq66
    have Fq80 := Fq79.other Wq71 (Or.inl nq69)
    refine Rn.callI (pc' := 64) (argsL := [.ref aq62]) (a := aq52) (rest := [.ref aq52]) (ct_s1 Z a0 hw aq52 aq62 c0 hC0 hq72 Fq76 Fq78 Fq80 Aq74 (Ne.symm nq69) z hz S UA UH UL) rfl (hw _ (List.mem_of_getElem? (i := 9) rfl)) (hw _ (List.mem_of_getElem? (i := 10) rfl)) (hw _ (List.mem_of_getElem? (i := 7) rfl)) (hw _ (List.mem_of_getElem? (i := 11) rfl)) (by decide) rfl rfl (lenOf pd_19 rfl) rfl at_61 rfl (Nat.le_of_ble_eq_true rfl) (Nat.le_of_ble_eq_true rfl) (Nat.le_of_ble_eq_true rfl) (Nat.le_of_ble_eq_true rfl) (allS (Or.inr gq55) all0) (allS (Sf.mem (List.mem_of_getElem? (i := 1) rfl)) (all0)) (fun vq81 hq82 Kq83 qq84 => ?_)
    obtain ⟨rfl, G⟩ := qq84
    simp only [Option.toList, List.cons_append, List.nil_append]
    refine Rn.astore (pc' := 66) (Ls' := #[.val (.int l), .val (.int a), .val (.int b), .val (.int d), .val (.int (1 : Int32)), .val (.int c0), .val (.int c1), .val (.int c2), .val (.ref aq52), .unset]) at_64 rfl rfl rfl ?_
    refine Rn.goto (pc' := 127) at_66 (by decide) (by decide) ?_
    refine Rn.iload (pc' := 129) at_127 rfl rfl ?_
    refine Rn.iconst (pc' := 130) (v := (1 : Int32)) at_129 rfl rfl ?_
    refine Rn.icmp_lt (pc' := 141) (pn := 133) at_130 (by decide) (by decide) rfl (fun cq85 => absurd cq85 (by decide)) (fun cq85 => ?_)
    refine Rn.iload (pc' := 135) at_133 rfl rfl ?_
    refine Rn.callS (pc' := 138) (argsL := [.int c0]) (rest := []) (ct_ok Z a0 hw c0 hq82) (hw _ (List.mem_of_getElem? (i := 81) rfl)) (hw _ (List.mem_of_getElem? (i := 82) rfl)) (hw _ (List.mem_of_getElem? (i := 2) rfl)) (hw _ (List.mem_of_getElem? (i := 83) rfl)) (by decide) rfl rfl (lenOf pd_21 rfl) rfl at_135 rfl (Nat.le_of_ble_eq_true rfl) (Nat.le_of_ble_eq_true rfl) (Nat.le_of_ble_eq_true rfl) (Nat.le_of_ble_eq_true rfl) (fun _ z => nomatch z) (fun _ z => nomatch z) (fun vq86 hq87 Kq88 qq89 => ?_)
    obtain ⟨rfl, rfl⟩ := qq89
    simp only [Option.toList, List.cons_append, List.nil_append]
    refine Rn.if_eq (pc' := 173) (pn := 141) at_138 (by decide) (by decide) rfl (fun cq90 => ?_) (fun cq90 => ?_)
    ·
      refine Rn.iconst (pc' := 174) (v := (0 : Int32)) at_173 rfl rfl ?_
      refine Rn.istore (pc' := 176) (Ls' := #[.val (.int l), .val (.int a), .val (.int b), .val (.int d), .val (.int (1 : Int32)), .val (.int c0), .val (.int c1), .val (.int c2), .val (.ref aq52), .val (.int (0 : Int32))]) at_174 rfl rfl ?_
      refine Rn.aload (pc' := 178) at_176 rfl rfl rfl ?_
      refine Rn.callS (pc' := 181) (argsL := [.ref aq52]) (rest := []) (ct_chx1 Z a0 hw aq52 c0 hC0 hq82 G z hz S UA UH UL f hf SF) (hw _ (List.mem_of_getElem? (i := 27) rfl)) (hw _ (List.mem_of_getElem? (i := 28) rfl)) (hw _ (List.mem_of_getElem? (i := 29) rfl)) (hw _ (List.mem_of_getElem? (i := 30) rfl)) (by decide) rfl rfl (lenOf pd_20 rfl) rfl at_178 rfl (Nat.le_of_ble_eq_true rfl) (Nat.le_of_ble_eq_true rfl) (Nat.le_of_ble_eq_true rfl) (Nat.le_of_ble_eq_true rfl) (fun _ z => nomatch z) (fun _ z => nomatch z) (fun vq91 hq92 Kq93 qq94 => ?_)
      obtain ⟨rfl, rfl⟩ := qq94
      simp only [Option.toList, List.cons_append, List.nil_append]
      refine Rn.iload (pc' := 183) at_181 rfl rfl ?_
      refine Rn.icmp_ne (pc' := 190) (pn := 186) at_183 (by decide) (by decide) rfl (fun cq95 => absurd (if_neg (c := own_ok c0) (fun q => absurd ((if_pos (c := own_ok c0) q).symm.trans cq90) (by decide))) cq95) (fun cq95 => ?_)
      refine Rn.iconst (pc' := 187) (v := (1 : Int32)) at_186 rfl rfl ?_
      refine Rn.goto (pc' := 191) at_187 (by decide) (by decide) ?_
      refine Rn.retN (t := .boolean) rfl (by simp) at_191 (Nat.le_of_ble_eq_true rfl) (Nat.le_of_ble_eq_true rfl) ?_
      rfl
    ·
      refine Rn.iload (pc' := 143) at_141 rfl rfl ?_
      refine Rn.iconst (pc' := 144) (v := (2 : Int32)) at_143 rfl rfl ?_
      refine Rn.icmp_lt (pc' := 155) (pn := 147) at_144 (by decide) (by decide) rfl (fun cq96 => ?_) (fun cq96 => absurd cq96 (by decide))
      refine Rn.iload (pc' := 157) at_155 rfl rfl ?_
      refine Rn.iconst (pc' := 158) (v := (3 : Int32)) at_157 rfl rfl ?_
      refine Rn.icmp_lt (pc' := 169) (pn := 161) at_158 (by decide) (by decide) rfl (fun cq97 => ?_) (fun cq97 => absurd cq97 (by decide))
      refine Rn.iconst (pc' := 170) (v := (1 : Int32)) at_169 rfl rfl ?_
      refine Rn.goto (pc' := 174) at_170 (by decide) (by decide) ?_
      refine Rn.istore (pc' := 176) (Ls' := #[.val (.int l), .val (.int a), .val (.int b), .val (.int d), .val (.int (1 : Int32)), .val (.int c0), .val (.int c1), .val (.int c2), .val (.ref aq52), .val (.int (1 : Int32))]) at_174 rfl rfl ?_
      refine Rn.aload (pc' := 178) at_176 rfl rfl rfl ?_
      refine Rn.callS (pc' := 181) (argsL := [.ref aq52]) (rest := []) (ct_chx1 Z a0 hw aq52 c0 hC0 hq82 G z hz S UA UH UL f hf SF) (hw _ (List.mem_of_getElem? (i := 27) rfl)) (hw _ (List.mem_of_getElem? (i := 28) rfl)) (hw _ (List.mem_of_getElem? (i := 29) rfl)) (hw _ (List.mem_of_getElem? (i := 30) rfl)) (by decide) rfl rfl (lenOf pd_20 rfl) rfl at_178 rfl (Nat.le_of_ble_eq_true rfl) (Nat.le_of_ble_eq_true rfl) (Nat.le_of_ble_eq_true rfl) (Nat.le_of_ble_eq_true rfl) (fun _ z => nomatch z) (fun _ z => nomatch z) (fun vq98 hq99 Kq100 qq101 => ?_)
      obtain ⟨rfl, rfl⟩ := qq101
      simp only [Option.toList, List.cons_append, List.nil_append]
      refine Rn.iload (pc' := 183) at_181 rfl rfl ?_
      refine Rn.icmp_ne (pc' := 190) (pn := 186) at_183 (by decide) (by decide) rfl (fun cq102 => absurd (if_pos (c := own_ok c0) (show own_ok c0 by by_cases q : own_ok c0; exact q; exact absurd (if_neg q) cq90)) cq102) (fun cq102 => ?_)
      refine Rn.iconst (pc' := 187) (v := (1 : Int32)) at_186 rfl rfl ?_
      refine Rn.goto (pc' := 191) at_187 (by decide) (by decide) ?_
      refine Rn.retN (t := .boolean) rfl (by simp) at_191 (Nat.le_of_ble_eq_true rfl) (Nat.le_of_ble_eq_true rfl) ?_
      rfl
  ·
    refine Rn.iload (pc' := 25) at_23 rfl rfl ?_
    refine Rn.if_ne (pc' := 43) (pn := 28) at_25 (by decide) (by decide) rfl (fun cq103 => ?_) (fun cq103 => absurd cq103 (by decide))
    refine Rn.iload (pc' := 45) at_43 rfl rfl ?_
    refine Rn.iconst (pc' := 46) (v := (1 : Int32)) at_45 rfl rfl ?_
    refine Rn.icmp_ne (pc' := 69) (pn := 49) at_46 (by decide) (by decide) rfl (fun cq104 => ?_) (fun cq104 => absurd cq104 (by decide))
    refine Rn.iload (pc' := 71) at_69 rfl rfl ?_
    refine Rn.iconst (pc' := 72) (v := (2 : Int32)) at_71 rfl rfl ?_
    refine Rn.icmp_ne (pc' := 100) (pn := 75) at_72 (by decide) (by decide) rfl (fun cq105 => absurd cq105 (by decide)) (fun cq105 => ?_)
    refine Rn.newO (pc' := 78) (hw _ (List.mem_of_getElem? (i := 5) rfl)) (hw _ (List.mem_of_getElem? (i := 6) rfl)) (hw _ (List.mem_of_getElem? (i := 7) rfl)) at_75 (Nat.le_of_ble_eq_true rfl) (Nat.le_of_ble_eq_true rfl) rfl (fun hq107 aq106 eq108 gq109 Eq110 ⟨Aq111, Dq112, Uq113⟩ => ?_)
    have Fq114 : Fld Z hq107 aq106 "java/lang/String" "value" "[B" (.null) := Dq112 (Or.inr (hw _ (List.mem_of_getElem? (i := 21) rfl))) (ty := (.array .byte)) (by decide)
    have Fq115 : Fld Z hq107 aq106 "java/lang/String" "coder" "B" (.int (0 : Int32)) := Dq112 (Or.inr (hw _ (List.mem_of_getElem? (i := 22) rfl))) (ty := .byte) (by decide)
    refine Rn.dup (pc' := 79) at_78 rfl rfl ?_
    refine Rn.iconst (pc' := 80) (v := (2 : Int32)) at_79 rfl rfl ?_
    refine Rn.newP (pc' := 82) (cap := 2) (ty := .char) (ad := "[C") (hw _ (List.mem_of_getElem? (i := 8) rfl)) rfl rfl at_80 (by decide) (Nat.le_of_ble_eq_true rfl) (by decide) (Nat.le_of_ble_eq_true rfl) (Nat.le_of_ble_eq_true rfl) rfl (fun hq117 aq116 eq118 gq119 Eq120 ⟨Aq121, Bq122⟩ => ?_)
    have nq123 : aq106 ≠ aq116 := by rw [eq118]; exact Nat.ne_of_lt (Aq111.lt)
    have Aq124 : Ax Z hq117 aq116 .char ([.int (0 : Int32), .int (0 : Int32)]) := Aq121
    refine Rn.dup (pc' := 83) at_82 rfl rfl ?_
    refine Rn.iconst (pc' := 84) (v := (0 : Int32)) at_83 rfl rfl ?_
    refine Rn.iload (pc' := 86) at_84 rfl rfl ?_
    refine Rn.castore (pc' := 87) (v := .int c0) Aq124 (by decide) (Nat.le_of_ble_eq_true rfl) (congrArg Value.int hC0.2) (Or.inr gq119) (Sf.mem (List.mem_of_getElem? (i := 0) rfl)) at_86 rfl (fun hq126 Wq125 Aq127 => ?_)
    have Aq128 : Ax Z hq126 aq116 .char ([.int c0, .int (0 : Int32)]) := Aq127
    refine Rn.dup (pc' := 88) at_87 rfl rfl ?_
    refine Rn.iconst (pc' := 89) (v := (1 : Int32)) at_88 rfl rfl ?_
    refine Rn.iload (pc' := 91) at_89 rfl rfl ?_
    refine Rn.castore (pc' := 92) (v := .int c1) Aq128 (by decide) (Nat.le_of_ble_eq_true rfl) (congrArg Value.int hC1.2) (Or.inr gq119) (Sf.mem (List.mem_of_getElem? (i := 0) rfl)) at_91 rfl (fun hq130 Wq129 Aq131 => ?_)
    have Aq132 : Ax Z hq130 aq116 .char ([.int c0, .int c1]) := Aq131
    have Fq133 := Aq111.ext Eq120
    have Fq134 := Fq133.wr Wq125
    have Fq135 := Fq134.wr Wq129
    have Fq136 := Fq114.ext Eq120
    have Fq137 := Fq136.other Wq125 (Or.inl nq123)
    have Fq138 := Fq137.other Wq129 (Or.inl nq123)
    have Fq139 := Fq115.ext Eq120
    have Fq140 := Fq139.other Wq125 (Or.inl nq123)
    have Fq141 := Fq140.other Wq129 (Or.inl nq123)
    refine Rn.callI (pc' := 95) (argsL := [.ref aq116]) (a := aq106) (rest := [.ref aq106]) (ct_s2 Z a0 hw aq106 aq116 c0 c1 hC0 hC1 hq130 Fq135 Fq138 Fq141 Aq132 (Ne.symm nq123) z hz S UA UH UL) rfl (hw _ (List.mem_of_getElem? (i := 9) rfl)) (hw _ (List.mem_of_getElem? (i := 10) rfl)) (hw _ (List.mem_of_getElem? (i := 7) rfl)) (hw _ (List.mem_of_getElem? (i := 11) rfl)) (by decide) rfl rfl (lenOf pd_19 rfl) rfl at_92 rfl (Nat.le_of_ble_eq_true rfl) (Nat.le_of_ble_eq_true rfl) (Nat.le_of_ble_eq_true rfl) (Nat.le_of_ble_eq_true rfl) (allS (Or.inr gq109) all0) (allS (Sf.mem (List.mem_of_getElem? (i := 1) rfl)) (all0)) (fun vq142 hq143 Kq144 qq145 => ?_)
    obtain ⟨rfl, G⟩ := qq145
    simp only [Option.toList, List.cons_append, List.nil_append]
    refine Rn.astore (pc' := 97) (Ls' := #[.val (.int l), .val (.int a), .val (.int b), .val (.int d), .val (.int (2 : Int32)), .val (.int c0), .val (.int c1), .val (.int c2), .val (.ref aq106), .unset]) at_95 rfl rfl rfl ?_
    refine Rn.goto (pc' := 127) at_97 (by decide) (by decide) ?_
    refine Rn.iload (pc' := 129) at_127 rfl rfl ?_
    refine Rn.iconst (pc' := 130) (v := (1 : Int32)) at_129 rfl rfl ?_
    refine Rn.icmp_lt (pc' := 141) (pn := 133) at_130 (by decide) (by decide) rfl (fun cq146 => absurd cq146 (by decide)) (fun cq146 => ?_)
    refine Rn.iload (pc' := 135) at_133 rfl rfl ?_
    refine Rn.callS (pc' := 138) (argsL := [.int c0]) (rest := []) (ct_ok Z a0 hw c0 hq143) (hw _ (List.mem_of_getElem? (i := 81) rfl)) (hw _ (List.mem_of_getElem? (i := 82) rfl)) (hw _ (List.mem_of_getElem? (i := 2) rfl)) (hw _ (List.mem_of_getElem? (i := 83) rfl)) (by decide) rfl rfl (lenOf pd_21 rfl) rfl at_135 rfl (Nat.le_of_ble_eq_true rfl) (Nat.le_of_ble_eq_true rfl) (Nat.le_of_ble_eq_true rfl) (Nat.le_of_ble_eq_true rfl) (fun _ z => nomatch z) (fun _ z => nomatch z) (fun vq147 hq148 Kq149 qq150 => ?_)
    obtain ⟨rfl, rfl⟩ := qq150
    simp only [Option.toList, List.cons_append, List.nil_append]
    refine Rn.if_eq (pc' := 173) (pn := 141) at_138 (by decide) (by decide) rfl (fun cq151 => ?_) (fun cq151 => ?_)
    ·
      refine Rn.iconst (pc' := 174) (v := (0 : Int32)) at_173 rfl rfl ?_
      refine Rn.istore (pc' := 176) (Ls' := #[.val (.int l), .val (.int a), .val (.int b), .val (.int d), .val (.int (2 : Int32)), .val (.int c0), .val (.int c1), .val (.int c2), .val (.ref aq106), .val (.int (0 : Int32))]) at_174 rfl rfl ?_
      refine Rn.aload (pc' := 178) at_176 rfl rfl rfl ?_
      refine Rn.callS (pc' := 181) (argsL := [.ref aq106]) (rest := []) (ct_chx2 Z a0 hw aq106 c0 c1 hC0 hC1 hq143 G z hz S UA UH UL f hf SF) (hw _ (List.mem_of_getElem? (i := 27) rfl)) (hw _ (List.mem_of_getElem? (i := 28) rfl)) (hw _ (List.mem_of_getElem? (i := 29) rfl)) (hw _ (List.mem_of_getElem? (i := 30) rfl)) (by decide) rfl rfl (lenOf pd_20 rfl) rfl at_178 rfl (Nat.le_of_ble_eq_true rfl) (Nat.le_of_ble_eq_true rfl) (Nat.le_of_ble_eq_true rfl) (Nat.le_of_ble_eq_true rfl) (fun _ z => nomatch z) (fun _ z => nomatch z) (fun vq152 hq153 Kq154 qq155 => ?_)
      obtain ⟨rfl, rfl⟩ := qq155
      simp only [Option.toList, List.cons_append, List.nil_append]
      refine Rn.iload (pc' := 183) at_181 rfl rfl ?_
      refine Rn.icmp_ne (pc' := 190) (pn := 186) at_183 (by decide) (by decide) rfl (fun cq156 => absurd (if_neg (c := own_ok c0 ∧ own_ok c1) (fun q => absurd ((if_pos (c := own_ok c0) q.1).symm.trans cq151) (by decide))) cq156) (fun cq156 => ?_)
      refine Rn.iconst (pc' := 187) (v := (1 : Int32)) at_186 rfl rfl ?_
      refine Rn.goto (pc' := 191) at_187 (by decide) (by decide) ?_
      refine Rn.retN (t := .boolean) rfl (by simp) at_191 (Nat.le_of_ble_eq_true rfl) (Nat.le_of_ble_eq_true rfl) ?_
      rfl
    ·
      refine Rn.iload (pc' := 143) at_141 rfl rfl ?_
      refine Rn.iconst (pc' := 144) (v := (2 : Int32)) at_143 rfl rfl ?_
      refine Rn.icmp_lt (pc' := 155) (pn := 147) at_144 (by decide) (by decide) rfl (fun cq157 => absurd cq157 (by decide)) (fun cq157 => ?_)
      refine Rn.iload (pc' := 149) at_147 rfl rfl ?_
      refine Rn.callS (pc' := 152) (argsL := [.int c1]) (rest := []) (ct_ok Z a0 hw c1 hq143) (hw _ (List.mem_of_getElem? (i := 81) rfl)) (hw _ (List.mem_of_getElem? (i := 82) rfl)) (hw _ (List.mem_of_getElem? (i := 2) rfl)) (hw _ (List.mem_of_getElem? (i := 83) rfl)) (by decide) rfl rfl (lenOf pd_21 rfl) rfl at_149 rfl (Nat.le_of_ble_eq_true rfl) (Nat.le_of_ble_eq_true rfl) (Nat.le_of_ble_eq_true rfl) (Nat.le_of_ble_eq_true rfl) (fun _ z => nomatch z) (fun _ z => nomatch z) (fun vq158 hq159 Kq160 qq161 => ?_)
      obtain ⟨rfl, rfl⟩ := qq161
      simp only [Option.toList, List.cons_append, List.nil_append]
      refine Rn.if_eq (pc' := 173) (pn := 155) at_152 (by decide) (by decide) rfl (fun cq162 => ?_) (fun cq162 => ?_)
      ·
        refine Rn.iconst (pc' := 174) (v := (0 : Int32)) at_173 rfl rfl ?_
        refine Rn.istore (pc' := 176) (Ls' := #[.val (.int l), .val (.int a), .val (.int b), .val (.int d), .val (.int (2 : Int32)), .val (.int c0), .val (.int c1), .val (.int c2), .val (.ref aq106), .val (.int (0 : Int32))]) at_174 rfl rfl ?_
        refine Rn.aload (pc' := 178) at_176 rfl rfl rfl ?_
        refine Rn.callS (pc' := 181) (argsL := [.ref aq106]) (rest := []) (ct_chx2 Z a0 hw aq106 c0 c1 hC0 hC1 hq143 G z hz S UA UH UL f hf SF) (hw _ (List.mem_of_getElem? (i := 27) rfl)) (hw _ (List.mem_of_getElem? (i := 28) rfl)) (hw _ (List.mem_of_getElem? (i := 29) rfl)) (hw _ (List.mem_of_getElem? (i := 30) rfl)) (by decide) rfl rfl (lenOf pd_20 rfl) rfl at_178 rfl (Nat.le_of_ble_eq_true rfl) (Nat.le_of_ble_eq_true rfl) (Nat.le_of_ble_eq_true rfl) (Nat.le_of_ble_eq_true rfl) (fun _ z => nomatch z) (fun _ z => nomatch z) (fun vq163 hq164 Kq165 qq166 => ?_)
        obtain ⟨rfl, rfl⟩ := qq166
        simp only [Option.toList, List.cons_append, List.nil_append]
        refine Rn.iload (pc' := 183) at_181 rfl rfl ?_
        refine Rn.icmp_ne (pc' := 190) (pn := 186) at_183 (by decide) (by decide) rfl (fun cq167 => absurd (if_neg (c := own_ok c0 ∧ own_ok c1) (fun q => absurd ((if_pos (c := own_ok c1) q.2).symm.trans cq162) (by decide))) cq167) (fun cq167 => ?_)
        refine Rn.iconst (pc' := 187) (v := (1 : Int32)) at_186 rfl rfl ?_
        refine Rn.goto (pc' := 191) at_187 (by decide) (by decide) ?_
        refine Rn.retN (t := .boolean) rfl (by simp) at_191 (Nat.le_of_ble_eq_true rfl) (Nat.le_of_ble_eq_true rfl) ?_
        rfl
      ·
        refine Rn.iload (pc' := 157) at_155 rfl rfl ?_
        refine Rn.iconst (pc' := 158) (v := (3 : Int32)) at_157 rfl rfl ?_
        refine Rn.icmp_lt (pc' := 169) (pn := 161) at_158 (by decide) (by decide) rfl (fun cq168 => ?_) (fun cq168 => absurd cq168 (by decide))
        refine Rn.iconst (pc' := 170) (v := (1 : Int32)) at_169 rfl rfl ?_
        refine Rn.goto (pc' := 174) at_170 (by decide) (by decide) ?_
        refine Rn.istore (pc' := 176) (Ls' := #[.val (.int l), .val (.int a), .val (.int b), .val (.int d), .val (.int (2 : Int32)), .val (.int c0), .val (.int c1), .val (.int c2), .val (.ref aq106), .val (.int (1 : Int32))]) at_174 rfl rfl ?_
        refine Rn.aload (pc' := 178) at_176 rfl rfl rfl ?_
        refine Rn.callS (pc' := 181) (argsL := [.ref aq106]) (rest := []) (ct_chx2 Z a0 hw aq106 c0 c1 hC0 hC1 hq143 G z hz S UA UH UL f hf SF) (hw _ (List.mem_of_getElem? (i := 27) rfl)) (hw _ (List.mem_of_getElem? (i := 28) rfl)) (hw _ (List.mem_of_getElem? (i := 29) rfl)) (hw _ (List.mem_of_getElem? (i := 30) rfl)) (by decide) rfl rfl (lenOf pd_20 rfl) rfl at_178 rfl (Nat.le_of_ble_eq_true rfl) (Nat.le_of_ble_eq_true rfl) (Nat.le_of_ble_eq_true rfl) (Nat.le_of_ble_eq_true rfl) (fun _ z => nomatch z) (fun _ z => nomatch z) (fun vq169 hq170 Kq171 qq172 => ?_)
        obtain ⟨rfl, rfl⟩ := qq172
        simp only [Option.toList, List.cons_append, List.nil_append]
        refine Rn.iload (pc' := 183) at_181 rfl rfl ?_
        refine Rn.icmp_ne (pc' := 190) (pn := 186) at_183 (by decide) (by decide) rfl (fun cq173 => absurd (if_pos (c := own_ok c0 ∧ own_ok c1) ⟨(show own_ok c0 by by_cases q : own_ok c0; exact q; exact absurd (if_neg q) cq151), (show own_ok c1 by by_cases q : own_ok c1; exact q; exact absurd (if_neg q) cq162)⟩) cq173) (fun cq173 => ?_)
        refine Rn.iconst (pc' := 187) (v := (1 : Int32)) at_186 rfl rfl ?_
        refine Rn.goto (pc' := 191) at_187 (by decide) (by decide) ?_
        refine Rn.retN (t := .boolean) rfl (by simp) at_191 (Nat.le_of_ble_eq_true rfl) (Nat.le_of_ble_eq_true rfl) ?_
        rfl
  ·
    refine Rn.iload (pc' := 25) at_23 rfl rfl ?_
    refine Rn.if_ne (pc' := 43) (pn := 28) at_25 (by decide) (by decide) rfl (fun cq174 => ?_) (fun cq174 => absurd cq174 (by decide))
    refine Rn.iload (pc' := 45) at_43 rfl rfl ?_
    refine Rn.iconst (pc' := 46) (v := (1 : Int32)) at_45 rfl rfl ?_
    refine Rn.icmp_ne (pc' := 69) (pn := 49) at_46 (by decide) (by decide) rfl (fun cq175 => ?_) (fun cq175 => absurd cq175 (by decide))
    refine Rn.iload (pc' := 71) at_69 rfl rfl ?_
    refine Rn.iconst (pc' := 72) (v := (2 : Int32)) at_71 rfl rfl ?_
    refine Rn.icmp_ne (pc' := 100) (pn := 75) at_72 (by decide) (by decide) rfl (fun cq176 => ?_) (fun cq176 => absurd cq176 (by decide))
    refine Rn.newO (pc' := 103) (hw _ (List.mem_of_getElem? (i := 5) rfl)) (hw _ (List.mem_of_getElem? (i := 6) rfl)) (hw _ (List.mem_of_getElem? (i := 7) rfl)) at_100 (Nat.le_of_ble_eq_true rfl) (Nat.le_of_ble_eq_true rfl) rfl (fun hq178 aq177 eq179 gq180 Eq181 ⟨Aq182, Dq183, Uq184⟩ => ?_)
    have Fq185 : Fld Z hq178 aq177 "java/lang/String" "value" "[B" (.null) := Dq183 (Or.inr (hw _ (List.mem_of_getElem? (i := 21) rfl))) (ty := (.array .byte)) (by decide)
    have Fq186 : Fld Z hq178 aq177 "java/lang/String" "coder" "B" (.int (0 : Int32)) := Dq183 (Or.inr (hw _ (List.mem_of_getElem? (i := 22) rfl))) (ty := .byte) (by decide)
    refine Rn.dup (pc' := 104) at_103 rfl rfl ?_
    refine Rn.iconst (pc' := 105) (v := (3 : Int32)) at_104 rfl rfl ?_
    refine Rn.newP (pc' := 107) (cap := 3) (ty := .char) (ad := "[C") (hw _ (List.mem_of_getElem? (i := 8) rfl)) rfl rfl at_105 (by decide) (Nat.le_of_ble_eq_true rfl) (by decide) (Nat.le_of_ble_eq_true rfl) (Nat.le_of_ble_eq_true rfl) rfl (fun hq188 aq187 eq189 gq190 Eq191 ⟨Aq192, Bq193⟩ => ?_)
    have nq194 : aq177 ≠ aq187 := by rw [eq189]; exact Nat.ne_of_lt (Aq182.lt)
    have Aq195 : Ax Z hq188 aq187 .char ([.int (0 : Int32), .int (0 : Int32), .int (0 : Int32)]) := Aq192
    refine Rn.dup (pc' := 108) at_107 rfl rfl ?_
    refine Rn.iconst (pc' := 109) (v := (0 : Int32)) at_108 rfl rfl ?_
    refine Rn.iload (pc' := 111) at_109 rfl rfl ?_
    refine Rn.castore (pc' := 112) (v := .int c0) Aq195 (by decide) (Nat.le_of_ble_eq_true rfl) (congrArg Value.int hC0.2) (Or.inr gq190) (Sf.mem (List.mem_of_getElem? (i := 0) rfl)) at_111 rfl (fun hq197 Wq196 Aq198 => ?_)
    have Aq199 : Ax Z hq197 aq187 .char ([.int c0, .int (0 : Int32), .int (0 : Int32)]) := Aq198
    refine Rn.dup (pc' := 113) at_112 rfl rfl ?_
    refine Rn.iconst (pc' := 114) (v := (1 : Int32)) at_113 rfl rfl ?_
    refine Rn.iload (pc' := 116) at_114 rfl rfl ?_
    refine Rn.castore (pc' := 117) (v := .int c1) Aq199 (by decide) (Nat.le_of_ble_eq_true rfl) (congrArg Value.int hC1.2) (Or.inr gq190) (Sf.mem (List.mem_of_getElem? (i := 0) rfl)) at_116 rfl (fun hq201 Wq200 Aq202 => ?_)
    have Aq203 : Ax Z hq201 aq187 .char ([.int c0, .int c1, .int (0 : Int32)]) := Aq202
    refine Rn.dup (pc' := 118) at_117 rfl rfl ?_
    refine Rn.iconst (pc' := 119) (v := (2 : Int32)) at_118 rfl rfl ?_
    refine Rn.iload (pc' := 121) at_119 rfl rfl ?_
    refine Rn.castore (pc' := 122) (v := .int c2) Aq203 (by decide) (Nat.le_of_ble_eq_true rfl) (congrArg Value.int hC2.2) (Or.inr gq190) (Sf.mem (List.mem_of_getElem? (i := 0) rfl)) at_121 rfl (fun hq205 Wq204 Aq206 => ?_)
    have Aq207 : Ax Z hq205 aq187 .char ([.int c0, .int c1, .int c2]) := Aq206
    have Fq208 := Aq182.ext Eq191
    have Fq209 := Fq208.wr Wq196
    have Fq210 := Fq209.wr Wq200
    have Fq211 := Fq210.wr Wq204
    have Fq212 := Fq185.ext Eq191
    have Fq213 := Fq212.other Wq196 (Or.inl nq194)
    have Fq214 := Fq213.other Wq200 (Or.inl nq194)
    have Fq215 := Fq214.other Wq204 (Or.inl nq194)
    have Fq216 := Fq186.ext Eq191
    have Fq217 := Fq216.other Wq196 (Or.inl nq194)
    have Fq218 := Fq217.other Wq200 (Or.inl nq194)
    have Fq219 := Fq218.other Wq204 (Or.inl nq194)
    refine Rn.callI (pc' := 125) (argsL := [.ref aq187]) (a := aq177) (rest := [.ref aq177]) (ct_s3 Z a0 hw aq177 aq187 c0 c1 c2 hC0 hC1 hC2 hq205 Fq211 Fq215 Fq219 Aq207 (Ne.symm nq194) z hz S UA UH UL) rfl (hw _ (List.mem_of_getElem? (i := 9) rfl)) (hw _ (List.mem_of_getElem? (i := 10) rfl)) (hw _ (List.mem_of_getElem? (i := 7) rfl)) (hw _ (List.mem_of_getElem? (i := 11) rfl)) (by decide) rfl rfl (lenOf pd_19 rfl) rfl at_122 rfl (Nat.le_of_ble_eq_true rfl) (Nat.le_of_ble_eq_true rfl) (Nat.le_of_ble_eq_true rfl) (Nat.le_of_ble_eq_true rfl) (allS (Or.inr gq180) all0) (allS (Sf.mem (List.mem_of_getElem? (i := 1) rfl)) (all0)) (fun vq220 hq221 Kq222 qq223 => ?_)
    obtain ⟨rfl, G⟩ := qq223
    simp only [Option.toList, List.cons_append, List.nil_append]
    refine Rn.astore (pc' := 127) (Ls' := #[.val (.int l), .val (.int a), .val (.int b), .val (.int d), .val (.int (3 : Int32)), .val (.int c0), .val (.int c1), .val (.int c2), .val (.ref aq177), .unset]) at_125 rfl rfl rfl ?_
    refine Rn.iload (pc' := 129) at_127 rfl rfl ?_
    refine Rn.iconst (pc' := 130) (v := (1 : Int32)) at_129 rfl rfl ?_
    refine Rn.icmp_lt (pc' := 141) (pn := 133) at_130 (by decide) (by decide) rfl (fun cq224 => absurd cq224 (by decide)) (fun cq224 => ?_)
    refine Rn.iload (pc' := 135) at_133 rfl rfl ?_
    refine Rn.callS (pc' := 138) (argsL := [.int c0]) (rest := []) (ct_ok Z a0 hw c0 hq221) (hw _ (List.mem_of_getElem? (i := 81) rfl)) (hw _ (List.mem_of_getElem? (i := 82) rfl)) (hw _ (List.mem_of_getElem? (i := 2) rfl)) (hw _ (List.mem_of_getElem? (i := 83) rfl)) (by decide) rfl rfl (lenOf pd_21 rfl) rfl at_135 rfl (Nat.le_of_ble_eq_true rfl) (Nat.le_of_ble_eq_true rfl) (Nat.le_of_ble_eq_true rfl) (Nat.le_of_ble_eq_true rfl) (fun _ z => nomatch z) (fun _ z => nomatch z) (fun vq225 hq226 Kq227 qq228 => ?_)
    obtain ⟨rfl, rfl⟩ := qq228
    simp only [Option.toList, List.cons_append, List.nil_append]
    refine Rn.if_eq (pc' := 173) (pn := 141) at_138 (by decide) (by decide) rfl (fun cq229 => ?_) (fun cq229 => ?_)
    ·
      refine Rn.iconst (pc' := 174) (v := (0 : Int32)) at_173 rfl rfl ?_
      refine Rn.istore (pc' := 176) (Ls' := #[.val (.int l), .val (.int a), .val (.int b), .val (.int d), .val (.int (3 : Int32)), .val (.int c0), .val (.int c1), .val (.int c2), .val (.ref aq177), .val (.int (0 : Int32))]) at_174 rfl rfl ?_
      refine Rn.aload (pc' := 178) at_176 rfl rfl rfl ?_
      refine Rn.callS (pc' := 181) (argsL := [.ref aq177]) (rest := []) (ct_chx3 Z a0 hw aq177 c0 c1 c2 hC0 hC1 hC2 hq221 G z hz S UA UH UL f hf SF) (hw _ (List.mem_of_getElem? (i := 27) rfl)) (hw _ (List.mem_of_getElem? (i := 28) rfl)) (hw _ (List.mem_of_getElem? (i := 29) rfl)) (hw _ (List.mem_of_getElem? (i := 30) rfl)) (by decide) rfl rfl (lenOf pd_20 rfl) rfl at_178 rfl (Nat.le_of_ble_eq_true rfl) (Nat.le_of_ble_eq_true rfl) (Nat.le_of_ble_eq_true rfl) (Nat.le_of_ble_eq_true rfl) (fun _ z => nomatch z) (fun _ z => nomatch z) (fun vq230 hq231 Kq232 qq233 => ?_)
      obtain ⟨rfl, rfl⟩ := qq233
      simp only [Option.toList, List.cons_append, List.nil_append]
      refine Rn.iload (pc' := 183) at_181 rfl rfl ?_
      refine Rn.icmp_ne (pc' := 190) (pn := 186) at_183 (by decide) (by decide) rfl (fun cq234 => absurd (if_neg (c := own_ok c0 ∧ own_ok c1 ∧ own_ok c2) (fun q => absurd ((if_pos (c := own_ok c0) q.1).symm.trans cq229) (by decide))) cq234) (fun cq234 => ?_)
      refine Rn.iconst (pc' := 187) (v := (1 : Int32)) at_186 rfl rfl ?_
      refine Rn.goto (pc' := 191) at_187 (by decide) (by decide) ?_
      refine Rn.retN (t := .boolean) rfl (by simp) at_191 (Nat.le_of_ble_eq_true rfl) (Nat.le_of_ble_eq_true rfl) ?_
      rfl
    ·
      refine Rn.iload (pc' := 143) at_141 rfl rfl ?_
      refine Rn.iconst (pc' := 144) (v := (2 : Int32)) at_143 rfl rfl ?_
      refine Rn.icmp_lt (pc' := 155) (pn := 147) at_144 (by decide) (by decide) rfl (fun cq235 => absurd cq235 (by decide)) (fun cq235 => ?_)
      refine Rn.iload (pc' := 149) at_147 rfl rfl ?_
      refine Rn.callS (pc' := 152) (argsL := [.int c1]) (rest := []) (ct_ok Z a0 hw c1 hq221) (hw _ (List.mem_of_getElem? (i := 81) rfl)) (hw _ (List.mem_of_getElem? (i := 82) rfl)) (hw _ (List.mem_of_getElem? (i := 2) rfl)) (hw _ (List.mem_of_getElem? (i := 83) rfl)) (by decide) rfl rfl (lenOf pd_21 rfl) rfl at_149 rfl (Nat.le_of_ble_eq_true rfl) (Nat.le_of_ble_eq_true rfl) (Nat.le_of_ble_eq_true rfl) (Nat.le_of_ble_eq_true rfl) (fun _ z => nomatch z) (fun _ z => nomatch z) (fun vq236 hq237 Kq238 qq239 => ?_)
      obtain ⟨rfl, rfl⟩ := qq239
      simp only [Option.toList, List.cons_append, List.nil_append]
      refine Rn.if_eq (pc' := 173) (pn := 155) at_152 (by decide) (by decide) rfl (fun cq240 => ?_) (fun cq240 => ?_)
      ·
        refine Rn.iconst (pc' := 174) (v := (0 : Int32)) at_173 rfl rfl ?_
        refine Rn.istore (pc' := 176) (Ls' := #[.val (.int l), .val (.int a), .val (.int b), .val (.int d), .val (.int (3 : Int32)), .val (.int c0), .val (.int c1), .val (.int c2), .val (.ref aq177), .val (.int (0 : Int32))]) at_174 rfl rfl ?_
        refine Rn.aload (pc' := 178) at_176 rfl rfl rfl ?_
        refine Rn.callS (pc' := 181) (argsL := [.ref aq177]) (rest := []) (ct_chx3 Z a0 hw aq177 c0 c1 c2 hC0 hC1 hC2 hq221 G z hz S UA UH UL f hf SF) (hw _ (List.mem_of_getElem? (i := 27) rfl)) (hw _ (List.mem_of_getElem? (i := 28) rfl)) (hw _ (List.mem_of_getElem? (i := 29) rfl)) (hw _ (List.mem_of_getElem? (i := 30) rfl)) (by decide) rfl rfl (lenOf pd_20 rfl) rfl at_178 rfl (Nat.le_of_ble_eq_true rfl) (Nat.le_of_ble_eq_true rfl) (Nat.le_of_ble_eq_true rfl) (Nat.le_of_ble_eq_true rfl) (fun _ z => nomatch z) (fun _ z => nomatch z) (fun vq241 hq242 Kq243 qq244 => ?_)
        obtain ⟨rfl, rfl⟩ := qq244
        simp only [Option.toList, List.cons_append, List.nil_append]
        refine Rn.iload (pc' := 183) at_181 rfl rfl ?_
        refine Rn.icmp_ne (pc' := 190) (pn := 186) at_183 (by decide) (by decide) rfl (fun cq245 => absurd (if_neg (c := own_ok c0 ∧ own_ok c1 ∧ own_ok c2) (fun q => absurd ((if_pos (c := own_ok c1) q.2.1).symm.trans cq240) (by decide))) cq245) (fun cq245 => ?_)
        refine Rn.iconst (pc' := 187) (v := (1 : Int32)) at_186 rfl rfl ?_
        refine Rn.goto (pc' := 191) at_187 (by decide) (by decide) ?_
        refine Rn.retN (t := .boolean) rfl (by simp) at_191 (Nat.le_of_ble_eq_true rfl) (Nat.le_of_ble_eq_true rfl) ?_
        rfl
      ·
        refine Rn.iload (pc' := 157) at_155 rfl rfl ?_
        refine Rn.iconst (pc' := 158) (v := (3 : Int32)) at_157 rfl rfl ?_
        refine Rn.icmp_lt (pc' := 169) (pn := 161) at_158 (by decide) (by decide) rfl (fun cq246 => absurd cq246 (by decide)) (fun cq246 => ?_)
        refine Rn.iload (pc' := 163) at_161 rfl rfl ?_
        refine Rn.callS (pc' := 166) (argsL := [.int c2]) (rest := []) (ct_ok Z a0 hw c2 hq221) (hw _ (List.mem_of_getElem? (i := 81) rfl)) (hw _ (List.mem_of_getElem? (i := 82) rfl)) (hw _ (List.mem_of_getElem? (i := 2) rfl)) (hw _ (List.mem_of_getElem? (i := 83) rfl)) (by decide) rfl rfl (lenOf pd_21 rfl) rfl at_163 rfl (Nat.le_of_ble_eq_true rfl) (Nat.le_of_ble_eq_true rfl) (Nat.le_of_ble_eq_true rfl) (Nat.le_of_ble_eq_true rfl) (fun _ z => nomatch z) (fun _ z => nomatch z) (fun vq247 hq248 Kq249 qq250 => ?_)
        obtain ⟨rfl, rfl⟩ := qq250
        simp only [Option.toList, List.cons_append, List.nil_append]
        refine Rn.if_eq (pc' := 173) (pn := 169) at_166 (by decide) (by decide) rfl (fun cq251 => ?_) (fun cq251 => ?_)
        ·
          refine Rn.iconst (pc' := 174) (v := (0 : Int32)) at_173 rfl rfl ?_
          refine Rn.istore (pc' := 176) (Ls' := #[.val (.int l), .val (.int a), .val (.int b), .val (.int d), .val (.int (3 : Int32)), .val (.int c0), .val (.int c1), .val (.int c2), .val (.ref aq177), .val (.int (0 : Int32))]) at_174 rfl rfl ?_
          refine Rn.aload (pc' := 178) at_176 rfl rfl rfl ?_
          refine Rn.callS (pc' := 181) (argsL := [.ref aq177]) (rest := []) (ct_chx3 Z a0 hw aq177 c0 c1 c2 hC0 hC1 hC2 hq221 G z hz S UA UH UL f hf SF) (hw _ (List.mem_of_getElem? (i := 27) rfl)) (hw _ (List.mem_of_getElem? (i := 28) rfl)) (hw _ (List.mem_of_getElem? (i := 29) rfl)) (hw _ (List.mem_of_getElem? (i := 30) rfl)) (by decide) rfl rfl (lenOf pd_20 rfl) rfl at_178 rfl (Nat.le_of_ble_eq_true rfl) (Nat.le_of_ble_eq_true rfl) (Nat.le_of_ble_eq_true rfl) (Nat.le_of_ble_eq_true rfl) (fun _ z => nomatch z) (fun _ z => nomatch z) (fun vq252 hq253 Kq254 qq255 => ?_)
          obtain ⟨rfl, rfl⟩ := qq255
          simp only [Option.toList, List.cons_append, List.nil_append]
          refine Rn.iload (pc' := 183) at_181 rfl rfl ?_
          refine Rn.icmp_ne (pc' := 190) (pn := 186) at_183 (by decide) (by decide) rfl (fun cq256 => absurd (if_neg (c := own_ok c0 ∧ own_ok c1 ∧ own_ok c2) (fun q => absurd ((if_pos (c := own_ok c2) q.2.2).symm.trans cq251) (by decide))) cq256) (fun cq256 => ?_)
          refine Rn.iconst (pc' := 187) (v := (1 : Int32)) at_186 rfl rfl ?_
          refine Rn.goto (pc' := 191) at_187 (by decide) (by decide) ?_
          refine Rn.retN (t := .boolean) rfl (by simp) at_191 (Nat.le_of_ble_eq_true rfl) (Nat.le_of_ble_eq_true rfl) ?_
          rfl
        ·
          refine Rn.iconst (pc' := 170) (v := (1 : Int32)) at_169 rfl rfl ?_
          refine Rn.goto (pc' := 174) at_170 (by decide) (by decide) ?_
          refine Rn.istore (pc' := 176) (Ls' := #[.val (.int l), .val (.int a), .val (.int b), .val (.int d), .val (.int (3 : Int32)), .val (.int c0), .val (.int c1), .val (.int c2), .val (.ref aq177), .val (.int (1 : Int32))]) at_174 rfl rfl ?_
          refine Rn.aload (pc' := 178) at_176 rfl rfl rfl ?_
          refine Rn.callS (pc' := 181) (argsL := [.ref aq177]) (rest := []) (ct_chx3 Z a0 hw aq177 c0 c1 c2 hC0 hC1 hC2 hq221 G z hz S UA UH UL f hf SF) (hw _ (List.mem_of_getElem? (i := 27) rfl)) (hw _ (List.mem_of_getElem? (i := 28) rfl)) (hw _ (List.mem_of_getElem? (i := 29) rfl)) (hw _ (List.mem_of_getElem? (i := 30) rfl)) (by decide) rfl rfl (lenOf pd_20 rfl) rfl at_178 rfl (Nat.le_of_ble_eq_true rfl) (Nat.le_of_ble_eq_true rfl) (Nat.le_of_ble_eq_true rfl) (Nat.le_of_ble_eq_true rfl) (fun _ z => nomatch z) (fun _ z => nomatch z) (fun vq257 hq258 Kq259 qq260 => ?_)
          obtain ⟨rfl, rfl⟩ := qq260
          simp only [Option.toList, List.cons_append, List.nil_append]
          refine Rn.iload (pc' := 183) at_181 rfl rfl ?_
          refine Rn.icmp_ne (pc' := 190) (pn := 186) at_183 (by decide) (by decide) rfl (fun cq261 => absurd (if_pos (c := own_ok c0 ∧ own_ok c1 ∧ own_ok c2) ⟨(show own_ok c0 by by_cases q : own_ok c0; exact q; exact absurd (if_neg q) cq229), (show own_ok c1 by by_cases q : own_ok c1; exact q; exact absurd (if_neg q) cq240), (show own_ok c2 by by_cases q : own_ok c2; exact q; exact absurd (if_neg q) cq251)⟩) cq261) (fun cq261 => ?_)
          refine Rn.iconst (pc' := 187) (v := (1 : Int32)) at_186 rfl rfl ?_
          refine Rn.goto (pc' := 191) at_187 (by decide) (by decide) ?_
          refine Rn.retN (t := .boolean) rfl (by simp) at_191 (Nat.le_of_ble_eq_true rfl) (Nat.le_of_ble_eq_true rfl) ?_
          rfl
set_option maxRecDepth 65536 in
set_option maxHeartbeats 40000000 in
theorem comes_1 {Post : Tables → Env → Array Value → State → Outcome → State → Prop} (hpost : ∀ tb e args s v u, (limb_1_1.after args s (.returned v) u = true ∧ limb_1_2.after args s (.returned v) u = true ∧ True) → D.FramedW s (.returned v) u (Jvm.fieldLocs frame_1_writes args s ++ Jvm.arrayLocs frame_1_arrays args s ++ Jvm.staticLocs frame_1_statics s) 24 1152 → Post tb e args s (.returned v) u) :
    ArmFor flags0 classFile x code maxLocals ret World_1 tables_1 room_1 Calls_1 rest_1 Pre_1 Post := by
  intro l hfl _ _ p e ha hc hk s m args below hf hA hF happ hP
  obtain ⟨hcalls, hrest, hpre⟩ := hP
  obtain ⟨-, -, -, hnamed, -, -, -, hat⟩ := (Spec.applies_iff hf).mp happ
  obtain ⟨hg, hn⟩ := and_e (Cond.before_iff.mp (show (Jvm.Cond.and given_1 narrow_1).before args s = true from hpre))
  obtain ⟨hn1, hg1⟩ := and_e hg
  obtain ⟨w0, w1, w2, w3, rfl⟩ : ∃ w0 w1 w2 w3 : Value, args = #[w0, w1, w2, w3] := by
    have hs : args.size = 4 := by simpa [Cond.value, given_1] using hn1
    obtain ⟨L⟩ := args
    match L, hs with
    | [w0, w1, w2, w3], _ => exact ⟨w0, w1, w2, w3, rfl⟩
  have hw := fun d (hd : d ∈ tables_1) => atoms_spec (ws := Jvm.Cond.code x code maxLocals ret :: tables_1) hat d (List.mem_cons_of_mem _ hd)
  have hfit : Fit s := fun {y c} hc i hi => by
    obtain ⟨ha, rfl⟩ := Array.getElem?_eq_some_iff.mp hc
    have q := List.all_eq_true.mp ((Array.all_eq_true_iff_forall_mem.mp hF) _ (Array.getElem_mem ha)) i (List.mem_range.mpr hi)
    simpa [Array.getElem?_eq_getElem hi] using q
  obtain ⟨ka0, kb0⟩ := and_e hg1
  obtain ⟨x0, e0⟩ := is_v ka0
  obtain rfl : w0 = (.int x0) := Option.some.inj e0
  obtain ⟨ka1, kb1⟩ := and_e kb0
  obtain ⟨x1, e1⟩ := is_v ka1
  obtain rfl : w1 = (.int x1) := Option.some.inj e1
  obtain ⟨ka2, kb2⟩ := and_e kb1
  obtain ⟨x2, e2⟩ := is_v ka2
  obtain rfl : w2 = (.int x2) := Option.some.inj e2
  obtain ⟨x3, e3⟩ := is_v kb2
  obtain rfl : w3 = (.int x3) := Option.some.inj e3
  obtain ⟨hsets, -⟩ := atoms_of _ (rest_1_c_eq ▸ (show rest_1_c.before _ s = true from hrest))
  have n3 := not_v (Cond.before_iff.mp (hsets _ (List.mem_of_getElem? (i := 2) rfl)))
  obtain ⟨z, ez⟩ := is_v (Cond.before_iff.mp (hsets _ (List.mem_of_getElem? (i := 1) rfl)))
  have SS : Sta s s.heap "java/lang/String" "COMPACT_STRINGS" "Z" (.int z) := Sta.start ez (Or.inl (hsets _ (List.mem_of_getElem? (i := 0) rfl)))
  have hz : ¬ (z = (0 : Int32)) := gotF (Cond.eq_ints ez (Term.int_eval (0))) n3
  have SFr := Cond.before_iff.mp (hsets _ (List.mem_of_getElem? (i := 8) rfl))
  obtain ⟨fq, efq, hfq⟩ := isR_v SFr
  have SF : Sta s s.heap "jdk/internal/util/Preconditions" "SIOOBE_FORMATTER" "Ljava/util/function/BiFunction;" fq := Sta.start efq (Or.inl (hsets _ (List.mem_of_getElem? (i := 7) rfl)))
  have UA : Sta s s.heap "java/lang/StringUTF16" "$assertionsDisabled" "Z" (.int (1 : Int32)) := Sta.start (eqv_i rfl (Cond.before_iff.mp (hsets _ (List.mem_of_getElem? (i := 12) rfl)))) (Or.inl (hsets _ (List.mem_of_getElem? (i := 11) rfl)))
  have UH : Sta s s.heap "java/lang/StringUTF16" "HI_BYTE_SHIFT" "I" (.int (0 : Int32)) := Sta.start (eqv_i rfl (Cond.before_iff.mp (hsets _ (List.mem_of_getElem? (i := 15) rfl)))) (Or.inl (hsets _ (List.mem_of_getElem? (i := 14) rfl)))
  have UL : Sta s s.heap "java/lang/StringUTF16" "LO_BYTE_SHIFT" "I" (.int (8 : Int32)) := Sta.start (eqv_i rfl (Cond.before_iff.mp (hsets _ (List.mem_of_getElem? (i := 18) rfl)))) (Or.inl (hsets _ (List.mem_of_getElem? (i := 17) rfl)))
  have hE : EW s _ [("java/lang/String", 7)] := EW.cons (hw _ (List.mem_of_getElem? (i := 19) rfl)) (by decide) EW.nil
  have M := metW_of (ws := []) (os := []) (wsT := tables_1) (as := #[(.int x0), (.int x1), (.int x2), (.int x3)]) (Ls := #[.val (.int x0), .val (.int x1), .val (.int x2), .val (.int x3), .unset, .unset, .unset, .unset, .unset, .unset]) (d := "(IIII)Z") (plainFor_of_name pn_2) (by intro m; first | (simp [entryFrame, mkF, argsToLocals, Value.category, maxLocals]; done) | rfl) ⟨Nat.le_refl _, fun _ _ q => q⟩ (fun _ z => nomatch z) ⟨_, hE⟩ l (own_law s _ hw hE x0 x1 x2 x3 _ rfl (own_r4 _) z hz SS UA UH UL fq hfq SF)
  obtain ⟨n, o, h1, h2, h3, v, L, rfl, ⟨N, -, rfl⟩, -, hq⟩ := M p e ha hc hk s m _ below hf ((Spec.applies_iff_loose hf).mp happ).1 ⟨rfl, State.Warmed39.refl s, rfl, (CHv.start (a0 := #[]) hE hcalls.1 (Cond.before_iff.mpr (Cond.before_iff.mp (hsets _ (List.mem_of_getElem? (i := 2) rfl)))) (hw _ (List.mem_of_getElem? (i := 20) rfl)) (hw _ (List.mem_of_getElem? (i := 6) rfl))), fun _ z => nomatch z⟩ trivial
  refine ⟨n, _, h1, h2, h3, hpost _ _ _ _ _ _ ⟨Cond.after_iff.mpr rfl, Cond.after_iff.mpr (eq_i res_at (Term.int_eval (1)) rfl), trivial⟩ ⟨hq.1, hq.2.1, hq.2.2.1, (hq.2.2.2.sift fun y hy => Or.inr (N y hy)).mono (by decide) (by decide)⟩⟩
theorem main_1_1 : Claimed_1_1 := comes_1 fun _ _ _ _ _ _ h hF => ⟨h.1, hF⟩
theorem main_1_2 : Claimed_1_2 := comes_1 fun _ _ _ _ _ _ h hF => ⟨h.2.1, hF⟩
end Jvm.Pilot.@@N@@
namespace Jvm.Pilot.@@N@@
open Jvm Jvm.ClassFile Sem Op Lib Jvm.Free Jvm.Stand Jvm.Pilot.@@N@@.Jvm.D
/-! MADE BY PROGRAM (witnessworld.py) out of the Statement's table words and the real class files: 21 classes; the members and pool entries that the words name. The judged class is class 1, her method 3. -/
namespace start1
open Jvm.ClassFile
def u (s : String) : CpInfo := .utf8 (stringToUtf16 s)
/-- a pool by its gaps: so many unusable entries, then the entry; so many at the end -/
def gap : Nat → List CpInfo → List CpInfo
  | 0, r => r
  | n + 1, r => .unusable :: gap n r
def poolList (es : List (Nat × CpInfo)) (last : Nat) : List CpInfo := es.foldr (fun e r => gap e.1 (e.2 :: r)) (gap last [])
def pool (es : List (Nat × CpInfo)) (last : Nat) : Array CpInfo := ⟨poolList es last⟩
def fileOf (pool : Array CpInfo) (this : Nat) (attrs : Array Attribute := #[]) (ms : Array MethodInfo := #[]) (fl : Nat := 33) (sup : Nat := 0) (ifs : Array Nat := #[]) (fds : Array FieldInfo := #[]) : ClassFile where
  minorVersion := 0
  majorVersion := 65
  constantPool := pool
  accessFlags := fl
  thisClass := this
  superClass := sup
  interfaces := ifs
  fields := fds
  methods := ms
  attributes := attrs
def plain (name : String) (sup : Option ClassId) : Class where
  name := name
  kind := .ordinary
  loader := none
  accessFlags := 33
  super := sup
  interfaces := #[]
  cf := none
  fields := #[]
  methods := #[]
  instanceTypes := #[]
  staticTypes := #[]
  resolved := #[]
  callSites := []
  init := .initialized
  statics := none
  mirror := none

def pool0 : Array CpInfo := pool [(5, u "<init>"), (0, u "()V"), (1, .class_ 10), (1, u "java/lang/Object")] 113

def k0c0 : Code := { maxStack := 0, maxLocals := 1, code := object_method_1_code, exceptionTable := #[], attributes := #[] }
def k0m0 : Method := { name := "<init>", desc := "()V", sig := { parameters := [], returnType := none }, accessFlags := 1, code := some k0c0 }
/-- java/lang/Object -/
def k0 : Class := { plain "java/lang/Object" none with
  accessFlags := 33
  interfaces := #[]
  cf := some (fileOf pool0 8 #[] #[{ accessFlags := 1, nameIndex := 5, descriptorIndex := 6, attributes := #[] }] 33 0 #[] #[])
  fields := #[]
  methods := #[k0m0]
  instanceTypes := #[]
  staticTypes := #[]
  resolved := Array.replicate 124 none
  statics := none }

def pool1 : Array CpInfo := pool [(2, .class_ 4), (1, u "java/lang/Object"), (0, u "<init>"), (0, u "()V"), (0, .integer 65535), (0, .methodref 9 10), (0, .class_ 11), (0, .nameAndType 12 13), (0, u "com/example/fleet_quant/fleetquant/io/TableCellsCanHoldPinLaw"), (0, u "draw"), (0, u "(I)C"), (0, .class_ 15), (0, u "java/lang/String"), (0, .methodref 14 17), (0, .nameAndType 5 18), (0, u "([C)V"), (0, .methodref 9 20), (0, .nameAndType 21 22), (0, u "ok"), (0, u "(C)Z"), (0, .methodref 24 25), (0, .class_ 26), (0, .nameAndType 27 28), (0, u "com/example/fleet_quant/fleetquant/io/TableCells"), (0, u "canHold"), (0, u "(Ljava/lang/String;)Z"), (3, u "law"), (0, u "(IIII)Z")] 2

def k1m0 : Method := { name := "<init>", desc := "()V", sig := { parameters := [], returnType := none }, accessFlags := 2, code := none }
def k1c1 : Code := { maxStack := 2, maxLocals := 3, code := method_2_code, exceptionTable := #[], attributes := #[] }
def k1m1 : Method := { name := "draw", desc := "(I)C", sig := { parameters := [.int], returnType := some .char }, accessFlags := 10, code := some k1c1 }
def k1c2 : Code := { maxStack := 2, maxLocals := 1, code := method_3_code, exceptionTable := #[], attributes := #[] }
def k1m2 : Method := { name := "ok", desc := "(C)Z", sig := { parameters := [.char], returnType := some .boolean }, accessFlags := 10, code := some k1c2 }
def k1c3 : Code := { maxStack := 6, maxLocals := 10, code := code, exceptionTable := #[], attributes := #[] }
def k1m3 : Method := { name := "law", desc := "(IIII)Z", sig := { parameters := [.int, .int, .int, .int], returnType := some .boolean }, accessFlags := 9, code := some k1c3 }
/-- com/example/fleet_quant/fleetquant/io/TableCellsCanHoldPinLaw -/
def k1 : Class := { plain "com/example/fleet_quant/fleetquant/io/TableCellsCanHoldPinLaw" (some 0) with
  accessFlags := 49
  interfaces := #[]
  cf := some (fileOf pool1 9 #[] #[{ accessFlags := 2, nameIndex := 5, descriptorIndex := 6, attributes := #[] }, { accessFlags := 10, nameIndex := 12, descriptorIndex := 13, attributes := #[] }, { accessFlags := 10, nameIndex := 21, descriptorIndex := 22, attributes := #[] }, { accessFlags := 9, nameIndex := 32, descriptorIndex := 33, attributes := #[] }] 49 2 #[] #[])
  fields := #[]
  methods := #[k1m0, k1m1, k1m2, k1m3]
  instanceTypes := #[]
  staticTypes := #[]
  resolved := Array.replicate 36 none
  statics := none }

def pool2 : Array CpInfo := pool [(1, .class_ 2), (0, u "java/io/Serializable"), (0, .class_ 4), (0, u "java/lang/Object")] 2

/-- java/io/Serializable -/
def k2 : Class := { plain "java/io/Serializable" (some 0) with
  accessFlags := 1537
  interfaces := #[]
  cf := some (fileOf pool2 1 #[] #[] 1537 3 #[] #[])
  fields := #[]
  methods := #[]
  instanceTypes := #[]
  staticTypes := #[]
  resolved := Array.replicate 7 none
  statics := none }

def pool3 : Array CpInfo := pool [(1, .class_ 2), (0, u "java/lang/Comparable"), (0, .class_ 4), (0, u "java/lang/Object")] 7

/-- java/lang/Comparable -/
def k3 : Class := { plain "java/lang/Comparable" (some 0) with
  accessFlags := 1537
  interfaces := #[]
  cf := some (fileOf pool3 1 #[] #[] 1537 3 #[] #[])
  fields := #[]
  methods := #[]
  instanceTypes := #[]
  staticTypes := #[]
  resolved := Array.replicate 12 none
  statics := none }

def pool4 : Array CpInfo := pool [(2, .class_ 4), (1, u "java/lang/CharSequence"), (42, .class_ 48), (0, u "java/lang/CharSequence$1CodePointIterator"), (10, .class_ 60), (0, u "java/lang/CharSequence$1CharIterator"), (5, .class_ 67), (0, u "java/lang/Object")] 63

/-- java/lang/CharSequence -/
def k4 : Class := { plain "java/lang/CharSequence" (some 0) with
  accessFlags := 1537
  interfaces := #[]
  cf := some (fileOf pool4 2 #[.nestMembers #[47, 59]] #[] 1537 66 #[] #[])
  fields := #[]
  methods := #[]
  instanceTypes := #[]
  staticTypes := #[]
  resolved := Array.replicate 131 none
  statics := none }

def pool5 : Array CpInfo := pool [(1, .class_ 2), (0, u "java/lang/constant/Constable"), (0, .class_ 4), (0, u "java/lang/Object")] 6

/-- java/lang/constant/Constable -/
def k5 : Class := { plain "java/lang/constant/Constable" (some 0) with
  accessFlags := 1537
  interfaces := #[]
  cf := some (fileOf pool5 1 #[] #[] 1537 3 #[] #[])
  fields := #[]
  methods := #[]
  instanceTypes := #[]
  staticTypes := #[]
  resolved := Array.replicate 11 none
  statics := none }

def pool6 : Array CpInfo := pool [(1, .class_ 2), (0, u "java/lang/constant/ConstantDesc"), (0, .class_ 4), (0, u "java/lang/Object")] 32

/-- java/lang/constant/ConstantDesc -/
def k6 : Class := { plain "java/lang/constant/ConstantDesc" (some 0) with
  accessFlags := 1537
  interfaces := #[]
  cf := some (fileOf pool6 1 #[] #[] 1537 3 #[] #[])
  fields := #[]
  methods := #[]
  instanceTypes := #[]
  staticTypes := #[]
  resolved := Array.replicate 37 none
  statics := none }

def pool7 : Array CpInfo := pool [(1, .methodref 2 3), (0, .class_ 4), (0, .nameAndType 5 6), (0, u "java/lang/Object"), (0, u "<init>"), (0, u "()V"), (0, .string 8), (0, u ""), (0, .fieldref 10 11), (0, .class_ 12), (0, .nameAndType 13 14), (0, u "java/lang/String"), (0, u "value"), (0, u "[B"), (0, .fieldref 10 16), (0, .nameAndType 17 18), (0, u "coder"), (0, u "B"), (2, u "hash"), (0, u "I"), (2, u "hashIsZero"), (0, u "Z"), (0, .methodref 10 28), (0, .nameAndType 5 29), (0, u "([CIILjava/lang/Void;)V"), (8, .fieldref 10 39), (0, .nameAndType 40 26), (0, u "COMPACT_STRINGS"), (1, .class_ 44), (1, u "java/lang/StringUTF16"), (0, u "compress"), (1, .methodref 42 48), (0, .nameAndType 49 50), (0, u "coderFromArrayLen"), (0, u "([BI)B"), (56, .class_ 109), (1, u "java/lang/StringLatin1"), (32, u "()Z"), (34, .methodref 42 178), (0, .nameAndType 45 179), (0, u "([CII)[B"), (154, u "()I"), (0, .methodref 10 336), (0, .nameAndType 17 337), (0, u "()B"), (154, .methodref 10 493), (0, .nameAndType 494 142), (0, u "isLatin1"), (10, .methodref 10 506), (0, .nameAndType 507 334), (0, u "length"), (5, u "checkFromToIndex"), (9, u "checkBoundsBeginEnd"), (0, u "(III)V"), (50, .class_ 576), (0, u "java/lang/CharSequence"), (22, u "CASE_INSENSITIVE_ORDER"), (0, u "Ljava/util/Comparator;"), (32, .methodref 10 634), (0, .nameAndType 635 636), (0, u "indexOf"), (0, u "(II)I"), (0, .methodref 107 638), (0, .nameAndType 635 639), (0, u "([BIII)I"), (0, .methodref 42 638), (124, u "(I)I"), (244, u "([C)V"), (42, .fieldref 1054 1055), (0, .class_ 1056), (0, .nameAndType 1057 1058), (0, u "jdk/internal/util/Preconditions"), (0, u "SIOOBE_FORMATTER"), (0, u "Ljava/util/function/BiFunction;"), (3, .methodref 1054 1063), (0, .nameAndType 513 1064), (0, u "(IIILjava/util/function/BiFunction;)I"), (36, u "serialPersistentFields"), (0, u "[Ljava/io/ObjectStreamField;"), (0, .class_ 1104), (0, u "java/lang/String$CaseInsensitiveComparator"), (1, .class_ 1107), (0, u "java/io/Serializable"), (0, .class_ 1109), (0, u "java/lang/Comparable"), (0, .class_ 1111), (0, u "java/lang/constant/Constable"), (0, .class_ 1113), (0, u "java/lang/constant/ConstantDesc"), (2, u "serialVersionUID"), (0, u "J"), (3, u "REPL"), (0, u "C"), (2, u "LATIN1"), (1, u "UTF16")] 323

def k7m0 : Method := { name := "<init>", desc := "()V", sig := { parameters := [], returnType := none }, accessFlags := 1, code := none }
def k7c1 : Code := { maxStack := 5, maxLocals := 2, code := jdk_42_method_3_code, exceptionTable := #[], attributes := #[] }
def k7m1 : Method := { name := "<init>", desc := "([C)V", sig := { parameters := [(.array .char)], returnType := none }, accessFlags := 1, code := some k7c1 }
def k7c2 : Code := { maxStack := 2, maxLocals := 1, code := jdk_42_method_54_code, exceptionTable := #[], attributes := #[] }
def k7m2 : Method := { name := "length", desc := "()I", sig := { parameters := [], returnType := some .int }, accessFlags := 1, code := some k7c2 }
def k7c3 : Code := { maxStack := 3, maxLocals := 2, code := jdk_42_method_79_code, exceptionTable := #[], attributes := #[] }
def k7m3 : Method := { name := "indexOf", desc := "(I)I", sig := { parameters := [.int], returnType := some .int }, accessFlags := 1, code := some k7c3 }
def k7c4 : Code := { maxStack := 4, maxLocals := 3, code := jdk_42_method_80_code, exceptionTable := #[], attributes := #[] }
def k7m4 : Method := { name := "indexOf", desc := "(II)I", sig := { parameters := [.int, .int], returnType := some .int }, accessFlags := 1, code := some k7c4 }
def k7c5 : Code := { maxStack := 4, maxLocals := 6, code := jdk_42_method_149_code, exceptionTable := #[], attributes := #[] }
def k7m5 : Method := { name := "<init>", desc := "([CIILjava/lang/Void;)V", sig := { parameters := [(.array .char), .int, .int, (.object "java/lang/Void")], returnType := none }, accessFlags := 2, code := some k7c5 }
def k7c6 : Code := { maxStack := 1, maxLocals := 1, code := jdk_42_method_152_code, exceptionTable := #[], attributes := #[] }
def k7m6 : Method := { name := "coder", desc := "()B", sig := { parameters := [], returnType := some .byte }, accessFlags := 0, code := some k7c6 }
def k7c7 : Code := { maxStack := 1, maxLocals := 1, code := jdk_42_method_154_code, exceptionTable := #[], attributes := #[] }
def k7m7 : Method := { name := "isLatin1", desc := "()Z", sig := { parameters := [], returnType := some .boolean }, accessFlags := 0, code := some k7c7 }
def k7c8 : Code := { maxStack := 4, maxLocals := 3, code := jdk_42_method_158_code, exceptionTable := #[], attributes := #[] }
def k7m8 : Method := { name := "checkBoundsBeginEnd", desc := "(III)V", sig := { parameters := [.int, .int, .int], returnType := none }, accessFlags := 8, code := some k7c8 }
/-- java/lang/String -/
def k7 : Class := { plain "java/lang/String" (some 0) with
  accessFlags := 49
  interfaces := #[2, 3, 4, 5, 6]
  cf := some (fileOf pool7 10 #[.nestMembers #[1103]] #[{ accessFlags := 1, nameIndex := 5, descriptorIndex := 6, attributes := #[] }, { accessFlags := 1, nameIndex := 5, descriptorIndex := 1010, attributes := #[] }, { accessFlags := 1, nameIndex := 507, descriptorIndex := 334, attributes := #[] }, { accessFlags := 1, nameIndex := 635, descriptorIndex := 765, attributes := #[] }, { accessFlags := 1, nameIndex := 635, descriptorIndex := 636, attributes := #[] }, { accessFlags := 2, nameIndex := 5, descriptorIndex := 29, attributes := #[] }, { accessFlags := 0, nameIndex := 17, descriptorIndex := 337, attributes := #[] }, { accessFlags := 0, nameIndex := 494, descriptorIndex := 142, attributes := #[] }, { accessFlags := 8, nameIndex := 523, descriptorIndex := 524, attributes := #[] }] 49 2 #[1106, 1108, 575, 1110, 1112] #[{ accessFlags := 18, nameIndex := 13, descriptorIndex := 14, attributes := #[] }, { accessFlags := 18, nameIndex := 17, descriptorIndex := 18, attributes := #[] }, { accessFlags := 2, nameIndex := 21, descriptorIndex := 22, attributes := #[] }, { accessFlags := 2, nameIndex := 25, descriptorIndex := 26, attributes := #[] }, { accessFlags := 26, nameIndex := 1116, descriptorIndex := 1117, attributes := #[] }, { accessFlags := 24, nameIndex := 40, descriptorIndex := 26, attributes := #[] }, { accessFlags := 26, nameIndex := 1101, descriptorIndex := 1102, attributes := #[] }, { accessFlags := 26, nameIndex := 1121, descriptorIndex := 1122, attributes := #[] }, { accessFlags := 25, nameIndex := 599, descriptorIndex := 600, attributes := #[] }, { accessFlags := 24, nameIndex := 1125, descriptorIndex := 18, attributes := #[] }, { accessFlags := 24, nameIndex := 1127, descriptorIndex := 18, attributes := #[] }])
  fields := #[{ name := "value", type := (.array .byte), accessFlags := 18, slot := 0, constantValue := 0 }, { name := "coder", type := .byte, accessFlags := 18, slot := 1, constantValue := 0 }, { name := "hash", type := .int, accessFlags := 2, slot := 2, constantValue := 0 }, { name := "hashIsZero", type := .boolean, accessFlags := 2, slot := 3, constantValue := 0 }, { name := "serialVersionUID", type := .long, accessFlags := 26, slot := 0, constantValue := 0 }, { name := "COMPACT_STRINGS", type := .boolean, accessFlags := 24, slot := 1, constantValue := 0 }, { name := "serialPersistentFields", type := (.array (.object "java/io/ObjectStreamField")), accessFlags := 26, slot := 2, constantValue := 0 }, { name := "REPL", type := .char, accessFlags := 26, slot := 3, constantValue := 0 }, { name := "CASE_INSENSITIVE_ORDER", type := (.object "java/util/Comparator"), accessFlags := 25, slot := 4, constantValue := 0 }, { name := "LATIN1", type := .byte, accessFlags := 24, slot := 5, constantValue := 0 }, { name := "UTF16", type := .byte, accessFlags := 24, slot := 6, constantValue := 0 }]
  methods := #[k7m0, k7m1, k7m2, k7m3, k7m4, k7m5, k7m6, k7m7, k7m8]
  instanceTypes := #[(.array .byte), .byte, .int, .boolean]
  staticTypes := #[.long, .boolean, (.array (.object "java/io/ObjectStreamField")), .char, (.object "java/util/Comparator"), .byte, .byte]
  resolved := Array.replicate 1451 none
  statics := some 0 }

def pool8 : Array CpInfo := pool [(2, .class_ 4), (1, u "java/lang/Object"), (0, u "<init>"), (0, u "()V"), (0, .methodref 8 9), (0, .class_ 10), (0, .nameAndType 11 12), (0, u "java/lang/String"), (0, u "indexOf"), (0, u "(I)I"), (1, .class_ 16), (1, u "com/example/fleet_quant/fleetquant/io/TableCells"), (0, u "canHold"), (0, u "(Ljava/lang/String;)Z"), (5, u "NA"), (42, u "Ljava/lang/String;")] 31

def k8m0 : Method := { name := "<init>", desc := "()V", sig := { parameters := [], returnType := none }, accessFlags := 2, code := none }
def k8c1 : Code := { maxStack := 2, maxLocals := 1, code := prog_28_method_2_code, exceptionTable := #[], attributes := #[] }
def k8m1 : Method := { name := "canHold", desc := "(Ljava/lang/String;)Z", sig := { parameters := [(.object "java/lang/String")], returnType := some .boolean }, accessFlags := 9, code := some k8c1 }
/-- com/example/fleet_quant/fleetquant/io/TableCells -/
def k8 : Class := { plain "com/example/fleet_quant/fleetquant/io/TableCells" (some 0) with
  accessFlags := 49
  interfaces := #[]
  cf := some (fileOf pool8 14 #[] #[{ accessFlags := 2, nameIndex := 5, descriptorIndex := 6, attributes := #[] }, { accessFlags := 9, nameIndex := 17, descriptorIndex := 18, attributes := #[] }] 49 2 #[] #[{ accessFlags := 25, nameIndex := 24, descriptorIndex := 67, attributes := #[] }])
  fields := #[{ name := "NA", type := (.object "java/lang/String"), accessFlags := 25, slot := 0, constantValue := 0 }]
  methods := #[k8m0, k8m1]
  instanceTypes := #[]
  staticTypes := #[(.object "java/lang/String")]
  resolved := Array.replicate 99 none
  statics := none }

def pool9 : Array CpInfo := pool [(4, .class_ 6), (1, u "java/lang/Object"), (0, u "<init>"), (0, u "()V"), (5, .class_ 16), (1, u "java/lang/StringLatin1"), (21, .methodref 39 40), (0, .class_ 41), (0, .nameAndType 42 43), (0, u "java/lang/Math"), (0, u "min"), (0, u "(II)I"), (44, .methodref 14 89), (0, .nameAndType 90 91), (0, u "canEncode"), (0, u "(I)Z"), (0, .methodref 39 93), (0, .nameAndType 94 43), (0, u "max"), (0, .methodref 14 96), (0, .nameAndType 97 98), (0, u "indexOfChar"), (0, u "([BIII)I"), (2, u "indexOf"), (19, u "$assertionsDisabled"), (0, u "Z"), (98, .class_ 223), (1, u "java/lang/StringLatin1$LinesSpliterator"), (166, .class_ 391), (0, u "java/lang/StringLatin1$CharsSpliterator")] 3

def k9m0 : Method := { name := "<init>", desc := "()V", sig := { parameters := [], returnType := none }, accessFlags := 0, code := none }
def k9c1 : Code := { maxStack := 2, maxLocals := 1, code := jdk_43_method_4_code, exceptionTable := #[], attributes := #[] }
def k9m1 : Method := { name := "canEncode", desc := "(I)Z", sig := { parameters := [.int], returnType := some .boolean }, accessFlags := 9, code := some k9c1 }
def k9c2 : Code := { maxStack := 4, maxLocals := 4, code := jdk_43_method_22_code, exceptionTable := #[], attributes := #[] }
def k9m2 : Method := { name := "indexOf", desc := "([BIII)I", sig := { parameters := [(.array .byte), .int, .int, .int], returnType := some .int }, accessFlags := 9, code := some k9c2 }
def k9c3 : Code := { maxStack := 2, maxLocals := 6, code := jdk_43_method_23_code, exceptionTable := #[], attributes := #[] }
def k9m3 : Method := { name := "indexOfChar", desc := "([BIII)I", sig := { parameters := [(.array .byte), .int, .int, .int], returnType := some .int }, accessFlags := 10, code := some k9c3 }
/-- java/lang/StringLatin1 -/
def k9 : Class := { plain "java/lang/StringLatin1" (some 0) with
  accessFlags := 48
  interfaces := #[]
  cf := some (fileOf pool9 14 #[.nestMembers #[390, 221]] #[{ accessFlags := 0, nameIndex := 7, descriptorIndex := 8, attributes := #[] }, { accessFlags := 9, nameIndex := 90, descriptorIndex := 91, attributes := #[] }, { accessFlags := 9, nameIndex := 101, descriptorIndex := 98, attributes := #[] }, { accessFlags := 10, nameIndex := 97, descriptorIndex := 98, attributes := #[] }] 48 4 #[] #[{ accessFlags := 4120, nameIndex := 121, descriptorIndex := 122, attributes := #[] }])
  fields := #[{ name := "$assertionsDisabled", type := .boolean, accessFlags := 4120, slot := 0, constantValue := 0 }]
  methods := #[k9m0, k9m1, k9m2, k9m3]
  instanceTypes := #[]
  staticTypes := #[.boolean]
  resolved := Array.replicate 395 none
  statics := none }

def pool10 : Array CpInfo := pool [(1, .class_ 2), (0, u "java/lang/Math"), (1, .class_ 6), (1, u "java/lang/Object"), (0, u "<init>"), (0, u "()V"), (89, .class_ 100), (1, u "java/lang/Math$RandomNumberGeneratorHolder"), (71, u "negativeZeroFloatBits"), (0, u "J"), (2, u "negativeZeroDoubleBits"), (21, u "max"), (2, u "min"), (43, u "$assertionsDisabled"), (0, u "Z"), (88, u "(II)I"), (2, u "twoToTheDoubleScaleDown"), (0, u "D"), (4, u "twoToTheDoubleScaleUp"), (9, u "E"), (3, u "PI"), (2, u "TAU"), (2, u "DEGREES_TO_RADIANS"), (0, u "RADIANS_TO_DEGREES")] 94

def k10m0 : Method := { name := "<init>", desc := "()V", sig := { parameters := [], returnType := none }, accessFlags := 2, code := none }
def k10c1 : Code := { maxStack := 2, maxLocals := 2, code := jdk_29_method_65_code, exceptionTable := #[], attributes := #[] }
def k10m1 : Method := { name := "max", desc := "(II)I", sig := { parameters := [.int, .int], returnType := some .int }, accessFlags := 9, code := some k10c1 }
def k10c2 : Code := { maxStack := 2, maxLocals := 2, code := jdk_29_method_69_code, exceptionTable := #[], attributes := #[] }
def k10m2 : Method := { name := "min", desc := "(II)I", sig := { parameters := [.int, .int], returnType := some .int }, accessFlags := 9, code := some k10c2 }
/-- java/lang/Math -/
def k10 : Class := { plain "java/lang/Math" (some 0) with
  accessFlags := 49
  interfaces := #[]
  cf := some (fileOf pool10 1 #[.nestMembers #[98]] #[{ accessFlags := 2, nameIndex := 7, descriptorIndex := 8, attributes := #[] }, { accessFlags := 9, nameIndex := 198, descriptorIndex := 335, attributes := #[] }, { accessFlags := 9, nameIndex := 201, descriptorIndex := 335, attributes := #[] }] 49 4 #[] #[{ accessFlags := 25, nameIndex := 354, descriptorIndex := 339, attributes := #[] }, { accessFlags := 25, nameIndex := 358, descriptorIndex := 339, attributes := #[] }, { accessFlags := 25, nameIndex := 361, descriptorIndex := 339, attributes := #[] }, { accessFlags := 26, nameIndex := 364, descriptorIndex := 339, attributes := #[] }, { accessFlags := 26, nameIndex := 365, descriptorIndex := 339, attributes := #[] }, { accessFlags := 26, nameIndex := 172, descriptorIndex := 173, attributes := #[] }, { accessFlags := 26, nameIndex := 176, descriptorIndex := 173, attributes := #[] }, { accessFlags := 8, nameIndex := 344, descriptorIndex := 339, attributes := #[] }, { accessFlags := 8, nameIndex := 338, descriptorIndex := 339, attributes := #[] }, { accessFlags := 4120, nameIndex := 245, descriptorIndex := 246, attributes := #[] }])
  fields := #[{ name := "E", type := .double, accessFlags := 25, slot := 0, constantValue := 0 }, { name := "PI", type := .double, accessFlags := 25, slot := 1, constantValue := 0 }, { name := "TAU", type := .double, accessFlags := 25, slot := 2, constantValue := 0 }, { name := "DEGREES_TO_RADIANS", type := .double, accessFlags := 26, slot := 3, constantValue := 0 }, { name := "RADIANS_TO_DEGREES", type := .double, accessFlags := 26, slot := 4, constantValue := 0 }, { name := "negativeZeroFloatBits", type := .long, accessFlags := 26, slot := 5, constantValue := 0 }, { name := "negativeZeroDoubleBits", type := .long, accessFlags := 26, slot := 6, constantValue := 0 }, { name := "twoToTheDoubleScaleUp", type := .double, accessFlags := 8, slot := 7, constantValue := 0 }, { name := "twoToTheDoubleScaleDown", type := .double, accessFlags := 8, slot := 8, constantValue := 0 }, { name := "$assertionsDisabled", type := .boolean, accessFlags := 4120, slot := 9, constantValue := 0 }]
  methods := #[k10m0, k10m1, k10m2]
  instanceTypes := #[]
  staticTypes := #[.double, .double, .double, .double, .double, .long, .long, .double, .double, .boolean]
  resolved := Array.replicate 460 none
  statics := none }

def pool11 : Array CpInfo := pool [(3, .class_ 4), (0, u "java/lang/String"), (1, .class_ 8), (1, u "java/lang/Object"), (0, u "<init>"), (0, u "()V"), (0, .methodref 12 13), (0, .class_ 14), (0, .nameAndType 15 16), (0, u "java/lang/StringUTF16"), (0, u "newBytesLength"), (0, u "(I)I"), (3, .integer 1073741823), (23, .fieldref 12 45), (0, .nameAndType 46 47), (0, u "$assertionsDisabled"), (0, u "Z"), (0, .methodref 12 49), (0, .nameAndType 50 51), (0, u "length"), (0, u "([B)I"), (7, .fieldref 12 60), (0, .nameAndType 61 62), (0, u "HI_BYTE_SHIFT"), (0, u "I"), (0, .fieldref 12 64), (0, .nameAndType 65 62), (0, u "LO_BYTE_SHIFT"), (5, .methodref 12 72), (0, .nameAndType 73 74), (0, u "getChar"), (0, u "([BI)C"), (21, .methodref 12 97), (0, .nameAndType 98 99), (0, u "checkBoundsBeginEnd"), (0, u "(II[B)V"), (7, .methodref 12 108), (0, .nameAndType 109 110), (0, u "newBytesFor"), (0, u "(I)[B"), (0, .methodref 12 112), (0, .nameAndType 113 114), (0, u "putChar"), (0, u "([BII)V"), (0, .methodref 12 116), (0, .nameAndType 117 118), (0, u "compress"), (0, u "([CI[BII)I"), (0, .methodref 12 120), (0, .nameAndType 121 122), (0, u "toBytes"), (0, u "([CII)[B"), (60, .methodref 184 185), (0, .class_ 186), (0, .nameAndType 187 188), (0, u "java/lang/Math"), (0, u "min"), (0, u "(II)I"), (35, .methodref 184 225), (0, .nameAndType 226 188), (0, u "max"), (0, .integer 65536), (0, .methodref 12 229), (0, .nameAndType 230 231), (0, u "indexOfChar"), (0, u "([BIII)I"), (9, .methodref 3 242), (0, .nameAndType 98 243), (0, u "(III)V"), (0, .methodref 12 245), (0, .nameAndType 246 231), (0, u "indexOfCharUnsafe"), (14, u "coderFromArrayLen"), (0, u "([BI)B"), (5, u "indexOf"), (100, .class_ 371), (1, u "java/lang/StringUTF16$LinesSpliterator"), (58, u "MAX_LENGTH"), (196, .class_ 628), (0, u "java/lang/StringUTF16$CodePointsSpliterator"), (0, .class_ 630), (0, u "java/lang/StringUTF16$CharsSpliterator")] 4

def k11m0 : Method := { name := "<init>", desc := "()V", sig := { parameters := [], returnType := none }, accessFlags := 0, code := none }
def k11c1 : Code := { maxStack := 1, maxLocals := 1, code := jdk_52_method_2_code, exceptionTable := #[], attributes := #[] }
def k11m1 : Method := { name := "newBytesFor", desc := "(I)[B", sig := { parameters := [.int], returnType := some (.array .byte) }, accessFlags := 9, code := some k11c1 }
def k11c2 : Code := { maxStack := 4, maxLocals := 1, code := jdk_52_method_3_code, exceptionTable := #[], attributes := #[] }
def k11m2 : Method := { name := "newBytesLength", desc := "(I)I", sig := { parameters := [.int], returnType := some .int }, accessFlags := 9, code := some k11c2 }
def k11c3 : Code := { maxStack := 4, maxLocals := 3, code := jdk_52_method_4_code, exceptionTable := #[], attributes := #[] }
def k11m3 : Method := { name := "putChar", desc := "([BII)V", sig := { parameters := [(.array .byte), .int, .int], returnType := none }, accessFlags := 8, code := some k11c3 }
def k11c4 : Code := { maxStack := 3, maxLocals := 2, code := jdk_52_method_5_code, exceptionTable := #[], attributes := #[] }
def k11m4 : Method := { name := "getChar", desc := "([BI)C", sig := { parameters := [(.array .byte), .int], returnType := some .char }, accessFlags := 8, code := some k11c4 }
def k11c5 : Code := { maxStack := 2, maxLocals := 1, code := jdk_52_method_6_code, exceptionTable := #[], attributes := #[] }
def k11m5 : Method := { name := "length", desc := "([B)I", sig := { parameters := [(.array .byte)], returnType := some .int }, accessFlags := 9, code := some k11c5 }
def k11c6 : Code := { maxStack := 4, maxLocals := 5, code := jdk_52_method_14_code, exceptionTable := #[], attributes := #[] }
def k11m6 : Method := { name := "toBytes", desc := "([CII)[B", sig := { parameters := [(.array .char), .int, .int], returnType := some (.array .byte) }, accessFlags := 9, code := some k11c6 }
def k11c7 : Code := { maxStack := 2, maxLocals := 2, code := jdk_52_method_15_code, exceptionTable := #[], attributes := #[] }
def k11m7 : Method := { name := "coderFromArrayLen", desc := "([BI)B", sig := { parameters := [(.array .byte), .int], returnType := some .byte }, accessFlags := 8, code := some k11c7 }
def k11c8 : Code := { maxStack := 5, maxLocals := 6, code := jdk_52_method_16_code, exceptionTable := #[], attributes := #[] }
def k11m8 : Method := { name := "compress", desc := "([CII)[B", sig := { parameters := [(.array .char), .int, .int], returnType := some (.array .byte) }, accessFlags := 9, code := some k11c8 }
def k11c9 : Code := { maxStack := 3, maxLocals := 7, code := jdk_52_method_21_code, exceptionTable := #[], attributes := #[] }
def k11m9 : Method := { name := "compress", desc := "([CI[BII)I", sig := { parameters := [(.array .char), .int, (.array .byte), .int, .int], returnType := some .int }, accessFlags := 9, code := some k11c9 }
def k11c10 : Code := { maxStack := 4, maxLocals := 4, code := jdk_52_method_40_code, exceptionTable := #[], attributes := #[] }
def k11m10 : Method := { name := "indexOf", desc := "([BIII)I", sig := { parameters := [(.array .byte), .int, .int, .int], returnType := some .int }, accessFlags := 9, code := some k11c10 }
def k11c11 : Code := { maxStack := 4, maxLocals := 4, code := jdk_52_method_47_code, exceptionTable := #[], attributes := #[] }
def k11m11 : Method := { name := "indexOfChar", desc := "([BIII)I", sig := { parameters := [(.array .byte), .int, .int, .int], returnType := some .int }, accessFlags := 10, code := some k11c11 }
def k11c12 : Code := { maxStack := 2, maxLocals := 5, code := jdk_52_method_48_code, exceptionTable := #[], attributes := #[] }
def k11m12 : Method := { name := "indexOfCharUnsafe", desc := "([BIII)I", sig := { parameters := [(.array .byte), .int, .int, .int], returnType := some .int }, accessFlags := 10, code := some k11c12 }
def k11c13 : Code := { maxStack := 3, maxLocals := 3, code := jdk_52_method_93_code, exceptionTable := #[], attributes := #[] }
def k11m13 : Method := { name := "checkBoundsBeginEnd", desc := "(II[B)V", sig := { parameters := [.int, .int, (.array .byte)], returnType := none }, accessFlags := 9, code := some k11c13 }
/-- java/lang/StringUTF16 -/
def k11 : Class := { plain "java/lang/StringUTF16" (some 0) with
  accessFlags := 48
  interfaces := #[]
  cf := some (fileOf pool11 12 #[.nestMembers #[627, 629, 369]] #[{ accessFlags := 0, nameIndex := 9, descriptorIndex := 10, attributes := #[] }, { accessFlags := 9, nameIndex := 109, descriptorIndex := 110, attributes := #[] }, { accessFlags := 9, nameIndex := 15, descriptorIndex := 16, attributes := #[] }, { accessFlags := 8, nameIndex := 113, descriptorIndex := 114, attributes := #[] }, { accessFlags := 8, nameIndex := 73, descriptorIndex := 74, attributes := #[] }, { accessFlags := 9, nameIndex := 50, descriptorIndex := 51, attributes := #[] }, { accessFlags := 9, nameIndex := 121, descriptorIndex := 122, attributes := #[] }, { accessFlags := 8, nameIndex := 261, descriptorIndex := 262, attributes := #[] }, { accessFlags := 9, nameIndex := 117, descriptorIndex := 122, attributes := #[] }, { accessFlags := 9, nameIndex := 117, descriptorIndex := 118, attributes := #[] }, { accessFlags := 9, nameIndex := 268, descriptorIndex := 231, attributes := #[] }, { accessFlags := 10, nameIndex := 230, descriptorIndex := 231, attributes := #[] }, { accessFlags := 10, nameIndex := 246, descriptorIndex := 231, attributes := #[] }, { accessFlags := 9, nameIndex := 98, descriptorIndex := 99, attributes := #[] }] 48 6 #[] #[{ accessFlags := 26, nameIndex := 61, descriptorIndex := 62, attributes := #[] }, { accessFlags := 26, nameIndex := 65, descriptorIndex := 62, attributes := #[] }, { accessFlags := 24, nameIndex := 430, descriptorIndex := 62, attributes := #[] }, { accessFlags := 4120, nameIndex := 46, descriptorIndex := 47, attributes := #[] }])
  fields := #[{ name := "HI_BYTE_SHIFT", type := .int, accessFlags := 26, slot := 0, constantValue := 0 }, { name := "LO_BYTE_SHIFT", type := .int, accessFlags := 26, slot := 1, constantValue := 0 }, { name := "MAX_LENGTH", type := .int, accessFlags := 24, slot := 2, constantValue := 0 }, { name := "$assertionsDisabled", type := .boolean, accessFlags := 4120, slot := 3, constantValue := 0 }]
  methods := #[k11m0, k11m1, k11m2, k11m3, k11m4, k11m5, k11m6, k11m7, k11m8, k11m9, k11m10, k11m11, k11m12, k11m13]
  instanceTypes := #[]
  staticTypes := #[.int, .int, .int, .boolean]
  resolved := Array.replicate 635 none
  statics := some 1 }

def pool12 : Array CpInfo := pool [(2, .class_ 4), (1, u "java/lang/Object"), (0, u "<init>"), (0, u "()V"), (17, .class_ 26), (1, u "jdk/internal/util/Preconditions"), (20, u "checkFromToIndex"), (7, .class_ 56), (0, u "jdk/internal/util/Preconditions$4"), (57, .class_ 115), (0, u "jdk/internal/util/Preconditions$1"), (7, u "SIOOBE_FORMATTER"), (0, u "Ljava/util/function/BiFunction;"), (0, .class_ 126), (0, u "jdk/internal/util/Preconditions$2"), (3, u "AIOOBE_FORMATTER"), (0, .class_ 132), (0, u "jdk/internal/util/Preconditions$3"), (3, u "IOOBE_FORMATTER"), (46, u "(IIILjava/util/function/BiFunction;)I")] 10

def k12m0 : Method := { name := "<init>", desc := "()V", sig := { parameters := [], returnType := none }, accessFlags := 1, code := none }
def k12c1 : Code := { maxStack := 4, maxLocals := 4, code := jdk_41_method_12_code, exceptionTable := #[], attributes := #[] }
def k12m1 : Method := { name := "checkFromToIndex", desc := "(IIILjava/util/function/BiFunction;)I", sig := { parameters := [.int, .int, .int, (.object "java/util/function/BiFunction")], returnType := some .int }, accessFlags := 9, code := some k12c1 }
/-- jdk/internal/util/Preconditions -/
def k12 : Class := { plain "jdk/internal/util/Preconditions" (some 0) with
  accessFlags := 33
  interfaces := #[]
  cf := some (fileOf pool12 24 #[.nestMembers #[55, 131, 125, 114]] #[{ accessFlags := 1, nameIndex := 5, descriptorIndex := 6, attributes := #[] }, { accessFlags := 9, nameIndex := 47, descriptorIndex := 183, attributes := #[] }] 33 2 #[] #[{ accessFlags := 25, nameIndex := 123, descriptorIndex := 124, attributes := #[] }, { accessFlags := 25, nameIndex := 130, descriptorIndex := 124, attributes := #[] }, { accessFlags := 25, nameIndex := 136, descriptorIndex := 124, attributes := #[] }])
  fields := #[{ name := "SIOOBE_FORMATTER", type := (.object "java/util/function/BiFunction"), accessFlags := 25, slot := 0, constantValue := 0 }, { name := "AIOOBE_FORMATTER", type := (.object "java/util/function/BiFunction"), accessFlags := 25, slot := 1, constantValue := 0 }, { name := "IOOBE_FORMATTER", type := (.object "java/util/function/BiFunction"), accessFlags := 25, slot := 2, constantValue := 0 }]
  methods := #[k12m0, k12m1]
  instanceTypes := #[]
  staticTypes := #[(.object "java/util/function/BiFunction"), (.object "java/util/function/BiFunction"), (.object "java/util/function/BiFunction")]
  resolved := Array.replicate 194 none
  statics := some 2 }

def pool13 : Array CpInfo := pool [(9, u "<init>"), (6, .class_ 18), (1, u "java/lang/Object"), (0, u "()V"), (1, .class_ 23), (1, u "jdk/internal/util/ArraysSupport"), (0, u "LOG2_ARRAY_LONG_INDEX_SCALE"), (0, u "I"), (2, u "U"), (0, u "Ljdk/internal/misc/Unsafe;"), (8, u "BIG_ENDIAN"), (0, u "Z"), (8, u "LOG2_BYTE_BIT_SIZE"), (4, u "LOG2_ARRAY_INT_INDEX_SCALE"), (54, u "JLA"), (0, u "Ljdk/internal/access/JavaLangAccess;"), (11, u "LOG2_ARRAY_BOOLEAN_INDEX_SCALE"), (9, u "LOG2_ARRAY_BYTE_INDEX_SCALE"), (5, u "LOG2_ARRAY_CHAR_INDEX_SCALE"), (5, u "LOG2_ARRAY_SHORT_INDEX_SCALE"), (18, u "LOG2_ARRAY_FLOAT_INDEX_SCALE"), (24, u "LOG2_ARRAY_DOUBLE_INDEX_SCALE"), (89, u "T_BOOLEAN"), (2, u "T_CHAR"), (1, u "T_FLOAT"), (1, u "T_DOUBLE"), (1, u "T_BYTE"), (1, u "T_SHORT"), (1, u "T_INT"), (1, u "T_LONG"), (1, u "SOFT_MAX_ARRAY_LENGTH")] 83

def k13m0 : Method := { name := "<init>", desc := "()V", sig := { parameters := [], returnType := none }, accessFlags := 2, code := none }
/-- jdk/internal/util/ArraysSupport -/
def k13 : Class := { plain "jdk/internal/util/ArraysSupport" (some 0) with
  accessFlags := 33
  interfaces := #[]
  cf := some (fileOf pool13 21 #[] #[{ accessFlags := 2, nameIndex := 9, descriptorIndex := 19, attributes := #[] }] 33 16 #[] #[{ accessFlags := 24, nameIndex := 28, descriptorIndex := 29, attributes := #[] }, { accessFlags := 26, nameIndex := 38, descriptorIndex := 39, attributes := #[] }, { accessFlags := 25, nameIndex := 121, descriptorIndex := 25, attributes := #[] }, { accessFlags := 25, nameIndex := 131, descriptorIndex := 25, attributes := #[] }, { accessFlags := 25, nameIndex := 137, descriptorIndex := 25, attributes := #[] }, { accessFlags := 25, nameIndex := 143, descriptorIndex := 25, attributes := #[] }, { accessFlags := 25, nameIndex := 53, descriptorIndex := 25, attributes := #[] }, { accessFlags := 25, nameIndex := 24, descriptorIndex := 25, attributes := #[] }, { accessFlags := 25, nameIndex := 162, descriptorIndex := 25, attributes := #[] }, { accessFlags := 25, nameIndex := 187, descriptorIndex := 25, attributes := #[] }, { accessFlags := 26, nameIndex := 48, descriptorIndex := 25, attributes := #[] }, { accessFlags := 25, nameIndex := 277, descriptorIndex := 25, attributes := #[] }, { accessFlags := 25, nameIndex := 280, descriptorIndex := 25, attributes := #[] }, { accessFlags := 25, nameIndex := 282, descriptorIndex := 25, attributes := #[] }, { accessFlags := 25, nameIndex := 284, descriptorIndex := 25, attributes := #[] }, { accessFlags := 25, nameIndex := 286, descriptorIndex := 25, attributes := #[] }, { accessFlags := 25, nameIndex := 288, descriptorIndex := 25, attributes := #[] }, { accessFlags := 25, nameIndex := 290, descriptorIndex := 25, attributes := #[] }, { accessFlags := 25, nameIndex := 292, descriptorIndex := 25, attributes := #[] }, { accessFlags := 26, nameIndex := 108, descriptorIndex := 109, attributes := #[] }, { accessFlags := 25, nameIndex := 294, descriptorIndex := 25, attributes := #[] }])
  fields := #[{ name := "U", type := (.object "jdk/internal/misc/Unsafe"), accessFlags := 24, slot := 0, constantValue := 0 }, { name := "BIG_ENDIAN", type := .boolean, accessFlags := 26, slot := 1, constantValue := 0 }, { name := "LOG2_ARRAY_BOOLEAN_INDEX_SCALE", type := .int, accessFlags := 25, slot := 2, constantValue := 0 }, { name := "LOG2_ARRAY_BYTE_INDEX_SCALE", type := .int, accessFlags := 25, slot := 3, constantValue := 0 }, { name := "LOG2_ARRAY_CHAR_INDEX_SCALE", type := .int, accessFlags := 25, slot := 4, constantValue := 0 }, { name := "LOG2_ARRAY_SHORT_INDEX_SCALE", type := .int, accessFlags := 25, slot := 5, constantValue := 0 }, { name := "LOG2_ARRAY_INT_INDEX_SCALE", type := .int, accessFlags := 25, slot := 6, constantValue := 0 }, { name := "LOG2_ARRAY_LONG_INDEX_SCALE", type := .int, accessFlags := 25, slot := 7, constantValue := 0 }, { name := "LOG2_ARRAY_FLOAT_INDEX_SCALE", type := .int, accessFlags := 25, slot := 8, constantValue := 0 }, { name := "LOG2_ARRAY_DOUBLE_INDEX_SCALE", type := .int, accessFlags := 25, slot := 9, constantValue := 0 }, { name := "LOG2_BYTE_BIT_SIZE", type := .int, accessFlags := 26, slot := 10, constantValue := 0 }, { name := "T_BOOLEAN", type := .int, accessFlags := 25, slot := 11, constantValue := 0 }, { name := "T_CHAR", type := .int, accessFlags := 25, slot := 12, constantValue := 0 }, { name := "T_FLOAT", type := .int, accessFlags := 25, slot := 13, constantValue := 0 }, { name := "T_DOUBLE", type := .int, accessFlags := 25, slot := 14, constantValue := 0 }, { name := "T_BYTE", type := .int, accessFlags := 25, slot := 15, constantValue := 0 }, { name := "T_SHORT", type := .int, accessFlags := 25, slot := 16, constantValue := 0 }, { name := "T_INT", type := .int, accessFlags := 25, slot := 17, constantValue := 0 }, { name := "T_LONG", type := .int, accessFlags := 25, slot := 18, constantValue := 0 }, { name := "JLA", type := (.object "jdk/internal/access/JavaLangAccess"), accessFlags := 26, slot := 19, constantValue := 0 }, { name := "SOFT_MAX_ARRAY_LENGTH", type := .int, accessFlags := 25, slot := 20, constantValue := 0 }]
  methods := #[k13m0]
  instanceTypes := #[]
  staticTypes := #[(.object "jdk/internal/misc/Unsafe"), .boolean, .int, .int, .int, .int, .int, .int, .int, .int, .int, .int, .int, .int, .int, .int, .int, .int, .int, (.object "jdk/internal/access/JavaLangAccess"), .int]
  resolved := Array.replicate 378 none
  statics := none }

def pool14 : Array CpInfo := pool [(1, u "java/lang/Cloneable"), (0, .class_ 1), (0, u "java/lang/Object"), (0, .class_ 3)] 3

/-- java/lang/Cloneable -/
def k14 : Class := { plain "java/lang/Cloneable" (some 0) with
  accessFlags := 1537
  interfaces := #[]
  cf := some (fileOf pool14 2 #[] #[] 1537 4 #[] #[])
  fields := #[]
  methods := #[]
  instanceTypes := #[]
  staticTypes := #[]
  resolved := Array.replicate 8 none
  statics := none }

/-- the primitive byte -/
def k15 : Class := { plain "byte" none with kind := .primitive 'B', accessFlags := 0x411 }
/-- [B -/
def k16 : Class := { plain "[B" (some 0) with kind := .array 15 .byte, interfaces := #[14, 2], accessFlags := 1041 }

/-- the primitive char -/
def k17 : Class := { plain "char" none with kind := .primitive 'C', accessFlags := 0x411 }
/-- [C -/
def k18 : Class := { plain "[C" (some 0) with kind := .array 17 .char, interfaces := #[14, 2], accessFlags := 1041 }

/-- the primitive int -/
def k19 : Class := { plain "int" none with kind := .primitive 'I', accessFlags := 0x411 }
/-- [I -/
def k20 : Class := { plain "[I" (some 0) with kind := .array 19 .int, interfaces := #[14, 2], accessFlags := 1041 }

def heap : Heap := #[{ cls := 7, slots := #[.long 0, .int 1, .null, .int 0, .null, .int 0, .int 0], vm := .statics 7 },
  { cls := 11, slots := #[.int 0, .int 8, .int 0, .int 1], vm := .statics 11 },
  { cls := 12, slots := #[.null, .null, .null], vm := .statics 12 }]
def classes : Array Class := #[k0, k1, k2, k3, k4, k5, k6, k7, k8, k9, k10, k11, k12, k13, k14, k15, k16, k17, k18, k19, k20]
def interned : List (Array UInt16 × Addr) := []
def slotsUsed : Nat := 14
def theMethod : MethodId := ⟨1, 3⟩
def args0 : Array Value := #[.int 5, .int 3, .int 4, .int 1]
def aboutOver (below : List Frame) : State where
  vm := { classes := classes, interned := interned.toArray }
  heap := heap
  slotsUsed := slotsUsed
  threads := #[{ frames := .invoking theMethod args0 :: below }]
def below0 : List Frame := [.native { method := ⟨0, 0⟩, args := #[] }]
def about1 : State := aboutOver below0
def p0 : Program := .bare "" "" ""
def e0 : Env := launch0.env 0 0 0
theorem w_frames : about1.frames = Frame.invoking theMethod args0 :: below0 := rfl
set_option maxRecDepth 65536 in
theorem w_args : argsFit about1.vm theMethod args0 = true := by decide +kernel
set_option maxRecDepth 65536 in
theorem w_heap : heapFits about1 = true := by decide +kernel
set_option maxRecDepth 65536 in
theorem w_runnable : about1.curStatus? = some .runnable := by decide +kernel
set_option maxRecDepth 65536 in
theorem w_alone : about1.alone = true := by decide +kernel
set_option maxRecDepth 65536 in
theorem w_named : about1.methodNamed? x = some theMethod := by decide +kernel
set_option maxRecDepth 65536 in
theorem w_hears : about1.hears theMethod below0 = true := by decide +kernel
set_option maxRecDepth 65536 in
theorem w_ripe : about1.ripe theMethod args0 below0 = true := by decide +kernel
theorem w_running : about1.status = .running := rfl
set_option maxRecDepth 65536 in
theorem w_room : about1.hasRoom e0.platform room_1 = true :=
  launch0.hasRoom_least _ room_1 (by decide +kernel) (by decide +kernel) (by decide +kernel) (by decide +kernel) (by decide +kernel) (by decide +kernel)
theorem allAtoms_all (ts : List Jvm.Cond) (a : Array Jvm.Value) (st : Jvm.State) : (allAtoms ts).before a st = ts.all (fun c => c.before a st) := by
  induction ts with
  | nil => rfl
  | cons c t ih =>
    show (Jvm.Cond.and c (allAtoms t)).before a st = _
    rw [Jvm.Cond.before_and, ih, List.all_cons]
def words1 : List Jvm.Cond := Jvm.Cond.code x code maxLocals ret :: tables_1
/-- a 'code' word, met by the world's own term for the bytes: nothing is compared byte by byte -/
theorem code_word {y : MethodName} {bytes : ByteArray} {mx : Nat} {rt : Option FieldType} {a : Array Value} {s : State} {m : MethodId} {meth : Method} {c : Code} (h1 : s.methodNamed? y = some m) (h2 : s.vm.method? m = some meth) (h3 : meth.code = some c) (h4 : c.code = bytes)
    (h5 : (c.maxLocals == mx && c.exceptionTable.isEmpty && decide (c.maxStack ≤ mostOperands) && decide (meth.sig.returnType = rt) && !meth.locks && decide (parseMethodDescriptor y.desc = some meth.sig)) = true) : (Jvm.Cond.code y bytes mx rt).before a s = true := by
  simp only [Bool.and_eq_true, beq_iff_eq, Bool.not_eq_true', decide_eq_true_eq] at h5
  obtain ⟨⟨⟨⟨⟨g1, g2⟩, g3⟩, g4⟩, g5⟩, g6⟩ := h5
  simp [Cond.before, Cond.holds, Cond.value, h1, h2, h3, h4, g1, g2, g3, g4, g5, g6]
def isCode : Jvm.Cond → Bool
  | .code _ _ _ _ => true
  | _ => false
theorem all_split {L : List Jvm.Cond} {P : Jvm.Cond → Bool} (h1 : L.all (fun c => isCode c || P c) = true) (h2 : ∀ c ∈ L.filter isCode, P c = true) : L.all P = true := by
  refine List.all_eq_true.mpr fun c hc => ?_
  have h := List.all_eq_true.mp h1 c hc
  rcases Bool.eq_false_or_eq_true (isCode c) with hi | hi
  · exact h2 c (List.mem_filter.mpr ⟨hc, hi⟩)
  · simpa [hi] using h
set_option maxRecDepth 65536 in
theorem w_c0 : (Jvm.Cond.code x code maxLocals ret).before args0 about1 = true := code_word (m := ⟨1, 3⟩) (meth := k1m3) (c := k1c3) (by decide +kernel) rfl rfl rfl (by decide +kernel)
set_option maxRecDepth 65536 in
theorem w_c1 : (Jvm.Cond.code ({ cls := "com/example/fleet_quant/fleetquant/io/TableCellsCanHoldPinLaw", name := "draw", desc := "(I)C" } : Jvm.MethodName) method_2_code (3 : Nat) (Option.some Jvm.ClassFile.FieldType.char)).before args0 about1 = true := code_word (m := ⟨1, 1⟩) (meth := k1m1) (c := k1c1) (by decide +kernel) rfl rfl rfl (by decide +kernel)
set_option maxRecDepth 65536 in
theorem w_c2 : (Jvm.Cond.code ({ cls := "java/lang/String", name := "<init>", desc := "([C)V" } : Jvm.MethodName) jdk_42_method_3_code (2 : Nat) (Option.none : Option Jvm.ClassFile.FieldType)).before args0 about1 = true := code_word (m := ⟨7, 1⟩) (meth := k7m1) (c := k7c1) (by decide +kernel) rfl rfl rfl (by decide +kernel)
set_option maxRecDepth 65536 in
theorem w_c3 : (Jvm.Cond.code ({ cls := "java/lang/String", name := "<init>", desc := "([CIILjava/lang/Void;)V" } : Jvm.MethodName) jdk_42_method_149_code (6 : Nat) (Option.none : Option Jvm.ClassFile.FieldType)).before args0 about1 = true := code_word (m := ⟨7, 5⟩) (meth := k7m5) (c := k7c5) (by decide +kernel) rfl rfl rfl (by decide +kernel)
set_option maxRecDepth 65536 in
theorem w_c4 : (Jvm.Cond.code ({ cls := "java/lang/Object", name := "<init>", desc := "()V" } : Jvm.MethodName) object_method_1_code (1 : Nat) (Option.none : Option Jvm.ClassFile.FieldType)).before args0 about1 = true := code_word (m := ⟨0, 0⟩) (meth := k0m0) (c := k0c0) (by decide +kernel) rfl rfl rfl (by decide +kernel)
set_option maxRecDepth 65536 in
theorem w_c5 : (Jvm.Cond.code ({ cls := "com/example/fleet_quant/fleetquant/io/TableCells", name := "canHold", desc := "(Ljava/lang/String;)Z" } : Jvm.MethodName) prog_28_method_2_code (1 : Nat) (Option.some Jvm.ClassFile.FieldType.boolean)).before args0 about1 = true := code_word (m := ⟨8, 1⟩) (meth := k8m1) (c := k8c1) (by decide +kernel) rfl rfl rfl (by decide +kernel)
set_option maxRecDepth 65536 in
theorem w_c6 : (Jvm.Cond.code ({ cls := "java/lang/String", name := "indexOf", desc := "(I)I" } : Jvm.MethodName) jdk_42_method_79_code (2 : Nat) (Option.some Jvm.ClassFile.FieldType.int)).before args0 about1 = true := code_word (m := ⟨7, 3⟩) (meth := k7m3) (c := k7c3) (by decide +kernel) rfl rfl rfl (by decide +kernel)
set_option maxRecDepth 65536 in
theorem w_c7 : (Jvm.Cond.code ({ cls := "java/lang/String", name := "indexOf", desc := "(II)I" } : Jvm.MethodName) jdk_42_method_80_code (3 : Nat) (Option.some Jvm.ClassFile.FieldType.int)).before args0 about1 = true := code_word (m := ⟨7, 4⟩) (meth := k7m4) (c := k7c4) (by decide +kernel) rfl rfl rfl (by decide +kernel)
set_option maxRecDepth 65536 in
theorem w_c8 : (Jvm.Cond.code ({ cls := "java/lang/String", name := "isLatin1", desc := "()Z" } : Jvm.MethodName) jdk_42_method_154_code (1 : Nat) (Option.some Jvm.ClassFile.FieldType.boolean)).before args0 about1 = true := code_word (m := ⟨7, 7⟩) (meth := k7m7) (c := k7c7) (by decide +kernel) rfl rfl rfl (by decide +kernel)
set_option maxRecDepth 65536 in
theorem w_c9 : (Jvm.Cond.code ({ cls := "java/lang/String", name := "length", desc := "()I" } : Jvm.MethodName) jdk_42_method_54_code (1 : Nat) (Option.some Jvm.ClassFile.FieldType.int)).before args0 about1 = true := code_word (m := ⟨7, 2⟩) (meth := k7m2) (c := k7c2) (by decide +kernel) rfl rfl rfl (by decide +kernel)
set_option maxRecDepth 65536 in
theorem w_c10 : (Jvm.Cond.code ({ cls := "java/lang/String", name := "coder", desc := "()B" } : Jvm.MethodName) jdk_42_method_152_code (1 : Nat) (Option.some Jvm.ClassFile.FieldType.byte)).before args0 about1 = true := code_word (m := ⟨7, 6⟩) (meth := k7m6) (c := k7c6) (by decide +kernel) rfl rfl rfl (by decide +kernel)
set_option maxRecDepth 65536 in
theorem w_c11 : (Jvm.Cond.code ({ cls := "java/lang/StringLatin1", name := "indexOf", desc := "([BIII)I" } : Jvm.MethodName) jdk_43_method_22_code (4 : Nat) (Option.some Jvm.ClassFile.FieldType.int)).before args0 about1 = true := code_word (m := ⟨9, 2⟩) (meth := k9m2) (c := k9c2) (by decide +kernel) rfl rfl rfl (by decide +kernel)
set_option maxRecDepth 65536 in
theorem w_c12 : (Jvm.Cond.code ({ cls := "java/lang/StringLatin1", name := "canEncode", desc := "(I)Z" } : Jvm.MethodName) jdk_43_method_4_code (1 : Nat) (Option.some Jvm.ClassFile.FieldType.boolean)).before args0 about1 = true := code_word (m := ⟨9, 1⟩) (meth := k9m1) (c := k9c1) (by decide +kernel) rfl rfl rfl (by decide +kernel)
set_option maxRecDepth 65536 in
theorem w_c13 : (Jvm.Cond.code ({ cls := "java/lang/Math", name := "max", desc := "(II)I" } : Jvm.MethodName) jdk_29_method_65_code (2 : Nat) (Option.some Jvm.ClassFile.FieldType.int)).before args0 about1 = true := code_word (m := ⟨10, 1⟩) (meth := k10m1) (c := k10c1) (by decide +kernel) rfl rfl rfl (by decide +kernel)
set_option maxRecDepth 65536 in
theorem w_c14 : (Jvm.Cond.code ({ cls := "java/lang/Math", name := "min", desc := "(II)I" } : Jvm.MethodName) jdk_29_method_69_code (2 : Nat) (Option.some Jvm.ClassFile.FieldType.int)).before args0 about1 = true := code_word (m := ⟨10, 2⟩) (meth := k10m2) (c := k10c2) (by decide +kernel) rfl rfl rfl (by decide +kernel)
set_option maxRecDepth 65536 in
theorem w_c15 : (Jvm.Cond.code ({ cls := "java/lang/StringUTF16", name := "compress", desc := "([CII)[B" } : Jvm.MethodName) jdk_52_method_16_code (6 : Nat) (Option.some (Jvm.ClassFile.FieldType.array Jvm.ClassFile.FieldType.byte))).before args0 about1 = true := code_word (m := ⟨11, 8⟩) (meth := k11m8) (c := k11c8) (by decide +kernel) rfl rfl rfl (by decide +kernel)
set_option maxRecDepth 65536 in
theorem w_c16 : (Jvm.Cond.code ({ cls := "java/lang/StringUTF16", name := "compress", desc := "([CI[BII)I" } : Jvm.MethodName) jdk_52_method_21_code (7 : Nat) (Option.some Jvm.ClassFile.FieldType.int)).before args0 about1 = true := code_word (m := ⟨11, 9⟩) (meth := k11m9) (c := k11c9) (by decide +kernel) rfl rfl rfl (by decide +kernel)
set_option maxRecDepth 65536 in
theorem w_c17 : (Jvm.Cond.code ({ cls := "java/lang/StringUTF16", name := "coderFromArrayLen", desc := "([BI)B" } : Jvm.MethodName) jdk_52_method_15_code (2 : Nat) (Option.some Jvm.ClassFile.FieldType.byte)).before args0 about1 = true := code_word (m := ⟨11, 7⟩) (meth := k11m7) (c := k11c7) (by decide +kernel) rfl rfl rfl (by decide +kernel)
set_option maxRecDepth 65536 in
theorem w_c18 : (Jvm.Cond.code ({ cls := "com/example/fleet_quant/fleetquant/io/TableCellsCanHoldPinLaw", name := "ok", desc := "(C)Z" } : Jvm.MethodName) method_3_code (1 : Nat) (Option.some Jvm.ClassFile.FieldType.boolean)).before args0 about1 = true := code_word (m := ⟨1, 2⟩) (meth := k1m2) (c := k1c2) (by decide +kernel) rfl rfl rfl (by decide +kernel)
set_option maxRecDepth 65536 in
theorem w_c19 : (Jvm.Cond.code ({ cls := "java/lang/StringLatin1", name := "indexOfChar", desc := "([BIII)I" } : Jvm.MethodName) jdk_43_method_23_code (6 : Nat) (Option.some Jvm.ClassFile.FieldType.int)).before args0 about1 = true := code_word (m := ⟨9, 3⟩) (meth := k9m3) (c := k9c3) (by decide +kernel) rfl rfl rfl (by decide +kernel)
set_option maxRecDepth 65536 in
theorem w_c20 : (Jvm.Cond.code ({ cls := "java/lang/StringUTF16", name := "toBytes", desc := "([CII)[B" } : Jvm.MethodName) jdk_52_method_14_code (5 : Nat) (Option.some (Jvm.ClassFile.FieldType.array Jvm.ClassFile.FieldType.byte))).before args0 about1 = true := code_word (m := ⟨11, 6⟩) (meth := k11m6) (c := k11c6) (by decide +kernel) rfl rfl rfl (by decide +kernel)
set_option maxRecDepth 65536 in
theorem w_c21 : (Jvm.Cond.code ({ cls := "java/lang/StringUTF16", name := "newBytesFor", desc := "(I)[B" } : Jvm.MethodName) jdk_52_method_2_code (1 : Nat) (Option.some (Jvm.ClassFile.FieldType.array Jvm.ClassFile.FieldType.byte))).before args0 about1 = true := code_word (m := ⟨11, 1⟩) (meth := k11m1) (c := k11c1) (by decide +kernel) rfl rfl rfl (by decide +kernel)
set_option maxRecDepth 65536 in
theorem w_c22 : (Jvm.Cond.code ({ cls := "java/lang/StringUTF16", name := "newBytesLength", desc := "(I)I" } : Jvm.MethodName) jdk_52_method_3_code (1 : Nat) (Option.some Jvm.ClassFile.FieldType.int)).before args0 about1 = true := code_word (m := ⟨11, 2⟩) (meth := k11m2) (c := k11c2) (by decide +kernel) rfl rfl rfl (by decide +kernel)
set_option maxRecDepth 65536 in
theorem w_c23 : (Jvm.Cond.code ({ cls := "java/lang/StringUTF16", name := "putChar", desc := "([BII)V" } : Jvm.MethodName) jdk_52_method_4_code (3 : Nat) (Option.none : Option Jvm.ClassFile.FieldType)).before args0 about1 = true := code_word (m := ⟨11, 3⟩) (meth := k11m3) (c := k11c3) (by decide +kernel) rfl rfl rfl (by decide +kernel)
set_option maxRecDepth 65536 in
theorem w_c24 : (Jvm.Cond.code ({ cls := "java/lang/StringUTF16", name := "getChar", desc := "([BI)C" } : Jvm.MethodName) jdk_52_method_5_code (2 : Nat) (Option.some Jvm.ClassFile.FieldType.char)).before args0 about1 = true := code_word (m := ⟨11, 4⟩) (meth := k11m4) (c := k11c4) (by decide +kernel) rfl rfl rfl (by decide +kernel)
set_option maxRecDepth 65536 in
theorem w_c25 : (Jvm.Cond.code ({ cls := "java/lang/StringUTF16", name := "indexOf", desc := "([BIII)I" } : Jvm.MethodName) jdk_52_method_40_code (4 : Nat) (Option.some Jvm.ClassFile.FieldType.int)).before args0 about1 = true := code_word (m := ⟨11, 10⟩) (meth := k11m10) (c := k11c10) (by decide +kernel) rfl rfl rfl (by decide +kernel)
set_option maxRecDepth 65536 in
theorem w_c26 : (Jvm.Cond.code ({ cls := "java/lang/StringUTF16", name := "indexOfChar", desc := "([BIII)I" } : Jvm.MethodName) jdk_52_method_47_code (4 : Nat) (Option.some Jvm.ClassFile.FieldType.int)).before args0 about1 = true := code_word (m := ⟨11, 11⟩) (meth := k11m11) (c := k11c11) (by decide +kernel) rfl rfl rfl (by decide +kernel)
set_option maxRecDepth 65536 in
theorem w_c27 : (Jvm.Cond.code ({ cls := "java/lang/StringUTF16", name := "checkBoundsBeginEnd", desc := "(II[B)V" } : Jvm.MethodName) jdk_52_method_93_code (3 : Nat) (Option.none : Option Jvm.ClassFile.FieldType)).before args0 about1 = true := code_word (m := ⟨11, 13⟩) (meth := k11m13) (c := k11c13) (by decide +kernel) rfl rfl rfl (by decide +kernel)
set_option maxRecDepth 65536 in
theorem w_c28 : (Jvm.Cond.code ({ cls := "java/lang/StringUTF16", name := "length", desc := "([B)I" } : Jvm.MethodName) jdk_52_method_6_code (1 : Nat) (Option.some Jvm.ClassFile.FieldType.int)).before args0 about1 = true := code_word (m := ⟨11, 5⟩) (meth := k11m5) (c := k11c5) (by decide +kernel) rfl rfl rfl (by decide +kernel)
set_option maxRecDepth 65536 in
theorem w_c29 : (Jvm.Cond.code ({ cls := "java/lang/String", name := "checkBoundsBeginEnd", desc := "(III)V" } : Jvm.MethodName) jdk_42_method_158_code (3 : Nat) (Option.none : Option Jvm.ClassFile.FieldType)).before args0 about1 = true := code_word (m := ⟨7, 8⟩) (meth := k7m8) (c := k7c8) (by decide +kernel) rfl rfl rfl (by decide +kernel)
set_option maxRecDepth 65536 in
theorem w_c30 : (Jvm.Cond.code ({ cls := "jdk/internal/util/Preconditions", name := "checkFromToIndex", desc := "(IIILjava/util/function/BiFunction;)I" } : Jvm.MethodName) jdk_41_method_12_code (4 : Nat) (Option.some Jvm.ClassFile.FieldType.int)).before args0 about1 = true := code_word (m := ⟨12, 1⟩) (meth := k12m1) (c := k12c1) (by decide +kernel) rfl rfl rfl (by decide +kernel)
set_option maxRecDepth 65536 in
theorem w_c31 : (Jvm.Cond.code ({ cls := "java/lang/StringUTF16", name := "indexOfCharUnsafe", desc := "([BIII)I" } : Jvm.MethodName) jdk_52_method_48_code (5 : Nat) (Option.some Jvm.ClassFile.FieldType.int)).before args0 about1 = true := code_word (m := ⟨11, 12⟩) (meth := k11m12) (c := k11c12) (by decide +kernel) rfl rfl rfl (by decide +kernel)
def codes1 : List Jvm.Cond := [Jvm.Cond.code x code maxLocals ret, Jvm.Cond.code ({ cls := "com/example/fleet_quant/fleetquant/io/TableCellsCanHoldPinLaw", name := "draw", desc := "(I)C" } : Jvm.MethodName) method_2_code (3 : Nat) (Option.some Jvm.ClassFile.FieldType.char), Jvm.Cond.code ({ cls := "java/lang/String", name := "<init>", desc := "([C)V" } : Jvm.MethodName) jdk_42_method_3_code (2 : Nat) (Option.none : Option Jvm.ClassFile.FieldType), Jvm.Cond.code ({ cls := "java/lang/String", name := "<init>", desc := "([CIILjava/lang/Void;)V" } : Jvm.MethodName) jdk_42_method_149_code (6 : Nat) (Option.none : Option Jvm.ClassFile.FieldType), Jvm.Cond.code ({ cls := "java/lang/Object", name := "<init>", desc := "()V" } : Jvm.MethodName) object_method_1_code (1 : Nat) (Option.none : Option Jvm.ClassFile.FieldType), Jvm.Cond.code ({ cls := "com/example/fleet_quant/fleetquant/io/TableCells", name := "canHold", desc := "(Ljava/lang/String;)Z" } : Jvm.MethodName) prog_28_method_2_code (1 : Nat) (Option.some Jvm.ClassFile.FieldType.boolean), Jvm.Cond.code ({ cls := "java/lang/String", name := "indexOf", desc := "(I)I" } : Jvm.MethodName) jdk_42_method_79_code (2 : Nat) (Option.some Jvm.ClassFile.FieldType.int), Jvm.Cond.code ({ cls := "java/lang/String", name := "indexOf", desc := "(II)I" } : Jvm.MethodName) jdk_42_method_80_code (3 : Nat) (Option.some Jvm.ClassFile.FieldType.int), Jvm.Cond.code ({ cls := "java/lang/String", name := "isLatin1", desc := "()Z" } : Jvm.MethodName) jdk_42_method_154_code (1 : Nat) (Option.some Jvm.ClassFile.FieldType.boolean), Jvm.Cond.code ({ cls := "java/lang/String", name := "length", desc := "()I" } : Jvm.MethodName) jdk_42_method_54_code (1 : Nat) (Option.some Jvm.ClassFile.FieldType.int), Jvm.Cond.code ({ cls := "java/lang/String", name := "coder", desc := "()B" } : Jvm.MethodName) jdk_42_method_152_code (1 : Nat) (Option.some Jvm.ClassFile.FieldType.byte), Jvm.Cond.code ({ cls := "java/lang/StringLatin1", name := "indexOf", desc := "([BIII)I" } : Jvm.MethodName) jdk_43_method_22_code (4 : Nat) (Option.some Jvm.ClassFile.FieldType.int), Jvm.Cond.code ({ cls := "java/lang/StringLatin1", name := "canEncode", desc := "(I)Z" } : Jvm.MethodName) jdk_43_method_4_code (1 : Nat) (Option.some Jvm.ClassFile.FieldType.boolean), Jvm.Cond.code ({ cls := "java/lang/Math", name := "max", desc := "(II)I" } : Jvm.MethodName) jdk_29_method_65_code (2 : Nat) (Option.some Jvm.ClassFile.FieldType.int), Jvm.Cond.code ({ cls := "java/lang/Math", name := "min", desc := "(II)I" } : Jvm.MethodName) jdk_29_method_69_code (2 : Nat) (Option.some Jvm.ClassFile.FieldType.int), Jvm.Cond.code ({ cls := "java/lang/StringUTF16", name := "compress", desc := "([CII)[B" } : Jvm.MethodName) jdk_52_method_16_code (6 : Nat) (Option.some (Jvm.ClassFile.FieldType.array Jvm.ClassFile.FieldType.byte)), Jvm.Cond.code ({ cls := "java/lang/StringUTF16", name := "compress", desc := "([CI[BII)I" } : Jvm.MethodName) jdk_52_method_21_code (7 : Nat) (Option.some Jvm.ClassFile.FieldType.int), Jvm.Cond.code ({ cls := "java/lang/StringUTF16", name := "coderFromArrayLen", desc := "([BI)B" } : Jvm.MethodName) jdk_52_method_15_code (2 : Nat) (Option.some Jvm.ClassFile.FieldType.byte), Jvm.Cond.code ({ cls := "com/example/fleet_quant/fleetquant/io/TableCellsCanHoldPinLaw", name := "ok", desc := "(C)Z" } : Jvm.MethodName) method_3_code (1 : Nat) (Option.some Jvm.ClassFile.FieldType.boolean), Jvm.Cond.code ({ cls := "java/lang/StringLatin1", name := "indexOfChar", desc := "([BIII)I" } : Jvm.MethodName) jdk_43_method_23_code (6 : Nat) (Option.some Jvm.ClassFile.FieldType.int), Jvm.Cond.code ({ cls := "java/lang/StringUTF16", name := "toBytes", desc := "([CII)[B" } : Jvm.MethodName) jdk_52_method_14_code (5 : Nat) (Option.some (Jvm.ClassFile.FieldType.array Jvm.ClassFile.FieldType.byte)), Jvm.Cond.code ({ cls := "java/lang/StringUTF16", name := "newBytesFor", desc := "(I)[B" } : Jvm.MethodName) jdk_52_method_2_code (1 : Nat) (Option.some (Jvm.ClassFile.FieldType.array Jvm.ClassFile.FieldType.byte)), Jvm.Cond.code ({ cls := "java/lang/StringUTF16", name := "newBytesLength", desc := "(I)I" } : Jvm.MethodName) jdk_52_method_3_code (1 : Nat) (Option.some Jvm.ClassFile.FieldType.int), Jvm.Cond.code ({ cls := "java/lang/StringUTF16", name := "putChar", desc := "([BII)V" } : Jvm.MethodName) jdk_52_method_4_code (3 : Nat) (Option.none : Option Jvm.ClassFile.FieldType), Jvm.Cond.code ({ cls := "java/lang/StringUTF16", name := "getChar", desc := "([BI)C" } : Jvm.MethodName) jdk_52_method_5_code (2 : Nat) (Option.some Jvm.ClassFile.FieldType.char), Jvm.Cond.code ({ cls := "java/lang/StringUTF16", name := "indexOf", desc := "([BIII)I" } : Jvm.MethodName) jdk_52_method_40_code (4 : Nat) (Option.some Jvm.ClassFile.FieldType.int), Jvm.Cond.code ({ cls := "java/lang/StringUTF16", name := "indexOfChar", desc := "([BIII)I" } : Jvm.MethodName) jdk_52_method_47_code (4 : Nat) (Option.some Jvm.ClassFile.FieldType.int), Jvm.Cond.code ({ cls := "java/lang/StringUTF16", name := "checkBoundsBeginEnd", desc := "(II[B)V" } : Jvm.MethodName) jdk_52_method_93_code (3 : Nat) (Option.none : Option Jvm.ClassFile.FieldType), Jvm.Cond.code ({ cls := "java/lang/StringUTF16", name := "length", desc := "([B)I" } : Jvm.MethodName) jdk_52_method_6_code (1 : Nat) (Option.some Jvm.ClassFile.FieldType.int), Jvm.Cond.code ({ cls := "java/lang/String", name := "checkBoundsBeginEnd", desc := "(III)V" } : Jvm.MethodName) jdk_42_method_158_code (3 : Nat) (Option.none : Option Jvm.ClassFile.FieldType), Jvm.Cond.code ({ cls := "jdk/internal/util/Preconditions", name := "checkFromToIndex", desc := "(IIILjava/util/function/BiFunction;)I" } : Jvm.MethodName) jdk_41_method_12_code (4 : Nat) (Option.some Jvm.ClassFile.FieldType.int), Jvm.Cond.code ({ cls := "java/lang/StringUTF16", name := "indexOfCharUnsafe", desc := "([BIII)I" } : Jvm.MethodName) jdk_52_method_48_code (5 : Nat) (Option.some Jvm.ClassFile.FieldType.int)]
set_option maxRecDepth 65536 in
theorem codes_eq : words1.filter isCode = codes1 := rfl
theorem w_codes : ∀ c ∈ words1.filter isCode, c.before args0 about1 = true := by
  rw [codes_eq]
  intro c hc
  simp only [codes1, List.mem_cons, List.not_mem_nil, or_false] at hc
  rcases hc with rfl | rfl | rfl | rfl | rfl | rfl | rfl | rfl | rfl | rfl | rfl | rfl | rfl | rfl | rfl | rfl | rfl | rfl | rfl | rfl | rfl | rfl | rfl | rfl | rfl | rfl | rfl | rfl | rfl | rfl | rfl | rfl
  · exact w_c0
  · exact w_c1
  · exact w_c2
  · exact w_c3
  · exact w_c4
  · exact w_c5
  · exact w_c6
  · exact w_c7
  · exact w_c8
  · exact w_c9
  · exact w_c10
  · exact w_c11
  · exact w_c12
  · exact w_c13
  · exact w_c14
  · exact w_c15
  · exact w_c16
  · exact w_c17
  · exact w_c18
  · exact w_c19
  · exact w_c20
  · exact w_c21
  · exact w_c22
  · exact w_c23
  · exact w_c24
  · exact w_c25
  · exact w_c26
  · exact w_c27
  · exact w_c28
  · exact w_c29
  · exact w_c30
  · exact w_c31
set_option maxRecDepth 65536 in
theorem w_t1 : (words1.take 24).all (fun c => isCode c || c.before args0 about1) = true := by decide +kernel
set_option maxRecDepth 65536 in
theorem w_t2 : ((words1.drop 24).take 24).all (fun c => isCode c || c.before args0 about1) = true := by decide +kernel
set_option maxRecDepth 65536 in
theorem w_t3 : (((words1.drop 24).drop 24).take 24).all (fun c => isCode c || c.before args0 about1) = true := by decide +kernel
set_option maxRecDepth 65536 in
theorem w_t4 : ((((words1.drop 24).drop 24).drop 24).take 24).all (fun c => isCode c || c.before args0 about1) = true := by decide +kernel
set_option maxRecDepth 65536 in
theorem w_t5 : (((((words1.drop 24).drop 24).drop 24).drop 24).take 24).all (fun c => isCode c || c.before args0 about1) = true := by decide +kernel
set_option maxRecDepth 65536 in
theorem w_t6 : (((((words1.drop 24).drop 24).drop 24).drop 24).drop 24).all (fun c => isCode c || c.before args0 about1) = true := by decide +kernel
theorem w_tables : (allAtoms (Jvm.Cond.code x code maxLocals ret :: tables_1)).before args0 about1 = true := by
  rw [allAtoms_all]
  show words1.all (fun c => c.before args0 about1) = true
  refine all_split ?_ w_codes
  rw [← List.take_append_drop 24 words1, List.all_append, w_t1, ← List.take_append_drop 24 (words1.drop 24), List.all_append, w_t2, ← List.take_append_drop 24 ((words1.drop 24).drop 24), List.all_append, w_t3, ← List.take_append_drop 24 (((words1.drop 24).drop 24).drop 24), List.all_append, w_t4, ← List.take_append_drop 24 ((((words1.drop 24).drop 24).drop 24).drop 24), List.all_append, w_t5, w_t6]
  rfl
set_option maxRecDepth 65536 in
theorem w_rest : rest_1_c.before args0 about1 = true := by decide +kernel
set_option maxRecDepth 65536 in
theorem w_case : (Jvm.Cond.and given_1 narrow_1).before args0 about1 = true := by decide +kernel
set_option maxRecDepth 65536 in
theorem w_consts : constsHeld consts_1 about1 := Jvm.Lit.constsHeldB_iff.mp (by decide +kernel)
theorem w_applies : (headSpec (Jvm.Cond.code x code maxLocals ret :: tables_1) room_1).applies x e0.platform about1 = true :=
  (Spec.applies_iff w_frames).mpr ⟨w_running, w_runnable, w_alone, w_named, w_hears, w_ripe, w_room, w_tables⟩
theorem atStart : AtStart classFile x code maxLocals ret World_1 tables_1 room_1 Calls_1 rest_1 Pre_1 launch0 p0 e0 about1 theMethod args0 below0 :=
  ⟨lists_1, trivial, launch0.admits_env _ _ _, launch0.least_env, fairChoices_fair.cas, fairChoices_fair.clock, w_frames, w_args, w_heap, w_applies, ⟨w_consts, trivial⟩, w_rest, w_case⟩
end start1
theorem witness_1 : WitnessClaimed_1 := ⟨start1.p0, start1.e0, start1.about1, start1.theMethod, start1.args0, start1.below0, start1.atStart⟩
end Jvm.Pilot.@@N@@
