import JvmDerived
import JvmDerived.Pilot.@@N@@Statement
import JvmDerived.Pilot.@@N@@Code
set_option linter.unusedVariables false
set_option linter.unusedSimpArgs false
namespace Jvm.OwnKit
open Sem ClassFile Op Lib Jvm.Stand Jvm.Free Jvm.LawKit Jvm.RoadKit
section Go
variable {p : Program} {l : Launch} {e : Env} {R : Room} {s : State} {m : MethodId} {args : Array Value} {below : List Frame} {meth : Method} {c : Code} {T T' : State} {locs : List Loc} {cells slots : Nat} {g g' : JFrame} {P : Outcome → State → Prop} {Q : Option Value → Heap → List Loc → Prop} {k n pc : Nat} {Ls : Array Slot} {rest : List Value}
/-- from this state and frame the invocation comes to its end, and the end is as P says -/
def Go (p : Program) (e : Env) (below : List Frame) (T : State) (g : JFrame) (P : Outcome → State → Prop) : Prop :=
  ∃ s₂ o, Steps p.tables e below (T.setTop g) s₂ ∧ s₂.status = .running ∧ Ended s₂ below o ∧ P o s₂
abbrev Po (s : State) (Q : Option Value → Heap → List Loc → Prop) (k n : Nat) : Outcome → State → Prop := fun o U' => ∃ v L, o = .returned v ∧ Q v U'.heap L ∧ FrameEnd s o U' L k n
theorem stp (h : ∀ t, Steps p.tables e below (T'.setTop g') t → Steps p.tables e below (T.setTop g) t) (K : Go p e below T' g' P) : Go p e below T g P := by
  obtain ⟨s2, o, h1, h2⟩ := K
  exact ⟨s2, o, h _ h1, h2⟩
theorem stt (h : Steps p.tables e below (T.setTop g) (T'.setTop g')) (K : Go p e below T' g' P) : Go p e below T g P := by
  obtain ⟨s2, o, h1, h2⟩ := K
  exact ⟨s2, o, h.trans h1, h2⟩
theorem out (X : Stand p l e R s m args below meth c T locs cells slots) {v : Option Value} (hl : meth.locks = false) (hv : meth.sig.returnType = none → v = none)
    (hst : ∀ fs : List Frame, (∀ (f : JFrame) (acts : List Action), f.method = m → f.locked = none → f.entered = [] → (doReturn e (T.setTop f) acts v).1 = T.setFrames fs) → Steps p.tables e below (T.setTop g) (T.setFrames fs))
    (hc : cells ≤ k) (hn : slots ≤ n) (hQ : Q v T.heap locs) : Go p e below T g (Po s Q k n) := by
  obtain ⟨fs, hr, hrun, hended, hW, hsame⟩ := X.leave (v := v) hv hl
  exact ⟨_, _, hst fs hr, hrun, hended, v, locs, rfl, hQ, ⟨_, rfl⟩, hW, hsame.mono hc hn⟩
theorem outN (X : Stand p l e R s m args below meth c T locs cells slots) (hx : p.tables.exec = Jvm.exec) {t : FieldType} {z : Int32} (hret : meth.sig.returnType = some t) (ht : t = .boolean ∨ t = .byte ∨ t = .char ∨ t = .short) (hd : decode c.code pc = .ok (.ireturn, 1)) (hl : meth.locks = false)
    (hc : cells ≤ k) (hn : slots ≤ n) (hQ : Q (some (.int (nar t z))) T.heap locs) : Go p e below T (mkF m pc Ls (.int z :: rest)) (Po s Q k n) :=
  out X hl (fun h => by rw [hret] at h; cases h) (fun fs hr => retN X hx hret ht hd hr) hc hn hQ
theorem outI (X : Stand p l e R s m args below meth c T locs cells slots) (hx : p.tables.exec = Jvm.exec) {z : Int32} (hret : meth.sig.returnType = some .int) (hd : decode c.code pc = .ok (.ireturn, 1)) (hl : meth.locks = false)
    (hc : cells ≤ k) (hn : slots ≤ n) (hQ : Q (some (.int z)) T.heap locs) : Go p e below T (mkF m pc Ls (.int z :: rest)) (Po s Q k n) :=
  out X hl (fun h => by rw [hret] at h; cases h) (fun fs hr => retOut X hx hret rfl (Or.inl ⟨rfl, Or.inl rfl, _, rfl⟩) hd hr) hc hn hQ
theorem outJ (X : Stand p l e R s m args below meth c T locs cells slots) (hx : p.tables.exec = Jvm.exec) {z : Int64} (hret : meth.sig.returnType = some .long) (hd : decode c.code pc = .ok (.lreturn, 1)) (hl : meth.locks = false)
    (hc : cells ≤ k) (hn : slots ≤ n) (hQ : Q (some (.long z)) T.heap locs) : Go p e below T (mkF m pc Ls (.long z :: rest)) (Po s Q k n) :=
  out X hl (fun h => by rw [hret] at h; cases h) (fun fs hr => retOut X hx hret rfl (Or.inr (Or.inl ⟨rfl, rfl, _, rfl⟩)) hd hr) hc hn hQ
theorem outD (X : Stand p l e R s m args below meth c T locs cells slots) (hx : p.tables.exec = Jvm.exec) {w : Value} (hret : meth.sig.returnType = some .double) (hw : ∃ z, w = .double z) (hd : decode c.code pc = .ok (.dreturn, 1)) (hl : meth.locks = false)
    (hc : cells ≤ k) (hn : slots ≤ n) (hQ : Q (some w) T.heap locs) : Go p e below T (mkF m pc Ls (w :: rest)) (Po s Q k n) := by
  obtain ⟨z, rfl⟩ := hw
  exact out X hl (fun h => by rw [hret] at h; cases h) (fun fs hr => retOut X hx hret rfl (Or.inr (Or.inr (Or.inl ⟨rfl, rfl, _, rfl⟩))) hd hr) hc hn hQ
theorem outA (X : Stand p l e R s m args below meth c T locs cells slots) (hx : p.tables.exec = Jvm.exec) {w : Value} {t : FieldType} (hret : meth.sig.returnType = some t) (ht : t.isReference = true) (hw : w.isRef = true) (hd : decode c.code pc = .ok (.areturn, 1)) (hl : meth.locks = false)
    (hc : cells ≤ k) (hn : slots ≤ n) (hQ : Q (some w) T.heap locs) : Go p e below T (mkF m pc Ls (w :: rest)) (Po s Q k n) := by
  refine out X hl (fun h => by rw [hret] at h; cases h) (fun fs hr => retOut X hx hret ?_ (Or.inr (Or.inr (Or.inr (Or.inr ⟨rfl, ht, hw⟩)))) hd hr) hc hn hQ
  rcases ref_cases hw with rfl | ⟨a, rfl⟩ <;> cases t <;> first | rfl | cases ht
theorem outV (X : Stand p l e R s m args below meth c T locs cells slots) (hx : p.tables.exec = Jvm.exec) (hret : meth.sig.returnType = none) (hd : decode c.code pc = .ok (.return_, 1)) (hl : meth.locks = false)
    (hc : cells ≤ k) (hn : slots ≤ n) (hQ : Q none T.heap locs) : Go p e below T (mkF m pc Ls []) (Po s Q k n) :=
  out X hl (fun _ => rfl) (fun fs hr => X.returnOut hx hret hd hr) hc hn hQ
theorem start {y : MethodName} {bytes : ByteArray} {maxL : Nat} {ret : Option FieldType} {ws : List Cond} {rm : Room} {Z : State} {as' : Array Value} {h0 : Heap} (hpl : plainFor y = true)
    (body : ∀ p e s m below meth c T, Stand p l e rm s m as' below meth c T [] 0 0 → p.tables.exec = Jvm.exec → c.code = bytes → c.maxLocals = maxL → s.vm.findClass y.cls = some m.cls → meth.name = y.name → meth.sig.returnType = ret → meth.locks = false → Z.Warmed39 s.vm → T.heap = h0 →
      Go p e below T (entryFrame m as' maxL) (Po s Q k n)) :
    MetFree l y (head1 (Cond.code y bytes maxL ret :: ws) rm) (fun a U => a = as' ∧ Z.Warmed39 U.vm ∧ U.heap = h0) (fun _ _ _ _ _ => True) (fun _ U o U' => ∃ v L, o = .returned v ∧ Q v U'.heap L ∧ FrameEnd U o U' L k n) := by
  refine MetFree.of_bodySF hpl hisR ?_
  intro p e s m args below meth c s₁ Bd hml0 hP hK
  obtain ⟨rfl, hZ, hh⟩ := hP
  exact body p e s m below meth c s₁ (Stand.of_body Bd) Bd.exec Bd.bytes hml0 (findClass_of_methodNamed Bd.named) (name_of_methodNamed Bd.named Bd.method).1 Bd.returns Bd.notSynchronized hZ (by rw [← hh, Bd.state]; rfl)
theorem goAt (q : g = g') (K : Go p e below T g' P) : Go p e below T g P := q ▸ K
end Go
theorem cat_ref {v : Value} (h : v.isRef = true) : v.category = 1 := by cases v <;> simp_all [Value.isRef, Value.category]
section Facts
variable {Z : State} {args : Array Value}
theorem old_le {n0 : Nat} {h : Heap} (O : Old Z n0 h) : n0 ≤ h.size := by
  obtain ⟨rfl, h2⟩ := O
  exact h2.1
theorem fld_of {C n d : String} {t : Term} {a : Addr} {k : Int32} (ev : t.eval args Z none [] Z = some (.ref a)) (h : (Cond.eq (.field t C n d) (.int k)).value args Z none Z [] = some true) : Fld Z Z.heap a C n d (.int k) := by
  obtain ⟨x, y, h1, h2, -, hk⟩ := cmp_v (Or.inl h)
  have h3 : y = .int k := (Option.some.inj h2).symm
  subst h3
  obtain ⟨z, rfl⟩ := hk
  have h4 : z = k := gotT (Cond.eq_ints h1 h2) h
  subst h4
  rw [fld_at ev] at h1
  exact Fld.start h1
theorem fldnull_of {C n d : String} {t : Term} {a : Addr} (ev : t.eval args Z none [] Z = some (.ref a)) (h : (Cond.eq (.field t C n d) .null).value args Z none Z [] = some true) : Fld Z Z.heap a C n d .null := by
  have h1 := null_v h
  rw [fld_at ev] at h1
  exact Fld.start h1
theorem eqint_v {t : Term} {k : Int32} (h : (Cond.eq t (.int k)).value args Z none Z [] = some true) : t.eval args Z none [] Z = some (.int k) := by
  obtain ⟨x, y, h1, h2, -, hk⟩ := cmp_v (Or.inl h)
  have h3 : y = .int k := (Option.some.inj h2).symm
  subst h3
  obtain ⟨z, rfl⟩ := hk
  have h4 : z = k := gotT (Cond.eq_ints h1 h2) h
  subst h4
  exact h1
end Facts
section Small
variable {h h' : Heap} {a : Addr} {sl : Nat} {x : Int32}
theorem ow_wr_char (e : x.toUInt32.toUInt16.toUInt32.toInt32 = x) (W : Wr h h' a sl (.int (nar .char x))) : Wr h h' a sl (.int x) := by rwa [show nar .char x = x from e] at W
theorem ow_fits_char (e : x.toUInt32.toUInt16.toUInt32.toInt32 = x) : fits .char (.int x) = true := by
  have q := fits_nar_char x
  rwa [show nar .char x = x from e] at q
theorem ow_wr_byte (e : x.toInt8.toInt32 = x) (W : Wr h h' a sl (.int (nar .byte x))) : Wr h h' a sl (.int x) := by rwa [show nar .byte x = x from e] at W
theorem ow_fits_byte (e : x.toInt8.toInt32 = x) : fits .byte (.int x) = true := by
  have q := fits_nar_byte x
  rwa [e] at q
theorem char_small (h0 : ¬ x < 0) (h1 : ¬ (65535 : Int32) < x) : x.toUInt32.toUInt16.toUInt32.toInt32 = x := by
  obtain ⟨q1, q2, q3⟩ := c_i2c x
  simp only [Int32.lt_iff_toInt_lt, Int32.reduceToInt] at h0 h1
  exact Int32.toInt_inj.mp (by omega)
theorem char255 (q : ¬ x < 0 ∧ ¬ (255 : Int32) < x) : x.toUInt32.toUInt16.toUInt32.toInt32 = x := char_small q.1 (by
  obtain ⟨q1, q2⟩ := q
  simp only [Int32.lt_iff_toInt_lt, Int32.reduceToInt] at q1 q2 ⊢
  omega)
theorem byte_small (h0 : ¬ x < (-128 : Int32)) (h1 : ¬ (127 : Int32) < x) : x.toInt8.toInt32 = x := by
  obtain ⟨q1, q2, q3⟩ := c_i2b x
  simp only [Int32.lt_iff_toInt_lt, Int32.reduceToInt] at h0 h1
  exact Int32.toInt_inj.mp (by omega)
theorem byte_twice : x.toInt8.toInt32.toInt8.toInt32 = x.toInt8.toInt32 := by simp
theorem and255 (x : Int32) : ¬ (x &&& (255 : Int32)) < 0 ∧ ¬ (255 : Int32) < (x &&& (255 : Int32)) := by
  have h := c_mask x 255 8 (by decide) (by decide)
  simp only [Int32.lt_iff_toInt_lt, Int32.reduceToInt]
  omega
end Small
section Sub
variable {Z : State} {a0 : Array Value}
theorem NSroot {O K : String} {n : Nat} (w : (Cond.noSuperclass O).before a0 Z = true) (wk : (Cond.instantiable K n).before a0 Z = true) (hn : O ≠ K) : NS Z O K := by
  obtain ⟨c, k, h1, h2, h3, -, -⟩ := Cond.noSuperclass_spec w
  obtain ⟨t, kt, g1, -⟩ := Cond.instantiable_spec wk
  have ne := ids_ne h1 g1 hn
  refine ⟨c, t, h1, g1, fun fuel => ?_⟩
  cases fuel with
  | zero => rfl
  | succ f => simp [Vm.isSubclassAux, ne, h2, h3]
theorem NSno {C S K : String} {n : Nat} (w : (Cond.superclass C S).before a0 Z = true) (wk : (Cond.instantiable K n).before a0 Z = true) (N : NS Z C K) (hn : C ≠ K) : ∃ c t, Z.vm.findClass C = some c ∧ Z.vm.findClass K = some t ∧ Z.vm.assignable c t = false := by
  obtain ⟨c, t, h0, g0, n3⟩ := N
  obtain ⟨p, k, kp, h1, h2, h3, h4, h5, -, h7⟩ := Cond.superclass_spec h0 w
  obtain ⟨t', kt, g1, g2, g5, g7, -⟩ := Cond.instantiable_spec wk
  cases g0.symm.trans g1
  rw [Bool.or_eq_false_iff] at g7
  have ne := ids_ne h0 g0 hn
  refine ⟨c, t, h0, g0, ?_⟩
  show Z.vm.assignableAux (255 + 1) c t = false
  simp [Vm.assignableAux, ne, h2, g2, h5, g5, g7.1, Vm.isSubclass, n3]
end Sub
/-- an array of n elements, told by a function -/
def Arf (Z : State) (h : Heap) (a : Addr) (k : ClassId) (ty : FieldType) (n : Nat) (f : Nat → Value) : Prop := ∃ c : Cell, Arr Z h a c ty ∧ c.cls = k ∧ c.slots.size = n ∧ (∀ i, i < n → c.slots[i]? = some (f i)) ∧ ∀ i, i < n → fits ty (f i) = true
section Arf
variable {Z : State} {h h' : Heap} {a b : Addr} {k : ClassId} {ty : FieldType} {n sl : Nat} {f g : Nat → Value} {v : Value} {ws : List Addr} {c : Cell} {j : Int32} {i : Nat}
theorem Arf.lt (F : Arf Z h a k ty n f) : a < h.size := by
  obtain ⟨c, A, -⟩ := F
  exact A.lt
theorem Arf.ext (F : Arf Z h a k ty n f) (E : Ext h h') : Arf Z h' a k ty n f := by
  obtain ⟨c, A, r⟩ := F
  exact ⟨c, A.ext E, r⟩
theorem Arf.other (F : Arf Z h b k ty n f) (W : Wr h h' a sl v) (q : b ≠ a) : Arf Z h' b k ty n f := by
  obtain ⟨c, A, r⟩ := F
  exact ⟨c, A.other W q, r⟩
theorem Arf.keep (F : Arf Z h a k ty n f) (K : Keep h h' ws) (q : a ∉ ws) : Arf Z h' a k ty n f := by
  obtain ⟨c, A, r⟩ := F
  exact ⟨c, ⟨K.2.1 a c A.1 q, A.2⟩, r⟩
theorem Arf.congr (F : Arf Z h a k ty n f) (q : ∀ i, i < n → g i = f i) : Arf Z h a k ty n g := by
  obtain ⟨c, A, r1, r2, H, G⟩ := F
  exact ⟨c, A, r1, r2, fun i hi => by rw [q i hi]; exact H i hi, fun i hi => by rw [q i hi]; exact G i hi⟩
theorem Arf.set (A : Arr Z h a c ty) (q1 : c.cls = k) (S : c.slots.size = n) (H : ∀ i, i < n → c.slots[i]? = some (f i)) (G : ∀ i, i < n → fits ty (f i) = true) (hv : fits ty v = true) (W : Wr h h' a i v) (hi : i < n) : Arf Z h' a k ty n (fun x => if x = i then v else f x) := by
  refine ⟨c.setSlot i v, A.same W, q1, by rw [sz_set]; exact S, fun x hx => ?_, fun x hx => ?_⟩
  · show (c.setSlot i v).slots[x]? = some (if x = i then v else f x)
    by_cases e : x = i
    · subst e
      simp [Cell.setSlot, S, hx]
    · rw [if_neg e, ← H x hx]
      exact Cell.slots_setSlot_ne v (Ne.symm e)
  · by_cases e : x = i
    · simp [e, hv]
    · simp [e, G x hx]
theorem Arv.arf {z : Int32} {vs : List Value} {d : Value} (F : Arv Z h a k ty z vs d) (hz : z.toNatClampNeg = n) : Arf Z h a k ty n (fun i => vs.getD i d) := by
  obtain ⟨c, A, r1, r2, r3, H, G⟩ := F
  exact ⟨c, A, r1, by rw [r2, hz], fun i hi => H i (by rw [r2, hz]; exact hi), fun i hi => G i (by rw [r2, hz]; exact hi)⟩
theorem arf_in (S : c.slots.size = n) (hk : j.toInt = i) (hn : i < n) : ¬ (j < 0 ∨ c.slots.size ≤ j.toNatClampNeg) := by
  simp only [Int32.lt_iff_toInt_lt, Int32.toNatClampNeg, Int32.reduceToInt, S, hk]
  omega
theorem arf_at (H : ∀ i, i < n → c.slots[i]? = some (f i)) (hk : j.toInt = i) (hn : i < n) : c.slots[j.toNatClampNeg]? = some (f i) := by
  have e : j.toNatClampNeg = i := by simp only [Int32.toNatClampNeg, hk]; omega
  rw [e]
  exact H i hn
theorem arf_ix (hk : j.toInt = i) : j.toNatClampNeg = i := by simp only [Int32.toNatClampNeg, hk]; omega
theorem arf_len {z : Int32} (S : c.slots.size = n) (hz : z.toInt = n) : c.slots.size.toInt32 = z := by
  rw [S]
  have h1 := Int32.toInt_lt z
  exact Int32.toInt_inj.mp (by rw [len_toInt (by omega)]; exact hz.symm)
theorem Arf.one (F : Arf Z h a k ty n f) (hi : i < n) : fits ty (f i) = true := by
  obtain ⟨c, A, r1, r2, H, G⟩ := F
  exact G i hi
theorem Arf.new {z : Int32} (A : Arr Z h a (newA k ty z) ty) (q : ¬ z < 0) (hz : z.toNatClampNeg = n) : Arf Z h a k ty n (fun _ => defaultValue ty) := (Arv.arf (Arv.new A q) hz).congr fun i _ => by simp
theorem cloneF {p : Program} {l : Launch} {e : Env} {R : Room} {s : State} {m : MethodId} {args : Array Value} {below : List Frame} {meth : Method} {c : Code} {T : State} {locs : List Loc} {cells slots : Nat} (X : Stand p l e R s m args below meth c T locs cells slots) (hx : p.tables.exec = Jvm.exec) (hZ : Z.Warmed39 s.vm) {a0 : Array Value} {own ad : String} {index : Nat} (hown : s.vm.findClass own = some m.cls)
    (w1 : (Cond.methodLink own index ⟨ad, "clone", "()Ljava/lang/Object;"⟩).before a0 Z = true) (w2 : (Cond.sameMethod ad "java/lang/Object" "clone" "()Ljava/lang/Object;").before a0 Z = true) (w3 : (Cond.native ⟨"java/lang/Object", "clone", "()Ljava/lang/Object;"⟩).before a0 Z = true)
    (w4 : (Cond.instanceMethod ⟨"java/lang/Object", "clone", "()Ljava/lang/Object;"⟩).before a0 Z = true) (w5 : (Cond.selects ad ⟨ad, "clone", "()Ljava/lang/Object;"⟩ ⟨"java/lang/Object", "clone", "()Ljava/lang/Object;"⟩).before a0 Z = true) (w6 : (Cond.castable ad "java/lang/Cloneable").before a0 Z = true)
    (eT : T.heap = h) (F : Arf Z h a k ty n f) (E : Exa Z h a ad) {g : JFrame} (hg : g.method = m) (hsize : g.locals.size = c.maxLocals) {rest : List Value} (hst : g.stack = .ref a :: rest) (hd : decode c.code g.pc = .ok (.invokevirtual index, 3))
    (hf : 1 ≤ R.frames) {W cap : Nat} (hW : 2 * g.monitorRoom + (rest.map fun v => v.category).sum ≤ W) (hl : W + 14 ≤ R.locals) (hcap : n ≤ cap) (hc : cells + 1 ≤ R.cells) (hsl : slots + cap ≤ R.slots) :
    ∃ T' h', Stand p l e R s m args below meth c T' locs (cells + 1) (slots + cap) ∧ T'.heap = h' ∧ Ext h h' ∧ Arf Z h' h.size k ty n f ∧ Exa Z h' h.size ad ∧
      ∀ target, Steps p.tables e below (T'.setTop { g with pc := g.pc + 3, stack := .ref h.size :: rest }) target → Steps p.tables e below (T.setTop g) target := by
  obtain ⟨cl, A, q1, S, H, G⟩ := F
  have FC : FitC Z cl := fitC_of A fun i hi v hv => by rw [H i (S ▸ hi)] at hv; cases hv; exact G i (S ▸ hi)
  obtain ⟨T', h', X', e', ex, A', E', st⟩ := cloneA X hx hZ hown w1 w2 w3 w4 w5 w6 eT A E FC hg hsize hst hd hf hW hl (by rw [S]; exact hcap) hc hsl
  exact ⟨T', h', X', e', ex, ⟨cloneOf cl, A', q1, S, H, G⟩, E', st⟩
end Arf
theorem and1_cases (x : Int32) : x &&& (1 : Int32) = (0 : Int32) ∨ x &&& (1 : Int32) = (1 : Int32) := and_one x
theorem and3_cases (x : Int32) : x &&& (3 : Int32) = (0 : Int32) ∨ x &&& (3 : Int32) = (1 : Int32) ∨ x &&& (3 : Int32) = (2 : Int32) ∨ x &&& (3 : Int32) = (3 : Int32) := by
  have h := c_mask x 3 2 (by decide) (by decide)
  simp only [← Int32.toInt_inj]
  have : (0 : Int32).toInt = 0 := by decide
  have : (1 : Int32).toInt = 1 := by decide
  have : (2 : Int32).toInt = 2 := by decide
  have : (3 : Int32).toInt = 3 := by decide
  omega
end Jvm.OwnKit
namespace Jvm.OwnKit
open Sem ClassFile Op Lib Jvm.Stand Jvm.Free Jvm.LawKit Jvm.RoadKit
section Mir
variable {p : Program} {l : Launch} {e : Env} {R : Room} {s : State} {m : MethodId} {args : Array Value} {below : List Frame} {meth : Method} {c : Code} {T : State} {locs : List Loc} {cells slots : Nat} {Z : State} {h : Heap} {a0 : Array Value} {own C : String} {index : Nat} {a b : Addr}
theorem mvMN {host : String} {y : MethodName} (hZ : Z.Warmed39 s.vm) (w : (Cond.methodLinkNest own index y host).before a0 Z = true) : (Cond.methodLinkNest own index y host).before args s = true := (Cond.methodLinkNest_wide hZ w :)
/-- the class named C has its mirror at a -/
def OwMir (Z : State) (C : String) (a : Addr) : Prop := ∃ (c : ClassId) (k : Class), Z.vm.findClass C = some c ∧ Z.vm.classes[c]? = some k ∧ k.mirror = some a
theorem OwMir.move (F : OwMir Z C a) (hZ : Z.Warmed39 s.vm) : OwMir s C a := by
  obtain ⟨c, k, h1, h2, h3⟩ := F
  obtain ⟨k', hk', he⟩ := hZ.alike.2.2 _ _ h2
  exact ⟨c, k', by rw [hZ.alike.findClass]; exact h1, hk', by rw [he]; exact h3⟩
theorem own_ldcm (X : Stand p l e R s m args below meth c T locs cells slots) (hx : p.tables.exec = Jvm.exec) (hZ : Z.Warmed39 s.vm) (hown : s.vm.findClass own = some m.cls) (w : (Cond.classLink own index C).before a0 Z = true) (F : OwMir Z C a) (eT : T.heap = h)
    {g : JFrame} (hg : g.method = m) (hd : decode c.code g.pc = .ok (.ldc index, 2)) :
    ∃ T', Stand p l e R s m args below meth c T' locs cells slots ∧ T'.heap = h ∧ ∀ target, Steps p.tables e below (T'.setTop { g with pc := g.pc + 2, stack := .ref a :: g.stack }) target → Steps p.tables e below (T.setTop g) target := by
  obtain ⟨cc, kc, h1, h2, h3⟩ := F.move hZ
  obtain ⟨vm', X', st⟩ := X.ldcMirror hx hown (mvT hZ w) (a := a) (by simp [Term.eval, h1, h2, h3]) hg hd
  exact ⟨_, X', eT, st⟩
theorem own_gci (X : Stand p l e R s m args below meth c T locs cells slots) (hx : p.tables.exec = Jvm.exec) (hZ : Z.Warmed39 s.vm) {count : Nat} {xi : MethodName} (hown : s.vm.findClass own = some m.cls) (w1 : (Cond.methodLink own index xi).before args s = true) (w2 : (Cond.declares Jvm.Stand.gcN).before args s = true)
    (w3 : (Cond.interfaceMethod xi.cls "java/lang/Object" xi.name xi.desc).before args s = true) (w4 : (Cond.selects C xi Jvm.Stand.gcN).before args s = true) (w5 : (Cond.instanceMethod Jvm.Stand.gcN).before args s = true) (w6 : (Cond.publicMethod Jvm.Stand.gcN).before args s = true) (w7 : (Cond.unhidden C xi.name xi.desc).before args s = true) (w8 : (Cond.castable C xi.cls).before args s = true) (w9 : (Cond.native Jvm.Stand.gcN).before args s = true)
    (hn : xi.cls ≠ "java/lang/invoke/MethodHandle" ∧ xi.cls ≠ "java/lang/invoke/VarHandle") (hxo : xi.cls ≠ "java/lang/Object") (hname : xi.name = "getClass") (hdesc : xi.desc = "()Ljava/lang/Class;") (eT : T.heap = h) (E : Exa Z h b C) (F : OwMir Z C a)
    {g : JFrame} (hg : g.method = m) (hsize : g.locals.size = c.maxLocals) {rest : List Value} (hst : g.stack = .ref b :: rest) (hd : decode c.code g.pc = .ok (.invokeinterface index count, 5)) (hf : 1 ≤ R.frames) {W : Nat} (hW : 2 * g.monitorRoom + (rest.map fun v => v.category).sum ≤ W) (hl : W + 14 ≤ R.locals) :
    ∃ T', Stand p l e R s m args below meth c T' locs cells slots ∧ T'.heap = h ∧ ∀ target, Steps p.tables e below (T'.setTop { g with pc := g.pc + 5, stack := .ref a :: rest }) target → Steps p.tables e below (T.setTop g) target := by
  obtain ⟨cc, kc, h1, h2, h3⟩ := F.move hZ
  obtain ⟨cq, kq, q1, q2, q3⟩ := isOf hZ eT E
  cases h1.symm.trans q1
  obtain ⟨vm', X', st⟩ := X.getClassOfI hx hown w1 w2 w3 w4 w5 w6 w7 w8 w9 hn hxo hname hdesc q1 h2 q3 h3 hg hsize hst hd hf (by
    have : nativeFrameWords "java/lang/Object" "getClass" 1 = 3 := by decide +kernel
    omega)
  exact ⟨_, X', eT, st⟩
theorem own_d2raw (X : Stand p l e R s m args below meth c T locs cells slots) (hx : p.tables.exec = Jvm.exec) (hZ : Z.Warmed39 s.vm) (hown : s.vm.findClass own = some m.cls) (w1 : (Cond.methodLink own index doubleToRawLongBitsName).before a0 Z = true) (w2 : (Cond.native doubleToRawLongBitsName).before a0 Z = true) (w3 : (Cond.static doubleToRawLongBitsName).before a0 Z = true) (w4 : (Cond.initialized "java/lang/Double").before a0 Z = true) (eT : T.heap = h)
    {g : JFrame} (hg : g.method = m) (hsize : g.locals.size = c.maxLocals) {rest : List Value} {x : UInt64} {v : Int64} (hst : g.stack = .double x :: rest) (hd : decode c.code g.pc = .ok (.invokestatic index, 3)) (hv : x.toInt64 = v) (hf : 1 ≤ R.frames) {W : Nat} (hW : 2 * g.monitorRoom + (rest.map fun v => v.category).sum ≤ W) (hl : W + 15 ≤ R.locals) :
    ∃ T', Stand p l e R s m args below meth c T' locs cells slots ∧ T'.heap = h ∧ ∀ target, Steps p.tables e below (T'.setTop { g with pc := g.pc + 3, stack := .long v :: rest }) target → Steps p.tables e below (T.setTop g) target := by
  subst hv
  obtain ⟨vm', X', st⟩ := X.doubleToRawLongBits hx hown (mvT hZ w1) (mvT hZ w2) (mvT hZ w3) (mvT hZ w4) hg hsize hst hd hf (by
    have : nativeFrameWords "java/lang/Double" "doubleToRawLongBits" 2 = 4 := by decide +kernel
    omega)
  exact ⟨_, X', eT, st⟩
theorem own_stat {U : State} {n d : String} {v : Value} (hZ : Z.Warmed39 s.vm) (hW : s.vm.Alike U.vm) (S : Sta Z h C n d v) (hh : U.heap = h) : Jvm.Lib.Cold.StaticIs U C n d v := by
  obtain ⟨cf, i, k, f, st, cell, h1, h2, h3, h4, h5, h6, h7⟩ := S
  have q : Jvm.Lib.Cold.StaticIs (U.setVm Z.vm) C n d v := ⟨cf, i, k, f, st, cell, h1, h2, h3, h4, by show U.heap[st]? = _; rw [hh]; exact h5, fun e => by (rw [e] at h6; cases h6), h7⟩
  exact q.there (hZ.alike.trans hW) rfl
/-- Math.ceil of a double that is whole -/
theorem own_ceilB {len W : Nat} {n0 : Nat} {g : UInt64} (hZ : Z.Warmed39 s.vm) (ht : Jvm.Free.Hsc.MCeil.tab.before args s = true) (hg : Jvm.Free.Hsc.Whole g) (S : Sta Z h "java/lang/StrictMath" "$assertionsDisabled" "Z" (.int 1)) (hfr : 5 ≤ R.frames) (hlo : W + 1217 ≤ R.locals) :
    Back l R p e below s args (⟨"java/lang/Math", "ceil", "(D)D"⟩ : MethodName) len W (fun P a => a = #[.double g] ∧ P.U.heap = h ∧ P.cells + 0 ≤ R.cells ∧ P.slots + 0 ≤ R.slots)
      (fun P _ v B => ∃ L, (v = some (.double g) ∧ Fr n0 L ∧ B.U.heap = h) ∧ B.locs = P.locs ++ L ∧ B.cells = P.cells + 0 ∧ B.slots = P.slots + 0) := by
  intro m meth c A f ig mk a X h1 h2 h3 h4 h5 ⟨q1, q2, q3, q4⟩
  have hP : Jvm.Free.Hsc.SCeil.P g a A.U := ⟨q1, hg, own_stat hZ X.warmed.alike S q2⟩
  obtain ⟨v, B, X', ⟨⟨p1, p2, p3, p4⟩, hv⟩, st⟩ := Jvm.Free.Hsc.MCeil.pays ht hfr hlo m meth c A f ig mk a X h1 h2 h3 h4 h5 ⟨q3, q4, g, hP⟩
  exact ⟨v, B, X', ⟨[], ⟨hv g hP, Fr.nil _, by rw [p1]; exact q2⟩, by rw [p2]; exact (List.append_nil _).symm, p3, p4⟩, st⟩
end Mir
end Jvm.OwnKit
namespace Jvm.OwnKit
open Sem ClassFile Op Lib Jvm.Stand Jvm.Free Jvm.LawKit Jvm.RoadKit Jvm.Free.Hsc
open Jvm.Lib.Cold (StaticIs)
section Ceil
variable {p : Program} {l : Launch} {e : Env} {s : State} {sargs : Array Value} {below : List Frame} {c : Code} {T : State} {g : JFrame}
/-- 'invokestatic' where the walk has no claim's room to stand on: the place alone -/
theorem own_invA (hadm : l.admits e) (hx : p.tables.exec = Jvm.exec) (hA : At T g.method c below) (hW : s.WarmedH T.vm) {own : String} {index : Nat} {y : MethodName} (hown : s.vm.findClass own = some g.method.cls) (wl : (Cond.methodLink own index y).before sargs s = true)
    {mk : MethodId} {mY : Method} {kY : Class} (hn : s.methodNamed? y = some mk) (hm : s.vm.method? mk = some mY) (hst : mY.isStatic = true) (hk : s.vm.classes[mk.cls]? = some kY) (hi : kY.init = .initialized) (hy : y.cls ≠ "java/lang/invoke/MethodHandle" ∧ y.cls ≠ "java/lang/invoke/VarHandle")
    {as rest : List Value} (hlen : as.length = mY.sig.parameters.length) (hs : g.stack = as.reverse ++ rest) (hd : decode c.code g.pc = .ok (.invokestatic index, 3)) :
    ∃ vm', s.WarmedH vm' ∧ At (T.setVm vm') g.method c below ∧ ∀ target, (∀ acts, Steps p.tables e below (doInvoke e ((T.setVm vm').setTop { g with stack := rest }) acts mk as.toArray).1 target) → Steps p.tables e below (T.setTop g) target := by
  have hpl : e.platform.magicAccessors = ({} : Platform).magicAccessors := by rw [hadm.platform]
  have hpv : e.platform.polymorphicOnlyByInvokevirtual = true := by rw [hadm.platform]
  obtain ⟨ci, hl, hr⟩ := Cond.methodLink_spec hown hn wl e.platform hpl
  obtain ⟨kx, hkx, hnx⟩ := className_of_methodNamed hn
  cases hk.symm.trans hkx
  have hE : s.MethodEntry e T.vm g.method.cls index mk ci := State.methodEntry hW hl hr fun k' hk' => by cases hk.symm.trans hk'; rw [hnx]; exact hy
  obtain ⟨dk, cf, nt, nm, ds, via, ck, _, h1, h2, h3, h4, -, -, h5, -, h6, -⟩ := hl.here
  cases hk.symm.trans h5
  obtain ⟨dk', hdk', e1⟩ := hE.warmed.alike.2.2 _ _ h1
  obtain ⟨k', hk', e2⟩ := hE.warmed.alike.2.2 _ _ hk
  have np : (kY.methods.any fun z => z.name == nm && !z.isStatic && signaturePolymorphic kY z) = false := by simp [h6]
  have np' : (k'.methods.any fun z => z.name == nm && !z.isStatic && signaturePolymorphic k' z) = false := by rw [e2]; exact np
  have hal : T.vm.Alike (T.vm.called g.method.cls ci index mk) := (hW.alike.symm).trans hE.warmed.alike
  refine ⟨T.vm.called g.method.cls ci index mk, hE.warmed, hA.setVm hal, fun target q => ?_⟩
  jvm_step hA [hx, hd, invokestatic.wp_cold (e := e) (s := T) (s₀ := s) (f := g) hA.top hpv hW hE h1 h2 h3 h4 hk np,
    invokestatic.wp_ready (e := e) (s := T.setVm (T.vm.called g.method.cls ci index mk)) (k := k') (meth := mY) (m := mk) (args := as) (rest := rest) (f := g) hA.top ⟨ci, nm, ds, via, mk.cls, k', memberRef_ask_via (e := e) hdk' (by rw [e1]; exact h2) h3 h4, hE.classReady, hk', np'⟩ hE.ready hk'
      (by show (T.vm.called g.method.cls ci index mk).method? mk = some mY; rw [hE.warmed.alike.method?]; exact hm) (by rw [e2]; exact h6 mY) hst (by rw [e2]; exact hi) hlen hs]
  exact fun acts => q _
/-- the room of a frame -/
def wordsOf (f : JFrame) : Nat := f.locals.size + 11 + 2 * f.monitorRoom + operandWords f.stack
theorem own_use (f : JFrame) (r : List Frame) : (stackUse (.java f :: r)).2 = (stackUse r).2 + wordsOf f := by
  rw [stackUse_java]
  rfl
/-- a static method that only computes, run from any place where the machine itself has the room: n frames, K words -/
def RunA (p : Program) (e : Env) (s : State) (below : List Frame) (y : MethodName) (a : Array Value) (v : Value) (n K : Nat) : Prop :=
  ∀ (c : Code) (g : JFrame) (ig : Instr) (len : Nat) (mk : MethodId) (T : State), At T g.method c below → s.WarmedH T.vm → T.heap = s.heap → decode c.code g.pc = .ok (ig, len) → s.methodNamed? y = some mk →
    T.frames.length + n < (e.platform.stackLimits T.me).1 → (stackUse (.java g :: T.frames.tail)).2 + K ≤ (e.platform.stackLimits T.me).2 →
    ∃ vm', s.WarmedH vm' ∧ At (T.setVm vm') g.method c below ∧ ∀ acts, Steps p.tables e below (doInvoke e (T.setTop g) acts mk a).1 ((T.setVm vm').setTop { g with pc := g.pc + len, stack := v :: g.stack })
/-- her body alone -/
def BodyA (p : Program) (e : Env) (s : State) (below : List Frame) (y : MethodName) (bytes : ByteArray) (maxL : Nat) (ret : Option FieldType) (a : Array Value) (v : Value) (n K : Nat) : Prop :=
  ∀ (T1 : State) (base : List Frame) (mk : MethodId) (mY : Method) (cY : Code), At T1 mk cY below → s.WarmedH T1.vm → T1.heap = s.heap → s.methodNamed? y = some mk → T1.vm.method? mk = some mY → cY.code = bytes → mY.sig.returnType = ret → T1.frames.tail = base →
      T1.frames.length + n ≤ (e.platform.stackLimits T1.me).1 → (stackUse base).2 + K ≤ (e.platform.stackLimits T1.me).2 →
      ∃ vm' f, s.WarmedH vm' ∧ f.method = mk ∧ f.locked = none ∧ f.entered = [] ∧ ∀ target, (∀ acts, Steps p.tables e below (doReturn e ((T1.setVm vm').setTop f) acts (some v)).1 target) → Steps p.tables e below (T1.setTop (entryFrame mk a maxL)) target
theorem own_bodyA {y : MethodName} {bytes : ByteArray} {maxL : Nat} {ret : Option FieldType} {a : Array Value} {v : Value} {n K : Nat} (hpl : plainFor y = true) (wc : (Cond.code y bytes maxL ret).before sargs s = true) (hK : maxL + 11 ≤ K)
    (body : BodyA p e s below y bytes maxL ret a v n K) : RunA p e s below y a v n K := by
  intro c g ig len mk T hA hW hh hdg hnS hfr hlo
  have hnT : T.methodNamed? y = some mk := by
    have q : T.methodNamed? y = s.methodNamed? y := by rw [State.methodNamed?_of_vm (U := T) (V := s.setVm T.vm) rfl]; exact State.methodNamed?_setVm hW.alike _
    exact q ▸ hnS
  obtain ⟨mY, cY, h1, h2, h3, h4, h5, h6, -, -⟩ := Cond.code_spec hnS wc
  subst h4
  have hmT : T.vm.method? mk = some mY := by rw [hW.alike.method?]; exact h1
  obtain ⟨g₀, hg0⟩ := Option.isSome_iff_exists.mp hA.top
  obtain ⟨r, hr⟩ := State.topJava?_eq_some.mp hg0
  have htl : T.frames.tail = r := by rw [hr]; rfl
  rw [htl] at hlo
  rw [hr, List.length_cons] at hfr
  have hfull : e.platform.stackFull (((T.setTop g).threads[(T.setTop g).cur]?).getD { frames := [] }) (T.setTop g).frames cY.maxLocals = false :=
    roomAbove (pushed := []) (base := .java g :: r) (free := K) (lim := e.platform.stackLimits T.me) (by rw [State.frames_setTop' g hA.top, htl]; rfl) (State.stackLimits_setTop _ hA.top g) (by simp only [List.length_nil, List.length_cons]; omega) hlo (by simp only [stackUse_nil]; omega)
  obtain ⟨x, hxd⟩ : ∃ x, x = Frame.java (entryFrame mk a cY.maxLocals) := ⟨_, rfl⟩
  have hfe := frames_entered (g := g) hA.top x
  rw [htl] at hfe
  have hA1 : At ((T.setTop g).pushFrame x) mk cY below := by rw [hxd]; exact hA.enter a hmT h2 (State.plainMethod.of_named hpl hnT hmT)
  have hlm : e.platform.stackLimits ((T.setTop g).pushFrame x).me = e.platform.stackLimits T.me := by rw [State.stackLimits_pushFrame, State.stackLimits_setTop _ hA.top]
  obtain ⟨vm', f, hW', f1, f2, f3, hst⟩ := body ((T.setTop g).pushFrame x) (.java g :: r) mk mY cY hA1 hW hh hnS hmT h3 h5 (by rw [hfe]; rfl) (by rw [hfe, hlm]; simp only [List.length_cons]; omega) (by rw [hlm]; exact hlo)
  have hal : T.vm.Alike vm' := (hW.alike.symm).trans hW'.alike
  have hA' := hA.setVm hal
  refine ⟨vm', hW', hA', fun acts => ?_⟩
  rw [doInvoke_enter hA.top acts hmT h2 h6 hfull, ← hxd]
  refine hst _ fun acts' => ?_
  have hu : (((T.setTop g).pushFrame x).setVm vm').frames = .java (entryFrame mk a cY.maxLocals) :: .java g :: r := by rw [← hxd]; exact hfe
  rw [doReturn_leave (u := ((T.setTop g).pushFrame x).setVm vm') (f := f) (g := g) (r := r) acts' hu (by rw [f1]; show vm'.method? mk = _; rw [hal.method?]; exact hmT) h6 f2 f3 (by exact hA'.code) hdg]
  have e1 : (((T.setTop g).pushFrame x).setVm vm').setFrames (.java g :: r) = (T.setVm vm').setTop g := by
    have q := setFrames_entered (s := T.setVm vm') (g := g) hA'.top x
    rw [show (T.setVm vm').frames.tail = r from htl] at q
    exact q
  rw [e1, State.setTop_setTop]
  exact Steps.refl _
theorem own_ldcJ (hx : p.tables.exec = Jvm.exec) (hA : At T g.method c below) (hW : s.WarmedH T.vm) {own : String} {index : Nat} {v : Int64} (hown : s.vm.findClass own = some g.method.cls) (wc : (Cond.constantLong own index v).before sargs s = true) (hd : decode c.code g.pc = .ok (.ldc2_w index, 3)) {target : State}
    (q : Steps p.tables e below (T.setTop { g with pc := g.pc + 3, stack := .long v :: g.stack }) target) : Steps p.tables e below (T.setTop g) target := by
  obtain ⟨k, cf, bs, hk, hcf, hcp, hb⟩ := Cond.constantLong_spec hown wc
  obtain ⟨k', hk', he⟩ := hW.alike.2.2 _ _ hk
  jvm_step hA [hx, hd, ldc2_w.wp_long (s := T) (f := g) hA.top hk' (by rw [he]; exact hcf) hcp, hb]
  exact q
theorem own_ldcD (hx : p.tables.exec = Jvm.exec) (hA : At T g.method c below) (hW : s.WarmedH T.vm) {own : String} {index : Nat} {v : UInt64} (hown : s.vm.findClass own = some g.method.cls) (wc : (Cond.constantDouble own index v).before sargs s = true) (hd : decode c.code g.pc = .ok (.ldc2_w index, 3)) {target : State}
    (q : Steps p.tables e below (T.setTop { g with pc := g.pc + 3, stack := .double v :: g.stack }) target) : Steps p.tables e below (T.setTop g) target := by
  obtain ⟨k, cf, hk, hcf, hcp⟩ := Cond.constantDouble_spec hown wc
  obtain ⟨k', hk', he⟩ := hW.alike.2.2 _ _ hk
  jvm_step hA [hx, hd, ldc2_w.wp_double (s := T) (f := g) hA.top hk' (by rw [he]; exact hcf) hcp]
  exact q
/-- what each call of such a walk leaves -/
def GoesA (p : Program) (e : Env) (s : State) (below : List Frame) (c : Code) (T : State) (g g' : JFrame) : Prop :=
  ∃ vm', s.WarmedH vm' ∧ At (T.setVm vm') g.method c below ∧ ∀ target, Steps p.tables e below ((T.setVm vm').setTop g') target → Steps p.tables e below (T.setTop g) target
theorem own_getA (hadm : l.admits e) (hx : p.tables.exec = Jvm.exec) (hA : At T g.method c below) (hW : s.WarmedH T.vm) (hh : T.heap = s.heap) {own ref name desc : String} {index : Nat} {v : Value} (hown : s.vm.findClass own = some g.method.cls) (wl : (Cond.fieldLink own index ref name desc).before sargs s = true) (S : StaticIs s ref name desc v) (hd : decode c.code g.pc = .ok (.getstatic index, 3)) :
    GoesA p e s below c T g { g with pc := g.pc + 3, stack := v :: g.stack } := by
  have hpl : e.platform.magicAccessors = ({} : Platform).magicAccessors := by rw [hadm.platform]
  obtain ⟨cf, i, k, f, a, cell, y1, y2, y3, y4, y5, y6, y7⟩ := S
  obtain ⟨ci, cl, k2, i2, f2, h1, hl, hr⟩ := Cond.fieldLink_spec hown wl e.platform hpl
  cases y1.symm.trans h1
  obtain ⟨hk, hf⟩ := State.fieldFound?_spec y1
  obtain ⟨vm', hW', st⟩ := Steps.getstaticCold (tb := p.tables) hA hx hd hW hl hr hk hf y2 y3 y4 (by rw [hh]; exact y5) y6 y7
  exact ⟨vm', hW', hA.setVm ((hW.alike.symm).trans hW'.alike), st⟩
theorem own_rawA (hadm : l.admits e) (hx : p.tables.exec = Jvm.exec) (hA : At T g.method c below) (hW : s.WarmedH T.vm) {own : String} {index : Nat} (hown : s.vm.findClass own = some g.method.cls) (w1 : (Cond.methodLink own index doubleToRawLongBitsName).before sargs s = true) (w2 : (Cond.native doubleToRawLongBitsName).before sargs s = true) (w3 : (Cond.static doubleToRawLongBitsName).before sargs s = true) (w4 : (Cond.initialized "java/lang/Double").before sargs s = true)
    {b : UInt64} {rest : List Value} (hs : g.stack = .double b :: rest) (hd : decode c.code g.pc = .ok (.invokestatic index, 3)) (hfr : T.frames.length + 1 ≤ (e.platform.stackLimits T.me).1) (hlo : (stackUse T.frames.tail).2 + wordsOf { g with stack := rest } + 15 ≤ (e.platform.stackLimits T.me).2) :
    GoesA p e s below c T g { g with pc := g.pc + 3, stack := .long b.toInt64 :: rest } := by
  obtain ⟨r, kS, mS, hnS, hmS, hkS, N⟩ := NativeOf.of_static w2 w3 (ps := [.double]) (ret := some .long) (by decide +kernel)
  obtain ⟨vm', hW', hA', st⟩ := own_invA hadm hx hA hW hown w1 hnS hmS N.static hkS (Cond.initialized_spec (findClass_of_methodNamed hnS) hkS w4) (by decide) (as := [.double b]) (rest := rest) (by rw [N.sig]; rfl) hs hd
  refine ⟨vm', hW', hA', fun target q => st target fun acts => ?_⟩
  obtain ⟨k', N'⟩ := N.alike hW'.alike
  obtain ⟨g₀, hg0⟩ := Option.isSome_iff_exists.mp hA.top
  obtain ⟨r, hr⟩ := State.topJava?_eq_some.mp hg0
  have htl : T.frames.tail = r := by rw [hr]; rfl
  rw [htl] at hlo
  rw [hr, List.length_cons] at hfr
  have hn : nativeFrameWords "java/lang/Double" "doubleToRawLongBits" 2 = 4 := by decide +kernel
  refine Steps.doubleToRawLongBitsOf (g := { g with stack := rest }) (ig := .invokestatic index) (len := 3) p hA' acts N' b ?_ hd q
  rw [hn]
  exact roomAbove (pushed := []) (base := .java { g with stack := rest } :: r) (free := 15) (lim := e.platform.stackLimits T.me) (by rw [State.frames_setTop' _ hA'.top, show (T.setVm vm').frames.tail = r from htl]; rfl) (State.stackLimits_setTop _ hA'.top _) (by simp only [List.length_nil, List.length_cons]; omega) (by rw [own_use]; exact hlo) (by simp only [stackUse_nil]; omega)
theorem own_callA (hadm : l.admits e) (hx : p.tables.exec = Jvm.exec) (hA : At T g.method c below) (hW : s.WarmedH T.vm) (hh : T.heap = s.heap) {own : String} {index : Nat} {y : MethodName} {bytes : ByteArray} {maxL : Nat} {ret : Option FieldType} (hown : s.vm.findClass own = some g.method.cls) (wl : (Cond.methodLink own index y).before sargs s = true) (ws : (Cond.static y).before sargs s = true) (wi : (Cond.initialized y.cls).before sargs s = true) (wc : (Cond.code y bytes maxL ret).before sargs s = true) (hy : y.cls ≠ "java/lang/invoke/MethodHandle" ∧ y.cls ≠ "java/lang/invoke/VarHandle")
    {as rest : List Value} {v : Value} {n K : Nat} (R : RunA p e s below y as.toArray v n K) {sg : MethodDescriptor} (hsg : parseMethodDescriptor y.desc = some sg) (hlen : as.length = sg.parameters.length) (hs : g.stack = as.reverse ++ rest) (hd : decode c.code g.pc = .ok (.invokestatic index, 3)) (hfr : T.frames.length + n < (e.platform.stackLimits T.me).1) (hlo : (stackUse T.frames.tail).2 + wordsOf { g with stack := rest } + K ≤ (e.platform.stackLimits T.me).2) :
    GoesA p e s below c T g { g with pc := g.pc + 3, stack := v :: rest } := by
  obtain ⟨mk, hn⟩ := Cond.code_named wc
  obtain ⟨mY, cY, h1, -, -, -, -, -, -, h8⟩ := Cond.code_spec hn wc
  obtain ⟨kY, hk, -⟩ := className_of_methodNamed hn
  cases hsg.symm.trans h8
  obtain ⟨vm1, hW1, hA1, st1⟩ := own_invA hadm hx hA hW hown wl hn h1 (Cond.static_spec hn h1 ws) hk (Cond.initialized_spec (findClass_of_methodNamed hn) hk wi) hy (as := as) (rest := rest) hlen hs hd
  obtain ⟨vm2, hW2, hA2, st2⟩ := R c { g with stack := rest } (.invokestatic index) 3 mk (T.setVm vm1) hA1 hW1 hh hd hn hfr (by rw [own_use]; exact hlo)
  exact ⟨vm2, hW2, hA2, fun target q => st1 target fun acts => (st2 acts).trans q⟩
theorem own_gexpA (hadm : l.admits e) (hx : p.tables.exec = Jvm.exec) (b : UInt64) (ht : GetExp.tab.before sargs s = true) : BodyA p e s below GetExp.yN GetExp.yB 2 (some .int) #[.double b] (.int (expOf b)) 1 28 := by
  intro T1 base mk mY cY hA hW hh hn hm hb hr htl hfr hlo
  simp only [GetExp.tab, Cond.before_and, Bool.and_eq_true] at ht
  obtain ⟨-, hL, hN, hS, hI, hc1, hc2⟩ := ht
  have hown : s.vm.findClass MA = some mk.cls := findClass_of_methodNamed hn
  obtain ⟨vm1, hW1, hA1, st1⟩ := own_rawA (g := { method := mk, pc := 1, locals := #[.val (.double b), .second], stack := [.double b], locked := none }) hadm hx hA hW hown hL hN hS hI (b := b) (rest := []) rfl (by rw [hb]; exact GetExp.d1) hfr (by rw [htl]; exact hlo)
  have hm1 : (T1.setVm vm1).vm.method? mk = some mY := by
    show vm1.method? mk = _
    rw [((hW.alike.symm).trans hW1.alike).method?]; exact hm
  refine ⟨vm1, { method := mk, pc := 16, locals := #[.val (.double b), .second], stack := [], locked := none }, hW1, rfl, rfl, rfl, fun target q => ?_⟩
  replace hW1 : s.WarmedH (T1.setVm vm1).vm := hW1
  generalize T1.setVm vm1 = T2 at hW1 hA1 st1 hm1 q
  show Steps p.tables e below (T1.setTop { method := mk, pc := 0, locals := #[.val (.double b), .second], stack := [], locked := none }) _
  jvm_step hA [hA.top, hx, hb, GetExp.d0]
  refine st1 _ ?_
  refine own_ldcJ (g := { method := mk, pc := 4, locals := #[.val (.double b), .second], stack := [.long b.toInt64], locked := none }) hx hA1 hW1 hown hc1 (by rw [hb]; exact GetExp.d4) ?_
  show Steps p.tables e below (T2.setTop { method := mk, pc := 7, locals := #[.val (.double b), .second], stack := [.long 9218868437227405312, .long b.toInt64], locked := none }) _
  jvm_step hA1 [hA1.top, hx, hb, GetExp.d7]
  jvm_step hA1 [hA1.top, hx, hb, GetExp.d8]
  jvm_step hA1 [hA1.top, hx, hb, GetExp.d10]
  refine own_ldcJ (g := { method := mk, pc := 11, locals := #[.val (.double b), .second], stack := [.long ((b.toInt64 &&& 9218868437227405312) >>> ((52 : Int32) &&& 0x3f).toInt64)], locked := none }) hx hA1 hW1 hown hc2 (by rw [hb]; exact GetExp.d11) ?_
  show Steps p.tables e below (T2.setTop { method := mk, pc := 14, locals := #[.val (.double b), .second], stack := [.long 1023, .long ((b.toInt64 &&& 9218868437227405312) >>> ((52 : Int32) &&& 0x3f).toInt64)], locked := none }) _
  jvm_step hA1 [hA1.top, hx, hb, GetExp.d14]
  jvm_step hA1 [hA1.top, hx, hb, GetExp.d15]
  jvm_step hA1 [hA1.top, hx, hb, GetExp.d16, hm1, hr, narrow]
  intro acts
  have h9 := q acts
  simp only [expOf] at h9
  exact h9
set_option maxHeartbeats 4000000 in
theorem own_focA (hadm : l.admits e) (hx : p.tables.exec = Jvm.exec) {b : UInt64} (nb pb sg : UInt64) (hw : Whole b) (hAs : StaticIs s SM "$assertionsDisabled" "Z" (.int 1)) (ht : Foc.tab.before sargs s = true) : BodyA p e s below Foc.yN Foc.yB 15 (some .double) #[.double b, .double nb, .double pb, .double sg] (.double b) 2 54 := by
  intro T1 base mk mY cY hA hW hh hn hm hb hr htl hfr hlo
  simp only [Foc.tab, Cond.before_and, Bool.and_eq_true] at ht
  obtain ⟨-, hLG, hSG, hIM, hTG, hLA, hLD, hND, hSD, hID, hc1⟩ := ht
  obtain ⟨hw1, hw2, hw3, -⟩ := hw
  have hown : s.vm.findClass SM = some mk.cls := findClass_of_methodNamed hn
  have hCG : (Cond.code GetExp.yN GetExp.yB 2 (some .int)).before sargs s = true := by have h := hTG; simp only [GetExp.tab, Cond.before_and, Bool.and_eq_true] at h; exact h.1
  obtain ⟨vm1, hW1, hA1, st1⟩ := own_callA (g := { method := mk, pc := 1, locals := #[.val (.double b), .second, .val (.double nb), .second, .val (.double pb), .second, .val (.double sg), .second, .unset, .unset, .unset, .unset, .unset, .unset, .unset], stack := [.double b], locked := none }) hadm hx hA hW hh hown hLG hSG hIM hCG (by decide) (as := [.double b]) (rest := []) (own_bodyA (by decide +kernel) hCG (by omega) (own_gexpA hadm hx b hTG)) (sg := ⟨[.double], some .int⟩) (by decide +kernel) rfl rfl (by rw [hb]; exact Foc.d1) (by omega) (by rw [htl]; exact hlo)
  have hf1 : (T1.setVm vm1).frames = T1.frames := rfl
  have hl1 : (T1.setVm vm1).me = T1.me := rfl
  have hh1 : (T1.setVm vm1).heap = s.heap := hh
  replace hW1 : s.WarmedH (T1.setVm vm1).vm := hW1
  rw [← hf1] at htl hfr
  rw [← hl1] at hfr hlo
  obtain ⟨vm2, hW2, hA2, st2⟩ := own_getA (g := { method := mk, pc := 43, locals := #[.val (.double b), .second, .val (.double nb), .second, .val (.double pb), .second, .val (.double sg), .second, .val (.int (expOf b)), .unset, .unset, .unset, .unset, .unset, .unset], stack := [], locked := none }) (T := T1.setVm vm1) hadm hx hA1 hW1 hh1 hown hLA hAs (by rw [hb]; exact Foc.d43)
  have hf2 : ((T1.setVm vm1).setVm vm2).frames = (T1.setVm vm1).frames := rfl
  have hl2 : ((T1.setVm vm1).setVm vm2).me = (T1.setVm vm1).me := rfl
  replace hW2 : s.WarmedH ((T1.setVm vm1).setVm vm2).vm := hW2
  rw [← hf2] at htl hfr
  rw [← hl2] at hfr hlo
  obtain ⟨vm3, hW3, hA3, st3⟩ := own_rawA (g := { method := mk, pc := 70, locals := #[.val (.double b), .second, .val (.double nb), .second, .val (.double pb), .second, .val (.double sg), .second, .val (.int (expOf b)), .unset, .unset, .unset, .unset, .unset, .unset], stack := [.double b], locked := none }) (T := (T1.setVm vm1).setVm vm2) hadm hx hA2 hW2 hown hLD hND hSD hID (b := b) (rest := []) rfl (by rw [hb]; exact Foc.d70) (by omega) (by rw [htl]; show _ + 26 + 15 ≤ _; omega)
  have hm3 : (((T1.setVm vm1).setVm vm2).setVm vm3).vm.method? mk = some mY := by
    show vm3.method? mk = _
    rw [((hW.alike.symm).trans hW3.alike).method?]; exact hm
  refine ⟨vm3, { method := mk, pc := 94, locals := #[.val (.double b), .second, .val (.double nb), .second, .val (.double pb), .second, .val (.double sg), .second, .val (.int (expOf b)), .val (.long b.toInt64), .second, .val (.long (maskOf b)), .second, .unset, .unset], stack := [], locked := none }, hW3, rfl, rfl, rfl, fun target q => ?_⟩
  replace hW3 : s.WarmedH (((T1.setVm vm1).setVm vm2).setVm vm3).vm := hW3
  have q' : ∀ acts, Steps p.tables e below (doReturn e ((((T1.setVm vm1).setVm vm2).setVm vm3).setTop { method := mk, pc := 94, locals := #[.val (.double b), .second, .val (.double nb), .second, .val (.double pb), .second, .val (.double sg), .second, .val (.int (expOf b)), .val (.long b.toInt64), .second, .val (.long (maskOf b)), .second, .unset, .unset], stack := [], locked := none }) acts (some (.double b))).1 target := q
  clear q hf1 hl1 hf2 hl2 htl hfr hlo
  generalize ((T1.setVm vm1).setVm vm2).setVm vm3 = T4 at hW3 hA3 st3 hm3 q'
  generalize (T1.setVm vm1).setVm vm2 = T3 at hA2 st2 st3 hW2
  generalize T1.setVm vm1 = T2 at hA1 st1 st2 hW1 hh1
  show Steps p.tables e below (T1.setTop { method := mk, pc := 0, locals := #[.val (.double b), .second, .val (.double nb), .second, .val (.double pb), .second, .val (.double sg), .second, .unset, .unset, .unset, .unset, .unset, .unset, .unset], stack := [], locked := none }) _
  jvm_step hA [hA.top, hx, hb, Foc.d0]
  refine st1 _ ?_
  show Steps p.tables e below (T2.setTop { method := mk, pc := 4, locals := #[.val (.double b), .second, .val (.double nb), .second, .val (.double pb), .second, .val (.double sg), .second, .unset, .unset, .unset, .unset, .unset, .unset, .unset], stack := [.int (expOf b)], locked := none }) _
  jvm_step hA1 [hA1.top, hx, hb, Foc.d4]
  refine ⟨#[.val (.double b), .second, .val (.double nb), .second, .val (.double pb), .second, .val (.double sg), .second, .val (.int (expOf b)), .unset, .unset, .unset, .unset, .unset, .unset], rfl, ?_⟩
  jvm_step hA1 [hA1.top, hx, hb, Foc.d6]
  jvm_step hA1 [hA1.top, hx, hb, Foc.d8, ifCond.wp_sem, ifCond.holds, hw1]
  show Steps p.tables e below (T2.setTop { method := mk, pc := 34, locals := #[.val (.double b), .second, .val (.double nb), .second, .val (.double pb), .second, .val (.double sg), .second, .val (.int (expOf b)), .unset, .unset, .unset, .unset, .unset, .unset], stack := [], locked := none }) _
  jvm_step hA1 [hA1.top, hx, hb, Foc.d34]
  jvm_step hA1 [hA1.top, hx, hb, Foc.d36]
  jvm_step hA1 [hA1.top, hx, hb, Foc.d38, if_icmp.holds, hw2]
  show Steps p.tables e below (T2.setTop { method := mk, pc := 43, locals := #[.val (.double b), .second, .val (.double nb), .second, .val (.double pb), .second, .val (.double sg), .second, .val (.int (expOf b)), .unset, .unset, .unset, .unset, .unset, .unset], stack := [], locked := none }) _
  refine st2 _ ?_
  show Steps p.tables e below (T3.setTop { method := mk, pc := 46, locals := #[.val (.double b), .second, .val (.double nb), .second, .val (.double pb), .second, .val (.double sg), .second, .val (.int (expOf b)), .unset, .unset, .unset, .unset, .unset, .unset], stack := [.int 1], locked := none }) _
  jvm_step hA2 [hA2.top, hx, hb, Foc.d46, ifCond.wp_sem, ifCond.holds]
  show Steps p.tables e below (T3.setTop { method := mk, pc := 69, locals := #[.val (.double b), .second, .val (.double nb), .second, .val (.double pb), .second, .val (.double sg), .second, .val (.int (expOf b)), .unset, .unset, .unset, .unset, .unset, .unset], stack := [], locked := none }) _
  jvm_step hA2 [hA2.top, hx, hb, Foc.d69]
  refine st3 _ ?_
  show Steps p.tables e below (T4.setTop { method := mk, pc := 73, locals := #[.val (.double b), .second, .val (.double nb), .second, .val (.double pb), .second, .val (.double sg), .second, .val (.int (expOf b)), .unset, .unset, .unset, .unset, .unset, .unset], stack := [.long b.toInt64], locked := none }) _
  jvm_step hA3 [hA3.top, hx, hb, Foc.d73]
  refine ⟨#[.val (.double b), .second, .val (.double nb), .second, .val (.double pb), .second, .val (.double sg), .second, .val (.int (expOf b)), .val (.long b.toInt64), .second, .unset, .unset, .unset, .unset], rfl, ?_⟩
  refine own_ldcJ (g := { method := mk, pc := 75, locals := #[.val (.double b), .second, .val (.double nb), .second, .val (.double pb), .second, .val (.double sg), .second, .val (.int (expOf b)), .val (.long b.toInt64), .second, .unset, .unset, .unset, .unset], stack := [], locked := none }) hx hA3 hW3 hown hc1 (by rw [hb]; exact Foc.d75) ?_
  show Steps p.tables e below (T4.setTop { method := mk, pc := 78, locals := #[.val (.double b), .second, .val (.double nb), .second, .val (.double pb), .second, .val (.double sg), .second, .val (.int (expOf b)), .val (.long b.toInt64), .second, .unset, .unset, .unset, .unset], stack := [.long 4503599627370495], locked := none }) _
  jvm_step hA3 [hA3.top, hx, hb, Foc.d78]
  jvm_step hA3 [hA3.top, hx, hb, Foc.d80]
  show Steps p.tables e below (T4.setTop { method := mk, pc := 81, locals := #[.val (.double b), .second, .val (.double nb), .second, .val (.double pb), .second, .val (.double sg), .second, .val (.int (expOf b)), .val (.long b.toInt64), .second, .unset, .unset, .unset, .unset], stack := [.long (maskOf b)], locked := none }) _
  jvm_step hA3 [hA3.top, hx, hb, Foc.d81]
  refine ⟨#[.val (.double b), .second, .val (.double nb), .second, .val (.double pb), .second, .val (.double sg), .second, .val (.int (expOf b)), .val (.long b.toInt64), .second, .val (.long (maskOf b)), .second, .unset, .unset], rfl, ?_⟩
  jvm_step hA3 [hA3.top, hx, hb, Foc.d83]
  jvm_step hA3 [hA3.top, hx, hb, Foc.d85]
  jvm_step hA3 [hA3.top, hx, hb, Foc.d87]
  jvm_step hA3 [hA3.top, hx, hb, Foc.d88]
  jvm_step hA3 [hA3.top, hx, hb, Foc.d89, hw3]
  jvm_step hA3 [hA3.top, hx, hb, Foc.d90, ifCond.wp_sem, ifCond.holds]
  jvm_step hA3 [hA3.top, hx, hb, Foc.d93]
  jvm_step hA3 [hA3.top, hx, hb, Foc.d94, hm3, hr, narrow]
  first | exact q' | (intro acts; exact q' acts) | exact ⟨mY, hm3, ⟨_, hr, rfl⟩, q'⟩
theorem own_sceilA (hadm : l.admits e) (hx : p.tables.exec = Jvm.exec) {b : UInt64} (hw : Whole b) (hAs : StaticIs s SM "$assertionsDisabled" "Z" (.int 1)) (ht : SCeil.tab.before sargs s = true) : BodyA p e s below SCeil.yN SCeil.yB 2 (some .double) #[.double b] (.double b) 3 67 := by
  intro T1 base mk mY cY hA hW hh hn hm hb hr htl hfr hlo
  simp only [SCeil.tab, Cond.before_and, Bool.and_eq_true] at ht
  obtain ⟨-, hc1, hLF, hSF, hIS, hTF⟩ := ht
  have hown : s.vm.findClass SM = some mk.cls := findClass_of_methodNamed hn
  have hCF : (Cond.code Foc.yN Foc.yB 15 (some .double)).before sargs s = true := by have h := hTF; simp only [Foc.tab, Cond.before_and, Bool.and_eq_true] at h; exact h.1
  obtain ⟨vm1, hW1, hA1, st1⟩ := own_callA (g := { method := mk, pc := 6, locals := #[.val (.double b), .second], stack := [.double 0x3FF0000000000000, .double 0x3FF0000000000000, .double 0x8000000000000000, .double b], locked := none }) hadm hx hA hW hh hown hLF hSF hIS hCF (by decide) (as := [.double b, .double 0x8000000000000000, .double 0x3FF0000000000000, .double 0x3FF0000000000000]) (rest := []) (own_bodyA (by decide +kernel) hCF (by omega) (own_focA hadm hx _ _ _ hw hAs hTF)) (sg := ⟨[.double, .double, .double, .double], some .double⟩) (by decide +kernel) rfl rfl (by rw [hb]; exact SCeil.d6) (by omega) (by rw [htl]; exact hlo)
  have hm1 : (T1.setVm vm1).vm.method? mk = some mY := by
    show vm1.method? mk = _
    rw [((hW.alike.symm).trans hW1.alike).method?]; exact hm
  refine ⟨vm1, { method := mk, pc := 9, locals := #[.val (.double b), .second], stack := [], locked := none }, hW1, rfl, rfl, rfl, fun target q => ?_⟩
  generalize T1.setVm vm1 = T2 at hA1 st1 hm1 q
  show Steps p.tables e below (T1.setTop { method := mk, pc := 0, locals := #[.val (.double b), .second], stack := [], locked := none }) _
  jvm_step hA [hA.top, hx, hb, SCeil.d0]
  refine own_ldcD (g := { method := mk, pc := 1, locals := #[.val (.double b), .second], stack := [.double b], locked := none }) hx hA hW hown hc1 (by rw [hb]; exact SCeil.d1) ?_
  show Steps p.tables e below (T1.setTop { method := mk, pc := 4, locals := #[.val (.double b), .second], stack := [.double 0x8000000000000000, .double b], locked := none }) _
  jvm_step hA [hA.top, hx, hb, SCeil.d4]
  jvm_step hA [hA.top, hx, hb, SCeil.d5]
  refine st1 _ ?_
  show Steps p.tables e below (T2.setTop { method := mk, pc := 9, locals := #[.val (.double b), .second], stack := [.double b], locked := none }) _
  jvm_step hA1 [hA1.top, hx, hb, SCeil.d9, hm1, hr, narrow]
  first | exact q | (intro acts; exact q acts) | exact ⟨mY, hm1, ⟨_, hr, rfl⟩, q⟩
/-- Math.ceil, a native row that calls StrictMath.ceil above her own frame: by the machine's limits alone -/
theorem own_ceilN (hadm : l.admits e) (hx : p.tables.exec = Jvm.exec) {b : UInt64} {mk : MethodId} {ig : Instr} {len : Nat} (hA : At s g.method c below) (hd : decode c.code g.pc = .ok (ig, len)) (hn : s.methodNamed? MCeil.yN = some mk) (hw : Whole b) (hAs : StaticIs s SM "$assertionsDisabled" "Z" (.int 1)) (ht : MCeil.tab.before sargs s = true)
    (hfr : s.frames.length + 4 < (e.platform.stackLimits s.me).1) (hlo : (stackUse (.java g :: s.frames.tail)).2 + 67 ≤ (e.platform.stackLimits s.me).2) :
    ∃ vm', s.WarmedH vm' ∧ ∀ acts, Steps p.tables e below (doInvoke e (s.setTop g) acts mk #[.double b]).1 ((s.setVm vm').setTop { g with pc := g.pc + len, stack := .double b :: g.stack }) := by
  obtain ⟨g₀, hg0⟩ := Option.isSome_iff_exists.mp hA.top
  obtain ⟨r, hr⟩ := State.topJava?_eq_some.mp hg0
  have htl : s.frames.tail = r := by rw [hr]; rfl
  have hcur : s.cur < s.threads.size := State.cur_lt_of_frames hr
  obtain ⟨mid, hmid⟩ := hA.above
  rw [htl] at hmid hlo
  rw [hr, List.length_cons] at hfr
  simp only [MCeil.tab, Cond.before_and, Bool.and_eq_true] at ht
  obtain ⟨hcM, hiS, hTS⟩ := ht
  obtain ⟨mM, cM, m1, m2, -, m4, -, m6, -, m8⟩ := Cond.code_spec hn hcM
  obtain ⟨kM, k1, k2⟩ := className_of_methodNamed hn
  obtain ⟨n1, n2⟩ := name_of_methodNamed hn m1
  have hxM : kM.methods[mk.idx]? = some mM := by simpa [Vm.method?, k1] using m1
  have hbM : kM.loader = none := Vm.bootOf_findClass (findClass_of_methodNamed hn) k1
  have hCS : (Cond.code SCeil.yN SCeil.yB 2 (some .double)).before sargs s = true := by have h := hTS; simp only [SCeil.tab, Cond.before_and, Bool.and_eq_true] at h; exact h.1
  obtain ⟨mS, hnS⟩ := Cond.code_named hCS
  obtain ⟨mS1, cS, s1, s2, s3, s4, s5, s6, -, -⟩ := Cond.code_spec hnS hCS
  obtain ⟨kS, hkS, -⟩ := className_of_methodNamed hnS
  have hfS : s.vm.findClass "java/lang/StrictMath" = some mS.cls := findClass_of_methodNamed hnS
  have hmS : kS.findMethod "ceil" "(D)D" = some mS.idx := by
    have q := hnS
    simp only [State.methodNamed?, Option.bind_eq_bind, Option.bind_eq_some_iff, Option.pure_def, Option.some.injEq] at q
    obtain ⟨c1, -, k, hk, i, hi, rfl⟩ := q
    cases hkS.symm.trans hk
    exact hi
  obtain ⟨nf, hnf⟩ : ∃ x : NFrame, x = { method := mk, args := #[.double b], stage := 1, saved := #[], awaiting := true, answer := none, words := 0 } := ⟨_, rfl⟩
  obtain ⟨T1, hT1⟩ : ∃ x : State, x = s.setFrames (.java (entryFrame mS #[.double b] 2) :: .native nf :: .java g :: r) := ⟨_, rfl⟩
  have hF1 : T1.frames = .java (entryFrame mS #[.double b] 2) :: .native nf :: .java g :: r := by rw [hT1]; exact State.frames_setFrames _ hcur
  have hv1 : T1.vm = s.vm := by rw [hT1]; rfl
  have hn1 : T1.methodNamed? SCeil.yN = some mS := by rw [State.methodNamed?_of_vm hv1]; exact hnS
  have hA1 : At T1 mS cS below :=
    ⟨by rw [State.topJava?_of_frames hF1]; rfl, ⟨.native nf :: .java g :: mid, by rw [hF1, hmid]; rfl⟩, by rw [hT1]; exact hA.running, by rw [hT1]; simpa using hA.runnable, by rw [hT1]; simpa using hA.alone, by rw [State.code?_eq, hv1, s1]; exact s2, State.plainMethod.of_named (by decide +kernel) hn1 (by rw [hv1]; exact s1)⟩
  have hlm : e.platform.stackLimits T1.me = e.platform.stackLimits s.me := by rw [hT1]; exact State.stackLimits_setFrames _ _ _
  have hus : (stackUse (.native nf :: .java g :: r)).2 = (stackUse (.java g :: r)).2 := by rw [stackUse_light (.native nf) _ (fun f h => by cases h) (by rw [hnf]; rfl)]
  obtain ⟨vm', f, hW', f1, f2, f3, st⟩ := own_sceilA hadm hx hw hAs hTS T1 (.native nf :: .java g :: r) mS mS1 cS hA1 (by rw [hv1]; exact State.WarmedH.refl s) (by rw [hT1]; rfl) hnS (by rw [hv1]; exact s1) s3 s5 (by rw [hF1]; rfl) (by rw [hF1, hlm]; simp only [List.length_cons]; omega) (by rw [hlm, hus]; exact hlo)
  refine ⟨vm', hW', fun acts => ?_⟩
  have htop : s.setTop g = s.setFrames (.java g :: r) := State.setTop_of_frames _ hr
  have hfu : e.platform.stackFull (((s.setTop g).threads[(s.setTop g).cur]?).getD { frames := [] }) (s.setTop g).frames cM.maxLocals = false :=
    roomAbove (pushed := []) (base := .java g :: r) (free := 67) (lim := e.platform.stackLimits s.me) (by rw [State.frames_setTop' g hA.top, htl]; rfl) (State.stackLimits_setTop _ hA.top g) (by simp only [List.length_nil, List.length_cons]; omega) hlo (by simp only [stackUse_nil]; omega)
  rw [(doInvoke_java (s := s.setTop g) (e := e) (acts := acts) (args := #[.double b]) m1 m2 m6 hfu).1, m4]
  have hU : (s.setTop g).pushFrame (.java { method := mk, pc := 0, locals := argsToLocals #[.double b] 2, stack := [], locked := none }) = s.setFrames (.java (entryFrame mk #[.double b] 2) :: .java g :: r) := by
    rw [State.pushFrame, State.frames_setTop _ hr, htop, State.setFrames_setFrames]
    rfl
  rw [hU]
  have hf0 : (s.setFrames (.java (entryFrame mk #[.double b] 2) :: .java g :: r)).frames = .java (entryFrame mk #[.double b] 2) :: .java g :: r := State.frames_setFrames _ hcur
  refine Steps.head ⟨hA.running, by simpa using hA.runnable, by simpa using hA.alone⟩ ⟨.java (entryFrame mk #[.double b] 2) :: .java g :: mid, by rw [hf0, hmid]; rfl, by simp, by simp⟩ ?_
  have hov : overridden p.tables e (s.setFrames (.java (entryFrame mk #[.double b] 2) :: .java g :: r)) (entryFrame mk #[.double b] 2) = some ceilRow :=
    Jvm.Free.Fl.Abs.overridden_some (k := kM) (x := mM) rfl k1 (by rw [k2]; decide) hbM hxM (by rw [k2, n1, n2]; exact ceil_row p)
  obtain ⟨acts₂, h2⟩ := ceil_run b e (s.setFrames (.native { method := mk, args := #[.double b] } :: .java g :: r)) hfS hkS (Cond.initialized_spec hfS hkS hiS) hmS
  have hac : ∀ F : List Frame, 1 ≤ argCount (s.setFrames F) mk := by
    intro F
    have q : parseMethodDescriptor MCeil.yN.desc = some ⟨[.double], some .double⟩ := by decide +kernel
    have hp : mM.sig.parameters.length = 1 := by rw [← Option.some.inj (q.symm.trans m8)]; rfl
    have hb : ((s.setFrames F).vm.classes[mk.cls]?).bind (·.methods[mk.idx]?) = some mM := by
      show (s.vm.classes[mk.cls]?).bind (·.methods[mk.idx]?) = some mM
      rw [k1]; exact hxM
    unfold argCount
    rw [hb]
    show 1 ≤ mM.sig.parameters.length + _
    omega
  have hgiv : ∀ (n : Nat) (φ : Slot → Option Value), 1 ≤ n → φ (.val (.double b)) = some (.double b) → φ .second = none → (((entryFrame mk #[.double b] 2).locals.toList.filterMap φ).toArray.extract 0 n : Array Value) = #[.double b] := by
    intro n φ hn h1 h2
    obtain ⟨k, rfl⟩ : ∃ k, n = k + 1 := ⟨n - 1, by omega⟩
    have q : (entryFrame mk #[.double b] 2).locals.toList = [.val (.double b), .second] := rfl
    rw [q]
    simp [h1, h2]
  have huw : upcallWords MCeil.yN.cls MCeil.yN.name = 0 := by decide
  have hwd : ∀ F : List Frame, (((s.setFrames F).vm.classes[mk.cls]?).bind fun k => (k.methods[mk.idx]?).map fun n => upcallWords k.name n.name).getD 0 = 0 := by
    intro F
    show ((s.vm.classes[mk.cls]?).bind fun k => (k.methods[mk.idx]?).map fun n => upcallWords k.name n.name).getD 0 = 0
    simp [k1, hxM, k2, n1, huw]
  have step2 : (stepThread p.tables e (s.setFrames (.java (entryFrame mk #[.double b] 2) :: .java g :: r))).1 = (doInvoke e (s.setFrames (.native nf :: .java g :: r)) acts₂ mS #[.double b]).1 := by
    unfold stepThread
    simp only [hf0, hov]
    have q2 : (entryFrame mk #[.double b] 2).method = mk := rfl
    have q3 : (entryFrame mk #[.double b] 2).locked = none := rfl
    rw [q2, q3, hgiv _ _ (hac _) rfl rfl, State.setFrames_setFrames, h2]
    simp only [afterNative, hwd, State.setFrames_setFrames]
    rw [hnf]
  rw [step2]
  have hfu2 : e.platform.stackFull (((s.setFrames (.native nf :: .java g :: r)).threads[(s.setFrames (.native nf :: .java g :: r)).cur]?).getD { frames := [] }) (s.setFrames (.native nf :: .java g :: r)).frames cS.maxLocals = false :=
    roomAbove (pushed := []) (base := .native nf :: .java g :: r) (free := 67) (lim := e.platform.stackLimits s.me) (by rw [State.frames_setFrames _ hcur]; rfl) (State.stackLimits_setFrames _ _ _) (by simp only [List.length_nil, List.length_cons]; omega) (by rw [hus]; exact hlo) (by simp only [stackUse_nil]; omega)
  rw [(doInvoke_java (s := s.setFrames (.native nf :: .java g :: r)) (e := e) (acts := acts₂) (args := #[.double b]) s1 s2 s6 hfu2).1, s4]
  have hV : (s.setFrames (.native nf :: .java g :: r)).pushFrame (.java { method := mS, pc := 0, locals := argsToLocals #[.double b] 2, stack := [], locked := none }) = T1.setTop (entryFrame mS #[.double b] 2) := by
    rw [State.setTop_of_frames _ hF1, hT1, State.setFrames_setFrames, State.pushFrame, State.frames_setFrames _ hcur, State.setFrames_setFrames]
    rfl
  rw [hV]
  refine st _ fun acts₃ => ?_
  have hal : s.vm.Alike vm' := hW'.alike
  obtain ⟨nf', hnf'⟩ : ∃ x : NFrame, x = { method := mk, args := #[.double b], stage := 1, saved := #[], awaiting := false, answer := some (.returned (some (.double b))), words := 0 } := ⟨_, rfl⟩
  rw [ret_to (t := T1.setVm vm') (f := f) (fs := .native nf' :: .java g :: r) hF1 (by rw [f1]; show vm'.method? mS = _; rw [hal.method?]; exact s1) s6 f2 f3 (by rw [hnf', hnf]; rfl) acts₃]
  have eY : (T1.setVm vm').setFrames (.native nf' :: .java g :: r) = (s.setVm vm').setFrames (.native nf' :: .java g :: r) := by
    rw [hT1]
    exact State.setFrames_setFrames (s.setVm vm') _ _
  rw [eY]
  obtain ⟨Y, hY⟩ : ∃ x : State, x = (s.setVm vm').setFrames (.native nf' :: .java g :: r) := ⟨_, rfl⟩
  rw [← hY]
  have hcu' : (s.setVm vm').cur < (s.setVm vm').threads.size := hcur
  have hfY : Y.frames = .native nf' :: .java g :: r := by rw [hY]; exact State.frames_setFrames _ hcu'
  have hvY : Y.vm = vm' := by rw [hY]; rfl
  obtain ⟨k', hk', ek⟩ := hal.2.2 _ _ k1
  obtain ⟨acts₄, h4⟩ := ceil_resume (whole_noNaN hw) e Y
  refine Steps.head ⟨by rw [hY]; exact hA.running, by rw [hY]; simpa using hA.runnable, by rw [hY]; simpa using hA.alone⟩ ⟨.native nf' :: .java g :: mid, by rw [hfY, hmid]; rfl, by simp, by simp⟩ ?_
  have hcY : Y.code? g.method = some c := by
    have q : Y.code? g.method = s.code? g.method := by rw [State.code?_eq, State.code?_eq, hvY, hal.method?]
    rw [q]; exact hA.code
  have hho : handOver Y (some (.double b)) (.java g :: r) = some (.java { g with pc := g.pc + len, stack := .double b :: g.stack } :: r) := by simp [handOver, hcY, hd, Except.toOption]
  have step4 : (stepThread p.tables e Y).1 = Y.setFrames (.java { g with pc := g.pc + len, stack := .double b :: g.stack } :: r) := by
    rw [stepThread_resumed' (f := nf') (k := k') (x := mM) (row := ceilRow) (o := .returned (some (.double b))) hfY (by rw [hvY, hnf']; exact hk') (by rw [ek]; exact hbM) (by rw [ek, hnf']; exact hxM) (by rw [ek]; show NativeRow.find? p.tables.natives kM.name _ _ = _; rw [k2, n1, n2]; exact ceil_row p) (by rw [hnf'])]
    rw [show nf'.stage = 1 by rw [hnf'], show nf'.saved = #[] by rw [hnf'], h4]
    exact doReturn_native hfY (by rw [hnf']) hho
  rw [step4]
  have hfin : Y.setFrames (.java { g with pc := g.pc + len, stack := .double b :: g.stack } :: r) = (s.setVm vm').setTop { g with pc := g.pc + len, stack := .double b :: g.stack } := by
    rw [hY, State.setFrames_setFrames]
    exact (State.setTop_of_frames (s := s.setVm vm') _ hr).symm
  rw [hfin]
  exact Steps.refl _
end Ceil
section CeilB
variable {p : Program} {l : Launch} {e : Env} {R : Room} {s : State} {args : Array Value} {below : List Frame} {Z : State} {h : Heap}
/-- Math.ceil of a double that is whole, within 67 words -/
theorem own_ceilC {len W : Nat} {n0 : Nat} {g : UInt64} (hZ : Z.Warmed39 s.vm) (ht : MCeil.tab.before args s = true) (hg : Whole g) (S : Sta Z h "java/lang/StrictMath" "$assertionsDisabled" "Z" (.int 1)) (hfr : 5 ≤ R.frames) (hlo : W + 67 ≤ R.locals) :
    Back l R p e below s args (⟨"java/lang/Math", "ceil", "(D)D"⟩ : MethodName) len W (fun P a => a = #[.double g] ∧ P.U.heap = h ∧ P.cells + 0 ≤ R.cells ∧ P.slots + 0 ≤ R.slots)
      (fun P _ v B => ∃ L, (v = some (.double g) ∧ Fr n0 L ∧ B.U.heap = h) ∧ B.locs = P.locs ++ L ∧ B.cells = P.cells + 0 ∧ B.slots = P.slots + 0) := by
  intro m meth c A f ig mk a X h1 h2 h3 h4 h5 ⟨q1, q2, q3, q4⟩
  subst h1 q1
  have hex : p.tables.exec = Jvm.exec := by cases p <;> rfl
  have htU : MCeil.tab.before args A.U = true := Cond.tabsOnly_warm (T := A.U) X.warmed _ MCeil.tab_tabsOnly ht
  obtain ⟨vm', hW', st⟩ := own_ceilN (s := A.U) (g := f) X.admits hex X.here h3 h5 hg (own_stat hZ X.warmed.alike S q2) htU (X.framesAbove (by omega)) (X.stackAbove h2 (by omega))
  exact ⟨some (.double g), ⟨A.U.setVm vm', A.locs, A.cells, A.slots⟩, X.noted (State.WarmedH.trans X.warmed hW'), ⟨[], ⟨rfl, Fr.nil _, q2⟩, (List.append_nil _).symm, rfl, rfl⟩, st []⟩
end CeilB
end Jvm.OwnKit
namespace Jvm.Pilot.@@N@@
open Jvm Jvm.ClassFile Sem Op Lib Jvm.Free Jvm.Stand Jvm.LawKit Jvm.RoadKit Jvm.OwnKit Bundle Jvm.Pilot.@@N@@.Jvm.D
theorem own_somei {x y : Int32} (h : x = y) : some (Value.int x) = some (Value.int y) := by rw [h]
theorem own_whole : Jvm.Free.Hsc.Whole (4625196817309499392 : UInt64) := by
  unfold Jvm.Free.Hsc.Whole
  decide +kernel
theorem own_ceil_tab {Z s : State} {a0 args : Array Value} (hZ : Z.Warmed39 s.vm) (hw : ∀ d ∈ tables_1, d.before a0 Z = true) : Jvm.Free.Hsc.MCeil.tab.before args s = true := by
  simp only [Jvm.Free.Hsc.MCeil.tab, Jvm.Free.Hsc.SCeil.tab, Jvm.Free.Hsc.Foc.tab, Jvm.Free.Hsc.GetExp.tab, Cond.before_and, Bool.and_eq_true]
  and_intros <;> exact mvT hZ (hw _ (by decide +kernel))
theorem own_div : FP.ddiv (4622945017495814144 : UInt64) (4604930618986332160 : UInt64) = (4625196817309499392 : UInt64) := by decide +kernel
theorem own_nonan : Jvm.Free.Fl.NoNaN64 (FP.ddiv (4622945017495814144 : UInt64) (4604930618986332160 : UInt64)) := by
  rw [own_div]
  show (4625196817309499392 : UInt64) &&& 0x7fffffffffffffff ≤ 0x7ff0000000000000
  decide
theorem d3_0 : decode jdk_22_method_1_code 0 = .ok (.aload_n 0, 1) := by decide +kernel
theorem d3_1 : decode jdk_22_method_1_code 1 = .ok (.invokespecial 1, 3) := by decide +kernel
theorem d3_4 : decode jdk_22_method_1_code 4 = .ok (.return_, 1) := by decide +kernel
theorem ef_rm_ac (m : MethodId) (t : Addr)  : entryFrame m #[(.ref t)] 1 = mkF m 0 #[.val (.ref t)] [] := by first | (simp [entryFrame, mkF, argsToLocals, Value.category]; done) | rfl
def Q_rm_ac (Z : State) (t : Addr)  (h0 : Heap) (n0 : Nat) (v : Option Value) (h : Heap) (L : List Loc) : Prop := v = none ∧ Fr n0 L ∧ h = h0
theorem pn_0_ : plainName "java/util/AbstractCollection" = true := by first | (simp [plainName, overriddenIn]; done) | decide +kernel
theorem pn_0 : plainFor (⟨"java/util/AbstractCollection", "<init>", "()V"⟩ : MethodName) = true := plainFor_of_name pn_0_
set_option maxRecDepth 65536 in
set_option maxHeartbeats 40000000 in
theorem rm_ac (l : Launch) (Z : State) (a0 : Array Value) (hw : ∀ d ∈ tables_1, d.before a0 Z = true) (ws : List Jvm.Cond) (t : Addr)  (h0 : Heap) (n0 : Nat) (O0 : Old Z n0 h0)  :
    MetFree l (⟨"java/util/AbstractCollection", "<init>", "()V"⟩ : MethodName) (head1 (Jvm.Cond.code (⟨"java/util/AbstractCollection", "<init>", "()V"⟩ : MethodName) jdk_22_method_1_code 1 none :: ws) ({ frames := 1, cells := 0, slots := 0, locals := 12 } : Room)) (fun args_ U => args_ = #[(.ref t)] ∧ Z.Warmed39 U.vm ∧ U.heap = h0) (fun _ _ _ _ _ => True) (fun _ U out_ U' => ∃ val_ loc_, out_ = .returned val_ ∧ (Q_rm_ac Z t h0 n0) val_ U'.heap loc_ ∧ FrameEnd U out_ U' loc_ ({ frames := 1, cells := 0, slots := 0, locals := 12 } : Room).cells ({ frames := 1, cells := 0, slots := 0, locals := 12 } : Room).slots) := by
  refine start (Q := (Q_rm_ac Z t h0 n0)) pn_0 ?_
  intro p e s m below meth c T0 X0 hx hby hml hown hnm hret hlk hZ e0
  replace hown : s.vm.findClass "java/util/AbstractCollection" = some m.cls := hown
  replace hml : c.maxLocals = 1 := hml
  refine goAt (ef_rm_ac m t ) ?_
  have N0 := Fr.nil n0
  show Go p e below T0 (mkF m 0 #[.val (.ref t)] []) _
  refine stp (fun _ => XS.aloadN X0.here hx rfl (hb hby d3_0) rfl rfl) ?_
  show Go p e below T0 (mkF m 1 #[.val (.ref t)] [(.ref t)]) _
  obtain ⟨T1, X1, e1, st1⟩ := initO X0 hx hZ hown (hw _ (List.mem_of_getElem? (i := 21) rfl)) (hw _ (List.mem_of_getElem? (i := 22) rfl)) (hw _ (List.mem_of_getElem? (i := 23) rfl)) e0 (g := (mkF m 1 #[.val (.ref t)] [(.ref t)])) rfl (by rw [hml]; rfl) rfl (hb hby d3_1) (by decide) (W := 0) (by show 2 * 0 + _ ≤ _; exact Nat.le_of_eq rfl) (by decide)
  refine stp st1 ?_
  show Go p e below T1 (mkF m 4 #[.val (.ref t)] []) _
  refine outV X1 hx hret (hb hby d3_4) hlk (by decide) (by decide) ?_
  exact ⟨rfl, N0, e1⟩
theorem d2_0 : decode jdk_91_method_1_code 0 = .ok (.aload_n 0, 1) := by decide +kernel
theorem d2_1 : decode jdk_91_method_1_code 1 = .ok (.invokespecial 1, 3) := by decide +kernel
theorem pd_0 : parseMethodDescriptor "()V" = some ⟨[], none⟩ := by decide +kernel
theorem d2_4 : decode jdk_91_method_1_code 4 = .ok (.return_, 1) := by decide +kernel
theorem ef_rm_as (m : MethodId) (t : Addr)  : entryFrame m #[(.ref t)] 1 = mkF m 0 #[.val (.ref t)] [] := by first | (simp [entryFrame, mkF, argsToLocals, Value.category]; done) | rfl
def Q_rm_as (Z : State) (t : Addr)  (h0 : Heap) (n0 : Nat) (v : Option Value) (h : Heap) (L : List Loc) : Prop := v = none ∧ Fr n0 L ∧ h = h0
theorem pn_1_ : plainName "java/util/AbstractSet" = true := by first | (simp [plainName, overriddenIn]; done) | decide +kernel
theorem pn_1 : plainFor (⟨"java/util/AbstractSet", "<init>", "()V"⟩ : MethodName) = true := plainFor_of_name pn_1_
set_option maxRecDepth 65536 in
set_option maxHeartbeats 40000000 in
theorem rm_as (l : Launch) (Z : State) (a0 : Array Value) (hw : ∀ d ∈ tables_1, d.before a0 Z = true) (ws : List Jvm.Cond) (t : Addr)  (h0 : Heap) (n0 : Nat) (O0 : Old Z n0 h0)  :
    MetFree l (⟨"java/util/AbstractSet", "<init>", "()V"⟩ : MethodName) (head1 (Jvm.Cond.code (⟨"java/util/AbstractSet", "<init>", "()V"⟩ : MethodName) jdk_91_method_1_code 1 none :: ws) ({ frames := 2, cells := 0, slots := 0, locals := 24 } : Room)) (fun args_ U => args_ = #[(.ref t)] ∧ Z.Warmed39 U.vm ∧ U.heap = h0) (fun _ _ _ _ _ => True) (fun _ U out_ U' => ∃ val_ loc_, out_ = .returned val_ ∧ (Q_rm_as Z t h0 n0) val_ U'.heap loc_ ∧ FrameEnd U out_ U' loc_ ({ frames := 2, cells := 0, slots := 0, locals := 24 } : Room).cells ({ frames := 2, cells := 0, slots := 0, locals := 24 } : Room).slots) := by
  refine start (Q := (Q_rm_as Z t h0 n0)) pn_1 ?_
  intro p e s m below meth c T0 X0 hx hby hml hown hnm hret hlk hZ e0
  replace hown : s.vm.findClass "java/util/AbstractSet" = some m.cls := hown
  replace hml : c.maxLocals = 1 := hml
  refine goAt (ef_rm_as m t ) ?_
  have N0 := Fr.nil n0
  show Go p e below T0 (mkF m 0 #[.val (.ref t)] []) _
  refine stp (fun _ => XS.aloadN X0.here hx rfl (hb hby d2_0) rfl rfl) ?_
  show Go p e below T0 (mkF m 1 #[.val (.ref t)] [(.ref t)]) _
  obtain ⟨_, _, ⟨T1, L1, k1, n1⟩, -, X1, ⟨Lc1, hQ1, l1, y1, z1⟩, st1⟩ := X0.specialBack hx (y := (⟨"java/util/AbstractCollection", "<init>", "()V"⟩ : MethodName)) rfl hown (mvT hZ (hw _ (List.mem_of_getElem? (i := 15) rfl))) (mvT hZ (hw _ (List.mem_of_getElem? (i := 16) rfl))) (mvT hZ (hw _ (List.mem_of_getElem? (i := 20) rfl))) (by decide) (backOf (W := 0) (rm_ac l Z a0 hw [] t  h0 n0 O0 ) hZ (hw _ (List.mem_of_getElem? (i := 20) rfl)) (hw _ (List.mem_of_getElem? (i := 19) rfl)) (by decide) (by decide)) (g := (mkF m 1 #[.val (.ref t)] [(.ref t)])) rfl (by rw [hml]; rfl) (Steps.refl _) (a := t) (argsL := []) (rest := []) (lenOf pd_0 rfl) rfl (by show 2 * 0 + _ ≤ _; exact Nat.le_of_eq rfl) (hb hby d2_1) (fun _ _ => ⟨rfl, e0, (by decide : 0 + 0 ≤ _), (by decide : 0 + 0 ≤ _)⟩)
  dsimp only [Pt.U, Pt.locs, Pt.cells, Pt.slots] at X1 l1 y1 z1 st1 hQ1
  subst y1 z1
  obtain ⟨rfl, N1q, e1⟩ := hQ1
  have N1 : Fr n0 L1 := by rw [l1]; exact Fr.app N0 N1q
  refine stt st1 ?_
  show Go p e below T1 (mkF m 4 #[.val (.ref t)] []) _
  refine outV X1 hx hret (hb hby d2_4) hlk (by decide) (by decide) ?_
  exact ⟨rfl, N1, e1⟩
theorem d6_0 : decode jdk_71_method_1_code 0 = .ok (.aload_n 0, 1) := by decide +kernel
theorem d6_1 : decode jdk_71_method_1_code 1 = .ok (.invokespecial 1, 3) := by decide +kernel
theorem d6_4 : decode jdk_71_method_1_code 4 = .ok (.return_, 1) := by decide +kernel
theorem ef_rm_am (m : MethodId) (t : Addr)  : entryFrame m #[(.ref t)] 1 = mkF m 0 #[.val (.ref t)] [] := by first | (simp [entryFrame, mkF, argsToLocals, Value.category]; done) | rfl
def Q_rm_am (Z : State) (t : Addr)  (h0 : Heap) (n0 : Nat) (v : Option Value) (h : Heap) (L : List Loc) : Prop := v = none ∧ Fr n0 L ∧ h = h0
theorem pn_2_ : plainName "java/util/AbstractMap" = true := by first | (simp [plainName, overriddenIn]; done) | decide +kernel
theorem pn_2 : plainFor (⟨"java/util/AbstractMap", "<init>", "()V"⟩ : MethodName) = true := plainFor_of_name pn_2_
set_option maxRecDepth 65536 in
set_option maxHeartbeats 40000000 in
theorem rm_am (l : Launch) (Z : State) (a0 : Array Value) (hw : ∀ d ∈ tables_1, d.before a0 Z = true) (ws : List Jvm.Cond) (t : Addr)  (h0 : Heap) (n0 : Nat) (O0 : Old Z n0 h0)  :
    MetFree l (⟨"java/util/AbstractMap", "<init>", "()V"⟩ : MethodName) (head1 (Jvm.Cond.code (⟨"java/util/AbstractMap", "<init>", "()V"⟩ : MethodName) jdk_71_method_1_code 1 none :: ws) ({ frames := 1, cells := 0, slots := 0, locals := 12 } : Room)) (fun args_ U => args_ = #[(.ref t)] ∧ Z.Warmed39 U.vm ∧ U.heap = h0) (fun _ _ _ _ _ => True) (fun _ U out_ U' => ∃ val_ loc_, out_ = .returned val_ ∧ (Q_rm_am Z t h0 n0) val_ U'.heap loc_ ∧ FrameEnd U out_ U' loc_ ({ frames := 1, cells := 0, slots := 0, locals := 12 } : Room).cells ({ frames := 1, cells := 0, slots := 0, locals := 12 } : Room).slots) := by
  refine start (Q := (Q_rm_am Z t h0 n0)) pn_2 ?_
  intro p e s m below meth c T0 X0 hx hby hml hown hnm hret hlk hZ e0
  replace hown : s.vm.findClass "java/util/AbstractMap" = some m.cls := hown
  replace hml : c.maxLocals = 1 := hml
  refine goAt (ef_rm_am m t ) ?_
  have N0 := Fr.nil n0
  show Go p e below T0 (mkF m 0 #[.val (.ref t)] []) _
  refine stp (fun _ => XS.aloadN X0.here hx rfl (hb hby d6_0) rfl rfl) ?_
  show Go p e below T0 (mkF m 1 #[.val (.ref t)] [(.ref t)]) _
  obtain ⟨T1, X1, e1, st1⟩ := initO X0 hx hZ hown (hw _ (List.mem_of_getElem? (i := 37) rfl)) (hw _ (List.mem_of_getElem? (i := 22) rfl)) (hw _ (List.mem_of_getElem? (i := 23) rfl)) e0 (g := (mkF m 1 #[.val (.ref t)] [(.ref t)])) rfl (by rw [hml]; rfl) rfl (hb hby d6_1) (by decide) (W := 0) (by show 2 * 0 + _ ≤ _; exact Nat.le_of_eq rfl) (by decide)
  refine stp st1 ?_
  show Go p e below T1 (mkF m 4 #[.val (.ref t)] []) _
  refine outV X1 hx hret (hb hby d6_4) hlk (by decide) (by decide) ?_
  exact ⟨rfl, N0, e1⟩
theorem d8_0 : decode jdk_30_method_1_code 0 = .ok (.aload_n 0, 1) := by decide +kernel
theorem d8_1 : decode jdk_30_method_1_code 1 = .ok (.invokespecial 1, 3) := by decide +kernel
theorem d8_4 : decode jdk_30_method_1_code 4 = .ok (.return_, 1) := by decide +kernel
theorem ef_rm_rec (m : MethodId) (t : Addr)  : entryFrame m #[(.ref t)] 1 = mkF m 0 #[.val (.ref t)] [] := by first | (simp [entryFrame, mkF, argsToLocals, Value.category]; done) | rfl
def Q_rm_rec (Z : State) (t : Addr)  (h0 : Heap) (n0 : Nat) (v : Option Value) (h : Heap) (L : List Loc) : Prop := v = none ∧ Fr n0 L ∧ h = h0
theorem pn_3_ : plainName "java/lang/Record" = true := by first | (simp [plainName, overriddenIn]; done) | decide +kernel
theorem pn_3 : plainFor (⟨"java/lang/Record", "<init>", "()V"⟩ : MethodName) = true := plainFor_of_name pn_3_
set_option maxRecDepth 65536 in
set_option maxHeartbeats 40000000 in
theorem rm_rec (l : Launch) (Z : State) (a0 : Array Value) (hw : ∀ d ∈ tables_1, d.before a0 Z = true) (ws : List Jvm.Cond) (t : Addr)  (h0 : Heap) (n0 : Nat) (O0 : Old Z n0 h0)  :
    MetFree l (⟨"java/lang/Record", "<init>", "()V"⟩ : MethodName) (head1 (Jvm.Cond.code (⟨"java/lang/Record", "<init>", "()V"⟩ : MethodName) jdk_30_method_1_code 1 none :: ws) ({ frames := 1, cells := 0, slots := 0, locals := 12 } : Room)) (fun args_ U => args_ = #[(.ref t)] ∧ Z.Warmed39 U.vm ∧ U.heap = h0) (fun _ _ _ _ _ => True) (fun _ U out_ U' => ∃ val_ loc_, out_ = .returned val_ ∧ (Q_rm_rec Z t h0 n0) val_ U'.heap loc_ ∧ FrameEnd U out_ U' loc_ ({ frames := 1, cells := 0, slots := 0, locals := 12 } : Room).cells ({ frames := 1, cells := 0, slots := 0, locals := 12 } : Room).slots) := by
  refine start (Q := (Q_rm_rec Z t h0 n0)) pn_3 ?_
  intro p e s m below meth c T0 X0 hx hby hml hown hnm hret hlk hZ e0
  replace hown : s.vm.findClass "java/lang/Record" = some m.cls := hown
  replace hml : c.maxLocals = 1 := hml
  refine goAt (ef_rm_rec m t ) ?_
  have N0 := Fr.nil n0
  show Go p e below T0 (mkF m 0 #[.val (.ref t)] []) _
  refine stp (fun _ => XS.aloadN X0.here hx rfl (hb hby d8_0) rfl rfl) ?_
  show Go p e below T0 (mkF m 1 #[.val (.ref t)] [(.ref t)]) _
  obtain ⟨T1, X1, e1, st1⟩ := initO X0 hx hZ hown (hw _ (List.mem_of_getElem? (i := 51) rfl)) (hw _ (List.mem_of_getElem? (i := 22) rfl)) (hw _ (List.mem_of_getElem? (i := 23) rfl)) e0 (g := (mkF m 1 #[.val (.ref t)] [(.ref t)])) rfl (by rw [hml]; rfl) rfl (hb hby d8_1) (by decide) (W := 0) (by show 2 * 0 + _ ≤ _; exact Nat.le_of_eq rfl) (by decide)
  refine stp st1 ?_
  show Go p e below T1 (mkF m 4 #[.val (.ref t)] []) _
  refine outV X1 hx hret (hb hby d8_4) hlk (by decide) (by decide) ?_
  exact ⟨rfl, N0, e1⟩
theorem d5_0 : decode jdk_69_method_7_code 0 = .ok (.aload_n 0, 1) := by decide +kernel
theorem d5_1 : decode jdk_69_method_7_code 1 = .ok (.invokespecial 43, 3) := by decide +kernel
theorem d5_4 : decode jdk_69_method_7_code 4 = .ok (.aload_n 0, 1) := by decide +kernel
theorem d5_5 : decode jdk_69_method_7_code 5 = .ok (.ldc 92, 2) := by decide +kernel
theorem d5_7 : decode jdk_69_method_7_code 7 = .ok (.putfield 81, 3) := by decide +kernel
theorem d5_10 : decode jdk_69_method_7_code 10 = .ok (.return_, 1) := by decide +kernel
theorem ef_rm_hm0 (m : MethodId) (t : Addr)  : entryFrame m #[(.ref t)] 1 = mkF m 0 #[.val (.ref t)] [] := by first | (simp [entryFrame, mkF, argsToLocals, Value.category]; done) | rfl
def Q_rm_hm0 (Z : State) (t : Addr)  (h0 : Heap) (n0 : Nat) (v : Option Value) (h : Heap) (L : List Loc) : Prop := v = none ∧ Fr n0 L ∧ Keep h0 h [t] ∧ Exa Z h t "java/util/HashMap" ∧ Fld Z h t "java/util/HashMap" "size" "I" (.int (0 : Int32)) ∧ Fld Z h t "java/util/AbstractMap" "keySet" "Ljava/util/Set;" .null ∧ Fld Z h t "java/util/HashMap" "table" "[Ljava/util/HashMap$Node;" .null ∧ Fld Z h t "java/util/HashMap" "modCount" "I" (.int (0 : Int32))
theorem pn_4_ : plainName "java/util/HashMap" = true := by first | (simp [plainName, overriddenIn]; done) | decide +kernel
theorem pn_4 : plainFor (⟨"java/util/HashMap", "<init>", "()V"⟩ : MethodName) = true := plainFor_of_name pn_4_
set_option maxRecDepth 65536 in
set_option maxHeartbeats 40000000 in
theorem rm_hm0 (l : Launch) (Z : State) (a0 : Array Value) (hw : ∀ d ∈ tables_1, d.before a0 Z = true) (ws : List Jvm.Cond) (t : Addr)  (h0 : Heap) (n0 : Nat) (O0 : Old Z n0 h0) (E_t : Exa Z h0 t "java/util/HashMap") (F_t_size : Fld Z h0 t "java/util/HashMap" "size" "I" (.int (0 : Int32))) (F_t_keySet : Fld Z h0 t "java/util/AbstractMap" "keySet" "Ljava/util/Set;" .null) (F_t_table : Fld Z h0 t "java/util/HashMap" "table" "[Ljava/util/HashMap$Node;" .null) (F_t_modCount : Fld Z h0 t "java/util/HashMap" "modCount" "I" (.int (0 : Int32))) (F_t_loadFactor : Fld Z h0 t "java/util/HashMap" "loadFactor" "F" (.float 0)) (ge_t : n0 ≤ t) :
    MetFree l (⟨"java/util/HashMap", "<init>", "()V"⟩ : MethodName) (head1 (Jvm.Cond.code (⟨"java/util/HashMap", "<init>", "()V"⟩ : MethodName) jdk_69_method_7_code 1 none :: ws) ({ frames := 2, cells := 0, slots := 0, locals := 24 } : Room)) (fun args_ U => args_ = #[(.ref t)] ∧ Z.Warmed39 U.vm ∧ U.heap = h0) (fun _ _ _ _ _ => True) (fun _ U out_ U' => ∃ val_ loc_, out_ = .returned val_ ∧ (Q_rm_hm0 Z t h0 n0) val_ U'.heap loc_ ∧ FrameEnd U out_ U' loc_ ({ frames := 2, cells := 0, slots := 0, locals := 24 } : Room).cells ({ frames := 2, cells := 0, slots := 0, locals := 24 } : Room).slots) := by
  refine start (Q := (Q_rm_hm0 Z t h0 n0)) pn_4 ?_
  intro p e s m below meth c T0 X0 hx hby hml hown hnm hret hlk hZ e0
  replace hown : s.vm.findClass "java/util/HashMap" = some m.cls := hown
  replace hml : c.maxLocals = 1 := hml
  refine goAt (ef_rm_hm0 m t ) ?_
  have N0 := Fr.nil n0
  show Go p e below T0 (mkF m 0 #[.val (.ref t)] []) _
  refine stp (fun _ => XS.aloadN X0.here hx rfl (hb hby d5_0) rfl rfl) ?_
  show Go p e below T0 (mkF m 1 #[.val (.ref t)] [(.ref t)]) _
  obtain ⟨_, _, ⟨T1, L1, k1, n1⟩, -, X1, ⟨Lc1, hQ1, l1, y1, z1⟩, st1⟩ := X0.specialBack hx (y := (⟨"java/util/AbstractMap", "<init>", "()V"⟩ : MethodName)) rfl hown (mvT hZ (hw _ (List.mem_of_getElem? (i := 31) rfl))) (mvT hZ (hw _ (List.mem_of_getElem? (i := 32) rfl))) (mvT hZ (hw _ (List.mem_of_getElem? (i := 36) rfl))) (by decide) (backOf (W := 0) (rm_am l Z a0 hw [] t  h0 n0 O0 ) hZ (hw _ (List.mem_of_getElem? (i := 36) rfl)) (hw _ (List.mem_of_getElem? (i := 35) rfl)) (by decide) (by decide)) (g := (mkF m 1 #[.val (.ref t)] [(.ref t)])) rfl (by rw [hml]; rfl) (Steps.refl _) (a := t) (argsL := []) (rest := []) (lenOf pd_0 rfl) rfl (by show 2 * 0 + _ ≤ _; exact Nat.le_of_eq rfl) (hb hby d5_1) (fun _ _ => ⟨rfl, e0, (by decide : 0 + 0 ≤ _), (by decide : 0 + 0 ≤ _)⟩)
  dsimp only [Pt.U, Pt.locs, Pt.cells, Pt.slots] at X1 l1 y1 z1 st1 hQ1
  subst y1 z1
  obtain ⟨rfl, N1q, e1⟩ := hQ1
  have N1 : Fr n0 L1 := by rw [l1]; exact Fr.app N0 N1q
  refine stt st1 ?_
  show Go p e below T1 (mkF m 4 #[.val (.ref t)] []) _
  refine stp (fun _ => XS.aloadN X1.here hx rfl (hb hby d5_4) rfl rfl) ?_
  show Go p e below T1 (mkF m 5 #[.val (.ref t)] [(.ref t)]) _
  refine stp (fun _ => X1.ldcFloatC hx hown (mvT hZ (hw _ (List.mem_of_getElem? (i := 38) rfl))) (g := (mkF m 5 #[.val (.ref t)] [(.ref t)])) rfl (hb hby d5_5) _) ?_
  show Go p e below T1 (mkF m 7 #[.val (.ref t)] [(.float (1061158912 : UInt32)), (.ref t)]) _
  obtain ⟨T2, h2, X2, e2, W2, st2⟩ := putF X1 hx hZ hown (host := "") (Or.inl (hw _ (List.mem_of_getElem? (i := 39) rfl))) Via.refl e1 F_t_loadFactor E_t (Or.inr ⟨(hw _ (List.mem_of_getElem? (i := 40) rfl)), rfl, hnm⟩) (hw _ (List.mem_of_getElem? (i := 25) rfl)) (ty := .float) (by decide) rfl rfl (g := (mkF m 7 #[.val (.ref t)] [(.float (1061158912 : UInt32)), (.ref t)])) rfl rfl (hb hby d5_7)
  have Fw2 := F_t_loadFactor.same W2
  have f3 := E_t.wr W2
  have f4 := F_t_size.other W2 (Or.inr (slot_ne (Or.inl (hw _ (List.mem_of_getElem? (i := 75) rfl))) (Or.inr (hw _ (List.mem_of_getElem? (i := 40) rfl))) (by decide) (t := .int) (t' := .float) (by decide) (by decide)))
  have f5 := F_t_keySet.other W2 (Or.inr (slot_ne (Or.inl (hw _ (List.mem_of_getElem? (i := 153) rfl))) (Or.inr (hw _ (List.mem_of_getElem? (i := 40) rfl))) (by decide) (t := (.object "java/util/Set")) (t' := .float) (by decide) (by decide)))
  have f6 := F_t_table.other W2 (Or.inr (slot_ne (Or.inl (hw _ (List.mem_of_getElem? (i := 196) rfl))) (Or.inr (hw _ (List.mem_of_getElem? (i := 40) rfl))) (by decide) (t := (.array (.object "java/util/HashMap$Node"))) (t' := .float) (by decide) (by decide)))
  have f7 := F_t_modCount.other W2 (Or.inr (slot_ne (Or.inl (hw _ (List.mem_of_getElem? (i := 192) rfl))) (Or.inr (hw _ (List.mem_of_getElem? (i := 40) rfl))) (by decide) (t := .int) (t' := .float) (by decide) (by decide)))
  have K2 : Keep h0 h2 [t] := (Keep.refl h0 [t]).wr W2 (Or.inl (List.mem_of_getElem? (i := 0) rfl))
  have O2 := O0.wr W2 ge_t
  have N2 := Fr.snoc X2 N1 ge_t
  refine stp st2 ?_
  show Go p e below T2 (mkF m 10 #[.val (.ref t)] []) _
  refine outV X2 hx hret (hb hby d5_10) hlk (by decide) (by decide) ?_
  rw [e2]
  exact ⟨rfl, N2, K2, f3, f4, f5, f6, f7⟩
theorem d1_0 : decode jdk_93_method_1_code 0 = .ok (.aload_n 0, 1) := by decide +kernel
theorem d1_1 : decode jdk_93_method_1_code 1 = .ok (.invokespecial 1, 3) := by decide +kernel
theorem d1_4 : decode jdk_93_method_1_code 4 = .ok (.aload_n 0, 1) := by decide +kernel
theorem d1_5 : decode jdk_93_method_1_code 5 = .ok (.new 7, 3) := by decide +kernel
theorem d1_8 : decode jdk_93_method_1_code 8 = .ok (.dup, 1) := by decide +kernel
theorem d1_9 : decode jdk_93_method_1_code 9 = .ok (.invokespecial 9, 3) := by decide +kernel
theorem d1_12 : decode jdk_93_method_1_code 12 = .ok (.putfield 10, 3) := by decide +kernel
theorem d1_15 : decode jdk_93_method_1_code 15 = .ok (.return_, 1) := by decide +kernel
theorem ef_rm_hs0 (m : MethodId) (t : Addr)  : entryFrame m #[(.ref t)] 1 = mkF m 0 #[.val (.ref t)] [] := by first | (simp [entryFrame, mkF, argsToLocals, Value.category]; done) | rfl
def Q_rm_hs0 (Z : State) (t : Addr)  (h0 : Heap) (n0 : Nat) (v : Option Value) (h : Heap) (L : List Loc) : Prop := ∃ (mp : Addr), v = none ∧ Fr n0 L ∧ Keep h0 h [t] ∧ (n0 ≤ mp ∧ h0.size ≤ mp) ∧ Exa Z h t "java/util/HashSet" ∧ Fld Z h t "java/util/HashSet" "map" "Ljava/util/HashMap;" (.ref mp) ∧ Exa Z h mp "java/util/HashMap" ∧ Fld Z h mp "java/util/HashMap" "size" "I" (.int (0 : Int32)) ∧ Fld Z h mp "java/util/AbstractMap" "keySet" "Ljava/util/Set;" .null ∧ Fld Z h mp "java/util/HashMap" "table" "[Ljava/util/HashMap$Node;" .null ∧ Fld Z h mp "java/util/HashMap" "modCount" "I" (.int (0 : Int32))
theorem pn_5_ : plainName "java/util/HashSet" = true := by first | (simp [plainName, overriddenIn]; done) | decide +kernel
theorem pn_5 : plainFor (⟨"java/util/HashSet", "<init>", "()V"⟩ : MethodName) = true := plainFor_of_name pn_5_
set_option maxRecDepth 65536 in
set_option maxHeartbeats 40000000 in
theorem rm_hs0 (l : Launch) (Z : State) (a0 : Array Value) (hw : ∀ d ∈ tables_1, d.before a0 Z = true) (ws : List Jvm.Cond) (t : Addr)  (h0 : Heap) (n0 : Nat) (O0 : Old Z n0 h0) (E_t : Exa Z h0 t "java/util/HashSet") (F_t_map : Fld Z h0 t "java/util/HashSet" "map" "Ljava/util/HashMap;" .null) (ge_t : n0 ≤ t) :
    MetFree l (⟨"java/util/HashSet", "<init>", "()V"⟩ : MethodName) (head1 (Jvm.Cond.code (⟨"java/util/HashSet", "<init>", "()V"⟩ : MethodName) jdk_93_method_1_code 1 none :: ws) ({ frames := 3, cells := 1, slots := 8, locals := 38 } : Room)) (fun args_ U => args_ = #[(.ref t)] ∧ Z.Warmed39 U.vm ∧ U.heap = h0) (fun _ _ _ _ _ => True) (fun _ U out_ U' => ∃ val_ loc_, out_ = .returned val_ ∧ (Q_rm_hs0 Z t h0 n0) val_ U'.heap loc_ ∧ FrameEnd U out_ U' loc_ ({ frames := 3, cells := 1, slots := 8, locals := 38 } : Room).cells ({ frames := 3, cells := 1, slots := 8, locals := 38 } : Room).slots) := by
  refine start (Q := (Q_rm_hs0 Z t h0 n0)) pn_5 ?_
  intro p e s m below meth c T0 X0 hx hby hml hown hnm hret hlk hZ e0
  replace hown : s.vm.findClass "java/util/HashSet" = some m.cls := hown
  replace hml : c.maxLocals = 1 := hml
  refine goAt (ef_rm_hs0 m t ) ?_
  have N0 := Fr.nil n0
  show Go p e below T0 (mkF m 0 #[.val (.ref t)] []) _
  refine stp (fun _ => XS.aloadN X0.here hx rfl (hb hby d1_0) rfl rfl) ?_
  show Go p e below T0 (mkF m 1 #[.val (.ref t)] [(.ref t)]) _
  obtain ⟨_, _, ⟨T1, L1, k1, n1⟩, -, X1, ⟨Lc1, hQ1, l1, y1, z1⟩, st1⟩ := X0.specialBack hx (y := (⟨"java/util/AbstractSet", "<init>", "()V"⟩ : MethodName)) rfl hown (mvT hZ (hw _ (List.mem_of_getElem? (i := 9) rfl))) (mvT hZ (hw _ (List.mem_of_getElem? (i := 10) rfl))) (mvT hZ (hw _ (List.mem_of_getElem? (i := 14) rfl))) (by decide) (backOf (W := 0) (rm_as l Z a0 hw [] t  h0 n0 O0 ) hZ (hw _ (List.mem_of_getElem? (i := 14) rfl)) (hw _ (List.mem_of_getElem? (i := 13) rfl)) (by decide) (by decide)) (g := (mkF m 1 #[.val (.ref t)] [(.ref t)])) rfl (by rw [hml]; rfl) (Steps.refl _) (a := t) (argsL := []) (rest := []) (lenOf pd_0 rfl) rfl (by show 2 * 0 + _ ≤ _; exact Nat.le_of_eq rfl) (hb hby d1_1) (fun _ _ => ⟨rfl, e0, (by decide : 0 + 0 ≤ _), (by decide : 0 + 0 ≤ _)⟩)
  dsimp only [Pt.U, Pt.locs, Pt.cells, Pt.slots] at X1 l1 y1 z1 st1 hQ1
  subst y1 z1
  obtain ⟨rfl, N1q, e1⟩ := hQ1
  have N1 : Fr n0 L1 := by rw [l1]; exact Fr.app N0 N1q
  refine stt st1 ?_
  show Go p e below T1 (mkF m 4 #[.val (.ref t)] []) _
  refine stp (fun _ => XS.aloadN X1.here hx rfl (hb hby d1_4) rfl rfl) ?_
  show Go p e below T1 (mkF m 5 #[.val (.ref t)] [(.ref t)]) _
  obtain ⟨T2, h2, X2, e2, E2, A2, D2, U2, st2⟩ := newO X1 hx hZ hown (hw _ (List.mem_of_getElem? (i := 24) rfl)) (hw _ (List.mem_of_getElem? (i := 25) rfl)) (hw _ (List.mem_of_getElem? (i := 26) rfl)) e1 (g := (mkF m 5 #[.val (.ref t)] [(.ref t)])) rfl (hb hby d1_5) (by decide) (by decide)
  obtain ⟨b2, g2⟩ : ∃ z, z = h0.size := ⟨_, rfl⟩
  rw [← g2] at A2 D2 st2
  have ne3 : t ≠ b2 := Nat.ne_of_lt (Nat.lt_of_lt_of_le E_t.lt (Nat.le_of_eq g2.symm))
  have sz_b2 : h0.size ≤ b2 := Nat.le_trans (Keep.refl h0 [t]).1 (Nat.le_of_eq g2.symm)
  have ge_b2 : n0 ≤ b2 := Nat.le_trans (old_le O0) (Nat.le_of_eq g2.symm)
  have f4 := E_t.ext E2
  have f5 := F_t_map.ext E2
  have K2 : Keep h0 h2 [t] := (Keep.refl h0 [t]).ext E2
  have O2 := O0.ext E2
  have F6 : Fld Z h2 b2 "java/util/HashMap" "loadFactor" "F" (.float 0) := D2 (Or.inr (hw _ (List.mem_of_getElem? (i := 40) rfl))) (ty := .float) (by decide)
  have F7 : Fld Z h2 b2 "java/util/HashMap" "size" "I" (.int (0 : Int32)) := D2 (Or.inl (hw _ (List.mem_of_getElem? (i := 75) rfl))) (ty := .int) (by decide)
  have F8 : Fld Z h2 b2 "java/util/HashMap" "threshold" "I" (.int (0 : Int32)) := D2 (Or.inl (hw _ (List.mem_of_getElem? (i := 131) rfl))) (ty := .int) (by decide)
  have F9 : Fld Z h2 b2 "java/util/AbstractMap" "keySet" "Ljava/util/Set;" .null := D2 (Or.inl (hw _ (List.mem_of_getElem? (i := 153) rfl))) (ty := (.object "java/util/Set")) (by decide)
  have F10 : Fld Z h2 b2 "java/util/HashMap" "modCount" "I" (.int (0 : Int32)) := D2 (Or.inl (hw _ (List.mem_of_getElem? (i := 192) rfl))) (ty := .int) (by decide)
  have F11 : Fld Z h2 b2 "java/util/HashMap" "table" "[Ljava/util/HashMap$Node;" .null := D2 (Or.inl (hw _ (List.mem_of_getElem? (i := 196) rfl))) (ty := (.array (.object "java/util/HashMap$Node"))) (by decide)
  refine stp st2 ?_
  show Go p e below T2 (mkF m 8 #[.val (.ref t)] [(.ref b2), (.ref t)]) _
  refine stp (fun _ => XS.dup X2.here hx rfl (hb hby d1_8) rfl rfl) ?_
  show Go p e below T2 (mkF m 9 #[.val (.ref t)] [(.ref b2), (.ref b2), (.ref t)]) _
  obtain ⟨_, _, ⟨T12, L12, k12, n12⟩, -, X12, ⟨Lc12, hQ12, l12, y12, z12⟩, st12⟩ := X2.specialBack hx (y := (⟨"java/util/HashMap", "<init>", "()V"⟩ : MethodName)) rfl hown (mvT hZ (hw _ (List.mem_of_getElem? (i := 27) rfl))) (mvT hZ (hw _ (List.mem_of_getElem? (i := 28) rfl))) (mvT hZ (hw _ (List.mem_of_getElem? (i := 30) rfl))) (by decide) (backOf (W := 2) (rm_hm0 l Z a0 hw [] b2  h2 n0 O2 A2 F7 F9 F11 F10 F6 ge_b2) hZ (hw _ (List.mem_of_getElem? (i := 30) rfl)) (hw _ (List.mem_of_getElem? (i := 26) rfl)) (by decide) (by decide)) (g := (mkF m 9 #[.val (.ref t)] [(.ref b2), (.ref b2), (.ref t)])) rfl (by rw [hml]; rfl) (Steps.refl _) (a := b2) (argsL := []) (rest := [(.ref b2), (.ref t)]) (lenOf pd_0 rfl) rfl (by show 2 * 0 + _ ≤ _; exact Nat.le_of_eq rfl) (hb hby d1_9) (fun _ _ => ⟨rfl, e2, (by decide : 1 + 0 ≤ _), (by decide : 8 + 0 ≤ _)⟩)
  dsimp only [Pt.U, Pt.locs, Pt.cells, Pt.slots] at X12 l12 y12 z12 st12 hQ12
  subst y12 z12
  obtain ⟨rfl, N12q, K12q, r12_0, r12_1, r12_2, r12_3, r12_4⟩ := hQ12
  have N12 : Fr n0 L12 := by rw [l12]; exact Fr.app N1 N12q
  have f13 := f4.keep K12q
  have f14 := f5.keep K12q (ninS ne3 nin0)
  have f15 := A2.keep K12q
  have K12 : Keep h0 T12.heap [t] := K2.trans K12q (allS (Or.inr sz_b2) all0)
  have O12 := O2.keep K12q (allS ge_b2 all0)
  refine stt st12 ?_
  show Go p e below T12 (mkF m 12 #[.val (.ref t)] [(.ref b2), (.ref t)]) _
  obtain ⟨T16, h16, X16, e16, W16, st16⟩ := putF X12 hx hZ hown (host := "") (Or.inl (hw _ (List.mem_of_getElem? (i := 41) rfl))) Via.refl rfl f14 f13 (Or.inl (hw _ (List.mem_of_getElem? (i := 42) rfl))) (hw _ (List.mem_of_getElem? (i := 4) rfl)) (ty := (.object "java/util/HashMap")) (by decide) rfl rfl (g := (mkF m 12 #[.val (.ref t)] [(.ref b2), (.ref t)])) rfl rfl (hb hby d1_12)
  have Fw16 := f14.same W16
  have f17 := f13.wr W16
  have f19 := r12_0.wr W16
  have f20 := r12_1.other W16 (Or.inl (Ne.symm ne3))
  have f21 := r12_2.other W16 (Or.inl (Ne.symm ne3))
  have f22 := r12_3.other W16 (Or.inl (Ne.symm ne3))
  have f23 := r12_4.other W16 (Or.inl (Ne.symm ne3))
  have K16 : Keep h0 h16 [t] := K12.wr W16 (Or.inl (List.mem_of_getElem? (i := 0) rfl))
  have O16 := O12.wr W16 ge_t
  have N16 := Fr.snoc X16 N12 ge_t
  refine stp st16 ?_
  show Go p e below T16 (mkF m 15 #[.val (.ref t)] []) _
  refine outV X16 hx hret (hb hby d1_15) hlk (by decide) (by decide) ?_
  rw [e16]
  exact ⟨b2, rfl, N16, K16, ⟨ge_b2, sz_b2⟩, f17, Fw16, f19, f20, f21, f22, f23⟩
theorem d12_0 : decode jdk_69_method_10_code 0 = .ok (.aload_n 0, 1) := by decide +kernel
theorem d12_1 : decode jdk_69_method_10_code 1 = .ok (.getfield 156, 3) := by decide +kernel
theorem d12_4 : decode jdk_69_method_10_code 4 = .ok (.ireturn, 1) := by decide +kernel
theorem ef_rm_msz (m : MethodId) (t : Addr)  : entryFrame m #[(.ref t)] 1 = mkF m 0 #[.val (.ref t)] [] := by first | (simp [entryFrame, mkF, argsToLocals, Value.category]; done) | rfl
def Q_rm_msz (Z : State) (t : Addr)  (h0 : Heap) (n0 : Nat) (v : Option Value) (h : Heap) (L : List Loc) : Prop := v = some (.int (0 : Int32)) ∧ Fr n0 L ∧ h = h0
theorem pn_6_ : plainName "java/util/HashMap" = true := by first | (simp [plainName, overriddenIn]; done) | decide +kernel
theorem pn_6 : plainFor (⟨"java/util/HashMap", "size", "()I"⟩ : MethodName) = true := plainFor_of_name pn_6_
set_option maxRecDepth 65536 in
set_option maxHeartbeats 40000000 in
theorem rm_msz (l : Launch) (Z : State) (a0 : Array Value) (hw : ∀ d ∈ tables_1, d.before a0 Z = true) (ws : List Jvm.Cond) (t : Addr)  (h0 : Heap) (n0 : Nat) (O0 : Old Z n0 h0) (F_t_size : Fld Z h0 t "java/util/HashMap" "size" "I" (.int (0 : Int32))) :
    MetFree l (⟨"java/util/HashMap", "size", "()I"⟩ : MethodName) (head1 (Jvm.Cond.code (⟨"java/util/HashMap", "size", "()I"⟩ : MethodName) jdk_69_method_10_code 1 (some .int) :: ws) ({ frames := 0, cells := 0, slots := 0, locals := 0 } : Room)) (fun args_ U => args_ = #[(.ref t)] ∧ Z.Warmed39 U.vm ∧ U.heap = h0) (fun _ _ _ _ _ => True) (fun _ U out_ U' => ∃ val_ loc_, out_ = .returned val_ ∧ (Q_rm_msz Z t h0 n0) val_ U'.heap loc_ ∧ FrameEnd U out_ U' loc_ ({ frames := 0, cells := 0, slots := 0, locals := 0 } : Room).cells ({ frames := 0, cells := 0, slots := 0, locals := 0 } : Room).slots) := by
  refine start (Q := (Q_rm_msz Z t h0 n0)) pn_6 ?_
  intro p e s m below meth c T0 X0 hx hby hml hown hnm hret hlk hZ e0
  replace hown : s.vm.findClass "java/util/HashMap" = some m.cls := hown
  replace hml : c.maxLocals = 1 := hml
  refine goAt (ef_rm_msz m t ) ?_
  have N0 := Fr.nil n0
  show Go p e below T0 (mkF m 0 #[.val (.ref t)] []) _
  refine stp (fun _ => XS.aloadN X0.here hx rfl (hb hby d12_0) rfl rfl) ?_
  show Go p e below T0 (mkF m 1 #[.val (.ref t)] [(.ref t)]) _
  obtain ⟨T1, X1, e1, st1⟩ := getF X0 hx hZ hown (host := "") (Or.inl (hw _ (List.mem_of_getElem? (i := 74) rfl))) Via.refl e0 F_t_size (g := (mkF m 1 #[.val (.ref t)] [(.ref t)])) rfl rfl (hb hby d12_1)
  refine stp st1 ?_
  show Go p e below T1 (mkF m 4 #[.val (.ref t)] [(.int (0 : Int32))]) _
  refine outI X1 hx hret (hb hby d12_4) hlk (by decide) (by decide) ?_
  exact ⟨rfl, N0, e1⟩
theorem d11_0 : decode jdk_93_method_7_code 0 = .ok (.aload_n 0, 1) := by decide +kernel
theorem d11_1 : decode jdk_93_method_7_code 1 = .ok (.getfield 10, 3) := by decide +kernel
theorem d11_4 : decode jdk_93_method_7_code 4 = .ok (.invokevirtual 55, 3) := by decide +kernel
theorem pd_1 : parseMethodDescriptor "()I" = some ⟨[], some .int⟩ := by decide +kernel
theorem d11_7 : decode jdk_93_method_7_code 7 = .ok (.ireturn, 1) := by decide +kernel
theorem ef_rm_ssz (m : MethodId) (t : Addr)  : entryFrame m #[(.ref t)] 1 = mkF m 0 #[.val (.ref t)] [] := by first | (simp [entryFrame, mkF, argsToLocals, Value.category]; done) | rfl
def Q_rm_ssz (Z : State) (t : Addr) (mp : Addr) (h0 : Heap) (n0 : Nat) (v : Option Value) (h : Heap) (L : List Loc) : Prop := v = some (.int (0 : Int32)) ∧ Fr n0 L ∧ h = h0
theorem pn_7_ : plainName "java/util/HashSet" = true := by first | (simp [plainName, overriddenIn]; done) | decide +kernel
theorem pn_7 : plainFor (⟨"java/util/HashSet", "size", "()I"⟩ : MethodName) = true := plainFor_of_name pn_7_
set_option maxRecDepth 65536 in
set_option maxHeartbeats 40000000 in
theorem rm_ssz (l : Launch) (Z : State) (a0 : Array Value) (hw : ∀ d ∈ tables_1, d.before a0 Z = true) (ws : List Jvm.Cond) (t : Addr) (mp : Addr) (h0 : Heap) (n0 : Nat) (O0 : Old Z n0 h0) (F_t_map : Fld Z h0 t "java/util/HashSet" "map" "Ljava/util/HashMap;" (.ref mp)) (E_mp : Exa Z h0 mp "java/util/HashMap") (F_mp_size : Fld Z h0 mp "java/util/HashMap" "size" "I" (.int (0 : Int32))) :
    MetFree l (⟨"java/util/HashSet", "size", "()I"⟩ : MethodName) (head1 (Jvm.Cond.code (⟨"java/util/HashSet", "size", "()I"⟩ : MethodName) jdk_93_method_7_code 1 (some .int) :: ws) ({ frames := 1, cells := 0, slots := 0, locals := 12 } : Room)) (fun args_ U => args_ = #[(.ref t)] ∧ Z.Warmed39 U.vm ∧ U.heap = h0) (fun _ _ _ _ _ => True) (fun _ U out_ U' => ∃ val_ loc_, out_ = .returned val_ ∧ (Q_rm_ssz Z t mp h0 n0) val_ U'.heap loc_ ∧ FrameEnd U out_ U' loc_ ({ frames := 1, cells := 0, slots := 0, locals := 12 } : Room).cells ({ frames := 1, cells := 0, slots := 0, locals := 12 } : Room).slots) := by
  refine start (Q := (Q_rm_ssz Z t mp h0 n0)) pn_7 ?_
  intro p e s m below meth c T0 X0 hx hby hml hown hnm hret hlk hZ e0
  replace hown : s.vm.findClass "java/util/HashSet" = some m.cls := hown
  replace hml : c.maxLocals = 1 := hml
  refine goAt (ef_rm_ssz m t ) ?_
  have N0 := Fr.nil n0
  show Go p e below T0 (mkF m 0 #[.val (.ref t)] []) _
  refine stp (fun _ => XS.aloadN X0.here hx rfl (hb hby d11_0) rfl rfl) ?_
  show Go p e below T0 (mkF m 1 #[.val (.ref t)] [(.ref t)]) _
  obtain ⟨T1, X1, e1, st1⟩ := getF X0 hx hZ hown (host := "") (Or.inl (hw _ (List.mem_of_getElem? (i := 41) rfl))) Via.refl e0 F_t_map (g := (mkF m 1 #[.val (.ref t)] [(.ref t)])) rfl rfl (hb hby d11_1)
  refine stp st1 ?_
  show Go p e below T1 (mkF m 4 #[.val (.ref t)] [(.ref mp)]) _
  obtain ⟨cq2, kq2, q2a, q2b, q2c⟩ := isOf hZ e1 E_mp
  obtain ⟨_, _, ⟨T2, L2, k2, n2⟩, -, X2, ⟨Lc2, hQ2, l2, y2, z2⟩, st2⟩ := X1.virtualBack hx (y := (⟨"java/util/HashMap", "size", "()I"⟩ : MethodName)) (z := (⟨"java/util/HashMap", "size", "()I"⟩ : MethodName)) hown (mvT hZ (hw _ (List.mem_of_getElem? (i := 69) rfl))) (mvT hZ (hw _ (List.mem_of_getElem? (i := 70) rfl))) (notFace_of_selects (args := #[]) (mvT hZ (hw _ (List.mem_of_getElem? (i := 72) rfl)))) (mvT hZ (hw _ (List.mem_of_getElem? (i := 72) rfl))) (mvT hZ (hw _ (List.mem_of_getElem? (i := 71) rfl))) (by decide) (backOf (W := 0) (rm_msz l Z a0 hw [] mp  h0 n0 O0 F_mp_size) hZ (hw _ (List.mem_of_getElem? (i := 73) rfl)) (hw _ (List.mem_of_getElem? (i := 26) rfl)) (by decide) (by decide)) q2a q2c (g := (mkF m 4 #[.val (.ref t)] [(.ref mp)])) rfl (by rw [hml]; rfl) (Steps.refl _) (argsL := []) (rest := []) (lenOf pd_1 rfl) rfl (by show 2 * 0 + _ ≤ _; exact Nat.le_of_eq rfl) (hb hby d11_4) (fun _ _ => ⟨rfl, e1, (by decide : 0 + 0 ≤ _), (by decide : 0 + 0 ≤ _)⟩)
  dsimp only [Pt.U, Pt.locs, Pt.cells, Pt.slots] at X2 l2 y2 z2 st2 hQ2
  subst y2 z2
  obtain ⟨rfl, N2q, e2⟩ := hQ2
  have N2 : Fr n0 L2 := by rw [l2]; exact Fr.app N0 N2q
  refine stt st2 ?_
  show Go p e below T2 (mkF m 7 #[.val (.ref t)] [(.int (0 : Int32))]) _
  refine outI X2 hx hret (hb hby d11_7) hlk (by decide) (by decide) ?_
  exact ⟨rfl, N2, e2⟩
theorem d13_0 : decode jdk_29_method_65_code 0 = .ok (.iload_n 0, 1) := by decide +kernel
theorem d13_1 : decode jdk_29_method_65_code 1 = .ok (.iload_n 1, 1) := by decide +kernel
theorem d13_2 : decode jdk_29_method_65_code 2 = .ok (.if_icmp .lt 7, 3) := by decide +kernel
theorem d13_9 : decode jdk_29_method_65_code 9 = .ok (.iload_n 1, 1) := by decide +kernel
theorem d13_10 : decode jdk_29_method_65_code 10 = .ok (.ireturn, 1) := by decide +kernel
theorem ef_rm_max (m : MethodId)   : entryFrame m #[(.int (0 : Int32)), (.int (12 : Int32))] 2 = mkF m 0 #[.val (.int (0 : Int32)), .val (.int (12 : Int32))] [] := by first | (simp [entryFrame, mkF, argsToLocals, Value.category]; done) | rfl
def Q_rm_max (Z : State)   (h0 : Heap) (n0 : Nat) (v : Option Value) (h : Heap) (L : List Loc) : Prop := v = some (.int (12 : Int32)) ∧ Fr n0 L ∧ h = h0
set_option maxRecDepth 65536 in
set_option maxHeartbeats 40000000 in
theorem rm_max (l : Launch) (Z : State) (a0 : Array Value) (hw : ∀ d ∈ tables_1, d.before a0 Z = true) (ws : List Jvm.Cond)   (h0 : Heap) (n0 : Nat) (O0 : Old Z n0 h0)  :
    MetFree l (⟨"java/lang/Math", "max", "(II)I"⟩ : MethodName) (head1 (Jvm.Cond.code (⟨"java/lang/Math", "max", "(II)I"⟩ : MethodName) jdk_29_method_65_code 2 (some .int) :: ws) ({ frames := 0, cells := 0, slots := 0, locals := 0 } : Room)) (fun args_ U => args_ = #[(.int (0 : Int32)), (.int (12 : Int32))] ∧ Z.Warmed39 U.vm ∧ U.heap = h0) (fun _ _ _ _ _ => True) (fun _ U out_ U' => ∃ val_ loc_, out_ = .returned val_ ∧ (Q_rm_max Z  h0 n0) val_ U'.heap loc_ ∧ FrameEnd U out_ U' loc_ ({ frames := 0, cells := 0, slots := 0, locals := 0 } : Room).cells ({ frames := 0, cells := 0, slots := 0, locals := 0 } : Room).slots) := by
  refine start (Q := (Q_rm_max Z  h0 n0)) (Jvm.Free.JP.mathPlain rfl (by decide +kernel)) ?_
  intro p e s m below meth c T0 X0 hx hby hml hown hnm hret hlk hZ e0
  replace hown : s.vm.findClass "java/lang/Math" = some m.cls := hown
  replace hml : c.maxLocals = 2 := hml
  refine goAt (ef_rm_max m  ) ?_
  have N0 := Fr.nil n0
  show Go p e below T0 (mkF m 0 #[.val (.int (0 : Int32)), .val (.int (12 : Int32))] []) _
  refine stp (fun _ => XS.iloadN X0.here hx rfl (hb hby d13_0) rfl) ?_
  show Go p e below T0 (mkF m 1 #[.val (.int (0 : Int32)), .val (.int (12 : Int32))] [(.int (0 : Int32))]) _
  refine stp (fun _ => XS.iloadN X0.here hx rfl (hb hby d13_1) rfl) ?_
  show Go p e below T0 (mkF m 2 #[.val (.int (0 : Int32)), .val (.int (12 : Int32))] [(.int (12 : Int32)), (.int (0 : Int32))]) _
  refine stp (fun _ => XS.icmpYes X0.here hx rfl (pc0 := 2) (pc' := 9) rfl (hb hby d13_2) rfl (by decide) (by decide) (by decide)) ?_
  show Go p e below T0 (mkF m 9 #[.val (.int (0 : Int32)), .val (.int (12 : Int32))] []) _
  refine stp (fun _ => XS.iloadN X0.here hx rfl (hb hby d13_9) rfl) ?_
  show Go p e below T0 (mkF m 10 #[.val (.int (0 : Int32)), .val (.int (12 : Int32))] [(.int (12 : Int32))]) _
  refine outI X0 hx hret (hb hby d13_10) hlk (by decide) (by decide) ?_
  exact ⟨rfl, N0, e0⟩
theorem d15_0 : decode jdk_69_method_55_code 0 = .ok (.iload_n 0, 1) := by decide +kernel
theorem d15_1 : decode jdk_69_method_55_code 1 = .ok (.i2d, 1) := by decide +kernel
theorem d15_2 : decode jdk_69_method_55_code 2 = .ok (.ldc2_w 383, 3) := by decide +kernel
theorem d15_5 : decode jdk_69_method_55_code 5 = .ok (.ddiv, 1) := by decide +kernel
theorem d15_6 : decode jdk_69_method_55_code 6 = .ok (.invokestatic 109, 3) := by decide +kernel
theorem pd_2 : parseMethodDescriptor "(D)D" = some ⟨[.double], some .double⟩ := by decide +kernel
theorem d15_9 : decode jdk_69_method_55_code 9 = .ok (.d2i, 1) := by decide +kernel
theorem d15_10 : decode jdk_69_method_55_code 10 = .ok (.ireturn, 1) := by decide +kernel
theorem ef_rm_chc (m : MethodId)   : entryFrame m #[(.int (12 : Int32))] 1 = mkF m 0 #[.val (.int (12 : Int32))] [] := by first | (simp [entryFrame, mkF, argsToLocals, Value.category]; done) | rfl
def Q_rm_chc (Z : State)   (h0 : Heap) (n0 : Nat) (v : Option Value) (h : Heap) (L : List Loc) : Prop := v = some (.int (16 : Int32)) ∧ Fr n0 L ∧ h = h0
theorem pn_8_ : plainName "java/util/HashMap" = true := by first | (simp [plainName, overriddenIn]; done) | decide +kernel
theorem pn_8 : plainFor (⟨"java/util/HashMap", "calculateHashMapCapacity", "(I)I"⟩ : MethodName) = true := plainFor_of_name pn_8_
set_option maxRecDepth 65536 in
set_option maxHeartbeats 40000000 in
theorem rm_chc (l : Launch) (Z : State) (a0 : Array Value) (hw : ∀ d ∈ tables_1, d.before a0 Z = true) (ws : List Jvm.Cond)   (h0 : Heap) (n0 : Nat) (O0 : Old Z n0 h0) (S__assertionsDisabled : Sta Z Z.heap "java/lang/StrictMath" "$assertionsDisabled" "Z" (.int (1 : Int32))) :
    MetFree l (⟨"java/util/HashMap", "calculateHashMapCapacity", "(I)I"⟩ : MethodName) (head1 (Jvm.Cond.code (⟨"java/util/HashMap", "calculateHashMapCapacity", "(I)I"⟩ : MethodName) jdk_69_method_55_code 1 (some .int) :: ws) ({ frames := 5, cells := 0, slots := 0, locals := 67 } : Room)) (fun args_ U => args_ = #[(.int (12 : Int32))] ∧ Z.Warmed39 U.vm ∧ U.heap = h0) (fun _ _ _ _ _ => True) (fun _ U out_ U' => ∃ val_ loc_, out_ = .returned val_ ∧ (Q_rm_chc Z  h0 n0) val_ U'.heap loc_ ∧ FrameEnd U out_ U' loc_ ({ frames := 5, cells := 0, slots := 0, locals := 67 } : Room).cells ({ frames := 5, cells := 0, slots := 0, locals := 67 } : Room).slots) := by
  refine start (Q := (Q_rm_chc Z  h0 n0)) pn_8 ?_
  intro p e s m below meth c T0 X0 hx hby hml hown hnm hret hlk hZ e0
  replace hown : s.vm.findClass "java/util/HashMap" = some m.cls := hown
  replace hml : c.maxLocals = 1 := hml
  refine goAt (ef_rm_chc m  ) ?_
  have N0 := Fr.nil n0
  show Go p e below T0 (mkF m 0 #[.val (.int (12 : Int32))] []) _
  refine stp (fun _ => XS.iloadN X0.here hx rfl (hb hby d15_0) rfl) ?_
  show Go p e below T0 (mkF m 1 #[.val (.int (12 : Int32))] [(.int (12 : Int32))]) _
  refine stp (fun _ => XS.i2dS X0.here hx rfl (hb hby d15_1) rfl (v := (4622945017495814144 : UInt64)) (by decide +kernel)) ?_
  show Go p e below T0 (mkF m 2 #[.val (.int (12 : Int32))] [(.double (4622945017495814144 : UInt64))]) _
  refine stp (fun _ => X0.ldc2DoubleC hx hown (mvT hZ (hw _ (List.mem_of_getElem? (i := 87) rfl))) (g := (mkF m 2 #[.val (.int (12 : Int32))] [(.double (4622945017495814144 : UInt64))])) rfl (hb hby d15_2) _) ?_
  show Go p e below T0 (mkF m 5 #[.val (.int (12 : Int32))] [(.double (4604930618986332160 : UInt64)), (.double (4622945017495814144 : UInt64))]) _
  refine stp (fun _ => XS.ddivS X0.here hx rfl (hb hby d15_5) rfl (v := (4625196817309499392 : UInt64)) own_nonan own_div) ?_
  show Go p e below T0 (mkF m 6 #[.val (.int (12 : Int32))] [(.double (4625196817309499392 : UInt64))]) _
  obtain ⟨_, _, ⟨T1, L1, k1, n1⟩, -, X1, ⟨Lc1, hQ1, l1, y1, z1⟩, st1⟩ := Jvm.LawKit.callS X0 hx (y := (⟨"java/lang/Math", "ceil", "(D)D"⟩ : MethodName)) hown (mvT hZ (hw _ (List.mem_of_getElem? (i := 88) rfl))) (mvT hZ (hw _ (List.mem_of_getElem? (i := 89) rfl))) (mvT hZ (hw _ (List.mem_of_getElem? (i := 78) rfl))) (mvT hZ (hw _ (List.mem_of_getElem? (i := 90) rfl))) (by decide) (own_ceilC (W := 0) hZ (own_ceil_tab hZ hw) own_whole (S__assertionsDisabled.ext O0.2) (n0 := n0) (by decide) (by decide)) (g := (mkF m 6 #[.val (.int (12 : Int32))] [(.double (4625196817309499392 : UInt64))])) rfl (by rw [hml]; rfl) (argsL := [(.double (4625196817309499392 : UInt64))]) (rest := []) (lenOf pd_2 rfl) rfl (by show 2 * 0 + _ ≤ _; exact Nat.le_of_eq rfl) (hb hby d15_6) (fun _ _ => ⟨rfl, e0, (by decide : 0 + 0 ≤ _), (by decide : 0 + 0 ≤ _)⟩)
  dsimp only [Pt.U, Pt.locs, Pt.cells, Pt.slots] at X1 l1 y1 z1 st1 hQ1
  subst y1 z1
  obtain ⟨rfl, N1q, e1⟩ := hQ1
  have N1 : Fr n0 L1 := by rw [l1]; exact Fr.app N0 N1q
  refine stp st1 ?_
  show Go p e below T1 (mkF m 9 #[.val (.int (12 : Int32))] [(.double (4625196817309499392 : UInt64))]) _
  refine stp (fun _ => XS.d2iS X1.here hx rfl (hb hby d15_9) rfl (v := (16 : Int32)) (by decide +kernel)) ?_
  show Go p e below T1 (mkF m 10 #[.val (.int (12 : Int32))] [(.int (16 : Int32))]) _
  refine outI X1 hx hret (hb hby d15_10) hlk (by decide) (by decide) ?_
  exact ⟨rfl, N1, e1⟩
theorem d24_0 : decode jdk_33_method_47_code 0 = .ok (.iload_n 0, 1) := by decide +kernel
theorem d24_1 : decode jdk_33_method_47_code 1 = .ok (.ifCond .gt 14, 3) := by decide +kernel
theorem d24_15 : decode jdk_33_method_47_code 15 = .ok (.bipush 31, 2) := by decide +kernel
theorem d24_17 : decode jdk_33_method_47_code 17 = .ok (.istore_n 1, 1) := by decide +kernel
theorem d24_18 : decode jdk_33_method_47_code 18 = .ok (.iload_n 0, 1) := by decide +kernel
theorem d24_19 : decode jdk_33_method_47_code 19 = .ok (.ldc_w 264, 3) := by decide +kernel
theorem d24_22 : decode jdk_33_method_47_code 22 = .ok (.if_icmp .lt 11, 3) := by decide +kernel
theorem d24_33 : decode jdk_33_method_47_code 33 = .ok (.iload_n 0, 1) := by decide +kernel
theorem d24_34 : decode jdk_33_method_47_code 34 = .ok (.sipush 256, 3) := by decide +kernel
theorem d24_37 : decode jdk_33_method_47_code 37 = .ok (.if_icmp .lt 11, 3) := by decide +kernel
theorem d24_48 : decode jdk_33_method_47_code 48 = .ok (.iload_n 0, 1) := by decide +kernel
theorem d24_49 : decode jdk_33_method_47_code 49 = .ok (.bipush 16, 2) := by decide +kernel
theorem d24_51 : decode jdk_33_method_47_code 51 = .ok (.if_icmp .lt 10, 3) := by decide +kernel
theorem d24_61 : decode jdk_33_method_47_code 61 = .ok (.iload_n 0, 1) := by decide +kernel
theorem d24_62 : decode jdk_33_method_47_code 62 = .ok (.iconst 4, 1) := by decide +kernel
theorem d24_63 : decode jdk_33_method_47_code 63 = .ok (.if_icmp .lt 10, 3) := by decide +kernel
theorem d24_66 : decode jdk_33_method_47_code 66 = .ok (.iinc 1 (-2), 3) := by decide +kernel
theorem d24_69 : decode jdk_33_method_47_code 69 = .ok (.iload_n 0, 1) := by decide +kernel
theorem d24_70 : decode jdk_33_method_47_code 70 = .ok (.iconst 2, 1) := by decide +kernel
theorem d24_71 : decode jdk_33_method_47_code 71 = .ok (.iushr, 1) := by decide +kernel
theorem d24_72 : decode jdk_33_method_47_code 72 = .ok (.istore_n 0, 1) := by decide +kernel
theorem d24_73 : decode jdk_33_method_47_code 73 = .ok (.iload_n 1, 1) := by decide +kernel
theorem d24_74 : decode jdk_33_method_47_code 74 = .ok (.iload_n 0, 1) := by decide +kernel
theorem d24_75 : decode jdk_33_method_47_code 75 = .ok (.iconst 1, 1) := by decide +kernel
theorem d24_76 : decode jdk_33_method_47_code 76 = .ok (.iushr, 1) := by decide +kernel
theorem d24_77 : decode jdk_33_method_47_code 77 = .ok (.isub, 1) := by decide +kernel
theorem d24_78 : decode jdk_33_method_47_code 78 = .ok (.ireturn, 1) := by decide +kernel
theorem ef_rm_nlz (m : MethodId)   : entryFrame m #[(.int (15 : Int32))] 2 = mkF m 0 #[.val (.int (15 : Int32)), .unset] [] := by first | (simp [entryFrame, mkF, argsToLocals, Value.category]; done) | rfl
def Q_rm_nlz (Z : State)   (h0 : Heap) (n0 : Nat) (v : Option Value) (h : Heap) (L : List Loc) : Prop := v = some (.int (28 : Int32)) ∧ Fr n0 L ∧ h = h0
theorem pn_9_ : plainName "java/lang/Integer" = true := by first | (simp [plainName, overriddenIn]; done) | decide +kernel
theorem pn_9 : plainFor (⟨"java/lang/Integer", "numberOfLeadingZeros", "(I)I"⟩ : MethodName) = true := plainFor_of_name pn_9_
set_option maxRecDepth 65536 in
set_option maxHeartbeats 40000000 in
theorem rm_nlz (l : Launch) (Z : State) (a0 : Array Value) (hw : ∀ d ∈ tables_1, d.before a0 Z = true) (ws : List Jvm.Cond)   (h0 : Heap) (n0 : Nat) (O0 : Old Z n0 h0)  :
    MetFree l (⟨"java/lang/Integer", "numberOfLeadingZeros", "(I)I"⟩ : MethodName) (head1 (Jvm.Cond.code (⟨"java/lang/Integer", "numberOfLeadingZeros", "(I)I"⟩ : MethodName) jdk_33_method_47_code 2 (some .int) :: ws) ({ frames := 0, cells := 0, slots := 0, locals := 0 } : Room)) (fun args_ U => args_ = #[(.int (15 : Int32))] ∧ Z.Warmed39 U.vm ∧ U.heap = h0) (fun _ _ _ _ _ => True) (fun _ U out_ U' => ∃ val_ loc_, out_ = .returned val_ ∧ (Q_rm_nlz Z  h0 n0) val_ U'.heap loc_ ∧ FrameEnd U out_ U' loc_ ({ frames := 0, cells := 0, slots := 0, locals := 0 } : Room).cells ({ frames := 0, cells := 0, slots := 0, locals := 0 } : Room).slots) := by
  refine start (Q := (Q_rm_nlz Z  h0 n0)) pn_9 ?_
  intro p e s m below meth c T0 X0 hx hby hml hown hnm hret hlk hZ e0
  replace hown : s.vm.findClass "java/lang/Integer" = some m.cls := hown
  replace hml : c.maxLocals = 2 := hml
  refine goAt (ef_rm_nlz m  ) ?_
  have N0 := Fr.nil n0
  show Go p e below T0 (mkF m 0 #[.val (.int (15 : Int32)), .unset] []) _
  refine stp (fun _ => XS.iloadN X0.here hx rfl (hb hby d24_0) rfl) ?_
  show Go p e below T0 (mkF m 1 #[.val (.int (15 : Int32)), .unset] [(.int (15 : Int32))]) _
  refine stp (fun _ => XS.ifYes X0.here hx rfl (pc0 := 1) (pc' := 15) rfl (hb hby d24_1) rfl (by decide) (by decide) (by decide)) ?_
  show Go p e below T0 (mkF m 15 #[.val (.int (15 : Int32)), .unset] []) _
  refine stp (fun _ => XS.bipush X0.here hx rfl (hb hby d24_15)) ?_
  show Go p e below T0 (mkF m 17 #[.val (.int (15 : Int32)), .unset] [(.int (31 : Int32))]) _
  refine stp (fun _ => XS.istoreN X0.here hx rfl (hb hby d24_17) rfl (l' := #[.val (.int (15 : Int32)), .val (.int (31 : Int32))]) rfl) ?_
  show Go p e below T0 (mkF m 18 #[.val (.int (15 : Int32)), .val (.int (31 : Int32))] []) _
  refine stp (fun _ => XS.iloadN X0.here hx rfl (hb hby d24_18) rfl) ?_
  show Go p e below T0 (mkF m 19 #[.val (.int (15 : Int32)), .val (.int (31 : Int32))] [(.int (15 : Int32))]) _
  refine stp (fun _ => X0.ldcwInt hx hown (mvT hZ (hw _ (List.mem_of_getElem? (i := 129) rfl))) (g := (mkF m 19 #[.val (.int (15 : Int32)), .val (.int (31 : Int32))] [(.int (15 : Int32))])) rfl (hb hby d24_19) _) ?_
  show Go p e below T0 (mkF m 22 #[.val (.int (15 : Int32)), .val (.int (31 : Int32))] [(.int (65536 : Int32)), (.int (15 : Int32))]) _
  refine stp (fun _ => XS.icmpYes X0.here hx rfl (pc0 := 22) (pc' := 33) rfl (hb hby d24_22) rfl (by decide) (by decide) (by decide)) ?_
  show Go p e below T0 (mkF m 33 #[.val (.int (15 : Int32)), .val (.int (31 : Int32))] []) _
  refine stp (fun _ => XS.iloadN X0.here hx rfl (hb hby d24_33) rfl) ?_
  show Go p e below T0 (mkF m 34 #[.val (.int (15 : Int32)), .val (.int (31 : Int32))] [(.int (15 : Int32))]) _
  refine stp (fun _ => XS.sipush X0.here hx rfl (hb hby d24_34)) ?_
  show Go p e below T0 (mkF m 37 #[.val (.int (15 : Int32)), .val (.int (31 : Int32))] [(.int (256 : Int32)), (.int (15 : Int32))]) _
  refine stp (fun _ => XS.icmpYes X0.here hx rfl (pc0 := 37) (pc' := 48) rfl (hb hby d24_37) rfl (by decide) (by decide) (by decide)) ?_
  show Go p e below T0 (mkF m 48 #[.val (.int (15 : Int32)), .val (.int (31 : Int32))] []) _
  refine stp (fun _ => XS.iloadN X0.here hx rfl (hb hby d24_48) rfl) ?_
  show Go p e below T0 (mkF m 49 #[.val (.int (15 : Int32)), .val (.int (31 : Int32))] [(.int (15 : Int32))]) _
  refine stp (fun _ => XS.bipush X0.here hx rfl (hb hby d24_49)) ?_
  show Go p e below T0 (mkF m 51 #[.val (.int (15 : Int32)), .val (.int (31 : Int32))] [(.int (16 : Int32)), (.int (15 : Int32))]) _
  refine stp (fun _ => XS.icmpYes X0.here hx rfl (pc0 := 51) (pc' := 61) rfl (hb hby d24_51) rfl (by decide) (by decide) (by decide)) ?_
  show Go p e below T0 (mkF m 61 #[.val (.int (15 : Int32)), .val (.int (31 : Int32))] []) _
  refine stp (fun _ => XS.iloadN X0.here hx rfl (hb hby d24_61) rfl) ?_
  show Go p e below T0 (mkF m 62 #[.val (.int (15 : Int32)), .val (.int (31 : Int32))] [(.int (15 : Int32))]) _
  refine stp (fun _ => XS.iconst X0.here hx rfl (hb hby d24_62)) ?_
  show Go p e below T0 (mkF m 63 #[.val (.int (15 : Int32)), .val (.int (31 : Int32))] [(.int (4 : Int32)), (.int (15 : Int32))]) _
  refine stp (fun _ => XS.icmpNo X0.here hx rfl (hb hby d24_63) rfl (by decide)) ?_
  show Go p e below T0 (mkF m 66 #[.val (.int (15 : Int32)), .val (.int (31 : Int32))] []) _
  refine stp (fun _ => XS.iinc X0.here hx rfl (hb hby d24_66) rfl (l' := #[.val (.int (15 : Int32)), .val (.int (29 : Int32))]) rfl) ?_
  show Go p e below T0 (mkF m 69 #[.val (.int (15 : Int32)), .val (.int (29 : Int32))] []) _
  refine stp (fun _ => XS.iloadN X0.here hx rfl (hb hby d24_69) rfl) ?_
  show Go p e below T0 (mkF m 70 #[.val (.int (15 : Int32)), .val (.int (29 : Int32))] [(.int (15 : Int32))]) _
  refine stp (fun _ => XS.iconst X0.here hx rfl (hb hby d24_70)) ?_
  show Go p e below T0 (mkF m 71 #[.val (.int (15 : Int32)), .val (.int (29 : Int32))] [(.int (2 : Int32)), (.int (15 : Int32))]) _
  refine stp (fun _ => XS.iushr X0.here hx rfl (hb hby d24_71) rfl) ?_
  show Go p e below T0 (mkF m 72 #[.val (.int (15 : Int32)), .val (.int (29 : Int32))] [(.int (((15 : Int32).toUInt32 >>> ((2 : Int32) &&& 31).toUInt32).toInt32))]) _
  rw [show (((15 : Int32).toUInt32 >>> ((2 : Int32) &&& 31).toUInt32).toInt32) = (3 : Int32) by decide]
  show Go p e below T0 (mkF m 72 #[.val (.int (15 : Int32)), .val (.int (29 : Int32))] [(.int (3 : Int32))]) _
  refine stp (fun _ => XS.istoreN X0.here hx rfl (hb hby d24_72) rfl (l' := #[.val (.int (3 : Int32)), .val (.int (29 : Int32))]) rfl) ?_
  show Go p e below T0 (mkF m 73 #[.val (.int (3 : Int32)), .val (.int (29 : Int32))] []) _
  refine stp (fun _ => XS.iloadN X0.here hx rfl (hb hby d24_73) rfl) ?_
  show Go p e below T0 (mkF m 74 #[.val (.int (3 : Int32)), .val (.int (29 : Int32))] [(.int (29 : Int32))]) _
  refine stp (fun _ => XS.iloadN X0.here hx rfl (hb hby d24_74) rfl) ?_
  show Go p e below T0 (mkF m 75 #[.val (.int (3 : Int32)), .val (.int (29 : Int32))] [(.int (3 : Int32)), (.int (29 : Int32))]) _
  refine stp (fun _ => XS.iconst X0.here hx rfl (hb hby d24_75)) ?_
  show Go p e below T0 (mkF m 76 #[.val (.int (3 : Int32)), .val (.int (29 : Int32))] [(.int (1 : Int32)), (.int (3 : Int32)), (.int (29 : Int32))]) _
  refine stp (fun _ => XS.iushr X0.here hx rfl (hb hby d24_76) rfl) ?_
  show Go p e below T0 (mkF m 77 #[.val (.int (3 : Int32)), .val (.int (29 : Int32))] [(.int (((3 : Int32).toUInt32 >>> ((1 : Int32) &&& 31).toUInt32).toInt32)), (.int (29 : Int32))]) _
  rw [show (((3 : Int32).toUInt32 >>> ((1 : Int32) &&& 31).toUInt32).toInt32) = (1 : Int32) by decide]
  show Go p e below T0 (mkF m 77 #[.val (.int (3 : Int32)), .val (.int (29 : Int32))] [(.int (1 : Int32)), (.int (29 : Int32))]) _
  refine stp (fun _ => XS.isub X0.here hx rfl (hb hby d24_77) rfl) ?_
  show Go p e below T0 (mkF m 78 #[.val (.int (3 : Int32)), .val (.int (29 : Int32))] [(.int (28 : Int32))]) _
  refine outI X0 hx hret (hb hby d24_78) hlk (by decide) (by decide) ?_
  exact ⟨rfl, N0, e0⟩
theorem d23_0 : decode jdk_69_method_4_code 0 = .ok (.iconst (-1), 1) := by decide +kernel
theorem d23_1 : decode jdk_69_method_4_code 1 = .ok (.iload_n 0, 1) := by decide +kernel
theorem d23_2 : decode jdk_69_method_4_code 2 = .ok (.iconst 1, 1) := by decide +kernel
theorem d23_3 : decode jdk_69_method_4_code 3 = .ok (.isub, 1) := by decide +kernel
theorem d23_4 : decode jdk_69_method_4_code 4 = .ok (.invokestatic 34, 3) := by decide +kernel
theorem pd_3 : parseMethodDescriptor "(I)I" = some ⟨[.int], some .int⟩ := by decide +kernel
theorem d23_7 : decode jdk_69_method_4_code 7 = .ok (.iushr, 1) := by decide +kernel
theorem d23_8 : decode jdk_69_method_4_code 8 = .ok (.istore_n 1, 1) := by decide +kernel
theorem d23_9 : decode jdk_69_method_4_code 9 = .ok (.iload_n 1, 1) := by decide +kernel
theorem d23_10 : decode jdk_69_method_4_code 10 = .ok (.ifCond .ge 7, 3) := by decide +kernel
theorem d23_17 : decode jdk_69_method_4_code 17 = .ok (.iload_n 1, 1) := by decide +kernel
theorem d23_18 : decode jdk_69_method_4_code 18 = .ok (.ldc 42, 2) := by decide +kernel
theorem d23_20 : decode jdk_69_method_4_code 20 = .ok (.if_icmp .lt 8, 3) := by decide +kernel
theorem d23_28 : decode jdk_69_method_4_code 28 = .ok (.iload_n 1, 1) := by decide +kernel
theorem d23_29 : decode jdk_69_method_4_code 29 = .ok (.iconst 1, 1) := by decide +kernel
theorem d23_30 : decode jdk_69_method_4_code 30 = .ok (.iadd, 1) := by decide +kernel
theorem d23_31 : decode jdk_69_method_4_code 31 = .ok (.ireturn, 1) := by decide +kernel
theorem ef_rm_tsf (m : MethodId)   : entryFrame m #[(.int (16 : Int32))] 2 = mkF m 0 #[.val (.int (16 : Int32)), .unset] [] := by first | (simp [entryFrame, mkF, argsToLocals, Value.category]; done) | rfl
def Q_rm_tsf (Z : State)   (h0 : Heap) (n0 : Nat) (v : Option Value) (h : Heap) (L : List Loc) : Prop := v = some (.int (16 : Int32)) ∧ Fr n0 L ∧ h = h0
theorem pn_10_ : plainName "java/util/HashMap" = true := by first | (simp [plainName, overriddenIn]; done) | decide +kernel
theorem pn_10 : plainFor (⟨"java/util/HashMap", "tableSizeFor", "(I)I"⟩ : MethodName) = true := plainFor_of_name pn_10_
set_option maxRecDepth 65536 in
set_option maxHeartbeats 40000000 in
theorem rm_tsf (l : Launch) (Z : State) (a0 : Array Value) (hw : ∀ d ∈ tables_1, d.before a0 Z = true) (ws : List Jvm.Cond)   (h0 : Heap) (n0 : Nat) (O0 : Old Z n0 h0)  :
    MetFree l (⟨"java/util/HashMap", "tableSizeFor", "(I)I"⟩ : MethodName) (head1 (Jvm.Cond.code (⟨"java/util/HashMap", "tableSizeFor", "(I)I"⟩ : MethodName) jdk_69_method_4_code 2 (some .int) :: ws) ({ frames := 1, cells := 0, slots := 0, locals := 14 } : Room)) (fun args_ U => args_ = #[(.int (16 : Int32))] ∧ Z.Warmed39 U.vm ∧ U.heap = h0) (fun _ _ _ _ _ => True) (fun _ U out_ U' => ∃ val_ loc_, out_ = .returned val_ ∧ (Q_rm_tsf Z  h0 n0) val_ U'.heap loc_ ∧ FrameEnd U out_ U' loc_ ({ frames := 1, cells := 0, slots := 0, locals := 14 } : Room).cells ({ frames := 1, cells := 0, slots := 0, locals := 14 } : Room).slots) := by
  refine start (Q := (Q_rm_tsf Z  h0 n0)) pn_10 ?_
  intro p e s m below meth c T0 X0 hx hby hml hown hnm hret hlk hZ e0
  replace hown : s.vm.findClass "java/util/HashMap" = some m.cls := hown
  replace hml : c.maxLocals = 2 := hml
  refine goAt (ef_rm_tsf m  ) ?_
  have N0 := Fr.nil n0
  show Go p e below T0 (mkF m 0 #[.val (.int (16 : Int32)), .unset] []) _
  refine stp (fun _ => XS.iconst X0.here hx rfl (hb hby d23_0)) ?_
  show Go p e below T0 (mkF m 1 #[.val (.int (16 : Int32)), .unset] [(.int (-1 : Int32))]) _
  refine stp (fun _ => XS.iloadN X0.here hx rfl (hb hby d23_1) rfl) ?_
  show Go p e below T0 (mkF m 2 #[.val (.int (16 : Int32)), .unset] [(.int (16 : Int32)), (.int (-1 : Int32))]) _
  refine stp (fun _ => XS.iconst X0.here hx rfl (hb hby d23_2)) ?_
  show Go p e below T0 (mkF m 3 #[.val (.int (16 : Int32)), .unset] [(.int (1 : Int32)), (.int (16 : Int32)), (.int (-1 : Int32))]) _
  refine stp (fun _ => XS.isub X0.here hx rfl (hb hby d23_3) rfl) ?_
  show Go p e below T0 (mkF m 4 #[.val (.int (16 : Int32)), .unset] [(.int (15 : Int32)), (.int (-1 : Int32))]) _
  obtain ⟨_, _, ⟨T1, L1, k1, n1⟩, -, X1, ⟨Lc1, hQ1, l1, y1, z1⟩, st1⟩ := Jvm.LawKit.callS X0 hx (y := (⟨"java/lang/Integer", "numberOfLeadingZeros", "(I)I"⟩ : MethodName)) hown (mvT hZ (hw _ (List.mem_of_getElem? (i := 125) rfl))) (mvT hZ (hw _ (List.mem_of_getElem? (i := 126) rfl))) (mvT hZ (hw _ (List.mem_of_getElem? (i := 127) rfl))) (mvT hZ (hw _ (List.mem_of_getElem? (i := 128) rfl))) (by decide) (backOf (W := 1) (rm_nlz l Z a0 hw []   h0 n0 O0 ) hZ (hw _ (List.mem_of_getElem? (i := 128) rfl)) (hw _ (List.mem_of_getElem? (i := 127) rfl)) (by decide) (by decide)) (g := (mkF m 4 #[.val (.int (16 : Int32)), .unset] [(.int (15 : Int32)), (.int (-1 : Int32))])) rfl (by rw [hml]; rfl) (argsL := [(.int (15 : Int32))]) (rest := [(.int (-1 : Int32))]) (lenOf pd_3 rfl) rfl (by show 2 * 0 + _ ≤ _; exact Nat.le_of_eq rfl) (hb hby d23_4) (fun _ _ => ⟨rfl, e0, (by decide : 0 + 0 ≤ _), (by decide : 0 + 0 ≤ _)⟩)
  dsimp only [Pt.U, Pt.locs, Pt.cells, Pt.slots] at X1 l1 y1 z1 st1 hQ1
  subst y1 z1
  obtain ⟨rfl, N1q, e1⟩ := hQ1
  have N1 : Fr n0 L1 := by rw [l1]; exact Fr.app N0 N1q
  refine stp st1 ?_
  show Go p e below T1 (mkF m 7 #[.val (.int (16 : Int32)), .unset] [(.int (28 : Int32)), (.int (-1 : Int32))]) _
  refine stp (fun _ => XS.iushr X1.here hx rfl (hb hby d23_7) rfl) ?_
  show Go p e below T1 (mkF m 8 #[.val (.int (16 : Int32)), .unset] [(.int (((-1 : Int32).toUInt32 >>> ((28 : Int32) &&& 31).toUInt32).toInt32))]) _
  rw [show (((-1 : Int32).toUInt32 >>> ((28 : Int32) &&& 31).toUInt32).toInt32) = (15 : Int32) by decide]
  show Go p e below T1 (mkF m 8 #[.val (.int (16 : Int32)), .unset] [(.int (15 : Int32))]) _
  refine stp (fun _ => XS.istoreN X1.here hx rfl (hb hby d23_8) rfl (l' := #[.val (.int (16 : Int32)), .val (.int (15 : Int32))]) rfl) ?_
  show Go p e below T1 (mkF m 9 #[.val (.int (16 : Int32)), .val (.int (15 : Int32))] []) _
  refine stp (fun _ => XS.iloadN X1.here hx rfl (hb hby d23_9) rfl) ?_
  show Go p e below T1 (mkF m 10 #[.val (.int (16 : Int32)), .val (.int (15 : Int32))] [(.int (15 : Int32))]) _
  refine stp (fun _ => XS.ifYes X1.here hx rfl (pc0 := 10) (pc' := 17) rfl (hb hby d23_10) rfl (by decide) (by decide) (by decide)) ?_
  show Go p e below T1 (mkF m 17 #[.val (.int (16 : Int32)), .val (.int (15 : Int32))] []) _
  refine stp (fun _ => XS.iloadN X1.here hx rfl (hb hby d23_17) rfl) ?_
  show Go p e below T1 (mkF m 18 #[.val (.int (16 : Int32)), .val (.int (15 : Int32))] [(.int (15 : Int32))]) _
  refine stp (fun _ => X1.ldcInt hx hown (mvT hZ (hw _ (List.mem_of_getElem? (i := 117) rfl))) (g := (mkF m 18 #[.val (.int (16 : Int32)), .val (.int (15 : Int32))] [(.int (15 : Int32))])) rfl (hb hby d23_18) _) ?_
  show Go p e below T1 (mkF m 20 #[.val (.int (16 : Int32)), .val (.int (15 : Int32))] [(.int (1073741824 : Int32)), (.int (15 : Int32))]) _
  refine stp (fun _ => XS.icmpYes X1.here hx rfl (pc0 := 20) (pc' := 28) rfl (hb hby d23_20) rfl (by decide) (by decide) (by decide)) ?_
  show Go p e below T1 (mkF m 28 #[.val (.int (16 : Int32)), .val (.int (15 : Int32))] []) _
  refine stp (fun _ => XS.iloadN X1.here hx rfl (hb hby d23_28) rfl) ?_
  show Go p e below T1 (mkF m 29 #[.val (.int (16 : Int32)), .val (.int (15 : Int32))] [(.int (15 : Int32))]) _
  refine stp (fun _ => XS.iconst X1.here hx rfl (hb hby d23_29)) ?_
  show Go p e below T1 (mkF m 30 #[.val (.int (16 : Int32)), .val (.int (15 : Int32))] [(.int (1 : Int32)), (.int (15 : Int32))]) _
  refine stp (fun _ => XS.iadd X1.here hx rfl (hb hby d23_30) rfl) ?_
  show Go p e below T1 (mkF m 31 #[.val (.int (16 : Int32)), .val (.int (15 : Int32))] [(.int (16 : Int32))]) _
  refine outI X1 hx hret (hb hby d23_31) hlk (by decide) (by decide) ?_
  exact ⟨rfl, N1, e1⟩
theorem d22_0 : decode jdk_118_method_6_code 0 = .ok (.fload_n 0, 1) := by decide +kernel
theorem d22_1 : decode jdk_118_method_6_code 1 = .ok (.fload_n 0, 1) := by decide +kernel
theorem d22_2 : decode jdk_118_method_6_code 2 = .ok (.fcmp .l, 1) := by decide +kernel
theorem d22_3 : decode jdk_118_method_6_code 3 = .ok (.ifCond .eq 7, 3) := by decide +kernel
theorem d22_10 : decode jdk_118_method_6_code 10 = .ok (.iconst 0, 1) := by decide +kernel
theorem d22_11 : decode jdk_118_method_6_code 11 = .ok (.ireturn, 1) := by decide +kernel
theorem ef_rm_nan (m : MethodId)   : entryFrame m #[(.float (1061158912 : UInt32))] 1 = mkF m 0 #[.val (.float (1061158912 : UInt32))] [] := by first | (simp [entryFrame, mkF, argsToLocals, Value.category]; done) | rfl
def Q_rm_nan (Z : State)   (h0 : Heap) (n0 : Nat) (v : Option Value) (h : Heap) (L : List Loc) : Prop := v = some (.int (0 : Int32)) ∧ Fr n0 L ∧ h = h0
theorem pn_11 : plainFor (⟨"java/lang/Float", "isNaN", "(F)Z"⟩ : MethodName) = true := by decide +kernel
set_option maxRecDepth 65536 in
set_option maxHeartbeats 40000000 in
theorem rm_nan (l : Launch) (Z : State) (a0 : Array Value) (hw : ∀ d ∈ tables_1, d.before a0 Z = true) (ws : List Jvm.Cond)   (h0 : Heap) (n0 : Nat) (O0 : Old Z n0 h0)  :
    MetFree l (⟨"java/lang/Float", "isNaN", "(F)Z"⟩ : MethodName) (head1 (Jvm.Cond.code (⟨"java/lang/Float", "isNaN", "(F)Z"⟩ : MethodName) jdk_118_method_6_code 1 (some .boolean) :: ws) ({ frames := 0, cells := 0, slots := 0, locals := 0 } : Room)) (fun args_ U => args_ = #[(.float (1061158912 : UInt32))] ∧ Z.Warmed39 U.vm ∧ U.heap = h0) (fun _ _ _ _ _ => True) (fun _ U out_ U' => ∃ val_ loc_, out_ = .returned val_ ∧ (Q_rm_nan Z  h0 n0) val_ U'.heap loc_ ∧ FrameEnd U out_ U' loc_ ({ frames := 0, cells := 0, slots := 0, locals := 0 } : Room).cells ({ frames := 0, cells := 0, slots := 0, locals := 0 } : Room).slots) := by
  refine start (Q := (Q_rm_nan Z  h0 n0)) pn_11 ?_
  intro p e s m below meth c T0 X0 hx hby hml hown hnm hret hlk hZ e0
  replace hown : s.vm.findClass "java/lang/Float" = some m.cls := hown
  replace hml : c.maxLocals = 1 := hml
  refine goAt (ef_rm_nan m  ) ?_
  have N0 := Fr.nil n0
  show Go p e below T0 (mkF m 0 #[.val (.float (1061158912 : UInt32))] []) _
  refine stp (fun _ => XS.floadN X0.here hx rfl (hb hby d22_0) rfl) ?_
  show Go p e below T0 (mkF m 1 #[.val (.float (1061158912 : UInt32))] [(.float (1061158912 : UInt32))]) _
  refine stp (fun _ => XS.floadN X0.here hx rfl (hb hby d22_1) rfl) ?_
  show Go p e below T0 (mkF m 2 #[.val (.float (1061158912 : UInt32))] [(.float (1061158912 : UInt32)), (.float (1061158912 : UInt32))]) _
  refine stp (fun _ => XS.fcmpS X0.here hx rfl (hb hby d22_2) rfl (v := (0 : Int32)) (by decide +kernel)) ?_
  show Go p e below T0 (mkF m 3 #[.val (.float (1061158912 : UInt32))] [(.int (0 : Int32))]) _
  refine stp (fun _ => XS.ifYes X0.here hx rfl (pc0 := 3) (pc' := 10) rfl (hb hby d22_3) rfl (by decide) (by decide) (by decide)) ?_
  show Go p e below T0 (mkF m 10 #[.val (.float (1061158912 : UInt32))] []) _
  refine stp (fun _ => XS.iconst X0.here hx rfl (hb hby d22_10)) ?_
  show Go p e below T0 (mkF m 11 #[.val (.float (1061158912 : UInt32))] [(.int (0 : Int32))]) _
  refine outN X0 hx (t := .boolean) hret (by simp) (hb hby d22_11) hlk (by decide) (by decide) ?_
  exact ⟨rfl, N0, e0⟩
theorem d21_0 : decode jdk_69_method_5_code 0 = .ok (.aload_n 0, 1) := by decide +kernel
theorem d21_1 : decode jdk_69_method_5_code 1 = .ok (.invokespecial 43, 3) := by decide +kernel
theorem d21_4 : decode jdk_69_method_5_code 4 = .ok (.iload_n 1, 1) := by decide +kernel
theorem d21_5 : decode jdk_69_method_5_code 5 = .ok (.ifCond .ge 30, 3) := by decide +kernel
theorem d21_35 : decode jdk_69_method_5_code 35 = .ok (.iload_n 1, 1) := by decide +kernel
theorem d21_36 : decode jdk_69_method_5_code 36 = .ok (.ldc 42, 2) := by decide +kernel
theorem d21_38 : decode jdk_69_method_5_code 38 = .ok (.if_icmp .le 6, 3) := by decide +kernel
theorem d21_44 : decode jdk_69_method_5_code 44 = .ok (.fload_n 2, 1) := by decide +kernel
theorem d21_45 : decode jdk_69_method_5_code 45 = .ok (.fconst 0, 1) := by decide +kernel
theorem d21_46 : decode jdk_69_method_5_code 46 = .ok (.fcmp .g, 1) := by decide +kernel
theorem d21_47 : decode jdk_69_method_5_code 47 = .ok (.ifCond .le 10, 3) := by decide +kernel
theorem d21_50 : decode jdk_69_method_5_code 50 = .ok (.fload_n 2, 1) := by decide +kernel
theorem d21_51 : decode jdk_69_method_5_code 51 = .ok (.invokestatic 70, 3) := by decide +kernel
theorem pd_4 : parseMethodDescriptor "(F)Z" = some ⟨[.float], some .boolean⟩ := by decide +kernel
theorem d21_54 : decode jdk_69_method_5_code 54 = .ok (.ifCond .eq 30, 3) := by decide +kernel
theorem d21_84 : decode jdk_69_method_5_code 84 = .ok (.aload_n 0, 1) := by decide +kernel
theorem d21_85 : decode jdk_69_method_5_code 85 = .ok (.fload_n 2, 1) := by decide +kernel
theorem d21_86 : decode jdk_69_method_5_code 86 = .ok (.putfield 81, 3) := by decide +kernel
theorem d21_89 : decode jdk_69_method_5_code 89 = .ok (.aload_n 0, 1) := by decide +kernel
theorem d21_90 : decode jdk_69_method_5_code 90 = .ok (.iload_n 1, 1) := by decide +kernel
theorem d21_91 : decode jdk_69_method_5_code 91 = .ok (.invokestatic 85, 3) := by decide +kernel
theorem d21_94 : decode jdk_69_method_5_code 94 = .ok (.putfield 88, 3) := by decide +kernel
theorem d21_97 : decode jdk_69_method_5_code 97 = .ok (.return_, 1) := by decide +kernel
theorem ef_rm_hm2 (m : MethodId) (t : Addr)  : entryFrame m #[(.ref t), (.int (16 : Int32)), (.float (1061158912 : UInt32))] 3 = mkF m 0 #[.val (.ref t), .val (.int (16 : Int32)), .val (.float (1061158912 : UInt32))] [] := by first | (simp [entryFrame, mkF, argsToLocals, Value.category]; done) | rfl
def Q_rm_hm2 (Z : State) (t : Addr)  (h0 : Heap) (n0 : Nat) (v : Option Value) (h : Heap) (L : List Loc) : Prop := v = none ∧ Fr n0 L ∧ Keep h0 h [t] ∧ Exa Z h t "java/util/HashMap"
theorem pn_12_ : plainName "java/util/HashMap" = true := by first | (simp [plainName, overriddenIn]; done) | decide +kernel
theorem pn_12 : plainFor (⟨"java/util/HashMap", "<init>", "(IF)V"⟩ : MethodName) = true := plainFor_of_name pn_12_
set_option maxRecDepth 65536 in
set_option maxHeartbeats 40000000 in
theorem rm_hm2 (l : Launch) (Z : State) (a0 : Array Value) (hw : ∀ d ∈ tables_1, d.before a0 Z = true) (ws : List Jvm.Cond) (t : Addr)  (h0 : Heap) (n0 : Nat) (O0 : Old Z n0 h0) (E_t : Exa Z h0 t "java/util/HashMap") (F_t_loadFactor : Fld Z h0 t "java/util/HashMap" "loadFactor" "F" (.float 0)) (F_t_threshold : Fld Z h0 t "java/util/HashMap" "threshold" "I" (.int (0 : Int32))) (ge_t : n0 ≤ t) :
    MetFree l (⟨"java/util/HashMap", "<init>", "(IF)V"⟩ : MethodName) (head1 (Jvm.Cond.code (⟨"java/util/HashMap", "<init>", "(IF)V"⟩ : MethodName) jdk_69_method_5_code 3 none :: ws) ({ frames := 2, cells := 0, slots := 0, locals := 28 } : Room)) (fun args_ U => args_ = #[(.ref t), (.int (16 : Int32)), (.float (1061158912 : UInt32))] ∧ Z.Warmed39 U.vm ∧ U.heap = h0) (fun _ _ _ _ _ => True) (fun _ U out_ U' => ∃ val_ loc_, out_ = .returned val_ ∧ (Q_rm_hm2 Z t h0 n0) val_ U'.heap loc_ ∧ FrameEnd U out_ U' loc_ ({ frames := 2, cells := 0, slots := 0, locals := 28 } : Room).cells ({ frames := 2, cells := 0, slots := 0, locals := 28 } : Room).slots) := by
  refine start (Q := (Q_rm_hm2 Z t h0 n0)) pn_12 ?_
  intro p e s m below meth c T0 X0 hx hby hml hown hnm hret hlk hZ e0
  replace hown : s.vm.findClass "java/util/HashMap" = some m.cls := hown
  replace hml : c.maxLocals = 3 := hml
  refine goAt (ef_rm_hm2 m t ) ?_
  have N0 := Fr.nil n0
  show Go p e below T0 (mkF m 0 #[.val (.ref t), .val (.int (16 : Int32)), .val (.float (1061158912 : UInt32))] []) _
  refine stp (fun _ => XS.aloadN X0.here hx rfl (hb hby d21_0) rfl rfl) ?_
  show Go p e below T0 (mkF m 1 #[.val (.ref t), .val (.int (16 : Int32)), .val (.float (1061158912 : UInt32))] [(.ref t)]) _
  obtain ⟨_, _, ⟨T1, L1, k1, n1⟩, -, X1, ⟨Lc1, hQ1, l1, y1, z1⟩, st1⟩ := X0.specialBack hx (y := (⟨"java/util/AbstractMap", "<init>", "()V"⟩ : MethodName)) rfl hown (mvT hZ (hw _ (List.mem_of_getElem? (i := 31) rfl))) (mvT hZ (hw _ (List.mem_of_getElem? (i := 32) rfl))) (mvT hZ (hw _ (List.mem_of_getElem? (i := 36) rfl))) (by decide) (backOf (W := 0) (rm_am l Z a0 hw [] t  h0 n0 O0 ) hZ (hw _ (List.mem_of_getElem? (i := 36) rfl)) (hw _ (List.mem_of_getElem? (i := 35) rfl)) (by decide) (by decide)) (g := (mkF m 1 #[.val (.ref t), .val (.int (16 : Int32)), .val (.float (1061158912 : UInt32))] [(.ref t)])) rfl (by rw [hml]; rfl) (Steps.refl _) (a := t) (argsL := []) (rest := []) (lenOf pd_0 rfl) rfl (by show 2 * 0 + _ ≤ _; exact Nat.le_of_eq rfl) (hb hby d21_1) (fun _ _ => ⟨rfl, e0, (by decide : 0 + 0 ≤ _), (by decide : 0 + 0 ≤ _)⟩)
  dsimp only [Pt.U, Pt.locs, Pt.cells, Pt.slots] at X1 l1 y1 z1 st1 hQ1
  subst y1 z1
  obtain ⟨rfl, N1q, e1⟩ := hQ1
  have N1 : Fr n0 L1 := by rw [l1]; exact Fr.app N0 N1q
  refine stt st1 ?_
  show Go p e below T1 (mkF m 4 #[.val (.ref t), .val (.int (16 : Int32)), .val (.float (1061158912 : UInt32))] []) _
  refine stp (fun _ => XS.iloadN X1.here hx rfl (hb hby d21_4) rfl) ?_
  show Go p e below T1 (mkF m 5 #[.val (.ref t), .val (.int (16 : Int32)), .val (.float (1061158912 : UInt32))] [(.int (16 : Int32))]) _
  refine stp (fun _ => XS.ifYes X1.here hx rfl (pc0 := 5) (pc' := 35) rfl (hb hby d21_5) rfl (by decide) (by decide) (by decide)) ?_
  show Go p e below T1 (mkF m 35 #[.val (.ref t), .val (.int (16 : Int32)), .val (.float (1061158912 : UInt32))] []) _
  refine stp (fun _ => XS.iloadN X1.here hx rfl (hb hby d21_35) rfl) ?_
  show Go p e below T1 (mkF m 36 #[.val (.ref t), .val (.int (16 : Int32)), .val (.float (1061158912 : UInt32))] [(.int (16 : Int32))]) _
  refine stp (fun _ => X1.ldcInt hx hown (mvT hZ (hw _ (List.mem_of_getElem? (i := 117) rfl))) (g := (mkF m 36 #[.val (.ref t), .val (.int (16 : Int32)), .val (.float (1061158912 : UInt32))] [(.int (16 : Int32))])) rfl (hb hby d21_36) _) ?_
  show Go p e below T1 (mkF m 38 #[.val (.ref t), .val (.int (16 : Int32)), .val (.float (1061158912 : UInt32))] [(.int (1073741824 : Int32)), (.int (16 : Int32))]) _
  refine stp (fun _ => XS.icmpYes X1.here hx rfl (pc0 := 38) (pc' := 44) rfl (hb hby d21_38) rfl (by decide) (by decide) (by decide)) ?_
  show Go p e below T1 (mkF m 44 #[.val (.ref t), .val (.int (16 : Int32)), .val (.float (1061158912 : UInt32))] []) _
  refine stp (fun _ => XS.floadN X1.here hx rfl (hb hby d21_44) rfl) ?_
  show Go p e below T1 (mkF m 45 #[.val (.ref t), .val (.int (16 : Int32)), .val (.float (1061158912 : UInt32))] [(.float (1061158912 : UInt32))]) _
  refine stp (fun _ => XS.fconst0 X1.here hx rfl (hb hby d21_45) (v := (0 : UInt32)) (by decide +kernel)) ?_
  show Go p e below T1 (mkF m 46 #[.val (.ref t), .val (.int (16 : Int32)), .val (.float (1061158912 : UInt32))] [(.float (0 : UInt32)), (.float (1061158912 : UInt32))]) _
  refine stp (fun _ => XS.fcmpS X1.here hx rfl (hb hby d21_46) rfl (v := (1 : Int32)) (by decide +kernel)) ?_
  show Go p e below T1 (mkF m 47 #[.val (.ref t), .val (.int (16 : Int32)), .val (.float (1061158912 : UInt32))] [(.int (1 : Int32))]) _
  refine stp (fun _ => XS.ifNo X1.here hx rfl (hb hby d21_47) rfl (by decide)) ?_
  show Go p e below T1 (mkF m 50 #[.val (.ref t), .val (.int (16 : Int32)), .val (.float (1061158912 : UInt32))] []) _
  refine stp (fun _ => XS.floadN X1.here hx rfl (hb hby d21_50) rfl) ?_
  show Go p e below T1 (mkF m 51 #[.val (.ref t), .val (.int (16 : Int32)), .val (.float (1061158912 : UInt32))] [(.float (1061158912 : UInt32))]) _
  obtain ⟨_, _, ⟨T2, L2, k2, n2⟩, -, X2, ⟨Lc2, hQ2, l2, y2, z2⟩, st2⟩ := Jvm.LawKit.callS X1 hx (y := (⟨"java/lang/Float", "isNaN", "(F)Z"⟩ : MethodName)) hown (mvT hZ (hw _ (List.mem_of_getElem? (i := 118) rfl))) (mvT hZ (hw _ (List.mem_of_getElem? (i := 119) rfl))) (mvT hZ (hw _ (List.mem_of_getElem? (i := 120) rfl))) (mvT hZ (hw _ (List.mem_of_getElem? (i := 121) rfl))) (by decide) (backOf (W := 0) (rm_nan l Z a0 hw []   h0 n0 O0 ) hZ (hw _ (List.mem_of_getElem? (i := 121) rfl)) (hw _ (List.mem_of_getElem? (i := 120) rfl)) (by decide) (by decide)) (g := (mkF m 51 #[.val (.ref t), .val (.int (16 : Int32)), .val (.float (1061158912 : UInt32))] [(.float (1061158912 : UInt32))])) rfl (by rw [hml]; rfl) (argsL := [(.float (1061158912 : UInt32))]) (rest := []) (lenOf pd_4 rfl) rfl (by show 2 * 0 + _ ≤ _; exact Nat.le_of_eq rfl) (hb hby d21_51) (fun _ _ => ⟨rfl, e1, (by decide : 0 + 0 ≤ _), (by decide : 0 + 0 ≤ _)⟩)
  dsimp only [Pt.U, Pt.locs, Pt.cells, Pt.slots] at X2 l2 y2 z2 st2 hQ2
  subst y2 z2
  obtain ⟨rfl, N2q, e2⟩ := hQ2
  have N2 : Fr n0 L2 := by rw [l2]; exact Fr.app N1 N2q
  refine stp st2 ?_
  show Go p e below T2 (mkF m 54 #[.val (.ref t), .val (.int (16 : Int32)), .val (.float (1061158912 : UInt32))] [(.int (0 : Int32))]) _
  refine stp (fun _ => XS.ifYes X2.here hx rfl (pc0 := 54) (pc' := 84) rfl (hb hby d21_54) rfl (by decide) (by decide) (by decide)) ?_
  show Go p e below T2 (mkF m 84 #[.val (.ref t), .val (.int (16 : Int32)), .val (.float (1061158912 : UInt32))] []) _
  refine stp (fun _ => XS.aloadN X2.here hx rfl (hb hby d21_84) rfl rfl) ?_
  show Go p e below T2 (mkF m 85 #[.val (.ref t), .val (.int (16 : Int32)), .val (.float (1061158912 : UInt32))] [(.ref t)]) _
  refine stp (fun _ => XS.floadN X2.here hx rfl (hb hby d21_85) rfl) ?_
  show Go p e below T2 (mkF m 86 #[.val (.ref t), .val (.int (16 : Int32)), .val (.float (1061158912 : UInt32))] [(.float (1061158912 : UInt32)), (.ref t)]) _
  obtain ⟨T3, h3, X3, e3, W3, st3⟩ := putF X2 hx hZ hown (host := "") (Or.inl (hw _ (List.mem_of_getElem? (i := 39) rfl))) Via.refl e2 F_t_loadFactor E_t (Or.inr ⟨(hw _ (List.mem_of_getElem? (i := 40) rfl)), rfl, hnm⟩) (hw _ (List.mem_of_getElem? (i := 25) rfl)) (ty := .float) (by decide) rfl rfl (g := (mkF m 86 #[.val (.ref t), .val (.int (16 : Int32)), .val (.float (1061158912 : UInt32))] [(.float (1061158912 : UInt32)), (.ref t)])) rfl rfl (hb hby d21_86)
  have Fw3 := F_t_loadFactor.same W3
  have f4 := E_t.wr W3
  have f6 := F_t_threshold.other W3 (Or.inr (slot_ne (Or.inl (hw _ (List.mem_of_getElem? (i := 131) rfl))) (Or.inr (hw _ (List.mem_of_getElem? (i := 40) rfl))) (by decide) (t := .int) (t' := .float) (by decide) (by decide)))
  have K3 : Keep h0 h3 [t] := (Keep.refl h0 [t]).wr W3 (Or.inl (List.mem_of_getElem? (i := 0) rfl))
  have O3 := O0.wr W3 ge_t
  have N3 := Fr.snoc X3 N2 ge_t
  refine stp st3 ?_
  show Go p e below T3 (mkF m 89 #[.val (.ref t), .val (.int (16 : Int32)), .val (.float (1061158912 : UInt32))] []) _
  refine stp (fun _ => XS.aloadN X3.here hx rfl (hb hby d21_89) rfl rfl) ?_
  show Go p e below T3 (mkF m 90 #[.val (.ref t), .val (.int (16 : Int32)), .val (.float (1061158912 : UInt32))] [(.ref t)]) _
  refine stp (fun _ => XS.iloadN X3.here hx rfl (hb hby d21_90) rfl) ?_
  show Go p e below T3 (mkF m 91 #[.val (.ref t), .val (.int (16 : Int32)), .val (.float (1061158912 : UInt32))] [(.int (16 : Int32)), (.ref t)]) _
  obtain ⟨_, _, ⟨T7, L7, k7, n7⟩, -, X7, ⟨Lc7, hQ7, l7, y7, z7⟩, st7⟩ := Jvm.LawKit.callS X3 hx (y := (⟨"java/util/HashMap", "tableSizeFor", "(I)I"⟩ : MethodName)) hown (mvT hZ (hw _ (List.mem_of_getElem? (i := 122) rfl))) (mvT hZ (hw _ (List.mem_of_getElem? (i := 123) rfl))) (mvT hZ (hw _ (List.mem_of_getElem? (i := 26) rfl))) (mvT hZ (hw _ (List.mem_of_getElem? (i := 124) rfl))) (by decide) (backOf (W := 1) (rm_tsf l Z a0 hw []   h3 n0 O3 ) hZ (hw _ (List.mem_of_getElem? (i := 124) rfl)) (hw _ (List.mem_of_getElem? (i := 26) rfl)) (by decide) (by decide)) (g := (mkF m 91 #[.val (.ref t), .val (.int (16 : Int32)), .val (.float (1061158912 : UInt32))] [(.int (16 : Int32)), (.ref t)])) rfl (by rw [hml]; rfl) (argsL := [(.int (16 : Int32))]) (rest := [(.ref t)]) (lenOf pd_3 rfl) rfl (by show 2 * 0 + _ ≤ _; exact Nat.le_of_eq rfl) (hb hby d21_91) (fun _ _ => ⟨rfl, e3, (by decide : 0 + 0 ≤ _), (by decide : 0 + 0 ≤ _)⟩)
  dsimp only [Pt.U, Pt.locs, Pt.cells, Pt.slots] at X7 l7 y7 z7 st7 hQ7
  subst y7 z7
  obtain ⟨rfl, N7q, e7⟩ := hQ7
  have N7 : Fr n0 L7 := by rw [l7]; exact Fr.app N3 N7q
  refine stp st7 ?_
  show Go p e below T7 (mkF m 94 #[.val (.ref t), .val (.int (16 : Int32)), .val (.float (1061158912 : UInt32))] [(.int (16 : Int32)), (.ref t)]) _
  obtain ⟨T8, h8, X8, e8, W8, st8⟩ := putF X7 hx hZ hown (host := "") (Or.inl (hw _ (List.mem_of_getElem? (i := 130) rfl))) Via.refl e7 f6 f4 (Or.inl (hw _ (List.mem_of_getElem? (i := 131) rfl))) (hw _ (List.mem_of_getElem? (i := 25) rfl)) (ty := .int) (by decide) rfl rfl (g := (mkF m 94 #[.val (.ref t), .val (.int (16 : Int32)), .val (.float (1061158912 : UInt32))] [(.int (16 : Int32)), (.ref t)])) rfl rfl (hb hby d21_94)
  have Fw8 := f6.same W8
  have f9 := f4.wr W8
  have f10 := Fw3.other W8 (Or.inr (slot_ne (Or.inr (hw _ (List.mem_of_getElem? (i := 40) rfl))) (Or.inl (hw _ (List.mem_of_getElem? (i := 131) rfl))) (by decide) (t := .float) (t' := .int) (by decide) (by decide)))
  have K8 : Keep h0 h8 [t] := K3.wr W8 (Or.inl (List.mem_of_getElem? (i := 0) rfl))
  have O8 := O3.wr W8 ge_t
  have N8 := Fr.snoc X8 N7 ge_t
  refine stp st8 ?_
  show Go p e below T8 (mkF m 97 #[.val (.ref t), .val (.int (16 : Int32)), .val (.float (1061158912 : UInt32))] []) _
  refine outV X8 hx hret (hb hby d21_97) hlk (by decide) (by decide) ?_
  rw [e8]
  exact ⟨rfl, N8, K8, f9⟩
theorem d20_0 : decode jdk_69_method_6_code 0 = .ok (.aload_n 0, 1) := by decide +kernel
theorem d20_1 : decode jdk_69_method_6_code 1 = .ok (.iload_n 1, 1) := by decide +kernel
theorem d20_2 : decode jdk_69_method_6_code 2 = .ok (.ldc 92, 2) := by decide +kernel
theorem d20_4 : decode jdk_69_method_6_code 4 = .ok (.invokespecial 93, 3) := by decide +kernel
theorem pd_5 : parseMethodDescriptor "(IF)V" = some ⟨[.int, .float], none⟩ := by decide +kernel
theorem d20_7 : decode jdk_69_method_6_code 7 = .ok (.return_, 1) := by decide +kernel
theorem ef_rm_hm1 (m : MethodId) (t : Addr)  : entryFrame m #[(.ref t), (.int (16 : Int32))] 2 = mkF m 0 #[.val (.ref t), .val (.int (16 : Int32))] [] := by first | (simp [entryFrame, mkF, argsToLocals, Value.category]; done) | rfl
def Q_rm_hm1 (Z : State) (t : Addr)  (h0 : Heap) (n0 : Nat) (v : Option Value) (h : Heap) (L : List Loc) : Prop := v = none ∧ Fr n0 L ∧ Keep h0 h [t] ∧ Exa Z h t "java/util/HashMap"
theorem pn_13_ : plainName "java/util/HashMap" = true := by first | (simp [plainName, overriddenIn]; done) | decide +kernel
theorem pn_13 : plainFor (⟨"java/util/HashMap", "<init>", "(I)V"⟩ : MethodName) = true := plainFor_of_name pn_13_
set_option maxRecDepth 65536 in
set_option maxHeartbeats 40000000 in
theorem rm_hm1 (l : Launch) (Z : State) (a0 : Array Value) (hw : ∀ d ∈ tables_1, d.before a0 Z = true) (ws : List Jvm.Cond) (t : Addr)  (h0 : Heap) (n0 : Nat) (O0 : Old Z n0 h0) (E_t : Exa Z h0 t "java/util/HashMap") (F_t_loadFactor : Fld Z h0 t "java/util/HashMap" "loadFactor" "F" (.float 0)) (F_t_threshold : Fld Z h0 t "java/util/HashMap" "threshold" "I" (.int (0 : Int32))) (ge_t : n0 ≤ t) :
    MetFree l (⟨"java/util/HashMap", "<init>", "(I)V"⟩ : MethodName) (head1 (Jvm.Cond.code (⟨"java/util/HashMap", "<init>", "(I)V"⟩ : MethodName) jdk_69_method_6_code 2 none :: ws) ({ frames := 3, cells := 0, slots := 0, locals := 42 } : Room)) (fun args_ U => args_ = #[(.ref t), (.int (16 : Int32))] ∧ Z.Warmed39 U.vm ∧ U.heap = h0) (fun _ _ _ _ _ => True) (fun _ U out_ U' => ∃ val_ loc_, out_ = .returned val_ ∧ (Q_rm_hm1 Z t h0 n0) val_ U'.heap loc_ ∧ FrameEnd U out_ U' loc_ ({ frames := 3, cells := 0, slots := 0, locals := 42 } : Room).cells ({ frames := 3, cells := 0, slots := 0, locals := 42 } : Room).slots) := by
  refine start (Q := (Q_rm_hm1 Z t h0 n0)) pn_13 ?_
  intro p e s m below meth c T0 X0 hx hby hml hown hnm hret hlk hZ e0
  replace hown : s.vm.findClass "java/util/HashMap" = some m.cls := hown
  replace hml : c.maxLocals = 2 := hml
  refine goAt (ef_rm_hm1 m t ) ?_
  have N0 := Fr.nil n0
  show Go p e below T0 (mkF m 0 #[.val (.ref t), .val (.int (16 : Int32))] []) _
  refine stp (fun _ => XS.aloadN X0.here hx rfl (hb hby d20_0) rfl rfl) ?_
  show Go p e below T0 (mkF m 1 #[.val (.ref t), .val (.int (16 : Int32))] [(.ref t)]) _
  refine stp (fun _ => XS.iloadN X0.here hx rfl (hb hby d20_1) rfl) ?_
  show Go p e below T0 (mkF m 2 #[.val (.ref t), .val (.int (16 : Int32))] [(.int (16 : Int32)), (.ref t)]) _
  refine stp (fun _ => X0.ldcFloatC hx hown (mvT hZ (hw _ (List.mem_of_getElem? (i := 38) rfl))) (g := (mkF m 2 #[.val (.ref t), .val (.int (16 : Int32))] [(.int (16 : Int32)), (.ref t)])) rfl (hb hby d20_2) _) ?_
  show Go p e below T0 (mkF m 4 #[.val (.ref t), .val (.int (16 : Int32))] [(.float (1061158912 : UInt32)), (.int (16 : Int32)), (.ref t)]) _
  obtain ⟨_, _, ⟨T1, L1, k1, n1⟩, -, X1, ⟨Lc1, hQ1, l1, y1, z1⟩, st1⟩ := X0.specialBack hx (y := (⟨"java/util/HashMap", "<init>", "(IF)V"⟩ : MethodName)) rfl hown (mvT hZ (hw _ (List.mem_of_getElem? (i := 114) rfl))) (mvT hZ (hw _ (List.mem_of_getElem? (i := 115) rfl))) (mvT hZ (hw _ (List.mem_of_getElem? (i := 116) rfl))) (by decide) (backOf (W := 0) (rm_hm2 l Z a0 hw [] t  h0 n0 O0 E_t F_t_loadFactor F_t_threshold ge_t) hZ (hw _ (List.mem_of_getElem? (i := 116) rfl)) (hw _ (List.mem_of_getElem? (i := 26) rfl)) (by decide) (by decide)) (g := (mkF m 4 #[.val (.ref t), .val (.int (16 : Int32))] [(.float (1061158912 : UInt32)), (.int (16 : Int32)), (.ref t)])) rfl (by rw [hml]; rfl) (Steps.refl _) (a := t) (argsL := [(.int (16 : Int32)), (.float (1061158912 : UInt32))]) (rest := []) (lenOf pd_5 rfl) rfl (by show 2 * 0 + _ ≤ _; exact Nat.le_of_eq rfl) (hb hby d20_4) (fun _ _ => ⟨rfl, e0, (by decide : 0 + 0 ≤ _), (by decide : 0 + 0 ≤ _)⟩)
  dsimp only [Pt.U, Pt.locs, Pt.cells, Pt.slots] at X1 l1 y1 z1 st1 hQ1
  subst y1 z1
  obtain ⟨rfl, N1q, K1q, r1_0⟩ := hQ1
  have N1 : Fr n0 L1 := by rw [l1]; exact Fr.app N0 N1q
  have f2 := E_t.keep K1q
  have K1 : Keep h0 T1.heap [t] := (Keep.refl h0 [t]).trans K1q (allS (Or.inl (List.mem_of_getElem? (i := 0) rfl)) all0)
  have O1 := O0.keep K1q (allS ge_t all0)
  refine stt st1 ?_
  show Go p e below T1 (mkF m 7 #[.val (.ref t), .val (.int (16 : Int32))] []) _
  refine outV X1 hx hret (hb hby d20_7) hlk (by decide) (by decide) ?_
  exact ⟨rfl, N1, K1, r1_0⟩
theorem d14_0 : decode jdk_69_method_56_code 0 = .ok (.iload_n 0, 1) := by decide +kernel
theorem d14_1 : decode jdk_69_method_56_code 1 = .ok (.ifCond .ge 31, 3) := by decide +kernel
theorem d14_32 : decode jdk_69_method_56_code 32 = .ok (.new 40, 3) := by decide +kernel
theorem d14_35 : decode jdk_69_method_56_code 35 = .ok (.dup, 1) := by decide +kernel
theorem d14_36 : decode jdk_69_method_56_code 36 = .ok (.iload_n 0, 1) := by decide +kernel
theorem d14_37 : decode jdk_69_method_56_code 37 = .ok (.invokestatic 387, 3) := by decide +kernel
theorem d14_40 : decode jdk_69_method_56_code 40 = .ok (.invokespecial 390, 3) := by decide +kernel
theorem pd_6 : parseMethodDescriptor "(I)V" = some ⟨[.int], none⟩ := by decide +kernel
theorem d14_43 : decode jdk_69_method_56_code 43 = .ok (.areturn, 1) := by decide +kernel
theorem ef_rm_nhm (m : MethodId)   : entryFrame m #[(.int (12 : Int32))] 1 = mkF m 0 #[.val (.int (12 : Int32))] [] := by first | (simp [entryFrame, mkF, argsToLocals, Value.category]; done) | rfl
def Q_rm_nhm (Z : State)   (h0 : Heap) (n0 : Nat) (v : Option Value) (h : Heap) (L : List Loc) : Prop := ∃ (r : Addr), v = some (.ref r) ∧ Fr n0 L ∧ Keep h0 h [] ∧ (n0 ≤ r ∧ h0.size ≤ r) ∧ Exa Z h r "java/util/HashMap"
theorem pn_14_ : plainName "java/util/HashMap" = true := by first | (simp [plainName, overriddenIn]; done) | decide +kernel
theorem pn_14 : plainFor (⟨"java/util/HashMap", "newHashMap", "(I)Ljava/util/HashMap;"⟩ : MethodName) = true := plainFor_of_name pn_14_
set_option maxRecDepth 65536 in
set_option maxHeartbeats 40000000 in
theorem rm_nhm (l : Launch) (Z : State) (a0 : Array Value) (hw : ∀ d ∈ tables_1, d.before a0 Z = true) (ws : List Jvm.Cond)   (h0 : Heap) (n0 : Nat) (O0 : Old Z n0 h0) (S__assertionsDisabled : Sta Z Z.heap "java/lang/StrictMath" "$assertionsDisabled" "Z" (.int (1 : Int32))) :
    MetFree l (⟨"java/util/HashMap", "newHashMap", "(I)Ljava/util/HashMap;"⟩ : MethodName) (head1 (Jvm.Cond.code (⟨"java/util/HashMap", "newHashMap", "(I)Ljava/util/HashMap;"⟩ : MethodName) jdk_69_method_56_code 1 (some (.object "java/util/HashMap")) :: ws) ({ frames := 6, cells := 1, slots := 8, locals := 81 } : Room)) (fun args_ U => args_ = #[(.int (12 : Int32))] ∧ Z.Warmed39 U.vm ∧ U.heap = h0) (fun _ _ _ _ _ => True) (fun _ U out_ U' => ∃ val_ loc_, out_ = .returned val_ ∧ (Q_rm_nhm Z  h0 n0) val_ U'.heap loc_ ∧ FrameEnd U out_ U' loc_ ({ frames := 6, cells := 1, slots := 8, locals := 81 } : Room).cells ({ frames := 6, cells := 1, slots := 8, locals := 81 } : Room).slots) := by
  refine start (Q := (Q_rm_nhm Z  h0 n0)) pn_14 ?_
  intro p e s m below meth c T0 X0 hx hby hml hown hnm hret hlk hZ e0
  replace hown : s.vm.findClass "java/util/HashMap" = some m.cls := hown
  replace hml : c.maxLocals = 1 := hml
  refine goAt (ef_rm_nhm m  ) ?_
  have N0 := Fr.nil n0
  show Go p e below T0 (mkF m 0 #[.val (.int (12 : Int32))] []) _
  refine stp (fun _ => XS.iloadN X0.here hx rfl (hb hby d14_0) rfl) ?_
  show Go p e below T0 (mkF m 1 #[.val (.int (12 : Int32))] [(.int (12 : Int32))]) _
  refine stp (fun _ => XS.ifYes X0.here hx rfl (pc0 := 1) (pc' := 32) rfl (hb hby d14_1) rfl (by decide) (by decide) (by decide)) ?_
  show Go p e below T0 (mkF m 32 #[.val (.int (12 : Int32))] []) _
  obtain ⟨T1, h1, X1, e1, E1, A1, D1, U1, st1⟩ := newO X0 hx hZ hown (hw _ (List.mem_of_getElem? (i := 83) rfl)) (hw _ (List.mem_of_getElem? (i := 25) rfl)) (hw _ (List.mem_of_getElem? (i := 26) rfl)) e0 (g := (mkF m 32 #[.val (.int (12 : Int32))] [])) rfl (hb hby d14_32) (by decide) (by decide)
  obtain ⟨b1, g1⟩ : ∃ z, z = h0.size := ⟨_, rfl⟩
  rw [← g1] at A1 D1 st1
  have sz_b1 : h0.size ≤ b1 := Nat.le_trans (Keep.refl h0 []).1 (Nat.le_of_eq g1.symm)
  have ge_b1 : n0 ≤ b1 := Nat.le_trans (old_le O0) (Nat.le_of_eq g1.symm)
  have K1 : Keep h0 h1 [] := (Keep.refl h0 []).ext E1
  have O1 := O0.ext E1
  have F2 : Fld Z h1 b1 "java/util/HashMap" "loadFactor" "F" (.float 0) := D1 (Or.inr (hw _ (List.mem_of_getElem? (i := 40) rfl))) (ty := .float) (by decide)
  have F3 : Fld Z h1 b1 "java/util/HashMap" "size" "I" (.int (0 : Int32)) := D1 (Or.inl (hw _ (List.mem_of_getElem? (i := 75) rfl))) (ty := .int) (by decide)
  have F4 : Fld Z h1 b1 "java/util/HashMap" "threshold" "I" (.int (0 : Int32)) := D1 (Or.inl (hw _ (List.mem_of_getElem? (i := 131) rfl))) (ty := .int) (by decide)
  have F5 : Fld Z h1 b1 "java/util/AbstractMap" "keySet" "Ljava/util/Set;" .null := D1 (Or.inl (hw _ (List.mem_of_getElem? (i := 153) rfl))) (ty := (.object "java/util/Set")) (by decide)
  have F6 : Fld Z h1 b1 "java/util/HashMap" "modCount" "I" (.int (0 : Int32)) := D1 (Or.inl (hw _ (List.mem_of_getElem? (i := 192) rfl))) (ty := .int) (by decide)
  have F7 : Fld Z h1 b1 "java/util/HashMap" "table" "[Ljava/util/HashMap$Node;" .null := D1 (Or.inl (hw _ (List.mem_of_getElem? (i := 196) rfl))) (ty := (.array (.object "java/util/HashMap$Node"))) (by decide)
  refine stp st1 ?_
  show Go p e below T1 (mkF m 35 #[.val (.int (12 : Int32))] [(.ref b1)]) _
  refine stp (fun _ => XS.dup X1.here hx rfl (hb hby d14_35) rfl rfl) ?_
  show Go p e below T1 (mkF m 36 #[.val (.int (12 : Int32))] [(.ref b1), (.ref b1)]) _
  refine stp (fun _ => XS.iloadN X1.here hx rfl (hb hby d14_36) rfl) ?_
  show Go p e below T1 (mkF m 37 #[.val (.int (12 : Int32))] [(.int (12 : Int32)), (.ref b1), (.ref b1)]) _
  obtain ⟨_, _, ⟨T8, L8, k8, n8⟩, -, X8, ⟨Lc8, hQ8, l8, y8, z8⟩, st8⟩ := Jvm.LawKit.callS X1 hx (y := (⟨"java/util/HashMap", "calculateHashMapCapacity", "(I)I"⟩ : MethodName)) hown (mvT hZ (hw _ (List.mem_of_getElem? (i := 84) rfl))) (mvT hZ (hw _ (List.mem_of_getElem? (i := 85) rfl))) (mvT hZ (hw _ (List.mem_of_getElem? (i := 26) rfl))) (mvT hZ (hw _ (List.mem_of_getElem? (i := 86) rfl))) (by decide) (backOf (W := 2) (rm_chc l Z a0 hw []   h1 n0 O1 S__assertionsDisabled) hZ (hw _ (List.mem_of_getElem? (i := 86) rfl)) (hw _ (List.mem_of_getElem? (i := 26) rfl)) (by decide) (by decide)) (g := (mkF m 37 #[.val (.int (12 : Int32))] [(.int (12 : Int32)), (.ref b1), (.ref b1)])) rfl (by rw [hml]; rfl) (argsL := [(.int (12 : Int32))]) (rest := [(.ref b1), (.ref b1)]) (lenOf pd_3 rfl) rfl (by show 2 * 0 + _ ≤ _; exact Nat.le_of_eq rfl) (hb hby d14_37) (fun _ _ => ⟨rfl, e1, (by decide : 1 + 0 ≤ _), (by decide : 8 + 0 ≤ _)⟩)
  dsimp only [Pt.U, Pt.locs, Pt.cells, Pt.slots] at X8 l8 y8 z8 st8 hQ8
  subst y8 z8
  obtain ⟨rfl, N8q, e8⟩ := hQ8
  have N8 : Fr n0 L8 := by rw [l8]; exact Fr.app N0 N8q
  refine stp st8 ?_
  show Go p e below T8 (mkF m 40 #[.val (.int (12 : Int32))] [(.int (16 : Int32)), (.ref b1), (.ref b1)]) _
  obtain ⟨_, _, ⟨T9, L9, k9, n9⟩, -, X9, ⟨Lc9, hQ9, l9, y9, z9⟩, st9⟩ := X8.specialBack hx (y := (⟨"java/util/HashMap", "<init>", "(I)V"⟩ : MethodName)) rfl hown (mvT hZ (hw _ (List.mem_of_getElem? (i := 111) rfl))) (mvT hZ (hw _ (List.mem_of_getElem? (i := 112) rfl))) (mvT hZ (hw _ (List.mem_of_getElem? (i := 113) rfl))) (by decide) (backOf (W := 1) (rm_hm1 l Z a0 hw [] b1  h1 n0 O1 A1 F2 F4 ge_b1) hZ (hw _ (List.mem_of_getElem? (i := 113) rfl)) (hw _ (List.mem_of_getElem? (i := 26) rfl)) (by decide) (by decide)) (g := (mkF m 40 #[.val (.int (12 : Int32))] [(.int (16 : Int32)), (.ref b1), (.ref b1)])) rfl (by rw [hml]; rfl) (Steps.refl _) (a := b1) (argsL := [(.int (16 : Int32))]) (rest := [(.ref b1)]) (lenOf pd_6 rfl) rfl (by show 2 * 0 + _ ≤ _; exact Nat.le_of_eq rfl) (hb hby d14_40) (fun _ _ => ⟨rfl, e8, (by decide : 1 + 0 ≤ _), (by decide : 8 + 0 ≤ _)⟩)
  dsimp only [Pt.U, Pt.locs, Pt.cells, Pt.slots] at X9 l9 y9 z9 st9 hQ9
  subst y9 z9
  obtain ⟨rfl, N9q, K9q, r9_0⟩ := hQ9
  have N9 : Fr n0 L9 := by rw [l9]; exact Fr.app N8 N9q
  have f10 := A1.keep K9q
  have K9 : Keep h0 T9.heap [] := K1.trans K9q (allS (Or.inr sz_b1) all0)
  have O9 := O1.keep K9q (allS ge_b1 all0)
  refine stt st9 ?_
  show Go p e below T9 (mkF m 43 #[.val (.int (12 : Int32))] [(.ref b1)]) _
  refine outA X9 hx hret rfl rfl (hb hby d14_43) hlk (by decide) (by decide) ?_
  exact ⟨b1, rfl, N9, K9, ⟨ge_b1, sz_b1⟩, r9_0⟩
theorem d28_0 : decode jdk_97_method_1_code 0 = .ok (.aload_n 0, 1) := by decide +kernel
theorem d28_1 : decode jdk_97_method_1_code 1 = .ok (.aload_n 1, 1) := by decide +kernel
theorem d28_2 : decode jdk_97_method_1_code 2 = .ok (.putfield 1, 3) := by decide +kernel
theorem d28_5 : decode jdk_97_method_1_code 5 = .ok (.aload_n 0, 1) := by decide +kernel
theorem d28_6 : decode jdk_97_method_1_code 6 = .ok (.invokespecial 7, 3) := by decide +kernel
theorem d28_9 : decode jdk_97_method_1_code 9 = .ok (.return_, 1) := by decide +kernel
theorem ef_rm_ks (m : MethodId) (t : Addr) (mp : Addr)  : entryFrame m #[(.ref t), (.ref mp)] 2 = mkF m 0 #[.val (.ref t), .val (.ref mp)] [] := by first | (simp [entryFrame, mkF, argsToLocals, Value.category]; done) | rfl
def Q_rm_ks (Z : State) (t : Addr) (mp : Addr)  (h0 : Heap) (n0 : Nat) (v : Option Value) (h : Heap) (L : List Loc) : Prop := v = none ∧ Fr n0 L ∧ Keep h0 h [t] ∧ Exa Z h t "java/util/HashMap$KeySet" ∧ Fld Z h t "java/util/HashMap$KeySet" "this$0" "Ljava/util/HashMap;" (.ref mp)
theorem pn_15_ : plainName "java/util/HashMap$KeySet" = true := by first | (simp [plainName, overriddenIn]; done) | decide +kernel
theorem pn_15 : plainFor (⟨"java/util/HashMap$KeySet", "<init>", "(Ljava/util/HashMap;)V"⟩ : MethodName) = true := plainFor_of_name pn_15_
set_option maxRecDepth 65536 in
set_option maxHeartbeats 40000000 in
theorem rm_ks (l : Launch) (Z : State) (a0 : Array Value) (hw : ∀ d ∈ tables_1, d.before a0 Z = true) (ws : List Jvm.Cond) (t : Addr) (mp : Addr)  (h0 : Heap) (n0 : Nat) (O0 : Old Z n0 h0) (E_t : Exa Z h0 t "java/util/HashMap$KeySet") (F_t_this_0 : Fld Z h0 t "java/util/HashMap$KeySet" "this$0" "Ljava/util/HashMap;" .null) (ge_t : n0 ≤ t) :
    MetFree l (⟨"java/util/HashMap$KeySet", "<init>", "(Ljava/util/HashMap;)V"⟩ : MethodName) (head1 (Jvm.Cond.code (⟨"java/util/HashMap$KeySet", "<init>", "(Ljava/util/HashMap;)V"⟩ : MethodName) jdk_97_method_1_code 2 none :: ws) ({ frames := 3, cells := 0, slots := 0, locals := 36 } : Room)) (fun args_ U => args_ = #[(.ref t), (.ref mp)] ∧ Z.Warmed39 U.vm ∧ U.heap = h0) (fun _ _ _ _ _ => True) (fun _ U out_ U' => ∃ val_ loc_, out_ = .returned val_ ∧ (Q_rm_ks Z t mp h0 n0) val_ U'.heap loc_ ∧ FrameEnd U out_ U' loc_ ({ frames := 3, cells := 0, slots := 0, locals := 36 } : Room).cells ({ frames := 3, cells := 0, slots := 0, locals := 36 } : Room).slots) := by
  refine start (Q := (Q_rm_ks Z t mp h0 n0)) pn_15 ?_
  intro p e s m below meth c T0 X0 hx hby hml hown hnm hret hlk hZ e0
  replace hown : s.vm.findClass "java/util/HashMap$KeySet" = some m.cls := hown
  replace hml : c.maxLocals = 2 := hml
  refine goAt (ef_rm_ks m t mp ) ?_
  have N0 := Fr.nil n0
  show Go p e below T0 (mkF m 0 #[.val (.ref t), .val (.ref mp)] []) _
  refine stp (fun _ => XS.aloadN X0.here hx rfl (hb hby d28_0) rfl rfl) ?_
  show Go p e below T0 (mkF m 1 #[.val (.ref t), .val (.ref mp)] [(.ref t)]) _
  refine stp (fun _ => XS.aloadN X0.here hx rfl (hb hby d28_1) rfl rfl) ?_
  show Go p e below T0 (mkF m 2 #[.val (.ref t), .val (.ref mp)] [(.ref mp), (.ref t)]) _
  obtain ⟨T1, h1, X1, e1, W1, st1⟩ := putF X0 hx hZ hown (host := "") (Or.inl (hw _ (List.mem_of_getElem? (i := 161) rfl))) Via.refl e0 F_t_this_0 E_t (Or.inr ⟨(hw _ (List.mem_of_getElem? (i := 162) rfl)), rfl, hnm⟩) (hw _ (List.mem_of_getElem? (i := 155) rfl)) (ty := (.object "java/util/HashMap")) (by decide) rfl rfl (g := (mkF m 2 #[.val (.ref t), .val (.ref mp)] [(.ref mp), (.ref t)])) rfl rfl (hb hby d28_2)
  have Fw1 := F_t_this_0.same W1
  have f2 := E_t.wr W1
  have K1 : Keep h0 h1 [t] := (Keep.refl h0 [t]).wr W1 (Or.inl (List.mem_of_getElem? (i := 0) rfl))
  have O1 := O0.wr W1 ge_t
  have N1 := Fr.snoc X1 N0 ge_t
  refine stp st1 ?_
  show Go p e below T1 (mkF m 5 #[.val (.ref t), .val (.ref mp)] []) _
  refine stp (fun _ => XS.aloadN X1.here hx rfl (hb hby d28_5) rfl rfl) ?_
  show Go p e below T1 (mkF m 6 #[.val (.ref t), .val (.ref mp)] [(.ref t)]) _
  obtain ⟨_, _, ⟨T4, L4, k4, n4⟩, -, X4, ⟨Lc4, hQ4, l4, y4, z4⟩, st4⟩ := X1.specialBack hx (y := (⟨"java/util/AbstractSet", "<init>", "()V"⟩ : MethodName)) rfl hown (mvT hZ (hw _ (List.mem_of_getElem? (i := 163) rfl))) (mvT hZ (hw _ (List.mem_of_getElem? (i := 10) rfl))) (mvT hZ (hw _ (List.mem_of_getElem? (i := 14) rfl))) (by decide) (backOf (W := 0) (rm_as l Z a0 hw [] t  h1 n0 O1 ) hZ (hw _ (List.mem_of_getElem? (i := 14) rfl)) (hw _ (List.mem_of_getElem? (i := 13) rfl)) (by decide) (by decide)) (g := (mkF m 6 #[.val (.ref t), .val (.ref mp)] [(.ref t)])) rfl (by rw [hml]; rfl) (Steps.refl _) (a := t) (argsL := []) (rest := []) (lenOf pd_0 rfl) rfl (by show 2 * 0 + _ ≤ _; exact Nat.le_of_eq rfl) (hb hby d28_6) (fun _ _ => ⟨rfl, e1, (by decide : 0 + 0 ≤ _), (by decide : 0 + 0 ≤ _)⟩)
  dsimp only [Pt.U, Pt.locs, Pt.cells, Pt.slots] at X4 l4 y4 z4 st4 hQ4
  subst y4 z4
  obtain ⟨rfl, N4q, e4⟩ := hQ4
  have N4 : Fr n0 L4 := by rw [l4]; exact Fr.app N1 N4q
  refine stt st4 ?_
  show Go p e below T4 (mkF m 9 #[.val (.ref t), .val (.ref mp)] []) _
  refine outV X4 hx hret (hb hby d28_9) hlk (by decide) (by decide) ?_
  rw [e4]
  exact ⟨rfl, N4, K1, f2, Fw1⟩
theorem d27_0 : decode jdk_69_method_24_code 0 = .ok (.aload_n 0, 1) := by decide +kernel
theorem d27_1 : decode jdk_69_method_24_code 1 = .ok (.getfield 239, 3) := by decide +kernel
theorem d27_4 : decode jdk_69_method_24_code 4 = .ok (.astore_n 1, 1) := by decide +kernel
theorem d27_5 : decode jdk_69_method_24_code 5 = .ok (.aload_n 1, 1) := by decide +kernel
theorem d27_6 : decode jdk_69_method_24_code 6 = .ok (.ifnonnull 17, 3) := by decide +kernel
theorem d27_9 : decode jdk_69_method_24_code 9 = .ok (.new 243, 3) := by decide +kernel
theorem d27_12 : decode jdk_69_method_24_code 12 = .ok (.dup, 1) := by decide +kernel
theorem d27_13 : decode jdk_69_method_24_code 13 = .ok (.aload_n 0, 1) := by decide +kernel
theorem d27_14 : decode jdk_69_method_24_code 14 = .ok (.invokespecial 245, 3) := by decide +kernel
theorem pd_7 : parseMethodDescriptor "(Ljava/util/HashMap;)V" = some ⟨[(.object "java/util/HashMap")], none⟩ := by decide +kernel
theorem d27_17 : decode jdk_69_method_24_code 17 = .ok (.astore_n 1, 1) := by decide +kernel
theorem d27_18 : decode jdk_69_method_24_code 18 = .ok (.aload_n 0, 1) := by decide +kernel
theorem d27_19 : decode jdk_69_method_24_code 19 = .ok (.aload_n 1, 1) := by decide +kernel
theorem d27_20 : decode jdk_69_method_24_code 20 = .ok (.putfield 239, 3) := by decide +kernel
theorem d27_23 : decode jdk_69_method_24_code 23 = .ok (.aload_n 1, 1) := by decide +kernel
theorem d27_24 : decode jdk_69_method_24_code 24 = .ok (.areturn, 1) := by decide +kernel
theorem ef_rm_kset (m : MethodId) (t : Addr)  : entryFrame m #[(.ref t)] 2 = mkF m 0 #[.val (.ref t), .unset] [] := by first | (simp [entryFrame, mkF, argsToLocals, Value.category]; done) | rfl
def Q_rm_kset (Z : State) (t : Addr)  (h0 : Heap) (n0 : Nat) (v : Option Value) (h : Heap) (L : List Loc) : Prop := ∃ (r : Addr), v = some (.ref r) ∧ Fr n0 L ∧ Keep h0 h [t] ∧ (n0 ≤ r ∧ h0.size ≤ r) ∧ Exa Z h t "java/util/HashMap" ∧ Exa Z h r "java/util/HashMap$KeySet" ∧ Fld Z h r "java/util/HashMap$KeySet" "this$0" "Ljava/util/HashMap;" (.ref t) ∧ Fld Z h t "java/util/HashMap" "table" "[Ljava/util/HashMap$Node;" .null ∧ Fld Z h t "java/util/HashMap" "modCount" "I" (.int (0 : Int32))
theorem pn_16_ : plainName "java/util/HashMap" = true := by first | (simp [plainName, overriddenIn]; done) | decide +kernel
theorem pn_16 : plainFor (⟨"java/util/HashMap", "keySet", "()Ljava/util/Set;"⟩ : MethodName) = true := plainFor_of_name pn_16_
set_option maxRecDepth 65536 in
set_option maxHeartbeats 40000000 in
theorem rm_kset (l : Launch) (Z : State) (a0 : Array Value) (hw : ∀ d ∈ tables_1, d.before a0 Z = true) (ws : List Jvm.Cond) (t : Addr)  (h0 : Heap) (n0 : Nat) (O0 : Old Z n0 h0) (E_t : Exa Z h0 t "java/util/HashMap") (F_t_keySet : Fld Z h0 t "java/util/AbstractMap" "keySet" "Ljava/util/Set;" .null) (F_t_table : Fld Z h0 t "java/util/HashMap" "table" "[Ljava/util/HashMap$Node;" .null) (F_t_modCount : Fld Z h0 t "java/util/HashMap" "modCount" "I" (.int (0 : Int32))) (ge_t : n0 ≤ t) :
    MetFree l (⟨"java/util/HashMap", "keySet", "()Ljava/util/Set;"⟩ : MethodName) (head1 (Jvm.Cond.code (⟨"java/util/HashMap", "keySet", "()Ljava/util/Set;"⟩ : MethodName) jdk_69_method_24_code 2 (some (.object "java/util/Set")) :: ws) ({ frames := 4, cells := 1, slots := 1, locals := 50 } : Room)) (fun args_ U => args_ = #[(.ref t)] ∧ Z.Warmed39 U.vm ∧ U.heap = h0) (fun _ _ _ _ _ => True) (fun _ U out_ U' => ∃ val_ loc_, out_ = .returned val_ ∧ (Q_rm_kset Z t h0 n0) val_ U'.heap loc_ ∧ FrameEnd U out_ U' loc_ ({ frames := 4, cells := 1, slots := 1, locals := 50 } : Room).cells ({ frames := 4, cells := 1, slots := 1, locals := 50 } : Room).slots) := by
  refine start (Q := (Q_rm_kset Z t h0 n0)) pn_16 ?_
  intro p e s m below meth c T0 X0 hx hby hml hown hnm hret hlk hZ e0
  replace hown : s.vm.findClass "java/util/HashMap" = some m.cls := hown
  replace hml : c.maxLocals = 2 := hml
  refine goAt (ef_rm_kset m t ) ?_
  have N0 := Fr.nil n0
  show Go p e below T0 (mkF m 0 #[.val (.ref t), .unset] []) _
  refine stp (fun _ => XS.aloadN X0.here hx rfl (hb hby d27_0) rfl rfl) ?_
  show Go p e below T0 (mkF m 1 #[.val (.ref t), .unset] [(.ref t)]) _
  obtain ⟨T1, X1, e1, st1⟩ := getF X0 hx hZ hown (host := "") (Or.inl (hw _ (List.mem_of_getElem? (i := 151) rfl))) (Via.of (hw _ (List.mem_of_getElem? (i := 152) rfl))) e0 F_t_keySet (g := (mkF m 1 #[.val (.ref t), .unset] [(.ref t)])) rfl rfl (hb hby d27_1)
  refine stp st1 ?_
  show Go p e below T1 (mkF m 4 #[.val (.ref t), .unset] [.null]) _
  refine stp (fun _ => XS.astoreN X1.here hx rfl (hb hby d27_4) rfl rfl (l' := #[.val (.ref t), .val .null]) rfl) ?_
  show Go p e below T1 (mkF m 5 #[.val (.ref t), .val .null] []) _
  refine stp (fun _ => XS.aloadN X1.here hx rfl (hb hby d27_5) rfl rfl) ?_
  show Go p e below T1 (mkF m 6 #[.val (.ref t), .val .null] [.null]) _
  refine stp (fun _ => XS.ifnonnullNo X1.here hx rfl (hb hby d27_6) rfl) ?_
  show Go p e below T1 (mkF m 9 #[.val (.ref t), .val .null] []) _
  obtain ⟨T2, h2, X2, e2, E2, A2, D2, U2, st2⟩ := newO X1 hx hZ hown (hw _ (List.mem_of_getElem? (i := 154) rfl)) (hw _ (List.mem_of_getElem? (i := 155) rfl)) (hw _ (List.mem_of_getElem? (i := 156) rfl)) e1 (g := (mkF m 9 #[.val (.ref t), .val .null] [])) rfl (hb hby d27_9) (by decide) (by decide)
  obtain ⟨b2, g2⟩ : ∃ z, z = h0.size := ⟨_, rfl⟩
  rw [← g2] at A2 D2 st2
  have ne3 : t ≠ b2 := Nat.ne_of_lt (Nat.lt_of_lt_of_le E_t.lt (Nat.le_of_eq g2.symm))
  have sz_b2 : h0.size ≤ b2 := Nat.le_trans (Keep.refl h0 [t]).1 (Nat.le_of_eq g2.symm)
  have ge_b2 : n0 ≤ b2 := Nat.le_trans (old_le O0) (Nat.le_of_eq g2.symm)
  have f4 := E_t.ext E2
  have f5 := F_t_keySet.ext E2
  have f6 := F_t_table.ext E2
  have f7 := F_t_modCount.ext E2
  have K2 : Keep h0 h2 [t] := (Keep.refl h0 [t]).ext E2
  have O2 := O0.ext E2
  have F8 : Fld Z h2 b2 "java/util/HashMap$KeySet" "this$0" "Ljava/util/HashMap;" .null := D2 (Or.inr (hw _ (List.mem_of_getElem? (i := 162) rfl))) (ty := (.object "java/util/HashMap")) (by decide)
  refine stp st2 ?_
  show Go p e below T2 (mkF m 12 #[.val (.ref t), .val .null] [(.ref b2)]) _
  refine stp (fun _ => XS.dup X2.here hx rfl (hb hby d27_12) rfl rfl) ?_
  show Go p e below T2 (mkF m 13 #[.val (.ref t), .val .null] [(.ref b2), (.ref b2)]) _
  refine stp (fun _ => XS.aloadN X2.here hx rfl (hb hby d27_13) rfl rfl) ?_
  show Go p e below T2 (mkF m 14 #[.val (.ref t), .val .null] [(.ref t), (.ref b2), (.ref b2)]) _
  obtain ⟨_, _, ⟨T9, L9, k9, n9⟩, -, X9, ⟨Lc9, hQ9, l9, y9, z9⟩, st9⟩ := X2.specialBack hx (y := (⟨"java/util/HashMap$KeySet", "<init>", "(Ljava/util/HashMap;)V"⟩ : MethodName)) rfl hown (mvT hZ (hw _ (List.mem_of_getElem? (i := 157) rfl))) (mvT hZ (hw _ (List.mem_of_getElem? (i := 158) rfl))) (mvT hZ (hw _ (List.mem_of_getElem? (i := 160) rfl))) (by decide) (backOf (W := 1) (rm_ks l Z a0 hw [] b2 t  h2 n0 O2 A2 F8 ge_b2) hZ (hw _ (List.mem_of_getElem? (i := 160) rfl)) (hw _ (List.mem_of_getElem? (i := 156) rfl)) (by decide) (by decide)) (g := (mkF m 14 #[.val (.ref t), .val .null] [(.ref t), (.ref b2), (.ref b2)])) rfl (by rw [hml]; rfl) (Steps.refl _) (a := b2) (argsL := [(.ref t)]) (rest := [(.ref b2)]) (lenOf pd_7 rfl) rfl (by show 2 * 0 + _ ≤ _; exact Nat.le_of_eq rfl) (hb hby d27_14) (fun _ _ => ⟨rfl, e2, (by decide : 1 + 0 ≤ _), (by decide : 1 + 0 ≤ _)⟩)
  dsimp only [Pt.U, Pt.locs, Pt.cells, Pt.slots] at X9 l9 y9 z9 st9 hQ9
  subst y9 z9
  obtain ⟨rfl, N9q, K9q, r9_0, r9_1⟩ := hQ9
  have N9 : Fr n0 L9 := by rw [l9]; exact Fr.app N0 N9q
  have f10 := f4.keep K9q
  have f11 := f5.keep K9q (ninS ne3 nin0)
  have f12 := f6.keep K9q (ninS ne3 nin0)
  have f13 := f7.keep K9q (ninS ne3 nin0)
  have f14 := A2.keep K9q
  have K9 : Keep h0 T9.heap [t] := K2.trans K9q (allS (Or.inr sz_b2) all0)
  have O9 := O2.keep K9q (allS ge_b2 all0)
  refine stt st9 ?_
  show Go p e below T9 (mkF m 17 #[.val (.ref t), .val .null] [(.ref b2)]) _
  refine stp (fun _ => XS.astoreN X9.here hx rfl (hb hby d27_17) rfl rfl (l' := #[.val (.ref t), .val (.ref b2)]) rfl) ?_
  show Go p e below T9 (mkF m 18 #[.val (.ref t), .val (.ref b2)] []) _
  refine stp (fun _ => XS.aloadN X9.here hx rfl (hb hby d27_18) rfl rfl) ?_
  show Go p e below T9 (mkF m 19 #[.val (.ref t), .val (.ref b2)] [(.ref t)]) _
  refine stp (fun _ => XS.aloadN X9.here hx rfl (hb hby d27_19) rfl rfl) ?_
  show Go p e below T9 (mkF m 20 #[.val (.ref t), .val (.ref b2)] [(.ref b2), (.ref t)]) _
  obtain ⟨T15, h15, X15, e15, W15, st15⟩ := putF X9 hx hZ hown (host := "") (Or.inl (hw _ (List.mem_of_getElem? (i := 151) rfl))) (Via.of (hw _ (List.mem_of_getElem? (i := 152) rfl))) rfl f11 f10 (Or.inl (hw _ (List.mem_of_getElem? (i := 153) rfl))) (hw _ (List.mem_of_getElem? (i := 25) rfl)) (ty := (.object "java/util/Set")) (by decide) rfl rfl (g := (mkF m 20 #[.val (.ref t), .val (.ref b2)] [(.ref b2), (.ref t)])) rfl rfl (hb hby d27_20)
  have Fw15 := f11.same W15
  have f16 := f10.wr W15
  have f18 := f12.other W15 (Or.inr (slot_ne (Or.inl (hw _ (List.mem_of_getElem? (i := 196) rfl))) (Or.inl (hw _ (List.mem_of_getElem? (i := 153) rfl))) (by decide) (t := (.array (.object "java/util/HashMap$Node"))) (t' := (.object "java/util/Set")) (by decide) (by decide)))
  have f19 := f13.other W15 (Or.inr (slot_ne (Or.inl (hw _ (List.mem_of_getElem? (i := 192) rfl))) (Or.inl (hw _ (List.mem_of_getElem? (i := 153) rfl))) (by decide) (t := .int) (t' := (.object "java/util/Set")) (by decide) (by decide)))
  have f20 := r9_0.wr W15
  have f21 := r9_1.other W15 (Or.inl (Ne.symm ne3))
  have K15 : Keep h0 h15 [t] := K9.wr W15 (Or.inl (List.mem_of_getElem? (i := 0) rfl))
  have O15 := O9.wr W15 ge_t
  have N15 := Fr.snoc X15 N9 ge_t
  refine stp st15 ?_
  show Go p e below T15 (mkF m 23 #[.val (.ref t), .val (.ref b2)] []) _
  refine stp (fun _ => XS.aloadN X15.here hx rfl (hb hby d27_23) rfl rfl) ?_
  show Go p e below T15 (mkF m 24 #[.val (.ref t), .val (.ref b2)] [(.ref b2)]) _
  refine outA X15 hx hret rfl rfl (hb hby d27_24) hlk (by decide) (by decide) ?_
  rw [e15]
  exact ⟨b2, rfl, N15, K15, ⟨ge_b2, sz_b2⟩, f16, f20, f21, f18, f19⟩
theorem d31_0 : decode jdk_99_method_1_code 0 = .ok (.aload_n 0, 1) := by decide +kernel
theorem d31_1 : decode jdk_99_method_1_code 1 = .ok (.aload_n 1, 1) := by decide +kernel
theorem d31_2 : decode jdk_99_method_1_code 2 = .ok (.putfield 1, 3) := by decide +kernel
theorem d31_5 : decode jdk_99_method_1_code 5 = .ok (.aload_n 0, 1) := by decide +kernel
theorem d31_6 : decode jdk_99_method_1_code 6 = .ok (.invokespecial 7, 3) := by decide +kernel
theorem d31_9 : decode jdk_99_method_1_code 9 = .ok (.aload_n 0, 1) := by decide +kernel
theorem d31_10 : decode jdk_99_method_1_code 10 = .ok (.aload_n 1, 1) := by decide +kernel
theorem d31_11 : decode jdk_99_method_1_code 11 = .ok (.getfield 13, 3) := by decide +kernel
theorem d31_14 : decode jdk_99_method_1_code 14 = .ok (.putfield 19, 3) := by decide +kernel
theorem d31_17 : decode jdk_99_method_1_code 17 = .ok (.aload_n 1, 1) := by decide +kernel
theorem d31_18 : decode jdk_99_method_1_code 18 = .ok (.getfield 22, 3) := by decide +kernel
theorem d31_21 : decode jdk_99_method_1_code 21 = .ok (.astore_n 2, 1) := by decide +kernel
theorem d31_22 : decode jdk_99_method_1_code 22 = .ok (.aload_n 0, 1) := by decide +kernel
theorem d31_23 : decode jdk_99_method_1_code 23 = .ok (.aload_n 0, 1) := by decide +kernel
theorem d31_24 : decode jdk_99_method_1_code 24 = .ok (.aconst_null, 1) := by decide +kernel
theorem d31_25 : decode jdk_99_method_1_code 25 = .ok (.dup_x1, 1) := by decide +kernel
theorem d31_26 : decode jdk_99_method_1_code 26 = .ok (.putfield 26, 3) := by decide +kernel
theorem d31_29 : decode jdk_99_method_1_code 29 = .ok (.putfield 30, 3) := by decide +kernel
theorem d31_32 : decode jdk_99_method_1_code 32 = .ok (.aload_n 0, 1) := by decide +kernel
theorem d31_33 : decode jdk_99_method_1_code 33 = .ok (.iconst 0, 1) := by decide +kernel
theorem d31_34 : decode jdk_99_method_1_code 34 = .ok (.putfield 33, 3) := by decide +kernel
theorem d31_37 : decode jdk_99_method_1_code 37 = .ok (.aload_n 2, 1) := by decide +kernel
theorem d31_38 : decode jdk_99_method_1_code 38 = .ok (.ifnull 40, 3) := by decide +kernel
theorem d31_78 : decode jdk_99_method_1_code 78 = .ok (.return_, 1) := by decide +kernel
theorem ef_rm_hi (m : MethodId) (t : Addr) (mp : Addr)  : entryFrame m #[(.ref t), (.ref mp)] 3 = mkF m 0 #[.val (.ref t), .val (.ref mp), .unset] [] := by first | (simp [entryFrame, mkF, argsToLocals, Value.category]; done) | rfl
def Q_rm_hi (Z : State) (t : Addr) (mp : Addr)  (h0 : Heap) (n0 : Nat) (v : Option Value) (h : Heap) (L : List Loc) : Prop := v = none ∧ Fr n0 L ∧ Keep h0 h [t] ∧ Exa Z h t "java/util/HashMap$KeyIterator" ∧ Fld Z h t "java/util/HashMap$HashIterator" "next" "Ljava/util/HashMap$Node;" .null
theorem pn_17_ : plainName "java/util/HashMap$HashIterator" = true := by first | (simp [plainName, overriddenIn]; done) | decide +kernel
theorem pn_17 : plainFor (⟨"java/util/HashMap$HashIterator", "<init>", "(Ljava/util/HashMap;)V"⟩ : MethodName) = true := plainFor_of_name pn_17_
set_option maxRecDepth 65536 in
set_option maxHeartbeats 40000000 in
theorem rm_hi (l : Launch) (Z : State) (a0 : Array Value) (hw : ∀ d ∈ tables_1, d.before a0 Z = true) (ws : List Jvm.Cond) (t : Addr) (mp : Addr)  (h0 : Heap) (n0 : Nat) (O0 : Old Z n0 h0) (E_t : Exa Z h0 t "java/util/HashMap$KeyIterator") (F_t_this_0 : Fld Z h0 t "java/util/HashMap$HashIterator" "this$0" "Ljava/util/HashMap;" .null) (F_t_expectedModCount : Fld Z h0 t "java/util/HashMap$HashIterator" "expectedModCount" "I" (.int (0 : Int32))) (F_t_next : Fld Z h0 t "java/util/HashMap$HashIterator" "next" "Ljava/util/HashMap$Node;" .null) (F_t_current : Fld Z h0 t "java/util/HashMap$HashIterator" "current" "Ljava/util/HashMap$Node;" .null) (F_t_index : Fld Z h0 t "java/util/HashMap$HashIterator" "index" "I" (.int (0 : Int32))) (F_mp_table : Fld Z h0 mp "java/util/HashMap" "table" "[Ljava/util/HashMap$Node;" .null) (F_mp_modCount : Fld Z h0 mp "java/util/HashMap" "modCount" "I" (.int (0 : Int32))) (ge_t : n0 ≤ t) (ne_mp_t : mp ≠ t) :
    MetFree l (⟨"java/util/HashMap$HashIterator", "<init>", "(Ljava/util/HashMap;)V"⟩ : MethodName) (head1 (Jvm.Cond.code (⟨"java/util/HashMap$HashIterator", "<init>", "(Ljava/util/HashMap;)V"⟩ : MethodName) jdk_99_method_1_code 3 none :: ws) ({ frames := 1, cells := 0, slots := 0, locals := 12 } : Room)) (fun args_ U => args_ = #[(.ref t), (.ref mp)] ∧ Z.Warmed39 U.vm ∧ U.heap = h0) (fun _ _ _ _ _ => True) (fun _ U out_ U' => ∃ val_ loc_, out_ = .returned val_ ∧ (Q_rm_hi Z t mp h0 n0) val_ U'.heap loc_ ∧ FrameEnd U out_ U' loc_ ({ frames := 1, cells := 0, slots := 0, locals := 12 } : Room).cells ({ frames := 1, cells := 0, slots := 0, locals := 12 } : Room).slots) := by
  refine start (Q := (Q_rm_hi Z t mp h0 n0)) pn_17 ?_
  intro p e s m below meth c T0 X0 hx hby hml hown hnm hret hlk hZ e0
  replace hown : s.vm.findClass "java/util/HashMap$HashIterator" = some m.cls := hown
  replace hml : c.maxLocals = 3 := hml
  refine goAt (ef_rm_hi m t mp ) ?_
  have N0 := Fr.nil n0
  show Go p e below T0 (mkF m 0 #[.val (.ref t), .val (.ref mp), .unset] []) _
  refine stp (fun _ => XS.aloadN X0.here hx rfl (hb hby d31_0) rfl rfl) ?_
  show Go p e below T0 (mkF m 1 #[.val (.ref t), .val (.ref mp), .unset] [(.ref t)]) _
  refine stp (fun _ => XS.aloadN X0.here hx rfl (hb hby d31_1) rfl rfl) ?_
  show Go p e below T0 (mkF m 2 #[.val (.ref t), .val (.ref mp), .unset] [(.ref mp), (.ref t)]) _
  obtain ⟨T1, h1, X1, e1, W1, st1⟩ := putF X0 hx hZ hown (host := "") (Or.inl (hw _ (List.mem_of_getElem? (i := 188) rfl))) Via.refl e0 F_t_this_0 E_t (Or.inr ⟨(hw _ (List.mem_of_getElem? (i := 189) rfl)), rfl, hnm⟩) (hw _ (List.mem_of_getElem? (i := 176) rfl)) (ty := (.object "java/util/HashMap")) (by decide) rfl rfl (g := (mkF m 2 #[.val (.ref t), .val (.ref mp), .unset] [(.ref mp), (.ref t)])) rfl rfl (hb hby d31_2)
  have Fw1 := F_t_this_0.same W1
  have f2 := E_t.wr W1
  have f4 := F_t_expectedModCount.other W1 (Or.inr (slot_ne (Or.inl (hw _ (List.mem_of_getElem? (i := 194) rfl))) (Or.inr (hw _ (List.mem_of_getElem? (i := 189) rfl))) (by decide) (t := .int) (t' := (.object "java/util/HashMap")) (by decide) (by decide)))
  have f5 := F_t_next.other W1 (Or.inr (slot_ne (Or.inl (hw _ (List.mem_of_getElem? (i := 198) rfl))) (Or.inr (hw _ (List.mem_of_getElem? (i := 189) rfl))) (by decide) (t := (.object "java/util/HashMap$Node")) (t' := (.object "java/util/HashMap")) (by decide) (by decide)))
  have f6 := F_t_current.other W1 (Or.inr (slot_ne (Or.inl (hw _ (List.mem_of_getElem? (i := 200) rfl))) (Or.inr (hw _ (List.mem_of_getElem? (i := 189) rfl))) (by decide) (t := (.object "java/util/HashMap$Node")) (t' := (.object "java/util/HashMap")) (by decide) (by decide)))
  have f7 := F_t_index.other W1 (Or.inr (slot_ne (Or.inl (hw _ (List.mem_of_getElem? (i := 202) rfl))) (Or.inr (hw _ (List.mem_of_getElem? (i := 189) rfl))) (by decide) (t := .int) (t' := (.object "java/util/HashMap")) (by decide) (by decide)))
  have f8 := F_mp_table.other W1 (Or.inl ne_mp_t)
  have f9 := F_mp_modCount.other W1 (Or.inl ne_mp_t)
  have K1 : Keep h0 h1 [t] := (Keep.refl h0 [t]).wr W1 (Or.inl (List.mem_of_getElem? (i := 0) rfl))
  have O1 := O0.wr W1 ge_t
  have N1 := Fr.snoc X1 N0 ge_t
  refine stp st1 ?_
  show Go p e below T1 (mkF m 5 #[.val (.ref t), .val (.ref mp), .unset] []) _
  refine stp (fun _ => XS.aloadN X1.here hx rfl (hb hby d31_5) rfl rfl) ?_
  show Go p e below T1 (mkF m 6 #[.val (.ref t), .val (.ref mp), .unset] [(.ref t)]) _
  obtain ⟨T10, X10, e10, st10⟩ := initO X1 hx hZ hown (hw _ (List.mem_of_getElem? (i := 190) rfl)) (hw _ (List.mem_of_getElem? (i := 22) rfl)) (hw _ (List.mem_of_getElem? (i := 23) rfl)) e1 (g := (mkF m 6 #[.val (.ref t), .val (.ref mp), .unset] [(.ref t)])) rfl (by rw [hml]; rfl) rfl (hb hby d31_6) (by decide) (W := 0) (by show 2 * 0 + _ ≤ _; exact Nat.le_of_eq rfl) (by decide)
  refine stp st10 ?_
  show Go p e below T10 (mkF m 9 #[.val (.ref t), .val (.ref mp), .unset] []) _
  refine stp (fun _ => XS.aloadN X10.here hx rfl (hb hby d31_9) rfl rfl) ?_
  show Go p e below T10 (mkF m 10 #[.val (.ref t), .val (.ref mp), .unset] [(.ref t)]) _
  refine stp (fun _ => XS.aloadN X10.here hx rfl (hb hby d31_10) rfl rfl) ?_
  show Go p e below T10 (mkF m 11 #[.val (.ref t), .val (.ref mp), .unset] [(.ref mp), (.ref t)]) _
  obtain ⟨T11, X11, e11, st11⟩ := getF X10 hx hZ hown (host := "") (Or.inl (hw _ (List.mem_of_getElem? (i := 191) rfl))) Via.refl e10 f9 (g := (mkF m 11 #[.val (.ref t), .val (.ref mp), .unset] [(.ref mp), (.ref t)])) rfl rfl (hb hby d31_11)
  refine stp st11 ?_
  show Go p e below T11 (mkF m 14 #[.val (.ref t), .val (.ref mp), .unset] [(.int (0 : Int32)), (.ref t)]) _
  obtain ⟨T12, h12, X12, e12, W12, st12⟩ := putF X11 hx hZ hown (host := "") (Or.inl (hw _ (List.mem_of_getElem? (i := 193) rfl))) Via.refl e11 f4 f2 (Or.inl (hw _ (List.mem_of_getElem? (i := 194) rfl))) (hw _ (List.mem_of_getElem? (i := 176) rfl)) (ty := .int) (by decide) rfl rfl (g := (mkF m 14 #[.val (.ref t), .val (.ref mp), .unset] [(.int (0 : Int32)), (.ref t)])) rfl rfl (hb hby d31_14)
  have Fw12 := f4.same W12
  have f13 := f2.wr W12
  have f14 := Fw1.other W12 (Or.inr (slot_ne (Or.inr (hw _ (List.mem_of_getElem? (i := 189) rfl))) (Or.inl (hw _ (List.mem_of_getElem? (i := 194) rfl))) (by decide) (t := (.object "java/util/HashMap")) (t' := .int) (by decide) (by decide)))
  have f16 := f5.other W12 (Or.inr (slot_ne (Or.inl (hw _ (List.mem_of_getElem? (i := 198) rfl))) (Or.inl (hw _ (List.mem_of_getElem? (i := 194) rfl))) (by decide) (t := (.object "java/util/HashMap$Node")) (t' := .int) (by decide) (by decide)))
  have f17 := f6.other W12 (Or.inr (slot_ne (Or.inl (hw _ (List.mem_of_getElem? (i := 200) rfl))) (Or.inl (hw _ (List.mem_of_getElem? (i := 194) rfl))) (by decide) (t := (.object "java/util/HashMap$Node")) (t' := .int) (by decide) (by decide)))
  have f18 := f7.other W12 (Or.inr (slot_ne (Or.inl (hw _ (List.mem_of_getElem? (i := 202) rfl))) (Or.inl (hw _ (List.mem_of_getElem? (i := 194) rfl))) (by decide) (t := .int) (t' := .int) (by decide) (by decide)))
  have f19 := f8.other W12 (Or.inl ne_mp_t)
  have f20 := f9.other W12 (Or.inl ne_mp_t)
  have K12 : Keep h0 h12 [t] := K1.wr W12 (Or.inl (List.mem_of_getElem? (i := 0) rfl))
  have O12 := O1.wr W12 ge_t
  have N12 := Fr.snoc X12 N1 ge_t
  refine stp st12 ?_
  show Go p e below T12 (mkF m 17 #[.val (.ref t), .val (.ref mp), .unset] []) _
  refine stp (fun _ => XS.aloadN X12.here hx rfl (hb hby d31_17) rfl rfl) ?_
  show Go p e below T12 (mkF m 18 #[.val (.ref t), .val (.ref mp), .unset] [(.ref mp)]) _
  obtain ⟨T21, X21, e21, st21⟩ := getF X12 hx hZ hown (host := "") (Or.inl (hw _ (List.mem_of_getElem? (i := 195) rfl))) Via.refl e12 f19 (g := (mkF m 18 #[.val (.ref t), .val (.ref mp), .unset] [(.ref mp)])) rfl rfl (hb hby d31_18)
  refine stp st21 ?_
  show Go p e below T21 (mkF m 21 #[.val (.ref t), .val (.ref mp), .unset] [.null]) _
  refine stp (fun _ => XS.astoreN X21.here hx rfl (hb hby d31_21) rfl rfl (l' := #[.val (.ref t), .val (.ref mp), .val .null]) rfl) ?_
  show Go p e below T21 (mkF m 22 #[.val (.ref t), .val (.ref mp), .val .null] []) _
  refine stp (fun _ => XS.aloadN X21.here hx rfl (hb hby d31_22) rfl rfl) ?_
  show Go p e below T21 (mkF m 23 #[.val (.ref t), .val (.ref mp), .val .null] [(.ref t)]) _
  refine stp (fun _ => XS.aloadN X21.here hx rfl (hb hby d31_23) rfl rfl) ?_
  show Go p e below T21 (mkF m 24 #[.val (.ref t), .val (.ref mp), .val .null] [(.ref t), (.ref t)]) _
  refine stp (fun _ => XS.aconstNull X21.here hx rfl (hb hby d31_24)) ?_
  show Go p e below T21 (mkF m 25 #[.val (.ref t), .val (.ref mp), .val .null] [.null, (.ref t), (.ref t)]) _
  refine stp (fun _ => XS.dupX1 X21.here hx rfl (hb hby d31_25) rfl rfl rfl) ?_
  show Go p e below T21 (mkF m 26 #[.val (.ref t), .val (.ref mp), .val .null] [.null, (.ref t), .null, (.ref t)]) _
  obtain ⟨T22, h22, X22, e22, W22, st22⟩ := putF X21 hx hZ hown (host := "") (Or.inl (hw _ (List.mem_of_getElem? (i := 197) rfl))) Via.refl e21 f16 f13 (Or.inl (hw _ (List.mem_of_getElem? (i := 198) rfl))) (hw _ (List.mem_of_getElem? (i := 176) rfl)) (ty := (.object "java/util/HashMap$Node")) (by decide) rfl rfl (g := (mkF m 26 #[.val (.ref t), .val (.ref mp), .val .null] [.null, (.ref t), .null, (.ref t)])) rfl rfl (hb hby d31_26)
  have Fw22 := f16.same W22
  have f23 := f13.wr W22
  have f24 := f14.other W22 (Or.inr (slot_ne (Or.inr (hw _ (List.mem_of_getElem? (i := 189) rfl))) (Or.inl (hw _ (List.mem_of_getElem? (i := 198) rfl))) (by decide) (t := (.object "java/util/HashMap")) (t' := (.object "java/util/HashMap$Node")) (by decide) (by decide)))
  have f25 := Fw12.other W22 (Or.inr (slot_ne (Or.inl (hw _ (List.mem_of_getElem? (i := 194) rfl))) (Or.inl (hw _ (List.mem_of_getElem? (i := 198) rfl))) (by decide) (t := .int) (t' := (.object "java/util/HashMap$Node")) (by decide) (by decide)))
  have f27 := f17.other W22 (Or.inr (slot_ne (Or.inl (hw _ (List.mem_of_getElem? (i := 200) rfl))) (Or.inl (hw _ (List.mem_of_getElem? (i := 198) rfl))) (by decide) (t := (.object "java/util/HashMap$Node")) (t' := (.object "java/util/HashMap$Node")) (by decide) (by decide)))
  have f28 := f18.other W22 (Or.inr (slot_ne (Or.inl (hw _ (List.mem_of_getElem? (i := 202) rfl))) (Or.inl (hw _ (List.mem_of_getElem? (i := 198) rfl))) (by decide) (t := .int) (t' := (.object "java/util/HashMap$Node")) (by decide) (by decide)))
  have f29 := f19.other W22 (Or.inl ne_mp_t)
  have f30 := f20.other W22 (Or.inl ne_mp_t)
  have K22 : Keep h0 h22 [t] := K12.wr W22 (Or.inl (List.mem_of_getElem? (i := 0) rfl))
  have O22 := O12.wr W22 ge_t
  have N22 := Fr.snoc X22 N12 ge_t
  refine stp st22 ?_
  show Go p e below T22 (mkF m 29 #[.val (.ref t), .val (.ref mp), .val .null] [.null, (.ref t)]) _
  obtain ⟨T31, h31, X31, e31, W31, st31⟩ := putF X22 hx hZ hown (host := "") (Or.inl (hw _ (List.mem_of_getElem? (i := 199) rfl))) Via.refl e22 f27 f23 (Or.inl (hw _ (List.mem_of_getElem? (i := 200) rfl))) (hw _ (List.mem_of_getElem? (i := 176) rfl)) (ty := (.object "java/util/HashMap$Node")) (by decide) rfl rfl (g := (mkF m 29 #[.val (.ref t), .val (.ref mp), .val .null] [.null, (.ref t)])) rfl rfl (hb hby d31_29)
  have Fw31 := f27.same W31
  have f32 := f23.wr W31
  have f33 := f24.other W31 (Or.inr (slot_ne (Or.inr (hw _ (List.mem_of_getElem? (i := 189) rfl))) (Or.inl (hw _ (List.mem_of_getElem? (i := 200) rfl))) (by decide) (t := (.object "java/util/HashMap")) (t' := (.object "java/util/HashMap$Node")) (by decide) (by decide)))
  have f34 := f25.other W31 (Or.inr (slot_ne (Or.inl (hw _ (List.mem_of_getElem? (i := 194) rfl))) (Or.inl (hw _ (List.mem_of_getElem? (i := 200) rfl))) (by decide) (t := .int) (t' := (.object "java/util/HashMap$Node")) (by decide) (by decide)))
  have f35 := Fw22.other W31 (Or.inr (slot_ne (Or.inl (hw _ (List.mem_of_getElem? (i := 198) rfl))) (Or.inl (hw _ (List.mem_of_getElem? (i := 200) rfl))) (by decide) (t := (.object "java/util/HashMap$Node")) (t' := (.object "java/util/HashMap$Node")) (by decide) (by decide)))
  have f37 := f28.other W31 (Or.inr (slot_ne (Or.inl (hw _ (List.mem_of_getElem? (i := 202) rfl))) (Or.inl (hw _ (List.mem_of_getElem? (i := 200) rfl))) (by decide) (t := .int) (t' := (.object "java/util/HashMap$Node")) (by decide) (by decide)))
  have f38 := f29.other W31 (Or.inl ne_mp_t)
  have f39 := f30.other W31 (Or.inl ne_mp_t)
  have K31 : Keep h0 h31 [t] := K22.wr W31 (Or.inl (List.mem_of_getElem? (i := 0) rfl))
  have O31 := O22.wr W31 ge_t
  have N31 := Fr.snoc X31 N22 ge_t
  refine stp st31 ?_
  show Go p e below T31 (mkF m 32 #[.val (.ref t), .val (.ref mp), .val .null] []) _
  refine stp (fun _ => XS.aloadN X31.here hx rfl (hb hby d31_32) rfl rfl) ?_
  show Go p e below T31 (mkF m 33 #[.val (.ref t), .val (.ref mp), .val .null] [(.ref t)]) _
  refine stp (fun _ => XS.iconst X31.here hx rfl (hb hby d31_33)) ?_
  show Go p e below T31 (mkF m 34 #[.val (.ref t), .val (.ref mp), .val .null] [(.int (0 : Int32)), (.ref t)]) _
  obtain ⟨T40, h40, X40, e40, W40, st40⟩ := putF X31 hx hZ hown (host := "") (Or.inl (hw _ (List.mem_of_getElem? (i := 201) rfl))) Via.refl e31 f37 f32 (Or.inl (hw _ (List.mem_of_getElem? (i := 202) rfl))) (hw _ (List.mem_of_getElem? (i := 176) rfl)) (ty := .int) (by decide) rfl rfl (g := (mkF m 34 #[.val (.ref t), .val (.ref mp), .val .null] [(.int (0 : Int32)), (.ref t)])) rfl rfl (hb hby d31_34)
  have Fw40 := f37.same W40
  have f41 := f32.wr W40
  have f42 := f33.other W40 (Or.inr (slot_ne (Or.inr (hw _ (List.mem_of_getElem? (i := 189) rfl))) (Or.inl (hw _ (List.mem_of_getElem? (i := 202) rfl))) (by decide) (t := (.object "java/util/HashMap")) (t' := .int) (by decide) (by decide)))
  have f43 := f34.other W40 (Or.inr (slot_ne (Or.inl (hw _ (List.mem_of_getElem? (i := 194) rfl))) (Or.inl (hw _ (List.mem_of_getElem? (i := 202) rfl))) (by decide) (t := .int) (t' := .int) (by decide) (by decide)))
  have f44 := f35.other W40 (Or.inr (slot_ne (Or.inl (hw _ (List.mem_of_getElem? (i := 198) rfl))) (Or.inl (hw _ (List.mem_of_getElem? (i := 202) rfl))) (by decide) (t := (.object "java/util/HashMap$Node")) (t' := .int) (by decide) (by decide)))
  have f45 := Fw31.other W40 (Or.inr (slot_ne (Or.inl (hw _ (List.mem_of_getElem? (i := 200) rfl))) (Or.inl (hw _ (List.mem_of_getElem? (i := 202) rfl))) (by decide) (t := (.object "java/util/HashMap$Node")) (t' := .int) (by decide) (by decide)))
  have f47 := f38.other W40 (Or.inl ne_mp_t)
  have f48 := f39.other W40 (Or.inl ne_mp_t)
  have K40 : Keep h0 h40 [t] := K31.wr W40 (Or.inl (List.mem_of_getElem? (i := 0) rfl))
  have O40 := O31.wr W40 ge_t
  have N40 := Fr.snoc X40 N31 ge_t
  refine stp st40 ?_
  show Go p e below T40 (mkF m 37 #[.val (.ref t), .val (.ref mp), .val .null] []) _
  refine stp (fun _ => XS.aloadN X40.here hx rfl (hb hby d31_37) rfl rfl) ?_
  show Go p e below T40 (mkF m 38 #[.val (.ref t), .val (.ref mp), .val .null] [.null]) _
  refine stp (fun _ => XS.ifnullYes X40.here hx rfl (pc0 := 38) (pc' := 78) rfl (hb hby d31_38) rfl (by decide) (by decide)) ?_
  show Go p e below T40 (mkF m 78 #[.val (.ref t), .val (.ref mp), .val .null] []) _
  refine outV X40 hx hret (hb hby d31_78) hlk (by decide) (by decide) ?_
  rw [e40]
  exact ⟨rfl, N40, K40, f41, f44⟩
theorem d30_0 : decode jdk_98_method_1_code 0 = .ok (.aload_n 0, 1) := by decide +kernel
theorem d30_1 : decode jdk_98_method_1_code 1 = .ok (.aload_n 1, 1) := by decide +kernel
theorem d30_2 : decode jdk_98_method_1_code 2 = .ok (.invokespecial 1, 3) := by decide +kernel
theorem d30_5 : decode jdk_98_method_1_code 5 = .ok (.return_, 1) := by decide +kernel
theorem ef_rm_kin (m : MethodId) (t : Addr) (mp : Addr)  : entryFrame m #[(.ref t), (.ref mp)] 2 = mkF m 0 #[.val (.ref t), .val (.ref mp)] [] := by first | (simp [entryFrame, mkF, argsToLocals, Value.category]; done) | rfl
def Q_rm_kin (Z : State) (t : Addr) (mp : Addr)  (h0 : Heap) (n0 : Nat) (v : Option Value) (h : Heap) (L : List Loc) : Prop := v = none ∧ Fr n0 L ∧ Keep h0 h [t] ∧ Exa Z h t "java/util/HashMap$KeyIterator" ∧ Fld Z h t "java/util/HashMap$HashIterator" "next" "Ljava/util/HashMap$Node;" .null
theorem pn_18_ : plainName "java/util/HashMap$KeyIterator" = true := by first | (simp [plainName, overriddenIn]; done) | decide +kernel
theorem pn_18 : plainFor (⟨"java/util/HashMap$KeyIterator", "<init>", "(Ljava/util/HashMap;)V"⟩ : MethodName) = true := plainFor_of_name pn_18_
set_option maxRecDepth 65536 in
set_option maxHeartbeats 40000000 in
theorem rm_kin (l : Launch) (Z : State) (a0 : Array Value) (hw : ∀ d ∈ tables_1, d.before a0 Z = true) (ws : List Jvm.Cond) (t : Addr) (mp : Addr)  (h0 : Heap) (n0 : Nat) (O0 : Old Z n0 h0) (E_t : Exa Z h0 t "java/util/HashMap$KeyIterator") (F_t_this_0 : Fld Z h0 t "java/util/HashMap$HashIterator" "this$0" "Ljava/util/HashMap;" .null) (F_t_expectedModCount : Fld Z h0 t "java/util/HashMap$HashIterator" "expectedModCount" "I" (.int (0 : Int32))) (F_t_next : Fld Z h0 t "java/util/HashMap$HashIterator" "next" "Ljava/util/HashMap$Node;" .null) (F_t_current : Fld Z h0 t "java/util/HashMap$HashIterator" "current" "Ljava/util/HashMap$Node;" .null) (F_t_index : Fld Z h0 t "java/util/HashMap$HashIterator" "index" "I" (.int (0 : Int32))) (F_mp_table : Fld Z h0 mp "java/util/HashMap" "table" "[Ljava/util/HashMap$Node;" .null) (F_mp_modCount : Fld Z h0 mp "java/util/HashMap" "modCount" "I" (.int (0 : Int32))) (ge_t : n0 ≤ t) (ne_mp_t : mp ≠ t) :
    MetFree l (⟨"java/util/HashMap$KeyIterator", "<init>", "(Ljava/util/HashMap;)V"⟩ : MethodName) (head1 (Jvm.Cond.code (⟨"java/util/HashMap$KeyIterator", "<init>", "(Ljava/util/HashMap;)V"⟩ : MethodName) jdk_98_method_1_code 2 none :: ws) ({ frames := 2, cells := 0, slots := 0, locals := 26 } : Room)) (fun args_ U => args_ = #[(.ref t), (.ref mp)] ∧ Z.Warmed39 U.vm ∧ U.heap = h0) (fun _ _ _ _ _ => True) (fun _ U out_ U' => ∃ val_ loc_, out_ = .returned val_ ∧ (Q_rm_kin Z t mp h0 n0) val_ U'.heap loc_ ∧ FrameEnd U out_ U' loc_ ({ frames := 2, cells := 0, slots := 0, locals := 26 } : Room).cells ({ frames := 2, cells := 0, slots := 0, locals := 26 } : Room).slots) := by
  refine start (Q := (Q_rm_kin Z t mp h0 n0)) pn_18 ?_
  intro p e s m below meth c T0 X0 hx hby hml hown hnm hret hlk hZ e0
  replace hown : s.vm.findClass "java/util/HashMap$KeyIterator" = some m.cls := hown
  replace hml : c.maxLocals = 2 := hml
  refine goAt (ef_rm_kin m t mp ) ?_
  have N0 := Fr.nil n0
  show Go p e below T0 (mkF m 0 #[.val (.ref t), .val (.ref mp)] []) _
  refine stp (fun _ => XS.aloadN X0.here hx rfl (hb hby d30_0) rfl rfl) ?_
  show Go p e below T0 (mkF m 1 #[.val (.ref t), .val (.ref mp)] [(.ref t)]) _
  refine stp (fun _ => XS.aloadN X0.here hx rfl (hb hby d30_1) rfl rfl) ?_
  show Go p e below T0 (mkF m 2 #[.val (.ref t), .val (.ref mp)] [(.ref mp), (.ref t)]) _
  obtain ⟨_, _, ⟨T1, L1, k1, n1⟩, -, X1, ⟨Lc1, hQ1, l1, y1, z1⟩, st1⟩ := X0.specialBack hx (y := (⟨"java/util/HashMap$HashIterator", "<init>", "(Ljava/util/HashMap;)V"⟩ : MethodName)) rfl hown (mvT hZ (hw _ (List.mem_of_getElem? (i := 182) rfl))) (mvT hZ (hw _ (List.mem_of_getElem? (i := 183) rfl))) (mvT hZ (hw _ (List.mem_of_getElem? (i := 187) rfl))) (by decide) (backOf (W := 0) (rm_hi l Z a0 hw [] t mp  h0 n0 O0 E_t F_t_this_0 F_t_expectedModCount F_t_next F_t_current F_t_index F_mp_table F_mp_modCount ge_t ne_mp_t) hZ (hw _ (List.mem_of_getElem? (i := 187) rfl)) (hw _ (List.mem_of_getElem? (i := 186) rfl)) (by decide) (by decide)) (g := (mkF m 2 #[.val (.ref t), .val (.ref mp)] [(.ref mp), (.ref t)])) rfl (by rw [hml]; rfl) (Steps.refl _) (a := t) (argsL := [(.ref mp)]) (rest := []) (lenOf pd_7 rfl) rfl (by show 2 * 0 + _ ≤ _; exact Nat.le_of_eq rfl) (hb hby d30_2) (fun _ _ => ⟨rfl, e0, (by decide : 0 + 0 ≤ _), (by decide : 0 + 0 ≤ _)⟩)
  dsimp only [Pt.U, Pt.locs, Pt.cells, Pt.slots] at X1 l1 y1 z1 st1 hQ1
  subst y1 z1
  obtain ⟨rfl, N1q, K1q, r1_0, r1_1⟩ := hQ1
  have N1 : Fr n0 L1 := by rw [l1]; exact Fr.app N0 N1q
  have f2 := E_t.keep K1q
  have f3 := F_mp_table.keep K1q (ninS ne_mp_t nin0)
  have f4 := F_mp_modCount.keep K1q (ninS ne_mp_t nin0)
  have K1 : Keep h0 T1.heap [t] := (Keep.refl h0 [t]).trans K1q (allS (Or.inl (List.mem_of_getElem? (i := 0) rfl)) all0)
  have O1 := O0.keep K1q (allS ge_t all0)
  refine stt st1 ?_
  show Go p e below T1 (mkF m 5 #[.val (.ref t), .val (.ref mp)] []) _
  refine outV X1 hx hret (hb hby d30_5) hlk (by decide) (by decide) ?_
  exact ⟨rfl, N1, K1, r1_0, r1_1⟩
theorem d29_0 : decode jdk_97_method_4_code 0 = .ok (.new 22, 3) := by decide +kernel
theorem d29_3 : decode jdk_97_method_4_code 3 = .ok (.dup, 1) := by decide +kernel
theorem d29_4 : decode jdk_97_method_4_code 4 = .ok (.aload_n 0, 1) := by decide +kernel
theorem d29_5 : decode jdk_97_method_4_code 5 = .ok (.getfield 1, 3) := by decide +kernel
theorem d29_8 : decode jdk_97_method_4_code 8 = .ok (.invokespecial 24, 3) := by decide +kernel
theorem d29_11 : decode jdk_97_method_4_code 11 = .ok (.areturn, 1) := by decide +kernel
theorem ef_rm_kit (m : MethodId) (t : Addr)  : entryFrame m #[(.ref t)] 1 = mkF m 0 #[.val (.ref t)] [] := by first | (simp [entryFrame, mkF, argsToLocals, Value.category]; done) | rfl
def Q_rm_kit (Z : State) (t : Addr) (mp : Addr) (h0 : Heap) (n0 : Nat) (v : Option Value) (h : Heap) (L : List Loc) : Prop := ∃ (r : Addr), v = some (.ref r) ∧ Fr n0 L ∧ Keep h0 h [] ∧ (n0 ≤ r ∧ h0.size ≤ r) ∧ Exa Z h r "java/util/HashMap$KeyIterator" ∧ Fld Z h r "java/util/HashMap$HashIterator" "next" "Ljava/util/HashMap$Node;" .null
theorem pn_19_ : plainName "java/util/HashMap$KeySet" = true := by first | (simp [plainName, overriddenIn]; done) | decide +kernel
theorem pn_19 : plainFor (⟨"java/util/HashMap$KeySet", "iterator", "()Ljava/util/Iterator;"⟩ : MethodName) = true := plainFor_of_name pn_19_
set_option maxRecDepth 65536 in
set_option maxHeartbeats 40000000 in
theorem rm_kit (l : Launch) (Z : State) (a0 : Array Value) (hw : ∀ d ∈ tables_1, d.before a0 Z = true) (ws : List Jvm.Cond) (t : Addr) (mp : Addr) (h0 : Heap) (n0 : Nat) (O0 : Old Z n0 h0) (F_t_this_0 : Fld Z h0 t "java/util/HashMap$KeySet" "this$0" "Ljava/util/HashMap;" (.ref mp)) (F_mp_table : Fld Z h0 mp "java/util/HashMap" "table" "[Ljava/util/HashMap$Node;" .null) (F_mp_modCount : Fld Z h0 mp "java/util/HashMap" "modCount" "I" (.int (0 : Int32))) :
    MetFree l (⟨"java/util/HashMap$KeySet", "iterator", "()Ljava/util/Iterator;"⟩ : MethodName) (head1 (Jvm.Cond.code (⟨"java/util/HashMap$KeySet", "iterator", "()Ljava/util/Iterator;"⟩ : MethodName) jdk_97_method_4_code 1 (some (.object "java/util/Iterator")) :: ws) ({ frames := 3, cells := 1, slots := 5, locals := 40 } : Room)) (fun args_ U => args_ = #[(.ref t)] ∧ Z.Warmed39 U.vm ∧ U.heap = h0) (fun _ _ _ _ _ => True) (fun _ U out_ U' => ∃ val_ loc_, out_ = .returned val_ ∧ (Q_rm_kit Z t mp h0 n0) val_ U'.heap loc_ ∧ FrameEnd U out_ U' loc_ ({ frames := 3, cells := 1, slots := 5, locals := 40 } : Room).cells ({ frames := 3, cells := 1, slots := 5, locals := 40 } : Room).slots) := by
  refine start (Q := (Q_rm_kit Z t mp h0 n0)) pn_19 ?_
  intro p e s m below meth c T0 X0 hx hby hml hown hnm hret hlk hZ e0
  replace hown : s.vm.findClass "java/util/HashMap$KeySet" = some m.cls := hown
  replace hml : c.maxLocals = 1 := hml
  refine goAt (ef_rm_kit m t ) ?_
  have N0 := Fr.nil n0
  show Go p e below T0 (mkF m 0 #[.val (.ref t)] []) _
  obtain ⟨T1, h1, X1, e1, E1, A1, D1, U1, st1⟩ := newO X0 hx hZ hown (hw _ (List.mem_of_getElem? (i := 175) rfl)) (hw _ (List.mem_of_getElem? (i := 176) rfl)) (hw _ (List.mem_of_getElem? (i := 177) rfl)) e0 (g := (mkF m 0 #[.val (.ref t)] [])) rfl (hb hby d29_0) (by decide) (by decide)
  obtain ⟨b1, g1⟩ : ∃ z, z = h0.size := ⟨_, rfl⟩
  rw [← g1] at A1 D1 st1
  have ne2 : mp ≠ b1 := Nat.ne_of_lt (Nat.lt_of_lt_of_le F_mp_table.lt (Nat.le_of_eq g1.symm))
  have ne3 : t ≠ b1 := Nat.ne_of_lt (Nat.lt_of_lt_of_le F_t_this_0.lt (Nat.le_of_eq g1.symm))
  have sz_b1 : h0.size ≤ b1 := Nat.le_trans (Keep.refl h0 []).1 (Nat.le_of_eq g1.symm)
  have ge_b1 : n0 ≤ b1 := Nat.le_trans (old_le O0) (Nat.le_of_eq g1.symm)
  have f4 := F_t_this_0.ext E1
  have f5 := F_mp_table.ext E1
  have f6 := F_mp_modCount.ext E1
  have K1 : Keep h0 h1 [] := (Keep.refl h0 []).ext E1
  have O1 := O0.ext E1
  have F7 : Fld Z h1 b1 "java/util/HashMap$HashIterator" "this$0" "Ljava/util/HashMap;" .null := D1 (Or.inr (hw _ (List.mem_of_getElem? (i := 189) rfl))) (ty := (.object "java/util/HashMap")) (by decide)
  have F8 : Fld Z h1 b1 "java/util/HashMap$HashIterator" "expectedModCount" "I" (.int (0 : Int32)) := D1 (Or.inl (hw _ (List.mem_of_getElem? (i := 194) rfl))) (ty := .int) (by decide)
  have F9 : Fld Z h1 b1 "java/util/HashMap$HashIterator" "next" "Ljava/util/HashMap$Node;" .null := D1 (Or.inl (hw _ (List.mem_of_getElem? (i := 198) rfl))) (ty := (.object "java/util/HashMap$Node")) (by decide)
  have F10 : Fld Z h1 b1 "java/util/HashMap$HashIterator" "current" "Ljava/util/HashMap$Node;" .null := D1 (Or.inl (hw _ (List.mem_of_getElem? (i := 200) rfl))) (ty := (.object "java/util/HashMap$Node")) (by decide)
  have F11 : Fld Z h1 b1 "java/util/HashMap$HashIterator" "index" "I" (.int (0 : Int32)) := D1 (Or.inl (hw _ (List.mem_of_getElem? (i := 202) rfl))) (ty := .int) (by decide)
  refine stp st1 ?_
  show Go p e below T1 (mkF m 3 #[.val (.ref t)] [(.ref b1)]) _
  refine stp (fun _ => XS.dup X1.here hx rfl (hb hby d29_3) rfl rfl) ?_
  show Go p e below T1 (mkF m 4 #[.val (.ref t)] [(.ref b1), (.ref b1)]) _
  refine stp (fun _ => XS.aloadN X1.here hx rfl (hb hby d29_4) rfl rfl) ?_
  show Go p e below T1 (mkF m 5 #[.val (.ref t)] [(.ref t), (.ref b1), (.ref b1)]) _
  obtain ⟨T12, X12, e12, st12⟩ := getF X1 hx hZ hown (host := "") (Or.inl (hw _ (List.mem_of_getElem? (i := 161) rfl))) Via.refl e1 f4 (g := (mkF m 5 #[.val (.ref t)] [(.ref t), (.ref b1), (.ref b1)])) rfl rfl (hb hby d29_5)
  refine stp st12 ?_
  show Go p e below T12 (mkF m 8 #[.val (.ref t)] [(.ref mp), (.ref b1), (.ref b1)]) _
  obtain ⟨_, _, ⟨T13, L13, k13, n13⟩, -, X13, ⟨Lc13, hQ13, l13, y13, z13⟩, st13⟩ := X12.specialBack hx (y := (⟨"java/util/HashMap$KeyIterator", "<init>", "(Ljava/util/HashMap;)V"⟩ : MethodName)) rfl hown (mvT hZ (hw _ (List.mem_of_getElem? (i := 178) rfl))) (mvT hZ (hw _ (List.mem_of_getElem? (i := 179) rfl))) (mvT hZ (hw _ (List.mem_of_getElem? (i := 181) rfl))) (by decide) (backOf (W := 1) (rm_kin l Z a0 hw [] b1 mp  h1 n0 O1 A1 F7 F8 F9 F10 F11 f5 f6 ge_b1 ne2) hZ (hw _ (List.mem_of_getElem? (i := 181) rfl)) (hw _ (List.mem_of_getElem? (i := 177) rfl)) (by decide) (by decide)) (g := (mkF m 8 #[.val (.ref t)] [(.ref mp), (.ref b1), (.ref b1)])) rfl (by rw [hml]; rfl) (Steps.refl _) (a := b1) (argsL := [(.ref mp)]) (rest := [(.ref b1)]) (lenOf pd_7 rfl) rfl (by show 2 * 0 + _ ≤ _; exact Nat.le_of_eq rfl) (hb hby d29_8) (fun _ _ => ⟨rfl, e12, (by decide : 1 + 0 ≤ _), (by decide : 5 + 0 ≤ _)⟩)
  dsimp only [Pt.U, Pt.locs, Pt.cells, Pt.slots] at X13 l13 y13 z13 st13 hQ13
  subst y13 z13
  obtain ⟨rfl, N13q, K13q, r13_0, r13_1⟩ := hQ13
  have N13 : Fr n0 L13 := by rw [l13]; exact Fr.app N0 N13q
  have f14 := f4.keep K13q (ninS ne3 nin0)
  have f15 := f5.keep K13q (ninS ne2 nin0)
  have f16 := f6.keep K13q (ninS ne2 nin0)
  have f17 := A1.keep K13q
  have K13 : Keep h0 T13.heap [] := K1.trans K13q (allS (Or.inr sz_b1) all0)
  have O13 := O1.keep K13q (allS ge_b1 all0)
  refine stt st13 ?_
  show Go p e below T13 (mkF m 11 #[.val (.ref t)] [(.ref b1)]) _
  refine outA X13 hx hret rfl rfl (hb hby d29_11) hlk (by decide) (by decide) ?_
  exact ⟨b1, rfl, N13, K13, ⟨ge_b1, sz_b1⟩, r13_0, r13_1⟩
theorem d26_0 : decode jdk_93_method_6_code 0 = .ok (.aload_n 0, 1) := by decide +kernel
theorem d26_1 : decode jdk_93_method_6_code 1 = .ok (.getfield 10, 3) := by decide +kernel
theorem d26_4 : decode jdk_93_method_6_code 4 = .ok (.invokevirtual 45, 3) := by decide +kernel
theorem pd_8 : parseMethodDescriptor "()Ljava/util/Set;" = some ⟨[], some (.object "java/util/Set")⟩ := by decide +kernel
theorem d26_7 : decode jdk_93_method_6_code 7 = .ok (.invokeinterface 49 1, 5) := by decide +kernel
theorem pd_9 : parseMethodDescriptor "()Ljava/util/Iterator;" = some ⟨[], some (.object "java/util/Iterator")⟩ := by decide +kernel
theorem d26_12 : decode jdk_93_method_6_code 12 = .ok (.areturn, 1) := by decide +kernel
theorem ef_rm_sit (m : MethodId) (t : Addr)  : entryFrame m #[(.ref t)] 1 = mkF m 0 #[.val (.ref t)] [] := by first | (simp [entryFrame, mkF, argsToLocals, Value.category]; done) | rfl
def Q_rm_sit (Z : State) (t : Addr) (mp : Addr) (h0 : Heap) (n0 : Nat) (v : Option Value) (h : Heap) (L : List Loc) : Prop := ∃ (r : Addr), v = some (.ref r) ∧ Fr n0 L ∧ Keep h0 h [mp] ∧ (n0 ≤ r ∧ h0.size ≤ r) ∧ Exa Z h r "java/util/HashMap$KeyIterator" ∧ Fld Z h r "java/util/HashMap$HashIterator" "next" "Ljava/util/HashMap$Node;" .null
theorem pn_20_ : plainName "java/util/HashSet" = true := by first | (simp [plainName, overriddenIn]; done) | decide +kernel
theorem pn_20 : plainFor (⟨"java/util/HashSet", "iterator", "()Ljava/util/Iterator;"⟩ : MethodName) = true := plainFor_of_name pn_20_
set_option maxRecDepth 65536 in
set_option maxHeartbeats 40000000 in
theorem rm_sit (l : Launch) (Z : State) (a0 : Array Value) (hw : ∀ d ∈ tables_1, d.before a0 Z = true) (ws : List Jvm.Cond) (t : Addr) (mp : Addr) (h0 : Heap) (n0 : Nat) (O0 : Old Z n0 h0) (F_t_map : Fld Z h0 t "java/util/HashSet" "map" "Ljava/util/HashMap;" (.ref mp)) (E_mp : Exa Z h0 mp "java/util/HashMap") (F_mp_keySet : Fld Z h0 mp "java/util/AbstractMap" "keySet" "Ljava/util/Set;" .null) (F_mp_table : Fld Z h0 mp "java/util/HashMap" "table" "[Ljava/util/HashMap$Node;" .null) (F_mp_modCount : Fld Z h0 mp "java/util/HashMap" "modCount" "I" (.int (0 : Int32))) (ge_mp : n0 ≤ mp) (ne_mp_t : mp ≠ t) :
    MetFree l (⟨"java/util/HashSet", "iterator", "()Ljava/util/Iterator;"⟩ : MethodName) (head1 (Jvm.Cond.code (⟨"java/util/HashSet", "iterator", "()Ljava/util/Iterator;"⟩ : MethodName) jdk_93_method_6_code 1 (some (.object "java/util/Iterator")) :: ws) ({ frames := 5, cells := 2, slots := 6, locals := 63 } : Room)) (fun args_ U => args_ = #[(.ref t)] ∧ Z.Warmed39 U.vm ∧ U.heap = h0) (fun _ _ _ _ _ => True) (fun _ U out_ U' => ∃ val_ loc_, out_ = .returned val_ ∧ (Q_rm_sit Z t mp h0 n0) val_ U'.heap loc_ ∧ FrameEnd U out_ U' loc_ ({ frames := 5, cells := 2, slots := 6, locals := 63 } : Room).cells ({ frames := 5, cells := 2, slots := 6, locals := 63 } : Room).slots) := by
  refine start (Q := (Q_rm_sit Z t mp h0 n0)) pn_20 ?_
  intro p e s m below meth c T0 X0 hx hby hml hown hnm hret hlk hZ e0
  replace hown : s.vm.findClass "java/util/HashSet" = some m.cls := hown
  replace hml : c.maxLocals = 1 := hml
  refine goAt (ef_rm_sit m t ) ?_
  have N0 := Fr.nil n0
  show Go p e below T0 (mkF m 0 #[.val (.ref t)] []) _
  refine stp (fun _ => XS.aloadN X0.here hx rfl (hb hby d26_0) rfl rfl) ?_
  show Go p e below T0 (mkF m 1 #[.val (.ref t)] [(.ref t)]) _
  obtain ⟨T1, X1, e1, st1⟩ := getF X0 hx hZ hown (host := "") (Or.inl (hw _ (List.mem_of_getElem? (i := 41) rfl))) Via.refl e0 F_t_map (g := (mkF m 1 #[.val (.ref t)] [(.ref t)])) rfl rfl (hb hby d26_1)
  refine stp st1 ?_
  show Go p e below T1 (mkF m 4 #[.val (.ref t)] [(.ref mp)]) _
  obtain ⟨cq2, kq2, q2a, q2b, q2c⟩ := isOf hZ e1 E_mp
  obtain ⟨_, _, ⟨T2, L2, k2, n2⟩, -, X2, ⟨Lc2, hQ2, l2, y2, z2⟩, st2⟩ := X1.virtualBack hx (y := (⟨"java/util/HashMap", "keySet", "()Ljava/util/Set;"⟩ : MethodName)) (z := (⟨"java/util/HashMap", "keySet", "()Ljava/util/Set;"⟩ : MethodName)) hown (mvT hZ (hw _ (List.mem_of_getElem? (i := 146) rfl))) (mvT hZ (hw _ (List.mem_of_getElem? (i := 147) rfl))) (notFace_of_selects (args := #[]) (mvT hZ (hw _ (List.mem_of_getElem? (i := 149) rfl)))) (mvT hZ (hw _ (List.mem_of_getElem? (i := 149) rfl))) (mvT hZ (hw _ (List.mem_of_getElem? (i := 148) rfl))) (by decide) (backOf (W := 0) (rm_kset l Z a0 hw [] mp  h0 n0 O0 E_mp F_mp_keySet F_mp_table F_mp_modCount ge_mp) hZ (hw _ (List.mem_of_getElem? (i := 150) rfl)) (hw _ (List.mem_of_getElem? (i := 26) rfl)) (by decide) (by decide)) q2a q2c (g := (mkF m 4 #[.val (.ref t)] [(.ref mp)])) rfl (by rw [hml]; rfl) (Steps.refl _) (argsL := []) (rest := []) (lenOf pd_8 rfl) rfl (by show 2 * 0 + _ ≤ _; exact Nat.le_of_eq rfl) (hb hby d26_4) (fun _ _ => ⟨rfl, e1, (by decide : 0 + 1 ≤ _), (by decide : 0 + 1 ≤ _)⟩)
  dsimp only [Pt.U, Pt.locs, Pt.cells, Pt.slots] at X2 l2 y2 z2 st2 hQ2
  subst y2 z2
  obtain ⟨r2, rfl, N2q, K2q, ⟨ge_r2, sz2_r2⟩, r2_0, r2_1, r2_2, r2_3, r2_4⟩ := hQ2
  have N2 : Fr n0 L2 := by rw [l2]; exact Fr.app N0 N2q
  have ne3 : mp ≠ r2 := Nat.ne_of_lt (Nat.lt_of_lt_of_le E_mp.lt sz2_r2)
  have ne4 : t ≠ r2 := Nat.ne_of_lt (Nat.lt_of_lt_of_le F_t_map.lt sz2_r2)
  have f5 := F_t_map.keep K2q (ninS (Ne.symm ne_mp_t) nin0)
  have f6 := E_mp.keep K2q
  have sz_r2 : h0.size ≤ r2 := Nat.le_trans (Keep.refl h0 [mp]).1 sz2_r2
  have K2 : Keep h0 T2.heap [mp] := (Keep.refl h0 [mp]).trans K2q (allS (Or.inl (List.mem_of_getElem? (i := 0) rfl)) all0)
  have O2 := O0.keep K2q (allS ge_mp all0)
  refine stt st2 ?_
  show Go p e below T2 (mkF m 7 #[.val (.ref t)] [(.ref r2)]) _
  obtain ⟨cq7, kq7, q7a, q7b, q7c⟩ := isOf hZ rfl r2_1
  obtain ⟨_, _, ⟨T7, L7, k7, n7⟩, -, X7, ⟨Lc7, hQ7, l7, y7, z7⟩, st7⟩ := X2.interfaceBack hx (xi := (⟨"java/util/Set", "iterator", "()Ljava/util/Iterator;"⟩ : MethodName)) (y := (⟨"java/util/HashMap$KeySet", "iterator", "()Ljava/util/Iterator;"⟩ : MethodName)) hown (mvT hZ (hw _ (List.mem_of_getElem? (i := 166) rfl))) (mvT hZ (hw _ (List.mem_of_getElem? (i := 167) rfl))) (mvT hZ (hw _ (List.mem_of_getElem? (i := 168) rfl))) (mvT hZ (hw _ (List.mem_of_getElem? (i := 169) rfl))) (mvT hZ (hw _ (List.mem_of_getElem? (i := 170) rfl))) (mvT hZ (hw _ (List.mem_of_getElem? (i := 171) rfl))) (mvT hZ (hw _ (List.mem_of_getElem? (i := 172) rfl))) (mvT hZ (hw _ (List.mem_of_getElem? (i := 173) rfl))) (by decide) (backOf (W := 0) (rm_kit l Z a0 hw [] r2 mp T2.heap n0 O2 r2_2 r2_3 r2_4) hZ (hw _ (List.mem_of_getElem? (i := 174) rfl)) (hw _ (List.mem_of_getElem? (i := 156) rfl)) (by decide) (by decide)) q7a q7b q7c (g := (mkF m 7 #[.val (.ref t)] [(.ref r2)])) rfl (by rw [hml]; rfl) (Steps.refl _) (argsL := []) (rest := []) (lenOf pd_9 rfl) rfl (by show 2 * 0 + _ ≤ _; exact Nat.le_of_eq rfl) (hb hby d26_7) (fun _ _ => ⟨rfl, rfl, (by decide : 1 + 1 ≤ _), (by decide : 1 + 5 ≤ _)⟩)
  dsimp only [Pt.U, Pt.locs, Pt.cells, Pt.slots] at X7 l7 y7 z7 st7 hQ7
  subst y7 z7
  obtain ⟨r7, rfl, N7q, K7q, ⟨ge_r7, sz7_r7⟩, r7_0, r7_1⟩ := hQ7
  have N7 : Fr n0 L7 := by rw [l7]; exact Fr.app N2 N7q
  have ne8 : mp ≠ r7 := Nat.ne_of_lt (Nat.lt_of_lt_of_le r2_0.lt sz7_r7)
  have ne9 : r2 ≠ r7 := Nat.ne_of_lt (Nat.lt_of_lt_of_le r2_1.lt sz7_r7)
  have ne10 : t ≠ r7 := Nat.ne_of_lt (Nat.lt_of_lt_of_le f5.lt sz7_r7)
  have f11 := f5.keep K7q nin0
  have f12 := r2_0.keep K7q
  have f13 := r2_1.keep K7q
  have f14 := r2_2.keep K7q nin0
  have f15 := r2_3.keep K7q nin0
  have f16 := r2_4.keep K7q nin0
  have sz_r7 : h0.size ≤ r7 := Nat.le_trans K2.1 sz7_r7
  have K7 : Keep h0 T7.heap [mp] := K2.trans K7q all0
  have O7 := O2.keep K7q all0
  refine stt st7 ?_
  show Go p e below T7 (mkF m 12 #[.val (.ref t)] [(.ref r7)]) _
  refine outA X7 hx hret rfl rfl (hb hby d26_12) hlk (by decide) (by decide) ?_
  exact ⟨r7, rfl, N7, K7, ⟨ge_r7, sz_r7⟩, r7_0, r7_1⟩
theorem d32_0 : decode jdk_99_method_2_code 0 = .ok (.aload_n 0, 1) := by decide +kernel
theorem d32_1 : decode jdk_99_method_2_code 1 = .ok (.getfield 26, 3) := by decide +kernel
theorem d32_4 : decode jdk_99_method_2_code 4 = .ok (.ifnull 7, 3) := by decide +kernel
theorem d32_11 : decode jdk_99_method_2_code 11 = .ok (.iconst 0, 1) := by decide +kernel
theorem d32_12 : decode jdk_99_method_2_code 12 = .ok (.ireturn, 1) := by decide +kernel
theorem ef_rm_hn (m : MethodId) (t : Addr)  : entryFrame m #[(.ref t)] 1 = mkF m 0 #[.val (.ref t)] [] := by first | (simp [entryFrame, mkF, argsToLocals, Value.category]; done) | rfl
def Q_rm_hn (Z : State) (t : Addr)  (h0 : Heap) (n0 : Nat) (v : Option Value) (h : Heap) (L : List Loc) : Prop := v = some (.int (0 : Int32)) ∧ Fr n0 L ∧ h = h0
theorem pn_21_ : plainName "java/util/HashMap$HashIterator" = true := by first | (simp [plainName, overriddenIn]; done) | decide +kernel
theorem pn_21 : plainFor (⟨"java/util/HashMap$HashIterator", "hasNext", "()Z"⟩ : MethodName) = true := plainFor_of_name pn_21_
set_option maxRecDepth 65536 in
set_option maxHeartbeats 40000000 in
theorem rm_hn (l : Launch) (Z : State) (a0 : Array Value) (hw : ∀ d ∈ tables_1, d.before a0 Z = true) (ws : List Jvm.Cond) (t : Addr)  (h0 : Heap) (n0 : Nat) (O0 : Old Z n0 h0) (F_t_next : Fld Z h0 t "java/util/HashMap$HashIterator" "next" "Ljava/util/HashMap$Node;" .null) :
    MetFree l (⟨"java/util/HashMap$HashIterator", "hasNext", "()Z"⟩ : MethodName) (head1 (Jvm.Cond.code (⟨"java/util/HashMap$HashIterator", "hasNext", "()Z"⟩ : MethodName) jdk_99_method_2_code 1 (some .boolean) :: ws) ({ frames := 0, cells := 0, slots := 0, locals := 0 } : Room)) (fun args_ U => args_ = #[(.ref t)] ∧ Z.Warmed39 U.vm ∧ U.heap = h0) (fun _ _ _ _ _ => True) (fun _ U out_ U' => ∃ val_ loc_, out_ = .returned val_ ∧ (Q_rm_hn Z t h0 n0) val_ U'.heap loc_ ∧ FrameEnd U out_ U' loc_ ({ frames := 0, cells := 0, slots := 0, locals := 0 } : Room).cells ({ frames := 0, cells := 0, slots := 0, locals := 0 } : Room).slots) := by
  refine start (Q := (Q_rm_hn Z t h0 n0)) pn_21 ?_
  intro p e s m below meth c T0 X0 hx hby hml hown hnm hret hlk hZ e0
  replace hown : s.vm.findClass "java/util/HashMap$HashIterator" = some m.cls := hown
  replace hml : c.maxLocals = 1 := hml
  refine goAt (ef_rm_hn m t ) ?_
  have N0 := Fr.nil n0
  show Go p e below T0 (mkF m 0 #[.val (.ref t)] []) _
  refine stp (fun _ => XS.aloadN X0.here hx rfl (hb hby d32_0) rfl rfl) ?_
  show Go p e below T0 (mkF m 1 #[.val (.ref t)] [(.ref t)]) _
  obtain ⟨T1, X1, e1, st1⟩ := getF X0 hx hZ hown (host := "") (Or.inl (hw _ (List.mem_of_getElem? (i := 197) rfl))) Via.refl e0 F_t_next (g := (mkF m 1 #[.val (.ref t)] [(.ref t)])) rfl rfl (hb hby d32_1)
  refine stp st1 ?_
  show Go p e below T1 (mkF m 4 #[.val (.ref t)] [.null]) _
  refine stp (fun _ => XS.ifnullYes X1.here hx rfl (pc0 := 4) (pc' := 11) rfl (hb hby d32_4) rfl (by decide) (by decide)) ?_
  show Go p e below T1 (mkF m 11 #[.val (.ref t)] []) _
  refine stp (fun _ => XS.iconst X1.here hx rfl (hb hby d32_11)) ?_
  show Go p e below T1 (mkF m 12 #[.val (.ref t)] [(.int (0 : Int32))]) _
  refine outN X1 hx (t := .boolean) hret (by simp) (hb hby d32_12) hlk (by decide) (by decide) ?_
  exact ⟨rfl, N0, e1⟩
theorem d25_0 : decode jdk_22_method_12_code 0 = .ok (.iconst 0, 1) := by decide +kernel
theorem d25_1 : decode jdk_22_method_12_code 1 = .ok (.istore_n 2, 1) := by decide +kernel
theorem d25_2 : decode jdk_22_method_12_code 2 = .ok (.aload_n 1, 1) := by decide +kernel
theorem d25_3 : decode jdk_22_method_12_code 3 = .ok (.invokeinterface 76 1, 5) := by decide +kernel
theorem d25_8 : decode jdk_22_method_12_code 8 = .ok (.astore_n 3, 1) := by decide +kernel
theorem d25_9 : decode jdk_22_method_12_code 9 = .ok (.aload_n 3, 1) := by decide +kernel
theorem d25_10 : decode jdk_22_method_12_code 10 = .ok (.invokeinterface 17 1, 5) := by decide +kernel
theorem pd_10 : parseMethodDescriptor "()Z" = some ⟨[], some .boolean⟩ := by decide +kernel
theorem d25_15 : decode jdk_22_method_12_code 15 = .ok (.ifCond .eq 25, 3) := by decide +kernel
theorem d25_40 : decode jdk_22_method_12_code 40 = .ok (.iload_n 2, 1) := by decide +kernel
theorem d25_41 : decode jdk_22_method_12_code 41 = .ok (.ireturn, 1) := by decide +kernel
theorem ef_rm_aa (m : MethodId) (t : Addr) (sa : Addr)  : entryFrame m #[(.ref t), (.ref sa)] 5 = mkF m 0 #[.val (.ref t), .val (.ref sa), .unset, .unset, .unset] [] := by first | (simp [entryFrame, mkF, argsToLocals, Value.category]; done) | rfl
def Q_rm_aa (Z : State) (t : Addr) (sa : Addr) (mp : Addr) (h0 : Heap) (n0 : Nat) (v : Option Value) (h : Heap) (L : List Loc) : Prop := v = some (.int (0 : Int32)) ∧ Fr n0 L ∧ Keep h0 h [mp]
theorem pn_22_ : plainName "java/util/AbstractCollection" = true := by first | (simp [plainName, overriddenIn]; done) | decide +kernel
theorem pn_22 : plainFor (⟨"java/util/AbstractCollection", "addAll", "(Ljava/util/Collection;)Z"⟩ : MethodName) = true := plainFor_of_name pn_22_
set_option maxRecDepth 65536 in
set_option maxHeartbeats 40000000 in
theorem rm_aa (l : Launch) (Z : State) (a0 : Array Value) (hw : ∀ d ∈ tables_1, d.before a0 Z = true) (ws : List Jvm.Cond) (t : Addr) (sa : Addr) (mp : Addr) (h0 : Heap) (n0 : Nat) (O0 : Old Z n0 h0) (E_sa : Exa Z h0 sa "java/util/HashSet") (F_sa_map : Fld Z h0 sa "java/util/HashSet" "map" "Ljava/util/HashMap;" (.ref mp)) (E_mp : Exa Z h0 mp "java/util/HashMap") (F_mp_keySet : Fld Z h0 mp "java/util/AbstractMap" "keySet" "Ljava/util/Set;" .null) (F_mp_table : Fld Z h0 mp "java/util/HashMap" "table" "[Ljava/util/HashMap$Node;" .null) (F_mp_modCount : Fld Z h0 mp "java/util/HashMap" "modCount" "I" (.int (0 : Int32))) (ge_mp : n0 ≤ mp) (ne_mp_sa : mp ≠ sa) :
    MetFree l (⟨"java/util/AbstractCollection", "addAll", "(Ljava/util/Collection;)Z"⟩ : MethodName) (head1 (Jvm.Cond.code (⟨"java/util/AbstractCollection", "addAll", "(Ljava/util/Collection;)Z"⟩ : MethodName) jdk_22_method_12_code 5 (some .boolean) :: ws) ({ frames := 6, cells := 2, slots := 6, locals := 75 } : Room)) (fun args_ U => args_ = #[(.ref t), (.ref sa)] ∧ Z.Warmed39 U.vm ∧ U.heap = h0) (fun _ _ _ _ _ => True) (fun _ U out_ U' => ∃ val_ loc_, out_ = .returned val_ ∧ (Q_rm_aa Z t sa mp h0 n0) val_ U'.heap loc_ ∧ FrameEnd U out_ U' loc_ ({ frames := 6, cells := 2, slots := 6, locals := 75 } : Room).cells ({ frames := 6, cells := 2, slots := 6, locals := 75 } : Room).slots) := by
  refine start (Q := (Q_rm_aa Z t sa mp h0 n0)) pn_22 ?_
  intro p e s m below meth c T0 X0 hx hby hml hown hnm hret hlk hZ e0
  replace hown : s.vm.findClass "java/util/AbstractCollection" = some m.cls := hown
  replace hml : c.maxLocals = 5 := hml
  refine goAt (ef_rm_aa m t sa ) ?_
  have N0 := Fr.nil n0
  show Go p e below T0 (mkF m 0 #[.val (.ref t), .val (.ref sa), .unset, .unset, .unset] []) _
  refine stp (fun _ => XS.iconst X0.here hx rfl (hb hby d25_0)) ?_
  show Go p e below T0 (mkF m 1 #[.val (.ref t), .val (.ref sa), .unset, .unset, .unset] [(.int (0 : Int32))]) _
  refine stp (fun _ => XS.istoreN X0.here hx rfl (hb hby d25_1) rfl (l' := #[.val (.ref t), .val (.ref sa), .val (.int (0 : Int32)), .unset, .unset]) rfl) ?_
  show Go p e below T0 (mkF m 2 #[.val (.ref t), .val (.ref sa), .val (.int (0 : Int32)), .unset, .unset] []) _
  refine stp (fun _ => XS.aloadN X0.here hx rfl (hb hby d25_2) rfl rfl) ?_
  show Go p e below T0 (mkF m 3 #[.val (.ref t), .val (.ref sa), .val (.int (0 : Int32)), .unset, .unset] [(.ref sa)]) _
  obtain ⟨cq1, kq1, q1a, q1b, q1c⟩ := isOf hZ e0 E_sa
  obtain ⟨_, _, ⟨T1, L1, k1, n1⟩, -, X1, ⟨Lc1, hQ1, l1, y1, z1⟩, st1⟩ := X0.interfaceBack hx (xi := (⟨"java/util/Collection", "iterator", "()Ljava/util/Iterator;"⟩ : MethodName)) (y := (⟨"java/util/HashSet", "iterator", "()Ljava/util/Iterator;"⟩ : MethodName)) hown (mvT hZ (hw _ (List.mem_of_getElem? (i := 138) rfl))) (mvT hZ (hw _ (List.mem_of_getElem? (i := 139) rfl))) (mvT hZ (hw _ (List.mem_of_getElem? (i := 140) rfl))) (mvT hZ (hw _ (List.mem_of_getElem? (i := 141) rfl))) (mvT hZ (hw _ (List.mem_of_getElem? (i := 142) rfl))) (mvT hZ (hw _ (List.mem_of_getElem? (i := 143) rfl))) (mvT hZ (hw _ (List.mem_of_getElem? (i := 144) rfl))) (mvT hZ (hw _ (List.mem_of_getElem? (i := 67) rfl))) (by decide) (backOf (W := 0) (rm_sit l Z a0 hw [] sa mp h0 n0 O0 F_sa_map E_mp F_mp_keySet F_mp_table F_mp_modCount ge_mp ne_mp_sa) hZ (hw _ (List.mem_of_getElem? (i := 145) rfl)) (hw _ (List.mem_of_getElem? (i := 5) rfl)) (by decide) (by decide)) q1a q1b q1c (g := (mkF m 3 #[.val (.ref t), .val (.ref sa), .val (.int (0 : Int32)), .unset, .unset] [(.ref sa)])) rfl (by rw [hml]; rfl) (Steps.refl _) (argsL := []) (rest := []) (lenOf pd_9 rfl) rfl (by show 2 * 0 + _ ≤ _; exact Nat.le_of_eq rfl) (hb hby d25_3) (fun _ _ => ⟨rfl, e0, (by decide : 0 + 2 ≤ _), (by decide : 0 + 6 ≤ _)⟩)
  dsimp only [Pt.U, Pt.locs, Pt.cells, Pt.slots] at X1 l1 y1 z1 st1 hQ1
  subst y1 z1
  obtain ⟨r1, rfl, N1q, K1q, ⟨ge_r1, sz1_r1⟩, r1_0, r1_1⟩ := hQ1
  have N1 : Fr n0 L1 := by rw [l1]; exact Fr.app N0 N1q
  have ne2 : mp ≠ r1 := Nat.ne_of_lt (Nat.lt_of_lt_of_le E_mp.lt sz1_r1)
  have ne3 : sa ≠ r1 := Nat.ne_of_lt (Nat.lt_of_lt_of_le E_sa.lt sz1_r1)
  have f4 := E_sa.keep K1q
  have f5 := F_sa_map.keep K1q (ninS (Ne.symm ne_mp_sa) nin0)
  have f6 := E_mp.keep K1q
  have sz_r1 : h0.size ≤ r1 := Nat.le_trans (Keep.refl h0 [mp]).1 sz1_r1
  have K1 : Keep h0 T1.heap [mp] := (Keep.refl h0 [mp]).trans K1q (allS (Or.inl (List.mem_of_getElem? (i := 0) rfl)) all0)
  have O1 := O0.keep K1q (allS ge_mp all0)
  refine stt st1 ?_
  show Go p e below T1 (mkF m 8 #[.val (.ref t), .val (.ref sa), .val (.int (0 : Int32)), .unset, .unset] [(.ref r1)]) _
  refine stp (fun _ => XS.astoreN X1.here hx rfl (hb hby d25_8) rfl rfl (l' := #[.val (.ref t), .val (.ref sa), .val (.int (0 : Int32)), .val (.ref r1), .unset]) rfl) ?_
  show Go p e below T1 (mkF m 9 #[.val (.ref t), .val (.ref sa), .val (.int (0 : Int32)), .val (.ref r1), .unset] []) _
  refine stp (fun _ => XS.aloadN X1.here hx rfl (hb hby d25_9) rfl rfl) ?_
  show Go p e below T1 (mkF m 10 #[.val (.ref t), .val (.ref sa), .val (.int (0 : Int32)), .val (.ref r1), .unset] [(.ref r1)]) _
  obtain ⟨cq7, kq7, q7a, q7b, q7c⟩ := isOf hZ rfl r1_0
  obtain ⟨_, _, ⟨T7, L7, k7, n7⟩, -, X7, ⟨Lc7, hQ7, l7, y7, z7⟩, st7⟩ := X1.interfaceBack hx (xi := (⟨"java/util/Iterator", "hasNext", "()Z"⟩ : MethodName)) (y := (⟨"java/util/HashMap$HashIterator", "hasNext", "()Z"⟩ : MethodName)) hown (mvT hZ (hw _ (List.mem_of_getElem? (i := 203) rfl))) (mvT hZ (hw _ (List.mem_of_getElem? (i := 204) rfl))) (mvT hZ (hw _ (List.mem_of_getElem? (i := 205) rfl))) (mvT hZ (hw _ (List.mem_of_getElem? (i := 206) rfl))) (mvT hZ (hw _ (List.mem_of_getElem? (i := 207) rfl))) (mvT hZ (hw _ (List.mem_of_getElem? (i := 208) rfl))) (mvT hZ (hw _ (List.mem_of_getElem? (i := 209) rfl))) (mvT hZ (hw _ (List.mem_of_getElem? (i := 210) rfl))) (by decide) (backOf (W := 0) (rm_hn l Z a0 hw [] r1  T1.heap n0 O1 r1_1) hZ (hw _ (List.mem_of_getElem? (i := 211) rfl)) (hw _ (List.mem_of_getElem? (i := 186) rfl)) (by decide) (by decide)) q7a q7b q7c (g := (mkF m 10 #[.val (.ref t), .val (.ref sa), .val (.int (0 : Int32)), .val (.ref r1), .unset] [(.ref r1)])) rfl (by rw [hml]; rfl) (Steps.refl _) (argsL := []) (rest := []) (lenOf pd_10 rfl) rfl (by show 2 * 0 + _ ≤ _; exact Nat.le_of_eq rfl) (hb hby d25_10) (fun _ _ => ⟨rfl, rfl, (by decide : 2 + 0 ≤ _), (by decide : 6 + 0 ≤ _)⟩)
  dsimp only [Pt.U, Pt.locs, Pt.cells, Pt.slots] at X7 l7 y7 z7 st7 hQ7
  subst y7 z7
  obtain ⟨rfl, N7q, e7⟩ := hQ7
  have N7 : Fr n0 L7 := by rw [l7]; exact Fr.app N1 N7q
  refine stt st7 ?_
  show Go p e below T7 (mkF m 15 #[.val (.ref t), .val (.ref sa), .val (.int (0 : Int32)), .val (.ref r1), .unset] [(.int (0 : Int32))]) _
  refine stp (fun _ => XS.ifYes X7.here hx rfl (pc0 := 15) (pc' := 40) rfl (hb hby d25_15) rfl (by decide) (by decide) (by decide)) ?_
  show Go p e below T7 (mkF m 40 #[.val (.ref t), .val (.ref sa), .val (.int (0 : Int32)), .val (.ref r1), .unset] []) _
  refine stp (fun _ => XS.iloadN X7.here hx rfl (hb hby d25_40) rfl) ?_
  show Go p e below T7 (mkF m 41 #[.val (.ref t), .val (.ref sa), .val (.int (0 : Int32)), .val (.ref r1), .unset] [(.int (0 : Int32))]) _
  refine outN X7 hx (t := .boolean) hret (by simp) (hb hby d25_41) hlk (by decide) (by decide) ?_
  rw [e7]
  exact ⟨rfl, N7, K1⟩
theorem d10_0 : decode jdk_93_method_2_code 0 = .ok (.aload_n 0, 1) := by decide +kernel
theorem d10_1 : decode jdk_93_method_2_code 1 = .ok (.invokespecial 1, 3) := by decide +kernel
theorem d10_4 : decode jdk_93_method_2_code 4 = .ok (.aload_n 0, 1) := by decide +kernel
theorem d10_5 : decode jdk_93_method_2_code 5 = .ok (.aload_n 1, 1) := by decide +kernel
theorem d10_6 : decode jdk_93_method_2_code 6 = .ok (.invokeinterface 16 1, 5) := by decide +kernel
theorem d10_11 : decode jdk_93_method_2_code 11 = .ok (.bipush 12, 2) := by decide +kernel
theorem d10_13 : decode jdk_93_method_2_code 13 = .ok (.invokestatic 22, 3) := by decide +kernel
theorem pd_11 : parseMethodDescriptor "(II)I" = some ⟨[.int, .int], some .int⟩ := by decide +kernel
theorem d10_16 : decode jdk_93_method_2_code 16 = .ok (.invokestatic 28, 3) := by decide +kernel
theorem pd_12 : parseMethodDescriptor "(I)Ljava/util/HashMap;" = some ⟨[.int], some (.object "java/util/HashMap")⟩ := by decide +kernel
theorem d10_19 : decode jdk_93_method_2_code 19 = .ok (.putfield 10, 3) := by decide +kernel
theorem d10_22 : decode jdk_93_method_2_code 22 = .ok (.aload_n 0, 1) := by decide +kernel
theorem d10_23 : decode jdk_93_method_2_code 23 = .ok (.aload_n 1, 1) := by decide +kernel
theorem d10_24 : decode jdk_93_method_2_code 24 = .ok (.invokevirtual 32, 3) := by decide +kernel
theorem pd_13 : parseMethodDescriptor "(Ljava/util/Collection;)Z" = some ⟨[(.object "java/util/Collection")], some .boolean⟩ := by decide +kernel
theorem d10_27 : decode jdk_93_method_2_code 27 = .ok (.pop, 1) := by decide +kernel
theorem d10_28 : decode jdk_93_method_2_code 28 = .ok (.return_, 1) := by decide +kernel
theorem ef_rm_hsc (m : MethodId) (t : Addr) (sa : Addr)  : entryFrame m #[(.ref t), (.ref sa)] 2 = mkF m 0 #[.val (.ref t), .val (.ref sa)] [] := by first | (simp [entryFrame, mkF, argsToLocals, Value.category]; done) | rfl
def Q_rm_hsc (Z : State) (t : Addr) (sa : Addr) (mp : Addr) (h0 : Heap) (n0 : Nat) (v : Option Value) (h : Heap) (L : List Loc) : Prop := v = none ∧ Fr n0 L ∧ Keep h0 h [t, mp] ∧ Exa Z h t "java/util/HashSet"
theorem pn_23_ : plainName "java/util/HashSet" = true := by first | (simp [plainName, overriddenIn]; done) | decide +kernel
theorem pn_23 : plainFor (⟨"java/util/HashSet", "<init>", "(Ljava/util/Collection;)V"⟩ : MethodName) = true := plainFor_of_name pn_23_
set_option maxRecDepth 65536 in
set_option maxHeartbeats 40000000 in
theorem rm_hsc (l : Launch) (Z : State) (a0 : Array Value) (hw : ∀ d ∈ tables_1, d.before a0 Z = true) (ws : List Jvm.Cond) (t : Addr) (sa : Addr) (mp : Addr) (h0 : Heap) (n0 : Nat) (O0 : Old Z n0 h0) (E_t : Exa Z h0 t "java/util/HashSet") (F_t_map : Fld Z h0 t "java/util/HashSet" "map" "Ljava/util/HashMap;" .null) (E_sa : Exa Z h0 sa "java/util/HashSet") (F_sa_map : Fld Z h0 sa "java/util/HashSet" "map" "Ljava/util/HashMap;" (.ref mp)) (E_mp : Exa Z h0 mp "java/util/HashMap") (F_mp_size : Fld Z h0 mp "java/util/HashMap" "size" "I" (.int (0 : Int32))) (F_mp_keySet : Fld Z h0 mp "java/util/AbstractMap" "keySet" "Ljava/util/Set;" .null) (F_mp_table : Fld Z h0 mp "java/util/HashMap" "table" "[Ljava/util/HashMap$Node;" .null) (F_mp_modCount : Fld Z h0 mp "java/util/HashMap" "modCount" "I" (.int (0 : Int32))) (S__assertionsDisabled : Sta Z Z.heap "java/lang/StrictMath" "$assertionsDisabled" "Z" (.int (1 : Int32))) (ge_t : n0 ≤ t) (ge_mp : n0 ≤ mp) (ne_mp_sa : mp ≠ sa) (ne_mp_t : mp ≠ t) (ne_sa_t : sa ≠ t) :
    MetFree l (⟨"java/util/HashSet", "<init>", "(Ljava/util/Collection;)V"⟩ : MethodName) (head1 (Jvm.Cond.code (⟨"java/util/HashSet", "<init>", "(Ljava/util/Collection;)V"⟩ : MethodName) jdk_93_method_2_code 2 none :: ws) ({ frames := 7, cells := 3, slots := 14, locals := 94 } : Room)) (fun args_ U => args_ = #[(.ref t), (.ref sa)] ∧ Z.Warmed39 U.vm ∧ U.heap = h0) (fun _ _ _ _ _ => True) (fun _ U out_ U' => ∃ val_ loc_, out_ = .returned val_ ∧ (Q_rm_hsc Z t sa mp h0 n0) val_ U'.heap loc_ ∧ FrameEnd U out_ U' loc_ ({ frames := 7, cells := 3, slots := 14, locals := 94 } : Room).cells ({ frames := 7, cells := 3, slots := 14, locals := 94 } : Room).slots) := by
  refine start (Q := (Q_rm_hsc Z t sa mp h0 n0)) pn_23 ?_
  intro p e s m below meth c T0 X0 hx hby hml hown hnm hret hlk hZ e0
  replace hown : s.vm.findClass "java/util/HashSet" = some m.cls := hown
  replace hml : c.maxLocals = 2 := hml
  refine goAt (ef_rm_hsc m t sa ) ?_
  have N0 := Fr.nil n0
  show Go p e below T0 (mkF m 0 #[.val (.ref t), .val (.ref sa)] []) _
  refine stp (fun _ => XS.aloadN X0.here hx rfl (hb hby d10_0) rfl rfl) ?_
  show Go p e below T0 (mkF m 1 #[.val (.ref t), .val (.ref sa)] [(.ref t)]) _
  obtain ⟨_, _, ⟨T1, L1, k1, n1⟩, -, X1, ⟨Lc1, hQ1, l1, y1, z1⟩, st1⟩ := X0.specialBack hx (y := (⟨"java/util/AbstractSet", "<init>", "()V"⟩ : MethodName)) rfl hown (mvT hZ (hw _ (List.mem_of_getElem? (i := 9) rfl))) (mvT hZ (hw _ (List.mem_of_getElem? (i := 10) rfl))) (mvT hZ (hw _ (List.mem_of_getElem? (i := 14) rfl))) (by decide) (backOf (W := 0) (rm_as l Z a0 hw [] t  h0 n0 O0 ) hZ (hw _ (List.mem_of_getElem? (i := 14) rfl)) (hw _ (List.mem_of_getElem? (i := 13) rfl)) (by decide) (by decide)) (g := (mkF m 1 #[.val (.ref t), .val (.ref sa)] [(.ref t)])) rfl (by rw [hml]; rfl) (Steps.refl _) (a := t) (argsL := []) (rest := []) (lenOf pd_0 rfl) rfl (by show 2 * 0 + _ ≤ _; exact Nat.le_of_eq rfl) (hb hby d10_1) (fun _ _ => ⟨rfl, e0, (by decide : 0 + 0 ≤ _), (by decide : 0 + 0 ≤ _)⟩)
  dsimp only [Pt.U, Pt.locs, Pt.cells, Pt.slots] at X1 l1 y1 z1 st1 hQ1
  subst y1 z1
  obtain ⟨rfl, N1q, e1⟩ := hQ1
  have N1 : Fr n0 L1 := by rw [l1]; exact Fr.app N0 N1q
  refine stt st1 ?_
  show Go p e below T1 (mkF m 4 #[.val (.ref t), .val (.ref sa)] []) _
  refine stp (fun _ => XS.aloadN X1.here hx rfl (hb hby d10_4) rfl rfl) ?_
  show Go p e below T1 (mkF m 5 #[.val (.ref t), .val (.ref sa)] [(.ref t)]) _
  refine stp (fun _ => XS.aloadN X1.here hx rfl (hb hby d10_5) rfl rfl) ?_
  show Go p e below T1 (mkF m 6 #[.val (.ref t), .val (.ref sa)] [(.ref sa), (.ref t)]) _
  obtain ⟨cq2, kq2, q2a, q2b, q2c⟩ := isOf hZ e1 E_sa
  obtain ⟨_, _, ⟨T2, L2, k2, n2⟩, -, X2, ⟨Lc2, hQ2, l2, y2, z2⟩, st2⟩ := X1.interfaceBack hx (xi := (⟨"java/util/Collection", "size", "()I"⟩ : MethodName)) (y := (⟨"java/util/HashSet", "size", "()I"⟩ : MethodName)) hown (mvT hZ (hw _ (List.mem_of_getElem? (i := 60) rfl))) (mvT hZ (hw _ (List.mem_of_getElem? (i := 61) rfl))) (mvT hZ (hw _ (List.mem_of_getElem? (i := 62) rfl))) (mvT hZ (hw _ (List.mem_of_getElem? (i := 63) rfl))) (mvT hZ (hw _ (List.mem_of_getElem? (i := 64) rfl))) (mvT hZ (hw _ (List.mem_of_getElem? (i := 65) rfl))) (mvT hZ (hw _ (List.mem_of_getElem? (i := 66) rfl))) (mvT hZ (hw _ (List.mem_of_getElem? (i := 67) rfl))) (by decide) (backOf (W := 1) (rm_ssz l Z a0 hw [] sa mp h0 n0 O0 F_sa_map E_mp F_mp_size) hZ (hw _ (List.mem_of_getElem? (i := 68) rfl)) (hw _ (List.mem_of_getElem? (i := 5) rfl)) (by decide) (by decide)) q2a q2b q2c (g := (mkF m 6 #[.val (.ref t), .val (.ref sa)] [(.ref sa), (.ref t)])) rfl (by rw [hml]; rfl) (Steps.refl _) (argsL := []) (rest := [(.ref t)]) (lenOf pd_1 rfl) rfl (by show 2 * 0 + _ ≤ _; exact Nat.le_of_eq rfl) (hb hby d10_6) (fun _ _ => ⟨rfl, e1, (by decide : 0 + 0 ≤ _), (by decide : 0 + 0 ≤ _)⟩)
  dsimp only [Pt.U, Pt.locs, Pt.cells, Pt.slots] at X2 l2 y2 z2 st2 hQ2
  subst y2 z2
  obtain ⟨rfl, N2q, e2⟩ := hQ2
  have N2 : Fr n0 L2 := by rw [l2]; exact Fr.app N1 N2q
  refine stt st2 ?_
  show Go p e below T2 (mkF m 11 #[.val (.ref t), .val (.ref sa)] [(.int (0 : Int32)), (.ref t)]) _
  refine stp (fun _ => XS.bipush X2.here hx rfl (hb hby d10_11)) ?_
  show Go p e below T2 (mkF m 13 #[.val (.ref t), .val (.ref sa)] [(.int (12 : Int32)), (.int (0 : Int32)), (.ref t)]) _
  obtain ⟨_, _, ⟨T3, L3, k3, n3⟩, -, X3, ⟨Lc3, hQ3, l3, y3, z3⟩, st3⟩ := Jvm.LawKit.callS X2 hx (y := (⟨"java/lang/Math", "max", "(II)I"⟩ : MethodName)) hown (mvT hZ (hw _ (List.mem_of_getElem? (i := 76) rfl))) (mvT hZ (hw _ (List.mem_of_getElem? (i := 77) rfl))) (mvT hZ (hw _ (List.mem_of_getElem? (i := 78) rfl))) (mvT hZ (hw _ (List.mem_of_getElem? (i := 79) rfl))) (by decide) (backOf (W := 1) (rm_max l Z a0 hw []   h0 n0 O0 ) hZ (hw _ (List.mem_of_getElem? (i := 79) rfl)) (hw _ (List.mem_of_getElem? (i := 78) rfl)) (by decide) (by decide)) (g := (mkF m 13 #[.val (.ref t), .val (.ref sa)] [(.int (12 : Int32)), (.int (0 : Int32)), (.ref t)])) rfl (by rw [hml]; rfl) (argsL := [(.int (0 : Int32)), (.int (12 : Int32))]) (rest := [(.ref t)]) (lenOf pd_11 rfl) rfl (by show 2 * 0 + _ ≤ _; exact Nat.le_of_eq rfl) (hb hby d10_13) (fun _ _ => ⟨rfl, e2, (by decide : 0 + 0 ≤ _), (by decide : 0 + 0 ≤ _)⟩)
  dsimp only [Pt.U, Pt.locs, Pt.cells, Pt.slots] at X3 l3 y3 z3 st3 hQ3
  subst y3 z3
  obtain ⟨rfl, N3q, e3⟩ := hQ3
  have N3 : Fr n0 L3 := by rw [l3]; exact Fr.app N2 N3q
  refine stp st3 ?_
  show Go p e below T3 (mkF m 16 #[.val (.ref t), .val (.ref sa)] [(.int (12 : Int32)), (.ref t)]) _
  obtain ⟨_, _, ⟨T4, L4, k4, n4⟩, -, X4, ⟨Lc4, hQ4, l4, y4, z4⟩, st4⟩ := Jvm.LawKit.callS X3 hx (y := (⟨"java/util/HashMap", "newHashMap", "(I)Ljava/util/HashMap;"⟩ : MethodName)) hown (mvT hZ (hw _ (List.mem_of_getElem? (i := 80) rfl))) (mvT hZ (hw _ (List.mem_of_getElem? (i := 81) rfl))) (mvT hZ (hw _ (List.mem_of_getElem? (i := 26) rfl))) (mvT hZ (hw _ (List.mem_of_getElem? (i := 82) rfl))) (by decide) (backOf (W := 1) (rm_nhm l Z a0 hw []   h0 n0 O0 S__assertionsDisabled) hZ (hw _ (List.mem_of_getElem? (i := 82) rfl)) (hw _ (List.mem_of_getElem? (i := 26) rfl)) (by decide) (by decide)) (g := (mkF m 16 #[.val (.ref t), .val (.ref sa)] [(.int (12 : Int32)), (.ref t)])) rfl (by rw [hml]; rfl) (argsL := [(.int (12 : Int32))]) (rest := [(.ref t)]) (lenOf pd_12 rfl) rfl (by show 2 * 0 + _ ≤ _; exact Nat.le_of_eq rfl) (hb hby d10_16) (fun _ _ => ⟨rfl, e3, (by decide : 0 + 1 ≤ _), (by decide : 0 + 8 ≤ _)⟩)
  dsimp only [Pt.U, Pt.locs, Pt.cells, Pt.slots] at X4 l4 y4 z4 st4 hQ4
  subst y4 z4
  obtain ⟨r4, rfl, N4q, K4q, ⟨ge_r4, sz4_r4⟩, r4_0⟩ := hQ4
  have N4 : Fr n0 L4 := by rw [l4]; exact Fr.app N3 N4q
  have ne5 : mp ≠ r4 := Nat.ne_of_lt (Nat.lt_of_lt_of_le E_mp.lt sz4_r4)
  have ne6 : sa ≠ r4 := Nat.ne_of_lt (Nat.lt_of_lt_of_le E_sa.lt sz4_r4)
  have ne7 : t ≠ r4 := Nat.ne_of_lt (Nat.lt_of_lt_of_le E_t.lt sz4_r4)
  have f8 := E_t.keep K4q
  have f9 := F_t_map.keep K4q nin0
  have f10 := E_sa.keep K4q
  have f11 := F_sa_map.keep K4q nin0
  have f12 := E_mp.keep K4q
  have f13 := F_mp_size.keep K4q nin0
  have f14 := F_mp_keySet.keep K4q nin0
  have f15 := F_mp_table.keep K4q nin0
  have f16 := F_mp_modCount.keep K4q nin0
  have sz_r4 : h0.size ≤ r4 := Nat.le_trans (Keep.refl h0 [t, mp]).1 sz4_r4
  have K4 : Keep h0 T4.heap [t, mp] := (Keep.refl h0 [t, mp]).trans K4q all0
  have O4 := O0.keep K4q all0
  refine stp st4 ?_
  show Go p e below T4 (mkF m 19 #[.val (.ref t), .val (.ref sa)] [(.ref r4), (.ref t)]) _
  obtain ⟨T17, h17, X17, e17, W17, st17⟩ := putF X4 hx hZ hown (host := "") (Or.inl (hw _ (List.mem_of_getElem? (i := 41) rfl))) Via.refl rfl f9 f8 (Or.inl (hw _ (List.mem_of_getElem? (i := 42) rfl))) (hw _ (List.mem_of_getElem? (i := 4) rfl)) (ty := (.object "java/util/HashMap")) (by decide) rfl rfl (g := (mkF m 19 #[.val (.ref t), .val (.ref sa)] [(.ref r4), (.ref t)])) rfl rfl (hb hby d10_19)
  have Fw17 := f9.same W17
  have f18 := f8.wr W17
  have f20 := f10.wr W17
  have f21 := f11.other W17 (Or.inl ne_sa_t)
  have f22 := f12.wr W17
  have f23 := f13.other W17 (Or.inl ne_mp_t)
  have f24 := f14.other W17 (Or.inl ne_mp_t)
  have f25 := f15.other W17 (Or.inl ne_mp_t)
  have f26 := f16.other W17 (Or.inl ne_mp_t)
  have f27 := r4_0.wr W17
  have K17 : Keep h0 h17 [t, mp] := K4.wr W17 (Or.inl (List.mem_of_getElem? (i := 0) rfl))
  have O17 := O4.wr W17 ge_t
  have N17 := Fr.snoc X17 N4 ge_t
  refine stp st17 ?_
  show Go p e below T17 (mkF m 22 #[.val (.ref t), .val (.ref sa)] []) _
  refine stp (fun _ => XS.aloadN X17.here hx rfl (hb hby d10_22) rfl rfl) ?_
  show Go p e below T17 (mkF m 23 #[.val (.ref t), .val (.ref sa)] [(.ref t)]) _
  refine stp (fun _ => XS.aloadN X17.here hx rfl (hb hby d10_23) rfl rfl) ?_
  show Go p e below T17 (mkF m 24 #[.val (.ref t), .val (.ref sa)] [(.ref sa), (.ref t)]) _
  obtain ⟨cq28, kq28, q28a, q28b, q28c⟩ := isOf hZ e17 f18
  obtain ⟨_, _, ⟨T28, L28, k28, n28⟩, -, X28, ⟨Lc28, hQ28, l28, y28, z28⟩, st28⟩ := X17.virtualBackUp hx (x := (⟨"java/util/HashSet", "addAll", "(Ljava/util/Collection;)Z"⟩ : MethodName)) (y := (⟨"java/util/AbstractCollection", "addAll", "(Ljava/util/Collection;)Z"⟩ : MethodName)) (owner := "java/util/AbstractCollection") hown (mvT hZ (hw _ (List.mem_of_getElem? (i := 132) rfl))) (mvT hZ (hw _ (List.mem_of_getElem? (i := 133) rfl))) (mvT hZ (hw _ (List.mem_of_getElem? (i := 134) rfl))) (by decide) (mvT hZ (hw _ (List.mem_of_getElem? (i := 136) rfl))) (mvT hZ (hw _ (List.mem_of_getElem? (i := 135) rfl))) (backOf (W := 0) (rm_aa l Z a0 hw [] t sa mp h17 n0 O17 f20 f21 f22 f24 f25 f26 ge_mp ne_mp_sa) hZ (hw _ (List.mem_of_getElem? (i := 137) rfl)) (hw _ (List.mem_of_getElem? (i := 19) rfl)) (by decide) (by decide)) q28a q28c (g := (mkF m 24 #[.val (.ref t), .val (.ref sa)] [(.ref sa), (.ref t)])) rfl (by rw [hml]; rfl) (Steps.refl _) (argsL := [(.ref sa)]) (rest := []) (lenOf pd_13 rfl) rfl (by show 2 * 0 + _ ≤ _; exact Nat.le_of_eq rfl) (hb hby d10_24) (fun _ _ => ⟨rfl, e17, (by decide : 1 + 2 ≤ _), (by decide : 8 + 6 ≤ _)⟩)
  dsimp only [Pt.U, Pt.locs, Pt.cells, Pt.slots] at X28 l28 y28 z28 st28 hQ28
  subst y28 z28
  obtain ⟨rfl, N28q, K28q⟩ := hQ28
  have N28 : Fr n0 L28 := by rw [l28]; exact Fr.app N17 N28q
  have f29 := f18.keep K28q
  have f30 := Fw17.keep K28q (ninS (Ne.symm ne_mp_t) nin0)
  have f31 := f20.keep K28q
  have f32 := f21.keep K28q (ninS (Ne.symm ne_mp_sa) nin0)
  have f33 := f22.keep K28q
  have f34 := f27.keep K28q
  have K28 : Keep h0 T28.heap [t, mp] := K17.trans K28q (allS (Or.inl (List.mem_of_getElem? (i := 1) rfl)) all0)
  have O28 := O17.keep K28q (allS ge_mp all0)
  refine stt st28 ?_
  show Go p e below T28 (mkF m 27 #[.val (.ref t), .val (.ref sa)] [(.int (0 : Int32))]) _
  refine stp (fun _ => XS.pop X28.here hx rfl (hb hby d10_27) rfl rfl) ?_
  show Go p e below T28 (mkF m 28 #[.val (.ref t), .val (.ref sa)] []) _
  refine outV X28 hx hret (hb hby d10_28) hlk (by decide) (by decide) ?_
  exact ⟨rfl, N28, K28, f29⟩
theorem d35_0 : decode jdk_119_method_1_code 0 = .ok (.aload_n 0, 1) := by decide +kernel
theorem d35_1 : decode jdk_119_method_1_code 1 = .ok (.invokespecial 1, 3) := by decide +kernel
theorem d35_4 : decode jdk_119_method_1_code 4 = .ok (.aload_n 1, 1) := by decide +kernel
theorem d35_5 : decode jdk_119_method_1_code 5 = .ok (.ifnonnull 11, 3) := by decide +kernel
theorem d35_16 : decode jdk_119_method_1_code 16 = .ok (.aload_n 0, 1) := by decide +kernel
theorem d35_17 : decode jdk_119_method_1_code 17 = .ok (.aload_n 1, 1) := by decide +kernel
theorem d35_18 : decode jdk_119_method_1_code 18 = .ok (.putfield 10, 3) := by decide +kernel
theorem d35_21 : decode jdk_119_method_1_code 21 = .ok (.return_, 1) := by decide +kernel
theorem ef_rm_uci (m : MethodId) (t : Addr) (sa : Addr)  : entryFrame m #[(.ref t), (.ref sa)] 2 = mkF m 0 #[.val (.ref t), .val (.ref sa)] [] := by first | (simp [entryFrame, mkF, argsToLocals, Value.category]; done) | rfl
def Q_rm_uci (Z : State) (t : Addr) (sa : Addr)  (h0 : Heap) (n0 : Nat) (v : Option Value) (h : Heap) (L : List Loc) : Prop := v = none ∧ Fr n0 L ∧ Keep h0 h [t] ∧ Exa Z h t "java/util/Collections$UnmodifiableSet"
theorem pn_24_ : plainName "java/util/Collections$UnmodifiableCollection" = true := by first | (simp [plainName, overriddenIn]; done) | decide +kernel
theorem pn_24 : plainFor (⟨"java/util/Collections$UnmodifiableCollection", "<init>", "(Ljava/util/Collection;)V"⟩ : MethodName) = true := plainFor_of_name pn_24_
set_option maxRecDepth 65536 in
set_option maxHeartbeats 40000000 in
theorem rm_uci (l : Launch) (Z : State) (a0 : Array Value) (hw : ∀ d ∈ tables_1, d.before a0 Z = true) (ws : List Jvm.Cond) (t : Addr) (sa : Addr)  (h0 : Heap) (n0 : Nat) (O0 : Old Z n0 h0) (E_t : Exa Z h0 t "java/util/Collections$UnmodifiableSet") (F_t_c : Fld Z h0 t "java/util/Collections$UnmodifiableCollection" "c" "Ljava/util/Collection;" .null) (ge_t : n0 ≤ t) :
    MetFree l (⟨"java/util/Collections$UnmodifiableCollection", "<init>", "(Ljava/util/Collection;)V"⟩ : MethodName) (head1 (Jvm.Cond.code (⟨"java/util/Collections$UnmodifiableCollection", "<init>", "(Ljava/util/Collection;)V"⟩ : MethodName) jdk_119_method_1_code 2 none :: ws) ({ frames := 1, cells := 0, slots := 0, locals := 12 } : Room)) (fun args_ U => args_ = #[(.ref t), (.ref sa)] ∧ Z.Warmed39 U.vm ∧ U.heap = h0) (fun _ _ _ _ _ => True) (fun _ U out_ U' => ∃ val_ loc_, out_ = .returned val_ ∧ (Q_rm_uci Z t sa h0 n0) val_ U'.heap loc_ ∧ FrameEnd U out_ U' loc_ ({ frames := 1, cells := 0, slots := 0, locals := 12 } : Room).cells ({ frames := 1, cells := 0, slots := 0, locals := 12 } : Room).slots) := by
  refine start (Q := (Q_rm_uci Z t sa h0 n0)) pn_24 ?_
  intro p e s m below meth c T0 X0 hx hby hml hown hnm hret hlk hZ e0
  replace hown : s.vm.findClass "java/util/Collections$UnmodifiableCollection" = some m.cls := hown
  replace hml : c.maxLocals = 2 := hml
  refine goAt (ef_rm_uci m t sa ) ?_
  have N0 := Fr.nil n0
  show Go p e below T0 (mkF m 0 #[.val (.ref t), .val (.ref sa)] []) _
  refine stp (fun _ => XS.aloadN X0.here hx rfl (hb hby d35_0) rfl rfl) ?_
  show Go p e below T0 (mkF m 1 #[.val (.ref t), .val (.ref sa)] [(.ref t)]) _
  obtain ⟨T1, X1, e1, st1⟩ := initO X0 hx hZ hown (hw _ (List.mem_of_getElem? (i := 239) rfl)) (hw _ (List.mem_of_getElem? (i := 22) rfl)) (hw _ (List.mem_of_getElem? (i := 23) rfl)) e0 (g := (mkF m 1 #[.val (.ref t), .val (.ref sa)] [(.ref t)])) rfl (by rw [hml]; rfl) rfl (hb hby d35_1) (by decide) (W := 0) (by show 2 * 0 + _ ≤ _; exact Nat.le_of_eq rfl) (by decide)
  refine stp st1 ?_
  show Go p e below T1 (mkF m 4 #[.val (.ref t), .val (.ref sa)] []) _
  refine stp (fun _ => XS.aloadN X1.here hx rfl (hb hby d35_4) rfl rfl) ?_
  show Go p e below T1 (mkF m 5 #[.val (.ref t), .val (.ref sa)] [(.ref sa)]) _
  refine stp (fun _ => XS.ifnonnullYes X1.here hx rfl (pc0 := 5) (pc' := 16) rfl (hb hby d35_5) rfl (by decide) (by decide)) ?_
  show Go p e below T1 (mkF m 16 #[.val (.ref t), .val (.ref sa)] []) _
  refine stp (fun _ => XS.aloadN X1.here hx rfl (hb hby d35_16) rfl rfl) ?_
  show Go p e below T1 (mkF m 17 #[.val (.ref t), .val (.ref sa)] [(.ref t)]) _
  refine stp (fun _ => XS.aloadN X1.here hx rfl (hb hby d35_17) rfl rfl) ?_
  show Go p e below T1 (mkF m 18 #[.val (.ref t), .val (.ref sa)] [(.ref sa), (.ref t)]) _
  obtain ⟨T2, h2, X2, e2, W2, st2⟩ := putF X1 hx hZ hown (host := "") (Or.inl (hw _ (List.mem_of_getElem? (i := 240) rfl))) Via.refl e1 F_t_c E_t (Or.inr ⟨(hw _ (List.mem_of_getElem? (i := 241) rfl)), rfl, hnm⟩) (hw _ (List.mem_of_getElem? (i := 228) rfl)) (ty := (.object "java/util/Collection")) (by decide) rfl rfl (g := (mkF m 18 #[.val (.ref t), .val (.ref sa)] [(.ref sa), (.ref t)])) rfl rfl (hb hby d35_18)
  have Fw2 := F_t_c.same W2
  have f3 := E_t.wr W2
  have K2 : Keep h0 h2 [t] := (Keep.refl h0 [t]).wr W2 (Or.inl (List.mem_of_getElem? (i := 0) rfl))
  have O2 := O0.wr W2 ge_t
  have N2 := Fr.snoc X2 N0 ge_t
  refine stp st2 ?_
  show Go p e below T2 (mkF m 21 #[.val (.ref t), .val (.ref sa)] []) _
  refine outV X2 hx hret (hb hby d35_21) hlk (by decide) (by decide) ?_
  rw [e2]
  exact ⟨rfl, N2, K2, f3⟩
theorem d34_0 : decode jdk_122_method_1_code 0 = .ok (.aload_n 0, 1) := by decide +kernel
theorem d34_1 : decode jdk_122_method_1_code 1 = .ok (.aload_n 1, 1) := by decide +kernel
theorem d34_2 : decode jdk_122_method_1_code 2 = .ok (.invokespecial 1, 3) := by decide +kernel
theorem pd_14 : parseMethodDescriptor "(Ljava/util/Collection;)V" = some ⟨[(.object "java/util/Collection")], none⟩ := by decide +kernel
theorem d34_5 : decode jdk_122_method_1_code 5 = .ok (.return_, 1) := by decide +kernel
theorem ef_rm_usi (m : MethodId) (t : Addr) (sa : Addr)  : entryFrame m #[(.ref t), (.ref sa)] 2 = mkF m 0 #[.val (.ref t), .val (.ref sa)] [] := by first | (simp [entryFrame, mkF, argsToLocals, Value.category]; done) | rfl
def Q_rm_usi (Z : State) (t : Addr) (sa : Addr)  (h0 : Heap) (n0 : Nat) (v : Option Value) (h : Heap) (L : List Loc) : Prop := v = none ∧ Fr n0 L ∧ Keep h0 h [t] ∧ Exa Z h t "java/util/Collections$UnmodifiableSet"
theorem pn_25_ : plainName "java/util/Collections$UnmodifiableSet" = true := by first | (simp [plainName, overriddenIn]; done) | decide +kernel
theorem pn_25 : plainFor (⟨"java/util/Collections$UnmodifiableSet", "<init>", "(Ljava/util/Set;)V"⟩ : MethodName) = true := plainFor_of_name pn_25_
set_option maxRecDepth 65536 in
set_option maxHeartbeats 40000000 in
theorem rm_usi (l : Launch) (Z : State) (a0 : Array Value) (hw : ∀ d ∈ tables_1, d.before a0 Z = true) (ws : List Jvm.Cond) (t : Addr) (sa : Addr)  (h0 : Heap) (n0 : Nat) (O0 : Old Z n0 h0) (E_t : Exa Z h0 t "java/util/Collections$UnmodifiableSet") (F_t_c : Fld Z h0 t "java/util/Collections$UnmodifiableCollection" "c" "Ljava/util/Collection;" .null) (ge_t : n0 ≤ t) :
    MetFree l (⟨"java/util/Collections$UnmodifiableSet", "<init>", "(Ljava/util/Set;)V"⟩ : MethodName) (head1 (Jvm.Cond.code (⟨"java/util/Collections$UnmodifiableSet", "<init>", "(Ljava/util/Set;)V"⟩ : MethodName) jdk_122_method_1_code 2 none :: ws) ({ frames := 2, cells := 0, slots := 0, locals := 25 } : Room)) (fun args_ U => args_ = #[(.ref t), (.ref sa)] ∧ Z.Warmed39 U.vm ∧ U.heap = h0) (fun _ _ _ _ _ => True) (fun _ U out_ U' => ∃ val_ loc_, out_ = .returned val_ ∧ (Q_rm_usi Z t sa h0 n0) val_ U'.heap loc_ ∧ FrameEnd U out_ U' loc_ ({ frames := 2, cells := 0, slots := 0, locals := 25 } : Room).cells ({ frames := 2, cells := 0, slots := 0, locals := 25 } : Room).slots) := by
  refine start (Q := (Q_rm_usi Z t sa h0 n0)) pn_25 ?_
  intro p e s m below meth c T0 X0 hx hby hml hown hnm hret hlk hZ e0
  replace hown : s.vm.findClass "java/util/Collections$UnmodifiableSet" = some m.cls := hown
  replace hml : c.maxLocals = 2 := hml
  refine goAt (ef_rm_usi m t sa ) ?_
  have N0 := Fr.nil n0
  show Go p e below T0 (mkF m 0 #[.val (.ref t), .val (.ref sa)] []) _
  refine stp (fun _ => XS.aloadN X0.here hx rfl (hb hby d34_0) rfl rfl) ?_
  show Go p e below T0 (mkF m 1 #[.val (.ref t), .val (.ref sa)] [(.ref t)]) _
  refine stp (fun _ => XS.aloadN X0.here hx rfl (hb hby d34_1) rfl rfl) ?_
  show Go p e below T0 (mkF m 2 #[.val (.ref t), .val (.ref sa)] [(.ref sa), (.ref t)]) _
  obtain ⟨_, _, ⟨T1, L1, k1, n1⟩, -, X1, ⟨Lc1, hQ1, l1, y1, z1⟩, st1⟩ := X0.specialBack hx (y := (⟨"java/util/Collections$UnmodifiableCollection", "<init>", "(Ljava/util/Collection;)V"⟩ : MethodName)) rfl hown (mvT hZ (hw _ (List.mem_of_getElem? (i := 233) rfl))) (mvT hZ (hw _ (List.mem_of_getElem? (i := 234) rfl))) (mvT hZ (hw _ (List.mem_of_getElem? (i := 238) rfl))) (by decide) (backOf (W := 0) (rm_uci l Z a0 hw [] t sa  h0 n0 O0 E_t F_t_c ge_t) hZ (hw _ (List.mem_of_getElem? (i := 238) rfl)) (hw _ (List.mem_of_getElem? (i := 237) rfl)) (by decide) (by decide)) (g := (mkF m 2 #[.val (.ref t), .val (.ref sa)] [(.ref sa), (.ref t)])) rfl (by rw [hml]; rfl) (Steps.refl _) (a := t) (argsL := [(.ref sa)]) (rest := []) (lenOf pd_14 rfl) rfl (by show 2 * 0 + _ ≤ _; exact Nat.le_of_eq rfl) (hb hby d34_2) (fun _ _ => ⟨rfl, e0, (by decide : 0 + 0 ≤ _), (by decide : 0 + 0 ≤ _)⟩)
  dsimp only [Pt.U, Pt.locs, Pt.cells, Pt.slots] at X1 l1 y1 z1 st1 hQ1
  subst y1 z1
  obtain ⟨rfl, N1q, K1q, r1_0⟩ := hQ1
  have N1 : Fr n0 L1 := by rw [l1]; exact Fr.app N0 N1q
  have f2 := E_t.keep K1q
  have K1 : Keep h0 T1.heap [t] := (Keep.refl h0 [t]).trans K1q (allS (Or.inl (List.mem_of_getElem? (i := 0) rfl)) all0)
  have O1 := O0.keep K1q (allS ge_t all0)
  refine stt st1 ?_
  show Go p e below T1 (mkF m 5 #[.val (.ref t), .val (.ref sa)] []) _
  refine outV X1 hx hret (hb hby d34_5) hlk (by decide) (by decide) ?_
  exact ⟨rfl, N1, K1, r1_0⟩
theorem d33_0 : decode jdk_79_method_31_code 0 = .ok (.aload_n 0, 1) := by decide +kernel
theorem d33_1 : decode jdk_79_method_31_code 1 = .ok (.invokeinterface 179 1, 5) := by decide +kernel
theorem d33_6 : decode jdk_79_method_31_code 6 = .ok (.ldc 182, 2) := by decide +kernel
theorem d33_8 : decode jdk_79_method_31_code 8 = .ok (.if_acmp .ne 5, 3) := by decide +kernel
theorem d33_11 : decode jdk_79_method_31_code 11 = .ok (.aload_n 0, 1) := by decide +kernel
theorem d33_12 : decode jdk_79_method_31_code 12 = .ok (.areturn, 1) := by decide +kernel
theorem d33_13 : decode jdk_79_method_31_code 13 = .ok (.new 182, 3) := by decide +kernel
theorem d33_16 : decode jdk_79_method_31_code 16 = .ok (.dup, 1) := by decide +kernel
theorem d33_17 : decode jdk_79_method_31_code 17 = .ok (.aload_n 0, 1) := by decide +kernel
theorem d33_18 : decode jdk_79_method_31_code 18 = .ok (.invokespecial 184, 3) := by decide +kernel
theorem pd_15 : parseMethodDescriptor "(Ljava/util/Set;)V" = some ⟨[(.object "java/util/Set")], none⟩ := by decide +kernel
theorem d33_21 : decode jdk_79_method_31_code 21 = .ok (.areturn, 1) := by decide +kernel
theorem ef_rm_uns (m : MethodId) (la : Addr)  : entryFrame m #[(.ref la)] 1 = mkF m 0 #[.val (.ref la)] [] := by first | (simp [entryFrame, mkF, argsToLocals, Value.category]; done) | rfl
def Q_rm_uns (Z : State) (la : Addr) (mA : Addr) (mS : Addr) (h0 : Heap) (n0 : Nat) (v : Option Value) (h : Heap) (L : List Loc) : Prop := ∃ (r : Addr), v = some (.ref r) ∧ Fr n0 L ∧ Keep h0 h []
theorem pn_26_ : plainName "java/util/Collections" = true := by first | (simp [plainName, overriddenIn]; done) | decide +kernel
theorem pn_26 : plainFor (⟨"java/util/Collections", "unmodifiableSet", "(Ljava/util/Set;)Ljava/util/Set;"⟩ : MethodName) = true := plainFor_of_name pn_26_
set_option maxRecDepth 65536 in
set_option maxHeartbeats 40000000 in
theorem rm_uns (l : Launch) (Z : State) (a0 : Array Value) (hw : ∀ d ∈ tables_1, d.before a0 Z = true) (ws : List Jvm.Cond) (la : Addr) (mA : Addr) (mS : Addr) (h0 : Heap) (n0 : Nat) (O0 : Old Z n0 h0) (E_la : Exa Z h0 la "java/util/HashSet") (hmA : OwMir Z "java/util/HashSet" mA) (hmS : OwMir Z "java/util/Collections$UnmodifiableSet" mS) :
    MetFree l (⟨"java/util/Collections", "unmodifiableSet", "(Ljava/util/Set;)Ljava/util/Set;"⟩ : MethodName) (head1 (Jvm.Cond.code (⟨"java/util/Collections", "unmodifiableSet", "(Ljava/util/Set;)Ljava/util/Set;"⟩ : MethodName) jdk_79_method_31_code 1 (some (.object "java/util/Set")) :: ws) ({ frames := 3, cells := 1, slots := 1, locals := 39 } : Room)) (fun args_ U => args_ = #[(.ref la)] ∧ Z.Warmed39 U.vm ∧ U.heap = h0) (fun _ _ _ _ _ => True) (fun _ U out_ U' => ∃ val_ loc_, out_ = .returned val_ ∧ (Q_rm_uns Z la mA mS h0 n0) val_ U'.heap loc_ ∧ FrameEnd U out_ U' loc_ ({ frames := 3, cells := 1, slots := 1, locals := 39 } : Room).cells ({ frames := 3, cells := 1, slots := 1, locals := 39 } : Room).slots) := by
  refine start (Q := (Q_rm_uns Z la mA mS h0 n0)) pn_26 ?_
  intro p e s m below meth c T0 X0 hx hby hml hown hnm hret hlk hZ e0
  replace hown : s.vm.findClass "java/util/Collections" = some m.cls := hown
  replace hml : c.maxLocals = 1 := hml
  refine goAt (ef_rm_uns m la ) ?_
  have N0 := Fr.nil n0
  show Go p e below T0 (mkF m 0 #[.val (.ref la)] []) _
  refine stp (fun _ => XS.aloadN X0.here hx rfl (hb hby d33_0) rfl rfl) ?_
  show Go p e below T0 (mkF m 1 #[.val (.ref la)] [(.ref la)]) _
  obtain ⟨T1, X1, e1, st1⟩ := own_gci X0 hx hZ (xi := (⟨"java/util/Set", "getClass", "()Ljava/lang/Class;"⟩ : MethodName)) hown (mvT hZ (hw _ (List.mem_of_getElem? (i := 216) rfl))) (mvT hZ (hw _ (List.mem_of_getElem? (i := 217) rfl))) (Jvm.Free.ULB.iface_rides hZ.alike (hw _ (List.mem_of_getElem? (i := 218) rfl))) (mvT hZ (hw _ (List.mem_of_getElem? (i := 219) rfl))) (mvT hZ (hw _ (List.mem_of_getElem? (i := 220) rfl))) (mvT hZ (hw _ (List.mem_of_getElem? (i := 221) rfl))) (mvT hZ (hw _ (List.mem_of_getElem? (i := 222) rfl))) (mvT hZ (hw _ (List.mem_of_getElem? (i := 223) rfl))) (mvT hZ (hw _ (List.mem_of_getElem? (i := 224) rfl))) (by decide) (by decide) rfl rfl e0 E_la hmA (g := (mkF m 1 #[.val (.ref la)] [(.ref la)])) rfl (by rw [hml]; rfl) rfl (hb hby d33_1) (by decide) (W := 0) (by show 2 * 0 + _ ≤ _; exact Nat.le_of_eq rfl) (by decide)
  refine stp st1 ?_
  show Go p e below T1 (mkF m 6 #[.val (.ref la)] [(.ref mA)]) _
  obtain ⟨T2, X2, e2, st2⟩ := own_ldcm X1 hx hZ hown (hw _ (List.mem_of_getElem? (i := 226) rfl)) hmS e1 (g := (mkF m 6 #[.val (.ref la)] [(.ref mA)])) rfl (hb hby d33_6)
  refine stp st2 ?_
  show Go p e below T2 (mkF m 8 #[.val (.ref la)] [(.ref mS), (.ref mA)]) _
  by_cases q8_3 : mA = mS
  · refine stp (fun _ => Jvm.RoadKit.acmp (g := (mkF m 8 #[.val (.ref la)] [(.ref mS), (.ref mA)])) X2 hx rfl rfl rfl (pc0 := 8) (pc' := 11) (same := true) rfl (hb hby d33_8) rfl (decide_eq_true (congrArg Value.ref q8_3)) (by decide) (by decide)) ?_
    show Go p e below T2 (mkF m 11 #[.val (.ref la)] []) _
    refine stp (fun _ => XS.aloadN X2.here hx rfl (hb hby d33_11) rfl rfl) ?_
    show Go p e below T2 (mkF m 12 #[.val (.ref la)] [(.ref la)]) _
    refine outA X2 hx hret rfl rfl (hb hby d33_12) hlk (by decide) (by decide) ?_
    rw [e2]
    exact ⟨la, rfl, N0, (Keep.refl h0 [])⟩
  · refine stp (fun _ => Jvm.RoadKit.acmp (g := (mkF m 8 #[.val (.ref la)] [(.ref mS), (.ref mA)])) X2 hx rfl rfl rfl (pc0 := 8) (pc' := 13) (same := false) rfl (hb hby d33_8) rfl (decide_eq_false (fun z => q8_3 (Value.ref.inj z))) (by decide) (by decide)) ?_
    show Go p e below T2 (mkF m 13 #[.val (.ref la)] []) _
    obtain ⟨T4, h4, X4, e4, E4, A4, D4, U4, st4⟩ := newO X2 hx hZ hown (hw _ (List.mem_of_getElem? (i := 226) rfl)) (hw _ (List.mem_of_getElem? (i := 228) rfl)) (hw _ (List.mem_of_getElem? (i := 229) rfl)) e2 (g := (mkF m 13 #[.val (.ref la)] [])) rfl (hb hby d33_13) (by decide) (by decide)
    obtain ⟨b4, g4⟩ : ∃ z, z = h0.size := ⟨_, rfl⟩
    rw [← g4] at A4 D4 st4
    have ne5 : la ≠ b4 := Nat.ne_of_lt (Nat.lt_of_lt_of_le E_la.lt (Nat.le_of_eq g4.symm))
    have sz_b4 : h0.size ≤ b4 := Nat.le_trans (Keep.refl h0 []).1 (Nat.le_of_eq g4.symm)
    have ge_b4 : n0 ≤ b4 := Nat.le_trans (old_le O0) (Nat.le_of_eq g4.symm)
    have f6 := E_la.ext E4
    have K4 : Keep h0 h4 [] := (Keep.refl h0 []).ext E4
    have O4 := O0.ext E4
    have F7 : Fld Z h4 b4 "java/util/Collections$UnmodifiableCollection" "c" "Ljava/util/Collection;" .null := D4 (Or.inr (hw _ (List.mem_of_getElem? (i := 241) rfl))) (ty := (.object "java/util/Collection")) (by decide)
    refine stp st4 ?_
    show Go p e below T4 (mkF m 16 #[.val (.ref la)] [(.ref b4)]) _
    refine stp (fun _ => XS.dup X4.here hx rfl (hb hby d33_16) rfl rfl) ?_
    show Go p e below T4 (mkF m 17 #[.val (.ref la)] [(.ref b4), (.ref b4)]) _
    refine stp (fun _ => XS.aloadN X4.here hx rfl (hb hby d33_17) rfl rfl) ?_
    show Go p e below T4 (mkF m 18 #[.val (.ref la)] [(.ref la), (.ref b4), (.ref b4)]) _
    obtain ⟨_, _, ⟨T8, L8, k8, n8⟩, -, X8, ⟨Lc8, hQ8, l8, y8, z8⟩, st8⟩ := X4.specialBack hx (y := (⟨"java/util/Collections$UnmodifiableSet", "<init>", "(Ljava/util/Set;)V"⟩ : MethodName)) rfl hown (mvT hZ (hw _ (List.mem_of_getElem? (i := 230) rfl))) (mvT hZ (hw _ (List.mem_of_getElem? (i := 231) rfl))) (mvT hZ (hw _ (List.mem_of_getElem? (i := 232) rfl))) (by decide) (backOf (W := 1) (rm_usi l Z a0 hw [] b4 la  h4 n0 O4 A4 F7 ge_b4) hZ (hw _ (List.mem_of_getElem? (i := 232) rfl)) (hw _ (List.mem_of_getElem? (i := 229) rfl)) (by decide) (by decide)) (g := (mkF m 18 #[.val (.ref la)] [(.ref la), (.ref b4), (.ref b4)])) rfl (by rw [hml]; rfl) (Steps.refl _) (a := b4) (argsL := [(.ref la)]) (rest := [(.ref b4)]) (lenOf pd_15 rfl) rfl (by show 2 * 0 + _ ≤ _; exact Nat.le_of_eq rfl) (hb hby d33_18) (fun _ _ => ⟨rfl, e4, (by decide : 1 + 0 ≤ _), (by decide : 1 + 0 ≤ _)⟩)
    dsimp only [Pt.U, Pt.locs, Pt.cells, Pt.slots] at X8 l8 y8 z8 st8 hQ8
    subst y8 z8
    obtain ⟨rfl, N8q, K8q, r8_0⟩ := hQ8
    have N8 : Fr n0 L8 := by rw [l8]; exact Fr.app N0 N8q
    have f9 := f6.keep K8q
    have f10 := A4.keep K8q
    have K8 : Keep h0 T8.heap [] := K4.trans K8q (allS (Or.inr sz_b4) all0)
    have O8 := O4.keep K8q (allS ge_b4 all0)
    refine stt st8 ?_
    show Go p e below T8 (mkF m 21 #[.val (.ref la)] [(.ref b4)]) _
    refine outA X8 hx hret rfl rfl (hb hby d33_21) hlk (by decide) (by decide) ?_
    exact ⟨b4, rfl, N8, K8⟩
theorem d9_0 : decode prog_26_method_4_code 0 = .ok (.new 39, 3) := by decide +kernel
theorem d9_3 : decode prog_26_method_4_code 3 = .ok (.dup, 1) := by decide +kernel
theorem d9_4 : decode prog_26_method_4_code 4 = .ok (.aload_n 0, 1) := by decide +kernel
theorem d9_5 : decode prog_26_method_4_code 5 = .ok (.invokespecial 41, 3) := by decide +kernel
theorem d9_8 : decode prog_26_method_4_code 8 = .ok (.invokestatic 44, 3) := by decide +kernel
theorem pd_16 : parseMethodDescriptor "(Ljava/util/Set;)Ljava/util/Set;" = some ⟨[(.object "java/util/Set")], some (.object "java/util/Set")⟩ := by decide +kernel
theorem d9_11 : decode prog_26_method_4_code 11 = .ok (.areturn, 1) := by decide +kernel
theorem ef_rm_uco (m : MethodId) (sa : Addr)  : entryFrame m #[(.ref sa)] 1 = mkF m 0 #[.val (.ref sa)] [] := by first | (simp [entryFrame, mkF, argsToLocals, Value.category]; done) | rfl
def Q_rm_uco (Z : State) (sa : Addr) (mA : Addr) (mS : Addr) (mp : Addr) (h0 : Heap) (n0 : Nat) (v : Option Value) (h : Heap) (L : List Loc) : Prop := ∃ (r : Addr), v = some (.ref r) ∧ Fr n0 L ∧ Keep h0 h [mp]
theorem pn_27_ : plainName "com/example/revlint/revlint/model/Library" = true := by first | (simp [plainName, overriddenIn]; done) | decide +kernel
theorem pn_27 : plainFor (⟨"com/example/revlint/revlint/model/Library", "unmodifiableCopy", "(Ljava/util/Set;)Ljava/util/Set;"⟩ : MethodName) = true := plainFor_of_name pn_27_
set_option maxRecDepth 65536 in
set_option maxHeartbeats 40000000 in
theorem rm_uco (l : Launch) (Z : State) (a0 : Array Value) (hw : ∀ d ∈ tables_1, d.before a0 Z = true) (ws : List Jvm.Cond) (sa : Addr) (mA : Addr) (mS : Addr) (mp : Addr) (h0 : Heap) (n0 : Nat) (O0 : Old Z n0 h0) (E_sa : Exa Z h0 sa "java/util/HashSet") (F_sa_map : Fld Z h0 sa "java/util/HashSet" "map" "Ljava/util/HashMap;" (.ref mp)) (E_mp : Exa Z h0 mp "java/util/HashMap") (F_mp_size : Fld Z h0 mp "java/util/HashMap" "size" "I" (.int (0 : Int32))) (F_mp_keySet : Fld Z h0 mp "java/util/AbstractMap" "keySet" "Ljava/util/Set;" .null) (F_mp_table : Fld Z h0 mp "java/util/HashMap" "table" "[Ljava/util/HashMap$Node;" .null) (F_mp_modCount : Fld Z h0 mp "java/util/HashMap" "modCount" "I" (.int (0 : Int32))) (S__assertionsDisabled : Sta Z Z.heap "java/lang/StrictMath" "$assertionsDisabled" "Z" (.int (1 : Int32))) (ge_mp : n0 ≤ mp) (ne_mp_sa : mp ≠ sa) (hmA : OwMir Z "java/util/HashSet" mA) (hmS : OwMir Z "java/util/Collections$UnmodifiableSet" mS) :
    MetFree l (⟨"com/example/revlint/revlint/model/Library", "unmodifiableCopy", "(Ljava/util/Set;)Ljava/util/Set;"⟩ : MethodName) (head1 (Jvm.Cond.code (⟨"com/example/revlint/revlint/model/Library", "unmodifiableCopy", "(Ljava/util/Set;)Ljava/util/Set;"⟩ : MethodName) prog_26_method_4_code 1 (some (.object "java/util/Set")) :: ws) ({ frames := 8, cells := 5, slots := 16, locals := 108 } : Room)) (fun args_ U => args_ = #[(.ref sa)] ∧ Z.Warmed39 U.vm ∧ U.heap = h0) (fun _ _ _ _ _ => True) (fun _ U out_ U' => ∃ val_ loc_, out_ = .returned val_ ∧ (Q_rm_uco Z sa mA mS mp h0 n0) val_ U'.heap loc_ ∧ FrameEnd U out_ U' loc_ ({ frames := 8, cells := 5, slots := 16, locals := 108 } : Room).cells ({ frames := 8, cells := 5, slots := 16, locals := 108 } : Room).slots) := by
  refine start (Q := (Q_rm_uco Z sa mA mS mp h0 n0)) pn_27 ?_
  intro p e s m below meth c T0 X0 hx hby hml hown hnm hret hlk hZ e0
  replace hown : s.vm.findClass "com/example/revlint/revlint/model/Library" = some m.cls := hown
  replace hml : c.maxLocals = 1 := hml
  refine goAt (ef_rm_uco m sa ) ?_
  have N0 := Fr.nil n0
  show Go p e below T0 (mkF m 0 #[.val (.ref sa)] []) _
  obtain ⟨T1, h1, X1, e1, E1, A1, D1, U1, st1⟩ := newO X0 hx hZ hown (hw _ (List.mem_of_getElem? (i := 56) rfl)) (hw _ (List.mem_of_getElem? (i := 4) rfl)) (hw _ (List.mem_of_getElem? (i := 5) rfl)) e0 (g := (mkF m 0 #[.val (.ref sa)] [])) rfl (hb hby d9_0) (by decide) (by decide)
  obtain ⟨b1, g1⟩ : ∃ z, z = h0.size := ⟨_, rfl⟩
  rw [← g1] at A1 D1 st1
  have ne2 : mp ≠ b1 := Nat.ne_of_lt (Nat.lt_of_lt_of_le E_mp.lt (Nat.le_of_eq g1.symm))
  have ne3 : sa ≠ b1 := Nat.ne_of_lt (Nat.lt_of_lt_of_le E_sa.lt (Nat.le_of_eq g1.symm))
  have sz_b1 : h0.size ≤ b1 := Nat.le_trans (Keep.refl h0 [mp]).1 (Nat.le_of_eq g1.symm)
  have ge_b1 : n0 ≤ b1 := Nat.le_trans (old_le O0) (Nat.le_of_eq g1.symm)
  have f4 := E_sa.ext E1
  have f5 := F_sa_map.ext E1
  have f6 := E_mp.ext E1
  have f7 := F_mp_size.ext E1
  have f8 := F_mp_keySet.ext E1
  have f9 := F_mp_table.ext E1
  have f10 := F_mp_modCount.ext E1
  have K1 : Keep h0 h1 [mp] := (Keep.refl h0 [mp]).ext E1
  have O1 := O0.ext E1
  have F11 : Fld Z h1 b1 "java/util/HashSet" "map" "Ljava/util/HashMap;" .null := D1 (Or.inl (hw _ (List.mem_of_getElem? (i := 42) rfl))) (ty := (.object "java/util/HashMap")) (by decide)
  refine stp st1 ?_
  show Go p e below T1 (mkF m 3 #[.val (.ref sa)] [(.ref b1)]) _
  refine stp (fun _ => XS.dup X1.here hx rfl (hb hby d9_3) rfl rfl) ?_
  show Go p e below T1 (mkF m 4 #[.val (.ref sa)] [(.ref b1), (.ref b1)]) _
  refine stp (fun _ => XS.aloadN X1.here hx rfl (hb hby d9_4) rfl rfl) ?_
  show Go p e below T1 (mkF m 5 #[.val (.ref sa)] [(.ref sa), (.ref b1), (.ref b1)]) _
  obtain ⟨_, _, ⟨T12, L12, k12, n12⟩, -, X12, ⟨Lc12, hQ12, l12, y12, z12⟩, st12⟩ := X1.specialBack hx (y := (⟨"java/util/HashSet", "<init>", "(Ljava/util/Collection;)V"⟩ : MethodName)) rfl hown (mvT hZ (hw _ (List.mem_of_getElem? (i := 57) rfl))) (mvT hZ (hw _ (List.mem_of_getElem? (i := 58) rfl))) (mvT hZ (hw _ (List.mem_of_getElem? (i := 59) rfl))) (by decide) (backOf (W := 1) (rm_hsc l Z a0 hw [] b1 sa mp h1 n0 O1 A1 F11 f4 f5 f6 f7 f8 f9 f10 S__assertionsDisabled ge_b1 ge_mp ne_mp_sa ne2 ne3) hZ (hw _ (List.mem_of_getElem? (i := 59) rfl)) (hw _ (List.mem_of_getElem? (i := 5) rfl)) (by decide) (by decide)) (g := (mkF m 5 #[.val (.ref sa)] [(.ref sa), (.ref b1), (.ref b1)])) rfl (by rw [hml]; rfl) (Steps.refl _) (a := b1) (argsL := [(.ref sa)]) (rest := [(.ref b1)]) (lenOf pd_14 rfl) rfl (by show 2 * 0 + _ ≤ _; exact Nat.le_of_eq rfl) (hb hby d9_5) (fun _ _ => ⟨rfl, e1, (by decide : 1 + 3 ≤ _), (by decide : 1 + 14 ≤ _)⟩)
  dsimp only [Pt.U, Pt.locs, Pt.cells, Pt.slots] at X12 l12 y12 z12 st12 hQ12
  subst y12 z12
  obtain ⟨rfl, N12q, K12q, r12_0⟩ := hQ12
  have N12 : Fr n0 L12 := by rw [l12]; exact Fr.app N0 N12q
  have f13 := f4.keep K12q
  have f14 := f5.keep K12q (ninS ne3 (ninS (Ne.symm ne_mp_sa) nin0))
  have f15 := f6.keep K12q
  have f16 := A1.keep K12q
  have K12 : Keep h0 T12.heap [mp] := K1.trans K12q (allS (Or.inr sz_b1) (allS (Or.inl (List.mem_of_getElem? (i := 0) rfl)) all0))
  have O12 := O1.keep K12q (allS ge_b1 (allS ge_mp all0))
  refine stt st12 ?_
  show Go p e below T12 (mkF m 8 #[.val (.ref sa)] [(.ref b1)]) _
  obtain ⟨_, _, ⟨T17, L17, k17, n17⟩, -, X17, ⟨Lc17, hQ17, l17, y17, z17⟩, st17⟩ := Jvm.LawKit.callS X12 hx (y := (⟨"java/util/Collections", "unmodifiableSet", "(Ljava/util/Set;)Ljava/util/Set;"⟩ : MethodName)) hown (mvT hZ (hw _ (List.mem_of_getElem? (i := 212) rfl))) (mvT hZ (hw _ (List.mem_of_getElem? (i := 213) rfl))) (mvT hZ (hw _ (List.mem_of_getElem? (i := 214) rfl))) (mvT hZ (hw _ (List.mem_of_getElem? (i := 215) rfl))) (by decide) (backOf (W := 0) (rm_uns l Z a0 hw [] b1 mA mS T12.heap n0 O12 r12_0 hmA hmS) hZ (hw _ (List.mem_of_getElem? (i := 215) rfl)) (hw _ (List.mem_of_getElem? (i := 214) rfl)) (by decide) (by decide)) (g := (mkF m 8 #[.val (.ref sa)] [(.ref b1)])) rfl (by rw [hml]; rfl) (argsL := [(.ref b1)]) (rest := []) (lenOf pd_16 rfl) rfl (by show 2 * 0 + _ ≤ _; exact Nat.le_of_eq rfl) (hb hby d9_8) (fun _ _ => ⟨rfl, rfl, (by decide : 4 + 1 ≤ _), (by decide : 15 + 1 ≤ _)⟩)
  dsimp only [Pt.U, Pt.locs, Pt.cells, Pt.slots] at X17 l17 y17 z17 st17 hQ17
  subst y17 z17
  obtain ⟨r17, rfl, N17q, K17q⟩ := hQ17
  have N17 : Fr n0 L17 := by rw [l17]; exact Fr.app N12 N17q
  have f18 := f13.keep K17q
  have f19 := f14.keep K17q nin0
  have f20 := f15.keep K17q
  have f21 := r12_0.keep K17q
  have K17 : Keep h0 T17.heap [mp] := K12.trans K17q all0
  have O17 := O12.keep K17q all0
  refine stp st17 ?_
  show Go p e below T17 (mkF m 11 #[.val (.ref sa)] [(.ref r17)]) _
  refine outA X17 hx hret rfl rfl (hb hby d9_11) hlk (by decide) (by decide) ?_
  exact ⟨r17, rfl, N17, K17⟩
theorem d7_0 : decode prog_34_method_1_code 0 = .ok (.aload_n 0, 1) := by decide +kernel
theorem d7_1 : decode prog_34_method_1_code 1 = .ok (.invokespecial 1, 3) := by decide +kernel
theorem d7_4 : decode prog_34_method_1_code 4 = .ok (.aload_n 1, 1) := by decide +kernel
theorem d7_5 : decode prog_34_method_1_code 5 = .ok (.invokestatic 7, 3) := by decide +kernel
theorem d7_8 : decode prog_34_method_1_code 8 = .ok (.astore_n 1, 1) := by decide +kernel
theorem d7_9 : decode prog_34_method_1_code 9 = .ok (.aload_n 2, 1) := by decide +kernel
theorem d7_10 : decode prog_34_method_1_code 10 = .ok (.invokestatic 7, 3) := by decide +kernel
theorem d7_13 : decode prog_34_method_1_code 13 = .ok (.astore_n 2, 1) := by decide +kernel
theorem d7_14 : decode prog_34_method_1_code 14 = .ok (.aload_n 0, 1) := by decide +kernel
theorem d7_15 : decode prog_34_method_1_code 15 = .ok (.aload_n 1, 1) := by decide +kernel
theorem d7_16 : decode prog_34_method_1_code 16 = .ok (.putfield 13, 3) := by decide +kernel
theorem d7_19 : decode prog_34_method_1_code 19 = .ok (.aload_n 0, 1) := by decide +kernel
theorem d7_20 : decode prog_34_method_1_code 20 = .ok (.aload_n 2, 1) := by decide +kernel
theorem d7_21 : decode prog_34_method_1_code 21 = .ok (.putfield 19, 3) := by decide +kernel
theorem d7_24 : decode prog_34_method_1_code 24 = .ok (.aload_n 0, 1) := by decide +kernel
theorem d7_25 : decode prog_34_method_1_code 25 = .ok (.iload_n 3, 1) := by decide +kernel
theorem d7_26 : decode prog_34_method_1_code 26 = .ok (.putfield 22, 3) := by decide +kernel
theorem d7_29 : decode prog_34_method_1_code 29 = .ok (.aload_n 0, 1) := by decide +kernel
theorem d7_30 : decode prog_34_method_1_code 30 = .ok (.iload 4, 2) := by decide +kernel
theorem d7_32 : decode prog_34_method_1_code 32 = .ok (.putfield 26, 3) := by decide +kernel
theorem d7_35 : decode prog_34_method_1_code 35 = .ok (.return_, 1) := by decide +kernel
theorem ef_rm_su00 (m : MethodId) (t : Addr) (sa : Addr) (sb : Addr)  : entryFrame m #[(.ref t), (.ref sa), (.ref sb), (.int (0 : Int32)), (.int (0 : Int32))] 5 = mkF m 0 #[.val (.ref t), .val (.ref sa), .val (.ref sb), .val (.int (0 : Int32)), .val (.int (0 : Int32))] [] := by first | (simp [entryFrame, mkF, argsToLocals, Value.category]; done) | rfl
def Q_rm_su00 (Z : State) (t : Addr) (sa : Addr) (sb : Addr) (mA : Addr) (mS : Addr) (m1 : Addr) (m2 : Addr) (h0 : Heap) (n0 : Nat) (v : Option Value) (h : Heap) (L : List Loc) : Prop := v = none ∧ Fr n0 L ∧ Keep h0 h [t, m1, m2] ∧ Exa Z h t "com/example/revlint/revlint/model/Library$Supertypes" ∧ Fld Z h t "com/example/revlint/revlint/model/Library$Supertypes" "unreadSuperclass" "Z" (.int (0 : Int32)) ∧ Fld Z h t "com/example/revlint/revlint/model/Library$Supertypes" "unreadInterface" "Z" (.int (0 : Int32))
theorem pn_28_ : plainName "com/example/revlint/revlint/model/Library$Supertypes" = true := by first | (simp [plainName, overriddenIn]; done) | decide +kernel
theorem pn_28 : plainFor (⟨"com/example/revlint/revlint/model/Library$Supertypes", "<init>", "(Ljava/util/Set;Ljava/util/Set;ZZ)V"⟩ : MethodName) = true := plainFor_of_name pn_28_
set_option maxRecDepth 65536 in
set_option maxHeartbeats 40000000 in
theorem rm_su00 (l : Launch) (Z : State) (a0 : Array Value) (hw : ∀ d ∈ tables_1, d.before a0 Z = true) (ws : List Jvm.Cond) (t : Addr) (sa : Addr) (sb : Addr) (mA : Addr) (mS : Addr) (m1 : Addr) (m2 : Addr) (h0 : Heap) (n0 : Nat) (O0 : Old Z n0 h0) (E_t : Exa Z h0 t "com/example/revlint/revlint/model/Library$Supertypes") (F_t_names : Fld Z h0 t "com/example/revlint/revlint/model/Library$Supertypes" "names" "Ljava/util/Set;" .null) (F_t_interfaces : Fld Z h0 t "com/example/revlint/revlint/model/Library$Supertypes" "interfaces" "Ljava/util/Set;" .null) (F_t_unreadSuperclass : Fld Z h0 t "com/example/revlint/revlint/model/Library$Supertypes" "unreadSuperclass" "Z" (.int (0 : Int32))) (F_t_unreadInterface : Fld Z h0 t "com/example/revlint/revlint/model/Library$Supertypes" "unreadInterface" "Z" (.int (0 : Int32))) (E_sa : Exa Z h0 sa "java/util/HashSet") (F_sa_map : Fld Z h0 sa "java/util/HashSet" "map" "Ljava/util/HashMap;" (.ref m1)) (E_m1 : Exa Z h0 m1 "java/util/HashMap") (F_m1_size : Fld Z h0 m1 "java/util/HashMap" "size" "I" (.int (0 : Int32))) (F_m1_keySet : Fld Z h0 m1 "java/util/AbstractMap" "keySet" "Ljava/util/Set;" .null) (F_m1_table : Fld Z h0 m1 "java/util/HashMap" "table" "[Ljava/util/HashMap$Node;" .null) (F_m1_modCount : Fld Z h0 m1 "java/util/HashMap" "modCount" "I" (.int (0 : Int32))) (E_sb : Exa Z h0 sb "java/util/HashSet") (F_sb_map : Fld Z h0 sb "java/util/HashSet" "map" "Ljava/util/HashMap;" (.ref m2)) (E_m2 : Exa Z h0 m2 "java/util/HashMap") (F_m2_size : Fld Z h0 m2 "java/util/HashMap" "size" "I" (.int (0 : Int32))) (F_m2_keySet : Fld Z h0 m2 "java/util/AbstractMap" "keySet" "Ljava/util/Set;" .null) (F_m2_table : Fld Z h0 m2 "java/util/HashMap" "table" "[Ljava/util/HashMap$Node;" .null) (F_m2_modCount : Fld Z h0 m2 "java/util/HashMap" "modCount" "I" (.int (0 : Int32))) (S__assertionsDisabled : Sta Z Z.heap "java/lang/StrictMath" "$assertionsDisabled" "Z" (.int (1 : Int32))) (ge_t : n0 ≤ t) (ge_m1 : n0 ≤ m1) (ge_m2 : n0 ≤ m2) (ne_m1_m2 : m1 ≠ m2) (ne_m1_sa : m1 ≠ sa) (ne_m1_sb : m1 ≠ sb) (ne_m1_t : m1 ≠ t) (ne_m2_sa : m2 ≠ sa) (ne_m2_sb : m2 ≠ sb) (ne_m2_t : m2 ≠ t) (ne_sa_t : sa ≠ t) (ne_sb_t : sb ≠ t) (hmA : OwMir Z "java/util/HashSet" mA) (hmS : OwMir Z "java/util/Collections$UnmodifiableSet" mS) :
    MetFree l (⟨"com/example/revlint/revlint/model/Library$Supertypes", "<init>", "(Ljava/util/Set;Ljava/util/Set;ZZ)V"⟩ : MethodName) (head1 (Jvm.Cond.code (⟨"com/example/revlint/revlint/model/Library$Supertypes", "<init>", "(Ljava/util/Set;Ljava/util/Set;ZZ)V"⟩ : MethodName) prog_34_method_1_code 5 none :: ws) ({ frames := 9, cells := 10, slots := 32, locals := 120 } : Room)) (fun args_ U => args_ = #[(.ref t), (.ref sa), (.ref sb), (.int (0 : Int32)), (.int (0 : Int32))] ∧ Z.Warmed39 U.vm ∧ U.heap = h0) (fun _ _ _ _ _ => True) (fun _ U out_ U' => ∃ val_ loc_, out_ = .returned val_ ∧ (Q_rm_su00 Z t sa sb mA mS m1 m2 h0 n0) val_ U'.heap loc_ ∧ FrameEnd U out_ U' loc_ ({ frames := 9, cells := 10, slots := 32, locals := 120 } : Room).cells ({ frames := 9, cells := 10, slots := 32, locals := 120 } : Room).slots) := by
  refine start (Q := (Q_rm_su00 Z t sa sb mA mS m1 m2 h0 n0)) pn_28 ?_
  intro p e s m below meth c T0 X0 hx hby hml hown hnm hret hlk hZ e0
  replace hown : s.vm.findClass "com/example/revlint/revlint/model/Library$Supertypes" = some m.cls := hown
  replace hml : c.maxLocals = 5 := hml
  refine goAt (ef_rm_su00 m t sa sb ) ?_
  have N0 := Fr.nil n0
  show Go p e below T0 (mkF m 0 #[.val (.ref t), .val (.ref sa), .val (.ref sb), .val (.int (0 : Int32)), .val (.int (0 : Int32))] []) _
  refine stp (fun _ => XS.aloadN X0.here hx rfl (hb hby d7_0) rfl rfl) ?_
  show Go p e below T0 (mkF m 1 #[.val (.ref t), .val (.ref sa), .val (.ref sb), .val (.int (0 : Int32)), .val (.int (0 : Int32))] [(.ref t)]) _
  obtain ⟨_, _, ⟨T1, L1, k1, n1⟩, -, X1, ⟨Lc1, hQ1, l1, y1, z1⟩, st1⟩ := X0.specialBack hx (y := (⟨"java/lang/Record", "<init>", "()V"⟩ : MethodName)) rfl hown (mvT hZ (hw _ (List.mem_of_getElem? (i := 46) rfl))) (mvT hZ (hw _ (List.mem_of_getElem? (i := 47) rfl))) (mvT hZ (hw _ (List.mem_of_getElem? (i := 50) rfl))) (by decide) (backOf (W := 0) (rm_rec l Z a0 hw [] t  h0 n0 O0 ) hZ (hw _ (List.mem_of_getElem? (i := 50) rfl)) (hw _ (List.mem_of_getElem? (i := 49) rfl)) (by decide) (by decide)) (g := (mkF m 1 #[.val (.ref t), .val (.ref sa), .val (.ref sb), .val (.int (0 : Int32)), .val (.int (0 : Int32))] [(.ref t)])) rfl (by rw [hml]; rfl) (Steps.refl _) (a := t) (argsL := []) (rest := []) (lenOf pd_0 rfl) rfl (by show 2 * 0 + _ ≤ _; exact Nat.le_of_eq rfl) (hb hby d7_1) (fun _ _ => ⟨rfl, e0, (by decide : 0 + 0 ≤ _), (by decide : 0 + 0 ≤ _)⟩)
  dsimp only [Pt.U, Pt.locs, Pt.cells, Pt.slots] at X1 l1 y1 z1 st1 hQ1
  subst y1 z1
  obtain ⟨rfl, N1q, e1⟩ := hQ1
  have N1 : Fr n0 L1 := by rw [l1]; exact Fr.app N0 N1q
  refine stt st1 ?_
  show Go p e below T1 (mkF m 4 #[.val (.ref t), .val (.ref sa), .val (.ref sb), .val (.int (0 : Int32)), .val (.int (0 : Int32))] []) _
  refine stp (fun _ => XS.aloadN X1.here hx rfl (hb hby d7_4) rfl rfl) ?_
  show Go p e below T1 (mkF m 5 #[.val (.ref t), .val (.ref sa), .val (.ref sb), .val (.int (0 : Int32)), .val (.int (0 : Int32))] [(.ref sa)]) _
  obtain ⟨_, _, ⟨T2, L2, k2, n2⟩, -, X2, ⟨Lc2, hQ2, l2, y2, z2⟩, st2⟩ := callSN X1 hx (y := (⟨"com/example/revlint/revlint/model/Library", "unmodifiableCopy", "(Ljava/util/Set;)Ljava/util/Set;"⟩ : MethodName)) hown (mvMN hZ (hw _ (List.mem_of_getElem? (i := 52) rfl))) (mvT hZ (hw _ (List.mem_of_getElem? (i := 53) rfl))) (mvT hZ (hw _ (List.mem_of_getElem? (i := 54) rfl))) (mvT hZ (hw _ (List.mem_of_getElem? (i := 55) rfl))) (by decide) (backOf (W := 0) (rm_uco l Z a0 hw [] sa mA mS m1 h0 n0 O0 E_sa F_sa_map E_m1 F_m1_size F_m1_keySet F_m1_table F_m1_modCount S__assertionsDisabled ge_m1 ne_m1_sa hmA hmS) hZ (hw _ (List.mem_of_getElem? (i := 55) rfl)) (hw _ (List.mem_of_getElem? (i := 54) rfl)) (by decide) (by decide)) (g := (mkF m 5 #[.val (.ref t), .val (.ref sa), .val (.ref sb), .val (.int (0 : Int32)), .val (.int (0 : Int32))] [(.ref sa)])) rfl (by rw [hml]; rfl) (argsL := [(.ref sa)]) (rest := []) (lenOf pd_16 rfl) rfl (by show 2 * 0 + _ ≤ _; exact Nat.le_of_eq rfl) (hb hby d7_5) (fun _ _ => ⟨rfl, e1, (by decide : 0 + 5 ≤ _), (by decide : 0 + 16 ≤ _)⟩)
  dsimp only [Pt.U, Pt.locs, Pt.cells, Pt.slots] at X2 l2 y2 z2 st2 hQ2
  subst y2 z2
  obtain ⟨r2, rfl, N2q, K2q⟩ := hQ2
  have N2 : Fr n0 L2 := by rw [l2]; exact Fr.app N1 N2q
  have f3 := E_t.keep K2q
  have f4 := F_t_names.keep K2q (ninS (Ne.symm ne_m1_t) nin0)
  have f5 := F_t_interfaces.keep K2q (ninS (Ne.symm ne_m1_t) nin0)
  have f6 := F_t_unreadSuperclass.keep K2q (ninS (Ne.symm ne_m1_t) nin0)
  have f7 := F_t_unreadInterface.keep K2q (ninS (Ne.symm ne_m1_t) nin0)
  have f8 := E_sa.keep K2q
  have f9 := F_sa_map.keep K2q (ninS (Ne.symm ne_m1_sa) nin0)
  have f10 := E_m1.keep K2q
  have f11 := E_sb.keep K2q
  have f12 := F_sb_map.keep K2q (ninS (Ne.symm ne_m1_sb) nin0)
  have f13 := E_m2.keep K2q
  have f14 := F_m2_size.keep K2q (ninS (Ne.symm ne_m1_m2) nin0)
  have f15 := F_m2_keySet.keep K2q (ninS (Ne.symm ne_m1_m2) nin0)
  have f16 := F_m2_table.keep K2q (ninS (Ne.symm ne_m1_m2) nin0)
  have f17 := F_m2_modCount.keep K2q (ninS (Ne.symm ne_m1_m2) nin0)
  have K2 : Keep h0 T2.heap [t, m1, m2] := (Keep.refl h0 [t, m1, m2]).trans K2q (allS (Or.inl (List.mem_of_getElem? (i := 1) rfl)) all0)
  have O2 := O0.keep K2q (allS ge_m1 all0)
  refine stt st2 ?_
  show Go p e below T2 (mkF m 8 #[.val (.ref t), .val (.ref sa), .val (.ref sb), .val (.int (0 : Int32)), .val (.int (0 : Int32))] [(.ref r2)]) _
  refine stp (fun _ => XS.astoreN X2.here hx rfl (hb hby d7_8) rfl rfl (l' := #[.val (.ref t), .val (.ref r2), .val (.ref sb), .val (.int (0 : Int32)), .val (.int (0 : Int32))]) rfl) ?_
  show Go p e below T2 (mkF m 9 #[.val (.ref t), .val (.ref r2), .val (.ref sb), .val (.int (0 : Int32)), .val (.int (0 : Int32))] []) _
  refine stp (fun _ => XS.aloadN X2.here hx rfl (hb hby d7_9) rfl rfl) ?_
  show Go p e below T2 (mkF m 10 #[.val (.ref t), .val (.ref r2), .val (.ref sb), .val (.int (0 : Int32)), .val (.int (0 : Int32))] [(.ref sb)]) _
  obtain ⟨_, _, ⟨T18, L18, k18, n18⟩, -, X18, ⟨Lc18, hQ18, l18, y18, z18⟩, st18⟩ := callSN X2 hx (y := (⟨"com/example/revlint/revlint/model/Library", "unmodifiableCopy", "(Ljava/util/Set;)Ljava/util/Set;"⟩ : MethodName)) hown (mvMN hZ (hw _ (List.mem_of_getElem? (i := 52) rfl))) (mvT hZ (hw _ (List.mem_of_getElem? (i := 53) rfl))) (mvT hZ (hw _ (List.mem_of_getElem? (i := 54) rfl))) (mvT hZ (hw _ (List.mem_of_getElem? (i := 55) rfl))) (by decide) (backOf (W := 0) (rm_uco l Z a0 hw [] sb mA mS m2 T2.heap n0 O2 f11 f12 f13 f14 f15 f16 f17 S__assertionsDisabled ge_m2 ne_m2_sb hmA hmS) hZ (hw _ (List.mem_of_getElem? (i := 55) rfl)) (hw _ (List.mem_of_getElem? (i := 54) rfl)) (by decide) (by decide)) (g := (mkF m 10 #[.val (.ref t), .val (.ref r2), .val (.ref sb), .val (.int (0 : Int32)), .val (.int (0 : Int32))] [(.ref sb)])) rfl (by rw [hml]; rfl) (argsL := [(.ref sb)]) (rest := []) (lenOf pd_16 rfl) rfl (by show 2 * 0 + _ ≤ _; exact Nat.le_of_eq rfl) (hb hby d7_10) (fun _ _ => ⟨rfl, rfl, (by decide : 5 + 5 ≤ _), (by decide : 16 + 16 ≤ _)⟩)
  dsimp only [Pt.U, Pt.locs, Pt.cells, Pt.slots] at X18 l18 y18 z18 st18 hQ18
  subst y18 z18
  obtain ⟨r18, rfl, N18q, K18q⟩ := hQ18
  have N18 : Fr n0 L18 := by rw [l18]; exact Fr.app N2 N18q
  have f19 := f3.keep K18q
  have f20 := f4.keep K18q (ninS (Ne.symm ne_m2_t) nin0)
  have f21 := f5.keep K18q (ninS (Ne.symm ne_m2_t) nin0)
  have f22 := f6.keep K18q (ninS (Ne.symm ne_m2_t) nin0)
  have f23 := f7.keep K18q (ninS (Ne.symm ne_m2_t) nin0)
  have f24 := f8.keep K18q
  have f25 := f9.keep K18q (ninS (Ne.symm ne_m2_sa) nin0)
  have f26 := f10.keep K18q
  have f27 := f11.keep K18q
  have f28 := f12.keep K18q (ninS (Ne.symm ne_m2_sb) nin0)
  have f29 := f13.keep K18q
  have K18 : Keep h0 T18.heap [t, m1, m2] := K2.trans K18q (allS (Or.inl (List.mem_of_getElem? (i := 2) rfl)) all0)
  have O18 := O2.keep K18q (allS ge_m2 all0)
  refine stt st18 ?_
  show Go p e below T18 (mkF m 13 #[.val (.ref t), .val (.ref r2), .val (.ref sb), .val (.int (0 : Int32)), .val (.int (0 : Int32))] [(.ref r18)]) _
  refine stp (fun _ => XS.astoreN X18.here hx rfl (hb hby d7_13) rfl rfl (l' := #[.val (.ref t), .val (.ref r2), .val (.ref r18), .val (.int (0 : Int32)), .val (.int (0 : Int32))]) rfl) ?_
  show Go p e below T18 (mkF m 14 #[.val (.ref t), .val (.ref r2), .val (.ref r18), .val (.int (0 : Int32)), .val (.int (0 : Int32))] []) _
  refine stp (fun _ => XS.aloadN X18.here hx rfl (hb hby d7_14) rfl rfl) ?_
  show Go p e below T18 (mkF m 15 #[.val (.ref t), .val (.ref r2), .val (.ref r18), .val (.int (0 : Int32)), .val (.int (0 : Int32))] [(.ref t)]) _
  refine stp (fun _ => XS.aloadN X18.here hx rfl (hb hby d7_15) rfl rfl) ?_
  show Go p e below T18 (mkF m 16 #[.val (.ref t), .val (.ref r2), .val (.ref r18), .val (.int (0 : Int32)), .val (.int (0 : Int32))] [(.ref r2), (.ref t)]) _
  obtain ⟨T30, h30, X30, e30, W30, st30⟩ := putF X18 hx hZ hown (host := "") (Or.inl (hw _ (List.mem_of_getElem? (i := 242) rfl))) Via.refl rfl f20 f19 (Or.inr ⟨(hw _ (List.mem_of_getElem? (i := 243) rfl)), rfl, hnm⟩) (hw _ (List.mem_of_getElem? (i := 1) rfl)) (ty := (.object "java/util/Set")) (by decide) rfl rfl (g := (mkF m 16 #[.val (.ref t), .val (.ref r2), .val (.ref r18), .val (.int (0 : Int32)), .val (.int (0 : Int32))] [(.ref r2), (.ref t)])) rfl rfl (hb hby d7_16)
  have Fw30 := f20.same W30
  have f31 := f19.wr W30
  have f33 := f21.other W30 (Or.inr (slot_ne (Or.inr (hw _ (List.mem_of_getElem? (i := 245) rfl))) (Or.inr (hw _ (List.mem_of_getElem? (i := 243) rfl))) (by decide) (t := (.object "java/util/Set")) (t' := (.object "java/util/Set")) (by decide) (by decide)))
  have f34 := f22.other W30 (Or.inr (slot_ne (Or.inr (hw _ (List.mem_of_getElem? (i := 247) rfl))) (Or.inr (hw _ (List.mem_of_getElem? (i := 243) rfl))) (by decide) (t := .boolean) (t' := (.object "java/util/Set")) (by decide) (by decide)))
  have f35 := f23.other W30 (Or.inr (slot_ne (Or.inr (hw _ (List.mem_of_getElem? (i := 249) rfl))) (Or.inr (hw _ (List.mem_of_getElem? (i := 243) rfl))) (by decide) (t := .boolean) (t' := (.object "java/util/Set")) (by decide) (by decide)))
  have f36 := f24.wr W30
  have f37 := f25.other W30 (Or.inl ne_sa_t)
  have f38 := f26.wr W30
  have f39 := f27.wr W30
  have f40 := f28.other W30 (Or.inl ne_sb_t)
  have f41 := f29.wr W30
  have K30 : Keep h0 h30 [t, m1, m2] := K18.wr W30 (Or.inl (List.mem_of_getElem? (i := 0) rfl))
  have O30 := O18.wr W30 ge_t
  have N30 := Fr.snoc X30 N18 ge_t
  refine stp st30 ?_
  show Go p e below T30 (mkF m 19 #[.val (.ref t), .val (.ref r2), .val (.ref r18), .val (.int (0 : Int32)), .val (.int (0 : Int32))] []) _
  refine stp (fun _ => XS.aloadN X30.here hx rfl (hb hby d7_19) rfl rfl) ?_
  show Go p e below T30 (mkF m 20 #[.val (.ref t), .val (.ref r2), .val (.ref r18), .val (.int (0 : Int32)), .val (.int (0 : Int32))] [(.ref t)]) _
  refine stp (fun _ => XS.aloadN X30.here hx rfl (hb hby d7_20) rfl rfl) ?_
  show Go p e below T30 (mkF m 21 #[.val (.ref t), .val (.ref r2), .val (.ref r18), .val (.int (0 : Int32)), .val (.int (0 : Int32))] [(.ref r18), (.ref t)]) _
  obtain ⟨T42, h42, X42, e42, W42, st42⟩ := putF X30 hx hZ hown (host := "") (Or.inl (hw _ (List.mem_of_getElem? (i := 244) rfl))) Via.refl e30 f33 f31 (Or.inr ⟨(hw _ (List.mem_of_getElem? (i := 245) rfl)), rfl, hnm⟩) (hw _ (List.mem_of_getElem? (i := 1) rfl)) (ty := (.object "java/util/Set")) (by decide) rfl rfl (g := (mkF m 21 #[.val (.ref t), .val (.ref r2), .val (.ref r18), .val (.int (0 : Int32)), .val (.int (0 : Int32))] [(.ref r18), (.ref t)])) rfl rfl (hb hby d7_21)
  have Fw42 := f33.same W42
  have f43 := f31.wr W42
  have f44 := Fw30.other W42 (Or.inr (slot_ne (Or.inr (hw _ (List.mem_of_getElem? (i := 243) rfl))) (Or.inr (hw _ (List.mem_of_getElem? (i := 245) rfl))) (by decide) (t := (.object "java/util/Set")) (t' := (.object "java/util/Set")) (by decide) (by decide)))
  have f46 := f34.other W42 (Or.inr (slot_ne (Or.inr (hw _ (List.mem_of_getElem? (i := 247) rfl))) (Or.inr (hw _ (List.mem_of_getElem? (i := 245) rfl))) (by decide) (t := .boolean) (t' := (.object "java/util/Set")) (by decide) (by decide)))
  have f47 := f35.other W42 (Or.inr (slot_ne (Or.inr (hw _ (List.mem_of_getElem? (i := 249) rfl))) (Or.inr (hw _ (List.mem_of_getElem? (i := 245) rfl))) (by decide) (t := .boolean) (t' := (.object "java/util/Set")) (by decide) (by decide)))
  have f48 := f36.wr W42
  have f49 := f37.other W42 (Or.inl ne_sa_t)
  have f50 := f38.wr W42
  have f51 := f39.wr W42
  have f52 := f40.other W42 (Or.inl ne_sb_t)
  have f53 := f41.wr W42
  have K42 : Keep h0 h42 [t, m1, m2] := K30.wr W42 (Or.inl (List.mem_of_getElem? (i := 0) rfl))
  have O42 := O30.wr W42 ge_t
  have N42 := Fr.snoc X42 N30 ge_t
  refine stp st42 ?_
  show Go p e below T42 (mkF m 24 #[.val (.ref t), .val (.ref r2), .val (.ref r18), .val (.int (0 : Int32)), .val (.int (0 : Int32))] []) _
  refine stp (fun _ => XS.aloadN X42.here hx rfl (hb hby d7_24) rfl rfl) ?_
  show Go p e below T42 (mkF m 25 #[.val (.ref t), .val (.ref r2), .val (.ref r18), .val (.int (0 : Int32)), .val (.int (0 : Int32))] [(.ref t)]) _
  refine stp (fun _ => XS.iloadN X42.here hx rfl (hb hby d7_25) rfl) ?_
  show Go p e below T42 (mkF m 26 #[.val (.ref t), .val (.ref r2), .val (.ref r18), .val (.int (0 : Int32)), .val (.int (0 : Int32))] [(.int (0 : Int32)), (.ref t)]) _
  obtain ⟨T54, h54, X54, e54, W54, st54⟩ := putFN X42 hx hZ hown (hw _ (List.mem_of_getElem? (i := 246) rfl)) Via.refl e42 f46 f43 (Or.inr ⟨(hw _ (List.mem_of_getElem? (i := 247) rfl)), rfl, hnm⟩) (hw _ (List.mem_of_getElem? (i := 1) rfl)) (ty := .boolean) (v' := (.int (0 : Int32))) (by decide) rfl rfl (g := (mkF m 26 #[.val (.ref t), .val (.ref r2), .val (.ref r18), .val (.int (0 : Int32)), .val (.int (0 : Int32))] [(.int (0 : Int32)), (.ref t)])) rfl rfl (hb hby d7_26)
  have Fw54 := f46.same W54
  have f55 := f43.wr W54
  have f56 := f44.other W54 (Or.inr (slot_ne (Or.inr (hw _ (List.mem_of_getElem? (i := 243) rfl))) (Or.inr (hw _ (List.mem_of_getElem? (i := 247) rfl))) (by decide) (t := (.object "java/util/Set")) (t' := .boolean) (by decide) (by decide)))
  have f57 := Fw42.other W54 (Or.inr (slot_ne (Or.inr (hw _ (List.mem_of_getElem? (i := 245) rfl))) (Or.inr (hw _ (List.mem_of_getElem? (i := 247) rfl))) (by decide) (t := (.object "java/util/Set")) (t' := .boolean) (by decide) (by decide)))
  have f59 := f47.other W54 (Or.inr (slot_ne (Or.inr (hw _ (List.mem_of_getElem? (i := 249) rfl))) (Or.inr (hw _ (List.mem_of_getElem? (i := 247) rfl))) (by decide) (t := .boolean) (t' := .boolean) (by decide) (by decide)))
  have f60 := f48.wr W54
  have f61 := f49.other W54 (Or.inl ne_sa_t)
  have f62 := f50.wr W54
  have f63 := f51.wr W54
  have f64 := f52.other W54 (Or.inl ne_sb_t)
  have f65 := f53.wr W54
  have K54 : Keep h0 h54 [t, m1, m2] := K42.wr W54 (Or.inl (List.mem_of_getElem? (i := 0) rfl))
  have O54 := O42.wr W54 ge_t
  have N54 := Fr.snoc X54 N42 ge_t
  refine stp st54 ?_
  show Go p e below T54 (mkF m 29 #[.val (.ref t), .val (.ref r2), .val (.ref r18), .val (.int (0 : Int32)), .val (.int (0 : Int32))] []) _
  refine stp (fun _ => XS.aloadN X54.here hx rfl (hb hby d7_29) rfl rfl) ?_
  show Go p e below T54 (mkF m 30 #[.val (.ref t), .val (.ref r2), .val (.ref r18), .val (.int (0 : Int32)), .val (.int (0 : Int32))] [(.ref t)]) _
  refine stp (fun _ => XS.iload X54.here hx rfl (hb hby d7_30) rfl) ?_
  show Go p e below T54 (mkF m 32 #[.val (.ref t), .val (.ref r2), .val (.ref r18), .val (.int (0 : Int32)), .val (.int (0 : Int32))] [(.int (0 : Int32)), (.ref t)]) _
  obtain ⟨T66, h66, X66, e66, W66, st66⟩ := putFN X54 hx hZ hown (hw _ (List.mem_of_getElem? (i := 248) rfl)) Via.refl e54 f59 f55 (Or.inr ⟨(hw _ (List.mem_of_getElem? (i := 249) rfl)), rfl, hnm⟩) (hw _ (List.mem_of_getElem? (i := 1) rfl)) (ty := .boolean) (v' := (.int (0 : Int32))) (by decide) rfl rfl (g := (mkF m 32 #[.val (.ref t), .val (.ref r2), .val (.ref r18), .val (.int (0 : Int32)), .val (.int (0 : Int32))] [(.int (0 : Int32)), (.ref t)])) rfl rfl (hb hby d7_32)
  have Fw66 := f59.same W66
  have f67 := f55.wr W66
  have f68 := f56.other W66 (Or.inr (slot_ne (Or.inr (hw _ (List.mem_of_getElem? (i := 243) rfl))) (Or.inr (hw _ (List.mem_of_getElem? (i := 249) rfl))) (by decide) (t := (.object "java/util/Set")) (t' := .boolean) (by decide) (by decide)))
  have f69 := f57.other W66 (Or.inr (slot_ne (Or.inr (hw _ (List.mem_of_getElem? (i := 245) rfl))) (Or.inr (hw _ (List.mem_of_getElem? (i := 249) rfl))) (by decide) (t := (.object "java/util/Set")) (t' := .boolean) (by decide) (by decide)))
  have f70 := Fw54.other W66 (Or.inr (slot_ne (Or.inr (hw _ (List.mem_of_getElem? (i := 247) rfl))) (Or.inr (hw _ (List.mem_of_getElem? (i := 249) rfl))) (by decide) (t := .boolean) (t' := .boolean) (by decide) (by decide)))
  have f72 := f60.wr W66
  have f73 := f61.other W66 (Or.inl ne_sa_t)
  have f74 := f62.wr W66
  have f75 := f63.wr W66
  have f76 := f64.other W66 (Or.inl ne_sb_t)
  have f77 := f65.wr W66
  have K66 : Keep h0 h66 [t, m1, m2] := K54.wr W66 (Or.inl (List.mem_of_getElem? (i := 0) rfl))
  have O66 := O54.wr W66 ge_t
  have N66 := Fr.snoc X66 N54 ge_t
  refine stp st66 ?_
  show Go p e below T66 (mkF m 35 #[.val (.ref t), .val (.ref r2), .val (.ref r18), .val (.int (0 : Int32)), .val (.int (0 : Int32))] []) _
  refine outV X66 hx hret (hb hby d7_35) hlk (by decide) (by decide) ?_
  rw [e66]
  exact ⟨rfl, N66, K66, f67, f70, Fw66⟩
theorem d36_0 : decode prog_34_method_2_code 0 = .ok (.aload_n 0, 1) := by decide +kernel
theorem d36_1 : decode prog_34_method_2_code 1 = .ok (.getfield 22, 3) := by decide +kernel
theorem d36_4 : decode prog_34_method_2_code 4 = .ok (.ifCond .ne 14, 3) := by decide +kernel
theorem d36_7 : decode prog_34_method_2_code 7 = .ok (.iload_n 1, 1) := by decide +kernel
theorem d36_8 : decode prog_34_method_2_code 8 = .ok (.ifCond .eq 14, 3) := by decide +kernel
theorem d36_22 : decode prog_34_method_2_code 22 = .ok (.iconst 0, 1) := by decide +kernel
theorem d36_23 : decode prog_34_method_2_code 23 = .ok (.ireturn, 1) := by decide +kernel
theorem ef_rm_mh000 (m : MethodId) (t : Addr)  : entryFrame m #[(.ref t), (.int (0 : Int32))] 2 = mkF m 0 #[.val (.ref t), .val (.int (0 : Int32))] [] := by first | (simp [entryFrame, mkF, argsToLocals, Value.category]; done) | rfl
def Q_rm_mh000 (Z : State) (t : Addr)  (h0 : Heap) (n0 : Nat) (v : Option Value) (h : Heap) (L : List Loc) : Prop := v = some (.int (0 : Int32)) ∧ Fr n0 L ∧ h = h0
theorem pn_29_ : plainName "com/example/revlint/revlint/model/Library$Supertypes" = true := by first | (simp [plainName, overriddenIn]; done) | decide +kernel
theorem pn_29 : plainFor (⟨"com/example/revlint/revlint/model/Library$Supertypes", "mayHaveUnnamed", "(Z)Z"⟩ : MethodName) = true := plainFor_of_name pn_29_
set_option maxRecDepth 65536 in
set_option maxHeartbeats 40000000 in
theorem rm_mh000 (l : Launch) (Z : State) (a0 : Array Value) (hw : ∀ d ∈ tables_1, d.before a0 Z = true) (ws : List Jvm.Cond) (t : Addr)  (h0 : Heap) (n0 : Nat) (O0 : Old Z n0 h0) (F_t_unreadSuperclass : Fld Z h0 t "com/example/revlint/revlint/model/Library$Supertypes" "unreadSuperclass" "Z" (.int (0 : Int32))) (F_t_unreadInterface : Fld Z h0 t "com/example/revlint/revlint/model/Library$Supertypes" "unreadInterface" "Z" (.int (0 : Int32))) :
    MetFree l (⟨"com/example/revlint/revlint/model/Library$Supertypes", "mayHaveUnnamed", "(Z)Z"⟩ : MethodName) (head1 (Jvm.Cond.code (⟨"com/example/revlint/revlint/model/Library$Supertypes", "mayHaveUnnamed", "(Z)Z"⟩ : MethodName) prog_34_method_2_code 2 (some .boolean) :: ws) ({ frames := 0, cells := 0, slots := 0, locals := 0 } : Room)) (fun args_ U => args_ = #[(.ref t), (.int (0 : Int32))] ∧ Z.Warmed39 U.vm ∧ U.heap = h0) (fun _ _ _ _ _ => True) (fun _ U out_ U' => ∃ val_ loc_, out_ = .returned val_ ∧ (Q_rm_mh000 Z t h0 n0) val_ U'.heap loc_ ∧ FrameEnd U out_ U' loc_ ({ frames := 0, cells := 0, slots := 0, locals := 0 } : Room).cells ({ frames := 0, cells := 0, slots := 0, locals := 0 } : Room).slots) := by
  refine start (Q := (Q_rm_mh000 Z t h0 n0)) pn_29 ?_
  intro p e s m below meth c T0 X0 hx hby hml hown hnm hret hlk hZ e0
  replace hown : s.vm.findClass "com/example/revlint/revlint/model/Library$Supertypes" = some m.cls := hown
  replace hml : c.maxLocals = 2 := hml
  refine goAt (ef_rm_mh000 m t ) ?_
  have N0 := Fr.nil n0
  show Go p e below T0 (mkF m 0 #[.val (.ref t), .val (.int (0 : Int32))] []) _
  refine stp (fun _ => XS.aloadN X0.here hx rfl (hb hby d36_0) rfl rfl) ?_
  show Go p e below T0 (mkF m 1 #[.val (.ref t), .val (.int (0 : Int32))] [(.ref t)]) _
  obtain ⟨T1, X1, e1, st1⟩ := getF X0 hx hZ hown (host := "") (Or.inl (hw _ (List.mem_of_getElem? (i := 246) rfl))) Via.refl e0 F_t_unreadSuperclass (g := (mkF m 1 #[.val (.ref t), .val (.int (0 : Int32))] [(.ref t)])) rfl rfl (hb hby d36_1)
  refine stp st1 ?_
  show Go p e below T1 (mkF m 4 #[.val (.ref t), .val (.int (0 : Int32))] [(.int (0 : Int32))]) _
  refine stp (fun _ => XS.ifNo X1.here hx rfl (hb hby d36_4) rfl (by decide)) ?_
  show Go p e below T1 (mkF m 7 #[.val (.ref t), .val (.int (0 : Int32))] []) _
  refine stp (fun _ => XS.iloadN X1.here hx rfl (hb hby d36_7) rfl) ?_
  show Go p e below T1 (mkF m 8 #[.val (.ref t), .val (.int (0 : Int32))] [(.int (0 : Int32))]) _
  refine stp (fun _ => XS.ifYes X1.here hx rfl (pc0 := 8) (pc' := 22) rfl (hb hby d36_8) rfl (by decide) (by decide) (by decide)) ?_
  show Go p e below T1 (mkF m 22 #[.val (.ref t), .val (.int (0 : Int32))] []) _
  refine stp (fun _ => XS.iconst X1.here hx rfl (hb hby d36_22)) ?_
  show Go p e below T1 (mkF m 23 #[.val (.ref t), .val (.int (0 : Int32))] [(.int (0 : Int32))]) _
  refine outN X1 hx (t := .boolean) hret (by simp) (hb hby d36_23) hlk (by decide) (by decide) ?_
  exact ⟨rfl, N0, e1⟩
theorem d36_11 : decode prog_34_method_2_code 11 = .ok (.aload_n 0, 1) := by decide +kernel
theorem d36_12 : decode prog_34_method_2_code 12 = .ok (.getfield 26, 3) := by decide +kernel
theorem d36_15 : decode prog_34_method_2_code 15 = .ok (.ifCond .eq 7, 3) := by decide +kernel
theorem ef_rm_mh001 (m : MethodId) (t : Addr)  : entryFrame m #[(.ref t), (.int (1 : Int32))] 2 = mkF m 0 #[.val (.ref t), .val (.int (1 : Int32))] [] := by first | (simp [entryFrame, mkF, argsToLocals, Value.category]; done) | rfl
def Q_rm_mh001 (Z : State) (t : Addr)  (h0 : Heap) (n0 : Nat) (v : Option Value) (h : Heap) (L : List Loc) : Prop := v = some (.int (0 : Int32)) ∧ Fr n0 L ∧ h = h0
set_option maxRecDepth 65536 in
set_option maxHeartbeats 40000000 in
theorem rm_mh001 (l : Launch) (Z : State) (a0 : Array Value) (hw : ∀ d ∈ tables_1, d.before a0 Z = true) (ws : List Jvm.Cond) (t : Addr)  (h0 : Heap) (n0 : Nat) (O0 : Old Z n0 h0) (F_t_unreadSuperclass : Fld Z h0 t "com/example/revlint/revlint/model/Library$Supertypes" "unreadSuperclass" "Z" (.int (0 : Int32))) (F_t_unreadInterface : Fld Z h0 t "com/example/revlint/revlint/model/Library$Supertypes" "unreadInterface" "Z" (.int (0 : Int32))) :
    MetFree l (⟨"com/example/revlint/revlint/model/Library$Supertypes", "mayHaveUnnamed", "(Z)Z"⟩ : MethodName) (head1 (Jvm.Cond.code (⟨"com/example/revlint/revlint/model/Library$Supertypes", "mayHaveUnnamed", "(Z)Z"⟩ : MethodName) prog_34_method_2_code 2 (some .boolean) :: ws) ({ frames := 0, cells := 0, slots := 0, locals := 0 } : Room)) (fun args_ U => args_ = #[(.ref t), (.int (1 : Int32))] ∧ Z.Warmed39 U.vm ∧ U.heap = h0) (fun _ _ _ _ _ => True) (fun _ U out_ U' => ∃ val_ loc_, out_ = .returned val_ ∧ (Q_rm_mh001 Z t h0 n0) val_ U'.heap loc_ ∧ FrameEnd U out_ U' loc_ ({ frames := 0, cells := 0, slots := 0, locals := 0 } : Room).cells ({ frames := 0, cells := 0, slots := 0, locals := 0 } : Room).slots) := by
  refine start (Q := (Q_rm_mh001 Z t h0 n0)) pn_29 ?_
  intro p e s m below meth c T0 X0 hx hby hml hown hnm hret hlk hZ e0
  replace hown : s.vm.findClass "com/example/revlint/revlint/model/Library$Supertypes" = some m.cls := hown
  replace hml : c.maxLocals = 2 := hml
  refine goAt (ef_rm_mh001 m t ) ?_
  have N0 := Fr.nil n0
  show Go p e below T0 (mkF m 0 #[.val (.ref t), .val (.int (1 : Int32))] []) _
  refine stp (fun _ => XS.aloadN X0.here hx rfl (hb hby d36_0) rfl rfl) ?_
  show Go p e below T0 (mkF m 1 #[.val (.ref t), .val (.int (1 : Int32))] [(.ref t)]) _
  obtain ⟨T1, X1, e1, st1⟩ := getF X0 hx hZ hown (host := "") (Or.inl (hw _ (List.mem_of_getElem? (i := 246) rfl))) Via.refl e0 F_t_unreadSuperclass (g := (mkF m 1 #[.val (.ref t), .val (.int (1 : Int32))] [(.ref t)])) rfl rfl (hb hby d36_1)
  refine stp st1 ?_
  show Go p e below T1 (mkF m 4 #[.val (.ref t), .val (.int (1 : Int32))] [(.int (0 : Int32))]) _
  refine stp (fun _ => XS.ifNo X1.here hx rfl (hb hby d36_4) rfl (by decide)) ?_
  show Go p e below T1 (mkF m 7 #[.val (.ref t), .val (.int (1 : Int32))] []) _
  refine stp (fun _ => XS.iloadN X1.here hx rfl (hb hby d36_7) rfl) ?_
  show Go p e below T1 (mkF m 8 #[.val (.ref t), .val (.int (1 : Int32))] [(.int (1 : Int32))]) _
  refine stp (fun _ => XS.ifNo X1.here hx rfl (hb hby d36_8) rfl (by decide)) ?_
  show Go p e below T1 (mkF m 11 #[.val (.ref t), .val (.int (1 : Int32))] []) _
  refine stp (fun _ => XS.aloadN X1.here hx rfl (hb hby d36_11) rfl rfl) ?_
  show Go p e below T1 (mkF m 12 #[.val (.ref t), .val (.int (1 : Int32))] [(.ref t)]) _
  obtain ⟨T2, X2, e2, st2⟩ := getF X1 hx hZ hown (host := "") (Or.inl (hw _ (List.mem_of_getElem? (i := 248) rfl))) Via.refl e1 F_t_unreadInterface (g := (mkF m 12 #[.val (.ref t), .val (.int (1 : Int32))] [(.ref t)])) rfl rfl (hb hby d36_12)
  refine stp st2 ?_
  show Go p e below T2 (mkF m 15 #[.val (.ref t), .val (.int (1 : Int32))] [(.int (0 : Int32))]) _
  refine stp (fun _ => XS.ifYes X2.here hx rfl (pc0 := 15) (pc' := 22) rfl (hb hby d36_15) rfl (by decide) (by decide) (by decide)) ?_
  show Go p e below T2 (mkF m 22 #[.val (.ref t), .val (.int (1 : Int32))] []) _
  refine stp (fun _ => XS.iconst X2.here hx rfl (hb hby d36_22)) ?_
  show Go p e below T2 (mkF m 23 #[.val (.ref t), .val (.int (1 : Int32))] [(.int (0 : Int32))]) _
  refine outN X2 hx (t := .boolean) hret (by simp) (hb hby d36_23) hlk (by decide) (by decide) ?_
  exact ⟨rfl, N0, e2⟩
theorem ef_rm_su01 (m : MethodId) (t : Addr) (sa : Addr) (sb : Addr)  : entryFrame m #[(.ref t), (.ref sa), (.ref sb), (.int (0 : Int32)), (.int (1 : Int32))] 5 = mkF m 0 #[.val (.ref t), .val (.ref sa), .val (.ref sb), .val (.int (0 : Int32)), .val (.int (1 : Int32))] [] := by first | (simp [entryFrame, mkF, argsToLocals, Value.category]; done) | rfl
def Q_rm_su01 (Z : State) (t : Addr) (sa : Addr) (sb : Addr) (mA : Addr) (mS : Addr) (m1 : Addr) (m2 : Addr) (h0 : Heap) (n0 : Nat) (v : Option Value) (h : Heap) (L : List Loc) : Prop := v = none ∧ Fr n0 L ∧ Keep h0 h [t, m1, m2] ∧ Exa Z h t "com/example/revlint/revlint/model/Library$Supertypes" ∧ Fld Z h t "com/example/revlint/revlint/model/Library$Supertypes" "unreadSuperclass" "Z" (.int (0 : Int32)) ∧ Fld Z h t "com/example/revlint/revlint/model/Library$Supertypes" "unreadInterface" "Z" (.int (1 : Int32))
set_option maxRecDepth 65536 in
set_option maxHeartbeats 40000000 in
theorem rm_su01 (l : Launch) (Z : State) (a0 : Array Value) (hw : ∀ d ∈ tables_1, d.before a0 Z = true) (ws : List Jvm.Cond) (t : Addr) (sa : Addr) (sb : Addr) (mA : Addr) (mS : Addr) (m1 : Addr) (m2 : Addr) (h0 : Heap) (n0 : Nat) (O0 : Old Z n0 h0) (E_t : Exa Z h0 t "com/example/revlint/revlint/model/Library$Supertypes") (F_t_names : Fld Z h0 t "com/example/revlint/revlint/model/Library$Supertypes" "names" "Ljava/util/Set;" .null) (F_t_interfaces : Fld Z h0 t "com/example/revlint/revlint/model/Library$Supertypes" "interfaces" "Ljava/util/Set;" .null) (F_t_unreadSuperclass : Fld Z h0 t "com/example/revlint/revlint/model/Library$Supertypes" "unreadSuperclass" "Z" (.int (0 : Int32))) (F_t_unreadInterface : Fld Z h0 t "com/example/revlint/revlint/model/Library$Supertypes" "unreadInterface" "Z" (.int (0 : Int32))) (E_sa : Exa Z h0 sa "java/util/HashSet") (F_sa_map : Fld Z h0 sa "java/util/HashSet" "map" "Ljava/util/HashMap;" (.ref m1)) (E_m1 : Exa Z h0 m1 "java/util/HashMap") (F_m1_size : Fld Z h0 m1 "java/util/HashMap" "size" "I" (.int (0 : Int32))) (F_m1_keySet : Fld Z h0 m1 "java/util/AbstractMap" "keySet" "Ljava/util/Set;" .null) (F_m1_table : Fld Z h0 m1 "java/util/HashMap" "table" "[Ljava/util/HashMap$Node;" .null) (F_m1_modCount : Fld Z h0 m1 "java/util/HashMap" "modCount" "I" (.int (0 : Int32))) (E_sb : Exa Z h0 sb "java/util/HashSet") (F_sb_map : Fld Z h0 sb "java/util/HashSet" "map" "Ljava/util/HashMap;" (.ref m2)) (E_m2 : Exa Z h0 m2 "java/util/HashMap") (F_m2_size : Fld Z h0 m2 "java/util/HashMap" "size" "I" (.int (0 : Int32))) (F_m2_keySet : Fld Z h0 m2 "java/util/AbstractMap" "keySet" "Ljava/util/Set;" .null) (F_m2_table : Fld Z h0 m2 "java/util/HashMap" "table" "[Ljava/util/HashMap$Node;" .null) (F_m2_modCount : Fld Z h0 m2 "java/util/HashMap" "modCount" "I" (.int (0 : Int32))) (S__assertionsDisabled : Sta Z Z.heap "java/lang/StrictMath" "$assertionsDisabled" "Z" (.int (1 : Int32))) (ge_t : n0 ≤ t) (ge_m1 : n0 ≤ m1) (ge_m2 : n0 ≤ m2) (ne_m1_m2 : m1 ≠ m2) (ne_m1_sa : m1 ≠ sa) (ne_m1_sb : m1 ≠ sb) (ne_m1_t : m1 ≠ t) (ne_m2_sa : m2 ≠ sa) (ne_m2_sb : m2 ≠ sb) (ne_m2_t : m2 ≠ t) (ne_sa_t : sa ≠ t) (ne_sb_t : sb ≠ t) (hmA : OwMir Z "java/util/HashSet" mA) (hmS : OwMir Z "java/util/Collections$UnmodifiableSet" mS) :
    MetFree l (⟨"com/example/revlint/revlint/model/Library$Supertypes", "<init>", "(Ljava/util/Set;Ljava/util/Set;ZZ)V"⟩ : MethodName) (head1 (Jvm.Cond.code (⟨"com/example/revlint/revlint/model/Library$Supertypes", "<init>", "(Ljava/util/Set;Ljava/util/Set;ZZ)V"⟩ : MethodName) prog_34_method_1_code 5 none :: ws) ({ frames := 9, cells := 10, slots := 32, locals := 120 } : Room)) (fun args_ U => args_ = #[(.ref t), (.ref sa), (.ref sb), (.int (0 : Int32)), (.int (1 : Int32))] ∧ Z.Warmed39 U.vm ∧ U.heap = h0) (fun _ _ _ _ _ => True) (fun _ U out_ U' => ∃ val_ loc_, out_ = .returned val_ ∧ (Q_rm_su01 Z t sa sb mA mS m1 m2 h0 n0) val_ U'.heap loc_ ∧ FrameEnd U out_ U' loc_ ({ frames := 9, cells := 10, slots := 32, locals := 120 } : Room).cells ({ frames := 9, cells := 10, slots := 32, locals := 120 } : Room).slots) := by
  refine start (Q := (Q_rm_su01 Z t sa sb mA mS m1 m2 h0 n0)) pn_28 ?_
  intro p e s m below meth c T0 X0 hx hby hml hown hnm hret hlk hZ e0
  replace hown : s.vm.findClass "com/example/revlint/revlint/model/Library$Supertypes" = some m.cls := hown
  replace hml : c.maxLocals = 5 := hml
  refine goAt (ef_rm_su01 m t sa sb ) ?_
  have N0 := Fr.nil n0
  show Go p e below T0 (mkF m 0 #[.val (.ref t), .val (.ref sa), .val (.ref sb), .val (.int (0 : Int32)), .val (.int (1 : Int32))] []) _
  refine stp (fun _ => XS.aloadN X0.here hx rfl (hb hby d7_0) rfl rfl) ?_
  show Go p e below T0 (mkF m 1 #[.val (.ref t), .val (.ref sa), .val (.ref sb), .val (.int (0 : Int32)), .val (.int (1 : Int32))] [(.ref t)]) _
  obtain ⟨_, _, ⟨T1, L1, k1, n1⟩, -, X1, ⟨Lc1, hQ1, l1, y1, z1⟩, st1⟩ := X0.specialBack hx (y := (⟨"java/lang/Record", "<init>", "()V"⟩ : MethodName)) rfl hown (mvT hZ (hw _ (List.mem_of_getElem? (i := 46) rfl))) (mvT hZ (hw _ (List.mem_of_getElem? (i := 47) rfl))) (mvT hZ (hw _ (List.mem_of_getElem? (i := 50) rfl))) (by decide) (backOf (W := 0) (rm_rec l Z a0 hw [] t  h0 n0 O0 ) hZ (hw _ (List.mem_of_getElem? (i := 50) rfl)) (hw _ (List.mem_of_getElem? (i := 49) rfl)) (by decide) (by decide)) (g := (mkF m 1 #[.val (.ref t), .val (.ref sa), .val (.ref sb), .val (.int (0 : Int32)), .val (.int (1 : Int32))] [(.ref t)])) rfl (by rw [hml]; rfl) (Steps.refl _) (a := t) (argsL := []) (rest := []) (lenOf pd_0 rfl) rfl (by show 2 * 0 + _ ≤ _; exact Nat.le_of_eq rfl) (hb hby d7_1) (fun _ _ => ⟨rfl, e0, (by decide : 0 + 0 ≤ _), (by decide : 0 + 0 ≤ _)⟩)
  dsimp only [Pt.U, Pt.locs, Pt.cells, Pt.slots] at X1 l1 y1 z1 st1 hQ1
  subst y1 z1
  obtain ⟨rfl, N1q, e1⟩ := hQ1
  have N1 : Fr n0 L1 := by rw [l1]; exact Fr.app N0 N1q
  refine stt st1 ?_
  show Go p e below T1 (mkF m 4 #[.val (.ref t), .val (.ref sa), .val (.ref sb), .val (.int (0 : Int32)), .val (.int (1 : Int32))] []) _
  refine stp (fun _ => XS.aloadN X1.here hx rfl (hb hby d7_4) rfl rfl) ?_
  show Go p e below T1 (mkF m 5 #[.val (.ref t), .val (.ref sa), .val (.ref sb), .val (.int (0 : Int32)), .val (.int (1 : Int32))] [(.ref sa)]) _
  obtain ⟨_, _, ⟨T2, L2, k2, n2⟩, -, X2, ⟨Lc2, hQ2, l2, y2, z2⟩, st2⟩ := callSN X1 hx (y := (⟨"com/example/revlint/revlint/model/Library", "unmodifiableCopy", "(Ljava/util/Set;)Ljava/util/Set;"⟩ : MethodName)) hown (mvMN hZ (hw _ (List.mem_of_getElem? (i := 52) rfl))) (mvT hZ (hw _ (List.mem_of_getElem? (i := 53) rfl))) (mvT hZ (hw _ (List.mem_of_getElem? (i := 54) rfl))) (mvT hZ (hw _ (List.mem_of_getElem? (i := 55) rfl))) (by decide) (backOf (W := 0) (rm_uco l Z a0 hw [] sa mA mS m1 h0 n0 O0 E_sa F_sa_map E_m1 F_m1_size F_m1_keySet F_m1_table F_m1_modCount S__assertionsDisabled ge_m1 ne_m1_sa hmA hmS) hZ (hw _ (List.mem_of_getElem? (i := 55) rfl)) (hw _ (List.mem_of_getElem? (i := 54) rfl)) (by decide) (by decide)) (g := (mkF m 5 #[.val (.ref t), .val (.ref sa), .val (.ref sb), .val (.int (0 : Int32)), .val (.int (1 : Int32))] [(.ref sa)])) rfl (by rw [hml]; rfl) (argsL := [(.ref sa)]) (rest := []) (lenOf pd_16 rfl) rfl (by show 2 * 0 + _ ≤ _; exact Nat.le_of_eq rfl) (hb hby d7_5) (fun _ _ => ⟨rfl, e1, (by decide : 0 + 5 ≤ _), (by decide : 0 + 16 ≤ _)⟩)
  dsimp only [Pt.U, Pt.locs, Pt.cells, Pt.slots] at X2 l2 y2 z2 st2 hQ2
  subst y2 z2
  obtain ⟨r2, rfl, N2q, K2q⟩ := hQ2
  have N2 : Fr n0 L2 := by rw [l2]; exact Fr.app N1 N2q
  have f3 := E_t.keep K2q
  have f4 := F_t_names.keep K2q (ninS (Ne.symm ne_m1_t) nin0)
  have f5 := F_t_interfaces.keep K2q (ninS (Ne.symm ne_m1_t) nin0)
  have f6 := F_t_unreadSuperclass.keep K2q (ninS (Ne.symm ne_m1_t) nin0)
  have f7 := F_t_unreadInterface.keep K2q (ninS (Ne.symm ne_m1_t) nin0)
  have f8 := E_sa.keep K2q
  have f9 := F_sa_map.keep K2q (ninS (Ne.symm ne_m1_sa) nin0)
  have f10 := E_m1.keep K2q
  have f11 := E_sb.keep K2q
  have f12 := F_sb_map.keep K2q (ninS (Ne.symm ne_m1_sb) nin0)
  have f13 := E_m2.keep K2q
  have f14 := F_m2_size.keep K2q (ninS (Ne.symm ne_m1_m2) nin0)
  have f15 := F_m2_keySet.keep K2q (ninS (Ne.symm ne_m1_m2) nin0)
  have f16 := F_m2_table.keep K2q (ninS (Ne.symm ne_m1_m2) nin0)
  have f17 := F_m2_modCount.keep K2q (ninS (Ne.symm ne_m1_m2) nin0)
  have K2 : Keep h0 T2.heap [t, m1, m2] := (Keep.refl h0 [t, m1, m2]).trans K2q (allS (Or.inl (List.mem_of_getElem? (i := 1) rfl)) all0)
  have O2 := O0.keep K2q (allS ge_m1 all0)
  refine stt st2 ?_
  show Go p e below T2 (mkF m 8 #[.val (.ref t), .val (.ref sa), .val (.ref sb), .val (.int (0 : Int32)), .val (.int (1 : Int32))] [(.ref r2)]) _
  refine stp (fun _ => XS.astoreN X2.here hx rfl (hb hby d7_8) rfl rfl (l' := #[.val (.ref t), .val (.ref r2), .val (.ref sb), .val (.int (0 : Int32)), .val (.int (1 : Int32))]) rfl) ?_
  show Go p e below T2 (mkF m 9 #[.val (.ref t), .val (.ref r2), .val (.ref sb), .val (.int (0 : Int32)), .val (.int (1 : Int32))] []) _
  refine stp (fun _ => XS.aloadN X2.here hx rfl (hb hby d7_9) rfl rfl) ?_
  show Go p e below T2 (mkF m 10 #[.val (.ref t), .val (.ref r2), .val (.ref sb), .val (.int (0 : Int32)), .val (.int (1 : Int32))] [(.ref sb)]) _
  obtain ⟨_, _, ⟨T18, L18, k18, n18⟩, -, X18, ⟨Lc18, hQ18, l18, y18, z18⟩, st18⟩ := callSN X2 hx (y := (⟨"com/example/revlint/revlint/model/Library", "unmodifiableCopy", "(Ljava/util/Set;)Ljava/util/Set;"⟩ : MethodName)) hown (mvMN hZ (hw _ (List.mem_of_getElem? (i := 52) rfl))) (mvT hZ (hw _ (List.mem_of_getElem? (i := 53) rfl))) (mvT hZ (hw _ (List.mem_of_getElem? (i := 54) rfl))) (mvT hZ (hw _ (List.mem_of_getElem? (i := 55) rfl))) (by decide) (backOf (W := 0) (rm_uco l Z a0 hw [] sb mA mS m2 T2.heap n0 O2 f11 f12 f13 f14 f15 f16 f17 S__assertionsDisabled ge_m2 ne_m2_sb hmA hmS) hZ (hw _ (List.mem_of_getElem? (i := 55) rfl)) (hw _ (List.mem_of_getElem? (i := 54) rfl)) (by decide) (by decide)) (g := (mkF m 10 #[.val (.ref t), .val (.ref r2), .val (.ref sb), .val (.int (0 : Int32)), .val (.int (1 : Int32))] [(.ref sb)])) rfl (by rw [hml]; rfl) (argsL := [(.ref sb)]) (rest := []) (lenOf pd_16 rfl) rfl (by show 2 * 0 + _ ≤ _; exact Nat.le_of_eq rfl) (hb hby d7_10) (fun _ _ => ⟨rfl, rfl, (by decide : 5 + 5 ≤ _), (by decide : 16 + 16 ≤ _)⟩)
  dsimp only [Pt.U, Pt.locs, Pt.cells, Pt.slots] at X18 l18 y18 z18 st18 hQ18
  subst y18 z18
  obtain ⟨r18, rfl, N18q, K18q⟩ := hQ18
  have N18 : Fr n0 L18 := by rw [l18]; exact Fr.app N2 N18q
  have f19 := f3.keep K18q
  have f20 := f4.keep K18q (ninS (Ne.symm ne_m2_t) nin0)
  have f21 := f5.keep K18q (ninS (Ne.symm ne_m2_t) nin0)
  have f22 := f6.keep K18q (ninS (Ne.symm ne_m2_t) nin0)
  have f23 := f7.keep K18q (ninS (Ne.symm ne_m2_t) nin0)
  have f24 := f8.keep K18q
  have f25 := f9.keep K18q (ninS (Ne.symm ne_m2_sa) nin0)
  have f26 := f10.keep K18q
  have f27 := f11.keep K18q
  have f28 := f12.keep K18q (ninS (Ne.symm ne_m2_sb) nin0)
  have f29 := f13.keep K18q
  have K18 : Keep h0 T18.heap [t, m1, m2] := K2.trans K18q (allS (Or.inl (List.mem_of_getElem? (i := 2) rfl)) all0)
  have O18 := O2.keep K18q (allS ge_m2 all0)
  refine stt st18 ?_
  show Go p e below T18 (mkF m 13 #[.val (.ref t), .val (.ref r2), .val (.ref sb), .val (.int (0 : Int32)), .val (.int (1 : Int32))] [(.ref r18)]) _
  refine stp (fun _ => XS.astoreN X18.here hx rfl (hb hby d7_13) rfl rfl (l' := #[.val (.ref t), .val (.ref r2), .val (.ref r18), .val (.int (0 : Int32)), .val (.int (1 : Int32))]) rfl) ?_
  show Go p e below T18 (mkF m 14 #[.val (.ref t), .val (.ref r2), .val (.ref r18), .val (.int (0 : Int32)), .val (.int (1 : Int32))] []) _
  refine stp (fun _ => XS.aloadN X18.here hx rfl (hb hby d7_14) rfl rfl) ?_
  show Go p e below T18 (mkF m 15 #[.val (.ref t), .val (.ref r2), .val (.ref r18), .val (.int (0 : Int32)), .val (.int (1 : Int32))] [(.ref t)]) _
  refine stp (fun _ => XS.aloadN X18.here hx rfl (hb hby d7_15) rfl rfl) ?_
  show Go p e below T18 (mkF m 16 #[.val (.ref t), .val (.ref r2), .val (.ref r18), .val (.int (0 : Int32)), .val (.int (1 : Int32))] [(.ref r2), (.ref t)]) _
  obtain ⟨T30, h30, X30, e30, W30, st30⟩ := putF X18 hx hZ hown (host := "") (Or.inl (hw _ (List.mem_of_getElem? (i := 242) rfl))) Via.refl rfl f20 f19 (Or.inr ⟨(hw _ (List.mem_of_getElem? (i := 243) rfl)), rfl, hnm⟩) (hw _ (List.mem_of_getElem? (i := 1) rfl)) (ty := (.object "java/util/Set")) (by decide) rfl rfl (g := (mkF m 16 #[.val (.ref t), .val (.ref r2), .val (.ref r18), .val (.int (0 : Int32)), .val (.int (1 : Int32))] [(.ref r2), (.ref t)])) rfl rfl (hb hby d7_16)
  have Fw30 := f20.same W30
  have f31 := f19.wr W30
  have f33 := f21.other W30 (Or.inr (slot_ne (Or.inr (hw _ (List.mem_of_getElem? (i := 245) rfl))) (Or.inr (hw _ (List.mem_of_getElem? (i := 243) rfl))) (by decide) (t := (.object "java/util/Set")) (t' := (.object "java/util/Set")) (by decide) (by decide)))
  have f34 := f22.other W30 (Or.inr (slot_ne (Or.inr (hw _ (List.mem_of_getElem? (i := 247) rfl))) (Or.inr (hw _ (List.mem_of_getElem? (i := 243) rfl))) (by decide) (t := .boolean) (t' := (.object "java/util/Set")) (by decide) (by decide)))
  have f35 := f23.other W30 (Or.inr (slot_ne (Or.inr (hw _ (List.mem_of_getElem? (i := 249) rfl))) (Or.inr (hw _ (List.mem_of_getElem? (i := 243) rfl))) (by decide) (t := .boolean) (t' := (.object "java/util/Set")) (by decide) (by decide)))
  have f36 := f24.wr W30
  have f37 := f25.other W30 (Or.inl ne_sa_t)
  have f38 := f26.wr W30
  have f39 := f27.wr W30
  have f40 := f28.other W30 (Or.inl ne_sb_t)
  have f41 := f29.wr W30
  have K30 : Keep h0 h30 [t, m1, m2] := K18.wr W30 (Or.inl (List.mem_of_getElem? (i := 0) rfl))
  have O30 := O18.wr W30 ge_t
  have N30 := Fr.snoc X30 N18 ge_t
  refine stp st30 ?_
  show Go p e below T30 (mkF m 19 #[.val (.ref t), .val (.ref r2), .val (.ref r18), .val (.int (0 : Int32)), .val (.int (1 : Int32))] []) _
  refine stp (fun _ => XS.aloadN X30.here hx rfl (hb hby d7_19) rfl rfl) ?_
  show Go p e below T30 (mkF m 20 #[.val (.ref t), .val (.ref r2), .val (.ref r18), .val (.int (0 : Int32)), .val (.int (1 : Int32))] [(.ref t)]) _
  refine stp (fun _ => XS.aloadN X30.here hx rfl (hb hby d7_20) rfl rfl) ?_
  show Go p e below T30 (mkF m 21 #[.val (.ref t), .val (.ref r2), .val (.ref r18), .val (.int (0 : Int32)), .val (.int (1 : Int32))] [(.ref r18), (.ref t)]) _
  obtain ⟨T42, h42, X42, e42, W42, st42⟩ := putF X30 hx hZ hown (host := "") (Or.inl (hw _ (List.mem_of_getElem? (i := 244) rfl))) Via.refl e30 f33 f31 (Or.inr ⟨(hw _ (List.mem_of_getElem? (i := 245) rfl)), rfl, hnm⟩) (hw _ (List.mem_of_getElem? (i := 1) rfl)) (ty := (.object "java/util/Set")) (by decide) rfl rfl (g := (mkF m 21 #[.val (.ref t), .val (.ref r2), .val (.ref r18), .val (.int (0 : Int32)), .val (.int (1 : Int32))] [(.ref r18), (.ref t)])) rfl rfl (hb hby d7_21)
  have Fw42 := f33.same W42
  have f43 := f31.wr W42
  have f44 := Fw30.other W42 (Or.inr (slot_ne (Or.inr (hw _ (List.mem_of_getElem? (i := 243) rfl))) (Or.inr (hw _ (List.mem_of_getElem? (i := 245) rfl))) (by decide) (t := (.object "java/util/Set")) (t' := (.object "java/util/Set")) (by decide) (by decide)))
  have f46 := f34.other W42 (Or.inr (slot_ne (Or.inr (hw _ (List.mem_of_getElem? (i := 247) rfl))) (Or.inr (hw _ (List.mem_of_getElem? (i := 245) rfl))) (by decide) (t := .boolean) (t' := (.object "java/util/Set")) (by decide) (by decide)))
  have f47 := f35.other W42 (Or.inr (slot_ne (Or.inr (hw _ (List.mem_of_getElem? (i := 249) rfl))) (Or.inr (hw _ (List.mem_of_getElem? (i := 245) rfl))) (by decide) (t := .boolean) (t' := (.object "java/util/Set")) (by decide) (by decide)))
  have f48 := f36.wr W42
  have f49 := f37.other W42 (Or.inl ne_sa_t)
  have f50 := f38.wr W42
  have f51 := f39.wr W42
  have f52 := f40.other W42 (Or.inl ne_sb_t)
  have f53 := f41.wr W42
  have K42 : Keep h0 h42 [t, m1, m2] := K30.wr W42 (Or.inl (List.mem_of_getElem? (i := 0) rfl))
  have O42 := O30.wr W42 ge_t
  have N42 := Fr.snoc X42 N30 ge_t
  refine stp st42 ?_
  show Go p e below T42 (mkF m 24 #[.val (.ref t), .val (.ref r2), .val (.ref r18), .val (.int (0 : Int32)), .val (.int (1 : Int32))] []) _
  refine stp (fun _ => XS.aloadN X42.here hx rfl (hb hby d7_24) rfl rfl) ?_
  show Go p e below T42 (mkF m 25 #[.val (.ref t), .val (.ref r2), .val (.ref r18), .val (.int (0 : Int32)), .val (.int (1 : Int32))] [(.ref t)]) _
  refine stp (fun _ => XS.iloadN X42.here hx rfl (hb hby d7_25) rfl) ?_
  show Go p e below T42 (mkF m 26 #[.val (.ref t), .val (.ref r2), .val (.ref r18), .val (.int (0 : Int32)), .val (.int (1 : Int32))] [(.int (0 : Int32)), (.ref t)]) _
  obtain ⟨T54, h54, X54, e54, W54, st54⟩ := putFN X42 hx hZ hown (hw _ (List.mem_of_getElem? (i := 246) rfl)) Via.refl e42 f46 f43 (Or.inr ⟨(hw _ (List.mem_of_getElem? (i := 247) rfl)), rfl, hnm⟩) (hw _ (List.mem_of_getElem? (i := 1) rfl)) (ty := .boolean) (v' := (.int (0 : Int32))) (by decide) rfl rfl (g := (mkF m 26 #[.val (.ref t), .val (.ref r2), .val (.ref r18), .val (.int (0 : Int32)), .val (.int (1 : Int32))] [(.int (0 : Int32)), (.ref t)])) rfl rfl (hb hby d7_26)
  have Fw54 := f46.same W54
  have f55 := f43.wr W54
  have f56 := f44.other W54 (Or.inr (slot_ne (Or.inr (hw _ (List.mem_of_getElem? (i := 243) rfl))) (Or.inr (hw _ (List.mem_of_getElem? (i := 247) rfl))) (by decide) (t := (.object "java/util/Set")) (t' := .boolean) (by decide) (by decide)))
  have f57 := Fw42.other W54 (Or.inr (slot_ne (Or.inr (hw _ (List.mem_of_getElem? (i := 245) rfl))) (Or.inr (hw _ (List.mem_of_getElem? (i := 247) rfl))) (by decide) (t := (.object "java/util/Set")) (t' := .boolean) (by decide) (by decide)))
  have f59 := f47.other W54 (Or.inr (slot_ne (Or.inr (hw _ (List.mem_of_getElem? (i := 249) rfl))) (Or.inr (hw _ (List.mem_of_getElem? (i := 247) rfl))) (by decide) (t := .boolean) (t' := .boolean) (by decide) (by decide)))
  have f60 := f48.wr W54
  have f61 := f49.other W54 (Or.inl ne_sa_t)
  have f62 := f50.wr W54
  have f63 := f51.wr W54
  have f64 := f52.other W54 (Or.inl ne_sb_t)
  have f65 := f53.wr W54
  have K54 : Keep h0 h54 [t, m1, m2] := K42.wr W54 (Or.inl (List.mem_of_getElem? (i := 0) rfl))
  have O54 := O42.wr W54 ge_t
  have N54 := Fr.snoc X54 N42 ge_t
  refine stp st54 ?_
  show Go p e below T54 (mkF m 29 #[.val (.ref t), .val (.ref r2), .val (.ref r18), .val (.int (0 : Int32)), .val (.int (1 : Int32))] []) _
  refine stp (fun _ => XS.aloadN X54.here hx rfl (hb hby d7_29) rfl rfl) ?_
  show Go p e below T54 (mkF m 30 #[.val (.ref t), .val (.ref r2), .val (.ref r18), .val (.int (0 : Int32)), .val (.int (1 : Int32))] [(.ref t)]) _
  refine stp (fun _ => XS.iload X54.here hx rfl (hb hby d7_30) rfl) ?_
  show Go p e below T54 (mkF m 32 #[.val (.ref t), .val (.ref r2), .val (.ref r18), .val (.int (0 : Int32)), .val (.int (1 : Int32))] [(.int (1 : Int32)), (.ref t)]) _
  obtain ⟨T66, h66, X66, e66, W66, st66⟩ := putFN X54 hx hZ hown (hw _ (List.mem_of_getElem? (i := 248) rfl)) Via.refl e54 f59 f55 (Or.inr ⟨(hw _ (List.mem_of_getElem? (i := 249) rfl)), rfl, hnm⟩) (hw _ (List.mem_of_getElem? (i := 1) rfl)) (ty := .boolean) (v' := (.int (1 : Int32))) (by decide) rfl rfl (g := (mkF m 32 #[.val (.ref t), .val (.ref r2), .val (.ref r18), .val (.int (0 : Int32)), .val (.int (1 : Int32))] [(.int (1 : Int32)), (.ref t)])) rfl rfl (hb hby d7_32)
  have Fw66 := f59.same W66
  have f67 := f55.wr W66
  have f68 := f56.other W66 (Or.inr (slot_ne (Or.inr (hw _ (List.mem_of_getElem? (i := 243) rfl))) (Or.inr (hw _ (List.mem_of_getElem? (i := 249) rfl))) (by decide) (t := (.object "java/util/Set")) (t' := .boolean) (by decide) (by decide)))
  have f69 := f57.other W66 (Or.inr (slot_ne (Or.inr (hw _ (List.mem_of_getElem? (i := 245) rfl))) (Or.inr (hw _ (List.mem_of_getElem? (i := 249) rfl))) (by decide) (t := (.object "java/util/Set")) (t' := .boolean) (by decide) (by decide)))
  have f70 := Fw54.other W66 (Or.inr (slot_ne (Or.inr (hw _ (List.mem_of_getElem? (i := 247) rfl))) (Or.inr (hw _ (List.mem_of_getElem? (i := 249) rfl))) (by decide) (t := .boolean) (t' := .boolean) (by decide) (by decide)))
  have f72 := f60.wr W66
  have f73 := f61.other W66 (Or.inl ne_sa_t)
  have f74 := f62.wr W66
  have f75 := f63.wr W66
  have f76 := f64.other W66 (Or.inl ne_sb_t)
  have f77 := f65.wr W66
  have K66 : Keep h0 h66 [t, m1, m2] := K54.wr W66 (Or.inl (List.mem_of_getElem? (i := 0) rfl))
  have O66 := O54.wr W66 ge_t
  have N66 := Fr.snoc X66 N54 ge_t
  refine stp st66 ?_
  show Go p e below T66 (mkF m 35 #[.val (.ref t), .val (.ref r2), .val (.ref r18), .val (.int (0 : Int32)), .val (.int (1 : Int32))] []) _
  refine outV X66 hx hret (hb hby d7_35) hlk (by decide) (by decide) ?_
  rw [e66]
  exact ⟨rfl, N66, K66, f67, f70, Fw66⟩
theorem ef_rm_mh010 (m : MethodId) (t : Addr)  : entryFrame m #[(.ref t), (.int (0 : Int32))] 2 = mkF m 0 #[.val (.ref t), .val (.int (0 : Int32))] [] := by first | (simp [entryFrame, mkF, argsToLocals, Value.category]; done) | rfl
def Q_rm_mh010 (Z : State) (t : Addr)  (h0 : Heap) (n0 : Nat) (v : Option Value) (h : Heap) (L : List Loc) : Prop := v = some (.int (0 : Int32)) ∧ Fr n0 L ∧ h = h0
set_option maxRecDepth 65536 in
set_option maxHeartbeats 40000000 in
theorem rm_mh010 (l : Launch) (Z : State) (a0 : Array Value) (hw : ∀ d ∈ tables_1, d.before a0 Z = true) (ws : List Jvm.Cond) (t : Addr)  (h0 : Heap) (n0 : Nat) (O0 : Old Z n0 h0) (F_t_unreadSuperclass : Fld Z h0 t "com/example/revlint/revlint/model/Library$Supertypes" "unreadSuperclass" "Z" (.int (0 : Int32))) (F_t_unreadInterface : Fld Z h0 t "com/example/revlint/revlint/model/Library$Supertypes" "unreadInterface" "Z" (.int (1 : Int32))) :
    MetFree l (⟨"com/example/revlint/revlint/model/Library$Supertypes", "mayHaveUnnamed", "(Z)Z"⟩ : MethodName) (head1 (Jvm.Cond.code (⟨"com/example/revlint/revlint/model/Library$Supertypes", "mayHaveUnnamed", "(Z)Z"⟩ : MethodName) prog_34_method_2_code 2 (some .boolean) :: ws) ({ frames := 0, cells := 0, slots := 0, locals := 0 } : Room)) (fun args_ U => args_ = #[(.ref t), (.int (0 : Int32))] ∧ Z.Warmed39 U.vm ∧ U.heap = h0) (fun _ _ _ _ _ => True) (fun _ U out_ U' => ∃ val_ loc_, out_ = .returned val_ ∧ (Q_rm_mh010 Z t h0 n0) val_ U'.heap loc_ ∧ FrameEnd U out_ U' loc_ ({ frames := 0, cells := 0, slots := 0, locals := 0 } : Room).cells ({ frames := 0, cells := 0, slots := 0, locals := 0 } : Room).slots) := by
  refine start (Q := (Q_rm_mh010 Z t h0 n0)) pn_29 ?_
  intro p e s m below meth c T0 X0 hx hby hml hown hnm hret hlk hZ e0
  replace hown : s.vm.findClass "com/example/revlint/revlint/model/Library$Supertypes" = some m.cls := hown
  replace hml : c.maxLocals = 2 := hml
  refine goAt (ef_rm_mh010 m t ) ?_
  have N0 := Fr.nil n0
  show Go p e below T0 (mkF m 0 #[.val (.ref t), .val (.int (0 : Int32))] []) _
  refine stp (fun _ => XS.aloadN X0.here hx rfl (hb hby d36_0) rfl rfl) ?_
  show Go p e below T0 (mkF m 1 #[.val (.ref t), .val (.int (0 : Int32))] [(.ref t)]) _
  obtain ⟨T1, X1, e1, st1⟩ := getF X0 hx hZ hown (host := "") (Or.inl (hw _ (List.mem_of_getElem? (i := 246) rfl))) Via.refl e0 F_t_unreadSuperclass (g := (mkF m 1 #[.val (.ref t), .val (.int (0 : Int32))] [(.ref t)])) rfl rfl (hb hby d36_1)
  refine stp st1 ?_
  show Go p e below T1 (mkF m 4 #[.val (.ref t), .val (.int (0 : Int32))] [(.int (0 : Int32))]) _
  refine stp (fun _ => XS.ifNo X1.here hx rfl (hb hby d36_4) rfl (by decide)) ?_
  show Go p e below T1 (mkF m 7 #[.val (.ref t), .val (.int (0 : Int32))] []) _
  refine stp (fun _ => XS.iloadN X1.here hx rfl (hb hby d36_7) rfl) ?_
  show Go p e below T1 (mkF m 8 #[.val (.ref t), .val (.int (0 : Int32))] [(.int (0 : Int32))]) _
  refine stp (fun _ => XS.ifYes X1.here hx rfl (pc0 := 8) (pc' := 22) rfl (hb hby d36_8) rfl (by decide) (by decide) (by decide)) ?_
  show Go p e below T1 (mkF m 22 #[.val (.ref t), .val (.int (0 : Int32))] []) _
  refine stp (fun _ => XS.iconst X1.here hx rfl (hb hby d36_22)) ?_
  show Go p e below T1 (mkF m 23 #[.val (.ref t), .val (.int (0 : Int32))] [(.int (0 : Int32))]) _
  refine outN X1 hx (t := .boolean) hret (by simp) (hb hby d36_23) hlk (by decide) (by decide) ?_
  exact ⟨rfl, N0, e1⟩
theorem d36_18 : decode prog_34_method_2_code 18 = .ok (.iconst 1, 1) := by decide +kernel
theorem d36_19 : decode prog_34_method_2_code 19 = .ok (.goto 4, 3) := by decide +kernel
theorem ef_rm_mh011 (m : MethodId) (t : Addr)  : entryFrame m #[(.ref t), (.int (1 : Int32))] 2 = mkF m 0 #[.val (.ref t), .val (.int (1 : Int32))] [] := by first | (simp [entryFrame, mkF, argsToLocals, Value.category]; done) | rfl
def Q_rm_mh011 (Z : State) (t : Addr)  (h0 : Heap) (n0 : Nat) (v : Option Value) (h : Heap) (L : List Loc) : Prop := v = some (.int (1 : Int32)) ∧ Fr n0 L ∧ h = h0
set_option maxRecDepth 65536 in
set_option maxHeartbeats 40000000 in
theorem rm_mh011 (l : Launch) (Z : State) (a0 : Array Value) (hw : ∀ d ∈ tables_1, d.before a0 Z = true) (ws : List Jvm.Cond) (t : Addr)  (h0 : Heap) (n0 : Nat) (O0 : Old Z n0 h0) (F_t_unreadSuperclass : Fld Z h0 t "com/example/revlint/revlint/model/Library$Supertypes" "unreadSuperclass" "Z" (.int (0 : Int32))) (F_t_unreadInterface : Fld Z h0 t "com/example/revlint/revlint/model/Library$Supertypes" "unreadInterface" "Z" (.int (1 : Int32))) :
    MetFree l (⟨"com/example/revlint/revlint/model/Library$Supertypes", "mayHaveUnnamed", "(Z)Z"⟩ : MethodName) (head1 (Jvm.Cond.code (⟨"com/example/revlint/revlint/model/Library$Supertypes", "mayHaveUnnamed", "(Z)Z"⟩ : MethodName) prog_34_method_2_code 2 (some .boolean) :: ws) ({ frames := 0, cells := 0, slots := 0, locals := 0 } : Room)) (fun args_ U => args_ = #[(.ref t), (.int (1 : Int32))] ∧ Z.Warmed39 U.vm ∧ U.heap = h0) (fun _ _ _ _ _ => True) (fun _ U out_ U' => ∃ val_ loc_, out_ = .returned val_ ∧ (Q_rm_mh011 Z t h0 n0) val_ U'.heap loc_ ∧ FrameEnd U out_ U' loc_ ({ frames := 0, cells := 0, slots := 0, locals := 0 } : Room).cells ({ frames := 0, cells := 0, slots := 0, locals := 0 } : Room).slots) := by
  refine start (Q := (Q_rm_mh011 Z t h0 n0)) pn_29 ?_
  intro p e s m below meth c T0 X0 hx hby hml hown hnm hret hlk hZ e0
  replace hown : s.vm.findClass "com/example/revlint/revlint/model/Library$Supertypes" = some m.cls := hown
  replace hml : c.maxLocals = 2 := hml
  refine goAt (ef_rm_mh011 m t ) ?_
  have N0 := Fr.nil n0
  show Go p e below T0 (mkF m 0 #[.val (.ref t), .val (.int (1 : Int32))] []) _
  refine stp (fun _ => XS.aloadN X0.here hx rfl (hb hby d36_0) rfl rfl) ?_
  show Go p e below T0 (mkF m 1 #[.val (.ref t), .val (.int (1 : Int32))] [(.ref t)]) _
  obtain ⟨T1, X1, e1, st1⟩ := getF X0 hx hZ hown (host := "") (Or.inl (hw _ (List.mem_of_getElem? (i := 246) rfl))) Via.refl e0 F_t_unreadSuperclass (g := (mkF m 1 #[.val (.ref t), .val (.int (1 : Int32))] [(.ref t)])) rfl rfl (hb hby d36_1)
  refine stp st1 ?_
  show Go p e below T1 (mkF m 4 #[.val (.ref t), .val (.int (1 : Int32))] [(.int (0 : Int32))]) _
  refine stp (fun _ => XS.ifNo X1.here hx rfl (hb hby d36_4) rfl (by decide)) ?_
  show Go p e below T1 (mkF m 7 #[.val (.ref t), .val (.int (1 : Int32))] []) _
  refine stp (fun _ => XS.iloadN X1.here hx rfl (hb hby d36_7) rfl) ?_
  show Go p e below T1 (mkF m 8 #[.val (.ref t), .val (.int (1 : Int32))] [(.int (1 : Int32))]) _
  refine stp (fun _ => XS.ifNo X1.here hx rfl (hb hby d36_8) rfl (by decide)) ?_
  show Go p e below T1 (mkF m 11 #[.val (.ref t), .val (.int (1 : Int32))] []) _
  refine stp (fun _ => XS.aloadN X1.here hx rfl (hb hby d36_11) rfl rfl) ?_
  show Go p e below T1 (mkF m 12 #[.val (.ref t), .val (.int (1 : Int32))] [(.ref t)]) _
  obtain ⟨T2, X2, e2, st2⟩ := getF X1 hx hZ hown (host := "") (Or.inl (hw _ (List.mem_of_getElem? (i := 248) rfl))) Via.refl e1 F_t_unreadInterface (g := (mkF m 12 #[.val (.ref t), .val (.int (1 : Int32))] [(.ref t)])) rfl rfl (hb hby d36_12)
  refine stp st2 ?_
  show Go p e below T2 (mkF m 15 #[.val (.ref t), .val (.int (1 : Int32))] [(.int (1 : Int32))]) _
  refine stp (fun _ => XS.ifNo X2.here hx rfl (hb hby d36_15) rfl (by decide)) ?_
  show Go p e below T2 (mkF m 18 #[.val (.ref t), .val (.int (1 : Int32))] []) _
  refine stp (fun _ => XS.iconst X2.here hx rfl (hb hby d36_18)) ?_
  show Go p e below T2 (mkF m 19 #[.val (.ref t), .val (.int (1 : Int32))] [(.int (1 : Int32))]) _
  refine stp (fun _ => XS.goto X2.here hx rfl (pc0 := 19) (pc' := 23) rfl (hb hby d36_19) (by decide) (by decide)) ?_
  show Go p e below T2 (mkF m 23 #[.val (.ref t), .val (.int (1 : Int32))] [(.int (1 : Int32))]) _
  refine outN X2 hx (t := .boolean) hret (by simp) (hb hby d36_23) hlk (by decide) (by decide) ?_
  exact ⟨rfl, N0, e2⟩
theorem ef_rm_su10 (m : MethodId) (t : Addr) (sa : Addr) (sb : Addr)  : entryFrame m #[(.ref t), (.ref sa), (.ref sb), (.int (1 : Int32)), (.int (0 : Int32))] 5 = mkF m 0 #[.val (.ref t), .val (.ref sa), .val (.ref sb), .val (.int (1 : Int32)), .val (.int (0 : Int32))] [] := by first | (simp [entryFrame, mkF, argsToLocals, Value.category]; done) | rfl
def Q_rm_su10 (Z : State) (t : Addr) (sa : Addr) (sb : Addr) (mA : Addr) (mS : Addr) (m1 : Addr) (m2 : Addr) (h0 : Heap) (n0 : Nat) (v : Option Value) (h : Heap) (L : List Loc) : Prop := v = none ∧ Fr n0 L ∧ Keep h0 h [t, m1, m2] ∧ Exa Z h t "com/example/revlint/revlint/model/Library$Supertypes" ∧ Fld Z h t "com/example/revlint/revlint/model/Library$Supertypes" "unreadSuperclass" "Z" (.int (1 : Int32)) ∧ Fld Z h t "com/example/revlint/revlint/model/Library$Supertypes" "unreadInterface" "Z" (.int (0 : Int32))
set_option maxRecDepth 65536 in
set_option maxHeartbeats 40000000 in
theorem rm_su10 (l : Launch) (Z : State) (a0 : Array Value) (hw : ∀ d ∈ tables_1, d.before a0 Z = true) (ws : List Jvm.Cond) (t : Addr) (sa : Addr) (sb : Addr) (mA : Addr) (mS : Addr) (m1 : Addr) (m2 : Addr) (h0 : Heap) (n0 : Nat) (O0 : Old Z n0 h0) (E_t : Exa Z h0 t "com/example/revlint/revlint/model/Library$Supertypes") (F_t_names : Fld Z h0 t "com/example/revlint/revlint/model/Library$Supertypes" "names" "Ljava/util/Set;" .null) (F_t_interfaces : Fld Z h0 t "com/example/revlint/revlint/model/Library$Supertypes" "interfaces" "Ljava/util/Set;" .null) (F_t_unreadSuperclass : Fld Z h0 t "com/example/revlint/revlint/model/Library$Supertypes" "unreadSuperclass" "Z" (.int (0 : Int32))) (F_t_unreadInterface : Fld Z h0 t "com/example/revlint/revlint/model/Library$Supertypes" "unreadInterface" "Z" (.int (0 : Int32))) (E_sa : Exa Z h0 sa "java/util/HashSet") (F_sa_map : Fld Z h0 sa "java/util/HashSet" "map" "Ljava/util/HashMap;" (.ref m1)) (E_m1 : Exa Z h0 m1 "java/util/HashMap") (F_m1_size : Fld Z h0 m1 "java/util/HashMap" "size" "I" (.int (0 : Int32))) (F_m1_keySet : Fld Z h0 m1 "java/util/AbstractMap" "keySet" "Ljava/util/Set;" .null) (F_m1_table : Fld Z h0 m1 "java/util/HashMap" "table" "[Ljava/util/HashMap$Node;" .null) (F_m1_modCount : Fld Z h0 m1 "java/util/HashMap" "modCount" "I" (.int (0 : Int32))) (E_sb : Exa Z h0 sb "java/util/HashSet") (F_sb_map : Fld Z h0 sb "java/util/HashSet" "map" "Ljava/util/HashMap;" (.ref m2)) (E_m2 : Exa Z h0 m2 "java/util/HashMap") (F_m2_size : Fld Z h0 m2 "java/util/HashMap" "size" "I" (.int (0 : Int32))) (F_m2_keySet : Fld Z h0 m2 "java/util/AbstractMap" "keySet" "Ljava/util/Set;" .null) (F_m2_table : Fld Z h0 m2 "java/util/HashMap" "table" "[Ljava/util/HashMap$Node;" .null) (F_m2_modCount : Fld Z h0 m2 "java/util/HashMap" "modCount" "I" (.int (0 : Int32))) (S__assertionsDisabled : Sta Z Z.heap "java/lang/StrictMath" "$assertionsDisabled" "Z" (.int (1 : Int32))) (ge_t : n0 ≤ t) (ge_m1 : n0 ≤ m1) (ge_m2 : n0 ≤ m2) (ne_m1_m2 : m1 ≠ m2) (ne_m1_sa : m1 ≠ sa) (ne_m1_sb : m1 ≠ sb) (ne_m1_t : m1 ≠ t) (ne_m2_sa : m2 ≠ sa) (ne_m2_sb : m2 ≠ sb) (ne_m2_t : m2 ≠ t) (ne_sa_t : sa ≠ t) (ne_sb_t : sb ≠ t) (hmA : OwMir Z "java/util/HashSet" mA) (hmS : OwMir Z "java/util/Collections$UnmodifiableSet" mS) :
    MetFree l (⟨"com/example/revlint/revlint/model/Library$Supertypes", "<init>", "(Ljava/util/Set;Ljava/util/Set;ZZ)V"⟩ : MethodName) (head1 (Jvm.Cond.code (⟨"com/example/revlint/revlint/model/Library$Supertypes", "<init>", "(Ljava/util/Set;Ljava/util/Set;ZZ)V"⟩ : MethodName) prog_34_method_1_code 5 none :: ws) ({ frames := 9, cells := 10, slots := 32, locals := 120 } : Room)) (fun args_ U => args_ = #[(.ref t), (.ref sa), (.ref sb), (.int (1 : Int32)), (.int (0 : Int32))] ∧ Z.Warmed39 U.vm ∧ U.heap = h0) (fun _ _ _ _ _ => True) (fun _ U out_ U' => ∃ val_ loc_, out_ = .returned val_ ∧ (Q_rm_su10 Z t sa sb mA mS m1 m2 h0 n0) val_ U'.heap loc_ ∧ FrameEnd U out_ U' loc_ ({ frames := 9, cells := 10, slots := 32, locals := 120 } : Room).cells ({ frames := 9, cells := 10, slots := 32, locals := 120 } : Room).slots) := by
  refine start (Q := (Q_rm_su10 Z t sa sb mA mS m1 m2 h0 n0)) pn_28 ?_
  intro p e s m below meth c T0 X0 hx hby hml hown hnm hret hlk hZ e0
  replace hown : s.vm.findClass "com/example/revlint/revlint/model/Library$Supertypes" = some m.cls := hown
  replace hml : c.maxLocals = 5 := hml
  refine goAt (ef_rm_su10 m t sa sb ) ?_
  have N0 := Fr.nil n0
  show Go p e below T0 (mkF m 0 #[.val (.ref t), .val (.ref sa), .val (.ref sb), .val (.int (1 : Int32)), .val (.int (0 : Int32))] []) _
  refine stp (fun _ => XS.aloadN X0.here hx rfl (hb hby d7_0) rfl rfl) ?_
  show Go p e below T0 (mkF m 1 #[.val (.ref t), .val (.ref sa), .val (.ref sb), .val (.int (1 : Int32)), .val (.int (0 : Int32))] [(.ref t)]) _
  obtain ⟨_, _, ⟨T1, L1, k1, n1⟩, -, X1, ⟨Lc1, hQ1, l1, y1, z1⟩, st1⟩ := X0.specialBack hx (y := (⟨"java/lang/Record", "<init>", "()V"⟩ : MethodName)) rfl hown (mvT hZ (hw _ (List.mem_of_getElem? (i := 46) rfl))) (mvT hZ (hw _ (List.mem_of_getElem? (i := 47) rfl))) (mvT hZ (hw _ (List.mem_of_getElem? (i := 50) rfl))) (by decide) (backOf (W := 0) (rm_rec l Z a0 hw [] t  h0 n0 O0 ) hZ (hw _ (List.mem_of_getElem? (i := 50) rfl)) (hw _ (List.mem_of_getElem? (i := 49) rfl)) (by decide) (by decide)) (g := (mkF m 1 #[.val (.ref t), .val (.ref sa), .val (.ref sb), .val (.int (1 : Int32)), .val (.int (0 : Int32))] [(.ref t)])) rfl (by rw [hml]; rfl) (Steps.refl _) (a := t) (argsL := []) (rest := []) (lenOf pd_0 rfl) rfl (by show 2 * 0 + _ ≤ _; exact Nat.le_of_eq rfl) (hb hby d7_1) (fun _ _ => ⟨rfl, e0, (by decide : 0 + 0 ≤ _), (by decide : 0 + 0 ≤ _)⟩)
  dsimp only [Pt.U, Pt.locs, Pt.cells, Pt.slots] at X1 l1 y1 z1 st1 hQ1
  subst y1 z1
  obtain ⟨rfl, N1q, e1⟩ := hQ1
  have N1 : Fr n0 L1 := by rw [l1]; exact Fr.app N0 N1q
  refine stt st1 ?_
  show Go p e below T1 (mkF m 4 #[.val (.ref t), .val (.ref sa), .val (.ref sb), .val (.int (1 : Int32)), .val (.int (0 : Int32))] []) _
  refine stp (fun _ => XS.aloadN X1.here hx rfl (hb hby d7_4) rfl rfl) ?_
  show Go p e below T1 (mkF m 5 #[.val (.ref t), .val (.ref sa), .val (.ref sb), .val (.int (1 : Int32)), .val (.int (0 : Int32))] [(.ref sa)]) _
  obtain ⟨_, _, ⟨T2, L2, k2, n2⟩, -, X2, ⟨Lc2, hQ2, l2, y2, z2⟩, st2⟩ := callSN X1 hx (y := (⟨"com/example/revlint/revlint/model/Library", "unmodifiableCopy", "(Ljava/util/Set;)Ljava/util/Set;"⟩ : MethodName)) hown (mvMN hZ (hw _ (List.mem_of_getElem? (i := 52) rfl))) (mvT hZ (hw _ (List.mem_of_getElem? (i := 53) rfl))) (mvT hZ (hw _ (List.mem_of_getElem? (i := 54) rfl))) (mvT hZ (hw _ (List.mem_of_getElem? (i := 55) rfl))) (by decide) (backOf (W := 0) (rm_uco l Z a0 hw [] sa mA mS m1 h0 n0 O0 E_sa F_sa_map E_m1 F_m1_size F_m1_keySet F_m1_table F_m1_modCount S__assertionsDisabled ge_m1 ne_m1_sa hmA hmS) hZ (hw _ (List.mem_of_getElem? (i := 55) rfl)) (hw _ (List.mem_of_getElem? (i := 54) rfl)) (by decide) (by decide)) (g := (mkF m 5 #[.val (.ref t), .val (.ref sa), .val (.ref sb), .val (.int (1 : Int32)), .val (.int (0 : Int32))] [(.ref sa)])) rfl (by rw [hml]; rfl) (argsL := [(.ref sa)]) (rest := []) (lenOf pd_16 rfl) rfl (by show 2 * 0 + _ ≤ _; exact Nat.le_of_eq rfl) (hb hby d7_5) (fun _ _ => ⟨rfl, e1, (by decide : 0 + 5 ≤ _), (by decide : 0 + 16 ≤ _)⟩)
  dsimp only [Pt.U, Pt.locs, Pt.cells, Pt.slots] at X2 l2 y2 z2 st2 hQ2
  subst y2 z2
  obtain ⟨r2, rfl, N2q, K2q⟩ := hQ2
  have N2 : Fr n0 L2 := by rw [l2]; exact Fr.app N1 N2q
  have f3 := E_t.keep K2q
  have f4 := F_t_names.keep K2q (ninS (Ne.symm ne_m1_t) nin0)
  have f5 := F_t_interfaces.keep K2q (ninS (Ne.symm ne_m1_t) nin0)
  have f6 := F_t_unreadSuperclass.keep K2q (ninS (Ne.symm ne_m1_t) nin0)
  have f7 := F_t_unreadInterface.keep K2q (ninS (Ne.symm ne_m1_t) nin0)
  have f8 := E_sa.keep K2q
  have f9 := F_sa_map.keep K2q (ninS (Ne.symm ne_m1_sa) nin0)
  have f10 := E_m1.keep K2q
  have f11 := E_sb.keep K2q
  have f12 := F_sb_map.keep K2q (ninS (Ne.symm ne_m1_sb) nin0)
  have f13 := E_m2.keep K2q
  have f14 := F_m2_size.keep K2q (ninS (Ne.symm ne_m1_m2) nin0)
  have f15 := F_m2_keySet.keep K2q (ninS (Ne.symm ne_m1_m2) nin0)
  have f16 := F_m2_table.keep K2q (ninS (Ne.symm ne_m1_m2) nin0)
  have f17 := F_m2_modCount.keep K2q (ninS (Ne.symm ne_m1_m2) nin0)
  have K2 : Keep h0 T2.heap [t, m1, m2] := (Keep.refl h0 [t, m1, m2]).trans K2q (allS (Or.inl (List.mem_of_getElem? (i := 1) rfl)) all0)
  have O2 := O0.keep K2q (allS ge_m1 all0)
  refine stt st2 ?_
  show Go p e below T2 (mkF m 8 #[.val (.ref t), .val (.ref sa), .val (.ref sb), .val (.int (1 : Int32)), .val (.int (0 : Int32))] [(.ref r2)]) _
  refine stp (fun _ => XS.astoreN X2.here hx rfl (hb hby d7_8) rfl rfl (l' := #[.val (.ref t), .val (.ref r2), .val (.ref sb), .val (.int (1 : Int32)), .val (.int (0 : Int32))]) rfl) ?_
  show Go p e below T2 (mkF m 9 #[.val (.ref t), .val (.ref r2), .val (.ref sb), .val (.int (1 : Int32)), .val (.int (0 : Int32))] []) _
  refine stp (fun _ => XS.aloadN X2.here hx rfl (hb hby d7_9) rfl rfl) ?_
  show Go p e below T2 (mkF m 10 #[.val (.ref t), .val (.ref r2), .val (.ref sb), .val (.int (1 : Int32)), .val (.int (0 : Int32))] [(.ref sb)]) _
  obtain ⟨_, _, ⟨T18, L18, k18, n18⟩, -, X18, ⟨Lc18, hQ18, l18, y18, z18⟩, st18⟩ := callSN X2 hx (y := (⟨"com/example/revlint/revlint/model/Library", "unmodifiableCopy", "(Ljava/util/Set;)Ljava/util/Set;"⟩ : MethodName)) hown (mvMN hZ (hw _ (List.mem_of_getElem? (i := 52) rfl))) (mvT hZ (hw _ (List.mem_of_getElem? (i := 53) rfl))) (mvT hZ (hw _ (List.mem_of_getElem? (i := 54) rfl))) (mvT hZ (hw _ (List.mem_of_getElem? (i := 55) rfl))) (by decide) (backOf (W := 0) (rm_uco l Z a0 hw [] sb mA mS m2 T2.heap n0 O2 f11 f12 f13 f14 f15 f16 f17 S__assertionsDisabled ge_m2 ne_m2_sb hmA hmS) hZ (hw _ (List.mem_of_getElem? (i := 55) rfl)) (hw _ (List.mem_of_getElem? (i := 54) rfl)) (by decide) (by decide)) (g := (mkF m 10 #[.val (.ref t), .val (.ref r2), .val (.ref sb), .val (.int (1 : Int32)), .val (.int (0 : Int32))] [(.ref sb)])) rfl (by rw [hml]; rfl) (argsL := [(.ref sb)]) (rest := []) (lenOf pd_16 rfl) rfl (by show 2 * 0 + _ ≤ _; exact Nat.le_of_eq rfl) (hb hby d7_10) (fun _ _ => ⟨rfl, rfl, (by decide : 5 + 5 ≤ _), (by decide : 16 + 16 ≤ _)⟩)
  dsimp only [Pt.U, Pt.locs, Pt.cells, Pt.slots] at X18 l18 y18 z18 st18 hQ18
  subst y18 z18
  obtain ⟨r18, rfl, N18q, K18q⟩ := hQ18
  have N18 : Fr n0 L18 := by rw [l18]; exact Fr.app N2 N18q
  have f19 := f3.keep K18q
  have f20 := f4.keep K18q (ninS (Ne.symm ne_m2_t) nin0)
  have f21 := f5.keep K18q (ninS (Ne.symm ne_m2_t) nin0)
  have f22 := f6.keep K18q (ninS (Ne.symm ne_m2_t) nin0)
  have f23 := f7.keep K18q (ninS (Ne.symm ne_m2_t) nin0)
  have f24 := f8.keep K18q
  have f25 := f9.keep K18q (ninS (Ne.symm ne_m2_sa) nin0)
  have f26 := f10.keep K18q
  have f27 := f11.keep K18q
  have f28 := f12.keep K18q (ninS (Ne.symm ne_m2_sb) nin0)
  have f29 := f13.keep K18q
  have K18 : Keep h0 T18.heap [t, m1, m2] := K2.trans K18q (allS (Or.inl (List.mem_of_getElem? (i := 2) rfl)) all0)
  have O18 := O2.keep K18q (allS ge_m2 all0)
  refine stt st18 ?_
  show Go p e below T18 (mkF m 13 #[.val (.ref t), .val (.ref r2), .val (.ref sb), .val (.int (1 : Int32)), .val (.int (0 : Int32))] [(.ref r18)]) _
  refine stp (fun _ => XS.astoreN X18.here hx rfl (hb hby d7_13) rfl rfl (l' := #[.val (.ref t), .val (.ref r2), .val (.ref r18), .val (.int (1 : Int32)), .val (.int (0 : Int32))]) rfl) ?_
  show Go p e below T18 (mkF m 14 #[.val (.ref t), .val (.ref r2), .val (.ref r18), .val (.int (1 : Int32)), .val (.int (0 : Int32))] []) _
  refine stp (fun _ => XS.aloadN X18.here hx rfl (hb hby d7_14) rfl rfl) ?_
  show Go p e below T18 (mkF m 15 #[.val (.ref t), .val (.ref r2), .val (.ref r18), .val (.int (1 : Int32)), .val (.int (0 : Int32))] [(.ref t)]) _
  refine stp (fun _ => XS.aloadN X18.here hx rfl (hb hby d7_15) rfl rfl) ?_
  show Go p e below T18 (mkF m 16 #[.val (.ref t), .val (.ref r2), .val (.ref r18), .val (.int (1 : Int32)), .val (.int (0 : Int32))] [(.ref r2), (.ref t)]) _
  obtain ⟨T30, h30, X30, e30, W30, st30⟩ := putF X18 hx hZ hown (host := "") (Or.inl (hw _ (List.mem_of_getElem? (i := 242) rfl))) Via.refl rfl f20 f19 (Or.inr ⟨(hw _ (List.mem_of_getElem? (i := 243) rfl)), rfl, hnm⟩) (hw _ (List.mem_of_getElem? (i := 1) rfl)) (ty := (.object "java/util/Set")) (by decide) rfl rfl (g := (mkF m 16 #[.val (.ref t), .val (.ref r2), .val (.ref r18), .val (.int (1 : Int32)), .val (.int (0 : Int32))] [(.ref r2), (.ref t)])) rfl rfl (hb hby d7_16)
  have Fw30 := f20.same W30
  have f31 := f19.wr W30
  have f33 := f21.other W30 (Or.inr (slot_ne (Or.inr (hw _ (List.mem_of_getElem? (i := 245) rfl))) (Or.inr (hw _ (List.mem_of_getElem? (i := 243) rfl))) (by decide) (t := (.object "java/util/Set")) (t' := (.object "java/util/Set")) (by decide) (by decide)))
  have f34 := f22.other W30 (Or.inr (slot_ne (Or.inr (hw _ (List.mem_of_getElem? (i := 247) rfl))) (Or.inr (hw _ (List.mem_of_getElem? (i := 243) rfl))) (by decide) (t := .boolean) (t' := (.object "java/util/Set")) (by decide) (by decide)))
  have f35 := f23.other W30 (Or.inr (slot_ne (Or.inr (hw _ (List.mem_of_getElem? (i := 249) rfl))) (Or.inr (hw _ (List.mem_of_getElem? (i := 243) rfl))) (by decide) (t := .boolean) (t' := (.object "java/util/Set")) (by decide) (by decide)))
  have f36 := f24.wr W30
  have f37 := f25.other W30 (Or.inl ne_sa_t)
  have f38 := f26.wr W30
  have f39 := f27.wr W30
  have f40 := f28.other W30 (Or.inl ne_sb_t)
  have f41 := f29.wr W30
  have K30 : Keep h0 h30 [t, m1, m2] := K18.wr W30 (Or.inl (List.mem_of_getElem? (i := 0) rfl))
  have O30 := O18.wr W30 ge_t
  have N30 := Fr.snoc X30 N18 ge_t
  refine stp st30 ?_
  show Go p e below T30 (mkF m 19 #[.val (.ref t), .val (.ref r2), .val (.ref r18), .val (.int (1 : Int32)), .val (.int (0 : Int32))] []) _
  refine stp (fun _ => XS.aloadN X30.here hx rfl (hb hby d7_19) rfl rfl) ?_
  show Go p e below T30 (mkF m 20 #[.val (.ref t), .val (.ref r2), .val (.ref r18), .val (.int (1 : Int32)), .val (.int (0 : Int32))] [(.ref t)]) _
  refine stp (fun _ => XS.aloadN X30.here hx rfl (hb hby d7_20) rfl rfl) ?_
  show Go p e below T30 (mkF m 21 #[.val (.ref t), .val (.ref r2), .val (.ref r18), .val (.int (1 : Int32)), .val (.int (0 : Int32))] [(.ref r18), (.ref t)]) _
  obtain ⟨T42, h42, X42, e42, W42, st42⟩ := putF X30 hx hZ hown (host := "") (Or.inl (hw _ (List.mem_of_getElem? (i := 244) rfl))) Via.refl e30 f33 f31 (Or.inr ⟨(hw _ (List.mem_of_getElem? (i := 245) rfl)), rfl, hnm⟩) (hw _ (List.mem_of_getElem? (i := 1) rfl)) (ty := (.object "java/util/Set")) (by decide) rfl rfl (g := (mkF m 21 #[.val (.ref t), .val (.ref r2), .val (.ref r18), .val (.int (1 : Int32)), .val (.int (0 : Int32))] [(.ref r18), (.ref t)])) rfl rfl (hb hby d7_21)
  have Fw42 := f33.same W42
  have f43 := f31.wr W42
  have f44 := Fw30.other W42 (Or.inr (slot_ne (Or.inr (hw _ (List.mem_of_getElem? (i := 243) rfl))) (Or.inr (hw _ (List.mem_of_getElem? (i := 245) rfl))) (by decide) (t := (.object "java/util/Set")) (t' := (.object "java/util/Set")) (by decide) (by decide)))
  have f46 := f34.other W42 (Or.inr (slot_ne (Or.inr (hw _ (List.mem_of_getElem? (i := 247) rfl))) (Or.inr (hw _ (List.mem_of_getElem? (i := 245) rfl))) (by decide) (t := .boolean) (t' := (.object "java/util/Set")) (by decide) (by decide)))
  have f47 := f35.other W42 (Or.inr (slot_ne (Or.inr (hw _ (List.mem_of_getElem? (i := 249) rfl))) (Or.inr (hw _ (List.mem_of_getElem? (i := 245) rfl))) (by decide) (t := .boolean) (t' := (.object "java/util/Set")) (by decide) (by decide)))
  have f48 := f36.wr W42
  have f49 := f37.other W42 (Or.inl ne_sa_t)
  have f50 := f38.wr W42
  have f51 := f39.wr W42
  have f52 := f40.other W42 (Or.inl ne_sb_t)
  have f53 := f41.wr W42
  have K42 : Keep h0 h42 [t, m1, m2] := K30.wr W42 (Or.inl (List.mem_of_getElem? (i := 0) rfl))
  have O42 := O30.wr W42 ge_t
  have N42 := Fr.snoc X42 N30 ge_t
  refine stp st42 ?_
  show Go p e below T42 (mkF m 24 #[.val (.ref t), .val (.ref r2), .val (.ref r18), .val (.int (1 : Int32)), .val (.int (0 : Int32))] []) _
  refine stp (fun _ => XS.aloadN X42.here hx rfl (hb hby d7_24) rfl rfl) ?_
  show Go p e below T42 (mkF m 25 #[.val (.ref t), .val (.ref r2), .val (.ref r18), .val (.int (1 : Int32)), .val (.int (0 : Int32))] [(.ref t)]) _
  refine stp (fun _ => XS.iloadN X42.here hx rfl (hb hby d7_25) rfl) ?_
  show Go p e below T42 (mkF m 26 #[.val (.ref t), .val (.ref r2), .val (.ref r18), .val (.int (1 : Int32)), .val (.int (0 : Int32))] [(.int (1 : Int32)), (.ref t)]) _
  obtain ⟨T54, h54, X54, e54, W54, st54⟩ := putFN X42 hx hZ hown (hw _ (List.mem_of_getElem? (i := 246) rfl)) Via.refl e42 f46 f43 (Or.inr ⟨(hw _ (List.mem_of_getElem? (i := 247) rfl)), rfl, hnm⟩) (hw _ (List.mem_of_getElem? (i := 1) rfl)) (ty := .boolean) (v' := (.int (1 : Int32))) (by decide) rfl rfl (g := (mkF m 26 #[.val (.ref t), .val (.ref r2), .val (.ref r18), .val (.int (1 : Int32)), .val (.int (0 : Int32))] [(.int (1 : Int32)), (.ref t)])) rfl rfl (hb hby d7_26)
  have Fw54 := f46.same W54
  have f55 := f43.wr W54
  have f56 := f44.other W54 (Or.inr (slot_ne (Or.inr (hw _ (List.mem_of_getElem? (i := 243) rfl))) (Or.inr (hw _ (List.mem_of_getElem? (i := 247) rfl))) (by decide) (t := (.object "java/util/Set")) (t' := .boolean) (by decide) (by decide)))
  have f57 := Fw42.other W54 (Or.inr (slot_ne (Or.inr (hw _ (List.mem_of_getElem? (i := 245) rfl))) (Or.inr (hw _ (List.mem_of_getElem? (i := 247) rfl))) (by decide) (t := (.object "java/util/Set")) (t' := .boolean) (by decide) (by decide)))
  have f59 := f47.other W54 (Or.inr (slot_ne (Or.inr (hw _ (List.mem_of_getElem? (i := 249) rfl))) (Or.inr (hw _ (List.mem_of_getElem? (i := 247) rfl))) (by decide) (t := .boolean) (t' := .boolean) (by decide) (by decide)))
  have f60 := f48.wr W54
  have f61 := f49.other W54 (Or.inl ne_sa_t)
  have f62 := f50.wr W54
  have f63 := f51.wr W54
  have f64 := f52.other W54 (Or.inl ne_sb_t)
  have f65 := f53.wr W54
  have K54 : Keep h0 h54 [t, m1, m2] := K42.wr W54 (Or.inl (List.mem_of_getElem? (i := 0) rfl))
  have O54 := O42.wr W54 ge_t
  have N54 := Fr.snoc X54 N42 ge_t
  refine stp st54 ?_
  show Go p e below T54 (mkF m 29 #[.val (.ref t), .val (.ref r2), .val (.ref r18), .val (.int (1 : Int32)), .val (.int (0 : Int32))] []) _
  refine stp (fun _ => XS.aloadN X54.here hx rfl (hb hby d7_29) rfl rfl) ?_
  show Go p e below T54 (mkF m 30 #[.val (.ref t), .val (.ref r2), .val (.ref r18), .val (.int (1 : Int32)), .val (.int (0 : Int32))] [(.ref t)]) _
  refine stp (fun _ => XS.iload X54.here hx rfl (hb hby d7_30) rfl) ?_
  show Go p e below T54 (mkF m 32 #[.val (.ref t), .val (.ref r2), .val (.ref r18), .val (.int (1 : Int32)), .val (.int (0 : Int32))] [(.int (0 : Int32)), (.ref t)]) _
  obtain ⟨T66, h66, X66, e66, W66, st66⟩ := putFN X54 hx hZ hown (hw _ (List.mem_of_getElem? (i := 248) rfl)) Via.refl e54 f59 f55 (Or.inr ⟨(hw _ (List.mem_of_getElem? (i := 249) rfl)), rfl, hnm⟩) (hw _ (List.mem_of_getElem? (i := 1) rfl)) (ty := .boolean) (v' := (.int (0 : Int32))) (by decide) rfl rfl (g := (mkF m 32 #[.val (.ref t), .val (.ref r2), .val (.ref r18), .val (.int (1 : Int32)), .val (.int (0 : Int32))] [(.int (0 : Int32)), (.ref t)])) rfl rfl (hb hby d7_32)
  have Fw66 := f59.same W66
  have f67 := f55.wr W66
  have f68 := f56.other W66 (Or.inr (slot_ne (Or.inr (hw _ (List.mem_of_getElem? (i := 243) rfl))) (Or.inr (hw _ (List.mem_of_getElem? (i := 249) rfl))) (by decide) (t := (.object "java/util/Set")) (t' := .boolean) (by decide) (by decide)))
  have f69 := f57.other W66 (Or.inr (slot_ne (Or.inr (hw _ (List.mem_of_getElem? (i := 245) rfl))) (Or.inr (hw _ (List.mem_of_getElem? (i := 249) rfl))) (by decide) (t := (.object "java/util/Set")) (t' := .boolean) (by decide) (by decide)))
  have f70 := Fw54.other W66 (Or.inr (slot_ne (Or.inr (hw _ (List.mem_of_getElem? (i := 247) rfl))) (Or.inr (hw _ (List.mem_of_getElem? (i := 249) rfl))) (by decide) (t := .boolean) (t' := .boolean) (by decide) (by decide)))
  have f72 := f60.wr W66
  have f73 := f61.other W66 (Or.inl ne_sa_t)
  have f74 := f62.wr W66
  have f75 := f63.wr W66
  have f76 := f64.other W66 (Or.inl ne_sb_t)
  have f77 := f65.wr W66
  have K66 : Keep h0 h66 [t, m1, m2] := K54.wr W66 (Or.inl (List.mem_of_getElem? (i := 0) rfl))
  have O66 := O54.wr W66 ge_t
  have N66 := Fr.snoc X66 N54 ge_t
  refine stp st66 ?_
  show Go p e below T66 (mkF m 35 #[.val (.ref t), .val (.ref r2), .val (.ref r18), .val (.int (1 : Int32)), .val (.int (0 : Int32))] []) _
  refine outV X66 hx hret (hb hby d7_35) hlk (by decide) (by decide) ?_
  rw [e66]
  exact ⟨rfl, N66, K66, f67, f70, Fw66⟩
theorem ef_rm_mh100 (m : MethodId) (t : Addr)  : entryFrame m #[(.ref t), (.int (0 : Int32))] 2 = mkF m 0 #[.val (.ref t), .val (.int (0 : Int32))] [] := by first | (simp [entryFrame, mkF, argsToLocals, Value.category]; done) | rfl
def Q_rm_mh100 (Z : State) (t : Addr)  (h0 : Heap) (n0 : Nat) (v : Option Value) (h : Heap) (L : List Loc) : Prop := v = some (.int (1 : Int32)) ∧ Fr n0 L ∧ h = h0
set_option maxRecDepth 65536 in
set_option maxHeartbeats 40000000 in
theorem rm_mh100 (l : Launch) (Z : State) (a0 : Array Value) (hw : ∀ d ∈ tables_1, d.before a0 Z = true) (ws : List Jvm.Cond) (t : Addr)  (h0 : Heap) (n0 : Nat) (O0 : Old Z n0 h0) (F_t_unreadSuperclass : Fld Z h0 t "com/example/revlint/revlint/model/Library$Supertypes" "unreadSuperclass" "Z" (.int (1 : Int32))) (F_t_unreadInterface : Fld Z h0 t "com/example/revlint/revlint/model/Library$Supertypes" "unreadInterface" "Z" (.int (0 : Int32))) :
    MetFree l (⟨"com/example/revlint/revlint/model/Library$Supertypes", "mayHaveUnnamed", "(Z)Z"⟩ : MethodName) (head1 (Jvm.Cond.code (⟨"com/example/revlint/revlint/model/Library$Supertypes", "mayHaveUnnamed", "(Z)Z"⟩ : MethodName) prog_34_method_2_code 2 (some .boolean) :: ws) ({ frames := 0, cells := 0, slots := 0, locals := 0 } : Room)) (fun args_ U => args_ = #[(.ref t), (.int (0 : Int32))] ∧ Z.Warmed39 U.vm ∧ U.heap = h0) (fun _ _ _ _ _ => True) (fun _ U out_ U' => ∃ val_ loc_, out_ = .returned val_ ∧ (Q_rm_mh100 Z t h0 n0) val_ U'.heap loc_ ∧ FrameEnd U out_ U' loc_ ({ frames := 0, cells := 0, slots := 0, locals := 0 } : Room).cells ({ frames := 0, cells := 0, slots := 0, locals := 0 } : Room).slots) := by
  refine start (Q := (Q_rm_mh100 Z t h0 n0)) pn_29 ?_
  intro p e s m below meth c T0 X0 hx hby hml hown hnm hret hlk hZ e0
  replace hown : s.vm.findClass "com/example/revlint/revlint/model/Library$Supertypes" = some m.cls := hown
  replace hml : c.maxLocals = 2 := hml
  refine goAt (ef_rm_mh100 m t ) ?_
  have N0 := Fr.nil n0
  show Go p e below T0 (mkF m 0 #[.val (.ref t), .val (.int (0 : Int32))] []) _
  refine stp (fun _ => XS.aloadN X0.here hx rfl (hb hby d36_0) rfl rfl) ?_
  show Go p e below T0 (mkF m 1 #[.val (.ref t), .val (.int (0 : Int32))] [(.ref t)]) _
  obtain ⟨T1, X1, e1, st1⟩ := getF X0 hx hZ hown (host := "") (Or.inl (hw _ (List.mem_of_getElem? (i := 246) rfl))) Via.refl e0 F_t_unreadSuperclass (g := (mkF m 1 #[.val (.ref t), .val (.int (0 : Int32))] [(.ref t)])) rfl rfl (hb hby d36_1)
  refine stp st1 ?_
  show Go p e below T1 (mkF m 4 #[.val (.ref t), .val (.int (0 : Int32))] [(.int (1 : Int32))]) _
  refine stp (fun _ => XS.ifYes X1.here hx rfl (pc0 := 4) (pc' := 18) rfl (hb hby d36_4) rfl (by decide) (by decide) (by decide)) ?_
  show Go p e below T1 (mkF m 18 #[.val (.ref t), .val (.int (0 : Int32))] []) _
  refine stp (fun _ => XS.iconst X1.here hx rfl (hb hby d36_18)) ?_
  show Go p e below T1 (mkF m 19 #[.val (.ref t), .val (.int (0 : Int32))] [(.int (1 : Int32))]) _
  refine stp (fun _ => XS.goto X1.here hx rfl (pc0 := 19) (pc' := 23) rfl (hb hby d36_19) (by decide) (by decide)) ?_
  show Go p e below T1 (mkF m 23 #[.val (.ref t), .val (.int (0 : Int32))] [(.int (1 : Int32))]) _
  refine outN X1 hx (t := .boolean) hret (by simp) (hb hby d36_23) hlk (by decide) (by decide) ?_
  exact ⟨rfl, N0, e1⟩
theorem ef_rm_mh101 (m : MethodId) (t : Addr)  : entryFrame m #[(.ref t), (.int (1 : Int32))] 2 = mkF m 0 #[.val (.ref t), .val (.int (1 : Int32))] [] := by first | (simp [entryFrame, mkF, argsToLocals, Value.category]; done) | rfl
def Q_rm_mh101 (Z : State) (t : Addr)  (h0 : Heap) (n0 : Nat) (v : Option Value) (h : Heap) (L : List Loc) : Prop := v = some (.int (1 : Int32)) ∧ Fr n0 L ∧ h = h0
set_option maxRecDepth 65536 in
set_option maxHeartbeats 40000000 in
theorem rm_mh101 (l : Launch) (Z : State) (a0 : Array Value) (hw : ∀ d ∈ tables_1, d.before a0 Z = true) (ws : List Jvm.Cond) (t : Addr)  (h0 : Heap) (n0 : Nat) (O0 : Old Z n0 h0) (F_t_unreadSuperclass : Fld Z h0 t "com/example/revlint/revlint/model/Library$Supertypes" "unreadSuperclass" "Z" (.int (1 : Int32))) (F_t_unreadInterface : Fld Z h0 t "com/example/revlint/revlint/model/Library$Supertypes" "unreadInterface" "Z" (.int (0 : Int32))) :
    MetFree l (⟨"com/example/revlint/revlint/model/Library$Supertypes", "mayHaveUnnamed", "(Z)Z"⟩ : MethodName) (head1 (Jvm.Cond.code (⟨"com/example/revlint/revlint/model/Library$Supertypes", "mayHaveUnnamed", "(Z)Z"⟩ : MethodName) prog_34_method_2_code 2 (some .boolean) :: ws) ({ frames := 0, cells := 0, slots := 0, locals := 0 } : Room)) (fun args_ U => args_ = #[(.ref t), (.int (1 : Int32))] ∧ Z.Warmed39 U.vm ∧ U.heap = h0) (fun _ _ _ _ _ => True) (fun _ U out_ U' => ∃ val_ loc_, out_ = .returned val_ ∧ (Q_rm_mh101 Z t h0 n0) val_ U'.heap loc_ ∧ FrameEnd U out_ U' loc_ ({ frames := 0, cells := 0, slots := 0, locals := 0 } : Room).cells ({ frames := 0, cells := 0, slots := 0, locals := 0 } : Room).slots) := by
  refine start (Q := (Q_rm_mh101 Z t h0 n0)) pn_29 ?_
  intro p e s m below meth c T0 X0 hx hby hml hown hnm hret hlk hZ e0
  replace hown : s.vm.findClass "com/example/revlint/revlint/model/Library$Supertypes" = some m.cls := hown
  replace hml : c.maxLocals = 2 := hml
  refine goAt (ef_rm_mh101 m t ) ?_
  have N0 := Fr.nil n0
  show Go p e below T0 (mkF m 0 #[.val (.ref t), .val (.int (1 : Int32))] []) _
  refine stp (fun _ => XS.aloadN X0.here hx rfl (hb hby d36_0) rfl rfl) ?_
  show Go p e below T0 (mkF m 1 #[.val (.ref t), .val (.int (1 : Int32))] [(.ref t)]) _
  obtain ⟨T1, X1, e1, st1⟩ := getF X0 hx hZ hown (host := "") (Or.inl (hw _ (List.mem_of_getElem? (i := 246) rfl))) Via.refl e0 F_t_unreadSuperclass (g := (mkF m 1 #[.val (.ref t), .val (.int (1 : Int32))] [(.ref t)])) rfl rfl (hb hby d36_1)
  refine stp st1 ?_
  show Go p e below T1 (mkF m 4 #[.val (.ref t), .val (.int (1 : Int32))] [(.int (1 : Int32))]) _
  refine stp (fun _ => XS.ifYes X1.here hx rfl (pc0 := 4) (pc' := 18) rfl (hb hby d36_4) rfl (by decide) (by decide) (by decide)) ?_
  show Go p e below T1 (mkF m 18 #[.val (.ref t), .val (.int (1 : Int32))] []) _
  refine stp (fun _ => XS.iconst X1.here hx rfl (hb hby d36_18)) ?_
  show Go p e below T1 (mkF m 19 #[.val (.ref t), .val (.int (1 : Int32))] [(.int (1 : Int32))]) _
  refine stp (fun _ => XS.goto X1.here hx rfl (pc0 := 19) (pc' := 23) rfl (hb hby d36_19) (by decide) (by decide)) ?_
  show Go p e below T1 (mkF m 23 #[.val (.ref t), .val (.int (1 : Int32))] [(.int (1 : Int32))]) _
  refine outN X1 hx (t := .boolean) hret (by simp) (hb hby d36_23) hlk (by decide) (by decide) ?_
  exact ⟨rfl, N0, e1⟩
theorem ef_rm_su11 (m : MethodId) (t : Addr) (sa : Addr) (sb : Addr)  : entryFrame m #[(.ref t), (.ref sa), (.ref sb), (.int (1 : Int32)), (.int (1 : Int32))] 5 = mkF m 0 #[.val (.ref t), .val (.ref sa), .val (.ref sb), .val (.int (1 : Int32)), .val (.int (1 : Int32))] [] := by first | (simp [entryFrame, mkF, argsToLocals, Value.category]; done) | rfl
def Q_rm_su11 (Z : State) (t : Addr) (sa : Addr) (sb : Addr) (mA : Addr) (mS : Addr) (m1 : Addr) (m2 : Addr) (h0 : Heap) (n0 : Nat) (v : Option Value) (h : Heap) (L : List Loc) : Prop := v = none ∧ Fr n0 L ∧ Keep h0 h [t, m1, m2] ∧ Exa Z h t "com/example/revlint/revlint/model/Library$Supertypes" ∧ Fld Z h t "com/example/revlint/revlint/model/Library$Supertypes" "unreadSuperclass" "Z" (.int (1 : Int32)) ∧ Fld Z h t "com/example/revlint/revlint/model/Library$Supertypes" "unreadInterface" "Z" (.int (1 : Int32))
set_option maxRecDepth 65536 in
set_option maxHeartbeats 40000000 in
theorem rm_su11 (l : Launch) (Z : State) (a0 : Array Value) (hw : ∀ d ∈ tables_1, d.before a0 Z = true) (ws : List Jvm.Cond) (t : Addr) (sa : Addr) (sb : Addr) (mA : Addr) (mS : Addr) (m1 : Addr) (m2 : Addr) (h0 : Heap) (n0 : Nat) (O0 : Old Z n0 h0) (E_t : Exa Z h0 t "com/example/revlint/revlint/model/Library$Supertypes") (F_t_names : Fld Z h0 t "com/example/revlint/revlint/model/Library$Supertypes" "names" "Ljava/util/Set;" .null) (F_t_interfaces : Fld Z h0 t "com/example/revlint/revlint/model/Library$Supertypes" "interfaces" "Ljava/util/Set;" .null) (F_t_unreadSuperclass : Fld Z h0 t "com/example/revlint/revlint/model/Library$Supertypes" "unreadSuperclass" "Z" (.int (0 : Int32))) (F_t_unreadInterface : Fld Z h0 t "com/example/revlint/revlint/model/Library$Supertypes" "unreadInterface" "Z" (.int (0 : Int32))) (E_sa : Exa Z h0 sa "java/util/HashSet") (F_sa_map : Fld Z h0 sa "java/util/HashSet" "map" "Ljava/util/HashMap;" (.ref m1)) (E_m1 : Exa Z h0 m1 "java/util/HashMap") (F_m1_size : Fld Z h0 m1 "java/util/HashMap" "size" "I" (.int (0 : Int32))) (F_m1_keySet : Fld Z h0 m1 "java/util/AbstractMap" "keySet" "Ljava/util/Set;" .null) (F_m1_table : Fld Z h0 m1 "java/util/HashMap" "table" "[Ljava/util/HashMap$Node;" .null) (F_m1_modCount : Fld Z h0 m1 "java/util/HashMap" "modCount" "I" (.int (0 : Int32))) (E_sb : Exa Z h0 sb "java/util/HashSet") (F_sb_map : Fld Z h0 sb "java/util/HashSet" "map" "Ljava/util/HashMap;" (.ref m2)) (E_m2 : Exa Z h0 m2 "java/util/HashMap") (F_m2_size : Fld Z h0 m2 "java/util/HashMap" "size" "I" (.int (0 : Int32))) (F_m2_keySet : Fld Z h0 m2 "java/util/AbstractMap" "keySet" "Ljava/util/Set;" .null) (F_m2_table : Fld Z h0 m2 "java/util/HashMap" "table" "[Ljava/util/HashMap$Node;" .null) (F_m2_modCount : Fld Z h0 m2 "java/util/HashMap" "modCount" "I" (.int (0 : Int32))) (S__assertionsDisabled : Sta Z Z.heap "java/lang/StrictMath" "$assertionsDisabled" "Z" (.int (1 : Int32))) (ge_t : n0 ≤ t) (ge_m1 : n0 ≤ m1) (ge_m2 : n0 ≤ m2) (ne_m1_m2 : m1 ≠ m2) (ne_m1_sa : m1 ≠ sa) (ne_m1_sb : m1 ≠ sb) (ne_m1_t : m1 ≠ t) (ne_m2_sa : m2 ≠ sa) (ne_m2_sb : m2 ≠ sb) (ne_m2_t : m2 ≠ t) (ne_sa_t : sa ≠ t) (ne_sb_t : sb ≠ t) (hmA : OwMir Z "java/util/HashSet" mA) (hmS : OwMir Z "java/util/Collections$UnmodifiableSet" mS) :
    MetFree l (⟨"com/example/revlint/revlint/model/Library$Supertypes", "<init>", "(Ljava/util/Set;Ljava/util/Set;ZZ)V"⟩ : MethodName) (head1 (Jvm.Cond.code (⟨"com/example/revlint/revlint/model/Library$Supertypes", "<init>", "(Ljava/util/Set;Ljava/util/Set;ZZ)V"⟩ : MethodName) prog_34_method_1_code 5 none :: ws) ({ frames := 9, cells := 10, slots := 32, locals := 120 } : Room)) (fun args_ U => args_ = #[(.ref t), (.ref sa), (.ref sb), (.int (1 : Int32)), (.int (1 : Int32))] ∧ Z.Warmed39 U.vm ∧ U.heap = h0) (fun _ _ _ _ _ => True) (fun _ U out_ U' => ∃ val_ loc_, out_ = .returned val_ ∧ (Q_rm_su11 Z t sa sb mA mS m1 m2 h0 n0) val_ U'.heap loc_ ∧ FrameEnd U out_ U' loc_ ({ frames := 9, cells := 10, slots := 32, locals := 120 } : Room).cells ({ frames := 9, cells := 10, slots := 32, locals := 120 } : Room).slots) := by
  refine start (Q := (Q_rm_su11 Z t sa sb mA mS m1 m2 h0 n0)) pn_28 ?_
  intro p e s m below meth c T0 X0 hx hby hml hown hnm hret hlk hZ e0
  replace hown : s.vm.findClass "com/example/revlint/revlint/model/Library$Supertypes" = some m.cls := hown
  replace hml : c.maxLocals = 5 := hml
  refine goAt (ef_rm_su11 m t sa sb ) ?_
  have N0 := Fr.nil n0
  show Go p e below T0 (mkF m 0 #[.val (.ref t), .val (.ref sa), .val (.ref sb), .val (.int (1 : Int32)), .val (.int (1 : Int32))] []) _
  refine stp (fun _ => XS.aloadN X0.here hx rfl (hb hby d7_0) rfl rfl) ?_
  show Go p e below T0 (mkF m 1 #[.val (.ref t), .val (.ref sa), .val (.ref sb), .val (.int (1 : Int32)), .val (.int (1 : Int32))] [(.ref t)]) _
  obtain ⟨_, _, ⟨T1, L1, k1, n1⟩, -, X1, ⟨Lc1, hQ1, l1, y1, z1⟩, st1⟩ := X0.specialBack hx (y := (⟨"java/lang/Record", "<init>", "()V"⟩ : MethodName)) rfl hown (mvT hZ (hw _ (List.mem_of_getElem? (i := 46) rfl))) (mvT hZ (hw _ (List.mem_of_getElem? (i := 47) rfl))) (mvT hZ (hw _ (List.mem_of_getElem? (i := 50) rfl))) (by decide) (backOf (W := 0) (rm_rec l Z a0 hw [] t  h0 n0 O0 ) hZ (hw _ (List.mem_of_getElem? (i := 50) rfl)) (hw _ (List.mem_of_getElem? (i := 49) rfl)) (by decide) (by decide)) (g := (mkF m 1 #[.val (.ref t), .val (.ref sa), .val (.ref sb), .val (.int (1 : Int32)), .val (.int (1 : Int32))] [(.ref t)])) rfl (by rw [hml]; rfl) (Steps.refl _) (a := t) (argsL := []) (rest := []) (lenOf pd_0 rfl) rfl (by show 2 * 0 + _ ≤ _; exact Nat.le_of_eq rfl) (hb hby d7_1) (fun _ _ => ⟨rfl, e0, (by decide : 0 + 0 ≤ _), (by decide : 0 + 0 ≤ _)⟩)
  dsimp only [Pt.U, Pt.locs, Pt.cells, Pt.slots] at X1 l1 y1 z1 st1 hQ1
  subst y1 z1
  obtain ⟨rfl, N1q, e1⟩ := hQ1
  have N1 : Fr n0 L1 := by rw [l1]; exact Fr.app N0 N1q
  refine stt st1 ?_
  show Go p e below T1 (mkF m 4 #[.val (.ref t), .val (.ref sa), .val (.ref sb), .val (.int (1 : Int32)), .val (.int (1 : Int32))] []) _
  refine stp (fun _ => XS.aloadN X1.here hx rfl (hb hby d7_4) rfl rfl) ?_
  show Go p e below T1 (mkF m 5 #[.val (.ref t), .val (.ref sa), .val (.ref sb), .val (.int (1 : Int32)), .val (.int (1 : Int32))] [(.ref sa)]) _
  obtain ⟨_, _, ⟨T2, L2, k2, n2⟩, -, X2, ⟨Lc2, hQ2, l2, y2, z2⟩, st2⟩ := callSN X1 hx (y := (⟨"com/example/revlint/revlint/model/Library", "unmodifiableCopy", "(Ljava/util/Set;)Ljava/util/Set;"⟩ : MethodName)) hown (mvMN hZ (hw _ (List.mem_of_getElem? (i := 52) rfl))) (mvT hZ (hw _ (List.mem_of_getElem? (i := 53) rfl))) (mvT hZ (hw _ (List.mem_of_getElem? (i := 54) rfl))) (mvT hZ (hw _ (List.mem_of_getElem? (i := 55) rfl))) (by decide) (backOf (W := 0) (rm_uco l Z a0 hw [] sa mA mS m1 h0 n0 O0 E_sa F_sa_map E_m1 F_m1_size F_m1_keySet F_m1_table F_m1_modCount S__assertionsDisabled ge_m1 ne_m1_sa hmA hmS) hZ (hw _ (List.mem_of_getElem? (i := 55) rfl)) (hw _ (List.mem_of_getElem? (i := 54) rfl)) (by decide) (by decide)) (g := (mkF m 5 #[.val (.ref t), .val (.ref sa), .val (.ref sb), .val (.int (1 : Int32)), .val (.int (1 : Int32))] [(.ref sa)])) rfl (by rw [hml]; rfl) (argsL := [(.ref sa)]) (rest := []) (lenOf pd_16 rfl) rfl (by show 2 * 0 + _ ≤ _; exact Nat.le_of_eq rfl) (hb hby d7_5) (fun _ _ => ⟨rfl, e1, (by decide : 0 + 5 ≤ _), (by decide : 0 + 16 ≤ _)⟩)
  dsimp only [Pt.U, Pt.locs, Pt.cells, Pt.slots] at X2 l2 y2 z2 st2 hQ2
  subst y2 z2
  obtain ⟨r2, rfl, N2q, K2q⟩ := hQ2
  have N2 : Fr n0 L2 := by rw [l2]; exact Fr.app N1 N2q
  have f3 := E_t.keep K2q
  have f4 := F_t_names.keep K2q (ninS (Ne.symm ne_m1_t) nin0)
  have f5 := F_t_interfaces.keep K2q (ninS (Ne.symm ne_m1_t) nin0)
  have f6 := F_t_unreadSuperclass.keep K2q (ninS (Ne.symm ne_m1_t) nin0)
  have f7 := F_t_unreadInterface.keep K2q (ninS (Ne.symm ne_m1_t) nin0)
  have f8 := E_sa.keep K2q
  have f9 := F_sa_map.keep K2q (ninS (Ne.symm ne_m1_sa) nin0)
  have f10 := E_m1.keep K2q
  have f11 := E_sb.keep K2q
  have f12 := F_sb_map.keep K2q (ninS (Ne.symm ne_m1_sb) nin0)
  have f13 := E_m2.keep K2q
  have f14 := F_m2_size.keep K2q (ninS (Ne.symm ne_m1_m2) nin0)
  have f15 := F_m2_keySet.keep K2q (ninS (Ne.symm ne_m1_m2) nin0)
  have f16 := F_m2_table.keep K2q (ninS (Ne.symm ne_m1_m2) nin0)
  have f17 := F_m2_modCount.keep K2q (ninS (Ne.symm ne_m1_m2) nin0)
  have K2 : Keep h0 T2.heap [t, m1, m2] := (Keep.refl h0 [t, m1, m2]).trans K2q (allS (Or.inl (List.mem_of_getElem? (i := 1) rfl)) all0)
  have O2 := O0.keep K2q (allS ge_m1 all0)
  refine stt st2 ?_
  show Go p e below T2 (mkF m 8 #[.val (.ref t), .val (.ref sa), .val (.ref sb), .val (.int (1 : Int32)), .val (.int (1 : Int32))] [(.ref r2)]) _
  refine stp (fun _ => XS.astoreN X2.here hx rfl (hb hby d7_8) rfl rfl (l' := #[.val (.ref t), .val (.ref r2), .val (.ref sb), .val (.int (1 : Int32)), .val (.int (1 : Int32))]) rfl) ?_
  show Go p e below T2 (mkF m 9 #[.val (.ref t), .val (.ref r2), .val (.ref sb), .val (.int (1 : Int32)), .val (.int (1 : Int32))] []) _
  refine stp (fun _ => XS.aloadN X2.here hx rfl (hb hby d7_9) rfl rfl) ?_
  show Go p e below T2 (mkF m 10 #[.val (.ref t), .val (.ref r2), .val (.ref sb), .val (.int (1 : Int32)), .val (.int (1 : Int32))] [(.ref sb)]) _
  obtain ⟨_, _, ⟨T18, L18, k18, n18⟩, -, X18, ⟨Lc18, hQ18, l18, y18, z18⟩, st18⟩ := callSN X2 hx (y := (⟨"com/example/revlint/revlint/model/Library", "unmodifiableCopy", "(Ljava/util/Set;)Ljava/util/Set;"⟩ : MethodName)) hown (mvMN hZ (hw _ (List.mem_of_getElem? (i := 52) rfl))) (mvT hZ (hw _ (List.mem_of_getElem? (i := 53) rfl))) (mvT hZ (hw _ (List.mem_of_getElem? (i := 54) rfl))) (mvT hZ (hw _ (List.mem_of_getElem? (i := 55) rfl))) (by decide) (backOf (W := 0) (rm_uco l Z a0 hw [] sb mA mS m2 T2.heap n0 O2 f11 f12 f13 f14 f15 f16 f17 S__assertionsDisabled ge_m2 ne_m2_sb hmA hmS) hZ (hw _ (List.mem_of_getElem? (i := 55) rfl)) (hw _ (List.mem_of_getElem? (i := 54) rfl)) (by decide) (by decide)) (g := (mkF m 10 #[.val (.ref t), .val (.ref r2), .val (.ref sb), .val (.int (1 : Int32)), .val (.int (1 : Int32))] [(.ref sb)])) rfl (by rw [hml]; rfl) (argsL := [(.ref sb)]) (rest := []) (lenOf pd_16 rfl) rfl (by show 2 * 0 + _ ≤ _; exact Nat.le_of_eq rfl) (hb hby d7_10) (fun _ _ => ⟨rfl, rfl, (by decide : 5 + 5 ≤ _), (by decide : 16 + 16 ≤ _)⟩)
  dsimp only [Pt.U, Pt.locs, Pt.cells, Pt.slots] at X18 l18 y18 z18 st18 hQ18
  subst y18 z18
  obtain ⟨r18, rfl, N18q, K18q⟩ := hQ18
  have N18 : Fr n0 L18 := by rw [l18]; exact Fr.app N2 N18q
  have f19 := f3.keep K18q
  have f20 := f4.keep K18q (ninS (Ne.symm ne_m2_t) nin0)
  have f21 := f5.keep K18q (ninS (Ne.symm ne_m2_t) nin0)
  have f22 := f6.keep K18q (ninS (Ne.symm ne_m2_t) nin0)
  have f23 := f7.keep K18q (ninS (Ne.symm ne_m2_t) nin0)
  have f24 := f8.keep K18q
  have f25 := f9.keep K18q (ninS (Ne.symm ne_m2_sa) nin0)
  have f26 := f10.keep K18q
  have f27 := f11.keep K18q
  have f28 := f12.keep K18q (ninS (Ne.symm ne_m2_sb) nin0)
  have f29 := f13.keep K18q
  have K18 : Keep h0 T18.heap [t, m1, m2] := K2.trans K18q (allS (Or.inl (List.mem_of_getElem? (i := 2) rfl)) all0)
  have O18 := O2.keep K18q (allS ge_m2 all0)
  refine stt st18 ?_
  show Go p e below T18 (mkF m 13 #[.val (.ref t), .val (.ref r2), .val (.ref sb), .val (.int (1 : Int32)), .val (.int (1 : Int32))] [(.ref r18)]) _
  refine stp (fun _ => XS.astoreN X18.here hx rfl (hb hby d7_13) rfl rfl (l' := #[.val (.ref t), .val (.ref r2), .val (.ref r18), .val (.int (1 : Int32)), .val (.int (1 : Int32))]) rfl) ?_
  show Go p e below T18 (mkF m 14 #[.val (.ref t), .val (.ref r2), .val (.ref r18), .val (.int (1 : Int32)), .val (.int (1 : Int32))] []) _
  refine stp (fun _ => XS.aloadN X18.here hx rfl (hb hby d7_14) rfl rfl) ?_
  show Go p e below T18 (mkF m 15 #[.val (.ref t), .val (.ref r2), .val (.ref r18), .val (.int (1 : Int32)), .val (.int (1 : Int32))] [(.ref t)]) _
  refine stp (fun _ => XS.aloadN X18.here hx rfl (hb hby d7_15) rfl rfl) ?_
  show Go p e below T18 (mkF m 16 #[.val (.ref t), .val (.ref r2), .val (.ref r18), .val (.int (1 : Int32)), .val (.int (1 : Int32))] [(.ref r2), (.ref t)]) _
  obtain ⟨T30, h30, X30, e30, W30, st30⟩ := putF X18 hx hZ hown (host := "") (Or.inl (hw _ (List.mem_of_getElem? (i := 242) rfl))) Via.refl rfl f20 f19 (Or.inr ⟨(hw _ (List.mem_of_getElem? (i := 243) rfl)), rfl, hnm⟩) (hw _ (List.mem_of_getElem? (i := 1) rfl)) (ty := (.object "java/util/Set")) (by decide) rfl rfl (g := (mkF m 16 #[.val (.ref t), .val (.ref r2), .val (.ref r18), .val (.int (1 : Int32)), .val (.int (1 : Int32))] [(.ref r2), (.ref t)])) rfl rfl (hb hby d7_16)
  have Fw30 := f20.same W30
  have f31 := f19.wr W30
  have f33 := f21.other W30 (Or.inr (slot_ne (Or.inr (hw _ (List.mem_of_getElem? (i := 245) rfl))) (Or.inr (hw _ (List.mem_of_getElem? (i := 243) rfl))) (by decide) (t := (.object "java/util/Set")) (t' := (.object "java/util/Set")) (by decide) (by decide)))
  have f34 := f22.other W30 (Or.inr (slot_ne (Or.inr (hw _ (List.mem_of_getElem? (i := 247) rfl))) (Or.inr (hw _ (List.mem_of_getElem? (i := 243) rfl))) (by decide) (t := .boolean) (t' := (.object "java/util/Set")) (by decide) (by decide)))
  have f35 := f23.other W30 (Or.inr (slot_ne (Or.inr (hw _ (List.mem_of_getElem? (i := 249) rfl))) (Or.inr (hw _ (List.mem_of_getElem? (i := 243) rfl))) (by decide) (t := .boolean) (t' := (.object "java/util/Set")) (by decide) (by decide)))
  have f36 := f24.wr W30
  have f37 := f25.other W30 (Or.inl ne_sa_t)
  have f38 := f26.wr W30
  have f39 := f27.wr W30
  have f40 := f28.other W30 (Or.inl ne_sb_t)
  have f41 := f29.wr W30
  have K30 : Keep h0 h30 [t, m1, m2] := K18.wr W30 (Or.inl (List.mem_of_getElem? (i := 0) rfl))
  have O30 := O18.wr W30 ge_t
  have N30 := Fr.snoc X30 N18 ge_t
  refine stp st30 ?_
  show Go p e below T30 (mkF m 19 #[.val (.ref t), .val (.ref r2), .val (.ref r18), .val (.int (1 : Int32)), .val (.int (1 : Int32))] []) _
  refine stp (fun _ => XS.aloadN X30.here hx rfl (hb hby d7_19) rfl rfl) ?_
  show Go p e below T30 (mkF m 20 #[.val (.ref t), .val (.ref r2), .val (.ref r18), .val (.int (1 : Int32)), .val (.int (1 : Int32))] [(.ref t)]) _
  refine stp (fun _ => XS.aloadN X30.here hx rfl (hb hby d7_20) rfl rfl) ?_
  show Go p e below T30 (mkF m 21 #[.val (.ref t), .val (.ref r2), .val (.ref r18), .val (.int (1 : Int32)), .val (.int (1 : Int32))] [(.ref r18), (.ref t)]) _
  obtain ⟨T42, h42, X42, e42, W42, st42⟩ := putF X30 hx hZ hown (host := "") (Or.inl (hw _ (List.mem_of_getElem? (i := 244) rfl))) Via.refl e30 f33 f31 (Or.inr ⟨(hw _ (List.mem_of_getElem? (i := 245) rfl)), rfl, hnm⟩) (hw _ (List.mem_of_getElem? (i := 1) rfl)) (ty := (.object "java/util/Set")) (by decide) rfl rfl (g := (mkF m 21 #[.val (.ref t), .val (.ref r2), .val (.ref r18), .val (.int (1 : Int32)), .val (.int (1 : Int32))] [(.ref r18), (.ref t)])) rfl rfl (hb hby d7_21)
  have Fw42 := f33.same W42
  have f43 := f31.wr W42
  have f44 := Fw30.other W42 (Or.inr (slot_ne (Or.inr (hw _ (List.mem_of_getElem? (i := 243) rfl))) (Or.inr (hw _ (List.mem_of_getElem? (i := 245) rfl))) (by decide) (t := (.object "java/util/Set")) (t' := (.object "java/util/Set")) (by decide) (by decide)))
  have f46 := f34.other W42 (Or.inr (slot_ne (Or.inr (hw _ (List.mem_of_getElem? (i := 247) rfl))) (Or.inr (hw _ (List.mem_of_getElem? (i := 245) rfl))) (by decide) (t := .boolean) (t' := (.object "java/util/Set")) (by decide) (by decide)))
  have f47 := f35.other W42 (Or.inr (slot_ne (Or.inr (hw _ (List.mem_of_getElem? (i := 249) rfl))) (Or.inr (hw _ (List.mem_of_getElem? (i := 245) rfl))) (by decide) (t := .boolean) (t' := (.object "java/util/Set")) (by decide) (by decide)))
  have f48 := f36.wr W42
  have f49 := f37.other W42 (Or.inl ne_sa_t)
  have f50 := f38.wr W42
  have f51 := f39.wr W42
  have f52 := f40.other W42 (Or.inl ne_sb_t)
  have f53 := f41.wr W42
  have K42 : Keep h0 h42 [t, m1, m2] := K30.wr W42 (Or.inl (List.mem_of_getElem? (i := 0) rfl))
  have O42 := O30.wr W42 ge_t
  have N42 := Fr.snoc X42 N30 ge_t
  refine stp st42 ?_
  show Go p e below T42 (mkF m 24 #[.val (.ref t), .val (.ref r2), .val (.ref r18), .val (.int (1 : Int32)), .val (.int (1 : Int32))] []) _
  refine stp (fun _ => XS.aloadN X42.here hx rfl (hb hby d7_24) rfl rfl) ?_
  show Go p e below T42 (mkF m 25 #[.val (.ref t), .val (.ref r2), .val (.ref r18), .val (.int (1 : Int32)), .val (.int (1 : Int32))] [(.ref t)]) _
  refine stp (fun _ => XS.iloadN X42.here hx rfl (hb hby d7_25) rfl) ?_
  show Go p e below T42 (mkF m 26 #[.val (.ref t), .val (.ref r2), .val (.ref r18), .val (.int (1 : Int32)), .val (.int (1 : Int32))] [(.int (1 : Int32)), (.ref t)]) _
  obtain ⟨T54, h54, X54, e54, W54, st54⟩ := putFN X42 hx hZ hown (hw _ (List.mem_of_getElem? (i := 246) rfl)) Via.refl e42 f46 f43 (Or.inr ⟨(hw _ (List.mem_of_getElem? (i := 247) rfl)), rfl, hnm⟩) (hw _ (List.mem_of_getElem? (i := 1) rfl)) (ty := .boolean) (v' := (.int (1 : Int32))) (by decide) rfl rfl (g := (mkF m 26 #[.val (.ref t), .val (.ref r2), .val (.ref r18), .val (.int (1 : Int32)), .val (.int (1 : Int32))] [(.int (1 : Int32)), (.ref t)])) rfl rfl (hb hby d7_26)
  have Fw54 := f46.same W54
  have f55 := f43.wr W54
  have f56 := f44.other W54 (Or.inr (slot_ne (Or.inr (hw _ (List.mem_of_getElem? (i := 243) rfl))) (Or.inr (hw _ (List.mem_of_getElem? (i := 247) rfl))) (by decide) (t := (.object "java/util/Set")) (t' := .boolean) (by decide) (by decide)))
  have f57 := Fw42.other W54 (Or.inr (slot_ne (Or.inr (hw _ (List.mem_of_getElem? (i := 245) rfl))) (Or.inr (hw _ (List.mem_of_getElem? (i := 247) rfl))) (by decide) (t := (.object "java/util/Set")) (t' := .boolean) (by decide) (by decide)))
  have f59 := f47.other W54 (Or.inr (slot_ne (Or.inr (hw _ (List.mem_of_getElem? (i := 249) rfl))) (Or.inr (hw _ (List.mem_of_getElem? (i := 247) rfl))) (by decide) (t := .boolean) (t' := .boolean) (by decide) (by decide)))
  have f60 := f48.wr W54
  have f61 := f49.other W54 (Or.inl ne_sa_t)
  have f62 := f50.wr W54
  have f63 := f51.wr W54
  have f64 := f52.other W54 (Or.inl ne_sb_t)
  have f65 := f53.wr W54
  have K54 : Keep h0 h54 [t, m1, m2] := K42.wr W54 (Or.inl (List.mem_of_getElem? (i := 0) rfl))
  have O54 := O42.wr W54 ge_t
  have N54 := Fr.snoc X54 N42 ge_t
  refine stp st54 ?_
  show Go p e below T54 (mkF m 29 #[.val (.ref t), .val (.ref r2), .val (.ref r18), .val (.int (1 : Int32)), .val (.int (1 : Int32))] []) _
  refine stp (fun _ => XS.aloadN X54.here hx rfl (hb hby d7_29) rfl rfl) ?_
  show Go p e below T54 (mkF m 30 #[.val (.ref t), .val (.ref r2), .val (.ref r18), .val (.int (1 : Int32)), .val (.int (1 : Int32))] [(.ref t)]) _
  refine stp (fun _ => XS.iload X54.here hx rfl (hb hby d7_30) rfl) ?_
  show Go p e below T54 (mkF m 32 #[.val (.ref t), .val (.ref r2), .val (.ref r18), .val (.int (1 : Int32)), .val (.int (1 : Int32))] [(.int (1 : Int32)), (.ref t)]) _
  obtain ⟨T66, h66, X66, e66, W66, st66⟩ := putFN X54 hx hZ hown (hw _ (List.mem_of_getElem? (i := 248) rfl)) Via.refl e54 f59 f55 (Or.inr ⟨(hw _ (List.mem_of_getElem? (i := 249) rfl)), rfl, hnm⟩) (hw _ (List.mem_of_getElem? (i := 1) rfl)) (ty := .boolean) (v' := (.int (1 : Int32))) (by decide) rfl rfl (g := (mkF m 32 #[.val (.ref t), .val (.ref r2), .val (.ref r18), .val (.int (1 : Int32)), .val (.int (1 : Int32))] [(.int (1 : Int32)), (.ref t)])) rfl rfl (hb hby d7_32)
  have Fw66 := f59.same W66
  have f67 := f55.wr W66
  have f68 := f56.other W66 (Or.inr (slot_ne (Or.inr (hw _ (List.mem_of_getElem? (i := 243) rfl))) (Or.inr (hw _ (List.mem_of_getElem? (i := 249) rfl))) (by decide) (t := (.object "java/util/Set")) (t' := .boolean) (by decide) (by decide)))
  have f69 := f57.other W66 (Or.inr (slot_ne (Or.inr (hw _ (List.mem_of_getElem? (i := 245) rfl))) (Or.inr (hw _ (List.mem_of_getElem? (i := 249) rfl))) (by decide) (t := (.object "java/util/Set")) (t' := .boolean) (by decide) (by decide)))
  have f70 := Fw54.other W66 (Or.inr (slot_ne (Or.inr (hw _ (List.mem_of_getElem? (i := 247) rfl))) (Or.inr (hw _ (List.mem_of_getElem? (i := 249) rfl))) (by decide) (t := .boolean) (t' := .boolean) (by decide) (by decide)))
  have f72 := f60.wr W66
  have f73 := f61.other W66 (Or.inl ne_sa_t)
  have f74 := f62.wr W66
  have f75 := f63.wr W66
  have f76 := f64.other W66 (Or.inl ne_sb_t)
  have f77 := f65.wr W66
  have K66 : Keep h0 h66 [t, m1, m2] := K54.wr W66 (Or.inl (List.mem_of_getElem? (i := 0) rfl))
  have O66 := O54.wr W66 ge_t
  have N66 := Fr.snoc X66 N54 ge_t
  refine stp st66 ?_
  show Go p e below T66 (mkF m 35 #[.val (.ref t), .val (.ref r2), .val (.ref r18), .val (.int (1 : Int32)), .val (.int (1 : Int32))] []) _
  refine outV X66 hx hret (hb hby d7_35) hlk (by decide) (by decide) ?_
  rw [e66]
  exact ⟨rfl, N66, K66, f67, f70, Fw66⟩
theorem ef_rm_mh110 (m : MethodId) (t : Addr)  : entryFrame m #[(.ref t), (.int (0 : Int32))] 2 = mkF m 0 #[.val (.ref t), .val (.int (0 : Int32))] [] := by first | (simp [entryFrame, mkF, argsToLocals, Value.category]; done) | rfl
def Q_rm_mh110 (Z : State) (t : Addr)  (h0 : Heap) (n0 : Nat) (v : Option Value) (h : Heap) (L : List Loc) : Prop := v = some (.int (1 : Int32)) ∧ Fr n0 L ∧ h = h0
set_option maxRecDepth 65536 in
set_option maxHeartbeats 40000000 in
theorem rm_mh110 (l : Launch) (Z : State) (a0 : Array Value) (hw : ∀ d ∈ tables_1, d.before a0 Z = true) (ws : List Jvm.Cond) (t : Addr)  (h0 : Heap) (n0 : Nat) (O0 : Old Z n0 h0) (F_t_unreadSuperclass : Fld Z h0 t "com/example/revlint/revlint/model/Library$Supertypes" "unreadSuperclass" "Z" (.int (1 : Int32))) (F_t_unreadInterface : Fld Z h0 t "com/example/revlint/revlint/model/Library$Supertypes" "unreadInterface" "Z" (.int (1 : Int32))) :
    MetFree l (⟨"com/example/revlint/revlint/model/Library$Supertypes", "mayHaveUnnamed", "(Z)Z"⟩ : MethodName) (head1 (Jvm.Cond.code (⟨"com/example/revlint/revlint/model/Library$Supertypes", "mayHaveUnnamed", "(Z)Z"⟩ : MethodName) prog_34_method_2_code 2 (some .boolean) :: ws) ({ frames := 0, cells := 0, slots := 0, locals := 0 } : Room)) (fun args_ U => args_ = #[(.ref t), (.int (0 : Int32))] ∧ Z.Warmed39 U.vm ∧ U.heap = h0) (fun _ _ _ _ _ => True) (fun _ U out_ U' => ∃ val_ loc_, out_ = .returned val_ ∧ (Q_rm_mh110 Z t h0 n0) val_ U'.heap loc_ ∧ FrameEnd U out_ U' loc_ ({ frames := 0, cells := 0, slots := 0, locals := 0 } : Room).cells ({ frames := 0, cells := 0, slots := 0, locals := 0 } : Room).slots) := by
  refine start (Q := (Q_rm_mh110 Z t h0 n0)) pn_29 ?_
  intro p e s m below meth c T0 X0 hx hby hml hown hnm hret hlk hZ e0
  replace hown : s.vm.findClass "com/example/revlint/revlint/model/Library$Supertypes" = some m.cls := hown
  replace hml : c.maxLocals = 2 := hml
  refine goAt (ef_rm_mh110 m t ) ?_
  have N0 := Fr.nil n0
  show Go p e below T0 (mkF m 0 #[.val (.ref t), .val (.int (0 : Int32))] []) _
  refine stp (fun _ => XS.aloadN X0.here hx rfl (hb hby d36_0) rfl rfl) ?_
  show Go p e below T0 (mkF m 1 #[.val (.ref t), .val (.int (0 : Int32))] [(.ref t)]) _
  obtain ⟨T1, X1, e1, st1⟩ := getF X0 hx hZ hown (host := "") (Or.inl (hw _ (List.mem_of_getElem? (i := 246) rfl))) Via.refl e0 F_t_unreadSuperclass (g := (mkF m 1 #[.val (.ref t), .val (.int (0 : Int32))] [(.ref t)])) rfl rfl (hb hby d36_1)
  refine stp st1 ?_
  show Go p e below T1 (mkF m 4 #[.val (.ref t), .val (.int (0 : Int32))] [(.int (1 : Int32))]) _
  refine stp (fun _ => XS.ifYes X1.here hx rfl (pc0 := 4) (pc' := 18) rfl (hb hby d36_4) rfl (by decide) (by decide) (by decide)) ?_
  show Go p e below T1 (mkF m 18 #[.val (.ref t), .val (.int (0 : Int32))] []) _
  refine stp (fun _ => XS.iconst X1.here hx rfl (hb hby d36_18)) ?_
  show Go p e below T1 (mkF m 19 #[.val (.ref t), .val (.int (0 : Int32))] [(.int (1 : Int32))]) _
  refine stp (fun _ => XS.goto X1.here hx rfl (pc0 := 19) (pc' := 23) rfl (hb hby d36_19) (by decide) (by decide)) ?_
  show Go p e below T1 (mkF m 23 #[.val (.ref t), .val (.int (0 : Int32))] [(.int (1 : Int32))]) _
  refine outN X1 hx (t := .boolean) hret (by simp) (hb hby d36_23) hlk (by decide) (by decide) ?_
  exact ⟨rfl, N0, e1⟩
theorem ef_rm_mh111 (m : MethodId) (t : Addr)  : entryFrame m #[(.ref t), (.int (1 : Int32))] 2 = mkF m 0 #[.val (.ref t), .val (.int (1 : Int32))] [] := by first | (simp [entryFrame, mkF, argsToLocals, Value.category]; done) | rfl
def Q_rm_mh111 (Z : State) (t : Addr)  (h0 : Heap) (n0 : Nat) (v : Option Value) (h : Heap) (L : List Loc) : Prop := v = some (.int (1 : Int32)) ∧ Fr n0 L ∧ h = h0
set_option maxRecDepth 65536 in
set_option maxHeartbeats 40000000 in
theorem rm_mh111 (l : Launch) (Z : State) (a0 : Array Value) (hw : ∀ d ∈ tables_1, d.before a0 Z = true) (ws : List Jvm.Cond) (t : Addr)  (h0 : Heap) (n0 : Nat) (O0 : Old Z n0 h0) (F_t_unreadSuperclass : Fld Z h0 t "com/example/revlint/revlint/model/Library$Supertypes" "unreadSuperclass" "Z" (.int (1 : Int32))) (F_t_unreadInterface : Fld Z h0 t "com/example/revlint/revlint/model/Library$Supertypes" "unreadInterface" "Z" (.int (1 : Int32))) :
    MetFree l (⟨"com/example/revlint/revlint/model/Library$Supertypes", "mayHaveUnnamed", "(Z)Z"⟩ : MethodName) (head1 (Jvm.Cond.code (⟨"com/example/revlint/revlint/model/Library$Supertypes", "mayHaveUnnamed", "(Z)Z"⟩ : MethodName) prog_34_method_2_code 2 (some .boolean) :: ws) ({ frames := 0, cells := 0, slots := 0, locals := 0 } : Room)) (fun args_ U => args_ = #[(.ref t), (.int (1 : Int32))] ∧ Z.Warmed39 U.vm ∧ U.heap = h0) (fun _ _ _ _ _ => True) (fun _ U out_ U' => ∃ val_ loc_, out_ = .returned val_ ∧ (Q_rm_mh111 Z t h0 n0) val_ U'.heap loc_ ∧ FrameEnd U out_ U' loc_ ({ frames := 0, cells := 0, slots := 0, locals := 0 } : Room).cells ({ frames := 0, cells := 0, slots := 0, locals := 0 } : Room).slots) := by
  refine start (Q := (Q_rm_mh111 Z t h0 n0)) pn_29 ?_
  intro p e s m below meth c T0 X0 hx hby hml hown hnm hret hlk hZ e0
  replace hown : s.vm.findClass "com/example/revlint/revlint/model/Library$Supertypes" = some m.cls := hown
  replace hml : c.maxLocals = 2 := hml
  refine goAt (ef_rm_mh111 m t ) ?_
  have N0 := Fr.nil n0
  show Go p e below T0 (mkF m 0 #[.val (.ref t), .val (.int (1 : Int32))] []) _
  refine stp (fun _ => XS.aloadN X0.here hx rfl (hb hby d36_0) rfl rfl) ?_
  show Go p e below T0 (mkF m 1 #[.val (.ref t), .val (.int (1 : Int32))] [(.ref t)]) _
  obtain ⟨T1, X1, e1, st1⟩ := getF X0 hx hZ hown (host := "") (Or.inl (hw _ (List.mem_of_getElem? (i := 246) rfl))) Via.refl e0 F_t_unreadSuperclass (g := (mkF m 1 #[.val (.ref t), .val (.int (1 : Int32))] [(.ref t)])) rfl rfl (hb hby d36_1)
  refine stp st1 ?_
  show Go p e below T1 (mkF m 4 #[.val (.ref t), .val (.int (1 : Int32))] [(.int (1 : Int32))]) _
  refine stp (fun _ => XS.ifYes X1.here hx rfl (pc0 := 4) (pc' := 18) rfl (hb hby d36_4) rfl (by decide) (by decide) (by decide)) ?_
  show Go p e below T1 (mkF m 18 #[.val (.ref t), .val (.int (1 : Int32))] []) _
  refine stp (fun _ => XS.iconst X1.here hx rfl (hb hby d36_18)) ?_
  show Go p e below T1 (mkF m 19 #[.val (.ref t), .val (.int (1 : Int32))] [(.int (1 : Int32))]) _
  refine stp (fun _ => XS.goto X1.here hx rfl (pc0 := 19) (pc' := 23) rfl (hb hby d36_19) (by decide) (by decide)) ?_
  show Go p e below T1 (mkF m 23 #[.val (.ref t), .val (.int (1 : Int32))] [(.int (1 : Int32))]) _
  refine outN X1 hx (t := .boolean) hret (by simp) (hb hby d36_23) hlk (by decide) (by decide) ?_
  exact ⟨rfl, N0, e1⟩
theorem pd_17 : parseMethodDescriptor "(Ljava/util/Set;Ljava/util/Set;ZZ)V" = some ⟨[(.object "java/util/Set"), (.object "java/util/Set"), .boolean, .boolean], none⟩ := by decide +kernel
theorem pd_18 : parseMethodDescriptor "(Z)Z" = some ⟨[.boolean], some .boolean⟩ := by decide +kernel
theorem ef_rm0 (m : MethodId) (p0 : Int32)  : entryFrame m #[(.int p0)] maxLocals = mkF m 0 #[.val (.int p0), .unset, .unset, .unset, .unset, .unset, .unset, .unset] [] := by first | (simp [entryFrame, mkF, argsToLocals, Value.category, maxLocals]; done) | rfl
def Q_rm0 (Z : State) (p0 : Int32) (mA mS : Addr) (h0 : Heap) (n0 : Nat) (v : Option Value) (h : Heap) (L : List Loc) : Prop := v = some (.int 1) ∧ Fr n0 L
theorem pn_30_ : plainName "com/example/revlint/revlint/model/SupertypesMayHaveUnnamedPinLaw" = true := by first | (simp [plainName, overriddenIn]; done) | decide +kernel
theorem pn_30 : plainFor (⟨"com/example/revlint/revlint/model/SupertypesMayHaveUnnamedPinLaw", "law", "(I)Z"⟩ : MethodName) = true := plainFor_of_name pn_30_
set_option maxRecDepth 65536 in
set_option maxHeartbeats 40000000 in
theorem rm0 (l : Launch) (Z : State) (a0 : Array Value) (hw : ∀ d ∈ tables_1, d.before a0 Z = true) (ws : List Jvm.Cond) (p0 : Int32) (mA mS : Addr) (h0 : Heap) (n0 : Nat) (O0 : Old Z n0 h0) (S_AD : Sta Z Z.heap "java/lang/StrictMath" "$assertionsDisabled" "Z" (.int (1 : Int32))) (hmA : OwMir Z "java/util/HashSet" mA) (hmS : OwMir Z "java/util/Collections$UnmodifiableSet" mS) :
    MetFree l x (head1 (Jvm.Cond.code x code maxLocals ret :: ws) room_1) (fun args_ U => args_ = #[(.int p0)] ∧ Z.Warmed39 U.vm ∧ U.heap = h0) (fun _ _ _ _ _ => True) (fun _ U out_ U' => ∃ val_ loc_, out_ = .returned val_ ∧ (Q_rm0 Z p0 mA mS h0 n0) val_ U'.heap loc_ ∧ FrameEnd U out_ U' loc_ 15 54) := by
  refine start (Q := (Q_rm0 Z p0 mA mS h0 n0)) (show plainFor x = true from pn_30) ?_
  intro p e s m below meth c T0 X0 hx hby hml hown hnm hret hlk hZ e0
  replace hown : s.vm.findClass "com/example/revlint/revlint/model/SupertypesMayHaveUnnamedPinLaw" = some m.cls := hown
  replace hml : c.maxLocals = 8 := hml
  refine goAt (ef_rm0 m p0 ) ?_
  have N0 := Fr.nil n0
  show Go p e below T0 (mkF m 0 #[.val (.int p0), .unset, .unset, .unset, .unset, .unset, .unset, .unset] []) _
  refine stp (fun _ => XS.iloadN X0.here hx rfl (hb hby at_0) rfl) ?_
  show Go p e below T0 (mkF m 1 #[.val (.int p0), .unset, .unset, .unset, .unset, .unset, .unset, .unset] [(.int p0)]) _
  refine stp (fun _ => XS.iconst X0.here hx rfl (hb hby at_1)) ?_
  show Go p e below T0 (mkF m 2 #[.val (.int p0), .unset, .unset, .unset, .unset, .unset, .unset, .unset] [(.int (1 : Int32)), (.int p0)]) _
  refine stp (fun _ => XS.iand X0.here hx rfl (hb hby at_2) rfl) ?_
  show Go p e below T0 (mkF m 3 #[.val (.int p0), .unset, .unset, .unset, .unset, .unset, .unset, .unset] [(.int (p0 &&& (1 : Int32)))]) _
  by_cases q3_1 : (p0 &&& (1 : Int32)) = 0
  · refine stp (fun _ => XS.ifYes X0.here hx rfl (pc0 := 3) (pc' := 10) rfl (hb hby at_3) rfl (XT.i0_eq_t q3_1) (by decide) (by decide)) ?_
    show Go p e below T0 (mkF m 10 #[.val (.int p0), .unset, .unset, .unset, .unset, .unset, .unset, .unset] []) _
    refine stp (fun _ => XS.iconst X0.here hx rfl (hb hby at_10)) ?_
    show Go p e below T0 (mkF m 11 #[.val (.int p0), .unset, .unset, .unset, .unset, .unset, .unset, .unset] [(.int (0 : Int32))]) _
    refine stp (fun _ => XS.istoreN X0.here hx rfl (hb hby at_11) rfl (l' := #[.val (.int p0), .val (.int (0 : Int32)), .unset, .unset, .unset, .unset, .unset, .unset]) rfl) ?_
    show Go p e below T0 (mkF m 12 #[.val (.int p0), .val (.int (0 : Int32)), .unset, .unset, .unset, .unset, .unset, .unset] []) _
    refine stp (fun _ => XS.iloadN X0.here hx rfl (hb hby at_12) rfl) ?_
    show Go p e below T0 (mkF m 13 #[.val (.int p0), .val (.int (0 : Int32)), .unset, .unset, .unset, .unset, .unset, .unset] [(.int p0)]) _
    refine stp (fun _ => XS.iconst X0.here hx rfl (hb hby at_13)) ?_
    show Go p e below T0 (mkF m 14 #[.val (.int p0), .val (.int (0 : Int32)), .unset, .unset, .unset, .unset, .unset, .unset] [(.int (2 : Int32)), (.int p0)]) _
    refine stp (fun _ => XS.iand X0.here hx rfl (hb hby at_14) rfl) ?_
    show Go p e below T0 (mkF m 15 #[.val (.int p0), .val (.int (0 : Int32)), .unset, .unset, .unset, .unset, .unset, .unset] [(.int (p0 &&& (2 : Int32)))]) _
    by_cases q15_2 : (p0 &&& (2 : Int32)) = 0
    · refine stp (fun _ => XS.ifYes X0.here hx rfl (pc0 := 15) (pc' := 22) rfl (hb hby at_15) rfl (XT.i0_eq_t q15_2) (by decide) (by decide)) ?_
      show Go p e below T0 (mkF m 22 #[.val (.int p0), .val (.int (0 : Int32)), .unset, .unset, .unset, .unset, .unset, .unset] []) _
      refine stp (fun _ => XS.iconst X0.here hx rfl (hb hby at_22)) ?_
      show Go p e below T0 (mkF m 23 #[.val (.int p0), .val (.int (0 : Int32)), .unset, .unset, .unset, .unset, .unset, .unset] [(.int (0 : Int32))]) _
      refine stp (fun _ => XS.istoreN X0.here hx rfl (hb hby at_23) rfl (l' := #[.val (.int p0), .val (.int (0 : Int32)), .val (.int (0 : Int32)), .unset, .unset, .unset, .unset, .unset]) rfl) ?_
      show Go p e below T0 (mkF m 24 #[.val (.int p0), .val (.int (0 : Int32)), .val (.int (0 : Int32)), .unset, .unset, .unset, .unset, .unset] []) _
      obtain ⟨T3, h3, X3, e3, E3, A3, D3, U3, st3⟩ := newO X0 hx hZ hown (hw _ (List.mem_of_getElem? (i := 0) rfl)) (hw _ (List.mem_of_getElem? (i := 1) rfl)) (hw _ (List.mem_of_getElem? (i := 2) rfl)) e0 (g := (mkF m 24 #[.val (.int p0), .val (.int (0 : Int32)), .val (.int (0 : Int32)), .unset, .unset, .unset, .unset, .unset] [])) rfl (hb hby at_24) (by decide) (by decide)
      obtain ⟨b3, g3⟩ : ∃ z, z = h0.size := ⟨_, rfl⟩
      rw [← g3] at A3 D3 st3
      have sz_b3 : h0.size ≤ b3 := Nat.le_trans (Keep.refl h0 []).1 (Nat.le_of_eq g3.symm)
      have ge_b3 : n0 ≤ b3 := Nat.le_trans (old_le O0) (Nat.le_of_eq g3.symm)
      have K3 : Keep h0 h3 [] := (Keep.refl h0 []).ext E3
      have O3 := O0.ext E3
      have F4 : Fld Z h3 b3 "com/example/revlint/revlint/model/Library$Supertypes" "names" "Ljava/util/Set;" .null := D3 (Or.inr (hw _ (List.mem_of_getElem? (i := 243) rfl))) (ty := (.object "java/util/Set")) (by decide)
      have F5 : Fld Z h3 b3 "com/example/revlint/revlint/model/Library$Supertypes" "interfaces" "Ljava/util/Set;" .null := D3 (Or.inr (hw _ (List.mem_of_getElem? (i := 245) rfl))) (ty := (.object "java/util/Set")) (by decide)
      have F6 : Fld Z h3 b3 "com/example/revlint/revlint/model/Library$Supertypes" "unreadSuperclass" "Z" (.int (0 : Int32)) := D3 (Or.inr (hw _ (List.mem_of_getElem? (i := 247) rfl))) (ty := .boolean) (by decide)
      have F7 : Fld Z h3 b3 "com/example/revlint/revlint/model/Library$Supertypes" "unreadInterface" "Z" (.int (0 : Int32)) := D3 (Or.inr (hw _ (List.mem_of_getElem? (i := 249) rfl))) (ty := .boolean) (by decide)
      refine stp st3 ?_
      show Go p e below T3 (mkF m 27 #[.val (.int p0), .val (.int (0 : Int32)), .val (.int (0 : Int32)), .unset, .unset, .unset, .unset, .unset] [(.ref b3)]) _
      refine stp (fun _ => XS.dup X3.here hx rfl (hb hby at_27) rfl rfl) ?_
      show Go p e below T3 (mkF m 28 #[.val (.int p0), .val (.int (0 : Int32)), .val (.int (0 : Int32)), .unset, .unset, .unset, .unset, .unset] [(.ref b3), (.ref b3)]) _
      obtain ⟨T8, h8, X8, e8, E8, A8, D8, U8, st8⟩ := newO X3 hx hZ hown (hw _ (List.mem_of_getElem? (i := 3) rfl)) (hw _ (List.mem_of_getElem? (i := 4) rfl)) (hw _ (List.mem_of_getElem? (i := 5) rfl)) e3 (g := (mkF m 28 #[.val (.int p0), .val (.int (0 : Int32)), .val (.int (0 : Int32)), .unset, .unset, .unset, .unset, .unset] [(.ref b3), (.ref b3)])) rfl (hb hby at_28) (by decide) (by decide)
      obtain ⟨b8, g8⟩ : ∃ z, z = h3.size := ⟨_, rfl⟩
      rw [← g8] at A8 D8 st8
      have ne9 : b3 ≠ b8 := Nat.ne_of_lt (Nat.lt_of_lt_of_le A3.lt (Nat.le_of_eq g8.symm))
      have sz_b8 : h0.size ≤ b8 := Nat.le_trans K3.1 (Nat.le_of_eq g8.symm)
      have ge_b8 : n0 ≤ b8 := Nat.le_trans (old_le O3) (Nat.le_of_eq g8.symm)
      have f10 := A3.ext E8
      have f11 := F4.ext E8
      have f12 := F5.ext E8
      have f13 := F6.ext E8
      have f14 := F7.ext E8
      have K8 : Keep h0 h8 [] := K3.ext E8
      have O8 := O3.ext E8
      have F15 : Fld Z h8 b8 "java/util/HashSet" "map" "Ljava/util/HashMap;" .null := D8 (Or.inl (hw _ (List.mem_of_getElem? (i := 42) rfl))) (ty := (.object "java/util/HashMap")) (by decide)
      refine stp st8 ?_
      show Go p e below T8 (mkF m 31 #[.val (.int p0), .val (.int (0 : Int32)), .val (.int (0 : Int32)), .unset, .unset, .unset, .unset, .unset] [(.ref b8), (.ref b3), (.ref b3)]) _
      refine stp (fun _ => XS.dup X8.here hx rfl (hb hby at_31) rfl rfl) ?_
      show Go p e below T8 (mkF m 32 #[.val (.int p0), .val (.int (0 : Int32)), .val (.int (0 : Int32)), .unset, .unset, .unset, .unset, .unset] [(.ref b8), (.ref b8), (.ref b3), (.ref b3)]) _
      obtain ⟨_, _, ⟨T16, L16, k16, n16⟩, -, X16, ⟨Lc16, hQ16, l16, y16, z16⟩, st16⟩ := X8.specialBack hx (y := (⟨"java/util/HashSet", "<init>", "()V"⟩ : MethodName)) rfl hown (mvT hZ (hw _ (List.mem_of_getElem? (i := 6) rfl))) (mvT hZ (hw _ (List.mem_of_getElem? (i := 7) rfl))) (mvT hZ (hw _ (List.mem_of_getElem? (i := 8) rfl))) (by decide) (backOf (W := 3) (rm_hs0 l Z a0 hw [] b8  h8 n0 O8 A8 F15 ge_b8) hZ (hw _ (List.mem_of_getElem? (i := 8) rfl)) (hw _ (List.mem_of_getElem? (i := 5) rfl)) (by decide) (by decide)) (g := (mkF m 32 #[.val (.int p0), .val (.int (0 : Int32)), .val (.int (0 : Int32)), .unset, .unset, .unset, .unset, .unset] [(.ref b8), (.ref b8), (.ref b3), (.ref b3)])) rfl (by rw [hml]; rfl) (Steps.refl _) (a := b8) (argsL := []) (rest := [(.ref b8), (.ref b3), (.ref b3)]) (lenOf pd_0 rfl) rfl (by show 2 * 0 + _ ≤ _; exact Nat.le_of_eq rfl) (hb hby at_32) (fun _ _ => ⟨rfl, e8, (by decide : 2 + 1 ≤ _), (by decide : 5 + 8 ≤ _)⟩)
      dsimp only [Pt.U, Pt.locs, Pt.cells, Pt.slots] at X16 l16 y16 z16 st16 hQ16
      subst y16 z16
      obtain ⟨mp16, rfl, N16q, K16q, ⟨ge_mp16, sz16_mp16⟩, r16_0, r16_1, r16_2, r16_3, r16_4, r16_5, r16_6⟩ := hQ16
      have N16 : Fr n0 L16 := by rw [l16]; exact Fr.app N0 N16q
      have ne17 : b3 ≠ mp16 := Nat.ne_of_lt (Nat.lt_of_lt_of_le f10.lt sz16_mp16)
      have ne18 : b8 ≠ mp16 := Nat.ne_of_lt (Nat.lt_of_lt_of_le A8.lt sz16_mp16)
      have f19 := f10.keep K16q
      have f20 := f11.keep K16q (ninS ne9 nin0)
      have f21 := f12.keep K16q (ninS ne9 nin0)
      have f22 := f13.keep K16q (ninS ne9 nin0)
      have f23 := f14.keep K16q (ninS ne9 nin0)
      have f24 := A8.keep K16q
      have sz_mp16 : h0.size ≤ mp16 := Nat.le_trans K8.1 sz16_mp16
      have K16 : Keep h0 T16.heap [] := K8.trans K16q (allS (Or.inr sz_b8) all0)
      have O16 := O8.keep K16q (allS ge_b8 all0)
      refine stt st16 ?_
      show Go p e below T16 (mkF m 35 #[.val (.int p0), .val (.int (0 : Int32)), .val (.int (0 : Int32)), .unset, .unset, .unset, .unset, .unset] [(.ref b8), (.ref b3), (.ref b3)]) _
      obtain ⟨T25, h25, X25, e25, E25, A25, D25, U25, st25⟩ := newO X16 hx hZ hown (hw _ (List.mem_of_getElem? (i := 3) rfl)) (hw _ (List.mem_of_getElem? (i := 4) rfl)) (hw _ (List.mem_of_getElem? (i := 5) rfl)) rfl (g := (mkF m 35 #[.val (.int p0), .val (.int (0 : Int32)), .val (.int (0 : Int32)), .unset, .unset, .unset, .unset, .unset] [(.ref b8), (.ref b3), (.ref b3)])) rfl (hb hby at_35) (by decide) (by decide)
      obtain ⟨b25, g25⟩ : ∃ z, z = T16.heap.size := ⟨_, rfl⟩
      rw [← g25] at A25 D25 st25
      have ne26 : b3 ≠ b25 := Nat.ne_of_lt (Nat.lt_of_lt_of_le f19.lt (Nat.le_of_eq g25.symm))
      have ne27 : b8 ≠ b25 := Nat.ne_of_lt (Nat.lt_of_lt_of_le r16_0.lt (Nat.le_of_eq g25.symm))
      have ne28 : mp16 ≠ b25 := Nat.ne_of_lt (Nat.lt_of_lt_of_le r16_2.lt (Nat.le_of_eq g25.symm))
      have sz_b25 : h0.size ≤ b25 := Nat.le_trans K16.1 (Nat.le_of_eq g25.symm)
      have ge_b25 : n0 ≤ b25 := Nat.le_trans (old_le O16) (Nat.le_of_eq g25.symm)
      have f29 := f19.ext E25
      have f30 := f20.ext E25
      have f31 := f21.ext E25
      have f32 := f22.ext E25
      have f33 := f23.ext E25
      have f34 := r16_0.ext E25
      have f35 := r16_1.ext E25
      have f36 := r16_2.ext E25
      have f37 := r16_3.ext E25
      have f38 := r16_4.ext E25
      have f39 := r16_5.ext E25
      have f40 := r16_6.ext E25
      have K25 : Keep h0 h25 [] := K16.ext E25
      have O25 := O16.ext E25
      have F41 : Fld Z h25 b25 "java/util/HashSet" "map" "Ljava/util/HashMap;" .null := D25 (Or.inl (hw _ (List.mem_of_getElem? (i := 42) rfl))) (ty := (.object "java/util/HashMap")) (by decide)
      refine stp st25 ?_
      show Go p e below T25 (mkF m 38 #[.val (.int p0), .val (.int (0 : Int32)), .val (.int (0 : Int32)), .unset, .unset, .unset, .unset, .unset] [(.ref b25), (.ref b8), (.ref b3), (.ref b3)]) _
      refine stp (fun _ => XS.dup X25.here hx rfl (hb hby at_38) rfl rfl) ?_
      show Go p e below T25 (mkF m 39 #[.val (.int p0), .val (.int (0 : Int32)), .val (.int (0 : Int32)), .unset, .unset, .unset, .unset, .unset] [(.ref b25), (.ref b25), (.ref b8), (.ref b3), (.ref b3)]) _
      obtain ⟨_, _, ⟨T42, L42, k42, n42⟩, -, X42, ⟨Lc42, hQ42, l42, y42, z42⟩, st42⟩ := X25.specialBack hx (y := (⟨"java/util/HashSet", "<init>", "()V"⟩ : MethodName)) rfl hown (mvT hZ (hw _ (List.mem_of_getElem? (i := 6) rfl))) (mvT hZ (hw _ (List.mem_of_getElem? (i := 7) rfl))) (mvT hZ (hw _ (List.mem_of_getElem? (i := 8) rfl))) (by decide) (backOf (W := 4) (rm_hs0 l Z a0 hw [] b25  h25 n0 O25 A25 F41 ge_b25) hZ (hw _ (List.mem_of_getElem? (i := 8) rfl)) (hw _ (List.mem_of_getElem? (i := 5) rfl)) (by decide) (by decide)) (g := (mkF m 39 #[.val (.int p0), .val (.int (0 : Int32)), .val (.int (0 : Int32)), .unset, .unset, .unset, .unset, .unset] [(.ref b25), (.ref b25), (.ref b8), (.ref b3), (.ref b3)])) rfl (by rw [hml]; rfl) (Steps.refl _) (a := b25) (argsL := []) (rest := [(.ref b25), (.ref b8), (.ref b3), (.ref b3)]) (lenOf pd_0 rfl) rfl (by show 2 * 0 + _ ≤ _; exact Nat.le_of_eq rfl) (hb hby at_39) (fun _ _ => ⟨rfl, e25, (by decide : 4 + 1 ≤ _), (by decide : 14 + 8 ≤ _)⟩)
      dsimp only [Pt.U, Pt.locs, Pt.cells, Pt.slots] at X42 l42 y42 z42 st42 hQ42
      subst y42 z42
      obtain ⟨mp42, rfl, N42q, K42q, ⟨ge_mp42, sz42_mp42⟩, r42_0, r42_1, r42_2, r42_3, r42_4, r42_5, r42_6⟩ := hQ42
      have N42 : Fr n0 L42 := by rw [l42]; exact Fr.app N16 N42q
      have ne43 : b25 ≠ mp42 := Nat.ne_of_lt (Nat.lt_of_lt_of_le A25.lt sz42_mp42)
      have ne44 : b3 ≠ mp42 := Nat.ne_of_lt (Nat.lt_of_lt_of_le f29.lt sz42_mp42)
      have ne45 : b8 ≠ mp42 := Nat.ne_of_lt (Nat.lt_of_lt_of_le f34.lt sz42_mp42)
      have ne46 : mp16 ≠ mp42 := Nat.ne_of_lt (Nat.lt_of_lt_of_le f36.lt sz42_mp42)
      have f47 := f29.keep K42q
      have f48 := f30.keep K42q (ninS ne26 nin0)
      have f49 := f31.keep K42q (ninS ne26 nin0)
      have f50 := f32.keep K42q (ninS ne26 nin0)
      have f51 := f33.keep K42q (ninS ne26 nin0)
      have f52 := f34.keep K42q
      have f53 := f35.keep K42q (ninS ne27 nin0)
      have f54 := f36.keep K42q
      have f55 := f37.keep K42q (ninS ne28 nin0)
      have f56 := f38.keep K42q (ninS ne28 nin0)
      have f57 := f39.keep K42q (ninS ne28 nin0)
      have f58 := f40.keep K42q (ninS ne28 nin0)
      have f59 := A25.keep K42q
      have sz_mp42 : h0.size ≤ mp42 := Nat.le_trans K25.1 sz42_mp42
      have K42 : Keep h0 T42.heap [] := K25.trans K42q (allS (Or.inr sz_b25) all0)
      have O42 := O25.keep K42q (allS ge_b25 all0)
      refine stt st42 ?_
      show Go p e below T42 (mkF m 42 #[.val (.int p0), .val (.int (0 : Int32)), .val (.int (0 : Int32)), .unset, .unset, .unset, .unset, .unset] [(.ref b25), (.ref b8), (.ref b3), (.ref b3)]) _
      refine stp (fun _ => XS.iloadN X42.here hx rfl (hb hby at_42) rfl) ?_
      show Go p e below T42 (mkF m 43 #[.val (.int p0), .val (.int (0 : Int32)), .val (.int (0 : Int32)), .unset, .unset, .unset, .unset, .unset] [(.int (0 : Int32)), (.ref b25), (.ref b8), (.ref b3), (.ref b3)]) _
      refine stp (fun _ => XS.iloadN X42.here hx rfl (hb hby at_43) rfl) ?_
      show Go p e below T42 (mkF m 44 #[.val (.int p0), .val (.int (0 : Int32)), .val (.int (0 : Int32)), .unset, .unset, .unset, .unset, .unset] [(.int (0 : Int32)), (.int (0 : Int32)), (.ref b25), (.ref b8), (.ref b3), (.ref b3)]) _
      obtain ⟨_, _, ⟨T60, L60, k60, n60⟩, -, X60, ⟨Lc60, hQ60, l60, y60, z60⟩, st60⟩ := X42.specialBack hx (y := (⟨"com/example/revlint/revlint/model/Library$Supertypes", "<init>", "(Ljava/util/Set;Ljava/util/Set;ZZ)V"⟩ : MethodName)) rfl hown (mvT hZ (hw _ (List.mem_of_getElem? (i := 43) rfl))) (mvT hZ (hw _ (List.mem_of_getElem? (i := 44) rfl))) (mvT hZ (hw _ (List.mem_of_getElem? (i := 45) rfl))) (by decide) (backOf (W := 1) (rm_su00 l Z a0 hw [] b3 b8 b25 mA mS mp16 mp42 T42.heap n0 O42 f47 f48 f49 f50 f51 f52 f53 f54 f55 f56 f57 f58 r42_0 r42_1 r42_2 r42_3 r42_4 r42_5 r42_6 S_AD ge_b3 ge_mp16 ge_mp42 ne46 (Ne.symm ne18) ne28 (Ne.symm ne17) (Ne.symm ne45) (Ne.symm ne43) (Ne.symm ne44) (Ne.symm ne9) (Ne.symm ne26) hmA hmS) hZ (hw _ (List.mem_of_getElem? (i := 45) rfl)) (hw _ (List.mem_of_getElem? (i := 2) rfl)) (by decide) (by decide)) (g := (mkF m 44 #[.val (.int p0), .val (.int (0 : Int32)), .val (.int (0 : Int32)), .unset, .unset, .unset, .unset, .unset] [(.int (0 : Int32)), (.int (0 : Int32)), (.ref b25), (.ref b8), (.ref b3), (.ref b3)])) rfl (by rw [hml]; rfl) (Steps.refl _) (a := b3) (argsL := [(.ref b8), (.ref b25), (.int (0 : Int32)), (.int (0 : Int32))]) (rest := [(.ref b3)]) (lenOf pd_17 rfl) rfl (by show 2 * 0 + _ ≤ _; exact Nat.le_of_eq rfl) (hb hby at_44) (fun _ _ => ⟨rfl, rfl, (by decide : 5 + 10 ≤ _), (by decide : 22 + 32 ≤ _)⟩)
      dsimp only [Pt.U, Pt.locs, Pt.cells, Pt.slots] at X60 l60 y60 z60 st60 hQ60
      subst y60 z60
      obtain ⟨rfl, N60q, K60q, r60_0, r60_1, r60_2⟩ := hQ60
      have N60 : Fr n0 L60 := by rw [l60]; exact Fr.app N42 N60q
      have f61 := f47.keep K60q
      have f62 := f52.keep K60q
      have f63 := f53.keep K60q (ninS (Ne.symm ne9) (ninS ne18 (ninS ne45 nin0)))
      have f64 := f54.keep K60q
      have f65 := r42_0.keep K60q
      have f66 := r42_1.keep K60q (ninS (Ne.symm ne26) (ninS (Ne.symm ne28) (ninS ne43 nin0)))
      have f67 := r42_2.keep K60q
      have K60 : Keep h0 T60.heap [] := K42.trans K60q (allS (Or.inr sz_b3) (allS (Or.inr sz_mp16) (allS (Or.inr sz_mp42) all0)))
      have O60 := O42.keep K60q (allS ge_b3 (allS ge_mp16 (allS ge_mp42 all0)))
      refine stt st60 ?_
      show Go p e below T60 (mkF m 47 #[.val (.int p0), .val (.int (0 : Int32)), .val (.int (0 : Int32)), .unset, .unset, .unset, .unset, .unset] [(.ref b3)]) _
      refine stp (fun _ => XS.astoreN X60.here hx rfl (hb hby at_47) rfl rfl (l' := #[.val (.int p0), .val (.int (0 : Int32)), .val (.int (0 : Int32)), .val (.ref b3), .unset, .unset, .unset, .unset]) rfl) ?_
      show Go p e below T60 (mkF m 48 #[.val (.int p0), .val (.int (0 : Int32)), .val (.int (0 : Int32)), .val (.ref b3), .unset, .unset, .unset, .unset] []) _
      refine stp (fun _ => XS.aloadN X60.here hx rfl (hb hby at_48) rfl rfl) ?_
      show Go p e below T60 (mkF m 49 #[.val (.int p0), .val (.int (0 : Int32)), .val (.int (0 : Int32)), .val (.ref b3), .unset, .unset, .unset, .unset] [(.ref b3)]) _
      refine stp (fun _ => XS.iconst X60.here hx rfl (hb hby at_49)) ?_
      show Go p e below T60 (mkF m 50 #[.val (.int p0), .val (.int (0 : Int32)), .val (.int (0 : Int32)), .val (.ref b3), .unset, .unset, .unset, .unset] [(.int (0 : Int32)), (.ref b3)]) _
      obtain ⟨cq68, kq68, q68a, q68b, q68c⟩ := isOf hZ rfl r60_0
      obtain ⟨_, _, ⟨T68, L68, k68, n68⟩, -, X68, ⟨Lc68, hQ68, l68, y68, z68⟩, st68⟩ := X60.virtualBack hx (y := (⟨"com/example/revlint/revlint/model/Library$Supertypes", "mayHaveUnnamed", "(Z)Z"⟩ : MethodName)) (z := (⟨"com/example/revlint/revlint/model/Library$Supertypes", "mayHaveUnnamed", "(Z)Z"⟩ : MethodName)) hown (mvT hZ (hw _ (List.mem_of_getElem? (i := 250) rfl))) (mvT hZ (hw _ (List.mem_of_getElem? (i := 251) rfl))) (notFace_of_selects (args := #[]) (mvT hZ (hw _ (List.mem_of_getElem? (i := 253) rfl)))) (mvT hZ (hw _ (List.mem_of_getElem? (i := 253) rfl))) (mvT hZ (hw _ (List.mem_of_getElem? (i := 252) rfl))) (by decide) (backOf (W := 0) (rm_mh000 l Z a0 hw [] b3  T60.heap n0 O60 r60_1 r60_2) hZ (hw _ (List.mem_of_getElem? (i := 254) rfl)) (hw _ (List.mem_of_getElem? (i := 2) rfl)) (by decide) (by decide)) q68a q68c (g := (mkF m 50 #[.val (.int p0), .val (.int (0 : Int32)), .val (.int (0 : Int32)), .val (.ref b3), .unset, .unset, .unset, .unset] [(.int (0 : Int32)), (.ref b3)])) rfl (by rw [hml]; rfl) (Steps.refl _) (argsL := [(.int (0 : Int32))]) (rest := []) (lenOf pd_18 rfl) rfl (by show 2 * 0 + _ ≤ _; exact Nat.le_of_eq rfl) (hb hby at_50) (fun _ _ => ⟨rfl, rfl, (by decide : 15 + 0 ≤ _), (by decide : 54 + 0 ≤ _)⟩)
      dsimp only [Pt.U, Pt.locs, Pt.cells, Pt.slots] at X68 l68 y68 z68 st68 hQ68
      subst y68 z68
      obtain ⟨rfl, N68q, e68⟩ := hQ68
      have N68 : Fr n0 L68 := by rw [l68]; exact Fr.app N60 N68q
      refine stt st68 ?_
      show Go p e below T68 (mkF m 53 #[.val (.int p0), .val (.int (0 : Int32)), .val (.int (0 : Int32)), .val (.ref b3), .unset, .unset, .unset, .unset] [(.int (0 : Int32))]) _
      refine stp (fun _ => XS.istore X68.here hx rfl (hb hby at_53) rfl (l' := #[.val (.int p0), .val (.int (0 : Int32)), .val (.int (0 : Int32)), .val (.ref b3), .val (.int (0 : Int32)), .unset, .unset, .unset]) rfl) ?_
      show Go p e below T68 (mkF m 55 #[.val (.int p0), .val (.int (0 : Int32)), .val (.int (0 : Int32)), .val (.ref b3), .val (.int (0 : Int32)), .unset, .unset, .unset] []) _
      refine stp (fun _ => XS.aloadN X68.here hx rfl (hb hby at_55) rfl rfl) ?_
      show Go p e below T68 (mkF m 56 #[.val (.int p0), .val (.int (0 : Int32)), .val (.int (0 : Int32)), .val (.ref b3), .val (.int (0 : Int32)), .unset, .unset, .unset] [(.ref b3)]) _
      refine stp (fun _ => XS.iconst X68.here hx rfl (hb hby at_56)) ?_
      show Go p e below T68 (mkF m 57 #[.val (.int p0), .val (.int (0 : Int32)), .val (.int (0 : Int32)), .val (.ref b3), .val (.int (0 : Int32)), .unset, .unset, .unset] [(.int (1 : Int32)), (.ref b3)]) _
      obtain ⟨cq69, kq69, q69a, q69b, q69c⟩ := isOf hZ e68 r60_0
      obtain ⟨_, _, ⟨T69, L69, k69, n69⟩, -, X69, ⟨Lc69, hQ69, l69, y69, z69⟩, st69⟩ := X68.virtualBack hx (y := (⟨"com/example/revlint/revlint/model/Library$Supertypes", "mayHaveUnnamed", "(Z)Z"⟩ : MethodName)) (z := (⟨"com/example/revlint/revlint/model/Library$Supertypes", "mayHaveUnnamed", "(Z)Z"⟩ : MethodName)) hown (mvT hZ (hw _ (List.mem_of_getElem? (i := 250) rfl))) (mvT hZ (hw _ (List.mem_of_getElem? (i := 251) rfl))) (notFace_of_selects (args := #[]) (mvT hZ (hw _ (List.mem_of_getElem? (i := 253) rfl)))) (mvT hZ (hw _ (List.mem_of_getElem? (i := 253) rfl))) (mvT hZ (hw _ (List.mem_of_getElem? (i := 252) rfl))) (by decide) (backOf (W := 0) (rm_mh001 l Z a0 hw [] b3  T60.heap n0 O60 r60_1 r60_2) hZ (hw _ (List.mem_of_getElem? (i := 254) rfl)) (hw _ (List.mem_of_getElem? (i := 2) rfl)) (by decide) (by decide)) q69a q69c (g := (mkF m 57 #[.val (.int p0), .val (.int (0 : Int32)), .val (.int (0 : Int32)), .val (.ref b3), .val (.int (0 : Int32)), .unset, .unset, .unset] [(.int (1 : Int32)), (.ref b3)])) rfl (by rw [hml]; rfl) (Steps.refl _) (argsL := [(.int (1 : Int32))]) (rest := []) (lenOf pd_18 rfl) rfl (by show 2 * 0 + _ ≤ _; exact Nat.le_of_eq rfl) (hb hby at_57) (fun _ _ => ⟨rfl, e68, (by decide : 15 + 0 ≤ _), (by decide : 54 + 0 ≤ _)⟩)
      dsimp only [Pt.U, Pt.locs, Pt.cells, Pt.slots] at X69 l69 y69 z69 st69 hQ69
      subst y69 z69
      obtain ⟨rfl, N69q, e69⟩ := hQ69
      have N69 : Fr n0 L69 := by rw [l69]; exact Fr.app N68 N69q
      refine stt st69 ?_
      show Go p e below T69 (mkF m 60 #[.val (.int p0), .val (.int (0 : Int32)), .val (.int (0 : Int32)), .val (.ref b3), .val (.int (0 : Int32)), .unset, .unset, .unset] [(.int (0 : Int32))]) _
      refine stp (fun _ => XS.istore X69.here hx rfl (hb hby at_60) rfl (l' := #[.val (.int p0), .val (.int (0 : Int32)), .val (.int (0 : Int32)), .val (.ref b3), .val (.int (0 : Int32)), .val (.int (0 : Int32)), .unset, .unset]) rfl) ?_
      show Go p e below T69 (mkF m 62 #[.val (.int p0), .val (.int (0 : Int32)), .val (.int (0 : Int32)), .val (.ref b3), .val (.int (0 : Int32)), .val (.int (0 : Int32)), .unset, .unset] []) _
      refine stp (fun _ => XS.iloadN X69.here hx rfl (hb hby at_62) rfl) ?_
      show Go p e below T69 (mkF m 63 #[.val (.int p0), .val (.int (0 : Int32)), .val (.int (0 : Int32)), .val (.ref b3), .val (.int (0 : Int32)), .val (.int (0 : Int32)), .unset, .unset] [(.int (0 : Int32))]) _
      refine stp (fun _ => XS.istore X69.here hx rfl (hb hby at_63) rfl (l' := #[.val (.int p0), .val (.int (0 : Int32)), .val (.int (0 : Int32)), .val (.ref b3), .val (.int (0 : Int32)), .val (.int (0 : Int32)), .val (.int (0 : Int32)), .unset]) rfl) ?_
      show Go p e below T69 (mkF m 65 #[.val (.int p0), .val (.int (0 : Int32)), .val (.int (0 : Int32)), .val (.ref b3), .val (.int (0 : Int32)), .val (.int (0 : Int32)), .val (.int (0 : Int32)), .unset] []) _
      refine stp (fun _ => XS.iloadN X69.here hx rfl (hb hby at_65) rfl) ?_
      show Go p e below T69 (mkF m 66 #[.val (.int p0), .val (.int (0 : Int32)), .val (.int (0 : Int32)), .val (.ref b3), .val (.int (0 : Int32)), .val (.int (0 : Int32)), .val (.int (0 : Int32)), .unset] [(.int (0 : Int32))]) _
      refine stp (fun _ => XS.ifYes X69.here hx rfl (pc0 := 66) (pc' := 75) rfl (hb hby at_66) rfl (by decide) (by decide) (by decide)) ?_
      show Go p e below T69 (mkF m 75 #[.val (.int p0), .val (.int (0 : Int32)), .val (.int (0 : Int32)), .val (.ref b3), .val (.int (0 : Int32)), .val (.int (0 : Int32)), .val (.int (0 : Int32)), .unset] []) _
      refine stp (fun _ => XS.iloadN X69.here hx rfl (hb hby at_75) rfl) ?_
      show Go p e below T69 (mkF m 76 #[.val (.int p0), .val (.int (0 : Int32)), .val (.int (0 : Int32)), .val (.ref b3), .val (.int (0 : Int32)), .val (.int (0 : Int32)), .val (.int (0 : Int32)), .unset] [(.int (0 : Int32))]) _
      refine stp (fun _ => XS.ifYes X69.here hx rfl (pc0 := 76) (pc' := 85) rfl (hb hby at_76) rfl (by decide) (by decide) (by decide)) ?_
      show Go p e below T69 (mkF m 85 #[.val (.int p0), .val (.int (0 : Int32)), .val (.int (0 : Int32)), .val (.ref b3), .val (.int (0 : Int32)), .val (.int (0 : Int32)), .val (.int (0 : Int32)), .unset] []) _
      refine stp (fun _ => XS.iconst X69.here hx rfl (hb hby at_85)) ?_
      show Go p e below T69 (mkF m 86 #[.val (.int p0), .val (.int (0 : Int32)), .val (.int (0 : Int32)), .val (.ref b3), .val (.int (0 : Int32)), .val (.int (0 : Int32)), .val (.int (0 : Int32)), .unset] [(.int (0 : Int32))]) _
      refine stp (fun _ => XS.istore X69.here hx rfl (hb hby at_86) rfl (l' := #[.val (.int p0), .val (.int (0 : Int32)), .val (.int (0 : Int32)), .val (.ref b3), .val (.int (0 : Int32)), .val (.int (0 : Int32)), .val (.int (0 : Int32)), .val (.int (0 : Int32))]) rfl) ?_
      show Go p e below T69 (mkF m 88 #[.val (.int p0), .val (.int (0 : Int32)), .val (.int (0 : Int32)), .val (.ref b3), .val (.int (0 : Int32)), .val (.int (0 : Int32)), .val (.int (0 : Int32)), .val (.int (0 : Int32))] []) _
      refine stp (fun _ => XS.iload X69.here hx rfl (hb hby at_88) rfl) ?_
      show Go p e below T69 (mkF m 90 #[.val (.int p0), .val (.int (0 : Int32)), .val (.int (0 : Int32)), .val (.ref b3), .val (.int (0 : Int32)), .val (.int (0 : Int32)), .val (.int (0 : Int32)), .val (.int (0 : Int32))] [(.int (0 : Int32))]) _
      refine stp (fun _ => XS.iload X69.here hx rfl (hb hby at_90) rfl) ?_
      show Go p e below T69 (mkF m 92 #[.val (.int p0), .val (.int (0 : Int32)), .val (.int (0 : Int32)), .val (.ref b3), .val (.int (0 : Int32)), .val (.int (0 : Int32)), .val (.int (0 : Int32)), .val (.int (0 : Int32))] [(.int (0 : Int32)), (.int (0 : Int32))]) _
      refine stp (fun _ => XS.icmpNo X69.here hx rfl (hb hby at_92) rfl (by decide)) ?_
      show Go p e below T69 (mkF m 95 #[.val (.int p0), .val (.int (0 : Int32)), .val (.int (0 : Int32)), .val (.ref b3), .val (.int (0 : Int32)), .val (.int (0 : Int32)), .val (.int (0 : Int32)), .val (.int (0 : Int32))] []) _
      refine stp (fun _ => XS.iload X69.here hx rfl (hb hby at_95) rfl) ?_
      show Go p e below T69 (mkF m 97 #[.val (.int p0), .val (.int (0 : Int32)), .val (.int (0 : Int32)), .val (.ref b3), .val (.int (0 : Int32)), .val (.int (0 : Int32)), .val (.int (0 : Int32)), .val (.int (0 : Int32))] [(.int (0 : Int32))]) _
      refine stp (fun _ => XS.iload X69.here hx rfl (hb hby at_97) rfl) ?_
      show Go p e below T69 (mkF m 99 #[.val (.int p0), .val (.int (0 : Int32)), .val (.int (0 : Int32)), .val (.ref b3), .val (.int (0 : Int32)), .val (.int (0 : Int32)), .val (.int (0 : Int32)), .val (.int (0 : Int32))] [(.int (0 : Int32)), (.int (0 : Int32))]) _
      refine stp (fun _ => XS.icmpNo X69.here hx rfl (hb hby at_99) rfl (by decide)) ?_
      show Go p e below T69 (mkF m 102 #[.val (.int p0), .val (.int (0 : Int32)), .val (.int (0 : Int32)), .val (.ref b3), .val (.int (0 : Int32)), .val (.int (0 : Int32)), .val (.int (0 : Int32)), .val (.int (0 : Int32))] []) _
      refine stp (fun _ => XS.iconst X69.here hx rfl (hb hby at_102)) ?_
      show Go p e below T69 (mkF m 103 #[.val (.int p0), .val (.int (0 : Int32)), .val (.int (0 : Int32)), .val (.ref b3), .val (.int (0 : Int32)), .val (.int (0 : Int32)), .val (.int (0 : Int32)), .val (.int (0 : Int32))] [(.int (1 : Int32))]) _
      refine stp (fun _ => XS.goto X69.here hx rfl (pc0 := 103) (pc' := 107) rfl (hb hby at_103) (by decide) (by decide)) ?_
      show Go p e below T69 (mkF m 107 #[.val (.int p0), .val (.int (0 : Int32)), .val (.int (0 : Int32)), .val (.ref b3), .val (.int (0 : Int32)), .val (.int (0 : Int32)), .val (.int (0 : Int32)), .val (.int (0 : Int32))] [(.int (1 : Int32))]) _
      refine outN X69 hx (t := .boolean) hret (by simp) (hb hby at_107) hlk (by decide) (by decide) ?_
      exact ⟨rfl, N69⟩
    · refine stp (fun _ => XS.ifNo X0.here hx rfl (hb hby at_15) rfl (XT.i0_eq_f q15_2)) ?_
      show Go p e below T0 (mkF m 18 #[.val (.int p0), .val (.int (0 : Int32)), .unset, .unset, .unset, .unset, .unset, .unset] []) _
      refine stp (fun _ => XS.iconst X0.here hx rfl (hb hby at_18)) ?_
      show Go p e below T0 (mkF m 19 #[.val (.int p0), .val (.int (0 : Int32)), .unset, .unset, .unset, .unset, .unset, .unset] [(.int (1 : Int32))]) _
      refine stp (fun _ => XS.goto X0.here hx rfl (pc0 := 19) (pc' := 23) rfl (hb hby at_19) (by decide) (by decide)) ?_
      show Go p e below T0 (mkF m 23 #[.val (.int p0), .val (.int (0 : Int32)), .unset, .unset, .unset, .unset, .unset, .unset] [(.int (1 : Int32))]) _
      refine stp (fun _ => XS.istoreN X0.here hx rfl (hb hby at_23) rfl (l' := #[.val (.int p0), .val (.int (0 : Int32)), .val (.int (1 : Int32)), .unset, .unset, .unset, .unset, .unset]) rfl) ?_
      show Go p e below T0 (mkF m 24 #[.val (.int p0), .val (.int (0 : Int32)), .val (.int (1 : Int32)), .unset, .unset, .unset, .unset, .unset] []) _
      obtain ⟨T70, h70, X70, e70, E70, A70, D70, U70, st70⟩ := newO X0 hx hZ hown (hw _ (List.mem_of_getElem? (i := 0) rfl)) (hw _ (List.mem_of_getElem? (i := 1) rfl)) (hw _ (List.mem_of_getElem? (i := 2) rfl)) e0 (g := (mkF m 24 #[.val (.int p0), .val (.int (0 : Int32)), .val (.int (1 : Int32)), .unset, .unset, .unset, .unset, .unset] [])) rfl (hb hby at_24) (by decide) (by decide)
      obtain ⟨b70, g70⟩ : ∃ z, z = h0.size := ⟨_, rfl⟩
      rw [← g70] at A70 D70 st70
      have sz_b70 : h0.size ≤ b70 := Nat.le_trans (Keep.refl h0 []).1 (Nat.le_of_eq g70.symm)
      have ge_b70 : n0 ≤ b70 := Nat.le_trans (old_le O0) (Nat.le_of_eq g70.symm)
      have K70 : Keep h0 h70 [] := (Keep.refl h0 []).ext E70
      have O70 := O0.ext E70
      have F71 : Fld Z h70 b70 "com/example/revlint/revlint/model/Library$Supertypes" "names" "Ljava/util/Set;" .null := D70 (Or.inr (hw _ (List.mem_of_getElem? (i := 243) rfl))) (ty := (.object "java/util/Set")) (by decide)
      have F72 : Fld Z h70 b70 "com/example/revlint/revlint/model/Library$Supertypes" "interfaces" "Ljava/util/Set;" .null := D70 (Or.inr (hw _ (List.mem_of_getElem? (i := 245) rfl))) (ty := (.object "java/util/Set")) (by decide)
      have F73 : Fld Z h70 b70 "com/example/revlint/revlint/model/Library$Supertypes" "unreadSuperclass" "Z" (.int (0 : Int32)) := D70 (Or.inr (hw _ (List.mem_of_getElem? (i := 247) rfl))) (ty := .boolean) (by decide)
      have F74 : Fld Z h70 b70 "com/example/revlint/revlint/model/Library$Supertypes" "unreadInterface" "Z" (.int (0 : Int32)) := D70 (Or.inr (hw _ (List.mem_of_getElem? (i := 249) rfl))) (ty := .boolean) (by decide)
      refine stp st70 ?_
      show Go p e below T70 (mkF m 27 #[.val (.int p0), .val (.int (0 : Int32)), .val (.int (1 : Int32)), .unset, .unset, .unset, .unset, .unset] [(.ref b70)]) _
      refine stp (fun _ => XS.dup X70.here hx rfl (hb hby at_27) rfl rfl) ?_
      show Go p e below T70 (mkF m 28 #[.val (.int p0), .val (.int (0 : Int32)), .val (.int (1 : Int32)), .unset, .unset, .unset, .unset, .unset] [(.ref b70), (.ref b70)]) _
      obtain ⟨T75, h75, X75, e75, E75, A75, D75, U75, st75⟩ := newO X70 hx hZ hown (hw _ (List.mem_of_getElem? (i := 3) rfl)) (hw _ (List.mem_of_getElem? (i := 4) rfl)) (hw _ (List.mem_of_getElem? (i := 5) rfl)) e70 (g := (mkF m 28 #[.val (.int p0), .val (.int (0 : Int32)), .val (.int (1 : Int32)), .unset, .unset, .unset, .unset, .unset] [(.ref b70), (.ref b70)])) rfl (hb hby at_28) (by decide) (by decide)
      obtain ⟨b75, g75⟩ : ∃ z, z = h70.size := ⟨_, rfl⟩
      rw [← g75] at A75 D75 st75
      have ne76 : b70 ≠ b75 := Nat.ne_of_lt (Nat.lt_of_lt_of_le A70.lt (Nat.le_of_eq g75.symm))
      have sz_b75 : h0.size ≤ b75 := Nat.le_trans K70.1 (Nat.le_of_eq g75.symm)
      have ge_b75 : n0 ≤ b75 := Nat.le_trans (old_le O70) (Nat.le_of_eq g75.symm)
      have f77 := A70.ext E75
      have f78 := F71.ext E75
      have f79 := F72.ext E75
      have f80 := F73.ext E75
      have f81 := F74.ext E75
      have K75 : Keep h0 h75 [] := K70.ext E75
      have O75 := O70.ext E75
      have F82 : Fld Z h75 b75 "java/util/HashSet" "map" "Ljava/util/HashMap;" .null := D75 (Or.inl (hw _ (List.mem_of_getElem? (i := 42) rfl))) (ty := (.object "java/util/HashMap")) (by decide)
      refine stp st75 ?_
      show Go p e below T75 (mkF m 31 #[.val (.int p0), .val (.int (0 : Int32)), .val (.int (1 : Int32)), .unset, .unset, .unset, .unset, .unset] [(.ref b75), (.ref b70), (.ref b70)]) _
      refine stp (fun _ => XS.dup X75.here hx rfl (hb hby at_31) rfl rfl) ?_
      show Go p e below T75 (mkF m 32 #[.val (.int p0), .val (.int (0 : Int32)), .val (.int (1 : Int32)), .unset, .unset, .unset, .unset, .unset] [(.ref b75), (.ref b75), (.ref b70), (.ref b70)]) _
      obtain ⟨_, _, ⟨T83, L83, k83, n83⟩, -, X83, ⟨Lc83, hQ83, l83, y83, z83⟩, st83⟩ := X75.specialBack hx (y := (⟨"java/util/HashSet", "<init>", "()V"⟩ : MethodName)) rfl hown (mvT hZ (hw _ (List.mem_of_getElem? (i := 6) rfl))) (mvT hZ (hw _ (List.mem_of_getElem? (i := 7) rfl))) (mvT hZ (hw _ (List.mem_of_getElem? (i := 8) rfl))) (by decide) (backOf (W := 3) (rm_hs0 l Z a0 hw [] b75  h75 n0 O75 A75 F82 ge_b75) hZ (hw _ (List.mem_of_getElem? (i := 8) rfl)) (hw _ (List.mem_of_getElem? (i := 5) rfl)) (by decide) (by decide)) (g := (mkF m 32 #[.val (.int p0), .val (.int (0 : Int32)), .val (.int (1 : Int32)), .unset, .unset, .unset, .unset, .unset] [(.ref b75), (.ref b75), (.ref b70), (.ref b70)])) rfl (by rw [hml]; rfl) (Steps.refl _) (a := b75) (argsL := []) (rest := [(.ref b75), (.ref b70), (.ref b70)]) (lenOf pd_0 rfl) rfl (by show 2 * 0 + _ ≤ _; exact Nat.le_of_eq rfl) (hb hby at_32) (fun _ _ => ⟨rfl, e75, (by decide : 2 + 1 ≤ _), (by decide : 5 + 8 ≤ _)⟩)
      dsimp only [Pt.U, Pt.locs, Pt.cells, Pt.slots] at X83 l83 y83 z83 st83 hQ83
      subst y83 z83
      obtain ⟨mp83, rfl, N83q, K83q, ⟨ge_mp83, sz83_mp83⟩, r83_0, r83_1, r83_2, r83_3, r83_4, r83_5, r83_6⟩ := hQ83
      have N83 : Fr n0 L83 := by rw [l83]; exact Fr.app N0 N83q
      have ne84 : b70 ≠ mp83 := Nat.ne_of_lt (Nat.lt_of_lt_of_le f77.lt sz83_mp83)
      have ne85 : b75 ≠ mp83 := Nat.ne_of_lt (Nat.lt_of_lt_of_le A75.lt sz83_mp83)
      have f86 := f77.keep K83q
      have f87 := f78.keep K83q (ninS ne76 nin0)
      have f88 := f79.keep K83q (ninS ne76 nin0)
      have f89 := f80.keep K83q (ninS ne76 nin0)
      have f90 := f81.keep K83q (ninS ne76 nin0)
      have f91 := A75.keep K83q
      have sz_mp83 : h0.size ≤ mp83 := Nat.le_trans K75.1 sz83_mp83
      have K83 : Keep h0 T83.heap [] := K75.trans K83q (allS (Or.inr sz_b75) all0)
      have O83 := O75.keep K83q (allS ge_b75 all0)
      refine stt st83 ?_
      show Go p e below T83 (mkF m 35 #[.val (.int p0), .val (.int (0 : Int32)), .val (.int (1 : Int32)), .unset, .unset, .unset, .unset, .unset] [(.ref b75), (.ref b70), (.ref b70)]) _
      obtain ⟨T92, h92, X92, e92, E92, A92, D92, U92, st92⟩ := newO X83 hx hZ hown (hw _ (List.mem_of_getElem? (i := 3) rfl)) (hw _ (List.mem_of_getElem? (i := 4) rfl)) (hw _ (List.mem_of_getElem? (i := 5) rfl)) rfl (g := (mkF m 35 #[.val (.int p0), .val (.int (0 : Int32)), .val (.int (1 : Int32)), .unset, .unset, .unset, .unset, .unset] [(.ref b75), (.ref b70), (.ref b70)])) rfl (hb hby at_35) (by decide) (by decide)
      obtain ⟨b92, g92⟩ : ∃ z, z = T83.heap.size := ⟨_, rfl⟩
      rw [← g92] at A92 D92 st92
      have ne93 : b70 ≠ b92 := Nat.ne_of_lt (Nat.lt_of_lt_of_le f86.lt (Nat.le_of_eq g92.symm))
      have ne94 : b75 ≠ b92 := Nat.ne_of_lt (Nat.lt_of_lt_of_le r83_0.lt (Nat.le_of_eq g92.symm))
      have ne95 : mp83 ≠ b92 := Nat.ne_of_lt (Nat.lt_of_lt_of_le r83_2.lt (Nat.le_of_eq g92.symm))
      have sz_b92 : h0.size ≤ b92 := Nat.le_trans K83.1 (Nat.le_of_eq g92.symm)
      have ge_b92 : n0 ≤ b92 := Nat.le_trans (old_le O83) (Nat.le_of_eq g92.symm)
      have f96 := f86.ext E92
      have f97 := f87.ext E92
      have f98 := f88.ext E92
      have f99 := f89.ext E92
      have f100 := f90.ext E92
      have f101 := r83_0.ext E92
      have f102 := r83_1.ext E92
      have f103 := r83_2.ext E92
      have f104 := r83_3.ext E92
      have f105 := r83_4.ext E92
      have f106 := r83_5.ext E92
      have f107 := r83_6.ext E92
      have K92 : Keep h0 h92 [] := K83.ext E92
      have O92 := O83.ext E92
      have F108 : Fld Z h92 b92 "java/util/HashSet" "map" "Ljava/util/HashMap;" .null := D92 (Or.inl (hw _ (List.mem_of_getElem? (i := 42) rfl))) (ty := (.object "java/util/HashMap")) (by decide)
      refine stp st92 ?_
      show Go p e below T92 (mkF m 38 #[.val (.int p0), .val (.int (0 : Int32)), .val (.int (1 : Int32)), .unset, .unset, .unset, .unset, .unset] [(.ref b92), (.ref b75), (.ref b70), (.ref b70)]) _
      refine stp (fun _ => XS.dup X92.here hx rfl (hb hby at_38) rfl rfl) ?_
      show Go p e below T92 (mkF m 39 #[.val (.int p0), .val (.int (0 : Int32)), .val (.int (1 : Int32)), .unset, .unset, .unset, .unset, .unset] [(.ref b92), (.ref b92), (.ref b75), (.ref b70), (.ref b70)]) _
      obtain ⟨_, _, ⟨T109, L109, k109, n109⟩, -, X109, ⟨Lc109, hQ109, l109, y109, z109⟩, st109⟩ := X92.specialBack hx (y := (⟨"java/util/HashSet", "<init>", "()V"⟩ : MethodName)) rfl hown (mvT hZ (hw _ (List.mem_of_getElem? (i := 6) rfl))) (mvT hZ (hw _ (List.mem_of_getElem? (i := 7) rfl))) (mvT hZ (hw _ (List.mem_of_getElem? (i := 8) rfl))) (by decide) (backOf (W := 4) (rm_hs0 l Z a0 hw [] b92  h92 n0 O92 A92 F108 ge_b92) hZ (hw _ (List.mem_of_getElem? (i := 8) rfl)) (hw _ (List.mem_of_getElem? (i := 5) rfl)) (by decide) (by decide)) (g := (mkF m 39 #[.val (.int p0), .val (.int (0 : Int32)), .val (.int (1 : Int32)), .unset, .unset, .unset, .unset, .unset] [(.ref b92), (.ref b92), (.ref b75), (.ref b70), (.ref b70)])) rfl (by rw [hml]; rfl) (Steps.refl _) (a := b92) (argsL := []) (rest := [(.ref b92), (.ref b75), (.ref b70), (.ref b70)]) (lenOf pd_0 rfl) rfl (by show 2 * 0 + _ ≤ _; exact Nat.le_of_eq rfl) (hb hby at_39) (fun _ _ => ⟨rfl, e92, (by decide : 4 + 1 ≤ _), (by decide : 14 + 8 ≤ _)⟩)
      dsimp only [Pt.U, Pt.locs, Pt.cells, Pt.slots] at X109 l109 y109 z109 st109 hQ109
      subst y109 z109
      obtain ⟨mp109, rfl, N109q, K109q, ⟨ge_mp109, sz109_mp109⟩, r109_0, r109_1, r109_2, r109_3, r109_4, r109_5, r109_6⟩ := hQ109
      have N109 : Fr n0 L109 := by rw [l109]; exact Fr.app N83 N109q
      have ne110 : b70 ≠ mp109 := Nat.ne_of_lt (Nat.lt_of_lt_of_le f96.lt sz109_mp109)
      have ne111 : b75 ≠ mp109 := Nat.ne_of_lt (Nat.lt_of_lt_of_le f101.lt sz109_mp109)
      have ne112 : b92 ≠ mp109 := Nat.ne_of_lt (Nat.lt_of_lt_of_le A92.lt sz109_mp109)
      have ne113 : mp83 ≠ mp109 := Nat.ne_of_lt (Nat.lt_of_lt_of_le f103.lt sz109_mp109)
      have f114 := f96.keep K109q
      have f115 := f97.keep K109q (ninS ne93 nin0)
      have f116 := f98.keep K109q (ninS ne93 nin0)
      have f117 := f99.keep K109q (ninS ne93 nin0)
      have f118 := f100.keep K109q (ninS ne93 nin0)
      have f119 := f101.keep K109q
      have f120 := f102.keep K109q (ninS ne94 nin0)
      have f121 := f103.keep K109q
      have f122 := f104.keep K109q (ninS ne95 nin0)
      have f123 := f105.keep K109q (ninS ne95 nin0)
      have f124 := f106.keep K109q (ninS ne95 nin0)
      have f125 := f107.keep K109q (ninS ne95 nin0)
      have f126 := A92.keep K109q
      have sz_mp109 : h0.size ≤ mp109 := Nat.le_trans K92.1 sz109_mp109
      have K109 : Keep h0 T109.heap [] := K92.trans K109q (allS (Or.inr sz_b92) all0)
      have O109 := O92.keep K109q (allS ge_b92 all0)
      refine stt st109 ?_
      show Go p e below T109 (mkF m 42 #[.val (.int p0), .val (.int (0 : Int32)), .val (.int (1 : Int32)), .unset, .unset, .unset, .unset, .unset] [(.ref b92), (.ref b75), (.ref b70), (.ref b70)]) _
      refine stp (fun _ => XS.iloadN X109.here hx rfl (hb hby at_42) rfl) ?_
      show Go p e below T109 (mkF m 43 #[.val (.int p0), .val (.int (0 : Int32)), .val (.int (1 : Int32)), .unset, .unset, .unset, .unset, .unset] [(.int (0 : Int32)), (.ref b92), (.ref b75), (.ref b70), (.ref b70)]) _
      refine stp (fun _ => XS.iloadN X109.here hx rfl (hb hby at_43) rfl) ?_
      show Go p e below T109 (mkF m 44 #[.val (.int p0), .val (.int (0 : Int32)), .val (.int (1 : Int32)), .unset, .unset, .unset, .unset, .unset] [(.int (1 : Int32)), (.int (0 : Int32)), (.ref b92), (.ref b75), (.ref b70), (.ref b70)]) _
      obtain ⟨_, _, ⟨T127, L127, k127, n127⟩, -, X127, ⟨Lc127, hQ127, l127, y127, z127⟩, st127⟩ := X109.specialBack hx (y := (⟨"com/example/revlint/revlint/model/Library$Supertypes", "<init>", "(Ljava/util/Set;Ljava/util/Set;ZZ)V"⟩ : MethodName)) rfl hown (mvT hZ (hw _ (List.mem_of_getElem? (i := 43) rfl))) (mvT hZ (hw _ (List.mem_of_getElem? (i := 44) rfl))) (mvT hZ (hw _ (List.mem_of_getElem? (i := 45) rfl))) (by decide) (backOf (W := 1) (rm_su01 l Z a0 hw [] b70 b75 b92 mA mS mp83 mp109 T109.heap n0 O109 f114 f115 f116 f117 f118 f119 f120 f121 f122 f123 f124 f125 r109_0 r109_1 r109_2 r109_3 r109_4 r109_5 r109_6 S_AD ge_b70 ge_mp83 ge_mp109 ne113 (Ne.symm ne85) ne95 (Ne.symm ne84) (Ne.symm ne111) (Ne.symm ne112) (Ne.symm ne110) (Ne.symm ne76) (Ne.symm ne93) hmA hmS) hZ (hw _ (List.mem_of_getElem? (i := 45) rfl)) (hw _ (List.mem_of_getElem? (i := 2) rfl)) (by decide) (by decide)) (g := (mkF m 44 #[.val (.int p0), .val (.int (0 : Int32)), .val (.int (1 : Int32)), .unset, .unset, .unset, .unset, .unset] [(.int (1 : Int32)), (.int (0 : Int32)), (.ref b92), (.ref b75), (.ref b70), (.ref b70)])) rfl (by rw [hml]; rfl) (Steps.refl _) (a := b70) (argsL := [(.ref b75), (.ref b92), (.int (0 : Int32)), (.int (1 : Int32))]) (rest := [(.ref b70)]) (lenOf pd_17 rfl) rfl (by show 2 * 0 + _ ≤ _; exact Nat.le_of_eq rfl) (hb hby at_44) (fun _ _ => ⟨rfl, rfl, (by decide : 5 + 10 ≤ _), (by decide : 22 + 32 ≤ _)⟩)
      dsimp only [Pt.U, Pt.locs, Pt.cells, Pt.slots] at X127 l127 y127 z127 st127 hQ127
      subst y127 z127
      obtain ⟨rfl, N127q, K127q, r127_0, r127_1, r127_2⟩ := hQ127
      have N127 : Fr n0 L127 := by rw [l127]; exact Fr.app N109 N127q
      have f128 := f114.keep K127q
      have f129 := f119.keep K127q
      have f130 := f120.keep K127q (ninS (Ne.symm ne76) (ninS ne85 (ninS ne111 nin0)))
      have f131 := f121.keep K127q
      have f132 := r109_0.keep K127q
      have f133 := r109_1.keep K127q (ninS (Ne.symm ne93) (ninS (Ne.symm ne95) (ninS ne112 nin0)))
      have f134 := r109_2.keep K127q
      have K127 : Keep h0 T127.heap [] := K109.trans K127q (allS (Or.inr sz_b70) (allS (Or.inr sz_mp83) (allS (Or.inr sz_mp109) all0)))
      have O127 := O109.keep K127q (allS ge_b70 (allS ge_mp83 (allS ge_mp109 all0)))
      refine stt st127 ?_
      show Go p e below T127 (mkF m 47 #[.val (.int p0), .val (.int (0 : Int32)), .val (.int (1 : Int32)), .unset, .unset, .unset, .unset, .unset] [(.ref b70)]) _
      refine stp (fun _ => XS.astoreN X127.here hx rfl (hb hby at_47) rfl rfl (l' := #[.val (.int p0), .val (.int (0 : Int32)), .val (.int (1 : Int32)), .val (.ref b70), .unset, .unset, .unset, .unset]) rfl) ?_
      show Go p e below T127 (mkF m 48 #[.val (.int p0), .val (.int (0 : Int32)), .val (.int (1 : Int32)), .val (.ref b70), .unset, .unset, .unset, .unset] []) _
      refine stp (fun _ => XS.aloadN X127.here hx rfl (hb hby at_48) rfl rfl) ?_
      show Go p e below T127 (mkF m 49 #[.val (.int p0), .val (.int (0 : Int32)), .val (.int (1 : Int32)), .val (.ref b70), .unset, .unset, .unset, .unset] [(.ref b70)]) _
      refine stp (fun _ => XS.iconst X127.here hx rfl (hb hby at_49)) ?_
      show Go p e below T127 (mkF m 50 #[.val (.int p0), .val (.int (0 : Int32)), .val (.int (1 : Int32)), .val (.ref b70), .unset, .unset, .unset, .unset] [(.int (0 : Int32)), (.ref b70)]) _
      obtain ⟨cq135, kq135, q135a, q135b, q135c⟩ := isOf hZ rfl r127_0
      obtain ⟨_, _, ⟨T135, L135, k135, n135⟩, -, X135, ⟨Lc135, hQ135, l135, y135, z135⟩, st135⟩ := X127.virtualBack hx (y := (⟨"com/example/revlint/revlint/model/Library$Supertypes", "mayHaveUnnamed", "(Z)Z"⟩ : MethodName)) (z := (⟨"com/example/revlint/revlint/model/Library$Supertypes", "mayHaveUnnamed", "(Z)Z"⟩ : MethodName)) hown (mvT hZ (hw _ (List.mem_of_getElem? (i := 250) rfl))) (mvT hZ (hw _ (List.mem_of_getElem? (i := 251) rfl))) (notFace_of_selects (args := #[]) (mvT hZ (hw _ (List.mem_of_getElem? (i := 253) rfl)))) (mvT hZ (hw _ (List.mem_of_getElem? (i := 253) rfl))) (mvT hZ (hw _ (List.mem_of_getElem? (i := 252) rfl))) (by decide) (backOf (W := 0) (rm_mh010 l Z a0 hw [] b70  T127.heap n0 O127 r127_1 r127_2) hZ (hw _ (List.mem_of_getElem? (i := 254) rfl)) (hw _ (List.mem_of_getElem? (i := 2) rfl)) (by decide) (by decide)) q135a q135c (g := (mkF m 50 #[.val (.int p0), .val (.int (0 : Int32)), .val (.int (1 : Int32)), .val (.ref b70), .unset, .unset, .unset, .unset] [(.int (0 : Int32)), (.ref b70)])) rfl (by rw [hml]; rfl) (Steps.refl _) (argsL := [(.int (0 : Int32))]) (rest := []) (lenOf pd_18 rfl) rfl (by show 2 * 0 + _ ≤ _; exact Nat.le_of_eq rfl) (hb hby at_50) (fun _ _ => ⟨rfl, rfl, (by decide : 15 + 0 ≤ _), (by decide : 54 + 0 ≤ _)⟩)
      dsimp only [Pt.U, Pt.locs, Pt.cells, Pt.slots] at X135 l135 y135 z135 st135 hQ135
      subst y135 z135
      obtain ⟨rfl, N135q, e135⟩ := hQ135
      have N135 : Fr n0 L135 := by rw [l135]; exact Fr.app N127 N135q
      refine stt st135 ?_
      show Go p e below T135 (mkF m 53 #[.val (.int p0), .val (.int (0 : Int32)), .val (.int (1 : Int32)), .val (.ref b70), .unset, .unset, .unset, .unset] [(.int (0 : Int32))]) _
      refine stp (fun _ => XS.istore X135.here hx rfl (hb hby at_53) rfl (l' := #[.val (.int p0), .val (.int (0 : Int32)), .val (.int (1 : Int32)), .val (.ref b70), .val (.int (0 : Int32)), .unset, .unset, .unset]) rfl) ?_
      show Go p e below T135 (mkF m 55 #[.val (.int p0), .val (.int (0 : Int32)), .val (.int (1 : Int32)), .val (.ref b70), .val (.int (0 : Int32)), .unset, .unset, .unset] []) _
      refine stp (fun _ => XS.aloadN X135.here hx rfl (hb hby at_55) rfl rfl) ?_
      show Go p e below T135 (mkF m 56 #[.val (.int p0), .val (.int (0 : Int32)), .val (.int (1 : Int32)), .val (.ref b70), .val (.int (0 : Int32)), .unset, .unset, .unset] [(.ref b70)]) _
      refine stp (fun _ => XS.iconst X135.here hx rfl (hb hby at_56)) ?_
      show Go p e below T135 (mkF m 57 #[.val (.int p0), .val (.int (0 : Int32)), .val (.int (1 : Int32)), .val (.ref b70), .val (.int (0 : Int32)), .unset, .unset, .unset] [(.int (1 : Int32)), (.ref b70)]) _
      obtain ⟨cq136, kq136, q136a, q136b, q136c⟩ := isOf hZ e135 r127_0
      obtain ⟨_, _, ⟨T136, L136, k136, n136⟩, -, X136, ⟨Lc136, hQ136, l136, y136, z136⟩, st136⟩ := X135.virtualBack hx (y := (⟨"com/example/revlint/revlint/model/Library$Supertypes", "mayHaveUnnamed", "(Z)Z"⟩ : MethodName)) (z := (⟨"com/example/revlint/revlint/model/Library$Supertypes", "mayHaveUnnamed", "(Z)Z"⟩ : MethodName)) hown (mvT hZ (hw _ (List.mem_of_getElem? (i := 250) rfl))) (mvT hZ (hw _ (List.mem_of_getElem? (i := 251) rfl))) (notFace_of_selects (args := #[]) (mvT hZ (hw _ (List.mem_of_getElem? (i := 253) rfl)))) (mvT hZ (hw _ (List.mem_of_getElem? (i := 253) rfl))) (mvT hZ (hw _ (List.mem_of_getElem? (i := 252) rfl))) (by decide) (backOf (W := 0) (rm_mh011 l Z a0 hw [] b70  T127.heap n0 O127 r127_1 r127_2) hZ (hw _ (List.mem_of_getElem? (i := 254) rfl)) (hw _ (List.mem_of_getElem? (i := 2) rfl)) (by decide) (by decide)) q136a q136c (g := (mkF m 57 #[.val (.int p0), .val (.int (0 : Int32)), .val (.int (1 : Int32)), .val (.ref b70), .val (.int (0 : Int32)), .unset, .unset, .unset] [(.int (1 : Int32)), (.ref b70)])) rfl (by rw [hml]; rfl) (Steps.refl _) (argsL := [(.int (1 : Int32))]) (rest := []) (lenOf pd_18 rfl) rfl (by show 2 * 0 + _ ≤ _; exact Nat.le_of_eq rfl) (hb hby at_57) (fun _ _ => ⟨rfl, e135, (by decide : 15 + 0 ≤ _), (by decide : 54 + 0 ≤ _)⟩)
      dsimp only [Pt.U, Pt.locs, Pt.cells, Pt.slots] at X136 l136 y136 z136 st136 hQ136
      subst y136 z136
      obtain ⟨rfl, N136q, e136⟩ := hQ136
      have N136 : Fr n0 L136 := by rw [l136]; exact Fr.app N135 N136q
      refine stt st136 ?_
      show Go p e below T136 (mkF m 60 #[.val (.int p0), .val (.int (0 : Int32)), .val (.int (1 : Int32)), .val (.ref b70), .val (.int (0 : Int32)), .unset, .unset, .unset] [(.int (1 : Int32))]) _
      refine stp (fun _ => XS.istore X136.here hx rfl (hb hby at_60) rfl (l' := #[.val (.int p0), .val (.int (0 : Int32)), .val (.int (1 : Int32)), .val (.ref b70), .val (.int (0 : Int32)), .val (.int (1 : Int32)), .unset, .unset]) rfl) ?_
      show Go p e below T136 (mkF m 62 #[.val (.int p0), .val (.int (0 : Int32)), .val (.int (1 : Int32)), .val (.ref b70), .val (.int (0 : Int32)), .val (.int (1 : Int32)), .unset, .unset] []) _
      refine stp (fun _ => XS.iloadN X136.here hx rfl (hb hby at_62) rfl) ?_
      show Go p e below T136 (mkF m 63 #[.val (.int p0), .val (.int (0 : Int32)), .val (.int (1 : Int32)), .val (.ref b70), .val (.int (0 : Int32)), .val (.int (1 : Int32)), .unset, .unset] [(.int (0 : Int32))]) _
      refine stp (fun _ => XS.istore X136.here hx rfl (hb hby at_63) rfl (l' := #[.val (.int p0), .val (.int (0 : Int32)), .val (.int (1 : Int32)), .val (.ref b70), .val (.int (0 : Int32)), .val (.int (1 : Int32)), .val (.int (0 : Int32)), .unset]) rfl) ?_
      show Go p e below T136 (mkF m 65 #[.val (.int p0), .val (.int (0 : Int32)), .val (.int (1 : Int32)), .val (.ref b70), .val (.int (0 : Int32)), .val (.int (1 : Int32)), .val (.int (0 : Int32)), .unset] []) _
      refine stp (fun _ => XS.iloadN X136.here hx rfl (hb hby at_65) rfl) ?_
      show Go p e below T136 (mkF m 66 #[.val (.int p0), .val (.int (0 : Int32)), .val (.int (1 : Int32)), .val (.ref b70), .val (.int (0 : Int32)), .val (.int (1 : Int32)), .val (.int (0 : Int32)), .unset] [(.int (0 : Int32))]) _
      refine stp (fun _ => XS.ifYes X136.here hx rfl (pc0 := 66) (pc' := 75) rfl (hb hby at_66) rfl (by decide) (by decide) (by decide)) ?_
      show Go p e below T136 (mkF m 75 #[.val (.int p0), .val (.int (0 : Int32)), .val (.int (1 : Int32)), .val (.ref b70), .val (.int (0 : Int32)), .val (.int (1 : Int32)), .val (.int (0 : Int32)), .unset] []) _
      refine stp (fun _ => XS.iloadN X136.here hx rfl (hb hby at_75) rfl) ?_
      show Go p e below T136 (mkF m 76 #[.val (.int p0), .val (.int (0 : Int32)), .val (.int (1 : Int32)), .val (.ref b70), .val (.int (0 : Int32)), .val (.int (1 : Int32)), .val (.int (0 : Int32)), .unset] [(.int (1 : Int32))]) _
      refine stp (fun _ => XS.ifNo X136.here hx rfl (hb hby at_76) rfl (by decide)) ?_
      show Go p e below T136 (mkF m 79 #[.val (.int p0), .val (.int (0 : Int32)), .val (.int (1 : Int32)), .val (.ref b70), .val (.int (0 : Int32)), .val (.int (1 : Int32)), .val (.int (0 : Int32)), .unset] []) _
      refine stp (fun _ => XS.iconst X136.here hx rfl (hb hby at_79)) ?_
      show Go p e below T136 (mkF m 80 #[.val (.int p0), .val (.int (0 : Int32)), .val (.int (1 : Int32)), .val (.ref b70), .val (.int (0 : Int32)), .val (.int (1 : Int32)), .val (.int (0 : Int32)), .unset] [(.int (1 : Int32))]) _
      refine stp (fun _ => XS.istore X136.here hx rfl (hb hby at_80) rfl (l' := #[.val (.int p0), .val (.int (0 : Int32)), .val (.int (1 : Int32)), .val (.ref b70), .val (.int (0 : Int32)), .val (.int (1 : Int32)), .val (.int (0 : Int32)), .val (.int (1 : Int32))]) rfl) ?_
      show Go p e below T136 (mkF m 82 #[.val (.int p0), .val (.int (0 : Int32)), .val (.int (1 : Int32)), .val (.ref b70), .val (.int (0 : Int32)), .val (.int (1 : Int32)), .val (.int (0 : Int32)), .val (.int (1 : Int32))] []) _
      refine stp (fun _ => XS.goto X136.here hx rfl (pc0 := 82) (pc' := 88) rfl (hb hby at_82) (by decide) (by decide)) ?_
      show Go p e below T136 (mkF m 88 #[.val (.int p0), .val (.int (0 : Int32)), .val (.int (1 : Int32)), .val (.ref b70), .val (.int (0 : Int32)), .val (.int (1 : Int32)), .val (.int (0 : Int32)), .val (.int (1 : Int32))] []) _
      refine stp (fun _ => XS.iload X136.here hx rfl (hb hby at_88) rfl) ?_
      show Go p e below T136 (mkF m 90 #[.val (.int p0), .val (.int (0 : Int32)), .val (.int (1 : Int32)), .val (.ref b70), .val (.int (0 : Int32)), .val (.int (1 : Int32)), .val (.int (0 : Int32)), .val (.int (1 : Int32))] [(.int (0 : Int32))]) _
      refine stp (fun _ => XS.iload X136.here hx rfl (hb hby at_90) rfl) ?_
      show Go p e below T136 (mkF m 92 #[.val (.int p0), .val (.int (0 : Int32)), .val (.int (1 : Int32)), .val (.ref b70), .val (.int (0 : Int32)), .val (.int (1 : Int32)), .val (.int (0 : Int32)), .val (.int (1 : Int32))] [(.int (0 : Int32)), (.int (0 : Int32))]) _
      refine stp (fun _ => XS.icmpNo X136.here hx rfl (hb hby at_92) rfl (by decide)) ?_
      show Go p e below T136 (mkF m 95 #[.val (.int p0), .val (.int (0 : Int32)), .val (.int (1 : Int32)), .val (.ref b70), .val (.int (0 : Int32)), .val (.int (1 : Int32)), .val (.int (0 : Int32)), .val (.int (1 : Int32))] []) _
      refine stp (fun _ => XS.iload X136.here hx rfl (hb hby at_95) rfl) ?_
      show Go p e below T136 (mkF m 97 #[.val (.int p0), .val (.int (0 : Int32)), .val (.int (1 : Int32)), .val (.ref b70), .val (.int (0 : Int32)), .val (.int (1 : Int32)), .val (.int (0 : Int32)), .val (.int (1 : Int32))] [(.int (1 : Int32))]) _
      refine stp (fun _ => XS.iload X136.here hx rfl (hb hby at_97) rfl) ?_
      show Go p e below T136 (mkF m 99 #[.val (.int p0), .val (.int (0 : Int32)), .val (.int (1 : Int32)), .val (.ref b70), .val (.int (0 : Int32)), .val (.int (1 : Int32)), .val (.int (0 : Int32)), .val (.int (1 : Int32))] [(.int (1 : Int32)), (.int (1 : Int32))]) _
      refine stp (fun _ => XS.icmpNo X136.here hx rfl (hb hby at_99) rfl (by decide)) ?_
      show Go p e below T136 (mkF m 102 #[.val (.int p0), .val (.int (0 : Int32)), .val (.int (1 : Int32)), .val (.ref b70), .val (.int (0 : Int32)), .val (.int (1 : Int32)), .val (.int (0 : Int32)), .val (.int (1 : Int32))] []) _
      refine stp (fun _ => XS.iconst X136.here hx rfl (hb hby at_102)) ?_
      show Go p e below T136 (mkF m 103 #[.val (.int p0), .val (.int (0 : Int32)), .val (.int (1 : Int32)), .val (.ref b70), .val (.int (0 : Int32)), .val (.int (1 : Int32)), .val (.int (0 : Int32)), .val (.int (1 : Int32))] [(.int (1 : Int32))]) _
      refine stp (fun _ => XS.goto X136.here hx rfl (pc0 := 103) (pc' := 107) rfl (hb hby at_103) (by decide) (by decide)) ?_
      show Go p e below T136 (mkF m 107 #[.val (.int p0), .val (.int (0 : Int32)), .val (.int (1 : Int32)), .val (.ref b70), .val (.int (0 : Int32)), .val (.int (1 : Int32)), .val (.int (0 : Int32)), .val (.int (1 : Int32))] [(.int (1 : Int32))]) _
      refine outN X136 hx (t := .boolean) hret (by simp) (hb hby at_107) hlk (by decide) (by decide) ?_
      exact ⟨rfl, N136⟩
  · refine stp (fun _ => XS.ifNo X0.here hx rfl (hb hby at_3) rfl (XT.i0_eq_f q3_1)) ?_
    show Go p e below T0 (mkF m 6 #[.val (.int p0), .unset, .unset, .unset, .unset, .unset, .unset, .unset] []) _
    refine stp (fun _ => XS.iconst X0.here hx rfl (hb hby at_6)) ?_
    show Go p e below T0 (mkF m 7 #[.val (.int p0), .unset, .unset, .unset, .unset, .unset, .unset, .unset] [(.int (1 : Int32))]) _
    refine stp (fun _ => XS.goto X0.here hx rfl (pc0 := 7) (pc' := 11) rfl (hb hby at_7) (by decide) (by decide)) ?_
    show Go p e below T0 (mkF m 11 #[.val (.int p0), .unset, .unset, .unset, .unset, .unset, .unset, .unset] [(.int (1 : Int32))]) _
    refine stp (fun _ => XS.istoreN X0.here hx rfl (hb hby at_11) rfl (l' := #[.val (.int p0), .val (.int (1 : Int32)), .unset, .unset, .unset, .unset, .unset, .unset]) rfl) ?_
    show Go p e below T0 (mkF m 12 #[.val (.int p0), .val (.int (1 : Int32)), .unset, .unset, .unset, .unset, .unset, .unset] []) _
    refine stp (fun _ => XS.iloadN X0.here hx rfl (hb hby at_12) rfl) ?_
    show Go p e below T0 (mkF m 13 #[.val (.int p0), .val (.int (1 : Int32)), .unset, .unset, .unset, .unset, .unset, .unset] [(.int p0)]) _
    refine stp (fun _ => XS.iconst X0.here hx rfl (hb hby at_13)) ?_
    show Go p e below T0 (mkF m 14 #[.val (.int p0), .val (.int (1 : Int32)), .unset, .unset, .unset, .unset, .unset, .unset] [(.int (2 : Int32)), (.int p0)]) _
    refine stp (fun _ => XS.iand X0.here hx rfl (hb hby at_14) rfl) ?_
    show Go p e below T0 (mkF m 15 #[.val (.int p0), .val (.int (1 : Int32)), .unset, .unset, .unset, .unset, .unset, .unset] [(.int (p0 &&& (2 : Int32)))]) _
    by_cases q15_137 : (p0 &&& (2 : Int32)) = 0
    · refine stp (fun _ => XS.ifYes X0.here hx rfl (pc0 := 15) (pc' := 22) rfl (hb hby at_15) rfl (XT.i0_eq_t q15_137) (by decide) (by decide)) ?_
      show Go p e below T0 (mkF m 22 #[.val (.int p0), .val (.int (1 : Int32)), .unset, .unset, .unset, .unset, .unset, .unset] []) _
      refine stp (fun _ => XS.iconst X0.here hx rfl (hb hby at_22)) ?_
      show Go p e below T0 (mkF m 23 #[.val (.int p0), .val (.int (1 : Int32)), .unset, .unset, .unset, .unset, .unset, .unset] [(.int (0 : Int32))]) _
      refine stp (fun _ => XS.istoreN X0.here hx rfl (hb hby at_23) rfl (l' := #[.val (.int p0), .val (.int (1 : Int32)), .val (.int (0 : Int32)), .unset, .unset, .unset, .unset, .unset]) rfl) ?_
      show Go p e below T0 (mkF m 24 #[.val (.int p0), .val (.int (1 : Int32)), .val (.int (0 : Int32)), .unset, .unset, .unset, .unset, .unset] []) _
      obtain ⟨T138, h138, X138, e138, E138, A138, D138, U138, st138⟩ := newO X0 hx hZ hown (hw _ (List.mem_of_getElem? (i := 0) rfl)) (hw _ (List.mem_of_getElem? (i := 1) rfl)) (hw _ (List.mem_of_getElem? (i := 2) rfl)) e0 (g := (mkF m 24 #[.val (.int p0), .val (.int (1 : Int32)), .val (.int (0 : Int32)), .unset, .unset, .unset, .unset, .unset] [])) rfl (hb hby at_24) (by decide) (by decide)
      obtain ⟨b138, g138⟩ : ∃ z, z = h0.size := ⟨_, rfl⟩
      rw [← g138] at A138 D138 st138
      have sz_b138 : h0.size ≤ b138 := Nat.le_trans (Keep.refl h0 []).1 (Nat.le_of_eq g138.symm)
      have ge_b138 : n0 ≤ b138 := Nat.le_trans (old_le O0) (Nat.le_of_eq g138.symm)
      have K138 : Keep h0 h138 [] := (Keep.refl h0 []).ext E138
      have O138 := O0.ext E138
      have F139 : Fld Z h138 b138 "com/example/revlint/revlint/model/Library$Supertypes" "names" "Ljava/util/Set;" .null := D138 (Or.inr (hw _ (List.mem_of_getElem? (i := 243) rfl))) (ty := (.object "java/util/Set")) (by decide)
      have F140 : Fld Z h138 b138 "com/example/revlint/revlint/model/Library$Supertypes" "interfaces" "Ljava/util/Set;" .null := D138 (Or.inr (hw _ (List.mem_of_getElem? (i := 245) rfl))) (ty := (.object "java/util/Set")) (by decide)
      have F141 : Fld Z h138 b138 "com/example/revlint/revlint/model/Library$Supertypes" "unreadSuperclass" "Z" (.int (0 : Int32)) := D138 (Or.inr (hw _ (List.mem_of_getElem? (i := 247) rfl))) (ty := .boolean) (by decide)
      have F142 : Fld Z h138 b138 "com/example/revlint/revlint/model/Library$Supertypes" "unreadInterface" "Z" (.int (0 : Int32)) := D138 (Or.inr (hw _ (List.mem_of_getElem? (i := 249) rfl))) (ty := .boolean) (by decide)
      refine stp st138 ?_
      show Go p e below T138 (mkF m 27 #[.val (.int p0), .val (.int (1 : Int32)), .val (.int (0 : Int32)), .unset, .unset, .unset, .unset, .unset] [(.ref b138)]) _
      refine stp (fun _ => XS.dup X138.here hx rfl (hb hby at_27) rfl rfl) ?_
      show Go p e below T138 (mkF m 28 #[.val (.int p0), .val (.int (1 : Int32)), .val (.int (0 : Int32)), .unset, .unset, .unset, .unset, .unset] [(.ref b138), (.ref b138)]) _
      obtain ⟨T143, h143, X143, e143, E143, A143, D143, U143, st143⟩ := newO X138 hx hZ hown (hw _ (List.mem_of_getElem? (i := 3) rfl)) (hw _ (List.mem_of_getElem? (i := 4) rfl)) (hw _ (List.mem_of_getElem? (i := 5) rfl)) e138 (g := (mkF m 28 #[.val (.int p0), .val (.int (1 : Int32)), .val (.int (0 : Int32)), .unset, .unset, .unset, .unset, .unset] [(.ref b138), (.ref b138)])) rfl (hb hby at_28) (by decide) (by decide)
      obtain ⟨b143, g143⟩ : ∃ z, z = h138.size := ⟨_, rfl⟩
      rw [← g143] at A143 D143 st143
      have ne144 : b138 ≠ b143 := Nat.ne_of_lt (Nat.lt_of_lt_of_le A138.lt (Nat.le_of_eq g143.symm))
      have sz_b143 : h0.size ≤ b143 := Nat.le_trans K138.1 (Nat.le_of_eq g143.symm)
      have ge_b143 : n0 ≤ b143 := Nat.le_trans (old_le O138) (Nat.le_of_eq g143.symm)
      have f145 := A138.ext E143
      have f146 := F139.ext E143
      have f147 := F140.ext E143
      have f148 := F141.ext E143
      have f149 := F142.ext E143
      have K143 : Keep h0 h143 [] := K138.ext E143
      have O143 := O138.ext E143
      have F150 : Fld Z h143 b143 "java/util/HashSet" "map" "Ljava/util/HashMap;" .null := D143 (Or.inl (hw _ (List.mem_of_getElem? (i := 42) rfl))) (ty := (.object "java/util/HashMap")) (by decide)
      refine stp st143 ?_
      show Go p e below T143 (mkF m 31 #[.val (.int p0), .val (.int (1 : Int32)), .val (.int (0 : Int32)), .unset, .unset, .unset, .unset, .unset] [(.ref b143), (.ref b138), (.ref b138)]) _
      refine stp (fun _ => XS.dup X143.here hx rfl (hb hby at_31) rfl rfl) ?_
      show Go p e below T143 (mkF m 32 #[.val (.int p0), .val (.int (1 : Int32)), .val (.int (0 : Int32)), .unset, .unset, .unset, .unset, .unset] [(.ref b143), (.ref b143), (.ref b138), (.ref b138)]) _
      obtain ⟨_, _, ⟨T151, L151, k151, n151⟩, -, X151, ⟨Lc151, hQ151, l151, y151, z151⟩, st151⟩ := X143.specialBack hx (y := (⟨"java/util/HashSet", "<init>", "()V"⟩ : MethodName)) rfl hown (mvT hZ (hw _ (List.mem_of_getElem? (i := 6) rfl))) (mvT hZ (hw _ (List.mem_of_getElem? (i := 7) rfl))) (mvT hZ (hw _ (List.mem_of_getElem? (i := 8) rfl))) (by decide) (backOf (W := 3) (rm_hs0 l Z a0 hw [] b143  h143 n0 O143 A143 F150 ge_b143) hZ (hw _ (List.mem_of_getElem? (i := 8) rfl)) (hw _ (List.mem_of_getElem? (i := 5) rfl)) (by decide) (by decide)) (g := (mkF m 32 #[.val (.int p0), .val (.int (1 : Int32)), .val (.int (0 : Int32)), .unset, .unset, .unset, .unset, .unset] [(.ref b143), (.ref b143), (.ref b138), (.ref b138)])) rfl (by rw [hml]; rfl) (Steps.refl _) (a := b143) (argsL := []) (rest := [(.ref b143), (.ref b138), (.ref b138)]) (lenOf pd_0 rfl) rfl (by show 2 * 0 + _ ≤ _; exact Nat.le_of_eq rfl) (hb hby at_32) (fun _ _ => ⟨rfl, e143, (by decide : 2 + 1 ≤ _), (by decide : 5 + 8 ≤ _)⟩)
      dsimp only [Pt.U, Pt.locs, Pt.cells, Pt.slots] at X151 l151 y151 z151 st151 hQ151
      subst y151 z151
      obtain ⟨mp151, rfl, N151q, K151q, ⟨ge_mp151, sz151_mp151⟩, r151_0, r151_1, r151_2, r151_3, r151_4, r151_5, r151_6⟩ := hQ151
      have N151 : Fr n0 L151 := by rw [l151]; exact Fr.app N0 N151q
      have ne152 : b138 ≠ mp151 := Nat.ne_of_lt (Nat.lt_of_lt_of_le f145.lt sz151_mp151)
      have ne153 : b143 ≠ mp151 := Nat.ne_of_lt (Nat.lt_of_lt_of_le A143.lt sz151_mp151)
      have f154 := f145.keep K151q
      have f155 := f146.keep K151q (ninS ne144 nin0)
      have f156 := f147.keep K151q (ninS ne144 nin0)
      have f157 := f148.keep K151q (ninS ne144 nin0)
      have f158 := f149.keep K151q (ninS ne144 nin0)
      have f159 := A143.keep K151q
      have sz_mp151 : h0.size ≤ mp151 := Nat.le_trans K143.1 sz151_mp151
      have K151 : Keep h0 T151.heap [] := K143.trans K151q (allS (Or.inr sz_b143) all0)
      have O151 := O143.keep K151q (allS ge_b143 all0)
      refine stt st151 ?_
      show Go p e below T151 (mkF m 35 #[.val (.int p0), .val (.int (1 : Int32)), .val (.int (0 : Int32)), .unset, .unset, .unset, .unset, .unset] [(.ref b143), (.ref b138), (.ref b138)]) _
      obtain ⟨T160, h160, X160, e160, E160, A160, D160, U160, st160⟩ := newO X151 hx hZ hown (hw _ (List.mem_of_getElem? (i := 3) rfl)) (hw _ (List.mem_of_getElem? (i := 4) rfl)) (hw _ (List.mem_of_getElem? (i := 5) rfl)) rfl (g := (mkF m 35 #[.val (.int p0), .val (.int (1 : Int32)), .val (.int (0 : Int32)), .unset, .unset, .unset, .unset, .unset] [(.ref b143), (.ref b138), (.ref b138)])) rfl (hb hby at_35) (by decide) (by decide)
      obtain ⟨b160, g160⟩ : ∃ z, z = T151.heap.size := ⟨_, rfl⟩
      rw [← g160] at A160 D160 st160
      have ne161 : b138 ≠ b160 := Nat.ne_of_lt (Nat.lt_of_lt_of_le f154.lt (Nat.le_of_eq g160.symm))
      have ne162 : b143 ≠ b160 := Nat.ne_of_lt (Nat.lt_of_lt_of_le r151_0.lt (Nat.le_of_eq g160.symm))
      have ne163 : mp151 ≠ b160 := Nat.ne_of_lt (Nat.lt_of_lt_of_le r151_2.lt (Nat.le_of_eq g160.symm))
      have sz_b160 : h0.size ≤ b160 := Nat.le_trans K151.1 (Nat.le_of_eq g160.symm)
      have ge_b160 : n0 ≤ b160 := Nat.le_trans (old_le O151) (Nat.le_of_eq g160.symm)
      have f164 := f154.ext E160
      have f165 := f155.ext E160
      have f166 := f156.ext E160
      have f167 := f157.ext E160
      have f168 := f158.ext E160
      have f169 := r151_0.ext E160
      have f170 := r151_1.ext E160
      have f171 := r151_2.ext E160
      have f172 := r151_3.ext E160
      have f173 := r151_4.ext E160
      have f174 := r151_5.ext E160
      have f175 := r151_6.ext E160
      have K160 : Keep h0 h160 [] := K151.ext E160
      have O160 := O151.ext E160
      have F176 : Fld Z h160 b160 "java/util/HashSet" "map" "Ljava/util/HashMap;" .null := D160 (Or.inl (hw _ (List.mem_of_getElem? (i := 42) rfl))) (ty := (.object "java/util/HashMap")) (by decide)
      refine stp st160 ?_
      show Go p e below T160 (mkF m 38 #[.val (.int p0), .val (.int (1 : Int32)), .val (.int (0 : Int32)), .unset, .unset, .unset, .unset, .unset] [(.ref b160), (.ref b143), (.ref b138), (.ref b138)]) _
      refine stp (fun _ => XS.dup X160.here hx rfl (hb hby at_38) rfl rfl) ?_
      show Go p e below T160 (mkF m 39 #[.val (.int p0), .val (.int (1 : Int32)), .val (.int (0 : Int32)), .unset, .unset, .unset, .unset, .unset] [(.ref b160), (.ref b160), (.ref b143), (.ref b138), (.ref b138)]) _
      obtain ⟨_, _, ⟨T177, L177, k177, n177⟩, -, X177, ⟨Lc177, hQ177, l177, y177, z177⟩, st177⟩ := X160.specialBack hx (y := (⟨"java/util/HashSet", "<init>", "()V"⟩ : MethodName)) rfl hown (mvT hZ (hw _ (List.mem_of_getElem? (i := 6) rfl))) (mvT hZ (hw _ (List.mem_of_getElem? (i := 7) rfl))) (mvT hZ (hw _ (List.mem_of_getElem? (i := 8) rfl))) (by decide) (backOf (W := 4) (rm_hs0 l Z a0 hw [] b160  h160 n0 O160 A160 F176 ge_b160) hZ (hw _ (List.mem_of_getElem? (i := 8) rfl)) (hw _ (List.mem_of_getElem? (i := 5) rfl)) (by decide) (by decide)) (g := (mkF m 39 #[.val (.int p0), .val (.int (1 : Int32)), .val (.int (0 : Int32)), .unset, .unset, .unset, .unset, .unset] [(.ref b160), (.ref b160), (.ref b143), (.ref b138), (.ref b138)])) rfl (by rw [hml]; rfl) (Steps.refl _) (a := b160) (argsL := []) (rest := [(.ref b160), (.ref b143), (.ref b138), (.ref b138)]) (lenOf pd_0 rfl) rfl (by show 2 * 0 + _ ≤ _; exact Nat.le_of_eq rfl) (hb hby at_39) (fun _ _ => ⟨rfl, e160, (by decide : 4 + 1 ≤ _), (by decide : 14 + 8 ≤ _)⟩)
      dsimp only [Pt.U, Pt.locs, Pt.cells, Pt.slots] at X177 l177 y177 z177 st177 hQ177
      subst y177 z177
      obtain ⟨mp177, rfl, N177q, K177q, ⟨ge_mp177, sz177_mp177⟩, r177_0, r177_1, r177_2, r177_3, r177_4, r177_5, r177_6⟩ := hQ177
      have N177 : Fr n0 L177 := by rw [l177]; exact Fr.app N151 N177q
      have ne178 : b138 ≠ mp177 := Nat.ne_of_lt (Nat.lt_of_lt_of_le f164.lt sz177_mp177)
      have ne179 : b143 ≠ mp177 := Nat.ne_of_lt (Nat.lt_of_lt_of_le f169.lt sz177_mp177)
      have ne180 : b160 ≠ mp177 := Nat.ne_of_lt (Nat.lt_of_lt_of_le A160.lt sz177_mp177)
      have ne181 : mp151 ≠ mp177 := Nat.ne_of_lt (Nat.lt_of_lt_of_le f171.lt sz177_mp177)
      have f182 := f164.keep K177q
      have f183 := f165.keep K177q (ninS ne161 nin0)
      have f184 := f166.keep K177q (ninS ne161 nin0)
      have f185 := f167.keep K177q (ninS ne161 nin0)
      have f186 := f168.keep K177q (ninS ne161 nin0)
      have f187 := f169.keep K177q
      have f188 := f170.keep K177q (ninS ne162 nin0)
      have f189 := f171.keep K177q
      have f190 := f172.keep K177q (ninS ne163 nin0)
      have f191 := f173.keep K177q (ninS ne163 nin0)
      have f192 := f174.keep K177q (ninS ne163 nin0)
      have f193 := f175.keep K177q (ninS ne163 nin0)
      have f194 := A160.keep K177q
      have sz_mp177 : h0.size ≤ mp177 := Nat.le_trans K160.1 sz177_mp177
      have K177 : Keep h0 T177.heap [] := K160.trans K177q (allS (Or.inr sz_b160) all0)
      have O177 := O160.keep K177q (allS ge_b160 all0)
      refine stt st177 ?_
      show Go p e below T177 (mkF m 42 #[.val (.int p0), .val (.int (1 : Int32)), .val (.int (0 : Int32)), .unset, .unset, .unset, .unset, .unset] [(.ref b160), (.ref b143), (.ref b138), (.ref b138)]) _
      refine stp (fun _ => XS.iloadN X177.here hx rfl (hb hby at_42) rfl) ?_
      show Go p e below T177 (mkF m 43 #[.val (.int p0), .val (.int (1 : Int32)), .val (.int (0 : Int32)), .unset, .unset, .unset, .unset, .unset] [(.int (1 : Int32)), (.ref b160), (.ref b143), (.ref b138), (.ref b138)]) _
      refine stp (fun _ => XS.iloadN X177.here hx rfl (hb hby at_43) rfl) ?_
      show Go p e below T177 (mkF m 44 #[.val (.int p0), .val (.int (1 : Int32)), .val (.int (0 : Int32)), .unset, .unset, .unset, .unset, .unset] [(.int (0 : Int32)), (.int (1 : Int32)), (.ref b160), (.ref b143), (.ref b138), (.ref b138)]) _
      obtain ⟨_, _, ⟨T195, L195, k195, n195⟩, -, X195, ⟨Lc195, hQ195, l195, y195, z195⟩, st195⟩ := X177.specialBack hx (y := (⟨"com/example/revlint/revlint/model/Library$Supertypes", "<init>", "(Ljava/util/Set;Ljava/util/Set;ZZ)V"⟩ : MethodName)) rfl hown (mvT hZ (hw _ (List.mem_of_getElem? (i := 43) rfl))) (mvT hZ (hw _ (List.mem_of_getElem? (i := 44) rfl))) (mvT hZ (hw _ (List.mem_of_getElem? (i := 45) rfl))) (by decide) (backOf (W := 1) (rm_su10 l Z a0 hw [] b138 b143 b160 mA mS mp151 mp177 T177.heap n0 O177 f182 f183 f184 f185 f186 f187 f188 f189 f190 f191 f192 f193 r177_0 r177_1 r177_2 r177_3 r177_4 r177_5 r177_6 S_AD ge_b138 ge_mp151 ge_mp177 ne181 (Ne.symm ne153) ne163 (Ne.symm ne152) (Ne.symm ne179) (Ne.symm ne180) (Ne.symm ne178) (Ne.symm ne144) (Ne.symm ne161) hmA hmS) hZ (hw _ (List.mem_of_getElem? (i := 45) rfl)) (hw _ (List.mem_of_getElem? (i := 2) rfl)) (by decide) (by decide)) (g := (mkF m 44 #[.val (.int p0), .val (.int (1 : Int32)), .val (.int (0 : Int32)), .unset, .unset, .unset, .unset, .unset] [(.int (0 : Int32)), (.int (1 : Int32)), (.ref b160), (.ref b143), (.ref b138), (.ref b138)])) rfl (by rw [hml]; rfl) (Steps.refl _) (a := b138) (argsL := [(.ref b143), (.ref b160), (.int (1 : Int32)), (.int (0 : Int32))]) (rest := [(.ref b138)]) (lenOf pd_17 rfl) rfl (by show 2 * 0 + _ ≤ _; exact Nat.le_of_eq rfl) (hb hby at_44) (fun _ _ => ⟨rfl, rfl, (by decide : 5 + 10 ≤ _), (by decide : 22 + 32 ≤ _)⟩)
      dsimp only [Pt.U, Pt.locs, Pt.cells, Pt.slots] at X195 l195 y195 z195 st195 hQ195
      subst y195 z195
      obtain ⟨rfl, N195q, K195q, r195_0, r195_1, r195_2⟩ := hQ195
      have N195 : Fr n0 L195 := by rw [l195]; exact Fr.app N177 N195q
      have f196 := f182.keep K195q
      have f197 := f187.keep K195q
      have f198 := f188.keep K195q (ninS (Ne.symm ne144) (ninS ne153 (ninS ne179 nin0)))
      have f199 := f189.keep K195q
      have f200 := r177_0.keep K195q
      have f201 := r177_1.keep K195q (ninS (Ne.symm ne161) (ninS (Ne.symm ne163) (ninS ne180 nin0)))
      have f202 := r177_2.keep K195q
      have K195 : Keep h0 T195.heap [] := K177.trans K195q (allS (Or.inr sz_b138) (allS (Or.inr sz_mp151) (allS (Or.inr sz_mp177) all0)))
      have O195 := O177.keep K195q (allS ge_b138 (allS ge_mp151 (allS ge_mp177 all0)))
      refine stt st195 ?_
      show Go p e below T195 (mkF m 47 #[.val (.int p0), .val (.int (1 : Int32)), .val (.int (0 : Int32)), .unset, .unset, .unset, .unset, .unset] [(.ref b138)]) _
      refine stp (fun _ => XS.astoreN X195.here hx rfl (hb hby at_47) rfl rfl (l' := #[.val (.int p0), .val (.int (1 : Int32)), .val (.int (0 : Int32)), .val (.ref b138), .unset, .unset, .unset, .unset]) rfl) ?_
      show Go p e below T195 (mkF m 48 #[.val (.int p0), .val (.int (1 : Int32)), .val (.int (0 : Int32)), .val (.ref b138), .unset, .unset, .unset, .unset] []) _
      refine stp (fun _ => XS.aloadN X195.here hx rfl (hb hby at_48) rfl rfl) ?_
      show Go p e below T195 (mkF m 49 #[.val (.int p0), .val (.int (1 : Int32)), .val (.int (0 : Int32)), .val (.ref b138), .unset, .unset, .unset, .unset] [(.ref b138)]) _
      refine stp (fun _ => XS.iconst X195.here hx rfl (hb hby at_49)) ?_
      show Go p e below T195 (mkF m 50 #[.val (.int p0), .val (.int (1 : Int32)), .val (.int (0 : Int32)), .val (.ref b138), .unset, .unset, .unset, .unset] [(.int (0 : Int32)), (.ref b138)]) _
      obtain ⟨cq203, kq203, q203a, q203b, q203c⟩ := isOf hZ rfl r195_0
      obtain ⟨_, _, ⟨T203, L203, k203, n203⟩, -, X203, ⟨Lc203, hQ203, l203, y203, z203⟩, st203⟩ := X195.virtualBack hx (y := (⟨"com/example/revlint/revlint/model/Library$Supertypes", "mayHaveUnnamed", "(Z)Z"⟩ : MethodName)) (z := (⟨"com/example/revlint/revlint/model/Library$Supertypes", "mayHaveUnnamed", "(Z)Z"⟩ : MethodName)) hown (mvT hZ (hw _ (List.mem_of_getElem? (i := 250) rfl))) (mvT hZ (hw _ (List.mem_of_getElem? (i := 251) rfl))) (notFace_of_selects (args := #[]) (mvT hZ (hw _ (List.mem_of_getElem? (i := 253) rfl)))) (mvT hZ (hw _ (List.mem_of_getElem? (i := 253) rfl))) (mvT hZ (hw _ (List.mem_of_getElem? (i := 252) rfl))) (by decide) (backOf (W := 0) (rm_mh100 l Z a0 hw [] b138  T195.heap n0 O195 r195_1 r195_2) hZ (hw _ (List.mem_of_getElem? (i := 254) rfl)) (hw _ (List.mem_of_getElem? (i := 2) rfl)) (by decide) (by decide)) q203a q203c (g := (mkF m 50 #[.val (.int p0), .val (.int (1 : Int32)), .val (.int (0 : Int32)), .val (.ref b138), .unset, .unset, .unset, .unset] [(.int (0 : Int32)), (.ref b138)])) rfl (by rw [hml]; rfl) (Steps.refl _) (argsL := [(.int (0 : Int32))]) (rest := []) (lenOf pd_18 rfl) rfl (by show 2 * 0 + _ ≤ _; exact Nat.le_of_eq rfl) (hb hby at_50) (fun _ _ => ⟨rfl, rfl, (by decide : 15 + 0 ≤ _), (by decide : 54 + 0 ≤ _)⟩)
      dsimp only [Pt.U, Pt.locs, Pt.cells, Pt.slots] at X203 l203 y203 z203 st203 hQ203
      subst y203 z203
      obtain ⟨rfl, N203q, e203⟩ := hQ203
      have N203 : Fr n0 L203 := by rw [l203]; exact Fr.app N195 N203q
      refine stt st203 ?_
      show Go p e below T203 (mkF m 53 #[.val (.int p0), .val (.int (1 : Int32)), .val (.int (0 : Int32)), .val (.ref b138), .unset, .unset, .unset, .unset] [(.int (1 : Int32))]) _
      refine stp (fun _ => XS.istore X203.here hx rfl (hb hby at_53) rfl (l' := #[.val (.int p0), .val (.int (1 : Int32)), .val (.int (0 : Int32)), .val (.ref b138), .val (.int (1 : Int32)), .unset, .unset, .unset]) rfl) ?_
      show Go p e below T203 (mkF m 55 #[.val (.int p0), .val (.int (1 : Int32)), .val (.int (0 : Int32)), .val (.ref b138), .val (.int (1 : Int32)), .unset, .unset, .unset] []) _
      refine stp (fun _ => XS.aloadN X203.here hx rfl (hb hby at_55) rfl rfl) ?_
      show Go p e below T203 (mkF m 56 #[.val (.int p0), .val (.int (1 : Int32)), .val (.int (0 : Int32)), .val (.ref b138), .val (.int (1 : Int32)), .unset, .unset, .unset] [(.ref b138)]) _
      refine stp (fun _ => XS.iconst X203.here hx rfl (hb hby at_56)) ?_
      show Go p e below T203 (mkF m 57 #[.val (.int p0), .val (.int (1 : Int32)), .val (.int (0 : Int32)), .val (.ref b138), .val (.int (1 : Int32)), .unset, .unset, .unset] [(.int (1 : Int32)), (.ref b138)]) _
      obtain ⟨cq204, kq204, q204a, q204b, q204c⟩ := isOf hZ e203 r195_0
      obtain ⟨_, _, ⟨T204, L204, k204, n204⟩, -, X204, ⟨Lc204, hQ204, l204, y204, z204⟩, st204⟩ := X203.virtualBack hx (y := (⟨"com/example/revlint/revlint/model/Library$Supertypes", "mayHaveUnnamed", "(Z)Z"⟩ : MethodName)) (z := (⟨"com/example/revlint/revlint/model/Library$Supertypes", "mayHaveUnnamed", "(Z)Z"⟩ : MethodName)) hown (mvT hZ (hw _ (List.mem_of_getElem? (i := 250) rfl))) (mvT hZ (hw _ (List.mem_of_getElem? (i := 251) rfl))) (notFace_of_selects (args := #[]) (mvT hZ (hw _ (List.mem_of_getElem? (i := 253) rfl)))) (mvT hZ (hw _ (List.mem_of_getElem? (i := 253) rfl))) (mvT hZ (hw _ (List.mem_of_getElem? (i := 252) rfl))) (by decide) (backOf (W := 0) (rm_mh101 l Z a0 hw [] b138  T195.heap n0 O195 r195_1 r195_2) hZ (hw _ (List.mem_of_getElem? (i := 254) rfl)) (hw _ (List.mem_of_getElem? (i := 2) rfl)) (by decide) (by decide)) q204a q204c (g := (mkF m 57 #[.val (.int p0), .val (.int (1 : Int32)), .val (.int (0 : Int32)), .val (.ref b138), .val (.int (1 : Int32)), .unset, .unset, .unset] [(.int (1 : Int32)), (.ref b138)])) rfl (by rw [hml]; rfl) (Steps.refl _) (argsL := [(.int (1 : Int32))]) (rest := []) (lenOf pd_18 rfl) rfl (by show 2 * 0 + _ ≤ _; exact Nat.le_of_eq rfl) (hb hby at_57) (fun _ _ => ⟨rfl, e203, (by decide : 15 + 0 ≤ _), (by decide : 54 + 0 ≤ _)⟩)
      dsimp only [Pt.U, Pt.locs, Pt.cells, Pt.slots] at X204 l204 y204 z204 st204 hQ204
      subst y204 z204
      obtain ⟨rfl, N204q, e204⟩ := hQ204
      have N204 : Fr n0 L204 := by rw [l204]; exact Fr.app N203 N204q
      refine stt st204 ?_
      show Go p e below T204 (mkF m 60 #[.val (.int p0), .val (.int (1 : Int32)), .val (.int (0 : Int32)), .val (.ref b138), .val (.int (1 : Int32)), .unset, .unset, .unset] [(.int (1 : Int32))]) _
      refine stp (fun _ => XS.istore X204.here hx rfl (hb hby at_60) rfl (l' := #[.val (.int p0), .val (.int (1 : Int32)), .val (.int (0 : Int32)), .val (.ref b138), .val (.int (1 : Int32)), .val (.int (1 : Int32)), .unset, .unset]) rfl) ?_
      show Go p e below T204 (mkF m 62 #[.val (.int p0), .val (.int (1 : Int32)), .val (.int (0 : Int32)), .val (.ref b138), .val (.int (1 : Int32)), .val (.int (1 : Int32)), .unset, .unset] []) _
      refine stp (fun _ => XS.iloadN X204.here hx rfl (hb hby at_62) rfl) ?_
      show Go p e below T204 (mkF m 63 #[.val (.int p0), .val (.int (1 : Int32)), .val (.int (0 : Int32)), .val (.ref b138), .val (.int (1 : Int32)), .val (.int (1 : Int32)), .unset, .unset] [(.int (1 : Int32))]) _
      refine stp (fun _ => XS.istore X204.here hx rfl (hb hby at_63) rfl (l' := #[.val (.int p0), .val (.int (1 : Int32)), .val (.int (0 : Int32)), .val (.ref b138), .val (.int (1 : Int32)), .val (.int (1 : Int32)), .val (.int (1 : Int32)), .unset]) rfl) ?_
      show Go p e below T204 (mkF m 65 #[.val (.int p0), .val (.int (1 : Int32)), .val (.int (0 : Int32)), .val (.ref b138), .val (.int (1 : Int32)), .val (.int (1 : Int32)), .val (.int (1 : Int32)), .unset] []) _
      refine stp (fun _ => XS.iloadN X204.here hx rfl (hb hby at_65) rfl) ?_
      show Go p e below T204 (mkF m 66 #[.val (.int p0), .val (.int (1 : Int32)), .val (.int (0 : Int32)), .val (.ref b138), .val (.int (1 : Int32)), .val (.int (1 : Int32)), .val (.int (1 : Int32)), .unset] [(.int (1 : Int32))]) _
      refine stp (fun _ => XS.ifNo X204.here hx rfl (hb hby at_66) rfl (by decide)) ?_
      show Go p e below T204 (mkF m 69 #[.val (.int p0), .val (.int (1 : Int32)), .val (.int (0 : Int32)), .val (.ref b138), .val (.int (1 : Int32)), .val (.int (1 : Int32)), .val (.int (1 : Int32)), .unset] []) _
      refine stp (fun _ => XS.iconst X204.here hx rfl (hb hby at_69)) ?_
      show Go p e below T204 (mkF m 70 #[.val (.int p0), .val (.int (1 : Int32)), .val (.int (0 : Int32)), .val (.ref b138), .val (.int (1 : Int32)), .val (.int (1 : Int32)), .val (.int (1 : Int32)), .unset] [(.int (1 : Int32))]) _
      refine stp (fun _ => XS.istore X204.here hx rfl (hb hby at_70) rfl (l' := #[.val (.int p0), .val (.int (1 : Int32)), .val (.int (0 : Int32)), .val (.ref b138), .val (.int (1 : Int32)), .val (.int (1 : Int32)), .val (.int (1 : Int32)), .val (.int (1 : Int32))]) rfl) ?_
      show Go p e below T204 (mkF m 72 #[.val (.int p0), .val (.int (1 : Int32)), .val (.int (0 : Int32)), .val (.ref b138), .val (.int (1 : Int32)), .val (.int (1 : Int32)), .val (.int (1 : Int32)), .val (.int (1 : Int32))] []) _
      refine stp (fun _ => XS.goto X204.here hx rfl (pc0 := 72) (pc' := 88) rfl (hb hby at_72) (by decide) (by decide)) ?_
      show Go p e below T204 (mkF m 88 #[.val (.int p0), .val (.int (1 : Int32)), .val (.int (0 : Int32)), .val (.ref b138), .val (.int (1 : Int32)), .val (.int (1 : Int32)), .val (.int (1 : Int32)), .val (.int (1 : Int32))] []) _
      refine stp (fun _ => XS.iload X204.here hx rfl (hb hby at_88) rfl) ?_
      show Go p e below T204 (mkF m 90 #[.val (.int p0), .val (.int (1 : Int32)), .val (.int (0 : Int32)), .val (.ref b138), .val (.int (1 : Int32)), .val (.int (1 : Int32)), .val (.int (1 : Int32)), .val (.int (1 : Int32))] [(.int (1 : Int32))]) _
      refine stp (fun _ => XS.iload X204.here hx rfl (hb hby at_90) rfl) ?_
      show Go p e below T204 (mkF m 92 #[.val (.int p0), .val (.int (1 : Int32)), .val (.int (0 : Int32)), .val (.ref b138), .val (.int (1 : Int32)), .val (.int (1 : Int32)), .val (.int (1 : Int32)), .val (.int (1 : Int32))] [(.int (1 : Int32)), (.int (1 : Int32))]) _
      refine stp (fun _ => XS.icmpNo X204.here hx rfl (hb hby at_92) rfl (by decide)) ?_
      show Go p e below T204 (mkF m 95 #[.val (.int p0), .val (.int (1 : Int32)), .val (.int (0 : Int32)), .val (.ref b138), .val (.int (1 : Int32)), .val (.int (1 : Int32)), .val (.int (1 : Int32)), .val (.int (1 : Int32))] []) _
      refine stp (fun _ => XS.iload X204.here hx rfl (hb hby at_95) rfl) ?_
      show Go p e below T204 (mkF m 97 #[.val (.int p0), .val (.int (1 : Int32)), .val (.int (0 : Int32)), .val (.ref b138), .val (.int (1 : Int32)), .val (.int (1 : Int32)), .val (.int (1 : Int32)), .val (.int (1 : Int32))] [(.int (1 : Int32))]) _
      refine stp (fun _ => XS.iload X204.here hx rfl (hb hby at_97) rfl) ?_
      show Go p e below T204 (mkF m 99 #[.val (.int p0), .val (.int (1 : Int32)), .val (.int (0 : Int32)), .val (.ref b138), .val (.int (1 : Int32)), .val (.int (1 : Int32)), .val (.int (1 : Int32)), .val (.int (1 : Int32))] [(.int (1 : Int32)), (.int (1 : Int32))]) _
      refine stp (fun _ => XS.icmpNo X204.here hx rfl (hb hby at_99) rfl (by decide)) ?_
      show Go p e below T204 (mkF m 102 #[.val (.int p0), .val (.int (1 : Int32)), .val (.int (0 : Int32)), .val (.ref b138), .val (.int (1 : Int32)), .val (.int (1 : Int32)), .val (.int (1 : Int32)), .val (.int (1 : Int32))] []) _
      refine stp (fun _ => XS.iconst X204.here hx rfl (hb hby at_102)) ?_
      show Go p e below T204 (mkF m 103 #[.val (.int p0), .val (.int (1 : Int32)), .val (.int (0 : Int32)), .val (.ref b138), .val (.int (1 : Int32)), .val (.int (1 : Int32)), .val (.int (1 : Int32)), .val (.int (1 : Int32))] [(.int (1 : Int32))]) _
      refine stp (fun _ => XS.goto X204.here hx rfl (pc0 := 103) (pc' := 107) rfl (hb hby at_103) (by decide) (by decide)) ?_
      show Go p e below T204 (mkF m 107 #[.val (.int p0), .val (.int (1 : Int32)), .val (.int (0 : Int32)), .val (.ref b138), .val (.int (1 : Int32)), .val (.int (1 : Int32)), .val (.int (1 : Int32)), .val (.int (1 : Int32))] [(.int (1 : Int32))]) _
      refine outN X204 hx (t := .boolean) hret (by simp) (hb hby at_107) hlk (by decide) (by decide) ?_
      exact ⟨rfl, N204⟩
    · refine stp (fun _ => XS.ifNo X0.here hx rfl (hb hby at_15) rfl (XT.i0_eq_f q15_137)) ?_
      show Go p e below T0 (mkF m 18 #[.val (.int p0), .val (.int (1 : Int32)), .unset, .unset, .unset, .unset, .unset, .unset] []) _
      refine stp (fun _ => XS.iconst X0.here hx rfl (hb hby at_18)) ?_
      show Go p e below T0 (mkF m 19 #[.val (.int p0), .val (.int (1 : Int32)), .unset, .unset, .unset, .unset, .unset, .unset] [(.int (1 : Int32))]) _
      refine stp (fun _ => XS.goto X0.here hx rfl (pc0 := 19) (pc' := 23) rfl (hb hby at_19) (by decide) (by decide)) ?_
      show Go p e below T0 (mkF m 23 #[.val (.int p0), .val (.int (1 : Int32)), .unset, .unset, .unset, .unset, .unset, .unset] [(.int (1 : Int32))]) _
      refine stp (fun _ => XS.istoreN X0.here hx rfl (hb hby at_23) rfl (l' := #[.val (.int p0), .val (.int (1 : Int32)), .val (.int (1 : Int32)), .unset, .unset, .unset, .unset, .unset]) rfl) ?_
      show Go p e below T0 (mkF m 24 #[.val (.int p0), .val (.int (1 : Int32)), .val (.int (1 : Int32)), .unset, .unset, .unset, .unset, .unset] []) _
      obtain ⟨T205, h205, X205, e205, E205, A205, D205, U205, st205⟩ := newO X0 hx hZ hown (hw _ (List.mem_of_getElem? (i := 0) rfl)) (hw _ (List.mem_of_getElem? (i := 1) rfl)) (hw _ (List.mem_of_getElem? (i := 2) rfl)) e0 (g := (mkF m 24 #[.val (.int p0), .val (.int (1 : Int32)), .val (.int (1 : Int32)), .unset, .unset, .unset, .unset, .unset] [])) rfl (hb hby at_24) (by decide) (by decide)
      obtain ⟨b205, g205⟩ : ∃ z, z = h0.size := ⟨_, rfl⟩
      rw [← g205] at A205 D205 st205
      have sz_b205 : h0.size ≤ b205 := Nat.le_trans (Keep.refl h0 []).1 (Nat.le_of_eq g205.symm)
      have ge_b205 : n0 ≤ b205 := Nat.le_trans (old_le O0) (Nat.le_of_eq g205.symm)
      have K205 : Keep h0 h205 [] := (Keep.refl h0 []).ext E205
      have O205 := O0.ext E205
      have F206 : Fld Z h205 b205 "com/example/revlint/revlint/model/Library$Supertypes" "names" "Ljava/util/Set;" .null := D205 (Or.inr (hw _ (List.mem_of_getElem? (i := 243) rfl))) (ty := (.object "java/util/Set")) (by decide)
      have F207 : Fld Z h205 b205 "com/example/revlint/revlint/model/Library$Supertypes" "interfaces" "Ljava/util/Set;" .null := D205 (Or.inr (hw _ (List.mem_of_getElem? (i := 245) rfl))) (ty := (.object "java/util/Set")) (by decide)
      have F208 : Fld Z h205 b205 "com/example/revlint/revlint/model/Library$Supertypes" "unreadSuperclass" "Z" (.int (0 : Int32)) := D205 (Or.inr (hw _ (List.mem_of_getElem? (i := 247) rfl))) (ty := .boolean) (by decide)
      have F209 : Fld Z h205 b205 "com/example/revlint/revlint/model/Library$Supertypes" "unreadInterface" "Z" (.int (0 : Int32)) := D205 (Or.inr (hw _ (List.mem_of_getElem? (i := 249) rfl))) (ty := .boolean) (by decide)
      refine stp st205 ?_
      show Go p e below T205 (mkF m 27 #[.val (.int p0), .val (.int (1 : Int32)), .val (.int (1 : Int32)), .unset, .unset, .unset, .unset, .unset] [(.ref b205)]) _
      refine stp (fun _ => XS.dup X205.here hx rfl (hb hby at_27) rfl rfl) ?_
      show Go p e below T205 (mkF m 28 #[.val (.int p0), .val (.int (1 : Int32)), .val (.int (1 : Int32)), .unset, .unset, .unset, .unset, .unset] [(.ref b205), (.ref b205)]) _
      obtain ⟨T210, h210, X210, e210, E210, A210, D210, U210, st210⟩ := newO X205 hx hZ hown (hw _ (List.mem_of_getElem? (i := 3) rfl)) (hw _ (List.mem_of_getElem? (i := 4) rfl)) (hw _ (List.mem_of_getElem? (i := 5) rfl)) e205 (g := (mkF m 28 #[.val (.int p0), .val (.int (1 : Int32)), .val (.int (1 : Int32)), .unset, .unset, .unset, .unset, .unset] [(.ref b205), (.ref b205)])) rfl (hb hby at_28) (by decide) (by decide)
      obtain ⟨b210, g210⟩ : ∃ z, z = h205.size := ⟨_, rfl⟩
      rw [← g210] at A210 D210 st210
      have ne211 : b205 ≠ b210 := Nat.ne_of_lt (Nat.lt_of_lt_of_le A205.lt (Nat.le_of_eq g210.symm))
      have sz_b210 : h0.size ≤ b210 := Nat.le_trans K205.1 (Nat.le_of_eq g210.symm)
      have ge_b210 : n0 ≤ b210 := Nat.le_trans (old_le O205) (Nat.le_of_eq g210.symm)
      have f212 := A205.ext E210
      have f213 := F206.ext E210
      have f214 := F207.ext E210
      have f215 := F208.ext E210
      have f216 := F209.ext E210
      have K210 : Keep h0 h210 [] := K205.ext E210
      have O210 := O205.ext E210
      have F217 : Fld Z h210 b210 "java/util/HashSet" "map" "Ljava/util/HashMap;" .null := D210 (Or.inl (hw _ (List.mem_of_getElem? (i := 42) rfl))) (ty := (.object "java/util/HashMap")) (by decide)
      refine stp st210 ?_
      show Go p e below T210 (mkF m 31 #[.val (.int p0), .val (.int (1 : Int32)), .val (.int (1 : Int32)), .unset, .unset, .unset, .unset, .unset] [(.ref b210), (.ref b205), (.ref b205)]) _
      refine stp (fun _ => XS.dup X210.here hx rfl (hb hby at_31) rfl rfl) ?_
      show Go p e below T210 (mkF m 32 #[.val (.int p0), .val (.int (1 : Int32)), .val (.int (1 : Int32)), .unset, .unset, .unset, .unset, .unset] [(.ref b210), (.ref b210), (.ref b205), (.ref b205)]) _
      obtain ⟨_, _, ⟨T218, L218, k218, n218⟩, -, X218, ⟨Lc218, hQ218, l218, y218, z218⟩, st218⟩ := X210.specialBack hx (y := (⟨"java/util/HashSet", "<init>", "()V"⟩ : MethodName)) rfl hown (mvT hZ (hw _ (List.mem_of_getElem? (i := 6) rfl))) (mvT hZ (hw _ (List.mem_of_getElem? (i := 7) rfl))) (mvT hZ (hw _ (List.mem_of_getElem? (i := 8) rfl))) (by decide) (backOf (W := 3) (rm_hs0 l Z a0 hw [] b210  h210 n0 O210 A210 F217 ge_b210) hZ (hw _ (List.mem_of_getElem? (i := 8) rfl)) (hw _ (List.mem_of_getElem? (i := 5) rfl)) (by decide) (by decide)) (g := (mkF m 32 #[.val (.int p0), .val (.int (1 : Int32)), .val (.int (1 : Int32)), .unset, .unset, .unset, .unset, .unset] [(.ref b210), (.ref b210), (.ref b205), (.ref b205)])) rfl (by rw [hml]; rfl) (Steps.refl _) (a := b210) (argsL := []) (rest := [(.ref b210), (.ref b205), (.ref b205)]) (lenOf pd_0 rfl) rfl (by show 2 * 0 + _ ≤ _; exact Nat.le_of_eq rfl) (hb hby at_32) (fun _ _ => ⟨rfl, e210, (by decide : 2 + 1 ≤ _), (by decide : 5 + 8 ≤ _)⟩)
      dsimp only [Pt.U, Pt.locs, Pt.cells, Pt.slots] at X218 l218 y218 z218 st218 hQ218
      subst y218 z218
      obtain ⟨mp218, rfl, N218q, K218q, ⟨ge_mp218, sz218_mp218⟩, r218_0, r218_1, r218_2, r218_3, r218_4, r218_5, r218_6⟩ := hQ218
      have N218 : Fr n0 L218 := by rw [l218]; exact Fr.app N0 N218q
      have ne219 : b205 ≠ mp218 := Nat.ne_of_lt (Nat.lt_of_lt_of_le f212.lt sz218_mp218)
      have ne220 : b210 ≠ mp218 := Nat.ne_of_lt (Nat.lt_of_lt_of_le A210.lt sz218_mp218)
      have f221 := f212.keep K218q
      have f222 := f213.keep K218q (ninS ne211 nin0)
      have f223 := f214.keep K218q (ninS ne211 nin0)
      have f224 := f215.keep K218q (ninS ne211 nin0)
      have f225 := f216.keep K218q (ninS ne211 nin0)
      have f226 := A210.keep K218q
      have sz_mp218 : h0.size ≤ mp218 := Nat.le_trans K210.1 sz218_mp218
      have K218 : Keep h0 T218.heap [] := K210.trans K218q (allS (Or.inr sz_b210) all0)
      have O218 := O210.keep K218q (allS ge_b210 all0)
      refine stt st218 ?_
      show Go p e below T218 (mkF m 35 #[.val (.int p0), .val (.int (1 : Int32)), .val (.int (1 : Int32)), .unset, .unset, .unset, .unset, .unset] [(.ref b210), (.ref b205), (.ref b205)]) _
      obtain ⟨T227, h227, X227, e227, E227, A227, D227, U227, st227⟩ := newO X218 hx hZ hown (hw _ (List.mem_of_getElem? (i := 3) rfl)) (hw _ (List.mem_of_getElem? (i := 4) rfl)) (hw _ (List.mem_of_getElem? (i := 5) rfl)) rfl (g := (mkF m 35 #[.val (.int p0), .val (.int (1 : Int32)), .val (.int (1 : Int32)), .unset, .unset, .unset, .unset, .unset] [(.ref b210), (.ref b205), (.ref b205)])) rfl (hb hby at_35) (by decide) (by decide)
      obtain ⟨b227, g227⟩ : ∃ z, z = T218.heap.size := ⟨_, rfl⟩
      rw [← g227] at A227 D227 st227
      have ne228 : b205 ≠ b227 := Nat.ne_of_lt (Nat.lt_of_lt_of_le f221.lt (Nat.le_of_eq g227.symm))
      have ne229 : b210 ≠ b227 := Nat.ne_of_lt (Nat.lt_of_lt_of_le r218_0.lt (Nat.le_of_eq g227.symm))
      have ne230 : mp218 ≠ b227 := Nat.ne_of_lt (Nat.lt_of_lt_of_le r218_2.lt (Nat.le_of_eq g227.symm))
      have sz_b227 : h0.size ≤ b227 := Nat.le_trans K218.1 (Nat.le_of_eq g227.symm)
      have ge_b227 : n0 ≤ b227 := Nat.le_trans (old_le O218) (Nat.le_of_eq g227.symm)
      have f231 := f221.ext E227
      have f232 := f222.ext E227
      have f233 := f223.ext E227
      have f234 := f224.ext E227
      have f235 := f225.ext E227
      have f236 := r218_0.ext E227
      have f237 := r218_1.ext E227
      have f238 := r218_2.ext E227
      have f239 := r218_3.ext E227
      have f240 := r218_4.ext E227
      have f241 := r218_5.ext E227
      have f242 := r218_6.ext E227
      have K227 : Keep h0 h227 [] := K218.ext E227
      have O227 := O218.ext E227
      have F243 : Fld Z h227 b227 "java/util/HashSet" "map" "Ljava/util/HashMap;" .null := D227 (Or.inl (hw _ (List.mem_of_getElem? (i := 42) rfl))) (ty := (.object "java/util/HashMap")) (by decide)
      refine stp st227 ?_
      show Go p e below T227 (mkF m 38 #[.val (.int p0), .val (.int (1 : Int32)), .val (.int (1 : Int32)), .unset, .unset, .unset, .unset, .unset] [(.ref b227), (.ref b210), (.ref b205), (.ref b205)]) _
      refine stp (fun _ => XS.dup X227.here hx rfl (hb hby at_38) rfl rfl) ?_
      show Go p e below T227 (mkF m 39 #[.val (.int p0), .val (.int (1 : Int32)), .val (.int (1 : Int32)), .unset, .unset, .unset, .unset, .unset] [(.ref b227), (.ref b227), (.ref b210), (.ref b205), (.ref b205)]) _
      obtain ⟨_, _, ⟨T244, L244, k244, n244⟩, -, X244, ⟨Lc244, hQ244, l244, y244, z244⟩, st244⟩ := X227.specialBack hx (y := (⟨"java/util/HashSet", "<init>", "()V"⟩ : MethodName)) rfl hown (mvT hZ (hw _ (List.mem_of_getElem? (i := 6) rfl))) (mvT hZ (hw _ (List.mem_of_getElem? (i := 7) rfl))) (mvT hZ (hw _ (List.mem_of_getElem? (i := 8) rfl))) (by decide) (backOf (W := 4) (rm_hs0 l Z a0 hw [] b227  h227 n0 O227 A227 F243 ge_b227) hZ (hw _ (List.mem_of_getElem? (i := 8) rfl)) (hw _ (List.mem_of_getElem? (i := 5) rfl)) (by decide) (by decide)) (g := (mkF m 39 #[.val (.int p0), .val (.int (1 : Int32)), .val (.int (1 : Int32)), .unset, .unset, .unset, .unset, .unset] [(.ref b227), (.ref b227), (.ref b210), (.ref b205), (.ref b205)])) rfl (by rw [hml]; rfl) (Steps.refl _) (a := b227) (argsL := []) (rest := [(.ref b227), (.ref b210), (.ref b205), (.ref b205)]) (lenOf pd_0 rfl) rfl (by show 2 * 0 + _ ≤ _; exact Nat.le_of_eq rfl) (hb hby at_39) (fun _ _ => ⟨rfl, e227, (by decide : 4 + 1 ≤ _), (by decide : 14 + 8 ≤ _)⟩)
      dsimp only [Pt.U, Pt.locs, Pt.cells, Pt.slots] at X244 l244 y244 z244 st244 hQ244
      subst y244 z244
      obtain ⟨mp244, rfl, N244q, K244q, ⟨ge_mp244, sz244_mp244⟩, r244_0, r244_1, r244_2, r244_3, r244_4, r244_5, r244_6⟩ := hQ244
      have N244 : Fr n0 L244 := by rw [l244]; exact Fr.app N218 N244q
      have ne245 : b205 ≠ mp244 := Nat.ne_of_lt (Nat.lt_of_lt_of_le f231.lt sz244_mp244)
      have ne246 : b210 ≠ mp244 := Nat.ne_of_lt (Nat.lt_of_lt_of_le f236.lt sz244_mp244)
      have ne247 : b227 ≠ mp244 := Nat.ne_of_lt (Nat.lt_of_lt_of_le A227.lt sz244_mp244)
      have ne248 : mp218 ≠ mp244 := Nat.ne_of_lt (Nat.lt_of_lt_of_le f238.lt sz244_mp244)
      have f249 := f231.keep K244q
      have f250 := f232.keep K244q (ninS ne228 nin0)
      have f251 := f233.keep K244q (ninS ne228 nin0)
      have f252 := f234.keep K244q (ninS ne228 nin0)
      have f253 := f235.keep K244q (ninS ne228 nin0)
      have f254 := f236.keep K244q
      have f255 := f237.keep K244q (ninS ne229 nin0)
      have f256 := f238.keep K244q
      have f257 := f239.keep K244q (ninS ne230 nin0)
      have f258 := f240.keep K244q (ninS ne230 nin0)
      have f259 := f241.keep K244q (ninS ne230 nin0)
      have f260 := f242.keep K244q (ninS ne230 nin0)
      have f261 := A227.keep K244q
      have sz_mp244 : h0.size ≤ mp244 := Nat.le_trans K227.1 sz244_mp244
      have K244 : Keep h0 T244.heap [] := K227.trans K244q (allS (Or.inr sz_b227) all0)
      have O244 := O227.keep K244q (allS ge_b227 all0)
      refine stt st244 ?_
      show Go p e below T244 (mkF m 42 #[.val (.int p0), .val (.int (1 : Int32)), .val (.int (1 : Int32)), .unset, .unset, .unset, .unset, .unset] [(.ref b227), (.ref b210), (.ref b205), (.ref b205)]) _
      refine stp (fun _ => XS.iloadN X244.here hx rfl (hb hby at_42) rfl) ?_
      show Go p e below T244 (mkF m 43 #[.val (.int p0), .val (.int (1 : Int32)), .val (.int (1 : Int32)), .unset, .unset, .unset, .unset, .unset] [(.int (1 : Int32)), (.ref b227), (.ref b210), (.ref b205), (.ref b205)]) _
      refine stp (fun _ => XS.iloadN X244.here hx rfl (hb hby at_43) rfl) ?_
      show Go p e below T244 (mkF m 44 #[.val (.int p0), .val (.int (1 : Int32)), .val (.int (1 : Int32)), .unset, .unset, .unset, .unset, .unset] [(.int (1 : Int32)), (.int (1 : Int32)), (.ref b227), (.ref b210), (.ref b205), (.ref b205)]) _
      obtain ⟨_, _, ⟨T262, L262, k262, n262⟩, -, X262, ⟨Lc262, hQ262, l262, y262, z262⟩, st262⟩ := X244.specialBack hx (y := (⟨"com/example/revlint/revlint/model/Library$Supertypes", "<init>", "(Ljava/util/Set;Ljava/util/Set;ZZ)V"⟩ : MethodName)) rfl hown (mvT hZ (hw _ (List.mem_of_getElem? (i := 43) rfl))) (mvT hZ (hw _ (List.mem_of_getElem? (i := 44) rfl))) (mvT hZ (hw _ (List.mem_of_getElem? (i := 45) rfl))) (by decide) (backOf (W := 1) (rm_su11 l Z a0 hw [] b205 b210 b227 mA mS mp218 mp244 T244.heap n0 O244 f249 f250 f251 f252 f253 f254 f255 f256 f257 f258 f259 f260 r244_0 r244_1 r244_2 r244_3 r244_4 r244_5 r244_6 S_AD ge_b205 ge_mp218 ge_mp244 ne248 (Ne.symm ne220) ne230 (Ne.symm ne219) (Ne.symm ne246) (Ne.symm ne247) (Ne.symm ne245) (Ne.symm ne211) (Ne.symm ne228) hmA hmS) hZ (hw _ (List.mem_of_getElem? (i := 45) rfl)) (hw _ (List.mem_of_getElem? (i := 2) rfl)) (by decide) (by decide)) (g := (mkF m 44 #[.val (.int p0), .val (.int (1 : Int32)), .val (.int (1 : Int32)), .unset, .unset, .unset, .unset, .unset] [(.int (1 : Int32)), (.int (1 : Int32)), (.ref b227), (.ref b210), (.ref b205), (.ref b205)])) rfl (by rw [hml]; rfl) (Steps.refl _) (a := b205) (argsL := [(.ref b210), (.ref b227), (.int (1 : Int32)), (.int (1 : Int32))]) (rest := [(.ref b205)]) (lenOf pd_17 rfl) rfl (by show 2 * 0 + _ ≤ _; exact Nat.le_of_eq rfl) (hb hby at_44) (fun _ _ => ⟨rfl, rfl, (by decide : 5 + 10 ≤ _), (by decide : 22 + 32 ≤ _)⟩)
      dsimp only [Pt.U, Pt.locs, Pt.cells, Pt.slots] at X262 l262 y262 z262 st262 hQ262
      subst y262 z262
      obtain ⟨rfl, N262q, K262q, r262_0, r262_1, r262_2⟩ := hQ262
      have N262 : Fr n0 L262 := by rw [l262]; exact Fr.app N244 N262q
      have f263 := f249.keep K262q
      have f264 := f254.keep K262q
      have f265 := f255.keep K262q (ninS (Ne.symm ne211) (ninS ne220 (ninS ne246 nin0)))
      have f266 := f256.keep K262q
      have f267 := r244_0.keep K262q
      have f268 := r244_1.keep K262q (ninS (Ne.symm ne228) (ninS (Ne.symm ne230) (ninS ne247 nin0)))
      have f269 := r244_2.keep K262q
      have K262 : Keep h0 T262.heap [] := K244.trans K262q (allS (Or.inr sz_b205) (allS (Or.inr sz_mp218) (allS (Or.inr sz_mp244) all0)))
      have O262 := O244.keep K262q (allS ge_b205 (allS ge_mp218 (allS ge_mp244 all0)))
      refine stt st262 ?_
      show Go p e below T262 (mkF m 47 #[.val (.int p0), .val (.int (1 : Int32)), .val (.int (1 : Int32)), .unset, .unset, .unset, .unset, .unset] [(.ref b205)]) _
      refine stp (fun _ => XS.astoreN X262.here hx rfl (hb hby at_47) rfl rfl (l' := #[.val (.int p0), .val (.int (1 : Int32)), .val (.int (1 : Int32)), .val (.ref b205), .unset, .unset, .unset, .unset]) rfl) ?_
      show Go p e below T262 (mkF m 48 #[.val (.int p0), .val (.int (1 : Int32)), .val (.int (1 : Int32)), .val (.ref b205), .unset, .unset, .unset, .unset] []) _
      refine stp (fun _ => XS.aloadN X262.here hx rfl (hb hby at_48) rfl rfl) ?_
      show Go p e below T262 (mkF m 49 #[.val (.int p0), .val (.int (1 : Int32)), .val (.int (1 : Int32)), .val (.ref b205), .unset, .unset, .unset, .unset] [(.ref b205)]) _
      refine stp (fun _ => XS.iconst X262.here hx rfl (hb hby at_49)) ?_
      show Go p e below T262 (mkF m 50 #[.val (.int p0), .val (.int (1 : Int32)), .val (.int (1 : Int32)), .val (.ref b205), .unset, .unset, .unset, .unset] [(.int (0 : Int32)), (.ref b205)]) _
      obtain ⟨cq270, kq270, q270a, q270b, q270c⟩ := isOf hZ rfl r262_0
      obtain ⟨_, _, ⟨T270, L270, k270, n270⟩, -, X270, ⟨Lc270, hQ270, l270, y270, z270⟩, st270⟩ := X262.virtualBack hx (y := (⟨"com/example/revlint/revlint/model/Library$Supertypes", "mayHaveUnnamed", "(Z)Z"⟩ : MethodName)) (z := (⟨"com/example/revlint/revlint/model/Library$Supertypes", "mayHaveUnnamed", "(Z)Z"⟩ : MethodName)) hown (mvT hZ (hw _ (List.mem_of_getElem? (i := 250) rfl))) (mvT hZ (hw _ (List.mem_of_getElem? (i := 251) rfl))) (notFace_of_selects (args := #[]) (mvT hZ (hw _ (List.mem_of_getElem? (i := 253) rfl)))) (mvT hZ (hw _ (List.mem_of_getElem? (i := 253) rfl))) (mvT hZ (hw _ (List.mem_of_getElem? (i := 252) rfl))) (by decide) (backOf (W := 0) (rm_mh110 l Z a0 hw [] b205  T262.heap n0 O262 r262_1 r262_2) hZ (hw _ (List.mem_of_getElem? (i := 254) rfl)) (hw _ (List.mem_of_getElem? (i := 2) rfl)) (by decide) (by decide)) q270a q270c (g := (mkF m 50 #[.val (.int p0), .val (.int (1 : Int32)), .val (.int (1 : Int32)), .val (.ref b205), .unset, .unset, .unset, .unset] [(.int (0 : Int32)), (.ref b205)])) rfl (by rw [hml]; rfl) (Steps.refl _) (argsL := [(.int (0 : Int32))]) (rest := []) (lenOf pd_18 rfl) rfl (by show 2 * 0 + _ ≤ _; exact Nat.le_of_eq rfl) (hb hby at_50) (fun _ _ => ⟨rfl, rfl, (by decide : 15 + 0 ≤ _), (by decide : 54 + 0 ≤ _)⟩)
      dsimp only [Pt.U, Pt.locs, Pt.cells, Pt.slots] at X270 l270 y270 z270 st270 hQ270
      subst y270 z270
      obtain ⟨rfl, N270q, e270⟩ := hQ270
      have N270 : Fr n0 L270 := by rw [l270]; exact Fr.app N262 N270q
      refine stt st270 ?_
      show Go p e below T270 (mkF m 53 #[.val (.int p0), .val (.int (1 : Int32)), .val (.int (1 : Int32)), .val (.ref b205), .unset, .unset, .unset, .unset] [(.int (1 : Int32))]) _
      refine stp (fun _ => XS.istore X270.here hx rfl (hb hby at_53) rfl (l' := #[.val (.int p0), .val (.int (1 : Int32)), .val (.int (1 : Int32)), .val (.ref b205), .val (.int (1 : Int32)), .unset, .unset, .unset]) rfl) ?_
      show Go p e below T270 (mkF m 55 #[.val (.int p0), .val (.int (1 : Int32)), .val (.int (1 : Int32)), .val (.ref b205), .val (.int (1 : Int32)), .unset, .unset, .unset] []) _
      refine stp (fun _ => XS.aloadN X270.here hx rfl (hb hby at_55) rfl rfl) ?_
      show Go p e below T270 (mkF m 56 #[.val (.int p0), .val (.int (1 : Int32)), .val (.int (1 : Int32)), .val (.ref b205), .val (.int (1 : Int32)), .unset, .unset, .unset] [(.ref b205)]) _
      refine stp (fun _ => XS.iconst X270.here hx rfl (hb hby at_56)) ?_
      show Go p e below T270 (mkF m 57 #[.val (.int p0), .val (.int (1 : Int32)), .val (.int (1 : Int32)), .val (.ref b205), .val (.int (1 : Int32)), .unset, .unset, .unset] [(.int (1 : Int32)), (.ref b205)]) _
      obtain ⟨cq271, kq271, q271a, q271b, q271c⟩ := isOf hZ e270 r262_0
      obtain ⟨_, _, ⟨T271, L271, k271, n271⟩, -, X271, ⟨Lc271, hQ271, l271, y271, z271⟩, st271⟩ := X270.virtualBack hx (y := (⟨"com/example/revlint/revlint/model/Library$Supertypes", "mayHaveUnnamed", "(Z)Z"⟩ : MethodName)) (z := (⟨"com/example/revlint/revlint/model/Library$Supertypes", "mayHaveUnnamed", "(Z)Z"⟩ : MethodName)) hown (mvT hZ (hw _ (List.mem_of_getElem? (i := 250) rfl))) (mvT hZ (hw _ (List.mem_of_getElem? (i := 251) rfl))) (notFace_of_selects (args := #[]) (mvT hZ (hw _ (List.mem_of_getElem? (i := 253) rfl)))) (mvT hZ (hw _ (List.mem_of_getElem? (i := 253) rfl))) (mvT hZ (hw _ (List.mem_of_getElem? (i := 252) rfl))) (by decide) (backOf (W := 0) (rm_mh111 l Z a0 hw [] b205  T262.heap n0 O262 r262_1 r262_2) hZ (hw _ (List.mem_of_getElem? (i := 254) rfl)) (hw _ (List.mem_of_getElem? (i := 2) rfl)) (by decide) (by decide)) q271a q271c (g := (mkF m 57 #[.val (.int p0), .val (.int (1 : Int32)), .val (.int (1 : Int32)), .val (.ref b205), .val (.int (1 : Int32)), .unset, .unset, .unset] [(.int (1 : Int32)), (.ref b205)])) rfl (by rw [hml]; rfl) (Steps.refl _) (argsL := [(.int (1 : Int32))]) (rest := []) (lenOf pd_18 rfl) rfl (by show 2 * 0 + _ ≤ _; exact Nat.le_of_eq rfl) (hb hby at_57) (fun _ _ => ⟨rfl, e270, (by decide : 15 + 0 ≤ _), (by decide : 54 + 0 ≤ _)⟩)
      dsimp only [Pt.U, Pt.locs, Pt.cells, Pt.slots] at X271 l271 y271 z271 st271 hQ271
      subst y271 z271
      obtain ⟨rfl, N271q, e271⟩ := hQ271
      have N271 : Fr n0 L271 := by rw [l271]; exact Fr.app N270 N271q
      refine stt st271 ?_
      show Go p e below T271 (mkF m 60 #[.val (.int p0), .val (.int (1 : Int32)), .val (.int (1 : Int32)), .val (.ref b205), .val (.int (1 : Int32)), .unset, .unset, .unset] [(.int (1 : Int32))]) _
      refine stp (fun _ => XS.istore X271.here hx rfl (hb hby at_60) rfl (l' := #[.val (.int p0), .val (.int (1 : Int32)), .val (.int (1 : Int32)), .val (.ref b205), .val (.int (1 : Int32)), .val (.int (1 : Int32)), .unset, .unset]) rfl) ?_
      show Go p e below T271 (mkF m 62 #[.val (.int p0), .val (.int (1 : Int32)), .val (.int (1 : Int32)), .val (.ref b205), .val (.int (1 : Int32)), .val (.int (1 : Int32)), .unset, .unset] []) _
      refine stp (fun _ => XS.iloadN X271.here hx rfl (hb hby at_62) rfl) ?_
      show Go p e below T271 (mkF m 63 #[.val (.int p0), .val (.int (1 : Int32)), .val (.int (1 : Int32)), .val (.ref b205), .val (.int (1 : Int32)), .val (.int (1 : Int32)), .unset, .unset] [(.int (1 : Int32))]) _
      refine stp (fun _ => XS.istore X271.here hx rfl (hb hby at_63) rfl (l' := #[.val (.int p0), .val (.int (1 : Int32)), .val (.int (1 : Int32)), .val (.ref b205), .val (.int (1 : Int32)), .val (.int (1 : Int32)), .val (.int (1 : Int32)), .unset]) rfl) ?_
      show Go p e below T271 (mkF m 65 #[.val (.int p0), .val (.int (1 : Int32)), .val (.int (1 : Int32)), .val (.ref b205), .val (.int (1 : Int32)), .val (.int (1 : Int32)), .val (.int (1 : Int32)), .unset] []) _
      refine stp (fun _ => XS.iloadN X271.here hx rfl (hb hby at_65) rfl) ?_
      show Go p e below T271 (mkF m 66 #[.val (.int p0), .val (.int (1 : Int32)), .val (.int (1 : Int32)), .val (.ref b205), .val (.int (1 : Int32)), .val (.int (1 : Int32)), .val (.int (1 : Int32)), .unset] [(.int (1 : Int32))]) _
      refine stp (fun _ => XS.ifNo X271.here hx rfl (hb hby at_66) rfl (by decide)) ?_
      show Go p e below T271 (mkF m 69 #[.val (.int p0), .val (.int (1 : Int32)), .val (.int (1 : Int32)), .val (.ref b205), .val (.int (1 : Int32)), .val (.int (1 : Int32)), .val (.int (1 : Int32)), .unset] []) _
      refine stp (fun _ => XS.iconst X271.here hx rfl (hb hby at_69)) ?_
      show Go p e below T271 (mkF m 70 #[.val (.int p0), .val (.int (1 : Int32)), .val (.int (1 : Int32)), .val (.ref b205), .val (.int (1 : Int32)), .val (.int (1 : Int32)), .val (.int (1 : Int32)), .unset] [(.int (1 : Int32))]) _
      refine stp (fun _ => XS.istore X271.here hx rfl (hb hby at_70) rfl (l' := #[.val (.int p0), .val (.int (1 : Int32)), .val (.int (1 : Int32)), .val (.ref b205), .val (.int (1 : Int32)), .val (.int (1 : Int32)), .val (.int (1 : Int32)), .val (.int (1 : Int32))]) rfl) ?_
      show Go p e below T271 (mkF m 72 #[.val (.int p0), .val (.int (1 : Int32)), .val (.int (1 : Int32)), .val (.ref b205), .val (.int (1 : Int32)), .val (.int (1 : Int32)), .val (.int (1 : Int32)), .val (.int (1 : Int32))] []) _
      refine stp (fun _ => XS.goto X271.here hx rfl (pc0 := 72) (pc' := 88) rfl (hb hby at_72) (by decide) (by decide)) ?_
      show Go p e below T271 (mkF m 88 #[.val (.int p0), .val (.int (1 : Int32)), .val (.int (1 : Int32)), .val (.ref b205), .val (.int (1 : Int32)), .val (.int (1 : Int32)), .val (.int (1 : Int32)), .val (.int (1 : Int32))] []) _
      refine stp (fun _ => XS.iload X271.here hx rfl (hb hby at_88) rfl) ?_
      show Go p e below T271 (mkF m 90 #[.val (.int p0), .val (.int (1 : Int32)), .val (.int (1 : Int32)), .val (.ref b205), .val (.int (1 : Int32)), .val (.int (1 : Int32)), .val (.int (1 : Int32)), .val (.int (1 : Int32))] [(.int (1 : Int32))]) _
      refine stp (fun _ => XS.iload X271.here hx rfl (hb hby at_90) rfl) ?_
      show Go p e below T271 (mkF m 92 #[.val (.int p0), .val (.int (1 : Int32)), .val (.int (1 : Int32)), .val (.ref b205), .val (.int (1 : Int32)), .val (.int (1 : Int32)), .val (.int (1 : Int32)), .val (.int (1 : Int32))] [(.int (1 : Int32)), (.int (1 : Int32))]) _
      refine stp (fun _ => XS.icmpNo X271.here hx rfl (hb hby at_92) rfl (by decide)) ?_
      show Go p e below T271 (mkF m 95 #[.val (.int p0), .val (.int (1 : Int32)), .val (.int (1 : Int32)), .val (.ref b205), .val (.int (1 : Int32)), .val (.int (1 : Int32)), .val (.int (1 : Int32)), .val (.int (1 : Int32))] []) _
      refine stp (fun _ => XS.iload X271.here hx rfl (hb hby at_95) rfl) ?_
      show Go p e below T271 (mkF m 97 #[.val (.int p0), .val (.int (1 : Int32)), .val (.int (1 : Int32)), .val (.ref b205), .val (.int (1 : Int32)), .val (.int (1 : Int32)), .val (.int (1 : Int32)), .val (.int (1 : Int32))] [(.int (1 : Int32))]) _
      refine stp (fun _ => XS.iload X271.here hx rfl (hb hby at_97) rfl) ?_
      show Go p e below T271 (mkF m 99 #[.val (.int p0), .val (.int (1 : Int32)), .val (.int (1 : Int32)), .val (.ref b205), .val (.int (1 : Int32)), .val (.int (1 : Int32)), .val (.int (1 : Int32)), .val (.int (1 : Int32))] [(.int (1 : Int32)), (.int (1 : Int32))]) _
      refine stp (fun _ => XS.icmpNo X271.here hx rfl (hb hby at_99) rfl (by decide)) ?_
      show Go p e below T271 (mkF m 102 #[.val (.int p0), .val (.int (1 : Int32)), .val (.int (1 : Int32)), .val (.ref b205), .val (.int (1 : Int32)), .val (.int (1 : Int32)), .val (.int (1 : Int32)), .val (.int (1 : Int32))] []) _
      refine stp (fun _ => XS.iconst X271.here hx rfl (hb hby at_102)) ?_
      show Go p e below T271 (mkF m 103 #[.val (.int p0), .val (.int (1 : Int32)), .val (.int (1 : Int32)), .val (.ref b205), .val (.int (1 : Int32)), .val (.int (1 : Int32)), .val (.int (1 : Int32)), .val (.int (1 : Int32))] [(.int (1 : Int32))]) _
      refine stp (fun _ => XS.goto X271.here hx rfl (pc0 := 103) (pc' := 107) rfl (hb hby at_103) (by decide) (by decide)) ?_
      show Go p e below T271 (mkF m 107 #[.val (.int p0), .val (.int (1 : Int32)), .val (.int (1 : Int32)), .val (.ref b205), .val (.int (1 : Int32)), .val (.int (1 : Int32)), .val (.int (1 : Int32)), .val (.int (1 : Int32))] [(.int (1 : Int32))]) _
      refine outN X271 hx (t := .boolean) hret (by simp) (hb hby at_107) hlk (by decide) (by decide) ?_
      exact ⟨rfl, N271⟩
set_option maxRecDepth 65536 in
set_option maxHeartbeats 40000000 in
theorem comes_1 {Post : Tables → Env → Array Value → State → Outcome → State → Prop} (hpost : ∀ tb e args s v u, (limb_1_1.after args s (.returned v) u = true ∧ limb_1_2.after args s (.returned v) u = true ∧ True) → FrameEnd s (.returned v) u (Jvm.fieldLocs frame_1_writes args s ++ Jvm.arrayLocs frame_1_arrays args s ++ Jvm.staticLocs frame_1_statics s) 40 192 → Post tb e args s (.returned v) u) :
    ArmFor flags0 classFile x code maxLocals ret World_1 tables_1 room_1 Calls_1 rest_1 Pre_1 Post := by
  intro l hfl _ _ p e ha hc hk s m args below hf hA hF happ hP
  obtain ⟨hcalls, hrest, hpre⟩ := hP
  obtain ⟨-, -, -, hnamed, -, -, -, hat⟩ := (Spec.applies_iff hf).mp happ
  obtain ⟨hg, hn⟩ := and_e (Cond.before_iff.mp (show (Jvm.Cond.and given_1 narrow_1).before args s = true from hpre))
  obtain ⟨g1, g2⟩ := and_e hg
  obtain ⟨w0, rfl⟩ : ∃ w0 : Value, args = #[w0] := by
    have hs : args.size = 1 := by simpa [Cond.value, given_1] using g1
    obtain ⟨L⟩ := args
    match L, hs with
    | [w0], _ => exact ⟨w0, rfl⟩
  have hw := fun d (hd : d ∈ tables_1) => atoms_spec (ws := Jvm.Cond.code x code maxLocals ret :: tables_1) hat d (List.mem_cons_of_mem _ hd)
  have hfit : Fit s := fun {y c} hc i hi => by
    obtain ⟨ha, rfl⟩ := Array.getElem?_eq_some_iff.mp hc
    have q := List.all_eq_true.mp ((Array.all_eq_true_iff_forall_mem.mp hF) _ (Array.getElem_mem ha)) i (List.mem_range.mpr hi)
    simpa [Array.getElem?_eq_getElem hi] using q
  obtain ⟨i0, ei0⟩ := is_v g2
  obtain rfl : w0 = (.int i0) := Option.some.inj ei0
  obtain ⟨hsets, hown0⟩ := atoms_of _ (rest_1_c_eq ▸ (show rest_1_c.before _ s = true from hrest))
  have hr0 := Cond.before_iff.mp hown0
  have S_j__assertionsDisabled := Sta.start (eqint_v (Cond.before_iff.mp (hsets _ (List.mem_of_getElem? (i := 2) rfl)))) (Or.inl (hsets _ (List.mem_of_getElem? (i := 1) rfl)))
  obtain ⟨⟨cA, kA, mA, qA1, qA2, qA3⟩, ⟨cS, kS, mS, qS1, qS2, qS3⟩, -⟩ := hcalls
  obtain ⟨n, o, h1, h2, h3, _, L, rfl, ⟨rfl, N⟩, hq⟩ := rm0 l s _ hw tables_1 i0 mA mS s.heap s.heap.size (Old.start s) S_j__assertionsDisabled ⟨cA, kA, qA1, qA2, qA3.1⟩ ⟨cS, kS, qS1, qS2, qS3.1⟩ p e ha hc hk s m _ below hf ((Spec.applies_iff_loose hf).mp happ).1 ⟨rfl, State.Warmed39.refl s, rfl⟩ trivial
  refine ⟨n, _, h1, h2, h3, hpost _ _ _ _ _ _ ⟨Cond.after_iff.mpr rfl, Cond.after_iff.mpr (eq_i res_at (Term.int_eval (1)) rfl), trivial⟩ ⟨hq.1, hq.2.1, (hq.2.2.sift fun y hy => Or.inr (N y hy)).mono (by decide) (by decide)⟩⟩
theorem main_1_1 : Claimed_1_1 := comes_1 fun _ _ _ _ _ _ h hF => ⟨h.1, hF⟩
theorem main_1_2 : Claimed_1_2 := comes_1 fun _ _ _ _ _ _ h hF => ⟨h.2.1, hF⟩
end Jvm.Pilot.@@N@@
namespace Jvm.Pilot.@@N@@
open Jvm Jvm.ClassFile Sem Op Lib Jvm.Free Jvm.Stand Jvm.Pilot.@@N@@.Jvm.D
/-! MADE BY PROGRAM (witnessworld.py) out of the Statement's table words and the real class files: 37 classes; the members and pool entries that the words name. The judged class is class 1, her method 1. -/
namespace start1
open Jvm.ClassFile
def u (s : String) : CpInfo := .utf8 (stringToUtf16 s)
/-- a pool by its gaps: so many unusable entries, then the entry; so many at the end -/
def gap : Nat → List CpInfo → List CpInfo
  | 0, r => r
  | n + 1, r => .unusable :: gap n r
def poolList (es : List (Nat × CpInfo)) (last : Nat) : List CpInfo := es.foldr (fun e r => gap e.1 (e.2 :: r)) (gap last [])
def pool (es : List (Nat × CpInfo)) (last : Nat) : Array CpInfo := ⟨poolList es last⟩
def fileOf (pool : Array CpInfo) (this : Nat) (attrs : Array Attribute := #[]) (ms : Array MethodInfo := #[]) (fl : Nat := 33) (sup : Nat := 0) (ifs : Array Nat := #[]) (fds : Array FieldInfo := #[]) : ClassFile where
  minorVersion := 0
  majorVersion := 65
  constantPool := pool
  accessFlags := fl
  thisClass := this
  superClass := sup
  interfaces := ifs
  fields := fds
  methods := ms
  attributes := attrs
def plain (name : String) (sup : Option ClassId) : Class where
  name := name
  kind := .ordinary
  loader := none
  accessFlags := 33
  super := sup
  interfaces := #[]
  cf := none
  fields := #[]
  methods := #[]
  instanceTypes := #[]
  staticTypes := #[]
  resolved := #[]
  callSites := []
  init := .initialized
  statics := none
  mirror := none

def pool0 : Array CpInfo := pool [(5, u "<init>"), (0, u "()V"), (1, .class_ 10), (1, u "java/lang/Object"), (0, u "getClass"), (0, u "()Ljava/lang/Class;")] 111

def k0c0 : Code := { maxStack := 0, maxLocals := 1, code := object_method_1_code, exceptionTable := #[], attributes := #[] }
def k0m0 : Method := { name := "<init>", desc := "()V", sig := { parameters := [], returnType := none }, accessFlags := 1, code := some k0c0 }
def k0m1 : Method := { name := "getClass", desc := "()Ljava/lang/Class;", sig := { parameters := [], returnType := some (.object "java/lang/Class") }, accessFlags := 273, code := none }
/-- java/lang/Object -/
def k0 : Class := { plain "java/lang/Object" none with
  accessFlags := 33
  interfaces := #[]
  cf := some (fileOf pool0 8 #[] #[{ accessFlags := 1, nameIndex := 5, descriptorIndex := 6, attributes := #[] }, { accessFlags := 273, nameIndex := 11, descriptorIndex := 12, attributes := #[] }] 33 0 #[] #[])
  fields := #[]
  methods := #[k0m0, k0m1]
  instanceTypes := #[]
  staticTypes := #[]
  resolved := Array.replicate 124 none
  statics := none }

def pool1 : Array CpInfo := pool [(2, .class_ 4), (0, .nameAndType 5 6), (0, u "java/lang/Object"), (0, u "<init>"), (0, u "()V"), (0, .class_ 8), (0, u "com/example/revlint/revlint/model/Library$Supertypes"), (0, .class_ 10), (0, u "java/util/HashSet"), (0, .methodref 9 3), (0, .methodref 7 13), (0, .nameAndType 5 14), (0, u "(Ljava/util/Set;Ljava/util/Set;ZZ)V"), (0, .methodref 7 16), (0, .nameAndType 17 18), (0, u "mayHaveUnnamed"), (0, u "(Z)Z"), (0, .class_ 20), (0, u "com/example/revlint/revlint/model/SupertypesMayHaveUnnamedPinLaw"), (2, u "law"), (0, u "(I)Z")] 7

def k1m0 : Method := { name := "<init>", desc := "()V", sig := { parameters := [], returnType := none }, accessFlags := 1, code := none }
def k1c1 : Code := { maxStack := 6, maxLocals := 8, code := code, exceptionTable := #[], attributes := #[] }
def k1m1 : Method := { name := "law", desc := "(I)Z", sig := { parameters := [.int], returnType := some .boolean }, accessFlags := 9, code := some k1c1 }
/-- com/example/revlint/revlint/model/SupertypesMayHaveUnnamedPinLaw -/
def k1 : Class := { plain "com/example/revlint/revlint/model/SupertypesMayHaveUnnamedPinLaw" (some 0) with
  accessFlags := 49
  interfaces := #[]
  cf := some (fileOf pool1 19 #[] #[{ accessFlags := 1, nameIndex := 5, descriptorIndex := 6, attributes := #[] }, { accessFlags := 9, nameIndex := 23, descriptorIndex := 24, attributes := #[] }] 49 2 #[] #[])
  fields := #[]
  methods := #[k1m0, k1m1]
  instanceTypes := #[]
  staticTypes := #[]
  resolved := Array.replicate 32 none
  statics := none }

def pool2 : Array CpInfo := pool [(1, .methodref 2 3), (0, .class_ 4), (0, .nameAndType 5 6), (0, u "java/lang/Object"), (0, u "<init>"), (0, u "()V"), (0, .class_ 8), (0, u "java/lang/Record")] 13

def k2c0 : Code := { maxStack := 1, maxLocals := 1, code := jdk_30_method_1_code, exceptionTable := #[], attributes := #[] }
def k2m0 : Method := { name := "<init>", desc := "()V", sig := { parameters := [], returnType := none }, accessFlags := 4, code := some k2c0 }
/-- java/lang/Record -/
def k2 : Class := { plain "java/lang/Record" (some 0) with
  accessFlags := 1057
  interfaces := #[]
  cf := some (fileOf pool2 7 #[] #[{ accessFlags := 4, nameIndex := 5, descriptorIndex := 6, attributes := #[] }] 1057 2 #[] #[])
  fields := #[]
  methods := #[k2m0]
  instanceTypes := #[]
  staticTypes := #[]
  resolved := Array.replicate 22 none
  statics := none }

def pool3 : Array CpInfo := pool [(1, .methodref 2 3), (0, .class_ 4), (0, .nameAndType 5 6), (0, u "java/lang/Record"), (0, u "<init>"), (0, u "()V"), (0, .methodref 8 9), (0, .class_ 10), (0, .nameAndType 11 12), (0, u "com/example/revlint/revlint/model/Library"), (0, u "unmodifiableCopy"), (0, u "(Ljava/util/Set;)Ljava/util/Set;"), (0, .fieldref 14 15), (0, .class_ 16), (0, .nameAndType 17 18), (0, u "com/example/revlint/revlint/model/Library$Supertypes"), (0, u "names"), (0, u "Ljava/util/Set;"), (0, .fieldref 14 20), (0, .nameAndType 21 18), (0, u "interfaces"), (0, .fieldref 14 23), (0, .nameAndType 24 25), (0, u "unreadSuperclass"), (0, u "Z"), (0, .fieldref 14 27), (0, .nameAndType 28 25), (0, u "unreadInterface"), (14, u "(Ljava/util/Set;Ljava/util/Set;ZZ)V"), (4, u "mayHaveUnnamed"), (0, u "(Z)Z")] 32

def k3c0 : Code := { maxStack := 2, maxLocals := 5, code := prog_34_method_1_code, exceptionTable := #[], attributes := #[] }
def k3m0 : Method := { name := "<init>", desc := "(Ljava/util/Set;Ljava/util/Set;ZZ)V", sig := { parameters := [(.object "java/util/Set"), (.object "java/util/Set"), .boolean, .boolean], returnType := none }, accessFlags := 1, code := some k3c0 }
def k3c1 : Code := { maxStack := 1, maxLocals := 2, code := prog_34_method_2_code, exceptionTable := #[], attributes := #[] }
def k3m1 : Method := { name := "mayHaveUnnamed", desc := "(Z)Z", sig := { parameters := [.boolean], returnType := some .boolean }, accessFlags := 1, code := some k3c1 }
/-- com/example/revlint/revlint/model/Library$Supertypes -/
def k3 : Class := { plain "com/example/revlint/revlint/model/Library$Supertypes" (some 2) with
  accessFlags := 49
  interfaces := #[]
  cf := some (fileOf pool3 14 #[.nestHost 8] #[{ accessFlags := 1, nameIndex := 5, descriptorIndex := 43, attributes := #[] }, { accessFlags := 1, nameIndex := 48, descriptorIndex := 49, attributes := #[] }] 49 2 #[] #[{ accessFlags := 18, nameIndex := 17, descriptorIndex := 18, attributes := #[] }, { accessFlags := 18, nameIndex := 21, descriptorIndex := 18, attributes := #[] }, { accessFlags := 18, nameIndex := 24, descriptorIndex := 25, attributes := #[] }, { accessFlags := 18, nameIndex := 28, descriptorIndex := 25, attributes := #[] }])
  fields := #[{ name := "names", type := (.object "java/util/Set"), accessFlags := 18, slot := 0, constantValue := 0 }, { name := "interfaces", type := (.object "java/util/Set"), accessFlags := 18, slot := 1, constantValue := 0 }, { name := "unreadSuperclass", type := .boolean, accessFlags := 18, slot := 2, constantValue := 0 }, { name := "unreadInterface", type := .boolean, accessFlags := 18, slot := 3, constantValue := 0 }]
  methods := #[k3m0, k3m1]
  instanceTypes := #[(.object "java/util/Set"), (.object "java/util/Set"), .boolean, .boolean]
  staticTypes := #[]
  resolved := Array.replicate 82 none
  statics := none }

def pool4 : Array CpInfo := pool [(8, .class_ 10), (1, u "java/lang/Iterable"), (24, .class_ 36), (0, u "java/lang/Object")] 25

/-- java/lang/Iterable -/
def k4 : Class := { plain "java/lang/Iterable" (some 0) with
  accessFlags := 1537
  interfaces := #[]
  cf := some (fileOf pool4 8 #[] #[] 1537 35 #[] #[])
  fields := #[]
  methods := #[]
  instanceTypes := #[]
  staticTypes := #[]
  resolved := Array.replicate 62 none
  statics := none }

def pool5 : Array CpInfo := pool [(10, .class_ 12), (1, u "java/util/Collection"), (10, u "iterator"), (0, u "()Ljava/util/Iterator;"), (35, .class_ 61), (0, u "java/lang/Object"), (0, .class_ 63), (0, u "java/lang/Iterable"), (0, u "size"), (0, u "()I")] 49

def k5m0 : Method := { name := "size", desc := "()I", sig := { parameters := [], returnType := some .int }, accessFlags := 1025, code := none }
def k5m1 : Method := { name := "iterator", desc := "()Ljava/util/Iterator;", sig := { parameters := [], returnType := some (.object "java/util/Iterator") }, accessFlags := 1025, code := none }
/-- java/util/Collection -/
def k5 : Class := { plain "java/util/Collection" (some 0) with
  accessFlags := 1537
  interfaces := #[4]
  cf := some (fileOf pool5 10 #[] #[{ accessFlags := 1025, nameIndex := 64, descriptorIndex := 65, attributes := #[] }, { accessFlags := 1025, nameIndex := 23, descriptorIndex := 24, attributes := #[] }] 1537 60 #[62] #[])
  fields := #[]
  methods := #[k5m0, k5m1]
  instanceTypes := #[]
  staticTypes := #[]
  resolved := Array.replicate 115 none
  statics := none }

def pool6 : Array CpInfo := pool [(1, .methodref 2 3), (0, .class_ 4), (0, .nameAndType 5 6), (0, u "java/lang/Object"), (0, u "<init>"), (0, u "()V"), (1, .class_ 10), (1, u "java/util/AbstractCollection"), (3, .nameAndType 15 16), (0, u "iterator"), (0, u "()Ljava/util/Iterator;"), (0, .interfaceMethodref 18 19), (0, .class_ 20), (0, .nameAndType 21 22), (0, u "java/util/Iterator"), (0, u "hasNext"), (0, u "()Z"), (53, .interfaceMethodref 77 14), (0, .class_ 78), (0, u "java/util/Collection"), (63, u "(Ljava/util/Collection;)Z"), (4, u "addAll")] 12

def k6c0 : Code := { maxStack := 1, maxLocals := 1, code := jdk_22_method_1_code, exceptionTable := #[], attributes := #[] }
def k6m0 : Method := { name := "<init>", desc := "()V", sig := { parameters := [], returnType := none }, accessFlags := 4, code := some k6c0 }
def k6c1 : Code := { maxStack := 2, maxLocals := 5, code := jdk_22_method_12_code, exceptionTable := #[], attributes := #[] }
def k6m1 : Method := { name := "addAll", desc := "(Ljava/util/Collection;)Z", sig := { parameters := [(.object "java/util/Collection")], returnType := some .boolean }, accessFlags := 1, code := some k6c1 }
/-- java/util/AbstractCollection -/
def k6 : Class := { plain "java/util/AbstractCollection" (some 0) with
  accessFlags := 1057
  interfaces := #[5]
  cf := some (fileOf pool6 8 #[] #[{ accessFlags := 4, nameIndex := 5, descriptorIndex := 6, attributes := #[] }, { accessFlags := 1, nameIndex := 147, descriptorIndex := 142, attributes := #[] }] 1057 2 #[77] #[])
  fields := #[]
  methods := #[k6m0, k6m1]
  instanceTypes := #[]
  staticTypes := #[]
  resolved := Array.replicate 160 none
  statics := none }

def pool7 : Array CpInfo := pool [(26, .class_ 27), (0, u "java/lang/Object"), (5, .class_ 34), (0, u "java/util/Set"), (1, .class_ 38), (1, u "java/util/Collection"), (22, u "iterator"), (0, u "()Ljava/util/Iterator;")] 81

def k7m0 : Method := { name := "iterator", desc := "()Ljava/util/Iterator;", sig := { parameters := [], returnType := some (.object "java/util/Iterator") }, accessFlags := 1025, code := none }
/-- java/util/Set -/
def k7 : Class := { plain "java/util/Set" (some 0) with
  accessFlags := 1537
  interfaces := #[5]
  cf := some (fileOf pool7 33 #[] #[{ accessFlags := 1025, nameIndex := 61, descriptorIndex := 62, attributes := #[] }] 1537 26 #[36] #[])
  fields := #[]
  methods := #[k7m0]
  instanceTypes := #[]
  staticTypes := #[]
  resolved := Array.replicate 144 none
  statics := none }

def pool8 : Array CpInfo := pool [(1, .methodref 2 3), (0, .class_ 4), (0, .nameAndType 5 6), (0, u "java/util/AbstractCollection"), (0, u "<init>"), (0, u "()V"), (0, .class_ 8), (0, u "java/util/Set"), (7, .class_ 17), (0, u "java/util/AbstractSet")] 78

def k8c0 : Code := { maxStack := 1, maxLocals := 1, code := jdk_91_method_1_code, exceptionTable := #[], attributes := #[] }
def k8m0 : Method := { name := "<init>", desc := "()V", sig := { parameters := [], returnType := none }, accessFlags := 4, code := some k8c0 }
/-- java/util/AbstractSet -/
def k8 : Class := { plain "java/util/AbstractSet" (some 6) with
  accessFlags := 1057
  interfaces := #[7]
  cf := some (fileOf pool8 16 #[] #[{ accessFlags := 4, nameIndex := 5, descriptorIndex := 6, attributes := #[] }] 1057 2 #[7] #[])
  fields := #[]
  methods := #[k8m0]
  instanceTypes := #[]
  staticTypes := #[]
  resolved := Array.replicate 96 none
  statics := none }

def pool9 : Array CpInfo := pool [(1, .class_ 2), (0, u "java/lang/Cloneable"), (0, .class_ 4), (0, u "java/lang/Object")] 2

/-- java/lang/Cloneable -/
def k9 : Class := { plain "java/lang/Cloneable" (some 0) with
  accessFlags := 1537
  interfaces := #[]
  cf := some (fileOf pool9 1 #[] #[] 1537 3 #[] #[])
  fields := #[]
  methods := #[]
  instanceTypes := #[]
  staticTypes := #[]
  resolved := Array.replicate 7 none
  statics := none }

def pool10 : Array CpInfo := pool [(1, .class_ 2), (0, u "java/io/Serializable"), (0, .class_ 4), (0, u "java/lang/Object")] 2

/-- java/io/Serializable -/
def k10 : Class := { plain "java/io/Serializable" (some 0) with
  accessFlags := 1537
  interfaces := #[]
  cf := some (fileOf pool10 1 #[] #[] 1537 3 #[] #[])
  fields := #[]
  methods := #[]
  instanceTypes := #[]
  staticTypes := #[]
  resolved := Array.replicate 7 none
  statics := none }

def pool11 : Array CpInfo := pool [(1, .methodref 2 3), (0, .class_ 4), (0, .nameAndType 5 6), (0, u "java/util/AbstractSet"), (0, u "<init>"), (0, u "()V"), (0, .class_ 8), (0, u "java/util/HashMap"), (0, .methodref 7 3), (0, .fieldref 11 12), (0, .class_ 13), (0, .nameAndType 14 15), (0, u "java/util/HashSet"), (0, u "map"), (0, u "Ljava/util/HashMap;"), (0, .interfaceMethodref 17 18), (0, .class_ 19), (0, .nameAndType 20 21), (0, u "java/util/Collection"), (0, u "size"), (0, u "()I"), (0, .methodref 23 24), (0, .class_ 25), (0, .nameAndType 26 27), (0, u "java/lang/Math"), (0, u "max"), (0, u "(II)I"), (0, .methodref 7 29), (0, .nameAndType 30 31), (0, u "newHashMap"), (0, u "(I)Ljava/util/HashMap;"), (0, .methodref 11 33), (0, .nameAndType 34 35), (0, u "addAll"), (0, u "(Ljava/util/Collection;)Z"), (9, .methodref 7 46), (0, .nameAndType 47 48), (0, u "keySet"), (0, u "()Ljava/util/Set;"), (0, .interfaceMethodref 50 51), (0, .class_ 52), (0, .nameAndType 53 54), (0, u "java/util/Set"), (0, u "iterator"), (0, u "()Ljava/util/Iterator;"), (0, .methodref 7 18), (10, u "PRESENT"), (0, u "Ljava/lang/Object;"), (158, .class_ 227), (0, u "java/lang/Cloneable"), (0, .class_ 229), (0, u "java/io/Serializable"), (0, u "serialVersionUID"), (0, u "J"), (12, u "(Ljava/util/Collection;)V")] 58

def k11c0 : Code := { maxStack := 3, maxLocals := 1, code := jdk_93_method_1_code, exceptionTable := #[], attributes := #[] }
def k11m0 : Method := { name := "<init>", desc := "()V", sig := { parameters := [], returnType := none }, accessFlags := 1, code := some k11c0 }
def k11c1 : Code := { maxStack := 3, maxLocals := 2, code := jdk_93_method_2_code, exceptionTable := #[], attributes := #[] }
def k11m1 : Method := { name := "<init>", desc := "(Ljava/util/Collection;)V", sig := { parameters := [(.object "java/util/Collection")], returnType := none }, accessFlags := 1, code := some k11c1 }
def k11c2 : Code := { maxStack := 1, maxLocals := 1, code := jdk_93_method_6_code, exceptionTable := #[], attributes := #[] }
def k11m2 : Method := { name := "iterator", desc := "()Ljava/util/Iterator;", sig := { parameters := [], returnType := some (.object "java/util/Iterator") }, accessFlags := 1, code := some k11c2 }
def k11c3 : Code := { maxStack := 1, maxLocals := 1, code := jdk_93_method_7_code, exceptionTable := #[], attributes := #[] }
def k11m3 : Method := { name := "size", desc := "()I", sig := { parameters := [], returnType := some .int }, accessFlags := 1, code := some k11c3 }
/-- java/util/HashSet -/
def k11 : Class := { plain "java/util/HashSet" (some 8) with
  accessFlags := 33
  interfaces := #[7, 9, 10]
  cf := some (fileOf pool11 11 #[] #[{ accessFlags := 1, nameIndex := 5, descriptorIndex := 6, attributes := #[] }, { accessFlags := 1, nameIndex := 5, descriptorIndex := 244, attributes := #[] }, { accessFlags := 1, nameIndex := 53, descriptorIndex := 54, attributes := #[] }, { accessFlags := 1, nameIndex := 20, descriptorIndex := 21, attributes := #[] }] 33 2 #[50, 226, 228] #[{ accessFlags := 24, nameIndex := 230, descriptorIndex := 231, attributes := #[] }, { accessFlags := 128, nameIndex := 14, descriptorIndex := 15, attributes := #[] }, { accessFlags := 24, nameIndex := 66, descriptorIndex := 67, attributes := #[] }])
  fields := #[{ name := "serialVersionUID", type := .long, accessFlags := 24, slot := 0, constantValue := 0 }, { name := "map", type := (.object "java/util/HashMap"), accessFlags := 128, slot := 0, constantValue := 0 }, { name := "PRESENT", type := (.object "java/lang/Object"), accessFlags := 24, slot := 1, constantValue := 0 }]
  methods := #[k11m0, k11m1, k11m2, k11m3]
  instanceTypes := #[(.object "java/util/HashMap")]
  staticTypes := #[.long, (.object "java/lang/Object")]
  resolved := Array.replicate 303 none
  mirror := some 1
  statics := none }

def pool12 : Array CpInfo := pool [(2, .class_ 4), (1, u "java/util/Map"), (31, .class_ 37), (0, u "java/util/Map$Entry"), (55, .class_ 94), (0, u "java/lang/Object")] 168

/-- java/util/Map -/
def k12 : Class := { plain "java/util/Map" (some 0) with
  accessFlags := 1537
  interfaces := #[]
  cf := some (fileOf pool12 2 #[.nestMembers #[36]] #[] 1537 93 #[] #[])
  fields := #[]
  methods := #[]
  instanceTypes := #[]
  staticTypes := #[]
  resolved := Array.replicate 263 none
  statics := none }

def pool13 : Array CpInfo := pool [(1, .methodref 2 3), (0, .class_ 4), (0, .nameAndType 5 6), (0, u "java/lang/Object"), (0, u "<init>"), (0, u "()V"), (1, .class_ 10), (1, u "java/util/AbstractMap"), (42, .class_ 54), (0, u "java/util/Map"), (9, u "keySet"), (0, u "Ljava/util/Set;"), (0, .class_ 67), (0, u "java/util/AbstractMap$1"), (5, u "values"), (0, u "Ljava/util/Collection;"), (0, .class_ 76), (0, u "java/util/AbstractMap$2"), (104, .class_ 182), (0, u "java/util/AbstractMap$ViewCollection"), (0, .class_ 184), (0, u "java/util/AbstractMap$SimpleImmutableEntry"), (0, .class_ 186), (0, u "java/util/AbstractMap$SimpleEntry"), (0, .class_ 188), (0, u "java/util/AbstractMap$2$1"), (0, .class_ 190), (0, u "java/util/AbstractMap$1$1")] 5

def k13c0 : Code := { maxStack := 1, maxLocals := 1, code := jdk_71_method_1_code, exceptionTable := #[], attributes := #[] }
def k13m0 : Method := { name := "<init>", desc := "()V", sig := { parameters := [], returnType := none }, accessFlags := 4, code := some k13c0 }
/-- java/util/AbstractMap -/
def k13 : Class := { plain "java/util/AbstractMap" (some 0) with
  accessFlags := 1057
  interfaces := #[12]
  cf := some (fileOf pool13 8 #[.nestMembers #[181, 183, 185, 75, 187, 66, 189]] #[{ accessFlags := 4, nameIndex := 5, descriptorIndex := 6, attributes := #[] }] 1057 2 #[53] #[{ accessFlags := 128, nameIndex := 64, descriptorIndex := 65, attributes := #[] }, { accessFlags := 128, nameIndex := 73, descriptorIndex := 74, attributes := #[] }])
  fields := #[{ name := "keySet", type := (.object "java/util/Set"), accessFlags := 128, slot := 0, constantValue := 0 }, { name := "values", type := (.object "java/util/Collection"), accessFlags := 128, slot := 1, constantValue := 0 }]
  methods := #[k13m0]
  instanceTypes := #[(.object "java/util/Set"), (.object "java/util/Collection")]
  staticTypes := #[]
  resolved := Array.replicate 196 none
  statics := none }

def pool14 : Array CpInfo := pool [(6, u "()I"), (27, .methodref 35 36), (0, .class_ 37), (0, .nameAndType 38 39), (0, u "java/lang/Integer"), (0, u "numberOfLeadingZeros"), (0, u "(I)I"), (0, .class_ 41), (0, u "java/util/HashMap"), (0, .integer 1073741824), (0, .methodref 44 45), (0, .class_ 46), (0, .nameAndType 47 48), (0, u "java/util/AbstractMap"), (0, u "<init>"), (0, u "()V"), (21, .methodref 71 72), (0, .class_ 73), (0, .nameAndType 74 75), (0, u "java/lang/Float"), (0, u "isNaN"), (0, u "(F)Z"), (5, .fieldref 40 82), (0, .nameAndType 83 84), (0, u "loadFactor"), (0, u "F"), (0, .methodref 40 86), (0, .nameAndType 87 39), (0, u "tableSizeFor"), (0, .fieldref 40 89), (0, .nameAndType 90 91), (0, u "threshold"), (0, u "I"), (0, .float 1061158912), (0, .methodref 40 94), (0, .nameAndType 47 95), (0, u "(IF)V"), (5, .class_ 103), (1, u "java/util/Map"), (0, u "size"), (2, u "table"), (0, u "[Ljava/util/HashMap$Node;"), (0, .methodref 110 111), (0, .class_ 112), (0, .nameAndType 113 114), (0, u "java/lang/Math"), (0, u "ceil"), (0, u "(D)D"), (8, u "entrySet"), (0, u "()Ljava/util/Set;"), (31, .fieldref 40 157), (0, .nameAndType 104 91), (5, .class_ 165), (1, u "java/util/HashMap$Node"), (14, .class_ 181), (0, u "java/util/HashMap$TreeNode"), (22, u "modCount"), (34, .fieldref 40 240), (0, .nameAndType 241 242), (0, u "keySet"), (0, u "Ljava/util/Set;"), (0, .class_ 244), (0, u "java/util/HashMap$KeySet"), (0, .methodref 243 246), (0, .nameAndType 47 247), (0, u "(Ljava/util/HashMap;)V"), (15, .class_ 264), (0, u "java/util/HashMap$Values"), (3, .class_ 269), (0, u "java/util/HashMap$EntrySet"), (48, u "(I)V"), (27, .class_ 348), (1, u "java/util/HashMap$UnsafeHolder"), (34, .double 4604930618986332160), (3, .methodref 40 388), (0, .nameAndType 389 39), (0, u "calculateHashMapCapacity"), (0, .methodref 40 391), (0, .nameAndType 47 318), (0, .class_ 393), (0, u "java/lang/Cloneable"), (0, .class_ 395), (0, u "java/io/Serializable"), (0, u "serialVersionUID"), (0, u "J"), (3, u "DEFAULT_INITIAL_CAPACITY"), (1, u "MAXIMUM_CAPACITY"), (0, u "DEFAULT_LOAD_FACTOR"), (0, u "TREEIFY_THRESHOLD"), (1, u "UNTREEIFY_THRESHOLD"), (1, u "MIN_TREEIFY_CAPACITY"), (179, u "newHashMap"), (0, u "(I)Ljava/util/HashMap;"), (5, .class_ 597), (0, u "java/util/HashMap$EntrySpliterator"), (0, .class_ 599), (0, u "java/util/HashMap$ValueSpliterator"), (0, .class_ 601), (0, u "java/util/HashMap$KeySpliterator"), (0, .class_ 603), (0, u "java/util/HashMap$HashMapSpliterator"), (0, .class_ 605), (0, u "java/util/HashMap$EntryIterator"), (0, .class_ 607), (0, u "java/util/HashMap$ValueIterator"), (0, .class_ 609), (0, u "java/util/HashMap$KeyIterator"), (0, .class_ 611), (0, u "java/util/HashMap$HashIterator")] 17

def k14c0 : Code := { maxStack := 3, maxLocals := 2, code := jdk_69_method_4_code, exceptionTable := #[], attributes := #[] }
def k14m0 : Method := { name := "tableSizeFor", desc := "(I)I", sig := { parameters := [.int], returnType := some .int }, accessFlags := 24, code := some k14c0 }
def k14c1 : Code := { maxStack := 4, maxLocals := 3, code := jdk_69_method_5_code, exceptionTable := #[], attributes := #[] }
def k14m1 : Method := { name := "<init>", desc := "(IF)V", sig := { parameters := [.int, .float], returnType := none }, accessFlags := 1, code := some k14c1 }
def k14c2 : Code := { maxStack := 3, maxLocals := 2, code := jdk_69_method_6_code, exceptionTable := #[], attributes := #[] }
def k14m2 : Method := { name := "<init>", desc := "(I)V", sig := { parameters := [.int], returnType := none }, accessFlags := 1, code := some k14c2 }
def k14c3 : Code := { maxStack := 2, maxLocals := 1, code := jdk_69_method_7_code, exceptionTable := #[], attributes := #[] }
def k14m3 : Method := { name := "<init>", desc := "()V", sig := { parameters := [], returnType := none }, accessFlags := 1, code := some k14c3 }
def k14c4 : Code := { maxStack := 1, maxLocals := 1, code := jdk_69_method_10_code, exceptionTable := #[], attributes := #[] }
def k14m4 : Method := { name := "size", desc := "()I", sig := { parameters := [], returnType := some .int }, accessFlags := 1, code := some k14c4 }
def k14c5 : Code := { maxStack := 3, maxLocals := 2, code := jdk_69_method_24_code, exceptionTable := #[], attributes := #[] }
def k14m5 : Method := { name := "keySet", desc := "()Ljava/util/Set;", sig := { parameters := [], returnType := some (.object "java/util/Set") }, accessFlags := 1, code := some k14c5 }
def k14c6 : Code := { maxStack := 4, maxLocals := 1, code := jdk_69_method_55_code, exceptionTable := #[], attributes := #[] }
def k14m6 : Method := { name := "calculateHashMapCapacity", desc := "(I)I", sig := { parameters := [.int], returnType := some .int }, accessFlags := 8, code := some k14c6 }
def k14c7 : Code := { maxStack := 4, maxLocals := 1, code := jdk_69_method_56_code, exceptionTable := #[], attributes := #[] }
def k14m7 : Method := { name := "newHashMap", desc := "(I)Ljava/util/HashMap;", sig := { parameters := [.int], returnType := some (.object "java/util/HashMap") }, accessFlags := 9, code := some k14c7 }
/-- java/util/HashMap -/
def k14 : Class := { plain "java/util/HashMap" (some 13) with
  accessFlags := 33
  interfaces := #[12, 9, 10]
  cf := some (fileOf pool14 40 #[.nestMembers #[180, 596, 598, 600, 602, 604, 606, 608, 610, 346, 268, 263, 243, 163]] #[{ accessFlags := 24, nameIndex := 87, descriptorIndex := 39, attributes := #[] }, { accessFlags := 1, nameIndex := 47, descriptorIndex := 95, attributes := #[] }, { accessFlags := 1, nameIndex := 47, descriptorIndex := 318, attributes := #[] }, { accessFlags := 1, nameIndex := 47, descriptorIndex := 48, attributes := #[] }, { accessFlags := 1, nameIndex := 104, descriptorIndex := 6, attributes := #[] }, { accessFlags := 1, nameIndex := 241, descriptorIndex := 124, attributes := #[] }, { accessFlags := 8, nameIndex := 389, descriptorIndex := 39, attributes := #[] }, { accessFlags := 9, nameIndex := 589, descriptorIndex := 590, attributes := #[] }] 33 44 #[101, 392, 394] #[{ accessFlags := 26, nameIndex := 396, descriptorIndex := 397, attributes := #[] }, { accessFlags := 24, nameIndex := 401, descriptorIndex := 91, attributes := #[] }, { accessFlags := 24, nameIndex := 403, descriptorIndex := 91, attributes := #[] }, { accessFlags := 24, nameIndex := 404, descriptorIndex := 84, attributes := #[] }, { accessFlags := 24, nameIndex := 405, descriptorIndex := 91, attributes := #[] }, { accessFlags := 24, nameIndex := 407, descriptorIndex := 91, attributes := #[] }, { accessFlags := 24, nameIndex := 409, descriptorIndex := 91, attributes := #[] }, { accessFlags := 128, nameIndex := 107, descriptorIndex := 108, attributes := #[] }, { accessFlags := 128, nameIndex := 123, descriptorIndex := 242, attributes := #[] }, { accessFlags := 128, nameIndex := 104, descriptorIndex := 91, attributes := #[] }, { accessFlags := 128, nameIndex := 204, descriptorIndex := 91, attributes := #[] }, { accessFlags := 0, nameIndex := 90, descriptorIndex := 91, attributes := #[] }, { accessFlags := 16, nameIndex := 83, descriptorIndex := 84, attributes := #[] }])
  fields := #[{ name := "serialVersionUID", type := .long, accessFlags := 26, slot := 0, constantValue := 0 }, { name := "DEFAULT_INITIAL_CAPACITY", type := .int, accessFlags := 24, slot := 1, constantValue := 0 }, { name := "MAXIMUM_CAPACITY", type := .int, accessFlags := 24, slot := 2, constantValue := 0 }, { name := "DEFAULT_LOAD_FACTOR", type := .float, accessFlags := 24, slot := 3, constantValue := 0 }, { name := "TREEIFY_THRESHOLD", type := .int, accessFlags := 24, slot := 4, constantValue := 0 }, { name := "UNTREEIFY_THRESHOLD", type := .int, accessFlags := 24, slot := 5, constantValue := 0 }, { name := "MIN_TREEIFY_CAPACITY", type := .int, accessFlags := 24, slot := 6, constantValue := 0 }, { name := "table", type := (.array (.object "java/util/HashMap$Node")), accessFlags := 128, slot := 2, constantValue := 0 }, { name := "entrySet", type := (.object "java/util/Set"), accessFlags := 128, slot := 3, constantValue := 0 }, { name := "size", type := .int, accessFlags := 128, slot := 4, constantValue := 0 }, { name := "modCount", type := .int, accessFlags := 128, slot := 5, constantValue := 0 }, { name := "threshold", type := .int, accessFlags := 0, slot := 6, constantValue := 0 }, { name := "loadFactor", type := .float, accessFlags := 16, slot := 7, constantValue := 0 }]
  methods := #[k14m0, k14m1, k14m2, k14m3, k14m4, k14m5, k14m6, k14m7]
  instanceTypes := #[(.object "java/util/Set"), (.object "java/util/Collection"), (.array (.object "java/util/HashMap$Node")), (.object "java/util/Set"), .int, .int, .int, .float]
  staticTypes := #[.long, .int, .int, .float, .int, .int, .int]
  resolved := Array.replicate 629 none
  statics := none }

def pool15 : Array CpInfo := pool [(2, .class_ 4), (1, u "java/lang/Object"), (0, u "<init>"), (5, .class_ 13), (1, u "com/example/revlint/revlint/model/Library"), (0, u "ancestries"), (0, u "Ljava/util/Map;"), (2, u "functionalMethods"), (2, u "genericPlaces"), (6, .class_ 30), (1, u "java/util/Collections"), (4, u "types"), (2, u "platformTypes"), (0, .class_ 40), (0, u "java/util/HashSet"), (0, .methodref 39 42), (0, .nameAndType 5 43), (0, u "(Ljava/util/Collection;)V"), (0, .methodref 28 45), (0, .nameAndType 46 47), (0, u "unmodifiableSet"), (0, u "(Ljava/util/Set;)Ljava/util/Set;"), (63, u "naming"), (2, .class_ 116), (1, u "com/example/revlint/revlint/model/Library$Naming"), (142, .class_ 261), (1, u "com/example/revlint/revlint/model/Library$Supertypes"), (22, u "Lcom/example/revlint/revlint/model/Library$Naming;"), (54, .class_ 340), (0, u "com/example/revlint/revlint/model/Library$Reach"), (8, .class_ 350), (0, u "com/example/revlint/revlint/model/Library$Resolved"), (73, .class_ 425), (0, u "com/example/revlint/revlint/model/Library$Declarations"), (50, .class_ 478), (1, u "com/example/revlint/revlint/model/Library$SupertypeGraph"), (49, u "[I"), (51, .class_ 582), (1, u "com/example/revlint/revlint/model/Library$Ancestry"), (57, .class_ 642), (1, u "com/example/revlint/revlint/model/Library$Inheritance"), (97, u "NO_PLACES"), (2, u "FIRST_PLACE"), (85, u "THROWABLE"), (0, u "Ljava/lang/String;"), (1, u "RUNTIME_EXCEPTION"), (0, u "ERROR"), (9, u "unmodifiableCopy")] 173

def k15c0 : Code := { maxStack := 3, maxLocals := 1, code := prog_26_method_4_code, exceptionTable := #[], attributes := #[] }
def k15m0 : Method := { name := "unmodifiableCopy", desc := "(Ljava/util/Set;)Ljava/util/Set;", sig := { parameters := [(.object "java/util/Set")], returnType := some (.object "java/util/Set") }, accessFlags := 10, code := some k15c0 }
/-- com/example/revlint/revlint/model/Library -/
def k15 : Class := { plain "com/example/revlint/revlint/model/Library" (some 0) with
  accessFlags := 33
  interfaces := #[]
  cf := some (fileOf pool15 11 #[.nestMembers #[640, 476, 114, 580, 259, 339, 424, 349]] #[{ accessFlags := 10, nameIndex := 843, descriptorIndex := 47, attributes := #[] }] 33 2 #[] #[{ accessFlags := 26, nameIndex := 829, descriptorIndex := 830, attributes := #[] }, { accessFlags := 25, nameIndex := 832, descriptorIndex := 830, attributes := #[] }, { accessFlags := 25, nameIndex := 833, descriptorIndex := 830, attributes := #[] }, { accessFlags := 26, nameIndex := 740, descriptorIndex := 528, attributes := #[] }, { accessFlags := 26, nameIndex := 743, descriptorIndex := 528, attributes := #[] }, { accessFlags := 18, nameIndex := 35, descriptorIndex := 15, attributes := #[] }, { accessFlags := 18, nameIndex := 38, descriptorIndex := 15, attributes := #[] }, { accessFlags := 18, nameIndex := 14, descriptorIndex := 15, attributes := #[] }, { accessFlags := 18, nameIndex := 18, descriptorIndex := 15, attributes := #[] }, { accessFlags := 18, nameIndex := 21, descriptorIndex := 15, attributes := #[] }, { accessFlags := 66, nameIndex := 111, descriptorIndex := 284, attributes := #[] }])
  fields := #[{ name := "THROWABLE", type := (.object "java/lang/String"), accessFlags := 26, slot := 0, constantValue := 0 }, { name := "RUNTIME_EXCEPTION", type := (.object "java/lang/String"), accessFlags := 25, slot := 1, constantValue := 0 }, { name := "ERROR", type := (.object "java/lang/String"), accessFlags := 25, slot := 2, constantValue := 0 }, { name := "NO_PLACES", type := (.array .int), accessFlags := 26, slot := 3, constantValue := 0 }, { name := "FIRST_PLACE", type := (.array .int), accessFlags := 26, slot := 4, constantValue := 0 }, { name := "types", type := (.object "java/util/Map"), accessFlags := 18, slot := 0, constantValue := 0 }, { name := "platformTypes", type := (.object "java/util/Map"), accessFlags := 18, slot := 1, constantValue := 0 }, { name := "ancestries", type := (.object "java/util/Map"), accessFlags := 18, slot := 2, constantValue := 0 }, { name := "functionalMethods", type := (.object "java/util/Map"), accessFlags := 18, slot := 3, constantValue := 0 }, { name := "genericPlaces", type := (.object "java/util/Map"), accessFlags := 18, slot := 4, constantValue := 0 }, { name := "naming", type := (.object "com/example/revlint/revlint/model/Library$Naming"), accessFlags := 66, slot := 5, constantValue := 0 }]
  methods := #[k15m0]
  instanceTypes := #[(.object "java/util/Map"), (.object "java/util/Map"), (.object "java/util/Map"), (.object "java/util/Map"), (.object "java/util/Map"), (.object "com/example/revlint/revlint/model/Library$Naming")]
  staticTypes := #[(.object "java/lang/String"), (.object "java/lang/String"), (.object "java/lang/String"), (.array .int), (.array .int)]
  resolved := Array.replicate 1017 none
  statics := none }

def pool16 : Array CpInfo := pool [(1, .class_ 2), (0, u "java/lang/Math"), (1, .class_ 6), (1, u "java/lang/Object"), (0, u "<init>"), (0, u "()V"), (1, .class_ 12), (1, u "java/lang/StrictMath"), (1, u "(D)D"), (38, .methodref 10 54), (0, .nameAndType 55 14), (0, u "ceil"), (23, .methodref 80 81), (0, .class_ 82), (0, .nameAndType 83 84), (0, u "java/lang/Double"), (0, u "doubleToRawLongBits"), (0, u "(D)J"), (2, .long 9218868437227405312), (10, .class_ 100), (1, u "java/lang/Math$RandomNumberGeneratorHolder"), (71, u "negativeZeroFloatBits"), (0, u "J"), (2, u "negativeZeroDoubleBits"), (21, u "max"), (46, u "$assertionsDisabled"), (0, u "Z"), (33, u "getExponent"), (0, u "(D)I"), (40, .long 1023), (12, u "(II)I"), (2, u "twoToTheDoubleScaleDown"), (0, u "D"), (4, u "twoToTheDoubleScaleUp"), (9, u "E"), (3, u "PI"), (2, u "TAU"), (2, u "DEGREES_TO_RADIANS"), (0, u "RADIANS_TO_DEGREES")] 94

def k16m0 : Method := { name := "<init>", desc := "()V", sig := { parameters := [], returnType := none }, accessFlags := 2, code := none }
def k16c1 : Code := { maxStack := 2, maxLocals := 2, code := jdk_29_method_16_code, exceptionTable := #[], attributes := #[] }
def k16m1 : Method := { name := "ceil", desc := "(D)D", sig := { parameters := [.double], returnType := some .double }, accessFlags := 9, code := some k16c1 }
def k16c2 : Code := { maxStack := 2, maxLocals := 2, code := jdk_29_method_65_code, exceptionTable := #[], attributes := #[] }
def k16m2 : Method := { name := "max", desc := "(II)I", sig := { parameters := [.int, .int], returnType := some .int }, accessFlags := 9, code := some k16c2 }
def k16c3 : Code := { maxStack := 4, maxLocals := 2, code := jdk_29_method_92_code, exceptionTable := #[], attributes := #[] }
def k16m3 : Method := { name := "getExponent", desc := "(D)I", sig := { parameters := [.double], returnType := some .int }, accessFlags := 9, code := some k16c3 }
/-- java/lang/Math -/
def k16 : Class := { plain "java/lang/Math" (some 0) with
  accessFlags := 49
  interfaces := #[]
  cf := some (fileOf pool16 1 #[.nestMembers #[98]] #[{ accessFlags := 2, nameIndex := 7, descriptorIndex := 8, attributes := #[] }, { accessFlags := 9, nameIndex := 55, descriptorIndex := 14, attributes := #[] }, { accessFlags := 9, nameIndex := 198, descriptorIndex := 335, attributes := #[] }, { accessFlags := 9, nameIndex := 280, descriptorIndex := 281, attributes := #[] }] 49 4 #[] #[{ accessFlags := 25, nameIndex := 354, descriptorIndex := 339, attributes := #[] }, { accessFlags := 25, nameIndex := 358, descriptorIndex := 339, attributes := #[] }, { accessFlags := 25, nameIndex := 361, descriptorIndex := 339, attributes := #[] }, { accessFlags := 26, nameIndex := 364, descriptorIndex := 339, attributes := #[] }, { accessFlags := 26, nameIndex := 365, descriptorIndex := 339, attributes := #[] }, { accessFlags := 26, nameIndex := 172, descriptorIndex := 173, attributes := #[] }, { accessFlags := 26, nameIndex := 176, descriptorIndex := 173, attributes := #[] }, { accessFlags := 8, nameIndex := 344, descriptorIndex := 339, attributes := #[] }, { accessFlags := 8, nameIndex := 338, descriptorIndex := 339, attributes := #[] }, { accessFlags := 4120, nameIndex := 245, descriptorIndex := 246, attributes := #[] }])
  fields := #[{ name := "E", type := .double, accessFlags := 25, slot := 0, constantValue := 0 }, { name := "PI", type := .double, accessFlags := 25, slot := 1, constantValue := 0 }, { name := "TAU", type := .double, accessFlags := 25, slot := 2, constantValue := 0 }, { name := "DEGREES_TO_RADIANS", type := .double, accessFlags := 26, slot := 3, constantValue := 0 }, { name := "RADIANS_TO_DEGREES", type := .double, accessFlags := 26, slot := 4, constantValue := 0 }, { name := "negativeZeroFloatBits", type := .long, accessFlags := 26, slot := 5, constantValue := 0 }, { name := "negativeZeroDoubleBits", type := .long, accessFlags := 26, slot := 6, constantValue := 0 }, { name := "twoToTheDoubleScaleUp", type := .double, accessFlags := 8, slot := 7, constantValue := 0 }, { name := "twoToTheDoubleScaleDown", type := .double, accessFlags := 8, slot := 8, constantValue := 0 }, { name := "$assertionsDisabled", type := .boolean, accessFlags := 4120, slot := 9, constantValue := 0 }]
  methods := #[k16m0, k16m1, k16m2, k16m3]
  instanceTypes := #[]
  staticTypes := #[.double, .double, .double, .double, .double, .long, .long, .double, .double, .boolean]
  resolved := Array.replicate 460 none
  statics := none }

def pool17 : Array CpInfo := pool [(1, .class_ 2), (0, u "java/lang/StrictMath"), (1, .class_ 6), (1, u "java/lang/Object"), (0, u "<init>"), (0, u "()V"), (5, u "(D)D"), (16, .class_ 33), (1, u "java/lang/Math"), (24, .double 9223372036854775808), (1, .methodref 1 61), (0, .nameAndType 62 63), (0, u "floorOrCeil"), (0, u "(DDDD)D"), (2, .methodref 31 67), (0, .nameAndType 68 69), (0, u "getExponent"), (0, u "(D)I"), (0, .fieldref 1 71), (0, .nameAndType 72 73), (0, u "$assertionsDisabled"), (0, u "Z"), (3, .methodref 78 79), (0, .class_ 80), (0, .nameAndType 81 82), (0, u "java/lang/Double"), (0, u "doubleToRawLongBits"), (0, u "(D)J"), (2, .long 4503599627370495), (28, .class_ 116), (1, u "java/lang/StrictMath$RandomNumberGeneratorHolder"), (222, u "E"), (0, u "D"), (3, u "PI"), (2, u "TAU"), (26, u "ceil")] 61

def k17m0 : Method := { name := "<init>", desc := "()V", sig := { parameters := [], returnType := none }, accessFlags := 2, code := none }
def k17c1 : Code := { maxStack := 8, maxLocals := 2, code := jdk_128_method_16_code, exceptionTable := #[], attributes := #[] }
def k17m1 : Method := { name := "ceil", desc := "(D)D", sig := { parameters := [.double], returnType := some .double }, accessFlags := 9, code := some k17c1 }
def k17c2 : Code := { maxStack := 6, maxLocals := 15, code := jdk_128_method_18_code, exceptionTable := #[], attributes := #[] }
def k17m2 : Method := { name := "floorOrCeil", desc := "(DDDD)D", sig := { parameters := [.double, .double, .double, .double], returnType := some .double }, accessFlags := 10, code := some k17c2 }
/-- java/lang/StrictMath -/
def k17 : Class := { plain "java/lang/StrictMath" (some 0) with
  accessFlags := 49
  interfaces := #[]
  cf := some (fileOf pool17 1 #[.nestMembers #[114]] #[{ accessFlags := 2, nameIndex := 7, descriptorIndex := 8, attributes := #[] }, { accessFlags := 9, nameIndex := 374, descriptorIndex := 14, attributes := #[] }, { accessFlags := 10, nameIndex := 62, descriptorIndex := 63, attributes := #[] }] 49 4 #[] #[{ accessFlags := 25, nameIndex := 339, descriptorIndex := 340, attributes := #[] }, { accessFlags := 25, nameIndex := 344, descriptorIndex := 340, attributes := #[] }, { accessFlags := 25, nameIndex := 347, descriptorIndex := 340, attributes := #[] }, { accessFlags := 4120, nameIndex := 72, descriptorIndex := 73, attributes := #[] }])
  fields := #[{ name := "E", type := .double, accessFlags := 25, slot := 0, constantValue := 0 }, { name := "PI", type := .double, accessFlags := 25, slot := 1, constantValue := 0 }, { name := "TAU", type := .double, accessFlags := 25, slot := 2, constantValue := 0 }, { name := "$assertionsDisabled", type := .boolean, accessFlags := 4120, slot := 3, constantValue := 0 }]
  methods := #[k17m0, k17m1, k17m2]
  instanceTypes := #[]
  staticTypes := #[.double, .double, .double, .boolean]
  resolved := Array.replicate 436 none
  statics := some 0 }

def pool18 : Array CpInfo := pool [(2, .class_ 4), (1, u "java/lang/Object"), (0, u "<init>"), (0, u "()V"), (1, .class_ 10), (1, u "java/lang/Number"), (2, .class_ 14), (0, u "java/io/Serializable"), (0, u "serialVersionUID"), (0, u "J")] 20

def k18m0 : Method := { name := "<init>", desc := "()V", sig := { parameters := [], returnType := none }, accessFlags := 1, code := none }
/-- java/lang/Number -/
def k18 : Class := { plain "java/lang/Number" (some 0) with
  accessFlags := 1057
  interfaces := #[10]
  cf := some (fileOf pool18 8 #[] #[{ accessFlags := 1, nameIndex := 5, descriptorIndex := 6, attributes := #[] }] 1057 2 #[13] #[{ accessFlags := 26, nameIndex := 15, descriptorIndex := 16, attributes := #[] }])
  fields := #[{ name := "serialVersionUID", type := .long, accessFlags := 26, slot := 0, constantValue := 0 }]
  methods := #[k18m0]
  instanceTypes := #[]
  staticTypes := #[.long]
  resolved := Array.replicate 37 none
  statics := none }

def pool19 : Array CpInfo := pool [(1, .class_ 2), (0, u "java/lang/Comparable"), (0, .class_ 4), (0, u "java/lang/Object")] 7

/-- java/lang/Comparable -/
def k19 : Class := { plain "java/lang/Comparable" (some 0) with
  accessFlags := 1537
  interfaces := #[]
  cf := some (fileOf pool19 1 #[] #[] 1537 3 #[] #[])
  fields := #[]
  methods := #[]
  instanceTypes := #[]
  staticTypes := #[]
  resolved := Array.replicate 12 none
  statics := none }

def pool20 : Array CpInfo := pool [(1, .class_ 2), (0, u "java/lang/constant/Constable"), (0, .class_ 4), (0, u "java/lang/Object")] 6

/-- java/lang/constant/Constable -/
def k20 : Class := { plain "java/lang/constant/Constable" (some 0) with
  accessFlags := 1537
  interfaces := #[]
  cf := some (fileOf pool20 1 #[] #[] 1537 3 #[] #[])
  fields := #[]
  methods := #[]
  instanceTypes := #[]
  staticTypes := #[]
  resolved := Array.replicate 11 none
  statics := none }

def pool21 : Array CpInfo := pool [(1, .class_ 2), (0, u "java/lang/constant/ConstantDesc"), (0, .class_ 4), (0, u "java/lang/Object")] 32

/-- java/lang/constant/ConstantDesc -/
def k21 : Class := { plain "java/lang/constant/ConstantDesc" (some 0) with
  accessFlags := 1537
  interfaces := #[]
  cf := some (fileOf pool21 1 #[] #[] 1537 3 #[] #[])
  fields := #[]
  methods := #[]
  instanceTypes := #[]
  staticTypes := #[]
  resolved := Array.replicate 37 none
  statics := none }

def pool22 : Array CpInfo := pool [(1, .class_ 2), (0, u "java/lang/Double"), (46, u "(D)J"), (64, .class_ 116), (1, u "java/lang/Number"), (3, u "value"), (0, u "D"), (14, u "doubleToRawLongBits"), (36, u "TYPE"), (0, u "Ljava/lang/Class;"), (0, .class_ 176), (0, u "java/lang/Comparable"), (0, .class_ 178), (0, u "java/lang/constant/Constable"), (0, .class_ 180), (0, u "java/lang/constant/ConstantDesc"), (0, u "POSITIVE_INFINITY"), (3, u "NEGATIVE_INFINITY"), (2, u "NaN"), (2, u "MAX_VALUE"), (0, u "MIN_NORMAL"), (0, u "MIN_VALUE"), (2, u "SIZE"), (0, u "I"), (1, u "PRECISION"), (1, u "MAX_EXPONENT"), (1, u "MIN_EXPONENT"), (1, u "BYTES"), (3, u "serialVersionUID"), (0, u "J")] 79

def k22m0 : Method := { name := "doubleToRawLongBits", desc := "(D)J", sig := { parameters := [.double], returnType := some .long }, accessFlags := 265, code := none }
/-- java/lang/Double -/
def k22 : Class := { plain "java/lang/Double" (some 18) with
  accessFlags := 49
  interfaces := #[19, 20, 21]
  cf := some (fileOf pool22 1 #[] #[{ accessFlags := 265, nameIndex := 136, descriptorIndex := 49, attributes := #[] }] 49 114 #[175, 177, 179] #[{ accessFlags := 25, nameIndex := 181, descriptorIndex := 121, attributes := #[] }, { accessFlags := 25, nameIndex := 185, descriptorIndex := 121, attributes := #[] }, { accessFlags := 25, nameIndex := 188, descriptorIndex := 121, attributes := #[] }, { accessFlags := 25, nameIndex := 191, descriptorIndex := 121, attributes := #[] }, { accessFlags := 25, nameIndex := 192, descriptorIndex := 121, attributes := #[] }, { accessFlags := 25, nameIndex := 193, descriptorIndex := 121, attributes := #[] }, { accessFlags := 25, nameIndex := 196, descriptorIndex := 197, attributes := #[] }, { accessFlags := 25, nameIndex := 199, descriptorIndex := 197, attributes := #[] }, { accessFlags := 25, nameIndex := 201, descriptorIndex := 197, attributes := #[] }, { accessFlags := 25, nameIndex := 203, descriptorIndex := 197, attributes := #[] }, { accessFlags := 25, nameIndex := 205, descriptorIndex := 197, attributes := #[] }, { accessFlags := 25, nameIndex := 173, descriptorIndex := 174, attributes := #[] }, { accessFlags := 18, nameIndex := 120, descriptorIndex := 121, attributes := #[] }, { accessFlags := 26, nameIndex := 209, descriptorIndex := 210, attributes := #[] }])
  fields := #[{ name := "POSITIVE_INFINITY", type := .double, accessFlags := 25, slot := 0, constantValue := 0 }, { name := "NEGATIVE_INFINITY", type := .double, accessFlags := 25, slot := 1, constantValue := 0 }, { name := "NaN", type := .double, accessFlags := 25, slot := 2, constantValue := 0 }, { name := "MAX_VALUE", type := .double, accessFlags := 25, slot := 3, constantValue := 0 }, { name := "MIN_NORMAL", type := .double, accessFlags := 25, slot := 4, constantValue := 0 }, { name := "MIN_VALUE", type := .double, accessFlags := 25, slot := 5, constantValue := 0 }, { name := "SIZE", type := .int, accessFlags := 25, slot := 6, constantValue := 0 }, { name := "PRECISION", type := .int, accessFlags := 25, slot := 7, constantValue := 0 }, { name := "MAX_EXPONENT", type := .int, accessFlags := 25, slot := 8, constantValue := 0 }, { name := "MIN_EXPONENT", type := .int, accessFlags := 25, slot := 9, constantValue := 0 }, { name := "BYTES", type := .int, accessFlags := 25, slot := 10, constantValue := 0 }, { name := "TYPE", type := (.object "java/lang/Class"), accessFlags := 25, slot := 11, constantValue := 0 }, { name := "value", type := .double, accessFlags := 18, slot := 0, constantValue := 0 }, { name := "serialVersionUID", type := .long, accessFlags := 26, slot := 12, constantValue := 0 }]
  methods := #[k22m0]
  instanceTypes := #[.double]
  staticTypes := #[.double, .double, .double, .double, .double, .double, .int, .int, .int, .int, .int, (.object "java/lang/Class"), .long]
  resolved := Array.replicate 290 none
  statics := none }

def pool23 : Array CpInfo := pool [(1, .class_ 2), (0, u "java/lang/Float"), (48, .class_ 53), (1, u "java/lang/Number"), (3, u "value"), (0, u "F"), (2, u "isNaN"), (0, u "(F)Z"), (28, u "$assertionsDisabled"), (0, u "Z"), (52, u "TYPE"), (0, u "Ljava/lang/Class;"), (0, .class_ 148), (0, u "java/lang/Comparable"), (0, .class_ 150), (0, u "java/lang/constant/Constable"), (0, .class_ 152), (0, u "java/lang/constant/ConstantDesc"), (0, u "POSITIVE_INFINITY"), (1, u "NEGATIVE_INFINITY"), (1, u "NaN"), (1, u "MAX_VALUE"), (0, u "MIN_NORMAL"), (0, u "MIN_VALUE"), (1, u "SIZE"), (0, u "I"), (1, u "PRECISION"), (1, u "MAX_EXPONENT"), (1, u "MIN_EXPONENT"), (1, u "BYTES"), (3, u "serialVersionUID"), (0, u "J")] 101

def k23c0 : Code := { maxStack := 2, maxLocals := 1, code := jdk_118_method_6_code, exceptionTable := #[], attributes := #[] }
def k23m0 : Method := { name := "isNaN", desc := "(F)Z", sig := { parameters := [.float], returnType := some .boolean }, accessFlags := 9, code := some k23c0 }
/-- java/lang/Float -/
def k23 : Class := { plain "java/lang/Float" (some 18) with
  accessFlags := 49
  interfaces := #[19, 20, 21]
  cf := some (fileOf pool23 1 #[] #[{ accessFlags := 9, nameIndex := 61, descriptorIndex := 62, attributes := #[] }] 49 51 #[147, 149, 151] #[{ accessFlags := 25, nameIndex := 153, descriptorIndex := 58, attributes := #[] }, { accessFlags := 25, nameIndex := 155, descriptorIndex := 58, attributes := #[] }, { accessFlags := 25, nameIndex := 157, descriptorIndex := 58, attributes := #[] }, { accessFlags := 25, nameIndex := 159, descriptorIndex := 58, attributes := #[] }, { accessFlags := 25, nameIndex := 160, descriptorIndex := 58, attributes := #[] }, { accessFlags := 25, nameIndex := 161, descriptorIndex := 58, attributes := #[] }, { accessFlags := 25, nameIndex := 163, descriptorIndex := 164, attributes := #[] }, { accessFlags := 25, nameIndex := 166, descriptorIndex := 164, attributes := #[] }, { accessFlags := 25, nameIndex := 168, descriptorIndex := 164, attributes := #[] }, { accessFlags := 25, nameIndex := 170, descriptorIndex := 164, attributes := #[] }, { accessFlags := 25, nameIndex := 172, descriptorIndex := 164, attributes := #[] }, { accessFlags := 25, nameIndex := 145, descriptorIndex := 146, attributes := #[] }, { accessFlags := 18, nameIndex := 57, descriptorIndex := 58, attributes := #[] }, { accessFlags := 26, nameIndex := 176, descriptorIndex := 177, attributes := #[] }, { accessFlags := 4120, nameIndex := 91, descriptorIndex := 92, attributes := #[] }])
  fields := #[{ name := "POSITIVE_INFINITY", type := .float, accessFlags := 25, slot := 0, constantValue := 0 }, { name := "NEGATIVE_INFINITY", type := .float, accessFlags := 25, slot := 1, constantValue := 0 }, { name := "NaN", type := .float, accessFlags := 25, slot := 2, constantValue := 0 }, { name := "MAX_VALUE", type := .float, accessFlags := 25, slot := 3, constantValue := 0 }, { name := "MIN_NORMAL", type := .float, accessFlags := 25, slot := 4, constantValue := 0 }, { name := "MIN_VALUE", type := .float, accessFlags := 25, slot := 5, constantValue := 0 }, { name := "SIZE", type := .int, accessFlags := 25, slot := 6, constantValue := 0 }, { name := "PRECISION", type := .int, accessFlags := 25, slot := 7, constantValue := 0 }, { name := "MAX_EXPONENT", type := .int, accessFlags := 25, slot := 8, constantValue := 0 }, { name := "MIN_EXPONENT", type := .int, accessFlags := 25, slot := 9, constantValue := 0 }, { name := "BYTES", type := .int, accessFlags := 25, slot := 10, constantValue := 0 }, { name := "TYPE", type := (.object "java/lang/Class"), accessFlags := 25, slot := 11, constantValue := 0 }, { name := "value", type := .float, accessFlags := 18, slot := 0, constantValue := 0 }, { name := "serialVersionUID", type := .long, accessFlags := 26, slot := 12, constantValue := 0 }, { name := "$assertionsDisabled", type := .boolean, accessFlags := 4120, slot := 13, constantValue := 0 }]
  methods := #[k23m0]
  instanceTypes := #[.float]
  staticTypes := #[.float, .float, .float, .float, .float, .float, .int, .int, .int, .int, .int, (.object "java/lang/Class"), .long, .boolean]
  resolved := Array.replicate 279 none
  statics := none }

def pool24 : Array CpInfo := pool [(1, .class_ 2), (0, u "java/lang/Integer"), (16, u "digits"), (0, u "[C"), (32, u "numberOfLeadingZeros"), (0, u "(I)I"), (30, u "DigitOnes"), (0, u "[B"), (2, u "DigitTens"), (99, .class_ 190), (0, u "java/lang/Integer$IntegerCache"), (3, u "I"), (8, .class_ 204), (0, u "java/lang/Number"), (2, u "value"), (56, .integer 65536), (37, u "TYPE"), (0, u "Ljava/lang/Class;"), (0, .class_ 305), (0, u "java/lang/Comparable"), (0, .class_ 307), (0, u "java/lang/constant/Constable"), (0, .class_ 309), (0, u "java/lang/constant/ConstantDesc"), (0, u "MIN_VALUE"), (1, u "MAX_VALUE"), (3, u "SIZE"), (1, u "BYTES"), (1, u "serialVersionUID"), (0, u "J")] 131

def k24c0 : Code := { maxStack := 3, maxLocals := 2, code := jdk_33_method_47_code, exceptionTable := #[], attributes := #[] }
def k24m0 : Method := { name := "numberOfLeadingZeros", desc := "(I)I", sig := { parameters := [.int], returnType := some .int }, accessFlags := 9, code := some k24c0 }
/-- java/lang/Integer -/
def k24 : Class := { plain "java/lang/Integer" (some 18) with
  accessFlags := 49
  interfaces := #[19, 20, 21]
  cf := some (fileOf pool24 1 #[.nestMembers #[189]] #[{ accessFlags := 9, nameIndex := 53, descriptorIndex := 54, attributes := #[] }] 49 203 #[304, 306, 308] #[{ accessFlags := 25, nameIndex := 310, descriptorIndex := 194, attributes := #[] }, { accessFlags := 25, nameIndex := 312, descriptorIndex := 194, attributes := #[] }, { accessFlags := 25, nameIndex := 302, descriptorIndex := 303, attributes := #[] }, { accessFlags := 24, nameIndex := 19, descriptorIndex := 20, attributes := #[] }, { accessFlags := 24, nameIndex := 89, descriptorIndex := 86, attributes := #[] }, { accessFlags := 24, nameIndex := 85, descriptorIndex := 86, attributes := #[] }, { accessFlags := 18, nameIndex := 207, descriptorIndex := 194, attributes := #[] }, { accessFlags := 25, nameIndex := 316, descriptorIndex := 194, attributes := #[] }, { accessFlags := 25, nameIndex := 318, descriptorIndex := 194, attributes := #[] }, { accessFlags := 26, nameIndex := 320, descriptorIndex := 321, attributes := #[] }])
  fields := #[{ name := "MIN_VALUE", type := .int, accessFlags := 25, slot := 0, constantValue := 0 }, { name := "MAX_VALUE", type := .int, accessFlags := 25, slot := 1, constantValue := 0 }, { name := "TYPE", type := (.object "java/lang/Class"), accessFlags := 25, slot := 2, constantValue := 0 }, { name := "digits", type := (.array .char), accessFlags := 24, slot := 3, constantValue := 0 }, { name := "DigitTens", type := (.array .byte), accessFlags := 24, slot := 4, constantValue := 0 }, { name := "DigitOnes", type := (.array .byte), accessFlags := 24, slot := 5, constantValue := 0 }, { name := "value", type := .int, accessFlags := 18, slot := 0, constantValue := 0 }, { name := "SIZE", type := .int, accessFlags := 25, slot := 6, constantValue := 0 }, { name := "BYTES", type := .int, accessFlags := 25, slot := 7, constantValue := 0 }, { name := "serialVersionUID", type := .long, accessFlags := 26, slot := 8, constantValue := 0 }]
  methods := #[k24m0]
  instanceTypes := #[.int]
  staticTypes := #[.int, .int, (.object "java/lang/Class"), (.array .char), (.array .byte), (.array .byte), .int, .int, .long]
  resolved := Array.replicate 453 none
  statics := none }

def pool25 : Array CpInfo := pool [(1, .fieldref 2 3), (0, .class_ 4), (0, .nameAndType 5 6), (0, u "java/util/HashMap$KeySet"), (0, u "this$0"), (0, u "Ljava/util/HashMap;"), (0, .methodref 8 9), (0, .class_ 10), (0, .nameAndType 11 12), (0, u "java/util/AbstractSet"), (0, u "<init>"), (0, u "()V"), (1, .class_ 16), (1, u "java/util/HashMap"), (5, .class_ 23), (0, u "java/util/HashMap$KeyIterator"), (0, .methodref 22 25), (0, .nameAndType 11 26), (0, u "(Ljava/util/HashMap;)V"), (64, u "iterator"), (0, u "()Ljava/util/Iterator;")] 36

def k25c0 : Code := { maxStack := 2, maxLocals := 2, code := jdk_97_method_1_code, exceptionTable := #[], attributes := #[] }
def k25m0 : Method := { name := "<init>", desc := "(Ljava/util/HashMap;)V", sig := { parameters := [(.object "java/util/HashMap")], returnType := none }, accessFlags := 0, code := some k25c0 }
def k25c1 : Code := { maxStack := 3, maxLocals := 1, code := jdk_97_method_4_code, exceptionTable := #[], attributes := #[] }
def k25m1 : Method := { name := "iterator", desc := "()Ljava/util/Iterator;", sig := { parameters := [], returnType := some (.object "java/util/Iterator") }, accessFlags := 17, code := some k25c1 }
/-- java/util/HashMap$KeySet -/
def k25 : Class := { plain "java/util/HashMap$KeySet" (some 8) with
  accessFlags := 48
  interfaces := #[]
  cf := some (fileOf pool25 2 #[.nestHost 14] #[{ accessFlags := 0, nameIndex := 11, descriptorIndex := 26, attributes := #[] }, { accessFlags := 17, nameIndex := 91, descriptorIndex := 92, attributes := #[] }] 48 8 #[] #[{ accessFlags := 4112, nameIndex := 5, descriptorIndex := 6, attributes := #[] }])
  fields := #[{ name := "this$0", type := (.object "java/util/HashMap"), accessFlags := 4112, slot := 0, constantValue := 0 }]
  methods := #[k25m0, k25m1]
  instanceTypes := #[(.object "java/util/HashMap")]
  staticTypes := #[]
  resolved := Array.replicate 129 none
  statics := none }

def pool26 : Array CpInfo := pool [(1, .fieldref 2 3), (0, .class_ 4), (0, .nameAndType 5 6), (0, u "java/util/HashMap$HashIterator"), (0, u "this$0"), (0, u "Ljava/util/HashMap;"), (0, .methodref 8 9), (0, .class_ 10), (0, .nameAndType 11 12), (0, u "java/lang/Object"), (0, u "<init>"), (0, u "()V"), (0, .fieldref 14 15), (0, .class_ 16), (0, .nameAndType 17 18), (0, u "java/util/HashMap"), (0, u "modCount"), (0, u "I"), (0, .fieldref 2 20), (0, .nameAndType 21 18), (0, u "expectedModCount"), (0, .fieldref 14 23), (0, .nameAndType 24 25), (0, u "table"), (0, u "[Ljava/util/HashMap$Node;"), (0, .fieldref 2 27), (0, .nameAndType 28 29), (0, u "next"), (0, u "Ljava/util/HashMap$Node;"), (0, .fieldref 2 31), (0, .nameAndType 32 29), (0, u "current"), (0, .fieldref 2 34), (0, .nameAndType 35 18), (0, u "index"), (28, u "(Ljava/util/HashMap;)V"), (12, u "hasNext"), (0, u "()Z")] 12

def k26c0 : Code := { maxStack := 6, maxLocals := 3, code := jdk_99_method_1_code, exceptionTable := #[], attributes := #[] }
def k26m0 : Method := { name := "<init>", desc := "(Ljava/util/HashMap;)V", sig := { parameters := [(.object "java/util/HashMap")], returnType := none }, accessFlags := 0, code := some k26c0 }
def k26c1 : Code := { maxStack := 1, maxLocals := 1, code := jdk_99_method_2_code, exceptionTable := #[], attributes := #[] }
def k26m1 : Method := { name := "hasNext", desc := "()Z", sig := { parameters := [], returnType := some .boolean }, accessFlags := 17, code := some k26c1 }
/-- java/util/HashMap$HashIterator -/
def k26 : Class := { plain "java/util/HashMap$HashIterator" (some 0) with
  accessFlags := 1056
  interfaces := #[]
  cf := some (fileOf pool26 2 #[.nestHost 14] #[{ accessFlags := 0, nameIndex := 11, descriptorIndex := 64, attributes := #[] }, { accessFlags := 17, nameIndex := 77, descriptorIndex := 78, attributes := #[] }] 1056 8 #[] #[{ accessFlags := 0, nameIndex := 28, descriptorIndex := 29, attributes := #[] }, { accessFlags := 0, nameIndex := 32, descriptorIndex := 29, attributes := #[] }, { accessFlags := 0, nameIndex := 21, descriptorIndex := 18, attributes := #[] }, { accessFlags := 0, nameIndex := 35, descriptorIndex := 18, attributes := #[] }, { accessFlags := 4112, nameIndex := 5, descriptorIndex := 6, attributes := #[] }])
  fields := #[{ name := "next", type := (.object "java/util/HashMap$Node"), accessFlags := 0, slot := 0, constantValue := 0 }, { name := "current", type := (.object "java/util/HashMap$Node"), accessFlags := 0, slot := 1, constantValue := 0 }, { name := "expectedModCount", type := .int, accessFlags := 0, slot := 2, constantValue := 0 }, { name := "index", type := .int, accessFlags := 0, slot := 3, constantValue := 0 }, { name := "this$0", type := (.object "java/util/HashMap"), accessFlags := 4112, slot := 4, constantValue := 0 }]
  methods := #[k26m0, k26m1]
  instanceTypes := #[(.object "java/util/HashMap$Node"), (.object "java/util/HashMap$Node"), .int, .int, (.object "java/util/HashMap")]
  staticTypes := #[]
  resolved := Array.replicate 91 none
  statics := none }

def pool27 : Array CpInfo := pool [(16, .class_ 18), (1, u "java/util/Iterator"), (0, u "hasNext"), (0, u "()Z"), (10, .class_ 32), (0, u "java/lang/Object")] 20

def k27m0 : Method := { name := "hasNext", desc := "()Z", sig := { parameters := [], returnType := some .boolean }, accessFlags := 1025, code := none }
/-- java/util/Iterator -/
def k27 : Class := { plain "java/util/Iterator" (some 0) with
  accessFlags := 1537
  interfaces := #[]
  cf := some (fileOf pool27 16 #[] #[{ accessFlags := 1025, nameIndex := 19, descriptorIndex := 20, attributes := #[] }] 1537 31 #[] #[])
  fields := #[]
  methods := #[k27m0]
  instanceTypes := #[]
  staticTypes := #[]
  resolved := Array.replicate 53 none
  statics := none }

def pool28 : Array CpInfo := pool [(1, .methodref 2 3), (0, .class_ 4), (0, .nameAndType 5 6), (0, u "java/util/HashMap$HashIterator"), (0, u "<init>"), (0, u "(Ljava/util/HashMap;)V"), (1, .class_ 10), (1, u "java/util/HashMap$KeyIterator"), (8, .class_ 20), (0, u "java/util/Iterator"), (18, .class_ 40), (0, u "java/util/HashMap")] 4

def k28c0 : Code := { maxStack := 2, maxLocals := 2, code := jdk_98_method_1_code, exceptionTable := #[], attributes := #[] }
def k28m0 : Method := { name := "<init>", desc := "(Ljava/util/HashMap;)V", sig := { parameters := [(.object "java/util/HashMap")], returnType := none }, accessFlags := 0, code := some k28c0 }
/-- java/util/HashMap$KeyIterator -/
def k28 : Class := { plain "java/util/HashMap$KeyIterator" (some 26) with
  accessFlags := 48
  interfaces := #[27]
  cf := some (fileOf pool28 8 #[.nestHost 39] #[{ accessFlags := 0, nameIndex := 5, descriptorIndex := 6, attributes := #[] }] 48 2 #[19] #[])
  fields := #[]
  methods := #[k28m0]
  instanceTypes := #[(.object "java/util/HashMap$Node"), (.object "java/util/HashMap$Node"), .int, .int, (.object "java/util/HashMap")]
  staticTypes := #[]
  resolved := Array.replicate 45 none
  statics := none }

def pool29 : Array CpInfo := pool [(2, .class_ 4), (1, u "java/lang/Object"), (0, u "<init>"), (0, u "()V"), (12, .class_ 20), (0, u "java/util/Collections"), (63, u "r"), (0, u "Ljava/util/Random;"), (77, .nameAndType 164 165), (0, u "getClass"), (0, u "()Ljava/lang/Class;"), (0, .class_ 167), (0, u "java/util/Collections$UnmodifiableCollection"), (6, .class_ 175), (0, u "java/util/Collections$UnmodifiableSequencedCollection"), (3, .interfaceMethodref 180 163), (0, .class_ 181), (0, u "java/util/Set"), (0, .class_ 183), (0, u "java/util/Collections$UnmodifiableSet"), (0, .methodref 182 185), (0, .nameAndType 5 186), (0, u "(Ljava/util/Set;)V"), (3, .class_ 191), (0, u "java/util/Collections$UnmodifiableSequencedSet"), (6, .class_ 199), (0, u "java/util/Collections$UnmodifiableSortedSet"), (6, .class_ 207), (0, u "java/util/Collections$UnmodifiableNavigableSet"), (4, .class_ 213), (0, u "java/util/Collections$UnmodifiableList"), (1, .class_ 216), (0, u "java/util/Collections$UnmodifiableRandomAccessList"), (6, .class_ 224), (0, u "java/util/Collections$UnmodifiableMap"), (6, .class_ 232), (0, u "java/util/Collections$UnmodifiableSequencedMap"), (4, .class_ 238), (0, u "java/util/Collections$UnmodifiableSortedMap"), (6, .class_ 246), (0, u "java/util/Collections$UnmodifiableNavigableMap"), (3, .class_ 251), (0, u "java/util/Collections$SynchronizedCollection"), (4, .class_ 257), (0, u "java/util/Collections$SynchronizedSet"), (4, .class_ 263), (0, u "java/util/Collections$SynchronizedSortedSet"), (1, .class_ 266), (0, u "java/util/Collections$SynchronizedNavigableSet"), (1, .class_ 269), (0, u "java/util/Collections$SynchronizedRandomAccessList"), (1, .class_ 272), (0, u "java/util/Collections$SynchronizedList"), (5, .class_ 279), (0, u "java/util/Collections$SynchronizedMap"), (1, .class_ 282), (0, u "java/util/Collections$SynchronizedSortedMap"), (1, .class_ 285), (0, u "java/util/Collections$SynchronizedNavigableMap"), (1, .class_ 288), (0, u "java/util/Collections$CheckedCollection"), (11, .class_ 301), (0, u "java/util/Collections$CheckedQueue"), (3, .class_ 306), (0, u "java/util/Collections$CheckedSet"), (3, .class_ 311), (0, u "java/util/Collections$CheckedSortedSet"), (3, .class_ 316), (0, u "java/util/Collections$CheckedNavigableSet"), (3, .class_ 321), (0, u "java/util/Collections$CheckedRandomAccessList"), (3, .class_ 326), (0, u "java/util/Collections$CheckedList"), (1, .class_ 329), (0, u "java/util/Collections$CheckedMap"), (3, .class_ 334), (0, u "java/util/Collections$CheckedSortedMap"), (3, .class_ 339), (0, u "java/util/Collections$CheckedNavigableMap"), (4, .class_ 346), (1, u "java/util/Collections$EmptyIterator"), (3, .class_ 352), (1, u "java/util/Collections$EmptyListIterator"), (2, .class_ 357), (1, u "java/util/Collections$EmptyEnumeration"), (4, u "EMPTY_SET"), (0, u "Ljava/util/Set;"), (6, u "EMPTY_LIST"), (0, u "Ljava/util/List;"), (2, u "EMPTY_MAP"), (0, u "Ljava/util/Map;"), (4, .class_ 381), (0, u "java/util/Collections$SingletonSet"), (2, .class_ 385), (0, u "java/util/Collections$1"), (1, .class_ 388), (0, u "java/util/Collections$2"), (1, .class_ 391), (0, u "java/util/Collections$SingletonList"), (1, .class_ 394), (0, u "java/util/Collections$SingletonMap"), (22, .class_ 418), (0, u "java/util/Collections$CopiesList"), (4, .class_ 425), (1, u "java/util/Collections$ReverseComparator"), (8, .class_ 435), (0, u "java/util/Collections$ReverseComparator2"), (6, .class_ 443), (0, u "java/util/Collections$3"), (25, .class_ 470), (0, u "java/util/Collections$SetFromMap"), (2, .class_ 474), (0, u "java/util/Collections$SequencedSetFromMap"), (3, .class_ 479), (0, u "java/util/Collections$AsLIFOQueue"), (11, .class_ 492), (0, u "java/util/Collections$EmptySet"), (1, .class_ 495), (0, u "java/util/Collections$EmptyList"), (1, .class_ 498), (0, u "java/util/Collections$EmptyMap"), (1, u "BINARYSEARCH_THRESHOLD"), (0, u "I"), (2, u "REVERSE_THRESHOLD"), (1, u "SHUFFLE_THRESHOLD"), (1, u "FILL_THRESHOLD"), (1, u "ROTATE_THRESHOLD"), (1, u "COPY_THRESHOLD"), (1, u "REPLACEALL_THRESHOLD"), (1, u "INDEXOFSUBLIST_THRESHOLD"), (110, u "unmodifiableSet"), (0, u "(Ljava/util/Set;)Ljava/util/Set;"), (221, .class_ 851), (0, u "java/util/Collections$CheckedMap$CheckedEntrySet"), (0, .class_ 853), (0, u "java/util/Collections$CheckedMap$CheckedEntrySet$CheckedEntry"), (0, .class_ 855), (0, u "java/util/Collections$CheckedMap$CheckedEntrySet$1"), (0, .class_ 857), (0, u "java/util/Collections$CheckedList$1"), (0, .class_ 859), (0, u "java/util/Collections$CheckedCollection$1"), (0, .class_ 861), (0, u "java/util/Collections$UnmodifiableNavigableMap$EmptyNavigableMap"), (0, .class_ 863), (0, u "java/util/Collections$UnmodifiableMap$UnmodifiableEntrySet"), (0, .class_ 865), (0, u "java/util/Collections$UnmodifiableMap$UnmodifiableEntrySet$UnmodifiableEntry"), (0, .class_ 867), (0, u "java/util/Collections$UnmodifiableMap$UnmodifiableEntrySet$UnmodifiableEntrySetSpliterator"), (0, .class_ 869), (0, u "java/util/Collections$UnmodifiableMap$UnmodifiableEntrySet$1"), (0, .class_ 871), (0, u "java/util/Collections$UnmodifiableList$1"), (0, .class_ 873), (0, u "java/util/Collections$UnmodifiableNavigableSet$EmptyNavigableSet"), (0, .class_ 875), (0, u "java/util/Collections$UnmodifiableCollection$1")] 57

def k29m0 : Method := { name := "<init>", desc := "()V", sig := { parameters := [], returnType := none }, accessFlags := 2, code := none }
def k29c1 : Code := { maxStack := 3, maxLocals := 1, code := jdk_79_method_31_code, exceptionTable := #[], attributes := #[] }
def k29m1 : Method := { name := "unmodifiableSet", desc := "(Ljava/util/Set;)Ljava/util/Set;", sig := { parameters := [(.object "java/util/Set")], returnType := some (.object "java/util/Set") }, accessFlags := 9, code := some k29c1 }
/-- java/util/Collections -/
def k29 : Class := { plain "java/util/Collections" (some 0) with
  accessFlags := 33
  interfaces := #[]
  cf := some (fileOf pool29 19 #[.nestMembers #[478, 473, 469, 434, 423, 417, 393, 390, 380, 497, 494, 491, 355, 350, 344, 338, 333, 328, 850, 852, 854, 320, 325, 856, 315, 310, 305, 300, 287, 858, 284, 281, 278, 268, 271, 265, 262, 256, 250, 245, 860, 237, 231, 223, 862, 864, 866, 868, 215, 212, 870, 206, 872, 198, 190, 182, 174, 166, 874, 442, 387, 384]] #[{ accessFlags := 2, nameIndex := 5, descriptorIndex := 6, attributes := #[] }, { accessFlags := 9, nameIndex := 627, descriptorIndex := 628, attributes := #[] }] 33 2 #[] #[{ accessFlags := 26, nameIndex := 500, descriptorIndex := 501, attributes := #[] }, { accessFlags := 26, nameIndex := 504, descriptorIndex := 501, attributes := #[] }, { accessFlags := 26, nameIndex := 506, descriptorIndex := 501, attributes := #[] }, { accessFlags := 26, nameIndex := 508, descriptorIndex := 501, attributes := #[] }, { accessFlags := 26, nameIndex := 510, descriptorIndex := 501, attributes := #[] }, { accessFlags := 26, nameIndex := 512, descriptorIndex := 501, attributes := #[] }, { accessFlags := 26, nameIndex := 514, descriptorIndex := 501, attributes := #[] }, { accessFlags := 26, nameIndex := 516, descriptorIndex := 501, attributes := #[] }, { accessFlags := 10, nameIndex := 84, descriptorIndex := 85, attributes := #[] }, { accessFlags := 25, nameIndex := 362, descriptorIndex := 363, attributes := #[] }, { accessFlags := 25, nameIndex := 370, descriptorIndex := 371, attributes := #[] }, { accessFlags := 25, nameIndex := 374, descriptorIndex := 375, attributes := #[] }])
  fields := #[{ name := "BINARYSEARCH_THRESHOLD", type := .int, accessFlags := 26, slot := 0, constantValue := 0 }, { name := "REVERSE_THRESHOLD", type := .int, accessFlags := 26, slot := 1, constantValue := 0 }, { name := "SHUFFLE_THRESHOLD", type := .int, accessFlags := 26, slot := 2, constantValue := 0 }, { name := "FILL_THRESHOLD", type := .int, accessFlags := 26, slot := 3, constantValue := 0 }, { name := "ROTATE_THRESHOLD", type := .int, accessFlags := 26, slot := 4, constantValue := 0 }, { name := "COPY_THRESHOLD", type := .int, accessFlags := 26, slot := 5, constantValue := 0 }, { name := "REPLACEALL_THRESHOLD", type := .int, accessFlags := 26, slot := 6, constantValue := 0 }, { name := "INDEXOFSUBLIST_THRESHOLD", type := .int, accessFlags := 26, slot := 7, constantValue := 0 }, { name := "r", type := (.object "java/util/Random"), accessFlags := 10, slot := 8, constantValue := 0 }, { name := "EMPTY_SET", type := (.object "java/util/Set"), accessFlags := 25, slot := 9, constantValue := 0 }, { name := "EMPTY_LIST", type := (.object "java/util/List"), accessFlags := 25, slot := 10, constantValue := 0 }, { name := "EMPTY_MAP", type := (.object "java/util/Map"), accessFlags := 25, slot := 11, constantValue := 0 }]
  methods := #[k29m0, k29m1]
  instanceTypes := #[]
  staticTypes := #[.int, .int, .int, .int, .int, .int, .int, .int, (.object "java/util/Random"), (.object "java/util/Set"), (.object "java/util/List"), (.object "java/util/Map")]
  resolved := Array.replicate 933 none
  statics := none }

def pool30 : Array CpInfo := pool [(1, .methodref 2 3), (0, .class_ 4), (0, .nameAndType 5 6), (0, u "java/lang/Object"), (0, u "<init>"), (0, u "()V"), (3, .fieldref 11 12), (0, .class_ 13), (0, .nameAndType 14 15), (0, u "java/util/Collections$UnmodifiableCollection"), (0, u "c"), (0, u "Ljava/util/Collection;"), (1, .class_ 19), (1, u "java/util/Collection"), (51, .class_ 72), (0, u "java/io/Serializable"), (0, u "serialVersionUID"), (0, u "J"), (5, u "(Ljava/util/Collection;)V"), (51, .class_ 133), (0, u "java/util/Collections")] 2

def k30c0 : Code := { maxStack := 2, maxLocals := 2, code := jdk_119_method_1_code, exceptionTable := #[], attributes := #[] }
def k30m0 : Method := { name := "<init>", desc := "(Ljava/util/Collection;)V", sig := { parameters := [(.object "java/util/Collection")], returnType := none }, accessFlags := 0, code := some k30c0 }
/-- java/util/Collections$UnmodifiableCollection -/
def k30 : Class := { plain "java/util/Collections$UnmodifiableCollection" (some 0) with
  accessFlags := 32
  interfaces := #[5, 10]
  cf := some (fileOf pool30 11 #[.nestHost 132] #[{ accessFlags := 0, nameIndex := 5, descriptorIndex := 80, attributes := #[] }] 32 2 #[17, 71] #[{ accessFlags := 26, nameIndex := 73, descriptorIndex := 74, attributes := #[] }, { accessFlags := 16, nameIndex := 14, descriptorIndex := 15, attributes := #[] }])
  fields := #[{ name := "serialVersionUID", type := .long, accessFlags := 26, slot := 0, constantValue := 0 }, { name := "c", type := (.object "java/util/Collection"), accessFlags := 16, slot := 0, constantValue := 0 }]
  methods := #[k30m0]
  instanceTypes := #[(.object "java/util/Collection")]
  staticTypes := #[.long]
  resolved := Array.replicate 136 none
  statics := none }

def pool31 : Array CpInfo := pool [(1, .methodref 2 3), (0, .class_ 4), (0, .nameAndType 5 6), (0, u "java/util/Collections$UnmodifiableCollection"), (0, u "<init>"), (0, u "(Ljava/util/Collection;)V"), (1, .class_ 10), (1, u "java/util/Collections$UnmodifiableSet"), (12, .class_ 24), (0, u "java/util/Set"), (0, .class_ 26), (0, u "java/io/Serializable"), (0, u "serialVersionUID"), (0, u "J"), (3, u "(Ljava/util/Set;)V"), (19, .class_ 53), (0, u "java/util/Collections")] 3

def k31c0 : Code := { maxStack := 2, maxLocals := 2, code := jdk_122_method_1_code, exceptionTable := #[], attributes := #[] }
def k31m0 : Method := { name := "<init>", desc := "(Ljava/util/Set;)V", sig := { parameters := [(.object "java/util/Set")], returnType := none }, accessFlags := 0, code := some k31c0 }
/-- java/util/Collections$UnmodifiableSet -/
def k31 : Class := { plain "java/util/Collections$UnmodifiableSet" (some 30) with
  accessFlags := 32
  interfaces := #[7, 10]
  cf := some (fileOf pool31 8 #[.nestHost 52] #[{ accessFlags := 0, nameIndex := 5, descriptorIndex := 32, attributes := #[] }] 32 2 #[23, 25] #[{ accessFlags := 26, nameIndex := 27, descriptorIndex := 28, attributes := #[] }])
  fields := #[{ name := "serialVersionUID", type := .long, accessFlags := 26, slot := 0, constantValue := 0 }]
  methods := #[k31m0]
  instanceTypes := #[(.object "java/util/Collection")]
  staticTypes := #[.long]
  resolved := Array.replicate 57 none
  mirror := some 2
  statics := none }

def pool32 : Array CpInfo := pool [(1, u "java/lang/Class"), (0, .class_ 1), (0, u "java/lang/Object"), (0, .class_ 3)] 3

/-- java/lang/Class -/
def k32 : Class := { plain "java/lang/Class" (some 0) with
  accessFlags := 49
  interfaces := #[]
  cf := some (fileOf pool32 2 #[] #[] 49 4 #[] #[])
  fields := #[]
  methods := #[]
  instanceTypes := #[]
  staticTypes := #[]
  resolved := Array.replicate 8 none
  statics := none }

/-- the primitive byte -/
def k33 : Class := { plain "byte" none with kind := .primitive 'B', accessFlags := 0x411 }
/-- [B -/
def k34 : Class := { plain "[B" (some 0) with kind := .array 33 .byte, interfaces := #[9, 10], accessFlags := 1041 }

/-- the primitive int -/
def k35 : Class := { plain "int" none with kind := .primitive 'I', accessFlags := 0x411 }
/-- [I -/
def k36 : Class := { plain "[I" (some 0) with kind := .array 35 .int, interfaces := #[9, 10], accessFlags := 1041 }

def heap : Heap := #[{ cls := 17, slots := #[.double 0, .double 0, .double 0, .int 1], vm := .statics 17 },
  { cls := 32, slots := #[], vm := .mirror 11 },
  { cls := 32, slots := #[], vm := .mirror 31 }]
def classes : Array Class := #[k0, k1, k2, k3, k4, k5, k6, k7, k8, k9, k10, k11, k12, k13, k14, k15, k16, k17, k18, k19, k20, k21, k22, k23, k24, k25, k26, k27, k28, k29, k30, k31, k32, k33, k34, k35, k36]
def interned : List (Array UInt16 × Addr) := []
def slotsUsed : Nat := 4
def theMethod : MethodId := ⟨1, 1⟩
def args0 : Array Value := #[.int 5]
def aboutOver (below : List Frame) : State where
  vm := { classes := classes, interned := interned.toArray }
  heap := heap
  slotsUsed := slotsUsed
  threads := #[{ frames := .invoking theMethod args0 :: below }]
def below0 : List Frame := [.native { method := ⟨0, 0⟩, args := #[] }]
def about1 : State := aboutOver below0
def p0 : Program := .bare "" "" ""
def e0 : Env := launch0.env 0 0 0
theorem w_frames : about1.frames = Frame.invoking theMethod args0 :: below0 := rfl
set_option maxRecDepth 65536 in
theorem w_args : argsFit about1.vm theMethod args0 = true := by decide +kernel
set_option maxRecDepth 65536 in
theorem w_heap : heapFits about1 = true := by decide +kernel
set_option maxRecDepth 65536 in
theorem w_runnable : about1.curStatus? = some .runnable := by decide +kernel
set_option maxRecDepth 65536 in
theorem w_alone : about1.alone = true := by decide +kernel
set_option maxRecDepth 65536 in
theorem w_named : about1.methodNamed? x = some theMethod := by decide +kernel
set_option maxRecDepth 65536 in
theorem w_hears : about1.hears theMethod below0 = true := by decide +kernel
set_option maxRecDepth 65536 in
theorem w_ripe : about1.ripe theMethod args0 below0 = true := by decide +kernel
theorem w_running : about1.status = .running := rfl
set_option maxRecDepth 65536 in
theorem w_room : about1.hasRoom e0.platform room_1 = true :=
  launch0.hasRoom_least _ room_1 (by decide +kernel) (by decide +kernel) (by decide +kernel) (by decide +kernel) (by decide +kernel) (by decide +kernel)
theorem allAtoms_all (ts : List Jvm.Cond) (a : Array Jvm.Value) (st : Jvm.State) : (allAtoms ts).before a st = ts.all (fun c => c.before a st) := by
  induction ts with
  | nil => rfl
  | cons c t ih =>
    show (Jvm.Cond.and c (allAtoms t)).before a st = _
    rw [Jvm.Cond.before_and, ih, List.all_cons]
def words1 : List Jvm.Cond := Jvm.Cond.code x code maxLocals ret :: tables_1
/-- a 'code' word, met by the world's own term for the bytes: nothing is compared byte by byte -/
theorem code_word {y : MethodName} {bytes : ByteArray} {mx : Nat} {rt : Option FieldType} {a : Array Value} {s : State} {m : MethodId} {meth : Method} {c : Code} (h1 : s.methodNamed? y = some m) (h2 : s.vm.method? m = some meth) (h3 : meth.code = some c) (h4 : c.code = bytes)
    (h5 : (c.maxLocals == mx && c.exceptionTable.isEmpty && decide (c.maxStack ≤ mostOperands) && decide (meth.sig.returnType = rt) && !meth.locks && decide (parseMethodDescriptor y.desc = some meth.sig)) = true) : (Jvm.Cond.code y bytes mx rt).before a s = true := by
  simp only [Bool.and_eq_true, beq_iff_eq, Bool.not_eq_true', decide_eq_true_eq] at h5
  obtain ⟨⟨⟨⟨⟨g1, g2⟩, g3⟩, g4⟩, g5⟩, g6⟩ := h5
  simp [Cond.before, Cond.holds, Cond.value, h1, h2, h3, h4, g1, g2, g3, g4, g5, g6]
def isCode : Jvm.Cond → Bool
  | .code _ _ _ _ => true
  | _ => false
theorem all_split {L : List Jvm.Cond} {P : Jvm.Cond → Bool} (h1 : L.all (fun c => isCode c || P c) = true) (h2 : ∀ c ∈ L.filter isCode, P c = true) : L.all P = true := by
  refine List.all_eq_true.mpr fun c hc => ?_
  have h := List.all_eq_true.mp h1 c hc
  rcases Bool.eq_false_or_eq_true (isCode c) with hi | hi
  · exact h2 c (List.mem_filter.mpr ⟨hc, hi⟩)
  · simpa [hi] using h
set_option maxRecDepth 65536 in
theorem w_c0 : (Jvm.Cond.code x code maxLocals ret).before args0 about1 = true := code_word (m := ⟨1, 1⟩) (meth := k1m1) (c := k1c1) (by decide +kernel) rfl rfl rfl (by decide +kernel)
set_option maxRecDepth 65536 in
theorem w_c1 : (Jvm.Cond.code ({ cls := "java/util/HashSet", name := "<init>", desc := "()V" } : Jvm.MethodName) jdk_93_method_1_code (1 : Nat) (Option.none : Option Jvm.ClassFile.FieldType)).before args0 about1 = true := code_word (m := ⟨11, 0⟩) (meth := k11m0) (c := k11c0) (by decide +kernel) rfl rfl rfl (by decide +kernel)
set_option maxRecDepth 65536 in
theorem w_c2 : (Jvm.Cond.code ({ cls := "java/util/AbstractSet", name := "<init>", desc := "()V" } : Jvm.MethodName) jdk_91_method_1_code (1 : Nat) (Option.none : Option Jvm.ClassFile.FieldType)).before args0 about1 = true := code_word (m := ⟨8, 0⟩) (meth := k8m0) (c := k8c0) (by decide +kernel) rfl rfl rfl (by decide +kernel)
set_option maxRecDepth 65536 in
theorem w_c3 : (Jvm.Cond.code ({ cls := "java/util/AbstractCollection", name := "<init>", desc := "()V" } : Jvm.MethodName) jdk_22_method_1_code (1 : Nat) (Option.none : Option Jvm.ClassFile.FieldType)).before args0 about1 = true := code_word (m := ⟨6, 0⟩) (meth := k6m0) (c := k6c0) (by decide +kernel) rfl rfl rfl (by decide +kernel)
set_option maxRecDepth 65536 in
theorem w_c4 : (Jvm.Cond.code ({ cls := "java/lang/Object", name := "<init>", desc := "()V" } : Jvm.MethodName) object_method_1_code (1 : Nat) (Option.none : Option Jvm.ClassFile.FieldType)).before args0 about1 = true := code_word (m := ⟨0, 0⟩) (meth := k0m0) (c := k0c0) (by decide +kernel) rfl rfl rfl (by decide +kernel)
set_option maxRecDepth 65536 in
theorem w_c5 : (Jvm.Cond.code ({ cls := "java/util/HashMap", name := "<init>", desc := "()V" } : Jvm.MethodName) jdk_69_method_7_code (1 : Nat) (Option.none : Option Jvm.ClassFile.FieldType)).before args0 about1 = true := code_word (m := ⟨14, 3⟩) (meth := k14m3) (c := k14c3) (by decide +kernel) rfl rfl rfl (by decide +kernel)
set_option maxRecDepth 65536 in
theorem w_c6 : (Jvm.Cond.code ({ cls := "java/util/AbstractMap", name := "<init>", desc := "()V" } : Jvm.MethodName) jdk_71_method_1_code (1 : Nat) (Option.none : Option Jvm.ClassFile.FieldType)).before args0 about1 = true := code_word (m := ⟨13, 0⟩) (meth := k13m0) (c := k13c0) (by decide +kernel) rfl rfl rfl (by decide +kernel)
set_option maxRecDepth 65536 in
theorem w_c7 : (Jvm.Cond.code ({ cls := "com/example/revlint/revlint/model/Library$Supertypes", name := "<init>", desc := "(Ljava/util/Set;Ljava/util/Set;ZZ)V" } : Jvm.MethodName) prog_34_method_1_code (5 : Nat) (Option.none : Option Jvm.ClassFile.FieldType)).before args0 about1 = true := code_word (m := ⟨3, 0⟩) (meth := k3m0) (c := k3c0) (by decide +kernel) rfl rfl rfl (by decide +kernel)
set_option maxRecDepth 65536 in
theorem w_c8 : (Jvm.Cond.code ({ cls := "java/lang/Record", name := "<init>", desc := "()V" } : Jvm.MethodName) jdk_30_method_1_code (1 : Nat) (Option.none : Option Jvm.ClassFile.FieldType)).before args0 about1 = true := code_word (m := ⟨2, 0⟩) (meth := k2m0) (c := k2c0) (by decide +kernel) rfl rfl rfl (by decide +kernel)
set_option maxRecDepth 65536 in
theorem w_c9 : (Jvm.Cond.code ({ cls := "com/example/revlint/revlint/model/Library", name := "unmodifiableCopy", desc := "(Ljava/util/Set;)Ljava/util/Set;" } : Jvm.MethodName) prog_26_method_4_code (1 : Nat) (Option.some (Jvm.ClassFile.FieldType.object "java/util/Set"))).before args0 about1 = true := code_word (m := ⟨15, 0⟩) (meth := k15m0) (c := k15c0) (by decide +kernel) rfl rfl rfl (by decide +kernel)
set_option maxRecDepth 65536 in
theorem w_c10 : (Jvm.Cond.code ({ cls := "java/util/HashSet", name := "<init>", desc := "(Ljava/util/Collection;)V" } : Jvm.MethodName) jdk_93_method_2_code (2 : Nat) (Option.none : Option Jvm.ClassFile.FieldType)).before args0 about1 = true := code_word (m := ⟨11, 1⟩) (meth := k11m1) (c := k11c1) (by decide +kernel) rfl rfl rfl (by decide +kernel)
set_option maxRecDepth 65536 in
theorem w_c11 : (Jvm.Cond.code ({ cls := "java/util/HashSet", name := "size", desc := "()I" } : Jvm.MethodName) jdk_93_method_7_code (1 : Nat) (Option.some Jvm.ClassFile.FieldType.int)).before args0 about1 = true := code_word (m := ⟨11, 3⟩) (meth := k11m3) (c := k11c3) (by decide +kernel) rfl rfl rfl (by decide +kernel)
set_option maxRecDepth 65536 in
theorem w_c12 : (Jvm.Cond.code ({ cls := "java/util/HashMap", name := "size", desc := "()I" } : Jvm.MethodName) jdk_69_method_10_code (1 : Nat) (Option.some Jvm.ClassFile.FieldType.int)).before args0 about1 = true := code_word (m := ⟨14, 4⟩) (meth := k14m4) (c := k14c4) (by decide +kernel) rfl rfl rfl (by decide +kernel)
set_option maxRecDepth 65536 in
theorem w_c13 : (Jvm.Cond.code ({ cls := "java/lang/Math", name := "max", desc := "(II)I" } : Jvm.MethodName) jdk_29_method_65_code (2 : Nat) (Option.some Jvm.ClassFile.FieldType.int)).before args0 about1 = true := code_word (m := ⟨16, 2⟩) (meth := k16m2) (c := k16c2) (by decide +kernel) rfl rfl rfl (by decide +kernel)
set_option maxRecDepth 65536 in
theorem w_c14 : (Jvm.Cond.code ({ cls := "java/util/HashMap", name := "newHashMap", desc := "(I)Ljava/util/HashMap;" } : Jvm.MethodName) jdk_69_method_56_code (1 : Nat) (Option.some (Jvm.ClassFile.FieldType.object "java/util/HashMap"))).before args0 about1 = true := code_word (m := ⟨14, 7⟩) (meth := k14m7) (c := k14c7) (by decide +kernel) rfl rfl rfl (by decide +kernel)
set_option maxRecDepth 65536 in
theorem w_c15 : (Jvm.Cond.code ({ cls := "java/util/HashMap", name := "calculateHashMapCapacity", desc := "(I)I" } : Jvm.MethodName) jdk_69_method_55_code (1 : Nat) (Option.some Jvm.ClassFile.FieldType.int)).before args0 about1 = true := code_word (m := ⟨14, 6⟩) (meth := k14m6) (c := k14c6) (by decide +kernel) rfl rfl rfl (by decide +kernel)
set_option maxRecDepth 65536 in
theorem w_c16 : (Jvm.Cond.code ({ cls := "java/lang/Math", name := "ceil", desc := "(D)D" } : Jvm.MethodName) jdk_29_method_16_code (2 : Nat) (Option.some Jvm.ClassFile.FieldType.double)).before args0 about1 = true := code_word (m := ⟨16, 1⟩) (meth := k16m1) (c := k16c1) (by decide +kernel) rfl rfl rfl (by decide +kernel)
set_option maxRecDepth 65536 in
theorem w_c17 : (Jvm.Cond.code ({ cls := "java/lang/StrictMath", name := "ceil", desc := "(D)D" } : Jvm.MethodName) jdk_128_method_16_code (2 : Nat) (Option.some Jvm.ClassFile.FieldType.double)).before args0 about1 = true := code_word (m := ⟨17, 1⟩) (meth := k17m1) (c := k17c1) (by decide +kernel) rfl rfl rfl (by decide +kernel)
set_option maxRecDepth 65536 in
theorem w_c18 : (Jvm.Cond.code ({ cls := "java/lang/StrictMath", name := "floorOrCeil", desc := "(DDDD)D" } : Jvm.MethodName) jdk_128_method_18_code (15 : Nat) (Option.some Jvm.ClassFile.FieldType.double)).before args0 about1 = true := code_word (m := ⟨17, 2⟩) (meth := k17m2) (c := k17c2) (by decide +kernel) rfl rfl rfl (by decide +kernel)
set_option maxRecDepth 65536 in
theorem w_c19 : (Jvm.Cond.code ({ cls := "java/lang/Math", name := "getExponent", desc := "(D)I" } : Jvm.MethodName) jdk_29_method_92_code (2 : Nat) (Option.some Jvm.ClassFile.FieldType.int)).before args0 about1 = true := code_word (m := ⟨16, 3⟩) (meth := k16m3) (c := k16c3) (by decide +kernel) rfl rfl rfl (by decide +kernel)
set_option maxRecDepth 65536 in
theorem w_c20 : (Jvm.Cond.code ({ cls := "java/util/HashMap", name := "<init>", desc := "(I)V" } : Jvm.MethodName) jdk_69_method_6_code (2 : Nat) (Option.none : Option Jvm.ClassFile.FieldType)).before args0 about1 = true := code_word (m := ⟨14, 2⟩) (meth := k14m2) (c := k14c2) (by decide +kernel) rfl rfl rfl (by decide +kernel)
set_option maxRecDepth 65536 in
theorem w_c21 : (Jvm.Cond.code ({ cls := "java/util/HashMap", name := "<init>", desc := "(IF)V" } : Jvm.MethodName) jdk_69_method_5_code (3 : Nat) (Option.none : Option Jvm.ClassFile.FieldType)).before args0 about1 = true := code_word (m := ⟨14, 1⟩) (meth := k14m1) (c := k14c1) (by decide +kernel) rfl rfl rfl (by decide +kernel)
set_option maxRecDepth 65536 in
theorem w_c22 : (Jvm.Cond.code ({ cls := "java/lang/Float", name := "isNaN", desc := "(F)Z" } : Jvm.MethodName) jdk_118_method_6_code (1 : Nat) (Option.some Jvm.ClassFile.FieldType.boolean)).before args0 about1 = true := code_word (m := ⟨23, 0⟩) (meth := k23m0) (c := k23c0) (by decide +kernel) rfl rfl rfl (by decide +kernel)
set_option maxRecDepth 65536 in
theorem w_c23 : (Jvm.Cond.code ({ cls := "java/util/HashMap", name := "tableSizeFor", desc := "(I)I" } : Jvm.MethodName) jdk_69_method_4_code (2 : Nat) (Option.some Jvm.ClassFile.FieldType.int)).before args0 about1 = true := code_word (m := ⟨14, 0⟩) (meth := k14m0) (c := k14c0) (by decide +kernel) rfl rfl rfl (by decide +kernel)
set_option maxRecDepth 65536 in
theorem w_c24 : (Jvm.Cond.code ({ cls := "java/lang/Integer", name := "numberOfLeadingZeros", desc := "(I)I" } : Jvm.MethodName) jdk_33_method_47_code (2 : Nat) (Option.some Jvm.ClassFile.FieldType.int)).before args0 about1 = true := code_word (m := ⟨24, 0⟩) (meth := k24m0) (c := k24c0) (by decide +kernel) rfl rfl rfl (by decide +kernel)
set_option maxRecDepth 65536 in
theorem w_c25 : (Jvm.Cond.code ({ cls := "java/util/AbstractCollection", name := "addAll", desc := "(Ljava/util/Collection;)Z" } : Jvm.MethodName) jdk_22_method_12_code (5 : Nat) (Option.some Jvm.ClassFile.FieldType.boolean)).before args0 about1 = true := code_word (m := ⟨6, 1⟩) (meth := k6m1) (c := k6c1) (by decide +kernel) rfl rfl rfl (by decide +kernel)
set_option maxRecDepth 65536 in
theorem w_c26 : (Jvm.Cond.code ({ cls := "java/util/HashSet", name := "iterator", desc := "()Ljava/util/Iterator;" } : Jvm.MethodName) jdk_93_method_6_code (1 : Nat) (Option.some (Jvm.ClassFile.FieldType.object "java/util/Iterator"))).before args0 about1 = true := code_word (m := ⟨11, 2⟩) (meth := k11m2) (c := k11c2) (by decide +kernel) rfl rfl rfl (by decide +kernel)
set_option maxRecDepth 65536 in
theorem w_c27 : (Jvm.Cond.code ({ cls := "java/util/HashMap", name := "keySet", desc := "()Ljava/util/Set;" } : Jvm.MethodName) jdk_69_method_24_code (2 : Nat) (Option.some (Jvm.ClassFile.FieldType.object "java/util/Set"))).before args0 about1 = true := code_word (m := ⟨14, 5⟩) (meth := k14m5) (c := k14c5) (by decide +kernel) rfl rfl rfl (by decide +kernel)
set_option maxRecDepth 65536 in
theorem w_c28 : (Jvm.Cond.code ({ cls := "java/util/HashMap$KeySet", name := "<init>", desc := "(Ljava/util/HashMap;)V" } : Jvm.MethodName) jdk_97_method_1_code (2 : Nat) (Option.none : Option Jvm.ClassFile.FieldType)).before args0 about1 = true := code_word (m := ⟨25, 0⟩) (meth := k25m0) (c := k25c0) (by decide +kernel) rfl rfl rfl (by decide +kernel)
set_option maxRecDepth 65536 in
theorem w_c29 : (Jvm.Cond.code ({ cls := "java/util/HashMap$KeySet", name := "iterator", desc := "()Ljava/util/Iterator;" } : Jvm.MethodName) jdk_97_method_4_code (1 : Nat) (Option.some (Jvm.ClassFile.FieldType.object "java/util/Iterator"))).before args0 about1 = true := code_word (m := ⟨25, 1⟩) (meth := k25m1) (c := k25c1) (by decide +kernel) rfl rfl rfl (by decide +kernel)
set_option maxRecDepth 65536 in
theorem w_c30 : (Jvm.Cond.code ({ cls := "java/util/HashMap$KeyIterator", name := "<init>", desc := "(Ljava/util/HashMap;)V" } : Jvm.MethodName) jdk_98_method_1_code (2 : Nat) (Option.none : Option Jvm.ClassFile.FieldType)).before args0 about1 = true := code_word (m := ⟨28, 0⟩) (meth := k28m0) (c := k28c0) (by decide +kernel) rfl rfl rfl (by decide +kernel)
set_option maxRecDepth 65536 in
theorem w_c31 : (Jvm.Cond.code ({ cls := "java/util/HashMap$HashIterator", name := "<init>", desc := "(Ljava/util/HashMap;)V" } : Jvm.MethodName) jdk_99_method_1_code (3 : Nat) (Option.none : Option Jvm.ClassFile.FieldType)).before args0 about1 = true := code_word (m := ⟨26, 0⟩) (meth := k26m0) (c := k26c0) (by decide +kernel) rfl rfl rfl (by decide +kernel)
set_option maxRecDepth 65536 in
theorem w_c32 : (Jvm.Cond.code ({ cls := "java/util/HashMap$HashIterator", name := "hasNext", desc := "()Z" } : Jvm.MethodName) jdk_99_method_2_code (1 : Nat) (Option.some Jvm.ClassFile.FieldType.boolean)).before args0 about1 = true := code_word (m := ⟨26, 1⟩) (meth := k26m1) (c := k26c1) (by decide +kernel) rfl rfl rfl (by decide +kernel)
set_option maxRecDepth 65536 in
theorem w_c33 : (Jvm.Cond.code ({ cls := "java/util/Collections", name := "unmodifiableSet", desc := "(Ljava/util/Set;)Ljava/util/Set;" } : Jvm.MethodName) jdk_79_method_31_code (1 : Nat) (Option.some (Jvm.ClassFile.FieldType.object "java/util/Set"))).before args0 about1 = true := code_word (m := ⟨29, 1⟩) (meth := k29m1) (c := k29c1) (by decide +kernel) rfl rfl rfl (by decide +kernel)
set_option maxRecDepth 65536 in
theorem w_c34 : (Jvm.Cond.code ({ cls := "java/util/Collections$UnmodifiableSet", name := "<init>", desc := "(Ljava/util/Set;)V" } : Jvm.MethodName) jdk_122_method_1_code (2 : Nat) (Option.none : Option Jvm.ClassFile.FieldType)).before args0 about1 = true := code_word (m := ⟨31, 0⟩) (meth := k31m0) (c := k31c0) (by decide +kernel) rfl rfl rfl (by decide +kernel)
set_option maxRecDepth 65536 in
theorem w_c35 : (Jvm.Cond.code ({ cls := "java/util/Collections$UnmodifiableCollection", name := "<init>", desc := "(Ljava/util/Collection;)V" } : Jvm.MethodName) jdk_119_method_1_code (2 : Nat) (Option.none : Option Jvm.ClassFile.FieldType)).before args0 about1 = true := code_word (m := ⟨30, 0⟩) (meth := k30m0) (c := k30c0) (by decide +kernel) rfl rfl rfl (by decide +kernel)
set_option maxRecDepth 65536 in
theorem w_c36 : (Jvm.Cond.code ({ cls := "com/example/revlint/revlint/model/Library$Supertypes", name := "mayHaveUnnamed", desc := "(Z)Z" } : Jvm.MethodName) prog_34_method_2_code (2 : Nat) (Option.some Jvm.ClassFile.FieldType.boolean)).before args0 about1 = true := code_word (m := ⟨3, 1⟩) (meth := k3m1) (c := k3c1) (by decide +kernel) rfl rfl rfl (by decide +kernel)
def codes1 : List Jvm.Cond := [Jvm.Cond.code x code maxLocals ret, Jvm.Cond.code ({ cls := "java/util/HashSet", name := "<init>", desc := "()V" } : Jvm.MethodName) jdk_93_method_1_code (1 : Nat) (Option.none : Option Jvm.ClassFile.FieldType), Jvm.Cond.code ({ cls := "java/util/AbstractSet", name := "<init>", desc := "()V" } : Jvm.MethodName) jdk_91_method_1_code (1 : Nat) (Option.none : Option Jvm.ClassFile.FieldType), Jvm.Cond.code ({ cls := "java/util/AbstractCollection", name := "<init>", desc := "()V" } : Jvm.MethodName) jdk_22_method_1_code (1 : Nat) (Option.none : Option Jvm.ClassFile.FieldType), Jvm.Cond.code ({ cls := "java/lang/Object", name := "<init>", desc := "()V" } : Jvm.MethodName) object_method_1_code (1 : Nat) (Option.none : Option Jvm.ClassFile.FieldType), Jvm.Cond.code ({ cls := "java/util/HashMap", name := "<init>", desc := "()V" } : Jvm.MethodName) jdk_69_method_7_code (1 : Nat) (Option.none : Option Jvm.ClassFile.FieldType), Jvm.Cond.code ({ cls := "java/util/AbstractMap", name := "<init>", desc := "()V" } : Jvm.MethodName) jdk_71_method_1_code (1 : Nat) (Option.none : Option Jvm.ClassFile.FieldType), Jvm.Cond.code ({ cls := "com/example/revlint/revlint/model/Library$Supertypes", name := "<init>", desc := "(Ljava/util/Set;Ljava/util/Set;ZZ)V" } : Jvm.MethodName) prog_34_method_1_code (5 : Nat) (Option.none : Option Jvm.ClassFile.FieldType), Jvm.Cond.code ({ cls := "java/lang/Record", name := "<init>", desc := "()V" } : Jvm.MethodName) jdk_30_method_1_code (1 : Nat) (Option.none : Option Jvm.ClassFile.FieldType), Jvm.Cond.code ({ cls := "com/example/revlint/revlint/model/Library", name := "unmodifiableCopy", desc := "(Ljava/util/Set;)Ljava/util/Set;" } : Jvm.MethodName) prog_26_method_4_code (1 : Nat) (Option.some (Jvm.ClassFile.FieldType.object "java/util/Set")), Jvm.Cond.code ({ cls := "java/util/HashSet", name := "<init>", desc := "(Ljava/util/Collection;)V" } : Jvm.MethodName) jdk_93_method_2_code (2 : Nat) (Option.none : Option Jvm.ClassFile.FieldType), Jvm.Cond.code ({ cls := "java/util/HashSet", name := "size", desc := "()I" } : Jvm.MethodName) jdk_93_method_7_code (1 : Nat) (Option.some Jvm.ClassFile.FieldType.int), Jvm.Cond.code ({ cls := "java/util/HashMap", name := "size", desc := "()I" } : Jvm.MethodName) jdk_69_method_10_code (1 : Nat) (Option.some Jvm.ClassFile.FieldType.int), Jvm.Cond.code ({ cls := "java/lang/Math", name := "max", desc := "(II)I" } : Jvm.MethodName) jdk_29_method_65_code (2 : Nat) (Option.some Jvm.ClassFile.FieldType.int), Jvm.Cond.code ({ cls := "java/util/HashMap", name := "newHashMap", desc := "(I)Ljava/util/HashMap;" } : Jvm.MethodName) jdk_69_method_56_code (1 : Nat) (Option.some (Jvm.ClassFile.FieldType.object "java/util/HashMap")), Jvm.Cond.code ({ cls := "java/util/HashMap", name := "calculateHashMapCapacity", desc := "(I)I" } : Jvm.MethodName) jdk_69_method_55_code (1 : Nat) (Option.some Jvm.ClassFile.FieldType.int), Jvm.Cond.code ({ cls := "java/lang/Math", name := "ceil", desc := "(D)D" } : Jvm.MethodName) jdk_29_method_16_code (2 : Nat) (Option.some Jvm.ClassFile.FieldType.double), Jvm.Cond.code ({ cls := "java/lang/StrictMath", name := "ceil", desc := "(D)D" } : Jvm.MethodName) jdk_128_method_16_code (2 : Nat) (Option.some Jvm.ClassFile.FieldType.double), Jvm.Cond.code ({ cls := "java/lang/StrictMath", name := "floorOrCeil", desc := "(DDDD)D" } : Jvm.MethodName) jdk_128_method_18_code (15 : Nat) (Option.some Jvm.ClassFile.FieldType.double), Jvm.Cond.code ({ cls := "java/lang/Math", name := "getExponent", desc := "(D)I" } : Jvm.MethodName) jdk_29_method_92_code (2 : Nat) (Option.some Jvm.ClassFile.FieldType.int), Jvm.Cond.code ({ cls := "java/util/HashMap", name := "<init>", desc := "(I)V" } : Jvm.MethodName) jdk_69_method_6_code (2 : Nat) (Option.none : Option Jvm.ClassFile.FieldType), Jvm.Cond.code ({ cls := "java/util/HashMap", name := "<init>", desc := "(IF)V" } : Jvm.MethodName) jdk_69_method_5_code (3 : Nat) (Option.none : Option Jvm.ClassFile.FieldType), Jvm.Cond.code ({ cls := "java/lang/Float", name := "isNaN", desc := "(F)Z" } : Jvm.MethodName) jdk_118_method_6_code (1 : Nat) (Option.some Jvm.ClassFile.FieldType.boolean), Jvm.Cond.code ({ cls := "java/util/HashMap", name := "tableSizeFor", desc := "(I)I" } : Jvm.MethodName) jdk_69_method_4_code (2 : Nat) (Option.some Jvm.ClassFile.FieldType.int), Jvm.Cond.code ({ cls := "java/lang/Integer", name := "numberOfLeadingZeros", desc := "(I)I" } : Jvm.MethodName) jdk_33_method_47_code (2 : Nat) (Option.some Jvm.ClassFile.FieldType.int), Jvm.Cond.code ({ cls := "java/util/AbstractCollection", name := "addAll", desc := "(Ljava/util/Collection;)Z" } : Jvm.MethodName) jdk_22_method_12_code (5 : Nat) (Option.some Jvm.ClassFile.FieldType.boolean), Jvm.Cond.code ({ cls := "java/util/HashSet", name := "iterator", desc := "()Ljava/util/Iterator;" } : Jvm.MethodName) jdk_93_method_6_code (1 : Nat) (Option.some (Jvm.ClassFile.FieldType.object "java/util/Iterator")), Jvm.Cond.code ({ cls := "java/util/HashMap", name := "keySet", desc := "()Ljava/util/Set;" } : Jvm.MethodName) jdk_69_method_24_code (2 : Nat) (Option.some (Jvm.ClassFile.FieldType.object "java/util/Set")), Jvm.Cond.code ({ cls := "java/util/HashMap$KeySet", name := "<init>", desc := "(Ljava/util/HashMap;)V" } : Jvm.MethodName) jdk_97_method_1_code (2 : Nat) (Option.none : Option Jvm.ClassFile.FieldType), Jvm.Cond.code ({ cls := "java/util/HashMap$KeySet", name := "iterator", desc := "()Ljava/util/Iterator;" } : Jvm.MethodName) jdk_97_method_4_code (1 : Nat) (Option.some (Jvm.ClassFile.FieldType.object "java/util/Iterator")), Jvm.Cond.code ({ cls := "java/util/HashMap$KeyIterator", name := "<init>", desc := "(Ljava/util/HashMap;)V" } : Jvm.MethodName) jdk_98_method_1_code (2 : Nat) (Option.none : Option Jvm.ClassFile.FieldType), Jvm.Cond.code ({ cls := "java/util/HashMap$HashIterator", name := "<init>", desc := "(Ljava/util/HashMap;)V" } : Jvm.MethodName) jdk_99_method_1_code (3 : Nat) (Option.none : Option Jvm.ClassFile.FieldType), Jvm.Cond.code ({ cls := "java/util/HashMap$HashIterator", name := "hasNext", desc := "()Z" } : Jvm.MethodName) jdk_99_method_2_code (1 : Nat) (Option.some Jvm.ClassFile.FieldType.boolean), Jvm.Cond.code ({ cls := "java/util/Collections", name := "unmodifiableSet", desc := "(Ljava/util/Set;)Ljava/util/Set;" } : Jvm.MethodName) jdk_79_method_31_code (1 : Nat) (Option.some (Jvm.ClassFile.FieldType.object "java/util/Set")), Jvm.Cond.code ({ cls := "java/util/Collections$UnmodifiableSet", name := "<init>", desc := "(Ljava/util/Set;)V" } : Jvm.MethodName) jdk_122_method_1_code (2 : Nat) (Option.none : Option Jvm.ClassFile.FieldType), Jvm.Cond.code ({ cls := "java/util/Collections$UnmodifiableCollection", name := "<init>", desc := "(Ljava/util/Collection;)V" } : Jvm.MethodName) jdk_119_method_1_code (2 : Nat) (Option.none : Option Jvm.ClassFile.FieldType), Jvm.Cond.code ({ cls := "com/example/revlint/revlint/model/Library$Supertypes", name := "mayHaveUnnamed", desc := "(Z)Z" } : Jvm.MethodName) prog_34_method_2_code (2 : Nat) (Option.some Jvm.ClassFile.FieldType.boolean)]
set_option maxRecDepth 65536 in
theorem codes_eq : words1.filter isCode = codes1 := rfl
theorem w_codes : ∀ c ∈ words1.filter isCode, c.before args0 about1 = true := by
  rw [codes_eq]
  intro c hc
  simp only [codes1, List.mem_cons, List.not_mem_nil, or_false] at hc
  rcases hc with rfl | rfl | rfl | rfl | rfl | rfl | rfl | rfl | rfl | rfl | rfl | rfl | rfl | rfl | rfl | rfl | rfl | rfl | rfl | rfl | rfl | rfl | rfl | rfl | rfl | rfl | rfl | rfl | rfl | rfl | rfl | rfl | rfl | rfl | rfl | rfl | rfl
  · exact w_c0
  · exact w_c1
  · exact w_c2
  · exact w_c3
  · exact w_c4
  · exact w_c5
  · exact w_c6
  · exact w_c7
  · exact w_c8
  · exact w_c9
  · exact w_c10
  · exact w_c11
  · exact w_c12
  · exact w_c13
  · exact w_c14
  · exact w_c15
  · exact w_c16
  · exact w_c17
  · exact w_c18
  · exact w_c19
  · exact w_c20
  · exact w_c21
  · exact w_c22
  · exact w_c23
  · exact w_c24
  · exact w_c25
  · exact w_c26
  · exact w_c27
  · exact w_c28
  · exact w_c29
  · exact w_c30
  · exact w_c31
  · exact w_c32
  · exact w_c33
  · exact w_c34
  · exact w_c35
  · exact w_c36
set_option maxRecDepth 65536 in
theorem w_t1 : (words1.take 24).all (fun c => isCode c || c.before args0 about1) = true := by decide +kernel
set_option maxRecDepth 65536 in
theorem w_t2 : ((words1.drop 24).take 24).all (fun c => isCode c || c.before args0 about1) = true := by decide +kernel
set_option maxRecDepth 65536 in
theorem w_t3 : (((words1.drop 24).drop 24).take 24).all (fun c => isCode c || c.before args0 about1) = true := by decide +kernel
set_option maxRecDepth 65536 in
theorem w_t4 : ((((words1.drop 24).drop 24).drop 24).take 24).all (fun c => isCode c || c.before args0 about1) = true := by decide +kernel
set_option maxRecDepth 65536 in
theorem w_t5 : (((((words1.drop 24).drop 24).drop 24).drop 24).take 24).all (fun c => isCode c || c.before args0 about1) = true := by decide +kernel
set_option maxRecDepth 65536 in
theorem w_t6 : ((((((words1.drop 24).drop 24).drop 24).drop 24).drop 24).take 24).all (fun c => isCode c || c.before args0 about1) = true := by decide +kernel
set_option maxRecDepth 65536 in
theorem w_t7 : (((((((words1.drop 24).drop 24).drop 24).drop 24).drop 24).drop 24).take 24).all (fun c => isCode c || c.before args0 about1) = true := by decide +kernel
set_option maxRecDepth 65536 in
theorem w_t8 : ((((((((words1.drop 24).drop 24).drop 24).drop 24).drop 24).drop 24).drop 24).take 24).all (fun c => isCode c || c.before args0 about1) = true := by decide +kernel
set_option maxRecDepth 65536 in
theorem w_t9 : (((((((((words1.drop 24).drop 24).drop 24).drop 24).drop 24).drop 24).drop 24).drop 24).take 24).all (fun c => isCode c || c.before args0 about1) = true := by decide +kernel
set_option maxRecDepth 65536 in
theorem w_t10 : ((((((((((words1.drop 24).drop 24).drop 24).drop 24).drop 24).drop 24).drop 24).drop 24).drop 24).take 24).all (fun c => isCode c || c.before args0 about1) = true := by decide +kernel
set_option maxRecDepth 65536 in
theorem w_t11 : ((((((((((words1.drop 24).drop 24).drop 24).drop 24).drop 24).drop 24).drop 24).drop 24).drop 24).drop 24).all (fun c => isCode c || c.before args0 about1) = true := by decide +kernel
theorem w_tables : (allAtoms (Jvm.Cond.code x code maxLocals ret :: tables_1)).before args0 about1 = true := by
  rw [allAtoms_all]
  show words1.all (fun c => c.before args0 about1) = true
  refine all_split ?_ w_codes
  rw [← List.take_append_drop 24 words1, List.all_append, w_t1, ← List.take_append_drop 24 (words1.drop 24), List.all_append, w_t2, ← List.take_append_drop 24 ((words1.drop 24).drop 24), List.all_append, w_t3, ← List.take_append_drop 24 (((words1.drop 24).drop 24).drop 24), List.all_append, w_t4, ← List.take_append_drop 24 ((((words1.drop 24).drop 24).drop 24).drop 24), List.all_append, w_t5, ← List.take_append_drop 24 (((((words1.drop 24).drop 24).drop 24).drop 24).drop 24), List.all_append, w_t6, ← List.take_append_drop 24 ((((((words1.drop 24).drop 24).drop 24).drop 24).drop 24).drop 24), List.all_append, w_t7, ← List.take_append_drop 24 (((((((words1.drop 24).drop 24).drop 24).drop 24).drop 24).drop 24).drop 24), List.all_append, w_t8, ← List.take_append_drop 24 ((((((((words1.drop 24).drop 24).drop 24).drop 24).drop 24).drop 24).drop 24).drop 24), List.all_append, w_t9, ← List.take_append_drop 24 (((((((((words1.drop 24).drop 24).drop 24).drop 24).drop 24).drop 24).drop 24).drop 24).drop 24), List.all_append, w_t10, w_t11]
  rfl
set_option maxRecDepth 65536 in
theorem w_rest : rest_1_c.before args0 about1 = true := by decide +kernel
set_option maxRecDepth 65536 in
theorem w_case : (Jvm.Cond.and given_1 narrow_1).before args0 about1 = true := by decide +kernel
theorem w_applies : (headSpec (Jvm.Cond.code x code maxLocals ret :: tables_1) room_1).applies x e0.platform about1 = true :=
  (Spec.applies_iff w_frames).mpr ⟨w_running, w_runnable, w_alone, w_named, w_hears, w_ripe, w_room, w_tables⟩
theorem atStart : AtStart classFile x code maxLocals ret World_1 tables_1 room_1 Calls_1 rest_1 Pre_1 launch0 p0 e0 about1 theMethod args0 below0 :=
  ⟨lists_1, trivial, launch0.admits_env _ _ _, launch0.least_env, fairChoices_fair.cas, fairChoices_fair.clock, w_frames, w_args, w_heap, w_applies, ⟨⟨11, k11, 1, by decide +kernel, rfl, rfl, _, rfl, rfl⟩, ⟨⟨31, k31, 2, by decide +kernel, rfl, rfl, _, rfl, rfl⟩, trivial⟩⟩, w_rest, w_case⟩
end start1
theorem witness_1 : WitnessClaimed_1 := ⟨start1.p0, start1.e0, start1.about1, start1.theMethod, start1.args0, start1.below0, start1.atStart⟩
end Jvm.Pilot.@@N@@
