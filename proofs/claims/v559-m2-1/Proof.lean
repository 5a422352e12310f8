import JvmDerived
import JvmDerived.Pilot.@@N@@Statement
import JvmDerived.Pilot.@@N@@Code
set_option linter.unusedVariables false
set_option linter.unusedSimpArgs false
namespace Jvm.OwnKit
open Sem ClassFile Op Lib Jvm.Stand Jvm.Free Jvm.LawKit Jvm.RoadKit
section Go
variable {p : Program} {l : Launch} {e : Env} {R : Room} {s : State} {m : MethodId} {args : Array Value} {below : List Frame} {meth : Method} {c : Code} {T T' : State} {locs : List Loc} {cells slots : Nat} {g g' : JFrame} {P : Outcome → State → Prop} {Q : Option Value → Heap → List Loc → Prop} {k n pc : Nat} {Ls : Array Slot} {rest : List Value}
/-- from this state and frame the invocation comes to its end, and the end is as P says -/
def Go (p : Program) (e : Env) (below : List Frame) (T : State) (g : JFrame) (P : Outcome → State → Prop) : Prop :=
  ∃ s₂ o, Steps p.tables e below (T.setTop g) s₂ ∧ s₂.status = .running ∧ Ended s₂ below o ∧ P o s₂
abbrev Po (s : State) (Q : Option Value → Heap → List Loc → Prop) (k n : Nat) : Outcome → State → Prop := fun o U' => ∃ v L, o = .returned v ∧ Q v U'.heap L ∧ FrameEnd s o U' L k n
theorem stp (h : ∀ t, Steps p.tables e below (T'.setTop g') t → Steps p.tables e below (T.setTop g) t) (K : Go p e below T' g' P) : Go p e below T g P := by
  obtain ⟨s2, o, h1, h2⟩ := K
  exact ⟨s2, o, h _ h1, h2⟩
theorem stt (h : Steps p.tables e below (T.setTop g) (T'.setTop g')) (K : Go p e below T' g' P) : Go p e below T g P := by
  obtain ⟨s2, o, h1, h2⟩ := K
  exact ⟨s2, o, h.trans h1, h2⟩
theorem out (X : Stand p l e R s m args below meth c T locs cells slots) {v : Option Value} (hl : meth.locks = false) (hv : meth.sig.returnType = none → v = none)
    (hst : ∀ fs : List Frame, (∀ (f : JFrame) (acts : List Action), f.method = m → f.locked = none → f.entered = [] → (doReturn e (T.setTop f) acts v).1 = T.setFrames fs) → Steps p.tables e below (T.setTop g) (T.setFrames fs))
    (hc : cells ≤ k) (hn : slots ≤ n) (hQ : Q v T.heap locs) : Go p e below T g (Po s Q k n) := by
  obtain ⟨fs, hr, hrun, hended, hW, hsame⟩ := X.leave (v := v) hv hl
  exact ⟨_, _, hst fs hr, hrun, hended, v, locs, rfl, hQ, ⟨_, rfl⟩, hW, hsame.mono hc hn⟩
theorem outN (X : Stand p l e R s m args below meth c T locs cells slots) (hx : p.tables.exec = Jvm.exec) {t : FieldType} {z : Int32} (hret : meth.sig.returnType = some t) (ht : t = .boolean ∨ t = .byte ∨ t = .char ∨ t = .short) (hd : decode c.code pc = .ok (.ireturn, 1)) (hl : meth.locks = false)
    (hc : cells ≤ k) (hn : slots ≤ n) (hQ : Q (some (.int (nar t z))) T.heap locs) : Go p e below T (mkF m pc Ls (.int z :: rest)) (Po s Q k n) :=
  out X hl (fun h => by rw [hret] at h; cases h) (fun fs hr => retN X hx hret ht hd hr) hc hn hQ
theorem outI (X : Stand p l e R s m args below meth c T locs cells slots) (hx : p.tables.exec = Jvm.exec) {z : Int32} (hret : meth.sig.returnType = some .int) (hd : decode c.code pc = .ok (.ireturn, 1)) (hl : meth.locks = false)
    (hc : cells ≤ k) (hn : slots ≤ n) (hQ : Q (some (.int z)) T.heap locs) : Go p e below T (mkF m pc Ls (.int z :: rest)) (Po s Q k n) :=
  out X hl (fun h => by rw [hret] at h; cases h) (fun fs hr => retOut X hx hret rfl (Or.inl ⟨rfl, Or.inl rfl, _, rfl⟩) hd hr) hc hn hQ
theorem outJ (X : Stand p l e R s m args below meth c T locs cells slots) (hx : p.tables.exec = Jvm.exec) {z : Int64} (hret : meth.sig.returnType = some .long) (hd : decode c.code pc = .ok (.lreturn, 1)) (hl : meth.locks = false)
    (hc : cells ≤ k) (hn : slots ≤ n) (hQ : Q (some (.long z)) T.heap locs) : Go p e below T (mkF m pc Ls (.long z :: rest)) (Po s Q k n) :=
  out X hl (fun h => by rw [hret] at h; cases h) (fun fs hr => retOut X hx hret rfl (Or.inr (Or.inl ⟨rfl, rfl, _, rfl⟩)) hd hr) hc hn hQ
theorem outD (X : Stand p l e R s m args below meth c T locs cells slots) (hx : p.tables.exec = Jvm.exec) {w : Value} (hret : meth.sig.returnType = some .double) (hw : ∃ z, w = .double z) (hd : decode c.code pc = .ok (.dreturn, 1)) (hl : meth.locks = false)
    (hc : cells ≤ k) (hn : slots ≤ n) (hQ : Q (some w) T.heap locs) : Go p e below T (mkF m pc Ls (w :: rest)) (Po s Q k n) := by
  obtain ⟨z, rfl⟩ := hw
  exact out X hl (fun h => by rw [hret] at h; cases h) (fun fs hr => retOut X hx hret rfl (Or.inr (Or.inr (Or.inl ⟨rfl, rfl, _, rfl⟩))) hd hr) hc hn hQ
theorem outA (X : Stand p l e R s m args below meth c T locs cells slots) (hx : p.tables.exec = Jvm.exec) {w : Value} {t : FieldType} (hret : meth.sig.returnType = some t) (ht : t.isReference = true) (hw : w.isRef = true) (hd : decode c.code pc = .ok (.areturn, 1)) (hl : meth.locks = false)
    (hc : cells ≤ k) (hn : slots ≤ n) (hQ : Q (some w) T.heap locs) : Go p e below T (mkF m pc Ls (w :: rest)) (Po s Q k n) := by
  refine out X hl (fun h => by rw [hret] at h; cases h) (fun fs hr => retOut X hx hret ?_ (Or.inr (Or.inr (Or.inr (Or.inr ⟨rfl, ht, hw⟩)))) hd hr) hc hn hQ
  rcases ref_cases hw with rfl | ⟨a, rfl⟩ <;> cases t <;> first | rfl | cases ht
theorem outV (X : Stand p l e R s m args below meth c T locs cells slots) (hx : p.tables.exec = Jvm.exec) (hret : meth.sig.returnType = none) (hd : decode c.code pc = .ok (.return_, 1)) (hl : meth.locks = false)
    (hc : cells ≤ k) (hn : slots ≤ n) (hQ : Q none T.heap locs) : Go p e below T (mkF m pc Ls []) (Po s Q k n) :=
  out X hl (fun _ => rfl) (fun fs hr => X.returnOut hx hret hd hr) hc hn hQ
theorem start {y : MethodName} {bytes : ByteArray} {maxL : Nat} {ret : Option FieldType} {ws : List Cond} {rm : Room} {Z : State} {as' : Array Value} {h0 : Heap} (hpl : plainFor y = true)
    (body : ∀ p e s m below meth c T, Stand p l e rm s m as' below meth c T [] 0 0 → p.tables.exec = Jvm.exec → c.code = bytes → c.maxLocals = maxL → s.vm.findClass y.cls = some m.cls → meth.name = y.name → meth.sig.returnType = ret → meth.locks = false → Z.Warmed39 s.vm → T.heap = h0 →
      Go p e below T (entryFrame m as' maxL) (Po s Q k n)) :
    MetFree l y (head1 (Cond.code y bytes maxL ret :: ws) rm) (fun a U => a = as' ∧ Z.Warmed39 U.vm ∧ U.heap = h0) (fun _ _ _ _ _ => True) (fun _ U o U' => ∃ v L, o = .returned v ∧ Q v U'.heap L ∧ FrameEnd U o U' L k n) := by
  refine MetFree.of_bodySF hpl hisR ?_
  intro p e s m args below meth c s₁ Bd hml0 hP hK
  obtain ⟨rfl, hZ, hh⟩ := hP
  exact body p e s m below meth c s₁ (Stand.of_body Bd) Bd.exec Bd.bytes hml0 (findClass_of_methodNamed Bd.named) (name_of_methodNamed Bd.named Bd.method).1 Bd.returns Bd.notSynchronized hZ (by rw [← hh, Bd.state]; rfl)
theorem goAt (q : g = g') (K : Go p e below T g' P) : Go p e below T g P := q ▸ K
end Go
theorem cat_ref {v : Value} (h : v.isRef = true) : v.category = 1 := by cases v <;> simp_all [Value.isRef, Value.category]
section Facts
variable {Z : State} {args : Array Value}
theorem old_le {n0 : Nat} {h : Heap} (O : Old Z n0 h) : n0 ≤ h.size := by
  obtain ⟨rfl, h2⟩ := O
  exact h2.1
theorem fld_of {C n d : String} {t : Term} {a : Addr} {k : Int32} (ev : t.eval args Z none [] Z = some (.ref a)) (h : (Cond.eq (.field t C n d) (.int k)).value args Z none Z [] = some true) : Fld Z Z.heap a C n d (.int k) := by
  obtain ⟨x, y, h1, h2, -, hk⟩ := cmp_v (Or.inl h)
  have h3 : y = .int k := (Option.some.inj h2).symm
  subst h3
  obtain ⟨z, rfl⟩ := hk
  have h4 : z = k := gotT (Cond.eq_ints h1 h2) h
  subst h4
  rw [fld_at ev] at h1
  exact Fld.start h1
theorem fldnull_of {C n d : String} {t : Term} {a : Addr} (ev : t.eval args Z none [] Z = some (.ref a)) (h : (Cond.eq (.field t C n d) .null).value args Z none Z [] = some true) : Fld Z Z.heap a C n d .null := by
  have h1 := null_v h
  rw [fld_at ev] at h1
  exact Fld.start h1
theorem eqint_v {t : Term} {k : Int32} (h : (Cond.eq t (.int k)).value args Z none Z [] = some true) : t.eval args Z none [] Z = some (.int k) := by
  obtain ⟨x, y, h1, h2, -, hk⟩ := cmp_v (Or.inl h)
  have h3 : y = .int k := (Option.some.inj h2).symm
  subst h3
  obtain ⟨z, rfl⟩ := hk
  have h4 : z = k := gotT (Cond.eq_ints h1 h2) h
  subst h4
  exact h1
end Facts
section Small
variable {h h' : Heap} {a : Addr} {sl : Nat} {x : Int32}
theorem ow_wr_char (e : x.toUInt32.toUInt16.toUInt32.toInt32 = x) (W : Wr h h' a sl (.int (nar .char x))) : Wr h h' a sl (.int x) := by rwa [show nar .char x = x from e] at W
theorem ow_fits_char (e : x.toUInt32.toUInt16.toUInt32.toInt32 = x) : fits .char (.int x) = true := by
  have q := fits_nar_char x
  rwa [show nar .char x = x from e] at q
theorem ow_wr_byte (e : x.toInt8.toInt32 = x) (W : Wr h h' a sl (.int (nar .byte x))) : Wr h h' a sl (.int x) := by rwa [show nar .byte x = x from e] at W
theorem ow_fits_byte (e : x.toInt8.toInt32 = x) : fits .byte (.int x) = true := by
  have q := fits_nar_byte x
  rwa [e] at q
theorem char_small (h0 : ¬ x < 0) (h1 : ¬ (65535 : Int32) < x) : x.toUInt32.toUInt16.toUInt32.toInt32 = x := by
  obtain ⟨q1, q2, q3⟩ := c_i2c x
  simp only [Int32.lt_iff_toInt_lt, Int32.reduceToInt] at h0 h1
  exact Int32.toInt_inj.mp (by omega)
theorem char255 (q : ¬ x < 0 ∧ ¬ (255 : Int32) < x) : x.toUInt32.toUInt16.toUInt32.toInt32 = x := char_small q.1 (by
  obtain ⟨q1, q2⟩ := q
  simp only [Int32.lt_iff_toInt_lt, Int32.reduceToInt] at q1 q2 ⊢
  omega)
theorem byte_small (h0 : ¬ x < (-128 : Int32)) (h1 : ¬ (127 : Int32) < x) : x.toInt8.toInt32 = x := by
  obtain ⟨q1, q2, q3⟩ := c_i2b x
  simp only [Int32.lt_iff_toInt_lt, Int32.reduceToInt] at h0 h1
  exact Int32.toInt_inj.mp (by omega)
theorem byte_twice : x.toInt8.toInt32.toInt8.toInt32 = x.toInt8.toInt32 := by simp
theorem and255 (x : Int32) : ¬ (x &&& (255 : Int32)) < 0 ∧ ¬ (255 : Int32) < (x &&& (255 : Int32)) := by
  have h := c_mask x 255 8 (by decide) (by decide)
  simp only [Int32.lt_iff_toInt_lt, Int32.reduceToInt]
  omega
end Small
section Sub
variable {Z : State} {a0 : Array Value}
theorem NSroot {O K : String} {n : Nat} (w : (Cond.noSuperclass O).before a0 Z = true) (wk : (Cond.instantiable K n).before a0 Z = true) (hn : O ≠ K) : NS Z O K := by
  obtain ⟨c, k, h1, h2, h3, -, -⟩ := Cond.noSuperclass_spec w
  obtain ⟨t, kt, g1, -⟩ := Cond.instantiable_spec wk
  have ne := ids_ne h1 g1 hn
  refine ⟨c, t, h1, g1, fun fuel => ?_⟩
  cases fuel with
  | zero => rfl
  | succ f => simp [Vm.isSubclassAux, ne, h2, h3]
theorem NSno {C S K : String} {n : Nat} (w : (Cond.superclass C S).before a0 Z = true) (wk : (Cond.instantiable K n).before a0 Z = true) (N : NS Z C K) (hn : C ≠ K) : ∃ c t, Z.vm.findClass C = some c ∧ Z.vm.findClass K = some t ∧ Z.vm.assignable c t = false := by
  obtain ⟨c, t, h0, g0, n3⟩ := N
  obtain ⟨p, k, kp, h1, h2, h3, h4, h5, -, h7⟩ := Cond.superclass_spec h0 w
  obtain ⟨t', kt, g1, g2, g5, g7, -⟩ := Cond.instantiable_spec wk
  cases g0.symm.trans g1
  rw [Bool.or_eq_false_iff] at g7
  have ne := ids_ne h0 g0 hn
  refine ⟨c, t, h0, g0, ?_⟩
  show Z.vm.assignableAux (255 + 1) c t = false
  simp [Vm.assignableAux, ne, h2, g2, h5, g5, g7.1, Vm.isSubclass, n3]
end Sub
/-- an array of n elements, told by a function -/
def Arf (Z : State) (h : Heap) (a : Addr) (k : ClassId) (ty : FieldType) (n : Nat) (f : Nat → Value) : Prop := ∃ c : Cell, Arr Z h a c ty ∧ c.cls = k ∧ c.slots.size = n ∧ (∀ i, i < n → c.slots[i]? = some (f i)) ∧ ∀ i, i < n → fits ty (f i) = true
section Arf
variable {Z : State} {h h' : Heap} {a b : Addr} {k : ClassId} {ty : FieldType} {n sl : Nat} {f g : Nat → Value} {v : Value} {ws : List Addr} {c : Cell} {j : Int32} {i : Nat}
theorem Arf.lt (F : Arf Z h a k ty n f) : a < h.size := by
  obtain ⟨c, A, -⟩ := F
  exact A.lt
theorem Arf.ext (F : Arf Z h a k ty n f) (E : Ext h h') : Arf Z h' a k ty n f := by
  obtain ⟨c, A, r⟩ := F
  exact ⟨c, A.ext E, r⟩
theorem Arf.other (F : Arf Z h b k ty n f) (W : Wr h h' a sl v) (q : b ≠ a) : Arf Z h' b k ty n f := by
  obtain ⟨c, A, r⟩ := F
  exact ⟨c, A.other W q, r⟩
theorem Arf.keep (F : Arf Z h a k ty n f) (K : Keep h h' ws) (q : a ∉ ws) : Arf Z h' a k ty n f := by
  obtain ⟨c, A, r⟩ := F
  exact ⟨c, ⟨K.2.1 a c A.1 q, A.2⟩, r⟩
theorem Arf.congr (F : Arf Z h a k ty n f) (q : ∀ i, i < n → g i = f i) : Arf Z h a k ty n g := by
  obtain ⟨c, A, r1, r2, H, G⟩ := F
  exact ⟨c, A, r1, r2, fun i hi => by rw [q i hi]; exact H i hi, fun i hi => by rw [q i hi]; exact G i hi⟩
theorem Arf.set (A : Arr Z h a c ty) (q1 : c.cls = k) (S : c.slots.size = n) (H : ∀ i, i < n → c.slots[i]? = some (f i)) (G : ∀ i, i < n → fits ty (f i) = true) (hv : fits ty v = true) (W : Wr h h' a i v) (hi : i < n) : Arf Z h' a k ty n (fun x => if x = i then v else f x) := by
  refine ⟨c.setSlot i v, A.same W, q1, by rw [sz_set]; exact S, fun x hx => ?_, fun x hx => ?_⟩
  · show (c.setSlot i v).slots[x]? = some (if x = i then v else f x)
    by_cases e : x = i
    · subst e
      simp [Cell.setSlot, S, hx]
    · rw [if_neg e, ← H x hx]
      exact Cell.slots_setSlot_ne v (Ne.symm e)
  · by_cases e : x = i
    · simp [e, hv]
    · simp [e, G x hx]
theorem Arv.arf {z : Int32} {vs : List Value} {d : Value} (F : Arv Z h a k ty z vs d) (hz : z.toNatClampNeg = n) : Arf Z h a k ty n (fun i => vs.getD i d) := by
  obtain ⟨c, A, r1, r2, r3, H, G⟩ := F
  exact ⟨c, A, r1, by rw [r2, hz], fun i hi => H i (by rw [r2, hz]; exact hi), fun i hi => G i (by rw [r2, hz]; exact hi)⟩
theorem arf_in (S : c.slots.size = n) (hk : j.toInt = i) (hn : i < n) : ¬ (j < 0 ∨ c.slots.size ≤ j.toNatClampNeg) := by
  simp only [Int32.lt_iff_toInt_lt, Int32.toNatClampNeg, Int32.reduceToInt, S, hk]
  omega
theorem arf_at (H : ∀ i, i < n → c.slots[i]? = some (f i)) (hk : j.toInt = i) (hn : i < n) : c.slots[j.toNatClampNeg]? = some (f i) := by
  have e : j.toNatClampNeg = i := by simp only [Int32.toNatClampNeg, hk]; omega
  rw [e]
  exact H i hn
theorem arf_ix (hk : j.toInt = i) : j.toNatClampNeg = i := by simp only [Int32.toNatClampNeg, hk]; omega
theorem arf_len {z : Int32} (S : c.slots.size = n) (hz : z.toInt = n) : c.slots.size.toInt32 = z := by
  rw [S]
  have h1 := Int32.toInt_lt z
  exact Int32.toInt_inj.mp (by rw [len_toInt (by omega)]; exact hz.symm)
theorem Arf.one (F : Arf Z h a k ty n f) (hi : i < n) : fits ty (f i) = true := by
  obtain ⟨c, A, r1, r2, H, G⟩ := F
  exact G i hi
theorem Arf.new {z : Int32} (A : Arr Z h a (newA k ty z) ty) (q : ¬ z < 0) (hz : z.toNatClampNeg = n) : Arf Z h a k ty n (fun _ => defaultValue ty) := (Arv.arf (Arv.new A q) hz).congr fun i _ => by simp
theorem cloneF {p : Program} {l : Launch} {e : Env} {R : Room} {s : State} {m : MethodId} {args : Array Value} {below : List Frame} {meth : Method} {c : Code} {T : State} {locs : List Loc} {cells slots : Nat} (X : Stand p l e R s m args below meth c T locs cells slots) (hx : p.tables.exec = Jvm.exec) (hZ : Z.Warmed39 s.vm) {a0 : Array Value} {own ad : String} {index : Nat} (hown : s.vm.findClass own = some m.cls)
    (w1 : (Cond.methodLink own index ⟨ad, "clone", "()Ljava/lang/Object;"⟩).before a0 Z = true) (w2 : (Cond.sameMethod ad "java/lang/Object" "clone" "()Ljava/lang/Object;").before a0 Z = true) (w3 : (Cond.native ⟨"java/lang/Object", "clone", "()Ljava/lang/Object;"⟩).before a0 Z = true)
    (w4 : (Cond.instanceMethod ⟨"java/lang/Object", "clone", "()Ljava/lang/Object;"⟩).before a0 Z = true) (w5 : (Cond.selects ad ⟨ad, "clone", "()Ljava/lang/Object;"⟩ ⟨"java/lang/Object", "clone", "()Ljava/lang/Object;"⟩).before a0 Z = true) (w6 : (Cond.castable ad "java/lang/Cloneable").before a0 Z = true)
    (eT : T.heap = h) (F : Arf Z h a k ty n f) (E : Exa Z h a ad) {g : JFrame} (hg : g.method = m) (hsize : g.locals.size = c.maxLocals) {rest : List Value} (hst : g.stack = .ref a :: rest) (hd : decode c.code g.pc = .ok (.invokevirtual index, 3))
    (hf : 1 ≤ R.frames) {W cap : Nat} (hW : 2 * g.monitorRoom + (rest.map fun v => v.category).sum ≤ W) (hl : W + 14 ≤ R.locals) (hcap : n ≤ cap) (hc : cells + 1 ≤ R.cells) (hsl : slots + cap ≤ R.slots) :
    ∃ T' h', Stand p l e R s m args below meth c T' locs (cells + 1) (slots + cap) ∧ T'.heap = h' ∧ Ext h h' ∧ Arf Z h' h.size k ty n f ∧ Exa Z h' h.size ad ∧
      ∀ target, Steps p.tables e below (T'.setTop { g with pc := g.pc + 3, stack := .ref h.size :: rest }) target → Steps p.tables e below (T.setTop g) target := by
  obtain ⟨cl, A, q1, S, H, G⟩ := F
  have FC : FitC Z cl := fitC_of A fun i hi v hv => by rw [H i (S ▸ hi)] at hv; cases hv; exact G i (S ▸ hi)
  obtain ⟨T', h', X', e', ex, A', E', st⟩ := cloneA X hx hZ hown w1 w2 w3 w4 w5 w6 eT A E FC hg hsize hst hd hf hW hl (by rw [S]; exact hcap) hc hsl
  exact ⟨T', h', X', e', ex, ⟨cloneOf cl, A', q1, S, H, G⟩, E', st⟩
end Arf
theorem and1_cases (x : Int32) : x &&& (1 : Int32) = (0 : Int32) ∨ x &&& (1 : Int32) = (1 : Int32) := and_one x
theorem and3_cases (x : Int32) : x &&& (3 : Int32) = (0 : Int32) ∨ x &&& (3 : Int32) = (1 : Int32) ∨ x &&& (3 : Int32) = (2 : Int32) ∨ x &&& (3 : Int32) = (3 : Int32) := by
  have h := c_mask x 3 2 (by decide) (by decide)
  simp only [← Int32.toInt_inj]
  have : (0 : Int32).toInt = 0 := by decide
  have : (1 : Int32).toInt = 1 := by decide
  have : (2 : Int32).toInt = 2 := by decide
  have : (3 : Int32).toInt = 3 := by decide
  omega
end Jvm.OwnKit
namespace Jvm.OwnKit
open Sem ClassFile Op Lib Jvm.Stand Jvm.Free Jvm.LawKit Jvm.RoadKit
section GoW
variable {p : Program} {l : Launch} {e : Env} {R : Room} {s : State} {m : MethodId} {args : Array Value} {below : List Frame} {meth : Method} {c : Code} {T T' : State} {locs : List Loc} {cells slots : Nat} {g g' : JFrame} {Q : Option Value → Heap → List Loc → Prop} {k n pc : Nat} {Ls : Array Slot} {rest : List Value} {Z : State} {EL : List (String × Nat)} {vm0 : Vm} {a0 : Array Value} {h h0 : Heap} {k0 : Nat}
abbrev PoW (s Z : State) (EL : List (String × Nat)) (Q : Option Value → Heap → List Loc → Prop) (k n : Nat) : Outcome → State → Prop := fun o U' => ∃ v L, o = .returned v ∧ Q v U'.heap L ∧ CHr Z EL s.vm s.heap U'.vm U'.heap ∧ ReturnedEndW s o U' L k n
theorem outW (X : Stand p l e R (s.setVm vm0) m args below meth c T locs cells slots) (hZ : Z.Warmed39 vm0) (hEL : EW Z a0 EL) (eT : T.heap = h) (hS : s.Since vm0 k0) (hk : k0 ≤ h.size) (CR : CHr Z EL s.vm s.heap vm0 h) {v : Option Value} (hl : meth.locks = false) (hv : meth.sig.returnType = none → v = none)
    (hst : ∀ fs : List Frame, (∀ (f : JFrame) (acts : List Action), f.method = m → f.locked = none → f.entered = [] → (doReturn e (T.setTop f) acts v).1 = T.setFrames fs) → Steps p.tables e below (T.setTop g) (T.setFrames fs))
    (hc : cells ≤ k) (hn : slots ≤ n) (hQ : Q v T.heap locs) : Go p e below T g (PoW s Z EL Q k n) := by
  obtain ⟨fs, hr, hrun, hended, hW, h1, h2, hsame⟩ := X.leaveW hS (by rw [eT]; exact hk) (v := v) hv hl
  have hC : CHr Z EL s.vm s.heap T.vm T.heap := by rw [eT]; exact CR.trans (CHv.at X hZ hEL CR.1)
  exact ⟨_, _, hst fs hr, hrun, hended, v, locs, rfl, hQ, hC, hW, h1, h2, hsame.mono hc hn⟩
theorem outNW (X : Stand p l e R (s.setVm vm0) m args below meth c T locs cells slots) (hx : p.tables.exec = Jvm.exec) (hZ : Z.Warmed39 vm0) (hEL : EW Z a0 EL) (eT : T.heap = h) (hS : s.Since vm0 k0) (hk : k0 ≤ h.size) (CR : CHr Z EL s.vm s.heap vm0 h) {t : FieldType} {z : Int32} (hret : meth.sig.returnType = some t) (ht : t = .boolean ∨ t = .byte ∨ t = .char ∨ t = .short) (hd : decode c.code pc = .ok (.ireturn, 1)) (hl : meth.locks = false)
    (hc : cells ≤ k) (hn : slots ≤ n) (hQ : Q (some (.int (nar t z))) T.heap locs) : Go p e below T (mkF m pc Ls (.int z :: rest)) (PoW s Z EL Q k n) :=
  outW X hZ hEL eT hS hk CR hl (fun h => by rw [hret] at h; cases h) (fun fs hr => retN X hx hret ht hd hr) hc hn hQ
theorem outIW (X : Stand p l e R (s.setVm vm0) m args below meth c T locs cells slots) (hx : p.tables.exec = Jvm.exec) (hZ : Z.Warmed39 vm0) (hEL : EW Z a0 EL) (eT : T.heap = h) (hS : s.Since vm0 k0) (hk : k0 ≤ h.size) (CR : CHr Z EL s.vm s.heap vm0 h) {z : Int32} (hret : meth.sig.returnType = some .int) (hd : decode c.code pc = .ok (.ireturn, 1)) (hl : meth.locks = false)
    (hc : cells ≤ k) (hn : slots ≤ n) (hQ : Q (some (.int z)) T.heap locs) : Go p e below T (mkF m pc Ls (.int z :: rest)) (PoW s Z EL Q k n) :=
  outW X hZ hEL eT hS hk CR hl (fun h => by rw [hret] at h; cases h) (fun fs hr => retOut X hx hret rfl (Or.inl ⟨rfl, Or.inl rfl, _, rfl⟩) hd hr) hc hn hQ
theorem outAW (X : Stand p l e R (s.setVm vm0) m args below meth c T locs cells slots) (hx : p.tables.exec = Jvm.exec) (hZ : Z.Warmed39 vm0) (hEL : EW Z a0 EL) (eT : T.heap = h) (hS : s.Since vm0 k0) (hk : k0 ≤ h.size) (CR : CHr Z EL s.vm s.heap vm0 h) {w : Value} {t : FieldType} (hret : meth.sig.returnType = some t) (ht : t.isReference = true) (hw : w.isRef = true) (hd : decode c.code pc = .ok (.areturn, 1)) (hl : meth.locks = false)
    (hc : cells ≤ k) (hn : slots ≤ n) (hQ : Q (some w) T.heap locs) : Go p e below T (mkF m pc Ls (w :: rest)) (PoW s Z EL Q k n) := by
  refine outW X hZ hEL eT hS hk CR hl (fun h => by rw [hret] at h; cases h) (fun fs hr => retOut X hx hret ?_ (Or.inr (Or.inr (Or.inr (Or.inr ⟨rfl, ht, hw⟩)))) hd hr) hc hn hQ
  rcases ref_cases hw with rfl | ⟨a, rfl⟩ <;> cases t <;> first | rfl | cases ht
theorem outVW (X : Stand p l e R (s.setVm vm0) m args below meth c T locs cells slots) (hx : p.tables.exec = Jvm.exec) (hZ : Z.Warmed39 vm0) (hEL : EW Z a0 EL) (eT : T.heap = h) (hS : s.Since vm0 k0) (hk : k0 ≤ h.size) (CR : CHr Z EL s.vm s.heap vm0 h) (hret : meth.sig.returnType = none) (hd : decode c.code pc = .ok (.return_, 1)) (hl : meth.locks = false)
    (hc : cells ≤ k) (hn : slots ≤ n) (hQ : Q none T.heap locs) : Go p e below T (mkF m pc Ls []) (PoW s Z EL Q k n) :=
  outW X hZ hEL eT hS hk CR hl (fun _ => rfl) (fun fs hr => X.returnOut hx hret hd hr) hc hn hQ
theorem startW {y : MethodName} {bytes : ByteArray} {maxL : Nat} {ret : Option FieldType} {ws : List Cond} {rm : Room} {as' : Array Value} (hpl : plainFor y = true)
    (body : ∀ p e s m below meth c T, Stand p l e rm (s.setVm s.vm) m as' below meth c T [] 0 0 → p.tables.exec = Jvm.exec → c.code = bytes → c.maxLocals = maxL → s.vm.findClass y.cls = some m.cls → meth.name = y.name → meth.sig.returnType = ret → meth.locks = false → Z.Warmed39 s.vm → T.heap = h0 → s.Since s.vm 0 → CHr Z EL s.vm s.heap s.vm h0 →
      Go p e below T (entryFrame m as' maxL) (PoW s Z EL Q k n)) :
    MetFree l y (head1 (Cond.code y bytes maxL ret :: ws) rm) (fun a U => a = as' ∧ Z.Warmed39 U.vm ∧ U.heap = h0 ∧ CHv Z EL U.vm h0) (fun _ _ _ _ _ => True) (fun _ U o U' => ∃ v L, o = .returned v ∧ Q v U'.heap L ∧ CHr Z EL U.vm U.heap U'.vm U'.heap ∧ ReturnedEndW U o U' L k n) := by
  refine MetFree.of_bodySF hpl hisR ?_
  intro p e s m args below meth c s₁ Bd hml0 hP hK
  obtain ⟨rfl, hZ, hh, hC⟩ := hP
  have X : Stand p l e rm s m args below meth c s₁ [] 0 0 := Stand.of_body Bd
  exact body p e s m below meth c s₁ X Bd.exec Bd.bytes hml0 (findClass_of_methodNamed Bd.named) (name_of_methodNamed Bd.named Bd.method).1 Bd.returns Bd.notSynchronized hZ (by rw [← hh, Bd.state]; rfl) ((State.WarmedH.refl s).since 0) (by rw [hh]; exact CHr.refl hC)
/-- a String whose value is still null is no constant's -/
theorem safeNull {x : Addr} {vm : Vm} (hal : Z.vm.Alike vm) (E : Exa Z h x "java/lang/String") (F : Fld Z h x "java/lang/String" "value" "[B" .null) : Safe Z EL vm h x := fun B => by
  obtain ⟨cell, k, e1, e2, e3, -, -⟩ := E
  obtain ⟨c', cf, kf, i, f, f1, f2, f3, f4, f5, f6, f7⟩ := F
  cases e1.symm.trans f1
  obtain ⟨p, -, u, a, -, q, -, G, rfl | rfl⟩ := B
  · cases (show h[q.sa]? = some q.sC from G.ha).symm.trans e1
    obtain ⟨cS, ⟨hs, -, -⟩, -⟩ := G
    obtain ⟨-, -, -, ⟨c4, k4, i4, r1, r2⟩, -, -, -, r7, -⟩ := hs
    obtain ⟨k', r3, -⟩ := State.fieldFound?_setVm (s := Z) hal f2
    have r1' : (Z.setVm vm).fieldFound? "java/lang/String" "value" "[B" = some (c4, k4, i4, q.fSV) := r1
    cases r3.symm.trans r1'
    cases f7.symm.trans r7
  · cases (show h[q.sd]? = some q.SA from G.hd).symm.trans e1
    obtain ⟨cS, -, -, g, -⟩ := G
    have g' : Z.vm.findClass "[B" = some q.SA.cls := by rw [← hal.findClass]; exact g
    obtain ⟨k1, q1, q2⟩ := Vm.findClass_spec g'
    obtain ⟨k2, q3, q4⟩ := Vm.findClass_spec e2
    cases q1.symm.trans q3
    exact absurd (q2.symm.trans q4) (by decide)
end GoW
end Jvm.OwnKit
namespace Jvm.OwnKit
open Sem ClassFile Op Lib Jvm.Stand Jvm.Free Jvm.LawKit Jvm.RoadKit
section Str
variable {Z : State} {h h' : Heap} {x w o : Addr} {cs : List Int32} {sl n : Nat} {v : Value} {ws : List Addr} {C : String} {a0 : Array Value} {k : ClassId} {ty : FieldType} {z : Int32} {vs : List Value} {d : Value}
/-- x is a Latin-1 String of these chars -/
def StrIs (Z : State) (h : Heap) (x : Addr) (cs : List Int32) : Prop := ∃ (t : Addr) (k : ClassId), Exa Z h x "java/lang/String" ∧ Fld Z h x "java/lang/String" "value" "[B" (.ref t) ∧ Fld Z h x "java/lang/String" "coder" "B" (.int 0) ∧ Arv Z h t k .byte (Int32.ofNat cs.length) ((cs.map fun c => c.toInt8.toInt32).map Value.int) (.int 0) ∧ (∀ c ∈ cs, ¬ c < 0 ∧ ¬ (255 : Int32) < c) ∧ cs.length ≤ 4000
/-- w is no byte[] -/
def Apart (Z : State) (h : Heap) (w : Addr) : Prop := ∀ (t : Addr) (k : ClassId) (z : Int32) (vs : List Value) (d : Value), Arv Z h t k .byte z vs d → t ≠ w
theorem Apart.exa (E : Exa Z h w C) (wi : (Cond.instantiable C n).before a0 Z = true) : Apart Z h w := fun _ _ _ _ _ F => Ne.symm (E.neArv F wi)
theorem Apart.arv (F : Arv Z h w k ty z vs d) (ht : ty ≠ .byte) : Apart Z h w := fun t k' z' vs' d' G e => by
  subst e
  obtain ⟨c1, ⟨e1, ⟨-, k1, f1, p1, g1⟩, -⟩, -⟩ := F
  obtain ⟨c2, ⟨e2, ⟨-, k2, f2, p2, g2⟩, -⟩, -⟩ := G
  cases e1.symm.trans e2
  cases f1.symm.trans f2
  rw [g1] at g2
  cases g2
  exact ht rfl
theorem apart0 : ∀ x ∈ ([] : List Addr), Apart Z h x := fun _ q => nomatch q
theorem apartS (A : Apart Z h w) (r : ∀ x ∈ ws, Apart Z h x) : ∀ x ∈ w :: ws, Apart Z h x := fun x q => (List.mem_cons.mp q).elim (fun u => u ▸ A) (r x)
theorem StrIs.exa (F : StrIs Z h x cs) : Exa Z h x "java/lang/String" := by
  obtain ⟨t, k, E, -⟩ := F
  exact E
theorem StrIs.lt (F : StrIs Z h x cs) : x < h.size := F.exa.lt
theorem StrIs.small (F : StrIs Z h x cs) : ∀ c ∈ cs, ¬ c < 0 ∧ ¬ (255 : Int32) < c := by
  obtain ⟨t, k, -, -, -, -, hp, -⟩ := F
  exact hp
theorem StrIs.ext (F : StrIs Z h x cs) (E : Ext h h') : StrIs Z h' x cs := by
  obtain ⟨t, k, E1, V1, C1, K1, r⟩ := F
  exact ⟨t, k, E1.ext E, V1.ext E, C1.ext E, K1.ext E, r⟩
theorem StrIs.wr (F : StrIs Z h x cs) (W : Wr h h' o sl v) (ne : x ≠ o) (A : Apart Z h o) : StrIs Z h' x cs := by
  obtain ⟨t, k, E1, V1, C1, K1, r⟩ := F
  exact ⟨t, k, E1.wr W, V1.other W (Or.inl ne), C1.other W (Or.inl ne), K1.other W (A _ _ _ _ _ K1), r⟩
theorem StrIs.keep (F : StrIs Z h x cs) (K : Keep h h' ws) (q : x ∉ ws) (A : ∀ y ∈ ws, Apart Z h y) : StrIs Z h' x cs := by
  obtain ⟨t, k, E1, V1, C1, K1, r⟩ := F
  exact ⟨t, k, E1.keep K, V1.keep K q, C1.keep K q, K1.keep K (fun m => A t m _ _ _ _ _ K1 rfl), r⟩
theorem StrIs.of {t : Addr} (E : Exa Z h x "java/lang/String") (V : Fld Z h x "java/lang/String" "value" "[B" (.ref t)) (C : Fld Z h x "java/lang/String" "coder" "B" (.int 0)) (K : Arv Z h t k .byte z vs (.int 0)) (hz : z = Int32.ofNat cs.length) (hv : vs = (cs.map fun c => c.toInt8.toInt32).map Value.int) (hp : ∀ c ∈ cs, ¬ c < 0 ∧ ¬ (255 : Int32) < c) (hl : cs.length ≤ 4000) : StrIs Z h x cs := by
  subst hz hv
  exact ⟨t, k, E, V, C, K, hp, hl⟩
theorem own_one255 {k : Int32} (h : ¬ k < 0 ∧ ¬ (255 : Int32) < k) : ∀ c ∈ ([k] : List Int32), ¬ c < 0 ∧ ¬ (255 : Int32) < c := by
  intro c hc
  cases List.mem_singleton.mp hc
  exact h
end Str
end Jvm.OwnKit
/- laws to paste: Road.backV, Road.eqW, Road.codOf (cut by pick.py; bodies as the Statement names them) -/
namespace Jvm.Pilot.@@N@@
namespace StrChars
open Jvm Sem ClassFile Op Lib Jvm.Stand Jvm.Free.XT Jvm.Free.ALB Jvm.Free.JM Jvm.Free
open Jvm.Lib.Cold (StaticIs)
/-- a char array whose places are chars -/
def Ch (a : Addr) (A : Cell) (U : State) : Prop := Arr .char a A U ∧ Typed .char A
theorem Ch.mv {a : Addr} {A : Cell} {U U' : State} (h : Ch a A U) (hal : U.vm.Alike U'.vm) (hh : U'.heap = U.heap) : Ch a A U' := ⟨h.1.mv hal hh, h.2⟩
theorem Ch.keep {a : Addr} {A : Cell} {U U' : State} (h : Ch a A U) (hal : U.vm.Alike U'.vm) (hk : U'.heap[a]? = some A) : Ch a A U' := ⟨h.1.keep hal hk, h.2⟩
/-- what place i of a char[]'s cell holds -/
def cv (A : Cell) (i : Nat) : Int32 := match A.slots[i]? with | some (.int x) => x | _ => 0
theorem Ch.get {a : Addr} {A : Cell} {U : State} (h : Ch a A U) {i : Nat} (hi : i < A.slots.size) : A.slots[i]? = some (.int (cv A i)) := by
  have e := Array.getElem?_eq_getElem hi
  have f := h.2 i _ e
  unfold cv; rw [e]
  generalize A.slots[i] = v at f
  cases v <;> simp [fits] at f ⊢
/-- the byte that i2b leaves of a char -/
def lo8 (x : Int32) : Int32 := x.toInt8.toInt32
theorem fits_lo8 (y : Int32) : fits .byte (.int (lo8 y)) = true := by
  have h1 := y.toInt8.le_toInt
  have h2 := y.toInt8.toInt_lt
  simp only [lo8, fits, Bool.and_eq_true, decide_eq_true_eq, Int32.le_iff_toInt_le, Int8.toInt_toInt32, show (-128 : Int32).toInt = -128 from by decide, show (127 : Int32).toInt = 127 from by decide]
  omega
/-- A' is A but that each place j of lo .. hi - 1 holds f j -/
def Laid (A A' : Cell) (lo hi : Nat) (f : Nat → Value) : Prop := A'.cls = A.cls ∧ A'.vm = A.vm ∧ A'.slots.size = A.slots.size ∧ ∀ i, A'.slots[i]? = if lo ≤ i ∧ i < hi then some (f i) else A.slots[i]?
theorem Laid.zero (A : Cell) (lo : Nat) (f : Nat → Value) : Laid A A lo (lo + 0) f := ⟨rfl, rfl, rfl, fun i => by rw [if_neg (by omega)]⟩
theorem Laid.step {A Ak : Cell} {lo k : Nat} {f : Nat → Value} {v : Value} (h : Laid A Ak lo k f) (hlo : lo ≤ k) (hk : k < Ak.slots.size) (hv : v = f k) : Laid A (Ak.setSlot k v) lo (k + 1) f := by
  refine ⟨h.1, h.2.1, by simpa [Cell.setSlot] using h.2.2.1, fun i => ?_⟩
  by_cases e : k = i
  · subst e; rw [Cell.slots_setSlot_self v hk, if_pos (by omega), hv]
  · rw [Cell.slots_setSlot_ne v e, h.2.2.2 i]
    by_cases q : lo ≤ i ∧ i < k
    · rw [if_pos q, if_pos (by omega)]
    · rw [if_neg q, if_neg (by omega)]
def U16 : String := "java/lang/StringUTF16"
namespace Cmp5
def yN : MethodName := ⟨"java/lang/StringUTF16", "compress", "([CI[BII)I"⟩
abbrev yB : ByteArray := jdk_52_method_21_code
theorem d0 : decode yB 0 = .ok (.iconst 0, 1) := by decide +kernel
theorem d1 : decode yB 1 = .ok (.istore 5, 2) := by decide +kernel
theorem d3 : decode yB 3 = .ok (.iload 5, 2) := by decide +kernel
theorem d5 : decode yB 5 = .ok (.iload 4, 2) := by decide +kernel
theorem d7 : decode yB 7 = .ok (.if_icmp (.ge) 37, 3) := by decide +kernel
theorem d10 : decode yB 10 = .ok (.aload_n 0, 1) := by decide +kernel
theorem d11 : decode yB 11 = .ok (.iload_n 1, 1) := by decide +kernel
theorem d12 : decode yB 12 = .ok (.caload, 1) := by decide +kernel
theorem d13 : decode yB 13 = .ok (.istore 6, 2) := by decide +kernel
theorem d15 : decode yB 15 = .ok (.iload 6, 2) := by decide +kernel
theorem d17 : decode yB 17 = .ok (.sipush 255, 3) := by decide +kernel
theorem d20 : decode yB 20 = .ok (.if_icmp (.le) 6, 3) := by decide +kernel
theorem d26 : decode yB 26 = .ok (.aload_n 2, 1) := by decide +kernel
theorem d27 : decode yB 27 = .ok (.iload_n 3, 1) := by decide +kernel
theorem d28 : decode yB 28 = .ok (.iload 6, 2) := by decide +kernel
theorem d30 : decode yB 30 = .ok (.i2b, 1) := by decide +kernel
theorem d31 : decode yB 31 = .ok (.bastore, 1) := by decide +kernel
theorem d32 : decode yB 32 = .ok (.iinc 1 1, 3) := by decide +kernel
theorem d35 : decode yB 35 = .ok (.iinc 3 1, 3) := by decide +kernel
theorem d38 : decode yB 38 = .ok (.iinc 5 1, 3) := by decide +kernel
theorem d41 : decode yB 41 = .ok (.goto (-38), 3) := by decide +kernel
theorem d44 : decode yB 44 = .ok (.iload 4, 2) := by decide +kernel
theorem d46 : decode yB 46 = .ok (.ireturn, 1) := by decide +kernel
def site : List Cond := []
def tab : Cond := tabOf yN yB 7 (some .int) site
def P (b : Addr) (A : Cell) (d : Addr) (B : Cell) (o q len : Nat) (args : Array Value) (s : State) : Prop := args = #[.ref b, .int (Int32.ofNat o), .ref d, .int (Int32.ofNat q), .int (Int32.ofNat len)] ∧ Ch b A s ∧ Arr .byte d B s ∧ b ≠ d ∧ o + len ≤ A.slots.size ∧ q + len ≤ B.slots.size ∧ ∀ i, i < len → ¬ 255 < cv A (o + i)
def E (b : Addr) (A : Cell) (d : Addr) (B : Cell) (o q len : Nat) (r : Option Value) (s u : State) : Prop := r = some (.int (Int32.ofNat len)) ∧ ∃ B', Put d B' s u ∧ Laid B B' q (q + len) (fun j => Value.int (lo8 (cv A (o + (j - q)))))
/-- no char of the range above 255: len; the places written hold each char's low byte -/
theorem law (l : Launch) (b : Addr) (A : Cell) (d : Addr) (B : Cell) (o q len : Nat) : Law l yN 5 5 0 0 yB 7 (some .int) site (P b A d B o q len) (E b A d B o q len) (copyLocs d q len) 0 0 := by
  refine Law.of_walk (plainFor_of_name (by decide +kernel)) (by decide +kernel) (by decide +kernel) (by decide) (fun _ _ h => by rw [h.1]; rfl) (fun _ U U' hal hh h => ⟨h.1, h.2.1.mv hal hh, h.2.2.1.mv hal hh, h.2.2.2⟩) (fun r U U' V V' h1 hal h2 h => ⟨h.1, h.2.elim fun B' q => ⟨B', q.1.mv h1 h2, q.2⟩⟩) ?_
  intro p e s m args below meth c s₁ X0 hexec hbytes hml hret hlk hnm hown hh0 W hP
  obtain ⟨rfl, hA, hB, hne, l1, l2, hp⟩ := hP
  have c1 : Steps p.tables e below (s₁.setTop (entryFrame m #[.ref b, .int (Int32.ofNat o), .ref d, .int (Int32.ofNat q), .int (Int32.ofNat len)] 7)) (s₁.setTop (mkF m 0 #[.val (.ref b), .val (.int (Int32.ofNat o)), .val (.ref d), .val (.int (Int32.ofNat q)), .val (.int (Int32.ofNat len)), .unset, .unset] [])) := entry rfl
  have hA0 := hA.1.mv X0.warmed.alike hh0
  have hB0 := hB.mv X0.warmed.alike hh0
  have a31 := hA.1.2.2.2
  have c2 : Steps p.tables e below (s₁.setTop (entryFrame m #[.ref b, .int (Int32.ofNat o), .ref d, .int (Int32.ofNat q), .int (Int32.ofNat len)] 7)) (s₁.setTop (mkF m 3 #[.val (.ref b), .val (.int (Int32.ofNat o)), .val (.ref d), .val (.int (Int32.ofNat q)), .val (.int (Int32.ofNat len)), .val (.int 0), .unset] [])) := c1.trans (by
    refine iconstV X0.here hexec rfl 0 (hb hbytes d0) (by decide) ?_
    refine XS.istore X0.here hexec rfl (hb hbytes d1) rfl rfl ?_
    exact Steps.refl _)
  have loop : ∀ (r i : Nat), i + r = len → ∀ (z : Slot), (z = .unset ∨ ∃ w, z = .val w ∧ w.category = 1) → ∀ (Tl : State) (Bk : Cell), Stand p l e { frames := 0, locals := 0, cells := 0, slots := 0 } s m #[.ref b, .int (Int32.ofNat o), .ref d, .int (Int32.ofNat q), .int (Int32.ofNat len)] below meth c Tl ([] ++ copyLocs d q i) 0 0 → Put d Bk s₁ Tl → Laid B Bk q (q + i) (fun j => Value.int (lo8 (cv A (o + (j - q))))) →
      Steps p.tables e below (s₁.setTop (entryFrame m #[.ref b, .int (Int32.ofNat o), .ref d, .int (Int32.ofNat q), .int (Int32.ofNat len)] 7)) (Tl.setTop (mkF m 3 #[.val (.ref b), .val (.int (Int32.ofNat (o + i))), .val (.ref d), .val (.int (Int32.ofNat (q + i))), .val (.int (Int32.ofNat len)), .val (.int (Int32.ofNat i)), z] [])) → ∃ (T' : State) (B' : Cell) (z' : Slot), Stand p l e { frames := 0, locals := 0, cells := 0, slots := 0 } s m #[.ref b, .int (Int32.ofNat o), .ref d, .int (Int32.ofNat q), .int (Int32.ofNat len)] below meth c T' ([] ++ copyLocs d q len) 0 0 ∧ Put d B' s₁ T' ∧ Laid B B' q (q + len) (fun j => Value.int (lo8 (cv A (o + (j - q))))) ∧
      Steps p.tables e below (s₁.setTop (entryFrame m #[.ref b, .int (Int32.ofNat o), .ref d, .int (Int32.ofNat q), .int (Int32.ofNat len)] 7)) (T'.setTop (mkF m 3 #[.val (.ref b), .val (.int (Int32.ofNat (o + len))), .val (.ref d), .val (.int (Int32.ofNat (q + len))), .val (.int (Int32.ofNat len)), .val (.int (Int32.ofNat len)), z'] [])) := by
    intro r
    induction r with
    | zero =>
      intro i hi z hz Tl Bk Xl pl fl cl
      have hil : i = len := by omega
      rw [hil] at Xl fl cl
      exact ⟨Tl, Bk, z, Xl, pl, fl, cl⟩
    | succ r ih =>
      intro i hi z hz Tl Bk Xl pl fl cl
      have all := X0.warmed.alike.symm.trans Xl.warmed.alike
      have hAl := hA0.keep all (pl.other hne hA0.1)
      have hBk := hB0.like all pl.1 fl.1 fl.2.1 fl.2.2.1
      have hlt : q + i < Bk.slots.size := by rw [fl.2.2.1]; omega
      have c3 : Steps p.tables e below (s₁.setTop (entryFrame m #[.ref b, .int (Int32.ofNat o), .ref d, .int (Int32.ofNat q), .int (Int32.ofNat len)] 7)) (Tl.setTop (mkF m 12 #[.val (.ref b), .val (.int (Int32.ofNat (o + i))), .val (.ref d), .val (.int (Int32.ofNat (q + i))), .val (.int (Int32.ofNat len)), .val (.int (Int32.ofNat i)), z] [.int (Int32.ofNat (o + i)), .ref b])) := cl.trans (by
        refine XS.iload Xl.here hexec rfl (hb hbytes d3) rfl ?_
        refine XS.iload Xl.here hexec rfl (hb hbytes d5) rfl ?_
        refine XS.icmpNo Xl.here hexec rfl (hb hbytes d7) rfl (ii_ge_f (lt32 (by omega) (by omega))) ?_
        refine XS.aloadN Xl.here hexec rfl (hb hbytes d10) rfl rfl ?_
        refine XS.iloadN Xl.here hexec rfl (hb hbytes d11) rfl ?_
        exact Steps.refl _)
      have c4 : Steps p.tables e below (s₁.setTop (entryFrame m #[.ref b, .int (Int32.ofNat o), .ref d, .int (Int32.ofNat q), .int (Int32.ofNat len)] 7)) (Tl.setTop (mkF m 13 #[.val (.ref b), .val (.int (Int32.ofNat (o + i))), .val (.ref d), .val (.int (Int32.ofNat (q + i))), .val (.int (Int32.ofNat len)), .val (.int (Int32.ofNat i)), z] [.int (cv A (o + i))])) := c3.trans (by
        refine Xl.aget hexec hAl rfl (hA.get (i := o + i) (by omega)) rfl rfl (hb hbytes d12) ?_
        exact Steps.refl _)
      have c5 : Steps p.tables e below (s₁.setTop (entryFrame m #[.ref b, .int (Int32.ofNat o), .ref d, .int (Int32.ofNat q), .int (Int32.ofNat len)] 7)) (Tl.setTop (mkF m 15 #[.val (.ref b), .val (.int (Int32.ofNat (o + i))), .val (.ref d), .val (.int (Int32.ofNat (q + i))), .val (.int (Int32.ofNat len)), .val (.int (Int32.ofNat i)), .val (.int (cv A (o + i)))] [])) := c4.trans (by
        refine XS.istoreS Xl.here hexec rfl (hb hbytes d13) rfl rfl hz ?_
        exact Steps.refl _)
      have c6 : Steps p.tables e below (s₁.setTop (entryFrame m #[.ref b, .int (Int32.ofNat o), .ref d, .int (Int32.ofNat q), .int (Int32.ofNat len)] 7)) (Tl.setTop (mkF m 31 #[.val (.ref b), .val (.int (Int32.ofNat (o + i))), .val (.ref d), .val (.int (Int32.ofNat (q + i))), .val (.int (Int32.ofNat len)), .val (.int (Int32.ofNat i)), .val (.int (cv A (o + i)))] [.int (lo8 (cv A (o + i))), .int (Int32.ofNat (q + i)), .ref d])) := c5.trans (by
        refine XS.iload Xl.here hexec rfl (hb hbytes d15) rfl ?_
        refine sipushV Xl.here hexec rfl 255 (hb hbytes d17) (by decide) ?_
        refine XS.icmpYes Xl.here hexec rfl (pc0 := 20) rfl (hb hbytes d20) rfl (ii_le_t (hp i (by omega))) (by decide) rfl ?_
        refine XS.aloadN Xl.here hexec rfl (hb hbytes d26) rfl rfl ?_
        refine XS.iloadN Xl.here hexec rfl (hb hbytes d27) rfl ?_
        refine XS.iload Xl.here hexec rfl (hb hbytes d28) rfl ?_
        refine i2b Xl.here hexec rfl (hb hbytes d30) rfl ?_
        exact Steps.refl _)
      obtain ⟨T7, X7, p7, st7⟩ := Xl.aput hexec hBk rfl hlt rfl (fits_lo8 (cv A (o + i))) (g := (mkF m 31 #[.val (.ref b), .val (.int (Int32.ofNat (o + i))), .val (.ref d), .val (.int (Int32.ofNat (q + i))), .val (.int (Int32.ofNat len)), .val (.int (Int32.ofNat i)), .val (.int (cv A (o + i)))] [.int (lo8 (cv A (o + i))), .int (Int32.ofNat (q + i)), .ref d])) rfl (rest := []) rfl (hb hbytes d31)
      have c8 : Steps p.tables e below (s₁.setTop (entryFrame m #[.ref b, .int (Int32.ofNat o), .ref d, .int (Int32.ofNat q), .int (Int32.ofNat len)] 7)) (T7.setTop (mkF m 32 #[.val (.ref b), .val (.int (Int32.ofNat (o + i))), .val (.ref d), .val (.int (Int32.ofNat (q + i))), .val (.int (Int32.ofNat len)), .val (.int (Int32.ofNat i)), .val (.int (cv A (o + i)))] [])) := c6.trans (st7 _ (Steps.refl _))
      have c9 : Steps p.tables e below (s₁.setTop (entryFrame m #[.ref b, .int (Int32.ofNat o), .ref d, .int (Int32.ofNat q), .int (Int32.ofNat len)] 7)) (T7.setTop (mkF m 3 #[.val (.ref b), .val (.int (Int32.ofNat (o + i) + 1)), .val (.ref d), .val (.int (Int32.ofNat (q + i) + 1)), .val (.int (Int32.ofNat len)), .val (.int (Int32.ofNat i + 1)), .val (.int (cv A (o + i)))] [])) := c8.trans (by
        refine iincV X7.here hexec rfl 1 (hb hbytes d32) (by decide) rfl rfl ?_
        refine iincV X7.here hexec rfl 1 (hb hbytes d35) (by decide) rfl rfl ?_
        refine iincV X7.here hexec rfl 1 (hb hbytes d38) (by decide) rfl rfl ?_
        refine XS.goto X7.here hexec rfl (pc0 := 41) rfl (hb hbytes d41) (by decide) rfl ?_
        exact Steps.refl _)
      have c10 : Steps p.tables e below (s₁.setTop (entryFrame m #[.ref b, .int (Int32.ofNat o), .ref d, .int (Int32.ofNat q), .int (Int32.ofNat len)] 7)) (T7.setTop (mkF m 3 #[.val (.ref b), .val (.int (Int32.ofNat (o + (i + 1)))), .val (.ref d), .val (.int (Int32.ofNat (q + (i + 1)))), .val (.int (Int32.ofNat len)), .val (.int (Int32.ofNat (i + 1))), .val (.int (cv A (o + i)))] [])) := by
        have := c9
        rw [succ32, succ32, succ32] at this
        exact this
      exact ih (i + 1) (by omega) _ (Or.inr ⟨_, rfl, rfl⟩) T7 _ (by rw [copyLocs_step, ← List.append_assoc]; exact X7) (pl.trans p7) (fl.step (by omega) hlt (by simp)) c10
  obtain ⟨T9, B9, z9, X9, p9, f9, g9⟩ := loop len 0 (by omega) .unset (Or.inl rfl) s₁ B (by simpa [copyLocs] using X0) ⟨hB0.1, fun _ _ => rfl, rfl⟩ (Laid.zero _ _ _) c2
  have c11 : Steps p.tables e below (s₁.setTop (entryFrame m #[.ref b, .int (Int32.ofNat o), .ref d, .int (Int32.ofNat q), .int (Int32.ofNat len)] 7)) (T9.setTop (mkF m 46 #[.val (.ref b), .val (.int (Int32.ofNat (o + len))), .val (.ref d), .val (.int (Int32.ofNat (q + len))), .val (.int (Int32.ofNat len)), .val (.int (Int32.ofNat len)), z9] [.int (Int32.ofNat len)])) := g9.trans (by
    refine XS.iload X9.here hexec rfl (hb hbytes d3) rfl ?_
    refine XS.iload X9.here hexec rfl (hb hbytes d5) rfl ?_
    refine XS.icmpYes X9.here hexec rfl (pc0 := 7) rfl (hb hbytes d7) rfl (ii_ge_t (nlt32 (by omega) (Nat.le_refl _))) (by decide) rfl ?_
    refine XS.iload X9.here hexec rfl (hb hbytes d44) rfl ?_
    exact Steps.refl _)
  exact ⟨T9, some (.int (Int32.ofNat len)), _, _, _, X9, by simp, rfl, rfl, (fun h => by cases h), ⟨rfl, B9, p9.from hh0, f9⟩, fun fs hl => c11.trans (X9.ireturnOut hexec hret rfl (Or.inl rfl) (hb hbytes d46) hl)⟩
end Cmp5
namespace Cmp3
def yN : MethodName := ⟨"java/lang/StringUTF16", "compress", "([CII)[B"⟩
abbrev yB : ByteArray := jdk_52_method_16_code
theorem d0 : decode yB 0 = .ok (.iload_n 2, 1) := by decide +kernel
theorem d1 : decode yB 1 = .ok (.newarray .byte, 2) := by decide +kernel
theorem d3 : decode yB 3 = .ok (.astore_n 3, 1) := by decide +kernel
theorem d4 : decode yB 4 = .ok (.aload_n 0, 1) := by decide +kernel
theorem d5 : decode yB 5 = .ok (.iload_n 1, 1) := by decide +kernel
theorem d6 : decode yB 6 = .ok (.aload_n 3, 1) := by decide +kernel
theorem d7 : decode yB 7 = .ok (.iconst 0, 1) := by decide +kernel
theorem d8 : decode yB 8 = .ok (.iload_n 2, 1) := by decide +kernel
theorem d9 : decode yB 9 = .ok (.invokestatic 115, 3) := by decide +kernel
theorem d12 : decode yB 12 = .ok (.istore 4, 2) := by decide +kernel
theorem d14 : decode yB 14 = .ok (.iload 4, 2) := by decide +kernel
theorem d16 : decode yB 16 = .ok (.iload_n 2, 1) := by decide +kernel
theorem d17 : decode yB 17 = .ok (.if_icmp (.eq) 40, 3) := by decide +kernel
theorem d57 : decode yB 57 = .ok (.aload_n 3, 1) := by decide +kernel
theorem d58 : decode yB 58 = .ok (.areturn, 1) := by decide +kernel
def site : List Cond := [.arrayClass .byte, Cmp5.tab] ++ staticW U16 115 Cmp5.yN
def tab : Cond := tabOf yN yB 6 (some (.array .byte)) site
def P (b : Addr) (A : Cell) (o len : Nat) (args : Array Value) (s : State) : Prop := args = #[.ref b, .int (Int32.ofNat o), .int (Int32.ofNat len)] ∧ Ch b A s ∧ o + len ≤ A.slots.size ∧ len ≤ 536870912 ∧ ∀ i, i < len → ¬ 255 < cv A (o + i)
def E (b : Addr) (A : Cell) (o len : Nat) (r : Option Value) (s u : State) : Prop := NewArr .byte "[B" len (fun j => .int (lo8 (cv A (o + j)))) r s u ∧ u.heap.size = s.heap.size + 1
/-- no char of the range above 255: a new byte[] of their low bytes -/
theorem law (l : Launch) (b : Addr) (A : Cell) (o len : Nat) : Law l yN 3 3 1 18 yB 6 (some (.array .byte)) site (P b A o len) (E b A o len) [] 1 len := by
  refine Law.of_walk (plainFor_of_name (by decide +kernel)) (by decide +kernel) (by decide +kernel) (by decide) (fun _ _ h => by rw [h.1]; rfl) (fun _ U U' hal hh h => ⟨h.1, h.2.1.mv hal hh, h.2.2⟩) (fun r U U' V V' h1 hal h2 h => ⟨NewArr.mv r U U' V V' h1 hal h2 h.1, by rw [h1, h2]; exact h.2⟩) ?_
  intro p e s m args below meth c s₁ X0 hexec hbytes hml hret hlk hnm hown hh0 W hP
  obtain ⟨rfl, hA, l1, l2, hp⟩ := hP
  have a31 := hA.1.2.2.2
  have c1 : Steps p.tables e below (s₁.setTop (entryFrame m #[.ref b, .int (Int32.ofNat o), .int (Int32.ofNat len)] 6)) (s₁.setTop (mkF m 0 #[.val (.ref b), .val (.int (Int32.ofNat o)), .val (.int (Int32.ofNat len)), .unset, .unset, .unset] [])) := entry rfl
  have c2 : Steps p.tables e below (s₁.setTop (entryFrame m #[.ref b, .int (Int32.ofNat o), .int (Int32.ofNat len)] 6)) (s₁.setTop (mkF m 1 #[.val (.ref b), .val (.int (Int32.ofNat o)), .val (.int (Int32.ofNat len)), .unset, .unset, .unset] [.int (Int32.ofNat len)])) := c1.trans (by
    refine XS.iloadN X0.here hexec rfl (hb hbytes d0) rfl ?_
    exact Steps.refl _)
  obtain ⟨T3, B3, X3, ba3, bs3, bv3, bh3, bf3, st3⟩ := X0.anew hexec (atype := .byte) (wk W (.arrayClass .byte)) rfl (by show len * 1 ≤ _; omega) (by omega) (g := (mkF m 1 #[.val (.ref b), .val (.int (Int32.ofNat o)), .val (.int (Int32.ofNat len)), .unset, .unset, .unset] [.int (Int32.ofNat len)])) rfl (hb hbytes d1) (rest := []) rfl (Nat.le_refl _) (by show 0 + len ≤ len; omega)
  rw [hh0] at ba3 st3
  have kp3 : XT.Kept s T3 := (XT.Kept.of_eq hh0).push bh3
  have hA3 := hA.keep X3.warmed.alike (kp3 _ _ hA.1.1)
  have hne : b ≠ s.heap.size := hA.1.ne
  have c4 : Steps p.tables e below (s₁.setTop (entryFrame m #[.ref b, .int (Int32.ofNat o), .int (Int32.ofNat len)] 6)) (T3.setTop (mkF m 3 #[.val (.ref b), .val (.int (Int32.ofNat o)), .val (.int (Int32.ofNat len)), .unset, .unset, .unset] [.ref s.heap.size])) := c2.trans (st3 _ (Steps.refl _))
  have c5 : Steps p.tables e below (s₁.setTop (entryFrame m #[.ref b, .int (Int32.ofNat o), .int (Int32.ofNat len)] 6)) (T3.setTop (mkF m 9 #[.val (.ref b), .val (.int (Int32.ofNat o)), .val (.int (Int32.ofNat len)), .val (.ref s.heap.size), .unset, .unset] [.int (Int32.ofNat len), .int 0, .ref s.heap.size, .int (Int32.ofNat o), .ref b])) := c4.trans (by
    refine XS.astoreN X3.here hexec rfl (hb hbytes d3) rfl rfl rfl ?_
    refine XS.aloadN X3.here hexec rfl (hb hbytes d4) rfl rfl ?_
    refine XS.iloadN X3.here hexec rfl (hb hbytes d5) rfl ?_
    refine XS.aloadN X3.here hexec rfl (hb hbytes d6) rfl rfl ?_
    refine iconstV X3.here hexec rfl 0 (hb hbytes d7) (by decide) ?_
    refine XS.iloadN X3.here hexec rfl (hb hbytes d8) rfl ?_
    exact Steps.refl _)
  obtain ⟨v6, T6, X6, E6, g6⟩ := X3.callS hexec (Cmp5.law l b A s.heap.size B3 o 0 len) hown (wks W (staticW U16 115 Cmp5.yN)) (wk W Cmp5.tab) (W := 0) (Nat.le_of_ble_eq_true rfl) (Nat.le_of_ble_eq_true rfl) (Nat.le_refl _) (by show 0 + len + 0 ≤ len; omega) (g := (mkF m 9 #[.val (.ref b), .val (.int (Int32.ofNat o)), .val (.int (Int32.ofNat len)), .val (.ref s.heap.size), .unset, .unset] [.int (Int32.ofNat len), .int (Int32.ofNat 0), .ref s.heap.size, .int (Int32.ofNat o), .ref b])) rfl (by rw [hml]; rfl) c5 (argsL := [.ref b, .int (Int32.ofNat o), .ref s.heap.size, .int (Int32.ofNat 0), .int (Int32.ofNat len)]) (rest := []) rfl rfl (by show 2 * 0 + 0 ≤ _; decide) (hb hbytes d9) (⟨rfl, hA3, ba3, hne, l1, by rw [bs3]; simp, hp⟩)
  obtain ⟨rfl, B6, p6, f6⟩ := E6
  have c7 : Steps p.tables e below (s₁.setTop (entryFrame m #[.ref b, .int (Int32.ofNat o), .int (Int32.ofNat len)] 6)) (T6.setTop (mkF m 12 #[.val (.ref b), .val (.int (Int32.ofNat o)), .val (.int (Int32.ofNat len)), .val (.ref s.heap.size), .unset, .unset] [.int (Int32.ofNat len)])) := g6
  have c8 : Steps p.tables e below (s₁.setTop (entryFrame m #[.ref b, .int (Int32.ofNat o), .int (Int32.ofNat len)] 6)) (T6.setTop (mkF m 58 #[.val (.ref b), .val (.int (Int32.ofNat o)), .val (.int (Int32.ofNat len)), .val (.ref s.heap.size), .val (.int (Int32.ofNat len)), .unset] [.ref s.heap.size])) := c7.trans (by
    refine XS.istore X6.here hexec rfl (hb hbytes d12) rfl rfl ?_
    refine XS.iload X6.here hexec rfl (hb hbytes d14) rfl ?_
    refine XS.iloadN X6.here hexec rfl (hb hbytes d16) rfl ?_
    refine XS.icmpYes X6.here hexec rfl (pc0 := 17) rfl (hb hbytes d17) rfl (ii_eq_t rfl) (by decide) rfl ?_
    refine XS.aloadN X6.here hexec rfl (hb hbytes d57) rfl rfl ?_
    exact Steps.refl _)
  have X8 := X6.wide (L' := []) (cells' := 1) (slots' := len) (fun x hx hlt => by
    simp only [List.nil_append, copyLocs, List.mem_map, List.mem_range] at hx
    obtain ⟨i, -, rfl⟩ := hx
    exact absurd hlt (Nat.lt_irrefl _)) (Nat.le_refl _) (by omega)
  exact ⟨T6, some (.ref s.heap.size), _, _, _, X8, rfl, rfl, rfl, (fun h => by cases h), ⟨⟨rfl, B6, ba3.like (X3.warmed.alike.symm.trans X6.warmed.alike) p6.1 f6.1 f6.2.1 f6.2.2.1, f6.2.1.trans bv3, by rw [X6.warmed.alike.findClass, f6.1]; exact bf3, by rw [f6.2.2.1, bs3]; simp, fun j hj => by rw [f6.2.2.2 j, if_pos (by omega)]; rfl, kp3.put p6 (Nat.le_refl _)⟩, by rw [p6.2.2, bh3, hh0]; simp⟩, fun fs hl => c8.trans (X8.areturnOut hexec rfl hret rfl (hb hbytes d58) hl)⟩
end Cmp3
namespace CodL
def yN : MethodName := ⟨"java/lang/StringUTF16", "coderFromArrayLen", "([BI)B"⟩
abbrev yB : ByteArray := jdk_52_method_15_code
theorem d0 : decode yB 0 = .ok (.iload_n 1, 1) := by decide +kernel
theorem d1 : decode yB 1 = .ok (.aload_n 0, 1) := by decide +kernel
theorem d2 : decode yB 2 = .ok (.arraylength, 1) := by decide +kernel
theorem d3 : decode yB 3 = .ok (.isub, 1) := by decide +kernel
theorem d4 : decode yB 4 = .ok (.bipush 31, 2) := by decide +kernel
theorem d6 : decode yB 6 = .ok (.iushr, 1) := by decide +kernel
theorem d7 : decode yB 7 = .ok (.i2b, 1) := by decide +kernel
theorem d8 : decode yB 8 = .ok (.ireturn, 1) := by decide +kernel
def site : List Cond := []
def tab : Cond := tabOf yN yB 2 (some .byte) site
def P (d : Addr) (B : Cell) (args : Array Value) (s : State) : Prop := args = #[.ref d, .int (Int32.ofNat B.slots.size)] ∧ Arr .byte d B s
def E (r : Option Value) (s u : State) : Prop := XT.PureE (some (.int 0)) r s u
/-- an array as long as the number of chars: LATIN1 -/
theorem law (l : Launch) (d : Addr) (B : Cell) : Law l yN 2 2 0 0 yB 2 (some .byte) site (P d B) E [] 0 0 := by
  refine Law.of_walk (plainFor_of_name (by decide +kernel)) (by decide +kernel) (by decide +kernel) (by decide) (fun _ _ h => by rw [h.1]; rfl) (fun _ U U' hal hh h => ⟨h.1, h.2.mv hal hh⟩) (fun r U U' V V' h1 hal h2 h => XT.PureE.mv r U U' V V' h1 hal h2 h) ?_
  intro p e s m args below meth c s₁ X0 hexec hbytes hml hret hlk hnm hown hh0 W hP
  obtain ⟨rfl, hB⟩ := hP
  have hB0 := hB.mv X0.warmed.alike hh0
  have c1 : Steps p.tables e below (s₁.setTop (entryFrame m #[.ref d, .int (Int32.ofNat B.slots.size)] 2)) (s₁.setTop (mkF m 0 #[.val (.ref d), .val (.int (Int32.ofNat B.slots.size))] [])) := entry rfl
  have c2 : Steps p.tables e below (s₁.setTop (entryFrame m #[.ref d, .int (Int32.ofNat B.slots.size)] 2)) (s₁.setTop (mkF m 2 #[.val (.ref d), .val (.int (Int32.ofNat B.slots.size))] [.ref d, .int (Int32.ofNat B.slots.size)])) := c1.trans (by
    refine XS.iloadN X0.here hexec rfl (hb hbytes d0) rfl ?_
    refine XS.aloadN X0.here hexec rfl (hb hbytes d1) rfl rfl ?_
    exact Steps.refl _)
  have c3 : Steps p.tables e below (s₁.setTop (entryFrame m #[.ref d, .int (Int32.ofNat B.slots.size)] 2)) (s₁.setTop (mkF m 8 #[.val (.ref d), .val (.int (Int32.ofNat B.slots.size))] [.int (lo8 (ushr (Int32.ofNat B.slots.size - Int32.ofNat B.slots.size) 31))])) := c2.trans (by
    refine X0.alen hexec hB0 rfl rfl (hb hbytes d2) ?_
    refine XS.isub X0.here hexec rfl (hb hbytes d3) rfl ?_
    refine bipushV X0.here hexec rfl 31 (hb hbytes d4) (by decide) ?_
    refine iushr X0.here hexec rfl (hb hbytes d6) rfl ?_
    refine i2b X0.here hexec rfl (hb hbytes d7) rfl ?_
    exact Steps.refl _)
  have e0 : lo8 (ushr (Int32.ofNat B.slots.size - Int32.ofNat B.slots.size) 31) = 0 := by rw [Int32.sub_self]; decide
  rw [e0] at c3
  exact ⟨s₁, some (.int 0), _, _, _, X0, rfl, rfl, rfl, (fun h => by cases h), ⟨rfl, hh0⟩, fun fs hl => c3.trans (X0.ireturnOut hexec hret rfl (Or.inr (Or.inr (Or.inl rfl))) (hb hbytes d8) hl)⟩
end CodL
/-- the String at a is Latin-1 over a new byte[] (the heap's one new cell): the low bytes of the len chars of A from o on; every cell but a is kept -/
def Got (a : Addr) (D : Cell) (fV fC : Field) (A : Cell) (o len : Nat) (r : Option Value) (s u : State) : Prop := r = none ∧ ∃ D' V : Cell, Blank "java/lang/String" a D' u ∧ Same D D' [fV.slot, fC.slot] ∧ D'.slots[fV.slot]? = some (.ref s.heap.size) ∧ D'.slots[fC.slot]? = some (.int 0) ∧ Arr .byte s.heap.size V u ∧ V.vm = .none ∧ u.vm.findClass "[B" = some V.cls ∧ V.slots.size = len ∧ (∀ j, j < len → V.slots[j]? = some (.int (lo8 (cv A (o + j))))) ∧ (∀ (y : Addr) (c : Cell), y ≠ a → s.heap[y]? = some c → u.heap[y]? = some c) ∧ u.heap.size = s.heap.size + 1
theorem Got.mv {a : Addr} {D A : Cell} {fV fC : Field} {o len : Nat} : ∀ r (U U' V V' : State), U'.heap = U.heap → V.vm.Alike V'.vm → V'.heap = V.heap → Got a D fV fC A o len r U V → Got a D fV fC A o len r U' V' :=
  fun r U U' V V' h1 hal h2 ⟨e0, D', X, a1, a2, a3, a4, a5, a6, a7, a8, a9, a10, a11⟩ => ⟨e0, D', X, a1.mv hal h2, a2, by rw [h1]; exact a3, a4, by rw [h1]; exact a5.mv hal h2, a6, by rw [hal.findClass]; exact a7, a8, a9, by rw [h1, h2]; exact a10, by rw [h1, h2]; exact a11⟩
namespace New4
def yN : MethodName := ⟨"java/lang/String", "<init>", "([CIILjava/lang/Void;)V"⟩
abbrev yB : ByteArray := jdk_42_method_149_code
theorem d0 : decode yB 0 = .ok (.aload_n 0, 1) := by decide +kernel
theorem d1 : decode yB 1 = .ok (.invokespecial 1, 3) := by decide +kernel
theorem d4 : decode yB 4 = .ok (.iload_n 3, 1) := by decide +kernel
theorem d5 : decode yB 5 = .ok (.ifCond (.ne) 22, 3) := by decide +kernel
theorem d27 : decode yB 27 = .ok (.getstatic 38, 3) := by decide +kernel
theorem d30 : decode yB 30 = .ok (.ifCond (.eq) 28, 3) := by decide +kernel
theorem d33 : decode yB 33 = .ok (.aload_n 1, 1) := by decide +kernel
theorem d34 : decode yB 34 = .ok (.iload_n 2, 1) := by decide +kernel
theorem d35 : decode yB 35 = .ok (.iload_n 3, 1) := by decide +kernel
theorem d36 : decode yB 36 = .ok (.invokestatic 177, 3) := by decide +kernel
theorem d39 : decode yB 39 = .ok (.astore 5, 2) := by decide +kernel
theorem d41 : decode yB 41 = .ok (.aload_n 0, 1) := by decide +kernel
theorem d42 : decode yB 42 = .ok (.aload 5, 2) := by decide +kernel
theorem d44 : decode yB 44 = .ok (.iload_n 3, 1) := by decide +kernel
theorem d45 : decode yB 45 = .ok (.invokestatic 47, 3) := by decide +kernel
theorem d48 : decode yB 48 = .ok (.putfield 15, 3) := by decide +kernel
theorem d51 : decode yB 51 = .ok (.aload_n 0, 1) := by decide +kernel
theorem d52 : decode yB 52 = .ok (.aload 5, 2) := by decide +kernel
theorem d54 : decode yB 54 = .ok (.putfield 9, 3) := by decide +kernel
theorem d57 : decode yB 57 = .ok (.return_, 1) := by decide +kernel
def site : List Cond := [.fieldLink "java/lang/String" 38 "java/lang/String" "COMPACT_STRINGS" "Z", Cmp3.tab, CodL.tab, .laysFinal "java/lang/String" "java/lang/String" "value" "[B", .fieldLink "java/lang/String" 9 "java/lang/String" "value" "[B", .laysFinal "java/lang/String" "java/lang/String" "coder" "B", .fieldLink "java/lang/String" 15 "java/lang/String" "coder" "B"] ++ objW "java/lang/String" 1 ++ staticW "java/lang/String" 177 Cmp3.yN ++ staticW "java/lang/String" 47 CodL.yN
def tab : Cond := tabOf yN yB 6 none site
def P (a : Addr) (D : Cell) (fV fC : Field) (b : Addr) (A : Cell) (z : Int32) (o len : Nat) (args : Array Value) (s : State) : Prop := args = #[.ref a, .ref b, .int (Int32.ofNat o), .int (Int32.ofNat len), .null] ∧ Blank "java/lang/String" a D s ∧ Found "java/lang/String" "value" "[B" fV s ∧ Found "java/lang/String" "coder" "B" fC s ∧ Ch b A s ∧ StaticIs s "java/lang/String" "COMPACT_STRINGS" "Z" (.int z) ∧ ¬ z = 0 ∧ 0 < len ∧ o + len ≤ A.slots.size ∧ len ≤ 536870912 ∧ ∀ i, i < len → ¬ 255 < cv A (o + i)
def E (a : Addr) (D : Cell) (fV fC : Field) (A : Cell) (o len : Nat) (r : Option Value) (s u : State) : Prop := Got a D fV fC A o len r s u
/-- len > 0, no char of the range above 255: a Latin-1 String of their low bytes -/
theorem law (l : Launch) (a : Addr) (D : Cell) (fV fC : Field) (b : Addr) (A : Cell) (z : Int32) (o len : Nat) : Law l yN 5 4 2 35 yB 6 none site (P a D fV fC b A z o len) (E a D fV fC A o len) [⟨a, fC.slot⟩, ⟨a, fV.slot⟩] 1 len := by
  refine Law.of_walk (plainFor_of_name (by decide +kernel)) (by decide +kernel) (by decide +kernel) (by decide) (fun _ _ h => by rw [h.1]; rfl) (fun _ U U' hal hh h => ⟨h.1, h.2.1.mv hal hh, h.2.2.1.al hal, h.2.2.2.1.al hal, h.2.2.2.2.1.mv hal hh, h.2.2.2.2.2.1.there hal hh, h.2.2.2.2.2.2⟩) (fun r U U' V V' h1 hal h2 h => Got.mv r U U' V V' h1 hal h2 h) ?_
  intro p e s m args below meth c s₁ X0 hexec hbytes hml hret hlk hnm hown hh0 W hP
  obtain ⟨rfl, hB, f1, f2, hA, s1, hz, l0, l1, l2, hp⟩ := hP
  have a31 := hA.1.2.2.2
  have c1 : Steps p.tables e below (s₁.setTop (entryFrame m #[.ref a, .ref b, .int (Int32.ofNat o), .int (Int32.ofNat len), .null] 6)) (s₁.setTop (mkF m 0 #[.val (.ref a), .val (.ref b), .val (.int (Int32.ofNat o)), .val (.int (Int32.ofNat len)), .val .null, .unset] [])) := entry rfl
  have c2 : Steps p.tables e below (s₁.setTop (entryFrame m #[.ref a, .ref b, .int (Int32.ofNat o), .int (Int32.ofNat len), .null] 6)) (s₁.setTop (mkF m 1 #[.val (.ref a), .val (.ref b), .val (.int (Int32.ofNat o)), .val (.int (Int32.ofNat len)), .val .null, .unset] [.ref a])) := c1.trans (by
    refine XS.aloadN X0.here hexec rfl (hb hbytes d0) rfl rfl ?_
    exact Steps.refl _)
  obtain ⟨T3, X3, q3, st3⟩ := X0.oinit hexec hown (wks W (objW "java/lang/String" 1)) (g := (mkF m 1 #[.val (.ref a), .val (.ref b), .val (.int (Int32.ofNat o)), .val (.int (Int32.ofNat len)), .val .null, .unset] [.ref a])) rfl (by rw [hml]; rfl) (rest := []) rfl (hb hbytes d1) (W := 0) (by show 2 * 0 + 0 ≤ _; decide) (Nat.le_of_ble_eq_true rfl) (Nat.le_of_ble_eq_true rfl)
  have hh3 := q3.trans hh0
  have c4 : Steps p.tables e below (s₁.setTop (entryFrame m #[.ref a, .ref b, .int (Int32.ofNat o), .int (Int32.ofNat len), .null] 6)) (T3.setTop (mkF m 27 #[.val (.ref a), .val (.ref b), .val (.int (Int32.ofNat o)), .val (.int (Int32.ofNat len)), .val .null, .unset] [])) := (c2.trans (st3 _ (Steps.refl _))).trans (by
    refine XS.iloadN X3.here hexec rfl (hb hbytes d4) rfl ?_
    refine XS.ifYes X3.here hexec rfl (pc0 := 5) rfl (hb hbytes d5) rfl (i0_ne_t (nz32 (by omega) l0)) (by decide) rfl ?_
    exact Steps.refl _)
  obtain ⟨T5, X5, q5, st5⟩ := X3.sget hexec hown (wk W (.fieldLink "java/lang/String" 38 "java/lang/String" "COMPACT_STRINGS" "Z")) s1 (fun _ _ h => by rw [hh3]; exact h) (g := (mkF m 27 #[.val (.ref a), .val (.ref b), .val (.int (Int32.ofNat o)), .val (.int (Int32.ofNat len)), .val .null, .unset] [])) rfl (hb hbytes d27)
  have hh5 := q5.trans hh3
  have c6 : Steps p.tables e below (s₁.setTop (entryFrame m #[.ref a, .ref b, .int (Int32.ofNat o), .int (Int32.ofNat len), .null] 6)) (T5.setTop (mkF m 30 #[.val (.ref a), .val (.ref b), .val (.int (Int32.ofNat o)), .val (.int (Int32.ofNat len)), .val .null, .unset] [.int z])) := c4.trans (st5 _ (Steps.refl _))
  have c7 : Steps p.tables e below (s₁.setTop (entryFrame m #[.ref a, .ref b, .int (Int32.ofNat o), .int (Int32.ofNat len), .null] 6)) (T5.setTop (mkF m 36 #[.val (.ref a), .val (.ref b), .val (.int (Int32.ofNat o)), .val (.int (Int32.ofNat len)), .val .null, .unset] [.int (Int32.ofNat len), .int (Int32.ofNat o), .ref b])) := c6.trans (by
    refine XS.ifNo X5.here hexec rfl (hb hbytes d30) rfl (i0_eq_f hz) ?_
    refine XS.aloadN X5.here hexec rfl (hb hbytes d33) rfl rfl ?_
    refine XS.iloadN X5.here hexec rfl (hb hbytes d34) rfl ?_
    refine XS.iloadN X5.here hexec rfl (hb hbytes d35) rfl ?_
    exact Steps.refl _)
  obtain ⟨v8, T8, X8, E8, g8⟩ := X5.callS hexec (Cmp3.law l b A o len) hown (wks W (staticW "java/lang/String" 177 Cmp3.yN)) (wk W Cmp3.tab) (W := 0) (Nat.le_of_ble_eq_true rfl) (Nat.le_of_ble_eq_true rfl) (Nat.le_refl _) (by show 0 + len ≤ len; omega) (g := (mkF m 36 #[.val (.ref a), .val (.ref b), .val (.int (Int32.ofNat o)), .val (.int (Int32.ofNat len)), .val .null, .unset] [.int (Int32.ofNat len), .int (Int32.ofNat o), .ref b])) rfl (by rw [hml]; rfl) c7 (argsL := [.ref b, .int (Int32.ofNat o), .int (Int32.ofNat len)]) (rest := []) rfl rfl (by show 2 * 0 + 0 ≤ _; decide) (hb hbytes d36) (⟨rfl, hA.mv X5.warmed.alike hh5, l1, l2, hp⟩)
  obtain ⟨e8, z8⟩ := E8
  obtain ⟨rfl, N, n1, n2, n3, n4, n5, n6⟩ := NewArr.mv _ T5 s _ _ hh5.symm (Vm.Alike.refl _) rfl e8
  rw [hh5] at z8
  have hB1 := hB.keep X8.warmed.alike (n6 _ _ hB.1)
  have hne : s.heap.size ≠ a := (Nat.ne_of_lt (Array.getElem?_eq_some_iff.mp hB.1).1).symm
  have c9 : Steps p.tables e below (s₁.setTop (entryFrame m #[.ref a, .ref b, .int (Int32.ofNat o), .int (Int32.ofNat len), .null] 6)) (T8.setTop (mkF m 39 #[.val (.ref a), .val (.ref b), .val (.int (Int32.ofNat o)), .val (.int (Int32.ofNat len)), .val .null, .unset] [.ref s.heap.size])) := g8
  have c10 : Steps p.tables e below (s₁.setTop (entryFrame m #[.ref a, .ref b, .int (Int32.ofNat o), .int (Int32.ofNat len), .null] 6)) (T8.setTop (mkF m 45 #[.val (.ref a), .val (.ref b), .val (.int (Int32.ofNat o)), .val (.int (Int32.ofNat len)), .val .null, .val (.ref s.heap.size)] [.int (Int32.ofNat N.slots.size), .ref s.heap.size, .ref a])) := by
    have hc : Steps p.tables e below (s₁.setTop (entryFrame m #[.ref a, .ref b, .int (Int32.ofNat o), .int (Int32.ofNat len), .null] 6)) (T8.setTop (mkF m 45 #[.val (.ref a), .val (.ref b), .val (.int (Int32.ofNat o)), .val (.int (Int32.ofNat len)), .val .null, .val (.ref s.heap.size)] [.int (Int32.ofNat len), .ref s.heap.size, .ref a])) := c9.trans (by
      refine XS.astore X8.here hexec rfl (hb hbytes d39) rfl rfl rfl ?_
      refine XS.aloadN X8.here hexec rfl (hb hbytes d41) rfl rfl ?_
      refine XS.aload X8.here hexec rfl (hb hbytes d42) rfl rfl ?_
      refine XS.iloadN X8.here hexec rfl (hb hbytes d44) rfl ?_
      exact Steps.refl _)
    rw [n4]; exact hc
  obtain ⟨v11, T11, X11, E11, g11⟩ := X8.callS hexec (CodL.law l s.heap.size N) hown (wks W (staticW "java/lang/String" 47 CodL.yN)) (wk W CodL.tab) (W := 1) (Nat.le_of_ble_eq_true rfl) (Nat.le_of_ble_eq_true rfl) (Nat.le_refl _) (by show 0 + len + 0 ≤ len; omega) (g := (mkF m 45 #[.val (.ref a), .val (.ref b), .val (.int (Int32.ofNat o)), .val (.int (Int32.ofNat len)), .val .null, .val (.ref s.heap.size)] [.int (Int32.ofNat N.slots.size), .ref s.heap.size, .ref a])) rfl (by rw [hml]; rfl) c10 (argsL := [.ref s.heap.size, .int (Int32.ofNat N.slots.size)]) (rest := [.ref a]) rfl rfl (by show 2 * 0 + (1 + 0) ≤ _; decide) (hb hbytes d45) (⟨rfl, n1⟩)
  obtain ⟨rfl, q11⟩ := E11
  have hB11 := hB1.mv (X8.warmed.alike.symm.trans X11.warmed.alike) q11
  have c12 : Steps p.tables e below (s₁.setTop (entryFrame m #[.ref a, .ref b, .int (Int32.ofNat o), .int (Int32.ofNat len), .null] 6)) (T11.setTop (mkF m 48 #[.val (.ref a), .val (.ref b), .val (.int (Int32.ofNat o)), .val (.int (Int32.ofNat len)), .val .null, .val (.ref s.heap.size)] [.int 0, .ref a])) := g11
  obtain ⟨T13, X13, p13, bl13, sl13, st13⟩ := X11.finit hexec hown (wk W (.fieldLink "java/lang/String" 15 "java/lang/String" "coder" "B")) (Or.inr ⟨_, (wk W (.laysFinal "java/lang/String" "java/lang/String" "coder" "B"))⟩) (Or.inl ⟨rfl, hnm⟩) f2 (Or.inl rfl) hB11 (t := .byte) (by decide +kernel) rfl (g := (mkF m 48 #[.val (.ref a), .val (.ref b), .val (.int (Int32.ofNat o)), .val (.int (Int32.ofNat len)), .val .null, .val (.ref s.heap.size)] [.int 0, .ref a])) rfl (rest := []) rfl (hb hbytes d48)
  have c14 : Steps p.tables e below (s₁.setTop (entryFrame m #[.ref a, .ref b, .int (Int32.ofNat o), .int (Int32.ofNat len), .null] 6)) (T13.setTop (mkF m 54 #[.val (.ref a), .val (.ref b), .val (.int (Int32.ofNat o)), .val (.int (Int32.ofNat len)), .val .null, .val (.ref s.heap.size)] [.ref s.heap.size, .ref a])) := (c12.trans (st13 _ (Steps.refl _))).trans (by
    refine XS.aloadN X13.here hexec rfl (hb hbytes d51) rfl rfl ?_
    refine XS.aload X13.here hexec rfl (hb hbytes d52) rfl rfl ?_
    exact Steps.refl _)
  obtain ⟨T15, X15, p15, bl15, sl15, st15⟩ := X13.finit hexec hown (wk W (.fieldLink "java/lang/String" 9 "java/lang/String" "value" "[B")) (Or.inr ⟨_, (wk W (.laysFinal "java/lang/String" "java/lang/String" "value" "[B"))⟩) (Or.inl ⟨rfl, hnm⟩) f1 (Or.inl rfl) bl13 (t := (.array .byte)) (by decide +kernel) rfl (g := (mkF m 54 #[.val (.ref a), .val (.ref b), .val (.int (Int32.ofNat o)), .val (.int (Int32.ofNat len)), .val .null, .val (.ref s.heap.size)] [.ref s.heap.size, .ref a])) rfl (rest := []) rfl (hb hbytes d54)
  have c16 : Steps p.tables e below (s₁.setTop (entryFrame m #[.ref a, .ref b, .int (Int32.ofNat o), .int (Int32.ofNat len), .null] 6)) (T15.setTop (mkF m 57 #[.val (.ref a), .val (.ref b), .val (.int (Int32.ofNat o)), .val (.int (Int32.ofNat len)), .val .null, .val (.ref s.heap.size)] [])) := c14.trans (st15 _ (Steps.refl _))
  have ap := apart (Or.inr ⟨_, (wk W (.laysFinal "java/lang/String" "java/lang/String" "value" "[B"))⟩) (Or.inr ⟨_, (wk W (.laysFinal "java/lang/String" "java/lang/String" "coder" "B"))⟩) f1 f2 (t₁ := .array .byte) (t₂ := .byte) (by decide +kernel) (by decide +kernel) (by decide)
  have al := X8.warmed.alike.symm.trans X15.warmed.alike
  have n7 : T11.heap[s.heap.size]? = some N := by rw [q11]; exact n1.1
  exact ⟨T15, none, _, _, _, X15, by simp, rfl, by omega, (fun _ => rfl), ⟨rfl, _, N, bl15, ((Same.refl D _).set _ (by simp)).set _ (by simp), sl15, (Cell.slots_setSlot_ne _ ap).trans sl13, n1.keep al (p15.other hne (p13.other hne n7)), n2, by rw [al.findClass]; exact n3, n4, n5, fun y c h1 h2 => p15.other h1 (p13.other h1 (by rw [q11]; exact n6 y c h2)), by rw [p15.2.2, p13.2.2, q11]; exact z8⟩, fun fs hl => c16.trans (X15.returnOut hexec hret (hb hbytes d57) hl)⟩
end New4
namespace New1
def yN : MethodName := ⟨"java/lang/String", "<init>", "([C)V"⟩
abbrev yB : ByteArray := jdk_42_method_3_code
theorem d0 : decode yB 0 = .ok (.aload_n 0, 1) := by decide +kernel
theorem d1 : decode yB 1 = .ok (.aload_n 1, 1) := by decide +kernel
theorem d2 : decode yB 2 = .ok (.iconst 0, 1) := by decide +kernel
theorem d3 : decode yB 3 = .ok (.aload_n 1, 1) := by decide +kernel
theorem d4 : decode yB 4 = .ok (.arraylength, 1) := by decide +kernel
theorem d5 : decode yB 5 = .ok (.aconst_null, 1) := by decide +kernel
theorem d6 : decode yB 6 = .ok (.invokespecial 27, 3) := by decide +kernel
theorem d9 : decode yB 9 = .ok (.return_, 1) := by decide +kernel
def site : List Cond := [New4.tab] ++ initW "java/lang/String" 27 New4.yN
def tab : Cond := tabOf yN yB 2 none site
def P (a : Addr) (D : Cell) (fV fC : Field) (b : Addr) (A : Cell) (z : Int32) (args : Array Value) (s : State) : Prop := args = #[.ref a, .ref b] ∧ Blank "java/lang/String" a D s ∧ Found "java/lang/String" "value" "[B" fV s ∧ Found "java/lang/String" "coder" "B" fC s ∧ Ch b A s ∧ StaticIs s "java/lang/String" "COMPACT_STRINGS" "Z" (.int z) ∧ ¬ z = 0 ∧ 0 < A.slots.size ∧ A.slots.size ≤ 536870912 ∧ ∀ i, i < A.slots.size → ¬ 255 < cv A i
def E (a : Addr) (D : Cell) (fV fC : Field) (A : Cell) (r : Option Value) (s u : State) : Prop := Got a D fV fC A 0 A.slots.size r s u
/-- new String(chars), not empty, no char above 255: a Latin-1 String of their low bytes -/
theorem law (l : Launch) (a : Addr) (D : Cell) (fV fC : Field) (b : Addr) (A : Cell) (z : Int32) : Law l yN 2 1 3 52 yB 2 none site (P a D fV fC b A z) (E a D fV fC A) [⟨a, fC.slot⟩, ⟨a, fV.slot⟩] 1 A.slots.size := by
  refine Law.of_walk (plainFor_of_name (by decide +kernel)) (by decide +kernel) (by decide +kernel) (by decide) (fun _ _ h => by rw [h.1]; rfl) (fun _ U U' hal hh h => ⟨h.1, h.2.1.mv hal hh, h.2.2.1.al hal, h.2.2.2.1.al hal, h.2.2.2.2.1.mv hal hh, h.2.2.2.2.2.1.there hal hh, h.2.2.2.2.2.2⟩) (fun r U U' V V' h1 hal h2 h => Got.mv r U U' V V' h1 hal h2 h) ?_
  intro p e s m args below meth c s₁ X0 hexec hbytes hml hret hlk hnm hown hh0 W hP
  obtain ⟨rfl, hB, f1, f2, hA, s1, hz, l0, l2, hp⟩ := hP
  have c1 : Steps p.tables e below (s₁.setTop (entryFrame m #[.ref a, .ref b] 2)) (s₁.setTop (mkF m 0 #[.val (.ref a), .val (.ref b)] [])) := entry rfl
  have c2 : Steps p.tables e below (s₁.setTop (entryFrame m #[.ref a, .ref b] 2)) (s₁.setTop (mkF m 6 #[.val (.ref a), .val (.ref b)] [.null, .int (Int32.ofNat A.slots.size), .int 0, .ref b, .ref a])) := c1.trans (by
    refine XS.aloadN X0.here hexec rfl (hb hbytes d0) rfl rfl ?_
    refine XS.aloadN X0.here hexec rfl (hb hbytes d1) rfl rfl ?_
    refine iconstV X0.here hexec rfl 0 (hb hbytes d2) (by decide) ?_
    refine XS.aloadN X0.here hexec rfl (hb hbytes d3) rfl rfl ?_
    refine X0.alen hexec (hA.1.mv X0.warmed.alike hh0) rfl rfl (hb hbytes d4) ?_
    refine XS.aconstNull X0.here hexec rfl (hb hbytes d5) ?_
    exact Steps.refl _)
  obtain ⟨v3, T3, X3, E3, g3⟩ := X0.callN hexec (New4.law l a D fV fC b A z 0 A.slots.size) rfl hown (wks W (initW "java/lang/String" 27 New4.yN)) (W New4.tab (by simp only [site, List.mem_cons, List.mem_append, true_or, or_true])) (W := 0) (Nat.le_of_ble_eq_true rfl) (Nat.le_of_ble_eq_true rfl) (Nat.le_refl _) (by show 0 + A.slots.size ≤ A.slots.size; omega) (g := (mkF m 6 #[.val (.ref a), .val (.ref b)] [.null, .int (Int32.ofNat A.slots.size), .int (Int32.ofNat 0), .ref b, .ref a])) rfl (by rw [hml]; rfl) c2 (argsL := [.ref b, .int (Int32.ofNat 0), .int (Int32.ofNat A.slots.size), .null]) (rest := []) rfl rfl (by show 2 * 0 + 0 ≤ _; decide) (hb hbytes d6) (⟨rfl, hB.mv X0.warmed.alike hh0, f1.al X0.warmed.alike, f2.al X0.warmed.alike, hA.mv X0.warmed.alike hh0, s1.there X0.warmed.alike hh0, hz, l0, by omega, l2, fun i hi => by rw [Nat.zero_add]; exact hp i hi⟩)
  have e0 := Got.mv _ s₁ s _ _ hh0.symm (Vm.Alike.refl _) rfl E3
  obtain rfl := e0.1
  have c4 : Steps p.tables e below (s₁.setTop (entryFrame m #[.ref a, .ref b] 2)) (T3.setTop (mkF m 9 #[.val (.ref a), .val (.ref b)] [])) := g3
  exact ⟨T3, none, _, _, _, X3, by simp, rfl, by omega, (fun _ => rfl), e0, fun fs hl => c4.trans (X3.returnOut hexec hret (hb hbytes d9) hl)⟩
theorem pays {l : Launch} {R : Room} {p : Program} {e : Env} {below : List Frame} {s : State} {sargs : Array Value} {len W : Nat} (a : Addr) (D : Cell) (fV fC : Field) (b : Addr) (A : Cell) (z : Int32) (htab : tab.before sargs s = true) (hfr : 4 ≤ R.frames) (hlo : W + 65 ≤ R.locals) :
    Back l R p e below s sargs yN len W (fun A₁ a₁ => A₁.cells + 1 ≤ R.cells ∧ A₁.slots + A.slots.size ≤ R.slots ∧ P a D fV fC b A z a₁ A₁.U) (fun A₁ _ v₁ B₁ => E a D fV fC A v₁ A₁.U B₁.U ∧ B₁.locs = A₁.locs ++ [⟨a, fC.slot⟩, ⟨a, fV.slot⟩] ∧ B₁.cells = A₁.cells + 1 ∧ B₁.slots = A₁.slots + A.slots.size) :=
  (law l a D fV fC b A z).pays htab hfr (by omega)
end New1
/-- the byte, read back as charAt reads it, is the char -/
theorem lo8_mask {x : Int32} (h0 : ¬ x < 0) (h1 : ¬ 255 < x) : lo8 x &&& 255 = x := by
  have t : ∀ k : Fin 256, lo8 (Int32.ofNat k.val) &&& 255 = Int32.ofNat k.val := by decide +kernel
  rw [Int32.lt_iff_toInt_lt] at h0 h1
  have e0 : (0 : Int32).toInt = 0 := rfl
  have e1 : (255 : Int32).toInt = 255 := rfl
  obtain ⟨k, hk⟩ : ∃ k : Nat, x.toInt = k := ⟨x.toInt.toNat, by omega⟩
  have hx : x = Int32.ofNat k := Int32.toInt_inj.mp (by rw [hk, Int32.toInt_ofNat_small (by omega)])
  rw [hx]
  exact t ⟨k, by omega⟩
end StrChars
namespace StrChars.Road
open Jvm Sem ClassFile Op Lib Jvm.Stand Jvm.Free Jvm.Free.XT
open Jvm.Lib.Cold (StaticIs)
abbrev ST : String := "java/lang/String"
/-- every table word that New1's law asks, flat -/
abbrev words : List Jvm.Cond := [.code New1.yN New1.yB 2 none, .initialized ST, .methodLink ST 27 New4.yN, .instanceMethod New4.yN,
  .code New4.yN New4.yB 6 none, .fieldLink ST 38 ST "COMPACT_STRINGS" "Z", .laysFinal ST ST "value" "[B", .fieldLink ST 9 ST "value" "[B", .laysFinal ST ST "coder" "B", .fieldLink ST 15 ST "coder" "B",
  .methodLink ST 1 Lib.objectInit, .instanceMethod Lib.objectInit, .code Lib.objectInit ⟨#[0xb1]⟩ 1 none, .methodLink ST 177 Cmp3.yN, .static Cmp3.yN, .methodLink ST 47 CodL.yN, .static CodL.yN,
  .code Cmp3.yN Cmp3.yB 6 (some (.array .byte)), .initialized U16, .arrayClass .byte, .methodLink U16 115 Cmp5.yN, .static Cmp5.yN, .code Cmp5.yN Cmp5.yB 7 (some .int), .code CodL.yN CodL.yB 2 (some .byte)]
theorem tab_of {a : Array Value} {s : State} (h : ∀ w ∈ words, w.before a s = true) : New1.tab.before a s = true := by
  have h5 : Cmp5.tab.before a s = true := unparts (wk h (.code Cmp5.yN Cmp5.yB 7 (some .int))) (wks h (.initialized Cmp5.yN.cls :: Cmp5.site))
  have hc : CodL.tab.before a s = true := unparts (wk h (.code CodL.yN CodL.yB 2 (some .byte))) (wks h (.initialized CodL.yN.cls :: CodL.site))
  have q5 : ∀ w ∈ Cmp5.tab :: words, w.before a s = true := fun w hw => (List.mem_cons.mp hw).elim (fun e => e ▸ h5) (h w)
  have h3 : Cmp3.tab.before a s = true := unparts (wk q5 (.code Cmp3.yN Cmp3.yB 6 (some (.array .byte)))) (wks q5 (.initialized Cmp3.yN.cls :: Cmp3.site))
  have q3 : ∀ w ∈ Cmp3.tab :: CodL.tab :: words, w.before a s = true := fun w hw => (List.mem_cons.mp hw).elim (fun e => e ▸ h3) fun hw => (List.mem_cons.mp hw).elim (fun e => e ▸ hc) (h w)
  have h4 : New4.tab.before a s = true := unparts (wk q3 (.code New4.yN New4.yB 6 none)) (wks q3 (.initialized New4.yN.cls :: New4.site))
  have q4 : ∀ w ∈ New4.tab :: words, w.before a s = true := fun w hw => (List.mem_cons.mp hw).elim (fun e => e ▸ h4) (h w)
  exact unparts (wk q4 (.code New1.yN New1.yB 2 none)) (wks q4 (.initialized New1.yN.cls :: New1.site))
/-- the words ride from the start Z to the walk's own state -/
theorem moved {Z s : State} {a0 args : Array Value} (hZ : Z.Warmed39 s.vm) (hw : ∀ d ∈ words, d.before a0 Z = true) : ∀ d ∈ words, d.before args s = true := fun d hd => by
  have q := hw d hd
  have t : ∀ d ∈ words, d = .arrayClass .byte ∨ (d.onTables && d.keepsFace) = true := by decide +kernel
  rcases t d hd with rfl | t
  · exact RoadKit.mvA hZ q
  · exact RoadKit.mv hZ q t
/-- WHAT COMES BACK, over the tables of the start Z: h the heap at the call, h' behind it -/
def Q (Z : State) (x : Addr) (A : Cell) (h : Heap) (v : Option Value) (h' : Heap) (L : List Loc) : Prop := v = none ∧ (∀ y ∈ L, y.base = x) ∧ RoadKit.Keep h h' [x] ∧ h'.size = h.size + 1 ∧ RoadKit.Exa Z h' x ST ∧ RoadKit.Fld Z h' x ST "value" "[B" (.ref h.size) ∧ RoadKit.Fld Z h' x ST "coder" "B" (.int 0) ∧
  (∃ V : Cell, RoadKit.Arr Z h' h.size V .byte ∧ V.vm = .none ∧ Z.vm.findClass "[B" = some V.cls ∧ V.slots.size = A.slots.size ∧ ∀ j, j < A.slots.size → V.slots[j]? = some (.int (lo8 (cv A j)))) ∧
  ∀ (O n d : String) (w : Value), RoadKit.Fld Z h x O n d w → RoadKit.slotOf Z O n d ≠ RoadKit.slotOf Z ST "value" "[B" → RoadKit.slotOf Z O n d ≠ RoadKit.slotOf Z ST "coder" "B" → RoadKit.Fld Z h' x O n d w
/-- **new String(chars) AT A CALL, IN THE ROAD'S FORM**: for specialBack behind newO: x the fresh String, b the char[] with the cell A -/
theorem back {p : Program} {l : Launch} {e : Env} {R : Room} {s : State} {args : Array Value} {below : List Frame} {len W : Nat} {Z : State} {a0 : Array Value} {h : Heap} (hZ : Z.Warmed39 s.vm) (hw : ∀ d ∈ words, d.before a0 Z = true) {kI : Nat} (wi : (Jvm.Cond.instantiable ST kI).before a0 Z = true)
    {x b : Addr} {A : Cell} {z : Int32} {v0 c0 : Value} (E : RoadKit.Exa Z h x ST) (V : RoadKit.Fld Z h x ST "value" "[B" v0) (C : RoadKit.Fld Z h x ST "coder" "B" c0) (K : RoadKit.Arr Z h b A .char) (hty : Typed .char A) (S : RoadKit.Sta Z h ST "COMPACT_STRINGS" "Z" (.int z)) (hz : ¬ z = 0)
    (l0 : 0 < A.slots.size) (l2 : A.slots.size ≤ 536870912) (hp : ∀ i, i < A.slots.size → ¬ 255 < cv A i) (hfr : 4 ≤ R.frames) (hlo : W + 65 ≤ R.locals) :
    Back l R p e below s args New1.yN len W (fun P a => a = #[.ref x, .ref b] ∧ P.U.heap = h ∧ P.cells + 1 ≤ R.cells ∧ P.slots + A.slots.size ≤ R.slots)
      (fun P _ v B => ∃ L, Q Z x A h v B.U.heap L ∧ B.locs = P.locs ++ L ∧ B.cells = P.cells + 1 ∧ B.slots = P.slots + A.slots.size) := by
  intro m meth c P g ig mk a X hg hsize hdg hW hn hp'
  obtain ⟨rfl, rfl, r1, r2⟩ := hp'
  have al : Z.vm.Alike P.U.vm := hZ.alike.trans X.warmed.alike
  obtain ⟨D, cfV, kV, iV, fV, hD, gV, stV, knV, obV, asV, slV⟩ := id V
  obtain ⟨D', cfC, kC, iC, fC, hD', gC, stC, -, -, asC, slC⟩ := id C
  cases hD.symm.trans hD'
  obtain ⟨D2, kD, e1, e2, e3, e4, e5⟩ := id E
  cases hD.symm.trans e1
  obtain ⟨c2, k2, i1, i2, i3, -⟩ := Cond.instantiable_spec wi
  cases e2.symm.trans i1
  cases e3.symm.trans i2
  obtain ⟨kU, u1, u2⟩ := al.2.2 _ _ e3
  have hB : Blank ST x D P.U := ⟨hD, ⟨knV, fun q hq => by rw [hq] at obV; cases obV⟩, by rw [al.findClass]; exact e2, kU, u1, by rw [u2]; exact i3, by rw [u2]; exact e5 i3⟩
  have F1 : Found ST "value" "[B" fV P.U := ⟨SBG.found_only al ⟨cfV, kV, iV, gV⟩, stV⟩
  have F2 : Found ST "coder" "B" fC P.U := ⟨SBG.found_only al ⟨cfC, kC, iC, gC⟩, stC⟩
  have hA : Ch b A P.U := ⟨⟨K.1, State.isArrayOf_alike al K.2.1, K.2.2, by omega⟩, hty⟩
  have hS : StaticIs P.U ST "COMPACT_STRINGS" "Z" (.int z) := by
    obtain ⟨cfS, iS, kS, fS, st, cS, t1, t2, t3, t4, t5, t6, t7⟩ := S
    exact StaticIs.there (s := { Z with heap := P.U.heap }) ⟨cfS, iS, kS, fS, st, cS, t1, t2, t3, t4, t5, (fun q => by rw [q] at t6; cases t6), t7⟩ al rfl
  obtain ⟨v, B, X', ⟨⟨hv, E', V', q1, q2, q3, q4, q5, q6, q7, q8, q9, q10, q11⟩, hl, hc, hs⟩, st⟩ := New1.pays x D fV fC b A z (tab_of (moved hZ hw)) hfr hlo m meth c P g ig mk _ X hg hsize hdg hW hn ⟨r1, r2, rfl, hB, F1, F2, hA, hS, hz, l0, l2, hp⟩
  have al' : Z.vm.Alike B.U.vm := hZ.alike.trans X'.warmed.alike
  have hsz : E'.slots.size = D.slots.size := by
    obtain ⟨-, -, -, kB, w1, w2, w3⟩ := q1
    obtain ⟨kB', y1, y2⟩ := al'.2.2 _ _ e3
    rw [q2.2.1] at w1
    cases w1.symm.trans y1
    rw [w3, e5 i3, y2]
  refine ⟨v, B, X', ⟨_, ⟨hv, ?_, ⟨by omega, fun y cy hy hn' => q10 y cy (by simpa using hn') hy, fun y cy hy => ?_⟩, q11, ⟨E', _, q1.1, by rw [q2.2.1]; exact e2, by rw [q2.2.1]; exact e3, by rw [q2.1]; exact obV, fun _ => by rw [hsz]; exact e5 i3⟩,
    ⟨E', cfV, kV, iV, fV, q1.1, gV, stV, by rw [q2.1]; exact knV, by rw [q2.1]; exact obV, by rw [q2.2.1]; exact asV, q3⟩, ⟨E', cfC, kC, iC, fC, q1.1, gC, stC, by rw [q2.1]; exact knV, by rw [q2.1]; exact obV, by rw [q2.2.1]; exact asC, q4⟩,
    ⟨V', ⟨q5.1, State.isArrayOf_alike al'.symm q5.2.1, q5.2.2.1⟩, q6, by rw [← al'.findClass]; exact q7, q8, fun j hj => by have := q9 j hj; rwa [Nat.zero_add] at this⟩, fun O n d w F n1 n2 => ?_⟩, hl, hc, hs⟩, st⟩
  · intro y hy
    simp only [List.mem_cons, List.not_mem_nil, or_false] at hy
    rcases hy with rfl | rfl <;> rfl
  · by_cases q : y = x
    · subst q
      cases hD.symm.trans hy
      exact ⟨E', q1.1, q2.2.1, q2.1, hsz⟩
    · exact ⟨cy, q10 y cy q hy, rfl, rfl, rfl⟩
  · obtain ⟨D3, cf, k, i, f, g1, g2, g3, g4, g5, g6, g7⟩ := F
    cases hD.symm.trans g1
    simp only [RoadKit.slotOf, g2, gV, gC, Option.map_some, Option.getD_some] at n1 n2
    exact ⟨E', cf, k, i, f, q1.1, g2, g3, by rw [q2.1]; exact g4, by rw [q2.1]; exact g5, by rw [q2.2.1]; exact g6, by rw [q2.2.2 f.slot (by simp [n1, n2])]; exact g7⟩
end StrChars.Road
namespace StrChars.Road
open Jvm Sem ClassFile Op Lib Jvm.Stand Jvm.Free Jvm.Free.XT
/-- WHAT COMES BACK, the byte[] as a list of values -/
def QA (Z : State) (x : Addr) (zn : Int32) (cs : List Int32) (h : Heap) (v : Option Value) (h' : Heap) (L : List Loc) : Prop := v = none ∧ (∀ y ∈ L, y.base = x) ∧ RoadKit.Keep h h' [x] ∧ h'.size = h.size + 1 ∧ RoadKit.Exa Z h' x ST ∧ RoadKit.Fld Z h' x ST "value" "[B" (.ref h.size) ∧ RoadKit.Fld Z h' x ST "coder" "B" (.int 0) ∧
  (∃ kb, Z.vm.findClass "[B" = some kb ∧ RoadKit.Arv Z h' h.size kb .byte zn (cs.map fun c => .int (lo8 c)) (.int 0)) ∧
  ∀ (O n d : String) (w : Value), RoadKit.Fld Z h x O n d w → RoadKit.slotOf Z O n d ≠ RoadKit.slotOf Z ST "value" "[B" → RoadKit.slotOf Z O n d ≠ RoadKit.slotOf Z ST "coder" "B" → RoadKit.Fld Z h' x O n d w
/-- **new String(chars) AT A CALL, THE ARRAYS AS LISTS**: the char[] at b holds cs, not empty, no char above 255 -/
theorem backArv {p : Program} {l : Launch} {e : Env} {R : Room} {s : State} {args : Array Value} {below : List Frame} {len W : Nat} {Z : State} {a0 : Array Value} {h : Heap} (hZ : Z.Warmed39 s.vm) (hw : ∀ d ∈ words, d.before a0 Z = true) {kI : Nat} (wi : (Jvm.Cond.instantiable ST kI).before a0 Z = true)
    {x b : Addr} {k : ClassId} {zn z : Int32} {cs : List Int32} {dv v0 c0 : Value} (E : RoadKit.Exa Z h x ST) (V : RoadKit.Fld Z h x ST "value" "[B" v0) (C : RoadKit.Fld Z h x ST "coder" "B" c0) (K : RoadKit.Arv Z h b k .char zn (cs.map Value.int) dv) (S : RoadKit.Sta Z h ST "COMPACT_STRINGS" "Z" (.int z)) (hz : ¬ z = 0)
    (hlen : zn.toNatClampNeg = cs.length) (h0 : 0 < cs.length) (hbig : cs.length ≤ 536870912) (hall : ∀ c ∈ cs, ¬ 255 < c) (hfr : 4 ≤ R.frames) (hlo : W + 65 ≤ R.locals) :
    Back l R p e below s args New1.yN len W (fun P a => a = #[.ref x, .ref b] ∧ P.U.heap = h ∧ P.cells + 1 ≤ R.cells ∧ P.slots + cs.length ≤ R.slots)
      (fun P _ v B => ∃ L, QA Z x zn cs h v B.U.heap L ∧ B.locs = P.locs ++ L ∧ B.cells = P.cells + 1 ∧ B.slots = P.slots + cs.length) := by
  obtain ⟨A, K1, K2, K3, K4, K5, K6⟩ := K
  have e : A.slots.size = cs.length := K3.trans hlen
  have hat : ∀ (i : Nat) (hi : i < cs.length), A.slots[i]? = some (.int cs[i]) := fun i hi => by rw [K5 i (by omega)]; simp [List.getD_eq_getElem?_getD, hi]
  have hcv : ∀ (i : Nat) (hi : i < cs.length), cv A i = cs[i] := fun i hi => by unfold cv; rw [hat i hi]
  have hty : Typed .char A := fun i v hv => by
    have hi : i < A.slots.size := (Array.getElem?_eq_some_iff.mp hv).1
    have q := K5 i hi
    rw [hv] at q
    rw [Option.some.inj q]
    exact K6 i hi
  refine Back.mono (back hZ hw wi E V C K1 hty S hz (by omega) (by omega) (fun i hi => by rw [hcv i (by omega)]; exact hall _ (List.getElem_mem _)) hfr hlo) (fun P a hp => ⟨hp.1, hp.2.1, hp.2.2.1, by rw [e]; exact hp.2.2.2⟩) (fun P a v B hp hq => ?_)
  obtain ⟨L, ⟨q1, q2, q3, q4, q5, q6, q7, ⟨V', v1, v2, v3, v4, v5⟩, q9⟩, hl, hc, hs⟩ := hq
  refine ⟨L, ⟨q1, q2, q3, q4, q5, q6, q7, ⟨V'.cls, v3, V', v1, rfl, by rw [v4, e, hlen], K4, fun i hi => ?_, fun i hi => ?_⟩, q9⟩, hl, hc, by rw [hs, e]⟩
  · have hi' : i < cs.length := by omega
    rw [v5 i (by omega), hcv i hi']; simp [List.getD_eq_getElem?_getD, hi']
  · have hi' : i < cs.length := by omega
    simp only [List.getD_eq_getElem?_getD, List.getElem?_map, List.getElem?_eq_getElem hi', Option.map_some, Option.getD_some]
    exact fits_lo8 _
end StrChars.Road
namespace StrChars.Road
open Jvm Sem ClassFile Op Lib Jvm.Stand Jvm.Free Jvm.Free.XT
/-- WHAT COMES BACK, in the writer's own shape -/
def QV (Z : State) (x : Addr) (N : Int32) (bs : List Int32) (h : Heap) (n0 : Nat) (v : Option Value) (h' : Heap) (L : List Loc) : Prop := v = none ∧ RoadKit.Fr n0 L ∧ RoadKit.Keep h h' [x] ∧ RoadKit.Exa Z h' x ST ∧ RoadKit.Fld Z h' x ST "coder" "B" (.int 0) ∧
  ∃ (t : Addr) (kb : ClassId), n0 ≤ t ∧ h.size ≤ t ∧ ¬ t = x ∧ RoadKit.Fld Z h' x ST "value" "[B" (.ref t) ∧ RoadKit.Arv Z h' t kb .byte N (bs.map Value.int) (.int 0)
/-- **new String(chars) AT A CALL, FOR THE WRITER**: a char[] of n known ints, each 0 to 255 -/
theorem backV {p : Program} {l : Launch} {e : Env} {R : Room} {s : State} {args : Array Value} {below : List Frame} {len W : Nat} {Z : State} {a0 : Array Value} {h : Heap} (hZ : Z.Warmed39 s.vm) (hw : ∀ d ∈ words, d.before a0 Z = true) {kI : Nat} (wi : (Jvm.Cond.instantiable ST kI).before a0 Z = true)
    {x b : Addr} {kC : ClassId} {cs bs : List Int32} {d v0 c0 : Value} {z N : Int32} {n n0 : Nat} (hx0 : n0 ≤ x) (hh0 : n0 ≤ h.size) (E : RoadKit.Exa Z h x ST) (V : RoadKit.Fld Z h x ST "value" "[B" v0) (C : RoadKit.Fld Z h x ST "coder" "B" c0) (K : RoadKit.Arv Z h b kC .char N (cs.map Value.int) d) (S : RoadKit.Sta Z h ST "COMPACT_STRINGS" "Z" (.int z)) (hz : ¬ z = 0)
    (hn : cs.length = n) (hN : N = Int32.ofNat n) (l0 : 0 < n) (l2 : n ≤ 4000) (hp : ∀ c ∈ cs, ¬ c < 0 ∧ ¬ (255 : Int32) < c) (hb : bs = cs.map (fun c => c.toInt8.toInt32)) (hfr : 4 ≤ R.frames) (hlo : W + 65 ≤ R.locals) :
    Back l R p e below s args (⟨"java/lang/String", "<init>", "([C)V"⟩ : MethodName) len W (fun P a => a = #[.ref x, .ref b] ∧ P.U.heap = h ∧ P.cells + 1 ≤ R.cells ∧ P.slots + n ≤ R.slots)
      (fun P _ v B => ∃ L, QV Z x N bs h n0 v B.U.heap L ∧ B.locs = P.locs ++ L ∧ B.cells = P.cells + 1 ∧ B.slots = P.slots + n) := by
  subst hn hN hb
  refine Back.mono (backArv hZ hw wi E V C K S hz (n32 (by omega)) l0 (by omega) (fun c hc => (hp c hc).2) hfr hlo) (fun P a hp => hp) (fun P a v B hp hq => ?_)
  obtain ⟨L, ⟨q1, q2, q3, q4, q5, q6, q7, ⟨kb, v1, v2⟩, q9⟩, hl, hc, hs⟩ := hq
  exact ⟨L, ⟨q1, fun y hy => by rw [q2 y hy]; exact hx0, q3, q5, q7, h.size, kb, hh0, Nat.le_refl _, Nat.ne_of_gt E.lt, q6, by rw [List.map_map]; exact v2⟩, hl, hc, hs⟩
end StrChars.Road
namespace StrChars
open Jvm Sem ClassFile Op Lib Jvm.Stand Jvm.Free.XT Jvm.Free.ALB Jvm.Free.JM Jvm.Free
open Jvm.Lib.Cold (StaticIs)
def hi8 (x : Int32) : Int32 := lo8 (x >>> ((8 : Int32) &&& 31))
/-- what StringUTF16.getChar makes of two bytes -/
def pairCh (u v : Int32) : Int32 := (((u &&& 255) <<< ((0 : Int32) &&& 31)) ||| ((v &&& 255) <<< ((8 : Int32) &&& 31))).toUInt32.toUInt16.toUInt32.toInt32
theorem lo8_and (x : Int32) : (lo8 x &&& 255).toBitVec.toNat = x.toBitVec.toNat % 256 := by
  have h : (lo8 x).toBitVec = (x.toBitVec.signExtend 8).signExtend 32 := by rw [lo8, Int8.toBitVec_toInt32, Int32.toBitVec_toInt8]
  rw [Int32.toBitVec_and, BitVec.toNat_and, h]
  have e : ((x.toBitVec.signExtend 8).signExtend 32).toNat % 256 = x.toBitVec.toNat % 256 := by
    rw [BitVec.toNat_signExtend]
    have hlt := x.toBitVec.isLt
    simp only [BitVec.toNat_setWidth, BitVec.toNat_signExtend]
    split <;> split <;> omega
  rw [← e]
  exact Nat.and_two_pow_sub_one_eq_mod _ 8
theorem pair_says {c : Int32} (h0 : ¬ c < 0) (h1 : ¬ 65535 < c) : pairCh (lo8 c) (hi8 c) = c := by
  rw [Int32.lt_iff_toInt_lt] at h0 h1
  have e0 : (0 : Int32).toInt = 0 := rfl
  have e1 : (65535 : Int32).toInt = 65535 := rfl
  have hc : c.toInt = c.toBitVec.toNat := by
    have := c.toBitVec.isLt
    have e : c.toInt = c.toBitVec.toInt := rfl
    rw [e] at h0 h1
    rw [e]
    rw [BitVec.toInt_eq_toNat_cond] at h0 h1 ⊢
    split at h0 <;> split <;> omega
  have hn : c.toBitVec.toNat < 65536 := by omega
  have a1 := lo8_and c
  have a2 : (hi8 c &&& 255).toBitVec.toNat = c.toBitVec.toNat / 256 := by
    rw [hi8, lo8_and]
    have e : ((8 : Int32) &&& 31) = 8 := by decide
    rw [e, Int32.toBitVec_shiftRight]
    have e2 : ((8 : Int32).toBitVec.smod 32) = 8#32 := by decide
    rw [e2, BitVec.sshiftRight_eq', BitVec.toNat_sshiftRight_of_msb_false (by rw [BitVec.msb_eq_false_iff_two_mul_lt]; omega)]
    show c.toBitVec.toNat >>> 8 % 256 = _
    rw [Nat.shiftRight_eq_div_pow]
    omega
  unfold pairCh
  apply Int32.toBitVec_inj.mp
  apply BitVec.eq_of_toNat_eq
  have f0 : ((0 : Int32) &&& 31) = 0 := by decide
  have f8 : ((8 : Int32) &&& 31) = 8 := by decide
  rw [f0, f8]
  have g : (((lo8 c &&& 255) <<< (0 : Int32)) ||| ((hi8 c &&& 255) <<< (8 : Int32))).toBitVec.toNat = c.toBitVec.toNat := by
    rw [Int32.toBitVec_or, Int32.toBitVec_shiftLeft, Int32.toBitVec_shiftLeft]
    have s0 : ((0 : Int32).toBitVec.smod 32) = 0#32 := by decide
    have s8 : ((8 : Int32).toBitVec.smod 32) = 8#32 := by decide
    rw [s0, s8, BitVec.toNat_or]
    simp only [BitVec.shiftLeft_eq', BitVec.toNat_shiftLeft, a1, a2]
    show (c.toBitVec.toNat % 256) <<< 0 % 2 ^ 32 ||| (c.toBitVec.toNat / 256) <<< 8 % 2 ^ 32 = _
    rw [Nat.shiftLeft_zero, Nat.mod_eq_of_lt (show c.toBitVec.toNat % 256 < 2 ^ 32 by omega), Nat.mod_eq_of_lt (show (c.toBitVec.toNat / 256) <<< 8 < 2 ^ 32 by rw [Nat.shiftLeft_eq]; omega), Nat.or_comm, ← Nat.shiftLeft_add_eq_or_of_lt (by omega), Nat.shiftLeft_eq]
    omega
  show BitVec.toNat (((((lo8 c &&& 255) <<< (0 : Int32)) ||| ((hi8 c &&& 255) <<< (8 : Int32))).toBitVec.setWidth 16).setWidth 32) = _
  rw [BitVec.toNat_setWidth, BitVec.toNat_setWidth, g]
  omega
end StrChars
namespace StrChars
open Jvm Sem ClassFile Op Lib Jvm.Stand Jvm.Free.XT Jvm.Free.ALB Jvm.Free.JM Jvm.Free
open Jvm.Lib.Cold (StaticIs)
/-- the array's cell V codes the n chars f 0 .. f (n - 1) by the coder cd, as the JDK does: coder 1 just where some char is above 255 -/
def Cod (cd : Int32) (n : Nat) (f : Nat → Int32) (V : Cell) : Prop := (cd = 0 ∧ V.slots.size = n ∧ ∀ j, j < n → V.slots[j]? = some (.int (lo8 (f j))) ∧ ¬ 255 < f j) ∨ (cd = 1 ∧ V.slots.size = 2 * n ∧ (∀ j, j < n → V.slots[2 * j]? = some (.int (lo8 (f j))) ∧ V.slots[2 * j + 1]? = some (.int (hi8 (f j)))) ∧ ∃ j, j < n ∧ 255 < f j)
/-- **x is a String of the n chars f 0 .. f (n - 1)**, Latin-1 or UTF-16; its array at t has the cell V -/
def Txt (x t : Addr) (V : Cell) (cd : Int32) (n : Nat) (f : Nat → Int32) (U : State) : Prop := Exact "java/lang/String" x U ∧ Has x "java/lang/String" "value" "[B" (.ref t) U ∧ Has x "java/lang/String" "coder" "B" (.int cd) U ∧ XT.Arr .byte t V U ∧ Cod cd n f V ∧ ∀ j, j < n → ¬ f j < 0 ∧ ¬ 65535 < f j
theorem Txt.mv {x t : Addr} {V : Cell} {cd : Int32} {n : Nat} {f : Nat → Int32} {U U' : State} (h : Txt x t V cd n f U) (hal : U.vm.Alike U'.vm) (hh : U'.heap = U.heap) : Txt x t V cd n f U' := ⟨h.1.mv hal hh, h.2.1.mv hal hh, h.2.2.1.mv hal hh, h.2.2.2.1.mv hal hh, h.2.2.2.2⟩
end StrChars
namespace StrChars.Road
open Jvm Sem ClassFile Op Lib Jvm.Stand Jvm.Free Jvm.Free.XT
open Jvm.Lib.Cold (StaticIs)
theorem consq {a : Array Value} {s : State} {c : Jvm.Cond} {L : List Jvm.Cond} (h0 : c.before a s = true) (h : ∀ w ∈ L, w.before a s = true) : ∀ w ∈ c :: L, w.before a s = true := fun w hw => (List.mem_cons.mp hw).elim (fun e => e ▸ h0) (h w)
/-- the bytes of the chars cs, low before high -/
def wideBytes : List Int32 → List Value
  | [] => []
  | c :: cs => .int (lo8 c) :: .int (hi8 c) :: wideBytes cs
theorem wide_lo (d : Value) : ∀ (cs : List Int32) (j : Nat), j < cs.length → (wideBytes cs).getD (2 * j) d = .int (lo8 (cs.getD j 0))
  | [], j, h => absurd h (Nat.not_lt_zero j)
  | c :: cs, 0, _ => rfl
  | c :: cs, j + 1, h => by
    have q := wide_lo d cs j (by simpa using h)
    rw [show 2 * (j + 1) = 2 * j + 1 + 1 from by omega]
    simpa [wideBytes] using q
theorem wide_hi (d : Value) : ∀ (cs : List Int32) (j : Nat), j < cs.length → (wideBytes cs).getD (2 * j + 1) d = .int (hi8 (cs.getD j 0))
  | [], j, h => absurd h (Nat.not_lt_zero j)
  | c :: cs, 0, _ => rfl
  | c :: cs, j + 1, h => by
    have q := wide_hi d cs j (by simpa using h)
    rw [show 2 * (j + 1) + 1 = 2 * j + 1 + 1 + 1 from by omega]
    simpa [wideBytes] using q
theorem low_at (d : Value) (cs : List Int32) (j : Nat) (h : j < cs.length) : (cs.map fun c => Value.int (lo8 c)).getD j d = .int (lo8 (cs.getD j 0)) := by
  simp [List.getD_eq_getElem?_getD, h]
/-- an array of N2 bytes vs codes the chars cs by the coder cd -/
def CodA (cs : List Int32) (cd N2 : Int32) (vs : List Value) : Prop := (cd = 0 ∧ N2 = Int32.ofNat cs.length ∧ vs = (cs.map fun c => Value.int (lo8 c)) ∧ ∀ c ∈ cs, ¬ 255 < c) ∨ (cd = 1 ∧ N2 = Int32.ofNat (2 * cs.length) ∧ vs = wideBytes cs ∧ ∃ c ∈ cs, 255 < c)
theorem CodA.cod {cs : List Int32} {cd N2 : Int32} {vs : List Value} {V : Cell} (h : CodA cs cd N2 vs) (hn : 2 * cs.length < 2 ^ 31) (hs : V.slots.size = N2.toNatClampNeg) (hv : RoadKit.Has V vs (.int 0)) : Cod cd cs.length (fun j => cs.getD j 0) V := by
  rcases h with ⟨rfl, rfl, rfl, h⟩ | ⟨rfl, rfl, rfl, c, hc, hw⟩
  · rw [n32 (by omega)] at hs
    exact Or.inl ⟨rfl, hs, fun j hj => ⟨by rw [hv j (by omega), low_at _ _ _ hj], by
      have e : cs.getD j 0 = cs[j] := by simp [List.getD_eq_getElem?_getD, hj]
      show ¬ 255 < cs.getD j 0
      rw [e]; exact h _ (List.getElem_mem _)⟩⟩
  · rw [n32 (by omega)] at hs
    obtain ⟨j, hj, rfl⟩ := List.getElem_of_mem hc
    exact Or.inr ⟨rfl, hs, fun j hj => ⟨by rw [hv _ (by omega), wide_lo _ _ _ hj], by rw [hv _ (by omega), wide_hi _ _ _ hj]⟩, j, hj, by
      have e : cs.getD j 0 = cs[j] := by simp [List.getD_eq_getElem?_getD, hj]
      show 255 < cs.getD j 0
      rw [e]; exact hw⟩
/-- an object of exactly java/lang/String, its two fields found: as the laws ask it -/
theorem strObj {Z U : State} {a0 : Array Value} {kI : Nat} (wi : (Jvm.Cond.instantiable ST kI).before a0 Z = true) (al : Z.vm.Alike U.vm) {x : Addr} {v0 c0 : Value} (E : RoadKit.Exa Z U.heap x ST) (V : RoadKit.Fld Z U.heap x ST "value" "[B" v0) (C : RoadKit.Fld Z U.heap x ST "coder" "B" c0) :
    ∃ (D : Cell) (fV fC : Field), Blank ST x D U ∧ Found ST "value" "[B" fV U ∧ Found ST "coder" "B" fC U ∧ D.slots[fV.slot]? = some v0 ∧ D.slots[fC.slot]? = some c0 ∧ RoadKit.slotOf Z ST "value" "[B" = fV.slot ∧ RoadKit.slotOf Z ST "coder" "B" = fC.slot := by
  obtain ⟨D, cfV, kV, iV, fV, hD, gV, stV, knV, obV, asV, slV⟩ := V
  obtain ⟨D', cfC, kC, iC, fC, hD', gC, stC, -, -, asC, slC⟩ := C
  cases hD.symm.trans hD'
  obtain ⟨D2, kD, e1, e2, e3, e4, e5⟩ := E
  cases hD.symm.trans e1
  obtain ⟨c2, k2, i1, i2, i3, -⟩ := Cond.instantiable_spec wi
  cases e2.symm.trans i1
  cases e3.symm.trans i2
  obtain ⟨kU, u1, u2⟩ := al.2.2 _ _ e3
  exact ⟨D, fV, fC, ⟨hD, ⟨knV, fun q hq => by rw [hq] at obV; cases obV⟩, by rw [al.findClass]; exact e2, kU, u1, by rw [u2]; exact i3, by rw [u2]; exact e5 i3⟩, ⟨SBG.found_only al ⟨cfV, kV, iV, gV⟩, stV⟩, ⟨SBG.found_only al ⟨cfC, kC, iC, gC⟩, stC⟩, slV, slC, by simp [RoadKit.slotOf, gV], by simp [RoadKit.slotOf, gC]⟩
theorem sta_is {Z U : State} (al : Z.vm.Alike U.vm) {C n d : String} {v : Value} (S : RoadKit.Sta Z U.heap C n d v) : StaticIs U C n d v := by
  obtain ⟨cfS, iS, kS, fS, st, cS, t1, t2, t3, t4, t5, t6, t7⟩ := S
  exact StaticIs.there (s := { Z with heap := U.heap }) ⟨cfS, iS, kS, fS, st, cS, t1, t2, t3, t4, t5, (fun q => by rw [q] at t6; cases t6), t7⟩ al rfl
end StrChars.Road
namespace StrChars
open Jvm Sem ClassFile Op Lib Jvm.Stand Jvm.Free.XT Jvm.Free.ALB Jvm.Free.JM Jvm.Free
open Jvm.Lib.Cold (StaticIs)
/-- what place i of a byte[]'s cell holds -/
def yv (A : Cell) (i : Nat) : Int32 := match A.slots[i]? with | some (.int x) => x | _ => 0
theorem yv_get {a : Addr} {A : Cell} {U : State} (h : XT.Arr .byte a A U) (ht : Typed .byte A) {i : Nat} (hi : i < A.slots.size) : A.slots[i]? = some (.int (yv A i)) := by
  have e := Array.getElem?_eq_getElem hi
  have f := ht i _ e
  unfold yv; rw [e]
  generalize A.slots[i] = v at f
  cases v <;> simp [fits] at f ⊢
/-- the two arrays are equal, place for place -/
def EqC (A B : Cell) : Prop := A.slots.size = B.slots.size ∧ ∀ i, i < A.slots.size → yv A i = yv B i
/-- a boolean that says whether p -/
def Says01 (q : Prop) (r : Option Value) (s u : State) : Prop := ∃ v : Int32, r = some (.int v) ∧ u.heap = s.heap ∧ ((v = 1 ∧ q) ∨ (v = 0 ∧ ¬ q))
theorem Says01.mv {q : Prop} : ∀ r (U U' V V' : State), U'.heap = U.heap → V.vm.Alike V'.vm → V'.heap = V.heap → Says01 q r U V → Says01 q r U' V' :=
  fun r U U' V V' h1 _ h2 ⟨v, a, b, c⟩ => ⟨v, a, by rw [h1, h2]; exact b, c⟩
namespace LEq
def yN : MethodName := ⟨"java/lang/StringLatin1", "equals", "([B[B)Z"⟩
abbrev yB : ByteArray := jdk_43_method_13_code
theorem d0 : decode yB 0 = .ok (.aload_n 0, 1) := by decide +kernel
theorem d1 : decode yB 1 = .ok (.arraylength, 1) := by decide +kernel
theorem d2 : decode yB 2 = .ok (.aload_n 1, 1) := by decide +kernel
theorem d3 : decode yB 3 = .ok (.arraylength, 1) := by decide +kernel
theorem d4 : decode yB 4 = .ok (.if_icmp (.ne) 30, 3) := by decide +kernel
theorem d7 : decode yB 7 = .ok (.iconst 0, 1) := by decide +kernel
theorem d8 : decode yB 8 = .ok (.istore_n 2, 1) := by decide +kernel
theorem d9 : decode yB 9 = .ok (.iload_n 2, 1) := by decide +kernel
theorem d10 : decode yB 10 = .ok (.aload_n 0, 1) := by decide +kernel
theorem d11 : decode yB 11 = .ok (.arraylength, 1) := by decide +kernel
theorem d12 : decode yB 12 = .ok (.if_icmp (.ge) 20, 3) := by decide +kernel
theorem d15 : decode yB 15 = .ok (.aload_n 0, 1) := by decide +kernel
theorem d16 : decode yB 16 = .ok (.iload_n 2, 1) := by decide +kernel
theorem d17 : decode yB 17 = .ok (.baload, 1) := by decide +kernel
theorem d18 : decode yB 18 = .ok (.aload_n 1, 1) := by decide +kernel
theorem d19 : decode yB 19 = .ok (.iload_n 2, 1) := by decide +kernel
theorem d20 : decode yB 20 = .ok (.baload, 1) := by decide +kernel
theorem d21 : decode yB 21 = .ok (.if_icmp (.eq) 5, 3) := by decide +kernel
theorem d24 : decode yB 24 = .ok (.iconst 0, 1) := by decide +kernel
theorem d25 : decode yB 25 = .ok (.ireturn, 1) := by decide +kernel
theorem d26 : decode yB 26 = .ok (.iinc 2 1, 3) := by decide +kernel
theorem d29 : decode yB 29 = .ok (.goto (-20), 3) := by decide +kernel
theorem d32 : decode yB 32 = .ok (.iconst 1, 1) := by decide +kernel
theorem d33 : decode yB 33 = .ok (.ireturn, 1) := by decide +kernel
theorem d34 : decode yB 34 = .ok (.iconst 0, 1) := by decide +kernel
theorem d35 : decode yB 35 = .ok (.ireturn, 1) := by decide +kernel
def site : List Cond := []
def tab : Cond := tabOf yN yB 3 (some .boolean) site
def P (a : Addr) (A : Cell) (b : Addr) (B : Cell) (args : Array Value) (s : State) : Prop := args = #[.ref a, .ref b] ∧ XT.Arr .byte a A s ∧ Typed .byte A ∧ XT.Arr .byte b B s ∧ Typed .byte B
/-- whether two byte[] are equal, place for place -/
theorem law (l : Launch) (a : Addr) (A : Cell) (b : Addr) (B : Cell) : Law l yN 2 2 0 0 yB 3 (some .boolean) site (P a A b B) (Says01 (EqC A B)) [] 0 0 := by
  refine Law.of_walk (plainFor_of_name (by decide +kernel)) (by decide +kernel) (by decide +kernel) (by decide) (fun _ _ h => by rw [h.1]; rfl) (fun _ U U' hal hh h => ⟨h.1, h.2.1.mv hal hh, h.2.2.1, h.2.2.2.1.mv hal hh, h.2.2.2.2⟩) (fun r U U' V V' h1 hal h2 h => Says01.mv r U U' V V' h1 hal h2 h) ?_
  intro p e s m args below meth c s₁ X0 hexec hbytes hml hret hlk hnm hown hh0 W hP
  obtain ⟨rfl, hA, tA, hB, tB⟩ := hP
  have a31 := hA.2.2.2
  have b31 := hB.2.2.2
  have hA0 := hA.mv X0.warmed.alike hh0
  have hB0 := hB.mv X0.warmed.alike hh0
  have c1 : Steps p.tables e below (s₁.setTop (entryFrame m #[.ref a, .ref b] 3)) (s₁.setTop (mkF m 0 #[.val (.ref a), .val (.ref b), .unset] [])) := entry rfl
  have c2 : Steps p.tables e below (s₁.setTop (entryFrame m #[.ref a, .ref b] 3)) (s₁.setTop (mkF m 4 #[.val (.ref a), .val (.ref b), .unset] [.int (Int32.ofNat B.slots.size), .int (Int32.ofNat A.slots.size)])) := c1.trans (by
    refine XS.aloadN X0.here hexec rfl (hb hbytes d0) rfl rfl ?_
    refine X0.alen hexec hA0 rfl rfl (hb hbytes d1) ?_
    refine XS.aloadN X0.here hexec rfl (hb hbytes d2) rfl rfl ?_
    refine X0.alen hexec hB0 rfl rfl (hb hbytes d3) ?_
    exact Steps.refl _)
  by_cases hs : A.slots.size = B.slots.size
  · have c3 : Steps p.tables e below (s₁.setTop (entryFrame m #[.ref a, .ref b] 3)) (s₁.setTop (mkF m 9 #[.val (.ref a), .val (.ref b), .val (.int 0)] [])) := c2.trans (by
      refine XS.icmpNo X0.here hexec rfl (hb hbytes d4) rfl (ii_ne_f (by rw [hs])) ?_
      refine iconstV X0.here hexec rfl 0 (hb hbytes d7) (by decide) ?_
      refine XS.istoreN X0.here hexec rfl (hb hbytes d8) rfl rfl ?_
      exact Steps.refl _)
    have loop : ∀ (r i : Nat), i + r = A.slots.size → (∀ j, j < i → yv A j = yv B j) → Steps p.tables e below (s₁.setTop (entryFrame m #[.ref a, .ref b] 3)) (s₁.setTop (mkF m 9 #[.val (.ref a), .val (.ref b), .val (.int (Int32.ofNat i))] [])) → ∃ (pc : Nat) (Ls : Array Slot) (v : Int32), (pc = 25 ∨ pc = 33) ∧ ((v = 1 ∧ EqC A B) ∨ (v = 0 ∧ ¬ EqC A B)) ∧ Steps p.tables e below (s₁.setTop (entryFrame m #[.ref a, .ref b] 3)) (s₁.setTop (mkF m pc Ls [.int v])) := by
      intro r
      induction r with
      | zero =>
        intro i hi he cl
        exact ⟨33, _, 1, Or.inr rfl, Or.inl ⟨rfl, hs, fun j hj => he j (by omega)⟩, cl.trans (by
          refine XS.iloadN X0.here hexec rfl (hb hbytes d9) rfl ?_
          refine XS.aloadN X0.here hexec rfl (hb hbytes d10) rfl rfl ?_
          refine X0.alen hexec hA0 rfl rfl (hb hbytes d11) ?_
          refine XS.icmpYes X0.here hexec rfl (pc0 := 12) rfl (hb hbytes d12) rfl (ii_ge_t (nlt32 (by omega) (by omega))) (by decide) rfl ?_
          refine iconstV X0.here hexec rfl 1 (hb hbytes d32) (by decide) ?_
          exact Steps.refl _)⟩
      | succ r ih =>
        intro i hi he cl
        have c4 : Steps p.tables e below (s₁.setTop (entryFrame m #[.ref a, .ref b] 3)) (s₁.setTop (mkF m 21 #[.val (.ref a), .val (.ref b), .val (.int (Int32.ofNat i))] [.int (yv B i), .int (yv A i)])) := cl.trans (by
          refine XS.iloadN X0.here hexec rfl (hb hbytes d9) rfl ?_
          refine XS.aloadN X0.here hexec rfl (hb hbytes d10) rfl rfl ?_
          refine X0.alen hexec hA0 rfl rfl (hb hbytes d11) ?_
          refine XS.icmpNo X0.here hexec rfl (hb hbytes d12) rfl (ii_ge_f (lt32 (by omega) (by omega))) ?_
          refine XS.aloadN X0.here hexec rfl (hb hbytes d15) rfl rfl ?_
          refine XS.iloadN X0.here hexec rfl (hb hbytes d16) rfl ?_
          refine X0.aget hexec hA0 rfl (yv_get hA tA (i := i) (by omega)) rfl rfl (hb hbytes d17) ?_
          refine XS.aloadN X0.here hexec rfl (hb hbytes d18) rfl rfl ?_
          refine XS.iloadN X0.here hexec rfl (hb hbytes d19) rfl ?_
          refine X0.aget hexec hB0 rfl (yv_get hB tB (i := i) (by omega)) rfl rfl (hb hbytes d20) ?_
          exact Steps.refl _)
        by_cases hv : yv A i = yv B i
        · have c5 : Steps p.tables e below (s₁.setTop (entryFrame m #[.ref a, .ref b] 3)) (s₁.setTop (mkF m 9 #[.val (.ref a), .val (.ref b), .val (.int (Int32.ofNat i + 1))] [])) := c4.trans (by
            refine XS.icmpYes X0.here hexec rfl (pc0 := 21) rfl (hb hbytes d21) rfl (ii_eq_t hv) (by decide) rfl ?_
            refine iincV X0.here hexec rfl 1 (hb hbytes d26) (by decide) rfl rfl ?_
            refine XS.goto X0.here hexec rfl (pc0 := 29) rfl (hb hbytes d29) (by decide) rfl ?_
            exact Steps.refl _)
          rw [succ32] at c5
          exact ih (i + 1) (by omega) (fun j hj => by
            by_cases e : j = i
            · rw [e]; exact hv
            · exact he j (by omega)) c5
        · exact ⟨25, _, 0, Or.inl rfl, Or.inr ⟨rfl, fun q => hv (q.2 i (by omega))⟩, c4.trans (by
            refine XS.icmpNo X0.here hexec rfl (hb hbytes d21) rfl (ii_eq_f hv) ?_
            refine iconstV X0.here hexec rfl 0 (hb hbytes d24) (by decide) ?_
            exact Steps.refl _)⟩
    obtain ⟨pc, Ls, v, hpc, hv, cz⟩ := loop A.slots.size 0 (by omega) (fun j hj => absurd hj (Nat.not_lt_zero j)) c3
    have nv : narrow .boolean (.int v) = .int v := by rcases hv with ⟨rfl, -⟩ | ⟨rfl, -⟩ <;> rfl
    rcases hpc with rfl | rfl
    · exact ⟨s₁, some (.int v), _, _, _, X0, rfl, rfl, rfl, (fun h => by cases h), ⟨v, rfl, hh0, hv⟩, fun fs hl => cz.trans (X0.ireturnOut hexec hret nv (Or.inr (Or.inl rfl)) (hb hbytes d25) hl)⟩
    · exact ⟨s₁, some (.int v), _, _, _, X0, rfl, rfl, rfl, (fun h => by cases h), ⟨v, rfl, hh0, hv⟩, fun fs hl => cz.trans (X0.ireturnOut hexec hret nv (Or.inr (Or.inl rfl)) (hb hbytes d33) hl)⟩
  · have c3 : Steps p.tables e below (s₁.setTop (entryFrame m #[.ref a, .ref b] 3)) (s₁.setTop (mkF m 35 #[.val (.ref a), .val (.ref b), .unset] [.int 0])) := c2.trans (by
      refine XS.icmpYes X0.here hexec rfl (pc0 := 4) rfl (hb hbytes d4) rfl (ii_ne_t (ne32 a31 b31 hs)) (by decide) rfl ?_
      refine iconstV X0.here hexec rfl 0 (hb hbytes d34) (by decide) ?_
      exact Steps.refl _)
    exact ⟨s₁, some (.int 0), _, _, _, X0, rfl, rfl, rfl, (fun h => by cases h), ⟨0, rfl, hh0, Or.inr ⟨rfl, fun q => hs q.1⟩⟩, fun fs hl => c3.trans (X0.ireturnOut hexec hret rfl (Or.inr (Or.inl rfl)) (hb hbytes d35) hl)⟩
end LEq
theorem Cod.ty {cd : Int32} {n : Nat} {f : Nat → Int32} {V : Cell} (h : Cod cd n f V) : Typed .byte V := fun i v hv => by
  have hi : i < V.slots.size := (Array.getElem?_eq_some_iff.mp hv).1
  rcases h with ⟨-, k1, k2⟩ | ⟨-, k1, k2, -⟩
  · rw [(k2 i (by omega)).1] at hv; cases hv; exact fits_lo8 _
  · rcases Nat.mod_two_eq_zero_or_one i with e | e
    · obtain ⟨j, rfl⟩ : ∃ j, i = 2 * j := ⟨i / 2, by omega⟩
      rw [(k2 j (by omega)).1] at hv; cases hv; exact fits_lo8 _
    · obtain ⟨j, rfl⟩ : ∃ j, i = 2 * j + 1 := ⟨i / 2, by omega⟩
      rw [(k2 j (by omega)).2] at hv; cases hv; exact fits_lo8 _
/-- the same text -/
def SameT (n : Nat) (f : Nat → Int32) (k : Nat) (g : Nat → Int32) : Prop := n = k ∧ ∀ j, j < n → f j = g j
theorem lo8_inj {x y : Int32} (h0 : ¬ x < 0) (h1 : ¬ 255 < x) (k0 : ¬ y < 0) (k1 : ¬ 255 < y) (h : lo8 x = lo8 y) : x = y := by
  rw [← lo8_mask h0 h1, ← lo8_mask k0 k1, h]
/-- arrays coded by one coder are equal just where the texts are -/
theorem Cod.eqv {cd : Int32} {n k : Nat} {f g : Nat → Int32} {V V' : Cell} (h : Cod cd n f V) (h' : Cod cd k g V') (hf : ∀ j, j < n → ¬ f j < 0 ∧ ¬ 65535 < f j) (hg : ∀ j, j < k → ¬ g j < 0 ∧ ¬ 65535 < g j) : EqC V V' ↔ SameT n f k g := by
  have yvv : ∀ {W : Cell} {i : Nat} {x : Int32}, W.slots[i]? = some (.int x) → yv W i = x := fun q => by unfold yv; rw [q]
  rcases h with ⟨rfl, k1, k2⟩ | ⟨rfl, k1, k2, -⟩
  · rcases h' with ⟨-, m1, m2⟩ | ⟨e, -⟩
    · constructor
      · rintro ⟨e1, e2⟩
        refine ⟨by omega, fun j hj => ?_⟩
        have q := e2 j (by omega)
        rw [yvv (k2 j hj).1, yvv (m2 j (by omega)).1] at q
        exact lo8_inj (hf j hj).1 (k2 j hj).2 (hg j (by omega)).1 (m2 j (by omega)).2 q
      · rintro ⟨rfl, e2⟩
        refine ⟨by omega, fun j hj => ?_⟩
        rw [yvv (k2 j (by omega)).1, yvv (m2 j (by omega)).1, e2 j (by omega)]
    · exact absurd e (by decide)
  · rcases h' with ⟨e, -⟩ | ⟨-, m1, m2, -⟩
    · exact absurd e (by decide)
    · constructor
      · rintro ⟨e1, e2⟩
        refine ⟨by omega, fun j hj => ?_⟩
        have q1 := e2 (2 * j) (by omega)
        have q2 := e2 (2 * j + 1) (by omega)
        rw [yvv (k2 j hj).1, yvv (m2 j (by omega)).1] at q1
        rw [yvv (k2 j hj).2, yvv (m2 j (by omega)).2] at q2
        rw [← pair_says (hf j hj).1 (hf j hj).2, ← pair_says (hg j (by omega)).1 (hg j (by omega)).2, q1, q2]
      · rintro ⟨rfl, e2⟩
        refine ⟨by omega, fun i hi => ?_⟩
        rcases Nat.mod_two_eq_zero_or_one i with e | e
        · obtain ⟨j, rfl⟩ : ∃ j, i = 2 * j := ⟨i / 2, by omega⟩
          rw [yvv (k2 j (by omega)).1, yvv (m2 j (by omega)).1, e2 j (by omega)]
        · obtain ⟨j, rfl⟩ : ∃ j, i = 2 * j + 1 := ⟨i / 2, by omega⟩
          rw [yvv (k2 j (by omega)).2, yvv (m2 j (by omega)).2, e2 j (by omega)]
/-- two codings differ: so do the texts -/
theorem Cod.dif {cd cd' : Int32} {n k : Nat} {f g : Nat → Int32} {V V' : Cell} (h : Cod cd n f V) (h' : Cod cd' k g V') (hne : ¬ cd = cd') : ¬ SameT n f k g := by
  rintro ⟨rfl, e⟩
  rcases h with ⟨rfl, -, k2⟩ | ⟨rfl, -, -, j, hj, hw⟩
  · rcases h' with ⟨rfl, -⟩ | ⟨-, -, -, j, hj, hw⟩
    · exact hne rfl
    · exact (k2 j hj).2 (by rw [e j hj]; exact hw)
  · rcases h' with ⟨-, -, m2⟩ | ⟨rfl, -⟩
    · exact (m2 j hj).2 (by rw [← e j hj]; exact hw)
    · exact hne rfl
/-- an object of exactly C is an instance of C -/
theorem cinst {p : Program} {l : Launch} {e : Env} {R : Room} {s : State} {m : MethodId} {args : Array Value} {below : List Frame} {meth : Method} {c : Code} {T : State} {locs : List Loc} {cells slots : Nat} (X : Stand p l e R s m args below meth c T locs cells slots) (hexec : p.tables.exec = Jvm.exec) {own C : String} {index : Nat} (hown : s.vm.findClass own = some m.cls) (hlink : (Cond.classLink own index C).before args s = true) {a : Addr} (hE : Exact C a T)
    {g : JFrame} (hg : g.method = m) {rest : List Value} (hstack : g.stack = .ref a :: rest) (hdg : decode c.code g.pc = .ok (.instanceof index, 3)) :
    ∃ T', Stand p l e R s m args below meth c T' locs cells slots ∧ T'.heap = T.heap ∧ ∀ target, Steps p.tables e below (T'.setTop { g with pc := g.pc + 3, stack := .int 1 :: rest }) target → Steps p.tables e below (T.setTop g) target := by
  obtain ⟨cB, h1, D, h2, h3, h4⟩ := hE
  have h1' : s.vm.findClass C = some cB := by rw [← X.warmed.alike.findClass]; exact h1
  obtain ⟨vm', X', st⟩ := X.instanceofYes hexec hown hlink h2 h4 h1' (by rw [h3]; exact Jvm.Free.SB.assignable_self _ _) hg hstack hdg
  exact ⟨_, X', rfl, st⟩
theorem cself {p : Program} {l : Launch} {e : Env} {R : Room} {s : State} {m : MethodId} {args : Array Value} {below : List Frame} {meth : Method} {c : Code} {T : State} {locs : List Loc} {cells slots : Nat} (X : Stand p l e R s m args below meth c T locs cells slots) (hexec : p.tables.exec = Jvm.exec) {own C : String} {index : Nat} (hown : s.vm.findClass own = some m.cls) (hlink : (Cond.classLink own index C).before args s = true) {a : Addr} (hE : Exact C a T)
    {g : JFrame} (hg : g.method = m) {rest : List Value} (hstack : g.stack = .ref a :: rest) (hdg : decode c.code g.pc = .ok (.checkcast index, 3)) :
    ∃ T', Stand p l e R s m args below meth c T' locs cells slots ∧ T'.heap = T.heap ∧ ∀ target, Steps p.tables e below (T'.setTop { g with pc := g.pc + 3, stack := .ref a :: rest }) target → Steps p.tables e below (T.setTop g) target := by
  obtain ⟨cB, h1, D, h2, h3, h4⟩ := hE
  have h1' : s.vm.findClass C = some cB := by rw [← X.warmed.alike.findClass]; exact h1
  obtain ⟨vm', X', st⟩ := X.checkcastYes hexec hown hlink h2 h4 h1' (by rw [h3]; exact Jvm.Free.SB.assignable_self _ _) hg hstack hdg
  exact ⟨_, X', rfl, fun t h => st t (by rw [← hstack] at h; exact h)⟩
namespace SEq
def yN : MethodName := ⟨"java/lang/String", "equals", "(Ljava/lang/Object;)Z"⟩
abbrev yB : ByteArray := jdk_42_method_66_code
theorem d0 : decode yB 0 = .ok (.aload_n 0, 1) := by decide +kernel
theorem d1 : decode yB 1 = .ok (.aload_n 1, 1) := by decide +kernel
theorem d2 : decode yB 2 = .ok (.if_acmp (.ne) 5, 3) := by decide +kernel
theorem d5 : decode yB 5 = .ok (.iconst 1, 1) := by decide +kernel
theorem d6 : decode yB 6 = .ok (.ireturn, 1) := by decide +kernel
theorem d7 : decode yB 7 = .ok (.aload_n 1, 1) := by decide +kernel
theorem d8 : decode yB 8 = .ok (.instanceof 10, 3) := by decide +kernel
theorem d11 : decode yB 11 = .ok (.ifCond (.eq) 43, 3) := by decide +kernel
theorem d14 : decode yB 14 = .ok (.aload_n 1, 1) := by decide +kernel
theorem d15 : decode yB 15 = .ok (.checkcast 10, 3) := by decide +kernel
theorem d18 : decode yB 18 = .ok (.astore_n 2, 1) := by decide +kernel
theorem d19 : decode yB 19 = .ok (.getstatic 38, 3) := by decide +kernel
theorem d22 : decode yB 22 = .ok (.ifCond (.eq) 14, 3) := by decide +kernel
theorem d25 : decode yB 25 = .ok (.aload_n 0, 1) := by decide +kernel
theorem d26 : decode yB 26 = .ok (.getfield 15, 3) := by decide +kernel
theorem d29 : decode yB 29 = .ok (.aload_n 2, 1) := by decide +kernel
theorem d30 : decode yB 30 = .ok (.getfield 15, 3) := by decide +kernel
theorem d33 : decode yB 33 = .ok (.if_icmp (.ne) 21, 3) := by decide +kernel
theorem d36 : decode yB 36 = .ok (.aload_n 0, 1) := by decide +kernel
theorem d37 : decode yB 37 = .ok (.getfield 9, 3) := by decide +kernel
theorem d40 : decode yB 40 = .ok (.aload_n 2, 1) := by decide +kernel
theorem d41 : decode yB 41 = .ok (.getfield 9, 3) := by decide +kernel
theorem d44 : decode yB 44 = .ok (.invokestatic 541, 3) := by decide +kernel
theorem d47 : decode yB 47 = .ok (.ifCond (.eq) 7, 3) := by decide +kernel
theorem d50 : decode yB 50 = .ok (.iconst 1, 1) := by decide +kernel
theorem d51 : decode yB 51 = .ok (.goto 4, 3) := by decide +kernel
theorem d54 : decode yB 54 = .ok (.iconst 0, 1) := by decide +kernel
theorem d55 : decode yB 55 = .ok (.ireturn, 1) := by decide +kernel
def site : List Cond := [.classLink "java/lang/String" 10 "java/lang/String", .fieldLink "java/lang/String" 38 "java/lang/String" "COMPACT_STRINGS" "Z", .fieldLink "java/lang/String" 15 "java/lang/String" "coder" "B", .fieldLink "java/lang/String" 9 "java/lang/String" "value" "[B", LEq.tab] ++ staticW "java/lang/String" 541 LEq.yN
def tab : Cond := tabOf yN yB 3 (some .boolean) site
def P (x t : Addr) (V : Cell) (cd : Int32) (n : Nat) (f : Nat → Int32) (y t' : Addr) (V' : Cell) (cd' : Int32) (k : Nat) (g : Nat → Int32) (z : Int32) (args : Array Value) (s : State) : Prop := args = #[.ref x, .ref y] ∧ Txt x t V cd n f s ∧ Txt y t' V' cd' k g s ∧ StaticIs s "java/lang/String" "COMPACT_STRINGS" "Z" (.int z) ∧ ¬ z = 0
/-- equals(Object) of two Strings: whether the texts are the same -/
theorem law (l : Launch) (x t : Addr) (V : Cell) (cd : Int32) (n : Nat) (f : Nat → Int32) (y t' : Addr) (V' : Cell) (cd' : Int32) (k : Nat) (g : Nat → Int32) (z : Int32) : Law l yN 2 1 1 14 yB 3 (some .boolean) site (P x t V cd n f y t' V' cd' k g z) (Says01 (SameT n f k g)) [] 0 0 := by
  refine Law.of_walk (plainFor_of_name (by decide +kernel)) (by decide +kernel) (by decide +kernel) (by decide) (fun _ _ h => by rw [h.1]; rfl) (fun _ U U' hal hh h => ⟨h.1, h.2.1.mv hal hh, h.2.2.1.mv hal hh, h.2.2.2.1.there hal hh, h.2.2.2.2⟩) (fun r U U' V V' h1 hal h2 h => Says01.mv r U U' V V' h1 hal h2 h) ?_
  intro p e s m args below meth c s₁ X0 hexec hbytes hml hret hlk hnm hown hh0 W hP
  obtain ⟨rfl, hx, hy, s1, hz⟩ := hP
  have c1 : Steps p.tables e below (s₁.setTop (entryFrame m #[.ref x, .ref y] 3)) (s₁.setTop (mkF m 2 #[.val (.ref x), .val (.ref y), .unset] [.ref y, .ref x])) := Steps.trans (entry rfl) (by
    show Steps p.tables e below (s₁.setTop (mkF m 0 #[.val (.ref x), .val (.ref y), .unset] [])) _
    refine XS.aloadN X0.here hexec rfl (hb hbytes d0) rfl rfl ?_
    refine XS.aloadN X0.here hexec rfl (hb hbytes d1) rfl rfl ?_
    exact Steps.refl _)
  by_cases hxy : x = y
  · have c2 : Steps p.tables e below (s₁.setTop (entryFrame m #[.ref x, .ref y] 3)) (s₁.setTop (mkF m 6 #[.val (.ref x), .val (.ref y), .unset] [.int 1])) := c1.trans (by
      refine acmpNo X0.here hexec rfl (hb hbytes d2) rfl rfl rfl (by simp [acmp, hxy]) ?_
      refine iconstV X0.here hexec rfl 1 (hb hbytes d5) (by decide) ?_
      exact Steps.refl _)
    subst hxy
    have ec : cd = cd' := by
      obtain ⟨D, fd, a1, a2, a3⟩ := hx.2.2.1
      obtain ⟨D', fd', b1, b2, b3⟩ := hy.2.2.1
      cases a1.symm.trans b1
      obtain ⟨q1, q2, q3, q4⟩ := a2.1
      obtain ⟨r1, r2, r3, r4⟩ := b2.1
      cases q4.symm.trans r4
      cases a3.symm.trans b3; rfl
    have et : t = t' := by
      obtain ⟨D, fd, a1, a2, a3⟩ := hx.2.1
      obtain ⟨D', fd', b1, b2, b3⟩ := hy.2.1
      cases a1.symm.trans b1
      obtain ⟨q1, q2, q3, q4⟩ := a2.1
      obtain ⟨r1, r2, r3, r4⟩ := b2.1
      cases q4.symm.trans r4
      cases a3.symm.trans b3; rfl
    subst ec et
    have ev : V = V' := by cases hx.2.2.2.1.1.symm.trans hy.2.2.2.1.1; rfl
    subst ev
    have hs : SameT n f k g := (Cod.eqv hx.2.2.2.2.1 hy.2.2.2.2.1 hx.2.2.2.2.2 hy.2.2.2.2.2).mp ⟨rfl, fun _ _ => rfl⟩
    exact ⟨s₁, some (.int 1), _, _, _, X0, rfl, rfl, rfl, (fun h => by cases h), ⟨1, rfl, hh0, Or.inl ⟨rfl, hs⟩⟩, fun fs hl => c2.trans (X0.ireturnOut hexec hret rfl (Or.inr (Or.inl rfl)) (hb hbytes d6) hl)⟩
  · have c2 : Steps p.tables e below (s₁.setTop (entryFrame m #[.ref x, .ref y] 3)) (s₁.setTop (mkF m 8 #[.val (.ref x), .val (.ref y), .unset] [.ref y])) := c1.trans (by
      refine acmpYes X0.here hexec rfl (pc0 := 2) rfl (hb hbytes d2) rfl rfl rfl (by simp [acmp, hxy]) (by decide) rfl ?_
      refine XS.aloadN X0.here hexec rfl (hb hbytes d7) rfl rfl ?_
      exact Steps.refl _)
    obtain ⟨T3, X3, q3, st3⟩ := cinst X0 hexec hown (wk W (.classLink "java/lang/String" 10 "java/lang/String")) (hy.mv X0.warmed.alike hh0).1 (g := (mkF m 8 #[.val (.ref x), .val (.ref y), .unset] [.ref y])) rfl (rest := []) rfl (hb hbytes d8)
    have hh3 := q3.trans hh0
    have c4 : Steps p.tables e below (s₁.setTop (entryFrame m #[.ref x, .ref y] 3)) (T3.setTop (mkF m 15 #[.val (.ref x), .val (.ref y), .unset] [.ref y])) := (c2.trans (st3 _ (Steps.refl _))).trans (by
      refine XS.ifNo X3.here hexec rfl (hb hbytes d11) rfl (i0_eq_f (by decide)) ?_
      refine XS.aloadN X3.here hexec rfl (hb hbytes d14) rfl rfl ?_
      exact Steps.refl _)
    obtain ⟨T5, X5, q5, st5⟩ := cself X3 hexec hown (wk W (.classLink "java/lang/String" 10 "java/lang/String")) (hy.mv X3.warmed.alike hh3).1 (g := (mkF m 15 #[.val (.ref x), .val (.ref y), .unset] [.ref y])) rfl (rest := []) rfl (hb hbytes d15)
    have hh5 := q5.trans hh3
    have c6 : Steps p.tables e below (s₁.setTop (entryFrame m #[.ref x, .ref y] 3)) (T5.setTop (mkF m 19 #[.val (.ref x), .val (.ref y), .val (.ref y)] [])) := (c4.trans (st5 _ (Steps.refl _))).trans (by
      refine XS.astoreN X5.here hexec rfl (hb hbytes d18) rfl rfl rfl ?_
      exact Steps.refl _)
    obtain ⟨T7, X7, q7, st7⟩ := X5.sget hexec hown (wk W (.fieldLink "java/lang/String" 38 "java/lang/String" "COMPACT_STRINGS" "Z")) s1 (fun _ _ h => by rw [hh5]; exact h) (g := (mkF m 19 #[.val (.ref x), .val (.ref y), .val (.ref y)] [])) rfl (hb hbytes d19)
    have hh7 := q7.trans hh5
    have c8 : Steps p.tables e below (s₁.setTop (entryFrame m #[.ref x, .ref y] 3)) (T7.setTop (mkF m 26 #[.val (.ref x), .val (.ref y), .val (.ref y)] [.ref x])) := (c6.trans (st7 _ (Steps.refl _))).trans (by
      refine XS.ifNo X7.here hexec rfl (hb hbytes d22) rfl (i0_eq_f hz) ?_
      refine XS.aloadN X7.here hexec rfl (hb hbytes d25) rfl rfl ?_
      exact Steps.refl _)
    obtain ⟨T9, X9, q9, st9⟩ := X7.hget hexec hown (wk W (.fieldLink "java/lang/String" 15 "java/lang/String" "coder" "B")) (hx.mv X7.warmed.alike hh7).2.2.1 (g := (mkF m 26 #[.val (.ref x), .val (.ref y), .val (.ref y)] [.ref x])) rfl (rest := []) rfl (hb hbytes d26)
    have hh9 := q9.trans hh7
    have c10 : Steps p.tables e below (s₁.setTop (entryFrame m #[.ref x, .ref y] 3)) (T9.setTop (mkF m 30 #[.val (.ref x), .val (.ref y), .val (.ref y)] [.ref y, .int cd])) := (c8.trans (st9 _ (Steps.refl _))).trans (by
      refine XS.aloadN X9.here hexec rfl (hb hbytes d29) rfl rfl ?_
      exact Steps.refl _)
    obtain ⟨T11, X11, q11, st11⟩ := X9.hget hexec hown (wk W (.fieldLink "java/lang/String" 15 "java/lang/String" "coder" "B")) (hy.mv X9.warmed.alike hh9).2.2.1 (g := (mkF m 30 #[.val (.ref x), .val (.ref y), .val (.ref y)] [.ref y, .int cd])) rfl (rest := [.int cd]) rfl (hb hbytes d30)
    have hh11 := q11.trans hh9
    have c12 : Steps p.tables e below (s₁.setTop (entryFrame m #[.ref x, .ref y] 3)) (T11.setTop (mkF m 33 #[.val (.ref x), .val (.ref y), .val (.ref y)] [.int cd', .int cd])) := c10.trans (st11 _ (Steps.refl _))
    by_cases hcd : cd = cd'
    · subst hcd
      have c13 : Steps p.tables e below (s₁.setTop (entryFrame m #[.ref x, .ref y] 3)) (T11.setTop (mkF m 37 #[.val (.ref x), .val (.ref y), .val (.ref y)] [.ref x])) := c12.trans (by
        refine XS.icmpNo X11.here hexec rfl (hb hbytes d33) rfl (ii_ne_f rfl) ?_
        refine XS.aloadN X11.here hexec rfl (hb hbytes d36) rfl rfl ?_
        exact Steps.refl _)
      obtain ⟨T14, X14, q14, st14⟩ := X11.hget hexec hown (wk W (.fieldLink "java/lang/String" 9 "java/lang/String" "value" "[B")) (hx.mv X11.warmed.alike hh11).2.1 (g := (mkF m 37 #[.val (.ref x), .val (.ref y), .val (.ref y)] [.ref x])) rfl (rest := []) rfl (hb hbytes d37)
      have hh14 := q14.trans hh11
      have c15 : Steps p.tables e below (s₁.setTop (entryFrame m #[.ref x, .ref y] 3)) (T14.setTop (mkF m 41 #[.val (.ref x), .val (.ref y), .val (.ref y)] [.ref y, .ref t])) := (c13.trans (st14 _ (Steps.refl _))).trans (by
        refine XS.aloadN X14.here hexec rfl (hb hbytes d40) rfl rfl ?_
        exact Steps.refl _)
      obtain ⟨T16, X16, q16, st16⟩ := X14.hget hexec hown (wk W (.fieldLink "java/lang/String" 9 "java/lang/String" "value" "[B")) (hy.mv X14.warmed.alike hh14).2.1 (g := (mkF m 41 #[.val (.ref x), .val (.ref y), .val (.ref y)] [.ref y, .ref t])) rfl (rest := [.ref t]) rfl (hb hbytes d41)
      have hh16 := q16.trans hh14
      have c17 : Steps p.tables e below (s₁.setTop (entryFrame m #[.ref x, .ref y] 3)) (T16.setTop (mkF m 44 #[.val (.ref x), .val (.ref y), .val (.ref y)] [.ref t', .ref t])) := c15.trans (st16 _ (Steps.refl _))
      obtain ⟨v18, T18, X18, E18, g18⟩ := X16.callS hexec (LEq.law l t V t' V') hown (wks W (staticW "java/lang/String" 541 LEq.yN)) (wk W LEq.tab) (W := 0) (Nat.le_of_ble_eq_true rfl) (Nat.le_of_ble_eq_true rfl) (Nat.le_refl _) (Nat.le_refl _) (g := (mkF m 44 #[.val (.ref x), .val (.ref y), .val (.ref y)] [.ref t', .ref t])) rfl (by rw [hml]; rfl) c17 (argsL := [.ref t, .ref t']) (rest := []) rfl rfl (by show 2 * 0 + 0 ≤ _; decide) (hb hbytes d44) (⟨rfl, hx.2.2.2.1.mv X16.warmed.alike hh16, hx.2.2.2.2.1.ty, hy.2.2.2.1.mv X16.warmed.alike hh16, hy.2.2.2.2.1.ty⟩)
      obtain ⟨v, rfl, q18, hv⟩ := E18
      have iff := Cod.eqv hx.2.2.2.2.1 hy.2.2.2.2.1 hx.2.2.2.2.2 hy.2.2.2.2.2
      rcases hv with ⟨rfl, he⟩ | ⟨rfl, he⟩
      · have c19 : Steps p.tables e below (s₁.setTop (entryFrame m #[.ref x, .ref y] 3)) (T18.setTop (mkF m 55 #[.val (.ref x), .val (.ref y), .val (.ref y)] [.int 1])) := Steps.trans g18 (by
          refine XS.ifNo X18.here hexec rfl (hb hbytes d47) rfl (i0_eq_f (by decide)) ?_
          refine iconstV X18.here hexec rfl 1 (hb hbytes d50) (by decide) ?_
          refine XS.goto X18.here hexec rfl (pc0 := 51) rfl (hb hbytes d51) (by decide) rfl ?_
          exact Steps.refl _)
        exact ⟨T18, some (.int 1), _, _, _, X18, rfl, rfl, rfl, (fun h => by cases h), ⟨1, rfl, q18.trans hh16, Or.inl ⟨rfl, iff.mp he⟩⟩, fun fs hl => c19.trans (X18.ireturnOut hexec hret rfl (Or.inr (Or.inl rfl)) (hb hbytes d55) hl)⟩
      · have c19 : Steps p.tables e below (s₁.setTop (entryFrame m #[.ref x, .ref y] 3)) (T18.setTop (mkF m 55 #[.val (.ref x), .val (.ref y), .val (.ref y)] [.int 0])) := Steps.trans g18 (by
          refine XS.ifYes X18.here hexec rfl (pc0 := 47) rfl (hb hbytes d47) rfl (i0_eq_t rfl) (by decide) rfl ?_
          refine iconstV X18.here hexec rfl 0 (hb hbytes d54) (by decide) ?_
          exact Steps.refl _)
        exact ⟨T18, some (.int 0), _, _, _, X18, rfl, rfl, rfl, (fun h => by cases h), ⟨0, rfl, q18.trans hh16, Or.inr ⟨rfl, fun q => he (iff.mpr q)⟩⟩, fun fs hl => c19.trans (X18.ireturnOut hexec hret rfl (Or.inr (Or.inl rfl)) (hb hbytes d55) hl)⟩
    · have c13 : Steps p.tables e below (s₁.setTop (entryFrame m #[.ref x, .ref y] 3)) (T11.setTop (mkF m 55 #[.val (.ref x), .val (.ref y), .val (.ref y)] [.int 0])) := c12.trans (by
        refine XS.icmpYes X11.here hexec rfl (pc0 := 33) rfl (hb hbytes d33) rfl (ii_ne_t hcd) (by decide) rfl ?_
        refine iconstV X11.here hexec rfl 0 (hb hbytes d54) (by decide) ?_
        exact Steps.refl _)
      exact ⟨T11, some (.int 0), _, _, _, X11, rfl, rfl, rfl, (fun h => by cases h), ⟨0, rfl, hh11, Or.inr ⟨rfl, Cod.dif hx.2.2.2.2.1 hy.2.2.2.2.1 hcd⟩⟩, fun fs hl => c13.trans (X11.ireturnOut hexec hret rfl (Or.inr (Or.inl rfl)) (hb hbytes d55) hl)⟩
theorem pays {l : Launch} {R : Room} {p : Program} {e : Env} {below : List Frame} {s : State} {sargs : Array Value} {len W : Nat} (x t : Addr) (V : Cell) (cd : Int32) (n : Nat) (f : Nat → Int32) (y t' : Addr) (V' : Cell) (cd' : Int32) (k : Nat) (g : Nat → Int32) (z : Int32) (htab : tab.before sargs s = true) (hfr : 2 ≤ R.frames) (hlo : W + 28 ≤ R.locals) :
    Back l R p e below s sargs yN len W (fun A₁ a₁ => A₁.cells + 0 ≤ R.cells ∧ A₁.slots + 0 ≤ R.slots ∧ P x t V cd n f y t' V' cd' k g z a₁ A₁.U) (fun A₁ _ v₁ B₁ => Says01 (SameT n f k g) v₁ A₁.U B₁.U ∧ B₁.locs = A₁.locs ++ [] ∧ B₁.cells = A₁.cells + 0 ∧ B₁.slots = A₁.slots + 0) :=
  (law l x t V cd n f y t' V' cd' k g z).pays htab hfr (by omega)
end SEq
end StrChars
namespace StrChars.Road
open Jvm Sem ClassFile Op Lib Jvm.Stand Jvm.Free Jvm.Free.XT
open Jvm.Lib.Cold (StaticIs)
/-- the words of String.equals(Object) -/
abbrev wordsEq : List Jvm.Cond := [.code SEq.yN SEq.yB 3 (some .boolean), .initialized ST, .classLink ST 10 ST, .fieldLink ST 38 ST "COMPACT_STRINGS" "Z", .fieldLink ST 15 ST "coder" "B", .fieldLink ST 9 ST "value" "[B", .methodLink ST 541 LEq.yN, .static LEq.yN, .code LEq.yN LEq.yB 3 (some .boolean), .initialized "java/lang/StringLatin1"]
theorem tabEq_of {a : Array Value} {s : State} (h : ∀ w ∈ wordsEq, w.before a s = true) : SEq.tab.before a s = true := by
  have hl : LEq.tab.before a s = true := unparts (wk h (.code LEq.yN LEq.yB 3 (some .boolean))) (wks h (.initialized LEq.yN.cls :: LEq.site))
  have q := consq hl h
  exact unparts (wk q (.code SEq.yN SEq.yB 3 (some .boolean))) (wks q (.initialized SEq.yN.cls :: SEq.site))
theorem movedEq {Z s : State} {a0 args : Array Value} (hZ : Z.Warmed39 s.vm) (hw : ∀ d ∈ wordsEq, d.before a0 Z = true) : ∀ d ∈ wordsEq, d.before args s = true := fun d hd => by
  have t : ∀ d ∈ wordsEq, (d.onTables && d.keepsFace) = true := by decide +kernel
  exact RoadKit.mv hZ (hw d hd) (t d hd)
/-- the road's facts of a String, as the laws ask it -/
theorem txt_of {Z U : State} {a0 : Array Value} {kI : Nat} (wi : (Jvm.Cond.instantiable ST kI).before a0 Z = true) (al : Z.vm.Alike U.vm) {x t : Addr} {kb : ClassId} {cs : List Int32} {cd N2 : Int32} {vs : List Value} (E : RoadKit.Exa Z U.heap x ST) (V : RoadKit.Fld Z U.heap x ST "value" "[B" (.ref t)) (C : RoadKit.Fld Z U.heap x ST "coder" "B" (.int cd)) (K : RoadKit.Arv Z U.heap t kb .byte N2 vs (.int 0)) (hc : CodA cs cd N2 vs) (hb : ∀ c ∈ cs, ¬ c < 0 ∧ ¬ (65535 : Int32) < c) (l2 : cs.length ≤ 4000) :
    ∃ A, Txt x t A cd cs.length (fun j => cs.getD j 0) U := by
  obtain ⟨A, K1, K2, K3, K4, K5, K6⟩ := K
  have hcod := hc.cod (by omega) K3 K5
  obtain ⟨D, fV, fC, hB, F1, F2, g1, g2, -, -⟩ := strObj wi al E V C
  exact ⟨A, ⟨_, hB.2.2.1, D, hB.1, rfl, by cases q : D.vm <;> first | rfl | exact absurd q (hB.2.1.2 _)⟩, Has.of hB F1 g1, Has.of hB F2 g2, ⟨K1.1, State.isArrayOf_alike al K1.2.1, K1.2.2, by rcases hcod with ⟨-, q, -⟩ | ⟨-, q, -⟩ <;> omega⟩, hcod, fun j hj => by
    have e : cs.getD j 0 = cs[j] := by simp [List.getD_eq_getElem?_getD, hj]
    show ¬ cs.getD j 0 < 0 ∧ ¬ 65535 < cs.getD j 0
    rw [e]; exact hb _ (List.getElem_mem _)⟩
theorem same_list (cs ds : List Int32) : SameT cs.length (fun j => cs.getD j 0) ds.length (fun j => ds.getD j 0) ↔ cs = ds := by
  constructor
  · rintro ⟨e, q⟩
    refine List.ext_getElem e fun j h1 h2 => ?_
    have := q j h1
    simpa [List.getD_eq_getElem?_getD, h1, h2] using this
  · rintro rfl
    exact ⟨rfl, fun _ _ => rfl⟩
/-- **equals(Object) OF TWO SUCH STRINGS**: 1 just where the chars are the same -/
theorem eqW {p : Program} {l : Launch} {e : Env} {R : Room} {s : State} {args : Array Value} {below : List Frame} {len W : Nat} {Z : State} {a0 : Array Value} {h : Heap} (hZ : Z.Warmed39 s.vm) (hw : ∀ d ∈ wordsEq, d.before a0 Z = true) {kI : Nat} (wi : (Jvm.Cond.instantiable ST kI).before a0 Z = true)
    {x t : Addr} {kb : ClassId} {cs : List Int32} {cd N2 : Int32} {vs : List Value} (E : RoadKit.Exa Z h x ST) (V : RoadKit.Fld Z h x ST "value" "[B" (.ref t)) (C : RoadKit.Fld Z h x ST "coder" "B" (.int cd)) (K : RoadKit.Arv Z h t kb .byte N2 vs (.int 0)) (hc : CodA cs cd N2 vs) (hb : ∀ c ∈ cs, ¬ c < 0 ∧ ¬ (65535 : Int32) < c) (l2 : cs.length ≤ 4000)
    {y t' : Addr} {kb' : ClassId} {ds : List Int32} {cd' N2' : Int32} {vs' : List Value} (E' : RoadKit.Exa Z h y ST) (V' : RoadKit.Fld Z h y ST "value" "[B" (.ref t')) (C' : RoadKit.Fld Z h y ST "coder" "B" (.int cd')) (K' : RoadKit.Arv Z h t' kb' .byte N2' vs' (.int 0)) (hc' : CodA ds cd' N2' vs') (hb' : ∀ c ∈ ds, ¬ c < 0 ∧ ¬ (65535 : Int32) < c) (l2' : ds.length ≤ 4000)
    {z : Int32} (S : RoadKit.Sta Z h ST "COMPACT_STRINGS" "Z" (.int z)) (hz : ¬ z = 0) (hfr : 2 ≤ R.frames) (hlo : W + 28 ≤ R.locals) :
    Back l R p e below s args (⟨"java/lang/String", "equals", "(Ljava/lang/Object;)Z"⟩ : MethodName) len W (fun P a => a = #[.ref x, .ref y] ∧ P.U.heap = h ∧ P.cells + 0 ≤ R.cells ∧ P.slots + 0 ≤ R.slots)
      (fun P _ v B => ∃ L, (((v = some (.int 1) ∧ cs = ds) ∨ (v = some (.int 0) ∧ ¬ cs = ds)) ∧ L = [] ∧ B.U.heap = h) ∧ B.locs = P.locs ++ L ∧ B.cells = P.cells + 0 ∧ B.slots = P.slots + 0) := by
  intro m meth c P g ig mk a X hg hsize hdg hW hn hp'
  obtain ⟨rfl, rfl, r1, r2⟩ := hp'
  have al : Z.vm.Alike P.U.vm := hZ.alike.trans X.warmed.alike
  obtain ⟨A, hx⟩ := txt_of wi al E V C K hc hb l2
  obtain ⟨A', hy⟩ := txt_of wi al E' V' C' K' hc' hb' l2'
  obtain ⟨v, B, X', ⟨⟨w, hv, hh, hq⟩, hl, hk, hs⟩, st⟩ := SEq.pays x t A cd cs.length (fun j => cs.getD j 0) y t' A' cd' ds.length (fun j => ds.getD j 0) z (tabEq_of (movedEq hZ hw)) hfr hlo m meth c P g ig mk _ X hg hsize hdg hW hn ⟨r1, r2, rfl, hx, hy, sta_is al S, hz⟩
  refine ⟨v, B, X', ⟨[], ⟨?_, rfl, hh⟩, hl, hk, hs⟩, st⟩
  rcases hq with ⟨rfl, q⟩ | ⟨rfl, q⟩
  · exact Or.inl ⟨hv, (same_list cs ds).mp q⟩
  · exact Or.inr ⟨hv, fun e => q ((same_list cs ds).mpr e)⟩
end StrChars.Road
namespace StrChars.Road
open Jvm Sem ClassFile Op Lib Jvm.Stand Jvm.Free Jvm.Free.XT
open Jvm.Lib.Cold (StaticIs)
/-- what backV says of its String, as the contracts of this text ask it: cs's low bytes, coder 0 -/
theorem codOf {cs : List Int32} {n : Nat} (hn : cs.length = n) (hb : ∀ c ∈ cs, ¬ 255 < c) : CodA cs 0 (Int32.ofNat n) ((cs.map lo8).map Value.int) := Or.inl ⟨rfl, by rw [hn], by simp [List.map_map, Function.comp_def], hb⟩
end StrChars.Road
end Jvm.Pilot.@@N@@
namespace Jvm.Pilot.@@N@@
open Jvm Jvm.ClassFile Sem Op Lib Jvm.Free Jvm.Stand Jvm.LawKit Jvm.RoadKit Jvm.OwnKit Bundle Jvm.Pilot.@@N@@.Jvm.D
theorem own_wS {Z : State} {a0 : Array Value} (hw : ∀ d ∈ tables_1, d.before a0 Z = true) : ∀ a ∈ Bundle.stringAtoms, a.before a0 Z = true := fun d hd => hw d ((by decide +kernel : ∀ d ∈ Bundle.stringAtoms, d ∈ tables_1) d hd)
theorem own_EW {Z : State} {a0 : Array Value} (hw : ∀ d ∈ tables_1, d.before a0 Z = true) : EW Z a0 consts_1 := EW.cons (hw _ (List.mem_of_getElem? (i := 41) rfl)) (by decide +kernel) (EW.cons (hw _ (List.mem_of_getElem? (i := 90) rfl)) (by decide +kernel) (EW.cons (hw _ (List.mem_of_getElem? (i := 21) rfl)) (by decide +kernel) (EW.nil)))
def own_len (a : Int32) : Int32 := (((a.toUInt32 >>> ((16 : Int32) &&& 31).toUInt32).toInt32) &&& (3 : Int32))
def own_c0 (a : Int32) : Int32 := a &&& (255 : Int32)
def own_c1 (a : Int32) : Int32 := ((a.toUInt32 >>> ((8 : Int32) &&& 31).toUInt32).toInt32) &&& (255 : Int32)
def own_c2 (a : Int32) : Int32 := ((a.toUInt32 >>> ((18 : Int32) &&& 31).toUInt32).toInt32) &&& (255 : Int32)
theorem own_twice (x : Int32) : x &&& (255 : Int32) = (x &&& (255 : Int32)).toUInt32.toUInt16.toUInt32.toInt32.toUInt32.toUInt16.toUInt32.toInt32 := by rw [i2c_mask, i2c_mask]
theorem own_c0_eq (a : Int32) : own_c0 a = (a &&& (255 : Int32)).toUInt32.toUInt16.toUInt32.toInt32.toUInt32.toUInt16.toUInt32.toInt32 := own_twice a
theorem own_c1_eq (a : Int32) : own_c1 a = (((a.toUInt32 >>> ((8 : Int32) &&& 31).toUInt32).toInt32) &&& (255 : Int32)).toUInt32.toUInt16.toUInt32.toInt32.toUInt32.toUInt16.toUInt32.toInt32 := own_twice _
theorem own_c2_eq (a : Int32) : own_c2 a = (((a.toUInt32 >>> ((18 : Int32) &&& 31).toUInt32).toInt32) &&& (255 : Int32)).toUInt32.toUInt16.toUInt32.toInt32.toUInt32.toUInt16.toUInt32.toInt32 := own_twice _
theorem own_c0_small (a : Int32) : ¬ own_c0 a < 0 ∧ ¬ (255 : Int32) < own_c0 a := and255 _
theorem own_c1_small (a : Int32) : ¬ own_c1 a < 0 ∧ ¬ (255 : Int32) < own_c1 a := and255 _
theorem own_c2_small (a : Int32) : ¬ own_c2 a < 0 ∧ ¬ (255 : Int32) < own_c2 a := and255 _
def own_cs (a : Int32) : List Int32 := if own_len a = 0 then [] else if own_len a = (1 : Int32) then [own_c0 a] else if own_len a = (2 : Int32) then [own_c0 a, own_c1 a] else [own_c0 a, own_c1 a, own_c2 a]
theorem own_hp2 (a : Int32) : ∀ c ∈ ([own_c0 a, own_c1 a] : List Int32), ¬ c < 0 ∧ ¬ (255 : Int32) < c := by
  intro c hc
  simp only [List.mem_cons, List.not_mem_nil, or_false] at hc
  rcases hc with rfl | rfl
  · exact own_c0_small a
  · exact own_c1_small a
theorem own_hp3 (a : Int32) : ∀ c ∈ ([own_c0 a, own_c1 a, own_c2 a] : List Int32), ¬ c < 0 ∧ ¬ (255 : Int32) < c := by
  intro c hc
  simp only [List.mem_cons, List.not_mem_nil, or_false] at hc
  rcases hc with rfl | rfl | rfl
  · exact own_c0_small a
  · exact own_c1_small a
  · exact own_c2_small a
def own_same3 (a b : Int32) : Int32 := if own_len a < (3 : Int32) then 1 else if own_c2 a = own_c2 b then 1 else 0
def own_same2 (a b : Int32) : Int32 := if own_len a < (2 : Int32) then own_same3 a b else if own_c1 a = own_c1 b then own_same3 a b else 0
def own_same1 (a b : Int32) : Int32 := if own_len a < (1 : Int32) then own_same2 a b else if own_c0 a = own_c0 b then own_same2 a b else 0
def own_same (a b : Int32) : Int32 := if own_len a = own_len b then own_same1 a b else 0
theorem own_len4 (a : Int32) : own_len a = 0 ∨ own_len a = 1 ∨ own_len a = 2 ∨ own_len a = 3 := and3_cases _
theorem own_same_eq (a b : Int32) : (if own_cs a = own_cs b then (1 : Int32) else (0 : Int32)) = own_same a b := by
  unfold own_same own_same1 own_same2 own_same3 own_cs
  generalize own_c0 a = a0
  generalize own_c1 a = a1
  generalize own_c2 a = a2
  generalize own_c0 b = b0
  generalize own_c1 b = b1
  generalize own_c2 b = b2
  have ha := own_len4 a
  have hb := own_len4 b
  generalize own_len a = la at *
  generalize own_len b = lb at *
  have k1 : ¬ (1 : Int32) = 0 := by decide
  have k2 : ¬ (2 : Int32) = 0 := by decide
  have k3 : ¬ (2 : Int32) = 1 := by decide
  have k4 : ¬ (3 : Int32) = 0 := by decide
  have k5 : ¬ (3 : Int32) = 1 := by decide
  have k6 : ¬ (3 : Int32) = 2 := by decide
  have k7 : ¬ (0 : Int32) = 1 := by decide
  have k8 : ¬ (0 : Int32) = 2 := by decide
  have k9 : ¬ (0 : Int32) = 3 := by decide
  have k10 : ¬ (1 : Int32) = 2 := by decide
  have k11 : ¬ (1 : Int32) = 3 := by decide
  have k12 : ¬ (2 : Int32) = 3 := by decide
  have l1 : (0 : Int32) < 1 := by decide
  have l2 : (0 : Int32) < 2 := by decide
  have l3 : (0 : Int32) < 3 := by decide
  have l4 : ¬ (1 : Int32) < 1 := by decide
  have l5 : (1 : Int32) < 2 := by decide
  have l6 : (1 : Int32) < 3 := by decide
  have l7 : ¬ (2 : Int32) < 1 := by decide
  have l8 : ¬ (2 : Int32) < 2 := by decide
  have l9 : (2 : Int32) < 3 := by decide
  have l10 : ¬ (3 : Int32) < 1 := by decide
  have l11 : ¬ (3 : Int32) < 2 := by decide
  have l12 : ¬ (3 : Int32) < 3 := by decide
  rcases ha with rfl | rfl | rfl | rfl <;> rcases hb with rfl | rfl | rfl | rfl <;>
    by_cases h0 : a0 = b0 <;> by_cases h1 : a1 = b1 <;> by_cases h2 : a2 = b2 <;>
    simp [k1, k2, k3, k4, k5, k6, k7, k8, k9, k10, k11, k12, l1, l2, l3, l4, l5, l6, l7, l8, l9, l10, l11, l12, h0, h1, h2]
theorem own_same_eq' (a b : Int32) : (if own_cs b = own_cs a then (1 : Int32) else (0 : Int32)) = own_same a b := by
  rw [← own_same_eq]
  by_cases h : own_cs a = own_cs b
  · rw [if_pos h, if_pos h.symm]
  · rw [if_neg h, if_neg (fun q => h q.symm)]
theorem own_cs_of {Z : State} {h : Heap} {x : Addr} {cs ds : List Int32} (e : ds = cs) (F : StrIs Z h x cs) : StrIs Z h x ds := by
  rw [e]
  exact F
theorem own_if_f {P : Prop} [Decidable P] (q : (if P then (1 : Int32) else (0 : Int32)) = 0) : (if P then (1 : Int32) else (0 : Int32)) = 0 := q
theorem own_if_t {P : Prop} [Decidable P] (q : ¬ (if P then (1 : Int32) else (0 : Int32)) = 0) : (if P then (1 : Int32) else (0 : Int32)) = 1 := by
  split
  · rfl
  · rename_i h
    rw [if_neg h] at q
    exact absurd rfl q
theorem own_kind {x kd : Int32} (h : kd = (x &&& (3 : Int32))) : kd = 0 ∨ kd = 1 ∨ kd = 2 ∨ kd = 3 := by
  rw [h]
  exact and3_cases x
theorem own_eqB {p : Program} {l : Launch} {e : Env} {R : Room} {s : State} {args : Array Value} {below : List Frame} {len W : Nat} {Z : State} {a0 : Array Value} {h : Heap} {n0 : Nat} (hw : ∀ d ∈ tables_1, d.before a0 Z = true) (hZ : Z.Warmed39 s.vm) {x y : Addr} {cs ds : List Int32} (F : StrIs Z h x cs) (G : StrIs Z h y ds) {z : Int32} (S : Sta Z h "java/lang/String" "COMPACT_STRINGS" "Z" (.int z)) (hz : ¬ z = 0) (hfr : 2 ≤ R.frames) (hlo : W + 28 ≤ R.locals) :
    Back l R p e below s args (⟨"java/lang/String", "equals", "(Ljava/lang/Object;)Z"⟩ : MethodName) len W (fun P a => a = #[.ref x, .ref y] ∧ P.U.heap = h ∧ P.cells + 0 ≤ R.cells ∧ P.slots + 0 ≤ R.slots)
      (fun P _ v B => ∃ L, (v = some (.int (if cs = ds then (1 : Int32) else (0 : Int32))) ∧ Fr n0 L ∧ B.U.heap = h) ∧ B.locs = P.locs ++ L ∧ B.cells = P.cells + 0 ∧ B.slots = P.slots + 0) := by
  obtain ⟨t, k, E, V, C, K, hp, hl⟩ := F
  obtain ⟨t', k', E', V', C', K', hp', hl'⟩ := G
  have up : ∀ {c : Int32}, ¬ c < 0 ∧ ¬ (255 : Int32) < c → ¬ c < 0 ∧ ¬ (65535 : Int32) < c := fun {c} q => by
    simp only [Int32.lt_iff_toInt_lt, Int32.reduceToInt] at q ⊢
    omega
  refine Back.mono (StrChars.Road.eqW hZ (fun d hd => hw d ((by decide +kernel : ∀ d ∈ StrChars.Road.wordsEq, d ∈ tables_1) d hd)) (kI := 4) (hw _ (List.mem_of_getElem? (i := 8) rfl)) E V C K (StrChars.Road.codOf rfl fun c hc => (hp c hc).2) (fun c hc => up (hp c hc)) hl E' V' C' K' (StrChars.Road.codOf rfl fun c hc => (hp' c hc).2) (fun c hc => up (hp' c hc)) hl' S hz hfr hlo) (fun _ _ q => q) ?_
  rintro P a v B - ⟨L, ⟨hv, hL, hh⟩, r⟩
  refine ⟨L, ⟨?_, by rw [hL]; exact Fr.nil _, hh⟩, r⟩
  rcases hv with ⟨rfl, q⟩ | ⟨rfl, q⟩
  · rw [if_pos q]
  · rw [if_neg q]
theorem d4_0 : decode jdk_42_method_149_code 0 = .ok (.aload_n 0, 1) := by decide +kernel
theorem d4_1 : decode jdk_42_method_149_code 1 = .ok (.invokespecial 1, 3) := by decide +kernel
theorem d4_4 : decode jdk_42_method_149_code 4 = .ok (.iload_n 3, 1) := by decide +kernel
theorem d4_5 : decode jdk_42_method_149_code 5 = .ok (.ifCond .ne 22, 3) := by decide +kernel
theorem d4_8 : decode jdk_42_method_149_code 8 = .ok (.aload_n 0, 1) := by decide +kernel
theorem d4_9 : decode jdk_42_method_149_code 9 = .ok (.ldc 7, 2) := by decide +kernel
theorem d4_11 : decode jdk_42_method_149_code 11 = .ok (.getfield 9, 3) := by decide +kernel
theorem d4_14 : decode jdk_42_method_149_code 14 = .ok (.putfield 9, 3) := by decide +kernel
theorem d4_17 : decode jdk_42_method_149_code 17 = .ok (.aload_n 0, 1) := by decide +kernel
theorem d4_18 : decode jdk_42_method_149_code 18 = .ok (.ldc 7, 2) := by decide +kernel
theorem d4_20 : decode jdk_42_method_149_code 20 = .ok (.getfield 15, 3) := by decide +kernel
theorem d4_23 : decode jdk_42_method_149_code 23 = .ok (.putfield 15, 3) := by decide +kernel
theorem d4_26 : decode jdk_42_method_149_code 26 = .ok (.return_, 1) := by decide +kernel
theorem ef_rm_s0v (m : MethodId) (t : Addr) (ca : Addr)  : entryFrame m #[(.ref t), (.ref ca), (.int (0 : Int32)), (.int (0 : Int32)), .null] 6 = mkF m 0 #[.val (.ref t), .val (.ref ca), .val (.int (0 : Int32)), .val (.int (0 : Int32)), .val .null, .unset] [] := by first | (simp [entryFrame, mkF, argsToLocals, Value.category]; done) | rfl
def Q_rm_s0v (Z : State) (t : Addr) (ca : Addr)  (h0 : Heap) (n0 : Nat) (v : Option Value) (h : Heap) (L : List Loc) : Prop := v = none ∧ Fr n0 L ∧ Keep h0 h [t] ∧ StrIs Z h t []
theorem pn_0_ : plainName "java/lang/String" = true := by first | (simp [plainName, overriddenIn]; done) | decide +kernel
theorem pn_0 : plainFor (⟨"java/lang/String", "<init>", "([CIILjava/lang/Void;)V"⟩ : MethodName) = true := plainFor_of_name pn_0_
set_option maxRecDepth 65536 in
set_option maxHeartbeats 40000000 in
theorem rm_s0v (l : Launch) (Z : State) (a0 : Array Value) (hw : ∀ d ∈ tables_1, d.before a0 Z = true) (ws : List Jvm.Cond) (t : Addr) (ca : Addr)  (h0 : Heap) (n0 : Nat) (O0 : Old Z n0 h0) (hEL : EW Z a0 consts_1) (E_t : Exa Z h0 t "java/lang/String") (F_t_value : Fld Z h0 t "java/lang/String" "value" "[B" .null) (F_t_coder : Fld Z h0 t "java/lang/String" "coder" "B" (.int (0 : Int32))) (ge_t : n0 ≤ t) :
    MetFree l (⟨"java/lang/String", "<init>", "([CIILjava/lang/Void;)V"⟩ : MethodName) (head1 (Jvm.Cond.code (⟨"java/lang/String", "<init>", "([CIILjava/lang/Void;)V"⟩ : MethodName) jdk_42_method_149_code 6 none :: ws) ({ frames := 1, cells := 2, slots := 4, locals := 12 } : Room)) (fun args_ U => args_ = #[(.ref t), (.ref ca), (.int (0 : Int32)), (.int (0 : Int32)), .null] ∧ Z.Warmed39 U.vm ∧ U.heap = h0 ∧ CHv Z consts_1 U.vm h0) (fun _ _ _ _ _ => True) (fun _ U out_ U' => ∃ val_ loc_, out_ = .returned val_ ∧ (Q_rm_s0v Z t ca h0 n0) val_ U'.heap loc_ ∧ CHr Z consts_1 U.vm U.heap U'.vm U'.heap ∧ ReturnedEndW U out_ U' loc_ ({ frames := 1, cells := 2, slots := 4, locals := 12 } : Room).cells ({ frames := 1, cells := 2, slots := 4, locals := 12 } : Room).slots) := by
  refine startW (Q := (Q_rm_s0v Z t ca h0 n0)) pn_0 ?_
  intro p e s m below meth c T0 X0 hx hby hml hown hnm hret hlk hZ e0 hS CR
  have hk : 0 ≤ h0.size := Nat.zero_le _
  have wS : ∀ a ∈ Bundle.stringAtoms, a.before a0 Z = true := own_wS hw
  replace hown : s.vm.findClass "java/lang/String" = some m.cls := hown
  replace hml : c.maxLocals = 6 := hml
  refine goAt (ef_rm_s0v m t ca ) ?_
  have N0 := Fr.nil n0
  have Sf_t := safeNull (EL := consts_1) hZ.alike E_t F_t_value
  show Go p e below T0 (mkF m 0 #[.val (.ref t), .val (.ref ca), .val (.int (0 : Int32)), .val (.int (0 : Int32)), .val .null, .unset] []) _
  refine stp (fun _ => XS.aloadN X0.here hx rfl (hb hby d4_0) rfl rfl) ?_
  show Go p e below T0 (mkF m 1 #[.val (.ref t), .val (.ref ca), .val (.int (0 : Int32)), .val (.int (0 : Int32)), .val .null, .unset] [(.ref t)]) _
  obtain ⟨T1, X1, e1, st1⟩ := initO X0 hx hZ hown (hw _ (List.mem_of_getElem? (i := 18) rfl)) (hw _ (List.mem_of_getElem? (i := 19) rfl)) (hw _ (List.mem_of_getElem? (i := 20) rfl)) e0 (g := (mkF m 1 #[.val (.ref t), .val (.ref ca), .val (.int (0 : Int32)), .val (.int (0 : Int32)), .val .null, .unset] [(.ref t)])) rfl (by rw [hml]; rfl) rfl (hb hby d4_1) (by decide) (W := 0) (by show 2 * 0 + _ ≤ _; exact Nat.le_of_eq rfl) (by decide)
  refine stp st1 ?_
  show Go p e below T1 (mkF m 4 #[.val (.ref t), .val (.ref ca), .val (.int (0 : Int32)), .val (.int (0 : Int32)), .val .null, .unset] []) _
  refine stp (fun _ => XS.iloadN X1.here hx rfl (hb hby d4_4) rfl) ?_
  show Go p e below T1 (mkF m 5 #[.val (.ref t), .val (.ref ca), .val (.int (0 : Int32)), .val (.int (0 : Int32)), .val .null, .unset] [(.int (0 : Int32))]) _
  refine stp (fun _ => XS.ifNo X1.here hx rfl (hb hby d4_5) rfl (by decide)) ?_
  show Go p e below T1 (mkF m 8 #[.val (.ref t), .val (.ref ca), .val (.int (0 : Int32)), .val (.int (0 : Int32)), .val .null, .unset] []) _
  refine stp (fun _ => XS.aloadN X1.here hx rfl (hb hby d4_8) rfl rfl) ?_
  show Go p e below T1 (mkF m 9 #[.val (.ref t), .val (.ref ca), .val (.int (0 : Int32)), .val (.int (0 : Int32)), .val .null, .unset] [(.ref t)]) _
  obtain ⟨la2, T2, h2, k1_2, lb2, kl2, X2, e2, E2, hS, hk', hZ, hown, Ea2, Ca2, Va2, Ba2, lta2, ltb2, CRn2, Li2, hne2, st2⟩ := ldcCH X1 hx hZ hown (hw _ (List.mem_of_getElem? (i := 21) rfl)) wS e1 hS hk hEL (by decide) CR.1 (vs := []) (z := (0 : Int32)) ⟨by decide +kernel, by decide +kernel⟩ (by decide) (by decide) (g := (mkF m 9 #[.val (.ref t), .val (.ref ca), .val (.int (0 : Int32)), .val (.int (0 : Int32)), .val .null, .unset] [(.ref t)])) rfl (hb hby d4_9) (n := 0) (by decide +kernel) (by decide) (by decide) (by decide)
  have f3 := E_t.ext E2
  have f4 := F_t_value.ext E2
  have f5 := F_t_coder.ext E2
  have f6 := (CRn2.safe F_t_coder.lt Sf_t)
  have hk := hk'
  have CR := CR.trans CRn2
  have K2 : Keep h0 h2 [t] := (Keep.refl h0 [t]).ext E2
  have O2 := O0.ext E2
  have ne7 := hne2 t f6
  refine stp st2 ?_
  show Go p e below T2 (mkF m 11 #[.val (.ref t), .val (.ref ca), .val (.int (0 : Int32)), .val (.int (0 : Int32)), .val .null, .unset] [(.ref la2), (.ref t)]) _
  obtain ⟨T8, X8, e8, st8⟩ := getF X2 hx hZ hown (host := "") (Or.inl (hw _ (List.mem_of_getElem? (i := 27) rfl))) Via.refl e2 Va2 (g := (mkF m 11 #[.val (.ref t), .val (.ref ca), .val (.int (0 : Int32)), .val (.int (0 : Int32)), .val .null, .unset] [(.ref la2), (.ref t)])) rfl rfl (hb hby d4_11)
  refine stp st8 ?_
  show Go p e below T8 (mkF m 14 #[.val (.ref t), .val (.ref ca), .val (.int (0 : Int32)), .val (.int (0 : Int32)), .val .null, .unset] [(.ref lb2), (.ref t)]) _
  obtain ⟨T9, h9, X9, e9, W9, st9⟩ := putF X8 hx hZ hown (host := "") (Or.inl (hw _ (List.mem_of_getElem? (i := 27) rfl))) Via.refl e8 f4 f3 (Or.inr ⟨(hw _ (List.mem_of_getElem? (i := 23) rfl)), rfl, hnm⟩) (hw _ (List.mem_of_getElem? (i := 8) rfl)) (ty := (.array .byte)) (by decide) rfl rfl (g := (mkF m 14 #[.val (.ref t), .val (.ref ca), .val (.int (0 : Int32)), .val (.int (0 : Int32)), .val .null, .unset] [(.ref lb2), (.ref t)])) rfl rfl (hb hby d4_14)
  have Fw9 := f4.same W9
  have f10 := f3.wr W9
  have f12 := f5.other W9 (Or.inr (slot_ne (Or.inr (hw _ (List.mem_of_getElem? (i := 24) rfl))) (Or.inr (hw _ (List.mem_of_getElem? (i := 23) rfl))) (by decide) (t := .byte) (t' := (.array .byte)) (by decide) (by decide)))
  have f13 := Safe.wr W9 f6 CR.1 f6
  have f14 := Ea2.wr W9
  have f15 := Ca2.other W9 (Or.inl (Ne.symm ne7.1))
  have f16 := Va2.other W9 (Or.inl (Ne.symm ne7.1))
  have f17 := Ba2.other W9 (Ne.symm ne7.2)
  have hk := Nat.le_trans hk (Keep.of_wr W9).1
  have CR := CR.trans (CHr.wr W9 f6 CR.1)
  have K9 : Keep h0 h9 [t] := K2.wr W9 (Or.inl (List.mem_of_getElem? (i := 0) rfl))
  have O9 := O2.wr W9 ge_t
  have N9 := Fr.snoc X9 N0 ge_t
  refine stp st9 ?_
  show Go p e below T9 (mkF m 17 #[.val (.ref t), .val (.ref ca), .val (.int (0 : Int32)), .val (.int (0 : Int32)), .val .null, .unset] []) _
  refine stp (fun _ => XS.aloadN X9.here hx rfl (hb hby d4_17) rfl rfl) ?_
  show Go p e below T9 (mkF m 18 #[.val (.ref t), .val (.ref ca), .val (.int (0 : Int32)), .val (.int (0 : Int32)), .val .null, .unset] [(.ref t)]) _
  refine stp (fun _ => ldcAgain X9 hx hZ hown (hw _ (List.mem_of_getElem? (i := 21) rfl)) Li2 (g := (mkF m 18 #[.val (.ref t), .val (.ref ca), .val (.int (0 : Int32)), .val (.int (0 : Int32)), .val .null, .unset] [(.ref t)])) rfl (hb hby d4_18) _) ?_
  show Go p e below T9 (mkF m 20 #[.val (.ref t), .val (.ref ca), .val (.int (0 : Int32)), .val (.int (0 : Int32)), .val .null, .unset] [(.ref la2), (.ref t)]) _
  obtain ⟨T18, X18, e18, st18⟩ := getF X9 hx hZ hown (host := "") (Or.inl (hw _ (List.mem_of_getElem? (i := 28) rfl))) Via.refl e9 f15 (g := (mkF m 20 #[.val (.ref t), .val (.ref ca), .val (.int (0 : Int32)), .val (.int (0 : Int32)), .val .null, .unset] [(.ref la2), (.ref t)])) rfl rfl (hb hby d4_20)
  refine stp st18 ?_
  show Go p e below T18 (mkF m 23 #[.val (.ref t), .val (.ref ca), .val (.int (0 : Int32)), .val (.int (0 : Int32)), .val .null, .unset] [(.int (0 : Int32)), (.ref t)]) _
  obtain ⟨T19, h19, X19, e19, W19, st19⟩ := putFN X18 hx hZ hown (hw _ (List.mem_of_getElem? (i := 28) rfl)) Via.refl e18 f12 f10 (Or.inr ⟨(hw _ (List.mem_of_getElem? (i := 24) rfl)), rfl, hnm⟩) (hw _ (List.mem_of_getElem? (i := 8) rfl)) (ty := .byte) (v' := (.int (0 : Int32))) (by decide) rfl rfl (g := (mkF m 23 #[.val (.ref t), .val (.ref ca), .val (.int (0 : Int32)), .val (.int (0 : Int32)), .val .null, .unset] [(.int (0 : Int32)), (.ref t)])) rfl rfl (hb hby d4_23)
  have Fw19 := f12.same W19
  have f20 := f10.wr W19
  have f21 := Fw9.other W19 (Or.inr (slot_ne (Or.inr (hw _ (List.mem_of_getElem? (i := 23) rfl))) (Or.inr (hw _ (List.mem_of_getElem? (i := 24) rfl))) (by decide) (t := (.array .byte)) (t' := .byte) (by decide) (by decide)))
  have f23 := Safe.wr W19 f13 CR.1 f13
  have f24 := f14.wr W19
  have f25 := f15.other W19 (Or.inl (Ne.symm ne7.1))
  have f26 := f16.other W19 (Or.inl (Ne.symm ne7.1))
  have f27 := f17.other W19 (Ne.symm ne7.2)
  have hk := Nat.le_trans hk (Keep.of_wr W19).1
  have CR := CR.trans (CHr.wr W19 f13 CR.1)
  have K19 : Keep h0 h19 [t] := K9.wr W19 (Or.inl (List.mem_of_getElem? (i := 0) rfl))
  have O19 := O9.wr W19 ge_t
  have N19 := Fr.snoc X19 N9 ge_t
  refine stp st19 ?_
  show Go p e below T19 (mkF m 26 #[.val (.ref t), .val (.ref ca), .val (.int (0 : Int32)), .val (.int (0 : Int32)), .val .null, .unset] []) _
  have Q28 : StrIs Z h19 t [] := StrIs.of f20 f21 Fw19 f27 rfl rfl (fun _ q => nomatch q) (Nat.le_of_ble_eq_true rfl)
  refine outVW X19 hx hZ hEL e19 hS hk CR hret (hb hby d4_26) hlk (by decide) (by decide) ?_
  rw [e19]
  exact ⟨rfl, N19, K19, Q28⟩
theorem d3_0 : decode jdk_42_method_3_code 0 = .ok (.aload_n 0, 1) := by decide +kernel
theorem d3_1 : decode jdk_42_method_3_code 1 = .ok (.aload_n 1, 1) := by decide +kernel
theorem d3_2 : decode jdk_42_method_3_code 2 = .ok (.iconst 0, 1) := by decide +kernel
theorem d3_3 : decode jdk_42_method_3_code 3 = .ok (.aload_n 1, 1) := by decide +kernel
theorem d3_4 : decode jdk_42_method_3_code 4 = .ok (.arraylength, 1) := by decide +kernel
theorem d3_5 : decode jdk_42_method_3_code 5 = .ok (.aconst_null, 1) := by decide +kernel
theorem d3_6 : decode jdk_42_method_3_code 6 = .ok (.invokespecial 27, 3) := by decide +kernel
theorem pd_0 : parseMethodDescriptor "([CIILjava/lang/Void;)V" = some ⟨[(.array .char), .int, .int, (.object "java/lang/Void")], none⟩ := by decide +kernel
theorem d3_9 : decode jdk_42_method_3_code 9 = .ok (.return_, 1) := by decide +kernel
theorem ef_rm_s0 (m : MethodId) (t : Addr) (ca : Addr)  : entryFrame m #[(.ref t), (.ref ca)] 2 = mkF m 0 #[.val (.ref t), .val (.ref ca)] [] := by first | (simp [entryFrame, mkF, argsToLocals, Value.category]; done) | rfl
def Q_rm_s0 (Z : State) (t : Addr) (ca : Addr) (k_ca : ClassId) (h0 : Heap) (n0 : Nat) (v : Option Value) (h : Heap) (L : List Loc) : Prop := v = none ∧ Fr n0 L ∧ Keep h0 h [t] ∧ StrIs Z h t []
theorem pn_1_ : plainName "java/lang/String" = true := by first | (simp [plainName, overriddenIn]; done) | decide +kernel
theorem pn_1 : plainFor (⟨"java/lang/String", "<init>", "([C)V"⟩ : MethodName) = true := plainFor_of_name pn_1_
set_option maxRecDepth 65536 in
set_option maxHeartbeats 40000000 in
theorem rm_s0 (l : Launch) (Z : State) (a0 : Array Value) (hw : ∀ d ∈ tables_1, d.before a0 Z = true) (ws : List Jvm.Cond) (t : Addr) (ca : Addr) (k_ca : ClassId) (h0 : Heap) (n0 : Nat) (O0 : Old Z n0 h0) (hEL : EW Z a0 consts_1) (E_t : Exa Z h0 t "java/lang/String") (F_t_value : Fld Z h0 t "java/lang/String" "value" "[B" .null) (F_t_coder : Fld Z h0 t "java/lang/String" "coder" "B" (.int (0 : Int32))) (V_ca : Arv Z h0 ca k_ca .char (0 : Int32) [] (.int (0 : Int32))) (ge_t : n0 ≤ t) (ne_ca_t : ca ≠ t) :
    MetFree l (⟨"java/lang/String", "<init>", "([C)V"⟩ : MethodName) (head1 (Jvm.Cond.code (⟨"java/lang/String", "<init>", "([C)V"⟩ : MethodName) jdk_42_method_3_code 2 none :: ws) ({ frames := 2, cells := 2, slots := 4, locals := 29 } : Room)) (fun args_ U => args_ = #[(.ref t), (.ref ca)] ∧ Z.Warmed39 U.vm ∧ U.heap = h0 ∧ CHv Z consts_1 U.vm h0) (fun _ _ _ _ _ => True) (fun _ U out_ U' => ∃ val_ loc_, out_ = .returned val_ ∧ (Q_rm_s0 Z t ca k_ca h0 n0) val_ U'.heap loc_ ∧ CHr Z consts_1 U.vm U.heap U'.vm U'.heap ∧ ReturnedEndW U out_ U' loc_ ({ frames := 2, cells := 2, slots := 4, locals := 29 } : Room).cells ({ frames := 2, cells := 2, slots := 4, locals := 29 } : Room).slots) := by
  refine startW (Q := (Q_rm_s0 Z t ca k_ca h0 n0)) pn_1 ?_
  intro p e s m below meth c T0 X0 hx hby hml hown hnm hret hlk hZ e0 hS CR
  have hk : 0 ≤ h0.size := Nat.zero_le _
  have wS : ∀ a ∈ Bundle.stringAtoms, a.before a0 Z = true := own_wS hw
  replace hown : s.vm.findClass "java/lang/String" = some m.cls := hown
  replace hml : c.maxLocals = 2 := hml
  refine goAt (ef_rm_s0 m t ca ) ?_
  have N0 := Fr.nil n0
  have Sf_t := safeNull (EL := consts_1) hZ.alike E_t F_t_value
  show Go p e below T0 (mkF m 0 #[.val (.ref t), .val (.ref ca)] []) _
  refine stp (fun _ => XS.aloadN X0.here hx rfl (hb hby d3_0) rfl rfl) ?_
  show Go p e below T0 (mkF m 1 #[.val (.ref t), .val (.ref ca)] [(.ref t)]) _
  refine stp (fun _ => XS.aloadN X0.here hx rfl (hb hby d3_1) rfl rfl) ?_
  show Go p e below T0 (mkF m 2 #[.val (.ref t), .val (.ref ca)] [(.ref ca), (.ref t)]) _
  refine stp (fun _ => XS.iconst X0.here hx rfl (hb hby d3_2)) ?_
  show Go p e below T0 (mkF m 3 #[.val (.ref t), .val (.ref ca)] [(.int (0 : Int32)), (.ref ca), (.ref t)]) _
  refine stp (fun _ => XS.aloadN X0.here hx rfl (hb hby d3_3) rfl rfl) ?_
  show Go p e below T0 (mkF m 4 #[.val (.ref t), .val (.ref ca)] [(.ref ca), (.int (0 : Int32)), (.ref ca), (.ref t)]) _
  obtain ⟨cl1, Ar1, -, S1, M1, -, -⟩ := (id V_ca)
  refine stp (fun _ => X0.arraylength hx (by rw [e0]; exact Ar1.1) (State.isArrayOf_alike hZ.alike Ar1.2.1) (g := (mkF m 4 #[.val (.ref t), .val (.ref ca)] [(.ref ca), (.int (0 : Int32)), (.ref ca), (.ref t)])) rfl rfl (hb hby d3_4) _) ?_
  rw [len_of S1 M1]
  show Go p e below T0 (mkF m 5 #[.val (.ref t), .val (.ref ca)] [(.int (0 : Int32)), (.int (0 : Int32)), (.ref ca), (.ref t)]) _
  refine stp (fun _ => XS.aconstNull X0.here hx rfl (hb hby d3_5)) ?_
  show Go p e below T0 (mkF m 6 #[.val (.ref t), .val (.ref ca)] [.null, (.int (0 : Int32)), (.int (0 : Int32)), (.ref ca), (.ref t)]) _
  obtain ⟨_, _, ⟨T2, L2, k2, n2⟩, -, X2, hS2, gg2, ⟨Lc2, hQ2, l2, y2, z2, CRn2⟩, st2⟩ := X0.specialBackS hx (y := (⟨"java/lang/String", "<init>", "([CIILjava/lang/Void;)V"⟩ : MethodName)) rfl hown (mvT hZ (hw _ (List.mem_of_getElem? (i := 14) rfl))) (mvT hZ (hw _ (List.mem_of_getElem? (i := 15) rfl))) (mvT hZ (hw _ (List.mem_of_getElem? (i := 17) rfl))) (by decide) (backOfSH (W := 0) (rm_s0v l Z a0 hw [] t ca  h0 n0 O0 hEL E_t F_t_value F_t_coder ge_t) hZ (hw _ (List.mem_of_getElem? (i := 17) rfl)) (hw _ (List.mem_of_getElem? (i := 9) rfl)) (by decide) (by decide) hEL CR.1) (g := (mkF m 6 #[.val (.ref t), .val (.ref ca)] [.null, (.int (0 : Int32)), (.int (0 : Int32)), (.ref ca), (.ref t)])) rfl (by rw [hml]; rfl) (Steps.refl _) (a := t) (argsL := [(.ref ca), (.int (0 : Int32)), (.int (0 : Int32)), .null]) (rest := []) (lenOf pd_0 rfl) rfl (by show 2 * 0 + _ ≤ _; exact Nat.le_of_eq rfl) (hb hby d3_6) (fun _ _ => ⟨rfl, e0, (by decide : 0 + 2 ≤ _), (by decide : 0 + 4 ≤ _)⟩)
  dsimp only [Pt.U, Pt.locs, Pt.cells, Pt.slots] at X2 hS2 gg2 l2 y2 z2 st2 hQ2 CRn2
  subst y2 z2
  obtain ⟨X2, hS, hZ, hown⟩ := rebS hS (by rw [e0]; exact hk) X2 hS2 gg2 hZ hown
  obtain ⟨rfl, N2q, K2q, r2_0⟩ := hQ2
  have N2 : Fr n0 L2 := by rw [l2]; exact Fr.app N0 N2q
  have f3 := E_t.keep K2q
  have f4 := V_ca.keep K2q (ninS ne_ca_t nin0)
  have f5 := CRn2.safe F_t_coder.lt Sf_t
  have K2 : Keep h0 T2.heap [t] := (Keep.refl h0 [t]).trans K2q (allS (Or.inl (List.mem_of_getElem? (i := 0) rfl)) all0)
  have O2 := O0.keep K2q (allS ge_t all0)
  have hk : T2.heap.size ≤ T2.heap.size := Nat.le_refl _
  have CR := CR.trans CRn2
  refine stt st2 ?_
  show Go p e below T2 (mkF m 9 #[.val (.ref t), .val (.ref ca)] []) _
  refine outVW X2 hx hZ hEL rfl hS hk CR hret (hb hby d3_9) hlk (by decide) (by decide) ?_
  exact ⟨rfl, N2, K2, r2_0⟩
theorem d19_0 : decode jdk_43_method_3_code 0 = .ok (.iload_n 0, 1) := by decide +kernel
theorem d19_1 : decode jdk_43_method_3_code 1 = .ok (.sipush 255, 3) := by decide +kernel
theorem d19_4 : decode jdk_43_method_3_code 4 = .ok (.if_icmp .gt 7, 3) := by decide +kernel
theorem d19_7 : decode jdk_43_method_3_code 7 = .ok (.iconst 1, 1) := by decide +kernel
theorem d19_8 : decode jdk_43_method_3_code 8 = .ok (.goto 4, 3) := by decide +kernel
theorem d19_12 : decode jdk_43_method_3_code 12 = .ok (.ireturn, 1) := by decide +kernel
theorem ef_rm_can (m : MethodId) (k : Int32)  : entryFrame m #[(.int k)] 1 = mkF m 0 #[.val (.int k)] [] := by first | (simp [entryFrame, mkF, argsToLocals, Value.category]; done) | rfl
def Q_rm_can (Z : State) (k : Int32)  (h0 : Heap) (n0 : Nat) (v : Option Value) (h : Heap) (L : List Loc) : Prop := v = some (.int (1 : Int32)) ∧ Fr n0 L ∧ h = h0
theorem pn_2_ : plainName "java/lang/StringLatin1" = true := by first | (simp [plainName, overriddenIn]; done) | decide +kernel
theorem pn_2 : plainFor (⟨"java/lang/StringLatin1", "canEncode", "(C)Z"⟩ : MethodName) = true := plainFor_of_name pn_2_
set_option maxRecDepth 65536 in
set_option maxHeartbeats 40000000 in
theorem rm_can (l : Launch) (Z : State) (a0 : Array Value) (hw : ∀ d ∈ tables_1, d.before a0 Z = true) (ws : List Jvm.Cond) (k : Int32)  (h0 : Heap) (n0 : Nat) (O0 : Old Z n0 h0) (hk : ¬ (255 : Int32) < k) :
    MetFree l (⟨"java/lang/StringLatin1", "canEncode", "(C)Z"⟩ : MethodName) (head1 (Jvm.Cond.code (⟨"java/lang/StringLatin1", "canEncode", "(C)Z"⟩ : MethodName) jdk_43_method_3_code 1 (some .boolean) :: ws) ({ frames := 0, cells := 0, slots := 0, locals := 0 } : Room)) (fun args_ U => args_ = #[(.int k)] ∧ Z.Warmed39 U.vm ∧ U.heap = h0) (fun _ _ _ _ _ => True) (fun _ U out_ U' => ∃ val_ loc_, out_ = .returned val_ ∧ (Q_rm_can Z k h0 n0) val_ U'.heap loc_ ∧ FrameEnd U out_ U' loc_ ({ frames := 0, cells := 0, slots := 0, locals := 0 } : Room).cells ({ frames := 0, cells := 0, slots := 0, locals := 0 } : Room).slots) := by
  refine start (Q := (Q_rm_can Z k h0 n0)) pn_2 ?_
  intro p e s m below meth c T0 X0 hx hby hml hown hnm hret hlk hZ e0
  replace hown : s.vm.findClass "java/lang/StringLatin1" = some m.cls := hown
  replace hml : c.maxLocals = 1 := hml
  refine goAt (ef_rm_can m k ) ?_
  have N0 := Fr.nil n0
  show Go p e below T0 (mkF m 0 #[.val (.int k)] []) _
  refine stp (fun _ => XS.iloadN X0.here hx rfl (hb hby d19_0) rfl) ?_
  show Go p e below T0 (mkF m 1 #[.val (.int k)] [(.int k)]) _
  refine stp (fun _ => XS.sipush X0.here hx rfl (hb hby d19_1)) ?_
  show Go p e below T0 (mkF m 4 #[.val (.int k)] [(.int (255 : Int32)), (.int k)]) _
  refine stp (fun _ => XS.icmpNo X0.here hx rfl (hb hby d19_4) rfl (XT.ii_gt_f hk)) ?_
  show Go p e below T0 (mkF m 7 #[.val (.int k)] []) _
  refine stp (fun _ => XS.iconst X0.here hx rfl (hb hby d19_7)) ?_
  show Go p e below T0 (mkF m 8 #[.val (.int k)] [(.int (1 : Int32))]) _
  refine stp (fun _ => XS.goto X0.here hx rfl (pc0 := 8) (pc' := 12) rfl (hb hby d19_8) (by decide) (by decide)) ?_
  show Go p e below T0 (mkF m 12 #[.val (.int k)] [(.int (1 : Int32))]) _
  refine outN X0 hx (t := .boolean) hret (by simp) (hb hby d19_12) hlk (by decide) (by decide) ?_
  exact ⟨rfl, N0, e0⟩
theorem d20_0 : decode jdk_43_method_46_code 0 = .ok (.iconst 1, 1) := by decide +kernel
theorem d20_1 : decode jdk_43_method_46_code 1 = .ok (.newarray .byte, 2) := by decide +kernel
theorem d20_3 : decode jdk_43_method_46_code 3 = .ok (.dup, 1) := by decide +kernel
theorem d20_4 : decode jdk_43_method_46_code 4 = .ok (.iconst 0, 1) := by decide +kernel
theorem d20_5 : decode jdk_43_method_46_code 5 = .ok (.iload_n 0, 1) := by decide +kernel
theorem d20_6 : decode jdk_43_method_46_code 6 = .ok (.i2b, 1) := by decide +kernel
theorem d20_7 : decode jdk_43_method_46_code 7 = .ok (.bastore, 1) := by decide +kernel
theorem d20_8 : decode jdk_43_method_46_code 8 = .ok (.areturn, 1) := by decide +kernel
theorem ef_rm_tb (m : MethodId) (k : Int32)  : entryFrame m #[(.int k)] 1 = mkF m 0 #[.val (.int k)] [] := by first | (simp [entryFrame, mkF, argsToLocals, Value.category]; done) | rfl
def Q_rm_tb (Z : State) (k : Int32)  (h0 : Heap) (n0 : Nat) (v : Option Value) (h : Heap) (L : List Loc) : Prop := ∃ (b : Addr) (k_b : ClassId), v = some (.ref b) ∧ Fr n0 L ∧ Keep h0 h [] ∧ (n0 ≤ b ∧ h0.size ≤ b) ∧ Exa Z h b "[B" ∧ Arv Z h b k_b .byte (1 : Int32) [(.int (k.toInt8.toInt32))] (.int (0 : Int32))
theorem pn_3_ : plainName "java/lang/StringLatin1" = true := by first | (simp [plainName, overriddenIn]; done) | decide +kernel
theorem pn_3 : plainFor (⟨"java/lang/StringLatin1", "toBytes", "(C)[B"⟩ : MethodName) = true := plainFor_of_name pn_3_
set_option maxRecDepth 65536 in
set_option maxHeartbeats 40000000 in
theorem rm_tb (l : Launch) (Z : State) (a0 : Array Value) (hw : ∀ d ∈ tables_1, d.before a0 Z = true) (ws : List Jvm.Cond) (k : Int32)  (h0 : Heap) (n0 : Nat) (O0 : Old Z n0 h0)  :
    MetFree l (⟨"java/lang/StringLatin1", "toBytes", "(C)[B"⟩ : MethodName) (head1 (Jvm.Cond.code (⟨"java/lang/StringLatin1", "toBytes", "(C)[B"⟩ : MethodName) jdk_43_method_46_code 1 (some (.array .byte)) :: ws) ({ frames := 0, cells := 1, slots := 1, locals := 0 } : Room)) (fun args_ U => args_ = #[(.int k)] ∧ Z.Warmed39 U.vm ∧ U.heap = h0) (fun _ _ _ _ _ => True) (fun _ U out_ U' => ∃ val_ loc_, out_ = .returned val_ ∧ (Q_rm_tb Z k h0 n0) val_ U'.heap loc_ ∧ FrameEnd U out_ U' loc_ ({ frames := 0, cells := 1, slots := 1, locals := 0 } : Room).cells ({ frames := 0, cells := 1, slots := 1, locals := 0 } : Room).slots) := by
  refine start (Q := (Q_rm_tb Z k h0 n0)) pn_3 ?_
  intro p e s m below meth c T0 X0 hx hby hml hown hnm hret hlk hZ e0
  replace hown : s.vm.findClass "java/lang/StringLatin1" = some m.cls := hown
  replace hml : c.maxLocals = 1 := hml
  refine goAt (ef_rm_tb m k ) ?_
  have N0 := Fr.nil n0
  show Go p e below T0 (mkF m 0 #[.val (.int k)] []) _
  refine stp (fun _ => XS.iconst X0.here hx rfl (hb hby d20_0)) ?_
  show Go p e below T0 (mkF m 1 #[.val (.int k)] [(.int (1 : Int32))]) _
  obtain ⟨T1, h1, k1, X1, e1, E1, A1, B1, st1⟩ := newPE X0 hx hZ (hw _ (List.mem_of_getElem? (i := 22) rfl)) e0 (g := (mkF m 1 #[.val (.int k)] [(.int (1 : Int32))])) rfl (hb hby d20_1) rfl (by decide) (cap := 1) (by decide) (by decide) (by decide) (by decide) (ad := "[B") (by decide)
  obtain ⟨b1, g1⟩ : ∃ z, z = h0.size := ⟨_, rfl⟩
  rw [← g1] at A1 B1 st1
  have sz_b1 : h0.size ≤ b1 := Nat.le_trans (Keep.refl h0 []).1 (Nat.le_of_eq g1.symm)
  have ge_b1 : n0 ≤ b1 := Nat.le_trans (old_le O0) (Nat.le_of_eq g1.symm)
  have K1 : Keep h0 h1 [] := (Keep.refl h0 []).ext E1
  have O1 := O0.ext E1
  have V1 : Arv Z h1 b1 k1 .byte (1 : Int32) [(.int (0 : Int32))] (.int (0 : Int32)) := (Arv.new A1 (by decide)).pad (pad_rep [] (.int (0 : Int32)) 1)
  refine stp st1 ?_
  show Go p e below T1 (mkF m 3 #[.val (.int k)] [(.ref b1)]) _
  refine stp (fun _ => XS.dup X1.here hx rfl (hb hby d20_3) rfl rfl) ?_
  show Go p e below T1 (mkF m 4 #[.val (.int k)] [(.ref b1), (.ref b1)]) _
  refine stp (fun _ => XS.iconst X1.here hx rfl (hb hby d20_4)) ?_
  show Go p e below T1 (mkF m 5 #[.val (.int k)] [(.int (0 : Int32)), (.ref b1), (.ref b1)]) _
  refine stp (fun _ => XS.iloadN X1.here hx rfl (hb hby d20_5) rfl) ?_
  show Go p e below T1 (mkF m 6 #[.val (.int k)] [(.int k), (.int (0 : Int32)), (.ref b1), (.ref b1)]) _
  refine stp (fun _ => XS.i2b X1.here hx rfl (hb hby d20_6) rfl) ?_
  show Go p e below T1 (mkF m 7 #[.val (.int k)] [(.int (k.toInt8.toInt32)), (.int (0 : Int32)), (.ref b1), (.ref b1)]) _
  obtain ⟨cl2, Ar2, q2, S2, M2, H2, G2⟩ := (id V1)
  have in2 : ¬ ((0 : Int32) < 0 ∨ cl2.slots.size ≤ ((0 : Int32)).toNatClampNeg) := inb_of S2 ⟨by decide, by decide⟩
  obtain ⟨T2, h2, X2, e2, W2, st2⟩ := stB X1 hx hZ e1 Ar2 (j := (0 : Int32)) in2 (g := (mkF m 7 #[.val (.int k)] [(.int (k.toInt8.toInt32)), (.int (0 : Int32)), (.ref b1), (.ref b1)])) rfl rfl (hb hby d20_7)
  have V2 : Arv Z h2 b1 k1 .byte (1 : Int32) [(.int (k.toInt8.toInt32))] (.int (0 : Int32)) := Arv.set Ar2 q2 S2 M2 H2 G2 (ow_fits_byte byte_twice) (ow_wr_byte byte_twice W2) 0 rfl (Nat.le_of_ble_eq_true rfl)
  have f3 := B1.wr W2
  have K2 : Keep h0 h2 [] := K1.wr W2 (Or.inr sz_b1)
  have O2 := O1.wr W2 ge_b1
  have N2 := Fr.snoc X2 N0 ge_b1
  refine stp st2 ?_
  show Go p e below T2 (mkF m 8 #[.val (.int k)] [(.ref b1)]) _
  refine outA X2 hx hret rfl rfl (hb hby d20_8) hlk (by decide) (by decide) ?_
  rw [e2]
  exact ⟨b1, k1, rfl, N2, K2, ⟨ge_b1, sz_b1⟩, f3, V2⟩
theorem d21_0 : decode jdk_42_method_151_code 0 = .ok (.aload_n 0, 1) := by decide +kernel
theorem d21_1 : decode jdk_42_method_151_code 1 = .ok (.invokespecial 1, 3) := by decide +kernel
theorem d21_4 : decode jdk_42_method_151_code 4 = .ok (.aload_n 0, 1) := by decide +kernel
theorem d21_5 : decode jdk_42_method_151_code 5 = .ok (.aload_n 1, 1) := by decide +kernel
theorem d21_6 : decode jdk_42_method_151_code 6 = .ok (.putfield 9, 3) := by decide +kernel
theorem d21_9 : decode jdk_42_method_151_code 9 = .ok (.aload_n 0, 1) := by decide +kernel
theorem d21_10 : decode jdk_42_method_151_code 10 = .ok (.iload_n 2, 1) := by decide +kernel
theorem d21_11 : decode jdk_42_method_151_code 11 = .ok (.putfield 15, 3) := by decide +kernel
theorem d21_14 : decode jdk_42_method_151_code 14 = .ok (.return_, 1) := by decide +kernel
theorem ef_rm_sbb (m : MethodId) (t : Addr) (vb : Addr)  : entryFrame m #[(.ref t), (.ref vb), (.int (0 : Int32))] 3 = mkF m 0 #[.val (.ref t), .val (.ref vb), .val (.int (0 : Int32))] [] := by first | (simp [entryFrame, mkF, argsToLocals, Value.category]; done) | rfl
def Q_rm_sbb (Z : State) (t : Addr) (vb : Addr)  (h0 : Heap) (n0 : Nat) (v : Option Value) (h : Heap) (L : List Loc) : Prop := v = none ∧ Fr n0 L ∧ Keep h0 h [t] ∧ Exa Z h t "java/lang/String" ∧ Fld Z h t "java/lang/String" "value" "[B" (.ref vb) ∧ Fld Z h t "java/lang/String" "coder" "B" (.int (0 : Int32))
theorem pn_4_ : plainName "java/lang/String" = true := by first | (simp [plainName, overriddenIn]; done) | decide +kernel
theorem pn_4 : plainFor (⟨"java/lang/String", "<init>", "([BB)V"⟩ : MethodName) = true := plainFor_of_name pn_4_
set_option maxRecDepth 65536 in
set_option maxHeartbeats 40000000 in
theorem rm_sbb (l : Launch) (Z : State) (a0 : Array Value) (hw : ∀ d ∈ tables_1, d.before a0 Z = true) (ws : List Jvm.Cond) (t : Addr) (vb : Addr)  (h0 : Heap) (n0 : Nat) (O0 : Old Z n0 h0) (E_t : Exa Z h0 t "java/lang/String") (F_t_value : Fld Z h0 t "java/lang/String" "value" "[B" .null) (F_t_coder : Fld Z h0 t "java/lang/String" "coder" "B" (.int (0 : Int32))) (ge_t : n0 ≤ t) :
    MetFree l (⟨"java/lang/String", "<init>", "([BB)V"⟩ : MethodName) (head1 (Jvm.Cond.code (⟨"java/lang/String", "<init>", "([BB)V"⟩ : MethodName) jdk_42_method_151_code 3 none :: ws) ({ frames := 1, cells := 0, slots := 0, locals := 12 } : Room)) (fun args_ U => args_ = #[(.ref t), (.ref vb), (.int (0 : Int32))] ∧ Z.Warmed39 U.vm ∧ U.heap = h0) (fun _ _ _ _ _ => True) (fun _ U out_ U' => ∃ val_ loc_, out_ = .returned val_ ∧ (Q_rm_sbb Z t vb h0 n0) val_ U'.heap loc_ ∧ FrameEnd U out_ U' loc_ ({ frames := 1, cells := 0, slots := 0, locals := 12 } : Room).cells ({ frames := 1, cells := 0, slots := 0, locals := 12 } : Room).slots) := by
  refine start (Q := (Q_rm_sbb Z t vb h0 n0)) pn_4 ?_
  intro p e s m below meth c T0 X0 hx hby hml hown hnm hret hlk hZ e0
  replace hown : s.vm.findClass "java/lang/String" = some m.cls := hown
  replace hml : c.maxLocals = 3 := hml
  refine goAt (ef_rm_sbb m t vb ) ?_
  have N0 := Fr.nil n0
  show Go p e below T0 (mkF m 0 #[.val (.ref t), .val (.ref vb), .val (.int (0 : Int32))] []) _
  refine stp (fun _ => XS.aloadN X0.here hx rfl (hb hby d21_0) rfl rfl) ?_
  show Go p e below T0 (mkF m 1 #[.val (.ref t), .val (.ref vb), .val (.int (0 : Int32))] [(.ref t)]) _
  obtain ⟨T1, X1, e1, st1⟩ := initO X0 hx hZ hown (hw _ (List.mem_of_getElem? (i := 18) rfl)) (hw _ (List.mem_of_getElem? (i := 19) rfl)) (hw _ (List.mem_of_getElem? (i := 20) rfl)) e0 (g := (mkF m 1 #[.val (.ref t), .val (.ref vb), .val (.int (0 : Int32))] [(.ref t)])) rfl (by rw [hml]; rfl) rfl (hb hby d21_1) (by decide) (W := 0) (by show 2 * 0 + _ ≤ _; exact Nat.le_of_eq rfl) (by decide)
  refine stp st1 ?_
  show Go p e below T1 (mkF m 4 #[.val (.ref t), .val (.ref vb), .val (.int (0 : Int32))] []) _
  refine stp (fun _ => XS.aloadN X1.here hx rfl (hb hby d21_4) rfl rfl) ?_
  show Go p e below T1 (mkF m 5 #[.val (.ref t), .val (.ref vb), .val (.int (0 : Int32))] [(.ref t)]) _
  refine stp (fun _ => XS.aloadN X1.here hx rfl (hb hby d21_5) rfl rfl) ?_
  show Go p e below T1 (mkF m 6 #[.val (.ref t), .val (.ref vb), .val (.int (0 : Int32))] [(.ref vb), (.ref t)]) _
  obtain ⟨T2, h2, X2, e2, W2, st2⟩ := putF X1 hx hZ hown (host := "") (Or.inl (hw _ (List.mem_of_getElem? (i := 27) rfl))) Via.refl e1 F_t_value E_t (Or.inr ⟨(hw _ (List.mem_of_getElem? (i := 23) rfl)), rfl, hnm⟩) (hw _ (List.mem_of_getElem? (i := 8) rfl)) (ty := (.array .byte)) (by decide) rfl rfl (g := (mkF m 6 #[.val (.ref t), .val (.ref vb), .val (.int (0 : Int32))] [(.ref vb), (.ref t)])) rfl rfl (hb hby d21_6)
  have Fw2 := F_t_value.same W2
  have f3 := E_t.wr W2
  have f5 := F_t_coder.other W2 (Or.inr (slot_ne (Or.inr (hw _ (List.mem_of_getElem? (i := 24) rfl))) (Or.inr (hw _ (List.mem_of_getElem? (i := 23) rfl))) (by decide) (t := .byte) (t' := (.array .byte)) (by decide) (by decide)))
  have K2 : Keep h0 h2 [t] := (Keep.refl h0 [t]).wr W2 (Or.inl (List.mem_of_getElem? (i := 0) rfl))
  have O2 := O0.wr W2 ge_t
  have N2 := Fr.snoc X2 N0 ge_t
  refine stp st2 ?_
  show Go p e below T2 (mkF m 9 #[.val (.ref t), .val (.ref vb), .val (.int (0 : Int32))] []) _
  refine stp (fun _ => XS.aloadN X2.here hx rfl (hb hby d21_9) rfl rfl) ?_
  show Go p e below T2 (mkF m 10 #[.val (.ref t), .val (.ref vb), .val (.int (0 : Int32))] [(.ref t)]) _
  refine stp (fun _ => XS.iloadN X2.here hx rfl (hb hby d21_10) rfl) ?_
  show Go p e below T2 (mkF m 11 #[.val (.ref t), .val (.ref vb), .val (.int (0 : Int32))] [(.int (0 : Int32)), (.ref t)]) _
  obtain ⟨T6, h6, X6, e6, W6, st6⟩ := putFN X2 hx hZ hown (hw _ (List.mem_of_getElem? (i := 28) rfl)) Via.refl e2 f5 f3 (Or.inr ⟨(hw _ (List.mem_of_getElem? (i := 24) rfl)), rfl, hnm⟩) (hw _ (List.mem_of_getElem? (i := 8) rfl)) (ty := .byte) (v' := (.int (0 : Int32))) (by decide) rfl rfl (g := (mkF m 11 #[.val (.ref t), .val (.ref vb), .val (.int (0 : Int32))] [(.int (0 : Int32)), (.ref t)])) rfl rfl (hb hby d21_11)
  have Fw6 := f5.same W6
  have f7 := f3.wr W6
  have f8 := Fw2.other W6 (Or.inr (slot_ne (Or.inr (hw _ (List.mem_of_getElem? (i := 23) rfl))) (Or.inr (hw _ (List.mem_of_getElem? (i := 24) rfl))) (by decide) (t := (.array .byte)) (t' := .byte) (by decide) (by decide)))
  have K6 : Keep h0 h6 [t] := K2.wr W6 (Or.inl (List.mem_of_getElem? (i := 0) rfl))
  have O6 := O2.wr W6 ge_t
  have N6 := Fr.snoc X6 N2 ge_t
  refine stp st6 ?_
  show Go p e below T6 (mkF m 14 #[.val (.ref t), .val (.ref vb), .val (.int (0 : Int32))] []) _
  refine outV X6 hx hret (hb hby d21_14) hlk (by decide) (by decide) ?_
  rw [e6]
  exact ⟨rfl, N6, K6, f7, f8, Fw6⟩
theorem d18_0 : decode jdk_42_method_139_code 0 = .ok (.getstatic 38, 3) := by decide +kernel
theorem d18_3 : decode jdk_42_method_139_code 3 = .ok (.ifCond .eq 23, 3) := by decide +kernel
theorem d18_6 : decode jdk_42_method_139_code 6 = .ok (.iload_n 0, 1) := by decide +kernel
theorem d18_7 : decode jdk_42_method_139_code 7 = .ok (.invokestatic 1015, 3) := by decide +kernel
theorem pd_1 : parseMethodDescriptor "(C)Z" = some ⟨[.char], some .boolean⟩ := by decide +kernel
theorem d18_10 : decode jdk_42_method_139_code 10 = .ok (.ifCond .eq 16, 3) := by decide +kernel
theorem d18_13 : decode jdk_42_method_139_code 13 = .ok (.new 10, 3) := by decide +kernel
theorem d18_16 : decode jdk_42_method_139_code 16 = .ok (.dup, 1) := by decide +kernel
theorem d18_17 : decode jdk_42_method_139_code 17 = .ok (.iload_n 0, 1) := by decide +kernel
theorem d18_18 : decode jdk_42_method_139_code 18 = .ok (.invokestatic 1018, 3) := by decide +kernel
theorem pd_2 : parseMethodDescriptor "(C)[B" = some ⟨[.char], some (.array .byte)⟩ := by decide +kernel
theorem d18_21 : decode jdk_42_method_139_code 21 = .ok (.iconst 0, 1) := by decide +kernel
theorem d18_22 : decode jdk_42_method_139_code 22 = .ok (.invokespecial 209, 3) := by decide +kernel
theorem pd_3 : parseMethodDescriptor "([BB)V" = some ⟨[(.array .byte), .byte], none⟩ := by decide +kernel
theorem d18_25 : decode jdk_42_method_139_code 25 = .ok (.areturn, 1) := by decide +kernel
theorem ef_rm_vo (m : MethodId) (k : Int32)  : entryFrame m #[(.int k)] 1 = mkF m 0 #[.val (.int k)] [] := by first | (simp [entryFrame, mkF, argsToLocals, Value.category]; done) | rfl
def Q_rm_vo (Z : State) (k : Int32) (cz : Int32) (h0 : Heap) (n0 : Nat) (v : Option Value) (h : Heap) (L : List Loc) : Prop := ∃ (r : Addr), v = some (.ref r) ∧ Fr n0 L ∧ Keep h0 h [] ∧ (n0 ≤ r ∧ h0.size ≤ r) ∧ StrIs Z h r [k]
theorem pn_5_ : plainName "java/lang/String" = true := by first | (simp [plainName, overriddenIn]; done) | decide +kernel
theorem pn_5 : plainFor (⟨"java/lang/String", "valueOf", "(C)Ljava/lang/String;"⟩ : MethodName) = true := plainFor_of_name pn_5_
set_option maxRecDepth 65536 in
set_option maxHeartbeats 40000000 in
theorem rm_vo (l : Launch) (Z : State) (a0 : Array Value) (hw : ∀ d ∈ tables_1, d.before a0 Z = true) (ws : List Jvm.Cond) (k : Int32) (cz : Int32) (h0 : Heap) (n0 : Nat) (O0 : Old Z n0 h0) (S_COMPACT_STRINGS : Sta Z Z.heap "java/lang/String" "COMPACT_STRINGS" "Z" (.int cz)) (hcz : ¬ cz = (0 : Int32)) (hk : ¬ k < 0 ∧ ¬ (255 : Int32) < k) :
    MetFree l (⟨"java/lang/String", "valueOf", "(C)Ljava/lang/String;"⟩ : MethodName) (head1 (Jvm.Cond.code (⟨"java/lang/String", "valueOf", "(C)Ljava/lang/String;"⟩ : MethodName) jdk_42_method_139_code 1 (some (.object "java/lang/String")) :: ws) ({ frames := 2, cells := 2, slots := 5, locals := 27 } : Room)) (fun args_ U => args_ = #[(.int k)] ∧ Z.Warmed39 U.vm ∧ U.heap = h0) (fun _ _ _ _ _ => True) (fun _ U out_ U' => ∃ val_ loc_, out_ = .returned val_ ∧ (Q_rm_vo Z k cz h0 n0) val_ U'.heap loc_ ∧ FrameEnd U out_ U' loc_ ({ frames := 2, cells := 2, slots := 5, locals := 27 } : Room).cells ({ frames := 2, cells := 2, slots := 5, locals := 27 } : Room).slots) := by
  refine start (Q := (Q_rm_vo Z k cz h0 n0)) pn_5 ?_
  intro p e s m below meth c T0 X0 hx hby hml hown hnm hret hlk hZ e0
  replace hown : s.vm.findClass "java/lang/String" = some m.cls := hown
  replace hml : c.maxLocals = 1 := hml
  refine goAt (ef_rm_vo m k ) ?_
  have N0 := Fr.nil n0
  show Go p e below T0 (mkF m 0 #[.val (.int k)] []) _
  obtain ⟨T1, X1, e1, st1⟩ := getS2 X0 hx hZ hown (host := "") (Or.inl (hw _ (List.mem_of_getElem? (i := 69) rfl))) Via.refl e0 (S_COMPACT_STRINGS.ext O0.2) (g := (mkF m 0 #[.val (.int k)] [])) rfl (hb hby d18_0)
  refine stp st1 ?_
  show Go p e below T1 (mkF m 3 #[.val (.int k)] [(.int cz)]) _
  refine stp (fun _ => XS.ifNo X1.here hx rfl (hb hby d18_3) rfl (XT.i0_eq_f hcz)) ?_
  show Go p e below T1 (mkF m 6 #[.val (.int k)] []) _
  refine stp (fun _ => XS.iloadN X1.here hx rfl (hb hby d18_6) rfl) ?_
  show Go p e below T1 (mkF m 7 #[.val (.int k)] [(.int k)]) _
  obtain ⟨_, _, ⟨T2, L2, k2, n2⟩, -, X2, ⟨Lc2, hQ2, l2, y2, z2⟩, st2⟩ := Jvm.LawKit.callS X1 hx (y := (⟨"java/lang/StringLatin1", "canEncode", "(C)Z"⟩ : MethodName)) hown (mvT hZ (hw _ (List.mem_of_getElem? (i := 99) rfl))) (mvT hZ (hw _ (List.mem_of_getElem? (i := 100) rfl))) (mvT hZ (hw _ (List.mem_of_getElem? (i := 101) rfl))) (mvT hZ (hw _ (List.mem_of_getElem? (i := 102) rfl))) (by decide) (backOf (W := 0) (rm_can l Z a0 hw [] k  h0 n0 O0 hk.2) hZ (hw _ (List.mem_of_getElem? (i := 102) rfl)) (hw _ (List.mem_of_getElem? (i := 101) rfl)) (by decide) (by decide)) (g := (mkF m 7 #[.val (.int k)] [(.int k)])) rfl (by rw [hml]; rfl) (argsL := [(.int k)]) (rest := []) (lenOf pd_1 rfl) rfl (by show 2 * 0 + _ ≤ _; exact Nat.le_of_eq rfl) (hb hby d18_7) (fun _ _ => ⟨rfl, e1, (by decide : 0 + 0 ≤ _), (by decide : 0 + 0 ≤ _)⟩)
  dsimp only [Pt.U, Pt.locs, Pt.cells, Pt.slots] at X2 l2 y2 z2 st2 hQ2
  subst y2 z2
  obtain ⟨rfl, N2q, e2⟩ := hQ2
  have N2 : Fr n0 L2 := by rw [l2]; exact Fr.app N0 N2q
  refine stp st2 ?_
  show Go p e below T2 (mkF m 10 #[.val (.int k)] [(.int (1 : Int32))]) _
  refine stp (fun _ => XS.ifNo X2.here hx rfl (hb hby d18_10) rfl (by decide)) ?_
  show Go p e below T2 (mkF m 13 #[.val (.int k)] []) _
  obtain ⟨T3, h3, X3, e3, E3, A3, D3, -, st3⟩ := newO X2 hx hZ hown (hw _ (List.mem_of_getElem? (i := 103) rfl)) (hw _ (List.mem_of_getElem? (i := 8) rfl)) (hw _ (List.mem_of_getElem? (i := 9) rfl)) e2 (g := (mkF m 13 #[.val (.int k)] [])) rfl (hb hby d18_13) (by decide) (by decide)
  obtain ⟨b3, g3⟩ : ∃ z, z = h0.size := ⟨_, rfl⟩
  rw [← g3] at A3 D3 st3
  have sz_b3 : h0.size ≤ b3 := Nat.le_trans (Keep.refl h0 []).1 (Nat.le_of_eq g3.symm)
  have ge_b3 : n0 ≤ b3 := Nat.le_trans (old_le O0) (Nat.le_of_eq g3.symm)
  have K3 : Keep h0 h3 [] := (Keep.refl h0 []).ext E3
  have O3 := O0.ext E3
  have F4 : Fld Z h3 b3 "java/lang/String" "value" "[B" .null := D3 (Or.inr (hw _ (List.mem_of_getElem? (i := 23) rfl))) (ty := (.array .byte)) (by decide)
  have F5 : Fld Z h3 b3 "java/lang/String" "coder" "B" (.int (0 : Int32)) := D3 (Or.inr (hw _ (List.mem_of_getElem? (i := 24) rfl))) (ty := .byte) (by decide)
  refine stp st3 ?_
  show Go p e below T3 (mkF m 16 #[.val (.int k)] [(.ref b3)]) _
  refine stp (fun _ => XS.dup X3.here hx rfl (hb hby d18_16) rfl rfl) ?_
  show Go p e below T3 (mkF m 17 #[.val (.int k)] [(.ref b3), (.ref b3)]) _
  refine stp (fun _ => XS.iloadN X3.here hx rfl (hb hby d18_17) rfl) ?_
  show Go p e below T3 (mkF m 18 #[.val (.int k)] [(.int k), (.ref b3), (.ref b3)]) _
  obtain ⟨_, _, ⟨T6, L6, k6, n6⟩, -, X6, ⟨Lc6, hQ6, l6, y6, z6⟩, st6⟩ := Jvm.LawKit.callS X3 hx (y := (⟨"java/lang/StringLatin1", "toBytes", "(C)[B"⟩ : MethodName)) hown (mvT hZ (hw _ (List.mem_of_getElem? (i := 104) rfl))) (mvT hZ (hw _ (List.mem_of_getElem? (i := 105) rfl))) (mvT hZ (hw _ (List.mem_of_getElem? (i := 101) rfl))) (mvT hZ (hw _ (List.mem_of_getElem? (i := 106) rfl))) (by decide) (backOf (W := 2) (rm_tb l Z a0 hw [] k  h3 n0 O3 ) hZ (hw _ (List.mem_of_getElem? (i := 106) rfl)) (hw _ (List.mem_of_getElem? (i := 101) rfl)) (by decide) (by decide)) (g := (mkF m 18 #[.val (.int k)] [(.int k), (.ref b3), (.ref b3)])) rfl (by rw [hml]; rfl) (argsL := [(.int k)]) (rest := [(.ref b3), (.ref b3)]) (lenOf pd_2 rfl) rfl (by show 2 * 0 + _ ≤ _; exact Nat.le_of_eq rfl) (hb hby d18_18) (fun _ _ => ⟨rfl, e3, (by decide : 1 + 1 ≤ _), (by decide : 4 + 1 ≤ _)⟩)
  dsimp only [Pt.U, Pt.locs, Pt.cells, Pt.slots] at X6 l6 y6 z6 st6 hQ6
  subst y6 z6
  obtain ⟨b6, k_b6, rfl, N6q, K6q, ⟨ge_b6, sz6_b6⟩, r6_0, r6_1⟩ := hQ6
  have N6 : Fr n0 L6 := by rw [l6]; exact Fr.app N2 N6q
  have ne7 : b3 ≠ b6 := Nat.ne_of_lt (Nat.lt_of_lt_of_le A3.lt sz6_b6)
  have f8 := A3.keep K6q
  have f9 := F4.keep K6q nin0
  have f10 := F5.keep K6q nin0
  have sz_b6 : h0.size ≤ b6 := Nat.le_trans K3.1 sz6_b6
  have K6 : Keep h0 T6.heap [] := K3.trans K6q all0
  have O6 := O3.keep K6q all0
  refine stp st6 ?_
  show Go p e below T6 (mkF m 21 #[.val (.int k)] [(.ref b6), (.ref b3), (.ref b3)]) _
  refine stp (fun _ => XS.iconst X6.here hx rfl (hb hby d18_21)) ?_
  show Go p e below T6 (mkF m 22 #[.val (.int k)] [(.int (0 : Int32)), (.ref b6), (.ref b3), (.ref b3)]) _
  obtain ⟨_, _, ⟨T11, L11, k11, n11⟩, -, X11, ⟨Lc11, hQ11, l11, y11, z11⟩, st11⟩ := X6.specialBack hx (y := (⟨"java/lang/String", "<init>", "([BB)V"⟩ : MethodName)) rfl hown (mvT hZ (hw _ (List.mem_of_getElem? (i := 107) rfl))) (mvT hZ (hw _ (List.mem_of_getElem? (i := 108) rfl))) (mvT hZ (hw _ (List.mem_of_getElem? (i := 109) rfl))) (by decide) (backOf (W := 1) (rm_sbb l Z a0 hw [] b3 b6  T6.heap n0 O6 f8 f9 f10 ge_b3) hZ (hw _ (List.mem_of_getElem? (i := 109) rfl)) (hw _ (List.mem_of_getElem? (i := 9) rfl)) (by decide) (by decide)) (g := (mkF m 22 #[.val (.int k)] [(.int (0 : Int32)), (.ref b6), (.ref b3), (.ref b3)])) rfl (by rw [hml]; rfl) (Steps.refl _) (a := b3) (argsL := [(.ref b6), (.int (0 : Int32))]) (rest := [(.ref b3)]) (lenOf pd_3 rfl) rfl (by show 2 * 0 + _ ≤ _; exact Nat.le_of_eq rfl) (hb hby d18_22) (fun _ _ => ⟨rfl, rfl, (by decide : 2 + 0 ≤ _), (by decide : 5 + 0 ≤ _)⟩)
  dsimp only [Pt.U, Pt.locs, Pt.cells, Pt.slots] at X11 l11 y11 z11 st11 hQ11
  subst y11 z11
  obtain ⟨rfl, N11q, K11q, r11_0, r11_1, r11_2⟩ := hQ11
  have N11 : Fr n0 L11 := by rw [l11]; exact Fr.app N6 N11q
  have f12 := f8.keep K11q
  have f13 := r6_0.keep K11q
  have f14 := r6_1.keep K11q (ninS (Ne.symm ne7) nin0)
  have K11 : Keep h0 T11.heap [] := K6.trans K11q (allS (Or.inr sz_b3) all0)
  have O11 := O6.keep K11q (allS ge_b3 all0)
  refine stt st11 ?_
  show Go p e below T11 (mkF m 25 #[.val (.int k)] [(.ref b3)]) _
  have Q15 : StrIs Z T11.heap b3 [k] := StrIs.of r11_0 r11_1 r11_2 f14 rfl rfl (own_one255 hk) (Nat.le_of_ble_eq_true rfl)
  refine outA X11 hx hret rfl rfl (hb hby d18_25) hlk (by decide) (by decide) ?_
  exact ⟨b3, rfl, N11, K11, ⟨ge_b3, sz_b3⟩, Q15⟩
theorem d2_0 : decode method_2_code 0 = .ok (.iload_n 0, 1) := by decide +kernel
theorem d2_1 : decode method_2_code 1 = .ok (.bipush 16, 2) := by decide +kernel
theorem d2_3 : decode method_2_code 3 = .ok (.iushr, 1) := by decide +kernel
theorem d2_4 : decode method_2_code 4 = .ok (.iconst 3, 1) := by decide +kernel
theorem d2_5 : decode method_2_code 5 = .ok (.iand, 1) := by decide +kernel
theorem d2_6 : decode method_2_code 6 = .ok (.ireturn, 1) := by decide +kernel
theorem ef_rm_len (m : MethodId) (a : Int32)  : entryFrame m #[(.int a)] 1 = mkF m 0 #[.val (.int a)] [] := by first | (simp [entryFrame, mkF, argsToLocals, Value.category]; done) | rfl
def Q_rm_len (Z : State) (a : Int32)  (h0 : Heap) (n0 : Nat) (v : Option Value) (h : Heap) (L : List Loc) : Prop := v = some (.int (own_len a)) ∧ Fr n0 L ∧ h = h0
theorem pn_6_ : plainName "com/example/revlint/revlint/model/PrimitiveEqualsPinLaw" = true := by first | (simp [plainName, overriddenIn]; done) | decide +kernel
theorem pn_6 : plainFor (⟨"com/example/revlint/revlint/model/PrimitiveEqualsPinLaw", "len", "(I)I"⟩ : MethodName) = true := plainFor_of_name pn_6_
set_option maxRecDepth 65536 in
set_option maxHeartbeats 40000000 in
theorem rm_len (l : Launch) (Z : State) (a0 : Array Value) (hw : ∀ d ∈ tables_1, d.before a0 Z = true) (ws : List Jvm.Cond) (a : Int32)  (h0 : Heap) (n0 : Nat) (O0 : Old Z n0 h0)  :
    MetFree l (⟨"com/example/revlint/revlint/model/PrimitiveEqualsPinLaw", "len", "(I)I"⟩ : MethodName) (head1 (Jvm.Cond.code (⟨"com/example/revlint/revlint/model/PrimitiveEqualsPinLaw", "len", "(I)I"⟩ : MethodName) method_2_code 1 (some .int) :: ws) ({ frames := 0, cells := 0, slots := 0, locals := 0 } : Room)) (fun args_ U => args_ = #[(.int a)] ∧ Z.Warmed39 U.vm ∧ U.heap = h0) (fun _ _ _ _ _ => True) (fun _ U out_ U' => ∃ val_ loc_, out_ = .returned val_ ∧ (Q_rm_len Z a h0 n0) val_ U'.heap loc_ ∧ FrameEnd U out_ U' loc_ ({ frames := 0, cells := 0, slots := 0, locals := 0 } : Room).cells ({ frames := 0, cells := 0, slots := 0, locals := 0 } : Room).slots) := by
  refine start (Q := (Q_rm_len Z a h0 n0)) pn_6 ?_
  intro p e s m below meth c T0 X0 hx hby hml hown hnm hret hlk hZ e0
  replace hown : s.vm.findClass "com/example/revlint/revlint/model/PrimitiveEqualsPinLaw" = some m.cls := hown
  replace hml : c.maxLocals = 1 := hml
  refine goAt (ef_rm_len m a ) ?_
  have N0 := Fr.nil n0
  show Go p e below T0 (mkF m 0 #[.val (.int a)] []) _
  refine stp (fun _ => XS.iloadN X0.here hx rfl (hb hby d2_0) rfl) ?_
  show Go p e below T0 (mkF m 1 #[.val (.int a)] [(.int a)]) _
  refine stp (fun _ => XS.bipush X0.here hx rfl (hb hby d2_1)) ?_
  show Go p e below T0 (mkF m 3 #[.val (.int a)] [(.int (16 : Int32)), (.int a)]) _
  refine stp (fun _ => XS.iushr X0.here hx rfl (hb hby d2_3) rfl) ?_
  show Go p e below T0 (mkF m 4 #[.val (.int a)] [(.int ((a.toUInt32 >>> ((16 : Int32) &&& 31).toUInt32).toInt32))]) _
  refine stp (fun _ => XS.iconst X0.here hx rfl (hb hby d2_4)) ?_
  show Go p e below T0 (mkF m 5 #[.val (.int a)] [(.int (3 : Int32)), (.int ((a.toUInt32 >>> ((16 : Int32) &&& 31).toUInt32).toInt32))]) _
  refine stp (fun _ => XS.iand X0.here hx rfl (hb hby d2_5) rfl) ?_
  show Go p e below T0 (mkF m 6 #[.val (.int a)] [(.int (((a.toUInt32 >>> ((16 : Int32) &&& 31).toUInt32).toInt32) &&& (3 : Int32)))]) _
  refine outI X0 hx hret (hb hby d2_6) hlk (by decide) (by decide) ?_
  exact ⟨rfl, N0, e0⟩
theorem d11_0 : decode method_3_code 0 = .ok (.iload_n 0, 1) := by decide +kernel
theorem d11_1 : decode method_3_code 1 = .ok (.sipush 255, 3) := by decide +kernel
theorem d11_4 : decode method_3_code 4 = .ok (.iand, 1) := by decide +kernel
theorem d11_5 : decode method_3_code 5 = .ok (.i2c, 1) := by decide +kernel
theorem d11_6 : decode method_3_code 6 = .ok (.ireturn, 1) := by decide +kernel
theorem ef_rm_c0 (m : MethodId) (a : Int32)  : entryFrame m #[(.int a)] 1 = mkF m 0 #[.val (.int a)] [] := by first | (simp [entryFrame, mkF, argsToLocals, Value.category]; done) | rfl
def Q_rm_c0 (Z : State) (a : Int32)  (h0 : Heap) (n0 : Nat) (v : Option Value) (h : Heap) (L : List Loc) : Prop := v = some (.int (own_c0 a)) ∧ Fr n0 L ∧ h = h0
theorem pn_7_ : plainName "com/example/revlint/revlint/model/PrimitiveEqualsPinLaw" = true := by first | (simp [plainName, overriddenIn]; done) | decide +kernel
theorem pn_7 : plainFor (⟨"com/example/revlint/revlint/model/PrimitiveEqualsPinLaw", "c0", "(I)C"⟩ : MethodName) = true := plainFor_of_name pn_7_
set_option maxRecDepth 65536 in
set_option maxHeartbeats 40000000 in
theorem rm_c0 (l : Launch) (Z : State) (a0 : Array Value) (hw : ∀ d ∈ tables_1, d.before a0 Z = true) (ws : List Jvm.Cond) (a : Int32)  (h0 : Heap) (n0 : Nat) (O0 : Old Z n0 h0)  :
    MetFree l (⟨"com/example/revlint/revlint/model/PrimitiveEqualsPinLaw", "c0", "(I)C"⟩ : MethodName) (head1 (Jvm.Cond.code (⟨"com/example/revlint/revlint/model/PrimitiveEqualsPinLaw", "c0", "(I)C"⟩ : MethodName) method_3_code 1 (some .char) :: ws) ({ frames := 0, cells := 0, slots := 0, locals := 0 } : Room)) (fun args_ U => args_ = #[(.int a)] ∧ Z.Warmed39 U.vm ∧ U.heap = h0) (fun _ _ _ _ _ => True) (fun _ U out_ U' => ∃ val_ loc_, out_ = .returned val_ ∧ (Q_rm_c0 Z a h0 n0) val_ U'.heap loc_ ∧ FrameEnd U out_ U' loc_ ({ frames := 0, cells := 0, slots := 0, locals := 0 } : Room).cells ({ frames := 0, cells := 0, slots := 0, locals := 0 } : Room).slots) := by
  refine start (Q := (Q_rm_c0 Z a h0 n0)) pn_7 ?_
  intro p e s m below meth c T0 X0 hx hby hml hown hnm hret hlk hZ e0
  replace hown : s.vm.findClass "com/example/revlint/revlint/model/PrimitiveEqualsPinLaw" = some m.cls := hown
  replace hml : c.maxLocals = 1 := hml
  refine goAt (ef_rm_c0 m a ) ?_
  have N0 := Fr.nil n0
  show Go p e below T0 (mkF m 0 #[.val (.int a)] []) _
  refine stp (fun _ => XS.iloadN X0.here hx rfl (hb hby d11_0) rfl) ?_
  show Go p e below T0 (mkF m 1 #[.val (.int a)] [(.int a)]) _
  refine stp (fun _ => XS.sipush X0.here hx rfl (hb hby d11_1)) ?_
  show Go p e below T0 (mkF m 4 #[.val (.int a)] [(.int (255 : Int32)), (.int a)]) _
  refine stp (fun _ => XS.iand X0.here hx rfl (hb hby d11_4) rfl) ?_
  show Go p e below T0 (mkF m 5 #[.val (.int a)] [(.int (a &&& (255 : Int32)))]) _
  refine stp (fun _ => XS.i2c X0.here hx rfl (hb hby d11_5) rfl) ?_
  show Go p e below T0 (mkF m 6 #[.val (.int a)] [(.int ((a &&& (255 : Int32)).toUInt32.toUInt16.toUInt32.toInt32))]) _
  refine outN X0 hx (t := .char) hret (by simp) (hb hby d11_6) hlk (by decide) (by decide) ?_
  exact ⟨by rw [own_c0_eq]; rfl, N0, e0⟩
theorem d12_0 : decode method_4_code 0 = .ok (.iload_n 0, 1) := by decide +kernel
theorem d12_1 : decode method_4_code 1 = .ok (.bipush 8, 2) := by decide +kernel
theorem d12_3 : decode method_4_code 3 = .ok (.iushr, 1) := by decide +kernel
theorem d12_4 : decode method_4_code 4 = .ok (.sipush 255, 3) := by decide +kernel
theorem d12_7 : decode method_4_code 7 = .ok (.iand, 1) := by decide +kernel
theorem d12_8 : decode method_4_code 8 = .ok (.i2c, 1) := by decide +kernel
theorem d12_9 : decode method_4_code 9 = .ok (.ireturn, 1) := by decide +kernel
theorem ef_rm_c1 (m : MethodId) (a : Int32)  : entryFrame m #[(.int a)] 1 = mkF m 0 #[.val (.int a)] [] := by first | (simp [entryFrame, mkF, argsToLocals, Value.category]; done) | rfl
def Q_rm_c1 (Z : State) (a : Int32)  (h0 : Heap) (n0 : Nat) (v : Option Value) (h : Heap) (L : List Loc) : Prop := v = some (.int (own_c1 a)) ∧ Fr n0 L ∧ h = h0
theorem pn_8_ : plainName "com/example/revlint/revlint/model/PrimitiveEqualsPinLaw" = true := by first | (simp [plainName, overriddenIn]; done) | decide +kernel
theorem pn_8 : plainFor (⟨"com/example/revlint/revlint/model/PrimitiveEqualsPinLaw", "c1", "(I)C"⟩ : MethodName) = true := plainFor_of_name pn_8_
set_option maxRecDepth 65536 in
set_option maxHeartbeats 40000000 in
theorem rm_c1 (l : Launch) (Z : State) (a0 : Array Value) (hw : ∀ d ∈ tables_1, d.before a0 Z = true) (ws : List Jvm.Cond) (a : Int32)  (h0 : Heap) (n0 : Nat) (O0 : Old Z n0 h0)  :
    MetFree l (⟨"com/example/revlint/revlint/model/PrimitiveEqualsPinLaw", "c1", "(I)C"⟩ : MethodName) (head1 (Jvm.Cond.code (⟨"com/example/revlint/revlint/model/PrimitiveEqualsPinLaw", "c1", "(I)C"⟩ : MethodName) method_4_code 1 (some .char) :: ws) ({ frames := 0, cells := 0, slots := 0, locals := 0 } : Room)) (fun args_ U => args_ = #[(.int a)] ∧ Z.Warmed39 U.vm ∧ U.heap = h0) (fun _ _ _ _ _ => True) (fun _ U out_ U' => ∃ val_ loc_, out_ = .returned val_ ∧ (Q_rm_c1 Z a h0 n0) val_ U'.heap loc_ ∧ FrameEnd U out_ U' loc_ ({ frames := 0, cells := 0, slots := 0, locals := 0 } : Room).cells ({ frames := 0, cells := 0, slots := 0, locals := 0 } : Room).slots) := by
  refine start (Q := (Q_rm_c1 Z a h0 n0)) pn_8 ?_
  intro p e s m below meth c T0 X0 hx hby hml hown hnm hret hlk hZ e0
  replace hown : s.vm.findClass "com/example/revlint/revlint/model/PrimitiveEqualsPinLaw" = some m.cls := hown
  replace hml : c.maxLocals = 1 := hml
  refine goAt (ef_rm_c1 m a ) ?_
  have N0 := Fr.nil n0
  show Go p e below T0 (mkF m 0 #[.val (.int a)] []) _
  refine stp (fun _ => XS.iloadN X0.here hx rfl (hb hby d12_0) rfl) ?_
  show Go p e below T0 (mkF m 1 #[.val (.int a)] [(.int a)]) _
  refine stp (fun _ => XS.bipush X0.here hx rfl (hb hby d12_1)) ?_
  show Go p e below T0 (mkF m 3 #[.val (.int a)] [(.int (8 : Int32)), (.int a)]) _
  refine stp (fun _ => XS.iushr X0.here hx rfl (hb hby d12_3) rfl) ?_
  show Go p e below T0 (mkF m 4 #[.val (.int a)] [(.int ((a.toUInt32 >>> ((8 : Int32) &&& 31).toUInt32).toInt32))]) _
  refine stp (fun _ => XS.sipush X0.here hx rfl (hb hby d12_4)) ?_
  show Go p e below T0 (mkF m 7 #[.val (.int a)] [(.int (255 : Int32)), (.int ((a.toUInt32 >>> ((8 : Int32) &&& 31).toUInt32).toInt32))]) _
  refine stp (fun _ => XS.iand X0.here hx rfl (hb hby d12_7) rfl) ?_
  show Go p e below T0 (mkF m 8 #[.val (.int a)] [(.int (((a.toUInt32 >>> ((8 : Int32) &&& 31).toUInt32).toInt32) &&& (255 : Int32)))]) _
  refine stp (fun _ => XS.i2c X0.here hx rfl (hb hby d12_8) rfl) ?_
  show Go p e below T0 (mkF m 9 #[.val (.int a)] [(.int ((((a.toUInt32 >>> ((8 : Int32) &&& 31).toUInt32).toInt32) &&& (255 : Int32)).toUInt32.toUInt16.toUInt32.toInt32))]) _
  refine outN X0 hx (t := .char) hret (by simp) (hb hby d12_9) hlk (by decide) (by decide) ?_
  exact ⟨by rw [own_c1_eq]; rfl, N0, e0⟩
theorem d16_0 : decode method_5_code 0 = .ok (.iload_n 0, 1) := by decide +kernel
theorem d16_1 : decode method_5_code 1 = .ok (.bipush 18, 2) := by decide +kernel
theorem d16_3 : decode method_5_code 3 = .ok (.iushr, 1) := by decide +kernel
theorem d16_4 : decode method_5_code 4 = .ok (.sipush 255, 3) := by decide +kernel
theorem d16_7 : decode method_5_code 7 = .ok (.iand, 1) := by decide +kernel
theorem d16_8 : decode method_5_code 8 = .ok (.i2c, 1) := by decide +kernel
theorem d16_9 : decode method_5_code 9 = .ok (.ireturn, 1) := by decide +kernel
theorem ef_rm_c2 (m : MethodId) (a : Int32)  : entryFrame m #[(.int a)] 1 = mkF m 0 #[.val (.int a)] [] := by first | (simp [entryFrame, mkF, argsToLocals, Value.category]; done) | rfl
def Q_rm_c2 (Z : State) (a : Int32)  (h0 : Heap) (n0 : Nat) (v : Option Value) (h : Heap) (L : List Loc) : Prop := v = some (.int (own_c2 a)) ∧ Fr n0 L ∧ h = h0
theorem pn_9_ : plainName "com/example/revlint/revlint/model/PrimitiveEqualsPinLaw" = true := by first | (simp [plainName, overriddenIn]; done) | decide +kernel
theorem pn_9 : plainFor (⟨"com/example/revlint/revlint/model/PrimitiveEqualsPinLaw", "c2", "(I)C"⟩ : MethodName) = true := plainFor_of_name pn_9_
set_option maxRecDepth 65536 in
set_option maxHeartbeats 40000000 in
theorem rm_c2 (l : Launch) (Z : State) (a0 : Array Value) (hw : ∀ d ∈ tables_1, d.before a0 Z = true) (ws : List Jvm.Cond) (a : Int32)  (h0 : Heap) (n0 : Nat) (O0 : Old Z n0 h0)  :
    MetFree l (⟨"com/example/revlint/revlint/model/PrimitiveEqualsPinLaw", "c2", "(I)C"⟩ : MethodName) (head1 (Jvm.Cond.code (⟨"com/example/revlint/revlint/model/PrimitiveEqualsPinLaw", "c2", "(I)C"⟩ : MethodName) method_5_code 1 (some .char) :: ws) ({ frames := 0, cells := 0, slots := 0, locals := 0 } : Room)) (fun args_ U => args_ = #[(.int a)] ∧ Z.Warmed39 U.vm ∧ U.heap = h0) (fun _ _ _ _ _ => True) (fun _ U out_ U' => ∃ val_ loc_, out_ = .returned val_ ∧ (Q_rm_c2 Z a h0 n0) val_ U'.heap loc_ ∧ FrameEnd U out_ U' loc_ ({ frames := 0, cells := 0, slots := 0, locals := 0 } : Room).cells ({ frames := 0, cells := 0, slots := 0, locals := 0 } : Room).slots) := by
  refine start (Q := (Q_rm_c2 Z a h0 n0)) pn_9 ?_
  intro p e s m below meth c T0 X0 hx hby hml hown hnm hret hlk hZ e0
  replace hown : s.vm.findClass "com/example/revlint/revlint/model/PrimitiveEqualsPinLaw" = some m.cls := hown
  replace hml : c.maxLocals = 1 := hml
  refine goAt (ef_rm_c2 m a ) ?_
  have N0 := Fr.nil n0
  show Go p e below T0 (mkF m 0 #[.val (.int a)] []) _
  refine stp (fun _ => XS.iloadN X0.here hx rfl (hb hby d16_0) rfl) ?_
  show Go p e below T0 (mkF m 1 #[.val (.int a)] [(.int a)]) _
  refine stp (fun _ => XS.bipush X0.here hx rfl (hb hby d16_1)) ?_
  show Go p e below T0 (mkF m 3 #[.val (.int a)] [(.int (18 : Int32)), (.int a)]) _
  refine stp (fun _ => XS.iushr X0.here hx rfl (hb hby d16_3) rfl) ?_
  show Go p e below T0 (mkF m 4 #[.val (.int a)] [(.int ((a.toUInt32 >>> ((18 : Int32) &&& 31).toUInt32).toInt32))]) _
  refine stp (fun _ => XS.sipush X0.here hx rfl (hb hby d16_4)) ?_
  show Go p e below T0 (mkF m 7 #[.val (.int a)] [(.int (255 : Int32)), (.int ((a.toUInt32 >>> ((18 : Int32) &&& 31).toUInt32).toInt32))]) _
  refine stp (fun _ => XS.iand X0.here hx rfl (hb hby d16_7) rfl) ?_
  show Go p e below T0 (mkF m 8 #[.val (.int a)] [(.int (((a.toUInt32 >>> ((18 : Int32) &&& 31).toUInt32).toInt32) &&& (255 : Int32)))]) _
  refine stp (fun _ => XS.i2c X0.here hx rfl (hb hby d16_8) rfl) ?_
  show Go p e below T0 (mkF m 9 #[.val (.int a)] [(.int ((((a.toUInt32 >>> ((18 : Int32) &&& 31).toUInt32).toInt32) &&& (255 : Int32)).toUInt32.toUInt16.toUInt32.toInt32))]) _
  refine outN X0 hx (t := .char) hret (by simp) (hb hby d16_9) hlk (by decide) (by decide) ?_
  exact ⟨by rw [own_c2_eq]; rfl, N0, e0⟩
theorem d1_0 : decode method_6_code 0 = .ok (.iload_n 0, 1) := by decide +kernel
theorem d1_1 : decode method_6_code 1 = .ok (.invokestatic 7, 3) := by decide +kernel
theorem pd_4 : parseMethodDescriptor "(I)I" = some ⟨[.int], some .int⟩ := by decide +kernel
theorem d1_4 : decode method_6_code 4 = .ok (.istore_n 1, 1) := by decide +kernel
theorem d1_5 : decode method_6_code 5 = .ok (.iload_n 1, 1) := by decide +kernel
theorem d1_6 : decode method_6_code 6 = .ok (.ifCond .ne 14, 3) := by decide +kernel
theorem d1_9 : decode method_6_code 9 = .ok (.new 13, 3) := by decide +kernel
theorem d1_12 : decode method_6_code 12 = .ok (.dup, 1) := by decide +kernel
theorem d1_13 : decode method_6_code 13 = .ok (.iconst 0, 1) := by decide +kernel
theorem d1_14 : decode method_6_code 14 = .ok (.newarray .char, 2) := by decide +kernel
theorem d1_16 : decode method_6_code 16 = .ok (.invokespecial 15, 3) := by decide +kernel
theorem pd_5 : parseMethodDescriptor "([C)V" = some ⟨[(.array .char)], none⟩ := by decide +kernel
theorem d1_19 : decode method_6_code 19 = .ok (.areturn, 1) := by decide +kernel
theorem d1_20 : decode method_6_code 20 = .ok (.iload_n 1, 1) := by decide +kernel
theorem d1_21 : decode method_6_code 21 = .ok (.iconst 1, 1) := by decide +kernel
theorem d1_22 : decode method_6_code 22 = .ok (.if_icmp .ne 11, 3) := by decide +kernel
theorem d1_25 : decode method_6_code 25 = .ok (.iload_n 0, 1) := by decide +kernel
theorem d1_26 : decode method_6_code 26 = .ok (.invokestatic 18, 3) := by decide +kernel
theorem pd_6 : parseMethodDescriptor "(I)C" = some ⟨[.int], some .char⟩ := by decide +kernel
theorem d1_29 : decode method_6_code 29 = .ok (.invokestatic 22, 3) := by decide +kernel
theorem pd_7 : parseMethodDescriptor "(C)Ljava/lang/String;" = some ⟨[.char], some (.object "java/lang/String")⟩ := by decide +kernel
theorem d1_32 : decode method_6_code 32 = .ok (.areturn, 1) := by decide +kernel
theorem d1_33 : decode method_6_code 33 = .ok (.iload_n 1, 1) := by decide +kernel
theorem d1_34 : decode method_6_code 34 = .ok (.iconst 2, 1) := by decide +kernel
theorem d1_35 : decode method_6_code 35 = .ok (.if_icmp .ne 30, 3) := by decide +kernel
theorem d1_38 : decode method_6_code 38 = .ok (.iconst 2, 1) := by decide +kernel
theorem d1_39 : decode method_6_code 39 = .ok (.newarray .char, 2) := by decide +kernel
theorem d1_41 : decode method_6_code 41 = .ok (.astore_n 2, 1) := by decide +kernel
theorem d1_42 : decode method_6_code 42 = .ok (.aload_n 2, 1) := by decide +kernel
theorem d1_43 : decode method_6_code 43 = .ok (.iconst 0, 1) := by decide +kernel
theorem d1_44 : decode method_6_code 44 = .ok (.iload_n 0, 1) := by decide +kernel
theorem d1_45 : decode method_6_code 45 = .ok (.invokestatic 18, 3) := by decide +kernel
theorem d1_48 : decode method_6_code 48 = .ok (.castore, 1) := by decide +kernel
theorem d1_49 : decode method_6_code 49 = .ok (.aload_n 2, 1) := by decide +kernel
theorem d1_50 : decode method_6_code 50 = .ok (.iconst 1, 1) := by decide +kernel
theorem d1_51 : decode method_6_code 51 = .ok (.iload_n 0, 1) := by decide +kernel
theorem d1_52 : decode method_6_code 52 = .ok (.invokestatic 26, 3) := by decide +kernel
theorem d1_55 : decode method_6_code 55 = .ok (.castore, 1) := by decide +kernel
theorem d1_56 : decode method_6_code 56 = .ok (.new 13, 3) := by decide +kernel
theorem d1_59 : decode method_6_code 59 = .ok (.dup, 1) := by decide +kernel
theorem d1_60 : decode method_6_code 60 = .ok (.aload_n 2, 1) := by decide +kernel
theorem d1_61 : decode method_6_code 61 = .ok (.invokespecial 15, 3) := by decide +kernel
theorem d1_64 : decode method_6_code 64 = .ok (.areturn, 1) := by decide +kernel
theorem d1_65 : decode method_6_code 65 = .ok (.iconst 3, 1) := by decide +kernel
theorem d1_66 : decode method_6_code 66 = .ok (.newarray .char, 2) := by decide +kernel
theorem d1_68 : decode method_6_code 68 = .ok (.astore_n 2, 1) := by decide +kernel
theorem d1_69 : decode method_6_code 69 = .ok (.aload_n 2, 1) := by decide +kernel
theorem d1_70 : decode method_6_code 70 = .ok (.iconst 0, 1) := by decide +kernel
theorem d1_71 : decode method_6_code 71 = .ok (.iload_n 0, 1) := by decide +kernel
theorem d1_72 : decode method_6_code 72 = .ok (.invokestatic 18, 3) := by decide +kernel
theorem d1_75 : decode method_6_code 75 = .ok (.castore, 1) := by decide +kernel
theorem d1_76 : decode method_6_code 76 = .ok (.aload_n 2, 1) := by decide +kernel
theorem d1_77 : decode method_6_code 77 = .ok (.iconst 1, 1) := by decide +kernel
theorem d1_78 : decode method_6_code 78 = .ok (.iload_n 0, 1) := by decide +kernel
theorem d1_79 : decode method_6_code 79 = .ok (.invokestatic 26, 3) := by decide +kernel
theorem d1_82 : decode method_6_code 82 = .ok (.castore, 1) := by decide +kernel
theorem d1_83 : decode method_6_code 83 = .ok (.aload_n 2, 1) := by decide +kernel
theorem d1_84 : decode method_6_code 84 = .ok (.iconst 2, 1) := by decide +kernel
theorem d1_85 : decode method_6_code 85 = .ok (.iload_n 0, 1) := by decide +kernel
theorem d1_86 : decode method_6_code 86 = .ok (.invokestatic 29, 3) := by decide +kernel
theorem d1_89 : decode method_6_code 89 = .ok (.castore, 1) := by decide +kernel
theorem d1_90 : decode method_6_code 90 = .ok (.new 13, 3) := by decide +kernel
theorem d1_93 : decode method_6_code 93 = .ok (.dup, 1) := by decide +kernel
theorem d1_94 : decode method_6_code 94 = .ok (.aload_n 2, 1) := by decide +kernel
theorem d1_95 : decode method_6_code 95 = .ok (.invokespecial 15, 3) := by decide +kernel
theorem d1_98 : decode method_6_code 98 = .ok (.areturn, 1) := by decide +kernel
theorem ef_rm_mk (m : MethodId) (a : Int32)  : entryFrame m #[(.int a)] 3 = mkF m 0 #[.val (.int a), .unset, .unset] [] := by first | (simp [entryFrame, mkF, argsToLocals, Value.category]; done) | rfl
def Q_rm_mk (Z : State) (a : Int32) (cz : Int32) (h0 : Heap) (n0 : Nat) (v : Option Value) (h : Heap) (L : List Loc) : Prop := ∃ (r : Addr), v = some (.ref r) ∧ Fr n0 L ∧ Keep h0 h [] ∧ (n0 ≤ r ∧ h0.size ≤ r) ∧ StrIs Z h r (own_cs a)
theorem pn_10_ : plainName "com/example/revlint/revlint/model/PrimitiveEqualsPinLaw" = true := by first | (simp [plainName, overriddenIn]; done) | decide +kernel
theorem pn_10 : plainFor (⟨"com/example/revlint/revlint/model/PrimitiveEqualsPinLaw", "mk", "(I)Ljava/lang/String;"⟩ : MethodName) = true := plainFor_of_name pn_10_
set_option maxRecDepth 65536 in
set_option maxHeartbeats 40000000 in
theorem rm_mk (l : Launch) (Z : State) (a0 : Array Value) (hw : ∀ d ∈ tables_1, d.before a0 Z = true) (ws : List Jvm.Cond) (a : Int32) (cz : Int32) (h0 : Heap) (n0 : Nat) (O0 : Old Z n0 h0) (hEL : EW Z a0 consts_1) (S_COMPACT_STRINGS : Sta Z Z.heap "java/lang/String" "COMPACT_STRINGS" "Z" (.int cz)) (hcz : ¬ cz = (0 : Int32)) :
    MetFree l (⟨"com/example/revlint/revlint/model/PrimitiveEqualsPinLaw", "mk", "(I)Ljava/lang/String;"⟩ : MethodName) (head1 (Jvm.Cond.code (⟨"com/example/revlint/revlint/model/PrimitiveEqualsPinLaw", "mk", "(I)Ljava/lang/String;"⟩ : MethodName) method_6_code 3 (some (.object "java/lang/String")) :: ws) ({ frames := 4, cells := 4, slots := 10, locals := 66 } : Room)) (fun args_ U => args_ = #[(.int a)] ∧ Z.Warmed39 U.vm ∧ U.heap = h0 ∧ CHv Z consts_1 U.vm h0) (fun _ _ _ _ _ => True) (fun _ U out_ U' => ∃ val_ loc_, out_ = .returned val_ ∧ (Q_rm_mk Z a cz h0 n0) val_ U'.heap loc_ ∧ CHr Z consts_1 U.vm U.heap U'.vm U'.heap ∧ ReturnedEndW U out_ U' loc_ ({ frames := 4, cells := 4, slots := 10, locals := 66 } : Room).cells ({ frames := 4, cells := 4, slots := 10, locals := 66 } : Room).slots) := by
  refine startW (Q := (Q_rm_mk Z a cz h0 n0)) pn_10 ?_
  intro p e s m below meth c T0 X0 hx hby hml hown hnm hret hlk hZ e0 hS CR
  have hk : 0 ≤ h0.size := Nat.zero_le _
  have wS : ∀ a ∈ Bundle.stringAtoms, a.before a0 Z = true := own_wS hw
  replace hown : s.vm.findClass "com/example/revlint/revlint/model/PrimitiveEqualsPinLaw" = some m.cls := hown
  replace hml : c.maxLocals = 3 := hml
  refine goAt (ef_rm_mk m a ) ?_
  have N0 := Fr.nil n0
  have hws : ∀ d ∈ StrChars.Road.words, d.before a0 Z = true := fun d hd => hw d ((by decide +kernel : ∀ d ∈ StrChars.Road.words, d ∈ tables_1) d hd)
  show Go p e below T0 (mkF m 0 #[.val (.int a), .unset, .unset] []) _
  refine stp (fun _ => XS.iloadN X0.here hx rfl (hb hby d1_0) rfl) ?_
  show Go p e below T0 (mkF m 1 #[.val (.int a), .unset, .unset] [(.int a)]) _
  obtain ⟨_, _, ⟨T1, L1, k1, n1⟩, -, X1, ⟨Lc1, hQ1, l1, y1, z1⟩, st1⟩ := Jvm.LawKit.callS X0 hx (y := (⟨"com/example/revlint/revlint/model/PrimitiveEqualsPinLaw", "len", "(I)I"⟩ : MethodName)) hown (mvT hZ (hw _ (List.mem_of_getElem? (i := 4) rfl))) (mvT hZ (hw _ (List.mem_of_getElem? (i := 5) rfl))) (mvT hZ (hw _ (List.mem_of_getElem? (i := 2) rfl))) (mvT hZ (hw _ (List.mem_of_getElem? (i := 6) rfl))) (by decide) (backOf (W := 0) (rm_len l Z a0 hw [] a  h0 n0 O0 ) hZ (hw _ (List.mem_of_getElem? (i := 6) rfl)) (hw _ (List.mem_of_getElem? (i := 2) rfl)) (by decide) (by decide)) (g := (mkF m 1 #[.val (.int a), .unset, .unset] [(.int a)])) rfl (by rw [hml]; rfl) (argsL := [(.int a)]) (rest := []) (lenOf pd_4 rfl) rfl (by show 2 * 0 + _ ≤ _; exact Nat.le_of_eq rfl) (hb hby d1_1) (fun _ _ => ⟨rfl, e0, (by decide : 0 + 0 ≤ _), (by decide : 0 + 0 ≤ _)⟩)
  dsimp only [Pt.U, Pt.locs, Pt.cells, Pt.slots] at X1 l1 y1 z1 st1 hQ1
  subst y1 z1
  obtain ⟨rfl, N1q, e1⟩ := hQ1
  have N1 : Fr n0 L1 := by rw [l1]; exact Fr.app N0 N1q
  refine stp st1 ?_
  show Go p e below T1 (mkF m 4 #[.val (.int a), .unset, .unset] [(.int (own_len a))]) _
  refine stp (fun _ => XS.istoreN X1.here hx rfl (hb hby d1_4) rfl (l' := #[.val (.int a), .val (.int (own_len a)), .unset]) rfl) ?_
  show Go p e below T1 (mkF m 5 #[.val (.int a), .val (.int (own_len a)), .unset] []) _
  refine stp (fun _ => XS.iloadN X1.here hx rfl (hb hby d1_5) rfl) ?_
  show Go p e below T1 (mkF m 6 #[.val (.int a), .val (.int (own_len a)), .unset] [(.int (own_len a))]) _
  by_cases q6_2 : (own_len a) = 0
  · refine stp (fun _ => XS.ifNo X1.here hx rfl (hb hby d1_6) rfl (XT.i0_ne_f q6_2)) ?_
    show Go p e below T1 (mkF m 9 #[.val (.int a), .val (.int (own_len a)), .unset] []) _
    obtain ⟨T3, h3, X3, e3, E3, A3, D3, -, st3⟩ := newO X1 hx hZ hown (hw _ (List.mem_of_getElem? (i := 7) rfl)) (hw _ (List.mem_of_getElem? (i := 8) rfl)) (hw _ (List.mem_of_getElem? (i := 9) rfl)) e1 (g := (mkF m 9 #[.val (.int a), .val (.int (own_len a)), .unset] [])) rfl (hb hby d1_9) (by decide) (by decide)
    obtain ⟨b3, g3⟩ : ∃ z, z = h0.size := ⟨_, rfl⟩
    rw [← g3] at A3 D3 st3
    have sz_b3 : h0.size ≤ b3 := Nat.le_trans (Keep.refl h0 []).1 (Nat.le_of_eq g3.symm)
    have ge_b3 : n0 ≤ b3 := Nat.le_trans (old_le O0) (Nat.le_of_eq g3.symm)
    have Sf3 := (Safe.new (Z := Z) (EL := consts_1) (Nat.le_of_eq g3.symm)).ext E3 CR.1
    have hk := Nat.le_trans hk E3.1
    have CR := CR.trans (CHr.ext E3 CR.1)
    have K3 : Keep h0 h3 [] := (Keep.refl h0 []).ext E3
    have O3 := O0.ext E3
    have F4 : Fld Z h3 b3 "java/lang/String" "value" "[B" .null := D3 (Or.inr (hw _ (List.mem_of_getElem? (i := 23) rfl))) (ty := (.array .byte)) (by decide)
    have F5 : Fld Z h3 b3 "java/lang/String" "coder" "B" (.int (0 : Int32)) := D3 (Or.inr (hw _ (List.mem_of_getElem? (i := 24) rfl))) (ty := .byte) (by decide)
    refine stp st3 ?_
    show Go p e below T3 (mkF m 12 #[.val (.int a), .val (.int (own_len a)), .unset] [(.ref b3)]) _
    refine stp (fun _ => XS.dup X3.here hx rfl (hb hby d1_12) rfl rfl) ?_
    show Go p e below T3 (mkF m 13 #[.val (.int a), .val (.int (own_len a)), .unset] [(.ref b3), (.ref b3)]) _
    refine stp (fun _ => XS.iconst X3.here hx rfl (hb hby d1_13)) ?_
    show Go p e below T3 (mkF m 14 #[.val (.int a), .val (.int (own_len a)), .unset] [(.int (0 : Int32)), (.ref b3), (.ref b3)]) _
    obtain ⟨T6, h6, k6, X6, e6, E6, A6, B6, st6⟩ := newPE X3 hx hZ (hw _ (List.mem_of_getElem? (i := 10) rfl)) e3 (g := (mkF m 14 #[.val (.int a), .val (.int (own_len a)), .unset] [(.int (0 : Int32)), (.ref b3), (.ref b3)])) rfl (hb hby d1_14) rfl (by decide) (cap := 0) (by decide) (by decide) (by decide) (by decide) (ad := "[C") (by decide)
    obtain ⟨b6, g6⟩ : ∃ z, z = h3.size := ⟨_, rfl⟩
    rw [← g6] at A6 B6 st6
    have ne7 : b3 ≠ b6 := Nat.ne_of_lt (Nat.lt_of_lt_of_le A3.lt (Nat.le_of_eq g6.symm))
    have sz_b6 : h0.size ≤ b6 := Nat.le_trans K3.1 (Nat.le_of_eq g6.symm)
    have ge_b6 : n0 ≤ b6 := Nat.le_trans (old_le O3) (Nat.le_of_eq g6.symm)
    have f8 := Sf3.ext E6 CR.1
    have f9 := A3.ext E6
    have f10 := F4.ext E6
    have f11 := F5.ext E6
    have hk := Nat.le_trans hk E6.1
    have CR := CR.trans (CHr.ext E6 CR.1)
    have K6 : Keep h0 h6 [] := K3.ext E6
    have O6 := O3.ext E6
    have V6 : Arv Z h6 b6 k6 .char (0 : Int32) [] (.int (0 : Int32)) := (Arv.new A6 (by decide)).pad (pad_rep [] (.int (0 : Int32)) 0)
    refine stp st6 ?_
    show Go p e below T6 (mkF m 16 #[.val (.int a), .val (.int (own_len a)), .unset] [(.ref b6), (.ref b3), (.ref b3)]) _
    obtain ⟨_, _, ⟨T12, L12, k12, n12⟩, -, X12, hS12, gg12, ⟨Lc12, hQ12, l12, y12, z12, CRn12⟩, st12⟩ := X6.specialBackS hx (y := (⟨"java/lang/String", "<init>", "([C)V"⟩ : MethodName)) rfl hown (mvT hZ (hw _ (List.mem_of_getElem? (i := 11) rfl))) (mvT hZ (hw _ (List.mem_of_getElem? (i := 12) rfl))) (mvT hZ (hw _ (List.mem_of_getElem? (i := 13) rfl))) (by decide) (backOfSH (W := 1) (rm_s0 l Z a0 hw [] b3 b6 k6 h6 n0 O6 hEL f9 f10 f11 V6 ge_b3 (Ne.symm ne7)) hZ (hw _ (List.mem_of_getElem? (i := 13) rfl)) (hw _ (List.mem_of_getElem? (i := 9) rfl)) (by decide) (by decide) hEL CR.1) (g := (mkF m 16 #[.val (.int a), .val (.int (own_len a)), .unset] [(.ref b6), (.ref b3), (.ref b3)])) rfl (by rw [hml]; rfl) (Steps.refl _) (a := b3) (argsL := [(.ref b6)]) (rest := [(.ref b3)]) (lenOf pd_5 rfl) rfl (by show 2 * 0 + _ ≤ _; exact Nat.le_of_eq rfl) (hb hby d1_16) (fun _ _ => ⟨rfl, e6, (by decide : 2 + 2 ≤ _), (by decide : 4 + 4 ≤ _)⟩)
    dsimp only [Pt.U, Pt.locs, Pt.cells, Pt.slots] at X12 hS12 gg12 l12 y12 z12 st12 hQ12 CRn12
    subst y12 z12
    obtain ⟨X12, hS, hZ, hown⟩ := rebS hS (by rw [e6]; exact hk) X12 hS12 gg12 hZ hown
    obtain ⟨rfl, N12q, K12q, r12_0⟩ := hQ12
    have N12 : Fr n0 L12 := by rw [l12]; exact Fr.app N1 N12q
    have f13 := CRn12.safe f11.lt f8
    have f14 := f9.keep K12q
    have f15 := B6.keep K12q
    have f16 := V6.keep K12q (ninS (Ne.symm ne7) nin0)
    have K12 : Keep h0 T12.heap [] := K6.trans K12q (allS (Or.inr sz_b3) all0)
    have O12 := O6.keep K12q (allS ge_b3 all0)
    have hk : T12.heap.size ≤ T12.heap.size := Nat.le_refl _
    have CR := CR.trans CRn12
    refine stt st12 ?_
    show Go p e below T12 (mkF m 19 #[.val (.int a), .val (.int (own_len a)), .unset] [(.ref b3)]) _
    refine outAW X12 hx hZ hEL rfl hS hk CR hret rfl rfl (hb hby d1_19) hlk (by decide) (by decide) ?_
    exact ⟨b3, rfl, N12, K12, ⟨ge_b3, sz_b3⟩, (own_cs_of (by simp only [own_cs, if_pos q6_2]) r12_0)⟩
  · refine stp (fun _ => XS.ifYes X1.here hx rfl (pc0 := 6) (pc' := 20) rfl (hb hby d1_6) rfl (XT.i0_ne_t q6_2) (by decide) (by decide)) ?_
    show Go p e below T1 (mkF m 20 #[.val (.int a), .val (.int (own_len a)), .unset] []) _
    refine stp (fun _ => XS.iloadN X1.here hx rfl (hb hby d1_20) rfl) ?_
    show Go p e below T1 (mkF m 21 #[.val (.int a), .val (.int (own_len a)), .unset] [(.int (own_len a))]) _
    refine stp (fun _ => XS.iconst X1.here hx rfl (hb hby d1_21)) ?_
    show Go p e below T1 (mkF m 22 #[.val (.int a), .val (.int (own_len a)), .unset] [(.int (1 : Int32)), (.int (own_len a))]) _
    by_cases q22_17 : (own_len a) = (1 : Int32)
    · refine stp (fun _ => XS.icmpNo X1.here hx rfl (hb hby d1_22) rfl (XT.ii_ne_f q22_17)) ?_
      show Go p e below T1 (mkF m 25 #[.val (.int a), .val (.int (own_len a)), .unset] []) _
      refine stp (fun _ => XS.iloadN X1.here hx rfl (hb hby d1_25) rfl) ?_
      show Go p e below T1 (mkF m 26 #[.val (.int a), .val (.int (own_len a)), .unset] [(.int a)]) _
      obtain ⟨_, _, ⟨T18, L18, k18, n18⟩, -, X18, ⟨Lc18, hQ18, l18, y18, z18⟩, st18⟩ := Jvm.LawKit.callS X1 hx (y := (⟨"com/example/revlint/revlint/model/PrimitiveEqualsPinLaw", "c0", "(I)C"⟩ : MethodName)) hown (mvT hZ (hw _ (List.mem_of_getElem? (i := 63) rfl))) (mvT hZ (hw _ (List.mem_of_getElem? (i := 64) rfl))) (mvT hZ (hw _ (List.mem_of_getElem? (i := 2) rfl))) (mvT hZ (hw _ (List.mem_of_getElem? (i := 65) rfl))) (by decide) (backOf (W := 0) (rm_c0 l Z a0 hw [] a  h0 n0 O0 ) hZ (hw _ (List.mem_of_getElem? (i := 65) rfl)) (hw _ (List.mem_of_getElem? (i := 2) rfl)) (by decide) (by decide)) (g := (mkF m 26 #[.val (.int a), .val (.int (own_len a)), .unset] [(.int a)])) rfl (by rw [hml]; rfl) (argsL := [(.int a)]) (rest := []) (lenOf pd_6 rfl) rfl (by show 2 * 0 + _ ≤ _; exact Nat.le_of_eq rfl) (hb hby d1_26) (fun _ _ => ⟨rfl, e1, (by decide : 0 + 0 ≤ _), (by decide : 0 + 0 ≤ _)⟩)
      dsimp only [Pt.U, Pt.locs, Pt.cells, Pt.slots] at X18 l18 y18 z18 st18 hQ18
      subst y18 z18
      obtain ⟨rfl, N18q, e18⟩ := hQ18
      have N18 : Fr n0 L18 := by rw [l18]; exact Fr.app N1 N18q
      refine stp st18 ?_
      show Go p e below T18 (mkF m 29 #[.val (.int a), .val (.int (own_len a)), .unset] [(.int (own_c0 a))]) _
      obtain ⟨_, _, ⟨T19, L19, k19, n19⟩, -, X19, ⟨Lc19, hQ19, l19, y19, z19⟩, st19⟩ := Jvm.LawKit.callS X18 hx (y := (⟨"java/lang/String", "valueOf", "(C)Ljava/lang/String;"⟩ : MethodName)) hown (mvT hZ (hw _ (List.mem_of_getElem? (i := 96) rfl))) (mvT hZ (hw _ (List.mem_of_getElem? (i := 97) rfl))) (mvT hZ (hw _ (List.mem_of_getElem? (i := 9) rfl))) (mvT hZ (hw _ (List.mem_of_getElem? (i := 98) rfl))) (by decide) (backOf (W := 0) (rm_vo l Z a0 hw [] (own_c0 a) cz h0 n0 O0 S_COMPACT_STRINGS hcz (own_c0_small a)) hZ (hw _ (List.mem_of_getElem? (i := 98) rfl)) (hw _ (List.mem_of_getElem? (i := 9) rfl)) (by decide) (by decide)) (g := (mkF m 29 #[.val (.int a), .val (.int (own_len a)), .unset] [(.int (own_c0 a))])) rfl (by rw [hml]; rfl) (argsL := [(.int (own_c0 a))]) (rest := []) (lenOf pd_7 rfl) rfl (by show 2 * 0 + _ ≤ _; exact Nat.le_of_eq rfl) (hb hby d1_29) (fun _ _ => ⟨rfl, e18, (by decide : 0 + 2 ≤ _), (by decide : 0 + 5 ≤ _)⟩)
      dsimp only [Pt.U, Pt.locs, Pt.cells, Pt.slots] at X19 l19 y19 z19 st19 hQ19
      subst y19 z19
      obtain ⟨r19, rfl, N19q, K19q, ⟨ge_r19, sz19_r19⟩, r19_0⟩ := hQ19
      have N19 : Fr n0 L19 := by rw [l19]; exact Fr.app N18 N19q
      have hk := Nat.le_trans hk K19q.1
      have CR := CR.trans (CHr.keep K19q sf0 CR.1)
      have sz_r19 : h0.size ≤ r19 := Nat.le_trans (Keep.refl h0 []).1 sz19_r19
      have K19 : Keep h0 T19.heap [] := (Keep.refl h0 []).trans K19q all0
      have O19 := O0.keep K19q all0
      refine stp st19 ?_
      show Go p e below T19 (mkF m 32 #[.val (.int a), .val (.int (own_len a)), .unset] [(.ref r19)]) _
      refine outAW X19 hx hZ hEL rfl hS hk CR hret rfl rfl (hb hby d1_32) hlk (by decide) (by decide) ?_
      exact ⟨r19, rfl, N19, K19, ⟨ge_r19, sz_r19⟩, (own_cs_of (by simp only [own_cs, if_neg q6_2, if_pos q22_17]) r19_0)⟩
    · refine stp (fun _ => XS.icmpYes X1.here hx rfl (pc0 := 22) (pc' := 33) rfl (hb hby d1_22) rfl (XT.ii_ne_t q22_17) (by decide) (by decide)) ?_
      show Go p e below T1 (mkF m 33 #[.val (.int a), .val (.int (own_len a)), .unset] []) _
      refine stp (fun _ => XS.iloadN X1.here hx rfl (hb hby d1_33) rfl) ?_
      show Go p e below T1 (mkF m 34 #[.val (.int a), .val (.int (own_len a)), .unset] [(.int (own_len a))]) _
      refine stp (fun _ => XS.iconst X1.here hx rfl (hb hby d1_34)) ?_
      show Go p e below T1 (mkF m 35 #[.val (.int a), .val (.int (own_len a)), .unset] [(.int (2 : Int32)), (.int (own_len a))]) _
      by_cases q35_20 : (own_len a) = (2 : Int32)
      · refine stp (fun _ => XS.icmpNo X1.here hx rfl (hb hby d1_35) rfl (XT.ii_ne_f q35_20)) ?_
        show Go p e below T1 (mkF m 38 #[.val (.int a), .val (.int (own_len a)), .unset] []) _
        refine stp (fun _ => XS.iconst X1.here hx rfl (hb hby d1_38)) ?_
        show Go p e below T1 (mkF m 39 #[.val (.int a), .val (.int (own_len a)), .unset] [(.int (2 : Int32))]) _
        obtain ⟨T21, h21, k21, X21, e21, E21, A21, B21, st21⟩ := newPE X1 hx hZ (hw _ (List.mem_of_getElem? (i := 10) rfl)) e1 (g := (mkF m 39 #[.val (.int a), .val (.int (own_len a)), .unset] [(.int (2 : Int32))])) rfl (hb hby d1_39) rfl (by decide) (cap := 2) (by decide) (by decide) (by decide) (by decide) (ad := "[C") (by decide)
        obtain ⟨b21, g21⟩ : ∃ z, z = h0.size := ⟨_, rfl⟩
        rw [← g21] at A21 B21 st21
        have sz_b21 : h0.size ≤ b21 := Nat.le_trans (Keep.refl h0 []).1 (Nat.le_of_eq g21.symm)
        have ge_b21 : n0 ≤ b21 := Nat.le_trans (old_le O0) (Nat.le_of_eq g21.symm)
        have hk := Nat.le_trans hk E21.1
        have CR := CR.trans (CHr.ext E21 CR.1)
        have K21 : Keep h0 h21 [] := (Keep.refl h0 []).ext E21
        have O21 := O0.ext E21
        have V21 : Arv Z h21 b21 k21 .char (2 : Int32) [(.int (0 : Int32)), (.int (0 : Int32))] (.int (0 : Int32)) := (Arv.new A21 (by decide)).pad (pad_rep [] (.int (0 : Int32)) 2)
        refine stp st21 ?_
        show Go p e below T21 (mkF m 41 #[.val (.int a), .val (.int (own_len a)), .unset] [(.ref b21)]) _
        refine stp (fun _ => XS.astoreN X21.here hx rfl (hb hby d1_41) rfl rfl (l' := #[.val (.int a), .val (.int (own_len a)), .val (.ref b21)]) rfl) ?_
        show Go p e below T21 (mkF m 42 #[.val (.int a), .val (.int (own_len a)), .val (.ref b21)] []) _
        refine stp (fun _ => XS.aloadN X21.here hx rfl (hb hby d1_42) rfl rfl) ?_
        show Go p e below T21 (mkF m 43 #[.val (.int a), .val (.int (own_len a)), .val (.ref b21)] [(.ref b21)]) _
        refine stp (fun _ => XS.iconst X21.here hx rfl (hb hby d1_43)) ?_
        show Go p e below T21 (mkF m 44 #[.val (.int a), .val (.int (own_len a)), .val (.ref b21)] [(.int (0 : Int32)), (.ref b21)]) _
        refine stp (fun _ => XS.iloadN X21.here hx rfl (hb hby d1_44) rfl) ?_
        show Go p e below T21 (mkF m 45 #[.val (.int a), .val (.int (own_len a)), .val (.ref b21)] [(.int a), (.int (0 : Int32)), (.ref b21)]) _
        obtain ⟨_, _, ⟨T22, L22, k22, n22⟩, -, X22, ⟨Lc22, hQ22, l22, y22, z22⟩, st22⟩ := Jvm.LawKit.callS X21 hx (y := (⟨"com/example/revlint/revlint/model/PrimitiveEqualsPinLaw", "c0", "(I)C"⟩ : MethodName)) hown (mvT hZ (hw _ (List.mem_of_getElem? (i := 63) rfl))) (mvT hZ (hw _ (List.mem_of_getElem? (i := 64) rfl))) (mvT hZ (hw _ (List.mem_of_getElem? (i := 2) rfl))) (mvT hZ (hw _ (List.mem_of_getElem? (i := 65) rfl))) (by decide) (backOf (W := 2) (rm_c0 l Z a0 hw [] a  h21 n0 O21 ) hZ (hw _ (List.mem_of_getElem? (i := 65) rfl)) (hw _ (List.mem_of_getElem? (i := 2) rfl)) (by decide) (by decide)) (g := (mkF m 45 #[.val (.int a), .val (.int (own_len a)), .val (.ref b21)] [(.int a), (.int (0 : Int32)), (.ref b21)])) rfl (by rw [hml]; rfl) (argsL := [(.int a)]) (rest := [(.int (0 : Int32)), (.ref b21)]) (lenOf pd_6 rfl) rfl (by show 2 * 0 + _ ≤ _; exact Nat.le_of_eq rfl) (hb hby d1_45) (fun _ _ => ⟨rfl, e21, (by decide : 1 + 0 ≤ _), (by decide : 2 + 0 ≤ _)⟩)
        dsimp only [Pt.U, Pt.locs, Pt.cells, Pt.slots] at X22 l22 y22 z22 st22 hQ22
        subst y22 z22
        obtain ⟨rfl, N22q, e22⟩ := hQ22
        have N22 : Fr n0 L22 := by rw [l22]; exact Fr.app N1 N22q
        refine stp st22 ?_
        show Go p e below T22 (mkF m 48 #[.val (.int a), .val (.int (own_len a)), .val (.ref b21)] [(.int (own_c0 a)), (.int (0 : Int32)), (.ref b21)]) _
        obtain ⟨cl23, Ar23, q23, S23, M23, H23, G23⟩ := (id V21)
        have in23 : ¬ ((0 : Int32) < 0 ∨ cl23.slots.size ≤ ((0 : Int32)).toNatClampNeg) := inb_of S23 ⟨by decide, by decide⟩
        obtain ⟨T23, h23, X23, e23, W23, st23⟩ := stC X22 hx hZ e22 Ar23 (j := (0 : Int32)) in23 (g := (mkF m 48 #[.val (.int a), .val (.int (own_len a)), .val (.ref b21)] [(.int (own_c0 a)), (.int (0 : Int32)), (.ref b21)])) rfl rfl (hb hby d1_48)
        have V23 : Arv Z h23 b21 k21 .char (2 : Int32) [(.int (own_c0 a)), (.int (0 : Int32))] (.int (0 : Int32)) := Arv.set Ar23 q23 S23 M23 H23 G23 (ow_fits_char (char255 (own_c0_small a))) (ow_wr_char (char255 (own_c0_small a)) W23) 0 rfl (Nat.le_of_ble_eq_true rfl)
        have f24 := B21.wr W23
        have hk := Nat.le_trans hk (Keep.of_wr W23).1
        have CR := CR.trans (CHr.wr W23 (Safe.exa hZ.alike B21 (by decide) (by decide)) CR.1)
        have K23 : Keep h0 h23 [] := K21.wr W23 (Or.inr sz_b21)
        have O23 := O21.wr W23 ge_b21
        have N23 := Fr.snoc X23 N22 ge_b21
        refine stp st23 ?_
        show Go p e below T23 (mkF m 49 #[.val (.int a), .val (.int (own_len a)), .val (.ref b21)] []) _
        refine stp (fun _ => XS.aloadN X23.here hx rfl (hb hby d1_49) rfl rfl) ?_
        show Go p e below T23 (mkF m 50 #[.val (.int a), .val (.int (own_len a)), .val (.ref b21)] [(.ref b21)]) _
        refine stp (fun _ => XS.iconst X23.here hx rfl (hb hby d1_50)) ?_
        show Go p e below T23 (mkF m 51 #[.val (.int a), .val (.int (own_len a)), .val (.ref b21)] [(.int (1 : Int32)), (.ref b21)]) _
        refine stp (fun _ => XS.iloadN X23.here hx rfl (hb hby d1_51) rfl) ?_
        show Go p e below T23 (mkF m 52 #[.val (.int a), .val (.int (own_len a)), .val (.ref b21)] [(.int a), (.int (1 : Int32)), (.ref b21)]) _
        obtain ⟨_, _, ⟨T26, L26, k26, n26⟩, -, X26, ⟨Lc26, hQ26, l26, y26, z26⟩, st26⟩ := Jvm.LawKit.callS X23 hx (y := (⟨"com/example/revlint/revlint/model/PrimitiveEqualsPinLaw", "c1", "(I)C"⟩ : MethodName)) hown (mvT hZ (hw _ (List.mem_of_getElem? (i := 66) rfl))) (mvT hZ (hw _ (List.mem_of_getElem? (i := 67) rfl))) (mvT hZ (hw _ (List.mem_of_getElem? (i := 2) rfl))) (mvT hZ (hw _ (List.mem_of_getElem? (i := 68) rfl))) (by decide) (backOf (W := 2) (rm_c1 l Z a0 hw [] a  h23 n0 O23 ) hZ (hw _ (List.mem_of_getElem? (i := 68) rfl)) (hw _ (List.mem_of_getElem? (i := 2) rfl)) (by decide) (by decide)) (g := (mkF m 52 #[.val (.int a), .val (.int (own_len a)), .val (.ref b21)] [(.int a), (.int (1 : Int32)), (.ref b21)])) rfl (by rw [hml]; rfl) (argsL := [(.int a)]) (rest := [(.int (1 : Int32)), (.ref b21)]) (lenOf pd_6 rfl) rfl (by show 2 * 0 + _ ≤ _; exact Nat.le_of_eq rfl) (hb hby d1_52) (fun _ _ => ⟨rfl, e23, (by decide : 1 + 0 ≤ _), (by decide : 2 + 0 ≤ _)⟩)
        dsimp only [Pt.U, Pt.locs, Pt.cells, Pt.slots] at X26 l26 y26 z26 st26 hQ26
        subst y26 z26
        obtain ⟨rfl, N26q, e26⟩ := hQ26
        have N26 : Fr n0 L26 := by rw [l26]; exact Fr.app N23 N26q
        refine stp st26 ?_
        show Go p e below T26 (mkF m 55 #[.val (.int a), .val (.int (own_len a)), .val (.ref b21)] [(.int (own_c1 a)), (.int (1 : Int32)), (.ref b21)]) _
        obtain ⟨cl27, Ar27, q27, S27, M27, H27, G27⟩ := (id V23)
        have in27 : ¬ ((1 : Int32) < 0 ∨ cl27.slots.size ≤ ((1 : Int32)).toNatClampNeg) := inb_of S27 ⟨by decide, by decide⟩
        obtain ⟨T27, h27, X27, e27, W27, st27⟩ := stC X26 hx hZ e26 Ar27 (j := (1 : Int32)) in27 (g := (mkF m 55 #[.val (.int a), .val (.int (own_len a)), .val (.ref b21)] [(.int (own_c1 a)), (.int (1 : Int32)), (.ref b21)])) rfl rfl (hb hby d1_55)
        have V27 : Arv Z h27 b21 k21 .char (2 : Int32) [(.int (own_c0 a)), (.int (own_c1 a))] (.int (0 : Int32)) := Arv.set Ar27 q27 S27 M27 H27 G27 (ow_fits_char (char255 (own_c1_small a))) (ow_wr_char (char255 (own_c1_small a)) W27) 1 rfl (Nat.le_of_ble_eq_true rfl)
        have f28 := f24.wr W27
        have hk := Nat.le_trans hk (Keep.of_wr W27).1
        have CR := CR.trans (CHr.wr W27 (Safe.exa hZ.alike f24 (by decide) (by decide)) CR.1)
        have K27 : Keep h0 h27 [] := K23.wr W27 (Or.inr sz_b21)
        have O27 := O23.wr W27 ge_b21
        have N27 := Fr.snoc X27 N26 ge_b21
        refine stp st27 ?_
        show Go p e below T27 (mkF m 56 #[.val (.int a), .val (.int (own_len a)), .val (.ref b21)] []) _
        obtain ⟨T30, h30, X30, e30, E30, A30, D30, -, st30⟩ := newO X27 hx hZ hown (hw _ (List.mem_of_getElem? (i := 7) rfl)) (hw _ (List.mem_of_getElem? (i := 8) rfl)) (hw _ (List.mem_of_getElem? (i := 9) rfl)) e27 (g := (mkF m 56 #[.val (.int a), .val (.int (own_len a)), .val (.ref b21)] [])) rfl (hb hby d1_56) (by decide) (by decide)
        obtain ⟨b30, g30⟩ : ∃ z, z = h27.size := ⟨_, rfl⟩
        rw [← g30] at A30 D30 st30
        have ne31 : b21 ≠ b30 := Nat.ne_of_lt (Nat.lt_of_lt_of_le f28.lt (Nat.le_of_eq g30.symm))
        have sz_b30 : h0.size ≤ b30 := Nat.le_trans K27.1 (Nat.le_of_eq g30.symm)
        have ge_b30 : n0 ≤ b30 := Nat.le_trans (old_le O27) (Nat.le_of_eq g30.symm)
        have f32 := f28.ext E30
        have f33 := V27.ext E30
        have Sf30 := (Safe.new (Z := Z) (EL := consts_1) (Nat.le_of_eq g30.symm)).ext E30 CR.1
        have hk := Nat.le_trans hk E30.1
        have CR := CR.trans (CHr.ext E30 CR.1)
        have K30 : Keep h0 h30 [] := K27.ext E30
        have O30 := O27.ext E30
        have F34 : Fld Z h30 b30 "java/lang/String" "value" "[B" .null := D30 (Or.inr (hw _ (List.mem_of_getElem? (i := 23) rfl))) (ty := (.array .byte)) (by decide)
        have F35 : Fld Z h30 b30 "java/lang/String" "coder" "B" (.int (0 : Int32)) := D30 (Or.inr (hw _ (List.mem_of_getElem? (i := 24) rfl))) (ty := .byte) (by decide)
        refine stp st30 ?_
        show Go p e below T30 (mkF m 59 #[.val (.int a), .val (.int (own_len a)), .val (.ref b21)] [(.ref b30)]) _
        refine stp (fun _ => XS.dup X30.here hx rfl (hb hby d1_59) rfl rfl) ?_
        show Go p e below T30 (mkF m 60 #[.val (.int a), .val (.int (own_len a)), .val (.ref b21)] [(.ref b30), (.ref b30)]) _
        refine stp (fun _ => XS.aloadN X30.here hx rfl (hb hby d1_60) rfl rfl) ?_
        show Go p e below T30 (mkF m 61 #[.val (.int a), .val (.int (own_len a)), .val (.ref b21)] [(.ref b21), (.ref b30), (.ref b30)]) _
        obtain ⟨_, _, ⟨T36, L36, k36, n36⟩, -, X36, ⟨Lc36, hQ36, l36, y36, z36⟩, st36⟩ := X30.specialBack hx (y := (⟨"java/lang/String", "<init>", "([C)V"⟩ : MethodName)) rfl hown (mvT hZ (hw _ (List.mem_of_getElem? (i := 11) rfl))) (mvT hZ (hw _ (List.mem_of_getElem? (i := 12) rfl))) (mvT hZ (hw _ (List.mem_of_getElem? (i := 13) rfl))) (by decide) (StrChars.Road.backV (W := 1) hZ hws (kI := 4) (hw _ (List.mem_of_getElem? (i := 8) rfl)) (cs := ([(own_c0 a), (own_c1 a)] : List Int32)) (bs := ([(own_c0 a), (own_c1 a)] : List Int32).map (fun c => c.toInt8.toInt32)) (n := 2) ge_b30 (old_le O30) A30 F34 F35 f33 (S_COMPACT_STRINGS.ext O30.2) hcz rfl rfl (by decide) (by decide) (own_hp2 a) rfl (by decide) (by decide)) (g := (mkF m 61 #[.val (.int a), .val (.int (own_len a)), .val (.ref b21)] [(.ref b21), (.ref b30), (.ref b30)])) rfl (by rw [hml]; rfl) (Steps.refl _) (a := b30) (argsL := [(.ref b21)]) (rest := [(.ref b30)]) (lenOf pd_5 rfl) rfl (by show 2 * 0 + _ ≤ _; exact Nat.le_of_eq rfl) (hb hby d1_61) (fun _ _ => ⟨rfl, e30, (by decide : 2 + 1 ≤ _), (by decide : 6 + 2 ≤ _)⟩)
        dsimp only [Pt.U, Pt.locs, Pt.cells, Pt.slots] at X36 l36 y36 z36 st36 hQ36
        subst y36 z36
        obtain ⟨rfl, N36q, K36q, E36q, C36q, t36, kb36, ge_t36, sz36q, ne36q, F36q, V36q⟩ := hQ36
        have N36 : Fr n0 L36 := by rw [l36]; exact Fr.app N27 N36q
        have ne37 : b21 ≠ t36 := Nat.ne_of_lt (Nat.lt_of_lt_of_le f32.lt sz36q)
        have f38 := f32.keep K36q
        have f39 := f33.keep K36q (ninS ne31 nin0)
        have f40 := Sf30.keep K36q (sfS Sf30 sf0) CR.1
        have hk := Nat.le_trans hk K36q.1
        have CR := CR.trans (CHr.keep K36q (sfS Sf30 sf0) CR.1)
        have K36 : Keep h0 T36.heap [] := K30.trans K36q (allS (Or.inr sz_b30) all0)
        have sz_t36 : h0.size ≤ t36 := Nat.le_trans K30.1 sz36q
        have O36 := O30.keep K36q (allS ge_b30 all0)
        have Q36 : StrIs Z T36.heap b30 ([(own_c0 a), (own_c1 a)] : List Int32) := StrIs.of E36q F36q C36q V36q rfl rfl (own_hp2 a) (Nat.le_of_ble_eq_true rfl)
        refine stt st36 ?_
        show Go p e below T36 (mkF m 64 #[.val (.int a), .val (.int (own_len a)), .val (.ref b21)] [(.ref b30)]) _
        refine outAW X36 hx hZ hEL rfl hS hk CR hret rfl rfl (hb hby d1_64) hlk (by decide) (by decide) ?_
        exact ⟨b30, rfl, N36, K36, ⟨ge_b30, sz_b30⟩, (own_cs_of (by simp only [own_cs, if_neg q6_2, if_neg q22_17, if_pos q35_20]) Q36)⟩
      · refine stp (fun _ => XS.icmpYes X1.here hx rfl (pc0 := 35) (pc' := 65) rfl (hb hby d1_35) rfl (XT.ii_ne_t q35_20) (by decide) (by decide)) ?_
        show Go p e below T1 (mkF m 65 #[.val (.int a), .val (.int (own_len a)), .unset] []) _
        refine stp (fun _ => XS.iconst X1.here hx rfl (hb hby d1_65)) ?_
        show Go p e below T1 (mkF m 66 #[.val (.int a), .val (.int (own_len a)), .unset] [(.int (3 : Int32))]) _
        obtain ⟨T41, h41, k41, X41, e41, E41, A41, B41, st41⟩ := newPE X1 hx hZ (hw _ (List.mem_of_getElem? (i := 10) rfl)) e1 (g := (mkF m 66 #[.val (.int a), .val (.int (own_len a)), .unset] [(.int (3 : Int32))])) rfl (hb hby d1_66) rfl (by decide) (cap := 3) (by decide) (by decide) (by decide) (by decide) (ad := "[C") (by decide)
        obtain ⟨b41, g41⟩ : ∃ z, z = h0.size := ⟨_, rfl⟩
        rw [← g41] at A41 B41 st41
        have sz_b41 : h0.size ≤ b41 := Nat.le_trans (Keep.refl h0 []).1 (Nat.le_of_eq g41.symm)
        have ge_b41 : n0 ≤ b41 := Nat.le_trans (old_le O0) (Nat.le_of_eq g41.symm)
        have hk := Nat.le_trans hk E41.1
        have CR := CR.trans (CHr.ext E41 CR.1)
        have K41 : Keep h0 h41 [] := (Keep.refl h0 []).ext E41
        have O41 := O0.ext E41
        have V41 : Arv Z h41 b41 k41 .char (3 : Int32) [(.int (0 : Int32)), (.int (0 : Int32)), (.int (0 : Int32))] (.int (0 : Int32)) := (Arv.new A41 (by decide)).pad (pad_rep [] (.int (0 : Int32)) 3)
        refine stp st41 ?_
        show Go p e below T41 (mkF m 68 #[.val (.int a), .val (.int (own_len a)), .unset] [(.ref b41)]) _
        refine stp (fun _ => XS.astoreN X41.here hx rfl (hb hby d1_68) rfl rfl (l' := #[.val (.int a), .val (.int (own_len a)), .val (.ref b41)]) rfl) ?_
        show Go p e below T41 (mkF m 69 #[.val (.int a), .val (.int (own_len a)), .val (.ref b41)] []) _
        refine stp (fun _ => XS.aloadN X41.here hx rfl (hb hby d1_69) rfl rfl) ?_
        show Go p e below T41 (mkF m 70 #[.val (.int a), .val (.int (own_len a)), .val (.ref b41)] [(.ref b41)]) _
        refine stp (fun _ => XS.iconst X41.here hx rfl (hb hby d1_70)) ?_
        show Go p e below T41 (mkF m 71 #[.val (.int a), .val (.int (own_len a)), .val (.ref b41)] [(.int (0 : Int32)), (.ref b41)]) _
        refine stp (fun _ => XS.iloadN X41.here hx rfl (hb hby d1_71) rfl) ?_
        show Go p e below T41 (mkF m 72 #[.val (.int a), .val (.int (own_len a)), .val (.ref b41)] [(.int a), (.int (0 : Int32)), (.ref b41)]) _
        obtain ⟨_, _, ⟨T42, L42, k42, n42⟩, -, X42, ⟨Lc42, hQ42, l42, y42, z42⟩, st42⟩ := Jvm.LawKit.callS X41 hx (y := (⟨"com/example/revlint/revlint/model/PrimitiveEqualsPinLaw", "c0", "(I)C"⟩ : MethodName)) hown (mvT hZ (hw _ (List.mem_of_getElem? (i := 63) rfl))) (mvT hZ (hw _ (List.mem_of_getElem? (i := 64) rfl))) (mvT hZ (hw _ (List.mem_of_getElem? (i := 2) rfl))) (mvT hZ (hw _ (List.mem_of_getElem? (i := 65) rfl))) (by decide) (backOf (W := 2) (rm_c0 l Z a0 hw [] a  h41 n0 O41 ) hZ (hw _ (List.mem_of_getElem? (i := 65) rfl)) (hw _ (List.mem_of_getElem? (i := 2) rfl)) (by decide) (by decide)) (g := (mkF m 72 #[.val (.int a), .val (.int (own_len a)), .val (.ref b41)] [(.int a), (.int (0 : Int32)), (.ref b41)])) rfl (by rw [hml]; rfl) (argsL := [(.int a)]) (rest := [(.int (0 : Int32)), (.ref b41)]) (lenOf pd_6 rfl) rfl (by show 2 * 0 + _ ≤ _; exact Nat.le_of_eq rfl) (hb hby d1_72) (fun _ _ => ⟨rfl, e41, (by decide : 1 + 0 ≤ _), (by decide : 3 + 0 ≤ _)⟩)
        dsimp only [Pt.U, Pt.locs, Pt.cells, Pt.slots] at X42 l42 y42 z42 st42 hQ42
        subst y42 z42
        obtain ⟨rfl, N42q, e42⟩ := hQ42
        have N42 : Fr n0 L42 := by rw [l42]; exact Fr.app N1 N42q
        refine stp st42 ?_
        show Go p e below T42 (mkF m 75 #[.val (.int a), .val (.int (own_len a)), .val (.ref b41)] [(.int (own_c0 a)), (.int (0 : Int32)), (.ref b41)]) _
        obtain ⟨cl43, Ar43, q43, S43, M43, H43, G43⟩ := (id V41)
        have in43 : ¬ ((0 : Int32) < 0 ∨ cl43.slots.size ≤ ((0 : Int32)).toNatClampNeg) := inb_of S43 ⟨by decide, by decide⟩
        obtain ⟨T43, h43, X43, e43, W43, st43⟩ := stC X42 hx hZ e42 Ar43 (j := (0 : Int32)) in43 (g := (mkF m 75 #[.val (.int a), .val (.int (own_len a)), .val (.ref b41)] [(.int (own_c0 a)), (.int (0 : Int32)), (.ref b41)])) rfl rfl (hb hby d1_75)
        have V43 : Arv Z h43 b41 k41 .char (3 : Int32) [(.int (own_c0 a)), (.int (0 : Int32)), (.int (0 : Int32))] (.int (0 : Int32)) := Arv.set Ar43 q43 S43 M43 H43 G43 (ow_fits_char (char255 (own_c0_small a))) (ow_wr_char (char255 (own_c0_small a)) W43) 0 rfl (Nat.le_of_ble_eq_true rfl)
        have f44 := B41.wr W43
        have hk := Nat.le_trans hk (Keep.of_wr W43).1
        have CR := CR.trans (CHr.wr W43 (Safe.exa hZ.alike B41 (by decide) (by decide)) CR.1)
        have K43 : Keep h0 h43 [] := K41.wr W43 (Or.inr sz_b41)
        have O43 := O41.wr W43 ge_b41
        have N43 := Fr.snoc X43 N42 ge_b41
        refine stp st43 ?_
        show Go p e below T43 (mkF m 76 #[.val (.int a), .val (.int (own_len a)), .val (.ref b41)] []) _
        refine stp (fun _ => XS.aloadN X43.here hx rfl (hb hby d1_76) rfl rfl) ?_
        show Go p e below T43 (mkF m 77 #[.val (.int a), .val (.int (own_len a)), .val (.ref b41)] [(.ref b41)]) _
        refine stp (fun _ => XS.iconst X43.here hx rfl (hb hby d1_77)) ?_
        show Go p e below T43 (mkF m 78 #[.val (.int a), .val (.int (own_len a)), .val (.ref b41)] [(.int (1 : Int32)), (.ref b41)]) _
        refine stp (fun _ => XS.iloadN X43.here hx rfl (hb hby d1_78) rfl) ?_
        show Go p e below T43 (mkF m 79 #[.val (.int a), .val (.int (own_len a)), .val (.ref b41)] [(.int a), (.int (1 : Int32)), (.ref b41)]) _
        obtain ⟨_, _, ⟨T46, L46, k46, n46⟩, -, X46, ⟨Lc46, hQ46, l46, y46, z46⟩, st46⟩ := Jvm.LawKit.callS X43 hx (y := (⟨"com/example/revlint/revlint/model/PrimitiveEqualsPinLaw", "c1", "(I)C"⟩ : MethodName)) hown (mvT hZ (hw _ (List.mem_of_getElem? (i := 66) rfl))) (mvT hZ (hw _ (List.mem_of_getElem? (i := 67) rfl))) (mvT hZ (hw _ (List.mem_of_getElem? (i := 2) rfl))) (mvT hZ (hw _ (List.mem_of_getElem? (i := 68) rfl))) (by decide) (backOf (W := 2) (rm_c1 l Z a0 hw [] a  h43 n0 O43 ) hZ (hw _ (List.mem_of_getElem? (i := 68) rfl)) (hw _ (List.mem_of_getElem? (i := 2) rfl)) (by decide) (by decide)) (g := (mkF m 79 #[.val (.int a), .val (.int (own_len a)), .val (.ref b41)] [(.int a), (.int (1 : Int32)), (.ref b41)])) rfl (by rw [hml]; rfl) (argsL := [(.int a)]) (rest := [(.int (1 : Int32)), (.ref b41)]) (lenOf pd_6 rfl) rfl (by show 2 * 0 + _ ≤ _; exact Nat.le_of_eq rfl) (hb hby d1_79) (fun _ _ => ⟨rfl, e43, (by decide : 1 + 0 ≤ _), (by decide : 3 + 0 ≤ _)⟩)
        dsimp only [Pt.U, Pt.locs, Pt.cells, Pt.slots] at X46 l46 y46 z46 st46 hQ46
        subst y46 z46
        obtain ⟨rfl, N46q, e46⟩ := hQ46
        have N46 : Fr n0 L46 := by rw [l46]; exact Fr.app N43 N46q
        refine stp st46 ?_
        show Go p e below T46 (mkF m 82 #[.val (.int a), .val (.int (own_len a)), .val (.ref b41)] [(.int (own_c1 a)), (.int (1 : Int32)), (.ref b41)]) _
        obtain ⟨cl47, Ar47, q47, S47, M47, H47, G47⟩ := (id V43)
        have in47 : ¬ ((1 : Int32) < 0 ∨ cl47.slots.size ≤ ((1 : Int32)).toNatClampNeg) := inb_of S47 ⟨by decide, by decide⟩
        obtain ⟨T47, h47, X47, e47, W47, st47⟩ := stC X46 hx hZ e46 Ar47 (j := (1 : Int32)) in47 (g := (mkF m 82 #[.val (.int a), .val (.int (own_len a)), .val (.ref b41)] [(.int (own_c1 a)), (.int (1 : Int32)), (.ref b41)])) rfl rfl (hb hby d1_82)
        have V47 : Arv Z h47 b41 k41 .char (3 : Int32) [(.int (own_c0 a)), (.int (own_c1 a)), (.int (0 : Int32))] (.int (0 : Int32)) := Arv.set Ar47 q47 S47 M47 H47 G47 (ow_fits_char (char255 (own_c1_small a))) (ow_wr_char (char255 (own_c1_small a)) W47) 1 rfl (Nat.le_of_ble_eq_true rfl)
        have f48 := f44.wr W47
        have hk := Nat.le_trans hk (Keep.of_wr W47).1
        have CR := CR.trans (CHr.wr W47 (Safe.exa hZ.alike f44 (by decide) (by decide)) CR.1)
        have K47 : Keep h0 h47 [] := K43.wr W47 (Or.inr sz_b41)
        have O47 := O43.wr W47 ge_b41
        have N47 := Fr.snoc X47 N46 ge_b41
        refine stp st47 ?_
        show Go p e below T47 (mkF m 83 #[.val (.int a), .val (.int (own_len a)), .val (.ref b41)] []) _
        refine stp (fun _ => XS.aloadN X47.here hx rfl (hb hby d1_83) rfl rfl) ?_
        show Go p e below T47 (mkF m 84 #[.val (.int a), .val (.int (own_len a)), .val (.ref b41)] [(.ref b41)]) _
        refine stp (fun _ => XS.iconst X47.here hx rfl (hb hby d1_84)) ?_
        show Go p e below T47 (mkF m 85 #[.val (.int a), .val (.int (own_len a)), .val (.ref b41)] [(.int (2 : Int32)), (.ref b41)]) _
        refine stp (fun _ => XS.iloadN X47.here hx rfl (hb hby d1_85) rfl) ?_
        show Go p e below T47 (mkF m 86 #[.val (.int a), .val (.int (own_len a)), .val (.ref b41)] [(.int a), (.int (2 : Int32)), (.ref b41)]) _
        obtain ⟨_, _, ⟨T50, L50, k50, n50⟩, -, X50, ⟨Lc50, hQ50, l50, y50, z50⟩, st50⟩ := Jvm.LawKit.callS X47 hx (y := (⟨"com/example/revlint/revlint/model/PrimitiveEqualsPinLaw", "c2", "(I)C"⟩ : MethodName)) hown (mvT hZ (hw _ (List.mem_of_getElem? (i := 80) rfl))) (mvT hZ (hw _ (List.mem_of_getElem? (i := 81) rfl))) (mvT hZ (hw _ (List.mem_of_getElem? (i := 2) rfl))) (mvT hZ (hw _ (List.mem_of_getElem? (i := 82) rfl))) (by decide) (backOf (W := 2) (rm_c2 l Z a0 hw [] a  h47 n0 O47 ) hZ (hw _ (List.mem_of_getElem? (i := 82) rfl)) (hw _ (List.mem_of_getElem? (i := 2) rfl)) (by decide) (by decide)) (g := (mkF m 86 #[.val (.int a), .val (.int (own_len a)), .val (.ref b41)] [(.int a), (.int (2 : Int32)), (.ref b41)])) rfl (by rw [hml]; rfl) (argsL := [(.int a)]) (rest := [(.int (2 : Int32)), (.ref b41)]) (lenOf pd_6 rfl) rfl (by show 2 * 0 + _ ≤ _; exact Nat.le_of_eq rfl) (hb hby d1_86) (fun _ _ => ⟨rfl, e47, (by decide : 1 + 0 ≤ _), (by decide : 3 + 0 ≤ _)⟩)
        dsimp only [Pt.U, Pt.locs, Pt.cells, Pt.slots] at X50 l50 y50 z50 st50 hQ50
        subst y50 z50
        obtain ⟨rfl, N50q, e50⟩ := hQ50
        have N50 : Fr n0 L50 := by rw [l50]; exact Fr.app N47 N50q
        refine stp st50 ?_
        show Go p e below T50 (mkF m 89 #[.val (.int a), .val (.int (own_len a)), .val (.ref b41)] [(.int (own_c2 a)), (.int (2 : Int32)), (.ref b41)]) _
        obtain ⟨cl51, Ar51, q51, S51, M51, H51, G51⟩ := (id V47)
        have in51 : ¬ ((2 : Int32) < 0 ∨ cl51.slots.size ≤ ((2 : Int32)).toNatClampNeg) := inb_of S51 ⟨by decide, by decide⟩
        obtain ⟨T51, h51, X51, e51, W51, st51⟩ := stC X50 hx hZ e50 Ar51 (j := (2 : Int32)) in51 (g := (mkF m 89 #[.val (.int a), .val (.int (own_len a)), .val (.ref b41)] [(.int (own_c2 a)), (.int (2 : Int32)), (.ref b41)])) rfl rfl (hb hby d1_89)
        have V51 : Arv Z h51 b41 k41 .char (3 : Int32) [(.int (own_c0 a)), (.int (own_c1 a)), (.int (own_c2 a))] (.int (0 : Int32)) := Arv.set Ar51 q51 S51 M51 H51 G51 (ow_fits_char (char255 (own_c2_small a))) (ow_wr_char (char255 (own_c2_small a)) W51) 2 rfl (Nat.le_of_ble_eq_true rfl)
        have f52 := f48.wr W51
        have hk := Nat.le_trans hk (Keep.of_wr W51).1
        have CR := CR.trans (CHr.wr W51 (Safe.exa hZ.alike f48 (by decide) (by decide)) CR.1)
        have K51 : Keep h0 h51 [] := K47.wr W51 (Or.inr sz_b41)
        have O51 := O47.wr W51 ge_b41
        have N51 := Fr.snoc X51 N50 ge_b41
        refine stp st51 ?_
        show Go p e below T51 (mkF m 90 #[.val (.int a), .val (.int (own_len a)), .val (.ref b41)] []) _
        obtain ⟨T54, h54, X54, e54, E54, A54, D54, -, st54⟩ := newO X51 hx hZ hown (hw _ (List.mem_of_getElem? (i := 7) rfl)) (hw _ (List.mem_of_getElem? (i := 8) rfl)) (hw _ (List.mem_of_getElem? (i := 9) rfl)) e51 (g := (mkF m 90 #[.val (.int a), .val (.int (own_len a)), .val (.ref b41)] [])) rfl (hb hby d1_90) (by decide) (by decide)
        obtain ⟨b54, g54⟩ : ∃ z, z = h51.size := ⟨_, rfl⟩
        rw [← g54] at A54 D54 st54
        have ne55 : b41 ≠ b54 := Nat.ne_of_lt (Nat.lt_of_lt_of_le f52.lt (Nat.le_of_eq g54.symm))
        have sz_b54 : h0.size ≤ b54 := Nat.le_trans K51.1 (Nat.le_of_eq g54.symm)
        have ge_b54 : n0 ≤ b54 := Nat.le_trans (old_le O51) (Nat.le_of_eq g54.symm)
        have f56 := f52.ext E54
        have f57 := V51.ext E54
        have Sf54 := (Safe.new (Z := Z) (EL := consts_1) (Nat.le_of_eq g54.symm)).ext E54 CR.1
        have hk := Nat.le_trans hk E54.1
        have CR := CR.trans (CHr.ext E54 CR.1)
        have K54 : Keep h0 h54 [] := K51.ext E54
        have O54 := O51.ext E54
        have F58 : Fld Z h54 b54 "java/lang/String" "value" "[B" .null := D54 (Or.inr (hw _ (List.mem_of_getElem? (i := 23) rfl))) (ty := (.array .byte)) (by decide)
        have F59 : Fld Z h54 b54 "java/lang/String" "coder" "B" (.int (0 : Int32)) := D54 (Or.inr (hw _ (List.mem_of_getElem? (i := 24) rfl))) (ty := .byte) (by decide)
        refine stp st54 ?_
        show Go p e below T54 (mkF m 93 #[.val (.int a), .val (.int (own_len a)), .val (.ref b41)] [(.ref b54)]) _
        refine stp (fun _ => XS.dup X54.here hx rfl (hb hby d1_93) rfl rfl) ?_
        show Go p e below T54 (mkF m 94 #[.val (.int a), .val (.int (own_len a)), .val (.ref b41)] [(.ref b54), (.ref b54)]) _
        refine stp (fun _ => XS.aloadN X54.here hx rfl (hb hby d1_94) rfl rfl) ?_
        show Go p e below T54 (mkF m 95 #[.val (.int a), .val (.int (own_len a)), .val (.ref b41)] [(.ref b41), (.ref b54), (.ref b54)]) _
        obtain ⟨_, _, ⟨T60, L60, k60, n60⟩, -, X60, ⟨Lc60, hQ60, l60, y60, z60⟩, st60⟩ := X54.specialBack hx (y := (⟨"java/lang/String", "<init>", "([C)V"⟩ : MethodName)) rfl hown (mvT hZ (hw _ (List.mem_of_getElem? (i := 11) rfl))) (mvT hZ (hw _ (List.mem_of_getElem? (i := 12) rfl))) (mvT hZ (hw _ (List.mem_of_getElem? (i := 13) rfl))) (by decide) (StrChars.Road.backV (W := 1) hZ hws (kI := 4) (hw _ (List.mem_of_getElem? (i := 8) rfl)) (cs := ([(own_c0 a), (own_c1 a), (own_c2 a)] : List Int32)) (bs := ([(own_c0 a), (own_c1 a), (own_c2 a)] : List Int32).map (fun c => c.toInt8.toInt32)) (n := 3) ge_b54 (old_le O54) A54 F58 F59 f57 (S_COMPACT_STRINGS.ext O54.2) hcz rfl rfl (by decide) (by decide) (own_hp3 a) rfl (by decide) (by decide)) (g := (mkF m 95 #[.val (.int a), .val (.int (own_len a)), .val (.ref b41)] [(.ref b41), (.ref b54), (.ref b54)])) rfl (by rw [hml]; rfl) (Steps.refl _) (a := b54) (argsL := [(.ref b41)]) (rest := [(.ref b54)]) (lenOf pd_5 rfl) rfl (by show 2 * 0 + _ ≤ _; exact Nat.le_of_eq rfl) (hb hby d1_95) (fun _ _ => ⟨rfl, e54, (by decide : 2 + 1 ≤ _), (by decide : 7 + 3 ≤ _)⟩)
        dsimp only [Pt.U, Pt.locs, Pt.cells, Pt.slots] at X60 l60 y60 z60 st60 hQ60
        subst y60 z60
        obtain ⟨rfl, N60q, K60q, E60q, C60q, t60, kb60, ge_t60, sz60q, ne60q, F60q, V60q⟩ := hQ60
        have N60 : Fr n0 L60 := by rw [l60]; exact Fr.app N51 N60q
        have ne61 : b41 ≠ t60 := Nat.ne_of_lt (Nat.lt_of_lt_of_le f56.lt sz60q)
        have f62 := f56.keep K60q
        have f63 := f57.keep K60q (ninS ne55 nin0)
        have f64 := Sf54.keep K60q (sfS Sf54 sf0) CR.1
        have hk := Nat.le_trans hk K60q.1
        have CR := CR.trans (CHr.keep K60q (sfS Sf54 sf0) CR.1)
        have K60 : Keep h0 T60.heap [] := K54.trans K60q (allS (Or.inr sz_b54) all0)
        have sz_t60 : h0.size ≤ t60 := Nat.le_trans K54.1 sz60q
        have O60 := O54.keep K60q (allS ge_b54 all0)
        have Q60 : StrIs Z T60.heap b54 ([(own_c0 a), (own_c1 a), (own_c2 a)] : List Int32) := StrIs.of E60q F60q C60q V60q rfl rfl (own_hp3 a) (Nat.le_of_ble_eq_true rfl)
        refine stt st60 ?_
        show Go p e below T60 (mkF m 98 #[.val (.int a), .val (.int (own_len a)), .val (.ref b41)] [(.ref b54)]) _
        refine outAW X60 hx hZ hEL rfl hS hk CR hret rfl rfl (hb hby d1_98) hlk (by decide) (by decide) ?_
        exact ⟨b54, rfl, N60, K60, ⟨ge_b54, sz_b54⟩, (own_cs_of (by simp only [own_cs, if_neg q6_2, if_neg q22_17, if_neg q35_20]) Q60)⟩
theorem d22_0 : decode method_7_code 0 = .ok (.iload_n 0, 1) := by decide +kernel
theorem d22_1 : decode method_7_code 1 = .ok (.invokestatic 7, 3) := by decide +kernel
theorem d22_4 : decode method_7_code 4 = .ok (.istore_n 2, 1) := by decide +kernel
theorem d22_5 : decode method_7_code 5 = .ok (.iload_n 2, 1) := by decide +kernel
theorem d22_6 : decode method_7_code 6 = .ok (.iload_n 1, 1) := by decide +kernel
theorem d22_7 : decode method_7_code 7 = .ok (.invokestatic 7, 3) := by decide +kernel
theorem d22_10 : decode method_7_code 10 = .ok (.if_icmp .eq 5, 3) := by decide +kernel
theorem d22_15 : decode method_7_code 15 = .ok (.iload_n 2, 1) := by decide +kernel
theorem d22_16 : decode method_7_code 16 = .ok (.iconst 1, 1) := by decide +kernel
theorem d22_17 : decode method_7_code 17 = .ok (.if_icmp .lt 16, 3) := by decide +kernel
theorem d22_33 : decode method_7_code 33 = .ok (.iload_n 2, 1) := by decide +kernel
theorem d22_34 : decode method_7_code 34 = .ok (.iconst 2, 1) := by decide +kernel
theorem d22_35 : decode method_7_code 35 = .ok (.if_icmp .lt 16, 3) := by decide +kernel
theorem d22_51 : decode method_7_code 51 = .ok (.iload_n 2, 1) := by decide +kernel
theorem d22_52 : decode method_7_code 52 = .ok (.iconst 3, 1) := by decide +kernel
theorem d22_53 : decode method_7_code 53 = .ok (.if_icmp .lt 16, 3) := by decide +kernel
theorem d22_69 : decode method_7_code 69 = .ok (.iconst 1, 1) := by decide +kernel
theorem d22_70 : decode method_7_code 70 = .ok (.ireturn, 1) := by decide +kernel
theorem d22_56 : decode method_7_code 56 = .ok (.iload_n 0, 1) := by decide +kernel
theorem d22_57 : decode method_7_code 57 = .ok (.invokestatic 29, 3) := by decide +kernel
theorem d22_60 : decode method_7_code 60 = .ok (.iload_n 1, 1) := by decide +kernel
theorem d22_61 : decode method_7_code 61 = .ok (.invokestatic 29, 3) := by decide +kernel
theorem d22_64 : decode method_7_code 64 = .ok (.if_icmp .eq 5, 3) := by decide +kernel
theorem d22_67 : decode method_7_code 67 = .ok (.iconst 0, 1) := by decide +kernel
theorem d22_68 : decode method_7_code 68 = .ok (.ireturn, 1) := by decide +kernel
theorem d22_38 : decode method_7_code 38 = .ok (.iload_n 0, 1) := by decide +kernel
theorem d22_39 : decode method_7_code 39 = .ok (.invokestatic 26, 3) := by decide +kernel
theorem d22_42 : decode method_7_code 42 = .ok (.iload_n 1, 1) := by decide +kernel
theorem d22_43 : decode method_7_code 43 = .ok (.invokestatic 26, 3) := by decide +kernel
theorem d22_46 : decode method_7_code 46 = .ok (.if_icmp .eq 5, 3) := by decide +kernel
theorem d22_49 : decode method_7_code 49 = .ok (.iconst 0, 1) := by decide +kernel
theorem d22_50 : decode method_7_code 50 = .ok (.ireturn, 1) := by decide +kernel
theorem d22_20 : decode method_7_code 20 = .ok (.iload_n 0, 1) := by decide +kernel
theorem d22_21 : decode method_7_code 21 = .ok (.invokestatic 18, 3) := by decide +kernel
theorem d22_24 : decode method_7_code 24 = .ok (.iload_n 1, 1) := by decide +kernel
theorem d22_25 : decode method_7_code 25 = .ok (.invokestatic 18, 3) := by decide +kernel
theorem d22_28 : decode method_7_code 28 = .ok (.if_icmp .eq 5, 3) := by decide +kernel
theorem d22_31 : decode method_7_code 31 = .ok (.iconst 0, 1) := by decide +kernel
theorem d22_32 : decode method_7_code 32 = .ok (.ireturn, 1) := by decide +kernel
theorem d22_13 : decode method_7_code 13 = .ok (.iconst 0, 1) := by decide +kernel
theorem d22_14 : decode method_7_code 14 = .ok (.ireturn, 1) := by decide +kernel
theorem ef_rm_same (m : MethodId) (a : Int32) (b : Int32)  : entryFrame m #[(.int a), (.int b)] 3 = mkF m 0 #[.val (.int a), .val (.int b), .unset] [] := by first | (simp [entryFrame, mkF, argsToLocals, Value.category]; done) | rfl
def Q_rm_same (Z : State) (a : Int32) (b : Int32)  (h0 : Heap) (n0 : Nat) (v : Option Value) (h : Heap) (L : List Loc) : Prop := v = some (.int (own_same a b)) ∧ Fr n0 L ∧ h = h0
theorem pn_11_ : plainName "com/example/revlint/revlint/model/PrimitiveEqualsPinLaw" = true := by first | (simp [plainName, overriddenIn]; done) | decide +kernel
theorem pn_11 : plainFor (⟨"com/example/revlint/revlint/model/PrimitiveEqualsPinLaw", "same", "(II)Z"⟩ : MethodName) = true := plainFor_of_name pn_11_
set_option maxRecDepth 65536 in
set_option maxHeartbeats 40000000 in
theorem rm_same (l : Launch) (Z : State) (a0 : Array Value) (hw : ∀ d ∈ tables_1, d.before a0 Z = true) (ws : List Jvm.Cond) (a : Int32) (b : Int32)  (h0 : Heap) (n0 : Nat) (O0 : Old Z n0 h0)  :
    MetFree l (⟨"com/example/revlint/revlint/model/PrimitiveEqualsPinLaw", "same", "(II)Z"⟩ : MethodName) (head1 (Jvm.Cond.code (⟨"com/example/revlint/revlint/model/PrimitiveEqualsPinLaw", "same", "(II)Z"⟩ : MethodName) method_7_code 3 (some .boolean) :: ws) ({ frames := 1, cells := 0, slots := 0, locals := 13 } : Room)) (fun args_ U => args_ = #[(.int a), (.int b)] ∧ Z.Warmed39 U.vm ∧ U.heap = h0) (fun _ _ _ _ _ => True) (fun _ U out_ U' => ∃ val_ loc_, out_ = .returned val_ ∧ (Q_rm_same Z a b h0 n0) val_ U'.heap loc_ ∧ FrameEnd U out_ U' loc_ ({ frames := 1, cells := 0, slots := 0, locals := 13 } : Room).cells ({ frames := 1, cells := 0, slots := 0, locals := 13 } : Room).slots) := by
  refine start (Q := (Q_rm_same Z a b h0 n0)) pn_11 ?_
  intro p e s m below meth c T0 X0 hx hby hml hown hnm hret hlk hZ e0
  replace hown : s.vm.findClass "com/example/revlint/revlint/model/PrimitiveEqualsPinLaw" = some m.cls := hown
  replace hml : c.maxLocals = 3 := hml
  refine goAt (ef_rm_same m a b ) ?_
  have N0 := Fr.nil n0
  show Go p e below T0 (mkF m 0 #[.val (.int a), .val (.int b), .unset] []) _
  refine stp (fun _ => XS.iloadN X0.here hx rfl (hb hby d22_0) rfl) ?_
  show Go p e below T0 (mkF m 1 #[.val (.int a), .val (.int b), .unset] [(.int a)]) _
  obtain ⟨_, _, ⟨T1, L1, k1, n1⟩, -, X1, ⟨Lc1, hQ1, l1, y1, z1⟩, st1⟩ := Jvm.LawKit.callS X0 hx (y := (⟨"com/example/revlint/revlint/model/PrimitiveEqualsPinLaw", "len", "(I)I"⟩ : MethodName)) hown (mvT hZ (hw _ (List.mem_of_getElem? (i := 4) rfl))) (mvT hZ (hw _ (List.mem_of_getElem? (i := 5) rfl))) (mvT hZ (hw _ (List.mem_of_getElem? (i := 2) rfl))) (mvT hZ (hw _ (List.mem_of_getElem? (i := 6) rfl))) (by decide) (backOf (W := 0) (rm_len l Z a0 hw [] a  h0 n0 O0 ) hZ (hw _ (List.mem_of_getElem? (i := 6) rfl)) (hw _ (List.mem_of_getElem? (i := 2) rfl)) (by decide) (by decide)) (g := (mkF m 1 #[.val (.int a), .val (.int b), .unset] [(.int a)])) rfl (by rw [hml]; rfl) (argsL := [(.int a)]) (rest := []) (lenOf pd_4 rfl) rfl (by show 2 * 0 + _ ≤ _; exact Nat.le_of_eq rfl) (hb hby d22_1) (fun _ _ => ⟨rfl, e0, (by decide : 0 + 0 ≤ _), (by decide : 0 + 0 ≤ _)⟩)
  dsimp only [Pt.U, Pt.locs, Pt.cells, Pt.slots] at X1 l1 y1 z1 st1 hQ1
  subst y1 z1
  obtain ⟨rfl, N1q, e1⟩ := hQ1
  have N1 : Fr n0 L1 := by rw [l1]; exact Fr.app N0 N1q
  refine stp st1 ?_
  show Go p e below T1 (mkF m 4 #[.val (.int a), .val (.int b), .unset] [(.int (own_len a))]) _
  refine stp (fun _ => XS.istoreN X1.here hx rfl (hb hby d22_4) rfl (l' := #[.val (.int a), .val (.int b), .val (.int (own_len a))]) rfl) ?_
  show Go p e below T1 (mkF m 5 #[.val (.int a), .val (.int b), .val (.int (own_len a))] []) _
  refine stp (fun _ => XS.iloadN X1.here hx rfl (hb hby d22_5) rfl) ?_
  show Go p e below T1 (mkF m 6 #[.val (.int a), .val (.int b), .val (.int (own_len a))] [(.int (own_len a))]) _
  refine stp (fun _ => XS.iloadN X1.here hx rfl (hb hby d22_6) rfl) ?_
  show Go p e below T1 (mkF m 7 #[.val (.int a), .val (.int b), .val (.int (own_len a))] [(.int b), (.int (own_len a))]) _
  obtain ⟨_, _, ⟨T2, L2, k2, n2⟩, -, X2, ⟨Lc2, hQ2, l2, y2, z2⟩, st2⟩ := Jvm.LawKit.callS X1 hx (y := (⟨"com/example/revlint/revlint/model/PrimitiveEqualsPinLaw", "len", "(I)I"⟩ : MethodName)) hown (mvT hZ (hw _ (List.mem_of_getElem? (i := 4) rfl))) (mvT hZ (hw _ (List.mem_of_getElem? (i := 5) rfl))) (mvT hZ (hw _ (List.mem_of_getElem? (i := 2) rfl))) (mvT hZ (hw _ (List.mem_of_getElem? (i := 6) rfl))) (by decide) (backOf (W := 1) (rm_len l Z a0 hw [] b  h0 n0 O0 ) hZ (hw _ (List.mem_of_getElem? (i := 6) rfl)) (hw _ (List.mem_of_getElem? (i := 2) rfl)) (by decide) (by decide)) (g := (mkF m 7 #[.val (.int a), .val (.int b), .val (.int (own_len a))] [(.int b), (.int (own_len a))])) rfl (by rw [hml]; rfl) (argsL := [(.int b)]) (rest := [(.int (own_len a))]) (lenOf pd_4 rfl) rfl (by show 2 * 0 + _ ≤ _; exact Nat.le_of_eq rfl) (hb hby d22_7) (fun _ _ => ⟨rfl, e1, (by decide : 0 + 0 ≤ _), (by decide : 0 + 0 ≤ _)⟩)
  dsimp only [Pt.U, Pt.locs, Pt.cells, Pt.slots] at X2 l2 y2 z2 st2 hQ2
  subst y2 z2
  obtain ⟨rfl, N2q, e2⟩ := hQ2
  have N2 : Fr n0 L2 := by rw [l2]; exact Fr.app N1 N2q
  refine stp st2 ?_
  show Go p e below T2 (mkF m 10 #[.val (.int a), .val (.int b), .val (.int (own_len a))] [(.int (own_len b)), (.int (own_len a))]) _
  by_cases q10_3 : (own_len a) = (own_len b)
  · refine stp (fun _ => XS.icmpYes X2.here hx rfl (pc0 := 10) (pc' := 15) rfl (hb hby d22_10) rfl (XT.ii_eq_t q10_3) (by decide) (by decide)) ?_
    show Go p e below T2 (mkF m 15 #[.val (.int a), .val (.int b), .val (.int (own_len a))] []) _
    refine stp (fun _ => XS.iloadN X2.here hx rfl (hb hby d22_15) rfl) ?_
    show Go p e below T2 (mkF m 16 #[.val (.int a), .val (.int b), .val (.int (own_len a))] [(.int (own_len a))]) _
    refine stp (fun _ => XS.iconst X2.here hx rfl (hb hby d22_16)) ?_
    show Go p e below T2 (mkF m 17 #[.val (.int a), .val (.int b), .val (.int (own_len a))] [(.int (1 : Int32)), (.int (own_len a))]) _
    by_cases q17_4 : (own_len a) < (1 : Int32)
    · refine stp (fun _ => XS.icmpYes X2.here hx rfl (pc0 := 17) (pc' := 33) rfl (hb hby d22_17) rfl (XT.ii_lt_t q17_4) (by decide) (by decide)) ?_
      show Go p e below T2 (mkF m 33 #[.val (.int a), .val (.int b), .val (.int (own_len a))] []) _
      refine stp (fun _ => XS.iloadN X2.here hx rfl (hb hby d22_33) rfl) ?_
      show Go p e below T2 (mkF m 34 #[.val (.int a), .val (.int b), .val (.int (own_len a))] [(.int (own_len a))]) _
      refine stp (fun _ => XS.iconst X2.here hx rfl (hb hby d22_34)) ?_
      show Go p e below T2 (mkF m 35 #[.val (.int a), .val (.int b), .val (.int (own_len a))] [(.int (2 : Int32)), (.int (own_len a))]) _
      by_cases q35_5 : (own_len a) < (2 : Int32)
      · refine stp (fun _ => XS.icmpYes X2.here hx rfl (pc0 := 35) (pc' := 51) rfl (hb hby d22_35) rfl (XT.ii_lt_t q35_5) (by decide) (by decide)) ?_
        show Go p e below T2 (mkF m 51 #[.val (.int a), .val (.int b), .val (.int (own_len a))] []) _
        refine stp (fun _ => XS.iloadN X2.here hx rfl (hb hby d22_51) rfl) ?_
        show Go p e below T2 (mkF m 52 #[.val (.int a), .val (.int b), .val (.int (own_len a))] [(.int (own_len a))]) _
        refine stp (fun _ => XS.iconst X2.here hx rfl (hb hby d22_52)) ?_
        show Go p e below T2 (mkF m 53 #[.val (.int a), .val (.int b), .val (.int (own_len a))] [(.int (3 : Int32)), (.int (own_len a))]) _
        by_cases q53_6 : (own_len a) < (3 : Int32)
        · refine stp (fun _ => XS.icmpYes X2.here hx rfl (pc0 := 53) (pc' := 69) rfl (hb hby d22_53) rfl (XT.ii_lt_t q53_6) (by decide) (by decide)) ?_
          show Go p e below T2 (mkF m 69 #[.val (.int a), .val (.int b), .val (.int (own_len a))] []) _
          refine stp (fun _ => XS.iconst X2.here hx rfl (hb hby d22_69)) ?_
          show Go p e below T2 (mkF m 70 #[.val (.int a), .val (.int b), .val (.int (own_len a))] [(.int (1 : Int32))]) _
          refine outN X2 hx (t := .boolean) hret (by simp) (hb hby d22_70) hlk (by decide) (by decide) ?_
          exact ⟨by simp only [own_same, own_same1, own_same2, own_same3, if_pos q10_3, if_pos q17_4, if_pos q35_5, if_pos q53_6] <;> rfl, N2, e2⟩
        · refine stp (fun _ => XS.icmpNo X2.here hx rfl (hb hby d22_53) rfl (XT.ii_lt_f q53_6)) ?_
          show Go p e below T2 (mkF m 56 #[.val (.int a), .val (.int b), .val (.int (own_len a))] []) _
          refine stp (fun _ => XS.iloadN X2.here hx rfl (hb hby d22_56) rfl) ?_
          show Go p e below T2 (mkF m 57 #[.val (.int a), .val (.int b), .val (.int (own_len a))] [(.int a)]) _
          obtain ⟨_, _, ⟨T7, L7, k7, n7⟩, -, X7, ⟨Lc7, hQ7, l7, y7, z7⟩, st7⟩ := Jvm.LawKit.callS X2 hx (y := (⟨"com/example/revlint/revlint/model/PrimitiveEqualsPinLaw", "c2", "(I)C"⟩ : MethodName)) hown (mvT hZ (hw _ (List.mem_of_getElem? (i := 80) rfl))) (mvT hZ (hw _ (List.mem_of_getElem? (i := 81) rfl))) (mvT hZ (hw _ (List.mem_of_getElem? (i := 2) rfl))) (mvT hZ (hw _ (List.mem_of_getElem? (i := 82) rfl))) (by decide) (backOf (W := 0) (rm_c2 l Z a0 hw [] a  h0 n0 O0 ) hZ (hw _ (List.mem_of_getElem? (i := 82) rfl)) (hw _ (List.mem_of_getElem? (i := 2) rfl)) (by decide) (by decide)) (g := (mkF m 57 #[.val (.int a), .val (.int b), .val (.int (own_len a))] [(.int a)])) rfl (by rw [hml]; rfl) (argsL := [(.int a)]) (rest := []) (lenOf pd_6 rfl) rfl (by show 2 * 0 + _ ≤ _; exact Nat.le_of_eq rfl) (hb hby d22_57) (fun _ _ => ⟨rfl, e2, (by decide : 0 + 0 ≤ _), (by decide : 0 + 0 ≤ _)⟩)
          dsimp only [Pt.U, Pt.locs, Pt.cells, Pt.slots] at X7 l7 y7 z7 st7 hQ7
          subst y7 z7
          obtain ⟨rfl, N7q, e7⟩ := hQ7
          have N7 : Fr n0 L7 := by rw [l7]; exact Fr.app N2 N7q
          refine stp st7 ?_
          show Go p e below T7 (mkF m 60 #[.val (.int a), .val (.int b), .val (.int (own_len a))] [(.int (own_c2 a))]) _
          refine stp (fun _ => XS.iloadN X7.here hx rfl (hb hby d22_60) rfl) ?_
          show Go p e below T7 (mkF m 61 #[.val (.int a), .val (.int b), .val (.int (own_len a))] [(.int b), (.int (own_c2 a))]) _
          obtain ⟨_, _, ⟨T8, L8, k8, n8⟩, -, X8, ⟨Lc8, hQ8, l8, y8, z8⟩, st8⟩ := Jvm.LawKit.callS X7 hx (y := (⟨"com/example/revlint/revlint/model/PrimitiveEqualsPinLaw", "c2", "(I)C"⟩ : MethodName)) hown (mvT hZ (hw _ (List.mem_of_getElem? (i := 80) rfl))) (mvT hZ (hw _ (List.mem_of_getElem? (i := 81) rfl))) (mvT hZ (hw _ (List.mem_of_getElem? (i := 2) rfl))) (mvT hZ (hw _ (List.mem_of_getElem? (i := 82) rfl))) (by decide) (backOf (W := 1) (rm_c2 l Z a0 hw [] b  h0 n0 O0 ) hZ (hw _ (List.mem_of_getElem? (i := 82) rfl)) (hw _ (List.mem_of_getElem? (i := 2) rfl)) (by decide) (by decide)) (g := (mkF m 61 #[.val (.int a), .val (.int b), .val (.int (own_len a))] [(.int b), (.int (own_c2 a))])) rfl (by rw [hml]; rfl) (argsL := [(.int b)]) (rest := [(.int (own_c2 a))]) (lenOf pd_6 rfl) rfl (by show 2 * 0 + _ ≤ _; exact Nat.le_of_eq rfl) (hb hby d22_61) (fun _ _ => ⟨rfl, e7, (by decide : 0 + 0 ≤ _), (by decide : 0 + 0 ≤ _)⟩)
          dsimp only [Pt.U, Pt.locs, Pt.cells, Pt.slots] at X8 l8 y8 z8 st8 hQ8
          subst y8 z8
          obtain ⟨rfl, N8q, e8⟩ := hQ8
          have N8 : Fr n0 L8 := by rw [l8]; exact Fr.app N7 N8q
          refine stp st8 ?_
          show Go p e below T8 (mkF m 64 #[.val (.int a), .val (.int b), .val (.int (own_len a))] [(.int (own_c2 b)), (.int (own_c2 a))]) _
          by_cases q64_9 : (own_c2 a) = (own_c2 b)
          · refine stp (fun _ => XS.icmpYes X8.here hx rfl (pc0 := 64) (pc' := 69) rfl (hb hby d22_64) rfl (XT.ii_eq_t q64_9) (by decide) (by decide)) ?_
            show Go p e below T8 (mkF m 69 #[.val (.int a), .val (.int b), .val (.int (own_len a))] []) _
            refine stp (fun _ => XS.iconst X8.here hx rfl (hb hby d22_69)) ?_
            show Go p e below T8 (mkF m 70 #[.val (.int a), .val (.int b), .val (.int (own_len a))] [(.int (1 : Int32))]) _
            refine outN X8 hx (t := .boolean) hret (by simp) (hb hby d22_70) hlk (by decide) (by decide) ?_
            exact ⟨by simp only [own_same, own_same1, own_same2, own_same3, if_pos q10_3, if_pos q17_4, if_pos q35_5, if_neg q53_6, if_pos q64_9] <;> rfl, N8, e8⟩
          · refine stp (fun _ => XS.icmpNo X8.here hx rfl (hb hby d22_64) rfl (XT.ii_eq_f q64_9)) ?_
            show Go p e below T8 (mkF m 67 #[.val (.int a), .val (.int b), .val (.int (own_len a))] []) _
            refine stp (fun _ => XS.iconst X8.here hx rfl (hb hby d22_67)) ?_
            show Go p e below T8 (mkF m 68 #[.val (.int a), .val (.int b), .val (.int (own_len a))] [(.int (0 : Int32))]) _
            refine outN X8 hx (t := .boolean) hret (by simp) (hb hby d22_68) hlk (by decide) (by decide) ?_
            exact ⟨by simp only [own_same, own_same1, own_same2, own_same3, if_pos q10_3, if_pos q17_4, if_pos q35_5, if_neg q53_6, if_neg q64_9] <;> rfl, N8, e8⟩
      · refine stp (fun _ => XS.icmpNo X2.here hx rfl (hb hby d22_35) rfl (XT.ii_lt_f q35_5)) ?_
        show Go p e below T2 (mkF m 38 #[.val (.int a), .val (.int b), .val (.int (own_len a))] []) _
        refine stp (fun _ => XS.iloadN X2.here hx rfl (hb hby d22_38) rfl) ?_
        show Go p e below T2 (mkF m 39 #[.val (.int a), .val (.int b), .val (.int (own_len a))] [(.int a)]) _
        obtain ⟨_, _, ⟨T10, L10, k10, n10⟩, -, X10, ⟨Lc10, hQ10, l10, y10, z10⟩, st10⟩ := Jvm.LawKit.callS X2 hx (y := (⟨"com/example/revlint/revlint/model/PrimitiveEqualsPinLaw", "c1", "(I)C"⟩ : MethodName)) hown (mvT hZ (hw _ (List.mem_of_getElem? (i := 66) rfl))) (mvT hZ (hw _ (List.mem_of_getElem? (i := 67) rfl))) (mvT hZ (hw _ (List.mem_of_getElem? (i := 2) rfl))) (mvT hZ (hw _ (List.mem_of_getElem? (i := 68) rfl))) (by decide) (backOf (W := 0) (rm_c1 l Z a0 hw [] a  h0 n0 O0 ) hZ (hw _ (List.mem_of_getElem? (i := 68) rfl)) (hw _ (List.mem_of_getElem? (i := 2) rfl)) (by decide) (by decide)) (g := (mkF m 39 #[.val (.int a), .val (.int b), .val (.int (own_len a))] [(.int a)])) rfl (by rw [hml]; rfl) (argsL := [(.int a)]) (rest := []) (lenOf pd_6 rfl) rfl (by show 2 * 0 + _ ≤ _; exact Nat.le_of_eq rfl) (hb hby d22_39) (fun _ _ => ⟨rfl, e2, (by decide : 0 + 0 ≤ _), (by decide : 0 + 0 ≤ _)⟩)
        dsimp only [Pt.U, Pt.locs, Pt.cells, Pt.slots] at X10 l10 y10 z10 st10 hQ10
        subst y10 z10
        obtain ⟨rfl, N10q, e10⟩ := hQ10
        have N10 : Fr n0 L10 := by rw [l10]; exact Fr.app N2 N10q
        refine stp st10 ?_
        show Go p e below T10 (mkF m 42 #[.val (.int a), .val (.int b), .val (.int (own_len a))] [(.int (own_c1 a))]) _
        refine stp (fun _ => XS.iloadN X10.here hx rfl (hb hby d22_42) rfl) ?_
        show Go p e below T10 (mkF m 43 #[.val (.int a), .val (.int b), .val (.int (own_len a))] [(.int b), (.int (own_c1 a))]) _
        obtain ⟨_, _, ⟨T11, L11, k11, n11⟩, -, X11, ⟨Lc11, hQ11, l11, y11, z11⟩, st11⟩ := Jvm.LawKit.callS X10 hx (y := (⟨"com/example/revlint/revlint/model/PrimitiveEqualsPinLaw", "c1", "(I)C"⟩ : MethodName)) hown (mvT hZ (hw _ (List.mem_of_getElem? (i := 66) rfl))) (mvT hZ (hw _ (List.mem_of_getElem? (i := 67) rfl))) (mvT hZ (hw _ (List.mem_of_getElem? (i := 2) rfl))) (mvT hZ (hw _ (List.mem_of_getElem? (i := 68) rfl))) (by decide) (backOf (W := 1) (rm_c1 l Z a0 hw [] b  h0 n0 O0 ) hZ (hw _ (List.mem_of_getElem? (i := 68) rfl)) (hw _ (List.mem_of_getElem? (i := 2) rfl)) (by decide) (by decide)) (g := (mkF m 43 #[.val (.int a), .val (.int b), .val (.int (own_len a))] [(.int b), (.int (own_c1 a))])) rfl (by rw [hml]; rfl) (argsL := [(.int b)]) (rest := [(.int (own_c1 a))]) (lenOf pd_6 rfl) rfl (by show 2 * 0 + _ ≤ _; exact Nat.le_of_eq rfl) (hb hby d22_43) (fun _ _ => ⟨rfl, e10, (by decide : 0 + 0 ≤ _), (by decide : 0 + 0 ≤ _)⟩)
        dsimp only [Pt.U, Pt.locs, Pt.cells, Pt.slots] at X11 l11 y11 z11 st11 hQ11
        subst y11 z11
        obtain ⟨rfl, N11q, e11⟩ := hQ11
        have N11 : Fr n0 L11 := by rw [l11]; exact Fr.app N10 N11q
        refine stp st11 ?_
        show Go p e below T11 (mkF m 46 #[.val (.int a), .val (.int b), .val (.int (own_len a))] [(.int (own_c1 b)), (.int (own_c1 a))]) _
        by_cases q46_12 : (own_c1 a) = (own_c1 b)
        · refine stp (fun _ => XS.icmpYes X11.here hx rfl (pc0 := 46) (pc' := 51) rfl (hb hby d22_46) rfl (XT.ii_eq_t q46_12) (by decide) (by decide)) ?_
          show Go p e below T11 (mkF m 51 #[.val (.int a), .val (.int b), .val (.int (own_len a))] []) _
          refine stp (fun _ => XS.iloadN X11.here hx rfl (hb hby d22_51) rfl) ?_
          show Go p e below T11 (mkF m 52 #[.val (.int a), .val (.int b), .val (.int (own_len a))] [(.int (own_len a))]) _
          refine stp (fun _ => XS.iconst X11.here hx rfl (hb hby d22_52)) ?_
          show Go p e below T11 (mkF m 53 #[.val (.int a), .val (.int b), .val (.int (own_len a))] [(.int (3 : Int32)), (.int (own_len a))]) _
          by_cases q53_13 : (own_len a) < (3 : Int32)
          · refine stp (fun _ => XS.icmpYes X11.here hx rfl (pc0 := 53) (pc' := 69) rfl (hb hby d22_53) rfl (XT.ii_lt_t q53_13) (by decide) (by decide)) ?_
            show Go p e below T11 (mkF m 69 #[.val (.int a), .val (.int b), .val (.int (own_len a))] []) _
            refine stp (fun _ => XS.iconst X11.here hx rfl (hb hby d22_69)) ?_
            show Go p e below T11 (mkF m 70 #[.val (.int a), .val (.int b), .val (.int (own_len a))] [(.int (1 : Int32))]) _
            refine outN X11 hx (t := .boolean) hret (by simp) (hb hby d22_70) hlk (by decide) (by decide) ?_
            exact ⟨by simp only [own_same, own_same1, own_same2, own_same3, if_pos q10_3, if_pos q17_4, if_neg q35_5, if_pos q46_12, if_pos q53_13] <;> rfl, N11, e11⟩
          · refine stp (fun _ => XS.icmpNo X11.here hx rfl (hb hby d22_53) rfl (XT.ii_lt_f q53_13)) ?_
            show Go p e below T11 (mkF m 56 #[.val (.int a), .val (.int b), .val (.int (own_len a))] []) _
            refine stp (fun _ => XS.iloadN X11.here hx rfl (hb hby d22_56) rfl) ?_
            show Go p e below T11 (mkF m 57 #[.val (.int a), .val (.int b), .val (.int (own_len a))] [(.int a)]) _
            obtain ⟨_, _, ⟨T14, L14, k14, n14⟩, -, X14, ⟨Lc14, hQ14, l14, y14, z14⟩, st14⟩ := Jvm.LawKit.callS X11 hx (y := (⟨"com/example/revlint/revlint/model/PrimitiveEqualsPinLaw", "c2", "(I)C"⟩ : MethodName)) hown (mvT hZ (hw _ (List.mem_of_getElem? (i := 80) rfl))) (mvT hZ (hw _ (List.mem_of_getElem? (i := 81) rfl))) (mvT hZ (hw _ (List.mem_of_getElem? (i := 2) rfl))) (mvT hZ (hw _ (List.mem_of_getElem? (i := 82) rfl))) (by decide) (backOf (W := 0) (rm_c2 l Z a0 hw [] a  h0 n0 O0 ) hZ (hw _ (List.mem_of_getElem? (i := 82) rfl)) (hw _ (List.mem_of_getElem? (i := 2) rfl)) (by decide) (by decide)) (g := (mkF m 57 #[.val (.int a), .val (.int b), .val (.int (own_len a))] [(.int a)])) rfl (by rw [hml]; rfl) (argsL := [(.int a)]) (rest := []) (lenOf pd_6 rfl) rfl (by show 2 * 0 + _ ≤ _; exact Nat.le_of_eq rfl) (hb hby d22_57) (fun _ _ => ⟨rfl, e11, (by decide : 0 + 0 ≤ _), (by decide : 0 + 0 ≤ _)⟩)
            dsimp only [Pt.U, Pt.locs, Pt.cells, Pt.slots] at X14 l14 y14 z14 st14 hQ14
            subst y14 z14
            obtain ⟨rfl, N14q, e14⟩ := hQ14
            have N14 : Fr n0 L14 := by rw [l14]; exact Fr.app N11 N14q
            refine stp st14 ?_
            show Go p e below T14 (mkF m 60 #[.val (.int a), .val (.int b), .val (.int (own_len a))] [(.int (own_c2 a))]) _
            refine stp (fun _ => XS.iloadN X14.here hx rfl (hb hby d22_60) rfl) ?_
            show Go p e below T14 (mkF m 61 #[.val (.int a), .val (.int b), .val (.int (own_len a))] [(.int b), (.int (own_c2 a))]) _
            obtain ⟨_, _, ⟨T15, L15, k15, n15⟩, -, X15, ⟨Lc15, hQ15, l15, y15, z15⟩, st15⟩ := Jvm.LawKit.callS X14 hx (y := (⟨"com/example/revlint/revlint/model/PrimitiveEqualsPinLaw", "c2", "(I)C"⟩ : MethodName)) hown (mvT hZ (hw _ (List.mem_of_getElem? (i := 80) rfl))) (mvT hZ (hw _ (List.mem_of_getElem? (i := 81) rfl))) (mvT hZ (hw _ (List.mem_of_getElem? (i := 2) rfl))) (mvT hZ (hw _ (List.mem_of_getElem? (i := 82) rfl))) (by decide) (backOf (W := 1) (rm_c2 l Z a0 hw [] b  h0 n0 O0 ) hZ (hw _ (List.mem_of_getElem? (i := 82) rfl)) (hw _ (List.mem_of_getElem? (i := 2) rfl)) (by decide) (by decide)) (g := (mkF m 61 #[.val (.int a), .val (.int b), .val (.int (own_len a))] [(.int b), (.int (own_c2 a))])) rfl (by rw [hml]; rfl) (argsL := [(.int b)]) (rest := [(.int (own_c2 a))]) (lenOf pd_6 rfl) rfl (by show 2 * 0 + _ ≤ _; exact Nat.le_of_eq rfl) (hb hby d22_61) (fun _ _ => ⟨rfl, e14, (by decide : 0 + 0 ≤ _), (by decide : 0 + 0 ≤ _)⟩)
            dsimp only [Pt.U, Pt.locs, Pt.cells, Pt.slots] at X15 l15 y15 z15 st15 hQ15
            subst y15 z15
            obtain ⟨rfl, N15q, e15⟩ := hQ15
            have N15 : Fr n0 L15 := by rw [l15]; exact Fr.app N14 N15q
            refine stp st15 ?_
            show Go p e below T15 (mkF m 64 #[.val (.int a), .val (.int b), .val (.int (own_len a))] [(.int (own_c2 b)), (.int (own_c2 a))]) _
            by_cases q64_16 : (own_c2 a) = (own_c2 b)
            · refine stp (fun _ => XS.icmpYes X15.here hx rfl (pc0 := 64) (pc' := 69) rfl (hb hby d22_64) rfl (XT.ii_eq_t q64_16) (by decide) (by decide)) ?_
              show Go p e below T15 (mkF m 69 #[.val (.int a), .val (.int b), .val (.int (own_len a))] []) _
              refine stp (fun _ => XS.iconst X15.here hx rfl (hb hby d22_69)) ?_
              show Go p e below T15 (mkF m 70 #[.val (.int a), .val (.int b), .val (.int (own_len a))] [(.int (1 : Int32))]) _
              refine outN X15 hx (t := .boolean) hret (by simp) (hb hby d22_70) hlk (by decide) (by decide) ?_
              exact ⟨by simp only [own_same, own_same1, own_same2, own_same3, if_pos q10_3, if_pos q17_4, if_neg q35_5, if_pos q46_12, if_neg q53_13, if_pos q64_16] <;> rfl, N15, e15⟩
            · refine stp (fun _ => XS.icmpNo X15.here hx rfl (hb hby d22_64) rfl (XT.ii_eq_f q64_16)) ?_
              show Go p e below T15 (mkF m 67 #[.val (.int a), .val (.int b), .val (.int (own_len a))] []) _
              refine stp (fun _ => XS.iconst X15.here hx rfl (hb hby d22_67)) ?_
              show Go p e below T15 (mkF m 68 #[.val (.int a), .val (.int b), .val (.int (own_len a))] [(.int (0 : Int32))]) _
              refine outN X15 hx (t := .boolean) hret (by simp) (hb hby d22_68) hlk (by decide) (by decide) ?_
              exact ⟨by simp only [own_same, own_same1, own_same2, own_same3, if_pos q10_3, if_pos q17_4, if_neg q35_5, if_pos q46_12, if_neg q53_13, if_neg q64_16] <;> rfl, N15, e15⟩
        · refine stp (fun _ => XS.icmpNo X11.here hx rfl (hb hby d22_46) rfl (XT.ii_eq_f q46_12)) ?_
          show Go p e below T11 (mkF m 49 #[.val (.int a), .val (.int b), .val (.int (own_len a))] []) _
          refine stp (fun _ => XS.iconst X11.here hx rfl (hb hby d22_49)) ?_
          show Go p e below T11 (mkF m 50 #[.val (.int a), .val (.int b), .val (.int (own_len a))] [(.int (0 : Int32))]) _
          refine outN X11 hx (t := .boolean) hret (by simp) (hb hby d22_50) hlk (by decide) (by decide) ?_
          exact ⟨by simp only [own_same, own_same1, own_same2, own_same3, if_pos q10_3, if_pos q17_4, if_neg q35_5, if_neg q46_12] <;> rfl, N11, e11⟩
    · refine stp (fun _ => XS.icmpNo X2.here hx rfl (hb hby d22_17) rfl (XT.ii_lt_f q17_4)) ?_
      show Go p e below T2 (mkF m 20 #[.val (.int a), .val (.int b), .val (.int (own_len a))] []) _
      refine stp (fun _ => XS.iloadN X2.here hx rfl (hb hby d22_20) rfl) ?_
      show Go p e below T2 (mkF m 21 #[.val (.int a), .val (.int b), .val (.int (own_len a))] [(.int a)]) _
      obtain ⟨_, _, ⟨T17, L17, k17, n17⟩, -, X17, ⟨Lc17, hQ17, l17, y17, z17⟩, st17⟩ := Jvm.LawKit.callS X2 hx (y := (⟨"com/example/revlint/revlint/model/PrimitiveEqualsPinLaw", "c0", "(I)C"⟩ : MethodName)) hown (mvT hZ (hw _ (List.mem_of_getElem? (i := 63) rfl))) (mvT hZ (hw _ (List.mem_of_getElem? (i := 64) rfl))) (mvT hZ (hw _ (List.mem_of_getElem? (i := 2) rfl))) (mvT hZ (hw _ (List.mem_of_getElem? (i := 65) rfl))) (by decide) (backOf (W := 0) (rm_c0 l Z a0 hw [] a  h0 n0 O0 ) hZ (hw _ (List.mem_of_getElem? (i := 65) rfl)) (hw _ (List.mem_of_getElem? (i := 2) rfl)) (by decide) (by decide)) (g := (mkF m 21 #[.val (.int a), .val (.int b), .val (.int (own_len a))] [(.int a)])) rfl (by rw [hml]; rfl) (argsL := [(.int a)]) (rest := []) (lenOf pd_6 rfl) rfl (by show 2 * 0 + _ ≤ _; exact Nat.le_of_eq rfl) (hb hby d22_21) (fun _ _ => ⟨rfl, e2, (by decide : 0 + 0 ≤ _), (by decide : 0 + 0 ≤ _)⟩)
      dsimp only [Pt.U, Pt.locs, Pt.cells, Pt.slots] at X17 l17 y17 z17 st17 hQ17
      subst y17 z17
      obtain ⟨rfl, N17q, e17⟩ := hQ17
      have N17 : Fr n0 L17 := by rw [l17]; exact Fr.app N2 N17q
      refine stp st17 ?_
      show Go p e below T17 (mkF m 24 #[.val (.int a), .val (.int b), .val (.int (own_len a))] [(.int (own_c0 a))]) _
      refine stp (fun _ => XS.iloadN X17.here hx rfl (hb hby d22_24) rfl) ?_
      show Go p e below T17 (mkF m 25 #[.val (.int a), .val (.int b), .val (.int (own_len a))] [(.int b), (.int (own_c0 a))]) _
      obtain ⟨_, _, ⟨T18, L18, k18, n18⟩, -, X18, ⟨Lc18, hQ18, l18, y18, z18⟩, st18⟩ := Jvm.LawKit.callS X17 hx (y := (⟨"com/example/revlint/revlint/model/PrimitiveEqualsPinLaw", "c0", "(I)C"⟩ : MethodName)) hown (mvT hZ (hw _ (List.mem_of_getElem? (i := 63) rfl))) (mvT hZ (hw _ (List.mem_of_getElem? (i := 64) rfl))) (mvT hZ (hw _ (List.mem_of_getElem? (i := 2) rfl))) (mvT hZ (hw _ (List.mem_of_getElem? (i := 65) rfl))) (by decide) (backOf (W := 1) (rm_c0 l Z a0 hw [] b  h0 n0 O0 ) hZ (hw _ (List.mem_of_getElem? (i := 65) rfl)) (hw _ (List.mem_of_getElem? (i := 2) rfl)) (by decide) (by decide)) (g := (mkF m 25 #[.val (.int a), .val (.int b), .val (.int (own_len a))] [(.int b), (.int (own_c0 a))])) rfl (by rw [hml]; rfl) (argsL := [(.int b)]) (rest := [(.int (own_c0 a))]) (lenOf pd_6 rfl) rfl (by show 2 * 0 + _ ≤ _; exact Nat.le_of_eq rfl) (hb hby d22_25) (fun _ _ => ⟨rfl, e17, (by decide : 0 + 0 ≤ _), (by decide : 0 + 0 ≤ _)⟩)
      dsimp only [Pt.U, Pt.locs, Pt.cells, Pt.slots] at X18 l18 y18 z18 st18 hQ18
      subst y18 z18
      obtain ⟨rfl, N18q, e18⟩ := hQ18
      have N18 : Fr n0 L18 := by rw [l18]; exact Fr.app N17 N18q
      refine stp st18 ?_
      show Go p e below T18 (mkF m 28 #[.val (.int a), .val (.int b), .val (.int (own_len a))] [(.int (own_c0 b)), (.int (own_c0 a))]) _
      by_cases q28_19 : (own_c0 a) = (own_c0 b)
      · refine stp (fun _ => XS.icmpYes X18.here hx rfl (pc0 := 28) (pc' := 33) rfl (hb hby d22_28) rfl (XT.ii_eq_t q28_19) (by decide) (by decide)) ?_
        show Go p e below T18 (mkF m 33 #[.val (.int a), .val (.int b), .val (.int (own_len a))] []) _
        refine stp (fun _ => XS.iloadN X18.here hx rfl (hb hby d22_33) rfl) ?_
        show Go p e below T18 (mkF m 34 #[.val (.int a), .val (.int b), .val (.int (own_len a))] [(.int (own_len a))]) _
        refine stp (fun _ => XS.iconst X18.here hx rfl (hb hby d22_34)) ?_
        show Go p e below T18 (mkF m 35 #[.val (.int a), .val (.int b), .val (.int (own_len a))] [(.int (2 : Int32)), (.int (own_len a))]) _
        by_cases q35_20 : (own_len a) < (2 : Int32)
        · refine stp (fun _ => XS.icmpYes X18.here hx rfl (pc0 := 35) (pc' := 51) rfl (hb hby d22_35) rfl (XT.ii_lt_t q35_20) (by decide) (by decide)) ?_
          show Go p e below T18 (mkF m 51 #[.val (.int a), .val (.int b), .val (.int (own_len a))] []) _
          refine stp (fun _ => XS.iloadN X18.here hx rfl (hb hby d22_51) rfl) ?_
          show Go p e below T18 (mkF m 52 #[.val (.int a), .val (.int b), .val (.int (own_len a))] [(.int (own_len a))]) _
          refine stp (fun _ => XS.iconst X18.here hx rfl (hb hby d22_52)) ?_
          show Go p e below T18 (mkF m 53 #[.val (.int a), .val (.int b), .val (.int (own_len a))] [(.int (3 : Int32)), (.int (own_len a))]) _
          by_cases q53_21 : (own_len a) < (3 : Int32)
          · refine stp (fun _ => XS.icmpYes X18.here hx rfl (pc0 := 53) (pc' := 69) rfl (hb hby d22_53) rfl (XT.ii_lt_t q53_21) (by decide) (by decide)) ?_
            show Go p e below T18 (mkF m 69 #[.val (.int a), .val (.int b), .val (.int (own_len a))] []) _
            refine stp (fun _ => XS.iconst X18.here hx rfl (hb hby d22_69)) ?_
            show Go p e below T18 (mkF m 70 #[.val (.int a), .val (.int b), .val (.int (own_len a))] [(.int (1 : Int32))]) _
            refine outN X18 hx (t := .boolean) hret (by simp) (hb hby d22_70) hlk (by decide) (by decide) ?_
            exact ⟨by simp only [own_same, own_same1, own_same2, own_same3, if_pos q10_3, if_neg q17_4, if_pos q28_19, if_pos q35_20, if_pos q53_21] <;> rfl, N18, e18⟩
          · refine stp (fun _ => XS.icmpNo X18.here hx rfl (hb hby d22_53) rfl (XT.ii_lt_f q53_21)) ?_
            show Go p e below T18 (mkF m 56 #[.val (.int a), .val (.int b), .val (.int (own_len a))] []) _
            refine stp (fun _ => XS.iloadN X18.here hx rfl (hb hby d22_56) rfl) ?_
            show Go p e below T18 (mkF m 57 #[.val (.int a), .val (.int b), .val (.int (own_len a))] [(.int a)]) _
            obtain ⟨_, _, ⟨T22, L22, k22, n22⟩, -, X22, ⟨Lc22, hQ22, l22, y22, z22⟩, st22⟩ := Jvm.LawKit.callS X18 hx (y := (⟨"com/example/revlint/revlint/model/PrimitiveEqualsPinLaw", "c2", "(I)C"⟩ : MethodName)) hown (mvT hZ (hw _ (List.mem_of_getElem? (i := 80) rfl))) (mvT hZ (hw _ (List.mem_of_getElem? (i := 81) rfl))) (mvT hZ (hw _ (List.mem_of_getElem? (i := 2) rfl))) (mvT hZ (hw _ (List.mem_of_getElem? (i := 82) rfl))) (by decide) (backOf (W := 0) (rm_c2 l Z a0 hw [] a  h0 n0 O0 ) hZ (hw _ (List.mem_of_getElem? (i := 82) rfl)) (hw _ (List.mem_of_getElem? (i := 2) rfl)) (by decide) (by decide)) (g := (mkF m 57 #[.val (.int a), .val (.int b), .val (.int (own_len a))] [(.int a)])) rfl (by rw [hml]; rfl) (argsL := [(.int a)]) (rest := []) (lenOf pd_6 rfl) rfl (by show 2 * 0 + _ ≤ _; exact Nat.le_of_eq rfl) (hb hby d22_57) (fun _ _ => ⟨rfl, e18, (by decide : 0 + 0 ≤ _), (by decide : 0 + 0 ≤ _)⟩)
            dsimp only [Pt.U, Pt.locs, Pt.cells, Pt.slots] at X22 l22 y22 z22 st22 hQ22
            subst y22 z22
            obtain ⟨rfl, N22q, e22⟩ := hQ22
            have N22 : Fr n0 L22 := by rw [l22]; exact Fr.app N18 N22q
            refine stp st22 ?_
            show Go p e below T22 (mkF m 60 #[.val (.int a), .val (.int b), .val (.int (own_len a))] [(.int (own_c2 a))]) _
            refine stp (fun _ => XS.iloadN X22.here hx rfl (hb hby d22_60) rfl) ?_
            show Go p e below T22 (mkF m 61 #[.val (.int a), .val (.int b), .val (.int (own_len a))] [(.int b), (.int (own_c2 a))]) _
            obtain ⟨_, _, ⟨T23, L23, k23, n23⟩, -, X23, ⟨Lc23, hQ23, l23, y23, z23⟩, st23⟩ := Jvm.LawKit.callS X22 hx (y := (⟨"com/example/revlint/revlint/model/PrimitiveEqualsPinLaw", "c2", "(I)C"⟩ : MethodName)) hown (mvT hZ (hw _ (List.mem_of_getElem? (i := 80) rfl))) (mvT hZ (hw _ (List.mem_of_getElem? (i := 81) rfl))) (mvT hZ (hw _ (List.mem_of_getElem? (i := 2) rfl))) (mvT hZ (hw _ (List.mem_of_getElem? (i := 82) rfl))) (by decide) (backOf (W := 1) (rm_c2 l Z a0 hw [] b  h0 n0 O0 ) hZ (hw _ (List.mem_of_getElem? (i := 82) rfl)) (hw _ (List.mem_of_getElem? (i := 2) rfl)) (by decide) (by decide)) (g := (mkF m 61 #[.val (.int a), .val (.int b), .val (.int (own_len a))] [(.int b), (.int (own_c2 a))])) rfl (by rw [hml]; rfl) (argsL := [(.int b)]) (rest := [(.int (own_c2 a))]) (lenOf pd_6 rfl) rfl (by show 2 * 0 + _ ≤ _; exact Nat.le_of_eq rfl) (hb hby d22_61) (fun _ _ => ⟨rfl, e22, (by decide : 0 + 0 ≤ _), (by decide : 0 + 0 ≤ _)⟩)
            dsimp only [Pt.U, Pt.locs, Pt.cells, Pt.slots] at X23 l23 y23 z23 st23 hQ23
            subst y23 z23
            obtain ⟨rfl, N23q, e23⟩ := hQ23
            have N23 : Fr n0 L23 := by rw [l23]; exact Fr.app N22 N23q
            refine stp st23 ?_
            show Go p e below T23 (mkF m 64 #[.val (.int a), .val (.int b), .val (.int (own_len a))] [(.int (own_c2 b)), (.int (own_c2 a))]) _
            by_cases q64_24 : (own_c2 a) = (own_c2 b)
            · refine stp (fun _ => XS.icmpYes X23.here hx rfl (pc0 := 64) (pc' := 69) rfl (hb hby d22_64) rfl (XT.ii_eq_t q64_24) (by decide) (by decide)) ?_
              show Go p e below T23 (mkF m 69 #[.val (.int a), .val (.int b), .val (.int (own_len a))] []) _
              refine stp (fun _ => XS.iconst X23.here hx rfl (hb hby d22_69)) ?_
              show Go p e below T23 (mkF m 70 #[.val (.int a), .val (.int b), .val (.int (own_len a))] [(.int (1 : Int32))]) _
              refine outN X23 hx (t := .boolean) hret (by simp) (hb hby d22_70) hlk (by decide) (by decide) ?_
              exact ⟨by simp only [own_same, own_same1, own_same2, own_same3, if_pos q10_3, if_neg q17_4, if_pos q28_19, if_pos q35_20, if_neg q53_21, if_pos q64_24] <;> rfl, N23, e23⟩
            · refine stp (fun _ => XS.icmpNo X23.here hx rfl (hb hby d22_64) rfl (XT.ii_eq_f q64_24)) ?_
              show Go p e below T23 (mkF m 67 #[.val (.int a), .val (.int b), .val (.int (own_len a))] []) _
              refine stp (fun _ => XS.iconst X23.here hx rfl (hb hby d22_67)) ?_
              show Go p e below T23 (mkF m 68 #[.val (.int a), .val (.int b), .val (.int (own_len a))] [(.int (0 : Int32))]) _
              refine outN X23 hx (t := .boolean) hret (by simp) (hb hby d22_68) hlk (by decide) (by decide) ?_
              exact ⟨by simp only [own_same, own_same1, own_same2, own_same3, if_pos q10_3, if_neg q17_4, if_pos q28_19, if_pos q35_20, if_neg q53_21, if_neg q64_24] <;> rfl, N23, e23⟩
        · refine stp (fun _ => XS.icmpNo X18.here hx rfl (hb hby d22_35) rfl (XT.ii_lt_f q35_20)) ?_
          show Go p e below T18 (mkF m 38 #[.val (.int a), .val (.int b), .val (.int (own_len a))] []) _
          refine stp (fun _ => XS.iloadN X18.here hx rfl (hb hby d22_38) rfl) ?_
          show Go p e below T18 (mkF m 39 #[.val (.int a), .val (.int b), .val (.int (own_len a))] [(.int a)]) _
          obtain ⟨_, _, ⟨T25, L25, k25, n25⟩, -, X25, ⟨Lc25, hQ25, l25, y25, z25⟩, st25⟩ := Jvm.LawKit.callS X18 hx (y := (⟨"com/example/revlint/revlint/model/PrimitiveEqualsPinLaw", "c1", "(I)C"⟩ : MethodName)) hown (mvT hZ (hw _ (List.mem_of_getElem? (i := 66) rfl))) (mvT hZ (hw _ (List.mem_of_getElem? (i := 67) rfl))) (mvT hZ (hw _ (List.mem_of_getElem? (i := 2) rfl))) (mvT hZ (hw _ (List.mem_of_getElem? (i := 68) rfl))) (by decide) (backOf (W := 0) (rm_c1 l Z a0 hw [] a  h0 n0 O0 ) hZ (hw _ (List.mem_of_getElem? (i := 68) rfl)) (hw _ (List.mem_of_getElem? (i := 2) rfl)) (by decide) (by decide)) (g := (mkF m 39 #[.val (.int a), .val (.int b), .val (.int (own_len a))] [(.int a)])) rfl (by rw [hml]; rfl) (argsL := [(.int a)]) (rest := []) (lenOf pd_6 rfl) rfl (by show 2 * 0 + _ ≤ _; exact Nat.le_of_eq rfl) (hb hby d22_39) (fun _ _ => ⟨rfl, e18, (by decide : 0 + 0 ≤ _), (by decide : 0 + 0 ≤ _)⟩)
          dsimp only [Pt.U, Pt.locs, Pt.cells, Pt.slots] at X25 l25 y25 z25 st25 hQ25
          subst y25 z25
          obtain ⟨rfl, N25q, e25⟩ := hQ25
          have N25 : Fr n0 L25 := by rw [l25]; exact Fr.app N18 N25q
          refine stp st25 ?_
          show Go p e below T25 (mkF m 42 #[.val (.int a), .val (.int b), .val (.int (own_len a))] [(.int (own_c1 a))]) _
          refine stp (fun _ => XS.iloadN X25.here hx rfl (hb hby d22_42) rfl) ?_
          show Go p e below T25 (mkF m 43 #[.val (.int a), .val (.int b), .val (.int (own_len a))] [(.int b), (.int (own_c1 a))]) _
          obtain ⟨_, _, ⟨T26, L26, k26, n26⟩, -, X26, ⟨Lc26, hQ26, l26, y26, z26⟩, st26⟩ := Jvm.LawKit.callS X25 hx (y := (⟨"com/example/revlint/revlint/model/PrimitiveEqualsPinLaw", "c1", "(I)C"⟩ : MethodName)) hown (mvT hZ (hw _ (List.mem_of_getElem? (i := 66) rfl))) (mvT hZ (hw _ (List.mem_of_getElem? (i := 67) rfl))) (mvT hZ (hw _ (List.mem_of_getElem? (i := 2) rfl))) (mvT hZ (hw _ (List.mem_of_getElem? (i := 68) rfl))) (by decide) (backOf (W := 1) (rm_c1 l Z a0 hw [] b  h0 n0 O0 ) hZ (hw _ (List.mem_of_getElem? (i := 68) rfl)) (hw _ (List.mem_of_getElem? (i := 2) rfl)) (by decide) (by decide)) (g := (mkF m 43 #[.val (.int a), .val (.int b), .val (.int (own_len a))] [(.int b), (.int (own_c1 a))])) rfl (by rw [hml]; rfl) (argsL := [(.int b)]) (rest := [(.int (own_c1 a))]) (lenOf pd_6 rfl) rfl (by show 2 * 0 + _ ≤ _; exact Nat.le_of_eq rfl) (hb hby d22_43) (fun _ _ => ⟨rfl, e25, (by decide : 0 + 0 ≤ _), (by decide : 0 + 0 ≤ _)⟩)
          dsimp only [Pt.U, Pt.locs, Pt.cells, Pt.slots] at X26 l26 y26 z26 st26 hQ26
          subst y26 z26
          obtain ⟨rfl, N26q, e26⟩ := hQ26
          have N26 : Fr n0 L26 := by rw [l26]; exact Fr.app N25 N26q
          refine stp st26 ?_
          show Go p e below T26 (mkF m 46 #[.val (.int a), .val (.int b), .val (.int (own_len a))] [(.int (own_c1 b)), (.int (own_c1 a))]) _
          by_cases q46_27 : (own_c1 a) = (own_c1 b)
          · refine stp (fun _ => XS.icmpYes X26.here hx rfl (pc0 := 46) (pc' := 51) rfl (hb hby d22_46) rfl (XT.ii_eq_t q46_27) (by decide) (by decide)) ?_
            show Go p e below T26 (mkF m 51 #[.val (.int a), .val (.int b), .val (.int (own_len a))] []) _
            refine stp (fun _ => XS.iloadN X26.here hx rfl (hb hby d22_51) rfl) ?_
            show Go p e below T26 (mkF m 52 #[.val (.int a), .val (.int b), .val (.int (own_len a))] [(.int (own_len a))]) _
            refine stp (fun _ => XS.iconst X26.here hx rfl (hb hby d22_52)) ?_
            show Go p e below T26 (mkF m 53 #[.val (.int a), .val (.int b), .val (.int (own_len a))] [(.int (3 : Int32)), (.int (own_len a))]) _
            by_cases q53_28 : (own_len a) < (3 : Int32)
            · refine stp (fun _ => XS.icmpYes X26.here hx rfl (pc0 := 53) (pc' := 69) rfl (hb hby d22_53) rfl (XT.ii_lt_t q53_28) (by decide) (by decide)) ?_
              show Go p e below T26 (mkF m 69 #[.val (.int a), .val (.int b), .val (.int (own_len a))] []) _
              refine stp (fun _ => XS.iconst X26.here hx rfl (hb hby d22_69)) ?_
              show Go p e below T26 (mkF m 70 #[.val (.int a), .val (.int b), .val (.int (own_len a))] [(.int (1 : Int32))]) _
              refine outN X26 hx (t := .boolean) hret (by simp) (hb hby d22_70) hlk (by decide) (by decide) ?_
              exact ⟨by simp only [own_same, own_same1, own_same2, own_same3, if_pos q10_3, if_neg q17_4, if_pos q28_19, if_neg q35_20, if_pos q46_27, if_pos q53_28] <;> rfl, N26, e26⟩
            · refine stp (fun _ => XS.icmpNo X26.here hx rfl (hb hby d22_53) rfl (XT.ii_lt_f q53_28)) ?_
              show Go p e below T26 (mkF m 56 #[.val (.int a), .val (.int b), .val (.int (own_len a))] []) _
              refine stp (fun _ => XS.iloadN X26.here hx rfl (hb hby d22_56) rfl) ?_
              show Go p e below T26 (mkF m 57 #[.val (.int a), .val (.int b), .val (.int (own_len a))] [(.int a)]) _
              obtain ⟨_, _, ⟨T29, L29, k29, n29⟩, -, X29, ⟨Lc29, hQ29, l29, y29, z29⟩, st29⟩ := Jvm.LawKit.callS X26 hx (y := (⟨"com/example/revlint/revlint/model/PrimitiveEqualsPinLaw", "c2", "(I)C"⟩ : MethodName)) hown (mvT hZ (hw _ (List.mem_of_getElem? (i := 80) rfl))) (mvT hZ (hw _ (List.mem_of_getElem? (i := 81) rfl))) (mvT hZ (hw _ (List.mem_of_getElem? (i := 2) rfl))) (mvT hZ (hw _ (List.mem_of_getElem? (i := 82) rfl))) (by decide) (backOf (W := 0) (rm_c2 l Z a0 hw [] a  h0 n0 O0 ) hZ (hw _ (List.mem_of_getElem? (i := 82) rfl)) (hw _ (List.mem_of_getElem? (i := 2) rfl)) (by decide) (by decide)) (g := (mkF m 57 #[.val (.int a), .val (.int b), .val (.int (own_len a))] [(.int a)])) rfl (by rw [hml]; rfl) (argsL := [(.int a)]) (rest := []) (lenOf pd_6 rfl) rfl (by show 2 * 0 + _ ≤ _; exact Nat.le_of_eq rfl) (hb hby d22_57) (fun _ _ => ⟨rfl, e26, (by decide : 0 + 0 ≤ _), (by decide : 0 + 0 ≤ _)⟩)
              dsimp only [Pt.U, Pt.locs, Pt.cells, Pt.slots] at X29 l29 y29 z29 st29 hQ29
              subst y29 z29
              obtain ⟨rfl, N29q, e29⟩ := hQ29
              have N29 : Fr n0 L29 := by rw [l29]; exact Fr.app N26 N29q
              refine stp st29 ?_
              show Go p e below T29 (mkF m 60 #[.val (.int a), .val (.int b), .val (.int (own_len a))] [(.int (own_c2 a))]) _
              refine stp (fun _ => XS.iloadN X29.here hx rfl (hb hby d22_60) rfl) ?_
              show Go p e below T29 (mkF m 61 #[.val (.int a), .val (.int b), .val (.int (own_len a))] [(.int b), (.int (own_c2 a))]) _
              obtain ⟨_, _, ⟨T30, L30, k30, n30⟩, -, X30, ⟨Lc30, hQ30, l30, y30, z30⟩, st30⟩ := Jvm.LawKit.callS X29 hx (y := (⟨"com/example/revlint/revlint/model/PrimitiveEqualsPinLaw", "c2", "(I)C"⟩ : MethodName)) hown (mvT hZ (hw _ (List.mem_of_getElem? (i := 80) rfl))) (mvT hZ (hw _ (List.mem_of_getElem? (i := 81) rfl))) (mvT hZ (hw _ (List.mem_of_getElem? (i := 2) rfl))) (mvT hZ (hw _ (List.mem_of_getElem? (i := 82) rfl))) (by decide) (backOf (W := 1) (rm_c2 l Z a0 hw [] b  h0 n0 O0 ) hZ (hw _ (List.mem_of_getElem? (i := 82) rfl)) (hw _ (List.mem_of_getElem? (i := 2) rfl)) (by decide) (by decide)) (g := (mkF m 61 #[.val (.int a), .val (.int b), .val (.int (own_len a))] [(.int b), (.int (own_c2 a))])) rfl (by rw [hml]; rfl) (argsL := [(.int b)]) (rest := [(.int (own_c2 a))]) (lenOf pd_6 rfl) rfl (by show 2 * 0 + _ ≤ _; exact Nat.le_of_eq rfl) (hb hby d22_61) (fun _ _ => ⟨rfl, e29, (by decide : 0 + 0 ≤ _), (by decide : 0 + 0 ≤ _)⟩)
              dsimp only [Pt.U, Pt.locs, Pt.cells, Pt.slots] at X30 l30 y30 z30 st30 hQ30
              subst y30 z30
              obtain ⟨rfl, N30q, e30⟩ := hQ30
              have N30 : Fr n0 L30 := by rw [l30]; exact Fr.app N29 N30q
              refine stp st30 ?_
              show Go p e below T30 (mkF m 64 #[.val (.int a), .val (.int b), .val (.int (own_len a))] [(.int (own_c2 b)), (.int (own_c2 a))]) _
              by_cases q64_31 : (own_c2 a) = (own_c2 b)
              · refine stp (fun _ => XS.icmpYes X30.here hx rfl (pc0 := 64) (pc' := 69) rfl (hb hby d22_64) rfl (XT.ii_eq_t q64_31) (by decide) (by decide)) ?_
                show Go p e below T30 (mkF m 69 #[.val (.int a), .val (.int b), .val (.int (own_len a))] []) _
                refine stp (fun _ => XS.iconst X30.here hx rfl (hb hby d22_69)) ?_
                show Go p e below T30 (mkF m 70 #[.val (.int a), .val (.int b), .val (.int (own_len a))] [(.int (1 : Int32))]) _
                refine outN X30 hx (t := .boolean) hret (by simp) (hb hby d22_70) hlk (by decide) (by decide) ?_
                exact ⟨by simp only [own_same, own_same1, own_same2, own_same3, if_pos q10_3, if_neg q17_4, if_pos q28_19, if_neg q35_20, if_pos q46_27, if_neg q53_28, if_pos q64_31] <;> rfl, N30, e30⟩
              · refine stp (fun _ => XS.icmpNo X30.here hx rfl (hb hby d22_64) rfl (XT.ii_eq_f q64_31)) ?_
                show Go p e below T30 (mkF m 67 #[.val (.int a), .val (.int b), .val (.int (own_len a))] []) _
                refine stp (fun _ => XS.iconst X30.here hx rfl (hb hby d22_67)) ?_
                show Go p e below T30 (mkF m 68 #[.val (.int a), .val (.int b), .val (.int (own_len a))] [(.int (0 : Int32))]) _
                refine outN X30 hx (t := .boolean) hret (by simp) (hb hby d22_68) hlk (by decide) (by decide) ?_
                exact ⟨by simp only [own_same, own_same1, own_same2, own_same3, if_pos q10_3, if_neg q17_4, if_pos q28_19, if_neg q35_20, if_pos q46_27, if_neg q53_28, if_neg q64_31] <;> rfl, N30, e30⟩
          · refine stp (fun _ => XS.icmpNo X26.here hx rfl (hb hby d22_46) rfl (XT.ii_eq_f q46_27)) ?_
            show Go p e below T26 (mkF m 49 #[.val (.int a), .val (.int b), .val (.int (own_len a))] []) _
            refine stp (fun _ => XS.iconst X26.here hx rfl (hb hby d22_49)) ?_
            show Go p e below T26 (mkF m 50 #[.val (.int a), .val (.int b), .val (.int (own_len a))] [(.int (0 : Int32))]) _
            refine outN X26 hx (t := .boolean) hret (by simp) (hb hby d22_50) hlk (by decide) (by decide) ?_
            exact ⟨by simp only [own_same, own_same1, own_same2, own_same3, if_pos q10_3, if_neg q17_4, if_pos q28_19, if_neg q35_20, if_neg q46_27] <;> rfl, N26, e26⟩
      · refine stp (fun _ => XS.icmpNo X18.here hx rfl (hb hby d22_28) rfl (XT.ii_eq_f q28_19)) ?_
        show Go p e below T18 (mkF m 31 #[.val (.int a), .val (.int b), .val (.int (own_len a))] []) _
        refine stp (fun _ => XS.iconst X18.here hx rfl (hb hby d22_31)) ?_
        show Go p e below T18 (mkF m 32 #[.val (.int a), .val (.int b), .val (.int (own_len a))] [(.int (0 : Int32))]) _
        refine outN X18 hx (t := .boolean) hret (by simp) (hb hby d22_32) hlk (by decide) (by decide) ?_
        exact ⟨by simp only [own_same, own_same1, own_same2, own_same3, if_pos q10_3, if_neg q17_4, if_neg q28_19] <;> rfl, N18, e18⟩
  · refine stp (fun _ => XS.icmpNo X2.here hx rfl (hb hby d22_10) rfl (XT.ii_eq_f q10_3)) ?_
    show Go p e below T2 (mkF m 13 #[.val (.int a), .val (.int b), .val (.int (own_len a))] []) _
    refine stp (fun _ => XS.iconst X2.here hx rfl (hb hby d22_13)) ?_
    show Go p e below T2 (mkF m 14 #[.val (.int a), .val (.int b), .val (.int (own_len a))] [(.int (0 : Int32))]) _
    refine outN X2 hx (t := .boolean) hret (by simp) (hb hby d22_14) hlk (by decide) (by decide) ?_
    exact ⟨by simp only [own_same, own_same1, own_same2, own_same3, if_neg q10_3] <;> rfl, N2, e2⟩
theorem d7_0 : decode jdk_30_method_1_code 0 = .ok (.aload_n 0, 1) := by decide +kernel
theorem d7_1 : decode jdk_30_method_1_code 1 = .ok (.invokespecial 1, 3) := by decide +kernel
theorem d7_4 : decode jdk_30_method_1_code 4 = .ok (.return_, 1) := by decide +kernel
theorem ef_rm_rec (m : MethodId) (t : Addr)  : entryFrame m #[(.ref t)] 1 = mkF m 0 #[.val (.ref t)] [] := by first | (simp [entryFrame, mkF, argsToLocals, Value.category]; done) | rfl
def Q_rm_rec (Z : State) (t : Addr)  (h0 : Heap) (n0 : Nat) (v : Option Value) (h : Heap) (L : List Loc) : Prop := v = none ∧ Fr n0 L ∧ h = h0
theorem pn_12_ : plainName "java/lang/Record" = true := by first | (simp [plainName, overriddenIn]; done) | decide +kernel
theorem pn_12 : plainFor (⟨"java/lang/Record", "<init>", "()V"⟩ : MethodName) = true := plainFor_of_name pn_12_
set_option maxRecDepth 65536 in
set_option maxHeartbeats 40000000 in
theorem rm_rec (l : Launch) (Z : State) (a0 : Array Value) (hw : ∀ d ∈ tables_1, d.before a0 Z = true) (ws : List Jvm.Cond) (t : Addr)  (h0 : Heap) (n0 : Nat) (O0 : Old Z n0 h0)  :
    MetFree l (⟨"java/lang/Record", "<init>", "()V"⟩ : MethodName) (head1 (Jvm.Cond.code (⟨"java/lang/Record", "<init>", "()V"⟩ : MethodName) jdk_30_method_1_code 1 none :: ws) ({ frames := 1, cells := 0, slots := 0, locals := 12 } : Room)) (fun args_ U => args_ = #[(.ref t)] ∧ Z.Warmed39 U.vm ∧ U.heap = h0) (fun _ _ _ _ _ => True) (fun _ U out_ U' => ∃ val_ loc_, out_ = .returned val_ ∧ (Q_rm_rec Z t h0 n0) val_ U'.heap loc_ ∧ FrameEnd U out_ U' loc_ ({ frames := 1, cells := 0, slots := 0, locals := 12 } : Room).cells ({ frames := 1, cells := 0, slots := 0, locals := 12 } : Room).slots) := by
  refine start (Q := (Q_rm_rec Z t h0 n0)) pn_12 ?_
  intro p e s m below meth c T0 X0 hx hby hml hown hnm hret hlk hZ e0
  replace hown : s.vm.findClass "java/lang/Record" = some m.cls := hown
  replace hml : c.maxLocals = 1 := hml
  refine goAt (ef_rm_rec m t ) ?_
  have N0 := Fr.nil n0
  show Go p e below T0 (mkF m 0 #[.val (.ref t)] []) _
  refine stp (fun _ => XS.aloadN X0.here hx rfl (hb hby d7_0) rfl rfl) ?_
  show Go p e below T0 (mkF m 1 #[.val (.ref t)] [(.ref t)]) _
  obtain ⟨T1, X1, e1, st1⟩ := initO X0 hx hZ hown (hw _ (List.mem_of_getElem? (i := 40) rfl)) (hw _ (List.mem_of_getElem? (i := 19) rfl)) (hw _ (List.mem_of_getElem? (i := 20) rfl)) e0 (g := (mkF m 1 #[.val (.ref t)] [(.ref t)])) rfl (by rw [hml]; rfl) rfl (hb hby d7_1) (by decide) (W := 0) (by show 2 * 0 + _ ≤ _; exact Nat.le_of_eq rfl) (by decide)
  refine stp st1 ?_
  show Go p e below T1 (mkF m 4 #[.val (.ref t)] []) _
  refine outV X1 hx hret (hb hby d7_4) hlk (by decide) (by decide) ?_
  exact ⟨rfl, N0, e1⟩
theorem d8_0 : decode jdk_31_method_11_code 0 = .ok (.aload_n 0, 1) := by decide +kernel
theorem d8_1 : decode jdk_31_method_11_code 1 = .ok (.ifnonnull 12, 3) := by decide +kernel
theorem d8_13 : decode jdk_31_method_11_code 13 = .ok (.aload_n 0, 1) := by decide +kernel
theorem d8_14 : decode jdk_31_method_11_code 14 = .ok (.areturn, 1) := by decide +kernel
theorem ef_rm_rnn (m : MethodId) (o : Addr) (m_ : Addr)  : entryFrame m #[(.ref o), (.ref m_)] 2 = mkF m 0 #[.val (.ref o), .val (.ref m_)] [] := by first | (simp [entryFrame, mkF, argsToLocals, Value.category]; done) | rfl
def Q_rm_rnn (Z : State) (o : Addr) (m_ : Addr)  (h0 : Heap) (n0 : Nat) (v : Option Value) (h : Heap) (L : List Loc) : Prop := v = some (.ref o) ∧ Fr n0 L ∧ h = h0
theorem pn_13_ : plainName "java/util/Objects" = true := by first | (simp [plainName, overriddenIn]; done) | decide +kernel
theorem pn_13 : plainFor (⟨"java/util/Objects", "requireNonNull", "(Ljava/lang/Object;Ljava/lang/String;)Ljava/lang/Object;"⟩ : MethodName) = true := plainFor_of_name pn_13_
set_option maxRecDepth 65536 in
set_option maxHeartbeats 40000000 in
theorem rm_rnn (l : Launch) (Z : State) (a0 : Array Value) (hw : ∀ d ∈ tables_1, d.before a0 Z = true) (ws : List Jvm.Cond) (o : Addr) (m_ : Addr)  (h0 : Heap) (n0 : Nat) (O0 : Old Z n0 h0)  :
    MetFree l (⟨"java/util/Objects", "requireNonNull", "(Ljava/lang/Object;Ljava/lang/String;)Ljava/lang/Object;"⟩ : MethodName) (head1 (Jvm.Cond.code (⟨"java/util/Objects", "requireNonNull", "(Ljava/lang/Object;Ljava/lang/String;)Ljava/lang/Object;"⟩ : MethodName) jdk_31_method_11_code 2 (some (.object "java/lang/Object")) :: ws) ({ frames := 0, cells := 0, slots := 0, locals := 0 } : Room)) (fun args_ U => args_ = #[(.ref o), (.ref m_)] ∧ Z.Warmed39 U.vm ∧ U.heap = h0) (fun _ _ _ _ _ => True) (fun _ U out_ U' => ∃ val_ loc_, out_ = .returned val_ ∧ (Q_rm_rnn Z o m_ h0 n0) val_ U'.heap loc_ ∧ FrameEnd U out_ U' loc_ ({ frames := 0, cells := 0, slots := 0, locals := 0 } : Room).cells ({ frames := 0, cells := 0, slots := 0, locals := 0 } : Room).slots) := by
  refine start (Q := (Q_rm_rnn Z o m_ h0 n0)) pn_13 ?_
  intro p e s m below meth c T0 X0 hx hby hml hown hnm hret hlk hZ e0
  replace hown : s.vm.findClass "java/util/Objects" = some m.cls := hown
  replace hml : c.maxLocals = 2 := hml
  refine goAt (ef_rm_rnn m o m_ ) ?_
  have N0 := Fr.nil n0
  show Go p e below T0 (mkF m 0 #[.val (.ref o), .val (.ref m_)] []) _
  refine stp (fun _ => XS.aloadN X0.here hx rfl (hb hby d8_0) rfl rfl) ?_
  show Go p e below T0 (mkF m 1 #[.val (.ref o), .val (.ref m_)] [(.ref o)]) _
  refine stp (fun _ => XS.ifnonnullYes X0.here hx rfl (pc0 := 1) (pc' := 13) rfl (hb hby d8_1) rfl (by decide) (by decide)) ?_
  show Go p e below T0 (mkF m 13 #[.val (.ref o), .val (.ref m_)] []) _
  refine stp (fun _ => XS.aloadN X0.here hx rfl (hb hby d8_13) rfl rfl) ?_
  show Go p e below T0 (mkF m 14 #[.val (.ref o), .val (.ref m_)] [(.ref o)]) _
  refine outA X0 hx hret rfl rfl (hb hby d8_14) hlk (by decide) (by decide) ?_
  exact ⟨rfl, N0, e0⟩
theorem d6_0 : decode prog_21_method_1_code 0 = .ok (.aload_n 0, 1) := by decide +kernel
theorem d6_1 : decode prog_21_method_1_code 1 = .ok (.invokespecial 1, 3) := by decide +kernel
theorem pd_8 : parseMethodDescriptor "()V" = some ⟨[], none⟩ := by decide +kernel
theorem d6_4 : decode prog_21_method_1_code 4 = .ok (.aload_n 1, 1) := by decide +kernel
theorem d6_5 : decode prog_21_method_1_code 5 = .ok (.ldc 7, 2) := by decide +kernel
theorem d6_7 : decode prog_21_method_1_code 7 = .ok (.invokestatic 9, 3) := by decide +kernel
theorem pd_9 : parseMethodDescriptor "(Ljava/lang/Object;Ljava/lang/String;)Ljava/lang/Object;" = some ⟨[(.object "java/lang/Object"), (.object "java/lang/String")], some (.object "java/lang/Object")⟩ := by decide +kernel
theorem d6_10 : decode prog_21_method_1_code 10 = .ok (.pop, 1) := by decide +kernel
theorem d6_11 : decode prog_21_method_1_code 11 = .ok (.aload_n 0, 1) := by decide +kernel
theorem d6_12 : decode prog_21_method_1_code 12 = .ok (.aload_n 1, 1) := by decide +kernel
theorem d6_13 : decode prog_21_method_1_code 13 = .ok (.putfield 15, 3) := by decide +kernel
theorem d6_16 : decode prog_21_method_1_code 16 = .ok (.return_, 1) := by decide +kernel
theorem ef_rm_pv (m : MethodId) (t : Addr) (sx : Addr)  : entryFrame m #[(.ref t), (.ref sx)] 2 = mkF m 0 #[.val (.ref t), .val (.ref sx)] [] := by first | (simp [entryFrame, mkF, argsToLocals, Value.category]; done) | rfl
def Q_rm_pv (Z : State) (t : Addr) (sx : Addr)  (h0 : Heap) (n0 : Nat) (v : Option Value) (h : Heap) (L : List Loc) : Prop := v = none ∧ Fr n0 L ∧ Keep h0 h [t] ∧ Exa Z h t "com/example/revlint/revlint/model/GenericType$Primitive" ∧ Fld Z h t "com/example/revlint/revlint/model/GenericType$Primitive" "name" "Ljava/lang/String;" (.ref sx)
theorem pn_14_ : plainName "com/example/revlint/revlint/model/GenericType$Primitive" = true := by first | (simp [plainName, overriddenIn]; done) | decide +kernel
theorem pn_14 : plainFor (⟨"com/example/revlint/revlint/model/GenericType$Primitive", "<init>", "(Ljava/lang/String;)V"⟩ : MethodName) = true := plainFor_of_name pn_14_
set_option maxRecDepth 65536 in
set_option maxHeartbeats 40000000 in
theorem rm_pv (l : Launch) (Z : State) (a0 : Array Value) (hw : ∀ d ∈ tables_1, d.before a0 Z = true) (ws : List Jvm.Cond) (t : Addr) (sx : Addr)  (h0 : Heap) (n0 : Nat) (O0 : Old Z n0 h0) (hEL : EW Z a0 consts_1) (E_t : Exa Z h0 t "com/example/revlint/revlint/model/GenericType$Primitive") (F_t_name : Fld Z h0 t "com/example/revlint/revlint/model/GenericType$Primitive" "name" "Ljava/lang/String;" .null) (ge_t : n0 ≤ t) :
    MetFree l (⟨"com/example/revlint/revlint/model/GenericType$Primitive", "<init>", "(Ljava/lang/String;)V"⟩ : MethodName) (head1 (Jvm.Cond.code (⟨"com/example/revlint/revlint/model/GenericType$Primitive", "<init>", "(Ljava/lang/String;)V"⟩ : MethodName) prog_21_method_1_code 2 none :: ws) ({ frames := 2, cells := 2, slots := 20, locals := 24 } : Room)) (fun args_ U => args_ = #[(.ref t), (.ref sx)] ∧ Z.Warmed39 U.vm ∧ U.heap = h0 ∧ CHv Z consts_1 U.vm h0) (fun _ _ _ _ _ => True) (fun _ U out_ U' => ∃ val_ loc_, out_ = .returned val_ ∧ (Q_rm_pv Z t sx h0 n0) val_ U'.heap loc_ ∧ CHr Z consts_1 U.vm U.heap U'.vm U'.heap ∧ ReturnedEndW U out_ U' loc_ ({ frames := 2, cells := 2, slots := 20, locals := 24 } : Room).cells ({ frames := 2, cells := 2, slots := 20, locals := 24 } : Room).slots) := by
  refine startW (Q := (Q_rm_pv Z t sx h0 n0)) pn_14 ?_
  intro p e s m below meth c T0 X0 hx hby hml hown hnm hret hlk hZ e0 hS CR
  have hk : 0 ≤ h0.size := Nat.zero_le _
  have wS : ∀ a ∈ Bundle.stringAtoms, a.before a0 Z = true := own_wS hw
  replace hown : s.vm.findClass "com/example/revlint/revlint/model/GenericType$Primitive" = some m.cls := hown
  replace hml : c.maxLocals = 2 := hml
  refine goAt (ef_rm_pv m t sx ) ?_
  have N0 := Fr.nil n0
  show Go p e below T0 (mkF m 0 #[.val (.ref t), .val (.ref sx)] []) _
  refine stp (fun _ => XS.aloadN X0.here hx rfl (hb hby d6_0) rfl rfl) ?_
  show Go p e below T0 (mkF m 1 #[.val (.ref t), .val (.ref sx)] [(.ref t)]) _
  obtain ⟨_, _, ⟨T1, L1, k1, n1⟩, -, X1, ⟨Lc1, hQ1, l1, y1, z1⟩, st1⟩ := X0.specialBack hx (y := (⟨"java/lang/Record", "<init>", "()V"⟩ : MethodName)) rfl hown (mvT hZ (hw _ (List.mem_of_getElem? (i := 35) rfl))) (mvT hZ (hw _ (List.mem_of_getElem? (i := 36) rfl))) (mvT hZ (hw _ (List.mem_of_getElem? (i := 39) rfl))) (by decide) (backOf (W := 0) (rm_rec l Z a0 hw [] t  h0 n0 O0 ) hZ (hw _ (List.mem_of_getElem? (i := 39) rfl)) (hw _ (List.mem_of_getElem? (i := 38) rfl)) (by decide) (by decide)) (g := (mkF m 1 #[.val (.ref t), .val (.ref sx)] [(.ref t)])) rfl (by rw [hml]; rfl) (Steps.refl _) (a := t) (argsL := []) (rest := []) (lenOf pd_8 rfl) rfl (by show 2 * 0 + _ ≤ _; exact Nat.le_of_eq rfl) (hb hby d6_1) (fun _ _ => ⟨rfl, e0, (by decide : 0 + 0 ≤ _), (by decide : 0 + 0 ≤ _)⟩)
  dsimp only [Pt.U, Pt.locs, Pt.cells, Pt.slots] at X1 l1 y1 z1 st1 hQ1
  subst y1 z1
  obtain ⟨rfl, N1q, e1⟩ := hQ1
  have N1 : Fr n0 L1 := by rw [l1]; exact Fr.app N0 N1q
  refine stt st1 ?_
  show Go p e below T1 (mkF m 4 #[.val (.ref t), .val (.ref sx)] []) _
  refine stp (fun _ => XS.aloadN X1.here hx rfl (hb hby d6_4) rfl rfl) ?_
  show Go p e below T1 (mkF m 5 #[.val (.ref t), .val (.ref sx)] [(.ref sx)]) _
  obtain ⟨la2, T2, h2, k1_2, X2, e2, E2, hS, hk', hZ, hown, CRn2, Li2, st2⟩ := ldcOH X1 hx hZ hown (hw _ (List.mem_of_getElem? (i := 41) rfl)) wS e1 hS hk hEL CR.1 (g := (mkF m 5 #[.val (.ref t), .val (.ref sx)] [(.ref sx)])) rfl (hb hby d6_5) (n := 16) (by decide +kernel) (by decide) (by decide) (by decide)
  have f3 := E_t.ext E2
  have f4 := F_t_name.ext E2
  have hk := hk'
  have CR := CR.trans CRn2
  have K2 : Keep h0 h2 [t] := (Keep.refl h0 [t]).ext E2
  have O2 := O0.ext E2
  refine stp st2 ?_
  show Go p e below T2 (mkF m 7 #[.val (.ref t), .val (.ref sx)] [(.ref la2), (.ref sx)]) _
  obtain ⟨_, _, ⟨T5, L5, k5, n5⟩, -, X5, ⟨Lc5, hQ5, l5, y5, z5⟩, st5⟩ := Jvm.LawKit.callS X2 hx (y := (⟨"java/util/Objects", "requireNonNull", "(Ljava/lang/Object;Ljava/lang/String;)Ljava/lang/Object;"⟩ : MethodName)) hown (mvT hZ (hw _ (List.mem_of_getElem? (i := 42) rfl))) (mvT hZ (hw _ (List.mem_of_getElem? (i := 43) rfl))) (mvT hZ (hw _ (List.mem_of_getElem? (i := 44) rfl))) (mvT hZ (hw _ (List.mem_of_getElem? (i := 45) rfl))) (by decide) (backOf (W := 0) (rm_rnn l Z a0 hw [] sx la2  h2 n0 O2 ) hZ (hw _ (List.mem_of_getElem? (i := 45) rfl)) (hw _ (List.mem_of_getElem? (i := 44) rfl)) (by decide) (by decide)) (g := (mkF m 7 #[.val (.ref t), .val (.ref sx)] [(.ref la2), (.ref sx)])) rfl (by rw [hml]; rfl) (argsL := [(.ref sx), (.ref la2)]) (rest := []) (lenOf pd_9 rfl) rfl (by show 2 * 0 + _ ≤ _; exact Nat.le_of_eq rfl) (hb hby d6_7) (fun _ _ => ⟨rfl, e2, (by decide : 2 + 0 ≤ _), (by decide : 20 + 0 ≤ _)⟩)
  dsimp only [Pt.U, Pt.locs, Pt.cells, Pt.slots] at X5 l5 y5 z5 st5 hQ5
  subst y5 z5
  obtain ⟨rfl, N5q, e5⟩ := hQ5
  have N5 : Fr n0 L5 := by rw [l5]; exact Fr.app N1 N5q
  refine stp st5 ?_
  show Go p e below T5 (mkF m 10 #[.val (.ref t), .val (.ref sx)] [(.ref sx)]) _
  refine stp (fun _ => XS.pop X5.here hx rfl (hb hby d6_10) rfl rfl) ?_
  show Go p e below T5 (mkF m 11 #[.val (.ref t), .val (.ref sx)] []) _
  refine stp (fun _ => XS.aloadN X5.here hx rfl (hb hby d6_11) rfl rfl) ?_
  show Go p e below T5 (mkF m 12 #[.val (.ref t), .val (.ref sx)] [(.ref t)]) _
  refine stp (fun _ => XS.aloadN X5.here hx rfl (hb hby d6_12) rfl rfl) ?_
  show Go p e below T5 (mkF m 13 #[.val (.ref t), .val (.ref sx)] [(.ref sx), (.ref t)]) _
  obtain ⟨T6, h6, X6, e6, W6, st6⟩ := putF X5 hx hZ hown (host := "") (Or.inl (hw _ (List.mem_of_getElem? (i := 46) rfl))) Via.refl e5 f4 f3 (Or.inr ⟨(hw _ (List.mem_of_getElem? (i := 47) rfl)), rfl, hnm⟩) (hw _ (List.mem_of_getElem? (i := 30) rfl)) (ty := (.object "java/lang/String")) (by decide) rfl rfl (g := (mkF m 13 #[.val (.ref t), .val (.ref sx)] [(.ref sx), (.ref t)])) rfl rfl (hb hby d6_13)
  have Fw6 := f4.same W6
  have f7 := f3.wr W6
  have hk := Nat.le_trans hk (Keep.of_wr W6).1
  have CR := CR.trans (CHr.wr W6 (Safe.exa hZ.alike f3 (by decide) (by decide)) CR.1)
  have K6 : Keep h0 h6 [t] := K2.wr W6 (Or.inl (List.mem_of_getElem? (i := 0) rfl))
  have O6 := O2.wr W6 ge_t
  have N6 := Fr.snoc X6 N5 ge_t
  refine stp st6 ?_
  show Go p e below T6 (mkF m 16 #[.val (.ref t), .val (.ref sx)] []) _
  refine outVW X6 hx hZ hEL e6 hS hk CR hret (hb hby d6_16) hlk (by decide) (by decide) ?_
  rw [e6]
  exact ⟨rfl, N6, K6, f7, Fw6⟩
theorem d17_0 : decode prog_22_method_1_code 0 = .ok (.aload_n 0, 1) := by decide +kernel
theorem d17_1 : decode prog_22_method_1_code 1 = .ok (.invokespecial 1, 3) := by decide +kernel
theorem d17_4 : decode prog_22_method_1_code 4 = .ok (.aload_n 1, 1) := by decide +kernel
theorem d17_5 : decode prog_22_method_1_code 5 = .ok (.ldc 7, 2) := by decide +kernel
theorem d17_7 : decode prog_22_method_1_code 7 = .ok (.invokestatic 9, 3) := by decide +kernel
theorem d17_10 : decode prog_22_method_1_code 10 = .ok (.pop, 1) := by decide +kernel
theorem d17_11 : decode prog_22_method_1_code 11 = .ok (.aload_n 0, 1) := by decide +kernel
theorem d17_12 : decode prog_22_method_1_code 12 = .ok (.aload_n 1, 1) := by decide +kernel
theorem d17_13 : decode prog_22_method_1_code 13 = .ok (.putfield 15, 3) := by decide +kernel
theorem d17_16 : decode prog_22_method_1_code 16 = .ok (.return_, 1) := by decide +kernel
theorem ef_rm_tv (m : MethodId) (t : Addr) (sx : Addr)  : entryFrame m #[(.ref t), (.ref sx)] 2 = mkF m 0 #[.val (.ref t), .val (.ref sx)] [] := by first | (simp [entryFrame, mkF, argsToLocals, Value.category]; done) | rfl
def Q_rm_tv (Z : State) (t : Addr) (sx : Addr)  (h0 : Heap) (n0 : Nat) (v : Option Value) (h : Heap) (L : List Loc) : Prop := v = none ∧ Fr n0 L ∧ Keep h0 h [t] ∧ Exa Z h t "com/example/revlint/revlint/model/GenericType$TypeVariable" ∧ Fld Z h t "com/example/revlint/revlint/model/GenericType$TypeVariable" "name" "Ljava/lang/String;" (.ref sx)
theorem pn_15_ : plainName "com/example/revlint/revlint/model/GenericType$TypeVariable" = true := by first | (simp [plainName, overriddenIn]; done) | decide +kernel
theorem pn_15 : plainFor (⟨"com/example/revlint/revlint/model/GenericType$TypeVariable", "<init>", "(Ljava/lang/String;)V"⟩ : MethodName) = true := plainFor_of_name pn_15_
set_option maxRecDepth 65536 in
set_option maxHeartbeats 40000000 in
theorem rm_tv (l : Launch) (Z : State) (a0 : Array Value) (hw : ∀ d ∈ tables_1, d.before a0 Z = true) (ws : List Jvm.Cond) (t : Addr) (sx : Addr)  (h0 : Heap) (n0 : Nat) (O0 : Old Z n0 h0) (hEL : EW Z a0 consts_1) (E_t : Exa Z h0 t "com/example/revlint/revlint/model/GenericType$TypeVariable") (F_t_name : Fld Z h0 t "com/example/revlint/revlint/model/GenericType$TypeVariable" "name" "Ljava/lang/String;" .null) (ge_t : n0 ≤ t) :
    MetFree l (⟨"com/example/revlint/revlint/model/GenericType$TypeVariable", "<init>", "(Ljava/lang/String;)V"⟩ : MethodName) (head1 (Jvm.Cond.code (⟨"com/example/revlint/revlint/model/GenericType$TypeVariable", "<init>", "(Ljava/lang/String;)V"⟩ : MethodName) prog_22_method_1_code 2 none :: ws) ({ frames := 2, cells := 2, slots := 20, locals := 24 } : Room)) (fun args_ U => args_ = #[(.ref t), (.ref sx)] ∧ Z.Warmed39 U.vm ∧ U.heap = h0 ∧ CHv Z consts_1 U.vm h0) (fun _ _ _ _ _ => True) (fun _ U out_ U' => ∃ val_ loc_, out_ = .returned val_ ∧ (Q_rm_tv Z t sx h0 n0) val_ U'.heap loc_ ∧ CHr Z consts_1 U.vm U.heap U'.vm U'.heap ∧ ReturnedEndW U out_ U' loc_ ({ frames := 2, cells := 2, slots := 20, locals := 24 } : Room).cells ({ frames := 2, cells := 2, slots := 20, locals := 24 } : Room).slots) := by
  refine startW (Q := (Q_rm_tv Z t sx h0 n0)) pn_15 ?_
  intro p e s m below meth c T0 X0 hx hby hml hown hnm hret hlk hZ e0 hS CR
  have hk : 0 ≤ h0.size := Nat.zero_le _
  have wS : ∀ a ∈ Bundle.stringAtoms, a.before a0 Z = true := own_wS hw
  replace hown : s.vm.findClass "com/example/revlint/revlint/model/GenericType$TypeVariable" = some m.cls := hown
  replace hml : c.maxLocals = 2 := hml
  refine goAt (ef_rm_tv m t sx ) ?_
  have N0 := Fr.nil n0
  show Go p e below T0 (mkF m 0 #[.val (.ref t), .val (.ref sx)] []) _
  refine stp (fun _ => XS.aloadN X0.here hx rfl (hb hby d17_0) rfl rfl) ?_
  show Go p e below T0 (mkF m 1 #[.val (.ref t), .val (.ref sx)] [(.ref t)]) _
  obtain ⟨_, _, ⟨T1, L1, k1, n1⟩, -, X1, ⟨Lc1, hQ1, l1, y1, z1⟩, st1⟩ := X0.specialBack hx (y := (⟨"java/lang/Record", "<init>", "()V"⟩ : MethodName)) rfl hown (mvT hZ (hw _ (List.mem_of_getElem? (i := 89) rfl))) (mvT hZ (hw _ (List.mem_of_getElem? (i := 36) rfl))) (mvT hZ (hw _ (List.mem_of_getElem? (i := 39) rfl))) (by decide) (backOf (W := 0) (rm_rec l Z a0 hw [] t  h0 n0 O0 ) hZ (hw _ (List.mem_of_getElem? (i := 39) rfl)) (hw _ (List.mem_of_getElem? (i := 38) rfl)) (by decide) (by decide)) (g := (mkF m 1 #[.val (.ref t), .val (.ref sx)] [(.ref t)])) rfl (by rw [hml]; rfl) (Steps.refl _) (a := t) (argsL := []) (rest := []) (lenOf pd_8 rfl) rfl (by show 2 * 0 + _ ≤ _; exact Nat.le_of_eq rfl) (hb hby d17_1) (fun _ _ => ⟨rfl, e0, (by decide : 0 + 0 ≤ _), (by decide : 0 + 0 ≤ _)⟩)
  dsimp only [Pt.U, Pt.locs, Pt.cells, Pt.slots] at X1 l1 y1 z1 st1 hQ1
  subst y1 z1
  obtain ⟨rfl, N1q, e1⟩ := hQ1
  have N1 : Fr n0 L1 := by rw [l1]; exact Fr.app N0 N1q
  refine stt st1 ?_
  show Go p e below T1 (mkF m 4 #[.val (.ref t), .val (.ref sx)] []) _
  refine stp (fun _ => XS.aloadN X1.here hx rfl (hb hby d17_4) rfl rfl) ?_
  show Go p e below T1 (mkF m 5 #[.val (.ref t), .val (.ref sx)] [(.ref sx)]) _
  obtain ⟨la2, T2, h2, k1_2, X2, e2, E2, hS, hk', hZ, hown, CRn2, Li2, st2⟩ := ldcOH X1 hx hZ hown (hw _ (List.mem_of_getElem? (i := 90) rfl)) wS e1 hS hk hEL CR.1 (g := (mkF m 5 #[.val (.ref t), .val (.ref sx)] [(.ref sx)])) rfl (hb hby d17_5) (n := 16) (by decide +kernel) (by decide) (by decide) (by decide)
  have f3 := E_t.ext E2
  have f4 := F_t_name.ext E2
  have hk := hk'
  have CR := CR.trans CRn2
  have K2 : Keep h0 h2 [t] := (Keep.refl h0 [t]).ext E2
  have O2 := O0.ext E2
  refine stp st2 ?_
  show Go p e below T2 (mkF m 7 #[.val (.ref t), .val (.ref sx)] [(.ref la2), (.ref sx)]) _
  obtain ⟨_, _, ⟨T5, L5, k5, n5⟩, -, X5, ⟨Lc5, hQ5, l5, y5, z5⟩, st5⟩ := Jvm.LawKit.callS X2 hx (y := (⟨"java/util/Objects", "requireNonNull", "(Ljava/lang/Object;Ljava/lang/String;)Ljava/lang/Object;"⟩ : MethodName)) hown (mvT hZ (hw _ (List.mem_of_getElem? (i := 91) rfl))) (mvT hZ (hw _ (List.mem_of_getElem? (i := 43) rfl))) (mvT hZ (hw _ (List.mem_of_getElem? (i := 44) rfl))) (mvT hZ (hw _ (List.mem_of_getElem? (i := 45) rfl))) (by decide) (backOf (W := 0) (rm_rnn l Z a0 hw [] sx la2  h2 n0 O2 ) hZ (hw _ (List.mem_of_getElem? (i := 45) rfl)) (hw _ (List.mem_of_getElem? (i := 44) rfl)) (by decide) (by decide)) (g := (mkF m 7 #[.val (.ref t), .val (.ref sx)] [(.ref la2), (.ref sx)])) rfl (by rw [hml]; rfl) (argsL := [(.ref sx), (.ref la2)]) (rest := []) (lenOf pd_9 rfl) rfl (by show 2 * 0 + _ ≤ _; exact Nat.le_of_eq rfl) (hb hby d17_7) (fun _ _ => ⟨rfl, e2, (by decide : 2 + 0 ≤ _), (by decide : 20 + 0 ≤ _)⟩)
  dsimp only [Pt.U, Pt.locs, Pt.cells, Pt.slots] at X5 l5 y5 z5 st5 hQ5
  subst y5 z5
  obtain ⟨rfl, N5q, e5⟩ := hQ5
  have N5 : Fr n0 L5 := by rw [l5]; exact Fr.app N1 N5q
  refine stp st5 ?_
  show Go p e below T5 (mkF m 10 #[.val (.ref t), .val (.ref sx)] [(.ref sx)]) _
  refine stp (fun _ => XS.pop X5.here hx rfl (hb hby d17_10) rfl rfl) ?_
  show Go p e below T5 (mkF m 11 #[.val (.ref t), .val (.ref sx)] []) _
  refine stp (fun _ => XS.aloadN X5.here hx rfl (hb hby d17_11) rfl rfl) ?_
  show Go p e below T5 (mkF m 12 #[.val (.ref t), .val (.ref sx)] [(.ref t)]) _
  refine stp (fun _ => XS.aloadN X5.here hx rfl (hb hby d17_12) rfl rfl) ?_
  show Go p e below T5 (mkF m 13 #[.val (.ref t), .val (.ref sx)] [(.ref sx), (.ref t)]) _
  obtain ⟨T6, h6, X6, e6, W6, st6⟩ := putF X5 hx hZ hown (host := "") (Or.inl (hw _ (List.mem_of_getElem? (i := 92) rfl))) Via.refl e5 f4 f3 (Or.inr ⟨(hw _ (List.mem_of_getElem? (i := 93) rfl)), rfl, hnm⟩) (hw _ (List.mem_of_getElem? (i := 84) rfl)) (ty := (.object "java/lang/String")) (by decide) rfl rfl (g := (mkF m 13 #[.val (.ref t), .val (.ref sx)] [(.ref sx), (.ref t)])) rfl rfl (hb hby d17_13)
  have Fw6 := f4.same W6
  have f7 := f3.wr W6
  have hk := Nat.le_trans hk (Keep.of_wr W6).1
  have CR := CR.trans (CHr.wr W6 (Safe.exa hZ.alike f3 (by decide) (by decide)) CR.1)
  have K6 : Keep h0 h6 [t] := K2.wr W6 (Or.inl (List.mem_of_getElem? (i := 0) rfl))
  have O6 := O2.wr W6 ge_t
  have N6 := Fr.snoc X6 N5 ge_t
  refine stp st6 ?_
  show Go p e below T6 (mkF m 16 #[.val (.ref t), .val (.ref sx)] []) _
  refine outVW X6 hx hZ hEL e6 hS hk CR hret (hb hby d17_16) hlk (by decide) (by decide) ?_
  rw [e6]
  exact ⟨rfl, N6, K6, f7, Fw6⟩
theorem d9_0 : decode prog_21_method_2_code 0 = .ok (.aload_n 1, 1) := by decide +kernel
theorem d9_1 : decode prog_21_method_2_code 1 = .ok (.instanceof 16, 3) := by decide +kernel
theorem d9_4 : decode prog_21_method_2_code 4 = .ok (.ifCond .eq 26, 3) := by decide +kernel
theorem d9_7 : decode prog_21_method_2_code 7 = .ok (.aload_n 1, 1) := by decide +kernel
theorem d9_8 : decode prog_21_method_2_code 8 = .ok (.checkcast 16, 3) := by decide +kernel
theorem d9_11 : decode prog_21_method_2_code 11 = .ok (.astore_n 2, 1) := by decide +kernel
theorem d9_12 : decode prog_21_method_2_code 12 = .ok (.aload_n 0, 1) := by decide +kernel
theorem d9_13 : decode prog_21_method_2_code 13 = .ok (.getfield 15, 3) := by decide +kernel
theorem d9_16 : decode prog_21_method_2_code 16 = .ok (.aload_n 2, 1) := by decide +kernel
theorem d9_17 : decode prog_21_method_2_code 17 = .ok (.getfield 15, 3) := by decide +kernel
theorem d9_20 : decode prog_21_method_2_code 20 = .ok (.invokevirtual 20, 3) := by decide +kernel
theorem pd_10 : parseMethodDescriptor "(Ljava/lang/Object;)Z" = some ⟨[(.object "java/lang/Object")], some .boolean⟩ := by decide +kernel
theorem d9_23 : decode prog_21_method_2_code 23 = .ok (.ifCond .eq 7, 3) := by decide +kernel
theorem d9_30 : decode prog_21_method_2_code 30 = .ok (.iconst 0, 1) := by decide +kernel
theorem d9_31 : decode prog_21_method_2_code 31 = .ok (.ireturn, 1) := by decide +kernel
theorem d9_26 : decode prog_21_method_2_code 26 = .ok (.iconst 1, 1) := by decide +kernel
theorem d9_27 : decode prog_21_method_2_code 27 = .ok (.goto 4, 3) := by decide +kernel
theorem ef_rm_eqt (m : MethodId) (t : Addr) (o : Addr)  : entryFrame m #[(.ref t), (.ref o)] 3 = mkF m 0 #[.val (.ref t), .val (.ref o), .unset] [] := by first | (simp [entryFrame, mkF, argsToLocals, Value.category]; done) | rfl
def Q_rm_eqt (Z : State) (t : Addr) (o : Addr) (s1 : Addr) (s2 : Addr) (cs : List Int32) (ds : List Int32) (cz : Int32) (h0 : Heap) (n0 : Nat) (v : Option Value) (h : Heap) (L : List Loc) : Prop := v = some (.int (if cs = ds then (1 : Int32) else (0 : Int32))) ∧ Fr n0 L ∧ h = h0
theorem pn_16_ : plainName "com/example/revlint/revlint/model/GenericType$Primitive" = true := by first | (simp [plainName, overriddenIn]; done) | decide +kernel
theorem pn_16 : plainFor (⟨"com/example/revlint/revlint/model/GenericType$Primitive", "equals", "(Ljava/lang/Object;)Z"⟩ : MethodName) = true := plainFor_of_name pn_16_
set_option maxRecDepth 65536 in
set_option maxHeartbeats 40000000 in
theorem rm_eqt (l : Launch) (Z : State) (a0 : Array Value) (hw : ∀ d ∈ tables_1, d.before a0 Z = true) (ws : List Jvm.Cond) (t : Addr) (o : Addr) (s1 : Addr) (s2 : Addr) (cs : List Int32) (ds : List Int32) (cz : Int32) (h0 : Heap) (n0 : Nat) (O0 : Old Z n0 h0) (E_o : Exa Z h0 o "com/example/revlint/revlint/model/GenericType$Primitive") (F_t_name : Fld Z h0 t "com/example/revlint/revlint/model/GenericType$Primitive" "name" "Ljava/lang/String;" (.ref s1)) (F_o_name : Fld Z h0 o "com/example/revlint/revlint/model/GenericType$Primitive" "name" "Ljava/lang/String;" (.ref s2)) (Q_s1 : StrIs Z h0 s1 cs) (Q_s2 : StrIs Z h0 s2 ds) (S_COMPACT_STRINGS : Sta Z Z.heap "java/lang/String" "COMPACT_STRINGS" "Z" (.int cz)) (hcz : ¬ cz = (0 : Int32)) :
    MetFree l (⟨"com/example/revlint/revlint/model/GenericType$Primitive", "equals", "(Ljava/lang/Object;)Z"⟩ : MethodName) (head1 (Jvm.Cond.code (⟨"com/example/revlint/revlint/model/GenericType$Primitive", "equals", "(Ljava/lang/Object;)Z"⟩ : MethodName) prog_21_method_2_code 3 (some .boolean) :: ws) ({ frames := 2, cells := 0, slots := 0, locals := 28 } : Room)) (fun args_ U => args_ = #[(.ref t), (.ref o)] ∧ Z.Warmed39 U.vm ∧ U.heap = h0) (fun _ _ _ _ _ => True) (fun _ U out_ U' => ∃ val_ loc_, out_ = .returned val_ ∧ (Q_rm_eqt Z t o s1 s2 cs ds cz h0 n0) val_ U'.heap loc_ ∧ FrameEnd U out_ U' loc_ ({ frames := 2, cells := 0, slots := 0, locals := 28 } : Room).cells ({ frames := 2, cells := 0, slots := 0, locals := 28 } : Room).slots) := by
  refine start (Q := (Q_rm_eqt Z t o s1 s2 cs ds cz h0 n0)) pn_16 ?_
  intro p e s m below meth c T0 X0 hx hby hml hown hnm hret hlk hZ e0
  replace hown : s.vm.findClass "com/example/revlint/revlint/model/GenericType$Primitive" = some m.cls := hown
  replace hml : c.maxLocals = 3 := hml
  refine goAt (ef_rm_eqt m t o ) ?_
  have N0 := Fr.nil n0
  show Go p e below T0 (mkF m 0 #[.val (.ref t), .val (.ref o), .unset] []) _
  refine stp (fun _ => XS.aloadN X0.here hx rfl (hb hby d9_0) rfl rfl) ?_
  show Go p e below T0 (mkF m 1 #[.val (.ref t), .val (.ref o), .unset] [(.ref o)]) _
  obtain ⟨T1, X1, e1, st1⟩ := instY X0 hx hZ hown (hw _ (List.mem_of_getElem? (i := 53) rfl)) e0 (Ins.self E_o) (g := (mkF m 1 #[.val (.ref t), .val (.ref o), .unset] [(.ref o)])) rfl rfl (hb hby d9_1)
  refine stp st1 ?_
  show Go p e below T1 (mkF m 4 #[.val (.ref t), .val (.ref o), .unset] [(.int (1 : Int32))]) _
  refine stp (fun _ => XS.ifNo X1.here hx rfl (hb hby d9_4) rfl (by decide)) ?_
  show Go p e below T1 (mkF m 7 #[.val (.ref t), .val (.ref o), .unset] []) _
  refine stp (fun _ => XS.aloadN X1.here hx rfl (hb hby d9_7) rfl rfl) ?_
  show Go p e below T1 (mkF m 8 #[.val (.ref t), .val (.ref o), .unset] [(.ref o)]) _
  obtain ⟨T2, X2, e2, st2⟩ := castY X1 hx hZ hown (hw _ (List.mem_of_getElem? (i := 53) rfl)) e1 (Ins.self E_o) (g := (mkF m 8 #[.val (.ref t), .val (.ref o), .unset] [(.ref o)])) rfl rfl (hb hby d9_8)
  refine stp st2 ?_
  show Go p e below T2 (mkF m 11 #[.val (.ref t), .val (.ref o), .unset] [(.ref o)]) _
  refine stp (fun _ => XS.astoreN X2.here hx rfl (hb hby d9_11) rfl rfl (l' := #[.val (.ref t), .val (.ref o), .val (.ref o)]) rfl) ?_
  show Go p e below T2 (mkF m 12 #[.val (.ref t), .val (.ref o), .val (.ref o)] []) _
  refine stp (fun _ => XS.aloadN X2.here hx rfl (hb hby d9_12) rfl rfl) ?_
  show Go p e below T2 (mkF m 13 #[.val (.ref t), .val (.ref o), .val (.ref o)] [(.ref t)]) _
  obtain ⟨T3, X3, e3, st3⟩ := getF X2 hx hZ hown (host := "") (Or.inl (hw _ (List.mem_of_getElem? (i := 46) rfl))) Via.refl e2 F_t_name (g := (mkF m 13 #[.val (.ref t), .val (.ref o), .val (.ref o)] [(.ref t)])) rfl rfl (hb hby d9_13)
  refine stp st3 ?_
  show Go p e below T3 (mkF m 16 #[.val (.ref t), .val (.ref o), .val (.ref o)] [(.ref s1)]) _
  refine stp (fun _ => XS.aloadN X3.here hx rfl (hb hby d9_16) rfl rfl) ?_
  show Go p e below T3 (mkF m 17 #[.val (.ref t), .val (.ref o), .val (.ref o)] [(.ref o), (.ref s1)]) _
  obtain ⟨T4, X4, e4, st4⟩ := getF X3 hx hZ hown (host := "") (Or.inl (hw _ (List.mem_of_getElem? (i := 46) rfl))) Via.refl e3 F_o_name (g := (mkF m 17 #[.val (.ref t), .val (.ref o), .val (.ref o)] [(.ref o), (.ref s1)])) rfl rfl (hb hby d9_17)
  refine stp st4 ?_
  show Go p e below T4 (mkF m 20 #[.val (.ref t), .val (.ref o), .val (.ref o)] [(.ref s2), (.ref s1)]) _
  obtain ⟨cq5, kq5, q5a, q5b, q5c⟩ := isOf hZ e4 Q_s1.exa
  obtain ⟨_, _, ⟨T5, L5, k5, n5⟩, -, X5, ⟨Lc5, hQ5, l5, y5, z5⟩, st5⟩ := X4.virtualBack hx (y := (⟨"java/lang/String", "equals", "(Ljava/lang/Object;)Z"⟩ : MethodName)) (z := (⟨"java/lang/String", "equals", "(Ljava/lang/Object;)Z"⟩ : MethodName)) hown (mvT hZ (hw _ (List.mem_of_getElem? (i := 55) rfl))) (mvT hZ (hw _ (List.mem_of_getElem? (i := 56) rfl))) (notFace_of_selects (args := #[]) (mvT hZ (hw _ (List.mem_of_getElem? (i := 58) rfl)))) (mvT hZ (hw _ (List.mem_of_getElem? (i := 58) rfl))) (mvT hZ (hw _ (List.mem_of_getElem? (i := 57) rfl))) (by decide) (own_eqB (W := 0) hw hZ Q_s1 Q_s2 (S_COMPACT_STRINGS.ext O0.2) hcz (n0 := n0) (by decide) (by decide)) q5a q5c (g := (mkF m 20 #[.val (.ref t), .val (.ref o), .val (.ref o)] [(.ref s2), (.ref s1)])) rfl (by rw [hml]; rfl) (Steps.refl _) (argsL := [(.ref s2)]) (rest := []) (lenOf pd_10 rfl) rfl (by show 2 * 0 + _ ≤ _; exact Nat.le_of_eq rfl) (hb hby d9_20) (fun _ _ => ⟨rfl, e4, (by decide : 0 + 0 ≤ _), (by decide : 0 + 0 ≤ _)⟩)
  dsimp only [Pt.U, Pt.locs, Pt.cells, Pt.slots] at X5 l5 y5 z5 st5 hQ5
  subst y5 z5
  obtain ⟨rfl, N5q, e5⟩ := hQ5
  have N5 : Fr n0 L5 := by rw [l5]; exact Fr.app N0 N5q
  refine stt st5 ?_
  show Go p e below T5 (mkF m 23 #[.val (.ref t), .val (.ref o), .val (.ref o)] [(.int (if cs = ds then (1 : Int32) else (0 : Int32)))]) _
  by_cases q23_6 : (if cs = ds then (1 : Int32) else (0 : Int32)) = 0
  · refine stp (fun _ => XS.ifYes X5.here hx rfl (pc0 := 23) (pc' := 30) rfl (hb hby d9_23) rfl (XT.i0_eq_t q23_6) (by decide) (by decide)) ?_
    show Go p e below T5 (mkF m 30 #[.val (.ref t), .val (.ref o), .val (.ref o)] []) _
    refine stp (fun _ => XS.iconst X5.here hx rfl (hb hby d9_30)) ?_
    show Go p e below T5 (mkF m 31 #[.val (.ref t), .val (.ref o), .val (.ref o)] [(.int (0 : Int32))]) _
    refine outN X5 hx (t := .boolean) hret (by simp) (hb hby d9_31) hlk (by decide) (by decide) ?_
    exact ⟨by rw [own_if_f q23_6]; rfl, N5, e5⟩
  · refine stp (fun _ => XS.ifNo X5.here hx rfl (hb hby d9_23) rfl (XT.i0_eq_f q23_6)) ?_
    show Go p e below T5 (mkF m 26 #[.val (.ref t), .val (.ref o), .val (.ref o)] []) _
    refine stp (fun _ => XS.iconst X5.here hx rfl (hb hby d9_26)) ?_
    show Go p e below T5 (mkF m 27 #[.val (.ref t), .val (.ref o), .val (.ref o)] [(.int (1 : Int32))]) _
    refine stp (fun _ => XS.goto X5.here hx rfl (pc0 := 27) (pc' := 31) rfl (hb hby d9_27) (by decide) (by decide)) ?_
    show Go p e below T5 (mkF m 31 #[.val (.ref t), .val (.ref o), .val (.ref o)] [(.int (1 : Int32))]) _
    refine outN X5 hx (t := .boolean) hret (by simp) (hb hby d9_31) hlk (by decide) (by decide) ?_
    exact ⟨by rw [own_if_t q23_6]; rfl, N5, e5⟩
theorem ef_rm_eqp (m : MethodId) (t : Addr) (o : Addr)  : entryFrame m #[(.ref t), (.ref o)] 3 = mkF m 0 #[.val (.ref t), .val (.ref o), .unset] [] := by first | (simp [entryFrame, mkF, argsToLocals, Value.category]; done) | rfl
def Q_rm_eqp (Z : State) (t : Addr) (o : Addr)  (h0 : Heap) (n0 : Nat) (v : Option Value) (h : Heap) (L : List Loc) : Prop := v = some (.int (0 : Int32)) ∧ Fr n0 L ∧ h = h0
set_option maxRecDepth 65536 in
set_option maxHeartbeats 40000000 in
theorem rm_eqp (l : Launch) (Z : State) (a0 : Array Value) (hw : ∀ d ∈ tables_1, d.before a0 Z = true) (ws : List Jvm.Cond) (t : Addr) (o : Addr)  (h0 : Heap) (n0 : Nat) (O0 : Old Z n0 h0) (E_o : Exa Z h0 o "com/example/revlint/revlint/model/GenericType$TypeVariable") :
    MetFree l (⟨"com/example/revlint/revlint/model/GenericType$Primitive", "equals", "(Ljava/lang/Object;)Z"⟩ : MethodName) (head1 (Jvm.Cond.code (⟨"com/example/revlint/revlint/model/GenericType$Primitive", "equals", "(Ljava/lang/Object;)Z"⟩ : MethodName) prog_21_method_2_code 3 (some .boolean) :: ws) ({ frames := 0, cells := 0, slots := 0, locals := 0 } : Room)) (fun args_ U => args_ = #[(.ref t), (.ref o)] ∧ Z.Warmed39 U.vm ∧ U.heap = h0) (fun _ _ _ _ _ => True) (fun _ U out_ U' => ∃ val_ loc_, out_ = .returned val_ ∧ (Q_rm_eqp Z t o h0 n0) val_ U'.heap loc_ ∧ FrameEnd U out_ U' loc_ ({ frames := 0, cells := 0, slots := 0, locals := 0 } : Room).cells ({ frames := 0, cells := 0, slots := 0, locals := 0 } : Room).slots) := by
  refine start (Q := (Q_rm_eqp Z t o h0 n0)) pn_16 ?_
  intro p e s m below meth c T0 X0 hx hby hml hown hnm hret hlk hZ e0
  replace hown : s.vm.findClass "com/example/revlint/revlint/model/GenericType$Primitive" = some m.cls := hown
  replace hml : c.maxLocals = 3 := hml
  refine goAt (ef_rm_eqp m t o ) ?_
  have N0 := Fr.nil n0
  show Go p e below T0 (mkF m 0 #[.val (.ref t), .val (.ref o), .unset] []) _
  refine stp (fun _ => XS.aloadN X0.here hx rfl (hb hby d9_0) rfl rfl) ?_
  show Go p e below T0 (mkF m 1 #[.val (.ref t), .val (.ref o), .unset] [(.ref o)]) _
  obtain ⟨T1, X1, e1, st1⟩ := instNo X0 hx hZ hown (hw _ (List.mem_of_getElem? (i := 53) rfl)) e0 E_o (NSno (hw _ (List.mem_of_getElem? (i := 94) rfl)) (hw _ (List.mem_of_getElem? (i := 30) rfl)) (NS.step (hw _ (List.mem_of_getElem? (i := 94) rfl)) (NS.step (hw _ (List.mem_of_getElem? (i := 95) rfl)) (NSroot (hw _ (List.mem_of_getElem? (i := 61) rfl)) (hw _ (List.mem_of_getElem? (i := 30) rfl)) (by decide)) (by decide)) (by decide)) (by decide)) (g := (mkF m 1 #[.val (.ref t), .val (.ref o), .unset] [(.ref o)])) rfl rfl (hb hby d9_1)
  refine stp st1 ?_
  show Go p e below T1 (mkF m 4 #[.val (.ref t), .val (.ref o), .unset] [(.int (0 : Int32))]) _
  refine stp (fun _ => XS.ifYes X1.here hx rfl (pc0 := 4) (pc' := 30) rfl (hb hby d9_4) rfl (by decide) (by decide) (by decide)) ?_
  show Go p e below T1 (mkF m 30 #[.val (.ref t), .val (.ref o), .unset] []) _
  refine stp (fun _ => XS.iconst X1.here hx rfl (hb hby d9_30)) ?_
  show Go p e below T1 (mkF m 31 #[.val (.ref t), .val (.ref o), .unset] [(.int (0 : Int32))]) _
  refine outN X1 hx (t := .boolean) hret (by simp) (hb hby d9_31) hlk (by decide) (by decide) ?_
  exact ⟨rfl, N0, e1⟩
theorem ef_rm_eqs (m : MethodId) (t : Addr) (o : Addr)  : entryFrame m #[(.ref t), (.ref o)] 3 = mkF m 0 #[.val (.ref t), .val (.ref o), .unset] [] := by first | (simp [entryFrame, mkF, argsToLocals, Value.category]; done) | rfl
def Q_rm_eqs (Z : State) (t : Addr) (o : Addr)  (h0 : Heap) (n0 : Nat) (v : Option Value) (h : Heap) (L : List Loc) : Prop := v = some (.int (0 : Int32)) ∧ Fr n0 L ∧ h = h0
set_option maxRecDepth 65536 in
set_option maxHeartbeats 40000000 in
theorem rm_eqs (l : Launch) (Z : State) (a0 : Array Value) (hw : ∀ d ∈ tables_1, d.before a0 Z = true) (ws : List Jvm.Cond) (t : Addr) (o : Addr)  (h0 : Heap) (n0 : Nat) (O0 : Old Z n0 h0) (E_o : Exa Z h0 o "java/lang/String") :
    MetFree l (⟨"com/example/revlint/revlint/model/GenericType$Primitive", "equals", "(Ljava/lang/Object;)Z"⟩ : MethodName) (head1 (Jvm.Cond.code (⟨"com/example/revlint/revlint/model/GenericType$Primitive", "equals", "(Ljava/lang/Object;)Z"⟩ : MethodName) prog_21_method_2_code 3 (some .boolean) :: ws) ({ frames := 0, cells := 0, slots := 0, locals := 0 } : Room)) (fun args_ U => args_ = #[(.ref t), (.ref o)] ∧ Z.Warmed39 U.vm ∧ U.heap = h0) (fun _ _ _ _ _ => True) (fun _ U out_ U' => ∃ val_ loc_, out_ = .returned val_ ∧ (Q_rm_eqs Z t o h0 n0) val_ U'.heap loc_ ∧ FrameEnd U out_ U' loc_ ({ frames := 0, cells := 0, slots := 0, locals := 0 } : Room).cells ({ frames := 0, cells := 0, slots := 0, locals := 0 } : Room).slots) := by
  refine start (Q := (Q_rm_eqs Z t o h0 n0)) pn_16 ?_
  intro p e s m below meth c T0 X0 hx hby hml hown hnm hret hlk hZ e0
  replace hown : s.vm.findClass "com/example/revlint/revlint/model/GenericType$Primitive" = some m.cls := hown
  replace hml : c.maxLocals = 3 := hml
  refine goAt (ef_rm_eqs m t o ) ?_
  have N0 := Fr.nil n0
  show Go p e below T0 (mkF m 0 #[.val (.ref t), .val (.ref o), .unset] []) _
  refine stp (fun _ => XS.aloadN X0.here hx rfl (hb hby d9_0) rfl rfl) ?_
  show Go p e below T0 (mkF m 1 #[.val (.ref t), .val (.ref o), .unset] [(.ref o)]) _
  obtain ⟨T1, X1, e1, st1⟩ := instNo X0 hx hZ hown (hw _ (List.mem_of_getElem? (i := 53) rfl)) e0 E_o (NSno (hw _ (List.mem_of_getElem? (i := 60) rfl)) (hw _ (List.mem_of_getElem? (i := 30) rfl)) (NS.step (hw _ (List.mem_of_getElem? (i := 60) rfl)) (NSroot (hw _ (List.mem_of_getElem? (i := 61) rfl)) (hw _ (List.mem_of_getElem? (i := 30) rfl)) (by decide)) (by decide)) (by decide)) (g := (mkF m 1 #[.val (.ref t), .val (.ref o), .unset] [(.ref o)])) rfl rfl (hb hby d9_1)
  refine stp st1 ?_
  show Go p e below T1 (mkF m 4 #[.val (.ref t), .val (.ref o), .unset] [(.int (0 : Int32))]) _
  refine stp (fun _ => XS.ifYes X1.here hx rfl (pc0 := 4) (pc' := 30) rfl (hb hby d9_4) rfl (by decide) (by decide) (by decide)) ?_
  show Go p e below T1 (mkF m 30 #[.val (.ref t), .val (.ref o), .unset] []) _
  refine stp (fun _ => XS.iconst X1.here hx rfl (hb hby d9_30)) ?_
  show Go p e below T1 (mkF m 31 #[.val (.ref t), .val (.ref o), .unset] [(.int (0 : Int32))]) _
  refine outN X1 hx (t := .boolean) hret (by simp) (hb hby d9_31) hlk (by decide) (by decide) ?_
  exact ⟨rfl, N0, e1⟩
theorem ef_rm_eq0 (m : MethodId) (t : Addr)  : entryFrame m #[(.ref t), .null] 3 = mkF m 0 #[.val (.ref t), .val .null, .unset] [] := by first | (simp [entryFrame, mkF, argsToLocals, Value.category]; done) | rfl
def Q_rm_eq0 (Z : State) (t : Addr)  (h0 : Heap) (n0 : Nat) (v : Option Value) (h : Heap) (L : List Loc) : Prop := v = some (.int (0 : Int32)) ∧ Fr n0 L ∧ h = h0
set_option maxRecDepth 65536 in
set_option maxHeartbeats 40000000 in
theorem rm_eq0 (l : Launch) (Z : State) (a0 : Array Value) (hw : ∀ d ∈ tables_1, d.before a0 Z = true) (ws : List Jvm.Cond) (t : Addr)  (h0 : Heap) (n0 : Nat) (O0 : Old Z n0 h0)  :
    MetFree l (⟨"com/example/revlint/revlint/model/GenericType$Primitive", "equals", "(Ljava/lang/Object;)Z"⟩ : MethodName) (head1 (Jvm.Cond.code (⟨"com/example/revlint/revlint/model/GenericType$Primitive", "equals", "(Ljava/lang/Object;)Z"⟩ : MethodName) prog_21_method_2_code 3 (some .boolean) :: ws) ({ frames := 0, cells := 0, slots := 0, locals := 0 } : Room)) (fun args_ U => args_ = #[(.ref t), .null] ∧ Z.Warmed39 U.vm ∧ U.heap = h0) (fun _ _ _ _ _ => True) (fun _ U out_ U' => ∃ val_ loc_, out_ = .returned val_ ∧ (Q_rm_eq0 Z t h0 n0) val_ U'.heap loc_ ∧ FrameEnd U out_ U' loc_ ({ frames := 0, cells := 0, slots := 0, locals := 0 } : Room).cells ({ frames := 0, cells := 0, slots := 0, locals := 0 } : Room).slots) := by
  refine start (Q := (Q_rm_eq0 Z t h0 n0)) pn_16 ?_
  intro p e s m below meth c T0 X0 hx hby hml hown hnm hret hlk hZ e0
  replace hown : s.vm.findClass "com/example/revlint/revlint/model/GenericType$Primitive" = some m.cls := hown
  replace hml : c.maxLocals = 3 := hml
  refine goAt (ef_rm_eq0 m t ) ?_
  have N0 := Fr.nil n0
  show Go p e below T0 (mkF m 0 #[.val (.ref t), .val .null, .unset] []) _
  refine stp (fun _ => XS.aloadN X0.here hx rfl (hb hby d9_0) rfl rfl) ?_
  show Go p e below T0 (mkF m 1 #[.val (.ref t), .val .null, .unset] [.null]) _
  refine stp (fun _ => X0.instanceofNull hx (g := (mkF m 1 #[.val (.ref t), .val .null, .unset] [.null])) rfl rfl (hb hby d9_1) _) ?_
  show Go p e below T0 (mkF m 4 #[.val (.ref t), .val .null, .unset] [(.int (0 : Int32))]) _
  refine stp (fun _ => XS.ifYes X0.here hx rfl (pc0 := 4) (pc' := 30) rfl (hb hby d9_4) rfl (by decide) (by decide) (by decide)) ?_
  show Go p e below T0 (mkF m 30 #[.val (.ref t), .val .null, .unset] []) _
  refine stp (fun _ => XS.iconst X0.here hx rfl (hb hby d9_30)) ?_
  show Go p e below T0 (mkF m 31 #[.val (.ref t), .val .null, .unset] [(.int (0 : Int32))]) _
  refine outN X0 hx (t := .boolean) hret (by simp) (hb hby d9_31) hlk (by decide) (by decide) ?_
  exact ⟨rfl, N0, e0⟩
theorem pd_11 : parseMethodDescriptor "(I)Ljava/lang/String;" = some ⟨[.int], some (.object "java/lang/String")⟩ := by decide +kernel
theorem pd_12 : parseMethodDescriptor "(Ljava/lang/String;)V" = some ⟨[(.object "java/lang/String")], none⟩ := by decide +kernel
theorem pd_13 : parseMethodDescriptor "(II)Z" = some ⟨[.int, .int], some .boolean⟩ := by decide +kernel
theorem ef_rm0 (m : MethodId) (a : Int32) (b : Int32) (k : Int32)  : entryFrame m #[(.int a), (.int b), (.int k)] maxLocals = mkF m 0 #[.val (.int a), .val (.int b), .val (.int k), .unset, .unset, .unset, .unset, .unset, .unset, .unset] [] := by first | (simp [entryFrame, mkF, argsToLocals, Value.category, maxLocals]; done) | rfl
def Q_rm0 (Z : State) (a : Int32) (b : Int32) (k : Int32) (cz : Int32) (h0 : Heap) (n0 : Nat) (v : Option Value) (h : Heap) (L : List Loc) : Prop := v = some (.int 1) ∧ Fr n0 L
theorem pn_17_ : plainName "com/example/revlint/revlint/model/PrimitiveEqualsPinLaw" = true := by first | (simp [plainName, overriddenIn]; done) | decide +kernel
theorem pn_17 : plainFor (⟨"com/example/revlint/revlint/model/PrimitiveEqualsPinLaw", "law", "(III)Z"⟩ : MethodName) = true := plainFor_of_name pn_17_
set_option maxRecDepth 65536 in
set_option maxHeartbeats 40000000 in
theorem rm0 (l : Launch) (Z : State) (a0 : Array Value) (hw : ∀ d ∈ tables_1, d.before a0 Z = true) (ws : List Jvm.Cond) (a : Int32) (b : Int32) (k : Int32) (cz : Int32) (h0 : Heap) (n0 : Nat) (O0 : Old Z n0 h0) (hEL : EW Z a0 consts_1) (S_CS : Sta Z Z.heap "java/lang/String" "COMPACT_STRINGS" "Z" (.int cz)) (hcz : ¬ cz = (0 : Int32)) :
    MetFree l x (head1 (Jvm.Cond.code x code maxLocals ret :: ws) room_1) (fun args_ U => args_ = #[(.int a), (.int b), (.int k)] ∧ Z.Warmed39 U.vm ∧ U.heap = h0 ∧ CHv Z consts_1 U.vm h0) (fun _ _ _ _ _ => True) (fun _ U out_ U' => ∃ val_ loc_, out_ = .returned val_ ∧ (Q_rm0 Z a b k cz h0 n0) val_ U'.heap loc_ ∧ CHr Z consts_1 U.vm U.heap U'.vm U'.heap ∧ ReturnedEndW U out_ U' loc_ 14 62) := by
  refine startW (Q := (Q_rm0 Z a b k cz h0 n0)) (show plainFor x = true from pn_17) ?_
  intro p e s m below meth c T0 X0 hx hby hml hown hnm hret hlk hZ e0 hS CR
  have hk : 0 ≤ h0.size := Nat.zero_le _
  have wS : ∀ a ∈ Bundle.stringAtoms, a.before a0 Z = true := own_wS hw
  replace hown : s.vm.findClass "com/example/revlint/revlint/model/PrimitiveEqualsPinLaw" = some m.cls := hown
  replace hml : c.maxLocals = 10 := hml
  refine goAt (ef_rm0 m a b k ) ?_
  have N0 := Fr.nil n0
  show Go p e below T0 (mkF m 0 #[.val (.int a), .val (.int b), .val (.int k), .unset, .unset, .unset, .unset, .unset, .unset, .unset] []) _
  refine stp (fun _ => XS.iloadN X0.here hx rfl (hb hby at_0) rfl) ?_
  show Go p e below T0 (mkF m 1 #[.val (.int a), .val (.int b), .val (.int k), .unset, .unset, .unset, .unset, .unset, .unset, .unset] [(.int b)]) _
  refine stp (fun _ => XS.istoreN X0.here hx rfl (hb hby at_1) rfl (l' := #[.val (.int a), .val (.int b), .val (.int k), .val (.int b), .unset, .unset, .unset, .unset, .unset, .unset]) rfl) ?_
  show Go p e below T0 (mkF m 2 #[.val (.int a), .val (.int b), .val (.int k), .val (.int b), .unset, .unset, .unset, .unset, .unset, .unset] []) _
  refine stp (fun _ => XS.iloadN X0.here hx rfl (hb hby at_2) rfl) ?_
  show Go p e below T0 (mkF m 3 #[.val (.int a), .val (.int b), .val (.int k), .val (.int b), .unset, .unset, .unset, .unset, .unset, .unset] [(.int k)]) _
  refine stp (fun _ => XS.iconst X0.here hx rfl (hb hby at_3)) ?_
  show Go p e below T0 (mkF m 4 #[.val (.int a), .val (.int b), .val (.int k), .val (.int b), .unset, .unset, .unset, .unset, .unset, .unset] [(.int (4 : Int32)), (.int k)]) _
  refine stp (fun _ => XS.iand X0.here hx rfl (hb hby at_4) rfl) ?_
  show Go p e below T0 (mkF m 5 #[.val (.int a), .val (.int b), .val (.int k), .val (.int b), .unset, .unset, .unset, .unset, .unset, .unset] [(.int (k &&& (4 : Int32)))]) _
  have J : ∀ bb : Int32, Go p e below T0 (mkF m 15 #[.val (.int a), .val (.int b), .val (.int k), .val (.int bb), .unset, .unset, .unset, .unset, .unset, .unset] []) (PoW s Z consts_1 (Q_rm0 Z a b k cz h0 n0) 14 62) := by
    intro bb
    show Go p e below T0 (mkF m 15 #[.val (.int a), .val (.int b), .val (.int k), .val (.int bb), .unset, .unset, .unset, .unset, .unset, .unset] []) _
    refine stp (fun _ => XS.iloadN X0.here hx rfl (hb hby at_15) rfl) ?_
    show Go p e below T0 (mkF m 16 #[.val (.int a), .val (.int b), .val (.int k), .val (.int bb), .unset, .unset, .unset, .unset, .unset, .unset] [(.int a)]) _
    obtain ⟨_, _, ⟨T1, L1, k1, n1⟩, -, X1, hS1, gg1, ⟨Lc1, hQ1, l1, y1, z1, CRn1⟩, st1⟩ := callSS X0 hx (y := (⟨"com/example/revlint/revlint/model/PrimitiveEqualsPinLaw", "mk", "(I)Ljava/lang/String;"⟩ : MethodName)) hown (mvT hZ (hw _ (List.mem_of_getElem? (i := 0) rfl))) (mvT hZ (hw _ (List.mem_of_getElem? (i := 1) rfl))) (mvT hZ (hw _ (List.mem_of_getElem? (i := 2) rfl))) (mvT hZ (hw _ (List.mem_of_getElem? (i := 3) rfl))) (by decide) (backOfSH (W := 0) (rm_mk l Z a0 hw [] a cz h0 n0 O0 hEL S_CS hcz) hZ (hw _ (List.mem_of_getElem? (i := 3) rfl)) (hw _ (List.mem_of_getElem? (i := 2) rfl)) (by decide) (by decide) hEL CR.1) (g := (mkF m 16 #[.val (.int a), .val (.int b), .val (.int k), .val (.int bb), .unset, .unset, .unset, .unset, .unset, .unset] [(.int a)])) rfl (by rw [hml]; rfl) (argsL := [(.int a)]) (rest := []) (lenOf pd_11 rfl) rfl (by show 2 * 0 + _ ≤ _; exact Nat.le_of_eq rfl) (hb hby at_16) (fun _ _ => ⟨rfl, e0, (by decide : 0 + 4 ≤ _), (by decide : 0 + 10 ≤ _)⟩)
    dsimp only [Pt.U, Pt.locs, Pt.cells, Pt.slots] at X1 hS1 gg1 l1 y1 z1 st1 hQ1 CRn1
    subst y1 z1
    obtain ⟨X1, hS, hZ, hown⟩ := rebS hS (by rw [e0]; exact hk) X1 hS1 gg1 hZ hown
    obtain ⟨r1, rfl, N1q, K1q, ⟨ge_r1, sz1_r1⟩, r1_0⟩ := hQ1
    have N1 : Fr n0 L1 := by rw [l1]; exact Fr.app N0 N1q
    have sz_r1 : h0.size ≤ r1 := Nat.le_trans (Keep.refl h0 []).1 sz1_r1
    have K1 : Keep h0 T1.heap [] := (Keep.refl h0 []).trans K1q all0
    have O1 := O0.keep K1q all0
    have hk : T1.heap.size ≤ T1.heap.size := Nat.le_refl _
    have CR := CR.trans CRn1
    refine stt st1 ?_
    show Go p e below T1 (mkF m 19 #[.val (.int a), .val (.int b), .val (.int k), .val (.int bb), .unset, .unset, .unset, .unset, .unset, .unset] [(.ref r1)]) _
    refine stp (fun _ => XS.astore X1.here hx rfl (hb hby at_19) rfl rfl (l' := #[.val (.int a), .val (.int b), .val (.int k), .val (.int bb), .val (.ref r1), .unset, .unset, .unset, .unset, .unset]) rfl) ?_
    show Go p e below T1 (mkF m 21 #[.val (.int a), .val (.int b), .val (.int k), .val (.int bb), .val (.ref r1), .unset, .unset, .unset, .unset, .unset] []) _
    refine stp (fun _ => XS.iloadN X1.here hx rfl (hb hby at_21) rfl) ?_
    show Go p e below T1 (mkF m 22 #[.val (.int a), .val (.int b), .val (.int k), .val (.int bb), .val (.ref r1), .unset, .unset, .unset, .unset, .unset] [(.int bb)]) _
    obtain ⟨_, _, ⟨T2, L2, k2, n2⟩, -, X2, hS2, gg2, ⟨Lc2, hQ2, l2, y2, z2, CRn2⟩, st2⟩ := callSS X1 hx (y := (⟨"com/example/revlint/revlint/model/PrimitiveEqualsPinLaw", "mk", "(I)Ljava/lang/String;"⟩ : MethodName)) hown (mvT hZ (hw _ (List.mem_of_getElem? (i := 0) rfl))) (mvT hZ (hw _ (List.mem_of_getElem? (i := 1) rfl))) (mvT hZ (hw _ (List.mem_of_getElem? (i := 2) rfl))) (mvT hZ (hw _ (List.mem_of_getElem? (i := 3) rfl))) (by decide) (backOfSH (W := 0) (rm_mk l Z a0 hw [] bb cz T1.heap n0 O1 hEL S_CS hcz) hZ (hw _ (List.mem_of_getElem? (i := 3) rfl)) (hw _ (List.mem_of_getElem? (i := 2) rfl)) (by decide) (by decide) hEL CR.1) (g := (mkF m 22 #[.val (.int a), .val (.int b), .val (.int k), .val (.int bb), .val (.ref r1), .unset, .unset, .unset, .unset, .unset] [(.int bb)])) rfl (by rw [hml]; rfl) (argsL := [(.int bb)]) (rest := []) (lenOf pd_11 rfl) rfl (by show 2 * 0 + _ ≤ _; exact Nat.le_of_eq rfl) (hb hby at_22) (fun _ _ => ⟨rfl, rfl, (by decide : 4 + 4 ≤ _), (by decide : 10 + 10 ≤ _)⟩)
    dsimp only [Pt.U, Pt.locs, Pt.cells, Pt.slots] at X2 hS2 gg2 l2 y2 z2 st2 hQ2 CRn2
    subst y2 z2
    obtain ⟨X2, hS, hZ, hown⟩ := rebS hS hk X2 hS2 gg2 hZ hown
    obtain ⟨r2, rfl, N2q, K2q, ⟨ge_r2, sz2_r2⟩, r2_0⟩ := hQ2
    have N2 : Fr n0 L2 := by rw [l2]; exact Fr.app N1 N2q
    have ne3 : r1 ≠ r2 := Nat.ne_of_lt (Nat.lt_of_lt_of_le r1_0.lt sz2_r2)
    have f4 := r1_0.keep K2q nin0 apart0
    have f5 := r1_0.exa.keep K2q
    have sz_r2 : h0.size ≤ r2 := Nat.le_trans K1.1 sz2_r2
    have K2 : Keep h0 T2.heap [] := K1.trans K2q all0
    have O2 := O1.keep K2q all0
    have hk : T2.heap.size ≤ T2.heap.size := Nat.le_refl _
    have CR := CR.trans CRn2
    refine stt st2 ?_
    show Go p e below T2 (mkF m 25 #[.val (.int a), .val (.int b), .val (.int k), .val (.int bb), .val (.ref r1), .unset, .unset, .unset, .unset, .unset] [(.ref r2)]) _
    refine stp (fun _ => XS.astore X2.here hx rfl (hb hby at_25) rfl rfl (l' := #[.val (.int a), .val (.int b), .val (.int k), .val (.int bb), .val (.ref r1), .val (.ref r2), .unset, .unset, .unset, .unset]) rfl) ?_
    show Go p e below T2 (mkF m 27 #[.val (.int a), .val (.int b), .val (.int k), .val (.int bb), .val (.ref r1), .val (.ref r2), .unset, .unset, .unset, .unset] []) _
    obtain ⟨T6, h6, X6, e6, E6, A6, D6, -, st6⟩ := newO X2 hx hZ hown (hw _ (List.mem_of_getElem? (i := 29) rfl)) (hw _ (List.mem_of_getElem? (i := 30) rfl)) (hw _ (List.mem_of_getElem? (i := 31) rfl)) rfl (g := (mkF m 27 #[.val (.int a), .val (.int b), .val (.int k), .val (.int bb), .val (.ref r1), .val (.ref r2), .unset, .unset, .unset, .unset] [])) rfl (hb hby at_27) (by decide) (by decide)
    obtain ⟨b6, g6⟩ : ∃ z, z = T2.heap.size := ⟨_, rfl⟩
    rw [← g6] at A6 D6 st6
    have ne7 : r1 ≠ b6 := Nat.ne_of_lt (Nat.lt_of_lt_of_le f4.lt (Nat.le_of_eq g6.symm))
    have ne8 : r2 ≠ b6 := Nat.ne_of_lt (Nat.lt_of_lt_of_le r2_0.lt (Nat.le_of_eq g6.symm))
    have sz_b6 : h0.size ≤ b6 := Nat.le_trans K2.1 (Nat.le_of_eq g6.symm)
    have ge_b6 : n0 ≤ b6 := Nat.le_trans (old_le O2) (Nat.le_of_eq g6.symm)
    have f9 := f4.ext E6
    have f10 := f5.ext E6
    have f11 := r2_0.ext E6
    have f12 := r2_0.exa.ext E6
    have hk := Nat.le_trans hk E6.1
    have CR := CR.trans (CHr.ext E6 CR.1)
    have K6 : Keep h0 h6 [] := K2.ext E6
    have O6 := O2.ext E6
    have F13 : Fld Z h6 b6 "com/example/revlint/revlint/model/GenericType$Primitive" "name" "Ljava/lang/String;" .null := D6 (Or.inr (hw _ (List.mem_of_getElem? (i := 47) rfl))) (ty := (.object "java/lang/String")) (by decide)
    refine stp st6 ?_
    show Go p e below T6 (mkF m 30 #[.val (.int a), .val (.int b), .val (.int k), .val (.int bb), .val (.ref r1), .val (.ref r2), .unset, .unset, .unset, .unset] [(.ref b6)]) _
    refine stp (fun _ => XS.dup X6.here hx rfl (hb hby at_30) rfl rfl) ?_
    show Go p e below T6 (mkF m 31 #[.val (.int a), .val (.int b), .val (.int k), .val (.int bb), .val (.ref r1), .val (.ref r2), .unset, .unset, .unset, .unset] [(.ref b6), (.ref b6)]) _
    refine stp (fun _ => XS.aload X6.here hx rfl (hb hby at_31) rfl rfl) ?_
    show Go p e below T6 (mkF m 33 #[.val (.int a), .val (.int b), .val (.int k), .val (.int bb), .val (.ref r1), .val (.ref r2), .unset, .unset, .unset, .unset] [(.ref r1), (.ref b6), (.ref b6)]) _
    obtain ⟨_, _, ⟨T14, L14, k14, n14⟩, -, X14, hS14, gg14, ⟨Lc14, hQ14, l14, y14, z14, CRn14⟩, st14⟩ := X6.specialBackS hx (y := (⟨"com/example/revlint/revlint/model/GenericType$Primitive", "<init>", "(Ljava/lang/String;)V"⟩ : MethodName)) rfl hown (mvT hZ (hw _ (List.mem_of_getElem? (i := 32) rfl))) (mvT hZ (hw _ (List.mem_of_getElem? (i := 33) rfl))) (mvT hZ (hw _ (List.mem_of_getElem? (i := 34) rfl))) (by decide) (backOfSH (W := 1) (rm_pv l Z a0 hw [] b6 r1  h6 n0 O6 hEL A6 F13 ge_b6) hZ (hw _ (List.mem_of_getElem? (i := 34) rfl)) (hw _ (List.mem_of_getElem? (i := 31) rfl)) (by decide) (by decide) hEL CR.1) (g := (mkF m 33 #[.val (.int a), .val (.int b), .val (.int k), .val (.int bb), .val (.ref r1), .val (.ref r2), .unset, .unset, .unset, .unset] [(.ref r1), (.ref b6), (.ref b6)])) rfl (by rw [hml]; rfl) (Steps.refl _) (a := b6) (argsL := [(.ref r1)]) (rest := [(.ref b6)]) (lenOf pd_12 rfl) rfl (by show 2 * 0 + _ ≤ _; exact Nat.le_of_eq rfl) (hb hby at_33) (fun _ _ => ⟨rfl, e6, (by decide : 9 + 2 ≤ _), (by decide : 21 + 20 ≤ _)⟩)
    dsimp only [Pt.U, Pt.locs, Pt.cells, Pt.slots] at X14 hS14 gg14 l14 y14 z14 st14 hQ14 CRn14
    subst y14 z14
    obtain ⟨X14, hS, hZ, hown⟩ := rebS hS (by rw [e6]; exact hk) X14 hS14 gg14 hZ hown
    obtain ⟨rfl, N14q, K14q, r14_0, r14_1⟩ := hQ14
    have N14 : Fr n0 L14 := by rw [l14]; exact Fr.app N2 N14q
    have f15 := f9.keep K14q (ninS ne7 nin0) (apartS (Apart.exa A6 (hw _ (List.mem_of_getElem? (i := 30) rfl))) apart0)
    have f16 := f10.keep K14q
    have f17 := f11.keep K14q (ninS ne8 nin0) (apartS (Apart.exa A6 (hw _ (List.mem_of_getElem? (i := 30) rfl))) apart0)
    have f18 := f12.keep K14q
    have f19 := A6.keep K14q
    have K14 : Keep h0 T14.heap [] := K6.trans K14q (allS (Or.inr sz_b6) all0)
    have O14 := O6.keep K14q (allS ge_b6 all0)
    have hk : T14.heap.size ≤ T14.heap.size := Nat.le_refl _
    have CR := CR.trans CRn14
    refine stt st14 ?_
    show Go p e below T14 (mkF m 36 #[.val (.int a), .val (.int b), .val (.int k), .val (.int bb), .val (.ref r1), .val (.ref r2), .unset, .unset, .unset, .unset] [(.ref b6)]) _
    refine stp (fun _ => XS.astore X14.here hx rfl (hb hby at_36) rfl rfl (l' := #[.val (.int a), .val (.int b), .val (.int k), .val (.int bb), .val (.ref r1), .val (.ref r2), .val (.ref b6), .unset, .unset, .unset]) rfl) ?_
    show Go p e below T14 (mkF m 38 #[.val (.int a), .val (.int b), .val (.int k), .val (.int bb), .val (.ref r1), .val (.ref r2), .val (.ref b6), .unset, .unset, .unset] []) _
    refine stp (fun _ => XS.iloadN X14.here hx rfl (hb hby at_38) rfl) ?_
    show Go p e below T14 (mkF m 39 #[.val (.int a), .val (.int b), .val (.int k), .val (.int bb), .val (.ref r1), .val (.ref r2), .val (.ref b6), .unset, .unset, .unset] [(.int k)]) _
    refine stp (fun _ => XS.iconst X14.here hx rfl (hb hby at_39)) ?_
    show Go p e below T14 (mkF m 40 #[.val (.int a), .val (.int b), .val (.int k), .val (.int bb), .val (.ref r1), .val (.ref r2), .val (.ref b6), .unset, .unset, .unset] [(.int (3 : Int32)), (.int k)]) _
    refine stp (fun _ => XS.iand X14.here hx rfl (hb hby at_40) rfl) ?_
    show Go p e below T14 (mkF m 41 #[.val (.int a), .val (.int b), .val (.int k), .val (.int bb), .val (.ref r1), .val (.ref r2), .val (.ref b6), .unset, .unset, .unset] [(.int (k &&& (3 : Int32)))]) _
    refine stp (fun _ => XS.istore X14.here hx rfl (hb hby at_41) rfl (l' := #[.val (.int a), .val (.int b), .val (.int k), .val (.int bb), .val (.ref r1), .val (.ref r2), .val (.ref b6), .val (.int (k &&& (3 : Int32))), .unset, .unset]) rfl) ?_
    show Go p e below T14 (mkF m 43 #[.val (.int a), .val (.int b), .val (.int k), .val (.int bb), .val (.ref r1), .val (.ref r2), .val (.ref b6), .val (.int (k &&& (3 : Int32))), .unset, .unset] []) _
    obtain ⟨kd, hkd⟩ : ∃ z : Int32, z = (k &&& (3 : Int32)) := ⟨_, rfl⟩
    rw [← hkd]
    show Go p e below T14 (mkF m 43 #[.val (.int a), .val (.int b), .val (.int k), .val (.int bb), .val (.ref r1), .val (.ref r2), .val (.ref b6), .val (.int kd), .unset, .unset] []) _
    have hkd := own_kind hkd
    rcases hkd with rfl | rfl | rfl | rfl
    · show Go p e below T14 (mkF m 43 #[.val (.int a), .val (.int b), .val (.int k), .val (.int bb), .val (.ref r1), .val (.ref r2), .val (.ref b6), .val (.int (0 : Int32)), .unset, .unset] []) _
      refine stp (fun _ => XS.iload X14.here hx rfl (hb hby at_43) rfl) ?_
      show Go p e below T14 (mkF m 45 #[.val (.int a), .val (.int b), .val (.int k), .val (.int bb), .val (.ref r1), .val (.ref r2), .val (.ref b6), .val (.int (0 : Int32)), .unset, .unset] [(.int (0 : Int32))]) _
      refine stp (fun _ => XS.ifNo X14.here hx rfl (hb hby at_45) rfl (by decide)) ?_
      show Go p e below T14 (mkF m 48 #[.val (.int a), .val (.int b), .val (.int k), .val (.int bb), .val (.ref r1), .val (.ref r2), .val (.ref b6), .val (.int (0 : Int32)), .unset, .unset] []) _
      obtain ⟨T20, h20, X20, e20, E20, A20, D20, -, st20⟩ := newO X14 hx hZ hown (hw _ (List.mem_of_getElem? (i := 29) rfl)) (hw _ (List.mem_of_getElem? (i := 30) rfl)) (hw _ (List.mem_of_getElem? (i := 31) rfl)) rfl (g := (mkF m 48 #[.val (.int a), .val (.int b), .val (.int k), .val (.int bb), .val (.ref r1), .val (.ref r2), .val (.ref b6), .val (.int (0 : Int32)), .unset, .unset] [])) rfl (hb hby at_48) (by decide) (by decide)
      obtain ⟨b20, g20⟩ : ∃ z, z = T14.heap.size := ⟨_, rfl⟩
      rw [← g20] at A20 D20 st20
      have ne21 : b6 ≠ b20 := Nat.ne_of_lt (Nat.lt_of_lt_of_le r14_0.lt (Nat.le_of_eq g20.symm))
      have ne22 : r1 ≠ b20 := Nat.ne_of_lt (Nat.lt_of_lt_of_le f15.lt (Nat.le_of_eq g20.symm))
      have ne23 : r2 ≠ b20 := Nat.ne_of_lt (Nat.lt_of_lt_of_le f17.lt (Nat.le_of_eq g20.symm))
      have sz_b20 : h0.size ≤ b20 := Nat.le_trans K14.1 (Nat.le_of_eq g20.symm)
      have ge_b20 : n0 ≤ b20 := Nat.le_trans (old_le O14) (Nat.le_of_eq g20.symm)
      have f24 := f15.ext E20
      have f25 := f16.ext E20
      have f26 := f17.ext E20
      have f27 := f18.ext E20
      have f28 := r14_0.ext E20
      have f29 := r14_1.ext E20
      have hk := Nat.le_trans hk E20.1
      have CR := CR.trans (CHr.ext E20 CR.1)
      have K20 : Keep h0 h20 [] := K14.ext E20
      have O20 := O14.ext E20
      have F30 : Fld Z h20 b20 "com/example/revlint/revlint/model/GenericType$Primitive" "name" "Ljava/lang/String;" .null := D20 (Or.inr (hw _ (List.mem_of_getElem? (i := 47) rfl))) (ty := (.object "java/lang/String")) (by decide)
      refine stp st20 ?_
      show Go p e below T20 (mkF m 51 #[.val (.int a), .val (.int b), .val (.int k), .val (.int bb), .val (.ref r1), .val (.ref r2), .val (.ref b6), .val (.int (0 : Int32)), .unset, .unset] [(.ref b20)]) _
      refine stp (fun _ => XS.dup X20.here hx rfl (hb hby at_51) rfl rfl) ?_
      show Go p e below T20 (mkF m 52 #[.val (.int a), .val (.int b), .val (.int k), .val (.int bb), .val (.ref r1), .val (.ref r2), .val (.ref b6), .val (.int (0 : Int32)), .unset, .unset] [(.ref b20), (.ref b20)]) _
      refine stp (fun _ => XS.aload X20.here hx rfl (hb hby at_52) rfl rfl) ?_
      show Go p e below T20 (mkF m 54 #[.val (.int a), .val (.int b), .val (.int k), .val (.int bb), .val (.ref r1), .val (.ref r2), .val (.ref b6), .val (.int (0 : Int32)), .unset, .unset] [(.ref r2), (.ref b20), (.ref b20)]) _
      obtain ⟨_, _, ⟨T31, L31, k31, n31⟩, -, X31, hS31, gg31, ⟨Lc31, hQ31, l31, y31, z31, CRn31⟩, st31⟩ := X20.specialBackS hx (y := (⟨"com/example/revlint/revlint/model/GenericType$Primitive", "<init>", "(Ljava/lang/String;)V"⟩ : MethodName)) rfl hown (mvT hZ (hw _ (List.mem_of_getElem? (i := 32) rfl))) (mvT hZ (hw _ (List.mem_of_getElem? (i := 33) rfl))) (mvT hZ (hw _ (List.mem_of_getElem? (i := 34) rfl))) (by decide) (backOfSH (W := 1) (rm_pv l Z a0 hw [] b20 r2  h20 n0 O20 hEL A20 F30 ge_b20) hZ (hw _ (List.mem_of_getElem? (i := 34) rfl)) (hw _ (List.mem_of_getElem? (i := 31) rfl)) (by decide) (by decide) hEL CR.1) (g := (mkF m 54 #[.val (.int a), .val (.int b), .val (.int k), .val (.int bb), .val (.ref r1), .val (.ref r2), .val (.ref b6), .val (.int (0 : Int32)), .unset, .unset] [(.ref r2), (.ref b20), (.ref b20)])) rfl (by rw [hml]; rfl) (Steps.refl _) (a := b20) (argsL := [(.ref r2)]) (rest := [(.ref b20)]) (lenOf pd_12 rfl) rfl (by show 2 * 0 + _ ≤ _; exact Nat.le_of_eq rfl) (hb hby at_54) (fun _ _ => ⟨rfl, e20, (by decide : 12 + 2 ≤ _), (by decide : 42 + 20 ≤ _)⟩)
      dsimp only [Pt.U, Pt.locs, Pt.cells, Pt.slots] at X31 hS31 gg31 l31 y31 z31 st31 hQ31 CRn31
      subst y31 z31
      obtain ⟨X31, hS, hZ, hown⟩ := rebS hS (by rw [e20]; exact hk) X31 hS31 gg31 hZ hown
      obtain ⟨rfl, N31q, K31q, r31_0, r31_1⟩ := hQ31
      have N31 : Fr n0 L31 := by rw [l31]; exact Fr.app N14 N31q
      have f32 := f24.keep K31q (ninS ne22 nin0) (apartS (Apart.exa A20 (hw _ (List.mem_of_getElem? (i := 30) rfl))) apart0)
      have f33 := f25.keep K31q
      have f34 := f26.keep K31q (ninS ne23 nin0) (apartS (Apart.exa A20 (hw _ (List.mem_of_getElem? (i := 30) rfl))) apart0)
      have f35 := f27.keep K31q
      have f36 := f28.keep K31q
      have f37 := f29.keep K31q (ninS ne21 nin0)
      have f38 := A20.keep K31q
      have K31 : Keep h0 T31.heap [] := K20.trans K31q (allS (Or.inr sz_b20) all0)
      have O31 := O20.keep K31q (allS ge_b20 all0)
      have hk : T31.heap.size ≤ T31.heap.size := Nat.le_refl _
      have CR := CR.trans CRn31
      refine stt st31 ?_
      show Go p e below T31 (mkF m 57 #[.val (.int a), .val (.int b), .val (.int k), .val (.int bb), .val (.ref r1), .val (.ref r2), .val (.ref b6), .val (.int (0 : Int32)), .unset, .unset] [(.ref b20)]) _
      refine stp (fun _ => XS.astore X31.here hx rfl (hb hby at_57) rfl rfl (l' := #[.val (.int a), .val (.int b), .val (.int k), .val (.int bb), .val (.ref r1), .val (.ref r2), .val (.ref b6), .val (.int (0 : Int32)), .val (.ref b20), .unset]) rfl) ?_
      show Go p e below T31 (mkF m 59 #[.val (.int a), .val (.int b), .val (.int k), .val (.int bb), .val (.ref r1), .val (.ref r2), .val (.ref b6), .val (.int (0 : Int32)), .val (.ref b20), .unset] []) _
      refine stp (fun _ => XS.iloadN X31.here hx rfl (hb hby at_59) rfl) ?_
      show Go p e below T31 (mkF m 60 #[.val (.int a), .val (.int b), .val (.int k), .val (.int bb), .val (.ref r1), .val (.ref r2), .val (.ref b6), .val (.int (0 : Int32)), .val (.ref b20), .unset] [(.int a)]) _
      refine stp (fun _ => XS.iloadN X31.here hx rfl (hb hby at_60) rfl) ?_
      show Go p e below T31 (mkF m 61 #[.val (.int a), .val (.int b), .val (.int k), .val (.int bb), .val (.ref r1), .val (.ref r2), .val (.ref b6), .val (.int (0 : Int32)), .val (.ref b20), .unset] [(.int bb), (.int a)]) _
      obtain ⟨_, _, ⟨T39, L39, k39, n39⟩, -, X39, ⟨Lc39, hQ39, l39, y39, z39⟩, st39⟩ := Jvm.LawKit.callS X31 hx (y := (⟨"com/example/revlint/revlint/model/PrimitiveEqualsPinLaw", "same", "(II)Z"⟩ : MethodName)) hown (mvT hZ (hw _ (List.mem_of_getElem? (i := 110) rfl))) (mvT hZ (hw _ (List.mem_of_getElem? (i := 111) rfl))) (mvT hZ (hw _ (List.mem_of_getElem? (i := 2) rfl))) (mvT hZ (hw _ (List.mem_of_getElem? (i := 112) rfl))) (by decide) (backOf (W := 0) (rm_same l Z a0 hw [] a bb  T31.heap n0 O31 ) hZ (hw _ (List.mem_of_getElem? (i := 112) rfl)) (hw _ (List.mem_of_getElem? (i := 2) rfl)) (by decide) (by decide)) (g := (mkF m 61 #[.val (.int a), .val (.int b), .val (.int k), .val (.int bb), .val (.ref r1), .val (.ref r2), .val (.ref b6), .val (.int (0 : Int32)), .val (.ref b20), .unset] [(.int bb), (.int a)])) rfl (by rw [hml]; rfl) (argsL := [(.int a), (.int bb)]) (rest := []) (lenOf pd_13 rfl) rfl (by show 2 * 0 + _ ≤ _; exact Nat.le_of_eq rfl) (hb hby at_61) (fun _ _ => ⟨rfl, rfl, (by decide : 14 + 0 ≤ _), (by decide : 62 + 0 ≤ _)⟩)
      dsimp only [Pt.U, Pt.locs, Pt.cells, Pt.slots] at X39 l39 y39 z39 st39 hQ39
      subst y39 z39
      obtain ⟨rfl, N39q, e39⟩ := hQ39
      have N39 : Fr n0 L39 := by rw [l39]; exact Fr.app N31 N39q
      refine stp st39 ?_
      show Go p e below T39 (mkF m 64 #[.val (.int a), .val (.int b), .val (.int k), .val (.int bb), .val (.ref r1), .val (.ref r2), .val (.ref b6), .val (.int (0 : Int32)), .val (.ref b20), .unset] [(.int (own_same a bb))]) _
      refine stp (fun _ => XS.istore X39.here hx rfl (hb hby at_64) rfl (l' := #[.val (.int a), .val (.int b), .val (.int k), .val (.int bb), .val (.ref r1), .val (.ref r2), .val (.ref b6), .val (.int (0 : Int32)), .val (.ref b20), .val (.int (own_same a bb))]) rfl) ?_
      show Go p e below T39 (mkF m 66 #[.val (.int a), .val (.int b), .val (.int k), .val (.int bb), .val (.ref r1), .val (.ref r2), .val (.ref b6), .val (.int (0 : Int32)), .val (.ref b20), .val (.int (own_same a bb))] []) _
      refine stp (fun _ => XS.aload X39.here hx rfl (hb hby at_66) rfl rfl) ?_
      show Go p e below T39 (mkF m 68 #[.val (.int a), .val (.int b), .val (.int k), .val (.int bb), .val (.ref r1), .val (.ref r2), .val (.ref b6), .val (.int (0 : Int32)), .val (.ref b20), .val (.int (own_same a bb))] [(.ref b6)]) _
      refine stp (fun _ => XS.aload X39.here hx rfl (hb hby at_68) rfl rfl) ?_
      show Go p e below T39 (mkF m 70 #[.val (.int a), .val (.int b), .val (.int k), .val (.int bb), .val (.ref r1), .val (.ref r2), .val (.ref b6), .val (.int (0 : Int32)), .val (.ref b20), .val (.int (own_same a bb))] [(.ref b6), (.ref b6)]) _
      obtain ⟨cq40, kq40, q40a, q40b, q40c⟩ := isOf hZ e39 f36
      obtain ⟨_, _, ⟨T40, L40, k40, n40⟩, -, X40, ⟨Lc40, hQ40, l40, y40, z40⟩, st40⟩ := X39.virtualBack hx (y := (⟨"com/example/revlint/revlint/model/GenericType$Primitive", "equals", "(Ljava/lang/Object;)Z"⟩ : MethodName)) (z := (⟨"com/example/revlint/revlint/model/GenericType$Primitive", "equals", "(Ljava/lang/Object;)Z"⟩ : MethodName)) hown (mvT hZ (hw _ (List.mem_of_getElem? (i := 48) rfl))) (mvT hZ (hw _ (List.mem_of_getElem? (i := 49) rfl))) (notFace_of_selects (args := #[]) (mvT hZ (hw _ (List.mem_of_getElem? (i := 51) rfl)))) (mvT hZ (hw _ (List.mem_of_getElem? (i := 51) rfl))) (mvT hZ (hw _ (List.mem_of_getElem? (i := 50) rfl))) (by decide) (backOf (W := 0) (rm_eqt l Z a0 hw [] b6 b6 r1 r1 (own_cs a) (own_cs a) cz T31.heap n0 O31 f36 f37 f37 f32 f32 S_CS hcz) hZ (hw _ (List.mem_of_getElem? (i := 52) rfl)) (hw _ (List.mem_of_getElem? (i := 31) rfl)) (by decide) (by decide)) q40a q40c (g := (mkF m 70 #[.val (.int a), .val (.int b), .val (.int k), .val (.int bb), .val (.ref r1), .val (.ref r2), .val (.ref b6), .val (.int (0 : Int32)), .val (.ref b20), .val (.int (own_same a bb))] [(.ref b6), (.ref b6)])) rfl (by rw [hml]; rfl) (Steps.refl _) (argsL := [(.ref b6)]) (rest := []) (lenOf pd_10 rfl) rfl (by show 2 * 0 + _ ≤ _; exact Nat.le_of_eq rfl) (hb hby at_70) (fun _ _ => ⟨rfl, e39, (by decide : 14 + 0 ≤ _), (by decide : 62 + 0 ≤ _)⟩)
      dsimp only [Pt.U, Pt.locs, Pt.cells, Pt.slots] at X40 l40 y40 z40 st40 hQ40
      subst y40 z40
      obtain ⟨rfl, N40q, e40⟩ := hQ40
      have N40 : Fr n0 L40 := by rw [l40]; exact Fr.app N39 N40q
      refine stt st40 ?_
      show Go p e below T40 (mkF m 73 #[.val (.int a), .val (.int b), .val (.int k), .val (.int bb), .val (.ref r1), .val (.ref r2), .val (.ref b6), .val (.int (0 : Int32)), .val (.ref b20), .val (.int (own_same a bb))] [(.int (if (own_cs a) = (own_cs a) then (1 : Int32) else (0 : Int32)))]) _
      refine stp (fun _ => XS.ifNo X40.here hx rfl (hb hby at_73) rfl (XT.i0_eq_f (by rw [if_pos rfl]; decide))) ?_
      show Go p e below T40 (mkF m 76 #[.val (.int a), .val (.int b), .val (.int k), .val (.int bb), .val (.ref r1), .val (.ref r2), .val (.ref b6), .val (.int (0 : Int32)), .val (.ref b20), .val (.int (own_same a bb))] []) _
      refine stp (fun _ => XS.aload X40.here hx rfl (hb hby at_76) rfl rfl) ?_
      show Go p e below T40 (mkF m 78 #[.val (.int a), .val (.int b), .val (.int k), .val (.int bb), .val (.ref r1), .val (.ref r2), .val (.ref b6), .val (.int (0 : Int32)), .val (.ref b20), .val (.int (own_same a bb))] [(.ref b6)]) _
      refine stp (fun _ => XS.aload X40.here hx rfl (hb hby at_78) rfl rfl) ?_
      show Go p e below T40 (mkF m 80 #[.val (.int a), .val (.int b), .val (.int k), .val (.int bb), .val (.ref r1), .val (.ref r2), .val (.ref b6), .val (.int (0 : Int32)), .val (.ref b20), .val (.int (own_same a bb))] [(.ref b20), (.ref b6)]) _
      obtain ⟨cq41, kq41, q41a, q41b, q41c⟩ := isOf hZ e40 f36
      obtain ⟨_, _, ⟨T41, L41, k41, n41⟩, -, X41, ⟨Lc41, hQ41, l41, y41, z41⟩, st41⟩ := X40.virtualBack hx (y := (⟨"com/example/revlint/revlint/model/GenericType$Primitive", "equals", "(Ljava/lang/Object;)Z"⟩ : MethodName)) (z := (⟨"com/example/revlint/revlint/model/GenericType$Primitive", "equals", "(Ljava/lang/Object;)Z"⟩ : MethodName)) hown (mvT hZ (hw _ (List.mem_of_getElem? (i := 48) rfl))) (mvT hZ (hw _ (List.mem_of_getElem? (i := 49) rfl))) (notFace_of_selects (args := #[]) (mvT hZ (hw _ (List.mem_of_getElem? (i := 51) rfl)))) (mvT hZ (hw _ (List.mem_of_getElem? (i := 51) rfl))) (mvT hZ (hw _ (List.mem_of_getElem? (i := 50) rfl))) (by decide) (backOf (W := 0) (rm_eqt l Z a0 hw [] b6 b20 r1 r2 (own_cs a) (own_cs bb) cz T31.heap n0 O31 r31_0 f37 r31_1 f32 f34 S_CS hcz) hZ (hw _ (List.mem_of_getElem? (i := 52) rfl)) (hw _ (List.mem_of_getElem? (i := 31) rfl)) (by decide) (by decide)) q41a q41c (g := (mkF m 80 #[.val (.int a), .val (.int b), .val (.int k), .val (.int bb), .val (.ref r1), .val (.ref r2), .val (.ref b6), .val (.int (0 : Int32)), .val (.ref b20), .val (.int (own_same a bb))] [(.ref b20), (.ref b6)])) rfl (by rw [hml]; rfl) (Steps.refl _) (argsL := [(.ref b20)]) (rest := []) (lenOf pd_10 rfl) rfl (by show 2 * 0 + _ ≤ _; exact Nat.le_of_eq rfl) (hb hby at_80) (fun _ _ => ⟨rfl, e40, (by decide : 14 + 0 ≤ _), (by decide : 62 + 0 ≤ _)⟩)
      dsimp only [Pt.U, Pt.locs, Pt.cells, Pt.slots] at X41 l41 y41 z41 st41 hQ41
      subst y41 z41
      obtain ⟨rfl, N41q, e41⟩ := hQ41
      have N41 : Fr n0 L41 := by rw [l41]; exact Fr.app N40 N41q
      refine stt st41 ?_
      show Go p e below T41 (mkF m 83 #[.val (.int a), .val (.int b), .val (.int k), .val (.int bb), .val (.ref r1), .val (.ref r2), .val (.ref b6), .val (.int (0 : Int32)), .val (.ref b20), .val (.int (own_same a bb))] [(.int (if (own_cs a) = (own_cs bb) then (1 : Int32) else (0 : Int32)))]) _
      refine stp (fun _ => XS.iload X41.here hx rfl (hb hby at_83) rfl) ?_
      show Go p e below T41 (mkF m 85 #[.val (.int a), .val (.int b), .val (.int k), .val (.int bb), .val (.ref r1), .val (.ref r2), .val (.ref b6), .val (.int (0 : Int32)), .val (.ref b20), .val (.int (own_same a bb))] [(.int (own_same a bb)), (.int (if (own_cs a) = (own_cs bb) then (1 : Int32) else (0 : Int32)))]) _
      refine stp (fun _ => XS.icmpNo X41.here hx rfl (hb hby at_85) rfl (XT.ii_ne_f (own_same_eq a bb))) ?_
      show Go p e below T41 (mkF m 88 #[.val (.int a), .val (.int b), .val (.int k), .val (.int bb), .val (.ref r1), .val (.ref r2), .val (.ref b6), .val (.int (0 : Int32)), .val (.ref b20), .val (.int (own_same a bb))] []) _
      refine stp (fun _ => XS.aload X41.here hx rfl (hb hby at_88) rfl rfl) ?_
      show Go p e below T41 (mkF m 90 #[.val (.int a), .val (.int b), .val (.int k), .val (.int bb), .val (.ref r1), .val (.ref r2), .val (.ref b6), .val (.int (0 : Int32)), .val (.ref b20), .val (.int (own_same a bb))] [(.ref b20)]) _
      refine stp (fun _ => XS.aload X41.here hx rfl (hb hby at_90) rfl rfl) ?_
      show Go p e below T41 (mkF m 92 #[.val (.int a), .val (.int b), .val (.int k), .val (.int bb), .val (.ref r1), .val (.ref r2), .val (.ref b6), .val (.int (0 : Int32)), .val (.ref b20), .val (.int (own_same a bb))] [(.ref b6), (.ref b20)]) _
      obtain ⟨cq42, kq42, q42a, q42b, q42c⟩ := isOf hZ e41 r31_0
      obtain ⟨_, _, ⟨T42, L42, k42, n42⟩, -, X42, ⟨Lc42, hQ42, l42, y42, z42⟩, st42⟩ := X41.virtualBack hx (y := (⟨"com/example/revlint/revlint/model/GenericType$Primitive", "equals", "(Ljava/lang/Object;)Z"⟩ : MethodName)) (z := (⟨"com/example/revlint/revlint/model/GenericType$Primitive", "equals", "(Ljava/lang/Object;)Z"⟩ : MethodName)) hown (mvT hZ (hw _ (List.mem_of_getElem? (i := 48) rfl))) (mvT hZ (hw _ (List.mem_of_getElem? (i := 49) rfl))) (notFace_of_selects (args := #[]) (mvT hZ (hw _ (List.mem_of_getElem? (i := 51) rfl)))) (mvT hZ (hw _ (List.mem_of_getElem? (i := 51) rfl))) (mvT hZ (hw _ (List.mem_of_getElem? (i := 50) rfl))) (by decide) (backOf (W := 0) (rm_eqt l Z a0 hw [] b20 b6 r2 r1 (own_cs bb) (own_cs a) cz T31.heap n0 O31 f36 r31_1 f37 f34 f32 S_CS hcz) hZ (hw _ (List.mem_of_getElem? (i := 52) rfl)) (hw _ (List.mem_of_getElem? (i := 31) rfl)) (by decide) (by decide)) q42a q42c (g := (mkF m 92 #[.val (.int a), .val (.int b), .val (.int k), .val (.int bb), .val (.ref r1), .val (.ref r2), .val (.ref b6), .val (.int (0 : Int32)), .val (.ref b20), .val (.int (own_same a bb))] [(.ref b6), (.ref b20)])) rfl (by rw [hml]; rfl) (Steps.refl _) (argsL := [(.ref b6)]) (rest := []) (lenOf pd_10 rfl) rfl (by show 2 * 0 + _ ≤ _; exact Nat.le_of_eq rfl) (hb hby at_92) (fun _ _ => ⟨rfl, e41, (by decide : 14 + 0 ≤ _), (by decide : 62 + 0 ≤ _)⟩)
      dsimp only [Pt.U, Pt.locs, Pt.cells, Pt.slots] at X42 l42 y42 z42 st42 hQ42
      subst y42 z42
      obtain ⟨rfl, N42q, e42⟩ := hQ42
      have N42 : Fr n0 L42 := by rw [l42]; exact Fr.app N41 N42q
      refine stt st42 ?_
      show Go p e below T42 (mkF m 95 #[.val (.int a), .val (.int b), .val (.int k), .val (.int bb), .val (.ref r1), .val (.ref r2), .val (.ref b6), .val (.int (0 : Int32)), .val (.ref b20), .val (.int (own_same a bb))] [(.int (if (own_cs bb) = (own_cs a) then (1 : Int32) else (0 : Int32)))]) _
      refine stp (fun _ => XS.iload X42.here hx rfl (hb hby at_95) rfl) ?_
      show Go p e below T42 (mkF m 97 #[.val (.int a), .val (.int b), .val (.int k), .val (.int bb), .val (.ref r1), .val (.ref r2), .val (.ref b6), .val (.int (0 : Int32)), .val (.ref b20), .val (.int (own_same a bb))] [(.int (own_same a bb)), (.int (if (own_cs bb) = (own_cs a) then (1 : Int32) else (0 : Int32)))]) _
      refine stp (fun _ => XS.icmpNo X42.here hx rfl (hb hby at_97) rfl (XT.ii_ne_f (own_same_eq' a bb))) ?_
      show Go p e below T42 (mkF m 100 #[.val (.int a), .val (.int b), .val (.int k), .val (.int bb), .val (.ref r1), .val (.ref r2), .val (.ref b6), .val (.int (0 : Int32)), .val (.ref b20), .val (.int (own_same a bb))] []) _
      refine stp (fun _ => XS.iconst X42.here hx rfl (hb hby at_100)) ?_
      show Go p e below T42 (mkF m 101 #[.val (.int a), .val (.int b), .val (.int k), .val (.int bb), .val (.ref r1), .val (.ref r2), .val (.ref b6), .val (.int (0 : Int32)), .val (.ref b20), .val (.int (own_same a bb))] [(.int (1 : Int32))]) _
      refine stp (fun _ => XS.goto X42.here hx rfl (pc0 := 101) (pc' := 105) rfl (hb hby at_101) (by decide) (by decide)) ?_
      show Go p e below T42 (mkF m 105 #[.val (.int a), .val (.int b), .val (.int k), .val (.int bb), .val (.ref r1), .val (.ref r2), .val (.ref b6), .val (.int (0 : Int32)), .val (.ref b20), .val (.int (own_same a bb))] [(.int (1 : Int32))]) _
      refine outNW X42 hx hZ hEL e42 hS hk CR (t := .boolean) hret (by simp) (hb hby at_105) hlk (by decide) (by decide) ?_
      exact ⟨rfl, N42⟩
    · show Go p e below T14 (mkF m 43 #[.val (.int a), .val (.int b), .val (.int k), .val (.int bb), .val (.ref r1), .val (.ref r2), .val (.ref b6), .val (.int (1 : Int32)), .unset, .unset] []) _
      refine stp (fun _ => XS.iload X14.here hx rfl (hb hby at_43) rfl) ?_
      show Go p e below T14 (mkF m 45 #[.val (.int a), .val (.int b), .val (.int k), .val (.int bb), .val (.ref r1), .val (.ref r2), .val (.ref b6), .val (.int (1 : Int32)), .unset, .unset] [(.int (1 : Int32))]) _
      refine stp (fun _ => XS.ifYes X14.here hx rfl (pc0 := 45) (pc' := 106) rfl (hb hby at_45) rfl (by decide) (by decide) (by decide)) ?_
      show Go p e below T14 (mkF m 106 #[.val (.int a), .val (.int b), .val (.int k), .val (.int bb), .val (.ref r1), .val (.ref r2), .val (.ref b6), .val (.int (1 : Int32)), .unset, .unset] []) _
      refine stp (fun _ => XS.iload X14.here hx rfl (hb hby at_106) rfl) ?_
      show Go p e below T14 (mkF m 108 #[.val (.int a), .val (.int b), .val (.int k), .val (.int bb), .val (.ref r1), .val (.ref r2), .val (.ref b6), .val (.int (1 : Int32)), .unset, .unset] [(.int (1 : Int32))]) _
      refine stp (fun _ => XS.iconst X14.here hx rfl (hb hby at_108)) ?_
      show Go p e below T14 (mkF m 109 #[.val (.int a), .val (.int b), .val (.int k), .val (.int bb), .val (.ref r1), .val (.ref r2), .val (.ref b6), .val (.int (1 : Int32)), .unset, .unset] [(.int (1 : Int32)), (.int (1 : Int32))]) _
      refine stp (fun _ => XS.icmpNo X14.here hx rfl (hb hby at_109) rfl (by decide)) ?_
      show Go p e below T14 (mkF m 112 #[.val (.int a), .val (.int b), .val (.int k), .val (.int bb), .val (.ref r1), .val (.ref r2), .val (.ref b6), .val (.int (1 : Int32)), .unset, .unset] []) _
      obtain ⟨T43, h43, X43, e43, E43, A43, D43, -, st43⟩ := newO X14 hx hZ hown (hw _ (List.mem_of_getElem? (i := 83) rfl)) (hw _ (List.mem_of_getElem? (i := 84) rfl)) (hw _ (List.mem_of_getElem? (i := 85) rfl)) rfl (g := (mkF m 112 #[.val (.int a), .val (.int b), .val (.int k), .val (.int bb), .val (.ref r1), .val (.ref r2), .val (.ref b6), .val (.int (1 : Int32)), .unset, .unset] [])) rfl (hb hby at_112) (by decide) (by decide)
      obtain ⟨b43, g43⟩ : ∃ z, z = T14.heap.size := ⟨_, rfl⟩
      rw [← g43] at A43 D43 st43
      have ne44 : b6 ≠ b43 := Nat.ne_of_lt (Nat.lt_of_lt_of_le r14_0.lt (Nat.le_of_eq g43.symm))
      have ne45 : r1 ≠ b43 := Nat.ne_of_lt (Nat.lt_of_lt_of_le f15.lt (Nat.le_of_eq g43.symm))
      have ne46 : r2 ≠ b43 := Nat.ne_of_lt (Nat.lt_of_lt_of_le f17.lt (Nat.le_of_eq g43.symm))
      have sz_b43 : h0.size ≤ b43 := Nat.le_trans K14.1 (Nat.le_of_eq g43.symm)
      have ge_b43 : n0 ≤ b43 := Nat.le_trans (old_le O14) (Nat.le_of_eq g43.symm)
      have f47 := f15.ext E43
      have f48 := f16.ext E43
      have f49 := f17.ext E43
      have f50 := f18.ext E43
      have f51 := r14_0.ext E43
      have f52 := r14_1.ext E43
      have hk := Nat.le_trans hk E43.1
      have CR := CR.trans (CHr.ext E43 CR.1)
      have K43 : Keep h0 h43 [] := K14.ext E43
      have O43 := O14.ext E43
      have F53 : Fld Z h43 b43 "com/example/revlint/revlint/model/GenericType$TypeVariable" "name" "Ljava/lang/String;" .null := D43 (Or.inr (hw _ (List.mem_of_getElem? (i := 93) rfl))) (ty := (.object "java/lang/String")) (by decide)
      refine stp st43 ?_
      show Go p e below T43 (mkF m 115 #[.val (.int a), .val (.int b), .val (.int k), .val (.int bb), .val (.ref r1), .val (.ref r2), .val (.ref b6), .val (.int (1 : Int32)), .unset, .unset] [(.ref b43)]) _
      refine stp (fun _ => XS.dup X43.here hx rfl (hb hby at_115) rfl rfl) ?_
      show Go p e below T43 (mkF m 116 #[.val (.int a), .val (.int b), .val (.int k), .val (.int bb), .val (.ref r1), .val (.ref r2), .val (.ref b6), .val (.int (1 : Int32)), .unset, .unset] [(.ref b43), (.ref b43)]) _
      refine stp (fun _ => XS.aload X43.here hx rfl (hb hby at_116) rfl rfl) ?_
      show Go p e below T43 (mkF m 118 #[.val (.int a), .val (.int b), .val (.int k), .val (.int bb), .val (.ref r1), .val (.ref r2), .val (.ref b6), .val (.int (1 : Int32)), .unset, .unset] [(.ref r2), (.ref b43), (.ref b43)]) _
      obtain ⟨_, _, ⟨T54, L54, k54, n54⟩, -, X54, hS54, gg54, ⟨Lc54, hQ54, l54, y54, z54, CRn54⟩, st54⟩ := X43.specialBackS hx (y := (⟨"com/example/revlint/revlint/model/GenericType$TypeVariable", "<init>", "(Ljava/lang/String;)V"⟩ : MethodName)) rfl hown (mvT hZ (hw _ (List.mem_of_getElem? (i := 86) rfl))) (mvT hZ (hw _ (List.mem_of_getElem? (i := 87) rfl))) (mvT hZ (hw _ (List.mem_of_getElem? (i := 88) rfl))) (by decide) (backOfSH (W := 1) (rm_tv l Z a0 hw [] b43 r2  h43 n0 O43 hEL A43 F53 ge_b43) hZ (hw _ (List.mem_of_getElem? (i := 88) rfl)) (hw _ (List.mem_of_getElem? (i := 85) rfl)) (by decide) (by decide) hEL CR.1) (g := (mkF m 118 #[.val (.int a), .val (.int b), .val (.int k), .val (.int bb), .val (.ref r1), .val (.ref r2), .val (.ref b6), .val (.int (1 : Int32)), .unset, .unset] [(.ref r2), (.ref b43), (.ref b43)])) rfl (by rw [hml]; rfl) (Steps.refl _) (a := b43) (argsL := [(.ref r2)]) (rest := [(.ref b43)]) (lenOf pd_12 rfl) rfl (by show 2 * 0 + _ ≤ _; exact Nat.le_of_eq rfl) (hb hby at_118) (fun _ _ => ⟨rfl, e43, (by decide : 12 + 2 ≤ _), (by decide : 42 + 20 ≤ _)⟩)
      dsimp only [Pt.U, Pt.locs, Pt.cells, Pt.slots] at X54 hS54 gg54 l54 y54 z54 st54 hQ54 CRn54
      subst y54 z54
      obtain ⟨X54, hS, hZ, hown⟩ := rebS hS (by rw [e43]; exact hk) X54 hS54 gg54 hZ hown
      obtain ⟨rfl, N54q, K54q, r54_0, r54_1⟩ := hQ54
      have N54 : Fr n0 L54 := by rw [l54]; exact Fr.app N14 N54q
      have f55 := f47.keep K54q (ninS ne45 nin0) (apartS (Apart.exa A43 (hw _ (List.mem_of_getElem? (i := 84) rfl))) apart0)
      have f56 := f48.keep K54q
      have f57 := f49.keep K54q (ninS ne46 nin0) (apartS (Apart.exa A43 (hw _ (List.mem_of_getElem? (i := 84) rfl))) apart0)
      have f58 := f50.keep K54q
      have f59 := f51.keep K54q
      have f60 := f52.keep K54q (ninS ne44 nin0)
      have f61 := A43.keep K54q
      have K54 : Keep h0 T54.heap [] := K43.trans K54q (allS (Or.inr sz_b43) all0)
      have O54 := O43.keep K54q (allS ge_b43 all0)
      have hk : T54.heap.size ≤ T54.heap.size := Nat.le_refl _
      have CR := CR.trans CRn54
      refine stt st54 ?_
      show Go p e below T54 (mkF m 121 #[.val (.int a), .val (.int b), .val (.int k), .val (.int bb), .val (.ref r1), .val (.ref r2), .val (.ref b6), .val (.int (1 : Int32)), .unset, .unset] [(.ref b43)]) _
      refine stp (fun _ => XS.astore X54.here hx rfl (hb hby at_121) rfl rfl (l' := #[.val (.int a), .val (.int b), .val (.int k), .val (.int bb), .val (.ref r1), .val (.ref r2), .val (.ref b6), .val (.int (1 : Int32)), .val (.ref b43), .unset]) rfl) ?_
      show Go p e below T54 (mkF m 123 #[.val (.int a), .val (.int b), .val (.int k), .val (.int bb), .val (.ref r1), .val (.ref r2), .val (.ref b6), .val (.int (1 : Int32)), .val (.ref b43), .unset] []) _
      refine stp (fun _ => XS.aload X54.here hx rfl (hb hby at_123) rfl rfl) ?_
      show Go p e below T54 (mkF m 125 #[.val (.int a), .val (.int b), .val (.int k), .val (.int bb), .val (.ref r1), .val (.ref r2), .val (.ref b6), .val (.int (1 : Int32)), .val (.ref b43), .unset] [(.ref b6)]) _
      refine stp (fun _ => XS.aload X54.here hx rfl (hb hby at_125) rfl rfl) ?_
      show Go p e below T54 (mkF m 127 #[.val (.int a), .val (.int b), .val (.int k), .val (.int bb), .val (.ref r1), .val (.ref r2), .val (.ref b6), .val (.int (1 : Int32)), .val (.ref b43), .unset] [(.ref b6), (.ref b6)]) _
      obtain ⟨cq62, kq62, q62a, q62b, q62c⟩ := isOf hZ rfl f59
      obtain ⟨_, _, ⟨T62, L62, k62, n62⟩, -, X62, ⟨Lc62, hQ62, l62, y62, z62⟩, st62⟩ := X54.virtualBack hx (y := (⟨"com/example/revlint/revlint/model/GenericType$Primitive", "equals", "(Ljava/lang/Object;)Z"⟩ : MethodName)) (z := (⟨"com/example/revlint/revlint/model/GenericType$Primitive", "equals", "(Ljava/lang/Object;)Z"⟩ : MethodName)) hown (mvT hZ (hw _ (List.mem_of_getElem? (i := 48) rfl))) (mvT hZ (hw _ (List.mem_of_getElem? (i := 49) rfl))) (notFace_of_selects (args := #[]) (mvT hZ (hw _ (List.mem_of_getElem? (i := 51) rfl)))) (mvT hZ (hw _ (List.mem_of_getElem? (i := 51) rfl))) (mvT hZ (hw _ (List.mem_of_getElem? (i := 50) rfl))) (by decide) (backOf (W := 0) (rm_eqt l Z a0 hw [] b6 b6 r1 r1 (own_cs a) (own_cs a) cz T54.heap n0 O54 f59 f60 f60 f55 f55 S_CS hcz) hZ (hw _ (List.mem_of_getElem? (i := 52) rfl)) (hw _ (List.mem_of_getElem? (i := 31) rfl)) (by decide) (by decide)) q62a q62c (g := (mkF m 127 #[.val (.int a), .val (.int b), .val (.int k), .val (.int bb), .val (.ref r1), .val (.ref r2), .val (.ref b6), .val (.int (1 : Int32)), .val (.ref b43), .unset] [(.ref b6), (.ref b6)])) rfl (by rw [hml]; rfl) (Steps.refl _) (argsL := [(.ref b6)]) (rest := []) (lenOf pd_10 rfl) rfl (by show 2 * 0 + _ ≤ _; exact Nat.le_of_eq rfl) (hb hby at_127) (fun _ _ => ⟨rfl, rfl, (by decide : 14 + 0 ≤ _), (by decide : 62 + 0 ≤ _)⟩)
      dsimp only [Pt.U, Pt.locs, Pt.cells, Pt.slots] at X62 l62 y62 z62 st62 hQ62
      subst y62 z62
      obtain ⟨rfl, N62q, e62⟩ := hQ62
      have N62 : Fr n0 L62 := by rw [l62]; exact Fr.app N54 N62q
      refine stt st62 ?_
      show Go p e below T62 (mkF m 130 #[.val (.int a), .val (.int b), .val (.int k), .val (.int bb), .val (.ref r1), .val (.ref r2), .val (.ref b6), .val (.int (1 : Int32)), .val (.ref b43), .unset] [(.int (if (own_cs a) = (own_cs a) then (1 : Int32) else (0 : Int32)))]) _
      refine stp (fun _ => XS.ifNo X62.here hx rfl (hb hby at_130) rfl (XT.i0_eq_f (by rw [if_pos rfl]; decide))) ?_
      show Go p e below T62 (mkF m 133 #[.val (.int a), .val (.int b), .val (.int k), .val (.int bb), .val (.ref r1), .val (.ref r2), .val (.ref b6), .val (.int (1 : Int32)), .val (.ref b43), .unset] []) _
      refine stp (fun _ => XS.aload X62.here hx rfl (hb hby at_133) rfl rfl) ?_
      show Go p e below T62 (mkF m 135 #[.val (.int a), .val (.int b), .val (.int k), .val (.int bb), .val (.ref r1), .val (.ref r2), .val (.ref b6), .val (.int (1 : Int32)), .val (.ref b43), .unset] [(.ref b6)]) _
      refine stp (fun _ => XS.aload X62.here hx rfl (hb hby at_135) rfl rfl) ?_
      show Go p e below T62 (mkF m 137 #[.val (.int a), .val (.int b), .val (.int k), .val (.int bb), .val (.ref r1), .val (.ref r2), .val (.ref b6), .val (.int (1 : Int32)), .val (.ref b43), .unset] [(.ref b43), (.ref b6)]) _
      obtain ⟨cq63, kq63, q63a, q63b, q63c⟩ := isOf hZ e62 f59
      obtain ⟨_, _, ⟨T63, L63, k63, n63⟩, -, X63, ⟨Lc63, hQ63, l63, y63, z63⟩, st63⟩ := X62.virtualBack hx (y := (⟨"com/example/revlint/revlint/model/GenericType$Primitive", "equals", "(Ljava/lang/Object;)Z"⟩ : MethodName)) (z := (⟨"com/example/revlint/revlint/model/GenericType$Primitive", "equals", "(Ljava/lang/Object;)Z"⟩ : MethodName)) hown (mvT hZ (hw _ (List.mem_of_getElem? (i := 48) rfl))) (mvT hZ (hw _ (List.mem_of_getElem? (i := 49) rfl))) (notFace_of_selects (args := #[]) (mvT hZ (hw _ (List.mem_of_getElem? (i := 51) rfl)))) (mvT hZ (hw _ (List.mem_of_getElem? (i := 51) rfl))) (mvT hZ (hw _ (List.mem_of_getElem? (i := 50) rfl))) (by decide) (backOf (W := 0) (rm_eqp l Z a0 hw [] b6 b43  T54.heap n0 O54 r54_0) hZ (hw _ (List.mem_of_getElem? (i := 52) rfl)) (hw _ (List.mem_of_getElem? (i := 31) rfl)) (by decide) (by decide)) q63a q63c (g := (mkF m 137 #[.val (.int a), .val (.int b), .val (.int k), .val (.int bb), .val (.ref r1), .val (.ref r2), .val (.ref b6), .val (.int (1 : Int32)), .val (.ref b43), .unset] [(.ref b43), (.ref b6)])) rfl (by rw [hml]; rfl) (Steps.refl _) (argsL := [(.ref b43)]) (rest := []) (lenOf pd_10 rfl) rfl (by show 2 * 0 + _ ≤ _; exact Nat.le_of_eq rfl) (hb hby at_137) (fun _ _ => ⟨rfl, e62, (by decide : 14 + 0 ≤ _), (by decide : 62 + 0 ≤ _)⟩)
      dsimp only [Pt.U, Pt.locs, Pt.cells, Pt.slots] at X63 l63 y63 z63 st63 hQ63
      subst y63 z63
      obtain ⟨rfl, N63q, e63⟩ := hQ63
      have N63 : Fr n0 L63 := by rw [l63]; exact Fr.app N62 N63q
      refine stt st63 ?_
      show Go p e below T63 (mkF m 140 #[.val (.int a), .val (.int b), .val (.int k), .val (.int bb), .val (.ref r1), .val (.ref r2), .val (.ref b6), .val (.int (1 : Int32)), .val (.ref b43), .unset] [(.int (0 : Int32))]) _
      refine stp (fun _ => XS.ifNo X63.here hx rfl (hb hby at_140) rfl (by decide)) ?_
      show Go p e below T63 (mkF m 143 #[.val (.int a), .val (.int b), .val (.int k), .val (.int bb), .val (.ref r1), .val (.ref r2), .val (.ref b6), .val (.int (1 : Int32)), .val (.ref b43), .unset] []) _
      refine stp (fun _ => XS.iconst X63.here hx rfl (hb hby at_143)) ?_
      show Go p e below T63 (mkF m 144 #[.val (.int a), .val (.int b), .val (.int k), .val (.int bb), .val (.ref r1), .val (.ref r2), .val (.ref b6), .val (.int (1 : Int32)), .val (.ref b43), .unset] [(.int (1 : Int32))]) _
      refine stp (fun _ => XS.goto X63.here hx rfl (pc0 := 144) (pc' := 148) rfl (hb hby at_144) (by decide) (by decide)) ?_
      show Go p e below T63 (mkF m 148 #[.val (.int a), .val (.int b), .val (.int k), .val (.int bb), .val (.ref r1), .val (.ref r2), .val (.ref b6), .val (.int (1 : Int32)), .val (.ref b43), .unset] [(.int (1 : Int32))]) _
      refine outNW X63 hx hZ hEL e63 hS hk CR (t := .boolean) hret (by simp) (hb hby at_148) hlk (by decide) (by decide) ?_
      exact ⟨rfl, N63⟩
    · show Go p e below T14 (mkF m 43 #[.val (.int a), .val (.int b), .val (.int k), .val (.int bb), .val (.ref r1), .val (.ref r2), .val (.ref b6), .val (.int (2 : Int32)), .unset, .unset] []) _
      refine stp (fun _ => XS.iload X14.here hx rfl (hb hby at_43) rfl) ?_
      show Go p e below T14 (mkF m 45 #[.val (.int a), .val (.int b), .val (.int k), .val (.int bb), .val (.ref r1), .val (.ref r2), .val (.ref b6), .val (.int (2 : Int32)), .unset, .unset] [(.int (2 : Int32))]) _
      refine stp (fun _ => XS.ifYes X14.here hx rfl (pc0 := 45) (pc' := 106) rfl (hb hby at_45) rfl (by decide) (by decide) (by decide)) ?_
      show Go p e below T14 (mkF m 106 #[.val (.int a), .val (.int b), .val (.int k), .val (.int bb), .val (.ref r1), .val (.ref r2), .val (.ref b6), .val (.int (2 : Int32)), .unset, .unset] []) _
      refine stp (fun _ => XS.iload X14.here hx rfl (hb hby at_106) rfl) ?_
      show Go p e below T14 (mkF m 108 #[.val (.int a), .val (.int b), .val (.int k), .val (.int bb), .val (.ref r1), .val (.ref r2), .val (.ref b6), .val (.int (2 : Int32)), .unset, .unset] [(.int (2 : Int32))]) _
      refine stp (fun _ => XS.iconst X14.here hx rfl (hb hby at_108)) ?_
      show Go p e below T14 (mkF m 109 #[.val (.int a), .val (.int b), .val (.int k), .val (.int bb), .val (.ref r1), .val (.ref r2), .val (.ref b6), .val (.int (2 : Int32)), .unset, .unset] [(.int (1 : Int32)), (.int (2 : Int32))]) _
      refine stp (fun _ => XS.icmpYes X14.here hx rfl (pc0 := 109) (pc' := 149) rfl (hb hby at_109) rfl (by decide) (by decide) (by decide)) ?_
      show Go p e below T14 (mkF m 149 #[.val (.int a), .val (.int b), .val (.int k), .val (.int bb), .val (.ref r1), .val (.ref r2), .val (.ref b6), .val (.int (2 : Int32)), .unset, .unset] []) _
      refine stp (fun _ => XS.iload X14.here hx rfl (hb hby at_149) rfl) ?_
      show Go p e below T14 (mkF m 151 #[.val (.int a), .val (.int b), .val (.int k), .val (.int bb), .val (.ref r1), .val (.ref r2), .val (.ref b6), .val (.int (2 : Int32)), .unset, .unset] [(.int (2 : Int32))]) _
      refine stp (fun _ => XS.iconst X14.here hx rfl (hb hby at_151)) ?_
      show Go p e below T14 (mkF m 152 #[.val (.int a), .val (.int b), .val (.int k), .val (.int bb), .val (.ref r1), .val (.ref r2), .val (.ref b6), .val (.int (2 : Int32)), .unset, .unset] [(.int (2 : Int32)), (.int (2 : Int32))]) _
      refine stp (fun _ => XS.icmpNo X14.here hx rfl (hb hby at_152) rfl (by decide)) ?_
      show Go p e below T14 (mkF m 155 #[.val (.int a), .val (.int b), .val (.int k), .val (.int bb), .val (.ref r1), .val (.ref r2), .val (.ref b6), .val (.int (2 : Int32)), .unset, .unset] []) _
      refine stp (fun _ => XS.aload X14.here hx rfl (hb hby at_155) rfl rfl) ?_
      show Go p e below T14 (mkF m 157 #[.val (.int a), .val (.int b), .val (.int k), .val (.int bb), .val (.ref r1), .val (.ref r2), .val (.ref b6), .val (.int (2 : Int32)), .unset, .unset] [(.ref b6)]) _
      refine stp (fun _ => XS.aload X14.here hx rfl (hb hby at_157) rfl rfl) ?_
      show Go p e below T14 (mkF m 159 #[.val (.int a), .val (.int b), .val (.int k), .val (.int bb), .val (.ref r1), .val (.ref r2), .val (.ref b6), .val (.int (2 : Int32)), .unset, .unset] [(.ref b6), (.ref b6)]) _
      obtain ⟨cq64, kq64, q64a, q64b, q64c⟩ := isOf hZ rfl r14_0
      obtain ⟨_, _, ⟨T64, L64, k64, n64⟩, -, X64, ⟨Lc64, hQ64, l64, y64, z64⟩, st64⟩ := X14.virtualBack hx (y := (⟨"com/example/revlint/revlint/model/GenericType$Primitive", "equals", "(Ljava/lang/Object;)Z"⟩ : MethodName)) (z := (⟨"com/example/revlint/revlint/model/GenericType$Primitive", "equals", "(Ljava/lang/Object;)Z"⟩ : MethodName)) hown (mvT hZ (hw _ (List.mem_of_getElem? (i := 48) rfl))) (mvT hZ (hw _ (List.mem_of_getElem? (i := 49) rfl))) (notFace_of_selects (args := #[]) (mvT hZ (hw _ (List.mem_of_getElem? (i := 51) rfl)))) (mvT hZ (hw _ (List.mem_of_getElem? (i := 51) rfl))) (mvT hZ (hw _ (List.mem_of_getElem? (i := 50) rfl))) (by decide) (backOf (W := 0) (rm_eqt l Z a0 hw [] b6 b6 r1 r1 (own_cs a) (own_cs a) cz T14.heap n0 O14 r14_0 r14_1 r14_1 f15 f15 S_CS hcz) hZ (hw _ (List.mem_of_getElem? (i := 52) rfl)) (hw _ (List.mem_of_getElem? (i := 31) rfl)) (by decide) (by decide)) q64a q64c (g := (mkF m 159 #[.val (.int a), .val (.int b), .val (.int k), .val (.int bb), .val (.ref r1), .val (.ref r2), .val (.ref b6), .val (.int (2 : Int32)), .unset, .unset] [(.ref b6), (.ref b6)])) rfl (by rw [hml]; rfl) (Steps.refl _) (argsL := [(.ref b6)]) (rest := []) (lenOf pd_10 rfl) rfl (by show 2 * 0 + _ ≤ _; exact Nat.le_of_eq rfl) (hb hby at_159) (fun _ _ => ⟨rfl, rfl, (by decide : 11 + 0 ≤ _), (by decide : 41 + 0 ≤ _)⟩)
      dsimp only [Pt.U, Pt.locs, Pt.cells, Pt.slots] at X64 l64 y64 z64 st64 hQ64
      subst y64 z64
      obtain ⟨rfl, N64q, e64⟩ := hQ64
      have N64 : Fr n0 L64 := by rw [l64]; exact Fr.app N14 N64q
      refine stt st64 ?_
      show Go p e below T64 (mkF m 162 #[.val (.int a), .val (.int b), .val (.int k), .val (.int bb), .val (.ref r1), .val (.ref r2), .val (.ref b6), .val (.int (2 : Int32)), .unset, .unset] [(.int (if (own_cs a) = (own_cs a) then (1 : Int32) else (0 : Int32)))]) _
      refine stp (fun _ => XS.ifNo X64.here hx rfl (hb hby at_162) rfl (XT.i0_eq_f (by rw [if_pos rfl]; decide))) ?_
      show Go p e below T64 (mkF m 165 #[.val (.int a), .val (.int b), .val (.int k), .val (.int bb), .val (.ref r1), .val (.ref r2), .val (.ref b6), .val (.int (2 : Int32)), .unset, .unset] []) _
      refine stp (fun _ => XS.aload X64.here hx rfl (hb hby at_165) rfl rfl) ?_
      show Go p e below T64 (mkF m 167 #[.val (.int a), .val (.int b), .val (.int k), .val (.int bb), .val (.ref r1), .val (.ref r2), .val (.ref b6), .val (.int (2 : Int32)), .unset, .unset] [(.ref b6)]) _
      refine stp (fun _ => XS.aconstNull X64.here hx rfl (hb hby at_167)) ?_
      show Go p e below T64 (mkF m 168 #[.val (.int a), .val (.int b), .val (.int k), .val (.int bb), .val (.ref r1), .val (.ref r2), .val (.ref b6), .val (.int (2 : Int32)), .unset, .unset] [.null, (.ref b6)]) _
      obtain ⟨cq65, kq65, q65a, q65b, q65c⟩ := isOf hZ e64 r14_0
      obtain ⟨_, _, ⟨T65, L65, k65, n65⟩, -, X65, ⟨Lc65, hQ65, l65, y65, z65⟩, st65⟩ := X64.virtualBack hx (y := (⟨"com/example/revlint/revlint/model/GenericType$Primitive", "equals", "(Ljava/lang/Object;)Z"⟩ : MethodName)) (z := (⟨"com/example/revlint/revlint/model/GenericType$Primitive", "equals", "(Ljava/lang/Object;)Z"⟩ : MethodName)) hown (mvT hZ (hw _ (List.mem_of_getElem? (i := 48) rfl))) (mvT hZ (hw _ (List.mem_of_getElem? (i := 49) rfl))) (notFace_of_selects (args := #[]) (mvT hZ (hw _ (List.mem_of_getElem? (i := 51) rfl)))) (mvT hZ (hw _ (List.mem_of_getElem? (i := 51) rfl))) (mvT hZ (hw _ (List.mem_of_getElem? (i := 50) rfl))) (by decide) (backOf (W := 0) (rm_eq0 l Z a0 hw [] b6  T14.heap n0 O14 ) hZ (hw _ (List.mem_of_getElem? (i := 52) rfl)) (hw _ (List.mem_of_getElem? (i := 31) rfl)) (by decide) (by decide)) q65a q65c (g := (mkF m 168 #[.val (.int a), .val (.int b), .val (.int k), .val (.int bb), .val (.ref r1), .val (.ref r2), .val (.ref b6), .val (.int (2 : Int32)), .unset, .unset] [.null, (.ref b6)])) rfl (by rw [hml]; rfl) (Steps.refl _) (argsL := [.null]) (rest := []) (lenOf pd_10 rfl) rfl (by show 2 * 0 + _ ≤ _; exact Nat.le_of_eq rfl) (hb hby at_168) (fun _ _ => ⟨rfl, e64, (by decide : 11 + 0 ≤ _), (by decide : 41 + 0 ≤ _)⟩)
      dsimp only [Pt.U, Pt.locs, Pt.cells, Pt.slots] at X65 l65 y65 z65 st65 hQ65
      subst y65 z65
      obtain ⟨rfl, N65q, e65⟩ := hQ65
      have N65 : Fr n0 L65 := by rw [l65]; exact Fr.app N64 N65q
      refine stt st65 ?_
      show Go p e below T65 (mkF m 171 #[.val (.int a), .val (.int b), .val (.int k), .val (.int bb), .val (.ref r1), .val (.ref r2), .val (.ref b6), .val (.int (2 : Int32)), .unset, .unset] [(.int (0 : Int32))]) _
      refine stp (fun _ => XS.ifNo X65.here hx rfl (hb hby at_171) rfl (by decide)) ?_
      show Go p e below T65 (mkF m 174 #[.val (.int a), .val (.int b), .val (.int k), .val (.int bb), .val (.ref r1), .val (.ref r2), .val (.ref b6), .val (.int (2 : Int32)), .unset, .unset] []) _
      refine stp (fun _ => XS.iconst X65.here hx rfl (hb hby at_174)) ?_
      show Go p e below T65 (mkF m 175 #[.val (.int a), .val (.int b), .val (.int k), .val (.int bb), .val (.ref r1), .val (.ref r2), .val (.ref b6), .val (.int (2 : Int32)), .unset, .unset] [(.int (1 : Int32))]) _
      refine stp (fun _ => XS.goto X65.here hx rfl (pc0 := 175) (pc' := 179) rfl (hb hby at_175) (by decide) (by decide)) ?_
      show Go p e below T65 (mkF m 179 #[.val (.int a), .val (.int b), .val (.int k), .val (.int bb), .val (.ref r1), .val (.ref r2), .val (.ref b6), .val (.int (2 : Int32)), .unset, .unset] [(.int (1 : Int32))]) _
      refine outNW X65 hx hZ hEL e65 hS hk CR (t := .boolean) hret (by simp) (hb hby at_179) hlk (by decide) (by decide) ?_
      exact ⟨rfl, N65⟩
    · show Go p e below T14 (mkF m 43 #[.val (.int a), .val (.int b), .val (.int k), .val (.int bb), .val (.ref r1), .val (.ref r2), .val (.ref b6), .val (.int (3 : Int32)), .unset, .unset] []) _
      refine stp (fun _ => XS.iload X14.here hx rfl (hb hby at_43) rfl) ?_
      show Go p e below T14 (mkF m 45 #[.val (.int a), .val (.int b), .val (.int k), .val (.int bb), .val (.ref r1), .val (.ref r2), .val (.ref b6), .val (.int (3 : Int32)), .unset, .unset] [(.int (3 : Int32))]) _
      refine stp (fun _ => XS.ifYes X14.here hx rfl (pc0 := 45) (pc' := 106) rfl (hb hby at_45) rfl (by decide) (by decide) (by decide)) ?_
      show Go p e below T14 (mkF m 106 #[.val (.int a), .val (.int b), .val (.int k), .val (.int bb), .val (.ref r1), .val (.ref r2), .val (.ref b6), .val (.int (3 : Int32)), .unset, .unset] []) _
      refine stp (fun _ => XS.iload X14.here hx rfl (hb hby at_106) rfl) ?_
      show Go p e below T14 (mkF m 108 #[.val (.int a), .val (.int b), .val (.int k), .val (.int bb), .val (.ref r1), .val (.ref r2), .val (.ref b6), .val (.int (3 : Int32)), .unset, .unset] [(.int (3 : Int32))]) _
      refine stp (fun _ => XS.iconst X14.here hx rfl (hb hby at_108)) ?_
      show Go p e below T14 (mkF m 109 #[.val (.int a), .val (.int b), .val (.int k), .val (.int bb), .val (.ref r1), .val (.ref r2), .val (.ref b6), .val (.int (3 : Int32)), .unset, .unset] [(.int (1 : Int32)), (.int (3 : Int32))]) _
      refine stp (fun _ => XS.icmpYes X14.here hx rfl (pc0 := 109) (pc' := 149) rfl (hb hby at_109) rfl (by decide) (by decide) (by decide)) ?_
      show Go p e below T14 (mkF m 149 #[.val (.int a), .val (.int b), .val (.int k), .val (.int bb), .val (.ref r1), .val (.ref r2), .val (.ref b6), .val (.int (3 : Int32)), .unset, .unset] []) _
      refine stp (fun _ => XS.iload X14.here hx rfl (hb hby at_149) rfl) ?_
      show Go p e below T14 (mkF m 151 #[.val (.int a), .val (.int b), .val (.int k), .val (.int bb), .val (.ref r1), .val (.ref r2), .val (.ref b6), .val (.int (3 : Int32)), .unset, .unset] [(.int (3 : Int32))]) _
      refine stp (fun _ => XS.iconst X14.here hx rfl (hb hby at_151)) ?_
      show Go p e below T14 (mkF m 152 #[.val (.int a), .val (.int b), .val (.int k), .val (.int bb), .val (.ref r1), .val (.ref r2), .val (.ref b6), .val (.int (3 : Int32)), .unset, .unset] [(.int (2 : Int32)), (.int (3 : Int32))]) _
      refine stp (fun _ => XS.icmpYes X14.here hx rfl (pc0 := 152) (pc' := 180) rfl (hb hby at_152) rfl (by decide) (by decide) (by decide)) ?_
      show Go p e below T14 (mkF m 180 #[.val (.int a), .val (.int b), .val (.int k), .val (.int bb), .val (.ref r1), .val (.ref r2), .val (.ref b6), .val (.int (3 : Int32)), .unset, .unset] []) _
      refine stp (fun _ => XS.aload X14.here hx rfl (hb hby at_180) rfl rfl) ?_
      show Go p e below T14 (mkF m 182 #[.val (.int a), .val (.int b), .val (.int k), .val (.int bb), .val (.ref r1), .val (.ref r2), .val (.ref b6), .val (.int (3 : Int32)), .unset, .unset] [(.ref b6)]) _
      refine stp (fun _ => XS.aload X14.here hx rfl (hb hby at_182) rfl rfl) ?_
      show Go p e below T14 (mkF m 184 #[.val (.int a), .val (.int b), .val (.int k), .val (.int bb), .val (.ref r1), .val (.ref r2), .val (.ref b6), .val (.int (3 : Int32)), .unset, .unset] [(.ref b6), (.ref b6)]) _
      obtain ⟨cq66, kq66, q66a, q66b, q66c⟩ := isOf hZ rfl r14_0
      obtain ⟨_, _, ⟨T66, L66, k66, n66⟩, -, X66, ⟨Lc66, hQ66, l66, y66, z66⟩, st66⟩ := X14.virtualBack hx (y := (⟨"com/example/revlint/revlint/model/GenericType$Primitive", "equals", "(Ljava/lang/Object;)Z"⟩ : MethodName)) (z := (⟨"com/example/revlint/revlint/model/GenericType$Primitive", "equals", "(Ljava/lang/Object;)Z"⟩ : MethodName)) hown (mvT hZ (hw _ (List.mem_of_getElem? (i := 48) rfl))) (mvT hZ (hw _ (List.mem_of_getElem? (i := 49) rfl))) (notFace_of_selects (args := #[]) (mvT hZ (hw _ (List.mem_of_getElem? (i := 51) rfl)))) (mvT hZ (hw _ (List.mem_of_getElem? (i := 51) rfl))) (mvT hZ (hw _ (List.mem_of_getElem? (i := 50) rfl))) (by decide) (backOf (W := 0) (rm_eqt l Z a0 hw [] b6 b6 r1 r1 (own_cs a) (own_cs a) cz T14.heap n0 O14 r14_0 r14_1 r14_1 f15 f15 S_CS hcz) hZ (hw _ (List.mem_of_getElem? (i := 52) rfl)) (hw _ (List.mem_of_getElem? (i := 31) rfl)) (by decide) (by decide)) q66a q66c (g := (mkF m 184 #[.val (.int a), .val (.int b), .val (.int k), .val (.int bb), .val (.ref r1), .val (.ref r2), .val (.ref b6), .val (.int (3 : Int32)), .unset, .unset] [(.ref b6), (.ref b6)])) rfl (by rw [hml]; rfl) (Steps.refl _) (argsL := [(.ref b6)]) (rest := []) (lenOf pd_10 rfl) rfl (by show 2 * 0 + _ ≤ _; exact Nat.le_of_eq rfl) (hb hby at_184) (fun _ _ => ⟨rfl, rfl, (by decide : 11 + 0 ≤ _), (by decide : 41 + 0 ≤ _)⟩)
      dsimp only [Pt.U, Pt.locs, Pt.cells, Pt.slots] at X66 l66 y66 z66 st66 hQ66
      subst y66 z66
      obtain ⟨rfl, N66q, e66⟩ := hQ66
      have N66 : Fr n0 L66 := by rw [l66]; exact Fr.app N14 N66q
      refine stt st66 ?_
      show Go p e below T66 (mkF m 187 #[.val (.int a), .val (.int b), .val (.int k), .val (.int bb), .val (.ref r1), .val (.ref r2), .val (.ref b6), .val (.int (3 : Int32)), .unset, .unset] [(.int (if (own_cs a) = (own_cs a) then (1 : Int32) else (0 : Int32)))]) _
      refine stp (fun _ => XS.ifNo X66.here hx rfl (hb hby at_187) rfl (XT.i0_eq_f (by rw [if_pos rfl]; decide))) ?_
      show Go p e below T66 (mkF m 190 #[.val (.int a), .val (.int b), .val (.int k), .val (.int bb), .val (.ref r1), .val (.ref r2), .val (.ref b6), .val (.int (3 : Int32)), .unset, .unset] []) _
      refine stp (fun _ => XS.aload X66.here hx rfl (hb hby at_190) rfl rfl) ?_
      show Go p e below T66 (mkF m 192 #[.val (.int a), .val (.int b), .val (.int k), .val (.int bb), .val (.ref r1), .val (.ref r2), .val (.ref b6), .val (.int (3 : Int32)), .unset, .unset] [(.ref b6)]) _
      refine stp (fun _ => XS.aload X66.here hx rfl (hb hby at_192) rfl rfl) ?_
      show Go p e below T66 (mkF m 194 #[.val (.int a), .val (.int b), .val (.int k), .val (.int bb), .val (.ref r1), .val (.ref r2), .val (.ref b6), .val (.int (3 : Int32)), .unset, .unset] [(.ref r2), (.ref b6)]) _
      obtain ⟨cq67, kq67, q67a, q67b, q67c⟩ := isOf hZ e66 r14_0
      obtain ⟨_, _, ⟨T67, L67, k67, n67⟩, -, X67, ⟨Lc67, hQ67, l67, y67, z67⟩, st67⟩ := X66.virtualBack hx (y := (⟨"com/example/revlint/revlint/model/GenericType$Primitive", "equals", "(Ljava/lang/Object;)Z"⟩ : MethodName)) (z := (⟨"com/example/revlint/revlint/model/GenericType$Primitive", "equals", "(Ljava/lang/Object;)Z"⟩ : MethodName)) hown (mvT hZ (hw _ (List.mem_of_getElem? (i := 48) rfl))) (mvT hZ (hw _ (List.mem_of_getElem? (i := 49) rfl))) (notFace_of_selects (args := #[]) (mvT hZ (hw _ (List.mem_of_getElem? (i := 51) rfl)))) (mvT hZ (hw _ (List.mem_of_getElem? (i := 51) rfl))) (mvT hZ (hw _ (List.mem_of_getElem? (i := 50) rfl))) (by decide) (backOf (W := 0) (rm_eqs l Z a0 hw [] b6 r2  T14.heap n0 O14 f18) hZ (hw _ (List.mem_of_getElem? (i := 52) rfl)) (hw _ (List.mem_of_getElem? (i := 31) rfl)) (by decide) (by decide)) q67a q67c (g := (mkF m 194 #[.val (.int a), .val (.int b), .val (.int k), .val (.int bb), .val (.ref r1), .val (.ref r2), .val (.ref b6), .val (.int (3 : Int32)), .unset, .unset] [(.ref r2), (.ref b6)])) rfl (by rw [hml]; rfl) (Steps.refl _) (argsL := [(.ref r2)]) (rest := []) (lenOf pd_10 rfl) rfl (by show 2 * 0 + _ ≤ _; exact Nat.le_of_eq rfl) (hb hby at_194) (fun _ _ => ⟨rfl, e66, (by decide : 11 + 0 ≤ _), (by decide : 41 + 0 ≤ _)⟩)
      dsimp only [Pt.U, Pt.locs, Pt.cells, Pt.slots] at X67 l67 y67 z67 st67 hQ67
      subst y67 z67
      obtain ⟨rfl, N67q, e67⟩ := hQ67
      have N67 : Fr n0 L67 := by rw [l67]; exact Fr.app N66 N67q
      refine stt st67 ?_
      show Go p e below T67 (mkF m 197 #[.val (.int a), .val (.int b), .val (.int k), .val (.int bb), .val (.ref r1), .val (.ref r2), .val (.ref b6), .val (.int (3 : Int32)), .unset, .unset] [(.int (0 : Int32))]) _
      refine stp (fun _ => XS.ifNo X67.here hx rfl (hb hby at_197) rfl (by decide)) ?_
      show Go p e below T67 (mkF m 200 #[.val (.int a), .val (.int b), .val (.int k), .val (.int bb), .val (.ref r1), .val (.ref r2), .val (.ref b6), .val (.int (3 : Int32)), .unset, .unset] []) _
      refine stp (fun _ => XS.iconst X67.here hx rfl (hb hby at_200)) ?_
      show Go p e below T67 (mkF m 201 #[.val (.int a), .val (.int b), .val (.int k), .val (.int bb), .val (.ref r1), .val (.ref r2), .val (.ref b6), .val (.int (3 : Int32)), .unset, .unset] [(.int (1 : Int32))]) _
      refine stp (fun _ => XS.goto X67.here hx rfl (pc0 := 201) (pc' := 205) rfl (hb hby at_201) (by decide) (by decide)) ?_
      show Go p e below T67 (mkF m 205 #[.val (.int a), .val (.int b), .val (.int k), .val (.int bb), .val (.ref r1), .val (.ref r2), .val (.ref b6), .val (.int (3 : Int32)), .unset, .unset] [(.int (1 : Int32))]) _
      refine outNW X67 hx hZ hEL e67 hS hk CR (t := .boolean) hret (by simp) (hb hby at_205) hlk (by decide) (by decide) ?_
      exact ⟨rfl, N67⟩
  by_cases q5_68 : (k &&& (4 : Int32)) = 0
  · refine stp (fun _ => XS.ifYes X0.here hx rfl (pc0 := 5) (pc' := 15) rfl (hb hby at_5) rfl (XT.i0_eq_t q5_68) (by decide) (by decide)) ?_
    show Go p e below T0 (mkF m 15 #[.val (.int a), .val (.int b), .val (.int k), .val (.int b), .unset, .unset, .unset, .unset, .unset, .unset] []) _
    exact J _
  · refine stp (fun _ => XS.ifNo X0.here hx rfl (hb hby at_5) rfl (XT.i0_eq_f q5_68)) ?_
    show Go p e below T0 (mkF m 8 #[.val (.int a), .val (.int b), .val (.int k), .val (.int b), .unset, .unset, .unset, .unset, .unset, .unset] []) _
    refine stp (fun _ => XS.iloadN X0.here hx rfl (hb hby at_8) rfl) ?_
    show Go p e below T0 (mkF m 9 #[.val (.int a), .val (.int b), .val (.int k), .val (.int b), .unset, .unset, .unset, .unset, .unset, .unset] [(.int a)]) _
    refine stp (fun _ => XS.iloadN X0.here hx rfl (hb hby at_9) rfl) ?_
    show Go p e below T0 (mkF m 10 #[.val (.int a), .val (.int b), .val (.int k), .val (.int b), .unset, .unset, .unset, .unset, .unset, .unset] [(.int b), (.int a)]) _
    refine stp (fun _ => X0.ldcInt hx hown (mvT hZ (hw _ (List.mem_of_getElem? (i := 62) rfl))) (g := (mkF m 10 #[.val (.int a), .val (.int b), .val (.int k), .val (.int b), .unset, .unset, .unset, .unset, .unset, .unset] [(.int b), (.int a)])) rfl (hb hby at_10) _) ?_
    show Go p e below T0 (mkF m 12 #[.val (.int a), .val (.int b), .val (.int k), .val (.int b), .unset, .unset, .unset, .unset, .unset, .unset] [(.int (327937 : Int32)), (.int b), (.int a)]) _
    refine stp (fun _ => XS.iand X0.here hx rfl (hb hby at_12) rfl) ?_
    show Go p e below T0 (mkF m 13 #[.val (.int a), .val (.int b), .val (.int k), .val (.int b), .unset, .unset, .unset, .unset, .unset, .unset] [(.int (b &&& (327937 : Int32))), (.int a)]) _
    refine stp (fun _ => XS.ixor X0.here hx rfl (hb hby at_13) rfl) ?_
    show Go p e below T0 (mkF m 14 #[.val (.int a), .val (.int b), .val (.int k), .val (.int b), .unset, .unset, .unset, .unset, .unset, .unset] [(.int (a ^^^ (b &&& (327937 : Int32))))]) _
    refine stp (fun _ => XS.istoreN X0.here hx rfl (hb hby at_14) rfl (l' := #[.val (.int a), .val (.int b), .val (.int k), .val (.int (a ^^^ (b &&& (327937 : Int32)))), .unset, .unset, .unset, .unset, .unset, .unset]) rfl) ?_
    show Go p e below T0 (mkF m 15 #[.val (.int a), .val (.int b), .val (.int k), .val (.int (a ^^^ (b &&& (327937 : Int32)))), .unset, .unset, .unset, .unset, .unset, .unset] []) _
    exact J _
set_option maxRecDepth 65536 in
set_option maxHeartbeats 40000000 in
theorem comes_1 {Post : Tables → Env → Array Value → State → Outcome → State → Prop} (hpost : ∀ tb e args s v u, (limb_1_1.after args s (.returned v) u = true ∧ limb_1_2.after args s (.returned v) u = true ∧ True) → Jvm.D.FramedW s (.returned v) u (Jvm.fieldLocs frame_1_writes args s ++ Jvm.arrayLocs frame_1_arrays args s ++ Jvm.staticLocs frame_1_statics s) 32 3200 → Post tb e args s (.returned v) u) :
    ArmFor flags0 classFile x code maxLocals ret World_1 tables_1 room_1 Calls_1 rest_1 Pre_1 Post := by
  intro l hfl _ _ p e ha hc hk s m args below hf hA hF happ hP
  obtain ⟨hcalls, hrest, hpre⟩ := hP
  obtain ⟨-, -, -, hnamed, -, -, -, hat⟩ := (Spec.applies_iff hf).mp happ
  obtain ⟨hg, hn⟩ := and_e (Cond.before_iff.mp (show (Jvm.Cond.and given_1 narrow_1).before args s = true from hpre))
  obtain ⟨g1, g2⟩ := and_e hg
  obtain ⟨g3, g4⟩ := and_e g2
  obtain ⟨g5, g6⟩ := and_e g4
  obtain ⟨w0, w1, w2, rfl⟩ : ∃ w0 w1 w2 : Value, args = #[w0, w1, w2] := by
    have hs : args.size = 3 := by simpa [Cond.value, given_1] using g1
    obtain ⟨L⟩ := args
    match L, hs with
    | [w0, w1, w2], _ => exact ⟨w0, w1, w2, rfl⟩
  have hw := fun d (hd : d ∈ tables_1) => atoms_spec (ws := Jvm.Cond.code x code maxLocals ret :: tables_1) hat d (List.mem_cons_of_mem _ hd)
  have hfit : Fit s := fun {y c} hc i hi => by
    obtain ⟨ha, rfl⟩ := Array.getElem?_eq_some_iff.mp hc
    have q := List.all_eq_true.mp ((Array.all_eq_true_iff_forall_mem.mp hF) _ (Array.getElem_mem ha)) i (List.mem_range.mpr hi)
    simpa [Array.getElem?_eq_getElem hi] using q
  obtain ⟨i0, ei0⟩ := is_v g3
  obtain rfl : w0 = (.int i0) := Option.some.inj ei0
  obtain ⟨i1, ei1⟩ := is_v g5
  obtain rfl : w1 = (.int i1) := Option.some.inj ei1
  obtain ⟨i2, ei2⟩ := is_v g6
  obtain rfl : w2 = (.int i2) := Option.some.inj ei2
  -- hn says: Jvm.Cond.tt
  obtain ⟨hsets, hown0⟩ := atoms_of _ (rest_1_c_eq ▸ (show rest_1_c.before _ s = true from hrest))
  have hr0 := Cond.before_iff.mp hown0
  obtain ⟨z_COMPACT_STRINGS, ez_COMPACT_STRINGS⟩ := is_v (Cond.before_iff.mp (hsets _ (List.mem_of_getElem? (i := 1) rfl)))
  have S_z_COMPACT_STRINGS := Sta.start ez_COMPACT_STRINGS (Or.inl (hsets _ (List.mem_of_getElem? (i := 0) rfl)))
  have c_COMPACT_STRINGS : ¬ (z_COMPACT_STRINGS = (0 : Int32)) := gotF (Cond.eq_ints ez_COMPACT_STRINGS (Term.int_eval (0))) (not_v (Cond.before_iff.mp (hsets _ (List.mem_of_getElem? (i := 2) rfl))))
  obtain ⟨v_SIOOBE_FORMATTER, ez_SIOOBE_FORMATTER, r_SIOOBE_FORMATTER⟩ := isR_v (Cond.before_iff.mp (hsets _ (List.mem_of_getElem? (i := 8) rfl)))
  have S_v_SIOOBE_FORMATTER := Sta.start ez_SIOOBE_FORMATTER (Or.inl (hsets _ (List.mem_of_getElem? (i := 7) rfl)))
  have hEL : EW s _ consts_1 := own_EW hw
  have hCH : CHv s consts_1 s.vm s.heap := CHv.start hEL (fun p hp => hcalls.1 p hp) (hsets _ (List.mem_of_getElem? (i := 2) rfl)) (hw _ (List.mem_of_getElem? (i := 22) rfl)) (hw _ (List.mem_of_getElem? (i := 8) rfl))
  obtain ⟨n, o, h1, h2, h3, _, L, rfl, ⟨rfl, N⟩, -, hq⟩ := rm0 l s _ hw tables_1 i0 i1 i2 z_COMPACT_STRINGS s.heap s.heap.size (Old.start s) hEL S_z_COMPACT_STRINGS c_COMPACT_STRINGS p e ha hc hk s m _ below hf ((Spec.applies_iff_loose hf).mp happ).1 ⟨rfl, State.Warmed39.refl s, rfl, hCH⟩ trivial
  refine ⟨n, _, h1, h2, h3, hpost _ _ _ _ _ _ ⟨Cond.after_iff.mpr rfl, Cond.after_iff.mpr (eq_i res_at (Term.int_eval (1)) rfl), trivial⟩ ⟨hq.1, hq.2.1, hq.2.2.1, (hq.2.2.2.sift fun y hy => Or.inr (N y hy)).mono (by decide) (by decide)⟩⟩
theorem main_1_1 : Claimed_1_1 := comes_1 fun _ _ _ _ _ _ h hF => ⟨h.1, hF⟩
theorem main_1_2 : Claimed_1_2 := comes_1 fun _ _ _ _ _ _ h hF => ⟨h.2.1, hF⟩
end Jvm.Pilot.@@N@@
namespace Jvm.Pilot.@@N@@
open Jvm Jvm.ClassFile Sem Op Lib Jvm.Free Jvm.Stand Jvm.Pilot.@@N@@.Jvm.D
/-! MADE BY PROGRAM (witnessworld.py) out of the Statement's table words and the real class files: 24 classes; the members and pool entries that the words name. The judged class is class 1, her method 7. -/
namespace start1
open Jvm.ClassFile
def u (s : String) : CpInfo := .utf8 (stringToUtf16 s)
/-- a pool by its gaps: so many unusable entries, then the entry; so many at the end -/
def gap : Nat → List CpInfo → List CpInfo
  | 0, r => r
  | n + 1, r => .unusable :: gap n r
def poolList (es : List (Nat × CpInfo)) (last : Nat) : List CpInfo := es.foldr (fun e r => gap e.1 (e.2 :: r)) (gap last [])
def pool (es : List (Nat × CpInfo)) (last : Nat) : Array CpInfo := ⟨poolList es last⟩
def fileOf (pool : Array CpInfo) (this : Nat) (attrs : Array Attribute := #[]) (ms : Array MethodInfo := #[]) (fl : Nat := 33) (sup : Nat := 0) (ifs : Array Nat := #[]) (fds : Array FieldInfo := #[]) : ClassFile where
  minorVersion := 0
  majorVersion := 65
  constantPool := pool
  accessFlags := fl
  thisClass := this
  superClass := sup
  interfaces := ifs
  fields := fds
  methods := ms
  attributes := attrs
def plain (name : String) (sup : Option ClassId) : Class where
  name := name
  kind := .ordinary
  loader := none
  accessFlags := 33
  super := sup
  interfaces := #[]
  cf := none
  fields := #[]
  methods := #[]
  instanceTypes := #[]
  staticTypes := #[]
  resolved := #[]
  callSites := []
  init := .initialized
  statics := none
  mirror := none

def pool0 : Array CpInfo := pool [(5, u "<init>"), (0, u "()V"), (1, .class_ 10), (1, u "java/lang/Object")] 113

def k0c0 : Code := { maxStack := 0, maxLocals := 1, code := object_method_1_code, exceptionTable := #[], attributes := #[] }
def k0m0 : Method := { name := "<init>", desc := "()V", sig := { parameters := [], returnType := none }, accessFlags := 1, code := some k0c0 }
/-- java/lang/Object -/
def k0 : Class := { plain "java/lang/Object" none with
  accessFlags := 33
  interfaces := #[]
  cf := some (fileOf pool0 8 #[] #[{ accessFlags := 1, nameIndex := 5, descriptorIndex := 6, attributes := #[] }] 33 0 #[] #[])
  fields := #[]
  methods := #[k0m0]
  instanceTypes := #[]
  staticTypes := #[]
  resolved := Array.replicate 124 none
  statics := none }

def pool1 : Array CpInfo := pool [(2, .class_ 4), (1, u "java/lang/Object"), (0, u "<init>"), (0, u "()V"), (0, .methodref 8 9), (0, .class_ 10), (0, .nameAndType 11 12), (0, u "com/example/revlint/revlint/model/PrimitiveEqualsPinLaw"), (0, u "len"), (0, u "(I)I"), (0, .class_ 14), (0, u "java/lang/String"), (0, .methodref 13 16), (0, .nameAndType 5 17), (0, u "([C)V"), (0, .methodref 8 19), (0, .nameAndType 20 21), (0, u "c0"), (0, u "(I)C"), (0, .methodref 13 23), (0, .nameAndType 24 25), (0, u "valueOf"), (0, u "(C)Ljava/lang/String;"), (0, .methodref 8 27), (0, .nameAndType 28 21), (0, u "c1"), (0, .methodref 8 30), (0, .nameAndType 31 21), (0, u "c2"), (0, .integer 327937), (0, .methodref 8 34), (0, .nameAndType 35 36), (0, u "mk"), (0, u "(I)Ljava/lang/String;"), (0, .class_ 38), (0, u "com/example/revlint/revlint/model/GenericType$Primitive"), (0, .methodref 37 40), (0, .nameAndType 5 41), (0, u "(Ljava/lang/String;)V"), (0, .methodref 8 43), (0, .nameAndType 44 45), (0, u "same"), (0, u "(II)Z"), (0, .methodref 37 47), (0, .nameAndType 48 49), (0, u "equals"), (0, u "(Ljava/lang/Object;)Z"), (0, .class_ 51), (0, u "com/example/revlint/revlint/model/GenericType$TypeVariable"), (0, .methodref 50 40), (3, u "law"), (0, u "(III)Z")] 7

def k1m0 : Method := { name := "<init>", desc := "()V", sig := { parameters := [], returnType := none }, accessFlags := 1, code := none }
def k1c1 : Code := { maxStack := 2, maxLocals := 1, code := method_2_code, exceptionTable := #[], attributes := #[] }
def k1m1 : Method := { name := "len", desc := "(I)I", sig := { parameters := [.int], returnType := some .int }, accessFlags := 10, code := some k1c1 }
def k1c2 : Code := { maxStack := 2, maxLocals := 1, code := method_3_code, exceptionTable := #[], attributes := #[] }
def k1m2 : Method := { name := "c0", desc := "(I)C", sig := { parameters := [.int], returnType := some .char }, accessFlags := 10, code := some k1c2 }
def k1c3 : Code := { maxStack := 2, maxLocals := 1, code := method_4_code, exceptionTable := #[], attributes := #[] }
def k1m3 : Method := { name := "c1", desc := "(I)C", sig := { parameters := [.int], returnType := some .char }, accessFlags := 10, code := some k1c3 }
def k1c4 : Code := { maxStack := 2, maxLocals := 1, code := method_5_code, exceptionTable := #[], attributes := #[] }
def k1m4 : Method := { name := "c2", desc := "(I)C", sig := { parameters := [.int], returnType := some .char }, accessFlags := 10, code := some k1c4 }
def k1c5 : Code := { maxStack := 3, maxLocals := 3, code := method_6_code, exceptionTable := #[], attributes := #[] }
def k1m5 : Method := { name := "mk", desc := "(I)Ljava/lang/String;", sig := { parameters := [.int], returnType := some (.object "java/lang/String") }, accessFlags := 10, code := some k1c5 }
def k1c6 : Code := { maxStack := 2, maxLocals := 3, code := method_7_code, exceptionTable := #[], attributes := #[] }
def k1m6 : Method := { name := "same", desc := "(II)Z", sig := { parameters := [.int, .int], returnType := some .boolean }, accessFlags := 10, code := some k1c6 }
def k1c7 : Code := { maxStack := 3, maxLocals := 10, code := code, exceptionTable := #[], attributes := #[] }
def k1m7 : Method := { name := "law", desc := "(III)Z", sig := { parameters := [.int, .int, .int], returnType := some .boolean }, accessFlags := 9, code := some k1c7 }
/-- com/example/revlint/revlint/model/PrimitiveEqualsPinLaw -/
def k1 : Class := { plain "com/example/revlint/revlint/model/PrimitiveEqualsPinLaw" (some 0) with
  accessFlags := 49
  interfaces := #[]
  cf := some (fileOf pool1 8 #[] #[{ accessFlags := 1, nameIndex := 5, descriptorIndex := 6, attributes := #[] }, { accessFlags := 10, nameIndex := 11, descriptorIndex := 12, attributes := #[] }, { accessFlags := 10, nameIndex := 20, descriptorIndex := 21, attributes := #[] }, { accessFlags := 10, nameIndex := 28, descriptorIndex := 21, attributes := #[] }, { accessFlags := 10, nameIndex := 31, descriptorIndex := 21, attributes := #[] }, { accessFlags := 10, nameIndex := 35, descriptorIndex := 36, attributes := #[] }, { accessFlags := 10, nameIndex := 44, descriptorIndex := 45, attributes := #[] }, { accessFlags := 9, nameIndex := 56, descriptorIndex := 57, attributes := #[] }] 49 2 #[] #[])
  fields := #[]
  methods := #[k1m0, k1m1, k1m2, k1m3, k1m4, k1m5, k1m6, k1m7]
  instanceTypes := #[]
  staticTypes := #[]
  resolved := Array.replicate 65 none
  statics := none }

def pool2 : Array CpInfo := pool [(1, .class_ 2), (0, u "java/io/Serializable"), (0, .class_ 4), (0, u "java/lang/Object")] 2

/-- java/io/Serializable -/
def k2 : Class := { plain "java/io/Serializable" (some 0) with
  accessFlags := 1537
  interfaces := #[]
  cf := some (fileOf pool2 1 #[] #[] 1537 3 #[] #[])
  fields := #[]
  methods := #[]
  instanceTypes := #[]
  staticTypes := #[]
  resolved := Array.replicate 7 none
  statics := none }

def pool3 : Array CpInfo := pool [(1, .class_ 2), (0, u "java/lang/Comparable"), (0, .class_ 4), (0, u "java/lang/Object")] 7

/-- java/lang/Comparable -/
def k3 : Class := { plain "java/lang/Comparable" (some 0) with
  accessFlags := 1537
  interfaces := #[]
  cf := some (fileOf pool3 1 #[] #[] 1537 3 #[] #[])
  fields := #[]
  methods := #[]
  instanceTypes := #[]
  staticTypes := #[]
  resolved := Array.replicate 12 none
  statics := none }

def pool4 : Array CpInfo := pool [(2, .class_ 4), (1, u "java/lang/CharSequence"), (42, .class_ 48), (0, u "java/lang/CharSequence$1CodePointIterator"), (10, .class_ 60), (0, u "java/lang/CharSequence$1CharIterator"), (5, .class_ 67), (0, u "java/lang/Object")] 63

/-- java/lang/CharSequence -/
def k4 : Class := { plain "java/lang/CharSequence" (some 0) with
  accessFlags := 1537
  interfaces := #[]
  cf := some (fileOf pool4 2 #[.nestMembers #[47, 59]] #[] 1537 66 #[] #[])
  fields := #[]
  methods := #[]
  instanceTypes := #[]
  staticTypes := #[]
  resolved := Array.replicate 131 none
  statics := none }

def pool5 : Array CpInfo := pool [(1, .class_ 2), (0, u "java/lang/constant/Constable"), (0, .class_ 4), (0, u "java/lang/Object")] 6

/-- java/lang/constant/Constable -/
def k5 : Class := { plain "java/lang/constant/Constable" (some 0) with
  accessFlags := 1537
  interfaces := #[]
  cf := some (fileOf pool5 1 #[] #[] 1537 3 #[] #[])
  fields := #[]
  methods := #[]
  instanceTypes := #[]
  staticTypes := #[]
  resolved := Array.replicate 11 none
  statics := none }

def pool6 : Array CpInfo := pool [(1, .class_ 2), (0, u "java/lang/constant/ConstantDesc"), (0, .class_ 4), (0, u "java/lang/Object")] 32

/-- java/lang/constant/ConstantDesc -/
def k6 : Class := { plain "java/lang/constant/ConstantDesc" (some 0) with
  accessFlags := 1537
  interfaces := #[]
  cf := some (fileOf pool6 1 #[] #[] 1537 3 #[] #[])
  fields := #[]
  methods := #[]
  instanceTypes := #[]
  staticTypes := #[]
  resolved := Array.replicate 37 none
  statics := none }

def pool7 : Array CpInfo := pool [(1, .methodref 2 3), (0, .class_ 4), (0, .nameAndType 5 6), (0, u "java/lang/Object"), (0, u "<init>"), (0, u "()V"), (0, .string 8), (0, u ""), (0, .fieldref 10 11), (0, .class_ 12), (0, .nameAndType 13 14), (0, u "java/lang/String"), (0, u "value"), (0, u "[B"), (0, .fieldref 10 16), (0, .nameAndType 17 18), (0, u "coder"), (0, u "B"), (2, u "hash"), (0, u "I"), (2, u "hashIsZero"), (0, u "Z"), (0, .methodref 10 28), (0, .nameAndType 5 29), (0, u "([CIILjava/lang/Void;)V"), (8, .fieldref 10 39), (0, .nameAndType 40 26), (0, u "COMPACT_STRINGS"), (1, .class_ 44), (1, u "java/lang/StringUTF16"), (0, u "compress"), (1, .methodref 42 48), (0, .nameAndType 49 50), (0, u "coderFromArrayLen"), (0, u "([BI)B"), (2, u "toBytes"), (53, .class_ 109), (1, u "java/lang/StringLatin1"), (67, .methodref 42 178), (0, .nameAndType 45 179), (0, u "([CII)[B"), (29, .methodref 10 210), (0, .nameAndType 5 211), (0, u "([BB)V"), (157, u "(C)Z"), (171, .methodref 107 542), (0, .nameAndType 543 544), (0, u "equals"), (0, u "([B[B)Z"), (28, u "(Ljava/lang/Object;)Z"), (1, .class_ 576), (0, u "java/lang/CharSequence"), (22, u "CASE_INSENSITIVE_ORDER"), (0, u "Ljava/util/Comparator;"), (181, u "valueOf"), (0, u "(C)Ljava/lang/String;"), (226, u "([C)V"), (4, .methodref 107 1016), (0, .nameAndType 1017 369), (0, u "canEncode"), (0, .methodref 107 1019), (0, .nameAndType 53 1020), (0, u "(C)[B"), (80, u "serialPersistentFields"), (0, u "[Ljava/io/ObjectStreamField;"), (0, .class_ 1104), (0, u "java/lang/String$CaseInsensitiveComparator"), (1, .class_ 1107), (0, u "java/io/Serializable"), (0, .class_ 1109), (0, u "java/lang/Comparable"), (0, .class_ 1111), (0, u "java/lang/constant/Constable"), (0, .class_ 1113), (0, u "java/lang/constant/ConstantDesc"), (2, u "serialVersionUID"), (0, u "J"), (3, u "REPL"), (0, u "C"), (2, u "LATIN1"), (1, u "UTF16")] 323

def k7m0 : Method := { name := "<init>", desc := "()V", sig := { parameters := [], returnType := none }, accessFlags := 1, code := none }
def k7c1 : Code := { maxStack := 5, maxLocals := 2, code := jdk_42_method_3_code, exceptionTable := #[], attributes := #[] }
def k7m1 : Method := { name := "<init>", desc := "([C)V", sig := { parameters := [(.array .char)], returnType := none }, accessFlags := 1, code := some k7c1 }
def k7c2 : Code := { maxStack := 2, maxLocals := 3, code := jdk_42_method_66_code, exceptionTable := #[], attributes := #[] }
def k7m2 : Method := { name := "equals", desc := "(Ljava/lang/Object;)Z", sig := { parameters := [(.object "java/lang/Object")], returnType := some .boolean }, accessFlags := 1, code := some k7c2 }
def k7c3 : Code := { maxStack := 4, maxLocals := 1, code := jdk_42_method_139_code, exceptionTable := #[], attributes := #[] }
def k7m3 : Method := { name := "valueOf", desc := "(C)Ljava/lang/String;", sig := { parameters := [.char], returnType := some (.object "java/lang/String") }, accessFlags := 9, code := some k7c3 }
def k7c4 : Code := { maxStack := 4, maxLocals := 6, code := jdk_42_method_149_code, exceptionTable := #[], attributes := #[] }
def k7m4 : Method := { name := "<init>", desc := "([CIILjava/lang/Void;)V", sig := { parameters := [(.array .char), .int, .int, (.object "java/lang/Void")], returnType := none }, accessFlags := 2, code := some k7c4 }
def k7c5 : Code := { maxStack := 2, maxLocals := 3, code := jdk_42_method_151_code, exceptionTable := #[], attributes := #[] }
def k7m5 : Method := { name := "<init>", desc := "([BB)V", sig := { parameters := [(.array .byte), .byte], returnType := none }, accessFlags := 0, code := some k7c5 }
/-- java/lang/String -/
def k7 : Class := { plain "java/lang/String" (some 0) with
  accessFlags := 49
  interfaces := #[2, 3, 4, 5, 6]
  cf := some (fileOf pool7 10 #[.nestMembers #[1103]] #[{ accessFlags := 1, nameIndex := 5, descriptorIndex := 6, attributes := #[] }, { accessFlags := 1, nameIndex := 5, descriptorIndex := 1010, attributes := #[] }, { accessFlags := 1, nameIndex := 543, descriptorIndex := 573, attributes := #[] }, { accessFlags := 9, nameIndex := 782, descriptorIndex := 783, attributes := #[] }, { accessFlags := 2, nameIndex := 5, descriptorIndex := 29, attributes := #[] }, { accessFlags := 0, nameIndex := 5, descriptorIndex := 211, attributes := #[] }] 49 2 #[1106, 1108, 575, 1110, 1112] #[{ accessFlags := 18, nameIndex := 13, descriptorIndex := 14, attributes := #[] }, { accessFlags := 18, nameIndex := 17, descriptorIndex := 18, attributes := #[] }, { accessFlags := 2, nameIndex := 21, descriptorIndex := 22, attributes := #[] }, { accessFlags := 2, nameIndex := 25, descriptorIndex := 26, attributes := #[] }, { accessFlags := 26, nameIndex := 1116, descriptorIndex := 1117, attributes := #[] }, { accessFlags := 24, nameIndex := 40, descriptorIndex := 26, attributes := #[] }, { accessFlags := 26, nameIndex := 1101, descriptorIndex := 1102, attributes := #[] }, { accessFlags := 26, nameIndex := 1121, descriptorIndex := 1122, attributes := #[] }, { accessFlags := 25, nameIndex := 599, descriptorIndex := 600, attributes := #[] }, { accessFlags := 24, nameIndex := 1125, descriptorIndex := 18, attributes := #[] }, { accessFlags := 24, nameIndex := 1127, descriptorIndex := 18, attributes := #[] }])
  fields := #[{ name := "value", type := (.array .byte), accessFlags := 18, slot := 0, constantValue := 0 }, { name := "coder", type := .byte, accessFlags := 18, slot := 1, constantValue := 0 }, { name := "hash", type := .int, accessFlags := 2, slot := 2, constantValue := 0 }, { name := "hashIsZero", type := .boolean, accessFlags := 2, slot := 3, constantValue := 0 }, { name := "serialVersionUID", type := .long, accessFlags := 26, slot := 0, constantValue := 0 }, { name := "COMPACT_STRINGS", type := .boolean, accessFlags := 24, slot := 1, constantValue := 0 }, { name := "serialPersistentFields", type := (.array (.object "java/io/ObjectStreamField")), accessFlags := 26, slot := 2, constantValue := 0 }, { name := "REPL", type := .char, accessFlags := 26, slot := 3, constantValue := 0 }, { name := "CASE_INSENSITIVE_ORDER", type := (.object "java/util/Comparator"), accessFlags := 25, slot := 4, constantValue := 0 }, { name := "LATIN1", type := .byte, accessFlags := 24, slot := 5, constantValue := 0 }, { name := "UTF16", type := .byte, accessFlags := 24, slot := 6, constantValue := 0 }]
  methods := #[k7m0, k7m1, k7m2, k7m3, k7m4, k7m5]
  instanceTypes := #[(.array .byte), .byte, .int, .boolean]
  staticTypes := #[.long, .boolean, (.array (.object "java/io/ObjectStreamField")), .char, (.object "java/util/Comparator"), .byte, .byte]
  resolved := Array.replicate 1451 none
  statics := some 0 }

def pool8 : Array CpInfo := pool [(1, .methodref 2 3), (0, .class_ 4), (0, .nameAndType 5 6), (0, u "java/lang/Object"), (0, u "<init>"), (0, u "()V"), (0, .class_ 8), (0, u "java/lang/Record")] 13

def k8c0 : Code := { maxStack := 1, maxLocals := 1, code := jdk_30_method_1_code, exceptionTable := #[], attributes := #[] }
def k8m0 : Method := { name := "<init>", desc := "()V", sig := { parameters := [], returnType := none }, accessFlags := 4, code := some k8c0 }
/-- java/lang/Record -/
def k8 : Class := { plain "java/lang/Record" (some 0) with
  accessFlags := 1057
  interfaces := #[]
  cf := some (fileOf pool8 7 #[] #[{ accessFlags := 4, nameIndex := 5, descriptorIndex := 6, attributes := #[] }] 1057 2 #[] #[])
  fields := #[]
  methods := #[k8m0]
  instanceTypes := #[]
  staticTypes := #[]
  resolved := Array.replicate 22 none
  statics := none }

def pool9 : Array CpInfo := pool [(18, .class_ 19), (0, u "com/example/revlint/revlint/model/GenericType"), (0, .class_ 21), (0, u "com/example/revlint/revlint/model/GenericType$ArrayType"), (8, .class_ 31), (0, u "com/example/revlint/revlint/model/GenericType$ClassType"), (18, .class_ 51), (0, u "com/example/revlint/revlint/model/GenericType$Argument"), (7, .class_ 60), (0, u "java/lang/Object"), (15, .class_ 77), (0, u "com/example/revlint/revlint/model/GenericType$Variance"), (0, .class_ 79), (0, u "com/example/revlint/revlint/model/GenericType$TypeVariable"), (0, .class_ 81), (0, u "com/example/revlint/revlint/model/GenericType$Primitive")] 8

/-- com/example/revlint/revlint/model/GenericType -/
def k9 : Class := { plain "com/example/revlint/revlint/model/GenericType" (some 0) with
  accessFlags := 1537
  interfaces := #[]
  cf := some (fileOf pool9 18 #[.nestMembers #[76, 50, 20, 78, 30, 80]] #[] 1537 59 #[] #[])
  fields := #[]
  methods := #[]
  instanceTypes := #[]
  staticTypes := #[]
  resolved := Array.replicate 90 none
  statics := none }

def pool10 : Array CpInfo := pool [(1, .methodref 2 3), (0, .class_ 4), (0, .nameAndType 5 6), (0, u "java/lang/Record"), (0, u "<init>"), (0, u "()V"), (0, .string 8), (0, u "name"), (0, .methodref 10 11), (0, .class_ 12), (0, .nameAndType 13 14), (0, u "java/util/Objects"), (0, u "requireNonNull"), (0, u "(Ljava/lang/Object;Ljava/lang/String;)Ljava/lang/Object;"), (0, .fieldref 16 17), (0, .class_ 18), (0, .nameAndType 8 19), (0, u "com/example/revlint/revlint/model/GenericType$Primitive"), (0, u "Ljava/lang/String;"), (0, .methodref 21 22), (0, .class_ 23), (0, .nameAndType 24 25), (0, u "java/lang/String"), (0, u "equals"), (0, u "(Ljava/lang/Object;)Z"), (12, .class_ 39), (0, u "com/example/revlint/revlint/model/GenericType"), (0, u "(Ljava/lang/String;)V")] 28

def k10c0 : Code := { maxStack := 2, maxLocals := 2, code := prog_21_method_1_code, exceptionTable := #[], attributes := #[] }
def k10m0 : Method := { name := "<init>", desc := "(Ljava/lang/String;)V", sig := { parameters := [(.object "java/lang/String")], returnType := none }, accessFlags := 1, code := some k10c0 }
def k10c1 : Code := { maxStack := 2, maxLocals := 3, code := prog_21_method_2_code, exceptionTable := #[], attributes := #[] }
def k10m1 : Method := { name := "equals", desc := "(Ljava/lang/Object;)Z", sig := { parameters := [(.object "java/lang/Object")], returnType := some .boolean }, accessFlags := 1, code := some k10c1 }
/-- com/example/revlint/revlint/model/GenericType$Primitive -/
def k10 : Class := { plain "com/example/revlint/revlint/model/GenericType$Primitive" (some 8) with
  accessFlags := 49
  interfaces := #[9]
  cf := some (fileOf pool10 16 #[.nestHost 38] #[{ accessFlags := 1, nameIndex := 5, descriptorIndex := 40, attributes := #[] }, { accessFlags := 1, nameIndex := 24, descriptorIndex := 25, attributes := #[] }] 49 2 #[38] #[{ accessFlags := 18, nameIndex := 8, descriptorIndex := 19, attributes := #[] }])
  fields := #[{ name := "name", type := (.object "java/lang/String"), accessFlags := 18, slot := 0, constantValue := 0 }]
  methods := #[k10m0, k10m1]
  instanceTypes := #[(.object "java/lang/String")]
  staticTypes := #[]
  resolved := Array.replicate 69 none
  statics := none }

def pool11 : Array CpInfo := pool [(2, .class_ 4), (1, u "java/lang/Object"), (0, u "<init>"), (0, u "()V"), (35, .class_ 44), (1, u "java/util/Objects"), (0, u "requireNonNull"), (48, u "(Ljava/lang/Object;Ljava/lang/String;)Ljava/lang/Object;")] 89

def k11m0 : Method := { name := "<init>", desc := "()V", sig := { parameters := [], returnType := none }, accessFlags := 2, code := none }
def k11c1 : Code := { maxStack := 3, maxLocals := 2, code := jdk_31_method_11_code, exceptionTable := #[], attributes := #[] }
def k11m1 : Method := { name := "requireNonNull", desc := "(Ljava/lang/Object;Ljava/lang/String;)Ljava/lang/Object;", sig := { parameters := [(.object "java/lang/Object"), (.object "java/lang/String")], returnType := some (.object "java/lang/Object") }, accessFlags := 9, code := some k11c1 }
/-- java/util/Objects -/
def k11 : Class := { plain "java/util/Objects" (some 0) with
  accessFlags := 49
  interfaces := #[]
  cf := some (fileOf pool11 42 #[] #[{ accessFlags := 2, nameIndex := 5, descriptorIndex := 6, attributes := #[] }, { accessFlags := 9, nameIndex := 45, descriptorIndex := 94, attributes := #[] }] 49 2 #[] #[])
  fields := #[]
  methods := #[k11m0, k11m1]
  instanceTypes := #[]
  staticTypes := #[]
  resolved := Array.replicate 184 none
  statics := none }

def pool12 : Array CpInfo := pool [(6, .class_ 8), (1, u "java/lang/Object"), (0, u "<init>"), (0, u "()V"), (1, .class_ 14), (1, u "java/lang/StringUTF16"), (31, u "$assertionsDisabled"), (0, u "Z"), (13, u "HI_BYTE_SHIFT"), (0, u "I"), (2, u "LO_BYTE_SHIFT"), (49, .methodref 12 116), (0, .nameAndType 117 118), (0, u "compress"), (0, u "([CI[BII)I"), (3, u "([CII)[B"), (138, u "coderFromArrayLen"), (0, u "([BI)B"), (106, .class_ 371), (1, u "java/lang/StringUTF16$LinesSpliterator"), (58, u "MAX_LENGTH"), (196, .class_ 628), (0, u "java/lang/StringUTF16$CodePointsSpliterator"), (0, .class_ 630), (0, u "java/lang/StringUTF16$CharsSpliterator")] 4

def k12m0 : Method := { name := "<init>", desc := "()V", sig := { parameters := [], returnType := none }, accessFlags := 0, code := none }
def k12c1 : Code := { maxStack := 2, maxLocals := 2, code := jdk_52_method_15_code, exceptionTable := #[], attributes := #[] }
def k12m1 : Method := { name := "coderFromArrayLen", desc := "([BI)B", sig := { parameters := [(.array .byte), .int], returnType := some .byte }, accessFlags := 8, code := some k12c1 }
def k12c2 : Code := { maxStack := 5, maxLocals := 6, code := jdk_52_method_16_code, exceptionTable := #[], attributes := #[] }
def k12m2 : Method := { name := "compress", desc := "([CII)[B", sig := { parameters := [(.array .char), .int, .int], returnType := some (.array .byte) }, accessFlags := 9, code := some k12c2 }
def k12c3 : Code := { maxStack := 3, maxLocals := 7, code := jdk_52_method_21_code, exceptionTable := #[], attributes := #[] }
def k12m3 : Method := { name := "compress", desc := "([CI[BII)I", sig := { parameters := [(.array .char), .int, (.array .byte), .int, .int], returnType := some .int }, accessFlags := 9, code := some k12c3 }
/-- java/lang/StringUTF16 -/
def k12 : Class := { plain "java/lang/StringUTF16" (some 0) with
  accessFlags := 48
  interfaces := #[]
  cf := some (fileOf pool12 12 #[.nestMembers #[627, 629, 369]] #[{ accessFlags := 0, nameIndex := 9, descriptorIndex := 10, attributes := #[] }, { accessFlags := 8, nameIndex := 261, descriptorIndex := 262, attributes := #[] }, { accessFlags := 9, nameIndex := 117, descriptorIndex := 122, attributes := #[] }, { accessFlags := 9, nameIndex := 117, descriptorIndex := 118, attributes := #[] }] 48 6 #[] #[{ accessFlags := 26, nameIndex := 61, descriptorIndex := 62, attributes := #[] }, { accessFlags := 26, nameIndex := 65, descriptorIndex := 62, attributes := #[] }, { accessFlags := 24, nameIndex := 430, descriptorIndex := 62, attributes := #[] }, { accessFlags := 4120, nameIndex := 46, descriptorIndex := 47, attributes := #[] }])
  fields := #[{ name := "HI_BYTE_SHIFT", type := .int, accessFlags := 26, slot := 0, constantValue := 0 }, { name := "LO_BYTE_SHIFT", type := .int, accessFlags := 26, slot := 1, constantValue := 0 }, { name := "MAX_LENGTH", type := .int, accessFlags := 24, slot := 2, constantValue := 0 }, { name := "$assertionsDisabled", type := .boolean, accessFlags := 4120, slot := 3, constantValue := 0 }]
  methods := #[k12m0, k12m1, k12m2, k12m3]
  instanceTypes := #[]
  staticTypes := #[.int, .int, .int, .boolean]
  resolved := Array.replicate 635 none
  statics := none }

def pool13 : Array CpInfo := pool [(1, .methodref 2 3), (0, .class_ 4), (0, .nameAndType 5 6), (0, u "java/lang/Record"), (0, u "<init>"), (0, u "()V"), (0, .string 8), (0, u "name"), (0, .methodref 10 11), (0, .class_ 12), (0, .nameAndType 13 14), (0, u "java/util/Objects"), (0, u "requireNonNull"), (0, u "(Ljava/lang/Object;Ljava/lang/String;)Ljava/lang/Object;"), (0, .fieldref 16 17), (0, .class_ 18), (0, .nameAndType 8 19), (0, u "com/example/revlint/revlint/model/GenericType$TypeVariable"), (0, u "Ljava/lang/String;"), (16, .class_ 37), (0, u "com/example/revlint/revlint/model/GenericType"), (4, u "(Ljava/lang/String;)V")] 29

def k13c0 : Code := { maxStack := 2, maxLocals := 2, code := prog_22_method_1_code, exceptionTable := #[], attributes := #[] }
def k13m0 : Method := { name := "<init>", desc := "(Ljava/lang/String;)V", sig := { parameters := [(.object "java/lang/String")], returnType := none }, accessFlags := 1, code := some k13c0 }
/-- com/example/revlint/revlint/model/GenericType$TypeVariable -/
def k13 : Class := { plain "com/example/revlint/revlint/model/GenericType$TypeVariable" (some 8) with
  accessFlags := 49
  interfaces := #[9]
  cf := some (fileOf pool13 16 #[.nestHost 36] #[{ accessFlags := 1, nameIndex := 5, descriptorIndex := 42, attributes := #[] }] 49 2 #[36] #[{ accessFlags := 18, nameIndex := 8, descriptorIndex := 19, attributes := #[] }])
  fields := #[{ name := "name", type := (.object "java/lang/String"), accessFlags := 18, slot := 0, constantValue := 0 }]
  methods := #[k13m0]
  instanceTypes := #[(.object "java/lang/String")]
  staticTypes := #[]
  resolved := Array.replicate 72 none
  statics := none }

def pool14 : Array CpInfo := pool [(4, .class_ 6), (1, u "java/lang/Object"), (0, u "<init>"), (0, u "()V"), (5, .class_ 16), (1, u "java/lang/StringLatin1"), (73, u "canEncode"), (14, u "(C)Z"), (15, u "$assertionsDisabled"), (0, u "Z"), (98, .class_ 223), (1, u "java/lang/StringLatin1$LinesSpliterator"), (57, u "equals"), (0, u "([B[B)Z"), (97, u "toBytes"), (1, u "(C)[B"), (7, .class_ 391), (0, u "java/lang/StringLatin1$CharsSpliterator")] 3

def k14m0 : Method := { name := "<init>", desc := "()V", sig := { parameters := [], returnType := none }, accessFlags := 0, code := none }
def k14c1 : Code := { maxStack := 2, maxLocals := 1, code := jdk_43_method_3_code, exceptionTable := #[], attributes := #[] }
def k14m1 : Method := { name := "canEncode", desc := "(C)Z", sig := { parameters := [.char], returnType := some .boolean }, accessFlags := 9, code := some k14c1 }
def k14c2 : Code := { maxStack := 3, maxLocals := 3, code := jdk_43_method_13_code, exceptionTable := #[], attributes := #[] }
def k14m2 : Method := { name := "equals", desc := "([B[B)Z", sig := { parameters := [(.array .byte), (.array .byte)], returnType := some .boolean }, accessFlags := 9, code := some k14c2 }
def k14c3 : Code := { maxStack := 4, maxLocals := 1, code := jdk_43_method_46_code, exceptionTable := #[], attributes := #[] }
def k14m3 : Method := { name := "toBytes", desc := "(C)[B", sig := { parameters := [.char], returnType := some (.array .byte) }, accessFlags := 9, code := some k14c3 }
/-- java/lang/StringLatin1 -/
def k14 : Class := { plain "java/lang/StringLatin1" (some 0) with
  accessFlags := 48
  interfaces := #[]
  cf := some (fileOf pool14 14 #[.nestMembers #[390, 221]] #[{ accessFlags := 0, nameIndex := 7, descriptorIndex := 8, attributes := #[] }, { accessFlags := 9, nameIndex := 90, descriptorIndex := 105, attributes := #[] }, { accessFlags := 9, nameIndex := 281, descriptorIndex := 282, attributes := #[] }, { accessFlags := 9, nameIndex := 380, descriptorIndex := 382, attributes := #[] }] 48 4 #[] #[{ accessFlags := 4120, nameIndex := 121, descriptorIndex := 122, attributes := #[] }])
  fields := #[{ name := "$assertionsDisabled", type := .boolean, accessFlags := 4120, slot := 0, constantValue := 0 }]
  methods := #[k14m0, k14m1, k14m2, k14m3]
  instanceTypes := #[]
  staticTypes := #[.boolean]
  resolved := Array.replicate 395 none
  statics := none }

def pool15 : Array CpInfo := pool [(2, .class_ 4), (1, u "java/lang/Object"), (0, u "<init>"), (0, u "()V"), (17, .class_ 26), (1, u "jdk/internal/util/Preconditions"), (28, .class_ 56), (0, u "jdk/internal/util/Preconditions$4"), (57, .class_ 115), (0, u "jdk/internal/util/Preconditions$1"), (7, u "SIOOBE_FORMATTER"), (0, u "Ljava/util/function/BiFunction;"), (0, .class_ 126), (0, u "jdk/internal/util/Preconditions$2"), (3, u "AIOOBE_FORMATTER"), (0, .class_ 132), (0, u "jdk/internal/util/Preconditions$3"), (3, u "IOOBE_FORMATTER")] 57

def k15m0 : Method := { name := "<init>", desc := "()V", sig := { parameters := [], returnType := none }, accessFlags := 1, code := none }
/-- jdk/internal/util/Preconditions -/
def k15 : Class := { plain "jdk/internal/util/Preconditions" (some 0) with
  accessFlags := 33
  interfaces := #[]
  cf := some (fileOf pool15 24 #[.nestMembers #[55, 131, 125, 114]] #[{ accessFlags := 1, nameIndex := 5, descriptorIndex := 6, attributes := #[] }] 33 2 #[] #[{ accessFlags := 25, nameIndex := 123, descriptorIndex := 124, attributes := #[] }, { accessFlags := 25, nameIndex := 130, descriptorIndex := 124, attributes := #[] }, { accessFlags := 25, nameIndex := 136, descriptorIndex := 124, attributes := #[] }])
  fields := #[{ name := "SIOOBE_FORMATTER", type := (.object "java/util/function/BiFunction"), accessFlags := 25, slot := 0, constantValue := 0 }, { name := "AIOOBE_FORMATTER", type := (.object "java/util/function/BiFunction"), accessFlags := 25, slot := 1, constantValue := 0 }, { name := "IOOBE_FORMATTER", type := (.object "java/util/function/BiFunction"), accessFlags := 25, slot := 2, constantValue := 0 }]
  methods := #[k15m0]
  instanceTypes := #[]
  staticTypes := #[(.object "java/util/function/BiFunction"), (.object "java/util/function/BiFunction"), (.object "java/util/function/BiFunction")]
  resolved := Array.replicate 194 none
  statics := some 1 }

def pool16 : Array CpInfo := pool [(9, u "<init>"), (6, .class_ 18), (1, u "java/lang/Object"), (0, u "()V"), (1, .class_ 23), (1, u "jdk/internal/util/ArraysSupport"), (0, u "LOG2_ARRAY_LONG_INDEX_SCALE"), (0, u "I"), (2, u "U"), (0, u "Ljdk/internal/misc/Unsafe;"), (8, u "BIG_ENDIAN"), (0, u "Z"), (8, u "LOG2_BYTE_BIT_SIZE"), (4, u "LOG2_ARRAY_INT_INDEX_SCALE"), (54, u "JLA"), (0, u "Ljdk/internal/access/JavaLangAccess;"), (11, u "LOG2_ARRAY_BOOLEAN_INDEX_SCALE"), (9, u "LOG2_ARRAY_BYTE_INDEX_SCALE"), (5, u "LOG2_ARRAY_CHAR_INDEX_SCALE"), (5, u "LOG2_ARRAY_SHORT_INDEX_SCALE"), (18, u "LOG2_ARRAY_FLOAT_INDEX_SCALE"), (24, u "LOG2_ARRAY_DOUBLE_INDEX_SCALE"), (89, u "T_BOOLEAN"), (2, u "T_CHAR"), (1, u "T_FLOAT"), (1, u "T_DOUBLE"), (1, u "T_BYTE"), (1, u "T_SHORT"), (1, u "T_INT"), (1, u "T_LONG"), (1, u "SOFT_MAX_ARRAY_LENGTH")] 83

def k16m0 : Method := { name := "<init>", desc := "()V", sig := { parameters := [], returnType := none }, accessFlags := 2, code := none }
/-- jdk/internal/util/ArraysSupport -/
def k16 : Class := { plain "jdk/internal/util/ArraysSupport" (some 0) with
  accessFlags := 33
  interfaces := #[]
  cf := some (fileOf pool16 21 #[] #[{ accessFlags := 2, nameIndex := 9, descriptorIndex := 19, attributes := #[] }] 33 16 #[] #[{ accessFlags := 24, nameIndex := 28, descriptorIndex := 29, attributes := #[] }, { accessFlags := 26, nameIndex := 38, descriptorIndex := 39, attributes := #[] }, { accessFlags := 25, nameIndex := 121, descriptorIndex := 25, attributes := #[] }, { accessFlags := 25, nameIndex := 131, descriptorIndex := 25, attributes := #[] }, { accessFlags := 25, nameIndex := 137, descriptorIndex := 25, attributes := #[] }, { accessFlags := 25, nameIndex := 143, descriptorIndex := 25, attributes := #[] }, { accessFlags := 25, nameIndex := 53, descriptorIndex := 25, attributes := #[] }, { accessFlags := 25, nameIndex := 24, descriptorIndex := 25, attributes := #[] }, { accessFlags := 25, nameIndex := 162, descriptorIndex := 25, attributes := #[] }, { accessFlags := 25, nameIndex := 187, descriptorIndex := 25, attributes := #[] }, { accessFlags := 26, nameIndex := 48, descriptorIndex := 25, attributes := #[] }, { accessFlags := 25, nameIndex := 277, descriptorIndex := 25, attributes := #[] }, { accessFlags := 25, nameIndex := 280, descriptorIndex := 25, attributes := #[] }, { accessFlags := 25, nameIndex := 282, descriptorIndex := 25, attributes := #[] }, { accessFlags := 25, nameIndex := 284, descriptorIndex := 25, attributes := #[] }, { accessFlags := 25, nameIndex := 286, descriptorIndex := 25, attributes := #[] }, { accessFlags := 25, nameIndex := 288, descriptorIndex := 25, attributes := #[] }, { accessFlags := 25, nameIndex := 290, descriptorIndex := 25, attributes := #[] }, { accessFlags := 25, nameIndex := 292, descriptorIndex := 25, attributes := #[] }, { accessFlags := 26, nameIndex := 108, descriptorIndex := 109, attributes := #[] }, { accessFlags := 25, nameIndex := 294, descriptorIndex := 25, attributes := #[] }])
  fields := #[{ name := "U", type := (.object "jdk/internal/misc/Unsafe"), accessFlags := 24, slot := 0, constantValue := 0 }, { name := "BIG_ENDIAN", type := .boolean, accessFlags := 26, slot := 1, constantValue := 0 }, { name := "LOG2_ARRAY_BOOLEAN_INDEX_SCALE", type := .int, accessFlags := 25, slot := 2, constantValue := 0 }, { name := "LOG2_ARRAY_BYTE_INDEX_SCALE", type := .int, accessFlags := 25, slot := 3, constantValue := 0 }, { name := "LOG2_ARRAY_CHAR_INDEX_SCALE", type := .int, accessFlags := 25, slot := 4, constantValue := 0 }, { name := "LOG2_ARRAY_SHORT_INDEX_SCALE", type := .int, accessFlags := 25, slot := 5, constantValue := 0 }, { name := "LOG2_ARRAY_INT_INDEX_SCALE", type := .int, accessFlags := 25, slot := 6, constantValue := 0 }, { name := "LOG2_ARRAY_LONG_INDEX_SCALE", type := .int, accessFlags := 25, slot := 7, constantValue := 0 }, { name := "LOG2_ARRAY_FLOAT_INDEX_SCALE", type := .int, accessFlags := 25, slot := 8, constantValue := 0 }, { name := "LOG2_ARRAY_DOUBLE_INDEX_SCALE", type := .int, accessFlags := 25, slot := 9, constantValue := 0 }, { name := "LOG2_BYTE_BIT_SIZE", type := .int, accessFlags := 26, slot := 10, constantValue := 0 }, { name := "T_BOOLEAN", type := .int, accessFlags := 25, slot := 11, constantValue := 0 }, { name := "T_CHAR", type := .int, accessFlags := 25, slot := 12, constantValue := 0 }, { name := "T_FLOAT", type := .int, accessFlags := 25, slot := 13, constantValue := 0 }, { name := "T_DOUBLE", type := .int, accessFlags := 25, slot := 14, constantValue := 0 }, { name := "T_BYTE", type := .int, accessFlags := 25, slot := 15, constantValue := 0 }, { name := "T_SHORT", type := .int, accessFlags := 25, slot := 16, constantValue := 0 }, { name := "T_INT", type := .int, accessFlags := 25, slot := 17, constantValue := 0 }, { name := "T_LONG", type := .int, accessFlags := 25, slot := 18, constantValue := 0 }, { name := "JLA", type := (.object "jdk/internal/access/JavaLangAccess"), accessFlags := 26, slot := 19, constantValue := 0 }, { name := "SOFT_MAX_ARRAY_LENGTH", type := .int, accessFlags := 25, slot := 20, constantValue := 0 }]
  methods := #[k16m0]
  instanceTypes := #[]
  staticTypes := #[(.object "jdk/internal/misc/Unsafe"), .boolean, .int, .int, .int, .int, .int, .int, .int, .int, .int, .int, .int, .int, .int, .int, .int, .int, .int, (.object "jdk/internal/access/JavaLangAccess"), .int]
  resolved := Array.replicate 378 none
  statics := none }

def pool17 : Array CpInfo := pool [(1, u "java/lang/Cloneable"), (0, .class_ 1), (0, u "java/lang/Object"), (0, .class_ 3)] 3

/-- java/lang/Cloneable -/
def k17 : Class := { plain "java/lang/Cloneable" (some 0) with
  accessFlags := 1537
  interfaces := #[]
  cf := some (fileOf pool17 2 #[] #[] 1537 4 #[] #[])
  fields := #[]
  methods := #[]
  instanceTypes := #[]
  staticTypes := #[]
  resolved := Array.replicate 8 none
  statics := none }

/-- the primitive byte -/
def k18 : Class := { plain "byte" none with kind := .primitive 'B', accessFlags := 0x411 }
/-- [B -/
def k19 : Class := { plain "[B" (some 0) with kind := .array 18 .byte, interfaces := #[17, 2], accessFlags := 1041 }

/-- the primitive char -/
def k20 : Class := { plain "char" none with kind := .primitive 'C', accessFlags := 0x411 }
/-- [C -/
def k21 : Class := { plain "[C" (some 0) with kind := .array 20 .char, interfaces := #[17, 2], accessFlags := 1041 }

/-- the primitive int -/
def k22 : Class := { plain "int" none with kind := .primitive 'I', accessFlags := 0x411 }
/-- [I -/
def k23 : Class := { plain "[I" (some 0) with kind := .array 22 .int, interfaces := #[17, 2], accessFlags := 1041 }

def heap : Heap := #[{ cls := 7, slots := #[.long 0, .int 1, .null, .int 0, .null, .int 0, .int 0], vm := .statics 7 },
  { cls := 15, slots := #[.null, .null, .null], vm := .statics 15 }]
def classes : Array Class := #[k0, k1, k2, k3, k4, k5, k6, k7, k8, k9, k10, k11, k12, k13, k14, k15, k16, k17, k18, k19, k20, k21, k22, k23]
def interned : List (Array UInt16 × Addr) := []
def slotsUsed : Nat := 10
def theMethod : MethodId := ⟨1, 7⟩
def args0 : Array Value := #[.int 1, .int 2, .int 0]
def aboutOver (below : List Frame) : State where
  vm := { classes := classes, interned := interned.toArray }
  heap := heap
  slotsUsed := slotsUsed
  threads := #[{ frames := .invoking theMethod args0 :: below }]
def below0 : List Frame := [.native { method := ⟨0, 0⟩, args := #[] }]
def about1 : State := aboutOver below0
def p0 : Program := .bare "" "" ""
def e0 : Env := launch0.env 0 0 0
theorem w_frames : about1.frames = Frame.invoking theMethod args0 :: below0 := rfl
set_option maxRecDepth 65536 in
theorem w_args : argsFit about1.vm theMethod args0 = true := by decide +kernel
set_option maxRecDepth 65536 in
theorem w_heap : heapFits about1 = true := by decide +kernel
set_option maxRecDepth 65536 in
theorem w_runnable : about1.curStatus? = some .runnable := by decide +kernel
set_option maxRecDepth 65536 in
theorem w_alone : about1.alone = true := by decide +kernel
set_option maxRecDepth 65536 in
theorem w_named : about1.methodNamed? x = some theMethod := by decide +kernel
set_option maxRecDepth 65536 in
theorem w_hears : about1.hears theMethod below0 = true := by decide +kernel
set_option maxRecDepth 65536 in
theorem w_ripe : about1.ripe theMethod args0 below0 = true := by decide +kernel
theorem w_running : about1.status = .running := rfl
set_option maxRecDepth 65536 in
theorem w_room : about1.hasRoom e0.platform room_1 = true :=
  launch0.hasRoom_least _ room_1 (by decide +kernel) (by decide +kernel) (by decide +kernel) (by decide +kernel) (by decide +kernel) (by decide +kernel)
theorem allAtoms_all (ts : List Jvm.Cond) (a : Array Jvm.Value) (st : Jvm.State) : (allAtoms ts).before a st = ts.all (fun c => c.before a st) := by
  induction ts with
  | nil => rfl
  | cons c t ih =>
    show (Jvm.Cond.and c (allAtoms t)).before a st = _
    rw [Jvm.Cond.before_and, ih, List.all_cons]
def words1 : List Jvm.Cond := Jvm.Cond.code x code maxLocals ret :: tables_1
/-- a 'code' word, met by the world's own term for the bytes: nothing is compared byte by byte -/
theorem code_word {y : MethodName} {bytes : ByteArray} {mx : Nat} {rt : Option FieldType} {a : Array Value} {s : State} {m : MethodId} {meth : Method} {c : Code} (h1 : s.methodNamed? y = some m) (h2 : s.vm.method? m = some meth) (h3 : meth.code = some c) (h4 : c.code = bytes)
    (h5 : (c.maxLocals == mx && c.exceptionTable.isEmpty && decide (c.maxStack ≤ mostOperands) && decide (meth.sig.returnType = rt) && !meth.locks && decide (parseMethodDescriptor y.desc = some meth.sig)) = true) : (Jvm.Cond.code y bytes mx rt).before a s = true := by
  simp only [Bool.and_eq_true, beq_iff_eq, Bool.not_eq_true', decide_eq_true_eq] at h5
  obtain ⟨⟨⟨⟨⟨g1, g2⟩, g3⟩, g4⟩, g5⟩, g6⟩ := h5
  simp [Cond.before, Cond.holds, Cond.value, h1, h2, h3, h4, g1, g2, g3, g4, g5, g6]
def isCode : Jvm.Cond → Bool
  | .code _ _ _ _ => true
  | _ => false
theorem all_split {L : List Jvm.Cond} {P : Jvm.Cond → Bool} (h1 : L.all (fun c => isCode c || P c) = true) (h2 : ∀ c ∈ L.filter isCode, P c = true) : L.all P = true := by
  refine List.all_eq_true.mpr fun c hc => ?_
  have h := List.all_eq_true.mp h1 c hc
  rcases Bool.eq_false_or_eq_true (isCode c) with hi | hi
  · exact h2 c (List.mem_filter.mpr ⟨hc, hi⟩)
  · simpa [hi] using h
set_option maxRecDepth 65536 in
theorem w_c0 : (Jvm.Cond.code x code maxLocals ret).before args0 about1 = true := code_word (m := ⟨1, 7⟩) (meth := k1m7) (c := k1c7) (by decide +kernel) rfl rfl rfl (by decide +kernel)
set_option maxRecDepth 65536 in
theorem w_c1 : (Jvm.Cond.code ({ cls := "com/example/revlint/revlint/model/PrimitiveEqualsPinLaw", name := "mk", desc := "(I)Ljava/lang/String;" } : Jvm.MethodName) method_6_code (3 : Nat) (Option.some (Jvm.ClassFile.FieldType.object "java/lang/String"))).before args0 about1 = true := code_word (m := ⟨1, 5⟩) (meth := k1m5) (c := k1c5) (by decide +kernel) rfl rfl rfl (by decide +kernel)
set_option maxRecDepth 65536 in
theorem w_c2 : (Jvm.Cond.code ({ cls := "com/example/revlint/revlint/model/PrimitiveEqualsPinLaw", name := "len", desc := "(I)I" } : Jvm.MethodName) method_2_code (1 : Nat) (Option.some Jvm.ClassFile.FieldType.int)).before args0 about1 = true := code_word (m := ⟨1, 1⟩) (meth := k1m1) (c := k1c1) (by decide +kernel) rfl rfl rfl (by decide +kernel)
set_option maxRecDepth 65536 in
theorem w_c3 : (Jvm.Cond.code ({ cls := "java/lang/String", name := "<init>", desc := "([C)V" } : Jvm.MethodName) jdk_42_method_3_code (2 : Nat) (Option.none : Option Jvm.ClassFile.FieldType)).before args0 about1 = true := code_word (m := ⟨7, 1⟩) (meth := k7m1) (c := k7c1) (by decide +kernel) rfl rfl rfl (by decide +kernel)
set_option maxRecDepth 65536 in
theorem w_c4 : (Jvm.Cond.code ({ cls := "java/lang/String", name := "<init>", desc := "([CIILjava/lang/Void;)V" } : Jvm.MethodName) jdk_42_method_149_code (6 : Nat) (Option.none : Option Jvm.ClassFile.FieldType)).before args0 about1 = true := code_word (m := ⟨7, 4⟩) (meth := k7m4) (c := k7c4) (by decide +kernel) rfl rfl rfl (by decide +kernel)
set_option maxRecDepth 65536 in
theorem w_c5 : (Jvm.Cond.code ({ cls := "java/lang/Object", name := "<init>", desc := "()V" } : Jvm.MethodName) object_method_1_code (1 : Nat) (Option.none : Option Jvm.ClassFile.FieldType)).before args0 about1 = true := code_word (m := ⟨0, 0⟩) (meth := k0m0) (c := k0c0) (by decide +kernel) rfl rfl rfl (by decide +kernel)
set_option maxRecDepth 65536 in
theorem w_c6 : (Jvm.Cond.code ({ cls := "com/example/revlint/revlint/model/GenericType$Primitive", name := "<init>", desc := "(Ljava/lang/String;)V" } : Jvm.MethodName) prog_21_method_1_code (2 : Nat) (Option.none : Option Jvm.ClassFile.FieldType)).before args0 about1 = true := code_word (m := ⟨10, 0⟩) (meth := k10m0) (c := k10c0) (by decide +kernel) rfl rfl rfl (by decide +kernel)
set_option maxRecDepth 65536 in
theorem w_c7 : (Jvm.Cond.code ({ cls := "java/lang/Record", name := "<init>", desc := "()V" } : Jvm.MethodName) jdk_30_method_1_code (1 : Nat) (Option.none : Option Jvm.ClassFile.FieldType)).before args0 about1 = true := code_word (m := ⟨8, 0⟩) (meth := k8m0) (c := k8c0) (by decide +kernel) rfl rfl rfl (by decide +kernel)
set_option maxRecDepth 65536 in
theorem w_c8 : (Jvm.Cond.code ({ cls := "java/util/Objects", name := "requireNonNull", desc := "(Ljava/lang/Object;Ljava/lang/String;)Ljava/lang/Object;" } : Jvm.MethodName) jdk_31_method_11_code (2 : Nat) (Option.some (Jvm.ClassFile.FieldType.object "java/lang/Object"))).before args0 about1 = true := code_word (m := ⟨11, 1⟩) (meth := k11m1) (c := k11c1) (by decide +kernel) rfl rfl rfl (by decide +kernel)
set_option maxRecDepth 65536 in
theorem w_c9 : (Jvm.Cond.code ({ cls := "com/example/revlint/revlint/model/GenericType$Primitive", name := "equals", desc := "(Ljava/lang/Object;)Z" } : Jvm.MethodName) prog_21_method_2_code (3 : Nat) (Option.some Jvm.ClassFile.FieldType.boolean)).before args0 about1 = true := code_word (m := ⟨10, 1⟩) (meth := k10m1) (c := k10c1) (by decide +kernel) rfl rfl rfl (by decide +kernel)
set_option maxRecDepth 65536 in
theorem w_c10 : (Jvm.Cond.code ({ cls := "java/lang/String", name := "equals", desc := "(Ljava/lang/Object;)Z" } : Jvm.MethodName) jdk_42_method_66_code (3 : Nat) (Option.some Jvm.ClassFile.FieldType.boolean)).before args0 about1 = true := code_word (m := ⟨7, 2⟩) (meth := k7m2) (c := k7c2) (by decide +kernel) rfl rfl rfl (by decide +kernel)
set_option maxRecDepth 65536 in
theorem w_c11 : (Jvm.Cond.code ({ cls := "com/example/revlint/revlint/model/PrimitiveEqualsPinLaw", name := "c0", desc := "(I)C" } : Jvm.MethodName) method_3_code (1 : Nat) (Option.some Jvm.ClassFile.FieldType.char)).before args0 about1 = true := code_word (m := ⟨1, 2⟩) (meth := k1m2) (c := k1c2) (by decide +kernel) rfl rfl rfl (by decide +kernel)
set_option maxRecDepth 65536 in
theorem w_c12 : (Jvm.Cond.code ({ cls := "com/example/revlint/revlint/model/PrimitiveEqualsPinLaw", name := "c1", desc := "(I)C" } : Jvm.MethodName) method_4_code (1 : Nat) (Option.some Jvm.ClassFile.FieldType.char)).before args0 about1 = true := code_word (m := ⟨1, 3⟩) (meth := k1m3) (c := k1c3) (by decide +kernel) rfl rfl rfl (by decide +kernel)
set_option maxRecDepth 65536 in
theorem w_c13 : (Jvm.Cond.code ({ cls := "java/lang/StringUTF16", name := "compress", desc := "([CII)[B" } : Jvm.MethodName) jdk_52_method_16_code (6 : Nat) (Option.some (Jvm.ClassFile.FieldType.array Jvm.ClassFile.FieldType.byte))).before args0 about1 = true := code_word (m := ⟨12, 2⟩) (meth := k12m2) (c := k12c2) (by decide +kernel) rfl rfl rfl (by decide +kernel)
set_option maxRecDepth 65536 in
theorem w_c14 : (Jvm.Cond.code ({ cls := "java/lang/StringUTF16", name := "compress", desc := "([CI[BII)I" } : Jvm.MethodName) jdk_52_method_21_code (7 : Nat) (Option.some Jvm.ClassFile.FieldType.int)).before args0 about1 = true := code_word (m := ⟨12, 3⟩) (meth := k12m3) (c := k12c3) (by decide +kernel) rfl rfl rfl (by decide +kernel)
set_option maxRecDepth 65536 in
theorem w_c15 : (Jvm.Cond.code ({ cls := "java/lang/StringUTF16", name := "coderFromArrayLen", desc := "([BI)B" } : Jvm.MethodName) jdk_52_method_15_code (2 : Nat) (Option.some Jvm.ClassFile.FieldType.byte)).before args0 about1 = true := code_word (m := ⟨12, 1⟩) (meth := k12m1) (c := k12c1) (by decide +kernel) rfl rfl rfl (by decide +kernel)
set_option maxRecDepth 65536 in
theorem w_c16 : (Jvm.Cond.code ({ cls := "com/example/revlint/revlint/model/PrimitiveEqualsPinLaw", name := "c2", desc := "(I)C" } : Jvm.MethodName) method_5_code (1 : Nat) (Option.some Jvm.ClassFile.FieldType.char)).before args0 about1 = true := code_word (m := ⟨1, 4⟩) (meth := k1m4) (c := k1c4) (by decide +kernel) rfl rfl rfl (by decide +kernel)
set_option maxRecDepth 65536 in
theorem w_c17 : (Jvm.Cond.code ({ cls := "com/example/revlint/revlint/model/GenericType$TypeVariable", name := "<init>", desc := "(Ljava/lang/String;)V" } : Jvm.MethodName) prog_22_method_1_code (2 : Nat) (Option.none : Option Jvm.ClassFile.FieldType)).before args0 about1 = true := code_word (m := ⟨13, 0⟩) (meth := k13m0) (c := k13c0) (by decide +kernel) rfl rfl rfl (by decide +kernel)
set_option maxRecDepth 65536 in
theorem w_c18 : (Jvm.Cond.code ({ cls := "java/lang/String", name := "valueOf", desc := "(C)Ljava/lang/String;" } : Jvm.MethodName) jdk_42_method_139_code (1 : Nat) (Option.some (Jvm.ClassFile.FieldType.object "java/lang/String"))).before args0 about1 = true := code_word (m := ⟨7, 3⟩) (meth := k7m3) (c := k7c3) (by decide +kernel) rfl rfl rfl (by decide +kernel)
set_option maxRecDepth 65536 in
theorem w_c19 : (Jvm.Cond.code ({ cls := "java/lang/StringLatin1", name := "canEncode", desc := "(C)Z" } : Jvm.MethodName) jdk_43_method_3_code (1 : Nat) (Option.some Jvm.ClassFile.FieldType.boolean)).before args0 about1 = true := code_word (m := ⟨14, 1⟩) (meth := k14m1) (c := k14c1) (by decide +kernel) rfl rfl rfl (by decide +kernel)
set_option maxRecDepth 65536 in
theorem w_c20 : (Jvm.Cond.code ({ cls := "java/lang/StringLatin1", name := "toBytes", desc := "(C)[B" } : Jvm.MethodName) jdk_43_method_46_code (1 : Nat) (Option.some (Jvm.ClassFile.FieldType.array Jvm.ClassFile.FieldType.byte))).before args0 about1 = true := code_word (m := ⟨14, 3⟩) (meth := k14m3) (c := k14c3) (by decide +kernel) rfl rfl rfl (by decide +kernel)
set_option maxRecDepth 65536 in
theorem w_c21 : (Jvm.Cond.code ({ cls := "java/lang/String", name := "<init>", desc := "([BB)V" } : Jvm.MethodName) jdk_42_method_151_code (3 : Nat) (Option.none : Option Jvm.ClassFile.FieldType)).before args0 about1 = true := code_word (m := ⟨7, 5⟩) (meth := k7m5) (c := k7c5) (by decide +kernel) rfl rfl rfl (by decide +kernel)
set_option maxRecDepth 65536 in
theorem w_c22 : (Jvm.Cond.code ({ cls := "com/example/revlint/revlint/model/PrimitiveEqualsPinLaw", name := "same", desc := "(II)Z" } : Jvm.MethodName) method_7_code (3 : Nat) (Option.some Jvm.ClassFile.FieldType.boolean)).before args0 about1 = true := code_word (m := ⟨1, 6⟩) (meth := k1m6) (c := k1c6) (by decide +kernel) rfl rfl rfl (by decide +kernel)
set_option maxRecDepth 65536 in
theorem w_c23 : (Jvm.Cond.code ({ cls := "java/lang/StringLatin1", name := "equals", desc := "([B[B)Z" } : Jvm.MethodName) jdk_43_method_13_code (3 : Nat) (Option.some Jvm.ClassFile.FieldType.boolean)).before args0 about1 = true := code_word (m := ⟨14, 2⟩) (meth := k14m2) (c := k14c2) (by decide +kernel) rfl rfl rfl (by decide +kernel)
def codes1 : List Jvm.Cond := [Jvm.Cond.code x code maxLocals ret, Jvm.Cond.code ({ cls := "com/example/revlint/revlint/model/PrimitiveEqualsPinLaw", name := "mk", desc := "(I)Ljava/lang/String;" } : Jvm.MethodName) method_6_code (3 : Nat) (Option.some (Jvm.ClassFile.FieldType.object "java/lang/String")), Jvm.Cond.code ({ cls := "com/example/revlint/revlint/model/PrimitiveEqualsPinLaw", name := "len", desc := "(I)I" } : Jvm.MethodName) method_2_code (1 : Nat) (Option.some Jvm.ClassFile.FieldType.int), Jvm.Cond.code ({ cls := "java/lang/String", name := "<init>", desc := "([C)V" } : Jvm.MethodName) jdk_42_method_3_code (2 : Nat) (Option.none : Option Jvm.ClassFile.FieldType), Jvm.Cond.code ({ cls := "java/lang/String", name := "<init>", desc := "([CIILjava/lang/Void;)V" } : Jvm.MethodName) jdk_42_method_149_code (6 : Nat) (Option.none : Option Jvm.ClassFile.FieldType), Jvm.Cond.code ({ cls := "java/lang/Object", name := "<init>", desc := "()V" } : Jvm.MethodName) object_method_1_code (1 : Nat) (Option.none : Option Jvm.ClassFile.FieldType), Jvm.Cond.code ({ cls := "com/example/revlint/revlint/model/GenericType$Primitive", name := "<init>", desc := "(Ljava/lang/String;)V" } : Jvm.MethodName) prog_21_method_1_code (2 : Nat) (Option.none : Option Jvm.ClassFile.FieldType), Jvm.Cond.code ({ cls := "java/lang/Record", name := "<init>", desc := "()V" } : Jvm.MethodName) jdk_30_method_1_code (1 : Nat) (Option.none : Option Jvm.ClassFile.FieldType), Jvm.Cond.code ({ cls := "java/util/Objects", name := "requireNonNull", desc := "(Ljava/lang/Object;Ljava/lang/String;)Ljava/lang/Object;" } : Jvm.MethodName) jdk_31_method_11_code (2 : Nat) (Option.some (Jvm.ClassFile.FieldType.object "java/lang/Object")), Jvm.Cond.code ({ cls := "com/example/revlint/revlint/model/GenericType$Primitive", name := "equals", desc := "(Ljava/lang/Object;)Z" } : Jvm.MethodName) prog_21_method_2_code (3 : Nat) (Option.some Jvm.ClassFile.FieldType.boolean), Jvm.Cond.code ({ cls := "java/lang/String", name := "equals", desc := "(Ljava/lang/Object;)Z" } : Jvm.MethodName) jdk_42_method_66_code (3 : Nat) (Option.some Jvm.ClassFile.FieldType.boolean), Jvm.Cond.code ({ cls := "com/example/revlint/revlint/model/PrimitiveEqualsPinLaw", name := "c0", desc := "(I)C" } : Jvm.MethodName) method_3_code (1 : Nat) (Option.some Jvm.ClassFile.FieldType.char), Jvm.Cond.code ({ cls := "com/example/revlint/revlint/model/PrimitiveEqualsPinLaw", name := "c1", desc := "(I)C" } : Jvm.MethodName) method_4_code (1 : Nat) (Option.some Jvm.ClassFile.FieldType.char), Jvm.Cond.code ({ cls := "java/lang/StringUTF16", name := "compress", desc := "([CII)[B" } : Jvm.MethodName) jdk_52_method_16_code (6 : Nat) (Option.some (Jvm.ClassFile.FieldType.array Jvm.ClassFile.FieldType.byte)), Jvm.Cond.code ({ cls := "java/lang/StringUTF16", name := "compress", desc := "([CI[BII)I" } : Jvm.MethodName) jdk_52_method_21_code (7 : Nat) (Option.some Jvm.ClassFile.FieldType.int), Jvm.Cond.code ({ cls := "java/lang/StringUTF16", name := "coderFromArrayLen", desc := "([BI)B" } : Jvm.MethodName) jdk_52_method_15_code (2 : Nat) (Option.some Jvm.ClassFile.FieldType.byte), Jvm.Cond.code ({ cls := "com/example/revlint/revlint/model/PrimitiveEqualsPinLaw", name := "c2", desc := "(I)C" } : Jvm.MethodName) method_5_code (1 : Nat) (Option.some Jvm.ClassFile.FieldType.char), Jvm.Cond.code ({ cls := "com/example/revlint/revlint/model/GenericType$TypeVariable", name := "<init>", desc := "(Ljava/lang/String;)V" } : Jvm.MethodName) prog_22_method_1_code (2 : Nat) (Option.none : Option Jvm.ClassFile.FieldType), Jvm.Cond.code ({ cls := "java/lang/String", name := "valueOf", desc := "(C)Ljava/lang/String;" } : Jvm.MethodName) jdk_42_method_139_code (1 : Nat) (Option.some (Jvm.ClassFile.FieldType.object "java/lang/String")), Jvm.Cond.code ({ cls := "java/lang/StringLatin1", name := "canEncode", desc := "(C)Z" } : Jvm.MethodName) jdk_43_method_3_code (1 : Nat) (Option.some Jvm.ClassFile.FieldType.boolean), Jvm.Cond.code ({ cls := "java/lang/StringLatin1", name := "toBytes", desc := "(C)[B" } : Jvm.MethodName) jdk_43_method_46_code (1 : Nat) (Option.some (Jvm.ClassFile.FieldType.array Jvm.ClassFile.FieldType.byte)), Jvm.Cond.code ({ cls := "java/lang/String", name := "<init>", desc := "([BB)V" } : Jvm.MethodName) jdk_42_method_151_code (3 : Nat) (Option.none : Option Jvm.ClassFile.FieldType), Jvm.Cond.code ({ cls := "com/example/revlint/revlint/model/PrimitiveEqualsPinLaw", name := "same", desc := "(II)Z" } : Jvm.MethodName) method_7_code (3 : Nat) (Option.some Jvm.ClassFile.FieldType.boolean), Jvm.Cond.code ({ cls := "java/lang/StringLatin1", name := "equals", desc := "([B[B)Z" } : Jvm.MethodName) jdk_43_method_13_code (3 : Nat) (Option.some Jvm.ClassFile.FieldType.boolean)]
set_option maxRecDepth 65536 in
theorem codes_eq : words1.filter isCode = codes1 := rfl
theorem w_codes : ∀ c ∈ words1.filter isCode, c.before args0 about1 = true := by
  rw [codes_eq]
  intro c hc
  simp only [codes1, List.mem_cons, List.not_mem_nil, or_false] at hc
  rcases hc with rfl | rfl | rfl | rfl | rfl | rfl | rfl | rfl | rfl | rfl | rfl | rfl | rfl | rfl | rfl | rfl | rfl | rfl | rfl | rfl | rfl | rfl | rfl | rfl
  · exact w_c0
  · exact w_c1
  · exact w_c2
  · exact w_c3
  · exact w_c4
  · exact w_c5
  · exact w_c6
  · exact w_c7
  · exact w_c8
  · exact w_c9
  · exact w_c10
  · exact w_c11
  · exact w_c12
  · exact w_c13
  · exact w_c14
  · exact w_c15
  · exact w_c16
  · exact w_c17
  · exact w_c18
  · exact w_c19
  · exact w_c20
  · exact w_c21
  · exact w_c22
  · exact w_c23
set_option maxRecDepth 65536 in
theorem w_t1 : (words1.take 24).all (fun c => isCode c || c.before args0 about1) = true := by decide +kernel
set_option maxRecDepth 65536 in
theorem w_t2 : ((words1.drop 24).take 24).all (fun c => isCode c || c.before args0 about1) = true := by decide +kernel
set_option maxRecDepth 65536 in
theorem w_t3 : (((words1.drop 24).drop 24).take 24).all (fun c => isCode c || c.before args0 about1) = true := by decide +kernel
set_option maxRecDepth 65536 in
theorem w_t4 : ((((words1.drop 24).drop 24).drop 24).take 24).all (fun c => isCode c || c.before args0 about1) = true := by decide +kernel
set_option maxRecDepth 65536 in
theorem w_t5 : ((((words1.drop 24).drop 24).drop 24).drop 24).all (fun c => isCode c || c.before args0 about1) = true := by decide +kernel
theorem w_tables : (allAtoms (Jvm.Cond.code x code maxLocals ret :: tables_1)).before args0 about1 = true := by
  rw [allAtoms_all]
  show words1.all (fun c => c.before args0 about1) = true
  refine all_split ?_ w_codes
  rw [← List.take_append_drop 24 words1, List.all_append, w_t1, ← List.take_append_drop 24 (words1.drop 24), List.all_append, w_t2, ← List.take_append_drop 24 ((words1.drop 24).drop 24), List.all_append, w_t3, ← List.take_append_drop 24 (((words1.drop 24).drop 24).drop 24), List.all_append, w_t4, w_t5]
  rfl
set_option maxRecDepth 65536 in
theorem w_rest : rest_1_c.before args0 about1 = true := by decide +kernel
set_option maxRecDepth 65536 in
theorem w_case : (Jvm.Cond.and given_1 narrow_1).before args0 about1 = true := by decide +kernel
set_option maxRecDepth 65536 in
theorem w_consts : constsHeld consts_1 about1 := Jvm.Lit.constsHeldB_iff.mp (by decide +kernel)
theorem w_applies : (headSpec (Jvm.Cond.code x code maxLocals ret :: tables_1) room_1).applies x e0.platform about1 = true :=
  (Spec.applies_iff w_frames).mpr ⟨w_running, w_runnable, w_alone, w_named, w_hears, w_ripe, w_room, w_tables⟩
theorem atStart : AtStart classFile x code maxLocals ret World_1 tables_1 room_1 Calls_1 rest_1 Pre_1 launch0 p0 e0 about1 theMethod args0 below0 :=
  ⟨lists_1, trivial, launch0.admits_env _ _ _, launch0.least_env, fairChoices_fair.cas, fairChoices_fair.clock, w_frames, w_args, w_heap, w_applies, ⟨w_consts, trivial⟩, w_rest, w_case⟩
end start1
theorem witness_1 : WitnessClaimed_1 := ⟨start1.p0, start1.e0, start1.about1, start1.theMethod, start1.args0, start1.below0, start1.atStart⟩
end Jvm.Pilot.@@N@@
