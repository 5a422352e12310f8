import JvmDerived
import JvmDerived.Pilot.@@N@@Statement
import JvmDerived.Pilot.@@N@@Code
set_option linter.unusedVariables false
set_option linter.unusedSimpArgs false
namespace Jvm.OwnKit
open Sem ClassFile Op Lib Jvm.Stand Jvm.Free Jvm.LawKit Jvm.RoadKit
section Go
variable {p : Program} {l : Launch} {e : Env} {R : Room} {s : State} {m : MethodId} {args : Array Value} {below : List Frame} {meth : Method} {c : Code} {T T' : State} {locs : List Loc} {cells slots : Nat} {g g' : JFrame} {P : Outcome → State → Prop} {Q : Option Value → Heap → List Loc → Prop} {k n pc : Nat} {Ls : Array Slot} {rest : List Value}
/-- from this state and frame the invocation comes to its end, and the end is as P says -/
def Go (p : Program) (e : Env) (below : List Frame) (T : State) (g : JFrame) (P : Outcome → State → Prop) : Prop :=
  ∃ s₂ o, Steps p.tables e below (T.setTop g) s₂ ∧ s₂.status = .running ∧ Ended s₂ below o ∧ P o s₂
abbrev Po (s : State) (Q : Option Value → Heap → List Loc → Prop) (k n : Nat) : Outcome → State → Prop := fun o U' => ∃ v L, o = .returned v ∧ Q v U'.heap L ∧ FrameEnd s o U' L k n
theorem stp (h : ∀ t, Steps p.tables e below (T'.setTop g') t → Steps p.tables e below (T.setTop g) t) (K : Go p e below T' g' P) : Go p e below T g P := by
  obtain ⟨s2, o, h1, h2⟩ := K
  exact ⟨s2, o, h _ h1, h2⟩
theorem stt (h : Steps p.tables e below (T.setTop g) (T'.setTop g')) (K : Go p e below T' g' P) : Go p e below T g P := by
  obtain ⟨s2, o, h1, h2⟩ := K
  exact ⟨s2, o, h.trans h1, h2⟩
theorem out (X : Stand p l e R s m args below meth c T locs cells slots) {v : Option Value} (hl : meth.locks = false) (hv : meth.sig.returnType = none → v = none)
    (hst : ∀ fs : List Frame, (∀ (f : JFrame) (acts : List Action), f.method = m → f.locked = none → f.entered = [] → (doReturn e (T.setTop f) acts v).1 = T.setFrames fs) → Steps p.tables e below (T.setTop g) (T.setFrames fs))
    (hc : cells ≤ k) (hn : slots ≤ n) (hQ : Q v T.heap locs) : Go p e below T g (Po s Q k n) := by
  obtain ⟨fs, hr, hrun, hended, hW, hsame⟩ := X.leave (v := v) hv hl
  exact ⟨_, _, hst fs hr, hrun, hended, v, locs, rfl, hQ, ⟨_, rfl⟩, hW, hsame.mono hc hn⟩
theorem outN (X : Stand p l e R s m args below meth c T locs cells slots) (hx : p.tables.exec = Jvm.exec) {t : FieldType} {z : Int32} (hret : meth.sig.returnType = some t) (ht : t = .boolean ∨ t = .byte ∨ t = .char ∨ t = .short) (hd : decode c.code pc = .ok (.ireturn, 1)) (hl : meth.locks = false)
    (hc : cells ≤ k) (hn : slots ≤ n) (hQ : Q (some (.int (nar t z))) T.heap locs) : Go p e below T (mkF m pc Ls (.int z :: rest)) (Po s Q k n) :=
  out X hl (fun h => by rw [hret] at h; cases h) (fun fs hr => retN X hx hret ht hd hr) hc hn hQ
theorem outI (X : Stand p l e R s m args below meth c T locs cells slots) (hx : p.tables.exec = Jvm.exec) {z : Int32} (hret : meth.sig.returnType = some .int) (hd : decode c.code pc = .ok (.ireturn, 1)) (hl : meth.locks = false)
    (hc : cells ≤ k) (hn : slots ≤ n) (hQ : Q (some (.int z)) T.heap locs) : Go p e below T (mkF m pc Ls (.int z :: rest)) (Po s Q k n) :=
  out X hl (fun h => by rw [hret] at h; cases h) (fun fs hr => retOut X hx hret rfl (Or.inl ⟨rfl, Or.inl rfl, _, rfl⟩) hd hr) hc hn hQ
theorem outJ (X : Stand p l e R s m args below meth c T locs cells slots) (hx : p.tables.exec = Jvm.exec) {z : Int64} (hret : meth.sig.returnType = some .long) (hd : decode c.code pc = .ok (.lreturn, 1)) (hl : meth.locks = false)
    (hc : cells ≤ k) (hn : slots ≤ n) (hQ : Q (some (.long z)) T.heap locs) : Go p e below T (mkF m pc Ls (.long z :: rest)) (Po s Q k n) :=
  out X hl (fun h => by rw [hret] at h; cases h) (fun fs hr => retOut X hx hret rfl (Or.inr (Or.inl ⟨rfl, rfl, _, rfl⟩)) hd hr) hc hn hQ
theorem outD (X : Stand p l e R s m args below meth c T locs cells slots) (hx : p.tables.exec = Jvm.exec) {w : Value} (hret : meth.sig.returnType = some .double) (hw : ∃ z, w = .double z) (hd : decode c.code pc = .ok (.dreturn, 1)) (hl : meth.locks = false)
    (hc : cells ≤ k) (hn : slots ≤ n) (hQ : Q (some w) T.heap locs) : Go p e below T (mkF m pc Ls (w :: rest)) (Po s Q k n) := by
  obtain ⟨z, rfl⟩ := hw
  exact out X hl (fun h => by rw [hret] at h; cases h) (fun fs hr => retOut X hx hret rfl (Or.inr (Or.inr (Or.inl ⟨rfl, rfl, _, rfl⟩))) hd hr) hc hn hQ
theorem outA (X : Stand p l e R s m args below meth c T locs cells slots) (hx : p.tables.exec = Jvm.exec) {w : Value} {t : FieldType} (hret : meth.sig.returnType = some t) (ht : t.isReference = true) (hw : w.isRef = true) (hd : decode c.code pc = .ok (.areturn, 1)) (hl : meth.locks = false)
    (hc : cells ≤ k) (hn : slots ≤ n) (hQ : Q (some w) T.heap locs) : Go p e below T (mkF m pc Ls (w :: rest)) (Po s Q k n) := by
  refine out X hl (fun h => by rw [hret] at h; cases h) (fun fs hr => retOut X hx hret ?_ (Or.inr (Or.inr (Or.inr (Or.inr ⟨rfl, ht, hw⟩)))) hd hr) hc hn hQ
  rcases ref_cases hw with rfl | ⟨a, rfl⟩ <;> cases t <;> first | rfl | cases ht
theorem outV (X : Stand p l e R s m args below meth c T locs cells slots) (hx : p.tables.exec = Jvm.exec) (hret : meth.sig.returnType = none) (hd : decode c.code pc = .ok (.return_, 1)) (hl : meth.locks = false)
    (hc : cells ≤ k) (hn : slots ≤ n) (hQ : Q none T.heap locs) : Go p e below T (mkF m pc Ls []) (Po s Q k n) :=
  out X hl (fun _ => rfl) (fun fs hr => X.returnOut hx hret hd hr) hc hn hQ
theorem start {y : MethodName} {bytes : ByteArray} {maxL : Nat} {ret : Option FieldType} {ws : List Cond} {rm : Room} {Z : State} {as' : Array Value} {h0 : Heap} (hpl : plainFor y = true)
    (body : ∀ p e s m below meth c T, Stand p l e rm s m as' below meth c T [] 0 0 → p.tables.exec = Jvm.exec → c.code = bytes → c.maxLocals = maxL → s.vm.findClass y.cls = some m.cls → meth.name = y.name → meth.sig.returnType = ret → meth.locks = false → Z.Warmed39 s.vm → T.heap = h0 →
      Go p e below T (entryFrame m as' maxL) (Po s Q k n)) :
    MetFree l y (head1 (Cond.code y bytes maxL ret :: ws) rm) (fun a U => a = as' ∧ Z.Warmed39 U.vm ∧ U.heap = h0) (fun _ _ _ _ _ => True) (fun _ U o U' => ∃ v L, o = .returned v ∧ Q v U'.heap L ∧ FrameEnd U o U' L k n) := by
  refine MetFree.of_bodySF hpl hisR ?_
  intro p e s m args below meth c s₁ Bd hml0 hP hK
  obtain ⟨rfl, hZ, hh⟩ := hP
  exact body p e s m below meth c s₁ (Stand.of_body Bd) Bd.exec Bd.bytes hml0 (findClass_of_methodNamed Bd.named) (name_of_methodNamed Bd.named Bd.method).1 Bd.returns Bd.notSynchronized hZ (by rw [← hh, Bd.state]; rfl)
theorem goAt (q : g = g') (K : Go p e below T g' P) : Go p e below T g P := q ▸ K
end Go
theorem cat_ref {v : Value} (h : v.isRef = true) : v.category = 1 := by cases v <;> simp_all [Value.isRef, Value.category]
section Facts
variable {Z : State} {args : Array Value}
theorem old_le {n0 : Nat} {h : Heap} (O : Old Z n0 h) : n0 ≤ h.size := by
  obtain ⟨rfl, h2⟩ := O
  exact h2.1
theorem fld_of {C n d : String} {t : Term} {a : Addr} {k : Int32} (ev : t.eval args Z none [] Z = some (.ref a)) (h : (Cond.eq (.field t C n d) (.int k)).value args Z none Z [] = some true) : Fld Z Z.heap a C n d (.int k) := by
  obtain ⟨x, y, h1, h2, -, hk⟩ := cmp_v (Or.inl h)
  have h3 : y = .int k := (Option.some.inj h2).symm
  subst h3
  obtain ⟨z, rfl⟩ := hk
  have h4 : z = k := gotT (Cond.eq_ints h1 h2) h
  subst h4
  rw [fld_at ev] at h1
  exact Fld.start h1
theorem fldnull_of {C n d : String} {t : Term} {a : Addr} (ev : t.eval args Z none [] Z = some (.ref a)) (h : (Cond.eq (.field t C n d) .null).value args Z none Z [] = some true) : Fld Z Z.heap a C n d .null := by
  have h1 := null_v h
  rw [fld_at ev] at h1
  exact Fld.start h1
theorem eqint_v {t : Term} {k : Int32} (h : (Cond.eq t (.int k)).value args Z none Z [] = some true) : t.eval args Z none [] Z = some (.int k) := by
  obtain ⟨x, y, h1, h2, -, hk⟩ := cmp_v (Or.inl h)
  have h3 : y = .int k := (Option.some.inj h2).symm
  subst h3
  obtain ⟨z, rfl⟩ := hk
  have h4 : z = k := gotT (Cond.eq_ints h1 h2) h
  subst h4
  exact h1
end Facts
section Small
variable {h h' : Heap} {a : Addr} {sl : Nat} {x : Int32}
theorem ow_wr_char (e : x.toUInt32.toUInt16.toUInt32.toInt32 = x) (W : Wr h h' a sl (.int (nar .char x))) : Wr h h' a sl (.int x) := by rwa [show nar .char x = x from e] at W
theorem ow_fits_char (e : x.toUInt32.toUInt16.toUInt32.toInt32 = x) : fits .char (.int x) = true := by
  have q := fits_nar_char x
  rwa [show nar .char x = x from e] at q
theorem ow_wr_byte (e : x.toInt8.toInt32 = x) (W : Wr h h' a sl (.int (nar .byte x))) : Wr h h' a sl (.int x) := by rwa [show nar .byte x = x from e] at W
theorem ow_fits_byte (e : x.toInt8.toInt32 = x) : fits .byte (.int x) = true := by
  have q := fits_nar_byte x
  rwa [e] at q
theorem char_small (h0 : ¬ x < 0) (h1 : ¬ (65535 : Int32) < x) : x.toUInt32.toUInt16.toUInt32.toInt32 = x := by
  obtain ⟨q1, q2, q3⟩ := c_i2c x
  simp only [Int32.lt_iff_toInt_lt, Int32.reduceToInt] at h0 h1
  exact Int32.toInt_inj.mp (by omega)
theorem char255 (q : ¬ x < 0 ∧ ¬ (255 : Int32) < x) : x.toUInt32.toUInt16.toUInt32.toInt32 = x := char_small q.1 (by
  obtain ⟨q1, q2⟩ := q
  simp only [Int32.lt_iff_toInt_lt, Int32.reduceToInt] at q1 q2 ⊢
  omega)
theorem byte_small (h0 : ¬ x < (-128 : Int32)) (h1 : ¬ (127 : Int32) < x) : x.toInt8.toInt32 = x := by
  obtain ⟨q1, q2, q3⟩ := c_i2b x
  simp only [Int32.lt_iff_toInt_lt, Int32.reduceToInt] at h0 h1
  exact Int32.toInt_inj.mp (by omega)
theorem byte_twice : x.toInt8.toInt32.toInt8.toInt32 = x.toInt8.toInt32 := by simp
theorem and255 (x : Int32) : ¬ (x &&& (255 : Int32)) < 0 ∧ ¬ (255 : Int32) < (x &&& (255 : Int32)) := by
  have h := c_mask x 255 8 (by decide) (by decide)
  simp only [Int32.lt_iff_toInt_lt, Int32.reduceToInt]
  omega
end Small
section Sub
variable {Z : State} {a0 : Array Value}
theorem NSroot {O K : String} {n : Nat} (w : (Cond.noSuperclass O).before a0 Z = true) (wk : (Cond.instantiable K n).before a0 Z = true) (hn : O ≠ K) : NS Z O K := by
  obtain ⟨c, k, h1, h2, h3, -, -⟩ := Cond.noSuperclass_spec w
  obtain ⟨t, kt, g1, -⟩ := Cond.instantiable_spec wk
  have ne := ids_ne h1 g1 hn
  refine ⟨c, t, h1, g1, fun fuel => ?_⟩
  cases fuel with
  | zero => rfl
  | succ f => simp [Vm.isSubclassAux, ne, h2, h3]
theorem NSno {C S K : String} {n : Nat} (w : (Cond.superclass C S).before a0 Z = true) (wk : (Cond.instantiable K n).before a0 Z = true) (N : NS Z C K) (hn : C ≠ K) : ∃ c t, Z.vm.findClass C = some c ∧ Z.vm.findClass K = some t ∧ Z.vm.assignable c t = false := by
  obtain ⟨c, t, h0, g0, n3⟩ := N
  obtain ⟨p, k, kp, h1, h2, h3, h4, h5, -, h7⟩ := Cond.superclass_spec h0 w
  obtain ⟨t', kt, g1, g2, g5, g7, -⟩ := Cond.instantiable_spec wk
  cases g0.symm.trans g1
  rw [Bool.or_eq_false_iff] at g7
  have ne := ids_ne h0 g0 hn
  refine ⟨c, t, h0, g0, ?_⟩
  show Z.vm.assignableAux (255 + 1) c t = false
  simp [Vm.assignableAux, ne, h2, g2, h5, g5, g7.1, Vm.isSubclass, n3]
end Sub
/-- an array of n elements, told by a function -/
def Arf (Z : State) (h : Heap) (a : Addr) (k : ClassId) (ty : FieldType) (n : Nat) (f : Nat → Value) : Prop := ∃ c : Cell, Arr Z h a c ty ∧ c.cls = k ∧ c.slots.size = n ∧ (∀ i, i < n → c.slots[i]? = some (f i)) ∧ ∀ i, i < n → fits ty (f i) = true
section Arf
variable {Z : State} {h h' : Heap} {a b : Addr} {k : ClassId} {ty : FieldType} {n sl : Nat} {f g : Nat → Value} {v : Value} {ws : List Addr} {c : Cell} {j : Int32} {i : Nat}
theorem Arf.lt (F : Arf Z h a k ty n f) : a < h.size := by
  obtain ⟨c, A, -⟩ := F
  exact A.lt
theorem Arf.ext (F : Arf Z h a k ty n f) (E : Ext h h') : Arf Z h' a k ty n f := by
  obtain ⟨c, A, r⟩ := F
  exact ⟨c, A.ext E, r⟩
theorem Arf.other (F : Arf Z h b k ty n f) (W : Wr h h' a sl v) (q : b ≠ a) : Arf Z h' b k ty n f := by
  obtain ⟨c, A, r⟩ := F
  exact ⟨c, A.other W q, r⟩
theorem Arf.keep (F : Arf Z h a k ty n f) (K : Keep h h' ws) (q : a ∉ ws) : Arf Z h' a k ty n f := by
  obtain ⟨c, A, r⟩ := F
  exact ⟨c, ⟨K.2.1 a c A.1 q, A.2⟩, r⟩
theorem Arf.congr (F : Arf Z h a k ty n f) (q : ∀ i, i < n → g i = f i) : Arf Z h a k ty n g := by
  obtain ⟨c, A, r1, r2, H, G⟩ := F
  exact ⟨c, A, r1, r2, fun i hi => by rw [q i hi]; exact H i hi, fun i hi => by rw [q i hi]; exact G i hi⟩
theorem Arf.set (A : Arr Z h a c ty) (q1 : c.cls = k) (S : c.slots.size = n) (H : ∀ i, i < n → c.slots[i]? = some (f i)) (G : ∀ i, i < n → fits ty (f i) = true) (hv : fits ty v = true) (W : Wr h h' a i v) (hi : i < n) : Arf Z h' a k ty n (fun x => if x = i then v else f x) := by
  refine ⟨c.setSlot i v, A.same W, q1, by rw [sz_set]; exact S, fun x hx => ?_, fun x hx => ?_⟩
  · show (c.setSlot i v).slots[x]? = some (if x = i then v else f x)
    by_cases e : x = i
    · subst e
      simp [Cell.setSlot, S, hx]
    · rw [if_neg e, ← H x hx]
      exact Cell.slots_setSlot_ne v (Ne.symm e)
  · by_cases e : x = i
    · simp [e, hv]
    · simp [e, G x hx]
theorem Arv.arf {z : Int32} {vs : List Value} {d : Value} (F : Arv Z h a k ty z vs d) (hz : z.toNatClampNeg = n) : Arf Z h a k ty n (fun i => vs.getD i d) := by
  obtain ⟨c, A, r1, r2, r3, H, G⟩ := F
  exact ⟨c, A, r1, by rw [r2, hz], fun i hi => H i (by rw [r2, hz]; exact hi), fun i hi => G i (by rw [r2, hz]; exact hi)⟩
theorem arf_in (S : c.slots.size = n) (hk : j.toInt = i) (hn : i < n) : ¬ (j < 0 ∨ c.slots.size ≤ j.toNatClampNeg) := by
  simp only [Int32.lt_iff_toInt_lt, Int32.toNatClampNeg, Int32.reduceToInt, S, hk]
  omega
theorem arf_at (H : ∀ i, i < n → c.slots[i]? = some (f i)) (hk : j.toInt = i) (hn : i < n) : c.slots[j.toNatClampNeg]? = some (f i) := by
  have e : j.toNatClampNeg = i := by simp only [Int32.toNatClampNeg, hk]; omega
  rw [e]
  exact H i hn
theorem arf_ix (hk : j.toInt = i) : j.toNatClampNeg = i := by simp only [Int32.toNatClampNeg, hk]; omega
theorem arf_len {z : Int32} (S : c.slots.size = n) (hz : z.toInt = n) : c.slots.size.toInt32 = z := by
  rw [S]
  have h1 := Int32.toInt_lt z
  exact Int32.toInt_inj.mp (by rw [len_toInt (by omega)]; exact hz.symm)
theorem Arf.one (F : Arf Z h a k ty n f) (hi : i < n) : fits ty (f i) = true := by
  obtain ⟨c, A, r1, r2, H, G⟩ := F
  exact G i hi
theorem Arf.new {z : Int32} (A : Arr Z h a (newA k ty z) ty) (q : ¬ z < 0) (hz : z.toNatClampNeg = n) : Arf Z h a k ty n (fun _ => defaultValue ty) := (Arv.arf (Arv.new A q) hz).congr fun i _ => by simp
theorem cloneF {p : Program} {l : Launch} {e : Env} {R : Room} {s : State} {m : MethodId} {args : Array Value} {below : List Frame} {meth : Method} {c : Code} {T : State} {locs : List Loc} {cells slots : Nat} (X : Stand p l e R s m args below meth c T locs cells slots) (hx : p.tables.exec = Jvm.exec) (hZ : Z.Warmed39 s.vm) {a0 : Array Value} {own ad : String} {index : Nat} (hown : s.vm.findClass own = some m.cls)
    (w1 : (Cond.methodLink own index ⟨ad, "clone", "()Ljava/lang/Object;"⟩).before a0 Z = true) (w2 : (Cond.sameMethod ad "java/lang/Object" "clone" "()Ljava/lang/Object;").before a0 Z = true) (w3 : (Cond.native ⟨"java/lang/Object", "clone", "()Ljava/lang/Object;"⟩).before a0 Z = true)
    (w4 : (Cond.instanceMethod ⟨"java/lang/Object", "clone", "()Ljava/lang/Object;"⟩).before a0 Z = true) (w5 : (Cond.selects ad ⟨ad, "clone", "()Ljava/lang/Object;"⟩ ⟨"java/lang/Object", "clone", "()Ljava/lang/Object;"⟩).before a0 Z = true) (w6 : (Cond.castable ad "java/lang/Cloneable").before a0 Z = true)
    (eT : T.heap = h) (F : Arf Z h a k ty n f) (E : Exa Z h a ad) {g : JFrame} (hg : g.method = m) (hsize : g.locals.size = c.maxLocals) {rest : List Value} (hst : g.stack = .ref a :: rest) (hd : decode c.code g.pc = .ok (.invokevirtual index, 3))
    (hf : 1 ≤ R.frames) {W cap : Nat} (hW : 2 * g.monitorRoom + (rest.map fun v => v.category).sum ≤ W) (hl : W + 14 ≤ R.locals) (hcap : n ≤ cap) (hc : cells + 1 ≤ R.cells) (hsl : slots + cap ≤ R.slots) :
    ∃ T' h', Stand p l e R s m args below meth c T' locs (cells + 1) (slots + cap) ∧ T'.heap = h' ∧ Ext h h' ∧ Arf Z h' h.size k ty n f ∧ Exa Z h' h.size ad ∧
      ∀ target, Steps p.tables e below (T'.setTop { g with pc := g.pc + 3, stack := .ref h.size :: rest }) target → Steps p.tables e below (T.setTop g) target := by
  obtain ⟨cl, A, q1, S, H, G⟩ := F
  have FC : FitC Z cl := fitC_of A fun i hi v hv => by rw [H i (S ▸ hi)] at hv; cases hv; exact G i (S ▸ hi)
  obtain ⟨T', h', X', e', ex, A', E', st⟩ := cloneA X hx hZ hown w1 w2 w3 w4 w5 w6 eT A E FC hg hsize hst hd hf hW hl (by rw [S]; exact hcap) hc hsl
  exact ⟨T', h', X', e', ex, ⟨cloneOf cl, A', q1, S, H, G⟩, E', st⟩
end Arf
theorem and1_cases (x : Int32) : x &&& (1 : Int32) = (0 : Int32) ∨ x &&& (1 : Int32) = (1 : Int32) := and_one x
theorem and3_cases (x : Int32) : x &&& (3 : Int32) = (0 : Int32) ∨ x &&& (3 : Int32) = (1 : Int32) ∨ x &&& (3 : Int32) = (2 : Int32) ∨ x &&& (3 : Int32) = (3 : Int32) := by
  have h := c_mask x 3 2 (by decide) (by decide)
  simp only [← Int32.toInt_inj]
  have : (0 : Int32).toInt = 0 := by decide
  have : (1 : Int32).toInt = 1 := by decide
  have : (2 : Int32).toInt = 2 := by decide
  have : (3 : Int32).toInt = 3 := by decide
  omega
end Jvm.OwnKit
namespace Jvm.OwnKit
open Sem ClassFile Op Lib Jvm.Stand Jvm.Free Jvm.LawKit Jvm.RoadKit
section GoW
variable {p : Program} {l : Launch} {e : Env} {R : Room} {s : State} {m : MethodId} {args : Array Value} {below : List Frame} {meth : Method} {c : Code} {T T' : State} {locs : List Loc} {cells slots : Nat} {g g' : JFrame} {Q : Option Value → Heap → List Loc → Prop} {k n pc : Nat} {Ls : Array Slot} {rest : List Value} {Z : State} {EL : List (String × Nat)} {vm0 : Vm} {a0 : Array Value} {h h0 : Heap} {k0 : Nat}
abbrev PoW (s Z : State) (EL : List (String × Nat)) (Q : Option Value → Heap → List Loc → Prop) (k n : Nat) : Outcome → State → Prop := fun o U' => ∃ v L, o = .returned v ∧ Q v U'.heap L ∧ CHr Z EL s.vm s.heap U'.vm U'.heap ∧ ReturnedEndW s o U' L k n
theorem outW (X : Stand p l e R (s.setVm vm0) m args below meth c T locs cells slots) (hZ : Z.Warmed39 vm0) (hEL : EW Z a0 EL) (eT : T.heap = h) (hS : s.Since vm0 k0) (hk : k0 ≤ h.size) (CR : CHr Z EL s.vm s.heap vm0 h) {v : Option Value} (hl : meth.locks = false) (hv : meth.sig.returnType = none → v = none)
    (hst : ∀ fs : List Frame, (∀ (f : JFrame) (acts : List Action), f.method = m → f.locked = none → f.entered = [] → (doReturn e (T.setTop f) acts v).1 = T.setFrames fs) → Steps p.tables e below (T.setTop g) (T.setFrames fs))
    (hc : cells ≤ k) (hn : slots ≤ n) (hQ : Q v T.heap locs) : Go p e below T g (PoW s Z EL Q k n) := by
  obtain ⟨fs, hr, hrun, hended, hW, h1, h2, hsame⟩ := X.leaveW hS (by rw [eT]; exact hk) (v := v) hv hl
  have hC : CHr Z EL s.vm s.heap T.vm T.heap := by rw [eT]; exact CR.trans (CHv.at X hZ hEL CR.1)
  exact ⟨_, _, hst fs hr, hrun, hended, v, locs, rfl, hQ, hC, hW, h1, h2, hsame.mono hc hn⟩
theorem outNW (X : Stand p l e R (s.setVm vm0) m args below meth c T locs cells slots) (hx : p.tables.exec = Jvm.exec) (hZ : Z.Warmed39 vm0) (hEL : EW Z a0 EL) (eT : T.heap = h) (hS : s.Since vm0 k0) (hk : k0 ≤ h.size) (CR : CHr Z EL s.vm s.heap vm0 h) {t : FieldType} {z : Int32} (hret : meth.sig.returnType = some t) (ht : t = .boolean ∨ t = .byte ∨ t = .char ∨ t = .short) (hd : decode c.code pc = .ok (.ireturn, 1)) (hl : meth.locks = false)
    (hc : cells ≤ k) (hn : slots ≤ n) (hQ : Q (some (.int (nar t z))) T.heap locs) : Go p e below T (mkF m pc Ls (.int z :: rest)) (PoW s Z EL Q k n) :=
  outW X hZ hEL eT hS hk CR hl (fun h => by rw [hret] at h; cases h) (fun fs hr => retN X hx hret ht hd hr) hc hn hQ
theorem outIW (X : Stand p l e R (s.setVm vm0) m args below meth c T locs cells slots) (hx : p.tables.exec = Jvm.exec) (hZ : Z.Warmed39 vm0) (hEL : EW Z a0 EL) (eT : T.heap = h) (hS : s.Since vm0 k0) (hk : k0 ≤ h.size) (CR : CHr Z EL s.vm s.heap vm0 h) {z : Int32} (hret : meth.sig.returnType = some .int) (hd : decode c.code pc = .ok (.ireturn, 1)) (hl : meth.locks = false)
    (hc : cells ≤ k) (hn : slots ≤ n) (hQ : Q (some (.int z)) T.heap locs) : Go p e below T (mkF m pc Ls (.int z :: rest)) (PoW s Z EL Q k n) :=
  outW X hZ hEL eT hS hk CR hl (fun h => by rw [hret] at h; cases h) (fun fs hr => retOut X hx hret rfl (Or.inl ⟨rfl, Or.inl rfl, _, rfl⟩) hd hr) hc hn hQ
theorem outAW (X : Stand p l e R (s.setVm vm0) m args below meth c T locs cells slots) (hx : p.tables.exec = Jvm.exec) (hZ : Z.Warmed39 vm0) (hEL : EW Z a0 EL) (eT : T.heap = h) (hS : s.Since vm0 k0) (hk : k0 ≤ h.size) (CR : CHr Z EL s.vm s.heap vm0 h) {w : Value} {t : FieldType} (hret : meth.sig.returnType = some t) (ht : t.isReference = true) (hw : w.isRef = true) (hd : decode c.code pc = .ok (.areturn, 1)) (hl : meth.locks = false)
    (hc : cells ≤ k) (hn : slots ≤ n) (hQ : Q (some w) T.heap locs) : Go p e below T (mkF m pc Ls (w :: rest)) (PoW s Z EL Q k n) := by
  refine outW X hZ hEL eT hS hk CR hl (fun h => by rw [hret] at h; cases h) (fun fs hr => retOut X hx hret ?_ (Or.inr (Or.inr (Or.inr (Or.inr ⟨rfl, ht, hw⟩)))) hd hr) hc hn hQ
  rcases ref_cases hw with rfl | ⟨a, rfl⟩ <;> cases t <;> first | rfl | cases ht
theorem outVW (X : Stand p l e R (s.setVm vm0) m args below meth c T locs cells slots) (hx : p.tables.exec = Jvm.exec) (hZ : Z.Warmed39 vm0) (hEL : EW Z a0 EL) (eT : T.heap = h) (hS : s.Since vm0 k0) (hk : k0 ≤ h.size) (CR : CHr Z EL s.vm s.heap vm0 h) (hret : meth.sig.returnType = none) (hd : decode c.code pc = .ok (.return_, 1)) (hl : meth.locks = false)
    (hc : cells ≤ k) (hn : slots ≤ n) (hQ : Q none T.heap locs) : Go p e below T (mkF m pc Ls []) (PoW s Z EL Q k n) :=
  outW X hZ hEL eT hS hk CR hl (fun _ => rfl) (fun fs hr => X.returnOut hx hret hd hr) hc hn hQ
theorem startW {y : MethodName} {bytes : ByteArray} {maxL : Nat} {ret : Option FieldType} {ws : List Cond} {rm : Room} {as' : Array Value} (hpl : plainFor y = true)
    (body : ∀ p e s m below meth c T, Stand p l e rm (s.setVm s.vm) m as' below meth c T [] 0 0 → p.tables.exec = Jvm.exec → c.code = bytes → c.maxLocals = maxL → s.vm.findClass y.cls = some m.cls → meth.name = y.name → meth.sig.returnType = ret → meth.locks = false → Z.Warmed39 s.vm → T.heap = h0 → s.Since s.vm 0 → CHr Z EL s.vm s.heap s.vm h0 →
      Go p e below T (entryFrame m as' maxL) (PoW s Z EL Q k n)) :
    MetFree l y (head1 (Cond.code y bytes maxL ret :: ws) rm) (fun a U => a = as' ∧ Z.Warmed39 U.vm ∧ U.heap = h0 ∧ CHv Z EL U.vm h0) (fun _ _ _ _ _ => True) (fun _ U o U' => ∃ v L, o = .returned v ∧ Q v U'.heap L ∧ CHr Z EL U.vm U.heap U'.vm U'.heap ∧ ReturnedEndW U o U' L k n) := by
  refine MetFree.of_bodySF hpl hisR ?_
  intro p e s m args below meth c s₁ Bd hml0 hP hK
  obtain ⟨rfl, hZ, hh, hC⟩ := hP
  have X : Stand p l e rm s m args below meth c s₁ [] 0 0 := Stand.of_body Bd
  exact body p e s m below meth c s₁ X Bd.exec Bd.bytes hml0 (findClass_of_methodNamed Bd.named) (name_of_methodNamed Bd.named Bd.method).1 Bd.returns Bd.notSynchronized hZ (by rw [← hh, Bd.state]; rfl) ((State.WarmedH.refl s).since 0) (by rw [hh]; exact CHr.refl hC)
/-- a String whose value is still null is no constant's -/
theorem safeNull {x : Addr} {vm : Vm} (hal : Z.vm.Alike vm) (E : Exa Z h x "java/lang/String") (F : Fld Z h x "java/lang/String" "value" "[B" .null) : Safe Z EL vm h x := fun B => by
  obtain ⟨cell, k, e1, e2, e3, -, -⟩ := E
  obtain ⟨c', cf, kf, i, f, f1, f2, f3, f4, f5, f6, f7⟩ := F
  cases e1.symm.trans f1
  obtain ⟨p, -, u, a, -, q, -, G, rfl | rfl⟩ := B
  · cases (show h[q.sa]? = some q.sC from G.ha).symm.trans e1
    obtain ⟨cS, ⟨hs, -, -⟩, -⟩ := G
    obtain ⟨-, -, -, ⟨c4, k4, i4, r1, r2⟩, -, -, -, r7, -⟩ := hs
    obtain ⟨k', r3, -⟩ := State.fieldFound?_setVm (s := Z) hal f2
    have r1' : (Z.setVm vm).fieldFound? "java/lang/String" "value" "[B" = some (c4, k4, i4, q.fSV) := r1
    cases r3.symm.trans r1'
    cases f7.symm.trans r7
  · cases (show h[q.sd]? = some q.SA from G.hd).symm.trans e1
    obtain ⟨cS, -, -, g, -⟩ := G
    have g' : Z.vm.findClass "[B" = some q.SA.cls := by rw [← hal.findClass]; exact g
    obtain ⟨k1, q1, q2⟩ := Vm.findClass_spec g'
    obtain ⟨k2, q3, q4⟩ := Vm.findClass_spec e2
    cases q1.symm.trans q3
    exact absurd (q2.symm.trans q4) (by decide)
end GoW
end Jvm.OwnKit
namespace Jvm.OwnKit
open Sem ClassFile Op Lib Jvm.Stand Jvm.Free Jvm.LawKit Jvm.RoadKit
section Str
variable {Z : State} {h h' : Heap} {x w o : Addr} {cs : List Int32} {sl n : Nat} {v : Value} {ws : List Addr} {C : String} {a0 : Array Value} {k : ClassId} {ty : FieldType} {z : Int32} {vs : List Value} {d : Value}
/-- x is a Latin-1 String of these chars -/
def StrIs (Z : State) (h : Heap) (x : Addr) (cs : List Int32) : Prop := ∃ (t : Addr) (k : ClassId), Exa Z h x "java/lang/String" ∧ Fld Z h x "java/lang/String" "value" "[B" (.ref t) ∧ Fld Z h x "java/lang/String" "coder" "B" (.int 0) ∧ Arv Z h t k .byte (Int32.ofNat cs.length) ((cs.map fun c => c.toInt8.toInt32).map Value.int) (.int 0) ∧ (∀ c ∈ cs, ¬ c < 0 ∧ ¬ (255 : Int32) < c) ∧ cs.length ≤ 4000
/-- w is no byte[] -/
def Apart (Z : State) (h : Heap) (w : Addr) : Prop := ∀ (t : Addr) (k : ClassId) (z : Int32) (vs : List Value) (d : Value), Arv Z h t k .byte z vs d → t ≠ w
theorem Apart.exa (E : Exa Z h w C) (wi : (Cond.instantiable C n).before a0 Z = true) : Apart Z h w := fun _ _ _ _ _ F => Ne.symm (E.neArv F wi)
theorem Apart.arv (F : Arv Z h w k ty z vs d) (ht : ty ≠ .byte) : Apart Z h w := fun t k' z' vs' d' G e => by
  subst e
  obtain ⟨c1, ⟨e1, ⟨-, k1, f1, p1, g1⟩, -⟩, -⟩ := F
  obtain ⟨c2, ⟨e2, ⟨-, k2, f2, p2, g2⟩, -⟩, -⟩ := G
  cases e1.symm.trans e2
  cases f1.symm.trans f2
  rw [g1] at g2
  cases g2
  exact ht rfl
theorem apart0 : ∀ x ∈ ([] : List Addr), Apart Z h x := fun _ q => nomatch q
theorem apartS (A : Apart Z h w) (r : ∀ x ∈ ws, Apart Z h x) : ∀ x ∈ w :: ws, Apart Z h x := fun x q => (List.mem_cons.mp q).elim (fun u => u ▸ A) (r x)
theorem StrIs.exa (F : StrIs Z h x cs) : Exa Z h x "java/lang/String" := by
  obtain ⟨t, k, E, -⟩ := F
  exact E
theorem StrIs.lt (F : StrIs Z h x cs) : x < h.size := F.exa.lt
theorem StrIs.small (F : StrIs Z h x cs) : ∀ c ∈ cs, ¬ c < 0 ∧ ¬ (255 : Int32) < c := by
  obtain ⟨t, k, -, -, -, -, hp, -⟩ := F
  exact hp
theorem StrIs.ext (F : StrIs Z h x cs) (E : Ext h h') : StrIs Z h' x cs := by
  obtain ⟨t, k, E1, V1, C1, K1, r⟩ := F
  exact ⟨t, k, E1.ext E, V1.ext E, C1.ext E, K1.ext E, r⟩
theorem StrIs.wr (F : StrIs Z h x cs) (W : Wr h h' o sl v) (ne : x ≠ o) (A : Apart Z h o) : StrIs Z h' x cs := by
  obtain ⟨t, k, E1, V1, C1, K1, r⟩ := F
  exact ⟨t, k, E1.wr W, V1.other W (Or.inl ne), C1.other W (Or.inl ne), K1.other W (A _ _ _ _ _ K1), r⟩
theorem StrIs.keep (F : StrIs Z h x cs) (K : Keep h h' ws) (q : x ∉ ws) (A : ∀ y ∈ ws, Apart Z h y) : StrIs Z h' x cs := by
  obtain ⟨t, k, E1, V1, C1, K1, r⟩ := F
  exact ⟨t, k, E1.keep K, V1.keep K q, C1.keep K q, K1.keep K (fun m => A t m _ _ _ _ _ K1 rfl), r⟩
theorem StrIs.of {t : Addr} (E : Exa Z h x "java/lang/String") (V : Fld Z h x "java/lang/String" "value" "[B" (.ref t)) (C : Fld Z h x "java/lang/String" "coder" "B" (.int 0)) (K : Arv Z h t k .byte z vs (.int 0)) (hz : z = Int32.ofNat cs.length) (hv : vs = (cs.map fun c => c.toInt8.toInt32).map Value.int) (hp : ∀ c ∈ cs, ¬ c < 0 ∧ ¬ (255 : Int32) < c) (hl : cs.length ≤ 4000) : StrIs Z h x cs := by
  subst hz hv
  exact ⟨t, k, E, V, C, K, hp, hl⟩
theorem own_one255 {k : Int32} (h : ¬ k < 0 ∧ ¬ (255 : Int32) < k) : ∀ c ∈ ([k] : List Int32), ¬ c < 0 ∧ ¬ (255 : Int32) < c := by
  intro c hc
  cases List.mem_singleton.mp hc
  exact h
end Str
end Jvm.OwnKit
/- laws to paste: Road.backV, Road.eqW, Road.codOf (cut by pick.py; bodies as the Statement names them) -/
namespace Jvm.Pilot.@@N@@
namespace StrChars
open Jvm Sem ClassFile Op Lib Jvm.Stand Jvm.Free.XT Jvm.Free.ALB Jvm.Free.JM Jvm.Free
open Jvm.Lib.Cold (StaticIs)
/-- a char array whose places are chars -/
def Ch (a : Addr) (A : Cell) (U : State) : Prop := Arr .char a A U ∧ Typed .char A
theorem Ch.mv {a : Addr} {A : Cell} {U U' : State} (h : Ch a A U) (hal : U.vm.Alike U'.vm) (hh : U'.heap = U.heap) : Ch a A U' := ⟨h.1.mv hal hh, h.2⟩
theorem Ch.keep {a : Addr} {A : Cell} {U U' : State} (h : Ch a A U) (hal : U.vm.Alike U'.vm) (hk : U'.heap[a]? = some A) : Ch a A U' := ⟨h.1.keep hal hk, h.2⟩
/-- what place i of a char[]'s cell holds -/
def cv (A : Cell) (i : Nat) : Int32 := match A.slots[i]? with | some (.int x) => x | _ => 0
theorem Ch.get {a : Addr} {A : Cell} {U : State} (h : Ch a A U) {i : Nat} (hi : i < A.slots.size) : A.slots[i]? = some (.int (cv A i)) := by
  have e := Array.getElem?_eq_getElem hi
  have f := h.2 i _ e
  unfold cv; rw [e]
  generalize A.slots[i] = v at f
  cases v <;> simp [fits] at f ⊢
/-- the byte that i2b leaves of a char -/
def lo8 (x : Int32) : Int32 := x.toInt8.toInt32
theorem fits_lo8 (y : Int32) : fits .byte (.int (lo8 y)) = true := by
  have h1 := y.toInt8.le_toInt
  have h2 := y.toInt8.toInt_lt
  simp only [lo8, fits, Bool.and_eq_true, decide_eq_true_eq, Int32.le_iff_toInt_le, Int8.toInt_toInt32, show (-128 : Int32).toInt = -128 from by decide, show (127 : Int32).toInt = 127 from by decide]
  omega
/-- A' is A but that each place j of lo .. hi - 1 holds f j -/
def Laid (A A' : Cell) (lo hi : Nat) (f : Nat → Value) : Prop := A'.cls = A.cls ∧ A'.vm = A.vm ∧ A'.slots.size = A.slots.size ∧ ∀ i, A'.slots[i]? = if lo ≤ i ∧ i < hi then some (f i) else A.slots[i]?
theorem Laid.zero (A : Cell) (lo : Nat) (f : Nat → Value) : Laid A A lo (lo + 0) f := ⟨rfl, rfl, rfl, fun i => by rw [if_neg (by omega)]⟩
theorem Laid.step {A Ak : Cell} {lo k : Nat} {f : Nat → Value} {v : Value} (h : Laid A Ak lo k f) (hlo : lo ≤ k) (hk : k < Ak.slots.size) (hv : v = f k) : Laid A (Ak.setSlot k v) lo (k + 1) f := by
  refine ⟨h.1, h.2.1, by simpa [Cell.setSlot] using h.2.2.1, fun i => ?_⟩
  by_cases e : k = i
  · subst e; rw [Cell.slots_setSlot_self v hk, if_pos (by omega), hv]
  · rw [Cell.slots_setSlot_ne v e, h.2.2.2 i]
    by_cases q : lo ≤ i ∧ i < k
    · rw [if_pos q, if_pos (by omega)]
    · rw [if_neg q, if_neg (by omega)]
def U16 : String := "java/lang/StringUTF16"
namespace Cmp5
def yN : MethodName := ⟨"java/lang/StringUTF16", "compress", "([CI[BII)I"⟩
abbrev yB : ByteArray := jdk_52_method_21_code
theorem d0 : decode yB 0 = .ok (.iconst 0, 1) := by decide +kernel
theorem d1 : decode yB 1 = .ok (.istore 5, 2) := by decide +kernel
theorem d3 : decode yB 3 = .ok (.iload 5, 2) := by decide +kernel
theorem d5 : decode yB 5 = .ok (.iload 4, 2) := by decide +kernel
theorem d7 : decode yB 7 = .ok (.if_icmp (.ge) 37, 3) := by decide +kernel
theorem d10 : decode yB 10 = .ok (.aload_n 0, 1) := by decide +kernel
theorem d11 : decode yB 11 = .ok (.iload_n 1, 1) := by decide +kernel
theorem d12 : decode yB 12 = .ok (.caload, 1) := by decide +kernel
theorem d13 : decode yB 13 = .ok (.istore 6, 2) := by decide +kernel
theorem d15 : decode yB 15 = .ok (.iload 6, 2) := by decide +kernel
theorem d17 : decode yB 17 = .ok (.sipush 255, 3) := by decide +kernel
theorem d20 : decode yB 20 = .ok (.if_icmp (.le) 6, 3) := by decide +kernel
theorem d26 : decode yB 26 = .ok (.aload_n 2, 1) := by decide +kernel
theorem d27 : decode yB 27 = .ok (.iload_n 3, 1) := by decide +kernel
theorem d28 : decode yB 28 = .ok (.iload 6, 2) := by decide +kernel
theorem d30 : decode yB 30 = .ok (.i2b, 1) := by decide +kernel
theorem d31 : decode yB 31 = .ok (.bastore, 1) := by decide +kernel
theorem d32 : decode yB 32 = .ok (.iinc 1 1, 3) := by decide +kernel
theorem d35 : decode yB 35 = .ok (.iinc 3 1, 3) := by decide +kernel
theorem d38 : decode yB 38 = .ok (.iinc 5 1, 3) := by decide +kernel
theorem d41 : decode yB 41 = .ok (.goto (-38), 3) := by decide +kernel
theorem d44 : decode yB 44 = .ok (.iload 4, 2) := by decide +kernel
theorem d46 : decode yB 46 = .ok (.ireturn, 1) := by decide +kernel
def site : List Cond := []
def tab : Cond := tabOf yN yB 7 (some .int) site
def P (b : Addr) (A : Cell) (d : Addr) (B : Cell) (o q len : Nat) (args : Array Value) (s : State) : Prop := args = #[.ref b, .int (Int32.ofNat o), .ref d, .int (Int32.ofNat q), .int (Int32.ofNat len)] ∧ Ch b A s ∧ Arr .byte d B s ∧ b ≠ d ∧ o + len ≤ A.slots.size ∧ q + len ≤ B.slots.size ∧ ∀ i, i < len → ¬ 255 < cv A (o + i)
def E (b : Addr) (A : Cell) (d : Addr) (B : Cell) (o q len : Nat) (r : Option Value) (s u : State) : Prop := r = some (.int (Int32.ofNat len)) ∧ ∃ B', Put d B' s u ∧ Laid B B' q (q + len) (fun j => Value.int (lo8 (cv A (o + (j - q)))))
/-- no char of the range above 255: len; the places written hold each char's low byte -/
theorem law (l : Launch) (b : Addr) (A : Cell) (d : Addr) (B : Cell) (o q len : Nat) : Law l yN 5 5 0 0 yB 7 (some .int) site (P b A d B o q len) (E b A d B o q len) (copyLocs d q len) 0 0 := by
  refine Law.of_walk (plainFor_of_name (by decide +kernel)) (by decide +kernel) (by decide +kernel) (by decide) (fun _ _ h => by rw [h.1]; rfl) (fun _ U U' hal hh h => ⟨h.1, h.2.1.mv hal hh, h.2.2.1.mv hal hh, h.2.2.2⟩) (fun r U U' V V' h1 hal h2 h => ⟨h.1, h.2.elim fun B' q => ⟨B', q.1.mv h1 h2, q.2⟩⟩) ?_
  intro p e s m args below meth c s₁ X0 hexec hbytes hml hret hlk hnm hown hh0 W hP
  obtain ⟨rfl, hA, hB, hne, l1, l2, hp⟩ := hP
  have c1 : Steps p.tables e below (s₁.setTop (entryFrame m #[.ref b, .int (Int32.ofNat o), .ref d, .int (Int32.ofNat q), .int (Int32.ofNat len)] 7)) (s₁.setTop (mkF m 0 #[.val (.ref b), .val (.int (Int32.ofNat o)), .val (.ref d), .val (.int (Int32.ofNat q)), .val (.int (Int32.ofNat len)), .unset, .unset] [])) := entry rfl
  have hA0 := hA.1.mv X0.warmed.alike hh0
  have hB0 := hB.mv X0.warmed.alike hh0
  have a31 := hA.1.2.2.2
  have c2 : Steps p.tables e below (s₁.setTop (entryFrame m #[.ref b, .int (Int32.ofNat o), .ref d, .int (Int32.ofNat q), .int (Int32.ofNat len)] 7)) (s₁.setTop (mkF m 3 #[.val (.ref b), .val (.int (Int32.ofNat o)), .val (.ref d), .val (.int (Int32.ofNat q)), .val (.int (Int32.ofNat len)), .val (.int 0), .unset] [])) := c1.trans (by
    refine iconstV X0.here hexec rfl 0 (hb hbytes d0) (by decide) ?_
    refine XS.istore X0.here hexec rfl (hb hbytes d1) rfl rfl ?_
    exact Steps.refl _)
  have loop : ∀ (r i : Nat), i + r = len → ∀ (z : Slot), (z = .unset ∨ ∃ w, z = .val w ∧ w.category = 1) → ∀ (Tl : State) (Bk : Cell), Stand p l e { frames := 0, locals := 0, cells := 0, slots := 0 } s m #[.ref b, .int (Int32.ofNat o), .ref d, .int (Int32.ofNat q), .int (Int32.ofNat len)] below meth c Tl ([] ++ copyLocs d q i) 0 0 → Put d Bk s₁ Tl → Laid B Bk q (q + i) (fun j => Value.int (lo8 (cv A (o + (j - q))))) →
      Steps p.tables e below (s₁.setTop (entryFrame m #[.ref b, .int (Int32.ofNat o), .ref d, .int (Int32.ofNat q), .int (Int32.ofNat len)] 7)) (Tl.setTop (mkF m 3 #[.val (.ref b), .val (.int (Int32.ofNat (o + i))), .val (.ref d), .val (.int (Int32.ofNat (q + i))), .val (.int (Int32.ofNat len)), .val (.int (Int32.ofNat i)), z] [])) → ∃ (T' : State) (B' : Cell) (z' : Slot), Stand p l e { frames := 0, locals := 0, cells := 0, slots := 0 } s m #[.ref b, .int (Int32.ofNat o), .ref d, .int (Int32.ofNat q), .int (Int32.ofNat len)] below meth c T' ([] ++ copyLocs d q len) 0 0 ∧ Put d B' s₁ T' ∧ Laid B B' q (q + len) (fun j => Value.int (lo8 (cv A (o + (j - q))))) ∧
      Steps p.tables e below (s₁.setTop (entryFrame m #[.ref b, .int (Int32.ofNat o), .ref d, .int (Int32.ofNat q), .int (Int32.ofNat len)] 7)) (T'.setTop (mkF m 3 #[.val (.ref b), .val (.int (Int32.ofNat (o + len))), .val (.ref d), .val (.int (Int32.ofNat (q + len))), .val (.int (Int32.ofNat len)), .val (.int (Int32.ofNat len)), z'] [])) := by
    intro r
    induction r with
    | zero =>
      intro i hi z hz Tl Bk Xl pl fl cl
      have hil : i = len := by omega
      rw [hil] at Xl fl cl
      exact ⟨Tl, Bk, z, Xl, pl, fl, cl⟩
    | succ r ih =>
      intro i hi z hz Tl Bk Xl pl fl cl
      have all := X0.warmed.alike.symm.trans Xl.warmed.alike
      have hAl := hA0.keep all (pl.other hne hA0.1)
      have hBk := hB0.like all pl.1 fl.1 fl.2.1 fl.2.2.1
      have hlt : q + i < Bk.slots.size := by rw [fl.2.2.1]; omega
      have c3 : Steps p.tables e below (s₁.setTop (entryFrame m #[.ref b, .int (Int32.ofNat o), .ref d, .int (Int32.ofNat q), .int (Int32.ofNat len)] 7)) (Tl.setTop (mkF m 12 #[.val (.ref b), .val (.int (Int32.ofNat (o + i))), .val (.ref d), .val (.int (Int32.ofNat (q + i))), .val (.int (Int32.ofNat len)), .val (.int (Int32.ofNat i)), z] [.int (Int32.ofNat (o + i)), .ref b])) := cl.trans (by
        refine XS.iload Xl.here hexec rfl (hb hbytes d3) rfl ?_
        refine XS.iload Xl.here hexec rfl (hb hbytes d5) rfl ?_
        refine XS.icmpNo Xl.here hexec rfl (hb hbytes d7) rfl (ii_ge_f (lt32 (by omega) (by omega))) ?_
        refine XS.aloadN Xl.here hexec rfl (hb hbytes d10) rfl rfl ?_
        refine XS.iloadN Xl.here hexec rfl (hb hbytes d11) rfl ?_
        exact Steps.refl _)
      have c4 : Steps p.tables e below (s₁.setTop (entryFrame m #[.ref b, .int (Int32.ofNat o), .ref d, .int (Int32.ofNat q), .int (Int32.ofNat len)] 7)) (Tl.setTop (mkF m 13 #[.val (.ref b), .val (.int (Int32.ofNat (o + i))), .val (.ref d), .val (.int (Int32.ofNat (q + i))), .val (.int (Int32.ofNat len)), .val (.int (Int32.ofNat i)), z] [.int (cv A (o + i))])) := c3.trans (by
        refine Xl.aget hexec hAl rfl (hA.get (i := o + i) (by omega)) rfl rfl (hb hbytes d12) ?_
        exact Steps.refl _)
      have c5 : Steps p.tables e below (s₁.setTop (entryFrame m #[.ref b, .int (Int32.ofNat o), .ref d, .int (Int32.ofNat q), .int (Int32.ofNat len)] 7)) (Tl.setTop (mkF m 15 #[.val (.ref b), .val (.int (Int32.ofNat (o + i))), .val (.ref d), .val (.int (Int32.ofNat (q + i))), .val (.int (Int32.ofNat len)), .val (.int (Int32.ofNat i)), .val (.int (cv A (o + i)))] [])) := c4.trans (by
        refine XS.istoreS Xl.here hexec rfl (hb hbytes d13) rfl rfl hz ?_
        exact Steps.refl _)
      have c6 : Steps p.tables e below (s₁.setTop (entryFrame m #[.ref b, .int (Int32.ofNat o), .ref d, .int (Int32.ofNat q), .int (Int32.ofNat len)] 7)) (Tl.setTop (mkF m 31 #[.val (.ref b), .val (.int (Int32.ofNat (o + i))), .val (.ref d), .val (.int (Int32.ofNat (q + i))), .val (.int (Int32.ofNat len)), .val (.int (Int32.ofNat i)), .val (.int (cv A (o + i)))] [.int (lo8 (cv A (o + i))), .int (Int32.ofNat (q + i)), .ref d])) := c5.trans (by
        refine XS.iload Xl.here hexec rfl (hb hbytes d15) rfl ?_
        refine sipushV Xl.here hexec rfl 255 (hb hbytes d17) (by decide) ?_
        refine XS.icmpYes Xl.here hexec rfl (pc0 := 20) rfl (hb hbytes d20) rfl (ii_le_t (hp i (by omega))) (by decide) rfl ?_
        refine XS.aloadN Xl.here hexec rfl (hb hbytes d26) rfl rfl ?_
        refine XS.iloadN Xl.here hexec rfl (hb hbytes d27) rfl ?_
        refine XS.iload Xl.here hexec rfl (hb hbytes d28) rfl ?_
        refine i2b Xl.here hexec rfl (hb hbytes d30) rfl ?_
        exact Steps.refl _)
      obtain ⟨T7, X7, p7, st7⟩ := Xl.aput hexec hBk rfl hlt rfl (fits_lo8 (cv A (o + i))) (g := (mkF m 31 #[.val (.ref b), .val (.int (Int32.ofNat (o + i))), .val (.ref d), .val (.int (Int32.ofNat (q + i))), .val (.int (Int32.ofNat len)), .val (.int (Int32.ofNat i)), .val (.int (cv A (o + i)))] [.int (lo8 (cv A (o + i))), .int (Int32.ofNat (q + i)), .ref d])) rfl (rest := []) rfl (hb hbytes d31)
      have c8 : Steps p.tables e below (s₁.setTop (entryFrame m #[.ref b, .int (Int32.ofNat o), .ref d, .int (Int32.ofNat q), .int (Int32.ofNat len)] 7)) (T7.setTop (mkF m 32 #[.val (.ref b), .val (.int (Int32.ofNat (o + i))), .val (.ref d), .val (.int (Int32.ofNat (q + i))), .val (.int (Int32.ofNat len)), .val (.int (Int32.ofNat i)), .val (.int (cv A (o + i)))] [])) := c6.trans (st7 _ (Steps.refl _))
      have c9 : Steps p.tables e below (s₁.setTop (entryFrame m #[.ref b, .int (Int32.ofNat o), .ref d, .int (Int32.ofNat q), .int (Int32.ofNat len)] 7)) (T7.setTop (mkF m 3 #[.val (.ref b), .val (.int (Int32.ofNat (o + i) + 1)), .val (.ref d), .val (.int (Int32.ofNat (q + i) + 1)), .val (.int (Int32.ofNat len)), .val (.int (Int32.ofNat i + 1)), .val (.int (cv A (o + i)))] [])) := c8.trans (by
        refine iincV X7.here hexec rfl 1 (hb hbytes d32) (by decide) rfl rfl ?_
        refine iincV X7.here hexec rfl 1 (hb hbytes d35) (by decide) rfl rfl ?_
        refine iincV X7.here hexec rfl 1 (hb hbytes d38) (by decide) rfl rfl ?_
        refine XS.goto X7.here hexec rfl (pc0 := 41) rfl (hb hbytes d41) (by decide) rfl ?_
        exact Steps.refl _)
      have c10 : Steps p.tables e below (s₁.setTop (entryFrame m #[.ref b, .int (Int32.ofNat o), .ref d, .int (Int32.ofNat q), .int (Int32.ofNat len)] 7)) (T7.setTop (mkF m 3 #[.val (.ref b), .val (.int (Int32.ofNat (o + (i + 1)))), .val (.ref d), .val (.int (Int32.ofNat (q + (i + 1)))), .val (.int (Int32.ofNat len)), .val (.int (Int32.ofNat (i + 1))), .val (.int (cv A (o + i)))] [])) := by
        have := c9
        rw [succ32, succ32, succ32] at this
        exact this
      exact ih (i + 1) (by omega) _ (Or.inr ⟨_, rfl, rfl⟩) T7 _ (by rw [copyLocs_step, ← List.append_assoc]; exact X7) (pl.trans p7) (fl.step (by omega) hlt (by simp)) c10
  obtain ⟨T9, B9, z9, X9, p9, f9, g9⟩ := loop len 0 (by omega) .unset (Or.inl rfl) s₁ B (by simpa [copyLocs] using X0) ⟨hB0.1, fun _ _ => rfl, rfl⟩ (Laid.zero _ _ _) c2
  have c11 : Steps p.tables e below (s₁.setTop (entryFrame m #[.ref b, .int (Int32.ofNat o), .ref d, .int (Int32.ofNat q), .int (Int32.ofNat len)] 7)) (T9.setTop (mkF m 46 #[.val (.ref b), .val (.int (Int32.ofNat (o + len))), .val (.ref d), .val (.int (Int32.ofNat (q + len))), .val (.int (Int32.ofNat len)), .val (.int (Int32.ofNat len)), z9] [.int (Int32.ofNat len)])) := g9.trans (by
    refine XS.iload X9.here hexec rfl (hb hbytes d3) rfl ?_
    refine XS.iload X9.here hexec rfl (hb hbytes d5) rfl ?_
    refine XS.icmpYes X9.here hexec rfl (pc0 := 7) rfl (hb hbytes d7) rfl (ii_ge_t (nlt32 (by omega) (Nat.le_refl _))) (by decide) rfl ?_
    refine XS.iload X9.here hexec rfl (hb hbytes d44) rfl ?_
    exact Steps.refl _)
  exact ⟨T9, some (.int (Int32.ofNat len)), _, _, _, X9, by simp, rfl, rfl, (fun h => by cases h), ⟨rfl, B9, p9.from hh0, f9⟩, fun fs hl => c11.trans (X9.ireturnOut hexec hret rfl (Or.inl rfl) (hb hbytes d46) hl)⟩
end Cmp5
namespace Cmp3
def yN : MethodName := ⟨"java/lang/StringUTF16", "compress", "([CII)[B"⟩
abbrev yB : ByteArray := jdk_52_method_16_code
theorem d0 : decode yB 0 = .ok (.iload_n 2, 1) := by decide +kernel
theorem d1 : decode yB 1 = .ok (.newarray .byte, 2) := by decide +kernel
theorem d3 : decode yB 3 = .ok (.astore_n 3, 1) := by decide +kernel
theorem d4 : decode yB 4 = .ok (.aload_n 0, 1) := by decide +kernel
theorem d5 : decode yB 5 = .ok (.iload_n 1, 1) := by decide +kernel
theorem d6 : decode yB 6 = .ok (.aload_n 3, 1) := by decide +kernel
theorem d7 : decode yB 7 = .ok (.iconst 0, 1) := by decide +kernel
theorem d8 : decode yB 8 = .ok (.iload_n 2, 1) := by decide +kernel
theorem d9 : decode yB 9 = .ok (.invokestatic 115, 3) := by decide +kernel
theorem d12 : decode yB 12 = .ok (.istore 4, 2) := by decide +kernel
theorem d14 : decode yB 14 = .ok (.iload 4, 2) := by decide +kernel
theorem d16 : decode yB 16 = .ok (.iload_n 2, 1) := by decide +kernel
theorem d17 : decode yB 17 = .ok (.if_icmp (.eq) 40, 3) := by decide +kernel
theorem d57 : decode yB 57 = .ok (.aload_n 3, 1) := by decide +kernel
theorem d58 : decode yB 58 = .ok (.areturn, 1) := by decide +kernel
def site : List Cond := [.arrayClass .byte, Cmp5.tab] ++ staticW U16 115 Cmp5.yN
def tab : Cond := tabOf yN yB 6 (some (.array .byte)) site
def P (b : Addr) (A : Cell) (o len : Nat) (args : Array Value) (s : State) : Prop := args = #[.ref b, .int (Int32.ofNat o), .int (Int32.ofNat len)] ∧ Ch b A s ∧ o + len ≤ A.slots.size ∧ len ≤ 536870912 ∧ ∀ i, i < len → ¬ 255 < cv A (o + i)
def E (b : Addr) (A : Cell) (o len : Nat) (r : Option Value) (s u : State) : Prop := NewArr .byte "[B" len (fun j => .int (lo8 (cv A (o + j)))) r s u ∧ u.heap.size = s.heap.size + 1
/-- no char of the range above 255: a new byte[] of their low bytes -/
theorem law (l : Launch) (b : Addr) (A : Cell) (o len : Nat) : Law l yN 3 3 1 18 yB 6 (some (.array .byte)) site (P b A o len) (E b A o len) [] 1 len := by
  refine Law.of_walk (plainFor_of_name (by decide +kernel)) (by decide +kernel) (by decide +kernel) (by decide) (fun _ _ h => by rw [h.1]; rfl) (fun _ U U' hal hh h => ⟨h.1, h.2.1.mv hal hh, h.2.2⟩) (fun r U U' V V' h1 hal h2 h => ⟨NewArr.mv r U U' V V' h1 hal h2 h.1, by rw [h1, h2]; exact h.2⟩) ?_
  intro p e s m args below meth c s₁ X0 hexec hbytes hml hret hlk hnm hown hh0 W hP
  obtain ⟨rfl, hA, l1, l2, hp⟩ := hP
  have a31 := hA.1.2.2.2
  have c1 : Steps p.tables e below (s₁.setTop (entryFrame m #[.ref b, .int (Int32.ofNat o), .int (Int32.ofNat len)] 6)) (s₁.setTop (mkF m 0 #[.val (.ref b), .val (.int (Int32.ofNat o)), .val (.int (Int32.ofNat len)), .unset, .unset, .unset] [])) := entry rfl
  have c2 : Steps p.tables e below (s₁.setTop (entryFrame m #[.ref b, .int (Int32.ofNat o), .int (Int32.ofNat len)] 6)) (s₁.setTop (mkF m 1 #[.val (.ref b), .val (.int (Int32.ofNat o)), .val (.int (Int32.ofNat len)), .unset, .unset, .unset] [.int (Int32.ofNat len)])) := c1.trans (by
    refine XS.iloadN X0.here hexec rfl (hb hbytes d0) rfl ?_
    exact Steps.refl _)
  obtain ⟨T3, B3, X3, ba3, bs3, bv3, bh3, bf3, st3⟩ := X0.anew hexec (atype := .byte) (wk W (.arrayClass .byte)) rfl (by show len * 1 ≤ _; omega) (by omega) (g := (mkF m 1 #[.val (.ref b), .val (.int (Int32.ofNat o)), .val (.int (Int32.ofNat len)), .unset, .unset, .unset] [.int (Int32.ofNat len)])) rfl (hb hbytes d1) (rest := []) rfl (Nat.le_refl _) (by show 0 + len ≤ len; omega)
  rw [hh0] at ba3 st3
  have kp3 : XT.Kept s T3 := (XT.Kept.of_eq hh0).push bh3
  have hA3 := hA.keep X3.warmed.alike (kp3 _ _ hA.1.1)
  have hne : b ≠ s.heap.size := hA.1.ne
  have c4 : Steps p.tables e below (s₁.setTop (entryFrame m #[.ref b, .int (Int32.ofNat o), .int (Int32.ofNat len)] 6)) (T3.setTop (mkF m 3 #[.val (.ref b), .val (.int (Int32.ofNat o)), .val (.int (Int32.ofNat len)), .unset, .unset, .unset] [.ref s.heap.size])) := c2.trans (st3 _ (Steps.refl _))
  have c5 : Steps p.tables e below (s₁.setTop (entryFrame m #[.ref b, .int (Int32.ofNat o), .int (Int32.ofNat len)] 6)) (T3.setTop (mkF m 9 #[.val (.ref b), .val (.int (Int32.ofNat o)), .val (.int (Int32.ofNat len)), .val (.ref s.heap.size), .unset, .unset] [.int (Int32.ofNat len), .int 0, .ref s.heap.size, .int (Int32.ofNat o), .ref b])) := c4.trans (by
    refine XS.astoreN X3.here hexec rfl (hb hbytes d3) rfl rfl rfl ?_
    refine XS.aloadN X3.here hexec rfl (hb hbytes d4) rfl rfl ?_
    refine XS.iloadN X3.here hexec rfl (hb hbytes d5) rfl ?_
    refine XS.aloadN X3.here hexec rfl (hb hbytes d6) rfl rfl ?_
    refine iconstV X3.here hexec rfl 0 (hb hbytes d7) (by decide) ?_
    refine XS.iloadN X3.here hexec rfl (hb hbytes d8) rfl ?_
    exact Steps.refl _)
  obtain ⟨v6, T6, X6, E6, g6⟩ := X3.callS hexec (Cmp5.law l b A s.heap.size B3 o 0 len) hown (wks W (staticW U16 115 Cmp5.yN)) (wk W Cmp5.tab) (W := 0) (Nat.le_of_ble_eq_true rfl) (Nat.le_of_ble_eq_true rfl) (Nat.le_refl _) (by show 0 + len + 0 ≤ len; omega) (g := (mkF m 9 #[.val (.ref b), .val (.int (Int32.ofNat o)), .val (.int (Int32.ofNat len)), .val (.ref s.heap.size), .unset, .unset] [.int (Int32.ofNat len), .int (Int32.ofNat 0), .ref s.heap.size, .int (Int32.ofNat o), .ref b])) rfl (by rw [hml]; rfl) c5 (argsL := [.ref b, .int (Int32.ofNat o), .ref s.heap.size, .int (Int32.ofNat 0), .int (Int32.ofNat len)]) (rest := []) rfl rfl (by show 2 * 0 + 0 ≤ _; decide) (hb hbytes d9) (⟨rfl, hA3, ba3, hne, l1, by rw [bs3]; simp, hp⟩)
  obtain ⟨rfl, B6, p6, f6⟩ := E6
  have c7 : Steps p.tables e below (s₁.setTop (entryFrame m #[.ref b, .int (Int32.ofNat o), .int (Int32.ofNat len)] 6)) (T6.setTop (mkF m 12 #[.val (.ref b), .val (.int (Int32.ofNat o)), .val (.int (Int32.ofNat len)), .val (.ref s.heap.size), .unset, .unset] [.int (Int32.ofNat len)])) := g6
  have c8 : Steps p.tables e below (s₁.setTop (entryFrame m #[.ref b, .int (Int32.ofNat o), .int (Int32.ofNat len)] 6)) (T6.setTop (mkF m 58 #[.val (.ref b), .val (.int (Int32.ofNat o)), .val (.int (Int32.ofNat len)), .val (.ref s.heap.size), .val (.int (Int32.ofNat len)), .unset] [.ref s.heap.size])) := c7.trans (by
    refine XS.istore X6.here hexec rfl (hb hbytes d12) rfl rfl ?_
    refine XS.iload X6.here hexec rfl (hb hbytes d14) rfl ?_
    refine XS.iloadN X6.here hexec rfl (hb hbytes d16) rfl ?_
    refine XS.icmpYes X6.here hexec rfl (pc0 := 17) rfl (hb hbytes d17) rfl (ii_eq_t rfl) (by decide) rfl ?_
    refine XS.aloadN X6.here hexec rfl (hb hbytes d57) rfl rfl ?_
    exact Steps.refl _)
  have X8 := X6.wide (L' := []) (cells' := 1) (slots' := len) (fun x hx hlt => by
    simp only [List.nil_append, copyLocs, List.mem_map, List.mem_range] at hx
    obtain ⟨i, -, rfl⟩ := hx
    exact absurd hlt (Nat.lt_irrefl _)) (Nat.le_refl _) (by omega)
  exact ⟨T6, some (.ref s.heap.size), _, _, _, X8, rfl, rfl, rfl, (fun h => by cases h), ⟨⟨rfl, B6, ba3.like (X3.warmed.alike.symm.trans X6.warmed.alike) p6.1 f6.1 f6.2.1 f6.2.2.1, f6.2.1.trans bv3, by rw [X6.warmed.alike.findClass, f6.1]; exact bf3, by rw [f6.2.2.1, bs3]; simp, fun j hj => by rw [f6.2.2.2 j, if_pos (by omega)]; rfl, kp3.put p6 (Nat.le_refl _)⟩, by rw [p6.2.2, bh3, hh0]; simp⟩, fun fs hl => c8.trans (X8.areturnOut hexec rfl hret rfl (hb hbytes d58) hl)⟩
end Cmp3
namespace CodL
def yN : MethodName := ⟨"java/lang/StringUTF16", "coderFromArrayLen", "([BI)B"⟩
abbrev yB : ByteArray := jdk_52_method_15_code
theorem d0 : decode yB 0 = .ok (.iload_n 1, 1) := by decide +kernel
theorem d1 : decode yB 1 = .ok (.aload_n 0, 1) := by decide +kernel
theorem d2 : decode yB 2 = .ok (.arraylength, 1) := by decide +kernel
theorem d3 : decode yB 3 = .ok (.isub, 1) := by decide +kernel
theorem d4 : decode yB 4 = .ok (.bipush 31, 2) := by decide +kernel
theorem d6 : decode yB 6 = .ok (.iushr, 1) := by decide +kernel
theorem d7 : decode yB 7 = .ok (.i2b, 1) := by decide +kernel
theorem d8 : decode yB 8 = .ok (.ireturn, 1) := by decide +kernel
def site : List Cond := []
def tab : Cond := tabOf yN yB 2 (some .byte) site
def P (d : Addr) (B : Cell) (args : Array Value) (s : State) : Prop := args = #[.ref d, .int (Int32.ofNat B.slots.size)] ∧ Arr .byte d B s
def E (r : Option Value) (s u : State) : Prop := XT.PureE (some (.int 0)) r s u
/-- an array as long as the number of chars: LATIN1 -/
theorem law (l : Launch) (d : Addr) (B : Cell) : Law l yN 2 2 0 0 yB 2 (some .byte) site (P d B) E [] 0 0 := by
  refine Law.of_walk (plainFor_of_name (by decide +kernel)) (by decide +kernel) (by decide +kernel) (by decide) (fun _ _ h => by rw [h.1]; rfl) (fun _ U U' hal hh h => ⟨h.1, h.2.mv hal hh⟩) (fun r U U' V V' h1 hal h2 h => XT.PureE.mv r U U' V V' h1 hal h2 h) ?_
  intro p e s m args below meth c s₁ X0 hexec hbytes hml hret hlk hnm hown hh0 W hP
  obtain ⟨rfl, hB⟩ := hP
  have hB0 := hB.mv X0.warmed.alike hh0
  have c1 : Steps p.tables e below (s₁.setTop (entryFrame m #[.ref d, .int (Int32.ofNat B.slots.size)] 2)) (s₁.setTop (mkF m 0 #[.val (.ref d), .val (.int (Int32.ofNat B.slots.size))] [])) := entry rfl
  have c2 : Steps p.tables e below (s₁.setTop (entryFrame m #[.ref d, .int (Int32.ofNat B.slots.size)] 2)) (s₁.setTop (mkF m 2 #[.val (.ref d), .val (.int (Int32.ofNat B.slots.size))] [.ref d, .int (Int32.ofNat B.slots.size)])) := c1.trans (by
    refine XS.iloadN X0.here hexec rfl (hb hbytes d0) rfl ?_
    refine XS.aloadN X0.here hexec rfl (hb hbytes d1) rfl rfl ?_
    exact Steps.refl _)
  have c3 : Steps p.tables e below (s₁.setTop (entryFrame m #[.ref d, .int (Int32.ofNat B.slots.size)] 2)) (s₁.setTop (mkF m 8 #[.val (.ref d), .val (.int (Int32.ofNat B.slots.size))] [.int (lo8 (ushr (Int32.ofNat B.slots.size - Int32.ofNat B.slots.size) 31))])) := c2.trans (by
    refine X0.alen hexec hB0 rfl rfl (hb hbytes d2) ?_
    refine XS.isub X0.here hexec rfl (hb hbytes d3) rfl ?_
    refine bipushV X0.here hexec rfl 31 (hb hbytes d4) (by decide) ?_
    refine iushr X0.here hexec rfl (hb hbytes d6) rfl ?_
    refine i2b X0.here hexec rfl (hb hbytes d7) rfl ?_
    exact Steps.refl _)
  have e0 : lo8 (ushr (Int32.ofNat B.slots.size - Int32.ofNat B.slots.size) 31) = 0 := by rw [Int32.sub_self]; decide
  rw [e0] at c3
  exact ⟨s₁, some (.int 0), _, _, _, X0, rfl, rfl, rfl, (fun h => by cases h), ⟨rfl, hh0⟩, fun fs hl => c3.trans (X0.ireturnOut hexec hret rfl (Or.inr (Or.inr (Or.inl rfl))) (hb hbytes d8) hl)⟩
end CodL
/-- the String at a is Latin-1 over a new byte[] (the heap's one new cell): the low bytes of the len chars of A from o on; every cell but a is kept -/
def Got (a : Addr) (D : Cell) (fV fC : Field) (A : Cell) (o len : Nat) (r : Option Value) (s u : State) : Prop := r = none ∧ ∃ D' V : Cell, Blank "java/lang/String" a D' u ∧ Same D D' [fV.slot, fC.slot] ∧ D'.slots[fV.slot]? = some (.ref s.heap.size) ∧ D'.slots[fC.slot]? = some (.int 0) ∧ Arr .byte s.heap.size V u ∧ V.vm = .none ∧ u.vm.findClass "[B" = some V.cls ∧ V.slots.size = len ∧ (∀ j, j < len → V.slots[j]? = some (.int (lo8 (cv A (o + j))))) ∧ (∀ (y : Addr) (c : Cell), y ≠ a → s.heap[y]? = some c → u.heap[y]? = some c) ∧ u.heap.size = s.heap.size + 1
theorem Got.mv {a : Addr} {D A : Cell} {fV fC : Field} {o len : Nat} : ∀ r (U U' V V' : State), U'.heap = U.heap → V.vm.Alike V'.vm → V'.heap = V.heap → Got a D fV fC A o len r U V → Got a D fV fC A o len r U' V' :=
  fun r U U' V V' h1 hal h2 ⟨e0, D', X, a1, a2, a3, a4, a5, a6, a7, a8, a9, a10, a11⟩ => ⟨e0, D', X, a1.mv hal h2, a2, by rw [h1]; exact a3, a4, by rw [h1]; exact a5.mv hal h2, a6, by rw [hal.findClass]; exact a7, a8, a9, by rw [h1, h2]; exact a10, by rw [h1, h2]; exact a11⟩
namespace New4
def yN : MethodName := ⟨"java/lang/String", "<init>", "([CIILjava/lang/Void;)V"⟩
abbrev yB : ByteArray := jdk_42_method_149_code
theorem d0 : decode yB 0 = .ok (.aload_n 0, 1) := by decide +kernel
theorem d1 : decode yB 1 = .ok (.invokespecial 1, 3) := by decide +kernel
theorem d4 : decode yB 4 = .ok (.iload_n 3, 1) := by decide +kernel
theorem d5 : decode yB 5 = .ok (.ifCond (.ne) 22, 3) := by decide +kernel
theorem d27 : decode yB 27 = .ok (.getstatic 38, 3) := by decide +kernel
theorem d30 : decode yB 30 = .ok (.ifCond (.eq) 28, 3) := by decide +kernel
theorem d33 : decode yB 33 = .ok (.aload_n 1, 1) := by decide +kernel
theorem d34 : decode yB 34 = .ok (.iload_n 2, 1) := by decide +kernel
theorem d35 : decode yB 35 = .ok (.iload_n 3, 1) := by decide +kernel
theorem d36 : decode yB 36 = .ok (.invokestatic 177, 3) := by decide +kernel
theorem d39 : decode yB 39 = .ok (.astore 5, 2) := by decide +kernel
theorem d41 : decode yB 41 = .ok (.aload_n 0, 1) := by decide +kernel
theorem d42 : decode yB 42 = .ok (.aload 5, 2) := by decide +kernel
theorem d44 : decode yB 44 = .ok (.iload_n 3, 1) := by decide +kernel
theorem d45 : decode yB 45 = .ok (.invokestatic 47, 3) := by decide +kernel
theorem d48 : decode yB 48 = .ok (.putfield 15, 3) := by decide +kernel
theorem d51 : decode yB 51 = .ok (.aload_n 0, 1) := by decide +kernel
theorem d52 : decode yB 52 = .ok (.aload 5, 2) := by decide +kernel
theorem d54 : decode yB 54 = .ok (.putfield 9, 3) := by decide +kernel
theorem d57 : decode yB 57 = .ok (.return_, 1) := by decide +kernel
def site : List Cond := [.fieldLink "java/lang/String" 38 "java/lang/String" "COMPACT_STRINGS" "Z", Cmp3.tab, CodL.tab, .laysFinal "java/lang/String" "java/lang/String" "value" "[B", .fieldLink "java/lang/String" 9 "java/lang/String" "value" "[B", .laysFinal "java/lang/String" "java/lang/String" "coder" "B", .fieldLink "java/lang/String" 15 "java/lang/String" "coder" "B"] ++ objW "java/lang/String" 1 ++ staticW "java/lang/String" 177 Cmp3.yN ++ staticW "java/lang/String" 47 CodL.yN
def tab : Cond := tabOf yN yB 6 none site
def P (a : Addr) (D : Cell) (fV fC : Field) (b : Addr) (A : Cell) (z : Int32) (o len : Nat) (args : Array Value) (s : State) : Prop := args = #[.ref a, .ref b, .int (Int32.ofNat o), .int (Int32.ofNat len), .null] ∧ Blank "java/lang/String" a D s ∧ Found "java/lang/String" "value" "[B" fV s ∧ Found "java/lang/String" "coder" "B" fC s ∧ Ch b A s ∧ StaticIs s "java/lang/String" "COMPACT_STRINGS" "Z" (.int z) ∧ ¬ z = 0 ∧ 0 < len ∧ o + len ≤ A.slots.size ∧ len ≤ 536870912 ∧ ∀ i, i < len → ¬ 255 < cv A (o + i)
def E (a : Addr) (D : Cell) (fV fC : Field) (A : Cell) (o len : Nat) (r : Option Value) (s u : State) : Prop := Got a D fV fC A o len r s u
/-- len > 0, no char of the range above 255: a Latin-1 String of their low bytes -/
theorem law (l : Launch) (a : Addr) (D : Cell) (fV fC : Field) (b : Addr) (A : Cell) (z : Int32) (o len : Nat) : Law l yN 5 4 2 35 yB 6 none site (P a D fV fC b A z o len) (E a D fV fC A o len) [⟨a, fC.slot⟩, ⟨a, fV.slot⟩] 1 len := by
  refine Law.of_walk (plainFor_of_name (by decide +kernel)) (by decide +kernel) (by decide +kernel) (by decide) (fun _ _ h => by rw [h.1]; rfl) (fun _ U U' hal hh h => ⟨h.1, h.2.1.mv hal hh, h.2.2.1.al hal, h.2.2.2.1.al hal, h.2.2.2.2.1.mv hal hh, h.2.2.2.2.2.1.there hal hh, h.2.2.2.2.2.2⟩) (fun r U U' V V' h1 hal h2 h => Got.mv r U U' V V' h1 hal h2 h) ?_
  intro p e s m args below meth c s₁ X0 hexec hbytes hml hret hlk hnm hown hh0 W hP
  obtain ⟨rfl, hB, f1, f2, hA, s1, hz, l0, l1, l2, hp⟩ := hP
  have a31 := hA.1.2.2.2
  have c1 : Steps p.tables e below (s₁.setTop (entryFrame m #[.ref a, .ref b, .int (Int32.ofNat o), .int (Int32.ofNat len), .null] 6)) (s₁.setTop (mkF m 0 #[.val (.ref a), .val (.ref b), .val (.int (Int32.ofNat o)), .val (.int (Int32.ofNat len)), .val .null, .unset] [])) := entry rfl
  have c2 : Steps p.tables e below (s₁.setTop (entryFrame m #[.ref a, .ref b, .int (Int32.ofNat o), .int (Int32.ofNat len), .null] 6)) (s₁.setTop (mkF m 1 #[.val (.ref a), .val (.ref b), .val (.int (Int32.ofNat o)), .val (.int (Int32.ofNat len)), .val .null, .unset] [.ref a])) := c1.trans (by
    refine XS.aloadN X0.here hexec rfl (hb hbytes d0) rfl rfl ?_
    exact Steps.refl _)
  obtain ⟨T3, X3, q3, st3⟩ := X0.oinit hexec hown (wks W (objW "java/lang/String" 1)) (g := (mkF m 1 #[.val (.ref a), .val (.ref b), .val (.int (Int32.ofNat o)), .val (.int (Int32.ofNat len)), .val .null, .unset] [.ref a])) rfl (by rw [hml]; rfl) (rest := []) rfl (hb hbytes d1) (W := 0) (by show 2 * 0 + 0 ≤ _; decide) (Nat.le_of_ble_eq_true rfl) (Nat.le_of_ble_eq_true rfl)
  have hh3 := q3.trans hh0
  have c4 : Steps p.tables e below (s₁.setTop (entryFrame m #[.ref a, .ref b, .int (Int32.ofNat o), .int (Int32.ofNat len), .null] 6)) (T3.setTop (mkF m 27 #[.val (.ref a), .val (.ref b), .val (.int (Int32.ofNat o)), .val (.int (Int32.ofNat len)), .val .null, .unset] [])) := (c2.trans (st3 _ (Steps.refl _))).trans (by
    refine XS.iloadN X3.here hexec rfl (hb hbytes d4) rfl ?_
    refine XS.ifYes X3.here hexec rfl (pc0 := 5) rfl (hb hbytes d5) rfl (i0_ne_t (nz32 (by omega) l0)) (by decide) rfl ?_
    exact Steps.refl _)
  obtain ⟨T5, X5, q5, st5⟩ := X3.sget hexec hown (wk W (.fieldLink "java/lang/String" 38 "java/lang/String" "COMPACT_STRINGS" "Z")) s1 (fun _ _ h => by rw [hh3]; exact h) (g := (mkF m 27 #[.val (.ref a), .val (.ref b), .val (.int (Int32.ofNat o)), .val (.int (Int32.ofNat len)), .val .null, .unset] [])) rfl (hb hbytes d27)
  have hh5 := q5.trans hh3
  have c6 : Steps p.tables e below (s₁.setTop (entryFrame m #[.ref a, .ref b, .int (Int32.ofNat o), .int (Int32.ofNat len), .null] 6)) (T5.setTop (mkF m 30 #[.val (.ref a), .val (.ref b), .val (.int (Int32.ofNat o)), .val (.int (Int32.ofNat len)), .val .null, .unset] [.int z])) := c4.trans (st5 _ (Steps.refl _))
  have c7 : Steps p.tables e below (s₁.setTop (entryFrame m #[.ref a, .ref b, .int (Int32.ofNat o), .int (Int32.ofNat len), .null] 6)) (T5.setTop (mkF m 36 #[.val (.ref a), .val (.ref b), .val (.int (Int32.ofNat o)), .val (.int (Int32.ofNat len)), .val .null, .unset] [.int (Int32.ofNat len), .int (Int32.ofNat o), .ref b])) := c6.trans (by
    refine XS.ifNo X5.here hexec rfl (hb hbytes d30) rfl (i0_eq_f hz) ?_
    refine XS.aloadN X5.here hexec rfl (hb hbytes d33) rfl rfl ?_
    refine XS.iloadN X5.here hexec rfl (hb hbytes d34) rfl ?_
    refine XS.iloadN X5.here hexec rfl (hb hbytes d35) rfl ?_
    exact Steps.refl _)
  obtain ⟨v8, T8, X8, E8, g8⟩ := X5.callS hexec (Cmp3.law l b A o len) hown (wks W (staticW "java/lang/String" 177 Cmp3.yN)) (wk W Cmp3.tab) (W := 0) (Nat.le_of_ble_eq_true rfl) (Nat.le_of_ble_eq_true rfl) (Nat.le_refl _) (by show 0 + len ≤ len; omega) (g := (mkF m 36 #[.val (.ref a), .val (.ref b), .val (.int (Int32.ofNat o)), .val (.int (Int32.ofNat len)), .val .null, .unset] [.int (Int32.ofNat len), .int (Int32.ofNat o), .ref b])) rfl (by rw [hml]; rfl) c7 (argsL := [.ref b, .int (Int32.ofNat o), .int (Int32.ofNat len)]) (rest := []) rfl rfl (by show 2 * 0 + 0 ≤ _; decide) (hb hbytes d36) (⟨rfl, hA.mv X5.warmed.alike hh5, l1, l2, hp⟩)
  obtain ⟨e8, z8⟩ := E8
  obtain ⟨rfl, N, n1, n2, n3, n4, n5, n6⟩ := NewArr.mv _ T5 s _ _ hh5.symm (Vm.Alike.refl _) rfl e8
  rw [hh5] at z8
  have hB1 := hB.keep X8.warmed.alike (n6 _ _ hB.1)
  have hne : s.heap.size ≠ a := (Nat.ne_of_lt (Array.getElem?_eq_some_iff.mp hB.1).1).symm
  have c9 : Steps p.tables e below (s₁.setTop (entryFrame m #[.ref a, .ref b, .int (Int32.ofNat o), .int (Int32.ofNat len), .null] 6)) (T8.setTop (mkF m 39 #[.val (.ref a), .val (.ref b), .val (.int (Int32.ofNat o)), .val (.int (Int32.ofNat len)), .val .null, .unset] [.ref s.heap.size])) := g8
  have c10 : Steps p.tables e below (s₁.setTop (entryFrame m #[.ref a, .ref b, .int (Int32.ofNat o), .int (Int32.ofNat len), .null] 6)) (T8.setTop (mkF m 45 #[.val (.ref a), .val (.ref b), .val (.int (Int32.ofNat o)), .val (.int (Int32.ofNat len)), .val .null, .val (.ref s.heap.size)] [.int (Int32.ofNat N.slots.size), .ref s.heap.size, .ref a])) := by
    have hc : Steps p.tables e below (s₁.setTop (entryFrame m #[.ref a, .ref b, .int (Int32.ofNat o), .int (Int32.ofNat len), .null] 6)) (T8.setTop (mkF m 45 #[.val (.ref a), .val (.ref b), .val (.int (Int32.ofNat o)), .val (.int (Int32.ofNat len)), .val .null, .val (.ref s.heap.size)] [.int (Int32.ofNat len), .ref s.heap.size, .ref a])) := c9.trans (by
      refine XS.astore X8.here hexec rfl (hb hbytes d39) rfl rfl rfl ?_
      refine XS.aloadN X8.here hexec rfl (hb hbytes d41) rfl rfl ?_
      refine XS.aload X8.here hexec rfl (hb hbytes d42) rfl rfl ?_
      refine XS.iloadN X8.here hexec rfl (hb hbytes d44) rfl ?_
      exact Steps.refl _)
    rw [n4]; exact hc
  obtain ⟨v11, T11, X11, E11, g11⟩ := X8.callS hexec (CodL.law l s.heap.size N) hown (wks W (staticW "java/lang/String" 47 CodL.yN)) (wk W CodL.tab) (W := 1) (Nat.le_of_ble_eq_true rfl) (Nat.le_of_ble_eq_true rfl) (Nat.le_refl _) (by show 0 + len + 0 ≤ len; omega) (g := (mkF m 45 #[.val (.ref a), .val (.ref b), .val (.int (Int32.ofNat o)), .val (.int (Int32.ofNat len)), .val .null, .val (.ref s.heap.size)] [.int (Int32.ofNat N.slots.size), .ref s.heap.size, .ref a])) rfl (by rw [hml]; rfl) c10 (argsL := [.ref s.heap.size, .int (Int32.ofNat N.slots.size)]) (rest := [.ref a]) rfl rfl (by show 2 * 0 + (1 + 0) ≤ _; decide) (hb hbytes d45) (⟨rfl, n1⟩)
  obtain ⟨rfl, q11⟩ := E11
  have hB11 := hB1.mv (X8.warmed.alike.symm.trans X11.warmed.alike) q11
  have c12 : Steps p.tables e below (s₁.setTop (entryFrame m #[.ref a, .ref b, .int (Int32.ofNat o), .int (Int32.ofNat len), .null] 6)) (T11.setTop (mkF m 48 #[.val (.ref a), .val (.ref b), .val (.int (Int32.ofNat o)), .val (.int (Int32.ofNat len)), .val .null, .val (.ref s.heap.size)] [.int 0, .ref a])) := g11
  obtain ⟨T13, X13, p13, bl13, sl13, st13⟩ := X11.finit hexec hown (wk W (.fieldLink "java/lang/String" 15 "java/lang/String" "coder" "B")) (Or.inr ⟨_, (wk W (.laysFinal "java/lang/String" "java/lang/String" "coder" "B"))⟩) (Or.inl ⟨rfl, hnm⟩) f2 (Or.inl rfl) hB11 (t := .byte) (by decide +kernel) rfl (g := (mkF m 48 #[.val (.ref a), .val (.ref b), .val (.int (Int32.ofNat o)), .val (.int (Int32.ofNat len)), .val .null, .val (.ref s.heap.size)] [.int 0, .ref a])) rfl (rest := []) rfl (hb hbytes d48)
  have c14 : Steps p.tables e below (s₁.setTop (entryFrame m #[.ref a, .ref b, .int (Int32.ofNat o), .int (Int32.ofNat len), .null] 6)) (T13.setTop (mkF m 54 #[.val (.ref a), .val (.ref b), .val (.int (Int32.ofNat o)), .val (.int (Int32.ofNat len)), .val .null, .val (.ref s.heap.size)] [.ref s.heap.size, .ref a])) := (c12.trans (st13 _ (Steps.refl _))).trans (by
    refine XS.aloadN X13.here hexec rfl (hb hbytes d51) rfl rfl ?_
    refine XS.aload X13.here hexec rfl (hb hbytes d52) rfl rfl ?_
    exact Steps.refl _)
  obtain ⟨T15, X15, p15, bl15, sl15, st15⟩ := X13.finit hexec hown (wk W (.fieldLink "java/lang/String" 9 "java/lang/String" "value" "[B")) (Or.inr ⟨_, (wk W (.laysFinal "java/lang/String" "java/lang/String" "value" "[B"))⟩) (Or.inl ⟨rfl, hnm⟩) f1 (Or.inl rfl) bl13 (t := (.array .byte)) (by decide +kernel) rfl (g := (mkF m 54 #[.val (.ref a), .val (.ref b), .val (.int (Int32.ofNat o)), .val (.int (Int32.ofNat len)), .val .null, .val (.ref s.heap.size)] [.ref s.heap.size, .ref a])) rfl (rest := []) rfl (hb hbytes d54)
  have c16 : Steps p.tables e below (s₁.setTop (entryFrame m #[.ref a, .ref b, .int (Int32.ofNat o), .int (Int32.ofNat len), .null] 6)) (T15.setTop (mkF m 57 #[.val (.ref a), .val (.ref b), .val (.int (Int32.ofNat o)), .val (.int (Int32.ofNat len)), .val .null, .val (.ref s.heap.size)] [])) := c14.trans (st15 _ (Steps.refl _))
  have ap := apart (Or.inr ⟨_, (wk W (.laysFinal "java/lang/String" "java/lang/String" "value" "[B"))⟩) (Or.inr ⟨_, (wk W (.laysFinal "java/lang/String" "java/lang/String" "coder" "B"))⟩) f1 f2 (t₁ := .array .byte) (t₂ := .byte) (by decide +kernel) (by decide +kernel) (by decide)
  have al := X8.warmed.alike.symm.trans X15.warmed.alike
  have n7 : T11.heap[s.heap.size]? = some N := by rw [q11]; exact n1.1
  exact ⟨T15, none, _, _, _, X15, by simp, rfl, by omega, (fun _ => rfl), ⟨rfl, _, N, bl15, ((Same.refl D _).set _ (by simp)).set _ (by simp), sl15, (Cell.slots_setSlot_ne _ ap).trans sl13, n1.keep al (p15.other hne (p13.other hne n7)), n2, by rw [al.findClass]; exact n3, n4, n5, fun y c h1 h2 => p15.other h1 (p13.other h1 (by rw [q11]; exact n6 y c h2)), by rw [p15.2.2, p13.2.2, q11]; exact z8⟩, fun fs hl => c16.trans (X15.returnOut hexec hret (hb hbytes d57) hl)⟩
end New4
namespace New1
def yN : MethodName := ⟨"java/lang/String", "<init>", "([C)V"⟩
abbrev yB : ByteArray := jdk_42_method_3_code
theorem d0 : decode yB 0 = .ok (.aload_n 0, 1) := by decide +kernel
theorem d1 : decode yB 1 = .ok (.aload_n 1, 1) := by decide +kernel
theorem d2 : decode yB 2 = .ok (.iconst 0, 1) := by decide +kernel
theorem d3 : decode yB 3 = .ok (.aload_n 1, 1) := by decide +kernel
theorem d4 : decode yB 4 = .ok (.arraylength, 1) := by decide +kernel
theorem d5 : decode yB 5 = .ok (.aconst_null, 1) := by decide +kernel
theorem d6 : decode yB 6 = .ok (.invokespecial 27, 3) := by decide +kernel
theorem d9 : decode yB 9 = .ok (.return_, 1) := by decide +kernel
def site : List Cond := [New4.tab] ++ initW "java/lang/String" 27 New4.yN
def tab : Cond := tabOf yN yB 2 none site
def P (a : Addr) (D : Cell) (fV fC : Field) (b : Addr) (A : Cell) (z : Int32) (args : Array Value) (s : State) : Prop := args = #[.ref a, .ref b] ∧ Blank "java/lang/String" a D s ∧ Found "java/lang/String" "value" "[B" fV s ∧ Found "java/lang/String" "coder" "B" fC s ∧ Ch b A s ∧ StaticIs s "java/lang/String" "COMPACT_STRINGS" "Z" (.int z) ∧ ¬ z = 0 ∧ 0 < A.slots.size ∧ A.slots.size ≤ 536870912 ∧ ∀ i, i < A.slots.size → ¬ 255 < cv A i
def E (a : Addr) (D : Cell) (fV fC : Field) (A : Cell) (r : Option Value) (s u : State) : Prop := Got a D fV fC A 0 A.slots.size r s u
/-- new String(chars), not empty, no char above 255: a Latin-1 String of their low bytes -/
theorem law (l : Launch) (a : Addr) (D : Cell) (fV fC : Field) (b : Addr) (A : Cell) (z : Int32) : Law l yN 2 1 3 52 yB 2 none site (P a D fV fC b A z) (E a D fV fC A) [⟨a, fC.slot⟩, ⟨a, fV.slot⟩] 1 A.slots.size := by
  refine Law.of_walk (plainFor_of_name (by decide +kernel)) (by decide +kernel) (by decide +kernel) (by decide) (fun _ _ h => by rw [h.1]; rfl) (fun _ U U' hal hh h => ⟨h.1, h.2.1.mv hal hh, h.2.2.1.al hal, h.2.2.2.1.al hal, h.2.2.2.2.1.mv hal hh, h.2.2.2.2.2.1.there hal hh, h.2.2.2.2.2.2⟩) (fun r U U' V V' h1 hal h2 h => Got.mv r U U' V V' h1 hal h2 h) ?_
  intro p e s m args below meth c s₁ X0 hexec hbytes hml hret hlk hnm hown hh0 W hP
  obtain ⟨rfl, hB, f1, f2, hA, s1, hz, l0, l2, hp⟩ := hP
  have c1 : Steps p.tables e below (s₁.setTop (entryFrame m #[.ref a, .ref b] 2)) (s₁.setTop (mkF m 0 #[.val (.ref a), .val (.ref b)] [])) := entry rfl
  have c2 : Steps p.tables e below (s₁.setTop (entryFrame m #[.ref a, .ref b] 2)) (s₁.setTop (mkF m 6 #[.val (.ref a), .val (.ref b)] [.null, .int (Int32.ofNat A.slots.size), .int 0, .ref b, .ref a])) := c1.trans (by
    refine XS.aloadN X0.here hexec rfl (hb hbytes d0) rfl rfl ?_
    refine XS.aloadN X0.here hexec rfl (hb hbytes d1) rfl rfl ?_
    refine iconstV X0.here hexec rfl 0 (hb hbytes d2) (by decide) ?_
    refine XS.aloadN X0.here hexec rfl (hb hbytes d3) rfl rfl ?_
    refine X0.alen hexec (hA.1.mv X0.warmed.alike hh0) rfl rfl (hb hbytes d4) ?_
    refine XS.aconstNull X0.here hexec rfl (hb hbytes d5) ?_
    exact Steps.refl _)
  obtain ⟨v3, T3, X3, E3, g3⟩ := X0.callN hexec (New4.law l a D fV fC b A z 0 A.slots.size) rfl hown (wks W (initW "java/lang/String" 27 New4.yN)) (W New4.tab (by simp only [site, List.mem_cons, List.mem_append, true_or, or_true])) (W := 0) (Nat.le_of_ble_eq_true rfl) (Nat.le_of_ble_eq_true rfl) (Nat.le_refl _) (by show 0 + A.slots.size ≤ A.slots.size; omega) (g := (mkF m 6 #[.val (.ref a), .val (.ref b)] [.null, .int (Int32.ofNat A.slots.size), .int (Int32.ofNat 0), .ref b, .ref a])) rfl (by rw [hml]; rfl) c2 (argsL := [.ref b, .int (Int32.ofNat 0), .int (Int32.ofNat A.slots.size), .null]) (rest := []) rfl rfl (by show 2 * 0 + 0 ≤ _; decide) (hb hbytes d6) (⟨rfl, hB.mv X0.warmed.alike hh0, f1.al X0.warmed.alike, f2.al X0.warmed.alike, hA.mv X0.warmed.alike hh0, s1.there X0.warmed.alike hh0, hz, l0, by omega, l2, fun i hi => by rw [Nat.zero_add]; exact hp i hi⟩)
  have e0 := Got.mv _ s₁ s _ _ hh0.symm (Vm.Alike.refl _) rfl E3
  obtain rfl := e0.1
  have c4 : Steps p.tables e below (s₁.setTop (entryFrame m #[.ref a, .ref b] 2)) (T3.setTop (mkF m 9 #[.val (.ref a), .val (.ref b)] [])) := g3
  exact ⟨T3, none, _, _, _, X3, by simp, rfl, by omega, (fun _ => rfl), e0, fun fs hl => c4.trans (X3.returnOut hexec hret (hb hbytes d9) hl)⟩
theorem pays {l : Launch} {R : Room} {p : Program} {e : Env} {below : List Frame} {s : State} {sargs : Array Value} {len W : Nat} (a : Addr) (D : Cell) (fV fC : Field) (b : Addr) (A : Cell) (z : Int32) (htab : tab.before sargs s = true) (hfr : 4 ≤ R.frames) (hlo : W + 65 ≤ R.locals) :
    Back l R p e below s sargs yN len W (fun A₁ a₁ => A₁.cells + 1 ≤ R.cells ∧ A₁.slots + A.slots.size ≤ R.slots ∧ P a D fV fC b A z a₁ A₁.U) (fun A₁ _ v₁ B₁ => E a D fV fC A v₁ A₁.U B₁.U ∧ B₁.locs = A₁.locs ++ [⟨a, fC.slot⟩, ⟨a, fV.slot⟩] ∧ B₁.cells = A₁.cells + 1 ∧ B₁.slots = A₁.slots + A.slots.size) :=
  (law l a D fV fC b A z).pays htab hfr (by omega)
end New1
/-- the byte, read back as charAt reads it, is the char -/
theorem lo8_mask {x : Int32} (h0 : ¬ x < 0) (h1 : ¬ 255 < x) : lo8 x &&& 255 = x := by
  have t : ∀ k : Fin 256, lo8 (Int32.ofNat k.val) &&& 255 = Int32.ofNat k.val := by decide +kernel
  rw [Int32.lt_iff_toInt_lt] at h0 h1
  have e0 : (0 : Int32).toInt = 0 := rfl
  have e1 : (255 : Int32).toInt = 255 := rfl
  obtain ⟨k, hk⟩ : ∃ k : Nat, x.toInt = k := ⟨x.toInt.toNat, by omega⟩
  have hx : x = Int32.ofNat k := Int32.toInt_inj.mp (by rw [hk, Int32.toInt_ofNat_small (by omega)])
  rw [hx]
  exact t ⟨k, by omega⟩
end StrChars
namespace StrChars.Road
open Jvm Sem ClassFile Op Lib Jvm.Stand Jvm.Free Jvm.Free.XT
open Jvm.Lib.Cold (StaticIs)
abbrev ST : String := "java/lang/String"
/-- every table word that New1's law asks, flat -/
abbrev words : List Jvm.Cond := [.code New1.yN New1.yB 2 none, .initialized ST, .methodLink ST 27 New4.yN, .instanceMethod New4.yN,
  .code New4.yN New4.yB 6 none, .fieldLink ST 38 ST "COMPACT_STRINGS" "Z", .laysFinal ST ST "value" "[B", .fieldLink ST 9 ST "value" "[B", .laysFinal ST ST "coder" "B", .fieldLink ST 15 ST "coder" "B",
  .methodLink ST 1 Lib.objectInit, .instanceMethod Lib.objectInit, .code Lib.objectInit ⟨#[0xb1]⟩ 1 none, .methodLink ST 177 Cmp3.yN, .static Cmp3.yN, .methodLink ST 47 CodL.yN, .static CodL.yN,
  .code Cmp3.yN Cmp3.yB 6 (some (.array .byte)), .initialized U16, .arrayClass .byte, .methodLink U16 115 Cmp5.yN, .static Cmp5.yN, .code Cmp5.yN Cmp5.yB 7 (some .int), .code CodL.yN CodL.yB 2 (some .byte)]
theorem tab_of {a : Array Value} {s : State} (h : ∀ w ∈ words, w.before a s = true) : New1.tab.before a s = true := by
  have h5 : Cmp5.tab.before a s = true := unparts (wk h (.code Cmp5.yN Cmp5.yB 7 (some .int))) (wks h (.initialized Cmp5.yN.cls :: Cmp5.site))
  have hc : CodL.tab.before a s = true := unparts (wk h (.code CodL.yN CodL.yB 2 (some .byte))) (wks h (.initialized CodL.yN.cls :: CodL.site))
  have q5 : ∀ w ∈ Cmp5.tab :: words, w.before a s = true := fun w hw => (List.mem_cons.mp hw).elim (fun e => e ▸ h5) (h w)
  have h3 : Cmp3.tab.before a s = true := unparts (wk q5 (.code Cmp3.yN Cmp3.yB 6 (some (.array .byte)))) (wks q5 (.initialized Cmp3.yN.cls :: Cmp3.site))
  have q3 : ∀ w ∈ Cmp3.tab :: CodL.tab :: words, w.before a s = true := fun w hw => (List.mem_cons.mp hw).elim (fun e => e ▸ h3) fun hw => (List.mem_cons.mp hw).elim (fun e => e ▸ hc) (h w)
  have h4 : New4.tab.before a s = true := unparts (wk q3 (.code New4.yN New4.yB 6 none)) (wks q3 (.initialized New4.yN.cls :: New4.site))
  have q4 : ∀ w ∈ New4.tab :: words, w.before a s = true := fun w hw => (List.mem_cons.mp hw).elim (fun e => e ▸ h4) (h w)
  exact unparts (wk q4 (.code New1.yN New1.yB 2 none)) (wks q4 (.initialized New1.yN.cls :: New1.site))
/-- the words ride from the start Z to the walk's own state -/
theorem moved {Z s : State} {a0 args : Array Value} (hZ : Z.Warmed39 s.vm) (hw : ∀ d ∈ words, d.before a0 Z = true) : ∀ d ∈ words, d.before args s = true := fun d hd => by
  have q := hw d hd
  have t : ∀ d ∈ words, d = .arrayClass .byte ∨ (d.onTables && d.keepsFace) = true := by decide +kernel
  rcases t d hd with rfl | t
  · exact RoadKit.mvA hZ q
  · exact RoadKit.mv hZ q t
/-- WHAT COMES BACK, over the tables of the start Z: h the heap at the call, h' behind it -/
def Q (Z : State) (x : Addr) (A : Cell) (h : Heap) (v : Option Value) (h' : Heap) (L : List Loc) : Prop := v = none ∧ (∀ y ∈ L, y.base = x) ∧ RoadKit.Keep h h' [x] ∧ h'.size = h.size + 1 ∧ RoadKit.Exa Z h' x ST ∧ RoadKit.Fld Z h' x ST "value" "[B" (.ref h.size) ∧ RoadKit.Fld Z h' x ST "coder" "B" (.int 0) ∧
  (∃ V : Cell, RoadKit.Arr Z h' h.size V .byte ∧ V.vm = .none ∧ Z.vm.findClass "[B" = some V.cls ∧ V.slots.size = A.slots.size ∧ ∀ j, j < A.slots.size → V.slots[j]? = some (.int (lo8 (cv A j)))) ∧
  ∀ (O n d : String) (w : Value), RoadKit.Fld Z h x O n d w → RoadKit.slotOf Z O n d ≠ RoadKit.slotOf Z ST "value" "[B" → RoadKit.slotOf Z O n d ≠ RoadKit.slotOf Z ST "coder" "B" → RoadKit.Fld Z h' x O n d w
/-- **new String(chars) AT A CALL, IN THE ROAD'S FORM**: for specialBack behind newO: x the fresh String, b the char[] with the cell A -/
theorem back {p : Program} {l : Launch} {e : Env} {R : Room} {s : State} {args : Array Value} {below : List Frame} {len W : Nat} {Z : State} {a0 : Array Value} {h : Heap} (hZ : Z.Warmed39 s.vm) (hw : ∀ d ∈ words, d.before a0 Z = true) {kI : Nat} (wi : (Jvm.Cond.instantiable ST kI).before a0 Z = true)
    {x b : Addr} {A : Cell} {z : Int32} {v0 c0 : Value} (E : RoadKit.Exa Z h x ST) (V : RoadKit.Fld Z h x ST "value" "[B" v0) (C : RoadKit.Fld Z h x ST "coder" "B" c0) (K : RoadKit.Arr Z h b A .char) (hty : Typed .char A) (S : RoadKit.Sta Z h ST "COMPACT_STRINGS" "Z" (.int z)) (hz : ¬ z = 0)
    (l0 : 0 < A.slots.size) (l2 : A.slots.size ≤ 536870912) (hp : ∀ i, i < A.slots.size → ¬ 255 < cv A i) (hfr : 4 ≤ R.frames) (hlo : W + 65 ≤ R.locals) :
    Back l R p e below s args New1.yN len W (fun P a => a = #[.ref x, .ref b] ∧ P.U.heap = h ∧ P.cells + 1 ≤ R.cells ∧ P.slots + A.slots.size ≤ R.slots)
      (fun P _ v B => ∃ L, Q Z x A h v B.U.heap L ∧ B.locs = P.locs ++ L ∧ B.cells = P.cells + 1 ∧ B.slots = P.slots + A.slots.size) := by
  intro m meth c P g ig mk a X hg hsize hdg hW hn hp'
  obtain ⟨rfl, rfl, r1, r2⟩ := hp'
  have al : Z.vm.Alike P.U.vm := hZ.alike.trans X.warmed.alike
  obtain ⟨D, cfV, kV, iV, fV, hD, gV, stV, knV, obV, asV, slV⟩ := id V
  obtain ⟨D', cfC, kC, iC, fC, hD', gC, stC, -, -, asC, slC⟩ := id C
  cases hD.symm.trans hD'
  obtain ⟨D2, kD, e1, e2, e3, e4, e5⟩ := id E
  cases hD.symm.trans e1
  obtain ⟨c2, k2, i1, i2, i3, -⟩ := Cond.instantiable_spec wi
  cases e2.symm.trans i1
  cases e3.symm.trans i2
  obtain ⟨kU, u1, u2⟩ := al.2.2 _ _ e3
  have hB : Blank ST x D P.U := ⟨hD, ⟨knV, fun q hq => by rw [hq] at obV; cases obV⟩, by rw [al.findClass]; exact e2, kU, u1, by rw [u2]; exact i3, by rw [u2]; exact e5 i3⟩
  have F1 : Found ST "value" "[B" fV P.U := ⟨SBG.found_only al ⟨cfV, kV, iV, gV⟩, stV⟩
  have F2 : Found ST "coder" "B" fC P.U := ⟨SBG.found_only al ⟨cfC, kC, iC, gC⟩, stC⟩
  have hA : Ch b A P.U := ⟨⟨K.1, State.isArrayOf_alike al K.2.1, K.2.2, by omega⟩, hty⟩
  have hS : StaticIs P.U ST "COMPACT_STRINGS" "Z" (.int z) := by
    obtain ⟨cfS, iS, kS, fS, st, cS, t1, t2, t3, t4, t5, t6, t7⟩ := S
    exact StaticIs.there (s := { Z with heap := P.U.heap }) ⟨cfS, iS, kS, fS, st, cS, t1, t2, t3, t4, t5, (fun q => by rw [q] at t6; cases t6), t7⟩ al rfl
  obtain ⟨v, B, X', ⟨⟨hv, E', V', q1, q2, q3, q4, q5, q6, q7, q8, q9, q10, q11⟩, hl, hc, hs⟩, st⟩ := New1.pays x D fV fC b A z (tab_of (moved hZ hw)) hfr hlo m meth c P g ig mk _ X hg hsize hdg hW hn ⟨r1, r2, rfl, hB, F1, F2, hA, hS, hz, l0, l2, hp⟩
  have al' : Z.vm.Alike B.U.vm := hZ.alike.trans X'.warmed.alike
  have hsz : E'.slots.size = D.slots.size := by
    obtain ⟨-, -, -, kB, w1, w2, w3⟩ := q1
    obtain ⟨kB', y1, y2⟩ := al'.2.2 _ _ e3
    rw [q2.2.1] at w1
    cases w1.symm.trans y1
    rw [w3, e5 i3, y2]
  refine ⟨v, B, X', ⟨_, ⟨hv, ?_, ⟨by omega, fun y cy hy hn' => q10 y cy (by simpa using hn') hy, fun y cy hy => ?_⟩, q11, ⟨E', _, q1.1, by rw [q2.2.1]; exact e2, by rw [q2.2.1]; exact e3, by rw [q2.1]; exact obV, fun _ => by rw [hsz]; exact e5 i3⟩,
    ⟨E', cfV, kV, iV, fV, q1.1, gV, stV, by rw [q2.1]; exact knV, by rw [q2.1]; exact obV, by rw [q2.2.1]; exact asV, q3⟩, ⟨E', cfC, kC, iC, fC, q1.1, gC, stC, by rw [q2.1]; exact knV, by rw [q2.1]; exact obV, by rw [q2.2.1]; exact asC, q4⟩,
    ⟨V', ⟨q5.1, State.isArrayOf_alike al'.symm q5.2.1, q5.2.2.1⟩, q6, by rw [← al'.findClass]; exact q7, q8, fun j hj => by have := q9 j hj; rwa [Nat.zero_add] at this⟩, fun O n d w F n1 n2 => ?_⟩, hl, hc, hs⟩, st⟩
  · intro y hy
    simp only [List.mem_cons, List.not_mem_nil, or_false] at hy
    rcases hy with rfl | rfl <;> rfl
  · by_cases q : y = x
    · subst q
      cases hD.symm.trans hy
      exact ⟨E', q1.1, q2.2.1, q2.1, hsz⟩
    · exact ⟨cy, q10 y cy q hy, rfl, rfl, rfl⟩
  · obtain ⟨D3, cf, k, i, f, g1, g2, g3, g4, g5, g6, g7⟩ := F
    cases hD.symm.trans g1
    simp only [RoadKit.slotOf, g2, gV, gC, Option.map_some, Option.getD_some] at n1 n2
    exact ⟨E', cf, k, i, f, q1.1, g2, g3, by rw [q2.1]; exact g4, by rw [q2.1]; exact g5, by rw [q2.2.1]; exact g6, by rw [q2.2.2 f.slot (by simp [n1, n2])]; exact g7⟩
end StrChars.Road
namespace StrChars.Road
open Jvm Sem ClassFile Op Lib Jvm.Stand Jvm.Free Jvm.Free.XT
/-- WHAT COMES BACK, the byte[] as a list of values -/
def QA (Z : State) (x : Addr) (zn : Int32) (cs : List Int32) (h : Heap) (v : Option Value) (h' : Heap) (L : List Loc) : Prop := v = none ∧ (∀ y ∈ L, y.base = x) ∧ RoadKit.Keep h h' [x] ∧ h'.size = h.size + 1 ∧ RoadKit.Exa Z h' x ST ∧ RoadKit.Fld Z h' x ST "value" "[B" (.ref h.size) ∧ RoadKit.Fld Z h' x ST "coder" "B" (.int 0) ∧
  (∃ kb, Z.vm.findClass "[B" = some kb ∧ RoadKit.Arv Z h' h.size kb .byte zn (cs.map fun c => .int (lo8 c)) (.int 0)) ∧
  ∀ (O n d : String) (w : Value), RoadKit.Fld Z h x O n d w → RoadKit.slotOf Z O n d ≠ RoadKit.slotOf Z ST "value" "[B" → RoadKit.slotOf Z O n d ≠ RoadKit.slotOf Z ST "coder" "B" → RoadKit.Fld Z h' x O n d w
/-- **new String(chars) AT A CALL, THE ARRAYS AS LISTS**: the char[] at b holds cs, not empty, no char above 255 -/
theorem backArv {p : Program} {l : Launch} {e : Env} {R : Room} {s : State} {args : Array Value} {below : List Frame} {len W : Nat} {Z : State} {a0 : Array Value} {h : Heap} (hZ : Z.Warmed39 s.vm) (hw : ∀ d ∈ words, d.before a0 Z = true) {kI : Nat} (wi : (Jvm.Cond.instantiable ST kI).before a0 Z = true)
    {x b : Addr} {k : ClassId} {zn z : Int32} {cs : List Int32} {dv v0 c0 : Value} (E : RoadKit.Exa Z h x ST) (V : RoadKit.Fld Z h x ST "value" "[B" v0) (C : RoadKit.Fld Z h x ST "coder" "B" c0) (K : RoadKit.Arv Z h b k .char zn (cs.map Value.int) dv) (S : RoadKit.Sta Z h ST "COMPACT_STRINGS" "Z" (.int z)) (hz : ¬ z = 0)
    (hlen : zn.toNatClampNeg = cs.length) (h0 : 0 < cs.length) (hbig : cs.length ≤ 536870912) (hall : ∀ c ∈ cs, ¬ 255 < c) (hfr : 4 ≤ R.frames) (hlo : W + 65 ≤ R.locals) :
    Back l R p e below s args New1.yN len W (fun P a => a = #[.ref x, .ref b] ∧ P.U.heap = h ∧ P.cells + 1 ≤ R.cells ∧ P.slots + cs.length ≤ R.slots)
      (fun P _ v B => ∃ L, QA Z x zn cs h v B.U.heap L ∧ B.locs = P.locs ++ L ∧ B.cells = P.cells + 1 ∧ B.slots = P.slots + cs.length) := by
  obtain ⟨A, K1, K2, K3, K4, K5, K6⟩ := K
  have e : A.slots.size = cs.length := K3.trans hlen
  have hat : ∀ (i : Nat) (hi : i < cs.length), A.slots[i]? = some (.int cs[i]) := fun i hi => by rw [K5 i (by omega)]; simp [List.getD_eq_getElem?_getD, hi]
  have hcv : ∀ (i : Nat) (hi : i < cs.length), cv A i = cs[i] := fun i hi => by unfold cv; rw [hat i hi]
  have hty : Typed .char A := fun i v hv => by
    have hi : i < A.slots.size := (Array.getElem?_eq_some_iff.mp hv).1
    have q := K5 i hi
    rw [hv] at q
    rw [Option.some.inj q]
    exact K6 i hi
  refine Back.mono (back hZ hw wi E V C K1 hty S hz (by omega) (by omega) (fun i hi => by rw [hcv i (by omega)]; exact hall _ (List.getElem_mem _)) hfr hlo) (fun P a hp => ⟨hp.1, hp.2.1, hp.2.2.1, by rw [e]; exact hp.2.2.2⟩) (fun P a v B hp hq => ?_)
  obtain ⟨L, ⟨q1, q2, q3, q4, q5, q6, q7, ⟨V', v1, v2, v3, v4, v5⟩, q9⟩, hl, hc, hs⟩ := hq
  refine ⟨L, ⟨q1, q2, q3, q4, q5, q6, q7, ⟨V'.cls, v3, V', v1, rfl, by rw [v4, e, hlen], K4, fun i hi => ?_, fun i hi => ?_⟩, q9⟩, hl, hc, by rw [hs, e]⟩
  · have hi' : i < cs.length := by omega
    rw [v5 i (by omega), hcv i hi']; simp [List.getD_eq_getElem?_getD, hi']
  · have hi' : i < cs.length := by omega
    simp only [List.getD_eq_getElem?_getD, List.getElem?_map, List.getElem?_eq_getElem hi', Option.map_some, Option.getD_some]
    exact fits_lo8 _
end StrChars.Road
namespace StrChars.Road
open Jvm Sem ClassFile Op Lib Jvm.Stand Jvm.Free Jvm.Free.XT
/-- WHAT COMES BACK, in the writer's own shape -/
def QV (Z : State) (x : Addr) (N : Int32) (bs : List Int32) (h : Heap) (n0 : Nat) (v : Option Value) (h' : Heap) (L : List Loc) : Prop := v = none ∧ RoadKit.Fr n0 L ∧ RoadKit.Keep h h' [x] ∧ RoadKit.Exa Z h' x ST ∧ RoadKit.Fld Z h' x ST "coder" "B" (.int 0) ∧
  ∃ (t : Addr) (kb : ClassId), n0 ≤ t ∧ h.size ≤ t ∧ ¬ t = x ∧ RoadKit.Fld Z h' x ST "value" "[B" (.ref t) ∧ RoadKit.Arv Z h' t kb .byte N (bs.map Value.int) (.int 0)
/-- **new String(chars) AT A CALL, FOR THE WRITER**: a char[] of n known ints, each 0 to 255 -/
theorem backV {p : Program} {l : Launch} {e : Env} {R : Room} {s : State} {args : Array Value} {below : List Frame} {len W : Nat} {Z : State} {a0 : Array Value} {h : Heap} (hZ : Z.Warmed39 s.vm) (hw : ∀ d ∈ words, d.before a0 Z = true) {kI : Nat} (wi : (Jvm.Cond.instantiable ST kI).before a0 Z = true)
    {x b : Addr} {kC : ClassId} {cs bs : List Int32} {d v0 c0 : Value} {z N : Int32} {n n0 : Nat} (hx0 : n0 ≤ x) (hh0 : n0 ≤ h.size) (E : RoadKit.Exa Z h x ST) (V : RoadKit.Fld Z h x ST "value" "[B" v0) (C : RoadKit.Fld Z h x ST "coder" "B" c0) (K : RoadKit.Arv Z h b kC .char N (cs.map Value.int) d) (S : RoadKit.Sta Z h ST "COMPACT_STRINGS" "Z" (.int z)) (hz : ¬ z = 0)
    (hn : cs.length = n) (hN : N = Int32.ofNat n) (l0 : 0 < n) (l2 : n ≤ 4000) (hp : ∀ c ∈ cs, ¬ c < 0 ∧ ¬ (255 : Int32) < c) (hb : bs = cs.map (fun c => c.toInt8.toInt32)) (hfr : 4 ≤ R.frames) (hlo : W + 65 ≤ R.locals) :
    Back l R p e below s args (⟨"java/lang/String", "<init>", "([C)V"⟩ : MethodName) len W (fun P a => a = #[.ref x, .ref b] ∧ P.U.heap = h ∧ P.cells + 1 ≤ R.cells ∧ P.slots + n ≤ R.slots)
      (fun P _ v B => ∃ L, QV Z x N bs h n0 v B.U.heap L ∧ B.locs = P.locs ++ L ∧ B.cells = P.cells + 1 ∧ B.slots = P.slots + n) := by
  subst hn hN hb
  refine Back.mono (backArv hZ hw wi E V C K S hz (n32 (by omega)) l0 (by omega) (fun c hc => (hp c hc).2) hfr hlo) (fun P a hp => hp) (fun P a v B hp hq => ?_)
  obtain ⟨L, ⟨q1, q2, q3, q4, q5, q6, q7, ⟨kb, v1, v2⟩, q9⟩, hl, hc, hs⟩ := hq
  exact ⟨L, ⟨q1, fun y hy => by rw [q2 y hy]; exact hx0, q3, q5, q7, h.size, kb, hh0, Nat.le_refl _, Nat.ne_of_gt E.lt, q6, by rw [List.map_map]; exact v2⟩, hl, hc, hs⟩
end StrChars.Road
namespace StrChars
open Jvm Sem ClassFile Op Lib Jvm.Stand Jvm.Free.XT Jvm.Free.ALB Jvm.Free.JM Jvm.Free
open Jvm.Lib.Cold (StaticIs)
def hi8 (x : Int32) : Int32 := lo8 (x >>> ((8 : Int32) &&& 31))
/-- what StringUTF16.getChar makes of two bytes -/
def pairCh (u v : Int32) : Int32 := (((u &&& 255) <<< ((0 : Int32) &&& 31)) ||| ((v &&& 255) <<< ((8 : Int32) &&& 31))).toUInt32.toUInt16.toUInt32.toInt32
theorem lo8_and (x : Int32) : (lo8 x &&& 255).toBitVec.toNat = x.toBitVec.toNat % 256 := by
  have h : (lo8 x).toBitVec = (x.toBitVec.signExtend 8).signExtend 32 := by rw [lo8, Int8.toBitVec_toInt32, Int32.toBitVec_toInt8]
  rw [Int32.toBitVec_and, BitVec.toNat_and, h]
  have e : ((x.toBitVec.signExtend 8).signExtend 32).toNat % 256 = x.toBitVec.toNat % 256 := by
    rw [BitVec.toNat_signExtend]
    have hlt := x.toBitVec.isLt
    simp only [BitVec.toNat_setWidth, BitVec.toNat_signExtend]
    split <;> split <;> omega
  rw [← e]
  exact Nat.and_two_pow_sub_one_eq_mod _ 8
theorem pair_says {c : Int32} (h0 : ¬ c < 0) (h1 : ¬ 65535 < c) : pairCh (lo8 c) (hi8 c) = c := by
  rw [Int32.lt_iff_toInt_lt] at h0 h1
  have e0 : (0 : Int32).toInt = 0 := rfl
  have e1 : (65535 : Int32).toInt = 65535 := rfl
  have hc : c.toInt = c.toBitVec.toNat := by
    have := c.toBitVec.isLt
    have e : c.toInt = c.toBitVec.toInt := rfl
    rw [e] at h0 h1
    rw [e]
    rw [BitVec.toInt_eq_toNat_cond] at h0 h1 ⊢
    split at h0 <;> split <;> omega
  have hn : c.toBitVec.toNat < 65536 := by omega
  have a1 := lo8_and c
  have a2 : (hi8 c &&& 255).toBitVec.toNat = c.toBitVec.toNat / 256 := by
    rw [hi8, lo8_and]
    have e : ((8 : Int32) &&& 31) = 8 := by decide
    rw [e, Int32.toBitVec_shiftRight]
    have e2 : ((8 : Int32).toBitVec.smod 32) = 8#32 := by decide
    rw [e2, BitVec.sshiftRight_eq', BitVec.toNat_sshiftRight_of_msb_false (by rw [BitVec.msb_eq_false_iff_two_mul_lt]; omega)]
    show c.toBitVec.toNat >>> 8 % 256 = _
    rw [Nat.shiftRight_eq_div_pow]
    omega
  unfold pairCh
  apply Int32.toBitVec_inj.mp
  apply BitVec.eq_of_toNat_eq
  have f0 : ((0 : Int32) &&& 31) = 0 := by decide
  have f8 : ((8 : Int32) &&& 31) = 8 := by decide
  rw [f0, f8]
  have g : (((lo8 c &&& 255) <<< (0 : Int32)) ||| ((hi8 c &&& 255) <<< (8 : Int32))).toBitVec.toNat = c.toBitVec.toNat := by
    rw [Int32.toBitVec_or, Int32.toBitVec_shiftLeft, Int32.toBitVec_shiftLeft]
    have s0 : ((0 : Int32).toBitVec.smod 32) = 0#32 := by decide
    have s8 : ((8 : Int32).toBitVec.smod 32) = 8#32 := by decide
    rw [s0, s8, BitVec.toNat_or]
    simp only [BitVec.shiftLeft_eq', BitVec.toNat_shiftLeft, a1, a2]
    show (c.toBitVec.toNat % 256) <<< 0 % 2 ^ 32 ||| (c.toBitVec.toNat / 256) <<< 8 % 2 ^ 32 = _
    rw [Nat.shiftLeft_zero, Nat.mod_eq_of_lt (show c.toBitVec.toNat % 256 < 2 ^ 32 by omega), Nat.mod_eq_of_lt (show (c.toBitVec.toNat / 256) <<< 8 < 2 ^ 32 by rw [Nat.shiftLeft_eq]; omega), Nat.or_comm, ← Nat.shiftLeft_add_eq_or_of_lt (by omega), Nat.shiftLeft_eq]
    omega
  show BitVec.toNat (((((lo8 c &&& 255) <<< (0 : Int32)) ||| ((hi8 c &&& 255) <<< (8 : Int32))).toBitVec.setWidth 16).setWidth 32) = _
  rw [BitVec.toNat_setWidth, BitVec.toNat_setWidth, g]
  omega
end StrChars
namespace StrChars
open Jvm Sem ClassFile Op Lib Jvm.Stand Jvm.Free.XT Jvm.Free.ALB Jvm.Free.JM Jvm.Free
open Jvm.Lib.Cold (StaticIs)
/-- the array's cell V codes the n chars f 0 .. f (n - 1) by the coder cd, as the JDK does: coder 1 just where some char is above 255 -/
def Cod (cd : Int32) (n : Nat) (f : Nat → Int32) (V : Cell) : Prop := (cd = 0 ∧ V.slots.size = n ∧ ∀ j, j < n → V.slots[j]? = some (.int (lo8 (f j))) ∧ ¬ 255 < f j) ∨ (cd = 1 ∧ V.slots.size = 2 * n ∧ (∀ j, j < n → V.slots[2 * j]? = some (.int (lo8 (f j))) ∧ V.slots[2 * j + 1]? = some (.int (hi8 (f j)))) ∧ ∃ j, j < n ∧ 255 < f j)
/-- **x is a String of the n chars f 0 .. f (n - 1)**, Latin-1 or UTF-16; its array at t has the cell V -/
def Txt (x t : Addr) (V : Cell) (cd : Int32) (n : Nat) (f : Nat → Int32) (U : State) : Prop := Exact "java/lang/String" x U ∧ Has x "java/lang/String" "value" "[B" (.ref t) U ∧ Has x "java/lang/String" "coder" "B" (.int cd) U ∧ XT.Arr .byte t V U ∧ Cod cd n f V ∧ ∀ j, j < n → ¬ f j < 0 ∧ ¬ 65535 < f j
theorem Txt.mv {x t : Addr} {V : Cell} {cd : Int32} {n : Nat} {f : Nat → Int32} {U U' : State} (h : Txt x t V cd n f U) (hal : U.vm.Alike U'.vm) (hh : U'.heap = U.heap) : Txt x t V cd n f U' := ⟨h.1.mv hal hh, h.2.1.mv hal hh, h.2.2.1.mv hal hh, h.2.2.2.1.mv hal hh, h.2.2.2.2⟩
end StrChars
namespace StrChars.Road
open Jvm Sem ClassFile Op Lib Jvm.Stand Jvm.Free Jvm.Free.XT
open Jvm.Lib.Cold (StaticIs)
theorem consq {a : Array Value} {s : State} {c : Jvm.Cond} {L : List Jvm.Cond} (h0 : c.before a s = true) (h : ∀ w ∈ L, w.before a s = true) : ∀ w ∈ c :: L, w.before a s = true := fun w hw => (List.mem_cons.mp hw).elim (fun e => e ▸ h0) (h w)
/-- the bytes of the chars cs, low before high -/
def wideBytes : List Int32 → List Value
  | [] => []
  | c :: cs => .int (lo8 c) :: .int (hi8 c) :: wideBytes cs
theorem wide_lo (d : Value) : ∀ (cs : List Int32) (j : Nat), j < cs.length → (wideBytes cs).getD (2 * j) d = .int (lo8 (cs.getD j 0))
  | [], j, h => absurd h (Nat.not_lt_zero j)
  | c :: cs, 0, _ => rfl
  | c :: cs, j + 1, h => by
    have q := wide_lo d cs j (by simpa using h)
    rw [show 2 * (j + 1) = 2 * j + 1 + 1 from by omega]
    simpa [wideBytes] using q
theorem wide_hi (d : Value) : ∀ (cs : List Int32) (j : Nat), j < cs.length → (wideBytes cs).getD (2 * j + 1) d = .int (hi8 (cs.getD j 0))
  | [], j, h => absurd h (Nat.not_lt_zero j)
  | c :: cs, 0, _ => rfl
  | c :: cs, j + 1, h => by
    have q := wide_hi d cs j (by simpa using h)
    rw [show 2 * (j + 1) + 1 = 2 * j + 1 + 1 + 1 from by omega]
    simpa [wideBytes] using q
theorem low_at (d : Value) (cs : List Int32) (j : Nat) (h : j < cs.length) : (cs.map fun c => Value.int (lo8 c)).getD j d = .int (lo8 (cs.getD j 0)) := by
  simp [List.getD_eq_getElem?_getD, h]
/-- an array of N2 bytes vs codes the chars cs by the coder cd -/
def CodA (cs : List Int32) (cd N2 : Int32) (vs : List Value) : Prop := (cd = 0 ∧ N2 = Int32.ofNat cs.length ∧ vs = (cs.map fun c => Value.int (lo8 c)) ∧ ∀ c ∈ cs, ¬ 255 < c) ∨ (cd = 1 ∧ N2 = Int32.ofNat (2 * cs.length) ∧ vs = wideBytes cs ∧ ∃ c ∈ cs, 255 < c)
theorem CodA.cod {cs : List Int32} {cd N2 : Int32} {vs : List Value} {V : Cell} (h : CodA cs cd N2 vs) (hn : 2 * cs.length < 2 ^ 31) (hs : V.slots.size = N2.toNatClampNeg) (hv : RoadKit.Has V vs (.int 0)) : Cod cd cs.length (fun j => cs.getD j 0) V := by
  rcases h with ⟨rfl, rfl, rfl, h⟩ | ⟨rfl, rfl, rfl, c, hc, hw⟩
  · rw [n32 (by omega)] at hs
    exact Or.inl ⟨rfl, hs, fun j hj => ⟨by rw [hv j (by omega), low_at _ _ _ hj], by
      have e : cs.getD j 0 = cs[j] := by simp [List.getD_eq_getElem?_getD, hj]
      show ¬ 255 < cs.getD j 0
      rw [e]; exact h _ (List.getElem_mem _)⟩⟩
  · rw [n32 (by omega)] at hs
    obtain ⟨j, hj, rfl⟩ := List.getElem_of_mem hc
    exact Or.inr ⟨rfl, hs, fun j hj => ⟨by rw [hv _ (by omega), wide_lo _ _ _ hj], by rw [hv _ (by omega), wide_hi _ _ _ hj]⟩, j, hj, by
      have e : cs.getD j 0 = cs[j] := by simp [List.getD_eq_getElem?_getD, hj]
      show 255 < cs.getD j 0
      rw [e]; exact hw⟩
/-- an object of exactly java/lang/String, its two fields found: as the laws ask it -/
theorem strObj {Z U : State} {a0 : Array Value} {kI : Nat} (wi : (Jvm.Cond.instantiable ST kI).before a0 Z = true) (al : Z.vm.Alike U.vm) {x : Addr} {v0 c0 : Value} (E : RoadKit.Exa Z U.heap x ST) (V : RoadKit.Fld Z U.heap x ST "value" "[B" v0) (C : RoadKit.Fld Z U.heap x ST "coder" "B" c0) :
    ∃ (D : Cell) (fV fC : Field), Blank ST x D U ∧ Found ST "value" "[B" fV U ∧ Found ST "coder" "B" fC U ∧ D.slots[fV.slot]? = some v0 ∧ D.slots[fC.slot]? = some c0 ∧ RoadKit.slotOf Z ST "value" "[B" = fV.slot ∧ RoadKit.slotOf Z ST "coder" "B" = fC.slot := by
  obtain ⟨D, cfV, kV, iV, fV, hD, gV, stV, knV, obV, asV, slV⟩ := V
  obtain ⟨D', cfC, kC, iC, fC, hD', gC, stC, -, -, asC, slC⟩ := C
  cases hD.symm.trans hD'
  obtain ⟨D2, kD, e1, e2, e3, e4, e5⟩ := E
  cases hD.symm.trans e1
  obtain ⟨c2, k2, i1, i2, i3, -⟩ := Cond.instantiable_spec wi
  cases e2.symm.trans i1
  cases e3.symm.trans i2
  obtain ⟨kU, u1, u2⟩ := al.2.2 _ _ e3
  exact ⟨D, fV, fC, ⟨hD, ⟨knV, fun q hq => by rw [hq] at obV; cases obV⟩, by rw [al.findClass]; exact e2, kU, u1, by rw [u2]; exact i3, by rw [u2]; exact e5 i3⟩, ⟨SBG.found_only al ⟨cfV, kV, iV, gV⟩, stV⟩, ⟨SBG.found_only al ⟨cfC, kC, iC, gC⟩, stC⟩, slV, slC, by simp [RoadKit.slotOf, gV], by simp [RoadKit.slotOf, gC]⟩
theorem sta_is {Z U : State} (al : Z.vm.Alike U.vm) {C n d : String} {v : Value} (S : RoadKit.Sta Z U.heap C n d v) : StaticIs U C n d v := by
  obtain ⟨cfS, iS, kS, fS, st, cS, t1, t2, t3, t4, t5, t6, t7⟩ := S
  exact StaticIs.there (s := { Z with heap := U.heap }) ⟨cfS, iS, kS, fS, st, cS, t1, t2, t3, t4, t5, (fun q => by rw [q] at t6; cases t6), t7⟩ al rfl
end StrChars.Road
namespace StrChars
open Jvm Sem ClassFile Op Lib Jvm.Stand Jvm.Free.XT Jvm.Free.ALB Jvm.Free.JM Jvm.Free
open Jvm.Lib.Cold (StaticIs)
/-- what place i of a byte[]'s cell holds -/
def yv (A : Cell) (i : Nat) : Int32 := match A.slots[i]? with | some (.int x) => x | _ => 0
theorem yv_get {a : Addr} {A : Cell} {U : State} (h : XT.Arr .byte a A U) (ht : Typed .byte A) {i : Nat} (hi : i < A.slots.size) : A.slots[i]? = some (.int (yv A i)) := by
  have e := Array.getElem?_eq_getElem hi
  have f := ht i _ e
  unfold yv; rw [e]
  generalize A.slots[i] = v at f
  cases v <;> simp [fits] at f ⊢
/-- the two arrays are equal, place for place -/
def EqC (A B : Cell) : Prop := A.slots.size = B.slots.size ∧ ∀ i, i < A.slots.size → yv A i = yv B i
/-- a boolean that says whether p -/
def Says01 (q : Prop) (r : Option Value) (s u : State) : Prop := ∃ v : Int32, r = some (.int v) ∧ u.heap = s.heap ∧ ((v = 1 ∧ q) ∨ (v = 0 ∧ ¬ q))
theorem Says01.mv {q : Prop} : ∀ r (U U' V V' : State), U'.heap = U.heap → V.vm.Alike V'.vm → V'.heap = V.heap → Says01 q r U V → Says01 q r U' V' :=
  fun r U U' V V' h1 _ h2 ⟨v, a, b, c⟩ => ⟨v, a, by rw [h1, h2]; exact b, c⟩
namespace LEq
def yN : MethodName := ⟨"java/lang/StringLatin1", "equals", "([B[B)Z"⟩
abbrev yB : ByteArray := jdk_43_method_13_code
theorem d0 : decode yB 0 = .ok (.aload_n 0, 1) := by decide +kernel
theorem d1 : decode yB 1 = .ok (.arraylength, 1) := by decide +kernel
theorem d2 : decode yB 2 = .ok (.aload_n 1, 1) := by decide +kernel
theorem d3 : decode yB 3 = .ok (.arraylength, 1) := by decide +kernel
theorem d4 : decode yB 4 = .ok (.if_icmp (.ne) 30, 3) := by decide +kernel
theorem d7 : decode yB 7 = .ok (.iconst 0, 1) := by decide +kernel
theorem d8 : decode yB 8 = .ok (.istore_n 2, 1) := by decide +kernel
theorem d9 : decode yB 9 = .ok (.iload_n 2, 1) := by decide +kernel
theorem d10 : decode yB 10 = .ok (.aload_n 0, 1) := by decide +kernel
theorem d11 : decode yB 11 = .ok (.arraylength, 1) := by decide +kernel
theorem d12 : decode yB 12 = .ok (.if_icmp (.ge) 20, 3) := by decide +kernel
theorem d15 : decode yB 15 = .ok (.aload_n 0, 1) := by decide +kernel
theorem d16 : decode yB 16 = .ok (.iload_n 2, 1) := by decide +kernel
theorem d17 : decode yB 17 = .ok (.baload, 1) := by decide +kernel
theorem d18 : decode yB 18 = .ok (.aload_n 1, 1) := by decide +kernel
theorem d19 : decode yB 19 = .ok (.iload_n 2, 1) := by decide +kernel
theorem d20 : decode yB 20 = .ok (.baload, 1) := by decide +kernel
theorem d21 : decode yB 21 = .ok (.if_icmp (.eq) 5, 3) := by decide +kernel
theorem d24 : decode yB 24 = .ok (.iconst 0, 1) := by decide +kernel
theorem d25 : decode yB 25 = .ok (.ireturn, 1) := by decide +kernel
theorem d26 : decode yB 26 = .ok (.iinc 2 1, 3) := by decide +kernel
theorem d29 : decode yB 29 = .ok (.goto (-20), 3) := by decide +kernel
theorem d32 : decode yB 32 = .ok (.iconst 1, 1) := by decide +kernel
theorem d33 : decode yB 33 = .ok (.ireturn, 1) := by decide +kernel
theorem d34 : decode yB 34 = .ok (.iconst 0, 1) := by decide +kernel
theorem d35 : decode yB 35 = .ok (.ireturn, 1) := by decide +kernel
def site : List Cond := []
def tab : Cond := tabOf yN yB 3 (some .boolean) site
def P (a : Addr) (A : Cell) (b : Addr) (B : Cell) (args : Array Value) (s : State) : Prop := args = #[.ref a, .ref b] ∧ XT.Arr .byte a A s ∧ Typed .byte A ∧ XT.Arr .byte b B s ∧ Typed .byte B
/-- whether two byte[] are equal, place for place -/
theorem law (l : Launch) (a : Addr) (A : Cell) (b : Addr) (B : Cell) : Law l yN 2 2 0 0 yB 3 (some .boolean) site (P a A b B) (Says01 (EqC A B)) [] 0 0 := by
  refine Law.of_walk (plainFor_of_name (by decide +kernel)) (by decide +kernel) (by decide +kernel) (by decide) (fun _ _ h => by rw [h.1]; rfl) (fun _ U U' hal hh h => ⟨h.1, h.2.1.mv hal hh, h.2.2.1, h.2.2.2.1.mv hal hh, h.2.2.2.2⟩) (fun r U U' V V' h1 hal h2 h => Says01.mv r U U' V V' h1 hal h2 h) ?_
  intro p e s m args below meth c s₁ X0 hexec hbytes hml hret hlk hnm hown hh0 W hP
  obtain ⟨rfl, hA, tA, hB, tB⟩ := hP
  have a31 := hA.2.2.2
  have b31 := hB.2.2.2
  have hA0 := hA.mv X0.warmed.alike hh0
  have hB0 := hB.mv X0.warmed.alike hh0
  have c1 : Steps p.tables e below (s₁.setTop (entryFrame m #[.ref a, .ref b] 3)) (s₁.setTop (mkF m 0 #[.val (.ref a), .val (.ref b), .unset] [])) := entry rfl
  have c2 : Steps p.tables e below (s₁.setTop (entryFrame m #[.ref a, .ref b] 3)) (s₁.setTop (mkF m 4 #[.val (.ref a), .val (.ref b), .unset] [.int (Int32.ofNat B.slots.size), .int (Int32.ofNat A.slots.size)])) := c1.trans (by
    refine XS.aloadN X0.here hexec rfl (hb hbytes d0) rfl rfl ?_
    refine X0.alen hexec hA0 rfl rfl (hb hbytes d1) ?_
    refine XS.aloadN X0.here hexec rfl (hb hbytes d2) rfl rfl ?_
    refine X0.alen hexec hB0 rfl rfl (hb hbytes d3) ?_
    exact Steps.refl _)
  by_cases hs : A.slots.size = B.slots.size
  · have c3 : Steps p.tables e below (s₁.setTop (entryFrame m #[.ref a, .ref b] 3)) (s₁.setTop (mkF m 9 #[.val (.ref a), .val (.ref b), .val (.int 0)] [])) := c2.trans (by
      refine XS.icmpNo X0.here hexec rfl (hb hbytes d4) rfl (ii_ne_f (by rw [hs])) ?_
      refine iconstV X0.here hexec rfl 0 (hb hbytes d7) (by decide) ?_
      refine XS.istoreN X0.here hexec rfl (hb hbytes d8) rfl rfl ?_
      exact Steps.refl _)
    have loop : ∀ (r i : Nat), i + r = A.slots.size → (∀ j, j < i → yv A j = yv B j) → Steps p.tables e below (s₁.setTop (entryFrame m #[.ref a, .ref b] 3)) (s₁.setTop (mkF m 9 #[.val (.ref a), .val (.ref b), .val (.int (Int32.ofNat i))] [])) → ∃ (pc : Nat) (Ls : Array Slot) (v : Int32), (pc = 25 ∨ pc = 33) ∧ ((v = 1 ∧ EqC A B) ∨ (v = 0 ∧ ¬ EqC A B)) ∧ Steps p.tables e below (s₁.setTop (entryFrame m #[.ref a, .ref b] 3)) (s₁.setTop (mkF m pc Ls [.int v])) := by
      intro r
      induction r with
      | zero =>
        intro i hi he cl
        exact ⟨33, _, 1, Or.inr rfl, Or.inl ⟨rfl, hs, fun j hj => he j (by omega)⟩, cl.trans (by
          refine XS.iloadN X0.here hexec rfl (hb hbytes d9) rfl ?_
          refine XS.aloadN X0.here hexec rfl (hb hbytes d10) rfl rfl ?_
          refine X0.alen hexec hA0 rfl rfl (hb hbytes d11) ?_
          refine XS.icmpYes X0.here hexec rfl (pc0 := 12) rfl (hb hbytes d12) rfl (ii_ge_t (nlt32 (by omega) (by omega))) (by decide) rfl ?_
          refine iconstV X0.here hexec rfl 1 (hb hbytes d32) (by decide) ?_
          exact Steps.refl _)⟩
      | succ r ih =>
        intro i hi he cl
        have c4 : Steps p.tables e below (s₁.setTop (entryFrame m #[.ref a, .ref b] 3)) (s₁.setTop (mkF m 21 #[.val (.ref a), .val (.ref b), .val (.int (Int32.ofNat i))] [.int (yv B i), .int (yv A i)])) := cl.trans (by
          refine XS.iloadN X0.here hexec rfl (hb hbytes d9) rfl ?_
          refine XS.aloadN X0.here hexec rfl (hb hbytes d10) rfl rfl ?_
          refine X0.alen hexec hA0 rfl rfl (hb hbytes d11) ?_
          refine XS.icmpNo X0.here hexec rfl (hb hbytes d12) rfl (ii_ge_f (lt32 (by omega) (by omega))) ?_
          refine XS.aloadN X0.here hexec rfl (hb hbytes d15) rfl rfl ?_
          refine XS.iloadN X0.here hexec rfl (hb hbytes d16) rfl ?_
          refine X0.aget hexec hA0 rfl (yv_get hA tA (i := i) (by omega)) rfl rfl (hb hbytes d17) ?_
          refine XS.aloadN X0.here hexec rfl (hb hbytes d18) rfl rfl ?_
          refine XS.iloadN X0.here hexec rfl (hb hbytes d19) rfl ?_
          refine X0.aget hexec hB0 rfl (yv_get hB tB (i := i) (by omega)) rfl rfl (hb hbytes d20) ?_
          exact Steps.refl _)
        by_cases hv : yv A i = yv B i
        · have c5 : Steps p.tables e below (s₁.setTop (entryFrame m #[.ref a, .ref b] 3)) (s₁.setTop (mkF m 9 #[.val (.ref a), .val (.ref b), .val (.int (Int32.ofNat i + 1))] [])) := c4.trans (by
            refine XS.icmpYes X0.here hexec rfl (pc0 := 21) rfl (hb hbytes d21) rfl (ii_eq_t hv) (by decide) rfl ?_
            refine iincV X0.here hexec rfl 1 (hb hbytes d26) (by decide) rfl rfl ?_
            refine XS.goto X0.here hexec rfl (pc0 := 29) rfl (hb hbytes d29) (by decide) rfl ?_
            exact Steps.refl _)
          rw [succ32] at c5
          exact ih (i + 1) (by omega) (fun j hj => by
            by_cases e : j = i
            · rw [e]; exact hv
            · exact he j (by omega)) c5
        · exact ⟨25, _, 0, Or.inl rfl, Or.inr ⟨rfl, fun q => hv (q.2 i (by omega))⟩, c4.trans (by
            refine XS.icmpNo X0.here hexec rfl (hb hbytes d21) rfl (ii_eq_f hv) ?_
            refine iconstV X0.here hexec rfl 0 (hb hbytes d24) (by decide) ?_
            exact Steps.refl _)⟩
    obtain ⟨pc, Ls, v, hpc, hv, cz⟩ := loop A.slots.size 0 (by omega) (fun j hj => absurd hj (Nat.not_lt_zero j)) c3
    have nv : narrow .boolean (.int v) = .int v := by rcases hv with ⟨rfl, -⟩ | ⟨rfl, -⟩ <;> rfl
    rcases hpc with rfl | rfl
    · exact ⟨s₁, some (.int v), _, _, _, X0, rfl, rfl, rfl, (fun h => by cases h), ⟨v, rfl, hh0, hv⟩, fun fs hl => cz.trans (X0.ireturnOut hexec hret nv (Or.inr (Or.inl rfl)) (hb hbytes d25) hl)⟩
    · exact ⟨s₁, some (.int v), _, _, _, X0, rfl, rfl, rfl, (fun h => by cases h), ⟨v, rfl, hh0, hv⟩, fun fs hl => cz.trans (X0.ireturnOut hexec hret nv (Or.inr (Or.inl rfl)) (hb hbytes d33) hl)⟩
  · have c3 : Steps p.tables e below (s₁.setTop (entryFrame m #[.ref a, .ref b] 3)) (s₁.setTop (mkF m 35 #[.val (.ref a), .val (.ref b), .unset] [.int 0])) := c2.trans (by
      refine XS.icmpYes X0.here hexec rfl (pc0 := 4) rfl (hb hbytes d4) rfl (ii_ne_t (ne32 a31 b31 hs)) (by decide) rfl ?_
      refine iconstV X0.here hexec rfl 0 (hb hbytes d34) (by decide) ?_
      exact Steps.refl _)
    exact ⟨s₁, some (.int 0), _, _, _, X0, rfl, rfl, rfl, (fun h => by cases h), ⟨0, rfl, hh0, Or.inr ⟨rfl, fun q => hs q.1⟩⟩, fun fs hl => c3.trans (X0.ireturnOut hexec hret rfl (Or.inr (Or.inl rfl)) (hb hbytes d35) hl)⟩
end LEq
theorem Cod.ty {cd : Int32} {n : Nat} {f : Nat → Int32} {V : Cell} (h : Cod cd n f V) : Typed .byte V := fun i v hv => by
  have hi : i < V.slots.size := (Array.getElem?_eq_some_iff.mp hv).1
  rcases h with ⟨-, k1, k2⟩ | ⟨-, k1, k2, -⟩
  · rw [(k2 i (by omega)).1] at hv; cases hv; exact fits_lo8 _
  · rcases Nat.mod_two_eq_zero_or_one i with e | e
    · obtain ⟨j, rfl⟩ : ∃ j, i = 2 * j := ⟨i / 2, by omega⟩
      rw [(k2 j (by omega)).1] at hv; cases hv; exact fits_lo8 _
    · obtain ⟨j, rfl⟩ : ∃ j, i = 2 * j + 1 := ⟨i / 2, by omega⟩
      rw [(k2 j (by omega)).2] at hv; cases hv; exact fits_lo8 _
/-- the same text -/
def SameT (n : Nat) (f : Nat → Int32) (k : Nat) (g : Nat → Int32) : Prop := n = k ∧ ∀ j, j < n → f j = g j
theorem lo8_inj {x y : Int32} (h0 : ¬ x < 0) (h1 : ¬ 255 < x) (k0 : ¬ y < 0) (k1 : ¬ 255 < y) (h : lo8 x = lo8 y) : x = y := by
  rw [← lo8_mask h0 h1, ← lo8_mask k0 k1, h]
/-- arrays coded by one coder are equal just where the texts are -/
theorem Cod.eqv {cd : Int32} {n k : Nat} {f g : Nat → Int32} {V V' : Cell} (h : Cod cd n f V) (h' : Cod cd k g V') (hf : ∀ j, j < n → ¬ f j < 0 ∧ ¬ 65535 < f j) (hg : ∀ j, j < k → ¬ g j < 0 ∧ ¬ 65535 < g j) : EqC V V' ↔ SameT n f k g := by
  have yvv : ∀ {W : Cell} {i : Nat} {x : Int32}, W.slots[i]? = some (.int x) → yv W i = x := fun q => by unfold yv; rw [q]
  rcases h with ⟨rfl, k1, k2⟩ | ⟨rfl, k1, k2, -⟩
  · rcases h' with ⟨-, m1, m2⟩ | ⟨e, -⟩
    · constructor
      · rintro ⟨e1, e2⟩
        refine ⟨by omega, fun j hj => ?_⟩
        have q := e2 j (by omega)
        rw [yvv (k2 j hj).1, yvv (m2 j (by omega)).1] at q
        exact lo8_inj (hf j hj).1 (k2 j hj).2 (hg j (by omega)).1 (m2 j (by omega)).2 q
      · rintro ⟨rfl, e2⟩
        refine ⟨by omega, fun j hj => ?_⟩
        rw [yvv (k2 j (by omega)).1, yvv (m2 j (by omega)).1, e2 j (by omega)]
    · exact absurd e (by decide)
  · rcases h' with ⟨e, -⟩ | ⟨-, m1, m2, -⟩
    · exact absurd e (by decide)
    · constructor
      · rintro ⟨e1, e2⟩
        refine ⟨by omega, fun j hj => ?_⟩
        have q1 := e2 (2 * j) (by omega)
        have q2 := e2 (2 * j + 1) (by omega)
        rw [yvv (k2 j hj).1, yvv (m2 j (by omega)).1] at q1
        rw [yvv (k2 j hj).2, yvv (m2 j (by omega)).2] at q2
        rw [← pair_says (hf j hj).1 (hf j hj).2, ← pair_says (hg j (by omega)).1 (hg j (by omega)).2, q1, q2]
      · rintro ⟨rfl, e2⟩
        refine ⟨by omega, fun i hi => ?_⟩
        rcases Nat.mod_two_eq_zero_or_one i with e | e
        · obtain ⟨j, rfl⟩ : ∃ j, i = 2 * j := ⟨i / 2, by omega⟩
          rw [yvv (k2 j (by omega)).1, yvv (m2 j (by omega)).1, e2 j (by omega)]
        · obtain ⟨j, rfl⟩ : ∃ j, i = 2 * j + 1 := ⟨i / 2, by omega⟩
          rw [yvv (k2 j (by omega)).2, yvv (m2 j (by omega)).2, e2 j (by omega)]
/-- two codings differ: so do the texts -/
theorem Cod.dif {cd cd' : Int32} {n k : Nat} {f g : Nat → Int32} {V V' : Cell} (h : Cod cd n f V) (h' : Cod cd' k g V') (hne : ¬ cd = cd') : ¬ SameT n f k g := by
  rintro ⟨rfl, e⟩
  rcases h with ⟨rfl, -, k2⟩ | ⟨rfl, -, -, j, hj, hw⟩
  · rcases h' with ⟨rfl, -⟩ | ⟨-, -, -, j, hj, hw⟩
    · exact hne rfl
    · exact (k2 j hj).2 (by rw [e j hj]; exact hw)
  · rcases h' with ⟨-, -, m2⟩ | ⟨rfl, -⟩
    · exact (m2 j hj).2 (by rw [← e j hj]; exact hw)
    · exact hne rfl
/-- an object of exactly C is an instance of C -/
theorem cinst {p : Program} {l : Launch} {e : Env} {R : Room} {s : State} {m : MethodId} {args : Array Value} {below : List Frame} {meth : Method} {c : Code} {T : State} {locs : List Loc} {cells slots : Nat} (X : Stand p l e R s m args below meth c T locs cells slots) (hexec : p.tables.exec = Jvm.exec) {own C : String} {index : Nat} (hown : s.vm.findClass own = some m.cls) (hlink : (Cond.classLink own index C).before args s = true) {a : Addr} (hE : Exact C a T)
    {g : JFrame} (hg : g.method = m) {rest : List Value} (hstack : g.stack = .ref a :: rest) (hdg : decode c.code g.pc = .ok (.instanceof index, 3)) :
    ∃ T', Stand p l e R s m args below meth c T' locs cells slots ∧ T'.heap = T.heap ∧ ∀ target, Steps p.tables e below (T'.setTop { g with pc := g.pc + 3, stack := .int 1 :: rest }) target → Steps p.tables e below (T.setTop g) target := by
  obtain ⟨cB, h1, D, h2, h3, h4⟩ := hE
  have h1' : s.vm.findClass C = some cB := by rw [← X.warmed.alike.findClass]; exact h1
  obtain ⟨vm', X', st⟩ := X.instanceofYes hexec hown hlink h2 h4 h1' (by rw [h3]; exact Jvm.Free.SB.assignable_self _ _) hg hstack hdg
  exact ⟨_, X', rfl, st⟩
theorem cself {p : Program} {l : Launch} {e : Env} {R : Room} {s : State} {m : MethodId} {args : Array Value} {below : List Frame} {meth : Method} {c : Code} {T : State} {locs : List Loc} {cells slots : Nat} (X : Stand p l e R s m args below meth c T locs cells slots) (hexec : p.tables.exec = Jvm.exec) {own C : String} {index : Nat} (hown : s.vm.findClass own = some m.cls) (hlink : (Cond.classLink own index C).before args s = true) {a : Addr} (hE : Exact C a T)
    {g : JFrame} (hg : g.method = m) {rest : List Value} (hstack : g.stack = .ref a :: rest) (hdg : decode c.code g.pc = .ok (.checkcast index, 3)) :
    ∃ T', Stand p l e R s m args below meth c T' locs cells slots ∧ T'.heap = T.heap ∧ ∀ target, Steps p.tables e below (T'.setTop { g with pc := g.pc + 3, stack := .ref a :: rest }) target → Steps p.tables e below (T.setTop g) target := by
  obtain ⟨cB, h1, D, h2, h3, h4⟩ := hE
  have h1' : s.vm.findClass C = some cB := by rw [← X.warmed.alike.findClass]; exact h1
  obtain ⟨vm', X', st⟩ := X.checkcastYes hexec hown hlink h2 h4 h1' (by rw [h3]; exact Jvm.Free.SB.assignable_self _ _) hg hstack hdg
  exact ⟨_, X', rfl, fun t h => st t (by rw [← hstack] at h; exact h)⟩
namespace SEq
def yN : MethodName := ⟨"java/lang/String", "equals", "(Ljava/lang/Object;)Z"⟩
abbrev yB : ByteArray := jdk_42_method_66_code
theorem d0 : decode yB 0 = .ok (.aload_n 0, 1) := by decide +kernel
theorem d1 : decode yB 1 = .ok (.aload_n 1, 1) := by decide +kernel
theorem d2 : decode yB 2 = .ok (.if_acmp (.ne) 5, 3) := by decide +kernel
theorem d5 : decode yB 5 = .ok (.iconst 1, 1) := by decide +kernel
theorem d6 : decode yB 6 = .ok (.ireturn, 1) := by decide +kernel
theorem d7 : decode yB 7 = .ok (.aload_n 1, 1) := by decide +kernel
theorem d8 : decode yB 8 = .ok (.instanceof 10, 3) := by decide +kernel
theorem d11 : decode yB 11 = .ok (.ifCond (.eq) 43, 3) := by decide +kernel
theorem d14 : decode yB 14 = .ok (.aload_n 1, 1) := by decide +kernel
theorem d15 : decode yB 15 = .ok (.checkcast 10, 3) := by decide +kernel
theorem d18 : decode yB 18 = .ok (.astore_n 2, 1) := by decide +kernel
theorem d19 : decode yB 19 = .ok (.getstatic 38, 3) := by decide +kernel
theorem d22 : decode yB 22 = .ok (.ifCond (.eq) 14, 3) := by decide +kernel
theorem d25 : decode yB 25 = .ok (.aload_n 0, 1) := by decide +kernel
theorem d26 : decode yB 26 = .ok (.getfield 15, 3) := by decide +kernel
theorem d29 : decode yB 29 = .ok (.aload_n 2, 1) := by decide +kernel
theorem d30 : decode yB 30 = .ok (.getfield 15, 3) := by decide +kernel
theorem d33 : decode yB 33 = .ok (.if_icmp (.ne) 21, 3) := by decide +kernel
theorem d36 : decode yB 36 = .ok (.aload_n 0, 1) := by decide +kernel
theorem d37 : decode yB 37 = .ok (.getfield 9, 3) := by decide +kernel
theorem d40 : decode yB 40 = .ok (.aload_n 2, 1) := by decide +kernel
theorem d41 : decode yB 41 = .ok (.getfield 9, 3) := by decide +kernel
theorem d44 : decode yB 44 = .ok (.invokestatic 541, 3) := by decide +kernel
theorem d47 : decode yB 47 = .ok (.ifCond (.eq) 7, 3) := by decide +kernel
theorem d50 : decode yB 50 = .ok (.iconst 1, 1) := by decide +kernel
theorem d51 : decode yB 51 = .ok (.goto 4, 3) := by decide +kernel
theorem d54 : decode yB 54 = .ok (.iconst 0, 1) := by decide +kernel
theorem d55 : decode yB 55 = .ok (.ireturn, 1) := by decide +kernel
def site : List Cond := [.classLink "java/lang/String" 10 "java/lang/String", .fieldLink "java/lang/String" 38 "java/lang/String" "COMPACT_STRINGS" "Z", .fieldLink "java/lang/String" 15 "java/lang/String" "coder" "B", .fieldLink "java/lang/String" 9 "java/lang/String" "value" "[B", LEq.tab] ++ staticW "java/lang/String" 541 LEq.yN
def tab : Cond := tabOf yN yB 3 (some .boolean) site
def P (x t : Addr) (V : Cell) (cd : Int32) (n : Nat) (f : Nat → Int32) (y t' : Addr) (V' : Cell) (cd' : Int32) (k : Nat) (g : Nat → Int32) (z : Int32) (args : Array Value) (s : State) : Prop := args = #[.ref x, .ref y] ∧ Txt x t V cd n f s ∧ Txt y t' V' cd' k g s ∧ StaticIs s "java/lang/String" "COMPACT_STRINGS" "Z" (.int z) ∧ ¬ z = 0
/-- equals(Object) of two Strings: whether the texts are the same -/
theorem law (l : Launch) (x t : Addr) (V : Cell) (cd : Int32) (n : Nat) (f : Nat → Int32) (y t' : Addr) (V' : Cell) (cd' : Int32) (k : Nat) (g : Nat → Int32) (z : Int32) : Law l yN 2 1 1 14 yB 3 (some .boolean) site (P x t V cd n f y t' V' cd' k g z) (Says01 (SameT n f k g)) [] 0 0 := by
  refine Law.of_walk (plainFor_of_name (by decide +kernel)) (by decide +kernel) (by decide +kernel) (by decide) (fun _ _ h => by rw [h.1]; rfl) (fun _ U U' hal hh h => ⟨h.1, h.2.1.mv hal hh, h.2.2.1.mv hal hh, h.2.2.2.1.there hal hh, h.2.2.2.2⟩) (fun r U U' V V' h1 hal h2 h => Says01.mv r U U' V V' h1 hal h2 h) ?_
  intro p e s m args below meth c s₁ X0 hexec hbytes hml hret hlk hnm hown hh0 W hP
  obtain ⟨rfl, hx, hy, s1, hz⟩ := hP
  have c1 : Steps p.tables e below (s₁.setTop (entryFrame m #[.ref x, .ref y] 3)) (s₁.setTop (mkF m 2 #[.val (.ref x), .val (.ref y), .unset] [.ref y, .ref x])) := Steps.trans (entry rfl) (by
    show Steps p.tables e below (s₁.setTop (mkF m 0 #[.val (.ref x), .val (.ref y), .unset] [])) _
    refine XS.aloadN X0.here hexec rfl (hb hbytes d0) rfl rfl ?_
    refine XS.aloadN X0.here hexec rfl (hb hbytes d1) rfl rfl ?_
    exact Steps.refl _)
  by_cases hxy : x = y
  · have c2 : Steps p.tables e below (s₁.setTop (entryFrame m #[.ref x, .ref y] 3)) (s₁.setTop (mkF m 6 #[.val (.ref x), .val (.ref y), .unset] [.int 1])) := c1.trans (by
      refine acmpNo X0.here hexec rfl (hb hbytes d2) rfl rfl rfl (by simp [acmp, hxy]) ?_
      refine iconstV X0.here hexec rfl 1 (hb hbytes d5) (by decide) ?_
      exact Steps.refl _)
    subst hxy
    have ec : cd = cd' := by
      obtain ⟨D, fd, a1, a2, a3⟩ := hx.2.2.1
      obtain ⟨D', fd', b1, b2, b3⟩ := hy.2.2.1
      cases a1.symm.trans b1
      obtain ⟨q1, q2, q3, q4⟩ := a2.1
      obtain ⟨r1, r2, r3, r4⟩ := b2.1
      cases q4.symm.trans r4
      cases a3.symm.trans b3; rfl
    have et : t = t' := by
      obtain ⟨D, fd, a1, a2, a3⟩ := hx.2.1
      obtain ⟨D', fd', b1, b2, b3⟩ := hy.2.1
      cases a1.symm.trans b1
      obtain ⟨q1, q2, q3, q4⟩ := a2.1
      obtain ⟨r1, r2, r3, r4⟩ := b2.1
      cases q4.symm.trans r4
      cases a3.symm.trans b3; rfl
    subst ec et
    have ev : V = V' := by cases hx.2.2.2.1.1.symm.trans hy.2.2.2.1.1; rfl
    subst ev
    have hs : SameT n f k g := (Cod.eqv hx.2.2.2.2.1 hy.2.2.2.2.1 hx.2.2.2.2.2 hy.2.2.2.2.2).mp ⟨rfl, fun _ _ => rfl⟩
    exact ⟨s₁, some (.int 1), _, _, _, X0, rfl, rfl, rfl, (fun h => by cases h), ⟨1, rfl, hh0, Or.inl ⟨rfl, hs⟩⟩, fun fs hl => c2.trans (X0.ireturnOut hexec hret rfl (Or.inr (Or.inl rfl)) (hb hbytes d6) hl)⟩
  · have c2 : Steps p.tables e below (s₁.setTop (entryFrame m #[.ref x, .ref y] 3)) (s₁.setTop (mkF m 8 #[.val (.ref x), .val (.ref y), .unset] [.ref y])) := c1.trans (by
      refine acmpYes X0.here hexec rfl (pc0 := 2) rfl (hb hbytes d2) rfl rfl rfl (by simp [acmp, hxy]) (by decide) rfl ?_
      refine XS.aloadN X0.here hexec rfl (hb hbytes d7) rfl rfl ?_
      exact Steps.refl _)
    obtain ⟨T3, X3, q3, st3⟩ := cinst X0 hexec hown (wk W (.classLink "java/lang/String" 10 "java/lang/String")) (hy.mv X0.warmed.alike hh0).1 (g := (mkF m 8 #[.val (.ref x), .val (.ref y), .unset] [.ref y])) rfl (rest := []) rfl (hb hbytes d8)
    have hh3 := q3.trans hh0
    have c4 : Steps p.tables e below (s₁.setTop (entryFrame m #[.ref x, .ref y] 3)) (T3.setTop (mkF m 15 #[.val (.ref x), .val (.ref y), .unset] [.ref y])) := (c2.trans (st3 _ (Steps.refl _))).trans (by
      refine XS.ifNo X3.here hexec rfl (hb hbytes d11) rfl (i0_eq_f (by decide)) ?_
      refine XS.aloadN X3.here hexec rfl (hb hbytes d14) rfl rfl ?_
      exact Steps.refl _)
    obtain ⟨T5, X5, q5, st5⟩ := cself X3 hexec hown (wk W (.classLink "java/lang/String" 10 "java/lang/String")) (hy.mv X3.warmed.alike hh3).1 (g := (mkF m 15 #[.val (.ref x), .val (.ref y), .unset] [.ref y])) rfl (rest := []) rfl (hb hbytes d15)
    have hh5 := q5.trans hh3
    have c6 : Steps p.tables e below (s₁.setTop (entryFrame m #[.ref x, .ref y] 3)) (T5.setTop (mkF m 19 #[.val (.ref x), .val (.ref y), .val (.ref y)] [])) := (c4.trans (st5 _ (Steps.refl _))).trans (by
      refine XS.astoreN X5.here hexec rfl (hb hbytes d18) rfl rfl rfl ?_
      exact Steps.refl _)
    obtain ⟨T7, X7, q7, st7⟩ := X5.sget hexec hown (wk W (.fieldLink "java/lang/String" 38 "java/lang/String" "COMPACT_STRINGS" "Z")) s1 (fun _ _ h => by rw [hh5]; exact h) (g := (mkF m 19 #[.val (.ref x), .val (.ref y), .val (.ref y)] [])) rfl (hb hbytes d19)
    have hh7 := q7.trans hh5
    have c8 : Steps p.tables e below (s₁.setTop (entryFrame m #[.ref x, .ref y] 3)) (T7.setTop (mkF m 26 #[.val (.ref x), .val (.ref y), .val (.ref y)] [.ref x])) := (c6.trans (st7 _ (Steps.refl _))).trans (by
      refine XS.ifNo X7.here hexec rfl (hb hbytes d22) rfl (i0_eq_f hz) ?_
      refine XS.aloadN X7.here hexec rfl (hb hbytes d25) rfl rfl ?_
      exact Steps.refl _)
    obtain ⟨T9, X9, q9, st9⟩ := X7.hget hexec hown (wk W (.fieldLink "java/lang/String" 15 "java/lang/String" "coder" "B")) (hx.mv X7.warmed.alike hh7).2.2.1 (g := (mkF m 26 #[.val (.ref x), .val (.ref y), .val (.ref y)] [.ref x])) rfl (rest := []) rfl (hb hbytes d26)
    have hh9 := q9.trans hh7
    have c10 : Steps p.tables e below (s₁.setTop (entryFrame m #[.ref x, .ref y] 3)) (T9.setTop (mkF m 30 #[.val (.ref x), .val (.ref y), .val (.ref y)] [.ref y, .int cd])) := (c8.trans (st9 _ (Steps.refl _))).trans (by
      refine XS.aloadN X9.here hexec rfl (hb hbytes d29) rfl rfl ?_
      exact Steps.refl _)
    obtain ⟨T11, X11, q11, st11⟩ := X9.hget hexec hown (wk W (.fieldLink "java/lang/String" 15 "java/lang/String" "coder" "B")) (hy.mv X9.warmed.alike hh9).2.2.1 (g := (mkF m 30 #[.val (.ref x), .val (.ref y), .val (.ref y)] [.ref y, .int cd])) rfl (rest := [.int cd]) rfl (hb hbytes d30)
    have hh11 := q11.trans hh9
    have c12 : Steps p.tables e below (s₁.setTop (entryFrame m #[.ref x, .ref y] 3)) (T11.setTop (mkF m 33 #[.val (.ref x), .val (.ref y), .val (.ref y)] [.int cd', .int cd])) := c10.trans (st11 _ (Steps.refl _))
    by_cases hcd : cd = cd'
    · subst hcd
      have c13 : Steps p.tables e below (s₁.setTop (entryFrame m #[.ref x, .ref y] 3)) (T11.setTop (mkF m 37 #[.val (.ref x), .val (.ref y), .val (.ref y)] [.ref x])) := c12.trans (by
        refine XS.icmpNo X11.here hexec rfl (hb hbytes d33) rfl (ii_ne_f rfl) ?_
        refine XS.aloadN X11.here hexec rfl (hb hbytes d36) rfl rfl ?_
        exact Steps.refl _)
      obtain ⟨T14, X14, q14, st14⟩ := X11.hget hexec hown (wk W (.fieldLink "java/lang/String" 9 "java/lang/String" "value" "[B")) (hx.mv X11.warmed.alike hh11).2.1 (g := (mkF m 37 #[.val (.ref x), .val (.ref y), .val (.ref y)] [.ref x])) rfl (rest := []) rfl (hb hbytes d37)
      have hh14 := q14.trans hh11
      have c15 : Steps p.tables e below (s₁.setTop (entryFrame m #[.ref x, .ref y] 3)) (T14.setTop (mkF m 41 #[.val (.ref x), .val (.ref y), .val (.ref y)] [.ref y, .ref t])) := (c13.trans (st14 _ (Steps.refl _))).trans (by
        refine XS.aloadN X14.here hexec rfl (hb hbytes d40) rfl rfl ?_
        exact Steps.refl _)
      obtain ⟨T16, X16, q16, st16⟩ := X14.hget hexec hown (wk W (.fieldLink "java/lang/String" 9 "java/lang/String" "value" "[B")) (hy.mv X14.warmed.alike hh14).2.1 (g := (mkF m 41 #[.val (.ref x), .val (.ref y), .val (.ref y)] [.ref y, .ref t])) rfl (rest := [.ref t]) rfl (hb hbytes d41)
      have hh16 := q16.trans hh14
      have c17 : Steps p.tables e below (s₁.setTop (entryFrame m #[.ref x, .ref y] 3)) (T16.setTop (mkF m 44 #[.val (.ref x), .val (.ref y), .val (.ref y)] [.ref t', .ref t])) := c15.trans (st16 _ (Steps.refl _))
      obtain ⟨v18, T18, X18, E18, g18⟩ := X16.callS hexec (LEq.law l t V t' V') hown (wks W (staticW "java/lang/String" 541 LEq.yN)) (wk W LEq.tab) (W := 0) (Nat.le_of_ble_eq_true rfl) (Nat.le_of_ble_eq_true rfl) (Nat.le_refl _) (Nat.le_refl _) (g := (mkF m 44 #[.val (.ref x), .val (.ref y), .val (.ref y)] [.ref t', .ref t])) rfl (by rw [hml]; rfl) c17 (argsL := [.ref t, .ref t']) (rest := []) rfl rfl (by show 2 * 0 + 0 ≤ _; decide) (hb hbytes d44) (⟨rfl, hx.2.2.2.1.mv X16.warmed.alike hh16, hx.2.2.2.2.1.ty, hy.2.2.2.1.mv X16.warmed.alike hh16, hy.2.2.2.2.1.ty⟩)
      obtain ⟨v, rfl, q18, hv⟩ := E18
      have iff := Cod.eqv hx.2.2.2.2.1 hy.2.2.2.2.1 hx.2.2.2.2.2 hy.2.2.2.2.2
      rcases hv with ⟨rfl, he⟩ | ⟨rfl, he⟩
      · have c19 : Steps p.tables e below (s₁.setTop (entryFrame m #[.ref x, .ref y] 3)) (T18.setTop (mkF m 55 #[.val (.ref x), .val (.ref y), .val (.ref y)] [.int 1])) := Steps.trans g18 (by
          refine XS.ifNo X18.here hexec rfl (hb hbytes d47) rfl (i0_eq_f (by decide)) ?_
          refine iconstV X18.here hexec rfl 1 (hb hbytes d50) (by decide) ?_
          refine XS.goto X18.here hexec rfl (pc0 := 51) rfl (hb hbytes d51) (by decide) rfl ?_
          exact Steps.refl _)
        exact ⟨T18, some (.int 1), _, _, _, X18, rfl, rfl, rfl, (fun h => by cases h), ⟨1, rfl, q18.trans hh16, Or.inl ⟨rfl, iff.mp he⟩⟩, fun fs hl => c19.trans (X18.ireturnOut hexec hret rfl (Or.inr (Or.inl rfl)) (hb hbytes d55) hl)⟩
      · have c19 : Steps p.tables e below (s₁.setTop (entryFrame m #[.ref x, .ref y] 3)) (T18.setTop (mkF m 55 #[.val (.ref x), .val (.ref y), .val (.ref y)] [.int 0])) := Steps.trans g18 (by
          refine XS.ifYes X18.here hexec rfl (pc0 := 47) rfl (hb hbytes d47) rfl (i0_eq_t rfl) (by decide) rfl ?_
          refine iconstV X18.here hexec rfl 0 (hb hbytes d54) (by decide) ?_
          exact Steps.refl _)
        exact ⟨T18, some (.int 0), _, _, _, X18, rfl, rfl, rfl, (fun h => by cases h), ⟨0, rfl, q18.trans hh16, Or.inr ⟨rfl, fun q => he (iff.mpr q)⟩⟩, fun fs hl => c19.trans (X18.ireturnOut hexec hret rfl (Or.inr (Or.inl rfl)) (hb hbytes d55) hl)⟩
    · have c13 : Steps p.tables e below (s₁.setTop (entryFrame m #[.ref x, .ref y] 3)) (T11.setTop (mkF m 55 #[.val (.ref x), .val (.ref y), .val (.ref y)] [.int 0])) := c12.trans (by
        refine XS.icmpYes X11.here hexec rfl (pc0 := 33) rfl (hb hbytes d33) rfl (ii_ne_t hcd) (by decide) rfl ?_
        refine iconstV X11.here hexec rfl 0 (hb hbytes d54) (by decide) ?_
        exact Steps.refl _)
      exact ⟨T11, some (.int 0), _, _, _, X11, rfl, rfl, rfl, (fun h => by cases h), ⟨0, rfl, hh11, Or.inr ⟨rfl, Cod.dif hx.2.2.2.2.1 hy.2.2.2.2.1 hcd⟩⟩, fun fs hl => c13.trans (X11.ireturnOut hexec hret rfl (Or.inr (Or.inl rfl)) (hb hbytes d55) hl)⟩
theorem pays {l : Launch} {R : Room} {p : Program} {e : Env} {below : List Frame} {s : State} {sargs : Array Value} {len W : Nat} (x t : Addr) (V : Cell) (cd : Int32) (n : Nat) (f : Nat → Int32) (y t' : Addr) (V' : Cell) (cd' : Int32) (k : Nat) (g : Nat → Int32) (z : Int32) (htab : tab.before sargs s = true) (hfr : 2 ≤ R.frames) (hlo : W + 28 ≤ R.locals) :
    Back l R p e below s sargs yN len W (fun A₁ a₁ => A₁.cells + 0 ≤ R.cells ∧ A₁.slots + 0 ≤ R.slots ∧ P x t V cd n f y t' V' cd' k g z a₁ A₁.U) (fun A₁ _ v₁ B₁ => Says01 (SameT n f k g) v₁ A₁.U B₁.U ∧ B₁.locs = A₁.locs ++ [] ∧ B₁.cells = A₁.cells + 0 ∧ B₁.slots = A₁.slots + 0) :=
  (law l x t V cd n f y t' V' cd' k g z).pays htab hfr (by omega)
end SEq
end StrChars
namespace StrChars.Road
open Jvm Sem ClassFile Op Lib Jvm.Stand Jvm.Free Jvm.Free.XT
open Jvm.Lib.Cold (StaticIs)
/-- the words of String.equals(Object) -/
abbrev wordsEq : List Jvm.Cond := [.code SEq.yN SEq.yB 3 (some .boolean), .initialized ST, .classLink ST 10 ST, .fieldLink ST 38 ST "COMPACT_STRINGS" "Z", .fieldLink ST 15 ST "coder" "B", .fieldLink ST 9 ST "value" "[B", .methodLink ST 541 LEq.yN, .static LEq.yN, .code LEq.yN LEq.yB 3 (some .boolean), .initialized "java/lang/StringLatin1"]
theorem tabEq_of {a : Array Value} {s : State} (h : ∀ w ∈ wordsEq, w.before a s = true) : SEq.tab.before a s = true := by
  have hl : LEq.tab.before a s = true := unparts (wk h (.code LEq.yN LEq.yB 3 (some .boolean))) (wks h (.initialized LEq.yN.cls :: LEq.site))
  have q := consq hl h
  exact unparts (wk q (.code SEq.yN SEq.yB 3 (some .boolean))) (wks q (.initialized SEq.yN.cls :: SEq.site))
theorem movedEq {Z s : State} {a0 args : Array Value} (hZ : Z.Warmed39 s.vm) (hw : ∀ d ∈ wordsEq, d.before a0 Z = true) : ∀ d ∈ wordsEq, d.before args s = true := fun d hd => by
  have t : ∀ d ∈ wordsEq, (d.onTables && d.keepsFace) = true := by decide +kernel
  exact RoadKit.mv hZ (hw d hd) (t d hd)
/-- the road's facts of a String, as the laws ask it -/
theorem txt_of {Z U : State} {a0 : Array Value} {kI : Nat} (wi : (Jvm.Cond.instantiable ST kI).before a0 Z = true) (al : Z.vm.Alike U.vm) {x t : Addr} {kb : ClassId} {cs : List Int32} {cd N2 : Int32} {vs : List Value} (E : RoadKit.Exa Z U.heap x ST) (V : RoadKit.Fld Z U.heap x ST "value" "[B" (.ref t)) (C : RoadKit.Fld Z U.heap x ST "coder" "B" (.int cd)) (K : RoadKit.Arv Z U.heap t kb .byte N2 vs (.int 0)) (hc : CodA cs cd N2 vs) (hb : ∀ c ∈ cs, ¬ c < 0 ∧ ¬ (65535 : Int32) < c) (l2 : cs.length ≤ 4000) :
    ∃ A, Txt x t A cd cs.length (fun j => cs.getD j 0) U := by
  obtain ⟨A, K1, K2, K3, K4, K5, K6⟩ := K
  have hcod := hc.cod (by omega) K3 K5
  obtain ⟨D, fV, fC, hB, F1, F2, g1, g2, -, -⟩ := strObj wi al E V C
  exact ⟨A, ⟨_, hB.2.2.1, D, hB.1, rfl, by cases q : D.vm <;> first | rfl | exact absurd q (hB.2.1.2 _)⟩, Has.of hB F1 g1, Has.of hB F2 g2, ⟨K1.1, State.isArrayOf_alike al K1.2.1, K1.2.2, by rcases hcod with ⟨-, q, -⟩ | ⟨-, q, -⟩ <;> omega⟩, hcod, fun j hj => by
    have e : cs.getD j 0 = cs[j] := by simp [List.getD_eq_getElem?_getD, hj]
    show ¬ cs.getD j 0 < 0 ∧ ¬ 65535 < cs.getD j 0
    rw [e]; exact hb _ (List.getElem_mem _)⟩
theorem same_list (cs ds : List Int32) : SameT cs.length (fun j => cs.getD j 0) ds.length (fun j => ds.getD j 0) ↔ cs = ds := by
  constructor
  · rintro ⟨e, q⟩
    refine List.ext_getElem e fun j h1 h2 => ?_
    have := q j h1
    simpa [List.getD_eq_getElem?_getD, h1, h2] using this
  · rintro rfl
    exact ⟨rfl, fun _ _ => rfl⟩
/-- **equals(Object) OF TWO SUCH STRINGS**: 1 just where the chars are the same -/
theorem eqW {p : Program} {l : Launch} {e : Env} {R : Room} {s : State} {args : Array Value} {below : List Frame} {len W : Nat} {Z : State} {a0 : Array Value} {h : Heap} (hZ : Z.Warmed39 s.vm) (hw : ∀ d ∈ wordsEq, d.before a0 Z = true) {kI : Nat} (wi : (Jvm.Cond.instantiable ST kI).before a0 Z = true)
    {x t : Addr} {kb : ClassId} {cs : List Int32} {cd N2 : Int32} {vs : List Value} (E : RoadKit.Exa Z h x ST) (V : RoadKit.Fld Z h x ST "value" "[B" (.ref t)) (C : RoadKit.Fld Z h x ST "coder" "B" (.int cd)) (K : RoadKit.Arv Z h t kb .byte N2 vs (.int 0)) (hc : CodA cs cd N2 vs) (hb : ∀ c ∈ cs, ¬ c < 0 ∧ ¬ (65535 : Int32) < c) (l2 : cs.length ≤ 4000)
    {y t' : Addr} {kb' : ClassId} {ds : List Int32} {cd' N2' : Int32} {vs' : List Value} (E' : RoadKit.Exa Z h y ST) (V' : RoadKit.Fld Z h y ST "value" "[B" (.ref t')) (C' : RoadKit.Fld Z h y ST "coder" "B" (.int cd')) (K' : RoadKit.Arv Z h t' kb' .byte N2' vs' (.int 0)) (hc' : CodA ds cd' N2' vs') (hb' : ∀ c ∈ ds, ¬ c < 0 ∧ ¬ (65535 : Int32) < c) (l2' : ds.length ≤ 4000)
    {z : Int32} (S : RoadKit.Sta Z h ST "COMPACT_STRINGS" "Z" (.int z)) (hz : ¬ z = 0) (hfr : 2 ≤ R.frames) (hlo : W + 28 ≤ R.locals) :
    Back l R p e below s args (⟨"java/lang/String", "equals", "(Ljava/lang/Object;)Z"⟩ : MethodName) len W (fun P a => a = #[.ref x, .ref y] ∧ P.U.heap = h ∧ P.cells + 0 ≤ R.cells ∧ P.slots + 0 ≤ R.slots)
      (fun P _ v B => ∃ L, (((v = some (.int 1) ∧ cs = ds) ∨ (v = some (.int 0) ∧ ¬ cs = ds)) ∧ L = [] ∧ B.U.heap = h) ∧ B.locs = P.locs ++ L ∧ B.cells = P.cells + 0 ∧ B.slots = P.slots + 0) := by
  intro m meth c P g ig mk a X hg hsize hdg hW hn hp'
  obtain ⟨rfl, rfl, r1, r2⟩ := hp'
  have al : Z.vm.Alike P.U.vm := hZ.alike.trans X.warmed.alike
  obtain ⟨A, hx⟩ := txt_of wi al E V C K hc hb l2
  obtain ⟨A', hy⟩ := txt_of wi al E' V' C' K' hc' hb' l2'
  obtain ⟨v, B, X', ⟨⟨w, hv, hh, hq⟩, hl, hk, hs⟩, st⟩ := SEq.pays x t A cd cs.length (fun j => cs.getD j 0) y t' A' cd' ds.length (fun j => ds.getD j 0) z (tabEq_of (movedEq hZ hw)) hfr hlo m meth c P g ig mk _ X hg hsize hdg hW hn ⟨r1, r2, rfl, hx, hy, sta_is al S, hz⟩
  refine ⟨v, B, X', ⟨[], ⟨?_, rfl, hh⟩, hl, hk, hs⟩, st⟩
  rcases hq with ⟨rfl, q⟩ | ⟨rfl, q⟩
  · exact Or.inl ⟨hv, (same_list cs ds).mp q⟩
  · exact Or.inr ⟨hv, fun e => q ((same_list cs ds).mpr e)⟩
end StrChars.Road
namespace StrChars.Road
open Jvm Sem ClassFile Op Lib Jvm.Stand Jvm.Free Jvm.Free.XT
open Jvm.Lib.Cold (StaticIs)
/-- what backV says of its String, as the contracts of this text ask it: cs's low bytes, coder 0 -/
theorem codOf {cs : List Int32} {n : Nat} (hn : cs.length = n) (hb : ∀ c ∈ cs, ¬ 255 < c) : CodA cs 0 (Int32.ofNat n) ((cs.map lo8).map Value.int) := Or.inl ⟨rfl, by rw [hn], by simp [List.map_map, Function.comp_def], hb⟩
end StrChars.Road
end Jvm.Pilot.@@N@@
namespace Jvm.Pilot.@@N@@
open Jvm Jvm.ClassFile Sem Op Lib Jvm.Free Jvm.Stand Jvm.LawKit Jvm.RoadKit Jvm.OwnKit Bundle Jvm.Pilot.@@N@@.Jvm.D
theorem own_wS {Z : State} {a0 : Array Value} (hw : ∀ d ∈ tables_1, d.before a0 Z = true) : ∀ a ∈ Bundle.stringAtoms, a.before a0 Z = true := fun d hd => hw d ((by decide +kernel : ∀ d ∈ Bundle.stringAtoms, d ∈ tables_1) d hd)
theorem own_EW {Z : State} {a0 : Array Value} (hw : ∀ d ∈ tables_1, d.before a0 Z = true) : EW Z a0 consts_1 := EW.cons (hw _ (List.mem_of_getElem? (i := 82) rfl)) (by decide +kernel) (EW.cons (hw _ (List.mem_of_getElem? (i := 49) rfl)) (by decide +kernel) (EW.cons (hw _ (List.mem_of_getElem? (i := 34) rfl)) (by decide +kernel) (EW.nil)))
def own_cs (n c0 c1 : Int32) : List Int32 := if n = 0 then [] else if n = (1 : Int32) then [c0] else [c0, c1]
theorem own_cs_of {Z : State} {h : Heap} {x : Addr} {cs ds : List Int32} (e : ds = cs) (F : StrIs Z h x cs) : StrIs Z h x ds := by
  rw [e]
  exact F
theorem own_hp1 {c0 : Int32} (h : ¬ c0 < 0 ∧ ¬ (255 : Int32) < c0) : ∀ c ∈ ([c0] : List Int32), ¬ c < 0 ∧ ¬ (255 : Int32) < c := by
  intro c hc
  cases List.mem_singleton.mp hc
  exact h
theorem own_hp2 {c0 c1 : Int32} (h : ¬ c0 < 0 ∧ ¬ (255 : Int32) < c0) (h1 : ¬ c1 < 0 ∧ ¬ (255 : Int32) < c1) : ∀ c ∈ ([c0, c1] : List Int32), ¬ c < 0 ∧ ¬ (255 : Int32) < c := by
  intro c hc
  rcases List.mem_cons.mp hc with rfl | hc
  · exact h
  · cases List.mem_singleton.mp hc
    exact h1
theorem own_if_f {P : Prop} [Decidable P] (q : (if P then (1 : Int32) else (0 : Int32)) = 0) : (if P then (1 : Int32) else (0 : Int32)) = 0 := q
theorem own_if_t {P : Prop} [Decidable P] (q : ¬ (if P then (1 : Int32) else (0 : Int32)) = 0) : (if P then (1 : Int32) else (0 : Int32)) = 1 := by
  split
  · rfl
  · rename_i h
    rw [if_neg h] at q
    exact absurd rfl q
theorem own_len {x la : Int32} (h : la = (x &&& (3 : Int32)) % (3 : Int32)) : la = 0 ∨ la = 1 ∨ la = 2 := by
  rcases and3_cases x with q | q | q | q <;> rw [q] at h <;> subst h <;> decide
theorem own_kind {x kd : Int32} (h : kd = (x &&& (3 : Int32))) : kd = 0 ∨ kd = 1 ∨ kd = 2 ∨ kd = 3 := by
  rw [h]
  exact and3_cases x
theorem own_ch {x c : Int32} (h : c = (x &&& (255 : Int32)).toUInt32.toUInt16.toUInt32.toInt32) : ¬ c < 0 ∧ ¬ (255 : Int32) < c := by
  rw [h, i2c_mask]
  exact and255 x
theorem own_eqv {la lb a0 a1 b0 b1 : Int32} (hla : la = 0 ∨ la = 1 ∨ la = 2) (hlb : lb = 0 ∨ lb = 1 ∨ lb = 2) : (own_cs la a0 a1 = own_cs lb b0 b1) ↔ (la = lb ∧ (la < 1 ∨ a0 = b0) ∧ (la < 2 ∨ a1 = b1)) := by
  have k1 : ¬ (1 : Int32) = 0 := by decide
  have k2 : ¬ (2 : Int32) = 0 := by decide
  have k3 : ¬ (2 : Int32) = 1 := by decide
  have k4 : (0 : Int32) < 1 := by decide
  have k5 : (0 : Int32) < 2 := by decide
  have k6 : ¬ (1 : Int32) < 1 := by decide
  have k7 : (1 : Int32) < 2 := by decide
  have k8 : ¬ (2 : Int32) < 1 := by decide
  have k9 : ¬ (2 : Int32) < 2 := by decide
  have k10 : ¬ (0 : Int32) = 1 := by decide
  have k11 : ¬ (0 : Int32) = 2 := by decide
  have k12 : ¬ (1 : Int32) = 2 := by decide
  rcases hla with rfl | rfl | rfl <;> rcases hlb with rfl | rfl | rfl <;> simp [own_cs, k1, k2, k3, k4, k5, k6, k7, k8, k9, k10, k11, k12]
theorem own_eq_F {la lb a0 a1 b0 b1 : Int32} (hla : la = 0 ∨ la = 1 ∨ la = 2) (hlb : lb = 0 ∨ lb = 1 ∨ lb = 2) (h : ¬ la = lb) : (if own_cs la a0 a1 = own_cs lb b0 b1 then (1 : Int32) else (0 : Int32)) = (0 : Int32) := if_neg fun q => h ((own_eqv hla hlb).mp q).1
theorem own_eq_TTT {la lb a0 a1 b0 b1 : Int32} (hla : la = 0 ∨ la = 1 ∨ la = 2) (hlb : lb = 0 ∨ lb = 1 ∨ lb = 2) (h : la = lb) (h1 : la < (1 : Int32)) (h2 : la < (2 : Int32)) : (if own_cs la a0 a1 = own_cs lb b0 b1 then (1 : Int32) else (0 : Int32)) = (1 : Int32) := if_pos ((own_eqv hla hlb).mpr ⟨h, Or.inl h1, Or.inl h2⟩)
theorem own_eq_TTFT {la lb a0 a1 b0 b1 : Int32} (hla : la = 0 ∨ la = 1 ∨ la = 2) (hlb : lb = 0 ∨ lb = 1 ∨ lb = 2) (h : la = lb) (h1 : la < (1 : Int32)) (h2 : ¬ la < (2 : Int32)) (h3 : a1 = b1) : (if own_cs la a0 a1 = own_cs lb b0 b1 then (1 : Int32) else (0 : Int32)) = (1 : Int32) := if_pos ((own_eqv hla hlb).mpr ⟨h, Or.inl h1, Or.inr h3⟩)
theorem own_eq_TTFF {la lb a0 a1 b0 b1 : Int32} (hla : la = 0 ∨ la = 1 ∨ la = 2) (hlb : lb = 0 ∨ lb = 1 ∨ lb = 2) (h : la = lb) (h1 : la < (1 : Int32)) (h2 : ¬ la < (2 : Int32)) (h3 : ¬ a1 = b1) : (if own_cs la a0 a1 = own_cs lb b0 b1 then (1 : Int32) else (0 : Int32)) = (0 : Int32) := if_neg fun q => (((own_eqv hla hlb).mp q).2.2).elim h2 h3
theorem own_eq_TFTT {la lb a0 a1 b0 b1 : Int32} (hla : la = 0 ∨ la = 1 ∨ la = 2) (hlb : lb = 0 ∨ lb = 1 ∨ lb = 2) (h : la = lb) (h1 : ¬ la < (1 : Int32)) (h3 : a0 = b0) (h2 : la < (2 : Int32)) : (if own_cs la a0 a1 = own_cs lb b0 b1 then (1 : Int32) else (0 : Int32)) = (1 : Int32) := if_pos ((own_eqv hla hlb).mpr ⟨h, Or.inr h3, Or.inl h2⟩)
theorem own_eq_TFTFT {la lb a0 a1 b0 b1 : Int32} (hla : la = 0 ∨ la = 1 ∨ la = 2) (hlb : lb = 0 ∨ lb = 1 ∨ lb = 2) (h : la = lb) (h1 : ¬ la < (1 : Int32)) (h3 : a0 = b0) (h2 : ¬ la < (2 : Int32)) (h4 : a1 = b1) : (if own_cs la a0 a1 = own_cs lb b0 b1 then (1 : Int32) else (0 : Int32)) = (1 : Int32) := if_pos ((own_eqv hla hlb).mpr ⟨h, Or.inr h3, Or.inr h4⟩)
theorem own_eq_TFTFF {la lb a0 a1 b0 b1 : Int32} (hla : la = 0 ∨ la = 1 ∨ la = 2) (hlb : lb = 0 ∨ lb = 1 ∨ lb = 2) (h : la = lb) (h1 : ¬ la < (1 : Int32)) (h3 : a0 = b0) (h2 : ¬ la < (2 : Int32)) (h4 : ¬ a1 = b1) : (if own_cs la a0 a1 = own_cs lb b0 b1 then (1 : Int32) else (0 : Int32)) = (0 : Int32) := if_neg fun q => (((own_eqv hla hlb).mp q).2.2).elim h2 h4
theorem own_eq_TFF {la lb a0 a1 b0 b1 : Int32} (hla : la = 0 ∨ la = 1 ∨ la = 2) (hlb : lb = 0 ∨ lb = 1 ∨ lb = 2) (h : la = lb) (h1 : ¬ la < (1 : Int32)) (h3 : ¬ a0 = b0) : (if own_cs la a0 a1 = own_cs lb b0 b1 then (1 : Int32) else (0 : Int32)) = (0 : Int32) := if_neg fun q => (((own_eqv hla hlb).mp q).2.1).elim h1 h3
theorem own_eqB {p : Program} {l : Launch} {e : Env} {R : Room} {s : State} {args : Array Value} {below : List Frame} {len W : Nat} {Z : State} {a0 : Array Value} {h : Heap} {n0 : Nat} (hw : ∀ d ∈ tables_1, d.before a0 Z = true) (hZ : Z.Warmed39 s.vm) {x y : Addr} {cs ds : List Int32} (F : StrIs Z h x cs) (G : StrIs Z h y ds) {z : Int32} (S : Sta Z h "java/lang/String" "COMPACT_STRINGS" "Z" (.int z)) (hz : ¬ z = 0) (hfr : 2 ≤ R.frames) (hlo : W + 28 ≤ R.locals) :
    Back l R p e below s args (⟨"java/lang/String", "equals", "(Ljava/lang/Object;)Z"⟩ : MethodName) len W (fun P a => a = #[.ref x, .ref y] ∧ P.U.heap = h ∧ P.cells + 0 ≤ R.cells ∧ P.slots + 0 ≤ R.slots)
      (fun P _ v B => ∃ L, (v = some (.int (if cs = ds then (1 : Int32) else (0 : Int32))) ∧ Fr n0 L ∧ B.U.heap = h) ∧ B.locs = P.locs ++ L ∧ B.cells = P.cells + 0 ∧ B.slots = P.slots + 0) := by
  obtain ⟨t, k, E, V, C, K, hp, hl⟩ := F
  obtain ⟨t', k', E', V', C', K', hp', hl'⟩ := G
  have up : ∀ {c : Int32}, ¬ c < 0 ∧ ¬ (255 : Int32) < c → ¬ c < 0 ∧ ¬ (65535 : Int32) < c := fun {c} q => by
    simp only [Int32.lt_iff_toInt_lt, Int32.reduceToInt] at q ⊢
    omega
  refine Back.mono (StrChars.Road.eqW hZ (fun d hd => hw d ((by decide +kernel : ∀ d ∈ StrChars.Road.wordsEq, d ∈ tables_1) d hd)) (kI := 4) (hw _ (List.mem_of_getElem? (i := 5) rfl)) E V C K (StrChars.Road.codOf rfl fun c hc => (hp c hc).2) (fun c hc => up (hp c hc)) hl E' V' C' K' (StrChars.Road.codOf rfl fun c hc => (hp' c hc).2) (fun c hc => up (hp' c hc)) hl' S hz hfr hlo) (fun _ _ q => q) ?_
  rintro P a v B - ⟨L, ⟨hv, hL, hh⟩, r⟩
  refine ⟨L, ⟨?_, by rw [hL]; exact Fr.nil _, hh⟩, r⟩
  rcases hv with ⟨rfl, q⟩ | ⟨rfl, q⟩
  · rw [if_pos q]
  · rw [if_neg q]
theorem d3_0 : decode jdk_42_method_149_code 0 = .ok (.aload_n 0, 1) := by decide +kernel
theorem d3_1 : decode jdk_42_method_149_code 1 = .ok (.invokespecial 1, 3) := by decide +kernel
theorem d3_4 : decode jdk_42_method_149_code 4 = .ok (.iload_n 3, 1) := by decide +kernel
theorem d3_5 : decode jdk_42_method_149_code 5 = .ok (.ifCond .ne 22, 3) := by decide +kernel
theorem d3_8 : decode jdk_42_method_149_code 8 = .ok (.aload_n 0, 1) := by decide +kernel
theorem d3_9 : decode jdk_42_method_149_code 9 = .ok (.ldc 7, 2) := by decide +kernel
theorem d3_11 : decode jdk_42_method_149_code 11 = .ok (.getfield 9, 3) := by decide +kernel
theorem d3_14 : decode jdk_42_method_149_code 14 = .ok (.putfield 9, 3) := by decide +kernel
theorem d3_17 : decode jdk_42_method_149_code 17 = .ok (.aload_n 0, 1) := by decide +kernel
theorem d3_18 : decode jdk_42_method_149_code 18 = .ok (.ldc 7, 2) := by decide +kernel
theorem d3_20 : decode jdk_42_method_149_code 20 = .ok (.getfield 15, 3) := by decide +kernel
theorem d3_23 : decode jdk_42_method_149_code 23 = .ok (.putfield 15, 3) := by decide +kernel
theorem d3_26 : decode jdk_42_method_149_code 26 = .ok (.return_, 1) := by decide +kernel
theorem ef_rm_s0v (m : MethodId) (t : Addr) (ca : Addr)  : entryFrame m #[(.ref t), (.ref ca), (.int (0 : Int32)), (.int (0 : Int32)), .null] 6 = mkF m 0 #[.val (.ref t), .val (.ref ca), .val (.int (0 : Int32)), .val (.int (0 : Int32)), .val .null, .unset] [] := by first | (simp [entryFrame, mkF, argsToLocals, Value.category]; done) | rfl
def Q_rm_s0v (Z : State) (t : Addr) (ca : Addr)  (h0 : Heap) (n0 : Nat) (v : Option Value) (h : Heap) (L : List Loc) : Prop := v = none ∧ Fr n0 L ∧ Keep h0 h [t] ∧ StrIs Z h t []
theorem pn_0_ : plainName "java/lang/String" = true := by first | (simp [plainName, overriddenIn]; done) | decide +kernel
theorem pn_0 : plainFor (⟨"java/lang/String", "<init>", "([CIILjava/lang/Void;)V"⟩ : MethodName) = true := plainFor_of_name pn_0_
set_option maxRecDepth 65536 in
set_option maxHeartbeats 40000000 in
theorem rm_s0v (l : Launch) (Z : State) (a0 : Array Value) (hw : ∀ d ∈ tables_1, d.before a0 Z = true) (ws : List Jvm.Cond) (t : Addr) (ca : Addr)  (h0 : Heap) (n0 : Nat) (O0 : Old Z n0 h0) (hEL : EW Z a0 consts_1) (E_t : Exa Z h0 t "java/lang/String") (F_t_value : Fld Z h0 t "java/lang/String" "value" "[B" .null) (F_t_coder : Fld Z h0 t "java/lang/String" "coder" "B" (.int (0 : Int32))) (ge_t : n0 ≤ t) :
    MetFree l (⟨"java/lang/String", "<init>", "([CIILjava/lang/Void;)V"⟩ : MethodName) (head1 (Jvm.Cond.code (⟨"java/lang/String", "<init>", "([CIILjava/lang/Void;)V"⟩ : MethodName) jdk_42_method_149_code 6 none :: ws) ({ frames := 1, cells := 2, slots := 4, locals := 12 } : Room)) (fun args_ U => args_ = #[(.ref t), (.ref ca), (.int (0 : Int32)), (.int (0 : Int32)), .null] ∧ Z.Warmed39 U.vm ∧ U.heap = h0 ∧ CHv Z consts_1 U.vm h0) (fun _ _ _ _ _ => True) (fun _ U out_ U' => ∃ val_ loc_, out_ = .returned val_ ∧ (Q_rm_s0v Z t ca h0 n0) val_ U'.heap loc_ ∧ CHr Z consts_1 U.vm U.heap U'.vm U'.heap ∧ ReturnedEndW U out_ U' loc_ ({ frames := 1, cells := 2, slots := 4, locals := 12 } : Room).cells ({ frames := 1, cells := 2, slots := 4, locals := 12 } : Room).slots) := by
  refine startW (Q := (Q_rm_s0v Z t ca h0 n0)) pn_0 ?_
  intro p e s m below meth c T0 X0 hx hby hml hown hnm hret hlk hZ e0 hS CR
  have hk : 0 ≤ h0.size := Nat.zero_le _
  have wS : ∀ a ∈ Bundle.stringAtoms, a.before a0 Z = true := own_wS hw
  replace hown : s.vm.findClass "java/lang/String" = some m.cls := hown
  replace hml : c.maxLocals = 6 := hml
  refine goAt (ef_rm_s0v m t ca ) ?_
  have N0 := Fr.nil n0
  have Sf_t := safeNull (EL := consts_1) hZ.alike E_t F_t_value
  show Go p e below T0 (mkF m 0 #[.val (.ref t), .val (.ref ca), .val (.int (0 : Int32)), .val (.int (0 : Int32)), .val .null, .unset] []) _
  refine stp (fun _ => XS.aloadN X0.here hx rfl (hb hby d3_0) rfl rfl) ?_
  show Go p e below T0 (mkF m 1 #[.val (.ref t), .val (.ref ca), .val (.int (0 : Int32)), .val (.int (0 : Int32)), .val .null, .unset] [(.ref t)]) _
  obtain ⟨T1, X1, e1, st1⟩ := initO X0 hx hZ hown (hw _ (List.mem_of_getElem? (i := 15) rfl)) (hw _ (List.mem_of_getElem? (i := 16) rfl)) (hw _ (List.mem_of_getElem? (i := 17) rfl)) e0 (g := (mkF m 1 #[.val (.ref t), .val (.ref ca), .val (.int (0 : Int32)), .val (.int (0 : Int32)), .val .null, .unset] [(.ref t)])) rfl (by rw [hml]; rfl) rfl (hb hby d3_1) (by decide) (W := 0) (by show 2 * 0 + _ ≤ _; exact Nat.le_of_eq rfl) (by decide)
  refine stp st1 ?_
  show Go p e below T1 (mkF m 4 #[.val (.ref t), .val (.ref ca), .val (.int (0 : Int32)), .val (.int (0 : Int32)), .val .null, .unset] []) _
  refine stp (fun _ => XS.iloadN X1.here hx rfl (hb hby d3_4) rfl) ?_
  show Go p e below T1 (mkF m 5 #[.val (.ref t), .val (.ref ca), .val (.int (0 : Int32)), .val (.int (0 : Int32)), .val .null, .unset] [(.int (0 : Int32))]) _
  refine stp (fun _ => XS.ifNo X1.here hx rfl (hb hby d3_5) rfl (by decide)) ?_
  show Go p e below T1 (mkF m 8 #[.val (.ref t), .val (.ref ca), .val (.int (0 : Int32)), .val (.int (0 : Int32)), .val .null, .unset] []) _
  refine stp (fun _ => XS.aloadN X1.here hx rfl (hb hby d3_8) rfl rfl) ?_
  show Go p e below T1 (mkF m 9 #[.val (.ref t), .val (.ref ca), .val (.int (0 : Int32)), .val (.int (0 : Int32)), .val .null, .unset] [(.ref t)]) _
  obtain ⟨la2, T2, h2, k1_2, lb2, kl2, X2, e2, E2, hS, hk', hZ, hown, Ea2, Ca2, Va2, Ba2, lta2, ltb2, CRn2, Li2, hne2, st2⟩ := ldcCH X1 hx hZ hown (hw _ (List.mem_of_getElem? (i := 34) rfl)) wS e1 hS hk hEL (by decide) CR.1 (vs := []) (z := (0 : Int32)) ⟨by decide +kernel, by decide +kernel⟩ (by decide) (by decide) (g := (mkF m 9 #[.val (.ref t), .val (.ref ca), .val (.int (0 : Int32)), .val (.int (0 : Int32)), .val .null, .unset] [(.ref t)])) rfl (hb hby d3_9) (n := 0) (by decide +kernel) (by decide) (by decide) (by decide)
  have f3 := E_t.ext E2
  have f4 := F_t_value.ext E2
  have f5 := F_t_coder.ext E2
  have f6 := (CRn2.safe F_t_coder.lt Sf_t)
  have hk := hk'
  have CR := CR.trans CRn2
  have K2 : Keep h0 h2 [t] := (Keep.refl h0 [t]).ext E2
  have O2 := O0.ext E2
  have ne7 := hne2 t f6
  refine stp st2 ?_
  show Go p e below T2 (mkF m 11 #[.val (.ref t), .val (.ref ca), .val (.int (0 : Int32)), .val (.int (0 : Int32)), .val .null, .unset] [(.ref la2), (.ref t)]) _
  obtain ⟨T8, X8, e8, st8⟩ := getF X2 hx hZ hown (host := "") (Or.inl (hw _ (List.mem_of_getElem? (i := 32) rfl))) Via.refl e2 Va2 (g := (mkF m 11 #[.val (.ref t), .val (.ref ca), .val (.int (0 : Int32)), .val (.int (0 : Int32)), .val .null, .unset] [(.ref la2), (.ref t)])) rfl rfl (hb hby d3_11)
  refine stp st8 ?_
  show Go p e below T8 (mkF m 14 #[.val (.ref t), .val (.ref ca), .val (.int (0 : Int32)), .val (.int (0 : Int32)), .val .null, .unset] [(.ref lb2), (.ref t)]) _
  obtain ⟨T9, h9, X9, e9, W9, st9⟩ := putF X8 hx hZ hown (host := "") (Or.inl (hw _ (List.mem_of_getElem? (i := 32) rfl))) Via.refl e8 f4 f3 (Or.inr ⟨(hw _ (List.mem_of_getElem? (i := 33) rfl)), rfl, hnm⟩) (hw _ (List.mem_of_getElem? (i := 5) rfl)) (ty := (.array .byte)) (by decide) rfl rfl (g := (mkF m 14 #[.val (.ref t), .val (.ref ca), .val (.int (0 : Int32)), .val (.int (0 : Int32)), .val .null, .unset] [(.ref lb2), (.ref t)])) rfl rfl (hb hby d3_14)
  have Fw9 := f4.same W9
  have f10 := f3.wr W9
  have f12 := f5.other W9 (Or.inr (slot_ne (Or.inr (hw _ (List.mem_of_getElem? (i := 31) rfl))) (Or.inr (hw _ (List.mem_of_getElem? (i := 33) rfl))) (by decide) (t := .byte) (t' := (.array .byte)) (by decide) (by decide)))
  have f13 := Safe.wr W9 f6 CR.1 f6
  have f14 := Ea2.wr W9
  have f15 := Ca2.other W9 (Or.inl (Ne.symm ne7.1))
  have f16 := Va2.other W9 (Or.inl (Ne.symm ne7.1))
  have f17 := Ba2.other W9 (Ne.symm ne7.2)
  have hk := Nat.le_trans hk (Keep.of_wr W9).1
  have CR := CR.trans (CHr.wr W9 f6 CR.1)
  have K9 : Keep h0 h9 [t] := K2.wr W9 (Or.inl (List.mem_of_getElem? (i := 0) rfl))
  have O9 := O2.wr W9 ge_t
  have N9 := Fr.snoc X9 N0 ge_t
  refine stp st9 ?_
  show Go p e below T9 (mkF m 17 #[.val (.ref t), .val (.ref ca), .val (.int (0 : Int32)), .val (.int (0 : Int32)), .val .null, .unset] []) _
  refine stp (fun _ => XS.aloadN X9.here hx rfl (hb hby d3_17) rfl rfl) ?_
  show Go p e below T9 (mkF m 18 #[.val (.ref t), .val (.ref ca), .val (.int (0 : Int32)), .val (.int (0 : Int32)), .val .null, .unset] [(.ref t)]) _
  refine stp (fun _ => ldcAgain X9 hx hZ hown (hw _ (List.mem_of_getElem? (i := 34) rfl)) Li2 (g := (mkF m 18 #[.val (.ref t), .val (.ref ca), .val (.int (0 : Int32)), .val (.int (0 : Int32)), .val .null, .unset] [(.ref t)])) rfl (hb hby d3_18) _) ?_
  show Go p e below T9 (mkF m 20 #[.val (.ref t), .val (.ref ca), .val (.int (0 : Int32)), .val (.int (0 : Int32)), .val .null, .unset] [(.ref la2), (.ref t)]) _
  obtain ⟨T18, X18, e18, st18⟩ := getF X9 hx hZ hown (host := "") (Or.inl (hw _ (List.mem_of_getElem? (i := 30) rfl))) Via.refl e9 f15 (g := (mkF m 20 #[.val (.ref t), .val (.ref ca), .val (.int (0 : Int32)), .val (.int (0 : Int32)), .val .null, .unset] [(.ref la2), (.ref t)])) rfl rfl (hb hby d3_20)
  refine stp st18 ?_
  show Go p e below T18 (mkF m 23 #[.val (.ref t), .val (.ref ca), .val (.int (0 : Int32)), .val (.int (0 : Int32)), .val .null, .unset] [(.int (0 : Int32)), (.ref t)]) _
  obtain ⟨T19, h19, X19, e19, W19, st19⟩ := putFN X18 hx hZ hown (hw _ (List.mem_of_getElem? (i := 30) rfl)) Via.refl e18 f12 f10 (Or.inr ⟨(hw _ (List.mem_of_getElem? (i := 31) rfl)), rfl, hnm⟩) (hw _ (List.mem_of_getElem? (i := 5) rfl)) (ty := .byte) (v' := (.int (0 : Int32))) (by decide) rfl rfl (g := (mkF m 23 #[.val (.ref t), .val (.ref ca), .val (.int (0 : Int32)), .val (.int (0 : Int32)), .val .null, .unset] [(.int (0 : Int32)), (.ref t)])) rfl rfl (hb hby d3_23)
  have Fw19 := f12.same W19
  have f20 := f10.wr W19
  have f21 := Fw9.other W19 (Or.inr (slot_ne (Or.inr (hw _ (List.mem_of_getElem? (i := 33) rfl))) (Or.inr (hw _ (List.mem_of_getElem? (i := 31) rfl))) (by decide) (t := (.array .byte)) (t' := .byte) (by decide) (by decide)))
  have f23 := Safe.wr W19 f13 CR.1 f13
  have f24 := f14.wr W19
  have f25 := f15.other W19 (Or.inl (Ne.symm ne7.1))
  have f26 := f16.other W19 (Or.inl (Ne.symm ne7.1))
  have f27 := f17.other W19 (Ne.symm ne7.2)
  have hk := Nat.le_trans hk (Keep.of_wr W19).1
  have CR := CR.trans (CHr.wr W19 f13 CR.1)
  have K19 : Keep h0 h19 [t] := K9.wr W19 (Or.inl (List.mem_of_getElem? (i := 0) rfl))
  have O19 := O9.wr W19 ge_t
  have N19 := Fr.snoc X19 N9 ge_t
  refine stp st19 ?_
  show Go p e below T19 (mkF m 26 #[.val (.ref t), .val (.ref ca), .val (.int (0 : Int32)), .val (.int (0 : Int32)), .val .null, .unset] []) _
  have Q28 : StrIs Z h19 t [] := StrIs.of f20 f21 Fw19 f27 rfl rfl (fun _ q => nomatch q) (Nat.le_of_ble_eq_true rfl)
  refine outVW X19 hx hZ hEL e19 hS hk CR hret (hb hby d3_26) hlk (by decide) (by decide) ?_
  rw [e19]
  exact ⟨rfl, N19, K19, Q28⟩
theorem d2_0 : decode jdk_42_method_3_code 0 = .ok (.aload_n 0, 1) := by decide +kernel
theorem d2_1 : decode jdk_42_method_3_code 1 = .ok (.aload_n 1, 1) := by decide +kernel
theorem d2_2 : decode jdk_42_method_3_code 2 = .ok (.iconst 0, 1) := by decide +kernel
theorem d2_3 : decode jdk_42_method_3_code 3 = .ok (.aload_n 1, 1) := by decide +kernel
theorem d2_4 : decode jdk_42_method_3_code 4 = .ok (.arraylength, 1) := by decide +kernel
theorem d2_5 : decode jdk_42_method_3_code 5 = .ok (.aconst_null, 1) := by decide +kernel
theorem d2_6 : decode jdk_42_method_3_code 6 = .ok (.invokespecial 27, 3) := by decide +kernel
theorem pd_0 : parseMethodDescriptor "([CIILjava/lang/Void;)V" = some ⟨[(.array .char), .int, .int, (.object "java/lang/Void")], none⟩ := by decide +kernel
theorem d2_9 : decode jdk_42_method_3_code 9 = .ok (.return_, 1) := by decide +kernel
theorem ef_rm_s0 (m : MethodId) (t : Addr) (ca : Addr)  : entryFrame m #[(.ref t), (.ref ca)] 2 = mkF m 0 #[.val (.ref t), .val (.ref ca)] [] := by first | (simp [entryFrame, mkF, argsToLocals, Value.category]; done) | rfl
def Q_rm_s0 (Z : State) (t : Addr) (ca : Addr) (k_ca : ClassId) (h0 : Heap) (n0 : Nat) (v : Option Value) (h : Heap) (L : List Loc) : Prop := v = none ∧ Fr n0 L ∧ Keep h0 h [t] ∧ StrIs Z h t []
theorem pn_1_ : plainName "java/lang/String" = true := by first | (simp [plainName, overriddenIn]; done) | decide +kernel
theorem pn_1 : plainFor (⟨"java/lang/String", "<init>", "([C)V"⟩ : MethodName) = true := plainFor_of_name pn_1_
set_option maxRecDepth 65536 in
set_option maxHeartbeats 40000000 in
theorem rm_s0 (l : Launch) (Z : State) (a0 : Array Value) (hw : ∀ d ∈ tables_1, d.before a0 Z = true) (ws : List Jvm.Cond) (t : Addr) (ca : Addr) (k_ca : ClassId) (h0 : Heap) (n0 : Nat) (O0 : Old Z n0 h0) (hEL : EW Z a0 consts_1) (E_t : Exa Z h0 t "java/lang/String") (F_t_value : Fld Z h0 t "java/lang/String" "value" "[B" .null) (F_t_coder : Fld Z h0 t "java/lang/String" "coder" "B" (.int (0 : Int32))) (V_ca : Arv Z h0 ca k_ca .char (0 : Int32) [] (.int (0 : Int32))) (ge_t : n0 ≤ t) (ne_ca_t : ca ≠ t) :
    MetFree l (⟨"java/lang/String", "<init>", "([C)V"⟩ : MethodName) (head1 (Jvm.Cond.code (⟨"java/lang/String", "<init>", "([C)V"⟩ : MethodName) jdk_42_method_3_code 2 none :: ws) ({ frames := 2, cells := 2, slots := 4, locals := 29 } : Room)) (fun args_ U => args_ = #[(.ref t), (.ref ca)] ∧ Z.Warmed39 U.vm ∧ U.heap = h0 ∧ CHv Z consts_1 U.vm h0) (fun _ _ _ _ _ => True) (fun _ U out_ U' => ∃ val_ loc_, out_ = .returned val_ ∧ (Q_rm_s0 Z t ca k_ca h0 n0) val_ U'.heap loc_ ∧ CHr Z consts_1 U.vm U.heap U'.vm U'.heap ∧ ReturnedEndW U out_ U' loc_ ({ frames := 2, cells := 2, slots := 4, locals := 29 } : Room).cells ({ frames := 2, cells := 2, slots := 4, locals := 29 } : Room).slots) := by
  refine startW (Q := (Q_rm_s0 Z t ca k_ca h0 n0)) pn_1 ?_
  intro p e s m below meth c T0 X0 hx hby hml hown hnm hret hlk hZ e0 hS CR
  have hk : 0 ≤ h0.size := Nat.zero_le _
  have wS : ∀ a ∈ Bundle.stringAtoms, a.before a0 Z = true := own_wS hw
  replace hown : s.vm.findClass "java/lang/String" = some m.cls := hown
  replace hml : c.maxLocals = 2 := hml
  refine goAt (ef_rm_s0 m t ca ) ?_
  have N0 := Fr.nil n0
  have Sf_t := safeNull (EL := consts_1) hZ.alike E_t F_t_value
  show Go p e below T0 (mkF m 0 #[.val (.ref t), .val (.ref ca)] []) _
  refine stp (fun _ => XS.aloadN X0.here hx rfl (hb hby d2_0) rfl rfl) ?_
  show Go p e below T0 (mkF m 1 #[.val (.ref t), .val (.ref ca)] [(.ref t)]) _
  refine stp (fun _ => XS.aloadN X0.here hx rfl (hb hby d2_1) rfl rfl) ?_
  show Go p e below T0 (mkF m 2 #[.val (.ref t), .val (.ref ca)] [(.ref ca), (.ref t)]) _
  refine stp (fun _ => XS.iconst X0.here hx rfl (hb hby d2_2)) ?_
  show Go p e below T0 (mkF m 3 #[.val (.ref t), .val (.ref ca)] [(.int (0 : Int32)), (.ref ca), (.ref t)]) _
  refine stp (fun _ => XS.aloadN X0.here hx rfl (hb hby d2_3) rfl rfl) ?_
  show Go p e below T0 (mkF m 4 #[.val (.ref t), .val (.ref ca)] [(.ref ca), (.int (0 : Int32)), (.ref ca), (.ref t)]) _
  obtain ⟨cl1, Ar1, -, S1, M1, -, -⟩ := (id V_ca)
  refine stp (fun _ => X0.arraylength hx (by rw [e0]; exact Ar1.1) (State.isArrayOf_alike hZ.alike Ar1.2.1) (g := (mkF m 4 #[.val (.ref t), .val (.ref ca)] [(.ref ca), (.int (0 : Int32)), (.ref ca), (.ref t)])) rfl rfl (hb hby d2_4) _) ?_
  rw [len_of S1 M1]
  show Go p e below T0 (mkF m 5 #[.val (.ref t), .val (.ref ca)] [(.int (0 : Int32)), (.int (0 : Int32)), (.ref ca), (.ref t)]) _
  refine stp (fun _ => XS.aconstNull X0.here hx rfl (hb hby d2_5)) ?_
  show Go p e below T0 (mkF m 6 #[.val (.ref t), .val (.ref ca)] [.null, (.int (0 : Int32)), (.int (0 : Int32)), (.ref ca), (.ref t)]) _
  obtain ⟨_, _, ⟨T2, L2, k2, n2⟩, -, X2, hS2, gg2, ⟨Lc2, hQ2, l2, y2, z2, CRn2⟩, st2⟩ := X0.specialBackS hx (y := (⟨"java/lang/String", "<init>", "([CIILjava/lang/Void;)V"⟩ : MethodName)) rfl hown (mvT hZ (hw _ (List.mem_of_getElem? (i := 11) rfl))) (mvT hZ (hw _ (List.mem_of_getElem? (i := 12) rfl))) (mvT hZ (hw _ (List.mem_of_getElem? (i := 14) rfl))) (by decide) (backOfSH (W := 0) (rm_s0v l Z a0 hw [] t ca  h0 n0 O0 hEL E_t F_t_value F_t_coder ge_t) hZ (hw _ (List.mem_of_getElem? (i := 14) rfl)) (hw _ (List.mem_of_getElem? (i := 6) rfl)) (by decide) (by decide) hEL CR.1) (g := (mkF m 6 #[.val (.ref t), .val (.ref ca)] [.null, (.int (0 : Int32)), (.int (0 : Int32)), (.ref ca), (.ref t)])) rfl (by rw [hml]; rfl) (Steps.refl _) (a := t) (argsL := [(.ref ca), (.int (0 : Int32)), (.int (0 : Int32)), .null]) (rest := []) (lenOf pd_0 rfl) rfl (by show 2 * 0 + _ ≤ _; exact Nat.le_of_eq rfl) (hb hby d2_6) (fun _ _ => ⟨rfl, e0, (by decide : 0 + 2 ≤ _), (by decide : 0 + 4 ≤ _)⟩)
  dsimp only [Pt.U, Pt.locs, Pt.cells, Pt.slots] at X2 hS2 gg2 l2 y2 z2 st2 hQ2 CRn2
  subst y2 z2
  obtain ⟨X2, hS, hZ, hown⟩ := rebS hS (by rw [e0]; exact hk) X2 hS2 gg2 hZ hown
  obtain ⟨rfl, N2q, K2q, r2_0⟩ := hQ2
  have N2 : Fr n0 L2 := by rw [l2]; exact Fr.app N0 N2q
  have f3 := E_t.keep K2q
  have f4 := V_ca.keep K2q (ninS ne_ca_t nin0)
  have f5 := CRn2.safe F_t_coder.lt Sf_t
  have K2 : Keep h0 T2.heap [t] := (Keep.refl h0 [t]).trans K2q (allS (Or.inl (List.mem_of_getElem? (i := 0) rfl)) all0)
  have O2 := O0.keep K2q (allS ge_t all0)
  have hk : T2.heap.size ≤ T2.heap.size := Nat.le_refl _
  have CR := CR.trans CRn2
  refine stt st2 ?_
  show Go p e below T2 (mkF m 9 #[.val (.ref t), .val (.ref ca)] []) _
  refine outVW X2 hx hZ hEL rfl hS hk CR hret (hb hby d2_9) hlk (by decide) (by decide) ?_
  exact ⟨rfl, N2, K2, r2_0⟩
theorem d1_0 : decode method_2_code 0 = .ok (.iload_n 0, 1) := by decide +kernel
theorem d1_1 : decode method_2_code 1 = .ok (.ifCond .ne 14, 3) := by decide +kernel
theorem d1_4 : decode method_2_code 4 = .ok (.new 7, 3) := by decide +kernel
theorem d1_7 : decode method_2_code 7 = .ok (.dup, 1) := by decide +kernel
theorem d1_8 : decode method_2_code 8 = .ok (.iconst 0, 1) := by decide +kernel
theorem d1_9 : decode method_2_code 9 = .ok (.newarray .char, 2) := by decide +kernel
theorem d1_11 : decode method_2_code 11 = .ok (.invokespecial 9, 3) := by decide +kernel
theorem pd_1 : parseMethodDescriptor "([C)V" = some ⟨[(.array .char)], none⟩ := by decide +kernel
theorem d1_14 : decode method_2_code 14 = .ok (.areturn, 1) := by decide +kernel
theorem d1_15 : decode method_2_code 15 = .ok (.iload_n 0, 1) := by decide +kernel
theorem d1_16 : decode method_2_code 16 = .ok (.iconst 1, 1) := by decide +kernel
theorem d1_17 : decode method_2_code 17 = .ok (.if_icmp .ne 18, 3) := by decide +kernel
theorem d1_20 : decode method_2_code 20 = .ok (.new 7, 3) := by decide +kernel
theorem d1_23 : decode method_2_code 23 = .ok (.dup, 1) := by decide +kernel
theorem d1_24 : decode method_2_code 24 = .ok (.iconst 1, 1) := by decide +kernel
theorem d1_25 : decode method_2_code 25 = .ok (.newarray .char, 2) := by decide +kernel
theorem d1_27 : decode method_2_code 27 = .ok (.dup, 1) := by decide +kernel
theorem d1_28 : decode method_2_code 28 = .ok (.iconst 0, 1) := by decide +kernel
theorem d1_29 : decode method_2_code 29 = .ok (.iload_n 1, 1) := by decide +kernel
theorem d1_30 : decode method_2_code 30 = .ok (.castore, 1) := by decide +kernel
theorem d1_31 : decode method_2_code 31 = .ok (.invokespecial 9, 3) := by decide +kernel
theorem d1_34 : decode method_2_code 34 = .ok (.areturn, 1) := by decide +kernel
theorem d1_35 : decode method_2_code 35 = .ok (.new 7, 3) := by decide +kernel
theorem d1_38 : decode method_2_code 38 = .ok (.dup, 1) := by decide +kernel
theorem d1_39 : decode method_2_code 39 = .ok (.iconst 2, 1) := by decide +kernel
theorem d1_40 : decode method_2_code 40 = .ok (.newarray .char, 2) := by decide +kernel
theorem d1_42 : decode method_2_code 42 = .ok (.dup, 1) := by decide +kernel
theorem d1_43 : decode method_2_code 43 = .ok (.iconst 0, 1) := by decide +kernel
theorem d1_44 : decode method_2_code 44 = .ok (.iload_n 1, 1) := by decide +kernel
theorem d1_45 : decode method_2_code 45 = .ok (.castore, 1) := by decide +kernel
theorem d1_46 : decode method_2_code 46 = .ok (.dup, 1) := by decide +kernel
theorem d1_47 : decode method_2_code 47 = .ok (.iconst 1, 1) := by decide +kernel
theorem d1_48 : decode method_2_code 48 = .ok (.iload_n 2, 1) := by decide +kernel
theorem d1_49 : decode method_2_code 49 = .ok (.castore, 1) := by decide +kernel
theorem d1_50 : decode method_2_code 50 = .ok (.invokespecial 9, 3) := by decide +kernel
theorem d1_53 : decode method_2_code 53 = .ok (.areturn, 1) := by decide +kernel
theorem ef_rm_mk (m : MethodId) (n : Int32) (c0 : Int32) (c1 : Int32)  : entryFrame m #[(.int n), (.int c0), (.int c1)] 3 = mkF m 0 #[.val (.int n), .val (.int c0), .val (.int c1)] [] := by first | (simp [entryFrame, mkF, argsToLocals, Value.category]; done) | rfl
def Q_rm_mk (Z : State) (n : Int32) (c0 : Int32) (c1 : Int32) (cz : Int32) (h0 : Heap) (n0 : Nat) (v : Option Value) (h : Heap) (L : List Loc) : Prop := ∃ (r : Addr), v = some (.ref r) ∧ Fr n0 L ∧ Keep h0 h [] ∧ (n0 ≤ r ∧ h0.size ≤ r) ∧ StrIs Z h r (own_cs n c0 c1)
theorem pn_2_ : plainName "com/example/revlint/revlint/model/TypeVariableEqualsPinLaw" = true := by first | (simp [plainName, overriddenIn]; done) | decide +kernel
theorem pn_2 : plainFor (⟨"com/example/revlint/revlint/model/TypeVariableEqualsPinLaw", "make", "(ICC)Ljava/lang/String;"⟩ : MethodName) = true := plainFor_of_name pn_2_
set_option maxRecDepth 65536 in
set_option maxHeartbeats 40000000 in
theorem rm_mk (l : Launch) (Z : State) (a0 : Array Value) (hw : ∀ d ∈ tables_1, d.before a0 Z = true) (ws : List Jvm.Cond) (n : Int32) (c0 : Int32) (c1 : Int32) (cz : Int32) (h0 : Heap) (n0 : Nat) (O0 : Old Z n0 h0) (hEL : EW Z a0 consts_1) (S_COMPACT_STRINGS : Sta Z Z.heap "java/lang/String" "COMPACT_STRINGS" "Z" (.int cz)) (hcz : ¬ cz = (0 : Int32)) (hc0 : ¬ c0 < 0 ∧ ¬ (255 : Int32) < c0) (hc1 : ¬ c1 < 0 ∧ ¬ (255 : Int32) < c1) :
    MetFree l (⟨"com/example/revlint/revlint/model/TypeVariableEqualsPinLaw", "make", "(ICC)Ljava/lang/String;"⟩ : MethodName) (head1 (Jvm.Cond.code (⟨"com/example/revlint/revlint/model/TypeVariableEqualsPinLaw", "make", "(ICC)Ljava/lang/String;"⟩ : MethodName) method_2_code 3 (some (.object "java/lang/String")) :: ws) ({ frames := 4, cells := 4, slots := 8, locals := 66 } : Room)) (fun args_ U => args_ = #[(.int n), (.int c0), (.int c1)] ∧ Z.Warmed39 U.vm ∧ U.heap = h0 ∧ CHv Z consts_1 U.vm h0) (fun _ _ _ _ _ => True) (fun _ U out_ U' => ∃ val_ loc_, out_ = .returned val_ ∧ (Q_rm_mk Z n c0 c1 cz h0 n0) val_ U'.heap loc_ ∧ CHr Z consts_1 U.vm U.heap U'.vm U'.heap ∧ ReturnedEndW U out_ U' loc_ ({ frames := 4, cells := 4, slots := 8, locals := 66 } : Room).cells ({ frames := 4, cells := 4, slots := 8, locals := 66 } : Room).slots) := by
  refine startW (Q := (Q_rm_mk Z n c0 c1 cz h0 n0)) pn_2 ?_
  intro p e s m below meth c T0 X0 hx hby hml hown hnm hret hlk hZ e0 hS CR
  have hk : 0 ≤ h0.size := Nat.zero_le _
  have wS : ∀ a ∈ Bundle.stringAtoms, a.before a0 Z = true := own_wS hw
  replace hown : s.vm.findClass "com/example/revlint/revlint/model/TypeVariableEqualsPinLaw" = some m.cls := hown
  replace hml : c.maxLocals = 3 := hml
  refine goAt (ef_rm_mk m n c0 c1 ) ?_
  have N0 := Fr.nil n0
  have hws : ∀ d ∈ StrChars.Road.words, d.before a0 Z = true := fun d hd => hw d ((by decide +kernel : ∀ d ∈ StrChars.Road.words, d ∈ tables_1) d hd)
  show Go p e below T0 (mkF m 0 #[.val (.int n), .val (.int c0), .val (.int c1)] []) _
  refine stp (fun _ => XS.iloadN X0.here hx rfl (hb hby d1_0) rfl) ?_
  show Go p e below T0 (mkF m 1 #[.val (.int n), .val (.int c0), .val (.int c1)] [(.int n)]) _
  by_cases q1_1 : n = 0
  · refine stp (fun _ => XS.ifNo X0.here hx rfl (hb hby d1_1) rfl (XT.i0_ne_f q1_1)) ?_
    show Go p e below T0 (mkF m 4 #[.val (.int n), .val (.int c0), .val (.int c1)] []) _
    obtain ⟨T2, h2, X2, e2, E2, A2, D2, -, st2⟩ := newO X0 hx hZ hown (hw _ (List.mem_of_getElem? (i := 4) rfl)) (hw _ (List.mem_of_getElem? (i := 5) rfl)) (hw _ (List.mem_of_getElem? (i := 6) rfl)) e0 (g := (mkF m 4 #[.val (.int n), .val (.int c0), .val (.int c1)] [])) rfl (hb hby d1_4) (by decide) (by decide)
    obtain ⟨b2, g2⟩ : ∃ z, z = h0.size := ⟨_, rfl⟩
    rw [← g2] at A2 D2 st2
    have sz_b2 : h0.size ≤ b2 := Nat.le_trans (Keep.refl h0 []).1 (Nat.le_of_eq g2.symm)
    have ge_b2 : n0 ≤ b2 := Nat.le_trans (old_le O0) (Nat.le_of_eq g2.symm)
    have Sf2 := (Safe.new (Z := Z) (EL := consts_1) (Nat.le_of_eq g2.symm)).ext E2 CR.1
    have hk := Nat.le_trans hk E2.1
    have CR := CR.trans (CHr.ext E2 CR.1)
    have K2 : Keep h0 h2 [] := (Keep.refl h0 []).ext E2
    have O2 := O0.ext E2
    have F3 : Fld Z h2 b2 "java/lang/String" "coder" "B" (.int (0 : Int32)) := D2 (Or.inr (hw _ (List.mem_of_getElem? (i := 31) rfl))) (ty := .byte) (by decide)
    have F4 : Fld Z h2 b2 "java/lang/String" "value" "[B" .null := D2 (Or.inr (hw _ (List.mem_of_getElem? (i := 33) rfl))) (ty := (.array .byte)) (by decide)
    refine stp st2 ?_
    show Go p e below T2 (mkF m 7 #[.val (.int n), .val (.int c0), .val (.int c1)] [(.ref b2)]) _
    refine stp (fun _ => XS.dup X2.here hx rfl (hb hby d1_7) rfl rfl) ?_
    show Go p e below T2 (mkF m 8 #[.val (.int n), .val (.int c0), .val (.int c1)] [(.ref b2), (.ref b2)]) _
    refine stp (fun _ => XS.iconst X2.here hx rfl (hb hby d1_8)) ?_
    show Go p e below T2 (mkF m 9 #[.val (.int n), .val (.int c0), .val (.int c1)] [(.int (0 : Int32)), (.ref b2), (.ref b2)]) _
    obtain ⟨T5, h5, k5, X5, e5, E5, A5, B5, st5⟩ := newPE X2 hx hZ (hw _ (List.mem_of_getElem? (i := 7) rfl)) e2 (g := (mkF m 9 #[.val (.int n), .val (.int c0), .val (.int c1)] [(.int (0 : Int32)), (.ref b2), (.ref b2)])) rfl (hb hby d1_9) rfl (by decide) (cap := 0) (by decide) (by decide) (by decide) (by decide) (ad := "[C") (by decide)
    obtain ⟨b5, g5⟩ : ∃ z, z = h2.size := ⟨_, rfl⟩
    rw [← g5] at A5 B5 st5
    have ne6 : b2 ≠ b5 := Nat.ne_of_lt (Nat.lt_of_lt_of_le A2.lt (Nat.le_of_eq g5.symm))
    have sz_b5 : h0.size ≤ b5 := Nat.le_trans K2.1 (Nat.le_of_eq g5.symm)
    have ge_b5 : n0 ≤ b5 := Nat.le_trans (old_le O2) (Nat.le_of_eq g5.symm)
    have f7 := Sf2.ext E5 CR.1
    have f8 := A2.ext E5
    have f9 := F3.ext E5
    have f10 := F4.ext E5
    have hk := Nat.le_trans hk E5.1
    have CR := CR.trans (CHr.ext E5 CR.1)
    have K5 : Keep h0 h5 [] := K2.ext E5
    have O5 := O2.ext E5
    have V5 : Arv Z h5 b5 k5 .char (0 : Int32) [] (.int (0 : Int32)) := (Arv.new A5 (by decide)).pad (pad_rep [] (.int (0 : Int32)) 0)
    refine stp st5 ?_
    show Go p e below T5 (mkF m 11 #[.val (.int n), .val (.int c0), .val (.int c1)] [(.ref b5), (.ref b2), (.ref b2)]) _
    obtain ⟨_, _, ⟨T11, L11, k11, n11⟩, -, X11, hS11, gg11, ⟨Lc11, hQ11, l11, y11, z11, CRn11⟩, st11⟩ := X5.specialBackS hx (y := (⟨"java/lang/String", "<init>", "([C)V"⟩ : MethodName)) rfl hown (mvT hZ (hw _ (List.mem_of_getElem? (i := 8) rfl))) (mvT hZ (hw _ (List.mem_of_getElem? (i := 9) rfl))) (mvT hZ (hw _ (List.mem_of_getElem? (i := 10) rfl))) (by decide) (backOfSH (W := 1) (rm_s0 l Z a0 hw [] b2 b5 k5 h5 n0 O5 hEL f8 f10 f9 V5 ge_b2 (Ne.symm ne6)) hZ (hw _ (List.mem_of_getElem? (i := 10) rfl)) (hw _ (List.mem_of_getElem? (i := 6) rfl)) (by decide) (by decide) hEL CR.1) (g := (mkF m 11 #[.val (.int n), .val (.int c0), .val (.int c1)] [(.ref b5), (.ref b2), (.ref b2)])) rfl (by rw [hml]; rfl) (Steps.refl _) (a := b2) (argsL := [(.ref b5)]) (rest := [(.ref b2)]) (lenOf pd_1 rfl) rfl (by show 2 * 0 + _ ≤ _; exact Nat.le_of_eq rfl) (hb hby d1_11) (fun _ _ => ⟨rfl, e5, (by decide : 2 + 2 ≤ _), (by decide : 4 + 4 ≤ _)⟩)
    dsimp only [Pt.U, Pt.locs, Pt.cells, Pt.slots] at X11 hS11 gg11 l11 y11 z11 st11 hQ11 CRn11
    subst y11 z11
    obtain ⟨X11, hS, hZ, hown⟩ := rebS hS (by rw [e5]; exact hk) X11 hS11 gg11 hZ hown
    obtain ⟨rfl, N11q, K11q, r11_0⟩ := hQ11
    have N11 : Fr n0 L11 := by rw [l11]; exact Fr.app N0 N11q
    have f12 := CRn11.safe f10.lt f7
    have f13 := f8.keep K11q
    have f14 := B5.keep K11q
    have f15 := V5.keep K11q (ninS (Ne.symm ne6) nin0)
    have K11 : Keep h0 T11.heap [] := K5.trans K11q (allS (Or.inr sz_b2) all0)
    have O11 := O5.keep K11q (allS ge_b2 all0)
    have hk : T11.heap.size ≤ T11.heap.size := Nat.le_refl _
    have CR := CR.trans CRn11
    refine stt st11 ?_
    show Go p e below T11 (mkF m 14 #[.val (.int n), .val (.int c0), .val (.int c1)] [(.ref b2)]) _
    refine outAW X11 hx hZ hEL rfl hS hk CR hret rfl rfl (hb hby d1_14) hlk (by decide) (by decide) ?_
    exact ⟨b2, rfl, N11, K11, ⟨ge_b2, sz_b2⟩, (own_cs_of (by simp only [own_cs, if_pos q1_1]) r11_0)⟩
  · refine stp (fun _ => XS.ifYes X0.here hx rfl (pc0 := 1) (pc' := 15) rfl (hb hby d1_1) rfl (XT.i0_ne_t q1_1) (by decide) (by decide)) ?_
    show Go p e below T0 (mkF m 15 #[.val (.int n), .val (.int c0), .val (.int c1)] []) _
    refine stp (fun _ => XS.iloadN X0.here hx rfl (hb hby d1_15) rfl) ?_
    show Go p e below T0 (mkF m 16 #[.val (.int n), .val (.int c0), .val (.int c1)] [(.int n)]) _
    refine stp (fun _ => XS.iconst X0.here hx rfl (hb hby d1_16)) ?_
    show Go p e below T0 (mkF m 17 #[.val (.int n), .val (.int c0), .val (.int c1)] [(.int (1 : Int32)), (.int n)]) _
    by_cases q17_16 : n = (1 : Int32)
    · refine stp (fun _ => XS.icmpNo X0.here hx rfl (hb hby d1_17) rfl (XT.ii_ne_f q17_16)) ?_
      show Go p e below T0 (mkF m 20 #[.val (.int n), .val (.int c0), .val (.int c1)] []) _
      obtain ⟨T17, h17, X17, e17, E17, A17, D17, -, st17⟩ := newO X0 hx hZ hown (hw _ (List.mem_of_getElem? (i := 4) rfl)) (hw _ (List.mem_of_getElem? (i := 5) rfl)) (hw _ (List.mem_of_getElem? (i := 6) rfl)) e0 (g := (mkF m 20 #[.val (.int n), .val (.int c0), .val (.int c1)] [])) rfl (hb hby d1_20) (by decide) (by decide)
      obtain ⟨b17, g17⟩ : ∃ z, z = h0.size := ⟨_, rfl⟩
      rw [← g17] at A17 D17 st17
      have sz_b17 : h0.size ≤ b17 := Nat.le_trans (Keep.refl h0 []).1 (Nat.le_of_eq g17.symm)
      have ge_b17 : n0 ≤ b17 := Nat.le_trans (old_le O0) (Nat.le_of_eq g17.symm)
      have Sf17 := (Safe.new (Z := Z) (EL := consts_1) (Nat.le_of_eq g17.symm)).ext E17 CR.1
      have hk := Nat.le_trans hk E17.1
      have CR := CR.trans (CHr.ext E17 CR.1)
      have K17 : Keep h0 h17 [] := (Keep.refl h0 []).ext E17
      have O17 := O0.ext E17
      have F18 : Fld Z h17 b17 "java/lang/String" "coder" "B" (.int (0 : Int32)) := D17 (Or.inr (hw _ (List.mem_of_getElem? (i := 31) rfl))) (ty := .byte) (by decide)
      have F19 : Fld Z h17 b17 "java/lang/String" "value" "[B" .null := D17 (Or.inr (hw _ (List.mem_of_getElem? (i := 33) rfl))) (ty := (.array .byte)) (by decide)
      refine stp st17 ?_
      show Go p e below T17 (mkF m 23 #[.val (.int n), .val (.int c0), .val (.int c1)] [(.ref b17)]) _
      refine stp (fun _ => XS.dup X17.here hx rfl (hb hby d1_23) rfl rfl) ?_
      show Go p e below T17 (mkF m 24 #[.val (.int n), .val (.int c0), .val (.int c1)] [(.ref b17), (.ref b17)]) _
      refine stp (fun _ => XS.iconst X17.here hx rfl (hb hby d1_24)) ?_
      show Go p e below T17 (mkF m 25 #[.val (.int n), .val (.int c0), .val (.int c1)] [(.int (1 : Int32)), (.ref b17), (.ref b17)]) _
      obtain ⟨T20, h20, k20, X20, e20, E20, A20, B20, st20⟩ := newPE X17 hx hZ (hw _ (List.mem_of_getElem? (i := 7) rfl)) e17 (g := (mkF m 25 #[.val (.int n), .val (.int c0), .val (.int c1)] [(.int (1 : Int32)), (.ref b17), (.ref b17)])) rfl (hb hby d1_25) rfl (by decide) (cap := 1) (by decide) (by decide) (by decide) (by decide) (ad := "[C") (by decide)
      obtain ⟨b20, g20⟩ : ∃ z, z = h17.size := ⟨_, rfl⟩
      rw [← g20] at A20 B20 st20
      have ne21 : b17 ≠ b20 := Nat.ne_of_lt (Nat.lt_of_lt_of_le A17.lt (Nat.le_of_eq g20.symm))
      have sz_b20 : h0.size ≤ b20 := Nat.le_trans K17.1 (Nat.le_of_eq g20.symm)
      have ge_b20 : n0 ≤ b20 := Nat.le_trans (old_le O17) (Nat.le_of_eq g20.symm)
      have f22 := Sf17.ext E20 CR.1
      have f23 := A17.ext E20
      have f24 := F18.ext E20
      have f25 := F19.ext E20
      have hk := Nat.le_trans hk E20.1
      have CR := CR.trans (CHr.ext E20 CR.1)
      have K20 : Keep h0 h20 [] := K17.ext E20
      have O20 := O17.ext E20
      have V20 : Arv Z h20 b20 k20 .char (1 : Int32) [(.int (0 : Int32))] (.int (0 : Int32)) := (Arv.new A20 (by decide)).pad (pad_rep [] (.int (0 : Int32)) 1)
      refine stp st20 ?_
      show Go p e below T20 (mkF m 27 #[.val (.int n), .val (.int c0), .val (.int c1)] [(.ref b20), (.ref b17), (.ref b17)]) _
      refine stp (fun _ => XS.dup X20.here hx rfl (hb hby d1_27) rfl rfl) ?_
      show Go p e below T20 (mkF m 28 #[.val (.int n), .val (.int c0), .val (.int c1)] [(.ref b20), (.ref b20), (.ref b17), (.ref b17)]) _
      refine stp (fun _ => XS.iconst X20.here hx rfl (hb hby d1_28)) ?_
      show Go p e below T20 (mkF m 29 #[.val (.int n), .val (.int c0), .val (.int c1)] [(.int (0 : Int32)), (.ref b20), (.ref b20), (.ref b17), (.ref b17)]) _
      refine stp (fun _ => XS.iloadN X20.here hx rfl (hb hby d1_29) rfl) ?_
      show Go p e below T20 (mkF m 30 #[.val (.int n), .val (.int c0), .val (.int c1)] [(.int c0), (.int (0 : Int32)), (.ref b20), (.ref b20), (.ref b17), (.ref b17)]) _
      obtain ⟨cl26, Ar26, q26, S26, M26, H26, G26⟩ := (id V20)
      have in26 : ¬ ((0 : Int32) < 0 ∨ cl26.slots.size ≤ ((0 : Int32)).toNatClampNeg) := inb_of S26 ⟨by decide, by decide⟩
      obtain ⟨T26, h26, X26, e26, W26, st26⟩ := stC X20 hx hZ e20 Ar26 (j := (0 : Int32)) in26 (g := (mkF m 30 #[.val (.int n), .val (.int c0), .val (.int c1)] [(.int c0), (.int (0 : Int32)), (.ref b20), (.ref b20), (.ref b17), (.ref b17)])) rfl rfl (hb hby d1_30)
      have V26 : Arv Z h26 b20 k20 .char (1 : Int32) [(.int c0)] (.int (0 : Int32)) := Arv.set Ar26 q26 S26 M26 H26 G26 (ow_fits_char (char255 hc0)) (ow_wr_char (char255 hc0) W26) 0 rfl (Nat.le_of_ble_eq_true rfl)
      have f27 := Safe.wr W26 (Safe.exa hZ.alike B20 (by decide) (by decide)) CR.1 f22
      have f28 := f23.wr W26
      have f29 := f24.other W26 (Or.inl ne21)
      have f30 := f25.other W26 (Or.inl ne21)
      have f31 := B20.wr W26
      have hk := Nat.le_trans hk (Keep.of_wr W26).1
      have CR := CR.trans (CHr.wr W26 (Safe.exa hZ.alike B20 (by decide) (by decide)) CR.1)
      have K26 : Keep h0 h26 [] := K20.wr W26 (Or.inr sz_b20)
      have O26 := O20.wr W26 ge_b20
      have N26 := Fr.snoc X26 N0 ge_b20
      refine stp st26 ?_
      show Go p e below T26 (mkF m 31 #[.val (.int n), .val (.int c0), .val (.int c1)] [(.ref b20), (.ref b17), (.ref b17)]) _
      obtain ⟨_, _, ⟨T33, L33, k33, n33⟩, -, X33, ⟨Lc33, hQ33, l33, y33, z33⟩, st33⟩ := X26.specialBack hx (y := (⟨"java/lang/String", "<init>", "([C)V"⟩ : MethodName)) rfl hown (mvT hZ (hw _ (List.mem_of_getElem? (i := 8) rfl))) (mvT hZ (hw _ (List.mem_of_getElem? (i := 9) rfl))) (mvT hZ (hw _ (List.mem_of_getElem? (i := 10) rfl))) (by decide) (StrChars.Road.backV (W := 1) hZ hws (kI := 4) (hw _ (List.mem_of_getElem? (i := 5) rfl)) (cs := ([c0] : List Int32)) (bs := ([c0] : List Int32).map (fun c => c.toInt8.toInt32)) (n := 1) ge_b17 (old_le O26) f28 f30 f29 V26 (S_COMPACT_STRINGS.ext O26.2) hcz rfl rfl (by decide) (by decide) (own_hp1 hc0) rfl (by decide) (by decide)) (g := (mkF m 31 #[.val (.int n), .val (.int c0), .val (.int c1)] [(.ref b20), (.ref b17), (.ref b17)])) rfl (by rw [hml]; rfl) (Steps.refl _) (a := b17) (argsL := [(.ref b20)]) (rest := [(.ref b17)]) (lenOf pd_1 rfl) rfl (by show 2 * 0 + _ ≤ _; exact Nat.le_of_eq rfl) (hb hby d1_31) (fun _ _ => ⟨rfl, e26, (by decide : 2 + 1 ≤ _), (by decide : 5 + 1 ≤ _)⟩)
      dsimp only [Pt.U, Pt.locs, Pt.cells, Pt.slots] at X33 l33 y33 z33 st33 hQ33
      subst y33 z33
      obtain ⟨rfl, N33q, K33q, E33q, C33q, t33, kb33, ge_t33, sz33q, ne33q, F33q, V33q⟩ := hQ33
      have N33 : Fr n0 L33 := by rw [l33]; exact Fr.app N26 N33q
      have ne34 : b20 ≠ t33 := Nat.ne_of_lt (Nat.lt_of_lt_of_le f31.lt sz33q)
      have f35 := f27.keep K33q (sfS f27 sf0) CR.1
      have f36 := f31.keep K33q
      have f37 := V26.keep K33q (ninS (Ne.symm ne21) nin0)
      have hk := Nat.le_trans hk K33q.1
      have CR := CR.trans (CHr.keep K33q (sfS f27 sf0) CR.1)
      have K33 : Keep h0 T33.heap [] := K26.trans K33q (allS (Or.inr sz_b17) all0)
      have sz_t33 : h0.size ≤ t33 := Nat.le_trans K26.1 sz33q
      have O33 := O26.keep K33q (allS ge_b17 all0)
      have Q33 : StrIs Z T33.heap b17 ([c0] : List Int32) := StrIs.of E33q F33q C33q V33q rfl rfl (own_hp1 hc0) (Nat.le_of_ble_eq_true rfl)
      refine stt st33 ?_
      show Go p e below T33 (mkF m 34 #[.val (.int n), .val (.int c0), .val (.int c1)] [(.ref b17)]) _
      refine outAW X33 hx hZ hEL rfl hS hk CR hret rfl rfl (hb hby d1_34) hlk (by decide) (by decide) ?_
      exact ⟨b17, rfl, N33, K33, ⟨ge_b17, sz_b17⟩, (own_cs_of (by simp only [own_cs, if_neg q1_1, if_pos q17_16]) Q33)⟩
    · refine stp (fun _ => XS.icmpYes X0.here hx rfl (pc0 := 17) (pc' := 35) rfl (hb hby d1_17) rfl (XT.ii_ne_t q17_16) (by decide) (by decide)) ?_
      show Go p e below T0 (mkF m 35 #[.val (.int n), .val (.int c0), .val (.int c1)] []) _
      obtain ⟨T38, h38, X38, e38, E38, A38, D38, -, st38⟩ := newO X0 hx hZ hown (hw _ (List.mem_of_getElem? (i := 4) rfl)) (hw _ (List.mem_of_getElem? (i := 5) rfl)) (hw _ (List.mem_of_getElem? (i := 6) rfl)) e0 (g := (mkF m 35 #[.val (.int n), .val (.int c0), .val (.int c1)] [])) rfl (hb hby d1_35) (by decide) (by decide)
      obtain ⟨b38, g38⟩ : ∃ z, z = h0.size := ⟨_, rfl⟩
      rw [← g38] at A38 D38 st38
      have sz_b38 : h0.size ≤ b38 := Nat.le_trans (Keep.refl h0 []).1 (Nat.le_of_eq g38.symm)
      have ge_b38 : n0 ≤ b38 := Nat.le_trans (old_le O0) (Nat.le_of_eq g38.symm)
      have Sf38 := (Safe.new (Z := Z) (EL := consts_1) (Nat.le_of_eq g38.symm)).ext E38 CR.1
      have hk := Nat.le_trans hk E38.1
      have CR := CR.trans (CHr.ext E38 CR.1)
      have K38 : Keep h0 h38 [] := (Keep.refl h0 []).ext E38
      have O38 := O0.ext E38
      have F39 : Fld Z h38 b38 "java/lang/String" "coder" "B" (.int (0 : Int32)) := D38 (Or.inr (hw _ (List.mem_of_getElem? (i := 31) rfl))) (ty := .byte) (by decide)
      have F40 : Fld Z h38 b38 "java/lang/String" "value" "[B" .null := D38 (Or.inr (hw _ (List.mem_of_getElem? (i := 33) rfl))) (ty := (.array .byte)) (by decide)
      refine stp st38 ?_
      show Go p e below T38 (mkF m 38 #[.val (.int n), .val (.int c0), .val (.int c1)] [(.ref b38)]) _
      refine stp (fun _ => XS.dup X38.here hx rfl (hb hby d1_38) rfl rfl) ?_
      show Go p e below T38 (mkF m 39 #[.val (.int n), .val (.int c0), .val (.int c1)] [(.ref b38), (.ref b38)]) _
      refine stp (fun _ => XS.iconst X38.here hx rfl (hb hby d1_39)) ?_
      show Go p e below T38 (mkF m 40 #[.val (.int n), .val (.int c0), .val (.int c1)] [(.int (2 : Int32)), (.ref b38), (.ref b38)]) _
      obtain ⟨T41, h41, k41, X41, e41, E41, A41, B41, st41⟩ := newPE X38 hx hZ (hw _ (List.mem_of_getElem? (i := 7) rfl)) e38 (g := (mkF m 40 #[.val (.int n), .val (.int c0), .val (.int c1)] [(.int (2 : Int32)), (.ref b38), (.ref b38)])) rfl (hb hby d1_40) rfl (by decide) (cap := 2) (by decide) (by decide) (by decide) (by decide) (ad := "[C") (by decide)
      obtain ⟨b41, g41⟩ : ∃ z, z = h38.size := ⟨_, rfl⟩
      rw [← g41] at A41 B41 st41
      have ne42 : b38 ≠ b41 := Nat.ne_of_lt (Nat.lt_of_lt_of_le A38.lt (Nat.le_of_eq g41.symm))
      have sz_b41 : h0.size ≤ b41 := Nat.le_trans K38.1 (Nat.le_of_eq g41.symm)
      have ge_b41 : n0 ≤ b41 := Nat.le_trans (old_le O38) (Nat.le_of_eq g41.symm)
      have f43 := Sf38.ext E41 CR.1
      have f44 := A38.ext E41
      have f45 := F39.ext E41
      have f46 := F40.ext E41
      have hk := Nat.le_trans hk E41.1
      have CR := CR.trans (CHr.ext E41 CR.1)
      have K41 : Keep h0 h41 [] := K38.ext E41
      have O41 := O38.ext E41
      have V41 : Arv Z h41 b41 k41 .char (2 : Int32) [(.int (0 : Int32)), (.int (0 : Int32))] (.int (0 : Int32)) := (Arv.new A41 (by decide)).pad (pad_rep [] (.int (0 : Int32)) 2)
      refine stp st41 ?_
      show Go p e below T41 (mkF m 42 #[.val (.int n), .val (.int c0), .val (.int c1)] [(.ref b41), (.ref b38), (.ref b38)]) _
      refine stp (fun _ => XS.dup X41.here hx rfl (hb hby d1_42) rfl rfl) ?_
      show Go p e below T41 (mkF m 43 #[.val (.int n), .val (.int c0), .val (.int c1)] [(.ref b41), (.ref b41), (.ref b38), (.ref b38)]) _
      refine stp (fun _ => XS.iconst X41.here hx rfl (hb hby d1_43)) ?_
      show Go p e below T41 (mkF m 44 #[.val (.int n), .val (.int c0), .val (.int c1)] [(.int (0 : Int32)), (.ref b41), (.ref b41), (.ref b38), (.ref b38)]) _
      refine stp (fun _ => XS.iloadN X41.here hx rfl (hb hby d1_44) rfl) ?_
      show Go p e below T41 (mkF m 45 #[.val (.int n), .val (.int c0), .val (.int c1)] [(.int c0), (.int (0 : Int32)), (.ref b41), (.ref b41), (.ref b38), (.ref b38)]) _
      obtain ⟨cl47, Ar47, q47, S47, M47, H47, G47⟩ := (id V41)
      have in47 : ¬ ((0 : Int32) < 0 ∨ cl47.slots.size ≤ ((0 : Int32)).toNatClampNeg) := inb_of S47 ⟨by decide, by decide⟩
      obtain ⟨T47, h47, X47, e47, W47, st47⟩ := stC X41 hx hZ e41 Ar47 (j := (0 : Int32)) in47 (g := (mkF m 45 #[.val (.int n), .val (.int c0), .val (.int c1)] [(.int c0), (.int (0 : Int32)), (.ref b41), (.ref b41), (.ref b38), (.ref b38)])) rfl rfl (hb hby d1_45)
      have V47 : Arv Z h47 b41 k41 .char (2 : Int32) [(.int c0), (.int (0 : Int32))] (.int (0 : Int32)) := Arv.set Ar47 q47 S47 M47 H47 G47 (ow_fits_char (char255 hc0)) (ow_wr_char (char255 hc0) W47) 0 rfl (Nat.le_of_ble_eq_true rfl)
      have f48 := Safe.wr W47 (Safe.exa hZ.alike B41 (by decide) (by decide)) CR.1 f43
      have f49 := f44.wr W47
      have f50 := f45.other W47 (Or.inl ne42)
      have f51 := f46.other W47 (Or.inl ne42)
      have f52 := B41.wr W47
      have hk := Nat.le_trans hk (Keep.of_wr W47).1
      have CR := CR.trans (CHr.wr W47 (Safe.exa hZ.alike B41 (by decide) (by decide)) CR.1)
      have K47 : Keep h0 h47 [] := K41.wr W47 (Or.inr sz_b41)
      have O47 := O41.wr W47 ge_b41
      have N47 := Fr.snoc X47 N0 ge_b41
      refine stp st47 ?_
      show Go p e below T47 (mkF m 46 #[.val (.int n), .val (.int c0), .val (.int c1)] [(.ref b41), (.ref b38), (.ref b38)]) _
      refine stp (fun _ => XS.dup X47.here hx rfl (hb hby d1_46) rfl rfl) ?_
      show Go p e below T47 (mkF m 47 #[.val (.int n), .val (.int c0), .val (.int c1)] [(.ref b41), (.ref b41), (.ref b38), (.ref b38)]) _
      refine stp (fun _ => XS.iconst X47.here hx rfl (hb hby d1_47)) ?_
      show Go p e below T47 (mkF m 48 #[.val (.int n), .val (.int c0), .val (.int c1)] [(.int (1 : Int32)), (.ref b41), (.ref b41), (.ref b38), (.ref b38)]) _
      refine stp (fun _ => XS.iloadN X47.here hx rfl (hb hby d1_48) rfl) ?_
      show Go p e below T47 (mkF m 49 #[.val (.int n), .val (.int c0), .val (.int c1)] [(.int c1), (.int (1 : Int32)), (.ref b41), (.ref b41), (.ref b38), (.ref b38)]) _
      obtain ⟨cl54, Ar54, q54, S54, M54, H54, G54⟩ := (id V47)
      have in54 : ¬ ((1 : Int32) < 0 ∨ cl54.slots.size ≤ ((1 : Int32)).toNatClampNeg) := inb_of S54 ⟨by decide, by decide⟩
      obtain ⟨T54, h54, X54, e54, W54, st54⟩ := stC X47 hx hZ e47 Ar54 (j := (1 : Int32)) in54 (g := (mkF m 49 #[.val (.int n), .val (.int c0), .val (.int c1)] [(.int c1), (.int (1 : Int32)), (.ref b41), (.ref b41), (.ref b38), (.ref b38)])) rfl rfl (hb hby d1_49)
      have V54 : Arv Z h54 b41 k41 .char (2 : Int32) [(.int c0), (.int c1)] (.int (0 : Int32)) := Arv.set Ar54 q54 S54 M54 H54 G54 (ow_fits_char (char255 hc1)) (ow_wr_char (char255 hc1) W54) 1 rfl (Nat.le_of_ble_eq_true rfl)
      have f55 := Safe.wr W54 (Safe.exa hZ.alike f52 (by decide) (by decide)) CR.1 f48
      have f56 := f49.wr W54
      have f57 := f50.other W54 (Or.inl ne42)
      have f58 := f51.other W54 (Or.inl ne42)
      have f59 := f52.wr W54
      have hk := Nat.le_trans hk (Keep.of_wr W54).1
      have CR := CR.trans (CHr.wr W54 (Safe.exa hZ.alike f52 (by decide) (by decide)) CR.1)
      have K54 : Keep h0 h54 [] := K47.wr W54 (Or.inr sz_b41)
      have O54 := O47.wr W54 ge_b41
      have N54 := Fr.snoc X54 N47 ge_b41
      refine stp st54 ?_
      show Go p e below T54 (mkF m 50 #[.val (.int n), .val (.int c0), .val (.int c1)] [(.ref b41), (.ref b38), (.ref b38)]) _
      obtain ⟨_, _, ⟨T61, L61, k61, n61⟩, -, X61, ⟨Lc61, hQ61, l61, y61, z61⟩, st61⟩ := X54.specialBack hx (y := (⟨"java/lang/String", "<init>", "([C)V"⟩ : MethodName)) rfl hown (mvT hZ (hw _ (List.mem_of_getElem? (i := 8) rfl))) (mvT hZ (hw _ (List.mem_of_getElem? (i := 9) rfl))) (mvT hZ (hw _ (List.mem_of_getElem? (i := 10) rfl))) (by decide) (StrChars.Road.backV (W := 1) hZ hws (kI := 4) (hw _ (List.mem_of_getElem? (i := 5) rfl)) (cs := ([c0, c1] : List Int32)) (bs := ([c0, c1] : List Int32).map (fun c => c.toInt8.toInt32)) (n := 2) ge_b38 (old_le O54) f56 f58 f57 V54 (S_COMPACT_STRINGS.ext O54.2) hcz rfl rfl (by decide) (by decide) (own_hp2 hc0 hc1) rfl (by decide) (by decide)) (g := (mkF m 50 #[.val (.int n), .val (.int c0), .val (.int c1)] [(.ref b41), (.ref b38), (.ref b38)])) rfl (by rw [hml]; rfl) (Steps.refl _) (a := b38) (argsL := [(.ref b41)]) (rest := [(.ref b38)]) (lenOf pd_1 rfl) rfl (by show 2 * 0 + _ ≤ _; exact Nat.le_of_eq rfl) (hb hby d1_50) (fun _ _ => ⟨rfl, e54, (by decide : 2 + 1 ≤ _), (by decide : 6 + 2 ≤ _)⟩)
      dsimp only [Pt.U, Pt.locs, Pt.cells, Pt.slots] at X61 l61 y61 z61 st61 hQ61
      subst y61 z61
      obtain ⟨rfl, N61q, K61q, E61q, C61q, t61, kb61, ge_t61, sz61q, ne61q, F61q, V61q⟩ := hQ61
      have N61 : Fr n0 L61 := by rw [l61]; exact Fr.app N54 N61q
      have ne62 : b41 ≠ t61 := Nat.ne_of_lt (Nat.lt_of_lt_of_le f59.lt sz61q)
      have f63 := f55.keep K61q (sfS f55 sf0) CR.1
      have f64 := f59.keep K61q
      have f65 := V54.keep K61q (ninS (Ne.symm ne42) nin0)
      have hk := Nat.le_trans hk K61q.1
      have CR := CR.trans (CHr.keep K61q (sfS f55 sf0) CR.1)
      have K61 : Keep h0 T61.heap [] := K54.trans K61q (allS (Or.inr sz_b38) all0)
      have sz_t61 : h0.size ≤ t61 := Nat.le_trans K54.1 sz61q
      have O61 := O54.keep K61q (allS ge_b38 all0)
      have Q61 : StrIs Z T61.heap b38 ([c0, c1] : List Int32) := StrIs.of E61q F61q C61q V61q rfl rfl (own_hp2 hc0 hc1) (Nat.le_of_ble_eq_true rfl)
      refine stt st61 ?_
      show Go p e below T61 (mkF m 53 #[.val (.int n), .val (.int c0), .val (.int c1)] [(.ref b38)]) _
      refine outAW X61 hx hZ hEL rfl hS hk CR hret rfl rfl (hb hby d1_53) hlk (by decide) (by decide) ?_
      exact ⟨b38, rfl, N61, K61, ⟨ge_b38, sz_b38⟩, (own_cs_of (by simp only [own_cs, if_neg q1_1, if_neg q17_16]) Q61)⟩
theorem d9_0 : decode jdk_30_method_1_code 0 = .ok (.aload_n 0, 1) := by decide +kernel
theorem d9_1 : decode jdk_30_method_1_code 1 = .ok (.invokespecial 1, 3) := by decide +kernel
theorem d9_4 : decode jdk_30_method_1_code 4 = .ok (.return_, 1) := by decide +kernel
theorem ef_rm_rec (m : MethodId) (t : Addr)  : entryFrame m #[(.ref t)] 1 = mkF m 0 #[.val (.ref t)] [] := by first | (simp [entryFrame, mkF, argsToLocals, Value.category]; done) | rfl
def Q_rm_rec (Z : State) (t : Addr)  (h0 : Heap) (n0 : Nat) (v : Option Value) (h : Heap) (L : List Loc) : Prop := v = none ∧ Fr n0 L ∧ h = h0
theorem pn_3_ : plainName "java/lang/Record" = true := by first | (simp [plainName, overriddenIn]; done) | decide +kernel
theorem pn_3 : plainFor (⟨"java/lang/Record", "<init>", "()V"⟩ : MethodName) = true := plainFor_of_name pn_3_
set_option maxRecDepth 65536 in
set_option maxHeartbeats 40000000 in
theorem rm_rec (l : Launch) (Z : State) (a0 : Array Value) (hw : ∀ d ∈ tables_1, d.before a0 Z = true) (ws : List Jvm.Cond) (t : Addr)  (h0 : Heap) (n0 : Nat) (O0 : Old Z n0 h0)  :
    MetFree l (⟨"java/lang/Record", "<init>", "()V"⟩ : MethodName) (head1 (Jvm.Cond.code (⟨"java/lang/Record", "<init>", "()V"⟩ : MethodName) jdk_30_method_1_code 1 none :: ws) ({ frames := 1, cells := 0, slots := 0, locals := 12 } : Room)) (fun args_ U => args_ = #[(.ref t)] ∧ Z.Warmed39 U.vm ∧ U.heap = h0) (fun _ _ _ _ _ => True) (fun _ U out_ U' => ∃ val_ loc_, out_ = .returned val_ ∧ (Q_rm_rec Z t h0 n0) val_ U'.heap loc_ ∧ FrameEnd U out_ U' loc_ ({ frames := 1, cells := 0, slots := 0, locals := 12 } : Room).cells ({ frames := 1, cells := 0, slots := 0, locals := 12 } : Room).slots) := by
  refine start (Q := (Q_rm_rec Z t h0 n0)) pn_3 ?_
  intro p e s m below meth c T0 X0 hx hby hml hown hnm hret hlk hZ e0
  replace hown : s.vm.findClass "java/lang/Record" = some m.cls := hown
  replace hml : c.maxLocals = 1 := hml
  refine goAt (ef_rm_rec m t ) ?_
  have N0 := Fr.nil n0
  show Go p e below T0 (mkF m 0 #[.val (.ref t)] []) _
  refine stp (fun _ => XS.aloadN X0.here hx rfl (hb hby d9_0) rfl rfl) ?_
  show Go p e below T0 (mkF m 1 #[.val (.ref t)] [(.ref t)]) _
  obtain ⟨T1, X1, e1, st1⟩ := initO X0 hx hZ hown (hw _ (List.mem_of_getElem? (i := 48) rfl)) (hw _ (List.mem_of_getElem? (i := 16) rfl)) (hw _ (List.mem_of_getElem? (i := 17) rfl)) e0 (g := (mkF m 1 #[.val (.ref t)] [(.ref t)])) rfl (by rw [hml]; rfl) rfl (hb hby d9_1) (by decide) (W := 0) (by show 2 * 0 + _ ≤ _; exact Nat.le_of_eq rfl) (by decide)
  refine stp st1 ?_
  show Go p e below T1 (mkF m 4 #[.val (.ref t)] []) _
  refine outV X1 hx hret (hb hby d9_4) hlk (by decide) (by decide) ?_
  exact ⟨rfl, N0, e1⟩
theorem d10_0 : decode jdk_31_method_11_code 0 = .ok (.aload_n 0, 1) := by decide +kernel
theorem d10_1 : decode jdk_31_method_11_code 1 = .ok (.ifnonnull 12, 3) := by decide +kernel
theorem d10_13 : decode jdk_31_method_11_code 13 = .ok (.aload_n 0, 1) := by decide +kernel
theorem d10_14 : decode jdk_31_method_11_code 14 = .ok (.areturn, 1) := by decide +kernel
theorem ef_rm_rnn (m : MethodId) (o : Addr) (m_ : Addr)  : entryFrame m #[(.ref o), (.ref m_)] 2 = mkF m 0 #[.val (.ref o), .val (.ref m_)] [] := by first | (simp [entryFrame, mkF, argsToLocals, Value.category]; done) | rfl
def Q_rm_rnn (Z : State) (o : Addr) (m_ : Addr)  (h0 : Heap) (n0 : Nat) (v : Option Value) (h : Heap) (L : List Loc) : Prop := v = some (.ref o) ∧ Fr n0 L ∧ h = h0
theorem pn_4_ : plainName "java/util/Objects" = true := by first | (simp [plainName, overriddenIn]; done) | decide +kernel
theorem pn_4 : plainFor (⟨"java/util/Objects", "requireNonNull", "(Ljava/lang/Object;Ljava/lang/String;)Ljava/lang/Object;"⟩ : MethodName) = true := plainFor_of_name pn_4_
set_option maxRecDepth 65536 in
set_option maxHeartbeats 40000000 in
theorem rm_rnn (l : Launch) (Z : State) (a0 : Array Value) (hw : ∀ d ∈ tables_1, d.before a0 Z = true) (ws : List Jvm.Cond) (o : Addr) (m_ : Addr)  (h0 : Heap) (n0 : Nat) (O0 : Old Z n0 h0)  :
    MetFree l (⟨"java/util/Objects", "requireNonNull", "(Ljava/lang/Object;Ljava/lang/String;)Ljava/lang/Object;"⟩ : MethodName) (head1 (Jvm.Cond.code (⟨"java/util/Objects", "requireNonNull", "(Ljava/lang/Object;Ljava/lang/String;)Ljava/lang/Object;"⟩ : MethodName) jdk_31_method_11_code 2 (some (.object "java/lang/Object")) :: ws) ({ frames := 0, cells := 0, slots := 0, locals := 0 } : Room)) (fun args_ U => args_ = #[(.ref o), (.ref m_)] ∧ Z.Warmed39 U.vm ∧ U.heap = h0) (fun _ _ _ _ _ => True) (fun _ U out_ U' => ∃ val_ loc_, out_ = .returned val_ ∧ (Q_rm_rnn Z o m_ h0 n0) val_ U'.heap loc_ ∧ FrameEnd U out_ U' loc_ ({ frames := 0, cells := 0, slots := 0, locals := 0 } : Room).cells ({ frames := 0, cells := 0, slots := 0, locals := 0 } : Room).slots) := by
  refine start (Q := (Q_rm_rnn Z o m_ h0 n0)) pn_4 ?_
  intro p e s m below meth c T0 X0 hx hby hml hown hnm hret hlk hZ e0
  replace hown : s.vm.findClass "java/util/Objects" = some m.cls := hown
  replace hml : c.maxLocals = 2 := hml
  refine goAt (ef_rm_rnn m o m_ ) ?_
  have N0 := Fr.nil n0
  show Go p e below T0 (mkF m 0 #[.val (.ref o), .val (.ref m_)] []) _
  refine stp (fun _ => XS.aloadN X0.here hx rfl (hb hby d10_0) rfl rfl) ?_
  show Go p e below T0 (mkF m 1 #[.val (.ref o), .val (.ref m_)] [(.ref o)]) _
  refine stp (fun _ => XS.ifnonnullYes X0.here hx rfl (pc0 := 1) (pc' := 13) rfl (hb hby d10_1) rfl (by decide) (by decide)) ?_
  show Go p e below T0 (mkF m 13 #[.val (.ref o), .val (.ref m_)] []) _
  refine stp (fun _ => XS.aloadN X0.here hx rfl (hb hby d10_13) rfl rfl) ?_
  show Go p e below T0 (mkF m 14 #[.val (.ref o), .val (.ref m_)] [(.ref o)]) _
  refine outA X0 hx hret rfl rfl (hb hby d10_14) hlk (by decide) (by decide) ?_
  exact ⟨rfl, N0, e0⟩
theorem d8_0 : decode prog_22_method_1_code 0 = .ok (.aload_n 0, 1) := by decide +kernel
theorem d8_1 : decode prog_22_method_1_code 1 = .ok (.invokespecial 1, 3) := by decide +kernel
theorem pd_2 : parseMethodDescriptor "()V" = some ⟨[], none⟩ := by decide +kernel
theorem d8_4 : decode prog_22_method_1_code 4 = .ok (.aload_n 1, 1) := by decide +kernel
theorem d8_5 : decode prog_22_method_1_code 5 = .ok (.ldc 7, 2) := by decide +kernel
theorem d8_7 : decode prog_22_method_1_code 7 = .ok (.invokestatic 9, 3) := by decide +kernel
theorem pd_3 : parseMethodDescriptor "(Ljava/lang/Object;Ljava/lang/String;)Ljava/lang/Object;" = some ⟨[(.object "java/lang/Object"), (.object "java/lang/String")], some (.object "java/lang/Object")⟩ := by decide +kernel
theorem d8_10 : decode prog_22_method_1_code 10 = .ok (.pop, 1) := by decide +kernel
theorem d8_11 : decode prog_22_method_1_code 11 = .ok (.aload_n 0, 1) := by decide +kernel
theorem d8_12 : decode prog_22_method_1_code 12 = .ok (.aload_n 1, 1) := by decide +kernel
theorem d8_13 : decode prog_22_method_1_code 13 = .ok (.putfield 15, 3) := by decide +kernel
theorem d8_16 : decode prog_22_method_1_code 16 = .ok (.return_, 1) := by decide +kernel
theorem ef_rm_tv (m : MethodId) (t : Addr) (sx : Addr)  : entryFrame m #[(.ref t), (.ref sx)] 2 = mkF m 0 #[.val (.ref t), .val (.ref sx)] [] := by first | (simp [entryFrame, mkF, argsToLocals, Value.category]; done) | rfl
def Q_rm_tv (Z : State) (t : Addr) (sx : Addr)  (h0 : Heap) (n0 : Nat) (v : Option Value) (h : Heap) (L : List Loc) : Prop := v = none ∧ Fr n0 L ∧ Keep h0 h [t] ∧ Exa Z h t "com/example/revlint/revlint/model/GenericType$TypeVariable" ∧ Fld Z h t "com/example/revlint/revlint/model/GenericType$TypeVariable" "name" "Ljava/lang/String;" (.ref sx)
theorem pn_5_ : plainName "com/example/revlint/revlint/model/GenericType$TypeVariable" = true := by first | (simp [plainName, overriddenIn]; done) | decide +kernel
theorem pn_5 : plainFor (⟨"com/example/revlint/revlint/model/GenericType$TypeVariable", "<init>", "(Ljava/lang/String;)V"⟩ : MethodName) = true := plainFor_of_name pn_5_
set_option maxRecDepth 65536 in
set_option maxHeartbeats 40000000 in
theorem rm_tv (l : Launch) (Z : State) (a0 : Array Value) (hw : ∀ d ∈ tables_1, d.before a0 Z = true) (ws : List Jvm.Cond) (t : Addr) (sx : Addr)  (h0 : Heap) (n0 : Nat) (O0 : Old Z n0 h0) (hEL : EW Z a0 consts_1) (E_t : Exa Z h0 t "com/example/revlint/revlint/model/GenericType$TypeVariable") (F_t_name : Fld Z h0 t "com/example/revlint/revlint/model/GenericType$TypeVariable" "name" "Ljava/lang/String;" .null) (ge_t : n0 ≤ t) :
    MetFree l (⟨"com/example/revlint/revlint/model/GenericType$TypeVariable", "<init>", "(Ljava/lang/String;)V"⟩ : MethodName) (head1 (Jvm.Cond.code (⟨"com/example/revlint/revlint/model/GenericType$TypeVariable", "<init>", "(Ljava/lang/String;)V"⟩ : MethodName) prog_22_method_1_code 2 none :: ws) ({ frames := 2, cells := 2, slots := 20, locals := 24 } : Room)) (fun args_ U => args_ = #[(.ref t), (.ref sx)] ∧ Z.Warmed39 U.vm ∧ U.heap = h0 ∧ CHv Z consts_1 U.vm h0) (fun _ _ _ _ _ => True) (fun _ U out_ U' => ∃ val_ loc_, out_ = .returned val_ ∧ (Q_rm_tv Z t sx h0 n0) val_ U'.heap loc_ ∧ CHr Z consts_1 U.vm U.heap U'.vm U'.heap ∧ ReturnedEndW U out_ U' loc_ ({ frames := 2, cells := 2, slots := 20, locals := 24 } : Room).cells ({ frames := 2, cells := 2, slots := 20, locals := 24 } : Room).slots) := by
  refine startW (Q := (Q_rm_tv Z t sx h0 n0)) pn_5 ?_
  intro p e s m below meth c T0 X0 hx hby hml hown hnm hret hlk hZ e0 hS CR
  have hk : 0 ≤ h0.size := Nat.zero_le _
  have wS : ∀ a ∈ Bundle.stringAtoms, a.before a0 Z = true := own_wS hw
  replace hown : s.vm.findClass "com/example/revlint/revlint/model/GenericType$TypeVariable" = some m.cls := hown
  replace hml : c.maxLocals = 2 := hml
  refine goAt (ef_rm_tv m t sx ) ?_
  have N0 := Fr.nil n0
  show Go p e below T0 (mkF m 0 #[.val (.ref t), .val (.ref sx)] []) _
  refine stp (fun _ => XS.aloadN X0.here hx rfl (hb hby d8_0) rfl rfl) ?_
  show Go p e below T0 (mkF m 1 #[.val (.ref t), .val (.ref sx)] [(.ref t)]) _
  obtain ⟨_, _, ⟨T1, L1, k1, n1⟩, -, X1, ⟨Lc1, hQ1, l1, y1, z1⟩, st1⟩ := X0.specialBack hx (y := (⟨"java/lang/Record", "<init>", "()V"⟩ : MethodName)) rfl hown (mvT hZ (hw _ (List.mem_of_getElem? (i := 43) rfl))) (mvT hZ (hw _ (List.mem_of_getElem? (i := 44) rfl))) (mvT hZ (hw _ (List.mem_of_getElem? (i := 47) rfl))) (by decide) (backOf (W := 0) (rm_rec l Z a0 hw [] t  h0 n0 O0 ) hZ (hw _ (List.mem_of_getElem? (i := 47) rfl)) (hw _ (List.mem_of_getElem? (i := 46) rfl)) (by decide) (by decide)) (g := (mkF m 1 #[.val (.ref t), .val (.ref sx)] [(.ref t)])) rfl (by rw [hml]; rfl) (Steps.refl _) (a := t) (argsL := []) (rest := []) (lenOf pd_2 rfl) rfl (by show 2 * 0 + _ ≤ _; exact Nat.le_of_eq rfl) (hb hby d8_1) (fun _ _ => ⟨rfl, e0, (by decide : 0 + 0 ≤ _), (by decide : 0 + 0 ≤ _)⟩)
  dsimp only [Pt.U, Pt.locs, Pt.cells, Pt.slots] at X1 l1 y1 z1 st1 hQ1
  subst y1 z1
  obtain ⟨rfl, N1q, e1⟩ := hQ1
  have N1 : Fr n0 L1 := by rw [l1]; exact Fr.app N0 N1q
  refine stt st1 ?_
  show Go p e below T1 (mkF m 4 #[.val (.ref t), .val (.ref sx)] []) _
  refine stp (fun _ => XS.aloadN X1.here hx rfl (hb hby d8_4) rfl rfl) ?_
  show Go p e below T1 (mkF m 5 #[.val (.ref t), .val (.ref sx)] [(.ref sx)]) _
  obtain ⟨la2, T2, h2, k1_2, X2, e2, E2, hS, hk', hZ, hown, CRn2, Li2, st2⟩ := ldcOH X1 hx hZ hown (hw _ (List.mem_of_getElem? (i := 49) rfl)) wS e1 hS hk hEL CR.1 (g := (mkF m 5 #[.val (.ref t), .val (.ref sx)] [(.ref sx)])) rfl (hb hby d8_5) (n := 16) (by decide +kernel) (by decide) (by decide) (by decide)
  have f3 := E_t.ext E2
  have f4 := F_t_name.ext E2
  have hk := hk'
  have CR := CR.trans CRn2
  have K2 : Keep h0 h2 [t] := (Keep.refl h0 [t]).ext E2
  have O2 := O0.ext E2
  refine stp st2 ?_
  show Go p e below T2 (mkF m 7 #[.val (.ref t), .val (.ref sx)] [(.ref la2), (.ref sx)]) _
  obtain ⟨_, _, ⟨T5, L5, k5, n5⟩, -, X5, ⟨Lc5, hQ5, l5, y5, z5⟩, st5⟩ := Jvm.LawKit.callS X2 hx (y := (⟨"java/util/Objects", "requireNonNull", "(Ljava/lang/Object;Ljava/lang/String;)Ljava/lang/Object;"⟩ : MethodName)) hown (mvT hZ (hw _ (List.mem_of_getElem? (i := 50) rfl))) (mvT hZ (hw _ (List.mem_of_getElem? (i := 51) rfl))) (mvT hZ (hw _ (List.mem_of_getElem? (i := 52) rfl))) (mvT hZ (hw _ (List.mem_of_getElem? (i := 53) rfl))) (by decide) (backOf (W := 0) (rm_rnn l Z a0 hw [] sx la2  h2 n0 O2 ) hZ (hw _ (List.mem_of_getElem? (i := 53) rfl)) (hw _ (List.mem_of_getElem? (i := 52) rfl)) (by decide) (by decide)) (g := (mkF m 7 #[.val (.ref t), .val (.ref sx)] [(.ref la2), (.ref sx)])) rfl (by rw [hml]; rfl) (argsL := [(.ref sx), (.ref la2)]) (rest := []) (lenOf pd_3 rfl) rfl (by show 2 * 0 + _ ≤ _; exact Nat.le_of_eq rfl) (hb hby d8_7) (fun _ _ => ⟨rfl, e2, (by decide : 2 + 0 ≤ _), (by decide : 20 + 0 ≤ _)⟩)
  dsimp only [Pt.U, Pt.locs, Pt.cells, Pt.slots] at X5 l5 y5 z5 st5 hQ5
  subst y5 z5
  obtain ⟨rfl, N5q, e5⟩ := hQ5
  have N5 : Fr n0 L5 := by rw [l5]; exact Fr.app N1 N5q
  refine stp st5 ?_
  show Go p e below T5 (mkF m 10 #[.val (.ref t), .val (.ref sx)] [(.ref sx)]) _
  refine stp (fun _ => XS.pop X5.here hx rfl (hb hby d8_10) rfl rfl) ?_
  show Go p e below T5 (mkF m 11 #[.val (.ref t), .val (.ref sx)] []) _
  refine stp (fun _ => XS.aloadN X5.here hx rfl (hb hby d8_11) rfl rfl) ?_
  show Go p e below T5 (mkF m 12 #[.val (.ref t), .val (.ref sx)] [(.ref t)]) _
  refine stp (fun _ => XS.aloadN X5.here hx rfl (hb hby d8_12) rfl rfl) ?_
  show Go p e below T5 (mkF m 13 #[.val (.ref t), .val (.ref sx)] [(.ref sx), (.ref t)]) _
  obtain ⟨T6, h6, X6, e6, W6, st6⟩ := putF X5 hx hZ hown (host := "") (Or.inl (hw _ (List.mem_of_getElem? (i := 54) rfl))) Via.refl e5 f4 f3 (Or.inr ⟨(hw _ (List.mem_of_getElem? (i := 55) rfl)), rfl, hnm⟩) (hw _ (List.mem_of_getElem? (i := 38) rfl)) (ty := (.object "java/lang/String")) (by decide) rfl rfl (g := (mkF m 13 #[.val (.ref t), .val (.ref sx)] [(.ref sx), (.ref t)])) rfl rfl (hb hby d8_13)
  have Fw6 := f4.same W6
  have f7 := f3.wr W6
  have hk := Nat.le_trans hk (Keep.of_wr W6).1
  have CR := CR.trans (CHr.wr W6 (Safe.exa hZ.alike f3 (by decide) (by decide)) CR.1)
  have K6 : Keep h0 h6 [t] := K2.wr W6 (Or.inl (List.mem_of_getElem? (i := 0) rfl))
  have O6 := O2.wr W6 ge_t
  have N6 := Fr.snoc X6 N5 ge_t
  refine stp st6 ?_
  show Go p e below T6 (mkF m 16 #[.val (.ref t), .val (.ref sx)] []) _
  refine outVW X6 hx hZ hEL e6 hS hk CR hret (hb hby d8_16) hlk (by decide) (by decide) ?_
  rw [e6]
  exact ⟨rfl, N6, K6, f7, Fw6⟩
theorem d14_0 : decode prog_21_method_1_code 0 = .ok (.aload_n 0, 1) := by decide +kernel
theorem d14_1 : decode prog_21_method_1_code 1 = .ok (.invokespecial 1, 3) := by decide +kernel
theorem d14_4 : decode prog_21_method_1_code 4 = .ok (.aload_n 1, 1) := by decide +kernel
theorem d14_5 : decode prog_21_method_1_code 5 = .ok (.ldc 7, 2) := by decide +kernel
theorem d14_7 : decode prog_21_method_1_code 7 = .ok (.invokestatic 9, 3) := by decide +kernel
theorem d14_10 : decode prog_21_method_1_code 10 = .ok (.pop, 1) := by decide +kernel
theorem d14_11 : decode prog_21_method_1_code 11 = .ok (.aload_n 0, 1) := by decide +kernel
theorem d14_12 : decode prog_21_method_1_code 12 = .ok (.aload_n 1, 1) := by decide +kernel
theorem d14_13 : decode prog_21_method_1_code 13 = .ok (.putfield 15, 3) := by decide +kernel
theorem d14_16 : decode prog_21_method_1_code 16 = .ok (.return_, 1) := by decide +kernel
theorem ef_rm_pv (m : MethodId) (t : Addr) (sx : Addr)  : entryFrame m #[(.ref t), (.ref sx)] 2 = mkF m 0 #[.val (.ref t), .val (.ref sx)] [] := by first | (simp [entryFrame, mkF, argsToLocals, Value.category]; done) | rfl
def Q_rm_pv (Z : State) (t : Addr) (sx : Addr)  (h0 : Heap) (n0 : Nat) (v : Option Value) (h : Heap) (L : List Loc) : Prop := v = none ∧ Fr n0 L ∧ Keep h0 h [t] ∧ Exa Z h t "com/example/revlint/revlint/model/GenericType$Primitive" ∧ Fld Z h t "com/example/revlint/revlint/model/GenericType$Primitive" "name" "Ljava/lang/String;" (.ref sx)
theorem pn_6_ : plainName "com/example/revlint/revlint/model/GenericType$Primitive" = true := by first | (simp [plainName, overriddenIn]; done) | decide +kernel
theorem pn_6 : plainFor (⟨"com/example/revlint/revlint/model/GenericType$Primitive", "<init>", "(Ljava/lang/String;)V"⟩ : MethodName) = true := plainFor_of_name pn_6_
set_option maxRecDepth 65536 in
set_option maxHeartbeats 40000000 in
theorem rm_pv (l : Launch) (Z : State) (a0 : Array Value) (hw : ∀ d ∈ tables_1, d.before a0 Z = true) (ws : List Jvm.Cond) (t : Addr) (sx : Addr)  (h0 : Heap) (n0 : Nat) (O0 : Old Z n0 h0) (hEL : EW Z a0 consts_1) (E_t : Exa Z h0 t "com/example/revlint/revlint/model/GenericType$Primitive") (F_t_name : Fld Z h0 t "com/example/revlint/revlint/model/GenericType$Primitive" "name" "Ljava/lang/String;" .null) (ge_t : n0 ≤ t) :
    MetFree l (⟨"com/example/revlint/revlint/model/GenericType$Primitive", "<init>", "(Ljava/lang/String;)V"⟩ : MethodName) (head1 (Jvm.Cond.code (⟨"com/example/revlint/revlint/model/GenericType$Primitive", "<init>", "(Ljava/lang/String;)V"⟩ : MethodName) prog_21_method_1_code 2 none :: ws) ({ frames := 2, cells := 2, slots := 20, locals := 24 } : Room)) (fun args_ U => args_ = #[(.ref t), (.ref sx)] ∧ Z.Warmed39 U.vm ∧ U.heap = h0 ∧ CHv Z consts_1 U.vm h0) (fun _ _ _ _ _ => True) (fun _ U out_ U' => ∃ val_ loc_, out_ = .returned val_ ∧ (Q_rm_pv Z t sx h0 n0) val_ U'.heap loc_ ∧ CHr Z consts_1 U.vm U.heap U'.vm U'.heap ∧ ReturnedEndW U out_ U' loc_ ({ frames := 2, cells := 2, slots := 20, locals := 24 } : Room).cells ({ frames := 2, cells := 2, slots := 20, locals := 24 } : Room).slots) := by
  refine startW (Q := (Q_rm_pv Z t sx h0 n0)) pn_6 ?_
  intro p e s m below meth c T0 X0 hx hby hml hown hnm hret hlk hZ e0 hS CR
  have hk : 0 ≤ h0.size := Nat.zero_le _
  have wS : ∀ a ∈ Bundle.stringAtoms, a.before a0 Z = true := own_wS hw
  replace hown : s.vm.findClass "com/example/revlint/revlint/model/GenericType$Primitive" = some m.cls := hown
  replace hml : c.maxLocals = 2 := hml
  refine goAt (ef_rm_pv m t sx ) ?_
  have N0 := Fr.nil n0
  show Go p e below T0 (mkF m 0 #[.val (.ref t), .val (.ref sx)] []) _
  refine stp (fun _ => XS.aloadN X0.here hx rfl (hb hby d14_0) rfl rfl) ?_
  show Go p e below T0 (mkF m 1 #[.val (.ref t), .val (.ref sx)] [(.ref t)]) _
  obtain ⟨_, _, ⟨T1, L1, k1, n1⟩, -, X1, ⟨Lc1, hQ1, l1, y1, z1⟩, st1⟩ := X0.specialBack hx (y := (⟨"java/lang/Record", "<init>", "()V"⟩ : MethodName)) rfl hown (mvT hZ (hw _ (List.mem_of_getElem? (i := 81) rfl))) (mvT hZ (hw _ (List.mem_of_getElem? (i := 44) rfl))) (mvT hZ (hw _ (List.mem_of_getElem? (i := 47) rfl))) (by decide) (backOf (W := 0) (rm_rec l Z a0 hw [] t  h0 n0 O0 ) hZ (hw _ (List.mem_of_getElem? (i := 47) rfl)) (hw _ (List.mem_of_getElem? (i := 46) rfl)) (by decide) (by decide)) (g := (mkF m 1 #[.val (.ref t), .val (.ref sx)] [(.ref t)])) rfl (by rw [hml]; rfl) (Steps.refl _) (a := t) (argsL := []) (rest := []) (lenOf pd_2 rfl) rfl (by show 2 * 0 + _ ≤ _; exact Nat.le_of_eq rfl) (hb hby d14_1) (fun _ _ => ⟨rfl, e0, (by decide : 0 + 0 ≤ _), (by decide : 0 + 0 ≤ _)⟩)
  dsimp only [Pt.U, Pt.locs, Pt.cells, Pt.slots] at X1 l1 y1 z1 st1 hQ1
  subst y1 z1
  obtain ⟨rfl, N1q, e1⟩ := hQ1
  have N1 : Fr n0 L1 := by rw [l1]; exact Fr.app N0 N1q
  refine stt st1 ?_
  show Go p e below T1 (mkF m 4 #[.val (.ref t), .val (.ref sx)] []) _
  refine stp (fun _ => XS.aloadN X1.here hx rfl (hb hby d14_4) rfl rfl) ?_
  show Go p e below T1 (mkF m 5 #[.val (.ref t), .val (.ref sx)] [(.ref sx)]) _
  obtain ⟨la2, T2, h2, k1_2, X2, e2, E2, hS, hk', hZ, hown, CRn2, Li2, st2⟩ := ldcOH X1 hx hZ hown (hw _ (List.mem_of_getElem? (i := 82) rfl)) wS e1 hS hk hEL CR.1 (g := (mkF m 5 #[.val (.ref t), .val (.ref sx)] [(.ref sx)])) rfl (hb hby d14_5) (n := 16) (by decide +kernel) (by decide) (by decide) (by decide)
  have f3 := E_t.ext E2
  have f4 := F_t_name.ext E2
  have hk := hk'
  have CR := CR.trans CRn2
  have K2 : Keep h0 h2 [t] := (Keep.refl h0 [t]).ext E2
  have O2 := O0.ext E2
  refine stp st2 ?_
  show Go p e below T2 (mkF m 7 #[.val (.ref t), .val (.ref sx)] [(.ref la2), (.ref sx)]) _
  obtain ⟨_, _, ⟨T5, L5, k5, n5⟩, -, X5, ⟨Lc5, hQ5, l5, y5, z5⟩, st5⟩ := Jvm.LawKit.callS X2 hx (y := (⟨"java/util/Objects", "requireNonNull", "(Ljava/lang/Object;Ljava/lang/String;)Ljava/lang/Object;"⟩ : MethodName)) hown (mvT hZ (hw _ (List.mem_of_getElem? (i := 83) rfl))) (mvT hZ (hw _ (List.mem_of_getElem? (i := 51) rfl))) (mvT hZ (hw _ (List.mem_of_getElem? (i := 52) rfl))) (mvT hZ (hw _ (List.mem_of_getElem? (i := 53) rfl))) (by decide) (backOf (W := 0) (rm_rnn l Z a0 hw [] sx la2  h2 n0 O2 ) hZ (hw _ (List.mem_of_getElem? (i := 53) rfl)) (hw _ (List.mem_of_getElem? (i := 52) rfl)) (by decide) (by decide)) (g := (mkF m 7 #[.val (.ref t), .val (.ref sx)] [(.ref la2), (.ref sx)])) rfl (by rw [hml]; rfl) (argsL := [(.ref sx), (.ref la2)]) (rest := []) (lenOf pd_3 rfl) rfl (by show 2 * 0 + _ ≤ _; exact Nat.le_of_eq rfl) (hb hby d14_7) (fun _ _ => ⟨rfl, e2, (by decide : 2 + 0 ≤ _), (by decide : 20 + 0 ≤ _)⟩)
  dsimp only [Pt.U, Pt.locs, Pt.cells, Pt.slots] at X5 l5 y5 z5 st5 hQ5
  subst y5 z5
  obtain ⟨rfl, N5q, e5⟩ := hQ5
  have N5 : Fr n0 L5 := by rw [l5]; exact Fr.app N1 N5q
  refine stp st5 ?_
  show Go p e below T5 (mkF m 10 #[.val (.ref t), .val (.ref sx)] [(.ref sx)]) _
  refine stp (fun _ => XS.pop X5.here hx rfl (hb hby d14_10) rfl rfl) ?_
  show Go p e below T5 (mkF m 11 #[.val (.ref t), .val (.ref sx)] []) _
  refine stp (fun _ => XS.aloadN X5.here hx rfl (hb hby d14_11) rfl rfl) ?_
  show Go p e below T5 (mkF m 12 #[.val (.ref t), .val (.ref sx)] [(.ref t)]) _
  refine stp (fun _ => XS.aloadN X5.here hx rfl (hb hby d14_12) rfl rfl) ?_
  show Go p e below T5 (mkF m 13 #[.val (.ref t), .val (.ref sx)] [(.ref sx), (.ref t)]) _
  obtain ⟨T6, h6, X6, e6, W6, st6⟩ := putF X5 hx hZ hown (host := "") (Or.inl (hw _ (List.mem_of_getElem? (i := 84) rfl))) Via.refl e5 f4 f3 (Or.inr ⟨(hw _ (List.mem_of_getElem? (i := 85) rfl)), rfl, hnm⟩) (hw _ (List.mem_of_getElem? (i := 76) rfl)) (ty := (.object "java/lang/String")) (by decide) rfl rfl (g := (mkF m 13 #[.val (.ref t), .val (.ref sx)] [(.ref sx), (.ref t)])) rfl rfl (hb hby d14_13)
  have Fw6 := f4.same W6
  have f7 := f3.wr W6
  have hk := Nat.le_trans hk (Keep.of_wr W6).1
  have CR := CR.trans (CHr.wr W6 (Safe.exa hZ.alike f3 (by decide) (by decide)) CR.1)
  have K6 : Keep h0 h6 [t] := K2.wr W6 (Or.inl (List.mem_of_getElem? (i := 0) rfl))
  have O6 := O2.wr W6 ge_t
  have N6 := Fr.snoc X6 N5 ge_t
  refine stp st6 ?_
  show Go p e below T6 (mkF m 16 #[.val (.ref t), .val (.ref sx)] []) _
  refine outVW X6 hx hZ hEL e6 hS hk CR hret (hb hby d14_16) hlk (by decide) (by decide) ?_
  rw [e6]
  exact ⟨rfl, N6, K6, f7, Fw6⟩
theorem d11_0 : decode prog_22_method_2_code 0 = .ok (.aload_n 1, 1) := by decide +kernel
theorem d11_1 : decode prog_22_method_2_code 1 = .ok (.instanceof 16, 3) := by decide +kernel
theorem d11_4 : decode prog_22_method_2_code 4 = .ok (.ifCond .eq 26, 3) := by decide +kernel
theorem d11_7 : decode prog_22_method_2_code 7 = .ok (.aload_n 1, 1) := by decide +kernel
theorem d11_8 : decode prog_22_method_2_code 8 = .ok (.checkcast 16, 3) := by decide +kernel
theorem d11_11 : decode prog_22_method_2_code 11 = .ok (.astore_n 2, 1) := by decide +kernel
theorem d11_12 : decode prog_22_method_2_code 12 = .ok (.aload_n 0, 1) := by decide +kernel
theorem d11_13 : decode prog_22_method_2_code 13 = .ok (.getfield 15, 3) := by decide +kernel
theorem d11_16 : decode prog_22_method_2_code 16 = .ok (.aload_n 2, 1) := by decide +kernel
theorem d11_17 : decode prog_22_method_2_code 17 = .ok (.getfield 15, 3) := by decide +kernel
theorem d11_20 : decode prog_22_method_2_code 20 = .ok (.invokevirtual 20, 3) := by decide +kernel
theorem pd_4 : parseMethodDescriptor "(Ljava/lang/Object;)Z" = some ⟨[(.object "java/lang/Object")], some .boolean⟩ := by decide +kernel
theorem d11_23 : decode prog_22_method_2_code 23 = .ok (.ifCond .eq 7, 3) := by decide +kernel
theorem d11_30 : decode prog_22_method_2_code 30 = .ok (.iconst 0, 1) := by decide +kernel
theorem d11_31 : decode prog_22_method_2_code 31 = .ok (.ireturn, 1) := by decide +kernel
theorem d11_26 : decode prog_22_method_2_code 26 = .ok (.iconst 1, 1) := by decide +kernel
theorem d11_27 : decode prog_22_method_2_code 27 = .ok (.goto 4, 3) := by decide +kernel
theorem ef_rm_eqt (m : MethodId) (t : Addr) (o : Addr)  : entryFrame m #[(.ref t), (.ref o)] 3 = mkF m 0 #[.val (.ref t), .val (.ref o), .unset] [] := by first | (simp [entryFrame, mkF, argsToLocals, Value.category]; done) | rfl
def Q_rm_eqt (Z : State) (t : Addr) (o : Addr) (s1 : Addr) (s2 : Addr) (cs : List Int32) (ds : List Int32) (cz : Int32) (h0 : Heap) (n0 : Nat) (v : Option Value) (h : Heap) (L : List Loc) : Prop := v = some (.int (if cs = ds then (1 : Int32) else (0 : Int32))) ∧ Fr n0 L ∧ h = h0
theorem pn_7_ : plainName "com/example/revlint/revlint/model/GenericType$TypeVariable" = true := by first | (simp [plainName, overriddenIn]; done) | decide +kernel
theorem pn_7 : plainFor (⟨"com/example/revlint/revlint/model/GenericType$TypeVariable", "equals", "(Ljava/lang/Object;)Z"⟩ : MethodName) = true := plainFor_of_name pn_7_
set_option maxRecDepth 65536 in
set_option maxHeartbeats 40000000 in
theorem rm_eqt (l : Launch) (Z : State) (a0 : Array Value) (hw : ∀ d ∈ tables_1, d.before a0 Z = true) (ws : List Jvm.Cond) (t : Addr) (o : Addr) (s1 : Addr) (s2 : Addr) (cs : List Int32) (ds : List Int32) (cz : Int32) (h0 : Heap) (n0 : Nat) (O0 : Old Z n0 h0) (E_o : Exa Z h0 o "com/example/revlint/revlint/model/GenericType$TypeVariable") (F_t_name : Fld Z h0 t "com/example/revlint/revlint/model/GenericType$TypeVariable" "name" "Ljava/lang/String;" (.ref s1)) (F_o_name : Fld Z h0 o "com/example/revlint/revlint/model/GenericType$TypeVariable" "name" "Ljava/lang/String;" (.ref s2)) (Q_s1 : StrIs Z h0 s1 cs) (Q_s2 : StrIs Z h0 s2 ds) (S_COMPACT_STRINGS : Sta Z Z.heap "java/lang/String" "COMPACT_STRINGS" "Z" (.int cz)) (hcz : ¬ cz = (0 : Int32)) :
    MetFree l (⟨"com/example/revlint/revlint/model/GenericType$TypeVariable", "equals", "(Ljava/lang/Object;)Z"⟩ : MethodName) (head1 (Jvm.Cond.code (⟨"com/example/revlint/revlint/model/GenericType$TypeVariable", "equals", "(Ljava/lang/Object;)Z"⟩ : MethodName) prog_22_method_2_code 3 (some .boolean) :: ws) ({ frames := 2, cells := 0, slots := 0, locals := 28 } : Room)) (fun args_ U => args_ = #[(.ref t), (.ref o)] ∧ Z.Warmed39 U.vm ∧ U.heap = h0) (fun _ _ _ _ _ => True) (fun _ U out_ U' => ∃ val_ loc_, out_ = .returned val_ ∧ (Q_rm_eqt Z t o s1 s2 cs ds cz h0 n0) val_ U'.heap loc_ ∧ FrameEnd U out_ U' loc_ ({ frames := 2, cells := 0, slots := 0, locals := 28 } : Room).cells ({ frames := 2, cells := 0, slots := 0, locals := 28 } : Room).slots) := by
  refine start (Q := (Q_rm_eqt Z t o s1 s2 cs ds cz h0 n0)) pn_7 ?_
  intro p e s m below meth c T0 X0 hx hby hml hown hnm hret hlk hZ e0
  replace hown : s.vm.findClass "com/example/revlint/revlint/model/GenericType$TypeVariable" = some m.cls := hown
  replace hml : c.maxLocals = 3 := hml
  refine goAt (ef_rm_eqt m t o ) ?_
  have N0 := Fr.nil n0
  show Go p e below T0 (mkF m 0 #[.val (.ref t), .val (.ref o), .unset] []) _
  refine stp (fun _ => XS.aloadN X0.here hx rfl (hb hby d11_0) rfl rfl) ?_
  show Go p e below T0 (mkF m 1 #[.val (.ref t), .val (.ref o), .unset] [(.ref o)]) _
  obtain ⟨T1, X1, e1, st1⟩ := instY X0 hx hZ hown (hw _ (List.mem_of_getElem? (i := 61) rfl)) e0 (Ins.self E_o) (g := (mkF m 1 #[.val (.ref t), .val (.ref o), .unset] [(.ref o)])) rfl rfl (hb hby d11_1)
  refine stp st1 ?_
  show Go p e below T1 (mkF m 4 #[.val (.ref t), .val (.ref o), .unset] [(.int (1 : Int32))]) _
  refine stp (fun _ => XS.ifNo X1.here hx rfl (hb hby d11_4) rfl (by decide)) ?_
  show Go p e below T1 (mkF m 7 #[.val (.ref t), .val (.ref o), .unset] []) _
  refine stp (fun _ => XS.aloadN X1.here hx rfl (hb hby d11_7) rfl rfl) ?_
  show Go p e below T1 (mkF m 8 #[.val (.ref t), .val (.ref o), .unset] [(.ref o)]) _
  obtain ⟨T2, X2, e2, st2⟩ := castY X1 hx hZ hown (hw _ (List.mem_of_getElem? (i := 61) rfl)) e1 (Ins.self E_o) (g := (mkF m 8 #[.val (.ref t), .val (.ref o), .unset] [(.ref o)])) rfl rfl (hb hby d11_8)
  refine stp st2 ?_
  show Go p e below T2 (mkF m 11 #[.val (.ref t), .val (.ref o), .unset] [(.ref o)]) _
  refine stp (fun _ => XS.astoreN X2.here hx rfl (hb hby d11_11) rfl rfl (l' := #[.val (.ref t), .val (.ref o), .val (.ref o)]) rfl) ?_
  show Go p e below T2 (mkF m 12 #[.val (.ref t), .val (.ref o), .val (.ref o)] []) _
  refine stp (fun _ => XS.aloadN X2.here hx rfl (hb hby d11_12) rfl rfl) ?_
  show Go p e below T2 (mkF m 13 #[.val (.ref t), .val (.ref o), .val (.ref o)] [(.ref t)]) _
  obtain ⟨T3, X3, e3, st3⟩ := getF X2 hx hZ hown (host := "") (Or.inl (hw _ (List.mem_of_getElem? (i := 54) rfl))) Via.refl e2 F_t_name (g := (mkF m 13 #[.val (.ref t), .val (.ref o), .val (.ref o)] [(.ref t)])) rfl rfl (hb hby d11_13)
  refine stp st3 ?_
  show Go p e below T3 (mkF m 16 #[.val (.ref t), .val (.ref o), .val (.ref o)] [(.ref s1)]) _
  refine stp (fun _ => XS.aloadN X3.here hx rfl (hb hby d11_16) rfl rfl) ?_
  show Go p e below T3 (mkF m 17 #[.val (.ref t), .val (.ref o), .val (.ref o)] [(.ref o), (.ref s1)]) _
  obtain ⟨T4, X4, e4, st4⟩ := getF X3 hx hZ hown (host := "") (Or.inl (hw _ (List.mem_of_getElem? (i := 54) rfl))) Via.refl e3 F_o_name (g := (mkF m 17 #[.val (.ref t), .val (.ref o), .val (.ref o)] [(.ref o), (.ref s1)])) rfl rfl (hb hby d11_17)
  refine stp st4 ?_
  show Go p e below T4 (mkF m 20 #[.val (.ref t), .val (.ref o), .val (.ref o)] [(.ref s2), (.ref s1)]) _
  obtain ⟨cq5, kq5, q5a, q5b, q5c⟩ := isOf hZ e4 Q_s1.exa
  obtain ⟨_, _, ⟨T5, L5, k5, n5⟩, -, X5, ⟨Lc5, hQ5, l5, y5, z5⟩, st5⟩ := X4.virtualBack hx (y := (⟨"java/lang/String", "equals", "(Ljava/lang/Object;)Z"⟩ : MethodName)) (z := (⟨"java/lang/String", "equals", "(Ljava/lang/Object;)Z"⟩ : MethodName)) hown (mvT hZ (hw _ (List.mem_of_getElem? (i := 63) rfl))) (mvT hZ (hw _ (List.mem_of_getElem? (i := 64) rfl))) (notFace_of_selects (args := #[]) (mvT hZ (hw _ (List.mem_of_getElem? (i := 66) rfl)))) (mvT hZ (hw _ (List.mem_of_getElem? (i := 66) rfl))) (mvT hZ (hw _ (List.mem_of_getElem? (i := 65) rfl))) (by decide) (own_eqB (W := 0) hw hZ Q_s1 Q_s2 (S_COMPACT_STRINGS.ext O0.2) hcz (n0 := n0) (by decide) (by decide)) q5a q5c (g := (mkF m 20 #[.val (.ref t), .val (.ref o), .val (.ref o)] [(.ref s2), (.ref s1)])) rfl (by rw [hml]; rfl) (Steps.refl _) (argsL := [(.ref s2)]) (rest := []) (lenOf pd_4 rfl) rfl (by show 2 * 0 + _ ≤ _; exact Nat.le_of_eq rfl) (hb hby d11_20) (fun _ _ => ⟨rfl, e4, (by decide : 0 + 0 ≤ _), (by decide : 0 + 0 ≤ _)⟩)
  dsimp only [Pt.U, Pt.locs, Pt.cells, Pt.slots] at X5 l5 y5 z5 st5 hQ5
  subst y5 z5
  obtain ⟨rfl, N5q, e5⟩ := hQ5
  have N5 : Fr n0 L5 := by rw [l5]; exact Fr.app N0 N5q
  refine stt st5 ?_
  show Go p e below T5 (mkF m 23 #[.val (.ref t), .val (.ref o), .val (.ref o)] [(.int (if cs = ds then (1 : Int32) else (0 : Int32)))]) _
  by_cases q23_6 : (if cs = ds then (1 : Int32) else (0 : Int32)) = 0
  · refine stp (fun _ => XS.ifYes X5.here hx rfl (pc0 := 23) (pc' := 30) rfl (hb hby d11_23) rfl (XT.i0_eq_t q23_6) (by decide) (by decide)) ?_
    show Go p e below T5 (mkF m 30 #[.val (.ref t), .val (.ref o), .val (.ref o)] []) _
    refine stp (fun _ => XS.iconst X5.here hx rfl (hb hby d11_30)) ?_
    show Go p e below T5 (mkF m 31 #[.val (.ref t), .val (.ref o), .val (.ref o)] [(.int (0 : Int32))]) _
    refine outN X5 hx (t := .boolean) hret (by simp) (hb hby d11_31) hlk (by decide) (by decide) ?_
    exact ⟨by rw [own_if_f q23_6]; rfl, N5, e5⟩
  · refine stp (fun _ => XS.ifNo X5.here hx rfl (hb hby d11_23) rfl (XT.i0_eq_f q23_6)) ?_
    show Go p e below T5 (mkF m 26 #[.val (.ref t), .val (.ref o), .val (.ref o)] []) _
    refine stp (fun _ => XS.iconst X5.here hx rfl (hb hby d11_26)) ?_
    show Go p e below T5 (mkF m 27 #[.val (.ref t), .val (.ref o), .val (.ref o)] [(.int (1 : Int32))]) _
    refine stp (fun _ => XS.goto X5.here hx rfl (pc0 := 27) (pc' := 31) rfl (hb hby d11_27) (by decide) (by decide)) ?_
    show Go p e below T5 (mkF m 31 #[.val (.ref t), .val (.ref o), .val (.ref o)] [(.int (1 : Int32))]) _
    refine outN X5 hx (t := .boolean) hret (by simp) (hb hby d11_31) hlk (by decide) (by decide) ?_
    exact ⟨by rw [own_if_t q23_6]; rfl, N5, e5⟩
theorem ef_rm_eqp (m : MethodId) (t : Addr) (o : Addr)  : entryFrame m #[(.ref t), (.ref o)] 3 = mkF m 0 #[.val (.ref t), .val (.ref o), .unset] [] := by first | (simp [entryFrame, mkF, argsToLocals, Value.category]; done) | rfl
def Q_rm_eqp (Z : State) (t : Addr) (o : Addr)  (h0 : Heap) (n0 : Nat) (v : Option Value) (h : Heap) (L : List Loc) : Prop := v = some (.int (0 : Int32)) ∧ Fr n0 L ∧ h = h0
set_option maxRecDepth 65536 in
set_option maxHeartbeats 40000000 in
theorem rm_eqp (l : Launch) (Z : State) (a0 : Array Value) (hw : ∀ d ∈ tables_1, d.before a0 Z = true) (ws : List Jvm.Cond) (t : Addr) (o : Addr)  (h0 : Heap) (n0 : Nat) (O0 : Old Z n0 h0) (E_o : Exa Z h0 o "com/example/revlint/revlint/model/GenericType$Primitive") :
    MetFree l (⟨"com/example/revlint/revlint/model/GenericType$TypeVariable", "equals", "(Ljava/lang/Object;)Z"⟩ : MethodName) (head1 (Jvm.Cond.code (⟨"com/example/revlint/revlint/model/GenericType$TypeVariable", "equals", "(Ljava/lang/Object;)Z"⟩ : MethodName) prog_22_method_2_code 3 (some .boolean) :: ws) ({ frames := 0, cells := 0, slots := 0, locals := 0 } : Room)) (fun args_ U => args_ = #[(.ref t), (.ref o)] ∧ Z.Warmed39 U.vm ∧ U.heap = h0) (fun _ _ _ _ _ => True) (fun _ U out_ U' => ∃ val_ loc_, out_ = .returned val_ ∧ (Q_rm_eqp Z t o h0 n0) val_ U'.heap loc_ ∧ FrameEnd U out_ U' loc_ ({ frames := 0, cells := 0, slots := 0, locals := 0 } : Room).cells ({ frames := 0, cells := 0, slots := 0, locals := 0 } : Room).slots) := by
  refine start (Q := (Q_rm_eqp Z t o h0 n0)) pn_7 ?_
  intro p e s m below meth c T0 X0 hx hby hml hown hnm hret hlk hZ e0
  replace hown : s.vm.findClass "com/example/revlint/revlint/model/GenericType$TypeVariable" = some m.cls := hown
  replace hml : c.maxLocals = 3 := hml
  refine goAt (ef_rm_eqp m t o ) ?_
  have N0 := Fr.nil n0
  show Go p e below T0 (mkF m 0 #[.val (.ref t), .val (.ref o), .unset] []) _
  refine stp (fun _ => XS.aloadN X0.here hx rfl (hb hby d11_0) rfl rfl) ?_
  show Go p e below T0 (mkF m 1 #[.val (.ref t), .val (.ref o), .unset] [(.ref o)]) _
  obtain ⟨T1, X1, e1, st1⟩ := instNo X0 hx hZ hown (hw _ (List.mem_of_getElem? (i := 61) rfl)) e0 E_o (NSno (hw _ (List.mem_of_getElem? (i := 86) rfl)) (hw _ (List.mem_of_getElem? (i := 38) rfl)) (NS.step (hw _ (List.mem_of_getElem? (i := 86) rfl)) (NS.step (hw _ (List.mem_of_getElem? (i := 87) rfl)) (NSroot (hw _ (List.mem_of_getElem? (i := 74) rfl)) (hw _ (List.mem_of_getElem? (i := 38) rfl)) (by decide)) (by decide)) (by decide)) (by decide)) (g := (mkF m 1 #[.val (.ref t), .val (.ref o), .unset] [(.ref o)])) rfl rfl (hb hby d11_1)
  refine stp st1 ?_
  show Go p e below T1 (mkF m 4 #[.val (.ref t), .val (.ref o), .unset] [(.int (0 : Int32))]) _
  refine stp (fun _ => XS.ifYes X1.here hx rfl (pc0 := 4) (pc' := 30) rfl (hb hby d11_4) rfl (by decide) (by decide) (by decide)) ?_
  show Go p e below T1 (mkF m 30 #[.val (.ref t), .val (.ref o), .unset] []) _
  refine stp (fun _ => XS.iconst X1.here hx rfl (hb hby d11_30)) ?_
  show Go p e below T1 (mkF m 31 #[.val (.ref t), .val (.ref o), .unset] [(.int (0 : Int32))]) _
  refine outN X1 hx (t := .boolean) hret (by simp) (hb hby d11_31) hlk (by decide) (by decide) ?_
  exact ⟨rfl, N0, e1⟩
theorem ef_rm_eqs (m : MethodId) (t : Addr) (o : Addr)  : entryFrame m #[(.ref t), (.ref o)] 3 = mkF m 0 #[.val (.ref t), .val (.ref o), .unset] [] := by first | (simp [entryFrame, mkF, argsToLocals, Value.category]; done) | rfl
def Q_rm_eqs (Z : State) (t : Addr) (o : Addr)  (h0 : Heap) (n0 : Nat) (v : Option Value) (h : Heap) (L : List Loc) : Prop := v = some (.int (0 : Int32)) ∧ Fr n0 L ∧ h = h0
set_option maxRecDepth 65536 in
set_option maxHeartbeats 40000000 in
theorem rm_eqs (l : Launch) (Z : State) (a0 : Array Value) (hw : ∀ d ∈ tables_1, d.before a0 Z = true) (ws : List Jvm.Cond) (t : Addr) (o : Addr)  (h0 : Heap) (n0 : Nat) (O0 : Old Z n0 h0) (E_o : Exa Z h0 o "java/lang/String") :
    MetFree l (⟨"com/example/revlint/revlint/model/GenericType$TypeVariable", "equals", "(Ljava/lang/Object;)Z"⟩ : MethodName) (head1 (Jvm.Cond.code (⟨"com/example/revlint/revlint/model/GenericType$TypeVariable", "equals", "(Ljava/lang/Object;)Z"⟩ : MethodName) prog_22_method_2_code 3 (some .boolean) :: ws) ({ frames := 0, cells := 0, slots := 0, locals := 0 } : Room)) (fun args_ U => args_ = #[(.ref t), (.ref o)] ∧ Z.Warmed39 U.vm ∧ U.heap = h0) (fun _ _ _ _ _ => True) (fun _ U out_ U' => ∃ val_ loc_, out_ = .returned val_ ∧ (Q_rm_eqs Z t o h0 n0) val_ U'.heap loc_ ∧ FrameEnd U out_ U' loc_ ({ frames := 0, cells := 0, slots := 0, locals := 0 } : Room).cells ({ frames := 0, cells := 0, slots := 0, locals := 0 } : Room).slots) := by
  refine start (Q := (Q_rm_eqs Z t o h0 n0)) pn_7 ?_
  intro p e s m below meth c T0 X0 hx hby hml hown hnm hret hlk hZ e0
  replace hown : s.vm.findClass "com/example/revlint/revlint/model/GenericType$TypeVariable" = some m.cls := hown
  replace hml : c.maxLocals = 3 := hml
  refine goAt (ef_rm_eqs m t o ) ?_
  have N0 := Fr.nil n0
  show Go p e below T0 (mkF m 0 #[.val (.ref t), .val (.ref o), .unset] []) _
  refine stp (fun _ => XS.aloadN X0.here hx rfl (hb hby d11_0) rfl rfl) ?_
  show Go p e below T0 (mkF m 1 #[.val (.ref t), .val (.ref o), .unset] [(.ref o)]) _
  obtain ⟨T1, X1, e1, st1⟩ := instNo X0 hx hZ hown (hw _ (List.mem_of_getElem? (i := 61) rfl)) e0 E_o (NSno (hw _ (List.mem_of_getElem? (i := 73) rfl)) (hw _ (List.mem_of_getElem? (i := 38) rfl)) (NS.step (hw _ (List.mem_of_getElem? (i := 73) rfl)) (NSroot (hw _ (List.mem_of_getElem? (i := 74) rfl)) (hw _ (List.mem_of_getElem? (i := 38) rfl)) (by decide)) (by decide)) (by decide)) (g := (mkF m 1 #[.val (.ref t), .val (.ref o), .unset] [(.ref o)])) rfl rfl (hb hby d11_1)
  refine stp st1 ?_
  show Go p e below T1 (mkF m 4 #[.val (.ref t), .val (.ref o), .unset] [(.int (0 : Int32))]) _
  refine stp (fun _ => XS.ifYes X1.here hx rfl (pc0 := 4) (pc' := 30) rfl (hb hby d11_4) rfl (by decide) (by decide) (by decide)) ?_
  show Go p e below T1 (mkF m 30 #[.val (.ref t), .val (.ref o), .unset] []) _
  refine stp (fun _ => XS.iconst X1.here hx rfl (hb hby d11_30)) ?_
  show Go p e below T1 (mkF m 31 #[.val (.ref t), .val (.ref o), .unset] [(.int (0 : Int32))]) _
  refine outN X1 hx (t := .boolean) hret (by simp) (hb hby d11_31) hlk (by decide) (by decide) ?_
  exact ⟨rfl, N0, e1⟩
theorem ef_rm_eq0 (m : MethodId) (t : Addr)  : entryFrame m #[(.ref t), .null] 3 = mkF m 0 #[.val (.ref t), .val .null, .unset] [] := by first | (simp [entryFrame, mkF, argsToLocals, Value.category]; done) | rfl
def Q_rm_eq0 (Z : State) (t : Addr)  (h0 : Heap) (n0 : Nat) (v : Option Value) (h : Heap) (L : List Loc) : Prop := v = some (.int (0 : Int32)) ∧ Fr n0 L ∧ h = h0
set_option maxRecDepth 65536 in
set_option maxHeartbeats 40000000 in
theorem rm_eq0 (l : Launch) (Z : State) (a0 : Array Value) (hw : ∀ d ∈ tables_1, d.before a0 Z = true) (ws : List Jvm.Cond) (t : Addr)  (h0 : Heap) (n0 : Nat) (O0 : Old Z n0 h0)  :
    MetFree l (⟨"com/example/revlint/revlint/model/GenericType$TypeVariable", "equals", "(Ljava/lang/Object;)Z"⟩ : MethodName) (head1 (Jvm.Cond.code (⟨"com/example/revlint/revlint/model/GenericType$TypeVariable", "equals", "(Ljava/lang/Object;)Z"⟩ : MethodName) prog_22_method_2_code 3 (some .boolean) :: ws) ({ frames := 0, cells := 0, slots := 0, locals := 0 } : Room)) (fun args_ U => args_ = #[(.ref t), .null] ∧ Z.Warmed39 U.vm ∧ U.heap = h0) (fun _ _ _ _ _ => True) (fun _ U out_ U' => ∃ val_ loc_, out_ = .returned val_ ∧ (Q_rm_eq0 Z t h0 n0) val_ U'.heap loc_ ∧ FrameEnd U out_ U' loc_ ({ frames := 0, cells := 0, slots := 0, locals := 0 } : Room).cells ({ frames := 0, cells := 0, slots := 0, locals := 0 } : Room).slots) := by
  refine start (Q := (Q_rm_eq0 Z t h0 n0)) pn_7 ?_
  intro p e s m below meth c T0 X0 hx hby hml hown hnm hret hlk hZ e0
  replace hown : s.vm.findClass "com/example/revlint/revlint/model/GenericType$TypeVariable" = some m.cls := hown
  replace hml : c.maxLocals = 3 := hml
  refine goAt (ef_rm_eq0 m t ) ?_
  have N0 := Fr.nil n0
  show Go p e below T0 (mkF m 0 #[.val (.ref t), .val .null, .unset] []) _
  refine stp (fun _ => XS.aloadN X0.here hx rfl (hb hby d11_0) rfl rfl) ?_
  show Go p e below T0 (mkF m 1 #[.val (.ref t), .val .null, .unset] [.null]) _
  refine stp (fun _ => X0.instanceofNull hx (g := (mkF m 1 #[.val (.ref t), .val .null, .unset] [.null])) rfl rfl (hb hby d11_1) _) ?_
  show Go p e below T0 (mkF m 4 #[.val (.ref t), .val .null, .unset] [(.int (0 : Int32))]) _
  refine stp (fun _ => XS.ifYes X0.here hx rfl (pc0 := 4) (pc' := 30) rfl (hb hby d11_4) rfl (by decide) (by decide) (by decide)) ?_
  show Go p e below T0 (mkF m 30 #[.val (.ref t), .val .null, .unset] []) _
  refine stp (fun _ => XS.iconst X0.here hx rfl (hb hby d11_30)) ?_
  show Go p e below T0 (mkF m 31 #[.val (.ref t), .val .null, .unset] [(.int (0 : Int32))]) _
  refine outN X0 hx (t := .boolean) hret (by simp) (hb hby d11_31) hlk (by decide) (by decide) ?_
  exact ⟨rfl, N0, e0⟩
theorem pd_5 : parseMethodDescriptor "(ICC)Ljava/lang/String;" = some ⟨[.int, .char, .char], some (.object "java/lang/String")⟩ := by decide +kernel
theorem pd_6 : parseMethodDescriptor "(Ljava/lang/String;)V" = some ⟨[(.object "java/lang/String")], none⟩ := by decide +kernel
theorem ef_rm0 (m : MethodId) (a : Int32) (b : Int32) (k : Int32)  : entryFrame m #[(.int a), (.int b), (.int k)] maxLocals = mkF m 0 #[.val (.int a), .val (.int b), .val (.int k), .unset, .unset, .unset, .unset, .unset, .unset, .unset, .unset, .unset, .unset, .unset, .unset] [] := by first | (simp [entryFrame, mkF, argsToLocals, Value.category, maxLocals]; done) | rfl
def Q_rm0 (Z : State) (a : Int32) (b : Int32) (k : Int32) (cz : Int32) (h0 : Heap) (n0 : Nat) (v : Option Value) (h : Heap) (L : List Loc) : Prop := v = some (.int 1) ∧ Fr n0 L
theorem pn_8_ : plainName "com/example/revlint/revlint/model/TypeVariableEqualsPinLaw" = true := by first | (simp [plainName, overriddenIn]; done) | decide +kernel
theorem pn_8 : plainFor (⟨"com/example/revlint/revlint/model/TypeVariableEqualsPinLaw", "law", "(III)Z"⟩ : MethodName) = true := plainFor_of_name pn_8_
set_option maxRecDepth 65536 in
set_option maxHeartbeats 40000000 in
theorem rm0 (l : Launch) (Z : State) (a0 : Array Value) (hw : ∀ d ∈ tables_1, d.before a0 Z = true) (ws : List Jvm.Cond) (a : Int32) (b : Int32) (k : Int32) (cz : Int32) (h0 : Heap) (n0 : Nat) (O0 : Old Z n0 h0) (hEL : EW Z a0 consts_1) (S_CS : Sta Z Z.heap "java/lang/String" "COMPACT_STRINGS" "Z" (.int cz)) (hcz : ¬ cz = (0 : Int32)) :
    MetFree l x (head1 (Jvm.Cond.code x code maxLocals ret :: ws) room_1) (fun args_ U => args_ = #[(.int a), (.int b), (.int k)] ∧ Z.Warmed39 U.vm ∧ U.heap = h0 ∧ CHv Z consts_1 U.vm h0) (fun _ _ _ _ _ => True) (fun _ U out_ U' => ∃ val_ loc_, out_ = .returned val_ ∧ (Q_rm0 Z a b k cz h0 n0) val_ U'.heap loc_ ∧ CHr Z consts_1 U.vm U.heap U'.vm U'.heap ∧ ReturnedEndW U out_ U' loc_ 14 58) := by
  refine startW (Q := (Q_rm0 Z a b k cz h0 n0)) (show plainFor x = true from pn_8) ?_
  intro p e s m below meth c T0 X0 hx hby hml hown hnm hret hlk hZ e0 hS CR
  have hk : 0 ≤ h0.size := Nat.zero_le _
  have wS : ∀ a ∈ Bundle.stringAtoms, a.before a0 Z = true := own_wS hw
  replace hown : s.vm.findClass "com/example/revlint/revlint/model/TypeVariableEqualsPinLaw" = some m.cls := hown
  replace hml : c.maxLocals = 15 := hml
  refine goAt (ef_rm0 m a b k ) ?_
  have N0 := Fr.nil n0
  show Go p e below T0 (mkF m 0 #[.val (.int a), .val (.int b), .val (.int k), .unset, .unset, .unset, .unset, .unset, .unset, .unset, .unset, .unset, .unset, .unset, .unset] []) _
  refine stp (fun _ => XS.iloadN X0.here hx rfl (hb hby at_0) rfl) ?_
  show Go p e below T0 (mkF m 1 #[.val (.int a), .val (.int b), .val (.int k), .unset, .unset, .unset, .unset, .unset, .unset, .unset, .unset, .unset, .unset, .unset, .unset] [(.int k)]) _
  refine stp (fun _ => XS.iconst X0.here hx rfl (hb hby at_1)) ?_
  show Go p e below T0 (mkF m 2 #[.val (.int a), .val (.int b), .val (.int k), .unset, .unset, .unset, .unset, .unset, .unset, .unset, .unset, .unset, .unset, .unset, .unset] [(.int (3 : Int32)), (.int k)]) _
  refine stp (fun _ => XS.iand X0.here hx rfl (hb hby at_2) rfl) ?_
  show Go p e below T0 (mkF m 3 #[.val (.int a), .val (.int b), .val (.int k), .unset, .unset, .unset, .unset, .unset, .unset, .unset, .unset, .unset, .unset, .unset, .unset] [(.int (k &&& (3 : Int32)))]) _
  refine stp (fun _ => XS.iconst X0.here hx rfl (hb hby at_3)) ?_
  show Go p e below T0 (mkF m 4 #[.val (.int a), .val (.int b), .val (.int k), .unset, .unset, .unset, .unset, .unset, .unset, .unset, .unset, .unset, .unset, .unset, .unset] [(.int (3 : Int32)), (.int (k &&& (3 : Int32)))]) _
  refine stp (fun _ => iremM X0 hx rfl (hb hby at_4) rfl (by decide)) ?_
  show Go p e below T0 (mkF m 5 #[.val (.int a), .val (.int b), .val (.int k), .unset, .unset, .unset, .unset, .unset, .unset, .unset, .unset, .unset, .unset, .unset, .unset] [(.int ((k &&& (3 : Int32)) % (3 : Int32)))]) _
  refine stp (fun _ => XS.istoreN X0.here hx rfl (hb hby at_5) rfl (l' := #[.val (.int a), .val (.int b), .val (.int k), .val (.int ((k &&& (3 : Int32)) % (3 : Int32))), .unset, .unset, .unset, .unset, .unset, .unset, .unset, .unset, .unset, .unset, .unset]) rfl) ?_
  show Go p e below T0 (mkF m 6 #[.val (.int a), .val (.int b), .val (.int k), .val (.int ((k &&& (3 : Int32)) % (3 : Int32))), .unset, .unset, .unset, .unset, .unset, .unset, .unset, .unset, .unset, .unset, .unset] []) _
  refine stp (fun _ => XS.iloadN X0.here hx rfl (hb hby at_6) rfl) ?_
  show Go p e below T0 (mkF m 7 #[.val (.int a), .val (.int b), .val (.int k), .val (.int ((k &&& (3 : Int32)) % (3 : Int32))), .unset, .unset, .unset, .unset, .unset, .unset, .unset, .unset, .unset, .unset, .unset] [(.int k)]) _
  refine stp (fun _ => XS.iconst X0.here hx rfl (hb hby at_7)) ?_
  show Go p e below T0 (mkF m 8 #[.val (.int a), .val (.int b), .val (.int k), .val (.int ((k &&& (3 : Int32)) % (3 : Int32))), .unset, .unset, .unset, .unset, .unset, .unset, .unset, .unset, .unset, .unset, .unset] [(.int (2 : Int32)), (.int k)]) _
  refine stp (fun _ => XS.iushr X0.here hx rfl (hb hby at_8) rfl) ?_
  show Go p e below T0 (mkF m 9 #[.val (.int a), .val (.int b), .val (.int k), .val (.int ((k &&& (3 : Int32)) % (3 : Int32))), .unset, .unset, .unset, .unset, .unset, .unset, .unset, .unset, .unset, .unset, .unset] [(.int ((k.toUInt32 >>> ((2 : Int32) &&& 31).toUInt32).toInt32))]) _
  refine stp (fun _ => XS.iconst X0.here hx rfl (hb hby at_9)) ?_
  show Go p e below T0 (mkF m 10 #[.val (.int a), .val (.int b), .val (.int k), .val (.int ((k &&& (3 : Int32)) % (3 : Int32))), .unset, .unset, .unset, .unset, .unset, .unset, .unset, .unset, .unset, .unset, .unset] [(.int (3 : Int32)), (.int ((k.toUInt32 >>> ((2 : Int32) &&& 31).toUInt32).toInt32))]) _
  refine stp (fun _ => XS.iand X0.here hx rfl (hb hby at_10) rfl) ?_
  show Go p e below T0 (mkF m 11 #[.val (.int a), .val (.int b), .val (.int k), .val (.int ((k &&& (3 : Int32)) % (3 : Int32))), .unset, .unset, .unset, .unset, .unset, .unset, .unset, .unset, .unset, .unset, .unset] [(.int (((k.toUInt32 >>> ((2 : Int32) &&& 31).toUInt32).toInt32) &&& (3 : Int32)))]) _
  refine stp (fun _ => XS.iconst X0.here hx rfl (hb hby at_11)) ?_
  show Go p e below T0 (mkF m 12 #[.val (.int a), .val (.int b), .val (.int k), .val (.int ((k &&& (3 : Int32)) % (3 : Int32))), .unset, .unset, .unset, .unset, .unset, .unset, .unset, .unset, .unset, .unset, .unset] [(.int (3 : Int32)), (.int (((k.toUInt32 >>> ((2 : Int32) &&& 31).toUInt32).toInt32) &&& (3 : Int32)))]) _
  refine stp (fun _ => iremM X0 hx rfl (hb hby at_12) rfl (by decide)) ?_
  show Go p e below T0 (mkF m 13 #[.val (.int a), .val (.int b), .val (.int k), .val (.int ((k &&& (3 : Int32)) % (3 : Int32))), .unset, .unset, .unset, .unset, .unset, .unset, .unset, .unset, .unset, .unset, .unset] [(.int ((((k.toUInt32 >>> ((2 : Int32) &&& 31).toUInt32).toInt32) &&& (3 : Int32)) % (3 : Int32)))]) _
  refine stp (fun _ => XS.istore X0.here hx rfl (hb hby at_13) rfl (l' := #[.val (.int a), .val (.int b), .val (.int k), .val (.int ((k &&& (3 : Int32)) % (3 : Int32))), .val (.int ((((k.toUInt32 >>> ((2 : Int32) &&& 31).toUInt32).toInt32) &&& (3 : Int32)) % (3 : Int32))), .unset, .unset, .unset, .unset, .unset, .unset, .unset, .unset, .unset, .unset]) rfl) ?_
  show Go p e below T0 (mkF m 15 #[.val (.int a), .val (.int b), .val (.int k), .val (.int ((k &&& (3 : Int32)) % (3 : Int32))), .val (.int ((((k.toUInt32 >>> ((2 : Int32) &&& 31).toUInt32).toInt32) &&& (3 : Int32)) % (3 : Int32))), .unset, .unset, .unset, .unset, .unset, .unset, .unset, .unset, .unset, .unset] []) _
  refine stp (fun _ => XS.iloadN X0.here hx rfl (hb hby at_15) rfl) ?_
  show Go p e below T0 (mkF m 16 #[.val (.int a), .val (.int b), .val (.int k), .val (.int ((k &&& (3 : Int32)) % (3 : Int32))), .val (.int ((((k.toUInt32 >>> ((2 : Int32) &&& 31).toUInt32).toInt32) &&& (3 : Int32)) % (3 : Int32))), .unset, .unset, .unset, .unset, .unset, .unset, .unset, .unset, .unset, .unset] [(.int k)]) _
  refine stp (fun _ => XS.iconst X0.here hx rfl (hb hby at_16)) ?_
  show Go p e below T0 (mkF m 17 #[.val (.int a), .val (.int b), .val (.int k), .val (.int ((k &&& (3 : Int32)) % (3 : Int32))), .val (.int ((((k.toUInt32 >>> ((2 : Int32) &&& 31).toUInt32).toInt32) &&& (3 : Int32)) % (3 : Int32))), .unset, .unset, .unset, .unset, .unset, .unset, .unset, .unset, .unset, .unset] [(.int (4 : Int32)), (.int k)]) _
  refine stp (fun _ => XS.iushr X0.here hx rfl (hb hby at_17) rfl) ?_
  show Go p e below T0 (mkF m 18 #[.val (.int a), .val (.int b), .val (.int k), .val (.int ((k &&& (3 : Int32)) % (3 : Int32))), .val (.int ((((k.toUInt32 >>> ((2 : Int32) &&& 31).toUInt32).toInt32) &&& (3 : Int32)) % (3 : Int32))), .unset, .unset, .unset, .unset, .unset, .unset, .unset, .unset, .unset, .unset] [(.int ((k.toUInt32 >>> ((4 : Int32) &&& 31).toUInt32).toInt32))]) _
  refine stp (fun _ => XS.iconst X0.here hx rfl (hb hby at_18)) ?_
  show Go p e below T0 (mkF m 19 #[.val (.int a), .val (.int b), .val (.int k), .val (.int ((k &&& (3 : Int32)) % (3 : Int32))), .val (.int ((((k.toUInt32 >>> ((2 : Int32) &&& 31).toUInt32).toInt32) &&& (3 : Int32)) % (3 : Int32))), .unset, .unset, .unset, .unset, .unset, .unset, .unset, .unset, .unset, .unset] [(.int (3 : Int32)), (.int ((k.toUInt32 >>> ((4 : Int32) &&& 31).toUInt32).toInt32))]) _
  refine stp (fun _ => XS.iand X0.here hx rfl (hb hby at_19) rfl) ?_
  show Go p e below T0 (mkF m 20 #[.val (.int a), .val (.int b), .val (.int k), .val (.int ((k &&& (3 : Int32)) % (3 : Int32))), .val (.int ((((k.toUInt32 >>> ((2 : Int32) &&& 31).toUInt32).toInt32) &&& (3 : Int32)) % (3 : Int32))), .unset, .unset, .unset, .unset, .unset, .unset, .unset, .unset, .unset, .unset] [(.int (((k.toUInt32 >>> ((4 : Int32) &&& 31).toUInt32).toInt32) &&& (3 : Int32)))]) _
  refine stp (fun _ => XS.istore X0.here hx rfl (hb hby at_20) rfl (l' := #[.val (.int a), .val (.int b), .val (.int k), .val (.int ((k &&& (3 : Int32)) % (3 : Int32))), .val (.int ((((k.toUInt32 >>> ((2 : Int32) &&& 31).toUInt32).toInt32) &&& (3 : Int32)) % (3 : Int32))), .val (.int (((k.toUInt32 >>> ((4 : Int32) &&& 31).toUInt32).toInt32) &&& (3 : Int32))), .unset, .unset, .unset, .unset, .unset, .unset, .unset, .unset, .unset]) rfl) ?_
  show Go p e below T0 (mkF m 22 #[.val (.int a), .val (.int b), .val (.int k), .val (.int ((k &&& (3 : Int32)) % (3 : Int32))), .val (.int ((((k.toUInt32 >>> ((2 : Int32) &&& 31).toUInt32).toInt32) &&& (3 : Int32)) % (3 : Int32))), .val (.int (((k.toUInt32 >>> ((4 : Int32) &&& 31).toUInt32).toInt32) &&& (3 : Int32))), .unset, .unset, .unset, .unset, .unset, .unset, .unset, .unset, .unset] []) _
  refine stp (fun _ => XS.iloadN X0.here hx rfl (hb hby at_22) rfl) ?_
  show Go p e below T0 (mkF m 23 #[.val (.int a), .val (.int b), .val (.int k), .val (.int ((k &&& (3 : Int32)) % (3 : Int32))), .val (.int ((((k.toUInt32 >>> ((2 : Int32) &&& 31).toUInt32).toInt32) &&& (3 : Int32)) % (3 : Int32))), .val (.int (((k.toUInt32 >>> ((4 : Int32) &&& 31).toUInt32).toInt32) &&& (3 : Int32))), .unset, .unset, .unset, .unset, .unset, .unset, .unset, .unset, .unset] [(.int a)]) _
  refine stp (fun _ => XS.sipush X0.here hx rfl (hb hby at_23)) ?_
  show Go p e below T0 (mkF m 26 #[.val (.int a), .val (.int b), .val (.int k), .val (.int ((k &&& (3 : Int32)) % (3 : Int32))), .val (.int ((((k.toUInt32 >>> ((2 : Int32) &&& 31).toUInt32).toInt32) &&& (3 : Int32)) % (3 : Int32))), .val (.int (((k.toUInt32 >>> ((4 : Int32) &&& 31).toUInt32).toInt32) &&& (3 : Int32))), .unset, .unset, .unset, .unset, .unset, .unset, .unset, .unset, .unset] [(.int (255 : Int32)), (.int a)]) _
  refine stp (fun _ => XS.iand X0.here hx rfl (hb hby at_26) rfl) ?_
  show Go p e below T0 (mkF m 27 #[.val (.int a), .val (.int b), .val (.int k), .val (.int ((k &&& (3 : Int32)) % (3 : Int32))), .val (.int ((((k.toUInt32 >>> ((2 : Int32) &&& 31).toUInt32).toInt32) &&& (3 : Int32)) % (3 : Int32))), .val (.int (((k.toUInt32 >>> ((4 : Int32) &&& 31).toUInt32).toInt32) &&& (3 : Int32))), .unset, .unset, .unset, .unset, .unset, .unset, .unset, .unset, .unset] [(.int (a &&& (255 : Int32)))]) _
  refine stp (fun _ => XS.i2c X0.here hx rfl (hb hby at_27) rfl) ?_
  show Go p e below T0 (mkF m 28 #[.val (.int a), .val (.int b), .val (.int k), .val (.int ((k &&& (3 : Int32)) % (3 : Int32))), .val (.int ((((k.toUInt32 >>> ((2 : Int32) &&& 31).toUInt32).toInt32) &&& (3 : Int32)) % (3 : Int32))), .val (.int (((k.toUInt32 >>> ((4 : Int32) &&& 31).toUInt32).toInt32) &&& (3 : Int32))), .unset, .unset, .unset, .unset, .unset, .unset, .unset, .unset, .unset] [(.int ((a &&& (255 : Int32)).toUInt32.toUInt16.toUInt32.toInt32))]) _
  refine stp (fun _ => XS.istore X0.here hx rfl (hb hby at_28) rfl (l' := #[.val (.int a), .val (.int b), .val (.int k), .val (.int ((k &&& (3 : Int32)) % (3 : Int32))), .val (.int ((((k.toUInt32 >>> ((2 : Int32) &&& 31).toUInt32).toInt32) &&& (3 : Int32)) % (3 : Int32))), .val (.int (((k.toUInt32 >>> ((4 : Int32) &&& 31).toUInt32).toInt32) &&& (3 : Int32))), .val (.int ((a &&& (255 : Int32)).toUInt32.toUInt16.toUInt32.toInt32)), .unset, .unset, .unset, .unset, .unset, .unset, .unset, .unset]) rfl) ?_
  show Go p e below T0 (mkF m 30 #[.val (.int a), .val (.int b), .val (.int k), .val (.int ((k &&& (3 : Int32)) % (3 : Int32))), .val (.int ((((k.toUInt32 >>> ((2 : Int32) &&& 31).toUInt32).toInt32) &&& (3 : Int32)) % (3 : Int32))), .val (.int (((k.toUInt32 >>> ((4 : Int32) &&& 31).toUInt32).toInt32) &&& (3 : Int32))), .val (.int ((a &&& (255 : Int32)).toUInt32.toUInt16.toUInt32.toInt32)), .unset, .unset, .unset, .unset, .unset, .unset, .unset, .unset] []) _
  refine stp (fun _ => XS.iloadN X0.here hx rfl (hb hby at_30) rfl) ?_
  show Go p e below T0 (mkF m 31 #[.val (.int a), .val (.int b), .val (.int k), .val (.int ((k &&& (3 : Int32)) % (3 : Int32))), .val (.int ((((k.toUInt32 >>> ((2 : Int32) &&& 31).toUInt32).toInt32) &&& (3 : Int32)) % (3 : Int32))), .val (.int (((k.toUInt32 >>> ((4 : Int32) &&& 31).toUInt32).toInt32) &&& (3 : Int32))), .val (.int ((a &&& (255 : Int32)).toUInt32.toUInt16.toUInt32.toInt32)), .unset, .unset, .unset, .unset, .unset, .unset, .unset, .unset] [(.int a)]) _
  refine stp (fun _ => XS.bipush X0.here hx rfl (hb hby at_31)) ?_
  show Go p e below T0 (mkF m 33 #[.val (.int a), .val (.int b), .val (.int k), .val (.int ((k &&& (3 : Int32)) % (3 : Int32))), .val (.int ((((k.toUInt32 >>> ((2 : Int32) &&& 31).toUInt32).toInt32) &&& (3 : Int32)) % (3 : Int32))), .val (.int (((k.toUInt32 >>> ((4 : Int32) &&& 31).toUInt32).toInt32) &&& (3 : Int32))), .val (.int ((a &&& (255 : Int32)).toUInt32.toUInt16.toUInt32.toInt32)), .unset, .unset, .unset, .unset, .unset, .unset, .unset, .unset] [(.int (8 : Int32)), (.int a)]) _
  refine stp (fun _ => XS.iushr X0.here hx rfl (hb hby at_33) rfl) ?_
  show Go p e below T0 (mkF m 34 #[.val (.int a), .val (.int b), .val (.int k), .val (.int ((k &&& (3 : Int32)) % (3 : Int32))), .val (.int ((((k.toUInt32 >>> ((2 : Int32) &&& 31).toUInt32).toInt32) &&& (3 : Int32)) % (3 : Int32))), .val (.int (((k.toUInt32 >>> ((4 : Int32) &&& 31).toUInt32).toInt32) &&& (3 : Int32))), .val (.int ((a &&& (255 : Int32)).toUInt32.toUInt16.toUInt32.toInt32)), .unset, .unset, .unset, .unset, .unset, .unset, .unset, .unset] [(.int ((a.toUInt32 >>> ((8 : Int32) &&& 31).toUInt32).toInt32))]) _
  refine stp (fun _ => XS.sipush X0.here hx rfl (hb hby at_34)) ?_
  show Go p e below T0 (mkF m 37 #[.val (.int a), .val (.int b), .val (.int k), .val (.int ((k &&& (3 : Int32)) % (3 : Int32))), .val (.int ((((k.toUInt32 >>> ((2 : Int32) &&& 31).toUInt32).toInt32) &&& (3 : Int32)) % (3 : Int32))), .val (.int (((k.toUInt32 >>> ((4 : Int32) &&& 31).toUInt32).toInt32) &&& (3 : Int32))), .val (.int ((a &&& (255 : Int32)).toUInt32.toUInt16.toUInt32.toInt32)), .unset, .unset, .unset, .unset, .unset, .unset, .unset, .unset] [(.int (255 : Int32)), (.int ((a.toUInt32 >>> ((8 : Int32) &&& 31).toUInt32).toInt32))]) _
  refine stp (fun _ => XS.iand X0.here hx rfl (hb hby at_37) rfl) ?_
  show Go p e below T0 (mkF m 38 #[.val (.int a), .val (.int b), .val (.int k), .val (.int ((k &&& (3 : Int32)) % (3 : Int32))), .val (.int ((((k.toUInt32 >>> ((2 : Int32) &&& 31).toUInt32).toInt32) &&& (3 : Int32)) % (3 : Int32))), .val (.int (((k.toUInt32 >>> ((4 : Int32) &&& 31).toUInt32).toInt32) &&& (3 : Int32))), .val (.int ((a &&& (255 : Int32)).toUInt32.toUInt16.toUInt32.toInt32)), .unset, .unset, .unset, .unset, .unset, .unset, .unset, .unset] [(.int (((a.toUInt32 >>> ((8 : Int32) &&& 31).toUInt32).toInt32) &&& (255 : Int32)))]) _
  refine stp (fun _ => XS.i2c X0.here hx rfl (hb hby at_38) rfl) ?_
  show Go p e below T0 (mkF m 39 #[.val (.int a), .val (.int b), .val (.int k), .val (.int ((k &&& (3 : Int32)) % (3 : Int32))), .val (.int ((((k.toUInt32 >>> ((2 : Int32) &&& 31).toUInt32).toInt32) &&& (3 : Int32)) % (3 : Int32))), .val (.int (((k.toUInt32 >>> ((4 : Int32) &&& 31).toUInt32).toInt32) &&& (3 : Int32))), .val (.int ((a &&& (255 : Int32)).toUInt32.toUInt16.toUInt32.toInt32)), .unset, .unset, .unset, .unset, .unset, .unset, .unset, .unset] [(.int ((((a.toUInt32 >>> ((8 : Int32) &&& 31).toUInt32).toInt32) &&& (255 : Int32)).toUInt32.toUInt16.toUInt32.toInt32))]) _
  refine stp (fun _ => XS.istore X0.here hx rfl (hb hby at_39) rfl (l' := #[.val (.int a), .val (.int b), .val (.int k), .val (.int ((k &&& (3 : Int32)) % (3 : Int32))), .val (.int ((((k.toUInt32 >>> ((2 : Int32) &&& 31).toUInt32).toInt32) &&& (3 : Int32)) % (3 : Int32))), .val (.int (((k.toUInt32 >>> ((4 : Int32) &&& 31).toUInt32).toInt32) &&& (3 : Int32))), .val (.int ((a &&& (255 : Int32)).toUInt32.toUInt16.toUInt32.toInt32)), .val (.int ((((a.toUInt32 >>> ((8 : Int32) &&& 31).toUInt32).toInt32) &&& (255 : Int32)).toUInt32.toUInt16.toUInt32.toInt32)), .unset, .unset, .unset, .unset, .unset, .unset, .unset]) rfl) ?_
  show Go p e below T0 (mkF m 41 #[.val (.int a), .val (.int b), .val (.int k), .val (.int ((k &&& (3 : Int32)) % (3 : Int32))), .val (.int ((((k.toUInt32 >>> ((2 : Int32) &&& 31).toUInt32).toInt32) &&& (3 : Int32)) % (3 : Int32))), .val (.int (((k.toUInt32 >>> ((4 : Int32) &&& 31).toUInt32).toInt32) &&& (3 : Int32))), .val (.int ((a &&& (255 : Int32)).toUInt32.toUInt16.toUInt32.toInt32)), .val (.int ((((a.toUInt32 >>> ((8 : Int32) &&& 31).toUInt32).toInt32) &&& (255 : Int32)).toUInt32.toUInt16.toUInt32.toInt32)), .unset, .unset, .unset, .unset, .unset, .unset, .unset] []) _
  refine stp (fun _ => XS.iloadN X0.here hx rfl (hb hby at_41) rfl) ?_
  show Go p e below T0 (mkF m 42 #[.val (.int a), .val (.int b), .val (.int k), .val (.int ((k &&& (3 : Int32)) % (3 : Int32))), .val (.int ((((k.toUInt32 >>> ((2 : Int32) &&& 31).toUInt32).toInt32) &&& (3 : Int32)) % (3 : Int32))), .val (.int (((k.toUInt32 >>> ((4 : Int32) &&& 31).toUInt32).toInt32) &&& (3 : Int32))), .val (.int ((a &&& (255 : Int32)).toUInt32.toUInt16.toUInt32.toInt32)), .val (.int ((((a.toUInt32 >>> ((8 : Int32) &&& 31).toUInt32).toInt32) &&& (255 : Int32)).toUInt32.toUInt16.toUInt32.toInt32)), .unset, .unset, .unset, .unset, .unset, .unset, .unset] [(.int b)]) _
  refine stp (fun _ => XS.sipush X0.here hx rfl (hb hby at_42)) ?_
  show Go p e below T0 (mkF m 45 #[.val (.int a), .val (.int b), .val (.int k), .val (.int ((k &&& (3 : Int32)) % (3 : Int32))), .val (.int ((((k.toUInt32 >>> ((2 : Int32) &&& 31).toUInt32).toInt32) &&& (3 : Int32)) % (3 : Int32))), .val (.int (((k.toUInt32 >>> ((4 : Int32) &&& 31).toUInt32).toInt32) &&& (3 : Int32))), .val (.int ((a &&& (255 : Int32)).toUInt32.toUInt16.toUInt32.toInt32)), .val (.int ((((a.toUInt32 >>> ((8 : Int32) &&& 31).toUInt32).toInt32) &&& (255 : Int32)).toUInt32.toUInt16.toUInt32.toInt32)), .unset, .unset, .unset, .unset, .unset, .unset, .unset] [(.int (255 : Int32)), (.int b)]) _
  refine stp (fun _ => XS.iand X0.here hx rfl (hb hby at_45) rfl) ?_
  show Go p e below T0 (mkF m 46 #[.val (.int a), .val (.int b), .val (.int k), .val (.int ((k &&& (3 : Int32)) % (3 : Int32))), .val (.int ((((k.toUInt32 >>> ((2 : Int32) &&& 31).toUInt32).toInt32) &&& (3 : Int32)) % (3 : Int32))), .val (.int (((k.toUInt32 >>> ((4 : Int32) &&& 31).toUInt32).toInt32) &&& (3 : Int32))), .val (.int ((a &&& (255 : Int32)).toUInt32.toUInt16.toUInt32.toInt32)), .val (.int ((((a.toUInt32 >>> ((8 : Int32) &&& 31).toUInt32).toInt32) &&& (255 : Int32)).toUInt32.toUInt16.toUInt32.toInt32)), .unset, .unset, .unset, .unset, .unset, .unset, .unset] [(.int (b &&& (255 : Int32)))]) _
  refine stp (fun _ => XS.i2c X0.here hx rfl (hb hby at_46) rfl) ?_
  show Go p e below T0 (mkF m 47 #[.val (.int a), .val (.int b), .val (.int k), .val (.int ((k &&& (3 : Int32)) % (3 : Int32))), .val (.int ((((k.toUInt32 >>> ((2 : Int32) &&& 31).toUInt32).toInt32) &&& (3 : Int32)) % (3 : Int32))), .val (.int (((k.toUInt32 >>> ((4 : Int32) &&& 31).toUInt32).toInt32) &&& (3 : Int32))), .val (.int ((a &&& (255 : Int32)).toUInt32.toUInt16.toUInt32.toInt32)), .val (.int ((((a.toUInt32 >>> ((8 : Int32) &&& 31).toUInt32).toInt32) &&& (255 : Int32)).toUInt32.toUInt16.toUInt32.toInt32)), .unset, .unset, .unset, .unset, .unset, .unset, .unset] [(.int ((b &&& (255 : Int32)).toUInt32.toUInt16.toUInt32.toInt32))]) _
  refine stp (fun _ => XS.istore X0.here hx rfl (hb hby at_47) rfl (l' := #[.val (.int a), .val (.int b), .val (.int k), .val (.int ((k &&& (3 : Int32)) % (3 : Int32))), .val (.int ((((k.toUInt32 >>> ((2 : Int32) &&& 31).toUInt32).toInt32) &&& (3 : Int32)) % (3 : Int32))), .val (.int (((k.toUInt32 >>> ((4 : Int32) &&& 31).toUInt32).toInt32) &&& (3 : Int32))), .val (.int ((a &&& (255 : Int32)).toUInt32.toUInt16.toUInt32.toInt32)), .val (.int ((((a.toUInt32 >>> ((8 : Int32) &&& 31).toUInt32).toInt32) &&& (255 : Int32)).toUInt32.toUInt16.toUInt32.toInt32)), .val (.int ((b &&& (255 : Int32)).toUInt32.toUInt16.toUInt32.toInt32)), .unset, .unset, .unset, .unset, .unset, .unset]) rfl) ?_
  show Go p e below T0 (mkF m 49 #[.val (.int a), .val (.int b), .val (.int k), .val (.int ((k &&& (3 : Int32)) % (3 : Int32))), .val (.int ((((k.toUInt32 >>> ((2 : Int32) &&& 31).toUInt32).toInt32) &&& (3 : Int32)) % (3 : Int32))), .val (.int (((k.toUInt32 >>> ((4 : Int32) &&& 31).toUInt32).toInt32) &&& (3 : Int32))), .val (.int ((a &&& (255 : Int32)).toUInt32.toUInt16.toUInt32.toInt32)), .val (.int ((((a.toUInt32 >>> ((8 : Int32) &&& 31).toUInt32).toInt32) &&& (255 : Int32)).toUInt32.toUInt16.toUInt32.toInt32)), .val (.int ((b &&& (255 : Int32)).toUInt32.toUInt16.toUInt32.toInt32)), .unset, .unset, .unset, .unset, .unset, .unset] []) _
  refine stp (fun _ => XS.iloadN X0.here hx rfl (hb hby at_49) rfl) ?_
  show Go p e below T0 (mkF m 50 #[.val (.int a), .val (.int b), .val (.int k), .val (.int ((k &&& (3 : Int32)) % (3 : Int32))), .val (.int ((((k.toUInt32 >>> ((2 : Int32) &&& 31).toUInt32).toInt32) &&& (3 : Int32)) % (3 : Int32))), .val (.int (((k.toUInt32 >>> ((4 : Int32) &&& 31).toUInt32).toInt32) &&& (3 : Int32))), .val (.int ((a &&& (255 : Int32)).toUInt32.toUInt16.toUInt32.toInt32)), .val (.int ((((a.toUInt32 >>> ((8 : Int32) &&& 31).toUInt32).toInt32) &&& (255 : Int32)).toUInt32.toUInt16.toUInt32.toInt32)), .val (.int ((b &&& (255 : Int32)).toUInt32.toUInt16.toUInt32.toInt32)), .unset, .unset, .unset, .unset, .unset, .unset] [(.int b)]) _
  refine stp (fun _ => XS.bipush X0.here hx rfl (hb hby at_50)) ?_
  show Go p e below T0 (mkF m 52 #[.val (.int a), .val (.int b), .val (.int k), .val (.int ((k &&& (3 : Int32)) % (3 : Int32))), .val (.int ((((k.toUInt32 >>> ((2 : Int32) &&& 31).toUInt32).toInt32) &&& (3 : Int32)) % (3 : Int32))), .val (.int (((k.toUInt32 >>> ((4 : Int32) &&& 31).toUInt32).toInt32) &&& (3 : Int32))), .val (.int ((a &&& (255 : Int32)).toUInt32.toUInt16.toUInt32.toInt32)), .val (.int ((((a.toUInt32 >>> ((8 : Int32) &&& 31).toUInt32).toInt32) &&& (255 : Int32)).toUInt32.toUInt16.toUInt32.toInt32)), .val (.int ((b &&& (255 : Int32)).toUInt32.toUInt16.toUInt32.toInt32)), .unset, .unset, .unset, .unset, .unset, .unset] [(.int (8 : Int32)), (.int b)]) _
  refine stp (fun _ => XS.iushr X0.here hx rfl (hb hby at_52) rfl) ?_
  show Go p e below T0 (mkF m 53 #[.val (.int a), .val (.int b), .val (.int k), .val (.int ((k &&& (3 : Int32)) % (3 : Int32))), .val (.int ((((k.toUInt32 >>> ((2 : Int32) &&& 31).toUInt32).toInt32) &&& (3 : Int32)) % (3 : Int32))), .val (.int (((k.toUInt32 >>> ((4 : Int32) &&& 31).toUInt32).toInt32) &&& (3 : Int32))), .val (.int ((a &&& (255 : Int32)).toUInt32.toUInt16.toUInt32.toInt32)), .val (.int ((((a.toUInt32 >>> ((8 : Int32) &&& 31).toUInt32).toInt32) &&& (255 : Int32)).toUInt32.toUInt16.toUInt32.toInt32)), .val (.int ((b &&& (255 : Int32)).toUInt32.toUInt16.toUInt32.toInt32)), .unset, .unset, .unset, .unset, .unset, .unset] [(.int ((b.toUInt32 >>> ((8 : Int32) &&& 31).toUInt32).toInt32))]) _
  refine stp (fun _ => XS.sipush X0.here hx rfl (hb hby at_53)) ?_
  show Go p e below T0 (mkF m 56 #[.val (.int a), .val (.int b), .val (.int k), .val (.int ((k &&& (3 : Int32)) % (3 : Int32))), .val (.int ((((k.toUInt32 >>> ((2 : Int32) &&& 31).toUInt32).toInt32) &&& (3 : Int32)) % (3 : Int32))), .val (.int (((k.toUInt32 >>> ((4 : Int32) &&& 31).toUInt32).toInt32) &&& (3 : Int32))), .val (.int ((a &&& (255 : Int32)).toUInt32.toUInt16.toUInt32.toInt32)), .val (.int ((((a.toUInt32 >>> ((8 : Int32) &&& 31).toUInt32).toInt32) &&& (255 : Int32)).toUInt32.toUInt16.toUInt32.toInt32)), .val (.int ((b &&& (255 : Int32)).toUInt32.toUInt16.toUInt32.toInt32)), .unset, .unset, .unset, .unset, .unset, .unset] [(.int (255 : Int32)), (.int ((b.toUInt32 >>> ((8 : Int32) &&& 31).toUInt32).toInt32))]) _
  refine stp (fun _ => XS.iand X0.here hx rfl (hb hby at_56) rfl) ?_
  show Go p e below T0 (mkF m 57 #[.val (.int a), .val (.int b), .val (.int k), .val (.int ((k &&& (3 : Int32)) % (3 : Int32))), .val (.int ((((k.toUInt32 >>> ((2 : Int32) &&& 31).toUInt32).toInt32) &&& (3 : Int32)) % (3 : Int32))), .val (.int (((k.toUInt32 >>> ((4 : Int32) &&& 31).toUInt32).toInt32) &&& (3 : Int32))), .val (.int ((a &&& (255 : Int32)).toUInt32.toUInt16.toUInt32.toInt32)), .val (.int ((((a.toUInt32 >>> ((8 : Int32) &&& 31).toUInt32).toInt32) &&& (255 : Int32)).toUInt32.toUInt16.toUInt32.toInt32)), .val (.int ((b &&& (255 : Int32)).toUInt32.toUInt16.toUInt32.toInt32)), .unset, .unset, .unset, .unset, .unset, .unset] [(.int (((b.toUInt32 >>> ((8 : Int32) &&& 31).toUInt32).toInt32) &&& (255 : Int32)))]) _
  refine stp (fun _ => XS.i2c X0.here hx rfl (hb hby at_57) rfl) ?_
  show Go p e below T0 (mkF m 58 #[.val (.int a), .val (.int b), .val (.int k), .val (.int ((k &&& (3 : Int32)) % (3 : Int32))), .val (.int ((((k.toUInt32 >>> ((2 : Int32) &&& 31).toUInt32).toInt32) &&& (3 : Int32)) % (3 : Int32))), .val (.int (((k.toUInt32 >>> ((4 : Int32) &&& 31).toUInt32).toInt32) &&& (3 : Int32))), .val (.int ((a &&& (255 : Int32)).toUInt32.toUInt16.toUInt32.toInt32)), .val (.int ((((a.toUInt32 >>> ((8 : Int32) &&& 31).toUInt32).toInt32) &&& (255 : Int32)).toUInt32.toUInt16.toUInt32.toInt32)), .val (.int ((b &&& (255 : Int32)).toUInt32.toUInt16.toUInt32.toInt32)), .unset, .unset, .unset, .unset, .unset, .unset] [(.int ((((b.toUInt32 >>> ((8 : Int32) &&& 31).toUInt32).toInt32) &&& (255 : Int32)).toUInt32.toUInt16.toUInt32.toInt32))]) _
  refine stp (fun _ => XS.istore X0.here hx rfl (hb hby at_58) rfl (l' := #[.val (.int a), .val (.int b), .val (.int k), .val (.int ((k &&& (3 : Int32)) % (3 : Int32))), .val (.int ((((k.toUInt32 >>> ((2 : Int32) &&& 31).toUInt32).toInt32) &&& (3 : Int32)) % (3 : Int32))), .val (.int (((k.toUInt32 >>> ((4 : Int32) &&& 31).toUInt32).toInt32) &&& (3 : Int32))), .val (.int ((a &&& (255 : Int32)).toUInt32.toUInt16.toUInt32.toInt32)), .val (.int ((((a.toUInt32 >>> ((8 : Int32) &&& 31).toUInt32).toInt32) &&& (255 : Int32)).toUInt32.toUInt16.toUInt32.toInt32)), .val (.int ((b &&& (255 : Int32)).toUInt32.toUInt16.toUInt32.toInt32)), .val (.int ((((b.toUInt32 >>> ((8 : Int32) &&& 31).toUInt32).toInt32) &&& (255 : Int32)).toUInt32.toUInt16.toUInt32.toInt32)), .unset, .unset, .unset, .unset, .unset]) rfl) ?_
  show Go p e below T0 (mkF m 60 #[.val (.int a), .val (.int b), .val (.int k), .val (.int ((k &&& (3 : Int32)) % (3 : Int32))), .val (.int ((((k.toUInt32 >>> ((2 : Int32) &&& 31).toUInt32).toInt32) &&& (3 : Int32)) % (3 : Int32))), .val (.int (((k.toUInt32 >>> ((4 : Int32) &&& 31).toUInt32).toInt32) &&& (3 : Int32))), .val (.int ((a &&& (255 : Int32)).toUInt32.toUInt16.toUInt32.toInt32)), .val (.int ((((a.toUInt32 >>> ((8 : Int32) &&& 31).toUInt32).toInt32) &&& (255 : Int32)).toUInt32.toUInt16.toUInt32.toInt32)), .val (.int ((b &&& (255 : Int32)).toUInt32.toUInt16.toUInt32.toInt32)), .val (.int ((((b.toUInt32 >>> ((8 : Int32) &&& 31).toUInt32).toInt32) &&& (255 : Int32)).toUInt32.toUInt16.toUInt32.toInt32)), .unset, .unset, .unset, .unset, .unset] []) _
  obtain ⟨la, hla⟩ : ∃ z : Int32, z = ((k &&& (3 : Int32)) % (3 : Int32)) := ⟨_, rfl⟩
  rw [← hla]
  show Go p e below T0 (mkF m 60 #[.val (.int a), .val (.int b), .val (.int k), .val (.int la), .val (.int ((((k.toUInt32 >>> ((2 : Int32) &&& 31).toUInt32).toInt32) &&& (3 : Int32)) % (3 : Int32))), .val (.int (((k.toUInt32 >>> ((4 : Int32) &&& 31).toUInt32).toInt32) &&& (3 : Int32))), .val (.int ((a &&& (255 : Int32)).toUInt32.toUInt16.toUInt32.toInt32)), .val (.int ((((a.toUInt32 >>> ((8 : Int32) &&& 31).toUInt32).toInt32) &&& (255 : Int32)).toUInt32.toUInt16.toUInt32.toInt32)), .val (.int ((b &&& (255 : Int32)).toUInt32.toUInt16.toUInt32.toInt32)), .val (.int ((((b.toUInt32 >>> ((8 : Int32) &&& 31).toUInt32).toInt32) &&& (255 : Int32)).toUInt32.toUInt16.toUInt32.toInt32)), .unset, .unset, .unset, .unset, .unset] []) _
  obtain ⟨lb, hlb⟩ : ∃ z : Int32, z = ((((k.toUInt32 >>> ((2 : Int32) &&& 31).toUInt32).toInt32) &&& (3 : Int32)) % (3 : Int32)) := ⟨_, rfl⟩
  rw [← hlb]
  show Go p e below T0 (mkF m 60 #[.val (.int a), .val (.int b), .val (.int k), .val (.int la), .val (.int lb), .val (.int (((k.toUInt32 >>> ((4 : Int32) &&& 31).toUInt32).toInt32) &&& (3 : Int32))), .val (.int ((a &&& (255 : Int32)).toUInt32.toUInt16.toUInt32.toInt32)), .val (.int ((((a.toUInt32 >>> ((8 : Int32) &&& 31).toUInt32).toInt32) &&& (255 : Int32)).toUInt32.toUInt16.toUInt32.toInt32)), .val (.int ((b &&& (255 : Int32)).toUInt32.toUInt16.toUInt32.toInt32)), .val (.int ((((b.toUInt32 >>> ((8 : Int32) &&& 31).toUInt32).toInt32) &&& (255 : Int32)).toUInt32.toUInt16.toUInt32.toInt32)), .unset, .unset, .unset, .unset, .unset] []) _
  obtain ⟨kd, hkd⟩ : ∃ z : Int32, z = (((k.toUInt32 >>> ((4 : Int32) &&& 31).toUInt32).toInt32) &&& (3 : Int32)) := ⟨_, rfl⟩
  rw [← hkd]
  show Go p e below T0 (mkF m 60 #[.val (.int a), .val (.int b), .val (.int k), .val (.int la), .val (.int lb), .val (.int kd), .val (.int ((a &&& (255 : Int32)).toUInt32.toUInt16.toUInt32.toInt32)), .val (.int ((((a.toUInt32 >>> ((8 : Int32) &&& 31).toUInt32).toInt32) &&& (255 : Int32)).toUInt32.toUInt16.toUInt32.toInt32)), .val (.int ((b &&& (255 : Int32)).toUInt32.toUInt16.toUInt32.toInt32)), .val (.int ((((b.toUInt32 >>> ((8 : Int32) &&& 31).toUInt32).toInt32) &&& (255 : Int32)).toUInt32.toUInt16.toUInt32.toInt32)), .unset, .unset, .unset, .unset, .unset] []) _
  obtain ⟨a0_, ha0_⟩ : ∃ z : Int32, z = ((a &&& (255 : Int32)).toUInt32.toUInt16.toUInt32.toInt32) := ⟨_, rfl⟩
  rw [← ha0_]
  show Go p e below T0 (mkF m 60 #[.val (.int a), .val (.int b), .val (.int k), .val (.int la), .val (.int lb), .val (.int kd), .val (.int a0_), .val (.int ((((a.toUInt32 >>> ((8 : Int32) &&& 31).toUInt32).toInt32) &&& (255 : Int32)).toUInt32.toUInt16.toUInt32.toInt32)), .val (.int ((b &&& (255 : Int32)).toUInt32.toUInt16.toUInt32.toInt32)), .val (.int ((((b.toUInt32 >>> ((8 : Int32) &&& 31).toUInt32).toInt32) &&& (255 : Int32)).toUInt32.toUInt16.toUInt32.toInt32)), .unset, .unset, .unset, .unset, .unset] []) _
  obtain ⟨a1_, ha1_⟩ : ∃ z : Int32, z = ((((a.toUInt32 >>> ((8 : Int32) &&& 31).toUInt32).toInt32) &&& (255 : Int32)).toUInt32.toUInt16.toUInt32.toInt32) := ⟨_, rfl⟩
  rw [← ha1_]
  show Go p e below T0 (mkF m 60 #[.val (.int a), .val (.int b), .val (.int k), .val (.int la), .val (.int lb), .val (.int kd), .val (.int a0_), .val (.int a1_), .val (.int ((b &&& (255 : Int32)).toUInt32.toUInt16.toUInt32.toInt32)), .val (.int ((((b.toUInt32 >>> ((8 : Int32) &&& 31).toUInt32).toInt32) &&& (255 : Int32)).toUInt32.toUInt16.toUInt32.toInt32)), .unset, .unset, .unset, .unset, .unset] []) _
  obtain ⟨b0_, hb0_⟩ : ∃ z : Int32, z = ((b &&& (255 : Int32)).toUInt32.toUInt16.toUInt32.toInt32) := ⟨_, rfl⟩
  rw [← hb0_]
  show Go p e below T0 (mkF m 60 #[.val (.int a), .val (.int b), .val (.int k), .val (.int la), .val (.int lb), .val (.int kd), .val (.int a0_), .val (.int a1_), .val (.int b0_), .val (.int ((((b.toUInt32 >>> ((8 : Int32) &&& 31).toUInt32).toInt32) &&& (255 : Int32)).toUInt32.toUInt16.toUInt32.toInt32)), .unset, .unset, .unset, .unset, .unset] []) _
  obtain ⟨b1_, hb1_⟩ : ∃ z : Int32, z = ((((b.toUInt32 >>> ((8 : Int32) &&& 31).toUInt32).toInt32) &&& (255 : Int32)).toUInt32.toUInt16.toUInt32.toInt32) := ⟨_, rfl⟩
  rw [← hb1_]
  show Go p e below T0 (mkF m 60 #[.val (.int a), .val (.int b), .val (.int k), .val (.int la), .val (.int lb), .val (.int kd), .val (.int a0_), .val (.int a1_), .val (.int b0_), .val (.int b1_), .unset, .unset, .unset, .unset, .unset] []) _
  have hla := own_len hla
  have hlb := own_len hlb
  have hkd := own_kind hkd
  have ha0_ := own_ch ha0_
  have ha1_ := own_ch ha1_
  have hb0_ := own_ch hb0_
  have hb1_ := own_ch hb1_
  refine stp (fun _ => XS.iloadN X0.here hx rfl (hb hby at_60) rfl) ?_
  show Go p e below T0 (mkF m 61 #[.val (.int a), .val (.int b), .val (.int k), .val (.int la), .val (.int lb), .val (.int kd), .val (.int a0_), .val (.int a1_), .val (.int b0_), .val (.int b1_), .unset, .unset, .unset, .unset, .unset] [(.int la)]) _
  refine stp (fun _ => XS.iload X0.here hx rfl (hb hby at_61) rfl) ?_
  show Go p e below T0 (mkF m 63 #[.val (.int a), .val (.int b), .val (.int k), .val (.int la), .val (.int lb), .val (.int kd), .val (.int a0_), .val (.int a1_), .val (.int b0_), .val (.int b1_), .unset, .unset, .unset, .unset, .unset] [(.int a0_), (.int la)]) _
  refine stp (fun _ => XS.iload X0.here hx rfl (hb hby at_63) rfl) ?_
  show Go p e below T0 (mkF m 65 #[.val (.int a), .val (.int b), .val (.int k), .val (.int la), .val (.int lb), .val (.int kd), .val (.int a0_), .val (.int a1_), .val (.int b0_), .val (.int b1_), .unset, .unset, .unset, .unset, .unset] [(.int a1_), (.int a0_), (.int la)]) _
  obtain ⟨_, _, ⟨T1, L1, k1, n1⟩, -, X1, hS1, gg1, ⟨Lc1, hQ1, l1, y1, z1, CRn1⟩, st1⟩ := callSS X0 hx (y := (⟨"com/example/revlint/revlint/model/TypeVariableEqualsPinLaw", "make", "(ICC)Ljava/lang/String;"⟩ : MethodName)) hown (mvT hZ (hw _ (List.mem_of_getElem? (i := 0) rfl))) (mvT hZ (hw _ (List.mem_of_getElem? (i := 1) rfl))) (mvT hZ (hw _ (List.mem_of_getElem? (i := 2) rfl))) (mvT hZ (hw _ (List.mem_of_getElem? (i := 3) rfl))) (by decide) (backOfSH (W := 0) (rm_mk l Z a0 hw [] la a0_ a1_ cz h0 n0 O0 hEL S_CS hcz ha0_ ha1_) hZ (hw _ (List.mem_of_getElem? (i := 3) rfl)) (hw _ (List.mem_of_getElem? (i := 2) rfl)) (by decide) (by decide) hEL CR.1) (g := (mkF m 65 #[.val (.int a), .val (.int b), .val (.int k), .val (.int la), .val (.int lb), .val (.int kd), .val (.int a0_), .val (.int a1_), .val (.int b0_), .val (.int b1_), .unset, .unset, .unset, .unset, .unset] [(.int a1_), (.int a0_), (.int la)])) rfl (by rw [hml]; rfl) (argsL := [(.int la), (.int a0_), (.int a1_)]) (rest := []) (lenOf pd_5 rfl) rfl (by show 2 * 0 + _ ≤ _; exact Nat.le_of_eq rfl) (hb hby at_65) (fun _ _ => ⟨rfl, e0, (by decide : 0 + 4 ≤ _), (by decide : 0 + 8 ≤ _)⟩)
  dsimp only [Pt.U, Pt.locs, Pt.cells, Pt.slots] at X1 hS1 gg1 l1 y1 z1 st1 hQ1 CRn1
  subst y1 z1
  obtain ⟨X1, hS, hZ, hown⟩ := rebS hS (by rw [e0]; exact hk) X1 hS1 gg1 hZ hown
  obtain ⟨r1, rfl, N1q, K1q, ⟨ge_r1, sz1_r1⟩, r1_0⟩ := hQ1
  have N1 : Fr n0 L1 := by rw [l1]; exact Fr.app N0 N1q
  have sz_r1 : h0.size ≤ r1 := Nat.le_trans (Keep.refl h0 []).1 sz1_r1
  have K1 : Keep h0 T1.heap [] := (Keep.refl h0 []).trans K1q all0
  have O1 := O0.keep K1q all0
  have hk : T1.heap.size ≤ T1.heap.size := Nat.le_refl _
  have CR := CR.trans CRn1
  refine stt st1 ?_
  show Go p e below T1 (mkF m 68 #[.val (.int a), .val (.int b), .val (.int k), .val (.int la), .val (.int lb), .val (.int kd), .val (.int a0_), .val (.int a1_), .val (.int b0_), .val (.int b1_), .unset, .unset, .unset, .unset, .unset] [(.ref r1)]) _
  refine stp (fun _ => XS.astore X1.here hx rfl (hb hby at_68) rfl rfl (l' := #[.val (.int a), .val (.int b), .val (.int k), .val (.int la), .val (.int lb), .val (.int kd), .val (.int a0_), .val (.int a1_), .val (.int b0_), .val (.int b1_), .val (.ref r1), .unset, .unset, .unset, .unset]) rfl) ?_
  show Go p e below T1 (mkF m 70 #[.val (.int a), .val (.int b), .val (.int k), .val (.int la), .val (.int lb), .val (.int kd), .val (.int a0_), .val (.int a1_), .val (.int b0_), .val (.int b1_), .val (.ref r1), .unset, .unset, .unset, .unset] []) _
  refine stp (fun _ => XS.iload X1.here hx rfl (hb hby at_70) rfl) ?_
  show Go p e below T1 (mkF m 72 #[.val (.int a), .val (.int b), .val (.int k), .val (.int la), .val (.int lb), .val (.int kd), .val (.int a0_), .val (.int a1_), .val (.int b0_), .val (.int b1_), .val (.ref r1), .unset, .unset, .unset, .unset] [(.int lb)]) _
  refine stp (fun _ => XS.iload X1.here hx rfl (hb hby at_72) rfl) ?_
  show Go p e below T1 (mkF m 74 #[.val (.int a), .val (.int b), .val (.int k), .val (.int la), .val (.int lb), .val (.int kd), .val (.int a0_), .val (.int a1_), .val (.int b0_), .val (.int b1_), .val (.ref r1), .unset, .unset, .unset, .unset] [(.int b0_), (.int lb)]) _
  refine stp (fun _ => XS.iload X1.here hx rfl (hb hby at_74) rfl) ?_
  show Go p e below T1 (mkF m 76 #[.val (.int a), .val (.int b), .val (.int k), .val (.int la), .val (.int lb), .val (.int kd), .val (.int a0_), .val (.int a1_), .val (.int b0_), .val (.int b1_), .val (.ref r1), .unset, .unset, .unset, .unset] [(.int b1_), (.int b0_), (.int lb)]) _
  obtain ⟨_, _, ⟨T2, L2, k2, n2⟩, -, X2, hS2, gg2, ⟨Lc2, hQ2, l2, y2, z2, CRn2⟩, st2⟩ := callSS X1 hx (y := (⟨"com/example/revlint/revlint/model/TypeVariableEqualsPinLaw", "make", "(ICC)Ljava/lang/String;"⟩ : MethodName)) hown (mvT hZ (hw _ (List.mem_of_getElem? (i := 0) rfl))) (mvT hZ (hw _ (List.mem_of_getElem? (i := 1) rfl))) (mvT hZ (hw _ (List.mem_of_getElem? (i := 2) rfl))) (mvT hZ (hw _ (List.mem_of_getElem? (i := 3) rfl))) (by decide) (backOfSH (W := 0) (rm_mk l Z a0 hw [] lb b0_ b1_ cz T1.heap n0 O1 hEL S_CS hcz hb0_ hb1_) hZ (hw _ (List.mem_of_getElem? (i := 3) rfl)) (hw _ (List.mem_of_getElem? (i := 2) rfl)) (by decide) (by decide) hEL CR.1) (g := (mkF m 76 #[.val (.int a), .val (.int b), .val (.int k), .val (.int la), .val (.int lb), .val (.int kd), .val (.int a0_), .val (.int a1_), .val (.int b0_), .val (.int b1_), .val (.ref r1), .unset, .unset, .unset, .unset] [(.int b1_), (.int b0_), (.int lb)])) rfl (by rw [hml]; rfl) (argsL := [(.int lb), (.int b0_), (.int b1_)]) (rest := []) (lenOf pd_5 rfl) rfl (by show 2 * 0 + _ ≤ _; exact Nat.le_of_eq rfl) (hb hby at_76) (fun _ _ => ⟨rfl, rfl, (by decide : 4 + 4 ≤ _), (by decide : 8 + 8 ≤ _)⟩)
  dsimp only [Pt.U, Pt.locs, Pt.cells, Pt.slots] at X2 hS2 gg2 l2 y2 z2 st2 hQ2 CRn2
  subst y2 z2
  obtain ⟨X2, hS, hZ, hown⟩ := rebS hS hk X2 hS2 gg2 hZ hown
  obtain ⟨r2, rfl, N2q, K2q, ⟨ge_r2, sz2_r2⟩, r2_0⟩ := hQ2
  have N2 : Fr n0 L2 := by rw [l2]; exact Fr.app N1 N2q
  have ne3 : r1 ≠ r2 := Nat.ne_of_lt (Nat.lt_of_lt_of_le r1_0.lt sz2_r2)
  have f4 := r1_0.keep K2q nin0 apart0
  have f5 := r1_0.exa.keep K2q
  have sz_r2 : h0.size ≤ r2 := Nat.le_trans K1.1 sz2_r2
  have K2 : Keep h0 T2.heap [] := K1.trans K2q all0
  have O2 := O1.keep K2q all0
  have hk : T2.heap.size ≤ T2.heap.size := Nat.le_refl _
  have CR := CR.trans CRn2
  refine stt st2 ?_
  show Go p e below T2 (mkF m 79 #[.val (.int a), .val (.int b), .val (.int k), .val (.int la), .val (.int lb), .val (.int kd), .val (.int a0_), .val (.int a1_), .val (.int b0_), .val (.int b1_), .val (.ref r1), .unset, .unset, .unset, .unset] [(.ref r2)]) _
  refine stp (fun _ => XS.astore X2.here hx rfl (hb hby at_79) rfl rfl (l' := #[.val (.int a), .val (.int b), .val (.int k), .val (.int la), .val (.int lb), .val (.int kd), .val (.int a0_), .val (.int a1_), .val (.int b0_), .val (.int b1_), .val (.ref r1), .val (.ref r2), .unset, .unset, .unset]) rfl) ?_
  show Go p e below T2 (mkF m 81 #[.val (.int a), .val (.int b), .val (.int k), .val (.int la), .val (.int lb), .val (.int kd), .val (.int a0_), .val (.int a1_), .val (.int b0_), .val (.int b1_), .val (.ref r1), .val (.ref r2), .unset, .unset, .unset] []) _
  obtain ⟨T6, h6, X6, e6, E6, A6, D6, -, st6⟩ := newO X2 hx hZ hown (hw _ (List.mem_of_getElem? (i := 37) rfl)) (hw _ (List.mem_of_getElem? (i := 38) rfl)) (hw _ (List.mem_of_getElem? (i := 39) rfl)) rfl (g := (mkF m 81 #[.val (.int a), .val (.int b), .val (.int k), .val (.int la), .val (.int lb), .val (.int kd), .val (.int a0_), .val (.int a1_), .val (.int b0_), .val (.int b1_), .val (.ref r1), .val (.ref r2), .unset, .unset, .unset] [])) rfl (hb hby at_81) (by decide) (by decide)
  obtain ⟨b6, g6⟩ : ∃ z, z = T2.heap.size := ⟨_, rfl⟩
  rw [← g6] at A6 D6 st6
  have ne7 : r1 ≠ b6 := Nat.ne_of_lt (Nat.lt_of_lt_of_le f4.lt (Nat.le_of_eq g6.symm))
  have ne8 : r2 ≠ b6 := Nat.ne_of_lt (Nat.lt_of_lt_of_le r2_0.lt (Nat.le_of_eq g6.symm))
  have sz_b6 : h0.size ≤ b6 := Nat.le_trans K2.1 (Nat.le_of_eq g6.symm)
  have ge_b6 : n0 ≤ b6 := Nat.le_trans (old_le O2) (Nat.le_of_eq g6.symm)
  have f9 := f4.ext E6
  have f10 := f5.ext E6
  have f11 := r2_0.ext E6
  have f12 := r2_0.exa.ext E6
  have hk := Nat.le_trans hk E6.1
  have CR := CR.trans (CHr.ext E6 CR.1)
  have K6 : Keep h0 h6 [] := K2.ext E6
  have O6 := O2.ext E6
  have F13 : Fld Z h6 b6 "com/example/revlint/revlint/model/GenericType$TypeVariable" "name" "Ljava/lang/String;" .null := D6 (Or.inr (hw _ (List.mem_of_getElem? (i := 55) rfl))) (ty := (.object "java/lang/String")) (by decide)
  refine stp st6 ?_
  show Go p e below T6 (mkF m 84 #[.val (.int a), .val (.int b), .val (.int k), .val (.int la), .val (.int lb), .val (.int kd), .val (.int a0_), .val (.int a1_), .val (.int b0_), .val (.int b1_), .val (.ref r1), .val (.ref r2), .unset, .unset, .unset] [(.ref b6)]) _
  refine stp (fun _ => XS.dup X6.here hx rfl (hb hby at_84) rfl rfl) ?_
  show Go p e below T6 (mkF m 85 #[.val (.int a), .val (.int b), .val (.int k), .val (.int la), .val (.int lb), .val (.int kd), .val (.int a0_), .val (.int a1_), .val (.int b0_), .val (.int b1_), .val (.ref r1), .val (.ref r2), .unset, .unset, .unset] [(.ref b6), (.ref b6)]) _
  refine stp (fun _ => XS.aload X6.here hx rfl (hb hby at_85) rfl rfl) ?_
  show Go p e below T6 (mkF m 87 #[.val (.int a), .val (.int b), .val (.int k), .val (.int la), .val (.int lb), .val (.int kd), .val (.int a0_), .val (.int a1_), .val (.int b0_), .val (.int b1_), .val (.ref r1), .val (.ref r2), .unset, .unset, .unset] [(.ref r1), (.ref b6), (.ref b6)]) _
  obtain ⟨_, _, ⟨T14, L14, k14, n14⟩, -, X14, hS14, gg14, ⟨Lc14, hQ14, l14, y14, z14, CRn14⟩, st14⟩ := X6.specialBackS hx (y := (⟨"com/example/revlint/revlint/model/GenericType$TypeVariable", "<init>", "(Ljava/lang/String;)V"⟩ : MethodName)) rfl hown (mvT hZ (hw _ (List.mem_of_getElem? (i := 40) rfl))) (mvT hZ (hw _ (List.mem_of_getElem? (i := 41) rfl))) (mvT hZ (hw _ (List.mem_of_getElem? (i := 42) rfl))) (by decide) (backOfSH (W := 1) (rm_tv l Z a0 hw [] b6 r1  h6 n0 O6 hEL A6 F13 ge_b6) hZ (hw _ (List.mem_of_getElem? (i := 42) rfl)) (hw _ (List.mem_of_getElem? (i := 39) rfl)) (by decide) (by decide) hEL CR.1) (g := (mkF m 87 #[.val (.int a), .val (.int b), .val (.int k), .val (.int la), .val (.int lb), .val (.int kd), .val (.int a0_), .val (.int a1_), .val (.int b0_), .val (.int b1_), .val (.ref r1), .val (.ref r2), .unset, .unset, .unset] [(.ref r1), (.ref b6), (.ref b6)])) rfl (by rw [hml]; rfl) (Steps.refl _) (a := b6) (argsL := [(.ref r1)]) (rest := [(.ref b6)]) (lenOf pd_6 rfl) rfl (by show 2 * 0 + _ ≤ _; exact Nat.le_of_eq rfl) (hb hby at_87) (fun _ _ => ⟨rfl, e6, (by decide : 9 + 2 ≤ _), (by decide : 17 + 20 ≤ _)⟩)
  dsimp only [Pt.U, Pt.locs, Pt.cells, Pt.slots] at X14 hS14 gg14 l14 y14 z14 st14 hQ14 CRn14
  subst y14 z14
  obtain ⟨X14, hS, hZ, hown⟩ := rebS hS (by rw [e6]; exact hk) X14 hS14 gg14 hZ hown
  obtain ⟨rfl, N14q, K14q, r14_0, r14_1⟩ := hQ14
  have N14 : Fr n0 L14 := by rw [l14]; exact Fr.app N2 N14q
  have f15 := f9.keep K14q (ninS ne7 nin0) (apartS (Apart.exa A6 (hw _ (List.mem_of_getElem? (i := 38) rfl))) apart0)
  have f16 := f10.keep K14q
  have f17 := f11.keep K14q (ninS ne8 nin0) (apartS (Apart.exa A6 (hw _ (List.mem_of_getElem? (i := 38) rfl))) apart0)
  have f18 := f12.keep K14q
  have f19 := A6.keep K14q
  have K14 : Keep h0 T14.heap [] := K6.trans K14q (allS (Or.inr sz_b6) all0)
  have O14 := O6.keep K14q (allS ge_b6 all0)
  have hk : T14.heap.size ≤ T14.heap.size := Nat.le_refl _
  have CR := CR.trans CRn14
  refine stt st14 ?_
  show Go p e below T14 (mkF m 90 #[.val (.int a), .val (.int b), .val (.int k), .val (.int la), .val (.int lb), .val (.int kd), .val (.int a0_), .val (.int a1_), .val (.int b0_), .val (.int b1_), .val (.ref r1), .val (.ref r2), .unset, .unset, .unset] [(.ref b6)]) _
  refine stp (fun _ => XS.astore X14.here hx rfl (hb hby at_90) rfl rfl (l' := #[.val (.int a), .val (.int b), .val (.int k), .val (.int la), .val (.int lb), .val (.int kd), .val (.int a0_), .val (.int a1_), .val (.int b0_), .val (.int b1_), .val (.ref r1), .val (.ref r2), .val (.ref b6), .unset, .unset]) rfl) ?_
  show Go p e below T14 (mkF m 92 #[.val (.int a), .val (.int b), .val (.int k), .val (.int la), .val (.int lb), .val (.int kd), .val (.int a0_), .val (.int a1_), .val (.int b0_), .val (.int b1_), .val (.ref r1), .val (.ref r2), .val (.ref b6), .unset, .unset] []) _
  rcases hkd with rfl | rfl | rfl | rfl
  · show Go p e below T14 (mkF m 92 #[.val (.int a), .val (.int b), .val (.int k), .val (.int la), .val (.int lb), .val (.int (0 : Int32)), .val (.int a0_), .val (.int a1_), .val (.int b0_), .val (.int b1_), .val (.ref r1), .val (.ref r2), .val (.ref b6), .unset, .unset] []) _
    refine stp (fun _ => XS.iload X14.here hx rfl (hb hby at_92) rfl) ?_
    show Go p e below T14 (mkF m 94 #[.val (.int a), .val (.int b), .val (.int k), .val (.int la), .val (.int lb), .val (.int (0 : Int32)), .val (.int a0_), .val (.int a1_), .val (.int b0_), .val (.int b1_), .val (.ref r1), .val (.ref r2), .val (.ref b6), .unset, .unset] [(.int (0 : Int32))]) _
    refine stp (fun _ => XS.ifNo X14.here hx rfl (hb hby at_94) rfl (by decide)) ?_
    show Go p e below T14 (mkF m 97 #[.val (.int a), .val (.int b), .val (.int k), .val (.int la), .val (.int lb), .val (.int (0 : Int32)), .val (.int a0_), .val (.int a1_), .val (.int b0_), .val (.int b1_), .val (.ref r1), .val (.ref r2), .val (.ref b6), .unset, .unset] []) _
    obtain ⟨T20, h20, X20, e20, E20, A20, D20, -, st20⟩ := newO X14 hx hZ hown (hw _ (List.mem_of_getElem? (i := 37) rfl)) (hw _ (List.mem_of_getElem? (i := 38) rfl)) (hw _ (List.mem_of_getElem? (i := 39) rfl)) rfl (g := (mkF m 97 #[.val (.int a), .val (.int b), .val (.int k), .val (.int la), .val (.int lb), .val (.int (0 : Int32)), .val (.int a0_), .val (.int a1_), .val (.int b0_), .val (.int b1_), .val (.ref r1), .val (.ref r2), .val (.ref b6), .unset, .unset] [])) rfl (hb hby at_97) (by decide) (by decide)
    obtain ⟨b20, g20⟩ : ∃ z, z = T14.heap.size := ⟨_, rfl⟩
    rw [← g20] at A20 D20 st20
    have ne21 : b6 ≠ b20 := Nat.ne_of_lt (Nat.lt_of_lt_of_le r14_0.lt (Nat.le_of_eq g20.symm))
    have ne22 : r1 ≠ b20 := Nat.ne_of_lt (Nat.lt_of_lt_of_le f15.lt (Nat.le_of_eq g20.symm))
    have ne23 : r2 ≠ b20 := Nat.ne_of_lt (Nat.lt_of_lt_of_le f17.lt (Nat.le_of_eq g20.symm))
    have sz_b20 : h0.size ≤ b20 := Nat.le_trans K14.1 (Nat.le_of_eq g20.symm)
    have ge_b20 : n0 ≤ b20 := Nat.le_trans (old_le O14) (Nat.le_of_eq g20.symm)
    have f24 := f15.ext E20
    have f25 := f16.ext E20
    have f26 := f17.ext E20
    have f27 := f18.ext E20
    have f28 := r14_0.ext E20
    have f29 := r14_1.ext E20
    have hk := Nat.le_trans hk E20.1
    have CR := CR.trans (CHr.ext E20 CR.1)
    have K20 : Keep h0 h20 [] := K14.ext E20
    have O20 := O14.ext E20
    have F30 : Fld Z h20 b20 "com/example/revlint/revlint/model/GenericType$TypeVariable" "name" "Ljava/lang/String;" .null := D20 (Or.inr (hw _ (List.mem_of_getElem? (i := 55) rfl))) (ty := (.object "java/lang/String")) (by decide)
    refine stp st20 ?_
    show Go p e below T20 (mkF m 100 #[.val (.int a), .val (.int b), .val (.int k), .val (.int la), .val (.int lb), .val (.int (0 : Int32)), .val (.int a0_), .val (.int a1_), .val (.int b0_), .val (.int b1_), .val (.ref r1), .val (.ref r2), .val (.ref b6), .unset, .unset] [(.ref b20)]) _
    refine stp (fun _ => XS.dup X20.here hx rfl (hb hby at_100) rfl rfl) ?_
    show Go p e below T20 (mkF m 101 #[.val (.int a), .val (.int b), .val (.int k), .val (.int la), .val (.int lb), .val (.int (0 : Int32)), .val (.int a0_), .val (.int a1_), .val (.int b0_), .val (.int b1_), .val (.ref r1), .val (.ref r2), .val (.ref b6), .unset, .unset] [(.ref b20), (.ref b20)]) _
    refine stp (fun _ => XS.aload X20.here hx rfl (hb hby at_101) rfl rfl) ?_
    show Go p e below T20 (mkF m 103 #[.val (.int a), .val (.int b), .val (.int k), .val (.int la), .val (.int lb), .val (.int (0 : Int32)), .val (.int a0_), .val (.int a1_), .val (.int b0_), .val (.int b1_), .val (.ref r1), .val (.ref r2), .val (.ref b6), .unset, .unset] [(.ref r2), (.ref b20), (.ref b20)]) _
    obtain ⟨_, _, ⟨T31, L31, k31, n31⟩, -, X31, hS31, gg31, ⟨Lc31, hQ31, l31, y31, z31, CRn31⟩, st31⟩ := X20.specialBackS hx (y := (⟨"com/example/revlint/revlint/model/GenericType$TypeVariable", "<init>", "(Ljava/lang/String;)V"⟩ : MethodName)) rfl hown (mvT hZ (hw _ (List.mem_of_getElem? (i := 40) rfl))) (mvT hZ (hw _ (List.mem_of_getElem? (i := 41) rfl))) (mvT hZ (hw _ (List.mem_of_getElem? (i := 42) rfl))) (by decide) (backOfSH (W := 1) (rm_tv l Z a0 hw [] b20 r2  h20 n0 O20 hEL A20 F30 ge_b20) hZ (hw _ (List.mem_of_getElem? (i := 42) rfl)) (hw _ (List.mem_of_getElem? (i := 39) rfl)) (by decide) (by decide) hEL CR.1) (g := (mkF m 103 #[.val (.int a), .val (.int b), .val (.int k), .val (.int la), .val (.int lb), .val (.int (0 : Int32)), .val (.int a0_), .val (.int a1_), .val (.int b0_), .val (.int b1_), .val (.ref r1), .val (.ref r2), .val (.ref b6), .unset, .unset] [(.ref r2), (.ref b20), (.ref b20)])) rfl (by rw [hml]; rfl) (Steps.refl _) (a := b20) (argsL := [(.ref r2)]) (rest := [(.ref b20)]) (lenOf pd_6 rfl) rfl (by show 2 * 0 + _ ≤ _; exact Nat.le_of_eq rfl) (hb hby at_103) (fun _ _ => ⟨rfl, e20, (by decide : 12 + 2 ≤ _), (by decide : 38 + 20 ≤ _)⟩)
    dsimp only [Pt.U, Pt.locs, Pt.cells, Pt.slots] at X31 hS31 gg31 l31 y31 z31 st31 hQ31 CRn31
    subst y31 z31
    obtain ⟨X31, hS, hZ, hown⟩ := rebS hS (by rw [e20]; exact hk) X31 hS31 gg31 hZ hown
    obtain ⟨rfl, N31q, K31q, r31_0, r31_1⟩ := hQ31
    have N31 : Fr n0 L31 := by rw [l31]; exact Fr.app N14 N31q
    have f32 := f24.keep K31q (ninS ne22 nin0) (apartS (Apart.exa A20 (hw _ (List.mem_of_getElem? (i := 38) rfl))) apart0)
    have f33 := f25.keep K31q
    have f34 := f26.keep K31q (ninS ne23 nin0) (apartS (Apart.exa A20 (hw _ (List.mem_of_getElem? (i := 38) rfl))) apart0)
    have f35 := f27.keep K31q
    have f36 := f28.keep K31q
    have f37 := f29.keep K31q (ninS ne21 nin0)
    have f38 := A20.keep K31q
    have K31 : Keep h0 T31.heap [] := K20.trans K31q (allS (Or.inr sz_b20) all0)
    have O31 := O20.keep K31q (allS ge_b20 all0)
    have hk : T31.heap.size ≤ T31.heap.size := Nat.le_refl _
    have CR := CR.trans CRn31
    refine stt st31 ?_
    show Go p e below T31 (mkF m 106 #[.val (.int a), .val (.int b), .val (.int k), .val (.int la), .val (.int lb), .val (.int (0 : Int32)), .val (.int a0_), .val (.int a1_), .val (.int b0_), .val (.int b1_), .val (.ref r1), .val (.ref r2), .val (.ref b6), .unset, .unset] [(.ref b20)]) _
    refine stp (fun _ => XS.astore X31.here hx rfl (hb hby at_106) rfl rfl (l' := #[.val (.int a), .val (.int b), .val (.int k), .val (.int la), .val (.int lb), .val (.int (0 : Int32)), .val (.int a0_), .val (.int a1_), .val (.int b0_), .val (.int b1_), .val (.ref r1), .val (.ref r2), .val (.ref b6), .val (.ref b20), .unset]) rfl) ?_
    show Go p e below T31 (mkF m 108 #[.val (.int a), .val (.int b), .val (.int k), .val (.int la), .val (.int lb), .val (.int (0 : Int32)), .val (.int a0_), .val (.int a1_), .val (.int b0_), .val (.int b1_), .val (.ref r1), .val (.ref r2), .val (.ref b6), .val (.ref b20), .unset] []) _
    refine stp (fun _ => XS.iloadN X31.here hx rfl (hb hby at_108) rfl) ?_
    show Go p e below T31 (mkF m 109 #[.val (.int a), .val (.int b), .val (.int k), .val (.int la), .val (.int lb), .val (.int (0 : Int32)), .val (.int a0_), .val (.int a1_), .val (.int b0_), .val (.int b1_), .val (.ref r1), .val (.ref r2), .val (.ref b6), .val (.ref b20), .unset] [(.int la)]) _
    refine stp (fun _ => XS.iload X31.here hx rfl (hb hby at_109) rfl) ?_
    show Go p e below T31 (mkF m 111 #[.val (.int a), .val (.int b), .val (.int k), .val (.int la), .val (.int lb), .val (.int (0 : Int32)), .val (.int a0_), .val (.int a1_), .val (.int b0_), .val (.int b1_), .val (.ref r1), .val (.ref r2), .val (.ref b6), .val (.ref b20), .unset] [(.int lb), (.int la)]) _
    by_cases q111_39 : la = lb
    · refine stp (fun _ => XS.icmpNo X31.here hx rfl (hb hby at_111) rfl (XT.ii_ne_f q111_39)) ?_
      show Go p e below T31 (mkF m 114 #[.val (.int a), .val (.int b), .val (.int k), .val (.int la), .val (.int lb), .val (.int (0 : Int32)), .val (.int a0_), .val (.int a1_), .val (.int b0_), .val (.int b1_), .val (.ref r1), .val (.ref r2), .val (.ref b6), .val (.ref b20), .unset] []) _
      refine stp (fun _ => XS.iloadN X31.here hx rfl (hb hby at_114) rfl) ?_
      show Go p e below T31 (mkF m 115 #[.val (.int a), .val (.int b), .val (.int k), .val (.int la), .val (.int lb), .val (.int (0 : Int32)), .val (.int a0_), .val (.int a1_), .val (.int b0_), .val (.int b1_), .val (.ref r1), .val (.ref r2), .val (.ref b6), .val (.ref b20), .unset] [(.int la)]) _
      refine stp (fun _ => XS.iconst X31.here hx rfl (hb hby at_115)) ?_
      show Go p e below T31 (mkF m 116 #[.val (.int a), .val (.int b), .val (.int k), .val (.int la), .val (.int lb), .val (.int (0 : Int32)), .val (.int a0_), .val (.int a1_), .val (.int b0_), .val (.int b1_), .val (.ref r1), .val (.ref r2), .val (.ref b6), .val (.ref b20), .unset] [(.int (1 : Int32)), (.int la)]) _
      by_cases q116_40 : la < (1 : Int32)
      · refine stp (fun _ => XS.icmpYes X31.here hx rfl (pc0 := 116) (pc' := 126) rfl (hb hby at_116) rfl (XT.ii_lt_t q116_40) (by decide) (by decide)) ?_
        show Go p e below T31 (mkF m 126 #[.val (.int a), .val (.int b), .val (.int k), .val (.int la), .val (.int lb), .val (.int (0 : Int32)), .val (.int a0_), .val (.int a1_), .val (.int b0_), .val (.int b1_), .val (.ref r1), .val (.ref r2), .val (.ref b6), .val (.ref b20), .unset] []) _
        refine stp (fun _ => XS.iloadN X31.here hx rfl (hb hby at_126) rfl) ?_
        show Go p e below T31 (mkF m 127 #[.val (.int a), .val (.int b), .val (.int k), .val (.int la), .val (.int lb), .val (.int (0 : Int32)), .val (.int a0_), .val (.int a1_), .val (.int b0_), .val (.int b1_), .val (.ref r1), .val (.ref r2), .val (.ref b6), .val (.ref b20), .unset] [(.int la)]) _
        refine stp (fun _ => XS.iconst X31.here hx rfl (hb hby at_127)) ?_
        show Go p e below T31 (mkF m 128 #[.val (.int a), .val (.int b), .val (.int k), .val (.int la), .val (.int lb), .val (.int (0 : Int32)), .val (.int a0_), .val (.int a1_), .val (.int b0_), .val (.int b1_), .val (.ref r1), .val (.ref r2), .val (.ref b6), .val (.ref b20), .unset] [(.int (2 : Int32)), (.int la)]) _
        by_cases q128_41 : la < (2 : Int32)
        · refine stp (fun _ => XS.icmpYes X31.here hx rfl (pc0 := 128) (pc' := 138) rfl (hb hby at_128) rfl (XT.ii_lt_t q128_41) (by decide) (by decide)) ?_
          show Go p e below T31 (mkF m 138 #[.val (.int a), .val (.int b), .val (.int k), .val (.int la), .val (.int lb), .val (.int (0 : Int32)), .val (.int a0_), .val (.int a1_), .val (.int b0_), .val (.int b1_), .val (.ref r1), .val (.ref r2), .val (.ref b6), .val (.ref b20), .unset] []) _
          refine stp (fun _ => XS.iconst X31.here hx rfl (hb hby at_138)) ?_
          show Go p e below T31 (mkF m 139 #[.val (.int a), .val (.int b), .val (.int k), .val (.int la), .val (.int lb), .val (.int (0 : Int32)), .val (.int a0_), .val (.int a1_), .val (.int b0_), .val (.int b1_), .val (.ref r1), .val (.ref r2), .val (.ref b6), .val (.ref b20), .unset] [(.int (1 : Int32))]) _
          refine stp (fun _ => XS.goto X31.here hx rfl (pc0 := 139) (pc' := 143) rfl (hb hby at_139) (by decide) (by decide)) ?_
          show Go p e below T31 (mkF m 143 #[.val (.int a), .val (.int b), .val (.int k), .val (.int la), .val (.int lb), .val (.int (0 : Int32)), .val (.int a0_), .val (.int a1_), .val (.int b0_), .val (.int b1_), .val (.ref r1), .val (.ref r2), .val (.ref b6), .val (.ref b20), .unset] [(.int (1 : Int32))]) _
          refine stp (fun _ => XS.istore X31.here hx rfl (hb hby at_143) rfl (l' := #[.val (.int a), .val (.int b), .val (.int k), .val (.int la), .val (.int lb), .val (.int (0 : Int32)), .val (.int a0_), .val (.int a1_), .val (.int b0_), .val (.int b1_), .val (.ref r1), .val (.ref r2), .val (.ref b6), .val (.ref b20), .val (.int (1 : Int32))]) rfl) ?_
          show Go p e below T31 (mkF m 145 #[.val (.int a), .val (.int b), .val (.int k), .val (.int la), .val (.int lb), .val (.int (0 : Int32)), .val (.int a0_), .val (.int a1_), .val (.int b0_), .val (.int b1_), .val (.ref r1), .val (.ref r2), .val (.ref b6), .val (.ref b20), .val (.int (1 : Int32))] []) _
          refine stp (fun _ => XS.goto X31.here hx rfl (pc0 := 145) (pc' := 193) rfl (hb hby at_145) (by decide) (by decide)) ?_
          show Go p e below T31 (mkF m 193 #[.val (.int a), .val (.int b), .val (.int k), .val (.int la), .val (.int lb), .val (.int (0 : Int32)), .val (.int a0_), .val (.int a1_), .val (.int b0_), .val (.int b1_), .val (.ref r1), .val (.ref r2), .val (.ref b6), .val (.ref b20), .val (.int (1 : Int32))] []) _
          refine stp (fun _ => XS.aload X31.here hx rfl (hb hby at_193) rfl rfl) ?_
          show Go p e below T31 (mkF m 195 #[.val (.int a), .val (.int b), .val (.int k), .val (.int la), .val (.int lb), .val (.int (0 : Int32)), .val (.int a0_), .val (.int a1_), .val (.int b0_), .val (.int b1_), .val (.ref r1), .val (.ref r2), .val (.ref b6), .val (.ref b20), .val (.int (1 : Int32))] [(.ref b6)]) _
          refine stp (fun _ => XS.aload X31.here hx rfl (hb hby at_195) rfl rfl) ?_
          show Go p e below T31 (mkF m 197 #[.val (.int a), .val (.int b), .val (.int k), .val (.int la), .val (.int lb), .val (.int (0 : Int32)), .val (.int a0_), .val (.int a1_), .val (.int b0_), .val (.int b1_), .val (.ref r1), .val (.ref r2), .val (.ref b6), .val (.ref b20), .val (.int (1 : Int32))] [(.ref b20), (.ref b6)]) _
          obtain ⟨cq42, kq42, q42a, q42b, q42c⟩ := isOf hZ rfl f36
          obtain ⟨_, _, ⟨T42, L42, k42, n42⟩, -, X42, ⟨Lc42, hQ42, l42, y42, z42⟩, st42⟩ := X31.virtualBack hx (y := (⟨"com/example/revlint/revlint/model/GenericType$TypeVariable", "equals", "(Ljava/lang/Object;)Z"⟩ : MethodName)) (z := (⟨"com/example/revlint/revlint/model/GenericType$TypeVariable", "equals", "(Ljava/lang/Object;)Z"⟩ : MethodName)) hown (mvT hZ (hw _ (List.mem_of_getElem? (i := 56) rfl))) (mvT hZ (hw _ (List.mem_of_getElem? (i := 57) rfl))) (notFace_of_selects (args := #[]) (mvT hZ (hw _ (List.mem_of_getElem? (i := 59) rfl)))) (mvT hZ (hw _ (List.mem_of_getElem? (i := 59) rfl))) (mvT hZ (hw _ (List.mem_of_getElem? (i := 58) rfl))) (by decide) (backOf (W := 0) (rm_eqt l Z a0 hw [] b6 b20 r1 r2 (own_cs la a0_ a1_) (own_cs lb b0_ b1_) cz T31.heap n0 O31 r31_0 f37 r31_1 f32 f34 S_CS hcz) hZ (hw _ (List.mem_of_getElem? (i := 60) rfl)) (hw _ (List.mem_of_getElem? (i := 39) rfl)) (by decide) (by decide)) q42a q42c (g := (mkF m 197 #[.val (.int a), .val (.int b), .val (.int k), .val (.int la), .val (.int lb), .val (.int (0 : Int32)), .val (.int a0_), .val (.int a1_), .val (.int b0_), .val (.int b1_), .val (.ref r1), .val (.ref r2), .val (.ref b6), .val (.ref b20), .val (.int (1 : Int32))] [(.ref b20), (.ref b6)])) rfl (by rw [hml]; rfl) (Steps.refl _) (argsL := [(.ref b20)]) (rest := []) (lenOf pd_4 rfl) rfl (by show 2 * 0 + _ ≤ _; exact Nat.le_of_eq rfl) (hb hby at_197) (fun _ _ => ⟨rfl, rfl, (by decide : 14 + 0 ≤ _), (by decide : 58 + 0 ≤ _)⟩)
          dsimp only [Pt.U, Pt.locs, Pt.cells, Pt.slots] at X42 l42 y42 z42 st42 hQ42
          subst y42 z42
          obtain ⟨rfl, N42q, e42⟩ := hQ42
          have N42 : Fr n0 L42 := by rw [l42]; exact Fr.app N31 N42q
          refine stt st42 ?_
          show Go p e below T42 (mkF m 200 #[.val (.int a), .val (.int b), .val (.int k), .val (.int la), .val (.int lb), .val (.int (0 : Int32)), .val (.int a0_), .val (.int a1_), .val (.int b0_), .val (.int b1_), .val (.ref r1), .val (.ref r2), .val (.ref b6), .val (.ref b20), .val (.int (1 : Int32))] [(.int (if (own_cs la a0_ a1_) = (own_cs lb b0_ b1_) then (1 : Int32) else (0 : Int32)))]) _
          refine stp (fun _ => XS.iload X42.here hx rfl (hb hby at_200) rfl) ?_
          show Go p e below T42 (mkF m 202 #[.val (.int a), .val (.int b), .val (.int k), .val (.int la), .val (.int lb), .val (.int (0 : Int32)), .val (.int a0_), .val (.int a1_), .val (.int b0_), .val (.int b1_), .val (.ref r1), .val (.ref r2), .val (.ref b6), .val (.ref b20), .val (.int (1 : Int32))] [(.int (1 : Int32)), (.int (if (own_cs la a0_ a1_) = (own_cs lb b0_ b1_) then (1 : Int32) else (0 : Int32)))]) _
          refine stp (fun _ => XS.icmpNo X42.here hx rfl (hb hby at_202) rfl (XT.ii_ne_f (own_eq_TTT hla hlb q111_39 q116_40 q128_41))) ?_
          show Go p e below T42 (mkF m 205 #[.val (.int a), .val (.int b), .val (.int k), .val (.int la), .val (.int lb), .val (.int (0 : Int32)), .val (.int a0_), .val (.int a1_), .val (.int b0_), .val (.int b1_), .val (.ref r1), .val (.ref r2), .val (.ref b6), .val (.ref b20), .val (.int (1 : Int32))] []) _
          refine stp (fun _ => XS.iconst X42.here hx rfl (hb hby at_205)) ?_
          show Go p e below T42 (mkF m 206 #[.val (.int a), .val (.int b), .val (.int k), .val (.int la), .val (.int lb), .val (.int (0 : Int32)), .val (.int a0_), .val (.int a1_), .val (.int b0_), .val (.int b1_), .val (.ref r1), .val (.ref r2), .val (.ref b6), .val (.ref b20), .val (.int (1 : Int32))] [(.int (1 : Int32))]) _
          refine stp (fun _ => XS.goto X42.here hx rfl (pc0 := 206) (pc' := 210) rfl (hb hby at_206) (by decide) (by decide)) ?_
          show Go p e below T42 (mkF m 210 #[.val (.int a), .val (.int b), .val (.int k), .val (.int la), .val (.int lb), .val (.int (0 : Int32)), .val (.int a0_), .val (.int a1_), .val (.int b0_), .val (.int b1_), .val (.ref r1), .val (.ref r2), .val (.ref b6), .val (.ref b20), .val (.int (1 : Int32))] [(.int (1 : Int32))]) _
          refine outNW X42 hx hZ hEL e42 hS hk CR (t := .boolean) hret (by simp) (hb hby at_210) hlk (by decide) (by decide) ?_
          exact ⟨rfl, N42⟩
        · refine stp (fun _ => XS.icmpNo X31.here hx rfl (hb hby at_128) rfl (XT.ii_lt_f q128_41)) ?_
          show Go p e below T31 (mkF m 131 #[.val (.int a), .val (.int b), .val (.int k), .val (.int la), .val (.int lb), .val (.int (0 : Int32)), .val (.int a0_), .val (.int a1_), .val (.int b0_), .val (.int b1_), .val (.ref r1), .val (.ref r2), .val (.ref b6), .val (.ref b20), .unset] []) _
          refine stp (fun _ => XS.iload X31.here hx rfl (hb hby at_131) rfl) ?_
          show Go p e below T31 (mkF m 133 #[.val (.int a), .val (.int b), .val (.int k), .val (.int la), .val (.int lb), .val (.int (0 : Int32)), .val (.int a0_), .val (.int a1_), .val (.int b0_), .val (.int b1_), .val (.ref r1), .val (.ref r2), .val (.ref b6), .val (.ref b20), .unset] [(.int a1_)]) _
          refine stp (fun _ => XS.iload X31.here hx rfl (hb hby at_133) rfl) ?_
          show Go p e below T31 (mkF m 135 #[.val (.int a), .val (.int b), .val (.int k), .val (.int la), .val (.int lb), .val (.int (0 : Int32)), .val (.int a0_), .val (.int a1_), .val (.int b0_), .val (.int b1_), .val (.ref r1), .val (.ref r2), .val (.ref b6), .val (.ref b20), .unset] [(.int b1_), (.int a1_)]) _
          by_cases q135_43 : a1_ = b1_
          · refine stp (fun _ => XS.icmpNo X31.here hx rfl (hb hby at_135) rfl (XT.ii_ne_f q135_43)) ?_
            show Go p e below T31 (mkF m 138 #[.val (.int a), .val (.int b), .val (.int k), .val (.int la), .val (.int lb), .val (.int (0 : Int32)), .val (.int a0_), .val (.int a1_), .val (.int b0_), .val (.int b1_), .val (.ref r1), .val (.ref r2), .val (.ref b6), .val (.ref b20), .unset] []) _
            refine stp (fun _ => XS.iconst X31.here hx rfl (hb hby at_138)) ?_
            show Go p e below T31 (mkF m 139 #[.val (.int a), .val (.int b), .val (.int k), .val (.int la), .val (.int lb), .val (.int (0 : Int32)), .val (.int a0_), .val (.int a1_), .val (.int b0_), .val (.int b1_), .val (.ref r1), .val (.ref r2), .val (.ref b6), .val (.ref b20), .unset] [(.int (1 : Int32))]) _
            refine stp (fun _ => XS.goto X31.here hx rfl (pc0 := 139) (pc' := 143) rfl (hb hby at_139) (by decide) (by decide)) ?_
            show Go p e below T31 (mkF m 143 #[.val (.int a), .val (.int b), .val (.int k), .val (.int la), .val (.int lb), .val (.int (0 : Int32)), .val (.int a0_), .val (.int a1_), .val (.int b0_), .val (.int b1_), .val (.ref r1), .val (.ref r2), .val (.ref b6), .val (.ref b20), .unset] [(.int (1 : Int32))]) _
            refine stp (fun _ => XS.istore X31.here hx rfl (hb hby at_143) rfl (l' := #[.val (.int a), .val (.int b), .val (.int k), .val (.int la), .val (.int lb), .val (.int (0 : Int32)), .val (.int a0_), .val (.int a1_), .val (.int b0_), .val (.int b1_), .val (.ref r1), .val (.ref r2), .val (.ref b6), .val (.ref b20), .val (.int (1 : Int32))]) rfl) ?_
            show Go p e below T31 (mkF m 145 #[.val (.int a), .val (.int b), .val (.int k), .val (.int la), .val (.int lb), .val (.int (0 : Int32)), .val (.int a0_), .val (.int a1_), .val (.int b0_), .val (.int b1_), .val (.ref r1), .val (.ref r2), .val (.ref b6), .val (.ref b20), .val (.int (1 : Int32))] []) _
            refine stp (fun _ => XS.goto X31.here hx rfl (pc0 := 145) (pc' := 193) rfl (hb hby at_145) (by decide) (by decide)) ?_
            show Go p e below T31 (mkF m 193 #[.val (.int a), .val (.int b), .val (.int k), .val (.int la), .val (.int lb), .val (.int (0 : Int32)), .val (.int a0_), .val (.int a1_), .val (.int b0_), .val (.int b1_), .val (.ref r1), .val (.ref r2), .val (.ref b6), .val (.ref b20), .val (.int (1 : Int32))] []) _
            refine stp (fun _ => XS.aload X31.here hx rfl (hb hby at_193) rfl rfl) ?_
            show Go p e below T31 (mkF m 195 #[.val (.int a), .val (.int b), .val (.int k), .val (.int la), .val (.int lb), .val (.int (0 : Int32)), .val (.int a0_), .val (.int a1_), .val (.int b0_), .val (.int b1_), .val (.ref r1), .val (.ref r2), .val (.ref b6), .val (.ref b20), .val (.int (1 : Int32))] [(.ref b6)]) _
            refine stp (fun _ => XS.aload X31.here hx rfl (hb hby at_195) rfl rfl) ?_
            show Go p e below T31 (mkF m 197 #[.val (.int a), .val (.int b), .val (.int k), .val (.int la), .val (.int lb), .val (.int (0 : Int32)), .val (.int a0_), .val (.int a1_), .val (.int b0_), .val (.int b1_), .val (.ref r1), .val (.ref r2), .val (.ref b6), .val (.ref b20), .val (.int (1 : Int32))] [(.ref b20), (.ref b6)]) _
            obtain ⟨cq44, kq44, q44a, q44b, q44c⟩ := isOf hZ rfl f36
            obtain ⟨_, _, ⟨T44, L44, k44, n44⟩, -, X44, ⟨Lc44, hQ44, l44, y44, z44⟩, st44⟩ := X31.virtualBack hx (y := (⟨"com/example/revlint/revlint/model/GenericType$TypeVariable", "equals", "(Ljava/lang/Object;)Z"⟩ : MethodName)) (z := (⟨"com/example/revlint/revlint/model/GenericType$TypeVariable", "equals", "(Ljava/lang/Object;)Z"⟩ : MethodName)) hown (mvT hZ (hw _ (List.mem_of_getElem? (i := 56) rfl))) (mvT hZ (hw _ (List.mem_of_getElem? (i := 57) rfl))) (notFace_of_selects (args := #[]) (mvT hZ (hw _ (List.mem_of_getElem? (i := 59) rfl)))) (mvT hZ (hw _ (List.mem_of_getElem? (i := 59) rfl))) (mvT hZ (hw _ (List.mem_of_getElem? (i := 58) rfl))) (by decide) (backOf (W := 0) (rm_eqt l Z a0 hw [] b6 b20 r1 r2 (own_cs la a0_ a1_) (own_cs lb b0_ b1_) cz T31.heap n0 O31 r31_0 f37 r31_1 f32 f34 S_CS hcz) hZ (hw _ (List.mem_of_getElem? (i := 60) rfl)) (hw _ (List.mem_of_getElem? (i := 39) rfl)) (by decide) (by decide)) q44a q44c (g := (mkF m 197 #[.val (.int a), .val (.int b), .val (.int k), .val (.int la), .val (.int lb), .val (.int (0 : Int32)), .val (.int a0_), .val (.int a1_), .val (.int b0_), .val (.int b1_), .val (.ref r1), .val (.ref r2), .val (.ref b6), .val (.ref b20), .val (.int (1 : Int32))] [(.ref b20), (.ref b6)])) rfl (by rw [hml]; rfl) (Steps.refl _) (argsL := [(.ref b20)]) (rest := []) (lenOf pd_4 rfl) rfl (by show 2 * 0 + _ ≤ _; exact Nat.le_of_eq rfl) (hb hby at_197) (fun _ _ => ⟨rfl, rfl, (by decide : 14 + 0 ≤ _), (by decide : 58 + 0 ≤ _)⟩)
            dsimp only [Pt.U, Pt.locs, Pt.cells, Pt.slots] at X44 l44 y44 z44 st44 hQ44
            subst y44 z44
            obtain ⟨rfl, N44q, e44⟩ := hQ44
            have N44 : Fr n0 L44 := by rw [l44]; exact Fr.app N31 N44q
            refine stt st44 ?_
            show Go p e below T44 (mkF m 200 #[.val (.int a), .val (.int b), .val (.int k), .val (.int la), .val (.int lb), .val (.int (0 : Int32)), .val (.int a0_), .val (.int a1_), .val (.int b0_), .val (.int b1_), .val (.ref r1), .val (.ref r2), .val (.ref b6), .val (.ref b20), .val (.int (1 : Int32))] [(.int (if (own_cs la a0_ a1_) = (own_cs lb b0_ b1_) then (1 : Int32) else (0 : Int32)))]) _
            refine stp (fun _ => XS.iload X44.here hx rfl (hb hby at_200) rfl) ?_
            show Go p e below T44 (mkF m 202 #[.val (.int a), .val (.int b), .val (.int k), .val (.int la), .val (.int lb), .val (.int (0 : Int32)), .val (.int a0_), .val (.int a1_), .val (.int b0_), .val (.int b1_), .val (.ref r1), .val (.ref r2), .val (.ref b6), .val (.ref b20), .val (.int (1 : Int32))] [(.int (1 : Int32)), (.int (if (own_cs la a0_ a1_) = (own_cs lb b0_ b1_) then (1 : Int32) else (0 : Int32)))]) _
            refine stp (fun _ => XS.icmpNo X44.here hx rfl (hb hby at_202) rfl (XT.ii_ne_f (own_eq_TTFT hla hlb q111_39 q116_40 q128_41 q135_43))) ?_
            show Go p e below T44 (mkF m 205 #[.val (.int a), .val (.int b), .val (.int k), .val (.int la), .val (.int lb), .val (.int (0 : Int32)), .val (.int a0_), .val (.int a1_), .val (.int b0_), .val (.int b1_), .val (.ref r1), .val (.ref r2), .val (.ref b6), .val (.ref b20), .val (.int (1 : Int32))] []) _
            refine stp (fun _ => XS.iconst X44.here hx rfl (hb hby at_205)) ?_
            show Go p e below T44 (mkF m 206 #[.val (.int a), .val (.int b), .val (.int k), .val (.int la), .val (.int lb), .val (.int (0 : Int32)), .val (.int a0_), .val (.int a1_), .val (.int b0_), .val (.int b1_), .val (.ref r1), .val (.ref r2), .val (.ref b6), .val (.ref b20), .val (.int (1 : Int32))] [(.int (1 : Int32))]) _
            refine stp (fun _ => XS.goto X44.here hx rfl (pc0 := 206) (pc' := 210) rfl (hb hby at_206) (by decide) (by decide)) ?_
            show Go p e below T44 (mkF m 210 #[.val (.int a), .val (.int b), .val (.int k), .val (.int la), .val (.int lb), .val (.int (0 : Int32)), .val (.int a0_), .val (.int a1_), .val (.int b0_), .val (.int b1_), .val (.ref r1), .val (.ref r2), .val (.ref b6), .val (.ref b20), .val (.int (1 : Int32))] [(.int (1 : Int32))]) _
            refine outNW X44 hx hZ hEL e44 hS hk CR (t := .boolean) hret (by simp) (hb hby at_210) hlk (by decide) (by decide) ?_
            exact ⟨rfl, N44⟩
          · refine stp (fun _ => XS.icmpYes X31.here hx rfl (pc0 := 135) (pc' := 142) rfl (hb hby at_135) rfl (XT.ii_ne_t q135_43) (by decide) (by decide)) ?_
            show Go p e below T31 (mkF m 142 #[.val (.int a), .val (.int b), .val (.int k), .val (.int la), .val (.int lb), .val (.int (0 : Int32)), .val (.int a0_), .val (.int a1_), .val (.int b0_), .val (.int b1_), .val (.ref r1), .val (.ref r2), .val (.ref b6), .val (.ref b20), .unset] []) _
            refine stp (fun _ => XS.iconst X31.here hx rfl (hb hby at_142)) ?_
            show Go p e below T31 (mkF m 143 #[.val (.int a), .val (.int b), .val (.int k), .val (.int la), .val (.int lb), .val (.int (0 : Int32)), .val (.int a0_), .val (.int a1_), .val (.int b0_), .val (.int b1_), .val (.ref r1), .val (.ref r2), .val (.ref b6), .val (.ref b20), .unset] [(.int (0 : Int32))]) _
            refine stp (fun _ => XS.istore X31.here hx rfl (hb hby at_143) rfl (l' := #[.val (.int a), .val (.int b), .val (.int k), .val (.int la), .val (.int lb), .val (.int (0 : Int32)), .val (.int a0_), .val (.int a1_), .val (.int b0_), .val (.int b1_), .val (.ref r1), .val (.ref r2), .val (.ref b6), .val (.ref b20), .val (.int (0 : Int32))]) rfl) ?_
            show Go p e below T31 (mkF m 145 #[.val (.int a), .val (.int b), .val (.int k), .val (.int la), .val (.int lb), .val (.int (0 : Int32)), .val (.int a0_), .val (.int a1_), .val (.int b0_), .val (.int b1_), .val (.ref r1), .val (.ref r2), .val (.ref b6), .val (.ref b20), .val (.int (0 : Int32))] []) _
            refine stp (fun _ => XS.goto X31.here hx rfl (pc0 := 145) (pc' := 193) rfl (hb hby at_145) (by decide) (by decide)) ?_
            show Go p e below T31 (mkF m 193 #[.val (.int a), .val (.int b), .val (.int k), .val (.int la), .val (.int lb), .val (.int (0 : Int32)), .val (.int a0_), .val (.int a1_), .val (.int b0_), .val (.int b1_), .val (.ref r1), .val (.ref r2), .val (.ref b6), .val (.ref b20), .val (.int (0 : Int32))] []) _
            refine stp (fun _ => XS.aload X31.here hx rfl (hb hby at_193) rfl rfl) ?_
            show Go p e below T31 (mkF m 195 #[.val (.int a), .val (.int b), .val (.int k), .val (.int la), .val (.int lb), .val (.int (0 : Int32)), .val (.int a0_), .val (.int a1_), .val (.int b0_), .val (.int b1_), .val (.ref r1), .val (.ref r2), .val (.ref b6), .val (.ref b20), .val (.int (0 : Int32))] [(.ref b6)]) _
            refine stp (fun _ => XS.aload X31.here hx rfl (hb hby at_195) rfl rfl) ?_
            show Go p e below T31 (mkF m 197 #[.val (.int a), .val (.int b), .val (.int k), .val (.int la), .val (.int lb), .val (.int (0 : Int32)), .val (.int a0_), .val (.int a1_), .val (.int b0_), .val (.int b1_), .val (.ref r1), .val (.ref r2), .val (.ref b6), .val (.ref b20), .val (.int (0 : Int32))] [(.ref b20), (.ref b6)]) _
            obtain ⟨cq45, kq45, q45a, q45b, q45c⟩ := isOf hZ rfl f36
            obtain ⟨_, _, ⟨T45, L45, k45, n45⟩, -, X45, ⟨Lc45, hQ45, l45, y45, z45⟩, st45⟩ := X31.virtualBack hx (y := (⟨"com/example/revlint/revlint/model/GenericType$TypeVariable", "equals", "(Ljava/lang/Object;)Z"⟩ : MethodName)) (z := (⟨"com/example/revlint/revlint/model/GenericType$TypeVariable", "equals", "(Ljava/lang/Object;)Z"⟩ : MethodName)) hown (mvT hZ (hw _ (List.mem_of_getElem? (i := 56) rfl))) (mvT hZ (hw _ (List.mem_of_getElem? (i := 57) rfl))) (notFace_of_selects (args := #[]) (mvT hZ (hw _ (List.mem_of_getElem? (i := 59) rfl)))) (mvT hZ (hw _ (List.mem_of_getElem? (i := 59) rfl))) (mvT hZ (hw _ (List.mem_of_getElem? (i := 58) rfl))) (by decide) (backOf (W := 0) (rm_eqt l Z a0 hw [] b6 b20 r1 r2 (own_cs la a0_ a1_) (own_cs lb b0_ b1_) cz T31.heap n0 O31 r31_0 f37 r31_1 f32 f34 S_CS hcz) hZ (hw _ (List.mem_of_getElem? (i := 60) rfl)) (hw _ (List.mem_of_getElem? (i := 39) rfl)) (by decide) (by decide)) q45a q45c (g := (mkF m 197 #[.val (.int a), .val (.int b), .val (.int k), .val (.int la), .val (.int lb), .val (.int (0 : Int32)), .val (.int a0_), .val (.int a1_), .val (.int b0_), .val (.int b1_), .val (.ref r1), .val (.ref r2), .val (.ref b6), .val (.ref b20), .val (.int (0 : Int32))] [(.ref b20), (.ref b6)])) rfl (by rw [hml]; rfl) (Steps.refl _) (argsL := [(.ref b20)]) (rest := []) (lenOf pd_4 rfl) rfl (by show 2 * 0 + _ ≤ _; exact Nat.le_of_eq rfl) (hb hby at_197) (fun _ _ => ⟨rfl, rfl, (by decide : 14 + 0 ≤ _), (by decide : 58 + 0 ≤ _)⟩)
            dsimp only [Pt.U, Pt.locs, Pt.cells, Pt.slots] at X45 l45 y45 z45 st45 hQ45
            subst y45 z45
            obtain ⟨rfl, N45q, e45⟩ := hQ45
            have N45 : Fr n0 L45 := by rw [l45]; exact Fr.app N31 N45q
            refine stt st45 ?_
            show Go p e below T45 (mkF m 200 #[.val (.int a), .val (.int b), .val (.int k), .val (.int la), .val (.int lb), .val (.int (0 : Int32)), .val (.int a0_), .val (.int a1_), .val (.int b0_), .val (.int b1_), .val (.ref r1), .val (.ref r2), .val (.ref b6), .val (.ref b20), .val (.int (0 : Int32))] [(.int (if (own_cs la a0_ a1_) = (own_cs lb b0_ b1_) then (1 : Int32) else (0 : Int32)))]) _
            refine stp (fun _ => XS.iload X45.here hx rfl (hb hby at_200) rfl) ?_
            show Go p e below T45 (mkF m 202 #[.val (.int a), .val (.int b), .val (.int k), .val (.int la), .val (.int lb), .val (.int (0 : Int32)), .val (.int a0_), .val (.int a1_), .val (.int b0_), .val (.int b1_), .val (.ref r1), .val (.ref r2), .val (.ref b6), .val (.ref b20), .val (.int (0 : Int32))] [(.int (0 : Int32)), (.int (if (own_cs la a0_ a1_) = (own_cs lb b0_ b1_) then (1 : Int32) else (0 : Int32)))]) _
            refine stp (fun _ => XS.icmpNo X45.here hx rfl (hb hby at_202) rfl (XT.ii_ne_f (own_eq_TTFF hla hlb q111_39 q116_40 q128_41 q135_43))) ?_
            show Go p e below T45 (mkF m 205 #[.val (.int a), .val (.int b), .val (.int k), .val (.int la), .val (.int lb), .val (.int (0 : Int32)), .val (.int a0_), .val (.int a1_), .val (.int b0_), .val (.int b1_), .val (.ref r1), .val (.ref r2), .val (.ref b6), .val (.ref b20), .val (.int (0 : Int32))] []) _
            refine stp (fun _ => XS.iconst X45.here hx rfl (hb hby at_205)) ?_
            show Go p e below T45 (mkF m 206 #[.val (.int a), .val (.int b), .val (.int k), .val (.int la), .val (.int lb), .val (.int (0 : Int32)), .val (.int a0_), .val (.int a1_), .val (.int b0_), .val (.int b1_), .val (.ref r1), .val (.ref r2), .val (.ref b6), .val (.ref b20), .val (.int (0 : Int32))] [(.int (1 : Int32))]) _
            refine stp (fun _ => XS.goto X45.here hx rfl (pc0 := 206) (pc' := 210) rfl (hb hby at_206) (by decide) (by decide)) ?_
            show Go p e below T45 (mkF m 210 #[.val (.int a), .val (.int b), .val (.int k), .val (.int la), .val (.int lb), .val (.int (0 : Int32)), .val (.int a0_), .val (.int a1_), .val (.int b0_), .val (.int b1_), .val (.ref r1), .val (.ref r2), .val (.ref b6), .val (.ref b20), .val (.int (0 : Int32))] [(.int (1 : Int32))]) _
            refine outNW X45 hx hZ hEL e45 hS hk CR (t := .boolean) hret (by simp) (hb hby at_210) hlk (by decide) (by decide) ?_
            exact ⟨rfl, N45⟩
      · refine stp (fun _ => XS.icmpNo X31.here hx rfl (hb hby at_116) rfl (XT.ii_lt_f q116_40)) ?_
        show Go p e below T31 (mkF m 119 #[.val (.int a), .val (.int b), .val (.int k), .val (.int la), .val (.int lb), .val (.int (0 : Int32)), .val (.int a0_), .val (.int a1_), .val (.int b0_), .val (.int b1_), .val (.ref r1), .val (.ref r2), .val (.ref b6), .val (.ref b20), .unset] []) _
        refine stp (fun _ => XS.iload X31.here hx rfl (hb hby at_119) rfl) ?_
        show Go p e below T31 (mkF m 121 #[.val (.int a), .val (.int b), .val (.int k), .val (.int la), .val (.int lb), .val (.int (0 : Int32)), .val (.int a0_), .val (.int a1_), .val (.int b0_), .val (.int b1_), .val (.ref r1), .val (.ref r2), .val (.ref b6), .val (.ref b20), .unset] [(.int a0_)]) _
        refine stp (fun _ => XS.iload X31.here hx rfl (hb hby at_121) rfl) ?_
        show Go p e below T31 (mkF m 123 #[.val (.int a), .val (.int b), .val (.int k), .val (.int la), .val (.int lb), .val (.int (0 : Int32)), .val (.int a0_), .val (.int a1_), .val (.int b0_), .val (.int b1_), .val (.ref r1), .val (.ref r2), .val (.ref b6), .val (.ref b20), .unset] [(.int b0_), (.int a0_)]) _
        by_cases q123_46 : a0_ = b0_
        · refine stp (fun _ => XS.icmpNo X31.here hx rfl (hb hby at_123) rfl (XT.ii_ne_f q123_46)) ?_
          show Go p e below T31 (mkF m 126 #[.val (.int a), .val (.int b), .val (.int k), .val (.int la), .val (.int lb), .val (.int (0 : Int32)), .val (.int a0_), .val (.int a1_), .val (.int b0_), .val (.int b1_), .val (.ref r1), .val (.ref r2), .val (.ref b6), .val (.ref b20), .unset] []) _
          refine stp (fun _ => XS.iloadN X31.here hx rfl (hb hby at_126) rfl) ?_
          show Go p e below T31 (mkF m 127 #[.val (.int a), .val (.int b), .val (.int k), .val (.int la), .val (.int lb), .val (.int (0 : Int32)), .val (.int a0_), .val (.int a1_), .val (.int b0_), .val (.int b1_), .val (.ref r1), .val (.ref r2), .val (.ref b6), .val (.ref b20), .unset] [(.int la)]) _
          refine stp (fun _ => XS.iconst X31.here hx rfl (hb hby at_127)) ?_
          show Go p e below T31 (mkF m 128 #[.val (.int a), .val (.int b), .val (.int k), .val (.int la), .val (.int lb), .val (.int (0 : Int32)), .val (.int a0_), .val (.int a1_), .val (.int b0_), .val (.int b1_), .val (.ref r1), .val (.ref r2), .val (.ref b6), .val (.ref b20), .unset] [(.int (2 : Int32)), (.int la)]) _
          by_cases q128_47 : la < (2 : Int32)
          · refine stp (fun _ => XS.icmpYes X31.here hx rfl (pc0 := 128) (pc' := 138) rfl (hb hby at_128) rfl (XT.ii_lt_t q128_47) (by decide) (by decide)) ?_
            show Go p e below T31 (mkF m 138 #[.val (.int a), .val (.int b), .val (.int k), .val (.int la), .val (.int lb), .val (.int (0 : Int32)), .val (.int a0_), .val (.int a1_), .val (.int b0_), .val (.int b1_), .val (.ref r1), .val (.ref r2), .val (.ref b6), .val (.ref b20), .unset] []) _
            refine stp (fun _ => XS.iconst X31.here hx rfl (hb hby at_138)) ?_
            show Go p e below T31 (mkF m 139 #[.val (.int a), .val (.int b), .val (.int k), .val (.int la), .val (.int lb), .val (.int (0 : Int32)), .val (.int a0_), .val (.int a1_), .val (.int b0_), .val (.int b1_), .val (.ref r1), .val (.ref r2), .val (.ref b6), .val (.ref b20), .unset] [(.int (1 : Int32))]) _
            refine stp (fun _ => XS.goto X31.here hx rfl (pc0 := 139) (pc' := 143) rfl (hb hby at_139) (by decide) (by decide)) ?_
            show Go p e below T31 (mkF m 143 #[.val (.int a), .val (.int b), .val (.int k), .val (.int la), .val (.int lb), .val (.int (0 : Int32)), .val (.int a0_), .val (.int a1_), .val (.int b0_), .val (.int b1_), .val (.ref r1), .val (.ref r2), .val (.ref b6), .val (.ref b20), .unset] [(.int (1 : Int32))]) _
            refine stp (fun _ => XS.istore X31.here hx rfl (hb hby at_143) rfl (l' := #[.val (.int a), .val (.int b), .val (.int k), .val (.int la), .val (.int lb), .val (.int (0 : Int32)), .val (.int a0_), .val (.int a1_), .val (.int b0_), .val (.int b1_), .val (.ref r1), .val (.ref r2), .val (.ref b6), .val (.ref b20), .val (.int (1 : Int32))]) rfl) ?_
            show Go p e below T31 (mkF m 145 #[.val (.int a), .val (.int b), .val (.int k), .val (.int la), .val (.int lb), .val (.int (0 : Int32)), .val (.int a0_), .val (.int a1_), .val (.int b0_), .val (.int b1_), .val (.ref r1), .val (.ref r2), .val (.ref b6), .val (.ref b20), .val (.int (1 : Int32))] []) _
            refine stp (fun _ => XS.goto X31.here hx rfl (pc0 := 145) (pc' := 193) rfl (hb hby at_145) (by decide) (by decide)) ?_
            show Go p e below T31 (mkF m 193 #[.val (.int a), .val (.int b), .val (.int k), .val (.int la), .val (.int lb), .val (.int (0 : Int32)), .val (.int a0_), .val (.int a1_), .val (.int b0_), .val (.int b1_), .val (.ref r1), .val (.ref r2), .val (.ref b6), .val (.ref b20), .val (.int (1 : Int32))] []) _
            refine stp (fun _ => XS.aload X31.here hx rfl (hb hby at_193) rfl rfl) ?_
            show Go p e below T31 (mkF m 195 #[.val (.int a), .val (.int b), .val (.int k), .val (.int la), .val (.int lb), .val (.int (0 : Int32)), .val (.int a0_), .val (.int a1_), .val (.int b0_), .val (.int b1_), .val (.ref r1), .val (.ref r2), .val (.ref b6), .val (.ref b20), .val (.int (1 : Int32))] [(.ref b6)]) _
            refine stp (fun _ => XS.aload X31.here hx rfl (hb hby at_195) rfl rfl) ?_
            show Go p e below T31 (mkF m 197 #[.val (.int a), .val (.int b), .val (.int k), .val (.int la), .val (.int lb), .val (.int (0 : Int32)), .val (.int a0_), .val (.int a1_), .val (.int b0_), .val (.int b1_), .val (.ref r1), .val (.ref r2), .val (.ref b6), .val (.ref b20), .val (.int (1 : Int32))] [(.ref b20), (.ref b6)]) _
            obtain ⟨cq48, kq48, q48a, q48b, q48c⟩ := isOf hZ rfl f36
            obtain ⟨_, _, ⟨T48, L48, k48, n48⟩, -, X48, ⟨Lc48, hQ48, l48, y48, z48⟩, st48⟩ := X31.virtualBack hx (y := (⟨"com/example/revlint/revlint/model/GenericType$TypeVariable", "equals", "(Ljava/lang/Object;)Z"⟩ : MethodName)) (z := (⟨"com/example/revlint/revlint/model/GenericType$TypeVariable", "equals", "(Ljava/lang/Object;)Z"⟩ : MethodName)) hown (mvT hZ (hw _ (List.mem_of_getElem? (i := 56) rfl))) (mvT hZ (hw _ (List.mem_of_getElem? (i := 57) rfl))) (notFace_of_selects (args := #[]) (mvT hZ (hw _ (List.mem_of_getElem? (i := 59) rfl)))) (mvT hZ (hw _ (List.mem_of_getElem? (i := 59) rfl))) (mvT hZ (hw _ (List.mem_of_getElem? (i := 58) rfl))) (by decide) (backOf (W := 0) (rm_eqt l Z a0 hw [] b6 b20 r1 r2 (own_cs la a0_ a1_) (own_cs lb b0_ b1_) cz T31.heap n0 O31 r31_0 f37 r31_1 f32 f34 S_CS hcz) hZ (hw _ (List.mem_of_getElem? (i := 60) rfl)) (hw _ (List.mem_of_getElem? (i := 39) rfl)) (by decide) (by decide)) q48a q48c (g := (mkF m 197 #[.val (.int a), .val (.int b), .val (.int k), .val (.int la), .val (.int lb), .val (.int (0 : Int32)), .val (.int a0_), .val (.int a1_), .val (.int b0_), .val (.int b1_), .val (.ref r1), .val (.ref r2), .val (.ref b6), .val (.ref b20), .val (.int (1 : Int32))] [(.ref b20), (.ref b6)])) rfl (by rw [hml]; rfl) (Steps.refl _) (argsL := [(.ref b20)]) (rest := []) (lenOf pd_4 rfl) rfl (by show 2 * 0 + _ ≤ _; exact Nat.le_of_eq rfl) (hb hby at_197) (fun _ _ => ⟨rfl, rfl, (by decide : 14 + 0 ≤ _), (by decide : 58 + 0 ≤ _)⟩)
            dsimp only [Pt.U, Pt.locs, Pt.cells, Pt.slots] at X48 l48 y48 z48 st48 hQ48
            subst y48 z48
            obtain ⟨rfl, N48q, e48⟩ := hQ48
            have N48 : Fr n0 L48 := by rw [l48]; exact Fr.app N31 N48q
            refine stt st48 ?_
            show Go p e below T48 (mkF m 200 #[.val (.int a), .val (.int b), .val (.int k), .val (.int la), .val (.int lb), .val (.int (0 : Int32)), .val (.int a0_), .val (.int a1_), .val (.int b0_), .val (.int b1_), .val (.ref r1), .val (.ref r2), .val (.ref b6), .val (.ref b20), .val (.int (1 : Int32))] [(.int (if (own_cs la a0_ a1_) = (own_cs lb b0_ b1_) then (1 : Int32) else (0 : Int32)))]) _
            refine stp (fun _ => XS.iload X48.here hx rfl (hb hby at_200) rfl) ?_
            show Go p e below T48 (mkF m 202 #[.val (.int a), .val (.int b), .val (.int k), .val (.int la), .val (.int lb), .val (.int (0 : Int32)), .val (.int a0_), .val (.int a1_), .val (.int b0_), .val (.int b1_), .val (.ref r1), .val (.ref r2), .val (.ref b6), .val (.ref b20), .val (.int (1 : Int32))] [(.int (1 : Int32)), (.int (if (own_cs la a0_ a1_) = (own_cs lb b0_ b1_) then (1 : Int32) else (0 : Int32)))]) _
            refine stp (fun _ => XS.icmpNo X48.here hx rfl (hb hby at_202) rfl (XT.ii_ne_f (own_eq_TFTT hla hlb q111_39 q116_40 q123_46 q128_47))) ?_
            show Go p e below T48 (mkF m 205 #[.val (.int a), .val (.int b), .val (.int k), .val (.int la), .val (.int lb), .val (.int (0 : Int32)), .val (.int a0_), .val (.int a1_), .val (.int b0_), .val (.int b1_), .val (.ref r1), .val (.ref r2), .val (.ref b6), .val (.ref b20), .val (.int (1 : Int32))] []) _
            refine stp (fun _ => XS.iconst X48.here hx rfl (hb hby at_205)) ?_
            show Go p e below T48 (mkF m 206 #[.val (.int a), .val (.int b), .val (.int k), .val (.int la), .val (.int lb), .val (.int (0 : Int32)), .val (.int a0_), .val (.int a1_), .val (.int b0_), .val (.int b1_), .val (.ref r1), .val (.ref r2), .val (.ref b6), .val (.ref b20), .val (.int (1 : Int32))] [(.int (1 : Int32))]) _
            refine stp (fun _ => XS.goto X48.here hx rfl (pc0 := 206) (pc' := 210) rfl (hb hby at_206) (by decide) (by decide)) ?_
            show Go p e below T48 (mkF m 210 #[.val (.int a), .val (.int b), .val (.int k), .val (.int la), .val (.int lb), .val (.int (0 : Int32)), .val (.int a0_), .val (.int a1_), .val (.int b0_), .val (.int b1_), .val (.ref r1), .val (.ref r2), .val (.ref b6), .val (.ref b20), .val (.int (1 : Int32))] [(.int (1 : Int32))]) _
            refine outNW X48 hx hZ hEL e48 hS hk CR (t := .boolean) hret (by simp) (hb hby at_210) hlk (by decide) (by decide) ?_
            exact ⟨rfl, N48⟩
          · refine stp (fun _ => XS.icmpNo X31.here hx rfl (hb hby at_128) rfl (XT.ii_lt_f q128_47)) ?_
            show Go p e below T31 (mkF m 131 #[.val (.int a), .val (.int b), .val (.int k), .val (.int la), .val (.int lb), .val (.int (0 : Int32)), .val (.int a0_), .val (.int a1_), .val (.int b0_), .val (.int b1_), .val (.ref r1), .val (.ref r2), .val (.ref b6), .val (.ref b20), .unset] []) _
            refine stp (fun _ => XS.iload X31.here hx rfl (hb hby at_131) rfl) ?_
            show Go p e below T31 (mkF m 133 #[.val (.int a), .val (.int b), .val (.int k), .val (.int la), .val (.int lb), .val (.int (0 : Int32)), .val (.int a0_), .val (.int a1_), .val (.int b0_), .val (.int b1_), .val (.ref r1), .val (.ref r2), .val (.ref b6), .val (.ref b20), .unset] [(.int a1_)]) _
            refine stp (fun _ => XS.iload X31.here hx rfl (hb hby at_133) rfl) ?_
            show Go p e below T31 (mkF m 135 #[.val (.int a), .val (.int b), .val (.int k), .val (.int la), .val (.int lb), .val (.int (0 : Int32)), .val (.int a0_), .val (.int a1_), .val (.int b0_), .val (.int b1_), .val (.ref r1), .val (.ref r2), .val (.ref b6), .val (.ref b20), .unset] [(.int b1_), (.int a1_)]) _
            by_cases q135_49 : a1_ = b1_
            · refine stp (fun _ => XS.icmpNo X31.here hx rfl (hb hby at_135) rfl (XT.ii_ne_f q135_49)) ?_
              show Go p e below T31 (mkF m 138 #[.val (.int a), .val (.int b), .val (.int k), .val (.int la), .val (.int lb), .val (.int (0 : Int32)), .val (.int a0_), .val (.int a1_), .val (.int b0_), .val (.int b1_), .val (.ref r1), .val (.ref r2), .val (.ref b6), .val (.ref b20), .unset] []) _
              refine stp (fun _ => XS.iconst X31.here hx rfl (hb hby at_138)) ?_
              show Go p e below T31 (mkF m 139 #[.val (.int a), .val (.int b), .val (.int k), .val (.int la), .val (.int lb), .val (.int (0 : Int32)), .val (.int a0_), .val (.int a1_), .val (.int b0_), .val (.int b1_), .val (.ref r1), .val (.ref r2), .val (.ref b6), .val (.ref b20), .unset] [(.int (1 : Int32))]) _
              refine stp (fun _ => XS.goto X31.here hx rfl (pc0 := 139) (pc' := 143) rfl (hb hby at_139) (by decide) (by decide)) ?_
              show Go p e below T31 (mkF m 143 #[.val (.int a), .val (.int b), .val (.int k), .val (.int la), .val (.int lb), .val (.int (0 : Int32)), .val (.int a0_), .val (.int a1_), .val (.int b0_), .val (.int b1_), .val (.ref r1), .val (.ref r2), .val (.ref b6), .val (.ref b20), .unset] [(.int (1 : Int32))]) _
              refine stp (fun _ => XS.istore X31.here hx rfl (hb hby at_143) rfl (l' := #[.val (.int a), .val (.int b), .val (.int k), .val (.int la), .val (.int lb), .val (.int (0 : Int32)), .val (.int a0_), .val (.int a1_), .val (.int b0_), .val (.int b1_), .val (.ref r1), .val (.ref r2), .val (.ref b6), .val (.ref b20), .val (.int (1 : Int32))]) rfl) ?_
              show Go p e below T31 (mkF m 145 #[.val (.int a), .val (.int b), .val (.int k), .val (.int la), .val (.int lb), .val (.int (0 : Int32)), .val (.int a0_), .val (.int a1_), .val (.int b0_), .val (.int b1_), .val (.ref r1), .val (.ref r2), .val (.ref b6), .val (.ref b20), .val (.int (1 : Int32))] []) _
              refine stp (fun _ => XS.goto X31.here hx rfl (pc0 := 145) (pc' := 193) rfl (hb hby at_145) (by decide) (by decide)) ?_
              show Go p e below T31 (mkF m 193 #[.val (.int a), .val (.int b), .val (.int k), .val (.int la), .val (.int lb), .val (.int (0 : Int32)), .val (.int a0_), .val (.int a1_), .val (.int b0_), .val (.int b1_), .val (.ref r1), .val (.ref r2), .val (.ref b6), .val (.ref b20), .val (.int (1 : Int32))] []) _
              refine stp (fun _ => XS.aload X31.here hx rfl (hb hby at_193) rfl rfl) ?_
              show Go p e below T31 (mkF m 195 #[.val (.int a), .val (.int b), .val (.int k), .val (.int la), .val (.int lb), .val (.int (0 : Int32)), .val (.int a0_), .val (.int a1_), .val (.int b0_), .val (.int b1_), .val (.ref r1), .val (.ref r2), .val (.ref b6), .val (.ref b20), .val (.int (1 : Int32))] [(.ref b6)]) _
              refine stp (fun _ => XS.aload X31.here hx rfl (hb hby at_195) rfl rfl) ?_
              show Go p e below T31 (mkF m 197 #[.val (.int a), .val (.int b), .val (.int k), .val (.int la), .val (.int lb), .val (.int (0 : Int32)), .val (.int a0_), .val (.int a1_), .val (.int b0_), .val (.int b1_), .val (.ref r1), .val (.ref r2), .val (.ref b6), .val (.ref b20), .val (.int (1 : Int32))] [(.ref b20), (.ref b6)]) _
              obtain ⟨cq50, kq50, q50a, q50b, q50c⟩ := isOf hZ rfl f36
              obtain ⟨_, _, ⟨T50, L50, k50, n50⟩, -, X50, ⟨Lc50, hQ50, l50, y50, z50⟩, st50⟩ := X31.virtualBack hx (y := (⟨"com/example/revlint/revlint/model/GenericType$TypeVariable", "equals", "(Ljava/lang/Object;)Z"⟩ : MethodName)) (z := (⟨"com/example/revlint/revlint/model/GenericType$TypeVariable", "equals", "(Ljava/lang/Object;)Z"⟩ : MethodName)) hown (mvT hZ (hw _ (List.mem_of_getElem? (i := 56) rfl))) (mvT hZ (hw _ (List.mem_of_getElem? (i := 57) rfl))) (notFace_of_selects (args := #[]) (mvT hZ (hw _ (List.mem_of_getElem? (i := 59) rfl)))) (mvT hZ (hw _ (List.mem_of_getElem? (i := 59) rfl))) (mvT hZ (hw _ (List.mem_of_getElem? (i := 58) rfl))) (by decide) (backOf (W := 0) (rm_eqt l Z a0 hw [] b6 b20 r1 r2 (own_cs la a0_ a1_) (own_cs lb b0_ b1_) cz T31.heap n0 O31 r31_0 f37 r31_1 f32 f34 S_CS hcz) hZ (hw _ (List.mem_of_getElem? (i := 60) rfl)) (hw _ (List.mem_of_getElem? (i := 39) rfl)) (by decide) (by decide)) q50a q50c (g := (mkF m 197 #[.val (.int a), .val (.int b), .val (.int k), .val (.int la), .val (.int lb), .val (.int (0 : Int32)), .val (.int a0_), .val (.int a1_), .val (.int b0_), .val (.int b1_), .val (.ref r1), .val (.ref r2), .val (.ref b6), .val (.ref b20), .val (.int (1 : Int32))] [(.ref b20), (.ref b6)])) rfl (by rw [hml]; rfl) (Steps.refl _) (argsL := [(.ref b20)]) (rest := []) (lenOf pd_4 rfl) rfl (by show 2 * 0 + _ ≤ _; exact Nat.le_of_eq rfl) (hb hby at_197) (fun _ _ => ⟨rfl, rfl, (by decide : 14 + 0 ≤ _), (by decide : 58 + 0 ≤ _)⟩)
              dsimp only [Pt.U, Pt.locs, Pt.cells, Pt.slots] at X50 l50 y50 z50 st50 hQ50
              subst y50 z50
              obtain ⟨rfl, N50q, e50⟩ := hQ50
              have N50 : Fr n0 L50 := by rw [l50]; exact Fr.app N31 N50q
              refine stt st50 ?_
              show Go p e below T50 (mkF m 200 #[.val (.int a), .val (.int b), .val (.int k), .val (.int la), .val (.int lb), .val (.int (0 : Int32)), .val (.int a0_), .val (.int a1_), .val (.int b0_), .val (.int b1_), .val (.ref r1), .val (.ref r2), .val (.ref b6), .val (.ref b20), .val (.int (1 : Int32))] [(.int (if (own_cs la a0_ a1_) = (own_cs lb b0_ b1_) then (1 : Int32) else (0 : Int32)))]) _
              refine stp (fun _ => XS.iload X50.here hx rfl (hb hby at_200) rfl) ?_
              show Go p e below T50 (mkF m 202 #[.val (.int a), .val (.int b), .val (.int k), .val (.int la), .val (.int lb), .val (.int (0 : Int32)), .val (.int a0_), .val (.int a1_), .val (.int b0_), .val (.int b1_), .val (.ref r1), .val (.ref r2), .val (.ref b6), .val (.ref b20), .val (.int (1 : Int32))] [(.int (1 : Int32)), (.int (if (own_cs la a0_ a1_) = (own_cs lb b0_ b1_) then (1 : Int32) else (0 : Int32)))]) _
              refine stp (fun _ => XS.icmpNo X50.here hx rfl (hb hby at_202) rfl (XT.ii_ne_f (own_eq_TFTFT hla hlb q111_39 q116_40 q123_46 q128_47 q135_49))) ?_
              show Go p e below T50 (mkF m 205 #[.val (.int a), .val (.int b), .val (.int k), .val (.int la), .val (.int lb), .val (.int (0 : Int32)), .val (.int a0_), .val (.int a1_), .val (.int b0_), .val (.int b1_), .val (.ref r1), .val (.ref r2), .val (.ref b6), .val (.ref b20), .val (.int (1 : Int32))] []) _
              refine stp (fun _ => XS.iconst X50.here hx rfl (hb hby at_205)) ?_
              show Go p e below T50 (mkF m 206 #[.val (.int a), .val (.int b), .val (.int k), .val (.int la), .val (.int lb), .val (.int (0 : Int32)), .val (.int a0_), .val (.int a1_), .val (.int b0_), .val (.int b1_), .val (.ref r1), .val (.ref r2), .val (.ref b6), .val (.ref b20), .val (.int (1 : Int32))] [(.int (1 : Int32))]) _
              refine stp (fun _ => XS.goto X50.here hx rfl (pc0 := 206) (pc' := 210) rfl (hb hby at_206) (by decide) (by decide)) ?_
              show Go p e below T50 (mkF m 210 #[.val (.int a), .val (.int b), .val (.int k), .val (.int la), .val (.int lb), .val (.int (0 : Int32)), .val (.int a0_), .val (.int a1_), .val (.int b0_), .val (.int b1_), .val (.ref r1), .val (.ref r2), .val (.ref b6), .val (.ref b20), .val (.int (1 : Int32))] [(.int (1 : Int32))]) _
              refine outNW X50 hx hZ hEL e50 hS hk CR (t := .boolean) hret (by simp) (hb hby at_210) hlk (by decide) (by decide) ?_
              exact ⟨rfl, N50⟩
            · refine stp (fun _ => XS.icmpYes X31.here hx rfl (pc0 := 135) (pc' := 142) rfl (hb hby at_135) rfl (XT.ii_ne_t q135_49) (by decide) (by decide)) ?_
              show Go p e below T31 (mkF m 142 #[.val (.int a), .val (.int b), .val (.int k), .val (.int la), .val (.int lb), .val (.int (0 : Int32)), .val (.int a0_), .val (.int a1_), .val (.int b0_), .val (.int b1_), .val (.ref r1), .val (.ref r2), .val (.ref b6), .val (.ref b20), .unset] []) _
              refine stp (fun _ => XS.iconst X31.here hx rfl (hb hby at_142)) ?_
              show Go p e below T31 (mkF m 143 #[.val (.int a), .val (.int b), .val (.int k), .val (.int la), .val (.int lb), .val (.int (0 : Int32)), .val (.int a0_), .val (.int a1_), .val (.int b0_), .val (.int b1_), .val (.ref r1), .val (.ref r2), .val (.ref b6), .val (.ref b20), .unset] [(.int (0 : Int32))]) _
              refine stp (fun _ => XS.istore X31.here hx rfl (hb hby at_143) rfl (l' := #[.val (.int a), .val (.int b), .val (.int k), .val (.int la), .val (.int lb), .val (.int (0 : Int32)), .val (.int a0_), .val (.int a1_), .val (.int b0_), .val (.int b1_), .val (.ref r1), .val (.ref r2), .val (.ref b6), .val (.ref b20), .val (.int (0 : Int32))]) rfl) ?_
              show Go p e below T31 (mkF m 145 #[.val (.int a), .val (.int b), .val (.int k), .val (.int la), .val (.int lb), .val (.int (0 : Int32)), .val (.int a0_), .val (.int a1_), .val (.int b0_), .val (.int b1_), .val (.ref r1), .val (.ref r2), .val (.ref b6), .val (.ref b20), .val (.int (0 : Int32))] []) _
              refine stp (fun _ => XS.goto X31.here hx rfl (pc0 := 145) (pc' := 193) rfl (hb hby at_145) (by decide) (by decide)) ?_
              show Go p e below T31 (mkF m 193 #[.val (.int a), .val (.int b), .val (.int k), .val (.int la), .val (.int lb), .val (.int (0 : Int32)), .val (.int a0_), .val (.int a1_), .val (.int b0_), .val (.int b1_), .val (.ref r1), .val (.ref r2), .val (.ref b6), .val (.ref b20), .val (.int (0 : Int32))] []) _
              refine stp (fun _ => XS.aload X31.here hx rfl (hb hby at_193) rfl rfl) ?_
              show Go p e below T31 (mkF m 195 #[.val (.int a), .val (.int b), .val (.int k), .val (.int la), .val (.int lb), .val (.int (0 : Int32)), .val (.int a0_), .val (.int a1_), .val (.int b0_), .val (.int b1_), .val (.ref r1), .val (.ref r2), .val (.ref b6), .val (.ref b20), .val (.int (0 : Int32))] [(.ref b6)]) _
              refine stp (fun _ => XS.aload X31.here hx rfl (hb hby at_195) rfl rfl) ?_
              show Go p e below T31 (mkF m 197 #[.val (.int a), .val (.int b), .val (.int k), .val (.int la), .val (.int lb), .val (.int (0 : Int32)), .val (.int a0_), .val (.int a1_), .val (.int b0_), .val (.int b1_), .val (.ref r1), .val (.ref r2), .val (.ref b6), .val (.ref b20), .val (.int (0 : Int32))] [(.ref b20), (.ref b6)]) _
              obtain ⟨cq51, kq51, q51a, q51b, q51c⟩ := isOf hZ rfl f36
              obtain ⟨_, _, ⟨T51, L51, k51, n51⟩, -, X51, ⟨Lc51, hQ51, l51, y51, z51⟩, st51⟩ := X31.virtualBack hx (y := (⟨"com/example/revlint/revlint/model/GenericType$TypeVariable", "equals", "(Ljava/lang/Object;)Z"⟩ : MethodName)) (z := (⟨"com/example/revlint/revlint/model/GenericType$TypeVariable", "equals", "(Ljava/lang/Object;)Z"⟩ : MethodName)) hown (mvT hZ (hw _ (List.mem_of_getElem? (i := 56) rfl))) (mvT hZ (hw _ (List.mem_of_getElem? (i := 57) rfl))) (notFace_of_selects (args := #[]) (mvT hZ (hw _ (List.mem_of_getElem? (i := 59) rfl)))) (mvT hZ (hw _ (List.mem_of_getElem? (i := 59) rfl))) (mvT hZ (hw _ (List.mem_of_getElem? (i := 58) rfl))) (by decide) (backOf (W := 0) (rm_eqt l Z a0 hw [] b6 b20 r1 r2 (own_cs la a0_ a1_) (own_cs lb b0_ b1_) cz T31.heap n0 O31 r31_0 f37 r31_1 f32 f34 S_CS hcz) hZ (hw _ (List.mem_of_getElem? (i := 60) rfl)) (hw _ (List.mem_of_getElem? (i := 39) rfl)) (by decide) (by decide)) q51a q51c (g := (mkF m 197 #[.val (.int a), .val (.int b), .val (.int k), .val (.int la), .val (.int lb), .val (.int (0 : Int32)), .val (.int a0_), .val (.int a1_), .val (.int b0_), .val (.int b1_), .val (.ref r1), .val (.ref r2), .val (.ref b6), .val (.ref b20), .val (.int (0 : Int32))] [(.ref b20), (.ref b6)])) rfl (by rw [hml]; rfl) (Steps.refl _) (argsL := [(.ref b20)]) (rest := []) (lenOf pd_4 rfl) rfl (by show 2 * 0 + _ ≤ _; exact Nat.le_of_eq rfl) (hb hby at_197) (fun _ _ => ⟨rfl, rfl, (by decide : 14 + 0 ≤ _), (by decide : 58 + 0 ≤ _)⟩)
              dsimp only [Pt.U, Pt.locs, Pt.cells, Pt.slots] at X51 l51 y51 z51 st51 hQ51
              subst y51 z51
              obtain ⟨rfl, N51q, e51⟩ := hQ51
              have N51 : Fr n0 L51 := by rw [l51]; exact Fr.app N31 N51q
              refine stt st51 ?_
              show Go p e below T51 (mkF m 200 #[.val (.int a), .val (.int b), .val (.int k), .val (.int la), .val (.int lb), .val (.int (0 : Int32)), .val (.int a0_), .val (.int a1_), .val (.int b0_), .val (.int b1_), .val (.ref r1), .val (.ref r2), .val (.ref b6), .val (.ref b20), .val (.int (0 : Int32))] [(.int (if (own_cs la a0_ a1_) = (own_cs lb b0_ b1_) then (1 : Int32) else (0 : Int32)))]) _
              refine stp (fun _ => XS.iload X51.here hx rfl (hb hby at_200) rfl) ?_
              show Go p e below T51 (mkF m 202 #[.val (.int a), .val (.int b), .val (.int k), .val (.int la), .val (.int lb), .val (.int (0 : Int32)), .val (.int a0_), .val (.int a1_), .val (.int b0_), .val (.int b1_), .val (.ref r1), .val (.ref r2), .val (.ref b6), .val (.ref b20), .val (.int (0 : Int32))] [(.int (0 : Int32)), (.int (if (own_cs la a0_ a1_) = (own_cs lb b0_ b1_) then (1 : Int32) else (0 : Int32)))]) _
              refine stp (fun _ => XS.icmpNo X51.here hx rfl (hb hby at_202) rfl (XT.ii_ne_f (own_eq_TFTFF hla hlb q111_39 q116_40 q123_46 q128_47 q135_49))) ?_
              show Go p e below T51 (mkF m 205 #[.val (.int a), .val (.int b), .val (.int k), .val (.int la), .val (.int lb), .val (.int (0 : Int32)), .val (.int a0_), .val (.int a1_), .val (.int b0_), .val (.int b1_), .val (.ref r1), .val (.ref r2), .val (.ref b6), .val (.ref b20), .val (.int (0 : Int32))] []) _
              refine stp (fun _ => XS.iconst X51.here hx rfl (hb hby at_205)) ?_
              show Go p e below T51 (mkF m 206 #[.val (.int a), .val (.int b), .val (.int k), .val (.int la), .val (.int lb), .val (.int (0 : Int32)), .val (.int a0_), .val (.int a1_), .val (.int b0_), .val (.int b1_), .val (.ref r1), .val (.ref r2), .val (.ref b6), .val (.ref b20), .val (.int (0 : Int32))] [(.int (1 : Int32))]) _
              refine stp (fun _ => XS.goto X51.here hx rfl (pc0 := 206) (pc' := 210) rfl (hb hby at_206) (by decide) (by decide)) ?_
              show Go p e below T51 (mkF m 210 #[.val (.int a), .val (.int b), .val (.int k), .val (.int la), .val (.int lb), .val (.int (0 : Int32)), .val (.int a0_), .val (.int a1_), .val (.int b0_), .val (.int b1_), .val (.ref r1), .val (.ref r2), .val (.ref b6), .val (.ref b20), .val (.int (0 : Int32))] [(.int (1 : Int32))]) _
              refine outNW X51 hx hZ hEL e51 hS hk CR (t := .boolean) hret (by simp) (hb hby at_210) hlk (by decide) (by decide) ?_
              exact ⟨rfl, N51⟩
        · refine stp (fun _ => XS.icmpYes X31.here hx rfl (pc0 := 123) (pc' := 142) rfl (hb hby at_123) rfl (XT.ii_ne_t q123_46) (by decide) (by decide)) ?_
          show Go p e below T31 (mkF m 142 #[.val (.int a), .val (.int b), .val (.int k), .val (.int la), .val (.int lb), .val (.int (0 : Int32)), .val (.int a0_), .val (.int a1_), .val (.int b0_), .val (.int b1_), .val (.ref r1), .val (.ref r2), .val (.ref b6), .val (.ref b20), .unset] []) _
          refine stp (fun _ => XS.iconst X31.here hx rfl (hb hby at_142)) ?_
          show Go p e below T31 (mkF m 143 #[.val (.int a), .val (.int b), .val (.int k), .val (.int la), .val (.int lb), .val (.int (0 : Int32)), .val (.int a0_), .val (.int a1_), .val (.int b0_), .val (.int b1_), .val (.ref r1), .val (.ref r2), .val (.ref b6), .val (.ref b20), .unset] [(.int (0 : Int32))]) _
          refine stp (fun _ => XS.istore X31.here hx rfl (hb hby at_143) rfl (l' := #[.val (.int a), .val (.int b), .val (.int k), .val (.int la), .val (.int lb), .val (.int (0 : Int32)), .val (.int a0_), .val (.int a1_), .val (.int b0_), .val (.int b1_), .val (.ref r1), .val (.ref r2), .val (.ref b6), .val (.ref b20), .val (.int (0 : Int32))]) rfl) ?_
          show Go p e below T31 (mkF m 145 #[.val (.int a), .val (.int b), .val (.int k), .val (.int la), .val (.int lb), .val (.int (0 : Int32)), .val (.int a0_), .val (.int a1_), .val (.int b0_), .val (.int b1_), .val (.ref r1), .val (.ref r2), .val (.ref b6), .val (.ref b20), .val (.int (0 : Int32))] []) _
          refine stp (fun _ => XS.goto X31.here hx rfl (pc0 := 145) (pc' := 193) rfl (hb hby at_145) (by decide) (by decide)) ?_
          show Go p e below T31 (mkF m 193 #[.val (.int a), .val (.int b), .val (.int k), .val (.int la), .val (.int lb), .val (.int (0 : Int32)), .val (.int a0_), .val (.int a1_), .val (.int b0_), .val (.int b1_), .val (.ref r1), .val (.ref r2), .val (.ref b6), .val (.ref b20), .val (.int (0 : Int32))] []) _
          refine stp (fun _ => XS.aload X31.here hx rfl (hb hby at_193) rfl rfl) ?_
          show Go p e below T31 (mkF m 195 #[.val (.int a), .val (.int b), .val (.int k), .val (.int la), .val (.int lb), .val (.int (0 : Int32)), .val (.int a0_), .val (.int a1_), .val (.int b0_), .val (.int b1_), .val (.ref r1), .val (.ref r2), .val (.ref b6), .val (.ref b20), .val (.int (0 : Int32))] [(.ref b6)]) _
          refine stp (fun _ => XS.aload X31.here hx rfl (hb hby at_195) rfl rfl) ?_
          show Go p e below T31 (mkF m 197 #[.val (.int a), .val (.int b), .val (.int k), .val (.int la), .val (.int lb), .val (.int (0 : Int32)), .val (.int a0_), .val (.int a1_), .val (.int b0_), .val (.int b1_), .val (.ref r1), .val (.ref r2), .val (.ref b6), .val (.ref b20), .val (.int (0 : Int32))] [(.ref b20), (.ref b6)]) _
          obtain ⟨cq52, kq52, q52a, q52b, q52c⟩ := isOf hZ rfl f36
          obtain ⟨_, _, ⟨T52, L52, k52, n52⟩, -, X52, ⟨Lc52, hQ52, l52, y52, z52⟩, st52⟩ := X31.virtualBack hx (y := (⟨"com/example/revlint/revlint/model/GenericType$TypeVariable", "equals", "(Ljava/lang/Object;)Z"⟩ : MethodName)) (z := (⟨"com/example/revlint/revlint/model/GenericType$TypeVariable", "equals", "(Ljava/lang/Object;)Z"⟩ : MethodName)) hown (mvT hZ (hw _ (List.mem_of_getElem? (i := 56) rfl))) (mvT hZ (hw _ (List.mem_of_getElem? (i := 57) rfl))) (notFace_of_selects (args := #[]) (mvT hZ (hw _ (List.mem_of_getElem? (i := 59) rfl)))) (mvT hZ (hw _ (List.mem_of_getElem? (i := 59) rfl))) (mvT hZ (hw _ (List.mem_of_getElem? (i := 58) rfl))) (by decide) (backOf (W := 0) (rm_eqt l Z a0 hw [] b6 b20 r1 r2 (own_cs la a0_ a1_) (own_cs lb b0_ b1_) cz T31.heap n0 O31 r31_0 f37 r31_1 f32 f34 S_CS hcz) hZ (hw _ (List.mem_of_getElem? (i := 60) rfl)) (hw _ (List.mem_of_getElem? (i := 39) rfl)) (by decide) (by decide)) q52a q52c (g := (mkF m 197 #[.val (.int a), .val (.int b), .val (.int k), .val (.int la), .val (.int lb), .val (.int (0 : Int32)), .val (.int a0_), .val (.int a1_), .val (.int b0_), .val (.int b1_), .val (.ref r1), .val (.ref r2), .val (.ref b6), .val (.ref b20), .val (.int (0 : Int32))] [(.ref b20), (.ref b6)])) rfl (by rw [hml]; rfl) (Steps.refl _) (argsL := [(.ref b20)]) (rest := []) (lenOf pd_4 rfl) rfl (by show 2 * 0 + _ ≤ _; exact Nat.le_of_eq rfl) (hb hby at_197) (fun _ _ => ⟨rfl, rfl, (by decide : 14 + 0 ≤ _), (by decide : 58 + 0 ≤ _)⟩)
          dsimp only [Pt.U, Pt.locs, Pt.cells, Pt.slots] at X52 l52 y52 z52 st52 hQ52
          subst y52 z52
          obtain ⟨rfl, N52q, e52⟩ := hQ52
          have N52 : Fr n0 L52 := by rw [l52]; exact Fr.app N31 N52q
          refine stt st52 ?_
          show Go p e below T52 (mkF m 200 #[.val (.int a), .val (.int b), .val (.int k), .val (.int la), .val (.int lb), .val (.int (0 : Int32)), .val (.int a0_), .val (.int a1_), .val (.int b0_), .val (.int b1_), .val (.ref r1), .val (.ref r2), .val (.ref b6), .val (.ref b20), .val (.int (0 : Int32))] [(.int (if (own_cs la a0_ a1_) = (own_cs lb b0_ b1_) then (1 : Int32) else (0 : Int32)))]) _
          refine stp (fun _ => XS.iload X52.here hx rfl (hb hby at_200) rfl) ?_
          show Go p e below T52 (mkF m 202 #[.val (.int a), .val (.int b), .val (.int k), .val (.int la), .val (.int lb), .val (.int (0 : Int32)), .val (.int a0_), .val (.int a1_), .val (.int b0_), .val (.int b1_), .val (.ref r1), .val (.ref r2), .val (.ref b6), .val (.ref b20), .val (.int (0 : Int32))] [(.int (0 : Int32)), (.int (if (own_cs la a0_ a1_) = (own_cs lb b0_ b1_) then (1 : Int32) else (0 : Int32)))]) _
          refine stp (fun _ => XS.icmpNo X52.here hx rfl (hb hby at_202) rfl (XT.ii_ne_f (own_eq_TFF hla hlb q111_39 q116_40 q123_46))) ?_
          show Go p e below T52 (mkF m 205 #[.val (.int a), .val (.int b), .val (.int k), .val (.int la), .val (.int lb), .val (.int (0 : Int32)), .val (.int a0_), .val (.int a1_), .val (.int b0_), .val (.int b1_), .val (.ref r1), .val (.ref r2), .val (.ref b6), .val (.ref b20), .val (.int (0 : Int32))] []) _
          refine stp (fun _ => XS.iconst X52.here hx rfl (hb hby at_205)) ?_
          show Go p e below T52 (mkF m 206 #[.val (.int a), .val (.int b), .val (.int k), .val (.int la), .val (.int lb), .val (.int (0 : Int32)), .val (.int a0_), .val (.int a1_), .val (.int b0_), .val (.int b1_), .val (.ref r1), .val (.ref r2), .val (.ref b6), .val (.ref b20), .val (.int (0 : Int32))] [(.int (1 : Int32))]) _
          refine stp (fun _ => XS.goto X52.here hx rfl (pc0 := 206) (pc' := 210) rfl (hb hby at_206) (by decide) (by decide)) ?_
          show Go p e below T52 (mkF m 210 #[.val (.int a), .val (.int b), .val (.int k), .val (.int la), .val (.int lb), .val (.int (0 : Int32)), .val (.int a0_), .val (.int a1_), .val (.int b0_), .val (.int b1_), .val (.ref r1), .val (.ref r2), .val (.ref b6), .val (.ref b20), .val (.int (0 : Int32))] [(.int (1 : Int32))]) _
          refine outNW X52 hx hZ hEL e52 hS hk CR (t := .boolean) hret (by simp) (hb hby at_210) hlk (by decide) (by decide) ?_
          exact ⟨rfl, N52⟩
    · refine stp (fun _ => XS.icmpYes X31.here hx rfl (pc0 := 111) (pc' := 142) rfl (hb hby at_111) rfl (XT.ii_ne_t q111_39) (by decide) (by decide)) ?_
      show Go p e below T31 (mkF m 142 #[.val (.int a), .val (.int b), .val (.int k), .val (.int la), .val (.int lb), .val (.int (0 : Int32)), .val (.int a0_), .val (.int a1_), .val (.int b0_), .val (.int b1_), .val (.ref r1), .val (.ref r2), .val (.ref b6), .val (.ref b20), .unset] []) _
      refine stp (fun _ => XS.iconst X31.here hx rfl (hb hby at_142)) ?_
      show Go p e below T31 (mkF m 143 #[.val (.int a), .val (.int b), .val (.int k), .val (.int la), .val (.int lb), .val (.int (0 : Int32)), .val (.int a0_), .val (.int a1_), .val (.int b0_), .val (.int b1_), .val (.ref r1), .val (.ref r2), .val (.ref b6), .val (.ref b20), .unset] [(.int (0 : Int32))]) _
      refine stp (fun _ => XS.istore X31.here hx rfl (hb hby at_143) rfl (l' := #[.val (.int a), .val (.int b), .val (.int k), .val (.int la), .val (.int lb), .val (.int (0 : Int32)), .val (.int a0_), .val (.int a1_), .val (.int b0_), .val (.int b1_), .val (.ref r1), .val (.ref r2), .val (.ref b6), .val (.ref b20), .val (.int (0 : Int32))]) rfl) ?_
      show Go p e below T31 (mkF m 145 #[.val (.int a), .val (.int b), .val (.int k), .val (.int la), .val (.int lb), .val (.int (0 : Int32)), .val (.int a0_), .val (.int a1_), .val (.int b0_), .val (.int b1_), .val (.ref r1), .val (.ref r2), .val (.ref b6), .val (.ref b20), .val (.int (0 : Int32))] []) _
      refine stp (fun _ => XS.goto X31.here hx rfl (pc0 := 145) (pc' := 193) rfl (hb hby at_145) (by decide) (by decide)) ?_
      show Go p e below T31 (mkF m 193 #[.val (.int a), .val (.int b), .val (.int k), .val (.int la), .val (.int lb), .val (.int (0 : Int32)), .val (.int a0_), .val (.int a1_), .val (.int b0_), .val (.int b1_), .val (.ref r1), .val (.ref r2), .val (.ref b6), .val (.ref b20), .val (.int (0 : Int32))] []) _
      refine stp (fun _ => XS.aload X31.here hx rfl (hb hby at_193) rfl rfl) ?_
      show Go p e below T31 (mkF m 195 #[.val (.int a), .val (.int b), .val (.int k), .val (.int la), .val (.int lb), .val (.int (0 : Int32)), .val (.int a0_), .val (.int a1_), .val (.int b0_), .val (.int b1_), .val (.ref r1), .val (.ref r2), .val (.ref b6), .val (.ref b20), .val (.int (0 : Int32))] [(.ref b6)]) _
      refine stp (fun _ => XS.aload X31.here hx rfl (hb hby at_195) rfl rfl) ?_
      show Go p e below T31 (mkF m 197 #[.val (.int a), .val (.int b), .val (.int k), .val (.int la), .val (.int lb), .val (.int (0 : Int32)), .val (.int a0_), .val (.int a1_), .val (.int b0_), .val (.int b1_), .val (.ref r1), .val (.ref r2), .val (.ref b6), .val (.ref b20), .val (.int (0 : Int32))] [(.ref b20), (.ref b6)]) _
      obtain ⟨cq53, kq53, q53a, q53b, q53c⟩ := isOf hZ rfl f36
      obtain ⟨_, _, ⟨T53, L53, k53, n53⟩, -, X53, ⟨Lc53, hQ53, l53, y53, z53⟩, st53⟩ := X31.virtualBack hx (y := (⟨"com/example/revlint/revlint/model/GenericType$TypeVariable", "equals", "(Ljava/lang/Object;)Z"⟩ : MethodName)) (z := (⟨"com/example/revlint/revlint/model/GenericType$TypeVariable", "equals", "(Ljava/lang/Object;)Z"⟩ : MethodName)) hown (mvT hZ (hw _ (List.mem_of_getElem? (i := 56) rfl))) (mvT hZ (hw _ (List.mem_of_getElem? (i := 57) rfl))) (notFace_of_selects (args := #[]) (mvT hZ (hw _ (List.mem_of_getElem? (i := 59) rfl)))) (mvT hZ (hw _ (List.mem_of_getElem? (i := 59) rfl))) (mvT hZ (hw _ (List.mem_of_getElem? (i := 58) rfl))) (by decide) (backOf (W := 0) (rm_eqt l Z a0 hw [] b6 b20 r1 r2 (own_cs la a0_ a1_) (own_cs lb b0_ b1_) cz T31.heap n0 O31 r31_0 f37 r31_1 f32 f34 S_CS hcz) hZ (hw _ (List.mem_of_getElem? (i := 60) rfl)) (hw _ (List.mem_of_getElem? (i := 39) rfl)) (by decide) (by decide)) q53a q53c (g := (mkF m 197 #[.val (.int a), .val (.int b), .val (.int k), .val (.int la), .val (.int lb), .val (.int (0 : Int32)), .val (.int a0_), .val (.int a1_), .val (.int b0_), .val (.int b1_), .val (.ref r1), .val (.ref r2), .val (.ref b6), .val (.ref b20), .val (.int (0 : Int32))] [(.ref b20), (.ref b6)])) rfl (by rw [hml]; rfl) (Steps.refl _) (argsL := [(.ref b20)]) (rest := []) (lenOf pd_4 rfl) rfl (by show 2 * 0 + _ ≤ _; exact Nat.le_of_eq rfl) (hb hby at_197) (fun _ _ => ⟨rfl, rfl, (by decide : 14 + 0 ≤ _), (by decide : 58 + 0 ≤ _)⟩)
      dsimp only [Pt.U, Pt.locs, Pt.cells, Pt.slots] at X53 l53 y53 z53 st53 hQ53
      subst y53 z53
      obtain ⟨rfl, N53q, e53⟩ := hQ53
      have N53 : Fr n0 L53 := by rw [l53]; exact Fr.app N31 N53q
      refine stt st53 ?_
      show Go p e below T53 (mkF m 200 #[.val (.int a), .val (.int b), .val (.int k), .val (.int la), .val (.int lb), .val (.int (0 : Int32)), .val (.int a0_), .val (.int a1_), .val (.int b0_), .val (.int b1_), .val (.ref r1), .val (.ref r2), .val (.ref b6), .val (.ref b20), .val (.int (0 : Int32))] [(.int (if (own_cs la a0_ a1_) = (own_cs lb b0_ b1_) then (1 : Int32) else (0 : Int32)))]) _
      refine stp (fun _ => XS.iload X53.here hx rfl (hb hby at_200) rfl) ?_
      show Go p e below T53 (mkF m 202 #[.val (.int a), .val (.int b), .val (.int k), .val (.int la), .val (.int lb), .val (.int (0 : Int32)), .val (.int a0_), .val (.int a1_), .val (.int b0_), .val (.int b1_), .val (.ref r1), .val (.ref r2), .val (.ref b6), .val (.ref b20), .val (.int (0 : Int32))] [(.int (0 : Int32)), (.int (if (own_cs la a0_ a1_) = (own_cs lb b0_ b1_) then (1 : Int32) else (0 : Int32)))]) _
      refine stp (fun _ => XS.icmpNo X53.here hx rfl (hb hby at_202) rfl (XT.ii_ne_f (own_eq_F hla hlb q111_39))) ?_
      show Go p e below T53 (mkF m 205 #[.val (.int a), .val (.int b), .val (.int k), .val (.int la), .val (.int lb), .val (.int (0 : Int32)), .val (.int a0_), .val (.int a1_), .val (.int b0_), .val (.int b1_), .val (.ref r1), .val (.ref r2), .val (.ref b6), .val (.ref b20), .val (.int (0 : Int32))] []) _
      refine stp (fun _ => XS.iconst X53.here hx rfl (hb hby at_205)) ?_
      show Go p e below T53 (mkF m 206 #[.val (.int a), .val (.int b), .val (.int k), .val (.int la), .val (.int lb), .val (.int (0 : Int32)), .val (.int a0_), .val (.int a1_), .val (.int b0_), .val (.int b1_), .val (.ref r1), .val (.ref r2), .val (.ref b6), .val (.ref b20), .val (.int (0 : Int32))] [(.int (1 : Int32))]) _
      refine stp (fun _ => XS.goto X53.here hx rfl (pc0 := 206) (pc' := 210) rfl (hb hby at_206) (by decide) (by decide)) ?_
      show Go p e below T53 (mkF m 210 #[.val (.int a), .val (.int b), .val (.int k), .val (.int la), .val (.int lb), .val (.int (0 : Int32)), .val (.int a0_), .val (.int a1_), .val (.int b0_), .val (.int b1_), .val (.ref r1), .val (.ref r2), .val (.ref b6), .val (.ref b20), .val (.int (0 : Int32))] [(.int (1 : Int32))]) _
      refine outNW X53 hx hZ hEL e53 hS hk CR (t := .boolean) hret (by simp) (hb hby at_210) hlk (by decide) (by decide) ?_
      exact ⟨rfl, N53⟩
  · show Go p e below T14 (mkF m 92 #[.val (.int a), .val (.int b), .val (.int k), .val (.int la), .val (.int lb), .val (.int (1 : Int32)), .val (.int a0_), .val (.int a1_), .val (.int b0_), .val (.int b1_), .val (.ref r1), .val (.ref r2), .val (.ref b6), .unset, .unset] []) _
    refine stp (fun _ => XS.iload X14.here hx rfl (hb hby at_92) rfl) ?_
    show Go p e below T14 (mkF m 94 #[.val (.int a), .val (.int b), .val (.int k), .val (.int la), .val (.int lb), .val (.int (1 : Int32)), .val (.int a0_), .val (.int a1_), .val (.int b0_), .val (.int b1_), .val (.ref r1), .val (.ref r2), .val (.ref b6), .unset, .unset] [(.int (1 : Int32))]) _
    refine stp (fun _ => XS.ifYes X14.here hx rfl (pc0 := 94) (pc' := 148) rfl (hb hby at_94) rfl (by decide) (by decide) (by decide)) ?_
    show Go p e below T14 (mkF m 148 #[.val (.int a), .val (.int b), .val (.int k), .val (.int la), .val (.int lb), .val (.int (1 : Int32)), .val (.int a0_), .val (.int a1_), .val (.int b0_), .val (.int b1_), .val (.ref r1), .val (.ref r2), .val (.ref b6), .unset, .unset] []) _
    refine stp (fun _ => XS.iload X14.here hx rfl (hb hby at_148) rfl) ?_
    show Go p e below T14 (mkF m 150 #[.val (.int a), .val (.int b), .val (.int k), .val (.int la), .val (.int lb), .val (.int (1 : Int32)), .val (.int a0_), .val (.int a1_), .val (.int b0_), .val (.int b1_), .val (.ref r1), .val (.ref r2), .val (.ref b6), .unset, .unset] [(.int (1 : Int32))]) _
    refine stp (fun _ => XS.iconst X14.here hx rfl (hb hby at_150)) ?_
    show Go p e below T14 (mkF m 151 #[.val (.int a), .val (.int b), .val (.int k), .val (.int la), .val (.int lb), .val (.int (1 : Int32)), .val (.int a0_), .val (.int a1_), .val (.int b0_), .val (.int b1_), .val (.ref r1), .val (.ref r2), .val (.ref b6), .unset, .unset] [(.int (1 : Int32)), (.int (1 : Int32))]) _
    refine stp (fun _ => XS.icmpNo X14.here hx rfl (hb hby at_151) rfl (by decide)) ?_
    show Go p e below T14 (mkF m 154 #[.val (.int a), .val (.int b), .val (.int k), .val (.int la), .val (.int lb), .val (.int (1 : Int32)), .val (.int a0_), .val (.int a1_), .val (.int b0_), .val (.int b1_), .val (.ref r1), .val (.ref r2), .val (.ref b6), .unset, .unset] []) _
    obtain ⟨T54, h54, X54, e54, E54, A54, D54, -, st54⟩ := newO X14 hx hZ hown (hw _ (List.mem_of_getElem? (i := 75) rfl)) (hw _ (List.mem_of_getElem? (i := 76) rfl)) (hw _ (List.mem_of_getElem? (i := 77) rfl)) rfl (g := (mkF m 154 #[.val (.int a), .val (.int b), .val (.int k), .val (.int la), .val (.int lb), .val (.int (1 : Int32)), .val (.int a0_), .val (.int a1_), .val (.int b0_), .val (.int b1_), .val (.ref r1), .val (.ref r2), .val (.ref b6), .unset, .unset] [])) rfl (hb hby at_154) (by decide) (by decide)
    obtain ⟨b54, g54⟩ : ∃ z, z = T14.heap.size := ⟨_, rfl⟩
    rw [← g54] at A54 D54 st54
    have ne55 : b6 ≠ b54 := Nat.ne_of_lt (Nat.lt_of_lt_of_le r14_0.lt (Nat.le_of_eq g54.symm))
    have ne56 : r1 ≠ b54 := Nat.ne_of_lt (Nat.lt_of_lt_of_le f15.lt (Nat.le_of_eq g54.symm))
    have ne57 : r2 ≠ b54 := Nat.ne_of_lt (Nat.lt_of_lt_of_le f17.lt (Nat.le_of_eq g54.symm))
    have sz_b54 : h0.size ≤ b54 := Nat.le_trans K14.1 (Nat.le_of_eq g54.symm)
    have ge_b54 : n0 ≤ b54 := Nat.le_trans (old_le O14) (Nat.le_of_eq g54.symm)
    have f58 := f15.ext E54
    have f59 := f16.ext E54
    have f60 := f17.ext E54
    have f61 := f18.ext E54
    have f62 := r14_0.ext E54
    have f63 := r14_1.ext E54
    have hk := Nat.le_trans hk E54.1
    have CR := CR.trans (CHr.ext E54 CR.1)
    have K54 : Keep h0 h54 [] := K14.ext E54
    have O54 := O14.ext E54
    have F64 : Fld Z h54 b54 "com/example/revlint/revlint/model/GenericType$Primitive" "name" "Ljava/lang/String;" .null := D54 (Or.inr (hw _ (List.mem_of_getElem? (i := 85) rfl))) (ty := (.object "java/lang/String")) (by decide)
    refine stp st54 ?_
    show Go p e below T54 (mkF m 157 #[.val (.int a), .val (.int b), .val (.int k), .val (.int la), .val (.int lb), .val (.int (1 : Int32)), .val (.int a0_), .val (.int a1_), .val (.int b0_), .val (.int b1_), .val (.ref r1), .val (.ref r2), .val (.ref b6), .unset, .unset] [(.ref b54)]) _
    refine stp (fun _ => XS.dup X54.here hx rfl (hb hby at_157) rfl rfl) ?_
    show Go p e below T54 (mkF m 158 #[.val (.int a), .val (.int b), .val (.int k), .val (.int la), .val (.int lb), .val (.int (1 : Int32)), .val (.int a0_), .val (.int a1_), .val (.int b0_), .val (.int b1_), .val (.ref r1), .val (.ref r2), .val (.ref b6), .unset, .unset] [(.ref b54), (.ref b54)]) _
    refine stp (fun _ => XS.aload X54.here hx rfl (hb hby at_158) rfl rfl) ?_
    show Go p e below T54 (mkF m 160 #[.val (.int a), .val (.int b), .val (.int k), .val (.int la), .val (.int lb), .val (.int (1 : Int32)), .val (.int a0_), .val (.int a1_), .val (.int b0_), .val (.int b1_), .val (.ref r1), .val (.ref r2), .val (.ref b6), .unset, .unset] [(.ref r2), (.ref b54), (.ref b54)]) _
    obtain ⟨_, _, ⟨T65, L65, k65, n65⟩, -, X65, hS65, gg65, ⟨Lc65, hQ65, l65, y65, z65, CRn65⟩, st65⟩ := X54.specialBackS hx (y := (⟨"com/example/revlint/revlint/model/GenericType$Primitive", "<init>", "(Ljava/lang/String;)V"⟩ : MethodName)) rfl hown (mvT hZ (hw _ (List.mem_of_getElem? (i := 78) rfl))) (mvT hZ (hw _ (List.mem_of_getElem? (i := 79) rfl))) (mvT hZ (hw _ (List.mem_of_getElem? (i := 80) rfl))) (by decide) (backOfSH (W := 1) (rm_pv l Z a0 hw [] b54 r2  h54 n0 O54 hEL A54 F64 ge_b54) hZ (hw _ (List.mem_of_getElem? (i := 80) rfl)) (hw _ (List.mem_of_getElem? (i := 77) rfl)) (by decide) (by decide) hEL CR.1) (g := (mkF m 160 #[.val (.int a), .val (.int b), .val (.int k), .val (.int la), .val (.int lb), .val (.int (1 : Int32)), .val (.int a0_), .val (.int a1_), .val (.int b0_), .val (.int b1_), .val (.ref r1), .val (.ref r2), .val (.ref b6), .unset, .unset] [(.ref r2), (.ref b54), (.ref b54)])) rfl (by rw [hml]; rfl) (Steps.refl _) (a := b54) (argsL := [(.ref r2)]) (rest := [(.ref b54)]) (lenOf pd_6 rfl) rfl (by show 2 * 0 + _ ≤ _; exact Nat.le_of_eq rfl) (hb hby at_160) (fun _ _ => ⟨rfl, e54, (by decide : 12 + 2 ≤ _), (by decide : 38 + 20 ≤ _)⟩)
    dsimp only [Pt.U, Pt.locs, Pt.cells, Pt.slots] at X65 hS65 gg65 l65 y65 z65 st65 hQ65 CRn65
    subst y65 z65
    obtain ⟨X65, hS, hZ, hown⟩ := rebS hS (by rw [e54]; exact hk) X65 hS65 gg65 hZ hown
    obtain ⟨rfl, N65q, K65q, r65_0, r65_1⟩ := hQ65
    have N65 : Fr n0 L65 := by rw [l65]; exact Fr.app N14 N65q
    have f66 := f58.keep K65q (ninS ne56 nin0) (apartS (Apart.exa A54 (hw _ (List.mem_of_getElem? (i := 76) rfl))) apart0)
    have f67 := f59.keep K65q
    have f68 := f60.keep K65q (ninS ne57 nin0) (apartS (Apart.exa A54 (hw _ (List.mem_of_getElem? (i := 76) rfl))) apart0)
    have f69 := f61.keep K65q
    have f70 := f62.keep K65q
    have f71 := f63.keep K65q (ninS ne55 nin0)
    have f72 := A54.keep K65q
    have K65 : Keep h0 T65.heap [] := K54.trans K65q (allS (Or.inr sz_b54) all0)
    have O65 := O54.keep K65q (allS ge_b54 all0)
    have hk : T65.heap.size ≤ T65.heap.size := Nat.le_refl _
    have CR := CR.trans CRn65
    refine stt st65 ?_
    show Go p e below T65 (mkF m 163 #[.val (.int a), .val (.int b), .val (.int k), .val (.int la), .val (.int lb), .val (.int (1 : Int32)), .val (.int a0_), .val (.int a1_), .val (.int b0_), .val (.int b1_), .val (.ref r1), .val (.ref r2), .val (.ref b6), .unset, .unset] [(.ref b54)]) _
    refine stp (fun _ => XS.astore X65.here hx rfl (hb hby at_163) rfl rfl (l' := #[.val (.int a), .val (.int b), .val (.int k), .val (.int la), .val (.int lb), .val (.int (1 : Int32)), .val (.int a0_), .val (.int a1_), .val (.int b0_), .val (.int b1_), .val (.ref r1), .val (.ref r2), .val (.ref b6), .val (.ref b54), .unset]) rfl) ?_
    show Go p e below T65 (mkF m 165 #[.val (.int a), .val (.int b), .val (.int k), .val (.int la), .val (.int lb), .val (.int (1 : Int32)), .val (.int a0_), .val (.int a1_), .val (.int b0_), .val (.int b1_), .val (.ref r1), .val (.ref r2), .val (.ref b6), .val (.ref b54), .unset] []) _
    refine stp (fun _ => XS.iconst X65.here hx rfl (hb hby at_165)) ?_
    show Go p e below T65 (mkF m 166 #[.val (.int a), .val (.int b), .val (.int k), .val (.int la), .val (.int lb), .val (.int (1 : Int32)), .val (.int a0_), .val (.int a1_), .val (.int b0_), .val (.int b1_), .val (.ref r1), .val (.ref r2), .val (.ref b6), .val (.ref b54), .unset] [(.int (0 : Int32))]) _
    refine stp (fun _ => XS.istore X65.here hx rfl (hb hby at_166) rfl (l' := #[.val (.int a), .val (.int b), .val (.int k), .val (.int la), .val (.int lb), .val (.int (1 : Int32)), .val (.int a0_), .val (.int a1_), .val (.int b0_), .val (.int b1_), .val (.ref r1), .val (.ref r2), .val (.ref b6), .val (.ref b54), .val (.int (0 : Int32))]) rfl) ?_
    show Go p e below T65 (mkF m 168 #[.val (.int a), .val (.int b), .val (.int k), .val (.int la), .val (.int lb), .val (.int (1 : Int32)), .val (.int a0_), .val (.int a1_), .val (.int b0_), .val (.int b1_), .val (.ref r1), .val (.ref r2), .val (.ref b6), .val (.ref b54), .val (.int (0 : Int32))] []) _
    refine stp (fun _ => XS.goto X65.here hx rfl (pc0 := 168) (pc' := 193) rfl (hb hby at_168) (by decide) (by decide)) ?_
    show Go p e below T65 (mkF m 193 #[.val (.int a), .val (.int b), .val (.int k), .val (.int la), .val (.int lb), .val (.int (1 : Int32)), .val (.int a0_), .val (.int a1_), .val (.int b0_), .val (.int b1_), .val (.ref r1), .val (.ref r2), .val (.ref b6), .val (.ref b54), .val (.int (0 : Int32))] []) _
    refine stp (fun _ => XS.aload X65.here hx rfl (hb hby at_193) rfl rfl) ?_
    show Go p e below T65 (mkF m 195 #[.val (.int a), .val (.int b), .val (.int k), .val (.int la), .val (.int lb), .val (.int (1 : Int32)), .val (.int a0_), .val (.int a1_), .val (.int b0_), .val (.int b1_), .val (.ref r1), .val (.ref r2), .val (.ref b6), .val (.ref b54), .val (.int (0 : Int32))] [(.ref b6)]) _
    refine stp (fun _ => XS.aload X65.here hx rfl (hb hby at_195) rfl rfl) ?_
    show Go p e below T65 (mkF m 197 #[.val (.int a), .val (.int b), .val (.int k), .val (.int la), .val (.int lb), .val (.int (1 : Int32)), .val (.int a0_), .val (.int a1_), .val (.int b0_), .val (.int b1_), .val (.ref r1), .val (.ref r2), .val (.ref b6), .val (.ref b54), .val (.int (0 : Int32))] [(.ref b54), (.ref b6)]) _
    obtain ⟨cq73, kq73, q73a, q73b, q73c⟩ := isOf hZ rfl f70
    obtain ⟨_, _, ⟨T73, L73, k73, n73⟩, -, X73, ⟨Lc73, hQ73, l73, y73, z73⟩, st73⟩ := X65.virtualBack hx (y := (⟨"com/example/revlint/revlint/model/GenericType$TypeVariable", "equals", "(Ljava/lang/Object;)Z"⟩ : MethodName)) (z := (⟨"com/example/revlint/revlint/model/GenericType$TypeVariable", "equals", "(Ljava/lang/Object;)Z"⟩ : MethodName)) hown (mvT hZ (hw _ (List.mem_of_getElem? (i := 56) rfl))) (mvT hZ (hw _ (List.mem_of_getElem? (i := 57) rfl))) (notFace_of_selects (args := #[]) (mvT hZ (hw _ (List.mem_of_getElem? (i := 59) rfl)))) (mvT hZ (hw _ (List.mem_of_getElem? (i := 59) rfl))) (mvT hZ (hw _ (List.mem_of_getElem? (i := 58) rfl))) (by decide) (backOf (W := 0) (rm_eqp l Z a0 hw [] b6 b54  T65.heap n0 O65 r65_0) hZ (hw _ (List.mem_of_getElem? (i := 60) rfl)) (hw _ (List.mem_of_getElem? (i := 39) rfl)) (by decide) (by decide)) q73a q73c (g := (mkF m 197 #[.val (.int a), .val (.int b), .val (.int k), .val (.int la), .val (.int lb), .val (.int (1 : Int32)), .val (.int a0_), .val (.int a1_), .val (.int b0_), .val (.int b1_), .val (.ref r1), .val (.ref r2), .val (.ref b6), .val (.ref b54), .val (.int (0 : Int32))] [(.ref b54), (.ref b6)])) rfl (by rw [hml]; rfl) (Steps.refl _) (argsL := [(.ref b54)]) (rest := []) (lenOf pd_4 rfl) rfl (by show 2 * 0 + _ ≤ _; exact Nat.le_of_eq rfl) (hb hby at_197) (fun _ _ => ⟨rfl, rfl, (by decide : 14 + 0 ≤ _), (by decide : 58 + 0 ≤ _)⟩)
    dsimp only [Pt.U, Pt.locs, Pt.cells, Pt.slots] at X73 l73 y73 z73 st73 hQ73
    subst y73 z73
    obtain ⟨rfl, N73q, e73⟩ := hQ73
    have N73 : Fr n0 L73 := by rw [l73]; exact Fr.app N65 N73q
    refine stt st73 ?_
    show Go p e below T73 (mkF m 200 #[.val (.int a), .val (.int b), .val (.int k), .val (.int la), .val (.int lb), .val (.int (1 : Int32)), .val (.int a0_), .val (.int a1_), .val (.int b0_), .val (.int b1_), .val (.ref r1), .val (.ref r2), .val (.ref b6), .val (.ref b54), .val (.int (0 : Int32))] [(.int (0 : Int32))]) _
    refine stp (fun _ => XS.iload X73.here hx rfl (hb hby at_200) rfl) ?_
    show Go p e below T73 (mkF m 202 #[.val (.int a), .val (.int b), .val (.int k), .val (.int la), .val (.int lb), .val (.int (1 : Int32)), .val (.int a0_), .val (.int a1_), .val (.int b0_), .val (.int b1_), .val (.ref r1), .val (.ref r2), .val (.ref b6), .val (.ref b54), .val (.int (0 : Int32))] [(.int (0 : Int32)), (.int (0 : Int32))]) _
    refine stp (fun _ => XS.icmpNo X73.here hx rfl (hb hby at_202) rfl (by decide)) ?_
    show Go p e below T73 (mkF m 205 #[.val (.int a), .val (.int b), .val (.int k), .val (.int la), .val (.int lb), .val (.int (1 : Int32)), .val (.int a0_), .val (.int a1_), .val (.int b0_), .val (.int b1_), .val (.ref r1), .val (.ref r2), .val (.ref b6), .val (.ref b54), .val (.int (0 : Int32))] []) _
    refine stp (fun _ => XS.iconst X73.here hx rfl (hb hby at_205)) ?_
    show Go p e below T73 (mkF m 206 #[.val (.int a), .val (.int b), .val (.int k), .val (.int la), .val (.int lb), .val (.int (1 : Int32)), .val (.int a0_), .val (.int a1_), .val (.int b0_), .val (.int b1_), .val (.ref r1), .val (.ref r2), .val (.ref b6), .val (.ref b54), .val (.int (0 : Int32))] [(.int (1 : Int32))]) _
    refine stp (fun _ => XS.goto X73.here hx rfl (pc0 := 206) (pc' := 210) rfl (hb hby at_206) (by decide) (by decide)) ?_
    show Go p e below T73 (mkF m 210 #[.val (.int a), .val (.int b), .val (.int k), .val (.int la), .val (.int lb), .val (.int (1 : Int32)), .val (.int a0_), .val (.int a1_), .val (.int b0_), .val (.int b1_), .val (.ref r1), .val (.ref r2), .val (.ref b6), .val (.ref b54), .val (.int (0 : Int32))] [(.int (1 : Int32))]) _
    refine outNW X73 hx hZ hEL e73 hS hk CR (t := .boolean) hret (by simp) (hb hby at_210) hlk (by decide) (by decide) ?_
    exact ⟨rfl, N73⟩
  · show Go p e below T14 (mkF m 92 #[.val (.int a), .val (.int b), .val (.int k), .val (.int la), .val (.int lb), .val (.int (2 : Int32)), .val (.int a0_), .val (.int a1_), .val (.int b0_), .val (.int b1_), .val (.ref r1), .val (.ref r2), .val (.ref b6), .unset, .unset] []) _
    refine stp (fun _ => XS.iload X14.here hx rfl (hb hby at_92) rfl) ?_
    show Go p e below T14 (mkF m 94 #[.val (.int a), .val (.int b), .val (.int k), .val (.int la), .val (.int lb), .val (.int (2 : Int32)), .val (.int a0_), .val (.int a1_), .val (.int b0_), .val (.int b1_), .val (.ref r1), .val (.ref r2), .val (.ref b6), .unset, .unset] [(.int (2 : Int32))]) _
    refine stp (fun _ => XS.ifYes X14.here hx rfl (pc0 := 94) (pc' := 148) rfl (hb hby at_94) rfl (by decide) (by decide) (by decide)) ?_
    show Go p e below T14 (mkF m 148 #[.val (.int a), .val (.int b), .val (.int k), .val (.int la), .val (.int lb), .val (.int (2 : Int32)), .val (.int a0_), .val (.int a1_), .val (.int b0_), .val (.int b1_), .val (.ref r1), .val (.ref r2), .val (.ref b6), .unset, .unset] []) _
    refine stp (fun _ => XS.iload X14.here hx rfl (hb hby at_148) rfl) ?_
    show Go p e below T14 (mkF m 150 #[.val (.int a), .val (.int b), .val (.int k), .val (.int la), .val (.int lb), .val (.int (2 : Int32)), .val (.int a0_), .val (.int a1_), .val (.int b0_), .val (.int b1_), .val (.ref r1), .val (.ref r2), .val (.ref b6), .unset, .unset] [(.int (2 : Int32))]) _
    refine stp (fun _ => XS.iconst X14.here hx rfl (hb hby at_150)) ?_
    show Go p e below T14 (mkF m 151 #[.val (.int a), .val (.int b), .val (.int k), .val (.int la), .val (.int lb), .val (.int (2 : Int32)), .val (.int a0_), .val (.int a1_), .val (.int b0_), .val (.int b1_), .val (.ref r1), .val (.ref r2), .val (.ref b6), .unset, .unset] [(.int (1 : Int32)), (.int (2 : Int32))]) _
    refine stp (fun _ => XS.icmpYes X14.here hx rfl (pc0 := 151) (pc' := 171) rfl (hb hby at_151) rfl (by decide) (by decide) (by decide)) ?_
    show Go p e below T14 (mkF m 171 #[.val (.int a), .val (.int b), .val (.int k), .val (.int la), .val (.int lb), .val (.int (2 : Int32)), .val (.int a0_), .val (.int a1_), .val (.int b0_), .val (.int b1_), .val (.ref r1), .val (.ref r2), .val (.ref b6), .unset, .unset] []) _
    refine stp (fun _ => XS.iload X14.here hx rfl (hb hby at_171) rfl) ?_
    show Go p e below T14 (mkF m 173 #[.val (.int a), .val (.int b), .val (.int k), .val (.int la), .val (.int lb), .val (.int (2 : Int32)), .val (.int a0_), .val (.int a1_), .val (.int b0_), .val (.int b1_), .val (.ref r1), .val (.ref r2), .val (.ref b6), .unset, .unset] [(.int (2 : Int32))]) _
    refine stp (fun _ => XS.iconst X14.here hx rfl (hb hby at_173)) ?_
    show Go p e below T14 (mkF m 174 #[.val (.int a), .val (.int b), .val (.int k), .val (.int la), .val (.int lb), .val (.int (2 : Int32)), .val (.int a0_), .val (.int a1_), .val (.int b0_), .val (.int b1_), .val (.ref r1), .val (.ref r2), .val (.ref b6), .unset, .unset] [(.int (2 : Int32)), (.int (2 : Int32))]) _
    refine stp (fun _ => XS.icmpNo X14.here hx rfl (hb hby at_174) rfl (by decide)) ?_
    show Go p e below T14 (mkF m 177 #[.val (.int a), .val (.int b), .val (.int k), .val (.int la), .val (.int lb), .val (.int (2 : Int32)), .val (.int a0_), .val (.int a1_), .val (.int b0_), .val (.int b1_), .val (.ref r1), .val (.ref r2), .val (.ref b6), .unset, .unset] []) _
    refine stp (fun _ => XS.aconstNull X14.here hx rfl (hb hby at_177)) ?_
    show Go p e below T14 (mkF m 178 #[.val (.int a), .val (.int b), .val (.int k), .val (.int la), .val (.int lb), .val (.int (2 : Int32)), .val (.int a0_), .val (.int a1_), .val (.int b0_), .val (.int b1_), .val (.ref r1), .val (.ref r2), .val (.ref b6), .unset, .unset] [.null]) _
    refine stp (fun _ => XS.astore X14.here hx rfl (hb hby at_178) rfl rfl (l' := #[.val (.int a), .val (.int b), .val (.int k), .val (.int la), .val (.int lb), .val (.int (2 : Int32)), .val (.int a0_), .val (.int a1_), .val (.int b0_), .val (.int b1_), .val (.ref r1), .val (.ref r2), .val (.ref b6), .val .null, .unset]) rfl) ?_
    show Go p e below T14 (mkF m 180 #[.val (.int a), .val (.int b), .val (.int k), .val (.int la), .val (.int lb), .val (.int (2 : Int32)), .val (.int a0_), .val (.int a1_), .val (.int b0_), .val (.int b1_), .val (.ref r1), .val (.ref r2), .val (.ref b6), .val .null, .unset] []) _
    refine stp (fun _ => XS.iconst X14.here hx rfl (hb hby at_180)) ?_
    show Go p e below T14 (mkF m 181 #[.val (.int a), .val (.int b), .val (.int k), .val (.int la), .val (.int lb), .val (.int (2 : Int32)), .val (.int a0_), .val (.int a1_), .val (.int b0_), .val (.int b1_), .val (.ref r1), .val (.ref r2), .val (.ref b6), .val .null, .unset] [(.int (0 : Int32))]) _
    refine stp (fun _ => XS.istore X14.here hx rfl (hb hby at_181) rfl (l' := #[.val (.int a), .val (.int b), .val (.int k), .val (.int la), .val (.int lb), .val (.int (2 : Int32)), .val (.int a0_), .val (.int a1_), .val (.int b0_), .val (.int b1_), .val (.ref r1), .val (.ref r2), .val (.ref b6), .val .null, .val (.int (0 : Int32))]) rfl) ?_
    show Go p e below T14 (mkF m 183 #[.val (.int a), .val (.int b), .val (.int k), .val (.int la), .val (.int lb), .val (.int (2 : Int32)), .val (.int a0_), .val (.int a1_), .val (.int b0_), .val (.int b1_), .val (.ref r1), .val (.ref r2), .val (.ref b6), .val .null, .val (.int (0 : Int32))] []) _
    refine stp (fun _ => XS.goto X14.here hx rfl (pc0 := 183) (pc' := 193) rfl (hb hby at_183) (by decide) (by decide)) ?_
    show Go p e below T14 (mkF m 193 #[.val (.int a), .val (.int b), .val (.int k), .val (.int la), .val (.int lb), .val (.int (2 : Int32)), .val (.int a0_), .val (.int a1_), .val (.int b0_), .val (.int b1_), .val (.ref r1), .val (.ref r2), .val (.ref b6), .val .null, .val (.int (0 : Int32))] []) _
    refine stp (fun _ => XS.aload X14.here hx rfl (hb hby at_193) rfl rfl) ?_
    show Go p e below T14 (mkF m 195 #[.val (.int a), .val (.int b), .val (.int k), .val (.int la), .val (.int lb), .val (.int (2 : Int32)), .val (.int a0_), .val (.int a1_), .val (.int b0_), .val (.int b1_), .val (.ref r1), .val (.ref r2), .val (.ref b6), .val .null, .val (.int (0 : Int32))] [(.ref b6)]) _
    refine stp (fun _ => XS.aload X14.here hx rfl (hb hby at_195) rfl rfl) ?_
    show Go p e below T14 (mkF m 197 #[.val (.int a), .val (.int b), .val (.int k), .val (.int la), .val (.int lb), .val (.int (2 : Int32)), .val (.int a0_), .val (.int a1_), .val (.int b0_), .val (.int b1_), .val (.ref r1), .val (.ref r2), .val (.ref b6), .val .null, .val (.int (0 : Int32))] [.null, (.ref b6)]) _
    obtain ⟨cq74, kq74, q74a, q74b, q74c⟩ := isOf hZ rfl r14_0
    obtain ⟨_, _, ⟨T74, L74, k74, n74⟩, -, X74, ⟨Lc74, hQ74, l74, y74, z74⟩, st74⟩ := X14.virtualBack hx (y := (⟨"com/example/revlint/revlint/model/GenericType$TypeVariable", "equals", "(Ljava/lang/Object;)Z"⟩ : MethodName)) (z := (⟨"com/example/revlint/revlint/model/GenericType$TypeVariable", "equals", "(Ljava/lang/Object;)Z"⟩ : MethodName)) hown (mvT hZ (hw _ (List.mem_of_getElem? (i := 56) rfl))) (mvT hZ (hw _ (List.mem_of_getElem? (i := 57) rfl))) (notFace_of_selects (args := #[]) (mvT hZ (hw _ (List.mem_of_getElem? (i := 59) rfl)))) (mvT hZ (hw _ (List.mem_of_getElem? (i := 59) rfl))) (mvT hZ (hw _ (List.mem_of_getElem? (i := 58) rfl))) (by decide) (backOf (W := 0) (rm_eq0 l Z a0 hw [] b6  T14.heap n0 O14 ) hZ (hw _ (List.mem_of_getElem? (i := 60) rfl)) (hw _ (List.mem_of_getElem? (i := 39) rfl)) (by decide) (by decide)) q74a q74c (g := (mkF m 197 #[.val (.int a), .val (.int b), .val (.int k), .val (.int la), .val (.int lb), .val (.int (2 : Int32)), .val (.int a0_), .val (.int a1_), .val (.int b0_), .val (.int b1_), .val (.ref r1), .val (.ref r2), .val (.ref b6), .val .null, .val (.int (0 : Int32))] [.null, (.ref b6)])) rfl (by rw [hml]; rfl) (Steps.refl _) (argsL := [.null]) (rest := []) (lenOf pd_4 rfl) rfl (by show 2 * 0 + _ ≤ _; exact Nat.le_of_eq rfl) (hb hby at_197) (fun _ _ => ⟨rfl, rfl, (by decide : 11 + 0 ≤ _), (by decide : 37 + 0 ≤ _)⟩)
    dsimp only [Pt.U, Pt.locs, Pt.cells, Pt.slots] at X74 l74 y74 z74 st74 hQ74
    subst y74 z74
    obtain ⟨rfl, N74q, e74⟩ := hQ74
    have N74 : Fr n0 L74 := by rw [l74]; exact Fr.app N14 N74q
    refine stt st74 ?_
    show Go p e below T74 (mkF m 200 #[.val (.int a), .val (.int b), .val (.int k), .val (.int la), .val (.int lb), .val (.int (2 : Int32)), .val (.int a0_), .val (.int a1_), .val (.int b0_), .val (.int b1_), .val (.ref r1), .val (.ref r2), .val (.ref b6), .val .null, .val (.int (0 : Int32))] [(.int (0 : Int32))]) _
    refine stp (fun _ => XS.iload X74.here hx rfl (hb hby at_200) rfl) ?_
    show Go p e below T74 (mkF m 202 #[.val (.int a), .val (.int b), .val (.int k), .val (.int la), .val (.int lb), .val (.int (2 : Int32)), .val (.int a0_), .val (.int a1_), .val (.int b0_), .val (.int b1_), .val (.ref r1), .val (.ref r2), .val (.ref b6), .val .null, .val (.int (0 : Int32))] [(.int (0 : Int32)), (.int (0 : Int32))]) _
    refine stp (fun _ => XS.icmpNo X74.here hx rfl (hb hby at_202) rfl (by decide)) ?_
    show Go p e below T74 (mkF m 205 #[.val (.int a), .val (.int b), .val (.int k), .val (.int la), .val (.int lb), .val (.int (2 : Int32)), .val (.int a0_), .val (.int a1_), .val (.int b0_), .val (.int b1_), .val (.ref r1), .val (.ref r2), .val (.ref b6), .val .null, .val (.int (0 : Int32))] []) _
    refine stp (fun _ => XS.iconst X74.here hx rfl (hb hby at_205)) ?_
    show Go p e below T74 (mkF m 206 #[.val (.int a), .val (.int b), .val (.int k), .val (.int la), .val (.int lb), .val (.int (2 : Int32)), .val (.int a0_), .val (.int a1_), .val (.int b0_), .val (.int b1_), .val (.ref r1), .val (.ref r2), .val (.ref b6), .val .null, .val (.int (0 : Int32))] [(.int (1 : Int32))]) _
    refine stp (fun _ => XS.goto X74.here hx rfl (pc0 := 206) (pc' := 210) rfl (hb hby at_206) (by decide) (by decide)) ?_
    show Go p e below T74 (mkF m 210 #[.val (.int a), .val (.int b), .val (.int k), .val (.int la), .val (.int lb), .val (.int (2 : Int32)), .val (.int a0_), .val (.int a1_), .val (.int b0_), .val (.int b1_), .val (.ref r1), .val (.ref r2), .val (.ref b6), .val .null, .val (.int (0 : Int32))] [(.int (1 : Int32))]) _
    refine outNW X74 hx hZ hEL e74 hS hk CR (t := .boolean) hret (by simp) (hb hby at_210) hlk (by decide) (by decide) ?_
    exact ⟨rfl, N74⟩
  · show Go p e below T14 (mkF m 92 #[.val (.int a), .val (.int b), .val (.int k), .val (.int la), .val (.int lb), .val (.int (3 : Int32)), .val (.int a0_), .val (.int a1_), .val (.int b0_), .val (.int b1_), .val (.ref r1), .val (.ref r2), .val (.ref b6), .unset, .unset] []) _
    refine stp (fun _ => XS.iload X14.here hx rfl (hb hby at_92) rfl) ?_
    show Go p e below T14 (mkF m 94 #[.val (.int a), .val (.int b), .val (.int k), .val (.int la), .val (.int lb), .val (.int (3 : Int32)), .val (.int a0_), .val (.int a1_), .val (.int b0_), .val (.int b1_), .val (.ref r1), .val (.ref r2), .val (.ref b6), .unset, .unset] [(.int (3 : Int32))]) _
    refine stp (fun _ => XS.ifYes X14.here hx rfl (pc0 := 94) (pc' := 148) rfl (hb hby at_94) rfl (by decide) (by decide) (by decide)) ?_
    show Go p e below T14 (mkF m 148 #[.val (.int a), .val (.int b), .val (.int k), .val (.int la), .val (.int lb), .val (.int (3 : Int32)), .val (.int a0_), .val (.int a1_), .val (.int b0_), .val (.int b1_), .val (.ref r1), .val (.ref r2), .val (.ref b6), .unset, .unset] []) _
    refine stp (fun _ => XS.iload X14.here hx rfl (hb hby at_148) rfl) ?_
    show Go p e below T14 (mkF m 150 #[.val (.int a), .val (.int b), .val (.int k), .val (.int la), .val (.int lb), .val (.int (3 : Int32)), .val (.int a0_), .val (.int a1_), .val (.int b0_), .val (.int b1_), .val (.ref r1), .val (.ref r2), .val (.ref b6), .unset, .unset] [(.int (3 : Int32))]) _
    refine stp (fun _ => XS.iconst X14.here hx rfl (hb hby at_150)) ?_
    show Go p e below T14 (mkF m 151 #[.val (.int a), .val (.int b), .val (.int k), .val (.int la), .val (.int lb), .val (.int (3 : Int32)), .val (.int a0_), .val (.int a1_), .val (.int b0_), .val (.int b1_), .val (.ref r1), .val (.ref r2), .val (.ref b6), .unset, .unset] [(.int (1 : Int32)), (.int (3 : Int32))]) _
    refine stp (fun _ => XS.icmpYes X14.here hx rfl (pc0 := 151) (pc' := 171) rfl (hb hby at_151) rfl (by decide) (by decide) (by decide)) ?_
    show Go p e below T14 (mkF m 171 #[.val (.int a), .val (.int b), .val (.int k), .val (.int la), .val (.int lb), .val (.int (3 : Int32)), .val (.int a0_), .val (.int a1_), .val (.int b0_), .val (.int b1_), .val (.ref r1), .val (.ref r2), .val (.ref b6), .unset, .unset] []) _
    refine stp (fun _ => XS.iload X14.here hx rfl (hb hby at_171) rfl) ?_
    show Go p e below T14 (mkF m 173 #[.val (.int a), .val (.int b), .val (.int k), .val (.int la), .val (.int lb), .val (.int (3 : Int32)), .val (.int a0_), .val (.int a1_), .val (.int b0_), .val (.int b1_), .val (.ref r1), .val (.ref r2), .val (.ref b6), .unset, .unset] [(.int (3 : Int32))]) _
    refine stp (fun _ => XS.iconst X14.here hx rfl (hb hby at_173)) ?_
    show Go p e below T14 (mkF m 174 #[.val (.int a), .val (.int b), .val (.int k), .val (.int la), .val (.int lb), .val (.int (3 : Int32)), .val (.int a0_), .val (.int a1_), .val (.int b0_), .val (.int b1_), .val (.ref r1), .val (.ref r2), .val (.ref b6), .unset, .unset] [(.int (2 : Int32)), (.int (3 : Int32))]) _
    refine stp (fun _ => XS.icmpYes X14.here hx rfl (pc0 := 174) (pc' := 186) rfl (hb hby at_174) rfl (by decide) (by decide) (by decide)) ?_
    show Go p e below T14 (mkF m 186 #[.val (.int a), .val (.int b), .val (.int k), .val (.int la), .val (.int lb), .val (.int (3 : Int32)), .val (.int a0_), .val (.int a1_), .val (.int b0_), .val (.int b1_), .val (.ref r1), .val (.ref r2), .val (.ref b6), .unset, .unset] []) _
    refine stp (fun _ => XS.aload X14.here hx rfl (hb hby at_186) rfl rfl) ?_
    show Go p e below T14 (mkF m 188 #[.val (.int a), .val (.int b), .val (.int k), .val (.int la), .val (.int lb), .val (.int (3 : Int32)), .val (.int a0_), .val (.int a1_), .val (.int b0_), .val (.int b1_), .val (.ref r1), .val (.ref r2), .val (.ref b6), .unset, .unset] [(.ref r2)]) _
    refine stp (fun _ => XS.astore X14.here hx rfl (hb hby at_188) rfl rfl (l' := #[.val (.int a), .val (.int b), .val (.int k), .val (.int la), .val (.int lb), .val (.int (3 : Int32)), .val (.int a0_), .val (.int a1_), .val (.int b0_), .val (.int b1_), .val (.ref r1), .val (.ref r2), .val (.ref b6), .val (.ref r2), .unset]) rfl) ?_
    show Go p e below T14 (mkF m 190 #[.val (.int a), .val (.int b), .val (.int k), .val (.int la), .val (.int lb), .val (.int (3 : Int32)), .val (.int a0_), .val (.int a1_), .val (.int b0_), .val (.int b1_), .val (.ref r1), .val (.ref r2), .val (.ref b6), .val (.ref r2), .unset] []) _
    refine stp (fun _ => XS.iconst X14.here hx rfl (hb hby at_190)) ?_
    show Go p e below T14 (mkF m 191 #[.val (.int a), .val (.int b), .val (.int k), .val (.int la), .val (.int lb), .val (.int (3 : Int32)), .val (.int a0_), .val (.int a1_), .val (.int b0_), .val (.int b1_), .val (.ref r1), .val (.ref r2), .val (.ref b6), .val (.ref r2), .unset] [(.int (0 : Int32))]) _
    refine stp (fun _ => XS.istore X14.here hx rfl (hb hby at_191) rfl (l' := #[.val (.int a), .val (.int b), .val (.int k), .val (.int la), .val (.int lb), .val (.int (3 : Int32)), .val (.int a0_), .val (.int a1_), .val (.int b0_), .val (.int b1_), .val (.ref r1), .val (.ref r2), .val (.ref b6), .val (.ref r2), .val (.int (0 : Int32))]) rfl) ?_
    show Go p e below T14 (mkF m 193 #[.val (.int a), .val (.int b), .val (.int k), .val (.int la), .val (.int lb), .val (.int (3 : Int32)), .val (.int a0_), .val (.int a1_), .val (.int b0_), .val (.int b1_), .val (.ref r1), .val (.ref r2), .val (.ref b6), .val (.ref r2), .val (.int (0 : Int32))] []) _
    refine stp (fun _ => XS.aload X14.here hx rfl (hb hby at_193) rfl rfl) ?_
    show Go p e below T14 (mkF m 195 #[.val (.int a), .val (.int b), .val (.int k), .val (.int la), .val (.int lb), .val (.int (3 : Int32)), .val (.int a0_), .val (.int a1_), .val (.int b0_), .val (.int b1_), .val (.ref r1), .val (.ref r2), .val (.ref b6), .val (.ref r2), .val (.int (0 : Int32))] [(.ref b6)]) _
    refine stp (fun _ => XS.aload X14.here hx rfl (hb hby at_195) rfl rfl) ?_
    show Go p e below T14 (mkF m 197 #[.val (.int a), .val (.int b), .val (.int k), .val (.int la), .val (.int lb), .val (.int (3 : Int32)), .val (.int a0_), .val (.int a1_), .val (.int b0_), .val (.int b1_), .val (.ref r1), .val (.ref r2), .val (.ref b6), .val (.ref r2), .val (.int (0 : Int32))] [(.ref r2), (.ref b6)]) _
    obtain ⟨cq75, kq75, q75a, q75b, q75c⟩ := isOf hZ rfl r14_0
    obtain ⟨_, _, ⟨T75, L75, k75, n75⟩, -, X75, ⟨Lc75, hQ75, l75, y75, z75⟩, st75⟩ := X14.virtualBack hx (y := (⟨"com/example/revlint/revlint/model/GenericType$TypeVariable", "equals", "(Ljava/lang/Object;)Z"⟩ : MethodName)) (z := (⟨"com/example/revlint/revlint/model/GenericType$TypeVariable", "equals", "(Ljava/lang/Object;)Z"⟩ : MethodName)) hown (mvT hZ (hw _ (List.mem_of_getElem? (i := 56) rfl))) (mvT hZ (hw _ (List.mem_of_getElem? (i := 57) rfl))) (notFace_of_selects (args := #[]) (mvT hZ (hw _ (List.mem_of_getElem? (i := 59) rfl)))) (mvT hZ (hw _ (List.mem_of_getElem? (i := 59) rfl))) (mvT hZ (hw _ (List.mem_of_getElem? (i := 58) rfl))) (by decide) (backOf (W := 0) (rm_eqs l Z a0 hw [] b6 r2  T14.heap n0 O14 f18) hZ (hw _ (List.mem_of_getElem? (i := 60) rfl)) (hw _ (List.mem_of_getElem? (i := 39) rfl)) (by decide) (by decide)) q75a q75c (g := (mkF m 197 #[.val (.int a), .val (.int b), .val (.int k), .val (.int la), .val (.int lb), .val (.int (3 : Int32)), .val (.int a0_), .val (.int a1_), .val (.int b0_), .val (.int b1_), .val (.ref r1), .val (.ref r2), .val (.ref b6), .val (.ref r2), .val (.int (0 : Int32))] [(.ref r2), (.ref b6)])) rfl (by rw [hml]; rfl) (Steps.refl _) (argsL := [(.ref r2)]) (rest := []) (lenOf pd_4 rfl) rfl (by show 2 * 0 + _ ≤ _; exact Nat.le_of_eq rfl) (hb hby at_197) (fun _ _ => ⟨rfl, rfl, (by decide : 11 + 0 ≤ _), (by decide : 37 + 0 ≤ _)⟩)
    dsimp only [Pt.U, Pt.locs, Pt.cells, Pt.slots] at X75 l75 y75 z75 st75 hQ75
    subst y75 z75
    obtain ⟨rfl, N75q, e75⟩ := hQ75
    have N75 : Fr n0 L75 := by rw [l75]; exact Fr.app N14 N75q
    refine stt st75 ?_
    show Go p e below T75 (mkF m 200 #[.val (.int a), .val (.int b), .val (.int k), .val (.int la), .val (.int lb), .val (.int (3 : Int32)), .val (.int a0_), .val (.int a1_), .val (.int b0_), .val (.int b1_), .val (.ref r1), .val (.ref r2), .val (.ref b6), .val (.ref r2), .val (.int (0 : Int32))] [(.int (0 : Int32))]) _
    refine stp (fun _ => XS.iload X75.here hx rfl (hb hby at_200) rfl) ?_
    show Go p e below T75 (mkF m 202 #[.val (.int a), .val (.int b), .val (.int k), .val (.int la), .val (.int lb), .val (.int (3 : Int32)), .val (.int a0_), .val (.int a1_), .val (.int b0_), .val (.int b1_), .val (.ref r1), .val (.ref r2), .val (.ref b6), .val (.ref r2), .val (.int (0 : Int32))] [(.int (0 : Int32)), (.int (0 : Int32))]) _
    refine stp (fun _ => XS.icmpNo X75.here hx rfl (hb hby at_202) rfl (by decide)) ?_
    show Go p e below T75 (mkF m 205 #[.val (.int a), .val (.int b), .val (.int k), .val (.int la), .val (.int lb), .val (.int (3 : Int32)), .val (.int a0_), .val (.int a1_), .val (.int b0_), .val (.int b1_), .val (.ref r1), .val (.ref r2), .val (.ref b6), .val (.ref r2), .val (.int (0 : Int32))] []) _
    refine stp (fun _ => XS.iconst X75.here hx rfl (hb hby at_205)) ?_
    show Go p e below T75 (mkF m 206 #[.val (.int a), .val (.int b), .val (.int k), .val (.int la), .val (.int lb), .val (.int (3 : Int32)), .val (.int a0_), .val (.int a1_), .val (.int b0_), .val (.int b1_), .val (.ref r1), .val (.ref r2), .val (.ref b6), .val (.ref r2), .val (.int (0 : Int32))] [(.int (1 : Int32))]) _
    refine stp (fun _ => XS.goto X75.here hx rfl (pc0 := 206) (pc' := 210) rfl (hb hby at_206) (by decide) (by decide)) ?_
    show Go p e below T75 (mkF m 210 #[.val (.int a), .val (.int b), .val (.int k), .val (.int la), .val (.int lb), .val (.int (3 : Int32)), .val (.int a0_), .val (.int a1_), .val (.int b0_), .val (.int b1_), .val (.ref r1), .val (.ref r2), .val (.ref b6), .val (.ref r2), .val (.int (0 : Int32))] [(.int (1 : Int32))]) _
    refine outNW X75 hx hZ hEL e75 hS hk CR (t := .boolean) hret (by simp) (hb hby at_210) hlk (by decide) (by decide) ?_
    exact ⟨rfl, N75⟩
set_option maxRecDepth 65536 in
set_option maxHeartbeats 40000000 in
theorem comes_1 {Post : Tables → Env → Array Value → State → Outcome → State → Prop} (hpost : ∀ tb e args s v u, (limb_1_1.after args s (.returned v) u = true ∧ limb_1_2.after args s (.returned v) u = true ∧ True) → Jvm.D.FramedW s (.returned v) u (Jvm.fieldLocs frame_1_writes args s ++ Jvm.arrayLocs frame_1_arrays args s ++ Jvm.staticLocs frame_1_statics s) 32 3200 → Post tb e args s (.returned v) u) :
    ArmFor flags0 classFile x code maxLocals ret World_1 tables_1 room_1 Calls_1 rest_1 Pre_1 Post := by
  intro l hfl _ _ p e ha hc hk s m args below hf hA hF happ hP
  obtain ⟨hcalls, hrest, hpre⟩ := hP
  obtain ⟨-, -, -, hnamed, -, -, -, hat⟩ := (Spec.applies_iff hf).mp happ
  obtain ⟨hg, hn⟩ := and_e (Cond.before_iff.mp (show (Jvm.Cond.and given_1 narrow_1).before args s = true from hpre))
  obtain ⟨g1, g2⟩ := and_e hg
  obtain ⟨g3, g4⟩ := and_e g2
  obtain ⟨g5, g6⟩ := and_e g4
  obtain ⟨w0, w1, w2, rfl⟩ : ∃ w0 w1 w2 : Value, args = #[w0, w1, w2] := by
    have hs : args.size = 3 := by simpa [Cond.value, given_1] using g1
    obtain ⟨L⟩ := args
    match L, hs with
    | [w0, w1, w2], _ => exact ⟨w0, w1, w2, rfl⟩
  have hw := fun d (hd : d ∈ tables_1) => atoms_spec (ws := Jvm.Cond.code x code maxLocals ret :: tables_1) hat d (List.mem_cons_of_mem _ hd)
  have hfit : Fit s := fun {y c} hc i hi => by
    obtain ⟨ha, rfl⟩ := Array.getElem?_eq_some_iff.mp hc
    have q := List.all_eq_true.mp ((Array.all_eq_true_iff_forall_mem.mp hF) _ (Array.getElem_mem ha)) i (List.mem_range.mpr hi)
    simpa [Array.getElem?_eq_getElem hi] using q
  obtain ⟨i0, ei0⟩ := is_v g3
  obtain rfl : w0 = (.int i0) := Option.some.inj ei0
  obtain ⟨i1, ei1⟩ := is_v g5
  obtain rfl : w1 = (.int i1) := Option.some.inj ei1
  obtain ⟨i2, ei2⟩ := is_v g6
  obtain rfl : w2 = (.int i2) := Option.some.inj ei2
  -- hn says: Jvm.Cond.tt
  obtain ⟨hsets, hown0⟩ := atoms_of _ (rest_1_c_eq ▸ (show rest_1_c.before _ s = true from hrest))
  have hr0 := Cond.before_iff.mp hown0
  obtain ⟨z_COMPACT_STRINGS, ez_COMPACT_STRINGS⟩ := is_v (Cond.before_iff.mp (hsets _ (List.mem_of_getElem? (i := 1) rfl)))
  have S_z_COMPACT_STRINGS := Sta.start ez_COMPACT_STRINGS (Or.inl (hsets _ (List.mem_of_getElem? (i := 0) rfl)))
  have c_COMPACT_STRINGS : ¬ (z_COMPACT_STRINGS = (0 : Int32)) := gotF (Cond.eq_ints ez_COMPACT_STRINGS (Term.int_eval (0))) (not_v (Cond.before_iff.mp (hsets _ (List.mem_of_getElem? (i := 2) rfl))))
  obtain ⟨v_SIOOBE_FORMATTER, ez_SIOOBE_FORMATTER, r_SIOOBE_FORMATTER⟩ := isR_v (Cond.before_iff.mp (hsets _ (List.mem_of_getElem? (i := 8) rfl)))
  have S_v_SIOOBE_FORMATTER := Sta.start ez_SIOOBE_FORMATTER (Or.inl (hsets _ (List.mem_of_getElem? (i := 7) rfl)))
  have hEL : EW s _ consts_1 := own_EW hw
  have hCH : CHv s consts_1 s.vm s.heap := CHv.start hEL (fun p hp => hcalls.1 p hp) (hsets _ (List.mem_of_getElem? (i := 2) rfl)) (hw _ (List.mem_of_getElem? (i := 23) rfl)) (hw _ (List.mem_of_getElem? (i := 5) rfl))
  obtain ⟨n, o, h1, h2, h3, _, L, rfl, ⟨rfl, N⟩, -, hq⟩ := rm0 l s _ hw tables_1 i0 i1 i2 z_COMPACT_STRINGS s.heap s.heap.size (Old.start s) hEL S_z_COMPACT_STRINGS c_COMPACT_STRINGS p e ha hc hk s m _ below hf ((Spec.applies_iff_loose hf).mp happ).1 ⟨rfl, State.Warmed39.refl s, rfl, hCH⟩ trivial
  refine ⟨n, _, h1, h2, h3, hpost _ _ _ _ _ _ ⟨Cond.after_iff.mpr rfl, Cond.after_iff.mpr (eq_i res_at (Term.int_eval (1)) rfl), trivial⟩ ⟨hq.1, hq.2.1, hq.2.2.1, (hq.2.2.2.sift fun y hy => Or.inr (N y hy)).mono (by decide) (by decide)⟩⟩
theorem main_1_1 : Claimed_1_1 := comes_1 fun _ _ _ _ _ _ h hF => ⟨h.1, hF⟩
theorem main_1_2 : Claimed_1_2 := comes_1 fun _ _ _ _ _ _ h hF => ⟨h.2.1, hF⟩
end Jvm.Pilot.@@N@@
namespace Jvm.Pilot.@@N@@
open Jvm Jvm.ClassFile Sem Op Lib Jvm.Free Jvm.Stand Jvm.Pilot.@@N@@.Jvm.D
/-! MADE BY PROGRAM (witnessworld.py) out of the Statement's table words and the real class files: 24 classes; the members and pool entries that the words name. The judged class is class 1, her method 2. -/
namespace start1
open Jvm.ClassFile
def u (s : String) : CpInfo := .utf8 (stringToUtf16 s)
/-- a pool by its gaps: so many unusable entries, then the entry; so many at the end -/
def gap : Nat → List CpInfo → List CpInfo
  | 0, r => r
  | n + 1, r => .unusable :: gap n r
def poolList (es : List (Nat × CpInfo)) (last : Nat) : List CpInfo := es.foldr (fun e r => gap e.1 (e.2 :: r)) (gap last [])
def pool (es : List (Nat × CpInfo)) (last : Nat) : Array CpInfo := ⟨poolList es last⟩
def fileOf (pool : Array CpInfo) (this : Nat) (attrs : Array Attribute := #[]) (ms : Array MethodInfo := #[]) (fl : Nat := 33) (sup : Nat := 0) (ifs : Array Nat := #[]) (fds : Array FieldInfo := #[]) : ClassFile where
  minorVersion := 0
  majorVersion := 65
  constantPool := pool
  accessFlags := fl
  thisClass := this
  superClass := sup
  interfaces := ifs
  fields := fds
  methods := ms
  attributes := attrs
def plain (name : String) (sup : Option ClassId) : Class where
  name := name
  kind := .ordinary
  loader := none
  accessFlags := 33
  super := sup
  interfaces := #[]
  cf := none
  fields := #[]
  methods := #[]
  instanceTypes := #[]
  staticTypes := #[]
  resolved := #[]
  callSites := []
  init := .initialized
  statics := none
  mirror := none

def pool0 : Array CpInfo := pool [(5, u "<init>"), (0, u "()V"), (1, .class_ 10), (1, u "java/lang/Object")] 113

def k0c0 : Code := { maxStack := 0, maxLocals := 1, code := object_method_1_code, exceptionTable := #[], attributes := #[] }
def k0m0 : Method := { name := "<init>", desc := "()V", sig := { parameters := [], returnType := none }, accessFlags := 1, code := some k0c0 }
/-- java/lang/Object -/
def k0 : Class := { plain "java/lang/Object" none with
  accessFlags := 33
  interfaces := #[]
  cf := some (fileOf pool0 8 #[] #[{ accessFlags := 1, nameIndex := 5, descriptorIndex := 6, attributes := #[] }] 33 0 #[] #[])
  fields := #[]
  methods := #[k0m0]
  instanceTypes := #[]
  staticTypes := #[]
  resolved := Array.replicate 124 none
  statics := none }

def pool1 : Array CpInfo := pool [(2, .class_ 4), (1, u "java/lang/Object"), (0, u "<init>"), (0, u "()V"), (0, .class_ 8), (0, u "java/lang/String"), (0, .methodref 7 10), (0, .nameAndType 5 11), (0, u "([C)V"), (0, .methodref 13 14), (0, .class_ 15), (0, .nameAndType 16 17), (0, u "com/example/revlint/revlint/model/TypeVariableEqualsPinLaw"), (0, u "make"), (0, u "(ICC)Ljava/lang/String;"), (0, .class_ 19), (0, u "com/example/revlint/revlint/model/GenericType$TypeVariable"), (0, .methodref 18 21), (0, .nameAndType 5 22), (0, u "(Ljava/lang/String;)V"), (0, .class_ 24), (0, u "com/example/revlint/revlint/model/GenericType$Primitive"), (0, .methodref 23 21), (0, .methodref 18 27), (0, .nameAndType 28 29), (0, u "equals"), (0, u "(Ljava/lang/Object;)Z"), (3, u "law"), (0, u "(III)Z")] 7

def k1m0 : Method := { name := "<init>", desc := "()V", sig := { parameters := [], returnType := none }, accessFlags := 1, code := none }
def k1c1 : Code := { maxStack := 6, maxLocals := 3, code := method_2_code, exceptionTable := #[], attributes := #[] }
def k1m1 : Method := { name := "make", desc := "(ICC)Ljava/lang/String;", sig := { parameters := [.int, .char, .char], returnType := some (.object "java/lang/String") }, accessFlags := 10, code := some k1c1 }
def k1c2 : Code := { maxStack := 3, maxLocals := 15, code := code, exceptionTable := #[], attributes := #[] }
def k1m2 : Method := { name := "law", desc := "(III)Z", sig := { parameters := [.int, .int, .int], returnType := some .boolean }, accessFlags := 9, code := some k1c2 }
/-- com/example/revlint/revlint/model/TypeVariableEqualsPinLaw -/
def k1 : Class := { plain "com/example/revlint/revlint/model/TypeVariableEqualsPinLaw" (some 0) with
  accessFlags := 49
  interfaces := #[]
  cf := some (fileOf pool1 13 #[] #[{ accessFlags := 1, nameIndex := 5, descriptorIndex := 6, attributes := #[] }, { accessFlags := 10, nameIndex := 16, descriptorIndex := 17, attributes := #[] }, { accessFlags := 9, nameIndex := 33, descriptorIndex := 34, attributes := #[] }] 49 2 #[] #[])
  fields := #[]
  methods := #[k1m0, k1m1, k1m2]
  instanceTypes := #[]
  staticTypes := #[]
  resolved := Array.replicate 42 none
  statics := none }

def pool2 : Array CpInfo := pool [(1, .class_ 2), (0, u "java/io/Serializable"), (0, .class_ 4), (0, u "java/lang/Object")] 2

/-- java/io/Serializable -/
def k2 : Class := { plain "java/io/Serializable" (some 0) with
  accessFlags := 1537
  interfaces := #[]
  cf := some (fileOf pool2 1 #[] #[] 1537 3 #[] #[])
  fields := #[]
  methods := #[]
  instanceTypes := #[]
  staticTypes := #[]
  resolved := Array.replicate 7 none
  statics := none }

def pool3 : Array CpInfo := pool [(1, .class_ 2), (0, u "java/lang/Comparable"), (0, .class_ 4), (0, u "java/lang/Object")] 7

/-- java/lang/Comparable -/
def k3 : Class := { plain "java/lang/Comparable" (some 0) with
  accessFlags := 1537
  interfaces := #[]
  cf := some (fileOf pool3 1 #[] #[] 1537 3 #[] #[])
  fields := #[]
  methods := #[]
  instanceTypes := #[]
  staticTypes := #[]
  resolved := Array.replicate 12 none
  statics := none }

def pool4 : Array CpInfo := pool [(2, .class_ 4), (1, u "java/lang/CharSequence"), (42, .class_ 48), (0, u "java/lang/CharSequence$1CodePointIterator"), (10, .class_ 60), (0, u "java/lang/CharSequence$1CharIterator"), (5, .class_ 67), (0, u "java/lang/Object")] 63

/-- java/lang/CharSequence -/
def k4 : Class := { plain "java/lang/CharSequence" (some 0) with
  accessFlags := 1537
  interfaces := #[]
  cf := some (fileOf pool4 2 #[.nestMembers #[47, 59]] #[] 1537 66 #[] #[])
  fields := #[]
  methods := #[]
  instanceTypes := #[]
  staticTypes := #[]
  resolved := Array.replicate 131 none
  statics := none }

def pool5 : Array CpInfo := pool [(1, .class_ 2), (0, u "java/lang/constant/Constable"), (0, .class_ 4), (0, u "java/lang/Object")] 6

/-- java/lang/constant/Constable -/
def k5 : Class := { plain "java/lang/constant/Constable" (some 0) with
  accessFlags := 1537
  interfaces := #[]
  cf := some (fileOf pool5 1 #[] #[] 1537 3 #[] #[])
  fields := #[]
  methods := #[]
  instanceTypes := #[]
  staticTypes := #[]
  resolved := Array.replicate 11 none
  statics := none }

def pool6 : Array CpInfo := pool [(1, .class_ 2), (0, u "java/lang/constant/ConstantDesc"), (0, .class_ 4), (0, u "java/lang/Object")] 32

/-- java/lang/constant/ConstantDesc -/
def k6 : Class := { plain "java/lang/constant/ConstantDesc" (some 0) with
  accessFlags := 1537
  interfaces := #[]
  cf := some (fileOf pool6 1 #[] #[] 1537 3 #[] #[])
  fields := #[]
  methods := #[]
  instanceTypes := #[]
  staticTypes := #[]
  resolved := Array.replicate 37 none
  statics := none }

def pool7 : Array CpInfo := pool [(1, .methodref 2 3), (0, .class_ 4), (0, .nameAndType 5 6), (0, u "java/lang/Object"), (0, u "<init>"), (0, u "()V"), (0, .string 8), (0, u ""), (0, .fieldref 10 11), (0, .class_ 12), (0, .nameAndType 13 14), (0, u "java/lang/String"), (0, u "value"), (0, u "[B"), (0, .fieldref 10 16), (0, .nameAndType 17 18), (0, u "coder"), (0, u "B"), (2, u "hash"), (0, u "I"), (2, u "hashIsZero"), (0, u "Z"), (0, .methodref 10 28), (0, .nameAndType 5 29), (0, u "([CIILjava/lang/Void;)V"), (8, .fieldref 10 39), (0, .nameAndType 40 26), (0, u "COMPACT_STRINGS"), (1, .class_ 44), (1, u "java/lang/StringUTF16"), (0, u "compress"), (1, .methodref 42 48), (0, .nameAndType 49 50), (0, u "coderFromArrayLen"), (0, u "([BI)B"), (56, .class_ 109), (1, u "java/lang/StringLatin1"), (67, .methodref 42 178), (0, .nameAndType 45 179), (0, u "([CII)[B"), (361, .methodref 107 542), (0, .nameAndType 543 544), (0, u "equals"), (0, u "([B[B)Z"), (28, u "(Ljava/lang/Object;)Z"), (1, .class_ 576), (0, u "java/lang/CharSequence"), (22, u "CASE_INSENSITIVE_ORDER"), (0, u "Ljava/util/Comparator;"), (409, u "([C)V"), (90, u "serialPersistentFields"), (0, u "[Ljava/io/ObjectStreamField;"), (0, .class_ 1104), (0, u "java/lang/String$CaseInsensitiveComparator"), (1, .class_ 1107), (0, u "java/io/Serializable"), (0, .class_ 1109), (0, u "java/lang/Comparable"), (0, .class_ 1111), (0, u "java/lang/constant/Constable"), (0, .class_ 1113), (0, u "java/lang/constant/ConstantDesc"), (2, u "serialVersionUID"), (0, u "J"), (3, u "REPL"), (0, u "C"), (2, u "LATIN1"), (1, u "UTF16")] 323

def k7m0 : Method := { name := "<init>", desc := "()V", sig := { parameters := [], returnType := none }, accessFlags := 1, code := none }
def k7c1 : Code := { maxStack := 5, maxLocals := 2, code := jdk_42_method_3_code, exceptionTable := #[], attributes := #[] }
def k7m1 : Method := { name := "<init>", desc := "([C)V", sig := { parameters := [(.array .char)], returnType := none }, accessFlags := 1, code := some k7c1 }
def k7c2 : Code := { maxStack := 2, maxLocals := 3, code := jdk_42_method_66_code, exceptionTable := #[], attributes := #[] }
def k7m2 : Method := { name := "equals", desc := "(Ljava/lang/Object;)Z", sig := { parameters := [(.object "java/lang/Object")], returnType := some .boolean }, accessFlags := 1, code := some k7c2 }
def k7c3 : Code := { maxStack := 4, maxLocals := 6, code := jdk_42_method_149_code, exceptionTable := #[], attributes := #[] }
def k7m3 : Method := { name := "<init>", desc := "([CIILjava/lang/Void;)V", sig := { parameters := [(.array .char), .int, .int, (.object "java/lang/Void")], returnType := none }, accessFlags := 2, code := some k7c3 }
/-- java/lang/String -/
def k7 : Class := { plain "java/lang/String" (some 0) with
  accessFlags := 49
  interfaces := #[2, 3, 4, 5, 6]
  cf := some (fileOf pool7 10 #[.nestMembers #[1103]] #[{ accessFlags := 1, nameIndex := 5, descriptorIndex := 6, attributes := #[] }, { accessFlags := 1, nameIndex := 5, descriptorIndex := 1010, attributes := #[] }, { accessFlags := 1, nameIndex := 543, descriptorIndex := 573, attributes := #[] }, { accessFlags := 2, nameIndex := 5, descriptorIndex := 29, attributes := #[] }] 49 2 #[1106, 1108, 575, 1110, 1112] #[{ accessFlags := 18, nameIndex := 13, descriptorIndex := 14, attributes := #[] }, { accessFlags := 18, nameIndex := 17, descriptorIndex := 18, attributes := #[] }, { accessFlags := 2, nameIndex := 21, descriptorIndex := 22, attributes := #[] }, { accessFlags := 2, nameIndex := 25, descriptorIndex := 26, attributes := #[] }, { accessFlags := 26, nameIndex := 1116, descriptorIndex := 1117, attributes := #[] }, { accessFlags := 24, nameIndex := 40, descriptorIndex := 26, attributes := #[] }, { accessFlags := 26, nameIndex := 1101, descriptorIndex := 1102, attributes := #[] }, { accessFlags := 26, nameIndex := 1121, descriptorIndex := 1122, attributes := #[] }, { accessFlags := 25, nameIndex := 599, descriptorIndex := 600, attributes := #[] }, { accessFlags := 24, nameIndex := 1125, descriptorIndex := 18, attributes := #[] }, { accessFlags := 24, nameIndex := 1127, descriptorIndex := 18, attributes := #[] }])
  fields := #[{ name := "value", type := (.array .byte), accessFlags := 18, slot := 0, constantValue := 0 }, { name := "coder", type := .byte, accessFlags := 18, slot := 1, constantValue := 0 }, { name := "hash", type := .int, accessFlags := 2, slot := 2, constantValue := 0 }, { name := "hashIsZero", type := .boolean, accessFlags := 2, slot := 3, constantValue := 0 }, { name := "serialVersionUID", type := .long, accessFlags := 26, slot := 0, constantValue := 0 }, { name := "COMPACT_STRINGS", type := .boolean, accessFlags := 24, slot := 1, constantValue := 0 }, { name := "serialPersistentFields", type := (.array (.object "java/io/ObjectStreamField")), accessFlags := 26, slot := 2, constantValue := 0 }, { name := "REPL", type := .char, accessFlags := 26, slot := 3, constantValue := 0 }, { name := "CASE_INSENSITIVE_ORDER", type := (.object "java/util/Comparator"), accessFlags := 25, slot := 4, constantValue := 0 }, { name := "LATIN1", type := .byte, accessFlags := 24, slot := 5, constantValue := 0 }, { name := "UTF16", type := .byte, accessFlags := 24, slot := 6, constantValue := 0 }]
  methods := #[k7m0, k7m1, k7m2, k7m3]
  instanceTypes := #[(.array .byte), .byte, .int, .boolean]
  staticTypes := #[.long, .boolean, (.array (.object "java/io/ObjectStreamField")), .char, (.object "java/util/Comparator"), .byte, .byte]
  resolved := Array.replicate 1451 none
  statics := some 0 }

def pool8 : Array CpInfo := pool [(6, .class_ 8), (1, u "java/lang/Object"), (0, u "<init>"), (0, u "()V"), (1, .class_ 14), (1, u "java/lang/StringUTF16"), (31, u "$assertionsDisabled"), (0, u "Z"), (13, u "HI_BYTE_SHIFT"), (0, u "I"), (2, u "LO_BYTE_SHIFT"), (49, .methodref 12 116), (0, .nameAndType 117 118), (0, u "compress"), (0, u "([CI[BII)I"), (3, u "([CII)[B"), (138, u "coderFromArrayLen"), (0, u "([BI)B"), (106, .class_ 371), (1, u "java/lang/StringUTF16$LinesSpliterator"), (58, u "MAX_LENGTH"), (196, .class_ 628), (0, u "java/lang/StringUTF16$CodePointsSpliterator"), (0, .class_ 630), (0, u "java/lang/StringUTF16$CharsSpliterator")] 4

def k8m0 : Method := { name := "<init>", desc := "()V", sig := { parameters := [], returnType := none }, accessFlags := 0, code := none }
def k8c1 : Code := { maxStack := 2, maxLocals := 2, code := jdk_52_method_15_code, exceptionTable := #[], attributes := #[] }
def k8m1 : Method := { name := "coderFromArrayLen", desc := "([BI)B", sig := { parameters := [(.array .byte), .int], returnType := some .byte }, accessFlags := 8, code := some k8c1 }
def k8c2 : Code := { maxStack := 5, maxLocals := 6, code := jdk_52_method_16_code, exceptionTable := #[], attributes := #[] }
def k8m2 : Method := { name := "compress", desc := "([CII)[B", sig := { parameters := [(.array .char), .int, .int], returnType := some (.array .byte) }, accessFlags := 9, code := some k8c2 }
def k8c3 : Code := { maxStack := 3, maxLocals := 7, code := jdk_52_method_21_code, exceptionTable := #[], attributes := #[] }
def k8m3 : Method := { name := "compress", desc := "([CI[BII)I", sig := { parameters := [(.array .char), .int, (.array .byte), .int, .int], returnType := some .int }, accessFlags := 9, code := some k8c3 }
/-- java/lang/StringUTF16 -/
def k8 : Class := { plain "java/lang/StringUTF16" (some 0) with
  accessFlags := 48
  interfaces := #[]
  cf := some (fileOf pool8 12 #[.nestMembers #[627, 629, 369]] #[{ accessFlags := 0, nameIndex := 9, descriptorIndex := 10, attributes := #[] }, { accessFlags := 8, nameIndex := 261, descriptorIndex := 262, attributes := #[] }, { accessFlags := 9, nameIndex := 117, descriptorIndex := 122, attributes := #[] }, { accessFlags := 9, nameIndex := 117, descriptorIndex := 118, attributes := #[] }] 48 6 #[] #[{ accessFlags := 26, nameIndex := 61, descriptorIndex := 62, attributes := #[] }, { accessFlags := 26, nameIndex := 65, descriptorIndex := 62, attributes := #[] }, { accessFlags := 24, nameIndex := 430, descriptorIndex := 62, attributes := #[] }, { accessFlags := 4120, nameIndex := 46, descriptorIndex := 47, attributes := #[] }])
  fields := #[{ name := "HI_BYTE_SHIFT", type := .int, accessFlags := 26, slot := 0, constantValue := 0 }, { name := "LO_BYTE_SHIFT", type := .int, accessFlags := 26, slot := 1, constantValue := 0 }, { name := "MAX_LENGTH", type := .int, accessFlags := 24, slot := 2, constantValue := 0 }, { name := "$assertionsDisabled", type := .boolean, accessFlags := 4120, slot := 3, constantValue := 0 }]
  methods := #[k8m0, k8m1, k8m2, k8m3]
  instanceTypes := #[]
  staticTypes := #[.int, .int, .int, .boolean]
  resolved := Array.replicate 635 none
  statics := none }

def pool9 : Array CpInfo := pool [(1, .methodref 2 3), (0, .class_ 4), (0, .nameAndType 5 6), (0, u "java/lang/Object"), (0, u "<init>"), (0, u "()V"), (0, .class_ 8), (0, u "java/lang/Record")] 13

def k9c0 : Code := { maxStack := 1, maxLocals := 1, code := jdk_30_method_1_code, exceptionTable := #[], attributes := #[] }
def k9m0 : Method := { name := "<init>", desc := "()V", sig := { parameters := [], returnType := none }, accessFlags := 4, code := some k9c0 }
/-- java/lang/Record -/
def k9 : Class := { plain "java/lang/Record" (some 0) with
  accessFlags := 1057
  interfaces := #[]
  cf := some (fileOf pool9 7 #[] #[{ accessFlags := 4, nameIndex := 5, descriptorIndex := 6, attributes := #[] }] 1057 2 #[] #[])
  fields := #[]
  methods := #[k9m0]
  instanceTypes := #[]
  staticTypes := #[]
  resolved := Array.replicate 22 none
  statics := none }

def pool10 : Array CpInfo := pool [(18, .class_ 19), (0, u "com/example/revlint/revlint/model/GenericType"), (0, .class_ 21), (0, u "com/example/revlint/revlint/model/GenericType$ArrayType"), (8, .class_ 31), (0, u "com/example/revlint/revlint/model/GenericType$ClassType"), (18, .class_ 51), (0, u "com/example/revlint/revlint/model/GenericType$Argument"), (7, .class_ 60), (0, u "java/lang/Object"), (15, .class_ 77), (0, u "com/example/revlint/revlint/model/GenericType$Variance"), (0, .class_ 79), (0, u "com/example/revlint/revlint/model/GenericType$TypeVariable"), (0, .class_ 81), (0, u "com/example/revlint/revlint/model/GenericType$Primitive")] 8

/-- com/example/revlint/revlint/model/GenericType -/
def k10 : Class := { plain "com/example/revlint/revlint/model/GenericType" (some 0) with
  accessFlags := 1537
  interfaces := #[]
  cf := some (fileOf pool10 18 #[.nestMembers #[76, 50, 20, 78, 30, 80]] #[] 1537 59 #[] #[])
  fields := #[]
  methods := #[]
  instanceTypes := #[]
  staticTypes := #[]
  resolved := Array.replicate 90 none
  statics := none }

def pool11 : Array CpInfo := pool [(1, .methodref 2 3), (0, .class_ 4), (0, .nameAndType 5 6), (0, u "java/lang/Record"), (0, u "<init>"), (0, u "()V"), (0, .string 8), (0, u "name"), (0, .methodref 10 11), (0, .class_ 12), (0, .nameAndType 13 14), (0, u "java/util/Objects"), (0, u "requireNonNull"), (0, u "(Ljava/lang/Object;Ljava/lang/String;)Ljava/lang/Object;"), (0, .fieldref 16 17), (0, .class_ 18), (0, .nameAndType 8 19), (0, u "com/example/revlint/revlint/model/GenericType$TypeVariable"), (0, u "Ljava/lang/String;"), (0, .methodref 21 22), (0, .class_ 23), (0, .nameAndType 24 25), (0, u "java/lang/String"), (0, u "equals"), (0, u "(Ljava/lang/Object;)Z"), (10, .class_ 37), (0, u "com/example/revlint/revlint/model/GenericType"), (4, u "(Ljava/lang/String;)V")] 29

def k11c0 : Code := { maxStack := 2, maxLocals := 2, code := prog_22_method_1_code, exceptionTable := #[], attributes := #[] }
def k11m0 : Method := { name := "<init>", desc := "(Ljava/lang/String;)V", sig := { parameters := [(.object "java/lang/String")], returnType := none }, accessFlags := 1, code := some k11c0 }
def k11c1 : Code := { maxStack := 2, maxLocals := 3, code := prog_22_method_2_code, exceptionTable := #[], attributes := #[] }
def k11m1 : Method := { name := "equals", desc := "(Ljava/lang/Object;)Z", sig := { parameters := [(.object "java/lang/Object")], returnType := some .boolean }, accessFlags := 1, code := some k11c1 }
/-- com/example/revlint/revlint/model/GenericType$TypeVariable -/
def k11 : Class := { plain "com/example/revlint/revlint/model/GenericType$TypeVariable" (some 9) with
  accessFlags := 49
  interfaces := #[10]
  cf := some (fileOf pool11 16 #[.nestHost 36] #[{ accessFlags := 1, nameIndex := 5, descriptorIndex := 42, attributes := #[] }, { accessFlags := 1, nameIndex := 24, descriptorIndex := 25, attributes := #[] }] 49 2 #[36] #[{ accessFlags := 18, nameIndex := 8, descriptorIndex := 19, attributes := #[] }])
  fields := #[{ name := "name", type := (.object "java/lang/String"), accessFlags := 18, slot := 0, constantValue := 0 }]
  methods := #[k11m0, k11m1]
  instanceTypes := #[(.object "java/lang/String")]
  staticTypes := #[]
  resolved := Array.replicate 72 none
  statics := none }

def pool12 : Array CpInfo := pool [(2, .class_ 4), (1, u "java/lang/Object"), (0, u "<init>"), (0, u "()V"), (35, .class_ 44), (1, u "java/util/Objects"), (0, u "requireNonNull"), (48, u "(Ljava/lang/Object;Ljava/lang/String;)Ljava/lang/Object;")] 89

def k12m0 : Method := { name := "<init>", desc := "()V", sig := { parameters := [], returnType := none }, accessFlags := 2, code := none }
def k12c1 : Code := { maxStack := 3, maxLocals := 2, code := jdk_31_method_11_code, exceptionTable := #[], attributes := #[] }
def k12m1 : Method := { name := "requireNonNull", desc := "(Ljava/lang/Object;Ljava/lang/String;)Ljava/lang/Object;", sig := { parameters := [(.object "java/lang/Object"), (.object "java/lang/String")], returnType := some (.object "java/lang/Object") }, accessFlags := 9, code := some k12c1 }
/-- java/util/Objects -/
def k12 : Class := { plain "java/util/Objects" (some 0) with
  accessFlags := 49
  interfaces := #[]
  cf := some (fileOf pool12 42 #[] #[{ accessFlags := 2, nameIndex := 5, descriptorIndex := 6, attributes := #[] }, { accessFlags := 9, nameIndex := 45, descriptorIndex := 94, attributes := #[] }] 49 2 #[] #[])
  fields := #[]
  methods := #[k12m0, k12m1]
  instanceTypes := #[]
  staticTypes := #[]
  resolved := Array.replicate 184 none
  statics := none }

def pool13 : Array CpInfo := pool [(4, .class_ 6), (1, u "java/lang/Object"), (0, u "<init>"), (0, u "()V"), (5, .class_ 16), (1, u "java/lang/StringLatin1"), (104, u "$assertionsDisabled"), (0, u "Z"), (98, .class_ 223), (1, u "java/lang/StringLatin1$LinesSpliterator"), (57, u "equals"), (0, u "([B[B)Z"), (107, .class_ 391), (0, u "java/lang/StringLatin1$CharsSpliterator")] 3

def k13m0 : Method := { name := "<init>", desc := "()V", sig := { parameters := [], returnType := none }, accessFlags := 0, code := none }
def k13c1 : Code := { maxStack := 3, maxLocals := 3, code := jdk_43_method_13_code, exceptionTable := #[], attributes := #[] }
def k13m1 : Method := { name := "equals", desc := "([B[B)Z", sig := { parameters := [(.array .byte), (.array .byte)], returnType := some .boolean }, accessFlags := 9, code := some k13c1 }
/-- java/lang/StringLatin1 -/
def k13 : Class := { plain "java/lang/StringLatin1" (some 0) with
  accessFlags := 48
  interfaces := #[]
  cf := some (fileOf pool13 14 #[.nestMembers #[390, 221]] #[{ accessFlags := 0, nameIndex := 7, descriptorIndex := 8, attributes := #[] }, { accessFlags := 9, nameIndex := 281, descriptorIndex := 282, attributes := #[] }] 48 4 #[] #[{ accessFlags := 4120, nameIndex := 121, descriptorIndex := 122, attributes := #[] }])
  fields := #[{ name := "$assertionsDisabled", type := .boolean, accessFlags := 4120, slot := 0, constantValue := 0 }]
  methods := #[k13m0, k13m1]
  instanceTypes := #[]
  staticTypes := #[.boolean]
  resolved := Array.replicate 395 none
  statics := none }

def pool14 : Array CpInfo := pool [(1, .methodref 2 3), (0, .class_ 4), (0, .nameAndType 5 6), (0, u "java/lang/Record"), (0, u "<init>"), (0, u "()V"), (0, .string 8), (0, u "name"), (0, .methodref 10 11), (0, .class_ 12), (0, .nameAndType 13 14), (0, u "java/util/Objects"), (0, u "requireNonNull"), (0, u "(Ljava/lang/Object;Ljava/lang/String;)Ljava/lang/Object;"), (0, .fieldref 16 17), (0, .class_ 18), (0, .nameAndType 8 19), (0, u "com/example/revlint/revlint/model/GenericType$Primitive"), (0, u "Ljava/lang/String;"), (18, .class_ 39), (0, u "com/example/revlint/revlint/model/GenericType"), (0, u "(Ljava/lang/String;)V")] 28

def k14c0 : Code := { maxStack := 2, maxLocals := 2, code := prog_21_method_1_code, exceptionTable := #[], attributes := #[] }
def k14m0 : Method := { name := "<init>", desc := "(Ljava/lang/String;)V", sig := { parameters := [(.object "java/lang/String")], returnType := none }, accessFlags := 1, code := some k14c0 }
/-- com/example/revlint/revlint/model/GenericType$Primitive -/
def k14 : Class := { plain "com/example/revlint/revlint/model/GenericType$Primitive" (some 9) with
  accessFlags := 49
  interfaces := #[10]
  cf := some (fileOf pool14 16 #[.nestHost 38] #[{ accessFlags := 1, nameIndex := 5, descriptorIndex := 40, attributes := #[] }] 49 2 #[38] #[{ accessFlags := 18, nameIndex := 8, descriptorIndex := 19, attributes := #[] }])
  fields := #[{ name := "name", type := (.object "java/lang/String"), accessFlags := 18, slot := 0, constantValue := 0 }]
  methods := #[k14m0]
  instanceTypes := #[(.object "java/lang/String")]
  staticTypes := #[]
  resolved := Array.replicate 69 none
  statics := none }

def pool15 : Array CpInfo := pool [(2, .class_ 4), (1, u "java/lang/Object"), (0, u "<init>"), (0, u "()V"), (17, .class_ 26), (1, u "jdk/internal/util/Preconditions"), (28, .class_ 56), (0, u "jdk/internal/util/Preconditions$4"), (57, .class_ 115), (0, u "jdk/internal/util/Preconditions$1"), (7, u "SIOOBE_FORMATTER"), (0, u "Ljava/util/function/BiFunction;"), (0, .class_ 126), (0, u "jdk/internal/util/Preconditions$2"), (3, u "AIOOBE_FORMATTER"), (0, .class_ 132), (0, u "jdk/internal/util/Preconditions$3"), (3, u "IOOBE_FORMATTER")] 57

def k15m0 : Method := { name := "<init>", desc := "()V", sig := { parameters := [], returnType := none }, accessFlags := 1, code := none }
/-- jdk/internal/util/Preconditions -/
def k15 : Class := { plain "jdk/internal/util/Preconditions" (some 0) with
  accessFlags := 33
  interfaces := #[]
  cf := some (fileOf pool15 24 #[.nestMembers #[55, 131, 125, 114]] #[{ accessFlags := 1, nameIndex := 5, descriptorIndex := 6, attributes := #[] }] 33 2 #[] #[{ accessFlags := 25, nameIndex := 123, descriptorIndex := 124, attributes := #[] }, { accessFlags := 25, nameIndex := 130, descriptorIndex := 124, attributes := #[] }, { accessFlags := 25, nameIndex := 136, descriptorIndex := 124, attributes := #[] }])
  fields := #[{ name := "SIOOBE_FORMATTER", type := (.object "java/util/function/BiFunction"), accessFlags := 25, slot := 0, constantValue := 0 }, { name := "AIOOBE_FORMATTER", type := (.object "java/util/function/BiFunction"), accessFlags := 25, slot := 1, constantValue := 0 }, { name := "IOOBE_FORMATTER", type := (.object "java/util/function/BiFunction"), accessFlags := 25, slot := 2, constantValue := 0 }]
  methods := #[k15m0]
  instanceTypes := #[]
  staticTypes := #[(.object "java/util/function/BiFunction"), (.object "java/util/function/BiFunction"), (.object "java/util/function/BiFunction")]
  resolved := Array.replicate 194 none
  statics := some 1 }

def pool16 : Array CpInfo := pool [(9, u "<init>"), (6, .class_ 18), (1, u "java/lang/Object"), (0, u "()V"), (1, .class_ 23), (1, u "jdk/internal/util/ArraysSupport"), (0, u "LOG2_ARRAY_LONG_INDEX_SCALE"), (0, u "I"), (2, u "U"), (0, u "Ljdk/internal/misc/Unsafe;"), (8, u "BIG_ENDIAN"), (0, u "Z"), (8, u "LOG2_BYTE_BIT_SIZE"), (4, u "LOG2_ARRAY_INT_INDEX_SCALE"), (54, u "JLA"), (0, u "Ljdk/internal/access/JavaLangAccess;"), (11, u "LOG2_ARRAY_BOOLEAN_INDEX_SCALE"), (9, u "LOG2_ARRAY_BYTE_INDEX_SCALE"), (5, u "LOG2_ARRAY_CHAR_INDEX_SCALE"), (5, u "LOG2_ARRAY_SHORT_INDEX_SCALE"), (18, u "LOG2_ARRAY_FLOAT_INDEX_SCALE"), (24, u "LOG2_ARRAY_DOUBLE_INDEX_SCALE"), (89, u "T_BOOLEAN"), (2, u "T_CHAR"), (1, u "T_FLOAT"), (1, u "T_DOUBLE"), (1, u "T_BYTE"), (1, u "T_SHORT"), (1, u "T_INT"), (1, u "T_LONG"), (1, u "SOFT_MAX_ARRAY_LENGTH")] 83

def k16m0 : Method := { name := "<init>", desc := "()V", sig := { parameters := [], returnType := none }, accessFlags := 2, code := none }
/-- jdk/internal/util/ArraysSupport -/
def k16 : Class := { plain "jdk/internal/util/ArraysSupport" (some 0) with
  accessFlags := 33
  interfaces := #[]
  cf := some (fileOf pool16 21 #[] #[{ accessFlags := 2, nameIndex := 9, descriptorIndex := 19, attributes := #[] }] 33 16 #[] #[{ accessFlags := 24, nameIndex := 28, descriptorIndex := 29, attributes := #[] }, { accessFlags := 26, nameIndex := 38, descriptorIndex := 39, attributes := #[] }, { accessFlags := 25, nameIndex := 121, descriptorIndex := 25, attributes := #[] }, { accessFlags := 25, nameIndex := 131, descriptorIndex := 25, attributes := #[] }, { accessFlags := 25, nameIndex := 137, descriptorIndex := 25, attributes := #[] }, { accessFlags := 25, nameIndex := 143, descriptorIndex := 25, attributes := #[] }, { accessFlags := 25, nameIndex := 53, descriptorIndex := 25, attributes := #[] }, { accessFlags := 25, nameIndex := 24, descriptorIndex := 25, attributes := #[] }, { accessFlags := 25, nameIndex := 162, descriptorIndex := 25, attributes := #[] }, { accessFlags := 25, nameIndex := 187, descriptorIndex := 25, attributes := #[] }, { accessFlags := 26, nameIndex := 48, descriptorIndex := 25, attributes := #[] }, { accessFlags := 25, nameIndex := 277, descriptorIndex := 25, attributes := #[] }, { accessFlags := 25, nameIndex := 280, descriptorIndex := 25, attributes := #[] }, { accessFlags := 25, nameIndex := 282, descriptorIndex := 25, attributes := #[] }, { accessFlags := 25, nameIndex := 284, descriptorIndex := 25, attributes := #[] }, { accessFlags := 25, nameIndex := 286, descriptorIndex := 25, attributes := #[] }, { accessFlags := 25, nameIndex := 288, descriptorIndex := 25, attributes := #[] }, { accessFlags := 25, nameIndex := 290, descriptorIndex := 25, attributes := #[] }, { accessFlags := 25, nameIndex := 292, descriptorIndex := 25, attributes := #[] }, { accessFlags := 26, nameIndex := 108, descriptorIndex := 109, attributes := #[] }, { accessFlags := 25, nameIndex := 294, descriptorIndex := 25, attributes := #[] }])
  fields := #[{ name := "U", type := (.object "jdk/internal/misc/Unsafe"), accessFlags := 24, slot := 0, constantValue := 0 }, { name := "BIG_ENDIAN", type := .boolean, accessFlags := 26, slot := 1, constantValue := 0 }, { name := "LOG2_ARRAY_BOOLEAN_INDEX_SCALE", type := .int, accessFlags := 25, slot := 2, constantValue := 0 }, { name := "LOG2_ARRAY_BYTE_INDEX_SCALE", type := .int, accessFlags := 25, slot := 3, constantValue := 0 }, { name := "LOG2_ARRAY_CHAR_INDEX_SCALE", type := .int, accessFlags := 25, slot := 4, constantValue := 0 }, { name := "LOG2_ARRAY_SHORT_INDEX_SCALE", type := .int, accessFlags := 25, slot := 5, constantValue := 0 }, { name := "LOG2_ARRAY_INT_INDEX_SCALE", type := .int, accessFlags := 25, slot := 6, constantValue := 0 }, { name := "LOG2_ARRAY_LONG_INDEX_SCALE", type := .int, accessFlags := 25, slot := 7, constantValue := 0 }, { name := "LOG2_ARRAY_FLOAT_INDEX_SCALE", type := .int, accessFlags := 25, slot := 8, constantValue := 0 }, { name := "LOG2_ARRAY_DOUBLE_INDEX_SCALE", type := .int, accessFlags := 25, slot := 9, constantValue := 0 }, { name := "LOG2_BYTE_BIT_SIZE", type := .int, accessFlags := 26, slot := 10, constantValue := 0 }, { name := "T_BOOLEAN", type := .int, accessFlags := 25, slot := 11, constantValue := 0 }, { name := "T_CHAR", type := .int, accessFlags := 25, slot := 12, constantValue := 0 }, { name := "T_FLOAT", type := .int, accessFlags := 25, slot := 13, constantValue := 0 }, { name := "T_DOUBLE", type := .int, accessFlags := 25, slot := 14, constantValue := 0 }, { name := "T_BYTE", type := .int, accessFlags := 25, slot := 15, constantValue := 0 }, { name := "T_SHORT", type := .int, accessFlags := 25, slot := 16, constantValue := 0 }, { name := "T_INT", type := .int, accessFlags := 25, slot := 17, constantValue := 0 }, { name := "T_LONG", type := .int, accessFlags := 25, slot := 18, constantValue := 0 }, { name := "JLA", type := (.object "jdk/internal/access/JavaLangAccess"), accessFlags := 26, slot := 19, constantValue := 0 }, { name := "SOFT_MAX_ARRAY_LENGTH", type := .int, accessFlags := 25, slot := 20, constantValue := 0 }]
  methods := #[k16m0]
  instanceTypes := #[]
  staticTypes := #[(.object "jdk/internal/misc/Unsafe"), .boolean, .int, .int, .int, .int, .int, .int, .int, .int, .int, .int, .int, .int, .int, .int, .int, .int, .int, (.object "jdk/internal/access/JavaLangAccess"), .int]
  resolved := Array.replicate 378 none
  statics := none }

def pool17 : Array CpInfo := pool [(1, u "java/lang/Cloneable"), (0, .class_ 1), (0, u "java/lang/Object"), (0, .class_ 3)] 3

/-- java/lang/Cloneable -/
def k17 : Class := { plain "java/lang/Cloneable" (some 0) with
  accessFlags := 1537
  interfaces := #[]
  cf := some (fileOf pool17 2 #[] #[] 1537 4 #[] #[])
  fields := #[]
  methods := #[]
  instanceTypes := #[]
  staticTypes := #[]
  resolved := Array.replicate 8 none
  statics := none }

/-- the primitive byte -/
def k18 : Class := { plain "byte" none with kind := .primitive 'B', accessFlags := 0x411 }
/-- [B -/
def k19 : Class := { plain "[B" (some 0) with kind := .array 18 .byte, interfaces := #[17, 2], accessFlags := 1041 }

/-- the primitive char -/
def k20 : Class := { plain "char" none with kind := .primitive 'C', accessFlags := 0x411 }
/-- [C -/
def k21 : Class := { plain "[C" (some 0) with kind := .array 20 .char, interfaces := #[17, 2], accessFlags := 1041 }

/-- the primitive int -/
def k22 : Class := { plain "int" none with kind := .primitive 'I', accessFlags := 0x411 }
/-- [I -/
def k23 : Class := { plain "[I" (some 0) with kind := .array 22 .int, interfaces := #[17, 2], accessFlags := 1041 }

def heap : Heap := #[{ cls := 7, slots := #[.long 0, .int 1, .null, .int 0, .null, .int 0, .int 0], vm := .statics 7 },
  { cls := 15, slots := #[.null, .null, .null], vm := .statics 15 }]
def classes : Array Class := #[k0, k1, k2, k3, k4, k5, k6, k7, k8, k9, k10, k11, k12, k13, k14, k15, k16, k17, k18, k19, k20, k21, k22, k23]
def interned : List (Array UInt16 × Addr) := []
def slotsUsed : Nat := 10
def theMethod : MethodId := ⟨1, 2⟩
def args0 : Array Value := #[.int 1, .int 2, .int 0]
def aboutOver (below : List Frame) : State where
  vm := { classes := classes, interned := interned.toArray }
  heap := heap
  slotsUsed := slotsUsed
  threads := #[{ frames := .invoking theMethod args0 :: below }]
def below0 : List Frame := [.native { method := ⟨0, 0⟩, args := #[] }]
def about1 : State := aboutOver below0
def p0 : Program := .bare "" "" ""
def e0 : Env := launch0.env 0 0 0
theorem w_frames : about1.frames = Frame.invoking theMethod args0 :: below0 := rfl
set_option maxRecDepth 65536 in
theorem w_args : argsFit about1.vm theMethod args0 = true := by decide +kernel
set_option maxRecDepth 65536 in
theorem w_heap : heapFits about1 = true := by decide +kernel
set_option maxRecDepth 65536 in
theorem w_runnable : about1.curStatus? = some .runnable := by decide +kernel
set_option maxRecDepth 65536 in
theorem w_alone : about1.alone = true := by decide +kernel
set_option maxRecDepth 65536 in
theorem w_named : about1.methodNamed? x = some theMethod := by decide +kernel
set_option maxRecDepth 65536 in
theorem w_hears : about1.hears theMethod below0 = true := by decide +kernel
set_option maxRecDepth 65536 in
theorem w_ripe : about1.ripe theMethod args0 below0 = true := by decide +kernel
theorem w_running : about1.status = .running := rfl
set_option maxRecDepth 65536 in
theorem w_room : about1.hasRoom e0.platform room_1 = true :=
  launch0.hasRoom_least _ room_1 (by decide +kernel) (by decide +kernel) (by decide +kernel) (by decide +kernel) (by decide +kernel) (by decide +kernel)
theorem allAtoms_all (ts : List Jvm.Cond) (a : Array Jvm.Value) (st : Jvm.State) : (allAtoms ts).before a st = ts.all (fun c => c.before a st) := by
  induction ts with
  | nil => rfl
  | cons c t ih =>
    show (Jvm.Cond.and c (allAtoms t)).before a st = _
    rw [Jvm.Cond.before_and, ih, List.all_cons]
def words1 : List Jvm.Cond := Jvm.Cond.code x code maxLocals ret :: tables_1
/-- a 'code' word, met by the world's own term for the bytes: nothing is compared byte by byte -/
theorem code_word {y : MethodName} {bytes : ByteArray} {mx : Nat} {rt : Option FieldType} {a : Array Value} {s : State} {m : MethodId} {meth : Method} {c : Code} (h1 : s.methodNamed? y = some m) (h2 : s.vm.method? m = some meth) (h3 : meth.code = some c) (h4 : c.code = bytes)
    (h5 : (c.maxLocals == mx && c.exceptionTable.isEmpty && decide (c.maxStack ≤ mostOperands) && decide (meth.sig.returnType = rt) && !meth.locks && decide (parseMethodDescriptor y.desc = some meth.sig)) = true) : (Jvm.Cond.code y bytes mx rt).before a s = true := by
  simp only [Bool.and_eq_true, beq_iff_eq, Bool.not_eq_true', decide_eq_true_eq] at h5
  obtain ⟨⟨⟨⟨⟨g1, g2⟩, g3⟩, g4⟩, g5⟩, g6⟩ := h5
  simp [Cond.before, Cond.holds, Cond.value, h1, h2, h3, h4, g1, g2, g3, g4, g5, g6]
def isCode : Jvm.Cond → Bool
  | .code _ _ _ _ => true
  | _ => false
theorem all_split {L : List Jvm.Cond} {P : Jvm.Cond → Bool} (h1 : L.all (fun c => isCode c || P c) = true) (h2 : ∀ c ∈ L.filter isCode, P c = true) : L.all P = true := by
  refine List.all_eq_true.mpr fun c hc => ?_
  have h := List.all_eq_true.mp h1 c hc
  rcases Bool.eq_false_or_eq_true (isCode c) with hi | hi
  · exact h2 c (List.mem_filter.mpr ⟨hc, hi⟩)
  · simpa [hi] using h
set_option maxRecDepth 65536 in
theorem w_c0 : (Jvm.Cond.code x code maxLocals ret).before args0 about1 = true := code_word (m := ⟨1, 2⟩) (meth := k1m2) (c := k1c2) (by decide +kernel) rfl rfl rfl (by decide +kernel)
set_option maxRecDepth 65536 in
theorem w_c1 : (Jvm.Cond.code ({ cls := "com/example/revlint/revlint/model/TypeVariableEqualsPinLaw", name := "make", desc := "(ICC)Ljava/lang/String;" } : Jvm.MethodName) method_2_code (3 : Nat) (Option.some (Jvm.ClassFile.FieldType.object "java/lang/String"))).before args0 about1 = true := code_word (m := ⟨1, 1⟩) (meth := k1m1) (c := k1c1) (by decide +kernel) rfl rfl rfl (by decide +kernel)
set_option maxRecDepth 65536 in
theorem w_c2 : (Jvm.Cond.code ({ cls := "java/lang/String", name := "<init>", desc := "([C)V" } : Jvm.MethodName) jdk_42_method_3_code (2 : Nat) (Option.none : Option Jvm.ClassFile.FieldType)).before args0 about1 = true := code_word (m := ⟨7, 1⟩) (meth := k7m1) (c := k7c1) (by decide +kernel) rfl rfl rfl (by decide +kernel)
set_option maxRecDepth 65536 in
theorem w_c3 : (Jvm.Cond.code ({ cls := "java/lang/String", name := "<init>", desc := "([CIILjava/lang/Void;)V" } : Jvm.MethodName) jdk_42_method_149_code (6 : Nat) (Option.none : Option Jvm.ClassFile.FieldType)).before args0 about1 = true := code_word (m := ⟨7, 3⟩) (meth := k7m3) (c := k7c3) (by decide +kernel) rfl rfl rfl (by decide +kernel)
set_option maxRecDepth 65536 in
theorem w_c4 : (Jvm.Cond.code ({ cls := "java/lang/Object", name := "<init>", desc := "()V" } : Jvm.MethodName) object_method_1_code (1 : Nat) (Option.none : Option Jvm.ClassFile.FieldType)).before args0 about1 = true := code_word (m := ⟨0, 0⟩) (meth := k0m0) (c := k0c0) (by decide +kernel) rfl rfl rfl (by decide +kernel)
set_option maxRecDepth 65536 in
theorem w_c5 : (Jvm.Cond.code ({ cls := "java/lang/StringUTF16", name := "compress", desc := "([CII)[B" } : Jvm.MethodName) jdk_52_method_16_code (6 : Nat) (Option.some (Jvm.ClassFile.FieldType.array Jvm.ClassFile.FieldType.byte))).before args0 about1 = true := code_word (m := ⟨8, 2⟩) (meth := k8m2) (c := k8c2) (by decide +kernel) rfl rfl rfl (by decide +kernel)
set_option maxRecDepth 65536 in
theorem w_c6 : (Jvm.Cond.code ({ cls := "java/lang/StringUTF16", name := "compress", desc := "([CI[BII)I" } : Jvm.MethodName) jdk_52_method_21_code (7 : Nat) (Option.some Jvm.ClassFile.FieldType.int)).before args0 about1 = true := code_word (m := ⟨8, 3⟩) (meth := k8m3) (c := k8c3) (by decide +kernel) rfl rfl rfl (by decide +kernel)
set_option maxRecDepth 65536 in
theorem w_c7 : (Jvm.Cond.code ({ cls := "java/lang/StringUTF16", name := "coderFromArrayLen", desc := "([BI)B" } : Jvm.MethodName) jdk_52_method_15_code (2 : Nat) (Option.some Jvm.ClassFile.FieldType.byte)).before args0 about1 = true := code_word (m := ⟨8, 1⟩) (meth := k8m1) (c := k8c1) (by decide +kernel) rfl rfl rfl (by decide +kernel)
set_option maxRecDepth 65536 in
theorem w_c8 : (Jvm.Cond.code ({ cls := "com/example/revlint/revlint/model/GenericType$TypeVariable", name := "<init>", desc := "(Ljava/lang/String;)V" } : Jvm.MethodName) prog_22_method_1_code (2 : Nat) (Option.none : Option Jvm.ClassFile.FieldType)).before args0 about1 = true := code_word (m := ⟨11, 0⟩) (meth := k11m0) (c := k11c0) (by decide +kernel) rfl rfl rfl (by decide +kernel)
set_option maxRecDepth 65536 in
theorem w_c9 : (Jvm.Cond.code ({ cls := "java/lang/Record", name := "<init>", desc := "()V" } : Jvm.MethodName) jdk_30_method_1_code (1 : Nat) (Option.none : Option Jvm.ClassFile.FieldType)).before args0 about1 = true := code_word (m := ⟨9, 0⟩) (meth := k9m0) (c := k9c0) (by decide +kernel) rfl rfl rfl (by decide +kernel)
set_option maxRecDepth 65536 in
theorem w_c10 : (Jvm.Cond.code ({ cls := "java/util/Objects", name := "requireNonNull", desc := "(Ljava/lang/Object;Ljava/lang/String;)Ljava/lang/Object;" } : Jvm.MethodName) jdk_31_method_11_code (2 : Nat) (Option.some (Jvm.ClassFile.FieldType.object "java/lang/Object"))).before args0 about1 = true := code_word (m := ⟨12, 1⟩) (meth := k12m1) (c := k12c1) (by decide +kernel) rfl rfl rfl (by decide +kernel)
set_option maxRecDepth 65536 in
theorem w_c11 : (Jvm.Cond.code ({ cls := "com/example/revlint/revlint/model/GenericType$TypeVariable", name := "equals", desc := "(Ljava/lang/Object;)Z" } : Jvm.MethodName) prog_22_method_2_code (3 : Nat) (Option.some Jvm.ClassFile.FieldType.boolean)).before args0 about1 = true := code_word (m := ⟨11, 1⟩) (meth := k11m1) (c := k11c1) (by decide +kernel) rfl rfl rfl (by decide +kernel)
set_option maxRecDepth 65536 in
theorem w_c12 : (Jvm.Cond.code ({ cls := "java/lang/String", name := "equals", desc := "(Ljava/lang/Object;)Z" } : Jvm.MethodName) jdk_42_method_66_code (3 : Nat) (Option.some Jvm.ClassFile.FieldType.boolean)).before args0 about1 = true := code_word (m := ⟨7, 2⟩) (meth := k7m2) (c := k7c2) (by decide +kernel) rfl rfl rfl (by decide +kernel)
set_option maxRecDepth 65536 in
theorem w_c13 : (Jvm.Cond.code ({ cls := "java/lang/StringLatin1", name := "equals", desc := "([B[B)Z" } : Jvm.MethodName) jdk_43_method_13_code (3 : Nat) (Option.some Jvm.ClassFile.FieldType.boolean)).before args0 about1 = true := code_word (m := ⟨13, 1⟩) (meth := k13m1) (c := k13c1) (by decide +kernel) rfl rfl rfl (by decide +kernel)
set_option maxRecDepth 65536 in
theorem w_c14 : (Jvm.Cond.code ({ cls := "com/example/revlint/revlint/model/GenericType$Primitive", name := "<init>", desc := "(Ljava/lang/String;)V" } : Jvm.MethodName) prog_21_method_1_code (2 : Nat) (Option.none : Option Jvm.ClassFile.FieldType)).before args0 about1 = true := code_word (m := ⟨14, 0⟩) (meth := k14m0) (c := k14c0) (by decide +kernel) rfl rfl rfl (by decide +kernel)
def codes1 : List Jvm.Cond := [Jvm.Cond.code x code maxLocals ret, Jvm.Cond.code ({ cls := "com/example/revlint/revlint/model/TypeVariableEqualsPinLaw", name := "make", desc := "(ICC)Ljava/lang/String;" } : Jvm.MethodName) method_2_code (3 : Nat) (Option.some (Jvm.ClassFile.FieldType.object "java/lang/String")), Jvm.Cond.code ({ cls := "java/lang/String", name := "<init>", desc := "([C)V" } : Jvm.MethodName) jdk_42_method_3_code (2 : Nat) (Option.none : Option Jvm.ClassFile.FieldType), Jvm.Cond.code ({ cls := "java/lang/String", name := "<init>", desc := "([CIILjava/lang/Void;)V" } : Jvm.MethodName) jdk_42_method_149_code (6 : Nat) (Option.none : Option Jvm.ClassFile.FieldType), Jvm.Cond.code ({ cls := "java/lang/Object", name := "<init>", desc := "()V" } : Jvm.MethodName) object_method_1_code (1 : Nat) (Option.none : Option Jvm.ClassFile.FieldType), Jvm.Cond.code ({ cls := "java/lang/StringUTF16", name := "compress", desc := "([CII)[B" } : Jvm.MethodName) jdk_52_method_16_code (6 : Nat) (Option.some (Jvm.ClassFile.FieldType.array Jvm.ClassFile.FieldType.byte)), Jvm.Cond.code ({ cls := "java/lang/StringUTF16", name := "compress", desc := "([CI[BII)I" } : Jvm.MethodName) jdk_52_method_21_code (7 : Nat) (Option.some Jvm.ClassFile.FieldType.int), Jvm.Cond.code ({ cls := "java/lang/StringUTF16", name := "coderFromArrayLen", desc := "([BI)B" } : Jvm.MethodName) jdk_52_method_15_code (2 : Nat) (Option.some Jvm.ClassFile.FieldType.byte), Jvm.Cond.code ({ cls := "com/example/revlint/revlint/model/GenericType$TypeVariable", name := "<init>", desc := "(Ljava/lang/String;)V" } : Jvm.MethodName) prog_22_method_1_code (2 : Nat) (Option.none : Option Jvm.ClassFile.FieldType), Jvm.Cond.code ({ cls := "java/lang/Record", name := "<init>", desc := "()V" } : Jvm.MethodName) jdk_30_method_1_code (1 : Nat) (Option.none : Option Jvm.ClassFile.FieldType), Jvm.Cond.code ({ cls := "java/util/Objects", name := "requireNonNull", desc := "(Ljava/lang/Object;Ljava/lang/String;)Ljava/lang/Object;" } : Jvm.MethodName) jdk_31_method_11_code (2 : Nat) (Option.some (Jvm.ClassFile.FieldType.object "java/lang/Object")), Jvm.Cond.code ({ cls := "com/example/revlint/revlint/model/GenericType$TypeVariable", name := "equals", desc := "(Ljava/lang/Object;)Z" } : Jvm.MethodName) prog_22_method_2_code (3 : Nat) (Option.some Jvm.ClassFile.FieldType.boolean), Jvm.Cond.code ({ cls := "java/lang/String", name := "equals", desc := "(Ljava/lang/Object;)Z" } : Jvm.MethodName) jdk_42_method_66_code (3 : Nat) (Option.some Jvm.ClassFile.FieldType.boolean), Jvm.Cond.code ({ cls := "java/lang/StringLatin1", name := "equals", desc := "([B[B)Z" } : Jvm.MethodName) jdk_43_method_13_code (3 : Nat) (Option.some Jvm.ClassFile.FieldType.boolean), Jvm.Cond.code ({ cls := "com/example/revlint/revlint/model/GenericType$Primitive", name := "<init>", desc := "(Ljava/lang/String;)V" } : Jvm.MethodName) prog_21_method_1_code (2 : Nat) (Option.none : Option Jvm.ClassFile.FieldType)]
set_option maxRecDepth 65536 in
theorem codes_eq : words1.filter isCode = codes1 := rfl
theorem w_codes : ∀ c ∈ words1.filter isCode, c.before args0 about1 = true := by
  rw [codes_eq]
  intro c hc
  simp only [codes1, List.mem_cons, List.not_mem_nil, or_false] at hc
  rcases hc with rfl | rfl | rfl | rfl | rfl | rfl | rfl | rfl | rfl | rfl | rfl | rfl | rfl | rfl | rfl
  · exact w_c0
  · exact w_c1
  · exact w_c2
  · exact w_c3
  · exact w_c4
  · exact w_c5
  · exact w_c6
  · exact w_c7
  · exact w_c8
  · exact w_c9
  · exact w_c10
  · exact w_c11
  · exact w_c12
  · exact w_c13
  · exact w_c14
set_option maxRecDepth 65536 in
theorem w_t1 : (words1.take 24).all (fun c => isCode c || c.before args0 about1) = true := by decide +kernel
set_option maxRecDepth 65536 in
theorem w_t2 : ((words1.drop 24).take 24).all (fun c => isCode c || c.before args0 about1) = true := by decide +kernel
set_option maxRecDepth 65536 in
theorem w_t3 : (((words1.drop 24).drop 24).take 24).all (fun c => isCode c || c.before args0 about1) = true := by decide +kernel
set_option maxRecDepth 65536 in
theorem w_t4 : (((words1.drop 24).drop 24).drop 24).all (fun c => isCode c || c.before args0 about1) = true := by decide +kernel
theorem w_tables : (allAtoms (Jvm.Cond.code x code maxLocals ret :: tables_1)).before args0 about1 = true := by
  rw [allAtoms_all]
  show words1.all (fun c => c.before args0 about1) = true
  refine all_split ?_ w_codes
  rw [← List.take_append_drop 24 words1, List.all_append, w_t1, ← List.take_append_drop 24 (words1.drop 24), List.all_append, w_t2, ← List.take_append_drop 24 ((words1.drop 24).drop 24), List.all_append, w_t3, w_t4]
  rfl
set_option maxRecDepth 65536 in
theorem w_rest : rest_1_c.before args0 about1 = true := by decide +kernel
set_option maxRecDepth 65536 in
theorem w_case : (Jvm.Cond.and given_1 narrow_1).before args0 about1 = true := by decide +kernel
set_option maxRecDepth 65536 in
theorem w_consts : constsHeld consts_1 about1 := Jvm.Lit.constsHeldB_iff.mp (by decide +kernel)
theorem w_applies : (headSpec (Jvm.Cond.code x code maxLocals ret :: tables_1) room_1).applies x e0.platform about1 = true :=
  (Spec.applies_iff w_frames).mpr ⟨w_running, w_runnable, w_alone, w_named, w_hears, w_ripe, w_room, w_tables⟩
theorem atStart : AtStart classFile x code maxLocals ret World_1 tables_1 room_1 Calls_1 rest_1 Pre_1 launch0 p0 e0 about1 theMethod args0 below0 :=
  ⟨lists_1, trivial, launch0.admits_env _ _ _, launch0.least_env, fairChoices_fair.cas, fairChoices_fair.clock, w_frames, w_args, w_heap, w_applies, ⟨w_consts, trivial⟩, w_rest, w_case⟩
end start1
theorem witness_1 : WitnessClaimed_1 := ⟨start1.p0, start1.e0, start1.about1, start1.theMethod, start1.args0, start1.below0, start1.atStart⟩
end Jvm.Pilot.@@N@@
