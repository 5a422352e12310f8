import JvmDerived
import JvmDerived.Pilot.@@N@@Statement
import JvmDerived.Pilot.@@N@@Code
set_option linter.unusedVariables false
set_option linter.unusedSimpArgs false
namespace Jvm.OwnKit
open Sem ClassFile Op Lib Jvm.Stand Jvm.Free Jvm.LawKit Jvm.RoadKit
section Go
variable {p : Program} {l : Launch} {e : Env} {R : Room} {s : State} {m : MethodId} {args : Array Value} {below : List Frame} {meth : Method} {c : Code} {T T' : State} {locs : List Loc} {cells slots : Nat} {g g' : JFrame} {P : Outcome → State → Prop} {Q : Option Value → Heap → List Loc → Prop} {k n pc : Nat} {Ls : Array Slot} {rest : List Value}
/-- from this state and frame the invocation comes to its end, and the end is as P says -/
def Go (p : Program) (e : Env) (below : List Frame) (T : State) (g : JFrame) (P : Outcome → State → Prop) : Prop :=
  ∃ s₂ o, Steps p.tables e below (T.setTop g) s₂ ∧ s₂.status = .running ∧ Ended s₂ below o ∧ P o s₂
abbrev Po (s : State) (Q : Option Value → Heap → List Loc → Prop) (k n : Nat) : Outcome → State → Prop := fun o U' => ∃ v L, o = .returned v ∧ Q v U'.heap L ∧ FrameEnd s o U' L k n
theorem stp (h : ∀ t, Steps p.tables e below (T'.setTop g') t → Steps p.tables e below (T.setTop g) t) (K : Go p e below T' g' P) : Go p e below T g P := by
  obtain ⟨s2, o, h1, h2⟩ := K
  exact ⟨s2, o, h _ h1, h2⟩
theorem stt (h : Steps p.tables e below (T.setTop g) (T'.setTop g')) (K : Go p e below T' g' P) : Go p e below T g P := by
  obtain ⟨s2, o, h1, h2⟩ := K
  exact ⟨s2, o, h.trans h1, h2⟩
theorem out (X : Stand p l e R s m args below meth c T locs cells slots) {v : Option Value} (hl : meth.locks = false) (hv : meth.sig.returnType = none → v = none)
    (hst : ∀ fs : List Frame, (∀ (f : JFrame) (acts : List Action), f.method = m → f.locked = none → f.entered = [] → (doReturn e (T.setTop f) acts v).1 = T.setFrames fs) → Steps p.tables e below (T.setTop g) (T.setFrames fs))
    (hc : cells ≤ k) (hn : slots ≤ n) (hQ : Q v T.heap locs) : Go p e below T g (Po s Q k n) := by
  obtain ⟨fs, hr, hrun, hended, hW, hsame⟩ := X.leave (v := v) hv hl
  exact ⟨_, _, hst fs hr, hrun, hended, v, locs, rfl, hQ, ⟨_, rfl⟩, hW, hsame.mono hc hn⟩
theorem outN (X : Stand p l e R s m args below meth c T locs cells slots) (hx : p.tables.exec = Jvm.exec) {t : FieldType} {z : Int32} (hret : meth.sig.returnType = some t) (ht : t = .boolean ∨ t = .byte ∨ t = .char ∨ t = .short) (hd : decode c.code pc = .ok (.ireturn, 1)) (hl : meth.locks = false)
    (hc : cells ≤ k) (hn : slots ≤ n) (hQ : Q (some (.int (nar t z))) T.heap locs) : Go p e below T (mkF m pc Ls (.int z :: rest)) (Po s Q k n) :=
  out X hl (fun h => by rw [hret] at h; cases h) (fun fs hr => retN X hx hret ht hd hr) hc hn hQ
theorem outI (X : Stand p l e R s m args below meth c T locs cells slots) (hx : p.tables.exec = Jvm.exec) {z : Int32} (hret : meth.sig.returnType = some .int) (hd : decode c.code pc = .ok (.ireturn, 1)) (hl : meth.locks = false)
    (hc : cells ≤ k) (hn : slots ≤ n) (hQ : Q (some (.int z)) T.heap locs) : Go p e below T (mkF m pc Ls (.int z :: rest)) (Po s Q k n) :=
  out X hl (fun h => by rw [hret] at h; cases h) (fun fs hr => retOut X hx hret rfl (Or.inl ⟨rfl, Or.inl rfl, _, rfl⟩) hd hr) hc hn hQ
theorem outJ (X : Stand p l e R s m args below meth c T locs cells slots) (hx : p.tables.exec = Jvm.exec) {z : Int64} (hret : meth.sig.returnType = some .long) (hd : decode c.code pc = .ok (.lreturn, 1)) (hl : meth.locks = false)
    (hc : cells ≤ k) (hn : slots ≤ n) (hQ : Q (some (.long z)) T.heap locs) : Go p e below T (mkF m pc Ls (.long z :: rest)) (Po s Q k n) :=
  out X hl (fun h => by rw [hret] at h; cases h) (fun fs hr => retOut X hx hret rfl (Or.inr (Or.inl ⟨rfl, rfl, _, rfl⟩)) hd hr) hc hn hQ
theorem outD (X : Stand p l e R s m args below meth c T locs cells slots) (hx : p.tables.exec = Jvm.exec) {w : Value} (hret : meth.sig.returnType = some .double) (hw : ∃ z, w = .double z) (hd : decode c.code pc = .ok (.dreturn, 1)) (hl : meth.locks = false)
    (hc : cells ≤ k) (hn : slots ≤ n) (hQ : Q (some w) T.heap locs) : Go p e below T (mkF m pc Ls (w :: rest)) (Po s Q k n) := by
  obtain ⟨z, rfl⟩ := hw
  exact out X hl (fun h => by rw [hret] at h; cases h) (fun fs hr => retOut X hx hret rfl (Or.inr (Or.inr (Or.inl ⟨rfl, rfl, _, rfl⟩))) hd hr) hc hn hQ
theorem outA (X : Stand p l e R s m args below meth c T locs cells slots) (hx : p.tables.exec = Jvm.exec) {w : Value} {t : FieldType} (hret : meth.sig.returnType = some t) (ht : t.isReference = true) (hw : w.isRef = true) (hd : decode c.code pc = .ok (.areturn, 1)) (hl : meth.locks = false)
    (hc : cells ≤ k) (hn : slots ≤ n) (hQ : Q (some w) T.heap locs) : Go p e below T (mkF m pc Ls (w :: rest)) (Po s Q k n) := by
  refine out X hl (fun h => by rw [hret] at h; cases h) (fun fs hr => retOut X hx hret ?_ (Or.inr (Or.inr (Or.inr (Or.inr ⟨rfl, ht, hw⟩)))) hd hr) hc hn hQ
  rcases ref_cases hw with rfl | ⟨a, rfl⟩ <;> cases t <;> first | rfl | cases ht
theorem outV (X : Stand p l e R s m args below meth c T locs cells slots) (hx : p.tables.exec = Jvm.exec) (hret : meth.sig.returnType = none) (hd : decode c.code pc = .ok (.return_, 1)) (hl : meth.locks = false)
    (hc : cells ≤ k) (hn : slots ≤ n) (hQ : Q none T.heap locs) : Go p e below T (mkF m pc Ls []) (Po s Q k n) :=
  out X hl (fun _ => rfl) (fun fs hr => X.returnOut hx hret hd hr) hc hn hQ
theorem start {y : MethodName} {bytes : ByteArray} {maxL : Nat} {ret : Option FieldType} {ws : List Cond} {rm : Room} {Z : State} {as' : Array Value} {h0 : Heap} (hpl : plainFor y = true)
    (body : ∀ p e s m below meth c T, Stand p l e rm s m as' below meth c T [] 0 0 → p.tables.exec = Jvm.exec → c.code = bytes → c.maxLocals = maxL → s.vm.findClass y.cls = some m.cls → meth.name = y.name → meth.sig.returnType = ret → meth.locks = false → Z.Warmed39 s.vm → T.heap = h0 →
      Go p e below T (entryFrame m as' maxL) (Po s Q k n)) :
    MetFree l y (head1 (Cond.code y bytes maxL ret :: ws) rm) (fun a U => a = as' ∧ Z.Warmed39 U.vm ∧ U.heap = h0) (fun _ _ _ _ _ => True) (fun _ U o U' => ∃ v L, o = .returned v ∧ Q v U'.heap L ∧ FrameEnd U o U' L k n) := by
  refine MetFree.of_bodySF hpl hisR ?_
  intro p e s m args below meth c s₁ Bd hml0 hP hK
  obtain ⟨rfl, hZ, hh⟩ := hP
  exact body p e s m below meth c s₁ (Stand.of_body Bd) Bd.exec Bd.bytes hml0 (findClass_of_methodNamed Bd.named) (name_of_methodNamed Bd.named Bd.method).1 Bd.returns Bd.notSynchronized hZ (by rw [← hh, Bd.state]; rfl)
theorem goAt (q : g = g') (K : Go p e below T g' P) : Go p e below T g P := q ▸ K
end Go
theorem cat_ref {v : Value} (h : v.isRef = true) : v.category = 1 := by cases v <;> simp_all [Value.isRef, Value.category]
section Facts
variable {Z : State} {args : Array Value}
theorem old_le {n0 : Nat} {h : Heap} (O : Old Z n0 h) : n0 ≤ h.size := by
  obtain ⟨rfl, h2⟩ := O
  exact h2.1
theorem fld_of {C n d : String} {t : Term} {a : Addr} {k : Int32} (ev : t.eval args Z none [] Z = some (.ref a)) (h : (Cond.eq (.field t C n d) (.int k)).value args Z none Z [] = some true) : Fld Z Z.heap a C n d (.int k) := by
  obtain ⟨x, y, h1, h2, -, hk⟩ := cmp_v (Or.inl h)
  have h3 : y = .int k := (Option.some.inj h2).symm
  subst h3
  obtain ⟨z, rfl⟩ := hk
  have h4 : z = k := gotT (Cond.eq_ints h1 h2) h
  subst h4
  rw [fld_at ev] at h1
  exact Fld.start h1
theorem fldnull_of {C n d : String} {t : Term} {a : Addr} (ev : t.eval args Z none [] Z = some (.ref a)) (h : (Cond.eq (.field t C n d) .null).value args Z none Z [] = some true) : Fld Z Z.heap a C n d .null := by
  have h1 := null_v h
  rw [fld_at ev] at h1
  exact Fld.start h1
theorem eqint_v {t : Term} {k : Int32} (h : (Cond.eq t (.int k)).value args Z none Z [] = some true) : t.eval args Z none [] Z = some (.int k) := by
  obtain ⟨x, y, h1, h2, -, hk⟩ := cmp_v (Or.inl h)
  have h3 : y = .int k := (Option.some.inj h2).symm
  subst h3
  obtain ⟨z, rfl⟩ := hk
  have h4 : z = k := gotT (Cond.eq_ints h1 h2) h
  subst h4
  exact h1
end Facts
section Small
variable {h h' : Heap} {a : Addr} {sl : Nat} {x : Int32}
theorem ow_wr_char (e : x.toUInt32.toUInt16.toUInt32.toInt32 = x) (W : Wr h h' a sl (.int (nar .char x))) : Wr h h' a sl (.int x) := by rwa [show nar .char x = x from e] at W
theorem ow_fits_char (e : x.toUInt32.toUInt16.toUInt32.toInt32 = x) : fits .char (.int x) = true := by
  have q := fits_nar_char x
  rwa [show nar .char x = x from e] at q
theorem ow_wr_byte (e : x.toInt8.toInt32 = x) (W : Wr h h' a sl (.int (nar .byte x))) : Wr h h' a sl (.int x) := by rwa [show nar .byte x = x from e] at W
theorem ow_fits_byte (e : x.toInt8.toInt32 = x) : fits .byte (.int x) = true := by
  have q := fits_nar_byte x
  rwa [e] at q
theorem char_small (h0 : ¬ x < 0) (h1 : ¬ (65535 : Int32) < x) : x.toUInt32.toUInt16.toUInt32.toInt32 = x := by
  obtain ⟨q1, q2, q3⟩ := c_i2c x
  simp only [Int32.lt_iff_toInt_lt, Int32.reduceToInt] at h0 h1
  exact Int32.toInt_inj.mp (by omega)
theorem char255 (q : ¬ x < 0 ∧ ¬ (255 : Int32) < x) : x.toUInt32.toUInt16.toUInt32.toInt32 = x := char_small q.1 (by
  obtain ⟨q1, q2⟩ := q
  simp only [Int32.lt_iff_toInt_lt, Int32.reduceToInt] at q1 q2 ⊢
  omega)
theorem byte_small (h0 : ¬ x < (-128 : Int32)) (h1 : ¬ (127 : Int32) < x) : x.toInt8.toInt32 = x := by
  obtain ⟨q1, q2, q3⟩ := c_i2b x
  simp only [Int32.lt_iff_toInt_lt, Int32.reduceToInt] at h0 h1
  exact Int32.toInt_inj.mp (by omega)
theorem byte_twice : x.toInt8.toInt32.toInt8.toInt32 = x.toInt8.toInt32 := by simp
theorem and255 (x : Int32) : ¬ (x &&& (255 : Int32)) < 0 ∧ ¬ (255 : Int32) < (x &&& (255 : Int32)) := by
  have h := c_mask x 255 8 (by decide) (by decide)
  simp only [Int32.lt_iff_toInt_lt, Int32.reduceToInt]
  omega
end Small
section Sub
variable {Z : State} {a0 : Array Value}
theorem NSroot {O K : String} {n : Nat} (w : (Cond.noSuperclass O).before a0 Z = true) (wk : (Cond.instantiable K n).before a0 Z = true) (hn : O ≠ K) : NS Z O K := by
  obtain ⟨c, k, h1, h2, h3, -, -⟩ := Cond.noSuperclass_spec w
  obtain ⟨t, kt, g1, -⟩ := Cond.instantiable_spec wk
  have ne := ids_ne h1 g1 hn
  refine ⟨c, t, h1, g1, fun fuel => ?_⟩
  cases fuel with
  | zero => rfl
  | succ f => simp [Vm.isSubclassAux, ne, h2, h3]
theorem NSno {C S K : String} {n : Nat} (w : (Cond.superclass C S).before a0 Z = true) (wk : (Cond.instantiable K n).before a0 Z = true) (N : NS Z C K) (hn : C ≠ K) : ∃ c t, Z.vm.findClass C = some c ∧ Z.vm.findClass K = some t ∧ Z.vm.assignable c t = false := by
  obtain ⟨c, t, h0, g0, n3⟩ := N
  obtain ⟨p, k, kp, h1, h2, h3, h4, h5, -, h7⟩ := Cond.superclass_spec h0 w
  obtain ⟨t', kt, g1, g2, g5, g7, -⟩ := Cond.instantiable_spec wk
  cases g0.symm.trans g1
  rw [Bool.or_eq_false_iff] at g7
  have ne := ids_ne h0 g0 hn
  refine ⟨c, t, h0, g0, ?_⟩
  show Z.vm.assignableAux (255 + 1) c t = false
  simp [Vm.assignableAux, ne, h2, g2, h5, g5, g7.1, Vm.isSubclass, n3]
end Sub
/-- an array of n elements, told by a function -/
def Arf (Z : State) (h : Heap) (a : Addr) (k : ClassId) (ty : FieldType) (n : Nat) (f : Nat → Value) : Prop := ∃ c : Cell, Arr Z h a c ty ∧ c.cls = k ∧ c.slots.size = n ∧ (∀ i, i < n → c.slots[i]? = some (f i)) ∧ ∀ i, i < n → fits ty (f i) = true
section Arf
variable {Z : State} {h h' : Heap} {a b : Addr} {k : ClassId} {ty : FieldType} {n sl : Nat} {f g : Nat → Value} {v : Value} {ws : List Addr} {c : Cell} {j : Int32} {i : Nat}
theorem Arf.lt (F : Arf Z h a k ty n f) : a < h.size := by
  obtain ⟨c, A, -⟩ := F
  exact A.lt
theorem Arf.ext (F : Arf Z h a k ty n f) (E : Ext h h') : Arf Z h' a k ty n f := by
  obtain ⟨c, A, r⟩ := F
  exact ⟨c, A.ext E, r⟩
theorem Arf.other (F : Arf Z h b k ty n f) (W : Wr h h' a sl v) (q : b ≠ a) : Arf Z h' b k ty n f := by
  obtain ⟨c, A, r⟩ := F
  exact ⟨c, A.other W q, r⟩
theorem Arf.keep (F : Arf Z h a k ty n f) (K : Keep h h' ws) (q : a ∉ ws) : Arf Z h' a k ty n f := by
  obtain ⟨c, A, r⟩ := F
  exact ⟨c, ⟨K.2.1 a c A.1 q, A.2⟩, r⟩
theorem Arf.congr (F : Arf Z h a k ty n f) (q : ∀ i, i < n → g i = f i) : Arf Z h a k ty n g := by
  obtain ⟨c, A, r1, r2, H, G⟩ := F
  exact ⟨c, A, r1, r2, fun i hi => by rw [q i hi]; exact H i hi, fun i hi => by rw [q i hi]; exact G i hi⟩
theorem Arf.set (A : Arr Z h a c ty) (q1 : c.cls = k) (S : c.slots.size = n) (H : ∀ i, i < n → c.slots[i]? = some (f i)) (G : ∀ i, i < n → fits ty (f i) = true) (hv : fits ty v = true) (W : Wr h h' a i v) (hi : i < n) : Arf Z h' a k ty n (fun x => if x = i then v else f x) := by
  refine ⟨c.setSlot i v, A.same W, q1, by rw [sz_set]; exact S, fun x hx => ?_, fun x hx => ?_⟩
  · show (c.setSlot i v).slots[x]? = some (if x = i then v else f x)
    by_cases e : x = i
    · subst e
      simp [Cell.setSlot, S, hx]
    · rw [if_neg e, ← H x hx]
      exact Cell.slots_setSlot_ne v (Ne.symm e)
  · by_cases e : x = i
    · simp [e, hv]
    · simp [e, G x hx]
theorem Arv.arf {z : Int32} {vs : List Value} {d : Value} (F : Arv Z h a k ty z vs d) (hz : z.toNatClampNeg = n) : Arf Z h a k ty n (fun i => vs.getD i d) := by
  obtain ⟨c, A, r1, r2, r3, H, G⟩ := F
  exact ⟨c, A, r1, by rw [r2, hz], fun i hi => H i (by rw [r2, hz]; exact hi), fun i hi => G i (by rw [r2, hz]; exact hi)⟩
theorem arf_in (S : c.slots.size = n) (hk : j.toInt = i) (hn : i < n) : ¬ (j < 0 ∨ c.slots.size ≤ j.toNatClampNeg) := by
  simp only [Int32.lt_iff_toInt_lt, Int32.toNatClampNeg, Int32.reduceToInt, S, hk]
  omega
theorem arf_at (H : ∀ i, i < n → c.slots[i]? = some (f i)) (hk : j.toInt = i) (hn : i < n) : c.slots[j.toNatClampNeg]? = some (f i) := by
  have e : j.toNatClampNeg = i := by simp only [Int32.toNatClampNeg, hk]; omega
  rw [e]
  exact H i hn
theorem arf_ix (hk : j.toInt = i) : j.toNatClampNeg = i := by simp only [Int32.toNatClampNeg, hk]; omega
theorem arf_len {z : Int32} (S : c.slots.size = n) (hz : z.toInt = n) : c.slots.size.toInt32 = z := by
  rw [S]
  have h1 := Int32.toInt_lt z
  exact Int32.toInt_inj.mp (by rw [len_toInt (by omega)]; exact hz.symm)
theorem Arf.one (F : Arf Z h a k ty n f) (hi : i < n) : fits ty (f i) = true := by
  obtain ⟨c, A, r1, r2, H, G⟩ := F
  exact G i hi
theorem Arf.new {z : Int32} (A : Arr Z h a (newA k ty z) ty) (q : ¬ z < 0) (hz : z.toNatClampNeg = n) : Arf Z h a k ty n (fun _ => defaultValue ty) := (Arv.arf (Arv.new A q) hz).congr fun i _ => by simp
theorem cloneF {p : Program} {l : Launch} {e : Env} {R : Room} {s : State} {m : MethodId} {args : Array Value} {below : List Frame} {meth : Method} {c : Code} {T : State} {locs : List Loc} {cells slots : Nat} (X : Stand p l e R s m args below meth c T locs cells slots) (hx : p.tables.exec = Jvm.exec) (hZ : Z.Warmed39 s.vm) {a0 : Array Value} {own ad : String} {index : Nat} (hown : s.vm.findClass own = some m.cls)
    (w1 : (Cond.methodLink own index ⟨ad, "clone", "()Ljava/lang/Object;"⟩).before a0 Z = true) (w2 : (Cond.sameMethod ad "java/lang/Object" "clone" "()Ljava/lang/Object;").before a0 Z = true) (w3 : (Cond.native ⟨"java/lang/Object", "clone", "()Ljava/lang/Object;"⟩).before a0 Z = true)
    (w4 : (Cond.instanceMethod ⟨"java/lang/Object", "clone", "()Ljava/lang/Object;"⟩).before a0 Z = true) (w5 : (Cond.selects ad ⟨ad, "clone", "()Ljava/lang/Object;"⟩ ⟨"java/lang/Object", "clone", "()Ljava/lang/Object;"⟩).before a0 Z = true) (w6 : (Cond.castable ad "java/lang/Cloneable").before a0 Z = true)
    (eT : T.heap = h) (F : Arf Z h a k ty n f) (E : Exa Z h a ad) {g : JFrame} (hg : g.method = m) (hsize : g.locals.size = c.maxLocals) {rest : List Value} (hst : g.stack = .ref a :: rest) (hd : decode c.code g.pc = .ok (.invokevirtual index, 3))
    (hf : 1 ≤ R.frames) {W cap : Nat} (hW : 2 * g.monitorRoom + (rest.map fun v => v.category).sum ≤ W) (hl : W + 14 ≤ R.locals) (hcap : n ≤ cap) (hc : cells + 1 ≤ R.cells) (hsl : slots + cap ≤ R.slots) :
    ∃ T' h', Stand p l e R s m args below meth c T' locs (cells + 1) (slots + cap) ∧ T'.heap = h' ∧ Ext h h' ∧ Arf Z h' h.size k ty n f ∧ Exa Z h' h.size ad ∧
      ∀ target, Steps p.tables e below (T'.setTop { g with pc := g.pc + 3, stack := .ref h.size :: rest }) target → Steps p.tables e below (T.setTop g) target := by
  obtain ⟨cl, A, q1, S, H, G⟩ := F
  have FC : FitC Z cl := fitC_of A fun i hi v hv => by rw [H i (S ▸ hi)] at hv; cases hv; exact G i (S ▸ hi)
  obtain ⟨T', h', X', e', ex, A', E', st⟩ := cloneA X hx hZ hown w1 w2 w3 w4 w5 w6 eT A E FC hg hsize hst hd hf hW hl (by rw [S]; exact hcap) hc hsl
  exact ⟨T', h', X', e', ex, ⟨cloneOf cl, A', q1, S, H, G⟩, E', st⟩
end Arf
theorem and1_cases (x : Int32) : x &&& (1 : Int32) = (0 : Int32) ∨ x &&& (1 : Int32) = (1 : Int32) := and_one x
theorem and3_cases (x : Int32) : x &&& (3 : Int32) = (0 : Int32) ∨ x &&& (3 : Int32) = (1 : Int32) ∨ x &&& (3 : Int32) = (2 : Int32) ∨ x &&& (3 : Int32) = (3 : Int32) := by
  have h := c_mask x 3 2 (by decide) (by decide)
  simp only [← Int32.toInt_inj]
  have : (0 : Int32).toInt = 0 := by decide
  have : (1 : Int32).toInt = 1 := by decide
  have : (2 : Int32).toInt = 2 := by decide
  have : (3 : Int32).toInt = 3 := by decide
  omega
end Jvm.OwnKit
namespace Jvm.OwnKit
open Sem ClassFile Op Lib Jvm.Stand Jvm.Free Jvm.LawKit Jvm.RoadKit
section GoW
variable {p : Program} {l : Launch} {e : Env} {R : Room} {s : State} {m : MethodId} {args : Array Value} {below : List Frame} {meth : Method} {c : Code} {T T' : State} {locs : List Loc} {cells slots : Nat} {g g' : JFrame} {Q : Option Value → Heap → List Loc → Prop} {k n pc : Nat} {Ls : Array Slot} {rest : List Value} {Z : State} {EL : List (String × Nat)} {vm0 : Vm} {a0 : Array Value} {h h0 : Heap} {k0 : Nat}
abbrev PoW (s Z : State) (EL : List (String × Nat)) (Q : Option Value → Heap → List Loc → Prop) (k n : Nat) : Outcome → State → Prop := fun o U' => ∃ v L, o = .returned v ∧ Q v U'.heap L ∧ CHr Z EL s.vm s.heap U'.vm U'.heap ∧ ReturnedEndW s o U' L k n
theorem outW (X : Stand p l e R (s.setVm vm0) m args below meth c T locs cells slots) (hZ : Z.Warmed39 vm0) (hEL : EW Z a0 EL) (eT : T.heap = h) (hS : s.Since vm0 k0) (hk : k0 ≤ h.size) (CR : CHr Z EL s.vm s.heap vm0 h) {v : Option Value} (hl : meth.locks = false) (hv : meth.sig.returnType = none → v = none)
    (hst : ∀ fs : List Frame, (∀ (f : JFrame) (acts : List Action), f.method = m → f.locked = none → f.entered = [] → (doReturn e (T.setTop f) acts v).1 = T.setFrames fs) → Steps p.tables e below (T.setTop g) (T.setFrames fs))
    (hc : cells ≤ k) (hn : slots ≤ n) (hQ : Q v T.heap locs) : Go p e below T g (PoW s Z EL Q k n) := by
  obtain ⟨fs, hr, hrun, hended, hW, h1, h2, hsame⟩ := X.leaveW hS (by rw [eT]; exact hk) (v := v) hv hl
  have hC : CHr Z EL s.vm s.heap T.vm T.heap := by rw [eT]; exact CR.trans (CHv.at X hZ hEL CR.1)
  exact ⟨_, _, hst fs hr, hrun, hended, v, locs, rfl, hQ, hC, hW, h1, h2, hsame.mono hc hn⟩
theorem outNW (X : Stand p l e R (s.setVm vm0) m args below meth c T locs cells slots) (hx : p.tables.exec = Jvm.exec) (hZ : Z.Warmed39 vm0) (hEL : EW Z a0 EL) (eT : T.heap = h) (hS : s.Since vm0 k0) (hk : k0 ≤ h.size) (CR : CHr Z EL s.vm s.heap vm0 h) {t : FieldType} {z : Int32} (hret : meth.sig.returnType = some t) (ht : t = .boolean ∨ t = .byte ∨ t = .char ∨ t = .short) (hd : decode c.code pc = .ok (.ireturn, 1)) (hl : meth.locks = false)
    (hc : cells ≤ k) (hn : slots ≤ n) (hQ : Q (some (.int (nar t z))) T.heap locs) : Go p e below T (mkF m pc Ls (.int z :: rest)) (PoW s Z EL Q k n) :=
  outW X hZ hEL eT hS hk CR hl (fun h => by rw [hret] at h; cases h) (fun fs hr => retN X hx hret ht hd hr) hc hn hQ
theorem outIW (X : Stand p l e R (s.setVm vm0) m args below meth c T locs cells slots) (hx : p.tables.exec = Jvm.exec) (hZ : Z.Warmed39 vm0) (hEL : EW Z a0 EL) (eT : T.heap = h) (hS : s.Since vm0 k0) (hk : k0 ≤ h.size) (CR : CHr Z EL s.vm s.heap vm0 h) {z : Int32} (hret : meth.sig.returnType = some .int) (hd : decode c.code pc = .ok (.ireturn, 1)) (hl : meth.locks = false)
    (hc : cells ≤ k) (hn : slots ≤ n) (hQ : Q (some (.int z)) T.heap locs) : Go p e below T (mkF m pc Ls (.int z :: rest)) (PoW s Z EL Q k n) :=
  outW X hZ hEL eT hS hk CR hl (fun h => by rw [hret] at h; cases h) (fun fs hr => retOut X hx hret rfl (Or.inl ⟨rfl, Or.inl rfl, _, rfl⟩) hd hr) hc hn hQ
theorem outAW (X : Stand p l e R (s.setVm vm0) m args below meth c T locs cells slots) (hx : p.tables.exec = Jvm.exec) (hZ : Z.Warmed39 vm0) (hEL : EW Z a0 EL) (eT : T.heap = h) (hS : s.Since vm0 k0) (hk : k0 ≤ h.size) (CR : CHr Z EL s.vm s.heap vm0 h) {w : Value} {t : FieldType} (hret : meth.sig.returnType = some t) (ht : t.isReference = true) (hw : w.isRef = true) (hd : decode c.code pc = .ok (.areturn, 1)) (hl : meth.locks = false)
    (hc : cells ≤ k) (hn : slots ≤ n) (hQ : Q (some w) T.heap locs) : Go p e below T (mkF m pc Ls (w :: rest)) (PoW s Z EL Q k n) := by
  refine outW X hZ hEL eT hS hk CR hl (fun h => by rw [hret] at h; cases h) (fun fs hr => retOut X hx hret ?_ (Or.inr (Or.inr (Or.inr (Or.inr ⟨rfl, ht, hw⟩)))) hd hr) hc hn hQ
  rcases ref_cases hw with rfl | ⟨a, rfl⟩ <;> cases t <;> first | rfl | cases ht
theorem outVW (X : Stand p l e R (s.setVm vm0) m args below meth c T locs cells slots) (hx : p.tables.exec = Jvm.exec) (hZ : Z.Warmed39 vm0) (hEL : EW Z a0 EL) (eT : T.heap = h) (hS : s.Since vm0 k0) (hk : k0 ≤ h.size) (CR : CHr Z EL s.vm s.heap vm0 h) (hret : meth.sig.returnType = none) (hd : decode c.code pc = .ok (.return_, 1)) (hl : meth.locks = false)
    (hc : cells ≤ k) (hn : slots ≤ n) (hQ : Q none T.heap locs) : Go p e below T (mkF m pc Ls []) (PoW s Z EL Q k n) :=
  outW X hZ hEL eT hS hk CR hl (fun _ => rfl) (fun fs hr => X.returnOut hx hret hd hr) hc hn hQ
theorem startW {y : MethodName} {bytes : ByteArray} {maxL : Nat} {ret : Option FieldType} {ws : List Cond} {rm : Room} {as' : Array Value} (hpl : plainFor y = true)
    (body : ∀ p e s m below meth c T, Stand p l e rm (s.setVm s.vm) m as' below meth c T [] 0 0 → p.tables.exec = Jvm.exec → c.code = bytes → c.maxLocals = maxL → s.vm.findClass y.cls = some m.cls → meth.name = y.name → meth.sig.returnType = ret → meth.locks = false → Z.Warmed39 s.vm → T.heap = h0 → s.Since s.vm 0 → CHr Z EL s.vm s.heap s.vm h0 →
      Go p e below T (entryFrame m as' maxL) (PoW s Z EL Q k n)) :
    MetFree l y (head1 (Cond.code y bytes maxL ret :: ws) rm) (fun a U => a = as' ∧ Z.Warmed39 U.vm ∧ U.heap = h0 ∧ CHv Z EL U.vm h0) (fun _ _ _ _ _ => True) (fun _ U o U' => ∃ v L, o = .returned v ∧ Q v U'.heap L ∧ CHr Z EL U.vm U.heap U'.vm U'.heap ∧ ReturnedEndW U o U' L k n) := by
  refine MetFree.of_bodySF hpl hisR ?_
  intro p e s m args below meth c s₁ Bd hml0 hP hK
  obtain ⟨rfl, hZ, hh, hC⟩ := hP
  have X : Stand p l e rm s m args below meth c s₁ [] 0 0 := Stand.of_body Bd
  exact body p e s m below meth c s₁ X Bd.exec Bd.bytes hml0 (findClass_of_methodNamed Bd.named) (name_of_methodNamed Bd.named Bd.method).1 Bd.returns Bd.notSynchronized hZ (by rw [← hh, Bd.state]; rfl) ((State.WarmedH.refl s).since 0) (by rw [hh]; exact CHr.refl hC)
/-- a String whose value is still null is no constant's -/
theorem safeNull {x : Addr} {vm : Vm} (hal : Z.vm.Alike vm) (E : Exa Z h x "java/lang/String") (F : Fld Z h x "java/lang/String" "value" "[B" .null) : Safe Z EL vm h x := fun B => by
  obtain ⟨cell, k, e1, e2, e3, -, -⟩ := E
  obtain ⟨c', cf, kf, i, f, f1, f2, f3, f4, f5, f6, f7⟩ := F
  cases e1.symm.trans f1
  obtain ⟨p, -, u, a, -, q, -, G, rfl | rfl⟩ := B
  · cases (show h[q.sa]? = some q.sC from G.ha).symm.trans e1
    obtain ⟨cS, ⟨hs, -, -⟩, -⟩ := G
    obtain ⟨-, -, -, ⟨c4, k4, i4, r1, r2⟩, -, -, -, r7, -⟩ := hs
    obtain ⟨k', r3, -⟩ := State.fieldFound?_setVm (s := Z) hal f2
    have r1' : (Z.setVm vm).fieldFound? "java/lang/String" "value" "[B" = some (c4, k4, i4, q.fSV) := r1
    cases r3.symm.trans r1'
    cases f7.symm.trans r7
  · cases (show h[q.sd]? = some q.SA from G.hd).symm.trans e1
    obtain ⟨cS, -, -, g, -⟩ := G
    have g' : Z.vm.findClass "[B" = some q.SA.cls := by rw [← hal.findClass]; exact g
    obtain ⟨k1, q1, q2⟩ := Vm.findClass_spec g'
    obtain ⟨k2, q3, q4⟩ := Vm.findClass_spec e2
    cases q1.symm.trans q3
    exact absurd (q2.symm.trans q4) (by decide)
end GoW
end Jvm.OwnKit
namespace Jvm.OwnKit
open Sem ClassFile Op Lib Jvm.Stand Jvm.Free Jvm.LawKit Jvm.RoadKit
section Str
variable {Z : State} {h h' : Heap} {x w o : Addr} {cs : List Int32} {sl n : Nat} {v : Value} {ws : List Addr} {C : String} {a0 : Array Value} {k : ClassId} {ty : FieldType} {z : Int32} {vs : List Value} {d : Value}
/-- x is a Latin-1 String of these chars -/
def StrIs (Z : State) (h : Heap) (x : Addr) (cs : List Int32) : Prop := ∃ (t : Addr) (k : ClassId), Exa Z h x "java/lang/String" ∧ Fld Z h x "java/lang/String" "value" "[B" (.ref t) ∧ Fld Z h x "java/lang/String" "coder" "B" (.int 0) ∧ Arv Z h t k .byte (Int32.ofNat cs.length) ((cs.map fun c => c.toInt8.toInt32).map Value.int) (.int 0) ∧ (∀ c ∈ cs, ¬ c < 0 ∧ ¬ (255 : Int32) < c) ∧ cs.length ≤ 4000
/-- w is no byte[] -/
def Apart (Z : State) (h : Heap) (w : Addr) : Prop := ∀ (t : Addr) (k : ClassId) (z : Int32) (vs : List Value) (d : Value), Arv Z h t k .byte z vs d → t ≠ w
theorem Apart.exa (E : Exa Z h w C) (wi : (Cond.instantiable C n).before a0 Z = true) : Apart Z h w := fun _ _ _ _ _ F => Ne.symm (E.neArv F wi)
theorem Apart.arv (F : Arv Z h w k ty z vs d) (ht : ty ≠ .byte) : Apart Z h w := fun t k' z' vs' d' G e => by
  subst e
  obtain ⟨c1, ⟨e1, ⟨-, k1, f1, p1, g1⟩, -⟩, -⟩ := F
  obtain ⟨c2, ⟨e2, ⟨-, k2, f2, p2, g2⟩, -⟩, -⟩ := G
  cases e1.symm.trans e2
  cases f1.symm.trans f2
  rw [g1] at g2
  cases g2
  exact ht rfl
theorem apart0 : ∀ x ∈ ([] : List Addr), Apart Z h x := fun _ q => nomatch q
theorem apartS (A : Apart Z h w) (r : ∀ x ∈ ws, Apart Z h x) : ∀ x ∈ w :: ws, Apart Z h x := fun x q => (List.mem_cons.mp q).elim (fun u => u ▸ A) (r x)
theorem StrIs.exa (F : StrIs Z h x cs) : Exa Z h x "java/lang/String" := by
  obtain ⟨t, k, E, -⟩ := F
  exact E
theorem StrIs.lt (F : StrIs Z h x cs) : x < h.size := F.exa.lt
theorem StrIs.small (F : StrIs Z h x cs) : ∀ c ∈ cs, ¬ c < 0 ∧ ¬ (255 : Int32) < c := by
  obtain ⟨t, k, -, -, -, -, hp, -⟩ := F
  exact hp
theorem StrIs.ext (F : StrIs Z h x cs) (E : Ext h h') : StrIs Z h' x cs := by
  obtain ⟨t, k, E1, V1, C1, K1, r⟩ := F
  exact ⟨t, k, E1.ext E, V1.ext E, C1.ext E, K1.ext E, r⟩
theorem StrIs.wr (F : StrIs Z h x cs) (W : Wr h h' o sl v) (ne : x ≠ o) (A : Apart Z h o) : StrIs Z h' x cs := by
  obtain ⟨t, k, E1, V1, C1, K1, r⟩ := F
  exact ⟨t, k, E1.wr W, V1.other W (Or.inl ne), C1.other W (Or.inl ne), K1.other W (A _ _ _ _ _ K1), r⟩
theorem StrIs.keep (F : StrIs Z h x cs) (K : Keep h h' ws) (q : x ∉ ws) (A : ∀ y ∈ ws, Apart Z h y) : StrIs Z h' x cs := by
  obtain ⟨t, k, E1, V1, C1, K1, r⟩ := F
  exact ⟨t, k, E1.keep K, V1.keep K q, C1.keep K q, K1.keep K (fun m => A t m _ _ _ _ _ K1 rfl), r⟩
theorem StrIs.of {t : Addr} (E : Exa Z h x "java/lang/String") (V : Fld Z h x "java/lang/String" "value" "[B" (.ref t)) (C : Fld Z h x "java/lang/String" "coder" "B" (.int 0)) (K : Arv Z h t k .byte z vs (.int 0)) (hz : z = Int32.ofNat cs.length) (hv : vs = (cs.map fun c => c.toInt8.toInt32).map Value.int) (hp : ∀ c ∈ cs, ¬ c < 0 ∧ ¬ (255 : Int32) < c) (hl : cs.length ≤ 4000) : StrIs Z h x cs := by
  subst hz hv
  exact ⟨t, k, E, V, C, K, hp, hl⟩
theorem own_one255 {k : Int32} (h : ¬ k < 0 ∧ ¬ (255 : Int32) < k) : ∀ c ∈ ([k] : List Int32), ¬ c < 0 ∧ ¬ (255 : Int32) < c := by
  intro c hc
  cases List.mem_singleton.mp hc
  exact h
end Str
end Jvm.OwnKit
namespace Jvm.OwnKit
theorem own_sm0 : ∀ c ∈ ([] : List Int32), ¬ c < 0 ∧ ¬ (255 : Int32) < c := fun _ q => nomatch q
theorem own_sm1 {k : Int32} {cs : List Int32} (h : ¬ k < 0 ∧ ¬ (255 : Int32) < k) (t : ∀ c ∈ cs, ¬ c < 0 ∧ ¬ (255 : Int32) < c) : ∀ c ∈ k :: cs, ¬ c < 0 ∧ ¬ (255 : Int32) < c := fun c q => (List.mem_cons.mp q).elim (fun u => u ▸ h) (t c)
theorem own_char255 {k x : Int32} (h : k = (x &&& (255 : Int32)).toUInt32.toUInt16.toUInt32.toInt32) : ¬ k < 0 ∧ ¬ (255 : Int32) < k := by
  rw [char255 (and255 x)] at h
  rw [h]
  exact and255 x
end Jvm.OwnKit
namespace Jvm.OwnKit
theorem own_ofNatI {n : Nat} (h : n ≤ 4000) : (Int32.ofNat n).toInt = n := by
  have : (Int32.ofNat n).toInt = ((n : Int)).bmod (2 ^ 32) := Int32.toInt_ofNat'
  rw [this, Int.bmod_def]
  omega
theorem own_ofNat {n : Nat} (h : n ≤ 4000) : (Int32.ofNat n).toNatClampNeg = n := by
  simp only [Int32.toNatClampNeg, own_ofNatI h]
  omega
theorem own_sh0 {x : Int32} : x >>> ((0 : Int32) &&& 31) = x := by
  show x >>> (0 : Int32) = x
  apply Int32.toBitVec_inj.mp
  simp [Int32.toBitVec_shiftRight]
end Jvm.OwnKit
namespace Jvm.OwnKit
def own_by (cs : List Int32) (i : Nat) : Int32 := (cs.map fun c => c.toInt8.toInt32).getD i 0
theorem own_byv (cs : List Int32) (i : Nat) : Value.int (own_by cs i) = ((cs.map fun c => c.toInt8.toInt32).map Value.int).getD i (.int 0) := by
  unfold own_by
  generalize (cs.map fun c => c.toInt8.toInt32) = l
  by_cases q : i < l.length
  · simp [List.getD, q]
  · simp [List.getD, List.getElem?_eq_none (Nat.le_of_not_lt q)]
end Jvm.OwnKit
/- laws to paste: Road.backV (cut by pick.py; bodies as the Statement names them) -/
namespace Jvm.Pilot.@@N@@
namespace StrChars
open Jvm Sem ClassFile Op Lib Jvm.Stand Jvm.Free.XT Jvm.Free.ALB Jvm.Free.JM Jvm.Free
open Jvm.Lib.Cold (StaticIs)
/-- a char array whose places are chars -/
def Ch (a : Addr) (A : Cell) (U : State) : Prop := Arr .char a A U ∧ Typed .char A
theorem Ch.mv {a : Addr} {A : Cell} {U U' : State} (h : Ch a A U) (hal : U.vm.Alike U'.vm) (hh : U'.heap = U.heap) : Ch a A U' := ⟨h.1.mv hal hh, h.2⟩
theorem Ch.keep {a : Addr} {A : Cell} {U U' : State} (h : Ch a A U) (hal : U.vm.Alike U'.vm) (hk : U'.heap[a]? = some A) : Ch a A U' := ⟨h.1.keep hal hk, h.2⟩
/-- what place i of a char[]'s cell holds -/
def cv (A : Cell) (i : Nat) : Int32 := match A.slots[i]? with | some (.int x) => x | _ => 0
theorem Ch.get {a : Addr} {A : Cell} {U : State} (h : Ch a A U) {i : Nat} (hi : i < A.slots.size) : A.slots[i]? = some (.int (cv A i)) := by
  have e := Array.getElem?_eq_getElem hi
  have f := h.2 i _ e
  unfold cv; rw [e]
  generalize A.slots[i] = v at f
  cases v <;> simp [fits] at f ⊢
/-- the byte that i2b leaves of a char -/
def lo8 (x : Int32) : Int32 := x.toInt8.toInt32
theorem fits_lo8 (y : Int32) : fits .byte (.int (lo8 y)) = true := by
  have h1 := y.toInt8.le_toInt
  have h2 := y.toInt8.toInt_lt
  simp only [lo8, fits, Bool.and_eq_true, decide_eq_true_eq, Int32.le_iff_toInt_le, Int8.toInt_toInt32, show (-128 : Int32).toInt = -128 from by decide, show (127 : Int32).toInt = 127 from by decide]
  omega
/-- A' is A but that each place j of lo .. hi - 1 holds f j -/
def Laid (A A' : Cell) (lo hi : Nat) (f : Nat → Value) : Prop := A'.cls = A.cls ∧ A'.vm = A.vm ∧ A'.slots.size = A.slots.size ∧ ∀ i, A'.slots[i]? = if lo ≤ i ∧ i < hi then some (f i) else A.slots[i]?
theorem Laid.zero (A : Cell) (lo : Nat) (f : Nat → Value) : Laid A A lo (lo + 0) f := ⟨rfl, rfl, rfl, fun i => by rw [if_neg (by omega)]⟩
theorem Laid.step {A Ak : Cell} {lo k : Nat} {f : Nat → Value} {v : Value} (h : Laid A Ak lo k f) (hlo : lo ≤ k) (hk : k < Ak.slots.size) (hv : v = f k) : Laid A (Ak.setSlot k v) lo (k + 1) f := by
  refine ⟨h.1, h.2.1, by simpa [Cell.setSlot] using h.2.2.1, fun i => ?_⟩
  by_cases e : k = i
  · subst e; rw [Cell.slots_setSlot_self v hk, if_pos (by omega), hv]
  · rw [Cell.slots_setSlot_ne v e, h.2.2.2 i]
    by_cases q : lo ≤ i ∧ i < k
    · rw [if_pos q, if_pos (by omega)]
    · rw [if_neg q, if_neg (by omega)]
def U16 : String := "java/lang/StringUTF16"
namespace Cmp5
def yN : MethodName := ⟨"java/lang/StringUTF16", "compress", "([CI[BII)I"⟩
abbrev yB : ByteArray := jdk_52_method_21_code
theorem d0 : decode yB 0 = .ok (.iconst 0, 1) := by decide +kernel
theorem d1 : decode yB 1 = .ok (.istore 5, 2) := by decide +kernel
theorem d3 : decode yB 3 = .ok (.iload 5, 2) := by decide +kernel
theorem d5 : decode yB 5 = .ok (.iload 4, 2) := by decide +kernel
theorem d7 : decode yB 7 = .ok (.if_icmp (.ge) 37, 3) := by decide +kernel
theorem d10 : decode yB 10 = .ok (.aload_n 0, 1) := by decide +kernel
theorem d11 : decode yB 11 = .ok (.iload_n 1, 1) := by decide +kernel
theorem d12 : decode yB 12 = .ok (.caload, 1) := by decide +kernel
theorem d13 : decode yB 13 = .ok (.istore 6, 2) := by decide +kernel
theorem d15 : decode yB 15 = .ok (.iload 6, 2) := by decide +kernel
theorem d17 : decode yB 17 = .ok (.sipush 255, 3) := by decide +kernel
theorem d20 : decode yB 20 = .ok (.if_icmp (.le) 6, 3) := by decide +kernel
theorem d26 : decode yB 26 = .ok (.aload_n 2, 1) := by decide +kernel
theorem d27 : decode yB 27 = .ok (.iload_n 3, 1) := by decide +kernel
theorem d28 : decode yB 28 = .ok (.iload 6, 2) := by decide +kernel
theorem d30 : decode yB 30 = .ok (.i2b, 1) := by decide +kernel
theorem d31 : decode yB 31 = .ok (.bastore, 1) := by decide +kernel
theorem d32 : decode yB 32 = .ok (.iinc 1 1, 3) := by decide +kernel
theorem d35 : decode yB 35 = .ok (.iinc 3 1, 3) := by decide +kernel
theorem d38 : decode yB 38 = .ok (.iinc 5 1, 3) := by decide +kernel
theorem d41 : decode yB 41 = .ok (.goto (-38), 3) := by decide +kernel
theorem d44 : decode yB 44 = .ok (.iload 4, 2) := by decide +kernel
theorem d46 : decode yB 46 = .ok (.ireturn, 1) := by decide +kernel
def site : List Cond := []
def tab : Cond := tabOf yN yB 7 (some .int) site
def P (b : Addr) (A : Cell) (d : Addr) (B : Cell) (o q len : Nat) (args : Array Value) (s : State) : Prop := args = #[.ref b, .int (Int32.ofNat o), .ref d, .int (Int32.ofNat q), .int (Int32.ofNat len)] ∧ Ch b A s ∧ Arr .byte d B s ∧ b ≠ d ∧ o + len ≤ A.slots.size ∧ q + len ≤ B.slots.size ∧ ∀ i, i < len → ¬ 255 < cv A (o + i)
def E (b : Addr) (A : Cell) (d : Addr) (B : Cell) (o q len : Nat) (r : Option Value) (s u : State) : Prop := r = some (.int (Int32.ofNat len)) ∧ ∃ B', Put d B' s u ∧ Laid B B' q (q + len) (fun j => Value.int (lo8 (cv A (o + (j - q)))))
/-- no char of the range above 255: len; the places written hold each char's low byte -/
theorem law (l : Launch) (b : Addr) (A : Cell) (d : Addr) (B : Cell) (o q len : Nat) : Law l yN 5 5 0 0 yB 7 (some .int) site (P b A d B o q len) (E b A d B o q len) (copyLocs d q len) 0 0 := by
  refine Law.of_walk (plainFor_of_name (by decide +kernel)) (by decide +kernel) (by decide +kernel) (by decide) (fun _ _ h => by rw [h.1]; rfl) (fun _ U U' hal hh h => ⟨h.1, h.2.1.mv hal hh, h.2.2.1.mv hal hh, h.2.2.2⟩) (fun r U U' V V' h1 hal h2 h => ⟨h.1, h.2.elim fun B' q => ⟨B', q.1.mv h1 h2, q.2⟩⟩) ?_
  intro p e s m args below meth c s₁ X0 hexec hbytes hml hret hlk hnm hown hh0 W hP
  obtain ⟨rfl, hA, hB, hne, l1, l2, hp⟩ := hP
  have c1 : Steps p.tables e below (s₁.setTop (entryFrame m #[.ref b, .int (Int32.ofNat o), .ref d, .int (Int32.ofNat q), .int (Int32.ofNat len)] 7)) (s₁.setTop (mkF m 0 #[.val (.ref b), .val (.int (Int32.ofNat o)), .val (.ref d), .val (.int (Int32.ofNat q)), .val (.int (Int32.ofNat len)), .unset, .unset] [])) := entry rfl
  have hA0 := hA.1.mv X0.warmed.alike hh0
  have hB0 := hB.mv X0.warmed.alike hh0
  have a31 := hA.1.2.2.2
  have c2 : Steps p.tables e below (s₁.setTop (entryFrame m #[.ref b, .int (Int32.ofNat o), .ref d, .int (Int32.ofNat q), .int (Int32.ofNat len)] 7)) (s₁.setTop (mkF m 3 #[.val (.ref b), .val (.int (Int32.ofNat o)), .val (.ref d), .val (.int (Int32.ofNat q)), .val (.int (Int32.ofNat len)), .val (.int 0), .unset] [])) := c1.trans (by
    refine iconstV X0.here hexec rfl 0 (hb hbytes d0) (by decide) ?_
    refine XS.istore X0.here hexec rfl (hb hbytes d1) rfl rfl ?_
    exact Steps.refl _)
  have loop : ∀ (r i : Nat), i + r = len → ∀ (z : Slot), (z = .unset ∨ ∃ w, z = .val w ∧ w.category = 1) → ∀ (Tl : State) (Bk : Cell), Stand p l e { frames := 0, locals := 0, cells := 0, slots := 0 } s m #[.ref b, .int (Int32.ofNat o), .ref d, .int (Int32.ofNat q), .int (Int32.ofNat len)] below meth c Tl ([] ++ copyLocs d q i) 0 0 → Put d Bk s₁ Tl → Laid B Bk q (q + i) (fun j => Value.int (lo8 (cv A (o + (j - q))))) →
      Steps p.tables e below (s₁.setTop (entryFrame m #[.ref b, .int (Int32.ofNat o), .ref d, .int (Int32.ofNat q), .int (Int32.ofNat len)] 7)) (Tl.setTop (mkF m 3 #[.val (.ref b), .val (.int (Int32.ofNat (o + i))), .val (.ref d), .val (.int (Int32.ofNat (q + i))), .val (.int (Int32.ofNat len)), .val (.int (Int32.ofNat i)), z] [])) → ∃ (T' : State) (B' : Cell) (z' : Slot), Stand p l e { frames := 0, locals := 0, cells := 0, slots := 0 } s m #[.ref b, .int (Int32.ofNat o), .ref d, .int (Int32.ofNat q), .int (Int32.ofNat len)] below meth c T' ([] ++ copyLocs d q len) 0 0 ∧ Put d B' s₁ T' ∧ Laid B B' q (q + len) (fun j => Value.int (lo8 (cv A (o + (j - q))))) ∧
      Steps p.tables e below (s₁.setTop (entryFrame m #[.ref b, .int (Int32.ofNat o), .ref d, .int (Int32.ofNat q), .int (Int32.ofNat len)] 7)) (T'.setTop (mkF m 3 #[.val (.ref b), .val (.int (Int32.ofNat (o + len))), .val (.ref d), .val (.int (Int32.ofNat (q + len))), .val (.int (Int32.ofNat len)), .val (.int (Int32.ofNat len)), z'] [])) := by
    intro r
    induction r with
    | zero =>
      intro i hi z hz Tl Bk Xl pl fl cl
      have hil : i = len := by omega
      rw [hil] at Xl fl cl
      exact ⟨Tl, Bk, z, Xl, pl, fl, cl⟩
    | succ r ih =>
      intro i hi z hz Tl Bk Xl pl fl cl
      have all := X0.warmed.alike.symm.trans Xl.warmed.alike
      have hAl := hA0.keep all (pl.other hne hA0.1)
      have hBk := hB0.like all pl.1 fl.1 fl.2.1 fl.2.2.1
      have hlt : q + i < Bk.slots.size := by rw [fl.2.2.1]; omega
      have c3 : Steps p.tables e below (s₁.setTop (entryFrame m #[.ref b, .int (Int32.ofNat o), .ref d, .int (Int32.ofNat q), .int (Int32.ofNat len)] 7)) (Tl.setTop (mkF m 12 #[.val (.ref b), .val (.int (Int32.ofNat (o + i))), .val (.ref d), .val (.int (Int32.ofNat (q + i))), .val (.int (Int32.ofNat len)), .val (.int (Int32.ofNat i)), z] [.int (Int32.ofNat (o + i)), .ref b])) := cl.trans (by
        refine XS.iload Xl.here hexec rfl (hb hbytes d3) rfl ?_
        refine XS.iload Xl.here hexec rfl (hb hbytes d5) rfl ?_
        refine XS.icmpNo Xl.here hexec rfl (hb hbytes d7) rfl (ii_ge_f (lt32 (by omega) (by omega))) ?_
        refine XS.aloadN Xl.here hexec rfl (hb hbytes d10) rfl rfl ?_
        refine XS.iloadN Xl.here hexec rfl (hb hbytes d11) rfl ?_
        exact Steps.refl _)
      have c4 : Steps p.tables e below (s₁.setTop (entryFrame m #[.ref b, .int (Int32.ofNat o), .ref d, .int (Int32.ofNat q), .int (Int32.ofNat len)] 7)) (Tl.setTop (mkF m 13 #[.val (.ref b), .val (.int (Int32.ofNat (o + i))), .val (.ref d), .val (.int (Int32.ofNat (q + i))), .val (.int (Int32.ofNat len)), .val (.int (Int32.ofNat i)), z] [.int (cv A (o + i))])) := c3.trans (by
        refine Xl.aget hexec hAl rfl (hA.get (i := o + i) (by omega)) rfl rfl (hb hbytes d12) ?_
        exact Steps.refl _)
      have c5 : Steps p.tables e below (s₁.setTop (entryFrame m #[.ref b, .int (Int32.ofNat o), .ref d, .int (Int32.ofNat q), .int (Int32.ofNat len)] 7)) (Tl.setTop (mkF m 15 #[.val (.ref b), .val (.int (Int32.ofNat (o + i))), .val (.ref d), .val (.int (Int32.ofNat (q + i))), .val (.int (Int32.ofNat len)), .val (.int (Int32.ofNat i)), .val (.int (cv A (o + i)))] [])) := c4.trans (by
        refine XS.istoreS Xl.here hexec rfl (hb hbytes d13) rfl rfl hz ?_
        exact Steps.refl _)
      have c6 : Steps p.tables e below (s₁.setTop (entryFrame m #[.ref b, .int (Int32.ofNat o), .ref d, .int (Int32.ofNat q), .int (Int32.ofNat len)] 7)) (Tl.setTop (mkF m 31 #[.val (.ref b), .val (.int (Int32.ofNat (o + i))), .val (.ref d), .val (.int (Int32.ofNat (q + i))), .val (.int (Int32.ofNat len)), .val (.int (Int32.ofNat i)), .val (.int (cv A (o + i)))] [.int (lo8 (cv A (o + i))), .int (Int32.ofNat (q + i)), .ref d])) := c5.trans (by
        refine XS.iload Xl.here hexec rfl (hb hbytes d15) rfl ?_
        refine sipushV Xl.here hexec rfl 255 (hb hbytes d17) (by decide) ?_
        refine XS.icmpYes Xl.here hexec rfl (pc0 := 20) rfl (hb hbytes d20) rfl (ii_le_t (hp i (by omega))) (by decide) rfl ?_
        refine XS.aloadN Xl.here hexec rfl (hb hbytes d26) rfl rfl ?_
        refine XS.iloadN Xl.here hexec rfl (hb hbytes d27) rfl ?_
        refine XS.iload Xl.here hexec rfl (hb hbytes d28) rfl ?_
        refine i2b Xl.here hexec rfl (hb hbytes d30) rfl ?_
        exact Steps.refl _)
      obtain ⟨T7, X7, p7, st7⟩ := Xl.aput hexec hBk rfl hlt rfl (fits_lo8 (cv A (o + i))) (g := (mkF m 31 #[.val (.ref b), .val (.int (Int32.ofNat (o + i))), .val (.ref d), .val (.int (Int32.ofNat (q + i))), .val (.int (Int32.ofNat len)), .val (.int (Int32.ofNat i)), .val (.int (cv A (o + i)))] [.int (lo8 (cv A (o + i))), .int (Int32.ofNat (q + i)), .ref d])) rfl (rest := []) rfl (hb hbytes d31)
      have c8 : Steps p.tables e below (s₁.setTop (entryFrame m #[.ref b, .int (Int32.ofNat o), .ref d, .int (Int32.ofNat q), .int (Int32.ofNat len)] 7)) (T7.setTop (mkF m 32 #[.val (.ref b), .val (.int (Int32.ofNat (o + i))), .val (.ref d), .val (.int (Int32.ofNat (q + i))), .val (.int (Int32.ofNat len)), .val (.int (Int32.ofNat i)), .val (.int (cv A (o + i)))] [])) := c6.trans (st7 _ (Steps.refl _))
      have c9 : Steps p.tables e below (s₁.setTop (entryFrame m #[.ref b, .int (Int32.ofNat o), .ref d, .int (Int32.ofNat q), .int (Int32.ofNat len)] 7)) (T7.setTop (mkF m 3 #[.val (.ref b), .val (.int (Int32.ofNat (o + i) + 1)), .val (.ref d), .val (.int (Int32.ofNat (q + i) + 1)), .val (.int (Int32.ofNat len)), .val (.int (Int32.ofNat i + 1)), .val (.int (cv A (o + i)))] [])) := c8.trans (by
        refine iincV X7.here hexec rfl 1 (hb hbytes d32) (by decide) rfl rfl ?_
        refine iincV X7.here hexec rfl 1 (hb hbytes d35) (by decide) rfl rfl ?_
        refine iincV X7.here hexec rfl 1 (hb hbytes d38) (by decide) rfl rfl ?_
        refine XS.goto X7.here hexec rfl (pc0 := 41) rfl (hb hbytes d41) (by decide) rfl ?_
        exact Steps.refl _)
      have c10 : Steps p.tables e below (s₁.setTop (entryFrame m #[.ref b, .int (Int32.ofNat o), .ref d, .int (Int32.ofNat q), .int (Int32.ofNat len)] 7)) (T7.setTop (mkF m 3 #[.val (.ref b), .val (.int (Int32.ofNat (o + (i + 1)))), .val (.ref d), .val (.int (Int32.ofNat (q + (i + 1)))), .val (.int (Int32.ofNat len)), .val (.int (Int32.ofNat (i + 1))), .val (.int (cv A (o + i)))] [])) := by
        have := c9
        rw [succ32, succ32, succ32] at this
        exact this
      exact ih (i + 1) (by omega) _ (Or.inr ⟨_, rfl, rfl⟩) T7 _ (by rw [copyLocs_step, ← List.append_assoc]; exact X7) (pl.trans p7) (fl.step (by omega) hlt (by simp)) c10
  obtain ⟨T9, B9, z9, X9, p9, f9, g9⟩ := loop len 0 (by omega) .unset (Or.inl rfl) s₁ B (by simpa [copyLocs] using X0) ⟨hB0.1, fun _ _ => rfl, rfl⟩ (Laid.zero _ _ _) c2
  have c11 : Steps p.tables e below (s₁.setTop (entryFrame m #[.ref b, .int (Int32.ofNat o), .ref d, .int (Int32.ofNat q), .int (Int32.ofNat len)] 7)) (T9.setTop (mkF m 46 #[.val (.ref b), .val (.int (Int32.ofNat (o + len))), .val (.ref d), .val (.int (Int32.ofNat (q + len))), .val (.int (Int32.ofNat len)), .val (.int (Int32.ofNat len)), z9] [.int (Int32.ofNat len)])) := g9.trans (by
    refine XS.iload X9.here hexec rfl (hb hbytes d3) rfl ?_
    refine XS.iload X9.here hexec rfl (hb hbytes d5) rfl ?_
    refine XS.icmpYes X9.here hexec rfl (pc0 := 7) rfl (hb hbytes d7) rfl (ii_ge_t (nlt32 (by omega) (Nat.le_refl _))) (by decide) rfl ?_
    refine XS.iload X9.here hexec rfl (hb hbytes d44) rfl ?_
    exact Steps.refl _)
  exact ⟨T9, some (.int (Int32.ofNat len)), _, _, _, X9, by simp, rfl, rfl, (fun h => by cases h), ⟨rfl, B9, p9.from hh0, f9⟩, fun fs hl => c11.trans (X9.ireturnOut hexec hret rfl (Or.inl rfl) (hb hbytes d46) hl)⟩
end Cmp5
namespace Cmp3
def yN : MethodName := ⟨"java/lang/StringUTF16", "compress", "([CII)[B"⟩
abbrev yB : ByteArray := jdk_52_method_16_code
theorem d0 : decode yB 0 = .ok (.iload_n 2, 1) := by decide +kernel
theorem d1 : decode yB 1 = .ok (.newarray .byte, 2) := by decide +kernel
theorem d3 : decode yB 3 = .ok (.astore_n 3, 1) := by decide +kernel
theorem d4 : decode yB 4 = .ok (.aload_n 0, 1) := by decide +kernel
theorem d5 : decode yB 5 = .ok (.iload_n 1, 1) := by decide +kernel
theorem d6 : decode yB 6 = .ok (.aload_n 3, 1) := by decide +kernel
theorem d7 : decode yB 7 = .ok (.iconst 0, 1) := by decide +kernel
theorem d8 : decode yB 8 = .ok (.iload_n 2, 1) := by decide +kernel
theorem d9 : decode yB 9 = .ok (.invokestatic 115, 3) := by decide +kernel
theorem d12 : decode yB 12 = .ok (.istore 4, 2) := by decide +kernel
theorem d14 : decode yB 14 = .ok (.iload 4, 2) := by decide +kernel
theorem d16 : decode yB 16 = .ok (.iload_n 2, 1) := by decide +kernel
theorem d17 : decode yB 17 = .ok (.if_icmp (.eq) 40, 3) := by decide +kernel
theorem d57 : decode yB 57 = .ok (.aload_n 3, 1) := by decide +kernel
theorem d58 : decode yB 58 = .ok (.areturn, 1) := by decide +kernel
def site : List Cond := [.arrayClass .byte, Cmp5.tab] ++ staticW U16 115 Cmp5.yN
def tab : Cond := tabOf yN yB 6 (some (.array .byte)) site
def P (b : Addr) (A : Cell) (o len : Nat) (args : Array Value) (s : State) : Prop := args = #[.ref b, .int (Int32.ofNat o), .int (Int32.ofNat len)] ∧ Ch b A s ∧ o + len ≤ A.slots.size ∧ len ≤ 536870912 ∧ ∀ i, i < len → ¬ 255 < cv A (o + i)
def E (b : Addr) (A : Cell) (o len : Nat) (r : Option Value) (s u : State) : Prop := NewArr .byte "[B" len (fun j => .int (lo8 (cv A (o + j)))) r s u ∧ u.heap.size = s.heap.size + 1
/-- no char of the range above 255: a new byte[] of their low bytes -/
theorem law (l : Launch) (b : Addr) (A : Cell) (o len : Nat) : Law l yN 3 3 1 18 yB 6 (some (.array .byte)) site (P b A o len) (E b A o len) [] 1 len := by
  refine Law.of_walk (plainFor_of_name (by decide +kernel)) (by decide +kernel) (by decide +kernel) (by decide) (fun _ _ h => by rw [h.1]; rfl) (fun _ U U' hal hh h => ⟨h.1, h.2.1.mv hal hh, h.2.2⟩) (fun r U U' V V' h1 hal h2 h => ⟨NewArr.mv r U U' V V' h1 hal h2 h.1, by rw [h1, h2]; exact h.2⟩) ?_
  intro p e s m args below meth c s₁ X0 hexec hbytes hml hret hlk hnm hown hh0 W hP
  obtain ⟨rfl, hA, l1, l2, hp⟩ := hP
  have a31 := hA.1.2.2.2
  have c1 : Steps p.tables e below (s₁.setTop (entryFrame m #[.ref b, .int (Int32.ofNat o), .int (Int32.ofNat len)] 6)) (s₁.setTop (mkF m 0 #[.val (.ref b), .val (.int (Int32.ofNat o)), .val (.int (Int32.ofNat len)), .unset, .unset, .unset] [])) := entry rfl
  have c2 : Steps p.tables e below (s₁.setTop (entryFrame m #[.ref b, .int (Int32.ofNat o), .int (Int32.ofNat len)] 6)) (s₁.setTop (mkF m 1 #[.val (.ref b), .val (.int (Int32.ofNat o)), .val (.int (Int32.ofNat len)), .unset, .unset, .unset] [.int (Int32.ofNat len)])) := c1.trans (by
    refine XS.iloadN X0.here hexec rfl (hb hbytes d0) rfl ?_
    exact Steps.refl _)
  obtain ⟨T3, B3, X3, ba3, bs3, bv3, bh3, bf3, st3⟩ := X0.anew hexec (atype := .byte) (wk W (.arrayClass .byte)) rfl (by show len * 1 ≤ _; omega) (by omega) (g := (mkF m 1 #[.val (.ref b), .val (.int (Int32.ofNat o)), .val (.int (Int32.ofNat len)), .unset, .unset, .unset] [.int (Int32.ofNat len)])) rfl (hb hbytes d1) (rest := []) rfl (Nat.le_refl _) (by show 0 + len ≤ len; omega)
  rw [hh0] at ba3 st3
  have kp3 : XT.Kept s T3 := (XT.Kept.of_eq hh0).push bh3
  have hA3 := hA.keep X3.warmed.alike (kp3 _ _ hA.1.1)
  have hne : b ≠ s.heap.size := hA.1.ne
  have c4 : Steps p.tables e below (s₁.setTop (entryFrame m #[.ref b, .int (Int32.ofNat o), .int (Int32.ofNat len)] 6)) (T3.setTop (mkF m 3 #[.val (.ref b), .val (.int (Int32.ofNat o)), .val (.int (Int32.ofNat len)), .unset, .unset, .unset] [.ref s.heap.size])) := c2.trans (st3 _ (Steps.refl _))
  have c5 : Steps p.tables e below (s₁.setTop (entryFrame m #[.ref b, .int (Int32.ofNat o), .int (Int32.ofNat len)] 6)) (T3.setTop (mkF m 9 #[.val (.ref b), .val (.int (Int32.ofNat o)), .val (.int (Int32.ofNat len)), .val (.ref s.heap.size), .unset, .unset] [.int (Int32.ofNat len), .int 0, .ref s.heap.size, .int (Int32.ofNat o), .ref b])) := c4.trans (by
    refine XS.astoreN X3.here hexec rfl (hb hbytes d3) rfl rfl rfl ?_
    refine XS.aloadN X3.here hexec rfl (hb hbytes d4) rfl rfl ?_
    refine XS.iloadN X3.here hexec rfl (hb hbytes d5) rfl ?_
    refine XS.aloadN X3.here hexec rfl (hb hbytes d6) rfl rfl ?_
    refine iconstV X3.here hexec rfl 0 (hb hbytes d7) (by decide) ?_
    refine XS.iloadN X3.here hexec rfl (hb hbytes d8) rfl ?_
    exact Steps.refl _)
  obtain ⟨v6, T6, X6, E6, g6⟩ := X3.callS hexec (Cmp5.law l b A s.heap.size B3 o 0 len) hown (wks W (staticW U16 115 Cmp5.yN)) (wk W Cmp5.tab) (W := 0) (Nat.le_of_ble_eq_true rfl) (Nat.le_of_ble_eq_true rfl) (Nat.le_refl _) (by show 0 + len + 0 ≤ len; omega) (g := (mkF m 9 #[.val (.ref b), .val (.int (Int32.ofNat o)), .val (.int (Int32.ofNat len)), .val (.ref s.heap.size), .unset, .unset] [.int (Int32.ofNat len), .int (Int32.ofNat 0), .ref s.heap.size, .int (Int32.ofNat o), .ref b])) rfl (by rw [hml]; rfl) c5 (argsL := [.ref b, .int (Int32.ofNat o), .ref s.heap.size, .int (Int32.ofNat 0), .int (Int32.ofNat len)]) (rest := []) rfl rfl (by show 2 * 0 + 0 ≤ _; decide) (hb hbytes d9) (⟨rfl, hA3, ba3, hne, l1, by rw [bs3]; simp, hp⟩)
  obtain ⟨rfl, B6, p6, f6⟩ := E6
  have c7 : Steps p.tables e below (s₁.setTop (entryFrame m #[.ref b, .int (Int32.ofNat o), .int (Int32.ofNat len)] 6)) (T6.setTop (mkF m 12 #[.val (.ref b), .val (.int (Int32.ofNat o)), .val (.int (Int32.ofNat len)), .val (.ref s.heap.size), .unset, .unset] [.int (Int32.ofNat len)])) := g6
  have c8 : Steps p.tables e below (s₁.setTop (entryFrame m #[.ref b, .int (Int32.ofNat o), .int (Int32.ofNat len)] 6)) (T6.setTop (mkF m 58 #[.val (.ref b), .val (.int (Int32.ofNat o)), .val (.int (Int32.ofNat len)), .val (.ref s.heap.size), .val (.int (Int32.ofNat len)), .unset] [.ref s.heap.size])) := c7.trans (by
    refine XS.istore X6.here hexec rfl (hb hbytes d12) rfl rfl ?_
    refine XS.iload X6.here hexec rfl (hb hbytes d14) rfl ?_
    refine XS.iloadN X6.here hexec rfl (hb hbytes d16) rfl ?_
    refine XS.icmpYes X6.here hexec rfl (pc0 := 17) rfl (hb hbytes d17) rfl (ii_eq_t rfl) (by decide) rfl ?_
    refine XS.aloadN X6.here hexec rfl (hb hbytes d57) rfl rfl ?_
    exact Steps.refl _)
  have X8 := X6.wide (L' := []) (cells' := 1) (slots' := len) (fun x hx hlt => by
    simp only [List.nil_append, copyLocs, List.mem_map, List.mem_range] at hx
    obtain ⟨i, -, rfl⟩ := hx
    exact absurd hlt (Nat.lt_irrefl _)) (Nat.le_refl _) (by omega)
  exact ⟨T6, some (.ref s.heap.size), _, _, _, X8, rfl, rfl, rfl, (fun h => by cases h), ⟨⟨rfl, B6, ba3.like (X3.warmed.alike.symm.trans X6.warmed.alike) p6.1 f6.1 f6.2.1 f6.2.2.1, f6.2.1.trans bv3, by rw [X6.warmed.alike.findClass, f6.1]; exact bf3, by rw [f6.2.2.1, bs3]; simp, fun j hj => by rw [f6.2.2.2 j, if_pos (by omega)]; rfl, kp3.put p6 (Nat.le_refl _)⟩, by rw [p6.2.2, bh3, hh0]; simp⟩, fun fs hl => c8.trans (X8.areturnOut hexec rfl hret rfl (hb hbytes d58) hl)⟩
end Cmp3
namespace CodL
def yN : MethodName := ⟨"java/lang/StringUTF16", "coderFromArrayLen", "([BI)B"⟩
abbrev yB : ByteArray := jdk_52_method_15_code
theorem d0 : decode yB 0 = .ok (.iload_n 1, 1) := by decide +kernel
theorem d1 : decode yB 1 = .ok (.aload_n 0, 1) := by decide +kernel
theorem d2 : decode yB 2 = .ok (.arraylength, 1) := by decide +kernel
theorem d3 : decode yB 3 = .ok (.isub, 1) := by decide +kernel
theorem d4 : decode yB 4 = .ok (.bipush 31, 2) := by decide +kernel
theorem d6 : decode yB 6 = .ok (.iushr, 1) := by decide +kernel
theorem d7 : decode yB 7 = .ok (.i2b, 1) := by decide +kernel
theorem d8 : decode yB 8 = .ok (.ireturn, 1) := by decide +kernel
def site : List Cond := []
def tab : Cond := tabOf yN yB 2 (some .byte) site
def P (d : Addr) (B : Cell) (args : Array Value) (s : State) : Prop := args = #[.ref d, .int (Int32.ofNat B.slots.size)] ∧ Arr .byte d B s
def E (r : Option Value) (s u : State) : Prop := XT.PureE (some (.int 0)) r s u
/-- an array as long as the number of chars: LATIN1 -/
theorem law (l : Launch) (d : Addr) (B : Cell) : Law l yN 2 2 0 0 yB 2 (some .byte) site (P d B) E [] 0 0 := by
  refine Law.of_walk (plainFor_of_name (by decide +kernel)) (by decide +kernel) (by decide +kernel) (by decide) (fun _ _ h => by rw [h.1]; rfl) (fun _ U U' hal hh h => ⟨h.1, h.2.mv hal hh⟩) (fun r U U' V V' h1 hal h2 h => XT.PureE.mv r U U' V V' h1 hal h2 h) ?_
  intro p e s m args below meth c s₁ X0 hexec hbytes hml hret hlk hnm hown hh0 W hP
  obtain ⟨rfl, hB⟩ := hP
  have hB0 := hB.mv X0.warmed.alike hh0
  have c1 : Steps p.tables e below (s₁.setTop (entryFrame m #[.ref d, .int (Int32.ofNat B.slots.size)] 2)) (s₁.setTop (mkF m 0 #[.val (.ref d), .val (.int (Int32.ofNat B.slots.size))] [])) := entry rfl
  have c2 : Steps p.tables e below (s₁.setTop (entryFrame m #[.ref d, .int (Int32.ofNat B.slots.size)] 2)) (s₁.setTop (mkF m 2 #[.val (.ref d), .val (.int (Int32.ofNat B.slots.size))] [.ref d, .int (Int32.ofNat B.slots.size)])) := c1.trans (by
    refine XS.iloadN X0.here hexec rfl (hb hbytes d0) rfl ?_
    refine XS.aloadN X0.here hexec rfl (hb hbytes d1) rfl rfl ?_
    exact Steps.refl _)
  have c3 : Steps p.tables e below (s₁.setTop (entryFrame m #[.ref d, .int (Int32.ofNat B.slots.size)] 2)) (s₁.setTop (mkF m 8 #[.val (.ref d), .val (.int (Int32.ofNat B.slots.size))] [.int (lo8 (ushr (Int32.ofNat B.slots.size - Int32.ofNat B.slots.size) 31))])) := c2.trans (by
    refine X0.alen hexec hB0 rfl rfl (hb hbytes d2) ?_
    refine XS.isub X0.here hexec rfl (hb hbytes d3) rfl ?_
    refine bipushV X0.here hexec rfl 31 (hb hbytes d4) (by decide) ?_
    refine iushr X0.here hexec rfl (hb hbytes d6) rfl ?_
    refine i2b X0.here hexec rfl (hb hbytes d7) rfl ?_
    exact Steps.refl _)
  have e0 : lo8 (ushr (Int32.ofNat B.slots.size - Int32.ofNat B.slots.size) 31) = 0 := by rw [Int32.sub_self]; decide
  rw [e0] at c3
  exact ⟨s₁, some (.int 0), _, _, _, X0, rfl, rfl, rfl, (fun h => by cases h), ⟨rfl, hh0⟩, fun fs hl => c3.trans (X0.ireturnOut hexec hret rfl (Or.inr (Or.inr (Or.inl rfl))) (hb hbytes d8) hl)⟩
end CodL
/-- the String at a is Latin-1 over a new byte[] (the heap's one new cell): the low bytes of the len chars of A from o on; every cell but a is kept -/
def Got (a : Addr) (D : Cell) (fV fC : Field) (A : Cell) (o len : Nat) (r : Option Value) (s u : State) : Prop := r = none ∧ ∃ D' V : Cell, Blank "java/lang/String" a D' u ∧ Same D D' [fV.slot, fC.slot] ∧ D'.slots[fV.slot]? = some (.ref s.heap.size) ∧ D'.slots[fC.slot]? = some (.int 0) ∧ Arr .byte s.heap.size V u ∧ V.vm = .none ∧ u.vm.findClass "[B" = some V.cls ∧ V.slots.size = len ∧ (∀ j, j < len → V.slots[j]? = some (.int (lo8 (cv A (o + j))))) ∧ (∀ (y : Addr) (c : Cell), y ≠ a → s.heap[y]? = some c → u.heap[y]? = some c) ∧ u.heap.size = s.heap.size + 1
theorem Got.mv {a : Addr} {D A : Cell} {fV fC : Field} {o len : Nat} : ∀ r (U U' V V' : State), U'.heap = U.heap → V.vm.Alike V'.vm → V'.heap = V.heap → Got a D fV fC A o len r U V → Got a D fV fC A o len r U' V' :=
  fun r U U' V V' h1 hal h2 ⟨e0, D', X, a1, a2, a3, a4, a5, a6, a7, a8, a9, a10, a11⟩ => ⟨e0, D', X, a1.mv hal h2, a2, by rw [h1]; exact a3, a4, by rw [h1]; exact a5.mv hal h2, a6, by rw [hal.findClass]; exact a7, a8, a9, by rw [h1, h2]; exact a10, by rw [h1, h2]; exact a11⟩
namespace New4
def yN : MethodName := ⟨"java/lang/String", "<init>", "([CIILjava/lang/Void;)V"⟩
abbrev yB : ByteArray := jdk_42_method_149_code
theorem d0 : decode yB 0 = .ok (.aload_n 0, 1) := by decide +kernel
theorem d1 : decode yB 1 = .ok (.invokespecial 1, 3) := by decide +kernel
theorem d4 : decode yB 4 = .ok (.iload_n 3, 1) := by decide +kernel
theorem d5 : decode yB 5 = .ok (.ifCond (.ne) 22, 3) := by decide +kernel
theorem d27 : decode yB 27 = .ok (.getstatic 38, 3) := by decide +kernel
theorem d30 : decode yB 30 = .ok (.ifCond (.eq) 28, 3) := by decide +kernel
theorem d33 : decode yB 33 = .ok (.aload_n 1, 1) := by decide +kernel
theorem d34 : decode yB 34 = .ok (.iload_n 2, 1) := by decide +kernel
theorem d35 : decode yB 35 = .ok (.iload_n 3, 1) := by decide +kernel
theorem d36 : decode yB 36 = .ok (.invokestatic 177, 3) := by decide +kernel
theorem d39 : decode yB 39 = .ok (.astore 5, 2) := by decide +kernel
theorem d41 : decode yB 41 = .ok (.aload_n 0, 1) := by decide +kernel
theorem d42 : decode yB 42 = .ok (.aload 5, 2) := by decide +kernel
theorem d44 : decode yB 44 = .ok (.iload_n 3, 1) := by decide +kernel
theorem d45 : decode yB 45 = .ok (.invokestatic 47, 3) := by decide +kernel
theorem d48 : decode yB 48 = .ok (.putfield 15, 3) := by decide +kernel
theorem d51 : decode yB 51 = .ok (.aload_n 0, 1) := by decide +kernel
theorem d52 : decode yB 52 = .ok (.aload 5, 2) := by decide +kernel
theorem d54 : decode yB 54 = .ok (.putfield 9, 3) := by decide +kernel
theorem d57 : decode yB 57 = .ok (.return_, 1) := by decide +kernel
def site : List Cond := [.fieldLink "java/lang/String" 38 "java/lang/String" "COMPACT_STRINGS" "Z", Cmp3.tab, CodL.tab, .laysFinal "java/lang/String" "java/lang/String" "value" "[B", .fieldLink "java/lang/String" 9 "java/lang/String" "value" "[B", .laysFinal "java/lang/String" "java/lang/String" "coder" "B", .fieldLink "java/lang/String" 15 "java/lang/String" "coder" "B"] ++ objW "java/lang/String" 1 ++ staticW "java/lang/String" 177 Cmp3.yN ++ staticW "java/lang/String" 47 CodL.yN
def tab : Cond := tabOf yN yB 6 none site
def P (a : Addr) (D : Cell) (fV fC : Field) (b : Addr) (A : Cell) (z : Int32) (o len : Nat) (args : Array Value) (s : State) : Prop := args = #[.ref a, .ref b, .int (Int32.ofNat o), .int (Int32.ofNat len), .null] ∧ Blank "java/lang/String" a D s ∧ Found "java/lang/String" "value" "[B" fV s ∧ Found "java/lang/String" "coder" "B" fC s ∧ Ch b A s ∧ StaticIs s "java/lang/String" "COMPACT_STRINGS" "Z" (.int z) ∧ ¬ z = 0 ∧ 0 < len ∧ o + len ≤ A.slots.size ∧ len ≤ 536870912 ∧ ∀ i, i < len → ¬ 255 < cv A (o + i)
def E (a : Addr) (D : Cell) (fV fC : Field) (A : Cell) (o len : Nat) (r : Option Value) (s u : State) : Prop := Got a D fV fC A o len r s u
/-- len > 0, no char of the range above 255: a Latin-1 String of their low bytes -/
theorem law (l : Launch) (a : Addr) (D : Cell) (fV fC : Field) (b : Addr) (A : Cell) (z : Int32) (o len : Nat) : Law l yN 5 4 2 35 yB 6 none site (P a D fV fC b A z o len) (E a D fV fC A o len) [⟨a, fC.slot⟩, ⟨a, fV.slot⟩] 1 len := by
  refine Law.of_walk (plainFor_of_name (by decide +kernel)) (by decide +kernel) (by decide +kernel) (by decide) (fun _ _ h => by rw [h.1]; rfl) (fun _ U U' hal hh h => ⟨h.1, h.2.1.mv hal hh, h.2.2.1.al hal, h.2.2.2.1.al hal, h.2.2.2.2.1.mv hal hh, h.2.2.2.2.2.1.there hal hh, h.2.2.2.2.2.2⟩) (fun r U U' V V' h1 hal h2 h => Got.mv r U U' V V' h1 hal h2 h) ?_
  intro p e s m args below meth c s₁ X0 hexec hbytes hml hret hlk hnm hown hh0 W hP
  obtain ⟨rfl, hB, f1, f2, hA, s1, hz, l0, l1, l2, hp⟩ := hP
  have a31 := hA.1.2.2.2
  have c1 : Steps p.tables e below (s₁.setTop (entryFrame m #[.ref a, .ref b, .int (Int32.ofNat o), .int (Int32.ofNat len), .null] 6)) (s₁.setTop (mkF m 0 #[.val (.ref a), .val (.ref b), .val (.int (Int32.ofNat o)), .val (.int (Int32.ofNat len)), .val .null, .unset] [])) := entry rfl
  have c2 : Steps p.tables e below (s₁.setTop (entryFrame m #[.ref a, .ref b, .int (Int32.ofNat o), .int (Int32.ofNat len), .null] 6)) (s₁.setTop (mkF m 1 #[.val (.ref a), .val (.ref b), .val (.int (Int32.ofNat o)), .val (.int (Int32.ofNat len)), .val .null, .unset] [.ref a])) := c1.trans (by
    refine XS.aloadN X0.here hexec rfl (hb hbytes d0) rfl rfl ?_
    exact Steps.refl _)
  obtain ⟨T3, X3, q3, st3⟩ := X0.oinit hexec hown (wks W (objW "java/lang/String" 1)) (g := (mkF m 1 #[.val (.ref a), .val (.ref b), .val (.int (Int32.ofNat o)), .val (.int (Int32.ofNat len)), .val .null, .unset] [.ref a])) rfl (by rw [hml]; rfl) (rest := []) rfl (hb hbytes d1) (W := 0) (by show 2 * 0 + 0 ≤ _; decide) (Nat.le_of_ble_eq_true rfl) (Nat.le_of_ble_eq_true rfl)
  have hh3 := q3.trans hh0
  have c4 : Steps p.tables e below (s₁.setTop (entryFrame m #[.ref a, .ref b, .int (Int32.ofNat o), .int (Int32.ofNat len), .null] 6)) (T3.setTop (mkF m 27 #[.val (.ref a), .val (.ref b), .val (.int (Int32.ofNat o)), .val (.int (Int32.ofNat len)), .val .null, .unset] [])) := (c2.trans (st3 _ (Steps.refl _))).trans (by
    refine XS.iloadN X3.here hexec rfl (hb hbytes d4) rfl ?_
    refine XS.ifYes X3.here hexec rfl (pc0 := 5) rfl (hb hbytes d5) rfl (i0_ne_t (nz32 (by omega) l0)) (by decide) rfl ?_
    exact Steps.refl _)
  obtain ⟨T5, X5, q5, st5⟩ := X3.sget hexec hown (wk W (.fieldLink "java/lang/String" 38 "java/lang/String" "COMPACT_STRINGS" "Z")) s1 (fun _ _ h => by rw [hh3]; exact h) (g := (mkF m 27 #[.val (.ref a), .val (.ref b), .val (.int (Int32.ofNat o)), .val (.int (Int32.ofNat len)), .val .null, .unset] [])) rfl (hb hbytes d27)
  have hh5 := q5.trans hh3
  have c6 : Steps p.tables e below (s₁.setTop (entryFrame m #[.ref a, .ref b, .int (Int32.ofNat o), .int (Int32.ofNat len), .null] 6)) (T5.setTop (mkF m 30 #[.val (.ref a), .val (.ref b), .val (.int (Int32.ofNat o)), .val (.int (Int32.ofNat len)), .val .null, .unset] [.int z])) := c4.trans (st5 _ (Steps.refl _))
  have c7 : Steps p.tables e below (s₁.setTop (entryFrame m #[.ref a, .ref b, .int (Int32.ofNat o), .int (Int32.ofNat len), .null] 6)) (T5.setTop (mkF m 36 #[.val (.ref a), .val (.ref b), .val (.int (Int32.ofNat o)), .val (.int (Int32.ofNat len)), .val .null, .unset] [.int (Int32.ofNat len), .int (Int32.ofNat o), .ref b])) := c6.trans (by
    refine XS.ifNo X5.here hexec rfl (hb hbytes d30) rfl (i0_eq_f hz) ?_
    refine XS.aloadN X5.here hexec rfl (hb hbytes d33) rfl rfl ?_
    refine XS.iloadN X5.here hexec rfl (hb hbytes d34) rfl ?_
    refine XS.iloadN X5.here hexec rfl (hb hbytes d35) rfl ?_
    exact Steps.refl _)
  obtain ⟨v8, T8, X8, E8, g8⟩ := X5.callS hexec (Cmp3.law l b A o len) hown (wks W (staticW "java/lang/String" 177 Cmp3.yN)) (wk W Cmp3.tab) (W := 0) (Nat.le_of_ble_eq_true rfl) (Nat.le_of_ble_eq_true rfl) (Nat.le_refl _) (by show 0 + len ≤ len; omega) (g := (mkF m 36 #[.val (.ref a), .val (.ref b), .val (.int (Int32.ofNat o)), .val (.int (Int32.ofNat len)), .val .null, .unset] [.int (Int32.ofNat len), .int (Int32.ofNat o), .ref b])) rfl (by rw [hml]; rfl) c7 (argsL := [.ref b, .int (Int32.ofNat o), .int (Int32.ofNat len)]) (rest := []) rfl rfl (by show 2 * 0 + 0 ≤ _; decide) (hb hbytes d36) (⟨rfl, hA.mv X5.warmed.alike hh5, l1, l2, hp⟩)
  obtain ⟨e8, z8⟩ := E8
  obtain ⟨rfl, N, n1, n2, n3, n4, n5, n6⟩ := NewArr.mv _ T5 s _ _ hh5.symm (Vm.Alike.refl _) rfl e8
  rw [hh5] at z8
  have hB1 := hB.keep X8.warmed.alike (n6 _ _ hB.1)
  have hne : s.heap.size ≠ a := (Nat.ne_of_lt (Array.getElem?_eq_some_iff.mp hB.1).1).symm
  have c9 : Steps p.tables e below (s₁.setTop (entryFrame m #[.ref a, .ref b, .int (Int32.ofNat o), .int (Int32.ofNat len), .null] 6)) (T8.setTop (mkF m 39 #[.val (.ref a), .val (.ref b), .val (.int (Int32.ofNat o)), .val (.int (Int32.ofNat len)), .val .null, .unset] [.ref s.heap.size])) := g8
  have c10 : Steps p.tables e below (s₁.setTop (entryFrame m #[.ref a, .ref b, .int (Int32.ofNat o), .int (Int32.ofNat len), .null] 6)) (T8.setTop (mkF m 45 #[.val (.ref a), .val (.ref b), .val (.int (Int32.ofNat o)), .val (.int (Int32.ofNat len)), .val .null, .val (.ref s.heap.size)] [.int (Int32.ofNat N.slots.size), .ref s.heap.size, .ref a])) := by
    have hc : Steps p.tables e below (s₁.setTop (entryFrame m #[.ref a, .ref b, .int (Int32.ofNat o), .int (Int32.ofNat len), .null] 6)) (T8.setTop (mkF m 45 #[.val (.ref a), .val (.ref b), .val (.int (Int32.ofNat o)), .val (.int (Int32.ofNat len)), .val .null, .val (.ref s.heap.size)] [.int (Int32.ofNat len), .ref s.heap.size, .ref a])) := c9.trans (by
      refine XS.astore X8.here hexec rfl (hb hbytes d39) rfl rfl rfl ?_
      refine XS.aloadN X8.here hexec rfl (hb hbytes d41) rfl rfl ?_
      refine XS.aload X8.here hexec rfl (hb hbytes d42) rfl rfl ?_
      refine XS.iloadN X8.here hexec rfl (hb hbytes d44) rfl ?_
      exact Steps.refl _)
    rw [n4]; exact hc
  obtain ⟨v11, T11, X11, E11, g11⟩ := X8.callS hexec (CodL.law l s.heap.size N) hown (wks W (staticW "java/lang/String" 47 CodL.yN)) (wk W CodL.tab) (W := 1) (Nat.le_of_ble_eq_true rfl) (Nat.le_of_ble_eq_true rfl) (Nat.le_refl _) (by show 0 + len + 0 ≤ len; omega) (g := (mkF m 45 #[.val (.ref a), .val (.ref b), .val (.int (Int32.ofNat o)), .val (.int (Int32.ofNat len)), .val .null, .val (.ref s.heap.size)] [.int (Int32.ofNat N.slots.size), .ref s.heap.size, .ref a])) rfl (by rw [hml]; rfl) c10 (argsL := [.ref s.heap.size, .int (Int32.ofNat N.slots.size)]) (rest := [.ref a]) rfl rfl (by show 2 * 0 + (1 + 0) ≤ _; decide) (hb hbytes d45) (⟨rfl, n1⟩)
  obtain ⟨rfl, q11⟩ := E11
  have hB11 := hB1.mv (X8.warmed.alike.symm.trans X11.warmed.alike) q11
  have c12 : Steps p.tables e below (s₁.setTop (entryFrame m #[.ref a, .ref b, .int (Int32.ofNat o), .int (Int32.ofNat len), .null] 6)) (T11.setTop (mkF m 48 #[.val (.ref a), .val (.ref b), .val (.int (Int32.ofNat o)), .val (.int (Int32.ofNat len)), .val .null, .val (.ref s.heap.size)] [.int 0, .ref a])) := g11
  obtain ⟨T13, X13, p13, bl13, sl13, st13⟩ := X11.finit hexec hown (wk W (.fieldLink "java/lang/String" 15 "java/lang/String" "coder" "B")) (Or.inr ⟨_, (wk W (.laysFinal "java/lang/String" "java/lang/String" "coder" "B"))⟩) (Or.inl ⟨rfl, hnm⟩) f2 (Or.inl rfl) hB11 (t := .byte) (by decide +kernel) rfl (g := (mkF m 48 #[.val (.ref a), .val (.ref b), .val (.int (Int32.ofNat o)), .val (.int (Int32.ofNat len)), .val .null, .val (.ref s.heap.size)] [.int 0, .ref a])) rfl (rest := []) rfl (hb hbytes d48)
  have c14 : Steps p.tables e below (s₁.setTop (entryFrame m #[.ref a, .ref b, .int (Int32.ofNat o), .int (Int32.ofNat len), .null] 6)) (T13.setTop (mkF m 54 #[.val (.ref a), .val (.ref b), .val (.int (Int32.ofNat o)), .val (.int (Int32.ofNat len)), .val .null, .val (.ref s.heap.size)] [.ref s.heap.size, .ref a])) := (c12.trans (st13 _ (Steps.refl _))).trans (by
    refine XS.aloadN X13.here hexec rfl (hb hbytes d51) rfl rfl ?_
    refine XS.aload X13.here hexec rfl (hb hbytes d52) rfl rfl ?_
    exact Steps.refl _)
  obtain ⟨T15, X15, p15, bl15, sl15, st15⟩ := X13.finit hexec hown (wk W (.fieldLink "java/lang/String" 9 "java/lang/String" "value" "[B")) (Or.inr ⟨_, (wk W (.laysFinal "java/lang/String" "java/lang/String" "value" "[B"))⟩) (Or.inl ⟨rfl, hnm⟩) f1 (Or.inl rfl) bl13 (t := (.array .byte)) (by decide +kernel) rfl (g := (mkF m 54 #[.val (.ref a), .val (.ref b), .val (.int (Int32.ofNat o)), .val (.int (Int32.ofNat len)), .val .null, .val (.ref s.heap.size)] [.ref s.heap.size, .ref a])) rfl (rest := []) rfl (hb hbytes d54)
  have c16 : Steps p.tables e below (s₁.setTop (entryFrame m #[.ref a, .ref b, .int (Int32.ofNat o), .int (Int32.ofNat len), .null] 6)) (T15.setTop (mkF m 57 #[.val (.ref a), .val (.ref b), .val (.int (Int32.ofNat o)), .val (.int (Int32.ofNat len)), .val .null, .val (.ref s.heap.size)] [])) := c14.trans (st15 _ (Steps.refl _))
  have ap := apart (Or.inr ⟨_, (wk W (.laysFinal "java/lang/String" "java/lang/String" "value" "[B"))⟩) (Or.inr ⟨_, (wk W (.laysFinal "java/lang/String" "java/lang/String" "coder" "B"))⟩) f1 f2 (t₁ := .array .byte) (t₂ := .byte) (by decide +kernel) (by decide +kernel) (by decide)
  have al := X8.warmed.alike.symm.trans X15.warmed.alike
  have n7 : T11.heap[s.heap.size]? = some N := by rw [q11]; exact n1.1
  exact ⟨T15, none, _, _, _, X15, by simp, rfl, by omega, (fun _ => rfl), ⟨rfl, _, N, bl15, ((Same.refl D _).set _ (by simp)).set _ (by simp), sl15, (Cell.slots_setSlot_ne _ ap).trans sl13, n1.keep al (p15.other hne (p13.other hne n7)), n2, by rw [al.findClass]; exact n3, n4, n5, fun y c h1 h2 => p15.other h1 (p13.other h1 (by rw [q11]; exact n6 y c h2)), by rw [p15.2.2, p13.2.2, q11]; exact z8⟩, fun fs hl => c16.trans (X15.returnOut hexec hret (hb hbytes d57) hl)⟩
end New4
namespace New1
def yN : MethodName := ⟨"java/lang/String", "<init>", "([C)V"⟩
abbrev yB : ByteArray := jdk_42_method_3_code
theorem d0 : decode yB 0 = .ok (.aload_n 0, 1) := by decide +kernel
theorem d1 : decode yB 1 = .ok (.aload_n 1, 1) := by decide +kernel
theorem d2 : decode yB 2 = .ok (.iconst 0, 1) := by decide +kernel
theorem d3 : decode yB 3 = .ok (.aload_n 1, 1) := by decide +kernel
theorem d4 : decode yB 4 = .ok (.arraylength, 1) := by decide +kernel
theorem d5 : decode yB 5 = .ok (.aconst_null, 1) := by decide +kernel
theorem d6 : decode yB 6 = .ok (.invokespecial 27, 3) := by decide +kernel
theorem d9 : decode yB 9 = .ok (.return_, 1) := by decide +kernel
def site : List Cond := [New4.tab] ++ initW "java/lang/String" 27 New4.yN
def tab : Cond := tabOf yN yB 2 none site
def P (a : Addr) (D : Cell) (fV fC : Field) (b : Addr) (A : Cell) (z : Int32) (args : Array Value) (s : State) : Prop := args = #[.ref a, .ref b] ∧ Blank "java/lang/String" a D s ∧ Found "java/lang/String" "value" "[B" fV s ∧ Found "java/lang/String" "coder" "B" fC s ∧ Ch b A s ∧ StaticIs s "java/lang/String" "COMPACT_STRINGS" "Z" (.int z) ∧ ¬ z = 0 ∧ 0 < A.slots.size ∧ A.slots.size ≤ 536870912 ∧ ∀ i, i < A.slots.size → ¬ 255 < cv A i
def E (a : Addr) (D : Cell) (fV fC : Field) (A : Cell) (r : Option Value) (s u : State) : Prop := Got a D fV fC A 0 A.slots.size r s u
/-- new String(chars), not empty, no char above 255: a Latin-1 String of their low bytes -/
theorem law (l : Launch) (a : Addr) (D : Cell) (fV fC : Field) (b : Addr) (A : Cell) (z : Int32) : Law l yN 2 1 3 52 yB 2 none site (P a D fV fC b A z) (E a D fV fC A) [⟨a, fC.slot⟩, ⟨a, fV.slot⟩] 1 A.slots.size := by
  refine Law.of_walk (plainFor_of_name (by decide +kernel)) (by decide +kernel) (by decide +kernel) (by decide) (fun _ _ h => by rw [h.1]; rfl) (fun _ U U' hal hh h => ⟨h.1, h.2.1.mv hal hh, h.2.2.1.al hal, h.2.2.2.1.al hal, h.2.2.2.2.1.mv hal hh, h.2.2.2.2.2.1.there hal hh, h.2.2.2.2.2.2⟩) (fun r U U' V V' h1 hal h2 h => Got.mv r U U' V V' h1 hal h2 h) ?_
  intro p e s m args below meth c s₁ X0 hexec hbytes hml hret hlk hnm hown hh0 W hP
  obtain ⟨rfl, hB, f1, f2, hA, s1, hz, l0, l2, hp⟩ := hP
  have c1 : Steps p.tables e below (s₁.setTop (entryFrame m #[.ref a, .ref b] 2)) (s₁.setTop (mkF m 0 #[.val (.ref a), .val (.ref b)] [])) := entry rfl
  have c2 : Steps p.tables e below (s₁.setTop (entryFrame m #[.ref a, .ref b] 2)) (s₁.setTop (mkF m 6 #[.val (.ref a), .val (.ref b)] [.null, .int (Int32.ofNat A.slots.size), .int 0, .ref b, .ref a])) := c1.trans (by
    refine XS.aloadN X0.here hexec rfl (hb hbytes d0) rfl rfl ?_
    refine XS.aloadN X0.here hexec rfl (hb hbytes d1) rfl rfl ?_
    refine iconstV X0.here hexec rfl 0 (hb hbytes d2) (by decide) ?_
    refine XS.aloadN X0.here hexec rfl (hb hbytes d3) rfl rfl ?_
    refine X0.alen hexec (hA.1.mv X0.warmed.alike hh0) rfl rfl (hb hbytes d4) ?_
    refine XS.aconstNull X0.here hexec rfl (hb hbytes d5) ?_
    exact Steps.refl _)
  obtain ⟨v3, T3, X3, E3, g3⟩ := X0.callN hexec (New4.law l a D fV fC b A z 0 A.slots.size) rfl hown (wks W (initW "java/lang/String" 27 New4.yN)) (W New4.tab (by simp only [site, List.mem_cons, List.mem_append, true_or, or_true])) (W := 0) (Nat.le_of_ble_eq_true rfl) (Nat.le_of_ble_eq_true rfl) (Nat.le_refl _) (by show 0 + A.slots.size ≤ A.slots.size; omega) (g := (mkF m 6 #[.val (.ref a), .val (.ref b)] [.null, .int (Int32.ofNat A.slots.size), .int (Int32.ofNat 0), .ref b, .ref a])) rfl (by rw [hml]; rfl) c2 (argsL := [.ref b, .int (Int32.ofNat 0), .int (Int32.ofNat A.slots.size), .null]) (rest := []) rfl rfl (by show 2 * 0 + 0 ≤ _; decide) (hb hbytes d6) (⟨rfl, hB.mv X0.warmed.alike hh0, f1.al X0.warmed.alike, f2.al X0.warmed.alike, hA.mv X0.warmed.alike hh0, s1.there X0.warmed.alike hh0, hz, l0, by omega, l2, fun i hi => by rw [Nat.zero_add]; exact hp i hi⟩)
  have e0 := Got.mv _ s₁ s _ _ hh0.symm (Vm.Alike.refl _) rfl E3
  obtain rfl := e0.1
  have c4 : Steps p.tables e below (s₁.setTop (entryFrame m #[.ref a, .ref b] 2)) (T3.setTop (mkF m 9 #[.val (.ref a), .val (.ref b)] [])) := g3
  exact ⟨T3, none, _, _, _, X3, by simp, rfl, by omega, (fun _ => rfl), e0, fun fs hl => c4.trans (X3.returnOut hexec hret (hb hbytes d9) hl)⟩
theorem pays {l : Launch} {R : Room} {p : Program} {e : Env} {below : List Frame} {s : State} {sargs : Array Value} {len W : Nat} (a : Addr) (D : Cell) (fV fC : Field) (b : Addr) (A : Cell) (z : Int32) (htab : tab.before sargs s = true) (hfr : 4 ≤ R.frames) (hlo : W + 65 ≤ R.locals) :
    Back l R p e below s sargs yN len W (fun A₁ a₁ => A₁.cells + 1 ≤ R.cells ∧ A₁.slots + A.slots.size ≤ R.slots ∧ P a D fV fC b A z a₁ A₁.U) (fun A₁ _ v₁ B₁ => E a D fV fC A v₁ A₁.U B₁.U ∧ B₁.locs = A₁.locs ++ [⟨a, fC.slot⟩, ⟨a, fV.slot⟩] ∧ B₁.cells = A₁.cells + 1 ∧ B₁.slots = A₁.slots + A.slots.size) :=
  (law l a D fV fC b A z).pays htab hfr (by omega)
end New1
end StrChars
namespace StrChars.Road
open Jvm Sem ClassFile Op Lib Jvm.Stand Jvm.Free Jvm.Free.XT
open Jvm.Lib.Cold (StaticIs)
abbrev ST : String := "java/lang/String"
/-- every table word that New1's law asks, flat -/
abbrev words : List Jvm.Cond := [.code New1.yN New1.yB 2 none, .initialized ST, .methodLink ST 27 New4.yN, .instanceMethod New4.yN,
  .code New4.yN New4.yB 6 none, .fieldLink ST 38 ST "COMPACT_STRINGS" "Z", .laysFinal ST ST "value" "[B", .fieldLink ST 9 ST "value" "[B", .laysFinal ST ST "coder" "B", .fieldLink ST 15 ST "coder" "B",
  .methodLink ST 1 Lib.objectInit, .instanceMethod Lib.objectInit, .code Lib.objectInit ⟨#[0xb1]⟩ 1 none, .methodLink ST 177 Cmp3.yN, .static Cmp3.yN, .methodLink ST 47 CodL.yN, .static CodL.yN,
  .code Cmp3.yN Cmp3.yB 6 (some (.array .byte)), .initialized U16, .arrayClass .byte, .methodLink U16 115 Cmp5.yN, .static Cmp5.yN, .code Cmp5.yN Cmp5.yB 7 (some .int), .code CodL.yN CodL.yB 2 (some .byte)]
theorem tab_of {a : Array Value} {s : State} (h : ∀ w ∈ words, w.before a s = true) : New1.tab.before a s = true := by
  have h5 : Cmp5.tab.before a s = true := unparts (wk h (.code Cmp5.yN Cmp5.yB 7 (some .int))) (wks h (.initialized Cmp5.yN.cls :: Cmp5.site))
  have hc : CodL.tab.before a s = true := unparts (wk h (.code CodL.yN CodL.yB 2 (some .byte))) (wks h (.initialized CodL.yN.cls :: CodL.site))
  have q5 : ∀ w ∈ Cmp5.tab :: words, w.before a s = true := fun w hw => (List.mem_cons.mp hw).elim (fun e => e ▸ h5) (h w)
  have h3 : Cmp3.tab.before a s = true := unparts (wk q5 (.code Cmp3.yN Cmp3.yB 6 (some (.array .byte)))) (wks q5 (.initialized Cmp3.yN.cls :: Cmp3.site))
  have q3 : ∀ w ∈ Cmp3.tab :: CodL.tab :: words, w.before a s = true := fun w hw => (List.mem_cons.mp hw).elim (fun e => e ▸ h3) fun hw => (List.mem_cons.mp hw).elim (fun e => e ▸ hc) (h w)
  have h4 : New4.tab.before a s = true := unparts (wk q3 (.code New4.yN New4.yB 6 none)) (wks q3 (.initialized New4.yN.cls :: New4.site))
  have q4 : ∀ w ∈ New4.tab :: words, w.before a s = true := fun w hw => (List.mem_cons.mp hw).elim (fun e => e ▸ h4) (h w)
  exact unparts (wk q4 (.code New1.yN New1.yB 2 none)) (wks q4 (.initialized New1.yN.cls :: New1.site))
/-- the words ride from the start Z to the walk's own state -/
theorem moved {Z s : State} {a0 args : Array Value} (hZ : Z.Warmed39 s.vm) (hw : ∀ d ∈ words, d.before a0 Z = true) : ∀ d ∈ words, d.before args s = true := fun d hd => by
  have q := hw d hd
  have t : ∀ d ∈ words, d = .arrayClass .byte ∨ (d.onTables && d.keepsFace) = true := by decide +kernel
  rcases t d hd with rfl | t
  · exact RoadKit.mvA hZ q
  · exact RoadKit.mv hZ q t
/-- WHAT COMES BACK, over the tables of the start Z: h the heap at the call, h' behind it -/
def Q (Z : State) (x : Addr) (A : Cell) (h : Heap) (v : Option Value) (h' : Heap) (L : List Loc) : Prop := v = none ∧ (∀ y ∈ L, y.base = x) ∧ RoadKit.Keep h h' [x] ∧ h'.size = h.size + 1 ∧ RoadKit.Exa Z h' x ST ∧ RoadKit.Fld Z h' x ST "value" "[B" (.ref h.size) ∧ RoadKit.Fld Z h' x ST "coder" "B" (.int 0) ∧
  (∃ V : Cell, RoadKit.Arr Z h' h.size V .byte ∧ V.vm = .none ∧ Z.vm.findClass "[B" = some V.cls ∧ V.slots.size = A.slots.size ∧ ∀ j, j < A.slots.size → V.slots[j]? = some (.int (lo8 (cv A j)))) ∧
  ∀ (O n d : String) (w : Value), RoadKit.Fld Z h x O n d w → RoadKit.slotOf Z O n d ≠ RoadKit.slotOf Z ST "value" "[B" → RoadKit.slotOf Z O n d ≠ RoadKit.slotOf Z ST "coder" "B" → RoadKit.Fld Z h' x O n d w
/-- **new String(chars) AT A CALL, IN THE ROAD'S FORM**: for specialBack behind newO: x the fresh String, b the char[] with the cell A -/
theorem back {p : Program} {l : Launch} {e : Env} {R : Room} {s : State} {args : Array Value} {below : List Frame} {len W : Nat} {Z : State} {a0 : Array Value} {h : Heap} (hZ : Z.Warmed39 s.vm) (hw : ∀ d ∈ words, d.before a0 Z = true) {kI : Nat} (wi : (Jvm.Cond.instantiable ST kI).before a0 Z = true)
    {x b : Addr} {A : Cell} {z : Int32} {v0 c0 : Value} (E : RoadKit.Exa Z h x ST) (V : RoadKit.Fld Z h x ST "value" "[B" v0) (C : RoadKit.Fld Z h x ST "coder" "B" c0) (K : RoadKit.Arr Z h b A .char) (hty : Typed .char A) (S : RoadKit.Sta Z h ST "COMPACT_STRINGS" "Z" (.int z)) (hz : ¬ z = 0)
    (l0 : 0 < A.slots.size) (l2 : A.slots.size ≤ 536870912) (hp : ∀ i, i < A.slots.size → ¬ 255 < cv A i) (hfr : 4 ≤ R.frames) (hlo : W + 65 ≤ R.locals) :
    Back l R p e below s args New1.yN len W (fun P a => a = #[.ref x, .ref b] ∧ P.U.heap = h ∧ P.cells + 1 ≤ R.cells ∧ P.slots + A.slots.size ≤ R.slots)
      (fun P _ v B => ∃ L, Q Z x A h v B.U.heap L ∧ B.locs = P.locs ++ L ∧ B.cells = P.cells + 1 ∧ B.slots = P.slots + A.slots.size) := by
  intro m meth c P g ig mk a X hg hsize hdg hW hn hp'
  obtain ⟨rfl, rfl, r1, r2⟩ := hp'
  have al : Z.vm.Alike P.U.vm := hZ.alike.trans X.warmed.alike
  obtain ⟨D, cfV, kV, iV, fV, hD, gV, stV, knV, obV, asV, slV⟩ := id V
  obtain ⟨D', cfC, kC, iC, fC, hD', gC, stC, -, -, asC, slC⟩ := id C
  cases hD.symm.trans hD'
  obtain ⟨D2, kD, e1, e2, e3, e4, e5⟩ := id E
  cases hD.symm.trans e1
  obtain ⟨c2, k2, i1, i2, i3, -⟩ := Cond.instantiable_spec wi
  cases e2.symm.trans i1
  cases e3.symm.trans i2
  obtain ⟨kU, u1, u2⟩ := al.2.2 _ _ e3
  have hB : Blank ST x D P.U := ⟨hD, ⟨knV, fun q hq => by rw [hq] at obV; cases obV⟩, by rw [al.findClass]; exact e2, kU, u1, by rw [u2]; exact i3, by rw [u2]; exact e5 i3⟩
  have F1 : Found ST "value" "[B" fV P.U := ⟨SBG.found_only al ⟨cfV, kV, iV, gV⟩, stV⟩
  have F2 : Found ST "coder" "B" fC P.U := ⟨SBG.found_only al ⟨cfC, kC, iC, gC⟩, stC⟩
  have hA : Ch b A P.U := ⟨⟨K.1, State.isArrayOf_alike al K.2.1, K.2.2, by omega⟩, hty⟩
  have hS : StaticIs P.U ST "COMPACT_STRINGS" "Z" (.int z) := by
    obtain ⟨cfS, iS, kS, fS, st, cS, t1, t2, t3, t4, t5, t6, t7⟩ := S
    exact StaticIs.there (s := { Z with heap := P.U.heap }) ⟨cfS, iS, kS, fS, st, cS, t1, t2, t3, t4, t5, (fun q => by rw [q] at t6; cases t6), t7⟩ al rfl
  obtain ⟨v, B, X', ⟨⟨hv, E', V', q1, q2, q3, q4, q5, q6, q7, q8, q9, q10, q11⟩, hl, hc, hs⟩, st⟩ := New1.pays x D fV fC b A z (tab_of (moved hZ hw)) hfr hlo m meth c P g ig mk _ X hg hsize hdg hW hn ⟨r1, r2, rfl, hB, F1, F2, hA, hS, hz, l0, l2, hp⟩
  have al' : Z.vm.Alike B.U.vm := hZ.alike.trans X'.warmed.alike
  have hsz : E'.slots.size = D.slots.size := by
    obtain ⟨-, -, -, kB, w1, w2, w3⟩ := q1
    obtain ⟨kB', y1, y2⟩ := al'.2.2 _ _ e3
    rw [q2.2.1] at w1
    cases w1.symm.trans y1
    rw [w3, e5 i3, y2]
  refine ⟨v, B, X', ⟨_, ⟨hv, ?_, ⟨by omega, fun y cy hy hn' => q10 y cy (by simpa using hn') hy, fun y cy hy => ?_⟩, q11, ⟨E', _, q1.1, by rw [q2.2.1]; exact e2, by rw [q2.2.1]; exact e3, by rw [q2.1]; exact obV, fun _ => by rw [hsz]; exact e5 i3⟩,
    ⟨E', cfV, kV, iV, fV, q1.1, gV, stV, by rw [q2.1]; exact knV, by rw [q2.1]; exact obV, by rw [q2.2.1]; exact asV, q3⟩, ⟨E', cfC, kC, iC, fC, q1.1, gC, stC, by rw [q2.1]; exact knV, by rw [q2.1]; exact obV, by rw [q2.2.1]; exact asC, q4⟩,
    ⟨V', ⟨q5.1, State.isArrayOf_alike al'.symm q5.2.1, q5.2.2.1⟩, q6, by rw [← al'.findClass]; exact q7, q8, fun j hj => by have := q9 j hj; rwa [Nat.zero_add] at this⟩, fun O n d w F n1 n2 => ?_⟩, hl, hc, hs⟩, st⟩
  · intro y hy
    simp only [List.mem_cons, List.not_mem_nil, or_false] at hy
    rcases hy with rfl | rfl <;> rfl
  · by_cases q : y = x
    · subst q
      cases hD.symm.trans hy
      exact ⟨E', q1.1, q2.2.1, q2.1, hsz⟩
    · exact ⟨cy, q10 y cy q hy, rfl, rfl, rfl⟩
  · obtain ⟨D3, cf, k, i, f, g1, g2, g3, g4, g5, g6, g7⟩ := F
    cases hD.symm.trans g1
    simp only [RoadKit.slotOf, g2, gV, gC, Option.map_some, Option.getD_some] at n1 n2
    exact ⟨E', cf, k, i, f, q1.1, g2, g3, by rw [q2.1]; exact g4, by rw [q2.1]; exact g5, by rw [q2.2.1]; exact g6, by rw [q2.2.2 f.slot (by simp [n1, n2])]; exact g7⟩
end StrChars.Road
namespace StrChars.Road
open Jvm Sem ClassFile Op Lib Jvm.Stand Jvm.Free Jvm.Free.XT
/-- WHAT COMES BACK, the byte[] as a list of values -/
def QA (Z : State) (x : Addr) (zn : Int32) (cs : List Int32) (h : Heap) (v : Option Value) (h' : Heap) (L : List Loc) : Prop := v = none ∧ (∀ y ∈ L, y.base = x) ∧ RoadKit.Keep h h' [x] ∧ h'.size = h.size + 1 ∧ RoadKit.Exa Z h' x ST ∧ RoadKit.Fld Z h' x ST "value" "[B" (.ref h.size) ∧ RoadKit.Fld Z h' x ST "coder" "B" (.int 0) ∧
  (∃ kb, Z.vm.findClass "[B" = some kb ∧ RoadKit.Arv Z h' h.size kb .byte zn (cs.map fun c => .int (lo8 c)) (.int 0)) ∧
  ∀ (O n d : String) (w : Value), RoadKit.Fld Z h x O n d w → RoadKit.slotOf Z O n d ≠ RoadKit.slotOf Z ST "value" "[B" → RoadKit.slotOf Z O n d ≠ RoadKit.slotOf Z ST "coder" "B" → RoadKit.Fld Z h' x O n d w
/-- **new String(chars) AT A CALL, THE ARRAYS AS LISTS**: the char[] at b holds cs, not empty, no char above 255 -/
theorem backArv {p : Program} {l : Launch} {e : Env} {R : Room} {s : State} {args : Array Value} {below : List Frame} {len W : Nat} {Z : State} {a0 : Array Value} {h : Heap} (hZ : Z.Warmed39 s.vm) (hw : ∀ d ∈ words, d.before a0 Z = true) {kI : Nat} (wi : (Jvm.Cond.instantiable ST kI).before a0 Z = true)
    {x b : Addr} {k : ClassId} {zn z : Int32} {cs : List Int32} {dv v0 c0 : Value} (E : RoadKit.Exa Z h x ST) (V : RoadKit.Fld Z h x ST "value" "[B" v0) (C : RoadKit.Fld Z h x ST "coder" "B" c0) (K : RoadKit.Arv Z h b k .char zn (cs.map Value.int) dv) (S : RoadKit.Sta Z h ST "COMPACT_STRINGS" "Z" (.int z)) (hz : ¬ z = 0)
    (hlen : zn.toNatClampNeg = cs.length) (h0 : 0 < cs.length) (hbig : cs.length ≤ 536870912) (hall : ∀ c ∈ cs, ¬ 255 < c) (hfr : 4 ≤ R.frames) (hlo : W + 65 ≤ R.locals) :
    Back l R p e below s args New1.yN len W (fun P a => a = #[.ref x, .ref b] ∧ P.U.heap = h ∧ P.cells + 1 ≤ R.cells ∧ P.slots + cs.length ≤ R.slots)
      (fun P _ v B => ∃ L, QA Z x zn cs h v B.U.heap L ∧ B.locs = P.locs ++ L ∧ B.cells = P.cells + 1 ∧ B.slots = P.slots + cs.length) := by
  obtain ⟨A, K1, K2, K3, K4, K5, K6⟩ := K
  have e : A.slots.size = cs.length := K3.trans hlen
  have hat : ∀ (i : Nat) (hi : i < cs.length), A.slots[i]? = some (.int cs[i]) := fun i hi => by rw [K5 i (by omega)]; simp [List.getD_eq_getElem?_getD, hi]
  have hcv : ∀ (i : Nat) (hi : i < cs.length), cv A i = cs[i] := fun i hi => by unfold cv; rw [hat i hi]
  have hty : Typed .char A := fun i v hv => by
    have hi : i < A.slots.size := (Array.getElem?_eq_some_iff.mp hv).1
    have q := K5 i hi
    rw [hv] at q
    rw [Option.some.inj q]
    exact K6 i hi
  refine Back.mono (back hZ hw wi E V C K1 hty S hz (by omega) (by omega) (fun i hi => by rw [hcv i (by omega)]; exact hall _ (List.getElem_mem _)) hfr hlo) (fun P a hp => ⟨hp.1, hp.2.1, hp.2.2.1, by rw [e]; exact hp.2.2.2⟩) (fun P a v B hp hq => ?_)
  obtain ⟨L, ⟨q1, q2, q3, q4, q5, q6, q7, ⟨V', v1, v2, v3, v4, v5⟩, q9⟩, hl, hc, hs⟩ := hq
  refine ⟨L, ⟨q1, q2, q3, q4, q5, q6, q7, ⟨V'.cls, v3, V', v1, rfl, by rw [v4, e, hlen], K4, fun i hi => ?_, fun i hi => ?_⟩, q9⟩, hl, hc, by rw [hs, e]⟩
  · have hi' : i < cs.length := by omega
    rw [v5 i (by omega), hcv i hi']; simp [List.getD_eq_getElem?_getD, hi']
  · have hi' : i < cs.length := by omega
    simp only [List.getD_eq_getElem?_getD, List.getElem?_map, List.getElem?_eq_getElem hi', Option.map_some, Option.getD_some]
    exact fits_lo8 _
end StrChars.Road
namespace StrChars.Road
open Jvm Sem ClassFile Op Lib Jvm.Stand Jvm.Free Jvm.Free.XT
/-- WHAT COMES BACK, in the writer's own shape -/
def QV (Z : State) (x : Addr) (N : Int32) (bs : List Int32) (h : Heap) (n0 : Nat) (v : Option Value) (h' : Heap) (L : List Loc) : Prop := v = none ∧ RoadKit.Fr n0 L ∧ RoadKit.Keep h h' [x] ∧ RoadKit.Exa Z h' x ST ∧ RoadKit.Fld Z h' x ST "coder" "B" (.int 0) ∧
  ∃ (t : Addr) (kb : ClassId), n0 ≤ t ∧ h.size ≤ t ∧ ¬ t = x ∧ RoadKit.Fld Z h' x ST "value" "[B" (.ref t) ∧ RoadKit.Arv Z h' t kb .byte N (bs.map Value.int) (.int 0)
/-- **new String(chars) AT A CALL, FOR THE WRITER**: a char[] of n known ints, each 0 to 255 -/
theorem backV {p : Program} {l : Launch} {e : Env} {R : Room} {s : State} {args : Array Value} {below : List Frame} {len W : Nat} {Z : State} {a0 : Array Value} {h : Heap} (hZ : Z.Warmed39 s.vm) (hw : ∀ d ∈ words, d.before a0 Z = true) {kI : Nat} (wi : (Jvm.Cond.instantiable ST kI).before a0 Z = true)
    {x b : Addr} {kC : ClassId} {cs bs : List Int32} {d v0 c0 : Value} {z N : Int32} {n n0 : Nat} (hx0 : n0 ≤ x) (hh0 : n0 ≤ h.size) (E : RoadKit.Exa Z h x ST) (V : RoadKit.Fld Z h x ST "value" "[B" v0) (C : RoadKit.Fld Z h x ST "coder" "B" c0) (K : RoadKit.Arv Z h b kC .char N (cs.map Value.int) d) (S : RoadKit.Sta Z h ST "COMPACT_STRINGS" "Z" (.int z)) (hz : ¬ z = 0)
    (hn : cs.length = n) (hN : N = Int32.ofNat n) (l0 : 0 < n) (l2 : n ≤ 4000) (hp : ∀ c ∈ cs, ¬ c < 0 ∧ ¬ (255 : Int32) < c) (hb : bs = cs.map (fun c => c.toInt8.toInt32)) (hfr : 4 ≤ R.frames) (hlo : W + 65 ≤ R.locals) :
    Back l R p e below s args (⟨"java/lang/String", "<init>", "([C)V"⟩ : MethodName) len W (fun P a => a = #[.ref x, .ref b] ∧ P.U.heap = h ∧ P.cells + 1 ≤ R.cells ∧ P.slots + n ≤ R.slots)
      (fun P _ v B => ∃ L, QV Z x N bs h n0 v B.U.heap L ∧ B.locs = P.locs ++ L ∧ B.cells = P.cells + 1 ∧ B.slots = P.slots + n) := by
  subst hn hN hb
  refine Back.mono (backArv hZ hw wi E V C K S hz (n32 (by omega)) l0 (by omega) (fun c hc => (hp c hc).2) hfr hlo) (fun P a hp => hp) (fun P a v B hp hq => ?_)
  obtain ⟨L, ⟨q1, q2, q3, q4, q5, q6, q7, ⟨kb, v1, v2⟩, q9⟩, hl, hc, hs⟩ := hq
  exact ⟨L, ⟨q1, fun y hy => by rw [q2 y hy]; exact hx0, q3, q5, q7, h.size, kb, hh0, Nat.le_refl _, Nat.ne_of_gt E.lt, q6, by rw [List.map_map]; exact v2⟩, hl, hc, hs⟩
end StrChars.Road
end Jvm.Pilot.@@N@@
namespace Jvm.Pilot.@@N@@
open Jvm Jvm.ClassFile Sem Op Lib Jvm.Free Jvm.Stand Jvm.LawKit Jvm.RoadKit Jvm.OwnKit Bundle Jvm.Pilot.@@N@@.Jvm.D
theorem own_wS {Z : State} {a0 : Array Value} (hw : ∀ d ∈ tables_1, d.before a0 Z = true) : ∀ a ∈ Bundle.stringAtoms, a.before a0 Z = true := fun d hd => hw d ((by decide +kernel : ∀ d ∈ Bundle.stringAtoms, d ∈ tables_1) d hd)
theorem own_EW {Z : State} {a0 : Array Value} (hw : ∀ d ∈ tables_1, d.before a0 Z = true) : EW Z a0 consts_1 := EW.cons (hw _ (List.mem_of_getElem? (i := 141) rfl)) (by decide +kernel) (EW.cons (hw _ (List.mem_of_getElem? (i := 120) rfl)) (by decide +kernel) (EW.nil))
theorem own_len4000 {Z : State} {h : Heap} {x : Addr} {cs : List Int32} (F : StrIs Z h x cs) : cs.length ≤ 4000 := by
  obtain ⟨t, k, -, -, -, -, -, hl⟩ := F
  exact hl
theorem own_cs_of {Z : State} {h : Heap} {x : Addr} {cs ds : List Int32} (e : ds = cs) (F : StrIs Z h x cs) : StrIs Z h x ds := by
  rw [e]
  exact F
def own_sml (x : Int32) : Prop := ¬ x < 0 ∧ ¬ (255 : Int32) < x
def own_x (x0 x1 x2 x3 i : Int32) : Int32 := if i = 0 then x0 else if i = 1 then x1 else if i = 2 then x2 else x3
def own_tk (x0 x1 x2 x3 fr n : Int32) : List Int32 :=
  if 0 < n then (if n = (1 : Int32) then [own_x x0 x1 x2 x3 fr] else if n = (2 : Int32) then [own_x x0 x1 x2 x3 fr, own_x x0 x1 x2 x3 (fr + (1 : Int32))]
    else if n = (3 : Int32) then [own_x x0 x1 x2 x3 fr, own_x x0 x1 x2 x3 (fr + (1 : Int32)), own_x x0 x1 x2 x3 (fr + (2 : Int32))]
    else [own_x x0 x1 x2 x3 fr, own_x x0 x1 x2 x3 (fr + (1 : Int32)), own_x x0 x1 x2 x3 (fr + (2 : Int32)), own_x x0 x1 x2 x3 (fr + (3 : Int32))]) else []
def own_fit (fr n : Int32) : Prop := 0 ≤ fr.toInt ∧ 0 ≤ n.toInt ∧ fr.toInt + n.toInt ≤ 4
section
variable {x0 x1 x2 x3 fr n ln pp : Int32}
theorem own_addS {a b : Int32} (h0 : 0 ≤ a.toInt) (h1 : a.toInt ≤ 4000) (h2 : 0 ≤ b.toInt) (h3 : b.toInt ≤ 4000) : (a + b).toInt = a.toInt + b.toInt := by
  rw [Int32.toInt_add, Int.bmod_def]
  omega
theorem own_subS {a b : Int32} (h0 : 0 ≤ a.toInt) (h1 : a.toInt ≤ 4000) (h2 : 0 ≤ b.toInt) (h3 : b.toInt ≤ 4000) : (a - b).toInt = a.toInt - b.toInt := by
  rw [Int32.toInt_sub, Int.bmod_def]
  omega
theorem own_nOf (hf : own_fit fr n) : n = 0 ∨ n = 1 ∨ n = 2 ∨ n = 3 ∨ n = 4 := by
  obtain ⟨h1, h2, h3⟩ := hf
  simp only [← Int32.toInt_inj]
  have : (0 : Int32).toInt = 0 := by decide
  have : (1 : Int32).toInt = 1 := by decide
  have : (2 : Int32).toInt = 2 := by decide
  have : (3 : Int32).toInt = 3 := by decide
  have : (4 : Int32).toInt = 4 := by decide
  omega
theorem own_four (hf : own_fit fr n) (h0 : 0 < n) (h1 : ¬ n = (1 : Int32)) (h2 : ¬ n = (2 : Int32)) (h3 : ¬ n = (3 : Int32)) : n = (4 : Int32) := by
  rcases own_nOf hf with q | q | q | q | q
  · rw [q] at h0; exact absurd h0 (by decide)
  · exact absurd q h1
  · exact absurd q h2
  · exact absurd q h3
  · exact q
theorem own_inK {z : Int32} (hf : own_fit fr n) (h : z < n) (hz : 0 ≤ z.toInt) : ¬ (fr + z) < 0 ∧ (fr + z) < (4 : Int32) := by
  obtain ⟨h1, h2, h3⟩ := hf
  have e4 : (4 : Int32).toInt = 4 := by decide
  rw [Int32.lt_iff_toInt_lt] at h
  rw [Int32.lt_iff_toInt_lt, Int32.lt_iff_toInt_lt, own_addS h1 (by omega) hz (by omega), e4, show (0 : Int32).toInt = 0 from rfl]
  omega
theorem own_in0 (hf : own_fit fr n) (h : (0 : Int32) < n) : ¬ fr < 0 ∧ fr < (4 : Int32) := by
  have q := own_inK hf h (by decide)
  rwa [Int32.add_zero] at q
theorem own_in1 (hf : own_fit fr n) (h : (1 : Int32) < n) : ¬ (fr + (1 : Int32)) < 0 ∧ (fr + (1 : Int32)) < (4 : Int32) := own_inK hf h (by decide)
theorem own_in2 (hf : own_fit fr n) (h : (2 : Int32) < n) : ¬ (fr + (2 : Int32)) < 0 ∧ (fr + (2 : Int32)) < (4 : Int32) := own_inK hf h (by decide)
theorem own_in3 (hf : own_fit fr n) (h : (3 : Int32) < n) : ¬ (fr + (3 : Int32)) < 0 ∧ (fr + (3 : Int32)) < (4 : Int32) := own_inK hf h (by decide)
theorem own_xat {j : Int32} {d : Value} (q : ¬ j < 0 ∧ j < (4 : Int32)) : ([(.int x0), (.int x1), (.int x2), (.int x3)] : List Value).getD j.toNatClampNeg d = .int (own_x x0 x1 x2 x3 j) := by
  have : j = 0 ∨ j = 1 ∨ j = 2 ∨ j = 3 := by
    simp only [Int32.lt_iff_toInt_lt, Int32.reduceToInt] at q
    simp only [← Int32.toInt_inj]
    have : (0 : Int32).toInt = 0 := by decide
    have : (1 : Int32).toInt = 1 := by decide
    have : (2 : Int32).toInt = 2 := by decide
    have : (3 : Int32).toInt = 3 := by decide
    omega
  rcases this with rfl | rfl | rfl | rfl <;> rfl
theorem own_x_sm (h0 : own_sml x0) (h1 : own_sml x1) (h2 : own_sml x2) (h3 : own_sml x3) (i : Int32) : ¬ own_x x0 x1 x2 x3 i < 0 ∧ ¬ (255 : Int32) < own_x x0 x1 x2 x3 i := by
  unfold own_x
  split
  · exact h0
  · split
    · exact h1
    · split
      · exact h2
      · exact h3
theorem own_le7 (hn : n = 0 ∨ n = 1 ∨ n = 2 ∨ n = 3 ∨ n = 4) : ¬ (7 : Int32) < n := by
  rcases hn with rfl | rfl | rfl | rfl | rfl <;> decide
theorem own_nb {z : Int32} {nb k : Nat} (h : z.toInt = (nb : Int)) (hk : z.toInt = (k : Int)) : nb = k := by omega
theorem own_addI {pz z : Int32} {pn i : Nat} (hp : pz.toInt = (pn : Int)) (hz : z.toInt = (i : Int)) (h : pn + i ≤ 4000) : (pz + z).toInt = ((pn + i : Nat) : Int) := by
  rw [own_addS (by omega) (by omega) (by omega) (by omega), hp, hz]
  omega
theorem own_small4 {k : Nat} (h : k ≤ 4) : Int32.ofNat k = 0 ∨ Int32.ofNat k = 1 ∨ Int32.ofNat k = 2 ∨ Int32.ofNat k = 3 ∨ Int32.ofNat k = 4 := by
  have : k = 0 ∨ k = 1 ∨ k = 2 ∨ k = 3 ∨ k = 4 := by omega
  rcases this with rfl | rfl | rfl | rfl | rfl <;> decide
theorem own_nn {k : Nat} (h : k ≤ 4000) : ¬ Int32.ofNat k < 0 := by
  rw [Int32.lt_iff_toInt_lt, own_ofNatI h, show (0 : Int32).toInt = 0 from rfl]
  omega
theorem own_subself {x : Int32} : x - x = 0 := Int32.sub_self x
theorem own_nil {cs : List Int32} (h : cs.length ≤ 4000) (hz : Int32.ofNat cs.length = 0) : [] = cs := by
  have q := own_ofNatI h
  rw [hz, show (0 : Int32).toInt = 0 from rfl] at q
  exact (List.eq_nil_of_length_eq_zero (by omega)).symm
theorem own_ln {x : Int32} (h : ln = (x &&& (7 : Int32)) % (5 : Int32)) : 0 ≤ ln.toInt ∧ ln.toInt ≤ 4 := by
  have q := c_mask x 7 3 (by decide) (by decide)
  have e5 : (5 : Int32).toInt = 5 := by decide
  have q0 : 0 ≤ (x &&& (7 : Int32)).toInt := by omega
  rw [h, Int32.toInt_mod, e5, Int.tmod_eq_emod_of_nonneg q0]
  omega
theorem own_ln1 (h : 0 ≤ ln.toInt ∧ ln.toInt ≤ 4) : ln + (1 : Int32) ≠ 0 := by
  intro q
  have e := own_addS (a := ln) (b := 1) h.1 (by omega) (by decide) (by decide)
  rw [q, show (0 : Int32).toInt = 0 from rfl, show (1 : Int32).toInt = 1 from rfl] at e
  omega
theorem own_pp {x : Int32} (h : 0 ≤ ln.toInt ∧ ln.toInt ≤ 4) (hq : pp = (x &&& (7 : Int32)) % (ln + (1 : Int32))) : 0 ≤ pp.toInt ∧ pp.toInt ≤ ln.toInt ∧ ln.toInt ≤ 4 := by
  have q := c_mask x 7 3 (by decide) (by decide)
  have e := own_addS (a := ln) (b := 1) h.1 (by omega) (by decide) (by decide)
  rw [show (1 : Int32).toInt = 1 from rfl] at e
  have q0 : 0 ≤ (x &&& (7 : Int32)).toInt := by omega
  have e1 : pp.toInt = (x &&& (7 : Int32)).toInt % (ln.toInt + 1) := by
    rw [hq, Int32.toInt_mod, e, Int.tmod_eq_emod_of_nonneg q0]
  have h1 := Int.emod_nonneg (x &&& (7 : Int32)).toInt (show ln.toInt + 1 ≠ 0 by omega)
  have h2 := Int.emod_lt_of_pos (x &&& (7 : Int32)).toInt (show 0 < ln.toInt + 1 by omega)
  omega
theorem own_fit0 (h : 0 ≤ ln.toInt ∧ ln.toInt ≤ 4) : own_fit (0 : Int32) ln := by
  have e0 : (0 : Int32).toInt = 0 := by decide
  refine ⟨?_, ?_, ?_⟩ <;> omega
theorem own_fit1 (hpp : 0 ≤ pp.toInt ∧ pp.toInt ≤ ln.toInt ∧ ln.toInt ≤ 4) : own_fit pp (ln - pp) := by
  have e := own_subS (a := ln) (b := pp) (by omega) (by omega) (by omega) (by omega)
  refine ⟨?_, ?_, ?_⟩ <;> omega
theorem own_pn (hpp : 0 ≤ pp.toInt ∧ pp.toInt ≤ ln.toInt ∧ ln.toInt ≤ 4) : pp.toInt = (pp.toNatClampNeg : Int) := by
  simp only [Int32.toNatClampNeg]
  omega
theorem own_p0 (hpp : 0 ≤ pp.toInt ∧ pp.toInt ≤ ln.toInt ∧ ln.toInt ≤ 4) : ¬ pp < 0 := by
  rw [Int32.lt_iff_toInt_lt, show (0 : Int32).toInt = 0 from rfl]
  omega
theorem own_tk_map (hf : own_fit fr n) : own_tk x0 x1 x2 x3 fr n = (List.range n.toInt.toNat).map fun i => own_x x0 x1 x2 x3 (fr + Int32.ofNat i) := by
  have a0 : own_x x0 x1 x2 x3 (fr + Int32.ofNat 0) = own_x x0 x1 x2 x3 fr := by rw [show Int32.ofNat 0 = 0 from rfl, Int32.add_zero]
  rcases own_nOf hf with rfl | rfl | rfl | rfl | rfl
  · rfl
  · exact congrArg (fun z => [z]) a0.symm
  · exact congrArg (fun z => z :: _) a0.symm
  · exact congrArg (fun z => z :: _) a0.symm
  · exact congrArg (fun z => z :: _) a0.symm
theorem own_tk_len (hf : own_fit fr n) : (own_tk x0 x1 x2 x3 fr n).length = n.toInt.toNat := by
  rw [own_tk_map hf]
  simp
theorem own_tk_of (hf : own_fit fr n) : Int32.ofNat (own_tk x0 x1 x2 x3 fr n).length = n := by
  rw [own_tk_len hf]
  obtain ⟨h1, h2, h3⟩ := hf
  apply Int32.toInt_inj.mp
  rw [own_ofNatI (by omega)]
  omega
theorem own_hle (hpp : 0 ≤ pp.toInt ∧ pp.toInt ≤ ln.toInt ∧ ln.toInt ≤ 4) : ¬ ((Int32.ofNat (own_tk x0 x1 x2 x3 (0 : Int32) ln).length) - (Int32.ofNat (own_tk x0 x1 x2 x3 pp (ln - pp)).length)) < pp := by
  rw [own_tk_of (own_fit0 ⟨by omega, by omega⟩), own_tk_of (own_fit1 hpp), Int32.lt_iff_toInt_lt]
  have e := own_subS (a := ln) (b := pp) (by omega) (by omega) (by omega) (by omega)
  rw [own_subS (a := ln) (b := ln - pp) (by omega) (by omega) (by omega) (by omega)]
  omega
theorem own_hd (hpp : 0 ≤ pp.toInt ∧ pp.toInt ≤ ln.toInt ∧ ln.toInt ≤ 4) : (own_tk x0 x1 x2 x3 pp (ln - pp)).length ≤ 4 := by
  rw [own_tk_len (own_fit1 hpp)]
  have e := own_subS (a := ln) (b := pp) (by omega) (by omega) (by omega) (by omega)
  omega
theorem own_hpl (hpp : 0 ≤ pp.toInt ∧ pp.toInt ≤ ln.toInt ∧ ln.toInt ≤ 4) : pp.toNatClampNeg + (own_tk x0 x1 x2 x3 pp (ln - pp)).length ≤ (own_tk x0 x1 x2 x3 (0 : Int32) ln).length := by
  rw [own_tk_len (own_fit1 hpp), own_tk_len (own_fit0 ⟨by omega, by omega⟩)]
  have e := own_subS (a := ln) (b := pp) (by omega) (by omega) (by omega) (by omega)
  simp only [Int32.toNatClampNeg]
  omega
theorem own_by_tk (hf : own_fit fr n) {i : Nat} (hi : i < n.toInt.toNat) : own_by (own_tk x0 x1 x2 x3 fr n) i = (own_x x0 x1 x2 x3 (fr + Int32.ofNat i)).toInt8.toInt32 := by
  unfold own_by
  rw [own_tk_map hf]
  generalize n.toInt.toNat = k at hi
  simp [List.getD, hi]
theorem own_he (hpp : 0 ≤ pp.toInt ∧ pp.toInt ≤ ln.toInt ∧ ln.toInt ≤ 4) : ∀ i, i < (own_tk x0 x1 x2 x3 pp (ln - pp)).length → own_by (own_tk x0 x1 x2 x3 (0 : Int32) ln) (pp.toNatClampNeg + i) = own_by (own_tk x0 x1 x2 x3 pp (ln - pp)) i := by
  intro i hi
  have e := own_subS (a := ln) (b := pp) (by omega) (by omega) (by omega) (by omega)
  rw [own_tk_len (own_fit1 hpp)] at hi
  rw [own_by_tk (own_fit1 hpp) hi, own_by_tk (own_fit0 ⟨by omega, by omega⟩) (by simp only [Int32.toNatClampNeg]; omega)]
  have : (0 : Int32) + Int32.ofNat (pp.toNatClampNeg + i) = pp + Int32.ofNat i := by
    apply Int32.toInt_inj.mp
    rw [Int32.zero_add, own_ofNatI (by simp only [Int32.toNatClampNeg]; omega), own_addS (by omega) (by omega) (by rw [own_ofNatI (by omega)]; omega) (by rw [own_ofNatI (by omega)]; omega), own_ofNatI (by omega)]
    simp only [Int32.toNatClampNeg]
    omega
  rw [this]
theorem own_nxt (hpp : 0 ≤ pp.toInt ∧ pp.toInt ≤ ln.toInt ∧ ln.toInt ≤ 4) : pp + (Int32.ofNat (own_tk x0 x1 x2 x3 pp (ln - pp)).length) = (Int32.ofNat (own_tk x0 x1 x2 x3 (0 : Int32) ln).length) := by
  rw [own_tk_of (own_fit0 ⟨by omega, by omega⟩), own_tk_of (own_fit1 hpp)]
  have e := own_subS (a := ln) (b := pp) (by omega) (by omega) (by omega) (by omega)
  apply Int32.toInt_inj.mp
  rw [own_addS (by omega) (by omega) (by omega) (by omega)]
  omega
end
theorem d3_0 : decode jdk_42_method_149_code 0 = .ok (.aload_n 0, 1) := by decide +kernel
theorem d3_1 : decode jdk_42_method_149_code 1 = .ok (.invokespecial 1, 3) := by decide +kernel
theorem d3_4 : decode jdk_42_method_149_code 4 = .ok (.iload_n 3, 1) := by decide +kernel
theorem d3_5 : decode jdk_42_method_149_code 5 = .ok (.ifCond .ne 22, 3) := by decide +kernel
theorem d3_8 : decode jdk_42_method_149_code 8 = .ok (.aload_n 0, 1) := by decide +kernel
theorem d3_9 : decode jdk_42_method_149_code 9 = .ok (.ldc 7, 2) := by decide +kernel
theorem d3_11 : decode jdk_42_method_149_code 11 = .ok (.getfield 9, 3) := by decide +kernel
theorem d3_14 : decode jdk_42_method_149_code 14 = .ok (.putfield 9, 3) := by decide +kernel
theorem d3_17 : decode jdk_42_method_149_code 17 = .ok (.aload_n 0, 1) := by decide +kernel
theorem d3_18 : decode jdk_42_method_149_code 18 = .ok (.ldc 7, 2) := by decide +kernel
theorem d3_20 : decode jdk_42_method_149_code 20 = .ok (.getfield 15, 3) := by decide +kernel
theorem d3_23 : decode jdk_42_method_149_code 23 = .ok (.putfield 15, 3) := by decide +kernel
theorem d3_26 : decode jdk_42_method_149_code 26 = .ok (.return_, 1) := by decide +kernel
theorem ef_rm_s0v (m : MethodId) (t : Addr) (ca : Addr)  : entryFrame m #[(.ref t), (.ref ca), (.int (0 : Int32)), (.int (0 : Int32)), .null] 6 = mkF m 0 #[.val (.ref t), .val (.ref ca), .val (.int (0 : Int32)), .val (.int (0 : Int32)), .val .null, .unset] [] := by first | (simp [entryFrame, mkF, argsToLocals, Value.category]; done) | rfl
def Q_rm_s0v (Z : State) (t : Addr) (ca : Addr)  (h0 : Heap) (n0 : Nat) (v : Option Value) (h : Heap) (L : List Loc) : Prop := v = none ∧ Fr n0 L ∧ Keep h0 h [t] ∧ StrIs Z h t []
theorem pn_0_ : plainName "java/lang/String" = true := by first | (simp [plainName, overriddenIn]; done) | decide +kernel
theorem pn_0 : plainFor (⟨"java/lang/String", "<init>", "([CIILjava/lang/Void;)V"⟩ : MethodName) = true := plainFor_of_name pn_0_
set_option maxRecDepth 65536 in
set_option maxHeartbeats 40000000 in
theorem rm_s0v (l : Launch) (Z : State) (a0 : Array Value) (hw : ∀ d ∈ tables_1, d.before a0 Z = true) (ws : List Jvm.Cond) (t : Addr) (ca : Addr)  (h0 : Heap) (n0 : Nat) (O0 : Old Z n0 h0) (hEL : EW Z a0 consts_1) (E_t : Exa Z h0 t "java/lang/String") (F_t_value : Fld Z h0 t "java/lang/String" "value" "[B" .null) (F_t_coder : Fld Z h0 t "java/lang/String" "coder" "B" (.int (0 : Int32))) (ge_t : n0 ≤ t) :
    MetFree l (⟨"java/lang/String", "<init>", "([CIILjava/lang/Void;)V"⟩ : MethodName) (head1 (Jvm.Cond.code (⟨"java/lang/String", "<init>", "([CIILjava/lang/Void;)V"⟩ : MethodName) jdk_42_method_149_code 6 none :: ws) ({ frames := 1, cells := 2, slots := 4, locals := 12 } : Room)) (fun args_ U => args_ = #[(.ref t), (.ref ca), (.int (0 : Int32)), (.int (0 : Int32)), .null] ∧ Z.Warmed39 U.vm ∧ U.heap = h0 ∧ CHv Z consts_1 U.vm h0) (fun _ _ _ _ _ => True) (fun _ U out_ U' => ∃ val_ loc_, out_ = .returned val_ ∧ (Q_rm_s0v Z t ca h0 n0) val_ U'.heap loc_ ∧ CHr Z consts_1 U.vm U.heap U'.vm U'.heap ∧ ReturnedEndW U out_ U' loc_ ({ frames := 1, cells := 2, slots := 4, locals := 12 } : Room).cells ({ frames := 1, cells := 2, slots := 4, locals := 12 } : Room).slots) := by
  refine startW (Q := (Q_rm_s0v Z t ca h0 n0)) pn_0 ?_
  intro p e s m below meth c T0 X0 hx hby hml hown hnm hret hlk hZ e0 hS CR
  have hk : 0 ≤ h0.size := Nat.zero_le _
  have wS : ∀ a ∈ Bundle.stringAtoms, a.before a0 Z = true := own_wS hw
  replace hown : s.vm.findClass "java/lang/String" = some m.cls := hown
  replace hml : c.maxLocals = 6 := hml
  refine goAt (ef_rm_s0v m t ca ) ?_
  have N0 := Fr.nil n0
  have Sf_t := safeNull (EL := consts_1) hZ.alike E_t F_t_value
  show Go p e below T0 (mkF m 0 #[.val (.ref t), .val (.ref ca), .val (.int (0 : Int32)), .val (.int (0 : Int32)), .val .null, .unset] []) _
  refine stp (fun _ => XS.aloadN X0.here hx rfl (hb hby d3_0) rfl rfl) ?_
  show Go p e below T0 (mkF m 1 #[.val (.ref t), .val (.ref ca), .val (.int (0 : Int32)), .val (.int (0 : Int32)), .val .null, .unset] [(.ref t)]) _
  obtain ⟨T1, X1, e1, st1⟩ := initO X0 hx hZ hown (hw _ (List.mem_of_getElem? (i := 15) rfl)) (hw _ (List.mem_of_getElem? (i := 16) rfl)) (hw _ (List.mem_of_getElem? (i := 17) rfl)) e0 (g := (mkF m 1 #[.val (.ref t), .val (.ref ca), .val (.int (0 : Int32)), .val (.int (0 : Int32)), .val .null, .unset] [(.ref t)])) rfl (by rw [hml]; rfl) rfl (hb hby d3_1) (by decide) (W := 0) (by show 2 * 0 + _ ≤ _; exact Nat.le_of_eq rfl) (by decide)
  refine stp st1 ?_
  show Go p e below T1 (mkF m 4 #[.val (.ref t), .val (.ref ca), .val (.int (0 : Int32)), .val (.int (0 : Int32)), .val .null, .unset] []) _
  refine stp (fun _ => XS.iloadN X1.here hx rfl (hb hby d3_4) rfl) ?_
  show Go p e below T1 (mkF m 5 #[.val (.ref t), .val (.ref ca), .val (.int (0 : Int32)), .val (.int (0 : Int32)), .val .null, .unset] [(.int (0 : Int32))]) _
  refine stp (fun _ => XS.ifNo X1.here hx rfl (hb hby d3_5) rfl (by decide)) ?_
  show Go p e below T1 (mkF m 8 #[.val (.ref t), .val (.ref ca), .val (.int (0 : Int32)), .val (.int (0 : Int32)), .val .null, .unset] []) _
  refine stp (fun _ => XS.aloadN X1.here hx rfl (hb hby d3_8) rfl rfl) ?_
  show Go p e below T1 (mkF m 9 #[.val (.ref t), .val (.ref ca), .val (.int (0 : Int32)), .val (.int (0 : Int32)), .val .null, .unset] [(.ref t)]) _
  obtain ⟨la2, T2, h2, k1_2, lb2, kl2, X2, e2, E2, hS, hk', hZ, hown, Ea2, Ca2, Va2, Ba2, lta2, ltb2, CRn2, Li2, hne2, st2⟩ := ldcCH X1 hx hZ hown (hw _ (List.mem_of_getElem? (i := 141) rfl)) wS e1 hS hk hEL (by decide) CR.1 (vs := []) (z := (0 : Int32)) ⟨by decide +kernel, by decide +kernel⟩ (by decide) (by decide) (g := (mkF m 9 #[.val (.ref t), .val (.ref ca), .val (.int (0 : Int32)), .val (.int (0 : Int32)), .val .null, .unset] [(.ref t)])) rfl (hb hby d3_9) (n := 0) (by decide +kernel) (by decide) (by decide) (by decide)
  have f3 := E_t.ext E2
  have f4 := F_t_value.ext E2
  have f5 := F_t_coder.ext E2
  have f6 := (CRn2.safe F_t_coder.lt Sf_t)
  have hk := hk'
  have CR := CR.trans CRn2
  have K2 : Keep h0 h2 [t] := (Keep.refl h0 [t]).ext E2
  have O2 := O0.ext E2
  have ne7 := hne2 t f6
  refine stp st2 ?_
  show Go p e below T2 (mkF m 11 #[.val (.ref t), .val (.ref ca), .val (.int (0 : Int32)), .val (.int (0 : Int32)), .val .null, .unset] [(.ref la2), (.ref t)]) _
  obtain ⟨T8, X8, e8, st8⟩ := getF X2 hx hZ hown (host := "") (Or.inl (hw _ (List.mem_of_getElem? (i := 32) rfl))) Via.refl e2 Va2 (g := (mkF m 11 #[.val (.ref t), .val (.ref ca), .val (.int (0 : Int32)), .val (.int (0 : Int32)), .val .null, .unset] [(.ref la2), (.ref t)])) rfl rfl (hb hby d3_11)
  refine stp st8 ?_
  show Go p e below T8 (mkF m 14 #[.val (.ref t), .val (.ref ca), .val (.int (0 : Int32)), .val (.int (0 : Int32)), .val .null, .unset] [(.ref lb2), (.ref t)]) _
  obtain ⟨T9, h9, X9, e9, W9, st9⟩ := putF X8 hx hZ hown (host := "") (Or.inl (hw _ (List.mem_of_getElem? (i := 32) rfl))) Via.refl e8 f4 f3 (Or.inr ⟨(hw _ (List.mem_of_getElem? (i := 33) rfl)), rfl, hnm⟩) (hw _ (List.mem_of_getElem? (i := 6) rfl)) (ty := (.array .byte)) (by decide) rfl rfl (g := (mkF m 14 #[.val (.ref t), .val (.ref ca), .val (.int (0 : Int32)), .val (.int (0 : Int32)), .val .null, .unset] [(.ref lb2), (.ref t)])) rfl rfl (hb hby d3_14)
  have Fw9 := f4.same W9
  have f10 := f3.wr W9
  have f12 := f5.other W9 (Or.inr (slot_ne (Or.inr (hw _ (List.mem_of_getElem? (i := 31) rfl))) (Or.inr (hw _ (List.mem_of_getElem? (i := 33) rfl))) (by decide) (t := .byte) (t' := (.array .byte)) (by decide) (by decide)))
  have f13 := Safe.wr W9 f6 CR.1 f6
  have f14 := Ea2.wr W9
  have f15 := Ca2.other W9 (Or.inl (Ne.symm ne7.1))
  have f16 := Va2.other W9 (Or.inl (Ne.symm ne7.1))
  have f17 := Ba2.other W9 (Ne.symm ne7.2)
  have hk := Nat.le_trans hk (Keep.of_wr W9).1
  have CR := CR.trans (CHr.wr W9 f6 CR.1)
  have K9 : Keep h0 h9 [t] := K2.wr W9 (Or.inl (List.mem_of_getElem? (i := 0) rfl))
  have O9 := O2.wr W9 ge_t
  have N9 := Fr.snoc X9 N0 ge_t
  refine stp st9 ?_
  show Go p e below T9 (mkF m 17 #[.val (.ref t), .val (.ref ca), .val (.int (0 : Int32)), .val (.int (0 : Int32)), .val .null, .unset] []) _
  refine stp (fun _ => XS.aloadN X9.here hx rfl (hb hby d3_17) rfl rfl) ?_
  show Go p e below T9 (mkF m 18 #[.val (.ref t), .val (.ref ca), .val (.int (0 : Int32)), .val (.int (0 : Int32)), .val .null, .unset] [(.ref t)]) _
  refine stp (fun _ => ldcAgain X9 hx hZ hown (hw _ (List.mem_of_getElem? (i := 141) rfl)) Li2 (g := (mkF m 18 #[.val (.ref t), .val (.ref ca), .val (.int (0 : Int32)), .val (.int (0 : Int32)), .val .null, .unset] [(.ref t)])) rfl (hb hby d3_18) _) ?_
  show Go p e below T9 (mkF m 20 #[.val (.ref t), .val (.ref ca), .val (.int (0 : Int32)), .val (.int (0 : Int32)), .val .null, .unset] [(.ref la2), (.ref t)]) _
  obtain ⟨T18, X18, e18, st18⟩ := getF X9 hx hZ hown (host := "") (Or.inl (hw _ (List.mem_of_getElem? (i := 30) rfl))) Via.refl e9 f15 (g := (mkF m 20 #[.val (.ref t), .val (.ref ca), .val (.int (0 : Int32)), .val (.int (0 : Int32)), .val .null, .unset] [(.ref la2), (.ref t)])) rfl rfl (hb hby d3_20)
  refine stp st18 ?_
  show Go p e below T18 (mkF m 23 #[.val (.ref t), .val (.ref ca), .val (.int (0 : Int32)), .val (.int (0 : Int32)), .val .null, .unset] [(.int (0 : Int32)), (.ref t)]) _
  obtain ⟨T19, h19, X19, e19, W19, st19⟩ := putFN X18 hx hZ hown (hw _ (List.mem_of_getElem? (i := 30) rfl)) Via.refl e18 f12 f10 (Or.inr ⟨(hw _ (List.mem_of_getElem? (i := 31) rfl)), rfl, hnm⟩) (hw _ (List.mem_of_getElem? (i := 6) rfl)) (ty := .byte) (v' := (.int (0 : Int32))) (by decide) rfl rfl (g := (mkF m 23 #[.val (.ref t), .val (.ref ca), .val (.int (0 : Int32)), .val (.int (0 : Int32)), .val .null, .unset] [(.int (0 : Int32)), (.ref t)])) rfl rfl (hb hby d3_23)
  have Fw19 := f12.same W19
  have f20 := f10.wr W19
  have f21 := Fw9.other W19 (Or.inr (slot_ne (Or.inr (hw _ (List.mem_of_getElem? (i := 33) rfl))) (Or.inr (hw _ (List.mem_of_getElem? (i := 31) rfl))) (by decide) (t := (.array .byte)) (t' := .byte) (by decide) (by decide)))
  have f23 := Safe.wr W19 f13 CR.1 f13
  have f24 := f14.wr W19
  have f25 := f15.other W19 (Or.inl (Ne.symm ne7.1))
  have f26 := f16.other W19 (Or.inl (Ne.symm ne7.1))
  have f27 := f17.other W19 (Ne.symm ne7.2)
  have hk := Nat.le_trans hk (Keep.of_wr W19).1
  have CR := CR.trans (CHr.wr W19 f13 CR.1)
  have K19 : Keep h0 h19 [t] := K9.wr W19 (Or.inl (List.mem_of_getElem? (i := 0) rfl))
  have O19 := O9.wr W19 ge_t
  have N19 := Fr.snoc X19 N9 ge_t
  refine stp st19 ?_
  show Go p e below T19 (mkF m 26 #[.val (.ref t), .val (.ref ca), .val (.int (0 : Int32)), .val (.int (0 : Int32)), .val .null, .unset] []) _
  have Q28 : StrIs Z h19 t [] := StrIs.of f20 f21 Fw19 f27 rfl rfl (fun _ q => nomatch q) (Nat.le_of_ble_eq_true rfl)
  refine outVW X19 hx hZ hEL e19 hS hk CR hret (hb hby d3_26) hlk (by decide) (by decide) ?_
  rw [e19]
  exact ⟨rfl, N19, K19, Q28⟩
theorem d2_0 : decode jdk_42_method_3_code 0 = .ok (.aload_n 0, 1) := by decide +kernel
theorem d2_1 : decode jdk_42_method_3_code 1 = .ok (.aload_n 1, 1) := by decide +kernel
theorem d2_2 : decode jdk_42_method_3_code 2 = .ok (.iconst 0, 1) := by decide +kernel
theorem d2_3 : decode jdk_42_method_3_code 3 = .ok (.aload_n 1, 1) := by decide +kernel
theorem d2_4 : decode jdk_42_method_3_code 4 = .ok (.arraylength, 1) := by decide +kernel
theorem d2_5 : decode jdk_42_method_3_code 5 = .ok (.aconst_null, 1) := by decide +kernel
theorem d2_6 : decode jdk_42_method_3_code 6 = .ok (.invokespecial 27, 3) := by decide +kernel
theorem pd_0 : parseMethodDescriptor "([CIILjava/lang/Void;)V" = some ⟨[(.array .char), .int, .int, (.object "java/lang/Void")], none⟩ := by decide +kernel
theorem d2_9 : decode jdk_42_method_3_code 9 = .ok (.return_, 1) := by decide +kernel
theorem ef_rm_s0 (m : MethodId) (t : Addr) (ca : Addr)  : entryFrame m #[(.ref t), (.ref ca)] 2 = mkF m 0 #[.val (.ref t), .val (.ref ca)] [] := by first | (simp [entryFrame, mkF, argsToLocals, Value.category]; done) | rfl
def Q_rm_s0 (Z : State) (t : Addr) (ca : Addr) (k_ca : ClassId) (h0 : Heap) (n0 : Nat) (v : Option Value) (h : Heap) (L : List Loc) : Prop := v = none ∧ Fr n0 L ∧ Keep h0 h [t] ∧ StrIs Z h t []
theorem pn_1_ : plainName "java/lang/String" = true := by first | (simp [plainName, overriddenIn]; done) | decide +kernel
theorem pn_1 : plainFor (⟨"java/lang/String", "<init>", "([C)V"⟩ : MethodName) = true := plainFor_of_name pn_1_
set_option maxRecDepth 65536 in
set_option maxHeartbeats 40000000 in
theorem rm_s0 (l : Launch) (Z : State) (a0 : Array Value) (hw : ∀ d ∈ tables_1, d.before a0 Z = true) (ws : List Jvm.Cond) (t : Addr) (ca : Addr) (k_ca : ClassId) (h0 : Heap) (n0 : Nat) (O0 : Old Z n0 h0) (hEL : EW Z a0 consts_1) (E_t : Exa Z h0 t "java/lang/String") (F_t_value : Fld Z h0 t "java/lang/String" "value" "[B" .null) (F_t_coder : Fld Z h0 t "java/lang/String" "coder" "B" (.int (0 : Int32))) (V_ca : Arv Z h0 ca k_ca .char (0 : Int32) [] (.int (0 : Int32))) (ge_t : n0 ≤ t) (ne_ca_t : ca ≠ t) :
    MetFree l (⟨"java/lang/String", "<init>", "([C)V"⟩ : MethodName) (head1 (Jvm.Cond.code (⟨"java/lang/String", "<init>", "([C)V"⟩ : MethodName) jdk_42_method_3_code 2 none :: ws) ({ frames := 2, cells := 2, slots := 4, locals := 29 } : Room)) (fun args_ U => args_ = #[(.ref t), (.ref ca)] ∧ Z.Warmed39 U.vm ∧ U.heap = h0 ∧ CHv Z consts_1 U.vm h0) (fun _ _ _ _ _ => True) (fun _ U out_ U' => ∃ val_ loc_, out_ = .returned val_ ∧ (Q_rm_s0 Z t ca k_ca h0 n0) val_ U'.heap loc_ ∧ CHr Z consts_1 U.vm U.heap U'.vm U'.heap ∧ ReturnedEndW U out_ U' loc_ ({ frames := 2, cells := 2, slots := 4, locals := 29 } : Room).cells ({ frames := 2, cells := 2, slots := 4, locals := 29 } : Room).slots) := by
  refine startW (Q := (Q_rm_s0 Z t ca k_ca h0 n0)) pn_1 ?_
  intro p e s m below meth c T0 X0 hx hby hml hown hnm hret hlk hZ e0 hS CR
  have hk : 0 ≤ h0.size := Nat.zero_le _
  have wS : ∀ a ∈ Bundle.stringAtoms, a.before a0 Z = true := own_wS hw
  replace hown : s.vm.findClass "java/lang/String" = some m.cls := hown
  replace hml : c.maxLocals = 2 := hml
  refine goAt (ef_rm_s0 m t ca ) ?_
  have N0 := Fr.nil n0
  have Sf_t := safeNull (EL := consts_1) hZ.alike E_t F_t_value
  show Go p e below T0 (mkF m 0 #[.val (.ref t), .val (.ref ca)] []) _
  refine stp (fun _ => XS.aloadN X0.here hx rfl (hb hby d2_0) rfl rfl) ?_
  show Go p e below T0 (mkF m 1 #[.val (.ref t), .val (.ref ca)] [(.ref t)]) _
  refine stp (fun _ => XS.aloadN X0.here hx rfl (hb hby d2_1) rfl rfl) ?_
  show Go p e below T0 (mkF m 2 #[.val (.ref t), .val (.ref ca)] [(.ref ca), (.ref t)]) _
  refine stp (fun _ => XS.iconst X0.here hx rfl (hb hby d2_2)) ?_
  show Go p e below T0 (mkF m 3 #[.val (.ref t), .val (.ref ca)] [(.int (0 : Int32)), (.ref ca), (.ref t)]) _
  refine stp (fun _ => XS.aloadN X0.here hx rfl (hb hby d2_3) rfl rfl) ?_
  show Go p e below T0 (mkF m 4 #[.val (.ref t), .val (.ref ca)] [(.ref ca), (.int (0 : Int32)), (.ref ca), (.ref t)]) _
  obtain ⟨cl1, Ar1, -, S1, M1, -, -⟩ := (id V_ca)
  refine stp (fun _ => X0.arraylength hx (by rw [e0]; exact Ar1.1) (State.isArrayOf_alike hZ.alike Ar1.2.1) (g := (mkF m 4 #[.val (.ref t), .val (.ref ca)] [(.ref ca), (.int (0 : Int32)), (.ref ca), (.ref t)])) rfl rfl (hb hby d2_4) _) ?_
  rw [len_of S1 M1]
  show Go p e below T0 (mkF m 5 #[.val (.ref t), .val (.ref ca)] [(.int (0 : Int32)), (.int (0 : Int32)), (.ref ca), (.ref t)]) _
  refine stp (fun _ => XS.aconstNull X0.here hx rfl (hb hby d2_5)) ?_
  show Go p e below T0 (mkF m 6 #[.val (.ref t), .val (.ref ca)] [.null, (.int (0 : Int32)), (.int (0 : Int32)), (.ref ca), (.ref t)]) _
  obtain ⟨_, _, ⟨T2, L2, k2, n2⟩, -, X2, hS2, gg2, ⟨Lc2, hQ2, l2, y2, z2, CRn2⟩, st2⟩ := X0.specialBackS hx (y := (⟨"java/lang/String", "<init>", "([CIILjava/lang/Void;)V"⟩ : MethodName)) rfl hown (mvT hZ (hw _ (List.mem_of_getElem? (i := 11) rfl))) (mvT hZ (hw _ (List.mem_of_getElem? (i := 12) rfl))) (mvT hZ (hw _ (List.mem_of_getElem? (i := 14) rfl))) (by decide) (backOfSH (W := 0) (rm_s0v l Z a0 hw [] t ca  h0 n0 O0 hEL E_t F_t_value F_t_coder ge_t) hZ (hw _ (List.mem_of_getElem? (i := 14) rfl)) (hw _ (List.mem_of_getElem? (i := 7) rfl)) (by decide) (by decide) hEL CR.1) (g := (mkF m 6 #[.val (.ref t), .val (.ref ca)] [.null, (.int (0 : Int32)), (.int (0 : Int32)), (.ref ca), (.ref t)])) rfl (by rw [hml]; rfl) (Steps.refl _) (a := t) (argsL := [(.ref ca), (.int (0 : Int32)), (.int (0 : Int32)), .null]) (rest := []) (lenOf pd_0 rfl) rfl (by show 2 * 0 + _ ≤ _; exact Nat.le_of_eq rfl) (hb hby d2_6) (fun _ _ => ⟨rfl, e0, (by decide : 0 + 2 ≤ _), (by decide : 0 + 4 ≤ _)⟩)
  dsimp only [Pt.U, Pt.locs, Pt.cells, Pt.slots] at X2 hS2 gg2 l2 y2 z2 st2 hQ2 CRn2
  subst y2 z2
  obtain ⟨X2, hS, hZ, hown⟩ := rebS hS (by rw [e0]; exact hk) X2 hS2 gg2 hZ hown
  obtain ⟨rfl, N2q, K2q, r2_0⟩ := hQ2
  have N2 : Fr n0 L2 := by rw [l2]; exact Fr.app N0 N2q
  have f3 := E_t.keep K2q
  have f4 := V_ca.keep K2q (ninS ne_ca_t nin0)
  have f5 := CRn2.safe F_t_coder.lt Sf_t
  have K2 : Keep h0 T2.heap [t] := (Keep.refl h0 [t]).trans K2q (allS (Or.inl (List.mem_of_getElem? (i := 0) rfl)) all0)
  have O2 := O0.keep K2q (allS ge_t all0)
  have hk : T2.heap.size ≤ T2.heap.size := Nat.le_refl _
  have CR := CR.trans CRn2
  refine stt st2 ?_
  show Go p e below T2 (mkF m 9 #[.val (.ref t), .val (.ref ca)] []) _
  refine outVW X2 hx hZ hEL rfl hS hk CR hret (hb hby d2_9) hlk (by decide) (by decide) ?_
  exact ⟨rfl, N2, K2, r2_0⟩
theorem d28_0 : decode jdk_43_method_3_code 0 = .ok (.iload_n 0, 1) := by decide +kernel
theorem d28_1 : decode jdk_43_method_3_code 1 = .ok (.sipush 255, 3) := by decide +kernel
theorem d28_4 : decode jdk_43_method_3_code 4 = .ok (.if_icmp .gt 7, 3) := by decide +kernel
theorem d28_7 : decode jdk_43_method_3_code 7 = .ok (.iconst 1, 1) := by decide +kernel
theorem d28_8 : decode jdk_43_method_3_code 8 = .ok (.goto 4, 3) := by decide +kernel
theorem d28_12 : decode jdk_43_method_3_code 12 = .ok (.ireturn, 1) := by decide +kernel
theorem ef_rm_can (m : MethodId) (k : Int32)  : entryFrame m #[(.int k)] 1 = mkF m 0 #[.val (.int k)] [] := by first | (simp [entryFrame, mkF, argsToLocals, Value.category]; done) | rfl
def Q_rm_can (Z : State) (k : Int32)  (h0 : Heap) (n0 : Nat) (v : Option Value) (h : Heap) (L : List Loc) : Prop := v = some (.int (1 : Int32)) ∧ Fr n0 L ∧ h = h0
theorem pn_2_ : plainName "java/lang/StringLatin1" = true := by first | (simp [plainName, overriddenIn]; done) | decide +kernel
theorem pn_2 : plainFor (⟨"java/lang/StringLatin1", "canEncode", "(C)Z"⟩ : MethodName) = true := plainFor_of_name pn_2_
set_option maxRecDepth 65536 in
set_option maxHeartbeats 40000000 in
theorem rm_can (l : Launch) (Z : State) (a0 : Array Value) (hw : ∀ d ∈ tables_1, d.before a0 Z = true) (ws : List Jvm.Cond) (k : Int32)  (h0 : Heap) (n0 : Nat) (O0 : Old Z n0 h0) (hk : ¬ (255 : Int32) < k) :
    MetFree l (⟨"java/lang/StringLatin1", "canEncode", "(C)Z"⟩ : MethodName) (head1 (Jvm.Cond.code (⟨"java/lang/StringLatin1", "canEncode", "(C)Z"⟩ : MethodName) jdk_43_method_3_code 1 (some .boolean) :: ws) ({ frames := 0, cells := 0, slots := 0, locals := 0 } : Room)) (fun args_ U => args_ = #[(.int k)] ∧ Z.Warmed39 U.vm ∧ U.heap = h0) (fun _ _ _ _ _ => True) (fun _ U out_ U' => ∃ val_ loc_, out_ = .returned val_ ∧ (Q_rm_can Z k h0 n0) val_ U'.heap loc_ ∧ FrameEnd U out_ U' loc_ ({ frames := 0, cells := 0, slots := 0, locals := 0 } : Room).cells ({ frames := 0, cells := 0, slots := 0, locals := 0 } : Room).slots) := by
  refine start (Q := (Q_rm_can Z k h0 n0)) pn_2 ?_
  intro p e s m below meth c T0 X0 hx hby hml hown hnm hret hlk hZ e0
  replace hown : s.vm.findClass "java/lang/StringLatin1" = some m.cls := hown
  replace hml : c.maxLocals = 1 := hml
  refine goAt (ef_rm_can m k ) ?_
  have N0 := Fr.nil n0
  show Go p e below T0 (mkF m 0 #[.val (.int k)] []) _
  refine stp (fun _ => XS.iloadN X0.here hx rfl (hb hby d28_0) rfl) ?_
  show Go p e below T0 (mkF m 1 #[.val (.int k)] [(.int k)]) _
  refine stp (fun _ => XS.sipush X0.here hx rfl (hb hby d28_1)) ?_
  show Go p e below T0 (mkF m 4 #[.val (.int k)] [(.int (255 : Int32)), (.int k)]) _
  refine stp (fun _ => XS.icmpNo X0.here hx rfl (hb hby d28_4) rfl (XT.ii_gt_f hk)) ?_
  show Go p e below T0 (mkF m 7 #[.val (.int k)] []) _
  refine stp (fun _ => XS.iconst X0.here hx rfl (hb hby d28_7)) ?_
  show Go p e below T0 (mkF m 8 #[.val (.int k)] [(.int (1 : Int32))]) _
  refine stp (fun _ => XS.goto X0.here hx rfl (pc0 := 8) (pc' := 12) rfl (hb hby d28_8) (by decide) (by decide)) ?_
  show Go p e below T0 (mkF m 12 #[.val (.int k)] [(.int (1 : Int32))]) _
  refine outN X0 hx (t := .boolean) hret (by simp) (hb hby d28_12) hlk (by decide) (by decide) ?_
  exact ⟨rfl, N0, e0⟩
theorem d29_0 : decode jdk_43_method_46_code 0 = .ok (.iconst 1, 1) := by decide +kernel
theorem d29_1 : decode jdk_43_method_46_code 1 = .ok (.newarray .byte, 2) := by decide +kernel
theorem d29_3 : decode jdk_43_method_46_code 3 = .ok (.dup, 1) := by decide +kernel
theorem d29_4 : decode jdk_43_method_46_code 4 = .ok (.iconst 0, 1) := by decide +kernel
theorem d29_5 : decode jdk_43_method_46_code 5 = .ok (.iload_n 0, 1) := by decide +kernel
theorem d29_6 : decode jdk_43_method_46_code 6 = .ok (.i2b, 1) := by decide +kernel
theorem d29_7 : decode jdk_43_method_46_code 7 = .ok (.bastore, 1) := by decide +kernel
theorem d29_8 : decode jdk_43_method_46_code 8 = .ok (.areturn, 1) := by decide +kernel
theorem ef_rm_tb (m : MethodId) (k : Int32)  : entryFrame m #[(.int k)] 1 = mkF m 0 #[.val (.int k)] [] := by first | (simp [entryFrame, mkF, argsToLocals, Value.category]; done) | rfl
def Q_rm_tb (Z : State) (k : Int32)  (h0 : Heap) (n0 : Nat) (v : Option Value) (h : Heap) (L : List Loc) : Prop := ∃ (b : Addr) (k_b : ClassId), v = some (.ref b) ∧ Fr n0 L ∧ Keep h0 h [] ∧ (n0 ≤ b ∧ h0.size ≤ b) ∧ Exa Z h b "[B" ∧ Arv Z h b k_b .byte (1 : Int32) [(.int (k.toInt8.toInt32))] (.int (0 : Int32))
theorem pn_3_ : plainName "java/lang/StringLatin1" = true := by first | (simp [plainName, overriddenIn]; done) | decide +kernel
theorem pn_3 : plainFor (⟨"java/lang/StringLatin1", "toBytes", "(C)[B"⟩ : MethodName) = true := plainFor_of_name pn_3_
set_option maxRecDepth 65536 in
set_option maxHeartbeats 40000000 in
theorem rm_tb (l : Launch) (Z : State) (a0 : Array Value) (hw : ∀ d ∈ tables_1, d.before a0 Z = true) (ws : List Jvm.Cond) (k : Int32)  (h0 : Heap) (n0 : Nat) (O0 : Old Z n0 h0)  :
    MetFree l (⟨"java/lang/StringLatin1", "toBytes", "(C)[B"⟩ : MethodName) (head1 (Jvm.Cond.code (⟨"java/lang/StringLatin1", "toBytes", "(C)[B"⟩ : MethodName) jdk_43_method_46_code 1 (some (.array .byte)) :: ws) ({ frames := 0, cells := 1, slots := 1, locals := 0 } : Room)) (fun args_ U => args_ = #[(.int k)] ∧ Z.Warmed39 U.vm ∧ U.heap = h0) (fun _ _ _ _ _ => True) (fun _ U out_ U' => ∃ val_ loc_, out_ = .returned val_ ∧ (Q_rm_tb Z k h0 n0) val_ U'.heap loc_ ∧ FrameEnd U out_ U' loc_ ({ frames := 0, cells := 1, slots := 1, locals := 0 } : Room).cells ({ frames := 0, cells := 1, slots := 1, locals := 0 } : Room).slots) := by
  refine start (Q := (Q_rm_tb Z k h0 n0)) pn_3 ?_
  intro p e s m below meth c T0 X0 hx hby hml hown hnm hret hlk hZ e0
  replace hown : s.vm.findClass "java/lang/StringLatin1" = some m.cls := hown
  replace hml : c.maxLocals = 1 := hml
  refine goAt (ef_rm_tb m k ) ?_
  have N0 := Fr.nil n0
  show Go p e below T0 (mkF m 0 #[.val (.int k)] []) _
  refine stp (fun _ => XS.iconst X0.here hx rfl (hb hby d29_0)) ?_
  show Go p e below T0 (mkF m 1 #[.val (.int k)] [(.int (1 : Int32))]) _
  obtain ⟨T1, h1, k1, X1, e1, E1, A1, B1, st1⟩ := newPE X0 hx hZ (hw _ (List.mem_of_getElem? (i := 23) rfl)) e0 (g := (mkF m 1 #[.val (.int k)] [(.int (1 : Int32))])) rfl (hb hby d29_1) rfl (by decide) (cap := 1) (by decide) (by decide) (by decide) (by decide) (ad := "[B") (by decide)
  obtain ⟨b1, g1⟩ : ∃ z, z = h0.size := ⟨_, rfl⟩
  rw [← g1] at A1 B1 st1
  have sz_b1 : h0.size ≤ b1 := Nat.le_trans (Keep.refl h0 []).1 (Nat.le_of_eq g1.symm)
  have ge_b1 : n0 ≤ b1 := Nat.le_trans (old_le O0) (Nat.le_of_eq g1.symm)
  have K1 : Keep h0 h1 [] := (Keep.refl h0 []).ext E1
  have O1 := O0.ext E1
  have V1 : Arv Z h1 b1 k1 .byte (1 : Int32) [(.int (0 : Int32))] (.int (0 : Int32)) := (Arv.new A1 (by decide)).pad (pad_rep [] (.int (0 : Int32)) 1)
  refine stp st1 ?_
  show Go p e below T1 (mkF m 3 #[.val (.int k)] [(.ref b1)]) _
  refine stp (fun _ => XS.dup X1.here hx rfl (hb hby d29_3) rfl rfl) ?_
  show Go p e below T1 (mkF m 4 #[.val (.int k)] [(.ref b1), (.ref b1)]) _
  refine stp (fun _ => XS.iconst X1.here hx rfl (hb hby d29_4)) ?_
  show Go p e below T1 (mkF m 5 #[.val (.int k)] [(.int (0 : Int32)), (.ref b1), (.ref b1)]) _
  refine stp (fun _ => XS.iloadN X1.here hx rfl (hb hby d29_5) rfl) ?_
  show Go p e below T1 (mkF m 6 #[.val (.int k)] [(.int k), (.int (0 : Int32)), (.ref b1), (.ref b1)]) _
  refine stp (fun _ => XS.i2b X1.here hx rfl (hb hby d29_6) rfl) ?_
  show Go p e below T1 (mkF m 7 #[.val (.int k)] [(.int (k.toInt8.toInt32)), (.int (0 : Int32)), (.ref b1), (.ref b1)]) _
  obtain ⟨cl2, Ar2, q2, S2, M2, H2, G2⟩ := (id V1)
  have in2 : ¬ ((0 : Int32) < 0 ∨ cl2.slots.size ≤ ((0 : Int32)).toNatClampNeg) := inb_of S2 ⟨by decide, by decide⟩
  obtain ⟨T2, h2, X2, e2, W2, st2⟩ := stB X1 hx hZ e1 Ar2 (j := (0 : Int32)) in2 (g := (mkF m 7 #[.val (.int k)] [(.int (k.toInt8.toInt32)), (.int (0 : Int32)), (.ref b1), (.ref b1)])) rfl rfl (hb hby d29_7)
  have V2 : Arv Z h2 b1 k1 .byte (1 : Int32) [(.int (k.toInt8.toInt32))] (.int (0 : Int32)) := Arv.set Ar2 q2 S2 M2 H2 G2 (ow_fits_byte byte_twice) (ow_wr_byte byte_twice W2) 0 rfl (Nat.le_of_ble_eq_true rfl)
  have f3 := B1.wr W2
  have K2 : Keep h0 h2 [] := K1.wr W2 (Or.inr sz_b1)
  have O2 := O1.wr W2 ge_b1
  have N2 := Fr.snoc X2 N0 ge_b1
  refine stp st2 ?_
  show Go p e below T2 (mkF m 8 #[.val (.int k)] [(.ref b1)]) _
  refine outA X2 hx hret rfl rfl (hb hby d29_8) hlk (by decide) (by decide) ?_
  rw [e2]
  exact ⟨b1, k1, rfl, N2, K2, ⟨ge_b1, sz_b1⟩, f3, V2⟩
theorem d30_0 : decode jdk_42_method_151_code 0 = .ok (.aload_n 0, 1) := by decide +kernel
theorem d30_1 : decode jdk_42_method_151_code 1 = .ok (.invokespecial 1, 3) := by decide +kernel
theorem d30_4 : decode jdk_42_method_151_code 4 = .ok (.aload_n 0, 1) := by decide +kernel
theorem d30_5 : decode jdk_42_method_151_code 5 = .ok (.aload_n 1, 1) := by decide +kernel
theorem d30_6 : decode jdk_42_method_151_code 6 = .ok (.putfield 9, 3) := by decide +kernel
theorem d30_9 : decode jdk_42_method_151_code 9 = .ok (.aload_n 0, 1) := by decide +kernel
theorem d30_10 : decode jdk_42_method_151_code 10 = .ok (.iload_n 2, 1) := by decide +kernel
theorem d30_11 : decode jdk_42_method_151_code 11 = .ok (.putfield 15, 3) := by decide +kernel
theorem d30_14 : decode jdk_42_method_151_code 14 = .ok (.return_, 1) := by decide +kernel
theorem ef_rm_sbb (m : MethodId) (t : Addr) (vb : Addr)  : entryFrame m #[(.ref t), (.ref vb), (.int (0 : Int32))] 3 = mkF m 0 #[.val (.ref t), .val (.ref vb), .val (.int (0 : Int32))] [] := by first | (simp [entryFrame, mkF, argsToLocals, Value.category]; done) | rfl
def Q_rm_sbb (Z : State) (t : Addr) (vb : Addr)  (h0 : Heap) (n0 : Nat) (v : Option Value) (h : Heap) (L : List Loc) : Prop := v = none ∧ Fr n0 L ∧ Keep h0 h [t] ∧ Exa Z h t "java/lang/String" ∧ Fld Z h t "java/lang/String" "value" "[B" (.ref vb) ∧ Fld Z h t "java/lang/String" "coder" "B" (.int (0 : Int32))
theorem pn_4_ : plainName "java/lang/String" = true := by first | (simp [plainName, overriddenIn]; done) | decide +kernel
theorem pn_4 : plainFor (⟨"java/lang/String", "<init>", "([BB)V"⟩ : MethodName) = true := plainFor_of_name pn_4_
set_option maxRecDepth 65536 in
set_option maxHeartbeats 40000000 in
theorem rm_sbb (l : Launch) (Z : State) (a0 : Array Value) (hw : ∀ d ∈ tables_1, d.before a0 Z = true) (ws : List Jvm.Cond) (t : Addr) (vb : Addr)  (h0 : Heap) (n0 : Nat) (O0 : Old Z n0 h0) (E_t : Exa Z h0 t "java/lang/String") (F_t_value : Fld Z h0 t "java/lang/String" "value" "[B" .null) (F_t_coder : Fld Z h0 t "java/lang/String" "coder" "B" (.int (0 : Int32))) (ge_t : n0 ≤ t) :
    MetFree l (⟨"java/lang/String", "<init>", "([BB)V"⟩ : MethodName) (head1 (Jvm.Cond.code (⟨"java/lang/String", "<init>", "([BB)V"⟩ : MethodName) jdk_42_method_151_code 3 none :: ws) ({ frames := 1, cells := 0, slots := 0, locals := 12 } : Room)) (fun args_ U => args_ = #[(.ref t), (.ref vb), (.int (0 : Int32))] ∧ Z.Warmed39 U.vm ∧ U.heap = h0) (fun _ _ _ _ _ => True) (fun _ U out_ U' => ∃ val_ loc_, out_ = .returned val_ ∧ (Q_rm_sbb Z t vb h0 n0) val_ U'.heap loc_ ∧ FrameEnd U out_ U' loc_ ({ frames := 1, cells := 0, slots := 0, locals := 12 } : Room).cells ({ frames := 1, cells := 0, slots := 0, locals := 12 } : Room).slots) := by
  refine start (Q := (Q_rm_sbb Z t vb h0 n0)) pn_4 ?_
  intro p e s m below meth c T0 X0 hx hby hml hown hnm hret hlk hZ e0
  replace hown : s.vm.findClass "java/lang/String" = some m.cls := hown
  replace hml : c.maxLocals = 3 := hml
  refine goAt (ef_rm_sbb m t vb ) ?_
  have N0 := Fr.nil n0
  show Go p e below T0 (mkF m 0 #[.val (.ref t), .val (.ref vb), .val (.int (0 : Int32))] []) _
  refine stp (fun _ => XS.aloadN X0.here hx rfl (hb hby d30_0) rfl rfl) ?_
  show Go p e below T0 (mkF m 1 #[.val (.ref t), .val (.ref vb), .val (.int (0 : Int32))] [(.ref t)]) _
  obtain ⟨T1, X1, e1, st1⟩ := initO X0 hx hZ hown (hw _ (List.mem_of_getElem? (i := 15) rfl)) (hw _ (List.mem_of_getElem? (i := 16) rfl)) (hw _ (List.mem_of_getElem? (i := 17) rfl)) e0 (g := (mkF m 1 #[.val (.ref t), .val (.ref vb), .val (.int (0 : Int32))] [(.ref t)])) rfl (by rw [hml]; rfl) rfl (hb hby d30_1) (by decide) (W := 0) (by show 2 * 0 + _ ≤ _; exact Nat.le_of_eq rfl) (by decide)
  refine stp st1 ?_
  show Go p e below T1 (mkF m 4 #[.val (.ref t), .val (.ref vb), .val (.int (0 : Int32))] []) _
  refine stp (fun _ => XS.aloadN X1.here hx rfl (hb hby d30_4) rfl rfl) ?_
  show Go p e below T1 (mkF m 5 #[.val (.ref t), .val (.ref vb), .val (.int (0 : Int32))] [(.ref t)]) _
  refine stp (fun _ => XS.aloadN X1.here hx rfl (hb hby d30_5) rfl rfl) ?_
  show Go p e below T1 (mkF m 6 #[.val (.ref t), .val (.ref vb), .val (.int (0 : Int32))] [(.ref vb), (.ref t)]) _
  obtain ⟨T2, h2, X2, e2, W2, st2⟩ := putF X1 hx hZ hown (host := "") (Or.inl (hw _ (List.mem_of_getElem? (i := 32) rfl))) Via.refl e1 F_t_value E_t (Or.inr ⟨(hw _ (List.mem_of_getElem? (i := 33) rfl)), rfl, hnm⟩) (hw _ (List.mem_of_getElem? (i := 6) rfl)) (ty := (.array .byte)) (by decide) rfl rfl (g := (mkF m 6 #[.val (.ref t), .val (.ref vb), .val (.int (0 : Int32))] [(.ref vb), (.ref t)])) rfl rfl (hb hby d30_6)
  have Fw2 := F_t_value.same W2
  have f3 := E_t.wr W2
  have f5 := F_t_coder.other W2 (Or.inr (slot_ne (Or.inr (hw _ (List.mem_of_getElem? (i := 31) rfl))) (Or.inr (hw _ (List.mem_of_getElem? (i := 33) rfl))) (by decide) (t := .byte) (t' := (.array .byte)) (by decide) (by decide)))
  have K2 : Keep h0 h2 [t] := (Keep.refl h0 [t]).wr W2 (Or.inl (List.mem_of_getElem? (i := 0) rfl))
  have O2 := O0.wr W2 ge_t
  have N2 := Fr.snoc X2 N0 ge_t
  refine stp st2 ?_
  show Go p e below T2 (mkF m 9 #[.val (.ref t), .val (.ref vb), .val (.int (0 : Int32))] []) _
  refine stp (fun _ => XS.aloadN X2.here hx rfl (hb hby d30_9) rfl rfl) ?_
  show Go p e below T2 (mkF m 10 #[.val (.ref t), .val (.ref vb), .val (.int (0 : Int32))] [(.ref t)]) _
  refine stp (fun _ => XS.iloadN X2.here hx rfl (hb hby d30_10) rfl) ?_
  show Go p e below T2 (mkF m 11 #[.val (.ref t), .val (.ref vb), .val (.int (0 : Int32))] [(.int (0 : Int32)), (.ref t)]) _
  obtain ⟨T6, h6, X6, e6, W6, st6⟩ := putFN X2 hx hZ hown (hw _ (List.mem_of_getElem? (i := 30) rfl)) Via.refl e2 f5 f3 (Or.inr ⟨(hw _ (List.mem_of_getElem? (i := 31) rfl)), rfl, hnm⟩) (hw _ (List.mem_of_getElem? (i := 6) rfl)) (ty := .byte) (v' := (.int (0 : Int32))) (by decide) rfl rfl (g := (mkF m 11 #[.val (.ref t), .val (.ref vb), .val (.int (0 : Int32))] [(.int (0 : Int32)), (.ref t)])) rfl rfl (hb hby d30_11)
  have Fw6 := f5.same W6
  have f7 := f3.wr W6
  have f8 := Fw2.other W6 (Or.inr (slot_ne (Or.inr (hw _ (List.mem_of_getElem? (i := 33) rfl))) (Or.inr (hw _ (List.mem_of_getElem? (i := 31) rfl))) (by decide) (t := (.array .byte)) (t' := .byte) (by decide) (by decide)))
  have K6 : Keep h0 h6 [t] := K2.wr W6 (Or.inl (List.mem_of_getElem? (i := 0) rfl))
  have O6 := O2.wr W6 ge_t
  have N6 := Fr.snoc X6 N2 ge_t
  refine stp st6 ?_
  show Go p e below T6 (mkF m 14 #[.val (.ref t), .val (.ref vb), .val (.int (0 : Int32))] []) _
  refine outV X6 hx hret (hb hby d30_14) hlk (by decide) (by decide) ?_
  rw [e6]
  exact ⟨rfl, N6, K6, f7, f8, Fw6⟩
theorem d27_0 : decode jdk_42_method_139_code 0 = .ok (.getstatic 38, 3) := by decide +kernel
theorem d27_3 : decode jdk_42_method_139_code 3 = .ok (.ifCond .eq 23, 3) := by decide +kernel
theorem d27_6 : decode jdk_42_method_139_code 6 = .ok (.iload_n 0, 1) := by decide +kernel
theorem d27_7 : decode jdk_42_method_139_code 7 = .ok (.invokestatic 1015, 3) := by decide +kernel
theorem pd_1 : parseMethodDescriptor "(C)Z" = some ⟨[.char], some .boolean⟩ := by decide +kernel
theorem d27_10 : decode jdk_42_method_139_code 10 = .ok (.ifCond .eq 16, 3) := by decide +kernel
theorem d27_13 : decode jdk_42_method_139_code 13 = .ok (.new 10, 3) := by decide +kernel
theorem d27_16 : decode jdk_42_method_139_code 16 = .ok (.dup, 1) := by decide +kernel
theorem d27_17 : decode jdk_42_method_139_code 17 = .ok (.iload_n 0, 1) := by decide +kernel
theorem d27_18 : decode jdk_42_method_139_code 18 = .ok (.invokestatic 1018, 3) := by decide +kernel
theorem pd_2 : parseMethodDescriptor "(C)[B" = some ⟨[.char], some (.array .byte)⟩ := by decide +kernel
theorem d27_21 : decode jdk_42_method_139_code 21 = .ok (.iconst 0, 1) := by decide +kernel
theorem d27_22 : decode jdk_42_method_139_code 22 = .ok (.invokespecial 209, 3) := by decide +kernel
theorem pd_3 : parseMethodDescriptor "([BB)V" = some ⟨[(.array .byte), .byte], none⟩ := by decide +kernel
theorem d27_25 : decode jdk_42_method_139_code 25 = .ok (.areturn, 1) := by decide +kernel
theorem ef_rm_vo (m : MethodId) (k : Int32)  : entryFrame m #[(.int k)] 1 = mkF m 0 #[.val (.int k)] [] := by first | (simp [entryFrame, mkF, argsToLocals, Value.category]; done) | rfl
def Q_rm_vo (Z : State) (k : Int32) (cz : Int32) (h0 : Heap) (n0 : Nat) (v : Option Value) (h : Heap) (L : List Loc) : Prop := ∃ (r : Addr), v = some (.ref r) ∧ Fr n0 L ∧ Keep h0 h [] ∧ (n0 ≤ r ∧ h0.size ≤ r) ∧ StrIs Z h r [k]
theorem pn_5_ : plainName "java/lang/String" = true := by first | (simp [plainName, overriddenIn]; done) | decide +kernel
theorem pn_5 : plainFor (⟨"java/lang/String", "valueOf", "(C)Ljava/lang/String;"⟩ : MethodName) = true := plainFor_of_name pn_5_
set_option maxRecDepth 65536 in
set_option maxHeartbeats 40000000 in
theorem rm_vo (l : Launch) (Z : State) (a0 : Array Value) (hw : ∀ d ∈ tables_1, d.before a0 Z = true) (ws : List Jvm.Cond) (k : Int32) (cz : Int32) (h0 : Heap) (n0 : Nat) (O0 : Old Z n0 h0) (S_COMPACT_STRINGS : Sta Z Z.heap "java/lang/String" "COMPACT_STRINGS" "Z" (.int cz)) (hcz : ¬ cz = (0 : Int32)) (hk : ¬ k < 0 ∧ ¬ (255 : Int32) < k) :
    MetFree l (⟨"java/lang/String", "valueOf", "(C)Ljava/lang/String;"⟩ : MethodName) (head1 (Jvm.Cond.code (⟨"java/lang/String", "valueOf", "(C)Ljava/lang/String;"⟩ : MethodName) jdk_42_method_139_code 1 (some (.object "java/lang/String")) :: ws) ({ frames := 2, cells := 2, slots := 5, locals := 27 } : Room)) (fun args_ U => args_ = #[(.int k)] ∧ Z.Warmed39 U.vm ∧ U.heap = h0) (fun _ _ _ _ _ => True) (fun _ U out_ U' => ∃ val_ loc_, out_ = .returned val_ ∧ (Q_rm_vo Z k cz h0 n0) val_ U'.heap loc_ ∧ FrameEnd U out_ U' loc_ ({ frames := 2, cells := 2, slots := 5, locals := 27 } : Room).cells ({ frames := 2, cells := 2, slots := 5, locals := 27 } : Room).slots) := by
  refine start (Q := (Q_rm_vo Z k cz h0 n0)) pn_5 ?_
  intro p e s m below meth c T0 X0 hx hby hml hown hnm hret hlk hZ e0
  replace hown : s.vm.findClass "java/lang/String" = some m.cls := hown
  replace hml : c.maxLocals = 1 := hml
  refine goAt (ef_rm_vo m k ) ?_
  have N0 := Fr.nil n0
  show Go p e below T0 (mkF m 0 #[.val (.int k)] []) _
  obtain ⟨T1, X1, e1, st1⟩ := getS2 X0 hx hZ hown (host := "") (Or.inl (hw _ (List.mem_of_getElem? (i := 18) rfl))) Via.refl e0 (S_COMPACT_STRINGS.ext O0.2) (g := (mkF m 0 #[.val (.int k)] [])) rfl (hb hby d27_0)
  refine stp st1 ?_
  show Go p e below T1 (mkF m 3 #[.val (.int k)] [(.int cz)]) _
  refine stp (fun _ => XS.ifNo X1.here hx rfl (hb hby d27_3) rfl (XT.i0_eq_f hcz)) ?_
  show Go p e below T1 (mkF m 6 #[.val (.int k)] []) _
  refine stp (fun _ => XS.iloadN X1.here hx rfl (hb hby d27_6) rfl) ?_
  show Go p e below T1 (mkF m 7 #[.val (.int k)] [(.int k)]) _
  obtain ⟨_, _, ⟨T2, L2, k2, n2⟩, -, X2, ⟨Lc2, hQ2, l2, y2, z2⟩, st2⟩ := Jvm.LawKit.callS X1 hx (y := (⟨"java/lang/StringLatin1", "canEncode", "(C)Z"⟩ : MethodName)) hown (mvT hZ (hw _ (List.mem_of_getElem? (i := 131) rfl))) (mvT hZ (hw _ (List.mem_of_getElem? (i := 132) rfl))) (mvT hZ (hw _ (List.mem_of_getElem? (i := 92) rfl))) (mvT hZ (hw _ (List.mem_of_getElem? (i := 133) rfl))) (by decide) (backOf (W := 0) (rm_can l Z a0 hw [] k  h0 n0 O0 hk.2) hZ (hw _ (List.mem_of_getElem? (i := 133) rfl)) (hw _ (List.mem_of_getElem? (i := 92) rfl)) (by decide) (by decide)) (g := (mkF m 7 #[.val (.int k)] [(.int k)])) rfl (by rw [hml]; rfl) (argsL := [(.int k)]) (rest := []) (lenOf pd_1 rfl) rfl (by show 2 * 0 + _ ≤ _; exact Nat.le_of_eq rfl) (hb hby d27_7) (fun _ _ => ⟨rfl, e1, (by decide : 0 + 0 ≤ _), (by decide : 0 + 0 ≤ _)⟩)
  dsimp only [Pt.U, Pt.locs, Pt.cells, Pt.slots] at X2 l2 y2 z2 st2 hQ2
  subst y2 z2
  obtain ⟨rfl, N2q, e2⟩ := hQ2
  have N2 : Fr n0 L2 := by rw [l2]; exact Fr.app N0 N2q
  refine stp st2 ?_
  show Go p e below T2 (mkF m 10 #[.val (.int k)] [(.int (1 : Int32))]) _
  refine stp (fun _ => XS.ifNo X2.here hx rfl (hb hby d27_10) rfl (by decide)) ?_
  show Go p e below T2 (mkF m 13 #[.val (.int k)] []) _
  obtain ⟨T3, h3, X3, e3, E3, A3, D3, -, st3⟩ := newO X2 hx hZ hown (hw _ (List.mem_of_getElem? (i := 134) rfl)) (hw _ (List.mem_of_getElem? (i := 6) rfl)) (hw _ (List.mem_of_getElem? (i := 7) rfl)) e2 (g := (mkF m 13 #[.val (.int k)] [])) rfl (hb hby d27_13) (by decide) (by decide)
  obtain ⟨b3, g3⟩ : ∃ z, z = h0.size := ⟨_, rfl⟩
  rw [← g3] at A3 D3 st3
  have sz_b3 : h0.size ≤ b3 := Nat.le_trans (Keep.refl h0 []).1 (Nat.le_of_eq g3.symm)
  have ge_b3 : n0 ≤ b3 := Nat.le_trans (old_le O0) (Nat.le_of_eq g3.symm)
  have K3 : Keep h0 h3 [] := (Keep.refl h0 []).ext E3
  have O3 := O0.ext E3
  have F4 : Fld Z h3 b3 "java/lang/String" "coder" "B" (.int (0 : Int32)) := D3 (Or.inr (hw _ (List.mem_of_getElem? (i := 31) rfl))) (ty := .byte) (by decide)
  have F5 : Fld Z h3 b3 "java/lang/String" "value" "[B" .null := D3 (Or.inr (hw _ (List.mem_of_getElem? (i := 33) rfl))) (ty := (.array .byte)) (by decide)
  refine stp st3 ?_
  show Go p e below T3 (mkF m 16 #[.val (.int k)] [(.ref b3)]) _
  refine stp (fun _ => XS.dup X3.here hx rfl (hb hby d27_16) rfl rfl) ?_
  show Go p e below T3 (mkF m 17 #[.val (.int k)] [(.ref b3), (.ref b3)]) _
  refine stp (fun _ => XS.iloadN X3.here hx rfl (hb hby d27_17) rfl) ?_
  show Go p e below T3 (mkF m 18 #[.val (.int k)] [(.int k), (.ref b3), (.ref b3)]) _
  obtain ⟨_, _, ⟨T6, L6, k6, n6⟩, -, X6, ⟨Lc6, hQ6, l6, y6, z6⟩, st6⟩ := Jvm.LawKit.callS X3 hx (y := (⟨"java/lang/StringLatin1", "toBytes", "(C)[B"⟩ : MethodName)) hown (mvT hZ (hw _ (List.mem_of_getElem? (i := 135) rfl))) (mvT hZ (hw _ (List.mem_of_getElem? (i := 136) rfl))) (mvT hZ (hw _ (List.mem_of_getElem? (i := 92) rfl))) (mvT hZ (hw _ (List.mem_of_getElem? (i := 137) rfl))) (by decide) (backOf (W := 2) (rm_tb l Z a0 hw [] k  h3 n0 O3 ) hZ (hw _ (List.mem_of_getElem? (i := 137) rfl)) (hw _ (List.mem_of_getElem? (i := 92) rfl)) (by decide) (by decide)) (g := (mkF m 18 #[.val (.int k)] [(.int k), (.ref b3), (.ref b3)])) rfl (by rw [hml]; rfl) (argsL := [(.int k)]) (rest := [(.ref b3), (.ref b3)]) (lenOf pd_2 rfl) rfl (by show 2 * 0 + _ ≤ _; exact Nat.le_of_eq rfl) (hb hby d27_18) (fun _ _ => ⟨rfl, e3, (by decide : 1 + 1 ≤ _), (by decide : 4 + 1 ≤ _)⟩)
  dsimp only [Pt.U, Pt.locs, Pt.cells, Pt.slots] at X6 l6 y6 z6 st6 hQ6
  subst y6 z6
  obtain ⟨b6, k_b6, rfl, N6q, K6q, ⟨ge_b6, sz6_b6⟩, r6_0, r6_1⟩ := hQ6
  have N6 : Fr n0 L6 := by rw [l6]; exact Fr.app N2 N6q
  have ne7 : b3 ≠ b6 := Nat.ne_of_lt (Nat.lt_of_lt_of_le A3.lt sz6_b6)
  have f8 := A3.keep K6q
  have f9 := F4.keep K6q nin0
  have f10 := F5.keep K6q nin0
  have sz_b6 : h0.size ≤ b6 := Nat.le_trans K3.1 sz6_b6
  have K6 : Keep h0 T6.heap [] := K3.trans K6q all0
  have O6 := O3.keep K6q all0
  refine stp st6 ?_
  show Go p e below T6 (mkF m 21 #[.val (.int k)] [(.ref b6), (.ref b3), (.ref b3)]) _
  refine stp (fun _ => XS.iconst X6.here hx rfl (hb hby d27_21)) ?_
  show Go p e below T6 (mkF m 22 #[.val (.int k)] [(.int (0 : Int32)), (.ref b6), (.ref b3), (.ref b3)]) _
  obtain ⟨_, _, ⟨T11, L11, k11, n11⟩, -, X11, ⟨Lc11, hQ11, l11, y11, z11⟩, st11⟩ := X6.specialBack hx (y := (⟨"java/lang/String", "<init>", "([BB)V"⟩ : MethodName)) rfl hown (mvT hZ (hw _ (List.mem_of_getElem? (i := 138) rfl))) (mvT hZ (hw _ (List.mem_of_getElem? (i := 139) rfl))) (mvT hZ (hw _ (List.mem_of_getElem? (i := 140) rfl))) (by decide) (backOf (W := 1) (rm_sbb l Z a0 hw [] b3 b6  T6.heap n0 O6 f8 f10 f9 ge_b3) hZ (hw _ (List.mem_of_getElem? (i := 140) rfl)) (hw _ (List.mem_of_getElem? (i := 7) rfl)) (by decide) (by decide)) (g := (mkF m 22 #[.val (.int k)] [(.int (0 : Int32)), (.ref b6), (.ref b3), (.ref b3)])) rfl (by rw [hml]; rfl) (Steps.refl _) (a := b3) (argsL := [(.ref b6), (.int (0 : Int32))]) (rest := [(.ref b3)]) (lenOf pd_3 rfl) rfl (by show 2 * 0 + _ ≤ _; exact Nat.le_of_eq rfl) (hb hby d27_22) (fun _ _ => ⟨rfl, rfl, (by decide : 2 + 0 ≤ _), (by decide : 5 + 0 ≤ _)⟩)
  dsimp only [Pt.U, Pt.locs, Pt.cells, Pt.slots] at X11 l11 y11 z11 st11 hQ11
  subst y11 z11
  obtain ⟨rfl, N11q, K11q, r11_0, r11_1, r11_2⟩ := hQ11
  have N11 : Fr n0 L11 := by rw [l11]; exact Fr.app N6 N11q
  have f12 := f8.keep K11q
  have f13 := r6_0.keep K11q
  have f14 := r6_1.keep K11q (ninS (Ne.symm ne7) nin0)
  have K11 : Keep h0 T11.heap [] := K6.trans K11q (allS (Or.inr sz_b3) all0)
  have O11 := O6.keep K11q (allS ge_b3 all0)
  refine stt st11 ?_
  show Go p e below T11 (mkF m 25 #[.val (.int k)] [(.ref b3)]) _
  have Q15 : StrIs Z T11.heap b3 [k] := StrIs.of r11_0 r11_1 r11_2 f14 rfl rfl (own_one255 hk) (Nat.le_of_ble_eq_true rfl)
  refine outA X11 hx hret rfl rfl (hb hby d27_25) hlk (by decide) (by decide) ?_
  exact ⟨b3, rfl, N11, K11, ⟨ge_b3, sz_b3⟩, Q15⟩
theorem d12_0 : decode jdk_42_method_152_code 0 = .ok (.getstatic 38, 3) := by decide +kernel
theorem d12_3 : decode jdk_42_method_152_code 3 = .ok (.ifCond .eq 10, 3) := by decide +kernel
theorem d12_6 : decode jdk_42_method_152_code 6 = .ok (.aload_n 0, 1) := by decide +kernel
theorem d12_7 : decode jdk_42_method_152_code 7 = .ok (.getfield 15, 3) := by decide +kernel
theorem d12_10 : decode jdk_42_method_152_code 10 = .ok (.goto 4, 3) := by decide +kernel
theorem d12_14 : decode jdk_42_method_152_code 14 = .ok (.ireturn, 1) := by decide +kernel
theorem ef_rm_coder (m : MethodId) (t : Addr)  : entryFrame m #[(.ref t)] 1 = mkF m 0 #[.val (.ref t)] [] := by first | (simp [entryFrame, mkF, argsToLocals, Value.category]; done) | rfl
def Q_rm_coder (Z : State) (t : Addr) (cs : List Int32) (cz : Int32) (h0 : Heap) (n0 : Nat) (v : Option Value) (h : Heap) (L : List Loc) : Prop := v = some (.int (0 : Int32)) ∧ Fr n0 L ∧ h = h0
theorem pn_6_ : plainName "java/lang/String" = true := by first | (simp [plainName, overriddenIn]; done) | decide +kernel
theorem pn_6 : plainFor (⟨"java/lang/String", "coder", "()B"⟩ : MethodName) = true := plainFor_of_name pn_6_
set_option maxRecDepth 65536 in
set_option maxHeartbeats 40000000 in
theorem rm_coder (l : Launch) (Z : State) (a0 : Array Value) (hw : ∀ d ∈ tables_1, d.before a0 Z = true) (ws : List Jvm.Cond) (t : Addr) (cs : List Int32) (cz : Int32) (h0 : Heap) (n0 : Nat) (O0 : Old Z n0 h0) (Q_t : StrIs Z h0 t cs) (S_COMPACT_STRINGS : Sta Z Z.heap "java/lang/String" "COMPACT_STRINGS" "Z" (.int cz)) (hcz : ¬ cz = (0 : Int32)) :
    MetFree l (⟨"java/lang/String", "coder", "()B"⟩ : MethodName) (head1 (Jvm.Cond.code (⟨"java/lang/String", "coder", "()B"⟩ : MethodName) jdk_42_method_152_code 1 (some .byte) :: ws) ({ frames := 0, cells := 0, slots := 0, locals := 0 } : Room)) (fun args_ U => args_ = #[(.ref t)] ∧ Z.Warmed39 U.vm ∧ U.heap = h0) (fun _ _ _ _ _ => True) (fun _ U out_ U' => ∃ val_ loc_, out_ = .returned val_ ∧ (Q_rm_coder Z t cs cz h0 n0) val_ U'.heap loc_ ∧ FrameEnd U out_ U' loc_ ({ frames := 0, cells := 0, slots := 0, locals := 0 } : Room).cells ({ frames := 0, cells := 0, slots := 0, locals := 0 } : Room).slots) := by
  refine start (Q := (Q_rm_coder Z t cs cz h0 n0)) pn_6 ?_
  intro p e s m below meth c T0 X0 hx hby hml hown hnm hret hlk hZ e0
  replace hown : s.vm.findClass "java/lang/String" = some m.cls := hown
  replace hml : c.maxLocals = 1 := hml
  refine goAt (ef_rm_coder m t ) ?_
  have N0 := Fr.nil n0
  obtain ⟨tv_t, kv_t, Eo_t, Fv_t, Fc_t, Kv_t, hp_t, hl_t⟩ := (id Q_t)
  have Va_t : Arf Z h0 tv_t kv_t .byte cs.length (fun i => (.int (own_by cs i))) := (Arv.arf Kv_t (own_ofNat hl_t)).congr fun i _ => own_byv cs i
  show Go p e below T0 (mkF m 0 #[.val (.ref t)] []) _
  obtain ⟨T1, X1, e1, st1⟩ := getS2 X0 hx hZ hown (host := "") (Or.inl (hw _ (List.mem_of_getElem? (i := 18) rfl))) Via.refl e0 (S_COMPACT_STRINGS.ext O0.2) (g := (mkF m 0 #[.val (.ref t)] [])) rfl (hb hby d12_0)
  refine stp st1 ?_
  show Go p e below T1 (mkF m 3 #[.val (.ref t)] [(.int cz)]) _
  refine stp (fun _ => XS.ifNo X1.here hx rfl (hb hby d12_3) rfl (XT.i0_eq_f hcz)) ?_
  show Go p e below T1 (mkF m 6 #[.val (.ref t)] []) _
  refine stp (fun _ => XS.aloadN X1.here hx rfl (hb hby d12_6) rfl rfl) ?_
  show Go p e below T1 (mkF m 7 #[.val (.ref t)] [(.ref t)]) _
  obtain ⟨T2, X2, e2, st2⟩ := getF X1 hx hZ hown (host := "") (Or.inl (hw _ (List.mem_of_getElem? (i := 30) rfl))) Via.refl e1 Fc_t (g := (mkF m 7 #[.val (.ref t)] [(.ref t)])) rfl rfl (hb hby d12_7)
  refine stp st2 ?_
  show Go p e below T2 (mkF m 10 #[.val (.ref t)] [(.int (0 : Int32))]) _
  refine stp (fun _ => XS.goto X2.here hx rfl (pc0 := 10) (pc' := 14) rfl (hb hby d12_10) (by decide) (by decide)) ?_
  show Go p e below T2 (mkF m 14 #[.val (.ref t)] [(.int (0 : Int32))]) _
  refine outN X2 hx (t := .byte) hret (by simp) (hb hby d12_14) hlk (by decide) (by decide) ?_
  exact ⟨rfl, N0, e2⟩
theorem d11_0 : decode jdk_42_method_54_code 0 = .ok (.aload_n 0, 1) := by decide +kernel
theorem d11_1 : decode jdk_42_method_54_code 1 = .ok (.getfield 9, 3) := by decide +kernel
theorem d11_4 : decode jdk_42_method_54_code 4 = .ok (.arraylength, 1) := by decide +kernel
theorem d11_5 : decode jdk_42_method_54_code 5 = .ok (.aload_n 0, 1) := by decide +kernel
theorem d11_6 : decode jdk_42_method_54_code 6 = .ok (.invokevirtual 335, 3) := by decide +kernel
theorem pd_4 : parseMethodDescriptor "()B" = some ⟨[], some .byte⟩ := by decide +kernel
theorem d11_9 : decode jdk_42_method_54_code 9 = .ok (.ishr, 1) := by decide +kernel
theorem d11_10 : decode jdk_42_method_54_code 10 = .ok (.ireturn, 1) := by decide +kernel
theorem ef_rm_slen (m : MethodId) (t : Addr)  : entryFrame m #[(.ref t)] 1 = mkF m 0 #[.val (.ref t)] [] := by first | (simp [entryFrame, mkF, argsToLocals, Value.category]; done) | rfl
def Q_rm_slen (Z : State) (t : Addr) (cs : List Int32) (cz : Int32) (h0 : Heap) (n0 : Nat) (v : Option Value) (h : Heap) (L : List Loc) : Prop := v = some (.int (Int32.ofNat cs.length)) ∧ Fr n0 L ∧ h = h0
theorem pn_7_ : plainName "java/lang/String" = true := by first | (simp [plainName, overriddenIn]; done) | decide +kernel
theorem pn_7 : plainFor (⟨"java/lang/String", "length", "()I"⟩ : MethodName) = true := plainFor_of_name pn_7_
set_option maxRecDepth 65536 in
set_option maxHeartbeats 40000000 in
theorem rm_slen (l : Launch) (Z : State) (a0 : Array Value) (hw : ∀ d ∈ tables_1, d.before a0 Z = true) (ws : List Jvm.Cond) (t : Addr) (cs : List Int32) (cz : Int32) (h0 : Heap) (n0 : Nat) (O0 : Old Z n0 h0) (Q_t : StrIs Z h0 t cs) (S_COMPACT_STRINGS : Sta Z Z.heap "java/lang/String" "COMPACT_STRINGS" "Z" (.int cz)) (hcz : ¬ cz = (0 : Int32)) :
    MetFree l (⟨"java/lang/String", "length", "()I"⟩ : MethodName) (head1 (Jvm.Cond.code (⟨"java/lang/String", "length", "()I"⟩ : MethodName) jdk_42_method_54_code 1 (some .int) :: ws) ({ frames := 1, cells := 0, slots := 0, locals := 13 } : Room)) (fun args_ U => args_ = #[(.ref t)] ∧ Z.Warmed39 U.vm ∧ U.heap = h0) (fun _ _ _ _ _ => True) (fun _ U out_ U' => ∃ val_ loc_, out_ = .returned val_ ∧ (Q_rm_slen Z t cs cz h0 n0) val_ U'.heap loc_ ∧ FrameEnd U out_ U' loc_ ({ frames := 1, cells := 0, slots := 0, locals := 13 } : Room).cells ({ frames := 1, cells := 0, slots := 0, locals := 13 } : Room).slots) := by
  refine start (Q := (Q_rm_slen Z t cs cz h0 n0)) pn_7 ?_
  intro p e s m below meth c T0 X0 hx hby hml hown hnm hret hlk hZ e0
  replace hown : s.vm.findClass "java/lang/String" = some m.cls := hown
  replace hml : c.maxLocals = 1 := hml
  refine goAt (ef_rm_slen m t ) ?_
  have N0 := Fr.nil n0
  obtain ⟨tv_t, kv_t, Eo_t, Fv_t, Fc_t, Kv_t, hp_t, hl_t⟩ := (id Q_t)
  have Va_t : Arf Z h0 tv_t kv_t .byte cs.length (fun i => (.int (own_by cs i))) := (Arv.arf Kv_t (own_ofNat hl_t)).congr fun i _ => own_byv cs i
  show Go p e below T0 (mkF m 0 #[.val (.ref t)] []) _
  refine stp (fun _ => XS.aloadN X0.here hx rfl (hb hby d11_0) rfl rfl) ?_
  show Go p e below T0 (mkF m 1 #[.val (.ref t)] [(.ref t)]) _
  obtain ⟨T1, X1, e1, st1⟩ := getF X0 hx hZ hown (host := "") (Or.inl (hw _ (List.mem_of_getElem? (i := 32) rfl))) Via.refl e0 Fv_t (g := (mkF m 1 #[.val (.ref t)] [(.ref t)])) rfl rfl (hb hby d11_1)
  refine stp st1 ?_
  show Go p e below T1 (mkF m 4 #[.val (.ref t)] [(.ref tv_t)]) _
  obtain ⟨cl2, Ar2, -, S2, -, -⟩ := (id Va_t)
  refine stp (fun _ => X1.arraylength hx (by rw [e1]; exact Ar2.1) (State.isArrayOf_alike hZ.alike Ar2.2.1) (g := (mkF m 4 #[.val (.ref t)] [(.ref tv_t)])) rfl rfl (hb hby d11_4) _) ?_
  rw [arf_len S2 (z := (Int32.ofNat cs.length)) (own_ofNatI hl_t)]
  show Go p e below T1 (mkF m 5 #[.val (.ref t)] [(.int (Int32.ofNat cs.length))]) _
  refine stp (fun _ => XS.aloadN X1.here hx rfl (hb hby d11_5) rfl rfl) ?_
  show Go p e below T1 (mkF m 6 #[.val (.ref t)] [(.ref t), (.int (Int32.ofNat cs.length))]) _
  obtain ⟨cq3, kq3, q3a, q3b, q3c⟩ := isOf hZ e1 Eo_t
  obtain ⟨_, _, ⟨T3, L3, k3, n3⟩, -, X3, ⟨Lc3, hQ3, l3, y3, z3⟩, st3⟩ := X1.virtualBack hx (y := (⟨"java/lang/String", "coder", "()B"⟩ : MethodName)) (z := (⟨"java/lang/String", "coder", "()B"⟩ : MethodName)) hown (mvT hZ (hw _ (List.mem_of_getElem? (i := 60) rfl))) (mvT hZ (hw _ (List.mem_of_getElem? (i := 61) rfl))) (notFace_of_selects (args := #[]) (mvT hZ (hw _ (List.mem_of_getElem? (i := 63) rfl)))) (mvT hZ (hw _ (List.mem_of_getElem? (i := 63) rfl))) (mvT hZ (hw _ (List.mem_of_getElem? (i := 62) rfl))) (by decide) (backOf (W := 1) (rm_coder l Z a0 hw [] t cs cz h0 n0 O0 Q_t S_COMPACT_STRINGS hcz) hZ (hw _ (List.mem_of_getElem? (i := 64) rfl)) (hw _ (List.mem_of_getElem? (i := 7) rfl)) (by decide) (by decide)) q3a q3c (g := (mkF m 6 #[.val (.ref t)] [(.ref t), (.int (Int32.ofNat cs.length))])) rfl (by rw [hml]; rfl) (Steps.refl _) (argsL := []) (rest := [(.int (Int32.ofNat cs.length))]) (lenOf pd_4 rfl) rfl (by show 2 * 0 + _ ≤ _; exact Nat.le_of_eq rfl) (hb hby d11_6) (fun _ _ => ⟨rfl, e1, (by decide : 0 + 0 ≤ _), (by decide : 0 + 0 ≤ _)⟩)
  dsimp only [Pt.U, Pt.locs, Pt.cells, Pt.slots] at X3 l3 y3 z3 st3 hQ3
  subst y3 z3
  obtain ⟨rfl, N3q, e3⟩ := hQ3
  have N3 : Fr n0 L3 := by rw [l3]; exact Fr.app N0 N3q
  refine stt st3 ?_
  show Go p e below T3 (mkF m 9 #[.val (.ref t)] [(.int (0 : Int32)), (.int (Int32.ofNat cs.length))]) _
  refine stp (fun _ => XS.ishr X3.here hx rfl (hb hby d11_9) rfl) ?_
  show Go p e below T3 (mkF m 10 #[.val (.ref t)] [(.int ((Int32.ofNat cs.length) >>> ((0 : Int32) &&& 31)))]) _
  refine outI X3 hx hret (hb hby d11_10) hlk (by decide) (by decide) ?_
  exact ⟨by rw [own_sh0], N3, e3⟩
theorem d1_0 : decode method_3_code 0 = .ok (.iload_n 2, 1) := by decide +kernel
theorem d1_1 : decode method_3_code 1 = .ok (.ifCond .gt 14, 3) := by decide +kernel
theorem d1_15 : decode method_3_code 15 = .ok (.iload_n 2, 1) := by decide +kernel
theorem d1_16 : decode method_3_code 16 = .ok (.iconst 1, 1) := by decide +kernel
theorem d1_17 : decode method_3_code 17 = .ok (.if_icmp .ne 10, 3) := by decide +kernel
theorem d1_20 : decode method_3_code 20 = .ok (.aload_n 0, 1) := by decide +kernel
theorem d1_21 : decode method_3_code 21 = .ok (.iload_n 1, 1) := by decide +kernel
theorem d1_22 : decode method_3_code 22 = .ok (.caload, 1) := by decide +kernel
theorem d1_23 : decode method_3_code 23 = .ok (.invokestatic 38, 3) := by decide +kernel
theorem pd_5 : parseMethodDescriptor "(C)Ljava/lang/String;" = some ⟨[.char], some (.object "java/lang/String")⟩ := by decide +kernel
theorem d1_26 : decode method_3_code 26 = .ok (.areturn, 1) := by decide +kernel
theorem d1_27 : decode method_3_code 27 = .ok (.iload_n 2, 1) := by decide +kernel
theorem d1_28 : decode method_3_code 28 = .ok (.iconst 2, 1) := by decide +kernel
theorem d1_29 : decode method_3_code 29 = .ok (.if_icmp .ne 28, 3) := by decide +kernel
theorem d1_32 : decode method_3_code 32 = .ok (.new 30, 3) := by decide +kernel
theorem d1_35 : decode method_3_code 35 = .ok (.dup, 1) := by decide +kernel
theorem d1_36 : decode method_3_code 36 = .ok (.iconst 2, 1) := by decide +kernel
theorem d1_37 : decode method_3_code 37 = .ok (.newarray .char, 2) := by decide +kernel
theorem d1_39 : decode method_3_code 39 = .ok (.dup, 1) := by decide +kernel
theorem d1_40 : decode method_3_code 40 = .ok (.iconst 0, 1) := by decide +kernel
theorem d1_41 : decode method_3_code 41 = .ok (.aload_n 0, 1) := by decide +kernel
theorem d1_42 : decode method_3_code 42 = .ok (.iload_n 1, 1) := by decide +kernel
theorem d1_43 : decode method_3_code 43 = .ok (.caload, 1) := by decide +kernel
theorem d1_44 : decode method_3_code 44 = .ok (.castore, 1) := by decide +kernel
theorem d1_45 : decode method_3_code 45 = .ok (.dup, 1) := by decide +kernel
theorem d1_46 : decode method_3_code 46 = .ok (.iconst 1, 1) := by decide +kernel
theorem d1_47 : decode method_3_code 47 = .ok (.aload_n 0, 1) := by decide +kernel
theorem d1_48 : decode method_3_code 48 = .ok (.iload_n 1, 1) := by decide +kernel
theorem d1_49 : decode method_3_code 49 = .ok (.iconst 1, 1) := by decide +kernel
theorem d1_50 : decode method_3_code 50 = .ok (.iadd, 1) := by decide +kernel
theorem d1_51 : decode method_3_code 51 = .ok (.caload, 1) := by decide +kernel
theorem d1_52 : decode method_3_code 52 = .ok (.castore, 1) := by decide +kernel
theorem d1_53 : decode method_3_code 53 = .ok (.invokespecial 35, 3) := by decide +kernel
theorem pd_6 : parseMethodDescriptor "([C)V" = some ⟨[(.array .char)], none⟩ := by decide +kernel
theorem d1_56 : decode method_3_code 56 = .ok (.areturn, 1) := by decide +kernel
theorem d1_57 : decode method_3_code 57 = .ok (.iload_n 2, 1) := by decide +kernel
theorem d1_58 : decode method_3_code 58 = .ok (.iconst 3, 1) := by decide +kernel
theorem d1_59 : decode method_3_code 59 = .ok (.if_icmp .ne 36, 3) := by decide +kernel
theorem d1_62 : decode method_3_code 62 = .ok (.new 30, 3) := by decide +kernel
theorem d1_65 : decode method_3_code 65 = .ok (.dup, 1) := by decide +kernel
theorem d1_66 : decode method_3_code 66 = .ok (.iconst 3, 1) := by decide +kernel
theorem d1_67 : decode method_3_code 67 = .ok (.newarray .char, 2) := by decide +kernel
theorem d1_69 : decode method_3_code 69 = .ok (.dup, 1) := by decide +kernel
theorem d1_70 : decode method_3_code 70 = .ok (.iconst 0, 1) := by decide +kernel
theorem d1_71 : decode method_3_code 71 = .ok (.aload_n 0, 1) := by decide +kernel
theorem d1_72 : decode method_3_code 72 = .ok (.iload_n 1, 1) := by decide +kernel
theorem d1_73 : decode method_3_code 73 = .ok (.caload, 1) := by decide +kernel
theorem d1_74 : decode method_3_code 74 = .ok (.castore, 1) := by decide +kernel
theorem d1_75 : decode method_3_code 75 = .ok (.dup, 1) := by decide +kernel
theorem d1_76 : decode method_3_code 76 = .ok (.iconst 1, 1) := by decide +kernel
theorem d1_77 : decode method_3_code 77 = .ok (.aload_n 0, 1) := by decide +kernel
theorem d1_78 : decode method_3_code 78 = .ok (.iload_n 1, 1) := by decide +kernel
theorem d1_79 : decode method_3_code 79 = .ok (.iconst 1, 1) := by decide +kernel
theorem d1_80 : decode method_3_code 80 = .ok (.iadd, 1) := by decide +kernel
theorem d1_81 : decode method_3_code 81 = .ok (.caload, 1) := by decide +kernel
theorem d1_82 : decode method_3_code 82 = .ok (.castore, 1) := by decide +kernel
theorem d1_83 : decode method_3_code 83 = .ok (.dup, 1) := by decide +kernel
theorem d1_84 : decode method_3_code 84 = .ok (.iconst 2, 1) := by decide +kernel
theorem d1_85 : decode method_3_code 85 = .ok (.aload_n 0, 1) := by decide +kernel
theorem d1_86 : decode method_3_code 86 = .ok (.iload_n 1, 1) := by decide +kernel
theorem d1_87 : decode method_3_code 87 = .ok (.iconst 2, 1) := by decide +kernel
theorem d1_88 : decode method_3_code 88 = .ok (.iadd, 1) := by decide +kernel
theorem d1_89 : decode method_3_code 89 = .ok (.caload, 1) := by decide +kernel
theorem d1_90 : decode method_3_code 90 = .ok (.castore, 1) := by decide +kernel
theorem d1_91 : decode method_3_code 91 = .ok (.invokespecial 35, 3) := by decide +kernel
theorem d1_94 : decode method_3_code 94 = .ok (.areturn, 1) := by decide +kernel
theorem d1_95 : decode method_3_code 95 = .ok (.new 30, 3) := by decide +kernel
theorem d1_98 : decode method_3_code 98 = .ok (.dup, 1) := by decide +kernel
theorem d1_99 : decode method_3_code 99 = .ok (.iconst 4, 1) := by decide +kernel
theorem d1_100 : decode method_3_code 100 = .ok (.newarray .char, 2) := by decide +kernel
theorem d1_102 : decode method_3_code 102 = .ok (.dup, 1) := by decide +kernel
theorem d1_103 : decode method_3_code 103 = .ok (.iconst 0, 1) := by decide +kernel
theorem d1_104 : decode method_3_code 104 = .ok (.aload_n 0, 1) := by decide +kernel
theorem d1_105 : decode method_3_code 105 = .ok (.iload_n 1, 1) := by decide +kernel
theorem d1_106 : decode method_3_code 106 = .ok (.caload, 1) := by decide +kernel
theorem d1_107 : decode method_3_code 107 = .ok (.castore, 1) := by decide +kernel
theorem d1_108 : decode method_3_code 108 = .ok (.dup, 1) := by decide +kernel
theorem d1_109 : decode method_3_code 109 = .ok (.iconst 1, 1) := by decide +kernel
theorem d1_110 : decode method_3_code 110 = .ok (.aload_n 0, 1) := by decide +kernel
theorem d1_111 : decode method_3_code 111 = .ok (.iload_n 1, 1) := by decide +kernel
theorem d1_112 : decode method_3_code 112 = .ok (.iconst 1, 1) := by decide +kernel
theorem d1_113 : decode method_3_code 113 = .ok (.iadd, 1) := by decide +kernel
theorem d1_114 : decode method_3_code 114 = .ok (.caload, 1) := by decide +kernel
theorem d1_115 : decode method_3_code 115 = .ok (.castore, 1) := by decide +kernel
theorem d1_116 : decode method_3_code 116 = .ok (.dup, 1) := by decide +kernel
theorem d1_117 : decode method_3_code 117 = .ok (.iconst 2, 1) := by decide +kernel
theorem d1_118 : decode method_3_code 118 = .ok (.aload_n 0, 1) := by decide +kernel
theorem d1_119 : decode method_3_code 119 = .ok (.iload_n 1, 1) := by decide +kernel
theorem d1_120 : decode method_3_code 120 = .ok (.iconst 2, 1) := by decide +kernel
theorem d1_121 : decode method_3_code 121 = .ok (.iadd, 1) := by decide +kernel
theorem d1_122 : decode method_3_code 122 = .ok (.caload, 1) := by decide +kernel
theorem d1_123 : decode method_3_code 123 = .ok (.castore, 1) := by decide +kernel
theorem d1_124 : decode method_3_code 124 = .ok (.dup, 1) := by decide +kernel
theorem d1_125 : decode method_3_code 125 = .ok (.iconst 3, 1) := by decide +kernel
theorem d1_126 : decode method_3_code 126 = .ok (.aload_n 0, 1) := by decide +kernel
theorem d1_127 : decode method_3_code 127 = .ok (.iload_n 1, 1) := by decide +kernel
theorem d1_128 : decode method_3_code 128 = .ok (.iconst 3, 1) := by decide +kernel
theorem d1_129 : decode method_3_code 129 = .ok (.iadd, 1) := by decide +kernel
theorem d1_130 : decode method_3_code 130 = .ok (.caload, 1) := by decide +kernel
theorem d1_131 : decode method_3_code 131 = .ok (.castore, 1) := by decide +kernel
theorem d1_132 : decode method_3_code 132 = .ok (.invokespecial 35, 3) := by decide +kernel
theorem d1_135 : decode method_3_code 135 = .ok (.areturn, 1) := by decide +kernel
theorem d1_4 : decode method_3_code 4 = .ok (.new 30, 3) := by decide +kernel
theorem d1_7 : decode method_3_code 7 = .ok (.dup, 1) := by decide +kernel
theorem d1_8 : decode method_3_code 8 = .ok (.iconst 0, 1) := by decide +kernel
theorem d1_9 : decode method_3_code 9 = .ok (.newarray .char, 2) := by decide +kernel
theorem d1_11 : decode method_3_code 11 = .ok (.invokespecial 35, 3) := by decide +kernel
theorem d1_14 : decode method_3_code 14 = .ok (.areturn, 1) := by decide +kernel
theorem ef_rm_take (m : MethodId) (ca : Addr) (fr : Int32) (n : Int32)  : entryFrame m #[(.ref ca), (.int fr), (.int n)] 3 = mkF m 0 #[.val (.ref ca), .val (.int fr), .val (.int n)] [] := by first | (simp [entryFrame, mkF, argsToLocals, Value.category]; done) | rfl
def Q_rm_take (Z : State) (ca : Addr) (fr : Int32) (n : Int32) (x0 : Int32) (x1 : Int32) (x2 : Int32) (x3 : Int32) (cz : Int32) (k_ca : ClassId) (h0 : Heap) (n0 : Nat) (v : Option Value) (h : Heap) (L : List Loc) : Prop := ∃ (r : Addr), v = some (.ref r) ∧ Fr n0 L ∧ Keep h0 h [] ∧ (n0 ≤ r ∧ h0.size ≤ r) ∧ StrIs Z h r (own_tk x0 x1 x2 x3 fr n)
theorem pn_8_ : plainName "com/example/goldpage/goldpage/golden/LineFieldsEndPinLaw" = true := by first | (simp [plainName, overriddenIn]; done) | decide +kernel
theorem pn_8 : plainFor (⟨"com/example/goldpage/goldpage/golden/LineFieldsEndPinLaw", "take", "([CII)Ljava/lang/String;"⟩ : MethodName) = true := plainFor_of_name pn_8_
set_option maxRecDepth 65536 in
set_option maxHeartbeats 40000000 in
theorem rm_take (l : Launch) (Z : State) (a0 : Array Value) (hw : ∀ d ∈ tables_1, d.before a0 Z = true) (ws : List Jvm.Cond) (ca : Addr) (fr : Int32) (n : Int32) (x0 : Int32) (x1 : Int32) (x2 : Int32) (x3 : Int32) (cz : Int32) (k_ca : ClassId) (h0 : Heap) (n0 : Nat) (O0 : Old Z n0 h0) (hEL : EW Z a0 consts_1) (V_ca : Arv Z h0 ca k_ca .char (4 : Int32) [(.int x0), (.int x1), (.int x2), (.int x3)] (.int (0 : Int32))) (S_COMPACT_STRINGS : Sta Z Z.heap "java/lang/String" "COMPACT_STRINGS" "Z" (.int cz)) (hcz : ¬ cz = (0 : Int32)) (hx0 : own_sml x0) (hx1 : own_sml x1) (hx2 : own_sml x2) (hx3 : own_sml x3) (hf : own_fit fr n) :
    MetFree l (⟨"com/example/goldpage/goldpage/golden/LineFieldsEndPinLaw", "take", "([CII)Ljava/lang/String;"⟩ : MethodName) (head1 (Jvm.Cond.code (⟨"com/example/goldpage/goldpage/golden/LineFieldsEndPinLaw", "take", "([CII)Ljava/lang/String;"⟩ : MethodName) method_3_code 3 (some (.object "java/lang/String")) :: ws) ({ frames := 4, cells := 4, slots := 12, locals := 66 } : Room)) (fun args_ U => args_ = #[(.ref ca), (.int fr), (.int n)] ∧ Z.Warmed39 U.vm ∧ U.heap = h0 ∧ CHv Z consts_1 U.vm h0) (fun _ _ _ _ _ => True) (fun _ U out_ U' => ∃ val_ loc_, out_ = .returned val_ ∧ (Q_rm_take Z ca fr n x0 x1 x2 x3 cz k_ca h0 n0) val_ U'.heap loc_ ∧ CHr Z consts_1 U.vm U.heap U'.vm U'.heap ∧ ReturnedEndW U out_ U' loc_ ({ frames := 4, cells := 4, slots := 12, locals := 66 } : Room).cells ({ frames := 4, cells := 4, slots := 12, locals := 66 } : Room).slots) := by
  refine startW (Q := (Q_rm_take Z ca fr n x0 x1 x2 x3 cz k_ca h0 n0)) pn_8 ?_
  intro p e s m below meth c T0 X0 hx hby hml hown hnm hret hlk hZ e0 hS CR
  have hk : 0 ≤ h0.size := Nat.zero_le _
  have wS : ∀ a ∈ Bundle.stringAtoms, a.before a0 Z = true := own_wS hw
  replace hown : s.vm.findClass "com/example/goldpage/goldpage/golden/LineFieldsEndPinLaw" = some m.cls := hown
  replace hml : c.maxLocals = 3 := hml
  refine goAt (ef_rm_take m ca fr n ) ?_
  have N0 := Fr.nil n0
  have hws : ∀ d ∈ StrChars.Road.words, d.before a0 Z = true := fun d hd => hw d ((by decide +kernel : ∀ d ∈ StrChars.Road.words, d ∈ tables_1) d hd)
  show Go p e below T0 (mkF m 0 #[.val (.ref ca), .val (.int fr), .val (.int n)] []) _
  refine stp (fun _ => XS.iloadN X0.here hx rfl (hb hby d1_0) rfl) ?_
  show Go p e below T0 (mkF m 1 #[.val (.ref ca), .val (.int fr), .val (.int n)] [(.int n)]) _
  by_cases q1_1 : 0 < n
  · refine stp (fun _ => XS.ifYes X0.here hx rfl (pc0 := 1) (pc' := 15) rfl (hb hby d1_1) rfl (XT.i0_gt_t q1_1) (by decide) (by decide)) ?_
    show Go p e below T0 (mkF m 15 #[.val (.ref ca), .val (.int fr), .val (.int n)] []) _
    refine stp (fun _ => XS.iloadN X0.here hx rfl (hb hby d1_15) rfl) ?_
    show Go p e below T0 (mkF m 16 #[.val (.ref ca), .val (.int fr), .val (.int n)] [(.int n)]) _
    refine stp (fun _ => XS.iconst X0.here hx rfl (hb hby d1_16)) ?_
    show Go p e below T0 (mkF m 17 #[.val (.ref ca), .val (.int fr), .val (.int n)] [(.int (1 : Int32)), (.int n)]) _
    by_cases q17_2 : n = (1 : Int32)
    · refine stp (fun _ => XS.icmpNo X0.here hx rfl (hb hby d1_17) rfl (XT.ii_ne_f q17_2)) ?_
      show Go p e below T0 (mkF m 20 #[.val (.ref ca), .val (.int fr), .val (.int n)] []) _
      refine stp (fun _ => XS.aloadN X0.here hx rfl (hb hby d1_20) rfl rfl) ?_
      show Go p e below T0 (mkF m 21 #[.val (.ref ca), .val (.int fr), .val (.int n)] [(.ref ca)]) _
      refine stp (fun _ => XS.iloadN X0.here hx rfl (hb hby d1_21) rfl) ?_
      show Go p e below T0 (mkF m 22 #[.val (.ref ca), .val (.int fr), .val (.int n)] [(.int fr), (.ref ca)]) _
      obtain ⟨cl3, Ar3, q3, S3, M3, H3, G3⟩ := (id V_ca)
      have in3 : ¬ (fr < 0 ∨ cl3.slots.size ≤ (fr).toNatClampNeg) := inb_of S3 (own_in0 hf (by rw [q17_2]; decide))
      have at3 : cl3.slots[(fr).toNatClampNeg]? = some (.int (own_x x0 x1 x2 x3 fr)) := H3.at in3 (own_xat (own_in0 hf (by rw [q17_2]; decide)))
      refine stp (fun _ => X0.caload hx (j := fr) (v := (.int (own_x x0 x1 x2 x3 fr))) (by rw [e0]; exact Ar3.1) (State.isArrayOf_alike hZ.alike Ar3.2.1) Ar3.2.2 in3 at3 (g := (mkF m 22 #[.val (.ref ca), .val (.int fr), .val (.int n)] [(.int fr), (.ref ca)])) rfl rfl (hb hby d1_22) _) ?_
      show Go p e below T0 (mkF m 23 #[.val (.ref ca), .val (.int fr), .val (.int n)] [(.int (own_x x0 x1 x2 x3 fr))]) _
      obtain ⟨_, _, ⟨T4, L4, k4, n4⟩, -, X4, ⟨Lc4, hQ4, l4, y4, z4⟩, st4⟩ := Jvm.LawKit.callS X0 hx (y := (⟨"java/lang/String", "valueOf", "(C)Ljava/lang/String;"⟩ : MethodName)) hown (mvT hZ (hw _ (List.mem_of_getElem? (i := 128) rfl))) (mvT hZ (hw _ (List.mem_of_getElem? (i := 129) rfl))) (mvT hZ (hw _ (List.mem_of_getElem? (i := 7) rfl))) (mvT hZ (hw _ (List.mem_of_getElem? (i := 130) rfl))) (by decide) (backOf (W := 0) (rm_vo l Z a0 hw [] (own_x x0 x1 x2 x3 fr) cz h0 n0 O0 S_COMPACT_STRINGS hcz (own_x_sm hx0 hx1 hx2 hx3 _)) hZ (hw _ (List.mem_of_getElem? (i := 130) rfl)) (hw _ (List.mem_of_getElem? (i := 7) rfl)) (by decide) (by decide)) (g := (mkF m 23 #[.val (.ref ca), .val (.int fr), .val (.int n)] [(.int (own_x x0 x1 x2 x3 fr))])) rfl (by rw [hml]; rfl) (argsL := [(.int (own_x x0 x1 x2 x3 fr))]) (rest := []) (lenOf pd_5 rfl) rfl (by show 2 * 0 + _ ≤ _; exact Nat.le_of_eq rfl) (hb hby d1_23) (fun _ _ => ⟨rfl, e0, (by decide : 0 + 2 ≤ _), (by decide : 0 + 5 ≤ _)⟩)
      dsimp only [Pt.U, Pt.locs, Pt.cells, Pt.slots] at X4 l4 y4 z4 st4 hQ4
      subst y4 z4
      obtain ⟨r4, rfl, N4q, K4q, ⟨ge_r4, sz4_r4⟩, r4_0⟩ := hQ4
      have N4 : Fr n0 L4 := by rw [l4]; exact Fr.app N0 N4q
      have ne5 : ca ≠ r4 := Nat.ne_of_lt (Nat.lt_of_lt_of_le V_ca.lt sz4_r4)
      have f6 := V_ca.keep K4q nin0
      have hk := Nat.le_trans hk K4q.1
      have CR := CR.trans (CHr.keep K4q sf0 CR.1)
      have sz_r4 : h0.size ≤ r4 := Nat.le_trans (Keep.refl h0 []).1 sz4_r4
      have K4 : Keep h0 T4.heap [] := (Keep.refl h0 []).trans K4q all0
      have O4 := O0.keep K4q all0
      refine stp st4 ?_
      show Go p e below T4 (mkF m 26 #[.val (.ref ca), .val (.int fr), .val (.int n)] [(.ref r4)]) _
      refine outAW X4 hx hZ hEL rfl hS hk CR hret rfl rfl (hb hby d1_26) hlk (by decide) (by decide) ?_
      exact ⟨r4, rfl, N4, K4, ⟨ge_r4, sz_r4⟩, (own_cs_of (by simp only [own_tk, if_pos q1_1, if_pos q17_2]) r4_0)⟩
    · refine stp (fun _ => XS.icmpYes X0.here hx rfl (pc0 := 17) (pc' := 27) rfl (hb hby d1_17) rfl (XT.ii_ne_t q17_2) (by decide) (by decide)) ?_
      show Go p e below T0 (mkF m 27 #[.val (.ref ca), .val (.int fr), .val (.int n)] []) _
      refine stp (fun _ => XS.iloadN X0.here hx rfl (hb hby d1_27) rfl) ?_
      show Go p e below T0 (mkF m 28 #[.val (.ref ca), .val (.int fr), .val (.int n)] [(.int n)]) _
      refine stp (fun _ => XS.iconst X0.here hx rfl (hb hby d1_28)) ?_
      show Go p e below T0 (mkF m 29 #[.val (.ref ca), .val (.int fr), .val (.int n)] [(.int (2 : Int32)), (.int n)]) _
      by_cases q29_7 : n = (2 : Int32)
      · refine stp (fun _ => XS.icmpNo X0.here hx rfl (hb hby d1_29) rfl (XT.ii_ne_f q29_7)) ?_
        show Go p e below T0 (mkF m 32 #[.val (.ref ca), .val (.int fr), .val (.int n)] []) _
        obtain ⟨T8, h8, X8, e8, E8, A8, D8, -, st8⟩ := newO X0 hx hZ hown (hw _ (List.mem_of_getElem? (i := 5) rfl)) (hw _ (List.mem_of_getElem? (i := 6) rfl)) (hw _ (List.mem_of_getElem? (i := 7) rfl)) e0 (g := (mkF m 32 #[.val (.ref ca), .val (.int fr), .val (.int n)] [])) rfl (hb hby d1_32) (by decide) (by decide)
        obtain ⟨b8, g8⟩ : ∃ z, z = h0.size := ⟨_, rfl⟩
        rw [← g8] at A8 D8 st8
        have ne9 : ca ≠ b8 := Nat.ne_of_lt (Nat.lt_of_lt_of_le V_ca.lt (Nat.le_of_eq g8.symm))
        have sz_b8 : h0.size ≤ b8 := Nat.le_trans (Keep.refl h0 []).1 (Nat.le_of_eq g8.symm)
        have ge_b8 : n0 ≤ b8 := Nat.le_trans (old_le O0) (Nat.le_of_eq g8.symm)
        have f10 := V_ca.ext E8
        have Sf8 := (Safe.new (Z := Z) (EL := consts_1) (Nat.le_of_eq g8.symm)).ext E8 CR.1
        have hk := Nat.le_trans hk E8.1
        have CR := CR.trans (CHr.ext E8 CR.1)
        have K8 : Keep h0 h8 [] := (Keep.refl h0 []).ext E8
        have O8 := O0.ext E8
        have F11 : Fld Z h8 b8 "java/lang/String" "coder" "B" (.int (0 : Int32)) := D8 (Or.inr (hw _ (List.mem_of_getElem? (i := 31) rfl))) (ty := .byte) (by decide)
        have F12 : Fld Z h8 b8 "java/lang/String" "value" "[B" .null := D8 (Or.inr (hw _ (List.mem_of_getElem? (i := 33) rfl))) (ty := (.array .byte)) (by decide)
        refine stp st8 ?_
        show Go p e below T8 (mkF m 35 #[.val (.ref ca), .val (.int fr), .val (.int n)] [(.ref b8)]) _
        refine stp (fun _ => XS.dup X8.here hx rfl (hb hby d1_35) rfl rfl) ?_
        show Go p e below T8 (mkF m 36 #[.val (.ref ca), .val (.int fr), .val (.int n)] [(.ref b8), (.ref b8)]) _
        refine stp (fun _ => XS.iconst X8.here hx rfl (hb hby d1_36)) ?_
        show Go p e below T8 (mkF m 37 #[.val (.ref ca), .val (.int fr), .val (.int n)] [(.int (2 : Int32)), (.ref b8), (.ref b8)]) _
        obtain ⟨T13, h13, k13, X13, e13, E13, A13, B13, st13⟩ := newPE X8 hx hZ (hw _ (List.mem_of_getElem? (i := 0) rfl)) e8 (g := (mkF m 37 #[.val (.ref ca), .val (.int fr), .val (.int n)] [(.int (2 : Int32)), (.ref b8), (.ref b8)])) rfl (hb hby d1_37) rfl (by decide) (cap := 2) (by decide) (by decide) (by decide) (by decide) (ad := "[C") (by decide)
        obtain ⟨b13, g13⟩ : ∃ z, z = h8.size := ⟨_, rfl⟩
        rw [← g13] at A13 B13 st13
        have ne14 : b8 ≠ b13 := Nat.ne_of_lt (Nat.lt_of_lt_of_le A8.lt (Nat.le_of_eq g13.symm))
        have ne15 : ca ≠ b13 := Nat.ne_of_lt (Nat.lt_of_lt_of_le f10.lt (Nat.le_of_eq g13.symm))
        have sz_b13 : h0.size ≤ b13 := Nat.le_trans K8.1 (Nat.le_of_eq g13.symm)
        have ge_b13 : n0 ≤ b13 := Nat.le_trans (old_le O8) (Nat.le_of_eq g13.symm)
        have f16 := f10.ext E13
        have f17 := Sf8.ext E13 CR.1
        have f18 := A8.ext E13
        have f19 := F11.ext E13
        have f20 := F12.ext E13
        have hk := Nat.le_trans hk E13.1
        have CR := CR.trans (CHr.ext E13 CR.1)
        have K13 : Keep h0 h13 [] := K8.ext E13
        have O13 := O8.ext E13
        have V13 : Arv Z h13 b13 k13 .char (2 : Int32) [(.int (0 : Int32)), (.int (0 : Int32))] (.int (0 : Int32)) := (Arv.new A13 (by decide)).pad (pad_rep [] (.int (0 : Int32)) 2)
        refine stp st13 ?_
        show Go p e below T13 (mkF m 39 #[.val (.ref ca), .val (.int fr), .val (.int n)] [(.ref b13), (.ref b8), (.ref b8)]) _
        refine stp (fun _ => XS.dup X13.here hx rfl (hb hby d1_39) rfl rfl) ?_
        show Go p e below T13 (mkF m 40 #[.val (.ref ca), .val (.int fr), .val (.int n)] [(.ref b13), (.ref b13), (.ref b8), (.ref b8)]) _
        refine stp (fun _ => XS.iconst X13.here hx rfl (hb hby d1_40)) ?_
        show Go p e below T13 (mkF m 41 #[.val (.ref ca), .val (.int fr), .val (.int n)] [(.int (0 : Int32)), (.ref b13), (.ref b13), (.ref b8), (.ref b8)]) _
        refine stp (fun _ => XS.aloadN X13.here hx rfl (hb hby d1_41) rfl rfl) ?_
        show Go p e below T13 (mkF m 42 #[.val (.ref ca), .val (.int fr), .val (.int n)] [(.ref ca), (.int (0 : Int32)), (.ref b13), (.ref b13), (.ref b8), (.ref b8)]) _
        refine stp (fun _ => XS.iloadN X13.here hx rfl (hb hby d1_42) rfl) ?_
        show Go p e below T13 (mkF m 43 #[.val (.ref ca), .val (.int fr), .val (.int n)] [(.int fr), (.ref ca), (.int (0 : Int32)), (.ref b13), (.ref b13), (.ref b8), (.ref b8)]) _
        obtain ⟨cl21, Ar21, q21, S21, M21, H21, G21⟩ := (id f16)
        have in21 : ¬ (fr < 0 ∨ cl21.slots.size ≤ (fr).toNatClampNeg) := inb_of S21 (own_in0 hf (by rw [q29_7]; decide))
        have at21 : cl21.slots[(fr).toNatClampNeg]? = some (.int (own_x x0 x1 x2 x3 fr)) := H21.at in21 (own_xat (own_in0 hf (by rw [q29_7]; decide)))
        refine stp (fun _ => X13.caload hx (j := fr) (v := (.int (own_x x0 x1 x2 x3 fr))) (by rw [e13]; exact Ar21.1) (State.isArrayOf_alike hZ.alike Ar21.2.1) Ar21.2.2 in21 at21 (g := (mkF m 43 #[.val (.ref ca), .val (.int fr), .val (.int n)] [(.int fr), (.ref ca), (.int (0 : Int32)), (.ref b13), (.ref b13), (.ref b8), (.ref b8)])) rfl rfl (hb hby d1_43) _) ?_
        show Go p e below T13 (mkF m 44 #[.val (.ref ca), .val (.int fr), .val (.int n)] [(.int (own_x x0 x1 x2 x3 fr)), (.int (0 : Int32)), (.ref b13), (.ref b13), (.ref b8), (.ref b8)]) _
        obtain ⟨cl22, Ar22, q22, S22, M22, H22, G22⟩ := (id V13)
        have in22 : ¬ ((0 : Int32) < 0 ∨ cl22.slots.size ≤ ((0 : Int32)).toNatClampNeg) := inb_of S22 ⟨by decide, by decide⟩
        obtain ⟨T22, h22, X22, e22, W22, st22⟩ := stC X13 hx hZ e13 Ar22 (j := (0 : Int32)) in22 (g := (mkF m 44 #[.val (.ref ca), .val (.int fr), .val (.int n)] [(.int (own_x x0 x1 x2 x3 fr)), (.int (0 : Int32)), (.ref b13), (.ref b13), (.ref b8), (.ref b8)])) rfl rfl (hb hby d1_44)
        have V22 : Arv Z h22 b13 k13 .char (2 : Int32) [(.int (own_x x0 x1 x2 x3 fr)), (.int (0 : Int32))] (.int (0 : Int32)) := Arv.set Ar22 q22 S22 M22 H22 G22 (ow_fits_char (char255 (own_x_sm hx0 hx1 hx2 hx3 _))) (ow_wr_char (char255 (own_x_sm hx0 hx1 hx2 hx3 _)) W22) 0 rfl (Nat.le_of_ble_eq_true rfl)
        have f23 := f16.other W22 ne15
        have f24 := Safe.wr W22 (Safe.exa hZ.alike B13 (by decide) (by decide)) CR.1 f17
        have f25 := f18.wr W22
        have f26 := f19.other W22 (Or.inl ne14)
        have f27 := f20.other W22 (Or.inl ne14)
        have f28 := B13.wr W22
        have hk := Nat.le_trans hk (Keep.of_wr W22).1
        have CR := CR.trans (CHr.wr W22 (Safe.exa hZ.alike B13 (by decide) (by decide)) CR.1)
        have K22 : Keep h0 h22 [] := K13.wr W22 (Or.inr sz_b13)
        have O22 := O13.wr W22 ge_b13
        have N22 := Fr.snoc X22 N0 ge_b13
        refine stp st22 ?_
        show Go p e below T22 (mkF m 45 #[.val (.ref ca), .val (.int fr), .val (.int n)] [(.ref b13), (.ref b8), (.ref b8)]) _
        refine stp (fun _ => XS.dup X22.here hx rfl (hb hby d1_45) rfl rfl) ?_
        show Go p e below T22 (mkF m 46 #[.val (.ref ca), .val (.int fr), .val (.int n)] [(.ref b13), (.ref b13), (.ref b8), (.ref b8)]) _
        refine stp (fun _ => XS.iconst X22.here hx rfl (hb hby d1_46)) ?_
        show Go p e below T22 (mkF m 47 #[.val (.ref ca), .val (.int fr), .val (.int n)] [(.int (1 : Int32)), (.ref b13), (.ref b13), (.ref b8), (.ref b8)]) _
        refine stp (fun _ => XS.aloadN X22.here hx rfl (hb hby d1_47) rfl rfl) ?_
        show Go p e below T22 (mkF m 48 #[.val (.ref ca), .val (.int fr), .val (.int n)] [(.ref ca), (.int (1 : Int32)), (.ref b13), (.ref b13), (.ref b8), (.ref b8)]) _
        refine stp (fun _ => XS.iloadN X22.here hx rfl (hb hby d1_48) rfl) ?_
        show Go p e below T22 (mkF m 49 #[.val (.ref ca), .val (.int fr), .val (.int n)] [(.int fr), (.ref ca), (.int (1 : Int32)), (.ref b13), (.ref b13), (.ref b8), (.ref b8)]) _
        refine stp (fun _ => XS.iconst X22.here hx rfl (hb hby d1_49)) ?_
        show Go p e below T22 (mkF m 50 #[.val (.ref ca), .val (.int fr), .val (.int n)] [(.int (1 : Int32)), (.int fr), (.ref ca), (.int (1 : Int32)), (.ref b13), (.ref b13), (.ref b8), (.ref b8)]) _
        refine stp (fun _ => XS.iadd X22.here hx rfl (hb hby d1_50) rfl) ?_
        show Go p e below T22 (mkF m 51 #[.val (.ref ca), .val (.int fr), .val (.int n)] [(.int (fr + (1 : Int32))), (.ref ca), (.int (1 : Int32)), (.ref b13), (.ref b13), (.ref b8), (.ref b8)]) _
        obtain ⟨cl30, Ar30, q30, S30, M30, H30, G30⟩ := (id f23)
        have in30 : ¬ ((fr + (1 : Int32)) < 0 ∨ cl30.slots.size ≤ ((fr + (1 : Int32))).toNatClampNeg) := inb_of S30 (own_in1 hf (by rw [q29_7]; decide))
        have at30 : cl30.slots[((fr + (1 : Int32))).toNatClampNeg]? = some (.int (own_x x0 x1 x2 x3 (fr + (1 : Int32)))) := H30.at in30 (own_xat (own_in1 hf (by rw [q29_7]; decide)))
        refine stp (fun _ => X22.caload hx (j := (fr + (1 : Int32))) (v := (.int (own_x x0 x1 x2 x3 (fr + (1 : Int32))))) (by rw [e22]; exact Ar30.1) (State.isArrayOf_alike hZ.alike Ar30.2.1) Ar30.2.2 in30 at30 (g := (mkF m 51 #[.val (.ref ca), .val (.int fr), .val (.int n)] [(.int (fr + (1 : Int32))), (.ref ca), (.int (1 : Int32)), (.ref b13), (.ref b13), (.ref b8), (.ref b8)])) rfl rfl (hb hby d1_51) _) ?_
        show Go p e below T22 (mkF m 52 #[.val (.ref ca), .val (.int fr), .val (.int n)] [(.int (own_x x0 x1 x2 x3 (fr + (1 : Int32)))), (.int (1 : Int32)), (.ref b13), (.ref b13), (.ref b8), (.ref b8)]) _
        obtain ⟨cl31, Ar31, q31, S31, M31, H31, G31⟩ := (id V22)
        have in31 : ¬ ((1 : Int32) < 0 ∨ cl31.slots.size ≤ ((1 : Int32)).toNatClampNeg) := inb_of S31 ⟨by decide, by decide⟩
        obtain ⟨T31, h31, X31, e31, W31, st31⟩ := stC X22 hx hZ e22 Ar31 (j := (1 : Int32)) in31 (g := (mkF m 52 #[.val (.ref ca), .val (.int fr), .val (.int n)] [(.int (own_x x0 x1 x2 x3 (fr + (1 : Int32)))), (.int (1 : Int32)), (.ref b13), (.ref b13), (.ref b8), (.ref b8)])) rfl rfl (hb hby d1_52)
        have V31 : Arv Z h31 b13 k13 .char (2 : Int32) [(.int (own_x x0 x1 x2 x3 fr)), (.int (own_x x0 x1 x2 x3 (fr + (1 : Int32))))] (.int (0 : Int32)) := Arv.set Ar31 q31 S31 M31 H31 G31 (ow_fits_char (char255 (own_x_sm hx0 hx1 hx2 hx3 _))) (ow_wr_char (char255 (own_x_sm hx0 hx1 hx2 hx3 _)) W31) 1 rfl (Nat.le_of_ble_eq_true rfl)
        have f32 := f23.other W31 ne15
        have f33 := Safe.wr W31 (Safe.exa hZ.alike f28 (by decide) (by decide)) CR.1 f24
        have f34 := f25.wr W31
        have f35 := f26.other W31 (Or.inl ne14)
        have f36 := f27.other W31 (Or.inl ne14)
        have f37 := f28.wr W31
        have hk := Nat.le_trans hk (Keep.of_wr W31).1
        have CR := CR.trans (CHr.wr W31 (Safe.exa hZ.alike f28 (by decide) (by decide)) CR.1)
        have K31 : Keep h0 h31 [] := K22.wr W31 (Or.inr sz_b13)
        have O31 := O22.wr W31 ge_b13
        have N31 := Fr.snoc X31 N22 ge_b13
        refine stp st31 ?_
        show Go p e below T31 (mkF m 53 #[.val (.ref ca), .val (.int fr), .val (.int n)] [(.ref b13), (.ref b8), (.ref b8)]) _
        obtain ⟨_, _, ⟨T39, L39, k39, n39⟩, -, X39, ⟨Lc39, hQ39, l39, y39, z39⟩, st39⟩ := X31.specialBack hx (y := (⟨"java/lang/String", "<init>", "([C)V"⟩ : MethodName)) rfl hown (mvT hZ (hw _ (List.mem_of_getElem? (i := 8) rfl))) (mvT hZ (hw _ (List.mem_of_getElem? (i := 9) rfl))) (mvT hZ (hw _ (List.mem_of_getElem? (i := 10) rfl))) (by decide) (StrChars.Road.backV (W := 1) hZ hws (kI := 4) (hw _ (List.mem_of_getElem? (i := 6) rfl)) (cs := ([(own_x x0 x1 x2 x3 fr), (own_x x0 x1 x2 x3 (fr + (1 : Int32)))] : List Int32)) (bs := ([(own_x x0 x1 x2 x3 fr), (own_x x0 x1 x2 x3 (fr + (1 : Int32)))] : List Int32).map (fun c => c.toInt8.toInt32)) (n := 2) ge_b8 (old_le O31) f34 f36 f35 V31 (S_COMPACT_STRINGS.ext O31.2) hcz rfl rfl (by decide) (by decide) (own_sm1 (own_x_sm hx0 hx1 hx2 hx3 _) (own_sm1 (own_x_sm hx0 hx1 hx2 hx3 _) own_sm0)) rfl (by decide) (by decide)) (g := (mkF m 53 #[.val (.ref ca), .val (.int fr), .val (.int n)] [(.ref b13), (.ref b8), (.ref b8)])) rfl (by rw [hml]; rfl) (Steps.refl _) (a := b8) (argsL := [(.ref b13)]) (rest := [(.ref b8)]) (lenOf pd_6 rfl) rfl (by show 2 * 0 + _ ≤ _; exact Nat.le_of_eq rfl) (hb hby d1_53) (fun _ _ => ⟨rfl, e31, (by decide : 2 + 1 ≤ _), (by decide : 6 + 2 ≤ _)⟩)
        dsimp only [Pt.U, Pt.locs, Pt.cells, Pt.slots] at X39 l39 y39 z39 st39 hQ39
        subst y39 z39
        obtain ⟨rfl, N39q, K39q, E39q, C39q, t39, kb39, ge_t39, sz39q, ne39q, F39q, V39q⟩ := hQ39
        have N39 : Fr n0 L39 := by rw [l39]; exact Fr.app N31 N39q
        have ne40 : b13 ≠ t39 := Nat.ne_of_lt (Nat.lt_of_lt_of_le f37.lt sz39q)
        have ne41 : ca ≠ t39 := Nat.ne_of_lt (Nat.lt_of_lt_of_le f32.lt sz39q)
        have f42 := f32.keep K39q (ninS ne9 nin0)
        have f43 := f33.keep K39q (sfS f33 sf0) CR.1
        have f44 := f37.keep K39q
        have f45 := V31.keep K39q (ninS (Ne.symm ne14) nin0)
        have hk := Nat.le_trans hk K39q.1
        have CR := CR.trans (CHr.keep K39q (sfS f33 sf0) CR.1)
        have K39 : Keep h0 T39.heap [] := K31.trans K39q (allS (Or.inr sz_b8) all0)
        have sz_t39 : h0.size ≤ t39 := Nat.le_trans K31.1 sz39q
        have O39 := O31.keep K39q (allS ge_b8 all0)
        have Q39 : StrIs Z T39.heap b8 ([(own_x x0 x1 x2 x3 fr), (own_x x0 x1 x2 x3 (fr + (1 : Int32)))] : List Int32) := StrIs.of E39q F39q C39q V39q rfl rfl (own_sm1 (own_x_sm hx0 hx1 hx2 hx3 _) (own_sm1 (own_x_sm hx0 hx1 hx2 hx3 _) own_sm0)) (Nat.le_of_ble_eq_true rfl)
        refine stt st39 ?_
        show Go p e below T39 (mkF m 56 #[.val (.ref ca), .val (.int fr), .val (.int n)] [(.ref b8)]) _
        refine outAW X39 hx hZ hEL rfl hS hk CR hret rfl rfl (hb hby d1_56) hlk (by decide) (by decide) ?_
        exact ⟨b8, rfl, N39, K39, ⟨ge_b8, sz_b8⟩, (own_cs_of (by simp only [own_tk, if_pos q1_1, if_neg q17_2, if_pos q29_7]) Q39)⟩
      · refine stp (fun _ => XS.icmpYes X0.here hx rfl (pc0 := 29) (pc' := 57) rfl (hb hby d1_29) rfl (XT.ii_ne_t q29_7) (by decide) (by decide)) ?_
        show Go p e below T0 (mkF m 57 #[.val (.ref ca), .val (.int fr), .val (.int n)] []) _
        refine stp (fun _ => XS.iloadN X0.here hx rfl (hb hby d1_57) rfl) ?_
        show Go p e below T0 (mkF m 58 #[.val (.ref ca), .val (.int fr), .val (.int n)] [(.int n)]) _
        refine stp (fun _ => XS.iconst X0.here hx rfl (hb hby d1_58)) ?_
        show Go p e below T0 (mkF m 59 #[.val (.ref ca), .val (.int fr), .val (.int n)] [(.int (3 : Int32)), (.int n)]) _
        by_cases q59_46 : n = (3 : Int32)
        · refine stp (fun _ => XS.icmpNo X0.here hx rfl (hb hby d1_59) rfl (XT.ii_ne_f q59_46)) ?_
          show Go p e below T0 (mkF m 62 #[.val (.ref ca), .val (.int fr), .val (.int n)] []) _
          obtain ⟨T47, h47, X47, e47, E47, A47, D47, -, st47⟩ := newO X0 hx hZ hown (hw _ (List.mem_of_getElem? (i := 5) rfl)) (hw _ (List.mem_of_getElem? (i := 6) rfl)) (hw _ (List.mem_of_getElem? (i := 7) rfl)) e0 (g := (mkF m 62 #[.val (.ref ca), .val (.int fr), .val (.int n)] [])) rfl (hb hby d1_62) (by decide) (by decide)
          obtain ⟨b47, g47⟩ : ∃ z, z = h0.size := ⟨_, rfl⟩
          rw [← g47] at A47 D47 st47
          have ne48 : ca ≠ b47 := Nat.ne_of_lt (Nat.lt_of_lt_of_le V_ca.lt (Nat.le_of_eq g47.symm))
          have sz_b47 : h0.size ≤ b47 := Nat.le_trans (Keep.refl h0 []).1 (Nat.le_of_eq g47.symm)
          have ge_b47 : n0 ≤ b47 := Nat.le_trans (old_le O0) (Nat.le_of_eq g47.symm)
          have f49 := V_ca.ext E47
          have Sf47 := (Safe.new (Z := Z) (EL := consts_1) (Nat.le_of_eq g47.symm)).ext E47 CR.1
          have hk := Nat.le_trans hk E47.1
          have CR := CR.trans (CHr.ext E47 CR.1)
          have K47 : Keep h0 h47 [] := (Keep.refl h0 []).ext E47
          have O47 := O0.ext E47
          have F50 : Fld Z h47 b47 "java/lang/String" "coder" "B" (.int (0 : Int32)) := D47 (Or.inr (hw _ (List.mem_of_getElem? (i := 31) rfl))) (ty := .byte) (by decide)
          have F51 : Fld Z h47 b47 "java/lang/String" "value" "[B" .null := D47 (Or.inr (hw _ (List.mem_of_getElem? (i := 33) rfl))) (ty := (.array .byte)) (by decide)
          refine stp st47 ?_
          show Go p e below T47 (mkF m 65 #[.val (.ref ca), .val (.int fr), .val (.int n)] [(.ref b47)]) _
          refine stp (fun _ => XS.dup X47.here hx rfl (hb hby d1_65) rfl rfl) ?_
          show Go p e below T47 (mkF m 66 #[.val (.ref ca), .val (.int fr), .val (.int n)] [(.ref b47), (.ref b47)]) _
          refine stp (fun _ => XS.iconst X47.here hx rfl (hb hby d1_66)) ?_
          show Go p e below T47 (mkF m 67 #[.val (.ref ca), .val (.int fr), .val (.int n)] [(.int (3 : Int32)), (.ref b47), (.ref b47)]) _
          obtain ⟨T52, h52, k52, X52, e52, E52, A52, B52, st52⟩ := newPE X47 hx hZ (hw _ (List.mem_of_getElem? (i := 0) rfl)) e47 (g := (mkF m 67 #[.val (.ref ca), .val (.int fr), .val (.int n)] [(.int (3 : Int32)), (.ref b47), (.ref b47)])) rfl (hb hby d1_67) rfl (by decide) (cap := 3) (by decide) (by decide) (by decide) (by decide) (ad := "[C") (by decide)
          obtain ⟨b52, g52⟩ : ∃ z, z = h47.size := ⟨_, rfl⟩
          rw [← g52] at A52 B52 st52
          have ne53 : b47 ≠ b52 := Nat.ne_of_lt (Nat.lt_of_lt_of_le A47.lt (Nat.le_of_eq g52.symm))
          have ne54 : ca ≠ b52 := Nat.ne_of_lt (Nat.lt_of_lt_of_le f49.lt (Nat.le_of_eq g52.symm))
          have sz_b52 : h0.size ≤ b52 := Nat.le_trans K47.1 (Nat.le_of_eq g52.symm)
          have ge_b52 : n0 ≤ b52 := Nat.le_trans (old_le O47) (Nat.le_of_eq g52.symm)
          have f55 := f49.ext E52
          have f56 := Sf47.ext E52 CR.1
          have f57 := A47.ext E52
          have f58 := F50.ext E52
          have f59 := F51.ext E52
          have hk := Nat.le_trans hk E52.1
          have CR := CR.trans (CHr.ext E52 CR.1)
          have K52 : Keep h0 h52 [] := K47.ext E52
          have O52 := O47.ext E52
          have V52 : Arv Z h52 b52 k52 .char (3 : Int32) [(.int (0 : Int32)), (.int (0 : Int32)), (.int (0 : Int32))] (.int (0 : Int32)) := (Arv.new A52 (by decide)).pad (pad_rep [] (.int (0 : Int32)) 3)
          refine stp st52 ?_
          show Go p e below T52 (mkF m 69 #[.val (.ref ca), .val (.int fr), .val (.int n)] [(.ref b52), (.ref b47), (.ref b47)]) _
          refine stp (fun _ => XS.dup X52.here hx rfl (hb hby d1_69) rfl rfl) ?_
          show Go p e below T52 (mkF m 70 #[.val (.ref ca), .val (.int fr), .val (.int n)] [(.ref b52), (.ref b52), (.ref b47), (.ref b47)]) _
          refine stp (fun _ => XS.iconst X52.here hx rfl (hb hby d1_70)) ?_
          show Go p e below T52 (mkF m 71 #[.val (.ref ca), .val (.int fr), .val (.int n)] [(.int (0 : Int32)), (.ref b52), (.ref b52), (.ref b47), (.ref b47)]) _
          refine stp (fun _ => XS.aloadN X52.here hx rfl (hb hby d1_71) rfl rfl) ?_
          show Go p e below T52 (mkF m 72 #[.val (.ref ca), .val (.int fr), .val (.int n)] [(.ref ca), (.int (0 : Int32)), (.ref b52), (.ref b52), (.ref b47), (.ref b47)]) _
          refine stp (fun _ => XS.iloadN X52.here hx rfl (hb hby d1_72) rfl) ?_
          show Go p e below T52 (mkF m 73 #[.val (.ref ca), .val (.int fr), .val (.int n)] [(.int fr), (.ref ca), (.int (0 : Int32)), (.ref b52), (.ref b52), (.ref b47), (.ref b47)]) _
          obtain ⟨cl60, Ar60, q60, S60, M60, H60, G60⟩ := (id f55)
          have in60 : ¬ (fr < 0 ∨ cl60.slots.size ≤ (fr).toNatClampNeg) := inb_of S60 (own_in0 hf (by rw [q59_46]; decide))
          have at60 : cl60.slots[(fr).toNatClampNeg]? = some (.int (own_x x0 x1 x2 x3 fr)) := H60.at in60 (own_xat (own_in0 hf (by rw [q59_46]; decide)))
          refine stp (fun _ => X52.caload hx (j := fr) (v := (.int (own_x x0 x1 x2 x3 fr))) (by rw [e52]; exact Ar60.1) (State.isArrayOf_alike hZ.alike Ar60.2.1) Ar60.2.2 in60 at60 (g := (mkF m 73 #[.val (.ref ca), .val (.int fr), .val (.int n)] [(.int fr), (.ref ca), (.int (0 : Int32)), (.ref b52), (.ref b52), (.ref b47), (.ref b47)])) rfl rfl (hb hby d1_73) _) ?_
          show Go p e below T52 (mkF m 74 #[.val (.ref ca), .val (.int fr), .val (.int n)] [(.int (own_x x0 x1 x2 x3 fr)), (.int (0 : Int32)), (.ref b52), (.ref b52), (.ref b47), (.ref b47)]) _
          obtain ⟨cl61, Ar61, q61, S61, M61, H61, G61⟩ := (id V52)
          have in61 : ¬ ((0 : Int32) < 0 ∨ cl61.slots.size ≤ ((0 : Int32)).toNatClampNeg) := inb_of S61 ⟨by decide, by decide⟩
          obtain ⟨T61, h61, X61, e61, W61, st61⟩ := stC X52 hx hZ e52 Ar61 (j := (0 : Int32)) in61 (g := (mkF m 74 #[.val (.ref ca), .val (.int fr), .val (.int n)] [(.int (own_x x0 x1 x2 x3 fr)), (.int (0 : Int32)), (.ref b52), (.ref b52), (.ref b47), (.ref b47)])) rfl rfl (hb hby d1_74)
          have V61 : Arv Z h61 b52 k52 .char (3 : Int32) [(.int (own_x x0 x1 x2 x3 fr)), (.int (0 : Int32)), (.int (0 : Int32))] (.int (0 : Int32)) := Arv.set Ar61 q61 S61 M61 H61 G61 (ow_fits_char (char255 (own_x_sm hx0 hx1 hx2 hx3 _))) (ow_wr_char (char255 (own_x_sm hx0 hx1 hx2 hx3 _)) W61) 0 rfl (Nat.le_of_ble_eq_true rfl)
          have f62 := f55.other W61 ne54
          have f63 := Safe.wr W61 (Safe.exa hZ.alike B52 (by decide) (by decide)) CR.1 f56
          have f64 := f57.wr W61
          have f65 := f58.other W61 (Or.inl ne53)
          have f66 := f59.other W61 (Or.inl ne53)
          have f67 := B52.wr W61
          have hk := Nat.le_trans hk (Keep.of_wr W61).1
          have CR := CR.trans (CHr.wr W61 (Safe.exa hZ.alike B52 (by decide) (by decide)) CR.1)
          have K61 : Keep h0 h61 [] := K52.wr W61 (Or.inr sz_b52)
          have O61 := O52.wr W61 ge_b52
          have N61 := Fr.snoc X61 N0 ge_b52
          refine stp st61 ?_
          show Go p e below T61 (mkF m 75 #[.val (.ref ca), .val (.int fr), .val (.int n)] [(.ref b52), (.ref b47), (.ref b47)]) _
          refine stp (fun _ => XS.dup X61.here hx rfl (hb hby d1_75) rfl rfl) ?_
          show Go p e below T61 (mkF m 76 #[.val (.ref ca), .val (.int fr), .val (.int n)] [(.ref b52), (.ref b52), (.ref b47), (.ref b47)]) _
          refine stp (fun _ => XS.iconst X61.here hx rfl (hb hby d1_76)) ?_
          show Go p e below T61 (mkF m 77 #[.val (.ref ca), .val (.int fr), .val (.int n)] [(.int (1 : Int32)), (.ref b52), (.ref b52), (.ref b47), (.ref b47)]) _
          refine stp (fun _ => XS.aloadN X61.here hx rfl (hb hby d1_77) rfl rfl) ?_
          show Go p e below T61 (mkF m 78 #[.val (.ref ca), .val (.int fr), .val (.int n)] [(.ref ca), (.int (1 : Int32)), (.ref b52), (.ref b52), (.ref b47), (.ref b47)]) _
          refine stp (fun _ => XS.iloadN X61.here hx rfl (hb hby d1_78) rfl) ?_
          show Go p e below T61 (mkF m 79 #[.val (.ref ca), .val (.int fr), .val (.int n)] [(.int fr), (.ref ca), (.int (1 : Int32)), (.ref b52), (.ref b52), (.ref b47), (.ref b47)]) _
          refine stp (fun _ => XS.iconst X61.here hx rfl (hb hby d1_79)) ?_
          show Go p e below T61 (mkF m 80 #[.val (.ref ca), .val (.int fr), .val (.int n)] [(.int (1 : Int32)), (.int fr), (.ref ca), (.int (1 : Int32)), (.ref b52), (.ref b52), (.ref b47), (.ref b47)]) _
          refine stp (fun _ => XS.iadd X61.here hx rfl (hb hby d1_80) rfl) ?_
          show Go p e below T61 (mkF m 81 #[.val (.ref ca), .val (.int fr), .val (.int n)] [(.int (fr + (1 : Int32))), (.ref ca), (.int (1 : Int32)), (.ref b52), (.ref b52), (.ref b47), (.ref b47)]) _
          obtain ⟨cl69, Ar69, q69, S69, M69, H69, G69⟩ := (id f62)
          have in69 : ¬ ((fr + (1 : Int32)) < 0 ∨ cl69.slots.size ≤ ((fr + (1 : Int32))).toNatClampNeg) := inb_of S69 (own_in1 hf (by rw [q59_46]; decide))
          have at69 : cl69.slots[((fr + (1 : Int32))).toNatClampNeg]? = some (.int (own_x x0 x1 x2 x3 (fr + (1 : Int32)))) := H69.at in69 (own_xat (own_in1 hf (by rw [q59_46]; decide)))
          refine stp (fun _ => X61.caload hx (j := (fr + (1 : Int32))) (v := (.int (own_x x0 x1 x2 x3 (fr + (1 : Int32))))) (by rw [e61]; exact Ar69.1) (State.isArrayOf_alike hZ.alike Ar69.2.1) Ar69.2.2 in69 at69 (g := (mkF m 81 #[.val (.ref ca), .val (.int fr), .val (.int n)] [(.int (fr + (1 : Int32))), (.ref ca), (.int (1 : Int32)), (.ref b52), (.ref b52), (.ref b47), (.ref b47)])) rfl rfl (hb hby d1_81) _) ?_
          show Go p e below T61 (mkF m 82 #[.val (.ref ca), .val (.int fr), .val (.int n)] [(.int (own_x x0 x1 x2 x3 (fr + (1 : Int32)))), (.int (1 : Int32)), (.ref b52), (.ref b52), (.ref b47), (.ref b47)]) _
          obtain ⟨cl70, Ar70, q70, S70, M70, H70, G70⟩ := (id V61)
          have in70 : ¬ ((1 : Int32) < 0 ∨ cl70.slots.size ≤ ((1 : Int32)).toNatClampNeg) := inb_of S70 ⟨by decide, by decide⟩
          obtain ⟨T70, h70, X70, e70, W70, st70⟩ := stC X61 hx hZ e61 Ar70 (j := (1 : Int32)) in70 (g := (mkF m 82 #[.val (.ref ca), .val (.int fr), .val (.int n)] [(.int (own_x x0 x1 x2 x3 (fr + (1 : Int32)))), (.int (1 : Int32)), (.ref b52), (.ref b52), (.ref b47), (.ref b47)])) rfl rfl (hb hby d1_82)
          have V70 : Arv Z h70 b52 k52 .char (3 : Int32) [(.int (own_x x0 x1 x2 x3 fr)), (.int (own_x x0 x1 x2 x3 (fr + (1 : Int32)))), (.int (0 : Int32))] (.int (0 : Int32)) := Arv.set Ar70 q70 S70 M70 H70 G70 (ow_fits_char (char255 (own_x_sm hx0 hx1 hx2 hx3 _))) (ow_wr_char (char255 (own_x_sm hx0 hx1 hx2 hx3 _)) W70) 1 rfl (Nat.le_of_ble_eq_true rfl)
          have f71 := f62.other W70 ne54
          have f72 := Safe.wr W70 (Safe.exa hZ.alike f67 (by decide) (by decide)) CR.1 f63
          have f73 := f64.wr W70
          have f74 := f65.other W70 (Or.inl ne53)
          have f75 := f66.other W70 (Or.inl ne53)
          have f76 := f67.wr W70
          have hk := Nat.le_trans hk (Keep.of_wr W70).1
          have CR := CR.trans (CHr.wr W70 (Safe.exa hZ.alike f67 (by decide) (by decide)) CR.1)
          have K70 : Keep h0 h70 [] := K61.wr W70 (Or.inr sz_b52)
          have O70 := O61.wr W70 ge_b52
          have N70 := Fr.snoc X70 N61 ge_b52
          refine stp st70 ?_
          show Go p e below T70 (mkF m 83 #[.val (.ref ca), .val (.int fr), .val (.int n)] [(.ref b52), (.ref b47), (.ref b47)]) _
          refine stp (fun _ => XS.dup X70.here hx rfl (hb hby d1_83) rfl rfl) ?_
          show Go p e below T70 (mkF m 84 #[.val (.ref ca), .val (.int fr), .val (.int n)] [(.ref b52), (.ref b52), (.ref b47), (.ref b47)]) _
          refine stp (fun _ => XS.iconst X70.here hx rfl (hb hby d1_84)) ?_
          show Go p e below T70 (mkF m 85 #[.val (.ref ca), .val (.int fr), .val (.int n)] [(.int (2 : Int32)), (.ref b52), (.ref b52), (.ref b47), (.ref b47)]) _
          refine stp (fun _ => XS.aloadN X70.here hx rfl (hb hby d1_85) rfl rfl) ?_
          show Go p e below T70 (mkF m 86 #[.val (.ref ca), .val (.int fr), .val (.int n)] [(.ref ca), (.int (2 : Int32)), (.ref b52), (.ref b52), (.ref b47), (.ref b47)]) _
          refine stp (fun _ => XS.iloadN X70.here hx rfl (hb hby d1_86) rfl) ?_
          show Go p e below T70 (mkF m 87 #[.val (.ref ca), .val (.int fr), .val (.int n)] [(.int fr), (.ref ca), (.int (2 : Int32)), (.ref b52), (.ref b52), (.ref b47), (.ref b47)]) _
          refine stp (fun _ => XS.iconst X70.here hx rfl (hb hby d1_87)) ?_
          show Go p e below T70 (mkF m 88 #[.val (.ref ca), .val (.int fr), .val (.int n)] [(.int (2 : Int32)), (.int fr), (.ref ca), (.int (2 : Int32)), (.ref b52), (.ref b52), (.ref b47), (.ref b47)]) _
          refine stp (fun _ => XS.iadd X70.here hx rfl (hb hby d1_88) rfl) ?_
          show Go p e below T70 (mkF m 89 #[.val (.ref ca), .val (.int fr), .val (.int n)] [(.int (fr + (2 : Int32))), (.ref ca), (.int (2 : Int32)), (.ref b52), (.ref b52), (.ref b47), (.ref b47)]) _
          obtain ⟨cl78, Ar78, q78, S78, M78, H78, G78⟩ := (id f71)
          have in78 : ¬ ((fr + (2 : Int32)) < 0 ∨ cl78.slots.size ≤ ((fr + (2 : Int32))).toNatClampNeg) := inb_of S78 (own_in2 hf (by rw [q59_46]; decide))
          have at78 : cl78.slots[((fr + (2 : Int32))).toNatClampNeg]? = some (.int (own_x x0 x1 x2 x3 (fr + (2 : Int32)))) := H78.at in78 (own_xat (own_in2 hf (by rw [q59_46]; decide)))
          refine stp (fun _ => X70.caload hx (j := (fr + (2 : Int32))) (v := (.int (own_x x0 x1 x2 x3 (fr + (2 : Int32))))) (by rw [e70]; exact Ar78.1) (State.isArrayOf_alike hZ.alike Ar78.2.1) Ar78.2.2 in78 at78 (g := (mkF m 89 #[.val (.ref ca), .val (.int fr), .val (.int n)] [(.int (fr + (2 : Int32))), (.ref ca), (.int (2 : Int32)), (.ref b52), (.ref b52), (.ref b47), (.ref b47)])) rfl rfl (hb hby d1_89) _) ?_
          show Go p e below T70 (mkF m 90 #[.val (.ref ca), .val (.int fr), .val (.int n)] [(.int (own_x x0 x1 x2 x3 (fr + (2 : Int32)))), (.int (2 : Int32)), (.ref b52), (.ref b52), (.ref b47), (.ref b47)]) _
          obtain ⟨cl79, Ar79, q79, S79, M79, H79, G79⟩ := (id V70)
          have in79 : ¬ ((2 : Int32) < 0 ∨ cl79.slots.size ≤ ((2 : Int32)).toNatClampNeg) := inb_of S79 ⟨by decide, by decide⟩
          obtain ⟨T79, h79, X79, e79, W79, st79⟩ := stC X70 hx hZ e70 Ar79 (j := (2 : Int32)) in79 (g := (mkF m 90 #[.val (.ref ca), .val (.int fr), .val (.int n)] [(.int (own_x x0 x1 x2 x3 (fr + (2 : Int32)))), (.int (2 : Int32)), (.ref b52), (.ref b52), (.ref b47), (.ref b47)])) rfl rfl (hb hby d1_90)
          have V79 : Arv Z h79 b52 k52 .char (3 : Int32) [(.int (own_x x0 x1 x2 x3 fr)), (.int (own_x x0 x1 x2 x3 (fr + (1 : Int32)))), (.int (own_x x0 x1 x2 x3 (fr + (2 : Int32))))] (.int (0 : Int32)) := Arv.set Ar79 q79 S79 M79 H79 G79 (ow_fits_char (char255 (own_x_sm hx0 hx1 hx2 hx3 _))) (ow_wr_char (char255 (own_x_sm hx0 hx1 hx2 hx3 _)) W79) 2 rfl (Nat.le_of_ble_eq_true rfl)
          have f80 := f71.other W79 ne54
          have f81 := Safe.wr W79 (Safe.exa hZ.alike f76 (by decide) (by decide)) CR.1 f72
          have f82 := f73.wr W79
          have f83 := f74.other W79 (Or.inl ne53)
          have f84 := f75.other W79 (Or.inl ne53)
          have f85 := f76.wr W79
          have hk := Nat.le_trans hk (Keep.of_wr W79).1
          have CR := CR.trans (CHr.wr W79 (Safe.exa hZ.alike f76 (by decide) (by decide)) CR.1)
          have K79 : Keep h0 h79 [] := K70.wr W79 (Or.inr sz_b52)
          have O79 := O70.wr W79 ge_b52
          have N79 := Fr.snoc X79 N70 ge_b52
          refine stp st79 ?_
          show Go p e below T79 (mkF m 91 #[.val (.ref ca), .val (.int fr), .val (.int n)] [(.ref b52), (.ref b47), (.ref b47)]) _
          obtain ⟨_, _, ⟨T87, L87, k87, n87⟩, -, X87, ⟨Lc87, hQ87, l87, y87, z87⟩, st87⟩ := X79.specialBack hx (y := (⟨"java/lang/String", "<init>", "([C)V"⟩ : MethodName)) rfl hown (mvT hZ (hw _ (List.mem_of_getElem? (i := 8) rfl))) (mvT hZ (hw _ (List.mem_of_getElem? (i := 9) rfl))) (mvT hZ (hw _ (List.mem_of_getElem? (i := 10) rfl))) (by decide) (StrChars.Road.backV (W := 1) hZ hws (kI := 4) (hw _ (List.mem_of_getElem? (i := 6) rfl)) (cs := ([(own_x x0 x1 x2 x3 fr), (own_x x0 x1 x2 x3 (fr + (1 : Int32))), (own_x x0 x1 x2 x3 (fr + (2 : Int32)))] : List Int32)) (bs := ([(own_x x0 x1 x2 x3 fr), (own_x x0 x1 x2 x3 (fr + (1 : Int32))), (own_x x0 x1 x2 x3 (fr + (2 : Int32)))] : List Int32).map (fun c => c.toInt8.toInt32)) (n := 3) ge_b47 (old_le O79) f82 f84 f83 V79 (S_COMPACT_STRINGS.ext O79.2) hcz rfl rfl (by decide) (by decide) (own_sm1 (own_x_sm hx0 hx1 hx2 hx3 _) (own_sm1 (own_x_sm hx0 hx1 hx2 hx3 _) (own_sm1 (own_x_sm hx0 hx1 hx2 hx3 _) own_sm0))) rfl (by decide) (by decide)) (g := (mkF m 91 #[.val (.ref ca), .val (.int fr), .val (.int n)] [(.ref b52), (.ref b47), (.ref b47)])) rfl (by rw [hml]; rfl) (Steps.refl _) (a := b47) (argsL := [(.ref b52)]) (rest := [(.ref b47)]) (lenOf pd_6 rfl) rfl (by show 2 * 0 + _ ≤ _; exact Nat.le_of_eq rfl) (hb hby d1_91) (fun _ _ => ⟨rfl, e79, (by decide : 2 + 1 ≤ _), (by decide : 7 + 3 ≤ _)⟩)
          dsimp only [Pt.U, Pt.locs, Pt.cells, Pt.slots] at X87 l87 y87 z87 st87 hQ87
          subst y87 z87
          obtain ⟨rfl, N87q, K87q, E87q, C87q, t87, kb87, ge_t87, sz87q, ne87q, F87q, V87q⟩ := hQ87
          have N87 : Fr n0 L87 := by rw [l87]; exact Fr.app N79 N87q
          have ne88 : b52 ≠ t87 := Nat.ne_of_lt (Nat.lt_of_lt_of_le f85.lt sz87q)
          have ne89 : ca ≠ t87 := Nat.ne_of_lt (Nat.lt_of_lt_of_le f80.lt sz87q)
          have f90 := f80.keep K87q (ninS ne48 nin0)
          have f91 := f81.keep K87q (sfS f81 sf0) CR.1
          have f92 := f85.keep K87q
          have f93 := V79.keep K87q (ninS (Ne.symm ne53) nin0)
          have hk := Nat.le_trans hk K87q.1
          have CR := CR.trans (CHr.keep K87q (sfS f81 sf0) CR.1)
          have K87 : Keep h0 T87.heap [] := K79.trans K87q (allS (Or.inr sz_b47) all0)
          have sz_t87 : h0.size ≤ t87 := Nat.le_trans K79.1 sz87q
          have O87 := O79.keep K87q (allS ge_b47 all0)
          have Q87 : StrIs Z T87.heap b47 ([(own_x x0 x1 x2 x3 fr), (own_x x0 x1 x2 x3 (fr + (1 : Int32))), (own_x x0 x1 x2 x3 (fr + (2 : Int32)))] : List Int32) := StrIs.of E87q F87q C87q V87q rfl rfl (own_sm1 (own_x_sm hx0 hx1 hx2 hx3 _) (own_sm1 (own_x_sm hx0 hx1 hx2 hx3 _) (own_sm1 (own_x_sm hx0 hx1 hx2 hx3 _) own_sm0))) (Nat.le_of_ble_eq_true rfl)
          refine stt st87 ?_
          show Go p e below T87 (mkF m 94 #[.val (.ref ca), .val (.int fr), .val (.int n)] [(.ref b47)]) _
          refine outAW X87 hx hZ hEL rfl hS hk CR hret rfl rfl (hb hby d1_94) hlk (by decide) (by decide) ?_
          exact ⟨b47, rfl, N87, K87, ⟨ge_b47, sz_b47⟩, (own_cs_of (by simp only [own_tk, if_pos q1_1, if_neg q17_2, if_neg q29_7, if_pos q59_46]) Q87)⟩
        · refine stp (fun _ => XS.icmpYes X0.here hx rfl (pc0 := 59) (pc' := 95) rfl (hb hby d1_59) rfl (XT.ii_ne_t q59_46) (by decide) (by decide)) ?_
          show Go p e below T0 (mkF m 95 #[.val (.ref ca), .val (.int fr), .val (.int n)] []) _
          have h4 : n = (4 : Int32) := own_four hf q1_1 q17_2 q29_7 q59_46
          obtain ⟨T94, h94, X94, e94, E94, A94, D94, -, st94⟩ := newO X0 hx hZ hown (hw _ (List.mem_of_getElem? (i := 5) rfl)) (hw _ (List.mem_of_getElem? (i := 6) rfl)) (hw _ (List.mem_of_getElem? (i := 7) rfl)) e0 (g := (mkF m 95 #[.val (.ref ca), .val (.int fr), .val (.int n)] [])) rfl (hb hby d1_95) (by decide) (by decide)
          obtain ⟨b94, g94⟩ : ∃ z, z = h0.size := ⟨_, rfl⟩
          rw [← g94] at A94 D94 st94
          have ne95 : ca ≠ b94 := Nat.ne_of_lt (Nat.lt_of_lt_of_le V_ca.lt (Nat.le_of_eq g94.symm))
          have sz_b94 : h0.size ≤ b94 := Nat.le_trans (Keep.refl h0 []).1 (Nat.le_of_eq g94.symm)
          have ge_b94 : n0 ≤ b94 := Nat.le_trans (old_le O0) (Nat.le_of_eq g94.symm)
          have f96 := V_ca.ext E94
          have Sf94 := (Safe.new (Z := Z) (EL := consts_1) (Nat.le_of_eq g94.symm)).ext E94 CR.1
          have hk := Nat.le_trans hk E94.1
          have CR := CR.trans (CHr.ext E94 CR.1)
          have K94 : Keep h0 h94 [] := (Keep.refl h0 []).ext E94
          have O94 := O0.ext E94
          have F97 : Fld Z h94 b94 "java/lang/String" "coder" "B" (.int (0 : Int32)) := D94 (Or.inr (hw _ (List.mem_of_getElem? (i := 31) rfl))) (ty := .byte) (by decide)
          have F98 : Fld Z h94 b94 "java/lang/String" "value" "[B" .null := D94 (Or.inr (hw _ (List.mem_of_getElem? (i := 33) rfl))) (ty := (.array .byte)) (by decide)
          refine stp st94 ?_
          show Go p e below T94 (mkF m 98 #[.val (.ref ca), .val (.int fr), .val (.int n)] [(.ref b94)]) _
          refine stp (fun _ => XS.dup X94.here hx rfl (hb hby d1_98) rfl rfl) ?_
          show Go p e below T94 (mkF m 99 #[.val (.ref ca), .val (.int fr), .val (.int n)] [(.ref b94), (.ref b94)]) _
          refine stp (fun _ => XS.iconst X94.here hx rfl (hb hby d1_99)) ?_
          show Go p e below T94 (mkF m 100 #[.val (.ref ca), .val (.int fr), .val (.int n)] [(.int (4 : Int32)), (.ref b94), (.ref b94)]) _
          obtain ⟨T99, h99, k99, X99, e99, E99, A99, B99, st99⟩ := newPE X94 hx hZ (hw _ (List.mem_of_getElem? (i := 0) rfl)) e94 (g := (mkF m 100 #[.val (.ref ca), .val (.int fr), .val (.int n)] [(.int (4 : Int32)), (.ref b94), (.ref b94)])) rfl (hb hby d1_100) rfl (by decide) (cap := 4) (by decide) (by decide) (by decide) (by decide) (ad := "[C") (by decide)
          obtain ⟨b99, g99⟩ : ∃ z, z = h94.size := ⟨_, rfl⟩
          rw [← g99] at A99 B99 st99
          have ne100 : b94 ≠ b99 := Nat.ne_of_lt (Nat.lt_of_lt_of_le A94.lt (Nat.le_of_eq g99.symm))
          have ne101 : ca ≠ b99 := Nat.ne_of_lt (Nat.lt_of_lt_of_le f96.lt (Nat.le_of_eq g99.symm))
          have sz_b99 : h0.size ≤ b99 := Nat.le_trans K94.1 (Nat.le_of_eq g99.symm)
          have ge_b99 : n0 ≤ b99 := Nat.le_trans (old_le O94) (Nat.le_of_eq g99.symm)
          have f102 := f96.ext E99
          have f103 := Sf94.ext E99 CR.1
          have f104 := A94.ext E99
          have f105 := F97.ext E99
          have f106 := F98.ext E99
          have hk := Nat.le_trans hk E99.1
          have CR := CR.trans (CHr.ext E99 CR.1)
          have K99 : Keep h0 h99 [] := K94.ext E99
          have O99 := O94.ext E99
          have V99 : Arv Z h99 b99 k99 .char (4 : Int32) [(.int (0 : Int32)), (.int (0 : Int32)), (.int (0 : Int32)), (.int (0 : Int32))] (.int (0 : Int32)) := (Arv.new A99 (by decide)).pad (pad_rep [] (.int (0 : Int32)) 4)
          refine stp st99 ?_
          show Go p e below T99 (mkF m 102 #[.val (.ref ca), .val (.int fr), .val (.int n)] [(.ref b99), (.ref b94), (.ref b94)]) _
          refine stp (fun _ => XS.dup X99.here hx rfl (hb hby d1_102) rfl rfl) ?_
          show Go p e below T99 (mkF m 103 #[.val (.ref ca), .val (.int fr), .val (.int n)] [(.ref b99), (.ref b99), (.ref b94), (.ref b94)]) _
          refine stp (fun _ => XS.iconst X99.here hx rfl (hb hby d1_103)) ?_
          show Go p e below T99 (mkF m 104 #[.val (.ref ca), .val (.int fr), .val (.int n)] [(.int (0 : Int32)), (.ref b99), (.ref b99), (.ref b94), (.ref b94)]) _
          refine stp (fun _ => XS.aloadN X99.here hx rfl (hb hby d1_104) rfl rfl) ?_
          show Go p e below T99 (mkF m 105 #[.val (.ref ca), .val (.int fr), .val (.int n)] [(.ref ca), (.int (0 : Int32)), (.ref b99), (.ref b99), (.ref b94), (.ref b94)]) _
          refine stp (fun _ => XS.iloadN X99.here hx rfl (hb hby d1_105) rfl) ?_
          show Go p e below T99 (mkF m 106 #[.val (.ref ca), .val (.int fr), .val (.int n)] [(.int fr), (.ref ca), (.int (0 : Int32)), (.ref b99), (.ref b99), (.ref b94), (.ref b94)]) _
          obtain ⟨cl107, Ar107, q107, S107, M107, H107, G107⟩ := (id f102)
          have in107 : ¬ (fr < 0 ∨ cl107.slots.size ≤ (fr).toNatClampNeg) := inb_of S107 (own_in0 hf (by rw [h4]; decide))
          have at107 : cl107.slots[(fr).toNatClampNeg]? = some (.int (own_x x0 x1 x2 x3 fr)) := H107.at in107 (own_xat (own_in0 hf (by rw [h4]; decide)))
          refine stp (fun _ => X99.caload hx (j := fr) (v := (.int (own_x x0 x1 x2 x3 fr))) (by rw [e99]; exact Ar107.1) (State.isArrayOf_alike hZ.alike Ar107.2.1) Ar107.2.2 in107 at107 (g := (mkF m 106 #[.val (.ref ca), .val (.int fr), .val (.int n)] [(.int fr), (.ref ca), (.int (0 : Int32)), (.ref b99), (.ref b99), (.ref b94), (.ref b94)])) rfl rfl (hb hby d1_106) _) ?_
          show Go p e below T99 (mkF m 107 #[.val (.ref ca), .val (.int fr), .val (.int n)] [(.int (own_x x0 x1 x2 x3 fr)), (.int (0 : Int32)), (.ref b99), (.ref b99), (.ref b94), (.ref b94)]) _
          obtain ⟨cl108, Ar108, q108, S108, M108, H108, G108⟩ := (id V99)
          have in108 : ¬ ((0 : Int32) < 0 ∨ cl108.slots.size ≤ ((0 : Int32)).toNatClampNeg) := inb_of S108 ⟨by decide, by decide⟩
          obtain ⟨T108, h108, X108, e108, W108, st108⟩ := stC X99 hx hZ e99 Ar108 (j := (0 : Int32)) in108 (g := (mkF m 107 #[.val (.ref ca), .val (.int fr), .val (.int n)] [(.int (own_x x0 x1 x2 x3 fr)), (.int (0 : Int32)), (.ref b99), (.ref b99), (.ref b94), (.ref b94)])) rfl rfl (hb hby d1_107)
          have V108 : Arv Z h108 b99 k99 .char (4 : Int32) [(.int (own_x x0 x1 x2 x3 fr)), (.int (0 : Int32)), (.int (0 : Int32)), (.int (0 : Int32))] (.int (0 : Int32)) := Arv.set Ar108 q108 S108 M108 H108 G108 (ow_fits_char (char255 (own_x_sm hx0 hx1 hx2 hx3 _))) (ow_wr_char (char255 (own_x_sm hx0 hx1 hx2 hx3 _)) W108) 0 rfl (Nat.le_of_ble_eq_true rfl)
          have f109 := f102.other W108 ne101
          have f110 := Safe.wr W108 (Safe.exa hZ.alike B99 (by decide) (by decide)) CR.1 f103
          have f111 := f104.wr W108
          have f112 := f105.other W108 (Or.inl ne100)
          have f113 := f106.other W108 (Or.inl ne100)
          have f114 := B99.wr W108
          have hk := Nat.le_trans hk (Keep.of_wr W108).1
          have CR := CR.trans (CHr.wr W108 (Safe.exa hZ.alike B99 (by decide) (by decide)) CR.1)
          have K108 : Keep h0 h108 [] := K99.wr W108 (Or.inr sz_b99)
          have O108 := O99.wr W108 ge_b99
          have N108 := Fr.snoc X108 N0 ge_b99
          refine stp st108 ?_
          show Go p e below T108 (mkF m 108 #[.val (.ref ca), .val (.int fr), .val (.int n)] [(.ref b99), (.ref b94), (.ref b94)]) _
          refine stp (fun _ => XS.dup X108.here hx rfl (hb hby d1_108) rfl rfl) ?_
          show Go p e below T108 (mkF m 109 #[.val (.ref ca), .val (.int fr), .val (.int n)] [(.ref b99), (.ref b99), (.ref b94), (.ref b94)]) _
          refine stp (fun _ => XS.iconst X108.here hx rfl (hb hby d1_109)) ?_
          show Go p e below T108 (mkF m 110 #[.val (.ref ca), .val (.int fr), .val (.int n)] [(.int (1 : Int32)), (.ref b99), (.ref b99), (.ref b94), (.ref b94)]) _
          refine stp (fun _ => XS.aloadN X108.here hx rfl (hb hby d1_110) rfl rfl) ?_
          show Go p e below T108 (mkF m 111 #[.val (.ref ca), .val (.int fr), .val (.int n)] [(.ref ca), (.int (1 : Int32)), (.ref b99), (.ref b99), (.ref b94), (.ref b94)]) _
          refine stp (fun _ => XS.iloadN X108.here hx rfl (hb hby d1_111) rfl) ?_
          show Go p e below T108 (mkF m 112 #[.val (.ref ca), .val (.int fr), .val (.int n)] [(.int fr), (.ref ca), (.int (1 : Int32)), (.ref b99), (.ref b99), (.ref b94), (.ref b94)]) _
          refine stp (fun _ => XS.iconst X108.here hx rfl (hb hby d1_112)) ?_
          show Go p e below T108 (mkF m 113 #[.val (.ref ca), .val (.int fr), .val (.int n)] [(.int (1 : Int32)), (.int fr), (.ref ca), (.int (1 : Int32)), (.ref b99), (.ref b99), (.ref b94), (.ref b94)]) _
          refine stp (fun _ => XS.iadd X108.here hx rfl (hb hby d1_113) rfl) ?_
          show Go p e below T108 (mkF m 114 #[.val (.ref ca), .val (.int fr), .val (.int n)] [(.int (fr + (1 : Int32))), (.ref ca), (.int (1 : Int32)), (.ref b99), (.ref b99), (.ref b94), (.ref b94)]) _
          obtain ⟨cl116, Ar116, q116, S116, M116, H116, G116⟩ := (id f109)
          have in116 : ¬ ((fr + (1 : Int32)) < 0 ∨ cl116.slots.size ≤ ((fr + (1 : Int32))).toNatClampNeg) := inb_of S116 (own_in1 hf (by rw [h4]; decide))
          have at116 : cl116.slots[((fr + (1 : Int32))).toNatClampNeg]? = some (.int (own_x x0 x1 x2 x3 (fr + (1 : Int32)))) := H116.at in116 (own_xat (own_in1 hf (by rw [h4]; decide)))
          refine stp (fun _ => X108.caload hx (j := (fr + (1 : Int32))) (v := (.int (own_x x0 x1 x2 x3 (fr + (1 : Int32))))) (by rw [e108]; exact Ar116.1) (State.isArrayOf_alike hZ.alike Ar116.2.1) Ar116.2.2 in116 at116 (g := (mkF m 114 #[.val (.ref ca), .val (.int fr), .val (.int n)] [(.int (fr + (1 : Int32))), (.ref ca), (.int (1 : Int32)), (.ref b99), (.ref b99), (.ref b94), (.ref b94)])) rfl rfl (hb hby d1_114) _) ?_
          show Go p e below T108 (mkF m 115 #[.val (.ref ca), .val (.int fr), .val (.int n)] [(.int (own_x x0 x1 x2 x3 (fr + (1 : Int32)))), (.int (1 : Int32)), (.ref b99), (.ref b99), (.ref b94), (.ref b94)]) _
          obtain ⟨cl117, Ar117, q117, S117, M117, H117, G117⟩ := (id V108)
          have in117 : ¬ ((1 : Int32) < 0 ∨ cl117.slots.size ≤ ((1 : Int32)).toNatClampNeg) := inb_of S117 ⟨by decide, by decide⟩
          obtain ⟨T117, h117, X117, e117, W117, st117⟩ := stC X108 hx hZ e108 Ar117 (j := (1 : Int32)) in117 (g := (mkF m 115 #[.val (.ref ca), .val (.int fr), .val (.int n)] [(.int (own_x x0 x1 x2 x3 (fr + (1 : Int32)))), (.int (1 : Int32)), (.ref b99), (.ref b99), (.ref b94), (.ref b94)])) rfl rfl (hb hby d1_115)
          have V117 : Arv Z h117 b99 k99 .char (4 : Int32) [(.int (own_x x0 x1 x2 x3 fr)), (.int (own_x x0 x1 x2 x3 (fr + (1 : Int32)))), (.int (0 : Int32)), (.int (0 : Int32))] (.int (0 : Int32)) := Arv.set Ar117 q117 S117 M117 H117 G117 (ow_fits_char (char255 (own_x_sm hx0 hx1 hx2 hx3 _))) (ow_wr_char (char255 (own_x_sm hx0 hx1 hx2 hx3 _)) W117) 1 rfl (Nat.le_of_ble_eq_true rfl)
          have f118 := f109.other W117 ne101
          have f119 := Safe.wr W117 (Safe.exa hZ.alike f114 (by decide) (by decide)) CR.1 f110
          have f120 := f111.wr W117
          have f121 := f112.other W117 (Or.inl ne100)
          have f122 := f113.other W117 (Or.inl ne100)
          have f123 := f114.wr W117
          have hk := Nat.le_trans hk (Keep.of_wr W117).1
          have CR := CR.trans (CHr.wr W117 (Safe.exa hZ.alike f114 (by decide) (by decide)) CR.1)
          have K117 : Keep h0 h117 [] := K108.wr W117 (Or.inr sz_b99)
          have O117 := O108.wr W117 ge_b99
          have N117 := Fr.snoc X117 N108 ge_b99
          refine stp st117 ?_
          show Go p e below T117 (mkF m 116 #[.val (.ref ca), .val (.int fr), .val (.int n)] [(.ref b99), (.ref b94), (.ref b94)]) _
          refine stp (fun _ => XS.dup X117.here hx rfl (hb hby d1_116) rfl rfl) ?_
          show Go p e below T117 (mkF m 117 #[.val (.ref ca), .val (.int fr), .val (.int n)] [(.ref b99), (.ref b99), (.ref b94), (.ref b94)]) _
          refine stp (fun _ => XS.iconst X117.here hx rfl (hb hby d1_117)) ?_
          show Go p e below T117 (mkF m 118 #[.val (.ref ca), .val (.int fr), .val (.int n)] [(.int (2 : Int32)), (.ref b99), (.ref b99), (.ref b94), (.ref b94)]) _
          refine stp (fun _ => XS.aloadN X117.here hx rfl (hb hby d1_118) rfl rfl) ?_
          show Go p e below T117 (mkF m 119 #[.val (.ref ca), .val (.int fr), .val (.int n)] [(.ref ca), (.int (2 : Int32)), (.ref b99), (.ref b99), (.ref b94), (.ref b94)]) _
          refine stp (fun _ => XS.iloadN X117.here hx rfl (hb hby d1_119) rfl) ?_
          show Go p e below T117 (mkF m 120 #[.val (.ref ca), .val (.int fr), .val (.int n)] [(.int fr), (.ref ca), (.int (2 : Int32)), (.ref b99), (.ref b99), (.ref b94), (.ref b94)]) _
          refine stp (fun _ => XS.iconst X117.here hx rfl (hb hby d1_120)) ?_
          show Go p e below T117 (mkF m 121 #[.val (.ref ca), .val (.int fr), .val (.int n)] [(.int (2 : Int32)), (.int fr), (.ref ca), (.int (2 : Int32)), (.ref b99), (.ref b99), (.ref b94), (.ref b94)]) _
          refine stp (fun _ => XS.iadd X117.here hx rfl (hb hby d1_121) rfl) ?_
          show Go p e below T117 (mkF m 122 #[.val (.ref ca), .val (.int fr), .val (.int n)] [(.int (fr + (2 : Int32))), (.ref ca), (.int (2 : Int32)), (.ref b99), (.ref b99), (.ref b94), (.ref b94)]) _
          obtain ⟨cl125, Ar125, q125, S125, M125, H125, G125⟩ := (id f118)
          have in125 : ¬ ((fr + (2 : Int32)) < 0 ∨ cl125.slots.size ≤ ((fr + (2 : Int32))).toNatClampNeg) := inb_of S125 (own_in2 hf (by rw [h4]; decide))
          have at125 : cl125.slots[((fr + (2 : Int32))).toNatClampNeg]? = some (.int (own_x x0 x1 x2 x3 (fr + (2 : Int32)))) := H125.at in125 (own_xat (own_in2 hf (by rw [h4]; decide)))
          refine stp (fun _ => X117.caload hx (j := (fr + (2 : Int32))) (v := (.int (own_x x0 x1 x2 x3 (fr + (2 : Int32))))) (by rw [e117]; exact Ar125.1) (State.isArrayOf_alike hZ.alike Ar125.2.1) Ar125.2.2 in125 at125 (g := (mkF m 122 #[.val (.ref ca), .val (.int fr), .val (.int n)] [(.int (fr + (2 : Int32))), (.ref ca), (.int (2 : Int32)), (.ref b99), (.ref b99), (.ref b94), (.ref b94)])) rfl rfl (hb hby d1_122) _) ?_
          show Go p e below T117 (mkF m 123 #[.val (.ref ca), .val (.int fr), .val (.int n)] [(.int (own_x x0 x1 x2 x3 (fr + (2 : Int32)))), (.int (2 : Int32)), (.ref b99), (.ref b99), (.ref b94), (.ref b94)]) _
          obtain ⟨cl126, Ar126, q126, S126, M126, H126, G126⟩ := (id V117)
          have in126 : ¬ ((2 : Int32) < 0 ∨ cl126.slots.size ≤ ((2 : Int32)).toNatClampNeg) := inb_of S126 ⟨by decide, by decide⟩
          obtain ⟨T126, h126, X126, e126, W126, st126⟩ := stC X117 hx hZ e117 Ar126 (j := (2 : Int32)) in126 (g := (mkF m 123 #[.val (.ref ca), .val (.int fr), .val (.int n)] [(.int (own_x x0 x1 x2 x3 (fr + (2 : Int32)))), (.int (2 : Int32)), (.ref b99), (.ref b99), (.ref b94), (.ref b94)])) rfl rfl (hb hby d1_123)
          have V126 : Arv Z h126 b99 k99 .char (4 : Int32) [(.int (own_x x0 x1 x2 x3 fr)), (.int (own_x x0 x1 x2 x3 (fr + (1 : Int32)))), (.int (own_x x0 x1 x2 x3 (fr + (2 : Int32)))), (.int (0 : Int32))] (.int (0 : Int32)) := Arv.set Ar126 q126 S126 M126 H126 G126 (ow_fits_char (char255 (own_x_sm hx0 hx1 hx2 hx3 _))) (ow_wr_char (char255 (own_x_sm hx0 hx1 hx2 hx3 _)) W126) 2 rfl (Nat.le_of_ble_eq_true rfl)
          have f127 := f118.other W126 ne101
          have f128 := Safe.wr W126 (Safe.exa hZ.alike f123 (by decide) (by decide)) CR.1 f119
          have f129 := f120.wr W126
          have f130 := f121.other W126 (Or.inl ne100)
          have f131 := f122.other W126 (Or.inl ne100)
          have f132 := f123.wr W126
          have hk := Nat.le_trans hk (Keep.of_wr W126).1
          have CR := CR.trans (CHr.wr W126 (Safe.exa hZ.alike f123 (by decide) (by decide)) CR.1)
          have K126 : Keep h0 h126 [] := K117.wr W126 (Or.inr sz_b99)
          have O126 := O117.wr W126 ge_b99
          have N126 := Fr.snoc X126 N117 ge_b99
          refine stp st126 ?_
          show Go p e below T126 (mkF m 124 #[.val (.ref ca), .val (.int fr), .val (.int n)] [(.ref b99), (.ref b94), (.ref b94)]) _
          refine stp (fun _ => XS.dup X126.here hx rfl (hb hby d1_124) rfl rfl) ?_
          show Go p e below T126 (mkF m 125 #[.val (.ref ca), .val (.int fr), .val (.int n)] [(.ref b99), (.ref b99), (.ref b94), (.ref b94)]) _
          refine stp (fun _ => XS.iconst X126.here hx rfl (hb hby d1_125)) ?_
          show Go p e below T126 (mkF m 126 #[.val (.ref ca), .val (.int fr), .val (.int n)] [(.int (3 : Int32)), (.ref b99), (.ref b99), (.ref b94), (.ref b94)]) _
          refine stp (fun _ => XS.aloadN X126.here hx rfl (hb hby d1_126) rfl rfl) ?_
          show Go p e below T126 (mkF m 127 #[.val (.ref ca), .val (.int fr), .val (.int n)] [(.ref ca), (.int (3 : Int32)), (.ref b99), (.ref b99), (.ref b94), (.ref b94)]) _
          refine stp (fun _ => XS.iloadN X126.here hx rfl (hb hby d1_127) rfl) ?_
          show Go p e below T126 (mkF m 128 #[.val (.ref ca), .val (.int fr), .val (.int n)] [(.int fr), (.ref ca), (.int (3 : Int32)), (.ref b99), (.ref b99), (.ref b94), (.ref b94)]) _
          refine stp (fun _ => XS.iconst X126.here hx rfl (hb hby d1_128)) ?_
          show Go p e below T126 (mkF m 129 #[.val (.ref ca), .val (.int fr), .val (.int n)] [(.int (3 : Int32)), (.int fr), (.ref ca), (.int (3 : Int32)), (.ref b99), (.ref b99), (.ref b94), (.ref b94)]) _
          refine stp (fun _ => XS.iadd X126.here hx rfl (hb hby d1_129) rfl) ?_
          show Go p e below T126 (mkF m 130 #[.val (.ref ca), .val (.int fr), .val (.int n)] [(.int (fr + (3 : Int32))), (.ref ca), (.int (3 : Int32)), (.ref b99), (.ref b99), (.ref b94), (.ref b94)]) _
          obtain ⟨cl134, Ar134, q134, S134, M134, H134, G134⟩ := (id f127)
          have in134 : ¬ ((fr + (3 : Int32)) < 0 ∨ cl134.slots.size ≤ ((fr + (3 : Int32))).toNatClampNeg) := inb_of S134 (own_in3 hf (by rw [h4]; decide))
          have at134 : cl134.slots[((fr + (3 : Int32))).toNatClampNeg]? = some (.int (own_x x0 x1 x2 x3 (fr + (3 : Int32)))) := H134.at in134 (own_xat (own_in3 hf (by rw [h4]; decide)))
          refine stp (fun _ => X126.caload hx (j := (fr + (3 : Int32))) (v := (.int (own_x x0 x1 x2 x3 (fr + (3 : Int32))))) (by rw [e126]; exact Ar134.1) (State.isArrayOf_alike hZ.alike Ar134.2.1) Ar134.2.2 in134 at134 (g := (mkF m 130 #[.val (.ref ca), .val (.int fr), .val (.int n)] [(.int (fr + (3 : Int32))), (.ref ca), (.int (3 : Int32)), (.ref b99), (.ref b99), (.ref b94), (.ref b94)])) rfl rfl (hb hby d1_130) _) ?_
          show Go p e below T126 (mkF m 131 #[.val (.ref ca), .val (.int fr), .val (.int n)] [(.int (own_x x0 x1 x2 x3 (fr + (3 : Int32)))), (.int (3 : Int32)), (.ref b99), (.ref b99), (.ref b94), (.ref b94)]) _
          obtain ⟨cl135, Ar135, q135, S135, M135, H135, G135⟩ := (id V126)
          have in135 : ¬ ((3 : Int32) < 0 ∨ cl135.slots.size ≤ ((3 : Int32)).toNatClampNeg) := inb_of S135 ⟨by decide, by decide⟩
          obtain ⟨T135, h135, X135, e135, W135, st135⟩ := stC X126 hx hZ e126 Ar135 (j := (3 : Int32)) in135 (g := (mkF m 131 #[.val (.ref ca), .val (.int fr), .val (.int n)] [(.int (own_x x0 x1 x2 x3 (fr + (3 : Int32)))), (.int (3 : Int32)), (.ref b99), (.ref b99), (.ref b94), (.ref b94)])) rfl rfl (hb hby d1_131)
          have V135 : Arv Z h135 b99 k99 .char (4 : Int32) [(.int (own_x x0 x1 x2 x3 fr)), (.int (own_x x0 x1 x2 x3 (fr + (1 : Int32)))), (.int (own_x x0 x1 x2 x3 (fr + (2 : Int32)))), (.int (own_x x0 x1 x2 x3 (fr + (3 : Int32))))] (.int (0 : Int32)) := Arv.set Ar135 q135 S135 M135 H135 G135 (ow_fits_char (char255 (own_x_sm hx0 hx1 hx2 hx3 _))) (ow_wr_char (char255 (own_x_sm hx0 hx1 hx2 hx3 _)) W135) 3 rfl (Nat.le_of_ble_eq_true rfl)
          have f136 := f127.other W135 ne101
          have f137 := Safe.wr W135 (Safe.exa hZ.alike f132 (by decide) (by decide)) CR.1 f128
          have f138 := f129.wr W135
          have f139 := f130.other W135 (Or.inl ne100)
          have f140 := f131.other W135 (Or.inl ne100)
          have f141 := f132.wr W135
          have hk := Nat.le_trans hk (Keep.of_wr W135).1
          have CR := CR.trans (CHr.wr W135 (Safe.exa hZ.alike f132 (by decide) (by decide)) CR.1)
          have K135 : Keep h0 h135 [] := K126.wr W135 (Or.inr sz_b99)
          have O135 := O126.wr W135 ge_b99
          have N135 := Fr.snoc X135 N126 ge_b99
          refine stp st135 ?_
          show Go p e below T135 (mkF m 132 #[.val (.ref ca), .val (.int fr), .val (.int n)] [(.ref b99), (.ref b94), (.ref b94)]) _
          obtain ⟨_, _, ⟨T143, L143, k143, n143⟩, -, X143, ⟨Lc143, hQ143, l143, y143, z143⟩, st143⟩ := X135.specialBack hx (y := (⟨"java/lang/String", "<init>", "([C)V"⟩ : MethodName)) rfl hown (mvT hZ (hw _ (List.mem_of_getElem? (i := 8) rfl))) (mvT hZ (hw _ (List.mem_of_getElem? (i := 9) rfl))) (mvT hZ (hw _ (List.mem_of_getElem? (i := 10) rfl))) (by decide) (StrChars.Road.backV (W := 1) hZ hws (kI := 4) (hw _ (List.mem_of_getElem? (i := 6) rfl)) (cs := ([(own_x x0 x1 x2 x3 fr), (own_x x0 x1 x2 x3 (fr + (1 : Int32))), (own_x x0 x1 x2 x3 (fr + (2 : Int32))), (own_x x0 x1 x2 x3 (fr + (3 : Int32)))] : List Int32)) (bs := ([(own_x x0 x1 x2 x3 fr), (own_x x0 x1 x2 x3 (fr + (1 : Int32))), (own_x x0 x1 x2 x3 (fr + (2 : Int32))), (own_x x0 x1 x2 x3 (fr + (3 : Int32)))] : List Int32).map (fun c => c.toInt8.toInt32)) (n := 4) ge_b94 (old_le O135) f138 f140 f139 V135 (S_COMPACT_STRINGS.ext O135.2) hcz rfl rfl (by decide) (by decide) (own_sm1 (own_x_sm hx0 hx1 hx2 hx3 _) (own_sm1 (own_x_sm hx0 hx1 hx2 hx3 _) (own_sm1 (own_x_sm hx0 hx1 hx2 hx3 _) (own_sm1 (own_x_sm hx0 hx1 hx2 hx3 _) own_sm0)))) rfl (by decide) (by decide)) (g := (mkF m 132 #[.val (.ref ca), .val (.int fr), .val (.int n)] [(.ref b99), (.ref b94), (.ref b94)])) rfl (by rw [hml]; rfl) (Steps.refl _) (a := b94) (argsL := [(.ref b99)]) (rest := [(.ref b94)]) (lenOf pd_6 rfl) rfl (by show 2 * 0 + _ ≤ _; exact Nat.le_of_eq rfl) (hb hby d1_132) (fun _ _ => ⟨rfl, e135, (by decide : 2 + 1 ≤ _), (by decide : 8 + 4 ≤ _)⟩)
          dsimp only [Pt.U, Pt.locs, Pt.cells, Pt.slots] at X143 l143 y143 z143 st143 hQ143
          subst y143 z143
          obtain ⟨rfl, N143q, K143q, E143q, C143q, t143, kb143, ge_t143, sz143q, ne143q, F143q, V143q⟩ := hQ143
          have N143 : Fr n0 L143 := by rw [l143]; exact Fr.app N135 N143q
          have ne144 : b99 ≠ t143 := Nat.ne_of_lt (Nat.lt_of_lt_of_le f141.lt sz143q)
          have ne145 : ca ≠ t143 := Nat.ne_of_lt (Nat.lt_of_lt_of_le f136.lt sz143q)
          have f146 := f136.keep K143q (ninS ne95 nin0)
          have f147 := f137.keep K143q (sfS f137 sf0) CR.1
          have f148 := f141.keep K143q
          have f149 := V135.keep K143q (ninS (Ne.symm ne100) nin0)
          have hk := Nat.le_trans hk K143q.1
          have CR := CR.trans (CHr.keep K143q (sfS f137 sf0) CR.1)
          have K143 : Keep h0 T143.heap [] := K135.trans K143q (allS (Or.inr sz_b94) all0)
          have sz_t143 : h0.size ≤ t143 := Nat.le_trans K135.1 sz143q
          have O143 := O135.keep K143q (allS ge_b94 all0)
          have Q143 : StrIs Z T143.heap b94 ([(own_x x0 x1 x2 x3 fr), (own_x x0 x1 x2 x3 (fr + (1 : Int32))), (own_x x0 x1 x2 x3 (fr + (2 : Int32))), (own_x x0 x1 x2 x3 (fr + (3 : Int32)))] : List Int32) := StrIs.of E143q F143q C143q V143q rfl rfl (own_sm1 (own_x_sm hx0 hx1 hx2 hx3 _) (own_sm1 (own_x_sm hx0 hx1 hx2 hx3 _) (own_sm1 (own_x_sm hx0 hx1 hx2 hx3 _) (own_sm1 (own_x_sm hx0 hx1 hx2 hx3 _) own_sm0)))) (Nat.le_of_ble_eq_true rfl)
          refine stt st143 ?_
          show Go p e below T143 (mkF m 135 #[.val (.ref ca), .val (.int fr), .val (.int n)] [(.ref b94)]) _
          refine outAW X143 hx hZ hEL rfl hS hk CR hret rfl rfl (hb hby d1_135) hlk (by decide) (by decide) ?_
          exact ⟨b94, rfl, N143, K143, ⟨ge_b94, sz_b94⟩, (own_cs_of (by simp only [own_tk, if_pos q1_1, if_neg q17_2, if_neg q29_7, if_neg q59_46]) Q143)⟩
  · refine stp (fun _ => XS.ifNo X0.here hx rfl (hb hby d1_1) rfl (XT.i0_gt_f q1_1)) ?_
    show Go p e below T0 (mkF m 4 #[.val (.ref ca), .val (.int fr), .val (.int n)] []) _
    obtain ⟨T150, h150, X150, e150, E150, A150, D150, -, st150⟩ := newO X0 hx hZ hown (hw _ (List.mem_of_getElem? (i := 5) rfl)) (hw _ (List.mem_of_getElem? (i := 6) rfl)) (hw _ (List.mem_of_getElem? (i := 7) rfl)) e0 (g := (mkF m 4 #[.val (.ref ca), .val (.int fr), .val (.int n)] [])) rfl (hb hby d1_4) (by decide) (by decide)
    obtain ⟨b150, g150⟩ : ∃ z, z = h0.size := ⟨_, rfl⟩
    rw [← g150] at A150 D150 st150
    have ne151 : ca ≠ b150 := Nat.ne_of_lt (Nat.lt_of_lt_of_le V_ca.lt (Nat.le_of_eq g150.symm))
    have sz_b150 : h0.size ≤ b150 := Nat.le_trans (Keep.refl h0 []).1 (Nat.le_of_eq g150.symm)
    have ge_b150 : n0 ≤ b150 := Nat.le_trans (old_le O0) (Nat.le_of_eq g150.symm)
    have f152 := V_ca.ext E150
    have Sf150 := (Safe.new (Z := Z) (EL := consts_1) (Nat.le_of_eq g150.symm)).ext E150 CR.1
    have hk := Nat.le_trans hk E150.1
    have CR := CR.trans (CHr.ext E150 CR.1)
    have K150 : Keep h0 h150 [] := (Keep.refl h0 []).ext E150
    have O150 := O0.ext E150
    have F153 : Fld Z h150 b150 "java/lang/String" "coder" "B" (.int (0 : Int32)) := D150 (Or.inr (hw _ (List.mem_of_getElem? (i := 31) rfl))) (ty := .byte) (by decide)
    have F154 : Fld Z h150 b150 "java/lang/String" "value" "[B" .null := D150 (Or.inr (hw _ (List.mem_of_getElem? (i := 33) rfl))) (ty := (.array .byte)) (by decide)
    refine stp st150 ?_
    show Go p e below T150 (mkF m 7 #[.val (.ref ca), .val (.int fr), .val (.int n)] [(.ref b150)]) _
    refine stp (fun _ => XS.dup X150.here hx rfl (hb hby d1_7) rfl rfl) ?_
    show Go p e below T150 (mkF m 8 #[.val (.ref ca), .val (.int fr), .val (.int n)] [(.ref b150), (.ref b150)]) _
    refine stp (fun _ => XS.iconst X150.here hx rfl (hb hby d1_8)) ?_
    show Go p e below T150 (mkF m 9 #[.val (.ref ca), .val (.int fr), .val (.int n)] [(.int (0 : Int32)), (.ref b150), (.ref b150)]) _
    obtain ⟨T155, h155, k155, X155, e155, E155, A155, B155, st155⟩ := newPE X150 hx hZ (hw _ (List.mem_of_getElem? (i := 0) rfl)) e150 (g := (mkF m 9 #[.val (.ref ca), .val (.int fr), .val (.int n)] [(.int (0 : Int32)), (.ref b150), (.ref b150)])) rfl (hb hby d1_9) rfl (by decide) (cap := 0) (by decide) (by decide) (by decide) (by decide) (ad := "[C") (by decide)
    obtain ⟨b155, g155⟩ : ∃ z, z = h150.size := ⟨_, rfl⟩
    rw [← g155] at A155 B155 st155
    have ne156 : b150 ≠ b155 := Nat.ne_of_lt (Nat.lt_of_lt_of_le A150.lt (Nat.le_of_eq g155.symm))
    have ne157 : ca ≠ b155 := Nat.ne_of_lt (Nat.lt_of_lt_of_le f152.lt (Nat.le_of_eq g155.symm))
    have sz_b155 : h0.size ≤ b155 := Nat.le_trans K150.1 (Nat.le_of_eq g155.symm)
    have ge_b155 : n0 ≤ b155 := Nat.le_trans (old_le O150) (Nat.le_of_eq g155.symm)
    have f158 := f152.ext E155
    have f159 := Sf150.ext E155 CR.1
    have f160 := A150.ext E155
    have f161 := F153.ext E155
    have f162 := F154.ext E155
    have hk := Nat.le_trans hk E155.1
    have CR := CR.trans (CHr.ext E155 CR.1)
    have K155 : Keep h0 h155 [] := K150.ext E155
    have O155 := O150.ext E155
    have V155 : Arv Z h155 b155 k155 .char (0 : Int32) [] (.int (0 : Int32)) := (Arv.new A155 (by decide)).pad (pad_rep [] (.int (0 : Int32)) 0)
    refine stp st155 ?_
    show Go p e below T155 (mkF m 11 #[.val (.ref ca), .val (.int fr), .val (.int n)] [(.ref b155), (.ref b150), (.ref b150)]) _
    obtain ⟨_, _, ⟨T163, L163, k163, n163⟩, -, X163, hS163, gg163, ⟨Lc163, hQ163, l163, y163, z163, CRn163⟩, st163⟩ := X155.specialBackS hx (y := (⟨"java/lang/String", "<init>", "([C)V"⟩ : MethodName)) rfl hown (mvT hZ (hw _ (List.mem_of_getElem? (i := 8) rfl))) (mvT hZ (hw _ (List.mem_of_getElem? (i := 9) rfl))) (mvT hZ (hw _ (List.mem_of_getElem? (i := 10) rfl))) (by decide) (backOfSH (W := 1) (rm_s0 l Z a0 hw [] b150 b155 k155 h155 n0 O155 hEL f160 f162 f161 V155 ge_b150 (Ne.symm ne156)) hZ (hw _ (List.mem_of_getElem? (i := 10) rfl)) (hw _ (List.mem_of_getElem? (i := 7) rfl)) (by decide) (by decide) hEL CR.1) (g := (mkF m 11 #[.val (.ref ca), .val (.int fr), .val (.int n)] [(.ref b155), (.ref b150), (.ref b150)])) rfl (by rw [hml]; rfl) (Steps.refl _) (a := b150) (argsL := [(.ref b155)]) (rest := [(.ref b150)]) (lenOf pd_6 rfl) rfl (by show 2 * 0 + _ ≤ _; exact Nat.le_of_eq rfl) (hb hby d1_11) (fun _ _ => ⟨rfl, e155, (by decide : 2 + 2 ≤ _), (by decide : 4 + 4 ≤ _)⟩)
    dsimp only [Pt.U, Pt.locs, Pt.cells, Pt.slots] at X163 hS163 gg163 l163 y163 z163 st163 hQ163 CRn163
    subst y163 z163
    obtain ⟨X163, hS, hZ, hown⟩ := rebS hS (by rw [e155]; exact hk) X163 hS163 gg163 hZ hown
    obtain ⟨rfl, N163q, K163q, r163_0⟩ := hQ163
    have N163 : Fr n0 L163 := by rw [l163]; exact Fr.app N0 N163q
    have f164 := f158.keep K163q (ninS ne151 nin0)
    have f165 := CRn163.safe f162.lt f159
    have f166 := f160.keep K163q
    have f167 := B155.keep K163q
    have f168 := V155.keep K163q (ninS (Ne.symm ne156) nin0)
    have K163 : Keep h0 T163.heap [] := K155.trans K163q (allS (Or.inr sz_b150) all0)
    have O163 := O155.keep K163q (allS ge_b150 all0)
    have hk : T163.heap.size ≤ T163.heap.size := Nat.le_refl _
    have CR := CR.trans CRn163
    refine stt st163 ?_
    show Go p e below T163 (mkF m 14 #[.val (.ref ca), .val (.int fr), .val (.int n)] [(.ref b150)]) _
    refine outAW X163 hx hZ hEL rfl hS hk CR hret rfl rfl (hb hby d1_14) hlk (by decide) (by decide) ?_
    exact ⟨b150, rfl, N163, K163, ⟨ge_b150, sz_b150⟩, (own_cs_of (by simp only [own_tk, if_neg q1_1]) r163_0)⟩
theorem d13_0 : decode jdk_48_method_14_code 0 = .ok (.iconst 0, 1) := by decide +kernel
theorem d13_1 : decode jdk_48_method_14_code 1 = .ok (.istore 5, 2) := by decide +kernel
theorem d13_3 : decode jdk_48_method_14_code 3 = .ok (.iload 4, 2) := by decide +kernel
theorem d13_5 : decode jdk_48_method_14_code 5 = .ok (.bipush 7, 2) := by decide +kernel
theorem d13_7 : decode jdk_48_method_14_code 7 = .ok (.if_icmp .le 63, 3) := by decide +kernel
theorem d13_70 : decode jdk_48_method_14_code 70 = .ok (.iload 5, 2) := by decide +kernel
theorem d13_72 : decode jdk_48_method_14_code 72 = .ok (.iload 4, 2) := by decide +kernel
theorem d13_74 : decode jdk_48_method_14_code 74 = .ok (.if_icmp .ge 27, 3) := by decide +kernel
theorem d13_101 : decode jdk_48_method_14_code 101 = .ok (.iconst (-1), 1) := by decide +kernel
theorem d13_102 : decode jdk_48_method_14_code 102 = .ok (.ireturn, 1) := by decide +kernel
theorem d13_77 : decode jdk_48_method_14_code 77 = .ok (.aload_n 0, 1) := by decide +kernel
theorem d13_78 : decode jdk_48_method_14_code 78 = .ok (.iload_n 1, 1) := by decide +kernel
theorem d13_79 : decode jdk_48_method_14_code 79 = .ok (.iload 5, 2) := by decide +kernel
theorem d13_81 : decode jdk_48_method_14_code 81 = .ok (.iadd, 1) := by decide +kernel
theorem d13_82 : decode jdk_48_method_14_code 82 = .ok (.baload, 1) := by decide +kernel
theorem d13_83 : decode jdk_48_method_14_code 83 = .ok (.aload_n 2, 1) := by decide +kernel
theorem d13_84 : decode jdk_48_method_14_code 84 = .ok (.iload_n 3, 1) := by decide +kernel
theorem d13_85 : decode jdk_48_method_14_code 85 = .ok (.iload 5, 2) := by decide +kernel
theorem d13_87 : decode jdk_48_method_14_code 87 = .ok (.iadd, 1) := by decide +kernel
theorem d13_88 : decode jdk_48_method_14_code 88 = .ok (.baload, 1) := by decide +kernel
theorem d13_89 : decode jdk_48_method_14_code 89 = .ok (.if_icmp .eq 6, 3) := by decide +kernel
theorem d13_95 : decode jdk_48_method_14_code 95 = .ok (.iinc 5 1, 3) := by decide +kernel
theorem d13_98 : decode jdk_48_method_14_code 98 = .ok (.goto (-28), 3) := by decide +kernel
theorem ef_rm_mm (m : MethodId) (va : Addr) (pz : Int32) (vb : Addr) (n : Int32)  : entryFrame m #[(.ref va), (.int pz), (.ref vb), (.int (0 : Int32)), (.int n)] 8 = mkF m 0 #[.val (.ref va), .val (.int pz), .val (.ref vb), .val (.int (0 : Int32)), .val (.int n), .unset, .unset, .unset] [] := by first | (simp [entryFrame, mkF, argsToLocals, Value.category]; done) | rfl
def Q_rm_mm (Z : State) (va : Addr) (pz : Int32) (vb : Addr) (n : Int32) (na : Nat) (fa : Nat → Int32) (nb : Nat) (fb : Nat → Int32) (pn : Nat) (k_va : ClassId) (k_vb : ClassId) (h0 : Heap) (n0 : Nat) (v : Option Value) (h : Heap) (L : List Loc) : Prop := v = some (.int (-1 : Int32)) ∧ Fr n0 L ∧ h = h0
theorem pn_9_ : plainName "jdk/internal/util/ArraysSupport" = true := by first | (simp [plainName, overriddenIn]; done) | decide +kernel
theorem pn_9 : plainFor (⟨"jdk/internal/util/ArraysSupport", "mismatch", "([BI[BII)I"⟩ : MethodName) = true := plainFor_of_name pn_9_
set_option maxRecDepth 65536 in
set_option maxHeartbeats 40000000 in
theorem rm_mm (l : Launch) (Z : State) (a0 : Array Value) (hw : ∀ d ∈ tables_1, d.before a0 Z = true) (ws : List Jvm.Cond) (va : Addr) (pz : Int32) (vb : Addr) (n : Int32) (na : Nat) (fa : Nat → Int32) (nb : Nat) (fb : Nat → Int32) (pn : Nat) (k_va : ClassId) (k_vb : ClassId) (h0 : Heap) (n0 : Nat) (O0 : Old Z n0 h0) (V_va : Arf Z h0 va k_va .byte na (fun i => (.int (fa i)))) (V_vb : Arf Z h0 vb k_vb .byte nb (fun i => (.int (fb i)))) (hp : pz.toInt = (pn : Int)) (hn : n = 0 ∨ n = 1 ∨ n = 2 ∨ n = 3 ∨ n = 4) (hb_ : n.toInt = (nb : Int)) (ha_ : pn + nb ≤ na) (he : ∀ i, i < nb → fa (pn + i) = fb i) (hna : na ≤ 4000) :
    MetFree l (⟨"jdk/internal/util/ArraysSupport", "mismatch", "([BI[BII)I"⟩ : MethodName) (head1 (Jvm.Cond.code (⟨"jdk/internal/util/ArraysSupport", "mismatch", "([BI[BII)I"⟩ : MethodName) jdk_48_method_14_code 8 (some .int) :: ws) ({ frames := 0, cells := 0, slots := 0, locals := 0 } : Room)) (fun args_ U => args_ = #[(.ref va), (.int pz), (.ref vb), (.int (0 : Int32)), (.int n)] ∧ Z.Warmed39 U.vm ∧ U.heap = h0) (fun _ _ _ _ _ => True) (fun _ U out_ U' => ∃ val_ loc_, out_ = .returned val_ ∧ (Q_rm_mm Z va pz vb n na fa nb fb pn k_va k_vb h0 n0) val_ U'.heap loc_ ∧ FrameEnd U out_ U' loc_ ({ frames := 0, cells := 0, slots := 0, locals := 0 } : Room).cells ({ frames := 0, cells := 0, slots := 0, locals := 0 } : Room).slots) := by
  refine start (Q := (Q_rm_mm Z va pz vb n na fa nb fb pn k_va k_vb h0 n0)) pn_9 ?_
  intro p e s m below meth c T0 X0 hx hby hml hown hnm hret hlk hZ e0
  replace hown : s.vm.findClass "jdk/internal/util/ArraysSupport" = some m.cls := hown
  replace hml : c.maxLocals = 8 := hml
  refine goAt (ef_rm_mm m va pz vb n ) ?_
  have N0 := Fr.nil n0
  show Go p e below T0 (mkF m 0 #[.val (.ref va), .val (.int pz), .val (.ref vb), .val (.int (0 : Int32)), .val (.int n), .unset, .unset, .unset] []) _
  refine stp (fun _ => XS.iconst X0.here hx rfl (hb hby d13_0)) ?_
  show Go p e below T0 (mkF m 1 #[.val (.ref va), .val (.int pz), .val (.ref vb), .val (.int (0 : Int32)), .val (.int n), .unset, .unset, .unset] [(.int (0 : Int32))]) _
  refine stp (fun _ => XS.istore X0.here hx rfl (hb hby d13_1) rfl (l' := #[.val (.ref va), .val (.int pz), .val (.ref vb), .val (.int (0 : Int32)), .val (.int n), .val (.int (0 : Int32)), .unset, .unset]) rfl) ?_
  show Go p e below T0 (mkF m 3 #[.val (.ref va), .val (.int pz), .val (.ref vb), .val (.int (0 : Int32)), .val (.int n), .val (.int (0 : Int32)), .unset, .unset] []) _
  refine stp (fun _ => XS.iload X0.here hx rfl (hb hby d13_3) rfl) ?_
  show Go p e below T0 (mkF m 5 #[.val (.ref va), .val (.int pz), .val (.ref vb), .val (.int (0 : Int32)), .val (.int n), .val (.int (0 : Int32)), .unset, .unset] [(.int n)]) _
  refine stp (fun _ => XS.bipush X0.here hx rfl (hb hby d13_5)) ?_
  show Go p e below T0 (mkF m 7 #[.val (.ref va), .val (.int pz), .val (.ref vb), .val (.int (0 : Int32)), .val (.int n), .val (.int (0 : Int32)), .unset, .unset] [(.int (7 : Int32)), (.int n)]) _
  refine stp (fun _ => XS.icmpYes X0.here hx rfl (pc0 := 7) (pc' := 70) rfl (hb hby d13_7) rfl (XT.ii_le_t (own_le7 hn)) (by decide) (by decide)) ?_
  show Go p e below T0 (mkF m 70 #[.val (.ref va), .val (.int pz), .val (.ref vb), .val (.int (0 : Int32)), .val (.int n), .val (.int (0 : Int32)), .unset, .unset] []) _
  rcases hn with rfl | rfl | rfl | rfl | rfl
  · obtain rfl : nb = 0 := own_nb (k := 0) hb_ (by decide)
    show Go p e below T0 (mkF m 70 #[.val (.ref va), .val (.int pz), .val (.ref vb), .val (.int (0 : Int32)), .val (.int (0 : Int32)), .val (.int (0 : Int32)), .unset, .unset] []) _
    refine stp (fun _ => XS.iload X0.here hx rfl (hb hby d13_70) rfl) ?_
    show Go p e below T0 (mkF m 72 #[.val (.ref va), .val (.int pz), .val (.ref vb), .val (.int (0 : Int32)), .val (.int (0 : Int32)), .val (.int (0 : Int32)), .unset, .unset] [(.int (0 : Int32))]) _
    refine stp (fun _ => XS.iload X0.here hx rfl (hb hby d13_72) rfl) ?_
    show Go p e below T0 (mkF m 74 #[.val (.ref va), .val (.int pz), .val (.ref vb), .val (.int (0 : Int32)), .val (.int (0 : Int32)), .val (.int (0 : Int32)), .unset, .unset] [(.int (0 : Int32)), (.int (0 : Int32))]) _
    refine stp (fun _ => XS.icmpYes X0.here hx rfl (pc0 := 74) (pc' := 101) rfl (hb hby d13_74) rfl (by decide) (by decide) (by decide)) ?_
    show Go p e below T0 (mkF m 101 #[.val (.ref va), .val (.int pz), .val (.ref vb), .val (.int (0 : Int32)), .val (.int (0 : Int32)), .val (.int (0 : Int32)), .unset, .unset] []) _
    refine stp (fun _ => XS.iconst X0.here hx rfl (hb hby d13_101)) ?_
    show Go p e below T0 (mkF m 102 #[.val (.ref va), .val (.int pz), .val (.ref vb), .val (.int (0 : Int32)), .val (.int (0 : Int32)), .val (.int (0 : Int32)), .unset, .unset] [(.int (-1 : Int32))]) _
    refine outI X0 hx hret (hb hby d13_102) hlk (by decide) (by decide) ?_
    exact ⟨rfl, N0, e0⟩
  · obtain rfl : nb = 1 := own_nb (k := 1) hb_ (by decide)
    show Go p e below T0 (mkF m 70 #[.val (.ref va), .val (.int pz), .val (.ref vb), .val (.int (0 : Int32)), .val (.int (1 : Int32)), .val (.int (0 : Int32)), .unset, .unset] []) _
    refine stp (fun _ => XS.iload X0.here hx rfl (hb hby d13_70) rfl) ?_
    show Go p e below T0 (mkF m 72 #[.val (.ref va), .val (.int pz), .val (.ref vb), .val (.int (0 : Int32)), .val (.int (1 : Int32)), .val (.int (0 : Int32)), .unset, .unset] [(.int (0 : Int32))]) _
    refine stp (fun _ => XS.iload X0.here hx rfl (hb hby d13_72) rfl) ?_
    show Go p e below T0 (mkF m 74 #[.val (.ref va), .val (.int pz), .val (.ref vb), .val (.int (0 : Int32)), .val (.int (1 : Int32)), .val (.int (0 : Int32)), .unset, .unset] [(.int (1 : Int32)), (.int (0 : Int32))]) _
    refine stp (fun _ => XS.icmpNo X0.here hx rfl (hb hby d13_74) rfl (by decide)) ?_
    show Go p e below T0 (mkF m 77 #[.val (.ref va), .val (.int pz), .val (.ref vb), .val (.int (0 : Int32)), .val (.int (1 : Int32)), .val (.int (0 : Int32)), .unset, .unset] []) _
    refine stp (fun _ => XS.aloadN X0.here hx rfl (hb hby d13_77) rfl rfl) ?_
    show Go p e below T0 (mkF m 78 #[.val (.ref va), .val (.int pz), .val (.ref vb), .val (.int (0 : Int32)), .val (.int (1 : Int32)), .val (.int (0 : Int32)), .unset, .unset] [(.ref va)]) _
    refine stp (fun _ => XS.iloadN X0.here hx rfl (hb hby d13_78) rfl) ?_
    show Go p e below T0 (mkF m 79 #[.val (.ref va), .val (.int pz), .val (.ref vb), .val (.int (0 : Int32)), .val (.int (1 : Int32)), .val (.int (0 : Int32)), .unset, .unset] [(.int pz), (.ref va)]) _
    refine stp (fun _ => XS.iload X0.here hx rfl (hb hby d13_79) rfl) ?_
    show Go p e below T0 (mkF m 81 #[.val (.ref va), .val (.int pz), .val (.ref vb), .val (.int (0 : Int32)), .val (.int (1 : Int32)), .val (.int (0 : Int32)), .unset, .unset] [(.int (0 : Int32)), (.int pz), (.ref va)]) _
    refine stp (fun _ => XS.iadd X0.here hx rfl (hb hby d13_81) rfl) ?_
    show Go p e below T0 (mkF m 82 #[.val (.ref va), .val (.int pz), .val (.ref vb), .val (.int (0 : Int32)), .val (.int (1 : Int32)), .val (.int (0 : Int32)), .unset, .unset] [(.int (pz + (0 : Int32))), (.ref va)]) _
    obtain ⟨cl1, Ar1, q1, S1, H1, G1⟩ := (id V_va)
    have in1 : ¬ ((pz + (0 : Int32)) < 0 ∨ cl1.slots.size ≤ ((pz + (0 : Int32))).toNatClampNeg) := arf_in S1 (own_addI (i := 0) hp (by decide) (by omega)) (by omega)
    have at1 : cl1.slots[((pz + (0 : Int32))).toNatClampNeg]? = some (.int (fa (pn + 0))) := arf_at H1 (own_addI (i := 0) hp (by decide) (by omega)) (by omega)
    refine stp (fun _ => X0.baloadBytes hx (j := (pz + (0 : Int32))) (v := (.int (fa (pn + 0)))) (by rw [e0]; exact Ar1.1) (State.isArrayOf_alike hZ.alike Ar1.2.1) Ar1.2.2 in1 at1 (g := (mkF m 82 #[.val (.ref va), .val (.int pz), .val (.ref vb), .val (.int (0 : Int32)), .val (.int (1 : Int32)), .val (.int (0 : Int32)), .unset, .unset] [(.int (pz + (0 : Int32))), (.ref va)])) rfl rfl (hb hby d13_82) _) ?_
    show Go p e below T0 (mkF m 83 #[.val (.ref va), .val (.int pz), .val (.ref vb), .val (.int (0 : Int32)), .val (.int (1 : Int32)), .val (.int (0 : Int32)), .unset, .unset] [(.int (fa (pn + 0)))]) _
    refine stp (fun _ => XS.aloadN X0.here hx rfl (hb hby d13_83) rfl rfl) ?_
    show Go p e below T0 (mkF m 84 #[.val (.ref va), .val (.int pz), .val (.ref vb), .val (.int (0 : Int32)), .val (.int (1 : Int32)), .val (.int (0 : Int32)), .unset, .unset] [(.ref vb), (.int (fa (pn + 0)))]) _
    refine stp (fun _ => XS.iloadN X0.here hx rfl (hb hby d13_84) rfl) ?_
    show Go p e below T0 (mkF m 85 #[.val (.ref va), .val (.int pz), .val (.ref vb), .val (.int (0 : Int32)), .val (.int (1 : Int32)), .val (.int (0 : Int32)), .unset, .unset] [(.int (0 : Int32)), (.ref vb), (.int (fa (pn + 0)))]) _
    refine stp (fun _ => XS.iload X0.here hx rfl (hb hby d13_85) rfl) ?_
    show Go p e below T0 (mkF m 87 #[.val (.ref va), .val (.int pz), .val (.ref vb), .val (.int (0 : Int32)), .val (.int (1 : Int32)), .val (.int (0 : Int32)), .unset, .unset] [(.int (0 : Int32)), (.int (0 : Int32)), (.ref vb), (.int (fa (pn + 0)))]) _
    refine stp (fun _ => XS.iadd X0.here hx rfl (hb hby d13_87) rfl) ?_
    show Go p e below T0 (mkF m 88 #[.val (.ref va), .val (.int pz), .val (.ref vb), .val (.int (0 : Int32)), .val (.int (1 : Int32)), .val (.int (0 : Int32)), .unset, .unset] [(.int (0 : Int32)), (.ref vb), (.int (fa (pn + 0)))]) _
    obtain ⟨cl2, Ar2, q2, S2, H2, G2⟩ := (id V_vb)
    have in2 : ¬ ((0 : Int32) < 0 ∨ cl2.slots.size ≤ ((0 : Int32)).toNatClampNeg) := arf_in S2 (show (0 : Int32).toInt = ((0 : Nat) : Int) from rfl) (by decide)
    have at2 : cl2.slots[((0 : Int32)).toNatClampNeg]? = some (.int (fb 0)) := arf_at H2 (show (0 : Int32).toInt = ((0 : Nat) : Int) from rfl) (by decide)
    refine stp (fun _ => X0.baloadBytes hx (j := (0 : Int32)) (v := (.int (fb 0))) (by rw [e0]; exact Ar2.1) (State.isArrayOf_alike hZ.alike Ar2.2.1) Ar2.2.2 in2 at2 (g := (mkF m 88 #[.val (.ref va), .val (.int pz), .val (.ref vb), .val (.int (0 : Int32)), .val (.int (1 : Int32)), .val (.int (0 : Int32)), .unset, .unset] [(.int (0 : Int32)), (.ref vb), (.int (fa (pn + 0)))])) rfl rfl (hb hby d13_88) _) ?_
    show Go p e below T0 (mkF m 89 #[.val (.ref va), .val (.int pz), .val (.ref vb), .val (.int (0 : Int32)), .val (.int (1 : Int32)), .val (.int (0 : Int32)), .unset, .unset] [(.int (fb 0)), (.int (fa (pn + 0)))]) _
    refine stp (fun _ => XS.icmpYes X0.here hx rfl (pc0 := 89) (pc' := 95) rfl (hb hby d13_89) rfl (XT.ii_eq_t (he 0 (by decide))) (by decide) (by decide)) ?_
    show Go p e below T0 (mkF m 95 #[.val (.ref va), .val (.int pz), .val (.ref vb), .val (.int (0 : Int32)), .val (.int (1 : Int32)), .val (.int (0 : Int32)), .unset, .unset] []) _
    refine stp (fun _ => XS.iinc X0.here hx rfl (hb hby d13_95) rfl (l' := #[.val (.ref va), .val (.int pz), .val (.ref vb), .val (.int (0 : Int32)), .val (.int (1 : Int32)), .val (.int (1 : Int32)), .unset, .unset]) rfl) ?_
    show Go p e below T0 (mkF m 98 #[.val (.ref va), .val (.int pz), .val (.ref vb), .val (.int (0 : Int32)), .val (.int (1 : Int32)), .val (.int (1 : Int32)), .unset, .unset] []) _
    refine stp (fun _ => XS.goto X0.here hx rfl (pc0 := 98) (pc' := 70) rfl (hb hby d13_98) (by decide) (by decide)) ?_
    show Go p e below T0 (mkF m 70 #[.val (.ref va), .val (.int pz), .val (.ref vb), .val (.int (0 : Int32)), .val (.int (1 : Int32)), .val (.int (1 : Int32)), .unset, .unset] []) _
    refine stp (fun _ => XS.iload X0.here hx rfl (hb hby d13_70) rfl) ?_
    show Go p e below T0 (mkF m 72 #[.val (.ref va), .val (.int pz), .val (.ref vb), .val (.int (0 : Int32)), .val (.int (1 : Int32)), .val (.int (1 : Int32)), .unset, .unset] [(.int (1 : Int32))]) _
    refine stp (fun _ => XS.iload X0.here hx rfl (hb hby d13_72) rfl) ?_
    show Go p e below T0 (mkF m 74 #[.val (.ref va), .val (.int pz), .val (.ref vb), .val (.int (0 : Int32)), .val (.int (1 : Int32)), .val (.int (1 : Int32)), .unset, .unset] [(.int (1 : Int32)), (.int (1 : Int32))]) _
    refine stp (fun _ => XS.icmpYes X0.here hx rfl (pc0 := 74) (pc' := 101) rfl (hb hby d13_74) rfl (by decide) (by decide) (by decide)) ?_
    show Go p e below T0 (mkF m 101 #[.val (.ref va), .val (.int pz), .val (.ref vb), .val (.int (0 : Int32)), .val (.int (1 : Int32)), .val (.int (1 : Int32)), .unset, .unset] []) _
    refine stp (fun _ => XS.iconst X0.here hx rfl (hb hby d13_101)) ?_
    show Go p e below T0 (mkF m 102 #[.val (.ref va), .val (.int pz), .val (.ref vb), .val (.int (0 : Int32)), .val (.int (1 : Int32)), .val (.int (1 : Int32)), .unset, .unset] [(.int (-1 : Int32))]) _
    refine outI X0 hx hret (hb hby d13_102) hlk (by decide) (by decide) ?_
    exact ⟨rfl, N0, e0⟩
  · obtain rfl : nb = 2 := own_nb (k := 2) hb_ (by decide)
    show Go p e below T0 (mkF m 70 #[.val (.ref va), .val (.int pz), .val (.ref vb), .val (.int (0 : Int32)), .val (.int (2 : Int32)), .val (.int (0 : Int32)), .unset, .unset] []) _
    refine stp (fun _ => XS.iload X0.here hx rfl (hb hby d13_70) rfl) ?_
    show Go p e below T0 (mkF m 72 #[.val (.ref va), .val (.int pz), .val (.ref vb), .val (.int (0 : Int32)), .val (.int (2 : Int32)), .val (.int (0 : Int32)), .unset, .unset] [(.int (0 : Int32))]) _
    refine stp (fun _ => XS.iload X0.here hx rfl (hb hby d13_72) rfl) ?_
    show Go p e below T0 (mkF m 74 #[.val (.ref va), .val (.int pz), .val (.ref vb), .val (.int (0 : Int32)), .val (.int (2 : Int32)), .val (.int (0 : Int32)), .unset, .unset] [(.int (2 : Int32)), (.int (0 : Int32))]) _
    refine stp (fun _ => XS.icmpNo X0.here hx rfl (hb hby d13_74) rfl (by decide)) ?_
    show Go p e below T0 (mkF m 77 #[.val (.ref va), .val (.int pz), .val (.ref vb), .val (.int (0 : Int32)), .val (.int (2 : Int32)), .val (.int (0 : Int32)), .unset, .unset] []) _
    refine stp (fun _ => XS.aloadN X0.here hx rfl (hb hby d13_77) rfl rfl) ?_
    show Go p e below T0 (mkF m 78 #[.val (.ref va), .val (.int pz), .val (.ref vb), .val (.int (0 : Int32)), .val (.int (2 : Int32)), .val (.int (0 : Int32)), .unset, .unset] [(.ref va)]) _
    refine stp (fun _ => XS.iloadN X0.here hx rfl (hb hby d13_78) rfl) ?_
    show Go p e below T0 (mkF m 79 #[.val (.ref va), .val (.int pz), .val (.ref vb), .val (.int (0 : Int32)), .val (.int (2 : Int32)), .val (.int (0 : Int32)), .unset, .unset] [(.int pz), (.ref va)]) _
    refine stp (fun _ => XS.iload X0.here hx rfl (hb hby d13_79) rfl) ?_
    show Go p e below T0 (mkF m 81 #[.val (.ref va), .val (.int pz), .val (.ref vb), .val (.int (0 : Int32)), .val (.int (2 : Int32)), .val (.int (0 : Int32)), .unset, .unset] [(.int (0 : Int32)), (.int pz), (.ref va)]) _
    refine stp (fun _ => XS.iadd X0.here hx rfl (hb hby d13_81) rfl) ?_
    show Go p e below T0 (mkF m 82 #[.val (.ref va), .val (.int pz), .val (.ref vb), .val (.int (0 : Int32)), .val (.int (2 : Int32)), .val (.int (0 : Int32)), .unset, .unset] [(.int (pz + (0 : Int32))), (.ref va)]) _
    obtain ⟨cl3, Ar3, q3, S3, H3, G3⟩ := (id V_va)
    have in3 : ¬ ((pz + (0 : Int32)) < 0 ∨ cl3.slots.size ≤ ((pz + (0 : Int32))).toNatClampNeg) := arf_in S3 (own_addI (i := 0) hp (by decide) (by omega)) (by omega)
    have at3 : cl3.slots[((pz + (0 : Int32))).toNatClampNeg]? = some (.int (fa (pn + 0))) := arf_at H3 (own_addI (i := 0) hp (by decide) (by omega)) (by omega)
    refine stp (fun _ => X0.baloadBytes hx (j := (pz + (0 : Int32))) (v := (.int (fa (pn + 0)))) (by rw [e0]; exact Ar3.1) (State.isArrayOf_alike hZ.alike Ar3.2.1) Ar3.2.2 in3 at3 (g := (mkF m 82 #[.val (.ref va), .val (.int pz), .val (.ref vb), .val (.int (0 : Int32)), .val (.int (2 : Int32)), .val (.int (0 : Int32)), .unset, .unset] [(.int (pz + (0 : Int32))), (.ref va)])) rfl rfl (hb hby d13_82) _) ?_
    show Go p e below T0 (mkF m 83 #[.val (.ref va), .val (.int pz), .val (.ref vb), .val (.int (0 : Int32)), .val (.int (2 : Int32)), .val (.int (0 : Int32)), .unset, .unset] [(.int (fa (pn + 0)))]) _
    refine stp (fun _ => XS.aloadN X0.here hx rfl (hb hby d13_83) rfl rfl) ?_
    show Go p e below T0 (mkF m 84 #[.val (.ref va), .val (.int pz), .val (.ref vb), .val (.int (0 : Int32)), .val (.int (2 : Int32)), .val (.int (0 : Int32)), .unset, .unset] [(.ref vb), (.int (fa (pn + 0)))]) _
    refine stp (fun _ => XS.iloadN X0.here hx rfl (hb hby d13_84) rfl) ?_
    show Go p e below T0 (mkF m 85 #[.val (.ref va), .val (.int pz), .val (.ref vb), .val (.int (0 : Int32)), .val (.int (2 : Int32)), .val (.int (0 : Int32)), .unset, .unset] [(.int (0 : Int32)), (.ref vb), (.int (fa (pn + 0)))]) _
    refine stp (fun _ => XS.iload X0.here hx rfl (hb hby d13_85) rfl) ?_
    show Go p e below T0 (mkF m 87 #[.val (.ref va), .val (.int pz), .val (.ref vb), .val (.int (0 : Int32)), .val (.int (2 : Int32)), .val (.int (0 : Int32)), .unset, .unset] [(.int (0 : Int32)), (.int (0 : Int32)), (.ref vb), (.int (fa (pn + 0)))]) _
    refine stp (fun _ => XS.iadd X0.here hx rfl (hb hby d13_87) rfl) ?_
    show Go p e below T0 (mkF m 88 #[.val (.ref va), .val (.int pz), .val (.ref vb), .val (.int (0 : Int32)), .val (.int (2 : Int32)), .val (.int (0 : Int32)), .unset, .unset] [(.int (0 : Int32)), (.ref vb), (.int (fa (pn + 0)))]) _
    obtain ⟨cl4, Ar4, q4, S4, H4, G4⟩ := (id V_vb)
    have in4 : ¬ ((0 : Int32) < 0 ∨ cl4.slots.size ≤ ((0 : Int32)).toNatClampNeg) := arf_in S4 (show (0 : Int32).toInt = ((0 : Nat) : Int) from rfl) (by decide)
    have at4 : cl4.slots[((0 : Int32)).toNatClampNeg]? = some (.int (fb 0)) := arf_at H4 (show (0 : Int32).toInt = ((0 : Nat) : Int) from rfl) (by decide)
    refine stp (fun _ => X0.baloadBytes hx (j := (0 : Int32)) (v := (.int (fb 0))) (by rw [e0]; exact Ar4.1) (State.isArrayOf_alike hZ.alike Ar4.2.1) Ar4.2.2 in4 at4 (g := (mkF m 88 #[.val (.ref va), .val (.int pz), .val (.ref vb), .val (.int (0 : Int32)), .val (.int (2 : Int32)), .val (.int (0 : Int32)), .unset, .unset] [(.int (0 : Int32)), (.ref vb), (.int (fa (pn + 0)))])) rfl rfl (hb hby d13_88) _) ?_
    show Go p e below T0 (mkF m 89 #[.val (.ref va), .val (.int pz), .val (.ref vb), .val (.int (0 : Int32)), .val (.int (2 : Int32)), .val (.int (0 : Int32)), .unset, .unset] [(.int (fb 0)), (.int (fa (pn + 0)))]) _
    refine stp (fun _ => XS.icmpYes X0.here hx rfl (pc0 := 89) (pc' := 95) rfl (hb hby d13_89) rfl (XT.ii_eq_t (he 0 (by decide))) (by decide) (by decide)) ?_
    show Go p e below T0 (mkF m 95 #[.val (.ref va), .val (.int pz), .val (.ref vb), .val (.int (0 : Int32)), .val (.int (2 : Int32)), .val (.int (0 : Int32)), .unset, .unset] []) _
    refine stp (fun _ => XS.iinc X0.here hx rfl (hb hby d13_95) rfl (l' := #[.val (.ref va), .val (.int pz), .val (.ref vb), .val (.int (0 : Int32)), .val (.int (2 : Int32)), .val (.int (1 : Int32)), .unset, .unset]) rfl) ?_
    show Go p e below T0 (mkF m 98 #[.val (.ref va), .val (.int pz), .val (.ref vb), .val (.int (0 : Int32)), .val (.int (2 : Int32)), .val (.int (1 : Int32)), .unset, .unset] []) _
    refine stp (fun _ => XS.goto X0.here hx rfl (pc0 := 98) (pc' := 70) rfl (hb hby d13_98) (by decide) (by decide)) ?_
    show Go p e below T0 (mkF m 70 #[.val (.ref va), .val (.int pz), .val (.ref vb), .val (.int (0 : Int32)), .val (.int (2 : Int32)), .val (.int (1 : Int32)), .unset, .unset] []) _
    refine stp (fun _ => XS.iload X0.here hx rfl (hb hby d13_70) rfl) ?_
    show Go p e below T0 (mkF m 72 #[.val (.ref va), .val (.int pz), .val (.ref vb), .val (.int (0 : Int32)), .val (.int (2 : Int32)), .val (.int (1 : Int32)), .unset, .unset] [(.int (1 : Int32))]) _
    refine stp (fun _ => XS.iload X0.here hx rfl (hb hby d13_72) rfl) ?_
    show Go p e below T0 (mkF m 74 #[.val (.ref va), .val (.int pz), .val (.ref vb), .val (.int (0 : Int32)), .val (.int (2 : Int32)), .val (.int (1 : Int32)), .unset, .unset] [(.int (2 : Int32)), (.int (1 : Int32))]) _
    refine stp (fun _ => XS.icmpNo X0.here hx rfl (hb hby d13_74) rfl (by decide)) ?_
    show Go p e below T0 (mkF m 77 #[.val (.ref va), .val (.int pz), .val (.ref vb), .val (.int (0 : Int32)), .val (.int (2 : Int32)), .val (.int (1 : Int32)), .unset, .unset] []) _
    refine stp (fun _ => XS.aloadN X0.here hx rfl (hb hby d13_77) rfl rfl) ?_
    show Go p e below T0 (mkF m 78 #[.val (.ref va), .val (.int pz), .val (.ref vb), .val (.int (0 : Int32)), .val (.int (2 : Int32)), .val (.int (1 : Int32)), .unset, .unset] [(.ref va)]) _
    refine stp (fun _ => XS.iloadN X0.here hx rfl (hb hby d13_78) rfl) ?_
    show Go p e below T0 (mkF m 79 #[.val (.ref va), .val (.int pz), .val (.ref vb), .val (.int (0 : Int32)), .val (.int (2 : Int32)), .val (.int (1 : Int32)), .unset, .unset] [(.int pz), (.ref va)]) _
    refine stp (fun _ => XS.iload X0.here hx rfl (hb hby d13_79) rfl) ?_
    show Go p e below T0 (mkF m 81 #[.val (.ref va), .val (.int pz), .val (.ref vb), .val (.int (0 : Int32)), .val (.int (2 : Int32)), .val (.int (1 : Int32)), .unset, .unset] [(.int (1 : Int32)), (.int pz), (.ref va)]) _
    refine stp (fun _ => XS.iadd X0.here hx rfl (hb hby d13_81) rfl) ?_
    show Go p e below T0 (mkF m 82 #[.val (.ref va), .val (.int pz), .val (.ref vb), .val (.int (0 : Int32)), .val (.int (2 : Int32)), .val (.int (1 : Int32)), .unset, .unset] [(.int (pz + (1 : Int32))), (.ref va)]) _
    obtain ⟨cl5, Ar5, q5, S5, H5, G5⟩ := (id V_va)
    have in5 : ¬ ((pz + (1 : Int32)) < 0 ∨ cl5.slots.size ≤ ((pz + (1 : Int32))).toNatClampNeg) := arf_in S5 (own_addI (i := 1) hp (by decide) (by omega)) (by omega)
    have at5 : cl5.slots[((pz + (1 : Int32))).toNatClampNeg]? = some (.int (fa (pn + 1))) := arf_at H5 (own_addI (i := 1) hp (by decide) (by omega)) (by omega)
    refine stp (fun _ => X0.baloadBytes hx (j := (pz + (1 : Int32))) (v := (.int (fa (pn + 1)))) (by rw [e0]; exact Ar5.1) (State.isArrayOf_alike hZ.alike Ar5.2.1) Ar5.2.2 in5 at5 (g := (mkF m 82 #[.val (.ref va), .val (.int pz), .val (.ref vb), .val (.int (0 : Int32)), .val (.int (2 : Int32)), .val (.int (1 : Int32)), .unset, .unset] [(.int (pz + (1 : Int32))), (.ref va)])) rfl rfl (hb hby d13_82) _) ?_
    show Go p e below T0 (mkF m 83 #[.val (.ref va), .val (.int pz), .val (.ref vb), .val (.int (0 : Int32)), .val (.int (2 : Int32)), .val (.int (1 : Int32)), .unset, .unset] [(.int (fa (pn + 1)))]) _
    refine stp (fun _ => XS.aloadN X0.here hx rfl (hb hby d13_83) rfl rfl) ?_
    show Go p e below T0 (mkF m 84 #[.val (.ref va), .val (.int pz), .val (.ref vb), .val (.int (0 : Int32)), .val (.int (2 : Int32)), .val (.int (1 : Int32)), .unset, .unset] [(.ref vb), (.int (fa (pn + 1)))]) _
    refine stp (fun _ => XS.iloadN X0.here hx rfl (hb hby d13_84) rfl) ?_
    show Go p e below T0 (mkF m 85 #[.val (.ref va), .val (.int pz), .val (.ref vb), .val (.int (0 : Int32)), .val (.int (2 : Int32)), .val (.int (1 : Int32)), .unset, .unset] [(.int (0 : Int32)), (.ref vb), (.int (fa (pn + 1)))]) _
    refine stp (fun _ => XS.iload X0.here hx rfl (hb hby d13_85) rfl) ?_
    show Go p e below T0 (mkF m 87 #[.val (.ref va), .val (.int pz), .val (.ref vb), .val (.int (0 : Int32)), .val (.int (2 : Int32)), .val (.int (1 : Int32)), .unset, .unset] [(.int (1 : Int32)), (.int (0 : Int32)), (.ref vb), (.int (fa (pn + 1)))]) _
    refine stp (fun _ => XS.iadd X0.here hx rfl (hb hby d13_87) rfl) ?_
    show Go p e below T0 (mkF m 88 #[.val (.ref va), .val (.int pz), .val (.ref vb), .val (.int (0 : Int32)), .val (.int (2 : Int32)), .val (.int (1 : Int32)), .unset, .unset] [(.int (1 : Int32)), (.ref vb), (.int (fa (pn + 1)))]) _
    obtain ⟨cl6, Ar6, q6, S6, H6, G6⟩ := (id V_vb)
    have in6 : ¬ ((1 : Int32) < 0 ∨ cl6.slots.size ≤ ((1 : Int32)).toNatClampNeg) := arf_in S6 (show (1 : Int32).toInt = ((1 : Nat) : Int) from rfl) (by decide)
    have at6 : cl6.slots[((1 : Int32)).toNatClampNeg]? = some (.int (fb 1)) := arf_at H6 (show (1 : Int32).toInt = ((1 : Nat) : Int) from rfl) (by decide)
    refine stp (fun _ => X0.baloadBytes hx (j := (1 : Int32)) (v := (.int (fb 1))) (by rw [e0]; exact Ar6.1) (State.isArrayOf_alike hZ.alike Ar6.2.1) Ar6.2.2 in6 at6 (g := (mkF m 88 #[.val (.ref va), .val (.int pz), .val (.ref vb), .val (.int (0 : Int32)), .val (.int (2 : Int32)), .val (.int (1 : Int32)), .unset, .unset] [(.int (1 : Int32)), (.ref vb), (.int (fa (pn + 1)))])) rfl rfl (hb hby d13_88) _) ?_
    show Go p e below T0 (mkF m 89 #[.val (.ref va), .val (.int pz), .val (.ref vb), .val (.int (0 : Int32)), .val (.int (2 : Int32)), .val (.int (1 : Int32)), .unset, .unset] [(.int (fb 1)), (.int (fa (pn + 1)))]) _
    refine stp (fun _ => XS.icmpYes X0.here hx rfl (pc0 := 89) (pc' := 95) rfl (hb hby d13_89) rfl (XT.ii_eq_t (he 1 (by decide))) (by decide) (by decide)) ?_
    show Go p e below T0 (mkF m 95 #[.val (.ref va), .val (.int pz), .val (.ref vb), .val (.int (0 : Int32)), .val (.int (2 : Int32)), .val (.int (1 : Int32)), .unset, .unset] []) _
    refine stp (fun _ => XS.iinc X0.here hx rfl (hb hby d13_95) rfl (l' := #[.val (.ref va), .val (.int pz), .val (.ref vb), .val (.int (0 : Int32)), .val (.int (2 : Int32)), .val (.int (2 : Int32)), .unset, .unset]) rfl) ?_
    show Go p e below T0 (mkF m 98 #[.val (.ref va), .val (.int pz), .val (.ref vb), .val (.int (0 : Int32)), .val (.int (2 : Int32)), .val (.int (2 : Int32)), .unset, .unset] []) _
    refine stp (fun _ => XS.goto X0.here hx rfl (pc0 := 98) (pc' := 70) rfl (hb hby d13_98) (by decide) (by decide)) ?_
    show Go p e below T0 (mkF m 70 #[.val (.ref va), .val (.int pz), .val (.ref vb), .val (.int (0 : Int32)), .val (.int (2 : Int32)), .val (.int (2 : Int32)), .unset, .unset] []) _
    refine stp (fun _ => XS.iload X0.here hx rfl (hb hby d13_70) rfl) ?_
    show Go p e below T0 (mkF m 72 #[.val (.ref va), .val (.int pz), .val (.ref vb), .val (.int (0 : Int32)), .val (.int (2 : Int32)), .val (.int (2 : Int32)), .unset, .unset] [(.int (2 : Int32))]) _
    refine stp (fun _ => XS.iload X0.here hx rfl (hb hby d13_72) rfl) ?_
    show Go p e below T0 (mkF m 74 #[.val (.ref va), .val (.int pz), .val (.ref vb), .val (.int (0 : Int32)), .val (.int (2 : Int32)), .val (.int (2 : Int32)), .unset, .unset] [(.int (2 : Int32)), (.int (2 : Int32))]) _
    refine stp (fun _ => XS.icmpYes X0.here hx rfl (pc0 := 74) (pc' := 101) rfl (hb hby d13_74) rfl (by decide) (by decide) (by decide)) ?_
    show Go p e below T0 (mkF m 101 #[.val (.ref va), .val (.int pz), .val (.ref vb), .val (.int (0 : Int32)), .val (.int (2 : Int32)), .val (.int (2 : Int32)), .unset, .unset] []) _
    refine stp (fun _ => XS.iconst X0.here hx rfl (hb hby d13_101)) ?_
    show Go p e below T0 (mkF m 102 #[.val (.ref va), .val (.int pz), .val (.ref vb), .val (.int (0 : Int32)), .val (.int (2 : Int32)), .val (.int (2 : Int32)), .unset, .unset] [(.int (-1 : Int32))]) _
    refine outI X0 hx hret (hb hby d13_102) hlk (by decide) (by decide) ?_
    exact ⟨rfl, N0, e0⟩
  · obtain rfl : nb = 3 := own_nb (k := 3) hb_ (by decide)
    show Go p e below T0 (mkF m 70 #[.val (.ref va), .val (.int pz), .val (.ref vb), .val (.int (0 : Int32)), .val (.int (3 : Int32)), .val (.int (0 : Int32)), .unset, .unset] []) _
    refine stp (fun _ => XS.iload X0.here hx rfl (hb hby d13_70) rfl) ?_
    show Go p e below T0 (mkF m 72 #[.val (.ref va), .val (.int pz), .val (.ref vb), .val (.int (0 : Int32)), .val (.int (3 : Int32)), .val (.int (0 : Int32)), .unset, .unset] [(.int (0 : Int32))]) _
    refine stp (fun _ => XS.iload X0.here hx rfl (hb hby d13_72) rfl) ?_
    show Go p e below T0 (mkF m 74 #[.val (.ref va), .val (.int pz), .val (.ref vb), .val (.int (0 : Int32)), .val (.int (3 : Int32)), .val (.int (0 : Int32)), .unset, .unset] [(.int (3 : Int32)), (.int (0 : Int32))]) _
    refine stp (fun _ => XS.icmpNo X0.here hx rfl (hb hby d13_74) rfl (by decide)) ?_
    show Go p e below T0 (mkF m 77 #[.val (.ref va), .val (.int pz), .val (.ref vb), .val (.int (0 : Int32)), .val (.int (3 : Int32)), .val (.int (0 : Int32)), .unset, .unset] []) _
    refine stp (fun _ => XS.aloadN X0.here hx rfl (hb hby d13_77) rfl rfl) ?_
    show Go p e below T0 (mkF m 78 #[.val (.ref va), .val (.int pz), .val (.ref vb), .val (.int (0 : Int32)), .val (.int (3 : Int32)), .val (.int (0 : Int32)), .unset, .unset] [(.ref va)]) _
    refine stp (fun _ => XS.iloadN X0.here hx rfl (hb hby d13_78) rfl) ?_
    show Go p e below T0 (mkF m 79 #[.val (.ref va), .val (.int pz), .val (.ref vb), .val (.int (0 : Int32)), .val (.int (3 : Int32)), .val (.int (0 : Int32)), .unset, .unset] [(.int pz), (.ref va)]) _
    refine stp (fun _ => XS.iload X0.here hx rfl (hb hby d13_79) rfl) ?_
    show Go p e below T0 (mkF m 81 #[.val (.ref va), .val (.int pz), .val (.ref vb), .val (.int (0 : Int32)), .val (.int (3 : Int32)), .val (.int (0 : Int32)), .unset, .unset] [(.int (0 : Int32)), (.int pz), (.ref va)]) _
    refine stp (fun _ => XS.iadd X0.here hx rfl (hb hby d13_81) rfl) ?_
    show Go p e below T0 (mkF m 82 #[.val (.ref va), .val (.int pz), .val (.ref vb), .val (.int (0 : Int32)), .val (.int (3 : Int32)), .val (.int (0 : Int32)), .unset, .unset] [(.int (pz + (0 : Int32))), (.ref va)]) _
    obtain ⟨cl7, Ar7, q7, S7, H7, G7⟩ := (id V_va)
    have in7 : ¬ ((pz + (0 : Int32)) < 0 ∨ cl7.slots.size ≤ ((pz + (0 : Int32))).toNatClampNeg) := arf_in S7 (own_addI (i := 0) hp (by decide) (by omega)) (by omega)
    have at7 : cl7.slots[((pz + (0 : Int32))).toNatClampNeg]? = some (.int (fa (pn + 0))) := arf_at H7 (own_addI (i := 0) hp (by decide) (by omega)) (by omega)
    refine stp (fun _ => X0.baloadBytes hx (j := (pz + (0 : Int32))) (v := (.int (fa (pn + 0)))) (by rw [e0]; exact Ar7.1) (State.isArrayOf_alike hZ.alike Ar7.2.1) Ar7.2.2 in7 at7 (g := (mkF m 82 #[.val (.ref va), .val (.int pz), .val (.ref vb), .val (.int (0 : Int32)), .val (.int (3 : Int32)), .val (.int (0 : Int32)), .unset, .unset] [(.int (pz + (0 : Int32))), (.ref va)])) rfl rfl (hb hby d13_82) _) ?_
    show Go p e below T0 (mkF m 83 #[.val (.ref va), .val (.int pz), .val (.ref vb), .val (.int (0 : Int32)), .val (.int (3 : Int32)), .val (.int (0 : Int32)), .unset, .unset] [(.int (fa (pn + 0)))]) _
    refine stp (fun _ => XS.aloadN X0.here hx rfl (hb hby d13_83) rfl rfl) ?_
    show Go p e below T0 (mkF m 84 #[.val (.ref va), .val (.int pz), .val (.ref vb), .val (.int (0 : Int32)), .val (.int (3 : Int32)), .val (.int (0 : Int32)), .unset, .unset] [(.ref vb), (.int (fa (pn + 0)))]) _
    refine stp (fun _ => XS.iloadN X0.here hx rfl (hb hby d13_84) rfl) ?_
    show Go p e below T0 (mkF m 85 #[.val (.ref va), .val (.int pz), .val (.ref vb), .val (.int (0 : Int32)), .val (.int (3 : Int32)), .val (.int (0 : Int32)), .unset, .unset] [(.int (0 : Int32)), (.ref vb), (.int (fa (pn + 0)))]) _
    refine stp (fun _ => XS.iload X0.here hx rfl (hb hby d13_85) rfl) ?_
    show Go p e below T0 (mkF m 87 #[.val (.ref va), .val (.int pz), .val (.ref vb), .val (.int (0 : Int32)), .val (.int (3 : Int32)), .val (.int (0 : Int32)), .unset, .unset] [(.int (0 : Int32)), (.int (0 : Int32)), (.ref vb), (.int (fa (pn + 0)))]) _
    refine stp (fun _ => XS.iadd X0.here hx rfl (hb hby d13_87) rfl) ?_
    show Go p e below T0 (mkF m 88 #[.val (.ref va), .val (.int pz), .val (.ref vb), .val (.int (0 : Int32)), .val (.int (3 : Int32)), .val (.int (0 : Int32)), .unset, .unset] [(.int (0 : Int32)), (.ref vb), (.int (fa (pn + 0)))]) _
    obtain ⟨cl8, Ar8, q8, S8, H8, G8⟩ := (id V_vb)
    have in8 : ¬ ((0 : Int32) < 0 ∨ cl8.slots.size ≤ ((0 : Int32)).toNatClampNeg) := arf_in S8 (show (0 : Int32).toInt = ((0 : Nat) : Int) from rfl) (by decide)
    have at8 : cl8.slots[((0 : Int32)).toNatClampNeg]? = some (.int (fb 0)) := arf_at H8 (show (0 : Int32).toInt = ((0 : Nat) : Int) from rfl) (by decide)
    refine stp (fun _ => X0.baloadBytes hx (j := (0 : Int32)) (v := (.int (fb 0))) (by rw [e0]; exact Ar8.1) (State.isArrayOf_alike hZ.alike Ar8.2.1) Ar8.2.2 in8 at8 (g := (mkF m 88 #[.val (.ref va), .val (.int pz), .val (.ref vb), .val (.int (0 : Int32)), .val (.int (3 : Int32)), .val (.int (0 : Int32)), .unset, .unset] [(.int (0 : Int32)), (.ref vb), (.int (fa (pn + 0)))])) rfl rfl (hb hby d13_88) _) ?_
    show Go p e below T0 (mkF m 89 #[.val (.ref va), .val (.int pz), .val (.ref vb), .val (.int (0 : Int32)), .val (.int (3 : Int32)), .val (.int (0 : Int32)), .unset, .unset] [(.int (fb 0)), (.int (fa (pn + 0)))]) _
    refine stp (fun _ => XS.icmpYes X0.here hx rfl (pc0 := 89) (pc' := 95) rfl (hb hby d13_89) rfl (XT.ii_eq_t (he 0 (by decide))) (by decide) (by decide)) ?_
    show Go p e below T0 (mkF m 95 #[.val (.ref va), .val (.int pz), .val (.ref vb), .val (.int (0 : Int32)), .val (.int (3 : Int32)), .val (.int (0 : Int32)), .unset, .unset] []) _
    refine stp (fun _ => XS.iinc X0.here hx rfl (hb hby d13_95) rfl (l' := #[.val (.ref va), .val (.int pz), .val (.ref vb), .val (.int (0 : Int32)), .val (.int (3 : Int32)), .val (.int (1 : Int32)), .unset, .unset]) rfl) ?_
    show Go p e below T0 (mkF m 98 #[.val (.ref va), .val (.int pz), .val (.ref vb), .val (.int (0 : Int32)), .val (.int (3 : Int32)), .val (.int (1 : Int32)), .unset, .unset] []) _
    refine stp (fun _ => XS.goto X0.here hx rfl (pc0 := 98) (pc' := 70) rfl (hb hby d13_98) (by decide) (by decide)) ?_
    show Go p e below T0 (mkF m 70 #[.val (.ref va), .val (.int pz), .val (.ref vb), .val (.int (0 : Int32)), .val (.int (3 : Int32)), .val (.int (1 : Int32)), .unset, .unset] []) _
    refine stp (fun _ => XS.iload X0.here hx rfl (hb hby d13_70) rfl) ?_
    show Go p e below T0 (mkF m 72 #[.val (.ref va), .val (.int pz), .val (.ref vb), .val (.int (0 : Int32)), .val (.int (3 : Int32)), .val (.int (1 : Int32)), .unset, .unset] [(.int (1 : Int32))]) _
    refine stp (fun _ => XS.iload X0.here hx rfl (hb hby d13_72) rfl) ?_
    show Go p e below T0 (mkF m 74 #[.val (.ref va), .val (.int pz), .val (.ref vb), .val (.int (0 : Int32)), .val (.int (3 : Int32)), .val (.int (1 : Int32)), .unset, .unset] [(.int (3 : Int32)), (.int (1 : Int32))]) _
    refine stp (fun _ => XS.icmpNo X0.here hx rfl (hb hby d13_74) rfl (by decide)) ?_
    show Go p e below T0 (mkF m 77 #[.val (.ref va), .val (.int pz), .val (.ref vb), .val (.int (0 : Int32)), .val (.int (3 : Int32)), .val (.int (1 : Int32)), .unset, .unset] []) _
    refine stp (fun _ => XS.aloadN X0.here hx rfl (hb hby d13_77) rfl rfl) ?_
    show Go p e below T0 (mkF m 78 #[.val (.ref va), .val (.int pz), .val (.ref vb), .val (.int (0 : Int32)), .val (.int (3 : Int32)), .val (.int (1 : Int32)), .unset, .unset] [(.ref va)]) _
    refine stp (fun _ => XS.iloadN X0.here hx rfl (hb hby d13_78) rfl) ?_
    show Go p e below T0 (mkF m 79 #[.val (.ref va), .val (.int pz), .val (.ref vb), .val (.int (0 : Int32)), .val (.int (3 : Int32)), .val (.int (1 : Int32)), .unset, .unset] [(.int pz), (.ref va)]) _
    refine stp (fun _ => XS.iload X0.here hx rfl (hb hby d13_79) rfl) ?_
    show Go p e below T0 (mkF m 81 #[.val (.ref va), .val (.int pz), .val (.ref vb), .val (.int (0 : Int32)), .val (.int (3 : Int32)), .val (.int (1 : Int32)), .unset, .unset] [(.int (1 : Int32)), (.int pz), (.ref va)]) _
    refine stp (fun _ => XS.iadd X0.here hx rfl (hb hby d13_81) rfl) ?_
    show Go p e below T0 (mkF m 82 #[.val (.ref va), .val (.int pz), .val (.ref vb), .val (.int (0 : Int32)), .val (.int (3 : Int32)), .val (.int (1 : Int32)), .unset, .unset] [(.int (pz + (1 : Int32))), (.ref va)]) _
    obtain ⟨cl9, Ar9, q9, S9, H9, G9⟩ := (id V_va)
    have in9 : ¬ ((pz + (1 : Int32)) < 0 ∨ cl9.slots.size ≤ ((pz + (1 : Int32))).toNatClampNeg) := arf_in S9 (own_addI (i := 1) hp (by decide) (by omega)) (by omega)
    have at9 : cl9.slots[((pz + (1 : Int32))).toNatClampNeg]? = some (.int (fa (pn + 1))) := arf_at H9 (own_addI (i := 1) hp (by decide) (by omega)) (by omega)
    refine stp (fun _ => X0.baloadBytes hx (j := (pz + (1 : Int32))) (v := (.int (fa (pn + 1)))) (by rw [e0]; exact Ar9.1) (State.isArrayOf_alike hZ.alike Ar9.2.1) Ar9.2.2 in9 at9 (g := (mkF m 82 #[.val (.ref va), .val (.int pz), .val (.ref vb), .val (.int (0 : Int32)), .val (.int (3 : Int32)), .val (.int (1 : Int32)), .unset, .unset] [(.int (pz + (1 : Int32))), (.ref va)])) rfl rfl (hb hby d13_82) _) ?_
    show Go p e below T0 (mkF m 83 #[.val (.ref va), .val (.int pz), .val (.ref vb), .val (.int (0 : Int32)), .val (.int (3 : Int32)), .val (.int (1 : Int32)), .unset, .unset] [(.int (fa (pn + 1)))]) _
    refine stp (fun _ => XS.aloadN X0.here hx rfl (hb hby d13_83) rfl rfl) ?_
    show Go p e below T0 (mkF m 84 #[.val (.ref va), .val (.int pz), .val (.ref vb), .val (.int (0 : Int32)), .val (.int (3 : Int32)), .val (.int (1 : Int32)), .unset, .unset] [(.ref vb), (.int (fa (pn + 1)))]) _
    refine stp (fun _ => XS.iloadN X0.here hx rfl (hb hby d13_84) rfl) ?_
    show Go p e below T0 (mkF m 85 #[.val (.ref va), .val (.int pz), .val (.ref vb), .val (.int (0 : Int32)), .val (.int (3 : Int32)), .val (.int (1 : Int32)), .unset, .unset] [(.int (0 : Int32)), (.ref vb), (.int (fa (pn + 1)))]) _
    refine stp (fun _ => XS.iload X0.here hx rfl (hb hby d13_85) rfl) ?_
    show Go p e below T0 (mkF m 87 #[.val (.ref va), .val (.int pz), .val (.ref vb), .val (.int (0 : Int32)), .val (.int (3 : Int32)), .val (.int (1 : Int32)), .unset, .unset] [(.int (1 : Int32)), (.int (0 : Int32)), (.ref vb), (.int (fa (pn + 1)))]) _
    refine stp (fun _ => XS.iadd X0.here hx rfl (hb hby d13_87) rfl) ?_
    show Go p e below T0 (mkF m 88 #[.val (.ref va), .val (.int pz), .val (.ref vb), .val (.int (0 : Int32)), .val (.int (3 : Int32)), .val (.int (1 : Int32)), .unset, .unset] [(.int (1 : Int32)), (.ref vb), (.int (fa (pn + 1)))]) _
    obtain ⟨cl10, Ar10, q10, S10, H10, G10⟩ := (id V_vb)
    have in10 : ¬ ((1 : Int32) < 0 ∨ cl10.slots.size ≤ ((1 : Int32)).toNatClampNeg) := arf_in S10 (show (1 : Int32).toInt = ((1 : Nat) : Int) from rfl) (by decide)
    have at10 : cl10.slots[((1 : Int32)).toNatClampNeg]? = some (.int (fb 1)) := arf_at H10 (show (1 : Int32).toInt = ((1 : Nat) : Int) from rfl) (by decide)
    refine stp (fun _ => X0.baloadBytes hx (j := (1 : Int32)) (v := (.int (fb 1))) (by rw [e0]; exact Ar10.1) (State.isArrayOf_alike hZ.alike Ar10.2.1) Ar10.2.2 in10 at10 (g := (mkF m 88 #[.val (.ref va), .val (.int pz), .val (.ref vb), .val (.int (0 : Int32)), .val (.int (3 : Int32)), .val (.int (1 : Int32)), .unset, .unset] [(.int (1 : Int32)), (.ref vb), (.int (fa (pn + 1)))])) rfl rfl (hb hby d13_88) _) ?_
    show Go p e below T0 (mkF m 89 #[.val (.ref va), .val (.int pz), .val (.ref vb), .val (.int (0 : Int32)), .val (.int (3 : Int32)), .val (.int (1 : Int32)), .unset, .unset] [(.int (fb 1)), (.int (fa (pn + 1)))]) _
    refine stp (fun _ => XS.icmpYes X0.here hx rfl (pc0 := 89) (pc' := 95) rfl (hb hby d13_89) rfl (XT.ii_eq_t (he 1 (by decide))) (by decide) (by decide)) ?_
    show Go p e below T0 (mkF m 95 #[.val (.ref va), .val (.int pz), .val (.ref vb), .val (.int (0 : Int32)), .val (.int (3 : Int32)), .val (.int (1 : Int32)), .unset, .unset] []) _
    refine stp (fun _ => XS.iinc X0.here hx rfl (hb hby d13_95) rfl (l' := #[.val (.ref va), .val (.int pz), .val (.ref vb), .val (.int (0 : Int32)), .val (.int (3 : Int32)), .val (.int (2 : Int32)), .unset, .unset]) rfl) ?_
    show Go p e below T0 (mkF m 98 #[.val (.ref va), .val (.int pz), .val (.ref vb), .val (.int (0 : Int32)), .val (.int (3 : Int32)), .val (.int (2 : Int32)), .unset, .unset] []) _
    refine stp (fun _ => XS.goto X0.here hx rfl (pc0 := 98) (pc' := 70) rfl (hb hby d13_98) (by decide) (by decide)) ?_
    show Go p e below T0 (mkF m 70 #[.val (.ref va), .val (.int pz), .val (.ref vb), .val (.int (0 : Int32)), .val (.int (3 : Int32)), .val (.int (2 : Int32)), .unset, .unset] []) _
    refine stp (fun _ => XS.iload X0.here hx rfl (hb hby d13_70) rfl) ?_
    show Go p e below T0 (mkF m 72 #[.val (.ref va), .val (.int pz), .val (.ref vb), .val (.int (0 : Int32)), .val (.int (3 : Int32)), .val (.int (2 : Int32)), .unset, .unset] [(.int (2 : Int32))]) _
    refine stp (fun _ => XS.iload X0.here hx rfl (hb hby d13_72) rfl) ?_
    show Go p e below T0 (mkF m 74 #[.val (.ref va), .val (.int pz), .val (.ref vb), .val (.int (0 : Int32)), .val (.int (3 : Int32)), .val (.int (2 : Int32)), .unset, .unset] [(.int (3 : Int32)), (.int (2 : Int32))]) _
    refine stp (fun _ => XS.icmpNo X0.here hx rfl (hb hby d13_74) rfl (by decide)) ?_
    show Go p e below T0 (mkF m 77 #[.val (.ref va), .val (.int pz), .val (.ref vb), .val (.int (0 : Int32)), .val (.int (3 : Int32)), .val (.int (2 : Int32)), .unset, .unset] []) _
    refine stp (fun _ => XS.aloadN X0.here hx rfl (hb hby d13_77) rfl rfl) ?_
    show Go p e below T0 (mkF m 78 #[.val (.ref va), .val (.int pz), .val (.ref vb), .val (.int (0 : Int32)), .val (.int (3 : Int32)), .val (.int (2 : Int32)), .unset, .unset] [(.ref va)]) _
    refine stp (fun _ => XS.iloadN X0.here hx rfl (hb hby d13_78) rfl) ?_
    show Go p e below T0 (mkF m 79 #[.val (.ref va), .val (.int pz), .val (.ref vb), .val (.int (0 : Int32)), .val (.int (3 : Int32)), .val (.int (2 : Int32)), .unset, .unset] [(.int pz), (.ref va)]) _
    refine stp (fun _ => XS.iload X0.here hx rfl (hb hby d13_79) rfl) ?_
    show Go p e below T0 (mkF m 81 #[.val (.ref va), .val (.int pz), .val (.ref vb), .val (.int (0 : Int32)), .val (.int (3 : Int32)), .val (.int (2 : Int32)), .unset, .unset] [(.int (2 : Int32)), (.int pz), (.ref va)]) _
    refine stp (fun _ => XS.iadd X0.here hx rfl (hb hby d13_81) rfl) ?_
    show Go p e below T0 (mkF m 82 #[.val (.ref va), .val (.int pz), .val (.ref vb), .val (.int (0 : Int32)), .val (.int (3 : Int32)), .val (.int (2 : Int32)), .unset, .unset] [(.int (pz + (2 : Int32))), (.ref va)]) _
    obtain ⟨cl11, Ar11, q11, S11, H11, G11⟩ := (id V_va)
    have in11 : ¬ ((pz + (2 : Int32)) < 0 ∨ cl11.slots.size ≤ ((pz + (2 : Int32))).toNatClampNeg) := arf_in S11 (own_addI (i := 2) hp (by decide) (by omega)) (by omega)
    have at11 : cl11.slots[((pz + (2 : Int32))).toNatClampNeg]? = some (.int (fa (pn + 2))) := arf_at H11 (own_addI (i := 2) hp (by decide) (by omega)) (by omega)
    refine stp (fun _ => X0.baloadBytes hx (j := (pz + (2 : Int32))) (v := (.int (fa (pn + 2)))) (by rw [e0]; exact Ar11.1) (State.isArrayOf_alike hZ.alike Ar11.2.1) Ar11.2.2 in11 at11 (g := (mkF m 82 #[.val (.ref va), .val (.int pz), .val (.ref vb), .val (.int (0 : Int32)), .val (.int (3 : Int32)), .val (.int (2 : Int32)), .unset, .unset] [(.int (pz + (2 : Int32))), (.ref va)])) rfl rfl (hb hby d13_82) _) ?_
    show Go p e below T0 (mkF m 83 #[.val (.ref va), .val (.int pz), .val (.ref vb), .val (.int (0 : Int32)), .val (.int (3 : Int32)), .val (.int (2 : Int32)), .unset, .unset] [(.int (fa (pn + 2)))]) _
    refine stp (fun _ => XS.aloadN X0.here hx rfl (hb hby d13_83) rfl rfl) ?_
    show Go p e below T0 (mkF m 84 #[.val (.ref va), .val (.int pz), .val (.ref vb), .val (.int (0 : Int32)), .val (.int (3 : Int32)), .val (.int (2 : Int32)), .unset, .unset] [(.ref vb), (.int (fa (pn + 2)))]) _
    refine stp (fun _ => XS.iloadN X0.here hx rfl (hb hby d13_84) rfl) ?_
    show Go p e below T0 (mkF m 85 #[.val (.ref va), .val (.int pz), .val (.ref vb), .val (.int (0 : Int32)), .val (.int (3 : Int32)), .val (.int (2 : Int32)), .unset, .unset] [(.int (0 : Int32)), (.ref vb), (.int (fa (pn + 2)))]) _
    refine stp (fun _ => XS.iload X0.here hx rfl (hb hby d13_85) rfl) ?_
    show Go p e below T0 (mkF m 87 #[.val (.ref va), .val (.int pz), .val (.ref vb), .val (.int (0 : Int32)), .val (.int (3 : Int32)), .val (.int (2 : Int32)), .unset, .unset] [(.int (2 : Int32)), (.int (0 : Int32)), (.ref vb), (.int (fa (pn + 2)))]) _
    refine stp (fun _ => XS.iadd X0.here hx rfl (hb hby d13_87) rfl) ?_
    show Go p e below T0 (mkF m 88 #[.val (.ref va), .val (.int pz), .val (.ref vb), .val (.int (0 : Int32)), .val (.int (3 : Int32)), .val (.int (2 : Int32)), .unset, .unset] [(.int (2 : Int32)), (.ref vb), (.int (fa (pn + 2)))]) _
    obtain ⟨cl12, Ar12, q12, S12, H12, G12⟩ := (id V_vb)
    have in12 : ¬ ((2 : Int32) < 0 ∨ cl12.slots.size ≤ ((2 : Int32)).toNatClampNeg) := arf_in S12 (show (2 : Int32).toInt = ((2 : Nat) : Int) from rfl) (by decide)
    have at12 : cl12.slots[((2 : Int32)).toNatClampNeg]? = some (.int (fb 2)) := arf_at H12 (show (2 : Int32).toInt = ((2 : Nat) : Int) from rfl) (by decide)
    refine stp (fun _ => X0.baloadBytes hx (j := (2 : Int32)) (v := (.int (fb 2))) (by rw [e0]; exact Ar12.1) (State.isArrayOf_alike hZ.alike Ar12.2.1) Ar12.2.2 in12 at12 (g := (mkF m 88 #[.val (.ref va), .val (.int pz), .val (.ref vb), .val (.int (0 : Int32)), .val (.int (3 : Int32)), .val (.int (2 : Int32)), .unset, .unset] [(.int (2 : Int32)), (.ref vb), (.int (fa (pn + 2)))])) rfl rfl (hb hby d13_88) _) ?_
    show Go p e below T0 (mkF m 89 #[.val (.ref va), .val (.int pz), .val (.ref vb), .val (.int (0 : Int32)), .val (.int (3 : Int32)), .val (.int (2 : Int32)), .unset, .unset] [(.int (fb 2)), (.int (fa (pn + 2)))]) _
    refine stp (fun _ => XS.icmpYes X0.here hx rfl (pc0 := 89) (pc' := 95) rfl (hb hby d13_89) rfl (XT.ii_eq_t (he 2 (by decide))) (by decide) (by decide)) ?_
    show Go p e below T0 (mkF m 95 #[.val (.ref va), .val (.int pz), .val (.ref vb), .val (.int (0 : Int32)), .val (.int (3 : Int32)), .val (.int (2 : Int32)), .unset, .unset] []) _
    refine stp (fun _ => XS.iinc X0.here hx rfl (hb hby d13_95) rfl (l' := #[.val (.ref va), .val (.int pz), .val (.ref vb), .val (.int (0 : Int32)), .val (.int (3 : Int32)), .val (.int (3 : Int32)), .unset, .unset]) rfl) ?_
    show Go p e below T0 (mkF m 98 #[.val (.ref va), .val (.int pz), .val (.ref vb), .val (.int (0 : Int32)), .val (.int (3 : Int32)), .val (.int (3 : Int32)), .unset, .unset] []) _
    refine stp (fun _ => XS.goto X0.here hx rfl (pc0 := 98) (pc' := 70) rfl (hb hby d13_98) (by decide) (by decide)) ?_
    show Go p e below T0 (mkF m 70 #[.val (.ref va), .val (.int pz), .val (.ref vb), .val (.int (0 : Int32)), .val (.int (3 : Int32)), .val (.int (3 : Int32)), .unset, .unset] []) _
    refine stp (fun _ => XS.iload X0.here hx rfl (hb hby d13_70) rfl) ?_
    show Go p e below T0 (mkF m 72 #[.val (.ref va), .val (.int pz), .val (.ref vb), .val (.int (0 : Int32)), .val (.int (3 : Int32)), .val (.int (3 : Int32)), .unset, .unset] [(.int (3 : Int32))]) _
    refine stp (fun _ => XS.iload X0.here hx rfl (hb hby d13_72) rfl) ?_
    show Go p e below T0 (mkF m 74 #[.val (.ref va), .val (.int pz), .val (.ref vb), .val (.int (0 : Int32)), .val (.int (3 : Int32)), .val (.int (3 : Int32)), .unset, .unset] [(.int (3 : Int32)), (.int (3 : Int32))]) _
    refine stp (fun _ => XS.icmpYes X0.here hx rfl (pc0 := 74) (pc' := 101) rfl (hb hby d13_74) rfl (by decide) (by decide) (by decide)) ?_
    show Go p e below T0 (mkF m 101 #[.val (.ref va), .val (.int pz), .val (.ref vb), .val (.int (0 : Int32)), .val (.int (3 : Int32)), .val (.int (3 : Int32)), .unset, .unset] []) _
    refine stp (fun _ => XS.iconst X0.here hx rfl (hb hby d13_101)) ?_
    show Go p e below T0 (mkF m 102 #[.val (.ref va), .val (.int pz), .val (.ref vb), .val (.int (0 : Int32)), .val (.int (3 : Int32)), .val (.int (3 : Int32)), .unset, .unset] [(.int (-1 : Int32))]) _
    refine outI X0 hx hret (hb hby d13_102) hlk (by decide) (by decide) ?_
    exact ⟨rfl, N0, e0⟩
  · obtain rfl : nb = 4 := own_nb (k := 4) hb_ (by decide)
    show Go p e below T0 (mkF m 70 #[.val (.ref va), .val (.int pz), .val (.ref vb), .val (.int (0 : Int32)), .val (.int (4 : Int32)), .val (.int (0 : Int32)), .unset, .unset] []) _
    refine stp (fun _ => XS.iload X0.here hx rfl (hb hby d13_70) rfl) ?_
    show Go p e below T0 (mkF m 72 #[.val (.ref va), .val (.int pz), .val (.ref vb), .val (.int (0 : Int32)), .val (.int (4 : Int32)), .val (.int (0 : Int32)), .unset, .unset] [(.int (0 : Int32))]) _
    refine stp (fun _ => XS.iload X0.here hx rfl (hb hby d13_72) rfl) ?_
    show Go p e below T0 (mkF m 74 #[.val (.ref va), .val (.int pz), .val (.ref vb), .val (.int (0 : Int32)), .val (.int (4 : Int32)), .val (.int (0 : Int32)), .unset, .unset] [(.int (4 : Int32)), (.int (0 : Int32))]) _
    refine stp (fun _ => XS.icmpNo X0.here hx rfl (hb hby d13_74) rfl (by decide)) ?_
    show Go p e below T0 (mkF m 77 #[.val (.ref va), .val (.int pz), .val (.ref vb), .val (.int (0 : Int32)), .val (.int (4 : Int32)), .val (.int (0 : Int32)), .unset, .unset] []) _
    refine stp (fun _ => XS.aloadN X0.here hx rfl (hb hby d13_77) rfl rfl) ?_
    show Go p e below T0 (mkF m 78 #[.val (.ref va), .val (.int pz), .val (.ref vb), .val (.int (0 : Int32)), .val (.int (4 : Int32)), .val (.int (0 : Int32)), .unset, .unset] [(.ref va)]) _
    refine stp (fun _ => XS.iloadN X0.here hx rfl (hb hby d13_78) rfl) ?_
    show Go p e below T0 (mkF m 79 #[.val (.ref va), .val (.int pz), .val (.ref vb), .val (.int (0 : Int32)), .val (.int (4 : Int32)), .val (.int (0 : Int32)), .unset, .unset] [(.int pz), (.ref va)]) _
    refine stp (fun _ => XS.iload X0.here hx rfl (hb hby d13_79) rfl) ?_
    show Go p e below T0 (mkF m 81 #[.val (.ref va), .val (.int pz), .val (.ref vb), .val (.int (0 : Int32)), .val (.int (4 : Int32)), .val (.int (0 : Int32)), .unset, .unset] [(.int (0 : Int32)), (.int pz), (.ref va)]) _
    refine stp (fun _ => XS.iadd X0.here hx rfl (hb hby d13_81) rfl) ?_
    show Go p e below T0 (mkF m 82 #[.val (.ref va), .val (.int pz), .val (.ref vb), .val (.int (0 : Int32)), .val (.int (4 : Int32)), .val (.int (0 : Int32)), .unset, .unset] [(.int (pz + (0 : Int32))), (.ref va)]) _
    obtain ⟨cl13, Ar13, q13, S13, H13, G13⟩ := (id V_va)
    have in13 : ¬ ((pz + (0 : Int32)) < 0 ∨ cl13.slots.size ≤ ((pz + (0 : Int32))).toNatClampNeg) := arf_in S13 (own_addI (i := 0) hp (by decide) (by omega)) (by omega)
    have at13 : cl13.slots[((pz + (0 : Int32))).toNatClampNeg]? = some (.int (fa (pn + 0))) := arf_at H13 (own_addI (i := 0) hp (by decide) (by omega)) (by omega)
    refine stp (fun _ => X0.baloadBytes hx (j := (pz + (0 : Int32))) (v := (.int (fa (pn + 0)))) (by rw [e0]; exact Ar13.1) (State.isArrayOf_alike hZ.alike Ar13.2.1) Ar13.2.2 in13 at13 (g := (mkF m 82 #[.val (.ref va), .val (.int pz), .val (.ref vb), .val (.int (0 : Int32)), .val (.int (4 : Int32)), .val (.int (0 : Int32)), .unset, .unset] [(.int (pz + (0 : Int32))), (.ref va)])) rfl rfl (hb hby d13_82) _) ?_
    show Go p e below T0 (mkF m 83 #[.val (.ref va), .val (.int pz), .val (.ref vb), .val (.int (0 : Int32)), .val (.int (4 : Int32)), .val (.int (0 : Int32)), .unset, .unset] [(.int (fa (pn + 0)))]) _
    refine stp (fun _ => XS.aloadN X0.here hx rfl (hb hby d13_83) rfl rfl) ?_
    show Go p e below T0 (mkF m 84 #[.val (.ref va), .val (.int pz), .val (.ref vb), .val (.int (0 : Int32)), .val (.int (4 : Int32)), .val (.int (0 : Int32)), .unset, .unset] [(.ref vb), (.int (fa (pn + 0)))]) _
    refine stp (fun _ => XS.iloadN X0.here hx rfl (hb hby d13_84) rfl) ?_
    show Go p e below T0 (mkF m 85 #[.val (.ref va), .val (.int pz), .val (.ref vb), .val (.int (0 : Int32)), .val (.int (4 : Int32)), .val (.int (0 : Int32)), .unset, .unset] [(.int (0 : Int32)), (.ref vb), (.int (fa (pn + 0)))]) _
    refine stp (fun _ => XS.iload X0.here hx rfl (hb hby d13_85) rfl) ?_
    show Go p e below T0 (mkF m 87 #[.val (.ref va), .val (.int pz), .val (.ref vb), .val (.int (0 : Int32)), .val (.int (4 : Int32)), .val (.int (0 : Int32)), .unset, .unset] [(.int (0 : Int32)), (.int (0 : Int32)), (.ref vb), (.int (fa (pn + 0)))]) _
    refine stp (fun _ => XS.iadd X0.here hx rfl (hb hby d13_87) rfl) ?_
    show Go p e below T0 (mkF m 88 #[.val (.ref va), .val (.int pz), .val (.ref vb), .val (.int (0 : Int32)), .val (.int (4 : Int32)), .val (.int (0 : Int32)), .unset, .unset] [(.int (0 : Int32)), (.ref vb), (.int (fa (pn + 0)))]) _
    obtain ⟨cl14, Ar14, q14, S14, H14, G14⟩ := (id V_vb)
    have in14 : ¬ ((0 : Int32) < 0 ∨ cl14.slots.size ≤ ((0 : Int32)).toNatClampNeg) := arf_in S14 (show (0 : Int32).toInt = ((0 : Nat) : Int) from rfl) (by decide)
    have at14 : cl14.slots[((0 : Int32)).toNatClampNeg]? = some (.int (fb 0)) := arf_at H14 (show (0 : Int32).toInt = ((0 : Nat) : Int) from rfl) (by decide)
    refine stp (fun _ => X0.baloadBytes hx (j := (0 : Int32)) (v := (.int (fb 0))) (by rw [e0]; exact Ar14.1) (State.isArrayOf_alike hZ.alike Ar14.2.1) Ar14.2.2 in14 at14 (g := (mkF m 88 #[.val (.ref va), .val (.int pz), .val (.ref vb), .val (.int (0 : Int32)), .val (.int (4 : Int32)), .val (.int (0 : Int32)), .unset, .unset] [(.int (0 : Int32)), (.ref vb), (.int (fa (pn + 0)))])) rfl rfl (hb hby d13_88) _) ?_
    show Go p e below T0 (mkF m 89 #[.val (.ref va), .val (.int pz), .val (.ref vb), .val (.int (0 : Int32)), .val (.int (4 : Int32)), .val (.int (0 : Int32)), .unset, .unset] [(.int (fb 0)), (.int (fa (pn + 0)))]) _
    refine stp (fun _ => XS.icmpYes X0.here hx rfl (pc0 := 89) (pc' := 95) rfl (hb hby d13_89) rfl (XT.ii_eq_t (he 0 (by decide))) (by decide) (by decide)) ?_
    show Go p e below T0 (mkF m 95 #[.val (.ref va), .val (.int pz), .val (.ref vb), .val (.int (0 : Int32)), .val (.int (4 : Int32)), .val (.int (0 : Int32)), .unset, .unset] []) _
    refine stp (fun _ => XS.iinc X0.here hx rfl (hb hby d13_95) rfl (l' := #[.val (.ref va), .val (.int pz), .val (.ref vb), .val (.int (0 : Int32)), .val (.int (4 : Int32)), .val (.int (1 : Int32)), .unset, .unset]) rfl) ?_
    show Go p e below T0 (mkF m 98 #[.val (.ref va), .val (.int pz), .val (.ref vb), .val (.int (0 : Int32)), .val (.int (4 : Int32)), .val (.int (1 : Int32)), .unset, .unset] []) _
    refine stp (fun _ => XS.goto X0.here hx rfl (pc0 := 98) (pc' := 70) rfl (hb hby d13_98) (by decide) (by decide)) ?_
    show Go p e below T0 (mkF m 70 #[.val (.ref va), .val (.int pz), .val (.ref vb), .val (.int (0 : Int32)), .val (.int (4 : Int32)), .val (.int (1 : Int32)), .unset, .unset] []) _
    refine stp (fun _ => XS.iload X0.here hx rfl (hb hby d13_70) rfl) ?_
    show Go p e below T0 (mkF m 72 #[.val (.ref va), .val (.int pz), .val (.ref vb), .val (.int (0 : Int32)), .val (.int (4 : Int32)), .val (.int (1 : Int32)), .unset, .unset] [(.int (1 : Int32))]) _
    refine stp (fun _ => XS.iload X0.here hx rfl (hb hby d13_72) rfl) ?_
    show Go p e below T0 (mkF m 74 #[.val (.ref va), .val (.int pz), .val (.ref vb), .val (.int (0 : Int32)), .val (.int (4 : Int32)), .val (.int (1 : Int32)), .unset, .unset] [(.int (4 : Int32)), (.int (1 : Int32))]) _
    refine stp (fun _ => XS.icmpNo X0.here hx rfl (hb hby d13_74) rfl (by decide)) ?_
    show Go p e below T0 (mkF m 77 #[.val (.ref va), .val (.int pz), .val (.ref vb), .val (.int (0 : Int32)), .val (.int (4 : Int32)), .val (.int (1 : Int32)), .unset, .unset] []) _
    refine stp (fun _ => XS.aloadN X0.here hx rfl (hb hby d13_77) rfl rfl) ?_
    show Go p e below T0 (mkF m 78 #[.val (.ref va), .val (.int pz), .val (.ref vb), .val (.int (0 : Int32)), .val (.int (4 : Int32)), .val (.int (1 : Int32)), .unset, .unset] [(.ref va)]) _
    refine stp (fun _ => XS.iloadN X0.here hx rfl (hb hby d13_78) rfl) ?_
    show Go p e below T0 (mkF m 79 #[.val (.ref va), .val (.int pz), .val (.ref vb), .val (.int (0 : Int32)), .val (.int (4 : Int32)), .val (.int (1 : Int32)), .unset, .unset] [(.int pz), (.ref va)]) _
    refine stp (fun _ => XS.iload X0.here hx rfl (hb hby d13_79) rfl) ?_
    show Go p e below T0 (mkF m 81 #[.val (.ref va), .val (.int pz), .val (.ref vb), .val (.int (0 : Int32)), .val (.int (4 : Int32)), .val (.int (1 : Int32)), .unset, .unset] [(.int (1 : Int32)), (.int pz), (.ref va)]) _
    refine stp (fun _ => XS.iadd X0.here hx rfl (hb hby d13_81) rfl) ?_
    show Go p e below T0 (mkF m 82 #[.val (.ref va), .val (.int pz), .val (.ref vb), .val (.int (0 : Int32)), .val (.int (4 : Int32)), .val (.int (1 : Int32)), .unset, .unset] [(.int (pz + (1 : Int32))), (.ref va)]) _
    obtain ⟨cl15, Ar15, q15, S15, H15, G15⟩ := (id V_va)
    have in15 : ¬ ((pz + (1 : Int32)) < 0 ∨ cl15.slots.size ≤ ((pz + (1 : Int32))).toNatClampNeg) := arf_in S15 (own_addI (i := 1) hp (by decide) (by omega)) (by omega)
    have at15 : cl15.slots[((pz + (1 : Int32))).toNatClampNeg]? = some (.int (fa (pn + 1))) := arf_at H15 (own_addI (i := 1) hp (by decide) (by omega)) (by omega)
    refine stp (fun _ => X0.baloadBytes hx (j := (pz + (1 : Int32))) (v := (.int (fa (pn + 1)))) (by rw [e0]; exact Ar15.1) (State.isArrayOf_alike hZ.alike Ar15.2.1) Ar15.2.2 in15 at15 (g := (mkF m 82 #[.val (.ref va), .val (.int pz), .val (.ref vb), .val (.int (0 : Int32)), .val (.int (4 : Int32)), .val (.int (1 : Int32)), .unset, .unset] [(.int (pz + (1 : Int32))), (.ref va)])) rfl rfl (hb hby d13_82) _) ?_
    show Go p e below T0 (mkF m 83 #[.val (.ref va), .val (.int pz), .val (.ref vb), .val (.int (0 : Int32)), .val (.int (4 : Int32)), .val (.int (1 : Int32)), .unset, .unset] [(.int (fa (pn + 1)))]) _
    refine stp (fun _ => XS.aloadN X0.here hx rfl (hb hby d13_83) rfl rfl) ?_
    show Go p e below T0 (mkF m 84 #[.val (.ref va), .val (.int pz), .val (.ref vb), .val (.int (0 : Int32)), .val (.int (4 : Int32)), .val (.int (1 : Int32)), .unset, .unset] [(.ref vb), (.int (fa (pn + 1)))]) _
    refine stp (fun _ => XS.iloadN X0.here hx rfl (hb hby d13_84) rfl) ?_
    show Go p e below T0 (mkF m 85 #[.val (.ref va), .val (.int pz), .val (.ref vb), .val (.int (0 : Int32)), .val (.int (4 : Int32)), .val (.int (1 : Int32)), .unset, .unset] [(.int (0 : Int32)), (.ref vb), (.int (fa (pn + 1)))]) _
    refine stp (fun _ => XS.iload X0.here hx rfl (hb hby d13_85) rfl) ?_
    show Go p e below T0 (mkF m 87 #[.val (.ref va), .val (.int pz), .val (.ref vb), .val (.int (0 : Int32)), .val (.int (4 : Int32)), .val (.int (1 : Int32)), .unset, .unset] [(.int (1 : Int32)), (.int (0 : Int32)), (.ref vb), (.int (fa (pn + 1)))]) _
    refine stp (fun _ => XS.iadd X0.here hx rfl (hb hby d13_87) rfl) ?_
    show Go p e below T0 (mkF m 88 #[.val (.ref va), .val (.int pz), .val (.ref vb), .val (.int (0 : Int32)), .val (.int (4 : Int32)), .val (.int (1 : Int32)), .unset, .unset] [(.int (1 : Int32)), (.ref vb), (.int (fa (pn + 1)))]) _
    obtain ⟨cl16, Ar16, q16, S16, H16, G16⟩ := (id V_vb)
    have in16 : ¬ ((1 : Int32) < 0 ∨ cl16.slots.size ≤ ((1 : Int32)).toNatClampNeg) := arf_in S16 (show (1 : Int32).toInt = ((1 : Nat) : Int) from rfl) (by decide)
    have at16 : cl16.slots[((1 : Int32)).toNatClampNeg]? = some (.int (fb 1)) := arf_at H16 (show (1 : Int32).toInt = ((1 : Nat) : Int) from rfl) (by decide)
    refine stp (fun _ => X0.baloadBytes hx (j := (1 : Int32)) (v := (.int (fb 1))) (by rw [e0]; exact Ar16.1) (State.isArrayOf_alike hZ.alike Ar16.2.1) Ar16.2.2 in16 at16 (g := (mkF m 88 #[.val (.ref va), .val (.int pz), .val (.ref vb), .val (.int (0 : Int32)), .val (.int (4 : Int32)), .val (.int (1 : Int32)), .unset, .unset] [(.int (1 : Int32)), (.ref vb), (.int (fa (pn + 1)))])) rfl rfl (hb hby d13_88) _) ?_
    show Go p e below T0 (mkF m 89 #[.val (.ref va), .val (.int pz), .val (.ref vb), .val (.int (0 : Int32)), .val (.int (4 : Int32)), .val (.int (1 : Int32)), .unset, .unset] [(.int (fb 1)), (.int (fa (pn + 1)))]) _
    refine stp (fun _ => XS.icmpYes X0.here hx rfl (pc0 := 89) (pc' := 95) rfl (hb hby d13_89) rfl (XT.ii_eq_t (he 1 (by decide))) (by decide) (by decide)) ?_
    show Go p e below T0 (mkF m 95 #[.val (.ref va), .val (.int pz), .val (.ref vb), .val (.int (0 : Int32)), .val (.int (4 : Int32)), .val (.int (1 : Int32)), .unset, .unset] []) _
    refine stp (fun _ => XS.iinc X0.here hx rfl (hb hby d13_95) rfl (l' := #[.val (.ref va), .val (.int pz), .val (.ref vb), .val (.int (0 : Int32)), .val (.int (4 : Int32)), .val (.int (2 : Int32)), .unset, .unset]) rfl) ?_
    show Go p e below T0 (mkF m 98 #[.val (.ref va), .val (.int pz), .val (.ref vb), .val (.int (0 : Int32)), .val (.int (4 : Int32)), .val (.int (2 : Int32)), .unset, .unset] []) _
    refine stp (fun _ => XS.goto X0.here hx rfl (pc0 := 98) (pc' := 70) rfl (hb hby d13_98) (by decide) (by decide)) ?_
    show Go p e below T0 (mkF m 70 #[.val (.ref va), .val (.int pz), .val (.ref vb), .val (.int (0 : Int32)), .val (.int (4 : Int32)), .val (.int (2 : Int32)), .unset, .unset] []) _
    refine stp (fun _ => XS.iload X0.here hx rfl (hb hby d13_70) rfl) ?_
    show Go p e below T0 (mkF m 72 #[.val (.ref va), .val (.int pz), .val (.ref vb), .val (.int (0 : Int32)), .val (.int (4 : Int32)), .val (.int (2 : Int32)), .unset, .unset] [(.int (2 : Int32))]) _
    refine stp (fun _ => XS.iload X0.here hx rfl (hb hby d13_72) rfl) ?_
    show Go p e below T0 (mkF m 74 #[.val (.ref va), .val (.int pz), .val (.ref vb), .val (.int (0 : Int32)), .val (.int (4 : Int32)), .val (.int (2 : Int32)), .unset, .unset] [(.int (4 : Int32)), (.int (2 : Int32))]) _
    refine stp (fun _ => XS.icmpNo X0.here hx rfl (hb hby d13_74) rfl (by decide)) ?_
    show Go p e below T0 (mkF m 77 #[.val (.ref va), .val (.int pz), .val (.ref vb), .val (.int (0 : Int32)), .val (.int (4 : Int32)), .val (.int (2 : Int32)), .unset, .unset] []) _
    refine stp (fun _ => XS.aloadN X0.here hx rfl (hb hby d13_77) rfl rfl) ?_
    show Go p e below T0 (mkF m 78 #[.val (.ref va), .val (.int pz), .val (.ref vb), .val (.int (0 : Int32)), .val (.int (4 : Int32)), .val (.int (2 : Int32)), .unset, .unset] [(.ref va)]) _
    refine stp (fun _ => XS.iloadN X0.here hx rfl (hb hby d13_78) rfl) ?_
    show Go p e below T0 (mkF m 79 #[.val (.ref va), .val (.int pz), .val (.ref vb), .val (.int (0 : Int32)), .val (.int (4 : Int32)), .val (.int (2 : Int32)), .unset, .unset] [(.int pz), (.ref va)]) _
    refine stp (fun _ => XS.iload X0.here hx rfl (hb hby d13_79) rfl) ?_
    show Go p e below T0 (mkF m 81 #[.val (.ref va), .val (.int pz), .val (.ref vb), .val (.int (0 : Int32)), .val (.int (4 : Int32)), .val (.int (2 : Int32)), .unset, .unset] [(.int (2 : Int32)), (.int pz), (.ref va)]) _
    refine stp (fun _ => XS.iadd X0.here hx rfl (hb hby d13_81) rfl) ?_
    show Go p e below T0 (mkF m 82 #[.val (.ref va), .val (.int pz), .val (.ref vb), .val (.int (0 : Int32)), .val (.int (4 : Int32)), .val (.int (2 : Int32)), .unset, .unset] [(.int (pz + (2 : Int32))), (.ref va)]) _
    obtain ⟨cl17, Ar17, q17, S17, H17, G17⟩ := (id V_va)
    have in17 : ¬ ((pz + (2 : Int32)) < 0 ∨ cl17.slots.size ≤ ((pz + (2 : Int32))).toNatClampNeg) := arf_in S17 (own_addI (i := 2) hp (by decide) (by omega)) (by omega)
    have at17 : cl17.slots[((pz + (2 : Int32))).toNatClampNeg]? = some (.int (fa (pn + 2))) := arf_at H17 (own_addI (i := 2) hp (by decide) (by omega)) (by omega)
    refine stp (fun _ => X0.baloadBytes hx (j := (pz + (2 : Int32))) (v := (.int (fa (pn + 2)))) (by rw [e0]; exact Ar17.1) (State.isArrayOf_alike hZ.alike Ar17.2.1) Ar17.2.2 in17 at17 (g := (mkF m 82 #[.val (.ref va), .val (.int pz), .val (.ref vb), .val (.int (0 : Int32)), .val (.int (4 : Int32)), .val (.int (2 : Int32)), .unset, .unset] [(.int (pz + (2 : Int32))), (.ref va)])) rfl rfl (hb hby d13_82) _) ?_
    show Go p e below T0 (mkF m 83 #[.val (.ref va), .val (.int pz), .val (.ref vb), .val (.int (0 : Int32)), .val (.int (4 : Int32)), .val (.int (2 : Int32)), .unset, .unset] [(.int (fa (pn + 2)))]) _
    refine stp (fun _ => XS.aloadN X0.here hx rfl (hb hby d13_83) rfl rfl) ?_
    show Go p e below T0 (mkF m 84 #[.val (.ref va), .val (.int pz), .val (.ref vb), .val (.int (0 : Int32)), .val (.int (4 : Int32)), .val (.int (2 : Int32)), .unset, .unset] [(.ref vb), (.int (fa (pn + 2)))]) _
    refine stp (fun _ => XS.iloadN X0.here hx rfl (hb hby d13_84) rfl) ?_
    show Go p e below T0 (mkF m 85 #[.val (.ref va), .val (.int pz), .val (.ref vb), .val (.int (0 : Int32)), .val (.int (4 : Int32)), .val (.int (2 : Int32)), .unset, .unset] [(.int (0 : Int32)), (.ref vb), (.int (fa (pn + 2)))]) _
    refine stp (fun _ => XS.iload X0.here hx rfl (hb hby d13_85) rfl) ?_
    show Go p e below T0 (mkF m 87 #[.val (.ref va), .val (.int pz), .val (.ref vb), .val (.int (0 : Int32)), .val (.int (4 : Int32)), .val (.int (2 : Int32)), .unset, .unset] [(.int (2 : Int32)), (.int (0 : Int32)), (.ref vb), (.int (fa (pn + 2)))]) _
    refine stp (fun _ => XS.iadd X0.here hx rfl (hb hby d13_87) rfl) ?_
    show Go p e below T0 (mkF m 88 #[.val (.ref va), .val (.int pz), .val (.ref vb), .val (.int (0 : Int32)), .val (.int (4 : Int32)), .val (.int (2 : Int32)), .unset, .unset] [(.int (2 : Int32)), (.ref vb), (.int (fa (pn + 2)))]) _
    obtain ⟨cl18, Ar18, q18, S18, H18, G18⟩ := (id V_vb)
    have in18 : ¬ ((2 : Int32) < 0 ∨ cl18.slots.size ≤ ((2 : Int32)).toNatClampNeg) := arf_in S18 (show (2 : Int32).toInt = ((2 : Nat) : Int) from rfl) (by decide)
    have at18 : cl18.slots[((2 : Int32)).toNatClampNeg]? = some (.int (fb 2)) := arf_at H18 (show (2 : Int32).toInt = ((2 : Nat) : Int) from rfl) (by decide)
    refine stp (fun _ => X0.baloadBytes hx (j := (2 : Int32)) (v := (.int (fb 2))) (by rw [e0]; exact Ar18.1) (State.isArrayOf_alike hZ.alike Ar18.2.1) Ar18.2.2 in18 at18 (g := (mkF m 88 #[.val (.ref va), .val (.int pz), .val (.ref vb), .val (.int (0 : Int32)), .val (.int (4 : Int32)), .val (.int (2 : Int32)), .unset, .unset] [(.int (2 : Int32)), (.ref vb), (.int (fa (pn + 2)))])) rfl rfl (hb hby d13_88) _) ?_
    show Go p e below T0 (mkF m 89 #[.val (.ref va), .val (.int pz), .val (.ref vb), .val (.int (0 : Int32)), .val (.int (4 : Int32)), .val (.int (2 : Int32)), .unset, .unset] [(.int (fb 2)), (.int (fa (pn + 2)))]) _
    refine stp (fun _ => XS.icmpYes X0.here hx rfl (pc0 := 89) (pc' := 95) rfl (hb hby d13_89) rfl (XT.ii_eq_t (he 2 (by decide))) (by decide) (by decide)) ?_
    show Go p e below T0 (mkF m 95 #[.val (.ref va), .val (.int pz), .val (.ref vb), .val (.int (0 : Int32)), .val (.int (4 : Int32)), .val (.int (2 : Int32)), .unset, .unset] []) _
    refine stp (fun _ => XS.iinc X0.here hx rfl (hb hby d13_95) rfl (l' := #[.val (.ref va), .val (.int pz), .val (.ref vb), .val (.int (0 : Int32)), .val (.int (4 : Int32)), .val (.int (3 : Int32)), .unset, .unset]) rfl) ?_
    show Go p e below T0 (mkF m 98 #[.val (.ref va), .val (.int pz), .val (.ref vb), .val (.int (0 : Int32)), .val (.int (4 : Int32)), .val (.int (3 : Int32)), .unset, .unset] []) _
    refine stp (fun _ => XS.goto X0.here hx rfl (pc0 := 98) (pc' := 70) rfl (hb hby d13_98) (by decide) (by decide)) ?_
    show Go p e below T0 (mkF m 70 #[.val (.ref va), .val (.int pz), .val (.ref vb), .val (.int (0 : Int32)), .val (.int (4 : Int32)), .val (.int (3 : Int32)), .unset, .unset] []) _
    refine stp (fun _ => XS.iload X0.here hx rfl (hb hby d13_70) rfl) ?_
    show Go p e below T0 (mkF m 72 #[.val (.ref va), .val (.int pz), .val (.ref vb), .val (.int (0 : Int32)), .val (.int (4 : Int32)), .val (.int (3 : Int32)), .unset, .unset] [(.int (3 : Int32))]) _
    refine stp (fun _ => XS.iload X0.here hx rfl (hb hby d13_72) rfl) ?_
    show Go p e below T0 (mkF m 74 #[.val (.ref va), .val (.int pz), .val (.ref vb), .val (.int (0 : Int32)), .val (.int (4 : Int32)), .val (.int (3 : Int32)), .unset, .unset] [(.int (4 : Int32)), (.int (3 : Int32))]) _
    refine stp (fun _ => XS.icmpNo X0.here hx rfl (hb hby d13_74) rfl (by decide)) ?_
    show Go p e below T0 (mkF m 77 #[.val (.ref va), .val (.int pz), .val (.ref vb), .val (.int (0 : Int32)), .val (.int (4 : Int32)), .val (.int (3 : Int32)), .unset, .unset] []) _
    refine stp (fun _ => XS.aloadN X0.here hx rfl (hb hby d13_77) rfl rfl) ?_
    show Go p e below T0 (mkF m 78 #[.val (.ref va), .val (.int pz), .val (.ref vb), .val (.int (0 : Int32)), .val (.int (4 : Int32)), .val (.int (3 : Int32)), .unset, .unset] [(.ref va)]) _
    refine stp (fun _ => XS.iloadN X0.here hx rfl (hb hby d13_78) rfl) ?_
    show Go p e below T0 (mkF m 79 #[.val (.ref va), .val (.int pz), .val (.ref vb), .val (.int (0 : Int32)), .val (.int (4 : Int32)), .val (.int (3 : Int32)), .unset, .unset] [(.int pz), (.ref va)]) _
    refine stp (fun _ => XS.iload X0.here hx rfl (hb hby d13_79) rfl) ?_
    show Go p e below T0 (mkF m 81 #[.val (.ref va), .val (.int pz), .val (.ref vb), .val (.int (0 : Int32)), .val (.int (4 : Int32)), .val (.int (3 : Int32)), .unset, .unset] [(.int (3 : Int32)), (.int pz), (.ref va)]) _
    refine stp (fun _ => XS.iadd X0.here hx rfl (hb hby d13_81) rfl) ?_
    show Go p e below T0 (mkF m 82 #[.val (.ref va), .val (.int pz), .val (.ref vb), .val (.int (0 : Int32)), .val (.int (4 : Int32)), .val (.int (3 : Int32)), .unset, .unset] [(.int (pz + (3 : Int32))), (.ref va)]) _
    obtain ⟨cl19, Ar19, q19, S19, H19, G19⟩ := (id V_va)
    have in19 : ¬ ((pz + (3 : Int32)) < 0 ∨ cl19.slots.size ≤ ((pz + (3 : Int32))).toNatClampNeg) := arf_in S19 (own_addI (i := 3) hp (by decide) (by omega)) (by omega)
    have at19 : cl19.slots[((pz + (3 : Int32))).toNatClampNeg]? = some (.int (fa (pn + 3))) := arf_at H19 (own_addI (i := 3) hp (by decide) (by omega)) (by omega)
    refine stp (fun _ => X0.baloadBytes hx (j := (pz + (3 : Int32))) (v := (.int (fa (pn + 3)))) (by rw [e0]; exact Ar19.1) (State.isArrayOf_alike hZ.alike Ar19.2.1) Ar19.2.2 in19 at19 (g := (mkF m 82 #[.val (.ref va), .val (.int pz), .val (.ref vb), .val (.int (0 : Int32)), .val (.int (4 : Int32)), .val (.int (3 : Int32)), .unset, .unset] [(.int (pz + (3 : Int32))), (.ref va)])) rfl rfl (hb hby d13_82) _) ?_
    show Go p e below T0 (mkF m 83 #[.val (.ref va), .val (.int pz), .val (.ref vb), .val (.int (0 : Int32)), .val (.int (4 : Int32)), .val (.int (3 : Int32)), .unset, .unset] [(.int (fa (pn + 3)))]) _
    refine stp (fun _ => XS.aloadN X0.here hx rfl (hb hby d13_83) rfl rfl) ?_
    show Go p e below T0 (mkF m 84 #[.val (.ref va), .val (.int pz), .val (.ref vb), .val (.int (0 : Int32)), .val (.int (4 : Int32)), .val (.int (3 : Int32)), .unset, .unset] [(.ref vb), (.int (fa (pn + 3)))]) _
    refine stp (fun _ => XS.iloadN X0.here hx rfl (hb hby d13_84) rfl) ?_
    show Go p e below T0 (mkF m 85 #[.val (.ref va), .val (.int pz), .val (.ref vb), .val (.int (0 : Int32)), .val (.int (4 : Int32)), .val (.int (3 : Int32)), .unset, .unset] [(.int (0 : Int32)), (.ref vb), (.int (fa (pn + 3)))]) _
    refine stp (fun _ => XS.iload X0.here hx rfl (hb hby d13_85) rfl) ?_
    show Go p e below T0 (mkF m 87 #[.val (.ref va), .val (.int pz), .val (.ref vb), .val (.int (0 : Int32)), .val (.int (4 : Int32)), .val (.int (3 : Int32)), .unset, .unset] [(.int (3 : Int32)), (.int (0 : Int32)), (.ref vb), (.int (fa (pn + 3)))]) _
    refine stp (fun _ => XS.iadd X0.here hx rfl (hb hby d13_87) rfl) ?_
    show Go p e below T0 (mkF m 88 #[.val (.ref va), .val (.int pz), .val (.ref vb), .val (.int (0 : Int32)), .val (.int (4 : Int32)), .val (.int (3 : Int32)), .unset, .unset] [(.int (3 : Int32)), (.ref vb), (.int (fa (pn + 3)))]) _
    obtain ⟨cl20, Ar20, q20, S20, H20, G20⟩ := (id V_vb)
    have in20 : ¬ ((3 : Int32) < 0 ∨ cl20.slots.size ≤ ((3 : Int32)).toNatClampNeg) := arf_in S20 (show (3 : Int32).toInt = ((3 : Nat) : Int) from rfl) (by decide)
    have at20 : cl20.slots[((3 : Int32)).toNatClampNeg]? = some (.int (fb 3)) := arf_at H20 (show (3 : Int32).toInt = ((3 : Nat) : Int) from rfl) (by decide)
    refine stp (fun _ => X0.baloadBytes hx (j := (3 : Int32)) (v := (.int (fb 3))) (by rw [e0]; exact Ar20.1) (State.isArrayOf_alike hZ.alike Ar20.2.1) Ar20.2.2 in20 at20 (g := (mkF m 88 #[.val (.ref va), .val (.int pz), .val (.ref vb), .val (.int (0 : Int32)), .val (.int (4 : Int32)), .val (.int (3 : Int32)), .unset, .unset] [(.int (3 : Int32)), (.ref vb), (.int (fa (pn + 3)))])) rfl rfl (hb hby d13_88) _) ?_
    show Go p e below T0 (mkF m 89 #[.val (.ref va), .val (.int pz), .val (.ref vb), .val (.int (0 : Int32)), .val (.int (4 : Int32)), .val (.int (3 : Int32)), .unset, .unset] [(.int (fb 3)), (.int (fa (pn + 3)))]) _
    refine stp (fun _ => XS.icmpYes X0.here hx rfl (pc0 := 89) (pc' := 95) rfl (hb hby d13_89) rfl (XT.ii_eq_t (he 3 (by decide))) (by decide) (by decide)) ?_
    show Go p e below T0 (mkF m 95 #[.val (.ref va), .val (.int pz), .val (.ref vb), .val (.int (0 : Int32)), .val (.int (4 : Int32)), .val (.int (3 : Int32)), .unset, .unset] []) _
    refine stp (fun _ => XS.iinc X0.here hx rfl (hb hby d13_95) rfl (l' := #[.val (.ref va), .val (.int pz), .val (.ref vb), .val (.int (0 : Int32)), .val (.int (4 : Int32)), .val (.int (4 : Int32)), .unset, .unset]) rfl) ?_
    show Go p e below T0 (mkF m 98 #[.val (.ref va), .val (.int pz), .val (.ref vb), .val (.int (0 : Int32)), .val (.int (4 : Int32)), .val (.int (4 : Int32)), .unset, .unset] []) _
    refine stp (fun _ => XS.goto X0.here hx rfl (pc0 := 98) (pc' := 70) rfl (hb hby d13_98) (by decide) (by decide)) ?_
    show Go p e below T0 (mkF m 70 #[.val (.ref va), .val (.int pz), .val (.ref vb), .val (.int (0 : Int32)), .val (.int (4 : Int32)), .val (.int (4 : Int32)), .unset, .unset] []) _
    refine stp (fun _ => XS.iload X0.here hx rfl (hb hby d13_70) rfl) ?_
    show Go p e below T0 (mkF m 72 #[.val (.ref va), .val (.int pz), .val (.ref vb), .val (.int (0 : Int32)), .val (.int (4 : Int32)), .val (.int (4 : Int32)), .unset, .unset] [(.int (4 : Int32))]) _
    refine stp (fun _ => XS.iload X0.here hx rfl (hb hby d13_72) rfl) ?_
    show Go p e below T0 (mkF m 74 #[.val (.ref va), .val (.int pz), .val (.ref vb), .val (.int (0 : Int32)), .val (.int (4 : Int32)), .val (.int (4 : Int32)), .unset, .unset] [(.int (4 : Int32)), (.int (4 : Int32))]) _
    refine stp (fun _ => XS.icmpYes X0.here hx rfl (pc0 := 74) (pc' := 101) rfl (hb hby d13_74) rfl (by decide) (by decide) (by decide)) ?_
    show Go p e below T0 (mkF m 101 #[.val (.ref va), .val (.int pz), .val (.ref vb), .val (.int (0 : Int32)), .val (.int (4 : Int32)), .val (.int (4 : Int32)), .unset, .unset] []) _
    refine stp (fun _ => XS.iconst X0.here hx rfl (hb hby d13_101)) ?_
    show Go p e below T0 (mkF m 102 #[.val (.ref va), .val (.int pz), .val (.ref vb), .val (.int (0 : Int32)), .val (.int (4 : Int32)), .val (.int (4 : Int32)), .unset, .unset] [(.int (-1 : Int32))]) _
    refine outI X0 hx hret (hb hby d13_102) hlk (by decide) (by decide) ?_
    exact ⟨rfl, N0, e0⟩
theorem d10_0 : decode jdk_42_method_75_code 0 = .ok (.iload_n 2, 1) := by decide +kernel
theorem d10_1 : decode jdk_42_method_75_code 1 = .ok (.ifCond .lt 16, 3) := by decide +kernel
theorem d10_4 : decode jdk_42_method_75_code 4 = .ok (.iload_n 2, 1) := by decide +kernel
theorem d10_5 : decode jdk_42_method_75_code 5 = .ok (.aload_n 0, 1) := by decide +kernel
theorem d10_6 : decode jdk_42_method_75_code 6 = .ok (.invokevirtual 505, 3) := by decide +kernel
theorem pd_7 : parseMethodDescriptor "()I" = some ⟨[], some .int⟩ := by decide +kernel
theorem d10_9 : decode jdk_42_method_75_code 9 = .ok (.aload_n 1, 1) := by decide +kernel
theorem d10_10 : decode jdk_42_method_75_code 10 = .ok (.invokevirtual 505, 3) := by decide +kernel
theorem d10_13 : decode jdk_42_method_75_code 13 = .ok (.isub, 1) := by decide +kernel
theorem d10_14 : decode jdk_42_method_75_code 14 = .ok (.if_icmp .le 5, 3) := by decide +kernel
theorem d10_19 : decode jdk_42_method_75_code 19 = .ok (.aload_n 0, 1) := by decide +kernel
theorem d10_20 : decode jdk_42_method_75_code 20 = .ok (.getfield 9, 3) := by decide +kernel
theorem d10_23 : decode jdk_42_method_75_code 23 = .ok (.astore_n 3, 1) := by decide +kernel
theorem d10_24 : decode jdk_42_method_75_code 24 = .ok (.aload_n 1, 1) := by decide +kernel
theorem d10_25 : decode jdk_42_method_75_code 25 = .ok (.getfield 9, 3) := by decide +kernel
theorem d10_28 : decode jdk_42_method_75_code 28 = .ok (.astore 4, 2) := by decide +kernel
theorem d10_30 : decode jdk_42_method_75_code 30 = .ok (.iconst 0, 1) := by decide +kernel
theorem d10_31 : decode jdk_42_method_75_code 31 = .ok (.istore 5, 2) := by decide +kernel
theorem d10_33 : decode jdk_42_method_75_code 33 = .ok (.aload 4, 2) := by decide +kernel
theorem d10_35 : decode jdk_42_method_75_code 35 = .ok (.arraylength, 1) := by decide +kernel
theorem d10_36 : decode jdk_42_method_75_code 36 = .ok (.istore 6, 2) := by decide +kernel
theorem d10_38 : decode jdk_42_method_75_code 38 = .ok (.aload_n 0, 1) := by decide +kernel
theorem d10_39 : decode jdk_42_method_75_code 39 = .ok (.invokevirtual 335, 3) := by decide +kernel
theorem d10_42 : decode jdk_42_method_75_code 42 = .ok (.istore 7, 2) := by decide +kernel
theorem d10_44 : decode jdk_42_method_75_code 44 = .ok (.iload 7, 2) := by decide +kernel
theorem d10_46 : decode jdk_42_method_75_code 46 = .ok (.aload_n 1, 1) := by decide +kernel
theorem d10_47 : decode jdk_42_method_75_code 47 = .ok (.invokevirtual 335, 3) := by decide +kernel
theorem d10_50 : decode jdk_42_method_75_code 50 = .ok (.if_icmp .ne 32, 3) := by decide +kernel
theorem d10_53 : decode jdk_42_method_75_code 53 = .ok (.iload 7, 2) := by decide +kernel
theorem d10_55 : decode jdk_42_method_75_code 55 = .ok (.iconst 1, 1) := by decide +kernel
theorem d10_56 : decode jdk_42_method_75_code 56 = .ok (.if_icmp .ne 7, 3) := by decide +kernel
theorem d10_63 : decode jdk_42_method_75_code 63 = .ok (.aload_n 3, 1) := by decide +kernel
theorem d10_64 : decode jdk_42_method_75_code 64 = .ok (.iload_n 2, 1) := by decide +kernel
theorem d10_65 : decode jdk_42_method_75_code 65 = .ok (.aload 4, 2) := by decide +kernel
theorem d10_67 : decode jdk_42_method_75_code 67 = .ok (.iconst 0, 1) := by decide +kernel
theorem d10_68 : decode jdk_42_method_75_code 68 = .ok (.iload 6, 2) := by decide +kernel
theorem d10_70 : decode jdk_42_method_75_code 70 = .ok (.invokestatic 607, 3) := by decide +kernel
theorem pd_8 : parseMethodDescriptor "([BI[BII)I" = some ⟨[(.array .byte), .int, (.array .byte), .int, .int], some .int⟩ := by decide +kernel
theorem d10_73 : decode jdk_42_method_75_code 73 = .ok (.ifCond .ge 7, 3) := by decide +kernel
theorem d10_76 : decode jdk_42_method_75_code 76 = .ok (.iconst 1, 1) := by decide +kernel
theorem d10_77 : decode jdk_42_method_75_code 77 = .ok (.goto 4, 3) := by decide +kernel
theorem d10_81 : decode jdk_42_method_75_code 81 = .ok (.ireturn, 1) := by decide +kernel
theorem ef_rm_sw (m : MethodId) (t : Addr) (o : Addr) (pz : Int32)  : entryFrame m #[(.ref t), (.ref o), (.int pz)] 8 = mkF m 0 #[.val (.ref t), .val (.ref o), .val (.int pz), .unset, .unset, .unset, .unset, .unset] [] := by first | (simp [entryFrame, mkF, argsToLocals, Value.category]; done) | rfl
def Q_rm_sw (Z : State) (t : Addr) (o : Addr) (pz : Int32) (cs : List Int32) (ds : List Int32) (cz : Int32) (pn : Nat) (h0 : Heap) (n0 : Nat) (v : Option Value) (h : Heap) (L : List Loc) : Prop := v = some (.int (1 : Int32)) ∧ Fr n0 L ∧ h = h0
theorem pn_10_ : plainName "java/lang/String" = true := by first | (simp [plainName, overriddenIn]; done) | decide +kernel
theorem pn_10 : plainFor (⟨"java/lang/String", "startsWith", "(Ljava/lang/String;I)Z"⟩ : MethodName) = true := plainFor_of_name pn_10_
set_option maxRecDepth 65536 in
set_option maxHeartbeats 40000000 in
theorem rm_sw (l : Launch) (Z : State) (a0 : Array Value) (hw : ∀ d ∈ tables_1, d.before a0 Z = true) (ws : List Jvm.Cond) (t : Addr) (o : Addr) (pz : Int32) (cs : List Int32) (ds : List Int32) (cz : Int32) (pn : Nat) (h0 : Heap) (n0 : Nat) (O0 : Old Z n0 h0) (Q_t : StrIs Z h0 t cs) (Q_o : StrIs Z h0 o ds) (S_COMPACT_STRINGS : Sta Z Z.heap "java/lang/String" "COMPACT_STRINGS" "Z" (.int cz)) (hcz : ¬ cz = (0 : Int32)) (hp : pz.toInt = (pn : Int)) (h0_ : ¬ pz < 0) (hle : ¬ ((Int32.ofNat cs.length) - (Int32.ofNat ds.length)) < pz) (hd : ds.length ≤ 4) (hpl : pn + ds.length ≤ cs.length) (he : ∀ i, i < ds.length → own_by cs (pn + i) = own_by ds i) :
    MetFree l (⟨"java/lang/String", "startsWith", "(Ljava/lang/String;I)Z"⟩ : MethodName) (head1 (Jvm.Cond.code (⟨"java/lang/String", "startsWith", "(Ljava/lang/String;I)Z"⟩ : MethodName) jdk_42_method_75_code 8 (some .boolean) :: ws) ({ frames := 2, cells := 0, slots := 0, locals := 27 } : Room)) (fun args_ U => args_ = #[(.ref t), (.ref o), (.int pz)] ∧ Z.Warmed39 U.vm ∧ U.heap = h0) (fun _ _ _ _ _ => True) (fun _ U out_ U' => ∃ val_ loc_, out_ = .returned val_ ∧ (Q_rm_sw Z t o pz cs ds cz pn h0 n0) val_ U'.heap loc_ ∧ FrameEnd U out_ U' loc_ ({ frames := 2, cells := 0, slots := 0, locals := 27 } : Room).cells ({ frames := 2, cells := 0, slots := 0, locals := 27 } : Room).slots) := by
  refine start (Q := (Q_rm_sw Z t o pz cs ds cz pn h0 n0)) pn_10 ?_
  intro p e s m below meth c T0 X0 hx hby hml hown hnm hret hlk hZ e0
  replace hown : s.vm.findClass "java/lang/String" = some m.cls := hown
  replace hml : c.maxLocals = 8 := hml
  refine goAt (ef_rm_sw m t o pz ) ?_
  have N0 := Fr.nil n0
  obtain ⟨tv_t, kv_t, Eo_t, Fv_t, Fc_t, Kv_t, hp_t, hl_t⟩ := (id Q_t)
  have Va_t : Arf Z h0 tv_t kv_t .byte cs.length (fun i => (.int (own_by cs i))) := (Arv.arf Kv_t (own_ofNat hl_t)).congr fun i _ => own_byv cs i
  obtain ⟨tv_o, kv_o, Eo_o, Fv_o, Fc_o, Kv_o, hp_o, hl_o⟩ := (id Q_o)
  have Va_o : Arf Z h0 tv_o kv_o .byte ds.length (fun i => (.int (own_by ds i))) := (Arv.arf Kv_o (own_ofNat hl_o)).congr fun i _ => own_byv ds i
  show Go p e below T0 (mkF m 0 #[.val (.ref t), .val (.ref o), .val (.int pz), .unset, .unset, .unset, .unset, .unset] []) _
  refine stp (fun _ => XS.iloadN X0.here hx rfl (hb hby d10_0) rfl) ?_
  show Go p e below T0 (mkF m 1 #[.val (.ref t), .val (.ref o), .val (.int pz), .unset, .unset, .unset, .unset, .unset] [(.int pz)]) _
  refine stp (fun _ => XS.ifNo X0.here hx rfl (hb hby d10_1) rfl (XT.i0_lt_f h0_)) ?_
  show Go p e below T0 (mkF m 4 #[.val (.ref t), .val (.ref o), .val (.int pz), .unset, .unset, .unset, .unset, .unset] []) _
  refine stp (fun _ => XS.iloadN X0.here hx rfl (hb hby d10_4) rfl) ?_
  show Go p e below T0 (mkF m 5 #[.val (.ref t), .val (.ref o), .val (.int pz), .unset, .unset, .unset, .unset, .unset] [(.int pz)]) _
  refine stp (fun _ => XS.aloadN X0.here hx rfl (hb hby d10_5) rfl rfl) ?_
  show Go p e below T0 (mkF m 6 #[.val (.ref t), .val (.ref o), .val (.int pz), .unset, .unset, .unset, .unset, .unset] [(.ref t), (.int pz)]) _
  obtain ⟨cq1, kq1, q1a, q1b, q1c⟩ := isOf hZ e0 Eo_t
  obtain ⟨_, _, ⟨T1, L1, k1, n1⟩, -, X1, ⟨Lc1, hQ1, l1, y1, z1⟩, st1⟩ := X0.virtualBack hx (y := (⟨"java/lang/String", "length", "()I"⟩ : MethodName)) (z := (⟨"java/lang/String", "length", "()I"⟩ : MethodName)) hown (mvT hZ (hw _ (List.mem_of_getElem? (i := 55) rfl))) (mvT hZ (hw _ (List.mem_of_getElem? (i := 56) rfl))) (notFace_of_selects (args := #[]) (mvT hZ (hw _ (List.mem_of_getElem? (i := 58) rfl)))) (mvT hZ (hw _ (List.mem_of_getElem? (i := 58) rfl))) (mvT hZ (hw _ (List.mem_of_getElem? (i := 57) rfl))) (by decide) (backOf (W := 1) (rm_slen l Z a0 hw [] t cs cz h0 n0 O0 Q_t S_COMPACT_STRINGS hcz) hZ (hw _ (List.mem_of_getElem? (i := 59) rfl)) (hw _ (List.mem_of_getElem? (i := 7) rfl)) (by decide) (by decide)) q1a q1c (g := (mkF m 6 #[.val (.ref t), .val (.ref o), .val (.int pz), .unset, .unset, .unset, .unset, .unset] [(.ref t), (.int pz)])) rfl (by rw [hml]; rfl) (Steps.refl _) (argsL := []) (rest := [(.int pz)]) (lenOf pd_7 rfl) rfl (by show 2 * 0 + _ ≤ _; exact Nat.le_of_eq rfl) (hb hby d10_6) (fun _ _ => ⟨rfl, e0, (by decide : 0 + 0 ≤ _), (by decide : 0 + 0 ≤ _)⟩)
  dsimp only [Pt.U, Pt.locs, Pt.cells, Pt.slots] at X1 l1 y1 z1 st1 hQ1
  subst y1 z1
  obtain ⟨rfl, N1q, e1⟩ := hQ1
  have N1 : Fr n0 L1 := by rw [l1]; exact Fr.app N0 N1q
  refine stt st1 ?_
  show Go p e below T1 (mkF m 9 #[.val (.ref t), .val (.ref o), .val (.int pz), .unset, .unset, .unset, .unset, .unset] [(.int (Int32.ofNat cs.length)), (.int pz)]) _
  refine stp (fun _ => XS.aloadN X1.here hx rfl (hb hby d10_9) rfl rfl) ?_
  show Go p e below T1 (mkF m 10 #[.val (.ref t), .val (.ref o), .val (.int pz), .unset, .unset, .unset, .unset, .unset] [(.ref o), (.int (Int32.ofNat cs.length)), (.int pz)]) _
  obtain ⟨cq2, kq2, q2a, q2b, q2c⟩ := isOf hZ e1 Eo_o
  obtain ⟨_, _, ⟨T2, L2, k2, n2⟩, -, X2, ⟨Lc2, hQ2, l2, y2, z2⟩, st2⟩ := X1.virtualBack hx (y := (⟨"java/lang/String", "length", "()I"⟩ : MethodName)) (z := (⟨"java/lang/String", "length", "()I"⟩ : MethodName)) hown (mvT hZ (hw _ (List.mem_of_getElem? (i := 55) rfl))) (mvT hZ (hw _ (List.mem_of_getElem? (i := 56) rfl))) (notFace_of_selects (args := #[]) (mvT hZ (hw _ (List.mem_of_getElem? (i := 58) rfl)))) (mvT hZ (hw _ (List.mem_of_getElem? (i := 58) rfl))) (mvT hZ (hw _ (List.mem_of_getElem? (i := 57) rfl))) (by decide) (backOf (W := 2) (rm_slen l Z a0 hw [] o ds cz h0 n0 O0 Q_o S_COMPACT_STRINGS hcz) hZ (hw _ (List.mem_of_getElem? (i := 59) rfl)) (hw _ (List.mem_of_getElem? (i := 7) rfl)) (by decide) (by decide)) q2a q2c (g := (mkF m 10 #[.val (.ref t), .val (.ref o), .val (.int pz), .unset, .unset, .unset, .unset, .unset] [(.ref o), (.int (Int32.ofNat cs.length)), (.int pz)])) rfl (by rw [hml]; rfl) (Steps.refl _) (argsL := []) (rest := [(.int (Int32.ofNat cs.length)), (.int pz)]) (lenOf pd_7 rfl) rfl (by show 2 * 0 + _ ≤ _; exact Nat.le_of_eq rfl) (hb hby d10_10) (fun _ _ => ⟨rfl, e1, (by decide : 0 + 0 ≤ _), (by decide : 0 + 0 ≤ _)⟩)
  dsimp only [Pt.U, Pt.locs, Pt.cells, Pt.slots] at X2 l2 y2 z2 st2 hQ2
  subst y2 z2
  obtain ⟨rfl, N2q, e2⟩ := hQ2
  have N2 : Fr n0 L2 := by rw [l2]; exact Fr.app N1 N2q
  refine stt st2 ?_
  show Go p e below T2 (mkF m 13 #[.val (.ref t), .val (.ref o), .val (.int pz), .unset, .unset, .unset, .unset, .unset] [(.int (Int32.ofNat ds.length)), (.int (Int32.ofNat cs.length)), (.int pz)]) _
  refine stp (fun _ => XS.isub X2.here hx rfl (hb hby d10_13) rfl) ?_
  show Go p e below T2 (mkF m 14 #[.val (.ref t), .val (.ref o), .val (.int pz), .unset, .unset, .unset, .unset, .unset] [(.int ((Int32.ofNat cs.length) - (Int32.ofNat ds.length))), (.int pz)]) _
  refine stp (fun _ => XS.icmpYes X2.here hx rfl (pc0 := 14) (pc' := 19) rfl (hb hby d10_14) rfl (XT.ii_le_t hle) (by decide) (by decide)) ?_
  show Go p e below T2 (mkF m 19 #[.val (.ref t), .val (.ref o), .val (.int pz), .unset, .unset, .unset, .unset, .unset] []) _
  refine stp (fun _ => XS.aloadN X2.here hx rfl (hb hby d10_19) rfl rfl) ?_
  show Go p e below T2 (mkF m 20 #[.val (.ref t), .val (.ref o), .val (.int pz), .unset, .unset, .unset, .unset, .unset] [(.ref t)]) _
  obtain ⟨T3, X3, e3, st3⟩ := getF X2 hx hZ hown (host := "") (Or.inl (hw _ (List.mem_of_getElem? (i := 32) rfl))) Via.refl e2 Fv_t (g := (mkF m 20 #[.val (.ref t), .val (.ref o), .val (.int pz), .unset, .unset, .unset, .unset, .unset] [(.ref t)])) rfl rfl (hb hby d10_20)
  refine stp st3 ?_
  show Go p e below T3 (mkF m 23 #[.val (.ref t), .val (.ref o), .val (.int pz), .unset, .unset, .unset, .unset, .unset] [(.ref tv_t)]) _
  refine stp (fun _ => XS.astoreN X3.here hx rfl (hb hby d10_23) rfl rfl (l' := #[.val (.ref t), .val (.ref o), .val (.int pz), .val (.ref tv_t), .unset, .unset, .unset, .unset]) rfl) ?_
  show Go p e below T3 (mkF m 24 #[.val (.ref t), .val (.ref o), .val (.int pz), .val (.ref tv_t), .unset, .unset, .unset, .unset] []) _
  refine stp (fun _ => XS.aloadN X3.here hx rfl (hb hby d10_24) rfl rfl) ?_
  show Go p e below T3 (mkF m 25 #[.val (.ref t), .val (.ref o), .val (.int pz), .val (.ref tv_t), .unset, .unset, .unset, .unset] [(.ref o)]) _
  obtain ⟨T4, X4, e4, st4⟩ := getF X3 hx hZ hown (host := "") (Or.inl (hw _ (List.mem_of_getElem? (i := 32) rfl))) Via.refl e3 Fv_o (g := (mkF m 25 #[.val (.ref t), .val (.ref o), .val (.int pz), .val (.ref tv_t), .unset, .unset, .unset, .unset] [(.ref o)])) rfl rfl (hb hby d10_25)
  refine stp st4 ?_
  show Go p e below T4 (mkF m 28 #[.val (.ref t), .val (.ref o), .val (.int pz), .val (.ref tv_t), .unset, .unset, .unset, .unset] [(.ref tv_o)]) _
  refine stp (fun _ => XS.astore X4.here hx rfl (hb hby d10_28) rfl rfl (l' := #[.val (.ref t), .val (.ref o), .val (.int pz), .val (.ref tv_t), .val (.ref tv_o), .unset, .unset, .unset]) rfl) ?_
  show Go p e below T4 (mkF m 30 #[.val (.ref t), .val (.ref o), .val (.int pz), .val (.ref tv_t), .val (.ref tv_o), .unset, .unset, .unset] []) _
  refine stp (fun _ => XS.iconst X4.here hx rfl (hb hby d10_30)) ?_
  show Go p e below T4 (mkF m 31 #[.val (.ref t), .val (.ref o), .val (.int pz), .val (.ref tv_t), .val (.ref tv_o), .unset, .unset, .unset] [(.int (0 : Int32))]) _
  refine stp (fun _ => XS.istore X4.here hx rfl (hb hby d10_31) rfl (l' := #[.val (.ref t), .val (.ref o), .val (.int pz), .val (.ref tv_t), .val (.ref tv_o), .val (.int (0 : Int32)), .unset, .unset]) rfl) ?_
  show Go p e below T4 (mkF m 33 #[.val (.ref t), .val (.ref o), .val (.int pz), .val (.ref tv_t), .val (.ref tv_o), .val (.int (0 : Int32)), .unset, .unset] []) _
  refine stp (fun _ => XS.aload X4.here hx rfl (hb hby d10_33) rfl rfl) ?_
  show Go p e below T4 (mkF m 35 #[.val (.ref t), .val (.ref o), .val (.int pz), .val (.ref tv_t), .val (.ref tv_o), .val (.int (0 : Int32)), .unset, .unset] [(.ref tv_o)]) _
  obtain ⟨cl5, Ar5, -, S5, -, -⟩ := (id Va_o)
  refine stp (fun _ => X4.arraylength hx (by rw [e4]; exact Ar5.1) (State.isArrayOf_alike hZ.alike Ar5.2.1) (g := (mkF m 35 #[.val (.ref t), .val (.ref o), .val (.int pz), .val (.ref tv_t), .val (.ref tv_o), .val (.int (0 : Int32)), .unset, .unset] [(.ref tv_o)])) rfl rfl (hb hby d10_35) _) ?_
  rw [arf_len S5 (z := (Int32.ofNat ds.length)) (own_ofNatI hl_o)]
  show Go p e below T4 (mkF m 36 #[.val (.ref t), .val (.ref o), .val (.int pz), .val (.ref tv_t), .val (.ref tv_o), .val (.int (0 : Int32)), .unset, .unset] [(.int (Int32.ofNat ds.length))]) _
  refine stp (fun _ => XS.istore X4.here hx rfl (hb hby d10_36) rfl (l' := #[.val (.ref t), .val (.ref o), .val (.int pz), .val (.ref tv_t), .val (.ref tv_o), .val (.int (0 : Int32)), .val (.int (Int32.ofNat ds.length)), .unset]) rfl) ?_
  show Go p e below T4 (mkF m 38 #[.val (.ref t), .val (.ref o), .val (.int pz), .val (.ref tv_t), .val (.ref tv_o), .val (.int (0 : Int32)), .val (.int (Int32.ofNat ds.length)), .unset] []) _
  refine stp (fun _ => XS.aloadN X4.here hx rfl (hb hby d10_38) rfl rfl) ?_
  show Go p e below T4 (mkF m 39 #[.val (.ref t), .val (.ref o), .val (.int pz), .val (.ref tv_t), .val (.ref tv_o), .val (.int (0 : Int32)), .val (.int (Int32.ofNat ds.length)), .unset] [(.ref t)]) _
  obtain ⟨cq6, kq6, q6a, q6b, q6c⟩ := isOf hZ e4 Eo_t
  obtain ⟨_, _, ⟨T6, L6, k6, n6⟩, -, X6, ⟨Lc6, hQ6, l6, y6, z6⟩, st6⟩ := X4.virtualBack hx (y := (⟨"java/lang/String", "coder", "()B"⟩ : MethodName)) (z := (⟨"java/lang/String", "coder", "()B"⟩ : MethodName)) hown (mvT hZ (hw _ (List.mem_of_getElem? (i := 60) rfl))) (mvT hZ (hw _ (List.mem_of_getElem? (i := 61) rfl))) (notFace_of_selects (args := #[]) (mvT hZ (hw _ (List.mem_of_getElem? (i := 63) rfl)))) (mvT hZ (hw _ (List.mem_of_getElem? (i := 63) rfl))) (mvT hZ (hw _ (List.mem_of_getElem? (i := 62) rfl))) (by decide) (backOf (W := 0) (rm_coder l Z a0 hw [] t cs cz h0 n0 O0 Q_t S_COMPACT_STRINGS hcz) hZ (hw _ (List.mem_of_getElem? (i := 64) rfl)) (hw _ (List.mem_of_getElem? (i := 7) rfl)) (by decide) (by decide)) q6a q6c (g := (mkF m 39 #[.val (.ref t), .val (.ref o), .val (.int pz), .val (.ref tv_t), .val (.ref tv_o), .val (.int (0 : Int32)), .val (.int (Int32.ofNat ds.length)), .unset] [(.ref t)])) rfl (by rw [hml]; rfl) (Steps.refl _) (argsL := []) (rest := []) (lenOf pd_4 rfl) rfl (by show 2 * 0 + _ ≤ _; exact Nat.le_of_eq rfl) (hb hby d10_39) (fun _ _ => ⟨rfl, e4, (by decide : 0 + 0 ≤ _), (by decide : 0 + 0 ≤ _)⟩)
  dsimp only [Pt.U, Pt.locs, Pt.cells, Pt.slots] at X6 l6 y6 z6 st6 hQ6
  subst y6 z6
  obtain ⟨rfl, N6q, e6⟩ := hQ6
  have N6 : Fr n0 L6 := by rw [l6]; exact Fr.app N2 N6q
  refine stt st6 ?_
  show Go p e below T6 (mkF m 42 #[.val (.ref t), .val (.ref o), .val (.int pz), .val (.ref tv_t), .val (.ref tv_o), .val (.int (0 : Int32)), .val (.int (Int32.ofNat ds.length)), .unset] [(.int (0 : Int32))]) _
  refine stp (fun _ => XS.istore X6.here hx rfl (hb hby d10_42) rfl (l' := #[.val (.ref t), .val (.ref o), .val (.int pz), .val (.ref tv_t), .val (.ref tv_o), .val (.int (0 : Int32)), .val (.int (Int32.ofNat ds.length)), .val (.int (0 : Int32))]) rfl) ?_
  show Go p e below T6 (mkF m 44 #[.val (.ref t), .val (.ref o), .val (.int pz), .val (.ref tv_t), .val (.ref tv_o), .val (.int (0 : Int32)), .val (.int (Int32.ofNat ds.length)), .val (.int (0 : Int32))] []) _
  refine stp (fun _ => XS.iload X6.here hx rfl (hb hby d10_44) rfl) ?_
  show Go p e below T6 (mkF m 46 #[.val (.ref t), .val (.ref o), .val (.int pz), .val (.ref tv_t), .val (.ref tv_o), .val (.int (0 : Int32)), .val (.int (Int32.ofNat ds.length)), .val (.int (0 : Int32))] [(.int (0 : Int32))]) _
  refine stp (fun _ => XS.aloadN X6.here hx rfl (hb hby d10_46) rfl rfl) ?_
  show Go p e below T6 (mkF m 47 #[.val (.ref t), .val (.ref o), .val (.int pz), .val (.ref tv_t), .val (.ref tv_o), .val (.int (0 : Int32)), .val (.int (Int32.ofNat ds.length)), .val (.int (0 : Int32))] [(.ref o), (.int (0 : Int32))]) _
  obtain ⟨cq7, kq7, q7a, q7b, q7c⟩ := isOf hZ e6 Eo_o
  obtain ⟨_, _, ⟨T7, L7, k7, n7⟩, -, X7, ⟨Lc7, hQ7, l7, y7, z7⟩, st7⟩ := X6.virtualBack hx (y := (⟨"java/lang/String", "coder", "()B"⟩ : MethodName)) (z := (⟨"java/lang/String", "coder", "()B"⟩ : MethodName)) hown (mvT hZ (hw _ (List.mem_of_getElem? (i := 60) rfl))) (mvT hZ (hw _ (List.mem_of_getElem? (i := 61) rfl))) (notFace_of_selects (args := #[]) (mvT hZ (hw _ (List.mem_of_getElem? (i := 63) rfl)))) (mvT hZ (hw _ (List.mem_of_getElem? (i := 63) rfl))) (mvT hZ (hw _ (List.mem_of_getElem? (i := 62) rfl))) (by decide) (backOf (W := 1) (rm_coder l Z a0 hw [] o ds cz h0 n0 O0 Q_o S_COMPACT_STRINGS hcz) hZ (hw _ (List.mem_of_getElem? (i := 64) rfl)) (hw _ (List.mem_of_getElem? (i := 7) rfl)) (by decide) (by decide)) q7a q7c (g := (mkF m 47 #[.val (.ref t), .val (.ref o), .val (.int pz), .val (.ref tv_t), .val (.ref tv_o), .val (.int (0 : Int32)), .val (.int (Int32.ofNat ds.length)), .val (.int (0 : Int32))] [(.ref o), (.int (0 : Int32))])) rfl (by rw [hml]; rfl) (Steps.refl _) (argsL := []) (rest := [(.int (0 : Int32))]) (lenOf pd_4 rfl) rfl (by show 2 * 0 + _ ≤ _; exact Nat.le_of_eq rfl) (hb hby d10_47) (fun _ _ => ⟨rfl, e6, (by decide : 0 + 0 ≤ _), (by decide : 0 + 0 ≤ _)⟩)
  dsimp only [Pt.U, Pt.locs, Pt.cells, Pt.slots] at X7 l7 y7 z7 st7 hQ7
  subst y7 z7
  obtain ⟨rfl, N7q, e7⟩ := hQ7
  have N7 : Fr n0 L7 := by rw [l7]; exact Fr.app N6 N7q
  refine stt st7 ?_
  show Go p e below T7 (mkF m 50 #[.val (.ref t), .val (.ref o), .val (.int pz), .val (.ref tv_t), .val (.ref tv_o), .val (.int (0 : Int32)), .val (.int (Int32.ofNat ds.length)), .val (.int (0 : Int32))] [(.int (0 : Int32)), (.int (0 : Int32))]) _
  refine stp (fun _ => XS.icmpNo X7.here hx rfl (hb hby d10_50) rfl (by decide)) ?_
  show Go p e below T7 (mkF m 53 #[.val (.ref t), .val (.ref o), .val (.int pz), .val (.ref tv_t), .val (.ref tv_o), .val (.int (0 : Int32)), .val (.int (Int32.ofNat ds.length)), .val (.int (0 : Int32))] []) _
  refine stp (fun _ => XS.iload X7.here hx rfl (hb hby d10_53) rfl) ?_
  show Go p e below T7 (mkF m 55 #[.val (.ref t), .val (.ref o), .val (.int pz), .val (.ref tv_t), .val (.ref tv_o), .val (.int (0 : Int32)), .val (.int (Int32.ofNat ds.length)), .val (.int (0 : Int32))] [(.int (0 : Int32))]) _
  refine stp (fun _ => XS.iconst X7.here hx rfl (hb hby d10_55)) ?_
  show Go p e below T7 (mkF m 56 #[.val (.ref t), .val (.ref o), .val (.int pz), .val (.ref tv_t), .val (.ref tv_o), .val (.int (0 : Int32)), .val (.int (Int32.ofNat ds.length)), .val (.int (0 : Int32))] [(.int (1 : Int32)), (.int (0 : Int32))]) _
  refine stp (fun _ => XS.icmpYes X7.here hx rfl (pc0 := 56) (pc' := 63) rfl (hb hby d10_56) rfl (by decide) (by decide) (by decide)) ?_
  show Go p e below T7 (mkF m 63 #[.val (.ref t), .val (.ref o), .val (.int pz), .val (.ref tv_t), .val (.ref tv_o), .val (.int (0 : Int32)), .val (.int (Int32.ofNat ds.length)), .val (.int (0 : Int32))] []) _
  refine stp (fun _ => XS.aloadN X7.here hx rfl (hb hby d10_63) rfl rfl) ?_
  show Go p e below T7 (mkF m 64 #[.val (.ref t), .val (.ref o), .val (.int pz), .val (.ref tv_t), .val (.ref tv_o), .val (.int (0 : Int32)), .val (.int (Int32.ofNat ds.length)), .val (.int (0 : Int32))] [(.ref tv_t)]) _
  refine stp (fun _ => XS.iloadN X7.here hx rfl (hb hby d10_64) rfl) ?_
  show Go p e below T7 (mkF m 65 #[.val (.ref t), .val (.ref o), .val (.int pz), .val (.ref tv_t), .val (.ref tv_o), .val (.int (0 : Int32)), .val (.int (Int32.ofNat ds.length)), .val (.int (0 : Int32))] [(.int pz), (.ref tv_t)]) _
  refine stp (fun _ => XS.aload X7.here hx rfl (hb hby d10_65) rfl rfl) ?_
  show Go p e below T7 (mkF m 67 #[.val (.ref t), .val (.ref o), .val (.int pz), .val (.ref tv_t), .val (.ref tv_o), .val (.int (0 : Int32)), .val (.int (Int32.ofNat ds.length)), .val (.int (0 : Int32))] [(.ref tv_o), (.int pz), (.ref tv_t)]) _
  refine stp (fun _ => XS.iconst X7.here hx rfl (hb hby d10_67)) ?_
  show Go p e below T7 (mkF m 68 #[.val (.ref t), .val (.ref o), .val (.int pz), .val (.ref tv_t), .val (.ref tv_o), .val (.int (0 : Int32)), .val (.int (Int32.ofNat ds.length)), .val (.int (0 : Int32))] [(.int (0 : Int32)), (.ref tv_o), (.int pz), (.ref tv_t)]) _
  refine stp (fun _ => XS.iload X7.here hx rfl (hb hby d10_68) rfl) ?_
  show Go p e below T7 (mkF m 70 #[.val (.ref t), .val (.ref o), .val (.int pz), .val (.ref tv_t), .val (.ref tv_o), .val (.int (0 : Int32)), .val (.int (Int32.ofNat ds.length)), .val (.int (0 : Int32))] [(.int (Int32.ofNat ds.length)), (.int (0 : Int32)), (.ref tv_o), (.int pz), (.ref tv_t)]) _
  obtain ⟨_, _, ⟨T8, L8, k8, n8⟩, -, X8, ⟨Lc8, hQ8, l8, y8, z8⟩, st8⟩ := Jvm.LawKit.callS X7 hx (y := (⟨"jdk/internal/util/ArraysSupport", "mismatch", "([BI[BII)I"⟩ : MethodName)) hown (mvT hZ (hw _ (List.mem_of_getElem? (i := 65) rfl))) (mvT hZ (hw _ (List.mem_of_getElem? (i := 66) rfl))) (mvT hZ (hw _ (List.mem_of_getElem? (i := 67) rfl))) (mvT hZ (hw _ (List.mem_of_getElem? (i := 68) rfl))) (by decide) (backOf (W := 0) (rm_mm l Z a0 hw [] tv_t pz tv_o (Int32.ofNat ds.length) cs.length (own_by cs) ds.length (own_by ds) pn kv_t kv_o h0 n0 O0 Va_t Va_o hp (own_small4 hd) (own_ofNatI hl_o) hpl he hl_t) hZ (hw _ (List.mem_of_getElem? (i := 68) rfl)) (hw _ (List.mem_of_getElem? (i := 67) rfl)) (by decide) (by decide)) (g := (mkF m 70 #[.val (.ref t), .val (.ref o), .val (.int pz), .val (.ref tv_t), .val (.ref tv_o), .val (.int (0 : Int32)), .val (.int (Int32.ofNat ds.length)), .val (.int (0 : Int32))] [(.int (Int32.ofNat ds.length)), (.int (0 : Int32)), (.ref tv_o), (.int pz), (.ref tv_t)])) rfl (by rw [hml]; rfl) (argsL := [(.ref tv_t), (.int pz), (.ref tv_o), (.int (0 : Int32)), (.int (Int32.ofNat ds.length))]) (rest := []) (lenOf pd_8 rfl) rfl (by show 2 * 0 + _ ≤ _; exact Nat.le_of_eq rfl) (hb hby d10_70) (fun _ _ => ⟨rfl, e7, (by decide : 0 + 0 ≤ _), (by decide : 0 + 0 ≤ _)⟩)
  dsimp only [Pt.U, Pt.locs, Pt.cells, Pt.slots] at X8 l8 y8 z8 st8 hQ8
  subst y8 z8
  obtain ⟨rfl, N8q, e8⟩ := hQ8
  have N8 : Fr n0 L8 := by rw [l8]; exact Fr.app N7 N8q
  refine stp st8 ?_
  show Go p e below T8 (mkF m 73 #[.val (.ref t), .val (.ref o), .val (.int pz), .val (.ref tv_t), .val (.ref tv_o), .val (.int (0 : Int32)), .val (.int (Int32.ofNat ds.length)), .val (.int (0 : Int32))] [(.int (-1 : Int32))]) _
  refine stp (fun _ => XS.ifNo X8.here hx rfl (hb hby d10_73) rfl (by decide)) ?_
  show Go p e below T8 (mkF m 76 #[.val (.ref t), .val (.ref o), .val (.int pz), .val (.ref tv_t), .val (.ref tv_o), .val (.int (0 : Int32)), .val (.int (Int32.ofNat ds.length)), .val (.int (0 : Int32))] []) _
  refine stp (fun _ => XS.iconst X8.here hx rfl (hb hby d10_76)) ?_
  show Go p e below T8 (mkF m 77 #[.val (.ref t), .val (.ref o), .val (.int pz), .val (.ref tv_t), .val (.ref tv_o), .val (.int (0 : Int32)), .val (.int (Int32.ofNat ds.length)), .val (.int (0 : Int32))] [(.int (1 : Int32))]) _
  refine stp (fun _ => XS.goto X8.here hx rfl (pc0 := 77) (pc' := 81) rfl (hb hby d10_77) (by decide) (by decide)) ?_
  show Go p e below T8 (mkF m 81 #[.val (.ref t), .val (.ref o), .val (.int pz), .val (.ref tv_t), .val (.ref tv_o), .val (.int (0 : Int32)), .val (.int (Int32.ofNat ds.length)), .val (.int (0 : Int32))] [(.int (1 : Int32))]) _
  refine outN X8 hx (t := .boolean) hret (by simp) (hb hby d10_81) hlk (by decide) (by decide) ?_
  exact ⟨rfl, N8, e8⟩
theorem d17_0 : decode jdk_42_method_154_code 0 = .ok (.getstatic 38, 3) := by decide +kernel
theorem d17_3 : decode jdk_42_method_154_code 3 = .ok (.ifCond .eq 14, 3) := by decide +kernel
theorem d17_6 : decode jdk_42_method_154_code 6 = .ok (.aload_n 0, 1) := by decide +kernel
theorem d17_7 : decode jdk_42_method_154_code 7 = .ok (.getfield 15, 3) := by decide +kernel
theorem d17_10 : decode jdk_42_method_154_code 10 = .ok (.ifCond .ne 7, 3) := by decide +kernel
theorem d17_13 : decode jdk_42_method_154_code 13 = .ok (.iconst 1, 1) := by decide +kernel
theorem d17_14 : decode jdk_42_method_154_code 14 = .ok (.goto 4, 3) := by decide +kernel
theorem d17_18 : decode jdk_42_method_154_code 18 = .ok (.ireturn, 1) := by decide +kernel
theorem ef_rm_lat (m : MethodId) (t : Addr)  : entryFrame m #[(.ref t)] 1 = mkF m 0 #[.val (.ref t)] [] := by first | (simp [entryFrame, mkF, argsToLocals, Value.category]; done) | rfl
def Q_rm_lat (Z : State) (t : Addr) (cs : List Int32) (cz : Int32) (h0 : Heap) (n0 : Nat) (v : Option Value) (h : Heap) (L : List Loc) : Prop := v = some (.int (1 : Int32)) ∧ Fr n0 L ∧ h = h0
theorem pn_11_ : plainName "java/lang/String" = true := by first | (simp [plainName, overriddenIn]; done) | decide +kernel
theorem pn_11 : plainFor (⟨"java/lang/String", "isLatin1", "()Z"⟩ : MethodName) = true := plainFor_of_name pn_11_
set_option maxRecDepth 65536 in
set_option maxHeartbeats 40000000 in
theorem rm_lat (l : Launch) (Z : State) (a0 : Array Value) (hw : ∀ d ∈ tables_1, d.before a0 Z = true) (ws : List Jvm.Cond) (t : Addr) (cs : List Int32) (cz : Int32) (h0 : Heap) (n0 : Nat) (O0 : Old Z n0 h0) (Q_t : StrIs Z h0 t cs) (S_COMPACT_STRINGS : Sta Z Z.heap "java/lang/String" "COMPACT_STRINGS" "Z" (.int cz)) (hcz : ¬ cz = (0 : Int32)) :
    MetFree l (⟨"java/lang/String", "isLatin1", "()Z"⟩ : MethodName) (head1 (Jvm.Cond.code (⟨"java/lang/String", "isLatin1", "()Z"⟩ : MethodName) jdk_42_method_154_code 1 (some .boolean) :: ws) ({ frames := 0, cells := 0, slots := 0, locals := 0 } : Room)) (fun args_ U => args_ = #[(.ref t)] ∧ Z.Warmed39 U.vm ∧ U.heap = h0) (fun _ _ _ _ _ => True) (fun _ U out_ U' => ∃ val_ loc_, out_ = .returned val_ ∧ (Q_rm_lat Z t cs cz h0 n0) val_ U'.heap loc_ ∧ FrameEnd U out_ U' loc_ ({ frames := 0, cells := 0, slots := 0, locals := 0 } : Room).cells ({ frames := 0, cells := 0, slots := 0, locals := 0 } : Room).slots) := by
  refine start (Q := (Q_rm_lat Z t cs cz h0 n0)) pn_11 ?_
  intro p e s m below meth c T0 X0 hx hby hml hown hnm hret hlk hZ e0
  replace hown : s.vm.findClass "java/lang/String" = some m.cls := hown
  replace hml : c.maxLocals = 1 := hml
  refine goAt (ef_rm_lat m t ) ?_
  have N0 := Fr.nil n0
  obtain ⟨tv_t, kv_t, Eo_t, Fv_t, Fc_t, Kv_t, hp_t, hl_t⟩ := (id Q_t)
  have Va_t : Arf Z h0 tv_t kv_t .byte cs.length (fun i => (.int (own_by cs i))) := (Arv.arf Kv_t (own_ofNat hl_t)).congr fun i _ => own_byv cs i
  show Go p e below T0 (mkF m 0 #[.val (.ref t)] []) _
  obtain ⟨T1, X1, e1, st1⟩ := getS2 X0 hx hZ hown (host := "") (Or.inl (hw _ (List.mem_of_getElem? (i := 18) rfl))) Via.refl e0 (S_COMPACT_STRINGS.ext O0.2) (g := (mkF m 0 #[.val (.ref t)] [])) rfl (hb hby d17_0)
  refine stp st1 ?_
  show Go p e below T1 (mkF m 3 #[.val (.ref t)] [(.int cz)]) _
  refine stp (fun _ => XS.ifNo X1.here hx rfl (hb hby d17_3) rfl (XT.i0_eq_f hcz)) ?_
  show Go p e below T1 (mkF m 6 #[.val (.ref t)] []) _
  refine stp (fun _ => XS.aloadN X1.here hx rfl (hb hby d17_6) rfl rfl) ?_
  show Go p e below T1 (mkF m 7 #[.val (.ref t)] [(.ref t)]) _
  obtain ⟨T2, X2, e2, st2⟩ := getF X1 hx hZ hown (host := "") (Or.inl (hw _ (List.mem_of_getElem? (i := 30) rfl))) Via.refl e1 Fc_t (g := (mkF m 7 #[.val (.ref t)] [(.ref t)])) rfl rfl (hb hby d17_7)
  refine stp st2 ?_
  show Go p e below T2 (mkF m 10 #[.val (.ref t)] [(.int (0 : Int32))]) _
  refine stp (fun _ => XS.ifNo X2.here hx rfl (hb hby d17_10) rfl (by decide)) ?_
  show Go p e below T2 (mkF m 13 #[.val (.ref t)] []) _
  refine stp (fun _ => XS.iconst X2.here hx rfl (hb hby d17_13)) ?_
  show Go p e below T2 (mkF m 14 #[.val (.ref t)] [(.int (1 : Int32))]) _
  refine stp (fun _ => XS.goto X2.here hx rfl (pc0 := 14) (pc' := 18) rfl (hb hby d17_14) (by decide) (by decide)) ?_
  show Go p e below T2 (mkF m 18 #[.val (.ref t)] [(.int (1 : Int32))]) _
  refine outN X2 hx (t := .boolean) hret (by simp) (hb hby d17_18) hlk (by decide) (by decide) ?_
  exact ⟨rfl, N0, e2⟩
theorem d19_0 : decode jdk_43_method_4_code 0 = .ok (.iload_n 0, 1) := by decide +kernel
theorem d19_1 : decode jdk_43_method_4_code 1 = .ok (.ifCond .lt 14, 3) := by decide +kernel
theorem d19_4 : decode jdk_43_method_4_code 4 = .ok (.iload_n 0, 1) := by decide +kernel
theorem d19_5 : decode jdk_43_method_4_code 5 = .ok (.sipush 255, 3) := by decide +kernel
theorem d19_8 : decode jdk_43_method_4_code 8 = .ok (.if_icmp .gt 7, 3) := by decide +kernel
theorem d19_11 : decode jdk_43_method_4_code 11 = .ok (.iconst 1, 1) := by decide +kernel
theorem d19_12 : decode jdk_43_method_4_code 12 = .ok (.goto 4, 3) := by decide +kernel
theorem d19_16 : decode jdk_43_method_4_code 16 = .ok (.ireturn, 1) := by decide +kernel
theorem ef_rm_cani (m : MethodId)   : entryFrame m #[(.int (32 : Int32))] 1 = mkF m 0 #[.val (.int (32 : Int32))] [] := by first | (simp [entryFrame, mkF, argsToLocals, Value.category]; done) | rfl
def Q_rm_cani (Z : State)   (h0 : Heap) (n0 : Nat) (v : Option Value) (h : Heap) (L : List Loc) : Prop := v = some (.int (1 : Int32)) ∧ Fr n0 L ∧ h = h0
theorem pn_12_ : plainName "java/lang/StringLatin1" = true := by first | (simp [plainName, overriddenIn]; done) | decide +kernel
theorem pn_12 : plainFor (⟨"java/lang/StringLatin1", "canEncode", "(I)Z"⟩ : MethodName) = true := plainFor_of_name pn_12_
set_option maxRecDepth 65536 in
set_option maxHeartbeats 40000000 in
theorem rm_cani (l : Launch) (Z : State) (a0 : Array Value) (hw : ∀ d ∈ tables_1, d.before a0 Z = true) (ws : List Jvm.Cond)   (h0 : Heap) (n0 : Nat) (O0 : Old Z n0 h0)  :
    MetFree l (⟨"java/lang/StringLatin1", "canEncode", "(I)Z"⟩ : MethodName) (head1 (Jvm.Cond.code (⟨"java/lang/StringLatin1", "canEncode", "(I)Z"⟩ : MethodName) jdk_43_method_4_code 1 (some .boolean) :: ws) ({ frames := 0, cells := 0, slots := 0, locals := 0 } : Room)) (fun args_ U => args_ = #[(.int (32 : Int32))] ∧ Z.Warmed39 U.vm ∧ U.heap = h0) (fun _ _ _ _ _ => True) (fun _ U out_ U' => ∃ val_ loc_, out_ = .returned val_ ∧ (Q_rm_cani Z  h0 n0) val_ U'.heap loc_ ∧ FrameEnd U out_ U' loc_ ({ frames := 0, cells := 0, slots := 0, locals := 0 } : Room).cells ({ frames := 0, cells := 0, slots := 0, locals := 0 } : Room).slots) := by
  refine start (Q := (Q_rm_cani Z  h0 n0)) pn_12 ?_
  intro p e s m below meth c T0 X0 hx hby hml hown hnm hret hlk hZ e0
  replace hown : s.vm.findClass "java/lang/StringLatin1" = some m.cls := hown
  replace hml : c.maxLocals = 1 := hml
  refine goAt (ef_rm_cani m  ) ?_
  have N0 := Fr.nil n0
  show Go p e below T0 (mkF m 0 #[.val (.int (32 : Int32))] []) _
  refine stp (fun _ => XS.iloadN X0.here hx rfl (hb hby d19_0) rfl) ?_
  show Go p e below T0 (mkF m 1 #[.val (.int (32 : Int32))] [(.int (32 : Int32))]) _
  refine stp (fun _ => XS.ifNo X0.here hx rfl (hb hby d19_1) rfl (by decide)) ?_
  show Go p e below T0 (mkF m 4 #[.val (.int (32 : Int32))] []) _
  refine stp (fun _ => XS.iloadN X0.here hx rfl (hb hby d19_4) rfl) ?_
  show Go p e below T0 (mkF m 5 #[.val (.int (32 : Int32))] [(.int (32 : Int32))]) _
  refine stp (fun _ => XS.sipush X0.here hx rfl (hb hby d19_5)) ?_
  show Go p e below T0 (mkF m 8 #[.val (.int (32 : Int32))] [(.int (255 : Int32)), (.int (32 : Int32))]) _
  refine stp (fun _ => XS.icmpNo X0.here hx rfl (hb hby d19_8) rfl (by decide)) ?_
  show Go p e below T0 (mkF m 11 #[.val (.int (32 : Int32))] []) _
  refine stp (fun _ => XS.iconst X0.here hx rfl (hb hby d19_11)) ?_
  show Go p e below T0 (mkF m 12 #[.val (.int (32 : Int32))] [(.int (1 : Int32))]) _
  refine stp (fun _ => XS.goto X0.here hx rfl (pc0 := 12) (pc' := 16) rfl (hb hby d19_12) (by decide) (by decide)) ?_
  show Go p e below T0 (mkF m 16 #[.val (.int (32 : Int32))] [(.int (1 : Int32))]) _
  refine outN X0 hx (t := .boolean) hret (by simp) (hb hby d19_16) hlk (by decide) (by decide) ?_
  exact ⟨rfl, N0, e0⟩
theorem d20_0 : decode jdk_29_method_65_code 0 = .ok (.iload_n 0, 1) := by decide +kernel
theorem d20_1 : decode jdk_29_method_65_code 1 = .ok (.iload_n 1, 1) := by decide +kernel
theorem d20_2 : decode jdk_29_method_65_code 2 = .ok (.if_icmp .lt 7, 3) := by decide +kernel
theorem d20_5 : decode jdk_29_method_65_code 5 = .ok (.iload_n 0, 1) := by decide +kernel
theorem d20_6 : decode jdk_29_method_65_code 6 = .ok (.goto 4, 3) := by decide +kernel
theorem d20_10 : decode jdk_29_method_65_code 10 = .ok (.ireturn, 1) := by decide +kernel
theorem ef_rm_max (m : MethodId) (a_ : Int32) (b_ : Int32)  : entryFrame m #[(.int a_), (.int b_)] 2 = mkF m 0 #[.val (.int a_), .val (.int b_)] [] := by first | (simp [entryFrame, mkF, argsToLocals, Value.category]; done) | rfl
def Q_rm_max (Z : State) (a_ : Int32) (b_ : Int32)  (h0 : Heap) (n0 : Nat) (v : Option Value) (h : Heap) (L : List Loc) : Prop := v = some (.int a_) ∧ Fr n0 L ∧ h = h0
set_option maxRecDepth 65536 in
set_option maxHeartbeats 40000000 in
theorem rm_max (l : Launch) (Z : State) (a0 : Array Value) (hw : ∀ d ∈ tables_1, d.before a0 Z = true) (ws : List Jvm.Cond) (a_ : Int32) (b_ : Int32)  (h0 : Heap) (n0 : Nat) (O0 : Old Z n0 h0) (h : ¬ a_ < b_) :
    MetFree l (⟨"java/lang/Math", "max", "(II)I"⟩ : MethodName) (head1 (Jvm.Cond.code (⟨"java/lang/Math", "max", "(II)I"⟩ : MethodName) jdk_29_method_65_code 2 (some .int) :: ws) ({ frames := 0, cells := 0, slots := 0, locals := 0 } : Room)) (fun args_ U => args_ = #[(.int a_), (.int b_)] ∧ Z.Warmed39 U.vm ∧ U.heap = h0) (fun _ _ _ _ _ => True) (fun _ U out_ U' => ∃ val_ loc_, out_ = .returned val_ ∧ (Q_rm_max Z a_ b_ h0 n0) val_ U'.heap loc_ ∧ FrameEnd U out_ U' loc_ ({ frames := 0, cells := 0, slots := 0, locals := 0 } : Room).cells ({ frames := 0, cells := 0, slots := 0, locals := 0 } : Room).slots) := by
  refine start (Q := (Q_rm_max Z a_ b_ h0 n0)) (Jvm.Free.JP.mathPlain rfl (by decide +kernel)) ?_
  intro p e s m below meth c T0 X0 hx hby hml hown hnm hret hlk hZ e0
  replace hown : s.vm.findClass "java/lang/Math" = some m.cls := hown
  replace hml : c.maxLocals = 2 := hml
  refine goAt (ef_rm_max m a_ b_ ) ?_
  have N0 := Fr.nil n0
  show Go p e below T0 (mkF m 0 #[.val (.int a_), .val (.int b_)] []) _
  refine stp (fun _ => XS.iloadN X0.here hx rfl (hb hby d20_0) rfl) ?_
  show Go p e below T0 (mkF m 1 #[.val (.int a_), .val (.int b_)] [(.int a_)]) _
  refine stp (fun _ => XS.iloadN X0.here hx rfl (hb hby d20_1) rfl) ?_
  show Go p e below T0 (mkF m 2 #[.val (.int a_), .val (.int b_)] [(.int b_), (.int a_)]) _
  refine stp (fun _ => XS.icmpNo X0.here hx rfl (hb hby d20_2) rfl (XT.ii_lt_f h)) ?_
  show Go p e below T0 (mkF m 5 #[.val (.int a_), .val (.int b_)] []) _
  refine stp (fun _ => XS.iloadN X0.here hx rfl (hb hby d20_5) rfl) ?_
  show Go p e below T0 (mkF m 6 #[.val (.int a_), .val (.int b_)] [(.int a_)]) _
  refine stp (fun _ => XS.goto X0.here hx rfl (pc0 := 6) (pc' := 10) rfl (hb hby d20_6) (by decide) (by decide)) ?_
  show Go p e below T0 (mkF m 10 #[.val (.int a_), .val (.int b_)] [(.int a_)]) _
  refine outI X0 hx hret (hb hby d20_10) hlk (by decide) (by decide) ?_
  exact ⟨rfl, N0, e0⟩
theorem d21_0 : decode jdk_29_method_69_code 0 = .ok (.iload_n 0, 1) := by decide +kernel
theorem d21_1 : decode jdk_29_method_69_code 1 = .ok (.iload_n 1, 1) := by decide +kernel
theorem d21_2 : decode jdk_29_method_69_code 2 = .ok (.if_icmp .gt 7, 3) := by decide +kernel
theorem d21_5 : decode jdk_29_method_69_code 5 = .ok (.iload_n 0, 1) := by decide +kernel
theorem d21_6 : decode jdk_29_method_69_code 6 = .ok (.goto 4, 3) := by decide +kernel
theorem d21_10 : decode jdk_29_method_69_code 10 = .ok (.ireturn, 1) := by decide +kernel
theorem ef_rm_min (m : MethodId) (a_ : Int32) (b_ : Int32)  : entryFrame m #[(.int a_), (.int b_)] 2 = mkF m 0 #[.val (.int a_), .val (.int b_)] [] := by first | (simp [entryFrame, mkF, argsToLocals, Value.category]; done) | rfl
def Q_rm_min (Z : State) (a_ : Int32) (b_ : Int32)  (h0 : Heap) (n0 : Nat) (v : Option Value) (h : Heap) (L : List Loc) : Prop := v = some (.int a_) ∧ Fr n0 L ∧ h = h0
set_option maxRecDepth 65536 in
set_option maxHeartbeats 40000000 in
theorem rm_min (l : Launch) (Z : State) (a0 : Array Value) (hw : ∀ d ∈ tables_1, d.before a0 Z = true) (ws : List Jvm.Cond) (a_ : Int32) (b_ : Int32)  (h0 : Heap) (n0 : Nat) (O0 : Old Z n0 h0) (h : ¬ b_ < a_) :
    MetFree l (⟨"java/lang/Math", "min", "(II)I"⟩ : MethodName) (head1 (Jvm.Cond.code (⟨"java/lang/Math", "min", "(II)I"⟩ : MethodName) jdk_29_method_69_code 2 (some .int) :: ws) ({ frames := 0, cells := 0, slots := 0, locals := 0 } : Room)) (fun args_ U => args_ = #[(.int a_), (.int b_)] ∧ Z.Warmed39 U.vm ∧ U.heap = h0) (fun _ _ _ _ _ => True) (fun _ U out_ U' => ∃ val_ loc_, out_ = .returned val_ ∧ (Q_rm_min Z a_ b_ h0 n0) val_ U'.heap loc_ ∧ FrameEnd U out_ U' loc_ ({ frames := 0, cells := 0, slots := 0, locals := 0 } : Room).cells ({ frames := 0, cells := 0, slots := 0, locals := 0 } : Room).slots) := by
  refine start (Q := (Q_rm_min Z a_ b_ h0 n0)) (Jvm.Free.JP.mathPlain rfl (by decide +kernel)) ?_
  intro p e s m below meth c T0 X0 hx hby hml hown hnm hret hlk hZ e0
  replace hown : s.vm.findClass "java/lang/Math" = some m.cls := hown
  replace hml : c.maxLocals = 2 := hml
  refine goAt (ef_rm_min m a_ b_ ) ?_
  have N0 := Fr.nil n0
  show Go p e below T0 (mkF m 0 #[.val (.int a_), .val (.int b_)] []) _
  refine stp (fun _ => XS.iloadN X0.here hx rfl (hb hby d21_0) rfl) ?_
  show Go p e below T0 (mkF m 1 #[.val (.int a_), .val (.int b_)] [(.int a_)]) _
  refine stp (fun _ => XS.iloadN X0.here hx rfl (hb hby d21_1) rfl) ?_
  show Go p e below T0 (mkF m 2 #[.val (.int a_), .val (.int b_)] [(.int b_), (.int a_)]) _
  refine stp (fun _ => XS.icmpNo X0.here hx rfl (hb hby d21_2) rfl (XT.ii_gt_f h)) ?_
  show Go p e below T0 (mkF m 5 #[.val (.int a_), .val (.int b_)] []) _
  refine stp (fun _ => XS.iloadN X0.here hx rfl (hb hby d21_5) rfl) ?_
  show Go p e below T0 (mkF m 6 #[.val (.int a_), .val (.int b_)] [(.int a_)]) _
  refine stp (fun _ => XS.goto X0.here hx rfl (pc0 := 6) (pc' := 10) rfl (hb hby d21_6) (by decide) (by decide)) ?_
  show Go p e below T0 (mkF m 10 #[.val (.int a_), .val (.int b_)] [(.int a_)]) _
  refine outI X0 hx hret (hb hby d21_10) hlk (by decide) (by decide) ?_
  exact ⟨rfl, N0, e0⟩
theorem d18_0 : decode jdk_43_method_22_code 0 = .ok (.iload_n 1, 1) := by decide +kernel
theorem d18_1 : decode jdk_43_method_22_code 1 = .ok (.invokestatic 88, 3) := by decide +kernel
theorem pd_9 : parseMethodDescriptor "(I)Z" = some ⟨[.int], some .boolean⟩ := by decide +kernel
theorem d18_4 : decode jdk_43_method_22_code 4 = .ok (.ifCond .ne 5, 3) := by decide +kernel
theorem d18_9 : decode jdk_43_method_22_code 9 = .ok (.iload_n 2, 1) := by decide +kernel
theorem d18_10 : decode jdk_43_method_22_code 10 = .ok (.iconst 0, 1) := by decide +kernel
theorem d18_11 : decode jdk_43_method_22_code 11 = .ok (.invokestatic 92, 3) := by decide +kernel
theorem pd_10 : parseMethodDescriptor "(II)I" = some ⟨[.int, .int], some .int⟩ := by decide +kernel
theorem d18_14 : decode jdk_43_method_22_code 14 = .ok (.istore_n 2, 1) := by decide +kernel
theorem d18_15 : decode jdk_43_method_22_code 15 = .ok (.iload_n 3, 1) := by decide +kernel
theorem d18_16 : decode jdk_43_method_22_code 16 = .ok (.aload_n 0, 1) := by decide +kernel
theorem d18_17 : decode jdk_43_method_22_code 17 = .ok (.arraylength, 1) := by decide +kernel
theorem d18_18 : decode jdk_43_method_22_code 18 = .ok (.invokestatic 38, 3) := by decide +kernel
theorem d18_21 : decode jdk_43_method_22_code 21 = .ok (.istore_n 3, 1) := by decide +kernel
theorem d18_22 : decode jdk_43_method_22_code 22 = .ok (.iload_n 2, 1) := by decide +kernel
theorem d18_23 : decode jdk_43_method_22_code 23 = .ok (.iload_n 3, 1) := by decide +kernel
theorem d18_24 : decode jdk_43_method_22_code 24 = .ok (.if_icmp .lt 5, 3) := by decide +kernel
theorem d18_27 : decode jdk_43_method_22_code 27 = .ok (.iconst (-1), 1) := by decide +kernel
theorem d18_28 : decode jdk_43_method_22_code 28 = .ok (.ireturn, 1) := by decide +kernel
theorem ef_rm_lix (m : MethodId) (va : Addr) (nx : Int32)  : entryFrame m #[(.ref va), (.int (32 : Int32)), (.int nx), (.int nx)] 4 = mkF m 0 #[.val (.ref va), .val (.int (32 : Int32)), .val (.int nx), .val (.int nx)] [] := by first | (simp [entryFrame, mkF, argsToLocals, Value.category]; done) | rfl
def Q_rm_lix (Z : State) (va : Addr) (nx : Int32) (na : Nat) (fa : Nat → Int32) (k_va : ClassId) (h0 : Heap) (n0 : Nat) (v : Option Value) (h : Heap) (L : List Loc) : Prop := v = some (.int (-1 : Int32)) ∧ Fr n0 L ∧ h = h0
theorem pn_13_ : plainName "java/lang/StringLatin1" = true := by first | (simp [plainName, overriddenIn]; done) | decide +kernel
theorem pn_13 : plainFor (⟨"java/lang/StringLatin1", "indexOf", "([BIII)I"⟩ : MethodName) = true := plainFor_of_name pn_13_
set_option maxRecDepth 65536 in
set_option maxHeartbeats 40000000 in
theorem rm_lix (l : Launch) (Z : State) (a0 : Array Value) (hw : ∀ d ∈ tables_1, d.before a0 Z = true) (ws : List Jvm.Cond) (va : Addr) (nx : Int32) (na : Nat) (fa : Nat → Int32) (k_va : ClassId) (h0 : Heap) (n0 : Nat) (O0 : Old Z n0 h0) (V_va : Arf Z h0 va k_va .byte na (fun i => (.int (fa i)))) (h0_ : ¬ nx < 0) (hz : nx.toInt = (na : Int)) :
    MetFree l (⟨"java/lang/StringLatin1", "indexOf", "([BIII)I"⟩ : MethodName) (head1 (Jvm.Cond.code (⟨"java/lang/StringLatin1", "indexOf", "([BIII)I"⟩ : MethodName) jdk_43_method_22_code 4 (some .int) :: ws) ({ frames := 1, cells := 0, slots := 0, locals := 13 } : Room)) (fun args_ U => args_ = #[(.ref va), (.int (32 : Int32)), (.int nx), (.int nx)] ∧ Z.Warmed39 U.vm ∧ U.heap = h0) (fun _ _ _ _ _ => True) (fun _ U out_ U' => ∃ val_ loc_, out_ = .returned val_ ∧ (Q_rm_lix Z va nx na fa k_va h0 n0) val_ U'.heap loc_ ∧ FrameEnd U out_ U' loc_ ({ frames := 1, cells := 0, slots := 0, locals := 13 } : Room).cells ({ frames := 1, cells := 0, slots := 0, locals := 13 } : Room).slots) := by
  refine start (Q := (Q_rm_lix Z va nx na fa k_va h0 n0)) pn_13 ?_
  intro p e s m below meth c T0 X0 hx hby hml hown hnm hret hlk hZ e0
  replace hown : s.vm.findClass "java/lang/StringLatin1" = some m.cls := hown
  replace hml : c.maxLocals = 4 := hml
  refine goAt (ef_rm_lix m va nx ) ?_
  have N0 := Fr.nil n0
  show Go p e below T0 (mkF m 0 #[.val (.ref va), .val (.int (32 : Int32)), .val (.int nx), .val (.int nx)] []) _
  refine stp (fun _ => XS.iloadN X0.here hx rfl (hb hby d18_0) rfl) ?_
  show Go p e below T0 (mkF m 1 #[.val (.ref va), .val (.int (32 : Int32)), .val (.int nx), .val (.int nx)] [(.int (32 : Int32))]) _
  obtain ⟨_, _, ⟨T1, L1, k1, n1⟩, -, X1, ⟨Lc1, hQ1, l1, y1, z1⟩, st1⟩ := Jvm.LawKit.callS X0 hx (y := (⟨"java/lang/StringLatin1", "canEncode", "(I)Z"⟩ : MethodName)) hown (mvT hZ (hw _ (List.mem_of_getElem? (i := 94) rfl))) (mvT hZ (hw _ (List.mem_of_getElem? (i := 95) rfl))) (mvT hZ (hw _ (List.mem_of_getElem? (i := 92) rfl))) (mvT hZ (hw _ (List.mem_of_getElem? (i := 96) rfl))) (by decide) (backOf (W := 0) (rm_cani l Z a0 hw []   h0 n0 O0 ) hZ (hw _ (List.mem_of_getElem? (i := 96) rfl)) (hw _ (List.mem_of_getElem? (i := 92) rfl)) (by decide) (by decide)) (g := (mkF m 1 #[.val (.ref va), .val (.int (32 : Int32)), .val (.int nx), .val (.int nx)] [(.int (32 : Int32))])) rfl (by rw [hml]; rfl) (argsL := [(.int (32 : Int32))]) (rest := []) (lenOf pd_9 rfl) rfl (by show 2 * 0 + _ ≤ _; exact Nat.le_of_eq rfl) (hb hby d18_1) (fun _ _ => ⟨rfl, e0, (by decide : 0 + 0 ≤ _), (by decide : 0 + 0 ≤ _)⟩)
  dsimp only [Pt.U, Pt.locs, Pt.cells, Pt.slots] at X1 l1 y1 z1 st1 hQ1
  subst y1 z1
  obtain ⟨rfl, N1q, e1⟩ := hQ1
  have N1 : Fr n0 L1 := by rw [l1]; exact Fr.app N0 N1q
  refine stp st1 ?_
  show Go p e below T1 (mkF m 4 #[.val (.ref va), .val (.int (32 : Int32)), .val (.int nx), .val (.int nx)] [(.int (1 : Int32))]) _
  refine stp (fun _ => XS.ifYes X1.here hx rfl (pc0 := 4) (pc' := 9) rfl (hb hby d18_4) rfl (by decide) (by decide) (by decide)) ?_
  show Go p e below T1 (mkF m 9 #[.val (.ref va), .val (.int (32 : Int32)), .val (.int nx), .val (.int nx)] []) _
  refine stp (fun _ => XS.iloadN X1.here hx rfl (hb hby d18_9) rfl) ?_
  show Go p e below T1 (mkF m 10 #[.val (.ref va), .val (.int (32 : Int32)), .val (.int nx), .val (.int nx)] [(.int nx)]) _
  refine stp (fun _ => XS.iconst X1.here hx rfl (hb hby d18_10)) ?_
  show Go p e below T1 (mkF m 11 #[.val (.ref va), .val (.int (32 : Int32)), .val (.int nx), .val (.int nx)] [(.int (0 : Int32)), (.int nx)]) _
  obtain ⟨_, _, ⟨T2, L2, k2, n2⟩, -, X2, ⟨Lc2, hQ2, l2, y2, z2⟩, st2⟩ := Jvm.LawKit.callS X1 hx (y := (⟨"java/lang/Math", "max", "(II)I"⟩ : MethodName)) hown (mvT hZ (hw _ (List.mem_of_getElem? (i := 97) rfl))) (mvT hZ (hw _ (List.mem_of_getElem? (i := 98) rfl))) (mvT hZ (hw _ (List.mem_of_getElem? (i := 99) rfl))) (mvT hZ (hw _ (List.mem_of_getElem? (i := 100) rfl))) (by decide) (backOf (W := 0) (rm_max l Z a0 hw [] nx (0 : Int32)  h0 n0 O0 h0_) hZ (hw _ (List.mem_of_getElem? (i := 100) rfl)) (hw _ (List.mem_of_getElem? (i := 99) rfl)) (by decide) (by decide)) (g := (mkF m 11 #[.val (.ref va), .val (.int (32 : Int32)), .val (.int nx), .val (.int nx)] [(.int (0 : Int32)), (.int nx)])) rfl (by rw [hml]; rfl) (argsL := [(.int nx), (.int (0 : Int32))]) (rest := []) (lenOf pd_10 rfl) rfl (by show 2 * 0 + _ ≤ _; exact Nat.le_of_eq rfl) (hb hby d18_11) (fun _ _ => ⟨rfl, e1, (by decide : 0 + 0 ≤ _), (by decide : 0 + 0 ≤ _)⟩)
  dsimp only [Pt.U, Pt.locs, Pt.cells, Pt.slots] at X2 l2 y2 z2 st2 hQ2
  subst y2 z2
  obtain ⟨rfl, N2q, e2⟩ := hQ2
  have N2 : Fr n0 L2 := by rw [l2]; exact Fr.app N1 N2q
  refine stp st2 ?_
  show Go p e below T2 (mkF m 14 #[.val (.ref va), .val (.int (32 : Int32)), .val (.int nx), .val (.int nx)] [(.int nx)]) _
  refine stp (fun _ => XS.istoreN X2.here hx rfl (hb hby d18_14) rfl (l' := #[.val (.ref va), .val (.int (32 : Int32)), .val (.int nx), .val (.int nx)]) rfl) ?_
  show Go p e below T2 (mkF m 15 #[.val (.ref va), .val (.int (32 : Int32)), .val (.int nx), .val (.int nx)] []) _
  refine stp (fun _ => XS.iloadN X2.here hx rfl (hb hby d18_15) rfl) ?_
  show Go p e below T2 (mkF m 16 #[.val (.ref va), .val (.int (32 : Int32)), .val (.int nx), .val (.int nx)] [(.int nx)]) _
  refine stp (fun _ => XS.aloadN X2.here hx rfl (hb hby d18_16) rfl rfl) ?_
  show Go p e below T2 (mkF m 17 #[.val (.ref va), .val (.int (32 : Int32)), .val (.int nx), .val (.int nx)] [(.ref va), (.int nx)]) _
  obtain ⟨cl3, Ar3, -, S3, -, -⟩ := (id V_va)
  refine stp (fun _ => X2.arraylength hx (by rw [e2]; exact Ar3.1) (State.isArrayOf_alike hZ.alike Ar3.2.1) (g := (mkF m 17 #[.val (.ref va), .val (.int (32 : Int32)), .val (.int nx), .val (.int nx)] [(.ref va), (.int nx)])) rfl rfl (hb hby d18_17) _) ?_
  rw [arf_len S3 (z := nx) hz]
  show Go p e below T2 (mkF m 18 #[.val (.ref va), .val (.int (32 : Int32)), .val (.int nx), .val (.int nx)] [(.int nx), (.int nx)]) _
  obtain ⟨_, _, ⟨T4, L4, k4, n4⟩, -, X4, ⟨Lc4, hQ4, l4, y4, z4⟩, st4⟩ := Jvm.LawKit.callS X2 hx (y := (⟨"java/lang/Math", "min", "(II)I"⟩ : MethodName)) hown (mvT hZ (hw _ (List.mem_of_getElem? (i := 101) rfl))) (mvT hZ (hw _ (List.mem_of_getElem? (i := 102) rfl))) (mvT hZ (hw _ (List.mem_of_getElem? (i := 99) rfl))) (mvT hZ (hw _ (List.mem_of_getElem? (i := 103) rfl))) (by decide) (backOf (W := 0) (rm_min l Z a0 hw [] nx nx  h0 n0 O0 Int32.lt_irrefl) hZ (hw _ (List.mem_of_getElem? (i := 103) rfl)) (hw _ (List.mem_of_getElem? (i := 99) rfl)) (by decide) (by decide)) (g := (mkF m 18 #[.val (.ref va), .val (.int (32 : Int32)), .val (.int nx), .val (.int nx)] [(.int nx), (.int nx)])) rfl (by rw [hml]; rfl) (argsL := [(.int nx), (.int nx)]) (rest := []) (lenOf pd_10 rfl) rfl (by show 2 * 0 + _ ≤ _; exact Nat.le_of_eq rfl) (hb hby d18_18) (fun _ _ => ⟨rfl, e2, (by decide : 0 + 0 ≤ _), (by decide : 0 + 0 ≤ _)⟩)
  dsimp only [Pt.U, Pt.locs, Pt.cells, Pt.slots] at X4 l4 y4 z4 st4 hQ4
  subst y4 z4
  obtain ⟨rfl, N4q, e4⟩ := hQ4
  have N4 : Fr n0 L4 := by rw [l4]; exact Fr.app N2 N4q
  refine stp st4 ?_
  show Go p e below T4 (mkF m 21 #[.val (.ref va), .val (.int (32 : Int32)), .val (.int nx), .val (.int nx)] [(.int nx)]) _
  refine stp (fun _ => XS.istoreN X4.here hx rfl (hb hby d18_21) rfl (l' := #[.val (.ref va), .val (.int (32 : Int32)), .val (.int nx), .val (.int nx)]) rfl) ?_
  show Go p e below T4 (mkF m 22 #[.val (.ref va), .val (.int (32 : Int32)), .val (.int nx), .val (.int nx)] []) _
  refine stp (fun _ => XS.iloadN X4.here hx rfl (hb hby d18_22) rfl) ?_
  show Go p e below T4 (mkF m 23 #[.val (.ref va), .val (.int (32 : Int32)), .val (.int nx), .val (.int nx)] [(.int nx)]) _
  refine stp (fun _ => XS.iloadN X4.here hx rfl (hb hby d18_23) rfl) ?_
  show Go p e below T4 (mkF m 24 #[.val (.ref va), .val (.int (32 : Int32)), .val (.int nx), .val (.int nx)] [(.int nx), (.int nx)]) _
  refine stp (fun _ => XS.icmpNo X4.here hx rfl (hb hby d18_24) rfl (XT.ii_lt_f Int32.lt_irrefl)) ?_
  show Go p e below T4 (mkF m 27 #[.val (.ref va), .val (.int (32 : Int32)), .val (.int nx), .val (.int nx)] []) _
  refine stp (fun _ => XS.iconst X4.here hx rfl (hb hby d18_27)) ?_
  show Go p e below T4 (mkF m 28 #[.val (.ref va), .val (.int (32 : Int32)), .val (.int nx), .val (.int nx)] [(.int (-1 : Int32))]) _
  refine outI X4 hx hret (hb hby d18_28) hlk (by decide) (by decide) ?_
  exact ⟨rfl, N4, e4⟩
theorem d16_0 : decode jdk_42_method_80_code 0 = .ok (.aload_n 0, 1) := by decide +kernel
theorem d16_1 : decode jdk_42_method_80_code 1 = .ok (.invokevirtual 492, 3) := by decide +kernel
theorem pd_11 : parseMethodDescriptor "()Z" = some ⟨[], some .boolean⟩ := by decide +kernel
theorem d16_4 : decode jdk_42_method_80_code 4 = .ok (.ifCond .eq 19, 3) := by decide +kernel
theorem d16_7 : decode jdk_42_method_80_code 7 = .ok (.aload_n 0, 1) := by decide +kernel
theorem d16_8 : decode jdk_42_method_80_code 8 = .ok (.getfield 9, 3) := by decide +kernel
theorem d16_11 : decode jdk_42_method_80_code 11 = .ok (.iload_n 1, 1) := by decide +kernel
theorem d16_12 : decode jdk_42_method_80_code 12 = .ok (.iload_n 2, 1) := by decide +kernel
theorem d16_13 : decode jdk_42_method_80_code 13 = .ok (.aload_n 0, 1) := by decide +kernel
theorem d16_14 : decode jdk_42_method_80_code 14 = .ok (.invokevirtual 505, 3) := by decide +kernel
theorem d16_17 : decode jdk_42_method_80_code 17 = .ok (.invokestatic 637, 3) := by decide +kernel
theorem pd_12 : parseMethodDescriptor "([BIII)I" = some ⟨[(.array .byte), .int, .int, .int], some .int⟩ := by decide +kernel
theorem d16_20 : decode jdk_42_method_80_code 20 = .ok (.goto 16, 3) := by decide +kernel
theorem d16_36 : decode jdk_42_method_80_code 36 = .ok (.ireturn, 1) := by decide +kernel
theorem ef_rm_ix (m : MethodId) (t : Addr) (nx : Int32)  : entryFrame m #[(.ref t), (.int (32 : Int32)), (.int nx)] 3 = mkF m 0 #[.val (.ref t), .val (.int (32 : Int32)), .val (.int nx)] [] := by first | (simp [entryFrame, mkF, argsToLocals, Value.category]; done) | rfl
def Q_rm_ix (Z : State) (t : Addr) (nx : Int32) (cs : List Int32) (cz : Int32) (h0 : Heap) (n0 : Nat) (v : Option Value) (h : Heap) (L : List Loc) : Prop := v = some (.int (-1 : Int32)) ∧ Fr n0 L ∧ h = h0
theorem pn_14_ : plainName "java/lang/String" = true := by first | (simp [plainName, overriddenIn]; done) | decide +kernel
theorem pn_14 : plainFor (⟨"java/lang/String", "indexOf", "(II)I"⟩ : MethodName) = true := plainFor_of_name pn_14_
set_option maxRecDepth 65536 in
set_option maxHeartbeats 40000000 in
theorem rm_ix (l : Launch) (Z : State) (a0 : Array Value) (hw : ∀ d ∈ tables_1, d.before a0 Z = true) (ws : List Jvm.Cond) (t : Addr) (nx : Int32) (cs : List Int32) (cz : Int32) (h0 : Heap) (n0 : Nat) (O0 : Old Z n0 h0) (Q_t : StrIs Z h0 t cs) (S_COMPACT_STRINGS : Sta Z Z.heap "java/lang/String" "COMPACT_STRINGS" "Z" (.int cz)) (hcz : ¬ cz = (0 : Int32)) (hnx : nx = (Int32.ofNat cs.length)) :
    MetFree l (⟨"java/lang/String", "indexOf", "(II)I"⟩ : MethodName) (head1 (Jvm.Cond.code (⟨"java/lang/String", "indexOf", "(II)I"⟩ : MethodName) jdk_42_method_80_code 3 (some .int) :: ws) ({ frames := 2, cells := 0, slots := 0, locals := 28 } : Room)) (fun args_ U => args_ = #[(.ref t), (.int (32 : Int32)), (.int nx)] ∧ Z.Warmed39 U.vm ∧ U.heap = h0) (fun _ _ _ _ _ => True) (fun _ U out_ U' => ∃ val_ loc_, out_ = .returned val_ ∧ (Q_rm_ix Z t nx cs cz h0 n0) val_ U'.heap loc_ ∧ FrameEnd U out_ U' loc_ ({ frames := 2, cells := 0, slots := 0, locals := 28 } : Room).cells ({ frames := 2, cells := 0, slots := 0, locals := 28 } : Room).slots) := by
  refine start (Q := (Q_rm_ix Z t nx cs cz h0 n0)) pn_14 ?_
  intro p e s m below meth c T0 X0 hx hby hml hown hnm hret hlk hZ e0
  replace hown : s.vm.findClass "java/lang/String" = some m.cls := hown
  replace hml : c.maxLocals = 3 := hml
  refine goAt (ef_rm_ix m t nx ) ?_
  have N0 := Fr.nil n0
  obtain ⟨tv_t, kv_t, Eo_t, Fv_t, Fc_t, Kv_t, hp_t, hl_t⟩ := (id Q_t)
  have Va_t : Arf Z h0 tv_t kv_t .byte cs.length (fun i => (.int (own_by cs i))) := (Arv.arf Kv_t (own_ofNat hl_t)).congr fun i _ => own_byv cs i
  show Go p e below T0 (mkF m 0 #[.val (.ref t), .val (.int (32 : Int32)), .val (.int nx)] []) _
  subst hnx
  show Go p e below T0 (mkF m 0 #[.val (.ref t), .val (.int (32 : Int32)), .val (.int (Int32.ofNat cs.length))] []) _
  refine stp (fun _ => XS.aloadN X0.here hx rfl (hb hby d16_0) rfl rfl) ?_
  show Go p e below T0 (mkF m 1 #[.val (.ref t), .val (.int (32 : Int32)), .val (.int (Int32.ofNat cs.length))] [(.ref t)]) _
  obtain ⟨cq1, kq1, q1a, q1b, q1c⟩ := isOf hZ e0 Eo_t
  obtain ⟨_, _, ⟨T1, L1, k1, n1⟩, -, X1, ⟨Lc1, hQ1, l1, y1, z1⟩, st1⟩ := X0.virtualBack hx (y := (⟨"java/lang/String", "isLatin1", "()Z"⟩ : MethodName)) (z := (⟨"java/lang/String", "isLatin1", "()Z"⟩ : MethodName)) hown (mvT hZ (hw _ (List.mem_of_getElem? (i := 85) rfl))) (mvT hZ (hw _ (List.mem_of_getElem? (i := 86) rfl))) (notFace_of_selects (args := #[]) (mvT hZ (hw _ (List.mem_of_getElem? (i := 88) rfl)))) (mvT hZ (hw _ (List.mem_of_getElem? (i := 88) rfl))) (mvT hZ (hw _ (List.mem_of_getElem? (i := 87) rfl))) (by decide) (backOf (W := 0) (rm_lat l Z a0 hw [] t cs cz h0 n0 O0 Q_t S_COMPACT_STRINGS hcz) hZ (hw _ (List.mem_of_getElem? (i := 89) rfl)) (hw _ (List.mem_of_getElem? (i := 7) rfl)) (by decide) (by decide)) q1a q1c (g := (mkF m 1 #[.val (.ref t), .val (.int (32 : Int32)), .val (.int (Int32.ofNat cs.length))] [(.ref t)])) rfl (by rw [hml]; rfl) (Steps.refl _) (argsL := []) (rest := []) (lenOf pd_11 rfl) rfl (by show 2 * 0 + _ ≤ _; exact Nat.le_of_eq rfl) (hb hby d16_1) (fun _ _ => ⟨rfl, e0, (by decide : 0 + 0 ≤ _), (by decide : 0 + 0 ≤ _)⟩)
  dsimp only [Pt.U, Pt.locs, Pt.cells, Pt.slots] at X1 l1 y1 z1 st1 hQ1
  subst y1 z1
  obtain ⟨rfl, N1q, e1⟩ := hQ1
  have N1 : Fr n0 L1 := by rw [l1]; exact Fr.app N0 N1q
  refine stt st1 ?_
  show Go p e below T1 (mkF m 4 #[.val (.ref t), .val (.int (32 : Int32)), .val (.int (Int32.ofNat cs.length))] [(.int (1 : Int32))]) _
  refine stp (fun _ => XS.ifNo X1.here hx rfl (hb hby d16_4) rfl (by decide)) ?_
  show Go p e below T1 (mkF m 7 #[.val (.ref t), .val (.int (32 : Int32)), .val (.int (Int32.ofNat cs.length))] []) _
  refine stp (fun _ => XS.aloadN X1.here hx rfl (hb hby d16_7) rfl rfl) ?_
  show Go p e below T1 (mkF m 8 #[.val (.ref t), .val (.int (32 : Int32)), .val (.int (Int32.ofNat cs.length))] [(.ref t)]) _
  obtain ⟨T2, X2, e2, st2⟩ := getF X1 hx hZ hown (host := "") (Or.inl (hw _ (List.mem_of_getElem? (i := 32) rfl))) Via.refl e1 Fv_t (g := (mkF m 8 #[.val (.ref t), .val (.int (32 : Int32)), .val (.int (Int32.ofNat cs.length))] [(.ref t)])) rfl rfl (hb hby d16_8)
  refine stp st2 ?_
  show Go p e below T2 (mkF m 11 #[.val (.ref t), .val (.int (32 : Int32)), .val (.int (Int32.ofNat cs.length))] [(.ref tv_t)]) _
  refine stp (fun _ => XS.iloadN X2.here hx rfl (hb hby d16_11) rfl) ?_
  show Go p e below T2 (mkF m 12 #[.val (.ref t), .val (.int (32 : Int32)), .val (.int (Int32.ofNat cs.length))] [(.int (32 : Int32)), (.ref tv_t)]) _
  refine stp (fun _ => XS.iloadN X2.here hx rfl (hb hby d16_12) rfl) ?_
  show Go p e below T2 (mkF m 13 #[.val (.ref t), .val (.int (32 : Int32)), .val (.int (Int32.ofNat cs.length))] [(.int (Int32.ofNat cs.length)), (.int (32 : Int32)), (.ref tv_t)]) _
  refine stp (fun _ => XS.aloadN X2.here hx rfl (hb hby d16_13) rfl rfl) ?_
  show Go p e below T2 (mkF m 14 #[.val (.ref t), .val (.int (32 : Int32)), .val (.int (Int32.ofNat cs.length))] [(.ref t), (.int (Int32.ofNat cs.length)), (.int (32 : Int32)), (.ref tv_t)]) _
  obtain ⟨cq3, kq3, q3a, q3b, q3c⟩ := isOf hZ e2 Eo_t
  obtain ⟨_, _, ⟨T3, L3, k3, n3⟩, -, X3, ⟨Lc3, hQ3, l3, y3, z3⟩, st3⟩ := X2.virtualBack hx (y := (⟨"java/lang/String", "length", "()I"⟩ : MethodName)) (z := (⟨"java/lang/String", "length", "()I"⟩ : MethodName)) hown (mvT hZ (hw _ (List.mem_of_getElem? (i := 55) rfl))) (mvT hZ (hw _ (List.mem_of_getElem? (i := 56) rfl))) (notFace_of_selects (args := #[]) (mvT hZ (hw _ (List.mem_of_getElem? (i := 58) rfl)))) (mvT hZ (hw _ (List.mem_of_getElem? (i := 58) rfl))) (mvT hZ (hw _ (List.mem_of_getElem? (i := 57) rfl))) (by decide) (backOf (W := 3) (rm_slen l Z a0 hw [] t cs cz h0 n0 O0 Q_t S_COMPACT_STRINGS hcz) hZ (hw _ (List.mem_of_getElem? (i := 59) rfl)) (hw _ (List.mem_of_getElem? (i := 7) rfl)) (by decide) (by decide)) q3a q3c (g := (mkF m 14 #[.val (.ref t), .val (.int (32 : Int32)), .val (.int (Int32.ofNat cs.length))] [(.ref t), (.int (Int32.ofNat cs.length)), (.int (32 : Int32)), (.ref tv_t)])) rfl (by rw [hml]; rfl) (Steps.refl _) (argsL := []) (rest := [(.int (Int32.ofNat cs.length)), (.int (32 : Int32)), (.ref tv_t)]) (lenOf pd_7 rfl) rfl (by show 2 * 0 + _ ≤ _; exact Nat.le_of_eq rfl) (hb hby d16_14) (fun _ _ => ⟨rfl, e2, (by decide : 0 + 0 ≤ _), (by decide : 0 + 0 ≤ _)⟩)
  dsimp only [Pt.U, Pt.locs, Pt.cells, Pt.slots] at X3 l3 y3 z3 st3 hQ3
  subst y3 z3
  obtain ⟨rfl, N3q, e3⟩ := hQ3
  have N3 : Fr n0 L3 := by rw [l3]; exact Fr.app N1 N3q
  refine stt st3 ?_
  show Go p e below T3 (mkF m 17 #[.val (.ref t), .val (.int (32 : Int32)), .val (.int (Int32.ofNat cs.length))] [(.int (Int32.ofNat cs.length)), (.int (Int32.ofNat cs.length)), (.int (32 : Int32)), (.ref tv_t)]) _
  obtain ⟨_, _, ⟨T4, L4, k4, n4⟩, -, X4, ⟨Lc4, hQ4, l4, y4, z4⟩, st4⟩ := Jvm.LawKit.callS X3 hx (y := (⟨"java/lang/StringLatin1", "indexOf", "([BIII)I"⟩ : MethodName)) hown (mvT hZ (hw _ (List.mem_of_getElem? (i := 90) rfl))) (mvT hZ (hw _ (List.mem_of_getElem? (i := 91) rfl))) (mvT hZ (hw _ (List.mem_of_getElem? (i := 92) rfl))) (mvT hZ (hw _ (List.mem_of_getElem? (i := 93) rfl))) (by decide) (backOf (W := 0) (rm_lix l Z a0 hw [] tv_t (Int32.ofNat cs.length) cs.length (own_by cs) kv_t h0 n0 O0 Va_t (own_nn hl_t) (own_ofNatI hl_t)) hZ (hw _ (List.mem_of_getElem? (i := 93) rfl)) (hw _ (List.mem_of_getElem? (i := 92) rfl)) (by decide) (by decide)) (g := (mkF m 17 #[.val (.ref t), .val (.int (32 : Int32)), .val (.int (Int32.ofNat cs.length))] [(.int (Int32.ofNat cs.length)), (.int (Int32.ofNat cs.length)), (.int (32 : Int32)), (.ref tv_t)])) rfl (by rw [hml]; rfl) (argsL := [(.ref tv_t), (.int (32 : Int32)), (.int (Int32.ofNat cs.length)), (.int (Int32.ofNat cs.length))]) (rest := []) (lenOf pd_12 rfl) rfl (by show 2 * 0 + _ ≤ _; exact Nat.le_of_eq rfl) (hb hby d16_17) (fun _ _ => ⟨rfl, e3, (by decide : 0 + 0 ≤ _), (by decide : 0 + 0 ≤ _)⟩)
  dsimp only [Pt.U, Pt.locs, Pt.cells, Pt.slots] at X4 l4 y4 z4 st4 hQ4
  subst y4 z4
  obtain ⟨rfl, N4q, e4⟩ := hQ4
  have N4 : Fr n0 L4 := by rw [l4]; exact Fr.app N3 N4q
  refine stp st4 ?_
  show Go p e below T4 (mkF m 20 #[.val (.ref t), .val (.int (32 : Int32)), .val (.int (Int32.ofNat cs.length))] [(.int (-1 : Int32))]) _
  refine stp (fun _ => XS.goto X4.here hx rfl (pc0 := 20) (pc' := 36) rfl (hb hby d16_20) (by decide) (by decide)) ?_
  show Go p e below T4 (mkF m 36 #[.val (.ref t), .val (.int (32 : Int32)), .val (.int (Int32.ofNat cs.length))] [(.int (-1 : Int32))]) _
  refine outI X4 hx hret (hb hby d16_36) hlk (by decide) (by decide) ?_
  exact ⟨rfl, N4, e4⟩
theorem d24_0 : decode jdk_41_method_12_code 0 = .ok (.iload_n 0, 1) := by decide +kernel
theorem d24_1 : decode jdk_41_method_12_code 1 = .ok (.ifCond .lt 13, 3) := by decide +kernel
theorem d24_4 : decode jdk_41_method_12_code 4 = .ok (.iload_n 0, 1) := by decide +kernel
theorem d24_5 : decode jdk_41_method_12_code 5 = .ok (.iload_n 1, 1) := by decide +kernel
theorem d24_6 : decode jdk_41_method_12_code 6 = .ok (.if_icmp .gt 8, 3) := by decide +kernel
theorem d24_9 : decode jdk_41_method_12_code 9 = .ok (.iload_n 1, 1) := by decide +kernel
theorem d24_10 : decode jdk_41_method_12_code 10 = .ok (.iload_n 2, 1) := by decide +kernel
theorem d24_11 : decode jdk_41_method_12_code 11 = .ok (.if_icmp .le 11, 3) := by decide +kernel
theorem d24_22 : decode jdk_41_method_12_code 22 = .ok (.iload_n 0, 1) := by decide +kernel
theorem d24_23 : decode jdk_41_method_12_code 23 = .ok (.ireturn, 1) := by decide +kernel
theorem ef_rm_cft (m : MethodId) (b_ : Int32) (fm : Value) (cat_fm : fm.category = 1) : entryFrame m #[(.int b_), (.int b_), (.int b_), fm] 4 = mkF m 0 #[.val (.int b_), .val (.int b_), .val (.int b_), .val fm] [] := by first | (simp [entryFrame, mkF, argsToLocals, Value.category, cat_fm]; done) | rfl | (cases fm <;> first | rfl | (exact absurd cat_fm (show ¬ (2 : Nat) = 1 by decide)))
def Q_rm_cft (Z : State) (b_ : Int32) (fm : Value)  (h0 : Heap) (n0 : Nat) (v : Option Value) (h : Heap) (L : List Loc) : Prop := v = some (.int b_) ∧ Fr n0 L ∧ h = h0
theorem pn_15_ : plainName "jdk/internal/util/Preconditions" = true := by first | (simp [plainName, overriddenIn]; done) | decide +kernel
theorem pn_15 : plainFor (⟨"jdk/internal/util/Preconditions", "checkFromToIndex", "(IIILjava/util/function/BiFunction;)I"⟩ : MethodName) = true := plainFor_of_name pn_15_
set_option maxRecDepth 65536 in
set_option maxHeartbeats 40000000 in
theorem rm_cft (l : Launch) (Z : State) (a0 : Array Value) (hw : ∀ d ∈ tables_1, d.before a0 Z = true) (ws : List Jvm.Cond) (b_ : Int32) (fm : Value)  (h0 : Heap) (n0 : Nat) (O0 : Old Z n0 h0) (hfm : fm.isRef = true) (h0_ : ¬ b_ < 0) :
    MetFree l (⟨"jdk/internal/util/Preconditions", "checkFromToIndex", "(IIILjava/util/function/BiFunction;)I"⟩ : MethodName) (head1 (Jvm.Cond.code (⟨"jdk/internal/util/Preconditions", "checkFromToIndex", "(IIILjava/util/function/BiFunction;)I"⟩ : MethodName) jdk_41_method_12_code 4 (some .int) :: ws) ({ frames := 0, cells := 0, slots := 0, locals := 0 } : Room)) (fun args_ U => args_ = #[(.int b_), (.int b_), (.int b_), fm] ∧ Z.Warmed39 U.vm ∧ U.heap = h0) (fun _ _ _ _ _ => True) (fun _ U out_ U' => ∃ val_ loc_, out_ = .returned val_ ∧ (Q_rm_cft Z b_ fm h0 n0) val_ U'.heap loc_ ∧ FrameEnd U out_ U' loc_ ({ frames := 0, cells := 0, slots := 0, locals := 0 } : Room).cells ({ frames := 0, cells := 0, slots := 0, locals := 0 } : Room).slots) := by
  refine start (Q := (Q_rm_cft Z b_ fm h0 n0)) pn_15 ?_
  intro p e s m below meth c T0 X0 hx hby hml hown hnm hret hlk hZ e0
  replace hown : s.vm.findClass "jdk/internal/util/Preconditions" = some m.cls := hown
  replace hml : c.maxLocals = 4 := hml
  refine goAt (ef_rm_cft m b_ fm (cat_ref hfm)) ?_
  have N0 := Fr.nil n0
  show Go p e below T0 (mkF m 0 #[.val (.int b_), .val (.int b_), .val (.int b_), .val fm] []) _
  refine stp (fun _ => XS.iloadN X0.here hx rfl (hb hby d24_0) rfl) ?_
  show Go p e below T0 (mkF m 1 #[.val (.int b_), .val (.int b_), .val (.int b_), .val fm] [(.int b_)]) _
  refine stp (fun _ => XS.ifNo X0.here hx rfl (hb hby d24_1) rfl (XT.i0_lt_f h0_)) ?_
  show Go p e below T0 (mkF m 4 #[.val (.int b_), .val (.int b_), .val (.int b_), .val fm] []) _
  refine stp (fun _ => XS.iloadN X0.here hx rfl (hb hby d24_4) rfl) ?_
  show Go p e below T0 (mkF m 5 #[.val (.int b_), .val (.int b_), .val (.int b_), .val fm] [(.int b_)]) _
  refine stp (fun _ => XS.iloadN X0.here hx rfl (hb hby d24_5) rfl) ?_
  show Go p e below T0 (mkF m 6 #[.val (.int b_), .val (.int b_), .val (.int b_), .val fm] [(.int b_), (.int b_)]) _
  refine stp (fun _ => XS.icmpNo X0.here hx rfl (hb hby d24_6) rfl (XT.ii_gt_f Int32.lt_irrefl)) ?_
  show Go p e below T0 (mkF m 9 #[.val (.int b_), .val (.int b_), .val (.int b_), .val fm] []) _
  refine stp (fun _ => XS.iloadN X0.here hx rfl (hb hby d24_9) rfl) ?_
  show Go p e below T0 (mkF m 10 #[.val (.int b_), .val (.int b_), .val (.int b_), .val fm] [(.int b_)]) _
  refine stp (fun _ => XS.iloadN X0.here hx rfl (hb hby d24_10) rfl) ?_
  show Go p e below T0 (mkF m 11 #[.val (.int b_), .val (.int b_), .val (.int b_), .val fm] [(.int b_), (.int b_)]) _
  refine stp (fun _ => XS.icmpYes X0.here hx rfl (pc0 := 11) (pc' := 22) rfl (hb hby d24_11) rfl (XT.ii_le_t Int32.lt_irrefl) (by decide) (by decide)) ?_
  show Go p e below T0 (mkF m 22 #[.val (.int b_), .val (.int b_), .val (.int b_), .val fm] []) _
  refine stp (fun _ => XS.iloadN X0.here hx rfl (hb hby d24_22) rfl) ?_
  show Go p e below T0 (mkF m 23 #[.val (.int b_), .val (.int b_), .val (.int b_), .val fm] [(.int b_)]) _
  refine outI X0 hx hret (hb hby d24_23) hlk (by decide) (by decide) ?_
  exact ⟨rfl, N0, e0⟩
theorem d23_0 : decode jdk_42_method_158_code 0 = .ok (.iload_n 0, 1) := by decide +kernel
theorem d23_1 : decode jdk_42_method_158_code 1 = .ok (.iload_n 1, 1) := by decide +kernel
theorem d23_2 : decode jdk_42_method_158_code 2 = .ok (.iload_n 2, 1) := by decide +kernel
theorem d23_3 : decode jdk_42_method_158_code 3 = .ok (.getstatic 1053, 3) := by decide +kernel
theorem d23_6 : decode jdk_42_method_158_code 6 = .ok (.invokestatic 1062, 3) := by decide +kernel
theorem pd_13 : parseMethodDescriptor "(IIILjava/util/function/BiFunction;)I" = some ⟨[.int, .int, .int, (.object "java/util/function/BiFunction")], some .int⟩ := by decide +kernel
theorem d23_9 : decode jdk_42_method_158_code 9 = .ok (.pop, 1) := by decide +kernel
theorem d23_10 : decode jdk_42_method_158_code 10 = .ok (.return_, 1) := by decide +kernel
theorem ef_rm_cbe (m : MethodId) (b_ : Int32)  : entryFrame m #[(.int b_), (.int b_), (.int b_)] 3 = mkF m 0 #[.val (.int b_), .val (.int b_), .val (.int b_)] [] := by first | (simp [entryFrame, mkF, argsToLocals, Value.category]; done) | rfl
def Q_rm_cbe (Z : State) (b_ : Int32) (fm : Value) (h0 : Heap) (n0 : Nat) (v : Option Value) (h : Heap) (L : List Loc) : Prop := v = none ∧ Fr n0 L ∧ h = h0
theorem pn_16_ : plainName "java/lang/String" = true := by first | (simp [plainName, overriddenIn]; done) | decide +kernel
theorem pn_16 : plainFor (⟨"java/lang/String", "checkBoundsBeginEnd", "(III)V"⟩ : MethodName) = true := plainFor_of_name pn_16_
set_option maxRecDepth 65536 in
set_option maxHeartbeats 40000000 in
theorem rm_cbe (l : Launch) (Z : State) (a0 : Array Value) (hw : ∀ d ∈ tables_1, d.before a0 Z = true) (ws : List Jvm.Cond) (b_ : Int32) (fm : Value) (h0 : Heap) (n0 : Nat) (O0 : Old Z n0 h0) (S_SIOOBE_FORMATTER : Sta Z Z.heap "jdk/internal/util/Preconditions" "SIOOBE_FORMATTER" "Ljava/util/function/BiFunction;" fm) (hfm : fm.isRef = true) (h0_ : ¬ b_ < 0) :
    MetFree l (⟨"java/lang/String", "checkBoundsBeginEnd", "(III)V"⟩ : MethodName) (head1 (Jvm.Cond.code (⟨"java/lang/String", "checkBoundsBeginEnd", "(III)V"⟩ : MethodName) jdk_42_method_158_code 3 none :: ws) ({ frames := 1, cells := 0, slots := 0, locals := 15 } : Room)) (fun args_ U => args_ = #[(.int b_), (.int b_), (.int b_)] ∧ Z.Warmed39 U.vm ∧ U.heap = h0) (fun _ _ _ _ _ => True) (fun _ U out_ U' => ∃ val_ loc_, out_ = .returned val_ ∧ (Q_rm_cbe Z b_ fm h0 n0) val_ U'.heap loc_ ∧ FrameEnd U out_ U' loc_ ({ frames := 1, cells := 0, slots := 0, locals := 15 } : Room).cells ({ frames := 1, cells := 0, slots := 0, locals := 15 } : Room).slots) := by
  refine start (Q := (Q_rm_cbe Z b_ fm h0 n0)) pn_16 ?_
  intro p e s m below meth c T0 X0 hx hby hml hown hnm hret hlk hZ e0
  replace hown : s.vm.findClass "java/lang/String" = some m.cls := hown
  replace hml : c.maxLocals = 3 := hml
  refine goAt (ef_rm_cbe m b_ ) ?_
  have N0 := Fr.nil n0
  show Go p e below T0 (mkF m 0 #[.val (.int b_), .val (.int b_), .val (.int b_)] []) _
  refine stp (fun _ => XS.iloadN X0.here hx rfl (hb hby d23_0) rfl) ?_
  show Go p e below T0 (mkF m 1 #[.val (.int b_), .val (.int b_), .val (.int b_)] [(.int b_)]) _
  refine stp (fun _ => XS.iloadN X0.here hx rfl (hb hby d23_1) rfl) ?_
  show Go p e below T0 (mkF m 2 #[.val (.int b_), .val (.int b_), .val (.int b_)] [(.int b_), (.int b_)]) _
  refine stp (fun _ => XS.iloadN X0.here hx rfl (hb hby d23_2) rfl) ?_
  show Go p e below T0 (mkF m 3 #[.val (.int b_), .val (.int b_), .val (.int b_)] [(.int b_), (.int b_), (.int b_)]) _
  obtain ⟨T1, X1, e1, st1⟩ := getS2 X0 hx hZ hown (host := "") (Or.inl (hw _ (List.mem_of_getElem? (i := 112) rfl))) Via.refl e0 (S_SIOOBE_FORMATTER.ext O0.2) (g := (mkF m 3 #[.val (.int b_), .val (.int b_), .val (.int b_)] [(.int b_), (.int b_), (.int b_)])) rfl (hb hby d23_3)
  refine stp st1 ?_
  show Go p e below T1 (mkF m 6 #[.val (.int b_), .val (.int b_), .val (.int b_)] [fm, (.int b_), (.int b_), (.int b_)]) _
  obtain ⟨_, _, ⟨T2, L2, k2, n2⟩, -, X2, ⟨Lc2, hQ2, l2, y2, z2⟩, st2⟩ := Jvm.LawKit.callS X1 hx (y := (⟨"jdk/internal/util/Preconditions", "checkFromToIndex", "(IIILjava/util/function/BiFunction;)I"⟩ : MethodName)) hown (mvT hZ (hw _ (List.mem_of_getElem? (i := 114) rfl))) (mvT hZ (hw _ (List.mem_of_getElem? (i := 115) rfl))) (mvT hZ (hw _ (List.mem_of_getElem? (i := 113) rfl))) (mvT hZ (hw _ (List.mem_of_getElem? (i := 116) rfl))) (by decide) (backOf (W := 0) (rm_cft l Z a0 hw [] b_ fm  h0 n0 O0 hfm h0_) hZ (hw _ (List.mem_of_getElem? (i := 116) rfl)) (hw _ (List.mem_of_getElem? (i := 113) rfl)) (by decide) (by decide)) (g := (mkF m 6 #[.val (.int b_), .val (.int b_), .val (.int b_)] [fm, (.int b_), (.int b_), (.int b_)])) rfl (by rw [hml]; rfl) (argsL := [(.int b_), (.int b_), (.int b_), fm]) (rest := []) (lenOf pd_13 rfl) rfl (by show 2 * 0 + _ ≤ _; exact Nat.le_of_eq rfl) (hb hby d23_6) (fun _ _ => ⟨rfl, e1, (by decide : 0 + 0 ≤ _), (by decide : 0 + 0 ≤ _)⟩)
  dsimp only [Pt.U, Pt.locs, Pt.cells, Pt.slots] at X2 l2 y2 z2 st2 hQ2
  subst y2 z2
  obtain ⟨rfl, N2q, e2⟩ := hQ2
  have N2 : Fr n0 L2 := by rw [l2]; exact Fr.app N0 N2q
  refine stp st2 ?_
  show Go p e below T2 (mkF m 9 #[.val (.int b_), .val (.int b_), .val (.int b_)] [(.int b_)]) _
  refine stp (fun _ => XS.pop X2.here hx rfl (hb hby d23_9) rfl rfl) ?_
  show Go p e below T2 (mkF m 10 #[.val (.int b_), .val (.int b_), .val (.int b_)] []) _
  refine outV X2 hx hret (hb hby d23_10) hlk (by decide) (by decide) ?_
  exact ⟨rfl, N2, e2⟩
theorem d25_0 : decode jdk_43_method_47_code 0 = .ok (.iload_n 2, 1) := by decide +kernel
theorem d25_1 : decode jdk_43_method_47_code 1 = .ok (.ifCond .ne 6, 3) := by decide +kernel
theorem d25_4 : decode jdk_43_method_47_code 4 = .ok (.ldc 151, 2) := by decide +kernel
theorem d25_6 : decode jdk_43_method_47_code 6 = .ok (.areturn, 1) := by decide +kernel
theorem ef_rm_ns (m : MethodId) (va : Addr) (b_ : Int32) (n : Int32)  : entryFrame m #[(.ref va), (.int b_), (.int n)] 3 = mkF m 0 #[.val (.ref va), .val (.int b_), .val (.int n)] [] := by first | (simp [entryFrame, mkF, argsToLocals, Value.category]; done) | rfl
def Q_rm_ns (Z : State) (va : Addr) (b_ : Int32) (n : Int32)  (h0 : Heap) (n0 : Nat) (v : Option Value) (h : Heap) (L : List Loc) : Prop := ∃ (r : Addr), v = some (.ref r) ∧ Fr n0 L ∧ Keep h0 h [] ∧ StrIs Z h r []
theorem pn_17_ : plainName "java/lang/StringLatin1" = true := by first | (simp [plainName, overriddenIn]; done) | decide +kernel
theorem pn_17 : plainFor (⟨"java/lang/StringLatin1", "newString", "([BII)Ljava/lang/String;"⟩ : MethodName) = true := plainFor_of_name pn_17_
set_option maxRecDepth 65536 in
set_option maxHeartbeats 40000000 in
theorem rm_ns (l : Launch) (Z : State) (a0 : Array Value) (hw : ∀ d ∈ tables_1, d.before a0 Z = true) (ws : List Jvm.Cond) (va : Addr) (b_ : Int32) (n : Int32)  (h0 : Heap) (n0 : Nat) (O0 : Old Z n0 h0) (hEL : EW Z a0 consts_1) (hn : n = 0) :
    MetFree l (⟨"java/lang/StringLatin1", "newString", "([BII)Ljava/lang/String;"⟩ : MethodName) (head1 (Jvm.Cond.code (⟨"java/lang/StringLatin1", "newString", "([BII)Ljava/lang/String;"⟩ : MethodName) jdk_43_method_47_code 3 (some (.object "java/lang/String")) :: ws) ({ frames := 0, cells := 2, slots := 4, locals := 0 } : Room)) (fun args_ U => args_ = #[(.ref va), (.int b_), (.int n)] ∧ Z.Warmed39 U.vm ∧ U.heap = h0 ∧ CHv Z consts_1 U.vm h0) (fun _ _ _ _ _ => True) (fun _ U out_ U' => ∃ val_ loc_, out_ = .returned val_ ∧ (Q_rm_ns Z va b_ n h0 n0) val_ U'.heap loc_ ∧ CHr Z consts_1 U.vm U.heap U'.vm U'.heap ∧ ReturnedEndW U out_ U' loc_ ({ frames := 0, cells := 2, slots := 4, locals := 0 } : Room).cells ({ frames := 0, cells := 2, slots := 4, locals := 0 } : Room).slots) := by
  refine startW (Q := (Q_rm_ns Z va b_ n h0 n0)) pn_17 ?_
  intro p e s m below meth c T0 X0 hx hby hml hown hnm hret hlk hZ e0 hS CR
  have hk : 0 ≤ h0.size := Nat.zero_le _
  have wS : ∀ a ∈ Bundle.stringAtoms, a.before a0 Z = true := own_wS hw
  replace hown : s.vm.findClass "java/lang/StringLatin1" = some m.cls := hown
  replace hml : c.maxLocals = 3 := hml
  refine goAt (ef_rm_ns m va b_ n ) ?_
  have N0 := Fr.nil n0
  show Go p e below T0 (mkF m 0 #[.val (.ref va), .val (.int b_), .val (.int n)] []) _
  refine stp (fun _ => XS.iloadN X0.here hx rfl (hb hby d25_0) rfl) ?_
  show Go p e below T0 (mkF m 1 #[.val (.ref va), .val (.int b_), .val (.int n)] [(.int n)]) _
  refine stp (fun _ => XS.ifNo X0.here hx rfl (hb hby d25_1) rfl (XT.i0_ne_f hn)) ?_
  show Go p e below T0 (mkF m 4 #[.val (.ref va), .val (.int b_), .val (.int n)] []) _
  obtain ⟨la1, T1, h1, k1_1, lb1, kl1, X1, e1, E1, hS, hk', hZ, hown, Ea1, Ca1, Va1, Ba1, lta1, ltb1, CRn1, Li1, hne1, st1⟩ := ldcCH X0 hx hZ hown (hw _ (List.mem_of_getElem? (i := 120) rfl)) wS e0 hS hk hEL (by decide) CR.1 (vs := []) (z := (0 : Int32)) ⟨by decide +kernel, by decide +kernel⟩ (by decide) (by decide) (g := (mkF m 4 #[.val (.ref va), .val (.int b_), .val (.int n)] [])) rfl (hb hby d25_4) (n := 0) (by decide +kernel) (by decide) (by decide) (by decide)
  have hk := hk'
  have CR := CR.trans CRn1
  have K1 : Keep h0 h1 [] := (Keep.refl h0 []).ext E1
  have O1 := O0.ext E1
  refine stp st1 ?_
  show Go p e below T1 (mkF m 6 #[.val (.ref va), .val (.int b_), .val (.int n)] [(.ref la1)]) _
  have Q2 : StrIs Z h1 la1 [] := StrIs.of Ea1 Va1 Ca1 Ba1 rfl rfl (fun _ q => nomatch q) (Nat.le_of_ble_eq_true rfl)
  refine outAW X1 hx hZ hEL e1 hS hk CR hret rfl rfl (hb hby d25_6) hlk (by decide) (by decide) ?_
  rw [e1]
  exact ⟨la1, rfl, N0, K1, Q2⟩
theorem d22_0 : decode jdk_42_method_92_code 0 = .ok (.aload_n 0, 1) := by decide +kernel
theorem d22_1 : decode jdk_42_method_92_code 1 = .ok (.invokevirtual 505, 3) := by decide +kernel
theorem d22_4 : decode jdk_42_method_92_code 4 = .ok (.istore_n 3, 1) := by decide +kernel
theorem d22_5 : decode jdk_42_method_92_code 5 = .ok (.iload_n 1, 1) := by decide +kernel
theorem d22_6 : decode jdk_42_method_92_code 6 = .ok (.iload_n 2, 1) := by decide +kernel
theorem d22_7 : decode jdk_42_method_92_code 7 = .ok (.iload_n 3, 1) := by decide +kernel
theorem d22_8 : decode jdk_42_method_92_code 8 = .ok (.invokestatic 521, 3) := by decide +kernel
theorem pd_14 : parseMethodDescriptor "(III)V" = some ⟨[.int, .int, .int], none⟩ := by decide +kernel
theorem d22_11 : decode jdk_42_method_92_code 11 = .ok (.iload_n 1, 1) := by decide +kernel
theorem d22_12 : decode jdk_42_method_92_code 12 = .ok (.ifCond .ne 10, 3) := by decide +kernel
theorem d22_15 : decode jdk_42_method_92_code 15 = .ok (.iload_n 2, 1) := by decide +kernel
theorem d22_16 : decode jdk_42_method_92_code 16 = .ok (.iload_n 3, 1) := by decide +kernel
theorem d22_17 : decode jdk_42_method_92_code 17 = .ok (.if_icmp .ne 5, 3) := by decide +kernel
theorem d22_20 : decode jdk_42_method_92_code 20 = .ok (.aload_n 0, 1) := by decide +kernel
theorem d22_21 : decode jdk_42_method_92_code 21 = .ok (.areturn, 1) := by decide +kernel
theorem ef_rm_sba (m : MethodId) (t : Addr) (nx : Int32)  : entryFrame m #[(.ref t), (.int nx), (.int nx)] 5 = mkF m 0 #[.val (.ref t), .val (.int nx), .val (.int nx), .unset, .unset] [] := by first | (simp [entryFrame, mkF, argsToLocals, Value.category]; done) | rfl
def Q_rm_sba (Z : State) (t : Addr) (nx : Int32) (cs : List Int32) (cz : Int32) (fm : Value) (h0 : Heap) (n0 : Nat) (v : Option Value) (h : Heap) (L : List Loc) : Prop := v = some (.ref t) ∧ Fr n0 L ∧ h = h0
theorem pn_18_ : plainName "java/lang/String" = true := by first | (simp [plainName, overriddenIn]; done) | decide +kernel
theorem pn_18 : plainFor (⟨"java/lang/String", "substring", "(II)Ljava/lang/String;"⟩ : MethodName) = true := plainFor_of_name pn_18_
set_option maxRecDepth 65536 in
set_option maxHeartbeats 40000000 in
theorem rm_sba (l : Launch) (Z : State) (a0 : Array Value) (hw : ∀ d ∈ tables_1, d.before a0 Z = true) (ws : List Jvm.Cond) (t : Addr) (nx : Int32) (cs : List Int32) (cz : Int32) (fm : Value) (h0 : Heap) (n0 : Nat) (O0 : Old Z n0 h0) (Q_t : StrIs Z h0 t cs) (S_COMPACT_STRINGS : Sta Z Z.heap "java/lang/String" "COMPACT_STRINGS" "Z" (.int cz)) (S_SIOOBE_FORMATTER : Sta Z Z.heap "jdk/internal/util/Preconditions" "SIOOBE_FORMATTER" "Ljava/util/function/BiFunction;" fm) (hcz : ¬ cz = (0 : Int32)) (hfm : fm.isRef = true) (hnx : nx = (Int32.ofNat cs.length)) (hz : (Int32.ofNat cs.length) = 0) :
    MetFree l (⟨"java/lang/String", "substring", "(II)Ljava/lang/String;"⟩ : MethodName) (head1 (Jvm.Cond.code (⟨"java/lang/String", "substring", "(II)Ljava/lang/String;"⟩ : MethodName) jdk_42_method_92_code 5 (some (.object "java/lang/String")) :: ws) ({ frames := 2, cells := 0, slots := 0, locals := 29 } : Room)) (fun args_ U => args_ = #[(.ref t), (.int nx), (.int nx)] ∧ Z.Warmed39 U.vm ∧ U.heap = h0) (fun _ _ _ _ _ => True) (fun _ U out_ U' => ∃ val_ loc_, out_ = .returned val_ ∧ (Q_rm_sba Z t nx cs cz fm h0 n0) val_ U'.heap loc_ ∧ FrameEnd U out_ U' loc_ ({ frames := 2, cells := 0, slots := 0, locals := 29 } : Room).cells ({ frames := 2, cells := 0, slots := 0, locals := 29 } : Room).slots) := by
  refine start (Q := (Q_rm_sba Z t nx cs cz fm h0 n0)) pn_18 ?_
  intro p e s m below meth c T0 X0 hx hby hml hown hnm hret hlk hZ e0
  replace hown : s.vm.findClass "java/lang/String" = some m.cls := hown
  replace hml : c.maxLocals = 5 := hml
  refine goAt (ef_rm_sba m t nx ) ?_
  have N0 := Fr.nil n0
  obtain ⟨tv_t, kv_t, Eo_t, Fv_t, Fc_t, Kv_t, hp_t, hl_t⟩ := (id Q_t)
  have Va_t : Arf Z h0 tv_t kv_t .byte cs.length (fun i => (.int (own_by cs i))) := (Arv.arf Kv_t (own_ofNat hl_t)).congr fun i _ => own_byv cs i
  show Go p e below T0 (mkF m 0 #[.val (.ref t), .val (.int nx), .val (.int nx), .unset, .unset] []) _
  subst hnx
  show Go p e below T0 (mkF m 0 #[.val (.ref t), .val (.int (Int32.ofNat cs.length)), .val (.int (Int32.ofNat cs.length)), .unset, .unset] []) _
  refine stp (fun _ => XS.aloadN X0.here hx rfl (hb hby d22_0) rfl rfl) ?_
  show Go p e below T0 (mkF m 1 #[.val (.ref t), .val (.int (Int32.ofNat cs.length)), .val (.int (Int32.ofNat cs.length)), .unset, .unset] [(.ref t)]) _
  obtain ⟨cq1, kq1, q1a, q1b, q1c⟩ := isOf hZ e0 Eo_t
  obtain ⟨_, _, ⟨T1, L1, k1, n1⟩, -, X1, ⟨Lc1, hQ1, l1, y1, z1⟩, st1⟩ := X0.virtualBack hx (y := (⟨"java/lang/String", "length", "()I"⟩ : MethodName)) (z := (⟨"java/lang/String", "length", "()I"⟩ : MethodName)) hown (mvT hZ (hw _ (List.mem_of_getElem? (i := 55) rfl))) (mvT hZ (hw _ (List.mem_of_getElem? (i := 56) rfl))) (notFace_of_selects (args := #[]) (mvT hZ (hw _ (List.mem_of_getElem? (i := 58) rfl)))) (mvT hZ (hw _ (List.mem_of_getElem? (i := 58) rfl))) (mvT hZ (hw _ (List.mem_of_getElem? (i := 57) rfl))) (by decide) (backOf (W := 0) (rm_slen l Z a0 hw [] t cs cz h0 n0 O0 Q_t S_COMPACT_STRINGS hcz) hZ (hw _ (List.mem_of_getElem? (i := 59) rfl)) (hw _ (List.mem_of_getElem? (i := 7) rfl)) (by decide) (by decide)) q1a q1c (g := (mkF m 1 #[.val (.ref t), .val (.int (Int32.ofNat cs.length)), .val (.int (Int32.ofNat cs.length)), .unset, .unset] [(.ref t)])) rfl (by rw [hml]; rfl) (Steps.refl _) (argsL := []) (rest := []) (lenOf pd_7 rfl) rfl (by show 2 * 0 + _ ≤ _; exact Nat.le_of_eq rfl) (hb hby d22_1) (fun _ _ => ⟨rfl, e0, (by decide : 0 + 0 ≤ _), (by decide : 0 + 0 ≤ _)⟩)
  dsimp only [Pt.U, Pt.locs, Pt.cells, Pt.slots] at X1 l1 y1 z1 st1 hQ1
  subst y1 z1
  obtain ⟨rfl, N1q, e1⟩ := hQ1
  have N1 : Fr n0 L1 := by rw [l1]; exact Fr.app N0 N1q
  refine stt st1 ?_
  show Go p e below T1 (mkF m 4 #[.val (.ref t), .val (.int (Int32.ofNat cs.length)), .val (.int (Int32.ofNat cs.length)), .unset, .unset] [(.int (Int32.ofNat cs.length))]) _
  refine stp (fun _ => XS.istoreN X1.here hx rfl (hb hby d22_4) rfl (l' := #[.val (.ref t), .val (.int (Int32.ofNat cs.length)), .val (.int (Int32.ofNat cs.length)), .val (.int (Int32.ofNat cs.length)), .unset]) rfl) ?_
  show Go p e below T1 (mkF m 5 #[.val (.ref t), .val (.int (Int32.ofNat cs.length)), .val (.int (Int32.ofNat cs.length)), .val (.int (Int32.ofNat cs.length)), .unset] []) _
  refine stp (fun _ => XS.iloadN X1.here hx rfl (hb hby d22_5) rfl) ?_
  show Go p e below T1 (mkF m 6 #[.val (.ref t), .val (.int (Int32.ofNat cs.length)), .val (.int (Int32.ofNat cs.length)), .val (.int (Int32.ofNat cs.length)), .unset] [(.int (Int32.ofNat cs.length))]) _
  refine stp (fun _ => XS.iloadN X1.here hx rfl (hb hby d22_6) rfl) ?_
  show Go p e below T1 (mkF m 7 #[.val (.ref t), .val (.int (Int32.ofNat cs.length)), .val (.int (Int32.ofNat cs.length)), .val (.int (Int32.ofNat cs.length)), .unset] [(.int (Int32.ofNat cs.length)), (.int (Int32.ofNat cs.length))]) _
  refine stp (fun _ => XS.iloadN X1.here hx rfl (hb hby d22_7) rfl) ?_
  show Go p e below T1 (mkF m 8 #[.val (.ref t), .val (.int (Int32.ofNat cs.length)), .val (.int (Int32.ofNat cs.length)), .val (.int (Int32.ofNat cs.length)), .unset] [(.int (Int32.ofNat cs.length)), (.int (Int32.ofNat cs.length)), (.int (Int32.ofNat cs.length))]) _
  obtain ⟨_, _, ⟨T2, L2, k2, n2⟩, -, X2, ⟨Lc2, hQ2, l2, y2, z2⟩, st2⟩ := Jvm.LawKit.callS X1 hx (y := (⟨"java/lang/String", "checkBoundsBeginEnd", "(III)V"⟩ : MethodName)) hown (mvT hZ (hw _ (List.mem_of_getElem? (i := 109) rfl))) (mvT hZ (hw _ (List.mem_of_getElem? (i := 110) rfl))) (mvT hZ (hw _ (List.mem_of_getElem? (i := 7) rfl))) (mvT hZ (hw _ (List.mem_of_getElem? (i := 111) rfl))) (by decide) (backOf (W := 0) (rm_cbe l Z a0 hw [] (Int32.ofNat cs.length) fm h0 n0 O0 S_SIOOBE_FORMATTER hfm (own_nn hl_t)) hZ (hw _ (List.mem_of_getElem? (i := 111) rfl)) (hw _ (List.mem_of_getElem? (i := 7) rfl)) (by decide) (by decide)) (g := (mkF m 8 #[.val (.ref t), .val (.int (Int32.ofNat cs.length)), .val (.int (Int32.ofNat cs.length)), .val (.int (Int32.ofNat cs.length)), .unset] [(.int (Int32.ofNat cs.length)), (.int (Int32.ofNat cs.length)), (.int (Int32.ofNat cs.length))])) rfl (by rw [hml]; rfl) (argsL := [(.int (Int32.ofNat cs.length)), (.int (Int32.ofNat cs.length)), (.int (Int32.ofNat cs.length))]) (rest := []) (lenOf pd_14 rfl) rfl (by show 2 * 0 + _ ≤ _; exact Nat.le_of_eq rfl) (hb hby d22_8) (fun _ _ => ⟨rfl, e1, (by decide : 0 + 0 ≤ _), (by decide : 0 + 0 ≤ _)⟩)
  dsimp only [Pt.U, Pt.locs, Pt.cells, Pt.slots] at X2 l2 y2 z2 st2 hQ2
  subst y2 z2
  obtain ⟨rfl, N2q, e2⟩ := hQ2
  have N2 : Fr n0 L2 := by rw [l2]; exact Fr.app N1 N2q
  refine stp st2 ?_
  show Go p e below T2 (mkF m 11 #[.val (.ref t), .val (.int (Int32.ofNat cs.length)), .val (.int (Int32.ofNat cs.length)), .val (.int (Int32.ofNat cs.length)), .unset] []) _
  refine stp (fun _ => XS.iloadN X2.here hx rfl (hb hby d22_11) rfl) ?_
  show Go p e below T2 (mkF m 12 #[.val (.ref t), .val (.int (Int32.ofNat cs.length)), .val (.int (Int32.ofNat cs.length)), .val (.int (Int32.ofNat cs.length)), .unset] [(.int (Int32.ofNat cs.length))]) _
  refine stp (fun _ => XS.ifNo X2.here hx rfl (hb hby d22_12) rfl (XT.i0_ne_f hz)) ?_
  show Go p e below T2 (mkF m 15 #[.val (.ref t), .val (.int (Int32.ofNat cs.length)), .val (.int (Int32.ofNat cs.length)), .val (.int (Int32.ofNat cs.length)), .unset] []) _
  refine stp (fun _ => XS.iloadN X2.here hx rfl (hb hby d22_15) rfl) ?_
  show Go p e below T2 (mkF m 16 #[.val (.ref t), .val (.int (Int32.ofNat cs.length)), .val (.int (Int32.ofNat cs.length)), .val (.int (Int32.ofNat cs.length)), .unset] [(.int (Int32.ofNat cs.length))]) _
  refine stp (fun _ => XS.iloadN X2.here hx rfl (hb hby d22_16) rfl) ?_
  show Go p e below T2 (mkF m 17 #[.val (.ref t), .val (.int (Int32.ofNat cs.length)), .val (.int (Int32.ofNat cs.length)), .val (.int (Int32.ofNat cs.length)), .unset] [(.int (Int32.ofNat cs.length)), (.int (Int32.ofNat cs.length))]) _
  refine stp (fun _ => XS.icmpNo X2.here hx rfl (hb hby d22_17) rfl (XT.ii_ne_f rfl)) ?_
  show Go p e below T2 (mkF m 20 #[.val (.ref t), .val (.int (Int32.ofNat cs.length)), .val (.int (Int32.ofNat cs.length)), .val (.int (Int32.ofNat cs.length)), .unset] []) _
  refine stp (fun _ => XS.aloadN X2.here hx rfl (hb hby d22_20) rfl rfl) ?_
  show Go p e below T2 (mkF m 21 #[.val (.ref t), .val (.int (Int32.ofNat cs.length)), .val (.int (Int32.ofNat cs.length)), .val (.int (Int32.ofNat cs.length)), .unset] [(.ref t)]) _
  refine outA X2 hx hret rfl rfl (hb hby d22_21) hlk (by decide) (by decide) ?_
  exact ⟨rfl, N2, e2⟩
theorem d22_22 : decode jdk_42_method_92_code 22 = .ok (.iload_n 2, 1) := by decide +kernel
theorem d22_23 : decode jdk_42_method_92_code 23 = .ok (.iload_n 1, 1) := by decide +kernel
theorem d22_24 : decode jdk_42_method_92_code 24 = .ok (.isub, 1) := by decide +kernel
theorem d22_25 : decode jdk_42_method_92_code 25 = .ok (.istore 4, 2) := by decide +kernel
theorem d22_27 : decode jdk_42_method_92_code 27 = .ok (.aload_n 0, 1) := by decide +kernel
theorem d22_28 : decode jdk_42_method_92_code 28 = .ok (.invokevirtual 492, 3) := by decide +kernel
theorem d22_31 : decode jdk_42_method_92_code 31 = .ok (.ifCond .eq 16, 3) := by decide +kernel
theorem d22_34 : decode jdk_42_method_92_code 34 = .ok (.aload_n 0, 1) := by decide +kernel
theorem d22_35 : decode jdk_42_method_92_code 35 = .ok (.getfield 9, 3) := by decide +kernel
theorem d22_38 : decode jdk_42_method_92_code 38 = .ok (.iload_n 1, 1) := by decide +kernel
theorem d22_39 : decode jdk_42_method_92_code 39 = .ok (.iload 4, 2) := by decide +kernel
theorem d22_41 : decode jdk_42_method_92_code 41 = .ok (.invokestatic 685, 3) := by decide +kernel
theorem pd_15 : parseMethodDescriptor "([BII)Ljava/lang/String;" = some ⟨[(.array .byte), .int, .int], some (.object "java/lang/String")⟩ := by decide +kernel
theorem d22_44 : decode jdk_42_method_92_code 44 = .ok (.goto 13, 3) := by decide +kernel
theorem d22_57 : decode jdk_42_method_92_code 57 = .ok (.areturn, 1) := by decide +kernel
theorem ef_rm_sbb2 (m : MethodId) (t : Addr) (nx : Int32)  : entryFrame m #[(.ref t), (.int nx), (.int nx)] 5 = mkF m 0 #[.val (.ref t), .val (.int nx), .val (.int nx), .unset, .unset] [] := by first | (simp [entryFrame, mkF, argsToLocals, Value.category]; done) | rfl
def Q_rm_sbb2 (Z : State) (t : Addr) (nx : Int32) (cs : List Int32) (cz : Int32) (fm : Value) (h0 : Heap) (n0 : Nat) (v : Option Value) (h : Heap) (L : List Loc) : Prop := ∃ (r : Addr), v = some (.ref r) ∧ Fr n0 L ∧ Keep h0 h [] ∧ StrIs Z h r []
set_option maxRecDepth 65536 in
set_option maxHeartbeats 40000000 in
theorem rm_sbb2 (l : Launch) (Z : State) (a0 : Array Value) (hw : ∀ d ∈ tables_1, d.before a0 Z = true) (ws : List Jvm.Cond) (t : Addr) (nx : Int32) (cs : List Int32) (cz : Int32) (fm : Value) (h0 : Heap) (n0 : Nat) (O0 : Old Z n0 h0) (hEL : EW Z a0 consts_1) (Q_t : StrIs Z h0 t cs) (S_COMPACT_STRINGS : Sta Z Z.heap "java/lang/String" "COMPACT_STRINGS" "Z" (.int cz)) (S_SIOOBE_FORMATTER : Sta Z Z.heap "jdk/internal/util/Preconditions" "SIOOBE_FORMATTER" "Ljava/util/function/BiFunction;" fm) (hcz : ¬ cz = (0 : Int32)) (hfm : fm.isRef = true) (hnx : nx = (Int32.ofNat cs.length)) (hz : ¬ (Int32.ofNat cs.length) = 0) :
    MetFree l (⟨"java/lang/String", "substring", "(II)Ljava/lang/String;"⟩ : MethodName) (head1 (Jvm.Cond.code (⟨"java/lang/String", "substring", "(II)Ljava/lang/String;"⟩ : MethodName) jdk_42_method_92_code 5 (some (.object "java/lang/String")) :: ws) ({ frames := 2, cells := 2, slots := 4, locals := 29 } : Room)) (fun args_ U => args_ = #[(.ref t), (.int nx), (.int nx)] ∧ Z.Warmed39 U.vm ∧ U.heap = h0 ∧ CHv Z consts_1 U.vm h0) (fun _ _ _ _ _ => True) (fun _ U out_ U' => ∃ val_ loc_, out_ = .returned val_ ∧ (Q_rm_sbb2 Z t nx cs cz fm h0 n0) val_ U'.heap loc_ ∧ CHr Z consts_1 U.vm U.heap U'.vm U'.heap ∧ ReturnedEndW U out_ U' loc_ ({ frames := 2, cells := 2, slots := 4, locals := 29 } : Room).cells ({ frames := 2, cells := 2, slots := 4, locals := 29 } : Room).slots) := by
  refine startW (Q := (Q_rm_sbb2 Z t nx cs cz fm h0 n0)) pn_18 ?_
  intro p e s m below meth c T0 X0 hx hby hml hown hnm hret hlk hZ e0 hS CR
  have hk : 0 ≤ h0.size := Nat.zero_le _
  have wS : ∀ a ∈ Bundle.stringAtoms, a.before a0 Z = true := own_wS hw
  replace hown : s.vm.findClass "java/lang/String" = some m.cls := hown
  replace hml : c.maxLocals = 5 := hml
  refine goAt (ef_rm_sbb2 m t nx ) ?_
  have N0 := Fr.nil n0
  obtain ⟨tv_t, kv_t, Eo_t, Fv_t, Fc_t, Kv_t, hp_t, hl_t⟩ := (id Q_t)
  have Va_t : Arf Z h0 tv_t kv_t .byte cs.length (fun i => (.int (own_by cs i))) := (Arv.arf Kv_t (own_ofNat hl_t)).congr fun i _ => own_byv cs i
  show Go p e below T0 (mkF m 0 #[.val (.ref t), .val (.int nx), .val (.int nx), .unset, .unset] []) _
  subst hnx
  show Go p e below T0 (mkF m 0 #[.val (.ref t), .val (.int (Int32.ofNat cs.length)), .val (.int (Int32.ofNat cs.length)), .unset, .unset] []) _
  refine stp (fun _ => XS.aloadN X0.here hx rfl (hb hby d22_0) rfl rfl) ?_
  show Go p e below T0 (mkF m 1 #[.val (.ref t), .val (.int (Int32.ofNat cs.length)), .val (.int (Int32.ofNat cs.length)), .unset, .unset] [(.ref t)]) _
  obtain ⟨cq1, kq1, q1a, q1b, q1c⟩ := isOf hZ e0 Eo_t
  obtain ⟨_, _, ⟨T1, L1, k1, n1⟩, -, X1, ⟨Lc1, hQ1, l1, y1, z1⟩, st1⟩ := X0.virtualBack hx (y := (⟨"java/lang/String", "length", "()I"⟩ : MethodName)) (z := (⟨"java/lang/String", "length", "()I"⟩ : MethodName)) hown (mvT hZ (hw _ (List.mem_of_getElem? (i := 55) rfl))) (mvT hZ (hw _ (List.mem_of_getElem? (i := 56) rfl))) (notFace_of_selects (args := #[]) (mvT hZ (hw _ (List.mem_of_getElem? (i := 58) rfl)))) (mvT hZ (hw _ (List.mem_of_getElem? (i := 58) rfl))) (mvT hZ (hw _ (List.mem_of_getElem? (i := 57) rfl))) (by decide) (backOf (W := 0) (rm_slen l Z a0 hw [] t cs cz h0 n0 O0 Q_t S_COMPACT_STRINGS hcz) hZ (hw _ (List.mem_of_getElem? (i := 59) rfl)) (hw _ (List.mem_of_getElem? (i := 7) rfl)) (by decide) (by decide)) q1a q1c (g := (mkF m 1 #[.val (.ref t), .val (.int (Int32.ofNat cs.length)), .val (.int (Int32.ofNat cs.length)), .unset, .unset] [(.ref t)])) rfl (by rw [hml]; rfl) (Steps.refl _) (argsL := []) (rest := []) (lenOf pd_7 rfl) rfl (by show 2 * 0 + _ ≤ _; exact Nat.le_of_eq rfl) (hb hby d22_1) (fun _ _ => ⟨rfl, e0, (by decide : 0 + 0 ≤ _), (by decide : 0 + 0 ≤ _)⟩)
  dsimp only [Pt.U, Pt.locs, Pt.cells, Pt.slots] at X1 l1 y1 z1 st1 hQ1
  subst y1 z1
  obtain ⟨rfl, N1q, e1⟩ := hQ1
  have N1 : Fr n0 L1 := by rw [l1]; exact Fr.app N0 N1q
  refine stt st1 ?_
  show Go p e below T1 (mkF m 4 #[.val (.ref t), .val (.int (Int32.ofNat cs.length)), .val (.int (Int32.ofNat cs.length)), .unset, .unset] [(.int (Int32.ofNat cs.length))]) _
  refine stp (fun _ => XS.istoreN X1.here hx rfl (hb hby d22_4) rfl (l' := #[.val (.ref t), .val (.int (Int32.ofNat cs.length)), .val (.int (Int32.ofNat cs.length)), .val (.int (Int32.ofNat cs.length)), .unset]) rfl) ?_
  show Go p e below T1 (mkF m 5 #[.val (.ref t), .val (.int (Int32.ofNat cs.length)), .val (.int (Int32.ofNat cs.length)), .val (.int (Int32.ofNat cs.length)), .unset] []) _
  refine stp (fun _ => XS.iloadN X1.here hx rfl (hb hby d22_5) rfl) ?_
  show Go p e below T1 (mkF m 6 #[.val (.ref t), .val (.int (Int32.ofNat cs.length)), .val (.int (Int32.ofNat cs.length)), .val (.int (Int32.ofNat cs.length)), .unset] [(.int (Int32.ofNat cs.length))]) _
  refine stp (fun _ => XS.iloadN X1.here hx rfl (hb hby d22_6) rfl) ?_
  show Go p e below T1 (mkF m 7 #[.val (.ref t), .val (.int (Int32.ofNat cs.length)), .val (.int (Int32.ofNat cs.length)), .val (.int (Int32.ofNat cs.length)), .unset] [(.int (Int32.ofNat cs.length)), (.int (Int32.ofNat cs.length))]) _
  refine stp (fun _ => XS.iloadN X1.here hx rfl (hb hby d22_7) rfl) ?_
  show Go p e below T1 (mkF m 8 #[.val (.ref t), .val (.int (Int32.ofNat cs.length)), .val (.int (Int32.ofNat cs.length)), .val (.int (Int32.ofNat cs.length)), .unset] [(.int (Int32.ofNat cs.length)), (.int (Int32.ofNat cs.length)), (.int (Int32.ofNat cs.length))]) _
  obtain ⟨_, _, ⟨T2, L2, k2, n2⟩, -, X2, ⟨Lc2, hQ2, l2, y2, z2⟩, st2⟩ := Jvm.LawKit.callS X1 hx (y := (⟨"java/lang/String", "checkBoundsBeginEnd", "(III)V"⟩ : MethodName)) hown (mvT hZ (hw _ (List.mem_of_getElem? (i := 109) rfl))) (mvT hZ (hw _ (List.mem_of_getElem? (i := 110) rfl))) (mvT hZ (hw _ (List.mem_of_getElem? (i := 7) rfl))) (mvT hZ (hw _ (List.mem_of_getElem? (i := 111) rfl))) (by decide) (backOf (W := 0) (rm_cbe l Z a0 hw [] (Int32.ofNat cs.length) fm h0 n0 O0 S_SIOOBE_FORMATTER hfm (own_nn hl_t)) hZ (hw _ (List.mem_of_getElem? (i := 111) rfl)) (hw _ (List.mem_of_getElem? (i := 7) rfl)) (by decide) (by decide)) (g := (mkF m 8 #[.val (.ref t), .val (.int (Int32.ofNat cs.length)), .val (.int (Int32.ofNat cs.length)), .val (.int (Int32.ofNat cs.length)), .unset] [(.int (Int32.ofNat cs.length)), (.int (Int32.ofNat cs.length)), (.int (Int32.ofNat cs.length))])) rfl (by rw [hml]; rfl) (argsL := [(.int (Int32.ofNat cs.length)), (.int (Int32.ofNat cs.length)), (.int (Int32.ofNat cs.length))]) (rest := []) (lenOf pd_14 rfl) rfl (by show 2 * 0 + _ ≤ _; exact Nat.le_of_eq rfl) (hb hby d22_8) (fun _ _ => ⟨rfl, e1, (by decide : 0 + 0 ≤ _), (by decide : 0 + 0 ≤ _)⟩)
  dsimp only [Pt.U, Pt.locs, Pt.cells, Pt.slots] at X2 l2 y2 z2 st2 hQ2
  subst y2 z2
  obtain ⟨rfl, N2q, e2⟩ := hQ2
  have N2 : Fr n0 L2 := by rw [l2]; exact Fr.app N1 N2q
  refine stp st2 ?_
  show Go p e below T2 (mkF m 11 #[.val (.ref t), .val (.int (Int32.ofNat cs.length)), .val (.int (Int32.ofNat cs.length)), .val (.int (Int32.ofNat cs.length)), .unset] []) _
  refine stp (fun _ => XS.iloadN X2.here hx rfl (hb hby d22_11) rfl) ?_
  show Go p e below T2 (mkF m 12 #[.val (.ref t), .val (.int (Int32.ofNat cs.length)), .val (.int (Int32.ofNat cs.length)), .val (.int (Int32.ofNat cs.length)), .unset] [(.int (Int32.ofNat cs.length))]) _
  refine stp (fun _ => XS.ifYes X2.here hx rfl (pc0 := 12) (pc' := 22) rfl (hb hby d22_12) rfl (XT.i0_ne_t hz) (by decide) (by decide)) ?_
  show Go p e below T2 (mkF m 22 #[.val (.ref t), .val (.int (Int32.ofNat cs.length)), .val (.int (Int32.ofNat cs.length)), .val (.int (Int32.ofNat cs.length)), .unset] []) _
  refine stp (fun _ => XS.iloadN X2.here hx rfl (hb hby d22_22) rfl) ?_
  show Go p e below T2 (mkF m 23 #[.val (.ref t), .val (.int (Int32.ofNat cs.length)), .val (.int (Int32.ofNat cs.length)), .val (.int (Int32.ofNat cs.length)), .unset] [(.int (Int32.ofNat cs.length))]) _
  refine stp (fun _ => XS.iloadN X2.here hx rfl (hb hby d22_23) rfl) ?_
  show Go p e below T2 (mkF m 24 #[.val (.ref t), .val (.int (Int32.ofNat cs.length)), .val (.int (Int32.ofNat cs.length)), .val (.int (Int32.ofNat cs.length)), .unset] [(.int (Int32.ofNat cs.length)), (.int (Int32.ofNat cs.length))]) _
  refine stp (fun _ => XS.isub X2.here hx rfl (hb hby d22_24) rfl) ?_
  show Go p e below T2 (mkF m 25 #[.val (.ref t), .val (.int (Int32.ofNat cs.length)), .val (.int (Int32.ofNat cs.length)), .val (.int (Int32.ofNat cs.length)), .unset] [(.int ((Int32.ofNat cs.length) - (Int32.ofNat cs.length)))]) _
  refine stp (fun _ => XS.istore X2.here hx rfl (hb hby d22_25) rfl (l' := #[.val (.ref t), .val (.int (Int32.ofNat cs.length)), .val (.int (Int32.ofNat cs.length)), .val (.int (Int32.ofNat cs.length)), .val (.int ((Int32.ofNat cs.length) - (Int32.ofNat cs.length)))]) rfl) ?_
  show Go p e below T2 (mkF m 27 #[.val (.ref t), .val (.int (Int32.ofNat cs.length)), .val (.int (Int32.ofNat cs.length)), .val (.int (Int32.ofNat cs.length)), .val (.int ((Int32.ofNat cs.length) - (Int32.ofNat cs.length)))] []) _
  refine stp (fun _ => XS.aloadN X2.here hx rfl (hb hby d22_27) rfl rfl) ?_
  show Go p e below T2 (mkF m 28 #[.val (.ref t), .val (.int (Int32.ofNat cs.length)), .val (.int (Int32.ofNat cs.length)), .val (.int (Int32.ofNat cs.length)), .val (.int ((Int32.ofNat cs.length) - (Int32.ofNat cs.length)))] [(.ref t)]) _
  obtain ⟨cq3, kq3, q3a, q3b, q3c⟩ := isOf hZ e2 Eo_t
  obtain ⟨_, _, ⟨T3, L3, k3, n3⟩, -, X3, ⟨Lc3, hQ3, l3, y3, z3⟩, st3⟩ := X2.virtualBack hx (y := (⟨"java/lang/String", "isLatin1", "()Z"⟩ : MethodName)) (z := (⟨"java/lang/String", "isLatin1", "()Z"⟩ : MethodName)) hown (mvT hZ (hw _ (List.mem_of_getElem? (i := 85) rfl))) (mvT hZ (hw _ (List.mem_of_getElem? (i := 86) rfl))) (notFace_of_selects (args := #[]) (mvT hZ (hw _ (List.mem_of_getElem? (i := 88) rfl)))) (mvT hZ (hw _ (List.mem_of_getElem? (i := 88) rfl))) (mvT hZ (hw _ (List.mem_of_getElem? (i := 87) rfl))) (by decide) (backOf (W := 0) (rm_lat l Z a0 hw [] t cs cz h0 n0 O0 Q_t S_COMPACT_STRINGS hcz) hZ (hw _ (List.mem_of_getElem? (i := 89) rfl)) (hw _ (List.mem_of_getElem? (i := 7) rfl)) (by decide) (by decide)) q3a q3c (g := (mkF m 28 #[.val (.ref t), .val (.int (Int32.ofNat cs.length)), .val (.int (Int32.ofNat cs.length)), .val (.int (Int32.ofNat cs.length)), .val (.int ((Int32.ofNat cs.length) - (Int32.ofNat cs.length)))] [(.ref t)])) rfl (by rw [hml]; rfl) (Steps.refl _) (argsL := []) (rest := []) (lenOf pd_11 rfl) rfl (by show 2 * 0 + _ ≤ _; exact Nat.le_of_eq rfl) (hb hby d22_28) (fun _ _ => ⟨rfl, e2, (by decide : 0 + 0 ≤ _), (by decide : 0 + 0 ≤ _)⟩)
  dsimp only [Pt.U, Pt.locs, Pt.cells, Pt.slots] at X3 l3 y3 z3 st3 hQ3
  subst y3 z3
  obtain ⟨rfl, N3q, e3⟩ := hQ3
  have N3 : Fr n0 L3 := by rw [l3]; exact Fr.app N2 N3q
  refine stt st3 ?_
  show Go p e below T3 (mkF m 31 #[.val (.ref t), .val (.int (Int32.ofNat cs.length)), .val (.int (Int32.ofNat cs.length)), .val (.int (Int32.ofNat cs.length)), .val (.int ((Int32.ofNat cs.length) - (Int32.ofNat cs.length)))] [(.int (1 : Int32))]) _
  refine stp (fun _ => XS.ifNo X3.here hx rfl (hb hby d22_31) rfl (by decide)) ?_
  show Go p e below T3 (mkF m 34 #[.val (.ref t), .val (.int (Int32.ofNat cs.length)), .val (.int (Int32.ofNat cs.length)), .val (.int (Int32.ofNat cs.length)), .val (.int ((Int32.ofNat cs.length) - (Int32.ofNat cs.length)))] []) _
  refine stp (fun _ => XS.aloadN X3.here hx rfl (hb hby d22_34) rfl rfl) ?_
  show Go p e below T3 (mkF m 35 #[.val (.ref t), .val (.int (Int32.ofNat cs.length)), .val (.int (Int32.ofNat cs.length)), .val (.int (Int32.ofNat cs.length)), .val (.int ((Int32.ofNat cs.length) - (Int32.ofNat cs.length)))] [(.ref t)]) _
  obtain ⟨T4, X4, e4, st4⟩ := getF X3 hx hZ hown (host := "") (Or.inl (hw _ (List.mem_of_getElem? (i := 32) rfl))) Via.refl e3 Fv_t (g := (mkF m 35 #[.val (.ref t), .val (.int (Int32.ofNat cs.length)), .val (.int (Int32.ofNat cs.length)), .val (.int (Int32.ofNat cs.length)), .val (.int ((Int32.ofNat cs.length) - (Int32.ofNat cs.length)))] [(.ref t)])) rfl rfl (hb hby d22_35)
  refine stp st4 ?_
  show Go p e below T4 (mkF m 38 #[.val (.ref t), .val (.int (Int32.ofNat cs.length)), .val (.int (Int32.ofNat cs.length)), .val (.int (Int32.ofNat cs.length)), .val (.int ((Int32.ofNat cs.length) - (Int32.ofNat cs.length)))] [(.ref tv_t)]) _
  refine stp (fun _ => XS.iloadN X4.here hx rfl (hb hby d22_38) rfl) ?_
  show Go p e below T4 (mkF m 39 #[.val (.ref t), .val (.int (Int32.ofNat cs.length)), .val (.int (Int32.ofNat cs.length)), .val (.int (Int32.ofNat cs.length)), .val (.int ((Int32.ofNat cs.length) - (Int32.ofNat cs.length)))] [(.int (Int32.ofNat cs.length)), (.ref tv_t)]) _
  refine stp (fun _ => XS.iload X4.here hx rfl (hb hby d22_39) rfl) ?_
  show Go p e below T4 (mkF m 41 #[.val (.ref t), .val (.int (Int32.ofNat cs.length)), .val (.int (Int32.ofNat cs.length)), .val (.int (Int32.ofNat cs.length)), .val (.int ((Int32.ofNat cs.length) - (Int32.ofNat cs.length)))] [(.int ((Int32.ofNat cs.length) - (Int32.ofNat cs.length))), (.int (Int32.ofNat cs.length)), (.ref tv_t)]) _
  obtain ⟨_, _, ⟨T5, L5, k5, n5⟩, -, X5, hS5, gg5, ⟨Lc5, hQ5, l5, y5, z5, CRn5⟩, st5⟩ := callSS X4 hx (y := (⟨"java/lang/StringLatin1", "newString", "([BII)Ljava/lang/String;"⟩ : MethodName)) hown (mvT hZ (hw _ (List.mem_of_getElem? (i := 117) rfl))) (mvT hZ (hw _ (List.mem_of_getElem? (i := 118) rfl))) (mvT hZ (hw _ (List.mem_of_getElem? (i := 92) rfl))) (mvT hZ (hw _ (List.mem_of_getElem? (i := 119) rfl))) (by decide) (backOfSH (W := 0) (rm_ns l Z a0 hw [] tv_t (Int32.ofNat cs.length) ((Int32.ofNat cs.length) - (Int32.ofNat cs.length))  h0 n0 O0 hEL own_subself) hZ (hw _ (List.mem_of_getElem? (i := 119) rfl)) (hw _ (List.mem_of_getElem? (i := 92) rfl)) (by decide) (by decide) hEL CR.1) (g := (mkF m 41 #[.val (.ref t), .val (.int (Int32.ofNat cs.length)), .val (.int (Int32.ofNat cs.length)), .val (.int (Int32.ofNat cs.length)), .val (.int ((Int32.ofNat cs.length) - (Int32.ofNat cs.length)))] [(.int ((Int32.ofNat cs.length) - (Int32.ofNat cs.length))), (.int (Int32.ofNat cs.length)), (.ref tv_t)])) rfl (by rw [hml]; rfl) (argsL := [(.ref tv_t), (.int (Int32.ofNat cs.length)), (.int ((Int32.ofNat cs.length) - (Int32.ofNat cs.length)))]) (rest := []) (lenOf pd_15 rfl) rfl (by show 2 * 0 + _ ≤ _; exact Nat.le_of_eq rfl) (hb hby d22_41) (fun _ _ => ⟨rfl, e4, (by decide : 0 + 2 ≤ _), (by decide : 0 + 4 ≤ _)⟩)
  dsimp only [Pt.U, Pt.locs, Pt.cells, Pt.slots] at X5 hS5 gg5 l5 y5 z5 st5 hQ5 CRn5
  subst y5 z5
  obtain ⟨X5, hS, hZ, hown⟩ := rebS hS (by rw [e4]; exact hk) X5 hS5 gg5 hZ hown
  obtain ⟨r5, rfl, N5q, K5q, r5_0⟩ := hQ5
  have N5 : Fr n0 L5 := by rw [l5]; exact Fr.app N3 N5q
  have f6 := Q_t.keep K5q nin0 apart0
  have f7 := Eo_t.keep K5q
  have f8 := Fv_t.keep K5q nin0
  have f9 := Fc_t.keep K5q nin0
  have f10 := Va_t.keep K5q nin0
  have K5 : Keep h0 T5.heap [] := (Keep.refl h0 []).trans K5q all0
  have O5 := O0.keep K5q all0
  have hk : T5.heap.size ≤ T5.heap.size := Nat.le_refl _
  have CR := CR.trans CRn5
  refine stt st5 ?_
  show Go p e below T5 (mkF m 44 #[.val (.ref t), .val (.int (Int32.ofNat cs.length)), .val (.int (Int32.ofNat cs.length)), .val (.int (Int32.ofNat cs.length)), .val (.int ((Int32.ofNat cs.length) - (Int32.ofNat cs.length)))] [(.ref r5)]) _
  refine stp (fun _ => XS.goto X5.here hx rfl (pc0 := 44) (pc' := 57) rfl (hb hby d22_44) (by decide) (by decide)) ?_
  show Go p e below T5 (mkF m 57 #[.val (.ref t), .val (.int (Int32.ofNat cs.length)), .val (.int (Int32.ofNat cs.length)), .val (.int (Int32.ofNat cs.length)), .val (.int ((Int32.ofNat cs.length) - (Int32.ofNat cs.length)))] [(.ref r5)]) _
  refine outAW X5 hx hZ hEL rfl hS hk CR hret rfl rfl (hb hby d22_57) hlk (by decide) (by decide) ?_
  exact ⟨r5, rfl, N5, K5, r5_0⟩
theorem d26_0 : decode jdk_42_method_55_code 0 = .ok (.aload_n 0, 1) := by decide +kernel
theorem d26_1 : decode jdk_42_method_55_code 1 = .ok (.getfield 9, 3) := by decide +kernel
theorem d26_4 : decode jdk_42_method_55_code 4 = .ok (.arraylength, 1) := by decide +kernel
theorem d26_5 : decode jdk_42_method_55_code 5 = .ok (.ifCond .ne 7, 3) := by decide +kernel
theorem d26_8 : decode jdk_42_method_55_code 8 = .ok (.iconst 1, 1) := by decide +kernel
theorem d26_9 : decode jdk_42_method_55_code 9 = .ok (.goto 4, 3) := by decide +kernel
theorem d26_13 : decode jdk_42_method_55_code 13 = .ok (.ireturn, 1) := by decide +kernel
theorem ef_rm_ie (m : MethodId) (t : Addr)  : entryFrame m #[(.ref t)] 1 = mkF m 0 #[.val (.ref t)] [] := by first | (simp [entryFrame, mkF, argsToLocals, Value.category]; done) | rfl
def Q_rm_ie (Z : State) (t : Addr) (cs : List Int32) (h0 : Heap) (n0 : Nat) (v : Option Value) (h : Heap) (L : List Loc) : Prop := v = some (.int (1 : Int32)) ∧ Fr n0 L ∧ h = h0
theorem pn_19_ : plainName "java/lang/String" = true := by first | (simp [plainName, overriddenIn]; done) | decide +kernel
theorem pn_19 : plainFor (⟨"java/lang/String", "isEmpty", "()Z"⟩ : MethodName) = true := plainFor_of_name pn_19_
set_option maxRecDepth 65536 in
set_option maxHeartbeats 40000000 in
theorem rm_ie (l : Launch) (Z : State) (a0 : Array Value) (hw : ∀ d ∈ tables_1, d.before a0 Z = true) (ws : List Jvm.Cond) (t : Addr) (cs : List Int32) (h0 : Heap) (n0 : Nat) (O0 : Old Z n0 h0) (Q_t : StrIs Z h0 t cs) (hz : (Int32.ofNat cs.length) = 0) :
    MetFree l (⟨"java/lang/String", "isEmpty", "()Z"⟩ : MethodName) (head1 (Jvm.Cond.code (⟨"java/lang/String", "isEmpty", "()Z"⟩ : MethodName) jdk_42_method_55_code 1 (some .boolean) :: ws) ({ frames := 0, cells := 0, slots := 0, locals := 0 } : Room)) (fun args_ U => args_ = #[(.ref t)] ∧ Z.Warmed39 U.vm ∧ U.heap = h0) (fun _ _ _ _ _ => True) (fun _ U out_ U' => ∃ val_ loc_, out_ = .returned val_ ∧ (Q_rm_ie Z t cs h0 n0) val_ U'.heap loc_ ∧ FrameEnd U out_ U' loc_ ({ frames := 0, cells := 0, slots := 0, locals := 0 } : Room).cells ({ frames := 0, cells := 0, slots := 0, locals := 0 } : Room).slots) := by
  refine start (Q := (Q_rm_ie Z t cs h0 n0)) pn_19 ?_
  intro p e s m below meth c T0 X0 hx hby hml hown hnm hret hlk hZ e0
  replace hown : s.vm.findClass "java/lang/String" = some m.cls := hown
  replace hml : c.maxLocals = 1 := hml
  refine goAt (ef_rm_ie m t ) ?_
  have N0 := Fr.nil n0
  obtain ⟨tv_t, kv_t, Eo_t, Fv_t, Fc_t, Kv_t, hp_t, hl_t⟩ := (id Q_t)
  have Va_t : Arf Z h0 tv_t kv_t .byte cs.length (fun i => (.int (own_by cs i))) := (Arv.arf Kv_t (own_ofNat hl_t)).congr fun i _ => own_byv cs i
  show Go p e below T0 (mkF m 0 #[.val (.ref t)] []) _
  refine stp (fun _ => XS.aloadN X0.here hx rfl (hb hby d26_0) rfl rfl) ?_
  show Go p e below T0 (mkF m 1 #[.val (.ref t)] [(.ref t)]) _
  obtain ⟨T1, X1, e1, st1⟩ := getF X0 hx hZ hown (host := "") (Or.inl (hw _ (List.mem_of_getElem? (i := 32) rfl))) Via.refl e0 Fv_t (g := (mkF m 1 #[.val (.ref t)] [(.ref t)])) rfl rfl (hb hby d26_1)
  refine stp st1 ?_
  show Go p e below T1 (mkF m 4 #[.val (.ref t)] [(.ref tv_t)]) _
  obtain ⟨cl2, Ar2, -, S2, -, -⟩ := (id Va_t)
  refine stp (fun _ => X1.arraylength hx (by rw [e1]; exact Ar2.1) (State.isArrayOf_alike hZ.alike Ar2.2.1) (g := (mkF m 4 #[.val (.ref t)] [(.ref tv_t)])) rfl rfl (hb hby d26_4) _) ?_
  rw [arf_len S2 (z := (Int32.ofNat cs.length)) (own_ofNatI hl_t)]
  show Go p e below T1 (mkF m 5 #[.val (.ref t)] [(.int (Int32.ofNat cs.length))]) _
  refine stp (fun _ => XS.ifNo X1.here hx rfl (hb hby d26_5) rfl (XT.i0_ne_f hz)) ?_
  show Go p e below T1 (mkF m 8 #[.val (.ref t)] []) _
  refine stp (fun _ => XS.iconst X1.here hx rfl (hb hby d26_8)) ?_
  show Go p e below T1 (mkF m 9 #[.val (.ref t)] [(.int (1 : Int32))]) _
  refine stp (fun _ => XS.goto X1.here hx rfl (pc0 := 9) (pc' := 13) rfl (hb hby d26_9) (by decide) (by decide)) ?_
  show Go p e below T1 (mkF m 13 #[.val (.ref t)] [(.int (1 : Int32))]) _
  refine outN X1 hx (t := .boolean) hret (by simp) (hb hby d26_13) hlk (by decide) (by decide) ?_
  exact ⟨rfl, N0, e1⟩
theorem d8_0 : decode prog_27_method_1_code 0 = .ok (.aload_n 0, 1) := by decide +kernel
theorem d8_1 : decode prog_27_method_1_code 1 = .ok (.invokespecial 1, 3) := by decide +kernel
theorem d8_4 : decode prog_27_method_1_code 4 = .ok (.aload_n 0, 1) := by decide +kernel
theorem d8_5 : decode prog_27_method_1_code 5 = .ok (.aload_n 1, 1) := by decide +kernel
theorem d8_6 : decode prog_27_method_1_code 6 = .ok (.putfield 7, 3) := by decide +kernel
theorem d8_9 : decode prog_27_method_1_code 9 = .ok (.aload_n 0, 1) := by decide +kernel
theorem d8_10 : decode prog_27_method_1_code 10 = .ok (.iload_n 2, 1) := by decide +kernel
theorem d8_11 : decode prog_27_method_1_code 11 = .ok (.putfield 13, 3) := by decide +kernel
theorem d8_14 : decode prog_27_method_1_code 14 = .ok (.return_, 1) := by decide +kernel
theorem ef_rm_lf (m : MethodId) (t : Addr) (sx : Addr) (nx : Int32)  : entryFrame m #[(.ref t), (.ref sx), (.int nx)] 3 = mkF m 0 #[.val (.ref t), .val (.ref sx), .val (.int nx)] [] := by first | (simp [entryFrame, mkF, argsToLocals, Value.category]; done) | rfl
def Q_rm_lf (Z : State) (t : Addr) (sx : Addr) (nx : Int32)  (h0 : Heap) (n0 : Nat) (v : Option Value) (h : Heap) (L : List Loc) : Prop := v = none ∧ Fr n0 L ∧ Keep h0 h [t] ∧ Exa Z h t "com/example/goldpage/goldpage/golden/LineFields" ∧ Fld Z h t "com/example/goldpage/goldpage/golden/LineFields" "line" "Ljava/lang/String;" (.ref sx) ∧ Fld Z h t "com/example/goldpage/goldpage/golden/LineFields" "next" "I" (.int nx)
theorem pn_20_ : plainName "com/example/goldpage/goldpage/golden/LineFields" = true := by first | (simp [plainName, overriddenIn]; done) | decide +kernel
theorem pn_20 : plainFor (⟨"com/example/goldpage/goldpage/golden/LineFields", "<init>", "(Ljava/lang/String;I)V"⟩ : MethodName) = true := plainFor_of_name pn_20_
set_option maxRecDepth 65536 in
set_option maxHeartbeats 40000000 in
theorem rm_lf (l : Launch) (Z : State) (a0 : Array Value) (hw : ∀ d ∈ tables_1, d.before a0 Z = true) (ws : List Jvm.Cond) (t : Addr) (sx : Addr) (nx : Int32)  (h0 : Heap) (n0 : Nat) (O0 : Old Z n0 h0) (E_t : Exa Z h0 t "com/example/goldpage/goldpage/golden/LineFields") (F_t_line : Fld Z h0 t "com/example/goldpage/goldpage/golden/LineFields" "line" "Ljava/lang/String;" .null) (F_t_next : Fld Z h0 t "com/example/goldpage/goldpage/golden/LineFields" "next" "I" (.int (0 : Int32))) (ge_t : n0 ≤ t) :
    MetFree l (⟨"com/example/goldpage/goldpage/golden/LineFields", "<init>", "(Ljava/lang/String;I)V"⟩ : MethodName) (head1 (Jvm.Cond.code (⟨"com/example/goldpage/goldpage/golden/LineFields", "<init>", "(Ljava/lang/String;I)V"⟩ : MethodName) prog_27_method_1_code 3 none :: ws) ({ frames := 1, cells := 0, slots := 0, locals := 12 } : Room)) (fun args_ U => args_ = #[(.ref t), (.ref sx), (.int nx)] ∧ Z.Warmed39 U.vm ∧ U.heap = h0) (fun _ _ _ _ _ => True) (fun _ U out_ U' => ∃ val_ loc_, out_ = .returned val_ ∧ (Q_rm_lf Z t sx nx h0 n0) val_ U'.heap loc_ ∧ FrameEnd U out_ U' loc_ ({ frames := 1, cells := 0, slots := 0, locals := 12 } : Room).cells ({ frames := 1, cells := 0, slots := 0, locals := 12 } : Room).slots) := by
  refine start (Q := (Q_rm_lf Z t sx nx h0 n0)) pn_20 ?_
  intro p e s m below meth c T0 X0 hx hby hml hown hnm hret hlk hZ e0
  replace hown : s.vm.findClass "com/example/goldpage/goldpage/golden/LineFields" = some m.cls := hown
  replace hml : c.maxLocals = 3 := hml
  refine goAt (ef_rm_lf m t sx nx ) ?_
  have N0 := Fr.nil n0
  show Go p e below T0 (mkF m 0 #[.val (.ref t), .val (.ref sx), .val (.int nx)] []) _
  refine stp (fun _ => XS.aloadN X0.here hx rfl (hb hby d8_0) rfl rfl) ?_
  show Go p e below T0 (mkF m 1 #[.val (.ref t), .val (.ref sx), .val (.int nx)] [(.ref t)]) _
  obtain ⟨T1, X1, e1, st1⟩ := initO X0 hx hZ hown (hw _ (List.mem_of_getElem? (i := 40) rfl)) (hw _ (List.mem_of_getElem? (i := 16) rfl)) (hw _ (List.mem_of_getElem? (i := 17) rfl)) e0 (g := (mkF m 1 #[.val (.ref t), .val (.ref sx), .val (.int nx)] [(.ref t)])) rfl (by rw [hml]; rfl) rfl (hb hby d8_1) (by decide) (W := 0) (by show 2 * 0 + _ ≤ _; exact Nat.le_of_eq rfl) (by decide)
  refine stp st1 ?_
  show Go p e below T1 (mkF m 4 #[.val (.ref t), .val (.ref sx), .val (.int nx)] []) _
  refine stp (fun _ => XS.aloadN X1.here hx rfl (hb hby d8_4) rfl rfl) ?_
  show Go p e below T1 (mkF m 5 #[.val (.ref t), .val (.ref sx), .val (.int nx)] [(.ref t)]) _
  refine stp (fun _ => XS.aloadN X1.here hx rfl (hb hby d8_5) rfl rfl) ?_
  show Go p e below T1 (mkF m 6 #[.val (.ref t), .val (.ref sx), .val (.int nx)] [(.ref sx), (.ref t)]) _
  obtain ⟨T2, h2, X2, e2, W2, st2⟩ := putF X1 hx hZ hown (host := "") (Or.inl (hw _ (List.mem_of_getElem? (i := 41) rfl))) Via.refl e1 F_t_line E_t (Or.inr ⟨(hw _ (List.mem_of_getElem? (i := 42) rfl)), rfl, hnm⟩) (hw _ (List.mem_of_getElem? (i := 35) rfl)) (ty := (.object "java/lang/String")) (by decide) rfl rfl (g := (mkF m 6 #[.val (.ref t), .val (.ref sx), .val (.int nx)] [(.ref sx), (.ref t)])) rfl rfl (hb hby d8_6)
  have Fw2 := F_t_line.same W2
  have f3 := E_t.wr W2
  have f5 := F_t_next.other W2 (Or.inr (slot_ne (Or.inl (hw _ (List.mem_of_getElem? (i := 44) rfl))) (Or.inr (hw _ (List.mem_of_getElem? (i := 42) rfl))) (by decide) (t := .int) (t' := (.object "java/lang/String")) (by decide) (by decide)))
  have K2 : Keep h0 h2 [t] := (Keep.refl h0 [t]).wr W2 (Or.inl (List.mem_of_getElem? (i := 0) rfl))
  have O2 := O0.wr W2 ge_t
  have N2 := Fr.snoc X2 N0 ge_t
  refine stp st2 ?_
  show Go p e below T2 (mkF m 9 #[.val (.ref t), .val (.ref sx), .val (.int nx)] []) _
  refine stp (fun _ => XS.aloadN X2.here hx rfl (hb hby d8_9) rfl rfl) ?_
  show Go p e below T2 (mkF m 10 #[.val (.ref t), .val (.ref sx), .val (.int nx)] [(.ref t)]) _
  refine stp (fun _ => XS.iloadN X2.here hx rfl (hb hby d8_10) rfl) ?_
  show Go p e below T2 (mkF m 11 #[.val (.ref t), .val (.ref sx), .val (.int nx)] [(.int nx), (.ref t)]) _
  obtain ⟨T6, h6, X6, e6, W6, st6⟩ := putF X2 hx hZ hown (host := "") (Or.inl (hw _ (List.mem_of_getElem? (i := 43) rfl))) Via.refl e2 f5 f3 (Or.inl (hw _ (List.mem_of_getElem? (i := 44) rfl))) (hw _ (List.mem_of_getElem? (i := 35) rfl)) (ty := .int) (by decide) rfl rfl (g := (mkF m 11 #[.val (.ref t), .val (.ref sx), .val (.int nx)] [(.int nx), (.ref t)])) rfl rfl (hb hby d8_11)
  have Fw6 := f5.same W6
  have f7 := f3.wr W6
  have f8 := Fw2.other W6 (Or.inr (slot_ne (Or.inr (hw _ (List.mem_of_getElem? (i := 42) rfl))) (Or.inl (hw _ (List.mem_of_getElem? (i := 44) rfl))) (by decide) (t := (.object "java/lang/String")) (t' := .int) (by decide) (by decide)))
  have K6 : Keep h0 h6 [t] := K2.wr W6 (Or.inl (List.mem_of_getElem? (i := 0) rfl))
  have O6 := O2.wr W6 ge_t
  have N6 := Fr.snoc X6 N2 ge_t
  refine stp st6 ?_
  show Go p e below T6 (mkF m 14 #[.val (.ref t), .val (.ref sx), .val (.int nx)] []) _
  refine outV X6 hx hret (hb hby d8_14) hlk (by decide) (by decide) ?_
  rw [e6]
  exact ⟨rfl, N6, K6, f7, f8, Fw6⟩
theorem d9_0 : decode prog_27_method_7_code 0 = .ok (.aload_n 0, 1) := by decide +kernel
theorem d9_1 : decode prog_27_method_7_code 1 = .ok (.getfield 7, 3) := by decide +kernel
theorem d9_4 : decode prog_27_method_7_code 4 = .ok (.aload_n 1, 1) := by decide +kernel
theorem d9_5 : decode prog_27_method_7_code 5 = .ok (.aload_n 0, 1) := by decide +kernel
theorem d9_6 : decode prog_27_method_7_code 6 = .ok (.getfield 13, 3) := by decide +kernel
theorem d9_9 : decode prog_27_method_7_code 9 = .ok (.invokevirtual 62, 3) := by decide +kernel
theorem pd_16 : parseMethodDescriptor "(Ljava/lang/String;I)Z" = some ⟨[(.object "java/lang/String"), .int], some .boolean⟩ := by decide +kernel
theorem d9_12 : decode prog_27_method_7_code 12 = .ok (.ifCond .ne 5, 3) := by decide +kernel
theorem d9_17 : decode prog_27_method_7_code 17 = .ok (.aload_n 0, 1) := by decide +kernel
theorem d9_18 : decode prog_27_method_7_code 18 = .ok (.dup, 1) := by decide +kernel
theorem d9_19 : decode prog_27_method_7_code 19 = .ok (.getfield 13, 3) := by decide +kernel
theorem d9_22 : decode prog_27_method_7_code 22 = .ok (.aload_n 1, 1) := by decide +kernel
theorem d9_23 : decode prog_27_method_7_code 23 = .ok (.invokevirtual 52, 3) := by decide +kernel
theorem d9_26 : decode prog_27_method_7_code 26 = .ok (.iadd, 1) := by decide +kernel
theorem d9_27 : decode prog_27_method_7_code 27 = .ok (.putfield 13, 3) := by decide +kernel
theorem d9_30 : decode prog_27_method_7_code 30 = .ok (.iconst 1, 1) := by decide +kernel
theorem d9_31 : decode prog_27_method_7_code 31 = .ok (.ireturn, 1) := by decide +kernel
theorem ef_rm_skip (m : MethodId) (t : Addr) (o : Addr)  : entryFrame m #[(.ref t), (.ref o)] 2 = mkF m 0 #[.val (.ref t), .val (.ref o)] [] := by first | (simp [entryFrame, mkF, argsToLocals, Value.category]; done) | rfl
def Q_rm_skip (Z : State) (t : Addr) (o : Addr) (s1 : Addr) (nx : Int32) (cs : List Int32) (ds : List Int32) (cz : Int32) (pn : Nat) (h0 : Heap) (n0 : Nat) (v : Option Value) (h : Heap) (L : List Loc) : Prop := v = some (.int (1 : Int32)) ∧ Fr n0 L ∧ Keep h0 h [t] ∧ Fld Z h t "com/example/goldpage/goldpage/golden/LineFields" "line" "Ljava/lang/String;" (.ref s1) ∧ Fld Z h t "com/example/goldpage/goldpage/golden/LineFields" "next" "I" (.int (nx + (Int32.ofNat ds.length)))
theorem pn_21_ : plainName "com/example/goldpage/goldpage/golden/LineFields" = true := by first | (simp [plainName, overriddenIn]; done) | decide +kernel
theorem pn_21 : plainFor (⟨"com/example/goldpage/goldpage/golden/LineFields", "skip", "(Ljava/lang/String;)Z"⟩ : MethodName) = true := plainFor_of_name pn_21_
set_option maxRecDepth 65536 in
set_option maxHeartbeats 40000000 in
theorem rm_skip (l : Launch) (Z : State) (a0 : Array Value) (hw : ∀ d ∈ tables_1, d.before a0 Z = true) (ws : List Jvm.Cond) (t : Addr) (o : Addr) (s1 : Addr) (nx : Int32) (cs : List Int32) (ds : List Int32) (cz : Int32) (pn : Nat) (h0 : Heap) (n0 : Nat) (O0 : Old Z n0 h0) (E_t : Exa Z h0 t "com/example/goldpage/goldpage/golden/LineFields") (F_t_line : Fld Z h0 t "com/example/goldpage/goldpage/golden/LineFields" "line" "Ljava/lang/String;" (.ref s1)) (F_t_next : Fld Z h0 t "com/example/goldpage/goldpage/golden/LineFields" "next" "I" (.int nx)) (Q_s1 : StrIs Z h0 s1 cs) (Q_o : StrIs Z h0 o ds) (S_COMPACT_STRINGS : Sta Z Z.heap "java/lang/String" "COMPACT_STRINGS" "Z" (.int cz)) (ge_t : n0 ≤ t) (ne_o_t : o ≠ t) (ne_s1_t : s1 ≠ t) (hcz : ¬ cz = (0 : Int32)) (hp : nx.toInt = (pn : Int)) (h0_ : ¬ nx < 0) (hle : ¬ ((Int32.ofNat cs.length) - (Int32.ofNat ds.length)) < nx) (hd : ds.length ≤ 4) (hpl : pn + ds.length ≤ cs.length) (he : ∀ i, i < ds.length → own_by cs (pn + i) = own_by ds i) :
    MetFree l (⟨"com/example/goldpage/goldpage/golden/LineFields", "skip", "(Ljava/lang/String;)Z"⟩ : MethodName) (head1 (Jvm.Cond.code (⟨"com/example/goldpage/goldpage/golden/LineFields", "skip", "(Ljava/lang/String;)Z"⟩ : MethodName) prog_27_method_7_code 2 (some .boolean) :: ws) ({ frames := 3, cells := 0, slots := 0, locals := 46 } : Room)) (fun args_ U => args_ = #[(.ref t), (.ref o)] ∧ Z.Warmed39 U.vm ∧ U.heap = h0) (fun _ _ _ _ _ => True) (fun _ U out_ U' => ∃ val_ loc_, out_ = .returned val_ ∧ (Q_rm_skip Z t o s1 nx cs ds cz pn h0 n0) val_ U'.heap loc_ ∧ FrameEnd U out_ U' loc_ ({ frames := 3, cells := 0, slots := 0, locals := 46 } : Room).cells ({ frames := 3, cells := 0, slots := 0, locals := 46 } : Room).slots) := by
  refine start (Q := (Q_rm_skip Z t o s1 nx cs ds cz pn h0 n0)) pn_21 ?_
  intro p e s m below meth c T0 X0 hx hby hml hown hnm hret hlk hZ e0
  replace hown : s.vm.findClass "com/example/goldpage/goldpage/golden/LineFields" = some m.cls := hown
  replace hml : c.maxLocals = 2 := hml
  refine goAt (ef_rm_skip m t o ) ?_
  have N0 := Fr.nil n0
  show Go p e below T0 (mkF m 0 #[.val (.ref t), .val (.ref o)] []) _
  refine stp (fun _ => XS.aloadN X0.here hx rfl (hb hby d9_0) rfl rfl) ?_
  show Go p e below T0 (mkF m 1 #[.val (.ref t), .val (.ref o)] [(.ref t)]) _
  obtain ⟨T1, X1, e1, st1⟩ := getF X0 hx hZ hown (host := "") (Or.inl (hw _ (List.mem_of_getElem? (i := 41) rfl))) Via.refl e0 F_t_line (g := (mkF m 1 #[.val (.ref t), .val (.ref o)] [(.ref t)])) rfl rfl (hb hby d9_1)
  refine stp st1 ?_
  show Go p e below T1 (mkF m 4 #[.val (.ref t), .val (.ref o)] [(.ref s1)]) _
  refine stp (fun _ => XS.aloadN X1.here hx rfl (hb hby d9_4) rfl rfl) ?_
  show Go p e below T1 (mkF m 5 #[.val (.ref t), .val (.ref o)] [(.ref o), (.ref s1)]) _
  refine stp (fun _ => XS.aloadN X1.here hx rfl (hb hby d9_5) rfl rfl) ?_
  show Go p e below T1 (mkF m 6 #[.val (.ref t), .val (.ref o)] [(.ref t), (.ref o), (.ref s1)]) _
  obtain ⟨T2, X2, e2, st2⟩ := getF X1 hx hZ hown (host := "") (Or.inl (hw _ (List.mem_of_getElem? (i := 43) rfl))) Via.refl e1 F_t_next (g := (mkF m 6 #[.val (.ref t), .val (.ref o)] [(.ref t), (.ref o), (.ref s1)])) rfl rfl (hb hby d9_6)
  refine stp st2 ?_
  show Go p e below T2 (mkF m 9 #[.val (.ref t), .val (.ref o)] [(.int nx), (.ref o), (.ref s1)]) _
  obtain ⟨cq3, kq3, q3a, q3b, q3c⟩ := isOf hZ e2 Q_s1.exa
  obtain ⟨_, _, ⟨T3, L3, k3, n3⟩, -, X3, ⟨Lc3, hQ3, l3, y3, z3⟩, st3⟩ := X2.virtualBack hx (y := (⟨"java/lang/String", "startsWith", "(Ljava/lang/String;I)Z"⟩ : MethodName)) (z := (⟨"java/lang/String", "startsWith", "(Ljava/lang/String;I)Z"⟩ : MethodName)) hown (mvT hZ (hw _ (List.mem_of_getElem? (i := 50) rfl))) (mvT hZ (hw _ (List.mem_of_getElem? (i := 51) rfl))) (notFace_of_selects (args := #[]) (mvT hZ (hw _ (List.mem_of_getElem? (i := 53) rfl)))) (mvT hZ (hw _ (List.mem_of_getElem? (i := 53) rfl))) (mvT hZ (hw _ (List.mem_of_getElem? (i := 52) rfl))) (by decide) (backOf (W := 0) (rm_sw l Z a0 hw [] s1 o nx cs ds cz pn h0 n0 O0 Q_s1 Q_o S_COMPACT_STRINGS hcz hp h0_ hle hd hpl he) hZ (hw _ (List.mem_of_getElem? (i := 54) rfl)) (hw _ (List.mem_of_getElem? (i := 7) rfl)) (by decide) (by decide)) q3a q3c (g := (mkF m 9 #[.val (.ref t), .val (.ref o)] [(.int nx), (.ref o), (.ref s1)])) rfl (by rw [hml]; rfl) (Steps.refl _) (argsL := [(.ref o), (.int nx)]) (rest := []) (lenOf pd_16 rfl) rfl (by show 2 * 0 + _ ≤ _; exact Nat.le_of_eq rfl) (hb hby d9_9) (fun _ _ => ⟨rfl, e2, (by decide : 0 + 0 ≤ _), (by decide : 0 + 0 ≤ _)⟩)
  dsimp only [Pt.U, Pt.locs, Pt.cells, Pt.slots] at X3 l3 y3 z3 st3 hQ3
  subst y3 z3
  obtain ⟨rfl, N3q, e3⟩ := hQ3
  have N3 : Fr n0 L3 := by rw [l3]; exact Fr.app N0 N3q
  refine stt st3 ?_
  show Go p e below T3 (mkF m 12 #[.val (.ref t), .val (.ref o)] [(.int (1 : Int32))]) _
  refine stp (fun _ => XS.ifYes X3.here hx rfl (pc0 := 12) (pc' := 17) rfl (hb hby d9_12) rfl (by decide) (by decide) (by decide)) ?_
  show Go p e below T3 (mkF m 17 #[.val (.ref t), .val (.ref o)] []) _
  refine stp (fun _ => XS.aloadN X3.here hx rfl (hb hby d9_17) rfl rfl) ?_
  show Go p e below T3 (mkF m 18 #[.val (.ref t), .val (.ref o)] [(.ref t)]) _
  refine stp (fun _ => XS.dup X3.here hx rfl (hb hby d9_18) rfl rfl) ?_
  show Go p e below T3 (mkF m 19 #[.val (.ref t), .val (.ref o)] [(.ref t), (.ref t)]) _
  obtain ⟨T4, X4, e4, st4⟩ := getF X3 hx hZ hown (host := "") (Or.inl (hw _ (List.mem_of_getElem? (i := 43) rfl))) Via.refl e3 F_t_next (g := (mkF m 19 #[.val (.ref t), .val (.ref o)] [(.ref t), (.ref t)])) rfl rfl (hb hby d9_19)
  refine stp st4 ?_
  show Go p e below T4 (mkF m 22 #[.val (.ref t), .val (.ref o)] [(.int nx), (.ref t)]) _
  refine stp (fun _ => XS.aloadN X4.here hx rfl (hb hby d9_22) rfl rfl) ?_
  show Go p e below T4 (mkF m 23 #[.val (.ref t), .val (.ref o)] [(.ref o), (.int nx), (.ref t)]) _
  obtain ⟨cq5, kq5, q5a, q5b, q5c⟩ := isOf hZ e4 Q_o.exa
  obtain ⟨_, _, ⟨T5, L5, k5, n5⟩, -, X5, ⟨Lc5, hQ5, l5, y5, z5⟩, st5⟩ := X4.virtualBack hx (y := (⟨"java/lang/String", "length", "()I"⟩ : MethodName)) (z := (⟨"java/lang/String", "length", "()I"⟩ : MethodName)) hown (mvT hZ (hw _ (List.mem_of_getElem? (i := 69) rfl))) (mvT hZ (hw _ (List.mem_of_getElem? (i := 56) rfl))) (notFace_of_selects (args := #[]) (mvT hZ (hw _ (List.mem_of_getElem? (i := 58) rfl)))) (mvT hZ (hw _ (List.mem_of_getElem? (i := 58) rfl))) (mvT hZ (hw _ (List.mem_of_getElem? (i := 57) rfl))) (by decide) (backOf (W := 2) (rm_slen l Z a0 hw [] o ds cz h0 n0 O0 Q_o S_COMPACT_STRINGS hcz) hZ (hw _ (List.mem_of_getElem? (i := 59) rfl)) (hw _ (List.mem_of_getElem? (i := 7) rfl)) (by decide) (by decide)) q5a q5c (g := (mkF m 23 #[.val (.ref t), .val (.ref o)] [(.ref o), (.int nx), (.ref t)])) rfl (by rw [hml]; rfl) (Steps.refl _) (argsL := []) (rest := [(.int nx), (.ref t)]) (lenOf pd_7 rfl) rfl (by show 2 * 0 + _ ≤ _; exact Nat.le_of_eq rfl) (hb hby d9_23) (fun _ _ => ⟨rfl, e4, (by decide : 0 + 0 ≤ _), (by decide : 0 + 0 ≤ _)⟩)
  dsimp only [Pt.U, Pt.locs, Pt.cells, Pt.slots] at X5 l5 y5 z5 st5 hQ5
  subst y5 z5
  obtain ⟨rfl, N5q, e5⟩ := hQ5
  have N5 : Fr n0 L5 := by rw [l5]; exact Fr.app N3 N5q
  refine stt st5 ?_
  show Go p e below T5 (mkF m 26 #[.val (.ref t), .val (.ref o)] [(.int (Int32.ofNat ds.length)), (.int nx), (.ref t)]) _
  refine stp (fun _ => XS.iadd X5.here hx rfl (hb hby d9_26) rfl) ?_
  show Go p e below T5 (mkF m 27 #[.val (.ref t), .val (.ref o)] [(.int (nx + (Int32.ofNat ds.length))), (.ref t)]) _
  obtain ⟨T6, h6, X6, e6, W6, st6⟩ := putF X5 hx hZ hown (host := "") (Or.inl (hw _ (List.mem_of_getElem? (i := 43) rfl))) Via.refl e5 F_t_next E_t (Or.inl (hw _ (List.mem_of_getElem? (i := 44) rfl))) (hw _ (List.mem_of_getElem? (i := 35) rfl)) (ty := .int) (by decide) rfl rfl (g := (mkF m 27 #[.val (.ref t), .val (.ref o)] [(.int (nx + (Int32.ofNat ds.length))), (.ref t)])) rfl rfl (hb hby d9_27)
  have Fw6 := F_t_next.same W6
  have f7 := E_t.wr W6
  have f8 := F_t_line.other W6 (Or.inr (slot_ne (Or.inr (hw _ (List.mem_of_getElem? (i := 42) rfl))) (Or.inl (hw _ (List.mem_of_getElem? (i := 44) rfl))) (by decide) (t := (.object "java/lang/String")) (t' := .int) (by decide) (by decide)))
  have f10 := Q_s1.wr W6 ne_s1_t (Apart.exa E_t (hw _ (List.mem_of_getElem? (i := 35) rfl)))
  have f11 := Q_o.wr W6 ne_o_t (Apart.exa E_t (hw _ (List.mem_of_getElem? (i := 35) rfl)))
  have f12 := Q_s1.exa.wr W6
  have f13 := Q_o.exa.wr W6
  have K6 : Keep h0 h6 [t] := (Keep.refl h0 [t]).wr W6 (Or.inl (List.mem_of_getElem? (i := 0) rfl))
  have O6 := O0.wr W6 ge_t
  have N6 := Fr.snoc X6 N5 ge_t
  refine stp st6 ?_
  show Go p e below T6 (mkF m 30 #[.val (.ref t), .val (.ref o)] []) _
  refine stp (fun _ => XS.iconst X6.here hx rfl (hb hby d9_30)) ?_
  show Go p e below T6 (mkF m 31 #[.val (.ref t), .val (.ref o)] [(.int (1 : Int32))]) _
  refine outN X6 hx (t := .boolean) hret (by simp) (hb hby d9_31) hlk (by decide) (by decide) ?_
  rw [e6]
  exact ⟨rfl, N6, K6, f8, Fw6⟩
theorem d14_0 : decode prog_27_method_9_code 0 = .ok (.aload_n 0, 1) := by decide +kernel
theorem d14_1 : decode prog_27_method_9_code 1 = .ok (.getfield 13, 3) := by decide +kernel
theorem d14_4 : decode prog_27_method_9_code 4 = .ok (.aload_n 0, 1) := by decide +kernel
theorem d14_5 : decode prog_27_method_9_code 5 = .ok (.getfield 7, 3) := by decide +kernel
theorem d14_8 : decode prog_27_method_9_code 8 = .ok (.invokevirtual 52, 3) := by decide +kernel
theorem d14_11 : decode prog_27_method_9_code 11 = .ok (.if_icmp .eq 13, 3) := by decide +kernel
theorem d14_24 : decode prog_27_method_9_code 24 = .ok (.return_, 1) := by decide +kernel
theorem ef_rm_end (m : MethodId) (t : Addr)  : entryFrame m #[(.ref t)] 1 = mkF m 0 #[.val (.ref t)] [] := by first | (simp [entryFrame, mkF, argsToLocals, Value.category]; done) | rfl
def Q_rm_end (Z : State) (t : Addr) (s1 : Addr) (nx : Int32) (cs : List Int32) (cz : Int32) (h0 : Heap) (n0 : Nat) (v : Option Value) (h : Heap) (L : List Loc) : Prop := v = none ∧ Fr n0 L ∧ h = h0
theorem pn_22_ : plainName "com/example/goldpage/goldpage/golden/LineFields" = true := by first | (simp [plainName, overriddenIn]; done) | decide +kernel
theorem pn_22 : plainFor (⟨"com/example/goldpage/goldpage/golden/LineFields", "end", "()V"⟩ : MethodName) = true := plainFor_of_name pn_22_
set_option maxRecDepth 65536 in
set_option maxHeartbeats 40000000 in
theorem rm_end (l : Launch) (Z : State) (a0 : Array Value) (hw : ∀ d ∈ tables_1, d.before a0 Z = true) (ws : List Jvm.Cond) (t : Addr) (s1 : Addr) (nx : Int32) (cs : List Int32) (cz : Int32) (h0 : Heap) (n0 : Nat) (O0 : Old Z n0 h0) (F_t_line : Fld Z h0 t "com/example/goldpage/goldpage/golden/LineFields" "line" "Ljava/lang/String;" (.ref s1)) (F_t_next : Fld Z h0 t "com/example/goldpage/goldpage/golden/LineFields" "next" "I" (.int nx)) (Q_s1 : StrIs Z h0 s1 cs) (S_COMPACT_STRINGS : Sta Z Z.heap "java/lang/String" "COMPACT_STRINGS" "Z" (.int cz)) (hcz : ¬ cz = (0 : Int32)) (hnx : nx = (Int32.ofNat cs.length)) :
    MetFree l (⟨"com/example/goldpage/goldpage/golden/LineFields", "end", "()V"⟩ : MethodName) (head1 (Jvm.Cond.code (⟨"com/example/goldpage/goldpage/golden/LineFields", "end", "()V"⟩ : MethodName) prog_27_method_9_code 1 none :: ws) ({ frames := 2, cells := 0, slots := 0, locals := 26 } : Room)) (fun args_ U => args_ = #[(.ref t)] ∧ Z.Warmed39 U.vm ∧ U.heap = h0) (fun _ _ _ _ _ => True) (fun _ U out_ U' => ∃ val_ loc_, out_ = .returned val_ ∧ (Q_rm_end Z t s1 nx cs cz h0 n0) val_ U'.heap loc_ ∧ FrameEnd U out_ U' loc_ ({ frames := 2, cells := 0, slots := 0, locals := 26 } : Room).cells ({ frames := 2, cells := 0, slots := 0, locals := 26 } : Room).slots) := by
  refine start (Q := (Q_rm_end Z t s1 nx cs cz h0 n0)) pn_22 ?_
  intro p e s m below meth c T0 X0 hx hby hml hown hnm hret hlk hZ e0
  replace hown : s.vm.findClass "com/example/goldpage/goldpage/golden/LineFields" = some m.cls := hown
  replace hml : c.maxLocals = 1 := hml
  refine goAt (ef_rm_end m t ) ?_
  have N0 := Fr.nil n0
  show Go p e below T0 (mkF m 0 #[.val (.ref t)] []) _
  refine stp (fun _ => XS.aloadN X0.here hx rfl (hb hby d14_0) rfl rfl) ?_
  show Go p e below T0 (mkF m 1 #[.val (.ref t)] [(.ref t)]) _
  obtain ⟨T1, X1, e1, st1⟩ := getF X0 hx hZ hown (host := "") (Or.inl (hw _ (List.mem_of_getElem? (i := 43) rfl))) Via.refl e0 F_t_next (g := (mkF m 1 #[.val (.ref t)] [(.ref t)])) rfl rfl (hb hby d14_1)
  refine stp st1 ?_
  show Go p e below T1 (mkF m 4 #[.val (.ref t)] [(.int nx)]) _
  refine stp (fun _ => XS.aloadN X1.here hx rfl (hb hby d14_4) rfl rfl) ?_
  show Go p e below T1 (mkF m 5 #[.val (.ref t)] [(.ref t), (.int nx)]) _
  obtain ⟨T2, X2, e2, st2⟩ := getF X1 hx hZ hown (host := "") (Or.inl (hw _ (List.mem_of_getElem? (i := 41) rfl))) Via.refl e1 F_t_line (g := (mkF m 5 #[.val (.ref t)] [(.ref t), (.int nx)])) rfl rfl (hb hby d14_5)
  refine stp st2 ?_
  show Go p e below T2 (mkF m 8 #[.val (.ref t)] [(.ref s1), (.int nx)]) _
  obtain ⟨cq3, kq3, q3a, q3b, q3c⟩ := isOf hZ e2 Q_s1.exa
  obtain ⟨_, _, ⟨T3, L3, k3, n3⟩, -, X3, ⟨Lc3, hQ3, l3, y3, z3⟩, st3⟩ := X2.virtualBack hx (y := (⟨"java/lang/String", "length", "()I"⟩ : MethodName)) (z := (⟨"java/lang/String", "length", "()I"⟩ : MethodName)) hown (mvT hZ (hw _ (List.mem_of_getElem? (i := 69) rfl))) (mvT hZ (hw _ (List.mem_of_getElem? (i := 56) rfl))) (notFace_of_selects (args := #[]) (mvT hZ (hw _ (List.mem_of_getElem? (i := 58) rfl)))) (mvT hZ (hw _ (List.mem_of_getElem? (i := 58) rfl))) (mvT hZ (hw _ (List.mem_of_getElem? (i := 57) rfl))) (by decide) (backOf (W := 1) (rm_slen l Z a0 hw [] s1 cs cz h0 n0 O0 Q_s1 S_COMPACT_STRINGS hcz) hZ (hw _ (List.mem_of_getElem? (i := 59) rfl)) (hw _ (List.mem_of_getElem? (i := 7) rfl)) (by decide) (by decide)) q3a q3c (g := (mkF m 8 #[.val (.ref t)] [(.ref s1), (.int nx)])) rfl (by rw [hml]; rfl) (Steps.refl _) (argsL := []) (rest := [(.int nx)]) (lenOf pd_7 rfl) rfl (by show 2 * 0 + _ ≤ _; exact Nat.le_of_eq rfl) (hb hby d14_8) (fun _ _ => ⟨rfl, e2, (by decide : 0 + 0 ≤ _), (by decide : 0 + 0 ≤ _)⟩)
  dsimp only [Pt.U, Pt.locs, Pt.cells, Pt.slots] at X3 l3 y3 z3 st3 hQ3
  subst y3 z3
  obtain ⟨rfl, N3q, e3⟩ := hQ3
  have N3 : Fr n0 L3 := by rw [l3]; exact Fr.app N0 N3q
  refine stt st3 ?_
  show Go p e below T3 (mkF m 11 #[.val (.ref t)] [(.int (Int32.ofNat cs.length)), (.int nx)]) _
  refine stp (fun _ => XS.icmpYes X3.here hx rfl (pc0 := 11) (pc' := 24) rfl (hb hby d14_11) rfl (XT.ii_eq_t hnx) (by decide) (by decide)) ?_
  show Go p e below T3 (mkF m 24 #[.val (.ref t)] []) _
  refine outV X3 hx hret (hb hby d14_24) hlk (by decide) (by decide) ?_
  exact ⟨rfl, N3, e3⟩
theorem d15_0 : decode prog_27_method_3_code 0 = .ok (.aload_n 0, 1) := by decide +kernel
theorem d15_1 : decode prog_27_method_3_code 1 = .ok (.getfield 7, 3) := by decide +kernel
theorem d15_4 : decode prog_27_method_3_code 4 = .ok (.bipush 32, 2) := by decide +kernel
theorem d15_6 : decode prog_27_method_3_code 6 = .ok (.aload_n 0, 1) := by decide +kernel
theorem d15_7 : decode prog_27_method_3_code 7 = .ok (.getfield 13, 3) := by decide +kernel
theorem d15_10 : decode prog_27_method_3_code 10 = .ok (.invokevirtual 46, 3) := by decide +kernel
theorem d15_13 : decode prog_27_method_3_code 13 = .ok (.istore_n 1, 1) := by decide +kernel
theorem d15_14 : decode prog_27_method_3_code 14 = .ok (.iload_n 1, 1) := by decide +kernel
theorem d15_15 : decode prog_27_method_3_code 15 = .ok (.ifCond .ge 13, 3) := by decide +kernel
theorem d15_18 : decode prog_27_method_3_code 18 = .ok (.aload_n 0, 1) := by decide +kernel
theorem d15_19 : decode prog_27_method_3_code 19 = .ok (.getfield 7, 3) := by decide +kernel
theorem d15_22 : decode prog_27_method_3_code 22 = .ok (.invokevirtual 52, 3) := by decide +kernel
theorem d15_25 : decode prog_27_method_3_code 25 = .ok (.goto 4, 3) := by decide +kernel
theorem d15_29 : decode prog_27_method_3_code 29 = .ok (.istore_n 2, 1) := by decide +kernel
theorem d15_30 : decode prog_27_method_3_code 30 = .ok (.aload_n 0, 1) := by decide +kernel
theorem d15_31 : decode prog_27_method_3_code 31 = .ok (.getfield 7, 3) := by decide +kernel
theorem d15_34 : decode prog_27_method_3_code 34 = .ok (.aload_n 0, 1) := by decide +kernel
theorem d15_35 : decode prog_27_method_3_code 35 = .ok (.getfield 13, 3) := by decide +kernel
theorem d15_38 : decode prog_27_method_3_code 38 = .ok (.iload_n 2, 1) := by decide +kernel
theorem d15_39 : decode prog_27_method_3_code 39 = .ok (.invokevirtual 56, 3) := by decide +kernel
theorem pd_17 : parseMethodDescriptor "(II)Ljava/lang/String;" = some ⟨[.int, .int], some (.object "java/lang/String")⟩ := by decide +kernel
theorem d15_42 : decode prog_27_method_3_code 42 = .ok (.astore_n 3, 1) := by decide +kernel
theorem d15_43 : decode prog_27_method_3_code 43 = .ok (.aload_n 0, 1) := by decide +kernel
theorem d15_44 : decode prog_27_method_3_code 44 = .ok (.iload_n 2, 1) := by decide +kernel
theorem d15_45 : decode prog_27_method_3_code 45 = .ok (.putfield 13, 3) := by decide +kernel
theorem d15_48 : decode prog_27_method_3_code 48 = .ok (.aload_n 3, 1) := by decide +kernel
theorem d15_49 : decode prog_27_method_3_code 49 = .ok (.areturn, 1) := by decide +kernel
theorem ef_rm_woa (m : MethodId) (t : Addr)  : entryFrame m #[(.ref t)] 4 = mkF m 0 #[.val (.ref t), .unset, .unset, .unset] [] := by first | (simp [entryFrame, mkF, argsToLocals, Value.category]; done) | rfl
def Q_rm_woa (Z : State) (t : Addr) (s1 : Addr) (nx : Int32) (cs : List Int32) (cz : Int32) (fm : Value) (h0 : Heap) (n0 : Nat) (v : Option Value) (h : Heap) (L : List Loc) : Prop := ∃ (r : Addr), v = some (.ref r) ∧ Fr n0 L ∧ Keep h0 h [t] ∧ StrIs Z h r []
theorem pn_23_ : plainName "com/example/goldpage/goldpage/golden/LineFields" = true := by first | (simp [plainName, overriddenIn]; done) | decide +kernel
theorem pn_23 : plainFor (⟨"com/example/goldpage/goldpage/golden/LineFields", "word", "()Ljava/lang/String;"⟩ : MethodName) = true := plainFor_of_name pn_23_
set_option maxRecDepth 65536 in
set_option maxHeartbeats 40000000 in
theorem rm_woa (l : Launch) (Z : State) (a0 : Array Value) (hw : ∀ d ∈ tables_1, d.before a0 Z = true) (ws : List Jvm.Cond) (t : Addr) (s1 : Addr) (nx : Int32) (cs : List Int32) (cz : Int32) (fm : Value) (h0 : Heap) (n0 : Nat) (O0 : Old Z n0 h0) (hEL : EW Z a0 consts_1) (E_t : Exa Z h0 t "com/example/goldpage/goldpage/golden/LineFields") (F_t_line : Fld Z h0 t "com/example/goldpage/goldpage/golden/LineFields" "line" "Ljava/lang/String;" (.ref s1)) (F_t_next : Fld Z h0 t "com/example/goldpage/goldpage/golden/LineFields" "next" "I" (.int nx)) (Q_s1 : StrIs Z h0 s1 cs) (S_COMPACT_STRINGS : Sta Z Z.heap "java/lang/String" "COMPACT_STRINGS" "Z" (.int cz)) (S_SIOOBE_FORMATTER : Sta Z Z.heap "jdk/internal/util/Preconditions" "SIOOBE_FORMATTER" "Ljava/util/function/BiFunction;" fm) (ge_t : n0 ≤ t) (ne_s1_t : s1 ≠ t) (hcz : ¬ cz = (0 : Int32)) (hfm : fm.isRef = true) (hnx : nx = (Int32.ofNat cs.length)) (hz : (Int32.ofNat cs.length) = 0) :
    MetFree l (⟨"com/example/goldpage/goldpage/golden/LineFields", "word", "()Ljava/lang/String;"⟩ : MethodName) (head1 (Jvm.Cond.code (⟨"com/example/goldpage/goldpage/golden/LineFields", "word", "()Ljava/lang/String;"⟩ : MethodName) prog_27_method_3_code 4 (some (.object "java/lang/String")) :: ws) ({ frames := 3, cells := 0, slots := 0, locals := 45 } : Room)) (fun args_ U => args_ = #[(.ref t)] ∧ Z.Warmed39 U.vm ∧ U.heap = h0 ∧ CHv Z consts_1 U.vm h0) (fun _ _ _ _ _ => True) (fun _ U out_ U' => ∃ val_ loc_, out_ = .returned val_ ∧ (Q_rm_woa Z t s1 nx cs cz fm h0 n0) val_ U'.heap loc_ ∧ CHr Z consts_1 U.vm U.heap U'.vm U'.heap ∧ ReturnedEndW U out_ U' loc_ ({ frames := 3, cells := 0, slots := 0, locals := 45 } : Room).cells ({ frames := 3, cells := 0, slots := 0, locals := 45 } : Room).slots) := by
  refine startW (Q := (Q_rm_woa Z t s1 nx cs cz fm h0 n0)) pn_23 ?_
  intro p e s m below meth c T0 X0 hx hby hml hown hnm hret hlk hZ e0 hS CR
  have hk : 0 ≤ h0.size := Nat.zero_le _
  have wS : ∀ a ∈ Bundle.stringAtoms, a.before a0 Z = true := own_wS hw
  replace hown : s.vm.findClass "com/example/goldpage/goldpage/golden/LineFields" = some m.cls := hown
  replace hml : c.maxLocals = 4 := hml
  refine goAt (ef_rm_woa m t ) ?_
  have N0 := Fr.nil n0
  have hl_s1 := own_len4000 Q_s1
  show Go p e below T0 (mkF m 0 #[.val (.ref t), .unset, .unset, .unset] []) _
  subst hnx
  show Go p e below T0 (mkF m 0 #[.val (.ref t), .unset, .unset, .unset] []) _
  refine stp (fun _ => XS.aloadN X0.here hx rfl (hb hby d15_0) rfl rfl) ?_
  show Go p e below T0 (mkF m 1 #[.val (.ref t), .unset, .unset, .unset] [(.ref t)]) _
  obtain ⟨T1, X1, e1, st1⟩ := getF X0 hx hZ hown (host := "") (Or.inl (hw _ (List.mem_of_getElem? (i := 41) rfl))) Via.refl e0 F_t_line (g := (mkF m 1 #[.val (.ref t), .unset, .unset, .unset] [(.ref t)])) rfl rfl (hb hby d15_1)
  refine stp st1 ?_
  show Go p e below T1 (mkF m 4 #[.val (.ref t), .unset, .unset, .unset] [(.ref s1)]) _
  refine stp (fun _ => XS.bipush X1.here hx rfl (hb hby d15_4)) ?_
  show Go p e below T1 (mkF m 6 #[.val (.ref t), .unset, .unset, .unset] [(.int (32 : Int32)), (.ref s1)]) _
  refine stp (fun _ => XS.aloadN X1.here hx rfl (hb hby d15_6) rfl rfl) ?_
  show Go p e below T1 (mkF m 7 #[.val (.ref t), .unset, .unset, .unset] [(.ref t), (.int (32 : Int32)), (.ref s1)]) _
  obtain ⟨T2, X2, e2, st2⟩ := getF X1 hx hZ hown (host := "") (Or.inl (hw _ (List.mem_of_getElem? (i := 43) rfl))) Via.refl e1 F_t_next (g := (mkF m 7 #[.val (.ref t), .unset, .unset, .unset] [(.ref t), (.int (32 : Int32)), (.ref s1)])) rfl rfl (hb hby d15_7)
  refine stp st2 ?_
  show Go p e below T2 (mkF m 10 #[.val (.ref t), .unset, .unset, .unset] [(.int (Int32.ofNat cs.length)), (.int (32 : Int32)), (.ref s1)]) _
  obtain ⟨cq3, kq3, q3a, q3b, q3c⟩ := isOf hZ e2 Q_s1.exa
  obtain ⟨_, _, ⟨T3, L3, k3, n3⟩, -, X3, ⟨Lc3, hQ3, l3, y3, z3⟩, st3⟩ := X2.virtualBack hx (y := (⟨"java/lang/String", "indexOf", "(II)I"⟩ : MethodName)) (z := (⟨"java/lang/String", "indexOf", "(II)I"⟩ : MethodName)) hown (mvT hZ (hw _ (List.mem_of_getElem? (i := 80) rfl))) (mvT hZ (hw _ (List.mem_of_getElem? (i := 81) rfl))) (notFace_of_selects (args := #[]) (mvT hZ (hw _ (List.mem_of_getElem? (i := 83) rfl)))) (mvT hZ (hw _ (List.mem_of_getElem? (i := 83) rfl))) (mvT hZ (hw _ (List.mem_of_getElem? (i := 82) rfl))) (by decide) (backOf (W := 0) (rm_ix l Z a0 hw [] s1 (Int32.ofNat cs.length) cs cz h0 n0 O0 Q_s1 S_COMPACT_STRINGS hcz rfl) hZ (hw _ (List.mem_of_getElem? (i := 84) rfl)) (hw _ (List.mem_of_getElem? (i := 7) rfl)) (by decide) (by decide)) q3a q3c (g := (mkF m 10 #[.val (.ref t), .unset, .unset, .unset] [(.int (Int32.ofNat cs.length)), (.int (32 : Int32)), (.ref s1)])) rfl (by rw [hml]; rfl) (Steps.refl _) (argsL := [(.int (32 : Int32)), (.int (Int32.ofNat cs.length))]) (rest := []) (lenOf pd_10 rfl) rfl (by show 2 * 0 + _ ≤ _; exact Nat.le_of_eq rfl) (hb hby d15_10) (fun _ _ => ⟨rfl, e2, (by decide : 0 + 0 ≤ _), (by decide : 0 + 0 ≤ _)⟩)
  dsimp only [Pt.U, Pt.locs, Pt.cells, Pt.slots] at X3 l3 y3 z3 st3 hQ3
  subst y3 z3
  obtain ⟨rfl, N3q, e3⟩ := hQ3
  have N3 : Fr n0 L3 := by rw [l3]; exact Fr.app N0 N3q
  refine stt st3 ?_
  show Go p e below T3 (mkF m 13 #[.val (.ref t), .unset, .unset, .unset] [(.int (-1 : Int32))]) _
  refine stp (fun _ => XS.istoreN X3.here hx rfl (hb hby d15_13) rfl (l' := #[.val (.ref t), .val (.int (-1 : Int32)), .unset, .unset]) rfl) ?_
  show Go p e below T3 (mkF m 14 #[.val (.ref t), .val (.int (-1 : Int32)), .unset, .unset] []) _
  refine stp (fun _ => XS.iloadN X3.here hx rfl (hb hby d15_14) rfl) ?_
  show Go p e below T3 (mkF m 15 #[.val (.ref t), .val (.int (-1 : Int32)), .unset, .unset] [(.int (-1 : Int32))]) _
  refine stp (fun _ => XS.ifNo X3.here hx rfl (hb hby d15_15) rfl (by decide)) ?_
  show Go p e below T3 (mkF m 18 #[.val (.ref t), .val (.int (-1 : Int32)), .unset, .unset] []) _
  refine stp (fun _ => XS.aloadN X3.here hx rfl (hb hby d15_18) rfl rfl) ?_
  show Go p e below T3 (mkF m 19 #[.val (.ref t), .val (.int (-1 : Int32)), .unset, .unset] [(.ref t)]) _
  obtain ⟨T4, X4, e4, st4⟩ := getF X3 hx hZ hown (host := "") (Or.inl (hw _ (List.mem_of_getElem? (i := 41) rfl))) Via.refl e3 F_t_line (g := (mkF m 19 #[.val (.ref t), .val (.int (-1 : Int32)), .unset, .unset] [(.ref t)])) rfl rfl (hb hby d15_19)
  refine stp st4 ?_
  show Go p e below T4 (mkF m 22 #[.val (.ref t), .val (.int (-1 : Int32)), .unset, .unset] [(.ref s1)]) _
  obtain ⟨cq5, kq5, q5a, q5b, q5c⟩ := isOf hZ e4 Q_s1.exa
  obtain ⟨_, _, ⟨T5, L5, k5, n5⟩, -, X5, ⟨Lc5, hQ5, l5, y5, z5⟩, st5⟩ := X4.virtualBack hx (y := (⟨"java/lang/String", "length", "()I"⟩ : MethodName)) (z := (⟨"java/lang/String", "length", "()I"⟩ : MethodName)) hown (mvT hZ (hw _ (List.mem_of_getElem? (i := 69) rfl))) (mvT hZ (hw _ (List.mem_of_getElem? (i := 56) rfl))) (notFace_of_selects (args := #[]) (mvT hZ (hw _ (List.mem_of_getElem? (i := 58) rfl)))) (mvT hZ (hw _ (List.mem_of_getElem? (i := 58) rfl))) (mvT hZ (hw _ (List.mem_of_getElem? (i := 57) rfl))) (by decide) (backOf (W := 0) (rm_slen l Z a0 hw [] s1 cs cz h0 n0 O0 Q_s1 S_COMPACT_STRINGS hcz) hZ (hw _ (List.mem_of_getElem? (i := 59) rfl)) (hw _ (List.mem_of_getElem? (i := 7) rfl)) (by decide) (by decide)) q5a q5c (g := (mkF m 22 #[.val (.ref t), .val (.int (-1 : Int32)), .unset, .unset] [(.ref s1)])) rfl (by rw [hml]; rfl) (Steps.refl _) (argsL := []) (rest := []) (lenOf pd_7 rfl) rfl (by show 2 * 0 + _ ≤ _; exact Nat.le_of_eq rfl) (hb hby d15_22) (fun _ _ => ⟨rfl, e4, (by decide : 0 + 0 ≤ _), (by decide : 0 + 0 ≤ _)⟩)
  dsimp only [Pt.U, Pt.locs, Pt.cells, Pt.slots] at X5 l5 y5 z5 st5 hQ5
  subst y5 z5
  obtain ⟨rfl, N5q, e5⟩ := hQ5
  have N5 : Fr n0 L5 := by rw [l5]; exact Fr.app N3 N5q
  refine stt st5 ?_
  show Go p e below T5 (mkF m 25 #[.val (.ref t), .val (.int (-1 : Int32)), .unset, .unset] [(.int (Int32.ofNat cs.length))]) _
  refine stp (fun _ => XS.goto X5.here hx rfl (pc0 := 25) (pc' := 29) rfl (hb hby d15_25) (by decide) (by decide)) ?_
  show Go p e below T5 (mkF m 29 #[.val (.ref t), .val (.int (-1 : Int32)), .unset, .unset] [(.int (Int32.ofNat cs.length))]) _
  refine stp (fun _ => XS.istoreN X5.here hx rfl (hb hby d15_29) rfl (l' := #[.val (.ref t), .val (.int (-1 : Int32)), .val (.int (Int32.ofNat cs.length)), .unset]) rfl) ?_
  show Go p e below T5 (mkF m 30 #[.val (.ref t), .val (.int (-1 : Int32)), .val (.int (Int32.ofNat cs.length)), .unset] []) _
  refine stp (fun _ => XS.aloadN X5.here hx rfl (hb hby d15_30) rfl rfl) ?_
  show Go p e below T5 (mkF m 31 #[.val (.ref t), .val (.int (-1 : Int32)), .val (.int (Int32.ofNat cs.length)), .unset] [(.ref t)]) _
  obtain ⟨T6, X6, e6, st6⟩ := getF X5 hx hZ hown (host := "") (Or.inl (hw _ (List.mem_of_getElem? (i := 41) rfl))) Via.refl e5 F_t_line (g := (mkF m 31 #[.val (.ref t), .val (.int (-1 : Int32)), .val (.int (Int32.ofNat cs.length)), .unset] [(.ref t)])) rfl rfl (hb hby d15_31)
  refine stp st6 ?_
  show Go p e below T6 (mkF m 34 #[.val (.ref t), .val (.int (-1 : Int32)), .val (.int (Int32.ofNat cs.length)), .unset] [(.ref s1)]) _
  refine stp (fun _ => XS.aloadN X6.here hx rfl (hb hby d15_34) rfl rfl) ?_
  show Go p e below T6 (mkF m 35 #[.val (.ref t), .val (.int (-1 : Int32)), .val (.int (Int32.ofNat cs.length)), .unset] [(.ref t), (.ref s1)]) _
  obtain ⟨T7, X7, e7, st7⟩ := getF X6 hx hZ hown (host := "") (Or.inl (hw _ (List.mem_of_getElem? (i := 43) rfl))) Via.refl e6 F_t_next (g := (mkF m 35 #[.val (.ref t), .val (.int (-1 : Int32)), .val (.int (Int32.ofNat cs.length)), .unset] [(.ref t), (.ref s1)])) rfl rfl (hb hby d15_35)
  refine stp st7 ?_
  show Go p e below T7 (mkF m 38 #[.val (.ref t), .val (.int (-1 : Int32)), .val (.int (Int32.ofNat cs.length)), .unset] [(.int (Int32.ofNat cs.length)), (.ref s1)]) _
  refine stp (fun _ => XS.iloadN X7.here hx rfl (hb hby d15_38) rfl) ?_
  show Go p e below T7 (mkF m 39 #[.val (.ref t), .val (.int (-1 : Int32)), .val (.int (Int32.ofNat cs.length)), .unset] [(.int (Int32.ofNat cs.length)), (.int (Int32.ofNat cs.length)), (.ref s1)]) _
  obtain ⟨cq8, kq8, q8a, q8b, q8c⟩ := isOf hZ e7 Q_s1.exa
  obtain ⟨_, _, ⟨T8, L8, k8, n8⟩, -, X8, ⟨Lc8, hQ8, l8, y8, z8⟩, st8⟩ := X7.virtualBack hx (y := (⟨"java/lang/String", "substring", "(II)Ljava/lang/String;"⟩ : MethodName)) (z := (⟨"java/lang/String", "substring", "(II)Ljava/lang/String;"⟩ : MethodName)) hown (mvT hZ (hw _ (List.mem_of_getElem? (i := 104) rfl))) (mvT hZ (hw _ (List.mem_of_getElem? (i := 105) rfl))) (notFace_of_selects (args := #[]) (mvT hZ (hw _ (List.mem_of_getElem? (i := 107) rfl)))) (mvT hZ (hw _ (List.mem_of_getElem? (i := 107) rfl))) (mvT hZ (hw _ (List.mem_of_getElem? (i := 106) rfl))) (by decide) (backOf (W := 0) (rm_sba l Z a0 hw [] s1 (Int32.ofNat cs.length) cs cz fm h0 n0 O0 Q_s1 S_COMPACT_STRINGS S_SIOOBE_FORMATTER hcz hfm rfl hz) hZ (hw _ (List.mem_of_getElem? (i := 108) rfl)) (hw _ (List.mem_of_getElem? (i := 7) rfl)) (by decide) (by decide)) q8a q8c (g := (mkF m 39 #[.val (.ref t), .val (.int (-1 : Int32)), .val (.int (Int32.ofNat cs.length)), .unset] [(.int (Int32.ofNat cs.length)), (.int (Int32.ofNat cs.length)), (.ref s1)])) rfl (by rw [hml]; rfl) (Steps.refl _) (argsL := [(.int (Int32.ofNat cs.length)), (.int (Int32.ofNat cs.length))]) (rest := []) (lenOf pd_17 rfl) rfl (by show 2 * 0 + _ ≤ _; exact Nat.le_of_eq rfl) (hb hby d15_39) (fun _ _ => ⟨rfl, e7, (by decide : 0 + 0 ≤ _), (by decide : 0 + 0 ≤ _)⟩)
  dsimp only [Pt.U, Pt.locs, Pt.cells, Pt.slots] at X8 l8 y8 z8 st8 hQ8
  subst y8 z8
  obtain ⟨rfl, N8q, e8⟩ := hQ8
  have N8 : Fr n0 L8 := by rw [l8]; exact Fr.app N5 N8q
  refine stt st8 ?_
  show Go p e below T8 (mkF m 42 #[.val (.ref t), .val (.int (-1 : Int32)), .val (.int (Int32.ofNat cs.length)), .unset] [(.ref s1)]) _
  refine stp (fun _ => XS.astoreN X8.here hx rfl (hb hby d15_42) rfl rfl (l' := #[.val (.ref t), .val (.int (-1 : Int32)), .val (.int (Int32.ofNat cs.length)), .val (.ref s1)]) rfl) ?_
  show Go p e below T8 (mkF m 43 #[.val (.ref t), .val (.int (-1 : Int32)), .val (.int (Int32.ofNat cs.length)), .val (.ref s1)] []) _
  refine stp (fun _ => XS.aloadN X8.here hx rfl (hb hby d15_43) rfl rfl) ?_
  show Go p e below T8 (mkF m 44 #[.val (.ref t), .val (.int (-1 : Int32)), .val (.int (Int32.ofNat cs.length)), .val (.ref s1)] [(.ref t)]) _
  refine stp (fun _ => XS.iloadN X8.here hx rfl (hb hby d15_44) rfl) ?_
  show Go p e below T8 (mkF m 45 #[.val (.ref t), .val (.int (-1 : Int32)), .val (.int (Int32.ofNat cs.length)), .val (.ref s1)] [(.int (Int32.ofNat cs.length)), (.ref t)]) _
  obtain ⟨T9, h9, X9, e9, W9, st9⟩ := putF X8 hx hZ hown (host := "") (Or.inl (hw _ (List.mem_of_getElem? (i := 43) rfl))) Via.refl e8 F_t_next E_t (Or.inl (hw _ (List.mem_of_getElem? (i := 44) rfl))) (hw _ (List.mem_of_getElem? (i := 35) rfl)) (ty := .int) (by decide) rfl rfl (g := (mkF m 45 #[.val (.ref t), .val (.int (-1 : Int32)), .val (.int (Int32.ofNat cs.length)), .val (.ref s1)] [(.int (Int32.ofNat cs.length)), (.ref t)])) rfl rfl (hb hby d15_45)
  have Fw9 := F_t_next.same W9
  have f10 := E_t.wr W9
  have f11 := F_t_line.other W9 (Or.inr (slot_ne (Or.inr (hw _ (List.mem_of_getElem? (i := 42) rfl))) (Or.inl (hw _ (List.mem_of_getElem? (i := 44) rfl))) (by decide) (t := (.object "java/lang/String")) (t' := .int) (by decide) (by decide)))
  have f13 := Q_s1.wr W9 ne_s1_t (Apart.exa E_t (hw _ (List.mem_of_getElem? (i := 35) rfl)))
  have f14 := Q_s1.exa.wr W9
  have hk := Nat.le_trans hk (Keep.of_wr W9).1
  have CR := CR.trans (CHr.wr W9 (Safe.exa hZ.alike E_t (by decide) (by decide)) CR.1)
  have K9 : Keep h0 h9 [t] := (Keep.refl h0 [t]).wr W9 (Or.inl (List.mem_of_getElem? (i := 0) rfl))
  have O9 := O0.wr W9 ge_t
  have N9 := Fr.snoc X9 N8 ge_t
  refine stp st9 ?_
  show Go p e below T9 (mkF m 48 #[.val (.ref t), .val (.int (-1 : Int32)), .val (.int (Int32.ofNat cs.length)), .val (.ref s1)] []) _
  refine stp (fun _ => XS.aloadN X9.here hx rfl (hb hby d15_48) rfl rfl) ?_
  show Go p e below T9 (mkF m 49 #[.val (.ref t), .val (.int (-1 : Int32)), .val (.int (Int32.ofNat cs.length)), .val (.ref s1)] [(.ref s1)]) _
  refine outAW X9 hx hZ hEL e9 hS hk CR hret rfl rfl (hb hby d15_49) hlk (by decide) (by decide) ?_
  rw [e9]
  exact ⟨s1, rfl, N9, K9, (own_cs_of (own_nil hl_s1 hz) f13)⟩
theorem ef_rm_wob (m : MethodId) (t : Addr)  : entryFrame m #[(.ref t)] 4 = mkF m 0 #[.val (.ref t), .unset, .unset, .unset] [] := by first | (simp [entryFrame, mkF, argsToLocals, Value.category]; done) | rfl
def Q_rm_wob (Z : State) (t : Addr) (s1 : Addr) (nx : Int32) (cs : List Int32) (cz : Int32) (fm : Value) (h0 : Heap) (n0 : Nat) (v : Option Value) (h : Heap) (L : List Loc) : Prop := ∃ (r : Addr), v = some (.ref r) ∧ Fr n0 L ∧ Keep h0 h [t] ∧ StrIs Z h r []
set_option maxRecDepth 65536 in
set_option maxHeartbeats 40000000 in
theorem rm_wob (l : Launch) (Z : State) (a0 : Array Value) (hw : ∀ d ∈ tables_1, d.before a0 Z = true) (ws : List Jvm.Cond) (t : Addr) (s1 : Addr) (nx : Int32) (cs : List Int32) (cz : Int32) (fm : Value) (h0 : Heap) (n0 : Nat) (O0 : Old Z n0 h0) (hEL : EW Z a0 consts_1) (E_t : Exa Z h0 t "com/example/goldpage/goldpage/golden/LineFields") (F_t_line : Fld Z h0 t "com/example/goldpage/goldpage/golden/LineFields" "line" "Ljava/lang/String;" (.ref s1)) (F_t_next : Fld Z h0 t "com/example/goldpage/goldpage/golden/LineFields" "next" "I" (.int nx)) (Q_s1 : StrIs Z h0 s1 cs) (S_COMPACT_STRINGS : Sta Z Z.heap "java/lang/String" "COMPACT_STRINGS" "Z" (.int cz)) (S_SIOOBE_FORMATTER : Sta Z Z.heap "jdk/internal/util/Preconditions" "SIOOBE_FORMATTER" "Ljava/util/function/BiFunction;" fm) (ge_t : n0 ≤ t) (ne_s1_t : s1 ≠ t) (hcz : ¬ cz = (0 : Int32)) (hfm : fm.isRef = true) (hnx : nx = (Int32.ofNat cs.length)) (hz : ¬ (Int32.ofNat cs.length) = 0) :
    MetFree l (⟨"com/example/goldpage/goldpage/golden/LineFields", "word", "()Ljava/lang/String;"⟩ : MethodName) (head1 (Jvm.Cond.code (⟨"com/example/goldpage/goldpage/golden/LineFields", "word", "()Ljava/lang/String;"⟩ : MethodName) prog_27_method_3_code 4 (some (.object "java/lang/String")) :: ws) ({ frames := 3, cells := 2, slots := 4, locals := 45 } : Room)) (fun args_ U => args_ = #[(.ref t)] ∧ Z.Warmed39 U.vm ∧ U.heap = h0 ∧ CHv Z consts_1 U.vm h0) (fun _ _ _ _ _ => True) (fun _ U out_ U' => ∃ val_ loc_, out_ = .returned val_ ∧ (Q_rm_wob Z t s1 nx cs cz fm h0 n0) val_ U'.heap loc_ ∧ CHr Z consts_1 U.vm U.heap U'.vm U'.heap ∧ ReturnedEndW U out_ U' loc_ ({ frames := 3, cells := 2, slots := 4, locals := 45 } : Room).cells ({ frames := 3, cells := 2, slots := 4, locals := 45 } : Room).slots) := by
  refine startW (Q := (Q_rm_wob Z t s1 nx cs cz fm h0 n0)) pn_23 ?_
  intro p e s m below meth c T0 X0 hx hby hml hown hnm hret hlk hZ e0 hS CR
  have hk : 0 ≤ h0.size := Nat.zero_le _
  have wS : ∀ a ∈ Bundle.stringAtoms, a.before a0 Z = true := own_wS hw
  replace hown : s.vm.findClass "com/example/goldpage/goldpage/golden/LineFields" = some m.cls := hown
  replace hml : c.maxLocals = 4 := hml
  refine goAt (ef_rm_wob m t ) ?_
  have N0 := Fr.nil n0
  have hl_s1 := own_len4000 Q_s1
  show Go p e below T0 (mkF m 0 #[.val (.ref t), .unset, .unset, .unset] []) _
  subst hnx
  show Go p e below T0 (mkF m 0 #[.val (.ref t), .unset, .unset, .unset] []) _
  refine stp (fun _ => XS.aloadN X0.here hx rfl (hb hby d15_0) rfl rfl) ?_
  show Go p e below T0 (mkF m 1 #[.val (.ref t), .unset, .unset, .unset] [(.ref t)]) _
  obtain ⟨T1, X1, e1, st1⟩ := getF X0 hx hZ hown (host := "") (Or.inl (hw _ (List.mem_of_getElem? (i := 41) rfl))) Via.refl e0 F_t_line (g := (mkF m 1 #[.val (.ref t), .unset, .unset, .unset] [(.ref t)])) rfl rfl (hb hby d15_1)
  refine stp st1 ?_
  show Go p e below T1 (mkF m 4 #[.val (.ref t), .unset, .unset, .unset] [(.ref s1)]) _
  refine stp (fun _ => XS.bipush X1.here hx rfl (hb hby d15_4)) ?_
  show Go p e below T1 (mkF m 6 #[.val (.ref t), .unset, .unset, .unset] [(.int (32 : Int32)), (.ref s1)]) _
  refine stp (fun _ => XS.aloadN X1.here hx rfl (hb hby d15_6) rfl rfl) ?_
  show Go p e below T1 (mkF m 7 #[.val (.ref t), .unset, .unset, .unset] [(.ref t), (.int (32 : Int32)), (.ref s1)]) _
  obtain ⟨T2, X2, e2, st2⟩ := getF X1 hx hZ hown (host := "") (Or.inl (hw _ (List.mem_of_getElem? (i := 43) rfl))) Via.refl e1 F_t_next (g := (mkF m 7 #[.val (.ref t), .unset, .unset, .unset] [(.ref t), (.int (32 : Int32)), (.ref s1)])) rfl rfl (hb hby d15_7)
  refine stp st2 ?_
  show Go p e below T2 (mkF m 10 #[.val (.ref t), .unset, .unset, .unset] [(.int (Int32.ofNat cs.length)), (.int (32 : Int32)), (.ref s1)]) _
  obtain ⟨cq3, kq3, q3a, q3b, q3c⟩ := isOf hZ e2 Q_s1.exa
  obtain ⟨_, _, ⟨T3, L3, k3, n3⟩, -, X3, ⟨Lc3, hQ3, l3, y3, z3⟩, st3⟩ := X2.virtualBack hx (y := (⟨"java/lang/String", "indexOf", "(II)I"⟩ : MethodName)) (z := (⟨"java/lang/String", "indexOf", "(II)I"⟩ : MethodName)) hown (mvT hZ (hw _ (List.mem_of_getElem? (i := 80) rfl))) (mvT hZ (hw _ (List.mem_of_getElem? (i := 81) rfl))) (notFace_of_selects (args := #[]) (mvT hZ (hw _ (List.mem_of_getElem? (i := 83) rfl)))) (mvT hZ (hw _ (List.mem_of_getElem? (i := 83) rfl))) (mvT hZ (hw _ (List.mem_of_getElem? (i := 82) rfl))) (by decide) (backOf (W := 0) (rm_ix l Z a0 hw [] s1 (Int32.ofNat cs.length) cs cz h0 n0 O0 Q_s1 S_COMPACT_STRINGS hcz rfl) hZ (hw _ (List.mem_of_getElem? (i := 84) rfl)) (hw _ (List.mem_of_getElem? (i := 7) rfl)) (by decide) (by decide)) q3a q3c (g := (mkF m 10 #[.val (.ref t), .unset, .unset, .unset] [(.int (Int32.ofNat cs.length)), (.int (32 : Int32)), (.ref s1)])) rfl (by rw [hml]; rfl) (Steps.refl _) (argsL := [(.int (32 : Int32)), (.int (Int32.ofNat cs.length))]) (rest := []) (lenOf pd_10 rfl) rfl (by show 2 * 0 + _ ≤ _; exact Nat.le_of_eq rfl) (hb hby d15_10) (fun _ _ => ⟨rfl, e2, (by decide : 0 + 0 ≤ _), (by decide : 0 + 0 ≤ _)⟩)
  dsimp only [Pt.U, Pt.locs, Pt.cells, Pt.slots] at X3 l3 y3 z3 st3 hQ3
  subst y3 z3
  obtain ⟨rfl, N3q, e3⟩ := hQ3
  have N3 : Fr n0 L3 := by rw [l3]; exact Fr.app N0 N3q
  refine stt st3 ?_
  show Go p e below T3 (mkF m 13 #[.val (.ref t), .unset, .unset, .unset] [(.int (-1 : Int32))]) _
  refine stp (fun _ => XS.istoreN X3.here hx rfl (hb hby d15_13) rfl (l' := #[.val (.ref t), .val (.int (-1 : Int32)), .unset, .unset]) rfl) ?_
  show Go p e below T3 (mkF m 14 #[.val (.ref t), .val (.int (-1 : Int32)), .unset, .unset] []) _
  refine stp (fun _ => XS.iloadN X3.here hx rfl (hb hby d15_14) rfl) ?_
  show Go p e below T3 (mkF m 15 #[.val (.ref t), .val (.int (-1 : Int32)), .unset, .unset] [(.int (-1 : Int32))]) _
  refine stp (fun _ => XS.ifNo X3.here hx rfl (hb hby d15_15) rfl (by decide)) ?_
  show Go p e below T3 (mkF m 18 #[.val (.ref t), .val (.int (-1 : Int32)), .unset, .unset] []) _
  refine stp (fun _ => XS.aloadN X3.here hx rfl (hb hby d15_18) rfl rfl) ?_
  show Go p e below T3 (mkF m 19 #[.val (.ref t), .val (.int (-1 : Int32)), .unset, .unset] [(.ref t)]) _
  obtain ⟨T4, X4, e4, st4⟩ := getF X3 hx hZ hown (host := "") (Or.inl (hw _ (List.mem_of_getElem? (i := 41) rfl))) Via.refl e3 F_t_line (g := (mkF m 19 #[.val (.ref t), .val (.int (-1 : Int32)), .unset, .unset] [(.ref t)])) rfl rfl (hb hby d15_19)
  refine stp st4 ?_
  show Go p e below T4 (mkF m 22 #[.val (.ref t), .val (.int (-1 : Int32)), .unset, .unset] [(.ref s1)]) _
  obtain ⟨cq5, kq5, q5a, q5b, q5c⟩ := isOf hZ e4 Q_s1.exa
  obtain ⟨_, _, ⟨T5, L5, k5, n5⟩, -, X5, ⟨Lc5, hQ5, l5, y5, z5⟩, st5⟩ := X4.virtualBack hx (y := (⟨"java/lang/String", "length", "()I"⟩ : MethodName)) (z := (⟨"java/lang/String", "length", "()I"⟩ : MethodName)) hown (mvT hZ (hw _ (List.mem_of_getElem? (i := 69) rfl))) (mvT hZ (hw _ (List.mem_of_getElem? (i := 56) rfl))) (notFace_of_selects (args := #[]) (mvT hZ (hw _ (List.mem_of_getElem? (i := 58) rfl)))) (mvT hZ (hw _ (List.mem_of_getElem? (i := 58) rfl))) (mvT hZ (hw _ (List.mem_of_getElem? (i := 57) rfl))) (by decide) (backOf (W := 0) (rm_slen l Z a0 hw [] s1 cs cz h0 n0 O0 Q_s1 S_COMPACT_STRINGS hcz) hZ (hw _ (List.mem_of_getElem? (i := 59) rfl)) (hw _ (List.mem_of_getElem? (i := 7) rfl)) (by decide) (by decide)) q5a q5c (g := (mkF m 22 #[.val (.ref t), .val (.int (-1 : Int32)), .unset, .unset] [(.ref s1)])) rfl (by rw [hml]; rfl) (Steps.refl _) (argsL := []) (rest := []) (lenOf pd_7 rfl) rfl (by show 2 * 0 + _ ≤ _; exact Nat.le_of_eq rfl) (hb hby d15_22) (fun _ _ => ⟨rfl, e4, (by decide : 0 + 0 ≤ _), (by decide : 0 + 0 ≤ _)⟩)
  dsimp only [Pt.U, Pt.locs, Pt.cells, Pt.slots] at X5 l5 y5 z5 st5 hQ5
  subst y5 z5
  obtain ⟨rfl, N5q, e5⟩ := hQ5
  have N5 : Fr n0 L5 := by rw [l5]; exact Fr.app N3 N5q
  refine stt st5 ?_
  show Go p e below T5 (mkF m 25 #[.val (.ref t), .val (.int (-1 : Int32)), .unset, .unset] [(.int (Int32.ofNat cs.length))]) _
  refine stp (fun _ => XS.goto X5.here hx rfl (pc0 := 25) (pc' := 29) rfl (hb hby d15_25) (by decide) (by decide)) ?_
  show Go p e below T5 (mkF m 29 #[.val (.ref t), .val (.int (-1 : Int32)), .unset, .unset] [(.int (Int32.ofNat cs.length))]) _
  refine stp (fun _ => XS.istoreN X5.here hx rfl (hb hby d15_29) rfl (l' := #[.val (.ref t), .val (.int (-1 : Int32)), .val (.int (Int32.ofNat cs.length)), .unset]) rfl) ?_
  show Go p e below T5 (mkF m 30 #[.val (.ref t), .val (.int (-1 : Int32)), .val (.int (Int32.ofNat cs.length)), .unset] []) _
  refine stp (fun _ => XS.aloadN X5.here hx rfl (hb hby d15_30) rfl rfl) ?_
  show Go p e below T5 (mkF m 31 #[.val (.ref t), .val (.int (-1 : Int32)), .val (.int (Int32.ofNat cs.length)), .unset] [(.ref t)]) _
  obtain ⟨T6, X6, e6, st6⟩ := getF X5 hx hZ hown (host := "") (Or.inl (hw _ (List.mem_of_getElem? (i := 41) rfl))) Via.refl e5 F_t_line (g := (mkF m 31 #[.val (.ref t), .val (.int (-1 : Int32)), .val (.int (Int32.ofNat cs.length)), .unset] [(.ref t)])) rfl rfl (hb hby d15_31)
  refine stp st6 ?_
  show Go p e below T6 (mkF m 34 #[.val (.ref t), .val (.int (-1 : Int32)), .val (.int (Int32.ofNat cs.length)), .unset] [(.ref s1)]) _
  refine stp (fun _ => XS.aloadN X6.here hx rfl (hb hby d15_34) rfl rfl) ?_
  show Go p e below T6 (mkF m 35 #[.val (.ref t), .val (.int (-1 : Int32)), .val (.int (Int32.ofNat cs.length)), .unset] [(.ref t), (.ref s1)]) _
  obtain ⟨T7, X7, e7, st7⟩ := getF X6 hx hZ hown (host := "") (Or.inl (hw _ (List.mem_of_getElem? (i := 43) rfl))) Via.refl e6 F_t_next (g := (mkF m 35 #[.val (.ref t), .val (.int (-1 : Int32)), .val (.int (Int32.ofNat cs.length)), .unset] [(.ref t), (.ref s1)])) rfl rfl (hb hby d15_35)
  refine stp st7 ?_
  show Go p e below T7 (mkF m 38 #[.val (.ref t), .val (.int (-1 : Int32)), .val (.int (Int32.ofNat cs.length)), .unset] [(.int (Int32.ofNat cs.length)), (.ref s1)]) _
  refine stp (fun _ => XS.iloadN X7.here hx rfl (hb hby d15_38) rfl) ?_
  show Go p e below T7 (mkF m 39 #[.val (.ref t), .val (.int (-1 : Int32)), .val (.int (Int32.ofNat cs.length)), .unset] [(.int (Int32.ofNat cs.length)), (.int (Int32.ofNat cs.length)), (.ref s1)]) _
  obtain ⟨cq8, kq8, q8a, q8b, q8c⟩ := isOf hZ e7 Q_s1.exa
  obtain ⟨_, _, ⟨T8, L8, k8, n8⟩, -, X8, hS8, gg8, ⟨Lc8, hQ8, l8, y8, z8, CRn8⟩, st8⟩ := X7.virtualBackS hx (y := (⟨"java/lang/String", "substring", "(II)Ljava/lang/String;"⟩ : MethodName)) (z := (⟨"java/lang/String", "substring", "(II)Ljava/lang/String;"⟩ : MethodName)) hown (mvT hZ (hw _ (List.mem_of_getElem? (i := 104) rfl))) (mvT hZ (hw _ (List.mem_of_getElem? (i := 105) rfl))) (notFace_of_selects (args := #[]) (mvT hZ (hw _ (List.mem_of_getElem? (i := 107) rfl)))) (mvT hZ (hw _ (List.mem_of_getElem? (i := 107) rfl))) (mvT hZ (hw _ (List.mem_of_getElem? (i := 106) rfl))) (by decide) (backOfSH (W := 0) (rm_sbb2 l Z a0 hw [] s1 (Int32.ofNat cs.length) cs cz fm h0 n0 O0 hEL Q_s1 S_COMPACT_STRINGS S_SIOOBE_FORMATTER hcz hfm rfl hz) hZ (hw _ (List.mem_of_getElem? (i := 108) rfl)) (hw _ (List.mem_of_getElem? (i := 7) rfl)) (by decide) (by decide) hEL CR.1) q8a q8c (g := (mkF m 39 #[.val (.ref t), .val (.int (-1 : Int32)), .val (.int (Int32.ofNat cs.length)), .unset] [(.int (Int32.ofNat cs.length)), (.int (Int32.ofNat cs.length)), (.ref s1)])) rfl (by rw [hml]; rfl) (Steps.refl _) (argsL := [(.int (Int32.ofNat cs.length)), (.int (Int32.ofNat cs.length))]) (rest := []) (lenOf pd_17 rfl) rfl (by show 2 * 0 + _ ≤ _; exact Nat.le_of_eq rfl) (hb hby d15_39) (fun _ _ => ⟨rfl, e7, (by decide : 0 + 2 ≤ _), (by decide : 0 + 4 ≤ _)⟩)
  dsimp only [Pt.U, Pt.locs, Pt.cells, Pt.slots] at X8 hS8 gg8 l8 y8 z8 st8 hQ8 CRn8
  subst y8 z8
  obtain ⟨X8, hS, hZ, hown⟩ := rebS hS (by rw [e7]; exact hk) X8 hS8 gg8 hZ hown
  obtain ⟨r8, rfl, N8q, K8q, r8_0⟩ := hQ8
  have N8 : Fr n0 L8 := by rw [l8]; exact Fr.app N5 N8q
  have f9 := E_t.keep K8q
  have f10 := F_t_line.keep K8q nin0
  have f11 := F_t_next.keep K8q nin0
  have f12 := Q_s1.keep K8q nin0 apart0
  have f13 := Q_s1.exa.keep K8q
  have K8 : Keep h0 T8.heap [t] := (Keep.refl h0 [t]).trans K8q all0
  have O8 := O0.keep K8q all0
  have hk : T8.heap.size ≤ T8.heap.size := Nat.le_refl _
  have CR := CR.trans CRn8
  refine stt st8 ?_
  show Go p e below T8 (mkF m 42 #[.val (.ref t), .val (.int (-1 : Int32)), .val (.int (Int32.ofNat cs.length)), .unset] [(.ref r8)]) _
  refine stp (fun _ => XS.astoreN X8.here hx rfl (hb hby d15_42) rfl rfl (l' := #[.val (.ref t), .val (.int (-1 : Int32)), .val (.int (Int32.ofNat cs.length)), .val (.ref r8)]) rfl) ?_
  show Go p e below T8 (mkF m 43 #[.val (.ref t), .val (.int (-1 : Int32)), .val (.int (Int32.ofNat cs.length)), .val (.ref r8)] []) _
  refine stp (fun _ => XS.aloadN X8.here hx rfl (hb hby d15_43) rfl rfl) ?_
  show Go p e below T8 (mkF m 44 #[.val (.ref t), .val (.int (-1 : Int32)), .val (.int (Int32.ofNat cs.length)), .val (.ref r8)] [(.ref t)]) _
  refine stp (fun _ => XS.iloadN X8.here hx rfl (hb hby d15_44) rfl) ?_
  show Go p e below T8 (mkF m 45 #[.val (.ref t), .val (.int (-1 : Int32)), .val (.int (Int32.ofNat cs.length)), .val (.ref r8)] [(.int (Int32.ofNat cs.length)), (.ref t)]) _
  obtain ⟨T14, h14, X14, e14, W14, st14⟩ := putF X8 hx hZ hown (host := "") (Or.inl (hw _ (List.mem_of_getElem? (i := 43) rfl))) Via.refl rfl f11 f9 (Or.inl (hw _ (List.mem_of_getElem? (i := 44) rfl))) (hw _ (List.mem_of_getElem? (i := 35) rfl)) (ty := .int) (by decide) rfl rfl (g := (mkF m 45 #[.val (.ref t), .val (.int (-1 : Int32)), .val (.int (Int32.ofNat cs.length)), .val (.ref r8)] [(.int (Int32.ofNat cs.length)), (.ref t)])) rfl rfl (hb hby d15_45)
  have Fw14 := f11.same W14
  have ne15 : r8 ≠ t := Exa.ne r8_0.exa f9 (by decide)
  have f16 := f9.wr W14
  have f17 := f10.other W14 (Or.inr (slot_ne (Or.inr (hw _ (List.mem_of_getElem? (i := 42) rfl))) (Or.inl (hw _ (List.mem_of_getElem? (i := 44) rfl))) (by decide) (t := (.object "java/lang/String")) (t' := .int) (by decide) (by decide)))
  have f19 := f12.wr W14 ne_s1_t (Apart.exa f9 (hw _ (List.mem_of_getElem? (i := 35) rfl)))
  have f20 := f13.wr W14
  have f21 := r8_0.wr W14 ne15 (Apart.exa f9 (hw _ (List.mem_of_getElem? (i := 35) rfl)))
  have f22 := r8_0.exa.wr W14
  have hk := Nat.le_trans hk (Keep.of_wr W14).1
  have CR := CR.trans (CHr.wr W14 (Safe.exa hZ.alike f9 (by decide) (by decide)) CR.1)
  have K14 : Keep h0 h14 [t] := K8.wr W14 (Or.inl (List.mem_of_getElem? (i := 0) rfl))
  have O14 := O8.wr W14 ge_t
  have N14 := Fr.snoc X14 N8 ge_t
  refine stp st14 ?_
  show Go p e below T14 (mkF m 48 #[.val (.ref t), .val (.int (-1 : Int32)), .val (.int (Int32.ofNat cs.length)), .val (.ref r8)] []) _
  refine stp (fun _ => XS.aloadN X14.here hx rfl (hb hby d15_48) rfl rfl) ?_
  show Go p e below T14 (mkF m 49 #[.val (.ref t), .val (.int (-1 : Int32)), .val (.int (Int32.ofNat cs.length)), .val (.ref r8)] [(.ref r8)]) _
  refine outAW X14 hx hZ hEL e14 hS hk CR hret rfl rfl (hb hby d15_49) hlk (by decide) (by decide) ?_
  rw [e14]
  exact ⟨r8, rfl, N14, K14, f21⟩
theorem pd_18 : parseMethodDescriptor "([CII)Ljava/lang/String;" = some ⟨[(.array .char), .int, .int], some (.object "java/lang/String")⟩ := by decide +kernel
theorem pd_19 : parseMethodDescriptor "(Ljava/lang/String;I)V" = some ⟨[(.object "java/lang/String"), .int], none⟩ := by decide +kernel
theorem pd_20 : parseMethodDescriptor "(Ljava/lang/String;)Z" = some ⟨[(.object "java/lang/String")], some .boolean⟩ := by decide +kernel
theorem pd_21 : parseMethodDescriptor "()V" = some ⟨[], none⟩ := by decide +kernel
theorem pd_22 : parseMethodDescriptor "()Ljava/lang/String;" = some ⟨[], some (.object "java/lang/String")⟩ := by decide +kernel
theorem ef_rm0 (m : MethodId) (p0 : Int32) (p1 : Int32)  : entryFrame m #[(.int p0), (.int p1)] maxLocals = mkF m 0 #[.val (.int p0), .val (.int p1), .unset, .unset, .unset, .unset, .unset, .unset, .unset] [] := by first | (simp [entryFrame, mkF, argsToLocals, Value.category, maxLocals]; done) | rfl
def Q_rm0 (Z : State) (p0 : Int32) (p1 : Int32) (cz : Int32) (fm : Value) (h0 : Heap) (n0 : Nat) (v : Option Value) (h : Heap) (L : List Loc) : Prop := v = some (.int 1) ∧ Fr n0 L
theorem pn_24_ : plainName "com/example/goldpage/goldpage/golden/LineFieldsEndPinLaw" = true := by first | (simp [plainName, overriddenIn]; done) | decide +kernel
theorem pn_24 : plainFor (⟨"com/example/goldpage/goldpage/golden/LineFieldsEndPinLaw", "law", "(II)Z"⟩ : MethodName) = true := plainFor_of_name pn_24_
set_option maxRecDepth 65536 in
set_option maxHeartbeats 40000000 in
theorem rm0 (l : Launch) (Z : State) (a0 : Array Value) (hw : ∀ d ∈ tables_1, d.before a0 Z = true) (ws : List Jvm.Cond) (p0 : Int32) (p1 : Int32) (cz : Int32) (fm : Value) (h0 : Heap) (n0 : Nat) (O0 : Old Z n0 h0) (hEL : EW Z a0 consts_1) (S_CS : Sta Z Z.heap "java/lang/String" "COMPACT_STRINGS" "Z" (.int cz)) (hcz : ¬ cz = (0 : Int32)) (S_FM : Sta Z Z.heap "jdk/internal/util/Preconditions" "SIOOBE_FORMATTER" "Ljava/util/function/BiFunction;" fm) (hfm : fm.isRef = true) :
    MetFree l x (head1 (Jvm.Cond.code x code maxLocals ret :: ws) room_1) (fun args_ U => args_ = #[(.int p0), (.int p1)] ∧ Z.Warmed39 U.vm ∧ U.heap = h0 ∧ CHv Z consts_1 U.vm h0) (fun _ _ _ _ _ => True) (fun _ U out_ U' => ∃ val_ loc_, out_ = .returned val_ ∧ (Q_rm0 Z p0 p1 cz fm h0 n0) val_ U'.heap loc_ ∧ CHr Z consts_1 U.vm U.heap U'.vm U'.heap ∧ ReturnedEndW U out_ U' loc_ 12 34) := by
  refine startW (Q := (Q_rm0 Z p0 p1 cz fm h0 n0)) (show plainFor x = true from pn_24) ?_
  intro p e s m below meth c T0 X0 hx hby hml hown hnm hret hlk hZ e0 hS CR
  have hk : 0 ≤ h0.size := Nat.zero_le _
  have wS : ∀ a ∈ Bundle.stringAtoms, a.before a0 Z = true := own_wS hw
  replace hown : s.vm.findClass "com/example/goldpage/goldpage/golden/LineFieldsEndPinLaw" = some m.cls := hown
  replace hml : c.maxLocals = 9 := hml
  refine goAt (ef_rm0 m p0 p1 ) ?_
  have N0 := Fr.nil n0
  have hws : ∀ d ∈ StrChars.Road.words, d.before a0 Z = true := fun d hd => hw d ((by decide +kernel : ∀ d ∈ StrChars.Road.words, d ∈ tables_1) d hd)
  show Go p e below T0 (mkF m 0 #[.val (.int p0), .val (.int p1), .unset, .unset, .unset, .unset, .unset, .unset, .unset] []) _
  refine stp (fun _ => XS.iconst X0.here hx rfl (hb hby at_0)) ?_
  show Go p e below T0 (mkF m 1 #[.val (.int p0), .val (.int p1), .unset, .unset, .unset, .unset, .unset, .unset, .unset] [(.int (4 : Int32))]) _
  obtain ⟨T1, h1, k1, X1, e1, E1, A1, B1, st1⟩ := newPE X0 hx hZ (hw _ (List.mem_of_getElem? (i := 0) rfl)) e0 (g := (mkF m 1 #[.val (.int p0), .val (.int p1), .unset, .unset, .unset, .unset, .unset, .unset, .unset] [(.int (4 : Int32))])) rfl (hb hby at_1) rfl (by decide) (cap := 4) (by decide) (by decide) (by decide) (by decide) (ad := "[C") (by decide)
  obtain ⟨b1, g1⟩ : ∃ z, z = h0.size := ⟨_, rfl⟩
  rw [← g1] at A1 B1 st1
  have sz_b1 : h0.size ≤ b1 := Nat.le_trans (Keep.refl h0 []).1 (Nat.le_of_eq g1.symm)
  have ge_b1 : n0 ≤ b1 := Nat.le_trans (old_le O0) (Nat.le_of_eq g1.symm)
  have hk := Nat.le_trans hk E1.1
  have CR := CR.trans (CHr.ext E1 CR.1)
  have K1 : Keep h0 h1 [] := (Keep.refl h0 []).ext E1
  have O1 := O0.ext E1
  have V1 : Arv Z h1 b1 k1 .char (4 : Int32) [(.int (0 : Int32)), (.int (0 : Int32)), (.int (0 : Int32)), (.int (0 : Int32))] (.int (0 : Int32)) := (Arv.new A1 (by decide)).pad (pad_rep [] (.int (0 : Int32)) 4)
  refine stp st1 ?_
  show Go p e below T1 (mkF m 3 #[.val (.int p0), .val (.int p1), .unset, .unset, .unset, .unset, .unset, .unset, .unset] [(.ref b1)]) _
  refine stp (fun _ => XS.astoreN X1.here hx rfl (hb hby at_3) rfl rfl (l' := #[.val (.int p0), .val (.int p1), .val (.ref b1), .unset, .unset, .unset, .unset, .unset, .unset]) rfl) ?_
  show Go p e below T1 (mkF m 4 #[.val (.int p0), .val (.int p1), .val (.ref b1), .unset, .unset, .unset, .unset, .unset, .unset] []) _
  refine stp (fun _ => XS.aloadN X1.here hx rfl (hb hby at_4) rfl rfl) ?_
  show Go p e below T1 (mkF m 5 #[.val (.int p0), .val (.int p1), .val (.ref b1), .unset, .unset, .unset, .unset, .unset, .unset] [(.ref b1)]) _
  refine stp (fun _ => XS.iconst X1.here hx rfl (hb hby at_5)) ?_
  show Go p e below T1 (mkF m 6 #[.val (.int p0), .val (.int p1), .val (.ref b1), .unset, .unset, .unset, .unset, .unset, .unset] [(.int (0 : Int32)), (.ref b1)]) _
  refine stp (fun _ => XS.iloadN X1.here hx rfl (hb hby at_6) rfl) ?_
  show Go p e below T1 (mkF m 7 #[.val (.int p0), .val (.int p1), .val (.ref b1), .unset, .unset, .unset, .unset, .unset, .unset] [(.int p0), (.int (0 : Int32)), (.ref b1)]) _
  refine stp (fun _ => XS.sipush X1.here hx rfl (hb hby at_7)) ?_
  show Go p e below T1 (mkF m 10 #[.val (.int p0), .val (.int p1), .val (.ref b1), .unset, .unset, .unset, .unset, .unset, .unset] [(.int (255 : Int32)), (.int p0), (.int (0 : Int32)), (.ref b1)]) _
  refine stp (fun _ => XS.iand X1.here hx rfl (hb hby at_10) rfl) ?_
  show Go p e below T1 (mkF m 11 #[.val (.int p0), .val (.int p1), .val (.ref b1), .unset, .unset, .unset, .unset, .unset, .unset] [(.int (p0 &&& (255 : Int32))), (.int (0 : Int32)), (.ref b1)]) _
  refine stp (fun _ => XS.i2c X1.here hx rfl (hb hby at_11) rfl) ?_
  show Go p e below T1 (mkF m 12 #[.val (.int p0), .val (.int p1), .val (.ref b1), .unset, .unset, .unset, .unset, .unset, .unset] [(.int ((p0 &&& (255 : Int32)).toUInt32.toUInt16.toUInt32.toInt32)), (.int (0 : Int32)), (.ref b1)]) _
  obtain ⟨cl2, Ar2, q2, S2, M2, H2, G2⟩ := (id V1)
  have in2 : ¬ ((0 : Int32) < 0 ∨ cl2.slots.size ≤ ((0 : Int32)).toNatClampNeg) := inb_of S2 ⟨by decide, by decide⟩
  obtain ⟨T2, h2, X2, e2, W2, st2⟩ := stC X1 hx hZ e1 Ar2 (j := (0 : Int32)) in2 (g := (mkF m 12 #[.val (.int p0), .val (.int p1), .val (.ref b1), .unset, .unset, .unset, .unset, .unset, .unset] [(.int ((p0 &&& (255 : Int32)).toUInt32.toUInt16.toUInt32.toInt32)), (.int (0 : Int32)), (.ref b1)])) rfl rfl (hb hby at_12)
  have V2 : Arv Z h2 b1 k1 .char (4 : Int32) [(.int ((p0 &&& (255 : Int32)).toUInt32.toUInt16.toUInt32.toInt32)), (.int (0 : Int32)), (.int (0 : Int32)), (.int (0 : Int32))] (.int (0 : Int32)) := Arv.set Ar2 q2 S2 M2 H2 G2 (ow_fits_char (char255 (own_char255 rfl))) (ow_wr_char (char255 (own_char255 rfl)) W2) 0 rfl (Nat.le_of_ble_eq_true rfl)
  have f3 := B1.wr W2
  have hk := Nat.le_trans hk (Keep.of_wr W2).1
  have CR := CR.trans (CHr.wr W2 (Safe.exa hZ.alike B1 (by decide) (by decide)) CR.1)
  have K2 : Keep h0 h2 [] := K1.wr W2 (Or.inr sz_b1)
  have O2 := O1.wr W2 ge_b1
  have N2 := Fr.snoc X2 N0 ge_b1
  refine stp st2 ?_
  show Go p e below T2 (mkF m 13 #[.val (.int p0), .val (.int p1), .val (.ref b1), .unset, .unset, .unset, .unset, .unset, .unset] []) _
  refine stp (fun _ => XS.aloadN X2.here hx rfl (hb hby at_13) rfl rfl) ?_
  show Go p e below T2 (mkF m 14 #[.val (.int p0), .val (.int p1), .val (.ref b1), .unset, .unset, .unset, .unset, .unset, .unset] [(.ref b1)]) _
  refine stp (fun _ => XS.iconst X2.here hx rfl (hb hby at_14)) ?_
  show Go p e below T2 (mkF m 15 #[.val (.int p0), .val (.int p1), .val (.ref b1), .unset, .unset, .unset, .unset, .unset, .unset] [(.int (1 : Int32)), (.ref b1)]) _
  refine stp (fun _ => XS.iloadN X2.here hx rfl (hb hby at_15) rfl) ?_
  show Go p e below T2 (mkF m 16 #[.val (.int p0), .val (.int p1), .val (.ref b1), .unset, .unset, .unset, .unset, .unset, .unset] [(.int p0), (.int (1 : Int32)), (.ref b1)]) _
  refine stp (fun _ => XS.bipush X2.here hx rfl (hb hby at_16)) ?_
  show Go p e below T2 (mkF m 18 #[.val (.int p0), .val (.int p1), .val (.ref b1), .unset, .unset, .unset, .unset, .unset, .unset] [(.int (8 : Int32)), (.int p0), (.int (1 : Int32)), (.ref b1)]) _
  refine stp (fun _ => XS.iushr X2.here hx rfl (hb hby at_18) rfl) ?_
  show Go p e below T2 (mkF m 19 #[.val (.int p0), .val (.int p1), .val (.ref b1), .unset, .unset, .unset, .unset, .unset, .unset] [(.int ((p0.toUInt32 >>> ((8 : Int32) &&& 31).toUInt32).toInt32)), (.int (1 : Int32)), (.ref b1)]) _
  refine stp (fun _ => XS.sipush X2.here hx rfl (hb hby at_19)) ?_
  show Go p e below T2 (mkF m 22 #[.val (.int p0), .val (.int p1), .val (.ref b1), .unset, .unset, .unset, .unset, .unset, .unset] [(.int (255 : Int32)), (.int ((p0.toUInt32 >>> ((8 : Int32) &&& 31).toUInt32).toInt32)), (.int (1 : Int32)), (.ref b1)]) _
  refine stp (fun _ => XS.iand X2.here hx rfl (hb hby at_22) rfl) ?_
  show Go p e below T2 (mkF m 23 #[.val (.int p0), .val (.int p1), .val (.ref b1), .unset, .unset, .unset, .unset, .unset, .unset] [(.int (((p0.toUInt32 >>> ((8 : Int32) &&& 31).toUInt32).toInt32) &&& (255 : Int32))), (.int (1 : Int32)), (.ref b1)]) _
  refine stp (fun _ => XS.i2c X2.here hx rfl (hb hby at_23) rfl) ?_
  show Go p e below T2 (mkF m 24 #[.val (.int p0), .val (.int p1), .val (.ref b1), .unset, .unset, .unset, .unset, .unset, .unset] [(.int ((((p0.toUInt32 >>> ((8 : Int32) &&& 31).toUInt32).toInt32) &&& (255 : Int32)).toUInt32.toUInt16.toUInt32.toInt32)), (.int (1 : Int32)), (.ref b1)]) _
  obtain ⟨cl5, Ar5, q5, S5, M5, H5, G5⟩ := (id V2)
  have in5 : ¬ ((1 : Int32) < 0 ∨ cl5.slots.size ≤ ((1 : Int32)).toNatClampNeg) := inb_of S5 ⟨by decide, by decide⟩
  obtain ⟨T5, h5, X5, e5, W5, st5⟩ := stC X2 hx hZ e2 Ar5 (j := (1 : Int32)) in5 (g := (mkF m 24 #[.val (.int p0), .val (.int p1), .val (.ref b1), .unset, .unset, .unset, .unset, .unset, .unset] [(.int ((((p0.toUInt32 >>> ((8 : Int32) &&& 31).toUInt32).toInt32) &&& (255 : Int32)).toUInt32.toUInt16.toUInt32.toInt32)), (.int (1 : Int32)), (.ref b1)])) rfl rfl (hb hby at_24)
  have V5 : Arv Z h5 b1 k1 .char (4 : Int32) [(.int ((p0 &&& (255 : Int32)).toUInt32.toUInt16.toUInt32.toInt32)), (.int ((((p0.toUInt32 >>> ((8 : Int32) &&& 31).toUInt32).toInt32) &&& (255 : Int32)).toUInt32.toUInt16.toUInt32.toInt32)), (.int (0 : Int32)), (.int (0 : Int32))] (.int (0 : Int32)) := Arv.set Ar5 q5 S5 M5 H5 G5 (ow_fits_char (char255 (own_char255 rfl))) (ow_wr_char (char255 (own_char255 rfl)) W5) 1 rfl (Nat.le_of_ble_eq_true rfl)
  have f6 := f3.wr W5
  have hk := Nat.le_trans hk (Keep.of_wr W5).1
  have CR := CR.trans (CHr.wr W5 (Safe.exa hZ.alike f3 (by decide) (by decide)) CR.1)
  have K5 : Keep h0 h5 [] := K2.wr W5 (Or.inr sz_b1)
  have O5 := O2.wr W5 ge_b1
  have N5 := Fr.snoc X5 N2 ge_b1
  refine stp st5 ?_
  show Go p e below T5 (mkF m 25 #[.val (.int p0), .val (.int p1), .val (.ref b1), .unset, .unset, .unset, .unset, .unset, .unset] []) _
  refine stp (fun _ => XS.aloadN X5.here hx rfl (hb hby at_25) rfl rfl) ?_
  show Go p e below T5 (mkF m 26 #[.val (.int p0), .val (.int p1), .val (.ref b1), .unset, .unset, .unset, .unset, .unset, .unset] [(.ref b1)]) _
  refine stp (fun _ => XS.iconst X5.here hx rfl (hb hby at_26)) ?_
  show Go p e below T5 (mkF m 27 #[.val (.int p0), .val (.int p1), .val (.ref b1), .unset, .unset, .unset, .unset, .unset, .unset] [(.int (2 : Int32)), (.ref b1)]) _
  refine stp (fun _ => XS.iloadN X5.here hx rfl (hb hby at_27) rfl) ?_
  show Go p e below T5 (mkF m 28 #[.val (.int p0), .val (.int p1), .val (.ref b1), .unset, .unset, .unset, .unset, .unset, .unset] [(.int p0), (.int (2 : Int32)), (.ref b1)]) _
  refine stp (fun _ => XS.bipush X5.here hx rfl (hb hby at_28)) ?_
  show Go p e below T5 (mkF m 30 #[.val (.int p0), .val (.int p1), .val (.ref b1), .unset, .unset, .unset, .unset, .unset, .unset] [(.int (16 : Int32)), (.int p0), (.int (2 : Int32)), (.ref b1)]) _
  refine stp (fun _ => XS.iushr X5.here hx rfl (hb hby at_30) rfl) ?_
  show Go p e below T5 (mkF m 31 #[.val (.int p0), .val (.int p1), .val (.ref b1), .unset, .unset, .unset, .unset, .unset, .unset] [(.int ((p0.toUInt32 >>> ((16 : Int32) &&& 31).toUInt32).toInt32)), (.int (2 : Int32)), (.ref b1)]) _
  refine stp (fun _ => XS.sipush X5.here hx rfl (hb hby at_31)) ?_
  show Go p e below T5 (mkF m 34 #[.val (.int p0), .val (.int p1), .val (.ref b1), .unset, .unset, .unset, .unset, .unset, .unset] [(.int (255 : Int32)), (.int ((p0.toUInt32 >>> ((16 : Int32) &&& 31).toUInt32).toInt32)), (.int (2 : Int32)), (.ref b1)]) _
  refine stp (fun _ => XS.iand X5.here hx rfl (hb hby at_34) rfl) ?_
  show Go p e below T5 (mkF m 35 #[.val (.int p0), .val (.int p1), .val (.ref b1), .unset, .unset, .unset, .unset, .unset, .unset] [(.int (((p0.toUInt32 >>> ((16 : Int32) &&& 31).toUInt32).toInt32) &&& (255 : Int32))), (.int (2 : Int32)), (.ref b1)]) _
  refine stp (fun _ => XS.i2c X5.here hx rfl (hb hby at_35) rfl) ?_
  show Go p e below T5 (mkF m 36 #[.val (.int p0), .val (.int p1), .val (.ref b1), .unset, .unset, .unset, .unset, .unset, .unset] [(.int ((((p0.toUInt32 >>> ((16 : Int32) &&& 31).toUInt32).toInt32) &&& (255 : Int32)).toUInt32.toUInt16.toUInt32.toInt32)), (.int (2 : Int32)), (.ref b1)]) _
  obtain ⟨cl8, Ar8, q8, S8, M8, H8, G8⟩ := (id V5)
  have in8 : ¬ ((2 : Int32) < 0 ∨ cl8.slots.size ≤ ((2 : Int32)).toNatClampNeg) := inb_of S8 ⟨by decide, by decide⟩
  obtain ⟨T8, h8, X8, e8, W8, st8⟩ := stC X5 hx hZ e5 Ar8 (j := (2 : Int32)) in8 (g := (mkF m 36 #[.val (.int p0), .val (.int p1), .val (.ref b1), .unset, .unset, .unset, .unset, .unset, .unset] [(.int ((((p0.toUInt32 >>> ((16 : Int32) &&& 31).toUInt32).toInt32) &&& (255 : Int32)).toUInt32.toUInt16.toUInt32.toInt32)), (.int (2 : Int32)), (.ref b1)])) rfl rfl (hb hby at_36)
  have V8 : Arv Z h8 b1 k1 .char (4 : Int32) [(.int ((p0 &&& (255 : Int32)).toUInt32.toUInt16.toUInt32.toInt32)), (.int ((((p0.toUInt32 >>> ((8 : Int32) &&& 31).toUInt32).toInt32) &&& (255 : Int32)).toUInt32.toUInt16.toUInt32.toInt32)), (.int ((((p0.toUInt32 >>> ((16 : Int32) &&& 31).toUInt32).toInt32) &&& (255 : Int32)).toUInt32.toUInt16.toUInt32.toInt32)), (.int (0 : Int32))] (.int (0 : Int32)) := Arv.set Ar8 q8 S8 M8 H8 G8 (ow_fits_char (char255 (own_char255 rfl))) (ow_wr_char (char255 (own_char255 rfl)) W8) 2 rfl (Nat.le_of_ble_eq_true rfl)
  have f9 := f6.wr W8
  have hk := Nat.le_trans hk (Keep.of_wr W8).1
  have CR := CR.trans (CHr.wr W8 (Safe.exa hZ.alike f6 (by decide) (by decide)) CR.1)
  have K8 : Keep h0 h8 [] := K5.wr W8 (Or.inr sz_b1)
  have O8 := O5.wr W8 ge_b1
  have N8 := Fr.snoc X8 N5 ge_b1
  refine stp st8 ?_
  show Go p e below T8 (mkF m 37 #[.val (.int p0), .val (.int p1), .val (.ref b1), .unset, .unset, .unset, .unset, .unset, .unset] []) _
  refine stp (fun _ => XS.aloadN X8.here hx rfl (hb hby at_37) rfl rfl) ?_
  show Go p e below T8 (mkF m 38 #[.val (.int p0), .val (.int p1), .val (.ref b1), .unset, .unset, .unset, .unset, .unset, .unset] [(.ref b1)]) _
  refine stp (fun _ => XS.iconst X8.here hx rfl (hb hby at_38)) ?_
  show Go p e below T8 (mkF m 39 #[.val (.int p0), .val (.int p1), .val (.ref b1), .unset, .unset, .unset, .unset, .unset, .unset] [(.int (3 : Int32)), (.ref b1)]) _
  refine stp (fun _ => XS.iloadN X8.here hx rfl (hb hby at_39) rfl) ?_
  show Go p e below T8 (mkF m 40 #[.val (.int p0), .val (.int p1), .val (.ref b1), .unset, .unset, .unset, .unset, .unset, .unset] [(.int p0), (.int (3 : Int32)), (.ref b1)]) _
  refine stp (fun _ => XS.bipush X8.here hx rfl (hb hby at_40)) ?_
  show Go p e below T8 (mkF m 42 #[.val (.int p0), .val (.int p1), .val (.ref b1), .unset, .unset, .unset, .unset, .unset, .unset] [(.int (24 : Int32)), (.int p0), (.int (3 : Int32)), (.ref b1)]) _
  refine stp (fun _ => XS.iushr X8.here hx rfl (hb hby at_42) rfl) ?_
  show Go p e below T8 (mkF m 43 #[.val (.int p0), .val (.int p1), .val (.ref b1), .unset, .unset, .unset, .unset, .unset, .unset] [(.int ((p0.toUInt32 >>> ((24 : Int32) &&& 31).toUInt32).toInt32)), (.int (3 : Int32)), (.ref b1)]) _
  refine stp (fun _ => XS.sipush X8.here hx rfl (hb hby at_43)) ?_
  show Go p e below T8 (mkF m 46 #[.val (.int p0), .val (.int p1), .val (.ref b1), .unset, .unset, .unset, .unset, .unset, .unset] [(.int (255 : Int32)), (.int ((p0.toUInt32 >>> ((24 : Int32) &&& 31).toUInt32).toInt32)), (.int (3 : Int32)), (.ref b1)]) _
  refine stp (fun _ => XS.iand X8.here hx rfl (hb hby at_46) rfl) ?_
  show Go p e below T8 (mkF m 47 #[.val (.int p0), .val (.int p1), .val (.ref b1), .unset, .unset, .unset, .unset, .unset, .unset] [(.int (((p0.toUInt32 >>> ((24 : Int32) &&& 31).toUInt32).toInt32) &&& (255 : Int32))), (.int (3 : Int32)), (.ref b1)]) _
  refine stp (fun _ => XS.i2c X8.here hx rfl (hb hby at_47) rfl) ?_
  show Go p e below T8 (mkF m 48 #[.val (.int p0), .val (.int p1), .val (.ref b1), .unset, .unset, .unset, .unset, .unset, .unset] [(.int ((((p0.toUInt32 >>> ((24 : Int32) &&& 31).toUInt32).toInt32) &&& (255 : Int32)).toUInt32.toUInt16.toUInt32.toInt32)), (.int (3 : Int32)), (.ref b1)]) _
  obtain ⟨cl11, Ar11, q11, S11, M11, H11, G11⟩ := (id V8)
  have in11 : ¬ ((3 : Int32) < 0 ∨ cl11.slots.size ≤ ((3 : Int32)).toNatClampNeg) := inb_of S11 ⟨by decide, by decide⟩
  obtain ⟨T11, h11, X11, e11, W11, st11⟩ := stC X8 hx hZ e8 Ar11 (j := (3 : Int32)) in11 (g := (mkF m 48 #[.val (.int p0), .val (.int p1), .val (.ref b1), .unset, .unset, .unset, .unset, .unset, .unset] [(.int ((((p0.toUInt32 >>> ((24 : Int32) &&& 31).toUInt32).toInt32) &&& (255 : Int32)).toUInt32.toUInt16.toUInt32.toInt32)), (.int (3 : Int32)), (.ref b1)])) rfl rfl (hb hby at_48)
  have V11 : Arv Z h11 b1 k1 .char (4 : Int32) [(.int ((p0 &&& (255 : Int32)).toUInt32.toUInt16.toUInt32.toInt32)), (.int ((((p0.toUInt32 >>> ((8 : Int32) &&& 31).toUInt32).toInt32) &&& (255 : Int32)).toUInt32.toUInt16.toUInt32.toInt32)), (.int ((((p0.toUInt32 >>> ((16 : Int32) &&& 31).toUInt32).toInt32) &&& (255 : Int32)).toUInt32.toUInt16.toUInt32.toInt32)), (.int ((((p0.toUInt32 >>> ((24 : Int32) &&& 31).toUInt32).toInt32) &&& (255 : Int32)).toUInt32.toUInt16.toUInt32.toInt32))] (.int (0 : Int32)) := Arv.set Ar11 q11 S11 M11 H11 G11 (ow_fits_char (char255 (own_char255 rfl))) (ow_wr_char (char255 (own_char255 rfl)) W11) 3 rfl (Nat.le_of_ble_eq_true rfl)
  have f12 := f9.wr W11
  have hk := Nat.le_trans hk (Keep.of_wr W11).1
  have CR := CR.trans (CHr.wr W11 (Safe.exa hZ.alike f9 (by decide) (by decide)) CR.1)
  have K11 : Keep h0 h11 [] := K8.wr W11 (Or.inr sz_b1)
  have O11 := O8.wr W11 ge_b1
  have N11 := Fr.snoc X11 N8 ge_b1
  refine stp st11 ?_
  show Go p e below T11 (mkF m 49 #[.val (.int p0), .val (.int p1), .val (.ref b1), .unset, .unset, .unset, .unset, .unset, .unset] []) _
  obtain ⟨x0, hx0⟩ : ∃ z : Int32, z = ((p0 &&& (255 : Int32)).toUInt32.toUInt16.toUInt32.toInt32) := ⟨_, rfl⟩
  obtain ⟨x1, hx1⟩ : ∃ z : Int32, z = ((((p0.toUInt32 >>> ((8 : Int32) &&& 31).toUInt32).toInt32) &&& (255 : Int32)).toUInt32.toUInt16.toUInt32.toInt32) := ⟨_, rfl⟩
  obtain ⟨x2, hx2⟩ : ∃ z : Int32, z = ((((p0.toUInt32 >>> ((16 : Int32) &&& 31).toUInt32).toInt32) &&& (255 : Int32)).toUInt32.toUInt16.toUInt32.toInt32) := ⟨_, rfl⟩
  obtain ⟨x3, hx3⟩ : ∃ z : Int32, z = ((((p0.toUInt32 >>> ((24 : Int32) &&& 31).toUInt32).toInt32) &&& (255 : Int32)).toUInt32.toUInt16.toUInt32.toInt32) := ⟨_, rfl⟩
  have V14 : Arv Z h11 b1 k1 .char (4 : Int32) [(.int x0), (.int x1), (.int x2), (.int x3)] (.int (0 : Int32)) := by rw [hx0, hx1, hx2, hx3]; exact V11
  replace hx0 := own_char255 hx0
  replace hx1 := own_char255 hx1
  replace hx2 := own_char255 hx2
  replace hx3 := own_char255 hx3
  refine stp (fun _ => XS.iloadN X11.here hx rfl (hb hby at_49) rfl) ?_
  show Go p e below T11 (mkF m 50 #[.val (.int p0), .val (.int p1), .val (.ref b1), .unset, .unset, .unset, .unset, .unset, .unset] [(.int p1)]) _
  refine stp (fun _ => XS.bipush X11.here hx rfl (hb hby at_50)) ?_
  show Go p e below T11 (mkF m 52 #[.val (.int p0), .val (.int p1), .val (.ref b1), .unset, .unset, .unset, .unset, .unset, .unset] [(.int (7 : Int32)), (.int p1)]) _
  refine stp (fun _ => XS.iand X11.here hx rfl (hb hby at_52) rfl) ?_
  show Go p e below T11 (mkF m 53 #[.val (.int p0), .val (.int p1), .val (.ref b1), .unset, .unset, .unset, .unset, .unset, .unset] [(.int (p1 &&& (7 : Int32)))]) _
  refine stp (fun _ => XS.iconst X11.here hx rfl (hb hby at_53)) ?_
  show Go p e below T11 (mkF m 54 #[.val (.int p0), .val (.int p1), .val (.ref b1), .unset, .unset, .unset, .unset, .unset, .unset] [(.int (5 : Int32)), (.int (p1 &&& (7 : Int32)))]) _
  refine stp (fun _ => iremM X11 hx rfl (hb hby at_54) rfl (by decide)) ?_
  show Go p e below T11 (mkF m 55 #[.val (.int p0), .val (.int p1), .val (.ref b1), .unset, .unset, .unset, .unset, .unset, .unset] [(.int ((p1 &&& (7 : Int32)) % (5 : Int32)))]) _
  refine stp (fun _ => XS.istoreN X11.here hx rfl (hb hby at_55) rfl (l' := #[.val (.int p0), .val (.int p1), .val (.ref b1), .val (.int ((p1 &&& (7 : Int32)) % (5 : Int32))), .unset, .unset, .unset, .unset, .unset]) rfl) ?_
  show Go p e below T11 (mkF m 56 #[.val (.int p0), .val (.int p1), .val (.ref b1), .val (.int ((p1 &&& (7 : Int32)) % (5 : Int32))), .unset, .unset, .unset, .unset, .unset] []) _
  obtain ⟨ln, hln⟩ : ∃ z : Int32, z = ((p1 &&& (7 : Int32)) % (5 : Int32)) := ⟨_, rfl⟩
  rw [← hln]
  show Go p e below T11 (mkF m 56 #[.val (.int p0), .val (.int p1), .val (.ref b1), .val (.int ln), .unset, .unset, .unset, .unset, .unset] []) _
  replace hln := own_ln hln
  refine stp (fun _ => XS.iloadN X11.here hx rfl (hb hby at_56) rfl) ?_
  show Go p e below T11 (mkF m 57 #[.val (.int p0), .val (.int p1), .val (.ref b1), .val (.int ln), .unset, .unset, .unset, .unset, .unset] [(.int p1)]) _
  refine stp (fun _ => XS.iconst X11.here hx rfl (hb hby at_57)) ?_
  show Go p e below T11 (mkF m 58 #[.val (.int p0), .val (.int p1), .val (.ref b1), .val (.int ln), .unset, .unset, .unset, .unset, .unset] [(.int (3 : Int32)), (.int p1)]) _
  refine stp (fun _ => XS.iushr X11.here hx rfl (hb hby at_58) rfl) ?_
  show Go p e below T11 (mkF m 59 #[.val (.int p0), .val (.int p1), .val (.ref b1), .val (.int ln), .unset, .unset, .unset, .unset, .unset] [(.int ((p1.toUInt32 >>> ((3 : Int32) &&& 31).toUInt32).toInt32))]) _
  refine stp (fun _ => XS.bipush X11.here hx rfl (hb hby at_59)) ?_
  show Go p e below T11 (mkF m 61 #[.val (.int p0), .val (.int p1), .val (.ref b1), .val (.int ln), .unset, .unset, .unset, .unset, .unset] [(.int (7 : Int32)), (.int ((p1.toUInt32 >>> ((3 : Int32) &&& 31).toUInt32).toInt32))]) _
  refine stp (fun _ => XS.iand X11.here hx rfl (hb hby at_61) rfl) ?_
  show Go p e below T11 (mkF m 62 #[.val (.int p0), .val (.int p1), .val (.ref b1), .val (.int ln), .unset, .unset, .unset, .unset, .unset] [(.int (((p1.toUInt32 >>> ((3 : Int32) &&& 31).toUInt32).toInt32) &&& (7 : Int32)))]) _
  refine stp (fun _ => XS.iloadN X11.here hx rfl (hb hby at_62) rfl) ?_
  show Go p e below T11 (mkF m 63 #[.val (.int p0), .val (.int p1), .val (.ref b1), .val (.int ln), .unset, .unset, .unset, .unset, .unset] [(.int ln), (.int (((p1.toUInt32 >>> ((3 : Int32) &&& 31).toUInt32).toInt32) &&& (7 : Int32)))]) _
  refine stp (fun _ => XS.iconst X11.here hx rfl (hb hby at_63)) ?_
  show Go p e below T11 (mkF m 64 #[.val (.int p0), .val (.int p1), .val (.ref b1), .val (.int ln), .unset, .unset, .unset, .unset, .unset] [(.int (1 : Int32)), (.int ln), (.int (((p1.toUInt32 >>> ((3 : Int32) &&& 31).toUInt32).toInt32) &&& (7 : Int32)))]) _
  refine stp (fun _ => XS.iadd X11.here hx rfl (hb hby at_64) rfl) ?_
  show Go p e below T11 (mkF m 65 #[.val (.int p0), .val (.int p1), .val (.ref b1), .val (.int ln), .unset, .unset, .unset, .unset, .unset] [(.int (ln + (1 : Int32))), (.int (((p1.toUInt32 >>> ((3 : Int32) &&& 31).toUInt32).toInt32) &&& (7 : Int32)))]) _
  refine stp (fun _ => iremM X11 hx rfl (hb hby at_65) rfl (own_ln1 hln)) ?_
  show Go p e below T11 (mkF m 66 #[.val (.int p0), .val (.int p1), .val (.ref b1), .val (.int ln), .unset, .unset, .unset, .unset, .unset] [(.int ((((p1.toUInt32 >>> ((3 : Int32) &&& 31).toUInt32).toInt32) &&& (7 : Int32)) % (ln + (1 : Int32))))]) _
  refine stp (fun _ => XS.istore X11.here hx rfl (hb hby at_66) rfl (l' := #[.val (.int p0), .val (.int p1), .val (.ref b1), .val (.int ln), .val (.int ((((p1.toUInt32 >>> ((3 : Int32) &&& 31).toUInt32).toInt32) &&& (7 : Int32)) % (ln + (1 : Int32)))), .unset, .unset, .unset, .unset]) rfl) ?_
  show Go p e below T11 (mkF m 68 #[.val (.int p0), .val (.int p1), .val (.ref b1), .val (.int ln), .val (.int ((((p1.toUInt32 >>> ((3 : Int32) &&& 31).toUInt32).toInt32) &&& (7 : Int32)) % (ln + (1 : Int32)))), .unset, .unset, .unset, .unset] []) _
  obtain ⟨pp, hpp⟩ : ∃ z : Int32, z = ((((p1.toUInt32 >>> ((3 : Int32) &&& 31).toUInt32).toInt32) &&& (7 : Int32)) % (ln + (1 : Int32))) := ⟨_, rfl⟩
  rw [← hpp]
  show Go p e below T11 (mkF m 68 #[.val (.int p0), .val (.int p1), .val (.ref b1), .val (.int ln), .val (.int pp), .unset, .unset, .unset, .unset] []) _
  replace hpp := own_pp hln hpp
  refine stp (fun _ => XS.aloadN X11.here hx rfl (hb hby at_68) rfl rfl) ?_
  show Go p e below T11 (mkF m 69 #[.val (.int p0), .val (.int p1), .val (.ref b1), .val (.int ln), .val (.int pp), .unset, .unset, .unset, .unset] [(.ref b1)]) _
  refine stp (fun _ => XS.iconst X11.here hx rfl (hb hby at_69)) ?_
  show Go p e below T11 (mkF m 70 #[.val (.int p0), .val (.int p1), .val (.ref b1), .val (.int ln), .val (.int pp), .unset, .unset, .unset, .unset] [(.int (0 : Int32)), (.ref b1)]) _
  refine stp (fun _ => XS.iloadN X11.here hx rfl (hb hby at_70) rfl) ?_
  show Go p e below T11 (mkF m 71 #[.val (.int p0), .val (.int p1), .val (.ref b1), .val (.int ln), .val (.int pp), .unset, .unset, .unset, .unset] [(.int ln), (.int (0 : Int32)), (.ref b1)]) _
  obtain ⟨_, _, ⟨T15, L15, k15, n15⟩, -, X15, hS15, gg15, ⟨Lc15, hQ15, l15, y15, z15, CRn15⟩, st15⟩ := callSS X11 hx (y := (⟨"com/example/goldpage/goldpage/golden/LineFieldsEndPinLaw", "take", "([CII)Ljava/lang/String;"⟩ : MethodName)) hown (mvT hZ (hw _ (List.mem_of_getElem? (i := 1) rfl))) (mvT hZ (hw _ (List.mem_of_getElem? (i := 2) rfl))) (mvT hZ (hw _ (List.mem_of_getElem? (i := 3) rfl))) (mvT hZ (hw _ (List.mem_of_getElem? (i := 4) rfl))) (by decide) (backOfSH (W := 0) (rm_take l Z a0 hw [] b1 (0 : Int32) ln x0 x1 x2 x3 cz k1 h11 n0 O11 hEL V14 S_CS hcz hx0 hx1 hx2 hx3 (own_fit0 hln)) hZ (hw _ (List.mem_of_getElem? (i := 4) rfl)) (hw _ (List.mem_of_getElem? (i := 3) rfl)) (by decide) (by decide) hEL CR.1) (g := (mkF m 71 #[.val (.int p0), .val (.int p1), .val (.ref b1), .val (.int ln), .val (.int pp), .unset, .unset, .unset, .unset] [(.int ln), (.int (0 : Int32)), (.ref b1)])) rfl (by rw [hml]; rfl) (argsL := [(.ref b1), (.int (0 : Int32)), (.int ln)]) (rest := []) (lenOf pd_18 rfl) rfl (by show 2 * 0 + _ ≤ _; exact Nat.le_of_eq rfl) (hb hby at_71) (fun _ _ => ⟨rfl, e11, (by decide : 1 + 4 ≤ _), (by decide : 4 + 12 ≤ _)⟩)
  dsimp only [Pt.U, Pt.locs, Pt.cells, Pt.slots] at X15 hS15 gg15 l15 y15 z15 st15 hQ15 CRn15
  subst y15 z15
  obtain ⟨X15, hS, hZ, hown⟩ := rebS hS (by rw [e11]; exact hk) X15 hS15 gg15 hZ hown
  obtain ⟨r15, rfl, N15q, K15q, ⟨ge_r15, sz15_r15⟩, r15_0⟩ := hQ15
  have N15 : Fr n0 L15 := by rw [l15]; exact Fr.app N11 N15q
  have ne16 : b1 ≠ r15 := Nat.ne_of_lt (Nat.lt_of_lt_of_le f12.lt sz15_r15)
  have f17 := f12.keep K15q
  have f18 := V14.keep K15q nin0
  have sz_r15 : h0.size ≤ r15 := Nat.le_trans K11.1 sz15_r15
  have K15 : Keep h0 T15.heap [] := K11.trans K15q all0
  have O15 := O11.keep K15q all0
  have hk : T15.heap.size ≤ T15.heap.size := Nat.le_refl _
  have CR := CR.trans CRn15
  refine stt st15 ?_
  show Go p e below T15 (mkF m 74 #[.val (.int p0), .val (.int p1), .val (.ref b1), .val (.int ln), .val (.int pp), .unset, .unset, .unset, .unset] [(.ref r15)]) _
  refine stp (fun _ => XS.astore X15.here hx rfl (hb hby at_74) rfl rfl (l' := #[.val (.int p0), .val (.int p1), .val (.ref b1), .val (.int ln), .val (.int pp), .val (.ref r15), .unset, .unset, .unset]) rfl) ?_
  show Go p e below T15 (mkF m 76 #[.val (.int p0), .val (.int p1), .val (.ref b1), .val (.int ln), .val (.int pp), .val (.ref r15), .unset, .unset, .unset] []) _
  refine stp (fun _ => XS.aloadN X15.here hx rfl (hb hby at_76) rfl rfl) ?_
  show Go p e below T15 (mkF m 77 #[.val (.int p0), .val (.int p1), .val (.ref b1), .val (.int ln), .val (.int pp), .val (.ref r15), .unset, .unset, .unset] [(.ref b1)]) _
  refine stp (fun _ => XS.iload X15.here hx rfl (hb hby at_77) rfl) ?_
  show Go p e below T15 (mkF m 79 #[.val (.int p0), .val (.int p1), .val (.ref b1), .val (.int ln), .val (.int pp), .val (.ref r15), .unset, .unset, .unset] [(.int pp), (.ref b1)]) _
  refine stp (fun _ => XS.iloadN X15.here hx rfl (hb hby at_79) rfl) ?_
  show Go p e below T15 (mkF m 80 #[.val (.int p0), .val (.int p1), .val (.ref b1), .val (.int ln), .val (.int pp), .val (.ref r15), .unset, .unset, .unset] [(.int ln), (.int pp), (.ref b1)]) _
  refine stp (fun _ => XS.iload X15.here hx rfl (hb hby at_80) rfl) ?_
  show Go p e below T15 (mkF m 82 #[.val (.int p0), .val (.int p1), .val (.ref b1), .val (.int ln), .val (.int pp), .val (.ref r15), .unset, .unset, .unset] [(.int pp), (.int ln), (.int pp), (.ref b1)]) _
  refine stp (fun _ => XS.isub X15.here hx rfl (hb hby at_82) rfl) ?_
  show Go p e below T15 (mkF m 83 #[.val (.int p0), .val (.int p1), .val (.ref b1), .val (.int ln), .val (.int pp), .val (.ref r15), .unset, .unset, .unset] [(.int (ln - pp)), (.int pp), (.ref b1)]) _
  obtain ⟨_, _, ⟨T19, L19, k19, n19⟩, -, X19, hS19, gg19, ⟨Lc19, hQ19, l19, y19, z19, CRn19⟩, st19⟩ := callSS X15 hx (y := (⟨"com/example/goldpage/goldpage/golden/LineFieldsEndPinLaw", "take", "([CII)Ljava/lang/String;"⟩ : MethodName)) hown (mvT hZ (hw _ (List.mem_of_getElem? (i := 1) rfl))) (mvT hZ (hw _ (List.mem_of_getElem? (i := 2) rfl))) (mvT hZ (hw _ (List.mem_of_getElem? (i := 3) rfl))) (mvT hZ (hw _ (List.mem_of_getElem? (i := 4) rfl))) (by decide) (backOfSH (W := 0) (rm_take l Z a0 hw [] b1 pp (ln - pp) x0 x1 x2 x3 cz k1 T15.heap n0 O15 hEL f18 S_CS hcz hx0 hx1 hx2 hx3 (own_fit1 hpp)) hZ (hw _ (List.mem_of_getElem? (i := 4) rfl)) (hw _ (List.mem_of_getElem? (i := 3) rfl)) (by decide) (by decide) hEL CR.1) (g := (mkF m 83 #[.val (.int p0), .val (.int p1), .val (.ref b1), .val (.int ln), .val (.int pp), .val (.ref r15), .unset, .unset, .unset] [(.int (ln - pp)), (.int pp), (.ref b1)])) rfl (by rw [hml]; rfl) (argsL := [(.ref b1), (.int pp), (.int (ln - pp))]) (rest := []) (lenOf pd_18 rfl) rfl (by show 2 * 0 + _ ≤ _; exact Nat.le_of_eq rfl) (hb hby at_83) (fun _ _ => ⟨rfl, rfl, (by decide : 5 + 4 ≤ _), (by decide : 16 + 12 ≤ _)⟩)
  dsimp only [Pt.U, Pt.locs, Pt.cells, Pt.slots] at X19 hS19 gg19 l19 y19 z19 st19 hQ19 CRn19
  subst y19 z19
  obtain ⟨X19, hS, hZ, hown⟩ := rebS hS hk X19 hS19 gg19 hZ hown
  obtain ⟨r19, rfl, N19q, K19q, ⟨ge_r19, sz19_r19⟩, r19_0⟩ := hQ19
  have N19 : Fr n0 L19 := by rw [l19]; exact Fr.app N15 N19q
  have ne20 : b1 ≠ r19 := Nat.ne_of_lt (Nat.lt_of_lt_of_le f17.lt sz19_r19)
  have ne21 : r15 ≠ r19 := Nat.ne_of_lt (Nat.lt_of_lt_of_le r15_0.lt sz19_r19)
  have f22 := f17.keep K19q
  have f23 := f18.keep K19q nin0
  have f24 := r15_0.keep K19q nin0 apart0
  have f25 := r15_0.exa.keep K19q
  have sz_r19 : h0.size ≤ r19 := Nat.le_trans K15.1 sz19_r19
  have K19 : Keep h0 T19.heap [] := K15.trans K19q all0
  have O19 := O15.keep K19q all0
  have hk : T19.heap.size ≤ T19.heap.size := Nat.le_refl _
  have CR := CR.trans CRn19
  refine stt st19 ?_
  show Go p e below T19 (mkF m 86 #[.val (.int p0), .val (.int p1), .val (.ref b1), .val (.int ln), .val (.int pp), .val (.ref r15), .unset, .unset, .unset] [(.ref r19)]) _
  refine stp (fun _ => XS.astore X19.here hx rfl (hb hby at_86) rfl rfl (l' := #[.val (.int p0), .val (.int p1), .val (.ref b1), .val (.int ln), .val (.int pp), .val (.ref r15), .val (.ref r19), .unset, .unset]) rfl) ?_
  show Go p e below T19 (mkF m 88 #[.val (.int p0), .val (.int p1), .val (.ref b1), .val (.int ln), .val (.int pp), .val (.ref r15), .val (.ref r19), .unset, .unset] []) _
  obtain ⟨T26, h26, X26, e26, E26, A26, D26, -, st26⟩ := newO X19 hx hZ hown (hw _ (List.mem_of_getElem? (i := 34) rfl)) (hw _ (List.mem_of_getElem? (i := 35) rfl)) (hw _ (List.mem_of_getElem? (i := 36) rfl)) rfl (g := (mkF m 88 #[.val (.int p0), .val (.int p1), .val (.ref b1), .val (.int ln), .val (.int pp), .val (.ref r15), .val (.ref r19), .unset, .unset] [])) rfl (hb hby at_88) (by decide) (by decide)
  obtain ⟨b26, g26⟩ : ∃ z, z = T19.heap.size := ⟨_, rfl⟩
  rw [← g26] at A26 D26 st26
  have ne27 : b1 ≠ b26 := Nat.ne_of_lt (Nat.lt_of_lt_of_le f22.lt (Nat.le_of_eq g26.symm))
  have ne28 : r15 ≠ b26 := Nat.ne_of_lt (Nat.lt_of_lt_of_le f24.lt (Nat.le_of_eq g26.symm))
  have ne29 : r19 ≠ b26 := Nat.ne_of_lt (Nat.lt_of_lt_of_le r19_0.lt (Nat.le_of_eq g26.symm))
  have sz_b26 : h0.size ≤ b26 := Nat.le_trans K19.1 (Nat.le_of_eq g26.symm)
  have ge_b26 : n0 ≤ b26 := Nat.le_trans (old_le O19) (Nat.le_of_eq g26.symm)
  have f30 := f22.ext E26
  have f31 := f23.ext E26
  have f32 := f24.ext E26
  have f33 := f25.ext E26
  have f34 := r19_0.ext E26
  have f35 := r19_0.exa.ext E26
  have hk := Nat.le_trans hk E26.1
  have CR := CR.trans (CHr.ext E26 CR.1)
  have K26 : Keep h0 h26 [] := K19.ext E26
  have O26 := O19.ext E26
  have F36 : Fld Z h26 b26 "com/example/goldpage/goldpage/golden/LineFields" "line" "Ljava/lang/String;" .null := D26 (Or.inr (hw _ (List.mem_of_getElem? (i := 42) rfl))) (ty := (.object "java/lang/String")) (by decide)
  have F37 : Fld Z h26 b26 "com/example/goldpage/goldpage/golden/LineFields" "next" "I" (.int (0 : Int32)) := D26 (Or.inl (hw _ (List.mem_of_getElem? (i := 44) rfl))) (ty := .int) (by decide)
  refine stp st26 ?_
  show Go p e below T26 (mkF m 91 #[.val (.int p0), .val (.int p1), .val (.ref b1), .val (.int ln), .val (.int pp), .val (.ref r15), .val (.ref r19), .unset, .unset] [(.ref b26)]) _
  refine stp (fun _ => XS.dup X26.here hx rfl (hb hby at_91) rfl rfl) ?_
  show Go p e below T26 (mkF m 92 #[.val (.int p0), .val (.int p1), .val (.ref b1), .val (.int ln), .val (.int pp), .val (.ref r15), .val (.ref r19), .unset, .unset] [(.ref b26), (.ref b26)]) _
  refine stp (fun _ => XS.aload X26.here hx rfl (hb hby at_92) rfl rfl) ?_
  show Go p e below T26 (mkF m 94 #[.val (.int p0), .val (.int p1), .val (.ref b1), .val (.int ln), .val (.int pp), .val (.ref r15), .val (.ref r19), .unset, .unset] [(.ref r15), (.ref b26), (.ref b26)]) _
  refine stp (fun _ => XS.iload X26.here hx rfl (hb hby at_94) rfl) ?_
  show Go p e below T26 (mkF m 96 #[.val (.int p0), .val (.int p1), .val (.ref b1), .val (.int ln), .val (.int pp), .val (.ref r15), .val (.ref r19), .unset, .unset] [(.int pp), (.ref r15), (.ref b26), (.ref b26)]) _
  obtain ⟨_, _, ⟨T38, L38, k38, n38⟩, -, X38, ⟨Lc38, hQ38, l38, y38, z38⟩, st38⟩ := X26.specialBack hx (y := (⟨"com/example/goldpage/goldpage/golden/LineFields", "<init>", "(Ljava/lang/String;I)V"⟩ : MethodName)) rfl hown (mvT hZ (hw _ (List.mem_of_getElem? (i := 37) rfl))) (mvT hZ (hw _ (List.mem_of_getElem? (i := 38) rfl))) (mvT hZ (hw _ (List.mem_of_getElem? (i := 39) rfl))) (by decide) (backOf (W := 1) (rm_lf l Z a0 hw [] b26 r15 pp  h26 n0 O26 A26 F36 F37 ge_b26) hZ (hw _ (List.mem_of_getElem? (i := 39) rfl)) (hw _ (List.mem_of_getElem? (i := 36) rfl)) (by decide) (by decide)) (g := (mkF m 96 #[.val (.int p0), .val (.int p1), .val (.ref b1), .val (.int ln), .val (.int pp), .val (.ref r15), .val (.ref r19), .unset, .unset] [(.int pp), (.ref r15), (.ref b26), (.ref b26)])) rfl (by rw [hml]; rfl) (Steps.refl _) (a := b26) (argsL := [(.ref r15), (.int pp)]) (rest := [(.ref b26)]) (lenOf pd_19 rfl) rfl (by show 2 * 0 + _ ≤ _; exact Nat.le_of_eq rfl) (hb hby at_96) (fun _ _ => ⟨rfl, e26, (by decide : 10 + 0 ≤ _), (by decide : 30 + 0 ≤ _)⟩)
  dsimp only [Pt.U, Pt.locs, Pt.cells, Pt.slots] at X38 l38 y38 z38 st38 hQ38
  subst y38 z38
  obtain ⟨rfl, N38q, K38q, r38_0, r38_1, r38_2⟩ := hQ38
  have N38 : Fr n0 L38 := by rw [l38]; exact Fr.app N19 N38q
  have f39 := f30.keep K38q
  have f40 := f31.keep K38q (ninS ne27 nin0)
  have f41 := f32.keep K38q (ninS ne28 nin0) (apartS (Apart.exa A26 (hw _ (List.mem_of_getElem? (i := 35) rfl))) apart0)
  have f42 := f33.keep K38q
  have f43 := f34.keep K38q (ninS ne29 nin0) (apartS (Apart.exa A26 (hw _ (List.mem_of_getElem? (i := 35) rfl))) apart0)
  have f44 := f35.keep K38q
  have f45 := A26.keep K38q
  have hk := Nat.le_trans hk K38q.1
  have CR := CR.trans (CHr.keep K38q (sfS (Safe.exa hZ.alike A26 (by decide) (by decide)) sf0) CR.1)
  have K38 : Keep h0 T38.heap [] := K26.trans K38q (allS (Or.inr sz_b26) all0)
  have O38 := O26.keep K38q (allS ge_b26 all0)
  refine stt st38 ?_
  show Go p e below T38 (mkF m 99 #[.val (.int p0), .val (.int p1), .val (.ref b1), .val (.int ln), .val (.int pp), .val (.ref r15), .val (.ref r19), .unset, .unset] [(.ref b26)]) _
  refine stp (fun _ => XS.astore X38.here hx rfl (hb hby at_99) rfl rfl (l' := #[.val (.int p0), .val (.int p1), .val (.ref b1), .val (.int ln), .val (.int pp), .val (.ref r15), .val (.ref r19), .val (.ref b26), .unset]) rfl) ?_
  show Go p e below T38 (mkF m 101 #[.val (.int p0), .val (.int p1), .val (.ref b1), .val (.int ln), .val (.int pp), .val (.ref r15), .val (.ref r19), .val (.ref b26), .unset] []) _
  refine stp (fun _ => XS.aload X38.here hx rfl (hb hby at_101) rfl rfl) ?_
  show Go p e below T38 (mkF m 103 #[.val (.int p0), .val (.int p1), .val (.ref b1), .val (.int ln), .val (.int pp), .val (.ref r15), .val (.ref r19), .val (.ref b26), .unset] [(.ref b26)]) _
  refine stp (fun _ => XS.aload X38.here hx rfl (hb hby at_103) rfl rfl) ?_
  show Go p e below T38 (mkF m 105 #[.val (.int p0), .val (.int p1), .val (.ref b1), .val (.int ln), .val (.int pp), .val (.ref r15), .val (.ref r19), .val (.ref b26), .unset] [(.ref r19), (.ref b26)]) _
  obtain ⟨cq46, kq46, q46a, q46b, q46c⟩ := isOf hZ rfl r38_0
  obtain ⟨_, _, ⟨T46, L46, k46, n46⟩, -, X46, ⟨Lc46, hQ46, l46, y46, z46⟩, st46⟩ := X38.virtualBack hx (y := (⟨"com/example/goldpage/goldpage/golden/LineFields", "skip", "(Ljava/lang/String;)Z"⟩ : MethodName)) (z := (⟨"com/example/goldpage/goldpage/golden/LineFields", "skip", "(Ljava/lang/String;)Z"⟩ : MethodName)) hown (mvT hZ (hw _ (List.mem_of_getElem? (i := 45) rfl))) (mvT hZ (hw _ (List.mem_of_getElem? (i := 46) rfl))) (notFace_of_selects (args := #[]) (mvT hZ (hw _ (List.mem_of_getElem? (i := 48) rfl)))) (mvT hZ (hw _ (List.mem_of_getElem? (i := 48) rfl))) (mvT hZ (hw _ (List.mem_of_getElem? (i := 47) rfl))) (by decide) (backOf (W := 0) (rm_skip l Z a0 hw [] b26 r19 r15 pp (own_tk x0 x1 x2 x3 (0 : Int32) ln) (own_tk x0 x1 x2 x3 pp (ln - pp)) cz pp.toNatClampNeg T38.heap n0 O38 r38_0 r38_1 r38_2 f41 f43 S_CS ge_b26 ne29 ne28 hcz (own_pn hpp) (own_p0 hpp) (own_hle hpp) (own_hd hpp) (own_hpl hpp) (own_he hpp)) hZ (hw _ (List.mem_of_getElem? (i := 49) rfl)) (hw _ (List.mem_of_getElem? (i := 36) rfl)) (by decide) (by decide)) q46a q46c (g := (mkF m 105 #[.val (.int p0), .val (.int p1), .val (.ref b1), .val (.int ln), .val (.int pp), .val (.ref r15), .val (.ref r19), .val (.ref b26), .unset] [(.ref r19), (.ref b26)])) rfl (by rw [hml]; rfl) (Steps.refl _) (argsL := [(.ref r19)]) (rest := []) (lenOf pd_20 rfl) rfl (by show 2 * 0 + _ ≤ _; exact Nat.le_of_eq rfl) (hb hby at_105) (fun _ _ => ⟨rfl, rfl, (by decide : 10 + 0 ≤ _), (by decide : 30 + 0 ≤ _)⟩)
  dsimp only [Pt.U, Pt.locs, Pt.cells, Pt.slots] at X46 l46 y46 z46 st46 hQ46
  subst y46 z46
  obtain ⟨rfl, N46q, K46q, r46_0, r46_1⟩ := hQ46
  have N46 : Fr n0 L46 := by rw [l46]; exact Fr.app N38 N46q
  have f47 := f39.keep K46q
  have f48 := f40.keep K46q (ninS ne27 nin0)
  have f49 := f41.keep K46q (ninS ne28 nin0) (apartS (Apart.exa r38_0 (hw _ (List.mem_of_getElem? (i := 35) rfl))) apart0)
  have f50 := f42.keep K46q
  have f51 := f43.keep K46q (ninS ne29 nin0) (apartS (Apart.exa r38_0 (hw _ (List.mem_of_getElem? (i := 35) rfl))) apart0)
  have f52 := f44.keep K46q
  have f53 := r38_0.keep K46q
  have hk := Nat.le_trans hk K46q.1
  have CR := CR.trans (CHr.keep K46q (sfS (Safe.exa hZ.alike r38_0 (by decide) (by decide)) sf0) CR.1)
  have K46 : Keep h0 T46.heap [] := K38.trans K46q (allS (Or.inr sz_b26) all0)
  have O46 := O38.keep K46q (allS ge_b26 all0)
  refine stt st46 ?_
  show Go p e below T46 (mkF m 108 #[.val (.int p0), .val (.int p1), .val (.ref b1), .val (.int ln), .val (.int pp), .val (.ref r15), .val (.ref r19), .val (.ref b26), .unset] [(.int (1 : Int32))]) _
  refine stp (fun _ => XS.istore X46.here hx rfl (hb hby at_108) rfl (l' := #[.val (.int p0), .val (.int p1), .val (.ref b1), .val (.int ln), .val (.int pp), .val (.ref r15), .val (.ref r19), .val (.ref b26), .val (.int (1 : Int32))]) rfl) ?_
  show Go p e below T46 (mkF m 110 #[.val (.int p0), .val (.int p1), .val (.ref b1), .val (.int ln), .val (.int pp), .val (.ref r15), .val (.ref r19), .val (.ref b26), .val (.int (1 : Int32))] []) _
  refine stp (fun _ => XS.aload X46.here hx rfl (hb hby at_110) rfl rfl) ?_
  show Go p e below T46 (mkF m 112 #[.val (.int p0), .val (.int p1), .val (.ref b1), .val (.int ln), .val (.int pp), .val (.ref r15), .val (.ref r19), .val (.ref b26), .val (.int (1 : Int32))] [(.ref b26)]) _
  obtain ⟨cq54, kq54, q54a, q54b, q54c⟩ := isOf hZ rfl f53
  obtain ⟨_, _, ⟨T54, L54, k54, n54⟩, -, X54, ⟨Lc54, hQ54, l54, y54, z54⟩, st54⟩ := X46.virtualBack hx (y := (⟨"com/example/goldpage/goldpage/golden/LineFields", "end", "()V"⟩ : MethodName)) (z := (⟨"com/example/goldpage/goldpage/golden/LineFields", "end", "()V"⟩ : MethodName)) hown (mvT hZ (hw _ (List.mem_of_getElem? (i := 70) rfl))) (mvT hZ (hw _ (List.mem_of_getElem? (i := 71) rfl))) (notFace_of_selects (args := #[]) (mvT hZ (hw _ (List.mem_of_getElem? (i := 73) rfl)))) (mvT hZ (hw _ (List.mem_of_getElem? (i := 73) rfl))) (mvT hZ (hw _ (List.mem_of_getElem? (i := 72) rfl))) (by decide) (backOf (W := 0) (rm_end l Z a0 hw [] b26 r15 (pp + (Int32.ofNat (own_tk x0 x1 x2 x3 pp (ln - pp)).length)) (own_tk x0 x1 x2 x3 (0 : Int32) ln) cz T46.heap n0 O46 r46_0 r46_1 f49 S_CS hcz (own_nxt hpp)) hZ (hw _ (List.mem_of_getElem? (i := 74) rfl)) (hw _ (List.mem_of_getElem? (i := 36) rfl)) (by decide) (by decide)) q54a q54c (g := (mkF m 112 #[.val (.int p0), .val (.int p1), .val (.ref b1), .val (.int ln), .val (.int pp), .val (.ref r15), .val (.ref r19), .val (.ref b26), .val (.int (1 : Int32))] [(.ref b26)])) rfl (by rw [hml]; rfl) (Steps.refl _) (argsL := []) (rest := []) (lenOf pd_21 rfl) rfl (by show 2 * 0 + _ ≤ _; exact Nat.le_of_eq rfl) (hb hby at_112) (fun _ _ => ⟨rfl, rfl, (by decide : 10 + 0 ≤ _), (by decide : 30 + 0 ≤ _)⟩)
  dsimp only [Pt.U, Pt.locs, Pt.cells, Pt.slots] at X54 l54 y54 z54 st54 hQ54
  subst y54 z54
  obtain ⟨rfl, N54q, e54⟩ := hQ54
  have N54 : Fr n0 L54 := by rw [l54]; exact Fr.app N46 N54q
  refine stt st54 ?_
  show Go p e below T54 (mkF m 115 #[.val (.int p0), .val (.int p1), .val (.ref b1), .val (.int ln), .val (.int pp), .val (.ref r15), .val (.ref r19), .val (.ref b26), .val (.int (1 : Int32))] []) _
  refine stp (fun _ => XS.iload X54.here hx rfl (hb hby at_115) rfl) ?_
  show Go p e below T54 (mkF m 117 #[.val (.int p0), .val (.int p1), .val (.ref b1), .val (.int ln), .val (.int pp), .val (.ref r15), .val (.ref r19), .val (.ref b26), .val (.int (1 : Int32))] [(.int (1 : Int32))]) _
  refine stp (fun _ => XS.ifNo X54.here hx rfl (hb hby at_117) rfl (by decide)) ?_
  show Go p e below T54 (mkF m 120 #[.val (.int p0), .val (.int p1), .val (.ref b1), .val (.int ln), .val (.int pp), .val (.ref r15), .val (.ref r19), .val (.ref b26), .val (.int (1 : Int32))] []) _
  refine stp (fun _ => XS.aload X54.here hx rfl (hb hby at_120) rfl rfl) ?_
  show Go p e below T54 (mkF m 122 #[.val (.int p0), .val (.int p1), .val (.ref b1), .val (.int ln), .val (.int pp), .val (.ref r15), .val (.ref r19), .val (.ref b26), .val (.int (1 : Int32))] [(.ref b26)]) _
  by_cases hz : (Int32.ofNat (own_tk x0 x1 x2 x3 (0 : Int32) ln).length) = 0
  · show Go p e below T54 (mkF m 122 #[.val (.int p0), .val (.int p1), .val (.ref b1), .val (.int ln), .val (.int pp), .val (.ref r15), .val (.ref r19), .val (.ref b26), .val (.int (1 : Int32))] [(.ref b26)]) _
    obtain ⟨cq55, kq55, q55a, q55b, q55c⟩ := isOf hZ e54 f53
    obtain ⟨_, _, ⟨T55, L55, k55, n55⟩, -, X55, hS55, gg55, ⟨Lc55, hQ55, l55, y55, z55, CRn55⟩, st55⟩ := X54.virtualBackS hx (y := (⟨"com/example/goldpage/goldpage/golden/LineFields", "word", "()Ljava/lang/String;"⟩ : MethodName)) (z := (⟨"com/example/goldpage/goldpage/golden/LineFields", "word", "()Ljava/lang/String;"⟩ : MethodName)) hown (mvT hZ (hw _ (List.mem_of_getElem? (i := 75) rfl))) (mvT hZ (hw _ (List.mem_of_getElem? (i := 76) rfl))) (notFace_of_selects (args := #[]) (mvT hZ (hw _ (List.mem_of_getElem? (i := 78) rfl)))) (mvT hZ (hw _ (List.mem_of_getElem? (i := 78) rfl))) (mvT hZ (hw _ (List.mem_of_getElem? (i := 77) rfl))) (by decide) (backOfSH (W := 0) (rm_woa l Z a0 hw [] b26 r15 (pp + (Int32.ofNat (own_tk x0 x1 x2 x3 pp (ln - pp)).length)) (own_tk x0 x1 x2 x3 (0 : Int32) ln) cz fm T46.heap n0 O46 hEL f53 r46_0 r46_1 f49 S_CS S_FM ge_b26 ne28 hcz hfm (own_nxt hpp) hz) hZ (hw _ (List.mem_of_getElem? (i := 79) rfl)) (hw _ (List.mem_of_getElem? (i := 36) rfl)) (by decide) (by decide) hEL CR.1) q55a q55c (g := (mkF m 122 #[.val (.int p0), .val (.int p1), .val (.ref b1), .val (.int ln), .val (.int pp), .val (.ref r15), .val (.ref r19), .val (.ref b26), .val (.int (1 : Int32))] [(.ref b26)])) rfl (by rw [hml]; rfl) (Steps.refl _) (argsL := []) (rest := []) (lenOf pd_22 rfl) rfl (by show 2 * 0 + _ ≤ _; exact Nat.le_of_eq rfl) (hb hby at_122) (fun _ _ => ⟨rfl, e54, (by decide : 10 + 0 ≤ _), (by decide : 30 + 0 ≤ _)⟩)
    dsimp only [Pt.U, Pt.locs, Pt.cells, Pt.slots] at X55 hS55 gg55 l55 y55 z55 st55 hQ55 CRn55
    subst y55 z55
    obtain ⟨X55, hS, hZ, hown⟩ := rebS hS (by rw [e54]; exact hk) X55 hS55 gg55 hZ hown
    obtain ⟨r55, rfl, N55q, K55q, r55_0⟩ := hQ55
    have N55 : Fr n0 L55 := by rw [l55]; exact Fr.app N54 N55q
    have f56 := f47.keep K55q
    have f57 := f48.keep K55q (ninS ne27 nin0)
    have f58 := f49.keep K55q (ninS ne28 nin0) (apartS (Apart.exa f53 (hw _ (List.mem_of_getElem? (i := 35) rfl))) apart0)
    have f59 := f50.keep K55q
    have f60 := f51.keep K55q (ninS ne29 nin0) (apartS (Apart.exa f53 (hw _ (List.mem_of_getElem? (i := 35) rfl))) apart0)
    have f61 := f52.keep K55q
    have f62 := f53.keep K55q
    have K55 : Keep h0 T55.heap [] := K46.trans K55q (allS (Or.inr sz_b26) all0)
    have O55 := O46.keep K55q (allS ge_b26 all0)
    have hk : T55.heap.size ≤ T55.heap.size := Nat.le_refl _
    have CR := CR.trans CRn55
    refine stt st55 ?_
    show Go p e below T55 (mkF m 125 #[.val (.int p0), .val (.int p1), .val (.ref b1), .val (.int ln), .val (.int pp), .val (.ref r15), .val (.ref r19), .val (.ref b26), .val (.int (1 : Int32))] [(.ref r55)]) _
    obtain ⟨cq63, kq63, q63a, q63b, q63c⟩ := isOf hZ rfl r55_0.exa
    obtain ⟨_, _, ⟨T63, L63, k63, n63⟩, -, X63, ⟨Lc63, hQ63, l63, y63, z63⟩, st63⟩ := X55.virtualBack hx (y := (⟨"java/lang/String", "isEmpty", "()Z"⟩ : MethodName)) (z := (⟨"java/lang/String", "isEmpty", "()Z"⟩ : MethodName)) hown (mvT hZ (hw _ (List.mem_of_getElem? (i := 123) rfl))) (mvT hZ (hw _ (List.mem_of_getElem? (i := 124) rfl))) (notFace_of_selects (args := #[]) (mvT hZ (hw _ (List.mem_of_getElem? (i := 126) rfl)))) (mvT hZ (hw _ (List.mem_of_getElem? (i := 126) rfl))) (mvT hZ (hw _ (List.mem_of_getElem? (i := 125) rfl))) (by decide) (backOf (W := 0) (rm_ie l Z a0 hw [] r55 [] T55.heap n0 O55 r55_0 rfl) hZ (hw _ (List.mem_of_getElem? (i := 127) rfl)) (hw _ (List.mem_of_getElem? (i := 7) rfl)) (by decide) (by decide)) q63a q63c (g := (mkF m 125 #[.val (.int p0), .val (.int p1), .val (.ref b1), .val (.int ln), .val (.int pp), .val (.ref r15), .val (.ref r19), .val (.ref b26), .val (.int (1 : Int32))] [(.ref r55)])) rfl (by rw [hml]; rfl) (Steps.refl _) (argsL := []) (rest := []) (lenOf pd_11 rfl) rfl (by show 2 * 0 + _ ≤ _; exact Nat.le_of_eq rfl) (hb hby at_125) (fun _ _ => ⟨rfl, rfl, (by decide : 10 + 0 ≤ _), (by decide : 30 + 0 ≤ _)⟩)
    dsimp only [Pt.U, Pt.locs, Pt.cells, Pt.slots] at X63 l63 y63 z63 st63 hQ63
    subst y63 z63
    obtain ⟨rfl, N63q, e63⟩ := hQ63
    have N63 : Fr n0 L63 := by rw [l63]; exact Fr.app N55 N63q
    refine stt st63 ?_
    show Go p e below T63 (mkF m 128 #[.val (.int p0), .val (.int p1), .val (.ref b1), .val (.int ln), .val (.int pp), .val (.ref r15), .val (.ref r19), .val (.ref b26), .val (.int (1 : Int32))] [(.int (1 : Int32))]) _
    refine stp (fun _ => XS.ifNo X63.here hx rfl (hb hby at_128) rfl (by decide)) ?_
    show Go p e below T63 (mkF m 131 #[.val (.int p0), .val (.int p1), .val (.ref b1), .val (.int ln), .val (.int pp), .val (.ref r15), .val (.ref r19), .val (.ref b26), .val (.int (1 : Int32))] []) _
    refine stp (fun _ => XS.iconst X63.here hx rfl (hb hby at_131)) ?_
    show Go p e below T63 (mkF m 132 #[.val (.int p0), .val (.int p1), .val (.ref b1), .val (.int ln), .val (.int pp), .val (.ref r15), .val (.ref r19), .val (.ref b26), .val (.int (1 : Int32))] [(.int (1 : Int32))]) _
    refine stp (fun _ => XS.goto X63.here hx rfl (pc0 := 132) (pc' := 136) rfl (hb hby at_132) (by decide) (by decide)) ?_
    show Go p e below T63 (mkF m 136 #[.val (.int p0), .val (.int p1), .val (.ref b1), .val (.int ln), .val (.int pp), .val (.ref r15), .val (.ref r19), .val (.ref b26), .val (.int (1 : Int32))] [(.int (1 : Int32))]) _
    refine outNW X63 hx hZ hEL e63 hS hk CR (t := .boolean) hret (by simp) (hb hby at_136) hlk (by decide) (by decide) ?_
    exact ⟨rfl, N63⟩
  · show Go p e below T54 (mkF m 122 #[.val (.int p0), .val (.int p1), .val (.ref b1), .val (.int ln), .val (.int pp), .val (.ref r15), .val (.ref r19), .val (.ref b26), .val (.int (1 : Int32))] [(.ref b26)]) _
    obtain ⟨cq64, kq64, q64a, q64b, q64c⟩ := isOf hZ e54 f53
    obtain ⟨_, _, ⟨T64, L64, k64, n64⟩, -, X64, hS64, gg64, ⟨Lc64, hQ64, l64, y64, z64, CRn64⟩, st64⟩ := X54.virtualBackS hx (y := (⟨"com/example/goldpage/goldpage/golden/LineFields", "word", "()Ljava/lang/String;"⟩ : MethodName)) (z := (⟨"com/example/goldpage/goldpage/golden/LineFields", "word", "()Ljava/lang/String;"⟩ : MethodName)) hown (mvT hZ (hw _ (List.mem_of_getElem? (i := 75) rfl))) (mvT hZ (hw _ (List.mem_of_getElem? (i := 76) rfl))) (notFace_of_selects (args := #[]) (mvT hZ (hw _ (List.mem_of_getElem? (i := 78) rfl)))) (mvT hZ (hw _ (List.mem_of_getElem? (i := 78) rfl))) (mvT hZ (hw _ (List.mem_of_getElem? (i := 77) rfl))) (by decide) (backOfSH (W := 0) (rm_wob l Z a0 hw [] b26 r15 (pp + (Int32.ofNat (own_tk x0 x1 x2 x3 pp (ln - pp)).length)) (own_tk x0 x1 x2 x3 (0 : Int32) ln) cz fm T46.heap n0 O46 hEL f53 r46_0 r46_1 f49 S_CS S_FM ge_b26 ne28 hcz hfm (own_nxt hpp) hz) hZ (hw _ (List.mem_of_getElem? (i := 79) rfl)) (hw _ (List.mem_of_getElem? (i := 36) rfl)) (by decide) (by decide) hEL CR.1) q64a q64c (g := (mkF m 122 #[.val (.int p0), .val (.int p1), .val (.ref b1), .val (.int ln), .val (.int pp), .val (.ref r15), .val (.ref r19), .val (.ref b26), .val (.int (1 : Int32))] [(.ref b26)])) rfl (by rw [hml]; rfl) (Steps.refl _) (argsL := []) (rest := []) (lenOf pd_22 rfl) rfl (by show 2 * 0 + _ ≤ _; exact Nat.le_of_eq rfl) (hb hby at_122) (fun _ _ => ⟨rfl, e54, (by decide : 10 + 2 ≤ _), (by decide : 30 + 4 ≤ _)⟩)
    dsimp only [Pt.U, Pt.locs, Pt.cells, Pt.slots] at X64 hS64 gg64 l64 y64 z64 st64 hQ64 CRn64
    subst y64 z64
    obtain ⟨X64, hS, hZ, hown⟩ := rebS hS (by rw [e54]; exact hk) X64 hS64 gg64 hZ hown
    obtain ⟨r64, rfl, N64q, K64q, r64_0⟩ := hQ64
    have N64 : Fr n0 L64 := by rw [l64]; exact Fr.app N54 N64q
    have f65 := f47.keep K64q
    have f66 := f48.keep K64q (ninS ne27 nin0)
    have f67 := f49.keep K64q (ninS ne28 nin0) (apartS (Apart.exa f53 (hw _ (List.mem_of_getElem? (i := 35) rfl))) apart0)
    have f68 := f50.keep K64q
    have f69 := f51.keep K64q (ninS ne29 nin0) (apartS (Apart.exa f53 (hw _ (List.mem_of_getElem? (i := 35) rfl))) apart0)
    have f70 := f52.keep K64q
    have f71 := f53.keep K64q
    have K64 : Keep h0 T64.heap [] := K46.trans K64q (allS (Or.inr sz_b26) all0)
    have O64 := O46.keep K64q (allS ge_b26 all0)
    have hk : T64.heap.size ≤ T64.heap.size := Nat.le_refl _
    have CR := CR.trans CRn64
    refine stt st64 ?_
    show Go p e below T64 (mkF m 125 #[.val (.int p0), .val (.int p1), .val (.ref b1), .val (.int ln), .val (.int pp), .val (.ref r15), .val (.ref r19), .val (.ref b26), .val (.int (1 : Int32))] [(.ref r64)]) _
    obtain ⟨cq72, kq72, q72a, q72b, q72c⟩ := isOf hZ rfl r64_0.exa
    obtain ⟨_, _, ⟨T72, L72, k72, n72⟩, -, X72, ⟨Lc72, hQ72, l72, y72, z72⟩, st72⟩ := X64.virtualBack hx (y := (⟨"java/lang/String", "isEmpty", "()Z"⟩ : MethodName)) (z := (⟨"java/lang/String", "isEmpty", "()Z"⟩ : MethodName)) hown (mvT hZ (hw _ (List.mem_of_getElem? (i := 123) rfl))) (mvT hZ (hw _ (List.mem_of_getElem? (i := 124) rfl))) (notFace_of_selects (args := #[]) (mvT hZ (hw _ (List.mem_of_getElem? (i := 126) rfl)))) (mvT hZ (hw _ (List.mem_of_getElem? (i := 126) rfl))) (mvT hZ (hw _ (List.mem_of_getElem? (i := 125) rfl))) (by decide) (backOf (W := 0) (rm_ie l Z a0 hw [] r64 [] T64.heap n0 O64 r64_0 rfl) hZ (hw _ (List.mem_of_getElem? (i := 127) rfl)) (hw _ (List.mem_of_getElem? (i := 7) rfl)) (by decide) (by decide)) q72a q72c (g := (mkF m 125 #[.val (.int p0), .val (.int p1), .val (.ref b1), .val (.int ln), .val (.int pp), .val (.ref r15), .val (.ref r19), .val (.ref b26), .val (.int (1 : Int32))] [(.ref r64)])) rfl (by rw [hml]; rfl) (Steps.refl _) (argsL := []) (rest := []) (lenOf pd_11 rfl) rfl (by show 2 * 0 + _ ≤ _; exact Nat.le_of_eq rfl) (hb hby at_125) (fun _ _ => ⟨rfl, rfl, (by decide : 12 + 0 ≤ _), (by decide : 34 + 0 ≤ _)⟩)
    dsimp only [Pt.U, Pt.locs, Pt.cells, Pt.slots] at X72 l72 y72 z72 st72 hQ72
    subst y72 z72
    obtain ⟨rfl, N72q, e72⟩ := hQ72
    have N72 : Fr n0 L72 := by rw [l72]; exact Fr.app N64 N72q
    refine stt st72 ?_
    show Go p e below T72 (mkF m 128 #[.val (.int p0), .val (.int p1), .val (.ref b1), .val (.int ln), .val (.int pp), .val (.ref r15), .val (.ref r19), .val (.ref b26), .val (.int (1 : Int32))] [(.int (1 : Int32))]) _
    refine stp (fun _ => XS.ifNo X72.here hx rfl (hb hby at_128) rfl (by decide)) ?_
    show Go p e below T72 (mkF m 131 #[.val (.int p0), .val (.int p1), .val (.ref b1), .val (.int ln), .val (.int pp), .val (.ref r15), .val (.ref r19), .val (.ref b26), .val (.int (1 : Int32))] []) _
    refine stp (fun _ => XS.iconst X72.here hx rfl (hb hby at_131)) ?_
    show Go p e below T72 (mkF m 132 #[.val (.int p0), .val (.int p1), .val (.ref b1), .val (.int ln), .val (.int pp), .val (.ref r15), .val (.ref r19), .val (.ref b26), .val (.int (1 : Int32))] [(.int (1 : Int32))]) _
    refine stp (fun _ => XS.goto X72.here hx rfl (pc0 := 132) (pc' := 136) rfl (hb hby at_132) (by decide) (by decide)) ?_
    show Go p e below T72 (mkF m 136 #[.val (.int p0), .val (.int p1), .val (.ref b1), .val (.int ln), .val (.int pp), .val (.ref r15), .val (.ref r19), .val (.ref b26), .val (.int (1 : Int32))] [(.int (1 : Int32))]) _
    refine outNW X72 hx hZ hEL e72 hS hk CR (t := .boolean) hret (by simp) (hb hby at_136) hlk (by decide) (by decide) ?_
    exact ⟨rfl, N72⟩
set_option maxRecDepth 65536 in
set_option maxHeartbeats 40000000 in
theorem comes_1 {Post : Tables → Env → Array Value → State → Outcome → State → Prop} (hpost : ∀ tb e args s v u, (limb_1_1.after args s (.returned v) u = true ∧ limb_1_2.after args s (.returned v) u = true ∧ True) → Jvm.D.FramedW s (.returned v) u (Jvm.fieldLocs frame_1_writes args s ++ Jvm.arrayLocs frame_1_arrays args s ++ Jvm.staticLocs frame_1_statics s) 32 2240 → Post tb e args s (.returned v) u) :
    ArmFor flags0 classFile x code maxLocals ret World_1 tables_1 room_1 Calls_1 rest_1 Pre_1 Post := by
  intro l hfl _ _ p e ha hc hk s m args below hf hA hF happ hP
  obtain ⟨hcalls, hrest, hpre⟩ := hP
  obtain ⟨-, -, -, hnamed, -, -, -, hat⟩ := (Spec.applies_iff hf).mp happ
  obtain ⟨hg, hn⟩ := and_e (Cond.before_iff.mp (show (Jvm.Cond.and given_1 narrow_1).before args s = true from hpre))
  obtain ⟨g1, g2⟩ := and_e hg
  obtain ⟨g3, g4⟩ := and_e g2
  obtain ⟨w0, w1, rfl⟩ : ∃ w0 w1 : Value, args = #[w0, w1] := by
    have hs : args.size = 2 := by simpa [Cond.value, given_1] using g1
    obtain ⟨L⟩ := args
    match L, hs with
    | [w0, w1], _ => exact ⟨w0, w1, rfl⟩
  have hw := fun d (hd : d ∈ tables_1) => atoms_spec (ws := Jvm.Cond.code x code maxLocals ret :: tables_1) hat d (List.mem_cons_of_mem _ hd)
  have hfit : Fit s := fun {y c} hc i hi => by
    obtain ⟨ha, rfl⟩ := Array.getElem?_eq_some_iff.mp hc
    have q := List.all_eq_true.mp ((Array.all_eq_true_iff_forall_mem.mp hF) _ (Array.getElem_mem ha)) i (List.mem_range.mpr hi)
    simpa [Array.getElem?_eq_getElem hi] using q
  obtain ⟨i0, ei0⟩ := is_v g3
  obtain rfl : w0 = (.int i0) := Option.some.inj ei0
  obtain ⟨i1, ei1⟩ := is_v g4
  obtain rfl : w1 = (.int i1) := Option.some.inj ei1
  obtain ⟨hsets, hown0⟩ := atoms_of _ (rest_1_c_eq ▸ (show rest_1_c.before _ s = true from hrest))
  have hr0 := Cond.before_iff.mp hown0
  obtain ⟨z_COMPACT_STRINGS, ez_COMPACT_STRINGS⟩ := is_v (Cond.before_iff.mp (hsets _ (List.mem_of_getElem? (i := 1) rfl)))
  have S_z_COMPACT_STRINGS := Sta.start ez_COMPACT_STRINGS (Or.inl (hsets _ (List.mem_of_getElem? (i := 0) rfl)))
  have c_COMPACT_STRINGS : ¬ (z_COMPACT_STRINGS = (0 : Int32)) := gotF (Cond.eq_ints ez_COMPACT_STRINGS (Term.int_eval (0))) (not_v (Cond.before_iff.mp (hsets _ (List.mem_of_getElem? (i := 2) rfl))))
  obtain ⟨v_SIOOBE_FORMATTER, ez_SIOOBE_FORMATTER, r_SIOOBE_FORMATTER⟩ := isR_v (Cond.before_iff.mp (hsets _ (List.mem_of_getElem? (i := 8) rfl)))
  have S_v_SIOOBE_FORMATTER := Sta.start ez_SIOOBE_FORMATTER (Or.inl (hsets _ (List.mem_of_getElem? (i := 7) rfl)))
  have hEL : EW s _ consts_1 := own_EW hw
  have hCH : CHv s consts_1 s.vm s.heap := CHv.start hEL (fun p hp => hcalls.1 p hp) (hsets _ (List.mem_of_getElem? (i := 2) rfl)) (hw _ (List.mem_of_getElem? (i := 23) rfl)) (hw _ (List.mem_of_getElem? (i := 6) rfl))
  obtain ⟨n, o, h1, h2, h3, _, L, rfl, ⟨rfl, N⟩, -, hq⟩ := rm0 l s _ hw tables_1 i0 i1 z_COMPACT_STRINGS v_SIOOBE_FORMATTER s.heap s.heap.size (Old.start s) hEL S_z_COMPACT_STRINGS c_COMPACT_STRINGS S_v_SIOOBE_FORMATTER r_SIOOBE_FORMATTER p e ha hc hk s m _ below hf ((Spec.applies_iff_loose hf).mp happ).1 ⟨rfl, State.Warmed39.refl s, rfl, hCH⟩ trivial
  refine ⟨n, _, h1, h2, h3, hpost _ _ _ _ _ _ ⟨Cond.after_iff.mpr rfl, Cond.after_iff.mpr (eq_i res_at (Term.int_eval (1)) rfl), trivial⟩ ⟨hq.1, hq.2.1, hq.2.2.1, (hq.2.2.2.sift fun y hy => Or.inr (N y hy)).mono (by decide) (by decide)⟩⟩
theorem main_1_1 : Claimed_1_1 := comes_1 fun _ _ _ _ _ _ h hF => ⟨h.1, hF⟩
theorem main_1_2 : Claimed_1_2 := comes_1 fun _ _ _ _ _ _ h hF => ⟨h.2.1, hF⟩
end Jvm.Pilot.@@N@@
namespace Jvm.Pilot.@@N@@
open Jvm Jvm.ClassFile Sem Op Lib Jvm.Free Jvm.Stand Jvm.Pilot.@@N@@.Jvm.D
/-! MADE BY PROGRAM (witnessworld.py) out of the Statement's table words and the real class files: 21 classes; the members and pool entries that the words name. The judged class is class 1, her method 1. -/
namespace start1
open Jvm.ClassFile
def u (s : String) : CpInfo := .utf8 (stringToUtf16 s)
/-- a pool by its gaps: so many unusable entries, then the entry; so many at the end -/
def gap : Nat → List CpInfo → List CpInfo
  | 0, r => r
  | n + 1, r => .unusable :: gap n r
def poolList (es : List (Nat × CpInfo)) (last : Nat) : List CpInfo := es.foldr (fun e r => gap e.1 (e.2 :: r)) (gap last [])
def pool (es : List (Nat × CpInfo)) (last : Nat) : Array CpInfo := ⟨poolList es last⟩
def fileOf (pool : Array CpInfo) (this : Nat) (attrs : Array Attribute := #[]) (ms : Array MethodInfo := #[]) (fl : Nat := 33) (sup : Nat := 0) (ifs : Array Nat := #[]) (fds : Array FieldInfo := #[]) : ClassFile where
  minorVersion := 0
  majorVersion := 65
  constantPool := pool
  accessFlags := fl
  thisClass := this
  superClass := sup
  interfaces := ifs
  fields := fds
  methods := ms
  attributes := attrs
def plain (name : String) (sup : Option ClassId) : Class where
  name := name
  kind := .ordinary
  loader := none
  accessFlags := 33
  super := sup
  interfaces := #[]
  cf := none
  fields := #[]
  methods := #[]
  instanceTypes := #[]
  staticTypes := #[]
  resolved := #[]
  callSites := []
  init := .initialized
  statics := none
  mirror := none

def pool0 : Array CpInfo := pool [(5, u "<init>"), (0, u "()V"), (1, .class_ 10), (1, u "java/lang/Object")] 113

def k0c0 : Code := { maxStack := 0, maxLocals := 1, code := object_method_1_code, exceptionTable := #[], attributes := #[] }
def k0m0 : Method := { name := "<init>", desc := "()V", sig := { parameters := [], returnType := none }, accessFlags := 1, code := some k0c0 }
/-- java/lang/Object -/
def k0 : Class := { plain "java/lang/Object" none with
  accessFlags := 33
  interfaces := #[]
  cf := some (fileOf pool0 8 #[] #[{ accessFlags := 1, nameIndex := 5, descriptorIndex := 6, attributes := #[] }] 33 0 #[] #[])
  fields := #[]
  methods := #[k0m0]
  instanceTypes := #[]
  staticTypes := #[]
  resolved := Array.replicate 124 none
  statics := none }

def pool1 : Array CpInfo := pool [(2, .class_ 4), (1, u "java/lang/Object"), (0, u "<init>"), (0, u "()V"), (0, .methodref 8 9), (0, .class_ 10), (0, .nameAndType 11 12), (0, u "com/example/goldpage/goldpage/golden/LineFieldsEndPinLaw"), (0, u "take"), (0, u "([CII)Ljava/lang/String;"), (0, .class_ 14), (0, u "com/example/goldpage/goldpage/golden/LineFields"), (0, .methodref 13 16), (0, .nameAndType 5 17), (0, u "(Ljava/lang/String;I)V"), (0, .methodref 13 19), (0, .nameAndType 20 21), (0, u "skip"), (0, u "(Ljava/lang/String;)Z"), (0, .methodref 13 23), (0, .nameAndType 24 6), (0, u "end"), (0, .methodref 13 26), (0, .nameAndType 27 28), (0, u "word"), (0, u "()Ljava/lang/String;"), (0, .methodref 30 31), (0, .class_ 32), (0, .nameAndType 33 34), (0, u "java/lang/String"), (0, u "isEmpty"), (0, u "()Z"), (0, .methodref 30 36), (0, .nameAndType 5 37), (0, u "([C)V"), (0, .methodref 30 39), (0, .nameAndType 40 41), (0, u "valueOf"), (0, u "(C)Ljava/lang/String;"), (2, u "law"), (0, u "(II)Z")] 5

def k1m0 : Method := { name := "<init>", desc := "()V", sig := { parameters := [], returnType := none }, accessFlags := 1, code := none }
def k1c1 : Code := { maxStack := 4, maxLocals := 9, code := code, exceptionTable := #[], attributes := #[] }
def k1m1 : Method := { name := "law", desc := "(II)Z", sig := { parameters := [.int, .int], returnType := some .boolean }, accessFlags := 9, code := some k1c1 }
def k1c2 : Code := { maxStack := 8, maxLocals := 3, code := method_3_code, exceptionTable := #[], attributes := #[] }
def k1m2 : Method := { name := "take", desc := "([CII)Ljava/lang/String;", sig := { parameters := [(.array .char), .int, .int], returnType := some (.object "java/lang/String") }, accessFlags := 10, code := some k1c2 }
/-- com/example/goldpage/goldpage/golden/LineFieldsEndPinLaw -/
def k1 : Class := { plain "com/example/goldpage/goldpage/golden/LineFieldsEndPinLaw" (some 0) with
  accessFlags := 49
  interfaces := #[]
  cf := some (fileOf pool1 8 #[] #[{ accessFlags := 1, nameIndex := 5, descriptorIndex := 6, attributes := #[] }, { accessFlags := 9, nameIndex := 44, descriptorIndex := 45, attributes := #[] }, { accessFlags := 10, nameIndex := 11, descriptorIndex := 12, attributes := #[] }] 49 2 #[] #[])
  fields := #[]
  methods := #[k1m0, k1m1, k1m2]
  instanceTypes := #[]
  staticTypes := #[]
  resolved := Array.replicate 51 none
  statics := none }

def pool2 : Array CpInfo := pool [(1, .class_ 2), (0, u "java/io/Serializable"), (0, .class_ 4), (0, u "java/lang/Object")] 2

/-- java/io/Serializable -/
def k2 : Class := { plain "java/io/Serializable" (some 0) with
  accessFlags := 1537
  interfaces := #[]
  cf := some (fileOf pool2 1 #[] #[] 1537 3 #[] #[])
  fields := #[]
  methods := #[]
  instanceTypes := #[]
  staticTypes := #[]
  resolved := Array.replicate 7 none
  statics := none }

def pool3 : Array CpInfo := pool [(1, .class_ 2), (0, u "java/lang/Comparable"), (0, .class_ 4), (0, u "java/lang/Object")] 7

/-- java/lang/Comparable -/
def k3 : Class := { plain "java/lang/Comparable" (some 0) with
  accessFlags := 1537
  interfaces := #[]
  cf := some (fileOf pool3 1 #[] #[] 1537 3 #[] #[])
  fields := #[]
  methods := #[]
  instanceTypes := #[]
  staticTypes := #[]
  resolved := Array.replicate 12 none
  statics := none }

def pool4 : Array CpInfo := pool [(2, .class_ 4), (1, u "java/lang/CharSequence"), (42, .class_ 48), (0, u "java/lang/CharSequence$1CodePointIterator"), (10, .class_ 60), (0, u "java/lang/CharSequence$1CharIterator"), (5, .class_ 67), (0, u "java/lang/Object")] 63

/-- java/lang/CharSequence -/
def k4 : Class := { plain "java/lang/CharSequence" (some 0) with
  accessFlags := 1537
  interfaces := #[]
  cf := some (fileOf pool4 2 #[.nestMembers #[47, 59]] #[] 1537 66 #[] #[])
  fields := #[]
  methods := #[]
  instanceTypes := #[]
  staticTypes := #[]
  resolved := Array.replicate 131 none
  statics := none }

def pool5 : Array CpInfo := pool [(1, .class_ 2), (0, u "java/lang/constant/Constable"), (0, .class_ 4), (0, u "java/lang/Object")] 6

/-- java/lang/constant/Constable -/
def k5 : Class := { plain "java/lang/constant/Constable" (some 0) with
  accessFlags := 1537
  interfaces := #[]
  cf := some (fileOf pool5 1 #[] #[] 1537 3 #[] #[])
  fields := #[]
  methods := #[]
  instanceTypes := #[]
  staticTypes := #[]
  resolved := Array.replicate 11 none
  statics := none }

def pool6 : Array CpInfo := pool [(1, .class_ 2), (0, u "java/lang/constant/ConstantDesc"), (0, .class_ 4), (0, u "java/lang/Object")] 32

/-- java/lang/constant/ConstantDesc -/
def k6 : Class := { plain "java/lang/constant/ConstantDesc" (some 0) with
  accessFlags := 1537
  interfaces := #[]
  cf := some (fileOf pool6 1 #[] #[] 1537 3 #[] #[])
  fields := #[]
  methods := #[]
  instanceTypes := #[]
  staticTypes := #[]
  resolved := Array.replicate 37 none
  statics := none }

def pool7 : Array CpInfo := pool [(1, .methodref 2 3), (0, .class_ 4), (0, .nameAndType 5 6), (0, u "java/lang/Object"), (0, u "<init>"), (0, u "()V"), (0, .string 8), (0, u ""), (0, .fieldref 10 11), (0, .class_ 12), (0, .nameAndType 13 14), (0, u "java/lang/String"), (0, u "value"), (0, u "[B"), (0, .fieldref 10 16), (0, .nameAndType 17 18), (0, u "coder"), (0, u "B"), (2, u "hash"), (0, u "I"), (2, u "hashIsZero"), (0, u "Z"), (0, .methodref 10 28), (0, .nameAndType 5 29), (0, u "([CIILjava/lang/Void;)V"), (8, .fieldref 10 39), (0, .nameAndType 40 26), (0, u "COMPACT_STRINGS"), (1, .class_ 44), (1, u "java/lang/StringUTF16"), (0, u "compress"), (1, .methodref 42 48), (0, .nameAndType 49 50), (0, u "coderFromArrayLen"), (0, u "([BI)B"), (2, u "toBytes"), (53, .class_ 109), (1, u "java/lang/StringLatin1"), (32, u "()Z"), (34, .methodref 42 178), (0, .nameAndType 45 179), (0, u "([CII)[B"), (29, .methodref 10 210), (0, .nameAndType 5 211), (0, u "([BB)V"), (122, u "()I"), (0, .methodref 10 336), (0, .nameAndType 17 337), (0, u "()B"), (31, u "(C)Z"), (6, u "([BI[BII)I"), (115, .methodref 10 493), (0, .nameAndType 494 142), (0, u "isLatin1"), (10, .methodref 10 506), (0, .nameAndType 507 334), (0, u "length"), (5, u "checkFromToIndex"), (7, .methodref 10 522), (0, .nameAndType 523 524), (0, u "checkBoundsBeginEnd"), (0, u "(III)V"), (34, .class_ 561), (1, u "jdk/internal/util/ArraysSupport"), (0, u "mismatch"), (12, .class_ 576), (0, u "java/lang/CharSequence"), (22, u "CASE_INSENSITIVE_ORDER"), (0, u "Ljava/util/Comparator;"), (6, .methodref 559 608), (0, .nameAndType 562 376), (17, u "startsWith"), (0, u "(Ljava/lang/String;I)Z"), (7, u "indexOf"), (0, u "(II)I"), (0, .methodref 107 638), (0, .nameAndType 635 639), (0, u "([BIII)I"), (43, u "substring"), (0, u "(II)Ljava/lang/String;"), (0, .methodref 107 686), (0, .nameAndType 687 688), (0, u "newString"), (0, u "([BII)Ljava/lang/String;"), (3, u "isEmpty"), (89, u "valueOf"), (0, u "(C)Ljava/lang/String;"), (226, u "([C)V"), (4, .methodref 107 1016), (0, .nameAndType 1017 369), (0, u "canEncode"), (0, .methodref 107 1019), (0, .nameAndType 53 1020), (0, u "(C)[B"), (32, .fieldref 1054 1055), (0, .class_ 1056), (0, .nameAndType 1057 1058), (0, u "jdk/internal/util/Preconditions"), (0, u "SIOOBE_FORMATTER"), (0, u "Ljava/util/function/BiFunction;"), (3, .methodref 1054 1063), (0, .nameAndType 513 1064), (0, u "(IIILjava/util/function/BiFunction;)I"), (36, u "serialPersistentFields"), (0, u "[Ljava/io/ObjectStreamField;"), (0, .class_ 1104), (0, u "java/lang/String$CaseInsensitiveComparator"), (1, .class_ 1107), (0, u "java/io/Serializable"), (0, .class_ 1109), (0, u "java/lang/Comparable"), (0, .class_ 1111), (0, u "java/lang/constant/Constable"), (0, .class_ 1113), (0, u "java/lang/constant/ConstantDesc"), (2, u "serialVersionUID"), (0, u "J"), (3, u "REPL"), (0, u "C"), (2, u "LATIN1"), (1, u "UTF16")] 323

def k7m0 : Method := { name := "<init>", desc := "()V", sig := { parameters := [], returnType := none }, accessFlags := 1, code := none }
def k7c1 : Code := { maxStack := 5, maxLocals := 2, code := jdk_42_method_3_code, exceptionTable := #[], attributes := #[] }
def k7m1 : Method := { name := "<init>", desc := "([C)V", sig := { parameters := [(.array .char)], returnType := none }, accessFlags := 1, code := some k7c1 }
def k7c2 : Code := { maxStack := 2, maxLocals := 1, code := jdk_42_method_54_code, exceptionTable := #[], attributes := #[] }
def k7m2 : Method := { name := "length", desc := "()I", sig := { parameters := [], returnType := some .int }, accessFlags := 1, code := some k7c2 }
def k7c3 : Code := { maxStack := 1, maxLocals := 1, code := jdk_42_method_55_code, exceptionTable := #[], attributes := #[] }
def k7m3 : Method := { name := "isEmpty", desc := "()Z", sig := { parameters := [], returnType := some .boolean }, accessFlags := 1, code := some k7c3 }
def k7c4 : Code := { maxStack := 5, maxLocals := 8, code := jdk_42_method_75_code, exceptionTable := #[], attributes := #[] }
def k7m4 : Method := { name := "startsWith", desc := "(Ljava/lang/String;I)Z", sig := { parameters := [(.object "java/lang/String"), .int], returnType := some .boolean }, accessFlags := 1, code := some k7c4 }
def k7c5 : Code := { maxStack := 4, maxLocals := 3, code := jdk_42_method_80_code, exceptionTable := #[], attributes := #[] }
def k7m5 : Method := { name := "indexOf", desc := "(II)I", sig := { parameters := [.int, .int], returnType := some .int }, accessFlags := 1, code := some k7c5 }
def k7c6 : Code := { maxStack := 3, maxLocals := 5, code := jdk_42_method_92_code, exceptionTable := #[], attributes := #[] }
def k7m6 : Method := { name := "substring", desc := "(II)Ljava/lang/String;", sig := { parameters := [.int, .int], returnType := some (.object "java/lang/String") }, accessFlags := 1, code := some k7c6 }
def k7c7 : Code := { maxStack := 4, maxLocals := 1, code := jdk_42_method_139_code, exceptionTable := #[], attributes := #[] }
def k7m7 : Method := { name := "valueOf", desc := "(C)Ljava/lang/String;", sig := { parameters := [.char], returnType := some (.object "java/lang/String") }, accessFlags := 9, code := some k7c7 }
def k7c8 : Code := { maxStack := 4, maxLocals := 6, code := jdk_42_method_149_code, exceptionTable := #[], attributes := #[] }
def k7m8 : Method := { name := "<init>", desc := "([CIILjava/lang/Void;)V", sig := { parameters := [(.array .char), .int, .int, (.object "java/lang/Void")], returnType := none }, accessFlags := 2, code := some k7c8 }
def k7c9 : Code := { maxStack := 2, maxLocals := 3, code := jdk_42_method_151_code, exceptionTable := #[], attributes := #[] }
def k7m9 : Method := { name := "<init>", desc := "([BB)V", sig := { parameters := [(.array .byte), .byte], returnType := none }, accessFlags := 0, code := some k7c9 }
def k7c10 : Code := { maxStack := 1, maxLocals := 1, code := jdk_42_method_152_code, exceptionTable := #[], attributes := #[] }
def k7m10 : Method := { name := "coder", desc := "()B", sig := { parameters := [], returnType := some .byte }, accessFlags := 0, code := some k7c10 }
def k7c11 : Code := { maxStack := 1, maxLocals := 1, code := jdk_42_method_154_code, exceptionTable := #[], attributes := #[] }
def k7m11 : Method := { name := "isLatin1", desc := "()Z", sig := { parameters := [], returnType := some .boolean }, accessFlags := 0, code := some k7c11 }
def k7c12 : Code := { maxStack := 4, maxLocals := 3, code := jdk_42_method_158_code, exceptionTable := #[], attributes := #[] }
def k7m12 : Method := { name := "checkBoundsBeginEnd", desc := "(III)V", sig := { parameters := [.int, .int, .int], returnType := none }, accessFlags := 8, code := some k7c12 }
/-- java/lang/String -/
def k7 : Class := { plain "java/lang/String" (some 0) with
  accessFlags := 49
  interfaces := #[2, 3, 4, 5, 6]
  cf := some (fileOf pool7 10 #[.nestMembers #[1103]] #[{ accessFlags := 1, nameIndex := 5, descriptorIndex := 6, attributes := #[] }, { accessFlags := 1, nameIndex := 5, descriptorIndex := 1010, attributes := #[] }, { accessFlags := 1, nameIndex := 507, descriptorIndex := 334, attributes := #[] }, { accessFlags := 1, nameIndex := 692, descriptorIndex := 142, attributes := #[] }, { accessFlags := 1, nameIndex := 626, descriptorIndex := 627, attributes := #[] }, { accessFlags := 1, nameIndex := 635, descriptorIndex := 636, attributes := #[] }, { accessFlags := 1, nameIndex := 683, descriptorIndex := 684, attributes := #[] }, { accessFlags := 9, nameIndex := 782, descriptorIndex := 783, attributes := #[] }, { accessFlags := 2, nameIndex := 5, descriptorIndex := 29, attributes := #[] }, { accessFlags := 0, nameIndex := 5, descriptorIndex := 211, attributes := #[] }, { accessFlags := 0, nameIndex := 17, descriptorIndex := 337, attributes := #[] }, { accessFlags := 0, nameIndex := 494, descriptorIndex := 142, attributes := #[] }, { accessFlags := 8, nameIndex := 523, descriptorIndex := 524, attributes := #[] }] 49 2 #[1106, 1108, 575, 1110, 1112] #[{ accessFlags := 18, nameIndex := 13, descriptorIndex := 14, attributes := #[] }, { accessFlags := 18, nameIndex := 17, descriptorIndex := 18, attributes := #[] }, { accessFlags := 2, nameIndex := 21, descriptorIndex := 22, attributes := #[] }, { accessFlags := 2, nameIndex := 25, descriptorIndex := 26, attributes := #[] }, { accessFlags := 26, nameIndex := 1116, descriptorIndex := 1117, attributes := #[] }, { accessFlags := 24, nameIndex := 40, descriptorIndex := 26, attributes := #[] }, { accessFlags := 26, nameIndex := 1101, descriptorIndex := 1102, attributes := #[] }, { accessFlags := 26, nameIndex := 1121, descriptorIndex := 1122, attributes := #[] }, { accessFlags := 25, nameIndex := 599, descriptorIndex := 600, attributes := #[] }, { accessFlags := 24, nameIndex := 1125, descriptorIndex := 18, attributes := #[] }, { accessFlags := 24, nameIndex := 1127, descriptorIndex := 18, attributes := #[] }])
  fields := #[{ name := "value", type := (.array .byte), accessFlags := 18, slot := 0, constantValue := 0 }, { name := "coder", type := .byte, accessFlags := 18, slot := 1, constantValue := 0 }, { name := "hash", type := .int, accessFlags := 2, slot := 2, constantValue := 0 }, { name := "hashIsZero", type := .boolean, accessFlags := 2, slot := 3, constantValue := 0 }, { name := "serialVersionUID", type := .long, accessFlags := 26, slot := 0, constantValue := 0 }, { name := "COMPACT_STRINGS", type := .boolean, accessFlags := 24, slot := 1, constantValue := 0 }, { name := "serialPersistentFields", type := (.array (.object "java/io/ObjectStreamField")), accessFlags := 26, slot := 2, constantValue := 0 }, { name := "REPL", type := .char, accessFlags := 26, slot := 3, constantValue := 0 }, { name := "CASE_INSENSITIVE_ORDER", type := (.object "java/util/Comparator"), accessFlags := 25, slot := 4, constantValue := 0 }, { name := "LATIN1", type := .byte, accessFlags := 24, slot := 5, constantValue := 0 }, { name := "UTF16", type := .byte, accessFlags := 24, slot := 6, constantValue := 0 }]
  methods := #[k7m0, k7m1, k7m2, k7m3, k7m4, k7m5, k7m6, k7m7, k7m8, k7m9, k7m10, k7m11, k7m12]
  instanceTypes := #[(.array .byte), .byte, .int, .boolean]
  staticTypes := #[.long, .boolean, (.array (.object "java/io/ObjectStreamField")), .char, (.object "java/util/Comparator"), .byte, .byte]
  resolved := Array.replicate 1451 none
  statics := some 0 }

def pool8 : Array CpInfo := pool [(6, .class_ 8), (1, u "java/lang/Object"), (0, u "<init>"), (0, u "()V"), (1, .class_ 14), (1, u "java/lang/StringUTF16"), (31, u "$assertionsDisabled"), (0, u "Z"), (13, u "HI_BYTE_SHIFT"), (0, u "I"), (2, u "LO_BYTE_SHIFT"), (49, .methodref 12 116), (0, .nameAndType 117 118), (0, u "compress"), (0, u "([CI[BII)I"), (3, u "([CII)[B"), (138, u "coderFromArrayLen"), (0, u "([BI)B"), (106, .class_ 371), (1, u "java/lang/StringUTF16$LinesSpliterator"), (58, u "MAX_LENGTH"), (196, .class_ 628), (0, u "java/lang/StringUTF16$CodePointsSpliterator"), (0, .class_ 630), (0, u "java/lang/StringUTF16$CharsSpliterator")] 4

def k8m0 : Method := { name := "<init>", desc := "()V", sig := { parameters := [], returnType := none }, accessFlags := 0, code := none }
def k8c1 : Code := { maxStack := 2, maxLocals := 2, code := jdk_52_method_15_code, exceptionTable := #[], attributes := #[] }
def k8m1 : Method := { name := "coderFromArrayLen", desc := "([BI)B", sig := { parameters := [(.array .byte), .int], returnType := some .byte }, accessFlags := 8, code := some k8c1 }
def k8c2 : Code := { maxStack := 5, maxLocals := 6, code := jdk_52_method_16_code, exceptionTable := #[], attributes := #[] }
def k8m2 : Method := { name := "compress", desc := "([CII)[B", sig := { parameters := [(.array .char), .int, .int], returnType := some (.array .byte) }, accessFlags := 9, code := some k8c2 }
def k8c3 : Code := { maxStack := 3, maxLocals := 7, code := jdk_52_method_21_code, exceptionTable := #[], attributes := #[] }
def k8m3 : Method := { name := "compress", desc := "([CI[BII)I", sig := { parameters := [(.array .char), .int, (.array .byte), .int, .int], returnType := some .int }, accessFlags := 9, code := some k8c3 }
/-- java/lang/StringUTF16 -/
def k8 : Class := { plain "java/lang/StringUTF16" (some 0) with
  accessFlags := 48
  interfaces := #[]
  cf := some (fileOf pool8 12 #[.nestMembers #[627, 629, 369]] #[{ accessFlags := 0, nameIndex := 9, descriptorIndex := 10, attributes := #[] }, { accessFlags := 8, nameIndex := 261, descriptorIndex := 262, attributes := #[] }, { accessFlags := 9, nameIndex := 117, descriptorIndex := 122, attributes := #[] }, { accessFlags := 9, nameIndex := 117, descriptorIndex := 118, attributes := #[] }] 48 6 #[] #[{ accessFlags := 26, nameIndex := 61, descriptorIndex := 62, attributes := #[] }, { accessFlags := 26, nameIndex := 65, descriptorIndex := 62, attributes := #[] }, { accessFlags := 24, nameIndex := 430, descriptorIndex := 62, attributes := #[] }, { accessFlags := 4120, nameIndex := 46, descriptorIndex := 47, attributes := #[] }])
  fields := #[{ name := "HI_BYTE_SHIFT", type := .int, accessFlags := 26, slot := 0, constantValue := 0 }, { name := "LO_BYTE_SHIFT", type := .int, accessFlags := 26, slot := 1, constantValue := 0 }, { name := "MAX_LENGTH", type := .int, accessFlags := 24, slot := 2, constantValue := 0 }, { name := "$assertionsDisabled", type := .boolean, accessFlags := 4120, slot := 3, constantValue := 0 }]
  methods := #[k8m0, k8m1, k8m2, k8m3]
  instanceTypes := #[]
  staticTypes := #[.int, .int, .int, .boolean]
  resolved := Array.replicate 635 none
  statics := none }

def pool9 : Array CpInfo := pool [(1, .methodref 2 3), (0, .class_ 4), (0, .nameAndType 5 6), (0, u "java/lang/Object"), (0, u "<init>"), (0, u "()V"), (0, .fieldref 8 9), (0, .class_ 10), (0, .nameAndType 11 12), (0, u "com/example/goldpage/goldpage/golden/LineFields"), (0, u "line"), (0, u "Ljava/lang/String;"), (0, .fieldref 8 14), (0, .nameAndType 15 16), (0, u "next"), (0, u "I"), (14, u "word"), (0, u "()Ljava/lang/String;"), (13, .methodref 47 48), (0, .class_ 49), (0, .nameAndType 50 51), (0, u "java/lang/String"), (0, u "indexOf"), (0, u "(II)I"), (0, .methodref 47 53), (0, .nameAndType 54 55), (0, u "length"), (0, u "()I"), (0, .methodref 47 57), (0, .nameAndType 58 59), (0, u "substring"), (0, u "(II)Ljava/lang/String;"), (2, .methodref 47 63), (0, .nameAndType 64 65), (0, u "startsWith"), (0, u "(Ljava/lang/String;I)Z"), (68, u "skip"), (0, u "(Ljava/lang/String;)Z"), (6, u "end"), (6, u "(Ljava/lang/String;I)V")] 38

def k9c0 : Code := { maxStack := 2, maxLocals := 3, code := prog_27_method_1_code, exceptionTable := #[], attributes := #[] }
def k9m0 : Method := { name := "<init>", desc := "(Ljava/lang/String;I)V", sig := { parameters := [(.object "java/lang/String"), .int], returnType := none }, accessFlags := 0, code := some k9c0 }
def k9c1 : Code := { maxStack := 3, maxLocals := 4, code := prog_27_method_3_code, exceptionTable := #[], attributes := #[] }
def k9m1 : Method := { name := "word", desc := "()Ljava/lang/String;", sig := { parameters := [], returnType := some (.object "java/lang/String") }, accessFlags := 0, code := some k9c1 }
def k9c2 : Code := { maxStack := 3, maxLocals := 2, code := prog_27_method_7_code, exceptionTable := #[], attributes := #[] }
def k9m2 : Method := { name := "skip", desc := "(Ljava/lang/String;)Z", sig := { parameters := [(.object "java/lang/String")], returnType := some .boolean }, accessFlags := 0, code := some k9c2 }
def k9c3 : Code := { maxStack := 3, maxLocals := 1, code := prog_27_method_9_code, exceptionTable := #[], attributes := #[] }
def k9m3 : Method := { name := "end", desc := "()V", sig := { parameters := [], returnType := none }, accessFlags := 0, code := some k9c3 }
/-- com/example/goldpage/goldpage/golden/LineFields -/
def k9 : Class := { plain "com/example/goldpage/goldpage/golden/LineFields" (some 0) with
  accessFlags := 48
  interfaces := #[]
  cf := some (fileOf pool9 8 #[] #[{ accessFlags := 0, nameIndex := 5, descriptorIndex := 149, attributes := #[] }, { accessFlags := 0, nameIndex := 31, descriptorIndex := 32, attributes := #[] }, { accessFlags := 0, nameIndex := 134, descriptorIndex := 135, attributes := #[] }, { accessFlags := 0, nameIndex := 142, descriptorIndex := 6, attributes := #[] }] 48 2 #[] #[{ accessFlags := 18, nameIndex := 11, descriptorIndex := 12, attributes := #[] }, { accessFlags := 2, nameIndex := 15, descriptorIndex := 16, attributes := #[] }])
  fields := #[{ name := "line", type := (.object "java/lang/String"), accessFlags := 18, slot := 0, constantValue := 0 }, { name := "next", type := .int, accessFlags := 2, slot := 1, constantValue := 0 }]
  methods := #[k9m0, k9m1, k9m2, k9m3]
  instanceTypes := #[(.object "java/lang/String"), .int]
  staticTypes := #[]
  resolved := Array.replicate 188 none
  statics := none }

def pool10 : Array CpInfo := pool [(9, u "<init>"), (6, .class_ 18), (1, u "java/lang/Object"), (0, u "()V"), (1, .class_ 23), (1, u "jdk/internal/util/ArraysSupport"), (0, u "LOG2_ARRAY_LONG_INDEX_SCALE"), (0, u "I"), (2, u "U"), (0, u "Ljdk/internal/misc/Unsafe;"), (8, u "BIG_ENDIAN"), (0, u "Z"), (8, u "LOG2_BYTE_BIT_SIZE"), (4, u "LOG2_ARRAY_INT_INDEX_SCALE"), (54, u "JLA"), (0, u "Ljdk/internal/access/JavaLangAccess;"), (11, u "LOG2_ARRAY_BOOLEAN_INDEX_SCALE"), (9, u "LOG2_ARRAY_BYTE_INDEX_SCALE"), (5, u "LOG2_ARRAY_CHAR_INDEX_SCALE"), (5, u "LOG2_ARRAY_SHORT_INDEX_SCALE"), (5, u "mismatch"), (12, u "LOG2_ARRAY_FLOAT_INDEX_SCALE"), (24, u "LOG2_ARRAY_DOUBLE_INDEX_SCALE"), (89, u "T_BOOLEAN"), (2, u "T_CHAR"), (1, u "T_FLOAT"), (1, u "T_DOUBLE"), (1, u "T_BYTE"), (1, u "T_SHORT"), (1, u "T_INT"), (1, u "T_LONG"), (1, u "SOFT_MAX_ARRAY_LENGTH"), (42, u "([BI[BII)I")] 40

def k10m0 : Method := { name := "<init>", desc := "()V", sig := { parameters := [], returnType := none }, accessFlags := 2, code := none }
def k10c1 : Code := { maxStack := 8, maxLocals := 8, code := jdk_48_method_14_code, exceptionTable := #[], attributes := #[] }
def k10m1 : Method := { name := "mismatch", desc := "([BI[BII)I", sig := { parameters := [(.array .byte), .int, (.array .byte), .int, .int], returnType := some .int }, accessFlags := 9, code := some k10c1 }
/-- jdk/internal/util/ArraysSupport -/
def k10 : Class := { plain "jdk/internal/util/ArraysSupport" (some 0) with
  accessFlags := 33
  interfaces := #[]
  cf := some (fileOf pool10 21 #[] #[{ accessFlags := 2, nameIndex := 9, descriptorIndex := 19, attributes := #[] }, { accessFlags := 9, nameIndex := 149, descriptorIndex := 337, attributes := #[] }] 33 16 #[] #[{ accessFlags := 24, nameIndex := 28, descriptorIndex := 29, attributes := #[] }, { accessFlags := 26, nameIndex := 38, descriptorIndex := 39, attributes := #[] }, { accessFlags := 25, nameIndex := 121, descriptorIndex := 25, attributes := #[] }, { accessFlags := 25, nameIndex := 131, descriptorIndex := 25, attributes := #[] }, { accessFlags := 25, nameIndex := 137, descriptorIndex := 25, attributes := #[] }, { accessFlags := 25, nameIndex := 143, descriptorIndex := 25, attributes := #[] }, { accessFlags := 25, nameIndex := 53, descriptorIndex := 25, attributes := #[] }, { accessFlags := 25, nameIndex := 24, descriptorIndex := 25, attributes := #[] }, { accessFlags := 25, nameIndex := 162, descriptorIndex := 25, attributes := #[] }, { accessFlags := 25, nameIndex := 187, descriptorIndex := 25, attributes := #[] }, { accessFlags := 26, nameIndex := 48, descriptorIndex := 25, attributes := #[] }, { accessFlags := 25, nameIndex := 277, descriptorIndex := 25, attributes := #[] }, { accessFlags := 25, nameIndex := 280, descriptorIndex := 25, attributes := #[] }, { accessFlags := 25, nameIndex := 282, descriptorIndex := 25, attributes := #[] }, { accessFlags := 25, nameIndex := 284, descriptorIndex := 25, attributes := #[] }, { accessFlags := 25, nameIndex := 286, descriptorIndex := 25, attributes := #[] }, { accessFlags := 25, nameIndex := 288, descriptorIndex := 25, attributes := #[] }, { accessFlags := 25, nameIndex := 290, descriptorIndex := 25, attributes := #[] }, { accessFlags := 25, nameIndex := 292, descriptorIndex := 25, attributes := #[] }, { accessFlags := 26, nameIndex := 108, descriptorIndex := 109, attributes := #[] }, { accessFlags := 25, nameIndex := 294, descriptorIndex := 25, attributes := #[] }])
  fields := #[{ name := "U", type := (.object "jdk/internal/misc/Unsafe"), accessFlags := 24, slot := 0, constantValue := 0 }, { name := "BIG_ENDIAN", type := .boolean, accessFlags := 26, slot := 1, constantValue := 0 }, { name := "LOG2_ARRAY_BOOLEAN_INDEX_SCALE", type := .int, accessFlags := 25, slot := 2, constantValue := 0 }, { name := "LOG2_ARRAY_BYTE_INDEX_SCALE", type := .int, accessFlags := 25, slot := 3, constantValue := 0 }, { name := "LOG2_ARRAY_CHAR_INDEX_SCALE", type := .int, accessFlags := 25, slot := 4, constantValue := 0 }, { name := "LOG2_ARRAY_SHORT_INDEX_SCALE", type := .int, accessFlags := 25, slot := 5, constantValue := 0 }, { name := "LOG2_ARRAY_INT_INDEX_SCALE", type := .int, accessFlags := 25, slot := 6, constantValue := 0 }, { name := "LOG2_ARRAY_LONG_INDEX_SCALE", type := .int, accessFlags := 25, slot := 7, constantValue := 0 }, { name := "LOG2_ARRAY_FLOAT_INDEX_SCALE", type := .int, accessFlags := 25, slot := 8, constantValue := 0 }, { name := "LOG2_ARRAY_DOUBLE_INDEX_SCALE", type := .int, accessFlags := 25, slot := 9, constantValue := 0 }, { name := "LOG2_BYTE_BIT_SIZE", type := .int, accessFlags := 26, slot := 10, constantValue := 0 }, { name := "T_BOOLEAN", type := .int, accessFlags := 25, slot := 11, constantValue := 0 }, { name := "T_CHAR", type := .int, accessFlags := 25, slot := 12, constantValue := 0 }, { name := "T_FLOAT", type := .int, accessFlags := 25, slot := 13, constantValue := 0 }, { name := "T_DOUBLE", type := .int, accessFlags := 25, slot := 14, constantValue := 0 }, { name := "T_BYTE", type := .int, accessFlags := 25, slot := 15, constantValue := 0 }, { name := "T_SHORT", type := .int, accessFlags := 25, slot := 16, constantValue := 0 }, { name := "T_INT", type := .int, accessFlags := 25, slot := 17, constantValue := 0 }, { name := "T_LONG", type := .int, accessFlags := 25, slot := 18, constantValue := 0 }, { name := "JLA", type := (.object "jdk/internal/access/JavaLangAccess"), accessFlags := 26, slot := 19, constantValue := 0 }, { name := "SOFT_MAX_ARRAY_LENGTH", type := .int, accessFlags := 25, slot := 20, constantValue := 0 }]
  methods := #[k10m0, k10m1]
  instanceTypes := #[]
  staticTypes := #[(.object "jdk/internal/misc/Unsafe"), .boolean, .int, .int, .int, .int, .int, .int, .int, .int, .int, .int, .int, .int, .int, .int, .int, .int, .int, (.object "jdk/internal/access/JavaLangAccess"), .int]
  resolved := Array.replicate 378 none
  statics := none }

def pool11 : Array CpInfo := pool [(4, .class_ 6), (1, u "java/lang/Object"), (0, u "<init>"), (0, u "()V"), (5, .class_ 16), (1, u "java/lang/StringLatin1"), (21, .methodref 39 40), (0, .class_ 41), (0, .nameAndType 42 43), (0, u "java/lang/Math"), (0, u "min"), (0, u "(II)I"), (44, .methodref 14 89), (0, .nameAndType 90 91), (0, u "canEncode"), (0, u "(I)Z"), (0, .methodref 39 93), (0, .nameAndType 94 43), (0, u "max"), (3, u "([BIII)I"), (2, u "indexOf"), (3, u "(C)Z"), (15, u "$assertionsDisabled"), (0, u "Z"), (28, .string 152), (0, u ""), (43, u "newString"), (0, u "([BII)Ljava/lang/String;"), (23, .class_ 223), (1, u "java/lang/StringLatin1$LinesSpliterator"), (156, u "toBytes"), (1, u "(C)[B"), (7, .class_ 391), (0, u "java/lang/StringLatin1$CharsSpliterator")] 3

def k11m0 : Method := { name := "<init>", desc := "()V", sig := { parameters := [], returnType := none }, accessFlags := 0, code := none }
def k11c1 : Code := { maxStack := 2, maxLocals := 1, code := jdk_43_method_3_code, exceptionTable := #[], attributes := #[] }
def k11m1 : Method := { name := "canEncode", desc := "(C)Z", sig := { parameters := [.char], returnType := some .boolean }, accessFlags := 9, code := some k11c1 }
def k11c2 : Code := { maxStack := 2, maxLocals := 1, code := jdk_43_method_4_code, exceptionTable := #[], attributes := #[] }
def k11m2 : Method := { name := "canEncode", desc := "(I)Z", sig := { parameters := [.int], returnType := some .boolean }, accessFlags := 9, code := some k11c2 }
def k11c3 : Code := { maxStack := 4, maxLocals := 4, code := jdk_43_method_22_code, exceptionTable := #[], attributes := #[] }
def k11m3 : Method := { name := "indexOf", desc := "([BIII)I", sig := { parameters := [(.array .byte), .int, .int, .int], returnType := some .int }, accessFlags := 9, code := some k11c3 }
def k11c4 : Code := { maxStack := 4, maxLocals := 1, code := jdk_43_method_46_code, exceptionTable := #[], attributes := #[] }
def k11m4 : Method := { name := "toBytes", desc := "(C)[B", sig := { parameters := [.char], returnType := some (.array .byte) }, accessFlags := 9, code := some k11c4 }
def k11c5 : Code := { maxStack := 6, maxLocals := 3, code := jdk_43_method_47_code, exceptionTable := #[], attributes := #[] }
def k11m5 : Method := { name := "newString", desc := "([BII)Ljava/lang/String;", sig := { parameters := [(.array .byte), .int, .int], returnType := some (.object "java/lang/String") }, accessFlags := 9, code := some k11c5 }
/-- java/lang/StringLatin1 -/
def k11 : Class := { plain "java/lang/StringLatin1" (some 0) with
  accessFlags := 48
  interfaces := #[]
  cf := some (fileOf pool11 14 #[.nestMembers #[390, 221]] #[{ accessFlags := 0, nameIndex := 7, descriptorIndex := 8, attributes := #[] }, { accessFlags := 9, nameIndex := 90, descriptorIndex := 105, attributes := #[] }, { accessFlags := 9, nameIndex := 90, descriptorIndex := 91, attributes := #[] }, { accessFlags := 9, nameIndex := 101, descriptorIndex := 98, attributes := #[] }, { accessFlags := 9, nameIndex := 380, descriptorIndex := 382, attributes := #[] }, { accessFlags := 9, nameIndex := 196, descriptorIndex := 197, attributes := #[] }] 48 4 #[] #[{ accessFlags := 4120, nameIndex := 121, descriptorIndex := 122, attributes := #[] }])
  fields := #[{ name := "$assertionsDisabled", type := .boolean, accessFlags := 4120, slot := 0, constantValue := 0 }]
  methods := #[k11m0, k11m1, k11m2, k11m3, k11m4, k11m5]
  instanceTypes := #[]
  staticTypes := #[.boolean]
  resolved := Array.replicate 395 none
  statics := none }

def pool12 : Array CpInfo := pool [(1, .class_ 2), (0, u "java/lang/Math"), (1, .class_ 6), (1, u "java/lang/Object"), (0, u "<init>"), (0, u "()V"), (89, .class_ 100), (1, u "java/lang/Math$RandomNumberGeneratorHolder"), (71, u "negativeZeroFloatBits"), (0, u "J"), (2, u "negativeZeroDoubleBits"), (21, u "max"), (2, u "min"), (43, u "$assertionsDisabled"), (0, u "Z"), (88, u "(II)I"), (2, u "twoToTheDoubleScaleDown"), (0, u "D"), (4, u "twoToTheDoubleScaleUp"), (9, u "E"), (3, u "PI"), (2, u "TAU"), (2, u "DEGREES_TO_RADIANS"), (0, u "RADIANS_TO_DEGREES")] 94

def k12m0 : Method := { name := "<init>", desc := "()V", sig := { parameters := [], returnType := none }, accessFlags := 2, code := none }
def k12c1 : Code := { maxStack := 2, maxLocals := 2, code := jdk_29_method_65_code, exceptionTable := #[], attributes := #[] }
def k12m1 : Method := { name := "max", desc := "(II)I", sig := { parameters := [.int, .int], returnType := some .int }, accessFlags := 9, code := some k12c1 }
def k12c2 : Code := { maxStack := 2, maxLocals := 2, code := jdk_29_method_69_code, exceptionTable := #[], attributes := #[] }
def k12m2 : Method := { name := "min", desc := "(II)I", sig := { parameters := [.int, .int], returnType := some .int }, accessFlags := 9, code := some k12c2 }
/-- java/lang/Math -/
def k12 : Class := { plain "java/lang/Math" (some 0) with
  accessFlags := 49
  interfaces := #[]
  cf := some (fileOf pool12 1 #[.nestMembers #[98]] #[{ accessFlags := 2, nameIndex := 7, descriptorIndex := 8, attributes := #[] }, { accessFlags := 9, nameIndex := 198, descriptorIndex := 335, attributes := #[] }, { accessFlags := 9, nameIndex := 201, descriptorIndex := 335, attributes := #[] }] 49 4 #[] #[{ accessFlags := 25, nameIndex := 354, descriptorIndex := 339, attributes := #[] }, { accessFlags := 25, nameIndex := 358, descriptorIndex := 339, attributes := #[] }, { accessFlags := 25, nameIndex := 361, descriptorIndex := 339, attributes := #[] }, { accessFlags := 26, nameIndex := 364, descriptorIndex := 339, attributes := #[] }, { accessFlags := 26, nameIndex := 365, descriptorIndex := 339, attributes := #[] }, { accessFlags := 26, nameIndex := 172, descriptorIndex := 173, attributes := #[] }, { accessFlags := 26, nameIndex := 176, descriptorIndex := 173, attributes := #[] }, { accessFlags := 8, nameIndex := 344, descriptorIndex := 339, attributes := #[] }, { accessFlags := 8, nameIndex := 338, descriptorIndex := 339, attributes := #[] }, { accessFlags := 4120, nameIndex := 245, descriptorIndex := 246, attributes := #[] }])
  fields := #[{ name := "E", type := .double, accessFlags := 25, slot := 0, constantValue := 0 }, { name := "PI", type := .double, accessFlags := 25, slot := 1, constantValue := 0 }, { name := "TAU", type := .double, accessFlags := 25, slot := 2, constantValue := 0 }, { name := "DEGREES_TO_RADIANS", type := .double, accessFlags := 26, slot := 3, constantValue := 0 }, { name := "RADIANS_TO_DEGREES", type := .double, accessFlags := 26, slot := 4, constantValue := 0 }, { name := "negativeZeroFloatBits", type := .long, accessFlags := 26, slot := 5, constantValue := 0 }, { name := "negativeZeroDoubleBits", type := .long, accessFlags := 26, slot := 6, constantValue := 0 }, { name := "twoToTheDoubleScaleUp", type := .double, accessFlags := 8, slot := 7, constantValue := 0 }, { name := "twoToTheDoubleScaleDown", type := .double, accessFlags := 8, slot := 8, constantValue := 0 }, { name := "$assertionsDisabled", type := .boolean, accessFlags := 4120, slot := 9, constantValue := 0 }]
  methods := #[k12m0, k12m1, k12m2]
  instanceTypes := #[]
  staticTypes := #[.double, .double, .double, .double, .double, .long, .long, .double, .double, .boolean]
  resolved := Array.replicate 460 none
  statics := none }

def pool13 : Array CpInfo := pool [(2, .class_ 4), (1, u "java/lang/Object"), (0, u "<init>"), (0, u "()V"), (17, .class_ 26), (1, u "jdk/internal/util/Preconditions"), (20, u "checkFromToIndex"), (7, .class_ 56), (0, u "jdk/internal/util/Preconditions$4"), (57, .class_ 115), (0, u "jdk/internal/util/Preconditions$1"), (7, u "SIOOBE_FORMATTER"), (0, u "Ljava/util/function/BiFunction;"), (0, .class_ 126), (0, u "jdk/internal/util/Preconditions$2"), (3, u "AIOOBE_FORMATTER"), (0, .class_ 132), (0, u "jdk/internal/util/Preconditions$3"), (3, u "IOOBE_FORMATTER"), (46, u "(IIILjava/util/function/BiFunction;)I")] 10

def k13m0 : Method := { name := "<init>", desc := "()V", sig := { parameters := [], returnType := none }, accessFlags := 1, code := none }
def k13c1 : Code := { maxStack := 4, maxLocals := 4, code := jdk_41_method_12_code, exceptionTable := #[], attributes := #[] }
def k13m1 : Method := { name := "checkFromToIndex", desc := "(IIILjava/util/function/BiFunction;)I", sig := { parameters := [.int, .int, .int, (.object "java/util/function/BiFunction")], returnType := some .int }, accessFlags := 9, code := some k13c1 }
/-- jdk/internal/util/Preconditions -/
def k13 : Class := { plain "jdk/internal/util/Preconditions" (some 0) with
  accessFlags := 33
  interfaces := #[]
  cf := some (fileOf pool13 24 #[.nestMembers #[55, 131, 125, 114]] #[{ accessFlags := 1, nameIndex := 5, descriptorIndex := 6, attributes := #[] }, { accessFlags := 9, nameIndex := 47, descriptorIndex := 183, attributes := #[] }] 33 2 #[] #[{ accessFlags := 25, nameIndex := 123, descriptorIndex := 124, attributes := #[] }, { accessFlags := 25, nameIndex := 130, descriptorIndex := 124, attributes := #[] }, { accessFlags := 25, nameIndex := 136, descriptorIndex := 124, attributes := #[] }])
  fields := #[{ name := "SIOOBE_FORMATTER", type := (.object "java/util/function/BiFunction"), accessFlags := 25, slot := 0, constantValue := 0 }, { name := "AIOOBE_FORMATTER", type := (.object "java/util/function/BiFunction"), accessFlags := 25, slot := 1, constantValue := 0 }, { name := "IOOBE_FORMATTER", type := (.object "java/util/function/BiFunction"), accessFlags := 25, slot := 2, constantValue := 0 }]
  methods := #[k13m0, k13m1]
  instanceTypes := #[]
  staticTypes := #[(.object "java/util/function/BiFunction"), (.object "java/util/function/BiFunction"), (.object "java/util/function/BiFunction")]
  resolved := Array.replicate 194 none
  statics := some 1 }

def pool14 : Array CpInfo := pool [(1, u "java/lang/Cloneable"), (0, .class_ 1), (0, u "java/lang/Object"), (0, .class_ 3)] 3

/-- java/lang/Cloneable -/
def k14 : Class := { plain "java/lang/Cloneable" (some 0) with
  accessFlags := 1537
  interfaces := #[]
  cf := some (fileOf pool14 2 #[] #[] 1537 4 #[] #[])
  fields := #[]
  methods := #[]
  instanceTypes := #[]
  staticTypes := #[]
  resolved := Array.replicate 8 none
  statics := none }

/-- the primitive byte -/
def k15 : Class := { plain "byte" none with kind := .primitive 'B', accessFlags := 0x411 }
/-- [B -/
def k16 : Class := { plain "[B" (some 0) with kind := .array 15 .byte, interfaces := #[14, 2], accessFlags := 1041 }

/-- the primitive char -/
def k17 : Class := { plain "char" none with kind := .primitive 'C', accessFlags := 0x411 }
/-- [C -/
def k18 : Class := { plain "[C" (some 0) with kind := .array 17 .char, interfaces := #[14, 2], accessFlags := 1041 }

/-- the primitive int -/
def k19 : Class := { plain "int" none with kind := .primitive 'I', accessFlags := 0x411 }
/-- [I -/
def k20 : Class := { plain "[I" (some 0) with kind := .array 19 .int, interfaces := #[14, 2], accessFlags := 1041 }

def heap : Heap := #[{ cls := 7, slots := #[.long 0, .int 1, .null, .int 0, .null, .int 0, .int 0], vm := .statics 7 },
  { cls := 13, slots := #[.null, .null, .null], vm := .statics 13 }]
def classes : Array Class := #[k0, k1, k2, k3, k4, k5, k6, k7, k8, k9, k10, k11, k12, k13, k14, k15, k16, k17, k18, k19, k20]
def interned : List (Array UInt16 × Addr) := []
def slotsUsed : Nat := 10
def theMethod : MethodId := ⟨1, 1⟩
def args0 : Array Value := #[.int 5, .int 11]
def aboutOver (below : List Frame) : State where
  vm := { classes := classes, interned := interned.toArray }
  heap := heap
  slotsUsed := slotsUsed
  threads := #[{ frames := .invoking theMethod args0 :: below }]
def below0 : List Frame := [.native { method := ⟨0, 0⟩, args := #[] }]
def about1 : State := aboutOver below0
def p0 : Program := .bare "" "" ""
def e0 : Env := launch0.env 0 0 0
theorem w_frames : about1.frames = Frame.invoking theMethod args0 :: below0 := rfl
set_option maxRecDepth 65536 in
theorem w_args : argsFit about1.vm theMethod args0 = true := by decide +kernel
set_option maxRecDepth 65536 in
theorem w_heap : heapFits about1 = true := by decide +kernel
set_option maxRecDepth 65536 in
theorem w_runnable : about1.curStatus? = some .runnable := by decide +kernel
set_option maxRecDepth 65536 in
theorem w_alone : about1.alone = true := by decide +kernel
set_option maxRecDepth 65536 in
theorem w_named : about1.methodNamed? x = some theMethod := by decide +kernel
set_option maxRecDepth 65536 in
theorem w_hears : about1.hears theMethod below0 = true := by decide +kernel
set_option maxRecDepth 65536 in
theorem w_ripe : about1.ripe theMethod args0 below0 = true := by decide +kernel
theorem w_running : about1.status = .running := rfl
set_option maxRecDepth 65536 in
theorem w_room : about1.hasRoom e0.platform room_1 = true :=
  launch0.hasRoom_least _ room_1 (by decide +kernel) (by decide +kernel) (by decide +kernel) (by decide +kernel) (by decide +kernel) (by decide +kernel)
theorem allAtoms_all (ts : List Jvm.Cond) (a : Array Jvm.Value) (st : Jvm.State) : (allAtoms ts).before a st = ts.all (fun c => c.before a st) := by
  induction ts with
  | nil => rfl
  | cons c t ih =>
    show (Jvm.Cond.and c (allAtoms t)).before a st = _
    rw [Jvm.Cond.before_and, ih, List.all_cons]
def words1 : List Jvm.Cond := Jvm.Cond.code x code maxLocals ret :: tables_1
/-- a 'code' word, met by the world's own term for the bytes: nothing is compared byte by byte -/
theorem code_word {y : MethodName} {bytes : ByteArray} {mx : Nat} {rt : Option FieldType} {a : Array Value} {s : State} {m : MethodId} {meth : Method} {c : Code} (h1 : s.methodNamed? y = some m) (h2 : s.vm.method? m = some meth) (h3 : meth.code = some c) (h4 : c.code = bytes)
    (h5 : (c.maxLocals == mx && c.exceptionTable.isEmpty && decide (c.maxStack ≤ mostOperands) && decide (meth.sig.returnType = rt) && !meth.locks && decide (parseMethodDescriptor y.desc = some meth.sig)) = true) : (Jvm.Cond.code y bytes mx rt).before a s = true := by
  simp only [Bool.and_eq_true, beq_iff_eq, Bool.not_eq_true', decide_eq_true_eq] at h5
  obtain ⟨⟨⟨⟨⟨g1, g2⟩, g3⟩, g4⟩, g5⟩, g6⟩ := h5
  simp [Cond.before, Cond.holds, Cond.value, h1, h2, h3, h4, g1, g2, g3, g4, g5, g6]
def isCode : Jvm.Cond → Bool
  | .code _ _ _ _ => true
  | _ => false
theorem all_split {L : List Jvm.Cond} {P : Jvm.Cond → Bool} (h1 : L.all (fun c => isCode c || P c) = true) (h2 : ∀ c ∈ L.filter isCode, P c = true) : L.all P = true := by
  refine List.all_eq_true.mpr fun c hc => ?_
  have h := List.all_eq_true.mp h1 c hc
  rcases Bool.eq_false_or_eq_true (isCode c) with hi | hi
  · exact h2 c (List.mem_filter.mpr ⟨hc, hi⟩)
  · simpa [hi] using h
set_option maxRecDepth 65536 in
theorem w_c0 : (Jvm.Cond.code x code maxLocals ret).before args0 about1 = true := code_word (m := ⟨1, 1⟩) (meth := k1m1) (c := k1c1) (by decide +kernel) rfl rfl rfl (by decide +kernel)
set_option maxRecDepth 65536 in
theorem w_c1 : (Jvm.Cond.code ({ cls := "com/example/goldpage/goldpage/golden/LineFieldsEndPinLaw", name := "take", desc := "([CII)Ljava/lang/String;" } : Jvm.MethodName) method_3_code (3 : Nat) (Option.some (Jvm.ClassFile.FieldType.object "java/lang/String"))).before args0 about1 = true := code_word (m := ⟨1, 2⟩) (meth := k1m2) (c := k1c2) (by decide +kernel) rfl rfl rfl (by decide +kernel)
set_option maxRecDepth 65536 in
theorem w_c2 : (Jvm.Cond.code ({ cls := "java/lang/String", name := "<init>", desc := "([C)V" } : Jvm.MethodName) jdk_42_method_3_code (2 : Nat) (Option.none : Option Jvm.ClassFile.FieldType)).before args0 about1 = true := code_word (m := ⟨7, 1⟩) (meth := k7m1) (c := k7c1) (by decide +kernel) rfl rfl rfl (by decide +kernel)
set_option maxRecDepth 65536 in
theorem w_c3 : (Jvm.Cond.code ({ cls := "java/lang/String", name := "<init>", desc := "([CIILjava/lang/Void;)V" } : Jvm.MethodName) jdk_42_method_149_code (6 : Nat) (Option.none : Option Jvm.ClassFile.FieldType)).before args0 about1 = true := code_word (m := ⟨7, 8⟩) (meth := k7m8) (c := k7c8) (by decide +kernel) rfl rfl rfl (by decide +kernel)
set_option maxRecDepth 65536 in
theorem w_c4 : (Jvm.Cond.code ({ cls := "java/lang/Object", name := "<init>", desc := "()V" } : Jvm.MethodName) object_method_1_code (1 : Nat) (Option.none : Option Jvm.ClassFile.FieldType)).before args0 about1 = true := code_word (m := ⟨0, 0⟩) (meth := k0m0) (c := k0c0) (by decide +kernel) rfl rfl rfl (by decide +kernel)
set_option maxRecDepth 65536 in
theorem w_c5 : (Jvm.Cond.code ({ cls := "java/lang/StringUTF16", name := "compress", desc := "([CII)[B" } : Jvm.MethodName) jdk_52_method_16_code (6 : Nat) (Option.some (Jvm.ClassFile.FieldType.array Jvm.ClassFile.FieldType.byte))).before args0 about1 = true := code_word (m := ⟨8, 2⟩) (meth := k8m2) (c := k8c2) (by decide +kernel) rfl rfl rfl (by decide +kernel)
set_option maxRecDepth 65536 in
theorem w_c6 : (Jvm.Cond.code ({ cls := "java/lang/StringUTF16", name := "compress", desc := "([CI[BII)I" } : Jvm.MethodName) jdk_52_method_21_code (7 : Nat) (Option.some Jvm.ClassFile.FieldType.int)).before args0 about1 = true := code_word (m := ⟨8, 3⟩) (meth := k8m3) (c := k8c3) (by decide +kernel) rfl rfl rfl (by decide +kernel)
set_option maxRecDepth 65536 in
theorem w_c7 : (Jvm.Cond.code ({ cls := "java/lang/StringUTF16", name := "coderFromArrayLen", desc := "([BI)B" } : Jvm.MethodName) jdk_52_method_15_code (2 : Nat) (Option.some Jvm.ClassFile.FieldType.byte)).before args0 about1 = true := code_word (m := ⟨8, 1⟩) (meth := k8m1) (c := k8c1) (by decide +kernel) rfl rfl rfl (by decide +kernel)
set_option maxRecDepth 65536 in
theorem w_c8 : (Jvm.Cond.code ({ cls := "com/example/goldpage/goldpage/golden/LineFields", name := "<init>", desc := "(Ljava/lang/String;I)V" } : Jvm.MethodName) prog_27_method_1_code (3 : Nat) (Option.none : Option Jvm.ClassFile.FieldType)).before args0 about1 = true := code_word (m := ⟨9, 0⟩) (meth := k9m0) (c := k9c0) (by decide +kernel) rfl rfl rfl (by decide +kernel)
set_option maxRecDepth 65536 in
theorem w_c9 : (Jvm.Cond.code ({ cls := "com/example/goldpage/goldpage/golden/LineFields", name := "skip", desc := "(Ljava/lang/String;)Z" } : Jvm.MethodName) prog_27_method_7_code (2 : Nat) (Option.some Jvm.ClassFile.FieldType.boolean)).before args0 about1 = true := code_word (m := ⟨9, 2⟩) (meth := k9m2) (c := k9c2) (by decide +kernel) rfl rfl rfl (by decide +kernel)
set_option maxRecDepth 65536 in
theorem w_c10 : (Jvm.Cond.code ({ cls := "java/lang/String", name := "startsWith", desc := "(Ljava/lang/String;I)Z" } : Jvm.MethodName) jdk_42_method_75_code (8 : Nat) (Option.some Jvm.ClassFile.FieldType.boolean)).before args0 about1 = true := code_word (m := ⟨7, 4⟩) (meth := k7m4) (c := k7c4) (by decide +kernel) rfl rfl rfl (by decide +kernel)
set_option maxRecDepth 65536 in
theorem w_c11 : (Jvm.Cond.code ({ cls := "java/lang/String", name := "length", desc := "()I" } : Jvm.MethodName) jdk_42_method_54_code (1 : Nat) (Option.some Jvm.ClassFile.FieldType.int)).before args0 about1 = true := code_word (m := ⟨7, 2⟩) (meth := k7m2) (c := k7c2) (by decide +kernel) rfl rfl rfl (by decide +kernel)
set_option maxRecDepth 65536 in
theorem w_c12 : (Jvm.Cond.code ({ cls := "java/lang/String", name := "coder", desc := "()B" } : Jvm.MethodName) jdk_42_method_152_code (1 : Nat) (Option.some Jvm.ClassFile.FieldType.byte)).before args0 about1 = true := code_word (m := ⟨7, 10⟩) (meth := k7m10) (c := k7c10) (by decide +kernel) rfl rfl rfl (by decide +kernel)
set_option maxRecDepth 65536 in
theorem w_c13 : (Jvm.Cond.code ({ cls := "jdk/internal/util/ArraysSupport", name := "mismatch", desc := "([BI[BII)I" } : Jvm.MethodName) jdk_48_method_14_code (8 : Nat) (Option.some Jvm.ClassFile.FieldType.int)).before args0 about1 = true := code_word (m := ⟨10, 1⟩) (meth := k10m1) (c := k10c1) (by decide +kernel) rfl rfl rfl (by decide +kernel)
set_option maxRecDepth 65536 in
theorem w_c14 : (Jvm.Cond.code ({ cls := "com/example/goldpage/goldpage/golden/LineFields", name := "end", desc := "()V" } : Jvm.MethodName) prog_27_method_9_code (1 : Nat) (Option.none : Option Jvm.ClassFile.FieldType)).before args0 about1 = true := code_word (m := ⟨9, 3⟩) (meth := k9m3) (c := k9c3) (by decide +kernel) rfl rfl rfl (by decide +kernel)
set_option maxRecDepth 65536 in
theorem w_c15 : (Jvm.Cond.code ({ cls := "com/example/goldpage/goldpage/golden/LineFields", name := "word", desc := "()Ljava/lang/String;" } : Jvm.MethodName) prog_27_method_3_code (4 : Nat) (Option.some (Jvm.ClassFile.FieldType.object "java/lang/String"))).before args0 about1 = true := code_word (m := ⟨9, 1⟩) (meth := k9m1) (c := k9c1) (by decide +kernel) rfl rfl rfl (by decide +kernel)
set_option maxRecDepth 65536 in
theorem w_c16 : (Jvm.Cond.code ({ cls := "java/lang/String", name := "indexOf", desc := "(II)I" } : Jvm.MethodName) jdk_42_method_80_code (3 : Nat) (Option.some Jvm.ClassFile.FieldType.int)).before args0 about1 = true := code_word (m := ⟨7, 5⟩) (meth := k7m5) (c := k7c5) (by decide +kernel) rfl rfl rfl (by decide +kernel)
set_option maxRecDepth 65536 in
theorem w_c17 : (Jvm.Cond.code ({ cls := "java/lang/String", name := "isLatin1", desc := "()Z" } : Jvm.MethodName) jdk_42_method_154_code (1 : Nat) (Option.some Jvm.ClassFile.FieldType.boolean)).before args0 about1 = true := code_word (m := ⟨7, 11⟩) (meth := k7m11) (c := k7c11) (by decide +kernel) rfl rfl rfl (by decide +kernel)
set_option maxRecDepth 65536 in
theorem w_c18 : (Jvm.Cond.code ({ cls := "java/lang/StringLatin1", name := "indexOf", desc := "([BIII)I" } : Jvm.MethodName) jdk_43_method_22_code (4 : Nat) (Option.some Jvm.ClassFile.FieldType.int)).before args0 about1 = true := code_word (m := ⟨11, 3⟩) (meth := k11m3) (c := k11c3) (by decide +kernel) rfl rfl rfl (by decide +kernel)
set_option maxRecDepth 65536 in
theorem w_c19 : (Jvm.Cond.code ({ cls := "java/lang/StringLatin1", name := "canEncode", desc := "(I)Z" } : Jvm.MethodName) jdk_43_method_4_code (1 : Nat) (Option.some Jvm.ClassFile.FieldType.boolean)).before args0 about1 = true := code_word (m := ⟨11, 2⟩) (meth := k11m2) (c := k11c2) (by decide +kernel) rfl rfl rfl (by decide +kernel)
set_option maxRecDepth 65536 in
theorem w_c20 : (Jvm.Cond.code ({ cls := "java/lang/Math", name := "max", desc := "(II)I" } : Jvm.MethodName) jdk_29_method_65_code (2 : Nat) (Option.some Jvm.ClassFile.FieldType.int)).before args0 about1 = true := code_word (m := ⟨12, 1⟩) (meth := k12m1) (c := k12c1) (by decide +kernel) rfl rfl rfl (by decide +kernel)
set_option maxRecDepth 65536 in
theorem w_c21 : (Jvm.Cond.code ({ cls := "java/lang/Math", name := "min", desc := "(II)I" } : Jvm.MethodName) jdk_29_method_69_code (2 : Nat) (Option.some Jvm.ClassFile.FieldType.int)).before args0 about1 = true := code_word (m := ⟨12, 2⟩) (meth := k12m2) (c := k12c2) (by decide +kernel) rfl rfl rfl (by decide +kernel)
set_option maxRecDepth 65536 in
theorem w_c22 : (Jvm.Cond.code ({ cls := "java/lang/String", name := "substring", desc := "(II)Ljava/lang/String;" } : Jvm.MethodName) jdk_42_method_92_code (5 : Nat) (Option.some (Jvm.ClassFile.FieldType.object "java/lang/String"))).before args0 about1 = true := code_word (m := ⟨7, 6⟩) (meth := k7m6) (c := k7c6) (by decide +kernel) rfl rfl rfl (by decide +kernel)
set_option maxRecDepth 65536 in
theorem w_c23 : (Jvm.Cond.code ({ cls := "java/lang/String", name := "checkBoundsBeginEnd", desc := "(III)V" } : Jvm.MethodName) jdk_42_method_158_code (3 : Nat) (Option.none : Option Jvm.ClassFile.FieldType)).before args0 about1 = true := code_word (m := ⟨7, 12⟩) (meth := k7m12) (c := k7c12) (by decide +kernel) rfl rfl rfl (by decide +kernel)
set_option maxRecDepth 65536 in
theorem w_c24 : (Jvm.Cond.code ({ cls := "jdk/internal/util/Preconditions", name := "checkFromToIndex", desc := "(IIILjava/util/function/BiFunction;)I" } : Jvm.MethodName) jdk_41_method_12_code (4 : Nat) (Option.some Jvm.ClassFile.FieldType.int)).before args0 about1 = true := code_word (m := ⟨13, 1⟩) (meth := k13m1) (c := k13c1) (by decide +kernel) rfl rfl rfl (by decide +kernel)
set_option maxRecDepth 65536 in
theorem w_c25 : (Jvm.Cond.code ({ cls := "java/lang/StringLatin1", name := "newString", desc := "([BII)Ljava/lang/String;" } : Jvm.MethodName) jdk_43_method_47_code (3 : Nat) (Option.some (Jvm.ClassFile.FieldType.object "java/lang/String"))).before args0 about1 = true := code_word (m := ⟨11, 5⟩) (meth := k11m5) (c := k11c5) (by decide +kernel) rfl rfl rfl (by decide +kernel)
set_option maxRecDepth 65536 in
theorem w_c26 : (Jvm.Cond.code ({ cls := "java/lang/String", name := "isEmpty", desc := "()Z" } : Jvm.MethodName) jdk_42_method_55_code (1 : Nat) (Option.some Jvm.ClassFile.FieldType.boolean)).before args0 about1 = true := code_word (m := ⟨7, 3⟩) (meth := k7m3) (c := k7c3) (by decide +kernel) rfl rfl rfl (by decide +kernel)
set_option maxRecDepth 65536 in
theorem w_c27 : (Jvm.Cond.code ({ cls := "java/lang/String", name := "valueOf", desc := "(C)Ljava/lang/String;" } : Jvm.MethodName) jdk_42_method_139_code (1 : Nat) (Option.some (Jvm.ClassFile.FieldType.object "java/lang/String"))).before args0 about1 = true := code_word (m := ⟨7, 7⟩) (meth := k7m7) (c := k7c7) (by decide +kernel) rfl rfl rfl (by decide +kernel)
set_option maxRecDepth 65536 in
theorem w_c28 : (Jvm.Cond.code ({ cls := "java/lang/StringLatin1", name := "canEncode", desc := "(C)Z" } : Jvm.MethodName) jdk_43_method_3_code (1 : Nat) (Option.some Jvm.ClassFile.FieldType.boolean)).before args0 about1 = true := code_word (m := ⟨11, 1⟩) (meth := k11m1) (c := k11c1) (by decide +kernel) rfl rfl rfl (by decide +kernel)
set_option maxRecDepth 65536 in
theorem w_c29 : (Jvm.Cond.code ({ cls := "java/lang/StringLatin1", name := "toBytes", desc := "(C)[B" } : Jvm.MethodName) jdk_43_method_46_code (1 : Nat) (Option.some (Jvm.ClassFile.FieldType.array Jvm.ClassFile.FieldType.byte))).before args0 about1 = true := code_word (m := ⟨11, 4⟩) (meth := k11m4) (c := k11c4) (by decide +kernel) rfl rfl rfl (by decide +kernel)
set_option maxRecDepth 65536 in
theorem w_c30 : (Jvm.Cond.code ({ cls := "java/lang/String", name := "<init>", desc := "([BB)V" } : Jvm.MethodName) jdk_42_method_151_code (3 : Nat) (Option.none : Option Jvm.ClassFile.FieldType)).before args0 about1 = true := code_word (m := ⟨7, 9⟩) (meth := k7m9) (c := k7c9) (by decide +kernel) rfl rfl rfl (by decide +kernel)
def codes1 : List Jvm.Cond := [Jvm.Cond.code x code maxLocals ret, Jvm.Cond.code ({ cls := "com/example/goldpage/goldpage/golden/LineFieldsEndPinLaw", name := "take", desc := "([CII)Ljava/lang/String;" } : Jvm.MethodName) method_3_code (3 : Nat) (Option.some (Jvm.ClassFile.FieldType.object "java/lang/String")), Jvm.Cond.code ({ cls := "java/lang/String", name := "<init>", desc := "([C)V" } : Jvm.MethodName) jdk_42_method_3_code (2 : Nat) (Option.none : Option Jvm.ClassFile.FieldType), Jvm.Cond.code ({ cls := "java/lang/String", name := "<init>", desc := "([CIILjava/lang/Void;)V" } : Jvm.MethodName) jdk_42_method_149_code (6 : Nat) (Option.none : Option Jvm.ClassFile.FieldType), Jvm.Cond.code ({ cls := "java/lang/Object", name := "<init>", desc := "()V" } : Jvm.MethodName) object_method_1_code (1 : Nat) (Option.none : Option Jvm.ClassFile.FieldType), Jvm.Cond.code ({ cls := "java/lang/StringUTF16", name := "compress", desc := "([CII)[B" } : Jvm.MethodName) jdk_52_method_16_code (6 : Nat) (Option.some (Jvm.ClassFile.FieldType.array Jvm.ClassFile.FieldType.byte)), Jvm.Cond.code ({ cls := "java/lang/StringUTF16", name := "compress", desc := "([CI[BII)I" } : Jvm.MethodName) jdk_52_method_21_code (7 : Nat) (Option.some Jvm.ClassFile.FieldType.int), Jvm.Cond.code ({ cls := "java/lang/StringUTF16", name := "coderFromArrayLen", desc := "([BI)B" } : Jvm.MethodName) jdk_52_method_15_code (2 : Nat) (Option.some Jvm.ClassFile.FieldType.byte), Jvm.Cond.code ({ cls := "com/example/goldpage/goldpage/golden/LineFields", name := "<init>", desc := "(Ljava/lang/String;I)V" } : Jvm.MethodName) prog_27_method_1_code (3 : Nat) (Option.none : Option Jvm.ClassFile.FieldType), Jvm.Cond.code ({ cls := "com/example/goldpage/goldpage/golden/LineFields", name := "skip", desc := "(Ljava/lang/String;)Z" } : Jvm.MethodName) prog_27_method_7_code (2 : Nat) (Option.some Jvm.ClassFile.FieldType.boolean), Jvm.Cond.code ({ cls := "java/lang/String", name := "startsWith", desc := "(Ljava/lang/String;I)Z" } : Jvm.MethodName) jdk_42_method_75_code (8 : Nat) (Option.some Jvm.ClassFile.FieldType.boolean), Jvm.Cond.code ({ cls := "java/lang/String", name := "length", desc := "()I" } : Jvm.MethodName) jdk_42_method_54_code (1 : Nat) (Option.some Jvm.ClassFile.FieldType.int), Jvm.Cond.code ({ cls := "java/lang/String", name := "coder", desc := "()B" } : Jvm.MethodName) jdk_42_method_152_code (1 : Nat) (Option.some Jvm.ClassFile.FieldType.byte), Jvm.Cond.code ({ cls := "jdk/internal/util/ArraysSupport", name := "mismatch", desc := "([BI[BII)I" } : Jvm.MethodName) jdk_48_method_14_code (8 : Nat) (Option.some Jvm.ClassFile.FieldType.int), Jvm.Cond.code ({ cls := "com/example/goldpage/goldpage/golden/LineFields", name := "end", desc := "()V" } : Jvm.MethodName) prog_27_method_9_code (1 : Nat) (Option.none : Option Jvm.ClassFile.FieldType), Jvm.Cond.code ({ cls := "com/example/goldpage/goldpage/golden/LineFields", name := "word", desc := "()Ljava/lang/String;" } : Jvm.MethodName) prog_27_method_3_code (4 : Nat) (Option.some (Jvm.ClassFile.FieldType.object "java/lang/String")), Jvm.Cond.code ({ cls := "java/lang/String", name := "indexOf", desc := "(II)I" } : Jvm.MethodName) jdk_42_method_80_code (3 : Nat) (Option.some Jvm.ClassFile.FieldType.int), Jvm.Cond.code ({ cls := "java/lang/String", name := "isLatin1", desc := "()Z" } : Jvm.MethodName) jdk_42_method_154_code (1 : Nat) (Option.some Jvm.ClassFile.FieldType.boolean), Jvm.Cond.code ({ cls := "java/lang/StringLatin1", name := "indexOf", desc := "([BIII)I" } : Jvm.MethodName) jdk_43_method_22_code (4 : Nat) (Option.some Jvm.ClassFile.FieldType.int), Jvm.Cond.code ({ cls := "java/lang/StringLatin1", name := "canEncode", desc := "(I)Z" } : Jvm.MethodName) jdk_43_method_4_code (1 : Nat) (Option.some Jvm.ClassFile.FieldType.boolean), Jvm.Cond.code ({ cls := "java/lang/Math", name := "max", desc := "(II)I" } : Jvm.MethodName) jdk_29_method_65_code (2 : Nat) (Option.some Jvm.ClassFile.FieldType.int), Jvm.Cond.code ({ cls := "java/lang/Math", name := "min", desc := "(II)I" } : Jvm.MethodName) jdk_29_method_69_code (2 : Nat) (Option.some Jvm.ClassFile.FieldType.int), Jvm.Cond.code ({ cls := "java/lang/String", name := "substring", desc := "(II)Ljava/lang/String;" } : Jvm.MethodName) jdk_42_method_92_code (5 : Nat) (Option.some (Jvm.ClassFile.FieldType.object "java/lang/String")), Jvm.Cond.code ({ cls := "java/lang/String", name := "checkBoundsBeginEnd", desc := "(III)V" } : Jvm.MethodName) jdk_42_method_158_code (3 : Nat) (Option.none : Option Jvm.ClassFile.FieldType), Jvm.Cond.code ({ cls := "jdk/internal/util/Preconditions", name := "checkFromToIndex", desc := "(IIILjava/util/function/BiFunction;)I" } : Jvm.MethodName) jdk_41_method_12_code (4 : Nat) (Option.some Jvm.ClassFile.FieldType.int), Jvm.Cond.code ({ cls := "java/lang/StringLatin1", name := "newString", desc := "([BII)Ljava/lang/String;" } : Jvm.MethodName) jdk_43_method_47_code (3 : Nat) (Option.some (Jvm.ClassFile.FieldType.object "java/lang/String")), Jvm.Cond.code ({ cls := "java/lang/String", name := "isEmpty", desc := "()Z" } : Jvm.MethodName) jdk_42_method_55_code (1 : Nat) (Option.some Jvm.ClassFile.FieldType.boolean), Jvm.Cond.code ({ cls := "java/lang/String", name := "valueOf", desc := "(C)Ljava/lang/String;" } : Jvm.MethodName) jdk_42_method_139_code (1 : Nat) (Option.some (Jvm.ClassFile.FieldType.object "java/lang/String")), Jvm.Cond.code ({ cls := "java/lang/StringLatin1", name := "canEncode", desc := "(C)Z" } : Jvm.MethodName) jdk_43_method_3_code (1 : Nat) (Option.some Jvm.ClassFile.FieldType.boolean), Jvm.Cond.code ({ cls := "java/lang/StringLatin1", name := "toBytes", desc := "(C)[B" } : Jvm.MethodName) jdk_43_method_46_code (1 : Nat) (Option.some (Jvm.ClassFile.FieldType.array Jvm.ClassFile.FieldType.byte)), Jvm.Cond.code ({ cls := "java/lang/String", name := "<init>", desc := "([BB)V" } : Jvm.MethodName) jdk_42_method_151_code (3 : Nat) (Option.none : Option Jvm.ClassFile.FieldType)]
set_option maxRecDepth 65536 in
theorem codes_eq : words1.filter isCode = codes1 := rfl
theorem w_codes : ∀ c ∈ words1.filter isCode, c.before args0 about1 = true := by
  rw [codes_eq]
  intro c hc
  simp only [codes1, List.mem_cons, List.not_mem_nil, or_false] at hc
  rcases hc with rfl | rfl | rfl | rfl | rfl | rfl | rfl | rfl | rfl | rfl | rfl | rfl | rfl | rfl | rfl | rfl | rfl | rfl | rfl | rfl | rfl | rfl | rfl | rfl | rfl | rfl | rfl | rfl | rfl | rfl | rfl
  · exact w_c0
  · exact w_c1
  · exact w_c2
  · exact w_c3
  · exact w_c4
  · exact w_c5
  · exact w_c6
  · exact w_c7
  · exact w_c8
  · exact w_c9
  · exact w_c10
  · exact w_c11
  · exact w_c12
  · exact w_c13
  · exact w_c14
  · exact w_c15
  · exact w_c16
  · exact w_c17
  · exact w_c18
  · exact w_c19
  · exact w_c20
  · exact w_c21
  · exact w_c22
  · exact w_c23
  · exact w_c24
  · exact w_c25
  · exact w_c26
  · exact w_c27
  · exact w_c28
  · exact w_c29
  · exact w_c30
set_option maxRecDepth 65536 in
theorem w_t1 : (words1.take 24).all (fun c => isCode c || c.before args0 about1) = true := by decide +kernel
set_option maxRecDepth 65536 in
theorem w_t2 : ((words1.drop 24).take 24).all (fun c => isCode c || c.before args0 about1) = true := by decide +kernel
set_option maxRecDepth 65536 in
theorem w_t3 : (((words1.drop 24).drop 24).take 24).all (fun c => isCode c || c.before args0 about1) = true := by decide +kernel
set_option maxRecDepth 65536 in
theorem w_t4 : ((((words1.drop 24).drop 24).drop 24).take 24).all (fun c => isCode c || c.before args0 about1) = true := by decide +kernel
set_option maxRecDepth 65536 in
theorem w_t5 : (((((words1.drop 24).drop 24).drop 24).drop 24).take 24).all (fun c => isCode c || c.before args0 about1) = true := by decide +kernel
set_option maxRecDepth 65536 in
theorem w_t6 : (((((words1.drop 24).drop 24).drop 24).drop 24).drop 24).all (fun c => isCode c || c.before args0 about1) = true := by decide +kernel
theorem w_tables : (allAtoms (Jvm.Cond.code x code maxLocals ret :: tables_1)).before args0 about1 = true := by
  rw [allAtoms_all]
  show words1.all (fun c => c.before args0 about1) = true
  refine all_split ?_ w_codes
  rw [← List.take_append_drop 24 words1, List.all_append, w_t1, ← List.take_append_drop 24 (words1.drop 24), List.all_append, w_t2, ← List.take_append_drop 24 ((words1.drop 24).drop 24), List.all_append, w_t3, ← List.take_append_drop 24 (((words1.drop 24).drop 24).drop 24), List.all_append, w_t4, ← List.take_append_drop 24 ((((words1.drop 24).drop 24).drop 24).drop 24), List.all_append, w_t5, w_t6]
  rfl
set_option maxRecDepth 65536 in
theorem w_rest : rest_1_c.before args0 about1 = true := by decide +kernel
set_option maxRecDepth 65536 in
theorem w_case : (Jvm.Cond.and given_1 narrow_1).before args0 about1 = true := by decide +kernel
set_option maxRecDepth 65536 in
theorem w_consts : constsHeld consts_1 about1 := Jvm.Lit.constsHeldB_iff.mp (by decide +kernel)
theorem w_applies : (headSpec (Jvm.Cond.code x code maxLocals ret :: tables_1) room_1).applies x e0.platform about1 = true :=
  (Spec.applies_iff w_frames).mpr ⟨w_running, w_runnable, w_alone, w_named, w_hears, w_ripe, w_room, w_tables⟩
theorem atStart : AtStart classFile x code maxLocals ret World_1 tables_1 room_1 Calls_1 rest_1 Pre_1 launch0 p0 e0 about1 theMethod args0 below0 :=
  ⟨lists_1, trivial, launch0.admits_env _ _ _, launch0.least_env, fairChoices_fair.cas, fairChoices_fair.clock, w_frames, w_args, w_heap, w_applies, ⟨w_consts, trivial⟩, w_rest, w_case⟩
end start1
theorem witness_1 : WitnessClaimed_1 := ⟨start1.p0, start1.e0, start1.about1, start1.theMethod, start1.args0, start1.below0, start1.atStart⟩
end Jvm.Pilot.@@N@@
