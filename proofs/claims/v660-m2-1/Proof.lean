import JvmDerived
import JvmDerived.Pilot.@@N@@Statement
import JvmDerived.Pilot.@@N@@Code
set_option linter.unusedVariables false
set_option linter.unusedSimpArgs false
namespace Jvm.OwnKit
open Sem ClassFile Op Lib Jvm.Stand Jvm.Free Jvm.LawKit Jvm.RoadKit
section Go
variable {p : Program} {l : Launch} {e : Env} {R : Room} {s : State} {m : MethodId} {args : Array Value} {below : List Frame} {meth : Method} {c : Code} {T T' : State} {locs : List Loc} {cells slots : Nat} {g g' : JFrame} {P : Outcome → State → Prop} {Q : Option Value → Heap → List Loc → Prop} {k n pc : Nat} {Ls : Array Slot} {rest : List Value}
/-- from this state and frame the invocation comes to its end, and the end is as P says -/
def Go (p : Program) (e : Env) (below : List Frame) (T : State) (g : JFrame) (P : Outcome → State → Prop) : Prop :=
  ∃ s₂ o, Steps p.tables e below (T.setTop g) s₂ ∧ s₂.status = .running ∧ Ended s₂ below o ∧ P o s₂
abbrev Po (s : State) (Q : Option Value → Heap → List Loc → Prop) (k n : Nat) : Outcome → State → Prop := fun o U' => ∃ v L, o = .returned v ∧ Q v U'.heap L ∧ FrameEnd s o U' L k n
theorem stp (h : ∀ t, Steps p.tables e below (T'.setTop g') t → Steps p.tables e below (T.setTop g) t) (K : Go p e below T' g' P) : Go p e below T g P := by
  obtain ⟨s2, o, h1, h2⟩ := K
  exact ⟨s2, o, h _ h1, h2⟩
theorem stt (h : Steps p.tables e below (T.setTop g) (T'.setTop g')) (K : Go p e below T' g' P) : Go p e below T g P := by
  obtain ⟨s2, o, h1, h2⟩ := K
  exact ⟨s2, o, h.trans h1, h2⟩
theorem out (X : Stand p l e R s m args below meth c T locs cells slots) {v : Option Value} (hl : meth.locks = false) (hv : meth.sig.returnType = none → v = none)
    (hst : ∀ fs : List Frame, (∀ (f : JFrame) (acts : List Action), f.method = m → f.locked = none → f.entered = [] → (doReturn e (T.setTop f) acts v).1 = T.setFrames fs) → Steps p.tables e below (T.setTop g) (T.setFrames fs))
    (hc : cells ≤ k) (hn : slots ≤ n) (hQ : Q v T.heap locs) : Go p e below T g (Po s Q k n) := by
  obtain ⟨fs, hr, hrun, hended, hW, hsame⟩ := X.leave (v := v) hv hl
  exact ⟨_, _, hst fs hr, hrun, hended, v, locs, rfl, hQ, ⟨_, rfl⟩, hW, hsame.mono hc hn⟩
theorem outN (X : Stand p l e R s m args below meth c T locs cells slots) (hx : p.tables.exec = Jvm.exec) {t : FieldType} {z : Int32} (hret : meth.sig.returnType = some t) (ht : t = .boolean ∨ t = .byte ∨ t = .char ∨ t = .short) (hd : decode c.code pc = .ok (.ireturn, 1)) (hl : meth.locks = false)
    (hc : cells ≤ k) (hn : slots ≤ n) (hQ : Q (some (.int (nar t z))) T.heap locs) : Go p e below T (mkF m pc Ls (.int z :: rest)) (Po s Q k n) :=
  out X hl (fun h => by rw [hret] at h; cases h) (fun fs hr => retN X hx hret ht hd hr) hc hn hQ
theorem outI (X : Stand p l e R s m args below meth c T locs cells slots) (hx : p.tables.exec = Jvm.exec) {z : Int32} (hret : meth.sig.returnType = some .int) (hd : decode c.code pc = .ok (.ireturn, 1)) (hl : meth.locks = false)
    (hc : cells ≤ k) (hn : slots ≤ n) (hQ : Q (some (.int z)) T.heap locs) : Go p e below T (mkF m pc Ls (.int z :: rest)) (Po s Q k n) :=
  out X hl (fun h => by rw [hret] at h; cases h) (fun fs hr => retOut X hx hret rfl (Or.inl ⟨rfl, Or.inl rfl, _, rfl⟩) hd hr) hc hn hQ
theorem outJ (X : Stand p l e R s m args below meth c T locs cells slots) (hx : p.tables.exec = Jvm.exec) {z : Int64} (hret : meth.sig.returnType = some .long) (hd : decode c.code pc = .ok (.lreturn, 1)) (hl : meth.locks = false)
    (hc : cells ≤ k) (hn : slots ≤ n) (hQ : Q (some (.long z)) T.heap locs) : Go p e below T (mkF m pc Ls (.long z :: rest)) (Po s Q k n) :=
  out X hl (fun h => by rw [hret] at h; cases h) (fun fs hr => retOut X hx hret rfl (Or.inr (Or.inl ⟨rfl, rfl, _, rfl⟩)) hd hr) hc hn hQ
theorem outD (X : Stand p l e R s m args below meth c T locs cells slots) (hx : p.tables.exec = Jvm.exec) {w : Value} (hret : meth.sig.returnType = some .double) (hw : ∃ z, w = .double z) (hd : decode c.code pc = .ok (.dreturn, 1)) (hl : meth.locks = false)
    (hc : cells ≤ k) (hn : slots ≤ n) (hQ : Q (some w) T.heap locs) : Go p e below T (mkF m pc Ls (w :: rest)) (Po s Q k n) := by
  obtain ⟨z, rfl⟩ := hw
  exact out X hl (fun h => by rw [hret] at h; cases h) (fun fs hr => retOut X hx hret rfl (Or.inr (Or.inr (Or.inl ⟨rfl, rfl, _, rfl⟩))) hd hr) hc hn hQ
theorem outA (X : Stand p l e R s m args below meth c T locs cells slots) (hx : p.tables.exec = Jvm.exec) {w : Value} {t : FieldType} (hret : meth.sig.returnType = some t) (ht : t.isReference = true) (hw : w.isRef = true) (hd : decode c.code pc = .ok (.areturn, 1)) (hl : meth.locks = false)
    (hc : cells ≤ k) (hn : slots ≤ n) (hQ : Q (some w) T.heap locs) : Go p e below T (mkF m pc Ls (w :: rest)) (Po s Q k n) := by
  refine out X hl (fun h => by rw [hret] at h; cases h) (fun fs hr => retOut X hx hret ?_ (Or.inr (Or.inr (Or.inr (Or.inr ⟨rfl, ht, hw⟩)))) hd hr) hc hn hQ
  rcases ref_cases hw with rfl | ⟨a, rfl⟩ <;> cases t <;> first | rfl | cases ht
theorem outV (X : Stand p l e R s m args below meth c T locs cells slots) (hx : p.tables.exec = Jvm.exec) (hret : meth.sig.returnType = none) (hd : decode c.code pc = .ok (.return_, 1)) (hl : meth.locks = false)
    (hc : cells ≤ k) (hn : slots ≤ n) (hQ : Q none T.heap locs) : Go p e below T (mkF m pc Ls []) (Po s Q k n) :=
  out X hl (fun _ => rfl) (fun fs hr => X.returnOut hx hret hd hr) hc hn hQ
theorem start {y : MethodName} {bytes : ByteArray} {maxL : Nat} {ret : Option FieldType} {ws : List Cond} {rm : Room} {Z : State} {as' : Array Value} {h0 : Heap} (hpl : plainFor y = true)
    (body : ∀ p e s m below meth c T, Stand p l e rm s m as' below meth c T [] 0 0 → p.tables.exec = Jvm.exec → c.code = bytes → c.maxLocals = maxL → s.vm.findClass y.cls = some m.cls → meth.name = y.name → meth.sig.returnType = ret → meth.locks = false → Z.Warmed39 s.vm → T.heap = h0 →
      Go p e below T (entryFrame m as' maxL) (Po s Q k n)) :
    MetFree l y (head1 (Cond.code y bytes maxL ret :: ws) rm) (fun a U => a = as' ∧ Z.Warmed39 U.vm ∧ U.heap = h0) (fun _ _ _ _ _ => True) (fun _ U o U' => ∃ v L, o = .returned v ∧ Q v U'.heap L ∧ FrameEnd U o U' L k n) := by
  refine MetFree.of_bodySF hpl hisR ?_
  intro p e s m args below meth c s₁ Bd hml0 hP hK
  obtain ⟨rfl, hZ, hh⟩ := hP
  exact body p e s m below meth c s₁ (Stand.of_body Bd) Bd.exec Bd.bytes hml0 (findClass_of_methodNamed Bd.named) (name_of_methodNamed Bd.named Bd.method).1 Bd.returns Bd.notSynchronized hZ (by rw [← hh, Bd.state]; rfl)
theorem goAt (q : g = g') (K : Go p e below T g' P) : Go p e below T g P := q ▸ K
end Go
theorem cat_ref {v : Value} (h : v.isRef = true) : v.category = 1 := by cases v <;> simp_all [Value.isRef, Value.category]
section Facts
variable {Z : State} {args : Array Value}
theorem old_le {n0 : Nat} {h : Heap} (O : Old Z n0 h) : n0 ≤ h.size := by
  obtain ⟨rfl, h2⟩ := O
  exact h2.1
theorem fld_of {C n d : String} {t : Term} {a : Addr} {k : Int32} (ev : t.eval args Z none [] Z = some (.ref a)) (h : (Cond.eq (.field t C n d) (.int k)).value args Z none Z [] = some true) : Fld Z Z.heap a C n d (.int k) := by
  obtain ⟨x, y, h1, h2, -, hk⟩ := cmp_v (Or.inl h)
  have h3 : y = .int k := (Option.some.inj h2).symm
  subst h3
  obtain ⟨z, rfl⟩ := hk
  have h4 : z = k := gotT (Cond.eq_ints h1 h2) h
  subst h4
  rw [fld_at ev] at h1
  exact Fld.start h1
theorem fldnull_of {C n d : String} {t : Term} {a : Addr} (ev : t.eval args Z none [] Z = some (.ref a)) (h : (Cond.eq (.field t C n d) .null).value args Z none Z [] = some true) : Fld Z Z.heap a C n d .null := by
  have h1 := null_v h
  rw [fld_at ev] at h1
  exact Fld.start h1
theorem eqint_v {t : Term} {k : Int32} (h : (Cond.eq t (.int k)).value args Z none Z [] = some true) : t.eval args Z none [] Z = some (.int k) := by
  obtain ⟨x, y, h1, h2, -, hk⟩ := cmp_v (Or.inl h)
  have h3 : y = .int k := (Option.some.inj h2).symm
  subst h3
  obtain ⟨z, rfl⟩ := hk
  have h4 : z = k := gotT (Cond.eq_ints h1 h2) h
  subst h4
  exact h1
end Facts
section Small
variable {h h' : Heap} {a : Addr} {sl : Nat} {x : Int32}
theorem ow_wr_char (e : x.toUInt32.toUInt16.toUInt32.toInt32 = x) (W : Wr h h' a sl (.int (nar .char x))) : Wr h h' a sl (.int x) := by rwa [show nar .char x = x from e] at W
theorem ow_fits_char (e : x.toUInt32.toUInt16.toUInt32.toInt32 = x) : fits .char (.int x) = true := by
  have q := fits_nar_char x
  rwa [show nar .char x = x from e] at q
theorem ow_wr_byte (e : x.toInt8.toInt32 = x) (W : Wr h h' a sl (.int (nar .byte x))) : Wr h h' a sl (.int x) := by rwa [show nar .byte x = x from e] at W
theorem ow_fits_byte (e : x.toInt8.toInt32 = x) : fits .byte (.int x) = true := by
  have q := fits_nar_byte x
  rwa [e] at q
theorem char_small (h0 : ¬ x < 0) (h1 : ¬ (65535 : Int32) < x) : x.toUInt32.toUInt16.toUInt32.toInt32 = x := by
  obtain ⟨q1, q2, q3⟩ := c_i2c x
  simp only [Int32.lt_iff_toInt_lt, Int32.reduceToInt] at h0 h1
  exact Int32.toInt_inj.mp (by omega)
theorem char255 (q : ¬ x < 0 ∧ ¬ (255 : Int32) < x) : x.toUInt32.toUInt16.toUInt32.toInt32 = x := char_small q.1 (by
  obtain ⟨q1, q2⟩ := q
  simp only [Int32.lt_iff_toInt_lt, Int32.reduceToInt] at q1 q2 ⊢
  omega)
theorem byte_small (h0 : ¬ x < (-128 : Int32)) (h1 : ¬ (127 : Int32) < x) : x.toInt8.toInt32 = x := by
  obtain ⟨q1, q2, q3⟩ := c_i2b x
  simp only [Int32.lt_iff_toInt_lt, Int32.reduceToInt] at h0 h1
  exact Int32.toInt_inj.mp (by omega)
theorem byte_twice : x.toInt8.toInt32.toInt8.toInt32 = x.toInt8.toInt32 := by simp
theorem and255 (x : Int32) : ¬ (x &&& (255 : Int32)) < 0 ∧ ¬ (255 : Int32) < (x &&& (255 : Int32)) := by
  have h := c_mask x 255 8 (by decide) (by decide)
  simp only [Int32.lt_iff_toInt_lt, Int32.reduceToInt]
  omega
end Small
section Sub
variable {Z : State} {a0 : Array Value}
theorem NSroot {O K : String} {n : Nat} (w : (Cond.noSuperclass O).before a0 Z = true) (wk : (Cond.instantiable K n).before a0 Z = true) (hn : O ≠ K) : NS Z O K := by
  obtain ⟨c, k, h1, h2, h3, -, -⟩ := Cond.noSuperclass_spec w
  obtain ⟨t, kt, g1, -⟩ := Cond.instantiable_spec wk
  have ne := ids_ne h1 g1 hn
  refine ⟨c, t, h1, g1, fun fuel => ?_⟩
  cases fuel with
  | zero => rfl
  | succ f => simp [Vm.isSubclassAux, ne, h2, h3]
theorem NSno {C S K : String} {n : Nat} (w : (Cond.superclass C S).before a0 Z = true) (wk : (Cond.instantiable K n).before a0 Z = true) (N : NS Z C K) (hn : C ≠ K) : ∃ c t, Z.vm.findClass C = some c ∧ Z.vm.findClass K = some t ∧ Z.vm.assignable c t = false := by
  obtain ⟨c, t, h0, g0, n3⟩ := N
  obtain ⟨p, k, kp, h1, h2, h3, h4, h5, -, h7⟩ := Cond.superclass_spec h0 w
  obtain ⟨t', kt, g1, g2, g5, g7, -⟩ := Cond.instantiable_spec wk
  cases g0.symm.trans g1
  rw [Bool.or_eq_false_iff] at g7
  have ne := ids_ne h0 g0 hn
  refine ⟨c, t, h0, g0, ?_⟩
  show Z.vm.assignableAux (255 + 1) c t = false
  simp [Vm.assignableAux, ne, h2, g2, h5, g5, g7.1, Vm.isSubclass, n3]
end Sub
/-- an array of n elements, told by a function -/
def Arf (Z : State) (h : Heap) (a : Addr) (k : ClassId) (ty : FieldType) (n : Nat) (f : Nat → Value) : Prop := ∃ c : Cell, Arr Z h a c ty ∧ c.cls = k ∧ c.slots.size = n ∧ (∀ i, i < n → c.slots[i]? = some (f i)) ∧ ∀ i, i < n → fits ty (f i) = true
section Arf
variable {Z : State} {h h' : Heap} {a b : Addr} {k : ClassId} {ty : FieldType} {n sl : Nat} {f g : Nat → Value} {v : Value} {ws : List Addr} {c : Cell} {j : Int32} {i : Nat}
theorem Arf.lt (F : Arf Z h a k ty n f) : a < h.size := by
  obtain ⟨c, A, -⟩ := F
  exact A.lt
theorem Arf.ext (F : Arf Z h a k ty n f) (E : Ext h h') : Arf Z h' a k ty n f := by
  obtain ⟨c, A, r⟩ := F
  exact ⟨c, A.ext E, r⟩
theorem Arf.other (F : Arf Z h b k ty n f) (W : Wr h h' a sl v) (q : b ≠ a) : Arf Z h' b k ty n f := by
  obtain ⟨c, A, r⟩ := F
  exact ⟨c, A.other W q, r⟩
theorem Arf.keep (F : Arf Z h a k ty n f) (K : Keep h h' ws) (q : a ∉ ws) : Arf Z h' a k ty n f := by
  obtain ⟨c, A, r⟩ := F
  exact ⟨c, ⟨K.2.1 a c A.1 q, A.2⟩, r⟩
theorem Arf.congr (F : Arf Z h a k ty n f) (q : ∀ i, i < n → g i = f i) : Arf Z h a k ty n g := by
  obtain ⟨c, A, r1, r2, H, G⟩ := F
  exact ⟨c, A, r1, r2, fun i hi => by rw [q i hi]; exact H i hi, fun i hi => by rw [q i hi]; exact G i hi⟩
theorem Arf.set (A : Arr Z h a c ty) (q1 : c.cls = k) (S : c.slots.size = n) (H : ∀ i, i < n → c.slots[i]? = some (f i)) (G : ∀ i, i < n → fits ty (f i) = true) (hv : fits ty v = true) (W : Wr h h' a i v) (hi : i < n) : Arf Z h' a k ty n (fun x => if x = i then v else f x) := by
  refine ⟨c.setSlot i v, A.same W, q1, by rw [sz_set]; exact S, fun x hx => ?_, fun x hx => ?_⟩
  · show (c.setSlot i v).slots[x]? = some (if x = i then v else f x)
    by_cases e : x = i
    · subst e
      simp [Cell.setSlot, S, hx]
    · rw [if_neg e, ← H x hx]
      exact Cell.slots_setSlot_ne v (Ne.symm e)
  · by_cases e : x = i
    · simp [e, hv]
    · simp [e, G x hx]
theorem Arv.arf {z : Int32} {vs : List Value} {d : Value} (F : Arv Z h a k ty z vs d) (hz : z.toNatClampNeg = n) : Arf Z h a k ty n (fun i => vs.getD i d) := by
  obtain ⟨c, A, r1, r2, r3, H, G⟩ := F
  exact ⟨c, A, r1, by rw [r2, hz], fun i hi => H i (by rw [r2, hz]; exact hi), fun i hi => G i (by rw [r2, hz]; exact hi)⟩
theorem arf_in (S : c.slots.size = n) (hk : j.toInt = i) (hn : i < n) : ¬ (j < 0 ∨ c.slots.size ≤ j.toNatClampNeg) := by
  simp only [Int32.lt_iff_toInt_lt, Int32.toNatClampNeg, Int32.reduceToInt, S, hk]
  omega
theorem arf_at (H : ∀ i, i < n → c.slots[i]? = some (f i)) (hk : j.toInt = i) (hn : i < n) : c.slots[j.toNatClampNeg]? = some (f i) := by
  have e : j.toNatClampNeg = i := by simp only [Int32.toNatClampNeg, hk]; omega
  rw [e]
  exact H i hn
theorem arf_ix (hk : j.toInt = i) : j.toNatClampNeg = i := by simp only [Int32.toNatClampNeg, hk]; omega
theorem arf_len {z : Int32} (S : c.slots.size = n) (hz : z.toInt = n) : c.slots.size.toInt32 = z := by
  rw [S]
  have h1 := Int32.toInt_lt z
  exact Int32.toInt_inj.mp (by rw [len_toInt (by omega)]; exact hz.symm)
theorem Arf.one (F : Arf Z h a k ty n f) (hi : i < n) : fits ty (f i) = true := by
  obtain ⟨c, A, r1, r2, H, G⟩ := F
  exact G i hi
theorem Arf.new {z : Int32} (A : Arr Z h a (newA k ty z) ty) (q : ¬ z < 0) (hz : z.toNatClampNeg = n) : Arf Z h a k ty n (fun _ => defaultValue ty) := (Arv.arf (Arv.new A q) hz).congr fun i _ => by simp
theorem cloneF {p : Program} {l : Launch} {e : Env} {R : Room} {s : State} {m : MethodId} {args : Array Value} {below : List Frame} {meth : Method} {c : Code} {T : State} {locs : List Loc} {cells slots : Nat} (X : Stand p l e R s m args below meth c T locs cells slots) (hx : p.tables.exec = Jvm.exec) (hZ : Z.Warmed39 s.vm) {a0 : Array Value} {own ad : String} {index : Nat} (hown : s.vm.findClass own = some m.cls)
    (w1 : (Cond.methodLink own index ⟨ad, "clone", "()Ljava/lang/Object;"⟩).before a0 Z = true) (w2 : (Cond.sameMethod ad "java/lang/Object" "clone" "()Ljava/lang/Object;").before a0 Z = true) (w3 : (Cond.native ⟨"java/lang/Object", "clone", "()Ljava/lang/Object;"⟩).before a0 Z = true)
    (w4 : (Cond.instanceMethod ⟨"java/lang/Object", "clone", "()Ljava/lang/Object;"⟩).before a0 Z = true) (w5 : (Cond.selects ad ⟨ad, "clone", "()Ljava/lang/Object;"⟩ ⟨"java/lang/Object", "clone", "()Ljava/lang/Object;"⟩).before a0 Z = true) (w6 : (Cond.castable ad "java/lang/Cloneable").before a0 Z = true)
    (eT : T.heap = h) (F : Arf Z h a k ty n f) (E : Exa Z h a ad) {g : JFrame} (hg : g.method = m) (hsize : g.locals.size = c.maxLocals) {rest : List Value} (hst : g.stack = .ref a :: rest) (hd : decode c.code g.pc = .ok (.invokevirtual index, 3))
    (hf : 1 ≤ R.frames) {W cap : Nat} (hW : 2 * g.monitorRoom + (rest.map fun v => v.category).sum ≤ W) (hl : W + 14 ≤ R.locals) (hcap : n ≤ cap) (hc : cells + 1 ≤ R.cells) (hsl : slots + cap ≤ R.slots) :
    ∃ T' h', Stand p l e R s m args below meth c T' locs (cells + 1) (slots + cap) ∧ T'.heap = h' ∧ Ext h h' ∧ Arf Z h' h.size k ty n f ∧ Exa Z h' h.size ad ∧
      ∀ target, Steps p.tables e below (T'.setTop { g with pc := g.pc + 3, stack := .ref h.size :: rest }) target → Steps p.tables e below (T.setTop g) target := by
  obtain ⟨cl, A, q1, S, H, G⟩ := F
  have FC : FitC Z cl := fitC_of A fun i hi v hv => by rw [H i (S ▸ hi)] at hv; cases hv; exact G i (S ▸ hi)
  obtain ⟨T', h', X', e', ex, A', E', st⟩ := cloneA X hx hZ hown w1 w2 w3 w4 w5 w6 eT A E FC hg hsize hst hd hf hW hl (by rw [S]; exact hcap) hc hsl
  exact ⟨T', h', X', e', ex, ⟨cloneOf cl, A', q1, S, H, G⟩, E', st⟩
end Arf
theorem and1_cases (x : Int32) : x &&& (1 : Int32) = (0 : Int32) ∨ x &&& (1 : Int32) = (1 : Int32) := and_one x
theorem and3_cases (x : Int32) : x &&& (3 : Int32) = (0 : Int32) ∨ x &&& (3 : Int32) = (1 : Int32) ∨ x &&& (3 : Int32) = (2 : Int32) ∨ x &&& (3 : Int32) = (3 : Int32) := by
  have h := c_mask x 3 2 (by decide) (by decide)
  simp only [← Int32.toInt_inj]
  have : (0 : Int32).toInt = 0 := by decide
  have : (1 : Int32).toInt = 1 := by decide
  have : (2 : Int32).toInt = 2 := by decide
  have : (3 : Int32).toInt = 3 := by decide
  omega
end Jvm.OwnKit
namespace Jvm.OwnKit
open Sem ClassFile Op Lib Jvm.Stand Jvm.Free Jvm.LawKit Jvm.RoadKit
section GoW
variable {p : Program} {l : Launch} {e : Env} {R : Room} {s : State} {m : MethodId} {args : Array Value} {below : List Frame} {meth : Method} {c : Code} {T T' : State} {locs : List Loc} {cells slots : Nat} {g g' : JFrame} {Q : Option Value → Heap → List Loc → Prop} {k n pc : Nat} {Ls : Array Slot} {rest : List Value} {Z : State} {EL : List (String × Nat)} {vm0 : Vm} {a0 : Array Value} {h h0 : Heap} {k0 : Nat}
abbrev PoW (s Z : State) (EL : List (String × Nat)) (Q : Option Value → Heap → List Loc → Prop) (k n : Nat) : Outcome → State → Prop := fun o U' => ∃ v L, o = .returned v ∧ Q v U'.heap L ∧ CHr Z EL s.vm s.heap U'.vm U'.heap ∧ ReturnedEndW s o U' L k n
theorem outW (X : Stand p l e R (s.setVm vm0) m args below meth c T locs cells slots) (hZ : Z.Warmed39 vm0) (hEL : EW Z a0 EL) (eT : T.heap = h) (hS : s.Since vm0 k0) (hk : k0 ≤ h.size) (CR : CHr Z EL s.vm s.heap vm0 h) {v : Option Value} (hl : meth.locks = false) (hv : meth.sig.returnType = none → v = none)
    (hst : ∀ fs : List Frame, (∀ (f : JFrame) (acts : List Action), f.method = m → f.locked = none → f.entered = [] → (doReturn e (T.setTop f) acts v).1 = T.setFrames fs) → Steps p.tables e below (T.setTop g) (T.setFrames fs))
    (hc : cells ≤ k) (hn : slots ≤ n) (hQ : Q v T.heap locs) : Go p e below T g (PoW s Z EL Q k n) := by
  obtain ⟨fs, hr, hrun, hended, hW, h1, h2, hsame⟩ := X.leaveW hS (by rw [eT]; exact hk) (v := v) hv hl
  have hC : CHr Z EL s.vm s.heap T.vm T.heap := by rw [eT]; exact CR.trans (CHv.at X hZ hEL CR.1)
  exact ⟨_, _, hst fs hr, hrun, hended, v, locs, rfl, hQ, hC, hW, h1, h2, hsame.mono hc hn⟩
theorem outNW (X : Stand p l e R (s.setVm vm0) m args below meth c T locs cells slots) (hx : p.tables.exec = Jvm.exec) (hZ : Z.Warmed39 vm0) (hEL : EW Z a0 EL) (eT : T.heap = h) (hS : s.Since vm0 k0) (hk : k0 ≤ h.size) (CR : CHr Z EL s.vm s.heap vm0 h) {t : FieldType} {z : Int32} (hret : meth.sig.returnType = some t) (ht : t = .boolean ∨ t = .byte ∨ t = .char ∨ t = .short) (hd : decode c.code pc = .ok (.ireturn, 1)) (hl : meth.locks = false)
    (hc : cells ≤ k) (hn : slots ≤ n) (hQ : Q (some (.int (nar t z))) T.heap locs) : Go p e below T (mkF m pc Ls (.int z :: rest)) (PoW s Z EL Q k n) :=
  outW X hZ hEL eT hS hk CR hl (fun h => by rw [hret] at h; cases h) (fun fs hr => retN X hx hret ht hd hr) hc hn hQ
theorem outIW (X : Stand p l e R (s.setVm vm0) m args below meth c T locs cells slots) (hx : p.tables.exec = Jvm.exec) (hZ : Z.Warmed39 vm0) (hEL : EW Z a0 EL) (eT : T.heap = h) (hS : s.Since vm0 k0) (hk : k0 ≤ h.size) (CR : CHr Z EL s.vm s.heap vm0 h) {z : Int32} (hret : meth.sig.returnType = some .int) (hd : decode c.code pc = .ok (.ireturn, 1)) (hl : meth.locks = false)
    (hc : cells ≤ k) (hn : slots ≤ n) (hQ : Q (some (.int z)) T.heap locs) : Go p e below T (mkF m pc Ls (.int z :: rest)) (PoW s Z EL Q k n) :=
  outW X hZ hEL eT hS hk CR hl (fun h => by rw [hret] at h; cases h) (fun fs hr => retOut X hx hret rfl (Or.inl ⟨rfl, Or.inl rfl, _, rfl⟩) hd hr) hc hn hQ
theorem outAW (X : Stand p l e R (s.setVm vm0) m args below meth c T locs cells slots) (hx : p.tables.exec = Jvm.exec) (hZ : Z.Warmed39 vm0) (hEL : EW Z a0 EL) (eT : T.heap = h) (hS : s.Since vm0 k0) (hk : k0 ≤ h.size) (CR : CHr Z EL s.vm s.heap vm0 h) {w : Value} {t : FieldType} (hret : meth.sig.returnType = some t) (ht : t.isReference = true) (hw : w.isRef = true) (hd : decode c.code pc = .ok (.areturn, 1)) (hl : meth.locks = false)
    (hc : cells ≤ k) (hn : slots ≤ n) (hQ : Q (some w) T.heap locs) : Go p e below T (mkF m pc Ls (w :: rest)) (PoW s Z EL Q k n) := by
  refine outW X hZ hEL eT hS hk CR hl (fun h => by rw [hret] at h; cases h) (fun fs hr => retOut X hx hret ?_ (Or.inr (Or.inr (Or.inr (Or.inr ⟨rfl, ht, hw⟩)))) hd hr) hc hn hQ
  rcases ref_cases hw with rfl | ⟨a, rfl⟩ <;> cases t <;> first | rfl | cases ht
theorem outVW (X : Stand p l e R (s.setVm vm0) m args below meth c T locs cells slots) (hx : p.tables.exec = Jvm.exec) (hZ : Z.Warmed39 vm0) (hEL : EW Z a0 EL) (eT : T.heap = h) (hS : s.Since vm0 k0) (hk : k0 ≤ h.size) (CR : CHr Z EL s.vm s.heap vm0 h) (hret : meth.sig.returnType = none) (hd : decode c.code pc = .ok (.return_, 1)) (hl : meth.locks = false)
    (hc : cells ≤ k) (hn : slots ≤ n) (hQ : Q none T.heap locs) : Go p e below T (mkF m pc Ls []) (PoW s Z EL Q k n) :=
  outW X hZ hEL eT hS hk CR hl (fun _ => rfl) (fun fs hr => X.returnOut hx hret hd hr) hc hn hQ
theorem startW {y : MethodName} {bytes : ByteArray} {maxL : Nat} {ret : Option FieldType} {ws : List Cond} {rm : Room} {as' : Array Value} (hpl : plainFor y = true)
    (body : ∀ p e s m below meth c T, Stand p l e rm (s.setVm s.vm) m as' below meth c T [] 0 0 → p.tables.exec = Jvm.exec → c.code = bytes → c.maxLocals = maxL → s.vm.findClass y.cls = some m.cls → meth.name = y.name → meth.sig.returnType = ret → meth.locks = false → Z.Warmed39 s.vm → T.heap = h0 → s.Since s.vm 0 → CHr Z EL s.vm s.heap s.vm h0 →
      Go p e below T (entryFrame m as' maxL) (PoW s Z EL Q k n)) :
    MetFree l y (head1 (Cond.code y bytes maxL ret :: ws) rm) (fun a U => a = as' ∧ Z.Warmed39 U.vm ∧ U.heap = h0 ∧ CHv Z EL U.vm h0) (fun _ _ _ _ _ => True) (fun _ U o U' => ∃ v L, o = .returned v ∧ Q v U'.heap L ∧ CHr Z EL U.vm U.heap U'.vm U'.heap ∧ ReturnedEndW U o U' L k n) := by
  refine MetFree.of_bodySF hpl hisR ?_
  intro p e s m args below meth c s₁ Bd hml0 hP hK
  obtain ⟨rfl, hZ, hh, hC⟩ := hP
  have X : Stand p l e rm s m args below meth c s₁ [] 0 0 := Stand.of_body Bd
  exact body p e s m below meth c s₁ X Bd.exec Bd.bytes hml0 (findClass_of_methodNamed Bd.named) (name_of_methodNamed Bd.named Bd.method).1 Bd.returns Bd.notSynchronized hZ (by rw [← hh, Bd.state]; rfl) ((State.WarmedH.refl s).since 0) (by rw [hh]; exact CHr.refl hC)
/-- a String whose value is still null is no constant's -/
theorem safeNull {x : Addr} {vm : Vm} (hal : Z.vm.Alike vm) (E : Exa Z h x "java/lang/String") (F : Fld Z h x "java/lang/String" "value" "[B" .null) : Safe Z EL vm h x := fun B => by
  obtain ⟨cell, k, e1, e2, e3, -, -⟩ := E
  obtain ⟨c', cf, kf, i, f, f1, f2, f3, f4, f5, f6, f7⟩ := F
  cases e1.symm.trans f1
  obtain ⟨p, -, u, a, -, q, -, G, rfl | rfl⟩ := B
  · cases (show h[q.sa]? = some q.sC from G.ha).symm.trans e1
    obtain ⟨cS, ⟨hs, -, -⟩, -⟩ := G
    obtain ⟨-, -, -, ⟨c4, k4, i4, r1, r2⟩, -, -, -, r7, -⟩ := hs
    obtain ⟨k', r3, -⟩ := State.fieldFound?_setVm (s := Z) hal f2
    have r1' : (Z.setVm vm).fieldFound? "java/lang/String" "value" "[B" = some (c4, k4, i4, q.fSV) := r1
    cases r3.symm.trans r1'
    cases f7.symm.trans r7
  · cases (show h[q.sd]? = some q.SA from G.hd).symm.trans e1
    obtain ⟨cS, -, -, g, -⟩ := G
    have g' : Z.vm.findClass "[B" = some q.SA.cls := by rw [← hal.findClass]; exact g
    obtain ⟨k1, q1, q2⟩ := Vm.findClass_spec g'
    obtain ⟨k2, q3, q4⟩ := Vm.findClass_spec e2
    cases q1.symm.trans q3
    exact absurd (q2.symm.trans q4) (by decide)
end GoW
end Jvm.OwnKit
namespace Jvm.OwnKit
open Sem ClassFile Op Lib Jvm.Stand Jvm.Free Jvm.LawKit Jvm.RoadKit
section Str
variable {Z : State} {h h' : Heap} {x w o : Addr} {cs : List Int32} {sl n : Nat} {v : Value} {ws : List Addr} {C : String} {a0 : Array Value} {k : ClassId} {ty : FieldType} {z : Int32} {vs : List Value} {d : Value}
/-- x is a Latin-1 String of these chars -/
def StrIs (Z : State) (h : Heap) (x : Addr) (cs : List Int32) : Prop := ∃ (t : Addr) (k : ClassId), Exa Z h x "java/lang/String" ∧ Fld Z h x "java/lang/String" "value" "[B" (.ref t) ∧ Fld Z h x "java/lang/String" "coder" "B" (.int 0) ∧ Arv Z h t k .byte (Int32.ofNat cs.length) ((cs.map fun c => c.toInt8.toInt32).map Value.int) (.int 0) ∧ (∀ c ∈ cs, ¬ c < 0 ∧ ¬ (255 : Int32) < c) ∧ cs.length ≤ 4000
/-- w is no byte[] -/
def Apart (Z : State) (h : Heap) (w : Addr) : Prop := ∀ (t : Addr) (k : ClassId) (z : Int32) (vs : List Value) (d : Value), Arv Z h t k .byte z vs d → t ≠ w
theorem Apart.exa (E : Exa Z h w C) (wi : (Cond.instantiable C n).before a0 Z = true) : Apart Z h w := fun _ _ _ _ _ F => Ne.symm (E.neArv F wi)
theorem Apart.arv (F : Arv Z h w k ty z vs d) (ht : ty ≠ .byte) : Apart Z h w := fun t k' z' vs' d' G e => by
  subst e
  obtain ⟨c1, ⟨e1, ⟨-, k1, f1, p1, g1⟩, -⟩, -⟩ := F
  obtain ⟨c2, ⟨e2, ⟨-, k2, f2, p2, g2⟩, -⟩, -⟩ := G
  cases e1.symm.trans e2
  cases f1.symm.trans f2
  rw [g1] at g2
  cases g2
  exact ht rfl
theorem apart0 : ∀ x ∈ ([] : List Addr), Apart Z h x := fun _ q => nomatch q
theorem apartS (A : Apart Z h w) (r : ∀ x ∈ ws, Apart Z h x) : ∀ x ∈ w :: ws, Apart Z h x := fun x q => (List.mem_cons.mp q).elim (fun u => u ▸ A) (r x)
theorem StrIs.exa (F : StrIs Z h x cs) : Exa Z h x "java/lang/String" := by
  obtain ⟨t, k, E, -⟩ := F
  exact E
theorem StrIs.lt (F : StrIs Z h x cs) : x < h.size := F.exa.lt
theorem StrIs.small (F : StrIs Z h x cs) : ∀ c ∈ cs, ¬ c < 0 ∧ ¬ (255 : Int32) < c := by
  obtain ⟨t, k, -, -, -, -, hp, -⟩ := F
  exact hp
theorem StrIs.ext (F : StrIs Z h x cs) (E : Ext h h') : StrIs Z h' x cs := by
  obtain ⟨t, k, E1, V1, C1, K1, r⟩ := F
  exact ⟨t, k, E1.ext E, V1.ext E, C1.ext E, K1.ext E, r⟩
theorem StrIs.wr (F : StrIs Z h x cs) (W : Wr h h' o sl v) (ne : x ≠ o) (A : Apart Z h o) : StrIs Z h' x cs := by
  obtain ⟨t, k, E1, V1, C1, K1, r⟩ := F
  exact ⟨t, k, E1.wr W, V1.other W (Or.inl ne), C1.other W (Or.inl ne), K1.other W (A _ _ _ _ _ K1), r⟩
theorem StrIs.keep (F : StrIs Z h x cs) (K : Keep h h' ws) (q : x ∉ ws) (A : ∀ y ∈ ws, Apart Z h y) : StrIs Z h' x cs := by
  obtain ⟨t, k, E1, V1, C1, K1, r⟩ := F
  exact ⟨t, k, E1.keep K, V1.keep K q, C1.keep K q, K1.keep K (fun m => A t m _ _ _ _ _ K1 rfl), r⟩
theorem StrIs.of {t : Addr} (E : Exa Z h x "java/lang/String") (V : Fld Z h x "java/lang/String" "value" "[B" (.ref t)) (C : Fld Z h x "java/lang/String" "coder" "B" (.int 0)) (K : Arv Z h t k .byte z vs (.int 0)) (hz : z = Int32.ofNat cs.length) (hv : vs = (cs.map fun c => c.toInt8.toInt32).map Value.int) (hp : ∀ c ∈ cs, ¬ c < 0 ∧ ¬ (255 : Int32) < c) (hl : cs.length ≤ 4000) : StrIs Z h x cs := by
  subst hz hv
  exact ⟨t, k, E, V, C, K, hp, hl⟩
theorem own_one255 {k : Int32} (h : ¬ k < 0 ∧ ¬ (255 : Int32) < k) : ∀ c ∈ ([k] : List Int32), ¬ c < 0 ∧ ¬ (255 : Int32) < c := by
  intro c hc
  cases List.mem_singleton.mp hc
  exact h
end Str
end Jvm.OwnKit
namespace Jvm.OwnKit
theorem own_sm0 : ∀ c ∈ ([] : List Int32), ¬ c < 0 ∧ ¬ (255 : Int32) < c := fun _ q => nomatch q
theorem own_sm1 {k : Int32} {cs : List Int32} (h : ¬ k < 0 ∧ ¬ (255 : Int32) < k) (t : ∀ c ∈ cs, ¬ c < 0 ∧ ¬ (255 : Int32) < c) : ∀ c ∈ k :: cs, ¬ c < 0 ∧ ¬ (255 : Int32) < c := fun c q => (List.mem_cons.mp q).elim (fun u => u ▸ h) (t c)
theorem own_char255 {k x : Int32} (h : k = (x &&& (255 : Int32)).toUInt32.toUInt16.toUInt32.toInt32) : ¬ k < 0 ∧ ¬ (255 : Int32) < k := by
  rw [char255 (and255 x)] at h
  rw [h]
  exact and255 x
end Jvm.OwnKit
/- laws to paste: Road.backV, Road.eqW, Road.codOf (cut by pick.py; bodies as the Statement names them) -/
namespace Jvm.Pilot.@@N@@
namespace StrChars
open Jvm Sem ClassFile Op Lib Jvm.Stand Jvm.Free.XT Jvm.Free.ALB Jvm.Free.JM Jvm.Free
open Jvm.Lib.Cold (StaticIs)
/-- a char array whose places are chars -/
def Ch (a : Addr) (A : Cell) (U : State) : Prop := Arr .char a A U ∧ Typed .char A
theorem Ch.mv {a : Addr} {A : Cell} {U U' : State} (h : Ch a A U) (hal : U.vm.Alike U'.vm) (hh : U'.heap = U.heap) : Ch a A U' := ⟨h.1.mv hal hh, h.2⟩
theorem Ch.keep {a : Addr} {A : Cell} {U U' : State} (h : Ch a A U) (hal : U.vm.Alike U'.vm) (hk : U'.heap[a]? = some A) : Ch a A U' := ⟨h.1.keep hal hk, h.2⟩
/-- what place i of a char[]'s cell holds -/
def cv (A : Cell) (i : Nat) : Int32 := match A.slots[i]? with | some (.int x) => x | _ => 0
theorem Ch.get {a : Addr} {A : Cell} {U : State} (h : Ch a A U) {i : Nat} (hi : i < A.slots.size) : A.slots[i]? = some (.int (cv A i)) := by
  have e := Array.getElem?_eq_getElem hi
  have f := h.2 i _ e
  unfold cv; rw [e]
  generalize A.slots[i] = v at f
  cases v <;> simp [fits] at f ⊢
/-- the byte that i2b leaves of a char -/
def lo8 (x : Int32) : Int32 := x.toInt8.toInt32
theorem fits_lo8 (y : Int32) : fits .byte (.int (lo8 y)) = true := by
  have h1 := y.toInt8.le_toInt
  have h2 := y.toInt8.toInt_lt
  simp only [lo8, fits, Bool.and_eq_true, decide_eq_true_eq, Int32.le_iff_toInt_le, Int8.toInt_toInt32, show (-128 : Int32).toInt = -128 from by decide, show (127 : Int32).toInt = 127 from by decide]
  omega
/-- A' is A but that each place j of lo .. hi - 1 holds f j -/
def Laid (A A' : Cell) (lo hi : Nat) (f : Nat → Value) : Prop := A'.cls = A.cls ∧ A'.vm = A.vm ∧ A'.slots.size = A.slots.size ∧ ∀ i, A'.slots[i]? = if lo ≤ i ∧ i < hi then some (f i) else A.slots[i]?
theorem Laid.zero (A : Cell) (lo : Nat) (f : Nat → Value) : Laid A A lo (lo + 0) f := ⟨rfl, rfl, rfl, fun i => by rw [if_neg (by omega)]⟩
theorem Laid.step {A Ak : Cell} {lo k : Nat} {f : Nat → Value} {v : Value} (h : Laid A Ak lo k f) (hlo : lo ≤ k) (hk : k < Ak.slots.size) (hv : v = f k) : Laid A (Ak.setSlot k v) lo (k + 1) f := by
  refine ⟨h.1, h.2.1, by simpa [Cell.setSlot] using h.2.2.1, fun i => ?_⟩
  by_cases e : k = i
  · subst e; rw [Cell.slots_setSlot_self v hk, if_pos (by omega), hv]
  · rw [Cell.slots_setSlot_ne v e, h.2.2.2 i]
    by_cases q : lo ≤ i ∧ i < k
    · rw [if_pos q, if_pos (by omega)]
    · rw [if_neg q, if_neg (by omega)]
def U16 : String := "java/lang/StringUTF16"
namespace Cmp5
def yN : MethodName := ⟨"java/lang/StringUTF16", "compress", "([CI[BII)I"⟩
abbrev yB : ByteArray := jdk_52_method_21_code
theorem d0 : decode yB 0 = .ok (.iconst 0, 1) := by decide +kernel
theorem d1 : decode yB 1 = .ok (.istore 5, 2) := by decide +kernel
theorem d3 : decode yB 3 = .ok (.iload 5, 2) := by decide +kernel
theorem d5 : decode yB 5 = .ok (.iload 4, 2) := by decide +kernel
theorem d7 : decode yB 7 = .ok (.if_icmp (.ge) 37, 3) := by decide +kernel
theorem d10 : decode yB 10 = .ok (.aload_n 0, 1) := by decide +kernel
theorem d11 : decode yB 11 = .ok (.iload_n 1, 1) := by decide +kernel
theorem d12 : decode yB 12 = .ok (.caload, 1) := by decide +kernel
theorem d13 : decode yB 13 = .ok (.istore 6, 2) := by decide +kernel
theorem d15 : decode yB 15 = .ok (.iload 6, 2) := by decide +kernel
theorem d17 : decode yB 17 = .ok (.sipush 255, 3) := by decide +kernel
theorem d20 : decode yB 20 = .ok (.if_icmp (.le) 6, 3) := by decide +kernel
theorem d26 : decode yB 26 = .ok (.aload_n 2, 1) := by decide +kernel
theorem d27 : decode yB 27 = .ok (.iload_n 3, 1) := by decide +kernel
theorem d28 : decode yB 28 = .ok (.iload 6, 2) := by decide +kernel
theorem d30 : decode yB 30 = .ok (.i2b, 1) := by decide +kernel
theorem d31 : decode yB 31 = .ok (.bastore, 1) := by decide +kernel
theorem d32 : decode yB 32 = .ok (.iinc 1 1, 3) := by decide +kernel
theorem d35 : decode yB 35 = .ok (.iinc 3 1, 3) := by decide +kernel
theorem d38 : decode yB 38 = .ok (.iinc 5 1, 3) := by decide +kernel
theorem d41 : decode yB 41 = .ok (.goto (-38), 3) := by decide +kernel
theorem d44 : decode yB 44 = .ok (.iload 4, 2) := by decide +kernel
theorem d46 : decode yB 46 = .ok (.ireturn, 1) := by decide +kernel
def site : List Cond := []
def tab : Cond := tabOf yN yB 7 (some .int) site
def P (b : Addr) (A : Cell) (d : Addr) (B : Cell) (o q len : Nat) (args : Array Value) (s : State) : Prop := args = #[.ref b, .int (Int32.ofNat o), .ref d, .int (Int32.ofNat q), .int (Int32.ofNat len)] ∧ Ch b A s ∧ Arr .byte d B s ∧ b ≠ d ∧ o + len ≤ A.slots.size ∧ q + len ≤ B.slots.size ∧ ∀ i, i < len → ¬ 255 < cv A (o + i)
def E (b : Addr) (A : Cell) (d : Addr) (B : Cell) (o q len : Nat) (r : Option Value) (s u : State) : Prop := r = some (.int (Int32.ofNat len)) ∧ ∃ B', Put d B' s u ∧ Laid B B' q (q + len) (fun j => Value.int (lo8 (cv A (o + (j - q)))))
/-- no char of the range above 255: len; the places written hold each char's low byte -/
theorem law (l : Launch) (b : Addr) (A : Cell) (d : Addr) (B : Cell) (o q len : Nat) : Law l yN 5 5 0 0 yB 7 (some .int) site (P b A d B o q len) (E b A d B o q len) (copyLocs d q len) 0 0 := by
  refine Law.of_walk (plainFor_of_name (by decide +kernel)) (by decide +kernel) (by decide +kernel) (by decide) (fun _ _ h => by rw [h.1]; rfl) (fun _ U U' hal hh h => ⟨h.1, h.2.1.mv hal hh, h.2.2.1.mv hal hh, h.2.2.2⟩) (fun r U U' V V' h1 hal h2 h => ⟨h.1, h.2.elim fun B' q => ⟨B', q.1.mv h1 h2, q.2⟩⟩) ?_
  intro p e s m args below meth c s₁ X0 hexec hbytes hml hret hlk hnm hown hh0 W hP
  obtain ⟨rfl, hA, hB, hne, l1, l2, hp⟩ := hP
  have c1 : Steps p.tables e below (s₁.setTop (entryFrame m #[.ref b, .int (Int32.ofNat o), .ref d, .int (Int32.ofNat q), .int (Int32.ofNat len)] 7)) (s₁.setTop (mkF m 0 #[.val (.ref b), .val (.int (Int32.ofNat o)), .val (.ref d), .val (.int (Int32.ofNat q)), .val (.int (Int32.ofNat len)), .unset, .unset] [])) := entry rfl
  have hA0 := hA.1.mv X0.warmed.alike hh0
  have hB0 := hB.mv X0.warmed.alike hh0
  have a31 := hA.1.2.2.2
  have c2 : Steps p.tables e below (s₁.setTop (entryFrame m #[.ref b, .int (Int32.ofNat o), .ref d, .int (Int32.ofNat q), .int (Int32.ofNat len)] 7)) (s₁.setTop (mkF m 3 #[.val (.ref b), .val (.int (Int32.ofNat o)), .val (.ref d), .val (.int (Int32.ofNat q)), .val (.int (Int32.ofNat len)), .val (.int 0), .unset] [])) := c1.trans (by
    refine iconstV X0.here hexec rfl 0 (hb hbytes d0) (by decide) ?_
    refine XS.istore X0.here hexec rfl (hb hbytes d1) rfl rfl ?_
    exact Steps.refl _)
  have loop : ∀ (r i : Nat), i + r = len → ∀ (z : Slot), (z = .unset ∨ ∃ w, z = .val w ∧ w.category = 1) → ∀ (Tl : State) (Bk : Cell), Stand p l e { frames := 0, locals := 0, cells := 0, slots := 0 } s m #[.ref b, .int (Int32.ofNat o), .ref d, .int (Int32.ofNat q), .int (Int32.ofNat len)] below meth c Tl ([] ++ copyLocs d q i) 0 0 → Put d Bk s₁ Tl → Laid B Bk q (q + i) (fun j => Value.int (lo8 (cv A (o + (j - q))))) →
      Steps p.tables e below (s₁.setTop (entryFrame m #[.ref b, .int (Int32.ofNat o), .ref d, .int (Int32.ofNat q), .int (Int32.ofNat len)] 7)) (Tl.setTop (mkF m 3 #[.val (.ref b), .val (.int (Int32.ofNat (o + i))), .val (.ref d), .val (.int (Int32.ofNat (q + i))), .val (.int (Int32.ofNat len)), .val (.int (Int32.ofNat i)), z] [])) → ∃ (T' : State) (B' : Cell) (z' : Slot), Stand p l e { frames := 0, locals := 0, cells := 0, slots := 0 } s m #[.ref b, .int (Int32.ofNat o), .ref d, .int (Int32.ofNat q), .int (Int32.ofNat len)] below meth c T' ([] ++ copyLocs d q len) 0 0 ∧ Put d B' s₁ T' ∧ Laid B B' q (q + len) (fun j => Value.int (lo8 (cv A (o + (j - q))))) ∧
      Steps p.tables e below (s₁.setTop (entryFrame m #[.ref b, .int (Int32.ofNat o), .ref d, .int (Int32.ofNat q), .int (Int32.ofNat len)] 7)) (T'.setTop (mkF m 3 #[.val (.ref b), .val (.int (Int32.ofNat (o + len))), .val (.ref d), .val (.int (Int32.ofNat (q + len))), .val (.int (Int32.ofNat len)), .val (.int (Int32.ofNat len)), z'] [])) := by
    intro r
    induction r with
    | zero =>
      intro i hi z hz Tl Bk Xl pl fl cl
      have hil : i = len := by omega
      rw [hil] at Xl fl cl
      exact ⟨Tl, Bk, z, Xl, pl, fl, cl⟩
    | succ r ih =>
      intro i hi z hz Tl Bk Xl pl fl cl
      have all := X0.warmed.alike.symm.trans Xl.warmed.alike
      have hAl := hA0.keep all (pl.other hne hA0.1)
      have hBk := hB0.like all pl.1 fl.1 fl.2.1 fl.2.2.1
      have hlt : q + i < Bk.slots.size := by rw [fl.2.2.1]; omega
      have c3 : Steps p.tables e below (s₁.setTop (entryFrame m #[.ref b, .int (Int32.ofNat o), .ref d, .int (Int32.ofNat q), .int (Int32.ofNat len)] 7)) (Tl.setTop (mkF m 12 #[.val (.ref b), .val (.int (Int32.ofNat (o + i))), .val (.ref d), .val (.int (Int32.ofNat (q + i))), .val (.int (Int32.ofNat len)), .val (.int (Int32.ofNat i)), z] [.int (Int32.ofNat (o + i)), .ref b])) := cl.trans (by
        refine XS.iload Xl.here hexec rfl (hb hbytes d3) rfl ?_
        refine XS.iload Xl.here hexec rfl (hb hbytes d5) rfl ?_
        refine XS.icmpNo Xl.here hexec rfl (hb hbytes d7) rfl (ii_ge_f (lt32 (by omega) (by omega))) ?_
        refine XS.aloadN Xl.here hexec rfl (hb hbytes d10) rfl rfl ?_
        refine XS.iloadN Xl.here hexec rfl (hb hbytes d11) rfl ?_
        exact Steps.refl _)
      have c4 : Steps p.tables e below (s₁.setTop (entryFrame m #[.ref b, .int (Int32.ofNat o), .ref d, .int (Int32.ofNat q), .int (Int32.ofNat len)] 7)) (Tl.setTop (mkF m 13 #[.val (.ref b), .val (.int (Int32.ofNat (o + i))), .val (.ref d), .val (.int (Int32.ofNat (q + i))), .val (.int (Int32.ofNat len)), .val (.int (Int32.ofNat i)), z] [.int (cv A (o + i))])) := c3.trans (by
        refine Xl.aget hexec hAl rfl (hA.get (i := o + i) (by omega)) rfl rfl (hb hbytes d12) ?_
        exact Steps.refl _)
      have c5 : Steps p.tables e below (s₁.setTop (entryFrame m #[.ref b, .int (Int32.ofNat o), .ref d, .int (Int32.ofNat q), .int (Int32.ofNat len)] 7)) (Tl.setTop (mkF m 15 #[.val (.ref b), .val (.int (Int32.ofNat (o + i))), .val (.ref d), .val (.int (Int32.ofNat (q + i))), .val (.int (Int32.ofNat len)), .val (.int (Int32.ofNat i)), .val (.int (cv A (o + i)))] [])) := c4.trans (by
        refine XS.istoreS Xl.here hexec rfl (hb hbytes d13) rfl rfl hz ?_
        exact Steps.refl _)
      have c6 : Steps p.tables e below (s₁.setTop (entryFrame m #[.ref b, .int (Int32.ofNat o), .ref d, .int (Int32.ofNat q), .int (Int32.ofNat len)] 7)) (Tl.setTop (mkF m 31 #[.val (.ref b), .val (.int (Int32.ofNat (o + i))), .val (.ref d), .val (.int (Int32.ofNat (q + i))), .val (.int (Int32.ofNat len)), .val (.int (Int32.ofNat i)), .val (.int (cv A (o + i)))] [.int (lo8 (cv A (o + i))), .int (Int32.ofNat (q + i)), .ref d])) := c5.trans (by
        refine XS.iload Xl.here hexec rfl (hb hbytes d15) rfl ?_
        refine sipushV Xl.here hexec rfl 255 (hb hbytes d17) (by decide) ?_
        refine XS.icmpYes Xl.here hexec rfl (pc0 := 20) rfl (hb hbytes d20) rfl (ii_le_t (hp i (by omega))) (by decide) rfl ?_
        refine XS.aloadN Xl.here hexec rfl (hb hbytes d26) rfl rfl ?_
        refine XS.iloadN Xl.here hexec rfl (hb hbytes d27) rfl ?_
        refine XS.iload Xl.here hexec rfl (hb hbytes d28) rfl ?_
        refine i2b Xl.here hexec rfl (hb hbytes d30) rfl ?_
        exact Steps.refl _)
      obtain ⟨T7, X7, p7, st7⟩ := Xl.aput hexec hBk rfl hlt rfl (fits_lo8 (cv A (o + i))) (g := (mkF m 31 #[.val (.ref b), .val (.int (Int32.ofNat (o + i))), .val (.ref d), .val (.int (Int32.ofNat (q + i))), .val (.int (Int32.ofNat len)), .val (.int (Int32.ofNat i)), .val (.int (cv A (o + i)))] [.int (lo8 (cv A (o + i))), .int (Int32.ofNat (q + i)), .ref d])) rfl (rest := []) rfl (hb hbytes d31)
      have c8 : Steps p.tables e below (s₁.setTop (entryFrame m #[.ref b, .int (Int32.ofNat o), .ref d, .int (Int32.ofNat q), .int (Int32.ofNat len)] 7)) (T7.setTop (mkF m 32 #[.val (.ref b), .val (.int (Int32.ofNat (o + i))), .val (.ref d), .val (.int (Int32.ofNat (q + i))), .val (.int (Int32.ofNat len)), .val (.int (Int32.ofNat i)), .val (.int (cv A (o + i)))] [])) := c6.trans (st7 _ (Steps.refl _))
      have c9 : Steps p.tables e below (s₁.setTop (entryFrame m #[.ref b, .int (Int32.ofNat o), .ref d, .int (Int32.ofNat q), .int (Int32.ofNat len)] 7)) (T7.setTop (mkF m 3 #[.val (.ref b), .val (.int (Int32.ofNat (o + i) + 1)), .val (.ref d), .val (.int (Int32.ofNat (q + i) + 1)), .val (.int (Int32.ofNat len)), .val (.int (Int32.ofNat i + 1)), .val (.int (cv A (o + i)))] [])) := c8.trans (by
        refine iincV X7.here hexec rfl 1 (hb hbytes d32) (by decide) rfl rfl ?_
        refine iincV X7.here hexec rfl 1 (hb hbytes d35) (by decide) rfl rfl ?_
        refine iincV X7.here hexec rfl 1 (hb hbytes d38) (by decide) rfl rfl ?_
        refine XS.goto X7.here hexec rfl (pc0 := 41) rfl (hb hbytes d41) (by decide) rfl ?_
        exact Steps.refl _)
      have c10 : Steps p.tables e below (s₁.setTop (entryFrame m #[.ref b, .int (Int32.ofNat o), .ref d, .int (Int32.ofNat q), .int (Int32.ofNat len)] 7)) (T7.setTop (mkF m 3 #[.val (.ref b), .val (.int (Int32.ofNat (o + (i + 1)))), .val (.ref d), .val (.int (Int32.ofNat (q + (i + 1)))), .val (.int (Int32.ofNat len)), .val (.int (Int32.ofNat (i + 1))), .val (.int (cv A (o + i)))] [])) := by
        have := c9
        rw [succ32, succ32, succ32] at this
        exact this
      exact ih (i + 1) (by omega) _ (Or.inr ⟨_, rfl, rfl⟩) T7 _ (by rw [copyLocs_step, ← List.append_assoc]; exact X7) (pl.trans p7) (fl.step (by omega) hlt (by simp)) c10
  obtain ⟨T9, B9, z9, X9, p9, f9, g9⟩ := loop len 0 (by omega) .unset (Or.inl rfl) s₁ B (by simpa [copyLocs] using X0) ⟨hB0.1, fun _ _ => rfl, rfl⟩ (Laid.zero _ _ _) c2
  have c11 : Steps p.tables e below (s₁.setTop (entryFrame m #[.ref b, .int (Int32.ofNat o), .ref d, .int (Int32.ofNat q), .int (Int32.ofNat len)] 7)) (T9.setTop (mkF m 46 #[.val (.ref b), .val (.int (Int32.ofNat (o + len))), .val (.ref d), .val (.int (Int32.ofNat (q + len))), .val (.int (Int32.ofNat len)), .val (.int (Int32.ofNat len)), z9] [.int (Int32.ofNat len)])) := g9.trans (by
    refine XS.iload X9.here hexec rfl (hb hbytes d3) rfl ?_
    refine XS.iload X9.here hexec rfl (hb hbytes d5) rfl ?_
    refine XS.icmpYes X9.here hexec rfl (pc0 := 7) rfl (hb hbytes d7) rfl (ii_ge_t (nlt32 (by omega) (Nat.le_refl _))) (by decide) rfl ?_
    refine XS.iload X9.here hexec rfl (hb hbytes d44) rfl ?_
    exact Steps.refl _)
  exact ⟨T9, some (.int (Int32.ofNat len)), _, _, _, X9, by simp, rfl, rfl, (fun h => by cases h), ⟨rfl, B9, p9.from hh0, f9⟩, fun fs hl => c11.trans (X9.ireturnOut hexec hret rfl (Or.inl rfl) (hb hbytes d46) hl)⟩
end Cmp5
namespace Cmp3
def yN : MethodName := ⟨"java/lang/StringUTF16", "compress", "([CII)[B"⟩
abbrev yB : ByteArray := jdk_52_method_16_code
theorem d0 : decode yB 0 = .ok (.iload_n 2, 1) := by decide +kernel
theorem d1 : decode yB 1 = .ok (.newarray .byte, 2) := by decide +kernel
theorem d3 : decode yB 3 = .ok (.astore_n 3, 1) := by decide +kernel
theorem d4 : decode yB 4 = .ok (.aload_n 0, 1) := by decide +kernel
theorem d5 : decode yB 5 = .ok (.iload_n 1, 1) := by decide +kernel
theorem d6 : decode yB 6 = .ok (.aload_n 3, 1) := by decide +kernel
theorem d7 : decode yB 7 = .ok (.iconst 0, 1) := by decide +kernel
theorem d8 : decode yB 8 = .ok (.iload_n 2, 1) := by decide +kernel
theorem d9 : decode yB 9 = .ok (.invokestatic 115, 3) := by decide +kernel
theorem d12 : decode yB 12 = .ok (.istore 4, 2) := by decide +kernel
theorem d14 : decode yB 14 = .ok (.iload 4, 2) := by decide +kernel
theorem d16 : decode yB 16 = .ok (.iload_n 2, 1) := by decide +kernel
theorem d17 : decode yB 17 = .ok (.if_icmp (.eq) 40, 3) := by decide +kernel
theorem d57 : decode yB 57 = .ok (.aload_n 3, 1) := by decide +kernel
theorem d58 : decode yB 58 = .ok (.areturn, 1) := by decide +kernel
def site : List Cond := [.arrayClass .byte, Cmp5.tab] ++ staticW U16 115 Cmp5.yN
def tab : Cond := tabOf yN yB 6 (some (.array .byte)) site
def P (b : Addr) (A : Cell) (o len : Nat) (args : Array Value) (s : State) : Prop := args = #[.ref b, .int (Int32.ofNat o), .int (Int32.ofNat len)] ∧ Ch b A s ∧ o + len ≤ A.slots.size ∧ len ≤ 536870912 ∧ ∀ i, i < len → ¬ 255 < cv A (o + i)
def E (b : Addr) (A : Cell) (o len : Nat) (r : Option Value) (s u : State) : Prop := NewArr .byte "[B" len (fun j => .int (lo8 (cv A (o + j)))) r s u ∧ u.heap.size = s.heap.size + 1
/-- no char of the range above 255: a new byte[] of their low bytes -/
theorem law (l : Launch) (b : Addr) (A : Cell) (o len : Nat) : Law l yN 3 3 1 18 yB 6 (some (.array .byte)) site (P b A o len) (E b A o len) [] 1 len := by
  refine Law.of_walk (plainFor_of_name (by decide +kernel)) (by decide +kernel) (by decide +kernel) (by decide) (fun _ _ h => by rw [h.1]; rfl) (fun _ U U' hal hh h => ⟨h.1, h.2.1.mv hal hh, h.2.2⟩) (fun r U U' V V' h1 hal h2 h => ⟨NewArr.mv r U U' V V' h1 hal h2 h.1, by rw [h1, h2]; exact h.2⟩) ?_
  intro p e s m args below meth c s₁ X0 hexec hbytes hml hret hlk hnm hown hh0 W hP
  obtain ⟨rfl, hA, l1, l2, hp⟩ := hP
  have a31 := hA.1.2.2.2
  have c1 : Steps p.tables e below (s₁.setTop (entryFrame m #[.ref b, .int (Int32.ofNat o), .int (Int32.ofNat len)] 6)) (s₁.setTop (mkF m 0 #[.val (.ref b), .val (.int (Int32.ofNat o)), .val (.int (Int32.ofNat len)), .unset, .unset, .unset] [])) := entry rfl
  have c2 : Steps p.tables e below (s₁.setTop (entryFrame m #[.ref b, .int (Int32.ofNat o), .int (Int32.ofNat len)] 6)) (s₁.setTop (mkF m 1 #[.val (.ref b), .val (.int (Int32.ofNat o)), .val (.int (Int32.ofNat len)), .unset, .unset, .unset] [.int (Int32.ofNat len)])) := c1.trans (by
    refine XS.iloadN X0.here hexec rfl (hb hbytes d0) rfl ?_
    exact Steps.refl _)
  obtain ⟨T3, B3, X3, ba3, bs3, bv3, bh3, bf3, st3⟩ := X0.anew hexec (atype := .byte) (wk W (.arrayClass .byte)) rfl (by show len * 1 ≤ _; omega) (by omega) (g := (mkF m 1 #[.val (.ref b), .val (.int (Int32.ofNat o)), .val (.int (Int32.ofNat len)), .unset, .unset, .unset] [.int (Int32.ofNat len)])) rfl (hb hbytes d1) (rest := []) rfl (Nat.le_refl _) (by show 0 + len ≤ len; omega)
  rw [hh0] at ba3 st3
  have kp3 : XT.Kept s T3 := (XT.Kept.of_eq hh0).push bh3
  have hA3 := hA.keep X3.warmed.alike (kp3 _ _ hA.1.1)
  have hne : b ≠ s.heap.size := hA.1.ne
  have c4 : Steps p.tables e below (s₁.setTop (entryFrame m #[.ref b, .int (Int32.ofNat o), .int (Int32.ofNat len)] 6)) (T3.setTop (mkF m 3 #[.val (.ref b), .val (.int (Int32.ofNat o)), .val (.int (Int32.ofNat len)), .unset, .unset, .unset] [.ref s.heap.size])) := c2.trans (st3 _ (Steps.refl _))
  have c5 : Steps p.tables e below (s₁.setTop (entryFrame m #[.ref b, .int (Int32.ofNat o), .int (Int32.ofNat len)] 6)) (T3.setTop (mkF m 9 #[.val (.ref b), .val (.int (Int32.ofNat o)), .val (.int (Int32.ofNat len)), .val (.ref s.heap.size), .unset, .unset] [.int (Int32.ofNat len), .int 0, .ref s.heap.size, .int (Int32.ofNat o), .ref b])) := c4.trans (by
    refine XS.astoreN X3.here hexec rfl (hb hbytes d3) rfl rfl rfl ?_
    refine XS.aloadN X3.here hexec rfl (hb hbytes d4) rfl rfl ?_
    refine XS.iloadN X3.here hexec rfl (hb hbytes d5) rfl ?_
    refine XS.aloadN X3.here hexec rfl (hb hbytes d6) rfl rfl ?_
    refine iconstV X3.here hexec rfl 0 (hb hbytes d7) (by decide) ?_
    refine XS.iloadN X3.here hexec rfl (hb hbytes d8) rfl ?_
    exact Steps.refl _)
  obtain ⟨v6, T6, X6, E6, g6⟩ := X3.callS hexec (Cmp5.law l b A s.heap.size B3 o 0 len) hown (wks W (staticW U16 115 Cmp5.yN)) (wk W Cmp5.tab) (W := 0) (Nat.le_of_ble_eq_true rfl) (Nat.le_of_ble_eq_true rfl) (Nat.le_refl _) (by show 0 + len + 0 ≤ len; omega) (g := (mkF m 9 #[.val (.ref b), .val (.int (Int32.ofNat o)), .val (.int (Int32.ofNat len)), .val (.ref s.heap.size), .unset, .unset] [.int (Int32.ofNat len), .int (Int32.ofNat 0), .ref s.heap.size, .int (Int32.ofNat o), .ref b])) rfl (by rw [hml]; rfl) c5 (argsL := [.ref b, .int (Int32.ofNat o), .ref s.heap.size, .int (Int32.ofNat 0), .int (Int32.ofNat len)]) (rest := []) rfl rfl (by show 2 * 0 + 0 ≤ _; decide) (hb hbytes d9) (⟨rfl, hA3, ba3, hne, l1, by rw [bs3]; simp, hp⟩)
  obtain ⟨rfl, B6, p6, f6⟩ := E6
  have c7 : Steps p.tables e below (s₁.setTop (entryFrame m #[.ref b, .int (Int32.ofNat o), .int (Int32.ofNat len)] 6)) (T6.setTop (mkF m 12 #[.val (.ref b), .val (.int (Int32.ofNat o)), .val (.int (Int32.ofNat len)), .val (.ref s.heap.size), .unset, .unset] [.int (Int32.ofNat len)])) := g6
  have c8 : Steps p.tables e below (s₁.setTop (entryFrame m #[.ref b, .int (Int32.ofNat o), .int (Int32.ofNat len)] 6)) (T6.setTop (mkF m 58 #[.val (.ref b), .val (.int (Int32.ofNat o)), .val (.int (Int32.ofNat len)), .val (.ref s.heap.size), .val (.int (Int32.ofNat len)), .unset] [.ref s.heap.size])) := c7.trans (by
    refine XS.istore X6.here hexec rfl (hb hbytes d12) rfl rfl ?_
    refine XS.iload X6.here hexec rfl (hb hbytes d14) rfl ?_
    refine XS.iloadN X6.here hexec rfl (hb hbytes d16) rfl ?_
    refine XS.icmpYes X6.here hexec rfl (pc0 := 17) rfl (hb hbytes d17) rfl (ii_eq_t rfl) (by decide) rfl ?_
    refine XS.aloadN X6.here hexec rfl (hb hbytes d57) rfl rfl ?_
    exact Steps.refl _)
  have X8 := X6.wide (L' := []) (cells' := 1) (slots' := len) (fun x hx hlt => by
    simp only [List.nil_append, copyLocs, List.mem_map, List.mem_range] at hx
    obtain ⟨i, -, rfl⟩ := hx
    exact absurd hlt (Nat.lt_irrefl _)) (Nat.le_refl _) (by omega)
  exact ⟨T6, some (.ref s.heap.size), _, _, _, X8, rfl, rfl, rfl, (fun h => by cases h), ⟨⟨rfl, B6, ba3.like (X3.warmed.alike.symm.trans X6.warmed.alike) p6.1 f6.1 f6.2.1 f6.2.2.1, f6.2.1.trans bv3, by rw [X6.warmed.alike.findClass, f6.1]; exact bf3, by rw [f6.2.2.1, bs3]; simp, fun j hj => by rw [f6.2.2.2 j, if_pos (by omega)]; rfl, kp3.put p6 (Nat.le_refl _)⟩, by rw [p6.2.2, bh3, hh0]; simp⟩, fun fs hl => c8.trans (X8.areturnOut hexec rfl hret rfl (hb hbytes d58) hl)⟩
end Cmp3
namespace CodL
def yN : MethodName := ⟨"java/lang/StringUTF16", "coderFromArrayLen", "([BI)B"⟩
abbrev yB : ByteArray := jdk_52_method_15_code
theorem d0 : decode yB 0 = .ok (.iload_n 1, 1) := by decide +kernel
theorem d1 : decode yB 1 = .ok (.aload_n 0, 1) := by decide +kernel
theorem d2 : decode yB 2 = .ok (.arraylength, 1) := by decide +kernel
theorem d3 : decode yB 3 = .ok (.isub, 1) := by decide +kernel
theorem d4 : decode yB 4 = .ok (.bipush 31, 2) := by decide +kernel
theorem d6 : decode yB 6 = .ok (.iushr, 1) := by decide +kernel
theorem d7 : decode yB 7 = .ok (.i2b, 1) := by decide +kernel
theorem d8 : decode yB 8 = .ok (.ireturn, 1) := by decide +kernel
def site : List Cond := []
def tab : Cond := tabOf yN yB 2 (some .byte) site
def P (d : Addr) (B : Cell) (args : Array Value) (s : State) : Prop := args = #[.ref d, .int (Int32.ofNat B.slots.size)] ∧ Arr .byte d B s
def E (r : Option Value) (s u : State) : Prop := XT.PureE (some (.int 0)) r s u
/-- an array as long as the number of chars: LATIN1 -/
theorem law (l : Launch) (d : Addr) (B : Cell) : Law l yN 2 2 0 0 yB 2 (some .byte) site (P d B) E [] 0 0 := by
  refine Law.of_walk (plainFor_of_name (by decide +kernel)) (by decide +kernel) (by decide +kernel) (by decide) (fun _ _ h => by rw [h.1]; rfl) (fun _ U U' hal hh h => ⟨h.1, h.2.mv hal hh⟩) (fun r U U' V V' h1 hal h2 h => XT.PureE.mv r U U' V V' h1 hal h2 h) ?_
  intro p e s m args below meth c s₁ X0 hexec hbytes hml hret hlk hnm hown hh0 W hP
  obtain ⟨rfl, hB⟩ := hP
  have hB0 := hB.mv X0.warmed.alike hh0
  have c1 : Steps p.tables e below (s₁.setTop (entryFrame m #[.ref d, .int (Int32.ofNat B.slots.size)] 2)) (s₁.setTop (mkF m 0 #[.val (.ref d), .val (.int (Int32.ofNat B.slots.size))] [])) := entry rfl
  have c2 : Steps p.tables e below (s₁.setTop (entryFrame m #[.ref d, .int (Int32.ofNat B.slots.size)] 2)) (s₁.setTop (mkF m 2 #[.val (.ref d), .val (.int (Int32.ofNat B.slots.size))] [.ref d, .int (Int32.ofNat B.slots.size)])) := c1.trans (by
    refine XS.iloadN X0.here hexec rfl (hb hbytes d0) rfl ?_
    refine XS.aloadN X0.here hexec rfl (hb hbytes d1) rfl rfl ?_
    exact Steps.refl _)
  have c3 : Steps p.tables e below (s₁.setTop (entryFrame m #[.ref d, .int (Int32.ofNat B.slots.size)] 2)) (s₁.setTop (mkF m 8 #[.val (.ref d), .val (.int (Int32.ofNat B.slots.size))] [.int (lo8 (ushr (Int32.ofNat B.slots.size - Int32.ofNat B.slots.size) 31))])) := c2.trans (by
    refine X0.alen hexec hB0 rfl rfl (hb hbytes d2) ?_
    refine XS.isub X0.here hexec rfl (hb hbytes d3) rfl ?_
    refine bipushV X0.here hexec rfl 31 (hb hbytes d4) (by decide) ?_
    refine iushr X0.here hexec rfl (hb hbytes d6) rfl ?_
    refine i2b X0.here hexec rfl (hb hbytes d7) rfl ?_
    exact Steps.refl _)
  have e0 : lo8 (ushr (Int32.ofNat B.slots.size - Int32.ofNat B.slots.size) 31) = 0 := by rw [Int32.sub_self]; decide
  rw [e0] at c3
  exact ⟨s₁, some (.int 0), _, _, _, X0, rfl, rfl, rfl, (fun h => by cases h), ⟨rfl, hh0⟩, fun fs hl => c3.trans (X0.ireturnOut hexec hret rfl (Or.inr (Or.inr (Or.inl rfl))) (hb hbytes d8) hl)⟩
end CodL
/-- the String at a is Latin-1 over a new byte[] (the heap's one new cell): the low bytes of the len chars of A from o on; every cell but a is kept -/
def Got (a : Addr) (D : Cell) (fV fC : Field) (A : Cell) (o len : Nat) (r : Option Value) (s u : State) : Prop := r = none ∧ ∃ D' V : Cell, Blank "java/lang/String" a D' u ∧ Same D D' [fV.slot, fC.slot] ∧ D'.slots[fV.slot]? = some (.ref s.heap.size) ∧ D'.slots[fC.slot]? = some (.int 0) ∧ Arr .byte s.heap.size V u ∧ V.vm = .none ∧ u.vm.findClass "[B" = some V.cls ∧ V.slots.size = len ∧ (∀ j, j < len → V.slots[j]? = some (.int (lo8 (cv A (o + j))))) ∧ (∀ (y : Addr) (c : Cell), y ≠ a → s.heap[y]? = some c → u.heap[y]? = some c) ∧ u.heap.size = s.heap.size + 1
theorem Got.mv {a : Addr} {D A : Cell} {fV fC : Field} {o len : Nat} : ∀ r (U U' V V' : State), U'.heap = U.heap → V.vm.Alike V'.vm → V'.heap = V.heap → Got a D fV fC A o len r U V → Got a D fV fC A o len r U' V' :=
  fun r U U' V V' h1 hal h2 ⟨e0, D', X, a1, a2, a3, a4, a5, a6, a7, a8, a9, a10, a11⟩ => ⟨e0, D', X, a1.mv hal h2, a2, by rw [h1]; exact a3, a4, by rw [h1]; exact a5.mv hal h2, a6, by rw [hal.findClass]; exact a7, a8, a9, by rw [h1, h2]; exact a10, by rw [h1, h2]; exact a11⟩
namespace New4
def yN : MethodName := ⟨"java/lang/String", "<init>", "([CIILjava/lang/Void;)V"⟩
abbrev yB : ByteArray := jdk_42_method_149_code
theorem d0 : decode yB 0 = .ok (.aload_n 0, 1) := by decide +kernel
theorem d1 : decode yB 1 = .ok (.invokespecial 1, 3) := by decide +kernel
theorem d4 : decode yB 4 = .ok (.iload_n 3, 1) := by decide +kernel
theorem d5 : decode yB 5 = .ok (.ifCond (.ne) 22, 3) := by decide +kernel
theorem d27 : decode yB 27 = .ok (.getstatic 38, 3) := by decide +kernel
theorem d30 : decode yB 30 = .ok (.ifCond (.eq) 28, 3) := by decide +kernel
theorem d33 : decode yB 33 = .ok (.aload_n 1, 1) := by decide +kernel
theorem d34 : decode yB 34 = .ok (.iload_n 2, 1) := by decide +kernel
theorem d35 : decode yB 35 = .ok (.iload_n 3, 1) := by decide +kernel
theorem d36 : decode yB 36 = .ok (.invokestatic 177, 3) := by decide +kernel
theorem d39 : decode yB 39 = .ok (.astore 5, 2) := by decide +kernel
theorem d41 : decode yB 41 = .ok (.aload_n 0, 1) := by decide +kernel
theorem d42 : decode yB 42 = .ok (.aload 5, 2) := by decide +kernel
theorem d44 : decode yB 44 = .ok (.iload_n 3, 1) := by decide +kernel
theorem d45 : decode yB 45 = .ok (.invokestatic 47, 3) := by decide +kernel
theorem d48 : decode yB 48 = .ok (.putfield 15, 3) := by decide +kernel
theorem d51 : decode yB 51 = .ok (.aload_n 0, 1) := by decide +kernel
theorem d52 : decode yB 52 = .ok (.aload 5, 2) := by decide +kernel
theorem d54 : decode yB 54 = .ok (.putfield 9, 3) := by decide +kernel
theorem d57 : decode yB 57 = .ok (.return_, 1) := by decide +kernel
def site : List Cond := [.fieldLink "java/lang/String" 38 "java/lang/String" "COMPACT_STRINGS" "Z", Cmp3.tab, CodL.tab, .laysFinal "java/lang/String" "java/lang/String" "value" "[B", .fieldLink "java/lang/String" 9 "java/lang/String" "value" "[B", .laysFinal "java/lang/String" "java/lang/String" "coder" "B", .fieldLink "java/lang/String" 15 "java/lang/String" "coder" "B"] ++ objW "java/lang/String" 1 ++ staticW "java/lang/String" 177 Cmp3.yN ++ staticW "java/lang/String" 47 CodL.yN
def tab : Cond := tabOf yN yB 6 none site
def P (a : Addr) (D : Cell) (fV fC : Field) (b : Addr) (A : Cell) (z : Int32) (o len : Nat) (args : Array Value) (s : State) : Prop := args = #[.ref a, .ref b, .int (Int32.ofNat o), .int (Int32.ofNat len), .null] ∧ Blank "java/lang/String" a D s ∧ Found "java/lang/String" "value" "[B" fV s ∧ Found "java/lang/String" "coder" "B" fC s ∧ Ch b A s ∧ StaticIs s "java/lang/String" "COMPACT_STRINGS" "Z" (.int z) ∧ ¬ z = 0 ∧ 0 < len ∧ o + len ≤ A.slots.size ∧ len ≤ 536870912 ∧ ∀ i, i < len → ¬ 255 < cv A (o + i)
def E (a : Addr) (D : Cell) (fV fC : Field) (A : Cell) (o len : Nat) (r : Option Value) (s u : State) : Prop := Got a D fV fC A o len r s u
/-- len > 0, no char of the range above 255: a Latin-1 String of their low bytes -/
theorem law (l : Launch) (a : Addr) (D : Cell) (fV fC : Field) (b : Addr) (A : Cell) (z : Int32) (o len : Nat) : Law l yN 5 4 2 35 yB 6 none site (P a D fV fC b A z o len) (E a D fV fC A o len) [⟨a, fC.slot⟩, ⟨a, fV.slot⟩] 1 len := by
  refine Law.of_walk (plainFor_of_name (by decide +kernel)) (by decide +kernel) (by decide +kernel) (by decide) (fun _ _ h => by rw [h.1]; rfl) (fun _ U U' hal hh h => ⟨h.1, h.2.1.mv hal hh, h.2.2.1.al hal, h.2.2.2.1.al hal, h.2.2.2.2.1.mv hal hh, h.2.2.2.2.2.1.there hal hh, h.2.2.2.2.2.2⟩) (fun r U U' V V' h1 hal h2 h => Got.mv r U U' V V' h1 hal h2 h) ?_
  intro p e s m args below meth c s₁ X0 hexec hbytes hml hret hlk hnm hown hh0 W hP
  obtain ⟨rfl, hB, f1, f2, hA, s1, hz, l0, l1, l2, hp⟩ := hP
  have a31 := hA.1.2.2.2
  have c1 : Steps p.tables e below (s₁.setTop (entryFrame m #[.ref a, .ref b, .int (Int32.ofNat o), .int (Int32.ofNat len), .null] 6)) (s₁.setTop (mkF m 0 #[.val (.ref a), .val (.ref b), .val (.int (Int32.ofNat o)), .val (.int (Int32.ofNat len)), .val .null, .unset] [])) := entry rfl
  have c2 : Steps p.tables e below (s₁.setTop (entryFrame m #[.ref a, .ref b, .int (Int32.ofNat o), .int (Int32.ofNat len), .null] 6)) (s₁.setTop (mkF m 1 #[.val (.ref a), .val (.ref b), .val (.int (Int32.ofNat o)), .val (.int (Int32.ofNat len)), .val .null, .unset] [.ref a])) := c1.trans (by
    refine XS.aloadN X0.here hexec rfl (hb hbytes d0) rfl rfl ?_
    exact Steps.refl _)
  obtain ⟨T3, X3, q3, st3⟩ := X0.oinit hexec hown (wks W (objW "java/lang/String" 1)) (g := (mkF m 1 #[.val (.ref a), .val (.ref b), .val (.int (Int32.ofNat o)), .val (.int (Int32.ofNat len)), .val .null, .unset] [.ref a])) rfl (by rw [hml]; rfl) (rest := []) rfl (hb hbytes d1) (W := 0) (by show 2 * 0 + 0 ≤ _; decide) (Nat.le_of_ble_eq_true rfl) (Nat.le_of_ble_eq_true rfl)
  have hh3 := q3.trans hh0
  have c4 : Steps p.tables e below (s₁.setTop (entryFrame m #[.ref a, .ref b, .int (Int32.ofNat o), .int (Int32.ofNat len), .null] 6)) (T3.setTop (mkF m 27 #[.val (.ref a), .val (.ref b), .val (.int (Int32.ofNat o)), .val (.int (Int32.ofNat len)), .val .null, .unset] [])) := (c2.trans (st3 _ (Steps.refl _))).trans (by
    refine XS.iloadN X3.here hexec rfl (hb hbytes d4) rfl ?_
    refine XS.ifYes X3.here hexec rfl (pc0 := 5) rfl (hb hbytes d5) rfl (i0_ne_t (nz32 (by omega) l0)) (by decide) rfl ?_
    exact Steps.refl _)
  obtain ⟨T5, X5, q5, st5⟩ := X3.sget hexec hown (wk W (.fieldLink "java/lang/String" 38 "java/lang/String" "COMPACT_STRINGS" "Z")) s1 (fun _ _ h => by rw [hh3]; exact h) (g := (mkF m 27 #[.val (.ref a), .val (.ref b), .val (.int (Int32.ofNat o)), .val (.int (Int32.ofNat len)), .val .null, .unset] [])) rfl (hb hbytes d27)
  have hh5 := q5.trans hh3
  have c6 : Steps p.tables e below (s₁.setTop (entryFrame m #[.ref a, .ref b, .int (Int32.ofNat o), .int (Int32.ofNat len), .null] 6)) (T5.setTop (mkF m 30 #[.val (.ref a), .val (.ref b), .val (.int (Int32.ofNat o)), .val (.int (Int32.ofNat len)), .val .null, .unset] [.int z])) := c4.trans (st5 _ (Steps.refl _))
  have c7 : Steps p.tables e below (s₁.setTop (entryFrame m #[.ref a, .ref b, .int (Int32.ofNat o), .int (Int32.ofNat len), .null] 6)) (T5.setTop (mkF m 36 #[.val (.ref a), .val (.ref b), .val (.int (Int32.ofNat o)), .val (.int (Int32.ofNat len)), .val .null, .unset] [.int (Int32.ofNat len), .int (Int32.ofNat o), .ref b])) := c6.trans (by
    refine XS.ifNo X5.here hexec rfl (hb hbytes d30) rfl (i0_eq_f hz) ?_
    refine XS.aloadN X5.here hexec rfl (hb hbytes d33) rfl rfl ?_
    refine XS.iloadN X5.here hexec rfl (hb hbytes d34) rfl ?_
    refine XS.iloadN X5.here hexec rfl (hb hbytes d35) rfl ?_
    exact Steps.refl _)
  obtain ⟨v8, T8, X8, E8, g8⟩ := X5.callS hexec (Cmp3.law l b A o len) hown (wks W (staticW "java/lang/String" 177 Cmp3.yN)) (wk W Cmp3.tab) (W := 0) (Nat.le_of_ble_eq_true rfl) (Nat.le_of_ble_eq_true rfl) (Nat.le_refl _) (by show 0 + len ≤ len; omega) (g := (mkF m 36 #[.val (.ref a), .val (.ref b), .val (.int (Int32.ofNat o)), .val (.int (Int32.ofNat len)), .val .null, .unset] [.int (Int32.ofNat len), .int (Int32.ofNat o), .ref b])) rfl (by rw [hml]; rfl) c7 (argsL := [.ref b, .int (Int32.ofNat o), .int (Int32.ofNat len)]) (rest := []) rfl rfl (by show 2 * 0 + 0 ≤ _; decide) (hb hbytes d36) (⟨rfl, hA.mv X5.warmed.alike hh5, l1, l2, hp⟩)
  obtain ⟨e8, z8⟩ := E8
  obtain ⟨rfl, N, n1, n2, n3, n4, n5, n6⟩ := NewArr.mv _ T5 s _ _ hh5.symm (Vm.Alike.refl _) rfl e8
  rw [hh5] at z8
  have hB1 := hB.keep X8.warmed.alike (n6 _ _ hB.1)
  have hne : s.heap.size ≠ a := (Nat.ne_of_lt (Array.getElem?_eq_some_iff.mp hB.1).1).symm
  have c9 : Steps p.tables e below (s₁.setTop (entryFrame m #[.ref a, .ref b, .int (Int32.ofNat o), .int (Int32.ofNat len), .null] 6)) (T8.setTop (mkF m 39 #[.val (.ref a), .val (.ref b), .val (.int (Int32.ofNat o)), .val (.int (Int32.ofNat len)), .val .null, .unset] [.ref s.heap.size])) := g8
  have c10 : Steps p.tables e below (s₁.setTop (entryFrame m #[.ref a, .ref b, .int (Int32.ofNat o), .int (Int32.ofNat len), .null] 6)) (T8.setTop (mkF m 45 #[.val (.ref a), .val (.ref b), .val (.int (Int32.ofNat o)), .val (.int (Int32.ofNat len)), .val .null, .val (.ref s.heap.size)] [.int (Int32.ofNat N.slots.size), .ref s.heap.size, .ref a])) := by
    have hc : Steps p.tables e below (s₁.setTop (entryFrame m #[.ref a, .ref b, .int (Int32.ofNat o), .int (Int32.ofNat len), .null] 6)) (T8.setTop (mkF m 45 #[.val (.ref a), .val (.ref b), .val (.int (Int32.ofNat o)), .val (.int (Int32.ofNat len)), .val .null, .val (.ref s.heap.size)] [.int (Int32.ofNat len), .ref s.heap.size, .ref a])) := c9.trans (by
      refine XS.astore X8.here hexec rfl (hb hbytes d39) rfl rfl rfl ?_
      refine XS.aloadN X8.here hexec rfl (hb hbytes d41) rfl rfl ?_
      refine XS.aload X8.here hexec rfl (hb hbytes d42) rfl rfl ?_
      refine XS.iloadN X8.here hexec rfl (hb hbytes d44) rfl ?_
      exact Steps.refl _)
    rw [n4]; exact hc
  obtain ⟨v11, T11, X11, E11, g11⟩ := X8.callS hexec (CodL.law l s.heap.size N) hown (wks W (staticW "java/lang/String" 47 CodL.yN)) (wk W CodL.tab) (W := 1) (Nat.le_of_ble_eq_true rfl) (Nat.le_of_ble_eq_true rfl) (Nat.le_refl _) (by show 0 + len + 0 ≤ len; omega) (g := (mkF m 45 #[.val (.ref a), .val (.ref b), .val (.int (Int32.ofNat o)), .val (.int (Int32.ofNat len)), .val .null, .val (.ref s.heap.size)] [.int (Int32.ofNat N.slots.size), .ref s.heap.size, .ref a])) rfl (by rw [hml]; rfl) c10 (argsL := [.ref s.heap.size, .int (Int32.ofNat N.slots.size)]) (rest := [.ref a]) rfl rfl (by show 2 * 0 + (1 + 0) ≤ _; decide) (hb hbytes d45) (⟨rfl, n1⟩)
  obtain ⟨rfl, q11⟩ := E11
  have hB11 := hB1.mv (X8.warmed.alike.symm.trans X11.warmed.alike) q11
  have c12 : Steps p.tables e below (s₁.setTop (entryFrame m #[.ref a, .ref b, .int (Int32.ofNat o), .int (Int32.ofNat len), .null] 6)) (T11.setTop (mkF m 48 #[.val (.ref a), .val (.ref b), .val (.int (Int32.ofNat o)), .val (.int (Int32.ofNat len)), .val .null, .val (.ref s.heap.size)] [.int 0, .ref a])) := g11
  obtain ⟨T13, X13, p13, bl13, sl13, st13⟩ := X11.finit hexec hown (wk W (.fieldLink "java/lang/String" 15 "java/lang/String" "coder" "B")) (Or.inr ⟨_, (wk W (.laysFinal "java/lang/String" "java/lang/String" "coder" "B"))⟩) (Or.inl ⟨rfl, hnm⟩) f2 (Or.inl rfl) hB11 (t := .byte) (by decide +kernel) rfl (g := (mkF m 48 #[.val (.ref a), .val (.ref b), .val (.int (Int32.ofNat o)), .val (.int (Int32.ofNat len)), .val .null, .val (.ref s.heap.size)] [.int 0, .ref a])) rfl (rest := []) rfl (hb hbytes d48)
  have c14 : Steps p.tables e below (s₁.setTop (entryFrame m #[.ref a, .ref b, .int (Int32.ofNat o), .int (Int32.ofNat len), .null] 6)) (T13.setTop (mkF m 54 #[.val (.ref a), .val (.ref b), .val (.int (Int32.ofNat o)), .val (.int (Int32.ofNat len)), .val .null, .val (.ref s.heap.size)] [.ref s.heap.size, .ref a])) := (c12.trans (st13 _ (Steps.refl _))).trans (by
    refine XS.aloadN X13.here hexec rfl (hb hbytes d51) rfl rfl ?_
    refine XS.aload X13.here hexec rfl (hb hbytes d52) rfl rfl ?_
    exact Steps.refl _)
  obtain ⟨T15, X15, p15, bl15, sl15, st15⟩ := X13.finit hexec hown (wk W (.fieldLink "java/lang/String" 9 "java/lang/String" "value" "[B")) (Or.inr ⟨_, (wk W (.laysFinal "java/lang/String" "java/lang/String" "value" "[B"))⟩) (Or.inl ⟨rfl, hnm⟩) f1 (Or.inl rfl) bl13 (t := (.array .byte)) (by decide +kernel) rfl (g := (mkF m 54 #[.val (.ref a), .val (.ref b), .val (.int (Int32.ofNat o)), .val (.int (Int32.ofNat len)), .val .null, .val (.ref s.heap.size)] [.ref s.heap.size, .ref a])) rfl (rest := []) rfl (hb hbytes d54)
  have c16 : Steps p.tables e below (s₁.setTop (entryFrame m #[.ref a, .ref b, .int (Int32.ofNat o), .int (Int32.ofNat len), .null] 6)) (T15.setTop (mkF m 57 #[.val (.ref a), .val (.ref b), .val (.int (Int32.ofNat o)), .val (.int (Int32.ofNat len)), .val .null, .val (.ref s.heap.size)] [])) := c14.trans (st15 _ (Steps.refl _))
  have ap := apart (Or.inr ⟨_, (wk W (.laysFinal "java/lang/String" "java/lang/String" "value" "[B"))⟩) (Or.inr ⟨_, (wk W (.laysFinal "java/lang/String" "java/lang/String" "coder" "B"))⟩) f1 f2 (t₁ := .array .byte) (t₂ := .byte) (by decide +kernel) (by decide +kernel) (by decide)
  have al := X8.warmed.alike.symm.trans X15.warmed.alike
  have n7 : T11.heap[s.heap.size]? = some N := by rw [q11]; exact n1.1
  exact ⟨T15, none, _, _, _, X15, by simp, rfl, by omega, (fun _ => rfl), ⟨rfl, _, N, bl15, ((Same.refl D _).set _ (by simp)).set _ (by simp), sl15, (Cell.slots_setSlot_ne _ ap).trans sl13, n1.keep al (p15.other hne (p13.other hne n7)), n2, by rw [al.findClass]; exact n3, n4, n5, fun y c h1 h2 => p15.other h1 (p13.other h1 (by rw [q11]; exact n6 y c h2)), by rw [p15.2.2, p13.2.2, q11]; exact z8⟩, fun fs hl => c16.trans (X15.returnOut hexec hret (hb hbytes d57) hl)⟩
end New4
namespace New1
def yN : MethodName := ⟨"java/lang/String", "<init>", "([C)V"⟩
abbrev yB : ByteArray := jdk_42_method_3_code
theorem d0 : decode yB 0 = .ok (.aload_n 0, 1) := by decide +kernel
theorem d1 : decode yB 1 = .ok (.aload_n 1, 1) := by decide +kernel
theorem d2 : decode yB 2 = .ok (.iconst 0, 1) := by decide +kernel
theorem d3 : decode yB 3 = .ok (.aload_n 1, 1) := by decide +kernel
theorem d4 : decode yB 4 = .ok (.arraylength, 1) := by decide +kernel
theorem d5 : decode yB 5 = .ok (.aconst_null, 1) := by decide +kernel
theorem d6 : decode yB 6 = .ok (.invokespecial 27, 3) := by decide +kernel
theorem d9 : decode yB 9 = .ok (.return_, 1) := by decide +kernel
def site : List Cond := [New4.tab] ++ initW "java/lang/String" 27 New4.yN
def tab : Cond := tabOf yN yB 2 none site
def P (a : Addr) (D : Cell) (fV fC : Field) (b : Addr) (A : Cell) (z : Int32) (args : Array Value) (s : State) : Prop := args = #[.ref a, .ref b] ∧ Blank "java/lang/String" a D s ∧ Found "java/lang/String" "value" "[B" fV s ∧ Found "java/lang/String" "coder" "B" fC s ∧ Ch b A s ∧ StaticIs s "java/lang/String" "COMPACT_STRINGS" "Z" (.int z) ∧ ¬ z = 0 ∧ 0 < A.slots.size ∧ A.slots.size ≤ 536870912 ∧ ∀ i, i < A.slots.size → ¬ 255 < cv A i
def E (a : Addr) (D : Cell) (fV fC : Field) (A : Cell) (r : Option Value) (s u : State) : Prop := Got a D fV fC A 0 A.slots.size r s u
/-- new String(chars), not empty, no char above 255: a Latin-1 String of their low bytes -/
theorem law (l : Launch) (a : Addr) (D : Cell) (fV fC : Field) (b : Addr) (A : Cell) (z : Int32) : Law l yN 2 1 3 52 yB 2 none site (P a D fV fC b A z) (E a D fV fC A) [⟨a, fC.slot⟩, ⟨a, fV.slot⟩] 1 A.slots.size := by
  refine Law.of_walk (plainFor_of_name (by decide +kernel)) (by decide +kernel) (by decide +kernel) (by decide) (fun _ _ h => by rw [h.1]; rfl) (fun _ U U' hal hh h => ⟨h.1, h.2.1.mv hal hh, h.2.2.1.al hal, h.2.2.2.1.al hal, h.2.2.2.2.1.mv hal hh, h.2.2.2.2.2.1.there hal hh, h.2.2.2.2.2.2⟩) (fun r U U' V V' h1 hal h2 h => Got.mv r U U' V V' h1 hal h2 h) ?_
  intro p e s m args below meth c s₁ X0 hexec hbytes hml hret hlk hnm hown hh0 W hP
  obtain ⟨rfl, hB, f1, f2, hA, s1, hz, l0, l2, hp⟩ := hP
  have c1 : Steps p.tables e below (s₁.setTop (entryFrame m #[.ref a, .ref b] 2)) (s₁.setTop (mkF m 0 #[.val (.ref a), .val (.ref b)] [])) := entry rfl
  have c2 : Steps p.tables e below (s₁.setTop (entryFrame m #[.ref a, .ref b] 2)) (s₁.setTop (mkF m 6 #[.val (.ref a), .val (.ref b)] [.null, .int (Int32.ofNat A.slots.size), .int 0, .ref b, .ref a])) := c1.trans (by
    refine XS.aloadN X0.here hexec rfl (hb hbytes d0) rfl rfl ?_
    refine XS.aloadN X0.here hexec rfl (hb hbytes d1) rfl rfl ?_
    refine iconstV X0.here hexec rfl 0 (hb hbytes d2) (by decide) ?_
    refine XS.aloadN X0.here hexec rfl (hb hbytes d3) rfl rfl ?_
    refine X0.alen hexec (hA.1.mv X0.warmed.alike hh0) rfl rfl (hb hbytes d4) ?_
    refine XS.aconstNull X0.here hexec rfl (hb hbytes d5) ?_
    exact Steps.refl _)
  obtain ⟨v3, T3, X3, E3, g3⟩ := X0.callN hexec (New4.law l a D fV fC b A z 0 A.slots.size) rfl hown (wks W (initW "java/lang/String" 27 New4.yN)) (W New4.tab (by simp only [site, List.mem_cons, List.mem_append, true_or, or_true])) (W := 0) (Nat.le_of_ble_eq_true rfl) (Nat.le_of_ble_eq_true rfl) (Nat.le_refl _) (by show 0 + A.slots.size ≤ A.slots.size; omega) (g := (mkF m 6 #[.val (.ref a), .val (.ref b)] [.null, .int (Int32.ofNat A.slots.size), .int (Int32.ofNat 0), .ref b, .ref a])) rfl (by rw [hml]; rfl) c2 (argsL := [.ref b, .int (Int32.ofNat 0), .int (Int32.ofNat A.slots.size), .null]) (rest := []) rfl rfl (by show 2 * 0 + 0 ≤ _; decide) (hb hbytes d6) (⟨rfl, hB.mv X0.warmed.alike hh0, f1.al X0.warmed.alike, f2.al X0.warmed.alike, hA.mv X0.warmed.alike hh0, s1.there X0.warmed.alike hh0, hz, l0, by omega, l2, fun i hi => by rw [Nat.zero_add]; exact hp i hi⟩)
  have e0 := Got.mv _ s₁ s _ _ hh0.symm (Vm.Alike.refl _) rfl E3
  obtain rfl := e0.1
  have c4 : Steps p.tables e below (s₁.setTop (entryFrame m #[.ref a, .ref b] 2)) (T3.setTop (mkF m 9 #[.val (.ref a), .val (.ref b)] [])) := g3
  exact ⟨T3, none, _, _, _, X3, by simp, rfl, by omega, (fun _ => rfl), e0, fun fs hl => c4.trans (X3.returnOut hexec hret (hb hbytes d9) hl)⟩
theorem pays {l : Launch} {R : Room} {p : Program} {e : Env} {below : List Frame} {s : State} {sargs : Array Value} {len W : Nat} (a : Addr) (D : Cell) (fV fC : Field) (b : Addr) (A : Cell) (z : Int32) (htab : tab.before sargs s = true) (hfr : 4 ≤ R.frames) (hlo : W + 65 ≤ R.locals) :
    Back l R p e below s sargs yN len W (fun A₁ a₁ => A₁.cells + 1 ≤ R.cells ∧ A₁.slots + A.slots.size ≤ R.slots ∧ P a D fV fC b A z a₁ A₁.U) (fun A₁ _ v₁ B₁ => E a D fV fC A v₁ A₁.U B₁.U ∧ B₁.locs = A₁.locs ++ [⟨a, fC.slot⟩, ⟨a, fV.slot⟩] ∧ B₁.cells = A₁.cells + 1 ∧ B₁.slots = A₁.slots + A.slots.size) :=
  (law l a D fV fC b A z).pays htab hfr (by omega)
end New1
/-- the byte, read back as charAt reads it, is the char -/
theorem lo8_mask {x : Int32} (h0 : ¬ x < 0) (h1 : ¬ 255 < x) : lo8 x &&& 255 = x := by
  have t : ∀ k : Fin 256, lo8 (Int32.ofNat k.val) &&& 255 = Int32.ofNat k.val := by decide +kernel
  rw [Int32.lt_iff_toInt_lt] at h0 h1
  have e0 : (0 : Int32).toInt = 0 := rfl
  have e1 : (255 : Int32).toInt = 255 := rfl
  obtain ⟨k, hk⟩ : ∃ k : Nat, x.toInt = k := ⟨x.toInt.toNat, by omega⟩
  have hx : x = Int32.ofNat k := Int32.toInt_inj.mp (by rw [hk, Int32.toInt_ofNat_small (by omega)])
  rw [hx]
  exact t ⟨k, by omega⟩
end StrChars
namespace StrChars.Road
open Jvm Sem ClassFile Op Lib Jvm.Stand Jvm.Free Jvm.Free.XT
open Jvm.Lib.Cold (StaticIs)
abbrev ST : String := "java/lang/String"
/-- every table word that New1's law asks, flat -/
abbrev words : List Jvm.Cond := [.code New1.yN New1.yB 2 none, .initialized ST, .methodLink ST 27 New4.yN, .instanceMethod New4.yN,
  .code New4.yN New4.yB 6 none, .fieldLink ST 38 ST "COMPACT_STRINGS" "Z", .laysFinal ST ST "value" "[B", .fieldLink ST 9 ST "value" "[B", .laysFinal ST ST "coder" "B", .fieldLink ST 15 ST "coder" "B",
  .methodLink ST 1 Lib.objectInit, .instanceMethod Lib.objectInit, .code Lib.objectInit ⟨#[0xb1]⟩ 1 none, .methodLink ST 177 Cmp3.yN, .static Cmp3.yN, .methodLink ST 47 CodL.yN, .static CodL.yN,
  .code Cmp3.yN Cmp3.yB 6 (some (.array .byte)), .initialized U16, .arrayClass .byte, .methodLink U16 115 Cmp5.yN, .static Cmp5.yN, .code Cmp5.yN Cmp5.yB 7 (some .int), .code CodL.yN CodL.yB 2 (some .byte)]
theorem tab_of {a : Array Value} {s : State} (h : ∀ w ∈ words, w.before a s = true) : New1.tab.before a s = true := by
  have h5 : Cmp5.tab.before a s = true := unparts (wk h (.code Cmp5.yN Cmp5.yB 7 (some .int))) (wks h (.initialized Cmp5.yN.cls :: Cmp5.site))
  have hc : CodL.tab.before a s = true := unparts (wk h (.code CodL.yN CodL.yB 2 (some .byte))) (wks h (.initialized CodL.yN.cls :: CodL.site))
  have q5 : ∀ w ∈ Cmp5.tab :: words, w.before a s = true := fun w hw => (List.mem_cons.mp hw).elim (fun e => e ▸ h5) (h w)
  have h3 : Cmp3.tab.before a s = true := unparts (wk q5 (.code Cmp3.yN Cmp3.yB 6 (some (.array .byte)))) (wks q5 (.initialized Cmp3.yN.cls :: Cmp3.site))
  have q3 : ∀ w ∈ Cmp3.tab :: CodL.tab :: words, w.before a s = true := fun w hw => (List.mem_cons.mp hw).elim (fun e => e ▸ h3) fun hw => (List.mem_cons.mp hw).elim (fun e => e ▸ hc) (h w)
  have h4 : New4.tab.before a s = true := unparts (wk q3 (.code New4.yN New4.yB 6 none)) (wks q3 (.initialized New4.yN.cls :: New4.site))
  have q4 : ∀ w ∈ New4.tab :: words, w.before a s = true := fun w hw => (List.mem_cons.mp hw).elim (fun e => e ▸ h4) (h w)
  exact unparts (wk q4 (.code New1.yN New1.yB 2 none)) (wks q4 (.initialized New1.yN.cls :: New1.site))
/-- the words ride from the start Z to the walk's own state -/
theorem moved {Z s : State} {a0 args : Array Value} (hZ : Z.Warmed39 s.vm) (hw : ∀ d ∈ words, d.before a0 Z = true) : ∀ d ∈ words, d.before args s = true := fun d hd => by
  have q := hw d hd
  have t : ∀ d ∈ words, d = .arrayClass .byte ∨ (d.onTables && d.keepsFace) = true := by decide +kernel
  rcases t d hd with rfl | t
  · exact RoadKit.mvA hZ q
  · exact RoadKit.mv hZ q t
/-- WHAT COMES BACK, over the tables of the start Z: h the heap at the call, h' behind it -/
def Q (Z : State) (x : Addr) (A : Cell) (h : Heap) (v : Option Value) (h' : Heap) (L : List Loc) : Prop := v = none ∧ (∀ y ∈ L, y.base = x) ∧ RoadKit.Keep h h' [x] ∧ h'.size = h.size + 1 ∧ RoadKit.Exa Z h' x ST ∧ RoadKit.Fld Z h' x ST "value" "[B" (.ref h.size) ∧ RoadKit.Fld Z h' x ST "coder" "B" (.int 0) ∧
  (∃ V : Cell, RoadKit.Arr Z h' h.size V .byte ∧ V.vm = .none ∧ Z.vm.findClass "[B" = some V.cls ∧ V.slots.size = A.slots.size ∧ ∀ j, j < A.slots.size → V.slots[j]? = some (.int (lo8 (cv A j)))) ∧
  ∀ (O n d : String) (w : Value), RoadKit.Fld Z h x O n d w → RoadKit.slotOf Z O n d ≠ RoadKit.slotOf Z ST "value" "[B" → RoadKit.slotOf Z O n d ≠ RoadKit.slotOf Z ST "coder" "B" → RoadKit.Fld Z h' x O n d w
/-- **new String(chars) AT A CALL, IN THE ROAD'S FORM**: for specialBack behind newO: x the fresh String, b the char[] with the cell A -/
theorem back {p : Program} {l : Launch} {e : Env} {R : Room} {s : State} {args : Array Value} {below : List Frame} {len W : Nat} {Z : State} {a0 : Array Value} {h : Heap} (hZ : Z.Warmed39 s.vm) (hw : ∀ d ∈ words, d.before a0 Z = true) {kI : Nat} (wi : (Jvm.Cond.instantiable ST kI).before a0 Z = true)
    {x b : Addr} {A : Cell} {z : Int32} {v0 c0 : Value} (E : RoadKit.Exa Z h x ST) (V : RoadKit.Fld Z h x ST "value" "[B" v0) (C : RoadKit.Fld Z h x ST "coder" "B" c0) (K : RoadKit.Arr Z h b A .char) (hty : Typed .char A) (S : RoadKit.Sta Z h ST "COMPACT_STRINGS" "Z" (.int z)) (hz : ¬ z = 0)
    (l0 : 0 < A.slots.size) (l2 : A.slots.size ≤ 536870912) (hp : ∀ i, i < A.slots.size → ¬ 255 < cv A i) (hfr : 4 ≤ R.frames) (hlo : W + 65 ≤ R.locals) :
    Back l R p e below s args New1.yN len W (fun P a => a = #[.ref x, .ref b] ∧ P.U.heap = h ∧ P.cells + 1 ≤ R.cells ∧ P.slots + A.slots.size ≤ R.slots)
      (fun P _ v B => ∃ L, Q Z x A h v B.U.heap L ∧ B.locs = P.locs ++ L ∧ B.cells = P.cells + 1 ∧ B.slots = P.slots + A.slots.size) := by
  intro m meth c P g ig mk a X hg hsize hdg hW hn hp'
  obtain ⟨rfl, rfl, r1, r2⟩ := hp'
  have al : Z.vm.Alike P.U.vm := hZ.alike.trans X.warmed.alike
  obtain ⟨D, cfV, kV, iV, fV, hD, gV, stV, knV, obV, asV, slV⟩ := id V
  obtain ⟨D', cfC, kC, iC, fC, hD', gC, stC, -, -, asC, slC⟩ := id C
  cases hD.symm.trans hD'
  obtain ⟨D2, kD, e1, e2, e3, e4, e5⟩ := id E
  cases hD.symm.trans e1
  obtain ⟨c2, k2, i1, i2, i3, -⟩ := Cond.instantiable_spec wi
  cases e2.symm.trans i1
  cases e3.symm.trans i2
  obtain ⟨kU, u1, u2⟩ := al.2.2 _ _ e3
  have hB : Blank ST x D P.U := ⟨hD, ⟨knV, fun q hq => by rw [hq] at obV; cases obV⟩, by rw [al.findClass]; exact e2, kU, u1, by rw [u2]; exact i3, by rw [u2]; exact e5 i3⟩
  have F1 : Found ST "value" "[B" fV P.U := ⟨SBG.found_only al ⟨cfV, kV, iV, gV⟩, stV⟩
  have F2 : Found ST "coder" "B" fC P.U := ⟨SBG.found_only al ⟨cfC, kC, iC, gC⟩, stC⟩
  have hA : Ch b A P.U := ⟨⟨K.1, State.isArrayOf_alike al K.2.1, K.2.2, by omega⟩, hty⟩
  have hS : StaticIs P.U ST "COMPACT_STRINGS" "Z" (.int z) := by
    obtain ⟨cfS, iS, kS, fS, st, cS, t1, t2, t3, t4, t5, t6, t7⟩ := S
    exact StaticIs.there (s := { Z with heap := P.U.heap }) ⟨cfS, iS, kS, fS, st, cS, t1, t2, t3, t4, t5, (fun q => by rw [q] at t6; cases t6), t7⟩ al rfl
  obtain ⟨v, B, X', ⟨⟨hv, E', V', q1, q2, q3, q4, q5, q6, q7, q8, q9, q10, q11⟩, hl, hc, hs⟩, st⟩ := New1.pays x D fV fC b A z (tab_of (moved hZ hw)) hfr hlo m meth c P g ig mk _ X hg hsize hdg hW hn ⟨r1, r2, rfl, hB, F1, F2, hA, hS, hz, l0, l2, hp⟩
  have al' : Z.vm.Alike B.U.vm := hZ.alike.trans X'.warmed.alike
  have hsz : E'.slots.size = D.slots.size := by
    obtain ⟨-, -, -, kB, w1, w2, w3⟩ := q1
    obtain ⟨kB', y1, y2⟩ := al'.2.2 _ _ e3
    rw [q2.2.1] at w1
    cases w1.symm.trans y1
    rw [w3, e5 i3, y2]
  refine ⟨v, B, X', ⟨_, ⟨hv, ?_, ⟨by omega, fun y cy hy hn' => q10 y cy (by simpa using hn') hy, fun y cy hy => ?_⟩, q11, ⟨E', _, q1.1, by rw [q2.2.1]; exact e2, by rw [q2.2.1]; exact e3, by rw [q2.1]; exact obV, fun _ => by rw [hsz]; exact e5 i3⟩,
    ⟨E', cfV, kV, iV, fV, q1.1, gV, stV, by rw [q2.1]; exact knV, by rw [q2.1]; exact obV, by rw [q2.2.1]; exact asV, q3⟩, ⟨E', cfC, kC, iC, fC, q1.1, gC, stC, by rw [q2.1]; exact knV, by rw [q2.1]; exact obV, by rw [q2.2.1]; exact asC, q4⟩,
    ⟨V', ⟨q5.1, State.isArrayOf_alike al'.symm q5.2.1, q5.2.2.1⟩, q6, by rw [← al'.findClass]; exact q7, q8, fun j hj => by have := q9 j hj; rwa [Nat.zero_add] at this⟩, fun O n d w F n1 n2 => ?_⟩, hl, hc, hs⟩, st⟩
  · intro y hy
    simp only [List.mem_cons, List.not_mem_nil, or_false] at hy
    rcases hy with rfl | rfl <;> rfl
  · by_cases q : y = x
    · subst q
      cases hD.symm.trans hy
      exact ⟨E', q1.1, q2.2.1, q2.1, hsz⟩
    · exact ⟨cy, q10 y cy q hy, rfl, rfl, rfl⟩
  · obtain ⟨D3, cf, k, i, f, g1, g2, g3, g4, g5, g6, g7⟩ := F
    cases hD.symm.trans g1
    simp only [RoadKit.slotOf, g2, gV, gC, Option.map_some, Option.getD_some] at n1 n2
    exact ⟨E', cf, k, i, f, q1.1, g2, g3, by rw [q2.1]; exact g4, by rw [q2.1]; exact g5, by rw [q2.2.1]; exact g6, by rw [q2.2.2 f.slot (by simp [n1, n2])]; exact g7⟩
end StrChars.Road
namespace StrChars.Road
open Jvm Sem ClassFile Op Lib Jvm.Stand Jvm.Free Jvm.Free.XT
/-- WHAT COMES BACK, the byte[] as a list of values -/
def QA (Z : State) (x : Addr) (zn : Int32) (cs : List Int32) (h : Heap) (v : Option Value) (h' : Heap) (L : List Loc) : Prop := v = none ∧ (∀ y ∈ L, y.base = x) ∧ RoadKit.Keep h h' [x] ∧ h'.size = h.size + 1 ∧ RoadKit.Exa Z h' x ST ∧ RoadKit.Fld Z h' x ST "value" "[B" (.ref h.size) ∧ RoadKit.Fld Z h' x ST "coder" "B" (.int 0) ∧
  (∃ kb, Z.vm.findClass "[B" = some kb ∧ RoadKit.Arv Z h' h.size kb .byte zn (cs.map fun c => .int (lo8 c)) (.int 0)) ∧
  ∀ (O n d : String) (w : Value), RoadKit.Fld Z h x O n d w → RoadKit.slotOf Z O n d ≠ RoadKit.slotOf Z ST "value" "[B" → RoadKit.slotOf Z O n d ≠ RoadKit.slotOf Z ST "coder" "B" → RoadKit.Fld Z h' x O n d w
/-- **new String(chars) AT A CALL, THE ARRAYS AS LISTS**: the char[] at b holds cs, not empty, no char above 255 -/
theorem backArv {p : Program} {l : Launch} {e : Env} {R : Room} {s : State} {args : Array Value} {below : List Frame} {len W : Nat} {Z : State} {a0 : Array Value} {h : Heap} (hZ : Z.Warmed39 s.vm) (hw : ∀ d ∈ words, d.before a0 Z = true) {kI : Nat} (wi : (Jvm.Cond.instantiable ST kI).before a0 Z = true)
    {x b : Addr} {k : ClassId} {zn z : Int32} {cs : List Int32} {dv v0 c0 : Value} (E : RoadKit.Exa Z h x ST) (V : RoadKit.Fld Z h x ST "value" "[B" v0) (C : RoadKit.Fld Z h x ST "coder" "B" c0) (K : RoadKit.Arv Z h b k .char zn (cs.map Value.int) dv) (S : RoadKit.Sta Z h ST "COMPACT_STRINGS" "Z" (.int z)) (hz : ¬ z = 0)
    (hlen : zn.toNatClampNeg = cs.length) (h0 : 0 < cs.length) (hbig : cs.length ≤ 536870912) (hall : ∀ c ∈ cs, ¬ 255 < c) (hfr : 4 ≤ R.frames) (hlo : W + 65 ≤ R.locals) :
    Back l R p e below s args New1.yN len W (fun P a => a = #[.ref x, .ref b] ∧ P.U.heap = h ∧ P.cells + 1 ≤ R.cells ∧ P.slots + cs.length ≤ R.slots)
      (fun P _ v B => ∃ L, QA Z x zn cs h v B.U.heap L ∧ B.locs = P.locs ++ L ∧ B.cells = P.cells + 1 ∧ B.slots = P.slots + cs.length) := by
  obtain ⟨A, K1, K2, K3, K4, K5, K6⟩ := K
  have e : A.slots.size = cs.length := K3.trans hlen
  have hat : ∀ (i : Nat) (hi : i < cs.length), A.slots[i]? = some (.int cs[i]) := fun i hi => by rw [K5 i (by omega)]; simp [List.getD_eq_getElem?_getD, hi]
  have hcv : ∀ (i : Nat) (hi : i < cs.length), cv A i = cs[i] := fun i hi => by unfold cv; rw [hat i hi]
  have hty : Typed .char A := fun i v hv => by
    have hi : i < A.slots.size := (Array.getElem?_eq_some_iff.mp hv).1
    have q := K5 i hi
    rw [hv] at q
    rw [Option.some.inj q]
    exact K6 i hi
  refine Back.mono (back hZ hw wi E V C K1 hty S hz (by omega) (by omega) (fun i hi => by rw [hcv i (by omega)]; exact hall _ (List.getElem_mem _)) hfr hlo) (fun P a hp => ⟨hp.1, hp.2.1, hp.2.2.1, by rw [e]; exact hp.2.2.2⟩) (fun P a v B hp hq => ?_)
  obtain ⟨L, ⟨q1, q2, q3, q4, q5, q6, q7, ⟨V', v1, v2, v3, v4, v5⟩, q9⟩, hl, hc, hs⟩ := hq
  refine ⟨L, ⟨q1, q2, q3, q4, q5, q6, q7, ⟨V'.cls, v3, V', v1, rfl, by rw [v4, e, hlen], K4, fun i hi => ?_, fun i hi => ?_⟩, q9⟩, hl, hc, by rw [hs, e]⟩
  · have hi' : i < cs.length := by omega
    rw [v5 i (by omega), hcv i hi']; simp [List.getD_eq_getElem?_getD, hi']
  · have hi' : i < cs.length := by omega
    simp only [List.getD_eq_getElem?_getD, List.getElem?_map, List.getElem?_eq_getElem hi', Option.map_some, Option.getD_some]
    exact fits_lo8 _
end StrChars.Road
namespace StrChars.Road
open Jvm Sem ClassFile Op Lib Jvm.Stand Jvm.Free Jvm.Free.XT
/-- WHAT COMES BACK, in the writer's own shape -/
def QV (Z : State) (x : Addr) (N : Int32) (bs : List Int32) (h : Heap) (n0 : Nat) (v : Option Value) (h' : Heap) (L : List Loc) : Prop := v = none ∧ RoadKit.Fr n0 L ∧ RoadKit.Keep h h' [x] ∧ RoadKit.Exa Z h' x ST ∧ RoadKit.Fld Z h' x ST "coder" "B" (.int 0) ∧
  ∃ (t : Addr) (kb : ClassId), n0 ≤ t ∧ h.size ≤ t ∧ ¬ t = x ∧ RoadKit.Fld Z h' x ST "value" "[B" (.ref t) ∧ RoadKit.Arv Z h' t kb .byte N (bs.map Value.int) (.int 0)
/-- **new String(chars) AT A CALL, FOR THE WRITER**: a char[] of n known ints, each 0 to 255 -/
theorem backV {p : Program} {l : Launch} {e : Env} {R : Room} {s : State} {args : Array Value} {below : List Frame} {len W : Nat} {Z : State} {a0 : Array Value} {h : Heap} (hZ : Z.Warmed39 s.vm) (hw : ∀ d ∈ words, d.before a0 Z = true) {kI : Nat} (wi : (Jvm.Cond.instantiable ST kI).before a0 Z = true)
    {x b : Addr} {kC : ClassId} {cs bs : List Int32} {d v0 c0 : Value} {z N : Int32} {n n0 : Nat} (hx0 : n0 ≤ x) (hh0 : n0 ≤ h.size) (E : RoadKit.Exa Z h x ST) (V : RoadKit.Fld Z h x ST "value" "[B" v0) (C : RoadKit.Fld Z h x ST "coder" "B" c0) (K : RoadKit.Arv Z h b kC .char N (cs.map Value.int) d) (S : RoadKit.Sta Z h ST "COMPACT_STRINGS" "Z" (.int z)) (hz : ¬ z = 0)
    (hn : cs.length = n) (hN : N = Int32.ofNat n) (l0 : 0 < n) (l2 : n ≤ 4000) (hp : ∀ c ∈ cs, ¬ c < 0 ∧ ¬ (255 : Int32) < c) (hb : bs = cs.map (fun c => c.toInt8.toInt32)) (hfr : 4 ≤ R.frames) (hlo : W + 65 ≤ R.locals) :
    Back l R p e below s args (⟨"java/lang/String", "<init>", "([C)V"⟩ : MethodName) len W (fun P a => a = #[.ref x, .ref b] ∧ P.U.heap = h ∧ P.cells + 1 ≤ R.cells ∧ P.slots + n ≤ R.slots)
      (fun P _ v B => ∃ L, QV Z x N bs h n0 v B.U.heap L ∧ B.locs = P.locs ++ L ∧ B.cells = P.cells + 1 ∧ B.slots = P.slots + n) := by
  subst hn hN hb
  refine Back.mono (backArv hZ hw wi E V C K S hz (n32 (by omega)) l0 (by omega) (fun c hc => (hp c hc).2) hfr hlo) (fun P a hp => hp) (fun P a v B hp hq => ?_)
  obtain ⟨L, ⟨q1, q2, q3, q4, q5, q6, q7, ⟨kb, v1, v2⟩, q9⟩, hl, hc, hs⟩ := hq
  exact ⟨L, ⟨q1, fun y hy => by rw [q2 y hy]; exact hx0, q3, q5, q7, h.size, kb, hh0, Nat.le_refl _, Nat.ne_of_gt E.lt, q6, by rw [List.map_map]; exact v2⟩, hl, hc, hs⟩
end StrChars.Road
namespace StrChars
open Jvm Sem ClassFile Op Lib Jvm.Stand Jvm.Free.XT Jvm.Free.ALB Jvm.Free.JM Jvm.Free
open Jvm.Lib.Cold (StaticIs)
def hi8 (x : Int32) : Int32 := lo8 (x >>> ((8 : Int32) &&& 31))
/-- what StringUTF16.getChar makes of two bytes -/
def pairCh (u v : Int32) : Int32 := (((u &&& 255) <<< ((0 : Int32) &&& 31)) ||| ((v &&& 255) <<< ((8 : Int32) &&& 31))).toUInt32.toUInt16.toUInt32.toInt32
theorem lo8_and (x : Int32) : (lo8 x &&& 255).toBitVec.toNat = x.toBitVec.toNat % 256 := by
  have h : (lo8 x).toBitVec = (x.toBitVec.signExtend 8).signExtend 32 := by rw [lo8, Int8.toBitVec_toInt32, Int32.toBitVec_toInt8]
  rw [Int32.toBitVec_and, BitVec.toNat_and, h]
  have e : ((x.toBitVec.signExtend 8).signExtend 32).toNat % 256 = x.toBitVec.toNat % 256 := by
    rw [BitVec.toNat_signExtend]
    have hlt := x.toBitVec.isLt
    simp only [BitVec.toNat_setWidth, BitVec.toNat_signExtend]
    split <;> split <;> omega
  rw [← e]
  exact Nat.and_two_pow_sub_one_eq_mod _ 8
theorem pair_says {c : Int32} (h0 : ¬ c < 0) (h1 : ¬ 65535 < c) : pairCh (lo8 c) (hi8 c) = c := by
  rw [Int32.lt_iff_toInt_lt] at h0 h1
  have e0 : (0 : Int32).toInt = 0 := rfl
  have e1 : (65535 : Int32).toInt = 65535 := rfl
  have hc : c.toInt = c.toBitVec.toNat := by
    have := c.toBitVec.isLt
    have e : c.toInt = c.toBitVec.toInt := rfl
    rw [e] at h0 h1
    rw [e]
    rw [BitVec.toInt_eq_toNat_cond] at h0 h1 ⊢
    split at h0 <;> split <;> omega
  have hn : c.toBitVec.toNat < 65536 := by omega
  have a1 := lo8_and c
  have a2 : (hi8 c &&& 255).toBitVec.toNat = c.toBitVec.toNat / 256 := by
    rw [hi8, lo8_and]
    have e : ((8 : Int32) &&& 31) = 8 := by decide
    rw [e, Int32.toBitVec_shiftRight]
    have e2 : ((8 : Int32).toBitVec.smod 32) = 8#32 := by decide
    rw [e2, BitVec.sshiftRight_eq', BitVec.toNat_sshiftRight_of_msb_false (by rw [BitVec.msb_eq_false_iff_two_mul_lt]; omega)]
    show c.toBitVec.toNat >>> 8 % 256 = _
    rw [Nat.shiftRight_eq_div_pow]
    omega
  unfold pairCh
  apply Int32.toBitVec_inj.mp
  apply BitVec.eq_of_toNat_eq
  have f0 : ((0 : Int32) &&& 31) = 0 := by decide
  have f8 : ((8 : Int32) &&& 31) = 8 := by decide
  rw [f0, f8]
  have g : (((lo8 c &&& 255) <<< (0 : Int32)) ||| ((hi8 c &&& 255) <<< (8 : Int32))).toBitVec.toNat = c.toBitVec.toNat := by
    rw [Int32.toBitVec_or, Int32.toBitVec_shiftLeft, Int32.toBitVec_shiftLeft]
    have s0 : ((0 : Int32).toBitVec.smod 32) = 0#32 := by decide
    have s8 : ((8 : Int32).toBitVec.smod 32) = 8#32 := by decide
    rw [s0, s8, BitVec.toNat_or]
    simp only [BitVec.shiftLeft_eq', BitVec.toNat_shiftLeft, a1, a2]
    show (c.toBitVec.toNat % 256) <<< 0 % 2 ^ 32 ||| (c.toBitVec.toNat / 256) <<< 8 % 2 ^ 32 = _
    rw [Nat.shiftLeft_zero, Nat.mod_eq_of_lt (show c.toBitVec.toNat % 256 < 2 ^ 32 by omega), Nat.mod_eq_of_lt (show (c.toBitVec.toNat / 256) <<< 8 < 2 ^ 32 by rw [Nat.shiftLeft_eq]; omega), Nat.or_comm, ← Nat.shiftLeft_add_eq_or_of_lt (by omega), Nat.shiftLeft_eq]
    omega
  show BitVec.toNat (((((lo8 c &&& 255) <<< (0 : Int32)) ||| ((hi8 c &&& 255) <<< (8 : Int32))).toBitVec.setWidth 16).setWidth 32) = _
  rw [BitVec.toNat_setWidth, BitVec.toNat_setWidth, g]
  omega
end StrChars
namespace StrChars
open Jvm Sem ClassFile Op Lib Jvm.Stand Jvm.Free.XT Jvm.Free.ALB Jvm.Free.JM Jvm.Free
open Jvm.Lib.Cold (StaticIs)
/-- the array's cell V codes the n chars f 0 .. f (n - 1) by the coder cd, as the JDK does: coder 1 just where some char is above 255 -/
def Cod (cd : Int32) (n : Nat) (f : Nat → Int32) (V : Cell) : Prop := (cd = 0 ∧ V.slots.size = n ∧ ∀ j, j < n → V.slots[j]? = some (.int (lo8 (f j))) ∧ ¬ 255 < f j) ∨ (cd = 1 ∧ V.slots.size = 2 * n ∧ (∀ j, j < n → V.slots[2 * j]? = some (.int (lo8 (f j))) ∧ V.slots[2 * j + 1]? = some (.int (hi8 (f j)))) ∧ ∃ j, j < n ∧ 255 < f j)
/-- **x is a String of the n chars f 0 .. f (n - 1)**, Latin-1 or UTF-16; its array at t has the cell V -/
def Txt (x t : Addr) (V : Cell) (cd : Int32) (n : Nat) (f : Nat → Int32) (U : State) : Prop := Exact "java/lang/String" x U ∧ Has x "java/lang/String" "value" "[B" (.ref t) U ∧ Has x "java/lang/String" "coder" "B" (.int cd) U ∧ XT.Arr .byte t V U ∧ Cod cd n f V ∧ ∀ j, j < n → ¬ f j < 0 ∧ ¬ 65535 < f j
theorem Txt.mv {x t : Addr} {V : Cell} {cd : Int32} {n : Nat} {f : Nat → Int32} {U U' : State} (h : Txt x t V cd n f U) (hal : U.vm.Alike U'.vm) (hh : U'.heap = U.heap) : Txt x t V cd n f U' := ⟨h.1.mv hal hh, h.2.1.mv hal hh, h.2.2.1.mv hal hh, h.2.2.2.1.mv hal hh, h.2.2.2.2⟩
end StrChars
namespace StrChars.Road
open Jvm Sem ClassFile Op Lib Jvm.Stand Jvm.Free Jvm.Free.XT
open Jvm.Lib.Cold (StaticIs)
theorem consq {a : Array Value} {s : State} {c : Jvm.Cond} {L : List Jvm.Cond} (h0 : c.before a s = true) (h : ∀ w ∈ L, w.before a s = true) : ∀ w ∈ c :: L, w.before a s = true := fun w hw => (List.mem_cons.mp hw).elim (fun e => e ▸ h0) (h w)
/-- the bytes of the chars cs, low before high -/
def wideBytes : List Int32 → List Value
  | [] => []
  | c :: cs => .int (lo8 c) :: .int (hi8 c) :: wideBytes cs
theorem wide_lo (d : Value) : ∀ (cs : List Int32) (j : Nat), j < cs.length → (wideBytes cs).getD (2 * j) d = .int (lo8 (cs.getD j 0))
  | [], j, h => absurd h (Nat.not_lt_zero j)
  | c :: cs, 0, _ => rfl
  | c :: cs, j + 1, h => by
    have q := wide_lo d cs j (by simpa using h)
    rw [show 2 * (j + 1) = 2 * j + 1 + 1 from by omega]
    simpa [wideBytes] using q
theorem wide_hi (d : Value) : ∀ (cs : List Int32) (j : Nat), j < cs.length → (wideBytes cs).getD (2 * j + 1) d = .int (hi8 (cs.getD j 0))
  | [], j, h => absurd h (Nat.not_lt_zero j)
  | c :: cs, 0, _ => rfl
  | c :: cs, j + 1, h => by
    have q := wide_hi d cs j (by simpa using h)
    rw [show 2 * (j + 1) + 1 = 2 * j + 1 + 1 + 1 from by omega]
    simpa [wideBytes] using q
theorem low_at (d : Value) (cs : List Int32) (j : Nat) (h : j < cs.length) : (cs.map fun c => Value.int (lo8 c)).getD j d = .int (lo8 (cs.getD j 0)) := by
  simp [List.getD_eq_getElem?_getD, h]
/-- an array of N2 bytes vs codes the chars cs by the coder cd -/
def CodA (cs : List Int32) (cd N2 : Int32) (vs : List Value) : Prop := (cd = 0 ∧ N2 = Int32.ofNat cs.length ∧ vs = (cs.map fun c => Value.int (lo8 c)) ∧ ∀ c ∈ cs, ¬ 255 < c) ∨ (cd = 1 ∧ N2 = Int32.ofNat (2 * cs.length) ∧ vs = wideBytes cs ∧ ∃ c ∈ cs, 255 < c)
theorem CodA.cod {cs : List Int32} {cd N2 : Int32} {vs : List Value} {V : Cell} (h : CodA cs cd N2 vs) (hn : 2 * cs.length < 2 ^ 31) (hs : V.slots.size = N2.toNatClampNeg) (hv : RoadKit.Has V vs (.int 0)) : Cod cd cs.length (fun j => cs.getD j 0) V := by
  rcases h with ⟨rfl, rfl, rfl, h⟩ | ⟨rfl, rfl, rfl, c, hc, hw⟩
  · rw [n32 (by omega)] at hs
    exact Or.inl ⟨rfl, hs, fun j hj => ⟨by rw [hv j (by omega), low_at _ _ _ hj], by
      have e : cs.getD j 0 = cs[j] := by simp [List.getD_eq_getElem?_getD, hj]
      show ¬ 255 < cs.getD j 0
      rw [e]; exact h _ (List.getElem_mem _)⟩⟩
  · rw [n32 (by omega)] at hs
    obtain ⟨j, hj, rfl⟩ := List.getElem_of_mem hc
    exact Or.inr ⟨rfl, hs, fun j hj => ⟨by rw [hv _ (by omega), wide_lo _ _ _ hj], by rw [hv _ (by omega), wide_hi _ _ _ hj]⟩, j, hj, by
      have e : cs.getD j 0 = cs[j] := by simp [List.getD_eq_getElem?_getD, hj]
      show 255 < cs.getD j 0
      rw [e]; exact hw⟩
/-- an object of exactly java/lang/String, its two fields found: as the laws ask it -/
theorem strObj {Z U : State} {a0 : Array Value} {kI : Nat} (wi : (Jvm.Cond.instantiable ST kI).before a0 Z = true) (al : Z.vm.Alike U.vm) {x : Addr} {v0 c0 : Value} (E : RoadKit.Exa Z U.heap x ST) (V : RoadKit.Fld Z U.heap x ST "value" "[B" v0) (C : RoadKit.Fld Z U.heap x ST "coder" "B" c0) :
    ∃ (D : Cell) (fV fC : Field), Blank ST x D U ∧ Found ST "value" "[B" fV U ∧ Found ST "coder" "B" fC U ∧ D.slots[fV.slot]? = some v0 ∧ D.slots[fC.slot]? = some c0 ∧ RoadKit.slotOf Z ST "value" "[B" = fV.slot ∧ RoadKit.slotOf Z ST "coder" "B" = fC.slot := by
  obtain ⟨D, cfV, kV, iV, fV, hD, gV, stV, knV, obV, asV, slV⟩ := V
  obtain ⟨D', cfC, kC, iC, fC, hD', gC, stC, -, -, asC, slC⟩ := C
  cases hD.symm.trans hD'
  obtain ⟨D2, kD, e1, e2, e3, e4, e5⟩ := E
  cases hD.symm.trans e1
  obtain ⟨c2, k2, i1, i2, i3, -⟩ := Cond.instantiable_spec wi
  cases e2.symm.trans i1
  cases e3.symm.trans i2
  obtain ⟨kU, u1, u2⟩ := al.2.2 _ _ e3
  exact ⟨D, fV, fC, ⟨hD, ⟨knV, fun q hq => by rw [hq] at obV; cases obV⟩, by rw [al.findClass]; exact e2, kU, u1, by rw [u2]; exact i3, by rw [u2]; exact e5 i3⟩, ⟨SBG.found_only al ⟨cfV, kV, iV, gV⟩, stV⟩, ⟨SBG.found_only al ⟨cfC, kC, iC, gC⟩, stC⟩, slV, slC, by simp [RoadKit.slotOf, gV], by simp [RoadKit.slotOf, gC]⟩
theorem sta_is {Z U : State} (al : Z.vm.Alike U.vm) {C n d : String} {v : Value} (S : RoadKit.Sta Z U.heap C n d v) : StaticIs U C n d v := by
  obtain ⟨cfS, iS, kS, fS, st, cS, t1, t2, t3, t4, t5, t6, t7⟩ := S
  exact StaticIs.there (s := { Z with heap := U.heap }) ⟨cfS, iS, kS, fS, st, cS, t1, t2, t3, t4, t5, (fun q => by rw [q] at t6; cases t6), t7⟩ al rfl
end StrChars.Road
namespace StrChars
open Jvm Sem ClassFile Op Lib Jvm.Stand Jvm.Free.XT Jvm.Free.ALB Jvm.Free.JM Jvm.Free
open Jvm.Lib.Cold (StaticIs)
/-- what place i of a byte[]'s cell holds -/
def yv (A : Cell) (i : Nat) : Int32 := match A.slots[i]? with | some (.int x) => x | _ => 0
theorem yv_get {a : Addr} {A : Cell} {U : State} (h : XT.Arr .byte a A U) (ht : Typed .byte A) {i : Nat} (hi : i < A.slots.size) : A.slots[i]? = some (.int (yv A i)) := by
  have e := Array.getElem?_eq_getElem hi
  have f := ht i _ e
  unfold yv; rw [e]
  generalize A.slots[i] = v at f
  cases v <;> simp [fits] at f ⊢
/-- the two arrays are equal, place for place -/
def EqC (A B : Cell) : Prop := A.slots.size = B.slots.size ∧ ∀ i, i < A.slots.size → yv A i = yv B i
/-- a boolean that says whether p -/
def Says01 (q : Prop) (r : Option Value) (s u : State) : Prop := ∃ v : Int32, r = some (.int v) ∧ u.heap = s.heap ∧ ((v = 1 ∧ q) ∨ (v = 0 ∧ ¬ q))
theorem Says01.mv {q : Prop} : ∀ r (U U' V V' : State), U'.heap = U.heap → V.vm.Alike V'.vm → V'.heap = V.heap → Says01 q r U V → Says01 q r U' V' :=
  fun r U U' V V' h1 _ h2 ⟨v, a, b, c⟩ => ⟨v, a, by rw [h1, h2]; exact b, c⟩
namespace LEq
def yN : MethodName := ⟨"java/lang/StringLatin1", "equals", "([B[B)Z"⟩
abbrev yB : ByteArray := jdk_43_method_13_code
theorem d0 : decode yB 0 = .ok (.aload_n 0, 1) := by decide +kernel
theorem d1 : decode yB 1 = .ok (.arraylength, 1) := by decide +kernel
theorem d2 : decode yB 2 = .ok (.aload_n 1, 1) := by decide +kernel
theorem d3 : decode yB 3 = .ok (.arraylength, 1) := by decide +kernel
theorem d4 : decode yB 4 = .ok (.if_icmp (.ne) 30, 3) := by decide +kernel
theorem d7 : decode yB 7 = .ok (.iconst 0, 1) := by decide +kernel
theorem d8 : decode yB 8 = .ok (.istore_n 2, 1) := by decide +kernel
theorem d9 : decode yB 9 = .ok (.iload_n 2, 1) := by decide +kernel
theorem d10 : decode yB 10 = .ok (.aload_n 0, 1) := by decide +kernel
theorem d11 : decode yB 11 = .ok (.arraylength, 1) := by decide +kernel
theorem d12 : decode yB 12 = .ok (.if_icmp (.ge) 20, 3) := by decide +kernel
theorem d15 : decode yB 15 = .ok (.aload_n 0, 1) := by decide +kernel
theorem d16 : decode yB 16 = .ok (.iload_n 2, 1) := by decide +kernel
theorem d17 : decode yB 17 = .ok (.baload, 1) := by decide +kernel
theorem d18 : decode yB 18 = .ok (.aload_n 1, 1) := by decide +kernel
theorem d19 : decode yB 19 = .ok (.iload_n 2, 1) := by decide +kernel
theorem d20 : decode yB 20 = .ok (.baload, 1) := by decide +kernel
theorem d21 : decode yB 21 = .ok (.if_icmp (.eq) 5, 3) := by decide +kernel
theorem d24 : decode yB 24 = .ok (.iconst 0, 1) := by decide +kernel
theorem d25 : decode yB 25 = .ok (.ireturn, 1) := by decide +kernel
theorem d26 : decode yB 26 = .ok (.iinc 2 1, 3) := by decide +kernel
theorem d29 : decode yB 29 = .ok (.goto (-20), 3) := by decide +kernel
theorem d32 : decode yB 32 = .ok (.iconst 1, 1) := by decide +kernel
theorem d33 : decode yB 33 = .ok (.ireturn, 1) := by decide +kernel
theorem d34 : decode yB 34 = .ok (.iconst 0, 1) := by decide +kernel
theorem d35 : decode yB 35 = .ok (.ireturn, 1) := by decide +kernel
def site : List Cond := []
def tab : Cond := tabOf yN yB 3 (some .boolean) site
def P (a : Addr) (A : Cell) (b : Addr) (B : Cell) (args : Array Value) (s : State) : Prop := args = #[.ref a, .ref b] ∧ XT.Arr .byte a A s ∧ Typed .byte A ∧ XT.Arr .byte b B s ∧ Typed .byte B
/-- whether two byte[] are equal, place for place -/
theorem law (l : Launch) (a : Addr) (A : Cell) (b : Addr) (B : Cell) : Law l yN 2 2 0 0 yB 3 (some .boolean) site (P a A b B) (Says01 (EqC A B)) [] 0 0 := by
  refine Law.of_walk (plainFor_of_name (by decide +kernel)) (by decide +kernel) (by decide +kernel) (by decide) (fun _ _ h => by rw [h.1]; rfl) (fun _ U U' hal hh h => ⟨h.1, h.2.1.mv hal hh, h.2.2.1, h.2.2.2.1.mv hal hh, h.2.2.2.2⟩) (fun r U U' V V' h1 hal h2 h => Says01.mv r U U' V V' h1 hal h2 h) ?_
  intro p e s m args below meth c s₁ X0 hexec hbytes hml hret hlk hnm hown hh0 W hP
  obtain ⟨rfl, hA, tA, hB, tB⟩ := hP
  have a31 := hA.2.2.2
  have b31 := hB.2.2.2
  have hA0 := hA.mv X0.warmed.alike hh0
  have hB0 := hB.mv X0.warmed.alike hh0
  have c1 : Steps p.tables e below (s₁.setTop (entryFrame m #[.ref a, .ref b] 3)) (s₁.setTop (mkF m 0 #[.val (.ref a), .val (.ref b), .unset] [])) := entry rfl
  have c2 : Steps p.tables e below (s₁.setTop (entryFrame m #[.ref a, .ref b] 3)) (s₁.setTop (mkF m 4 #[.val (.ref a), .val (.ref b), .unset] [.int (Int32.ofNat B.slots.size), .int (Int32.ofNat A.slots.size)])) := c1.trans (by
    refine XS.aloadN X0.here hexec rfl (hb hbytes d0) rfl rfl ?_
    refine X0.alen hexec hA0 rfl rfl (hb hbytes d1) ?_
    refine XS.aloadN X0.here hexec rfl (hb hbytes d2) rfl rfl ?_
    refine X0.alen hexec hB0 rfl rfl (hb hbytes d3) ?_
    exact Steps.refl _)
  by_cases hs : A.slots.size = B.slots.size
  · have c3 : Steps p.tables e below (s₁.setTop (entryFrame m #[.ref a, .ref b] 3)) (s₁.setTop (mkF m 9 #[.val (.ref a), .val (.ref b), .val (.int 0)] [])) := c2.trans (by
      refine XS.icmpNo X0.here hexec rfl (hb hbytes d4) rfl (ii_ne_f (by rw [hs])) ?_
      refine iconstV X0.here hexec rfl 0 (hb hbytes d7) (by decide) ?_
      refine XS.istoreN X0.here hexec rfl (hb hbytes d8) rfl rfl ?_
      exact Steps.refl _)
    have loop : ∀ (r i : Nat), i + r = A.slots.size → (∀ j, j < i → yv A j = yv B j) → Steps p.tables e below (s₁.setTop (entryFrame m #[.ref a, .ref b] 3)) (s₁.setTop (mkF m 9 #[.val (.ref a), .val (.ref b), .val (.int (Int32.ofNat i))] [])) → ∃ (pc : Nat) (Ls : Array Slot) (v : Int32), (pc = 25 ∨ pc = 33) ∧ ((v = 1 ∧ EqC A B) ∨ (v = 0 ∧ ¬ EqC A B)) ∧ Steps p.tables e below (s₁.setTop (entryFrame m #[.ref a, .ref b] 3)) (s₁.setTop (mkF m pc Ls [.int v])) := by
      intro r
      induction r with
      | zero =>
        intro i hi he cl
        exact ⟨33, _, 1, Or.inr rfl, Or.inl ⟨rfl, hs, fun j hj => he j (by omega)⟩, cl.trans (by
          refine XS.iloadN X0.here hexec rfl (hb hbytes d9) rfl ?_
          refine XS.aloadN X0.here hexec rfl (hb hbytes d10) rfl rfl ?_
          refine X0.alen hexec hA0 rfl rfl (hb hbytes d11) ?_
          refine XS.icmpYes X0.here hexec rfl (pc0 := 12) rfl (hb hbytes d12) rfl (ii_ge_t (nlt32 (by omega) (by omega))) (by decide) rfl ?_
          refine iconstV X0.here hexec rfl 1 (hb hbytes d32) (by decide) ?_
          exact Steps.refl _)⟩
      | succ r ih =>
        intro i hi he cl
        have c4 : Steps p.tables e below (s₁.setTop (entryFrame m #[.ref a, .ref b] 3)) (s₁.setTop (mkF m 21 #[.val (.ref a), .val (.ref b), .val (.int (Int32.ofNat i))] [.int (yv B i), .int (yv A i)])) := cl.trans (by
          refine XS.iloadN X0.here hexec rfl (hb hbytes d9) rfl ?_
          refine XS.aloadN X0.here hexec rfl (hb hbytes d10) rfl rfl ?_
          refine X0.alen hexec hA0 rfl rfl (hb hbytes d11) ?_
          refine XS.icmpNo X0.here hexec rfl (hb hbytes d12) rfl (ii_ge_f (lt32 (by omega) (by omega))) ?_
          refine XS.aloadN X0.here hexec rfl (hb hbytes d15) rfl rfl ?_
          refine XS.iloadN X0.here hexec rfl (hb hbytes d16) rfl ?_
          refine X0.aget hexec hA0 rfl (yv_get hA tA (i := i) (by omega)) rfl rfl (hb hbytes d17) ?_
          refine XS.aloadN X0.here hexec rfl (hb hbytes d18) rfl rfl ?_
          refine XS.iloadN X0.here hexec rfl (hb hbytes d19) rfl ?_
          refine X0.aget hexec hB0 rfl (yv_get hB tB (i := i) (by omega)) rfl rfl (hb hbytes d20) ?_
          exact Steps.refl _)
        by_cases hv : yv A i = yv B i
        · have c5 : Steps p.tables e below (s₁.setTop (entryFrame m #[.ref a, .ref b] 3)) (s₁.setTop (mkF m 9 #[.val (.ref a), .val (.ref b), .val (.int (Int32.ofNat i + 1))] [])) := c4.trans (by
            refine XS.icmpYes X0.here hexec rfl (pc0 := 21) rfl (hb hbytes d21) rfl (ii_eq_t hv) (by decide) rfl ?_
            refine iincV X0.here hexec rfl 1 (hb hbytes d26) (by decide) rfl rfl ?_
            refine XS.goto X0.here hexec rfl (pc0 := 29) rfl (hb hbytes d29) (by decide) rfl ?_
            exact Steps.refl _)
          rw [succ32] at c5
          exact ih (i + 1) (by omega) (fun j hj => by
            by_cases e : j = i
            · rw [e]; exact hv
            · exact he j (by omega)) c5
        · exact ⟨25, _, 0, Or.inl rfl, Or.inr ⟨rfl, fun q => hv (q.2 i (by omega))⟩, c4.trans (by
            refine XS.icmpNo X0.here hexec rfl (hb hbytes d21) rfl (ii_eq_f hv) ?_
            refine iconstV X0.here hexec rfl 0 (hb hbytes d24) (by decide) ?_
            exact Steps.refl _)⟩
    obtain ⟨pc, Ls, v, hpc, hv, cz⟩ := loop A.slots.size 0 (by omega) (fun j hj => absurd hj (Nat.not_lt_zero j)) c3
    have nv : narrow .boolean (.int v) = .int v := by rcases hv with ⟨rfl, -⟩ | ⟨rfl, -⟩ <;> rfl
    rcases hpc with rfl | rfl
    · exact ⟨s₁, some (.int v), _, _, _, X0, rfl, rfl, rfl, (fun h => by cases h), ⟨v, rfl, hh0, hv⟩, fun fs hl => cz.trans (X0.ireturnOut hexec hret nv (Or.inr (Or.inl rfl)) (hb hbytes d25) hl)⟩
    · exact ⟨s₁, some (.int v), _, _, _, X0, rfl, rfl, rfl, (fun h => by cases h), ⟨v, rfl, hh0, hv⟩, fun fs hl => cz.trans (X0.ireturnOut hexec hret nv (Or.inr (Or.inl rfl)) (hb hbytes d33) hl)⟩
  · have c3 : Steps p.tables e below (s₁.setTop (entryFrame m #[.ref a, .ref b] 3)) (s₁.setTop (mkF m 35 #[.val (.ref a), .val (.ref b), .unset] [.int 0])) := c2.trans (by
      refine XS.icmpYes X0.here hexec rfl (pc0 := 4) rfl (hb hbytes d4) rfl (ii_ne_t (ne32 a31 b31 hs)) (by decide) rfl ?_
      refine iconstV X0.here hexec rfl 0 (hb hbytes d34) (by decide) ?_
      exact Steps.refl _)
    exact ⟨s₁, some (.int 0), _, _, _, X0, rfl, rfl, rfl, (fun h => by cases h), ⟨0, rfl, hh0, Or.inr ⟨rfl, fun q => hs q.1⟩⟩, fun fs hl => c3.trans (X0.ireturnOut hexec hret rfl (Or.inr (Or.inl rfl)) (hb hbytes d35) hl)⟩
end LEq
theorem Cod.ty {cd : Int32} {n : Nat} {f : Nat → Int32} {V : Cell} (h : Cod cd n f V) : Typed .byte V := fun i v hv => by
  have hi : i < V.slots.size := (Array.getElem?_eq_some_iff.mp hv).1
  rcases h with ⟨-, k1, k2⟩ | ⟨-, k1, k2, -⟩
  · rw [(k2 i (by omega)).1] at hv; cases hv; exact fits_lo8 _
  · rcases Nat.mod_two_eq_zero_or_one i with e | e
    · obtain ⟨j, rfl⟩ : ∃ j, i = 2 * j := ⟨i / 2, by omega⟩
      rw [(k2 j (by omega)).1] at hv; cases hv; exact fits_lo8 _
    · obtain ⟨j, rfl⟩ : ∃ j, i = 2 * j + 1 := ⟨i / 2, by omega⟩
      rw [(k2 j (by omega)).2] at hv; cases hv; exact fits_lo8 _
/-- the same text -/
def SameT (n : Nat) (f : Nat → Int32) (k : Nat) (g : Nat → Int32) : Prop := n = k ∧ ∀ j, j < n → f j = g j
theorem lo8_inj {x y : Int32} (h0 : ¬ x < 0) (h1 : ¬ 255 < x) (k0 : ¬ y < 0) (k1 : ¬ 255 < y) (h : lo8 x = lo8 y) : x = y := by
  rw [← lo8_mask h0 h1, ← lo8_mask k0 k1, h]
/-- arrays coded by one coder are equal just where the texts are -/
theorem Cod.eqv {cd : Int32} {n k : Nat} {f g : Nat → Int32} {V V' : Cell} (h : Cod cd n f V) (h' : Cod cd k g V') (hf : ∀ j, j < n → ¬ f j < 0 ∧ ¬ 65535 < f j) (hg : ∀ j, j < k → ¬ g j < 0 ∧ ¬ 65535 < g j) : EqC V V' ↔ SameT n f k g := by
  have yvv : ∀ {W : Cell} {i : Nat} {x : Int32}, W.slots[i]? = some (.int x) → yv W i = x := fun q => by unfold yv; rw [q]
  rcases h with ⟨rfl, k1, k2⟩ | ⟨rfl, k1, k2, -⟩
  · rcases h' with ⟨-, m1, m2⟩ | ⟨e, -⟩
    · constructor
      · rintro ⟨e1, e2⟩
        refine ⟨by omega, fun j hj => ?_⟩
        have q := e2 j (by omega)
        rw [yvv (k2 j hj).1, yvv (m2 j (by omega)).1] at q
        exact lo8_inj (hf j hj).1 (k2 j hj).2 (hg j (by omega)).1 (m2 j (by omega)).2 q
      · rintro ⟨rfl, e2⟩
        refine ⟨by omega, fun j hj => ?_⟩
        rw [yvv (k2 j (by omega)).1, yvv (m2 j (by omega)).1, e2 j (by omega)]
    · exact absurd e (by decide)
  · rcases h' with ⟨e, -⟩ | ⟨-, m1, m2, -⟩
    · exact absurd e (by decide)
    · constructor
      · rintro ⟨e1, e2⟩
        refine ⟨by omega, fun j hj => ?_⟩
        have q1 := e2 (2 * j) (by omega)
        have q2 := e2 (2 * j + 1) (by omega)
        rw [yvv (k2 j hj).1, yvv (m2 j (by omega)).1] at q1
        rw [yvv (k2 j hj).2, yvv (m2 j (by omega)).2] at q2
        rw [← pair_says (hf j hj).1 (hf j hj).2, ← pair_says (hg j (by omega)).1 (hg j (by omega)).2, q1, q2]
      · rintro ⟨rfl, e2⟩
        refine ⟨by omega, fun i hi => ?_⟩
        rcases Nat.mod_two_eq_zero_or_one i with e | e
        · obtain ⟨j, rfl⟩ : ∃ j, i = 2 * j := ⟨i / 2, by omega⟩
          rw [yvv (k2 j (by omega)).1, yvv (m2 j (by omega)).1, e2 j (by omega)]
        · obtain ⟨j, rfl⟩ : ∃ j, i = 2 * j + 1 := ⟨i / 2, by omega⟩
          rw [yvv (k2 j (by omega)).2, yvv (m2 j (by omega)).2, e2 j (by omega)]
/-- two codings differ: so do the texts -/
theorem Cod.dif {cd cd' : Int32} {n k : Nat} {f g : Nat → Int32} {V V' : Cell} (h : Cod cd n f V) (h' : Cod cd' k g V') (hne : ¬ cd = cd') : ¬ SameT n f k g := by
  rintro ⟨rfl, e⟩
  rcases h with ⟨rfl, -, k2⟩ | ⟨rfl, -, -, j, hj, hw⟩
  · rcases h' with ⟨rfl, -⟩ | ⟨-, -, -, j, hj, hw⟩
    · exact hne rfl
    · exact (k2 j hj).2 (by rw [e j hj]; exact hw)
  · rcases h' with ⟨-, -, m2⟩ | ⟨rfl, -⟩
    · exact (m2 j hj).2 (by rw [← e j hj]; exact hw)
    · exact hne rfl
/-- an object of exactly C is an instance of C -/
theorem cinst {p : Program} {l : Launch} {e : Env} {R : Room} {s : State} {m : MethodId} {args : Array Value} {below : List Frame} {meth : Method} {c : Code} {T : State} {locs : List Loc} {cells slots : Nat} (X : Stand p l e R s m args below meth c T locs cells slots) (hexec : p.tables.exec = Jvm.exec) {own C : String} {index : Nat} (hown : s.vm.findClass own = some m.cls) (hlink : (Cond.classLink own index C).before args s = true) {a : Addr} (hE : Exact C a T)
    {g : JFrame} (hg : g.method = m) {rest : List Value} (hstack : g.stack = .ref a :: rest) (hdg : decode c.code g.pc = .ok (.instanceof index, 3)) :
    ∃ T', Stand p l e R s m args below meth c T' locs cells slots ∧ T'.heap = T.heap ∧ ∀ target, Steps p.tables e below (T'.setTop { g with pc := g.pc + 3, stack := .int 1 :: rest }) target → Steps p.tables e below (T.setTop g) target := by
  obtain ⟨cB, h1, D, h2, h3, h4⟩ := hE
  have h1' : s.vm.findClass C = some cB := by rw [← X.warmed.alike.findClass]; exact h1
  obtain ⟨vm', X', st⟩ := X.instanceofYes hexec hown hlink h2 h4 h1' (by rw [h3]; exact Jvm.Free.SB.assignable_self _ _) hg hstack hdg
  exact ⟨_, X', rfl, st⟩
theorem cself {p : Program} {l : Launch} {e : Env} {R : Room} {s : State} {m : MethodId} {args : Array Value} {below : List Frame} {meth : Method} {c : Code} {T : State} {locs : List Loc} {cells slots : Nat} (X : Stand p l e R s m args below meth c T locs cells slots) (hexec : p.tables.exec = Jvm.exec) {own C : String} {index : Nat} (hown : s.vm.findClass own = some m.cls) (hlink : (Cond.classLink own index C).before args s = true) {a : Addr} (hE : Exact C a T)
    {g : JFrame} (hg : g.method = m) {rest : List Value} (hstack : g.stack = .ref a :: rest) (hdg : decode c.code g.pc = .ok (.checkcast index, 3)) :
    ∃ T', Stand p l e R s m args below meth c T' locs cells slots ∧ T'.heap = T.heap ∧ ∀ target, Steps p.tables e below (T'.setTop { g with pc := g.pc + 3, stack := .ref a :: rest }) target → Steps p.tables e below (T.setTop g) target := by
  obtain ⟨cB, h1, D, h2, h3, h4⟩ := hE
  have h1' : s.vm.findClass C = some cB := by rw [← X.warmed.alike.findClass]; exact h1
  obtain ⟨vm', X', st⟩ := X.checkcastYes hexec hown hlink h2 h4 h1' (by rw [h3]; exact Jvm.Free.SB.assignable_self _ _) hg hstack hdg
  exact ⟨_, X', rfl, fun t h => st t (by rw [← hstack] at h; exact h)⟩
namespace SEq
def yN : MethodName := ⟨"java/lang/String", "equals", "(Ljava/lang/Object;)Z"⟩
abbrev yB : ByteArray := jdk_42_method_66_code
theorem d0 : decode yB 0 = .ok (.aload_n 0, 1) := by decide +kernel
theorem d1 : decode yB 1 = .ok (.aload_n 1, 1) := by decide +kernel
theorem d2 : decode yB 2 = .ok (.if_acmp (.ne) 5, 3) := by decide +kernel
theorem d5 : decode yB 5 = .ok (.iconst 1, 1) := by decide +kernel
theorem d6 : decode yB 6 = .ok (.ireturn, 1) := by decide +kernel
theorem d7 : decode yB 7 = .ok (.aload_n 1, 1) := by decide +kernel
theorem d8 : decode yB 8 = .ok (.instanceof 10, 3) := by decide +kernel
theorem d11 : decode yB 11 = .ok (.ifCond (.eq) 43, 3) := by decide +kernel
theorem d14 : decode yB 14 = .ok (.aload_n 1, 1) := by decide +kernel
theorem d15 : decode yB 15 = .ok (.checkcast 10, 3) := by decide +kernel
theorem d18 : decode yB 18 = .ok (.astore_n 2, 1) := by decide +kernel
theorem d19 : decode yB 19 = .ok (.getstatic 38, 3) := by decide +kernel
theorem d22 : decode yB 22 = .ok (.ifCond (.eq) 14, 3) := by decide +kernel
theorem d25 : decode yB 25 = .ok (.aload_n 0, 1) := by decide +kernel
theorem d26 : decode yB 26 = .ok (.getfield 15, 3) := by decide +kernel
theorem d29 : decode yB 29 = .ok (.aload_n 2, 1) := by decide +kernel
theorem d30 : decode yB 30 = .ok (.getfield 15, 3) := by decide +kernel
theorem d33 : decode yB 33 = .ok (.if_icmp (.ne) 21, 3) := by decide +kernel
theorem d36 : decode yB 36 = .ok (.aload_n 0, 1) := by decide +kernel
theorem d37 : decode yB 37 = .ok (.getfield 9, 3) := by decide +kernel
theorem d40 : decode yB 40 = .ok (.aload_n 2, 1) := by decide +kernel
theorem d41 : decode yB 41 = .ok (.getfield 9, 3) := by decide +kernel
theorem d44 : decode yB 44 = .ok (.invokestatic 541, 3) := by decide +kernel
theorem d47 : decode yB 47 = .ok (.ifCond (.eq) 7, 3) := by decide +kernel
theorem d50 : decode yB 50 = .ok (.iconst 1, 1) := by decide +kernel
theorem d51 : decode yB 51 = .ok (.goto 4, 3) := by decide +kernel
theorem d54 : decode yB 54 = .ok (.iconst 0, 1) := by decide +kernel
theorem d55 : decode yB 55 = .ok (.ireturn, 1) := by decide +kernel
def site : List Cond := [.classLink "java/lang/String" 10 "java/lang/String", .fieldLink "java/lang/String" 38 "java/lang/String" "COMPACT_STRINGS" "Z", .fieldLink "java/lang/String" 15 "java/lang/String" "coder" "B", .fieldLink "java/lang/String" 9 "java/lang/String" "value" "[B", LEq.tab] ++ staticW "java/lang/String" 541 LEq.yN
def tab : Cond := tabOf yN yB 3 (some .boolean) site
def P (x t : Addr) (V : Cell) (cd : Int32) (n : Nat) (f : Nat → Int32) (y t' : Addr) (V' : Cell) (cd' : Int32) (k : Nat) (g : Nat → Int32) (z : Int32) (args : Array Value) (s : State) : Prop := args = #[.ref x, .ref y] ∧ Txt x t V cd n f s ∧ Txt y t' V' cd' k g s ∧ StaticIs s "java/lang/String" "COMPACT_STRINGS" "Z" (.int z) ∧ ¬ z = 0
/-- equals(Object) of two Strings: whether the texts are the same -/
theorem law (l : Launch) (x t : Addr) (V : Cell) (cd : Int32) (n : Nat) (f : Nat → Int32) (y t' : Addr) (V' : Cell) (cd' : Int32) (k : Nat) (g : Nat → Int32) (z : Int32) : Law l yN 2 1 1 14 yB 3 (some .boolean) site (P x t V cd n f y t' V' cd' k g z) (Says01 (SameT n f k g)) [] 0 0 := by
  refine Law.of_walk (plainFor_of_name (by decide +kernel)) (by decide +kernel) (by decide +kernel) (by decide) (fun _ _ h => by rw [h.1]; rfl) (fun _ U U' hal hh h => ⟨h.1, h.2.1.mv hal hh, h.2.2.1.mv hal hh, h.2.2.2.1.there hal hh, h.2.2.2.2⟩) (fun r U U' V V' h1 hal h2 h => Says01.mv r U U' V V' h1 hal h2 h) ?_
  intro p e s m args below meth c s₁ X0 hexec hbytes hml hret hlk hnm hown hh0 W hP
  obtain ⟨rfl, hx, hy, s1, hz⟩ := hP
  have c1 : Steps p.tables e below (s₁.setTop (entryFrame m #[.ref x, .ref y] 3)) (s₁.setTop (mkF m 2 #[.val (.ref x), .val (.ref y), .unset] [.ref y, .ref x])) := Steps.trans (entry rfl) (by
    show Steps p.tables e below (s₁.setTop (mkF m 0 #[.val (.ref x), .val (.ref y), .unset] [])) _
    refine XS.aloadN X0.here hexec rfl (hb hbytes d0) rfl rfl ?_
    refine XS.aloadN X0.here hexec rfl (hb hbytes d1) rfl rfl ?_
    exact Steps.refl _)
  by_cases hxy : x = y
  · have c2 : Steps p.tables e below (s₁.setTop (entryFrame m #[.ref x, .ref y] 3)) (s₁.setTop (mkF m 6 #[.val (.ref x), .val (.ref y), .unset] [.int 1])) := c1.trans (by
      refine acmpNo X0.here hexec rfl (hb hbytes d2) rfl rfl rfl (by simp [acmp, hxy]) ?_
      refine iconstV X0.here hexec rfl 1 (hb hbytes d5) (by decide) ?_
      exact Steps.refl _)
    subst hxy
    have ec : cd = cd' := by
      obtain ⟨D, fd, a1, a2, a3⟩ := hx.2.2.1
      obtain ⟨D', fd', b1, b2, b3⟩ := hy.2.2.1
      cases a1.symm.trans b1
      obtain ⟨q1, q2, q3, q4⟩ := a2.1
      obtain ⟨r1, r2, r3, r4⟩ := b2.1
      cases q4.symm.trans r4
      cases a3.symm.trans b3; rfl
    have et : t = t' := by
      obtain ⟨D, fd, a1, a2, a3⟩ := hx.2.1
      obtain ⟨D', fd', b1, b2, b3⟩ := hy.2.1
      cases a1.symm.trans b1
      obtain ⟨q1, q2, q3, q4⟩ := a2.1
      obtain ⟨r1, r2, r3, r4⟩ := b2.1
      cases q4.symm.trans r4
      cases a3.symm.trans b3; rfl
    subst ec et
    have ev : V = V' := by cases hx.2.2.2.1.1.symm.trans hy.2.2.2.1.1; rfl
    subst ev
    have hs : SameT n f k g := (Cod.eqv hx.2.2.2.2.1 hy.2.2.2.2.1 hx.2.2.2.2.2 hy.2.2.2.2.2).mp ⟨rfl, fun _ _ => rfl⟩
    exact ⟨s₁, some (.int 1), _, _, _, X0, rfl, rfl, rfl, (fun h => by cases h), ⟨1, rfl, hh0, Or.inl ⟨rfl, hs⟩⟩, fun fs hl => c2.trans (X0.ireturnOut hexec hret rfl (Or.inr (Or.inl rfl)) (hb hbytes d6) hl)⟩
  · have c2 : Steps p.tables e below (s₁.setTop (entryFrame m #[.ref x, .ref y] 3)) (s₁.setTop (mkF m 8 #[.val (.ref x), .val (.ref y), .unset] [.ref y])) := c1.trans (by
      refine acmpYes X0.here hexec rfl (pc0 := 2) rfl (hb hbytes d2) rfl rfl rfl (by simp [acmp, hxy]) (by decide) rfl ?_
      refine XS.aloadN X0.here hexec rfl (hb hbytes d7) rfl rfl ?_
      exact Steps.refl _)
    obtain ⟨T3, X3, q3, st3⟩ := cinst X0 hexec hown (wk W (.classLink "java/lang/String" 10 "java/lang/String")) (hy.mv X0.warmed.alike hh0).1 (g := (mkF m 8 #[.val (.ref x), .val (.ref y), .unset] [.ref y])) rfl (rest := []) rfl (hb hbytes d8)
    have hh3 := q3.trans hh0
    have c4 : Steps p.tables e below (s₁.setTop (entryFrame m #[.ref x, .ref y] 3)) (T3.setTop (mkF m 15 #[.val (.ref x), .val (.ref y), .unset] [.ref y])) := (c2.trans (st3 _ (Steps.refl _))).trans (by
      refine XS.ifNo X3.here hexec rfl (hb hbytes d11) rfl (i0_eq_f (by decide)) ?_
      refine XS.aloadN X3.here hexec rfl (hb hbytes d14) rfl rfl ?_
      exact Steps.refl _)
    obtain ⟨T5, X5, q5, st5⟩ := cself X3 hexec hown (wk W (.classLink "java/lang/String" 10 "java/lang/String")) (hy.mv X3.warmed.alike hh3).1 (g := (mkF m 15 #[.val (.ref x), .val (.ref y), .unset] [.ref y])) rfl (rest := []) rfl (hb hbytes d15)
    have hh5 := q5.trans hh3
    have c6 : Steps p.tables e below (s₁.setTop (entryFrame m #[.ref x, .ref y] 3)) (T5.setTop (mkF m 19 #[.val (.ref x), .val (.ref y), .val (.ref y)] [])) := (c4.trans (st5 _ (Steps.refl _))).trans (by
      refine XS.astoreN X5.here hexec rfl (hb hbytes d18) rfl rfl rfl ?_
      exact Steps.refl _)
    obtain ⟨T7, X7, q7, st7⟩ := X5.sget hexec hown (wk W (.fieldLink "java/lang/String" 38 "java/lang/String" "COMPACT_STRINGS" "Z")) s1 (fun _ _ h => by rw [hh5]; exact h) (g := (mkF m 19 #[.val (.ref x), .val (.ref y), .val (.ref y)] [])) rfl (hb hbytes d19)
    have hh7 := q7.trans hh5
    have c8 : Steps p.tables e below (s₁.setTop (entryFrame m #[.ref x, .ref y] 3)) (T7.setTop (mkF m 26 #[.val (.ref x), .val (.ref y), .val (.ref y)] [.ref x])) := (c6.trans (st7 _ (Steps.refl _))).trans (by
      refine XS.ifNo X7.here hexec rfl (hb hbytes d22) rfl (i0_eq_f hz) ?_
      refine XS.aloadN X7.here hexec rfl (hb hbytes d25) rfl rfl ?_
      exact Steps.refl _)
    obtain ⟨T9, X9, q9, st9⟩ := X7.hget hexec hown (wk W (.fieldLink "java/lang/String" 15 "java/lang/String" "coder" "B")) (hx.mv X7.warmed.alike hh7).2.2.1 (g := (mkF m 26 #[.val (.ref x), .val (.ref y), .val (.ref y)] [.ref x])) rfl (rest := []) rfl (hb hbytes d26)
    have hh9 := q9.trans hh7
    have c10 : Steps p.tables e below (s₁.setTop (entryFrame m #[.ref x, .ref y] 3)) (T9.setTop (mkF m 30 #[.val (.ref x), .val (.ref y), .val (.ref y)] [.ref y, .int cd])) := (c8.trans (st9 _ (Steps.refl _))).trans (by
      refine XS.aloadN X9.here hexec rfl (hb hbytes d29) rfl rfl ?_
      exact Steps.refl _)
    obtain ⟨T11, X11, q11, st11⟩ := X9.hget hexec hown (wk W (.fieldLink "java/lang/String" 15 "java/lang/String" "coder" "B")) (hy.mv X9.warmed.alike hh9).2.2.1 (g := (mkF m 30 #[.val (.ref x), .val (.ref y), .val (.ref y)] [.ref y, .int cd])) rfl (rest := [.int cd]) rfl (hb hbytes d30)
    have hh11 := q11.trans hh9
    have c12 : Steps p.tables e below (s₁.setTop (entryFrame m #[.ref x, .ref y] 3)) (T11.setTop (mkF m 33 #[.val (.ref x), .val (.ref y), .val (.ref y)] [.int cd', .int cd])) := c10.trans (st11 _ (Steps.refl _))
    by_cases hcd : cd = cd'
    · subst hcd
      have c13 : Steps p.tables e below (s₁.setTop (entryFrame m #[.ref x, .ref y] 3)) (T11.setTop (mkF m 37 #[.val (.ref x), .val (.ref y), .val (.ref y)] [.ref x])) := c12.trans (by
        refine XS.icmpNo X11.here hexec rfl (hb hbytes d33) rfl (ii_ne_f rfl) ?_
        refine XS.aloadN X11.here hexec rfl (hb hbytes d36) rfl rfl ?_
        exact Steps.refl _)
      obtain ⟨T14, X14, q14, st14⟩ := X11.hget hexec hown (wk W (.fieldLink "java/lang/String" 9 "java/lang/String" "value" "[B")) (hx.mv X11.warmed.alike hh11).2.1 (g := (mkF m 37 #[.val (.ref x), .val (.ref y), .val (.ref y)] [.ref x])) rfl (rest := []) rfl (hb hbytes d37)
      have hh14 := q14.trans hh11
      have c15 : Steps p.tables e below (s₁.setTop (entryFrame m #[.ref x, .ref y] 3)) (T14.setTop (mkF m 41 #[.val (.ref x), .val (.ref y), .val (.ref y)] [.ref y, .ref t])) := (c13.trans (st14 _ (Steps.refl _))).trans (by
        refine XS.aloadN X14.here hexec rfl (hb hbytes d40) rfl rfl ?_
        exact Steps.refl _)
      obtain ⟨T16, X16, q16, st16⟩ := X14.hget hexec hown (wk W (.fieldLink "java/lang/String" 9 "java/lang/String" "value" "[B")) (hy.mv X14.warmed.alike hh14).2.1 (g := (mkF m 41 #[.val (.ref x), .val (.ref y), .val (.ref y)] [.ref y, .ref t])) rfl (rest := [.ref t]) rfl (hb hbytes d41)
      have hh16 := q16.trans hh14
      have c17 : Steps p.tables e below (s₁.setTop (entryFrame m #[.ref x, .ref y] 3)) (T16.setTop (mkF m 44 #[.val (.ref x), .val (.ref y), .val (.ref y)] [.ref t', .ref t])) := c15.trans (st16 _ (Steps.refl _))
      obtain ⟨v18, T18, X18, E18, g18⟩ := X16.callS hexec (LEq.law l t V t' V') hown (wks W (staticW "java/lang/String" 541 LEq.yN)) (wk W LEq.tab) (W := 0) (Nat.le_of_ble_eq_true rfl) (Nat.le_of_ble_eq_true rfl) (Nat.le_refl _) (Nat.le_refl _) (g := (mkF m 44 #[.val (.ref x), .val (.ref y), .val (.ref y)] [.ref t', .ref t])) rfl (by rw [hml]; rfl) c17 (argsL := [.ref t, .ref t']) (rest := []) rfl rfl (by show 2 * 0 + 0 ≤ _; decide) (hb hbytes d44) (⟨rfl, hx.2.2.2.1.mv X16.warmed.alike hh16, hx.2.2.2.2.1.ty, hy.2.2.2.1.mv X16.warmed.alike hh16, hy.2.2.2.2.1.ty⟩)
      obtain ⟨v, rfl, q18, hv⟩ := E18
      have iff := Cod.eqv hx.2.2.2.2.1 hy.2.2.2.2.1 hx.2.2.2.2.2 hy.2.2.2.2.2
      rcases hv with ⟨rfl, he⟩ | ⟨rfl, he⟩
      · have c19 : Steps p.tables e below (s₁.setTop (entryFrame m #[.ref x, .ref y] 3)) (T18.setTop (mkF m 55 #[.val (.ref x), .val (.ref y), .val (.ref y)] [.int 1])) := Steps.trans g18 (by
          refine XS.ifNo X18.here hexec rfl (hb hbytes d47) rfl (i0_eq_f (by decide)) ?_
          refine iconstV X18.here hexec rfl 1 (hb hbytes d50) (by decide) ?_
          refine XS.goto X18.here hexec rfl (pc0 := 51) rfl (hb hbytes d51) (by decide) rfl ?_
          exact Steps.refl _)
        exact ⟨T18, some (.int 1), _, _, _, X18, rfl, rfl, rfl, (fun h => by cases h), ⟨1, rfl, q18.trans hh16, Or.inl ⟨rfl, iff.mp he⟩⟩, fun fs hl => c19.trans (X18.ireturnOut hexec hret rfl (Or.inr (Or.inl rfl)) (hb hbytes d55) hl)⟩
      · have c19 : Steps p.tables e below (s₁.setTop (entryFrame m #[.ref x, .ref y] 3)) (T18.setTop (mkF m 55 #[.val (.ref x), .val (.ref y), .val (.ref y)] [.int 0])) := Steps.trans g18 (by
          refine XS.ifYes X18.here hexec rfl (pc0 := 47) rfl (hb hbytes d47) rfl (i0_eq_t rfl) (by decide) rfl ?_
          refine iconstV X18.here hexec rfl 0 (hb hbytes d54) (by decide) ?_
          exact Steps.refl _)
        exact ⟨T18, some (.int 0), _, _, _, X18, rfl, rfl, rfl, (fun h => by cases h), ⟨0, rfl, q18.trans hh16, Or.inr ⟨rfl, fun q => he (iff.mpr q)⟩⟩, fun fs hl => c19.trans (X18.ireturnOut hexec hret rfl (Or.inr (Or.inl rfl)) (hb hbytes d55) hl)⟩
    · have c13 : Steps p.tables e below (s₁.setTop (entryFrame m #[.ref x, .ref y] 3)) (T11.setTop (mkF m 55 #[.val (.ref x), .val (.ref y), .val (.ref y)] [.int 0])) := c12.trans (by
        refine XS.icmpYes X11.here hexec rfl (pc0 := 33) rfl (hb hbytes d33) rfl (ii_ne_t hcd) (by decide) rfl ?_
        refine iconstV X11.here hexec rfl 0 (hb hbytes d54) (by decide) ?_
        exact Steps.refl _)
      exact ⟨T11, some (.int 0), _, _, _, X11, rfl, rfl, rfl, (fun h => by cases h), ⟨0, rfl, hh11, Or.inr ⟨rfl, Cod.dif hx.2.2.2.2.1 hy.2.2.2.2.1 hcd⟩⟩, fun fs hl => c13.trans (X11.ireturnOut hexec hret rfl (Or.inr (Or.inl rfl)) (hb hbytes d55) hl)⟩
theorem pays {l : Launch} {R : Room} {p : Program} {e : Env} {below : List Frame} {s : State} {sargs : Array Value} {len W : Nat} (x t : Addr) (V : Cell) (cd : Int32) (n : Nat) (f : Nat → Int32) (y t' : Addr) (V' : Cell) (cd' : Int32) (k : Nat) (g : Nat → Int32) (z : Int32) (htab : tab.before sargs s = true) (hfr : 2 ≤ R.frames) (hlo : W + 28 ≤ R.locals) :
    Back l R p e below s sargs yN len W (fun A₁ a₁ => A₁.cells + 0 ≤ R.cells ∧ A₁.slots + 0 ≤ R.slots ∧ P x t V cd n f y t' V' cd' k g z a₁ A₁.U) (fun A₁ _ v₁ B₁ => Says01 (SameT n f k g) v₁ A₁.U B₁.U ∧ B₁.locs = A₁.locs ++ [] ∧ B₁.cells = A₁.cells + 0 ∧ B₁.slots = A₁.slots + 0) :=
  (law l x t V cd n f y t' V' cd' k g z).pays htab hfr (by omega)
end SEq
end StrChars
namespace StrChars.Road
open Jvm Sem ClassFile Op Lib Jvm.Stand Jvm.Free Jvm.Free.XT
open Jvm.Lib.Cold (StaticIs)
/-- the words of String.equals(Object) -/
abbrev wordsEq : List Jvm.Cond := [.code SEq.yN SEq.yB 3 (some .boolean), .initialized ST, .classLink ST 10 ST, .fieldLink ST 38 ST "COMPACT_STRINGS" "Z", .fieldLink ST 15 ST "coder" "B", .fieldLink ST 9 ST "value" "[B", .methodLink ST 541 LEq.yN, .static LEq.yN, .code LEq.yN LEq.yB 3 (some .boolean), .initialized "java/lang/StringLatin1"]
theorem tabEq_of {a : Array Value} {s : State} (h : ∀ w ∈ wordsEq, w.before a s = true) : SEq.tab.before a s = true := by
  have hl : LEq.tab.before a s = true := unparts (wk h (.code LEq.yN LEq.yB 3 (some .boolean))) (wks h (.initialized LEq.yN.cls :: LEq.site))
  have q := consq hl h
  exact unparts (wk q (.code SEq.yN SEq.yB 3 (some .boolean))) (wks q (.initialized SEq.yN.cls :: SEq.site))
theorem movedEq {Z s : State} {a0 args : Array Value} (hZ : Z.Warmed39 s.vm) (hw : ∀ d ∈ wordsEq, d.before a0 Z = true) : ∀ d ∈ wordsEq, d.before args s = true := fun d hd => by
  have t : ∀ d ∈ wordsEq, (d.onTables && d.keepsFace) = true := by decide +kernel
  exact RoadKit.mv hZ (hw d hd) (t d hd)
/-- the road's facts of a String, as the laws ask it -/
theorem txt_of {Z U : State} {a0 : Array Value} {kI : Nat} (wi : (Jvm.Cond.instantiable ST kI).before a0 Z = true) (al : Z.vm.Alike U.vm) {x t : Addr} {kb : ClassId} {cs : List Int32} {cd N2 : Int32} {vs : List Value} (E : RoadKit.Exa Z U.heap x ST) (V : RoadKit.Fld Z U.heap x ST "value" "[B" (.ref t)) (C : RoadKit.Fld Z U.heap x ST "coder" "B" (.int cd)) (K : RoadKit.Arv Z U.heap t kb .byte N2 vs (.int 0)) (hc : CodA cs cd N2 vs) (hb : ∀ c ∈ cs, ¬ c < 0 ∧ ¬ (65535 : Int32) < c) (l2 : cs.length ≤ 4000) :
    ∃ A, Txt x t A cd cs.length (fun j => cs.getD j 0) U := by
  obtain ⟨A, K1, K2, K3, K4, K5, K6⟩ := K
  have hcod := hc.cod (by omega) K3 K5
  obtain ⟨D, fV, fC, hB, F1, F2, g1, g2, -, -⟩ := strObj wi al E V C
  exact ⟨A, ⟨_, hB.2.2.1, D, hB.1, rfl, by cases q : D.vm <;> first | rfl | exact absurd q (hB.2.1.2 _)⟩, Has.of hB F1 g1, Has.of hB F2 g2, ⟨K1.1, State.isArrayOf_alike al K1.2.1, K1.2.2, by rcases hcod with ⟨-, q, -⟩ | ⟨-, q, -⟩ <;> omega⟩, hcod, fun j hj => by
    have e : cs.getD j 0 = cs[j] := by simp [List.getD_eq_getElem?_getD, hj]
    show ¬ cs.getD j 0 < 0 ∧ ¬ 65535 < cs.getD j 0
    rw [e]; exact hb _ (List.getElem_mem _)⟩
theorem same_list (cs ds : List Int32) : SameT cs.length (fun j => cs.getD j 0) ds.length (fun j => ds.getD j 0) ↔ cs = ds := by
  constructor
  · rintro ⟨e, q⟩
    refine List.ext_getElem e fun j h1 h2 => ?_
    have := q j h1
    simpa [List.getD_eq_getElem?_getD, h1, h2] using this
  · rintro rfl
    exact ⟨rfl, fun _ _ => rfl⟩
/-- **equals(Object) OF TWO SUCH STRINGS**: 1 just where the chars are the same -/
theorem eqW {p : Program} {l : Launch} {e : Env} {R : Room} {s : State} {args : Array Value} {below : List Frame} {len W : Nat} {Z : State} {a0 : Array Value} {h : Heap} (hZ : Z.Warmed39 s.vm) (hw : ∀ d ∈ wordsEq, d.before a0 Z = true) {kI : Nat} (wi : (Jvm.Cond.instantiable ST kI).before a0 Z = true)
    {x t : Addr} {kb : ClassId} {cs : List Int32} {cd N2 : Int32} {vs : List Value} (E : RoadKit.Exa Z h x ST) (V : RoadKit.Fld Z h x ST "value" "[B" (.ref t)) (C : RoadKit.Fld Z h x ST "coder" "B" (.int cd)) (K : RoadKit.Arv Z h t kb .byte N2 vs (.int 0)) (hc : CodA cs cd N2 vs) (hb : ∀ c ∈ cs, ¬ c < 0 ∧ ¬ (65535 : Int32) < c) (l2 : cs.length ≤ 4000)
    {y t' : Addr} {kb' : ClassId} {ds : List Int32} {cd' N2' : Int32} {vs' : List Value} (E' : RoadKit.Exa Z h y ST) (V' : RoadKit.Fld Z h y ST "value" "[B" (.ref t')) (C' : RoadKit.Fld Z h y ST "coder" "B" (.int cd')) (K' : RoadKit.Arv Z h t' kb' .byte N2' vs' (.int 0)) (hc' : CodA ds cd' N2' vs') (hb' : ∀ c ∈ ds, ¬ c < 0 ∧ ¬ (65535 : Int32) < c) (l2' : ds.length ≤ 4000)
    {z : Int32} (S : RoadKit.Sta Z h ST "COMPACT_STRINGS" "Z" (.int z)) (hz : ¬ z = 0) (hfr : 2 ≤ R.frames) (hlo : W + 28 ≤ R.locals) :
    Back l R p e below s args (⟨"java/lang/String", "equals", "(Ljava/lang/Object;)Z"⟩ : MethodName) len W (fun P a => a = #[.ref x, .ref y] ∧ P.U.heap = h ∧ P.cells + 0 ≤ R.cells ∧ P.slots + 0 ≤ R.slots)
      (fun P _ v B => ∃ L, (((v = some (.int 1) ∧ cs = ds) ∨ (v = some (.int 0) ∧ ¬ cs = ds)) ∧ L = [] ∧ B.U.heap = h) ∧ B.locs = P.locs ++ L ∧ B.cells = P.cells + 0 ∧ B.slots = P.slots + 0) := by
  intro m meth c P g ig mk a X hg hsize hdg hW hn hp'
  obtain ⟨rfl, rfl, r1, r2⟩ := hp'
  have al : Z.vm.Alike P.U.vm := hZ.alike.trans X.warmed.alike
  obtain ⟨A, hx⟩ := txt_of wi al E V C K hc hb l2
  obtain ⟨A', hy⟩ := txt_of wi al E' V' C' K' hc' hb' l2'
  obtain ⟨v, B, X', ⟨⟨w, hv, hh, hq⟩, hl, hk, hs⟩, st⟩ := SEq.pays x t A cd cs.length (fun j => cs.getD j 0) y t' A' cd' ds.length (fun j => ds.getD j 0) z (tabEq_of (movedEq hZ hw)) hfr hlo m meth c P g ig mk _ X hg hsize hdg hW hn ⟨r1, r2, rfl, hx, hy, sta_is al S, hz⟩
  refine ⟨v, B, X', ⟨[], ⟨?_, rfl, hh⟩, hl, hk, hs⟩, st⟩
  rcases hq with ⟨rfl, q⟩ | ⟨rfl, q⟩
  · exact Or.inl ⟨hv, (same_list cs ds).mp q⟩
  · exact Or.inr ⟨hv, fun e => q ((same_list cs ds).mpr e)⟩
end StrChars.Road
namespace StrChars.Road
open Jvm Sem ClassFile Op Lib Jvm.Stand Jvm.Free Jvm.Free.XT
open Jvm.Lib.Cold (StaticIs)
/-- what backV says of its String, as the contracts of this text ask it: cs's low bytes, coder 0 -/
theorem codOf {cs : List Int32} {n : Nat} (hn : cs.length = n) (hb : ∀ c ∈ cs, ¬ 255 < c) : CodA cs 0 (Int32.ofNat n) ((cs.map lo8).map Value.int) := Or.inl ⟨rfl, by rw [hn], by simp [List.map_map, Function.comp_def], hb⟩
end StrChars.Road
end Jvm.Pilot.@@N@@
namespace Jvm.Pilot.@@N@@
open Jvm Jvm.ClassFile Sem Op Lib Jvm.Free Jvm.Stand Jvm.LawKit Jvm.RoadKit Jvm.OwnKit Bundle Jvm.Pilot.@@N@@.Jvm.D
theorem own_wS {Z : State} {a0 : Array Value} (hw : ∀ d ∈ tables_1, d.before a0 Z = true) : ∀ a ∈ Bundle.stringAtoms, a.before a0 Z = true := fun d hd => hw d ((by decide +kernel : ∀ d ∈ Bundle.stringAtoms, d ∈ tables_1) d hd)
theorem own_EW {Z : State} {a0 : Array Value} (hw : ∀ d ∈ tables_1, d.before a0 Z = true) : EW Z a0 consts_1 := EW.cons (hw _ (List.mem_of_getElem? (i := 64) rfl)) (by decide +kernel) (EW.cons (hw _ (List.mem_of_getElem? (i := 59) rfl)) (by decide +kernel) (EW.nil))
def own_html : List Int32 := [116, 101, 120, 116, 47, 104, 116, 109, 108]
def own_tb (i : Int32) : Int32 := if i = 0 then 116 else if i = 1 then 101 else if i = 2 then 120 else if i = 3 then 116 else if i = 4 then 47 else if i = 5 then 104 else if i = 6 then 116 else if i = 7 then 109 else 108
def own_put (p c i : Int32) : Int32 := if i = p then c else own_tb i
def own_del (p i : Int32) : Int32 := if i < p then own_tb i else own_tb (i + 1)
def own_ins (p c i : Int32) : Int32 := if i < p then own_tb i else if i = p then c else own_tb (i - 1)
theorem own_ten {i : Int32} (h : ¬ i < 0 ∧ i < 10) : i = 0 ∨ i = 1 ∨ i = 2 ∨ i = 3 ∨ i = 4 ∨ i = 5 ∨ i = 6 ∨ i = 7 ∨ i = 8 ∨ i = 9 := by
  simp only [Int32.lt_iff_toInt_lt, ← Int32.toInt_inj, Int32.reduceToInt] at h ⊢
  omega
theorem own_nine {i : Int32} (h : ¬ i < 0 ∧ i < 9) : i = 0 ∨ i = 1 ∨ i = 2 ∨ i = 3 ∨ i = 4 ∨ i = 5 ∨ i = 6 ∨ i = 7 ∨ i = 8 := by
  simp only [Int32.lt_iff_toInt_lt, ← Int32.toInt_inj, Int32.reduceToInt] at h ⊢
  omega
theorem own_eight {i : Int32} (h : ¬ i < 0 ∧ i < 8) : i = 0 ∨ i = 1 ∨ i = 2 ∨ i = 3 ∨ i = 4 ∨ i = 5 ∨ i = 6 ∨ i = 7 := by
  simp only [Int32.lt_iff_toInt_lt, ← Int32.toInt_inj, Int32.reduceToInt] at h ⊢
  omega
theorem own_rem9 {k q : Int32} (hk : k = (q &&& (2147483647 : Int32)) % (9 : Int32)) : ¬ k < 0 ∧ k < 9 := by
  have e1 := c_mask q 2147483647 31 (by decide) (by decide)
  have e2 := (c_irem (q &&& 2147483647) 9 9 (by decide)).1 (by omega)
  rw [← hk] at e2
  simp only [Int32.lt_iff_toInt_lt, Int32.reduceToInt]
  omega
theorem own_rem10 {k q : Int32} (hk : k = (q &&& (2147483647 : Int32)) % (10 : Int32)) : ¬ k < 0 ∧ k < 10 := by
  have e1 := c_mask q 2147483647 31 (by decide) (by decide)
  have e2 := (c_irem (q &&& 2147483647) 10 10 (by decide)).1 (by omega)
  rw [← hk] at e2
  simp only [Int32.lt_iff_toInt_lt, Int32.reduceToInt]
  omega
theorem own_at {i : Int32} (h : ¬ i < 0 ∧ i < 9) : ([(.int (116 : Int32)), (.int (101 : Int32)), (.int (120 : Int32)), (.int (116 : Int32)), (.int (47 : Int32)), (.int (104 : Int32)), (.int (116 : Int32)), (.int (109 : Int32)), (.int (108 : Int32))] : List Value).getD i.toNatClampNeg (.int (0 : Int32)) = .int (own_tb i) := by
  rcases own_nine h with rfl | rfl | rfl | rfl | rfl | rfl | rfl | rfl | rfl <;> rfl
theorem own_lt {i : Int32} (h : ¬ i < 0 ∧ i < 9) : i.toNatClampNeg < 9 := by
  rcases own_nine h with rfl | rfl | rfl | rfl | rfl | rfl | rfl | rfl | rfl <;> decide
theorem own_set {i c : Int32} (h : ¬ i < 0 ∧ i < 9) : ([(.int (116 : Int32)), (.int (101 : Int32)), (.int (120 : Int32)), (.int (116 : Int32)), (.int (47 : Int32)), (.int (104 : Int32)), (.int (116 : Int32)), (.int (109 : Int32)), (.int (108 : Int32))] : List Value).set i.toNatClampNeg (.int c) = [(.int (own_put i c (0 : Int32))), (.int (own_put i c (1 : Int32))), (.int (own_put i c (2 : Int32))), (.int (own_put i c (3 : Int32))), (.int (own_put i c (4 : Int32))), (.int (own_put i c (5 : Int32))), (.int (own_put i c (6 : Int32))), (.int (own_put i c (7 : Int32))), (.int (own_put i c (8 : Int32)))] := by
  rcases own_nine h with rfl | rfl | rfl | rfl | rfl | rfl | rfl | rfl | rfl <;> rfl
theorem own_heq {i c : Int32} (h : ¬ i < 0 ∧ i < 9) : own_html = [own_put i c (0 : Int32), own_put i c (1 : Int32), own_put i c (2 : Int32), own_put i c (3 : Int32), own_put i c (4 : Int32), own_put i c (5 : Int32), own_put i c (6 : Int32), own_put i c (7 : Int32), own_put i c (8 : Int32)] ↔ c = own_tb i := by
  rcases own_nine h with rfl | rfl | rfl | rfl | rfl | rfl | rfl | rfl | rfl <;> simp [own_html, own_put, own_tb] <;> exact eq_comm
theorem own_neq {cs : List Int32} (h : (9 : Nat) ≠ cs.length) : ¬ own_html = cs := fun q => h (by rw [← q]; rfl)
theorem own_tb_sm (i : Int32) : ¬ own_tb i < 0 ∧ ¬ (255 : Int32) < own_tb i := by
  unfold own_tb
  repeat' split
  all_goals decide
theorem own_put_sm {c : Int32} (h : ¬ c < 0 ∧ ¬ (255 : Int32) < c) (p i : Int32) : ¬ own_put p c i < 0 ∧ ¬ (255 : Int32) < own_put p c i := by
  unfold own_put
  split
  · exact h
  · exact own_tb_sm i
theorem own_del_sm (p i : Int32) : ¬ own_del p i < 0 ∧ ¬ (255 : Int32) < own_del p i := by
  unfold own_del
  split
  · exact own_tb_sm i
  · exact own_tb_sm _
theorem own_ins_sm {c : Int32} (h : ¬ c < 0 ∧ ¬ (255 : Int32) < c) (p i : Int32) : ¬ own_ins p c i < 0 ∧ ¬ (255 : Int32) < own_ins p c i := by
  unfold own_ins
  split
  · exact own_tb_sm i
  · split
    · exact h
    · exact own_tb_sm _
theorem own_up {i : Int32} (h : ¬ i < 0 ∧ i < 8) : ¬ i < 0 ∧ i < 9 := by
  rcases own_eight h with rfl | rfl | rfl | rfl | rfl | rfl | rfl | rfl <;> decide
theorem own_up1 {i : Int32} (h : ¬ i < 0 ∧ i < 8) : ¬ i + 1 < 0 ∧ i + 1 < 9 := by
  rcases own_eight h with rfl | rfl | rfl | rfl | rfl | rfl | rfl | rfl <;> decide
theorem own_below {i p : Int32} (h : ¬ i < 0 ∧ i < 10) (hp : ¬ p < 0 ∧ p < 10) (q : i < p) : ¬ i < 0 ∧ i < 9 := by
  simp only [Int32.lt_iff_toInt_lt, Int32.reduceToInt] at h hp q ⊢
  omega
theorem own_above {i p : Int32} (h : ¬ i < 0 ∧ i < 10) (hp : ¬ p < 0 ∧ p < 10) (q : ¬ i < p) (r : ¬ i = p) : ¬ i - 1 < 0 ∧ i - 1 < 9 := by
  have h0 : ¬ i = 0 := by
    rintro rfl
    simp only [Int32.lt_iff_toInt_lt, ← Int32.toInt_inj, Int32.reduceToInt] at hp q r
    omega
  rcases own_ten h with rfl | rfl | rfl | rfl | rfl | rfl | rfl | rfl | rfl | rfl
  · exact absurd rfl h0
  all_goals decide
theorem own_if_t {α : Type} {x y : α} {d : Decidable (x = y)} (h : ¬ (if x = y then (1 : Int32) else (0 : Int32)) = 0) : x = y := by
  by_cases q : x = y
  · exact q
  · rw [if_neg q] at h
    exact absurd rfl h
theorem own_if_f {α : Type} {x y : α} {d : Decidable (x = y)} (h : (if x = y then (1 : Int32) else (0 : Int32)) = 0) : ¬ x = y := by
  intro q
  rw [if_pos q] at h
  exact absurd h (by decide)
theorem own_nar {x : Int32} (h : ¬ x < 0 ∧ ¬ (255 : Int32) < x) : nar .char x = x := char255 h
theorem own_eqB {p : Program} {l : Launch} {e : Env} {R : Room} {s : State} {args : Array Value} {below : List Frame} {len W : Nat} {Z : State} {a0 : Array Value} {h : Heap} {n0 : Nat} (hw : ∀ d ∈ tables_1, d.before a0 Z = true) (hZ : Z.Warmed39 s.vm) {x y : Addr} {cs ds : List Int32} (F : StrIs Z h x cs) (G : StrIs Z h y ds) {z : Int32} (S : Sta Z h "java/lang/String" "COMPACT_STRINGS" "Z" (.int z)) (hz : ¬ z = 0) (hfr : 2 ≤ R.frames) (hlo : W + 28 ≤ R.locals) :
    Back l R p e below s args (⟨"java/lang/String", "equals", "(Ljava/lang/Object;)Z"⟩ : MethodName) len W (fun P a => a = #[.ref x, .ref y] ∧ P.U.heap = h ∧ P.cells + 0 ≤ R.cells ∧ P.slots + 0 ≤ R.slots)
      (fun P _ v B => ∃ L, (v = some (.int (if cs = ds then (1 : Int32) else (0 : Int32))) ∧ Fr n0 L ∧ B.U.heap = h) ∧ B.locs = P.locs ++ L ∧ B.cells = P.cells + 0 ∧ B.slots = P.slots + 0) := by
  obtain ⟨t, k, E, V, C, K, hp, hl⟩ := F
  obtain ⟨t', k', E', V', C', K', hp', hl'⟩ := G
  have up : ∀ {c : Int32}, ¬ c < 0 ∧ ¬ (255 : Int32) < c → ¬ c < 0 ∧ ¬ (65535 : Int32) < c := fun {c} q => by
    simp only [Int32.lt_iff_toInt_lt, Int32.reduceToInt] at q ⊢
    omega
  refine Back.mono (StrChars.Road.eqW hZ (fun d hd => hw d ((by decide +kernel : ∀ d ∈ StrChars.Road.wordsEq, d ∈ tables_1) d hd)) (kI := 4) (hw _ (List.mem_of_getElem? (i := 7) rfl)) E V C K (StrChars.Road.codOf rfl fun c hc => (hp c hc).2) (fun c hc => up (hp c hc)) hl E' V' C' K' (StrChars.Road.codOf rfl fun c hc => (hp' c hc).2) (fun c hc => up (hp' c hc)) hl' S hz hfr hlo) (fun _ _ q => q) ?_
  rintro P a v B - ⟨L, ⟨hv, hL, hh⟩, r⟩
  refine ⟨L, ⟨?_, by rw [hL]; exact Fr.nil _, hh⟩, r⟩
  rcases hv with ⟨rfl, q⟩ | ⟨rfl, q⟩
  · rw [if_pos q]
  · rw [if_neg q]
theorem d3_0 : decode jdk_42_method_149_code 0 = .ok (.aload_n 0, 1) := by decide +kernel
theorem d3_1 : decode jdk_42_method_149_code 1 = .ok (.invokespecial 1, 3) := by decide +kernel
theorem d3_4 : decode jdk_42_method_149_code 4 = .ok (.iload_n 3, 1) := by decide +kernel
theorem d3_5 : decode jdk_42_method_149_code 5 = .ok (.ifCond .ne 22, 3) := by decide +kernel
theorem d3_8 : decode jdk_42_method_149_code 8 = .ok (.aload_n 0, 1) := by decide +kernel
theorem d3_9 : decode jdk_42_method_149_code 9 = .ok (.ldc 7, 2) := by decide +kernel
theorem d3_11 : decode jdk_42_method_149_code 11 = .ok (.getfield 9, 3) := by decide +kernel
theorem d3_14 : decode jdk_42_method_149_code 14 = .ok (.putfield 9, 3) := by decide +kernel
theorem d3_17 : decode jdk_42_method_149_code 17 = .ok (.aload_n 0, 1) := by decide +kernel
theorem d3_18 : decode jdk_42_method_149_code 18 = .ok (.ldc 7, 2) := by decide +kernel
theorem d3_20 : decode jdk_42_method_149_code 20 = .ok (.getfield 15, 3) := by decide +kernel
theorem d3_23 : decode jdk_42_method_149_code 23 = .ok (.putfield 15, 3) := by decide +kernel
theorem d3_26 : decode jdk_42_method_149_code 26 = .ok (.return_, 1) := by decide +kernel
theorem ef_rm_s0v (m : MethodId) (t : Addr) (ca : Addr)  : entryFrame m #[(.ref t), (.ref ca), (.int (0 : Int32)), (.int (0 : Int32)), .null] 6 = mkF m 0 #[.val (.ref t), .val (.ref ca), .val (.int (0 : Int32)), .val (.int (0 : Int32)), .val .null, .unset] [] := by first | (simp [entryFrame, mkF, argsToLocals, Value.category]; done) | rfl
def Q_rm_s0v (Z : State) (t : Addr) (ca : Addr)  (h0 : Heap) (n0 : Nat) (v : Option Value) (h : Heap) (L : List Loc) : Prop := v = none ∧ Fr n0 L ∧ Keep h0 h [t] ∧ StrIs Z h t []
theorem pn_0_ : plainName "java/lang/String" = true := by first | (simp [plainName, overriddenIn]; done) | decide +kernel
theorem pn_0 : plainFor (⟨"java/lang/String", "<init>", "([CIILjava/lang/Void;)V"⟩ : MethodName) = true := plainFor_of_name pn_0_
set_option maxRecDepth 65536 in
set_option maxHeartbeats 40000000 in
theorem rm_s0v (l : Launch) (Z : State) (a0 : Array Value) (hw : ∀ d ∈ tables_1, d.before a0 Z = true) (ws : List Jvm.Cond) (t : Addr) (ca : Addr)  (h0 : Heap) (n0 : Nat) (O0 : Old Z n0 h0) (hEL : EW Z a0 consts_1) (E_t : Exa Z h0 t "java/lang/String") (F_t_value : Fld Z h0 t "java/lang/String" "value" "[B" .null) (F_t_coder : Fld Z h0 t "java/lang/String" "coder" "B" (.int (0 : Int32))) (ge_t : n0 ≤ t) :
    MetFree l (⟨"java/lang/String", "<init>", "([CIILjava/lang/Void;)V"⟩ : MethodName) (head1 (Jvm.Cond.code (⟨"java/lang/String", "<init>", "([CIILjava/lang/Void;)V"⟩ : MethodName) jdk_42_method_149_code 6 none :: ws) ({ frames := 1, cells := 2, slots := 4, locals := 12 } : Room)) (fun args_ U => args_ = #[(.ref t), (.ref ca), (.int (0 : Int32)), (.int (0 : Int32)), .null] ∧ Z.Warmed39 U.vm ∧ U.heap = h0 ∧ CHv Z consts_1 U.vm h0) (fun _ _ _ _ _ => True) (fun _ U out_ U' => ∃ val_ loc_, out_ = .returned val_ ∧ (Q_rm_s0v Z t ca h0 n0) val_ U'.heap loc_ ∧ CHr Z consts_1 U.vm U.heap U'.vm U'.heap ∧ ReturnedEndW U out_ U' loc_ ({ frames := 1, cells := 2, slots := 4, locals := 12 } : Room).cells ({ frames := 1, cells := 2, slots := 4, locals := 12 } : Room).slots) := by
  refine startW (Q := (Q_rm_s0v Z t ca h0 n0)) pn_0 ?_
  intro p e s m below meth c T0 X0 hx hby hml hown hnm hret hlk hZ e0 hS CR
  have hk : 0 ≤ h0.size := Nat.zero_le _
  have wS : ∀ a ∈ Bundle.stringAtoms, a.before a0 Z = true := own_wS hw
  replace hown : s.vm.findClass "java/lang/String" = some m.cls := hown
  replace hml : c.maxLocals = 6 := hml
  refine goAt (ef_rm_s0v m t ca ) ?_
  have N0 := Fr.nil n0
  have Sf_t := safeNull (EL := consts_1) hZ.alike E_t F_t_value
  show Go p e below T0 (mkF m 0 #[.val (.ref t), .val (.ref ca), .val (.int (0 : Int32)), .val (.int (0 : Int32)), .val .null, .unset] []) _
  refine stp (fun _ => XS.aloadN X0.here hx rfl (hb hby d3_0) rfl rfl) ?_
  show Go p e below T0 (mkF m 1 #[.val (.ref t), .val (.ref ca), .val (.int (0 : Int32)), .val (.int (0 : Int32)), .val .null, .unset] [(.ref t)]) _
  obtain ⟨T1, X1, e1, st1⟩ := initO X0 hx hZ hown (hw _ (List.mem_of_getElem? (i := 16) rfl)) (hw _ (List.mem_of_getElem? (i := 17) rfl)) (hw _ (List.mem_of_getElem? (i := 18) rfl)) e0 (g := (mkF m 1 #[.val (.ref t), .val (.ref ca), .val (.int (0 : Int32)), .val (.int (0 : Int32)), .val .null, .unset] [(.ref t)])) rfl (by rw [hml]; rfl) rfl (hb hby d3_1) (by decide) (W := 0) (by show 2 * 0 + _ ≤ _; exact Nat.le_of_eq rfl) (by decide)
  refine stp st1 ?_
  show Go p e below T1 (mkF m 4 #[.val (.ref t), .val (.ref ca), .val (.int (0 : Int32)), .val (.int (0 : Int32)), .val .null, .unset] []) _
  refine stp (fun _ => XS.iloadN X1.here hx rfl (hb hby d3_4) rfl) ?_
  show Go p e below T1 (mkF m 5 #[.val (.ref t), .val (.ref ca), .val (.int (0 : Int32)), .val (.int (0 : Int32)), .val .null, .unset] [(.int (0 : Int32))]) _
  refine stp (fun _ => XS.ifNo X1.here hx rfl (hb hby d3_5) rfl (by decide)) ?_
  show Go p e below T1 (mkF m 8 #[.val (.ref t), .val (.ref ca), .val (.int (0 : Int32)), .val (.int (0 : Int32)), .val .null, .unset] []) _
  refine stp (fun _ => XS.aloadN X1.here hx rfl (hb hby d3_8) rfl rfl) ?_
  show Go p e below T1 (mkF m 9 #[.val (.ref t), .val (.ref ca), .val (.int (0 : Int32)), .val (.int (0 : Int32)), .val .null, .unset] [(.ref t)]) _
  obtain ⟨la2, T2, h2, k1_2, lb2, kl2, X2, e2, E2, hS, hk', hZ, hown, Ea2, Ca2, Va2, Ba2, lta2, ltb2, CRn2, Li2, hne2, st2⟩ := ldcCH X1 hx hZ hown (hw _ (List.mem_of_getElem? (i := 59) rfl)) wS e1 hS hk hEL (by decide) CR.1 (vs := []) (z := (0 : Int32)) ⟨by decide +kernel, by decide +kernel⟩ (by decide) (by decide) (g := (mkF m 9 #[.val (.ref t), .val (.ref ca), .val (.int (0 : Int32)), .val (.int (0 : Int32)), .val .null, .unset] [(.ref t)])) rfl (hb hby d3_9) (n := 0) (by decide +kernel) (by decide) (by decide) (by decide)
  have f3 := E_t.ext E2
  have f4 := F_t_value.ext E2
  have f5 := F_t_coder.ext E2
  have f6 := (CRn2.safe F_t_coder.lt Sf_t)
  have hk := hk'
  have CR := CR.trans CRn2
  have K2 : Keep h0 h2 [t] := (Keep.refl h0 [t]).ext E2
  have O2 := O0.ext E2
  have ne7 := hne2 t f6
  refine stp st2 ?_
  show Go p e below T2 (mkF m 11 #[.val (.ref t), .val (.ref ca), .val (.int (0 : Int32)), .val (.int (0 : Int32)), .val .null, .unset] [(.ref la2), (.ref t)]) _
  obtain ⟨T8, X8, e8, st8⟩ := getF X2 hx hZ hown (host := "") (Or.inl (hw _ (List.mem_of_getElem? (i := 33) rfl))) Via.refl e2 Va2 (g := (mkF m 11 #[.val (.ref t), .val (.ref ca), .val (.int (0 : Int32)), .val (.int (0 : Int32)), .val .null, .unset] [(.ref la2), (.ref t)])) rfl rfl (hb hby d3_11)
  refine stp st8 ?_
  show Go p e below T8 (mkF m 14 #[.val (.ref t), .val (.ref ca), .val (.int (0 : Int32)), .val (.int (0 : Int32)), .val .null, .unset] [(.ref lb2), (.ref t)]) _
  obtain ⟨T9, h9, X9, e9, W9, st9⟩ := putF X8 hx hZ hown (host := "") (Or.inl (hw _ (List.mem_of_getElem? (i := 33) rfl))) Via.refl e8 f4 f3 (Or.inr ⟨(hw _ (List.mem_of_getElem? (i := 34) rfl)), rfl, hnm⟩) (hw _ (List.mem_of_getElem? (i := 7) rfl)) (ty := (.array .byte)) (by decide) rfl rfl (g := (mkF m 14 #[.val (.ref t), .val (.ref ca), .val (.int (0 : Int32)), .val (.int (0 : Int32)), .val .null, .unset] [(.ref lb2), (.ref t)])) rfl rfl (hb hby d3_14)
  have Fw9 := f4.same W9
  have f10 := f3.wr W9
  have f12 := f5.other W9 (Or.inr (slot_ne (Or.inr (hw _ (List.mem_of_getElem? (i := 32) rfl))) (Or.inr (hw _ (List.mem_of_getElem? (i := 34) rfl))) (by decide) (t := .byte) (t' := (.array .byte)) (by decide) (by decide)))
  have f13 := Safe.wr W9 f6 CR.1 f6
  have f14 := Ea2.wr W9
  have f15 := Ca2.other W9 (Or.inl (Ne.symm ne7.1))
  have f16 := Va2.other W9 (Or.inl (Ne.symm ne7.1))
  have f17 := Ba2.other W9 (Ne.symm ne7.2)
  have hk := Nat.le_trans hk (Keep.of_wr W9).1
  have CR := CR.trans (CHr.wr W9 f6 CR.1)
  have K9 : Keep h0 h9 [t] := K2.wr W9 (Or.inl (List.mem_of_getElem? (i := 0) rfl))
  have O9 := O2.wr W9 ge_t
  have N9 := Fr.snoc X9 N0 ge_t
  refine stp st9 ?_
  show Go p e below T9 (mkF m 17 #[.val (.ref t), .val (.ref ca), .val (.int (0 : Int32)), .val (.int (0 : Int32)), .val .null, .unset] []) _
  refine stp (fun _ => XS.aloadN X9.here hx rfl (hb hby d3_17) rfl rfl) ?_
  show Go p e below T9 (mkF m 18 #[.val (.ref t), .val (.ref ca), .val (.int (0 : Int32)), .val (.int (0 : Int32)), .val .null, .unset] [(.ref t)]) _
  refine stp (fun _ => ldcAgain X9 hx hZ hown (hw _ (List.mem_of_getElem? (i := 59) rfl)) Li2 (g := (mkF m 18 #[.val (.ref t), .val (.ref ca), .val (.int (0 : Int32)), .val (.int (0 : Int32)), .val .null, .unset] [(.ref t)])) rfl (hb hby d3_18) _) ?_
  show Go p e below T9 (mkF m 20 #[.val (.ref t), .val (.ref ca), .val (.int (0 : Int32)), .val (.int (0 : Int32)), .val .null, .unset] [(.ref la2), (.ref t)]) _
  obtain ⟨T18, X18, e18, st18⟩ := getF X9 hx hZ hown (host := "") (Or.inl (hw _ (List.mem_of_getElem? (i := 31) rfl))) Via.refl e9 f15 (g := (mkF m 20 #[.val (.ref t), .val (.ref ca), .val (.int (0 : Int32)), .val (.int (0 : Int32)), .val .null, .unset] [(.ref la2), (.ref t)])) rfl rfl (hb hby d3_20)
  refine stp st18 ?_
  show Go p e below T18 (mkF m 23 #[.val (.ref t), .val (.ref ca), .val (.int (0 : Int32)), .val (.int (0 : Int32)), .val .null, .unset] [(.int (0 : Int32)), (.ref t)]) _
  obtain ⟨T19, h19, X19, e19, W19, st19⟩ := putFN X18 hx hZ hown (hw _ (List.mem_of_getElem? (i := 31) rfl)) Via.refl e18 f12 f10 (Or.inr ⟨(hw _ (List.mem_of_getElem? (i := 32) rfl)), rfl, hnm⟩) (hw _ (List.mem_of_getElem? (i := 7) rfl)) (ty := .byte) (v' := (.int (0 : Int32))) (by decide) rfl rfl (g := (mkF m 23 #[.val (.ref t), .val (.ref ca), .val (.int (0 : Int32)), .val (.int (0 : Int32)), .val .null, .unset] [(.int (0 : Int32)), (.ref t)])) rfl rfl (hb hby d3_23)
  have Fw19 := f12.same W19
  have f20 := f10.wr W19
  have f21 := Fw9.other W19 (Or.inr (slot_ne (Or.inr (hw _ (List.mem_of_getElem? (i := 34) rfl))) (Or.inr (hw _ (List.mem_of_getElem? (i := 32) rfl))) (by decide) (t := (.array .byte)) (t' := .byte) (by decide) (by decide)))
  have f23 := Safe.wr W19 f13 CR.1 f13
  have f24 := f14.wr W19
  have f25 := f15.other W19 (Or.inl (Ne.symm ne7.1))
  have f26 := f16.other W19 (Or.inl (Ne.symm ne7.1))
  have f27 := f17.other W19 (Ne.symm ne7.2)
  have hk := Nat.le_trans hk (Keep.of_wr W19).1
  have CR := CR.trans (CHr.wr W19 f13 CR.1)
  have K19 : Keep h0 h19 [t] := K9.wr W19 (Or.inl (List.mem_of_getElem? (i := 0) rfl))
  have O19 := O9.wr W19 ge_t
  have N19 := Fr.snoc X19 N9 ge_t
  refine stp st19 ?_
  show Go p e below T19 (mkF m 26 #[.val (.ref t), .val (.ref ca), .val (.int (0 : Int32)), .val (.int (0 : Int32)), .val .null, .unset] []) _
  have Q28 : StrIs Z h19 t [] := StrIs.of f20 f21 Fw19 f27 rfl rfl (fun _ q => nomatch q) (Nat.le_of_ble_eq_true rfl)
  refine outVW X19 hx hZ hEL e19 hS hk CR hret (hb hby d3_26) hlk (by decide) (by decide) ?_
  rw [e19]
  exact ⟨rfl, N19, K19, Q28⟩
theorem d2_0 : decode jdk_42_method_3_code 0 = .ok (.aload_n 0, 1) := by decide +kernel
theorem d2_1 : decode jdk_42_method_3_code 1 = .ok (.aload_n 1, 1) := by decide +kernel
theorem d2_2 : decode jdk_42_method_3_code 2 = .ok (.iconst 0, 1) := by decide +kernel
theorem d2_3 : decode jdk_42_method_3_code 3 = .ok (.aload_n 1, 1) := by decide +kernel
theorem d2_4 : decode jdk_42_method_3_code 4 = .ok (.arraylength, 1) := by decide +kernel
theorem d2_5 : decode jdk_42_method_3_code 5 = .ok (.aconst_null, 1) := by decide +kernel
theorem d2_6 : decode jdk_42_method_3_code 6 = .ok (.invokespecial 27, 3) := by decide +kernel
theorem pd_0 : parseMethodDescriptor "([CIILjava/lang/Void;)V" = some ⟨[(.array .char), .int, .int, (.object "java/lang/Void")], none⟩ := by decide +kernel
theorem d2_9 : decode jdk_42_method_3_code 9 = .ok (.return_, 1) := by decide +kernel
theorem ef_rm_s0 (m : MethodId) (t : Addr) (ca : Addr)  : entryFrame m #[(.ref t), (.ref ca)] 2 = mkF m 0 #[.val (.ref t), .val (.ref ca)] [] := by first | (simp [entryFrame, mkF, argsToLocals, Value.category]; done) | rfl
def Q_rm_s0 (Z : State) (t : Addr) (ca : Addr) (k_ca : ClassId) (h0 : Heap) (n0 : Nat) (v : Option Value) (h : Heap) (L : List Loc) : Prop := v = none ∧ Fr n0 L ∧ Keep h0 h [t] ∧ StrIs Z h t []
theorem pn_1_ : plainName "java/lang/String" = true := by first | (simp [plainName, overriddenIn]; done) | decide +kernel
theorem pn_1 : plainFor (⟨"java/lang/String", "<init>", "([C)V"⟩ : MethodName) = true := plainFor_of_name pn_1_
set_option maxRecDepth 65536 in
set_option maxHeartbeats 40000000 in
theorem rm_s0 (l : Launch) (Z : State) (a0 : Array Value) (hw : ∀ d ∈ tables_1, d.before a0 Z = true) (ws : List Jvm.Cond) (t : Addr) (ca : Addr) (k_ca : ClassId) (h0 : Heap) (n0 : Nat) (O0 : Old Z n0 h0) (hEL : EW Z a0 consts_1) (E_t : Exa Z h0 t "java/lang/String") (F_t_value : Fld Z h0 t "java/lang/String" "value" "[B" .null) (F_t_coder : Fld Z h0 t "java/lang/String" "coder" "B" (.int (0 : Int32))) (V_ca : Arv Z h0 ca k_ca .char (0 : Int32) [] (.int (0 : Int32))) (ge_t : n0 ≤ t) (ne_ca_t : ca ≠ t) :
    MetFree l (⟨"java/lang/String", "<init>", "([C)V"⟩ : MethodName) (head1 (Jvm.Cond.code (⟨"java/lang/String", "<init>", "([C)V"⟩ : MethodName) jdk_42_method_3_code 2 none :: ws) ({ frames := 2, cells := 2, slots := 4, locals := 29 } : Room)) (fun args_ U => args_ = #[(.ref t), (.ref ca)] ∧ Z.Warmed39 U.vm ∧ U.heap = h0 ∧ CHv Z consts_1 U.vm h0) (fun _ _ _ _ _ => True) (fun _ U out_ U' => ∃ val_ loc_, out_ = .returned val_ ∧ (Q_rm_s0 Z t ca k_ca h0 n0) val_ U'.heap loc_ ∧ CHr Z consts_1 U.vm U.heap U'.vm U'.heap ∧ ReturnedEndW U out_ U' loc_ ({ frames := 2, cells := 2, slots := 4, locals := 29 } : Room).cells ({ frames := 2, cells := 2, slots := 4, locals := 29 } : Room).slots) := by
  refine startW (Q := (Q_rm_s0 Z t ca k_ca h0 n0)) pn_1 ?_
  intro p e s m below meth c T0 X0 hx hby hml hown hnm hret hlk hZ e0 hS CR
  have hk : 0 ≤ h0.size := Nat.zero_le _
  have wS : ∀ a ∈ Bundle.stringAtoms, a.before a0 Z = true := own_wS hw
  replace hown : s.vm.findClass "java/lang/String" = some m.cls := hown
  replace hml : c.maxLocals = 2 := hml
  refine goAt (ef_rm_s0 m t ca ) ?_
  have N0 := Fr.nil n0
  have Sf_t := safeNull (EL := consts_1) hZ.alike E_t F_t_value
  show Go p e below T0 (mkF m 0 #[.val (.ref t), .val (.ref ca)] []) _
  refine stp (fun _ => XS.aloadN X0.here hx rfl (hb hby d2_0) rfl rfl) ?_
  show Go p e below T0 (mkF m 1 #[.val (.ref t), .val (.ref ca)] [(.ref t)]) _
  refine stp (fun _ => XS.aloadN X0.here hx rfl (hb hby d2_1) rfl rfl) ?_
  show Go p e below T0 (mkF m 2 #[.val (.ref t), .val (.ref ca)] [(.ref ca), (.ref t)]) _
  refine stp (fun _ => XS.iconst X0.here hx rfl (hb hby d2_2)) ?_
  show Go p e below T0 (mkF m 3 #[.val (.ref t), .val (.ref ca)] [(.int (0 : Int32)), (.ref ca), (.ref t)]) _
  refine stp (fun _ => XS.aloadN X0.here hx rfl (hb hby d2_3) rfl rfl) ?_
  show Go p e below T0 (mkF m 4 #[.val (.ref t), .val (.ref ca)] [(.ref ca), (.int (0 : Int32)), (.ref ca), (.ref t)]) _
  obtain ⟨cl1, Ar1, -, S1, M1, -, -⟩ := (id V_ca)
  refine stp (fun _ => X0.arraylength hx (by rw [e0]; exact Ar1.1) (State.isArrayOf_alike hZ.alike Ar1.2.1) (g := (mkF m 4 #[.val (.ref t), .val (.ref ca)] [(.ref ca), (.int (0 : Int32)), (.ref ca), (.ref t)])) rfl rfl (hb hby d2_4) _) ?_
  rw [len_of S1 M1]
  show Go p e below T0 (mkF m 5 #[.val (.ref t), .val (.ref ca)] [(.int (0 : Int32)), (.int (0 : Int32)), (.ref ca), (.ref t)]) _
  refine stp (fun _ => XS.aconstNull X0.here hx rfl (hb hby d2_5)) ?_
  show Go p e below T0 (mkF m 6 #[.val (.ref t), .val (.ref ca)] [.null, (.int (0 : Int32)), (.int (0 : Int32)), (.ref ca), (.ref t)]) _
  obtain ⟨_, _, ⟨T2, L2, k2, n2⟩, -, X2, hS2, gg2, ⟨Lc2, hQ2, l2, y2, z2, CRn2⟩, st2⟩ := X0.specialBackS hx (y := (⟨"java/lang/String", "<init>", "([CIILjava/lang/Void;)V"⟩ : MethodName)) rfl hown (mvT hZ (hw _ (List.mem_of_getElem? (i := 12) rfl))) (mvT hZ (hw _ (List.mem_of_getElem? (i := 13) rfl))) (mvT hZ (hw _ (List.mem_of_getElem? (i := 15) rfl))) (by decide) (backOfSH (W := 0) (rm_s0v l Z a0 hw [] t ca  h0 n0 O0 hEL E_t F_t_value F_t_coder ge_t) hZ (hw _ (List.mem_of_getElem? (i := 15) rfl)) (hw _ (List.mem_of_getElem? (i := 8) rfl)) (by decide) (by decide) hEL CR.1) (g := (mkF m 6 #[.val (.ref t), .val (.ref ca)] [.null, (.int (0 : Int32)), (.int (0 : Int32)), (.ref ca), (.ref t)])) rfl (by rw [hml]; rfl) (Steps.refl _) (a := t) (argsL := [(.ref ca), (.int (0 : Int32)), (.int (0 : Int32)), .null]) (rest := []) (lenOf pd_0 rfl) rfl (by show 2 * 0 + _ ≤ _; exact Nat.le_of_eq rfl) (hb hby d2_6) (fun _ _ => ⟨rfl, e0, (by decide : 0 + 2 ≤ _), (by decide : 0 + 4 ≤ _)⟩)
  dsimp only [Pt.U, Pt.locs, Pt.cells, Pt.slots] at X2 hS2 gg2 l2 y2 z2 st2 hQ2 CRn2
  subst y2 z2
  obtain ⟨X2, hS, hZ, hown⟩ := rebS hS (by rw [e0]; exact hk) X2 hS2 gg2 hZ hown
  obtain ⟨rfl, N2q, K2q, r2_0⟩ := hQ2
  have N2 : Fr n0 L2 := by rw [l2]; exact Fr.app N0 N2q
  have f3 := E_t.keep K2q
  have f4 := V_ca.keep K2q (ninS ne_ca_t nin0)
  have f5 := CRn2.safe F_t_coder.lt Sf_t
  have K2 : Keep h0 T2.heap [t] := (Keep.refl h0 [t]).trans K2q (allS (Or.inl (List.mem_of_getElem? (i := 0) rfl)) all0)
  have O2 := O0.keep K2q (allS ge_t all0)
  have hk : T2.heap.size ≤ T2.heap.size := Nat.le_refl _
  have CR := CR.trans CRn2
  refine stt st2 ?_
  show Go p e below T2 (mkF m 9 #[.val (.ref t), .val (.ref ca)] []) _
  refine outVW X2 hx hZ hEL rfl hS hk CR hret (hb hby d2_9) hlk (by decide) (by decide) ?_
  exact ⟨rfl, N2, K2, r2_0⟩
theorem d10_0 : decode jdk_43_method_3_code 0 = .ok (.iload_n 0, 1) := by decide +kernel
theorem d10_1 : decode jdk_43_method_3_code 1 = .ok (.sipush 255, 3) := by decide +kernel
theorem d10_4 : decode jdk_43_method_3_code 4 = .ok (.if_icmp .gt 7, 3) := by decide +kernel
theorem d10_7 : decode jdk_43_method_3_code 7 = .ok (.iconst 1, 1) := by decide +kernel
theorem d10_8 : decode jdk_43_method_3_code 8 = .ok (.goto 4, 3) := by decide +kernel
theorem d10_12 : decode jdk_43_method_3_code 12 = .ok (.ireturn, 1) := by decide +kernel
theorem ef_rm_can (m : MethodId) (k : Int32)  : entryFrame m #[(.int k)] 1 = mkF m 0 #[.val (.int k)] [] := by first | (simp [entryFrame, mkF, argsToLocals, Value.category]; done) | rfl
def Q_rm_can (Z : State) (k : Int32)  (h0 : Heap) (n0 : Nat) (v : Option Value) (h : Heap) (L : List Loc) : Prop := v = some (.int (1 : Int32)) ∧ Fr n0 L ∧ h = h0
theorem pn_2_ : plainName "java/lang/StringLatin1" = true := by first | (simp [plainName, overriddenIn]; done) | decide +kernel
theorem pn_2 : plainFor (⟨"java/lang/StringLatin1", "canEncode", "(C)Z"⟩ : MethodName) = true := plainFor_of_name pn_2_
set_option maxRecDepth 65536 in
set_option maxHeartbeats 40000000 in
theorem rm_can (l : Launch) (Z : State) (a0 : Array Value) (hw : ∀ d ∈ tables_1, d.before a0 Z = true) (ws : List Jvm.Cond) (k : Int32)  (h0 : Heap) (n0 : Nat) (O0 : Old Z n0 h0) (hk : ¬ (255 : Int32) < k) :
    MetFree l (⟨"java/lang/StringLatin1", "canEncode", "(C)Z"⟩ : MethodName) (head1 (Jvm.Cond.code (⟨"java/lang/StringLatin1", "canEncode", "(C)Z"⟩ : MethodName) jdk_43_method_3_code 1 (some .boolean) :: ws) ({ frames := 0, cells := 0, slots := 0, locals := 0 } : Room)) (fun args_ U => args_ = #[(.int k)] ∧ Z.Warmed39 U.vm ∧ U.heap = h0) (fun _ _ _ _ _ => True) (fun _ U out_ U' => ∃ val_ loc_, out_ = .returned val_ ∧ (Q_rm_can Z k h0 n0) val_ U'.heap loc_ ∧ FrameEnd U out_ U' loc_ ({ frames := 0, cells := 0, slots := 0, locals := 0 } : Room).cells ({ frames := 0, cells := 0, slots := 0, locals := 0 } : Room).slots) := by
  refine start (Q := (Q_rm_can Z k h0 n0)) pn_2 ?_
  intro p e s m below meth c T0 X0 hx hby hml hown hnm hret hlk hZ e0
  replace hown : s.vm.findClass "java/lang/StringLatin1" = some m.cls := hown
  replace hml : c.maxLocals = 1 := hml
  refine goAt (ef_rm_can m k ) ?_
  have N0 := Fr.nil n0
  show Go p e below T0 (mkF m 0 #[.val (.int k)] []) _
  refine stp (fun _ => XS.iloadN X0.here hx rfl (hb hby d10_0) rfl) ?_
  show Go p e below T0 (mkF m 1 #[.val (.int k)] [(.int k)]) _
  refine stp (fun _ => XS.sipush X0.here hx rfl (hb hby d10_1)) ?_
  show Go p e below T0 (mkF m 4 #[.val (.int k)] [(.int (255 : Int32)), (.int k)]) _
  refine stp (fun _ => XS.icmpNo X0.here hx rfl (hb hby d10_4) rfl (XT.ii_gt_f hk)) ?_
  show Go p e below T0 (mkF m 7 #[.val (.int k)] []) _
  refine stp (fun _ => XS.iconst X0.here hx rfl (hb hby d10_7)) ?_
  show Go p e below T0 (mkF m 8 #[.val (.int k)] [(.int (1 : Int32))]) _
  refine stp (fun _ => XS.goto X0.here hx rfl (pc0 := 8) (pc' := 12) rfl (hb hby d10_8) (by decide) (by decide)) ?_
  show Go p e below T0 (mkF m 12 #[.val (.int k)] [(.int (1 : Int32))]) _
  refine outN X0 hx (t := .boolean) hret (by simp) (hb hby d10_12) hlk (by decide) (by decide) ?_
  exact ⟨rfl, N0, e0⟩
theorem d11_0 : decode jdk_43_method_46_code 0 = .ok (.iconst 1, 1) := by decide +kernel
theorem d11_1 : decode jdk_43_method_46_code 1 = .ok (.newarray .byte, 2) := by decide +kernel
theorem d11_3 : decode jdk_43_method_46_code 3 = .ok (.dup, 1) := by decide +kernel
theorem d11_4 : decode jdk_43_method_46_code 4 = .ok (.iconst 0, 1) := by decide +kernel
theorem d11_5 : decode jdk_43_method_46_code 5 = .ok (.iload_n 0, 1) := by decide +kernel
theorem d11_6 : decode jdk_43_method_46_code 6 = .ok (.i2b, 1) := by decide +kernel
theorem d11_7 : decode jdk_43_method_46_code 7 = .ok (.bastore, 1) := by decide +kernel
theorem d11_8 : decode jdk_43_method_46_code 8 = .ok (.areturn, 1) := by decide +kernel
theorem ef_rm_tb (m : MethodId) (k : Int32)  : entryFrame m #[(.int k)] 1 = mkF m 0 #[.val (.int k)] [] := by first | (simp [entryFrame, mkF, argsToLocals, Value.category]; done) | rfl
def Q_rm_tb (Z : State) (k : Int32)  (h0 : Heap) (n0 : Nat) (v : Option Value) (h : Heap) (L : List Loc) : Prop := ∃ (b : Addr) (k_b : ClassId), v = some (.ref b) ∧ Fr n0 L ∧ Keep h0 h [] ∧ (n0 ≤ b ∧ h0.size ≤ b) ∧ Exa Z h b "[B" ∧ Arv Z h b k_b .byte (1 : Int32) [(.int (k.toInt8.toInt32))] (.int (0 : Int32))
theorem pn_3_ : plainName "java/lang/StringLatin1" = true := by first | (simp [plainName, overriddenIn]; done) | decide +kernel
theorem pn_3 : plainFor (⟨"java/lang/StringLatin1", "toBytes", "(C)[B"⟩ : MethodName) = true := plainFor_of_name pn_3_
set_option maxRecDepth 65536 in
set_option maxHeartbeats 40000000 in
theorem rm_tb (l : Launch) (Z : State) (a0 : Array Value) (hw : ∀ d ∈ tables_1, d.before a0 Z = true) (ws : List Jvm.Cond) (k : Int32)  (h0 : Heap) (n0 : Nat) (O0 : Old Z n0 h0)  :
    MetFree l (⟨"java/lang/StringLatin1", "toBytes", "(C)[B"⟩ : MethodName) (head1 (Jvm.Cond.code (⟨"java/lang/StringLatin1", "toBytes", "(C)[B"⟩ : MethodName) jdk_43_method_46_code 1 (some (.array .byte)) :: ws) ({ frames := 0, cells := 1, slots := 1, locals := 0 } : Room)) (fun args_ U => args_ = #[(.int k)] ∧ Z.Warmed39 U.vm ∧ U.heap = h0) (fun _ _ _ _ _ => True) (fun _ U out_ U' => ∃ val_ loc_, out_ = .returned val_ ∧ (Q_rm_tb Z k h0 n0) val_ U'.heap loc_ ∧ FrameEnd U out_ U' loc_ ({ frames := 0, cells := 1, slots := 1, locals := 0 } : Room).cells ({ frames := 0, cells := 1, slots := 1, locals := 0 } : Room).slots) := by
  refine start (Q := (Q_rm_tb Z k h0 n0)) pn_3 ?_
  intro p e s m below meth c T0 X0 hx hby hml hown hnm hret hlk hZ e0
  replace hown : s.vm.findClass "java/lang/StringLatin1" = some m.cls := hown
  replace hml : c.maxLocals = 1 := hml
  refine goAt (ef_rm_tb m k ) ?_
  have N0 := Fr.nil n0
  show Go p e below T0 (mkF m 0 #[.val (.int k)] []) _
  refine stp (fun _ => XS.iconst X0.here hx rfl (hb hby d11_0)) ?_
  show Go p e below T0 (mkF m 1 #[.val (.int k)] [(.int (1 : Int32))]) _
  obtain ⟨T1, h1, k1, X1, e1, E1, A1, B1, st1⟩ := newPE X0 hx hZ (hw _ (List.mem_of_getElem? (i := 24) rfl)) e0 (g := (mkF m 1 #[.val (.int k)] [(.int (1 : Int32))])) rfl (hb hby d11_1) rfl (by decide) (cap := 1) (by decide) (by decide) (by decide) (by decide) (ad := "[B") (by decide)
  obtain ⟨b1, g1⟩ : ∃ z, z = h0.size := ⟨_, rfl⟩
  rw [← g1] at A1 B1 st1
  have sz_b1 : h0.size ≤ b1 := Nat.le_trans (Keep.refl h0 []).1 (Nat.le_of_eq g1.symm)
  have ge_b1 : n0 ≤ b1 := Nat.le_trans (old_le O0) (Nat.le_of_eq g1.symm)
  have K1 : Keep h0 h1 [] := (Keep.refl h0 []).ext E1
  have O1 := O0.ext E1
  have V1 : Arv Z h1 b1 k1 .byte (1 : Int32) [(.int (0 : Int32))] (.int (0 : Int32)) := (Arv.new A1 (by decide)).pad (pad_rep [] (.int (0 : Int32)) 1)
  refine stp st1 ?_
  show Go p e below T1 (mkF m 3 #[.val (.int k)] [(.ref b1)]) _
  refine stp (fun _ => XS.dup X1.here hx rfl (hb hby d11_3) rfl rfl) ?_
  show Go p e below T1 (mkF m 4 #[.val (.int k)] [(.ref b1), (.ref b1)]) _
  refine stp (fun _ => XS.iconst X1.here hx rfl (hb hby d11_4)) ?_
  show Go p e below T1 (mkF m 5 #[.val (.int k)] [(.int (0 : Int32)), (.ref b1), (.ref b1)]) _
  refine stp (fun _ => XS.iloadN X1.here hx rfl (hb hby d11_5) rfl) ?_
  show Go p e below T1 (mkF m 6 #[.val (.int k)] [(.int k), (.int (0 : Int32)), (.ref b1), (.ref b1)]) _
  refine stp (fun _ => XS.i2b X1.here hx rfl (hb hby d11_6) rfl) ?_
  show Go p e below T1 (mkF m 7 #[.val (.int k)] [(.int (k.toInt8.toInt32)), (.int (0 : Int32)), (.ref b1), (.ref b1)]) _
  obtain ⟨cl2, Ar2, q2, S2, M2, H2, G2⟩ := (id V1)
  have in2 : ¬ ((0 : Int32) < 0 ∨ cl2.slots.size ≤ ((0 : Int32)).toNatClampNeg) := inb_of S2 ⟨by decide, by decide⟩
  obtain ⟨T2, h2, X2, e2, W2, st2⟩ := stB X1 hx hZ e1 Ar2 (j := (0 : Int32)) in2 (g := (mkF m 7 #[.val (.int k)] [(.int (k.toInt8.toInt32)), (.int (0 : Int32)), (.ref b1), (.ref b1)])) rfl rfl (hb hby d11_7)
  have V2 : Arv Z h2 b1 k1 .byte (1 : Int32) [(.int (k.toInt8.toInt32))] (.int (0 : Int32)) := Arv.set Ar2 q2 S2 M2 H2 G2 (ow_fits_byte byte_twice) (ow_wr_byte byte_twice W2) 0 rfl (Nat.le_of_ble_eq_true rfl)
  have f3 := B1.wr W2
  have K2 : Keep h0 h2 [] := K1.wr W2 (Or.inr sz_b1)
  have O2 := O1.wr W2 ge_b1
  have N2 := Fr.snoc X2 N0 ge_b1
  refine stp st2 ?_
  show Go p e below T2 (mkF m 8 #[.val (.int k)] [(.ref b1)]) _
  refine outA X2 hx hret rfl rfl (hb hby d11_8) hlk (by decide) (by decide) ?_
  rw [e2]
  exact ⟨b1, k1, rfl, N2, K2, ⟨ge_b1, sz_b1⟩, f3, V2⟩
theorem d12_0 : decode jdk_42_method_151_code 0 = .ok (.aload_n 0, 1) := by decide +kernel
theorem d12_1 : decode jdk_42_method_151_code 1 = .ok (.invokespecial 1, 3) := by decide +kernel
theorem d12_4 : decode jdk_42_method_151_code 4 = .ok (.aload_n 0, 1) := by decide +kernel
theorem d12_5 : decode jdk_42_method_151_code 5 = .ok (.aload_n 1, 1) := by decide +kernel
theorem d12_6 : decode jdk_42_method_151_code 6 = .ok (.putfield 9, 3) := by decide +kernel
theorem d12_9 : decode jdk_42_method_151_code 9 = .ok (.aload_n 0, 1) := by decide +kernel
theorem d12_10 : decode jdk_42_method_151_code 10 = .ok (.iload_n 2, 1) := by decide +kernel
theorem d12_11 : decode jdk_42_method_151_code 11 = .ok (.putfield 15, 3) := by decide +kernel
theorem d12_14 : decode jdk_42_method_151_code 14 = .ok (.return_, 1) := by decide +kernel
theorem ef_rm_sbb (m : MethodId) (t : Addr) (vb : Addr)  : entryFrame m #[(.ref t), (.ref vb), (.int (0 : Int32))] 3 = mkF m 0 #[.val (.ref t), .val (.ref vb), .val (.int (0 : Int32))] [] := by first | (simp [entryFrame, mkF, argsToLocals, Value.category]; done) | rfl
def Q_rm_sbb (Z : State) (t : Addr) (vb : Addr)  (h0 : Heap) (n0 : Nat) (v : Option Value) (h : Heap) (L : List Loc) : Prop := v = none ∧ Fr n0 L ∧ Keep h0 h [t] ∧ Exa Z h t "java/lang/String" ∧ Fld Z h t "java/lang/String" "value" "[B" (.ref vb) ∧ Fld Z h t "java/lang/String" "coder" "B" (.int (0 : Int32))
theorem pn_4_ : plainName "java/lang/String" = true := by first | (simp [plainName, overriddenIn]; done) | decide +kernel
theorem pn_4 : plainFor (⟨"java/lang/String", "<init>", "([BB)V"⟩ : MethodName) = true := plainFor_of_name pn_4_
set_option maxRecDepth 65536 in
set_option maxHeartbeats 40000000 in
theorem rm_sbb (l : Launch) (Z : State) (a0 : Array Value) (hw : ∀ d ∈ tables_1, d.before a0 Z = true) (ws : List Jvm.Cond) (t : Addr) (vb : Addr)  (h0 : Heap) (n0 : Nat) (O0 : Old Z n0 h0) (E_t : Exa Z h0 t "java/lang/String") (F_t_value : Fld Z h0 t "java/lang/String" "value" "[B" .null) (F_t_coder : Fld Z h0 t "java/lang/String" "coder" "B" (.int (0 : Int32))) (ge_t : n0 ≤ t) :
    MetFree l (⟨"java/lang/String", "<init>", "([BB)V"⟩ : MethodName) (head1 (Jvm.Cond.code (⟨"java/lang/String", "<init>", "([BB)V"⟩ : MethodName) jdk_42_method_151_code 3 none :: ws) ({ frames := 1, cells := 0, slots := 0, locals := 12 } : Room)) (fun args_ U => args_ = #[(.ref t), (.ref vb), (.int (0 : Int32))] ∧ Z.Warmed39 U.vm ∧ U.heap = h0) (fun _ _ _ _ _ => True) (fun _ U out_ U' => ∃ val_ loc_, out_ = .returned val_ ∧ (Q_rm_sbb Z t vb h0 n0) val_ U'.heap loc_ ∧ FrameEnd U out_ U' loc_ ({ frames := 1, cells := 0, slots := 0, locals := 12 } : Room).cells ({ frames := 1, cells := 0, slots := 0, locals := 12 } : Room).slots) := by
  refine start (Q := (Q_rm_sbb Z t vb h0 n0)) pn_4 ?_
  intro p e s m below meth c T0 X0 hx hby hml hown hnm hret hlk hZ e0
  replace hown : s.vm.findClass "java/lang/String" = some m.cls := hown
  replace hml : c.maxLocals = 3 := hml
  refine goAt (ef_rm_sbb m t vb ) ?_
  have N0 := Fr.nil n0
  show Go p e below T0 (mkF m 0 #[.val (.ref t), .val (.ref vb), .val (.int (0 : Int32))] []) _
  refine stp (fun _ => XS.aloadN X0.here hx rfl (hb hby d12_0) rfl rfl) ?_
  show Go p e below T0 (mkF m 1 #[.val (.ref t), .val (.ref vb), .val (.int (0 : Int32))] [(.ref t)]) _
  obtain ⟨T1, X1, e1, st1⟩ := initO X0 hx hZ hown (hw _ (List.mem_of_getElem? (i := 16) rfl)) (hw _ (List.mem_of_getElem? (i := 17) rfl)) (hw _ (List.mem_of_getElem? (i := 18) rfl)) e0 (g := (mkF m 1 #[.val (.ref t), .val (.ref vb), .val (.int (0 : Int32))] [(.ref t)])) rfl (by rw [hml]; rfl) rfl (hb hby d12_1) (by decide) (W := 0) (by show 2 * 0 + _ ≤ _; exact Nat.le_of_eq rfl) (by decide)
  refine stp st1 ?_
  show Go p e below T1 (mkF m 4 #[.val (.ref t), .val (.ref vb), .val (.int (0 : Int32))] []) _
  refine stp (fun _ => XS.aloadN X1.here hx rfl (hb hby d12_4) rfl rfl) ?_
  show Go p e below T1 (mkF m 5 #[.val (.ref t), .val (.ref vb), .val (.int (0 : Int32))] [(.ref t)]) _
  refine stp (fun _ => XS.aloadN X1.here hx rfl (hb hby d12_5) rfl rfl) ?_
  show Go p e below T1 (mkF m 6 #[.val (.ref t), .val (.ref vb), .val (.int (0 : Int32))] [(.ref vb), (.ref t)]) _
  obtain ⟨T2, h2, X2, e2, W2, st2⟩ := putF X1 hx hZ hown (host := "") (Or.inl (hw _ (List.mem_of_getElem? (i := 33) rfl))) Via.refl e1 F_t_value E_t (Or.inr ⟨(hw _ (List.mem_of_getElem? (i := 34) rfl)), rfl, hnm⟩) (hw _ (List.mem_of_getElem? (i := 7) rfl)) (ty := (.array .byte)) (by decide) rfl rfl (g := (mkF m 6 #[.val (.ref t), .val (.ref vb), .val (.int (0 : Int32))] [(.ref vb), (.ref t)])) rfl rfl (hb hby d12_6)
  have Fw2 := F_t_value.same W2
  have f3 := E_t.wr W2
  have f5 := F_t_coder.other W2 (Or.inr (slot_ne (Or.inr (hw _ (List.mem_of_getElem? (i := 32) rfl))) (Or.inr (hw _ (List.mem_of_getElem? (i := 34) rfl))) (by decide) (t := .byte) (t' := (.array .byte)) (by decide) (by decide)))
  have K2 : Keep h0 h2 [t] := (Keep.refl h0 [t]).wr W2 (Or.inl (List.mem_of_getElem? (i := 0) rfl))
  have O2 := O0.wr W2 ge_t
  have N2 := Fr.snoc X2 N0 ge_t
  refine stp st2 ?_
  show Go p e below T2 (mkF m 9 #[.val (.ref t), .val (.ref vb), .val (.int (0 : Int32))] []) _
  refine stp (fun _ => XS.aloadN X2.here hx rfl (hb hby d12_9) rfl rfl) ?_
  show Go p e below T2 (mkF m 10 #[.val (.ref t), .val (.ref vb), .val (.int (0 : Int32))] [(.ref t)]) _
  refine stp (fun _ => XS.iloadN X2.here hx rfl (hb hby d12_10) rfl) ?_
  show Go p e below T2 (mkF m 11 #[.val (.ref t), .val (.ref vb), .val (.int (0 : Int32))] [(.int (0 : Int32)), (.ref t)]) _
  obtain ⟨T6, h6, X6, e6, W6, st6⟩ := putFN X2 hx hZ hown (hw _ (List.mem_of_getElem? (i := 31) rfl)) Via.refl e2 f5 f3 (Or.inr ⟨(hw _ (List.mem_of_getElem? (i := 32) rfl)), rfl, hnm⟩) (hw _ (List.mem_of_getElem? (i := 7) rfl)) (ty := .byte) (v' := (.int (0 : Int32))) (by decide) rfl rfl (g := (mkF m 11 #[.val (.ref t), .val (.ref vb), .val (.int (0 : Int32))] [(.int (0 : Int32)), (.ref t)])) rfl rfl (hb hby d12_11)
  have Fw6 := f5.same W6
  have f7 := f3.wr W6
  have f8 := Fw2.other W6 (Or.inr (slot_ne (Or.inr (hw _ (List.mem_of_getElem? (i := 34) rfl))) (Or.inr (hw _ (List.mem_of_getElem? (i := 32) rfl))) (by decide) (t := (.array .byte)) (t' := .byte) (by decide) (by decide)))
  have K6 : Keep h0 h6 [t] := K2.wr W6 (Or.inl (List.mem_of_getElem? (i := 0) rfl))
  have O6 := O2.wr W6 ge_t
  have N6 := Fr.snoc X6 N2 ge_t
  refine stp st6 ?_
  show Go p e below T6 (mkF m 14 #[.val (.ref t), .val (.ref vb), .val (.int (0 : Int32))] []) _
  refine outV X6 hx hret (hb hby d12_14) hlk (by decide) (by decide) ?_
  rw [e6]
  exact ⟨rfl, N6, K6, f7, f8, Fw6⟩
theorem d9_0 : decode jdk_42_method_139_code 0 = .ok (.getstatic 38, 3) := by decide +kernel
theorem d9_3 : decode jdk_42_method_139_code 3 = .ok (.ifCond .eq 23, 3) := by decide +kernel
theorem d9_6 : decode jdk_42_method_139_code 6 = .ok (.iload_n 0, 1) := by decide +kernel
theorem d9_7 : decode jdk_42_method_139_code 7 = .ok (.invokestatic 1015, 3) := by decide +kernel
theorem pd_1 : parseMethodDescriptor "(C)Z" = some ⟨[.char], some .boolean⟩ := by decide +kernel
theorem d9_10 : decode jdk_42_method_139_code 10 = .ok (.ifCond .eq 16, 3) := by decide +kernel
theorem d9_13 : decode jdk_42_method_139_code 13 = .ok (.new 10, 3) := by decide +kernel
theorem d9_16 : decode jdk_42_method_139_code 16 = .ok (.dup, 1) := by decide +kernel
theorem d9_17 : decode jdk_42_method_139_code 17 = .ok (.iload_n 0, 1) := by decide +kernel
theorem d9_18 : decode jdk_42_method_139_code 18 = .ok (.invokestatic 1018, 3) := by decide +kernel
theorem pd_2 : parseMethodDescriptor "(C)[B" = some ⟨[.char], some (.array .byte)⟩ := by decide +kernel
theorem d9_21 : decode jdk_42_method_139_code 21 = .ok (.iconst 0, 1) := by decide +kernel
theorem d9_22 : decode jdk_42_method_139_code 22 = .ok (.invokespecial 209, 3) := by decide +kernel
theorem pd_3 : parseMethodDescriptor "([BB)V" = some ⟨[(.array .byte), .byte], none⟩ := by decide +kernel
theorem d9_25 : decode jdk_42_method_139_code 25 = .ok (.areturn, 1) := by decide +kernel
theorem ef_rm_vo (m : MethodId) (k : Int32)  : entryFrame m #[(.int k)] 1 = mkF m 0 #[.val (.int k)] [] := by first | (simp [entryFrame, mkF, argsToLocals, Value.category]; done) | rfl
def Q_rm_vo (Z : State) (k : Int32) (cz : Int32) (h0 : Heap) (n0 : Nat) (v : Option Value) (h : Heap) (L : List Loc) : Prop := ∃ (r : Addr), v = some (.ref r) ∧ Fr n0 L ∧ Keep h0 h [] ∧ (n0 ≤ r ∧ h0.size ≤ r) ∧ StrIs Z h r [k]
theorem pn_5_ : plainName "java/lang/String" = true := by first | (simp [plainName, overriddenIn]; done) | decide +kernel
theorem pn_5 : plainFor (⟨"java/lang/String", "valueOf", "(C)Ljava/lang/String;"⟩ : MethodName) = true := plainFor_of_name pn_5_
set_option maxRecDepth 65536 in
set_option maxHeartbeats 40000000 in
theorem rm_vo (l : Launch) (Z : State) (a0 : Array Value) (hw : ∀ d ∈ tables_1, d.before a0 Z = true) (ws : List Jvm.Cond) (k : Int32) (cz : Int32) (h0 : Heap) (n0 : Nat) (O0 : Old Z n0 h0) (S_COMPACT_STRINGS : Sta Z Z.heap "java/lang/String" "COMPACT_STRINGS" "Z" (.int cz)) (hcz : ¬ cz = (0 : Int32)) (hk : ¬ k < 0 ∧ ¬ (255 : Int32) < k) :
    MetFree l (⟨"java/lang/String", "valueOf", "(C)Ljava/lang/String;"⟩ : MethodName) (head1 (Jvm.Cond.code (⟨"java/lang/String", "valueOf", "(C)Ljava/lang/String;"⟩ : MethodName) jdk_42_method_139_code 1 (some (.object "java/lang/String")) :: ws) ({ frames := 2, cells := 2, slots := 5, locals := 27 } : Room)) (fun args_ U => args_ = #[(.int k)] ∧ Z.Warmed39 U.vm ∧ U.heap = h0) (fun _ _ _ _ _ => True) (fun _ U out_ U' => ∃ val_ loc_, out_ = .returned val_ ∧ (Q_rm_vo Z k cz h0 n0) val_ U'.heap loc_ ∧ FrameEnd U out_ U' loc_ ({ frames := 2, cells := 2, slots := 5, locals := 27 } : Room).cells ({ frames := 2, cells := 2, slots := 5, locals := 27 } : Room).slots) := by
  refine start (Q := (Q_rm_vo Z k cz h0 n0)) pn_5 ?_
  intro p e s m below meth c T0 X0 hx hby hml hown hnm hret hlk hZ e0
  replace hown : s.vm.findClass "java/lang/String" = some m.cls := hown
  replace hml : c.maxLocals = 1 := hml
  refine goAt (ef_rm_vo m k ) ?_
  have N0 := Fr.nil n0
  show Go p e below T0 (mkF m 0 #[.val (.int k)] []) _
  obtain ⟨T1, X1, e1, st1⟩ := getS2 X0 hx hZ hown (host := "") (Or.inl (hw _ (List.mem_of_getElem? (i := 19) rfl))) Via.refl e0 (S_COMPACT_STRINGS.ext O0.2) (g := (mkF m 0 #[.val (.int k)] [])) rfl (hb hby d9_0)
  refine stp st1 ?_
  show Go p e below T1 (mkF m 3 #[.val (.int k)] [(.int cz)]) _
  refine stp (fun _ => XS.ifNo X1.here hx rfl (hb hby d9_3) rfl (XT.i0_eq_f hcz)) ?_
  show Go p e below T1 (mkF m 6 #[.val (.int k)] []) _
  refine stp (fun _ => XS.iloadN X1.here hx rfl (hb hby d9_6) rfl) ?_
  show Go p e below T1 (mkF m 7 #[.val (.int k)] [(.int k)]) _
  obtain ⟨_, _, ⟨T2, L2, k2, n2⟩, -, X2, ⟨Lc2, hQ2, l2, y2, z2⟩, st2⟩ := Jvm.LawKit.callS X1 hx (y := (⟨"java/lang/StringLatin1", "canEncode", "(C)Z"⟩ : MethodName)) hown (mvT hZ (hw _ (List.mem_of_getElem? (i := 45) rfl))) (mvT hZ (hw _ (List.mem_of_getElem? (i := 46) rfl))) (mvT hZ (hw _ (List.mem_of_getElem? (i := 47) rfl))) (mvT hZ (hw _ (List.mem_of_getElem? (i := 48) rfl))) (by decide) (backOf (W := 0) (rm_can l Z a0 hw [] k  h0 n0 O0 hk.2) hZ (hw _ (List.mem_of_getElem? (i := 48) rfl)) (hw _ (List.mem_of_getElem? (i := 47) rfl)) (by decide) (by decide)) (g := (mkF m 7 #[.val (.int k)] [(.int k)])) rfl (by rw [hml]; rfl) (argsL := [(.int k)]) (rest := []) (lenOf pd_1 rfl) rfl (by show 2 * 0 + _ ≤ _; exact Nat.le_of_eq rfl) (hb hby d9_7) (fun _ _ => ⟨rfl, e1, (by decide : 0 + 0 ≤ _), (by decide : 0 + 0 ≤ _)⟩)
  dsimp only [Pt.U, Pt.locs, Pt.cells, Pt.slots] at X2 l2 y2 z2 st2 hQ2
  subst y2 z2
  obtain ⟨rfl, N2q, e2⟩ := hQ2
  have N2 : Fr n0 L2 := by rw [l2]; exact Fr.app N0 N2q
  refine stp st2 ?_
  show Go p e below T2 (mkF m 10 #[.val (.int k)] [(.int (1 : Int32))]) _
  refine stp (fun _ => XS.ifNo X2.here hx rfl (hb hby d9_10) rfl (by decide)) ?_
  show Go p e below T2 (mkF m 13 #[.val (.int k)] []) _
  obtain ⟨T3, h3, X3, e3, E3, A3, D3, -, st3⟩ := newO X2 hx hZ hown (hw _ (List.mem_of_getElem? (i := 49) rfl)) (hw _ (List.mem_of_getElem? (i := 7) rfl)) (hw _ (List.mem_of_getElem? (i := 8) rfl)) e2 (g := (mkF m 13 #[.val (.int k)] [])) rfl (hb hby d9_13) (by decide) (by decide)
  obtain ⟨b3, g3⟩ : ∃ z, z = h0.size := ⟨_, rfl⟩
  rw [← g3] at A3 D3 st3
  have sz_b3 : h0.size ≤ b3 := Nat.le_trans (Keep.refl h0 []).1 (Nat.le_of_eq g3.symm)
  have ge_b3 : n0 ≤ b3 := Nat.le_trans (old_le O0) (Nat.le_of_eq g3.symm)
  have K3 : Keep h0 h3 [] := (Keep.refl h0 []).ext E3
  have O3 := O0.ext E3
  have F4 : Fld Z h3 b3 "java/lang/String" "coder" "B" (.int (0 : Int32)) := D3 (Or.inr (hw _ (List.mem_of_getElem? (i := 32) rfl))) (ty := .byte) (by decide)
  have F5 : Fld Z h3 b3 "java/lang/String" "value" "[B" .null := D3 (Or.inr (hw _ (List.mem_of_getElem? (i := 34) rfl))) (ty := (.array .byte)) (by decide)
  refine stp st3 ?_
  show Go p e below T3 (mkF m 16 #[.val (.int k)] [(.ref b3)]) _
  refine stp (fun _ => XS.dup X3.here hx rfl (hb hby d9_16) rfl rfl) ?_
  show Go p e below T3 (mkF m 17 #[.val (.int k)] [(.ref b3), (.ref b3)]) _
  refine stp (fun _ => XS.iloadN X3.here hx rfl (hb hby d9_17) rfl) ?_
  show Go p e below T3 (mkF m 18 #[.val (.int k)] [(.int k), (.ref b3), (.ref b3)]) _
  obtain ⟨_, _, ⟨T6, L6, k6, n6⟩, -, X6, ⟨Lc6, hQ6, l6, y6, z6⟩, st6⟩ := Jvm.LawKit.callS X3 hx (y := (⟨"java/lang/StringLatin1", "toBytes", "(C)[B"⟩ : MethodName)) hown (mvT hZ (hw _ (List.mem_of_getElem? (i := 50) rfl))) (mvT hZ (hw _ (List.mem_of_getElem? (i := 51) rfl))) (mvT hZ (hw _ (List.mem_of_getElem? (i := 47) rfl))) (mvT hZ (hw _ (List.mem_of_getElem? (i := 52) rfl))) (by decide) (backOf (W := 2) (rm_tb l Z a0 hw [] k  h3 n0 O3 ) hZ (hw _ (List.mem_of_getElem? (i := 52) rfl)) (hw _ (List.mem_of_getElem? (i := 47) rfl)) (by decide) (by decide)) (g := (mkF m 18 #[.val (.int k)] [(.int k), (.ref b3), (.ref b3)])) rfl (by rw [hml]; rfl) (argsL := [(.int k)]) (rest := [(.ref b3), (.ref b3)]) (lenOf pd_2 rfl) rfl (by show 2 * 0 + _ ≤ _; exact Nat.le_of_eq rfl) (hb hby d9_18) (fun _ _ => ⟨rfl, e3, (by decide : 1 + 1 ≤ _), (by decide : 4 + 1 ≤ _)⟩)
  dsimp only [Pt.U, Pt.locs, Pt.cells, Pt.slots] at X6 l6 y6 z6 st6 hQ6
  subst y6 z6
  obtain ⟨b6, k_b6, rfl, N6q, K6q, ⟨ge_b6, sz6_b6⟩, r6_0, r6_1⟩ := hQ6
  have N6 : Fr n0 L6 := by rw [l6]; exact Fr.app N2 N6q
  have ne7 : b3 ≠ b6 := Nat.ne_of_lt (Nat.lt_of_lt_of_le A3.lt sz6_b6)
  have f8 := A3.keep K6q
  have f9 := F4.keep K6q nin0
  have f10 := F5.keep K6q nin0
  have sz_b6 : h0.size ≤ b6 := Nat.le_trans K3.1 sz6_b6
  have K6 : Keep h0 T6.heap [] := K3.trans K6q all0
  have O6 := O3.keep K6q all0
  refine stp st6 ?_
  show Go p e below T6 (mkF m 21 #[.val (.int k)] [(.ref b6), (.ref b3), (.ref b3)]) _
  refine stp (fun _ => XS.iconst X6.here hx rfl (hb hby d9_21)) ?_
  show Go p e below T6 (mkF m 22 #[.val (.int k)] [(.int (0 : Int32)), (.ref b6), (.ref b3), (.ref b3)]) _
  obtain ⟨_, _, ⟨T11, L11, k11, n11⟩, -, X11, ⟨Lc11, hQ11, l11, y11, z11⟩, st11⟩ := X6.specialBack hx (y := (⟨"java/lang/String", "<init>", "([BB)V"⟩ : MethodName)) rfl hown (mvT hZ (hw _ (List.mem_of_getElem? (i := 53) rfl))) (mvT hZ (hw _ (List.mem_of_getElem? (i := 54) rfl))) (mvT hZ (hw _ (List.mem_of_getElem? (i := 55) rfl))) (by decide) (backOf (W := 1) (rm_sbb l Z a0 hw [] b3 b6  T6.heap n0 O6 f8 f10 f9 ge_b3) hZ (hw _ (List.mem_of_getElem? (i := 55) rfl)) (hw _ (List.mem_of_getElem? (i := 8) rfl)) (by decide) (by decide)) (g := (mkF m 22 #[.val (.int k)] [(.int (0 : Int32)), (.ref b6), (.ref b3), (.ref b3)])) rfl (by rw [hml]; rfl) (Steps.refl _) (a := b3) (argsL := [(.ref b6), (.int (0 : Int32))]) (rest := [(.ref b3)]) (lenOf pd_3 rfl) rfl (by show 2 * 0 + _ ≤ _; exact Nat.le_of_eq rfl) (hb hby d9_22) (fun _ _ => ⟨rfl, rfl, (by decide : 2 + 0 ≤ _), (by decide : 5 + 0 ≤ _)⟩)
  dsimp only [Pt.U, Pt.locs, Pt.cells, Pt.slots] at X11 l11 y11 z11 st11 hQ11
  subst y11 z11
  obtain ⟨rfl, N11q, K11q, r11_0, r11_1, r11_2⟩ := hQ11
  have N11 : Fr n0 L11 := by rw [l11]; exact Fr.app N6 N11q
  have f12 := f8.keep K11q
  have f13 := r6_0.keep K11q
  have f14 := r6_1.keep K11q (ninS (Ne.symm ne7) nin0)
  have K11 : Keep h0 T11.heap [] := K6.trans K11q (allS (Or.inr sz_b3) all0)
  have O11 := O6.keep K11q (allS ge_b3 all0)
  refine stt st11 ?_
  show Go p e below T11 (mkF m 25 #[.val (.int k)] [(.ref b3)]) _
  have Q15 : StrIs Z T11.heap b3 [k] := StrIs.of r11_0 r11_1 r11_2 f14 rfl rfl (own_one255 hk) (Nat.le_of_ble_eq_true rfl)
  refine outA X11 hx hret rfl rfl (hb hby d9_25) hlk (by decide) (by decide) ?_
  exact ⟨b3, rfl, N11, K11, ⟨ge_b3, sz_b3⟩, Q15⟩
theorem d13_0 : decode method_2_code 0 = .ok (.iload_n 2, 1) := by decide +kernel
theorem d13_1 : decode method_2_code 1 = .ok (.iload_n 1, 1) := by decide +kernel
theorem d13_2 : decode method_2_code 2 = .ok (.if_icmp .ge 9, 3) := by decide +kernel
theorem d13_5 : decode method_2_code 5 = .ok (.aload_n 0, 1) := by decide +kernel
theorem d13_6 : decode method_2_code 6 = .ok (.iload_n 2, 1) := by decide +kernel
theorem d13_7 : decode method_2_code 7 = .ok (.caload, 1) := by decide +kernel
theorem d13_8 : decode method_2_code 8 = .ok (.goto 8, 3) := by decide +kernel
theorem d13_16 : decode method_2_code 16 = .ok (.ireturn, 1) := by decide +kernel
theorem d13_11 : decode method_2_code 11 = .ok (.aload_n 0, 1) := by decide +kernel
theorem d13_12 : decode method_2_code 12 = .ok (.iload_n 2, 1) := by decide +kernel
theorem d13_13 : decode method_2_code 13 = .ok (.iconst 1, 1) := by decide +kernel
theorem d13_14 : decode method_2_code 14 = .ok (.iadd, 1) := by decide +kernel
theorem d13_15 : decode method_2_code 15 = .ok (.caload, 1) := by decide +kernel
theorem ef_rm_del (m : MethodId) (ba : Addr) (pz : Int32) (i : Int32)  : entryFrame m #[(.ref ba), (.int pz), (.int i)] 3 = mkF m 0 #[.val (.ref ba), .val (.int pz), .val (.int i)] [] := by first | (simp [entryFrame, mkF, argsToLocals, Value.category]; done) | rfl
def Q_rm_del (Z : State) (ba : Addr) (pz : Int32) (i : Int32) (k_ba : ClassId) (h0 : Heap) (n0 : Nat) (v : Option Value) (h : Heap) (L : List Loc) : Prop := v = some (.int (own_del pz i)) ∧ Fr n0 L ∧ h = h0
theorem pn_6_ : plainName "com/example/fetch_to_rank/fetchtorank/crawl/OutcomeOfPinLaw" = true := by first | (simp [plainName, overriddenIn]; done) | decide +kernel
theorem pn_6 : plainFor (⟨"com/example/fetch_to_rank/fetchtorank/crawl/OutcomeOfPinLaw", "del", "([CII)C"⟩ : MethodName) = true := plainFor_of_name pn_6_
set_option maxRecDepth 65536 in
set_option maxHeartbeats 40000000 in
theorem rm_del (l : Launch) (Z : State) (a0 : Array Value) (hw : ∀ d ∈ tables_1, d.before a0 Z = true) (ws : List Jvm.Cond) (ba : Addr) (pz : Int32) (i : Int32) (k_ba : ClassId) (h0 : Heap) (n0 : Nat) (O0 : Old Z n0 h0) (V_ba : Arv Z h0 ba k_ba .char (9 : Int32) [(.int (116 : Int32)), (.int (101 : Int32)), (.int (120 : Int32)), (.int (116 : Int32)), (.int (47 : Int32)), (.int (104 : Int32)), (.int (116 : Int32)), (.int (109 : Int32)), (.int (108 : Int32))] (.int (0 : Int32))) (hi : ¬ i < 0 ∧ i < 8) :
    MetFree l (⟨"com/example/fetch_to_rank/fetchtorank/crawl/OutcomeOfPinLaw", "del", "([CII)C"⟩ : MethodName) (head1 (Jvm.Cond.code (⟨"com/example/fetch_to_rank/fetchtorank/crawl/OutcomeOfPinLaw", "del", "([CII)C"⟩ : MethodName) method_2_code 3 (some .char) :: ws) ({ frames := 0, cells := 0, slots := 0, locals := 0 } : Room)) (fun args_ U => args_ = #[(.ref ba), (.int pz), (.int i)] ∧ Z.Warmed39 U.vm ∧ U.heap = h0) (fun _ _ _ _ _ => True) (fun _ U out_ U' => ∃ val_ loc_, out_ = .returned val_ ∧ (Q_rm_del Z ba pz i k_ba h0 n0) val_ U'.heap loc_ ∧ FrameEnd U out_ U' loc_ ({ frames := 0, cells := 0, slots := 0, locals := 0 } : Room).cells ({ frames := 0, cells := 0, slots := 0, locals := 0 } : Room).slots) := by
  refine start (Q := (Q_rm_del Z ba pz i k_ba h0 n0)) pn_6 ?_
  intro p e s m below meth c T0 X0 hx hby hml hown hnm hret hlk hZ e0
  replace hown : s.vm.findClass "com/example/fetch_to_rank/fetchtorank/crawl/OutcomeOfPinLaw" = some m.cls := hown
  replace hml : c.maxLocals = 3 := hml
  refine goAt (ef_rm_del m ba pz i ) ?_
  have N0 := Fr.nil n0
  show Go p e below T0 (mkF m 0 #[.val (.ref ba), .val (.int pz), .val (.int i)] []) _
  refine stp (fun _ => XS.iloadN X0.here hx rfl (hb hby d13_0) rfl) ?_
  show Go p e below T0 (mkF m 1 #[.val (.ref ba), .val (.int pz), .val (.int i)] [(.int i)]) _
  refine stp (fun _ => XS.iloadN X0.here hx rfl (hb hby d13_1) rfl) ?_
  show Go p e below T0 (mkF m 2 #[.val (.ref ba), .val (.int pz), .val (.int i)] [(.int pz), (.int i)]) _
  by_cases q2_1 : i < pz
  · refine stp (fun _ => XS.icmpNo X0.here hx rfl (hb hby d13_2) rfl (XT.ii_ge_f q2_1)) ?_
    show Go p e below T0 (mkF m 5 #[.val (.ref ba), .val (.int pz), .val (.int i)] []) _
    refine stp (fun _ => XS.aloadN X0.here hx rfl (hb hby d13_5) rfl rfl) ?_
    show Go p e below T0 (mkF m 6 #[.val (.ref ba), .val (.int pz), .val (.int i)] [(.ref ba)]) _
    refine stp (fun _ => XS.iloadN X0.here hx rfl (hb hby d13_6) rfl) ?_
    show Go p e below T0 (mkF m 7 #[.val (.ref ba), .val (.int pz), .val (.int i)] [(.int i), (.ref ba)]) _
    obtain ⟨cl2, Ar2, q2, S2, M2, H2, G2⟩ := (id V_ba)
    have in2 : ¬ (i < 0 ∨ cl2.slots.size ≤ (i).toNatClampNeg) := inb_of S2 (own_up hi)
    have at2 : cl2.slots[(i).toNatClampNeg]? = some (.int (own_tb i)) := H2.at in2 (own_at (own_up hi))
    refine stp (fun _ => X0.caload hx (j := i) (v := (.int (own_tb i))) (by rw [e0]; exact Ar2.1) (State.isArrayOf_alike hZ.alike Ar2.2.1) Ar2.2.2 in2 at2 (g := (mkF m 7 #[.val (.ref ba), .val (.int pz), .val (.int i)] [(.int i), (.ref ba)])) rfl rfl (hb hby d13_7) _) ?_
    show Go p e below T0 (mkF m 8 #[.val (.ref ba), .val (.int pz), .val (.int i)] [(.int (own_tb i))]) _
    refine stp (fun _ => XS.goto X0.here hx rfl (pc0 := 8) (pc' := 16) rfl (hb hby d13_8) (by decide) (by decide)) ?_
    show Go p e below T0 (mkF m 16 #[.val (.ref ba), .val (.int pz), .val (.int i)] [(.int (own_tb i))]) _
    refine outN X0 hx (t := .char) hret (by simp) (hb hby d13_16) hlk (by decide) (by decide) ?_
    exact ⟨by rw [own_del, if_pos q2_1, own_nar (own_tb_sm _)], N0, e0⟩
  · refine stp (fun _ => XS.icmpYes X0.here hx rfl (pc0 := 2) (pc' := 11) rfl (hb hby d13_2) rfl (XT.ii_ge_t q2_1) (by decide) (by decide)) ?_
    show Go p e below T0 (mkF m 11 #[.val (.ref ba), .val (.int pz), .val (.int i)] []) _
    refine stp (fun _ => XS.aloadN X0.here hx rfl (hb hby d13_11) rfl rfl) ?_
    show Go p e below T0 (mkF m 12 #[.val (.ref ba), .val (.int pz), .val (.int i)] [(.ref ba)]) _
    refine stp (fun _ => XS.iloadN X0.here hx rfl (hb hby d13_12) rfl) ?_
    show Go p e below T0 (mkF m 13 #[.val (.ref ba), .val (.int pz), .val (.int i)] [(.int i), (.ref ba)]) _
    refine stp (fun _ => XS.iconst X0.here hx rfl (hb hby d13_13)) ?_
    show Go p e below T0 (mkF m 14 #[.val (.ref ba), .val (.int pz), .val (.int i)] [(.int (1 : Int32)), (.int i), (.ref ba)]) _
    refine stp (fun _ => XS.iadd X0.here hx rfl (hb hby d13_14) rfl) ?_
    show Go p e below T0 (mkF m 15 #[.val (.ref ba), .val (.int pz), .val (.int i)] [(.int (i + (1 : Int32))), (.ref ba)]) _
    obtain ⟨cl3, Ar3, q3, S3, M3, H3, G3⟩ := (id V_ba)
    have in3 : ¬ ((i + (1 : Int32)) < 0 ∨ cl3.slots.size ≤ ((i + (1 : Int32))).toNatClampNeg) := inb_of S3 (own_up1 hi)
    have at3 : cl3.slots[((i + (1 : Int32))).toNatClampNeg]? = some (.int (own_tb (i + (1 : Int32)))) := H3.at in3 (own_at (own_up1 hi))
    refine stp (fun _ => X0.caload hx (j := (i + (1 : Int32))) (v := (.int (own_tb (i + (1 : Int32))))) (by rw [e0]; exact Ar3.1) (State.isArrayOf_alike hZ.alike Ar3.2.1) Ar3.2.2 in3 at3 (g := (mkF m 15 #[.val (.ref ba), .val (.int pz), .val (.int i)] [(.int (i + (1 : Int32))), (.ref ba)])) rfl rfl (hb hby d13_15) _) ?_
    show Go p e below T0 (mkF m 16 #[.val (.ref ba), .val (.int pz), .val (.int i)] [(.int (own_tb (i + (1 : Int32))))]) _
    refine outN X0 hx (t := .char) hret (by simp) (hb hby d13_16) hlk (by decide) (by decide) ?_
    exact ⟨by rw [own_del, if_neg q2_1, own_nar (own_tb_sm _)], N0, e0⟩
theorem d1_0 : decode method_3_code 0 = .ok (.iload_n 3, 1) := by decide +kernel
theorem d1_1 : decode method_3_code 1 = .ok (.iload_n 1, 1) := by decide +kernel
theorem d1_2 : decode method_3_code 2 = .ok (.if_icmp .ge 7, 3) := by decide +kernel
theorem d1_5 : decode method_3_code 5 = .ok (.aload_n 0, 1) := by decide +kernel
theorem d1_6 : decode method_3_code 6 = .ok (.iload_n 3, 1) := by decide +kernel
theorem d1_7 : decode method_3_code 7 = .ok (.caload, 1) := by decide +kernel
theorem d1_8 : decode method_3_code 8 = .ok (.ireturn, 1) := by decide +kernel
theorem d1_9 : decode method_3_code 9 = .ok (.iload_n 3, 1) := by decide +kernel
theorem d1_10 : decode method_3_code 10 = .ok (.iload_n 1, 1) := by decide +kernel
theorem d1_11 : decode method_3_code 11 = .ok (.if_icmp .ne 5, 3) := by decide +kernel
theorem d1_14 : decode method_3_code 14 = .ok (.iload_n 2, 1) := by decide +kernel
theorem d1_15 : decode method_3_code 15 = .ok (.ireturn, 1) := by decide +kernel
theorem d1_16 : decode method_3_code 16 = .ok (.aload_n 0, 1) := by decide +kernel
theorem d1_17 : decode method_3_code 17 = .ok (.iload_n 3, 1) := by decide +kernel
theorem d1_18 : decode method_3_code 18 = .ok (.iconst 1, 1) := by decide +kernel
theorem d1_19 : decode method_3_code 19 = .ok (.isub, 1) := by decide +kernel
theorem d1_20 : decode method_3_code 20 = .ok (.caload, 1) := by decide +kernel
theorem d1_21 : decode method_3_code 21 = .ok (.ireturn, 1) := by decide +kernel
theorem ef_rm_ins (m : MethodId) (ba : Addr) (pz : Int32) (ch : Int32) (i : Int32)  : entryFrame m #[(.ref ba), (.int pz), (.int ch), (.int i)] 4 = mkF m 0 #[.val (.ref ba), .val (.int pz), .val (.int ch), .val (.int i)] [] := by first | (simp [entryFrame, mkF, argsToLocals, Value.category]; done) | rfl
def Q_rm_ins (Z : State) (ba : Addr) (pz : Int32) (ch : Int32) (i : Int32) (k_ba : ClassId) (h0 : Heap) (n0 : Nat) (v : Option Value) (h : Heap) (L : List Loc) : Prop := v = some (.int (own_ins pz ch i)) ∧ Fr n0 L ∧ h = h0
theorem pn_7_ : plainName "com/example/fetch_to_rank/fetchtorank/crawl/OutcomeOfPinLaw" = true := by first | (simp [plainName, overriddenIn]; done) | decide +kernel
theorem pn_7 : plainFor (⟨"com/example/fetch_to_rank/fetchtorank/crawl/OutcomeOfPinLaw", "ins", "([CICI)C"⟩ : MethodName) = true := plainFor_of_name pn_7_
set_option maxRecDepth 65536 in
set_option maxHeartbeats 40000000 in
theorem rm_ins (l : Launch) (Z : State) (a0 : Array Value) (hw : ∀ d ∈ tables_1, d.before a0 Z = true) (ws : List Jvm.Cond) (ba : Addr) (pz : Int32) (ch : Int32) (i : Int32) (k_ba : ClassId) (h0 : Heap) (n0 : Nat) (O0 : Old Z n0 h0) (V_ba : Arv Z h0 ba k_ba .char (9 : Int32) [(.int (116 : Int32)), (.int (101 : Int32)), (.int (120 : Int32)), (.int (116 : Int32)), (.int (47 : Int32)), (.int (104 : Int32)), (.int (116 : Int32)), (.int (109 : Int32)), (.int (108 : Int32))] (.int (0 : Int32))) (hi : ¬ i < 0 ∧ i < 10) (hp : ¬ pz < 0 ∧ pz < 10) (hch : ¬ ch < 0 ∧ ¬ (255 : Int32) < ch) :
    MetFree l (⟨"com/example/fetch_to_rank/fetchtorank/crawl/OutcomeOfPinLaw", "ins", "([CICI)C"⟩ : MethodName) (head1 (Jvm.Cond.code (⟨"com/example/fetch_to_rank/fetchtorank/crawl/OutcomeOfPinLaw", "ins", "([CICI)C"⟩ : MethodName) method_3_code 4 (some .char) :: ws) ({ frames := 0, cells := 0, slots := 0, locals := 0 } : Room)) (fun args_ U => args_ = #[(.ref ba), (.int pz), (.int ch), (.int i)] ∧ Z.Warmed39 U.vm ∧ U.heap = h0) (fun _ _ _ _ _ => True) (fun _ U out_ U' => ∃ val_ loc_, out_ = .returned val_ ∧ (Q_rm_ins Z ba pz ch i k_ba h0 n0) val_ U'.heap loc_ ∧ FrameEnd U out_ U' loc_ ({ frames := 0, cells := 0, slots := 0, locals := 0 } : Room).cells ({ frames := 0, cells := 0, slots := 0, locals := 0 } : Room).slots) := by
  refine start (Q := (Q_rm_ins Z ba pz ch i k_ba h0 n0)) pn_7 ?_
  intro p e s m below meth c T0 X0 hx hby hml hown hnm hret hlk hZ e0
  replace hown : s.vm.findClass "com/example/fetch_to_rank/fetchtorank/crawl/OutcomeOfPinLaw" = some m.cls := hown
  replace hml : c.maxLocals = 4 := hml
  refine goAt (ef_rm_ins m ba pz ch i ) ?_
  have N0 := Fr.nil n0
  show Go p e below T0 (mkF m 0 #[.val (.ref ba), .val (.int pz), .val (.int ch), .val (.int i)] []) _
  refine stp (fun _ => XS.iloadN X0.here hx rfl (hb hby d1_0) rfl) ?_
  show Go p e below T0 (mkF m 1 #[.val (.ref ba), .val (.int pz), .val (.int ch), .val (.int i)] [(.int i)]) _
  refine stp (fun _ => XS.iloadN X0.here hx rfl (hb hby d1_1) rfl) ?_
  show Go p e below T0 (mkF m 2 #[.val (.ref ba), .val (.int pz), .val (.int ch), .val (.int i)] [(.int pz), (.int i)]) _
  by_cases q2_1 : i < pz
  · refine stp (fun _ => XS.icmpNo X0.here hx rfl (hb hby d1_2) rfl (XT.ii_ge_f q2_1)) ?_
    show Go p e below T0 (mkF m 5 #[.val (.ref ba), .val (.int pz), .val (.int ch), .val (.int i)] []) _
    refine stp (fun _ => XS.aloadN X0.here hx rfl (hb hby d1_5) rfl rfl) ?_
    show Go p e below T0 (mkF m 6 #[.val (.ref ba), .val (.int pz), .val (.int ch), .val (.int i)] [(.ref ba)]) _
    refine stp (fun _ => XS.iloadN X0.here hx rfl (hb hby d1_6) rfl) ?_
    show Go p e below T0 (mkF m 7 #[.val (.ref ba), .val (.int pz), .val (.int ch), .val (.int i)] [(.int i), (.ref ba)]) _
    obtain ⟨cl2, Ar2, q2, S2, M2, H2, G2⟩ := (id V_ba)
    have in2 : ¬ (i < 0 ∨ cl2.slots.size ≤ (i).toNatClampNeg) := inb_of S2 (own_below hi hp q2_1)
    have at2 : cl2.slots[(i).toNatClampNeg]? = some (.int (own_tb i)) := H2.at in2 (own_at (own_below hi hp q2_1))
    refine stp (fun _ => X0.caload hx (j := i) (v := (.int (own_tb i))) (by rw [e0]; exact Ar2.1) (State.isArrayOf_alike hZ.alike Ar2.2.1) Ar2.2.2 in2 at2 (g := (mkF m 7 #[.val (.ref ba), .val (.int pz), .val (.int ch), .val (.int i)] [(.int i), (.ref ba)])) rfl rfl (hb hby d1_7) _) ?_
    show Go p e below T0 (mkF m 8 #[.val (.ref ba), .val (.int pz), .val (.int ch), .val (.int i)] [(.int (own_tb i))]) _
    refine outN X0 hx (t := .char) hret (by simp) (hb hby d1_8) hlk (by decide) (by decide) ?_
    exact ⟨by rw [own_ins, if_pos q2_1, own_nar (own_tb_sm _)], N0, e0⟩
  · refine stp (fun _ => XS.icmpYes X0.here hx rfl (pc0 := 2) (pc' := 9) rfl (hb hby d1_2) rfl (XT.ii_ge_t q2_1) (by decide) (by decide)) ?_
    show Go p e below T0 (mkF m 9 #[.val (.ref ba), .val (.int pz), .val (.int ch), .val (.int i)] []) _
    refine stp (fun _ => XS.iloadN X0.here hx rfl (hb hby d1_9) rfl) ?_
    show Go p e below T0 (mkF m 10 #[.val (.ref ba), .val (.int pz), .val (.int ch), .val (.int i)] [(.int i)]) _
    refine stp (fun _ => XS.iloadN X0.here hx rfl (hb hby d1_10) rfl) ?_
    show Go p e below T0 (mkF m 11 #[.val (.ref ba), .val (.int pz), .val (.int ch), .val (.int i)] [(.int pz), (.int i)]) _
    by_cases q11_3 : i = pz
    · refine stp (fun _ => XS.icmpNo X0.here hx rfl (hb hby d1_11) rfl (XT.ii_ne_f q11_3)) ?_
      show Go p e below T0 (mkF m 14 #[.val (.ref ba), .val (.int pz), .val (.int ch), .val (.int i)] []) _
      refine stp (fun _ => XS.iloadN X0.here hx rfl (hb hby d1_14) rfl) ?_
      show Go p e below T0 (mkF m 15 #[.val (.ref ba), .val (.int pz), .val (.int ch), .val (.int i)] [(.int ch)]) _
      refine outN X0 hx (t := .char) hret (by simp) (hb hby d1_15) hlk (by decide) (by decide) ?_
      exact ⟨by rw [own_ins, if_neg q2_1, if_pos q11_3, own_nar hch], N0, e0⟩
    · refine stp (fun _ => XS.icmpYes X0.here hx rfl (pc0 := 11) (pc' := 16) rfl (hb hby d1_11) rfl (XT.ii_ne_t q11_3) (by decide) (by decide)) ?_
      show Go p e below T0 (mkF m 16 #[.val (.ref ba), .val (.int pz), .val (.int ch), .val (.int i)] []) _
      refine stp (fun _ => XS.aloadN X0.here hx rfl (hb hby d1_16) rfl rfl) ?_
      show Go p e below T0 (mkF m 17 #[.val (.ref ba), .val (.int pz), .val (.int ch), .val (.int i)] [(.ref ba)]) _
      refine stp (fun _ => XS.iloadN X0.here hx rfl (hb hby d1_17) rfl) ?_
      show Go p e below T0 (mkF m 18 #[.val (.ref ba), .val (.int pz), .val (.int ch), .val (.int i)] [(.int i), (.ref ba)]) _
      refine stp (fun _ => XS.iconst X0.here hx rfl (hb hby d1_18)) ?_
      show Go p e below T0 (mkF m 19 #[.val (.ref ba), .val (.int pz), .val (.int ch), .val (.int i)] [(.int (1 : Int32)), (.int i), (.ref ba)]) _
      refine stp (fun _ => XS.isub X0.here hx rfl (hb hby d1_19) rfl) ?_
      show Go p e below T0 (mkF m 20 #[.val (.ref ba), .val (.int pz), .val (.int ch), .val (.int i)] [(.int (i - (1 : Int32))), (.ref ba)]) _
      obtain ⟨cl4, Ar4, q4, S4, M4, H4, G4⟩ := (id V_ba)
      have in4 : ¬ ((i - (1 : Int32)) < 0 ∨ cl4.slots.size ≤ ((i - (1 : Int32))).toNatClampNeg) := inb_of S4 (own_above hi hp q2_1 q11_3)
      have at4 : cl4.slots[((i - (1 : Int32))).toNatClampNeg]? = some (.int (own_tb (i - (1 : Int32)))) := H4.at in4 (own_at (own_above hi hp q2_1 q11_3))
      refine stp (fun _ => X0.caload hx (j := (i - (1 : Int32))) (v := (.int (own_tb (i - (1 : Int32))))) (by rw [e0]; exact Ar4.1) (State.isArrayOf_alike hZ.alike Ar4.2.1) Ar4.2.2 in4 at4 (g := (mkF m 20 #[.val (.ref ba), .val (.int pz), .val (.int ch), .val (.int i)] [(.int (i - (1 : Int32))), (.ref ba)])) rfl rfl (hb hby d1_20) _) ?_
      show Go p e below T0 (mkF m 21 #[.val (.ref ba), .val (.int pz), .val (.int ch), .val (.int i)] [(.int (own_tb (i - (1 : Int32))))]) _
      refine outN X0 hx (t := .char) hret (by simp) (hb hby d1_21) hlk (by decide) (by decide) ?_
      exact ⟨by rw [own_ins, if_neg q2_1, if_neg q11_3, own_nar (own_tb_sm _)], N0, e0⟩
theorem d8_0 : decode prog_11_method_5_code 0 = .ok (.iload_n 0, 1) := by decide +kernel
theorem d8_1 : decode prog_11_method_5_code 1 = .ok (.sipush 200, 3) := by decide +kernel
theorem d8_4 : decode prog_11_method_5_code 4 = .ok (.if_icmp .lt 10, 3) := by decide +kernel
theorem d8_14 : decode prog_11_method_5_code 14 = .ok (.getstatic 7, 3) := by decide +kernel
theorem d8_17 : decode prog_11_method_5_code 17 = .ok (.areturn, 1) := by decide +kernel
theorem d8_7 : decode prog_11_method_5_code 7 = .ok (.iload_n 0, 1) := by decide +kernel
theorem d8_8 : decode prog_11_method_5_code 8 = .ok (.sipush 299, 3) := by decide +kernel
theorem d8_11 : decode prog_11_method_5_code 11 = .ok (.if_icmp .le 7, 3) := by decide +kernel
theorem d8_18 : decode prog_11_method_5_code 18 = .ok (.ldc 52, 2) := by decide +kernel
theorem d8_20 : decode prog_11_method_5_code 20 = .ok (.aload_n 1, 1) := by decide +kernel
theorem d8_21 : decode prog_11_method_5_code 21 = .ok (.invokevirtual 54, 3) := by decide +kernel
theorem pd_4 : parseMethodDescriptor "(Ljava/lang/Object;)Z" = some ⟨[(.object "java/lang/Object")], some .boolean⟩ := by decide +kernel
theorem d8_24 : decode prog_11_method_5_code 24 = .ok (.ifCond .eq 9, 3) := by decide +kernel
theorem d8_33 : decode prog_11_method_5_code 33 = .ok (.getstatic 10, 3) := by decide +kernel
theorem d8_36 : decode prog_11_method_5_code 36 = .ok (.areturn, 1) := by decide +kernel
theorem d8_27 : decode prog_11_method_5_code 27 = .ok (.getstatic 3, 3) := by decide +kernel
theorem d8_30 : decode prog_11_method_5_code 30 = .ok (.goto 6, 3) := by decide +kernel
theorem ef_rm_of (m : MethodId) (x : Int32) (sx : Addr)  : entryFrame m #[(.int x), (.ref sx)] 2 = mkF m 0 #[.val (.int x), .val (.ref sx)] [] := by first | (simp [entryFrame, mkF, argsToLocals, Value.category]; done) | rfl
def Q_rm_of (Z : State) (x : Int32) (sx : Addr) (cs : List Int32) (error_ : Addr) (page : Addr) (skipped : Addr) (r : Addr) (cz : Int32) (h0 : Heap) (n0 : Nat) (v : Option Value) (h : Heap) (L : List Loc) : Prop := v = some (.ref r) ∧ Fr n0 L ∧ Keep h0 h []
theorem pn_8_ : plainName "com/example/fetch_to_rank/fetchtorank/crawl/Outcome" = true := by first | (simp [plainName, overriddenIn]; done) | decide +kernel
theorem pn_8 : plainFor (⟨"com/example/fetch_to_rank/fetchtorank/crawl/Outcome", "of", "(ILjava/lang/String;)Lcom/example/fetch_to_rank/fetchtorank/crawl/Outcome;"⟩ : MethodName) = true := plainFor_of_name pn_8_
set_option maxRecDepth 65536 in
set_option maxHeartbeats 40000000 in
theorem rm_of (l : Launch) (Z : State) (a0 : Array Value) (hw : ∀ d ∈ tables_1, d.before a0 Z = true) (ws : List Jvm.Cond) (x : Int32) (sx : Addr) (cs : List Int32) (error_ : Addr) (page : Addr) (skipped : Addr) (r : Addr) (cz : Int32) (h0 : Heap) (n0 : Nat) (O0 : Old Z n0 h0) (hEL : EW Z a0 consts_1) (Q_sx : StrIs Z h0 sx cs) (S_ERROR : Sta Z Z.heap "com/example/fetch_to_rank/fetchtorank/crawl/Outcome" "ERROR" "Lcom/example/fetch_to_rank/fetchtorank/crawl/Outcome;" (.ref error_)) (S_PAGE : Sta Z Z.heap "com/example/fetch_to_rank/fetchtorank/crawl/Outcome" "PAGE" "Lcom/example/fetch_to_rank/fetchtorank/crawl/Outcome;" (.ref page)) (S_SKIPPED : Sta Z Z.heap "com/example/fetch_to_rank/fetchtorank/crawl/Outcome" "SKIPPED" "Lcom/example/fetch_to_rank/fetchtorank/crawl/Outcome;" (.ref skipped)) (S_COMPACT_STRINGS : Sta Z Z.heap "java/lang/String" "COMPACT_STRINGS" "Z" (.int cz)) (hcz : ¬ cz = (0 : Int32)) (hr : (x < (200 : Int32) → r = error_) ∧ ((299 : Int32) < x → r = error_) ∧ (¬ x < (200 : Int32) → ¬ (299 : Int32) < x → own_html = cs → r = page) ∧ (¬ x < (200 : Int32) → ¬ (299 : Int32) < x → ¬ own_html = cs → r = skipped)) :
    MetFree l (⟨"com/example/fetch_to_rank/fetchtorank/crawl/Outcome", "of", "(ILjava/lang/String;)Lcom/example/fetch_to_rank/fetchtorank/crawl/Outcome;"⟩ : MethodName) (head1 (Jvm.Cond.code (⟨"com/example/fetch_to_rank/fetchtorank/crawl/Outcome", "of", "(ILjava/lang/String;)Lcom/example/fetch_to_rank/fetchtorank/crawl/Outcome;"⟩ : MethodName) prog_11_method_5_code 2 (some (.object "com/example/fetch_to_rank/fetchtorank/crawl/Outcome")) :: ws) ({ frames := 2, cells := 2, slots := 40, locals := 28 } : Room)) (fun args_ U => args_ = #[(.int x), (.ref sx)] ∧ Z.Warmed39 U.vm ∧ U.heap = h0 ∧ CHv Z consts_1 U.vm h0) (fun _ _ _ _ _ => True) (fun _ U out_ U' => ∃ val_ loc_, out_ = .returned val_ ∧ (Q_rm_of Z x sx cs error_ page skipped r cz h0 n0) val_ U'.heap loc_ ∧ CHr Z consts_1 U.vm U.heap U'.vm U'.heap ∧ ReturnedEndW U out_ U' loc_ ({ frames := 2, cells := 2, slots := 40, locals := 28 } : Room).cells ({ frames := 2, cells := 2, slots := 40, locals := 28 } : Room).slots) := by
  refine startW (Q := (Q_rm_of Z x sx cs error_ page skipped r cz h0 n0)) pn_8 ?_
  intro p e s m below meth c T0 X0 hx hby hml hown hnm hret hlk hZ e0 hS CR
  have hk : 0 ≤ h0.size := Nat.zero_le _
  have wS : ∀ a ∈ Bundle.stringAtoms, a.before a0 Z = true := own_wS hw
  replace hown : s.vm.findClass "com/example/fetch_to_rank/fetchtorank/crawl/Outcome" = some m.cls := hown
  replace hml : c.maxLocals = 2 := hml
  refine goAt (ef_rm_of m x sx ) ?_
  have N0 := Fr.nil n0
  show Go p e below T0 (mkF m 0 #[.val (.int x), .val (.ref sx)] []) _
  refine stp (fun _ => XS.iloadN X0.here hx rfl (hb hby d8_0) rfl) ?_
  show Go p e below T0 (mkF m 1 #[.val (.int x), .val (.ref sx)] [(.int x)]) _
  refine stp (fun _ => XS.sipush X0.here hx rfl (hb hby d8_1)) ?_
  show Go p e below T0 (mkF m 4 #[.val (.int x), .val (.ref sx)] [(.int (200 : Int32)), (.int x)]) _
  by_cases q4_1 : x < (200 : Int32)
  · refine stp (fun _ => XS.icmpYes X0.here hx rfl (pc0 := 4) (pc' := 14) rfl (hb hby d8_4) rfl (XT.ii_lt_t q4_1) (by decide) (by decide)) ?_
    show Go p e below T0 (mkF m 14 #[.val (.int x), .val (.ref sx)] []) _
    obtain ⟨T2, X2, e2, st2⟩ := getS2 X0 hx hZ hown (host := "") (Or.inl (hw _ (List.mem_of_getElem? (i := 41) rfl))) Via.refl e0 (S_ERROR.ext O0.2) (g := (mkF m 14 #[.val (.int x), .val (.ref sx)] [])) rfl (hb hby d8_14)
    refine stp st2 ?_
    show Go p e below T2 (mkF m 17 #[.val (.int x), .val (.ref sx)] [(.ref error_)]) _
    refine outAW X2 hx hZ hEL e2 hS hk CR hret rfl rfl (hb hby d8_17) hlk (by decide) (by decide) ?_
    rw [e2]
    exact ⟨by rw [hr.1 q4_1], N0, (Keep.refl h0 [])⟩
  · refine stp (fun _ => XS.icmpNo X0.here hx rfl (hb hby d8_4) rfl (XT.ii_lt_f q4_1)) ?_
    show Go p e below T0 (mkF m 7 #[.val (.int x), .val (.ref sx)] []) _
    refine stp (fun _ => XS.iloadN X0.here hx rfl (hb hby d8_7) rfl) ?_
    show Go p e below T0 (mkF m 8 #[.val (.int x), .val (.ref sx)] [(.int x)]) _
    refine stp (fun _ => XS.sipush X0.here hx rfl (hb hby d8_8)) ?_
    show Go p e below T0 (mkF m 11 #[.val (.int x), .val (.ref sx)] [(.int (299 : Int32)), (.int x)]) _
    by_cases q11_3 : (299 : Int32) < x
    · refine stp (fun _ => XS.icmpNo X0.here hx rfl (hb hby d8_11) rfl (XT.ii_le_f q11_3)) ?_
      show Go p e below T0 (mkF m 14 #[.val (.int x), .val (.ref sx)] []) _
      obtain ⟨T4, X4, e4, st4⟩ := getS2 X0 hx hZ hown (host := "") (Or.inl (hw _ (List.mem_of_getElem? (i := 41) rfl))) Via.refl e0 (S_ERROR.ext O0.2) (g := (mkF m 14 #[.val (.int x), .val (.ref sx)] [])) rfl (hb hby d8_14)
      refine stp st4 ?_
      show Go p e below T4 (mkF m 17 #[.val (.int x), .val (.ref sx)] [(.ref error_)]) _
      refine outAW X4 hx hZ hEL e4 hS hk CR hret rfl rfl (hb hby d8_17) hlk (by decide) (by decide) ?_
      rw [e4]
      exact ⟨by rw [hr.2.1 q11_3], N0, (Keep.refl h0 [])⟩
    · refine stp (fun _ => XS.icmpYes X0.here hx rfl (pc0 := 11) (pc' := 18) rfl (hb hby d8_11) rfl (XT.ii_le_t q11_3) (by decide) (by decide)) ?_
      show Go p e below T0 (mkF m 18 #[.val (.int x), .val (.ref sx)] []) _
      obtain ⟨la5, T5, h5, k1_5, lb5, kl5, X5, e5, E5, hS, hk', hZ, hown, Ea5, Ca5, Va5, Ba5, lta5, ltb5, CRn5, Li5, hne5, st5⟩ := ldcCH X0 hx hZ hown (hw _ (List.mem_of_getElem? (i := 64) rfl)) wS e0 hS hk hEL (by decide) CR.1 (vs := [(.int (116 : Int32)), (.int (101 : Int32)), (.int (120 : Int32)), (.int (116 : Int32)), (.int (47 : Int32)), (.int (104 : Int32)), (.int (116 : Int32)), (.int (109 : Int32)), (.int (108 : Int32))]) (z := (9 : Int32)) ⟨by decide +kernel, by decide +kernel⟩ (by decide) (by decide) (g := (mkF m 18 #[.val (.int x), .val (.ref sx)] [])) rfl (hb hby d8_18) (n := 36) (by decide +kernel) (by decide) (by decide) (by decide)
      have f6 := Q_sx.ext E5
      have hk := hk'
      have CR := CR.trans CRn5
      have K5 : Keep h0 h5 [] := (Keep.refl h0 []).ext E5
      have O5 := O0.ext E5
      refine stp st5 ?_
      show Go p e below T5 (mkF m 20 #[.val (.int x), .val (.ref sx)] [(.ref la5)]) _
      refine stp (fun _ => XS.aloadN X5.here hx rfl (hb hby d8_20) rfl rfl) ?_
      show Go p e below T5 (mkF m 21 #[.val (.int x), .val (.ref sx)] [(.ref sx), (.ref la5)]) _
      have Q7 : StrIs Z h5 la5 own_html := StrIs.of Ea5 Va5 Ca5 Ba5 rfl rfl (by decide) (Nat.le_of_ble_eq_true rfl)
      obtain ⟨cq8, kq8, q8a, q8b, q8c⟩ := isOf hZ e5 Ea5
      obtain ⟨_, _, ⟨T8, L8, k8, n8⟩, -, X8, ⟨Lc8, hQ8, l8, y8, z8⟩, st8⟩ := X5.virtualBack hx (y := (⟨"java/lang/String", "equals", "(Ljava/lang/Object;)Z"⟩ : MethodName)) (z := (⟨"java/lang/String", "equals", "(Ljava/lang/Object;)Z"⟩ : MethodName)) hown (mvT hZ (hw _ (List.mem_of_getElem? (i := 65) rfl))) (mvT hZ (hw _ (List.mem_of_getElem? (i := 66) rfl))) (notFace_of_selects (args := #[]) (mvT hZ (hw _ (List.mem_of_getElem? (i := 68) rfl)))) (mvT hZ (hw _ (List.mem_of_getElem? (i := 68) rfl))) (mvT hZ (hw _ (List.mem_of_getElem? (i := 67) rfl))) (by decide) (own_eqB (W := 0) hw hZ Q7 f6 (S_COMPACT_STRINGS.ext O5.2) hcz (n0 := n0) (by decide) (by decide)) q8a q8c (g := (mkF m 21 #[.val (.int x), .val (.ref sx)] [(.ref sx), (.ref la5)])) rfl (by rw [hml]; rfl) (Steps.refl _) (argsL := [(.ref sx)]) (rest := []) (lenOf pd_4 rfl) rfl (by show 2 * 0 + _ ≤ _; exact Nat.le_of_eq rfl) (hb hby d8_21) (fun _ _ => ⟨rfl, e5, (by decide : 2 + 0 ≤ _), (by decide : 40 + 0 ≤ _)⟩)
      dsimp only [Pt.U, Pt.locs, Pt.cells, Pt.slots] at X8 l8 y8 z8 st8 hQ8
      subst y8 z8
      obtain ⟨rfl, N8q, e8⟩ := hQ8
      have N8 : Fr n0 L8 := by rw [l8]; exact Fr.app N0 N8q
      refine stt st8 ?_
      show Go p e below T8 (mkF m 24 #[.val (.int x), .val (.ref sx)] [(.int (if own_html = cs then (1 : Int32) else (0 : Int32)))]) _
      by_cases q24_9 : (if own_html = cs then (1 : Int32) else (0 : Int32)) = 0
      · refine stp (fun _ => XS.ifYes X8.here hx rfl (pc0 := 24) (pc' := 33) rfl (hb hby d8_24) rfl (XT.i0_eq_t q24_9) (by decide) (by decide)) ?_
        show Go p e below T8 (mkF m 33 #[.val (.int x), .val (.ref sx)] []) _
        obtain ⟨T10, X10, e10, st10⟩ := getS2 X8 hx hZ hown (host := "") (Or.inl (hw _ (List.mem_of_getElem? (i := 76) rfl))) Via.refl e8 (S_SKIPPED.ext O5.2) (g := (mkF m 33 #[.val (.int x), .val (.ref sx)] [])) rfl (hb hby d8_33)
        refine stp st10 ?_
        show Go p e below T10 (mkF m 36 #[.val (.int x), .val (.ref sx)] [(.ref skipped)]) _
        refine outAW X10 hx hZ hEL e10 hS hk CR hret rfl rfl (hb hby d8_36) hlk (by decide) (by decide) ?_
        rw [e10]
        exact ⟨by rw [hr.2.2.2 q4_1 q11_3 (own_if_f q24_9)], N8, K5⟩
      · refine stp (fun _ => XS.ifNo X8.here hx rfl (hb hby d8_24) rfl (XT.i0_eq_f q24_9)) ?_
        show Go p e below T8 (mkF m 27 #[.val (.int x), .val (.ref sx)] []) _
        obtain ⟨T11, X11, e11, st11⟩ := getS2 X8 hx hZ hown (host := "") (Or.inl (hw _ (List.mem_of_getElem? (i := 73) rfl))) Via.refl e8 (S_PAGE.ext O5.2) (g := (mkF m 27 #[.val (.int x), .val (.ref sx)] [])) rfl (hb hby d8_27)
        refine stp st11 ?_
        show Go p e below T11 (mkF m 30 #[.val (.int x), .val (.ref sx)] [(.ref page)]) _
        refine stp (fun _ => XS.goto X11.here hx rfl (pc0 := 30) (pc' := 36) rfl (hb hby d8_30) (by decide) (by decide)) ?_
        show Go p e below T11 (mkF m 36 #[.val (.int x), .val (.ref sx)] [(.ref page)]) _
        refine outAW X11 hx hZ hEL e11 hS hk CR hret rfl rfl (hb hby d8_36) hlk (by decide) (by decide) ?_
        rw [e11]
        exact ⟨by rw [hr.2.2.1 q4_1 q11_3 (own_if_t q24_9)], N8, K5⟩
theorem pd_5 : parseMethodDescriptor "([C)V" = some ⟨[(.array .char)], none⟩ := by decide +kernel
theorem pd_6 : parseMethodDescriptor "(ILjava/lang/String;)Lcom/example/fetch_to_rank/fetchtorank/crawl/Outcome;" = some ⟨[.int, (.object "java/lang/String")], some (.object "com/example/fetch_to_rank/fetchtorank/crawl/Outcome")⟩ := by decide +kernel
theorem pd_7 : parseMethodDescriptor "([CII)C" = some ⟨[(.array .char), .int, .int], some .char⟩ := by decide +kernel
theorem pd_8 : parseMethodDescriptor "([CICI)C" = some ⟨[(.array .char), .int, .char, .int], some .char⟩ := by decide +kernel
theorem pd_9 : parseMethodDescriptor "(C)Ljava/lang/String;" = some ⟨[.char], some (.object "java/lang/String")⟩ := by decide +kernel
theorem ef_rm0 (m : MethodId) (p0 : Int32) (p1 : Int32) (p2 : Int32) (p3 : Int32)  : entryFrame m #[(.int p0), (.int p1), (.int p2), (.int p3)] maxLocals = mkF m 0 #[.val (.int p0), .val (.int p1), .val (.int p2), .val (.int p3), .unset, .unset, .unset, .unset, .unset, .unset, .unset] [] := by first | (simp [entryFrame, mkF, argsToLocals, Value.category, maxLocals]; done) | rfl
def Q_rm0 (Z : State) (p0 : Int32) (p1 : Int32) (p2 : Int32) (p3 : Int32) (error_ page skipped : Addr) (cz : Int32) (h0 : Heap) (n0 : Nat) (v : Option Value) (h : Heap) (L : List Loc) : Prop := v = some (.int 1) ∧ Fr n0 L
theorem pn_9_ : plainName "com/example/fetch_to_rank/fetchtorank/crawl/OutcomeOfPinLaw" = true := by first | (simp [plainName, overriddenIn]; done) | decide +kernel
theorem pn_9 : plainFor (⟨"com/example/fetch_to_rank/fetchtorank/crawl/OutcomeOfPinLaw", "law", "(IIII)Z"⟩ : MethodName) = true := plainFor_of_name pn_9_
set_option maxRecDepth 65536 in
set_option maxHeartbeats 40000000 in
theorem rm0 (l : Launch) (Z : State) (a0 : Array Value) (hw : ∀ d ∈ tables_1, d.before a0 Z = true) (ws : List Jvm.Cond) (p0 : Int32) (p1 : Int32) (p2 : Int32) (p3 : Int32) (error_ page skipped : Addr) (cz : Int32) (h0 : Heap) (n0 : Nat) (O0 : Old Z n0 h0) (hEL : EW Z a0 consts_1) (S_ERROR : Sta Z Z.heap "com/example/fetch_to_rank/fetchtorank/crawl/Outcome" "ERROR" "Lcom/example/fetch_to_rank/fetchtorank/crawl/Outcome;" (.ref error_)) (S_PAGE : Sta Z Z.heap "com/example/fetch_to_rank/fetchtorank/crawl/Outcome" "PAGE" "Lcom/example/fetch_to_rank/fetchtorank/crawl/Outcome;" (.ref page)) (S_SKIPPED : Sta Z Z.heap "com/example/fetch_to_rank/fetchtorank/crawl/Outcome" "SKIPPED" "Lcom/example/fetch_to_rank/fetchtorank/crawl/Outcome;" (.ref skipped)) (S_CS : Sta Z Z.heap "java/lang/String" "COMPACT_STRINGS" "Z" (.int cz)) (hcz : ¬ cz = (0 : Int32)) :
    MetFree l x (head1 (Jvm.Cond.code x code maxLocals ret :: ws) room_1) (fun args_ U => args_ = #[(.int p0), (.int p1), (.int p2), (.int p3)] ∧ Z.Warmed39 U.vm ∧ U.heap = h0 ∧ CHv Z consts_1 U.vm h0) (fun _ _ _ _ _ => True) (fun _ U out_ U' => ∃ val_ loc_, out_ = .returned val_ ∧ (Q_rm0 Z p0 p1 p2 p3 error_ page skipped cz h0 n0) val_ U'.heap loc_ ∧ CHr Z consts_1 U.vm U.heap U'.vm U'.heap ∧ ReturnedEndW U out_ U' loc_ 7 73) := by
  refine startW (Q := (Q_rm0 Z p0 p1 p2 p3 error_ page skipped cz h0 n0)) (show plainFor x = true from pn_9) ?_
  intro p e s m below meth c T0 X0 hx hby hml hown hnm hret hlk hZ e0 hS CR
  have hk : 0 ≤ h0.size := Nat.zero_le _
  have wS : ∀ a ∈ Bundle.stringAtoms, a.before a0 Z = true := own_wS hw
  replace hown : s.vm.findClass "com/example/fetch_to_rank/fetchtorank/crawl/OutcomeOfPinLaw" = some m.cls := hown
  replace hml : c.maxLocals = 11 := hml
  refine goAt (ef_rm0 m p0 p1 p2 p3 ) ?_
  have N0 := Fr.nil n0
  have hws : ∀ d ∈ StrChars.Road.words, d.before a0 Z = true := fun d hd => hw d ((by decide +kernel : ∀ d ∈ StrChars.Road.words, d ∈ tables_1) d hd)
  show Go p e below T0 (mkF m 0 #[.val (.int p0), .val (.int p1), .val (.int p2), .val (.int p3), .unset, .unset, .unset, .unset, .unset, .unset, .unset] []) _
  refine stp (fun _ => XS.iloadN X0.here hx rfl (hb hby at_0) rfl) ?_
  show Go p e below T0 (mkF m 1 #[.val (.int p0), .val (.int p1), .val (.int p2), .val (.int p3), .unset, .unset, .unset, .unset, .unset, .unset, .unset] [(.int p3)]) _
  refine stp (fun _ => XS.sipush X0.here hx rfl (hb hby at_1)) ?_
  show Go p e below T0 (mkF m 4 #[.val (.int p0), .val (.int p1), .val (.int p2), .val (.int p3), .unset, .unset, .unset, .unset, .unset, .unset, .unset] [(.int (255 : Int32)), (.int p3)]) _
  refine stp (fun _ => XS.iand X0.here hx rfl (hb hby at_4) rfl) ?_
  show Go p e below T0 (mkF m 5 #[.val (.int p0), .val (.int p1), .val (.int p2), .val (.int p3), .unset, .unset, .unset, .unset, .unset, .unset, .unset] [(.int (p3 &&& (255 : Int32)))]) _
  refine stp (fun _ => XS.i2c X0.here hx rfl (hb hby at_5) rfl) ?_
  show Go p e below T0 (mkF m 6 #[.val (.int p0), .val (.int p1), .val (.int p2), .val (.int p3), .unset, .unset, .unset, .unset, .unset, .unset, .unset] [(.int ((p3 &&& (255 : Int32)).toUInt32.toUInt16.toUInt32.toInt32))]) _
  refine stp (fun _ => XS.istore X0.here hx rfl (hb hby at_6) rfl (l' := #[.val (.int p0), .val (.int p1), .val (.int p2), .val (.int p3), .val (.int ((p3 &&& (255 : Int32)).toUInt32.toUInt16.toUInt32.toInt32)), .unset, .unset, .unset, .unset, .unset, .unset]) rfl) ?_
  show Go p e below T0 (mkF m 8 #[.val (.int p0), .val (.int p1), .val (.int p2), .val (.int p3), .val (.int ((p3 &&& (255 : Int32)).toUInt32.toUInt16.toUInt32.toInt32)), .unset, .unset, .unset, .unset, .unset, .unset] []) _
  obtain ⟨cc, hcc⟩ : ∃ z : Int32, z = ((p3 &&& (255 : Int32)).toUInt32.toUInt16.toUInt32.toInt32) := ⟨_, rfl⟩
  rw [← hcc]
  show Go p e below T0 (mkF m 8 #[.val (.int p0), .val (.int p1), .val (.int p2), .val (.int p3), .val (.int cc), .unset, .unset, .unset, .unset, .unset, .unset] []) _
  replace hcc := own_char255 hcc
  refine stp (fun _ => XS.bipush X0.here hx rfl (hb hby at_8)) ?_
  show Go p e below T0 (mkF m 10 #[.val (.int p0), .val (.int p1), .val (.int p2), .val (.int p3), .val (.int cc), .unset, .unset, .unset, .unset, .unset, .unset] [(.int (9 : Int32))]) _
  obtain ⟨T1, h1, k1, X1, e1, E1, A1, B1, st1⟩ := newPE X0 hx hZ (hw _ (List.mem_of_getElem? (i := 0) rfl)) e0 (g := (mkF m 10 #[.val (.int p0), .val (.int p1), .val (.int p2), .val (.int p3), .val (.int cc), .unset, .unset, .unset, .unset, .unset, .unset] [(.int (9 : Int32))])) rfl (hb hby at_10) rfl (by decide) (cap := 9) (by decide) (by decide) (by decide) (by decide) (ad := "[C") (by decide)
  obtain ⟨b1, g1⟩ : ∃ z, z = h0.size := ⟨_, rfl⟩
  rw [← g1] at A1 B1 st1
  have sz_b1 : h0.size ≤ b1 := Nat.le_trans (Keep.refl h0 []).1 (Nat.le_of_eq g1.symm)
  have ge_b1 : n0 ≤ b1 := Nat.le_trans (old_le O0) (Nat.le_of_eq g1.symm)
  have hk := Nat.le_trans hk E1.1
  have CR := CR.trans (CHr.ext E1 CR.1)
  have K1 : Keep h0 h1 [] := (Keep.refl h0 []).ext E1
  have O1 := O0.ext E1
  have V1 : Arv Z h1 b1 k1 .char (9 : Int32) [(.int (0 : Int32)), (.int (0 : Int32)), (.int (0 : Int32)), (.int (0 : Int32)), (.int (0 : Int32)), (.int (0 : Int32)), (.int (0 : Int32)), (.int (0 : Int32)), (.int (0 : Int32))] (.int (0 : Int32)) := (Arv.new A1 (by decide)).pad (pad_rep [] (.int (0 : Int32)) 9)
  refine stp st1 ?_
  show Go p e below T1 (mkF m 12 #[.val (.int p0), .val (.int p1), .val (.int p2), .val (.int p3), .val (.int cc), .unset, .unset, .unset, .unset, .unset, .unset] [(.ref b1)]) _
  refine stp (fun _ => XS.dup X1.here hx rfl (hb hby at_12) rfl rfl) ?_
  show Go p e below T1 (mkF m 13 #[.val (.int p0), .val (.int p1), .val (.int p2), .val (.int p3), .val (.int cc), .unset, .unset, .unset, .unset, .unset, .unset] [(.ref b1), (.ref b1)]) _
  refine stp (fun _ => XS.iconst X1.here hx rfl (hb hby at_13)) ?_
  show Go p e below T1 (mkF m 14 #[.val (.int p0), .val (.int p1), .val (.int p2), .val (.int p3), .val (.int cc), .unset, .unset, .unset, .unset, .unset, .unset] [(.int (0 : Int32)), (.ref b1), (.ref b1)]) _
  refine stp (fun _ => XS.bipush X1.here hx rfl (hb hby at_14)) ?_
  show Go p e below T1 (mkF m 16 #[.val (.int p0), .val (.int p1), .val (.int p2), .val (.int p3), .val (.int cc), .unset, .unset, .unset, .unset, .unset, .unset] [(.int (116 : Int32)), (.int (0 : Int32)), (.ref b1), (.ref b1)]) _
  obtain ⟨cl2, Ar2, q2, S2, M2, H2, G2⟩ := (id V1)
  have in2 : ¬ ((0 : Int32) < 0 ∨ cl2.slots.size ≤ ((0 : Int32)).toNatClampNeg) := inb_of S2 ⟨by decide, by decide⟩
  obtain ⟨T2, h2, X2, e2, W2, st2⟩ := stC X1 hx hZ e1 Ar2 (j := (0 : Int32)) in2 (g := (mkF m 16 #[.val (.int p0), .val (.int p1), .val (.int p2), .val (.int p3), .val (.int cc), .unset, .unset, .unset, .unset, .unset, .unset] [(.int (116 : Int32)), (.int (0 : Int32)), (.ref b1), (.ref b1)])) rfl rfl (hb hby at_16)
  have V2 : Arv Z h2 b1 k1 .char (9 : Int32) [(.int (116 : Int32)), (.int (0 : Int32)), (.int (0 : Int32)), (.int (0 : Int32)), (.int (0 : Int32)), (.int (0 : Int32)), (.int (0 : Int32)), (.int (0 : Int32)), (.int (0 : Int32))] (.int (0 : Int32)) := Arv.set Ar2 q2 S2 M2 H2 G2 (ow_fits_char (by decide)) (ow_wr_char (by decide) W2) 0 rfl (Nat.le_of_ble_eq_true rfl)
  have f3 := B1.wr W2
  have hk := Nat.le_trans hk (Keep.of_wr W2).1
  have CR := CR.trans (CHr.wr W2 (Safe.exa hZ.alike B1 (by decide) (by decide)) CR.1)
  have K2 : Keep h0 h2 [] := K1.wr W2 (Or.inr sz_b1)
  have O2 := O1.wr W2 ge_b1
  have N2 := Fr.snoc X2 N0 ge_b1
  refine stp st2 ?_
  show Go p e below T2 (mkF m 17 #[.val (.int p0), .val (.int p1), .val (.int p2), .val (.int p3), .val (.int cc), .unset, .unset, .unset, .unset, .unset, .unset] [(.ref b1)]) _
  refine stp (fun _ => XS.dup X2.here hx rfl (hb hby at_17) rfl rfl) ?_
  show Go p e below T2 (mkF m 18 #[.val (.int p0), .val (.int p1), .val (.int p2), .val (.int p3), .val (.int cc), .unset, .unset, .unset, .unset, .unset, .unset] [(.ref b1), (.ref b1)]) _
  refine stp (fun _ => XS.iconst X2.here hx rfl (hb hby at_18)) ?_
  show Go p e below T2 (mkF m 19 #[.val (.int p0), .val (.int p1), .val (.int p2), .val (.int p3), .val (.int cc), .unset, .unset, .unset, .unset, .unset, .unset] [(.int (1 : Int32)), (.ref b1), (.ref b1)]) _
  refine stp (fun _ => XS.bipush X2.here hx rfl (hb hby at_19)) ?_
  show Go p e below T2 (mkF m 21 #[.val (.int p0), .val (.int p1), .val (.int p2), .val (.int p3), .val (.int cc), .unset, .unset, .unset, .unset, .unset, .unset] [(.int (101 : Int32)), (.int (1 : Int32)), (.ref b1), (.ref b1)]) _
  obtain ⟨cl5, Ar5, q5, S5, M5, H5, G5⟩ := (id V2)
  have in5 : ¬ ((1 : Int32) < 0 ∨ cl5.slots.size ≤ ((1 : Int32)).toNatClampNeg) := inb_of S5 ⟨by decide, by decide⟩
  obtain ⟨T5, h5, X5, e5, W5, st5⟩ := stC X2 hx hZ e2 Ar5 (j := (1 : Int32)) in5 (g := (mkF m 21 #[.val (.int p0), .val (.int p1), .val (.int p2), .val (.int p3), .val (.int cc), .unset, .unset, .unset, .unset, .unset, .unset] [(.int (101 : Int32)), (.int (1 : Int32)), (.ref b1), (.ref b1)])) rfl rfl (hb hby at_21)
  have V5 : Arv Z h5 b1 k1 .char (9 : Int32) [(.int (116 : Int32)), (.int (101 : Int32)), (.int (0 : Int32)), (.int (0 : Int32)), (.int (0 : Int32)), (.int (0 : Int32)), (.int (0 : Int32)), (.int (0 : Int32)), (.int (0 : Int32))] (.int (0 : Int32)) := Arv.set Ar5 q5 S5 M5 H5 G5 (ow_fits_char (by decide)) (ow_wr_char (by decide) W5) 1 rfl (Nat.le_of_ble_eq_true rfl)
  have f6 := f3.wr W5
  have hk := Nat.le_trans hk (Keep.of_wr W5).1
  have CR := CR.trans (CHr.wr W5 (Safe.exa hZ.alike f3 (by decide) (by decide)) CR.1)
  have K5 : Keep h0 h5 [] := K2.wr W5 (Or.inr sz_b1)
  have O5 := O2.wr W5 ge_b1
  have N5 := Fr.snoc X5 N2 ge_b1
  refine stp st5 ?_
  show Go p e below T5 (mkF m 22 #[.val (.int p0), .val (.int p1), .val (.int p2), .val (.int p3), .val (.int cc), .unset, .unset, .unset, .unset, .unset, .unset] [(.ref b1)]) _
  refine stp (fun _ => XS.dup X5.here hx rfl (hb hby at_22) rfl rfl) ?_
  show Go p e below T5 (mkF m 23 #[.val (.int p0), .val (.int p1), .val (.int p2), .val (.int p3), .val (.int cc), .unset, .unset, .unset, .unset, .unset, .unset] [(.ref b1), (.ref b1)]) _
  refine stp (fun _ => XS.iconst X5.here hx rfl (hb hby at_23)) ?_
  show Go p e below T5 (mkF m 24 #[.val (.int p0), .val (.int p1), .val (.int p2), .val (.int p3), .val (.int cc), .unset, .unset, .unset, .unset, .unset, .unset] [(.int (2 : Int32)), (.ref b1), (.ref b1)]) _
  refine stp (fun _ => XS.bipush X5.here hx rfl (hb hby at_24)) ?_
  show Go p e below T5 (mkF m 26 #[.val (.int p0), .val (.int p1), .val (.int p2), .val (.int p3), .val (.int cc), .unset, .unset, .unset, .unset, .unset, .unset] [(.int (120 : Int32)), (.int (2 : Int32)), (.ref b1), (.ref b1)]) _
  obtain ⟨cl8, Ar8, q8, S8, M8, H8, G8⟩ := (id V5)
  have in8 : ¬ ((2 : Int32) < 0 ∨ cl8.slots.size ≤ ((2 : Int32)).toNatClampNeg) := inb_of S8 ⟨by decide, by decide⟩
  obtain ⟨T8, h8, X8, e8, W8, st8⟩ := stC X5 hx hZ e5 Ar8 (j := (2 : Int32)) in8 (g := (mkF m 26 #[.val (.int p0), .val (.int p1), .val (.int p2), .val (.int p3), .val (.int cc), .unset, .unset, .unset, .unset, .unset, .unset] [(.int (120 : Int32)), (.int (2 : Int32)), (.ref b1), (.ref b1)])) rfl rfl (hb hby at_26)
  have V8 : Arv Z h8 b1 k1 .char (9 : Int32) [(.int (116 : Int32)), (.int (101 : Int32)), (.int (120 : Int32)), (.int (0 : Int32)), (.int (0 : Int32)), (.int (0 : Int32)), (.int (0 : Int32)), (.int (0 : Int32)), (.int (0 : Int32))] (.int (0 : Int32)) := Arv.set Ar8 q8 S8 M8 H8 G8 (ow_fits_char (by decide)) (ow_wr_char (by decide) W8) 2 rfl (Nat.le_of_ble_eq_true rfl)
  have f9 := f6.wr W8
  have hk := Nat.le_trans hk (Keep.of_wr W8).1
  have CR := CR.trans (CHr.wr W8 (Safe.exa hZ.alike f6 (by decide) (by decide)) CR.1)
  have K8 : Keep h0 h8 [] := K5.wr W8 (Or.inr sz_b1)
  have O8 := O5.wr W8 ge_b1
  have N8 := Fr.snoc X8 N5 ge_b1
  refine stp st8 ?_
  show Go p e below T8 (mkF m 27 #[.val (.int p0), .val (.int p1), .val (.int p2), .val (.int p3), .val (.int cc), .unset, .unset, .unset, .unset, .unset, .unset] [(.ref b1)]) _
  refine stp (fun _ => XS.dup X8.here hx rfl (hb hby at_27) rfl rfl) ?_
  show Go p e below T8 (mkF m 28 #[.val (.int p0), .val (.int p1), .val (.int p2), .val (.int p3), .val (.int cc), .unset, .unset, .unset, .unset, .unset, .unset] [(.ref b1), (.ref b1)]) _
  refine stp (fun _ => XS.iconst X8.here hx rfl (hb hby at_28)) ?_
  show Go p e below T8 (mkF m 29 #[.val (.int p0), .val (.int p1), .val (.int p2), .val (.int p3), .val (.int cc), .unset, .unset, .unset, .unset, .unset, .unset] [(.int (3 : Int32)), (.ref b1), (.ref b1)]) _
  refine stp (fun _ => XS.bipush X8.here hx rfl (hb hby at_29)) ?_
  show Go p e below T8 (mkF m 31 #[.val (.int p0), .val (.int p1), .val (.int p2), .val (.int p3), .val (.int cc), .unset, .unset, .unset, .unset, .unset, .unset] [(.int (116 : Int32)), (.int (3 : Int32)), (.ref b1), (.ref b1)]) _
  obtain ⟨cl11, Ar11, q11, S11, M11, H11, G11⟩ := (id V8)
  have in11 : ¬ ((3 : Int32) < 0 ∨ cl11.slots.size ≤ ((3 : Int32)).toNatClampNeg) := inb_of S11 ⟨by decide, by decide⟩
  obtain ⟨T11, h11, X11, e11, W11, st11⟩ := stC X8 hx hZ e8 Ar11 (j := (3 : Int32)) in11 (g := (mkF m 31 #[.val (.int p0), .val (.int p1), .val (.int p2), .val (.int p3), .val (.int cc), .unset, .unset, .unset, .unset, .unset, .unset] [(.int (116 : Int32)), (.int (3 : Int32)), (.ref b1), (.ref b1)])) rfl rfl (hb hby at_31)
  have V11 : Arv Z h11 b1 k1 .char (9 : Int32) [(.int (116 : Int32)), (.int (101 : Int32)), (.int (120 : Int32)), (.int (116 : Int32)), (.int (0 : Int32)), (.int (0 : Int32)), (.int (0 : Int32)), (.int (0 : Int32)), (.int (0 : Int32))] (.int (0 : Int32)) := Arv.set Ar11 q11 S11 M11 H11 G11 (ow_fits_char (by decide)) (ow_wr_char (by decide) W11) 3 rfl (Nat.le_of_ble_eq_true rfl)
  have f12 := f9.wr W11
  have hk := Nat.le_trans hk (Keep.of_wr W11).1
  have CR := CR.trans (CHr.wr W11 (Safe.exa hZ.alike f9 (by decide) (by decide)) CR.1)
  have K11 : Keep h0 h11 [] := K8.wr W11 (Or.inr sz_b1)
  have O11 := O8.wr W11 ge_b1
  have N11 := Fr.snoc X11 N8 ge_b1
  refine stp st11 ?_
  show Go p e below T11 (mkF m 32 #[.val (.int p0), .val (.int p1), .val (.int p2), .val (.int p3), .val (.int cc), .unset, .unset, .unset, .unset, .unset, .unset] [(.ref b1)]) _
  refine stp (fun _ => XS.dup X11.here hx rfl (hb hby at_32) rfl rfl) ?_
  show Go p e below T11 (mkF m 33 #[.val (.int p0), .val (.int p1), .val (.int p2), .val (.int p3), .val (.int cc), .unset, .unset, .unset, .unset, .unset, .unset] [(.ref b1), (.ref b1)]) _
  refine stp (fun _ => XS.iconst X11.here hx rfl (hb hby at_33)) ?_
  show Go p e below T11 (mkF m 34 #[.val (.int p0), .val (.int p1), .val (.int p2), .val (.int p3), .val (.int cc), .unset, .unset, .unset, .unset, .unset, .unset] [(.int (4 : Int32)), (.ref b1), (.ref b1)]) _
  refine stp (fun _ => XS.bipush X11.here hx rfl (hb hby at_34)) ?_
  show Go p e below T11 (mkF m 36 #[.val (.int p0), .val (.int p1), .val (.int p2), .val (.int p3), .val (.int cc), .unset, .unset, .unset, .unset, .unset, .unset] [(.int (47 : Int32)), (.int (4 : Int32)), (.ref b1), (.ref b1)]) _
  obtain ⟨cl14, Ar14, q14, S14, M14, H14, G14⟩ := (id V11)
  have in14 : ¬ ((4 : Int32) < 0 ∨ cl14.slots.size ≤ ((4 : Int32)).toNatClampNeg) := inb_of S14 ⟨by decide, by decide⟩
  obtain ⟨T14, h14, X14, e14, W14, st14⟩ := stC X11 hx hZ e11 Ar14 (j := (4 : Int32)) in14 (g := (mkF m 36 #[.val (.int p0), .val (.int p1), .val (.int p2), .val (.int p3), .val (.int cc), .unset, .unset, .unset, .unset, .unset, .unset] [(.int (47 : Int32)), (.int (4 : Int32)), (.ref b1), (.ref b1)])) rfl rfl (hb hby at_36)
  have V14 : Arv Z h14 b1 k1 .char (9 : Int32) [(.int (116 : Int32)), (.int (101 : Int32)), (.int (120 : Int32)), (.int (116 : Int32)), (.int (47 : Int32)), (.int (0 : Int32)), (.int (0 : Int32)), (.int (0 : Int32)), (.int (0 : Int32))] (.int (0 : Int32)) := Arv.set Ar14 q14 S14 M14 H14 G14 (ow_fits_char (by decide)) (ow_wr_char (by decide) W14) 4 rfl (Nat.le_of_ble_eq_true rfl)
  have f15 := f12.wr W14
  have hk := Nat.le_trans hk (Keep.of_wr W14).1
  have CR := CR.trans (CHr.wr W14 (Safe.exa hZ.alike f12 (by decide) (by decide)) CR.1)
  have K14 : Keep h0 h14 [] := K11.wr W14 (Or.inr sz_b1)
  have O14 := O11.wr W14 ge_b1
  have N14 := Fr.snoc X14 N11 ge_b1
  refine stp st14 ?_
  show Go p e below T14 (mkF m 37 #[.val (.int p0), .val (.int p1), .val (.int p2), .val (.int p3), .val (.int cc), .unset, .unset, .unset, .unset, .unset, .unset] [(.ref b1)]) _
  refine stp (fun _ => XS.dup X14.here hx rfl (hb hby at_37) rfl rfl) ?_
  show Go p e below T14 (mkF m 38 #[.val (.int p0), .val (.int p1), .val (.int p2), .val (.int p3), .val (.int cc), .unset, .unset, .unset, .unset, .unset, .unset] [(.ref b1), (.ref b1)]) _
  refine stp (fun _ => XS.iconst X14.here hx rfl (hb hby at_38)) ?_
  show Go p e below T14 (mkF m 39 #[.val (.int p0), .val (.int p1), .val (.int p2), .val (.int p3), .val (.int cc), .unset, .unset, .unset, .unset, .unset, .unset] [(.int (5 : Int32)), (.ref b1), (.ref b1)]) _
  refine stp (fun _ => XS.bipush X14.here hx rfl (hb hby at_39)) ?_
  show Go p e below T14 (mkF m 41 #[.val (.int p0), .val (.int p1), .val (.int p2), .val (.int p3), .val (.int cc), .unset, .unset, .unset, .unset, .unset, .unset] [(.int (104 : Int32)), (.int (5 : Int32)), (.ref b1), (.ref b1)]) _
  obtain ⟨cl17, Ar17, q17, S17, M17, H17, G17⟩ := (id V14)
  have in17 : ¬ ((5 : Int32) < 0 ∨ cl17.slots.size ≤ ((5 : Int32)).toNatClampNeg) := inb_of S17 ⟨by decide, by decide⟩
  obtain ⟨T17, h17, X17, e17, W17, st17⟩ := stC X14 hx hZ e14 Ar17 (j := (5 : Int32)) in17 (g := (mkF m 41 #[.val (.int p0), .val (.int p1), .val (.int p2), .val (.int p3), .val (.int cc), .unset, .unset, .unset, .unset, .unset, .unset] [(.int (104 : Int32)), (.int (5 : Int32)), (.ref b1), (.ref b1)])) rfl rfl (hb hby at_41)
  have V17 : Arv Z h17 b1 k1 .char (9 : Int32) [(.int (116 : Int32)), (.int (101 : Int32)), (.int (120 : Int32)), (.int (116 : Int32)), (.int (47 : Int32)), (.int (104 : Int32)), (.int (0 : Int32)), (.int (0 : Int32)), (.int (0 : Int32))] (.int (0 : Int32)) := Arv.set Ar17 q17 S17 M17 H17 G17 (ow_fits_char (by decide)) (ow_wr_char (by decide) W17) 5 rfl (Nat.le_of_ble_eq_true rfl)
  have f18 := f15.wr W17
  have hk := Nat.le_trans hk (Keep.of_wr W17).1
  have CR := CR.trans (CHr.wr W17 (Safe.exa hZ.alike f15 (by decide) (by decide)) CR.1)
  have K17 : Keep h0 h17 [] := K14.wr W17 (Or.inr sz_b1)
  have O17 := O14.wr W17 ge_b1
  have N17 := Fr.snoc X17 N14 ge_b1
  refine stp st17 ?_
  show Go p e below T17 (mkF m 42 #[.val (.int p0), .val (.int p1), .val (.int p2), .val (.int p3), .val (.int cc), .unset, .unset, .unset, .unset, .unset, .unset] [(.ref b1)]) _
  refine stp (fun _ => XS.dup X17.here hx rfl (hb hby at_42) rfl rfl) ?_
  show Go p e below T17 (mkF m 43 #[.val (.int p0), .val (.int p1), .val (.int p2), .val (.int p3), .val (.int cc), .unset, .unset, .unset, .unset, .unset, .unset] [(.ref b1), (.ref b1)]) _
  refine stp (fun _ => XS.bipush X17.here hx rfl (hb hby at_43)) ?_
  show Go p e below T17 (mkF m 45 #[.val (.int p0), .val (.int p1), .val (.int p2), .val (.int p3), .val (.int cc), .unset, .unset, .unset, .unset, .unset, .unset] [(.int (6 : Int32)), (.ref b1), (.ref b1)]) _
  refine stp (fun _ => XS.bipush X17.here hx rfl (hb hby at_45)) ?_
  show Go p e below T17 (mkF m 47 #[.val (.int p0), .val (.int p1), .val (.int p2), .val (.int p3), .val (.int cc), .unset, .unset, .unset, .unset, .unset, .unset] [(.int (116 : Int32)), (.int (6 : Int32)), (.ref b1), (.ref b1)]) _
  obtain ⟨cl20, Ar20, q20, S20, M20, H20, G20⟩ := (id V17)
  have in20 : ¬ ((6 : Int32) < 0 ∨ cl20.slots.size ≤ ((6 : Int32)).toNatClampNeg) := inb_of S20 ⟨by decide, by decide⟩
  obtain ⟨T20, h20, X20, e20, W20, st20⟩ := stC X17 hx hZ e17 Ar20 (j := (6 : Int32)) in20 (g := (mkF m 47 #[.val (.int p0), .val (.int p1), .val (.int p2), .val (.int p3), .val (.int cc), .unset, .unset, .unset, .unset, .unset, .unset] [(.int (116 : Int32)), (.int (6 : Int32)), (.ref b1), (.ref b1)])) rfl rfl (hb hby at_47)
  have V20 : Arv Z h20 b1 k1 .char (9 : Int32) [(.int (116 : Int32)), (.int (101 : Int32)), (.int (120 : Int32)), (.int (116 : Int32)), (.int (47 : Int32)), (.int (104 : Int32)), (.int (116 : Int32)), (.int (0 : Int32)), (.int (0 : Int32))] (.int (0 : Int32)) := Arv.set Ar20 q20 S20 M20 H20 G20 (ow_fits_char (by decide)) (ow_wr_char (by decide) W20) 6 rfl (Nat.le_of_ble_eq_true rfl)
  have f21 := f18.wr W20
  have hk := Nat.le_trans hk (Keep.of_wr W20).1
  have CR := CR.trans (CHr.wr W20 (Safe.exa hZ.alike f18 (by decide) (by decide)) CR.1)
  have K20 : Keep h0 h20 [] := K17.wr W20 (Or.inr sz_b1)
  have O20 := O17.wr W20 ge_b1
  have N20 := Fr.snoc X20 N17 ge_b1
  refine stp st20 ?_
  show Go p e below T20 (mkF m 48 #[.val (.int p0), .val (.int p1), .val (.int p2), .val (.int p3), .val (.int cc), .unset, .unset, .unset, .unset, .unset, .unset] [(.ref b1)]) _
  refine stp (fun _ => XS.dup X20.here hx rfl (hb hby at_48) rfl rfl) ?_
  show Go p e below T20 (mkF m 49 #[.val (.int p0), .val (.int p1), .val (.int p2), .val (.int p3), .val (.int cc), .unset, .unset, .unset, .unset, .unset, .unset] [(.ref b1), (.ref b1)]) _
  refine stp (fun _ => XS.bipush X20.here hx rfl (hb hby at_49)) ?_
  show Go p e below T20 (mkF m 51 #[.val (.int p0), .val (.int p1), .val (.int p2), .val (.int p3), .val (.int cc), .unset, .unset, .unset, .unset, .unset, .unset] [(.int (7 : Int32)), (.ref b1), (.ref b1)]) _
  refine stp (fun _ => XS.bipush X20.here hx rfl (hb hby at_51)) ?_
  show Go p e below T20 (mkF m 53 #[.val (.int p0), .val (.int p1), .val (.int p2), .val (.int p3), .val (.int cc), .unset, .unset, .unset, .unset, .unset, .unset] [(.int (109 : Int32)), (.int (7 : Int32)), (.ref b1), (.ref b1)]) _
  obtain ⟨cl23, Ar23, q23, S23, M23, H23, G23⟩ := (id V20)
  have in23 : ¬ ((7 : Int32) < 0 ∨ cl23.slots.size ≤ ((7 : Int32)).toNatClampNeg) := inb_of S23 ⟨by decide, by decide⟩
  obtain ⟨T23, h23, X23, e23, W23, st23⟩ := stC X20 hx hZ e20 Ar23 (j := (7 : Int32)) in23 (g := (mkF m 53 #[.val (.int p0), .val (.int p1), .val (.int p2), .val (.int p3), .val (.int cc), .unset, .unset, .unset, .unset, .unset, .unset] [(.int (109 : Int32)), (.int (7 : Int32)), (.ref b1), (.ref b1)])) rfl rfl (hb hby at_53)
  have V23 : Arv Z h23 b1 k1 .char (9 : Int32) [(.int (116 : Int32)), (.int (101 : Int32)), (.int (120 : Int32)), (.int (116 : Int32)), (.int (47 : Int32)), (.int (104 : Int32)), (.int (116 : Int32)), (.int (109 : Int32)), (.int (0 : Int32))] (.int (0 : Int32)) := Arv.set Ar23 q23 S23 M23 H23 G23 (ow_fits_char (by decide)) (ow_wr_char (by decide) W23) 7 rfl (Nat.le_of_ble_eq_true rfl)
  have f24 := f21.wr W23
  have hk := Nat.le_trans hk (Keep.of_wr W23).1
  have CR := CR.trans (CHr.wr W23 (Safe.exa hZ.alike f21 (by decide) (by decide)) CR.1)
  have K23 : Keep h0 h23 [] := K20.wr W23 (Or.inr sz_b1)
  have O23 := O20.wr W23 ge_b1
  have N23 := Fr.snoc X23 N20 ge_b1
  refine stp st23 ?_
  show Go p e below T23 (mkF m 54 #[.val (.int p0), .val (.int p1), .val (.int p2), .val (.int p3), .val (.int cc), .unset, .unset, .unset, .unset, .unset, .unset] [(.ref b1)]) _
  refine stp (fun _ => XS.dup X23.here hx rfl (hb hby at_54) rfl rfl) ?_
  show Go p e below T23 (mkF m 55 #[.val (.int p0), .val (.int p1), .val (.int p2), .val (.int p3), .val (.int cc), .unset, .unset, .unset, .unset, .unset, .unset] [(.ref b1), (.ref b1)]) _
  refine stp (fun _ => XS.bipush X23.here hx rfl (hb hby at_55)) ?_
  show Go p e below T23 (mkF m 57 #[.val (.int p0), .val (.int p1), .val (.int p2), .val (.int p3), .val (.int cc), .unset, .unset, .unset, .unset, .unset, .unset] [(.int (8 : Int32)), (.ref b1), (.ref b1)]) _
  refine stp (fun _ => XS.bipush X23.here hx rfl (hb hby at_57)) ?_
  show Go p e below T23 (mkF m 59 #[.val (.int p0), .val (.int p1), .val (.int p2), .val (.int p3), .val (.int cc), .unset, .unset, .unset, .unset, .unset, .unset] [(.int (108 : Int32)), (.int (8 : Int32)), (.ref b1), (.ref b1)]) _
  obtain ⟨cl26, Ar26, q26, S26, M26, H26, G26⟩ := (id V23)
  have in26 : ¬ ((8 : Int32) < 0 ∨ cl26.slots.size ≤ ((8 : Int32)).toNatClampNeg) := inb_of S26 ⟨by decide, by decide⟩
  obtain ⟨T26, h26, X26, e26, W26, st26⟩ := stC X23 hx hZ e23 Ar26 (j := (8 : Int32)) in26 (g := (mkF m 59 #[.val (.int p0), .val (.int p1), .val (.int p2), .val (.int p3), .val (.int cc), .unset, .unset, .unset, .unset, .unset, .unset] [(.int (108 : Int32)), (.int (8 : Int32)), (.ref b1), (.ref b1)])) rfl rfl (hb hby at_59)
  have V26 : Arv Z h26 b1 k1 .char (9 : Int32) [(.int (116 : Int32)), (.int (101 : Int32)), (.int (120 : Int32)), (.int (116 : Int32)), (.int (47 : Int32)), (.int (104 : Int32)), (.int (116 : Int32)), (.int (109 : Int32)), (.int (108 : Int32))] (.int (0 : Int32)) := Arv.set Ar26 q26 S26 M26 H26 G26 (ow_fits_char (by decide)) (ow_wr_char (by decide) W26) 8 rfl (Nat.le_of_ble_eq_true rfl)
  have f27 := f24.wr W26
  have hk := Nat.le_trans hk (Keep.of_wr W26).1
  have CR := CR.trans (CHr.wr W26 (Safe.exa hZ.alike f24 (by decide) (by decide)) CR.1)
  have K26 : Keep h0 h26 [] := K23.wr W26 (Or.inr sz_b1)
  have O26 := O23.wr W26 ge_b1
  have N26 := Fr.snoc X26 N23 ge_b1
  refine stp st26 ?_
  show Go p e below T26 (mkF m 60 #[.val (.int p0), .val (.int p1), .val (.int p2), .val (.int p3), .val (.int cc), .unset, .unset, .unset, .unset, .unset, .unset] [(.ref b1)]) _
  refine stp (fun _ => XS.astore X26.here hx rfl (hb hby at_60) rfl rfl (l' := #[.val (.int p0), .val (.int p1), .val (.int p2), .val (.int p3), .val (.int cc), .val (.ref b1), .unset, .unset, .unset, .unset, .unset]) rfl) ?_
  show Go p e below T26 (mkF m 62 #[.val (.int p0), .val (.int p1), .val (.int p2), .val (.int p3), .val (.int cc), .val (.ref b1), .unset, .unset, .unset, .unset, .unset] []) _
  refine stp (fun _ => XS.iloadN X26.here hx rfl (hb hby at_62) rfl) ?_
  show Go p e below T26 (mkF m 63 #[.val (.int p0), .val (.int p1), .val (.int p2), .val (.int p3), .val (.int cc), .val (.ref b1), .unset, .unset, .unset, .unset, .unset] [(.int p1)]) _
  refine stp (fun _ => XS.bipush X26.here hx rfl (hb hby at_63)) ?_
  show Go p e below T26 (mkF m 65 #[.val (.int p0), .val (.int p1), .val (.int p2), .val (.int p3), .val (.int cc), .val (.ref b1), .unset, .unset, .unset, .unset, .unset] [(.int (7 : Int32)), (.int p1)]) _
  refine stp (fun _ => XS.iand X26.here hx rfl (hb hby at_65) rfl) ?_
  show Go p e below T26 (mkF m 66 #[.val (.int p0), .val (.int p1), .val (.int p2), .val (.int p3), .val (.int cc), .val (.ref b1), .unset, .unset, .unset, .unset, .unset] [(.int (p1 &&& (7 : Int32)))]) _
  refine stp (fun _ => XS.istore X26.here hx rfl (hb hby at_66) rfl (l' := #[.val (.int p0), .val (.int p1), .val (.int p2), .val (.int p3), .val (.int cc), .val (.ref b1), .val (.int (p1 &&& (7 : Int32))), .unset, .unset, .unset, .unset]) rfl) ?_
  show Go p e below T26 (mkF m 68 #[.val (.int p0), .val (.int p1), .val (.int p2), .val (.int p3), .val (.int cc), .val (.ref b1), .val (.int (p1 &&& (7 : Int32))), .unset, .unset, .unset, .unset] []) _
  refine stp (fun _ => XS.iload X26.here hx rfl (hb hby at_68) rfl) ?_
  show Go p e below T26 (mkF m 70 #[.val (.int p0), .val (.int p1), .val (.int p2), .val (.int p3), .val (.int cc), .val (.ref b1), .val (.int (p1 &&& (7 : Int32))), .unset, .unset, .unset, .unset] [(.int (p1 &&& (7 : Int32)))]) _
  refine stp (fun _ => XS.iconst X26.here hx rfl (hb hby at_70)) ?_
  show Go p e below T26 (mkF m 71 #[.val (.int p0), .val (.int p1), .val (.int p2), .val (.int p3), .val (.int cc), .val (.ref b1), .val (.int (p1 &&& (7 : Int32))), .unset, .unset, .unset, .unset] [(.int (1 : Int32)), (.int (p1 &&& (7 : Int32)))]) _
  by_cases q71_29 : (p1 &&& (7 : Int32)) = (1 : Int32)
  · refine stp (fun _ => XS.icmpNo X26.here hx rfl (hb hby at_71) rfl (XT.ii_ne_f q71_29)) ?_
    show Go p e below T26 (mkF m 74 #[.val (.int p0), .val (.int p1), .val (.int p2), .val (.int p3), .val (.int cc), .val (.ref b1), .val (.int (p1 &&& (7 : Int32))), .unset, .unset, .unset, .unset] []) _
    refine stp (fun _ => XS.iloadN X26.here hx rfl (hb hby at_74) rfl) ?_
    show Go p e below T26 (mkF m 75 #[.val (.int p0), .val (.int p1), .val (.int p2), .val (.int p3), .val (.int cc), .val (.ref b1), .val (.int (p1 &&& (7 : Int32))), .unset, .unset, .unset, .unset] [(.int p2)]) _
    refine stp (fun _ => X26.ldcInt hx hown (mvT hZ (hw _ (List.mem_of_getElem? (i := 1) rfl))) (g := (mkF m 75 #[.val (.int p0), .val (.int p1), .val (.int p2), .val (.int p3), .val (.int cc), .val (.ref b1), .val (.int (p1 &&& (7 : Int32))), .unset, .unset, .unset, .unset] [(.int p2)])) rfl (hb hby at_75) _) ?_
    show Go p e below T26 (mkF m 77 #[.val (.int p0), .val (.int p1), .val (.int p2), .val (.int p3), .val (.int cc), .val (.ref b1), .val (.int (p1 &&& (7 : Int32))), .unset, .unset, .unset, .unset] [(.int (2147483647 : Int32)), (.int p2)]) _
    refine stp (fun _ => XS.iand X26.here hx rfl (hb hby at_77) rfl) ?_
    show Go p e below T26 (mkF m 78 #[.val (.int p0), .val (.int p1), .val (.int p2), .val (.int p3), .val (.int cc), .val (.ref b1), .val (.int (p1 &&& (7 : Int32))), .unset, .unset, .unset, .unset] [(.int (p2 &&& (2147483647 : Int32)))]) _
    refine stp (fun _ => XS.bipush X26.here hx rfl (hb hby at_78)) ?_
    show Go p e below T26 (mkF m 80 #[.val (.int p0), .val (.int p1), .val (.int p2), .val (.int p3), .val (.int cc), .val (.ref b1), .val (.int (p1 &&& (7 : Int32))), .unset, .unset, .unset, .unset] [(.int (9 : Int32)), (.int (p2 &&& (2147483647 : Int32)))]) _
    refine stp (fun _ => iremM X26 hx rfl (hb hby at_80) rfl (by decide)) ?_
    show Go p e below T26 (mkF m 81 #[.val (.int p0), .val (.int p1), .val (.int p2), .val (.int p3), .val (.int cc), .val (.ref b1), .val (.int (p1 &&& (7 : Int32))), .unset, .unset, .unset, .unset] [(.int ((p2 &&& (2147483647 : Int32)) % (9 : Int32)))]) _
    refine stp (fun _ => XS.istore X26.here hx rfl (hb hby at_81) rfl (l' := #[.val (.int p0), .val (.int p1), .val (.int p2), .val (.int p3), .val (.int cc), .val (.ref b1), .val (.int (p1 &&& (7 : Int32))), .unset, .unset, .val (.int ((p2 &&& (2147483647 : Int32)) % (9 : Int32))), .unset]) rfl) ?_
    show Go p e below T26 (mkF m 83 #[.val (.int p0), .val (.int p1), .val (.int p2), .val (.int p3), .val (.int cc), .val (.ref b1), .val (.int (p1 &&& (7 : Int32))), .unset, .unset, .val (.int ((p2 &&& (2147483647 : Int32)) % (9 : Int32))), .unset] []) _
    obtain ⟨pp, hpp⟩ : ∃ z : Int32, z = ((p2 &&& (2147483647 : Int32)) % (9 : Int32)) := ⟨_, rfl⟩
    rw [← hpp]
    show Go p e below T26 (mkF m 83 #[.val (.int p0), .val (.int p1), .val (.int p2), .val (.int p3), .val (.int cc), .val (.ref b1), .val (.int (p1 &&& (7 : Int32))), .unset, .unset, .val (.int pp), .unset] []) _
    replace hpp := own_rem9 hpp
    refine stp (fun _ => XS.aload X26.here hx rfl (hb hby at_83) rfl rfl) ?_
    show Go p e below T26 (mkF m 85 #[.val (.int p0), .val (.int p1), .val (.int p2), .val (.int p3), .val (.int cc), .val (.ref b1), .val (.int (p1 &&& (7 : Int32))), .unset, .unset, .val (.int pp), .unset] [(.ref b1)]) _
    refine stp (fun _ => XS.iload X26.here hx rfl (hb hby at_85) rfl) ?_
    show Go p e below T26 (mkF m 87 #[.val (.int p0), .val (.int p1), .val (.int p2), .val (.int p3), .val (.int cc), .val (.ref b1), .val (.int (p1 &&& (7 : Int32))), .unset, .unset, .val (.int pp), .unset] [(.int pp), (.ref b1)]) _
    obtain ⟨cl30, Ar30, q30, S30, M30, H30, G30⟩ := (id V26)
    have in30 : ¬ (pp < 0 ∨ cl30.slots.size ≤ (pp).toNatClampNeg) := inb_of S30 hpp
    have at30 : cl30.slots[(pp).toNatClampNeg]? = some (.int (own_tb pp)) := H30.at in30 (own_at hpp)
    refine stp (fun _ => X26.caload hx (j := pp) (v := (.int (own_tb pp))) (by rw [e26]; exact Ar30.1) (State.isArrayOf_alike hZ.alike Ar30.2.1) Ar30.2.2 in30 at30 (g := (mkF m 87 #[.val (.int p0), .val (.int p1), .val (.int p2), .val (.int p3), .val (.int cc), .val (.ref b1), .val (.int (p1 &&& (7 : Int32))), .unset, .unset, .val (.int pp), .unset] [(.int pp), (.ref b1)])) rfl rfl (hb hby at_87) _) ?_
    show Go p e below T26 (mkF m 88 #[.val (.int p0), .val (.int p1), .val (.int p2), .val (.int p3), .val (.int cc), .val (.ref b1), .val (.int (p1 &&& (7 : Int32))), .unset, .unset, .val (.int pp), .unset] [(.int (own_tb pp))]) _
    refine stp (fun _ => XS.istore X26.here hx rfl (hb hby at_88) rfl (l' := #[.val (.int p0), .val (.int p1), .val (.int p2), .val (.int p3), .val (.int cc), .val (.ref b1), .val (.int (p1 &&& (7 : Int32))), .unset, .unset, .val (.int pp), .val (.int (own_tb pp))]) rfl) ?_
    show Go p e below T26 (mkF m 90 #[.val (.int p0), .val (.int p1), .val (.int p2), .val (.int p3), .val (.int cc), .val (.ref b1), .val (.int (p1 &&& (7 : Int32))), .unset, .unset, .val (.int pp), .val (.int (own_tb pp))] []) _
    refine stp (fun _ => XS.aload X26.here hx rfl (hb hby at_90) rfl rfl) ?_
    show Go p e below T26 (mkF m 92 #[.val (.int p0), .val (.int p1), .val (.int p2), .val (.int p3), .val (.int cc), .val (.ref b1), .val (.int (p1 &&& (7 : Int32))), .unset, .unset, .val (.int pp), .val (.int (own_tb pp))] [(.ref b1)]) _
    refine stp (fun _ => XS.iload X26.here hx rfl (hb hby at_92) rfl) ?_
    show Go p e below T26 (mkF m 94 #[.val (.int p0), .val (.int p1), .val (.int p2), .val (.int p3), .val (.int cc), .val (.ref b1), .val (.int (p1 &&& (7 : Int32))), .unset, .unset, .val (.int pp), .val (.int (own_tb pp))] [(.int pp), (.ref b1)]) _
    refine stp (fun _ => XS.iload X26.here hx rfl (hb hby at_94) rfl) ?_
    show Go p e below T26 (mkF m 96 #[.val (.int p0), .val (.int p1), .val (.int p2), .val (.int p3), .val (.int cc), .val (.ref b1), .val (.int (p1 &&& (7 : Int32))), .unset, .unset, .val (.int pp), .val (.int (own_tb pp))] [(.int cc), (.int pp), (.ref b1)]) _
    obtain ⟨cl31, Ar31, q31, S31, M31, H31, G31⟩ := (id V26)
    have in31 : ¬ (pp < 0 ∨ cl31.slots.size ≤ (pp).toNatClampNeg) := inb_of S31 hpp
    obtain ⟨T31, h31, X31, e31, W31, st31⟩ := stC X26 hx hZ e26 Ar31 (j := pp) in31 (g := (mkF m 96 #[.val (.int p0), .val (.int p1), .val (.int p2), .val (.int p3), .val (.int cc), .val (.ref b1), .val (.int (p1 &&& (7 : Int32))), .unset, .unset, .val (.int pp), .val (.int (own_tb pp))] [(.int cc), (.int pp), (.ref b1)])) rfl rfl (hb hby at_96)
    have V31 : Arv Z h31 b1 k1 .char (9 : Int32) [(.int (own_put pp cc (0 : Int32))), (.int (own_put pp cc (1 : Int32))), (.int (own_put pp cc (2 : Int32))), (.int (own_put pp cc (3 : Int32))), (.int (own_put pp cc (4 : Int32))), (.int (own_put pp cc (5 : Int32))), (.int (own_put pp cc (6 : Int32))), (.int (own_put pp cc (7 : Int32))), (.int (own_put pp cc (8 : Int32)))] (.int (0 : Int32)) := (own_set hpp) ▸ Arv.set Ar31 q31 S31 M31 H31 G31 (ow_fits_char (char255 hcc)) (ow_wr_char (char255 hcc) W31) _ rfl (own_lt hpp)
    have f32 := f27.wr W31
    have hk := Nat.le_trans hk (Keep.of_wr W31).1
    have CR := CR.trans (CHr.wr W31 (Safe.exa hZ.alike f27 (by decide) (by decide)) CR.1)
    have K31 : Keep h0 h31 [] := K26.wr W31 (Or.inr sz_b1)
    have O31 := O26.wr W31 ge_b1
    have N31 := Fr.snoc X31 N26 ge_b1
    refine stp st31 ?_
    show Go p e below T31 (mkF m 97 #[.val (.int p0), .val (.int p1), .val (.int p2), .val (.int p3), .val (.int cc), .val (.ref b1), .val (.int (p1 &&& (7 : Int32))), .unset, .unset, .val (.int pp), .val (.int (own_tb pp))] []) _
    obtain ⟨T34, h34, X34, e34, E34, A34, D34, -, st34⟩ := newO X31 hx hZ hown (hw _ (List.mem_of_getElem? (i := 6) rfl)) (hw _ (List.mem_of_getElem? (i := 7) rfl)) (hw _ (List.mem_of_getElem? (i := 8) rfl)) e31 (g := (mkF m 97 #[.val (.int p0), .val (.int p1), .val (.int p2), .val (.int p3), .val (.int cc), .val (.ref b1), .val (.int (p1 &&& (7 : Int32))), .unset, .unset, .val (.int pp), .val (.int (own_tb pp))] [])) rfl (hb hby at_97) (by decide) (by decide)
    obtain ⟨b34, g34⟩ : ∃ z, z = h31.size := ⟨_, rfl⟩
    rw [← g34] at A34 D34 st34
    have ne35 : b1 ≠ b34 := Nat.ne_of_lt (Nat.lt_of_lt_of_le f32.lt (Nat.le_of_eq g34.symm))
    have sz_b34 : h0.size ≤ b34 := Nat.le_trans K31.1 (Nat.le_of_eq g34.symm)
    have ge_b34 : n0 ≤ b34 := Nat.le_trans (old_le O31) (Nat.le_of_eq g34.symm)
    have f36 := f32.ext E34
    have f37 := V31.ext E34
    have Sf34 := (Safe.new (Z := Z) (EL := consts_1) (Nat.le_of_eq g34.symm)).ext E34 CR.1
    have hk := Nat.le_trans hk E34.1
    have CR := CR.trans (CHr.ext E34 CR.1)
    have K34 : Keep h0 h34 [] := K31.ext E34
    have O34 := O31.ext E34
    have F38 : Fld Z h34 b34 "java/lang/String" "coder" "B" (.int (0 : Int32)) := D34 (Or.inr (hw _ (List.mem_of_getElem? (i := 32) rfl))) (ty := .byte) (by decide)
    have F39 : Fld Z h34 b34 "java/lang/String" "value" "[B" .null := D34 (Or.inr (hw _ (List.mem_of_getElem? (i := 34) rfl))) (ty := (.array .byte)) (by decide)
    refine stp st34 ?_
    show Go p e below T34 (mkF m 100 #[.val (.int p0), .val (.int p1), .val (.int p2), .val (.int p3), .val (.int cc), .val (.ref b1), .val (.int (p1 &&& (7 : Int32))), .unset, .unset, .val (.int pp), .val (.int (own_tb pp))] [(.ref b34)]) _
    refine stp (fun _ => XS.dup X34.here hx rfl (hb hby at_100) rfl rfl) ?_
    show Go p e below T34 (mkF m 101 #[.val (.int p0), .val (.int p1), .val (.int p2), .val (.int p3), .val (.int cc), .val (.ref b1), .val (.int (p1 &&& (7 : Int32))), .unset, .unset, .val (.int pp), .val (.int (own_tb pp))] [(.ref b34), (.ref b34)]) _
    refine stp (fun _ => XS.aload X34.here hx rfl (hb hby at_101) rfl rfl) ?_
    show Go p e below T34 (mkF m 103 #[.val (.int p0), .val (.int p1), .val (.int p2), .val (.int p3), .val (.int cc), .val (.ref b1), .val (.int (p1 &&& (7 : Int32))), .unset, .unset, .val (.int pp), .val (.int (own_tb pp))] [(.ref b1), (.ref b34), (.ref b34)]) _
    obtain ⟨_, _, ⟨T40, L40, k40, n40⟩, -, X40, ⟨Lc40, hQ40, l40, y40, z40⟩, st40⟩ := X34.specialBack hx (y := (⟨"java/lang/String", "<init>", "([C)V"⟩ : MethodName)) rfl hown (mvT hZ (hw _ (List.mem_of_getElem? (i := 9) rfl))) (mvT hZ (hw _ (List.mem_of_getElem? (i := 10) rfl))) (mvT hZ (hw _ (List.mem_of_getElem? (i := 11) rfl))) (by decide) (StrChars.Road.backV (W := 1) hZ hws (kI := 4) (hw _ (List.mem_of_getElem? (i := 7) rfl)) (cs := ([(own_put pp cc (0 : Int32)), (own_put pp cc (1 : Int32)), (own_put pp cc (2 : Int32)), (own_put pp cc (3 : Int32)), (own_put pp cc (4 : Int32)), (own_put pp cc (5 : Int32)), (own_put pp cc (6 : Int32)), (own_put pp cc (7 : Int32)), (own_put pp cc (8 : Int32))] : List Int32)) (bs := ([(own_put pp cc (0 : Int32)), (own_put pp cc (1 : Int32)), (own_put pp cc (2 : Int32)), (own_put pp cc (3 : Int32)), (own_put pp cc (4 : Int32)), (own_put pp cc (5 : Int32)), (own_put pp cc (6 : Int32)), (own_put pp cc (7 : Int32)), (own_put pp cc (8 : Int32))] : List Int32).map (fun c => c.toInt8.toInt32)) (n := 9) ge_b34 (old_le O34) A34 F39 F38 f37 (S_CS.ext O34.2) hcz rfl rfl (by decide) (by decide) (own_sm1 (own_put_sm hcc _ _) (own_sm1 (own_put_sm hcc _ _) (own_sm1 (own_put_sm hcc _ _) (own_sm1 (own_put_sm hcc _ _) (own_sm1 (own_put_sm hcc _ _) (own_sm1 (own_put_sm hcc _ _) (own_sm1 (own_put_sm hcc _ _) (own_sm1 (own_put_sm hcc _ _) (own_sm1 (own_put_sm hcc _ _) own_sm0))))))))) rfl (by decide) (by decide)) (g := (mkF m 103 #[.val (.int p0), .val (.int p1), .val (.int p2), .val (.int p3), .val (.int cc), .val (.ref b1), .val (.int (p1 &&& (7 : Int32))), .unset, .unset, .val (.int pp), .val (.int (own_tb pp))] [(.ref b1), (.ref b34), (.ref b34)])) rfl (by rw [hml]; rfl) (Steps.refl _) (a := b34) (argsL := [(.ref b1)]) (rest := [(.ref b34)]) (lenOf pd_5 rfl) rfl (by show 2 * 0 + _ ≤ _; exact Nat.le_of_eq rfl) (hb hby at_103) (fun _ _ => ⟨rfl, e34, (by decide : 2 + 1 ≤ _), (by decide : 13 + 9 ≤ _)⟩)
    dsimp only [Pt.U, Pt.locs, Pt.cells, Pt.slots] at X40 l40 y40 z40 st40 hQ40
    subst y40 z40
    obtain ⟨rfl, N40q, K40q, E40q, C40q, t40, kb40, ge_t40, sz40q, ne40q, F40q, V40q⟩ := hQ40
    have N40 : Fr n0 L40 := by rw [l40]; exact Fr.app N31 N40q
    have ne41 : b1 ≠ t40 := Nat.ne_of_lt (Nat.lt_of_lt_of_le f36.lt sz40q)
    have f42 := f36.keep K40q
    have f43 := f37.keep K40q (ninS ne35 nin0)
    have f44 := Sf34.keep K40q (sfS Sf34 sf0) CR.1
    have hk := Nat.le_trans hk K40q.1
    have CR := CR.trans (CHr.keep K40q (sfS Sf34 sf0) CR.1)
    have K40 : Keep h0 T40.heap [] := K34.trans K40q (allS (Or.inr sz_b34) all0)
    have sz_t40 : h0.size ≤ t40 := Nat.le_trans K34.1 sz40q
    have O40 := O34.keep K40q (allS ge_b34 all0)
    have Q40 : StrIs Z T40.heap b34 ([(own_put pp cc (0 : Int32)), (own_put pp cc (1 : Int32)), (own_put pp cc (2 : Int32)), (own_put pp cc (3 : Int32)), (own_put pp cc (4 : Int32)), (own_put pp cc (5 : Int32)), (own_put pp cc (6 : Int32)), (own_put pp cc (7 : Int32)), (own_put pp cc (8 : Int32))] : List Int32) := StrIs.of E40q F40q C40q V40q rfl rfl (own_sm1 (own_put_sm hcc _ _) (own_sm1 (own_put_sm hcc _ _) (own_sm1 (own_put_sm hcc _ _) (own_sm1 (own_put_sm hcc _ _) (own_sm1 (own_put_sm hcc _ _) (own_sm1 (own_put_sm hcc _ _) (own_sm1 (own_put_sm hcc _ _) (own_sm1 (own_put_sm hcc _ _) (own_sm1 (own_put_sm hcc _ _) own_sm0))))))))) (Nat.le_of_ble_eq_true rfl)
    refine stt st40 ?_
    show Go p e below T40 (mkF m 106 #[.val (.int p0), .val (.int p1), .val (.int p2), .val (.int p3), .val (.int cc), .val (.ref b1), .val (.int (p1 &&& (7 : Int32))), .unset, .unset, .val (.int pp), .val (.int (own_tb pp))] [(.ref b34)]) _
    refine stp (fun _ => XS.astore X40.here hx rfl (hb hby at_106) rfl rfl (l' := #[.val (.int p0), .val (.int p1), .val (.int p2), .val (.int p3), .val (.int cc), .val (.ref b1), .val (.int (p1 &&& (7 : Int32))), .val (.ref b34), .unset, .val (.int pp), .val (.int (own_tb pp))]) rfl) ?_
    show Go p e below T40 (mkF m 108 #[.val (.int p0), .val (.int p1), .val (.int p2), .val (.int p3), .val (.int cc), .val (.ref b1), .val (.int (p1 &&& (7 : Int32))), .val (.ref b34), .unset, .val (.int pp), .val (.int (own_tb pp))] []) _
    refine stp (fun _ => XS.iload X40.here hx rfl (hb hby at_108) rfl) ?_
    show Go p e below T40 (mkF m 110 #[.val (.int p0), .val (.int p1), .val (.int p2), .val (.int p3), .val (.int cc), .val (.ref b1), .val (.int (p1 &&& (7 : Int32))), .val (.ref b34), .unset, .val (.int pp), .val (.int (own_tb pp))] [(.int cc)]) _
    refine stp (fun _ => XS.iload X40.here hx rfl (hb hby at_110) rfl) ?_
    show Go p e below T40 (mkF m 112 #[.val (.int p0), .val (.int p1), .val (.int p2), .val (.int p3), .val (.int cc), .val (.ref b1), .val (.int (p1 &&& (7 : Int32))), .val (.ref b34), .unset, .val (.int pp), .val (.int (own_tb pp))] [(.int (own_tb pp)), (.int cc)]) _
    by_cases q112_45 : cc = (own_tb pp)
    · refine stp (fun _ => XS.icmpNo X40.here hx rfl (hb hby at_112) rfl (XT.ii_ne_f q112_45)) ?_
      show Go p e below T40 (mkF m 115 #[.val (.int p0), .val (.int p1), .val (.int p2), .val (.int p3), .val (.int cc), .val (.ref b1), .val (.int (p1 &&& (7 : Int32))), .val (.ref b34), .unset, .val (.int pp), .val (.int (own_tb pp))] []) _
      refine stp (fun _ => XS.iconst X40.here hx rfl (hb hby at_115)) ?_
      show Go p e below T40 (mkF m 116 #[.val (.int p0), .val (.int p1), .val (.int p2), .val (.int p3), .val (.int cc), .val (.ref b1), .val (.int (p1 &&& (7 : Int32))), .val (.ref b34), .unset, .val (.int pp), .val (.int (own_tb pp))] [(.int (1 : Int32))]) _
      refine stp (fun _ => XS.goto X40.here hx rfl (pc0 := 116) (pc' := 120) rfl (hb hby at_116) (by decide) (by decide)) ?_
      show Go p e below T40 (mkF m 120 #[.val (.int p0), .val (.int p1), .val (.int p2), .val (.int p3), .val (.int cc), .val (.ref b1), .val (.int (p1 &&& (7 : Int32))), .val (.ref b34), .unset, .val (.int pp), .val (.int (own_tb pp))] [(.int (1 : Int32))]) _
      refine stp (fun _ => XS.istore X40.here hx rfl (hb hby at_120) rfl (l' := #[.val (.int p0), .val (.int p1), .val (.int p2), .val (.int p3), .val (.int cc), .val (.ref b1), .val (.int (p1 &&& (7 : Int32))), .val (.ref b34), .val (.int (1 : Int32)), .val (.int pp), .val (.int (own_tb pp))]) rfl) ?_
      show Go p e below T40 (mkF m 122 #[.val (.int p0), .val (.int p1), .val (.int p2), .val (.int p3), .val (.int cc), .val (.ref b1), .val (.int (p1 &&& (7 : Int32))), .val (.ref b34), .val (.int (1 : Int32)), .val (.int pp), .val (.int (own_tb pp))] []) _
      refine stp (fun _ => XS.goto X40.here hx rfl (pc0 := 122) (pc' := 506) rfl (hb hby at_122) (by decide) (by decide)) ?_
      show Go p e below T40 (mkF m 506 #[.val (.int p0), .val (.int p1), .val (.int p2), .val (.int p3), .val (.int cc), .val (.ref b1), .val (.int (p1 &&& (7 : Int32))), .val (.ref b34), .val (.int (1 : Int32)), .val (.int pp), .val (.int (own_tb pp))] []) _
      refine stp (fun _ => XS.iloadN X40.here hx rfl (hb hby at_506) rfl) ?_
      show Go p e below T40 (mkF m 507 #[.val (.int p0), .val (.int p1), .val (.int p2), .val (.int p3), .val (.int cc), .val (.ref b1), .val (.int (p1 &&& (7 : Int32))), .val (.ref b34), .val (.int (1 : Int32)), .val (.int pp), .val (.int (own_tb pp))] [(.int p0)]) _
      refine stp (fun _ => XS.sipush X40.here hx rfl (hb hby at_507)) ?_
      show Go p e below T40 (mkF m 510 #[.val (.int p0), .val (.int p1), .val (.int p2), .val (.int p3), .val (.int cc), .val (.ref b1), .val (.int (p1 &&& (7 : Int32))), .val (.ref b34), .val (.int (1 : Int32)), .val (.int pp), .val (.int (own_tb pp))] [(.int (200 : Int32)), (.int p0)]) _
      by_cases q510_46 : p0 < (200 : Int32)
      · refine stp (fun _ => XS.icmpYes X40.here hx rfl (pc0 := 510) (pc' := 539) rfl (hb hby at_510) rfl (XT.ii_lt_t q510_46) (by decide) (by decide)) ?_
        show Go p e below T40 (mkF m 539 #[.val (.int p0), .val (.int p1), .val (.int p2), .val (.int p3), .val (.int cc), .val (.ref b1), .val (.int (p1 &&& (7 : Int32))), .val (.ref b34), .val (.int (1 : Int32)), .val (.int pp), .val (.int (own_tb pp))] []) _
        obtain ⟨T47, X47, e47, st47⟩ := getS2 X40 hx hZ hown (host := "") (Or.inl (hw _ (List.mem_of_getElem? (i := 35) rfl))) Via.refl rfl (S_ERROR.ext O40.2) (g := (mkF m 539 #[.val (.int p0), .val (.int p1), .val (.int p2), .val (.int p3), .val (.int cc), .val (.ref b1), .val (.int (p1 &&& (7 : Int32))), .val (.ref b34), .val (.int (1 : Int32)), .val (.int pp), .val (.int (own_tb pp))] [])) rfl (hb hby at_539)
        refine stp st47 ?_
        show Go p e below T47 (mkF m 542 #[.val (.int p0), .val (.int p1), .val (.int p2), .val (.int p3), .val (.int cc), .val (.ref b1), .val (.int (p1 &&& (7 : Int32))), .val (.ref b34), .val (.int (1 : Int32)), .val (.int pp), .val (.int (own_tb pp))] [(.ref error_)]) _
        refine stp (fun _ => XS.astore X47.here hx rfl (hb hby at_542) rfl rfl (l' := #[.val (.int p0), .val (.int p1), .val (.int p2), .val (.int p3), .val (.int cc), .val (.ref b1), .val (.int (p1 &&& (7 : Int32))), .val (.ref b34), .val (.int (1 : Int32)), .val (.ref error_), .val (.int (own_tb pp))]) rfl) ?_
        show Go p e below T47 (mkF m 544 #[.val (.int p0), .val (.int p1), .val (.int p2), .val (.int p3), .val (.int cc), .val (.ref b1), .val (.int (p1 &&& (7 : Int32))), .val (.ref b34), .val (.int (1 : Int32)), .val (.ref error_), .val (.int (own_tb pp))] []) _
        refine stp (fun _ => XS.iloadN X47.here hx rfl (hb hby at_544) rfl) ?_
        show Go p e below T47 (mkF m 545 #[.val (.int p0), .val (.int p1), .val (.int p2), .val (.int p3), .val (.int cc), .val (.ref b1), .val (.int (p1 &&& (7 : Int32))), .val (.ref b34), .val (.int (1 : Int32)), .val (.ref error_), .val (.int (own_tb pp))] [(.int p0)]) _
        refine stp (fun _ => XS.aload X47.here hx rfl (hb hby at_545) rfl rfl) ?_
        show Go p e below T47 (mkF m 547 #[.val (.int p0), .val (.int p1), .val (.int p2), .val (.int p3), .val (.int cc), .val (.ref b1), .val (.int (p1 &&& (7 : Int32))), .val (.ref b34), .val (.int (1 : Int32)), .val (.ref error_), .val (.int (own_tb pp))] [(.ref b34), (.int p0)]) _
        obtain ⟨_, _, ⟨T48, L48, k48, n48⟩, -, X48, hS48, gg48, ⟨Lc48, hQ48, l48, y48, z48, CRn48⟩, st48⟩ := callSS X47 hx (y := (⟨"com/example/fetch_to_rank/fetchtorank/crawl/Outcome", "of", "(ILjava/lang/String;)Lcom/example/fetch_to_rank/fetchtorank/crawl/Outcome;"⟩ : MethodName)) hown (mvT hZ (hw _ (List.mem_of_getElem? (i := 38) rfl))) (mvT hZ (hw _ (List.mem_of_getElem? (i := 39) rfl))) (mvT hZ (hw _ (List.mem_of_getElem? (i := 36) rfl))) (mvT hZ (hw _ (List.mem_of_getElem? (i := 40) rfl))) (by decide) (backOfSH (W := 0) (rm_of l Z a0 hw [] p0 b34 ([(own_put pp cc (0 : Int32)), (own_put pp cc (1 : Int32)), (own_put pp cc (2 : Int32)), (own_put pp cc (3 : Int32)), (own_put pp cc (4 : Int32)), (own_put pp cc (5 : Int32)), (own_put pp cc (6 : Int32)), (own_put pp cc (7 : Int32)), (own_put pp cc (8 : Int32))] : List Int32) error_ page skipped error_ cz T40.heap n0 O40 hEL Q40 S_ERROR S_PAGE S_SKIPPED S_CS hcz ⟨fun _ => rfl, fun _ => rfl, fun h => absurd q510_46 h, fun h => absurd q510_46 h⟩) hZ (hw _ (List.mem_of_getElem? (i := 40) rfl)) (hw _ (List.mem_of_getElem? (i := 36) rfl)) (by decide) (by decide) hEL CR.1) (g := (mkF m 547 #[.val (.int p0), .val (.int p1), .val (.int p2), .val (.int p3), .val (.int cc), .val (.ref b1), .val (.int (p1 &&& (7 : Int32))), .val (.ref b34), .val (.int (1 : Int32)), .val (.ref error_), .val (.int (own_tb pp))] [(.ref b34), (.int p0)])) rfl (by rw [hml]; rfl) (argsL := [(.int p0), (.ref b34)]) (rest := []) (lenOf pd_6 rfl) rfl (by show 2 * 0 + _ ≤ _; exact Nat.le_of_eq rfl) (hb hby at_547) (fun _ _ => ⟨rfl, e47, (by decide : 3 + 2 ≤ _), (by decide : 22 + 40 ≤ _)⟩)
        dsimp only [Pt.U, Pt.locs, Pt.cells, Pt.slots] at X48 hS48 gg48 l48 y48 z48 st48 hQ48 CRn48
        subst y48 z48
        obtain ⟨X48, hS, hZ, hown⟩ := rebS hS (by rw [e47]; exact hk) X48 hS48 gg48 hZ hown
        obtain ⟨rfl, N48q, K48q⟩ := hQ48
        have N48 : Fr n0 L48 := by rw [l48]; exact Fr.app N40 N48q
        have f49 := f42.keep K48q
        have f50 := f43.keep K48q nin0
        have f51 := CRn48.safe E40q.lt f44
        have f52 := E40q.keep K48q
        have f53 := Q40.keep K48q nin0 apart0
        have K48 : Keep h0 T48.heap [] := K40.trans K48q all0
        have O48 := O40.keep K48q all0
        have hk : T48.heap.size ≤ T48.heap.size := Nat.le_refl _
        have CR := CR.trans CRn48
        refine stt st48 ?_
        show Go p e below T48 (mkF m 550 #[.val (.int p0), .val (.int p1), .val (.int p2), .val (.int p3), .val (.int cc), .val (.ref b1), .val (.int (p1 &&& (7 : Int32))), .val (.ref b34), .val (.int (1 : Int32)), .val (.ref error_), .val (.int (own_tb pp))] [(.ref error_)]) _
        refine stp (fun _ => XS.aload X48.here hx rfl (hb hby at_550) rfl rfl) ?_
        show Go p e below T48 (mkF m 552 #[.val (.int p0), .val (.int p1), .val (.int p2), .val (.int p3), .val (.int cc), .val (.ref b1), .val (.int (p1 &&& (7 : Int32))), .val (.ref b34), .val (.int (1 : Int32)), .val (.ref error_), .val (.int (own_tb pp))] [(.ref error_), (.ref error_)]) _
        refine stp (fun _ => Jvm.RoadKit.acmp (g := (mkF m 552 #[.val (.int p0), .val (.int p1), .val (.int p2), .val (.int p3), .val (.int cc), .val (.ref b1), .val (.int (p1 &&& (7 : Int32))), .val (.ref b34), .val (.int (1 : Int32)), .val (.ref error_), .val (.int (own_tb pp))] [(.ref error_), (.ref error_)])) X48 hx rfl rfl rfl (pc0 := 552) (pc' := 555) (same := true) rfl (hb hby at_552) rfl (decide_eq_true rfl) (by decide) (by decide)) ?_
        show Go p e below T48 (mkF m 555 #[.val (.int p0), .val (.int p1), .val (.int p2), .val (.int p3), .val (.int cc), .val (.ref b1), .val (.int (p1 &&& (7 : Int32))), .val (.ref b34), .val (.int (1 : Int32)), .val (.ref error_), .val (.int (own_tb pp))] []) _
        refine stp (fun _ => XS.iconst X48.here hx rfl (hb hby at_555)) ?_
        show Go p e below T48 (mkF m 556 #[.val (.int p0), .val (.int p1), .val (.int p2), .val (.int p3), .val (.int cc), .val (.ref b1), .val (.int (p1 &&& (7 : Int32))), .val (.ref b34), .val (.int (1 : Int32)), .val (.ref error_), .val (.int (own_tb pp))] [(.int (1 : Int32))]) _
        refine stp (fun _ => XS.goto X48.here hx rfl (pc0 := 556) (pc' := 560) rfl (hb hby at_556) (by decide) (by decide)) ?_
        show Go p e below T48 (mkF m 560 #[.val (.int p0), .val (.int p1), .val (.int p2), .val (.int p3), .val (.int cc), .val (.ref b1), .val (.int (p1 &&& (7 : Int32))), .val (.ref b34), .val (.int (1 : Int32)), .val (.ref error_), .val (.int (own_tb pp))] [(.int (1 : Int32))]) _
        refine outNW X48 hx hZ hEL rfl hS hk CR (t := .boolean) hret (by simp) (hb hby at_560) hlk (by decide) (by decide) ?_
        exact ⟨rfl, N48⟩
      · refine stp (fun _ => XS.icmpNo X40.here hx rfl (hb hby at_510) rfl (XT.ii_lt_f q510_46)) ?_
        show Go p e below T40 (mkF m 513 #[.val (.int p0), .val (.int p1), .val (.int p2), .val (.int p3), .val (.int cc), .val (.ref b1), .val (.int (p1 &&& (7 : Int32))), .val (.ref b34), .val (.int (1 : Int32)), .val (.int pp), .val (.int (own_tb pp))] []) _
        refine stp (fun _ => XS.iloadN X40.here hx rfl (hb hby at_513) rfl) ?_
        show Go p e below T40 (mkF m 514 #[.val (.int p0), .val (.int p1), .val (.int p2), .val (.int p3), .val (.int cc), .val (.ref b1), .val (.int (p1 &&& (7 : Int32))), .val (.ref b34), .val (.int (1 : Int32)), .val (.int pp), .val (.int (own_tb pp))] [(.int p0)]) _
        refine stp (fun _ => XS.sipush X40.here hx rfl (hb hby at_514)) ?_
        show Go p e below T40 (mkF m 517 #[.val (.int p0), .val (.int p1), .val (.int p2), .val (.int p3), .val (.int cc), .val (.ref b1), .val (.int (p1 &&& (7 : Int32))), .val (.ref b34), .val (.int (1 : Int32)), .val (.int pp), .val (.int (own_tb pp))] [(.int (299 : Int32)), (.int p0)]) _
        by_cases q517_54 : (299 : Int32) < p0
        · refine stp (fun _ => XS.icmpYes X40.here hx rfl (pc0 := 517) (pc' := 539) rfl (hb hby at_517) rfl (XT.ii_gt_t q517_54) (by decide) (by decide)) ?_
          show Go p e below T40 (mkF m 539 #[.val (.int p0), .val (.int p1), .val (.int p2), .val (.int p3), .val (.int cc), .val (.ref b1), .val (.int (p1 &&& (7 : Int32))), .val (.ref b34), .val (.int (1 : Int32)), .val (.int pp), .val (.int (own_tb pp))] []) _
          obtain ⟨T55, X55, e55, st55⟩ := getS2 X40 hx hZ hown (host := "") (Or.inl (hw _ (List.mem_of_getElem? (i := 35) rfl))) Via.refl rfl (S_ERROR.ext O40.2) (g := (mkF m 539 #[.val (.int p0), .val (.int p1), .val (.int p2), .val (.int p3), .val (.int cc), .val (.ref b1), .val (.int (p1 &&& (7 : Int32))), .val (.ref b34), .val (.int (1 : Int32)), .val (.int pp), .val (.int (own_tb pp))] [])) rfl (hb hby at_539)
          refine stp st55 ?_
          show Go p e below T55 (mkF m 542 #[.val (.int p0), .val (.int p1), .val (.int p2), .val (.int p3), .val (.int cc), .val (.ref b1), .val (.int (p1 &&& (7 : Int32))), .val (.ref b34), .val (.int (1 : Int32)), .val (.int pp), .val (.int (own_tb pp))] [(.ref error_)]) _
          refine stp (fun _ => XS.astore X55.here hx rfl (hb hby at_542) rfl rfl (l' := #[.val (.int p0), .val (.int p1), .val (.int p2), .val (.int p3), .val (.int cc), .val (.ref b1), .val (.int (p1 &&& (7 : Int32))), .val (.ref b34), .val (.int (1 : Int32)), .val (.ref error_), .val (.int (own_tb pp))]) rfl) ?_
          show Go p e below T55 (mkF m 544 #[.val (.int p0), .val (.int p1), .val (.int p2), .val (.int p3), .val (.int cc), .val (.ref b1), .val (.int (p1 &&& (7 : Int32))), .val (.ref b34), .val (.int (1 : Int32)), .val (.ref error_), .val (.int (own_tb pp))] []) _
          refine stp (fun _ => XS.iloadN X55.here hx rfl (hb hby at_544) rfl) ?_
          show Go p e below T55 (mkF m 545 #[.val (.int p0), .val (.int p1), .val (.int p2), .val (.int p3), .val (.int cc), .val (.ref b1), .val (.int (p1 &&& (7 : Int32))), .val (.ref b34), .val (.int (1 : Int32)), .val (.ref error_), .val (.int (own_tb pp))] [(.int p0)]) _
          refine stp (fun _ => XS.aload X55.here hx rfl (hb hby at_545) rfl rfl) ?_
          show Go p e below T55 (mkF m 547 #[.val (.int p0), .val (.int p1), .val (.int p2), .val (.int p3), .val (.int cc), .val (.ref b1), .val (.int (p1 &&& (7 : Int32))), .val (.ref b34), .val (.int (1 : Int32)), .val (.ref error_), .val (.int (own_tb pp))] [(.ref b34), (.int p0)]) _
          obtain ⟨_, _, ⟨T56, L56, k56, n56⟩, -, X56, hS56, gg56, ⟨Lc56, hQ56, l56, y56, z56, CRn56⟩, st56⟩ := callSS X55 hx (y := (⟨"com/example/fetch_to_rank/fetchtorank/crawl/Outcome", "of", "(ILjava/lang/String;)Lcom/example/fetch_to_rank/fetchtorank/crawl/Outcome;"⟩ : MethodName)) hown (mvT hZ (hw _ (List.mem_of_getElem? (i := 38) rfl))) (mvT hZ (hw _ (List.mem_of_getElem? (i := 39) rfl))) (mvT hZ (hw _ (List.mem_of_getElem? (i := 36) rfl))) (mvT hZ (hw _ (List.mem_of_getElem? (i := 40) rfl))) (by decide) (backOfSH (W := 0) (rm_of l Z a0 hw [] p0 b34 ([(own_put pp cc (0 : Int32)), (own_put pp cc (1 : Int32)), (own_put pp cc (2 : Int32)), (own_put pp cc (3 : Int32)), (own_put pp cc (4 : Int32)), (own_put pp cc (5 : Int32)), (own_put pp cc (6 : Int32)), (own_put pp cc (7 : Int32)), (own_put pp cc (8 : Int32))] : List Int32) error_ page skipped error_ cz T40.heap n0 O40 hEL Q40 S_ERROR S_PAGE S_SKIPPED S_CS hcz ⟨fun _ => rfl, fun _ => rfl, fun _ h => absurd q517_54 h, fun _ h => absurd q517_54 h⟩) hZ (hw _ (List.mem_of_getElem? (i := 40) rfl)) (hw _ (List.mem_of_getElem? (i := 36) rfl)) (by decide) (by decide) hEL CR.1) (g := (mkF m 547 #[.val (.int p0), .val (.int p1), .val (.int p2), .val (.int p3), .val (.int cc), .val (.ref b1), .val (.int (p1 &&& (7 : Int32))), .val (.ref b34), .val (.int (1 : Int32)), .val (.ref error_), .val (.int (own_tb pp))] [(.ref b34), (.int p0)])) rfl (by rw [hml]; rfl) (argsL := [(.int p0), (.ref b34)]) (rest := []) (lenOf pd_6 rfl) rfl (by show 2 * 0 + _ ≤ _; exact Nat.le_of_eq rfl) (hb hby at_547) (fun _ _ => ⟨rfl, e55, (by decide : 3 + 2 ≤ _), (by decide : 22 + 40 ≤ _)⟩)
          dsimp only [Pt.U, Pt.locs, Pt.cells, Pt.slots] at X56 hS56 gg56 l56 y56 z56 st56 hQ56 CRn56
          subst y56 z56
          obtain ⟨X56, hS, hZ, hown⟩ := rebS hS (by rw [e55]; exact hk) X56 hS56 gg56 hZ hown
          obtain ⟨rfl, N56q, K56q⟩ := hQ56
          have N56 : Fr n0 L56 := by rw [l56]; exact Fr.app N40 N56q
          have f57 := f42.keep K56q
          have f58 := f43.keep K56q nin0
          have f59 := CRn56.safe E40q.lt f44
          have f60 := E40q.keep K56q
          have f61 := Q40.keep K56q nin0 apart0
          have K56 : Keep h0 T56.heap [] := K40.trans K56q all0
          have O56 := O40.keep K56q all0
          have hk : T56.heap.size ≤ T56.heap.size := Nat.le_refl _
          have CR := CR.trans CRn56
          refine stt st56 ?_
          show Go p e below T56 (mkF m 550 #[.val (.int p0), .val (.int p1), .val (.int p2), .val (.int p3), .val (.int cc), .val (.ref b1), .val (.int (p1 &&& (7 : Int32))), .val (.ref b34), .val (.int (1 : Int32)), .val (.ref error_), .val (.int (own_tb pp))] [(.ref error_)]) _
          refine stp (fun _ => XS.aload X56.here hx rfl (hb hby at_550) rfl rfl) ?_
          show Go p e below T56 (mkF m 552 #[.val (.int p0), .val (.int p1), .val (.int p2), .val (.int p3), .val (.int cc), .val (.ref b1), .val (.int (p1 &&& (7 : Int32))), .val (.ref b34), .val (.int (1 : Int32)), .val (.ref error_), .val (.int (own_tb pp))] [(.ref error_), (.ref error_)]) _
          refine stp (fun _ => Jvm.RoadKit.acmp (g := (mkF m 552 #[.val (.int p0), .val (.int p1), .val (.int p2), .val (.int p3), .val (.int cc), .val (.ref b1), .val (.int (p1 &&& (7 : Int32))), .val (.ref b34), .val (.int (1 : Int32)), .val (.ref error_), .val (.int (own_tb pp))] [(.ref error_), (.ref error_)])) X56 hx rfl rfl rfl (pc0 := 552) (pc' := 555) (same := true) rfl (hb hby at_552) rfl (decide_eq_true rfl) (by decide) (by decide)) ?_
          show Go p e below T56 (mkF m 555 #[.val (.int p0), .val (.int p1), .val (.int p2), .val (.int p3), .val (.int cc), .val (.ref b1), .val (.int (p1 &&& (7 : Int32))), .val (.ref b34), .val (.int (1 : Int32)), .val (.ref error_), .val (.int (own_tb pp))] []) _
          refine stp (fun _ => XS.iconst X56.here hx rfl (hb hby at_555)) ?_
          show Go p e below T56 (mkF m 556 #[.val (.int p0), .val (.int p1), .val (.int p2), .val (.int p3), .val (.int cc), .val (.ref b1), .val (.int (p1 &&& (7 : Int32))), .val (.ref b34), .val (.int (1 : Int32)), .val (.ref error_), .val (.int (own_tb pp))] [(.int (1 : Int32))]) _
          refine stp (fun _ => XS.goto X56.here hx rfl (pc0 := 556) (pc' := 560) rfl (hb hby at_556) (by decide) (by decide)) ?_
          show Go p e below T56 (mkF m 560 #[.val (.int p0), .val (.int p1), .val (.int p2), .val (.int p3), .val (.int cc), .val (.ref b1), .val (.int (p1 &&& (7 : Int32))), .val (.ref b34), .val (.int (1 : Int32)), .val (.ref error_), .val (.int (own_tb pp))] [(.int (1 : Int32))]) _
          refine outNW X56 hx hZ hEL rfl hS hk CR (t := .boolean) hret (by simp) (hb hby at_560) hlk (by decide) (by decide) ?_
          exact ⟨rfl, N56⟩
        · refine stp (fun _ => XS.icmpNo X40.here hx rfl (hb hby at_517) rfl (XT.ii_gt_f q517_54)) ?_
          show Go p e below T40 (mkF m 520 #[.val (.int p0), .val (.int p1), .val (.int p2), .val (.int p3), .val (.int cc), .val (.ref b1), .val (.int (p1 &&& (7 : Int32))), .val (.ref b34), .val (.int (1 : Int32)), .val (.int pp), .val (.int (own_tb pp))] []) _
          refine stp (fun _ => XS.iload X40.here hx rfl (hb hby at_520) rfl) ?_
          show Go p e below T40 (mkF m 522 #[.val (.int p0), .val (.int p1), .val (.int p2), .val (.int p3), .val (.int cc), .val (.ref b1), .val (.int (p1 &&& (7 : Int32))), .val (.ref b34), .val (.int (1 : Int32)), .val (.int pp), .val (.int (own_tb pp))] [(.int (1 : Int32))]) _
          refine stp (fun _ => XS.ifNo X40.here hx rfl (hb hby at_522) rfl (by decide)) ?_
          show Go p e below T40 (mkF m 525 #[.val (.int p0), .val (.int p1), .val (.int p2), .val (.int p3), .val (.int cc), .val (.ref b1), .val (.int (p1 &&& (7 : Int32))), .val (.ref b34), .val (.int (1 : Int32)), .val (.int pp), .val (.int (own_tb pp))] []) _
          obtain ⟨T62, X62, e62, st62⟩ := getS2 X40 hx hZ hown (host := "") (Or.inl (hw _ (List.mem_of_getElem? (i := 62) rfl))) Via.refl rfl (S_PAGE.ext O40.2) (g := (mkF m 525 #[.val (.int p0), .val (.int p1), .val (.int p2), .val (.int p3), .val (.int cc), .val (.ref b1), .val (.int (p1 &&& (7 : Int32))), .val (.ref b34), .val (.int (1 : Int32)), .val (.int pp), .val (.int (own_tb pp))] [])) rfl (hb hby at_525)
          refine stp st62 ?_
          show Go p e below T62 (mkF m 528 #[.val (.int p0), .val (.int p1), .val (.int p2), .val (.int p3), .val (.int cc), .val (.ref b1), .val (.int (p1 &&& (7 : Int32))), .val (.ref b34), .val (.int (1 : Int32)), .val (.int pp), .val (.int (own_tb pp))] [(.ref page)]) _
          refine stp (fun _ => XS.goto X62.here hx rfl (pc0 := 528) (pc' := 534) rfl (hb hby at_528) (by decide) (by decide)) ?_
          show Go p e below T62 (mkF m 534 #[.val (.int p0), .val (.int p1), .val (.int p2), .val (.int p3), .val (.int cc), .val (.ref b1), .val (.int (p1 &&& (7 : Int32))), .val (.ref b34), .val (.int (1 : Int32)), .val (.int pp), .val (.int (own_tb pp))] [(.ref page)]) _
          refine stp (fun _ => XS.astore X62.here hx rfl (hb hby at_534) rfl rfl (l' := #[.val (.int p0), .val (.int p1), .val (.int p2), .val (.int p3), .val (.int cc), .val (.ref b1), .val (.int (p1 &&& (7 : Int32))), .val (.ref b34), .val (.int (1 : Int32)), .val (.ref page), .val (.int (own_tb pp))]) rfl) ?_
          show Go p e below T62 (mkF m 536 #[.val (.int p0), .val (.int p1), .val (.int p2), .val (.int p3), .val (.int cc), .val (.ref b1), .val (.int (p1 &&& (7 : Int32))), .val (.ref b34), .val (.int (1 : Int32)), .val (.ref page), .val (.int (own_tb pp))] []) _
          refine stp (fun _ => XS.goto X62.here hx rfl (pc0 := 536) (pc' := 544) rfl (hb hby at_536) (by decide) (by decide)) ?_
          show Go p e below T62 (mkF m 544 #[.val (.int p0), .val (.int p1), .val (.int p2), .val (.int p3), .val (.int cc), .val (.ref b1), .val (.int (p1 &&& (7 : Int32))), .val (.ref b34), .val (.int (1 : Int32)), .val (.ref page), .val (.int (own_tb pp))] []) _
          refine stp (fun _ => XS.iloadN X62.here hx rfl (hb hby at_544) rfl) ?_
          show Go p e below T62 (mkF m 545 #[.val (.int p0), .val (.int p1), .val (.int p2), .val (.int p3), .val (.int cc), .val (.ref b1), .val (.int (p1 &&& (7 : Int32))), .val (.ref b34), .val (.int (1 : Int32)), .val (.ref page), .val (.int (own_tb pp))] [(.int p0)]) _
          refine stp (fun _ => XS.aload X62.here hx rfl (hb hby at_545) rfl rfl) ?_
          show Go p e below T62 (mkF m 547 #[.val (.int p0), .val (.int p1), .val (.int p2), .val (.int p3), .val (.int cc), .val (.ref b1), .val (.int (p1 &&& (7 : Int32))), .val (.ref b34), .val (.int (1 : Int32)), .val (.ref page), .val (.int (own_tb pp))] [(.ref b34), (.int p0)]) _
          obtain ⟨_, _, ⟨T63, L63, k63, n63⟩, -, X63, hS63, gg63, ⟨Lc63, hQ63, l63, y63, z63, CRn63⟩, st63⟩ := callSS X62 hx (y := (⟨"com/example/fetch_to_rank/fetchtorank/crawl/Outcome", "of", "(ILjava/lang/String;)Lcom/example/fetch_to_rank/fetchtorank/crawl/Outcome;"⟩ : MethodName)) hown (mvT hZ (hw _ (List.mem_of_getElem? (i := 38) rfl))) (mvT hZ (hw _ (List.mem_of_getElem? (i := 39) rfl))) (mvT hZ (hw _ (List.mem_of_getElem? (i := 36) rfl))) (mvT hZ (hw _ (List.mem_of_getElem? (i := 40) rfl))) (by decide) (backOfSH (W := 0) (rm_of l Z a0 hw [] p0 b34 ([(own_put pp cc (0 : Int32)), (own_put pp cc (1 : Int32)), (own_put pp cc (2 : Int32)), (own_put pp cc (3 : Int32)), (own_put pp cc (4 : Int32)), (own_put pp cc (5 : Int32)), (own_put pp cc (6 : Int32)), (own_put pp cc (7 : Int32)), (own_put pp cc (8 : Int32))] : List Int32) error_ page skipped page cz T40.heap n0 O40 hEL Q40 S_ERROR S_PAGE S_SKIPPED S_CS hcz ⟨fun h => absurd h q510_46, fun h => absurd h q517_54, fun _ _ _ => rfl, fun _ _ h => absurd ((own_heq hpp).mpr q112_45) h⟩) hZ (hw _ (List.mem_of_getElem? (i := 40) rfl)) (hw _ (List.mem_of_getElem? (i := 36) rfl)) (by decide) (by decide) hEL CR.1) (g := (mkF m 547 #[.val (.int p0), .val (.int p1), .val (.int p2), .val (.int p3), .val (.int cc), .val (.ref b1), .val (.int (p1 &&& (7 : Int32))), .val (.ref b34), .val (.int (1 : Int32)), .val (.ref page), .val (.int (own_tb pp))] [(.ref b34), (.int p0)])) rfl (by rw [hml]; rfl) (argsL := [(.int p0), (.ref b34)]) (rest := []) (lenOf pd_6 rfl) rfl (by show 2 * 0 + _ ≤ _; exact Nat.le_of_eq rfl) (hb hby at_547) (fun _ _ => ⟨rfl, e62, (by decide : 3 + 2 ≤ _), (by decide : 22 + 40 ≤ _)⟩)
          dsimp only [Pt.U, Pt.locs, Pt.cells, Pt.slots] at X63 hS63 gg63 l63 y63 z63 st63 hQ63 CRn63
          subst y63 z63
          obtain ⟨X63, hS, hZ, hown⟩ := rebS hS (by rw [e62]; exact hk) X63 hS63 gg63 hZ hown
          obtain ⟨rfl, N63q, K63q⟩ := hQ63
          have N63 : Fr n0 L63 := by rw [l63]; exact Fr.app N40 N63q
          have f64 := f42.keep K63q
          have f65 := f43.keep K63q nin0
          have f66 := CRn63.safe E40q.lt f44
          have f67 := E40q.keep K63q
          have f68 := Q40.keep K63q nin0 apart0
          have K63 : Keep h0 T63.heap [] := K40.trans K63q all0
          have O63 := O40.keep K63q all0
          have hk : T63.heap.size ≤ T63.heap.size := Nat.le_refl _
          have CR := CR.trans CRn63
          refine stt st63 ?_
          show Go p e below T63 (mkF m 550 #[.val (.int p0), .val (.int p1), .val (.int p2), .val (.int p3), .val (.int cc), .val (.ref b1), .val (.int (p1 &&& (7 : Int32))), .val (.ref b34), .val (.int (1 : Int32)), .val (.ref page), .val (.int (own_tb pp))] [(.ref page)]) _
          refine stp (fun _ => XS.aload X63.here hx rfl (hb hby at_550) rfl rfl) ?_
          show Go p e below T63 (mkF m 552 #[.val (.int p0), .val (.int p1), .val (.int p2), .val (.int p3), .val (.int cc), .val (.ref b1), .val (.int (p1 &&& (7 : Int32))), .val (.ref b34), .val (.int (1 : Int32)), .val (.ref page), .val (.int (own_tb pp))] [(.ref page), (.ref page)]) _
          refine stp (fun _ => Jvm.RoadKit.acmp (g := (mkF m 552 #[.val (.int p0), .val (.int p1), .val (.int p2), .val (.int p3), .val (.int cc), .val (.ref b1), .val (.int (p1 &&& (7 : Int32))), .val (.ref b34), .val (.int (1 : Int32)), .val (.ref page), .val (.int (own_tb pp))] [(.ref page), (.ref page)])) X63 hx rfl rfl rfl (pc0 := 552) (pc' := 555) (same := true) rfl (hb hby at_552) rfl (decide_eq_true rfl) (by decide) (by decide)) ?_
          show Go p e below T63 (mkF m 555 #[.val (.int p0), .val (.int p1), .val (.int p2), .val (.int p3), .val (.int cc), .val (.ref b1), .val (.int (p1 &&& (7 : Int32))), .val (.ref b34), .val (.int (1 : Int32)), .val (.ref page), .val (.int (own_tb pp))] []) _
          refine stp (fun _ => XS.iconst X63.here hx rfl (hb hby at_555)) ?_
          show Go p e below T63 (mkF m 556 #[.val (.int p0), .val (.int p1), .val (.int p2), .val (.int p3), .val (.int cc), .val (.ref b1), .val (.int (p1 &&& (7 : Int32))), .val (.ref b34), .val (.int (1 : Int32)), .val (.ref page), .val (.int (own_tb pp))] [(.int (1 : Int32))]) _
          refine stp (fun _ => XS.goto X63.here hx rfl (pc0 := 556) (pc' := 560) rfl (hb hby at_556) (by decide) (by decide)) ?_
          show Go p e below T63 (mkF m 560 #[.val (.int p0), .val (.int p1), .val (.int p2), .val (.int p3), .val (.int cc), .val (.ref b1), .val (.int (p1 &&& (7 : Int32))), .val (.ref b34), .val (.int (1 : Int32)), .val (.ref page), .val (.int (own_tb pp))] [(.int (1 : Int32))]) _
          refine outNW X63 hx hZ hEL rfl hS hk CR (t := .boolean) hret (by simp) (hb hby at_560) hlk (by decide) (by decide) ?_
          exact ⟨rfl, N63⟩
    · refine stp (fun _ => XS.icmpYes X40.here hx rfl (pc0 := 112) (pc' := 119) rfl (hb hby at_112) rfl (XT.ii_ne_t q112_45) (by decide) (by decide)) ?_
      show Go p e below T40 (mkF m 119 #[.val (.int p0), .val (.int p1), .val (.int p2), .val (.int p3), .val (.int cc), .val (.ref b1), .val (.int (p1 &&& (7 : Int32))), .val (.ref b34), .unset, .val (.int pp), .val (.int (own_tb pp))] []) _
      refine stp (fun _ => XS.iconst X40.here hx rfl (hb hby at_119)) ?_
      show Go p e below T40 (mkF m 120 #[.val (.int p0), .val (.int p1), .val (.int p2), .val (.int p3), .val (.int cc), .val (.ref b1), .val (.int (p1 &&& (7 : Int32))), .val (.ref b34), .unset, .val (.int pp), .val (.int (own_tb pp))] [(.int (0 : Int32))]) _
      refine stp (fun _ => XS.istore X40.here hx rfl (hb hby at_120) rfl (l' := #[.val (.int p0), .val (.int p1), .val (.int p2), .val (.int p3), .val (.int cc), .val (.ref b1), .val (.int (p1 &&& (7 : Int32))), .val (.ref b34), .val (.int (0 : Int32)), .val (.int pp), .val (.int (own_tb pp))]) rfl) ?_
      show Go p e below T40 (mkF m 122 #[.val (.int p0), .val (.int p1), .val (.int p2), .val (.int p3), .val (.int cc), .val (.ref b1), .val (.int (p1 &&& (7 : Int32))), .val (.ref b34), .val (.int (0 : Int32)), .val (.int pp), .val (.int (own_tb pp))] []) _
      refine stp (fun _ => XS.goto X40.here hx rfl (pc0 := 122) (pc' := 506) rfl (hb hby at_122) (by decide) (by decide)) ?_
      show Go p e below T40 (mkF m 506 #[.val (.int p0), .val (.int p1), .val (.int p2), .val (.int p3), .val (.int cc), .val (.ref b1), .val (.int (p1 &&& (7 : Int32))), .val (.ref b34), .val (.int (0 : Int32)), .val (.int pp), .val (.int (own_tb pp))] []) _
      refine stp (fun _ => XS.iloadN X40.here hx rfl (hb hby at_506) rfl) ?_
      show Go p e below T40 (mkF m 507 #[.val (.int p0), .val (.int p1), .val (.int p2), .val (.int p3), .val (.int cc), .val (.ref b1), .val (.int (p1 &&& (7 : Int32))), .val (.ref b34), .val (.int (0 : Int32)), .val (.int pp), .val (.int (own_tb pp))] [(.int p0)]) _
      refine stp (fun _ => XS.sipush X40.here hx rfl (hb hby at_507)) ?_
      show Go p e below T40 (mkF m 510 #[.val (.int p0), .val (.int p1), .val (.int p2), .val (.int p3), .val (.int cc), .val (.ref b1), .val (.int (p1 &&& (7 : Int32))), .val (.ref b34), .val (.int (0 : Int32)), .val (.int pp), .val (.int (own_tb pp))] [(.int (200 : Int32)), (.int p0)]) _
      by_cases q510_69 : p0 < (200 : Int32)
      · refine stp (fun _ => XS.icmpYes X40.here hx rfl (pc0 := 510) (pc' := 539) rfl (hb hby at_510) rfl (XT.ii_lt_t q510_69) (by decide) (by decide)) ?_
        show Go p e below T40 (mkF m 539 #[.val (.int p0), .val (.int p1), .val (.int p2), .val (.int p3), .val (.int cc), .val (.ref b1), .val (.int (p1 &&& (7 : Int32))), .val (.ref b34), .val (.int (0 : Int32)), .val (.int pp), .val (.int (own_tb pp))] []) _
        obtain ⟨T70, X70, e70, st70⟩ := getS2 X40 hx hZ hown (host := "") (Or.inl (hw _ (List.mem_of_getElem? (i := 35) rfl))) Via.refl rfl (S_ERROR.ext O40.2) (g := (mkF m 539 #[.val (.int p0), .val (.int p1), .val (.int p2), .val (.int p3), .val (.int cc), .val (.ref b1), .val (.int (p1 &&& (7 : Int32))), .val (.ref b34), .val (.int (0 : Int32)), .val (.int pp), .val (.int (own_tb pp))] [])) rfl (hb hby at_539)
        refine stp st70 ?_
        show Go p e below T70 (mkF m 542 #[.val (.int p0), .val (.int p1), .val (.int p2), .val (.int p3), .val (.int cc), .val (.ref b1), .val (.int (p1 &&& (7 : Int32))), .val (.ref b34), .val (.int (0 : Int32)), .val (.int pp), .val (.int (own_tb pp))] [(.ref error_)]) _
        refine stp (fun _ => XS.astore X70.here hx rfl (hb hby at_542) rfl rfl (l' := #[.val (.int p0), .val (.int p1), .val (.int p2), .val (.int p3), .val (.int cc), .val (.ref b1), .val (.int (p1 &&& (7 : Int32))), .val (.ref b34), .val (.int (0 : Int32)), .val (.ref error_), .val (.int (own_tb pp))]) rfl) ?_
        show Go p e below T70 (mkF m 544 #[.val (.int p0), .val (.int p1), .val (.int p2), .val (.int p3), .val (.int cc), .val (.ref b1), .val (.int (p1 &&& (7 : Int32))), .val (.ref b34), .val (.int (0 : Int32)), .val (.ref error_), .val (.int (own_tb pp))] []) _
        refine stp (fun _ => XS.iloadN X70.here hx rfl (hb hby at_544) rfl) ?_
        show Go p e below T70 (mkF m 545 #[.val (.int p0), .val (.int p1), .val (.int p2), .val (.int p3), .val (.int cc), .val (.ref b1), .val (.int (p1 &&& (7 : Int32))), .val (.ref b34), .val (.int (0 : Int32)), .val (.ref error_), .val (.int (own_tb pp))] [(.int p0)]) _
        refine stp (fun _ => XS.aload X70.here hx rfl (hb hby at_545) rfl rfl) ?_
        show Go p e below T70 (mkF m 547 #[.val (.int p0), .val (.int p1), .val (.int p2), .val (.int p3), .val (.int cc), .val (.ref b1), .val (.int (p1 &&& (7 : Int32))), .val (.ref b34), .val (.int (0 : Int32)), .val (.ref error_), .val (.int (own_tb pp))] [(.ref b34), (.int p0)]) _
        obtain ⟨_, _, ⟨T71, L71, k71, n71⟩, -, X71, hS71, gg71, ⟨Lc71, hQ71, l71, y71, z71, CRn71⟩, st71⟩ := callSS X70 hx (y := (⟨"com/example/fetch_to_rank/fetchtorank/crawl/Outcome", "of", "(ILjava/lang/String;)Lcom/example/fetch_to_rank/fetchtorank/crawl/Outcome;"⟩ : MethodName)) hown (mvT hZ (hw _ (List.mem_of_getElem? (i := 38) rfl))) (mvT hZ (hw _ (List.mem_of_getElem? (i := 39) rfl))) (mvT hZ (hw _ (List.mem_of_getElem? (i := 36) rfl))) (mvT hZ (hw _ (List.mem_of_getElem? (i := 40) rfl))) (by decide) (backOfSH (W := 0) (rm_of l Z a0 hw [] p0 b34 ([(own_put pp cc (0 : Int32)), (own_put pp cc (1 : Int32)), (own_put pp cc (2 : Int32)), (own_put pp cc (3 : Int32)), (own_put pp cc (4 : Int32)), (own_put pp cc (5 : Int32)), (own_put pp cc (6 : Int32)), (own_put pp cc (7 : Int32)), (own_put pp cc (8 : Int32))] : List Int32) error_ page skipped error_ cz T40.heap n0 O40 hEL Q40 S_ERROR S_PAGE S_SKIPPED S_CS hcz ⟨fun _ => rfl, fun _ => rfl, fun h => absurd q510_69 h, fun h => absurd q510_69 h⟩) hZ (hw _ (List.mem_of_getElem? (i := 40) rfl)) (hw _ (List.mem_of_getElem? (i := 36) rfl)) (by decide) (by decide) hEL CR.1) (g := (mkF m 547 #[.val (.int p0), .val (.int p1), .val (.int p2), .val (.int p3), .val (.int cc), .val (.ref b1), .val (.int (p1 &&& (7 : Int32))), .val (.ref b34), .val (.int (0 : Int32)), .val (.ref error_), .val (.int (own_tb pp))] [(.ref b34), (.int p0)])) rfl (by rw [hml]; rfl) (argsL := [(.int p0), (.ref b34)]) (rest := []) (lenOf pd_6 rfl) rfl (by show 2 * 0 + _ ≤ _; exact Nat.le_of_eq rfl) (hb hby at_547) (fun _ _ => ⟨rfl, e70, (by decide : 3 + 2 ≤ _), (by decide : 22 + 40 ≤ _)⟩)
        dsimp only [Pt.U, Pt.locs, Pt.cells, Pt.slots] at X71 hS71 gg71 l71 y71 z71 st71 hQ71 CRn71
        subst y71 z71
        obtain ⟨X71, hS, hZ, hown⟩ := rebS hS (by rw [e70]; exact hk) X71 hS71 gg71 hZ hown
        obtain ⟨rfl, N71q, K71q⟩ := hQ71
        have N71 : Fr n0 L71 := by rw [l71]; exact Fr.app N40 N71q
        have f72 := f42.keep K71q
        have f73 := f43.keep K71q nin0
        have f74 := CRn71.safe E40q.lt f44
        have f75 := E40q.keep K71q
        have f76 := Q40.keep K71q nin0 apart0
        have K71 : Keep h0 T71.heap [] := K40.trans K71q all0
        have O71 := O40.keep K71q all0
        have hk : T71.heap.size ≤ T71.heap.size := Nat.le_refl _
        have CR := CR.trans CRn71
        refine stt st71 ?_
        show Go p e below T71 (mkF m 550 #[.val (.int p0), .val (.int p1), .val (.int p2), .val (.int p3), .val (.int cc), .val (.ref b1), .val (.int (p1 &&& (7 : Int32))), .val (.ref b34), .val (.int (0 : Int32)), .val (.ref error_), .val (.int (own_tb pp))] [(.ref error_)]) _
        refine stp (fun _ => XS.aload X71.here hx rfl (hb hby at_550) rfl rfl) ?_
        show Go p e below T71 (mkF m 552 #[.val (.int p0), .val (.int p1), .val (.int p2), .val (.int p3), .val (.int cc), .val (.ref b1), .val (.int (p1 &&& (7 : Int32))), .val (.ref b34), .val (.int (0 : Int32)), .val (.ref error_), .val (.int (own_tb pp))] [(.ref error_), (.ref error_)]) _
        refine stp (fun _ => Jvm.RoadKit.acmp (g := (mkF m 552 #[.val (.int p0), .val (.int p1), .val (.int p2), .val (.int p3), .val (.int cc), .val (.ref b1), .val (.int (p1 &&& (7 : Int32))), .val (.ref b34), .val (.int (0 : Int32)), .val (.ref error_), .val (.int (own_tb pp))] [(.ref error_), (.ref error_)])) X71 hx rfl rfl rfl (pc0 := 552) (pc' := 555) (same := true) rfl (hb hby at_552) rfl (decide_eq_true rfl) (by decide) (by decide)) ?_
        show Go p e below T71 (mkF m 555 #[.val (.int p0), .val (.int p1), .val (.int p2), .val (.int p3), .val (.int cc), .val (.ref b1), .val (.int (p1 &&& (7 : Int32))), .val (.ref b34), .val (.int (0 : Int32)), .val (.ref error_), .val (.int (own_tb pp))] []) _
        refine stp (fun _ => XS.iconst X71.here hx rfl (hb hby at_555)) ?_
        show Go p e below T71 (mkF m 556 #[.val (.int p0), .val (.int p1), .val (.int p2), .val (.int p3), .val (.int cc), .val (.ref b1), .val (.int (p1 &&& (7 : Int32))), .val (.ref b34), .val (.int (0 : Int32)), .val (.ref error_), .val (.int (own_tb pp))] [(.int (1 : Int32))]) _
        refine stp (fun _ => XS.goto X71.here hx rfl (pc0 := 556) (pc' := 560) rfl (hb hby at_556) (by decide) (by decide)) ?_
        show Go p e below T71 (mkF m 560 #[.val (.int p0), .val (.int p1), .val (.int p2), .val (.int p3), .val (.int cc), .val (.ref b1), .val (.int (p1 &&& (7 : Int32))), .val (.ref b34), .val (.int (0 : Int32)), .val (.ref error_), .val (.int (own_tb pp))] [(.int (1 : Int32))]) _
        refine outNW X71 hx hZ hEL rfl hS hk CR (t := .boolean) hret (by simp) (hb hby at_560) hlk (by decide) (by decide) ?_
        exact ⟨rfl, N71⟩
      · refine stp (fun _ => XS.icmpNo X40.here hx rfl (hb hby at_510) rfl (XT.ii_lt_f q510_69)) ?_
        show Go p e below T40 (mkF m 513 #[.val (.int p0), .val (.int p1), .val (.int p2), .val (.int p3), .val (.int cc), .val (.ref b1), .val (.int (p1 &&& (7 : Int32))), .val (.ref b34), .val (.int (0 : Int32)), .val (.int pp), .val (.int (own_tb pp))] []) _
        refine stp (fun _ => XS.iloadN X40.here hx rfl (hb hby at_513) rfl) ?_
        show Go p e below T40 (mkF m 514 #[.val (.int p0), .val (.int p1), .val (.int p2), .val (.int p3), .val (.int cc), .val (.ref b1), .val (.int (p1 &&& (7 : Int32))), .val (.ref b34), .val (.int (0 : Int32)), .val (.int pp), .val (.int (own_tb pp))] [(.int p0)]) _
        refine stp (fun _ => XS.sipush X40.here hx rfl (hb hby at_514)) ?_
        show Go p e below T40 (mkF m 517 #[.val (.int p0), .val (.int p1), .val (.int p2), .val (.int p3), .val (.int cc), .val (.ref b1), .val (.int (p1 &&& (7 : Int32))), .val (.ref b34), .val (.int (0 : Int32)), .val (.int pp), .val (.int (own_tb pp))] [(.int (299 : Int32)), (.int p0)]) _
        by_cases q517_77 : (299 : Int32) < p0
        · refine stp (fun _ => XS.icmpYes X40.here hx rfl (pc0 := 517) (pc' := 539) rfl (hb hby at_517) rfl (XT.ii_gt_t q517_77) (by decide) (by decide)) ?_
          show Go p e below T40 (mkF m 539 #[.val (.int p0), .val (.int p1), .val (.int p2), .val (.int p3), .val (.int cc), .val (.ref b1), .val (.int (p1 &&& (7 : Int32))), .val (.ref b34), .val (.int (0 : Int32)), .val (.int pp), .val (.int (own_tb pp))] []) _
          obtain ⟨T78, X78, e78, st78⟩ := getS2 X40 hx hZ hown (host := "") (Or.inl (hw _ (List.mem_of_getElem? (i := 35) rfl))) Via.refl rfl (S_ERROR.ext O40.2) (g := (mkF m 539 #[.val (.int p0), .val (.int p1), .val (.int p2), .val (.int p3), .val (.int cc), .val (.ref b1), .val (.int (p1 &&& (7 : Int32))), .val (.ref b34), .val (.int (0 : Int32)), .val (.int pp), .val (.int (own_tb pp))] [])) rfl (hb hby at_539)
          refine stp st78 ?_
          show Go p e below T78 (mkF m 542 #[.val (.int p0), .val (.int p1), .val (.int p2), .val (.int p3), .val (.int cc), .val (.ref b1), .val (.int (p1 &&& (7 : Int32))), .val (.ref b34), .val (.int (0 : Int32)), .val (.int pp), .val (.int (own_tb pp))] [(.ref error_)]) _
          refine stp (fun _ => XS.astore X78.here hx rfl (hb hby at_542) rfl rfl (l' := #[.val (.int p0), .val (.int p1), .val (.int p2), .val (.int p3), .val (.int cc), .val (.ref b1), .val (.int (p1 &&& (7 : Int32))), .val (.ref b34), .val (.int (0 : Int32)), .val (.ref error_), .val (.int (own_tb pp))]) rfl) ?_
          show Go p e below T78 (mkF m 544 #[.val (.int p0), .val (.int p1), .val (.int p2), .val (.int p3), .val (.int cc), .val (.ref b1), .val (.int (p1 &&& (7 : Int32))), .val (.ref b34), .val (.int (0 : Int32)), .val (.ref error_), .val (.int (own_tb pp))] []) _
          refine stp (fun _ => XS.iloadN X78.here hx rfl (hb hby at_544) rfl) ?_
          show Go p e below T78 (mkF m 545 #[.val (.int p0), .val (.int p1), .val (.int p2), .val (.int p3), .val (.int cc), .val (.ref b1), .val (.int (p1 &&& (7 : Int32))), .val (.ref b34), .val (.int (0 : Int32)), .val (.ref error_), .val (.int (own_tb pp))] [(.int p0)]) _
          refine stp (fun _ => XS.aload X78.here hx rfl (hb hby at_545) rfl rfl) ?_
          show Go p e below T78 (mkF m 547 #[.val (.int p0), .val (.int p1), .val (.int p2), .val (.int p3), .val (.int cc), .val (.ref b1), .val (.int (p1 &&& (7 : Int32))), .val (.ref b34), .val (.int (0 : Int32)), .val (.ref error_), .val (.int (own_tb pp))] [(.ref b34), (.int p0)]) _
          obtain ⟨_, _, ⟨T79, L79, k79, n79⟩, -, X79, hS79, gg79, ⟨Lc79, hQ79, l79, y79, z79, CRn79⟩, st79⟩ := callSS X78 hx (y := (⟨"com/example/fetch_to_rank/fetchtorank/crawl/Outcome", "of", "(ILjava/lang/String;)Lcom/example/fetch_to_rank/fetchtorank/crawl/Outcome;"⟩ : MethodName)) hown (mvT hZ (hw _ (List.mem_of_getElem? (i := 38) rfl))) (mvT hZ (hw _ (List.mem_of_getElem? (i := 39) rfl))) (mvT hZ (hw _ (List.mem_of_getElem? (i := 36) rfl))) (mvT hZ (hw _ (List.mem_of_getElem? (i := 40) rfl))) (by decide) (backOfSH (W := 0) (rm_of l Z a0 hw [] p0 b34 ([(own_put pp cc (0 : Int32)), (own_put pp cc (1 : Int32)), (own_put pp cc (2 : Int32)), (own_put pp cc (3 : Int32)), (own_put pp cc (4 : Int32)), (own_put pp cc (5 : Int32)), (own_put pp cc (6 : Int32)), (own_put pp cc (7 : Int32)), (own_put pp cc (8 : Int32))] : List Int32) error_ page skipped error_ cz T40.heap n0 O40 hEL Q40 S_ERROR S_PAGE S_SKIPPED S_CS hcz ⟨fun _ => rfl, fun _ => rfl, fun _ h => absurd q517_77 h, fun _ h => absurd q517_77 h⟩) hZ (hw _ (List.mem_of_getElem? (i := 40) rfl)) (hw _ (List.mem_of_getElem? (i := 36) rfl)) (by decide) (by decide) hEL CR.1) (g := (mkF m 547 #[.val (.int p0), .val (.int p1), .val (.int p2), .val (.int p3), .val (.int cc), .val (.ref b1), .val (.int (p1 &&& (7 : Int32))), .val (.ref b34), .val (.int (0 : Int32)), .val (.ref error_), .val (.int (own_tb pp))] [(.ref b34), (.int p0)])) rfl (by rw [hml]; rfl) (argsL := [(.int p0), (.ref b34)]) (rest := []) (lenOf pd_6 rfl) rfl (by show 2 * 0 + _ ≤ _; exact Nat.le_of_eq rfl) (hb hby at_547) (fun _ _ => ⟨rfl, e78, (by decide : 3 + 2 ≤ _), (by decide : 22 + 40 ≤ _)⟩)
          dsimp only [Pt.U, Pt.locs, Pt.cells, Pt.slots] at X79 hS79 gg79 l79 y79 z79 st79 hQ79 CRn79
          subst y79 z79
          obtain ⟨X79, hS, hZ, hown⟩ := rebS hS (by rw [e78]; exact hk) X79 hS79 gg79 hZ hown
          obtain ⟨rfl, N79q, K79q⟩ := hQ79
          have N79 : Fr n0 L79 := by rw [l79]; exact Fr.app N40 N79q
          have f80 := f42.keep K79q
          have f81 := f43.keep K79q nin0
          have f82 := CRn79.safe E40q.lt f44
          have f83 := E40q.keep K79q
          have f84 := Q40.keep K79q nin0 apart0
          have K79 : Keep h0 T79.heap [] := K40.trans K79q all0
          have O79 := O40.keep K79q all0
          have hk : T79.heap.size ≤ T79.heap.size := Nat.le_refl _
          have CR := CR.trans CRn79
          refine stt st79 ?_
          show Go p e below T79 (mkF m 550 #[.val (.int p0), .val (.int p1), .val (.int p2), .val (.int p3), .val (.int cc), .val (.ref b1), .val (.int (p1 &&& (7 : Int32))), .val (.ref b34), .val (.int (0 : Int32)), .val (.ref error_), .val (.int (own_tb pp))] [(.ref error_)]) _
          refine stp (fun _ => XS.aload X79.here hx rfl (hb hby at_550) rfl rfl) ?_
          show Go p e below T79 (mkF m 552 #[.val (.int p0), .val (.int p1), .val (.int p2), .val (.int p3), .val (.int cc), .val (.ref b1), .val (.int (p1 &&& (7 : Int32))), .val (.ref b34), .val (.int (0 : Int32)), .val (.ref error_), .val (.int (own_tb pp))] [(.ref error_), (.ref error_)]) _
          refine stp (fun _ => Jvm.RoadKit.acmp (g := (mkF m 552 #[.val (.int p0), .val (.int p1), .val (.int p2), .val (.int p3), .val (.int cc), .val (.ref b1), .val (.int (p1 &&& (7 : Int32))), .val (.ref b34), .val (.int (0 : Int32)), .val (.ref error_), .val (.int (own_tb pp))] [(.ref error_), (.ref error_)])) X79 hx rfl rfl rfl (pc0 := 552) (pc' := 555) (same := true) rfl (hb hby at_552) rfl (decide_eq_true rfl) (by decide) (by decide)) ?_
          show Go p e below T79 (mkF m 555 #[.val (.int p0), .val (.int p1), .val (.int p2), .val (.int p3), .val (.int cc), .val (.ref b1), .val (.int (p1 &&& (7 : Int32))), .val (.ref b34), .val (.int (0 : Int32)), .val (.ref error_), .val (.int (own_tb pp))] []) _
          refine stp (fun _ => XS.iconst X79.here hx rfl (hb hby at_555)) ?_
          show Go p e below T79 (mkF m 556 #[.val (.int p0), .val (.int p1), .val (.int p2), .val (.int p3), .val (.int cc), .val (.ref b1), .val (.int (p1 &&& (7 : Int32))), .val (.ref b34), .val (.int (0 : Int32)), .val (.ref error_), .val (.int (own_tb pp))] [(.int (1 : Int32))]) _
          refine stp (fun _ => XS.goto X79.here hx rfl (pc0 := 556) (pc' := 560) rfl (hb hby at_556) (by decide) (by decide)) ?_
          show Go p e below T79 (mkF m 560 #[.val (.int p0), .val (.int p1), .val (.int p2), .val (.int p3), .val (.int cc), .val (.ref b1), .val (.int (p1 &&& (7 : Int32))), .val (.ref b34), .val (.int (0 : Int32)), .val (.ref error_), .val (.int (own_tb pp))] [(.int (1 : Int32))]) _
          refine outNW X79 hx hZ hEL rfl hS hk CR (t := .boolean) hret (by simp) (hb hby at_560) hlk (by decide) (by decide) ?_
          exact ⟨rfl, N79⟩
        · refine stp (fun _ => XS.icmpNo X40.here hx rfl (hb hby at_517) rfl (XT.ii_gt_f q517_77)) ?_
          show Go p e below T40 (mkF m 520 #[.val (.int p0), .val (.int p1), .val (.int p2), .val (.int p3), .val (.int cc), .val (.ref b1), .val (.int (p1 &&& (7 : Int32))), .val (.ref b34), .val (.int (0 : Int32)), .val (.int pp), .val (.int (own_tb pp))] []) _
          refine stp (fun _ => XS.iload X40.here hx rfl (hb hby at_520) rfl) ?_
          show Go p e below T40 (mkF m 522 #[.val (.int p0), .val (.int p1), .val (.int p2), .val (.int p3), .val (.int cc), .val (.ref b1), .val (.int (p1 &&& (7 : Int32))), .val (.ref b34), .val (.int (0 : Int32)), .val (.int pp), .val (.int (own_tb pp))] [(.int (0 : Int32))]) _
          refine stp (fun _ => XS.ifYes X40.here hx rfl (pc0 := 522) (pc' := 531) rfl (hb hby at_522) rfl (by decide) (by decide) (by decide)) ?_
          show Go p e below T40 (mkF m 531 #[.val (.int p0), .val (.int p1), .val (.int p2), .val (.int p3), .val (.int cc), .val (.ref b1), .val (.int (p1 &&& (7 : Int32))), .val (.ref b34), .val (.int (0 : Int32)), .val (.int pp), .val (.int (own_tb pp))] []) _
          obtain ⟨T85, X85, e85, st85⟩ := getS2 X40 hx hZ hown (host := "") (Or.inl (hw _ (List.mem_of_getElem? (i := 74) rfl))) Via.refl rfl (S_SKIPPED.ext O40.2) (g := (mkF m 531 #[.val (.int p0), .val (.int p1), .val (.int p2), .val (.int p3), .val (.int cc), .val (.ref b1), .val (.int (p1 &&& (7 : Int32))), .val (.ref b34), .val (.int (0 : Int32)), .val (.int pp), .val (.int (own_tb pp))] [])) rfl (hb hby at_531)
          refine stp st85 ?_
          show Go p e below T85 (mkF m 534 #[.val (.int p0), .val (.int p1), .val (.int p2), .val (.int p3), .val (.int cc), .val (.ref b1), .val (.int (p1 &&& (7 : Int32))), .val (.ref b34), .val (.int (0 : Int32)), .val (.int pp), .val (.int (own_tb pp))] [(.ref skipped)]) _
          refine stp (fun _ => XS.astore X85.here hx rfl (hb hby at_534) rfl rfl (l' := #[.val (.int p0), .val (.int p1), .val (.int p2), .val (.int p3), .val (.int cc), .val (.ref b1), .val (.int (p1 &&& (7 : Int32))), .val (.ref b34), .val (.int (0 : Int32)), .val (.ref skipped), .val (.int (own_tb pp))]) rfl) ?_
          show Go p e below T85 (mkF m 536 #[.val (.int p0), .val (.int p1), .val (.int p2), .val (.int p3), .val (.int cc), .val (.ref b1), .val (.int (p1 &&& (7 : Int32))), .val (.ref b34), .val (.int (0 : Int32)), .val (.ref skipped), .val (.int (own_tb pp))] []) _
          refine stp (fun _ => XS.goto X85.here hx rfl (pc0 := 536) (pc' := 544) rfl (hb hby at_536) (by decide) (by decide)) ?_
          show Go p e below T85 (mkF m 544 #[.val (.int p0), .val (.int p1), .val (.int p2), .val (.int p3), .val (.int cc), .val (.ref b1), .val (.int (p1 &&& (7 : Int32))), .val (.ref b34), .val (.int (0 : Int32)), .val (.ref skipped), .val (.int (own_tb pp))] []) _
          refine stp (fun _ => XS.iloadN X85.here hx rfl (hb hby at_544) rfl) ?_
          show Go p e below T85 (mkF m 545 #[.val (.int p0), .val (.int p1), .val (.int p2), .val (.int p3), .val (.int cc), .val (.ref b1), .val (.int (p1 &&& (7 : Int32))), .val (.ref b34), .val (.int (0 : Int32)), .val (.ref skipped), .val (.int (own_tb pp))] [(.int p0)]) _
          refine stp (fun _ => XS.aload X85.here hx rfl (hb hby at_545) rfl rfl) ?_
          show Go p e below T85 (mkF m 547 #[.val (.int p0), .val (.int p1), .val (.int p2), .val (.int p3), .val (.int cc), .val (.ref b1), .val (.int (p1 &&& (7 : Int32))), .val (.ref b34), .val (.int (0 : Int32)), .val (.ref skipped), .val (.int (own_tb pp))] [(.ref b34), (.int p0)]) _
          obtain ⟨_, _, ⟨T86, L86, k86, n86⟩, -, X86, hS86, gg86, ⟨Lc86, hQ86, l86, y86, z86, CRn86⟩, st86⟩ := callSS X85 hx (y := (⟨"com/example/fetch_to_rank/fetchtorank/crawl/Outcome", "of", "(ILjava/lang/String;)Lcom/example/fetch_to_rank/fetchtorank/crawl/Outcome;"⟩ : MethodName)) hown (mvT hZ (hw _ (List.mem_of_getElem? (i := 38) rfl))) (mvT hZ (hw _ (List.mem_of_getElem? (i := 39) rfl))) (mvT hZ (hw _ (List.mem_of_getElem? (i := 36) rfl))) (mvT hZ (hw _ (List.mem_of_getElem? (i := 40) rfl))) (by decide) (backOfSH (W := 0) (rm_of l Z a0 hw [] p0 b34 ([(own_put pp cc (0 : Int32)), (own_put pp cc (1 : Int32)), (own_put pp cc (2 : Int32)), (own_put pp cc (3 : Int32)), (own_put pp cc (4 : Int32)), (own_put pp cc (5 : Int32)), (own_put pp cc (6 : Int32)), (own_put pp cc (7 : Int32)), (own_put pp cc (8 : Int32))] : List Int32) error_ page skipped skipped cz T40.heap n0 O40 hEL Q40 S_ERROR S_PAGE S_SKIPPED S_CS hcz ⟨fun h => absurd h q510_69, fun h => absurd h q517_77, fun _ _ h => absurd h (fun h => q112_45 ((own_heq hpp).mp h)), fun _ _ _ => rfl⟩) hZ (hw _ (List.mem_of_getElem? (i := 40) rfl)) (hw _ (List.mem_of_getElem? (i := 36) rfl)) (by decide) (by decide) hEL CR.1) (g := (mkF m 547 #[.val (.int p0), .val (.int p1), .val (.int p2), .val (.int p3), .val (.int cc), .val (.ref b1), .val (.int (p1 &&& (7 : Int32))), .val (.ref b34), .val (.int (0 : Int32)), .val (.ref skipped), .val (.int (own_tb pp))] [(.ref b34), (.int p0)])) rfl (by rw [hml]; rfl) (argsL := [(.int p0), (.ref b34)]) (rest := []) (lenOf pd_6 rfl) rfl (by show 2 * 0 + _ ≤ _; exact Nat.le_of_eq rfl) (hb hby at_547) (fun _ _ => ⟨rfl, e85, (by decide : 3 + 2 ≤ _), (by decide : 22 + 40 ≤ _)⟩)
          dsimp only [Pt.U, Pt.locs, Pt.cells, Pt.slots] at X86 hS86 gg86 l86 y86 z86 st86 hQ86 CRn86
          subst y86 z86
          obtain ⟨X86, hS, hZ, hown⟩ := rebS hS (by rw [e85]; exact hk) X86 hS86 gg86 hZ hown
          obtain ⟨rfl, N86q, K86q⟩ := hQ86
          have N86 : Fr n0 L86 := by rw [l86]; exact Fr.app N40 N86q
          have f87 := f42.keep K86q
          have f88 := f43.keep K86q nin0
          have f89 := CRn86.safe E40q.lt f44
          have f90 := E40q.keep K86q
          have f91 := Q40.keep K86q nin0 apart0
          have K86 : Keep h0 T86.heap [] := K40.trans K86q all0
          have O86 := O40.keep K86q all0
          have hk : T86.heap.size ≤ T86.heap.size := Nat.le_refl _
          have CR := CR.trans CRn86
          refine stt st86 ?_
          show Go p e below T86 (mkF m 550 #[.val (.int p0), .val (.int p1), .val (.int p2), .val (.int p3), .val (.int cc), .val (.ref b1), .val (.int (p1 &&& (7 : Int32))), .val (.ref b34), .val (.int (0 : Int32)), .val (.ref skipped), .val (.int (own_tb pp))] [(.ref skipped)]) _
          refine stp (fun _ => XS.aload X86.here hx rfl (hb hby at_550) rfl rfl) ?_
          show Go p e below T86 (mkF m 552 #[.val (.int p0), .val (.int p1), .val (.int p2), .val (.int p3), .val (.int cc), .val (.ref b1), .val (.int (p1 &&& (7 : Int32))), .val (.ref b34), .val (.int (0 : Int32)), .val (.ref skipped), .val (.int (own_tb pp))] [(.ref skipped), (.ref skipped)]) _
          refine stp (fun _ => Jvm.RoadKit.acmp (g := (mkF m 552 #[.val (.int p0), .val (.int p1), .val (.int p2), .val (.int p3), .val (.int cc), .val (.ref b1), .val (.int (p1 &&& (7 : Int32))), .val (.ref b34), .val (.int (0 : Int32)), .val (.ref skipped), .val (.int (own_tb pp))] [(.ref skipped), (.ref skipped)])) X86 hx rfl rfl rfl (pc0 := 552) (pc' := 555) (same := true) rfl (hb hby at_552) rfl (decide_eq_true rfl) (by decide) (by decide)) ?_
          show Go p e below T86 (mkF m 555 #[.val (.int p0), .val (.int p1), .val (.int p2), .val (.int p3), .val (.int cc), .val (.ref b1), .val (.int (p1 &&& (7 : Int32))), .val (.ref b34), .val (.int (0 : Int32)), .val (.ref skipped), .val (.int (own_tb pp))] []) _
          refine stp (fun _ => XS.iconst X86.here hx rfl (hb hby at_555)) ?_
          show Go p e below T86 (mkF m 556 #[.val (.int p0), .val (.int p1), .val (.int p2), .val (.int p3), .val (.int cc), .val (.ref b1), .val (.int (p1 &&& (7 : Int32))), .val (.ref b34), .val (.int (0 : Int32)), .val (.ref skipped), .val (.int (own_tb pp))] [(.int (1 : Int32))]) _
          refine stp (fun _ => XS.goto X86.here hx rfl (pc0 := 556) (pc' := 560) rfl (hb hby at_556) (by decide) (by decide)) ?_
          show Go p e below T86 (mkF m 560 #[.val (.int p0), .val (.int p1), .val (.int p2), .val (.int p3), .val (.int cc), .val (.ref b1), .val (.int (p1 &&& (7 : Int32))), .val (.ref b34), .val (.int (0 : Int32)), .val (.ref skipped), .val (.int (own_tb pp))] [(.int (1 : Int32))]) _
          refine outNW X86 hx hZ hEL rfl hS hk CR (t := .boolean) hret (by simp) (hb hby at_560) hlk (by decide) (by decide) ?_
          exact ⟨rfl, N86⟩
  · refine stp (fun _ => XS.icmpYes X26.here hx rfl (pc0 := 71) (pc' := 125) rfl (hb hby at_71) rfl (XT.ii_ne_t q71_29) (by decide) (by decide)) ?_
    show Go p e below T26 (mkF m 125 #[.val (.int p0), .val (.int p1), .val (.int p2), .val (.int p3), .val (.int cc), .val (.ref b1), .val (.int (p1 &&& (7 : Int32))), .unset, .unset, .unset, .unset] []) _
    refine stp (fun _ => XS.iload X26.here hx rfl (hb hby at_125) rfl) ?_
    show Go p e below T26 (mkF m 127 #[.val (.int p0), .val (.int p1), .val (.int p2), .val (.int p3), .val (.int cc), .val (.ref b1), .val (.int (p1 &&& (7 : Int32))), .unset, .unset, .unset, .unset] [(.int (p1 &&& (7 : Int32)))]) _
    refine stp (fun _ => XS.iconst X26.here hx rfl (hb hby at_127)) ?_
    show Go p e below T26 (mkF m 128 #[.val (.int p0), .val (.int p1), .val (.int p2), .val (.int p3), .val (.int cc), .val (.ref b1), .val (.int (p1 &&& (7 : Int32))), .unset, .unset, .unset, .unset] [(.int (2 : Int32)), (.int (p1 &&& (7 : Int32)))]) _
    by_cases q128_92 : (p1 &&& (7 : Int32)) = (2 : Int32)
    · refine stp (fun _ => XS.icmpNo X26.here hx rfl (hb hby at_128) rfl (XT.ii_ne_f q128_92)) ?_
      show Go p e below T26 (mkF m 131 #[.val (.int p0), .val (.int p1), .val (.int p2), .val (.int p3), .val (.int cc), .val (.ref b1), .val (.int (p1 &&& (7 : Int32))), .unset, .unset, .unset, .unset] []) _
      refine stp (fun _ => XS.iloadN X26.here hx rfl (hb hby at_131) rfl) ?_
      show Go p e below T26 (mkF m 132 #[.val (.int p0), .val (.int p1), .val (.int p2), .val (.int p3), .val (.int cc), .val (.ref b1), .val (.int (p1 &&& (7 : Int32))), .unset, .unset, .unset, .unset] [(.int p2)]) _
      refine stp (fun _ => X26.ldcInt hx hown (mvT hZ (hw _ (List.mem_of_getElem? (i := 1) rfl))) (g := (mkF m 132 #[.val (.int p0), .val (.int p1), .val (.int p2), .val (.int p3), .val (.int cc), .val (.ref b1), .val (.int (p1 &&& (7 : Int32))), .unset, .unset, .unset, .unset] [(.int p2)])) rfl (hb hby at_132) _) ?_
      show Go p e below T26 (mkF m 134 #[.val (.int p0), .val (.int p1), .val (.int p2), .val (.int p3), .val (.int cc), .val (.ref b1), .val (.int (p1 &&& (7 : Int32))), .unset, .unset, .unset, .unset] [(.int (2147483647 : Int32)), (.int p2)]) _
      refine stp (fun _ => XS.iand X26.here hx rfl (hb hby at_134) rfl) ?_
      show Go p e below T26 (mkF m 135 #[.val (.int p0), .val (.int p1), .val (.int p2), .val (.int p3), .val (.int cc), .val (.ref b1), .val (.int (p1 &&& (7 : Int32))), .unset, .unset, .unset, .unset] [(.int (p2 &&& (2147483647 : Int32)))]) _
      refine stp (fun _ => XS.bipush X26.here hx rfl (hb hby at_135)) ?_
      show Go p e below T26 (mkF m 137 #[.val (.int p0), .val (.int p1), .val (.int p2), .val (.int p3), .val (.int cc), .val (.ref b1), .val (.int (p1 &&& (7 : Int32))), .unset, .unset, .unset, .unset] [(.int (9 : Int32)), (.int (p2 &&& (2147483647 : Int32)))]) _
      refine stp (fun _ => iremM X26 hx rfl (hb hby at_137) rfl (by decide)) ?_
      show Go p e below T26 (mkF m 138 #[.val (.int p0), .val (.int p1), .val (.int p2), .val (.int p3), .val (.int cc), .val (.ref b1), .val (.int (p1 &&& (7 : Int32))), .unset, .unset, .unset, .unset] [(.int ((p2 &&& (2147483647 : Int32)) % (9 : Int32)))]) _
      refine stp (fun _ => XS.istore X26.here hx rfl (hb hby at_138) rfl (l' := #[.val (.int p0), .val (.int p1), .val (.int p2), .val (.int p3), .val (.int cc), .val (.ref b1), .val (.int (p1 &&& (7 : Int32))), .unset, .unset, .val (.int ((p2 &&& (2147483647 : Int32)) % (9 : Int32))), .unset]) rfl) ?_
      show Go p e below T26 (mkF m 140 #[.val (.int p0), .val (.int p1), .val (.int p2), .val (.int p3), .val (.int cc), .val (.ref b1), .val (.int (p1 &&& (7 : Int32))), .unset, .unset, .val (.int ((p2 &&& (2147483647 : Int32)) % (9 : Int32))), .unset] []) _
      obtain ⟨pd, hpd⟩ : ∃ z : Int32, z = ((p2 &&& (2147483647 : Int32)) % (9 : Int32)) := ⟨_, rfl⟩
      rw [← hpd]
      show Go p e below T26 (mkF m 140 #[.val (.int p0), .val (.int p1), .val (.int p2), .val (.int p3), .val (.int cc), .val (.ref b1), .val (.int (p1 &&& (7 : Int32))), .unset, .unset, .val (.int pd), .unset] []) _
      replace hpd := own_rem9 hpd
      refine stp (fun _ => XS.bipush X26.here hx rfl (hb hby at_140)) ?_
      show Go p e below T26 (mkF m 142 #[.val (.int p0), .val (.int p1), .val (.int p2), .val (.int p3), .val (.int cc), .val (.ref b1), .val (.int (p1 &&& (7 : Int32))), .unset, .unset, .val (.int pd), .unset] [(.int (8 : Int32))]) _
      obtain ⟨T93, h93, k93, X93, e93, E93, A93, B93, st93⟩ := newPE X26 hx hZ (hw _ (List.mem_of_getElem? (i := 0) rfl)) e26 (g := (mkF m 142 #[.val (.int p0), .val (.int p1), .val (.int p2), .val (.int p3), .val (.int cc), .val (.ref b1), .val (.int (p1 &&& (7 : Int32))), .unset, .unset, .val (.int pd), .unset] [(.int (8 : Int32))])) rfl (hb hby at_142) rfl (by decide) (cap := 8) (by decide) (by decide) (by decide) (by decide) (ad := "[C") (by decide)
      obtain ⟨b93, g93⟩ : ∃ z, z = h26.size := ⟨_, rfl⟩
      rw [← g93] at A93 B93 st93
      have ne94 : b1 ≠ b93 := Nat.ne_of_lt (Nat.lt_of_lt_of_le f27.lt (Nat.le_of_eq g93.symm))
      have sz_b93 : h0.size ≤ b93 := Nat.le_trans K26.1 (Nat.le_of_eq g93.symm)
      have ge_b93 : n0 ≤ b93 := Nat.le_trans (old_le O26) (Nat.le_of_eq g93.symm)
      have f95 := f27.ext E93
      have f96 := V26.ext E93
      have hk := Nat.le_trans hk E93.1
      have CR := CR.trans (CHr.ext E93 CR.1)
      have K93 : Keep h0 h93 [] := K26.ext E93
      have O93 := O26.ext E93
      have V93 : Arv Z h93 b93 k93 .char (8 : Int32) [(.int (0 : Int32)), (.int (0 : Int32)), (.int (0 : Int32)), (.int (0 : Int32)), (.int (0 : Int32)), (.int (0 : Int32)), (.int (0 : Int32)), (.int (0 : Int32))] (.int (0 : Int32)) := (Arv.new A93 (by decide)).pad (pad_rep [] (.int (0 : Int32)) 8)
      refine stp st93 ?_
      show Go p e below T93 (mkF m 144 #[.val (.int p0), .val (.int p1), .val (.int p2), .val (.int p3), .val (.int cc), .val (.ref b1), .val (.int (p1 &&& (7 : Int32))), .unset, .unset, .val (.int pd), .unset] [(.ref b93)]) _
      refine stp (fun _ => XS.astore X93.here hx rfl (hb hby at_144) rfl rfl (l' := #[.val (.int p0), .val (.int p1), .val (.int p2), .val (.int p3), .val (.int cc), .val (.ref b1), .val (.int (p1 &&& (7 : Int32))), .unset, .unset, .val (.int pd), .val (.ref b93)]) rfl) ?_
      show Go p e below T93 (mkF m 146 #[.val (.int p0), .val (.int p1), .val (.int p2), .val (.int p3), .val (.int cc), .val (.ref b1), .val (.int (p1 &&& (7 : Int32))), .unset, .unset, .val (.int pd), .val (.ref b93)] []) _
      refine stp (fun _ => XS.aload X93.here hx rfl (hb hby at_146) rfl rfl) ?_
      show Go p e below T93 (mkF m 148 #[.val (.int p0), .val (.int p1), .val (.int p2), .val (.int p3), .val (.int cc), .val (.ref b1), .val (.int (p1 &&& (7 : Int32))), .unset, .unset, .val (.int pd), .val (.ref b93)] [(.ref b93)]) _
      refine stp (fun _ => XS.iconst X93.here hx rfl (hb hby at_148)) ?_
      show Go p e below T93 (mkF m 149 #[.val (.int p0), .val (.int p1), .val (.int p2), .val (.int p3), .val (.int cc), .val (.ref b1), .val (.int (p1 &&& (7 : Int32))), .unset, .unset, .val (.int pd), .val (.ref b93)] [(.int (0 : Int32)), (.ref b93)]) _
      refine stp (fun _ => XS.aload X93.here hx rfl (hb hby at_149) rfl rfl) ?_
      show Go p e below T93 (mkF m 151 #[.val (.int p0), .val (.int p1), .val (.int p2), .val (.int p3), .val (.int cc), .val (.ref b1), .val (.int (p1 &&& (7 : Int32))), .unset, .unset, .val (.int pd), .val (.ref b93)] [(.ref b1), (.int (0 : Int32)), (.ref b93)]) _
      refine stp (fun _ => XS.iload X93.here hx rfl (hb hby at_151) rfl) ?_
      show Go p e below T93 (mkF m 153 #[.val (.int p0), .val (.int p1), .val (.int p2), .val (.int p3), .val (.int cc), .val (.ref b1), .val (.int (p1 &&& (7 : Int32))), .unset, .unset, .val (.int pd), .val (.ref b93)] [(.int pd), (.ref b1), (.int (0 : Int32)), (.ref b93)]) _
      refine stp (fun _ => XS.iconst X93.here hx rfl (hb hby at_153)) ?_
      show Go p e below T93 (mkF m 154 #[.val (.int p0), .val (.int p1), .val (.int p2), .val (.int p3), .val (.int cc), .val (.ref b1), .val (.int (p1 &&& (7 : Int32))), .unset, .unset, .val (.int pd), .val (.ref b93)] [(.int (0 : Int32)), (.int pd), (.ref b1), (.int (0 : Int32)), (.ref b93)]) _
      obtain ⟨_, _, ⟨T97, L97, k97, n97⟩, -, X97, ⟨Lc97, hQ97, l97, y97, z97⟩, st97⟩ := Jvm.LawKit.callS X93 hx (y := (⟨"com/example/fetch_to_rank/fetchtorank/crawl/OutcomeOfPinLaw", "del", "([CII)C"⟩ : MethodName)) hown (mvT hZ (hw _ (List.mem_of_getElem? (i := 56) rfl))) (mvT hZ (hw _ (List.mem_of_getElem? (i := 57) rfl))) (mvT hZ (hw _ (List.mem_of_getElem? (i := 4) rfl))) (mvT hZ (hw _ (List.mem_of_getElem? (i := 58) rfl))) (by decide) (backOf (W := 2) (rm_del l Z a0 hw [] b1 pd (0 : Int32) k1 h93 n0 O93 f96 ⟨by decide, by decide⟩) hZ (hw _ (List.mem_of_getElem? (i := 58) rfl)) (hw _ (List.mem_of_getElem? (i := 4) rfl)) (by decide) (by decide)) (g := (mkF m 154 #[.val (.int p0), .val (.int p1), .val (.int p2), .val (.int p3), .val (.int cc), .val (.ref b1), .val (.int (p1 &&& (7 : Int32))), .unset, .unset, .val (.int pd), .val (.ref b93)] [(.int (0 : Int32)), (.int pd), (.ref b1), (.int (0 : Int32)), (.ref b93)])) rfl (by rw [hml]; rfl) (argsL := [(.ref b1), (.int pd), (.int (0 : Int32))]) (rest := [(.int (0 : Int32)), (.ref b93)]) (lenOf pd_7 rfl) rfl (by show 2 * 0 + _ ≤ _; exact Nat.le_of_eq rfl) (hb hby at_154) (fun _ _ => ⟨rfl, e93, (by decide : 2 + 0 ≤ _), (by decide : 17 + 0 ≤ _)⟩)
      dsimp only [Pt.U, Pt.locs, Pt.cells, Pt.slots] at X97 l97 y97 z97 st97 hQ97
      subst y97 z97
      obtain ⟨rfl, N97q, e97⟩ := hQ97
      have N97 : Fr n0 L97 := by rw [l97]; exact Fr.app N26 N97q
      refine stp st97 ?_
      show Go p e below T97 (mkF m 157 #[.val (.int p0), .val (.int p1), .val (.int p2), .val (.int p3), .val (.int cc), .val (.ref b1), .val (.int (p1 &&& (7 : Int32))), .unset, .unset, .val (.int pd), .val (.ref b93)] [(.int (own_del pd (0 : Int32))), (.int (0 : Int32)), (.ref b93)]) _
      obtain ⟨cl98, Ar98, q98, S98, M98, H98, G98⟩ := (id V93)
      have in98 : ¬ ((0 : Int32) < 0 ∨ cl98.slots.size ≤ ((0 : Int32)).toNatClampNeg) := inb_of S98 ⟨by decide, by decide⟩
      obtain ⟨T98, h98, X98, e98, W98, st98⟩ := stC X97 hx hZ e97 Ar98 (j := (0 : Int32)) in98 (g := (mkF m 157 #[.val (.int p0), .val (.int p1), .val (.int p2), .val (.int p3), .val (.int cc), .val (.ref b1), .val (.int (p1 &&& (7 : Int32))), .unset, .unset, .val (.int pd), .val (.ref b93)] [(.int (own_del pd (0 : Int32))), (.int (0 : Int32)), (.ref b93)])) rfl rfl (hb hby at_157)
      have V98 : Arv Z h98 b93 k93 .char (8 : Int32) [(.int (own_del pd (0 : Int32))), (.int (0 : Int32)), (.int (0 : Int32)), (.int (0 : Int32)), (.int (0 : Int32)), (.int (0 : Int32)), (.int (0 : Int32)), (.int (0 : Int32))] (.int (0 : Int32)) := Arv.set Ar98 q98 S98 M98 H98 G98 (ow_fits_char (char255 (own_del_sm _ _))) (ow_wr_char (char255 (own_del_sm _ _)) W98) 0 rfl (Nat.le_of_ble_eq_true rfl)
      have f99 := f95.wr W98
      have f100 := f96.other W98 ne94
      have f101 := B93.wr W98
      have hk := Nat.le_trans hk (Keep.of_wr W98).1
      have CR := CR.trans (CHr.wr W98 (Safe.exa hZ.alike B93 (by decide) (by decide)) CR.1)
      have K98 : Keep h0 h98 [] := K93.wr W98 (Or.inr sz_b93)
      have O98 := O93.wr W98 ge_b93
      have N98 := Fr.snoc X98 N97 ge_b93
      refine stp st98 ?_
      show Go p e below T98 (mkF m 158 #[.val (.int p0), .val (.int p1), .val (.int p2), .val (.int p3), .val (.int cc), .val (.ref b1), .val (.int (p1 &&& (7 : Int32))), .unset, .unset, .val (.int pd), .val (.ref b93)] []) _
      refine stp (fun _ => XS.aload X98.here hx rfl (hb hby at_158) rfl rfl) ?_
      show Go p e below T98 (mkF m 160 #[.val (.int p0), .val (.int p1), .val (.int p2), .val (.int p3), .val (.int cc), .val (.ref b1), .val (.int (p1 &&& (7 : Int32))), .unset, .unset, .val (.int pd), .val (.ref b93)] [(.ref b93)]) _
      refine stp (fun _ => XS.iconst X98.here hx rfl (hb hby at_160)) ?_
      show Go p e below T98 (mkF m 161 #[.val (.int p0), .val (.int p1), .val (.int p2), .val (.int p3), .val (.int cc), .val (.ref b1), .val (.int (p1 &&& (7 : Int32))), .unset, .unset, .val (.int pd), .val (.ref b93)] [(.int (1 : Int32)), (.ref b93)]) _
      refine stp (fun _ => XS.aload X98.here hx rfl (hb hby at_161) rfl rfl) ?_
      show Go p e below T98 (mkF m 163 #[.val (.int p0), .val (.int p1), .val (.int p2), .val (.int p3), .val (.int cc), .val (.ref b1), .val (.int (p1 &&& (7 : Int32))), .unset, .unset, .val (.int pd), .val (.ref b93)] [(.ref b1), (.int (1 : Int32)), (.ref b93)]) _
      refine stp (fun _ => XS.iload X98.here hx rfl (hb hby at_163) rfl) ?_
      show Go p e below T98 (mkF m 165 #[.val (.int p0), .val (.int p1), .val (.int p2), .val (.int p3), .val (.int cc), .val (.ref b1), .val (.int (p1 &&& (7 : Int32))), .unset, .unset, .val (.int pd), .val (.ref b93)] [(.int pd), (.ref b1), (.int (1 : Int32)), (.ref b93)]) _
      refine stp (fun _ => XS.iconst X98.here hx rfl (hb hby at_165)) ?_
      show Go p e below T98 (mkF m 166 #[.val (.int p0), .val (.int p1), .val (.int p2), .val (.int p3), .val (.int cc), .val (.ref b1), .val (.int (p1 &&& (7 : Int32))), .unset, .unset, .val (.int pd), .val (.ref b93)] [(.int (1 : Int32)), (.int pd), (.ref b1), (.int (1 : Int32)), (.ref b93)]) _
      obtain ⟨_, _, ⟨T103, L103, k103, n103⟩, -, X103, ⟨Lc103, hQ103, l103, y103, z103⟩, st103⟩ := Jvm.LawKit.callS X98 hx (y := (⟨"com/example/fetch_to_rank/fetchtorank/crawl/OutcomeOfPinLaw", "del", "([CII)C"⟩ : MethodName)) hown (mvT hZ (hw _ (List.mem_of_getElem? (i := 56) rfl))) (mvT hZ (hw _ (List.mem_of_getElem? (i := 57) rfl))) (mvT hZ (hw _ (List.mem_of_getElem? (i := 4) rfl))) (mvT hZ (hw _ (List.mem_of_getElem? (i := 58) rfl))) (by decide) (backOf (W := 2) (rm_del l Z a0 hw [] b1 pd (1 : Int32) k1 h98 n0 O98 f100 ⟨by decide, by decide⟩) hZ (hw _ (List.mem_of_getElem? (i := 58) rfl)) (hw _ (List.mem_of_getElem? (i := 4) rfl)) (by decide) (by decide)) (g := (mkF m 166 #[.val (.int p0), .val (.int p1), .val (.int p2), .val (.int p3), .val (.int cc), .val (.ref b1), .val (.int (p1 &&& (7 : Int32))), .unset, .unset, .val (.int pd), .val (.ref b93)] [(.int (1 : Int32)), (.int pd), (.ref b1), (.int (1 : Int32)), (.ref b93)])) rfl (by rw [hml]; rfl) (argsL := [(.ref b1), (.int pd), (.int (1 : Int32))]) (rest := [(.int (1 : Int32)), (.ref b93)]) (lenOf pd_7 rfl) rfl (by show 2 * 0 + _ ≤ _; exact Nat.le_of_eq rfl) (hb hby at_166) (fun _ _ => ⟨rfl, e98, (by decide : 2 + 0 ≤ _), (by decide : 17 + 0 ≤ _)⟩)
      dsimp only [Pt.U, Pt.locs, Pt.cells, Pt.slots] at X103 l103 y103 z103 st103 hQ103
      subst y103 z103
      obtain ⟨rfl, N103q, e103⟩ := hQ103
      have N103 : Fr n0 L103 := by rw [l103]; exact Fr.app N98 N103q
      refine stp st103 ?_
      show Go p e below T103 (mkF m 169 #[.val (.int p0), .val (.int p1), .val (.int p2), .val (.int p3), .val (.int cc), .val (.ref b1), .val (.int (p1 &&& (7 : Int32))), .unset, .unset, .val (.int pd), .val (.ref b93)] [(.int (own_del pd (1 : Int32))), (.int (1 : Int32)), (.ref b93)]) _
      obtain ⟨cl104, Ar104, q104, S104, M104, H104, G104⟩ := (id V98)
      have in104 : ¬ ((1 : Int32) < 0 ∨ cl104.slots.size ≤ ((1 : Int32)).toNatClampNeg) := inb_of S104 ⟨by decide, by decide⟩
      obtain ⟨T104, h104, X104, e104, W104, st104⟩ := stC X103 hx hZ e103 Ar104 (j := (1 : Int32)) in104 (g := (mkF m 169 #[.val (.int p0), .val (.int p1), .val (.int p2), .val (.int p3), .val (.int cc), .val (.ref b1), .val (.int (p1 &&& (7 : Int32))), .unset, .unset, .val (.int pd), .val (.ref b93)] [(.int (own_del pd (1 : Int32))), (.int (1 : Int32)), (.ref b93)])) rfl rfl (hb hby at_169)
      have V104 : Arv Z h104 b93 k93 .char (8 : Int32) [(.int (own_del pd (0 : Int32))), (.int (own_del pd (1 : Int32))), (.int (0 : Int32)), (.int (0 : Int32)), (.int (0 : Int32)), (.int (0 : Int32)), (.int (0 : Int32)), (.int (0 : Int32))] (.int (0 : Int32)) := Arv.set Ar104 q104 S104 M104 H104 G104 (ow_fits_char (char255 (own_del_sm _ _))) (ow_wr_char (char255 (own_del_sm _ _)) W104) 1 rfl (Nat.le_of_ble_eq_true rfl)
      have f105 := f99.wr W104
      have f106 := f100.other W104 ne94
      have f107 := f101.wr W104
      have hk := Nat.le_trans hk (Keep.of_wr W104).1
      have CR := CR.trans (CHr.wr W104 (Safe.exa hZ.alike f101 (by decide) (by decide)) CR.1)
      have K104 : Keep h0 h104 [] := K98.wr W104 (Or.inr sz_b93)
      have O104 := O98.wr W104 ge_b93
      have N104 := Fr.snoc X104 N103 ge_b93
      refine stp st104 ?_
      show Go p e below T104 (mkF m 170 #[.val (.int p0), .val (.int p1), .val (.int p2), .val (.int p3), .val (.int cc), .val (.ref b1), .val (.int (p1 &&& (7 : Int32))), .unset, .unset, .val (.int pd), .val (.ref b93)] []) _
      refine stp (fun _ => XS.aload X104.here hx rfl (hb hby at_170) rfl rfl) ?_
      show Go p e below T104 (mkF m 172 #[.val (.int p0), .val (.int p1), .val (.int p2), .val (.int p3), .val (.int cc), .val (.ref b1), .val (.int (p1 &&& (7 : Int32))), .unset, .unset, .val (.int pd), .val (.ref b93)] [(.ref b93)]) _
      refine stp (fun _ => XS.iconst X104.here hx rfl (hb hby at_172)) ?_
      show Go p e below T104 (mkF m 173 #[.val (.int p0), .val (.int p1), .val (.int p2), .val (.int p3), .val (.int cc), .val (.ref b1), .val (.int (p1 &&& (7 : Int32))), .unset, .unset, .val (.int pd), .val (.ref b93)] [(.int (2 : Int32)), (.ref b93)]) _
      refine stp (fun _ => XS.aload X104.here hx rfl (hb hby at_173) rfl rfl) ?_
      show Go p e below T104 (mkF m 175 #[.val (.int p0), .val (.int p1), .val (.int p2), .val (.int p3), .val (.int cc), .val (.ref b1), .val (.int (p1 &&& (7 : Int32))), .unset, .unset, .val (.int pd), .val (.ref b93)] [(.ref b1), (.int (2 : Int32)), (.ref b93)]) _
      refine stp (fun _ => XS.iload X104.here hx rfl (hb hby at_175) rfl) ?_
      show Go p e below T104 (mkF m 177 #[.val (.int p0), .val (.int p1), .val (.int p2), .val (.int p3), .val (.int cc), .val (.ref b1), .val (.int (p1 &&& (7 : Int32))), .unset, .unset, .val (.int pd), .val (.ref b93)] [(.int pd), (.ref b1), (.int (2 : Int32)), (.ref b93)]) _
      refine stp (fun _ => XS.iconst X104.here hx rfl (hb hby at_177)) ?_
      show Go p e below T104 (mkF m 178 #[.val (.int p0), .val (.int p1), .val (.int p2), .val (.int p3), .val (.int cc), .val (.ref b1), .val (.int (p1 &&& (7 : Int32))), .unset, .unset, .val (.int pd), .val (.ref b93)] [(.int (2 : Int32)), (.int pd), (.ref b1), (.int (2 : Int32)), (.ref b93)]) _
      obtain ⟨_, _, ⟨T109, L109, k109, n109⟩, -, X109, ⟨Lc109, hQ109, l109, y109, z109⟩, st109⟩ := Jvm.LawKit.callS X104 hx (y := (⟨"com/example/fetch_to_rank/fetchtorank/crawl/OutcomeOfPinLaw", "del", "([CII)C"⟩ : MethodName)) hown (mvT hZ (hw _ (List.mem_of_getElem? (i := 56) rfl))) (mvT hZ (hw _ (List.mem_of_getElem? (i := 57) rfl))) (mvT hZ (hw _ (List.mem_of_getElem? (i := 4) rfl))) (mvT hZ (hw _ (List.mem_of_getElem? (i := 58) rfl))) (by decide) (backOf (W := 2) (rm_del l Z a0 hw [] b1 pd (2 : Int32) k1 h104 n0 O104 f106 ⟨by decide, by decide⟩) hZ (hw _ (List.mem_of_getElem? (i := 58) rfl)) (hw _ (List.mem_of_getElem? (i := 4) rfl)) (by decide) (by decide)) (g := (mkF m 178 #[.val (.int p0), .val (.int p1), .val (.int p2), .val (.int p3), .val (.int cc), .val (.ref b1), .val (.int (p1 &&& (7 : Int32))), .unset, .unset, .val (.int pd), .val (.ref b93)] [(.int (2 : Int32)), (.int pd), (.ref b1), (.int (2 : Int32)), (.ref b93)])) rfl (by rw [hml]; rfl) (argsL := [(.ref b1), (.int pd), (.int (2 : Int32))]) (rest := [(.int (2 : Int32)), (.ref b93)]) (lenOf pd_7 rfl) rfl (by show 2 * 0 + _ ≤ _; exact Nat.le_of_eq rfl) (hb hby at_178) (fun _ _ => ⟨rfl, e104, (by decide : 2 + 0 ≤ _), (by decide : 17 + 0 ≤ _)⟩)
      dsimp only [Pt.U, Pt.locs, Pt.cells, Pt.slots] at X109 l109 y109 z109 st109 hQ109
      subst y109 z109
      obtain ⟨rfl, N109q, e109⟩ := hQ109
      have N109 : Fr n0 L109 := by rw [l109]; exact Fr.app N104 N109q
      refine stp st109 ?_
      show Go p e below T109 (mkF m 181 #[.val (.int p0), .val (.int p1), .val (.int p2), .val (.int p3), .val (.int cc), .val (.ref b1), .val (.int (p1 &&& (7 : Int32))), .unset, .unset, .val (.int pd), .val (.ref b93)] [(.int (own_del pd (2 : Int32))), (.int (2 : Int32)), (.ref b93)]) _
      obtain ⟨cl110, Ar110, q110, S110, M110, H110, G110⟩ := (id V104)
      have in110 : ¬ ((2 : Int32) < 0 ∨ cl110.slots.size ≤ ((2 : Int32)).toNatClampNeg) := inb_of S110 ⟨by decide, by decide⟩
      obtain ⟨T110, h110, X110, e110, W110, st110⟩ := stC X109 hx hZ e109 Ar110 (j := (2 : Int32)) in110 (g := (mkF m 181 #[.val (.int p0), .val (.int p1), .val (.int p2), .val (.int p3), .val (.int cc), .val (.ref b1), .val (.int (p1 &&& (7 : Int32))), .unset, .unset, .val (.int pd), .val (.ref b93)] [(.int (own_del pd (2 : Int32))), (.int (2 : Int32)), (.ref b93)])) rfl rfl (hb hby at_181)
      have V110 : Arv Z h110 b93 k93 .char (8 : Int32) [(.int (own_del pd (0 : Int32))), (.int (own_del pd (1 : Int32))), (.int (own_del pd (2 : Int32))), (.int (0 : Int32)), (.int (0 : Int32)), (.int (0 : Int32)), (.int (0 : Int32)), (.int (0 : Int32))] (.int (0 : Int32)) := Arv.set Ar110 q110 S110 M110 H110 G110 (ow_fits_char (char255 (own_del_sm _ _))) (ow_wr_char (char255 (own_del_sm _ _)) W110) 2 rfl (Nat.le_of_ble_eq_true rfl)
      have f111 := f105.wr W110
      have f112 := f106.other W110 ne94
      have f113 := f107.wr W110
      have hk := Nat.le_trans hk (Keep.of_wr W110).1
      have CR := CR.trans (CHr.wr W110 (Safe.exa hZ.alike f107 (by decide) (by decide)) CR.1)
      have K110 : Keep h0 h110 [] := K104.wr W110 (Or.inr sz_b93)
      have O110 := O104.wr W110 ge_b93
      have N110 := Fr.snoc X110 N109 ge_b93
      refine stp st110 ?_
      show Go p e below T110 (mkF m 182 #[.val (.int p0), .val (.int p1), .val (.int p2), .val (.int p3), .val (.int cc), .val (.ref b1), .val (.int (p1 &&& (7 : Int32))), .unset, .unset, .val (.int pd), .val (.ref b93)] []) _
      refine stp (fun _ => XS.aload X110.here hx rfl (hb hby at_182) rfl rfl) ?_
      show Go p e below T110 (mkF m 184 #[.val (.int p0), .val (.int p1), .val (.int p2), .val (.int p3), .val (.int cc), .val (.ref b1), .val (.int (p1 &&& (7 : Int32))), .unset, .unset, .val (.int pd), .val (.ref b93)] [(.ref b93)]) _
      refine stp (fun _ => XS.iconst X110.here hx rfl (hb hby at_184)) ?_
      show Go p e below T110 (mkF m 185 #[.val (.int p0), .val (.int p1), .val (.int p2), .val (.int p3), .val (.int cc), .val (.ref b1), .val (.int (p1 &&& (7 : Int32))), .unset, .unset, .val (.int pd), .val (.ref b93)] [(.int (3 : Int32)), (.ref b93)]) _
      refine stp (fun _ => XS.aload X110.here hx rfl (hb hby at_185) rfl rfl) ?_
      show Go p e below T110 (mkF m 187 #[.val (.int p0), .val (.int p1), .val (.int p2), .val (.int p3), .val (.int cc), .val (.ref b1), .val (.int (p1 &&& (7 : Int32))), .unset, .unset, .val (.int pd), .val (.ref b93)] [(.ref b1), (.int (3 : Int32)), (.ref b93)]) _
      refine stp (fun _ => XS.iload X110.here hx rfl (hb hby at_187) rfl) ?_
      show Go p e below T110 (mkF m 189 #[.val (.int p0), .val (.int p1), .val (.int p2), .val (.int p3), .val (.int cc), .val (.ref b1), .val (.int (p1 &&& (7 : Int32))), .unset, .unset, .val (.int pd), .val (.ref b93)] [(.int pd), (.ref b1), (.int (3 : Int32)), (.ref b93)]) _
      refine stp (fun _ => XS.iconst X110.here hx rfl (hb hby at_189)) ?_
      show Go p e below T110 (mkF m 190 #[.val (.int p0), .val (.int p1), .val (.int p2), .val (.int p3), .val (.int cc), .val (.ref b1), .val (.int (p1 &&& (7 : Int32))), .unset, .unset, .val (.int pd), .val (.ref b93)] [(.int (3 : Int32)), (.int pd), (.ref b1), (.int (3 : Int32)), (.ref b93)]) _
      obtain ⟨_, _, ⟨T115, L115, k115, n115⟩, -, X115, ⟨Lc115, hQ115, l115, y115, z115⟩, st115⟩ := Jvm.LawKit.callS X110 hx (y := (⟨"com/example/fetch_to_rank/fetchtorank/crawl/OutcomeOfPinLaw", "del", "([CII)C"⟩ : MethodName)) hown (mvT hZ (hw _ (List.mem_of_getElem? (i := 56) rfl))) (mvT hZ (hw _ (List.mem_of_getElem? (i := 57) rfl))) (mvT hZ (hw _ (List.mem_of_getElem? (i := 4) rfl))) (mvT hZ (hw _ (List.mem_of_getElem? (i := 58) rfl))) (by decide) (backOf (W := 2) (rm_del l Z a0 hw [] b1 pd (3 : Int32) k1 h110 n0 O110 f112 ⟨by decide, by decide⟩) hZ (hw _ (List.mem_of_getElem? (i := 58) rfl)) (hw _ (List.mem_of_getElem? (i := 4) rfl)) (by decide) (by decide)) (g := (mkF m 190 #[.val (.int p0), .val (.int p1), .val (.int p2), .val (.int p3), .val (.int cc), .val (.ref b1), .val (.int (p1 &&& (7 : Int32))), .unset, .unset, .val (.int pd), .val (.ref b93)] [(.int (3 : Int32)), (.int pd), (.ref b1), (.int (3 : Int32)), (.ref b93)])) rfl (by rw [hml]; rfl) (argsL := [(.ref b1), (.int pd), (.int (3 : Int32))]) (rest := [(.int (3 : Int32)), (.ref b93)]) (lenOf pd_7 rfl) rfl (by show 2 * 0 + _ ≤ _; exact Nat.le_of_eq rfl) (hb hby at_190) (fun _ _ => ⟨rfl, e110, (by decide : 2 + 0 ≤ _), (by decide : 17 + 0 ≤ _)⟩)
      dsimp only [Pt.U, Pt.locs, Pt.cells, Pt.slots] at X115 l115 y115 z115 st115 hQ115
      subst y115 z115
      obtain ⟨rfl, N115q, e115⟩ := hQ115
      have N115 : Fr n0 L115 := by rw [l115]; exact Fr.app N110 N115q
      refine stp st115 ?_
      show Go p e below T115 (mkF m 193 #[.val (.int p0), .val (.int p1), .val (.int p2), .val (.int p3), .val (.int cc), .val (.ref b1), .val (.int (p1 &&& (7 : Int32))), .unset, .unset, .val (.int pd), .val (.ref b93)] [(.int (own_del pd (3 : Int32))), (.int (3 : Int32)), (.ref b93)]) _
      obtain ⟨cl116, Ar116, q116, S116, M116, H116, G116⟩ := (id V110)
      have in116 : ¬ ((3 : Int32) < 0 ∨ cl116.slots.size ≤ ((3 : Int32)).toNatClampNeg) := inb_of S116 ⟨by decide, by decide⟩
      obtain ⟨T116, h116, X116, e116, W116, st116⟩ := stC X115 hx hZ e115 Ar116 (j := (3 : Int32)) in116 (g := (mkF m 193 #[.val (.int p0), .val (.int p1), .val (.int p2), .val (.int p3), .val (.int cc), .val (.ref b1), .val (.int (p1 &&& (7 : Int32))), .unset, .unset, .val (.int pd), .val (.ref b93)] [(.int (own_del pd (3 : Int32))), (.int (3 : Int32)), (.ref b93)])) rfl rfl (hb hby at_193)
      have V116 : Arv Z h116 b93 k93 .char (8 : Int32) [(.int (own_del pd (0 : Int32))), (.int (own_del pd (1 : Int32))), (.int (own_del pd (2 : Int32))), (.int (own_del pd (3 : Int32))), (.int (0 : Int32)), (.int (0 : Int32)), (.int (0 : Int32)), (.int (0 : Int32))] (.int (0 : Int32)) := Arv.set Ar116 q116 S116 M116 H116 G116 (ow_fits_char (char255 (own_del_sm _ _))) (ow_wr_char (char255 (own_del_sm _ _)) W116) 3 rfl (Nat.le_of_ble_eq_true rfl)
      have f117 := f111.wr W116
      have f118 := f112.other W116 ne94
      have f119 := f113.wr W116
      have hk := Nat.le_trans hk (Keep.of_wr W116).1
      have CR := CR.trans (CHr.wr W116 (Safe.exa hZ.alike f113 (by decide) (by decide)) CR.1)
      have K116 : Keep h0 h116 [] := K110.wr W116 (Or.inr sz_b93)
      have O116 := O110.wr W116 ge_b93
      have N116 := Fr.snoc X116 N115 ge_b93
      refine stp st116 ?_
      show Go p e below T116 (mkF m 194 #[.val (.int p0), .val (.int p1), .val (.int p2), .val (.int p3), .val (.int cc), .val (.ref b1), .val (.int (p1 &&& (7 : Int32))), .unset, .unset, .val (.int pd), .val (.ref b93)] []) _
      refine stp (fun _ => XS.aload X116.here hx rfl (hb hby at_194) rfl rfl) ?_
      show Go p e below T116 (mkF m 196 #[.val (.int p0), .val (.int p1), .val (.int p2), .val (.int p3), .val (.int cc), .val (.ref b1), .val (.int (p1 &&& (7 : Int32))), .unset, .unset, .val (.int pd), .val (.ref b93)] [(.ref b93)]) _
      refine stp (fun _ => XS.iconst X116.here hx rfl (hb hby at_196)) ?_
      show Go p e below T116 (mkF m 197 #[.val (.int p0), .val (.int p1), .val (.int p2), .val (.int p3), .val (.int cc), .val (.ref b1), .val (.int (p1 &&& (7 : Int32))), .unset, .unset, .val (.int pd), .val (.ref b93)] [(.int (4 : Int32)), (.ref b93)]) _
      refine stp (fun _ => XS.aload X116.here hx rfl (hb hby at_197) rfl rfl) ?_
      show Go p e below T116 (mkF m 199 #[.val (.int p0), .val (.int p1), .val (.int p2), .val (.int p3), .val (.int cc), .val (.ref b1), .val (.int (p1 &&& (7 : Int32))), .unset, .unset, .val (.int pd), .val (.ref b93)] [(.ref b1), (.int (4 : Int32)), (.ref b93)]) _
      refine stp (fun _ => XS.iload X116.here hx rfl (hb hby at_199) rfl) ?_
      show Go p e below T116 (mkF m 201 #[.val (.int p0), .val (.int p1), .val (.int p2), .val (.int p3), .val (.int cc), .val (.ref b1), .val (.int (p1 &&& (7 : Int32))), .unset, .unset, .val (.int pd), .val (.ref b93)] [(.int pd), (.ref b1), (.int (4 : Int32)), (.ref b93)]) _
      refine stp (fun _ => XS.iconst X116.here hx rfl (hb hby at_201)) ?_
      show Go p e below T116 (mkF m 202 #[.val (.int p0), .val (.int p1), .val (.int p2), .val (.int p3), .val (.int cc), .val (.ref b1), .val (.int (p1 &&& (7 : Int32))), .unset, .unset, .val (.int pd), .val (.ref b93)] [(.int (4 : Int32)), (.int pd), (.ref b1), (.int (4 : Int32)), (.ref b93)]) _
      obtain ⟨_, _, ⟨T121, L121, k121, n121⟩, -, X121, ⟨Lc121, hQ121, l121, y121, z121⟩, st121⟩ := Jvm.LawKit.callS X116 hx (y := (⟨"com/example/fetch_to_rank/fetchtorank/crawl/OutcomeOfPinLaw", "del", "([CII)C"⟩ : MethodName)) hown (mvT hZ (hw _ (List.mem_of_getElem? (i := 56) rfl))) (mvT hZ (hw _ (List.mem_of_getElem? (i := 57) rfl))) (mvT hZ (hw _ (List.mem_of_getElem? (i := 4) rfl))) (mvT hZ (hw _ (List.mem_of_getElem? (i := 58) rfl))) (by decide) (backOf (W := 2) (rm_del l Z a0 hw [] b1 pd (4 : Int32) k1 h116 n0 O116 f118 ⟨by decide, by decide⟩) hZ (hw _ (List.mem_of_getElem? (i := 58) rfl)) (hw _ (List.mem_of_getElem? (i := 4) rfl)) (by decide) (by decide)) (g := (mkF m 202 #[.val (.int p0), .val (.int p1), .val (.int p2), .val (.int p3), .val (.int cc), .val (.ref b1), .val (.int (p1 &&& (7 : Int32))), .unset, .unset, .val (.int pd), .val (.ref b93)] [(.int (4 : Int32)), (.int pd), (.ref b1), (.int (4 : Int32)), (.ref b93)])) rfl (by rw [hml]; rfl) (argsL := [(.ref b1), (.int pd), (.int (4 : Int32))]) (rest := [(.int (4 : Int32)), (.ref b93)]) (lenOf pd_7 rfl) rfl (by show 2 * 0 + _ ≤ _; exact Nat.le_of_eq rfl) (hb hby at_202) (fun _ _ => ⟨rfl, e116, (by decide : 2 + 0 ≤ _), (by decide : 17 + 0 ≤ _)⟩)
      dsimp only [Pt.U, Pt.locs, Pt.cells, Pt.slots] at X121 l121 y121 z121 st121 hQ121
      subst y121 z121
      obtain ⟨rfl, N121q, e121⟩ := hQ121
      have N121 : Fr n0 L121 := by rw [l121]; exact Fr.app N116 N121q
      refine stp st121 ?_
      show Go p e below T121 (mkF m 205 #[.val (.int p0), .val (.int p1), .val (.int p2), .val (.int p3), .val (.int cc), .val (.ref b1), .val (.int (p1 &&& (7 : Int32))), .unset, .unset, .val (.int pd), .val (.ref b93)] [(.int (own_del pd (4 : Int32))), (.int (4 : Int32)), (.ref b93)]) _
      obtain ⟨cl122, Ar122, q122, S122, M122, H122, G122⟩ := (id V116)
      have in122 : ¬ ((4 : Int32) < 0 ∨ cl122.slots.size ≤ ((4 : Int32)).toNatClampNeg) := inb_of S122 ⟨by decide, by decide⟩
      obtain ⟨T122, h122, X122, e122, W122, st122⟩ := stC X121 hx hZ e121 Ar122 (j := (4 : Int32)) in122 (g := (mkF m 205 #[.val (.int p0), .val (.int p1), .val (.int p2), .val (.int p3), .val (.int cc), .val (.ref b1), .val (.int (p1 &&& (7 : Int32))), .unset, .unset, .val (.int pd), .val (.ref b93)] [(.int (own_del pd (4 : Int32))), (.int (4 : Int32)), (.ref b93)])) rfl rfl (hb hby at_205)
      have V122 : Arv Z h122 b93 k93 .char (8 : Int32) [(.int (own_del pd (0 : Int32))), (.int (own_del pd (1 : Int32))), (.int (own_del pd (2 : Int32))), (.int (own_del pd (3 : Int32))), (.int (own_del pd (4 : Int32))), (.int (0 : Int32)), (.int (0 : Int32)), (.int (0 : Int32))] (.int (0 : Int32)) := Arv.set Ar122 q122 S122 M122 H122 G122 (ow_fits_char (char255 (own_del_sm _ _))) (ow_wr_char (char255 (own_del_sm _ _)) W122) 4 rfl (Nat.le_of_ble_eq_true rfl)
      have f123 := f117.wr W122
      have f124 := f118.other W122 ne94
      have f125 := f119.wr W122
      have hk := Nat.le_trans hk (Keep.of_wr W122).1
      have CR := CR.trans (CHr.wr W122 (Safe.exa hZ.alike f119 (by decide) (by decide)) CR.1)
      have K122 : Keep h0 h122 [] := K116.wr W122 (Or.inr sz_b93)
      have O122 := O116.wr W122 ge_b93
      have N122 := Fr.snoc X122 N121 ge_b93
      refine stp st122 ?_
      show Go p e below T122 (mkF m 206 #[.val (.int p0), .val (.int p1), .val (.int p2), .val (.int p3), .val (.int cc), .val (.ref b1), .val (.int (p1 &&& (7 : Int32))), .unset, .unset, .val (.int pd), .val (.ref b93)] []) _
      refine stp (fun _ => XS.aload X122.here hx rfl (hb hby at_206) rfl rfl) ?_
      show Go p e below T122 (mkF m 208 #[.val (.int p0), .val (.int p1), .val (.int p2), .val (.int p3), .val (.int cc), .val (.ref b1), .val (.int (p1 &&& (7 : Int32))), .unset, .unset, .val (.int pd), .val (.ref b93)] [(.ref b93)]) _
      refine stp (fun _ => XS.iconst X122.here hx rfl (hb hby at_208)) ?_
      show Go p e below T122 (mkF m 209 #[.val (.int p0), .val (.int p1), .val (.int p2), .val (.int p3), .val (.int cc), .val (.ref b1), .val (.int (p1 &&& (7 : Int32))), .unset, .unset, .val (.int pd), .val (.ref b93)] [(.int (5 : Int32)), (.ref b93)]) _
      refine stp (fun _ => XS.aload X122.here hx rfl (hb hby at_209) rfl rfl) ?_
      show Go p e below T122 (mkF m 211 #[.val (.int p0), .val (.int p1), .val (.int p2), .val (.int p3), .val (.int cc), .val (.ref b1), .val (.int (p1 &&& (7 : Int32))), .unset, .unset, .val (.int pd), .val (.ref b93)] [(.ref b1), (.int (5 : Int32)), (.ref b93)]) _
      refine stp (fun _ => XS.iload X122.here hx rfl (hb hby at_211) rfl) ?_
      show Go p e below T122 (mkF m 213 #[.val (.int p0), .val (.int p1), .val (.int p2), .val (.int p3), .val (.int cc), .val (.ref b1), .val (.int (p1 &&& (7 : Int32))), .unset, .unset, .val (.int pd), .val (.ref b93)] [(.int pd), (.ref b1), (.int (5 : Int32)), (.ref b93)]) _
      refine stp (fun _ => XS.iconst X122.here hx rfl (hb hby at_213)) ?_
      show Go p e below T122 (mkF m 214 #[.val (.int p0), .val (.int p1), .val (.int p2), .val (.int p3), .val (.int cc), .val (.ref b1), .val (.int (p1 &&& (7 : Int32))), .unset, .unset, .val (.int pd), .val (.ref b93)] [(.int (5 : Int32)), (.int pd), (.ref b1), (.int (5 : Int32)), (.ref b93)]) _
      obtain ⟨_, _, ⟨T127, L127, k127, n127⟩, -, X127, ⟨Lc127, hQ127, l127, y127, z127⟩, st127⟩ := Jvm.LawKit.callS X122 hx (y := (⟨"com/example/fetch_to_rank/fetchtorank/crawl/OutcomeOfPinLaw", "del", "([CII)C"⟩ : MethodName)) hown (mvT hZ (hw _ (List.mem_of_getElem? (i := 56) rfl))) (mvT hZ (hw _ (List.mem_of_getElem? (i := 57) rfl))) (mvT hZ (hw _ (List.mem_of_getElem? (i := 4) rfl))) (mvT hZ (hw _ (List.mem_of_getElem? (i := 58) rfl))) (by decide) (backOf (W := 2) (rm_del l Z a0 hw [] b1 pd (5 : Int32) k1 h122 n0 O122 f124 ⟨by decide, by decide⟩) hZ (hw _ (List.mem_of_getElem? (i := 58) rfl)) (hw _ (List.mem_of_getElem? (i := 4) rfl)) (by decide) (by decide)) (g := (mkF m 214 #[.val (.int p0), .val (.int p1), .val (.int p2), .val (.int p3), .val (.int cc), .val (.ref b1), .val (.int (p1 &&& (7 : Int32))), .unset, .unset, .val (.int pd), .val (.ref b93)] [(.int (5 : Int32)), (.int pd), (.ref b1), (.int (5 : Int32)), (.ref b93)])) rfl (by rw [hml]; rfl) (argsL := [(.ref b1), (.int pd), (.int (5 : Int32))]) (rest := [(.int (5 : Int32)), (.ref b93)]) (lenOf pd_7 rfl) rfl (by show 2 * 0 + _ ≤ _; exact Nat.le_of_eq rfl) (hb hby at_214) (fun _ _ => ⟨rfl, e122, (by decide : 2 + 0 ≤ _), (by decide : 17 + 0 ≤ _)⟩)
      dsimp only [Pt.U, Pt.locs, Pt.cells, Pt.slots] at X127 l127 y127 z127 st127 hQ127
      subst y127 z127
      obtain ⟨rfl, N127q, e127⟩ := hQ127
      have N127 : Fr n0 L127 := by rw [l127]; exact Fr.app N122 N127q
      refine stp st127 ?_
      show Go p e below T127 (mkF m 217 #[.val (.int p0), .val (.int p1), .val (.int p2), .val (.int p3), .val (.int cc), .val (.ref b1), .val (.int (p1 &&& (7 : Int32))), .unset, .unset, .val (.int pd), .val (.ref b93)] [(.int (own_del pd (5 : Int32))), (.int (5 : Int32)), (.ref b93)]) _
      obtain ⟨cl128, Ar128, q128, S128, M128, H128, G128⟩ := (id V122)
      have in128 : ¬ ((5 : Int32) < 0 ∨ cl128.slots.size ≤ ((5 : Int32)).toNatClampNeg) := inb_of S128 ⟨by decide, by decide⟩
      obtain ⟨T128, h128, X128, e128, W128, st128⟩ := stC X127 hx hZ e127 Ar128 (j := (5 : Int32)) in128 (g := (mkF m 217 #[.val (.int p0), .val (.int p1), .val (.int p2), .val (.int p3), .val (.int cc), .val (.ref b1), .val (.int (p1 &&& (7 : Int32))), .unset, .unset, .val (.int pd), .val (.ref b93)] [(.int (own_del pd (5 : Int32))), (.int (5 : Int32)), (.ref b93)])) rfl rfl (hb hby at_217)
      have V128 : Arv Z h128 b93 k93 .char (8 : Int32) [(.int (own_del pd (0 : Int32))), (.int (own_del pd (1 : Int32))), (.int (own_del pd (2 : Int32))), (.int (own_del pd (3 : Int32))), (.int (own_del pd (4 : Int32))), (.int (own_del pd (5 : Int32))), (.int (0 : Int32)), (.int (0 : Int32))] (.int (0 : Int32)) := Arv.set Ar128 q128 S128 M128 H128 G128 (ow_fits_char (char255 (own_del_sm _ _))) (ow_wr_char (char255 (own_del_sm _ _)) W128) 5 rfl (Nat.le_of_ble_eq_true rfl)
      have f129 := f123.wr W128
      have f130 := f124.other W128 ne94
      have f131 := f125.wr W128
      have hk := Nat.le_trans hk (Keep.of_wr W128).1
      have CR := CR.trans (CHr.wr W128 (Safe.exa hZ.alike f125 (by decide) (by decide)) CR.1)
      have K128 : Keep h0 h128 [] := K122.wr W128 (Or.inr sz_b93)
      have O128 := O122.wr W128 ge_b93
      have N128 := Fr.snoc X128 N127 ge_b93
      refine stp st128 ?_
      show Go p e below T128 (mkF m 218 #[.val (.int p0), .val (.int p1), .val (.int p2), .val (.int p3), .val (.int cc), .val (.ref b1), .val (.int (p1 &&& (7 : Int32))), .unset, .unset, .val (.int pd), .val (.ref b93)] []) _
      refine stp (fun _ => XS.aload X128.here hx rfl (hb hby at_218) rfl rfl) ?_
      show Go p e below T128 (mkF m 220 #[.val (.int p0), .val (.int p1), .val (.int p2), .val (.int p3), .val (.int cc), .val (.ref b1), .val (.int (p1 &&& (7 : Int32))), .unset, .unset, .val (.int pd), .val (.ref b93)] [(.ref b93)]) _
      refine stp (fun _ => XS.bipush X128.here hx rfl (hb hby at_220)) ?_
      show Go p e below T128 (mkF m 222 #[.val (.int p0), .val (.int p1), .val (.int p2), .val (.int p3), .val (.int cc), .val (.ref b1), .val (.int (p1 &&& (7 : Int32))), .unset, .unset, .val (.int pd), .val (.ref b93)] [(.int (6 : Int32)), (.ref b93)]) _
      refine stp (fun _ => XS.aload X128.here hx rfl (hb hby at_222) rfl rfl) ?_
      show Go p e below T128 (mkF m 224 #[.val (.int p0), .val (.int p1), .val (.int p2), .val (.int p3), .val (.int cc), .val (.ref b1), .val (.int (p1 &&& (7 : Int32))), .unset, .unset, .val (.int pd), .val (.ref b93)] [(.ref b1), (.int (6 : Int32)), (.ref b93)]) _
      refine stp (fun _ => XS.iload X128.here hx rfl (hb hby at_224) rfl) ?_
      show Go p e below T128 (mkF m 226 #[.val (.int p0), .val (.int p1), .val (.int p2), .val (.int p3), .val (.int cc), .val (.ref b1), .val (.int (p1 &&& (7 : Int32))), .unset, .unset, .val (.int pd), .val (.ref b93)] [(.int pd), (.ref b1), (.int (6 : Int32)), (.ref b93)]) _
      refine stp (fun _ => XS.bipush X128.here hx rfl (hb hby at_226)) ?_
      show Go p e below T128 (mkF m 228 #[.val (.int p0), .val (.int p1), .val (.int p2), .val (.int p3), .val (.int cc), .val (.ref b1), .val (.int (p1 &&& (7 : Int32))), .unset, .unset, .val (.int pd), .val (.ref b93)] [(.int (6 : Int32)), (.int pd), (.ref b1), (.int (6 : Int32)), (.ref b93)]) _
      obtain ⟨_, _, ⟨T133, L133, k133, n133⟩, -, X133, ⟨Lc133, hQ133, l133, y133, z133⟩, st133⟩ := Jvm.LawKit.callS X128 hx (y := (⟨"com/example/fetch_to_rank/fetchtorank/crawl/OutcomeOfPinLaw", "del", "([CII)C"⟩ : MethodName)) hown (mvT hZ (hw _ (List.mem_of_getElem? (i := 56) rfl))) (mvT hZ (hw _ (List.mem_of_getElem? (i := 57) rfl))) (mvT hZ (hw _ (List.mem_of_getElem? (i := 4) rfl))) (mvT hZ (hw _ (List.mem_of_getElem? (i := 58) rfl))) (by decide) (backOf (W := 2) (rm_del l Z a0 hw [] b1 pd (6 : Int32) k1 h128 n0 O128 f130 ⟨by decide, by decide⟩) hZ (hw _ (List.mem_of_getElem? (i := 58) rfl)) (hw _ (List.mem_of_getElem? (i := 4) rfl)) (by decide) (by decide)) (g := (mkF m 228 #[.val (.int p0), .val (.int p1), .val (.int p2), .val (.int p3), .val (.int cc), .val (.ref b1), .val (.int (p1 &&& (7 : Int32))), .unset, .unset, .val (.int pd), .val (.ref b93)] [(.int (6 : Int32)), (.int pd), (.ref b1), (.int (6 : Int32)), (.ref b93)])) rfl (by rw [hml]; rfl) (argsL := [(.ref b1), (.int pd), (.int (6 : Int32))]) (rest := [(.int (6 : Int32)), (.ref b93)]) (lenOf pd_7 rfl) rfl (by show 2 * 0 + _ ≤ _; exact Nat.le_of_eq rfl) (hb hby at_228) (fun _ _ => ⟨rfl, e128, (by decide : 2 + 0 ≤ _), (by decide : 17 + 0 ≤ _)⟩)
      dsimp only [Pt.U, Pt.locs, Pt.cells, Pt.slots] at X133 l133 y133 z133 st133 hQ133
      subst y133 z133
      obtain ⟨rfl, N133q, e133⟩ := hQ133
      have N133 : Fr n0 L133 := by rw [l133]; exact Fr.app N128 N133q
      refine stp st133 ?_
      show Go p e below T133 (mkF m 231 #[.val (.int p0), .val (.int p1), .val (.int p2), .val (.int p3), .val (.int cc), .val (.ref b1), .val (.int (p1 &&& (7 : Int32))), .unset, .unset, .val (.int pd), .val (.ref b93)] [(.int (own_del pd (6 : Int32))), (.int (6 : Int32)), (.ref b93)]) _
      obtain ⟨cl134, Ar134, q134, S134, M134, H134, G134⟩ := (id V128)
      have in134 : ¬ ((6 : Int32) < 0 ∨ cl134.slots.size ≤ ((6 : Int32)).toNatClampNeg) := inb_of S134 ⟨by decide, by decide⟩
      obtain ⟨T134, h134, X134, e134, W134, st134⟩ := stC X133 hx hZ e133 Ar134 (j := (6 : Int32)) in134 (g := (mkF m 231 #[.val (.int p0), .val (.int p1), .val (.int p2), .val (.int p3), .val (.int cc), .val (.ref b1), .val (.int (p1 &&& (7 : Int32))), .unset, .unset, .val (.int pd), .val (.ref b93)] [(.int (own_del pd (6 : Int32))), (.int (6 : Int32)), (.ref b93)])) rfl rfl (hb hby at_231)
      have V134 : Arv Z h134 b93 k93 .char (8 : Int32) [(.int (own_del pd (0 : Int32))), (.int (own_del pd (1 : Int32))), (.int (own_del pd (2 : Int32))), (.int (own_del pd (3 : Int32))), (.int (own_del pd (4 : Int32))), (.int (own_del pd (5 : Int32))), (.int (own_del pd (6 : Int32))), (.int (0 : Int32))] (.int (0 : Int32)) := Arv.set Ar134 q134 S134 M134 H134 G134 (ow_fits_char (char255 (own_del_sm _ _))) (ow_wr_char (char255 (own_del_sm _ _)) W134) 6 rfl (Nat.le_of_ble_eq_true rfl)
      have f135 := f129.wr W134
      have f136 := f130.other W134 ne94
      have f137 := f131.wr W134
      have hk := Nat.le_trans hk (Keep.of_wr W134).1
      have CR := CR.trans (CHr.wr W134 (Safe.exa hZ.alike f131 (by decide) (by decide)) CR.1)
      have K134 : Keep h0 h134 [] := K128.wr W134 (Or.inr sz_b93)
      have O134 := O128.wr W134 ge_b93
      have N134 := Fr.snoc X134 N133 ge_b93
      refine stp st134 ?_
      show Go p e below T134 (mkF m 232 #[.val (.int p0), .val (.int p1), .val (.int p2), .val (.int p3), .val (.int cc), .val (.ref b1), .val (.int (p1 &&& (7 : Int32))), .unset, .unset, .val (.int pd), .val (.ref b93)] []) _
      refine stp (fun _ => XS.aload X134.here hx rfl (hb hby at_232) rfl rfl) ?_
      show Go p e below T134 (mkF m 234 #[.val (.int p0), .val (.int p1), .val (.int p2), .val (.int p3), .val (.int cc), .val (.ref b1), .val (.int (p1 &&& (7 : Int32))), .unset, .unset, .val (.int pd), .val (.ref b93)] [(.ref b93)]) _
      refine stp (fun _ => XS.bipush X134.here hx rfl (hb hby at_234)) ?_
      show Go p e below T134 (mkF m 236 #[.val (.int p0), .val (.int p1), .val (.int p2), .val (.int p3), .val (.int cc), .val (.ref b1), .val (.int (p1 &&& (7 : Int32))), .unset, .unset, .val (.int pd), .val (.ref b93)] [(.int (7 : Int32)), (.ref b93)]) _
      refine stp (fun _ => XS.aload X134.here hx rfl (hb hby at_236) rfl rfl) ?_
      show Go p e below T134 (mkF m 238 #[.val (.int p0), .val (.int p1), .val (.int p2), .val (.int p3), .val (.int cc), .val (.ref b1), .val (.int (p1 &&& (7 : Int32))), .unset, .unset, .val (.int pd), .val (.ref b93)] [(.ref b1), (.int (7 : Int32)), (.ref b93)]) _
      refine stp (fun _ => XS.iload X134.here hx rfl (hb hby at_238) rfl) ?_
      show Go p e below T134 (mkF m 240 #[.val (.int p0), .val (.int p1), .val (.int p2), .val (.int p3), .val (.int cc), .val (.ref b1), .val (.int (p1 &&& (7 : Int32))), .unset, .unset, .val (.int pd), .val (.ref b93)] [(.int pd), (.ref b1), (.int (7 : Int32)), (.ref b93)]) _
      refine stp (fun _ => XS.bipush X134.here hx rfl (hb hby at_240)) ?_
      show Go p e below T134 (mkF m 242 #[.val (.int p0), .val (.int p1), .val (.int p2), .val (.int p3), .val (.int cc), .val (.ref b1), .val (.int (p1 &&& (7 : Int32))), .unset, .unset, .val (.int pd), .val (.ref b93)] [(.int (7 : Int32)), (.int pd), (.ref b1), (.int (7 : Int32)), (.ref b93)]) _
      obtain ⟨_, _, ⟨T139, L139, k139, n139⟩, -, X139, ⟨Lc139, hQ139, l139, y139, z139⟩, st139⟩ := Jvm.LawKit.callS X134 hx (y := (⟨"com/example/fetch_to_rank/fetchtorank/crawl/OutcomeOfPinLaw", "del", "([CII)C"⟩ : MethodName)) hown (mvT hZ (hw _ (List.mem_of_getElem? (i := 56) rfl))) (mvT hZ (hw _ (List.mem_of_getElem? (i := 57) rfl))) (mvT hZ (hw _ (List.mem_of_getElem? (i := 4) rfl))) (mvT hZ (hw _ (List.mem_of_getElem? (i := 58) rfl))) (by decide) (backOf (W := 2) (rm_del l Z a0 hw [] b1 pd (7 : Int32) k1 h134 n0 O134 f136 ⟨by decide, by decide⟩) hZ (hw _ (List.mem_of_getElem? (i := 58) rfl)) (hw _ (List.mem_of_getElem? (i := 4) rfl)) (by decide) (by decide)) (g := (mkF m 242 #[.val (.int p0), .val (.int p1), .val (.int p2), .val (.int p3), .val (.int cc), .val (.ref b1), .val (.int (p1 &&& (7 : Int32))), .unset, .unset, .val (.int pd), .val (.ref b93)] [(.int (7 : Int32)), (.int pd), (.ref b1), (.int (7 : Int32)), (.ref b93)])) rfl (by rw [hml]; rfl) (argsL := [(.ref b1), (.int pd), (.int (7 : Int32))]) (rest := [(.int (7 : Int32)), (.ref b93)]) (lenOf pd_7 rfl) rfl (by show 2 * 0 + _ ≤ _; exact Nat.le_of_eq rfl) (hb hby at_242) (fun _ _ => ⟨rfl, e134, (by decide : 2 + 0 ≤ _), (by decide : 17 + 0 ≤ _)⟩)
      dsimp only [Pt.U, Pt.locs, Pt.cells, Pt.slots] at X139 l139 y139 z139 st139 hQ139
      subst y139 z139
      obtain ⟨rfl, N139q, e139⟩ := hQ139
      have N139 : Fr n0 L139 := by rw [l139]; exact Fr.app N134 N139q
      refine stp st139 ?_
      show Go p e below T139 (mkF m 245 #[.val (.int p0), .val (.int p1), .val (.int p2), .val (.int p3), .val (.int cc), .val (.ref b1), .val (.int (p1 &&& (7 : Int32))), .unset, .unset, .val (.int pd), .val (.ref b93)] [(.int (own_del pd (7 : Int32))), (.int (7 : Int32)), (.ref b93)]) _
      obtain ⟨cl140, Ar140, q140, S140, M140, H140, G140⟩ := (id V134)
      have in140 : ¬ ((7 : Int32) < 0 ∨ cl140.slots.size ≤ ((7 : Int32)).toNatClampNeg) := inb_of S140 ⟨by decide, by decide⟩
      obtain ⟨T140, h140, X140, e140, W140, st140⟩ := stC X139 hx hZ e139 Ar140 (j := (7 : Int32)) in140 (g := (mkF m 245 #[.val (.int p0), .val (.int p1), .val (.int p2), .val (.int p3), .val (.int cc), .val (.ref b1), .val (.int (p1 &&& (7 : Int32))), .unset, .unset, .val (.int pd), .val (.ref b93)] [(.int (own_del pd (7 : Int32))), (.int (7 : Int32)), (.ref b93)])) rfl rfl (hb hby at_245)
      have V140 : Arv Z h140 b93 k93 .char (8 : Int32) [(.int (own_del pd (0 : Int32))), (.int (own_del pd (1 : Int32))), (.int (own_del pd (2 : Int32))), (.int (own_del pd (3 : Int32))), (.int (own_del pd (4 : Int32))), (.int (own_del pd (5 : Int32))), (.int (own_del pd (6 : Int32))), (.int (own_del pd (7 : Int32)))] (.int (0 : Int32)) := Arv.set Ar140 q140 S140 M140 H140 G140 (ow_fits_char (char255 (own_del_sm _ _))) (ow_wr_char (char255 (own_del_sm _ _)) W140) 7 rfl (Nat.le_of_ble_eq_true rfl)
      have f141 := f135.wr W140
      have f142 := f136.other W140 ne94
      have f143 := f137.wr W140
      have hk := Nat.le_trans hk (Keep.of_wr W140).1
      have CR := CR.trans (CHr.wr W140 (Safe.exa hZ.alike f137 (by decide) (by decide)) CR.1)
      have K140 : Keep h0 h140 [] := K134.wr W140 (Or.inr sz_b93)
      have O140 := O134.wr W140 ge_b93
      have N140 := Fr.snoc X140 N139 ge_b93
      refine stp st140 ?_
      show Go p e below T140 (mkF m 246 #[.val (.int p0), .val (.int p1), .val (.int p2), .val (.int p3), .val (.int cc), .val (.ref b1), .val (.int (p1 &&& (7 : Int32))), .unset, .unset, .val (.int pd), .val (.ref b93)] []) _
      obtain ⟨T145, h145, X145, e145, E145, A145, D145, -, st145⟩ := newO X140 hx hZ hown (hw _ (List.mem_of_getElem? (i := 6) rfl)) (hw _ (List.mem_of_getElem? (i := 7) rfl)) (hw _ (List.mem_of_getElem? (i := 8) rfl)) e140 (g := (mkF m 246 #[.val (.int p0), .val (.int p1), .val (.int p2), .val (.int p3), .val (.int cc), .val (.ref b1), .val (.int (p1 &&& (7 : Int32))), .unset, .unset, .val (.int pd), .val (.ref b93)] [])) rfl (hb hby at_246) (by decide) (by decide)
      obtain ⟨b145, g145⟩ : ∃ z, z = h140.size := ⟨_, rfl⟩
      rw [← g145] at A145 D145 st145
      have ne146 : b1 ≠ b145 := Nat.ne_of_lt (Nat.lt_of_lt_of_le f141.lt (Nat.le_of_eq g145.symm))
      have ne147 : b93 ≠ b145 := Nat.ne_of_lt (Nat.lt_of_lt_of_le f143.lt (Nat.le_of_eq g145.symm))
      have sz_b145 : h0.size ≤ b145 := Nat.le_trans K140.1 (Nat.le_of_eq g145.symm)
      have ge_b145 : n0 ≤ b145 := Nat.le_trans (old_le O140) (Nat.le_of_eq g145.symm)
      have f148 := f141.ext E145
      have f149 := f142.ext E145
      have f150 := f143.ext E145
      have f151 := V140.ext E145
      have Sf145 := (Safe.new (Z := Z) (EL := consts_1) (Nat.le_of_eq g145.symm)).ext E145 CR.1
      have hk := Nat.le_trans hk E145.1
      have CR := CR.trans (CHr.ext E145 CR.1)
      have K145 : Keep h0 h145 [] := K140.ext E145
      have O145 := O140.ext E145
      have F152 : Fld Z h145 b145 "java/lang/String" "coder" "B" (.int (0 : Int32)) := D145 (Or.inr (hw _ (List.mem_of_getElem? (i := 32) rfl))) (ty := .byte) (by decide)
      have F153 : Fld Z h145 b145 "java/lang/String" "value" "[B" .null := D145 (Or.inr (hw _ (List.mem_of_getElem? (i := 34) rfl))) (ty := (.array .byte)) (by decide)
      refine stp st145 ?_
      show Go p e below T145 (mkF m 249 #[.val (.int p0), .val (.int p1), .val (.int p2), .val (.int p3), .val (.int cc), .val (.ref b1), .val (.int (p1 &&& (7 : Int32))), .unset, .unset, .val (.int pd), .val (.ref b93)] [(.ref b145)]) _
      refine stp (fun _ => XS.dup X145.here hx rfl (hb hby at_249) rfl rfl) ?_
      show Go p e below T145 (mkF m 250 #[.val (.int p0), .val (.int p1), .val (.int p2), .val (.int p3), .val (.int cc), .val (.ref b1), .val (.int (p1 &&& (7 : Int32))), .unset, .unset, .val (.int pd), .val (.ref b93)] [(.ref b145), (.ref b145)]) _
      refine stp (fun _ => XS.aload X145.here hx rfl (hb hby at_250) rfl rfl) ?_
      show Go p e below T145 (mkF m 252 #[.val (.int p0), .val (.int p1), .val (.int p2), .val (.int p3), .val (.int cc), .val (.ref b1), .val (.int (p1 &&& (7 : Int32))), .unset, .unset, .val (.int pd), .val (.ref b93)] [(.ref b93), (.ref b145), (.ref b145)]) _
      obtain ⟨_, _, ⟨T154, L154, k154, n154⟩, -, X154, ⟨Lc154, hQ154, l154, y154, z154⟩, st154⟩ := X145.specialBack hx (y := (⟨"java/lang/String", "<init>", "([C)V"⟩ : MethodName)) rfl hown (mvT hZ (hw _ (List.mem_of_getElem? (i := 9) rfl))) (mvT hZ (hw _ (List.mem_of_getElem? (i := 10) rfl))) (mvT hZ (hw _ (List.mem_of_getElem? (i := 11) rfl))) (by decide) (StrChars.Road.backV (W := 1) hZ hws (kI := 4) (hw _ (List.mem_of_getElem? (i := 7) rfl)) (cs := ([(own_del pd (0 : Int32)), (own_del pd (1 : Int32)), (own_del pd (2 : Int32)), (own_del pd (3 : Int32)), (own_del pd (4 : Int32)), (own_del pd (5 : Int32)), (own_del pd (6 : Int32)), (own_del pd (7 : Int32))] : List Int32)) (bs := ([(own_del pd (0 : Int32)), (own_del pd (1 : Int32)), (own_del pd (2 : Int32)), (own_del pd (3 : Int32)), (own_del pd (4 : Int32)), (own_del pd (5 : Int32)), (own_del pd (6 : Int32)), (own_del pd (7 : Int32))] : List Int32).map (fun c => c.toInt8.toInt32)) (n := 8) ge_b145 (old_le O145) A145 F153 F152 f151 (S_CS.ext O145.2) hcz rfl rfl (by decide) (by decide) (own_sm1 (own_del_sm _ _) (own_sm1 (own_del_sm _ _) (own_sm1 (own_del_sm _ _) (own_sm1 (own_del_sm _ _) (own_sm1 (own_del_sm _ _) (own_sm1 (own_del_sm _ _) (own_sm1 (own_del_sm _ _) (own_sm1 (own_del_sm _ _) own_sm0)))))))) rfl (by decide) (by decide)) (g := (mkF m 252 #[.val (.int p0), .val (.int p1), .val (.int p2), .val (.int p3), .val (.int cc), .val (.ref b1), .val (.int (p1 &&& (7 : Int32))), .unset, .unset, .val (.int pd), .val (.ref b93)] [(.ref b93), (.ref b145), (.ref b145)])) rfl (by rw [hml]; rfl) (Steps.refl _) (a := b145) (argsL := [(.ref b93)]) (rest := [(.ref b145)]) (lenOf pd_5 rfl) rfl (by show 2 * 0 + _ ≤ _; exact Nat.le_of_eq rfl) (hb hby at_252) (fun _ _ => ⟨rfl, e145, (by decide : 3 + 1 ≤ _), (by decide : 21 + 8 ≤ _)⟩)
      dsimp only [Pt.U, Pt.locs, Pt.cells, Pt.slots] at X154 l154 y154 z154 st154 hQ154
      subst y154 z154
      obtain ⟨rfl, N154q, K154q, E154q, C154q, t154, kb154, ge_t154, sz154q, ne154q, F154q, V154q⟩ := hQ154
      have N154 : Fr n0 L154 := by rw [l154]; exact Fr.app N140 N154q
      have ne155 : b1 ≠ t154 := Nat.ne_of_lt (Nat.lt_of_lt_of_le f148.lt sz154q)
      have ne156 : b93 ≠ t154 := Nat.ne_of_lt (Nat.lt_of_lt_of_le f150.lt sz154q)
      have f157 := f148.keep K154q
      have f158 := f149.keep K154q (ninS ne146 nin0)
      have f159 := f150.keep K154q
      have f160 := f151.keep K154q (ninS ne147 nin0)
      have f161 := Sf145.keep K154q (sfS Sf145 sf0) CR.1
      have hk := Nat.le_trans hk K154q.1
      have CR := CR.trans (CHr.keep K154q (sfS Sf145 sf0) CR.1)
      have K154 : Keep h0 T154.heap [] := K145.trans K154q (allS (Or.inr sz_b145) all0)
      have sz_t154 : h0.size ≤ t154 := Nat.le_trans K145.1 sz154q
      have O154 := O145.keep K154q (allS ge_b145 all0)
      have Q154 : StrIs Z T154.heap b145 ([(own_del pd (0 : Int32)), (own_del pd (1 : Int32)), (own_del pd (2 : Int32)), (own_del pd (3 : Int32)), (own_del pd (4 : Int32)), (own_del pd (5 : Int32)), (own_del pd (6 : Int32)), (own_del pd (7 : Int32))] : List Int32) := StrIs.of E154q F154q C154q V154q rfl rfl (own_sm1 (own_del_sm _ _) (own_sm1 (own_del_sm _ _) (own_sm1 (own_del_sm _ _) (own_sm1 (own_del_sm _ _) (own_sm1 (own_del_sm _ _) (own_sm1 (own_del_sm _ _) (own_sm1 (own_del_sm _ _) (own_sm1 (own_del_sm _ _) own_sm0)))))))) (Nat.le_of_ble_eq_true rfl)
      refine stt st154 ?_
      show Go p e below T154 (mkF m 255 #[.val (.int p0), .val (.int p1), .val (.int p2), .val (.int p3), .val (.int cc), .val (.ref b1), .val (.int (p1 &&& (7 : Int32))), .unset, .unset, .val (.int pd), .val (.ref b93)] [(.ref b145)]) _
      refine stp (fun _ => XS.astore X154.here hx rfl (hb hby at_255) rfl rfl (l' := #[.val (.int p0), .val (.int p1), .val (.int p2), .val (.int p3), .val (.int cc), .val (.ref b1), .val (.int (p1 &&& (7 : Int32))), .val (.ref b145), .unset, .val (.int pd), .val (.ref b93)]) rfl) ?_
      show Go p e below T154 (mkF m 257 #[.val (.int p0), .val (.int p1), .val (.int p2), .val (.int p3), .val (.int cc), .val (.ref b1), .val (.int (p1 &&& (7 : Int32))), .val (.ref b145), .unset, .val (.int pd), .val (.ref b93)] []) _
      refine stp (fun _ => XS.iconst X154.here hx rfl (hb hby at_257)) ?_
      show Go p e below T154 (mkF m 258 #[.val (.int p0), .val (.int p1), .val (.int p2), .val (.int p3), .val (.int cc), .val (.ref b1), .val (.int (p1 &&& (7 : Int32))), .val (.ref b145), .unset, .val (.int pd), .val (.ref b93)] [(.int (0 : Int32))]) _
      refine stp (fun _ => XS.istore X154.here hx rfl (hb hby at_258) rfl (l' := #[.val (.int p0), .val (.int p1), .val (.int p2), .val (.int p3), .val (.int cc), .val (.ref b1), .val (.int (p1 &&& (7 : Int32))), .val (.ref b145), .val (.int (0 : Int32)), .val (.int pd), .val (.ref b93)]) rfl) ?_
      show Go p e below T154 (mkF m 260 #[.val (.int p0), .val (.int p1), .val (.int p2), .val (.int p3), .val (.int cc), .val (.ref b1), .val (.int (p1 &&& (7 : Int32))), .val (.ref b145), .val (.int (0 : Int32)), .val (.int pd), .val (.ref b93)] []) _
      refine stp (fun _ => XS.goto X154.here hx rfl (pc0 := 260) (pc' := 506) rfl (hb hby at_260) (by decide) (by decide)) ?_
      show Go p e below T154 (mkF m 506 #[.val (.int p0), .val (.int p1), .val (.int p2), .val (.int p3), .val (.int cc), .val (.ref b1), .val (.int (p1 &&& (7 : Int32))), .val (.ref b145), .val (.int (0 : Int32)), .val (.int pd), .val (.ref b93)] []) _
      refine stp (fun _ => XS.iloadN X154.here hx rfl (hb hby at_506) rfl) ?_
      show Go p e below T154 (mkF m 507 #[.val (.int p0), .val (.int p1), .val (.int p2), .val (.int p3), .val (.int cc), .val (.ref b1), .val (.int (p1 &&& (7 : Int32))), .val (.ref b145), .val (.int (0 : Int32)), .val (.int pd), .val (.ref b93)] [(.int p0)]) _
      refine stp (fun _ => XS.sipush X154.here hx rfl (hb hby at_507)) ?_
      show Go p e below T154 (mkF m 510 #[.val (.int p0), .val (.int p1), .val (.int p2), .val (.int p3), .val (.int cc), .val (.ref b1), .val (.int (p1 &&& (7 : Int32))), .val (.ref b145), .val (.int (0 : Int32)), .val (.int pd), .val (.ref b93)] [(.int (200 : Int32)), (.int p0)]) _
      by_cases q510_162 : p0 < (200 : Int32)
      · refine stp (fun _ => XS.icmpYes X154.here hx rfl (pc0 := 510) (pc' := 539) rfl (hb hby at_510) rfl (XT.ii_lt_t q510_162) (by decide) (by decide)) ?_
        show Go p e below T154 (mkF m 539 #[.val (.int p0), .val (.int p1), .val (.int p2), .val (.int p3), .val (.int cc), .val (.ref b1), .val (.int (p1 &&& (7 : Int32))), .val (.ref b145), .val (.int (0 : Int32)), .val (.int pd), .val (.ref b93)] []) _
        obtain ⟨T163, X163, e163, st163⟩ := getS2 X154 hx hZ hown (host := "") (Or.inl (hw _ (List.mem_of_getElem? (i := 35) rfl))) Via.refl rfl (S_ERROR.ext O154.2) (g := (mkF m 539 #[.val (.int p0), .val (.int p1), .val (.int p2), .val (.int p3), .val (.int cc), .val (.ref b1), .val (.int (p1 &&& (7 : Int32))), .val (.ref b145), .val (.int (0 : Int32)), .val (.int pd), .val (.ref b93)] [])) rfl (hb hby at_539)
        refine stp st163 ?_
        show Go p e below T163 (mkF m 542 #[.val (.int p0), .val (.int p1), .val (.int p2), .val (.int p3), .val (.int cc), .val (.ref b1), .val (.int (p1 &&& (7 : Int32))), .val (.ref b145), .val (.int (0 : Int32)), .val (.int pd), .val (.ref b93)] [(.ref error_)]) _
        refine stp (fun _ => XS.astore X163.here hx rfl (hb hby at_542) rfl rfl (l' := #[.val (.int p0), .val (.int p1), .val (.int p2), .val (.int p3), .val (.int cc), .val (.ref b1), .val (.int (p1 &&& (7 : Int32))), .val (.ref b145), .val (.int (0 : Int32)), .val (.ref error_), .val (.ref b93)]) rfl) ?_
        show Go p e below T163 (mkF m 544 #[.val (.int p0), .val (.int p1), .val (.int p2), .val (.int p3), .val (.int cc), .val (.ref b1), .val (.int (p1 &&& (7 : Int32))), .val (.ref b145), .val (.int (0 : Int32)), .val (.ref error_), .val (.ref b93)] []) _
        refine stp (fun _ => XS.iloadN X163.here hx rfl (hb hby at_544) rfl) ?_
        show Go p e below T163 (mkF m 545 #[.val (.int p0), .val (.int p1), .val (.int p2), .val (.int p3), .val (.int cc), .val (.ref b1), .val (.int (p1 &&& (7 : Int32))), .val (.ref b145), .val (.int (0 : Int32)), .val (.ref error_), .val (.ref b93)] [(.int p0)]) _
        refine stp (fun _ => XS.aload X163.here hx rfl (hb hby at_545) rfl rfl) ?_
        show Go p e below T163 (mkF m 547 #[.val (.int p0), .val (.int p1), .val (.int p2), .val (.int p3), .val (.int cc), .val (.ref b1), .val (.int (p1 &&& (7 : Int32))), .val (.ref b145), .val (.int (0 : Int32)), .val (.ref error_), .val (.ref b93)] [(.ref b145), (.int p0)]) _
        obtain ⟨_, _, ⟨T164, L164, k164, n164⟩, -, X164, hS164, gg164, ⟨Lc164, hQ164, l164, y164, z164, CRn164⟩, st164⟩ := callSS X163 hx (y := (⟨"com/example/fetch_to_rank/fetchtorank/crawl/Outcome", "of", "(ILjava/lang/String;)Lcom/example/fetch_to_rank/fetchtorank/crawl/Outcome;"⟩ : MethodName)) hown (mvT hZ (hw _ (List.mem_of_getElem? (i := 38) rfl))) (mvT hZ (hw _ (List.mem_of_getElem? (i := 39) rfl))) (mvT hZ (hw _ (List.mem_of_getElem? (i := 36) rfl))) (mvT hZ (hw _ (List.mem_of_getElem? (i := 40) rfl))) (by decide) (backOfSH (W := 0) (rm_of l Z a0 hw [] p0 b145 ([(own_del pd (0 : Int32)), (own_del pd (1 : Int32)), (own_del pd (2 : Int32)), (own_del pd (3 : Int32)), (own_del pd (4 : Int32)), (own_del pd (5 : Int32)), (own_del pd (6 : Int32)), (own_del pd (7 : Int32))] : List Int32) error_ page skipped error_ cz T154.heap n0 O154 hEL Q154 S_ERROR S_PAGE S_SKIPPED S_CS hcz ⟨fun _ => rfl, fun _ => rfl, fun h => absurd q510_162 h, fun h => absurd q510_162 h⟩) hZ (hw _ (List.mem_of_getElem? (i := 40) rfl)) (hw _ (List.mem_of_getElem? (i := 36) rfl)) (by decide) (by decide) hEL CR.1) (g := (mkF m 547 #[.val (.int p0), .val (.int p1), .val (.int p2), .val (.int p3), .val (.int cc), .val (.ref b1), .val (.int (p1 &&& (7 : Int32))), .val (.ref b145), .val (.int (0 : Int32)), .val (.ref error_), .val (.ref b93)] [(.ref b145), (.int p0)])) rfl (by rw [hml]; rfl) (argsL := [(.int p0), (.ref b145)]) (rest := []) (lenOf pd_6 rfl) rfl (by show 2 * 0 + _ ≤ _; exact Nat.le_of_eq rfl) (hb hby at_547) (fun _ _ => ⟨rfl, e163, (by decide : 4 + 2 ≤ _), (by decide : 29 + 40 ≤ _)⟩)
        dsimp only [Pt.U, Pt.locs, Pt.cells, Pt.slots] at X164 hS164 gg164 l164 y164 z164 st164 hQ164 CRn164
        subst y164 z164
        obtain ⟨X164, hS, hZ, hown⟩ := rebS hS (by rw [e163]; exact hk) X164 hS164 gg164 hZ hown
        obtain ⟨rfl, N164q, K164q⟩ := hQ164
        have N164 : Fr n0 L164 := by rw [l164]; exact Fr.app N154 N164q
        have f165 := f157.keep K164q
        have f166 := f158.keep K164q nin0
        have f167 := f159.keep K164q
        have f168 := f160.keep K164q nin0
        have f169 := CRn164.safe E154q.lt f161
        have f170 := E154q.keep K164q
        have f171 := Q154.keep K164q nin0 apart0
        have K164 : Keep h0 T164.heap [] := K154.trans K164q all0
        have O164 := O154.keep K164q all0
        have hk : T164.heap.size ≤ T164.heap.size := Nat.le_refl _
        have CR := CR.trans CRn164
        refine stt st164 ?_
        show Go p e below T164 (mkF m 550 #[.val (.int p0), .val (.int p1), .val (.int p2), .val (.int p3), .val (.int cc), .val (.ref b1), .val (.int (p1 &&& (7 : Int32))), .val (.ref b145), .val (.int (0 : Int32)), .val (.ref error_), .val (.ref b93)] [(.ref error_)]) _
        refine stp (fun _ => XS.aload X164.here hx rfl (hb hby at_550) rfl rfl) ?_
        show Go p e below T164 (mkF m 552 #[.val (.int p0), .val (.int p1), .val (.int p2), .val (.int p3), .val (.int cc), .val (.ref b1), .val (.int (p1 &&& (7 : Int32))), .val (.ref b145), .val (.int (0 : Int32)), .val (.ref error_), .val (.ref b93)] [(.ref error_), (.ref error_)]) _
        refine stp (fun _ => Jvm.RoadKit.acmp (g := (mkF m 552 #[.val (.int p0), .val (.int p1), .val (.int p2), .val (.int p3), .val (.int cc), .val (.ref b1), .val (.int (p1 &&& (7 : Int32))), .val (.ref b145), .val (.int (0 : Int32)), .val (.ref error_), .val (.ref b93)] [(.ref error_), (.ref error_)])) X164 hx rfl rfl rfl (pc0 := 552) (pc' := 555) (same := true) rfl (hb hby at_552) rfl (decide_eq_true rfl) (by decide) (by decide)) ?_
        show Go p e below T164 (mkF m 555 #[.val (.int p0), .val (.int p1), .val (.int p2), .val (.int p3), .val (.int cc), .val (.ref b1), .val (.int (p1 &&& (7 : Int32))), .val (.ref b145), .val (.int (0 : Int32)), .val (.ref error_), .val (.ref b93)] []) _
        refine stp (fun _ => XS.iconst X164.here hx rfl (hb hby at_555)) ?_
        show Go p e below T164 (mkF m 556 #[.val (.int p0), .val (.int p1), .val (.int p2), .val (.int p3), .val (.int cc), .val (.ref b1), .val (.int (p1 &&& (7 : Int32))), .val (.ref b145), .val (.int (0 : Int32)), .val (.ref error_), .val (.ref b93)] [(.int (1 : Int32))]) _
        refine stp (fun _ => XS.goto X164.here hx rfl (pc0 := 556) (pc' := 560) rfl (hb hby at_556) (by decide) (by decide)) ?_
        show Go p e below T164 (mkF m 560 #[.val (.int p0), .val (.int p1), .val (.int p2), .val (.int p3), .val (.int cc), .val (.ref b1), .val (.int (p1 &&& (7 : Int32))), .val (.ref b145), .val (.int (0 : Int32)), .val (.ref error_), .val (.ref b93)] [(.int (1 : Int32))]) _
        refine outNW X164 hx hZ hEL rfl hS hk CR (t := .boolean) hret (by simp) (hb hby at_560) hlk (by decide) (by decide) ?_
        exact ⟨rfl, N164⟩
      · refine stp (fun _ => XS.icmpNo X154.here hx rfl (hb hby at_510) rfl (XT.ii_lt_f q510_162)) ?_
        show Go p e below T154 (mkF m 513 #[.val (.int p0), .val (.int p1), .val (.int p2), .val (.int p3), .val (.int cc), .val (.ref b1), .val (.int (p1 &&& (7 : Int32))), .val (.ref b145), .val (.int (0 : Int32)), .val (.int pd), .val (.ref b93)] []) _
        refine stp (fun _ => XS.iloadN X154.here hx rfl (hb hby at_513) rfl) ?_
        show Go p e below T154 (mkF m 514 #[.val (.int p0), .val (.int p1), .val (.int p2), .val (.int p3), .val (.int cc), .val (.ref b1), .val (.int (p1 &&& (7 : Int32))), .val (.ref b145), .val (.int (0 : Int32)), .val (.int pd), .val (.ref b93)] [(.int p0)]) _
        refine stp (fun _ => XS.sipush X154.here hx rfl (hb hby at_514)) ?_
        show Go p e below T154 (mkF m 517 #[.val (.int p0), .val (.int p1), .val (.int p2), .val (.int p3), .val (.int cc), .val (.ref b1), .val (.int (p1 &&& (7 : Int32))), .val (.ref b145), .val (.int (0 : Int32)), .val (.int pd), .val (.ref b93)] [(.int (299 : Int32)), (.int p0)]) _
        by_cases q517_172 : (299 : Int32) < p0
        · refine stp (fun _ => XS.icmpYes X154.here hx rfl (pc0 := 517) (pc' := 539) rfl (hb hby at_517) rfl (XT.ii_gt_t q517_172) (by decide) (by decide)) ?_
          show Go p e below T154 (mkF m 539 #[.val (.int p0), .val (.int p1), .val (.int p2), .val (.int p3), .val (.int cc), .val (.ref b1), .val (.int (p1 &&& (7 : Int32))), .val (.ref b145), .val (.int (0 : Int32)), .val (.int pd), .val (.ref b93)] []) _
          obtain ⟨T173, X173, e173, st173⟩ := getS2 X154 hx hZ hown (host := "") (Or.inl (hw _ (List.mem_of_getElem? (i := 35) rfl))) Via.refl rfl (S_ERROR.ext O154.2) (g := (mkF m 539 #[.val (.int p0), .val (.int p1), .val (.int p2), .val (.int p3), .val (.int cc), .val (.ref b1), .val (.int (p1 &&& (7 : Int32))), .val (.ref b145), .val (.int (0 : Int32)), .val (.int pd), .val (.ref b93)] [])) rfl (hb hby at_539)
          refine stp st173 ?_
          show Go p e below T173 (mkF m 542 #[.val (.int p0), .val (.int p1), .val (.int p2), .val (.int p3), .val (.int cc), .val (.ref b1), .val (.int (p1 &&& (7 : Int32))), .val (.ref b145), .val (.int (0 : Int32)), .val (.int pd), .val (.ref b93)] [(.ref error_)]) _
          refine stp (fun _ => XS.astore X173.here hx rfl (hb hby at_542) rfl rfl (l' := #[.val (.int p0), .val (.int p1), .val (.int p2), .val (.int p3), .val (.int cc), .val (.ref b1), .val (.int (p1 &&& (7 : Int32))), .val (.ref b145), .val (.int (0 : Int32)), .val (.ref error_), .val (.ref b93)]) rfl) ?_
          show Go p e below T173 (mkF m 544 #[.val (.int p0), .val (.int p1), .val (.int p2), .val (.int p3), .val (.int cc), .val (.ref b1), .val (.int (p1 &&& (7 : Int32))), .val (.ref b145), .val (.int (0 : Int32)), .val (.ref error_), .val (.ref b93)] []) _
          refine stp (fun _ => XS.iloadN X173.here hx rfl (hb hby at_544) rfl) ?_
          show Go p e below T173 (mkF m 545 #[.val (.int p0), .val (.int p1), .val (.int p2), .val (.int p3), .val (.int cc), .val (.ref b1), .val (.int (p1 &&& (7 : Int32))), .val (.ref b145), .val (.int (0 : Int32)), .val (.ref error_), .val (.ref b93)] [(.int p0)]) _
          refine stp (fun _ => XS.aload X173.here hx rfl (hb hby at_545) rfl rfl) ?_
          show Go p e below T173 (mkF m 547 #[.val (.int p0), .val (.int p1), .val (.int p2), .val (.int p3), .val (.int cc), .val (.ref b1), .val (.int (p1 &&& (7 : Int32))), .val (.ref b145), .val (.int (0 : Int32)), .val (.ref error_), .val (.ref b93)] [(.ref b145), (.int p0)]) _
          obtain ⟨_, _, ⟨T174, L174, k174, n174⟩, -, X174, hS174, gg174, ⟨Lc174, hQ174, l174, y174, z174, CRn174⟩, st174⟩ := callSS X173 hx (y := (⟨"com/example/fetch_to_rank/fetchtorank/crawl/Outcome", "of", "(ILjava/lang/String;)Lcom/example/fetch_to_rank/fetchtorank/crawl/Outcome;"⟩ : MethodName)) hown (mvT hZ (hw _ (List.mem_of_getElem? (i := 38) rfl))) (mvT hZ (hw _ (List.mem_of_getElem? (i := 39) rfl))) (mvT hZ (hw _ (List.mem_of_getElem? (i := 36) rfl))) (mvT hZ (hw _ (List.mem_of_getElem? (i := 40) rfl))) (by decide) (backOfSH (W := 0) (rm_of l Z a0 hw [] p0 b145 ([(own_del pd (0 : Int32)), (own_del pd (1 : Int32)), (own_del pd (2 : Int32)), (own_del pd (3 : Int32)), (own_del pd (4 : Int32)), (own_del pd (5 : Int32)), (own_del pd (6 : Int32)), (own_del pd (7 : Int32))] : List Int32) error_ page skipped error_ cz T154.heap n0 O154 hEL Q154 S_ERROR S_PAGE S_SKIPPED S_CS hcz ⟨fun _ => rfl, fun _ => rfl, fun _ h => absurd q517_172 h, fun _ h => absurd q517_172 h⟩) hZ (hw _ (List.mem_of_getElem? (i := 40) rfl)) (hw _ (List.mem_of_getElem? (i := 36) rfl)) (by decide) (by decide) hEL CR.1) (g := (mkF m 547 #[.val (.int p0), .val (.int p1), .val (.int p2), .val (.int p3), .val (.int cc), .val (.ref b1), .val (.int (p1 &&& (7 : Int32))), .val (.ref b145), .val (.int (0 : Int32)), .val (.ref error_), .val (.ref b93)] [(.ref b145), (.int p0)])) rfl (by rw [hml]; rfl) (argsL := [(.int p0), (.ref b145)]) (rest := []) (lenOf pd_6 rfl) rfl (by show 2 * 0 + _ ≤ _; exact Nat.le_of_eq rfl) (hb hby at_547) (fun _ _ => ⟨rfl, e173, (by decide : 4 + 2 ≤ _), (by decide : 29 + 40 ≤ _)⟩)
          dsimp only [Pt.U, Pt.locs, Pt.cells, Pt.slots] at X174 hS174 gg174 l174 y174 z174 st174 hQ174 CRn174
          subst y174 z174
          obtain ⟨X174, hS, hZ, hown⟩ := rebS hS (by rw [e173]; exact hk) X174 hS174 gg174 hZ hown
          obtain ⟨rfl, N174q, K174q⟩ := hQ174
          have N174 : Fr n0 L174 := by rw [l174]; exact Fr.app N154 N174q
          have f175 := f157.keep K174q
          have f176 := f158.keep K174q nin0
          have f177 := f159.keep K174q
          have f178 := f160.keep K174q nin0
          have f179 := CRn174.safe E154q.lt f161
          have f180 := E154q.keep K174q
          have f181 := Q154.keep K174q nin0 apart0
          have K174 : Keep h0 T174.heap [] := K154.trans K174q all0
          have O174 := O154.keep K174q all0
          have hk : T174.heap.size ≤ T174.heap.size := Nat.le_refl _
          have CR := CR.trans CRn174
          refine stt st174 ?_
          show Go p e below T174 (mkF m 550 #[.val (.int p0), .val (.int p1), .val (.int p2), .val (.int p3), .val (.int cc), .val (.ref b1), .val (.int (p1 &&& (7 : Int32))), .val (.ref b145), .val (.int (0 : Int32)), .val (.ref error_), .val (.ref b93)] [(.ref error_)]) _
          refine stp (fun _ => XS.aload X174.here hx rfl (hb hby at_550) rfl rfl) ?_
          show Go p e below T174 (mkF m 552 #[.val (.int p0), .val (.int p1), .val (.int p2), .val (.int p3), .val (.int cc), .val (.ref b1), .val (.int (p1 &&& (7 : Int32))), .val (.ref b145), .val (.int (0 : Int32)), .val (.ref error_), .val (.ref b93)] [(.ref error_), (.ref error_)]) _
          refine stp (fun _ => Jvm.RoadKit.acmp (g := (mkF m 552 #[.val (.int p0), .val (.int p1), .val (.int p2), .val (.int p3), .val (.int cc), .val (.ref b1), .val (.int (p1 &&& (7 : Int32))), .val (.ref b145), .val (.int (0 : Int32)), .val (.ref error_), .val (.ref b93)] [(.ref error_), (.ref error_)])) X174 hx rfl rfl rfl (pc0 := 552) (pc' := 555) (same := true) rfl (hb hby at_552) rfl (decide_eq_true rfl) (by decide) (by decide)) ?_
          show Go p e below T174 (mkF m 555 #[.val (.int p0), .val (.int p1), .val (.int p2), .val (.int p3), .val (.int cc), .val (.ref b1), .val (.int (p1 &&& (7 : Int32))), .val (.ref b145), .val (.int (0 : Int32)), .val (.ref error_), .val (.ref b93)] []) _
          refine stp (fun _ => XS.iconst X174.here hx rfl (hb hby at_555)) ?_
          show Go p e below T174 (mkF m 556 #[.val (.int p0), .val (.int p1), .val (.int p2), .val (.int p3), .val (.int cc), .val (.ref b1), .val (.int (p1 &&& (7 : Int32))), .val (.ref b145), .val (.int (0 : Int32)), .val (.ref error_), .val (.ref b93)] [(.int (1 : Int32))]) _
          refine stp (fun _ => XS.goto X174.here hx rfl (pc0 := 556) (pc' := 560) rfl (hb hby at_556) (by decide) (by decide)) ?_
          show Go p e below T174 (mkF m 560 #[.val (.int p0), .val (.int p1), .val (.int p2), .val (.int p3), .val (.int cc), .val (.ref b1), .val (.int (p1 &&& (7 : Int32))), .val (.ref b145), .val (.int (0 : Int32)), .val (.ref error_), .val (.ref b93)] [(.int (1 : Int32))]) _
          refine outNW X174 hx hZ hEL rfl hS hk CR (t := .boolean) hret (by simp) (hb hby at_560) hlk (by decide) (by decide) ?_
          exact ⟨rfl, N174⟩
        · refine stp (fun _ => XS.icmpNo X154.here hx rfl (hb hby at_517) rfl (XT.ii_gt_f q517_172)) ?_
          show Go p e below T154 (mkF m 520 #[.val (.int p0), .val (.int p1), .val (.int p2), .val (.int p3), .val (.int cc), .val (.ref b1), .val (.int (p1 &&& (7 : Int32))), .val (.ref b145), .val (.int (0 : Int32)), .val (.int pd), .val (.ref b93)] []) _
          refine stp (fun _ => XS.iload X154.here hx rfl (hb hby at_520) rfl) ?_
          show Go p e below T154 (mkF m 522 #[.val (.int p0), .val (.int p1), .val (.int p2), .val (.int p3), .val (.int cc), .val (.ref b1), .val (.int (p1 &&& (7 : Int32))), .val (.ref b145), .val (.int (0 : Int32)), .val (.int pd), .val (.ref b93)] [(.int (0 : Int32))]) _
          refine stp (fun _ => XS.ifYes X154.here hx rfl (pc0 := 522) (pc' := 531) rfl (hb hby at_522) rfl (by decide) (by decide) (by decide)) ?_
          show Go p e below T154 (mkF m 531 #[.val (.int p0), .val (.int p1), .val (.int p2), .val (.int p3), .val (.int cc), .val (.ref b1), .val (.int (p1 &&& (7 : Int32))), .val (.ref b145), .val (.int (0 : Int32)), .val (.int pd), .val (.ref b93)] []) _
          obtain ⟨T182, X182, e182, st182⟩ := getS2 X154 hx hZ hown (host := "") (Or.inl (hw _ (List.mem_of_getElem? (i := 74) rfl))) Via.refl rfl (S_SKIPPED.ext O154.2) (g := (mkF m 531 #[.val (.int p0), .val (.int p1), .val (.int p2), .val (.int p3), .val (.int cc), .val (.ref b1), .val (.int (p1 &&& (7 : Int32))), .val (.ref b145), .val (.int (0 : Int32)), .val (.int pd), .val (.ref b93)] [])) rfl (hb hby at_531)
          refine stp st182 ?_
          show Go p e below T182 (mkF m 534 #[.val (.int p0), .val (.int p1), .val (.int p2), .val (.int p3), .val (.int cc), .val (.ref b1), .val (.int (p1 &&& (7 : Int32))), .val (.ref b145), .val (.int (0 : Int32)), .val (.int pd), .val (.ref b93)] [(.ref skipped)]) _
          refine stp (fun _ => XS.astore X182.here hx rfl (hb hby at_534) rfl rfl (l' := #[.val (.int p0), .val (.int p1), .val (.int p2), .val (.int p3), .val (.int cc), .val (.ref b1), .val (.int (p1 &&& (7 : Int32))), .val (.ref b145), .val (.int (0 : Int32)), .val (.ref skipped), .val (.ref b93)]) rfl) ?_
          show Go p e below T182 (mkF m 536 #[.val (.int p0), .val (.int p1), .val (.int p2), .val (.int p3), .val (.int cc), .val (.ref b1), .val (.int (p1 &&& (7 : Int32))), .val (.ref b145), .val (.int (0 : Int32)), .val (.ref skipped), .val (.ref b93)] []) _
          refine stp (fun _ => XS.goto X182.here hx rfl (pc0 := 536) (pc' := 544) rfl (hb hby at_536) (by decide) (by decide)) ?_
          show Go p e below T182 (mkF m 544 #[.val (.int p0), .val (.int p1), .val (.int p2), .val (.int p3), .val (.int cc), .val (.ref b1), .val (.int (p1 &&& (7 : Int32))), .val (.ref b145), .val (.int (0 : Int32)), .val (.ref skipped), .val (.ref b93)] []) _
          refine stp (fun _ => XS.iloadN X182.here hx rfl (hb hby at_544) rfl) ?_
          show Go p e below T182 (mkF m 545 #[.val (.int p0), .val (.int p1), .val (.int p2), .val (.int p3), .val (.int cc), .val (.ref b1), .val (.int (p1 &&& (7 : Int32))), .val (.ref b145), .val (.int (0 : Int32)), .val (.ref skipped), .val (.ref b93)] [(.int p0)]) _
          refine stp (fun _ => XS.aload X182.here hx rfl (hb hby at_545) rfl rfl) ?_
          show Go p e below T182 (mkF m 547 #[.val (.int p0), .val (.int p1), .val (.int p2), .val (.int p3), .val (.int cc), .val (.ref b1), .val (.int (p1 &&& (7 : Int32))), .val (.ref b145), .val (.int (0 : Int32)), .val (.ref skipped), .val (.ref b93)] [(.ref b145), (.int p0)]) _
          obtain ⟨_, _, ⟨T183, L183, k183, n183⟩, -, X183, hS183, gg183, ⟨Lc183, hQ183, l183, y183, z183, CRn183⟩, st183⟩ := callSS X182 hx (y := (⟨"com/example/fetch_to_rank/fetchtorank/crawl/Outcome", "of", "(ILjava/lang/String;)Lcom/example/fetch_to_rank/fetchtorank/crawl/Outcome;"⟩ : MethodName)) hown (mvT hZ (hw _ (List.mem_of_getElem? (i := 38) rfl))) (mvT hZ (hw _ (List.mem_of_getElem? (i := 39) rfl))) (mvT hZ (hw _ (List.mem_of_getElem? (i := 36) rfl))) (mvT hZ (hw _ (List.mem_of_getElem? (i := 40) rfl))) (by decide) (backOfSH (W := 0) (rm_of l Z a0 hw [] p0 b145 ([(own_del pd (0 : Int32)), (own_del pd (1 : Int32)), (own_del pd (2 : Int32)), (own_del pd (3 : Int32)), (own_del pd (4 : Int32)), (own_del pd (5 : Int32)), (own_del pd (6 : Int32)), (own_del pd (7 : Int32))] : List Int32) error_ page skipped skipped cz T154.heap n0 O154 hEL Q154 S_ERROR S_PAGE S_SKIPPED S_CS hcz ⟨fun h => absurd h q510_162, fun h => absurd h q517_172, fun _ _ h => absurd h (own_neq (show (9 : Nat) ≠ 8 by decide)), fun _ _ _ => rfl⟩) hZ (hw _ (List.mem_of_getElem? (i := 40) rfl)) (hw _ (List.mem_of_getElem? (i := 36) rfl)) (by decide) (by decide) hEL CR.1) (g := (mkF m 547 #[.val (.int p0), .val (.int p1), .val (.int p2), .val (.int p3), .val (.int cc), .val (.ref b1), .val (.int (p1 &&& (7 : Int32))), .val (.ref b145), .val (.int (0 : Int32)), .val (.ref skipped), .val (.ref b93)] [(.ref b145), (.int p0)])) rfl (by rw [hml]; rfl) (argsL := [(.int p0), (.ref b145)]) (rest := []) (lenOf pd_6 rfl) rfl (by show 2 * 0 + _ ≤ _; exact Nat.le_of_eq rfl) (hb hby at_547) (fun _ _ => ⟨rfl, e182, (by decide : 4 + 2 ≤ _), (by decide : 29 + 40 ≤ _)⟩)
          dsimp only [Pt.U, Pt.locs, Pt.cells, Pt.slots] at X183 hS183 gg183 l183 y183 z183 st183 hQ183 CRn183
          subst y183 z183
          obtain ⟨X183, hS, hZ, hown⟩ := rebS hS (by rw [e182]; exact hk) X183 hS183 gg183 hZ hown
          obtain ⟨rfl, N183q, K183q⟩ := hQ183
          have N183 : Fr n0 L183 := by rw [l183]; exact Fr.app N154 N183q
          have f184 := f157.keep K183q
          have f185 := f158.keep K183q nin0
          have f186 := f159.keep K183q
          have f187 := f160.keep K183q nin0
          have f188 := CRn183.safe E154q.lt f161
          have f189 := E154q.keep K183q
          have f190 := Q154.keep K183q nin0 apart0
          have K183 : Keep h0 T183.heap [] := K154.trans K183q all0
          have O183 := O154.keep K183q all0
          have hk : T183.heap.size ≤ T183.heap.size := Nat.le_refl _
          have CR := CR.trans CRn183
          refine stt st183 ?_
          show Go p e below T183 (mkF m 550 #[.val (.int p0), .val (.int p1), .val (.int p2), .val (.int p3), .val (.int cc), .val (.ref b1), .val (.int (p1 &&& (7 : Int32))), .val (.ref b145), .val (.int (0 : Int32)), .val (.ref skipped), .val (.ref b93)] [(.ref skipped)]) _
          refine stp (fun _ => XS.aload X183.here hx rfl (hb hby at_550) rfl rfl) ?_
          show Go p e below T183 (mkF m 552 #[.val (.int p0), .val (.int p1), .val (.int p2), .val (.int p3), .val (.int cc), .val (.ref b1), .val (.int (p1 &&& (7 : Int32))), .val (.ref b145), .val (.int (0 : Int32)), .val (.ref skipped), .val (.ref b93)] [(.ref skipped), (.ref skipped)]) _
          refine stp (fun _ => Jvm.RoadKit.acmp (g := (mkF m 552 #[.val (.int p0), .val (.int p1), .val (.int p2), .val (.int p3), .val (.int cc), .val (.ref b1), .val (.int (p1 &&& (7 : Int32))), .val (.ref b145), .val (.int (0 : Int32)), .val (.ref skipped), .val (.ref b93)] [(.ref skipped), (.ref skipped)])) X183 hx rfl rfl rfl (pc0 := 552) (pc' := 555) (same := true) rfl (hb hby at_552) rfl (decide_eq_true rfl) (by decide) (by decide)) ?_
          show Go p e below T183 (mkF m 555 #[.val (.int p0), .val (.int p1), .val (.int p2), .val (.int p3), .val (.int cc), .val (.ref b1), .val (.int (p1 &&& (7 : Int32))), .val (.ref b145), .val (.int (0 : Int32)), .val (.ref skipped), .val (.ref b93)] []) _
          refine stp (fun _ => XS.iconst X183.here hx rfl (hb hby at_555)) ?_
          show Go p e below T183 (mkF m 556 #[.val (.int p0), .val (.int p1), .val (.int p2), .val (.int p3), .val (.int cc), .val (.ref b1), .val (.int (p1 &&& (7 : Int32))), .val (.ref b145), .val (.int (0 : Int32)), .val (.ref skipped), .val (.ref b93)] [(.int (1 : Int32))]) _
          refine stp (fun _ => XS.goto X183.here hx rfl (pc0 := 556) (pc' := 560) rfl (hb hby at_556) (by decide) (by decide)) ?_
          show Go p e below T183 (mkF m 560 #[.val (.int p0), .val (.int p1), .val (.int p2), .val (.int p3), .val (.int cc), .val (.ref b1), .val (.int (p1 &&& (7 : Int32))), .val (.ref b145), .val (.int (0 : Int32)), .val (.ref skipped), .val (.ref b93)] [(.int (1 : Int32))]) _
          refine outNW X183 hx hZ hEL rfl hS hk CR (t := .boolean) hret (by simp) (hb hby at_560) hlk (by decide) (by decide) ?_
          exact ⟨rfl, N183⟩
    · refine stp (fun _ => XS.icmpYes X26.here hx rfl (pc0 := 128) (pc' := 263) rfl (hb hby at_128) rfl (XT.ii_ne_t q128_92) (by decide) (by decide)) ?_
      show Go p e below T26 (mkF m 263 #[.val (.int p0), .val (.int p1), .val (.int p2), .val (.int p3), .val (.int cc), .val (.ref b1), .val (.int (p1 &&& (7 : Int32))), .unset, .unset, .unset, .unset] []) _
      refine stp (fun _ => XS.iload X26.here hx rfl (hb hby at_263) rfl) ?_
      show Go p e below T26 (mkF m 265 #[.val (.int p0), .val (.int p1), .val (.int p2), .val (.int p3), .val (.int cc), .val (.ref b1), .val (.int (p1 &&& (7 : Int32))), .unset, .unset, .unset, .unset] [(.int (p1 &&& (7 : Int32)))]) _
      refine stp (fun _ => XS.iconst X26.here hx rfl (hb hby at_265)) ?_
      show Go p e below T26 (mkF m 266 #[.val (.int p0), .val (.int p1), .val (.int p2), .val (.int p3), .val (.int cc), .val (.ref b1), .val (.int (p1 &&& (7 : Int32))), .unset, .unset, .unset, .unset] [(.int (3 : Int32)), (.int (p1 &&& (7 : Int32)))]) _
      by_cases q266_191 : (p1 &&& (7 : Int32)) = (3 : Int32)
      · refine stp (fun _ => XS.icmpNo X26.here hx rfl (hb hby at_266) rfl (XT.ii_ne_f q266_191)) ?_
        show Go p e below T26 (mkF m 269 #[.val (.int p0), .val (.int p1), .val (.int p2), .val (.int p3), .val (.int cc), .val (.ref b1), .val (.int (p1 &&& (7 : Int32))), .unset, .unset, .unset, .unset] []) _
        refine stp (fun _ => XS.iloadN X26.here hx rfl (hb hby at_269) rfl) ?_
        show Go p e below T26 (mkF m 270 #[.val (.int p0), .val (.int p1), .val (.int p2), .val (.int p3), .val (.int cc), .val (.ref b1), .val (.int (p1 &&& (7 : Int32))), .unset, .unset, .unset, .unset] [(.int p2)]) _
        refine stp (fun _ => X26.ldcInt hx hown (mvT hZ (hw _ (List.mem_of_getElem? (i := 1) rfl))) (g := (mkF m 270 #[.val (.int p0), .val (.int p1), .val (.int p2), .val (.int p3), .val (.int cc), .val (.ref b1), .val (.int (p1 &&& (7 : Int32))), .unset, .unset, .unset, .unset] [(.int p2)])) rfl (hb hby at_270) _) ?_
        show Go p e below T26 (mkF m 272 #[.val (.int p0), .val (.int p1), .val (.int p2), .val (.int p3), .val (.int cc), .val (.ref b1), .val (.int (p1 &&& (7 : Int32))), .unset, .unset, .unset, .unset] [(.int (2147483647 : Int32)), (.int p2)]) _
        refine stp (fun _ => XS.iand X26.here hx rfl (hb hby at_272) rfl) ?_
        show Go p e below T26 (mkF m 273 #[.val (.int p0), .val (.int p1), .val (.int p2), .val (.int p3), .val (.int cc), .val (.ref b1), .val (.int (p1 &&& (7 : Int32))), .unset, .unset, .unset, .unset] [(.int (p2 &&& (2147483647 : Int32)))]) _
        refine stp (fun _ => XS.bipush X26.here hx rfl (hb hby at_273)) ?_
        show Go p e below T26 (mkF m 275 #[.val (.int p0), .val (.int p1), .val (.int p2), .val (.int p3), .val (.int cc), .val (.ref b1), .val (.int (p1 &&& (7 : Int32))), .unset, .unset, .unset, .unset] [(.int (10 : Int32)), (.int (p2 &&& (2147483647 : Int32)))]) _
        refine stp (fun _ => iremM X26 hx rfl (hb hby at_275) rfl (by decide)) ?_
        show Go p e below T26 (mkF m 276 #[.val (.int p0), .val (.int p1), .val (.int p2), .val (.int p3), .val (.int cc), .val (.ref b1), .val (.int (p1 &&& (7 : Int32))), .unset, .unset, .unset, .unset] [(.int ((p2 &&& (2147483647 : Int32)) % (10 : Int32)))]) _
        refine stp (fun _ => XS.istore X26.here hx rfl (hb hby at_276) rfl (l' := #[.val (.int p0), .val (.int p1), .val (.int p2), .val (.int p3), .val (.int cc), .val (.ref b1), .val (.int (p1 &&& (7 : Int32))), .unset, .unset, .val (.int ((p2 &&& (2147483647 : Int32)) % (10 : Int32))), .unset]) rfl) ?_
        show Go p e below T26 (mkF m 278 #[.val (.int p0), .val (.int p1), .val (.int p2), .val (.int p3), .val (.int cc), .val (.ref b1), .val (.int (p1 &&& (7 : Int32))), .unset, .unset, .val (.int ((p2 &&& (2147483647 : Int32)) % (10 : Int32))), .unset] []) _
        obtain ⟨pi, hpi⟩ : ∃ z : Int32, z = ((p2 &&& (2147483647 : Int32)) % (10 : Int32)) := ⟨_, rfl⟩
        rw [← hpi]
        show Go p e below T26 (mkF m 278 #[.val (.int p0), .val (.int p1), .val (.int p2), .val (.int p3), .val (.int cc), .val (.ref b1), .val (.int (p1 &&& (7 : Int32))), .unset, .unset, .val (.int pi), .unset] []) _
        replace hpi := own_rem10 hpi
        refine stp (fun _ => XS.bipush X26.here hx rfl (hb hby at_278)) ?_
        show Go p e below T26 (mkF m 280 #[.val (.int p0), .val (.int p1), .val (.int p2), .val (.int p3), .val (.int cc), .val (.ref b1), .val (.int (p1 &&& (7 : Int32))), .unset, .unset, .val (.int pi), .unset] [(.int (10 : Int32))]) _
        obtain ⟨T192, h192, k192, X192, e192, E192, A192, B192, st192⟩ := newPE X26 hx hZ (hw _ (List.mem_of_getElem? (i := 0) rfl)) e26 (g := (mkF m 280 #[.val (.int p0), .val (.int p1), .val (.int p2), .val (.int p3), .val (.int cc), .val (.ref b1), .val (.int (p1 &&& (7 : Int32))), .unset, .unset, .val (.int pi), .unset] [(.int (10 : Int32))])) rfl (hb hby at_280) rfl (by decide) (cap := 10) (by decide) (by decide) (by decide) (by decide) (ad := "[C") (by decide)
        obtain ⟨b192, g192⟩ : ∃ z, z = h26.size := ⟨_, rfl⟩
        rw [← g192] at A192 B192 st192
        have ne193 : b1 ≠ b192 := Nat.ne_of_lt (Nat.lt_of_lt_of_le f27.lt (Nat.le_of_eq g192.symm))
        have sz_b192 : h0.size ≤ b192 := Nat.le_trans K26.1 (Nat.le_of_eq g192.symm)
        have ge_b192 : n0 ≤ b192 := Nat.le_trans (old_le O26) (Nat.le_of_eq g192.symm)
        have f194 := f27.ext E192
        have f195 := V26.ext E192
        have hk := Nat.le_trans hk E192.1
        have CR := CR.trans (CHr.ext E192 CR.1)
        have K192 : Keep h0 h192 [] := K26.ext E192
        have O192 := O26.ext E192
        have V192 : Arv Z h192 b192 k192 .char (10 : Int32) [(.int (0 : Int32)), (.int (0 : Int32)), (.int (0 : Int32)), (.int (0 : Int32)), (.int (0 : Int32)), (.int (0 : Int32)), (.int (0 : Int32)), (.int (0 : Int32)), (.int (0 : Int32)), (.int (0 : Int32))] (.int (0 : Int32)) := (Arv.new A192 (by decide)).pad (pad_rep [] (.int (0 : Int32)) 10)
        refine stp st192 ?_
        show Go p e below T192 (mkF m 282 #[.val (.int p0), .val (.int p1), .val (.int p2), .val (.int p3), .val (.int cc), .val (.ref b1), .val (.int (p1 &&& (7 : Int32))), .unset, .unset, .val (.int pi), .unset] [(.ref b192)]) _
        refine stp (fun _ => XS.astore X192.here hx rfl (hb hby at_282) rfl rfl (l' := #[.val (.int p0), .val (.int p1), .val (.int p2), .val (.int p3), .val (.int cc), .val (.ref b1), .val (.int (p1 &&& (7 : Int32))), .unset, .unset, .val (.int pi), .val (.ref b192)]) rfl) ?_
        show Go p e below T192 (mkF m 284 #[.val (.int p0), .val (.int p1), .val (.int p2), .val (.int p3), .val (.int cc), .val (.ref b1), .val (.int (p1 &&& (7 : Int32))), .unset, .unset, .val (.int pi), .val (.ref b192)] []) _
        refine stp (fun _ => XS.aload X192.here hx rfl (hb hby at_284) rfl rfl) ?_
        show Go p e below T192 (mkF m 286 #[.val (.int p0), .val (.int p1), .val (.int p2), .val (.int p3), .val (.int cc), .val (.ref b1), .val (.int (p1 &&& (7 : Int32))), .unset, .unset, .val (.int pi), .val (.ref b192)] [(.ref b192)]) _
        refine stp (fun _ => XS.iconst X192.here hx rfl (hb hby at_286)) ?_
        show Go p e below T192 (mkF m 287 #[.val (.int p0), .val (.int p1), .val (.int p2), .val (.int p3), .val (.int cc), .val (.ref b1), .val (.int (p1 &&& (7 : Int32))), .unset, .unset, .val (.int pi), .val (.ref b192)] [(.int (0 : Int32)), (.ref b192)]) _
        refine stp (fun _ => XS.aload X192.here hx rfl (hb hby at_287) rfl rfl) ?_
        show Go p e below T192 (mkF m 289 #[.val (.int p0), .val (.int p1), .val (.int p2), .val (.int p3), .val (.int cc), .val (.ref b1), .val (.int (p1 &&& (7 : Int32))), .unset, .unset, .val (.int pi), .val (.ref b192)] [(.ref b1), (.int (0 : Int32)), (.ref b192)]) _
        refine stp (fun _ => XS.iload X192.here hx rfl (hb hby at_289) rfl) ?_
        show Go p e below T192 (mkF m 291 #[.val (.int p0), .val (.int p1), .val (.int p2), .val (.int p3), .val (.int cc), .val (.ref b1), .val (.int (p1 &&& (7 : Int32))), .unset, .unset, .val (.int pi), .val (.ref b192)] [(.int pi), (.ref b1), (.int (0 : Int32)), (.ref b192)]) _
        refine stp (fun _ => XS.iload X192.here hx rfl (hb hby at_291) rfl) ?_
        show Go p e below T192 (mkF m 293 #[.val (.int p0), .val (.int p1), .val (.int p2), .val (.int p3), .val (.int cc), .val (.ref b1), .val (.int (p1 &&& (7 : Int32))), .unset, .unset, .val (.int pi), .val (.ref b192)] [(.int cc), (.int pi), (.ref b1), (.int (0 : Int32)), (.ref b192)]) _
        refine stp (fun _ => XS.iconst X192.here hx rfl (hb hby at_293)) ?_
        show Go p e below T192 (mkF m 294 #[.val (.int p0), .val (.int p1), .val (.int p2), .val (.int p3), .val (.int cc), .val (.ref b1), .val (.int (p1 &&& (7 : Int32))), .unset, .unset, .val (.int pi), .val (.ref b192)] [(.int (0 : Int32)), (.int cc), (.int pi), (.ref b1), (.int (0 : Int32)), (.ref b192)]) _
        obtain ⟨_, _, ⟨T196, L196, k196, n196⟩, -, X196, ⟨Lc196, hQ196, l196, y196, z196⟩, st196⟩ := Jvm.LawKit.callS X192 hx (y := (⟨"com/example/fetch_to_rank/fetchtorank/crawl/OutcomeOfPinLaw", "ins", "([CICI)C"⟩ : MethodName)) hown (mvT hZ (hw _ (List.mem_of_getElem? (i := 2) rfl))) (mvT hZ (hw _ (List.mem_of_getElem? (i := 3) rfl))) (mvT hZ (hw _ (List.mem_of_getElem? (i := 4) rfl))) (mvT hZ (hw _ (List.mem_of_getElem? (i := 5) rfl))) (by decide) (backOf (W := 2) (rm_ins l Z a0 hw [] b1 pi cc (0 : Int32) k1 h192 n0 O192 f195 ⟨by decide, by decide⟩ hpi hcc) hZ (hw _ (List.mem_of_getElem? (i := 5) rfl)) (hw _ (List.mem_of_getElem? (i := 4) rfl)) (by decide) (by decide)) (g := (mkF m 294 #[.val (.int p0), .val (.int p1), .val (.int p2), .val (.int p3), .val (.int cc), .val (.ref b1), .val (.int (p1 &&& (7 : Int32))), .unset, .unset, .val (.int pi), .val (.ref b192)] [(.int (0 : Int32)), (.int cc), (.int pi), (.ref b1), (.int (0 : Int32)), (.ref b192)])) rfl (by rw [hml]; rfl) (argsL := [(.ref b1), (.int pi), (.int cc), (.int (0 : Int32))]) (rest := [(.int (0 : Int32)), (.ref b192)]) (lenOf pd_8 rfl) rfl (by show 2 * 0 + _ ≤ _; exact Nat.le_of_eq rfl) (hb hby at_294) (fun _ _ => ⟨rfl, e192, (by decide : 2 + 0 ≤ _), (by decide : 19 + 0 ≤ _)⟩)
        dsimp only [Pt.U, Pt.locs, Pt.cells, Pt.slots] at X196 l196 y196 z196 st196 hQ196
        subst y196 z196
        obtain ⟨rfl, N196q, e196⟩ := hQ196
        have N196 : Fr n0 L196 := by rw [l196]; exact Fr.app N26 N196q
        refine stp st196 ?_
        show Go p e below T196 (mkF m 297 #[.val (.int p0), .val (.int p1), .val (.int p2), .val (.int p3), .val (.int cc), .val (.ref b1), .val (.int (p1 &&& (7 : Int32))), .unset, .unset, .val (.int pi), .val (.ref b192)] [(.int (own_ins pi cc (0 : Int32))), (.int (0 : Int32)), (.ref b192)]) _
        obtain ⟨cl197, Ar197, q197, S197, M197, H197, G197⟩ := (id V192)
        have in197 : ¬ ((0 : Int32) < 0 ∨ cl197.slots.size ≤ ((0 : Int32)).toNatClampNeg) := inb_of S197 ⟨by decide, by decide⟩
        obtain ⟨T197, h197, X197, e197, W197, st197⟩ := stC X196 hx hZ e196 Ar197 (j := (0 : Int32)) in197 (g := (mkF m 297 #[.val (.int p0), .val (.int p1), .val (.int p2), .val (.int p3), .val (.int cc), .val (.ref b1), .val (.int (p1 &&& (7 : Int32))), .unset, .unset, .val (.int pi), .val (.ref b192)] [(.int (own_ins pi cc (0 : Int32))), (.int (0 : Int32)), (.ref b192)])) rfl rfl (hb hby at_297)
        have V197 : Arv Z h197 b192 k192 .char (10 : Int32) [(.int (own_ins pi cc (0 : Int32))), (.int (0 : Int32)), (.int (0 : Int32)), (.int (0 : Int32)), (.int (0 : Int32)), (.int (0 : Int32)), (.int (0 : Int32)), (.int (0 : Int32)), (.int (0 : Int32)), (.int (0 : Int32))] (.int (0 : Int32)) := Arv.set Ar197 q197 S197 M197 H197 G197 (ow_fits_char (char255 (own_ins_sm hcc _ _))) (ow_wr_char (char255 (own_ins_sm hcc _ _)) W197) 0 rfl (Nat.le_of_ble_eq_true rfl)
        have f198 := f194.wr W197
        have f199 := f195.other W197 ne193
        have f200 := B192.wr W197
        have hk := Nat.le_trans hk (Keep.of_wr W197).1
        have CR := CR.trans (CHr.wr W197 (Safe.exa hZ.alike B192 (by decide) (by decide)) CR.1)
        have K197 : Keep h0 h197 [] := K192.wr W197 (Or.inr sz_b192)
        have O197 := O192.wr W197 ge_b192
        have N197 := Fr.snoc X197 N196 ge_b192
        refine stp st197 ?_
        show Go p e below T197 (mkF m 298 #[.val (.int p0), .val (.int p1), .val (.int p2), .val (.int p3), .val (.int cc), .val (.ref b1), .val (.int (p1 &&& (7 : Int32))), .unset, .unset, .val (.int pi), .val (.ref b192)] []) _
        refine stp (fun _ => XS.aload X197.here hx rfl (hb hby at_298) rfl rfl) ?_
        show Go p e below T197 (mkF m 300 #[.val (.int p0), .val (.int p1), .val (.int p2), .val (.int p3), .val (.int cc), .val (.ref b1), .val (.int (p1 &&& (7 : Int32))), .unset, .unset, .val (.int pi), .val (.ref b192)] [(.ref b192)]) _
        refine stp (fun _ => XS.iconst X197.here hx rfl (hb hby at_300)) ?_
        show Go p e below T197 (mkF m 301 #[.val (.int p0), .val (.int p1), .val (.int p2), .val (.int p3), .val (.int cc), .val (.ref b1), .val (.int (p1 &&& (7 : Int32))), .unset, .unset, .val (.int pi), .val (.ref b192)] [(.int (1 : Int32)), (.ref b192)]) _
        refine stp (fun _ => XS.aload X197.here hx rfl (hb hby at_301) rfl rfl) ?_
        show Go p e below T197 (mkF m 303 #[.val (.int p0), .val (.int p1), .val (.int p2), .val (.int p3), .val (.int cc), .val (.ref b1), .val (.int (p1 &&& (7 : Int32))), .unset, .unset, .val (.int pi), .val (.ref b192)] [(.ref b1), (.int (1 : Int32)), (.ref b192)]) _
        refine stp (fun _ => XS.iload X197.here hx rfl (hb hby at_303) rfl) ?_
        show Go p e below T197 (mkF m 305 #[.val (.int p0), .val (.int p1), .val (.int p2), .val (.int p3), .val (.int cc), .val (.ref b1), .val (.int (p1 &&& (7 : Int32))), .unset, .unset, .val (.int pi), .val (.ref b192)] [(.int pi), (.ref b1), (.int (1 : Int32)), (.ref b192)]) _
        refine stp (fun _ => XS.iload X197.here hx rfl (hb hby at_305) rfl) ?_
        show Go p e below T197 (mkF m 307 #[.val (.int p0), .val (.int p1), .val (.int p2), .val (.int p3), .val (.int cc), .val (.ref b1), .val (.int (p1 &&& (7 : Int32))), .unset, .unset, .val (.int pi), .val (.ref b192)] [(.int cc), (.int pi), (.ref b1), (.int (1 : Int32)), (.ref b192)]) _
        refine stp (fun _ => XS.iconst X197.here hx rfl (hb hby at_307)) ?_
        show Go p e below T197 (mkF m 308 #[.val (.int p0), .val (.int p1), .val (.int p2), .val (.int p3), .val (.int cc), .val (.ref b1), .val (.int (p1 &&& (7 : Int32))), .unset, .unset, .val (.int pi), .val (.ref b192)] [(.int (1 : Int32)), (.int cc), (.int pi), (.ref b1), (.int (1 : Int32)), (.ref b192)]) _
        obtain ⟨_, _, ⟨T202, L202, k202, n202⟩, -, X202, ⟨Lc202, hQ202, l202, y202, z202⟩, st202⟩ := Jvm.LawKit.callS X197 hx (y := (⟨"com/example/fetch_to_rank/fetchtorank/crawl/OutcomeOfPinLaw", "ins", "([CICI)C"⟩ : MethodName)) hown (mvT hZ (hw _ (List.mem_of_getElem? (i := 2) rfl))) (mvT hZ (hw _ (List.mem_of_getElem? (i := 3) rfl))) (mvT hZ (hw _ (List.mem_of_getElem? (i := 4) rfl))) (mvT hZ (hw _ (List.mem_of_getElem? (i := 5) rfl))) (by decide) (backOf (W := 2) (rm_ins l Z a0 hw [] b1 pi cc (1 : Int32) k1 h197 n0 O197 f199 ⟨by decide, by decide⟩ hpi hcc) hZ (hw _ (List.mem_of_getElem? (i := 5) rfl)) (hw _ (List.mem_of_getElem? (i := 4) rfl)) (by decide) (by decide)) (g := (mkF m 308 #[.val (.int p0), .val (.int p1), .val (.int p2), .val (.int p3), .val (.int cc), .val (.ref b1), .val (.int (p1 &&& (7 : Int32))), .unset, .unset, .val (.int pi), .val (.ref b192)] [(.int (1 : Int32)), (.int cc), (.int pi), (.ref b1), (.int (1 : Int32)), (.ref b192)])) rfl (by rw [hml]; rfl) (argsL := [(.ref b1), (.int pi), (.int cc), (.int (1 : Int32))]) (rest := [(.int (1 : Int32)), (.ref b192)]) (lenOf pd_8 rfl) rfl (by show 2 * 0 + _ ≤ _; exact Nat.le_of_eq rfl) (hb hby at_308) (fun _ _ => ⟨rfl, e197, (by decide : 2 + 0 ≤ _), (by decide : 19 + 0 ≤ _)⟩)
        dsimp only [Pt.U, Pt.locs, Pt.cells, Pt.slots] at X202 l202 y202 z202 st202 hQ202
        subst y202 z202
        obtain ⟨rfl, N202q, e202⟩ := hQ202
        have N202 : Fr n0 L202 := by rw [l202]; exact Fr.app N197 N202q
        refine stp st202 ?_
        show Go p e below T202 (mkF m 311 #[.val (.int p0), .val (.int p1), .val (.int p2), .val (.int p3), .val (.int cc), .val (.ref b1), .val (.int (p1 &&& (7 : Int32))), .unset, .unset, .val (.int pi), .val (.ref b192)] [(.int (own_ins pi cc (1 : Int32))), (.int (1 : Int32)), (.ref b192)]) _
        obtain ⟨cl203, Ar203, q203, S203, M203, H203, G203⟩ := (id V197)
        have in203 : ¬ ((1 : Int32) < 0 ∨ cl203.slots.size ≤ ((1 : Int32)).toNatClampNeg) := inb_of S203 ⟨by decide, by decide⟩
        obtain ⟨T203, h203, X203, e203, W203, st203⟩ := stC X202 hx hZ e202 Ar203 (j := (1 : Int32)) in203 (g := (mkF m 311 #[.val (.int p0), .val (.int p1), .val (.int p2), .val (.int p3), .val (.int cc), .val (.ref b1), .val (.int (p1 &&& (7 : Int32))), .unset, .unset, .val (.int pi), .val (.ref b192)] [(.int (own_ins pi cc (1 : Int32))), (.int (1 : Int32)), (.ref b192)])) rfl rfl (hb hby at_311)
        have V203 : Arv Z h203 b192 k192 .char (10 : Int32) [(.int (own_ins pi cc (0 : Int32))), (.int (own_ins pi cc (1 : Int32))), (.int (0 : Int32)), (.int (0 : Int32)), (.int (0 : Int32)), (.int (0 : Int32)), (.int (0 : Int32)), (.int (0 : Int32)), (.int (0 : Int32)), (.int (0 : Int32))] (.int (0 : Int32)) := Arv.set Ar203 q203 S203 M203 H203 G203 (ow_fits_char (char255 (own_ins_sm hcc _ _))) (ow_wr_char (char255 (own_ins_sm hcc _ _)) W203) 1 rfl (Nat.le_of_ble_eq_true rfl)
        have f204 := f198.wr W203
        have f205 := f199.other W203 ne193
        have f206 := f200.wr W203
        have hk := Nat.le_trans hk (Keep.of_wr W203).1
        have CR := CR.trans (CHr.wr W203 (Safe.exa hZ.alike f200 (by decide) (by decide)) CR.1)
        have K203 : Keep h0 h203 [] := K197.wr W203 (Or.inr sz_b192)
        have O203 := O197.wr W203 ge_b192
        have N203 := Fr.snoc X203 N202 ge_b192
        refine stp st203 ?_
        show Go p e below T203 (mkF m 312 #[.val (.int p0), .val (.int p1), .val (.int p2), .val (.int p3), .val (.int cc), .val (.ref b1), .val (.int (p1 &&& (7 : Int32))), .unset, .unset, .val (.int pi), .val (.ref b192)] []) _
        refine stp (fun _ => XS.aload X203.here hx rfl (hb hby at_312) rfl rfl) ?_
        show Go p e below T203 (mkF m 314 #[.val (.int p0), .val (.int p1), .val (.int p2), .val (.int p3), .val (.int cc), .val (.ref b1), .val (.int (p1 &&& (7 : Int32))), .unset, .unset, .val (.int pi), .val (.ref b192)] [(.ref b192)]) _
        refine stp (fun _ => XS.iconst X203.here hx rfl (hb hby at_314)) ?_
        show Go p e below T203 (mkF m 315 #[.val (.int p0), .val (.int p1), .val (.int p2), .val (.int p3), .val (.int cc), .val (.ref b1), .val (.int (p1 &&& (7 : Int32))), .unset, .unset, .val (.int pi), .val (.ref b192)] [(.int (2 : Int32)), (.ref b192)]) _
        refine stp (fun _ => XS.aload X203.here hx rfl (hb hby at_315) rfl rfl) ?_
        show Go p e below T203 (mkF m 317 #[.val (.int p0), .val (.int p1), .val (.int p2), .val (.int p3), .val (.int cc), .val (.ref b1), .val (.int (p1 &&& (7 : Int32))), .unset, .unset, .val (.int pi), .val (.ref b192)] [(.ref b1), (.int (2 : Int32)), (.ref b192)]) _
        refine stp (fun _ => XS.iload X203.here hx rfl (hb hby at_317) rfl) ?_
        show Go p e below T203 (mkF m 319 #[.val (.int p0), .val (.int p1), .val (.int p2), .val (.int p3), .val (.int cc), .val (.ref b1), .val (.int (p1 &&& (7 : Int32))), .unset, .unset, .val (.int pi), .val (.ref b192)] [(.int pi), (.ref b1), (.int (2 : Int32)), (.ref b192)]) _
        refine stp (fun _ => XS.iload X203.here hx rfl (hb hby at_319) rfl) ?_
        show Go p e below T203 (mkF m 321 #[.val (.int p0), .val (.int p1), .val (.int p2), .val (.int p3), .val (.int cc), .val (.ref b1), .val (.int (p1 &&& (7 : Int32))), .unset, .unset, .val (.int pi), .val (.ref b192)] [(.int cc), (.int pi), (.ref b1), (.int (2 : Int32)), (.ref b192)]) _
        refine stp (fun _ => XS.iconst X203.here hx rfl (hb hby at_321)) ?_
        show Go p e below T203 (mkF m 322 #[.val (.int p0), .val (.int p1), .val (.int p2), .val (.int p3), .val (.int cc), .val (.ref b1), .val (.int (p1 &&& (7 : Int32))), .unset, .unset, .val (.int pi), .val (.ref b192)] [(.int (2 : Int32)), (.int cc), (.int pi), (.ref b1), (.int (2 : Int32)), (.ref b192)]) _
        obtain ⟨_, _, ⟨T208, L208, k208, n208⟩, -, X208, ⟨Lc208, hQ208, l208, y208, z208⟩, st208⟩ := Jvm.LawKit.callS X203 hx (y := (⟨"com/example/fetch_to_rank/fetchtorank/crawl/OutcomeOfPinLaw", "ins", "([CICI)C"⟩ : MethodName)) hown (mvT hZ (hw _ (List.mem_of_getElem? (i := 2) rfl))) (mvT hZ (hw _ (List.mem_of_getElem? (i := 3) rfl))) (mvT hZ (hw _ (List.mem_of_getElem? (i := 4) rfl))) (mvT hZ (hw _ (List.mem_of_getElem? (i := 5) rfl))) (by decide) (backOf (W := 2) (rm_ins l Z a0 hw [] b1 pi cc (2 : Int32) k1 h203 n0 O203 f205 ⟨by decide, by decide⟩ hpi hcc) hZ (hw _ (List.mem_of_getElem? (i := 5) rfl)) (hw _ (List.mem_of_getElem? (i := 4) rfl)) (by decide) (by decide)) (g := (mkF m 322 #[.val (.int p0), .val (.int p1), .val (.int p2), .val (.int p3), .val (.int cc), .val (.ref b1), .val (.int (p1 &&& (7 : Int32))), .unset, .unset, .val (.int pi), .val (.ref b192)] [(.int (2 : Int32)), (.int cc), (.int pi), (.ref b1), (.int (2 : Int32)), (.ref b192)])) rfl (by rw [hml]; rfl) (argsL := [(.ref b1), (.int pi), (.int cc), (.int (2 : Int32))]) (rest := [(.int (2 : Int32)), (.ref b192)]) (lenOf pd_8 rfl) rfl (by show 2 * 0 + _ ≤ _; exact Nat.le_of_eq rfl) (hb hby at_322) (fun _ _ => ⟨rfl, e203, (by decide : 2 + 0 ≤ _), (by decide : 19 + 0 ≤ _)⟩)
        dsimp only [Pt.U, Pt.locs, Pt.cells, Pt.slots] at X208 l208 y208 z208 st208 hQ208
        subst y208 z208
        obtain ⟨rfl, N208q, e208⟩ := hQ208
        have N208 : Fr n0 L208 := by rw [l208]; exact Fr.app N203 N208q
        refine stp st208 ?_
        show Go p e below T208 (mkF m 325 #[.val (.int p0), .val (.int p1), .val (.int p2), .val (.int p3), .val (.int cc), .val (.ref b1), .val (.int (p1 &&& (7 : Int32))), .unset, .unset, .val (.int pi), .val (.ref b192)] [(.int (own_ins pi cc (2 : Int32))), (.int (2 : Int32)), (.ref b192)]) _
        obtain ⟨cl209, Ar209, q209, S209, M209, H209, G209⟩ := (id V203)
        have in209 : ¬ ((2 : Int32) < 0 ∨ cl209.slots.size ≤ ((2 : Int32)).toNatClampNeg) := inb_of S209 ⟨by decide, by decide⟩
        obtain ⟨T209, h209, X209, e209, W209, st209⟩ := stC X208 hx hZ e208 Ar209 (j := (2 : Int32)) in209 (g := (mkF m 325 #[.val (.int p0), .val (.int p1), .val (.int p2), .val (.int p3), .val (.int cc), .val (.ref b1), .val (.int (p1 &&& (7 : Int32))), .unset, .unset, .val (.int pi), .val (.ref b192)] [(.int (own_ins pi cc (2 : Int32))), (.int (2 : Int32)), (.ref b192)])) rfl rfl (hb hby at_325)
        have V209 : Arv Z h209 b192 k192 .char (10 : Int32) [(.int (own_ins pi cc (0 : Int32))), (.int (own_ins pi cc (1 : Int32))), (.int (own_ins pi cc (2 : Int32))), (.int (0 : Int32)), (.int (0 : Int32)), (.int (0 : Int32)), (.int (0 : Int32)), (.int (0 : Int32)), (.int (0 : Int32)), (.int (0 : Int32))] (.int (0 : Int32)) := Arv.set Ar209 q209 S209 M209 H209 G209 (ow_fits_char (char255 (own_ins_sm hcc _ _))) (ow_wr_char (char255 (own_ins_sm hcc _ _)) W209) 2 rfl (Nat.le_of_ble_eq_true rfl)
        have f210 := f204.wr W209
        have f211 := f205.other W209 ne193
        have f212 := f206.wr W209
        have hk := Nat.le_trans hk (Keep.of_wr W209).1
        have CR := CR.trans (CHr.wr W209 (Safe.exa hZ.alike f206 (by decide) (by decide)) CR.1)
        have K209 : Keep h0 h209 [] := K203.wr W209 (Or.inr sz_b192)
        have O209 := O203.wr W209 ge_b192
        have N209 := Fr.snoc X209 N208 ge_b192
        refine stp st209 ?_
        show Go p e below T209 (mkF m 326 #[.val (.int p0), .val (.int p1), .val (.int p2), .val (.int p3), .val (.int cc), .val (.ref b1), .val (.int (p1 &&& (7 : Int32))), .unset, .unset, .val (.int pi), .val (.ref b192)] []) _
        refine stp (fun _ => XS.aload X209.here hx rfl (hb hby at_326) rfl rfl) ?_
        show Go p e below T209 (mkF m 328 #[.val (.int p0), .val (.int p1), .val (.int p2), .val (.int p3), .val (.int cc), .val (.ref b1), .val (.int (p1 &&& (7 : Int32))), .unset, .unset, .val (.int pi), .val (.ref b192)] [(.ref b192)]) _
        refine stp (fun _ => XS.iconst X209.here hx rfl (hb hby at_328)) ?_
        show Go p e below T209 (mkF m 329 #[.val (.int p0), .val (.int p1), .val (.int p2), .val (.int p3), .val (.int cc), .val (.ref b1), .val (.int (p1 &&& (7 : Int32))), .unset, .unset, .val (.int pi), .val (.ref b192)] [(.int (3 : Int32)), (.ref b192)]) _
        refine stp (fun _ => XS.aload X209.here hx rfl (hb hby at_329) rfl rfl) ?_
        show Go p e below T209 (mkF m 331 #[.val (.int p0), .val (.int p1), .val (.int p2), .val (.int p3), .val (.int cc), .val (.ref b1), .val (.int (p1 &&& (7 : Int32))), .unset, .unset, .val (.int pi), .val (.ref b192)] [(.ref b1), (.int (3 : Int32)), (.ref b192)]) _
        refine stp (fun _ => XS.iload X209.here hx rfl (hb hby at_331) rfl) ?_
        show Go p e below T209 (mkF m 333 #[.val (.int p0), .val (.int p1), .val (.int p2), .val (.int p3), .val (.int cc), .val (.ref b1), .val (.int (p1 &&& (7 : Int32))), .unset, .unset, .val (.int pi), .val (.ref b192)] [(.int pi), (.ref b1), (.int (3 : Int32)), (.ref b192)]) _
        refine stp (fun _ => XS.iload X209.here hx rfl (hb hby at_333) rfl) ?_
        show Go p e below T209 (mkF m 335 #[.val (.int p0), .val (.int p1), .val (.int p2), .val (.int p3), .val (.int cc), .val (.ref b1), .val (.int (p1 &&& (7 : Int32))), .unset, .unset, .val (.int pi), .val (.ref b192)] [(.int cc), (.int pi), (.ref b1), (.int (3 : Int32)), (.ref b192)]) _
        refine stp (fun _ => XS.iconst X209.here hx rfl (hb hby at_335)) ?_
        show Go p e below T209 (mkF m 336 #[.val (.int p0), .val (.int p1), .val (.int p2), .val (.int p3), .val (.int cc), .val (.ref b1), .val (.int (p1 &&& (7 : Int32))), .unset, .unset, .val (.int pi), .val (.ref b192)] [(.int (3 : Int32)), (.int cc), (.int pi), (.ref b1), (.int (3 : Int32)), (.ref b192)]) _
        obtain ⟨_, _, ⟨T214, L214, k214, n214⟩, -, X214, ⟨Lc214, hQ214, l214, y214, z214⟩, st214⟩ := Jvm.LawKit.callS X209 hx (y := (⟨"com/example/fetch_to_rank/fetchtorank/crawl/OutcomeOfPinLaw", "ins", "([CICI)C"⟩ : MethodName)) hown (mvT hZ (hw _ (List.mem_of_getElem? (i := 2) rfl))) (mvT hZ (hw _ (List.mem_of_getElem? (i := 3) rfl))) (mvT hZ (hw _ (List.mem_of_getElem? (i := 4) rfl))) (mvT hZ (hw _ (List.mem_of_getElem? (i := 5) rfl))) (by decide) (backOf (W := 2) (rm_ins l Z a0 hw [] b1 pi cc (3 : Int32) k1 h209 n0 O209 f211 ⟨by decide, by decide⟩ hpi hcc) hZ (hw _ (List.mem_of_getElem? (i := 5) rfl)) (hw _ (List.mem_of_getElem? (i := 4) rfl)) (by decide) (by decide)) (g := (mkF m 336 #[.val (.int p0), .val (.int p1), .val (.int p2), .val (.int p3), .val (.int cc), .val (.ref b1), .val (.int (p1 &&& (7 : Int32))), .unset, .unset, .val (.int pi), .val (.ref b192)] [(.int (3 : Int32)), (.int cc), (.int pi), (.ref b1), (.int (3 : Int32)), (.ref b192)])) rfl (by rw [hml]; rfl) (argsL := [(.ref b1), (.int pi), (.int cc), (.int (3 : Int32))]) (rest := [(.int (3 : Int32)), (.ref b192)]) (lenOf pd_8 rfl) rfl (by show 2 * 0 + _ ≤ _; exact Nat.le_of_eq rfl) (hb hby at_336) (fun _ _ => ⟨rfl, e209, (by decide : 2 + 0 ≤ _), (by decide : 19 + 0 ≤ _)⟩)
        dsimp only [Pt.U, Pt.locs, Pt.cells, Pt.slots] at X214 l214 y214 z214 st214 hQ214
        subst y214 z214
        obtain ⟨rfl, N214q, e214⟩ := hQ214
        have N214 : Fr n0 L214 := by rw [l214]; exact Fr.app N209 N214q
        refine stp st214 ?_
        show Go p e below T214 (mkF m 339 #[.val (.int p0), .val (.int p1), .val (.int p2), .val (.int p3), .val (.int cc), .val (.ref b1), .val (.int (p1 &&& (7 : Int32))), .unset, .unset, .val (.int pi), .val (.ref b192)] [(.int (own_ins pi cc (3 : Int32))), (.int (3 : Int32)), (.ref b192)]) _
        obtain ⟨cl215, Ar215, q215, S215, M215, H215, G215⟩ := (id V209)
        have in215 : ¬ ((3 : Int32) < 0 ∨ cl215.slots.size ≤ ((3 : Int32)).toNatClampNeg) := inb_of S215 ⟨by decide, by decide⟩
        obtain ⟨T215, h215, X215, e215, W215, st215⟩ := stC X214 hx hZ e214 Ar215 (j := (3 : Int32)) in215 (g := (mkF m 339 #[.val (.int p0), .val (.int p1), .val (.int p2), .val (.int p3), .val (.int cc), .val (.ref b1), .val (.int (p1 &&& (7 : Int32))), .unset, .unset, .val (.int pi), .val (.ref b192)] [(.int (own_ins pi cc (3 : Int32))), (.int (3 : Int32)), (.ref b192)])) rfl rfl (hb hby at_339)
        have V215 : Arv Z h215 b192 k192 .char (10 : Int32) [(.int (own_ins pi cc (0 : Int32))), (.int (own_ins pi cc (1 : Int32))), (.int (own_ins pi cc (2 : Int32))), (.int (own_ins pi cc (3 : Int32))), (.int (0 : Int32)), (.int (0 : Int32)), (.int (0 : Int32)), (.int (0 : Int32)), (.int (0 : Int32)), (.int (0 : Int32))] (.int (0 : Int32)) := Arv.set Ar215 q215 S215 M215 H215 G215 (ow_fits_char (char255 (own_ins_sm hcc _ _))) (ow_wr_char (char255 (own_ins_sm hcc _ _)) W215) 3 rfl (Nat.le_of_ble_eq_true rfl)
        have f216 := f210.wr W215
        have f217 := f211.other W215 ne193
        have f218 := f212.wr W215
        have hk := Nat.le_trans hk (Keep.of_wr W215).1
        have CR := CR.trans (CHr.wr W215 (Safe.exa hZ.alike f212 (by decide) (by decide)) CR.1)
        have K215 : Keep h0 h215 [] := K209.wr W215 (Or.inr sz_b192)
        have O215 := O209.wr W215 ge_b192
        have N215 := Fr.snoc X215 N214 ge_b192
        refine stp st215 ?_
        show Go p e below T215 (mkF m 340 #[.val (.int p0), .val (.int p1), .val (.int p2), .val (.int p3), .val (.int cc), .val (.ref b1), .val (.int (p1 &&& (7 : Int32))), .unset, .unset, .val (.int pi), .val (.ref b192)] []) _
        refine stp (fun _ => XS.aload X215.here hx rfl (hb hby at_340) rfl rfl) ?_
        show Go p e below T215 (mkF m 342 #[.val (.int p0), .val (.int p1), .val (.int p2), .val (.int p3), .val (.int cc), .val (.ref b1), .val (.int (p1 &&& (7 : Int32))), .unset, .unset, .val (.int pi), .val (.ref b192)] [(.ref b192)]) _
        refine stp (fun _ => XS.iconst X215.here hx rfl (hb hby at_342)) ?_
        show Go p e below T215 (mkF m 343 #[.val (.int p0), .val (.int p1), .val (.int p2), .val (.int p3), .val (.int cc), .val (.ref b1), .val (.int (p1 &&& (7 : Int32))), .unset, .unset, .val (.int pi), .val (.ref b192)] [(.int (4 : Int32)), (.ref b192)]) _
        refine stp (fun _ => XS.aload X215.here hx rfl (hb hby at_343) rfl rfl) ?_
        show Go p e below T215 (mkF m 345 #[.val (.int p0), .val (.int p1), .val (.int p2), .val (.int p3), .val (.int cc), .val (.ref b1), .val (.int (p1 &&& (7 : Int32))), .unset, .unset, .val (.int pi), .val (.ref b192)] [(.ref b1), (.int (4 : Int32)), (.ref b192)]) _
        refine stp (fun _ => XS.iload X215.here hx rfl (hb hby at_345) rfl) ?_
        show Go p e below T215 (mkF m 347 #[.val (.int p0), .val (.int p1), .val (.int p2), .val (.int p3), .val (.int cc), .val (.ref b1), .val (.int (p1 &&& (7 : Int32))), .unset, .unset, .val (.int pi), .val (.ref b192)] [(.int pi), (.ref b1), (.int (4 : Int32)), (.ref b192)]) _
        refine stp (fun _ => XS.iload X215.here hx rfl (hb hby at_347) rfl) ?_
        show Go p e below T215 (mkF m 349 #[.val (.int p0), .val (.int p1), .val (.int p2), .val (.int p3), .val (.int cc), .val (.ref b1), .val (.int (p1 &&& (7 : Int32))), .unset, .unset, .val (.int pi), .val (.ref b192)] [(.int cc), (.int pi), (.ref b1), (.int (4 : Int32)), (.ref b192)]) _
        refine stp (fun _ => XS.iconst X215.here hx rfl (hb hby at_349)) ?_
        show Go p e below T215 (mkF m 350 #[.val (.int p0), .val (.int p1), .val (.int p2), .val (.int p3), .val (.int cc), .val (.ref b1), .val (.int (p1 &&& (7 : Int32))), .unset, .unset, .val (.int pi), .val (.ref b192)] [(.int (4 : Int32)), (.int cc), (.int pi), (.ref b1), (.int (4 : Int32)), (.ref b192)]) _
        obtain ⟨_, _, ⟨T220, L220, k220, n220⟩, -, X220, ⟨Lc220, hQ220, l220, y220, z220⟩, st220⟩ := Jvm.LawKit.callS X215 hx (y := (⟨"com/example/fetch_to_rank/fetchtorank/crawl/OutcomeOfPinLaw", "ins", "([CICI)C"⟩ : MethodName)) hown (mvT hZ (hw _ (List.mem_of_getElem? (i := 2) rfl))) (mvT hZ (hw _ (List.mem_of_getElem? (i := 3) rfl))) (mvT hZ (hw _ (List.mem_of_getElem? (i := 4) rfl))) (mvT hZ (hw _ (List.mem_of_getElem? (i := 5) rfl))) (by decide) (backOf (W := 2) (rm_ins l Z a0 hw [] b1 pi cc (4 : Int32) k1 h215 n0 O215 f217 ⟨by decide, by decide⟩ hpi hcc) hZ (hw _ (List.mem_of_getElem? (i := 5) rfl)) (hw _ (List.mem_of_getElem? (i := 4) rfl)) (by decide) (by decide)) (g := (mkF m 350 #[.val (.int p0), .val (.int p1), .val (.int p2), .val (.int p3), .val (.int cc), .val (.ref b1), .val (.int (p1 &&& (7 : Int32))), .unset, .unset, .val (.int pi), .val (.ref b192)] [(.int (4 : Int32)), (.int cc), (.int pi), (.ref b1), (.int (4 : Int32)), (.ref b192)])) rfl (by rw [hml]; rfl) (argsL := [(.ref b1), (.int pi), (.int cc), (.int (4 : Int32))]) (rest := [(.int (4 : Int32)), (.ref b192)]) (lenOf pd_8 rfl) rfl (by show 2 * 0 + _ ≤ _; exact Nat.le_of_eq rfl) (hb hby at_350) (fun _ _ => ⟨rfl, e215, (by decide : 2 + 0 ≤ _), (by decide : 19 + 0 ≤ _)⟩)
        dsimp only [Pt.U, Pt.locs, Pt.cells, Pt.slots] at X220 l220 y220 z220 st220 hQ220
        subst y220 z220
        obtain ⟨rfl, N220q, e220⟩ := hQ220
        have N220 : Fr n0 L220 := by rw [l220]; exact Fr.app N215 N220q
        refine stp st220 ?_
        show Go p e below T220 (mkF m 353 #[.val (.int p0), .val (.int p1), .val (.int p2), .val (.int p3), .val (.int cc), .val (.ref b1), .val (.int (p1 &&& (7 : Int32))), .unset, .unset, .val (.int pi), .val (.ref b192)] [(.int (own_ins pi cc (4 : Int32))), (.int (4 : Int32)), (.ref b192)]) _
        obtain ⟨cl221, Ar221, q221, S221, M221, H221, G221⟩ := (id V215)
        have in221 : ¬ ((4 : Int32) < 0 ∨ cl221.slots.size ≤ ((4 : Int32)).toNatClampNeg) := inb_of S221 ⟨by decide, by decide⟩
        obtain ⟨T221, h221, X221, e221, W221, st221⟩ := stC X220 hx hZ e220 Ar221 (j := (4 : Int32)) in221 (g := (mkF m 353 #[.val (.int p0), .val (.int p1), .val (.int p2), .val (.int p3), .val (.int cc), .val (.ref b1), .val (.int (p1 &&& (7 : Int32))), .unset, .unset, .val (.int pi), .val (.ref b192)] [(.int (own_ins pi cc (4 : Int32))), (.int (4 : Int32)), (.ref b192)])) rfl rfl (hb hby at_353)
        have V221 : Arv Z h221 b192 k192 .char (10 : Int32) [(.int (own_ins pi cc (0 : Int32))), (.int (own_ins pi cc (1 : Int32))), (.int (own_ins pi cc (2 : Int32))), (.int (own_ins pi cc (3 : Int32))), (.int (own_ins pi cc (4 : Int32))), (.int (0 : Int32)), (.int (0 : Int32)), (.int (0 : Int32)), (.int (0 : Int32)), (.int (0 : Int32))] (.int (0 : Int32)) := Arv.set Ar221 q221 S221 M221 H221 G221 (ow_fits_char (char255 (own_ins_sm hcc _ _))) (ow_wr_char (char255 (own_ins_sm hcc _ _)) W221) 4 rfl (Nat.le_of_ble_eq_true rfl)
        have f222 := f216.wr W221
        have f223 := f217.other W221 ne193
        have f224 := f218.wr W221
        have hk := Nat.le_trans hk (Keep.of_wr W221).1
        have CR := CR.trans (CHr.wr W221 (Safe.exa hZ.alike f218 (by decide) (by decide)) CR.1)
        have K221 : Keep h0 h221 [] := K215.wr W221 (Or.inr sz_b192)
        have O221 := O215.wr W221 ge_b192
        have N221 := Fr.snoc X221 N220 ge_b192
        refine stp st221 ?_
        show Go p e below T221 (mkF m 354 #[.val (.int p0), .val (.int p1), .val (.int p2), .val (.int p3), .val (.int cc), .val (.ref b1), .val (.int (p1 &&& (7 : Int32))), .unset, .unset, .val (.int pi), .val (.ref b192)] []) _
        refine stp (fun _ => XS.aload X221.here hx rfl (hb hby at_354) rfl rfl) ?_
        show Go p e below T221 (mkF m 356 #[.val (.int p0), .val (.int p1), .val (.int p2), .val (.int p3), .val (.int cc), .val (.ref b1), .val (.int (p1 &&& (7 : Int32))), .unset, .unset, .val (.int pi), .val (.ref b192)] [(.ref b192)]) _
        refine stp (fun _ => XS.iconst X221.here hx rfl (hb hby at_356)) ?_
        show Go p e below T221 (mkF m 357 #[.val (.int p0), .val (.int p1), .val (.int p2), .val (.int p3), .val (.int cc), .val (.ref b1), .val (.int (p1 &&& (7 : Int32))), .unset, .unset, .val (.int pi), .val (.ref b192)] [(.int (5 : Int32)), (.ref b192)]) _
        refine stp (fun _ => XS.aload X221.here hx rfl (hb hby at_357) rfl rfl) ?_
        show Go p e below T221 (mkF m 359 #[.val (.int p0), .val (.int p1), .val (.int p2), .val (.int p3), .val (.int cc), .val (.ref b1), .val (.int (p1 &&& (7 : Int32))), .unset, .unset, .val (.int pi), .val (.ref b192)] [(.ref b1), (.int (5 : Int32)), (.ref b192)]) _
        refine stp (fun _ => XS.iload X221.here hx rfl (hb hby at_359) rfl) ?_
        show Go p e below T221 (mkF m 361 #[.val (.int p0), .val (.int p1), .val (.int p2), .val (.int p3), .val (.int cc), .val (.ref b1), .val (.int (p1 &&& (7 : Int32))), .unset, .unset, .val (.int pi), .val (.ref b192)] [(.int pi), (.ref b1), (.int (5 : Int32)), (.ref b192)]) _
        refine stp (fun _ => XS.iload X221.here hx rfl (hb hby at_361) rfl) ?_
        show Go p e below T221 (mkF m 363 #[.val (.int p0), .val (.int p1), .val (.int p2), .val (.int p3), .val (.int cc), .val (.ref b1), .val (.int (p1 &&& (7 : Int32))), .unset, .unset, .val (.int pi), .val (.ref b192)] [(.int cc), (.int pi), (.ref b1), (.int (5 : Int32)), (.ref b192)]) _
        refine stp (fun _ => XS.iconst X221.here hx rfl (hb hby at_363)) ?_
        show Go p e below T221 (mkF m 364 #[.val (.int p0), .val (.int p1), .val (.int p2), .val (.int p3), .val (.int cc), .val (.ref b1), .val (.int (p1 &&& (7 : Int32))), .unset, .unset, .val (.int pi), .val (.ref b192)] [(.int (5 : Int32)), (.int cc), (.int pi), (.ref b1), (.int (5 : Int32)), (.ref b192)]) _
        obtain ⟨_, _, ⟨T226, L226, k226, n226⟩, -, X226, ⟨Lc226, hQ226, l226, y226, z226⟩, st226⟩ := Jvm.LawKit.callS X221 hx (y := (⟨"com/example/fetch_to_rank/fetchtorank/crawl/OutcomeOfPinLaw", "ins", "([CICI)C"⟩ : MethodName)) hown (mvT hZ (hw _ (List.mem_of_getElem? (i := 2) rfl))) (mvT hZ (hw _ (List.mem_of_getElem? (i := 3) rfl))) (mvT hZ (hw _ (List.mem_of_getElem? (i := 4) rfl))) (mvT hZ (hw _ (List.mem_of_getElem? (i := 5) rfl))) (by decide) (backOf (W := 2) (rm_ins l Z a0 hw [] b1 pi cc (5 : Int32) k1 h221 n0 O221 f223 ⟨by decide, by decide⟩ hpi hcc) hZ (hw _ (List.mem_of_getElem? (i := 5) rfl)) (hw _ (List.mem_of_getElem? (i := 4) rfl)) (by decide) (by decide)) (g := (mkF m 364 #[.val (.int p0), .val (.int p1), .val (.int p2), .val (.int p3), .val (.int cc), .val (.ref b1), .val (.int (p1 &&& (7 : Int32))), .unset, .unset, .val (.int pi), .val (.ref b192)] [(.int (5 : Int32)), (.int cc), (.int pi), (.ref b1), (.int (5 : Int32)), (.ref b192)])) rfl (by rw [hml]; rfl) (argsL := [(.ref b1), (.int pi), (.int cc), (.int (5 : Int32))]) (rest := [(.int (5 : Int32)), (.ref b192)]) (lenOf pd_8 rfl) rfl (by show 2 * 0 + _ ≤ _; exact Nat.le_of_eq rfl) (hb hby at_364) (fun _ _ => ⟨rfl, e221, (by decide : 2 + 0 ≤ _), (by decide : 19 + 0 ≤ _)⟩)
        dsimp only [Pt.U, Pt.locs, Pt.cells, Pt.slots] at X226 l226 y226 z226 st226 hQ226
        subst y226 z226
        obtain ⟨rfl, N226q, e226⟩ := hQ226
        have N226 : Fr n0 L226 := by rw [l226]; exact Fr.app N221 N226q
        refine stp st226 ?_
        show Go p e below T226 (mkF m 367 #[.val (.int p0), .val (.int p1), .val (.int p2), .val (.int p3), .val (.int cc), .val (.ref b1), .val (.int (p1 &&& (7 : Int32))), .unset, .unset, .val (.int pi), .val (.ref b192)] [(.int (own_ins pi cc (5 : Int32))), (.int (5 : Int32)), (.ref b192)]) _
        obtain ⟨cl227, Ar227, q227, S227, M227, H227, G227⟩ := (id V221)
        have in227 : ¬ ((5 : Int32) < 0 ∨ cl227.slots.size ≤ ((5 : Int32)).toNatClampNeg) := inb_of S227 ⟨by decide, by decide⟩
        obtain ⟨T227, h227, X227, e227, W227, st227⟩ := stC X226 hx hZ e226 Ar227 (j := (5 : Int32)) in227 (g := (mkF m 367 #[.val (.int p0), .val (.int p1), .val (.int p2), .val (.int p3), .val (.int cc), .val (.ref b1), .val (.int (p1 &&& (7 : Int32))), .unset, .unset, .val (.int pi), .val (.ref b192)] [(.int (own_ins pi cc (5 : Int32))), (.int (5 : Int32)), (.ref b192)])) rfl rfl (hb hby at_367)
        have V227 : Arv Z h227 b192 k192 .char (10 : Int32) [(.int (own_ins pi cc (0 : Int32))), (.int (own_ins pi cc (1 : Int32))), (.int (own_ins pi cc (2 : Int32))), (.int (own_ins pi cc (3 : Int32))), (.int (own_ins pi cc (4 : Int32))), (.int (own_ins pi cc (5 : Int32))), (.int (0 : Int32)), (.int (0 : Int32)), (.int (0 : Int32)), (.int (0 : Int32))] (.int (0 : Int32)) := Arv.set Ar227 q227 S227 M227 H227 G227 (ow_fits_char (char255 (own_ins_sm hcc _ _))) (ow_wr_char (char255 (own_ins_sm hcc _ _)) W227) 5 rfl (Nat.le_of_ble_eq_true rfl)
        have f228 := f222.wr W227
        have f229 := f223.other W227 ne193
        have f230 := f224.wr W227
        have hk := Nat.le_trans hk (Keep.of_wr W227).1
        have CR := CR.trans (CHr.wr W227 (Safe.exa hZ.alike f224 (by decide) (by decide)) CR.1)
        have K227 : Keep h0 h227 [] := K221.wr W227 (Or.inr sz_b192)
        have O227 := O221.wr W227 ge_b192
        have N227 := Fr.snoc X227 N226 ge_b192
        refine stp st227 ?_
        show Go p e below T227 (mkF m 368 #[.val (.int p0), .val (.int p1), .val (.int p2), .val (.int p3), .val (.int cc), .val (.ref b1), .val (.int (p1 &&& (7 : Int32))), .unset, .unset, .val (.int pi), .val (.ref b192)] []) _
        refine stp (fun _ => XS.aload X227.here hx rfl (hb hby at_368) rfl rfl) ?_
        show Go p e below T227 (mkF m 370 #[.val (.int p0), .val (.int p1), .val (.int p2), .val (.int p3), .val (.int cc), .val (.ref b1), .val (.int (p1 &&& (7 : Int32))), .unset, .unset, .val (.int pi), .val (.ref b192)] [(.ref b192)]) _
        refine stp (fun _ => XS.bipush X227.here hx rfl (hb hby at_370)) ?_
        show Go p e below T227 (mkF m 372 #[.val (.int p0), .val (.int p1), .val (.int p2), .val (.int p3), .val (.int cc), .val (.ref b1), .val (.int (p1 &&& (7 : Int32))), .unset, .unset, .val (.int pi), .val (.ref b192)] [(.int (6 : Int32)), (.ref b192)]) _
        refine stp (fun _ => XS.aload X227.here hx rfl (hb hby at_372) rfl rfl) ?_
        show Go p e below T227 (mkF m 374 #[.val (.int p0), .val (.int p1), .val (.int p2), .val (.int p3), .val (.int cc), .val (.ref b1), .val (.int (p1 &&& (7 : Int32))), .unset, .unset, .val (.int pi), .val (.ref b192)] [(.ref b1), (.int (6 : Int32)), (.ref b192)]) _
        refine stp (fun _ => XS.iload X227.here hx rfl (hb hby at_374) rfl) ?_
        show Go p e below T227 (mkF m 376 #[.val (.int p0), .val (.int p1), .val (.int p2), .val (.int p3), .val (.int cc), .val (.ref b1), .val (.int (p1 &&& (7 : Int32))), .unset, .unset, .val (.int pi), .val (.ref b192)] [(.int pi), (.ref b1), (.int (6 : Int32)), (.ref b192)]) _
        refine stp (fun _ => XS.iload X227.here hx rfl (hb hby at_376) rfl) ?_
        show Go p e below T227 (mkF m 378 #[.val (.int p0), .val (.int p1), .val (.int p2), .val (.int p3), .val (.int cc), .val (.ref b1), .val (.int (p1 &&& (7 : Int32))), .unset, .unset, .val (.int pi), .val (.ref b192)] [(.int cc), (.int pi), (.ref b1), (.int (6 : Int32)), (.ref b192)]) _
        refine stp (fun _ => XS.bipush X227.here hx rfl (hb hby at_378)) ?_
        show Go p e below T227 (mkF m 380 #[.val (.int p0), .val (.int p1), .val (.int p2), .val (.int p3), .val (.int cc), .val (.ref b1), .val (.int (p1 &&& (7 : Int32))), .unset, .unset, .val (.int pi), .val (.ref b192)] [(.int (6 : Int32)), (.int cc), (.int pi), (.ref b1), (.int (6 : Int32)), (.ref b192)]) _
        obtain ⟨_, _, ⟨T232, L232, k232, n232⟩, -, X232, ⟨Lc232, hQ232, l232, y232, z232⟩, st232⟩ := Jvm.LawKit.callS X227 hx (y := (⟨"com/example/fetch_to_rank/fetchtorank/crawl/OutcomeOfPinLaw", "ins", "([CICI)C"⟩ : MethodName)) hown (mvT hZ (hw _ (List.mem_of_getElem? (i := 2) rfl))) (mvT hZ (hw _ (List.mem_of_getElem? (i := 3) rfl))) (mvT hZ (hw _ (List.mem_of_getElem? (i := 4) rfl))) (mvT hZ (hw _ (List.mem_of_getElem? (i := 5) rfl))) (by decide) (backOf (W := 2) (rm_ins l Z a0 hw [] b1 pi cc (6 : Int32) k1 h227 n0 O227 f229 ⟨by decide, by decide⟩ hpi hcc) hZ (hw _ (List.mem_of_getElem? (i := 5) rfl)) (hw _ (List.mem_of_getElem? (i := 4) rfl)) (by decide) (by decide)) (g := (mkF m 380 #[.val (.int p0), .val (.int p1), .val (.int p2), .val (.int p3), .val (.int cc), .val (.ref b1), .val (.int (p1 &&& (7 : Int32))), .unset, .unset, .val (.int pi), .val (.ref b192)] [(.int (6 : Int32)), (.int cc), (.int pi), (.ref b1), (.int (6 : Int32)), (.ref b192)])) rfl (by rw [hml]; rfl) (argsL := [(.ref b1), (.int pi), (.int cc), (.int (6 : Int32))]) (rest := [(.int (6 : Int32)), (.ref b192)]) (lenOf pd_8 rfl) rfl (by show 2 * 0 + _ ≤ _; exact Nat.le_of_eq rfl) (hb hby at_380) (fun _ _ => ⟨rfl, e227, (by decide : 2 + 0 ≤ _), (by decide : 19 + 0 ≤ _)⟩)
        dsimp only [Pt.U, Pt.locs, Pt.cells, Pt.slots] at X232 l232 y232 z232 st232 hQ232
        subst y232 z232
        obtain ⟨rfl, N232q, e232⟩ := hQ232
        have N232 : Fr n0 L232 := by rw [l232]; exact Fr.app N227 N232q
        refine stp st232 ?_
        show Go p e below T232 (mkF m 383 #[.val (.int p0), .val (.int p1), .val (.int p2), .val (.int p3), .val (.int cc), .val (.ref b1), .val (.int (p1 &&& (7 : Int32))), .unset, .unset, .val (.int pi), .val (.ref b192)] [(.int (own_ins pi cc (6 : Int32))), (.int (6 : Int32)), (.ref b192)]) _
        obtain ⟨cl233, Ar233, q233, S233, M233, H233, G233⟩ := (id V227)
        have in233 : ¬ ((6 : Int32) < 0 ∨ cl233.slots.size ≤ ((6 : Int32)).toNatClampNeg) := inb_of S233 ⟨by decide, by decide⟩
        obtain ⟨T233, h233, X233, e233, W233, st233⟩ := stC X232 hx hZ e232 Ar233 (j := (6 : Int32)) in233 (g := (mkF m 383 #[.val (.int p0), .val (.int p1), .val (.int p2), .val (.int p3), .val (.int cc), .val (.ref b1), .val (.int (p1 &&& (7 : Int32))), .unset, .unset, .val (.int pi), .val (.ref b192)] [(.int (own_ins pi cc (6 : Int32))), (.int (6 : Int32)), (.ref b192)])) rfl rfl (hb hby at_383)
        have V233 : Arv Z h233 b192 k192 .char (10 : Int32) [(.int (own_ins pi cc (0 : Int32))), (.int (own_ins pi cc (1 : Int32))), (.int (own_ins pi cc (2 : Int32))), (.int (own_ins pi cc (3 : Int32))), (.int (own_ins pi cc (4 : Int32))), (.int (own_ins pi cc (5 : Int32))), (.int (own_ins pi cc (6 : Int32))), (.int (0 : Int32)), (.int (0 : Int32)), (.int (0 : Int32))] (.int (0 : Int32)) := Arv.set Ar233 q233 S233 M233 H233 G233 (ow_fits_char (char255 (own_ins_sm hcc _ _))) (ow_wr_char (char255 (own_ins_sm hcc _ _)) W233) 6 rfl (Nat.le_of_ble_eq_true rfl)
        have f234 := f228.wr W233
        have f235 := f229.other W233 ne193
        have f236 := f230.wr W233
        have hk := Nat.le_trans hk (Keep.of_wr W233).1
        have CR := CR.trans (CHr.wr W233 (Safe.exa hZ.alike f230 (by decide) (by decide)) CR.1)
        have K233 : Keep h0 h233 [] := K227.wr W233 (Or.inr sz_b192)
        have O233 := O227.wr W233 ge_b192
        have N233 := Fr.snoc X233 N232 ge_b192
        refine stp st233 ?_
        show Go p e below T233 (mkF m 384 #[.val (.int p0), .val (.int p1), .val (.int p2), .val (.int p3), .val (.int cc), .val (.ref b1), .val (.int (p1 &&& (7 : Int32))), .unset, .unset, .val (.int pi), .val (.ref b192)] []) _
        refine stp (fun _ => XS.aload X233.here hx rfl (hb hby at_384) rfl rfl) ?_
        show Go p e below T233 (mkF m 386 #[.val (.int p0), .val (.int p1), .val (.int p2), .val (.int p3), .val (.int cc), .val (.ref b1), .val (.int (p1 &&& (7 : Int32))), .unset, .unset, .val (.int pi), .val (.ref b192)] [(.ref b192)]) _
        refine stp (fun _ => XS.bipush X233.here hx rfl (hb hby at_386)) ?_
        show Go p e below T233 (mkF m 388 #[.val (.int p0), .val (.int p1), .val (.int p2), .val (.int p3), .val (.int cc), .val (.ref b1), .val (.int (p1 &&& (7 : Int32))), .unset, .unset, .val (.int pi), .val (.ref b192)] [(.int (7 : Int32)), (.ref b192)]) _
        refine stp (fun _ => XS.aload X233.here hx rfl (hb hby at_388) rfl rfl) ?_
        show Go p e below T233 (mkF m 390 #[.val (.int p0), .val (.int p1), .val (.int p2), .val (.int p3), .val (.int cc), .val (.ref b1), .val (.int (p1 &&& (7 : Int32))), .unset, .unset, .val (.int pi), .val (.ref b192)] [(.ref b1), (.int (7 : Int32)), (.ref b192)]) _
        refine stp (fun _ => XS.iload X233.here hx rfl (hb hby at_390) rfl) ?_
        show Go p e below T233 (mkF m 392 #[.val (.int p0), .val (.int p1), .val (.int p2), .val (.int p3), .val (.int cc), .val (.ref b1), .val (.int (p1 &&& (7 : Int32))), .unset, .unset, .val (.int pi), .val (.ref b192)] [(.int pi), (.ref b1), (.int (7 : Int32)), (.ref b192)]) _
        refine stp (fun _ => XS.iload X233.here hx rfl (hb hby at_392) rfl) ?_
        show Go p e below T233 (mkF m 394 #[.val (.int p0), .val (.int p1), .val (.int p2), .val (.int p3), .val (.int cc), .val (.ref b1), .val (.int (p1 &&& (7 : Int32))), .unset, .unset, .val (.int pi), .val (.ref b192)] [(.int cc), (.int pi), (.ref b1), (.int (7 : Int32)), (.ref b192)]) _
        refine stp (fun _ => XS.bipush X233.here hx rfl (hb hby at_394)) ?_
        show Go p e below T233 (mkF m 396 #[.val (.int p0), .val (.int p1), .val (.int p2), .val (.int p3), .val (.int cc), .val (.ref b1), .val (.int (p1 &&& (7 : Int32))), .unset, .unset, .val (.int pi), .val (.ref b192)] [(.int (7 : Int32)), (.int cc), (.int pi), (.ref b1), (.int (7 : Int32)), (.ref b192)]) _
        obtain ⟨_, _, ⟨T238, L238, k238, n238⟩, -, X238, ⟨Lc238, hQ238, l238, y238, z238⟩, st238⟩ := Jvm.LawKit.callS X233 hx (y := (⟨"com/example/fetch_to_rank/fetchtorank/crawl/OutcomeOfPinLaw", "ins", "([CICI)C"⟩ : MethodName)) hown (mvT hZ (hw _ (List.mem_of_getElem? (i := 2) rfl))) (mvT hZ (hw _ (List.mem_of_getElem? (i := 3) rfl))) (mvT hZ (hw _ (List.mem_of_getElem? (i := 4) rfl))) (mvT hZ (hw _ (List.mem_of_getElem? (i := 5) rfl))) (by decide) (backOf (W := 2) (rm_ins l Z a0 hw [] b1 pi cc (7 : Int32) k1 h233 n0 O233 f235 ⟨by decide, by decide⟩ hpi hcc) hZ (hw _ (List.mem_of_getElem? (i := 5) rfl)) (hw _ (List.mem_of_getElem? (i := 4) rfl)) (by decide) (by decide)) (g := (mkF m 396 #[.val (.int p0), .val (.int p1), .val (.int p2), .val (.int p3), .val (.int cc), .val (.ref b1), .val (.int (p1 &&& (7 : Int32))), .unset, .unset, .val (.int pi), .val (.ref b192)] [(.int (7 : Int32)), (.int cc), (.int pi), (.ref b1), (.int (7 : Int32)), (.ref b192)])) rfl (by rw [hml]; rfl) (argsL := [(.ref b1), (.int pi), (.int cc), (.int (7 : Int32))]) (rest := [(.int (7 : Int32)), (.ref b192)]) (lenOf pd_8 rfl) rfl (by show 2 * 0 + _ ≤ _; exact Nat.le_of_eq rfl) (hb hby at_396) (fun _ _ => ⟨rfl, e233, (by decide : 2 + 0 ≤ _), (by decide : 19 + 0 ≤ _)⟩)
        dsimp only [Pt.U, Pt.locs, Pt.cells, Pt.slots] at X238 l238 y238 z238 st238 hQ238
        subst y238 z238
        obtain ⟨rfl, N238q, e238⟩ := hQ238
        have N238 : Fr n0 L238 := by rw [l238]; exact Fr.app N233 N238q
        refine stp st238 ?_
        show Go p e below T238 (mkF m 399 #[.val (.int p0), .val (.int p1), .val (.int p2), .val (.int p3), .val (.int cc), .val (.ref b1), .val (.int (p1 &&& (7 : Int32))), .unset, .unset, .val (.int pi), .val (.ref b192)] [(.int (own_ins pi cc (7 : Int32))), (.int (7 : Int32)), (.ref b192)]) _
        obtain ⟨cl239, Ar239, q239, S239, M239, H239, G239⟩ := (id V233)
        have in239 : ¬ ((7 : Int32) < 0 ∨ cl239.slots.size ≤ ((7 : Int32)).toNatClampNeg) := inb_of S239 ⟨by decide, by decide⟩
        obtain ⟨T239, h239, X239, e239, W239, st239⟩ := stC X238 hx hZ e238 Ar239 (j := (7 : Int32)) in239 (g := (mkF m 399 #[.val (.int p0), .val (.int p1), .val (.int p2), .val (.int p3), .val (.int cc), .val (.ref b1), .val (.int (p1 &&& (7 : Int32))), .unset, .unset, .val (.int pi), .val (.ref b192)] [(.int (own_ins pi cc (7 : Int32))), (.int (7 : Int32)), (.ref b192)])) rfl rfl (hb hby at_399)
        have V239 : Arv Z h239 b192 k192 .char (10 : Int32) [(.int (own_ins pi cc (0 : Int32))), (.int (own_ins pi cc (1 : Int32))), (.int (own_ins pi cc (2 : Int32))), (.int (own_ins pi cc (3 : Int32))), (.int (own_ins pi cc (4 : Int32))), (.int (own_ins pi cc (5 : Int32))), (.int (own_ins pi cc (6 : Int32))), (.int (own_ins pi cc (7 : Int32))), (.int (0 : Int32)), (.int (0 : Int32))] (.int (0 : Int32)) := Arv.set Ar239 q239 S239 M239 H239 G239 (ow_fits_char (char255 (own_ins_sm hcc _ _))) (ow_wr_char (char255 (own_ins_sm hcc _ _)) W239) 7 rfl (Nat.le_of_ble_eq_true rfl)
        have f240 := f234.wr W239
        have f241 := f235.other W239 ne193
        have f242 := f236.wr W239
        have hk := Nat.le_trans hk (Keep.of_wr W239).1
        have CR := CR.trans (CHr.wr W239 (Safe.exa hZ.alike f236 (by decide) (by decide)) CR.1)
        have K239 : Keep h0 h239 [] := K233.wr W239 (Or.inr sz_b192)
        have O239 := O233.wr W239 ge_b192
        have N239 := Fr.snoc X239 N238 ge_b192
        refine stp st239 ?_
        show Go p e below T239 (mkF m 400 #[.val (.int p0), .val (.int p1), .val (.int p2), .val (.int p3), .val (.int cc), .val (.ref b1), .val (.int (p1 &&& (7 : Int32))), .unset, .unset, .val (.int pi), .val (.ref b192)] []) _
        refine stp (fun _ => XS.aload X239.here hx rfl (hb hby at_400) rfl rfl) ?_
        show Go p e below T239 (mkF m 402 #[.val (.int p0), .val (.int p1), .val (.int p2), .val (.int p3), .val (.int cc), .val (.ref b1), .val (.int (p1 &&& (7 : Int32))), .unset, .unset, .val (.int pi), .val (.ref b192)] [(.ref b192)]) _
        refine stp (fun _ => XS.bipush X239.here hx rfl (hb hby at_402)) ?_
        show Go p e below T239 (mkF m 404 #[.val (.int p0), .val (.int p1), .val (.int p2), .val (.int p3), .val (.int cc), .val (.ref b1), .val (.int (p1 &&& (7 : Int32))), .unset, .unset, .val (.int pi), .val (.ref b192)] [(.int (8 : Int32)), (.ref b192)]) _
        refine stp (fun _ => XS.aload X239.here hx rfl (hb hby at_404) rfl rfl) ?_
        show Go p e below T239 (mkF m 406 #[.val (.int p0), .val (.int p1), .val (.int p2), .val (.int p3), .val (.int cc), .val (.ref b1), .val (.int (p1 &&& (7 : Int32))), .unset, .unset, .val (.int pi), .val (.ref b192)] [(.ref b1), (.int (8 : Int32)), (.ref b192)]) _
        refine stp (fun _ => XS.iload X239.here hx rfl (hb hby at_406) rfl) ?_
        show Go p e below T239 (mkF m 408 #[.val (.int p0), .val (.int p1), .val (.int p2), .val (.int p3), .val (.int cc), .val (.ref b1), .val (.int (p1 &&& (7 : Int32))), .unset, .unset, .val (.int pi), .val (.ref b192)] [(.int pi), (.ref b1), (.int (8 : Int32)), (.ref b192)]) _
        refine stp (fun _ => XS.iload X239.here hx rfl (hb hby at_408) rfl) ?_
        show Go p e below T239 (mkF m 410 #[.val (.int p0), .val (.int p1), .val (.int p2), .val (.int p3), .val (.int cc), .val (.ref b1), .val (.int (p1 &&& (7 : Int32))), .unset, .unset, .val (.int pi), .val (.ref b192)] [(.int cc), (.int pi), (.ref b1), (.int (8 : Int32)), (.ref b192)]) _
        refine stp (fun _ => XS.bipush X239.here hx rfl (hb hby at_410)) ?_
        show Go p e below T239 (mkF m 412 #[.val (.int p0), .val (.int p1), .val (.int p2), .val (.int p3), .val (.int cc), .val (.ref b1), .val (.int (p1 &&& (7 : Int32))), .unset, .unset, .val (.int pi), .val (.ref b192)] [(.int (8 : Int32)), (.int cc), (.int pi), (.ref b1), (.int (8 : Int32)), (.ref b192)]) _
        obtain ⟨_, _, ⟨T244, L244, k244, n244⟩, -, X244, ⟨Lc244, hQ244, l244, y244, z244⟩, st244⟩ := Jvm.LawKit.callS X239 hx (y := (⟨"com/example/fetch_to_rank/fetchtorank/crawl/OutcomeOfPinLaw", "ins", "([CICI)C"⟩ : MethodName)) hown (mvT hZ (hw _ (List.mem_of_getElem? (i := 2) rfl))) (mvT hZ (hw _ (List.mem_of_getElem? (i := 3) rfl))) (mvT hZ (hw _ (List.mem_of_getElem? (i := 4) rfl))) (mvT hZ (hw _ (List.mem_of_getElem? (i := 5) rfl))) (by decide) (backOf (W := 2) (rm_ins l Z a0 hw [] b1 pi cc (8 : Int32) k1 h239 n0 O239 f241 ⟨by decide, by decide⟩ hpi hcc) hZ (hw _ (List.mem_of_getElem? (i := 5) rfl)) (hw _ (List.mem_of_getElem? (i := 4) rfl)) (by decide) (by decide)) (g := (mkF m 412 #[.val (.int p0), .val (.int p1), .val (.int p2), .val (.int p3), .val (.int cc), .val (.ref b1), .val (.int (p1 &&& (7 : Int32))), .unset, .unset, .val (.int pi), .val (.ref b192)] [(.int (8 : Int32)), (.int cc), (.int pi), (.ref b1), (.int (8 : Int32)), (.ref b192)])) rfl (by rw [hml]; rfl) (argsL := [(.ref b1), (.int pi), (.int cc), (.int (8 : Int32))]) (rest := [(.int (8 : Int32)), (.ref b192)]) (lenOf pd_8 rfl) rfl (by show 2 * 0 + _ ≤ _; exact Nat.le_of_eq rfl) (hb hby at_412) (fun _ _ => ⟨rfl, e239, (by decide : 2 + 0 ≤ _), (by decide : 19 + 0 ≤ _)⟩)
        dsimp only [Pt.U, Pt.locs, Pt.cells, Pt.slots] at X244 l244 y244 z244 st244 hQ244
        subst y244 z244
        obtain ⟨rfl, N244q, e244⟩ := hQ244
        have N244 : Fr n0 L244 := by rw [l244]; exact Fr.app N239 N244q
        refine stp st244 ?_
        show Go p e below T244 (mkF m 415 #[.val (.int p0), .val (.int p1), .val (.int p2), .val (.int p3), .val (.int cc), .val (.ref b1), .val (.int (p1 &&& (7 : Int32))), .unset, .unset, .val (.int pi), .val (.ref b192)] [(.int (own_ins pi cc (8 : Int32))), (.int (8 : Int32)), (.ref b192)]) _
        obtain ⟨cl245, Ar245, q245, S245, M245, H245, G245⟩ := (id V239)
        have in245 : ¬ ((8 : Int32) < 0 ∨ cl245.slots.size ≤ ((8 : Int32)).toNatClampNeg) := inb_of S245 ⟨by decide, by decide⟩
        obtain ⟨T245, h245, X245, e245, W245, st245⟩ := stC X244 hx hZ e244 Ar245 (j := (8 : Int32)) in245 (g := (mkF m 415 #[.val (.int p0), .val (.int p1), .val (.int p2), .val (.int p3), .val (.int cc), .val (.ref b1), .val (.int (p1 &&& (7 : Int32))), .unset, .unset, .val (.int pi), .val (.ref b192)] [(.int (own_ins pi cc (8 : Int32))), (.int (8 : Int32)), (.ref b192)])) rfl rfl (hb hby at_415)
        have V245 : Arv Z h245 b192 k192 .char (10 : Int32) [(.int (own_ins pi cc (0 : Int32))), (.int (own_ins pi cc (1 : Int32))), (.int (own_ins pi cc (2 : Int32))), (.int (own_ins pi cc (3 : Int32))), (.int (own_ins pi cc (4 : Int32))), (.int (own_ins pi cc (5 : Int32))), (.int (own_ins pi cc (6 : Int32))), (.int (own_ins pi cc (7 : Int32))), (.int (own_ins pi cc (8 : Int32))), (.int (0 : Int32))] (.int (0 : Int32)) := Arv.set Ar245 q245 S245 M245 H245 G245 (ow_fits_char (char255 (own_ins_sm hcc _ _))) (ow_wr_char (char255 (own_ins_sm hcc _ _)) W245) 8 rfl (Nat.le_of_ble_eq_true rfl)
        have f246 := f240.wr W245
        have f247 := f241.other W245 ne193
        have f248 := f242.wr W245
        have hk := Nat.le_trans hk (Keep.of_wr W245).1
        have CR := CR.trans (CHr.wr W245 (Safe.exa hZ.alike f242 (by decide) (by decide)) CR.1)
        have K245 : Keep h0 h245 [] := K239.wr W245 (Or.inr sz_b192)
        have O245 := O239.wr W245 ge_b192
        have N245 := Fr.snoc X245 N244 ge_b192
        refine stp st245 ?_
        show Go p e below T245 (mkF m 416 #[.val (.int p0), .val (.int p1), .val (.int p2), .val (.int p3), .val (.int cc), .val (.ref b1), .val (.int (p1 &&& (7 : Int32))), .unset, .unset, .val (.int pi), .val (.ref b192)] []) _
        refine stp (fun _ => XS.aload X245.here hx rfl (hb hby at_416) rfl rfl) ?_
        show Go p e below T245 (mkF m 418 #[.val (.int p0), .val (.int p1), .val (.int p2), .val (.int p3), .val (.int cc), .val (.ref b1), .val (.int (p1 &&& (7 : Int32))), .unset, .unset, .val (.int pi), .val (.ref b192)] [(.ref b192)]) _
        refine stp (fun _ => XS.bipush X245.here hx rfl (hb hby at_418)) ?_
        show Go p e below T245 (mkF m 420 #[.val (.int p0), .val (.int p1), .val (.int p2), .val (.int p3), .val (.int cc), .val (.ref b1), .val (.int (p1 &&& (7 : Int32))), .unset, .unset, .val (.int pi), .val (.ref b192)] [(.int (9 : Int32)), (.ref b192)]) _
        refine stp (fun _ => XS.aload X245.here hx rfl (hb hby at_420) rfl rfl) ?_
        show Go p e below T245 (mkF m 422 #[.val (.int p0), .val (.int p1), .val (.int p2), .val (.int p3), .val (.int cc), .val (.ref b1), .val (.int (p1 &&& (7 : Int32))), .unset, .unset, .val (.int pi), .val (.ref b192)] [(.ref b1), (.int (9 : Int32)), (.ref b192)]) _
        refine stp (fun _ => XS.iload X245.here hx rfl (hb hby at_422) rfl) ?_
        show Go p e below T245 (mkF m 424 #[.val (.int p0), .val (.int p1), .val (.int p2), .val (.int p3), .val (.int cc), .val (.ref b1), .val (.int (p1 &&& (7 : Int32))), .unset, .unset, .val (.int pi), .val (.ref b192)] [(.int pi), (.ref b1), (.int (9 : Int32)), (.ref b192)]) _
        refine stp (fun _ => XS.iload X245.here hx rfl (hb hby at_424) rfl) ?_
        show Go p e below T245 (mkF m 426 #[.val (.int p0), .val (.int p1), .val (.int p2), .val (.int p3), .val (.int cc), .val (.ref b1), .val (.int (p1 &&& (7 : Int32))), .unset, .unset, .val (.int pi), .val (.ref b192)] [(.int cc), (.int pi), (.ref b1), (.int (9 : Int32)), (.ref b192)]) _
        refine stp (fun _ => XS.bipush X245.here hx rfl (hb hby at_426)) ?_
        show Go p e below T245 (mkF m 428 #[.val (.int p0), .val (.int p1), .val (.int p2), .val (.int p3), .val (.int cc), .val (.ref b1), .val (.int (p1 &&& (7 : Int32))), .unset, .unset, .val (.int pi), .val (.ref b192)] [(.int (9 : Int32)), (.int cc), (.int pi), (.ref b1), (.int (9 : Int32)), (.ref b192)]) _
        obtain ⟨_, _, ⟨T250, L250, k250, n250⟩, -, X250, ⟨Lc250, hQ250, l250, y250, z250⟩, st250⟩ := Jvm.LawKit.callS X245 hx (y := (⟨"com/example/fetch_to_rank/fetchtorank/crawl/OutcomeOfPinLaw", "ins", "([CICI)C"⟩ : MethodName)) hown (mvT hZ (hw _ (List.mem_of_getElem? (i := 2) rfl))) (mvT hZ (hw _ (List.mem_of_getElem? (i := 3) rfl))) (mvT hZ (hw _ (List.mem_of_getElem? (i := 4) rfl))) (mvT hZ (hw _ (List.mem_of_getElem? (i := 5) rfl))) (by decide) (backOf (W := 2) (rm_ins l Z a0 hw [] b1 pi cc (9 : Int32) k1 h245 n0 O245 f247 ⟨by decide, by decide⟩ hpi hcc) hZ (hw _ (List.mem_of_getElem? (i := 5) rfl)) (hw _ (List.mem_of_getElem? (i := 4) rfl)) (by decide) (by decide)) (g := (mkF m 428 #[.val (.int p0), .val (.int p1), .val (.int p2), .val (.int p3), .val (.int cc), .val (.ref b1), .val (.int (p1 &&& (7 : Int32))), .unset, .unset, .val (.int pi), .val (.ref b192)] [(.int (9 : Int32)), (.int cc), (.int pi), (.ref b1), (.int (9 : Int32)), (.ref b192)])) rfl (by rw [hml]; rfl) (argsL := [(.ref b1), (.int pi), (.int cc), (.int (9 : Int32))]) (rest := [(.int (9 : Int32)), (.ref b192)]) (lenOf pd_8 rfl) rfl (by show 2 * 0 + _ ≤ _; exact Nat.le_of_eq rfl) (hb hby at_428) (fun _ _ => ⟨rfl, e245, (by decide : 2 + 0 ≤ _), (by decide : 19 + 0 ≤ _)⟩)
        dsimp only [Pt.U, Pt.locs, Pt.cells, Pt.slots] at X250 l250 y250 z250 st250 hQ250
        subst y250 z250
        obtain ⟨rfl, N250q, e250⟩ := hQ250
        have N250 : Fr n0 L250 := by rw [l250]; exact Fr.app N245 N250q
        refine stp st250 ?_
        show Go p e below T250 (mkF m 431 #[.val (.int p0), .val (.int p1), .val (.int p2), .val (.int p3), .val (.int cc), .val (.ref b1), .val (.int (p1 &&& (7 : Int32))), .unset, .unset, .val (.int pi), .val (.ref b192)] [(.int (own_ins pi cc (9 : Int32))), (.int (9 : Int32)), (.ref b192)]) _
        obtain ⟨cl251, Ar251, q251, S251, M251, H251, G251⟩ := (id V245)
        have in251 : ¬ ((9 : Int32) < 0 ∨ cl251.slots.size ≤ ((9 : Int32)).toNatClampNeg) := inb_of S251 ⟨by decide, by decide⟩
        obtain ⟨T251, h251, X251, e251, W251, st251⟩ := stC X250 hx hZ e250 Ar251 (j := (9 : Int32)) in251 (g := (mkF m 431 #[.val (.int p0), .val (.int p1), .val (.int p2), .val (.int p3), .val (.int cc), .val (.ref b1), .val (.int (p1 &&& (7 : Int32))), .unset, .unset, .val (.int pi), .val (.ref b192)] [(.int (own_ins pi cc (9 : Int32))), (.int (9 : Int32)), (.ref b192)])) rfl rfl (hb hby at_431)
        have V251 : Arv Z h251 b192 k192 .char (10 : Int32) [(.int (own_ins pi cc (0 : Int32))), (.int (own_ins pi cc (1 : Int32))), (.int (own_ins pi cc (2 : Int32))), (.int (own_ins pi cc (3 : Int32))), (.int (own_ins pi cc (4 : Int32))), (.int (own_ins pi cc (5 : Int32))), (.int (own_ins pi cc (6 : Int32))), (.int (own_ins pi cc (7 : Int32))), (.int (own_ins pi cc (8 : Int32))), (.int (own_ins pi cc (9 : Int32)))] (.int (0 : Int32)) := Arv.set Ar251 q251 S251 M251 H251 G251 (ow_fits_char (char255 (own_ins_sm hcc _ _))) (ow_wr_char (char255 (own_ins_sm hcc _ _)) W251) 9 rfl (Nat.le_of_ble_eq_true rfl)
        have f252 := f246.wr W251
        have f253 := f247.other W251 ne193
        have f254 := f248.wr W251
        have hk := Nat.le_trans hk (Keep.of_wr W251).1
        have CR := CR.trans (CHr.wr W251 (Safe.exa hZ.alike f248 (by decide) (by decide)) CR.1)
        have K251 : Keep h0 h251 [] := K245.wr W251 (Or.inr sz_b192)
        have O251 := O245.wr W251 ge_b192
        have N251 := Fr.snoc X251 N250 ge_b192
        refine stp st251 ?_
        show Go p e below T251 (mkF m 432 #[.val (.int p0), .val (.int p1), .val (.int p2), .val (.int p3), .val (.int cc), .val (.ref b1), .val (.int (p1 &&& (7 : Int32))), .unset, .unset, .val (.int pi), .val (.ref b192)] []) _
        obtain ⟨T256, h256, X256, e256, E256, A256, D256, -, st256⟩ := newO X251 hx hZ hown (hw _ (List.mem_of_getElem? (i := 6) rfl)) (hw _ (List.mem_of_getElem? (i := 7) rfl)) (hw _ (List.mem_of_getElem? (i := 8) rfl)) e251 (g := (mkF m 432 #[.val (.int p0), .val (.int p1), .val (.int p2), .val (.int p3), .val (.int cc), .val (.ref b1), .val (.int (p1 &&& (7 : Int32))), .unset, .unset, .val (.int pi), .val (.ref b192)] [])) rfl (hb hby at_432) (by decide) (by decide)
        obtain ⟨b256, g256⟩ : ∃ z, z = h251.size := ⟨_, rfl⟩
        rw [← g256] at A256 D256 st256
        have ne257 : b1 ≠ b256 := Nat.ne_of_lt (Nat.lt_of_lt_of_le f252.lt (Nat.le_of_eq g256.symm))
        have ne258 : b192 ≠ b256 := Nat.ne_of_lt (Nat.lt_of_lt_of_le f254.lt (Nat.le_of_eq g256.symm))
        have sz_b256 : h0.size ≤ b256 := Nat.le_trans K251.1 (Nat.le_of_eq g256.symm)
        have ge_b256 : n0 ≤ b256 := Nat.le_trans (old_le O251) (Nat.le_of_eq g256.symm)
        have f259 := f252.ext E256
        have f260 := f253.ext E256
        have f261 := f254.ext E256
        have f262 := V251.ext E256
        have Sf256 := (Safe.new (Z := Z) (EL := consts_1) (Nat.le_of_eq g256.symm)).ext E256 CR.1
        have hk := Nat.le_trans hk E256.1
        have CR := CR.trans (CHr.ext E256 CR.1)
        have K256 : Keep h0 h256 [] := K251.ext E256
        have O256 := O251.ext E256
        have F263 : Fld Z h256 b256 "java/lang/String" "coder" "B" (.int (0 : Int32)) := D256 (Or.inr (hw _ (List.mem_of_getElem? (i := 32) rfl))) (ty := .byte) (by decide)
        have F264 : Fld Z h256 b256 "java/lang/String" "value" "[B" .null := D256 (Or.inr (hw _ (List.mem_of_getElem? (i := 34) rfl))) (ty := (.array .byte)) (by decide)
        refine stp st256 ?_
        show Go p e below T256 (mkF m 435 #[.val (.int p0), .val (.int p1), .val (.int p2), .val (.int p3), .val (.int cc), .val (.ref b1), .val (.int (p1 &&& (7 : Int32))), .unset, .unset, .val (.int pi), .val (.ref b192)] [(.ref b256)]) _
        refine stp (fun _ => XS.dup X256.here hx rfl (hb hby at_435) rfl rfl) ?_
        show Go p e below T256 (mkF m 436 #[.val (.int p0), .val (.int p1), .val (.int p2), .val (.int p3), .val (.int cc), .val (.ref b1), .val (.int (p1 &&& (7 : Int32))), .unset, .unset, .val (.int pi), .val (.ref b192)] [(.ref b256), (.ref b256)]) _
        refine stp (fun _ => XS.aload X256.here hx rfl (hb hby at_436) rfl rfl) ?_
        show Go p e below T256 (mkF m 438 #[.val (.int p0), .val (.int p1), .val (.int p2), .val (.int p3), .val (.int cc), .val (.ref b1), .val (.int (p1 &&& (7 : Int32))), .unset, .unset, .val (.int pi), .val (.ref b192)] [(.ref b192), (.ref b256), (.ref b256)]) _
        obtain ⟨_, _, ⟨T265, L265, k265, n265⟩, -, X265, ⟨Lc265, hQ265, l265, y265, z265⟩, st265⟩ := X256.specialBack hx (y := (⟨"java/lang/String", "<init>", "([C)V"⟩ : MethodName)) rfl hown (mvT hZ (hw _ (List.mem_of_getElem? (i := 9) rfl))) (mvT hZ (hw _ (List.mem_of_getElem? (i := 10) rfl))) (mvT hZ (hw _ (List.mem_of_getElem? (i := 11) rfl))) (by decide) (StrChars.Road.backV (W := 1) hZ hws (kI := 4) (hw _ (List.mem_of_getElem? (i := 7) rfl)) (cs := ([(own_ins pi cc (0 : Int32)), (own_ins pi cc (1 : Int32)), (own_ins pi cc (2 : Int32)), (own_ins pi cc (3 : Int32)), (own_ins pi cc (4 : Int32)), (own_ins pi cc (5 : Int32)), (own_ins pi cc (6 : Int32)), (own_ins pi cc (7 : Int32)), (own_ins pi cc (8 : Int32)), (own_ins pi cc (9 : Int32))] : List Int32)) (bs := ([(own_ins pi cc (0 : Int32)), (own_ins pi cc (1 : Int32)), (own_ins pi cc (2 : Int32)), (own_ins pi cc (3 : Int32)), (own_ins pi cc (4 : Int32)), (own_ins pi cc (5 : Int32)), (own_ins pi cc (6 : Int32)), (own_ins pi cc (7 : Int32)), (own_ins pi cc (8 : Int32)), (own_ins pi cc (9 : Int32))] : List Int32).map (fun c => c.toInt8.toInt32)) (n := 10) ge_b256 (old_le O256) A256 F264 F263 f262 (S_CS.ext O256.2) hcz rfl rfl (by decide) (by decide) (own_sm1 (own_ins_sm hcc _ _) (own_sm1 (own_ins_sm hcc _ _) (own_sm1 (own_ins_sm hcc _ _) (own_sm1 (own_ins_sm hcc _ _) (own_sm1 (own_ins_sm hcc _ _) (own_sm1 (own_ins_sm hcc _ _) (own_sm1 (own_ins_sm hcc _ _) (own_sm1 (own_ins_sm hcc _ _) (own_sm1 (own_ins_sm hcc _ _) (own_sm1 (own_ins_sm hcc _ _) own_sm0)))))))))) rfl (by decide) (by decide)) (g := (mkF m 438 #[.val (.int p0), .val (.int p1), .val (.int p2), .val (.int p3), .val (.int cc), .val (.ref b1), .val (.int (p1 &&& (7 : Int32))), .unset, .unset, .val (.int pi), .val (.ref b192)] [(.ref b192), (.ref b256), (.ref b256)])) rfl (by rw [hml]; rfl) (Steps.refl _) (a := b256) (argsL := [(.ref b192)]) (rest := [(.ref b256)]) (lenOf pd_5 rfl) rfl (by show 2 * 0 + _ ≤ _; exact Nat.le_of_eq rfl) (hb hby at_438) (fun _ _ => ⟨rfl, e256, (by decide : 3 + 1 ≤ _), (by decide : 23 + 10 ≤ _)⟩)
        dsimp only [Pt.U, Pt.locs, Pt.cells, Pt.slots] at X265 l265 y265 z265 st265 hQ265
        subst y265 z265
        obtain ⟨rfl, N265q, K265q, E265q, C265q, t265, kb265, ge_t265, sz265q, ne265q, F265q, V265q⟩ := hQ265
        have N265 : Fr n0 L265 := by rw [l265]; exact Fr.app N251 N265q
        have ne266 : b1 ≠ t265 := Nat.ne_of_lt (Nat.lt_of_lt_of_le f259.lt sz265q)
        have ne267 : b192 ≠ t265 := Nat.ne_of_lt (Nat.lt_of_lt_of_le f261.lt sz265q)
        have f268 := f259.keep K265q
        have f269 := f260.keep K265q (ninS ne257 nin0)
        have f270 := f261.keep K265q
        have f271 := f262.keep K265q (ninS ne258 nin0)
        have f272 := Sf256.keep K265q (sfS Sf256 sf0) CR.1
        have hk := Nat.le_trans hk K265q.1
        have CR := CR.trans (CHr.keep K265q (sfS Sf256 sf0) CR.1)
        have K265 : Keep h0 T265.heap [] := K256.trans K265q (allS (Or.inr sz_b256) all0)
        have sz_t265 : h0.size ≤ t265 := Nat.le_trans K256.1 sz265q
        have O265 := O256.keep K265q (allS ge_b256 all0)
        have Q265 : StrIs Z T265.heap b256 ([(own_ins pi cc (0 : Int32)), (own_ins pi cc (1 : Int32)), (own_ins pi cc (2 : Int32)), (own_ins pi cc (3 : Int32)), (own_ins pi cc (4 : Int32)), (own_ins pi cc (5 : Int32)), (own_ins pi cc (6 : Int32)), (own_ins pi cc (7 : Int32)), (own_ins pi cc (8 : Int32)), (own_ins pi cc (9 : Int32))] : List Int32) := StrIs.of E265q F265q C265q V265q rfl rfl (own_sm1 (own_ins_sm hcc _ _) (own_sm1 (own_ins_sm hcc _ _) (own_sm1 (own_ins_sm hcc _ _) (own_sm1 (own_ins_sm hcc _ _) (own_sm1 (own_ins_sm hcc _ _) (own_sm1 (own_ins_sm hcc _ _) (own_sm1 (own_ins_sm hcc _ _) (own_sm1 (own_ins_sm hcc _ _) (own_sm1 (own_ins_sm hcc _ _) (own_sm1 (own_ins_sm hcc _ _) own_sm0)))))))))) (Nat.le_of_ble_eq_true rfl)
        refine stt st265 ?_
        show Go p e below T265 (mkF m 441 #[.val (.int p0), .val (.int p1), .val (.int p2), .val (.int p3), .val (.int cc), .val (.ref b1), .val (.int (p1 &&& (7 : Int32))), .unset, .unset, .val (.int pi), .val (.ref b192)] [(.ref b256)]) _
        refine stp (fun _ => XS.astore X265.here hx rfl (hb hby at_441) rfl rfl (l' := #[.val (.int p0), .val (.int p1), .val (.int p2), .val (.int p3), .val (.int cc), .val (.ref b1), .val (.int (p1 &&& (7 : Int32))), .val (.ref b256), .unset, .val (.int pi), .val (.ref b192)]) rfl) ?_
        show Go p e below T265 (mkF m 443 #[.val (.int p0), .val (.int p1), .val (.int p2), .val (.int p3), .val (.int cc), .val (.ref b1), .val (.int (p1 &&& (7 : Int32))), .val (.ref b256), .unset, .val (.int pi), .val (.ref b192)] []) _
        refine stp (fun _ => XS.iconst X265.here hx rfl (hb hby at_443)) ?_
        show Go p e below T265 (mkF m 444 #[.val (.int p0), .val (.int p1), .val (.int p2), .val (.int p3), .val (.int cc), .val (.ref b1), .val (.int (p1 &&& (7 : Int32))), .val (.ref b256), .unset, .val (.int pi), .val (.ref b192)] [(.int (0 : Int32))]) _
        refine stp (fun _ => XS.istore X265.here hx rfl (hb hby at_444) rfl (l' := #[.val (.int p0), .val (.int p1), .val (.int p2), .val (.int p3), .val (.int cc), .val (.ref b1), .val (.int (p1 &&& (7 : Int32))), .val (.ref b256), .val (.int (0 : Int32)), .val (.int pi), .val (.ref b192)]) rfl) ?_
        show Go p e below T265 (mkF m 446 #[.val (.int p0), .val (.int p1), .val (.int p2), .val (.int p3), .val (.int cc), .val (.ref b1), .val (.int (p1 &&& (7 : Int32))), .val (.ref b256), .val (.int (0 : Int32)), .val (.int pi), .val (.ref b192)] []) _
        refine stp (fun _ => XS.goto X265.here hx rfl (pc0 := 446) (pc' := 506) rfl (hb hby at_446) (by decide) (by decide)) ?_
        show Go p e below T265 (mkF m 506 #[.val (.int p0), .val (.int p1), .val (.int p2), .val (.int p3), .val (.int cc), .val (.ref b1), .val (.int (p1 &&& (7 : Int32))), .val (.ref b256), .val (.int (0 : Int32)), .val (.int pi), .val (.ref b192)] []) _
        refine stp (fun _ => XS.iloadN X265.here hx rfl (hb hby at_506) rfl) ?_
        show Go p e below T265 (mkF m 507 #[.val (.int p0), .val (.int p1), .val (.int p2), .val (.int p3), .val (.int cc), .val (.ref b1), .val (.int (p1 &&& (7 : Int32))), .val (.ref b256), .val (.int (0 : Int32)), .val (.int pi), .val (.ref b192)] [(.int p0)]) _
        refine stp (fun _ => XS.sipush X265.here hx rfl (hb hby at_507)) ?_
        show Go p e below T265 (mkF m 510 #[.val (.int p0), .val (.int p1), .val (.int p2), .val (.int p3), .val (.int cc), .val (.ref b1), .val (.int (p1 &&& (7 : Int32))), .val (.ref b256), .val (.int (0 : Int32)), .val (.int pi), .val (.ref b192)] [(.int (200 : Int32)), (.int p0)]) _
        by_cases q510_273 : p0 < (200 : Int32)
        · refine stp (fun _ => XS.icmpYes X265.here hx rfl (pc0 := 510) (pc' := 539) rfl (hb hby at_510) rfl (XT.ii_lt_t q510_273) (by decide) (by decide)) ?_
          show Go p e below T265 (mkF m 539 #[.val (.int p0), .val (.int p1), .val (.int p2), .val (.int p3), .val (.int cc), .val (.ref b1), .val (.int (p1 &&& (7 : Int32))), .val (.ref b256), .val (.int (0 : Int32)), .val (.int pi), .val (.ref b192)] []) _
          obtain ⟨T274, X274, e274, st274⟩ := getS2 X265 hx hZ hown (host := "") (Or.inl (hw _ (List.mem_of_getElem? (i := 35) rfl))) Via.refl rfl (S_ERROR.ext O265.2) (g := (mkF m 539 #[.val (.int p0), .val (.int p1), .val (.int p2), .val (.int p3), .val (.int cc), .val (.ref b1), .val (.int (p1 &&& (7 : Int32))), .val (.ref b256), .val (.int (0 : Int32)), .val (.int pi), .val (.ref b192)] [])) rfl (hb hby at_539)
          refine stp st274 ?_
          show Go p e below T274 (mkF m 542 #[.val (.int p0), .val (.int p1), .val (.int p2), .val (.int p3), .val (.int cc), .val (.ref b1), .val (.int (p1 &&& (7 : Int32))), .val (.ref b256), .val (.int (0 : Int32)), .val (.int pi), .val (.ref b192)] [(.ref error_)]) _
          refine stp (fun _ => XS.astore X274.here hx rfl (hb hby at_542) rfl rfl (l' := #[.val (.int p0), .val (.int p1), .val (.int p2), .val (.int p3), .val (.int cc), .val (.ref b1), .val (.int (p1 &&& (7 : Int32))), .val (.ref b256), .val (.int (0 : Int32)), .val (.ref error_), .val (.ref b192)]) rfl) ?_
          show Go p e below T274 (mkF m 544 #[.val (.int p0), .val (.int p1), .val (.int p2), .val (.int p3), .val (.int cc), .val (.ref b1), .val (.int (p1 &&& (7 : Int32))), .val (.ref b256), .val (.int (0 : Int32)), .val (.ref error_), .val (.ref b192)] []) _
          refine stp (fun _ => XS.iloadN X274.here hx rfl (hb hby at_544) rfl) ?_
          show Go p e below T274 (mkF m 545 #[.val (.int p0), .val (.int p1), .val (.int p2), .val (.int p3), .val (.int cc), .val (.ref b1), .val (.int (p1 &&& (7 : Int32))), .val (.ref b256), .val (.int (0 : Int32)), .val (.ref error_), .val (.ref b192)] [(.int p0)]) _
          refine stp (fun _ => XS.aload X274.here hx rfl (hb hby at_545) rfl rfl) ?_
          show Go p e below T274 (mkF m 547 #[.val (.int p0), .val (.int p1), .val (.int p2), .val (.int p3), .val (.int cc), .val (.ref b1), .val (.int (p1 &&& (7 : Int32))), .val (.ref b256), .val (.int (0 : Int32)), .val (.ref error_), .val (.ref b192)] [(.ref b256), (.int p0)]) _
          obtain ⟨_, _, ⟨T275, L275, k275, n275⟩, -, X275, hS275, gg275, ⟨Lc275, hQ275, l275, y275, z275, CRn275⟩, st275⟩ := callSS X274 hx (y := (⟨"com/example/fetch_to_rank/fetchtorank/crawl/Outcome", "of", "(ILjava/lang/String;)Lcom/example/fetch_to_rank/fetchtorank/crawl/Outcome;"⟩ : MethodName)) hown (mvT hZ (hw _ (List.mem_of_getElem? (i := 38) rfl))) (mvT hZ (hw _ (List.mem_of_getElem? (i := 39) rfl))) (mvT hZ (hw _ (List.mem_of_getElem? (i := 36) rfl))) (mvT hZ (hw _ (List.mem_of_getElem? (i := 40) rfl))) (by decide) (backOfSH (W := 0) (rm_of l Z a0 hw [] p0 b256 ([(own_ins pi cc (0 : Int32)), (own_ins pi cc (1 : Int32)), (own_ins pi cc (2 : Int32)), (own_ins pi cc (3 : Int32)), (own_ins pi cc (4 : Int32)), (own_ins pi cc (5 : Int32)), (own_ins pi cc (6 : Int32)), (own_ins pi cc (7 : Int32)), (own_ins pi cc (8 : Int32)), (own_ins pi cc (9 : Int32))] : List Int32) error_ page skipped error_ cz T265.heap n0 O265 hEL Q265 S_ERROR S_PAGE S_SKIPPED S_CS hcz ⟨fun _ => rfl, fun _ => rfl, fun h => absurd q510_273 h, fun h => absurd q510_273 h⟩) hZ (hw _ (List.mem_of_getElem? (i := 40) rfl)) (hw _ (List.mem_of_getElem? (i := 36) rfl)) (by decide) (by decide) hEL CR.1) (g := (mkF m 547 #[.val (.int p0), .val (.int p1), .val (.int p2), .val (.int p3), .val (.int cc), .val (.ref b1), .val (.int (p1 &&& (7 : Int32))), .val (.ref b256), .val (.int (0 : Int32)), .val (.ref error_), .val (.ref b192)] [(.ref b256), (.int p0)])) rfl (by rw [hml]; rfl) (argsL := [(.int p0), (.ref b256)]) (rest := []) (lenOf pd_6 rfl) rfl (by show 2 * 0 + _ ≤ _; exact Nat.le_of_eq rfl) (hb hby at_547) (fun _ _ => ⟨rfl, e274, (by decide : 4 + 2 ≤ _), (by decide : 33 + 40 ≤ _)⟩)
          dsimp only [Pt.U, Pt.locs, Pt.cells, Pt.slots] at X275 hS275 gg275 l275 y275 z275 st275 hQ275 CRn275
          subst y275 z275
          obtain ⟨X275, hS, hZ, hown⟩ := rebS hS (by rw [e274]; exact hk) X275 hS275 gg275 hZ hown
          obtain ⟨rfl, N275q, K275q⟩ := hQ275
          have N275 : Fr n0 L275 := by rw [l275]; exact Fr.app N265 N275q
          have f276 := f268.keep K275q
          have f277 := f269.keep K275q nin0
          have f278 := f270.keep K275q
          have f279 := f271.keep K275q nin0
          have f280 := CRn275.safe E265q.lt f272
          have f281 := E265q.keep K275q
          have f282 := Q265.keep K275q nin0 apart0
          have K275 : Keep h0 T275.heap [] := K265.trans K275q all0
          have O275 := O265.keep K275q all0
          have hk : T275.heap.size ≤ T275.heap.size := Nat.le_refl _
          have CR := CR.trans CRn275
          refine stt st275 ?_
          show Go p e below T275 (mkF m 550 #[.val (.int p0), .val (.int p1), .val (.int p2), .val (.int p3), .val (.int cc), .val (.ref b1), .val (.int (p1 &&& (7 : Int32))), .val (.ref b256), .val (.int (0 : Int32)), .val (.ref error_), .val (.ref b192)] [(.ref error_)]) _
          refine stp (fun _ => XS.aload X275.here hx rfl (hb hby at_550) rfl rfl) ?_
          show Go p e below T275 (mkF m 552 #[.val (.int p0), .val (.int p1), .val (.int p2), .val (.int p3), .val (.int cc), .val (.ref b1), .val (.int (p1 &&& (7 : Int32))), .val (.ref b256), .val (.int (0 : Int32)), .val (.ref error_), .val (.ref b192)] [(.ref error_), (.ref error_)]) _
          refine stp (fun _ => Jvm.RoadKit.acmp (g := (mkF m 552 #[.val (.int p0), .val (.int p1), .val (.int p2), .val (.int p3), .val (.int cc), .val (.ref b1), .val (.int (p1 &&& (7 : Int32))), .val (.ref b256), .val (.int (0 : Int32)), .val (.ref error_), .val (.ref b192)] [(.ref error_), (.ref error_)])) X275 hx rfl rfl rfl (pc0 := 552) (pc' := 555) (same := true) rfl (hb hby at_552) rfl (decide_eq_true rfl) (by decide) (by decide)) ?_
          show Go p e below T275 (mkF m 555 #[.val (.int p0), .val (.int p1), .val (.int p2), .val (.int p3), .val (.int cc), .val (.ref b1), .val (.int (p1 &&& (7 : Int32))), .val (.ref b256), .val (.int (0 : Int32)), .val (.ref error_), .val (.ref b192)] []) _
          refine stp (fun _ => XS.iconst X275.here hx rfl (hb hby at_555)) ?_
          show Go p e below T275 (mkF m 556 #[.val (.int p0), .val (.int p1), .val (.int p2), .val (.int p3), .val (.int cc), .val (.ref b1), .val (.int (p1 &&& (7 : Int32))), .val (.ref b256), .val (.int (0 : Int32)), .val (.ref error_), .val (.ref b192)] [(.int (1 : Int32))]) _
          refine stp (fun _ => XS.goto X275.here hx rfl (pc0 := 556) (pc' := 560) rfl (hb hby at_556) (by decide) (by decide)) ?_
          show Go p e below T275 (mkF m 560 #[.val (.int p0), .val (.int p1), .val (.int p2), .val (.int p3), .val (.int cc), .val (.ref b1), .val (.int (p1 &&& (7 : Int32))), .val (.ref b256), .val (.int (0 : Int32)), .val (.ref error_), .val (.ref b192)] [(.int (1 : Int32))]) _
          refine outNW X275 hx hZ hEL rfl hS hk CR (t := .boolean) hret (by simp) (hb hby at_560) hlk (by decide) (by decide) ?_
          exact ⟨rfl, N275⟩
        · refine stp (fun _ => XS.icmpNo X265.here hx rfl (hb hby at_510) rfl (XT.ii_lt_f q510_273)) ?_
          show Go p e below T265 (mkF m 513 #[.val (.int p0), .val (.int p1), .val (.int p2), .val (.int p3), .val (.int cc), .val (.ref b1), .val (.int (p1 &&& (7 : Int32))), .val (.ref b256), .val (.int (0 : Int32)), .val (.int pi), .val (.ref b192)] []) _
          refine stp (fun _ => XS.iloadN X265.here hx rfl (hb hby at_513) rfl) ?_
          show Go p e below T265 (mkF m 514 #[.val (.int p0), .val (.int p1), .val (.int p2), .val (.int p3), .val (.int cc), .val (.ref b1), .val (.int (p1 &&& (7 : Int32))), .val (.ref b256), .val (.int (0 : Int32)), .val (.int pi), .val (.ref b192)] [(.int p0)]) _
          refine stp (fun _ => XS.sipush X265.here hx rfl (hb hby at_514)) ?_
          show Go p e below T265 (mkF m 517 #[.val (.int p0), .val (.int p1), .val (.int p2), .val (.int p3), .val (.int cc), .val (.ref b1), .val (.int (p1 &&& (7 : Int32))), .val (.ref b256), .val (.int (0 : Int32)), .val (.int pi), .val (.ref b192)] [(.int (299 : Int32)), (.int p0)]) _
          by_cases q517_283 : (299 : Int32) < p0
          · refine stp (fun _ => XS.icmpYes X265.here hx rfl (pc0 := 517) (pc' := 539) rfl (hb hby at_517) rfl (XT.ii_gt_t q517_283) (by decide) (by decide)) ?_
            show Go p e below T265 (mkF m 539 #[.val (.int p0), .val (.int p1), .val (.int p2), .val (.int p3), .val (.int cc), .val (.ref b1), .val (.int (p1 &&& (7 : Int32))), .val (.ref b256), .val (.int (0 : Int32)), .val (.int pi), .val (.ref b192)] []) _
            obtain ⟨T284, X284, e284, st284⟩ := getS2 X265 hx hZ hown (host := "") (Or.inl (hw _ (List.mem_of_getElem? (i := 35) rfl))) Via.refl rfl (S_ERROR.ext O265.2) (g := (mkF m 539 #[.val (.int p0), .val (.int p1), .val (.int p2), .val (.int p3), .val (.int cc), .val (.ref b1), .val (.int (p1 &&& (7 : Int32))), .val (.ref b256), .val (.int (0 : Int32)), .val (.int pi), .val (.ref b192)] [])) rfl (hb hby at_539)
            refine stp st284 ?_
            show Go p e below T284 (mkF m 542 #[.val (.int p0), .val (.int p1), .val (.int p2), .val (.int p3), .val (.int cc), .val (.ref b1), .val (.int (p1 &&& (7 : Int32))), .val (.ref b256), .val (.int (0 : Int32)), .val (.int pi), .val (.ref b192)] [(.ref error_)]) _
            refine stp (fun _ => XS.astore X284.here hx rfl (hb hby at_542) rfl rfl (l' := #[.val (.int p0), .val (.int p1), .val (.int p2), .val (.int p3), .val (.int cc), .val (.ref b1), .val (.int (p1 &&& (7 : Int32))), .val (.ref b256), .val (.int (0 : Int32)), .val (.ref error_), .val (.ref b192)]) rfl) ?_
            show Go p e below T284 (mkF m 544 #[.val (.int p0), .val (.int p1), .val (.int p2), .val (.int p3), .val (.int cc), .val (.ref b1), .val (.int (p1 &&& (7 : Int32))), .val (.ref b256), .val (.int (0 : Int32)), .val (.ref error_), .val (.ref b192)] []) _
            refine stp (fun _ => XS.iloadN X284.here hx rfl (hb hby at_544) rfl) ?_
            show Go p e below T284 (mkF m 545 #[.val (.int p0), .val (.int p1), .val (.int p2), .val (.int p3), .val (.int cc), .val (.ref b1), .val (.int (p1 &&& (7 : Int32))), .val (.ref b256), .val (.int (0 : Int32)), .val (.ref error_), .val (.ref b192)] [(.int p0)]) _
            refine stp (fun _ => XS.aload X284.here hx rfl (hb hby at_545) rfl rfl) ?_
            show Go p e below T284 (mkF m 547 #[.val (.int p0), .val (.int p1), .val (.int p2), .val (.int p3), .val (.int cc), .val (.ref b1), .val (.int (p1 &&& (7 : Int32))), .val (.ref b256), .val (.int (0 : Int32)), .val (.ref error_), .val (.ref b192)] [(.ref b256), (.int p0)]) _
            obtain ⟨_, _, ⟨T285, L285, k285, n285⟩, -, X285, hS285, gg285, ⟨Lc285, hQ285, l285, y285, z285, CRn285⟩, st285⟩ := callSS X284 hx (y := (⟨"com/example/fetch_to_rank/fetchtorank/crawl/Outcome", "of", "(ILjava/lang/String;)Lcom/example/fetch_to_rank/fetchtorank/crawl/Outcome;"⟩ : MethodName)) hown (mvT hZ (hw _ (List.mem_of_getElem? (i := 38) rfl))) (mvT hZ (hw _ (List.mem_of_getElem? (i := 39) rfl))) (mvT hZ (hw _ (List.mem_of_getElem? (i := 36) rfl))) (mvT hZ (hw _ (List.mem_of_getElem? (i := 40) rfl))) (by decide) (backOfSH (W := 0) (rm_of l Z a0 hw [] p0 b256 ([(own_ins pi cc (0 : Int32)), (own_ins pi cc (1 : Int32)), (own_ins pi cc (2 : Int32)), (own_ins pi cc (3 : Int32)), (own_ins pi cc (4 : Int32)), (own_ins pi cc (5 : Int32)), (own_ins pi cc (6 : Int32)), (own_ins pi cc (7 : Int32)), (own_ins pi cc (8 : Int32)), (own_ins pi cc (9 : Int32))] : List Int32) error_ page skipped error_ cz T265.heap n0 O265 hEL Q265 S_ERROR S_PAGE S_SKIPPED S_CS hcz ⟨fun _ => rfl, fun _ => rfl, fun _ h => absurd q517_283 h, fun _ h => absurd q517_283 h⟩) hZ (hw _ (List.mem_of_getElem? (i := 40) rfl)) (hw _ (List.mem_of_getElem? (i := 36) rfl)) (by decide) (by decide) hEL CR.1) (g := (mkF m 547 #[.val (.int p0), .val (.int p1), .val (.int p2), .val (.int p3), .val (.int cc), .val (.ref b1), .val (.int (p1 &&& (7 : Int32))), .val (.ref b256), .val (.int (0 : Int32)), .val (.ref error_), .val (.ref b192)] [(.ref b256), (.int p0)])) rfl (by rw [hml]; rfl) (argsL := [(.int p0), (.ref b256)]) (rest := []) (lenOf pd_6 rfl) rfl (by show 2 * 0 + _ ≤ _; exact Nat.le_of_eq rfl) (hb hby at_547) (fun _ _ => ⟨rfl, e284, (by decide : 4 + 2 ≤ _), (by decide : 33 + 40 ≤ _)⟩)
            dsimp only [Pt.U, Pt.locs, Pt.cells, Pt.slots] at X285 hS285 gg285 l285 y285 z285 st285 hQ285 CRn285
            subst y285 z285
            obtain ⟨X285, hS, hZ, hown⟩ := rebS hS (by rw [e284]; exact hk) X285 hS285 gg285 hZ hown
            obtain ⟨rfl, N285q, K285q⟩ := hQ285
            have N285 : Fr n0 L285 := by rw [l285]; exact Fr.app N265 N285q
            have f286 := f268.keep K285q
            have f287 := f269.keep K285q nin0
            have f288 := f270.keep K285q
            have f289 := f271.keep K285q nin0
            have f290 := CRn285.safe E265q.lt f272
            have f291 := E265q.keep K285q
            have f292 := Q265.keep K285q nin0 apart0
            have K285 : Keep h0 T285.heap [] := K265.trans K285q all0
            have O285 := O265.keep K285q all0
            have hk : T285.heap.size ≤ T285.heap.size := Nat.le_refl _
            have CR := CR.trans CRn285
            refine stt st285 ?_
            show Go p e below T285 (mkF m 550 #[.val (.int p0), .val (.int p1), .val (.int p2), .val (.int p3), .val (.int cc), .val (.ref b1), .val (.int (p1 &&& (7 : Int32))), .val (.ref b256), .val (.int (0 : Int32)), .val (.ref error_), .val (.ref b192)] [(.ref error_)]) _
            refine stp (fun _ => XS.aload X285.here hx rfl (hb hby at_550) rfl rfl) ?_
            show Go p e below T285 (mkF m 552 #[.val (.int p0), .val (.int p1), .val (.int p2), .val (.int p3), .val (.int cc), .val (.ref b1), .val (.int (p1 &&& (7 : Int32))), .val (.ref b256), .val (.int (0 : Int32)), .val (.ref error_), .val (.ref b192)] [(.ref error_), (.ref error_)]) _
            refine stp (fun _ => Jvm.RoadKit.acmp (g := (mkF m 552 #[.val (.int p0), .val (.int p1), .val (.int p2), .val (.int p3), .val (.int cc), .val (.ref b1), .val (.int (p1 &&& (7 : Int32))), .val (.ref b256), .val (.int (0 : Int32)), .val (.ref error_), .val (.ref b192)] [(.ref error_), (.ref error_)])) X285 hx rfl rfl rfl (pc0 := 552) (pc' := 555) (same := true) rfl (hb hby at_552) rfl (decide_eq_true rfl) (by decide) (by decide)) ?_
            show Go p e below T285 (mkF m 555 #[.val (.int p0), .val (.int p1), .val (.int p2), .val (.int p3), .val (.int cc), .val (.ref b1), .val (.int (p1 &&& (7 : Int32))), .val (.ref b256), .val (.int (0 : Int32)), .val (.ref error_), .val (.ref b192)] []) _
            refine stp (fun _ => XS.iconst X285.here hx rfl (hb hby at_555)) ?_
            show Go p e below T285 (mkF m 556 #[.val (.int p0), .val (.int p1), .val (.int p2), .val (.int p3), .val (.int cc), .val (.ref b1), .val (.int (p1 &&& (7 : Int32))), .val (.ref b256), .val (.int (0 : Int32)), .val (.ref error_), .val (.ref b192)] [(.int (1 : Int32))]) _
            refine stp (fun _ => XS.goto X285.here hx rfl (pc0 := 556) (pc' := 560) rfl (hb hby at_556) (by decide) (by decide)) ?_
            show Go p e below T285 (mkF m 560 #[.val (.int p0), .val (.int p1), .val (.int p2), .val (.int p3), .val (.int cc), .val (.ref b1), .val (.int (p1 &&& (7 : Int32))), .val (.ref b256), .val (.int (0 : Int32)), .val (.ref error_), .val (.ref b192)] [(.int (1 : Int32))]) _
            refine outNW X285 hx hZ hEL rfl hS hk CR (t := .boolean) hret (by simp) (hb hby at_560) hlk (by decide) (by decide) ?_
            exact ⟨rfl, N285⟩
          · refine stp (fun _ => XS.icmpNo X265.here hx rfl (hb hby at_517) rfl (XT.ii_gt_f q517_283)) ?_
            show Go p e below T265 (mkF m 520 #[.val (.int p0), .val (.int p1), .val (.int p2), .val (.int p3), .val (.int cc), .val (.ref b1), .val (.int (p1 &&& (7 : Int32))), .val (.ref b256), .val (.int (0 : Int32)), .val (.int pi), .val (.ref b192)] []) _
            refine stp (fun _ => XS.iload X265.here hx rfl (hb hby at_520) rfl) ?_
            show Go p e below T265 (mkF m 522 #[.val (.int p0), .val (.int p1), .val (.int p2), .val (.int p3), .val (.int cc), .val (.ref b1), .val (.int (p1 &&& (7 : Int32))), .val (.ref b256), .val (.int (0 : Int32)), .val (.int pi), .val (.ref b192)] [(.int (0 : Int32))]) _
            refine stp (fun _ => XS.ifYes X265.here hx rfl (pc0 := 522) (pc' := 531) rfl (hb hby at_522) rfl (by decide) (by decide) (by decide)) ?_
            show Go p e below T265 (mkF m 531 #[.val (.int p0), .val (.int p1), .val (.int p2), .val (.int p3), .val (.int cc), .val (.ref b1), .val (.int (p1 &&& (7 : Int32))), .val (.ref b256), .val (.int (0 : Int32)), .val (.int pi), .val (.ref b192)] []) _
            obtain ⟨T293, X293, e293, st293⟩ := getS2 X265 hx hZ hown (host := "") (Or.inl (hw _ (List.mem_of_getElem? (i := 74) rfl))) Via.refl rfl (S_SKIPPED.ext O265.2) (g := (mkF m 531 #[.val (.int p0), .val (.int p1), .val (.int p2), .val (.int p3), .val (.int cc), .val (.ref b1), .val (.int (p1 &&& (7 : Int32))), .val (.ref b256), .val (.int (0 : Int32)), .val (.int pi), .val (.ref b192)] [])) rfl (hb hby at_531)
            refine stp st293 ?_
            show Go p e below T293 (mkF m 534 #[.val (.int p0), .val (.int p1), .val (.int p2), .val (.int p3), .val (.int cc), .val (.ref b1), .val (.int (p1 &&& (7 : Int32))), .val (.ref b256), .val (.int (0 : Int32)), .val (.int pi), .val (.ref b192)] [(.ref skipped)]) _
            refine stp (fun _ => XS.astore X293.here hx rfl (hb hby at_534) rfl rfl (l' := #[.val (.int p0), .val (.int p1), .val (.int p2), .val (.int p3), .val (.int cc), .val (.ref b1), .val (.int (p1 &&& (7 : Int32))), .val (.ref b256), .val (.int (0 : Int32)), .val (.ref skipped), .val (.ref b192)]) rfl) ?_
            show Go p e below T293 (mkF m 536 #[.val (.int p0), .val (.int p1), .val (.int p2), .val (.int p3), .val (.int cc), .val (.ref b1), .val (.int (p1 &&& (7 : Int32))), .val (.ref b256), .val (.int (0 : Int32)), .val (.ref skipped), .val (.ref b192)] []) _
            refine stp (fun _ => XS.goto X293.here hx rfl (pc0 := 536) (pc' := 544) rfl (hb hby at_536) (by decide) (by decide)) ?_
            show Go p e below T293 (mkF m 544 #[.val (.int p0), .val (.int p1), .val (.int p2), .val (.int p3), .val (.int cc), .val (.ref b1), .val (.int (p1 &&& (7 : Int32))), .val (.ref b256), .val (.int (0 : Int32)), .val (.ref skipped), .val (.ref b192)] []) _
            refine stp (fun _ => XS.iloadN X293.here hx rfl (hb hby at_544) rfl) ?_
            show Go p e below T293 (mkF m 545 #[.val (.int p0), .val (.int p1), .val (.int p2), .val (.int p3), .val (.int cc), .val (.ref b1), .val (.int (p1 &&& (7 : Int32))), .val (.ref b256), .val (.int (0 : Int32)), .val (.ref skipped), .val (.ref b192)] [(.int p0)]) _
            refine stp (fun _ => XS.aload X293.here hx rfl (hb hby at_545) rfl rfl) ?_
            show Go p e below T293 (mkF m 547 #[.val (.int p0), .val (.int p1), .val (.int p2), .val (.int p3), .val (.int cc), .val (.ref b1), .val (.int (p1 &&& (7 : Int32))), .val (.ref b256), .val (.int (0 : Int32)), .val (.ref skipped), .val (.ref b192)] [(.ref b256), (.int p0)]) _
            obtain ⟨_, _, ⟨T294, L294, k294, n294⟩, -, X294, hS294, gg294, ⟨Lc294, hQ294, l294, y294, z294, CRn294⟩, st294⟩ := callSS X293 hx (y := (⟨"com/example/fetch_to_rank/fetchtorank/crawl/Outcome", "of", "(ILjava/lang/String;)Lcom/example/fetch_to_rank/fetchtorank/crawl/Outcome;"⟩ : MethodName)) hown (mvT hZ (hw _ (List.mem_of_getElem? (i := 38) rfl))) (mvT hZ (hw _ (List.mem_of_getElem? (i := 39) rfl))) (mvT hZ (hw _ (List.mem_of_getElem? (i := 36) rfl))) (mvT hZ (hw _ (List.mem_of_getElem? (i := 40) rfl))) (by decide) (backOfSH (W := 0) (rm_of l Z a0 hw [] p0 b256 ([(own_ins pi cc (0 : Int32)), (own_ins pi cc (1 : Int32)), (own_ins pi cc (2 : Int32)), (own_ins pi cc (3 : Int32)), (own_ins pi cc (4 : Int32)), (own_ins pi cc (5 : Int32)), (own_ins pi cc (6 : Int32)), (own_ins pi cc (7 : Int32)), (own_ins pi cc (8 : Int32)), (own_ins pi cc (9 : Int32))] : List Int32) error_ page skipped skipped cz T265.heap n0 O265 hEL Q265 S_ERROR S_PAGE S_SKIPPED S_CS hcz ⟨fun h => absurd h q510_273, fun h => absurd h q517_283, fun _ _ h => absurd h (own_neq (show (9 : Nat) ≠ 10 by decide)), fun _ _ _ => rfl⟩) hZ (hw _ (List.mem_of_getElem? (i := 40) rfl)) (hw _ (List.mem_of_getElem? (i := 36) rfl)) (by decide) (by decide) hEL CR.1) (g := (mkF m 547 #[.val (.int p0), .val (.int p1), .val (.int p2), .val (.int p3), .val (.int cc), .val (.ref b1), .val (.int (p1 &&& (7 : Int32))), .val (.ref b256), .val (.int (0 : Int32)), .val (.ref skipped), .val (.ref b192)] [(.ref b256), (.int p0)])) rfl (by rw [hml]; rfl) (argsL := [(.int p0), (.ref b256)]) (rest := []) (lenOf pd_6 rfl) rfl (by show 2 * 0 + _ ≤ _; exact Nat.le_of_eq rfl) (hb hby at_547) (fun _ _ => ⟨rfl, e293, (by decide : 4 + 2 ≤ _), (by decide : 33 + 40 ≤ _)⟩)
            dsimp only [Pt.U, Pt.locs, Pt.cells, Pt.slots] at X294 hS294 gg294 l294 y294 z294 st294 hQ294 CRn294
            subst y294 z294
            obtain ⟨X294, hS, hZ, hown⟩ := rebS hS (by rw [e293]; exact hk) X294 hS294 gg294 hZ hown
            obtain ⟨rfl, N294q, K294q⟩ := hQ294
            have N294 : Fr n0 L294 := by rw [l294]; exact Fr.app N265 N294q
            have f295 := f268.keep K294q
            have f296 := f269.keep K294q nin0
            have f297 := f270.keep K294q
            have f298 := f271.keep K294q nin0
            have f299 := CRn294.safe E265q.lt f272
            have f300 := E265q.keep K294q
            have f301 := Q265.keep K294q nin0 apart0
            have K294 : Keep h0 T294.heap [] := K265.trans K294q all0
            have O294 := O265.keep K294q all0
            have hk : T294.heap.size ≤ T294.heap.size := Nat.le_refl _
            have CR := CR.trans CRn294
            refine stt st294 ?_
            show Go p e below T294 (mkF m 550 #[.val (.int p0), .val (.int p1), .val (.int p2), .val (.int p3), .val (.int cc), .val (.ref b1), .val (.int (p1 &&& (7 : Int32))), .val (.ref b256), .val (.int (0 : Int32)), .val (.ref skipped), .val (.ref b192)] [(.ref skipped)]) _
            refine stp (fun _ => XS.aload X294.here hx rfl (hb hby at_550) rfl rfl) ?_
            show Go p e below T294 (mkF m 552 #[.val (.int p0), .val (.int p1), .val (.int p2), .val (.int p3), .val (.int cc), .val (.ref b1), .val (.int (p1 &&& (7 : Int32))), .val (.ref b256), .val (.int (0 : Int32)), .val (.ref skipped), .val (.ref b192)] [(.ref skipped), (.ref skipped)]) _
            refine stp (fun _ => Jvm.RoadKit.acmp (g := (mkF m 552 #[.val (.int p0), .val (.int p1), .val (.int p2), .val (.int p3), .val (.int cc), .val (.ref b1), .val (.int (p1 &&& (7 : Int32))), .val (.ref b256), .val (.int (0 : Int32)), .val (.ref skipped), .val (.ref b192)] [(.ref skipped), (.ref skipped)])) X294 hx rfl rfl rfl (pc0 := 552) (pc' := 555) (same := true) rfl (hb hby at_552) rfl (decide_eq_true rfl) (by decide) (by decide)) ?_
            show Go p e below T294 (mkF m 555 #[.val (.int p0), .val (.int p1), .val (.int p2), .val (.int p3), .val (.int cc), .val (.ref b1), .val (.int (p1 &&& (7 : Int32))), .val (.ref b256), .val (.int (0 : Int32)), .val (.ref skipped), .val (.ref b192)] []) _
            refine stp (fun _ => XS.iconst X294.here hx rfl (hb hby at_555)) ?_
            show Go p e below T294 (mkF m 556 #[.val (.int p0), .val (.int p1), .val (.int p2), .val (.int p3), .val (.int cc), .val (.ref b1), .val (.int (p1 &&& (7 : Int32))), .val (.ref b256), .val (.int (0 : Int32)), .val (.ref skipped), .val (.ref b192)] [(.int (1 : Int32))]) _
            refine stp (fun _ => XS.goto X294.here hx rfl (pc0 := 556) (pc' := 560) rfl (hb hby at_556) (by decide) (by decide)) ?_
            show Go p e below T294 (mkF m 560 #[.val (.int p0), .val (.int p1), .val (.int p2), .val (.int p3), .val (.int cc), .val (.ref b1), .val (.int (p1 &&& (7 : Int32))), .val (.ref b256), .val (.int (0 : Int32)), .val (.ref skipped), .val (.ref b192)] [(.int (1 : Int32))]) _
            refine outNW X294 hx hZ hEL rfl hS hk CR (t := .boolean) hret (by simp) (hb hby at_560) hlk (by decide) (by decide) ?_
            exact ⟨rfl, N294⟩
      · refine stp (fun _ => XS.icmpYes X26.here hx rfl (pc0 := 266) (pc' := 449) rfl (hb hby at_266) rfl (XT.ii_ne_t q266_191) (by decide) (by decide)) ?_
        show Go p e below T26 (mkF m 449 #[.val (.int p0), .val (.int p1), .val (.int p2), .val (.int p3), .val (.int cc), .val (.ref b1), .val (.int (p1 &&& (7 : Int32))), .unset, .unset, .unset, .unset] []) _
        refine stp (fun _ => XS.iload X26.here hx rfl (hb hby at_449) rfl) ?_
        show Go p e below T26 (mkF m 451 #[.val (.int p0), .val (.int p1), .val (.int p2), .val (.int p3), .val (.int cc), .val (.ref b1), .val (.int (p1 &&& (7 : Int32))), .unset, .unset, .unset, .unset] [(.int (p1 &&& (7 : Int32)))]) _
        refine stp (fun _ => XS.iconst X26.here hx rfl (hb hby at_451)) ?_
        show Go p e below T26 (mkF m 452 #[.val (.int p0), .val (.int p1), .val (.int p2), .val (.int p3), .val (.int cc), .val (.ref b1), .val (.int (p1 &&& (7 : Int32))), .unset, .unset, .unset, .unset] [(.int (4 : Int32)), (.int (p1 &&& (7 : Int32)))]) _
        by_cases q452_302 : (p1 &&& (7 : Int32)) = (4 : Int32)
        · refine stp (fun _ => XS.icmpNo X26.here hx rfl (hb hby at_452) rfl (XT.ii_ne_f q452_302)) ?_
          show Go p e below T26 (mkF m 455 #[.val (.int p0), .val (.int p1), .val (.int p2), .val (.int p3), .val (.int cc), .val (.ref b1), .val (.int (p1 &&& (7 : Int32))), .unset, .unset, .unset, .unset] []) _
          obtain ⟨T303, h303, X303, e303, E303, A303, D303, -, st303⟩ := newO X26 hx hZ hown (hw _ (List.mem_of_getElem? (i := 6) rfl)) (hw _ (List.mem_of_getElem? (i := 7) rfl)) (hw _ (List.mem_of_getElem? (i := 8) rfl)) e26 (g := (mkF m 455 #[.val (.int p0), .val (.int p1), .val (.int p2), .val (.int p3), .val (.int cc), .val (.ref b1), .val (.int (p1 &&& (7 : Int32))), .unset, .unset, .unset, .unset] [])) rfl (hb hby at_455) (by decide) (by decide)
          obtain ⟨b303, g303⟩ : ∃ z, z = h26.size := ⟨_, rfl⟩
          rw [← g303] at A303 D303 st303
          have ne304 : b1 ≠ b303 := Nat.ne_of_lt (Nat.lt_of_lt_of_le f27.lt (Nat.le_of_eq g303.symm))
          have sz_b303 : h0.size ≤ b303 := Nat.le_trans K26.1 (Nat.le_of_eq g303.symm)
          have ge_b303 : n0 ≤ b303 := Nat.le_trans (old_le O26) (Nat.le_of_eq g303.symm)
          have f305 := f27.ext E303
          have f306 := V26.ext E303
          have Sf303 := (Safe.new (Z := Z) (EL := consts_1) (Nat.le_of_eq g303.symm)).ext E303 CR.1
          have hk := Nat.le_trans hk E303.1
          have CR := CR.trans (CHr.ext E303 CR.1)
          have K303 : Keep h0 h303 [] := K26.ext E303
          have O303 := O26.ext E303
          have F307 : Fld Z h303 b303 "java/lang/String" "coder" "B" (.int (0 : Int32)) := D303 (Or.inr (hw _ (List.mem_of_getElem? (i := 32) rfl))) (ty := .byte) (by decide)
          have F308 : Fld Z h303 b303 "java/lang/String" "value" "[B" .null := D303 (Or.inr (hw _ (List.mem_of_getElem? (i := 34) rfl))) (ty := (.array .byte)) (by decide)
          refine stp st303 ?_
          show Go p e below T303 (mkF m 458 #[.val (.int p0), .val (.int p1), .val (.int p2), .val (.int p3), .val (.int cc), .val (.ref b1), .val (.int (p1 &&& (7 : Int32))), .unset, .unset, .unset, .unset] [(.ref b303)]) _
          refine stp (fun _ => XS.dup X303.here hx rfl (hb hby at_458) rfl rfl) ?_
          show Go p e below T303 (mkF m 459 #[.val (.int p0), .val (.int p1), .val (.int p2), .val (.int p3), .val (.int cc), .val (.ref b1), .val (.int (p1 &&& (7 : Int32))), .unset, .unset, .unset, .unset] [(.ref b303), (.ref b303)]) _
          refine stp (fun _ => XS.iconst X303.here hx rfl (hb hby at_459)) ?_
          show Go p e below T303 (mkF m 460 #[.val (.int p0), .val (.int p1), .val (.int p2), .val (.int p3), .val (.int cc), .val (.ref b1), .val (.int (p1 &&& (7 : Int32))), .unset, .unset, .unset, .unset] [(.int (0 : Int32)), (.ref b303), (.ref b303)]) _
          obtain ⟨T309, h309, k309, X309, e309, E309, A309, B309, st309⟩ := newPE X303 hx hZ (hw _ (List.mem_of_getElem? (i := 0) rfl)) e303 (g := (mkF m 460 #[.val (.int p0), .val (.int p1), .val (.int p2), .val (.int p3), .val (.int cc), .val (.ref b1), .val (.int (p1 &&& (7 : Int32))), .unset, .unset, .unset, .unset] [(.int (0 : Int32)), (.ref b303), (.ref b303)])) rfl (hb hby at_460) rfl (by decide) (cap := 0) (by decide) (by decide) (by decide) (by decide) (ad := "[C") (by decide)
          obtain ⟨b309, g309⟩ : ∃ z, z = h303.size := ⟨_, rfl⟩
          rw [← g309] at A309 B309 st309
          have ne310 : b1 ≠ b309 := Nat.ne_of_lt (Nat.lt_of_lt_of_le f305.lt (Nat.le_of_eq g309.symm))
          have ne311 : b303 ≠ b309 := Nat.ne_of_lt (Nat.lt_of_lt_of_le A303.lt (Nat.le_of_eq g309.symm))
          have sz_b309 : h0.size ≤ b309 := Nat.le_trans K303.1 (Nat.le_of_eq g309.symm)
          have ge_b309 : n0 ≤ b309 := Nat.le_trans (old_le O303) (Nat.le_of_eq g309.symm)
          have f312 := f305.ext E309
          have f313 := f306.ext E309
          have f314 := Sf303.ext E309 CR.1
          have f315 := A303.ext E309
          have f316 := F307.ext E309
          have f317 := F308.ext E309
          have hk := Nat.le_trans hk E309.1
          have CR := CR.trans (CHr.ext E309 CR.1)
          have K309 : Keep h0 h309 [] := K303.ext E309
          have O309 := O303.ext E309
          have V309 : Arv Z h309 b309 k309 .char (0 : Int32) [] (.int (0 : Int32)) := (Arv.new A309 (by decide)).pad (pad_rep [] (.int (0 : Int32)) 0)
          refine stp st309 ?_
          show Go p e below T309 (mkF m 462 #[.val (.int p0), .val (.int p1), .val (.int p2), .val (.int p3), .val (.int cc), .val (.ref b1), .val (.int (p1 &&& (7 : Int32))), .unset, .unset, .unset, .unset] [(.ref b309), (.ref b303), (.ref b303)]) _
          obtain ⟨_, _, ⟨T318, L318, k318, n318⟩, -, X318, hS318, gg318, ⟨Lc318, hQ318, l318, y318, z318, CRn318⟩, st318⟩ := X309.specialBackS hx (y := (⟨"java/lang/String", "<init>", "([C)V"⟩ : MethodName)) rfl hown (mvT hZ (hw _ (List.mem_of_getElem? (i := 9) rfl))) (mvT hZ (hw _ (List.mem_of_getElem? (i := 10) rfl))) (mvT hZ (hw _ (List.mem_of_getElem? (i := 11) rfl))) (by decide) (backOfSH (W := 1) (rm_s0 l Z a0 hw [] b303 b309 k309 h309 n0 O309 hEL f315 f317 f316 V309 ge_b303 (Ne.symm ne311)) hZ (hw _ (List.mem_of_getElem? (i := 11) rfl)) (hw _ (List.mem_of_getElem? (i := 8) rfl)) (by decide) (by decide) hEL CR.1) (g := (mkF m 462 #[.val (.int p0), .val (.int p1), .val (.int p2), .val (.int p3), .val (.int cc), .val (.ref b1), .val (.int (p1 &&& (7 : Int32))), .unset, .unset, .unset, .unset] [(.ref b309), (.ref b303), (.ref b303)])) rfl (by rw [hml]; rfl) (Steps.refl _) (a := b303) (argsL := [(.ref b309)]) (rest := [(.ref b303)]) (lenOf pd_5 rfl) rfl (by show 2 * 0 + _ ≤ _; exact Nat.le_of_eq rfl) (hb hby at_462) (fun _ _ => ⟨rfl, e309, (by decide : 3 + 2 ≤ _), (by decide : 13 + 4 ≤ _)⟩)
          dsimp only [Pt.U, Pt.locs, Pt.cells, Pt.slots] at X318 hS318 gg318 l318 y318 z318 st318 hQ318 CRn318
          subst y318 z318
          obtain ⟨X318, hS, hZ, hown⟩ := rebS hS (by rw [e309]; exact hk) X318 hS318 gg318 hZ hown
          obtain ⟨rfl, N318q, K318q, r318_0⟩ := hQ318
          have N318 : Fr n0 L318 := by rw [l318]; exact Fr.app N26 N318q
          have f319 := f312.keep K318q
          have f320 := f313.keep K318q (ninS ne304 nin0)
          have f321 := CRn318.safe f317.lt f314
          have f322 := f315.keep K318q
          have f323 := B309.keep K318q
          have f324 := V309.keep K318q (ninS (Ne.symm ne311) nin0)
          have K318 : Keep h0 T318.heap [] := K309.trans K318q (allS (Or.inr sz_b303) all0)
          have O318 := O309.keep K318q (allS ge_b303 all0)
          have hk : T318.heap.size ≤ T318.heap.size := Nat.le_refl _
          have CR := CR.trans CRn318
          refine stt st318 ?_
          show Go p e below T318 (mkF m 465 #[.val (.int p0), .val (.int p1), .val (.int p2), .val (.int p3), .val (.int cc), .val (.ref b1), .val (.int (p1 &&& (7 : Int32))), .unset, .unset, .unset, .unset] [(.ref b303)]) _
          refine stp (fun _ => XS.astore X318.here hx rfl (hb hby at_465) rfl rfl (l' := #[.val (.int p0), .val (.int p1), .val (.int p2), .val (.int p3), .val (.int cc), .val (.ref b1), .val (.int (p1 &&& (7 : Int32))), .val (.ref b303), .unset, .unset, .unset]) rfl) ?_
          show Go p e below T318 (mkF m 467 #[.val (.int p0), .val (.int p1), .val (.int p2), .val (.int p3), .val (.int cc), .val (.ref b1), .val (.int (p1 &&& (7 : Int32))), .val (.ref b303), .unset, .unset, .unset] []) _
          refine stp (fun _ => XS.iconst X318.here hx rfl (hb hby at_467)) ?_
          show Go p e below T318 (mkF m 468 #[.val (.int p0), .val (.int p1), .val (.int p2), .val (.int p3), .val (.int cc), .val (.ref b1), .val (.int (p1 &&& (7 : Int32))), .val (.ref b303), .unset, .unset, .unset] [(.int (0 : Int32))]) _
          refine stp (fun _ => XS.istore X318.here hx rfl (hb hby at_468) rfl (l' := #[.val (.int p0), .val (.int p1), .val (.int p2), .val (.int p3), .val (.int cc), .val (.ref b1), .val (.int (p1 &&& (7 : Int32))), .val (.ref b303), .val (.int (0 : Int32)), .unset, .unset]) rfl) ?_
          show Go p e below T318 (mkF m 470 #[.val (.int p0), .val (.int p1), .val (.int p2), .val (.int p3), .val (.int cc), .val (.ref b1), .val (.int (p1 &&& (7 : Int32))), .val (.ref b303), .val (.int (0 : Int32)), .unset, .unset] []) _
          refine stp (fun _ => XS.goto X318.here hx rfl (pc0 := 470) (pc' := 506) rfl (hb hby at_470) (by decide) (by decide)) ?_
          show Go p e below T318 (mkF m 506 #[.val (.int p0), .val (.int p1), .val (.int p2), .val (.int p3), .val (.int cc), .val (.ref b1), .val (.int (p1 &&& (7 : Int32))), .val (.ref b303), .val (.int (0 : Int32)), .unset, .unset] []) _
          refine stp (fun _ => XS.iloadN X318.here hx rfl (hb hby at_506) rfl) ?_
          show Go p e below T318 (mkF m 507 #[.val (.int p0), .val (.int p1), .val (.int p2), .val (.int p3), .val (.int cc), .val (.ref b1), .val (.int (p1 &&& (7 : Int32))), .val (.ref b303), .val (.int (0 : Int32)), .unset, .unset] [(.int p0)]) _
          refine stp (fun _ => XS.sipush X318.here hx rfl (hb hby at_507)) ?_
          show Go p e below T318 (mkF m 510 #[.val (.int p0), .val (.int p1), .val (.int p2), .val (.int p3), .val (.int cc), .val (.ref b1), .val (.int (p1 &&& (7 : Int32))), .val (.ref b303), .val (.int (0 : Int32)), .unset, .unset] [(.int (200 : Int32)), (.int p0)]) _
          by_cases q510_325 : p0 < (200 : Int32)
          · refine stp (fun _ => XS.icmpYes X318.here hx rfl (pc0 := 510) (pc' := 539) rfl (hb hby at_510) rfl (XT.ii_lt_t q510_325) (by decide) (by decide)) ?_
            show Go p e below T318 (mkF m 539 #[.val (.int p0), .val (.int p1), .val (.int p2), .val (.int p3), .val (.int cc), .val (.ref b1), .val (.int (p1 &&& (7 : Int32))), .val (.ref b303), .val (.int (0 : Int32)), .unset, .unset] []) _
            obtain ⟨T326, X326, e326, st326⟩ := getS2 X318 hx hZ hown (host := "") (Or.inl (hw _ (List.mem_of_getElem? (i := 35) rfl))) Via.refl rfl (S_ERROR.ext O318.2) (g := (mkF m 539 #[.val (.int p0), .val (.int p1), .val (.int p2), .val (.int p3), .val (.int cc), .val (.ref b1), .val (.int (p1 &&& (7 : Int32))), .val (.ref b303), .val (.int (0 : Int32)), .unset, .unset] [])) rfl (hb hby at_539)
            refine stp st326 ?_
            show Go p e below T326 (mkF m 542 #[.val (.int p0), .val (.int p1), .val (.int p2), .val (.int p3), .val (.int cc), .val (.ref b1), .val (.int (p1 &&& (7 : Int32))), .val (.ref b303), .val (.int (0 : Int32)), .unset, .unset] [(.ref error_)]) _
            refine stp (fun _ => XS.astore X326.here hx rfl (hb hby at_542) rfl rfl (l' := #[.val (.int p0), .val (.int p1), .val (.int p2), .val (.int p3), .val (.int cc), .val (.ref b1), .val (.int (p1 &&& (7 : Int32))), .val (.ref b303), .val (.int (0 : Int32)), .val (.ref error_), .unset]) rfl) ?_
            show Go p e below T326 (mkF m 544 #[.val (.int p0), .val (.int p1), .val (.int p2), .val (.int p3), .val (.int cc), .val (.ref b1), .val (.int (p1 &&& (7 : Int32))), .val (.ref b303), .val (.int (0 : Int32)), .val (.ref error_), .unset] []) _
            refine stp (fun _ => XS.iloadN X326.here hx rfl (hb hby at_544) rfl) ?_
            show Go p e below T326 (mkF m 545 #[.val (.int p0), .val (.int p1), .val (.int p2), .val (.int p3), .val (.int cc), .val (.ref b1), .val (.int (p1 &&& (7 : Int32))), .val (.ref b303), .val (.int (0 : Int32)), .val (.ref error_), .unset] [(.int p0)]) _
            refine stp (fun _ => XS.aload X326.here hx rfl (hb hby at_545) rfl rfl) ?_
            show Go p e below T326 (mkF m 547 #[.val (.int p0), .val (.int p1), .val (.int p2), .val (.int p3), .val (.int cc), .val (.ref b1), .val (.int (p1 &&& (7 : Int32))), .val (.ref b303), .val (.int (0 : Int32)), .val (.ref error_), .unset] [(.ref b303), (.int p0)]) _
            obtain ⟨_, _, ⟨T327, L327, k327, n327⟩, -, X327, hS327, gg327, ⟨Lc327, hQ327, l327, y327, z327, CRn327⟩, st327⟩ := callSS X326 hx (y := (⟨"com/example/fetch_to_rank/fetchtorank/crawl/Outcome", "of", "(ILjava/lang/String;)Lcom/example/fetch_to_rank/fetchtorank/crawl/Outcome;"⟩ : MethodName)) hown (mvT hZ (hw _ (List.mem_of_getElem? (i := 38) rfl))) (mvT hZ (hw _ (List.mem_of_getElem? (i := 39) rfl))) (mvT hZ (hw _ (List.mem_of_getElem? (i := 36) rfl))) (mvT hZ (hw _ (List.mem_of_getElem? (i := 40) rfl))) (by decide) (backOfSH (W := 0) (rm_of l Z a0 hw [] p0 b303 [] error_ page skipped error_ cz T318.heap n0 O318 hEL r318_0 S_ERROR S_PAGE S_SKIPPED S_CS hcz ⟨fun _ => rfl, fun _ => rfl, fun h => absurd q510_325 h, fun h => absurd q510_325 h⟩) hZ (hw _ (List.mem_of_getElem? (i := 40) rfl)) (hw _ (List.mem_of_getElem? (i := 36) rfl)) (by decide) (by decide) hEL CR.1) (g := (mkF m 547 #[.val (.int p0), .val (.int p1), .val (.int p2), .val (.int p3), .val (.int cc), .val (.ref b1), .val (.int (p1 &&& (7 : Int32))), .val (.ref b303), .val (.int (0 : Int32)), .val (.ref error_), .unset] [(.ref b303), (.int p0)])) rfl (by rw [hml]; rfl) (argsL := [(.int p0), (.ref b303)]) (rest := []) (lenOf pd_6 rfl) rfl (by show 2 * 0 + _ ≤ _; exact Nat.le_of_eq rfl) (hb hby at_547) (fun _ _ => ⟨rfl, e326, (by decide : 5 + 2 ≤ _), (by decide : 17 + 40 ≤ _)⟩)
            dsimp only [Pt.U, Pt.locs, Pt.cells, Pt.slots] at X327 hS327 gg327 l327 y327 z327 st327 hQ327 CRn327
            subst y327 z327
            obtain ⟨X327, hS, hZ, hown⟩ := rebS hS (by rw [e326]; exact hk) X327 hS327 gg327 hZ hown
            obtain ⟨rfl, N327q, K327q⟩ := hQ327
            have N327 : Fr n0 L327 := by rw [l327]; exact Fr.app N318 N327q
            have f328 := f319.keep K327q
            have f329 := f320.keep K327q nin0
            have f330 := CRn327.safe r318_0.exa.lt f321
            have f331 := r318_0.exa.keep K327q
            have f332 := f323.keep K327q
            have f333 := f324.keep K327q nin0
            have f334 := r318_0.keep K327q nin0 apart0
            have K327 : Keep h0 T327.heap [] := K318.trans K327q all0
            have O327 := O318.keep K327q all0
            have hk : T327.heap.size ≤ T327.heap.size := Nat.le_refl _
            have CR := CR.trans CRn327
            refine stt st327 ?_
            show Go p e below T327 (mkF m 550 #[.val (.int p0), .val (.int p1), .val (.int p2), .val (.int p3), .val (.int cc), .val (.ref b1), .val (.int (p1 &&& (7 : Int32))), .val (.ref b303), .val (.int (0 : Int32)), .val (.ref error_), .unset] [(.ref error_)]) _
            refine stp (fun _ => XS.aload X327.here hx rfl (hb hby at_550) rfl rfl) ?_
            show Go p e below T327 (mkF m 552 #[.val (.int p0), .val (.int p1), .val (.int p2), .val (.int p3), .val (.int cc), .val (.ref b1), .val (.int (p1 &&& (7 : Int32))), .val (.ref b303), .val (.int (0 : Int32)), .val (.ref error_), .unset] [(.ref error_), (.ref error_)]) _
            refine stp (fun _ => Jvm.RoadKit.acmp (g := (mkF m 552 #[.val (.int p0), .val (.int p1), .val (.int p2), .val (.int p3), .val (.int cc), .val (.ref b1), .val (.int (p1 &&& (7 : Int32))), .val (.ref b303), .val (.int (0 : Int32)), .val (.ref error_), .unset] [(.ref error_), (.ref error_)])) X327 hx rfl rfl rfl (pc0 := 552) (pc' := 555) (same := true) rfl (hb hby at_552) rfl (decide_eq_true rfl) (by decide) (by decide)) ?_
            show Go p e below T327 (mkF m 555 #[.val (.int p0), .val (.int p1), .val (.int p2), .val (.int p3), .val (.int cc), .val (.ref b1), .val (.int (p1 &&& (7 : Int32))), .val (.ref b303), .val (.int (0 : Int32)), .val (.ref error_), .unset] []) _
            refine stp (fun _ => XS.iconst X327.here hx rfl (hb hby at_555)) ?_
            show Go p e below T327 (mkF m 556 #[.val (.int p0), .val (.int p1), .val (.int p2), .val (.int p3), .val (.int cc), .val (.ref b1), .val (.int (p1 &&& (7 : Int32))), .val (.ref b303), .val (.int (0 : Int32)), .val (.ref error_), .unset] [(.int (1 : Int32))]) _
            refine stp (fun _ => XS.goto X327.here hx rfl (pc0 := 556) (pc' := 560) rfl (hb hby at_556) (by decide) (by decide)) ?_
            show Go p e below T327 (mkF m 560 #[.val (.int p0), .val (.int p1), .val (.int p2), .val (.int p3), .val (.int cc), .val (.ref b1), .val (.int (p1 &&& (7 : Int32))), .val (.ref b303), .val (.int (0 : Int32)), .val (.ref error_), .unset] [(.int (1 : Int32))]) _
            refine outNW X327 hx hZ hEL rfl hS hk CR (t := .boolean) hret (by simp) (hb hby at_560) hlk (by decide) (by decide) ?_
            exact ⟨rfl, N327⟩
          · refine stp (fun _ => XS.icmpNo X318.here hx rfl (hb hby at_510) rfl (XT.ii_lt_f q510_325)) ?_
            show Go p e below T318 (mkF m 513 #[.val (.int p0), .val (.int p1), .val (.int p2), .val (.int p3), .val (.int cc), .val (.ref b1), .val (.int (p1 &&& (7 : Int32))), .val (.ref b303), .val (.int (0 : Int32)), .unset, .unset] []) _
            refine stp (fun _ => XS.iloadN X318.here hx rfl (hb hby at_513) rfl) ?_
            show Go p e below T318 (mkF m 514 #[.val (.int p0), .val (.int p1), .val (.int p2), .val (.int p3), .val (.int cc), .val (.ref b1), .val (.int (p1 &&& (7 : Int32))), .val (.ref b303), .val (.int (0 : Int32)), .unset, .unset] [(.int p0)]) _
            refine stp (fun _ => XS.sipush X318.here hx rfl (hb hby at_514)) ?_
            show Go p e below T318 (mkF m 517 #[.val (.int p0), .val (.int p1), .val (.int p2), .val (.int p3), .val (.int cc), .val (.ref b1), .val (.int (p1 &&& (7 : Int32))), .val (.ref b303), .val (.int (0 : Int32)), .unset, .unset] [(.int (299 : Int32)), (.int p0)]) _
            by_cases q517_335 : (299 : Int32) < p0
            · refine stp (fun _ => XS.icmpYes X318.here hx rfl (pc0 := 517) (pc' := 539) rfl (hb hby at_517) rfl (XT.ii_gt_t q517_335) (by decide) (by decide)) ?_
              show Go p e below T318 (mkF m 539 #[.val (.int p0), .val (.int p1), .val (.int p2), .val (.int p3), .val (.int cc), .val (.ref b1), .val (.int (p1 &&& (7 : Int32))), .val (.ref b303), .val (.int (0 : Int32)), .unset, .unset] []) _
              obtain ⟨T336, X336, e336, st336⟩ := getS2 X318 hx hZ hown (host := "") (Or.inl (hw _ (List.mem_of_getElem? (i := 35) rfl))) Via.refl rfl (S_ERROR.ext O318.2) (g := (mkF m 539 #[.val (.int p0), .val (.int p1), .val (.int p2), .val (.int p3), .val (.int cc), .val (.ref b1), .val (.int (p1 &&& (7 : Int32))), .val (.ref b303), .val (.int (0 : Int32)), .unset, .unset] [])) rfl (hb hby at_539)
              refine stp st336 ?_
              show Go p e below T336 (mkF m 542 #[.val (.int p0), .val (.int p1), .val (.int p2), .val (.int p3), .val (.int cc), .val (.ref b1), .val (.int (p1 &&& (7 : Int32))), .val (.ref b303), .val (.int (0 : Int32)), .unset, .unset] [(.ref error_)]) _
              refine stp (fun _ => XS.astore X336.here hx rfl (hb hby at_542) rfl rfl (l' := #[.val (.int p0), .val (.int p1), .val (.int p2), .val (.int p3), .val (.int cc), .val (.ref b1), .val (.int (p1 &&& (7 : Int32))), .val (.ref b303), .val (.int (0 : Int32)), .val (.ref error_), .unset]) rfl) ?_
              show Go p e below T336 (mkF m 544 #[.val (.int p0), .val (.int p1), .val (.int p2), .val (.int p3), .val (.int cc), .val (.ref b1), .val (.int (p1 &&& (7 : Int32))), .val (.ref b303), .val (.int (0 : Int32)), .val (.ref error_), .unset] []) _
              refine stp (fun _ => XS.iloadN X336.here hx rfl (hb hby at_544) rfl) ?_
              show Go p e below T336 (mkF m 545 #[.val (.int p0), .val (.int p1), .val (.int p2), .val (.int p3), .val (.int cc), .val (.ref b1), .val (.int (p1 &&& (7 : Int32))), .val (.ref b303), .val (.int (0 : Int32)), .val (.ref error_), .unset] [(.int p0)]) _
              refine stp (fun _ => XS.aload X336.here hx rfl (hb hby at_545) rfl rfl) ?_
              show Go p e below T336 (mkF m 547 #[.val (.int p0), .val (.int p1), .val (.int p2), .val (.int p3), .val (.int cc), .val (.ref b1), .val (.int (p1 &&& (7 : Int32))), .val (.ref b303), .val (.int (0 : Int32)), .val (.ref error_), .unset] [(.ref b303), (.int p0)]) _
              obtain ⟨_, _, ⟨T337, L337, k337, n337⟩, -, X337, hS337, gg337, ⟨Lc337, hQ337, l337, y337, z337, CRn337⟩, st337⟩ := callSS X336 hx (y := (⟨"com/example/fetch_to_rank/fetchtorank/crawl/Outcome", "of", "(ILjava/lang/String;)Lcom/example/fetch_to_rank/fetchtorank/crawl/Outcome;"⟩ : MethodName)) hown (mvT hZ (hw _ (List.mem_of_getElem? (i := 38) rfl))) (mvT hZ (hw _ (List.mem_of_getElem? (i := 39) rfl))) (mvT hZ (hw _ (List.mem_of_getElem? (i := 36) rfl))) (mvT hZ (hw _ (List.mem_of_getElem? (i := 40) rfl))) (by decide) (backOfSH (W := 0) (rm_of l Z a0 hw [] p0 b303 [] error_ page skipped error_ cz T318.heap n0 O318 hEL r318_0 S_ERROR S_PAGE S_SKIPPED S_CS hcz ⟨fun _ => rfl, fun _ => rfl, fun _ h => absurd q517_335 h, fun _ h => absurd q517_335 h⟩) hZ (hw _ (List.mem_of_getElem? (i := 40) rfl)) (hw _ (List.mem_of_getElem? (i := 36) rfl)) (by decide) (by decide) hEL CR.1) (g := (mkF m 547 #[.val (.int p0), .val (.int p1), .val (.int p2), .val (.int p3), .val (.int cc), .val (.ref b1), .val (.int (p1 &&& (7 : Int32))), .val (.ref b303), .val (.int (0 : Int32)), .val (.ref error_), .unset] [(.ref b303), (.int p0)])) rfl (by rw [hml]; rfl) (argsL := [(.int p0), (.ref b303)]) (rest := []) (lenOf pd_6 rfl) rfl (by show 2 * 0 + _ ≤ _; exact Nat.le_of_eq rfl) (hb hby at_547) (fun _ _ => ⟨rfl, e336, (by decide : 5 + 2 ≤ _), (by decide : 17 + 40 ≤ _)⟩)
              dsimp only [Pt.U, Pt.locs, Pt.cells, Pt.slots] at X337 hS337 gg337 l337 y337 z337 st337 hQ337 CRn337
              subst y337 z337
              obtain ⟨X337, hS, hZ, hown⟩ := rebS hS (by rw [e336]; exact hk) X337 hS337 gg337 hZ hown
              obtain ⟨rfl, N337q, K337q⟩ := hQ337
              have N337 : Fr n0 L337 := by rw [l337]; exact Fr.app N318 N337q
              have f338 := f319.keep K337q
              have f339 := f320.keep K337q nin0
              have f340 := CRn337.safe r318_0.exa.lt f321
              have f341 := r318_0.exa.keep K337q
              have f342 := f323.keep K337q
              have f343 := f324.keep K337q nin0
              have f344 := r318_0.keep K337q nin0 apart0
              have K337 : Keep h0 T337.heap [] := K318.trans K337q all0
              have O337 := O318.keep K337q all0
              have hk : T337.heap.size ≤ T337.heap.size := Nat.le_refl _
              have CR := CR.trans CRn337
              refine stt st337 ?_
              show Go p e below T337 (mkF m 550 #[.val (.int p0), .val (.int p1), .val (.int p2), .val (.int p3), .val (.int cc), .val (.ref b1), .val (.int (p1 &&& (7 : Int32))), .val (.ref b303), .val (.int (0 : Int32)), .val (.ref error_), .unset] [(.ref error_)]) _
              refine stp (fun _ => XS.aload X337.here hx rfl (hb hby at_550) rfl rfl) ?_
              show Go p e below T337 (mkF m 552 #[.val (.int p0), .val (.int p1), .val (.int p2), .val (.int p3), .val (.int cc), .val (.ref b1), .val (.int (p1 &&& (7 : Int32))), .val (.ref b303), .val (.int (0 : Int32)), .val (.ref error_), .unset] [(.ref error_), (.ref error_)]) _
              refine stp (fun _ => Jvm.RoadKit.acmp (g := (mkF m 552 #[.val (.int p0), .val (.int p1), .val (.int p2), .val (.int p3), .val (.int cc), .val (.ref b1), .val (.int (p1 &&& (7 : Int32))), .val (.ref b303), .val (.int (0 : Int32)), .val (.ref error_), .unset] [(.ref error_), (.ref error_)])) X337 hx rfl rfl rfl (pc0 := 552) (pc' := 555) (same := true) rfl (hb hby at_552) rfl (decide_eq_true rfl) (by decide) (by decide)) ?_
              show Go p e below T337 (mkF m 555 #[.val (.int p0), .val (.int p1), .val (.int p2), .val (.int p3), .val (.int cc), .val (.ref b1), .val (.int (p1 &&& (7 : Int32))), .val (.ref b303), .val (.int (0 : Int32)), .val (.ref error_), .unset] []) _
              refine stp (fun _ => XS.iconst X337.here hx rfl (hb hby at_555)) ?_
              show Go p e below T337 (mkF m 556 #[.val (.int p0), .val (.int p1), .val (.int p2), .val (.int p3), .val (.int cc), .val (.ref b1), .val (.int (p1 &&& (7 : Int32))), .val (.ref b303), .val (.int (0 : Int32)), .val (.ref error_), .unset] [(.int (1 : Int32))]) _
              refine stp (fun _ => XS.goto X337.here hx rfl (pc0 := 556) (pc' := 560) rfl (hb hby at_556) (by decide) (by decide)) ?_
              show Go p e below T337 (mkF m 560 #[.val (.int p0), .val (.int p1), .val (.int p2), .val (.int p3), .val (.int cc), .val (.ref b1), .val (.int (p1 &&& (7 : Int32))), .val (.ref b303), .val (.int (0 : Int32)), .val (.ref error_), .unset] [(.int (1 : Int32))]) _
              refine outNW X337 hx hZ hEL rfl hS hk CR (t := .boolean) hret (by simp) (hb hby at_560) hlk (by decide) (by decide) ?_
              exact ⟨rfl, N337⟩
            · refine stp (fun _ => XS.icmpNo X318.here hx rfl (hb hby at_517) rfl (XT.ii_gt_f q517_335)) ?_
              show Go p e below T318 (mkF m 520 #[.val (.int p0), .val (.int p1), .val (.int p2), .val (.int p3), .val (.int cc), .val (.ref b1), .val (.int (p1 &&& (7 : Int32))), .val (.ref b303), .val (.int (0 : Int32)), .unset, .unset] []) _
              refine stp (fun _ => XS.iload X318.here hx rfl (hb hby at_520) rfl) ?_
              show Go p e below T318 (mkF m 522 #[.val (.int p0), .val (.int p1), .val (.int p2), .val (.int p3), .val (.int cc), .val (.ref b1), .val (.int (p1 &&& (7 : Int32))), .val (.ref b303), .val (.int (0 : Int32)), .unset, .unset] [(.int (0 : Int32))]) _
              refine stp (fun _ => XS.ifYes X318.here hx rfl (pc0 := 522) (pc' := 531) rfl (hb hby at_522) rfl (by decide) (by decide) (by decide)) ?_
              show Go p e below T318 (mkF m 531 #[.val (.int p0), .val (.int p1), .val (.int p2), .val (.int p3), .val (.int cc), .val (.ref b1), .val (.int (p1 &&& (7 : Int32))), .val (.ref b303), .val (.int (0 : Int32)), .unset, .unset] []) _
              obtain ⟨T345, X345, e345, st345⟩ := getS2 X318 hx hZ hown (host := "") (Or.inl (hw _ (List.mem_of_getElem? (i := 74) rfl))) Via.refl rfl (S_SKIPPED.ext O318.2) (g := (mkF m 531 #[.val (.int p0), .val (.int p1), .val (.int p2), .val (.int p3), .val (.int cc), .val (.ref b1), .val (.int (p1 &&& (7 : Int32))), .val (.ref b303), .val (.int (0 : Int32)), .unset, .unset] [])) rfl (hb hby at_531)
              refine stp st345 ?_
              show Go p e below T345 (mkF m 534 #[.val (.int p0), .val (.int p1), .val (.int p2), .val (.int p3), .val (.int cc), .val (.ref b1), .val (.int (p1 &&& (7 : Int32))), .val (.ref b303), .val (.int (0 : Int32)), .unset, .unset] [(.ref skipped)]) _
              refine stp (fun _ => XS.astore X345.here hx rfl (hb hby at_534) rfl rfl (l' := #[.val (.int p0), .val (.int p1), .val (.int p2), .val (.int p3), .val (.int cc), .val (.ref b1), .val (.int (p1 &&& (7 : Int32))), .val (.ref b303), .val (.int (0 : Int32)), .val (.ref skipped), .unset]) rfl) ?_
              show Go p e below T345 (mkF m 536 #[.val (.int p0), .val (.int p1), .val (.int p2), .val (.int p3), .val (.int cc), .val (.ref b1), .val (.int (p1 &&& (7 : Int32))), .val (.ref b303), .val (.int (0 : Int32)), .val (.ref skipped), .unset] []) _
              refine stp (fun _ => XS.goto X345.here hx rfl (pc0 := 536) (pc' := 544) rfl (hb hby at_536) (by decide) (by decide)) ?_
              show Go p e below T345 (mkF m 544 #[.val (.int p0), .val (.int p1), .val (.int p2), .val (.int p3), .val (.int cc), .val (.ref b1), .val (.int (p1 &&& (7 : Int32))), .val (.ref b303), .val (.int (0 : Int32)), .val (.ref skipped), .unset] []) _
              refine stp (fun _ => XS.iloadN X345.here hx rfl (hb hby at_544) rfl) ?_
              show Go p e below T345 (mkF m 545 #[.val (.int p0), .val (.int p1), .val (.int p2), .val (.int p3), .val (.int cc), .val (.ref b1), .val (.int (p1 &&& (7 : Int32))), .val (.ref b303), .val (.int (0 : Int32)), .val (.ref skipped), .unset] [(.int p0)]) _
              refine stp (fun _ => XS.aload X345.here hx rfl (hb hby at_545) rfl rfl) ?_
              show Go p e below T345 (mkF m 547 #[.val (.int p0), .val (.int p1), .val (.int p2), .val (.int p3), .val (.int cc), .val (.ref b1), .val (.int (p1 &&& (7 : Int32))), .val (.ref b303), .val (.int (0 : Int32)), .val (.ref skipped), .unset] [(.ref b303), (.int p0)]) _
              obtain ⟨_, _, ⟨T346, L346, k346, n346⟩, -, X346, hS346, gg346, ⟨Lc346, hQ346, l346, y346, z346, CRn346⟩, st346⟩ := callSS X345 hx (y := (⟨"com/example/fetch_to_rank/fetchtorank/crawl/Outcome", "of", "(ILjava/lang/String;)Lcom/example/fetch_to_rank/fetchtorank/crawl/Outcome;"⟩ : MethodName)) hown (mvT hZ (hw _ (List.mem_of_getElem? (i := 38) rfl))) (mvT hZ (hw _ (List.mem_of_getElem? (i := 39) rfl))) (mvT hZ (hw _ (List.mem_of_getElem? (i := 36) rfl))) (mvT hZ (hw _ (List.mem_of_getElem? (i := 40) rfl))) (by decide) (backOfSH (W := 0) (rm_of l Z a0 hw [] p0 b303 [] error_ page skipped skipped cz T318.heap n0 O318 hEL r318_0 S_ERROR S_PAGE S_SKIPPED S_CS hcz ⟨fun h => absurd h q510_325, fun h => absurd h q517_335, fun _ _ h => absurd h (own_neq (show (9 : Nat) ≠ 0 by decide)), fun _ _ _ => rfl⟩) hZ (hw _ (List.mem_of_getElem? (i := 40) rfl)) (hw _ (List.mem_of_getElem? (i := 36) rfl)) (by decide) (by decide) hEL CR.1) (g := (mkF m 547 #[.val (.int p0), .val (.int p1), .val (.int p2), .val (.int p3), .val (.int cc), .val (.ref b1), .val (.int (p1 &&& (7 : Int32))), .val (.ref b303), .val (.int (0 : Int32)), .val (.ref skipped), .unset] [(.ref b303), (.int p0)])) rfl (by rw [hml]; rfl) (argsL := [(.int p0), (.ref b303)]) (rest := []) (lenOf pd_6 rfl) rfl (by show 2 * 0 + _ ≤ _; exact Nat.le_of_eq rfl) (hb hby at_547) (fun _ _ => ⟨rfl, e345, (by decide : 5 + 2 ≤ _), (by decide : 17 + 40 ≤ _)⟩)
              dsimp only [Pt.U, Pt.locs, Pt.cells, Pt.slots] at X346 hS346 gg346 l346 y346 z346 st346 hQ346 CRn346
              subst y346 z346
              obtain ⟨X346, hS, hZ, hown⟩ := rebS hS (by rw [e345]; exact hk) X346 hS346 gg346 hZ hown
              obtain ⟨rfl, N346q, K346q⟩ := hQ346
              have N346 : Fr n0 L346 := by rw [l346]; exact Fr.app N318 N346q
              have f347 := f319.keep K346q
              have f348 := f320.keep K346q nin0
              have f349 := CRn346.safe r318_0.exa.lt f321
              have f350 := r318_0.exa.keep K346q
              have f351 := f323.keep K346q
              have f352 := f324.keep K346q nin0
              have f353 := r318_0.keep K346q nin0 apart0
              have K346 : Keep h0 T346.heap [] := K318.trans K346q all0
              have O346 := O318.keep K346q all0
              have hk : T346.heap.size ≤ T346.heap.size := Nat.le_refl _
              have CR := CR.trans CRn346
              refine stt st346 ?_
              show Go p e below T346 (mkF m 550 #[.val (.int p0), .val (.int p1), .val (.int p2), .val (.int p3), .val (.int cc), .val (.ref b1), .val (.int (p1 &&& (7 : Int32))), .val (.ref b303), .val (.int (0 : Int32)), .val (.ref skipped), .unset] [(.ref skipped)]) _
              refine stp (fun _ => XS.aload X346.here hx rfl (hb hby at_550) rfl rfl) ?_
              show Go p e below T346 (mkF m 552 #[.val (.int p0), .val (.int p1), .val (.int p2), .val (.int p3), .val (.int cc), .val (.ref b1), .val (.int (p1 &&& (7 : Int32))), .val (.ref b303), .val (.int (0 : Int32)), .val (.ref skipped), .unset] [(.ref skipped), (.ref skipped)]) _
              refine stp (fun _ => Jvm.RoadKit.acmp (g := (mkF m 552 #[.val (.int p0), .val (.int p1), .val (.int p2), .val (.int p3), .val (.int cc), .val (.ref b1), .val (.int (p1 &&& (7 : Int32))), .val (.ref b303), .val (.int (0 : Int32)), .val (.ref skipped), .unset] [(.ref skipped), (.ref skipped)])) X346 hx rfl rfl rfl (pc0 := 552) (pc' := 555) (same := true) rfl (hb hby at_552) rfl (decide_eq_true rfl) (by decide) (by decide)) ?_
              show Go p e below T346 (mkF m 555 #[.val (.int p0), .val (.int p1), .val (.int p2), .val (.int p3), .val (.int cc), .val (.ref b1), .val (.int (p1 &&& (7 : Int32))), .val (.ref b303), .val (.int (0 : Int32)), .val (.ref skipped), .unset] []) _
              refine stp (fun _ => XS.iconst X346.here hx rfl (hb hby at_555)) ?_
              show Go p e below T346 (mkF m 556 #[.val (.int p0), .val (.int p1), .val (.int p2), .val (.int p3), .val (.int cc), .val (.ref b1), .val (.int (p1 &&& (7 : Int32))), .val (.ref b303), .val (.int (0 : Int32)), .val (.ref skipped), .unset] [(.int (1 : Int32))]) _
              refine stp (fun _ => XS.goto X346.here hx rfl (pc0 := 556) (pc' := 560) rfl (hb hby at_556) (by decide) (by decide)) ?_
              show Go p e below T346 (mkF m 560 #[.val (.int p0), .val (.int p1), .val (.int p2), .val (.int p3), .val (.int cc), .val (.ref b1), .val (.int (p1 &&& (7 : Int32))), .val (.ref b303), .val (.int (0 : Int32)), .val (.ref skipped), .unset] [(.int (1 : Int32))]) _
              refine outNW X346 hx hZ hEL rfl hS hk CR (t := .boolean) hret (by simp) (hb hby at_560) hlk (by decide) (by decide) ?_
              exact ⟨rfl, N346⟩
        · refine stp (fun _ => XS.icmpYes X26.here hx rfl (pc0 := 452) (pc' := 473) rfl (hb hby at_452) rfl (XT.ii_ne_t q452_302) (by decide) (by decide)) ?_
          show Go p e below T26 (mkF m 473 #[.val (.int p0), .val (.int p1), .val (.int p2), .val (.int p3), .val (.int cc), .val (.ref b1), .val (.int (p1 &&& (7 : Int32))), .unset, .unset, .unset, .unset] []) _
          refine stp (fun _ => XS.iload X26.here hx rfl (hb hby at_473) rfl) ?_
          show Go p e below T26 (mkF m 475 #[.val (.int p0), .val (.int p1), .val (.int p2), .val (.int p3), .val (.int cc), .val (.ref b1), .val (.int (p1 &&& (7 : Int32))), .unset, .unset, .unset, .unset] [(.int (p1 &&& (7 : Int32)))]) _
          refine stp (fun _ => XS.iconst X26.here hx rfl (hb hby at_475)) ?_
          show Go p e below T26 (mkF m 476 #[.val (.int p0), .val (.int p1), .val (.int p2), .val (.int p3), .val (.int cc), .val (.ref b1), .val (.int (p1 &&& (7 : Int32))), .unset, .unset, .unset, .unset] [(.int (5 : Int32)), (.int (p1 &&& (7 : Int32)))]) _
          by_cases q476_354 : (p1 &&& (7 : Int32)) = (5 : Int32)
          · refine stp (fun _ => XS.icmpNo X26.here hx rfl (hb hby at_476) rfl (XT.ii_ne_f q476_354)) ?_
            show Go p e below T26 (mkF m 479 #[.val (.int p0), .val (.int p1), .val (.int p2), .val (.int p3), .val (.int cc), .val (.ref b1), .val (.int (p1 &&& (7 : Int32))), .unset, .unset, .unset, .unset] []) _
            refine stp (fun _ => XS.iload X26.here hx rfl (hb hby at_479) rfl) ?_
            show Go p e below T26 (mkF m 481 #[.val (.int p0), .val (.int p1), .val (.int p2), .val (.int p3), .val (.int cc), .val (.ref b1), .val (.int (p1 &&& (7 : Int32))), .unset, .unset, .unset, .unset] [(.int cc)]) _
            obtain ⟨_, _, ⟨T355, L355, k355, n355⟩, -, X355, ⟨Lc355, hQ355, l355, y355, z355⟩, st355⟩ := Jvm.LawKit.callS X26 hx (y := (⟨"java/lang/String", "valueOf", "(C)Ljava/lang/String;"⟩ : MethodName)) hown (mvT hZ (hw _ (List.mem_of_getElem? (i := 42) rfl))) (mvT hZ (hw _ (List.mem_of_getElem? (i := 43) rfl))) (mvT hZ (hw _ (List.mem_of_getElem? (i := 8) rfl))) (mvT hZ (hw _ (List.mem_of_getElem? (i := 44) rfl))) (by decide) (backOf (W := 0) (rm_vo l Z a0 hw [] cc cz h26 n0 O26 S_CS hcz hcc) hZ (hw _ (List.mem_of_getElem? (i := 44) rfl)) (hw _ (List.mem_of_getElem? (i := 8) rfl)) (by decide) (by decide)) (g := (mkF m 481 #[.val (.int p0), .val (.int p1), .val (.int p2), .val (.int p3), .val (.int cc), .val (.ref b1), .val (.int (p1 &&& (7 : Int32))), .unset, .unset, .unset, .unset] [(.int cc)])) rfl (by rw [hml]; rfl) (argsL := [(.int cc)]) (rest := []) (lenOf pd_9 rfl) rfl (by show 2 * 0 + _ ≤ _; exact Nat.le_of_eq rfl) (hb hby at_481) (fun _ _ => ⟨rfl, e26, (by decide : 1 + 2 ≤ _), (by decide : 9 + 5 ≤ _)⟩)
            dsimp only [Pt.U, Pt.locs, Pt.cells, Pt.slots] at X355 l355 y355 z355 st355 hQ355
            subst y355 z355
            obtain ⟨r355, rfl, N355q, K355q, ⟨ge_r355, sz355_r355⟩, r355_0⟩ := hQ355
            have N355 : Fr n0 L355 := by rw [l355]; exact Fr.app N26 N355q
            have ne356 : b1 ≠ r355 := Nat.ne_of_lt (Nat.lt_of_lt_of_le f27.lt sz355_r355)
            have f357 := f27.keep K355q
            have f358 := V26.keep K355q nin0
            have hk := Nat.le_trans hk K355q.1
            have CR := CR.trans (CHr.keep K355q sf0 CR.1)
            have sz_r355 : h0.size ≤ r355 := Nat.le_trans K26.1 sz355_r355
            have K355 : Keep h0 T355.heap [] := K26.trans K355q all0
            have O355 := O26.keep K355q all0
            refine stp st355 ?_
            show Go p e below T355 (mkF m 484 #[.val (.int p0), .val (.int p1), .val (.int p2), .val (.int p3), .val (.int cc), .val (.ref b1), .val (.int (p1 &&& (7 : Int32))), .unset, .unset, .unset, .unset] [(.ref r355)]) _
            refine stp (fun _ => XS.astore X355.here hx rfl (hb hby at_484) rfl rfl (l' := #[.val (.int p0), .val (.int p1), .val (.int p2), .val (.int p3), .val (.int cc), .val (.ref b1), .val (.int (p1 &&& (7 : Int32))), .val (.ref r355), .unset, .unset, .unset]) rfl) ?_
            show Go p e below T355 (mkF m 486 #[.val (.int p0), .val (.int p1), .val (.int p2), .val (.int p3), .val (.int cc), .val (.ref b1), .val (.int (p1 &&& (7 : Int32))), .val (.ref r355), .unset, .unset, .unset] []) _
            refine stp (fun _ => XS.iconst X355.here hx rfl (hb hby at_486)) ?_
            show Go p e below T355 (mkF m 487 #[.val (.int p0), .val (.int p1), .val (.int p2), .val (.int p3), .val (.int cc), .val (.ref b1), .val (.int (p1 &&& (7 : Int32))), .val (.ref r355), .unset, .unset, .unset] [(.int (0 : Int32))]) _
            refine stp (fun _ => XS.istore X355.here hx rfl (hb hby at_487) rfl (l' := #[.val (.int p0), .val (.int p1), .val (.int p2), .val (.int p3), .val (.int cc), .val (.ref b1), .val (.int (p1 &&& (7 : Int32))), .val (.ref r355), .val (.int (0 : Int32)), .unset, .unset]) rfl) ?_
            show Go p e below T355 (mkF m 489 #[.val (.int p0), .val (.int p1), .val (.int p2), .val (.int p3), .val (.int cc), .val (.ref b1), .val (.int (p1 &&& (7 : Int32))), .val (.ref r355), .val (.int (0 : Int32)), .unset, .unset] []) _
            refine stp (fun _ => XS.goto X355.here hx rfl (pc0 := 489) (pc' := 506) rfl (hb hby at_489) (by decide) (by decide)) ?_
            show Go p e below T355 (mkF m 506 #[.val (.int p0), .val (.int p1), .val (.int p2), .val (.int p3), .val (.int cc), .val (.ref b1), .val (.int (p1 &&& (7 : Int32))), .val (.ref r355), .val (.int (0 : Int32)), .unset, .unset] []) _
            refine stp (fun _ => XS.iloadN X355.here hx rfl (hb hby at_506) rfl) ?_
            show Go p e below T355 (mkF m 507 #[.val (.int p0), .val (.int p1), .val (.int p2), .val (.int p3), .val (.int cc), .val (.ref b1), .val (.int (p1 &&& (7 : Int32))), .val (.ref r355), .val (.int (0 : Int32)), .unset, .unset] [(.int p0)]) _
            refine stp (fun _ => XS.sipush X355.here hx rfl (hb hby at_507)) ?_
            show Go p e below T355 (mkF m 510 #[.val (.int p0), .val (.int p1), .val (.int p2), .val (.int p3), .val (.int cc), .val (.ref b1), .val (.int (p1 &&& (7 : Int32))), .val (.ref r355), .val (.int (0 : Int32)), .unset, .unset] [(.int (200 : Int32)), (.int p0)]) _
            by_cases q510_359 : p0 < (200 : Int32)
            · refine stp (fun _ => XS.icmpYes X355.here hx rfl (pc0 := 510) (pc' := 539) rfl (hb hby at_510) rfl (XT.ii_lt_t q510_359) (by decide) (by decide)) ?_
              show Go p e below T355 (mkF m 539 #[.val (.int p0), .val (.int p1), .val (.int p2), .val (.int p3), .val (.int cc), .val (.ref b1), .val (.int (p1 &&& (7 : Int32))), .val (.ref r355), .val (.int (0 : Int32)), .unset, .unset] []) _
              obtain ⟨T360, X360, e360, st360⟩ := getS2 X355 hx hZ hown (host := "") (Or.inl (hw _ (List.mem_of_getElem? (i := 35) rfl))) Via.refl rfl (S_ERROR.ext O355.2) (g := (mkF m 539 #[.val (.int p0), .val (.int p1), .val (.int p2), .val (.int p3), .val (.int cc), .val (.ref b1), .val (.int (p1 &&& (7 : Int32))), .val (.ref r355), .val (.int (0 : Int32)), .unset, .unset] [])) rfl (hb hby at_539)
              refine stp st360 ?_
              show Go p e below T360 (mkF m 542 #[.val (.int p0), .val (.int p1), .val (.int p2), .val (.int p3), .val (.int cc), .val (.ref b1), .val (.int (p1 &&& (7 : Int32))), .val (.ref r355), .val (.int (0 : Int32)), .unset, .unset] [(.ref error_)]) _
              refine stp (fun _ => XS.astore X360.here hx rfl (hb hby at_542) rfl rfl (l' := #[.val (.int p0), .val (.int p1), .val (.int p2), .val (.int p3), .val (.int cc), .val (.ref b1), .val (.int (p1 &&& (7 : Int32))), .val (.ref r355), .val (.int (0 : Int32)), .val (.ref error_), .unset]) rfl) ?_
              show Go p e below T360 (mkF m 544 #[.val (.int p0), .val (.int p1), .val (.int p2), .val (.int p3), .val (.int cc), .val (.ref b1), .val (.int (p1 &&& (7 : Int32))), .val (.ref r355), .val (.int (0 : Int32)), .val (.ref error_), .unset] []) _
              refine stp (fun _ => XS.iloadN X360.here hx rfl (hb hby at_544) rfl) ?_
              show Go p e below T360 (mkF m 545 #[.val (.int p0), .val (.int p1), .val (.int p2), .val (.int p3), .val (.int cc), .val (.ref b1), .val (.int (p1 &&& (7 : Int32))), .val (.ref r355), .val (.int (0 : Int32)), .val (.ref error_), .unset] [(.int p0)]) _
              refine stp (fun _ => XS.aload X360.here hx rfl (hb hby at_545) rfl rfl) ?_
              show Go p e below T360 (mkF m 547 #[.val (.int p0), .val (.int p1), .val (.int p2), .val (.int p3), .val (.int cc), .val (.ref b1), .val (.int (p1 &&& (7 : Int32))), .val (.ref r355), .val (.int (0 : Int32)), .val (.ref error_), .unset] [(.ref r355), (.int p0)]) _
              obtain ⟨_, _, ⟨T361, L361, k361, n361⟩, -, X361, hS361, gg361, ⟨Lc361, hQ361, l361, y361, z361, CRn361⟩, st361⟩ := callSS X360 hx (y := (⟨"com/example/fetch_to_rank/fetchtorank/crawl/Outcome", "of", "(ILjava/lang/String;)Lcom/example/fetch_to_rank/fetchtorank/crawl/Outcome;"⟩ : MethodName)) hown (mvT hZ (hw _ (List.mem_of_getElem? (i := 38) rfl))) (mvT hZ (hw _ (List.mem_of_getElem? (i := 39) rfl))) (mvT hZ (hw _ (List.mem_of_getElem? (i := 36) rfl))) (mvT hZ (hw _ (List.mem_of_getElem? (i := 40) rfl))) (by decide) (backOfSH (W := 0) (rm_of l Z a0 hw [] p0 r355 [cc] error_ page skipped error_ cz T355.heap n0 O355 hEL r355_0 S_ERROR S_PAGE S_SKIPPED S_CS hcz ⟨fun _ => rfl, fun _ => rfl, fun h => absurd q510_359 h, fun h => absurd q510_359 h⟩) hZ (hw _ (List.mem_of_getElem? (i := 40) rfl)) (hw _ (List.mem_of_getElem? (i := 36) rfl)) (by decide) (by decide) hEL CR.1) (g := (mkF m 547 #[.val (.int p0), .val (.int p1), .val (.int p2), .val (.int p3), .val (.int cc), .val (.ref b1), .val (.int (p1 &&& (7 : Int32))), .val (.ref r355), .val (.int (0 : Int32)), .val (.ref error_), .unset] [(.ref r355), (.int p0)])) rfl (by rw [hml]; rfl) (argsL := [(.int p0), (.ref r355)]) (rest := []) (lenOf pd_6 rfl) rfl (by show 2 * 0 + _ ≤ _; exact Nat.le_of_eq rfl) (hb hby at_547) (fun _ _ => ⟨rfl, e360, (by decide : 3 + 2 ≤ _), (by decide : 14 + 40 ≤ _)⟩)
              dsimp only [Pt.U, Pt.locs, Pt.cells, Pt.slots] at X361 hS361 gg361 l361 y361 z361 st361 hQ361 CRn361
              subst y361 z361
              obtain ⟨X361, hS, hZ, hown⟩ := rebS hS (by rw [e360]; exact hk) X361 hS361 gg361 hZ hown
              obtain ⟨rfl, N361q, K361q⟩ := hQ361
              have N361 : Fr n0 L361 := by rw [l361]; exact Fr.app N355 N361q
              have f362 := f357.keep K361q
              have f363 := f358.keep K361q nin0
              have f364 := r355_0.keep K361q nin0 apart0
              have f365 := r355_0.exa.keep K361q
              have K361 : Keep h0 T361.heap [] := K355.trans K361q all0
              have O361 := O355.keep K361q all0
              have hk : T361.heap.size ≤ T361.heap.size := Nat.le_refl _
              have CR := CR.trans CRn361
              refine stt st361 ?_
              show Go p e below T361 (mkF m 550 #[.val (.int p0), .val (.int p1), .val (.int p2), .val (.int p3), .val (.int cc), .val (.ref b1), .val (.int (p1 &&& (7 : Int32))), .val (.ref r355), .val (.int (0 : Int32)), .val (.ref error_), .unset] [(.ref error_)]) _
              refine stp (fun _ => XS.aload X361.here hx rfl (hb hby at_550) rfl rfl) ?_
              show Go p e below T361 (mkF m 552 #[.val (.int p0), .val (.int p1), .val (.int p2), .val (.int p3), .val (.int cc), .val (.ref b1), .val (.int (p1 &&& (7 : Int32))), .val (.ref r355), .val (.int (0 : Int32)), .val (.ref error_), .unset] [(.ref error_), (.ref error_)]) _
              refine stp (fun _ => Jvm.RoadKit.acmp (g := (mkF m 552 #[.val (.int p0), .val (.int p1), .val (.int p2), .val (.int p3), .val (.int cc), .val (.ref b1), .val (.int (p1 &&& (7 : Int32))), .val (.ref r355), .val (.int (0 : Int32)), .val (.ref error_), .unset] [(.ref error_), (.ref error_)])) X361 hx rfl rfl rfl (pc0 := 552) (pc' := 555) (same := true) rfl (hb hby at_552) rfl (decide_eq_true rfl) (by decide) (by decide)) ?_
              show Go p e below T361 (mkF m 555 #[.val (.int p0), .val (.int p1), .val (.int p2), .val (.int p3), .val (.int cc), .val (.ref b1), .val (.int (p1 &&& (7 : Int32))), .val (.ref r355), .val (.int (0 : Int32)), .val (.ref error_), .unset] []) _
              refine stp (fun _ => XS.iconst X361.here hx rfl (hb hby at_555)) ?_
              show Go p e below T361 (mkF m 556 #[.val (.int p0), .val (.int p1), .val (.int p2), .val (.int p3), .val (.int cc), .val (.ref b1), .val (.int (p1 &&& (7 : Int32))), .val (.ref r355), .val (.int (0 : Int32)), .val (.ref error_), .unset] [(.int (1 : Int32))]) _
              refine stp (fun _ => XS.goto X361.here hx rfl (pc0 := 556) (pc' := 560) rfl (hb hby at_556) (by decide) (by decide)) ?_
              show Go p e below T361 (mkF m 560 #[.val (.int p0), .val (.int p1), .val (.int p2), .val (.int p3), .val (.int cc), .val (.ref b1), .val (.int (p1 &&& (7 : Int32))), .val (.ref r355), .val (.int (0 : Int32)), .val (.ref error_), .unset] [(.int (1 : Int32))]) _
              refine outNW X361 hx hZ hEL rfl hS hk CR (t := .boolean) hret (by simp) (hb hby at_560) hlk (by decide) (by decide) ?_
              exact ⟨rfl, N361⟩
            · refine stp (fun _ => XS.icmpNo X355.here hx rfl (hb hby at_510) rfl (XT.ii_lt_f q510_359)) ?_
              show Go p e below T355 (mkF m 513 #[.val (.int p0), .val (.int p1), .val (.int p2), .val (.int p3), .val (.int cc), .val (.ref b1), .val (.int (p1 &&& (7 : Int32))), .val (.ref r355), .val (.int (0 : Int32)), .unset, .unset] []) _
              refine stp (fun _ => XS.iloadN X355.here hx rfl (hb hby at_513) rfl) ?_
              show Go p e below T355 (mkF m 514 #[.val (.int p0), .val (.int p1), .val (.int p2), .val (.int p3), .val (.int cc), .val (.ref b1), .val (.int (p1 &&& (7 : Int32))), .val (.ref r355), .val (.int (0 : Int32)), .unset, .unset] [(.int p0)]) _
              refine stp (fun _ => XS.sipush X355.here hx rfl (hb hby at_514)) ?_
              show Go p e below T355 (mkF m 517 #[.val (.int p0), .val (.int p1), .val (.int p2), .val (.int p3), .val (.int cc), .val (.ref b1), .val (.int (p1 &&& (7 : Int32))), .val (.ref r355), .val (.int (0 : Int32)), .unset, .unset] [(.int (299 : Int32)), (.int p0)]) _
              by_cases q517_366 : (299 : Int32) < p0
              · refine stp (fun _ => XS.icmpYes X355.here hx rfl (pc0 := 517) (pc' := 539) rfl (hb hby at_517) rfl (XT.ii_gt_t q517_366) (by decide) (by decide)) ?_
                show Go p e below T355 (mkF m 539 #[.val (.int p0), .val (.int p1), .val (.int p2), .val (.int p3), .val (.int cc), .val (.ref b1), .val (.int (p1 &&& (7 : Int32))), .val (.ref r355), .val (.int (0 : Int32)), .unset, .unset] []) _
                obtain ⟨T367, X367, e367, st367⟩ := getS2 X355 hx hZ hown (host := "") (Or.inl (hw _ (List.mem_of_getElem? (i := 35) rfl))) Via.refl rfl (S_ERROR.ext O355.2) (g := (mkF m 539 #[.val (.int p0), .val (.int p1), .val (.int p2), .val (.int p3), .val (.int cc), .val (.ref b1), .val (.int (p1 &&& (7 : Int32))), .val (.ref r355), .val (.int (0 : Int32)), .unset, .unset] [])) rfl (hb hby at_539)
                refine stp st367 ?_
                show Go p e below T367 (mkF m 542 #[.val (.int p0), .val (.int p1), .val (.int p2), .val (.int p3), .val (.int cc), .val (.ref b1), .val (.int (p1 &&& (7 : Int32))), .val (.ref r355), .val (.int (0 : Int32)), .unset, .unset] [(.ref error_)]) _
                refine stp (fun _ => XS.astore X367.here hx rfl (hb hby at_542) rfl rfl (l' := #[.val (.int p0), .val (.int p1), .val (.int p2), .val (.int p3), .val (.int cc), .val (.ref b1), .val (.int (p1 &&& (7 : Int32))), .val (.ref r355), .val (.int (0 : Int32)), .val (.ref error_), .unset]) rfl) ?_
                show Go p e below T367 (mkF m 544 #[.val (.int p0), .val (.int p1), .val (.int p2), .val (.int p3), .val (.int cc), .val (.ref b1), .val (.int (p1 &&& (7 : Int32))), .val (.ref r355), .val (.int (0 : Int32)), .val (.ref error_), .unset] []) _
                refine stp (fun _ => XS.iloadN X367.here hx rfl (hb hby at_544) rfl) ?_
                show Go p e below T367 (mkF m 545 #[.val (.int p0), .val (.int p1), .val (.int p2), .val (.int p3), .val (.int cc), .val (.ref b1), .val (.int (p1 &&& (7 : Int32))), .val (.ref r355), .val (.int (0 : Int32)), .val (.ref error_), .unset] [(.int p0)]) _
                refine stp (fun _ => XS.aload X367.here hx rfl (hb hby at_545) rfl rfl) ?_
                show Go p e below T367 (mkF m 547 #[.val (.int p0), .val (.int p1), .val (.int p2), .val (.int p3), .val (.int cc), .val (.ref b1), .val (.int (p1 &&& (7 : Int32))), .val (.ref r355), .val (.int (0 : Int32)), .val (.ref error_), .unset] [(.ref r355), (.int p0)]) _
                obtain ⟨_, _, ⟨T368, L368, k368, n368⟩, -, X368, hS368, gg368, ⟨Lc368, hQ368, l368, y368, z368, CRn368⟩, st368⟩ := callSS X367 hx (y := (⟨"com/example/fetch_to_rank/fetchtorank/crawl/Outcome", "of", "(ILjava/lang/String;)Lcom/example/fetch_to_rank/fetchtorank/crawl/Outcome;"⟩ : MethodName)) hown (mvT hZ (hw _ (List.mem_of_getElem? (i := 38) rfl))) (mvT hZ (hw _ (List.mem_of_getElem? (i := 39) rfl))) (mvT hZ (hw _ (List.mem_of_getElem? (i := 36) rfl))) (mvT hZ (hw _ (List.mem_of_getElem? (i := 40) rfl))) (by decide) (backOfSH (W := 0) (rm_of l Z a0 hw [] p0 r355 [cc] error_ page skipped error_ cz T355.heap n0 O355 hEL r355_0 S_ERROR S_PAGE S_SKIPPED S_CS hcz ⟨fun _ => rfl, fun _ => rfl, fun _ h => absurd q517_366 h, fun _ h => absurd q517_366 h⟩) hZ (hw _ (List.mem_of_getElem? (i := 40) rfl)) (hw _ (List.mem_of_getElem? (i := 36) rfl)) (by decide) (by decide) hEL CR.1) (g := (mkF m 547 #[.val (.int p0), .val (.int p1), .val (.int p2), .val (.int p3), .val (.int cc), .val (.ref b1), .val (.int (p1 &&& (7 : Int32))), .val (.ref r355), .val (.int (0 : Int32)), .val (.ref error_), .unset] [(.ref r355), (.int p0)])) rfl (by rw [hml]; rfl) (argsL := [(.int p0), (.ref r355)]) (rest := []) (lenOf pd_6 rfl) rfl (by show 2 * 0 + _ ≤ _; exact Nat.le_of_eq rfl) (hb hby at_547) (fun _ _ => ⟨rfl, e367, (by decide : 3 + 2 ≤ _), (by decide : 14 + 40 ≤ _)⟩)
                dsimp only [Pt.U, Pt.locs, Pt.cells, Pt.slots] at X368 hS368 gg368 l368 y368 z368 st368 hQ368 CRn368
                subst y368 z368
                obtain ⟨X368, hS, hZ, hown⟩ := rebS hS (by rw [e367]; exact hk) X368 hS368 gg368 hZ hown
                obtain ⟨rfl, N368q, K368q⟩ := hQ368
                have N368 : Fr n0 L368 := by rw [l368]; exact Fr.app N355 N368q
                have f369 := f357.keep K368q
                have f370 := f358.keep K368q nin0
                have f371 := r355_0.keep K368q nin0 apart0
                have f372 := r355_0.exa.keep K368q
                have K368 : Keep h0 T368.heap [] := K355.trans K368q all0
                have O368 := O355.keep K368q all0
                have hk : T368.heap.size ≤ T368.heap.size := Nat.le_refl _
                have CR := CR.trans CRn368
                refine stt st368 ?_
                show Go p e below T368 (mkF m 550 #[.val (.int p0), .val (.int p1), .val (.int p2), .val (.int p3), .val (.int cc), .val (.ref b1), .val (.int (p1 &&& (7 : Int32))), .val (.ref r355), .val (.int (0 : Int32)), .val (.ref error_), .unset] [(.ref error_)]) _
                refine stp (fun _ => XS.aload X368.here hx rfl (hb hby at_550) rfl rfl) ?_
                show Go p e below T368 (mkF m 552 #[.val (.int p0), .val (.int p1), .val (.int p2), .val (.int p3), .val (.int cc), .val (.ref b1), .val (.int (p1 &&& (7 : Int32))), .val (.ref r355), .val (.int (0 : Int32)), .val (.ref error_), .unset] [(.ref error_), (.ref error_)]) _
                refine stp (fun _ => Jvm.RoadKit.acmp (g := (mkF m 552 #[.val (.int p0), .val (.int p1), .val (.int p2), .val (.int p3), .val (.int cc), .val (.ref b1), .val (.int (p1 &&& (7 : Int32))), .val (.ref r355), .val (.int (0 : Int32)), .val (.ref error_), .unset] [(.ref error_), (.ref error_)])) X368 hx rfl rfl rfl (pc0 := 552) (pc' := 555) (same := true) rfl (hb hby at_552) rfl (decide_eq_true rfl) (by decide) (by decide)) ?_
                show Go p e below T368 (mkF m 555 #[.val (.int p0), .val (.int p1), .val (.int p2), .val (.int p3), .val (.int cc), .val (.ref b1), .val (.int (p1 &&& (7 : Int32))), .val (.ref r355), .val (.int (0 : Int32)), .val (.ref error_), .unset] []) _
                refine stp (fun _ => XS.iconst X368.here hx rfl (hb hby at_555)) ?_
                show Go p e below T368 (mkF m 556 #[.val (.int p0), .val (.int p1), .val (.int p2), .val (.int p3), .val (.int cc), .val (.ref b1), .val (.int (p1 &&& (7 : Int32))), .val (.ref r355), .val (.int (0 : Int32)), .val (.ref error_), .unset] [(.int (1 : Int32))]) _
                refine stp (fun _ => XS.goto X368.here hx rfl (pc0 := 556) (pc' := 560) rfl (hb hby at_556) (by decide) (by decide)) ?_
                show Go p e below T368 (mkF m 560 #[.val (.int p0), .val (.int p1), .val (.int p2), .val (.int p3), .val (.int cc), .val (.ref b1), .val (.int (p1 &&& (7 : Int32))), .val (.ref r355), .val (.int (0 : Int32)), .val (.ref error_), .unset] [(.int (1 : Int32))]) _
                refine outNW X368 hx hZ hEL rfl hS hk CR (t := .boolean) hret (by simp) (hb hby at_560) hlk (by decide) (by decide) ?_
                exact ⟨rfl, N368⟩
              · refine stp (fun _ => XS.icmpNo X355.here hx rfl (hb hby at_517) rfl (XT.ii_gt_f q517_366)) ?_
                show Go p e below T355 (mkF m 520 #[.val (.int p0), .val (.int p1), .val (.int p2), .val (.int p3), .val (.int cc), .val (.ref b1), .val (.int (p1 &&& (7 : Int32))), .val (.ref r355), .val (.int (0 : Int32)), .unset, .unset] []) _
                refine stp (fun _ => XS.iload X355.here hx rfl (hb hby at_520) rfl) ?_
                show Go p e below T355 (mkF m 522 #[.val (.int p0), .val (.int p1), .val (.int p2), .val (.int p3), .val (.int cc), .val (.ref b1), .val (.int (p1 &&& (7 : Int32))), .val (.ref r355), .val (.int (0 : Int32)), .unset, .unset] [(.int (0 : Int32))]) _
                refine stp (fun _ => XS.ifYes X355.here hx rfl (pc0 := 522) (pc' := 531) rfl (hb hby at_522) rfl (by decide) (by decide) (by decide)) ?_
                show Go p e below T355 (mkF m 531 #[.val (.int p0), .val (.int p1), .val (.int p2), .val (.int p3), .val (.int cc), .val (.ref b1), .val (.int (p1 &&& (7 : Int32))), .val (.ref r355), .val (.int (0 : Int32)), .unset, .unset] []) _
                obtain ⟨T373, X373, e373, st373⟩ := getS2 X355 hx hZ hown (host := "") (Or.inl (hw _ (List.mem_of_getElem? (i := 74) rfl))) Via.refl rfl (S_SKIPPED.ext O355.2) (g := (mkF m 531 #[.val (.int p0), .val (.int p1), .val (.int p2), .val (.int p3), .val (.int cc), .val (.ref b1), .val (.int (p1 &&& (7 : Int32))), .val (.ref r355), .val (.int (0 : Int32)), .unset, .unset] [])) rfl (hb hby at_531)
                refine stp st373 ?_
                show Go p e below T373 (mkF m 534 #[.val (.int p0), .val (.int p1), .val (.int p2), .val (.int p3), .val (.int cc), .val (.ref b1), .val (.int (p1 &&& (7 : Int32))), .val (.ref r355), .val (.int (0 : Int32)), .unset, .unset] [(.ref skipped)]) _
                refine stp (fun _ => XS.astore X373.here hx rfl (hb hby at_534) rfl rfl (l' := #[.val (.int p0), .val (.int p1), .val (.int p2), .val (.int p3), .val (.int cc), .val (.ref b1), .val (.int (p1 &&& (7 : Int32))), .val (.ref r355), .val (.int (0 : Int32)), .val (.ref skipped), .unset]) rfl) ?_
                show Go p e below T373 (mkF m 536 #[.val (.int p0), .val (.int p1), .val (.int p2), .val (.int p3), .val (.int cc), .val (.ref b1), .val (.int (p1 &&& (7 : Int32))), .val (.ref r355), .val (.int (0 : Int32)), .val (.ref skipped), .unset] []) _
                refine stp (fun _ => XS.goto X373.here hx rfl (pc0 := 536) (pc' := 544) rfl (hb hby at_536) (by decide) (by decide)) ?_
                show Go p e below T373 (mkF m 544 #[.val (.int p0), .val (.int p1), .val (.int p2), .val (.int p3), .val (.int cc), .val (.ref b1), .val (.int (p1 &&& (7 : Int32))), .val (.ref r355), .val (.int (0 : Int32)), .val (.ref skipped), .unset] []) _
                refine stp (fun _ => XS.iloadN X373.here hx rfl (hb hby at_544) rfl) ?_
                show Go p e below T373 (mkF m 545 #[.val (.int p0), .val (.int p1), .val (.int p2), .val (.int p3), .val (.int cc), .val (.ref b1), .val (.int (p1 &&& (7 : Int32))), .val (.ref r355), .val (.int (0 : Int32)), .val (.ref skipped), .unset] [(.int p0)]) _
                refine stp (fun _ => XS.aload X373.here hx rfl (hb hby at_545) rfl rfl) ?_
                show Go p e below T373 (mkF m 547 #[.val (.int p0), .val (.int p1), .val (.int p2), .val (.int p3), .val (.int cc), .val (.ref b1), .val (.int (p1 &&& (7 : Int32))), .val (.ref r355), .val (.int (0 : Int32)), .val (.ref skipped), .unset] [(.ref r355), (.int p0)]) _
                obtain ⟨_, _, ⟨T374, L374, k374, n374⟩, -, X374, hS374, gg374, ⟨Lc374, hQ374, l374, y374, z374, CRn374⟩, st374⟩ := callSS X373 hx (y := (⟨"com/example/fetch_to_rank/fetchtorank/crawl/Outcome", "of", "(ILjava/lang/String;)Lcom/example/fetch_to_rank/fetchtorank/crawl/Outcome;"⟩ : MethodName)) hown (mvT hZ (hw _ (List.mem_of_getElem? (i := 38) rfl))) (mvT hZ (hw _ (List.mem_of_getElem? (i := 39) rfl))) (mvT hZ (hw _ (List.mem_of_getElem? (i := 36) rfl))) (mvT hZ (hw _ (List.mem_of_getElem? (i := 40) rfl))) (by decide) (backOfSH (W := 0) (rm_of l Z a0 hw [] p0 r355 [cc] error_ page skipped skipped cz T355.heap n0 O355 hEL r355_0 S_ERROR S_PAGE S_SKIPPED S_CS hcz ⟨fun h => absurd h q510_359, fun h => absurd h q517_366, fun _ _ h => absurd h (own_neq (show (9 : Nat) ≠ 1 by decide)), fun _ _ _ => rfl⟩) hZ (hw _ (List.mem_of_getElem? (i := 40) rfl)) (hw _ (List.mem_of_getElem? (i := 36) rfl)) (by decide) (by decide) hEL CR.1) (g := (mkF m 547 #[.val (.int p0), .val (.int p1), .val (.int p2), .val (.int p3), .val (.int cc), .val (.ref b1), .val (.int (p1 &&& (7 : Int32))), .val (.ref r355), .val (.int (0 : Int32)), .val (.ref skipped), .unset] [(.ref r355), (.int p0)])) rfl (by rw [hml]; rfl) (argsL := [(.int p0), (.ref r355)]) (rest := []) (lenOf pd_6 rfl) rfl (by show 2 * 0 + _ ≤ _; exact Nat.le_of_eq rfl) (hb hby at_547) (fun _ _ => ⟨rfl, e373, (by decide : 3 + 2 ≤ _), (by decide : 14 + 40 ≤ _)⟩)
                dsimp only [Pt.U, Pt.locs, Pt.cells, Pt.slots] at X374 hS374 gg374 l374 y374 z374 st374 hQ374 CRn374
                subst y374 z374
                obtain ⟨X374, hS, hZ, hown⟩ := rebS hS (by rw [e373]; exact hk) X374 hS374 gg374 hZ hown
                obtain ⟨rfl, N374q, K374q⟩ := hQ374
                have N374 : Fr n0 L374 := by rw [l374]; exact Fr.app N355 N374q
                have f375 := f357.keep K374q
                have f376 := f358.keep K374q nin0
                have f377 := r355_0.keep K374q nin0 apart0
                have f378 := r355_0.exa.keep K374q
                have K374 : Keep h0 T374.heap [] := K355.trans K374q all0
                have O374 := O355.keep K374q all0
                have hk : T374.heap.size ≤ T374.heap.size := Nat.le_refl _
                have CR := CR.trans CRn374
                refine stt st374 ?_
                show Go p e below T374 (mkF m 550 #[.val (.int p0), .val (.int p1), .val (.int p2), .val (.int p3), .val (.int cc), .val (.ref b1), .val (.int (p1 &&& (7 : Int32))), .val (.ref r355), .val (.int (0 : Int32)), .val (.ref skipped), .unset] [(.ref skipped)]) _
                refine stp (fun _ => XS.aload X374.here hx rfl (hb hby at_550) rfl rfl) ?_
                show Go p e below T374 (mkF m 552 #[.val (.int p0), .val (.int p1), .val (.int p2), .val (.int p3), .val (.int cc), .val (.ref b1), .val (.int (p1 &&& (7 : Int32))), .val (.ref r355), .val (.int (0 : Int32)), .val (.ref skipped), .unset] [(.ref skipped), (.ref skipped)]) _
                refine stp (fun _ => Jvm.RoadKit.acmp (g := (mkF m 552 #[.val (.int p0), .val (.int p1), .val (.int p2), .val (.int p3), .val (.int cc), .val (.ref b1), .val (.int (p1 &&& (7 : Int32))), .val (.ref r355), .val (.int (0 : Int32)), .val (.ref skipped), .unset] [(.ref skipped), (.ref skipped)])) X374 hx rfl rfl rfl (pc0 := 552) (pc' := 555) (same := true) rfl (hb hby at_552) rfl (decide_eq_true rfl) (by decide) (by decide)) ?_
                show Go p e below T374 (mkF m 555 #[.val (.int p0), .val (.int p1), .val (.int p2), .val (.int p3), .val (.int cc), .val (.ref b1), .val (.int (p1 &&& (7 : Int32))), .val (.ref r355), .val (.int (0 : Int32)), .val (.ref skipped), .unset] []) _
                refine stp (fun _ => XS.iconst X374.here hx rfl (hb hby at_555)) ?_
                show Go p e below T374 (mkF m 556 #[.val (.int p0), .val (.int p1), .val (.int p2), .val (.int p3), .val (.int cc), .val (.ref b1), .val (.int (p1 &&& (7 : Int32))), .val (.ref r355), .val (.int (0 : Int32)), .val (.ref skipped), .unset] [(.int (1 : Int32))]) _
                refine stp (fun _ => XS.goto X374.here hx rfl (pc0 := 556) (pc' := 560) rfl (hb hby at_556) (by decide) (by decide)) ?_
                show Go p e below T374 (mkF m 560 #[.val (.int p0), .val (.int p1), .val (.int p2), .val (.int p3), .val (.int cc), .val (.ref b1), .val (.int (p1 &&& (7 : Int32))), .val (.ref r355), .val (.int (0 : Int32)), .val (.ref skipped), .unset] [(.int (1 : Int32))]) _
                refine outNW X374 hx hZ hEL rfl hS hk CR (t := .boolean) hret (by simp) (hb hby at_560) hlk (by decide) (by decide) ?_
                exact ⟨rfl, N374⟩
          · refine stp (fun _ => XS.icmpYes X26.here hx rfl (pc0 := 476) (pc' := 492) rfl (hb hby at_476) rfl (XT.ii_ne_t q476_354) (by decide) (by decide)) ?_
            show Go p e below T26 (mkF m 492 #[.val (.int p0), .val (.int p1), .val (.int p2), .val (.int p3), .val (.int cc), .val (.ref b1), .val (.int (p1 &&& (7 : Int32))), .unset, .unset, .unset, .unset] []) _
            obtain ⟨T379, h379, X379, e379, E379, A379, D379, -, st379⟩ := newO X26 hx hZ hown (hw _ (List.mem_of_getElem? (i := 6) rfl)) (hw _ (List.mem_of_getElem? (i := 7) rfl)) (hw _ (List.mem_of_getElem? (i := 8) rfl)) e26 (g := (mkF m 492 #[.val (.int p0), .val (.int p1), .val (.int p2), .val (.int p3), .val (.int cc), .val (.ref b1), .val (.int (p1 &&& (7 : Int32))), .unset, .unset, .unset, .unset] [])) rfl (hb hby at_492) (by decide) (by decide)
            obtain ⟨b379, g379⟩ : ∃ z, z = h26.size := ⟨_, rfl⟩
            rw [← g379] at A379 D379 st379
            have ne380 : b1 ≠ b379 := Nat.ne_of_lt (Nat.lt_of_lt_of_le f27.lt (Nat.le_of_eq g379.symm))
            have sz_b379 : h0.size ≤ b379 := Nat.le_trans K26.1 (Nat.le_of_eq g379.symm)
            have ge_b379 : n0 ≤ b379 := Nat.le_trans (old_le O26) (Nat.le_of_eq g379.symm)
            have f381 := f27.ext E379
            have f382 := V26.ext E379
            have Sf379 := (Safe.new (Z := Z) (EL := consts_1) (Nat.le_of_eq g379.symm)).ext E379 CR.1
            have hk := Nat.le_trans hk E379.1
            have CR := CR.trans (CHr.ext E379 CR.1)
            have K379 : Keep h0 h379 [] := K26.ext E379
            have O379 := O26.ext E379
            have F383 : Fld Z h379 b379 "java/lang/String" "coder" "B" (.int (0 : Int32)) := D379 (Or.inr (hw _ (List.mem_of_getElem? (i := 32) rfl))) (ty := .byte) (by decide)
            have F384 : Fld Z h379 b379 "java/lang/String" "value" "[B" .null := D379 (Or.inr (hw _ (List.mem_of_getElem? (i := 34) rfl))) (ty := (.array .byte)) (by decide)
            refine stp st379 ?_
            show Go p e below T379 (mkF m 495 #[.val (.int p0), .val (.int p1), .val (.int p2), .val (.int p3), .val (.int cc), .val (.ref b1), .val (.int (p1 &&& (7 : Int32))), .unset, .unset, .unset, .unset] [(.ref b379)]) _
            refine stp (fun _ => XS.dup X379.here hx rfl (hb hby at_495) rfl rfl) ?_
            show Go p e below T379 (mkF m 496 #[.val (.int p0), .val (.int p1), .val (.int p2), .val (.int p3), .val (.int cc), .val (.ref b1), .val (.int (p1 &&& (7 : Int32))), .unset, .unset, .unset, .unset] [(.ref b379), (.ref b379)]) _
            refine stp (fun _ => XS.aload X379.here hx rfl (hb hby at_496) rfl rfl) ?_
            show Go p e below T379 (mkF m 498 #[.val (.int p0), .val (.int p1), .val (.int p2), .val (.int p3), .val (.int cc), .val (.ref b1), .val (.int (p1 &&& (7 : Int32))), .unset, .unset, .unset, .unset] [(.ref b1), (.ref b379), (.ref b379)]) _
            obtain ⟨_, _, ⟨T385, L385, k385, n385⟩, -, X385, ⟨Lc385, hQ385, l385, y385, z385⟩, st385⟩ := X379.specialBack hx (y := (⟨"java/lang/String", "<init>", "([C)V"⟩ : MethodName)) rfl hown (mvT hZ (hw _ (List.mem_of_getElem? (i := 9) rfl))) (mvT hZ (hw _ (List.mem_of_getElem? (i := 10) rfl))) (mvT hZ (hw _ (List.mem_of_getElem? (i := 11) rfl))) (by decide) (StrChars.Road.backV (W := 1) hZ hws (kI := 4) (hw _ (List.mem_of_getElem? (i := 7) rfl)) (cs := ([(116 : Int32), (101 : Int32), (120 : Int32), (116 : Int32), (47 : Int32), (104 : Int32), (116 : Int32), (109 : Int32), (108 : Int32)] : List Int32)) (bs := ([(116 : Int32), (101 : Int32), (120 : Int32), (116 : Int32), (47 : Int32), (104 : Int32), (116 : Int32), (109 : Int32), (108 : Int32)] : List Int32).map (fun c => c.toInt8.toInt32)) (n := 9) ge_b379 (old_le O379) A379 F384 F383 f382 (S_CS.ext O379.2) hcz rfl rfl (by decide) (by decide) (own_sm1 ⟨by decide, by decide⟩ (own_sm1 ⟨by decide, by decide⟩ (own_sm1 ⟨by decide, by decide⟩ (own_sm1 ⟨by decide, by decide⟩ (own_sm1 ⟨by decide, by decide⟩ (own_sm1 ⟨by decide, by decide⟩ (own_sm1 ⟨by decide, by decide⟩ (own_sm1 ⟨by decide, by decide⟩ (own_sm1 ⟨by decide, by decide⟩ own_sm0))))))))) rfl (by decide) (by decide)) (g := (mkF m 498 #[.val (.int p0), .val (.int p1), .val (.int p2), .val (.int p3), .val (.int cc), .val (.ref b1), .val (.int (p1 &&& (7 : Int32))), .unset, .unset, .unset, .unset] [(.ref b1), (.ref b379), (.ref b379)])) rfl (by rw [hml]; rfl) (Steps.refl _) (a := b379) (argsL := [(.ref b1)]) (rest := [(.ref b379)]) (lenOf pd_5 rfl) rfl (by show 2 * 0 + _ ≤ _; exact Nat.le_of_eq rfl) (hb hby at_498) (fun _ _ => ⟨rfl, e379, (by decide : 2 + 1 ≤ _), (by decide : 13 + 9 ≤ _)⟩)
            dsimp only [Pt.U, Pt.locs, Pt.cells, Pt.slots] at X385 l385 y385 z385 st385 hQ385
            subst y385 z385
            obtain ⟨rfl, N385q, K385q, E385q, C385q, t385, kb385, ge_t385, sz385q, ne385q, F385q, V385q⟩ := hQ385
            have N385 : Fr n0 L385 := by rw [l385]; exact Fr.app N26 N385q
            have ne386 : b1 ≠ t385 := Nat.ne_of_lt (Nat.lt_of_lt_of_le f381.lt sz385q)
            have f387 := f381.keep K385q
            have f388 := f382.keep K385q (ninS ne380 nin0)
            have f389 := Sf379.keep K385q (sfS Sf379 sf0) CR.1
            have hk := Nat.le_trans hk K385q.1
            have CR := CR.trans (CHr.keep K385q (sfS Sf379 sf0) CR.1)
            have K385 : Keep h0 T385.heap [] := K379.trans K385q (allS (Or.inr sz_b379) all0)
            have sz_t385 : h0.size ≤ t385 := Nat.le_trans K379.1 sz385q
            have O385 := O379.keep K385q (allS ge_b379 all0)
            have Q385 : StrIs Z T385.heap b379 ([(116 : Int32), (101 : Int32), (120 : Int32), (116 : Int32), (47 : Int32), (104 : Int32), (116 : Int32), (109 : Int32), (108 : Int32)] : List Int32) := StrIs.of E385q F385q C385q V385q rfl rfl (own_sm1 ⟨by decide, by decide⟩ (own_sm1 ⟨by decide, by decide⟩ (own_sm1 ⟨by decide, by decide⟩ (own_sm1 ⟨by decide, by decide⟩ (own_sm1 ⟨by decide, by decide⟩ (own_sm1 ⟨by decide, by decide⟩ (own_sm1 ⟨by decide, by decide⟩ (own_sm1 ⟨by decide, by decide⟩ (own_sm1 ⟨by decide, by decide⟩ own_sm0))))))))) (Nat.le_of_ble_eq_true rfl)
            refine stt st385 ?_
            show Go p e below T385 (mkF m 501 #[.val (.int p0), .val (.int p1), .val (.int p2), .val (.int p3), .val (.int cc), .val (.ref b1), .val (.int (p1 &&& (7 : Int32))), .unset, .unset, .unset, .unset] [(.ref b379)]) _
            refine stp (fun _ => XS.astore X385.here hx rfl (hb hby at_501) rfl rfl (l' := #[.val (.int p0), .val (.int p1), .val (.int p2), .val (.int p3), .val (.int cc), .val (.ref b1), .val (.int (p1 &&& (7 : Int32))), .val (.ref b379), .unset, .unset, .unset]) rfl) ?_
            show Go p e below T385 (mkF m 503 #[.val (.int p0), .val (.int p1), .val (.int p2), .val (.int p3), .val (.int cc), .val (.ref b1), .val (.int (p1 &&& (7 : Int32))), .val (.ref b379), .unset, .unset, .unset] []) _
            refine stp (fun _ => XS.iconst X385.here hx rfl (hb hby at_503)) ?_
            show Go p e below T385 (mkF m 504 #[.val (.int p0), .val (.int p1), .val (.int p2), .val (.int p3), .val (.int cc), .val (.ref b1), .val (.int (p1 &&& (7 : Int32))), .val (.ref b379), .unset, .unset, .unset] [(.int (1 : Int32))]) _
            refine stp (fun _ => XS.istore X385.here hx rfl (hb hby at_504) rfl (l' := #[.val (.int p0), .val (.int p1), .val (.int p2), .val (.int p3), .val (.int cc), .val (.ref b1), .val (.int (p1 &&& (7 : Int32))), .val (.ref b379), .val (.int (1 : Int32)), .unset, .unset]) rfl) ?_
            show Go p e below T385 (mkF m 506 #[.val (.int p0), .val (.int p1), .val (.int p2), .val (.int p3), .val (.int cc), .val (.ref b1), .val (.int (p1 &&& (7 : Int32))), .val (.ref b379), .val (.int (1 : Int32)), .unset, .unset] []) _
            refine stp (fun _ => XS.iloadN X385.here hx rfl (hb hby at_506) rfl) ?_
            show Go p e below T385 (mkF m 507 #[.val (.int p0), .val (.int p1), .val (.int p2), .val (.int p3), .val (.int cc), .val (.ref b1), .val (.int (p1 &&& (7 : Int32))), .val (.ref b379), .val (.int (1 : Int32)), .unset, .unset] [(.int p0)]) _
            refine stp (fun _ => XS.sipush X385.here hx rfl (hb hby at_507)) ?_
            show Go p e below T385 (mkF m 510 #[.val (.int p0), .val (.int p1), .val (.int p2), .val (.int p3), .val (.int cc), .val (.ref b1), .val (.int (p1 &&& (7 : Int32))), .val (.ref b379), .val (.int (1 : Int32)), .unset, .unset] [(.int (200 : Int32)), (.int p0)]) _
            by_cases q510_390 : p0 < (200 : Int32)
            · refine stp (fun _ => XS.icmpYes X385.here hx rfl (pc0 := 510) (pc' := 539) rfl (hb hby at_510) rfl (XT.ii_lt_t q510_390) (by decide) (by decide)) ?_
              show Go p e below T385 (mkF m 539 #[.val (.int p0), .val (.int p1), .val (.int p2), .val (.int p3), .val (.int cc), .val (.ref b1), .val (.int (p1 &&& (7 : Int32))), .val (.ref b379), .val (.int (1 : Int32)), .unset, .unset] []) _
              obtain ⟨T391, X391, e391, st391⟩ := getS2 X385 hx hZ hown (host := "") (Or.inl (hw _ (List.mem_of_getElem? (i := 35) rfl))) Via.refl rfl (S_ERROR.ext O385.2) (g := (mkF m 539 #[.val (.int p0), .val (.int p1), .val (.int p2), .val (.int p3), .val (.int cc), .val (.ref b1), .val (.int (p1 &&& (7 : Int32))), .val (.ref b379), .val (.int (1 : Int32)), .unset, .unset] [])) rfl (hb hby at_539)
              refine stp st391 ?_
              show Go p e below T391 (mkF m 542 #[.val (.int p0), .val (.int p1), .val (.int p2), .val (.int p3), .val (.int cc), .val (.ref b1), .val (.int (p1 &&& (7 : Int32))), .val (.ref b379), .val (.int (1 : Int32)), .unset, .unset] [(.ref error_)]) _
              refine stp (fun _ => XS.astore X391.here hx rfl (hb hby at_542) rfl rfl (l' := #[.val (.int p0), .val (.int p1), .val (.int p2), .val (.int p3), .val (.int cc), .val (.ref b1), .val (.int (p1 &&& (7 : Int32))), .val (.ref b379), .val (.int (1 : Int32)), .val (.ref error_), .unset]) rfl) ?_
              show Go p e below T391 (mkF m 544 #[.val (.int p0), .val (.int p1), .val (.int p2), .val (.int p3), .val (.int cc), .val (.ref b1), .val (.int (p1 &&& (7 : Int32))), .val (.ref b379), .val (.int (1 : Int32)), .val (.ref error_), .unset] []) _
              refine stp (fun _ => XS.iloadN X391.here hx rfl (hb hby at_544) rfl) ?_
              show Go p e below T391 (mkF m 545 #[.val (.int p0), .val (.int p1), .val (.int p2), .val (.int p3), .val (.int cc), .val (.ref b1), .val (.int (p1 &&& (7 : Int32))), .val (.ref b379), .val (.int (1 : Int32)), .val (.ref error_), .unset] [(.int p0)]) _
              refine stp (fun _ => XS.aload X391.here hx rfl (hb hby at_545) rfl rfl) ?_
              show Go p e below T391 (mkF m 547 #[.val (.int p0), .val (.int p1), .val (.int p2), .val (.int p3), .val (.int cc), .val (.ref b1), .val (.int (p1 &&& (7 : Int32))), .val (.ref b379), .val (.int (1 : Int32)), .val (.ref error_), .unset] [(.ref b379), (.int p0)]) _
              obtain ⟨_, _, ⟨T392, L392, k392, n392⟩, -, X392, hS392, gg392, ⟨Lc392, hQ392, l392, y392, z392, CRn392⟩, st392⟩ := callSS X391 hx (y := (⟨"com/example/fetch_to_rank/fetchtorank/crawl/Outcome", "of", "(ILjava/lang/String;)Lcom/example/fetch_to_rank/fetchtorank/crawl/Outcome;"⟩ : MethodName)) hown (mvT hZ (hw _ (List.mem_of_getElem? (i := 38) rfl))) (mvT hZ (hw _ (List.mem_of_getElem? (i := 39) rfl))) (mvT hZ (hw _ (List.mem_of_getElem? (i := 36) rfl))) (mvT hZ (hw _ (List.mem_of_getElem? (i := 40) rfl))) (by decide) (backOfSH (W := 0) (rm_of l Z a0 hw [] p0 b379 ([(116 : Int32), (101 : Int32), (120 : Int32), (116 : Int32), (47 : Int32), (104 : Int32), (116 : Int32), (109 : Int32), (108 : Int32)] : List Int32) error_ page skipped error_ cz T385.heap n0 O385 hEL Q385 S_ERROR S_PAGE S_SKIPPED S_CS hcz ⟨fun _ => rfl, fun _ => rfl, fun h => absurd q510_390 h, fun h => absurd q510_390 h⟩) hZ (hw _ (List.mem_of_getElem? (i := 40) rfl)) (hw _ (List.mem_of_getElem? (i := 36) rfl)) (by decide) (by decide) hEL CR.1) (g := (mkF m 547 #[.val (.int p0), .val (.int p1), .val (.int p2), .val (.int p3), .val (.int cc), .val (.ref b1), .val (.int (p1 &&& (7 : Int32))), .val (.ref b379), .val (.int (1 : Int32)), .val (.ref error_), .unset] [(.ref b379), (.int p0)])) rfl (by rw [hml]; rfl) (argsL := [(.int p0), (.ref b379)]) (rest := []) (lenOf pd_6 rfl) rfl (by show 2 * 0 + _ ≤ _; exact Nat.le_of_eq rfl) (hb hby at_547) (fun _ _ => ⟨rfl, e391, (by decide : 3 + 2 ≤ _), (by decide : 22 + 40 ≤ _)⟩)
              dsimp only [Pt.U, Pt.locs, Pt.cells, Pt.slots] at X392 hS392 gg392 l392 y392 z392 st392 hQ392 CRn392
              subst y392 z392
              obtain ⟨X392, hS, hZ, hown⟩ := rebS hS (by rw [e391]; exact hk) X392 hS392 gg392 hZ hown
              obtain ⟨rfl, N392q, K392q⟩ := hQ392
              have N392 : Fr n0 L392 := by rw [l392]; exact Fr.app N385 N392q
              have f393 := f387.keep K392q
              have f394 := f388.keep K392q nin0
              have f395 := CRn392.safe E385q.lt f389
              have f396 := E385q.keep K392q
              have f397 := Q385.keep K392q nin0 apart0
              have K392 : Keep h0 T392.heap [] := K385.trans K392q all0
              have O392 := O385.keep K392q all0
              have hk : T392.heap.size ≤ T392.heap.size := Nat.le_refl _
              have CR := CR.trans CRn392
              refine stt st392 ?_
              show Go p e below T392 (mkF m 550 #[.val (.int p0), .val (.int p1), .val (.int p2), .val (.int p3), .val (.int cc), .val (.ref b1), .val (.int (p1 &&& (7 : Int32))), .val (.ref b379), .val (.int (1 : Int32)), .val (.ref error_), .unset] [(.ref error_)]) _
              refine stp (fun _ => XS.aload X392.here hx rfl (hb hby at_550) rfl rfl) ?_
              show Go p e below T392 (mkF m 552 #[.val (.int p0), .val (.int p1), .val (.int p2), .val (.int p3), .val (.int cc), .val (.ref b1), .val (.int (p1 &&& (7 : Int32))), .val (.ref b379), .val (.int (1 : Int32)), .val (.ref error_), .unset] [(.ref error_), (.ref error_)]) _
              refine stp (fun _ => Jvm.RoadKit.acmp (g := (mkF m 552 #[.val (.int p0), .val (.int p1), .val (.int p2), .val (.int p3), .val (.int cc), .val (.ref b1), .val (.int (p1 &&& (7 : Int32))), .val (.ref b379), .val (.int (1 : Int32)), .val (.ref error_), .unset] [(.ref error_), (.ref error_)])) X392 hx rfl rfl rfl (pc0 := 552) (pc' := 555) (same := true) rfl (hb hby at_552) rfl (decide_eq_true rfl) (by decide) (by decide)) ?_
              show Go p e below T392 (mkF m 555 #[.val (.int p0), .val (.int p1), .val (.int p2), .val (.int p3), .val (.int cc), .val (.ref b1), .val (.int (p1 &&& (7 : Int32))), .val (.ref b379), .val (.int (1 : Int32)), .val (.ref error_), .unset] []) _
              refine stp (fun _ => XS.iconst X392.here hx rfl (hb hby at_555)) ?_
              show Go p e below T392 (mkF m 556 #[.val (.int p0), .val (.int p1), .val (.int p2), .val (.int p3), .val (.int cc), .val (.ref b1), .val (.int (p1 &&& (7 : Int32))), .val (.ref b379), .val (.int (1 : Int32)), .val (.ref error_), .unset] [(.int (1 : Int32))]) _
              refine stp (fun _ => XS.goto X392.here hx rfl (pc0 := 556) (pc' := 560) rfl (hb hby at_556) (by decide) (by decide)) ?_
              show Go p e below T392 (mkF m 560 #[.val (.int p0), .val (.int p1), .val (.int p2), .val (.int p3), .val (.int cc), .val (.ref b1), .val (.int (p1 &&& (7 : Int32))), .val (.ref b379), .val (.int (1 : Int32)), .val (.ref error_), .unset] [(.int (1 : Int32))]) _
              refine outNW X392 hx hZ hEL rfl hS hk CR (t := .boolean) hret (by simp) (hb hby at_560) hlk (by decide) (by decide) ?_
              exact ⟨rfl, N392⟩
            · refine stp (fun _ => XS.icmpNo X385.here hx rfl (hb hby at_510) rfl (XT.ii_lt_f q510_390)) ?_
              show Go p e below T385 (mkF m 513 #[.val (.int p0), .val (.int p1), .val (.int p2), .val (.int p3), .val (.int cc), .val (.ref b1), .val (.int (p1 &&& (7 : Int32))), .val (.ref b379), .val (.int (1 : Int32)), .unset, .unset] []) _
              refine stp (fun _ => XS.iloadN X385.here hx rfl (hb hby at_513) rfl) ?_
              show Go p e below T385 (mkF m 514 #[.val (.int p0), .val (.int p1), .val (.int p2), .val (.int p3), .val (.int cc), .val (.ref b1), .val (.int (p1 &&& (7 : Int32))), .val (.ref b379), .val (.int (1 : Int32)), .unset, .unset] [(.int p0)]) _
              refine stp (fun _ => XS.sipush X385.here hx rfl (hb hby at_514)) ?_
              show Go p e below T385 (mkF m 517 #[.val (.int p0), .val (.int p1), .val (.int p2), .val (.int p3), .val (.int cc), .val (.ref b1), .val (.int (p1 &&& (7 : Int32))), .val (.ref b379), .val (.int (1 : Int32)), .unset, .unset] [(.int (299 : Int32)), (.int p0)]) _
              by_cases q517_398 : (299 : Int32) < p0
              · refine stp (fun _ => XS.icmpYes X385.here hx rfl (pc0 := 517) (pc' := 539) rfl (hb hby at_517) rfl (XT.ii_gt_t q517_398) (by decide) (by decide)) ?_
                show Go p e below T385 (mkF m 539 #[.val (.int p0), .val (.int p1), .val (.int p2), .val (.int p3), .val (.int cc), .val (.ref b1), .val (.int (p1 &&& (7 : Int32))), .val (.ref b379), .val (.int (1 : Int32)), .unset, .unset] []) _
                obtain ⟨T399, X399, e399, st399⟩ := getS2 X385 hx hZ hown (host := "") (Or.inl (hw _ (List.mem_of_getElem? (i := 35) rfl))) Via.refl rfl (S_ERROR.ext O385.2) (g := (mkF m 539 #[.val (.int p0), .val (.int p1), .val (.int p2), .val (.int p3), .val (.int cc), .val (.ref b1), .val (.int (p1 &&& (7 : Int32))), .val (.ref b379), .val (.int (1 : Int32)), .unset, .unset] [])) rfl (hb hby at_539)
                refine stp st399 ?_
                show Go p e below T399 (mkF m 542 #[.val (.int p0), .val (.int p1), .val (.int p2), .val (.int p3), .val (.int cc), .val (.ref b1), .val (.int (p1 &&& (7 : Int32))), .val (.ref b379), .val (.int (1 : Int32)), .unset, .unset] [(.ref error_)]) _
                refine stp (fun _ => XS.astore X399.here hx rfl (hb hby at_542) rfl rfl (l' := #[.val (.int p0), .val (.int p1), .val (.int p2), .val (.int p3), .val (.int cc), .val (.ref b1), .val (.int (p1 &&& (7 : Int32))), .val (.ref b379), .val (.int (1 : Int32)), .val (.ref error_), .unset]) rfl) ?_
                show Go p e below T399 (mkF m 544 #[.val (.int p0), .val (.int p1), .val (.int p2), .val (.int p3), .val (.int cc), .val (.ref b1), .val (.int (p1 &&& (7 : Int32))), .val (.ref b379), .val (.int (1 : Int32)), .val (.ref error_), .unset] []) _
                refine stp (fun _ => XS.iloadN X399.here hx rfl (hb hby at_544) rfl) ?_
                show Go p e below T399 (mkF m 545 #[.val (.int p0), .val (.int p1), .val (.int p2), .val (.int p3), .val (.int cc), .val (.ref b1), .val (.int (p1 &&& (7 : Int32))), .val (.ref b379), .val (.int (1 : Int32)), .val (.ref error_), .unset] [(.int p0)]) _
                refine stp (fun _ => XS.aload X399.here hx rfl (hb hby at_545) rfl rfl) ?_
                show Go p e below T399 (mkF m 547 #[.val (.int p0), .val (.int p1), .val (.int p2), .val (.int p3), .val (.int cc), .val (.ref b1), .val (.int (p1 &&& (7 : Int32))), .val (.ref b379), .val (.int (1 : Int32)), .val (.ref error_), .unset] [(.ref b379), (.int p0)]) _
                obtain ⟨_, _, ⟨T400, L400, k400, n400⟩, -, X400, hS400, gg400, ⟨Lc400, hQ400, l400, y400, z400, CRn400⟩, st400⟩ := callSS X399 hx (y := (⟨"com/example/fetch_to_rank/fetchtorank/crawl/Outcome", "of", "(ILjava/lang/String;)Lcom/example/fetch_to_rank/fetchtorank/crawl/Outcome;"⟩ : MethodName)) hown (mvT hZ (hw _ (List.mem_of_getElem? (i := 38) rfl))) (mvT hZ (hw _ (List.mem_of_getElem? (i := 39) rfl))) (mvT hZ (hw _ (List.mem_of_getElem? (i := 36) rfl))) (mvT hZ (hw _ (List.mem_of_getElem? (i := 40) rfl))) (by decide) (backOfSH (W := 0) (rm_of l Z a0 hw [] p0 b379 ([(116 : Int32), (101 : Int32), (120 : Int32), (116 : Int32), (47 : Int32), (104 : Int32), (116 : Int32), (109 : Int32), (108 : Int32)] : List Int32) error_ page skipped error_ cz T385.heap n0 O385 hEL Q385 S_ERROR S_PAGE S_SKIPPED S_CS hcz ⟨fun _ => rfl, fun _ => rfl, fun _ h => absurd q517_398 h, fun _ h => absurd q517_398 h⟩) hZ (hw _ (List.mem_of_getElem? (i := 40) rfl)) (hw _ (List.mem_of_getElem? (i := 36) rfl)) (by decide) (by decide) hEL CR.1) (g := (mkF m 547 #[.val (.int p0), .val (.int p1), .val (.int p2), .val (.int p3), .val (.int cc), .val (.ref b1), .val (.int (p1 &&& (7 : Int32))), .val (.ref b379), .val (.int (1 : Int32)), .val (.ref error_), .unset] [(.ref b379), (.int p0)])) rfl (by rw [hml]; rfl) (argsL := [(.int p0), (.ref b379)]) (rest := []) (lenOf pd_6 rfl) rfl (by show 2 * 0 + _ ≤ _; exact Nat.le_of_eq rfl) (hb hby at_547) (fun _ _ => ⟨rfl, e399, (by decide : 3 + 2 ≤ _), (by decide : 22 + 40 ≤ _)⟩)
                dsimp only [Pt.U, Pt.locs, Pt.cells, Pt.slots] at X400 hS400 gg400 l400 y400 z400 st400 hQ400 CRn400
                subst y400 z400
                obtain ⟨X400, hS, hZ, hown⟩ := rebS hS (by rw [e399]; exact hk) X400 hS400 gg400 hZ hown
                obtain ⟨rfl, N400q, K400q⟩ := hQ400
                have N400 : Fr n0 L400 := by rw [l400]; exact Fr.app N385 N400q
                have f401 := f387.keep K400q
                have f402 := f388.keep K400q nin0
                have f403 := CRn400.safe E385q.lt f389
                have f404 := E385q.keep K400q
                have f405 := Q385.keep K400q nin0 apart0
                have K400 : Keep h0 T400.heap [] := K385.trans K400q all0
                have O400 := O385.keep K400q all0
                have hk : T400.heap.size ≤ T400.heap.size := Nat.le_refl _
                have CR := CR.trans CRn400
                refine stt st400 ?_
                show Go p e below T400 (mkF m 550 #[.val (.int p0), .val (.int p1), .val (.int p2), .val (.int p3), .val (.int cc), .val (.ref b1), .val (.int (p1 &&& (7 : Int32))), .val (.ref b379), .val (.int (1 : Int32)), .val (.ref error_), .unset] [(.ref error_)]) _
                refine stp (fun _ => XS.aload X400.here hx rfl (hb hby at_550) rfl rfl) ?_
                show Go p e below T400 (mkF m 552 #[.val (.int p0), .val (.int p1), .val (.int p2), .val (.int p3), .val (.int cc), .val (.ref b1), .val (.int (p1 &&& (7 : Int32))), .val (.ref b379), .val (.int (1 : Int32)), .val (.ref error_), .unset] [(.ref error_), (.ref error_)]) _
                refine stp (fun _ => Jvm.RoadKit.acmp (g := (mkF m 552 #[.val (.int p0), .val (.int p1), .val (.int p2), .val (.int p3), .val (.int cc), .val (.ref b1), .val (.int (p1 &&& (7 : Int32))), .val (.ref b379), .val (.int (1 : Int32)), .val (.ref error_), .unset] [(.ref error_), (.ref error_)])) X400 hx rfl rfl rfl (pc0 := 552) (pc' := 555) (same := true) rfl (hb hby at_552) rfl (decide_eq_true rfl) (by decide) (by decide)) ?_
                show Go p e below T400 (mkF m 555 #[.val (.int p0), .val (.int p1), .val (.int p2), .val (.int p3), .val (.int cc), .val (.ref b1), .val (.int (p1 &&& (7 : Int32))), .val (.ref b379), .val (.int (1 : Int32)), .val (.ref error_), .unset] []) _
                refine stp (fun _ => XS.iconst X400.here hx rfl (hb hby at_555)) ?_
                show Go p e below T400 (mkF m 556 #[.val (.int p0), .val (.int p1), .val (.int p2), .val (.int p3), .val (.int cc), .val (.ref b1), .val (.int (p1 &&& (7 : Int32))), .val (.ref b379), .val (.int (1 : Int32)), .val (.ref error_), .unset] [(.int (1 : Int32))]) _
                refine stp (fun _ => XS.goto X400.here hx rfl (pc0 := 556) (pc' := 560) rfl (hb hby at_556) (by decide) (by decide)) ?_
                show Go p e below T400 (mkF m 560 #[.val (.int p0), .val (.int p1), .val (.int p2), .val (.int p3), .val (.int cc), .val (.ref b1), .val (.int (p1 &&& (7 : Int32))), .val (.ref b379), .val (.int (1 : Int32)), .val (.ref error_), .unset] [(.int (1 : Int32))]) _
                refine outNW X400 hx hZ hEL rfl hS hk CR (t := .boolean) hret (by simp) (hb hby at_560) hlk (by decide) (by decide) ?_
                exact ⟨rfl, N400⟩
              · refine stp (fun _ => XS.icmpNo X385.here hx rfl (hb hby at_517) rfl (XT.ii_gt_f q517_398)) ?_
                show Go p e below T385 (mkF m 520 #[.val (.int p0), .val (.int p1), .val (.int p2), .val (.int p3), .val (.int cc), .val (.ref b1), .val (.int (p1 &&& (7 : Int32))), .val (.ref b379), .val (.int (1 : Int32)), .unset, .unset] []) _
                refine stp (fun _ => XS.iload X385.here hx rfl (hb hby at_520) rfl) ?_
                show Go p e below T385 (mkF m 522 #[.val (.int p0), .val (.int p1), .val (.int p2), .val (.int p3), .val (.int cc), .val (.ref b1), .val (.int (p1 &&& (7 : Int32))), .val (.ref b379), .val (.int (1 : Int32)), .unset, .unset] [(.int (1 : Int32))]) _
                refine stp (fun _ => XS.ifNo X385.here hx rfl (hb hby at_522) rfl (by decide)) ?_
                show Go p e below T385 (mkF m 525 #[.val (.int p0), .val (.int p1), .val (.int p2), .val (.int p3), .val (.int cc), .val (.ref b1), .val (.int (p1 &&& (7 : Int32))), .val (.ref b379), .val (.int (1 : Int32)), .unset, .unset] []) _
                obtain ⟨T406, X406, e406, st406⟩ := getS2 X385 hx hZ hown (host := "") (Or.inl (hw _ (List.mem_of_getElem? (i := 62) rfl))) Via.refl rfl (S_PAGE.ext O385.2) (g := (mkF m 525 #[.val (.int p0), .val (.int p1), .val (.int p2), .val (.int p3), .val (.int cc), .val (.ref b1), .val (.int (p1 &&& (7 : Int32))), .val (.ref b379), .val (.int (1 : Int32)), .unset, .unset] [])) rfl (hb hby at_525)
                refine stp st406 ?_
                show Go p e below T406 (mkF m 528 #[.val (.int p0), .val (.int p1), .val (.int p2), .val (.int p3), .val (.int cc), .val (.ref b1), .val (.int (p1 &&& (7 : Int32))), .val (.ref b379), .val (.int (1 : Int32)), .unset, .unset] [(.ref page)]) _
                refine stp (fun _ => XS.goto X406.here hx rfl (pc0 := 528) (pc' := 534) rfl (hb hby at_528) (by decide) (by decide)) ?_
                show Go p e below T406 (mkF m 534 #[.val (.int p0), .val (.int p1), .val (.int p2), .val (.int p3), .val (.int cc), .val (.ref b1), .val (.int (p1 &&& (7 : Int32))), .val (.ref b379), .val (.int (1 : Int32)), .unset, .unset] [(.ref page)]) _
                refine stp (fun _ => XS.astore X406.here hx rfl (hb hby at_534) rfl rfl (l' := #[.val (.int p0), .val (.int p1), .val (.int p2), .val (.int p3), .val (.int cc), .val (.ref b1), .val (.int (p1 &&& (7 : Int32))), .val (.ref b379), .val (.int (1 : Int32)), .val (.ref page), .unset]) rfl) ?_
                show Go p e below T406 (mkF m 536 #[.val (.int p0), .val (.int p1), .val (.int p2), .val (.int p3), .val (.int cc), .val (.ref b1), .val (.int (p1 &&& (7 : Int32))), .val (.ref b379), .val (.int (1 : Int32)), .val (.ref page), .unset] []) _
                refine stp (fun _ => XS.goto X406.here hx rfl (pc0 := 536) (pc' := 544) rfl (hb hby at_536) (by decide) (by decide)) ?_
                show Go p e below T406 (mkF m 544 #[.val (.int p0), .val (.int p1), .val (.int p2), .val (.int p3), .val (.int cc), .val (.ref b1), .val (.int (p1 &&& (7 : Int32))), .val (.ref b379), .val (.int (1 : Int32)), .val (.ref page), .unset] []) _
                refine stp (fun _ => XS.iloadN X406.here hx rfl (hb hby at_544) rfl) ?_
                show Go p e below T406 (mkF m 545 #[.val (.int p0), .val (.int p1), .val (.int p2), .val (.int p3), .val (.int cc), .val (.ref b1), .val (.int (p1 &&& (7 : Int32))), .val (.ref b379), .val (.int (1 : Int32)), .val (.ref page), .unset] [(.int p0)]) _
                refine stp (fun _ => XS.aload X406.here hx rfl (hb hby at_545) rfl rfl) ?_
                show Go p e below T406 (mkF m 547 #[.val (.int p0), .val (.int p1), .val (.int p2), .val (.int p3), .val (.int cc), .val (.ref b1), .val (.int (p1 &&& (7 : Int32))), .val (.ref b379), .val (.int (1 : Int32)), .val (.ref page), .unset] [(.ref b379), (.int p0)]) _
                obtain ⟨_, _, ⟨T407, L407, k407, n407⟩, -, X407, hS407, gg407, ⟨Lc407, hQ407, l407, y407, z407, CRn407⟩, st407⟩ := callSS X406 hx (y := (⟨"com/example/fetch_to_rank/fetchtorank/crawl/Outcome", "of", "(ILjava/lang/String;)Lcom/example/fetch_to_rank/fetchtorank/crawl/Outcome;"⟩ : MethodName)) hown (mvT hZ (hw _ (List.mem_of_getElem? (i := 38) rfl))) (mvT hZ (hw _ (List.mem_of_getElem? (i := 39) rfl))) (mvT hZ (hw _ (List.mem_of_getElem? (i := 36) rfl))) (mvT hZ (hw _ (List.mem_of_getElem? (i := 40) rfl))) (by decide) (backOfSH (W := 0) (rm_of l Z a0 hw [] p0 b379 ([(116 : Int32), (101 : Int32), (120 : Int32), (116 : Int32), (47 : Int32), (104 : Int32), (116 : Int32), (109 : Int32), (108 : Int32)] : List Int32) error_ page skipped page cz T385.heap n0 O385 hEL Q385 S_ERROR S_PAGE S_SKIPPED S_CS hcz ⟨fun h => absurd h q510_390, fun h => absurd h q517_398, fun _ _ _ => rfl, fun _ _ h => absurd rfl h⟩) hZ (hw _ (List.mem_of_getElem? (i := 40) rfl)) (hw _ (List.mem_of_getElem? (i := 36) rfl)) (by decide) (by decide) hEL CR.1) (g := (mkF m 547 #[.val (.int p0), .val (.int p1), .val (.int p2), .val (.int p3), .val (.int cc), .val (.ref b1), .val (.int (p1 &&& (7 : Int32))), .val (.ref b379), .val (.int (1 : Int32)), .val (.ref page), .unset] [(.ref b379), (.int p0)])) rfl (by rw [hml]; rfl) (argsL := [(.int p0), (.ref b379)]) (rest := []) (lenOf pd_6 rfl) rfl (by show 2 * 0 + _ ≤ _; exact Nat.le_of_eq rfl) (hb hby at_547) (fun _ _ => ⟨rfl, e406, (by decide : 3 + 2 ≤ _), (by decide : 22 + 40 ≤ _)⟩)
                dsimp only [Pt.U, Pt.locs, Pt.cells, Pt.slots] at X407 hS407 gg407 l407 y407 z407 st407 hQ407 CRn407
                subst y407 z407
                obtain ⟨X407, hS, hZ, hown⟩ := rebS hS (by rw [e406]; exact hk) X407 hS407 gg407 hZ hown
                obtain ⟨rfl, N407q, K407q⟩ := hQ407
                have N407 : Fr n0 L407 := by rw [l407]; exact Fr.app N385 N407q
                have f408 := f387.keep K407q
                have f409 := f388.keep K407q nin0
                have f410 := CRn407.safe E385q.lt f389
                have f411 := E385q.keep K407q
                have f412 := Q385.keep K407q nin0 apart0
                have K407 : Keep h0 T407.heap [] := K385.trans K407q all0
                have O407 := O385.keep K407q all0
                have hk : T407.heap.size ≤ T407.heap.size := Nat.le_refl _
                have CR := CR.trans CRn407
                refine stt st407 ?_
                show Go p e below T407 (mkF m 550 #[.val (.int p0), .val (.int p1), .val (.int p2), .val (.int p3), .val (.int cc), .val (.ref b1), .val (.int (p1 &&& (7 : Int32))), .val (.ref b379), .val (.int (1 : Int32)), .val (.ref page), .unset] [(.ref page)]) _
                refine stp (fun _ => XS.aload X407.here hx rfl (hb hby at_550) rfl rfl) ?_
                show Go p e below T407 (mkF m 552 #[.val (.int p0), .val (.int p1), .val (.int p2), .val (.int p3), .val (.int cc), .val (.ref b1), .val (.int (p1 &&& (7 : Int32))), .val (.ref b379), .val (.int (1 : Int32)), .val (.ref page), .unset] [(.ref page), (.ref page)]) _
                refine stp (fun _ => Jvm.RoadKit.acmp (g := (mkF m 552 #[.val (.int p0), .val (.int p1), .val (.int p2), .val (.int p3), .val (.int cc), .val (.ref b1), .val (.int (p1 &&& (7 : Int32))), .val (.ref b379), .val (.int (1 : Int32)), .val (.ref page), .unset] [(.ref page), (.ref page)])) X407 hx rfl rfl rfl (pc0 := 552) (pc' := 555) (same := true) rfl (hb hby at_552) rfl (decide_eq_true rfl) (by decide) (by decide)) ?_
                show Go p e below T407 (mkF m 555 #[.val (.int p0), .val (.int p1), .val (.int p2), .val (.int p3), .val (.int cc), .val (.ref b1), .val (.int (p1 &&& (7 : Int32))), .val (.ref b379), .val (.int (1 : Int32)), .val (.ref page), .unset] []) _
                refine stp (fun _ => XS.iconst X407.here hx rfl (hb hby at_555)) ?_
                show Go p e below T407 (mkF m 556 #[.val (.int p0), .val (.int p1), .val (.int p2), .val (.int p3), .val (.int cc), .val (.ref b1), .val (.int (p1 &&& (7 : Int32))), .val (.ref b379), .val (.int (1 : Int32)), .val (.ref page), .unset] [(.int (1 : Int32))]) _
                refine stp (fun _ => XS.goto X407.here hx rfl (pc0 := 556) (pc' := 560) rfl (hb hby at_556) (by decide) (by decide)) ?_
                show Go p e below T407 (mkF m 560 #[.val (.int p0), .val (.int p1), .val (.int p2), .val (.int p3), .val (.int cc), .val (.ref b1), .val (.int (p1 &&& (7 : Int32))), .val (.ref b379), .val (.int (1 : Int32)), .val (.ref page), .unset] [(.int (1 : Int32))]) _
                refine outNW X407 hx hZ hEL rfl hS hk CR (t := .boolean) hret (by simp) (hb hby at_560) hlk (by decide) (by decide) ?_
                exact ⟨rfl, N407⟩
set_option maxRecDepth 65536 in
set_option maxHeartbeats 40000000 in
theorem comes_1 {Post : Tables → Env → Array Value → State → Outcome → State → Prop} (hpost : ∀ tb e args s v u, (limb_1_1.after args s (.returned v) u = true ∧ limb_1_2.after args s (.returned v) u = true ∧ True) → Jvm.D.FramedW s (.returned v) u (Jvm.fieldLocs frame_1_writes args s ++ Jvm.arrayLocs frame_1_arrays args s ++ Jvm.staticLocs frame_1_statics s) 24 2240 → Post tb e args s (.returned v) u) :
    ArmFor flags0 classFile x code maxLocals ret World_1 tables_1 room_1 Calls_1 rest_1 Pre_1 Post := by
  intro l hfl _ _ p e ha hc hk s m args below hf hA hF happ hP
  obtain ⟨hcalls, hrest, hpre⟩ := hP
  obtain ⟨-, -, -, hnamed, -, -, -, hat⟩ := (Spec.applies_iff hf).mp happ
  obtain ⟨hg, hn⟩ := and_e (Cond.before_iff.mp (show (Jvm.Cond.and given_1 narrow_1).before args s = true from hpre))
  obtain ⟨g1, g2⟩ := and_e hg
  obtain ⟨g3, g4⟩ := and_e g2
  obtain ⟨g5, g6⟩ := and_e g4
  obtain ⟨g7, g8⟩ := and_e g6
  obtain ⟨w0, w1, w2, w3, rfl⟩ : ∃ w0 w1 w2 w3 : Value, args = #[w0, w1, w2, w3] := by
    have hs : args.size = 4 := by simpa [Cond.value, given_1] using g1
    obtain ⟨L⟩ := args
    match L, hs with
    | [w0, w1, w2, w3], _ => exact ⟨w0, w1, w2, w3, rfl⟩
  have hw := fun d (hd : d ∈ tables_1) => atoms_spec (ws := Jvm.Cond.code x code maxLocals ret :: tables_1) hat d (List.mem_cons_of_mem _ hd)
  have hfit : Fit s := fun {y c} hc i hi => by
    obtain ⟨ha, rfl⟩ := Array.getElem?_eq_some_iff.mp hc
    have q := List.all_eq_true.mp ((Array.all_eq_true_iff_forall_mem.mp hF) _ (Array.getElem_mem ha)) i (List.mem_range.mpr hi)
    simpa [Array.getElem?_eq_getElem hi] using q
  obtain ⟨i0, ei0⟩ := is_v g3
  obtain rfl : w0 = (.int i0) := Option.some.inj ei0
  obtain ⟨i1, ei1⟩ := is_v g5
  obtain rfl : w1 = (.int i1) := Option.some.inj ei1
  obtain ⟨i2, ei2⟩ := is_v g7
  obtain rfl : w2 = (.int i2) := Option.some.inj ei2
  obtain ⟨i3, ei3⟩ := is_v g8
  obtain rfl : w3 = (.int i3) := Option.some.inj ei3
  obtain ⟨g9, g10⟩ := and_e hn
  obtain ⟨a_ERROR, ev_a_ERROR⟩ := exa_v g9
  have S_a_ERROR := Sta.start ev_a_ERROR (Or.inr ⟨(hw _ (List.mem_of_getElem? (i := 36) rfl)), (hw _ (List.mem_of_getElem? (i := 37) rfl))⟩)
  have E_a_ERROR := Exa.start ev_a_ERROR g9
  obtain ⟨g11, g12⟩ := and_e g10
  obtain ⟨a_PAGE, ev_a_PAGE⟩ := exa_v g11
  have S_a_PAGE := Sta.start ev_a_PAGE (Or.inr ⟨(hw _ (List.mem_of_getElem? (i := 36) rfl)), (hw _ (List.mem_of_getElem? (i := 63) rfl))⟩)
  have E_a_PAGE := Exa.start ev_a_PAGE g11
  obtain ⟨a_SKIPPED, ev_a_SKIPPED⟩ := exa_v g12
  have S_a_SKIPPED := Sta.start ev_a_SKIPPED (Or.inr ⟨(hw _ (List.mem_of_getElem? (i := 36) rfl)), (hw _ (List.mem_of_getElem? (i := 75) rfl))⟩)
  have E_a_SKIPPED := Exa.start ev_a_SKIPPED g12
  obtain ⟨hsets, hown0⟩ := atoms_of _ (rest_1_c_eq ▸ (show rest_1_c.before _ s = true from hrest))
  have hr0 := Cond.before_iff.mp hown0
  obtain ⟨z_COMPACT_STRINGS, ez_COMPACT_STRINGS⟩ := is_v (Cond.before_iff.mp (hsets _ (List.mem_of_getElem? (i := 1) rfl)))
  have S_z_COMPACT_STRINGS := Sta.start ez_COMPACT_STRINGS (Or.inl (hsets _ (List.mem_of_getElem? (i := 0) rfl)))
  have c_COMPACT_STRINGS : ¬ (z_COMPACT_STRINGS = (0 : Int32)) := gotF (Cond.eq_ints ez_COMPACT_STRINGS (Term.int_eval (0))) (not_v (Cond.before_iff.mp (hsets _ (List.mem_of_getElem? (i := 2) rfl))))
  obtain ⟨v_SIOOBE_FORMATTER, ez_SIOOBE_FORMATTER, r_SIOOBE_FORMATTER⟩ := isR_v (Cond.before_iff.mp (hsets _ (List.mem_of_getElem? (i := 8) rfl)))
  have S_v_SIOOBE_FORMATTER := Sta.start ez_SIOOBE_FORMATTER (Or.inl (hsets _ (List.mem_of_getElem? (i := 7) rfl)))
  have hEL : EW s _ consts_1 := own_EW hw
  have hCH : CHv s consts_1 s.vm s.heap := CHv.start hEL (fun p hp => hcalls.1 p hp) (hsets _ (List.mem_of_getElem? (i := 2) rfl)) (hw _ (List.mem_of_getElem? (i := 24) rfl)) (hw _ (List.mem_of_getElem? (i := 7) rfl))
  obtain ⟨n, o, h1, h2, h3, _, L, rfl, ⟨rfl, N⟩, -, hq⟩ := rm0 l s _ hw tables_1 i0 i1 i2 i3 a_ERROR a_PAGE a_SKIPPED z_COMPACT_STRINGS s.heap s.heap.size (Old.start s) hEL S_a_ERROR S_a_PAGE S_a_SKIPPED S_z_COMPACT_STRINGS c_COMPACT_STRINGS p e ha hc hk s m _ below hf ((Spec.applies_iff_loose hf).mp happ).1 ⟨rfl, State.Warmed39.refl s, rfl, hCH⟩ trivial
  refine ⟨n, _, h1, h2, h3, hpost _ _ _ _ _ _ ⟨Cond.after_iff.mpr rfl, Cond.after_iff.mpr (eq_i res_at (Term.int_eval (1)) rfl), trivial⟩ ⟨hq.1, hq.2.1, hq.2.2.1, (hq.2.2.2.sift fun y hy => Or.inr (N y hy)).mono (by decide) (by decide)⟩⟩
theorem main_1_1 : Claimed_1_1 := comes_1 fun _ _ _ _ _ _ h hF => ⟨h.1, hF⟩
theorem main_1_2 : Claimed_1_2 := comes_1 fun _ _ _ _ _ _ h hF => ⟨h.2.1, hF⟩
end Jvm.Pilot.@@N@@
namespace Jvm.Pilot.@@N@@
open Jvm Jvm.ClassFile Sem Op Lib Jvm.Free Jvm.Stand Jvm.Pilot.@@N@@.Jvm.D
/-! MADE BY PROGRAM (witnessworld.py) out of the Statement's table words and the real class files: 21 classes; the members and pool entries that the words name. The judged class is class 1, her method 3. -/
namespace start1
open Jvm.ClassFile
def u (s : String) : CpInfo := .utf8 (stringToUtf16 s)
/-- a pool by its gaps: so many unusable entries, then the entry; so many at the end -/
def gap : Nat → List CpInfo → List CpInfo
  | 0, r => r
  | n + 1, r => .unusable :: gap n r
def poolList (es : List (Nat × CpInfo)) (last : Nat) : List CpInfo := es.foldr (fun e r => gap e.1 (e.2 :: r)) (gap last [])
def pool (es : List (Nat × CpInfo)) (last : Nat) : Array CpInfo := ⟨poolList es last⟩
def fileOf (pool : Array CpInfo) (this : Nat) (attrs : Array Attribute := #[]) (ms : Array MethodInfo := #[]) (fl : Nat := 33) (sup : Nat := 0) (ifs : Array Nat := #[]) (fds : Array FieldInfo := #[]) : ClassFile where
  minorVersion := 0
  majorVersion := 65
  constantPool := pool
  accessFlags := fl
  thisClass := this
  superClass := sup
  interfaces := ifs
  fields := fds
  methods := ms
  attributes := attrs
def plain (name : String) (sup : Option ClassId) : Class where
  name := name
  kind := .ordinary
  loader := none
  accessFlags := 33
  super := sup
  interfaces := #[]
  cf := none
  fields := #[]
  methods := #[]
  instanceTypes := #[]
  staticTypes := #[]
  resolved := #[]
  callSites := []
  init := .initialized
  statics := none
  mirror := none

def pool0 : Array CpInfo := pool [(5, u "<init>"), (0, u "()V"), (1, .class_ 10), (1, u "java/lang/Object")] 113

def k0c0 : Code := { maxStack := 0, maxLocals := 1, code := object_method_1_code, exceptionTable := #[], attributes := #[] }
def k0m0 : Method := { name := "<init>", desc := "()V", sig := { parameters := [], returnType := none }, accessFlags := 1, code := some k0c0 }
/-- java/lang/Object -/
def k0 : Class := { plain "java/lang/Object" none with
  accessFlags := 33
  interfaces := #[]
  cf := some (fileOf pool0 8 #[] #[{ accessFlags := 1, nameIndex := 5, descriptorIndex := 6, attributes := #[] }] 33 0 #[] #[])
  fields := #[]
  methods := #[k0m0]
  instanceTypes := #[]
  staticTypes := #[]
  resolved := Array.replicate 124 none
  statics := none }

def pool1 : Array CpInfo := pool [(2, .class_ 4), (1, u "java/lang/Object"), (0, u "<init>"), (0, u "()V"), (0, .integer 2147483647), (0, .class_ 9), (0, u "java/lang/String"), (0, .methodref 8 11), (0, .nameAndType 5 12), (0, u "([C)V"), (0, .methodref 14 15), (0, .class_ 16), (0, .nameAndType 17 18), (0, u "com/example/fetch_to_rank/fetchtorank/crawl/OutcomeOfPinLaw"), (0, u "del"), (0, u "([CII)C"), (0, .methodref 14 20), (0, .nameAndType 21 22), (0, u "ins"), (0, u "([CICI)C"), (0, .methodref 8 24), (0, .nameAndType 25 26), (0, u "valueOf"), (0, u "(C)Ljava/lang/String;"), (0, .fieldref 28 29), (0, .class_ 30), (0, .nameAndType 31 32), (0, u "com/example/fetch_to_rank/fetchtorank/crawl/Outcome"), (0, u "PAGE"), (0, u "Lcom/example/fetch_to_rank/fetchtorank/crawl/Outcome;"), (0, .fieldref 28 34), (0, .nameAndType 35 32), (0, u "SKIPPED"), (0, .fieldref 28 37), (0, .nameAndType 38 32), (0, u "ERROR"), (0, .methodref 28 40), (0, .nameAndType 41 42), (0, u "of"), (0, u "(ILjava/lang/String;)Lcom/example/fetch_to_rank/fetchtorank/crawl/Outcome;"), (3, u "law"), (0, u "(IIII)Z")] 4

def k1m0 : Method := { name := "<init>", desc := "()V", sig := { parameters := [], returnType := none }, accessFlags := 1, code := none }
def k1c1 : Code := { maxStack := 3, maxLocals := 3, code := method_2_code, exceptionTable := #[], attributes := #[] }
def k1m1 : Method := { name := "del", desc := "([CII)C", sig := { parameters := [(.array .char), .int, .int], returnType := some .char }, accessFlags := 10, code := some k1c1 }
def k1c2 : Code := { maxStack := 3, maxLocals := 4, code := method_3_code, exceptionTable := #[], attributes := #[] }
def k1m2 : Method := { name := "ins", desc := "([CICI)C", sig := { parameters := [(.array .char), .int, .char, .int], returnType := some .char }, accessFlags := 10, code := some k1c2 }
def k1c3 : Code := { maxStack := 6, maxLocals := 11, code := code, exceptionTable := #[], attributes := #[] }
def k1m3 : Method := { name := "law", desc := "(IIII)Z", sig := { parameters := [.int, .int, .int, .int], returnType := some .boolean }, accessFlags := 9, code := some k1c3 }
/-- com/example/fetch_to_rank/fetchtorank/crawl/OutcomeOfPinLaw -/
def k1 : Class := { plain "com/example/fetch_to_rank/fetchtorank/crawl/OutcomeOfPinLaw" (some 0) with
  accessFlags := 49
  interfaces := #[]
  cf := some (fileOf pool1 14 #[] #[{ accessFlags := 1, nameIndex := 5, descriptorIndex := 6, attributes := #[] }, { accessFlags := 10, nameIndex := 17, descriptorIndex := 18, attributes := #[] }, { accessFlags := 10, nameIndex := 21, descriptorIndex := 22, attributes := #[] }, { accessFlags := 9, nameIndex := 46, descriptorIndex := 47, attributes := #[] }] 49 2 #[] #[])
  fields := #[]
  methods := #[k1m0, k1m1, k1m2, k1m3]
  instanceTypes := #[]
  staticTypes := #[]
  resolved := Array.replicate 52 none
  statics := none }

def pool2 : Array CpInfo := pool [(1, .class_ 2), (0, u "java/io/Serializable"), (0, .class_ 4), (0, u "java/lang/Object")] 2

/-- java/io/Serializable -/
def k2 : Class := { plain "java/io/Serializable" (some 0) with
  accessFlags := 1537
  interfaces := #[]
  cf := some (fileOf pool2 1 #[] #[] 1537 3 #[] #[])
  fields := #[]
  methods := #[]
  instanceTypes := #[]
  staticTypes := #[]
  resolved := Array.replicate 7 none
  statics := none }

def pool3 : Array CpInfo := pool [(1, .class_ 2), (0, u "java/lang/Comparable"), (0, .class_ 4), (0, u "java/lang/Object")] 7

/-- java/lang/Comparable -/
def k3 : Class := { plain "java/lang/Comparable" (some 0) with
  accessFlags := 1537
  interfaces := #[]
  cf := some (fileOf pool3 1 #[] #[] 1537 3 #[] #[])
  fields := #[]
  methods := #[]
  instanceTypes := #[]
  staticTypes := #[]
  resolved := Array.replicate 12 none
  statics := none }

def pool4 : Array CpInfo := pool [(2, .class_ 4), (1, u "java/lang/CharSequence"), (42, .class_ 48), (0, u "java/lang/CharSequence$1CodePointIterator"), (10, .class_ 60), (0, u "java/lang/CharSequence$1CharIterator"), (5, .class_ 67), (0, u "java/lang/Object")] 63

/-- java/lang/CharSequence -/
def k4 : Class := { plain "java/lang/CharSequence" (some 0) with
  accessFlags := 1537
  interfaces := #[]
  cf := some (fileOf pool4 2 #[.nestMembers #[47, 59]] #[] 1537 66 #[] #[])
  fields := #[]
  methods := #[]
  instanceTypes := #[]
  staticTypes := #[]
  resolved := Array.replicate 131 none
  statics := none }

def pool5 : Array CpInfo := pool [(1, .class_ 2), (0, u "java/lang/constant/Constable"), (0, .class_ 4), (0, u "java/lang/Object")] 6

/-- java/lang/constant/Constable -/
def k5 : Class := { plain "java/lang/constant/Constable" (some 0) with
  accessFlags := 1537
  interfaces := #[]
  cf := some (fileOf pool5 1 #[] #[] 1537 3 #[] #[])
  fields := #[]
  methods := #[]
  instanceTypes := #[]
  staticTypes := #[]
  resolved := Array.replicate 11 none
  statics := none }

def pool6 : Array CpInfo := pool [(1, .class_ 2), (0, u "java/lang/constant/ConstantDesc"), (0, .class_ 4), (0, u "java/lang/Object")] 32

/-- java/lang/constant/ConstantDesc -/
def k6 : Class := { plain "java/lang/constant/ConstantDesc" (some 0) with
  accessFlags := 1537
  interfaces := #[]
  cf := some (fileOf pool6 1 #[] #[] 1537 3 #[] #[])
  fields := #[]
  methods := #[]
  instanceTypes := #[]
  staticTypes := #[]
  resolved := Array.replicate 37 none
  statics := none }

def pool7 : Array CpInfo := pool [(1, .methodref 2 3), (0, .class_ 4), (0, .nameAndType 5 6), (0, u "java/lang/Object"), (0, u "<init>"), (0, u "()V"), (0, .string 8), (0, u ""), (0, .fieldref 10 11), (0, .class_ 12), (0, .nameAndType 13 14), (0, u "java/lang/String"), (0, u "value"), (0, u "[B"), (0, .fieldref 10 16), (0, .nameAndType 17 18), (0, u "coder"), (0, u "B"), (2, u "hash"), (0, u "I"), (2, u "hashIsZero"), (0, u "Z"), (0, .methodref 10 28), (0, .nameAndType 5 29), (0, u "([CIILjava/lang/Void;)V"), (8, .fieldref 10 39), (0, .nameAndType 40 26), (0, u "COMPACT_STRINGS"), (1, .class_ 44), (1, u "java/lang/StringUTF16"), (0, u "compress"), (1, .methodref 42 48), (0, .nameAndType 49 50), (0, u "coderFromArrayLen"), (0, u "([BI)B"), (2, u "toBytes"), (53, .class_ 109), (1, u "java/lang/StringLatin1"), (67, .methodref 42 178), (0, .nameAndType 45 179), (0, u "([CII)[B"), (29, .methodref 10 210), (0, .nameAndType 5 211), (0, u "([BB)V"), (157, u "(C)Z"), (171, .methodref 107 542), (0, .nameAndType 543 544), (0, u "equals"), (0, u "([B[B)Z"), (28, u "(Ljava/lang/Object;)Z"), (1, .class_ 576), (0, u "java/lang/CharSequence"), (22, u "CASE_INSENSITIVE_ORDER"), (0, u "Ljava/util/Comparator;"), (181, u "valueOf"), (0, u "(C)Ljava/lang/String;"), (226, u "([C)V"), (4, .methodref 107 1016), (0, .nameAndType 1017 369), (0, u "canEncode"), (0, .methodref 107 1019), (0, .nameAndType 53 1020), (0, u "(C)[B"), (80, u "serialPersistentFields"), (0, u "[Ljava/io/ObjectStreamField;"), (0, .class_ 1104), (0, u "java/lang/String$CaseInsensitiveComparator"), (1, .class_ 1107), (0, u "java/io/Serializable"), (0, .class_ 1109), (0, u "java/lang/Comparable"), (0, .class_ 1111), (0, u "java/lang/constant/Constable"), (0, .class_ 1113), (0, u "java/lang/constant/ConstantDesc"), (2, u "serialVersionUID"), (0, u "J"), (3, u "REPL"), (0, u "C"), (2, u "LATIN1"), (1, u "UTF16")] 323

def k7m0 : Method := { name := "<init>", desc := "()V", sig := { parameters := [], returnType := none }, accessFlags := 1, code := none }
def k7c1 : Code := { maxStack := 5, maxLocals := 2, code := jdk_42_method_3_code, exceptionTable := #[], attributes := #[] }
def k7m1 : Method := { name := "<init>", desc := "([C)V", sig := { parameters := [(.array .char)], returnType := none }, accessFlags := 1, code := some k7c1 }
def k7c2 : Code := { maxStack := 2, maxLocals := 3, code := jdk_42_method_66_code, exceptionTable := #[], attributes := #[] }
def k7m2 : Method := { name := "equals", desc := "(Ljava/lang/Object;)Z", sig := { parameters := [(.object "java/lang/Object")], returnType := some .boolean }, accessFlags := 1, code := some k7c2 }
def k7c3 : Code := { maxStack := 4, maxLocals := 1, code := jdk_42_method_139_code, exceptionTable := #[], attributes := #[] }
def k7m3 : Method := { name := "valueOf", desc := "(C)Ljava/lang/String;", sig := { parameters := [.char], returnType := some (.object "java/lang/String") }, accessFlags := 9, code := some k7c3 }
def k7c4 : Code := { maxStack := 4, maxLocals := 6, code := jdk_42_method_149_code, exceptionTable := #[], attributes := #[] }
def k7m4 : Method := { name := "<init>", desc := "([CIILjava/lang/Void;)V", sig := { parameters := [(.array .char), .int, .int, (.object "java/lang/Void")], returnType := none }, accessFlags := 2, code := some k7c4 }
def k7c5 : Code := { maxStack := 2, maxLocals := 3, code := jdk_42_method_151_code, exceptionTable := #[], attributes := #[] }
def k7m5 : Method := { name := "<init>", desc := "([BB)V", sig := { parameters := [(.array .byte), .byte], returnType := none }, accessFlags := 0, code := some k7c5 }
/-- java/lang/String -/
def k7 : Class := { plain "java/lang/String" (some 0) with
  accessFlags := 49
  interfaces := #[2, 3, 4, 5, 6]
  cf := some (fileOf pool7 10 #[.nestMembers #[1103]] #[{ accessFlags := 1, nameIndex := 5, descriptorIndex := 6, attributes := #[] }, { accessFlags := 1, nameIndex := 5, descriptorIndex := 1010, attributes := #[] }, { accessFlags := 1, nameIndex := 543, descriptorIndex := 573, attributes := #[] }, { accessFlags := 9, nameIndex := 782, descriptorIndex := 783, attributes := #[] }, { accessFlags := 2, nameIndex := 5, descriptorIndex := 29, attributes := #[] }, { accessFlags := 0, nameIndex := 5, descriptorIndex := 211, attributes := #[] }] 49 2 #[1106, 1108, 575, 1110, 1112] #[{ accessFlags := 18, nameIndex := 13, descriptorIndex := 14, attributes := #[] }, { accessFlags := 18, nameIndex := 17, descriptorIndex := 18, attributes := #[] }, { accessFlags := 2, nameIndex := 21, descriptorIndex := 22, attributes := #[] }, { accessFlags := 2, nameIndex := 25, descriptorIndex := 26, attributes := #[] }, { accessFlags := 26, nameIndex := 1116, descriptorIndex := 1117, attributes := #[] }, { accessFlags := 24, nameIndex := 40, descriptorIndex := 26, attributes := #[] }, { accessFlags := 26, nameIndex := 1101, descriptorIndex := 1102, attributes := #[] }, { accessFlags := 26, nameIndex := 1121, descriptorIndex := 1122, attributes := #[] }, { accessFlags := 25, nameIndex := 599, descriptorIndex := 600, attributes := #[] }, { accessFlags := 24, nameIndex := 1125, descriptorIndex := 18, attributes := #[] }, { accessFlags := 24, nameIndex := 1127, descriptorIndex := 18, attributes := #[] }])
  fields := #[{ name := "value", type := (.array .byte), accessFlags := 18, slot := 0, constantValue := 0 }, { name := "coder", type := .byte, accessFlags := 18, slot := 1, constantValue := 0 }, { name := "hash", type := .int, accessFlags := 2, slot := 2, constantValue := 0 }, { name := "hashIsZero", type := .boolean, accessFlags := 2, slot := 3, constantValue := 0 }, { name := "serialVersionUID", type := .long, accessFlags := 26, slot := 0, constantValue := 0 }, { name := "COMPACT_STRINGS", type := .boolean, accessFlags := 24, slot := 1, constantValue := 0 }, { name := "serialPersistentFields", type := (.array (.object "java/io/ObjectStreamField")), accessFlags := 26, slot := 2, constantValue := 0 }, { name := "REPL", type := .char, accessFlags := 26, slot := 3, constantValue := 0 }, { name := "CASE_INSENSITIVE_ORDER", type := (.object "java/util/Comparator"), accessFlags := 25, slot := 4, constantValue := 0 }, { name := "LATIN1", type := .byte, accessFlags := 24, slot := 5, constantValue := 0 }, { name := "UTF16", type := .byte, accessFlags := 24, slot := 6, constantValue := 0 }]
  methods := #[k7m0, k7m1, k7m2, k7m3, k7m4, k7m5]
  instanceTypes := #[(.array .byte), .byte, .int, .boolean]
  staticTypes := #[.long, .boolean, (.array (.object "java/io/ObjectStreamField")), .char, (.object "java/util/Comparator"), .byte, .byte]
  resolved := Array.replicate 1451 none
  statics := some 0 }

def pool8 : Array CpInfo := pool [(6, .class_ 8), (1, u "java/lang/Object"), (0, u "<init>"), (0, u "()V"), (1, .class_ 14), (1, u "java/lang/StringUTF16"), (31, u "$assertionsDisabled"), (0, u "Z"), (13, u "HI_BYTE_SHIFT"), (0, u "I"), (2, u "LO_BYTE_SHIFT"), (49, .methodref 12 116), (0, .nameAndType 117 118), (0, u "compress"), (0, u "([CI[BII)I"), (3, u "([CII)[B"), (138, u "coderFromArrayLen"), (0, u "([BI)B"), (106, .class_ 371), (1, u "java/lang/StringUTF16$LinesSpliterator"), (58, u "MAX_LENGTH"), (196, .class_ 628), (0, u "java/lang/StringUTF16$CodePointsSpliterator"), (0, .class_ 630), (0, u "java/lang/StringUTF16$CharsSpliterator")] 4

def k8m0 : Method := { name := "<init>", desc := "()V", sig := { parameters := [], returnType := none }, accessFlags := 0, code := none }
def k8c1 : Code := { maxStack := 2, maxLocals := 2, code := jdk_52_method_15_code, exceptionTable := #[], attributes := #[] }
def k8m1 : Method := { name := "coderFromArrayLen", desc := "([BI)B", sig := { parameters := [(.array .byte), .int], returnType := some .byte }, accessFlags := 8, code := some k8c1 }
def k8c2 : Code := { maxStack := 5, maxLocals := 6, code := jdk_52_method_16_code, exceptionTable := #[], attributes := #[] }
def k8m2 : Method := { name := "compress", desc := "([CII)[B", sig := { parameters := [(.array .char), .int, .int], returnType := some (.array .byte) }, accessFlags := 9, code := some k8c2 }
def k8c3 : Code := { maxStack := 3, maxLocals := 7, code := jdk_52_method_21_code, exceptionTable := #[], attributes := #[] }
def k8m3 : Method := { name := "compress", desc := "([CI[BII)I", sig := { parameters := [(.array .char), .int, (.array .byte), .int, .int], returnType := some .int }, accessFlags := 9, code := some k8c3 }
/-- java/lang/StringUTF16 -/
def k8 : Class := { plain "java/lang/StringUTF16" (some 0) with
  accessFlags := 48
  interfaces := #[]
  cf := some (fileOf pool8 12 #[.nestMembers #[627, 629, 369]] #[{ accessFlags := 0, nameIndex := 9, descriptorIndex := 10, attributes := #[] }, { accessFlags := 8, nameIndex := 261, descriptorIndex := 262, attributes := #[] }, { accessFlags := 9, nameIndex := 117, descriptorIndex := 122, attributes := #[] }, { accessFlags := 9, nameIndex := 117, descriptorIndex := 118, attributes := #[] }] 48 6 #[] #[{ accessFlags := 26, nameIndex := 61, descriptorIndex := 62, attributes := #[] }, { accessFlags := 26, nameIndex := 65, descriptorIndex := 62, attributes := #[] }, { accessFlags := 24, nameIndex := 430, descriptorIndex := 62, attributes := #[] }, { accessFlags := 4120, nameIndex := 46, descriptorIndex := 47, attributes := #[] }])
  fields := #[{ name := "HI_BYTE_SHIFT", type := .int, accessFlags := 26, slot := 0, constantValue := 0 }, { name := "LO_BYTE_SHIFT", type := .int, accessFlags := 26, slot := 1, constantValue := 0 }, { name := "MAX_LENGTH", type := .int, accessFlags := 24, slot := 2, constantValue := 0 }, { name := "$assertionsDisabled", type := .boolean, accessFlags := 4120, slot := 3, constantValue := 0 }]
  methods := #[k8m0, k8m1, k8m2, k8m3]
  instanceTypes := #[]
  staticTypes := #[.int, .int, .int, .boolean]
  resolved := Array.replicate 635 none
  statics := none }

def pool9 : Array CpInfo := pool [(2, .class_ 4), (1, u "java/lang/Enum"), (0, u "name"), (0, u "Ljava/lang/String;"), (2, u "ordinal"), (0, u "I"), (1, .class_ 14), (1, u "java/lang/Object"), (4, u "hash"), (86, .class_ 108), (1, u "java/lang/Enum$EnumDesc"), (2, .class_ 112), (0, u "java/lang/constant/Constable"), (0, .class_ 114), (0, u "java/lang/Comparable"), (0, .class_ 116), (0, u "java/io/Serializable")] 87

/-- java/lang/Enum -/
def k9 : Class := { plain "java/lang/Enum" (some 0) with
  accessFlags := 1057
  interfaces := #[5, 3, 2]
  cf := some (fileOf pool9 2 #[.nestMembers #[106]] #[] 1057 12 #[111, 113, 115] #[{ accessFlags := 18, nameIndex := 5, descriptorIndex := 6, attributes := #[] }, { accessFlags := 18, nameIndex := 9, descriptorIndex := 10, attributes := #[] }, { accessFlags := 2, nameIndex := 19, descriptorIndex := 10, attributes := #[] }])
  fields := #[{ name := "name", type := (.object "java/lang/String"), accessFlags := 18, slot := 0, constantValue := 0 }, { name := "ordinal", type := .int, accessFlags := 18, slot := 1, constantValue := 0 }, { name := "hash", type := .int, accessFlags := 2, slot := 2, constantValue := 0 }]
  methods := #[]
  instanceTypes := #[(.object "java/lang/String"), .int, .int]
  staticTypes := #[]
  resolved := Array.replicate 204 none
  statics := none }

def pool10 : Array CpInfo := pool [(1, .class_ 2), (0, u "com/example/fetch_to_rank/fetchtorank/crawl/Outcome"), (0, .fieldref 1 4), (0, .nameAndType 5 6), (0, u "PAGE"), (0, u "Lcom/example/fetch_to_rank/fetchtorank/crawl/Outcome;"), (0, .fieldref 1 8), (0, .nameAndType 9 6), (0, u "ERROR"), (0, .fieldref 1 11), (0, .nameAndType 12 6), (0, u "SKIPPED"), (2, u "BLOCKED"), (2, u "REDIRECT"), (2, u "$VALUES"), (0, u "[Lcom/example/fetch_to_rank/fetchtorank/crawl/Outcome;"), (6, .class_ 31), (1, u "java/lang/Enum"), (18, u "of"), (0, u "(ILjava/lang/String;)Lcom/example/fetch_to_rank/fetchtorank/crawl/Outcome;"), (0, .string 53), (0, u "text/html"), (0, .methodref 55 56), (0, .class_ 57), (0, .nameAndType 58 59), (0, u "java/lang/String"), (0, u "equals"), (0, u "(Ljava/lang/Object;)Z")] 23

def k10c0 : Code := { maxStack := 2, maxLocals := 2, code := prog_11_method_5_code, exceptionTable := #[], attributes := #[] }
def k10m0 : Method := { name := "of", desc := "(ILjava/lang/String;)Lcom/example/fetch_to_rank/fetchtorank/crawl/Outcome;", sig := { parameters := [.int, (.object "java/lang/String")], returnType := some (.object "com/example/fetch_to_rank/fetchtorank/crawl/Outcome") }, accessFlags := 8, code := some k10c0 }
/-- com/example/fetch_to_rank/fetchtorank/crawl/Outcome -/
def k10 : Class := { plain "com/example/fetch_to_rank/fetchtorank/crawl/Outcome" (some 9) with
  accessFlags := 16432
  interfaces := #[]
  cf := some (fileOf pool10 1 #[] #[{ accessFlags := 8, nameIndex := 50, descriptorIndex := 51, attributes := #[] }] 16432 29 #[] #[{ accessFlags := 16409, nameIndex := 5, descriptorIndex := 6, attributes := #[] }, { accessFlags := 16409, nameIndex := 9, descriptorIndex := 6, attributes := #[] }, { accessFlags := 16409, nameIndex := 12, descriptorIndex := 6, attributes := #[] }, { accessFlags := 16409, nameIndex := 15, descriptorIndex := 6, attributes := #[] }, { accessFlags := 16409, nameIndex := 18, descriptorIndex := 6, attributes := #[] }, { accessFlags := 4122, nameIndex := 21, descriptorIndex := 22, attributes := #[] }])
  fields := #[{ name := "PAGE", type := (.object "com/example/fetch_to_rank/fetchtorank/crawl/Outcome"), accessFlags := 16409, slot := 0, constantValue := 0 }, { name := "ERROR", type := (.object "com/example/fetch_to_rank/fetchtorank/crawl/Outcome"), accessFlags := 16409, slot := 1, constantValue := 0 }, { name := "SKIPPED", type := (.object "com/example/fetch_to_rank/fetchtorank/crawl/Outcome"), accessFlags := 16409, slot := 2, constantValue := 0 }, { name := "BLOCKED", type := (.object "com/example/fetch_to_rank/fetchtorank/crawl/Outcome"), accessFlags := 16409, slot := 3, constantValue := 0 }, { name := "REDIRECT", type := (.object "com/example/fetch_to_rank/fetchtorank/crawl/Outcome"), accessFlags := 16409, slot := 4, constantValue := 0 }, { name := "$VALUES", type := (.array (.object "com/example/fetch_to_rank/fetchtorank/crawl/Outcome")), accessFlags := 4122, slot := 5, constantValue := 0 }]
  methods := #[k10m0]
  instanceTypes := #[(.object "java/lang/String"), .int, .int]
  staticTypes := #[(.object "com/example/fetch_to_rank/fetchtorank/crawl/Outcome"), (.object "com/example/fetch_to_rank/fetchtorank/crawl/Outcome"), (.object "com/example/fetch_to_rank/fetchtorank/crawl/Outcome"), (.object "com/example/fetch_to_rank/fetchtorank/crawl/Outcome"), (.object "com/example/fetch_to_rank/fetchtorank/crawl/Outcome"), (.array (.object "com/example/fetch_to_rank/fetchtorank/crawl/Outcome"))]
  resolved := Array.replicate 83 none
  statics := some 1 }

def pool11 : Array CpInfo := pool [(4, .class_ 6), (1, u "java/lang/Object"), (0, u "<init>"), (0, u "()V"), (5, .class_ 16), (1, u "java/lang/StringLatin1"), (73, u "canEncode"), (14, u "(C)Z"), (15, u "$assertionsDisabled"), (0, u "Z"), (98, .class_ 223), (1, u "java/lang/StringLatin1$LinesSpliterator"), (57, u "equals"), (0, u "([B[B)Z"), (97, u "toBytes"), (1, u "(C)[B"), (7, .class_ 391), (0, u "java/lang/StringLatin1$CharsSpliterator")] 3

def k11m0 : Method := { name := "<init>", desc := "()V", sig := { parameters := [], returnType := none }, accessFlags := 0, code := none }
def k11c1 : Code := { maxStack := 2, maxLocals := 1, code := jdk_43_method_3_code, exceptionTable := #[], attributes := #[] }
def k11m1 : Method := { name := "canEncode", desc := "(C)Z", sig := { parameters := [.char], returnType := some .boolean }, accessFlags := 9, code := some k11c1 }
def k11c2 : Code := { maxStack := 3, maxLocals := 3, code := jdk_43_method_13_code, exceptionTable := #[], attributes := #[] }
def k11m2 : Method := { name := "equals", desc := "([B[B)Z", sig := { parameters := [(.array .byte), (.array .byte)], returnType := some .boolean }, accessFlags := 9, code := some k11c2 }
def k11c3 : Code := { maxStack := 4, maxLocals := 1, code := jdk_43_method_46_code, exceptionTable := #[], attributes := #[] }
def k11m3 : Method := { name := "toBytes", desc := "(C)[B", sig := { parameters := [.char], returnType := some (.array .byte) }, accessFlags := 9, code := some k11c3 }
/-- java/lang/StringLatin1 -/
def k11 : Class := { plain "java/lang/StringLatin1" (some 0) with
  accessFlags := 48
  interfaces := #[]
  cf := some (fileOf pool11 14 #[.nestMembers #[390, 221]] #[{ accessFlags := 0, nameIndex := 7, descriptorIndex := 8, attributes := #[] }, { accessFlags := 9, nameIndex := 90, descriptorIndex := 105, attributes := #[] }, { accessFlags := 9, nameIndex := 281, descriptorIndex := 282, attributes := #[] }, { accessFlags := 9, nameIndex := 380, descriptorIndex := 382, attributes := #[] }] 48 4 #[] #[{ accessFlags := 4120, nameIndex := 121, descriptorIndex := 122, attributes := #[] }])
  fields := #[{ name := "$assertionsDisabled", type := .boolean, accessFlags := 4120, slot := 0, constantValue := 0 }]
  methods := #[k11m0, k11m1, k11m2, k11m3]
  instanceTypes := #[]
  staticTypes := #[.boolean]
  resolved := Array.replicate 395 none
  statics := none }

def pool12 : Array CpInfo := pool [(2, .class_ 4), (1, u "java/lang/Object"), (0, u "<init>"), (0, u "()V"), (17, .class_ 26), (1, u "jdk/internal/util/Preconditions"), (28, .class_ 56), (0, u "jdk/internal/util/Preconditions$4"), (57, .class_ 115), (0, u "jdk/internal/util/Preconditions$1"), (7, u "SIOOBE_FORMATTER"), (0, u "Ljava/util/function/BiFunction;"), (0, .class_ 126), (0, u "jdk/internal/util/Preconditions$2"), (3, u "AIOOBE_FORMATTER"), (0, .class_ 132), (0, u "jdk/internal/util/Preconditions$3"), (3, u "IOOBE_FORMATTER")] 57

def k12m0 : Method := { name := "<init>", desc := "()V", sig := { parameters := [], returnType := none }, accessFlags := 1, code := none }
/-- jdk/internal/util/Preconditions -/
def k12 : Class := { plain "jdk/internal/util/Preconditions" (some 0) with
  accessFlags := 33
  interfaces := #[]
  cf := some (fileOf pool12 24 #[.nestMembers #[55, 131, 125, 114]] #[{ accessFlags := 1, nameIndex := 5, descriptorIndex := 6, attributes := #[] }] 33 2 #[] #[{ accessFlags := 25, nameIndex := 123, descriptorIndex := 124, attributes := #[] }, { accessFlags := 25, nameIndex := 130, descriptorIndex := 124, attributes := #[] }, { accessFlags := 25, nameIndex := 136, descriptorIndex := 124, attributes := #[] }])
  fields := #[{ name := "SIOOBE_FORMATTER", type := (.object "java/util/function/BiFunction"), accessFlags := 25, slot := 0, constantValue := 0 }, { name := "AIOOBE_FORMATTER", type := (.object "java/util/function/BiFunction"), accessFlags := 25, slot := 1, constantValue := 0 }, { name := "IOOBE_FORMATTER", type := (.object "java/util/function/BiFunction"), accessFlags := 25, slot := 2, constantValue := 0 }]
  methods := #[k12m0]
  instanceTypes := #[]
  staticTypes := #[(.object "java/util/function/BiFunction"), (.object "java/util/function/BiFunction"), (.object "java/util/function/BiFunction")]
  resolved := Array.replicate 194 none
  statics := some 2 }

def pool13 : Array CpInfo := pool [(9, u "<init>"), (6, .class_ 18), (1, u "java/lang/Object"), (0, u "()V"), (1, .class_ 23), (1, u "jdk/internal/util/ArraysSupport"), (0, u "LOG2_ARRAY_LONG_INDEX_SCALE"), (0, u "I"), (2, u "U"), (0, u "Ljdk/internal/misc/Unsafe;"), (8, u "BIG_ENDIAN"), (0, u "Z"), (8, u "LOG2_BYTE_BIT_SIZE"), (4, u "LOG2_ARRAY_INT_INDEX_SCALE"), (54, u "JLA"), (0, u "Ljdk/internal/access/JavaLangAccess;"), (11, u "LOG2_ARRAY_BOOLEAN_INDEX_SCALE"), (9, u "LOG2_ARRAY_BYTE_INDEX_SCALE"), (5, u "LOG2_ARRAY_CHAR_INDEX_SCALE"), (5, u "LOG2_ARRAY_SHORT_INDEX_SCALE"), (18, u "LOG2_ARRAY_FLOAT_INDEX_SCALE"), (24, u "LOG2_ARRAY_DOUBLE_INDEX_SCALE"), (89, u "T_BOOLEAN"), (2, u "T_CHAR"), (1, u "T_FLOAT"), (1, u "T_DOUBLE"), (1, u "T_BYTE"), (1, u "T_SHORT"), (1, u "T_INT"), (1, u "T_LONG"), (1, u "SOFT_MAX_ARRAY_LENGTH")] 83

def k13m0 : Method := { name := "<init>", desc := "()V", sig := { parameters := [], returnType := none }, accessFlags := 2, code := none }
/-- jdk/internal/util/ArraysSupport -/
def k13 : Class := { plain "jdk/internal/util/ArraysSupport" (some 0) with
  accessFlags := 33
  interfaces := #[]
  cf := some (fileOf pool13 21 #[] #[{ accessFlags := 2, nameIndex := 9, descriptorIndex := 19, attributes := #[] }] 33 16 #[] #[{ accessFlags := 24, nameIndex := 28, descriptorIndex := 29, attributes := #[] }, { accessFlags := 26, nameIndex := 38, descriptorIndex := 39, attributes := #[] }, { accessFlags := 25, nameIndex := 121, descriptorIndex := 25, attributes := #[] }, { accessFlags := 25, nameIndex := 131, descriptorIndex := 25, attributes := #[] }, { accessFlags := 25, nameIndex := 137, descriptorIndex := 25, attributes := #[] }, { accessFlags := 25, nameIndex := 143, descriptorIndex := 25, attributes := #[] }, { accessFlags := 25, nameIndex := 53, descriptorIndex := 25, attributes := #[] }, { accessFlags := 25, nameIndex := 24, descriptorIndex := 25, attributes := #[] }, { accessFlags := 25, nameIndex := 162, descriptorIndex := 25, attributes := #[] }, { accessFlags := 25, nameIndex := 187, descriptorIndex := 25, attributes := #[] }, { accessFlags := 26, nameIndex := 48, descriptorIndex := 25, attributes := #[] }, { accessFlags := 25, nameIndex := 277, descriptorIndex := 25, attributes := #[] }, { accessFlags := 25, nameIndex := 280, descriptorIndex := 25, attributes := #[] }, { accessFlags := 25, nameIndex := 282, descriptorIndex := 25, attributes := #[] }, { accessFlags := 25, nameIndex := 284, descriptorIndex := 25, attributes := #[] }, { accessFlags := 25, nameIndex := 286, descriptorIndex := 25, attributes := #[] }, { accessFlags := 25, nameIndex := 288, descriptorIndex := 25, attributes := #[] }, { accessFlags := 25, nameIndex := 290, descriptorIndex := 25, attributes := #[] }, { accessFlags := 25, nameIndex := 292, descriptorIndex := 25, attributes := #[] }, { accessFlags := 26, nameIndex := 108, descriptorIndex := 109, attributes := #[] }, { accessFlags := 25, nameIndex := 294, descriptorIndex := 25, attributes := #[] }])
  fields := #[{ name := "U", type := (.object "jdk/internal/misc/Unsafe"), accessFlags := 24, slot := 0, constantValue := 0 }, { name := "BIG_ENDIAN", type := .boolean, accessFlags := 26, slot := 1, constantValue := 0 }, { name := "LOG2_ARRAY_BOOLEAN_INDEX_SCALE", type := .int, accessFlags := 25, slot := 2, constantValue := 0 }, { name := "LOG2_ARRAY_BYTE_INDEX_SCALE", type := .int, accessFlags := 25, slot := 3, constantValue := 0 }, { name := "LOG2_ARRAY_CHAR_INDEX_SCALE", type := .int, accessFlags := 25, slot := 4, constantValue := 0 }, { name := "LOG2_ARRAY_SHORT_INDEX_SCALE", type := .int, accessFlags := 25, slot := 5, constantValue := 0 }, { name := "LOG2_ARRAY_INT_INDEX_SCALE", type := .int, accessFlags := 25, slot := 6, constantValue := 0 }, { name := "LOG2_ARRAY_LONG_INDEX_SCALE", type := .int, accessFlags := 25, slot := 7, constantValue := 0 }, { name := "LOG2_ARRAY_FLOAT_INDEX_SCALE", type := .int, accessFlags := 25, slot := 8, constantValue := 0 }, { name := "LOG2_ARRAY_DOUBLE_INDEX_SCALE", type := .int, accessFlags := 25, slot := 9, constantValue := 0 }, { name := "LOG2_BYTE_BIT_SIZE", type := .int, accessFlags := 26, slot := 10, constantValue := 0 }, { name := "T_BOOLEAN", type := .int, accessFlags := 25, slot := 11, constantValue := 0 }, { name := "T_CHAR", type := .int, accessFlags := 25, slot := 12, constantValue := 0 }, { name := "T_FLOAT", type := .int, accessFlags := 25, slot := 13, constantValue := 0 }, { name := "T_DOUBLE", type := .int, accessFlags := 25, slot := 14, constantValue := 0 }, { name := "T_BYTE", type := .int, accessFlags := 25, slot := 15, constantValue := 0 }, { name := "T_SHORT", type := .int, accessFlags := 25, slot := 16, constantValue := 0 }, { name := "T_INT", type := .int, accessFlags := 25, slot := 17, constantValue := 0 }, { name := "T_LONG", type := .int, accessFlags := 25, slot := 18, constantValue := 0 }, { name := "JLA", type := (.object "jdk/internal/access/JavaLangAccess"), accessFlags := 26, slot := 19, constantValue := 0 }, { name := "SOFT_MAX_ARRAY_LENGTH", type := .int, accessFlags := 25, slot := 20, constantValue := 0 }]
  methods := #[k13m0]
  instanceTypes := #[]
  staticTypes := #[(.object "jdk/internal/misc/Unsafe"), .boolean, .int, .int, .int, .int, .int, .int, .int, .int, .int, .int, .int, .int, .int, .int, .int, .int, .int, (.object "jdk/internal/access/JavaLangAccess"), .int]
  resolved := Array.replicate 378 none
  statics := none }

def pool14 : Array CpInfo := pool [(1, u "java/lang/Cloneable"), (0, .class_ 1), (0, u "java/lang/Object"), (0, .class_ 3)] 3

/-- java/lang/Cloneable -/
def k14 : Class := { plain "java/lang/Cloneable" (some 0) with
  accessFlags := 1537
  interfaces := #[]
  cf := some (fileOf pool14 2 #[] #[] 1537 4 #[] #[])
  fields := #[]
  methods := #[]
  instanceTypes := #[]
  staticTypes := #[]
  resolved := Array.replicate 8 none
  statics := none }

/-- the primitive byte -/
def k15 : Class := { plain "byte" none with kind := .primitive 'B', accessFlags := 0x411 }
/-- [B -/
def k16 : Class := { plain "[B" (some 0) with kind := .array 15 .byte, interfaces := #[14, 2], accessFlags := 1041 }

/-- the primitive char -/
def k17 : Class := { plain "char" none with kind := .primitive 'C', accessFlags := 0x411 }
/-- [C -/
def k18 : Class := { plain "[C" (some 0) with kind := .array 17 .char, interfaces := #[14, 2], accessFlags := 1041 }

/-- the primitive int -/
def k19 : Class := { plain "int" none with kind := .primitive 'I', accessFlags := 0x411 }
/-- [I -/
def k20 : Class := { plain "[I" (some 0) with kind := .array 19 .int, interfaces := #[14, 2], accessFlags := 1041 }

def heap : Heap := #[{ cls := 7, slots := #[.long 0, .int 1, .null, .int 0, .null, .int 0, .int 0], vm := .statics 7 },
  { cls := 10, slots := #[.ref 4, .ref 3, .ref 5, .null, .null, .null], vm := .statics 10 },
  { cls := 12, slots := #[.null, .null, .null], vm := .statics 12 },
  { cls := 10, slots := #[.null, .int 0, .int 0], vm := .none },
  { cls := 10, slots := #[.null, .int 0, .int 0], vm := .none },
  { cls := 10, slots := #[.null, .int 0, .int 0], vm := .none }]
def classes : Array Class := #[k0, k1, k2, k3, k4, k5, k6, k7, k8, k9, k10, k11, k12, k13, k14, k15, k16, k17, k18, k19, k20]
def interned : List (Array UInt16 × Addr) := []
def slotsUsed : Nat := 25
def theMethod : MethodId := ⟨1, 3⟩
def args0 : Array Value := #[.int 200, .int 0, .int 0, .int 65]
def aboutOver (below : List Frame) : State where
  vm := { classes := classes, interned := interned.toArray }
  heap := heap
  slotsUsed := slotsUsed
  threads := #[{ frames := .invoking theMethod args0 :: below }]
def below0 : List Frame := [.native { method := ⟨0, 0⟩, args := #[] }]
def about1 : State := aboutOver below0
def p0 : Program := .bare "" "" ""
def e0 : Env := launch0.env 0 0 0
theorem w_frames : about1.frames = Frame.invoking theMethod args0 :: below0 := rfl
set_option maxRecDepth 65536 in
theorem w_args : argsFit about1.vm theMethod args0 = true := by decide +kernel
set_option maxRecDepth 65536 in
theorem w_heap : heapFits about1 = true := by decide +kernel
set_option maxRecDepth 65536 in
theorem w_runnable : about1.curStatus? = some .runnable := by decide +kernel
set_option maxRecDepth 65536 in
theorem w_alone : about1.alone = true := by decide +kernel
set_option maxRecDepth 65536 in
theorem w_named : about1.methodNamed? x = some theMethod := by decide +kernel
set_option maxRecDepth 65536 in
theorem w_hears : about1.hears theMethod below0 = true := by decide +kernel
set_option maxRecDepth 65536 in
theorem w_ripe : about1.ripe theMethod args0 below0 = true := by decide +kernel
theorem w_running : about1.status = .running := rfl
set_option maxRecDepth 65536 in
theorem w_room : about1.hasRoom e0.platform room_1 = true :=
  launch0.hasRoom_least _ room_1 (by decide +kernel) (by decide +kernel) (by decide +kernel) (by decide +kernel) (by decide +kernel) (by decide +kernel)
theorem allAtoms_all (ts : List Jvm.Cond) (a : Array Jvm.Value) (st : Jvm.State) : (allAtoms ts).before a st = ts.all (fun c => c.before a st) := by
  induction ts with
  | nil => rfl
  | cons c t ih =>
    show (Jvm.Cond.and c (allAtoms t)).before a st = _
    rw [Jvm.Cond.before_and, ih, List.all_cons]
def words1 : List Jvm.Cond := Jvm.Cond.code x code maxLocals ret :: tables_1
/-- a 'code' word, met by the world's own term for the bytes: nothing is compared byte by byte -/
theorem code_word {y : MethodName} {bytes : ByteArray} {mx : Nat} {rt : Option FieldType} {a : Array Value} {s : State} {m : MethodId} {meth : Method} {c : Code} (h1 : s.methodNamed? y = some m) (h2 : s.vm.method? m = some meth) (h3 : meth.code = some c) (h4 : c.code = bytes)
    (h5 : (c.maxLocals == mx && c.exceptionTable.isEmpty && decide (c.maxStack ≤ mostOperands) && decide (meth.sig.returnType = rt) && !meth.locks && decide (parseMethodDescriptor y.desc = some meth.sig)) = true) : (Jvm.Cond.code y bytes mx rt).before a s = true := by
  simp only [Bool.and_eq_true, beq_iff_eq, Bool.not_eq_true', decide_eq_true_eq] at h5
  obtain ⟨⟨⟨⟨⟨g1, g2⟩, g3⟩, g4⟩, g5⟩, g6⟩ := h5
  simp [Cond.before, Cond.holds, Cond.value, h1, h2, h3, h4, g1, g2, g3, g4, g5, g6]
def isCode : Jvm.Cond → Bool
  | .code _ _ _ _ => true
  | _ => false
theorem all_split {L : List Jvm.Cond} {P : Jvm.Cond → Bool} (h1 : L.all (fun c => isCode c || P c) = true) (h2 : ∀ c ∈ L.filter isCode, P c = true) : L.all P = true := by
  refine List.all_eq_true.mpr fun c hc => ?_
  have h := List.all_eq_true.mp h1 c hc
  rcases Bool.eq_false_or_eq_true (isCode c) with hi | hi
  · exact h2 c (List.mem_filter.mpr ⟨hc, hi⟩)
  · simpa [hi] using h
set_option maxRecDepth 65536 in
theorem w_c0 : (Jvm.Cond.code x code maxLocals ret).before args0 about1 = true := code_word (m := ⟨1, 3⟩) (meth := k1m3) (c := k1c3) (by decide +kernel) rfl rfl rfl (by decide +kernel)
set_option maxRecDepth 65536 in
theorem w_c1 : (Jvm.Cond.code ({ cls := "com/example/fetch_to_rank/fetchtorank/crawl/OutcomeOfPinLaw", name := "ins", desc := "([CICI)C" } : Jvm.MethodName) method_3_code (4 : Nat) (Option.some Jvm.ClassFile.FieldType.char)).before args0 about1 = true := code_word (m := ⟨1, 2⟩) (meth := k1m2) (c := k1c2) (by decide +kernel) rfl rfl rfl (by decide +kernel)
set_option maxRecDepth 65536 in
theorem w_c2 : (Jvm.Cond.code ({ cls := "java/lang/String", name := "<init>", desc := "([C)V" } : Jvm.MethodName) jdk_42_method_3_code (2 : Nat) (Option.none : Option Jvm.ClassFile.FieldType)).before args0 about1 = true := code_word (m := ⟨7, 1⟩) (meth := k7m1) (c := k7c1) (by decide +kernel) rfl rfl rfl (by decide +kernel)
set_option maxRecDepth 65536 in
theorem w_c3 : (Jvm.Cond.code ({ cls := "java/lang/String", name := "<init>", desc := "([CIILjava/lang/Void;)V" } : Jvm.MethodName) jdk_42_method_149_code (6 : Nat) (Option.none : Option Jvm.ClassFile.FieldType)).before args0 about1 = true := code_word (m := ⟨7, 4⟩) (meth := k7m4) (c := k7c4) (by decide +kernel) rfl rfl rfl (by decide +kernel)
set_option maxRecDepth 65536 in
theorem w_c4 : (Jvm.Cond.code ({ cls := "java/lang/Object", name := "<init>", desc := "()V" } : Jvm.MethodName) object_method_1_code (1 : Nat) (Option.none : Option Jvm.ClassFile.FieldType)).before args0 about1 = true := code_word (m := ⟨0, 0⟩) (meth := k0m0) (c := k0c0) (by decide +kernel) rfl rfl rfl (by decide +kernel)
set_option maxRecDepth 65536 in
theorem w_c5 : (Jvm.Cond.code ({ cls := "java/lang/StringUTF16", name := "compress", desc := "([CII)[B" } : Jvm.MethodName) jdk_52_method_16_code (6 : Nat) (Option.some (Jvm.ClassFile.FieldType.array Jvm.ClassFile.FieldType.byte))).before args0 about1 = true := code_word (m := ⟨8, 2⟩) (meth := k8m2) (c := k8c2) (by decide +kernel) rfl rfl rfl (by decide +kernel)
set_option maxRecDepth 65536 in
theorem w_c6 : (Jvm.Cond.code ({ cls := "java/lang/StringUTF16", name := "compress", desc := "([CI[BII)I" } : Jvm.MethodName) jdk_52_method_21_code (7 : Nat) (Option.some Jvm.ClassFile.FieldType.int)).before args0 about1 = true := code_word (m := ⟨8, 3⟩) (meth := k8m3) (c := k8c3) (by decide +kernel) rfl rfl rfl (by decide +kernel)
set_option maxRecDepth 65536 in
theorem w_c7 : (Jvm.Cond.code ({ cls := "java/lang/StringUTF16", name := "coderFromArrayLen", desc := "([BI)B" } : Jvm.MethodName) jdk_52_method_15_code (2 : Nat) (Option.some Jvm.ClassFile.FieldType.byte)).before args0 about1 = true := code_word (m := ⟨8, 1⟩) (meth := k8m1) (c := k8c1) (by decide +kernel) rfl rfl rfl (by decide +kernel)
set_option maxRecDepth 65536 in
theorem w_c8 : (Jvm.Cond.code ({ cls := "com/example/fetch_to_rank/fetchtorank/crawl/Outcome", name := "of", desc := "(ILjava/lang/String;)Lcom/example/fetch_to_rank/fetchtorank/crawl/Outcome;" } : Jvm.MethodName) prog_11_method_5_code (2 : Nat) (Option.some (Jvm.ClassFile.FieldType.object "com/example/fetch_to_rank/fetchtorank/crawl/Outcome"))).before args0 about1 = true := code_word (m := ⟨10, 0⟩) (meth := k10m0) (c := k10c0) (by decide +kernel) rfl rfl rfl (by decide +kernel)
set_option maxRecDepth 65536 in
theorem w_c9 : (Jvm.Cond.code ({ cls := "java/lang/String", name := "valueOf", desc := "(C)Ljava/lang/String;" } : Jvm.MethodName) jdk_42_method_139_code (1 : Nat) (Option.some (Jvm.ClassFile.FieldType.object "java/lang/String"))).before args0 about1 = true := code_word (m := ⟨7, 3⟩) (meth := k7m3) (c := k7c3) (by decide +kernel) rfl rfl rfl (by decide +kernel)
set_option maxRecDepth 65536 in
theorem w_c10 : (Jvm.Cond.code ({ cls := "java/lang/StringLatin1", name := "canEncode", desc := "(C)Z" } : Jvm.MethodName) jdk_43_method_3_code (1 : Nat) (Option.some Jvm.ClassFile.FieldType.boolean)).before args0 about1 = true := code_word (m := ⟨11, 1⟩) (meth := k11m1) (c := k11c1) (by decide +kernel) rfl rfl rfl (by decide +kernel)
set_option maxRecDepth 65536 in
theorem w_c11 : (Jvm.Cond.code ({ cls := "java/lang/StringLatin1", name := "toBytes", desc := "(C)[B" } : Jvm.MethodName) jdk_43_method_46_code (1 : Nat) (Option.some (Jvm.ClassFile.FieldType.array Jvm.ClassFile.FieldType.byte))).before args0 about1 = true := code_word (m := ⟨11, 3⟩) (meth := k11m3) (c := k11c3) (by decide +kernel) rfl rfl rfl (by decide +kernel)
set_option maxRecDepth 65536 in
theorem w_c12 : (Jvm.Cond.code ({ cls := "java/lang/String", name := "<init>", desc := "([BB)V" } : Jvm.MethodName) jdk_42_method_151_code (3 : Nat) (Option.none : Option Jvm.ClassFile.FieldType)).before args0 about1 = true := code_word (m := ⟨7, 5⟩) (meth := k7m5) (c := k7c5) (by decide +kernel) rfl rfl rfl (by decide +kernel)
set_option maxRecDepth 65536 in
theorem w_c13 : (Jvm.Cond.code ({ cls := "com/example/fetch_to_rank/fetchtorank/crawl/OutcomeOfPinLaw", name := "del", desc := "([CII)C" } : Jvm.MethodName) method_2_code (3 : Nat) (Option.some Jvm.ClassFile.FieldType.char)).before args0 about1 = true := code_word (m := ⟨1, 1⟩) (meth := k1m1) (c := k1c1) (by decide +kernel) rfl rfl rfl (by decide +kernel)
set_option maxRecDepth 65536 in
theorem w_c14 : (Jvm.Cond.code ({ cls := "java/lang/String", name := "equals", desc := "(Ljava/lang/Object;)Z" } : Jvm.MethodName) jdk_42_method_66_code (3 : Nat) (Option.some Jvm.ClassFile.FieldType.boolean)).before args0 about1 = true := code_word (m := ⟨7, 2⟩) (meth := k7m2) (c := k7c2) (by decide +kernel) rfl rfl rfl (by decide +kernel)
set_option maxRecDepth 65536 in
theorem w_c15 : (Jvm.Cond.code ({ cls := "java/lang/StringLatin1", name := "equals", desc := "([B[B)Z" } : Jvm.MethodName) jdk_43_method_13_code (3 : Nat) (Option.some Jvm.ClassFile.FieldType.boolean)).before args0 about1 = true := code_word (m := ⟨11, 2⟩) (meth := k11m2) (c := k11c2) (by decide +kernel) rfl rfl rfl (by decide +kernel)
def codes1 : List Jvm.Cond := [Jvm.Cond.code x code maxLocals ret, Jvm.Cond.code ({ cls := "com/example/fetch_to_rank/fetchtorank/crawl/OutcomeOfPinLaw", name := "ins", desc := "([CICI)C" } : Jvm.MethodName) method_3_code (4 : Nat) (Option.some Jvm.ClassFile.FieldType.char), Jvm.Cond.code ({ cls := "java/lang/String", name := "<init>", desc := "([C)V" } : Jvm.MethodName) jdk_42_method_3_code (2 : Nat) (Option.none : Option Jvm.ClassFile.FieldType), Jvm.Cond.code ({ cls := "java/lang/String", name := "<init>", desc := "([CIILjava/lang/Void;)V" } : Jvm.MethodName) jdk_42_method_149_code (6 : Nat) (Option.none : Option Jvm.ClassFile.FieldType), Jvm.Cond.code ({ cls := "java/lang/Object", name := "<init>", desc := "()V" } : Jvm.MethodName) object_method_1_code (1 : Nat) (Option.none : Option Jvm.ClassFile.FieldType), Jvm.Cond.code ({ cls := "java/lang/StringUTF16", name := "compress", desc := "([CII)[B" } : Jvm.MethodName) jdk_52_method_16_code (6 : Nat) (Option.some (Jvm.ClassFile.FieldType.array Jvm.ClassFile.FieldType.byte)), Jvm.Cond.code ({ cls := "java/lang/StringUTF16", name := "compress", desc := "([CI[BII)I" } : Jvm.MethodName) jdk_52_method_21_code (7 : Nat) (Option.some Jvm.ClassFile.FieldType.int), Jvm.Cond.code ({ cls := "java/lang/StringUTF16", name := "coderFromArrayLen", desc := "([BI)B" } : Jvm.MethodName) jdk_52_method_15_code (2 : Nat) (Option.some Jvm.ClassFile.FieldType.byte), Jvm.Cond.code ({ cls := "com/example/fetch_to_rank/fetchtorank/crawl/Outcome", name := "of", desc := "(ILjava/lang/String;)Lcom/example/fetch_to_rank/fetchtorank/crawl/Outcome;" } : Jvm.MethodName) prog_11_method_5_code (2 : Nat) (Option.some (Jvm.ClassFile.FieldType.object "com/example/fetch_to_rank/fetchtorank/crawl/Outcome")), Jvm.Cond.code ({ cls := "java/lang/String", name := "valueOf", desc := "(C)Ljava/lang/String;" } : Jvm.MethodName) jdk_42_method_139_code (1 : Nat) (Option.some (Jvm.ClassFile.FieldType.object "java/lang/String")), Jvm.Cond.code ({ cls := "java/lang/StringLatin1", name := "canEncode", desc := "(C)Z" } : Jvm.MethodName) jdk_43_method_3_code (1 : Nat) (Option.some Jvm.ClassFile.FieldType.boolean), Jvm.Cond.code ({ cls := "java/lang/StringLatin1", name := "toBytes", desc := "(C)[B" } : Jvm.MethodName) jdk_43_method_46_code (1 : Nat) (Option.some (Jvm.ClassFile.FieldType.array Jvm.ClassFile.FieldType.byte)), Jvm.Cond.code ({ cls := "java/lang/String", name := "<init>", desc := "([BB)V" } : Jvm.MethodName) jdk_42_method_151_code (3 : Nat) (Option.none : Option Jvm.ClassFile.FieldType), Jvm.Cond.code ({ cls := "com/example/fetch_to_rank/fetchtorank/crawl/OutcomeOfPinLaw", name := "del", desc := "([CII)C" } : Jvm.MethodName) method_2_code (3 : Nat) (Option.some Jvm.ClassFile.FieldType.char), Jvm.Cond.code ({ cls := "java/lang/String", name := "equals", desc := "(Ljava/lang/Object;)Z" } : Jvm.MethodName) jdk_42_method_66_code (3 : Nat) (Option.some Jvm.ClassFile.FieldType.boolean), Jvm.Cond.code ({ cls := "java/lang/StringLatin1", name := "equals", desc := "([B[B)Z" } : Jvm.MethodName) jdk_43_method_13_code (3 : Nat) (Option.some Jvm.ClassFile.FieldType.boolean)]
set_option maxRecDepth 65536 in
theorem codes_eq : words1.filter isCode = codes1 := rfl
theorem w_codes : ∀ c ∈ words1.filter isCode, c.before args0 about1 = true := by
  rw [codes_eq]
  intro c hc
  simp only [codes1, List.mem_cons, List.not_mem_nil, or_false] at hc
  rcases hc with rfl | rfl | rfl | rfl | rfl | rfl | rfl | rfl | rfl | rfl | rfl | rfl | rfl | rfl | rfl | rfl
  · exact w_c0
  · exact w_c1
  · exact w_c2
  · exact w_c3
  · exact w_c4
  · exact w_c5
  · exact w_c6
  · exact w_c7
  · exact w_c8
  · exact w_c9
  · exact w_c10
  · exact w_c11
  · exact w_c12
  · exact w_c13
  · exact w_c14
  · exact w_c15
set_option maxRecDepth 65536 in
theorem w_t1 : (words1.take 24).all (fun c => isCode c || c.before args0 about1) = true := by decide +kernel
set_option maxRecDepth 65536 in
theorem w_t2 : ((words1.drop 24).take 24).all (fun c => isCode c || c.before args0 about1) = true := by decide +kernel
set_option maxRecDepth 65536 in
theorem w_t3 : (((words1.drop 24).drop 24).take 24).all (fun c => isCode c || c.before args0 about1) = true := by decide +kernel
set_option maxRecDepth 65536 in
theorem w_t4 : (((words1.drop 24).drop 24).drop 24).all (fun c => isCode c || c.before args0 about1) = true := by decide +kernel
theorem w_tables : (allAtoms (Jvm.Cond.code x code maxLocals ret :: tables_1)).before args0 about1 = true := by
  rw [allAtoms_all]
  show words1.all (fun c => c.before args0 about1) = true
  refine all_split ?_ w_codes
  rw [← List.take_append_drop 24 words1, List.all_append, w_t1, ← List.take_append_drop 24 (words1.drop 24), List.all_append, w_t2, ← List.take_append_drop 24 ((words1.drop 24).drop 24), List.all_append, w_t3, w_t4]
  rfl
set_option maxRecDepth 65536 in
theorem w_rest : rest_1_c.before args0 about1 = true := by decide +kernel
set_option maxRecDepth 65536 in
theorem w_case : (Jvm.Cond.and given_1 narrow_1).before args0 about1 = true := by decide +kernel
set_option maxRecDepth 65536 in
theorem w_consts : constsHeld consts_1 about1 := Jvm.Lit.constsHeldB_iff.mp (by decide +kernel)
theorem w_applies : (headSpec (Jvm.Cond.code x code maxLocals ret :: tables_1) room_1).applies x e0.platform about1 = true :=
  (Spec.applies_iff w_frames).mpr ⟨w_running, w_runnable, w_alone, w_named, w_hears, w_ripe, w_room, w_tables⟩
theorem atStart : AtStart classFile x code maxLocals ret World_1 tables_1 room_1 Calls_1 rest_1 Pre_1 launch0 p0 e0 about1 theMethod args0 below0 :=
  ⟨lists_1, trivial, launch0.admits_env _ _ _, launch0.least_env, fairChoices_fair.cas, fairChoices_fair.clock, w_frames, w_args, w_heap, w_applies, ⟨w_consts, trivial⟩, w_rest, w_case⟩
end start1
theorem witness_1 : WitnessClaimed_1 := ⟨start1.p0, start1.e0, start1.about1, start1.theMethod, start1.args0, start1.below0, start1.atStart⟩
end Jvm.Pilot.@@N@@
