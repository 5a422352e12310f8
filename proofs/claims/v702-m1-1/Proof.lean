import JvmDerived
import JvmDerived.Pilot.@@N@@Statement
import JvmDerived.Pilot.@@N@@Code
set_option linter.unusedVariables false
set_option linter.unusedSimpArgs false
namespace Jvm.OwnKit
open Sem ClassFile Op Lib Jvm.Stand Jvm.Free Jvm.LawKit Jvm.RoadKit
section Go
variable {p : Program} {l : Launch} {e : Env} {R : Room} {s : State} {m : MethodId} {args : Array Value} {below : List Frame} {meth : Method} {c : Code} {T T' : State} {locs : List Loc} {cells slots : Nat} {g g' : JFrame} {P : Outcome → State → Prop} {Q : Option Value → Heap → List Loc → Prop} {k n pc : Nat} {Ls : Array Slot} {rest : List Value}
/-- from this state and frame the invocation comes to its end, and the end is as P says -/
def Go (p : Program) (e : Env) (below : List Frame) (T : State) (g : JFrame) (P : Outcome → State → Prop) : Prop :=
  ∃ s₂ o, Steps p.tables e below (T.setTop g) s₂ ∧ s₂.status = .running ∧ Ended s₂ below o ∧ P o s₂
abbrev Po (s : State) (Q : Option Value → Heap → List Loc → Prop) (k n : Nat) : Outcome → State → Prop := fun o U' => ∃ v L, o = .returned v ∧ Q v U'.heap L ∧ FrameEnd s o U' L k n
theorem stp (h : ∀ t, Steps p.tables e below (T'.setTop g') t → Steps p.tables e below (T.setTop g) t) (K : Go p e below T' g' P) : Go p e below T g P := by
  obtain ⟨s2, o, h1, h2⟩ := K
  exact ⟨s2, o, h _ h1, h2⟩
theorem stt (h : Steps p.tables e below (T.setTop g) (T'.setTop g')) (K : Go p e below T' g' P) : Go p e below T g P := by
  obtain ⟨s2, o, h1, h2⟩ := K
  exact ⟨s2, o, h.trans h1, h2⟩
theorem out (X : Stand p l e R s m args below meth c T locs cells slots) {v : Option Value} (hl : meth.locks = false) (hv : meth.sig.returnType = none → v = none)
    (hst : ∀ fs : List Frame, (∀ (f : JFrame) (acts : List Action), f.method = m → f.locked = none → f.entered = [] → (doReturn e (T.setTop f) acts v).1 = T.setFrames fs) → Steps p.tables e below (T.setTop g) (T.setFrames fs))
    (hc : cells ≤ k) (hn : slots ≤ n) (hQ : Q v T.heap locs) : Go p e below T g (Po s Q k n) := by
  obtain ⟨fs, hr, hrun, hended, hW, hsame⟩ := X.leave (v := v) hv hl
  exact ⟨_, _, hst fs hr, hrun, hended, v, locs, rfl, hQ, ⟨_, rfl⟩, hW, hsame.mono hc hn⟩
theorem outN (X : Stand p l e R s m args below meth c T locs cells slots) (hx : p.tables.exec = Jvm.exec) {t : FieldType} {z : Int32} (hret : meth.sig.returnType = some t) (ht : t = .boolean ∨ t = .byte ∨ t = .char ∨ t = .short) (hd : decode c.code pc = .ok (.ireturn, 1)) (hl : meth.locks = false)
    (hc : cells ≤ k) (hn : slots ≤ n) (hQ : Q (some (.int (nar t z))) T.heap locs) : Go p e below T (mkF m pc Ls (.int z :: rest)) (Po s Q k n) :=
  out X hl (fun h => by rw [hret] at h; cases h) (fun fs hr => retN X hx hret ht hd hr) hc hn hQ
theorem outI (X : Stand p l e R s m args below meth c T locs cells slots) (hx : p.tables.exec = Jvm.exec) {z : Int32} (hret : meth.sig.returnType = some .int) (hd : decode c.code pc = .ok (.ireturn, 1)) (hl : meth.locks = false)
    (hc : cells ≤ k) (hn : slots ≤ n) (hQ : Q (some (.int z)) T.heap locs) : Go p e below T (mkF m pc Ls (.int z :: rest)) (Po s Q k n) :=
  out X hl (fun h => by rw [hret] at h; cases h) (fun fs hr => retOut X hx hret rfl (Or.inl ⟨rfl, Or.inl rfl, _, rfl⟩) hd hr) hc hn hQ
theorem outJ (X : Stand p l e R s m args below meth c T locs cells slots) (hx : p.tables.exec = Jvm.exec) {z : Int64} (hret : meth.sig.returnType = some .long) (hd : decode c.code pc = .ok (.lreturn, 1)) (hl : meth.locks = false)
    (hc : cells ≤ k) (hn : slots ≤ n) (hQ : Q (some (.long z)) T.heap locs) : Go p e below T (mkF m pc Ls (.long z :: rest)) (Po s Q k n) :=
  out X hl (fun h => by rw [hret] at h; cases h) (fun fs hr => retOut X hx hret rfl (Or.inr (Or.inl ⟨rfl, rfl, _, rfl⟩)) hd hr) hc hn hQ
theorem outD (X : Stand p l e R s m args below meth c T locs cells slots) (hx : p.tables.exec = Jvm.exec) {w : Value} (hret : meth.sig.returnType = some .double) (hw : ∃ z, w = .double z) (hd : decode c.code pc = .ok (.dreturn, 1)) (hl : meth.locks = false)
    (hc : cells ≤ k) (hn : slots ≤ n) (hQ : Q (some w) T.heap locs) : Go p e below T (mkF m pc Ls (w :: rest)) (Po s Q k n) := by
  obtain ⟨z, rfl⟩ := hw
  exact out X hl (fun h => by rw [hret] at h; cases h) (fun fs hr => retOut X hx hret rfl (Or.inr (Or.inr (Or.inl ⟨rfl, rfl, _, rfl⟩))) hd hr) hc hn hQ
theorem outA (X : Stand p l e R s m args below meth c T locs cells slots) (hx : p.tables.exec = Jvm.exec) {w : Value} {t : FieldType} (hret : meth.sig.returnType = some t) (ht : t.isReference = true) (hw : w.isRef = true) (hd : decode c.code pc = .ok (.areturn, 1)) (hl : meth.locks = false)
    (hc : cells ≤ k) (hn : slots ≤ n) (hQ : Q (some w) T.heap locs) : Go p e below T (mkF m pc Ls (w :: rest)) (Po s Q k n) := by
  refine out X hl (fun h => by rw [hret] at h; cases h) (fun fs hr => retOut X hx hret ?_ (Or.inr (Or.inr (Or.inr (Or.inr ⟨rfl, ht, hw⟩)))) hd hr) hc hn hQ
  rcases ref_cases hw with rfl | ⟨a, rfl⟩ <;> cases t <;> first | rfl | cases ht
theorem outV (X : Stand p l e R s m args below meth c T locs cells slots) (hx : p.tables.exec = Jvm.exec) (hret : meth.sig.returnType = none) (hd : decode c.code pc = .ok (.return_, 1)) (hl : meth.locks = false)
    (hc : cells ≤ k) (hn : slots ≤ n) (hQ : Q none T.heap locs) : Go p e below T (mkF m pc Ls []) (Po s Q k n) :=
  out X hl (fun _ => rfl) (fun fs hr => X.returnOut hx hret hd hr) hc hn hQ
theorem start {y : MethodName} {bytes : ByteArray} {maxL : Nat} {ret : Option FieldType} {ws : List Cond} {rm : Room} {Z : State} {as' : Array Value} {h0 : Heap} (hpl : plainFor y = true)
    (body : ∀ p e s m below meth c T, Stand p l e rm s m as' below meth c T [] 0 0 → p.tables.exec = Jvm.exec → c.code = bytes → c.maxLocals = maxL → s.vm.findClass y.cls = some m.cls → meth.name = y.name → meth.sig.returnType = ret → meth.locks = false → Z.Warmed39 s.vm → T.heap = h0 →
      Go p e below T (entryFrame m as' maxL) (Po s Q k n)) :
    MetFree l y (head1 (Cond.code y bytes maxL ret :: ws) rm) (fun a U => a = as' ∧ Z.Warmed39 U.vm ∧ U.heap = h0) (fun _ _ _ _ _ => True) (fun _ U o U' => ∃ v L, o = .returned v ∧ Q v U'.heap L ∧ FrameEnd U o U' L k n) := by
  refine MetFree.of_bodySF hpl hisR ?_
  intro p e s m args below meth c s₁ Bd hml0 hP hK
  obtain ⟨rfl, hZ, hh⟩ := hP
  exact body p e s m below meth c s₁ (Stand.of_body Bd) Bd.exec Bd.bytes hml0 (findClass_of_methodNamed Bd.named) (name_of_methodNamed Bd.named Bd.method).1 Bd.returns Bd.notSynchronized hZ (by rw [← hh, Bd.state]; rfl)
theorem goAt (q : g = g') (K : Go p e below T g' P) : Go p e below T g P := q ▸ K
end Go
theorem cat_ref {v : Value} (h : v.isRef = true) : v.category = 1 := by cases v <;> simp_all [Value.isRef, Value.category]
section Facts
variable {Z : State} {args : Array Value}
theorem old_le {n0 : Nat} {h : Heap} (O : Old Z n0 h) : n0 ≤ h.size := by
  obtain ⟨rfl, h2⟩ := O
  exact h2.1
theorem fld_of {C n d : String} {t : Term} {a : Addr} {k : Int32} (ev : t.eval args Z none [] Z = some (.ref a)) (h : (Cond.eq (.field t C n d) (.int k)).value args Z none Z [] = some true) : Fld Z Z.heap a C n d (.int k) := by
  obtain ⟨x, y, h1, h2, -, hk⟩ := cmp_v (Or.inl h)
  have h3 : y = .int k := (Option.some.inj h2).symm
  subst h3
  obtain ⟨z, rfl⟩ := hk
  have h4 : z = k := gotT (Cond.eq_ints h1 h2) h
  subst h4
  rw [fld_at ev] at h1
  exact Fld.start h1
theorem fldnull_of {C n d : String} {t : Term} {a : Addr} (ev : t.eval args Z none [] Z = some (.ref a)) (h : (Cond.eq (.field t C n d) .null).value args Z none Z [] = some true) : Fld Z Z.heap a C n d .null := by
  have h1 := null_v h
  rw [fld_at ev] at h1
  exact Fld.start h1
theorem eqint_v {t : Term} {k : Int32} (h : (Cond.eq t (.int k)).value args Z none Z [] = some true) : t.eval args Z none [] Z = some (.int k) := by
  obtain ⟨x, y, h1, h2, -, hk⟩ := cmp_v (Or.inl h)
  have h3 : y = .int k := (Option.some.inj h2).symm
  subst h3
  obtain ⟨z, rfl⟩ := hk
  have h4 : z = k := gotT (Cond.eq_ints h1 h2) h
  subst h4
  exact h1
end Facts
section Small
variable {h h' : Heap} {a : Addr} {sl : Nat} {x : Int32}
theorem ow_wr_char (e : x.toUInt32.toUInt16.toUInt32.toInt32 = x) (W : Wr h h' a sl (.int (nar .char x))) : Wr h h' a sl (.int x) := by rwa [show nar .char x = x from e] at W
theorem ow_fits_char (e : x.toUInt32.toUInt16.toUInt32.toInt32 = x) : fits .char (.int x) = true := by
  have q := fits_nar_char x
  rwa [show nar .char x = x from e] at q
theorem ow_wr_byte (e : x.toInt8.toInt32 = x) (W : Wr h h' a sl (.int (nar .byte x))) : Wr h h' a sl (.int x) := by rwa [show nar .byte x = x from e] at W
theorem ow_fits_byte (e : x.toInt8.toInt32 = x) : fits .byte (.int x) = true := by
  have q := fits_nar_byte x
  rwa [e] at q
theorem char_small (h0 : ¬ x < 0) (h1 : ¬ (65535 : Int32) < x) : x.toUInt32.toUInt16.toUInt32.toInt32 = x := by
  obtain ⟨q1, q2, q3⟩ := c_i2c x
  simp only [Int32.lt_iff_toInt_lt, Int32.reduceToInt] at h0 h1
  exact Int32.toInt_inj.mp (by omega)
theorem char255 (q : ¬ x < 0 ∧ ¬ (255 : Int32) < x) : x.toUInt32.toUInt16.toUInt32.toInt32 = x := char_small q.1 (by
  obtain ⟨q1, q2⟩ := q
  simp only [Int32.lt_iff_toInt_lt, Int32.reduceToInt] at q1 q2 ⊢
  omega)
theorem byte_small (h0 : ¬ x < (-128 : Int32)) (h1 : ¬ (127 : Int32) < x) : x.toInt8.toInt32 = x := by
  obtain ⟨q1, q2, q3⟩ := c_i2b x
  simp only [Int32.lt_iff_toInt_lt, Int32.reduceToInt] at h0 h1
  exact Int32.toInt_inj.mp (by omega)
theorem byte_twice : x.toInt8.toInt32.toInt8.toInt32 = x.toInt8.toInt32 := by simp
theorem and255 (x : Int32) : ¬ (x &&& (255 : Int32)) < 0 ∧ ¬ (255 : Int32) < (x &&& (255 : Int32)) := by
  have h := c_mask x 255 8 (by decide) (by decide)
  simp only [Int32.lt_iff_toInt_lt, Int32.reduceToInt]
  omega
end Small
section Sub
variable {Z : State} {a0 : Array Value}
theorem NSroot {O K : String} {n : Nat} (w : (Cond.noSuperclass O).before a0 Z = true) (wk : (Cond.instantiable K n).before a0 Z = true) (hn : O ≠ K) : NS Z O K := by
  obtain ⟨c, k, h1, h2, h3, -, -⟩ := Cond.noSuperclass_spec w
  obtain ⟨t, kt, g1, -⟩ := Cond.instantiable_spec wk
  have ne := ids_ne h1 g1 hn
  refine ⟨c, t, h1, g1, fun fuel => ?_⟩
  cases fuel with
  | zero => rfl
  | succ f => simp [Vm.isSubclassAux, ne, h2, h3]
theorem NSno {C S K : String} {n : Nat} (w : (Cond.superclass C S).before a0 Z = true) (wk : (Cond.instantiable K n).before a0 Z = true) (N : NS Z C K) (hn : C ≠ K) : ∃ c t, Z.vm.findClass C = some c ∧ Z.vm.findClass K = some t ∧ Z.vm.assignable c t = false := by
  obtain ⟨c, t, h0, g0, n3⟩ := N
  obtain ⟨p, k, kp, h1, h2, h3, h4, h5, -, h7⟩ := Cond.superclass_spec h0 w
  obtain ⟨t', kt, g1, g2, g5, g7, -⟩ := Cond.instantiable_spec wk
  cases g0.symm.trans g1
  rw [Bool.or_eq_false_iff] at g7
  have ne := ids_ne h0 g0 hn
  refine ⟨c, t, h0, g0, ?_⟩
  show Z.vm.assignableAux (255 + 1) c t = false
  simp [Vm.assignableAux, ne, h2, g2, h5, g5, g7.1, Vm.isSubclass, n3]
end Sub
/-- an array of n elements, told by a function -/
def Arf (Z : State) (h : Heap) (a : Addr) (k : ClassId) (ty : FieldType) (n : Nat) (f : Nat → Value) : Prop := ∃ c : Cell, Arr Z h a c ty ∧ c.cls = k ∧ c.slots.size = n ∧ (∀ i, i < n → c.slots[i]? = some (f i)) ∧ ∀ i, i < n → fits ty (f i) = true
section Arf
variable {Z : State} {h h' : Heap} {a b : Addr} {k : ClassId} {ty : FieldType} {n sl : Nat} {f g : Nat → Value} {v : Value} {ws : List Addr} {c : Cell} {j : Int32} {i : Nat}
theorem Arf.lt (F : Arf Z h a k ty n f) : a < h.size := by
  obtain ⟨c, A, -⟩ := F
  exact A.lt
theorem Arf.ext (F : Arf Z h a k ty n f) (E : Ext h h') : Arf Z h' a k ty n f := by
  obtain ⟨c, A, r⟩ := F
  exact ⟨c, A.ext E, r⟩
theorem Arf.other (F : Arf Z h b k ty n f) (W : Wr h h' a sl v) (q : b ≠ a) : Arf Z h' b k ty n f := by
  obtain ⟨c, A, r⟩ := F
  exact ⟨c, A.other W q, r⟩
theorem Arf.keep (F : Arf Z h a k ty n f) (K : Keep h h' ws) (q : a ∉ ws) : Arf Z h' a k ty n f := by
  obtain ⟨c, A, r⟩ := F
  exact ⟨c, ⟨K.2.1 a c A.1 q, A.2⟩, r⟩
theorem Arf.congr (F : Arf Z h a k ty n f) (q : ∀ i, i < n → g i = f i) : Arf Z h a k ty n g := by
  obtain ⟨c, A, r1, r2, H, G⟩ := F
  exact ⟨c, A, r1, r2, fun i hi => by rw [q i hi]; exact H i hi, fun i hi => by rw [q i hi]; exact G i hi⟩
theorem Arf.set (A : Arr Z h a c ty) (q1 : c.cls = k) (S : c.slots.size = n) (H : ∀ i, i < n → c.slots[i]? = some (f i)) (G : ∀ i, i < n → fits ty (f i) = true) (hv : fits ty v = true) (W : Wr h h' a i v) (hi : i < n) : Arf Z h' a k ty n (fun x => if x = i then v else f x) := by
  refine ⟨c.setSlot i v, A.same W, q1, by rw [sz_set]; exact S, fun x hx => ?_, fun x hx => ?_⟩
  · show (c.setSlot i v).slots[x]? = some (if x = i then v else f x)
    by_cases e : x = i
    · subst e
      simp [Cell.setSlot, S, hx]
    · rw [if_neg e, ← H x hx]
      exact Cell.slots_setSlot_ne v (Ne.symm e)
  · by_cases e : x = i
    · simp [e, hv]
    · simp [e, G x hx]
theorem Arv.arf {z : Int32} {vs : List Value} {d : Value} (F : Arv Z h a k ty z vs d) (hz : z.toNatClampNeg = n) : Arf Z h a k ty n (fun i => vs.getD i d) := by
  obtain ⟨c, A, r1, r2, r3, H, G⟩ := F
  exact ⟨c, A, r1, by rw [r2, hz], fun i hi => H i (by rw [r2, hz]; exact hi), fun i hi => G i (by rw [r2, hz]; exact hi)⟩
theorem arf_in (S : c.slots.size = n) (hk : j.toInt = i) (hn : i < n) : ¬ (j < 0 ∨ c.slots.size ≤ j.toNatClampNeg) := by
  simp only [Int32.lt_iff_toInt_lt, Int32.toNatClampNeg, Int32.reduceToInt, S, hk]
  omega
theorem arf_at (H : ∀ i, i < n → c.slots[i]? = some (f i)) (hk : j.toInt = i) (hn : i < n) : c.slots[j.toNatClampNeg]? = some (f i) := by
  have e : j.toNatClampNeg = i := by simp only [Int32.toNatClampNeg, hk]; omega
  rw [e]
  exact H i hn
theorem arf_ix (hk : j.toInt = i) : j.toNatClampNeg = i := by simp only [Int32.toNatClampNeg, hk]; omega
theorem arf_len {z : Int32} (S : c.slots.size = n) (hz : z.toInt = n) : c.slots.size.toInt32 = z := by
  rw [S]
  have h1 := Int32.toInt_lt z
  exact Int32.toInt_inj.mp (by rw [len_toInt (by omega)]; exact hz.symm)
theorem Arf.one (F : Arf Z h a k ty n f) (hi : i < n) : fits ty (f i) = true := by
  obtain ⟨c, A, r1, r2, H, G⟩ := F
  exact G i hi
theorem Arf.new {z : Int32} (A : Arr Z h a (newA k ty z) ty) (q : ¬ z < 0) (hz : z.toNatClampNeg = n) : Arf Z h a k ty n (fun _ => defaultValue ty) := (Arv.arf (Arv.new A q) hz).congr fun i _ => by simp
theorem cloneF {p : Program} {l : Launch} {e : Env} {R : Room} {s : State} {m : MethodId} {args : Array Value} {below : List Frame} {meth : Method} {c : Code} {T : State} {locs : List Loc} {cells slots : Nat} (X : Stand p l e R s m args below meth c T locs cells slots) (hx : p.tables.exec = Jvm.exec) (hZ : Z.Warmed39 s.vm) {a0 : Array Value} {own ad : String} {index : Nat} (hown : s.vm.findClass own = some m.cls)
    (w1 : (Cond.methodLink own index ⟨ad, "clone", "()Ljava/lang/Object;"⟩).before a0 Z = true) (w2 : (Cond.sameMethod ad "java/lang/Object" "clone" "()Ljava/lang/Object;").before a0 Z = true) (w3 : (Cond.native ⟨"java/lang/Object", "clone", "()Ljava/lang/Object;"⟩).before a0 Z = true)
    (w4 : (Cond.instanceMethod ⟨"java/lang/Object", "clone", "()Ljava/lang/Object;"⟩).before a0 Z = true) (w5 : (Cond.selects ad ⟨ad, "clone", "()Ljava/lang/Object;"⟩ ⟨"java/lang/Object", "clone", "()Ljava/lang/Object;"⟩).before a0 Z = true) (w6 : (Cond.castable ad "java/lang/Cloneable").before a0 Z = true)
    (eT : T.heap = h) (F : Arf Z h a k ty n f) (E : Exa Z h a ad) {g : JFrame} (hg : g.method = m) (hsize : g.locals.size = c.maxLocals) {rest : List Value} (hst : g.stack = .ref a :: rest) (hd : decode c.code g.pc = .ok (.invokevirtual index, 3))
    (hf : 1 ≤ R.frames) {W cap : Nat} (hW : 2 * g.monitorRoom + (rest.map fun v => v.category).sum ≤ W) (hl : W + 14 ≤ R.locals) (hcap : n ≤ cap) (hc : cells + 1 ≤ R.cells) (hsl : slots + cap ≤ R.slots) :
    ∃ T' h', Stand p l e R s m args below meth c T' locs (cells + 1) (slots + cap) ∧ T'.heap = h' ∧ Ext h h' ∧ Arf Z h' h.size k ty n f ∧ Exa Z h' h.size ad ∧
      ∀ target, Steps p.tables e below (T'.setTop { g with pc := g.pc + 3, stack := .ref h.size :: rest }) target → Steps p.tables e below (T.setTop g) target := by
  obtain ⟨cl, A, q1, S, H, G⟩ := F
  have FC : FitC Z cl := fitC_of A fun i hi v hv => by rw [H i (S ▸ hi)] at hv; cases hv; exact G i (S ▸ hi)
  obtain ⟨T', h', X', e', ex, A', E', st⟩ := cloneA X hx hZ hown w1 w2 w3 w4 w5 w6 eT A E FC hg hsize hst hd hf hW hl (by rw [S]; exact hcap) hc hsl
  exact ⟨T', h', X', e', ex, ⟨cloneOf cl, A', q1, S, H, G⟩, E', st⟩
end Arf
theorem and1_cases (x : Int32) : x &&& (1 : Int32) = (0 : Int32) ∨ x &&& (1 : Int32) = (1 : Int32) := and_one x
theorem and3_cases (x : Int32) : x &&& (3 : Int32) = (0 : Int32) ∨ x &&& (3 : Int32) = (1 : Int32) ∨ x &&& (3 : Int32) = (2 : Int32) ∨ x &&& (3 : Int32) = (3 : Int32) := by
  have h := c_mask x 3 2 (by decide) (by decide)
  simp only [← Int32.toInt_inj]
  have : (0 : Int32).toInt = 0 := by decide
  have : (1 : Int32).toInt = 1 := by decide
  have : (2 : Int32).toInt = 2 := by decide
  have : (3 : Int32).toInt = 3 := by decide
  omega
end Jvm.OwnKit
namespace Jvm.OwnKit
open Sem ClassFile Op Lib Jvm.Stand Jvm.Free Jvm.LawKit Jvm.RoadKit
section Pin
variable {Z : State} {args : Array Value} {t u : Term} {a x : Addr} {c : Cell} {ty : FieldType} {z : Int32} {vs : List Value} {v d : Value} {n i : Nat}
/-- facts on arrays and fields out of the words that pin them -/
theorem eqref_v (hb : u.eval args Z none [] Z = some (.ref x)) (h : (Cond.eq t u).value args Z none Z [] = some true) : t.eval args Z none [] Z = some (.ref x) := by
  cases ht : t.eval args Z none [] Z with
  | none => simp [Cond.value, ht] at h
  | some w => cases w <;> simp [Cond.value, ht, hb] at h ⊢ <;> exact h
theorem fldref_of {C f dd : String} (ev : t.eval args Z none [] Z = some (.ref a)) (h : (Term.field t C f dd).eval args Z none [] Z = some (.ref x)) : Fld Z Z.heap a C f dd (.ref x) := by
  rw [fld_at ev] at h
  exact Fld.start h
theorem fldint_of {C f dd : String} {k : Int32} (ev : t.eval args Z none [] Z = some (.ref a)) (h : (Cond.eq (.field t C f dd) (.int k)).value args Z none Z [] = some true) : Fld Z Z.heap a C f dd (.int k) := by
  have h1 := eqint_v h
  rw [fld_at ev] at h1
  exact Fld.start h1
theorem pin_len {k : Int32} (ev : t.eval args Z none [] Z = some (.ref a)) (A : Arr Z Z.heap a c ty) (h : (Cond.eq (.length t) (.int k)).value args Z none Z [] = some true) : c.slots.size = k.toNatClampNeg ∧ ¬ k < 0 := by
  have h1 := eqint_v h
  have hA : Z.arrayAt? a = some c := IntBox.arrayAt_of A.1 A.2.1 A.2.2
  simp only [Term.eval, ev, hA, Option.bind_eq_bind, Option.bind_some, Option.pure_def] at h1
  split at h1
  · rename_i q
    have h2 : c.slots.size.toInt32 = k := Value.int.inj (Option.some.inj h1)
    have h3 := len_toInt q
    rw [h2] at h3
    simp only [Int32.lt_iff_toInt_lt, Int32.toNatClampNeg, h3, Int32.reduceToInt]
    omega
  · cases h1
theorem pin_at {j : Int32} (ev : t.eval args Z none [] Z = some (.ref a)) (A : Arr Z Z.heap a c ty) (h : (Term.elem t (.int j)).eval args Z none [] Z = some v) (hj : j.toNatClampNeg = i) : c.slots[i]? = some v := by
  rw [← hj]
  exact (elem_in h ev rfl A.1).2
theorem pin_nil : ∀ j, j < 0 → c.slots[i + j]? = some (([] : List Value).getD j d) := fun j q => absurd q (Nat.not_lt_zero j)
theorem pin_cons (h : c.slots[i]? = some v) (r : ∀ j, j < n → c.slots[i + 1 + j]? = some (vs.getD j d)) : ∀ j, j < n + 1 → c.slots[i + j]? = some ((v :: vs).getD j d) := by
  intro j q
  cases j with
  | zero => simpa using h
  | succ j =>
    have := r j (by omega)
    rw [show i + (j + 1) = i + 1 + j by omega]
    simpa using this
theorem pin_arv (A : Arr Z Z.heap a c ty) (hl : c.slots.size = z.toNatClampNeg ∧ ¬ z < 0) (hz : z.toNatClampNeg = n) (H : ∀ j, j < n → c.slots[0 + j]? = some (vs.getD j d)) (G : vs.all (fits ty) = true) (hd : fits ty d = true) : Arv Z Z.heap a c.cls ty z vs d := by
  refine ⟨c, A, rfl, hl.1, hl.2, fun j q => ?_, fun j _ => ?_⟩
  · have := H j (by rw [← hz, ← hl.1]; exact q)
    rwa [Nat.zero_add] at this
  · by_cases q : j < vs.length
    · have e : vs.getD j d = vs[j] := by simp [List.getD, q]
      rw [e]
      exact List.all_eq_true.mp G _ (List.getElem_mem q)
    · have e : vs.getD j d = d := by simp [List.getD, List.getElem?_eq_none (Nat.le_of_not_lt q)]
      rw [e]
      exact hd
end Pin
end Jvm.OwnKit
namespace Jvm.OwnKit
open Sem ClassFile Op Lib Jvm.Stand Jvm.Free Jvm.LawKit Jvm.RoadKit
section GoW
variable {p : Program} {l : Launch} {e : Env} {R : Room} {s : State} {m : MethodId} {args : Array Value} {below : List Frame} {meth : Method} {c : Code} {T T' : State} {locs : List Loc} {cells slots : Nat} {g g' : JFrame} {Q : Option Value → Heap → List Loc → Prop} {k n pc : Nat} {Ls : Array Slot} {rest : List Value} {Z : State} {EL : List (String × Nat)} {vm0 : Vm} {a0 : Array Value} {h h0 : Heap} {k0 : Nat}
abbrev PoW (s Z : State) (EL : List (String × Nat)) (Q : Option Value → Heap → List Loc → Prop) (k n : Nat) : Outcome → State → Prop := fun o U' => ∃ v L, o = .returned v ∧ Q v U'.heap L ∧ CHr Z EL s.vm s.heap U'.vm U'.heap ∧ ReturnedEndW s o U' L k n
theorem outW (X : Stand p l e R (s.setVm vm0) m args below meth c T locs cells slots) (hZ : Z.Warmed39 vm0) (hEL : EW Z a0 EL) (eT : T.heap = h) (hS : s.Since vm0 k0) (hk : k0 ≤ h.size) (CR : CHr Z EL s.vm s.heap vm0 h) {v : Option Value} (hl : meth.locks = false) (hv : meth.sig.returnType = none → v = none)
    (hst : ∀ fs : List Frame, (∀ (f : JFrame) (acts : List Action), f.method = m → f.locked = none → f.entered = [] → (doReturn e (T.setTop f) acts v).1 = T.setFrames fs) → Steps p.tables e below (T.setTop g) (T.setFrames fs))
    (hc : cells ≤ k) (hn : slots ≤ n) (hQ : Q v T.heap locs) : Go p e below T g (PoW s Z EL Q k n) := by
  obtain ⟨fs, hr, hrun, hended, hW, h1, h2, hsame⟩ := X.leaveW hS (by rw [eT]; exact hk) (v := v) hv hl
  have hC : CHr Z EL s.vm s.heap T.vm T.heap := by rw [eT]; exact CR.trans (CHv.at X hZ hEL CR.1)
  exact ⟨_, _, hst fs hr, hrun, hended, v, locs, rfl, hQ, hC, hW, h1, h2, hsame.mono hc hn⟩
theorem outNW (X : Stand p l e R (s.setVm vm0) m args below meth c T locs cells slots) (hx : p.tables.exec = Jvm.exec) (hZ : Z.Warmed39 vm0) (hEL : EW Z a0 EL) (eT : T.heap = h) (hS : s.Since vm0 k0) (hk : k0 ≤ h.size) (CR : CHr Z EL s.vm s.heap vm0 h) {t : FieldType} {z : Int32} (hret : meth.sig.returnType = some t) (ht : t = .boolean ∨ t = .byte ∨ t = .char ∨ t = .short) (hd : decode c.code pc = .ok (.ireturn, 1)) (hl : meth.locks = false)
    (hc : cells ≤ k) (hn : slots ≤ n) (hQ : Q (some (.int (nar t z))) T.heap locs) : Go p e below T (mkF m pc Ls (.int z :: rest)) (PoW s Z EL Q k n) :=
  outW X hZ hEL eT hS hk CR hl (fun h => by rw [hret] at h; cases h) (fun fs hr => retN X hx hret ht hd hr) hc hn hQ
theorem outIW (X : Stand p l e R (s.setVm vm0) m args below meth c T locs cells slots) (hx : p.tables.exec = Jvm.exec) (hZ : Z.Warmed39 vm0) (hEL : EW Z a0 EL) (eT : T.heap = h) (hS : s.Since vm0 k0) (hk : k0 ≤ h.size) (CR : CHr Z EL s.vm s.heap vm0 h) {z : Int32} (hret : meth.sig.returnType = some .int) (hd : decode c.code pc = .ok (.ireturn, 1)) (hl : meth.locks = false)
    (hc : cells ≤ k) (hn : slots ≤ n) (hQ : Q (some (.int z)) T.heap locs) : Go p e below T (mkF m pc Ls (.int z :: rest)) (PoW s Z EL Q k n) :=
  outW X hZ hEL eT hS hk CR hl (fun h => by rw [hret] at h; cases h) (fun fs hr => retOut X hx hret rfl (Or.inl ⟨rfl, Or.inl rfl, _, rfl⟩) hd hr) hc hn hQ
theorem outJW (X : Stand p l e R (s.setVm vm0) m args below meth c T locs cells slots) (hx : p.tables.exec = Jvm.exec) (hZ : Z.Warmed39 vm0) (hEL : EW Z a0 EL) (eT : T.heap = h) (hS : s.Since vm0 k0) (hk : k0 ≤ h.size) (CR : CHr Z EL s.vm s.heap vm0 h) {z : Int64} (hret : meth.sig.returnType = some .long) (hd : decode c.code pc = .ok (.lreturn, 1)) (hl : meth.locks = false)
    (hc : cells ≤ k) (hn : slots ≤ n) (hQ : Q (some (.long z)) T.heap locs) : Go p e below T (mkF m pc Ls (.long z :: rest)) (PoW s Z EL Q k n) :=
  outW X hZ hEL eT hS hk CR hl (fun h => by rw [hret] at h; cases h) (fun fs hr => retOut X hx hret rfl (Or.inr (Or.inl ⟨rfl, rfl, _, rfl⟩)) hd hr) hc hn hQ
theorem outAW (X : Stand p l e R (s.setVm vm0) m args below meth c T locs cells slots) (hx : p.tables.exec = Jvm.exec) (hZ : Z.Warmed39 vm0) (hEL : EW Z a0 EL) (eT : T.heap = h) (hS : s.Since vm0 k0) (hk : k0 ≤ h.size) (CR : CHr Z EL s.vm s.heap vm0 h) {w : Value} {t : FieldType} (hret : meth.sig.returnType = some t) (ht : t.isReference = true) (hw : w.isRef = true) (hd : decode c.code pc = .ok (.areturn, 1)) (hl : meth.locks = false)
    (hc : cells ≤ k) (hn : slots ≤ n) (hQ : Q (some w) T.heap locs) : Go p e below T (mkF m pc Ls (w :: rest)) (PoW s Z EL Q k n) := by
  refine outW X hZ hEL eT hS hk CR hl (fun h => by rw [hret] at h; cases h) (fun fs hr => retOut X hx hret ?_ (Or.inr (Or.inr (Or.inr (Or.inr ⟨rfl, ht, hw⟩)))) hd hr) hc hn hQ
  rcases ref_cases hw with rfl | ⟨a, rfl⟩ <;> cases t <;> first | rfl | cases ht
theorem outVW (X : Stand p l e R (s.setVm vm0) m args below meth c T locs cells slots) (hx : p.tables.exec = Jvm.exec) (hZ : Z.Warmed39 vm0) (hEL : EW Z a0 EL) (eT : T.heap = h) (hS : s.Since vm0 k0) (hk : k0 ≤ h.size) (CR : CHr Z EL s.vm s.heap vm0 h) (hret : meth.sig.returnType = none) (hd : decode c.code pc = .ok (.return_, 1)) (hl : meth.locks = false)
    (hc : cells ≤ k) (hn : slots ≤ n) (hQ : Q none T.heap locs) : Go p e below T (mkF m pc Ls []) (PoW s Z EL Q k n) :=
  outW X hZ hEL eT hS hk CR hl (fun _ => rfl) (fun fs hr => X.returnOut hx hret hd hr) hc hn hQ
theorem startW {y : MethodName} {bytes : ByteArray} {maxL : Nat} {ret : Option FieldType} {ws : List Cond} {rm : Room} {as' : Array Value} (hpl : plainFor y = true)
    (body : ∀ p e s m below meth c T, Stand p l e rm (s.setVm s.vm) m as' below meth c T [] 0 0 → p.tables.exec = Jvm.exec → c.code = bytes → c.maxLocals = maxL → s.vm.findClass y.cls = some m.cls → meth.name = y.name → meth.sig.returnType = ret → meth.locks = false → Z.Warmed39 s.vm → T.heap = h0 → s.Since s.vm 0 → CHr Z EL s.vm s.heap s.vm h0 →
      Go p e below T (entryFrame m as' maxL) (PoW s Z EL Q k n)) :
    MetFree l y (head1 (Cond.code y bytes maxL ret :: ws) rm) (fun a U => a = as' ∧ Z.Warmed39 U.vm ∧ U.heap = h0 ∧ CHv Z EL U.vm h0) (fun _ _ _ _ _ => True) (fun _ U o U' => ∃ v L, o = .returned v ∧ Q v U'.heap L ∧ CHr Z EL U.vm U.heap U'.vm U'.heap ∧ ReturnedEndW U o U' L k n) := by
  refine MetFree.of_bodySF hpl hisR ?_
  intro p e s m args below meth c s₁ Bd hml0 hP hK
  obtain ⟨rfl, hZ, hh, hC⟩ := hP
  have X : Stand p l e rm s m args below meth c s₁ [] 0 0 := Stand.of_body Bd
  exact body p e s m below meth c s₁ X Bd.exec Bd.bytes hml0 (findClass_of_methodNamed Bd.named) (name_of_methodNamed Bd.named Bd.method).1 Bd.returns Bd.notSynchronized hZ (by rw [← hh, Bd.state]; rfl) ((State.WarmedH.refl s).since 0) (by rw [hh]; exact CHr.refl hC)
/-- a String whose value is still null is no constant's -/
theorem safeNull {x : Addr} {vm : Vm} (hal : Z.vm.Alike vm) (E : Exa Z h x "java/lang/String") (F : Fld Z h x "java/lang/String" "value" "[B" .null) : Safe Z EL vm h x := fun B => by
  obtain ⟨cell, k, e1, e2, e3, -, -⟩ := E
  obtain ⟨c', cf, kf, i, f, f1, f2, f3, f4, f5, f6, f7⟩ := F
  cases e1.symm.trans f1
  obtain ⟨p, -, u, a, -, q, -, G, rfl | rfl⟩ := B
  · cases (show h[q.sa]? = some q.sC from G.ha).symm.trans e1
    obtain ⟨cS, ⟨hs, -, -⟩, -⟩ := G
    obtain ⟨-, -, -, ⟨c4, k4, i4, r1, r2⟩, -, -, -, r7, -⟩ := hs
    obtain ⟨k', r3, -⟩ := State.fieldFound?_setVm (s := Z) hal f2
    have r1' : (Z.setVm vm).fieldFound? "java/lang/String" "value" "[B" = some (c4, k4, i4, q.fSV) := r1
    cases r3.symm.trans r1'
    cases f7.symm.trans r7
  · cases (show h[q.sd]? = some q.SA from G.hd).symm.trans e1
    obtain ⟨cS, -, -, g, -⟩ := G
    have g' : Z.vm.findClass "[B" = some q.SA.cls := by rw [← hal.findClass]; exact g
    obtain ⟨k1, q1, q2⟩ := Vm.findClass_spec g'
    obtain ⟨k2, q3, q4⟩ := Vm.findClass_spec e2
    cases q1.symm.trans q3
    exact absurd (q2.symm.trans q4) (by decide)
end GoW
end Jvm.OwnKit
namespace Jvm.OwnKit
open Sem ClassFile Op Lib Jvm.Stand Jvm.Free Jvm.LawKit Jvm.RoadKit
section Big
variable {Z : State} {h h' : Heap} {x w o a b : Addr} {sl n N : Nat} {v : Value} {ws : List Addr} {C : String} {a0 : Array Value} {k : ClassId} {ty : FieldType} {z : Int32} {vs : List Value} {d : Value} {f : Nat → Value}
theorem Arf.arv (F : Arf Z h a k ty n f) (hz : z.toInt = (n : Int)) : Arv Z h a k ty z ((List.range n).map f) d := by
  obtain ⟨c, A, q1, S, H, G⟩ := F
  have hc : z.toNatClampNeg = n := arf_ix hz
  refine ⟨c, A, q1, by rw [S, hc], ?_, fun i hi => ?_, fun i hi => ?_⟩
  · rw [Int32.lt_iff_toInt_lt, hz, show (0 : Int32).toInt = 0 from rfl]
    omega
  · rw [S] at hi
    rw [H i hi]
    simp [List.getD, hi]
  · rw [S] at hi
    have := G i hi
    simpa [List.getD, hi] using this
def own_int : Value → Int32
  | .int u => u
  | _ => 0
theorem own_bigN {n : Nat} (h : n ≤ 4000) : (Int32.ofNat n).toInt = (n : Int) := by
  have : (Int32.ofNat n).toInt = ((n : Int)).bmod (2 ^ 32) := Int32.toInt_ofNat'
  rw [this, Int.bmod_def]
  omega
/-- an int[] holds ints -/
theorem Arf.ints (F : Arf Z h a k .int n f) : ∃ g : Nat → Int32, Arf Z h a k .int n (fun i => (.int (g i))) := by
  refine ⟨fun i => own_int (f i), F.congr fun i hi => ?_⟩
  have q := F.one hi
  show Value.int (own_int (f i)) = f i
  generalize f i = u at q
  cases u <;> first | rfl | (simp [fits] at q)
theorem own_neArf (E : Exa Z h x C) (F : Arf Z h b k ty n f) (wi : (Cond.instantiable C N).before a0 Z = true) (hn : n ≤ 4000) : x ≠ b := E.neArv (F.arv (own_bigN hn) (d := .null)) wi
/-- x is a BigInteger, not negative, of at most N ints -/
def BigOk (Z : State) (h : Heap) (x : Addr) (N : Nat) : Prop := ∃ (a : Addr) (k : ClassId) (n : Nat) (f : Nat → Int32) (s : Int32), Exa Z h x "java/math/BigInteger" ∧ Fld Z h x "java/math/BigInteger" "signum" "I" (.int s) ∧ Fld Z h x "java/math/BigInteger" "mag" "[I" (.ref a) ∧ Arf Z h a k .int n (fun i => (.int (f i))) ∧ n ≤ N ∧ n ≤ 100 ∧ ((s = 0 ∧ n = 0) ∨ (s = 1 ∧ 0 < n))
/-- w is no int[] of a hundred at the most -/
def Apart (Z : State) (h : Heap) (w : Addr) : Prop := ∀ (t : Addr) (k : ClassId) (n : Nat) (f : Nat → Value), Arf Z h t k .int n f → n ≤ 100 → t ≠ w
theorem Apart.exa (E : Exa Z h w C) (wi : (Cond.instantiable C N).before a0 Z = true) : Apart Z h w := fun _ _ n _ F hn => Ne.symm (own_neArf E F wi (by omega))
theorem apart0 : ∀ x ∈ ([] : List Addr), Apart Z h x := fun _ q => nomatch q
theorem apartS (A : Apart Z h w) (r : ∀ x ∈ ws, Apart Z h x) : ∀ x ∈ w :: ws, Apart Z h x := fun x q => (List.mem_cons.mp q).elim (fun u => u ▸ A) (r x)
theorem BigOk.exa (F : BigOk Z h x N) : Exa Z h x "java/math/BigInteger" := by
  obtain ⟨a, k, n, f, s, E, -⟩ := F
  exact E
theorem BigOk.lt (F : BigOk Z h x N) : x < h.size := F.exa.lt
theorem BigOk.ext (F : BigOk Z h x N) (E : Ext h h') : BigOk Z h' x N := by
  obtain ⟨a, k, n, f, s, E1, F1, F2, V, r⟩ := F
  exact ⟨a, k, n, f, s, E1.ext E, F1.ext E, F2.ext E, V.ext E, r⟩
theorem BigOk.wr (F : BigOk Z h x N) (W : Wr h h' o sl v) (ne : x ≠ o) (A : Apart Z h o) : BigOk Z h' x N := by
  obtain ⟨a, k, n, f, s, E1, F1, F2, V, h1, h2, r⟩ := F
  exact ⟨a, k, n, f, s, E1.wr W, F1.other W (Or.inl ne), F2.other W (Or.inl ne), V.other W (A _ _ _ _ V h2), h1, h2, r⟩
theorem BigOk.keep (F : BigOk Z h x N) (K : Keep h h' ws) (q : x ∉ ws) (A : ∀ y ∈ ws, Apart Z h y) : BigOk Z h' x N := by
  obtain ⟨a, k, n, f, s, E1, F1, F2, V, h1, h2, r⟩ := F
  exact ⟨a, k, n, f, s, E1.keep K, F1.keep K q, F2.keep K q, V.keep K (fun m => A a m _ _ _ _ V h2 rfl), h1, h2, r⟩
theorem BigOk.mono {M : Nat} (F : BigOk Z h x N) (hNM : N ≤ M) : BigOk Z h x M := by
  obtain ⟨a, k, n, f, s, E1, F1, F2, V, h1, r⟩ := F
  exact ⟨a, k, n, f, s, E1, F1, F2, V, Nat.le_trans h1 hNM, r⟩
/-- System.arraycopy from one int[] to another -/
theorem cpI {p : Program} {l : Launch} {e : Env} {R : Room} {s : State} {m : MethodId} {args : Array Value} {below : List Frame} {meth : Method} {c : Code} {T : State} {locs : List Loc} {cells slots : Nat} (X : Stand p l e R s m args below meth c T locs cells slots) (hx : p.tables.exec = Jvm.exec) (hZ : Z.Warmed39 s.vm) {own : String} {index : Nat} (hown : s.vm.findClass own = some m.cls)
    (w1 : (Cond.methodLink own index Jvm.Stand.acN).before a0 Z = true) (w2 : (Cond.native Jvm.Stand.acN).before a0 Z = true) (w3 : (Cond.static Jvm.Stand.acN).before a0 Z = true) (w4 : (Cond.initialized "java/lang/System").before a0 Z = true) (eT : T.heap = h)
    {k' : ClassId} {n' : Nat} {g1 g2 : Nat → Int32} {sp dp nn : Int32} {SP DP NN : Nat} (A : Arf Z h a k .int n (fun i => (.int (g1 i)))) (B : Arf Z h b k' .int n' (fun i => (.int (g2 i)))) (hA : n ≤ 100) (hB : n' ≤ 100)
    (h1 : sp.toInt = (SP : Int)) (h2 : dp.toInt = (DP : Int)) (h3 : nn.toInt = (NN : Int)) (h4 : SP + NN ≤ n) (h5 : DP + NN ≤ n') {n0 : Nat} (N : Fr n0 locs) (ge : n0 ≤ b)
    {g : JFrame} (hg : g.method = m) (hsize : g.locals.size = c.maxLocals) {rest : List Value} (hs : g.stack = .int nn :: .int dp :: .ref b :: .int sp :: .ref a :: rest) (hd : decode c.code g.pc = .ok (.invokestatic index, 3))
    (hf : 1 ≤ R.frames) {W : Nat} (hW : 2 * g.monitorRoom + (rest.map fun v => v.category).sum ≤ W) (hlo : W + 18 ≤ R.locals) :
    ∃ (T' : State) (h' : Heap) (L : List Loc) (g3 : Nat → Int32), Stand p l e R s m args below meth c T' L cells slots ∧ T'.heap = h' ∧ Fr n0 L ∧ Keep h h' [b] ∧ Arf Z h' b k' .int n' (fun i => (.int (g3 i))) ∧
      ∀ target, Steps p.tables e below (T'.setTop { g with pc := g.pc + 3, stack := rest }) target → Steps p.tables e below (T.setTop g) target := by
  have z1 := own_bigN (n := n) (by omega)
  have z2 := own_bigN (n := n') (by omega)
  have nneg : ∀ {y : Int32} {Y : Nat}, y.toInt = (Y : Int) → ¬ y < 0 := fun {y Y} q => by
    rw [Int32.lt_iff_toInt_lt, q, show (0 : Int32).toInt = 0 from rfl]
    omega
  have hnw : nativeFrameWords "java/lang/System" "arraycopy" 5 + 11 = 18 := by decide +kernel
  obtain ⟨T', h', L, X', e', N', K, V, st⟩ := cpA X hx hZ hown w1 w2 w3 w4 eT (A.arv z1 (d := .int 0)) (B.arv z2 (d := .int 0)) (sp := sp) (dp := dp) (nn := nn) (us := (List.range nn.toNatClampNeg).map fun i => ((List.range n).map fun i => Value.int (g1 i)).getD (sp.toNatClampNeg + i) (.int 0)) (Or.inl ⟨rfl, rfl⟩)
    (nneg h1) (nneg h2) (nneg h3) (by rw [arf_ix h1, arf_ix h3, arf_ix z1]; exact h4) (by rw [arf_ix h2, arf_ix h3, arf_ix z2]; exact h5) rfl (by rw [arf_ix h2, arf_ix h3]; simpa using h5) N ge hg hsize hs hd hf hW (by rw [hnw]; exact hlo)
  obtain ⟨g3, G⟩ := (Arv.arf V (arf_ix z2)).ints
  exact ⟨T', h', L, g3, X', e', N', K, G, st⟩
theorem own_dupX2 {tb : Tables} [Ours tb] {e : Env} {below : List Frame} {T target : State} {m : MethodId} {c : Code} {g : JFrame} (hA : At T m c below) (hx : tb.exec = Jvm.exec) (hg : g.method = m) {u1 u2 u3 : Value} {rest : List Value} (hd : decode c.code g.pc = .ok (.dup_x2, 1)) (hs : g.stack = u1 :: u2 :: u3 :: rest) (h1 : u1.category = 1) (h2 : u2.category = 1) (h3 : u3.category = 1)
    (hr : Steps tb e below (T.setTop { g with pc := g.pc + 1, stack := u1 :: u2 :: u3 :: u1 :: rest }) target) : Steps tb e below (T.setTop g) target := by
  subst hg
  jvm_step hA [hA.top, hx, hd, hs, h1, h2, h3]
  exact hr
end Big
end Jvm.OwnKit
@@BLOCK:CatchCold.lean.txt@@
namespace Jvm.OwnKit
open Sem ClassFile Op Lib Bundle Jvm.Stand Jvm.Free Jvm.LawKit Jvm.RoadKit Jvm.Free.Exc
section Thr
variable {p : Program} {l : Launch} {e : Env} {R : Room} {s : State} {m : MethodId} {args : Array Value} {below : List Frame} {meth : Method} {c : Code} {T T' : State} {locs : List Loc} {cells slots : Nat} {g g' : JFrame} {Q : Option Value → Heap → List Loc → Prop} {k n pc : Nat} {Ls : Array Slot} {rest : List Value} {Z : State} {a0 : Array Value} {EL : List (String × Nat)} {h h0 : Heap} {vm0 : Vm} {k0 : Nat}
/-- what every end of a body that may have interned carries -/
def EndW (s t : State) (L : List Loc) (k n : Nat) : Prop := s.Warmed39 t.vm ∧ s.Booked t.vm t.heap.size ∧ s.sameButNew { t with vm := s.vm } L k n
abbrev Knows (_ : Program) (_ : Env) (bl : List Frame) (s : State) (_ : Array Value) : Prop := s.vm.MethodsKnown ∧ s.vm.FramesKnown bl
theorem Go.imp {P P' : Outcome → State → Prop} (K : Go p e below T g P) (q : ∀ o u, P o u → P' o u) : Go p e below T g P' := by
  obtain ⟨s2, o, h1, h2, h3, h4⟩ := K
  exact ⟨s2, o, h1, h2, h3, q _ _ h4⟩
abbrev PoT (s Z : State) (EL : List (String × Nat)) (Q : Option Value → Heap → List Loc → Prop) (k n : Nat) : Outcome → State → Prop := fun o U' => ∃ x L, o = .threw x ∧ Q (some (.ref x)) U'.heap L ∧ CHr Z EL s.vm s.heap U'.vm U'.heap ∧ EndW s U' L k n
abbrev PoWT (s Z : State) (EL : List (String × Nat)) (Q : Option Value → Heap → List Loc → Prop) (k n : Nat) (Q' : Option Value → Heap → List Loc → Prop) (k' n' : Nat) : Outcome → State → Prop := fun o U' => PoW s Z EL Q k n o U' ∨ PoT s Z EL Q' k' n' o U'
abbrev PoWW (s Z : State) (EL : List (String × Nat)) (Q : Option Value → Heap → List Loc → Prop) (k n : Nat) (Q' : Option Value → Heap → List Loc → Prop) (k' n' : Nat) : Outcome → State → Prop := fun o U' => PoW s Z EL Q k n o U' ∨ PoW s Z EL Q' k' n' o U'
theorem outT (X : Stand p l e R (s.setVm vm0) m args below meth c T locs cells slots) (hx : p.tables.exec = Jvm.exec) (hZ : Z.Warmed39 vm0) (hEL : EW Z a0 EL) (eT : T.heap = h) (hS : s.Since vm0 k0) (hk : k0 ≤ h.size) (CR : CHr Z EL s.vm s.heap vm0 h) {a : Addr} (hout : c.exceptionTable.isEmpty = true) (hd : decode c.code pc = .ok (.athrow, 1)) (hl : meth.locks = false)
    (hc : cells ≤ k) (hn : slots ≤ n) (hQ : Q (some (.ref a)) T.heap locs) : Go p e below T (mkF m pc Ls (.ref a :: rest)) (PoT s Z EL Q k n) := by
  obtain ⟨h1, h2, h3, hW, hsame⟩ := X.athrowLeaves hx (g := mkF m pc Ls (.ref a :: rest)) rfl rfl rfl (covers_of_empty hout _) (a := a) (rest := rest) rfl hd hl
  obtain ⟨w1, w2, w3⟩ := hS.ended (U := T.setFrames (.throwing a :: below)) hW (by show k0 ≤ T.heap.size; rw [eT]; exact hk) hsame
  exact ⟨_, _, h1, h2, h3, a, locs, rfl, hQ, by have hC : CHr Z EL s.vm s.heap T.vm T.heap := by rw [eT]; exact CR.trans (CHv.at X hZ hEL CR.1)
                                                exact hC, w1, w2, w3.mono hc hn⟩
theorem startT {P : State → Outcome → State → Prop} {y : MethodName} {bytes : ByteArray} {maxL : Nat} {ret : Option FieldType} {ws : List Cond} {rm : Room} {as' : Array Value} (hpl : plainFor y = true)
    (body : ∀ p e s m below meth c T, Stand p l e rm (s.setVm s.vm) m as' below meth c T [] 0 0 → p.tables.exec = Jvm.exec → c.code = bytes → c.maxLocals = maxL → s.vm.findClass y.cls = some m.cls → meth.name = y.name → meth.sig.returnType = ret → meth.locks = false → Z.Warmed39 s.vm → T.heap = h0 → s.Since s.vm 0 → CHr Z EL s.vm s.heap s.vm h0 →
      (s.heap = h0 ∧ c.exceptionTable.isEmpty = true ∧ s.vm.MethodsKnown ∧ s.vm.FramesKnown below) → Go p e below T (entryFrame m as' maxL) (P s)) :
    MetFree l y (head1 (Cond.code y bytes maxL ret :: ws) rm) (fun a U => a = as' ∧ Z.Warmed39 U.vm ∧ U.heap = h0 ∧ CHv Z EL U.vm h0) Knows (fun _ U o U' => P U o U') := by
  refine MetFree.of_bodySF hpl hisR ?_
  intro p e s m args below meth c s₁ Bd hml0 hP hK
  obtain ⟨rfl, hZ, hh, hC⟩ := hP
  have X : Stand p l e rm s m args below meth c s₁ [] 0 0 := Stand.of_body Bd
  exact body p e s m below meth c s₁ X Bd.exec Bd.bytes hml0 (findClass_of_methodNamed Bd.named) (name_of_methodNamed Bd.named Bd.method).1 Bd.returns Bd.notSynchronized hZ (by rw [← hh, Bd.state]; rfl) ((State.WarmedH.refl s).since 0) (by rw [hh]; exact CHr.refl hC) ⟨hh, Bd.noHandlers (atoms_spec (ws := Cond.code y bytes maxL ret :: ws) Bd.pre _ (List.mem_cons_self ..)), hK.1, hK.2⟩
/-- a body with an exception table, beneath which a trace may be filled in -/
theorem startH {P : State → Outcome → State → Prop} {y : MethodName} {bytes : ByteArray} {maxL : Nat} {ret : Option FieldType} {hs : List (Nat × Nat × Nat × Nat)} {ws : List Cond} {rm : Room} {as' : Array Value} (hpl : plainFor y = true)
    (body : ∀ p e s m below meth c T, Stand p l e rm (s.setVm s.vm) m as' below meth c T [] 0 0 → p.tables.exec = Jvm.exec → c.code = bytes → c.maxLocals = maxL → s.vm.findClass y.cls = some m.cls → meth.name = y.name → meth.sig.returnType = ret → meth.locks = false → Z.Warmed39 s.vm → T.heap = h0 → s.Since s.vm 0 → CHr Z EL s.vm s.heap s.vm h0 →
      (s.heap = h0 ∧ c.exceptionTable.toList.map (fun h => (h.startPc, h.endPc, h.handlerPc, h.catchType)) = hs ∧ s.vm.MethodsKnown ∧ s.vm.FramesKnown below) → Go p e below T (entryFrame m as' maxL) (P s)) :
    MetFree l y (head1 (Cond.codeWith y bytes maxL ret hs :: ws) rm) (fun a U => a = as' ∧ Z.Warmed39 U.vm ∧ U.heap = h0 ∧ CHv Z EL U.vm h0) Knows (fun _ U o U' => P U o U') := by
  refine MetFree.of_bodySF hpl hisWith ?_
  intro p e s m args below meth c s₁ Bd hml0 hP hK
  obtain ⟨rfl, hZ, hh, hC⟩ := hP
  have X : Stand p l e rm s m args below meth c s₁ [] 0 0 := Stand.of_body Bd
  obtain ⟨m', meth', c', q1, q2, q3, -, -, q6, -⟩ := Cond.codeWith_spec (atoms_spec (ws := Cond.codeWith y bytes maxL ret hs :: ws) Bd.pre _ (List.mem_cons_self ..))
  cases Bd.named.symm.trans q1
  cases Bd.method.symm.trans q2
  cases X.code.symm.trans q3
  exact body p e s m below meth c s₁ X Bd.exec Bd.bytes hml0 (findClass_of_methodNamed Bd.named) (name_of_methodNamed Bd.named Bd.method).1 Bd.returns Bd.notSynchronized hZ (by rw [← hh, Bd.state]; rfl) ((State.WarmedH.refl s).since 0) (by rw [hh]; exact CHr.refl hC) ⟨hh, q6, hK.1, hK.2⟩
/-- a call by a free theorem, whichever way it ends -/
theorem own_inv {y : MethodName} {S : Spec} {P : Array Value → State → Prop} {K : Program → Env → List Frame → State → Array Value → Prop} {Q0 : Array Value → State → Outcome → State → Prop} (hM : MetFree l y S P K Q0)
    (X : Stand p l e R s m args below meth c T locs cells slots) (hg : g.method = m) (hsize : g.locals.size = c.maxLocals) {ig : Instr} {len : Nat} (hdg : decode c.code g.pc = .ok (ig, len)) {mk : MethodId} (hn : T.methodNamed? y = some mk) {a : Array Value}
    {mY : Method} {cY : Code} (hmY : T.vm.method? mk = some mY) (hcY : mY.code = some cY) (hi : (Cond.initialized y.cls).before a T = true) (hf : S.room.frames + 1 ≤ R.frames) (hlo : 2 * g.monitorRoom + (g.stack.map fun v => v.category).sum + (cY.maxLocals + 11) + S.room.locals ≤ R.locals)
    (h1 : S.pre.before a T = true) (h4 : cells + S.room.cells ≤ R.cells) (h5 : slots + S.room.slots ≤ R.slots) (hP : P a (T.calling g mk a)) (hK : K p e (T.setTop g).frames (T.calling g mk a) a) {E : Outcome → State → List Loc → Nat → Nat → Prop}
    (hQ : ∀ o t, Q0 a (T.calling g mk a) o t → ∃ L k n, EndW (T.calling g mk a) t L k n ∧ E o t L k n) :
    ∃ o T' L k n, Stand p l e R (s.setVm T'.vm) m args below meth c T' (locs ++ L) (cells + k) (slots + n) ∧ s.Since T'.vm T'.heap.size ∧ T.heap.size ≤ T'.heap.size ∧ (∃ t, E o t L k n ∧ t.heap = T'.heap ∧ t.vm = T'.vm) ∧
      (∀ v, o = .returned v → Steps p.tables e below (doInvoke e (T.setTop g) [] mk a).1 (T'.setTop { g with pc := g.pc + len, stack := v.toList ++ g.stack })) ∧
      (∀ x, o = .threw x → Steps p.tables e below (doInvoke e (T.setTop g) [] mk a).1 ((T'.setTop g).pushFrame (.throwing x))) := by
  obtain ⟨kY, hkY, -⟩ := className_of_methodNamed hn
  have hA : At T g.method c below := hg ▸ X.here
  obtain ⟨mid, hmid⟩ := hA.above
  obtain ⟨g₀, hg0⟩ := Option.isSome_iff_exists.mp hA.top
  obtain ⟨r, hr⟩ := State.topJava?_eq_some.mp hg0
  obtain ⟨o, t, hst, -, hend, hq⟩ := Steps.callFree hM p X.admits X.cas X.clock (acts := []) (s := T.setTop g) (mid := .java g :: mid) (below := below) (by rw [State.frames_setTop' g hA.top, hmid]; rfl)
    (Spec.appliesLoose_calling (g := g) hA hdg hn hkY (Cond.initialized_spec (findClass_of_methodNamed hn) hkY hi) (X.room_calling (g := g) (R' := S.room) hsize hmY hcY hf hlo h4 h5) h1) hP hK
  obtain ⟨L, k, n, ⟨hW, hB, hsame⟩, hE⟩ := hQ o t hq
  have hW' : T.Warmed39 t.vm := hW
  rw [State.frames_setTop' g hA.top] at hend
  obtain ⟨V, hV⟩ : ∃ V, V = (({ T with heap := t.heap, slotsUsed := t.slotsUsed } : State).setVm t.vm) := ⟨_, rfl⟩
  have hVf : V.frames = .java g₀ :: r := by rw [hV]; exact hr
  have hsame2 : T.sameButNew (V.setVm T.vm) L k n := by
    rw [hV]
    obtain ⟨-, q2⟩ := hsame
    obtain ⟨th, ht, -⟩ := State.frames_cons hr
    exact ⟨by show ({ T with heap := t.heap, slotsUsed := t.slotsUsed } : State) = { T.setFrames T.frames with heap := t.heap, slotsUsed := t.slotsUsed }; rw [State.setFrames_self ht], q2⟩
  have ht : t = V.setFrames t.frames := by
    obtain ⟨q1, -⟩ := hsame
    have e1 : t = ({ t with vm := (T.calling g mk a).vm } : State).setVm t.vm := rfl
    rw [q1, State.calling_eq hA.top] at e1
    rw [hV]
    refine e1.trans ?_
    rw [State.setFrames_setFrames]
    rfl
  obtain ⟨X', hS⟩ := X.movedW (T₂ := V) (by rw [hV]; exact (X.here.setHeapUsed t.heap t.slotsUsed).setVm hW'.alike) (by rw [hVf]; rw [← X.tail, hr]) (by rw [hV]; rfl) (by rw [hV]; rfl) (by rw [hV]; exact hW') (by rw [hV]; exact hB) hsame2
  refine ⟨o, V, L, k, n, X', hS, hsame2.2.1, ⟨t, hE, by rw [hV]; rfl, by rw [hV]; rfl⟩, fun v ho => ?_, fun x ho => ?_⟩
  · subst ho
    obtain ⟨c₂, i₂, len₂, hc₂, hd₂, hf₂⟩ := hend
    have hcc : c₂ = c := by
      have q : t.code? g.method = T.code? g.method := by rw [State.code?_eq, State.code?_eq, hW'.alike.method?]
      exact Option.some.inj (hc₂.symm.trans (q.trans hA.code))
    subst hcc
    rw [hdg] at hd₂
    cases hd₂
    rw [State.setTop_of_frames _ hVf]
    rw [hf₂, hr] at ht
    rw [ht] at hst
    exact hst
  · subst ho
    have hf₂ : t.frames = .throwing x :: .java g :: T.frames.tail := hend
    rw [hf₂, hr] at ht
    rw [State.pushFrame, State.frames_setTop _ hVf, State.setTop_of_frames _ hVf, State.setFrames_setFrames]
    rw [ht] at hst
    exact hst
/-- 'invokestatic' of y, who makes an exception, interns perhaps, and throws -/
theorem callM {Q' : Option Value → Heap → List Loc → Prop} {k' n' : Nat} (X : Stand p l e R (s.setVm vm0) m args below meth c T locs cells slots) (hx : p.tables.exec = Jvm.exec) (hZ : Z.Warmed39 vm0) {own : String} {index : Nat} {y : MethodName} {bytes : ByteArray} {maxL : Nat} {ret : Option FieldType} {rm : Room} {as' : Array Value}
    (hown : (s.setVm vm0).vm.findClass own = some m.cls) (wl : (Cond.methodLink own index y).before a0 Z = true) (ws : (Cond.static y).before a0 Z = true) (wz : (Cond.initialized y.cls).before a0 Z = true) (wc : (Cond.code y bytes maxL ret).before a0 Z = true) (hy : y.cls ≠ "java/lang/invoke/MethodHandle" ∧ y.cls ≠ "java/lang/invoke/VarHandle")
    (hM : MetFree l y (head1 [Cond.code y bytes maxL ret] rm) (fun a U => a = as' ∧ Z.Warmed39 U.vm ∧ U.heap = h ∧ CHv Z EL U.vm h) Knows (fun _ U o U' => PoWT U Z EL Q k n Q' k' n' o U')) (hEL : EW Z a0 EL) (H : CHv Z EL vm0 h) (hTK : (s.setVm vm0).vm.MethodsKnown) (hBelow : (s.setVm vm0).vm.FramesKnown below) (eT : T.heap = h)
    (hg : g.method = m) (hsize : g.locals.size = c.maxLocals) {argsL : List Value} (hlen : ∀ sig, parseMethodDescriptor y.desc = some sig → argsL.length = sig.parameters.length) (hstack : g.stack = argsL.reverse ++ rest) (has : argsL.toArray = as') (hdg : decode c.code g.pc = .ok (.invokestatic index, 3))
    (hf : rm.frames + 1 ≤ R.frames) (hlo : 2 * g.monitorRoom + (rest.map fun v => v.category).sum + (maxL + 11) + rm.locals ≤ R.locals) (hc : cells + rm.cells ≤ R.cells) (hsl : slots + rm.slots ≤ R.slots) :
    (∃ (v : Option Value) (T' : State) (L : List Loc), Stand p l e R ((s.setVm vm0).setVm T'.vm) m args below meth c T' (locs ++ L) (cells + k) (slots + n) ∧ (s.setVm vm0).Since T'.vm T'.heap.size ∧ h.size ≤ T'.heap.size ∧ Q v T'.heap L ∧ CHr Z EL vm0 h T'.vm T'.heap ∧
      Steps p.tables e below (T.setTop g) (T'.setTop { g with pc := g.pc + 3, stack := v.toList ++ rest })) ∨
    (∃ (x : Addr) (T' : State) (L : List Loc), Stand p l e R ((s.setVm vm0).setVm T'.vm) m args below meth c T' (locs ++ L) (cells + k') (slots + n') ∧ (s.setVm vm0).Since T'.vm T'.heap.size ∧ h.size ≤ T'.heap.size ∧ Q' (some (.ref x)) T'.heap L ∧ CHr Z EL vm0 h T'.vm T'.heap ∧
      Steps p.tables e below (T.setTop g) ((T'.setTop { g with stack := rest }).pushFrame (.throwing x))) := by
  have hZs : Z.Warmed39 (s.setVm vm0).vm := hZ
  obtain ⟨mk, hnamed⟩ := Cond.code_named (mv (args := args) hZs wc)
  obtain ⟨mY, cY, hmY, hcY, -, hlY, -, -, -, hsig⟩ := Cond.code_spec hnamed (mv (args := args) hZs wc)
  obtain ⟨kP, hkP, -⟩ := className_of_methodNamed hnamed
  obtain ⟨vm₁, X₁, hstep⟩ := X.invokestatic hx hown (mv hZs wl) hnamed hmY (Cond.static_spec hnamed hmY (mv (args := args) hZs ws)) hkP (Cond.initialized_spec (findClass_of_methodNamed hnamed) hkP (mv (args := args) hZs wz)) hy (g := g) hg (argsL := argsL) (rest := rest) (hlen _ hsig) hstack hdg
  have hU : Z.Warmed39 (T.setVm vm₁).vm := wtrans (s := s.setVm vm0) hZ X₁.warmed
  have hmY1 : (T.setVm vm₁).vm.method? mk = some mY := by rw [X₁.warmed.alike.method?]; exact hmY
  obtain ⟨o, T', L, k1, n1, X', hS, hgg, ⟨t, hE, e1, e2⟩, hret, hthr⟩ := own_inv (g := { g with stack := rest }) (E := fun o t L k1 n1 => ((∃ v, o = .returned v ∧ Q v t.heap L ∧ k1 = k ∧ n1 = n) ∨ (∃ x, o = .threw x ∧ Q' (some (.ref x)) t.heap L ∧ k1 = k' ∧ n1 = n')) ∧ CHr Z EL vm₁ h t.vm t.heap) hM X₁ hg hsize hdg (X₁.named hnamed) (a := as') hmY1 hcY (mv hU wz) hf (by rw [hlY]; exact hlo)
    (by show (Cond.and _ .tt).before _ _ = true; rw [Cond.before_and, mv hU wc]; rfl) hc hsl ⟨rfl, hU, eT, (CHv.at X₁ hZ hEL H).1⟩ (known_frames X₁ hg hTK hBelow)
    (fun o t q => q.elim (fun ⟨v, L, q1, q2, q3, q4⟩ => ⟨L, k, n, ⟨q4.2.1, q4.2.2.1, q4.2.2.2⟩, Or.inl ⟨v, q1, q2, rfl, rfl⟩, eT ▸ (show CHr Z EL vm₁ T.heap t.vm t.heap from q3)⟩) (fun ⟨x, L, q1, q2, q3, q4⟩ => ⟨L, k', n', q4, Or.inr ⟨x, q1, q2, rfl, rfl⟩, eT ▸ (show CHr Z EL vm₁ T.heap t.vm t.heap from q3)⟩))
  obtain ⟨hE, hC⟩ := hE
  have hC' : CHr Z EL vm0 h T'.vm T'.heap := by rw [← e1, ← e2]; exact (CHv.at X₁ hZ hEL H).trans hC
  have hgg' : h.size ≤ T'.heap.size := by rw [← eT]; exact hgg
  rcases hE with ⟨v, ho, hQ, rfl, rfl⟩ | ⟨x, ho, hQ, rfl, rfl⟩
  · refine Or.inl ⟨v, T', L, X', hS, hgg', by rw [← e1]; exact hQ, hC', hstep _ fun acts => ?_⟩
    rw [doInvoke_state, has]
    exact hret v ho
  · refine Or.inr ⟨x, T', L, X', hS, hgg', by rw [← e1]; exact hQ, hC', hstep _ fun acts => ?_⟩
    rw [doInvoke_state, has]
    exact hthr x ho
/-- the payer of a callee with an exception table beneath which a trace may be filled in -/
theorem backOfH {y : MethodName} {bytes : ByteArray} {maxL : Nat} {ret : Option FieldType} {hs : List (Nat × Nat × Nat × Nat)} {rm : Room} {len W : Nat} {as' : Array Value}
    (hM : MetFree l y (head1 [Cond.codeWith y bytes maxL ret hs] rm) (fun a U => a = as' ∧ Z.Warmed39 U.vm ∧ U.heap = h ∧ CHv Z EL U.vm h) Knows (fun _ U o U' => PoW U Z EL Q rm.cells rm.slots o U'))
    (hZ : Z.Warmed39 vm0) (wc : (Cond.codeWith y bytes maxL ret hs).before a0 Z = true) (wz : (Cond.initialized y.cls).before a0 Z = true) (hf : rm.frames + 1 ≤ R.frames) (hl : W + (maxL + 11) + rm.locals ≤ R.locals) (hEL : EW Z a0 EL) (H : CHv Z EL vm0 h) (hTK : (s.setVm vm0).vm.MethodsKnown) (hBelow : (s.setVm vm0).vm.FramesKnown below) :
    BackS l R p e below (s.setVm vm0) args y len W (fun A a => a = as' ∧ A.U.heap = h ∧ A.cells + rm.cells ≤ R.cells ∧ A.slots + rm.slots ≤ R.slots)
      (fun A _ v B => ∃ L, Q v B.U.heap L ∧ B.locs = A.locs ++ L ∧ B.cells = A.cells + rm.cells ∧ B.slots = A.slots + rm.slots ∧ CHr Z EL vm0 h B.U.vm B.U.heap) := by
  intro m meth c A g ig mk a X hg hsize hdg hW hn hp
  obtain ⟨rfl, hh, hc, hsl⟩ := hp
  obtain ⟨U, Ls, c0, s0⟩ := A
  dsimp only [Pt.U, Pt.locs, Pt.cells, Pt.slots] at X hn hh hc hsl ⊢
  have hU : Z.Warmed39 U.vm := wtrans (s := s.setVm vm0) hZ X.warmed
  obtain ⟨m', mY, cY, q1, hmY, hcY, -, hlY, -⟩ := Cond.codeWith_spec (mv (args := a) hU wc)
  cases hn.symm.trans q1
  obtain ⟨o, T', L, k1, n1, X', hS, hgg, ⟨t, hE, e1, e2⟩, hret, -⟩ := own_inv (E := fun o t L k1 n1 => (∃ v, o = .returned v ∧ Q v t.heap L ∧ k1 = rm.cells ∧ n1 = rm.slots) ∧ CHr Z EL U.vm h t.vm t.heap) hM X hg hsize hdg hn (a := a) hmY hcY (mv hU wz) hf (by rw [hlY]; have hl' := hl; have : (head1 [Cond.codeWith y bytes maxL ret hs] rm).room.locals = rm.locals := rfl; rw [this]; omega)
    (by show (Cond.and _ .tt).before _ _ = true; rw [Cond.before_and, mv hU wc]; rfl) hc hsl ⟨rfl, hU, hh, (CHv.at X hZ hEL H).1⟩ (known_frames X hg hTK hBelow)
    (fun o t ⟨v, L, q1, q2, q3, q4⟩ => ⟨L, _, _, ⟨q4.2.1, q4.2.2.1, q4.2.2.2⟩, ⟨v, q1, q2, rfl, rfl⟩, hh ▸ (show CHr Z EL U.vm U.heap t.vm t.heap from q3)⟩)
  obtain ⟨⟨v, ho, hQ, rfl, rfl⟩, hC⟩ := hE
  exact ⟨v, ⟨T', Ls ++ L, c0 + rm.cells, s0 + rm.slots⟩, X', hS, hgg, ⟨L, by rw [← e1]; exact hQ, rfl, rfl, rfl, by rw [← e1, ← e2]; exact (CHv.at X hZ hEL H).trans hC⟩, hret v ho⟩
/-- the payer of a callee beneath which a trace may be filled in -/
theorem backOfK {y : MethodName} {bytes : ByteArray} {maxL : Nat} {ret : Option FieldType} {rm : Room} {len W : Nat} {as' : Array Value}
    (hM : MetFree l y (head1 [Cond.code y bytes maxL ret] rm) (fun a U => a = as' ∧ Z.Warmed39 U.vm ∧ U.heap = h ∧ CHv Z EL U.vm h) Knows (fun _ U o U' => PoW U Z EL Q rm.cells rm.slots o U'))
    (hZ : Z.Warmed39 vm0) (wc : (Cond.code y bytes maxL ret).before a0 Z = true) (wz : (Cond.initialized y.cls).before a0 Z = true) (hf : rm.frames + 1 ≤ R.frames) (hl : W + (maxL + 11) + rm.locals ≤ R.locals) (hEL : EW Z a0 EL) (H : CHv Z EL vm0 h) (hTK : (s.setVm vm0).vm.MethodsKnown) (hBelow : (s.setVm vm0).vm.FramesKnown below) :
    BackS l R p e below (s.setVm vm0) args y len W (fun A a => a = as' ∧ A.U.heap = h ∧ A.cells + rm.cells ≤ R.cells ∧ A.slots + rm.slots ≤ R.slots)
      (fun A _ v B => ∃ L, Q v B.U.heap L ∧ B.locs = A.locs ++ L ∧ B.cells = A.cells + rm.cells ∧ B.slots = A.slots + rm.slots ∧ CHr Z EL vm0 h B.U.vm B.U.heap) := by
  intro m meth c A g ig mk a X hg hsize hdg hW hn hp
  obtain ⟨rfl, hh, hc, hsl⟩ := hp
  obtain ⟨U, Ls, c0, s0⟩ := A
  dsimp only [Pt.U, Pt.locs, Pt.cells, Pt.slots] at X hn hh hc hsl ⊢
  have hU : Z.Warmed39 U.vm := wtrans (s := s.setVm vm0) hZ X.warmed
  obtain ⟨mY, cY, hmY, hcY, -, hlY, -⟩ := Cond.code_spec hn (mv (args := a) hU wc)
  obtain ⟨o, T', L, k1, n1, X', hS, hgg, ⟨t, hE, e1, e2⟩, hret, -⟩ := own_inv (E := fun o t L k1 n1 => (∃ v, o = .returned v ∧ Q v t.heap L ∧ k1 = rm.cells ∧ n1 = rm.slots) ∧ CHr Z EL U.vm h t.vm t.heap) hM X hg hsize hdg hn (a := a) hmY hcY (mv hU wz) hf (by rw [hlY]; have hl' := hl; have : (head1 [Cond.code y bytes maxL ret] rm).room.locals = rm.locals := rfl; rw [this]; omega)
    (by show (Cond.and _ .tt).before _ _ = true; rw [Cond.before_and, mv hU wc]; rfl) hc hsl ⟨rfl, hU, hh, (CHv.at X hZ hEL H).1⟩ (known_frames X hg hTK hBelow)
    (fun o t ⟨v, L, q1, q2, q3, q4⟩ => ⟨L, _, _, ⟨q4.2.1, q4.2.2.1, q4.2.2.2⟩, ⟨v, q1, q2, rfl, rfl⟩, hh ▸ (show CHr Z EL U.vm U.heap t.vm t.heap from q3)⟩)
  obtain ⟨⟨v, ho, hQ, rfl, rfl⟩, hC⟩ := hE
  exact ⟨v, ⟨T', Ls ++ L, c0 + rm.cells, s0 + rm.slots⟩, X', hS, hgg, ⟨L, by rw [← e1]; exact hQ, rfl, rfl, rfl, by rw [← e1, ← e2]; exact (CHv.at X hZ hEL H).trans hC⟩, hret v ho⟩
/-- the same of a callee that ends in one of two ways, beneath which a trace may be filled in -/
theorem backOfH2 {Q' : Option Value → Heap → List Loc → Prop} {k' n' : Nat} {y : MethodName} {bytes : ByteArray} {maxL : Nat} {ret : Option FieldType} {hs : List (Nat × Nat × Nat × Nat)} {rm : Room} {len W : Nat} {as' : Array Value}
    (hM : MetFree l y (head1 [Cond.codeWith y bytes maxL ret hs] rm) (fun a U => a = as' ∧ Z.Warmed39 U.vm ∧ U.heap = h ∧ CHv Z EL U.vm h) Knows (fun _ U o U' => PoWW U Z EL Q k n Q' k' n' o U'))
    (hZ : Z.Warmed39 vm0) (wc : (Cond.codeWith y bytes maxL ret hs).before a0 Z = true) (wz : (Cond.initialized y.cls).before a0 Z = true) (hf : rm.frames + 1 ≤ R.frames) (hl : W + (maxL + 11) + rm.locals ≤ R.locals) (hEL : EW Z a0 EL) (H : CHv Z EL vm0 h) (hTK : (s.setVm vm0).vm.MethodsKnown) (hBelow : (s.setVm vm0).vm.FramesKnown below) :
    BackS l R p e below (s.setVm vm0) args y len W (fun A a => a = as' ∧ A.U.heap = h ∧ A.cells + rm.cells ≤ R.cells ∧ A.slots + rm.slots ≤ R.slots)
      (fun A _ v B => (∃ L, Q v B.U.heap L ∧ B.locs = A.locs ++ L ∧ B.cells = A.cells + k ∧ B.slots = A.slots + n ∧ CHr Z EL vm0 h B.U.vm B.U.heap) ∨ (∃ L, Q' v B.U.heap L ∧ B.locs = A.locs ++ L ∧ B.cells = A.cells + k' ∧ B.slots = A.slots + n' ∧ CHr Z EL vm0 h B.U.vm B.U.heap)) := by
  intro m meth c A g ig mk a X hg hsize hdg hW hn hp
  obtain ⟨rfl, hh, hc, hsl⟩ := hp
  obtain ⟨U, Ls, c0, s0⟩ := A
  dsimp only [Pt.U, Pt.locs, Pt.cells, Pt.slots] at X hn hh hc hsl ⊢
  have hU : Z.Warmed39 U.vm := wtrans (s := s.setVm vm0) hZ X.warmed
  obtain ⟨m', mY, cY, q1, hmY, hcY, -, hlY, -⟩ := Cond.codeWith_spec (mv (args := a) hU wc)
  cases hn.symm.trans q1
  obtain ⟨o, T', L, k1, n1, X', hS, hgg, ⟨t, hE, e1, e2⟩, hret, -⟩ := own_inv (E := fun o t L k1 n1 => ((∃ v, o = .returned v ∧ Q v t.heap L ∧ k1 = k ∧ n1 = n) ∨ (∃ v, o = .returned v ∧ Q' v t.heap L ∧ k1 = k' ∧ n1 = n')) ∧ CHr Z EL U.vm h t.vm t.heap) hM X hg hsize hdg hn (a := a) hmY hcY (mv hU wz) hf (by rw [hlY]; have hl' := hl; have : (head1 [Cond.codeWith y bytes maxL ret hs] rm).room.locals = rm.locals := rfl; rw [this]; omega)
    (by show (Cond.and _ .tt).before _ _ = true; rw [Cond.before_and, mv hU wc]; rfl) hc hsl ⟨rfl, hU, hh, (CHv.at X hZ hEL H).1⟩ (known_frames X hg hTK hBelow)
    (fun o t q => q.elim (fun ⟨v, L, q1, q2, q3, q4⟩ => ⟨L, _, _, ⟨q4.2.1, q4.2.2.1, q4.2.2.2⟩, Or.inl ⟨v, q1, q2, rfl, rfl⟩, hh ▸ (show CHr Z EL U.vm U.heap t.vm t.heap from q3)⟩) (fun ⟨v, L, q1, q2, q3, q4⟩ => ⟨L, _, _, ⟨q4.2.1, q4.2.2.1, q4.2.2.2⟩, Or.inr ⟨v, q1, q2, rfl, rfl⟩, hh ▸ (show CHr Z EL U.vm U.heap t.vm t.heap from q3)⟩))
  obtain ⟨hE, hC⟩ := hE
  have hC' : CHr Z EL vm0 h T'.vm T'.heap := by rw [← e1, ← e2]; exact (CHv.at X hZ hEL H).trans hC
  rcases hE with ⟨v, ho, hQ, rfl, rfl⟩ | ⟨v, ho, hQ, rfl, rfl⟩
  · exact ⟨v, ⟨T', Ls ++ L, _, _⟩, X', hS, hgg, Or.inl ⟨L, by rw [← e1]; exact hQ, rfl, rfl, rfl, hC'⟩, hret v ho⟩
  · exact ⟨v, ⟨T', Ls ++ L, _, _⟩, X', hS, hgg, Or.inr ⟨L, by rw [← e1]; exact hQ, rfl, rfl, rfl, hC'⟩, hret v ho⟩
theorem own_cr {vm vm' : Vm} {h' : Heap} (q : h.size ≤ h'.size) : CHr Z [] vm h vm' h' := ⟨(fun _ hp => nomatch hp), q, fun _ B => by obtain ⟨_, hp, -⟩ := B; cases hp⟩
theorem ths_old {n0 : Nat} (O : Old Z n0 h) : ThS Z h := fun st k cl cell h1 h2 h3 h4 h5 => O.2.2 _ _ h4
theorem knows_since (hS : s.Since vm0 k0) (hK : s.vm.MethodsKnown ∧ s.vm.FramesKnown below) : (s.setVm vm0).vm.MethodsKnown ∧ (s.setVm vm0).vm.FramesKnown below := ⟨Vm.MethodsKnown.alikeC hS.1.alike hK.1, Vm.FramesKnown.alikeC hS.1.alike hK.2⟩
theorem own_assign {C : String} {cc : ClassId} (w : (Cond.castable C C).before args s = true) (q : s.vm.findClass C = some cc) : s.vm.assignable cc cc = true := by
  obtain ⟨c1, c2, h1, h2, h3⟩ := Cond.castable_spec w
  cases q.symm.trans h1
  cases q.symm.trans h2
  exact h3
/-- the exception lands in the walked method's one handler -/
theorem own_catch (X : Stand p l e R (s.setVm vm0) m args below meth c T locs cells slots) (hZ : Z.Warmed39 vm0) {own C : String} {sp ep hp ct : Nat} (hown : (s.setVm vm0).vm.findClass own = some m.cls) (htab : c.exceptionTable.toList.map (fun h => (h.startPc, h.endPc, h.handlerPc, h.catchType)) = [(sp, ep, hp, ct)]) (hpc : sp ≤ pc ∧ pc < ep) (h0 : ct ≠ 0)
    (wl : (Cond.classLink own ct C).before a0 Z = true) (wk : (Cond.castable C C).before a0 Z = true) (eT : T.heap = h) {a : Addr} (E : Exa Z h a C) :
    ∃ T', Stand p l e R (s.setVm vm0) m args below meth c T' locs cells slots ∧ T'.heap = h ∧ ∀ target, Steps p.tables e below (T'.setTop (mkF m hp Ls [.ref a])) target → Steps p.tables e below ((T.setTop (mkF m pc Ls rest)).pushFrame (.throwing a)) target := by
  obtain ⟨x, hx1, hx2⟩ : ∃ x, c.exceptionTable.toList = [x] ∧ (x.startPc, x.endPc, x.handlerPc, x.catchType) = (sp, ep, hp, ct) := by
    match hq : c.exceptionTable.toList, htab with
    | [x], q => exact ⟨x, rfl, by simpa using q⟩
  simp only [Prod.mk.injEq] at hx2
  obtain ⟨e1, e2, e3, e4⟩ := hx2
  obtain ⟨cell, k, q1, q2, q3, q4, -⟩ := E
  obtain ⟨k', hk', -⟩ := hZ.alike.2.2 _ _ q3
  have hfc : (s.setVm vm0).vm.findClass C = some cell.cls := by show vm0.findClass C = _; rw [hZ.alike.findClass]; exact q2
  obtain ⟨vm', X', st⟩ := X.catchCold hown [] x [] hx1 (g := mkF m pc Ls rest) rfl (fun _ q => nomatch q) (by simp [covers, mkF, e1, e2, hpc.1, hpc.2]) (by rw [e4]; exact h0) (name := C) (by rw [e4]; exact mv (s := s.setVm vm0) hZ wl) (a := a) (cell := cell) (by rw [eT]; exact q1) (fun z hz => by rw [hz] at q4; cases q4) hk' hfc (own_assign (s := s.setVm vm0) (args := args) (mv (s := s.setVm vm0) hZ wk) hfc)
  refine ⟨T.setVm vm', X', eT, fun target q => st _ ?_⟩
  rw [e3]; exact q
end Thr
end Jvm.OwnKit
namespace Jvm.OwnKit
open Sem ClassFile Op Lib Bundle Jvm.Stand Jvm.Free Jvm.LawKit Jvm.RoadKit Jvm.Free.Exc LibCode.Throwable
section Exc
variable {p : Program} {l : Launch} {e : Env} {R : Room} {s : State} {m : MethodId} {args : Array Value} {below : List Frame} {meth : Method} {c : Code} {T : State} {locs : List Loc} {cells slots : Nat} {Z : State} {a0 : Array Value} {h h0 : Heap}
/-- the one word of 'excAtoms' that this claim's table doesn't bear -/
def own_gone : Cond := .lays tN tN "suppressedExceptions" listD
/-- Throwable's links where that word is not there: the object's own class says where the field lies -/
theorem own_thr {rc : String} (hne : rc ≠ tN) {pl : Platform} (howns : pl.frameOwnsMonitors = true) (hfin : pl.finalization = false) (hpl : pl.magicAccessors = ({} : Platform).magicAccessors) (W : ∀ d ∈ excAtoms rc, d ≠ own_gone → d.before args s = true) :
    ∃ (T : ThrowableC) (i : Nat), T.Links pl s ∧ s.vm.findClass tN = some T.cT ∧ s.methodNamed? tFill = some T.fill ∧ s.methodNamed? tFill0 = some T.fill0 ∧ s.fieldFound? tN "stackTrace" steD = some (T.cT, T.kT, T.i17, T.fStack) ∧ T.fStack.type = .array (.object "java/lang/StackTraceElement") ∧ T.fStack.name = "stackTrace" ∧
      s.fieldFound? tN "UNASSIGNED_STACK" steD = some (T.cT, T.kT, T.i13, T.fUnassigned) ∧ s.fieldFound? tN "detailMessage" msgD = some (T.cT, T.kT, i, T.fMsg) ∧ T.fMsg.name = "detailMessage" := by
  have w : ∀ d, d ∈ excAtoms rc → d ≠ own_gone → d.holds args s none s [] = true := W
  have hmem : ∀ {d}, d ∈ throwableAtoms → d ∈ excAtoms rc := fun q => List.mem_append_left _ q
  have nat0 := w (.native tFill0) (hmem (by decide)) (by decide)
  have sup := w (.superclass tN "java/lang/Object") (hmem (by decide)) (by decide)
  have iF := w (.instanceMethod tFill) (hmem (by decide)) (by decide)
  have cdF := w (.codeSync tFill Fill.code 1 (some (.object tN))) (hmem (by decide)) (by decide)
  have iF0 := w (.instanceMethod tFill0) (hmem (by decide)) (by decide)
  have iZ := w (.instanceMethod tInit0) (hmem (by decide)) (by decide)
  have cdZ := w (.code tInit0 Init0.code 1 none) (hmem (by decide)) (by decide)
  have iO := w (.instanceMethod oInit) (hmem (by decide)) (by decide)
  have cdO := w (.code oInit ⟨#[0xb1]⟩ 1 none) (hmem (by decide)) (by decide)
  have l1 := w (.methodLink tN 1 oInit) (hmem (by decide)) (by decide)
  have l27 := w (.methodLink tN 27 tFill) (hmem (by decide)) (by decide)
  have l202 := w (.methodLink tN 202 tFill0) (hmem (by decide)) (by decide)
  have f7 := w (.fieldLink tN 7 tN "cause" "Ljava/lang/Throwable;") (hmem (by decide)) (by decide)
  have f17 := w (.fieldLink tN 17 tN "stackTrace" steD) (hmem (by decide)) (by decide)
  have f24 := w (.fieldLink tN 24 tN "suppressedExceptions" listD) (hmem (by decide)) (by decide)
  have f13 := w (.fieldLink tN 13 tN "UNASSIGNED_STACK" steD) (hmem (by decide)) (by decide)
  have f20 := w (.fieldLink tN 20 tN "SUPPRESSED_SENTINEL" listD) (hmem (by decide)) (by decide)
  have y13 := w (.laysStatic tN "UNASSIGNED_STACK" steD) (hmem (by decide)) (by decide)
  have y20 := w (.laysStatic tN "SUPPRESSED_SENTINEL" listD) (hmem (by decide)) (by decide)
  have y7 := w (.lays tN tN "cause" "Ljava/lang/Throwable;") (hmem (by decide)) (by decide)
  have y17 := w (.lays tN tN "stackTrace" steD) (hmem (by decide)) (by decide)
  have yM := w (.lays tN tN "detailMessage" "Ljava/lang/String;") (hmem (by decide)) (by decide)
  have r17 := w (.lays rc tN "stackTrace" steD) (by simp [excAtoms]) (by intro q; injection q with _ _ q _; exact absurd q (by decide))
  have r24 := w (.lays rc tN "suppressedExceptions" listD) (by simp [excAtoms]) (by intro q; injection q with q _ _ _; exact hne q)
  obtain ⟨⟨cT, i0⟩, me0, n0, m0, na0, co0, lk0, sg0⟩ := Cond.native_spec nat0
  have hc : s.vm.findClass tN = some cT := findClass_of_methodNamed n0
  obtain ⟨kT, hk, hname⟩ := Vm.findClass_spec hc
  obtain ⟨_, k1, _, _, hk1, _, _, -, _, hni⟩ := Cond.superclass_spec hc sup
  cases Option.some.inj (hk.symm.trans hk1)
  obtain ⟨jF, meF, nF, mF, atF, stF, abF, -, -⟩ := Cond.ownMethod (x := tFill) hc hk iF
  obtain ⟨_, coF, mF', cF1, cF2, cF3, cF4, cF5, -, sgF⟩ := Cond.codeSync_spec nF cdF
  cases Option.some.inj (mF.symm.trans mF')
  obtain ⟨j0, _, n0', m0', at0, st0, ab0, nm0, ds0⟩ := Cond.ownMethod (x := tFill0) hc hk iF0
  cases Option.some.inj (n0.symm.trans n0')
  cases Option.some.inj (m0.symm.trans m0')
  obtain ⟨jZ, meZ, nZ, mZ, -⟩ := Cond.ownMethod (x := tInit0) hc hk iZ
  obtain ⟨_, coZ, -⟩ := Cond.code_spec nZ cdZ
  obtain ⟨mO, meO, nO, moO, stO, abO⟩ := Cond.instanceMethod_spec iO
  obtain ⟨_, coO, moO', cO1, cO2, -, -, cO5, -, sgO⟩ := Cond.code_spec nO cdO
  cases Option.some.inj (moO.symm.trans moO')
  obtain ⟨kO, hkO, nameO⟩ := Vm.findClass_spec (findClass_of_methodNamed nO)
  obtain ⟨nmO, dsO⟩ := name_of_methodNamed nO moO
  obtain ⟨ci1, n1, cf, a1, a2, hcf, a4⟩ := Cond.linkedMethod hc hk nO l1 pl hpl
  obtain ⟨ci27, n27, cf', b1, b2, hcf', b4⟩ := Cond.linkedMethod hc hk nF l27 pl hpl
  cases Option.some.inj (hcf.symm.trans hcf')
  obtain ⟨ci202, n202, cf', d1, d2, hcf', d4⟩ := Cond.linkedMethod hc hk n0 l202 pl hpl
  cases Option.some.inj (hcf.symm.trans hcf')
  obtain ⟨ci7, i7, g7, x71, x72, x73, x74, x75, -, -, x78⟩ := Cond.ownField (t := .object tN) hc hk (by decide +kernel) f7 y7 pl hpl
  obtain ⟨ci17, i17, g17, x171, x172, x173, x174, x175, x176, x177, x178⟩ := Cond.ownField (t := .array (.object "java/lang/StackTraceElement")) hc hk (by decide +kernel) f17 y17 pl hpl
  obtain ⟨ci24, i24, g24, x241, x242, x243, x244, x245, x246, -, x248⟩ := Cond.ownField (t := .object "java/util/List") hc hk (by decide +kernel) f24 r24 pl hpl
  obtain ⟨ci13, i13, g13, aS, cS, z1, z2, z3, z4, -, -, z7, -, -, -, -, z12⟩ := Cond.ownStatic (t := .array (.object "java/lang/StackTraceElement")) hc hk (by decide +kernel) f13 y13 pl hpl
  obtain ⟨ci20, i20, g20, _, _, v1, v2, v3, v4, -⟩ := Cond.ownStatic (t := .object "java/util/List") hc hk (by decide +kernel) f20 y20 pl hpl
  obtain ⟨_, _, cM, kM, iM, gM, _, _, ffM, sM, fnM, _⟩ := Cond.lays_spec yM
  cases Option.some.inj (hc.symm.trans (Cond.lays_declared yM ffM))
  cases Option.some.inj (hk.symm.trans (State.fieldFound?_spec ffM).1)
  have hap : g17.slot ≠ g24.slot := by
    obtain ⟨cr, kr, _, _, _, _, hcr, hkr, -⟩ := Cond.lays_spec r17
    obtain ⟨-, q1, hq1, hn1⟩ := Cond.laysAt hcr hkr x178 r17
    obtain ⟨-, q2, hq2, hn2⟩ := Cond.laysAt hcr hkr x248 r24
    exact Cond.laysApart hq1 hq2 hn1 hn2 (by rw [x176, x246]; decide)
  have pars : ∀ {d : String} {sg : MethodDescriptor} {L : List FieldType}, (parseMethodDescriptor d).map (·.parameters) = some L → parseMethodDescriptor d = some sg → sg.parameters = L := fun q1 q2 => by rw [q2] at q1; simpa using q1
  refine ⟨{ cT := cT, kT := kT, cO := cT, aS := aS, fillIdx := jF, fill0Idx := i0, initSIdx := jZ, obj := mO, kObj := kO, methFill := meF, methFill0 := me0, methInitS := meZ, methObj := meO, codeFill := coF, codeInitS := coZ, codeObj := coO, fBack := g7, fDepth := g7, fStack := g17, fCause := g7, fSupp := g24, fMsg := gM, fUnassigned := g13, fSentinel := g20, cfT := cf,
            ci1 := ci1, n1 := n1, ci27 := ci27, n27 := n27, ci202 := ci202, n202 := n202, ci7 := ci7, i7 := i7, ci13 := ci13, i13 := i13, ci17 := ci17, i17 := i17, ci20 := ci20, i20 := i20, ci24 := ci24, i24 := i24 }, iM, ?_, hc, nF, n0, x178, x177, x176, z12, ffM, (State.fieldFound?_type ffM (t := .object "java/lang/String") (by decide +kernel)).1⟩
  exact
    { owns := howns, noFinalization := hfin, cls := hk, name := hname, boot := Vm.findClass_boot hc hk, notInterface := hni, initialized := Cond.initialized_spec hc hk (w (.initialized tN) (hmem (by decide)) (by decide)), statics := z7
      fillAt := atF, fillCode := cF1, fillBytes := cF2, fillLocals := cF3, fillReturns := cF4, fillLocks := cF5, fillStatic := stF, fillAbstract := abF, fillParams := pars (d := tFill.desc) (L := []) (by decide +kernel) sgF
      fill0At := at0, fill0Name := nm0, fill0Desc := ds0, fill0Params := pars (d := tFill0.desc) (L := [.int]) (by decide +kernel) sg0, fill0Static := st0, fill0Native := na0, fill0Code := co0, fill0Locks := lk0, fill0Abstract := ab0
      stackInstance := x174, stackNotFinal := x175, unassignedStatic := z4, sentinelStatic := v4, causeInstance := x74, causeNotFinal := x75, suppInstance := x244, suppNotFinal := x245, msgInstance := sM, msgNotFinal := fnM, stackApartSupp := hap
      objClass := hkO, objClassName := nameO, objMethod := moO, objName := nmO, objStatic := stO, objAbstract := abO, objFound := by rw [dsO]; exact lookupSpecial_of_named nO moO stO, objParams := by rw [pars (d := oInit.desc) (L := []) (by decide +kernel) sgO]; rfl, objCode := cO1, objBytes := cO2, objLocks := cO5
      file := hcf, mlink1 := a1, mright1 := a2, pool1 := a4, mlink27 := b1, mright27 := b2, pool27 := b4, mlink202 := d1, mright202 := d2, pool202 := d4
      link7 := x71, right7 := x72, at7 := x73, link13 := z1, right13 := z2, at13 := z3, link17 := x171, right17 := x172, at17 := x173, link20 := v1, right20 := v2, at20 := v3, link24 := x241, right24 := x242, at24 := x243 }
/-- 'fillInStackTrace()' on the object that a constructor of Throwable is making -/
theorem own_fillAt {rc : String} (hne : rc ≠ tN) {a : Addr} (X : Stand p l e R s m args below meth c T locs 0 0) (hx : p.tables.exec = Jvm.exec) (hl : l.stackTraces = true) (hZ : Z.Warmed39 s.vm) (hw : ∀ d ∈ excAtoms rc, d ≠ own_gone → d.before a0 Z = true) (hown : s.vm.findClass tN = some m.cls)
    (hs0 : s.heap = h0) {n0 : Nat} (O0 : Old Z n0 h0) (hTK : s.vm.MethodsKnown) (hBelow : s.vm.FramesKnown below) (hb : ∀ y ∈ locs, y.base = a) (ge : n0 ≤ a) (eT : T.heap = h) (O : Old Z n0 h) {k : Nat} (wi : (Cond.instantiable rc k).before a0 Z = true) (E : Exa Z h a rc) (U : Unt h a)
    {u : Value} (hu : u.isRef = true) (Su : Sta Z Z.heap tN "UNASSIGNED_STACK" steD u) (Fs : Fld Z h a tN "stackTrace" steD u) (Fb : Fld Z h a tN "backtrace" obD .null) {v0 : Value} (Fm : Fld Z h a tN "detailMessage" msgD v0) (E0 : Exa Z h0 a rc)
    {g : JFrame} (hg : g.method = m) (hsize : g.locals.size = c.maxLocals) {rest : List Value} (hs : g.stack = .ref a :: rest) (hd : decode c.code g.pc = .ok (.invokevirtual 27, 3)) (hf : 3 ≤ R.frames) (hlo : 2 * g.monitorRoom + (rest.map fun v => v.category).sum + 42 ≤ R.locals) (hc : 1 ≤ R.cells) (hsl : 2752 ≤ R.slots) :
    ∃ (T' : State) (h' : Heap) (L : List Loc), Stand p l e R s m args below meth c T' (locs ++ L) 1 2752 ∧ T'.heap = h' ∧ Fr n0 L ∧ Keep h0 h' [a] ∧ Fld Z h' a tN "detailMessage" msgD v0 ∧
      ∀ target, Steps p.tables e below (T'.setTop { g with pc := g.pc + 3, stack := .ref a :: rest }) target → Steps p.tables e below (T.setTop g) target := by
  have W : ∀ d ∈ excAtoms rc, d ≠ own_gone → d.before args s = true := fun d h1 h2 => mvX (hs0 ▸ ths_old O0) hZ (List.all_eq_true.mp exc_ok d h1) (hw d h1 h2)
  have w : ∀ d, d ∈ excAtoms rc → d ≠ own_gone → d.holds args s none s [] = true := W
  have hpl : e.platform.magicAccessors = ({} : Platform).magicAccessors := by rw [X.admits.platform]
  have htr : e.platform.stackTraces = true := by rw [X.admits.platform]; exact hl
  obtain ⟨V, iM, L, vT, vF, vF0, vS, vSt, vSn, vU, vM, vMn⟩ := own_thr hne (args := args) (by rw [X.admits.platform]) (by rw [X.admits.platform]) hpl W
  obtain ⟨cell, u1, u2, u3⟩ := U
  obtain ⟨_, kc, h1, h2, h3, -, h5⟩ := E
  cases h1.symm.trans u1
  obtain ⟨_, _, i1, i2, i3, -⟩ := Cond.instantiable_spec wi
  cases h2.symm.trans i1
  cases h3.symm.trans i2
  obtain ⟨kX, q1, q2⟩ := hZ.alike.2.2 _ _ h3
  have hfound : s.vm.findClass rc = some cell.cls := by rw [hZ.alike.findClass]; exact h2
  have hord : kX.kind = .ordinary := by rw [q2]; exact i3
  have hsz : cell.slots.size = kX.instanceTypes.size := by rw [q2]; exact h5 i3
  -- the object's slots
  obtain ⟨_, cfS, kS, iS, fS, b1, b2, -, -, -, -, b7⟩ := Fs
  cases h1.symm.trans b1
  obtain ⟨_, cfB, kB, iB, fB, c1, c2, -, -, -, -, c7⟩ := Fb
  cases h1.symm.trans c1
  obtain ⟨_, cfM, kM, jM, fM, d1, d2, d3, d4, d5, d6, d7⟩ := Fm
  cases h1.symm.trans d1
  have ride : ∀ {n d : String} {cf i : Nat} {k : Class} {f : Field}, Z.fieldFound? tN n d = some (cf, k, i, f) → ∃ k', s.fieldFound? tN n d = some (cf, k', i, f) ∧ k'.statics = k.statics := fun q => by
    obtain ⟨k', r1, r2⟩ := State.fieldFound?_setVm (s := Z) hZ.alike q
    exact ⟨k', r1, by rw [r2]⟩
  obtain ⟨_, r1, -⟩ := ride b2
  cases r1.symm.trans vS
  obtain ⟨ci198, i198, gB, x1, x2, x3, x4, -, xn, xt, xf⟩ := Cond.ownField (t := .object "java/lang/Object") vT L.cls (by decide +kernel) (w (.fieldLink tN 198 tN "backtrace" obD) (by simp [excAtoms]) (by intro q; cases q)) (w (.lays tN tN "backtrace" obD) (by simp [excAtoms]) (by intro q; injection q with _ _ q _; exact absurd q (by decide))) e.platform hpl
  obtain ⟨_, r2, -⟩ := ride c2
  cases r2.symm.trans xf
  obtain ⟨_, r3, -⟩ := ride d2
  cases r3.symm.trans vM
  -- Throwable's statics
  obtain ⟨cfU, iU, kU, fU, st, cellS, s1, s2, s3, s4, s5, s6, s7⟩ := Su
  obtain ⟨kU', r4, r5⟩ := ride s1
  cases r4.symm.trans vU
  have haS : V.aS = st := Option.some.inj (L.statics.symm.trans (r5.trans s4))
  have hneS : V.aS ≠ a := by
    rw [haS]
    have := (Array.getElem?_eq_some_iff.mp s5).1
    rw [O0.1] at this
    exact Nat.ne_of_lt (Nat.lt_of_lt_of_le this ge)
  have hsel0 : selectMethod e.platform s.vm cell.cls V.fill0 = .method V.fill0 := by
    obtain ⟨c2, r2, m2, y1, y2, y3, y4, -⟩ := Cond.selects_spec (w (.selects rc tFill0 tFill0) (by simp [excAtoms]) (by intro q; cases q))
    cases Option.some.inj (y1.symm.trans hfound)
    cases Option.some.inj (y2.symm.trans (State.methodFound?_of_named vF0 (by decide)))
    cases Option.some.inj (y3.symm.trans vF0)
    rw [Launch.admits_selectMethod X.admits]
    exact y4
  have nl : ∀ {C O n d : String} {C' O' n' d' : String}, n ≠ n' → Cond.lays C O n d ≠ Cond.lays C' O' n' d' := fun hq q => by injection q with _ _ q _; exact hq q
  have lD := w (.lays rc tN "depth" "I") (by simp [excAtoms]) (nl (by decide))
  obtain ⟨_, _, cD, kD, iD, gD, -, -, ffD, stD, -⟩ := Cond.lays_spec lD
  cases Option.some.inj ((Cond.lays_declared lD ffD).symm.trans vT)
  obtain ⟨hkD, atD⟩ := State.fieldFound?_spec ffD
  cases Option.some.inj (hkD.symm.trans L.cls)
  obtain ⟨nmD, tyD⟩ := State.fieldFound?_type ffD (t := .int) (by decide +kernel)
  have hfb := Cond.soleField_find vT L.cls (w (.soleField tN "backtrace") (by simp [excAtoms]) (by intro q; cases q)) x3 xn x4
  have hfd := Cond.soleField_find vT L.cls (w (.soleField tN "depth") (by simp [excAtoms]) (by intro q; cases q)) atD nmD stD
  obtain ⟨comp, cO, kO, -, -, hkO, hkindO, hO⟩ := Cond.arrayOver_spec (W (.arrayOver (.object "java/lang/Object")) (by simp [excAtoms]) (by intro q; cases q))
  obtain ⟨lyS, eS, hdS, hnS⟩ := Cond.laysAt hfound q1 vS (w (.lays rc tN "stackTrace" steD) (by simp [excAtoms]) (nl (by decide)))
  obtain ⟨lyB, eB, hdB, hnB⟩ := Cond.laysAt hfound q1 xf (w (.lays rc tN "backtrace" obD) (by simp [excAtoms]) (nl (by decide)))
  obtain ⟨lyD, eD, hdD, hnD⟩ := Cond.laysAt hfound q1 ffD lD
  obtain ⟨lyM, eM, hdM, hnM⟩ := Cond.laysAt hfound q1 vM (w (.lays rc tN "detailMessage" msgD) (by simp [excAtoms]) (nl (by decide)))
  have mS := Cond.laysApart hdM hdS hnM hnS (by rw [vMn, vSn]; decide)
  have mB := Cond.laysApart hdM hdB hnM hnB (by rw [vMn, xn]; decide)
  have mD := Cond.laysApart hdM hdD hnM hnD (by rw [vMn, nmD]; decide)
  have tk : ∀ {f : Field} {v : Value}, kX.instanceTypes[f.slot]? = some f.type → fits f.type v = true → Jvm.Takes s cell f v := fun {f v} g1 g2 => by
    obtain ⟨z1, z2⟩ := Takes.of_laid (v := v) q1 hord g1 g2
    exact ⟨by rw [hsz]; simpa using z1, by rw [u2]; exact z2⟩
  have hSE := W (.selects rc tFill tFill) (by simp [excAtoms]) (by intro q; cases q)
  have hth : ∀ {d}, d ∈ throwableAtoms → d ∈ excAtoms rc := fun q => List.mem_append_left _ q
  obtain ⟨v6, vm6, ⟨T6, L6, c6, n6⟩, -, X6, ⟨rfl, C6, n, hn, hD6, t1, t2, t3, t4, hL6, hc6, hn6⟩, come⟩ := X.virtualBack hx (own := tN) (C := rc) (index := 27) (y := tFill) (z := tFill) hown (W (.methodLink tN 27 tFill) (hth (by decide)) (by decide)) (W (.declares tFill) (by simp [excAtoms]) (by intro q; cases q)) (notFace_of_selects hSE) hSE (W (.instanceMethod tFill) (hth (by decide)) (by decide)) (by decide)
    (fillPaysAny (l := l) (W := 2 * g.monitorRoom + (rest.map fun v => v.category).sum) hx htr V L vF (u0 := ⟨u, hu⟩) (self := a) (cell := cell) (cellS := cellS) (fun _ => by rw [u2]; simp) (by rw [u2]; simp) (by rw [u3]) (by rw [u3]) b7 hsel0 hneS (by intro q; rw [q] at s6; cases s6) s7 (tk lyS (by rw [vSt]; exact fits_refV_array _ ⟨u, hu⟩))
      ⟨{ ci198 := ci198, i198 := _, fBack := _ }, ⟨x1, x2, x3, x4⟩, c7⟩ hTK hBelow vT hO hkO hkindO hfb hfd (fun x => tk lyB (by rw [xt]; rfl)) (fun x => tk lyD (by rw [tyD]; rfl)) (by omega) (by omega))
    (b := a) (cB := cell.cls) hfound ⟨cell, by rw [eT]; exact h1, rfl, by rw [u2]; rfl⟩ (g := g) hg hsize (Steps.refl _) (argsL := []) (rest := rest)
    (fun sig q => by rw [show parseMethodDescriptor tFill.desc = some ⟨[], some (.object tN)⟩ from by decide +kernel] at q; rw [← Option.some.inj q]; rfl) hs (Nat.le_refl _) hd
    (fun vmx _ => ⟨rfl, by show 0 + 1 ≤ R.cells; omega, by show 0 + 2752 ≤ R.slots; omega, by show T.heap[a]? = _; rw [eT]; exact h1, by show T.heap[V.aS]? = _; rw [eT, haS]; exact O.2.2 _ _ s5⟩)
  dsimp only [Pt.U, Pt.locs, Pt.cells, Pt.slots] at X6 hD6 hL6 hc6 hn6 come
  subst hL6 hc6 hn6
  have hbase : ∀ y ∈ locs ++ [⟨a, fB.slot⟩, ⟨a, gD.slot⟩, ⟨a, V.fStack.slot⟩], y.base = a := fun y hy => by
    rcases List.mem_append.mp hy with q | q
    · exact hb y q
    · simp only [List.mem_cons, List.not_mem_nil, or_false] at q
      rcases q with rfl | rfl | rfl <;> rfl
  have K6 : Keep h0 T6.heap [a] := by
    obtain ⟨-, g1, -, -, -, g5⟩ := X6.same
    rw [hs0] at g1 g5
    refine ⟨g1, fun x cl q r => ?_, fun x cl q => ?_⟩
    · obtain ⟨c', y1, y2, y3, y4⟩ := g5 x cl q
      have hx' : x ≠ a := by simpa using r
      have : c'.slots = cl.slots := Array.ext_getElem? fun i => y4 i fun hm => hx' (hbase _ hm)
      rw [this] at y2
      exact y1.trans (congrArg some y2)
    · obtain ⟨c', y1, y2, y3, y4⟩ := g5 x cl q
      exact ⟨c', y1, by rw [y2], by rw [y2], y3⟩
  refine ⟨T6, T6.heap, [⟨a, fB.slot⟩, ⟨a, gD.slot⟩, ⟨a, V.fStack.slot⟩], X6.more (by show 0 + 1 ≤ 1; exact Nat.le_refl _) (by show 0 + n ≤ 2752; omega), rfl, fun y hy => ?_, K6, ⟨C6, _, _, _, _, hD6, d2, d3, by rw [t2]; exact d4, by rw [t2]; exact d5, by rw [t1]; exact d6, (t4 _ mB mD mS).trans d7⟩, fun target q => come.trans q⟩
  simp only [List.mem_cons, List.not_mem_nil, or_false] at hy
  rcases hy with rfl | rfl | rfl <;> exact ge
end Exc
end Jvm.OwnKit
namespace Jvm.Pilot.@@N@@
open Jvm Jvm.ClassFile Sem Op Lib Jvm.Free Jvm.Stand Jvm.LawKit Jvm.RoadKit Jvm.OwnKit Bundle Jvm.Pilot.@@N@@.Jvm.D
abbrev Dc (b : ByteArray) (i : Nat) (x : Instr) (n : Nat) : Prop := decode b i = .ok (x, n)
abbrev sI (z : Int32) : Slot := .val (.int z)
abbrev sJ (z : Int64) : Slot := .val (.long z)
abbrev sR (z : Addr) : Slot := .val (.ref z)
theorem w_ {Z : State} {a0 : Array Value} (hw : ∀ d ∈ tables_1, d.before a0 Z = true) {d : Cond} {i : Nat} (h : tables_1[i]? = some d) : d.before a0 Z = true := hw d (List.mem_of_getElem? h)
def consts_1 : List (String × Nat) := []
theorem own_wS {Z : State} {a0 : Array Value} (hw : ∀ d ∈ tables_1, d.before a0 Z = true) : ∀ a ∈ Bundle.stringAtoms, a.before a0 Z = true := fun d hd => hw d ((by decide +kernel : ∀ d ∈ Bundle.stringAtoms, d ∈ tables_1) d hd)
theorem own_EW {Z : State} {a0 : Array Value} (hw : ∀ d ∈ tables_1, d.before a0 Z = true) : EW Z a0 consts_1 := EW.nil
theorem own_nI {k : Nat} (h : k ≤ 100) : (Int32.ofNat k).toInt = (k : Int) := own_bigN (by omega)
theorem own_n0 {k : Nat} (h : k ≤ 100) (q : Int32.ofNat k = 0) : k = 0 := by
  have e := own_nI h
  rw [q, show (0 : Int32).toInt = 0 from rfl] at e
  omega
theorem own_np {k : Nat} (h : k ≤ 100) (q : ¬ Int32.ofNat k = 0) : 0 < k := by
  apply Nat.pos_of_ne_zero
  rintro rfl
  exact q rfl
theorem own_ltc {k : Nat} (h : k ≤ 100) : Int32.ofNat k < (67108864 : Int32) := by
  rw [Int32.lt_iff_toInt_lt, own_nI h, show (67108864 : Int32).toInt = 67108864 from rfl]
  omega
theorem own_u0 {n : Int32} {k : Nat} (hN : n.toInt = (k : Int)) : ¬ n < 0 := by
  rw [Int32.lt_iff_toInt_lt, hN, show (0 : Int32).toInt = 0 from rfl]
  omega
theorem own_ltI {i n : Int32} {j k : Nat} (hi : i.toInt = (j : Int)) (hn : n.toInt = (k : Int)) (h : j < k) : i < n := by
  rw [Int32.lt_iff_toInt_lt, hi, hn]
  omega
theorem own_geI {i n : Int32} {j k : Nat} (hi : i.toInt = (j : Int)) (hn : n.toInt = (k : Int)) (h : k ≤ j) : ¬ i < n := by
  rw [Int32.lt_iff_toInt_lt, hi, hn]
  omega
theorem own_incI {i : Int32} {j : Nat} (hi : i.toInt = (j : Int)) (h : j ≤ 4000) : (i + (1 : Int32)).toInt = ((j + 1 : Nat) : Int) := by
  rw [Int32.toInt_add, Int.bmod_def, hi, show (1 : Int32).toInt = 1 from rfl]
  omega
theorem own_subN {a b : Int32} {A B : Nat} (ha : a.toInt = (A : Int)) (hb : b.toInt = (B : Int)) (h : B ≤ A) (hA : A ≤ 4000) : (a - b).toInt = ((A - B : Nat) : Int) := by
  rw [Int32.toInt_sub, Int.bmod_def, ha, hb]
  omega
theorem own_nz {i : Int32} {j : Nat} (hi : i.toInt = (j : Int)) (h : 0 < j) : ¬ i = 0 := by
  intro e
  rw [e, show (0 : Int32).toInt = 0 from rfl] at hi
  omega
theorem own_z {i : Int32} {j : Nat} (hi : i.toInt = (j : Int)) (h : j = 0) : i = 0 := by
  apply Int32.toInt_inj.mp
  rw [hi, h]
  rfl
theorem own_ofN {i : Int32} {j : Nat} (hi : i.toInt = (j : Int)) (h : j ≤ 4000) : i = Int32.ofNat j := by
  apply Int32.toInt_inj.mp
  rw [hi, own_bigN h]
def own_bc (i : Int32) : Int32 :=
  let i1 := i - (((i.toUInt32 >>> ((1 : Int32) &&& 31).toUInt32).toInt32) &&& (1431655765 : Int32))
  let i2 := (i1 &&& (858993459 : Int32)) + (((i1.toUInt32 >>> ((2 : Int32) &&& 31).toUInt32).toInt32) &&& (858993459 : Int32))
  let i3 := (i2 + ((i2.toUInt32 >>> ((4 : Int32) &&& 31).toUInt32).toInt32)) &&& (252645135 : Int32)
  let i4 := i3 + ((i3.toUInt32 >>> ((8 : Int32) &&& 31).toUInt32).toInt32)
  (i4 + ((i4.toUInt32 >>> ((16 : Int32) &&& 31).toUInt32).toInt32)) &&& (63 : Int32)
theorem own_pj {i : Int32} {j : Nat} (hi : i.toInt = (j : Int)) (h : ¬ i = 0) : 0 < j := by
  apply Nat.pos_of_ne_zero
  intro e
  exact h (own_z hi e)
theorem own_addN {a b : Int32} {A B : Nat} (ha : a.toInt = (A : Int)) (hb : b.toInt = (B : Int)) (h : A + B ≤ 4000) : (a + b).toInt = ((A + B : Nat) : Int) := by
  rw [Int32.toInt_add, Int.bmod_def, ha, hb]
  omega
theorem own_i9 {y : Int32} {n : Nat} (hy : y.toInt = (n : Int)) (h0 : 0 < n) (hn : n ≤ 4000) : (y - (1 : Int32)).toInt = (n : Int) - 1 := by
  rw [Int32.toInt_sub, Int.bmod_def, hy, show (1 : Int32).toInt = 1 from rfl]
  omega
theorem own_i10 {x y : Int32} {nx ny : Nat} (hx : x.toInt = (nx : Int)) (hy : y.toInt = (ny : Int)) (h0 : 0 < nx) (h1 : 0 < ny) (hn : nx + ny ≤ 4000) : (((y - (1 : Int32)) + (1 : Int32)) + (x - (1 : Int32))).toInt = (ny : Int) - 1 + nx := by
  rw [Int32.toInt_add, Int32.toInt_add, own_i9 hy h1 (by omega), own_i9 hx h0 (by omega), show (1 : Int32).toInt = 1 from rfl, Int.bmod_def, Int.bmod_def]
  omega
theorem own_dec {i : Int32} {d : Nat} (h : i.toInt = (d : Int)) (hd : d ≤ 4000) : (i + (-1 : Int32)).toInt = (d : Int) - 1 := by
  rw [Int32.toInt_add, Int.bmod_def, h, show (-1 : Int32).toInt = -1 from rfl]
  omega
theorem own_decz {i : Int32} {d n : Nat} (h : i.toInt = ((d + n : Nat) : Int)) (hd : d + n ≤ 4000) : (i + (-1 : Int32)).toInt = (d : Int) - 1 + n := by
  rw [Int32.toInt_add, Int.bmod_def, h, show (-1 : Int32).toInt = -1 from rfl]
  omega
theorem own_decy {i : Int32} {d e : Nat} (h : i.toInt = ((d + e + 1 : Nat) : Int)) (hd : d + e ≤ 4000) : (i + (-1 : Int32)).toInt = (d : Int) - 1 + (e + 1) := by
  rw [Int32.toInt_add, Int.bmod_def, h, show (-1 : Int32).toInt = -1 from rfl]
  omega
theorem own_neg1 {i : Int32} (h : i.toInt < 0) : i < 0 := by
  rw [Int32.lt_iff_toInt_lt, show (0 : Int32).toInt = 0 from rfl]
  exact h
theorem own_xs {x : Int32} {n : Nat} (hx : x.toInt = (n : Int)) (h0 : 0 < n) (hn : n ≤ 4000) : (x - (1 : Int32)).toInt = ((n - 1 : Nat) : Int) := by
  rw [own_i9 hx h0 hn]
  omega
theorem own_i9b {x : Int32} {n : Nat} (hx : x.toInt = (n : Int)) (h0 : 0 < n) (hn : n ≤ 4000) : ((x - (1 : Int32)) - (1 : Int32)).toInt = ((n - 1 : Nat) : Int) - 1 := by
  rw [Int32.toInt_sub, own_i9 hx h0 hn, show (1 : Int32).toInt = 1 from rfl, Int.bmod_def]
  omega
theorem own_i11 {y i : Int32} {ny d : Nat} (hy : y.toInt = (ny : Int)) (hi : i.toInt = (d : Int)) (h0 : 0 < ny) (hn : ny ≤ 2000) (hd : d ≤ 2000) : (((y - (1 : Int32)) + (1 : Int32)) + i).toInt = (ny : Int) - 1 + (d + 1) := by
  rw [Int32.toInt_add, Int32.toInt_add, own_i9 hy h0 (by omega), hi, show (1 : Int32).toInt = 1 from rfl, Int.bmod_def, Int.bmod_def]
  omega
theorem own_isJ {j : Int32} {J : Nat} (h : j.toInt = (J : Int)) : j.toBitVec.toNat = J := by
  have e : j.toBitVec.toInt = (J : Int) := h
  rw [BitVec.toInt_eq_toNat_cond] at e
  have := j.toBitVec.isLt
  split at e <;> omega
theorem own_shr32 {i k : Int32} {I K : Nat} (hi : i.toInt = (I : Int)) (hk : ((k &&& 31).toUInt32).toNat % 32 = K) (hI : I < 2147483648) : ((i.toUInt32 >>> (k &&& 31).toUInt32).toInt32).toInt = ((I / 2 ^ K : Nat) : Int) := by
  have e : (i.toUInt32 >>> (k &&& 31).toUInt32).toNat = I / 2 ^ K := by
    rw [UInt32.toNat_shiftRight, hk, show i.toUInt32.toNat = I from own_isJ hi, Nat.shiftRight_eq_div_pow]
  have hl : I / 2 ^ K < 2147483648 := Nat.lt_of_le_of_lt (Nat.div_le_self _ _) hI
  show (i.toUInt32 >>> (k &&& 31).toUInt32).toBitVec.toInt = _
  rw [BitVec.toInt_eq_toNat_cond, show (i.toUInt32 >>> (k &&& 31).toUInt32).toBitVec.toNat = I / 2 ^ K from e, if_pos (by omega)]
theorem own_pos0 {i : Int32} (h : 0 < i) : 0 < i.toInt ∧ i.toInt ≤ 2147483647 := by
  rw [Int32.lt_iff_toInt_lt, show (0 : Int32).toInt = 0 from rfl] at h
  have := Int32.toInt_lt i
  omega
theorem own_shB {i k : Int32} {K : Nat} (h0 : 0 < i.toInt) (hk : ((k &&& 31).toUInt32).toNat % 32 = K) : ((i.toUInt32 >>> (k &&& 31).toUInt32).toInt32).toInt = i.toInt / ((2 ^ K : Nat) : Int) := by
  have hl := Int32.toInt_lt i
  rw [own_shr32 (I := i.toInt.toNat) (by omega) hk (by omega), Int.natCast_ediv, Int.toNat_of_nonneg (by omega)]
theorem own_addL {n : Int32} {k : Int32} {K : Int} (h : 1 ≤ n.toInt ∧ n.toInt ≤ 100) (hk : k.toInt = K) (h1 : 0 ≤ K) (h2 : K ≤ 100) : (n + k).toInt = n.toInt + K := by
  rw [Int32.toInt_add, hk, Int.bmod_def]
  omega
theorem own_ntz0T {i : Int32} (h : 0 < i.toInt ∧ i.toInt ≤ 2147483647) (q : (65536 : Int32) < i) : (0 < (((i.toUInt32 >>> ((16 : Int32) &&& 31).toUInt32).toInt32)).toInt ∧ (((i.toUInt32 >>> ((16 : Int32) &&& 31).toUInt32).toInt32)).toInt ≤ 65536 ∧ 1 ≤ ((17 : Int32)).toInt ∧ ((17 : Int32)).toInt ≤ 17) := by
  rw [Int32.lt_iff_toInt_lt, show (65536 : Int32).toInt = 65536 from rfl] at q
  rw [own_shB (K := 16) h.1 (by decide), show (17 : Int32).toInt = 17 from rfl]
  omega
theorem own_ntz0F {i : Int32} (h : 0 < i.toInt ∧ i.toInt ≤ 2147483647) (q : ¬ (65536 : Int32) < i) : (0 < i.toInt ∧ i.toInt ≤ 65536 ∧ 1 ≤ ((1 : Int32)).toInt ∧ ((1 : Int32)).toInt ≤ 17) := by
  rw [Int32.lt_iff_toInt_lt, show (65536 : Int32).toInt = 65536 from rfl] at q
  rw [show (1 : Int32).toInt = 1 from rfl]
  omega
theorem own_ntz1T {i n : Int32} (h : 0 < i.toInt ∧ i.toInt ≤ 65536 ∧ 1 ≤ n.toInt ∧ n.toInt ≤ 17) (q : (256 : Int32) < i) : (0 < (((i.toUInt32 >>> ((8 : Int32) &&& 31).toUInt32).toInt32)).toInt ∧ (((i.toUInt32 >>> ((8 : Int32) &&& 31).toUInt32).toInt32)).toInt ≤ 256 ∧ 1 ≤ (n + (8 : Int32)).toInt ∧ (n + (8 : Int32)).toInt ≤ 25) := by
  rw [Int32.lt_iff_toInt_lt, show (256 : Int32).toInt = 256 from rfl] at q
  rw [own_shB (K := 8) h.1 (by decide), own_addL (K := 8) ⟨h.2.2.1, by omega⟩ rfl (by decide) (by decide)]
  omega
theorem own_ntz1F {i n : Int32} (h : 0 < i.toInt ∧ i.toInt ≤ 65536 ∧ 1 ≤ n.toInt ∧ n.toInt ≤ 17) (q : ¬ (256 : Int32) < i) : (0 < i.toInt ∧ i.toInt ≤ 256 ∧ 1 ≤ n.toInt ∧ n.toInt ≤ 25) := by
  rw [Int32.lt_iff_toInt_lt, show (256 : Int32).toInt = 256 from rfl] at q
  omega
theorem own_ntz2T {i n : Int32} (h : 0 < i.toInt ∧ i.toInt ≤ 256 ∧ 1 ≤ n.toInt ∧ n.toInt ≤ 25) (q : (16 : Int32) < i) : (0 < (((i.toUInt32 >>> ((4 : Int32) &&& 31).toUInt32).toInt32)).toInt ∧ (((i.toUInt32 >>> ((4 : Int32) &&& 31).toUInt32).toInt32)).toInt ≤ 16 ∧ 1 ≤ (n + (4 : Int32)).toInt ∧ (n + (4 : Int32)).toInt ≤ 29) := by
  rw [Int32.lt_iff_toInt_lt, show (16 : Int32).toInt = 16 from rfl] at q
  rw [own_shB (K := 4) h.1 (by decide), own_addL (K := 4) ⟨h.2.2.1, by omega⟩ rfl (by decide) (by decide)]
  omega
theorem own_ntz2F {i n : Int32} (h : 0 < i.toInt ∧ i.toInt ≤ 256 ∧ 1 ≤ n.toInt ∧ n.toInt ≤ 25) (q : ¬ (16 : Int32) < i) : (0 < i.toInt ∧ i.toInt ≤ 16 ∧ 1 ≤ n.toInt ∧ n.toInt ≤ 29) := by
  rw [Int32.lt_iff_toInt_lt, show (16 : Int32).toInt = 16 from rfl] at q
  omega
theorem own_ntz3T {i n : Int32} (h : 0 < i.toInt ∧ i.toInt ≤ 16 ∧ 1 ≤ n.toInt ∧ n.toInt ≤ 29) (q : (4 : Int32) < i) : (0 < (((i.toUInt32 >>> ((2 : Int32) &&& 31).toUInt32).toInt32)).toInt ∧ (((i.toUInt32 >>> ((2 : Int32) &&& 31).toUInt32).toInt32)).toInt ≤ 4 ∧ 1 ≤ (n + (2 : Int32)).toInt ∧ (n + (2 : Int32)).toInt ≤ 31) := by
  rw [Int32.lt_iff_toInt_lt, show (4 : Int32).toInt = 4 from rfl] at q
  rw [own_shB (K := 2) h.1 (by decide), own_addL (K := 2) ⟨h.2.2.1, by omega⟩ rfl (by decide) (by decide)]
  omega
theorem own_ntz3F {i n : Int32} (h : 0 < i.toInt ∧ i.toInt ≤ 16 ∧ 1 ≤ n.toInt ∧ n.toInt ≤ 29) (q : ¬ (4 : Int32) < i) : (0 < i.toInt ∧ i.toInt ≤ 4 ∧ 1 ≤ n.toInt ∧ n.toInt ≤ 31) := by
  rw [Int32.lt_iff_toInt_lt, show (4 : Int32).toInt = 4 from rfl] at q
  omega
theorem own_ntzEnd {i n : Int32} (h : 0 < i.toInt ∧ i.toInt ≤ 4 ∧ 1 ≤ n.toInt ∧ n.toInt ≤ 31) : 0 ≤ (n + ((i.toUInt32 >>> ((1 : Int32) &&& 31).toUInt32).toInt32)).toInt ∧ (n + ((i.toUInt32 >>> ((1 : Int32) &&& 31).toUInt32).toInt32)).toInt ≤ 63 := by
  have e := own_shB (k := 1) (K := 1) h.1 (by decide)
  rw [own_addL (K := i.toInt / ((2 ^ 1 : Nat) : Int)) ⟨h.2.2.1, by omega⟩ e (by omega) (by omega)]
  omega
theorem own_and32 (x : Int32) : 0 ≤ (x &&& (32 : Int32)).toInt ∧ (x &&& (32 : Int32)).toInt ≤ 63 := by
  have e : (x &&& (32 : Int32)).toBitVec.toNat ≤ 32 := by
    show (x.toBitVec &&& 32#32).toNat ≤ 32
    rw [BitVec.toNat_and]
    exact Nat.and_le_right
  have : (x &&& (32 : Int32)).toInt = (((x &&& (32 : Int32)).toBitVec.toNat : Nat) : Int) := by
    show (x &&& (32 : Int32)).toBitVec.toInt = _
    rw [BitVec.toInt_eq_toNat_cond, if_pos (by omega)]
  omega
theorem own_k2 {sh k2 : Int32} (h : 0 ≤ sh.toInt ∧ sh.toInt ≤ 63) (e : k2 = ((sh.toUInt32 >>> ((5 : Int32) &&& 31).toUInt32).toInt32)) : ∃ K : Nat, k2.toInt = (K : Int) ∧ K ≤ 1 := by
  have q := own_shr32 (i := sh) (k := 5) (I := sh.toInt.toNat) (K := 5) (by omega) (by decide) (by omega)
  refine ⟨sh.toInt.toNat / 2 ^ 5, by rw [e]; exact q, by omega⟩
theorem own_b3 {sh b3 : Int32} (e : b3 = (sh &&& (31 : Int32))) : 0 ≤ b3.toInt ∧ b3.toInt ≤ 31 := by
  have q := c_mask sh 31 5 (by decide) (by decide)
  rw [e, q]
  omega
theorem own_xsp {x : Int32} {n : Nat} (hx : x.toInt = (n : Int)) (h0 : 0 < n) (hn : n ≤ 4000) : ((x - (1 : Int32)) + (1 : Int32)).toInt = (n : Int) := by
  rw [own_incI (own_xs hx h0 hn) (by omega)]
  omega
theorem own_np1 {k : Nat} (h : k ≤ 99) : (Int32.ofNat (k + 1) - (1 : Int32)).toInt = (k : Int) := by
  rw [own_i9 (n := k + 1) (own_nI (by omega)) (by omega) (by omega)]
  omega
theorem own_dec1 {i : Int32} {d : Nat} (h : i.toInt = ((d + 1 : Nat) : Int)) (hd : d ≤ 3000) : (i + (-1 : Int32)).toInt = (d : Int) := by
  rw [own_dec h (by omega)]
  omega
theorem own_le20 {k : Nat} (h : k ≤ 20) : ¬ (20 : Int32) < Int32.ofNat k := by
  rw [Int32.lt_iff_toInt_lt, own_nI (by omega), show (20 : Int32).toInt = 20 from rfl]
  omega
theorem own_lt80 {k : Nat} (h : k ≤ 20) : Int32.ofNat k < (80 : Int32) := by
  rw [Int32.lt_iff_toInt_lt, own_nI (by omega), show (80 : Int32).toInt = 80 from rfl]
  omega
theorem own_decN {i : Int32} {j : Nat} (h : i.toInt = (j : Int)) (h0 : 0 < j) (hj : j ≤ 4000) : (i + (-1 : Int32)).toInt = ((j - 1 : Nat) : Int) := by
  rw [own_dec h hj]
  omega
theorem own_jx {i : Int32} {d a : Nat} (h : i.toInt = ((d + 1 + a : Nat) : Int)) (hb : d + 1 + a ≤ 4000) : (i + (-1 : Int32)).toInt = ((d + a : Nat) : Int) := (own_decN h (by omega) hb).trans (by omega)
theorem own_jb {d nX nY : Nat} (m : d + 1 ≤ nY) (h : nY ≤ nX) (h4 : nX ≤ 4000) : d + 1 + (nX - nY) ≤ 4000 := by omega
theorem own_j1 {d nX nY : Nat} (m : d + 1 ≤ nY) (h : nY ≤ nX) : d + (nX - nY) < nX := by omega
theorem own_sw0 {nx ny : Nat} (q : ¬ Int32.ofNat nx < Int32.ofNat ny) (hy : 0 < ny) (h : nx + ny ≤ 100) : 0 < ny ∧ ny ≤ nx ∧ nx + ny = nx + ny ∧ (nx = nx ∨ nx = ny) := by
  rw [Int32.lt_iff_toInt_lt, own_nI (by omega), own_nI (by omega)] at q
  omega
theorem own_sw1 {nx ny : Nat} (q : Int32.ofNat nx < Int32.ofNat ny) (hx : 0 < nx) (h : nx + ny ≤ 100) : 0 < nx ∧ nx ≤ ny ∧ ny + nx = nx + ny ∧ (ny = nx ∨ ny = ny) := by
  rw [Int32.lt_iff_toInt_lt, own_nI (by omega), own_nI (by omega)] at q
  omega
theorem own_toN {x : Int64} (h : ¬ x < 0) : x.toInt = (x.toUInt64.toNat : Int) ∧ x.toUInt64.toNat < 2 ^ 63 := by
  rw [Int64.lt_iff_toInt_lt] at h
  have e : x.toInt = x.toBitVec.toInt := rfl
  have e2 : x.toUInt64.toNat = x.toBitVec.toNat := rfl
  have hl := x.toBitVec.isLt
  rw [e, show (0 : Int64).toInt = 0 from rfl, BitVec.toInt_eq_toNat_cond] at h
  rw [e, e2, BitVec.toInt_eq_toNat_cond]
  split at h <;> split <;> omega
theorem own_mulI {x y : Int64} : (x * y).toInt = (x.toInt * y.toInt).bmod (2 ^ 64) := Int64.toInt_mul x y
theorem own_mulpos {x y : Int64} (hx : ¬ x < 0) (hy : ¬ y < 0) (h : (((x ||| y).toUInt64 >>> ((31 : Int32) &&& 0x3f).toInt64.toUInt64).toInt64) = (0 : Int64) ∨ y = 0 ∨ ((x * y) / y) = x) : ¬ x * y < 0 := by
  obtain ⟨ex, lx⟩ := own_toN hx
  obtain ⟨ey, ly⟩ := own_toN hy
  rw [Int64.lt_iff_toInt_lt, show (0 : Int64).toInt = 0 from rfl]
  rcases h with h | h | h
  · have h1 : ((x ||| y).toUInt64 >>> ((31 : Int32) &&& 0x3f).toInt64.toUInt64) = 0 := by
      have := congrArg Int64.toUInt64 h
      exact this.trans rfl
    have h2 : (x.toUInt64.toNat ||| y.toUInt64.toNat) / 2 ^ 31 = 0 := by
      have h3 := congrArg UInt64.toNat h1
      rw [UInt64.toNat_shiftRight] at h3
      have e1 : ((31 : Int32) &&& 0x3f).toInt64.toUInt64.toNat % 64 = 31 := by decide
      rw [e1, Nat.shiftRight_eq_div_pow] at h3
      simpa using h3
    have h4 : (x.toUInt64.toNat ||| y.toUInt64.toNat) < 2 ^ 31 := by omega
    have a1 := Nat.left_le_or (n := x.toUInt64.toNat) (m := y.toUInt64.toNat)
    have a2 := Nat.right_le_or (n := x.toUInt64.toNat) (m := y.toUInt64.toNat)
    have a3 : x.toUInt64.toNat * y.toUInt64.toNat < 2 ^ 62 := by
      have := Nat.mul_lt_mul'' (show x.toUInt64.toNat < 2 ^ 31 by omega) (show y.toUInt64.toNat < 2 ^ 31 by omega)
      omega
    rw [own_mulI, ex, ey, ← Int.natCast_mul, Int.bmod_def]
    omega
  · subst h
    simp
  · by_cases h0 : y = 0
    · subst h0; simp
    · have hyp : 0 < y.toInt := by
        have : y.toInt ≠ 0 := fun q => h0 (Int64.toInt_inj.mp (by rw [q]; rfl))
        omega
      intro hneg
      have hd : ((x * y) / y).toInt = (x * y).toInt.tdiv y.toInt := by
        rw [Int64.toInt_div]
        have l1 := Int64.le_toInt (x * y)
        have l2 := Int64.toInt_lt (x * y)
        have q1 : (x * y).toInt ≤ (x * y).toInt.tdiv y.toInt := by
          rw [show (x * y).toInt = -(-(x * y).toInt) by omega, Int.neg_tdiv]
          have := Int.tdiv_le_self (a := -(x * y).toInt) y.toInt (by omega)
          omega
        have q2 : (x * y).toInt.tdiv y.toInt ≤ 0 := by
          rw [show (x * y).toInt = -(-(x * y).toInt) by omega, Int.neg_tdiv]
          have := Int.tdiv_nonneg (a := -(x * y).toInt) (b := y.toInt) (by omega) (by omega)
          omega
        rw [Int.bmod_def]
        omega
      rw [h] at hd
      have q2 : (x * y).toInt.tdiv y.toInt ≤ 0 := by
        rw [show (x * y).toInt = -(-(x * y).toInt) by omega, Int.neg_tdiv]
        have := Int.tdiv_nonneg (a := -(x * y).toInt) (b := y.toInt) (by omega) (by omega)
        omega
      have hx0 : x.toInt = 0 := by omega
      have : x = 0 := Int64.toInt_inj.mp (by rw [hx0]; rfl)
      subst this
      simp at hneg
theorem own_addpos {x y : Int64} (hx : ¬ x < 0) (hy : ¬ y < 0) (h : ¬ ((x ^^^ (x + y)) &&& (y ^^^ (x + y))) < (0 : Int64)) : ¬ x + y < 0 := by
  have neg : ∀ z : Int64, z < 0 ↔ z.toBitVec.msb = true := fun z => by
    rw [Int64.lt_iff_toInt_lt, show (0 : Int64).toInt = 0 from rfl, show z.toInt = z.toBitVec.toInt from rfl, BitVec.msb_eq_toInt]
    simp
  rw [neg] at hx hy h ⊢
  simp only [Int64.toBitVec_and, Int64.toBitVec_xor, BitVec.msb_and, BitVec.msb_xor] at h
  revert hx hy h
  generalize x.toBitVec.msb = a
  generalize y.toBitVec.msb = b
  generalize (x + y).toBitVec.msb = c
  revert a b c
  decide
theorem own_nemin {x : Int64} (hx : ¬ x < 0) : ¬ x = (-9223372036854775808 : Int64) := fun h => hx (by subst h; decide)
theorem own_gt0 {q : Int64} (h : ¬ q < 0) (h0 : ¬ q = 0) : (0 : Int64) < q := by
  rw [Int64.lt_iff_toInt_lt] at h ⊢
  have : q.toInt ≠ (0 : Int64).toInt := fun z => h0 (Int64.toInt_inj.mp z)
  omega
theorem own_ix {q : Int64} (h : ¬ q < 0) (h0 : ¬ q = 0) (h16 : ¬ (16 : Int64) < q) : ∃ i : Nat, q.toInt32.toInt = (i : Int) ∧ 1 ≤ i ∧ i ≤ 16 := by
  have h1 := own_gt0 h h0
  rw [Int64.lt_iff_toInt_lt] at h1 h16
  have e0 : (0 : Int64).toInt = 0 := rfl
  have e1 : (16 : Int64).toInt = 16 := rfl
  refine ⟨q.toInt.toNat, ?_, by omega, by omega⟩
  rw [Int64.toInt_toInt32, Int.bmod_def]
  omega
theorem own_denpos {x : Int64} : ¬ (x &&& (9223372036854775807 : Int64)) < 0 := by
  have neg : ∀ z : Int64, z < 0 ↔ z.toBitVec.msb = true := fun z => by
    rw [Int64.lt_iff_toInt_lt, show (0 : Int64).toInt = 0 from rfl, show z.toInt = z.toBitVec.toInt from rfl, BitVec.msb_eq_toInt]
    simp
  rw [neg, Int64.toBitVec_and, BitVec.msb_and]
  have : (9223372036854775807 : Int64).toBitVec.msb = false := by decide
  rw [this]
  simp
theorem own_rempos {x d : Int64} (hx : ¬ x < 0) (hd : ¬ d < 0) (h0 : ¬ d = 0) : ¬ (x - (x / d) * d) < 0 := by
  have e0 : (0 : Int64).toInt = 0 := rfl
  rw [Int64.lt_iff_toInt_lt, e0] at hx hd ⊢
  have hd0 : d.toInt ≠ 0 := fun q => h0 (Int64.toInt_inj.mp (by rw [q]; rfl))
  have l1 := Int64.toInt_lt x
  have l2 := Int64.toInt_lt d
  have a1 : 0 ≤ x.toInt.tdiv d.toInt := Int.tdiv_nonneg (by omega) (by omega)
  have a2 : x.toInt.tdiv d.toInt ≤ x.toInt := Int.tdiv_le_self _ (by omega)
  have e1 : (x / d).toInt = x.toInt.tdiv d.toInt := by
    rw [Int64.toInt_div, Int.bmod_def]
    omega
  have a3 : x.toInt.tdiv d.toInt * d.toInt + x.toInt.tmod d.toInt = x.toInt := Int.tdiv_mul_add_tmod x.toInt d.toInt
  have a4 : 0 ≤ x.toInt.tmod d.toInt := Int.tmod_nonneg _ (by omega)
  have a5 : 0 ≤ x.toInt.tdiv d.toInt * d.toInt := Int.mul_nonneg a1 (by omega)
  have e2 : ((x / d) * d).toInt = x.toInt.tdiv d.toInt * d.toInt := by
    rw [Int64.toInt_mul, e1, Int.bmod_def]
    omega
  rw [Int64.toInt_sub, e2, Int.bmod_def]
  omega
/-- the BigIntegers 1 to 16 that the class keeps -/
def PosOk (Z : State) : Prop := ∃ (p0 : Addr) (cl : Cell), Sta Z Z.heap "java/math/BigInteger" "posConst" "[Ljava/math/BigInteger;" (.ref p0) ∧ Arr Z Z.heap p0 cl (.object "java/math/BigInteger") ∧ cl.slots.size = 17 ∧ ∀ i, 1 ≤ i → i ≤ 16 → ∃ c, cl.slots[i]? = some (.ref c) ∧ BigOk Z Z.heap c 1
theorem own_exw {Z : State} {a0 : Array Value} (hw : ∀ d ∈ tables_1, d.before a0 Z = true) : ∀ d ∈ Jvm.Free.Exc.excAtoms "java/lang/ArithmeticException", d ≠ own_gone → d.before a0 Z = true := fun d h1 h2 => hw d ((by decide +kernel : ∀ d ∈ Jvm.Free.Exc.excAtoms "java/lang/ArithmeticException", d ≠ own_gone → d ∈ tables_1) d h1 h2)
theorem own_c12 {x : Int32} (h : x < (1 : Int32)) : x < (2 : Int32) := by
  rw [Int32.lt_iff_toInt_lt] at h ⊢
  have e1 : (1 : Int32).toInt = 1 := rfl
  have e2 : (2 : Int32).toInt = 2 := rfl
  omega
theorem own_c23 {x : Int32} (h : x < (2 : Int32)) : x < (3 : Int32) := by
  rw [Int32.lt_iff_toInt_lt] at h ⊢
  have e1 : (3 : Int32).toInt = 3 := rfl
  have e2 : (2 : Int32).toInt = 2 := rfl
  omega
theorem own_c13 {x : Int32} (h : x < (1 : Int32)) : x < (3 : Int32) := own_c23 (own_c12 h)
theorem own_c0 {x : Int32} (h : ¬ x < (1 : Int32)) : ¬ x = (0 : Int32) := fun q => h (by subst q; decide)
theorem own_known {vm : Vm} {m : MethodId} (h : methodKnown vm m = true) : vm.knowsMethod m := by
  unfold methodKnown at h
  cases hk : vm.classes[m.cls]? with
  | none => simp [hk] at h
  | some k => exact ⟨k, hk, fun cf hc => by simpa [hk, hc] using h⟩
theorem own_knows {s : State} {m : MethodId} {args : Array Value} {below : List Frame} (hf : s.frames = .invoking m args :: below) (h : framesKnown s = true ∧ (tablesKnown s = true ∧ True)) : s.vm.MethodsKnown ∧ s.vm.FramesKnown below := by
  obtain ⟨h1, h2, -⟩ := h
  refine ⟨fun m' x hx => ?_, fun y hy m' hm => ?_⟩
  · unfold Vm.method? at hx
    cases hk : s.vm.classes[m'.cls]? with
    | none => simp [hk] at hx
    | some k =>
      refine ⟨k, hk, fun cf hc => ?_⟩
      have hm : k.methods[m'.idx]? = some x := by simpa [hk] using hx
      have hi := (Array.getElem?_eq_some_iff.mp hm).1
      obtain ⟨hlt, rfl⟩ := Array.getElem?_eq_some_iff.mp hk
      have q := (Array.all_eq_true_iff_forall_mem.mp h2) _ (Array.getElem_mem hlt)
      simp only [hc, beq_iff_eq] at q
      rw [q] at hi
      simp [hi]
  · unfold framesKnown at h1
    rw [hf, List.all_eq_true] at h1
    have q := h1 y (List.mem_cons_of_mem _ hy)
    cases y <;> simp [frameMethod?] at hm
    · subst hm; exact own_known q
    · subst hm; exact own_known q
section Pins
variable {Z : State} {args : Array Value} {t : Term} {x p0 : Addr} {cl : Cell} {ty : FieldType} {j v : Int32} {i : Nat}
theorem own_bigpin {sg k : Int32} {n : Nat} (ev : t.eval args Z none [] Z = some (.ref x)) (h1 : (Cond.exactly t "java/math/BigInteger").value args Z none Z [] = some true) (h2 : (Cond.eq (.field t "java/math/BigInteger" "signum" "I") (.int sg)).value args Z none Z [] = some true) (h3 : (Cond.arrayOf (.field t "java/math/BigInteger" "mag" "[I") .int).value args Z none Z [] = some true)
    (h4 : (Cond.eq (.length (.field t "java/math/BigInteger" "mag" "[I")) (.int k)).value args Z none Z [] = some true) (hn : k.toNatClampNeg = n) (hv : ∀ i, i < n → ∃ j : Int32, j.toNatClampNeg = i ∧ (Term.elem (.field t "java/math/BigInteger" "mag" "[I") (.int j)).eval args Z none [] Z = some (.int v)) (h100 : n ≤ 100) (hs : (sg = 0 ∧ n = 0) ∨ (sg = 1 ∧ 0 < n)) : BigOk Z Z.heap x n := by
  obtain ⟨b, evb⟩ := arr_v h3
  obtain ⟨cb, A⟩ := Arr.start evb h3
  obtain ⟨hz, -⟩ := pin_len evb A h4
  rw [hn] at hz
  refine ⟨b, cb.cls, n, fun _ => v, sg, Exa.start ev h1, fldint_of ev h2, fldref_of ev evb, ⟨cb, A, rfl, hz, fun i hi => ?_, fun _ _ => rfl⟩, Nat.le_refl _, h100, hs⟩
  obtain ⟨j, hj, he⟩ := hv i hi
  exact pin_at evb A he hj
theorem own_posat (evp : t.eval args Z none [] Z = some (.ref p0)) (A : Arr Z Z.heap p0 cl ty) (hj : j.toNatClampNeg = i) (h1 : (Cond.exactly (.elem t (.int j)) "java/math/BigInteger").value args Z none Z [] = some true) (h2 : (Cond.eq (.field (.elem t (.int j)) "java/math/BigInteger" "signum" "I") (.int 1)).value args Z none Z [] = some true) (h3 : (Cond.arrayOf (.field (.elem t (.int j)) "java/math/BigInteger" "mag" "[I") .int).value args Z none Z [] = some true)
    (h4 : (Cond.eq (.length (.field (.elem t (.int j)) "java/math/BigInteger" "mag" "[I")) (.int 1)).value args Z none Z [] = some true) (h5 : (Cond.eq (.elem (.field (.elem t (.int j)) "java/math/BigInteger" "mag" "[I") (.int 0)) (.int v)).value args Z none Z [] = some true) : ∃ c, cl.slots[i]? = some (.ref c) ∧ BigOk Z Z.heap c 1 := by
  obtain ⟨c, ev⟩ := exa_v h1
  refine ⟨c, pin_at evp A ev hj, own_bigpin (n := 1) (v := v) ev h1 h2 h3 h4 rfl (fun i hi => ⟨0, ?_, eqint_v h5⟩) (by decide) (Or.inr ⟨rfl, by decide⟩)⟩
  have : i = 0 := by omega
  subst this
  rfl
end Pins
abbrev B18 : ByteArray := jdk_18_method_1_code
theorem d18_0 : Dc B18 0 (.aload_n 0) 1 := by decide +kernel
theorem d18_1 : Dc B18 1 (.invokespecial 1) 3 := by decide +kernel
theorem d18_4 : Dc B18 4 (.return_) 1 := by decide +kernel
theorem ef_rm_num (m : MethodId) (t : Addr)  : entryFrame m #[(.ref t)] 1 = mkF m 0 #[(sR t)] [] := by first | (simp [entryFrame, mkF, argsToLocals, Value.category]; done) | rfl
def Q_rm_num (Z : State) (t : Addr)  (h0 : Heap) (n0 : Nat) (v : Option Value) (h : Heap) (L : List Loc) : Prop := v = none ∧ Fr n0 L ∧ h = h0
theorem pn_0_ : plainName "java/lang/Number" = true := by first | (simp [plainName, overriddenIn]; done) | decide +kernel
theorem pn_0 : plainFor (⟨"java/lang/Number", "<init>", "()V"⟩ : MethodName) = true := plainFor_of_name pn_0_
set_option maxRecDepth 65536 in
set_option maxHeartbeats 40000000 in
theorem rm_num (l : Launch) (Z : State) (a0 : Array Value) (hw : ∀ d ∈ tables_1, d.before a0 Z = true) (ws : List Jvm.Cond) (t : Addr)  (h0 : Heap) (n0 : Nat) (O0 : Old Z n0 h0)  :
    MetFree l (⟨"java/lang/Number", "<init>", "()V"⟩ : MethodName) (head1 (Jvm.Cond.code (⟨"java/lang/Number", "<init>", "()V"⟩ : MethodName) jdk_18_method_1_code 1 none :: ws) ({ frames := 1, cells := 0, slots := 0, locals := 12 } : Room)) (fun args_ U => args_ = #[(.ref t)] ∧ Z.Warmed39 U.vm ∧ U.heap = h0) (fun _ _ _ _ _ => True) (fun _ U out_ U' => ∃ val_ loc_, out_ = .returned val_ ∧ (Q_rm_num Z t h0 n0) val_ U'.heap loc_ ∧ FrameEnd U out_ U' loc_ ({ frames := 1, cells := 0, slots := 0, locals := 12 } : Room).cells ({ frames := 1, cells := 0, slots := 0, locals := 12 } : Room).slots) := by
  refine start (Q := (Q_rm_num Z t h0 n0)) pn_0 ?_
  intro p e s m below meth c T0 X0 hx hby hml hown hnm hret hlk hZ e0
  replace hown : s.vm.findClass "java/lang/Number" = some m.cls := hown
  replace hml : c.maxLocals = 1 := hml
  refine goAt (ef_rm_num m t ) ?_
  have N0 := Fr.nil n0
  refine stp (fun _ => XS.aloadN X0.here hx rfl (hb hby d18_0) rfl rfl) ?_
  obtain ⟨T1, X1, e1, st1⟩ := initO X0 hx hZ hown (w_ hw (i := 133) rfl) (w_ hw (i := 15) rfl) (w_ hw (i := 16) rfl) e0 (g := (mkF m 1 #[(sR t)] [(.ref t)])) rfl (by rw [hml]; rfl) rfl (hb hby d18_1) (by decide) (W := 0) (by show 2 * 0 + _ ≤ _; exact Nat.le_of_eq rfl) (by decide)
  refine stp st1 ?_
  refine outV X1 hx hret (hb hby d18_4) hlk (by decide) (by decide) ?_
  exact ⟨rfl, N0, e1⟩
abbrev B23 : ByteArray := jdk_2097_method_25_code
theorem d23_0 : Dc B23 0 (.aload_n 0) 1 := by decide +kernel
theorem d23_1 : Dc B23 1 (.invokespecial 3) 3 := by decide +kernel
theorem pd_0 : parseMethodDescriptor "()V" = some ⟨[], none⟩ := by decide +kernel
theorem d23_4 : Dc B23 4 (.aload_n 0) 1 := by decide +kernel
theorem d23_5 : Dc B23 5 (.aload_n 1) 1 := by decide +kernel
theorem d23_6 : Dc B23 6 (.arraylength) 1 := by decide +kernel
theorem d23_7 : Dc B23 7 (.ifCond .ne 7) 3 := by decide +kernel
theorem d23_10 : Dc B23 10 (.iconst 0) 1 := by decide +kernel
theorem d23_11 : Dc B23 11 (.goto 4) 3 := by decide +kernel
theorem d23_15 : Dc B23 15 (.putfield 32) 3 := by decide +kernel
theorem d23_18 : Dc B23 18 (.aload_n 0) 1 := by decide +kernel
theorem d23_19 : Dc B23 19 (.aload_n 1) 1 := by decide +kernel
theorem d23_20 : Dc B23 20 (.putfield 28) 3 := by decide +kernel
theorem d23_23 : Dc B23 23 (.aload_n 0) 1 := by decide +kernel
theorem d23_24 : Dc B23 24 (.getfield 28) 3 := by decide +kernel
theorem d23_27 : Dc B23 27 (.arraylength) 1 := by decide +kernel
theorem d23_28 : Dc B23 28 (.ldc 43) 2 := by decide +kernel
theorem d23_30 : Dc B23 30 (.if_icmp .lt 7) 3 := by decide +kernel
theorem d23_37 : Dc B23 37 (.return_) 1 := by decide +kernel
theorem d23_14 : Dc B23 14 (.iload_n 2) 1 := by decide +kernel
theorem ef_rm_bia (m : MethodId) (t : Addr) (a : Addr)  : entryFrame m #[(.ref t), (.ref a), (.int (1 : Int32))] 3 = mkF m 0 #[(sR t), (sR a), (sI (1 : Int32))] [] := by first | (simp [entryFrame, mkF, argsToLocals, Value.category]; done) | rfl
def Q_rm_bia (Z : State) (t : Addr) (a : Addr) (n : Nat) (f : Nat → Int32) (N : Nat) (k_a : ClassId) (h0 : Heap) (n0 : Nat) (v : Option Value) (h : Heap) (L : List Loc) : Prop := v = none ∧ Fr n0 L ∧ Keep h0 h [t] ∧ BigOk Z h t N
theorem pn_1_ : plainName "java/math/BigInteger" = true := by first | (simp [plainName, overriddenIn]; done) | decide +kernel
theorem pn_1 : plainFor (⟨"java/math/BigInteger", "<init>", "([II)V"⟩ : MethodName) = true := plainFor_of_name pn_1_
set_option maxRecDepth 65536 in
set_option maxHeartbeats 40000000 in
theorem rm_bia (l : Launch) (Z : State) (a0 : Array Value) (hw : ∀ d ∈ tables_1, d.before a0 Z = true) (ws : List Jvm.Cond) (t : Addr) (a : Addr) (n : Nat) (f : Nat → Int32) (N : Nat) (k_a : ClassId) (h0 : Heap) (n0 : Nat) (O0 : Old Z n0 h0) (E_t : Exa Z h0 t "java/math/BigInteger") (F_t_signum : Fld Z h0 t "java/math/BigInteger" "signum" "I" (.int (0 : Int32))) (F_t_mag : Fld Z h0 t "java/math/BigInteger" "mag" "[I" .null) (V_a : Arf Z h0 a k_a .int n (fun i => (.int (f i)))) (ge_t : n0 ≤ t) (ne_a_t : a ≠ t) (hn : n ≤ 24) (hN : n ≤ N) :
    MetFree l (⟨"java/math/BigInteger", "<init>", "([II)V"⟩ : MethodName) (head1 (Jvm.Cond.code (⟨"java/math/BigInteger", "<init>", "([II)V"⟩ : MethodName) jdk_2097_method_25_code 3 none :: ws) ({ frames := 2, cells := 0, slots := 0, locals := 24 } : Room)) (fun args_ U => args_ = #[(.ref t), (.ref a), (.int (1 : Int32))] ∧ Z.Warmed39 U.vm ∧ U.heap = h0) (fun _ _ _ _ _ => True) (fun _ U out_ U' => ∃ val_ loc_, out_ = .returned val_ ∧ (Q_rm_bia Z t a n f N k_a h0 n0) val_ U'.heap loc_ ∧ FrameEnd U out_ U' loc_ ({ frames := 2, cells := 0, slots := 0, locals := 24 } : Room).cells ({ frames := 2, cells := 0, slots := 0, locals := 24 } : Room).slots) := by
  refine start (Q := (Q_rm_bia Z t a n f N k_a h0 n0)) pn_1 ?_
  intro p e s m below meth c T0 X0 hx hby hml hown hnm hret hlk hZ e0
  replace hown : s.vm.findClass "java/math/BigInteger" = some m.cls := hown
  replace hml : c.maxLocals = 3 := hml
  refine goAt (ef_rm_bia m t a ) ?_
  have N0 := Fr.nil n0
  refine stp (fun _ => XS.aloadN X0.here hx rfl (hb hby d23_0) rfl rfl) ?_
  obtain ⟨_, _, ⟨T1, L1, k1, n1⟩, -, X1, ⟨Lc1, hQ1, l1, y1, z1⟩, st1⟩ := X0.specialBack hx (y := (⟨"java/lang/Number", "<init>", "()V"⟩ : MethodName)) rfl hown (mvT hZ (w_ hw (i := 127) rfl)) (mvT hZ (w_ hw (i := 128) rfl)) (mvT hZ (w_ hw (i := 132) rfl)) (by decide) (backOf (W := 0) (rm_num l Z a0 hw [] t  h0 n0 O0 ) hZ (w_ hw (i := 132) rfl) (w_ hw (i := 131) rfl) (by decide) (by decide)) (g := (mkF m 1 #[(sR t), (sR a), (sI (1 : Int32))] [(.ref t)])) rfl (by rw [hml]; rfl) (Steps.refl _) (a := t) (argsL := []) (rest := []) (lenOf pd_0 rfl) rfl (by show 2 * 0 + _ ≤ _; exact Nat.le_of_eq rfl) (hb hby d23_1) (fun _ _ => ⟨rfl, e0, (by decide : 0 + 0 ≤ _), (by decide : 0 + 0 ≤ _)⟩)
  dsimp only [Pt.U, Pt.locs, Pt.cells, Pt.slots] at X1 l1 y1 z1 st1 hQ1
  subst y1 z1
  obtain ⟨rfl, N1q, e1⟩ := hQ1
  have N1 : Fr n0 L1 := by rw [l1]; exact Fr.app N0 N1q
  refine stt st1 ?_
  refine stp (fun _ => XS.aloadN X1.here hx rfl (hb hby d23_4) rfl rfl) ?_
  refine stp (fun _ => XS.aloadN X1.here hx rfl (hb hby d23_5) rfl rfl) ?_
  show Go p e below T1 (mkF m 6 #[(sR t), (sR a), (sI (1 : Int32))] [(.ref a), (.ref t)]) _
  obtain ⟨cl2, Ar2, -, S2, -, -⟩ := (id V_a)
  refine stp (fun _ => X1.arraylength hx (by rw [e1]; exact Ar2.1) (State.isArrayOf_alike hZ.alike Ar2.2.1) (g := (mkF m 6 #[(sR t), (sR a), (sI (1 : Int32))] [(.ref a), (.ref t)])) rfl rfl (hb hby d23_6) _) ?_
  rw [arf_len S2 (z := (Int32.ofNat n)) (own_nI (by omega))]
  by_cases q7_3 : (Int32.ofNat n) = 0
  rotate_left
  · refine stp (fun _ => XS.ifYes X1.here hx rfl (pc0 := 7) (pc' := 14) rfl (hb hby d23_7) rfl (XT.i0_ne_t q7_3) (by decide) (by decide)) ?_
    refine stp (fun _ => XS.iloadN X1.here hx rfl (hb hby d23_14) rfl) ?_
    obtain ⟨T17, h17, X17, e17, W17, st17⟩ := putF X1 hx hZ hown (host := "") (Or.inl (w_ hw (i := 134) rfl)) Via.refl e1 F_t_signum E_t (Or.inr ⟨(w_ hw (i := 135) rfl), rfl, hnm⟩) (w_ hw (i := 122) rfl) (ty := .int) (by decide) rfl rfl (g := (mkF m 15 #[(sR t), (sR a), (sI (1 : Int32))] [(.int (1 : Int32)), (.ref t)])) rfl rfl (hb hby d23_15)
    have Fw17 := F_t_signum.same W17
    have f18 := E_t.wr W17
    have f20 := F_t_mag.other W17 (Or.inr (slot_ne (Or.inr (w_ hw (i := 138) rfl)) (Or.inr (w_ hw (i := 135) rfl)) (by decide) (t := (.array .int)) (t' := .int) (by decide) (by decide)))
    have f21 := V_a.other W17 ne_a_t
    have K17 : Keep h0 h17 [t] := (Keep.refl h0 [t]).wr W17 (Or.inl (List.mem_of_getElem? (i := 0) rfl))
    have O17 := O0.wr W17 ge_t
    have N17 := Fr.snoc X17 N1 ge_t
    refine stp st17 ?_
    refine stp (fun _ => XS.aloadN X17.here hx rfl (hb hby d23_18) rfl rfl) ?_
    show Go p e below T17 (mkF m 19 #[(sR t), (sR a), (sI (1 : Int32))] [(.ref t)]) _
    refine stp (fun _ => XS.aloadN X17.here hx rfl (hb hby d23_19) rfl rfl) ?_
    obtain ⟨T22, h22, X22, e22, W22, st22⟩ := putF X17 hx hZ hown (host := "") (Or.inl (w_ hw (i := 137) rfl)) Via.refl e17 f20 f18 (Or.inr ⟨(w_ hw (i := 138) rfl), rfl, hnm⟩) (w_ hw (i := 122) rfl) (ty := (.array .int)) (by decide) rfl rfl (g := (mkF m 20 #[(sR t), (sR a), (sI (1 : Int32))] [(.ref a), (.ref t)])) rfl rfl (hb hby d23_20)
    have Fw22 := f20.same W22
    have f23 := f18.wr W22
    have f24 := Fw17.other W22 (Or.inr (slot_ne (Or.inr (w_ hw (i := 135) rfl)) (Or.inr (w_ hw (i := 138) rfl)) (by decide) (t := .int) (t' := (.array .int)) (by decide) (by decide)))
    have f26 := f21.other W22 ne_a_t
    have K22 : Keep h0 h22 [t] := K17.wr W22 (Or.inl (List.mem_of_getElem? (i := 0) rfl))
    have O22 := O17.wr W22 ge_t
    have N22 := Fr.snoc X22 N17 ge_t
    refine stp st22 ?_
    refine stp (fun _ => XS.aloadN X22.here hx rfl (hb hby d23_23) rfl rfl) ?_
    obtain ⟨T27, X27, e27, st27⟩ := getF X22 hx hZ hown (host := "") (Or.inl (w_ hw (i := 137) rfl)) Via.refl e22 Fw22 (g := (mkF m 24 #[(sR t), (sR a), (sI (1 : Int32))] [(.ref t)])) rfl rfl (hb hby d23_24)
    refine stp st27 ?_
    obtain ⟨cl28, Ar28, -, S28, -, -⟩ := (id f26)
    refine stp (fun _ => X27.arraylength hx (by rw [e27]; exact Ar28.1) (State.isArrayOf_alike hZ.alike Ar28.2.1) (g := (mkF m 27 #[(sR t), (sR a), (sI (1 : Int32))] [(.ref a)])) rfl rfl (hb hby d23_27) _) ?_
    rw [arf_len S28 (z := (Int32.ofNat n)) (own_nI (by omega))]
    show Go p e below T27 (mkF m 28 #[(sR t), (sR a), (sI (1 : Int32))] [(.int (Int32.ofNat n))]) _
    refine stp (fun _ => X27.ldcInt hx hown (mvT hZ (w_ hw (i := 165) rfl)) (g := (mkF m 28 #[(sR t), (sR a), (sI (1 : Int32))] [(.int (Int32.ofNat n))])) rfl (hb hby d23_28) _) ?_
    refine stp (fun _ => XS.icmpYes X27.here hx rfl (pc0 := 30) (pc' := 37) rfl (hb hby d23_30) rfl (XT.ii_lt_t (own_ltc (by omega))) (by decide) (by decide)) ?_
    show Go p e below T27 (mkF m 37 #[(sR t), (sR a), (sI (1 : Int32))] []) _
    have Q29 : BigOk Z h22 t N := ⟨a, k_a, n, f, _, f23, f24, Fw22, f26, hN, (by omega), Or.inr ⟨rfl, own_np (by omega) q7_3⟩⟩
    refine outV X27 hx hret (hb hby d23_37) hlk (by decide) (by decide) ?_
    rw [e27]
    exact ⟨rfl, N22, K22, Q29⟩
  refine stp (fun _ => XS.ifNo X1.here hx rfl (hb hby d23_7) rfl (XT.i0_ne_f q7_3)) ?_
  refine stp (fun _ => XS.iconst X1.here hx rfl (hb hby d23_10)) ?_
  refine stp (fun _ => XS.goto X1.here hx rfl (pc0 := 11) (pc' := 15) rfl (hb hby d23_11) (by decide) (by decide)) ?_
  obtain ⟨T4, h4, X4, e4, W4, st4⟩ := putF X1 hx hZ hown (host := "") (Or.inl (w_ hw (i := 134) rfl)) Via.refl e1 F_t_signum E_t (Or.inr ⟨(w_ hw (i := 135) rfl), rfl, hnm⟩) (w_ hw (i := 122) rfl) (ty := .int) (by decide) rfl rfl (g := (mkF m 15 #[(sR t), (sR a), (sI (1 : Int32))] [(.int (0 : Int32)), (.ref t)])) rfl rfl (hb hby d23_15)
  have Fw4 := F_t_signum.same W4
  have f5 := E_t.wr W4
  have f7 := F_t_mag.other W4 (Or.inr (slot_ne (Or.inr (w_ hw (i := 138) rfl)) (Or.inr (w_ hw (i := 135) rfl)) (by decide) (t := (.array .int)) (t' := .int) (by decide) (by decide)))
  have f8 := V_a.other W4 ne_a_t
  have K4 : Keep h0 h4 [t] := (Keep.refl h0 [t]).wr W4 (Or.inl (List.mem_of_getElem? (i := 0) rfl))
  have O4 := O0.wr W4 ge_t
  have N4 := Fr.snoc X4 N1 ge_t
  refine stp st4 ?_
  show Go p e below T4 (mkF m 18 #[(sR t), (sR a), (sI (1 : Int32))] []) _
  refine stp (fun _ => XS.aloadN X4.here hx rfl (hb hby d23_18) rfl rfl) ?_
  refine stp (fun _ => XS.aloadN X4.here hx rfl (hb hby d23_19) rfl rfl) ?_
  obtain ⟨T9, h9, X9, e9, W9, st9⟩ := putF X4 hx hZ hown (host := "") (Or.inl (w_ hw (i := 137) rfl)) Via.refl e4 f7 f5 (Or.inr ⟨(w_ hw (i := 138) rfl), rfl, hnm⟩) (w_ hw (i := 122) rfl) (ty := (.array .int)) (by decide) rfl rfl (g := (mkF m 20 #[(sR t), (sR a), (sI (1 : Int32))] [(.ref a), (.ref t)])) rfl rfl (hb hby d23_20)
  have Fw9 := f7.same W9
  have f10 := f5.wr W9
  have f11 := Fw4.other W9 (Or.inr (slot_ne (Or.inr (w_ hw (i := 135) rfl)) (Or.inr (w_ hw (i := 138) rfl)) (by decide) (t := .int) (t' := (.array .int)) (by decide) (by decide)))
  have f13 := f8.other W9 ne_a_t
  have K9 : Keep h0 h9 [t] := K4.wr W9 (Or.inl (List.mem_of_getElem? (i := 0) rfl))
  have O9 := O4.wr W9 ge_t
  have N9 := Fr.snoc X9 N4 ge_t
  refine stp st9 ?_
  refine stp (fun _ => XS.aloadN X9.here hx rfl (hb hby d23_23) rfl rfl) ?_
  obtain ⟨T14, X14, e14, st14⟩ := getF X9 hx hZ hown (host := "") (Or.inl (w_ hw (i := 137) rfl)) Via.refl e9 Fw9 (g := (mkF m 24 #[(sR t), (sR a), (sI (1 : Int32))] [(.ref t)])) rfl rfl (hb hby d23_24)
  refine stp st14 ?_
  show Go p e below T14 (mkF m 27 #[(sR t), (sR a), (sI (1 : Int32))] [(.ref a)]) _
  obtain ⟨cl15, Ar15, -, S15, -, -⟩ := (id f13)
  refine stp (fun _ => X14.arraylength hx (by rw [e14]; exact Ar15.1) (State.isArrayOf_alike hZ.alike Ar15.2.1) (g := (mkF m 27 #[(sR t), (sR a), (sI (1 : Int32))] [(.ref a)])) rfl rfl (hb hby d23_27) _) ?_
  rw [arf_len S15 (z := (Int32.ofNat n)) (own_nI (by omega))]
  refine stp (fun _ => X14.ldcInt hx hown (mvT hZ (w_ hw (i := 165) rfl)) (g := (mkF m 28 #[(sR t), (sR a), (sI (1 : Int32))] [(.int (Int32.ofNat n))])) rfl (hb hby d23_28) _) ?_
  refine stp (fun _ => XS.icmpYes X14.here hx rfl (pc0 := 30) (pc' := 37) rfl (hb hby d23_30) rfl (XT.ii_lt_t (own_ltc (by omega))) (by decide) (by decide)) ?_
  show Go p e below T14 (mkF m 37 #[(sR t), (sR a), (sI (1 : Int32))] []) _
  have Q16 : BigOk Z h9 t N := ⟨a, k_a, n, f, _, f10, f11, Fw9, f13, hN, (by omega), Or.inl ⟨rfl, own_n0 (by omega) q7_3⟩⟩
  refine outV X14 hx hret (hb hby d23_37) hlk (by decide) (by decide) ?_
  rw [e14]
  exact ⟨rfl, N9, K9, Q16⟩
abbrev B17 : ByteArray := jdk_2097_method_30_code
theorem d17_0 : Dc B17 0 (.aload_n 0) 1 := by decide +kernel
theorem d17_1 : Dc B17 1 (.invokespecial 3) 3 := by decide +kernel
theorem d17_4 : Dc B17 4 (.lload_n 1) 1 := by decide +kernel
theorem d17_5 : Dc B17 5 (.lconst 0) 1 := by decide +kernel
theorem d17_6 : Dc B17 6 (.lcmp) 1 := by decide +kernel
theorem d17_7 : Dc B17 7 (.ifCond .ge 14) 3 := by decide +kernel
theorem d17_21 : Dc B17 21 (.aload_n 0) 1 := by decide +kernel
theorem d17_22 : Dc B17 22 (.iconst 1) 1 := by decide +kernel
theorem d17_23 : Dc B17 23 (.putfield 32) 3 := by decide +kernel
theorem d17_26 : Dc B17 26 (.lload_n 1) 1 := by decide +kernel
theorem d17_27 : Dc B17 27 (.bipush 32) 2 := by decide +kernel
theorem d17_29 : Dc B17 29 (.lushr) 1 := by decide +kernel
theorem d17_30 : Dc B17 30 (.l2i) 1 := by decide +kernel
theorem d17_31 : Dc B17 31 (.istore_n 3) 1 := by decide +kernel
theorem d17_32 : Dc B17 32 (.iload_n 3) 1 := by decide +kernel
theorem d17_33 : Dc B17 33 (.ifCond .ne 21) 3 := by decide +kernel
theorem d17_36 : Dc B17 36 (.aload_n 0) 1 := by decide +kernel
theorem d17_37 : Dc B17 37 (.iconst 1) 1 := by decide +kernel
theorem d17_38 : Dc B17 38 (.newarray .int) 2 := by decide +kernel
theorem d17_40 : Dc B17 40 (.putfield 28) 3 := by decide +kernel
theorem d17_43 : Dc B17 43 (.aload_n 0) 1 := by decide +kernel
theorem d17_44 : Dc B17 44 (.getfield 28) 3 := by decide +kernel
theorem d17_47 : Dc B17 47 (.iconst 0) 1 := by decide +kernel
theorem d17_48 : Dc B17 48 (.lload_n 1) 1 := by decide +kernel
theorem d17_49 : Dc B17 49 (.l2i) 1 := by decide +kernel
theorem d17_50 : Dc B17 50 (.iastore) 1 := by decide +kernel
theorem d17_51 : Dc B17 51 (.goto 25) 3 := by decide +kernel
theorem d17_76 : Dc B17 76 (.return_) 1 := by decide +kernel
theorem d17_54 : Dc B17 54 (.aload_n 0) 1 := by decide +kernel
theorem d17_55 : Dc B17 55 (.iconst 2) 1 := by decide +kernel
theorem d17_56 : Dc B17 56 (.newarray .int) 2 := by decide +kernel
theorem d17_58 : Dc B17 58 (.putfield 28) 3 := by decide +kernel
theorem d17_61 : Dc B17 61 (.aload_n 0) 1 := by decide +kernel
theorem d17_62 : Dc B17 62 (.getfield 28) 3 := by decide +kernel
theorem d17_65 : Dc B17 65 (.iconst 0) 1 := by decide +kernel
theorem d17_66 : Dc B17 66 (.iload_n 3) 1 := by decide +kernel
theorem d17_67 : Dc B17 67 (.iastore) 1 := by decide +kernel
theorem d17_68 : Dc B17 68 (.aload_n 0) 1 := by decide +kernel
theorem d17_69 : Dc B17 69 (.getfield 28) 3 := by decide +kernel
theorem d17_72 : Dc B17 72 (.iconst 1) 1 := by decide +kernel
theorem d17_73 : Dc B17 73 (.lload_n 1) 1 := by decide +kernel
theorem d17_74 : Dc B17 74 (.l2i) 1 := by decide +kernel
theorem d17_75 : Dc B17 75 (.iastore) 1 := by decide +kernel
theorem ef_rm_bil (m : MethodId) (t : Addr) (q : Int64)  : entryFrame m #[(.ref t), (.long q)] 4 = mkF m 0 #[(sR t), (sJ q), .second, .unset] [] := by first | (simp [entryFrame, mkF, argsToLocals, Value.category]; done) | rfl
def Q_rm_bil (Z : State) (t : Addr) (q : Int64)  (h0 : Heap) (n0 : Nat) (v : Option Value) (h : Heap) (L : List Loc) : Prop := v = none ∧ Fr n0 L ∧ Keep h0 h [t] ∧ BigOk Z h t 2
theorem pn_2_ : plainName "java/math/BigInteger" = true := by first | (simp [plainName, overriddenIn]; done) | decide +kernel
theorem pn_2 : plainFor (⟨"java/math/BigInteger", "<init>", "(J)V"⟩ : MethodName) = true := plainFor_of_name pn_2_
set_option maxRecDepth 65536 in
set_option maxHeartbeats 40000000 in
theorem rm_bil (l : Launch) (Z : State) (a0 : Array Value) (hw : ∀ d ∈ tables_1, d.before a0 Z = true) (ws : List Jvm.Cond) (t : Addr) (q : Int64)  (h0 : Heap) (n0 : Nat) (O0 : Old Z n0 h0) (E_t : Exa Z h0 t "java/math/BigInteger") (F_t_signum : Fld Z h0 t "java/math/BigInteger" "signum" "I" (.int (0 : Int32))) (F_t_mag : Fld Z h0 t "java/math/BigInteger" "mag" "[I" .null) (ge_t : n0 ≤ t) (hq : ¬ q < (0 : Int64)) :
    MetFree l (⟨"java/math/BigInteger", "<init>", "(J)V"⟩ : MethodName) (head1 (Jvm.Cond.code (⟨"java/math/BigInteger", "<init>", "(J)V"⟩ : MethodName) jdk_2097_method_30_code 4 none :: ws) ({ frames := 2, cells := 1, slots := 2, locals := 24 } : Room)) (fun args_ U => args_ = #[(.ref t), (.long q)] ∧ Z.Warmed39 U.vm ∧ U.heap = h0) (fun _ _ _ _ _ => True) (fun _ U out_ U' => ∃ val_ loc_, out_ = .returned val_ ∧ (Q_rm_bil Z t q h0 n0) val_ U'.heap loc_ ∧ FrameEnd U out_ U' loc_ ({ frames := 2, cells := 1, slots := 2, locals := 24 } : Room).cells ({ frames := 2, cells := 1, slots := 2, locals := 24 } : Room).slots) := by
  refine start (Q := (Q_rm_bil Z t q h0 n0)) pn_2 ?_
  intro p e s m below meth c T0 X0 hx hby hml hown hnm hret hlk hZ e0
  replace hown : s.vm.findClass "java/math/BigInteger" = some m.cls := hown
  replace hml : c.maxLocals = 4 := hml
  refine goAt (ef_rm_bil m t q ) ?_
  have N0 := Fr.nil n0
  refine stp (fun _ => XS.aloadN X0.here hx rfl (hb hby d17_0) rfl rfl) ?_
  obtain ⟨_, _, ⟨T1, L1, k1, n1⟩, -, X1, ⟨Lc1, hQ1, l1, y1, z1⟩, st1⟩ := X0.specialBack hx (y := (⟨"java/lang/Number", "<init>", "()V"⟩ : MethodName)) rfl hown (mvT hZ (w_ hw (i := 127) rfl)) (mvT hZ (w_ hw (i := 128) rfl)) (mvT hZ (w_ hw (i := 132) rfl)) (by decide) (backOf (W := 0) (rm_num l Z a0 hw [] t  h0 n0 O0 ) hZ (w_ hw (i := 132) rfl) (w_ hw (i := 131) rfl) (by decide) (by decide)) (g := (mkF m 1 #[(sR t), (sJ q), .second, .unset] [(.ref t)])) rfl (by rw [hml]; rfl) (Steps.refl _) (a := t) (argsL := []) (rest := []) (lenOf pd_0 rfl) rfl (by show 2 * 0 + _ ≤ _; exact Nat.le_of_eq rfl) (hb hby d17_1) (fun _ _ => ⟨rfl, e0, (by decide : 0 + 0 ≤ _), (by decide : 0 + 0 ≤ _)⟩)
  dsimp only [Pt.U, Pt.locs, Pt.cells, Pt.slots] at X1 l1 y1 z1 st1 hQ1
  subst y1 z1
  obtain ⟨rfl, N1q, e1⟩ := hQ1
  have N1 : Fr n0 L1 := by rw [l1]; exact Fr.app N0 N1q
  refine stt st1 ?_
  refine stp (fun _ => XS.lloadN X1.here hx rfl (hb hby d17_4) rfl) ?_
  refine stp (fun _ => XS.lconst X1.here hx rfl (hb hby d17_5)) ?_
  show Go p e below T1 (mkF m 6 #[(sR t), (sJ q), .second, .unset] [(.long (0 : Int64)), (.long q)]) _
  refine stp (fun _ => XS.lcmp X1.here hx rfl (hb hby d17_6) rfl) ?_
  refine stp (fun _ => XS.ifYes X1.here hx rfl (pc0 := 7) (pc' := 21) rfl (hb hby d17_7) rfl (XT.ll_ge_t hq) (by decide) (by decide)) ?_
  refine stp (fun _ => XS.aloadN X1.here hx rfl (hb hby d17_21) rfl rfl) ?_
  refine stp (fun _ => XS.iconst X1.here hx rfl (hb hby d17_22)) ?_
  obtain ⟨T2, h2, X2, e2, W2, st2⟩ := putF X1 hx hZ hown (host := "") (Or.inl (w_ hw (i := 134) rfl)) Via.refl e1 F_t_signum E_t (Or.inr ⟨(w_ hw (i := 135) rfl), rfl, hnm⟩) (w_ hw (i := 122) rfl) (ty := .int) (by decide) rfl rfl (g := (mkF m 23 #[(sR t), (sJ q), .second, .unset] [(.int (1 : Int32)), (.ref t)])) rfl rfl (hb hby d17_23)
  have Fw2 := F_t_signum.same W2
  have f3 := E_t.wr W2
  have f5 := F_t_mag.other W2 (Or.inr (slot_ne (Or.inr (w_ hw (i := 138) rfl)) (Or.inr (w_ hw (i := 135) rfl)) (by decide) (t := (.array .int)) (t' := .int) (by decide) (by decide)))
  have K2 : Keep h0 h2 [t] := (Keep.refl h0 [t]).wr W2 (Or.inl (List.mem_of_getElem? (i := 0) rfl))
  have O2 := O0.wr W2 ge_t
  have N2 := Fr.snoc X2 N1 ge_t
  refine stp st2 ?_
  show Go p e below T2 (mkF m 26 #[(sR t), (sJ q), .second, .unset] []) _
  refine stp (fun _ => XS.lloadN X2.here hx rfl (hb hby d17_26) rfl) ?_
  refine stp (fun _ => XS.bipush X2.here hx rfl (hb hby d17_27)) ?_
  refine stp (fun _ => XS.lushr X2.here hx rfl (hb hby d17_29) rfl) ?_
  refine stp (fun _ => XS.l2i X2.here hx rfl (hb hby d17_30) rfl) ?_
  refine stp (fun _ => XS.istoreN X2.here hx rfl (hb hby d17_31) rfl (l' := #[(sR t), (sJ q), .second, (sI (((q.toUInt64 >>> ((32 : Int32) &&& 0x3f).toInt64.toUInt64).toInt64).toInt32))]) rfl) ?_
  show Go p e below T2 (mkF m 32 #[(sR t), (sJ q), .second, (sI (((q.toUInt64 >>> ((32 : Int32) &&& 0x3f).toInt64.toUInt64).toInt64).toInt32))] []) _
  refine stp (fun _ => XS.iloadN X2.here hx rfl (hb hby d17_32) rfl) ?_
  by_cases q33_6 : (((q.toUInt64 >>> ((32 : Int32) &&& 0x3f).toInt64.toUInt64).toInt64).toInt32) = 0
  · refine stp (fun _ => XS.ifNo X2.here hx rfl (hb hby d17_33) rfl (XT.i0_ne_f q33_6)) ?_
    refine stp (fun _ => XS.aloadN X2.here hx rfl (hb hby d17_36) rfl rfl) ?_
    refine stp (fun _ => XS.iconst X2.here hx rfl (hb hby d17_37)) ?_
    obtain ⟨T7, h7, k7, X7, e7, E7, A7, B7, st7⟩ := newPE X2 hx hZ (w_ hw (i := 136) rfl) e2 (g := (mkF m 38 #[(sR t), (sJ q), .second, (sI (((q.toUInt64 >>> ((32 : Int32) &&& 0x3f).toInt64.toUInt64).toInt64).toInt32))] [(.int (1 : Int32)), (.ref t)])) rfl (hb hby d17_38) rfl (by decide) (cap := 1) (by decide) (by decide) (by decide) (by decide) (ad := "[I") (by decide)
    obtain ⟨b7, g7⟩ : ∃ z, z = h2.size := ⟨_, rfl⟩
    rw [← g7] at A7 B7 st7
    have ne8 : t ≠ b7 := Nat.ne_of_lt (Nat.lt_of_lt_of_le f3.lt (Nat.le_of_eq g7.symm))
    have sz_b7 : h0.size ≤ b7 := Nat.le_trans K2.1 (Nat.le_of_eq g7.symm)
    have ge_b7 : n0 ≤ b7 := Nat.le_trans (old_le O2) (Nat.le_of_eq g7.symm)
    have f9 := f3.ext E7
    have f10 := Fw2.ext E7
    have f11 := f5.ext E7
    have K7 : Keep h0 h7 [t] := K2.ext E7
    have O7 := O2.ext E7
    have V7 : Arv Z h7 b7 k7 .int (1 : Int32) [(.int (0 : Int32))] (.int (0 : Int32)) := (Arv.new A7 (by decide)).pad (pad_rep [] (.int (0 : Int32)) 1)
    refine stp st7 ?_
    show Go p e below T7 (mkF m 40 #[(sR t), (sJ q), .second, (sI (((q.toUInt64 >>> ((32 : Int32) &&& 0x3f).toInt64.toUInt64).toInt64).toInt32))] [(.ref b7), (.ref t)]) _
    obtain ⟨T12, h12, X12, e12, W12, st12⟩ := putF X7 hx hZ hown (host := "") (Or.inl (w_ hw (i := 137) rfl)) Via.refl e7 f11 f9 (Or.inr ⟨(w_ hw (i := 138) rfl), rfl, hnm⟩) (w_ hw (i := 122) rfl) (ty := (.array .int)) (by decide) rfl rfl (g := (mkF m 40 #[(sR t), (sJ q), .second, (sI (((q.toUInt64 >>> ((32 : Int32) &&& 0x3f).toInt64.toUInt64).toInt64).toInt32))] [(.ref b7), (.ref t)])) rfl rfl (hb hby d17_40)
    have Fw12 := f11.same W12
    have f13 := f9.wr W12
    have f14 := f10.other W12 (Or.inr (slot_ne (Or.inr (w_ hw (i := 135) rfl)) (Or.inr (w_ hw (i := 138) rfl)) (by decide) (t := .int) (t' := (.array .int)) (by decide) (by decide)))
    have f16 := B7.wr W12
    have f17 := V7.other W12 (Ne.symm ne8)
    have K12 : Keep h0 h12 [t] := K7.wr W12 (Or.inl (List.mem_of_getElem? (i := 0) rfl))
    have O12 := O7.wr W12 ge_t
    have N12 := Fr.snoc X12 N2 ge_t
    refine stp st12 ?_
    refine stp (fun _ => XS.aloadN X12.here hx rfl (hb hby d17_43) rfl rfl) ?_
    obtain ⟨T18, X18, e18, st18⟩ := getF X12 hx hZ hown (host := "") (Or.inl (w_ hw (i := 137) rfl)) Via.refl e12 Fw12 (g := (mkF m 44 #[(sR t), (sJ q), .second, (sI (((q.toUInt64 >>> ((32 : Int32) &&& 0x3f).toInt64.toUInt64).toInt64).toInt32))] [(.ref t)])) rfl rfl (hb hby d17_44)
    refine stp st18 ?_
    refine stp (fun _ => XS.iconst X18.here hx rfl (hb hby d17_47)) ?_
    refine stp (fun _ => XS.lloadN X18.here hx rfl (hb hby d17_48) rfl) ?_
    show Go p e below T18 (mkF m 49 #[(sR t), (sJ q), .second, (sI (((q.toUInt64 >>> ((32 : Int32) &&& 0x3f).toInt64.toUInt64).toInt64).toInt32))] [(.long q), (.int (0 : Int32)), (.ref b7)]) _
    refine stp (fun _ => XS.l2i X18.here hx rfl (hb hby d17_49) rfl) ?_
    obtain ⟨cl19, Ar19, q19, S19, M19, H19, G19⟩ := (id f17)
    have in19 : ¬ ((0 : Int32) < 0 ∨ cl19.slots.size ≤ ((0 : Int32)).toNatClampNeg) := inb_of S19 ⟨by decide, by decide⟩
    obtain ⟨T19, h19, X19, e19, W19, st19⟩ := stI X18 hx hZ e18 Ar19 (j := (0 : Int32)) in19 (g := (mkF m 50 #[(sR t), (sJ q), .second, (sI (((q.toUInt64 >>> ((32 : Int32) &&& 0x3f).toInt64.toUInt64).toInt64).toInt32))] [(.int (q.toInt32)), (.int (0 : Int32)), (.ref b7)])) rfl rfl (hb hby d17_50)
    have V19 : Arv Z h19 b7 k7 .int (1 : Int32) [(.int (q.toInt32))] (.int (0 : Int32)) := Arv.set Ar19 q19 S19 M19 H19 G19 rfl W19 0 rfl (Nat.le_of_ble_eq_true rfl)
    have f20 := f13.wr W19
    have f21 := f14.other W19 (Or.inl ne8)
    have f22 := Fw12.other W19 (Or.inl ne8)
    have f23 := f16.wr W19
    have K19 : Keep h0 h19 [t] := K12.wr W19 (Or.inr sz_b7)
    have O19 := O12.wr W19 ge_b7
    have N19 := Fr.snoc X19 N12 ge_b7
    refine stp st19 ?_
    refine stp (fun _ => XS.goto X19.here hx rfl (pc0 := 51) (pc' := 76) rfl (hb hby d17_51) (by decide) (by decide)) ?_
    show Go p e below T19 (mkF m 76 #[(sR t), (sJ q), .second, (sI (((q.toUInt64 >>> ((32 : Int32) &&& 0x3f).toInt64.toUInt64).toInt64).toInt32))] []) _
    obtain ⟨gb, Gb⟩ := (Arv.arf (n := 1) V19 (by decide)).ints
    have Q25 : BigOk Z h19 t 2 := ⟨b7, k7, 1, gb, _, f20, f21, f22, Gb, by decide, by decide, Or.inr ⟨rfl, by decide⟩⟩
    refine outV X19 hx hret (hb hby d17_76) hlk (by decide) (by decide) ?_
    rw [e19]
    exact ⟨rfl, N19, K19, Q25⟩
  refine stp (fun _ => XS.ifYes X2.here hx rfl (pc0 := 33) (pc' := 54) rfl (hb hby d17_33) rfl (XT.i0_ne_t q33_6) (by decide) (by decide)) ?_
  refine stp (fun _ => XS.aloadN X2.here hx rfl (hb hby d17_54) rfl rfl) ?_
  refine stp (fun _ => XS.iconst X2.here hx rfl (hb hby d17_55)) ?_
  obtain ⟨T26, h26, k26, X26, e26, E26, A26, B26, st26⟩ := newPE X2 hx hZ (w_ hw (i := 136) rfl) e2 (g := (mkF m 56 #[(sR t), (sJ q), .second, (sI (((q.toUInt64 >>> ((32 : Int32) &&& 0x3f).toInt64.toUInt64).toInt64).toInt32))] [(.int (2 : Int32)), (.ref t)])) rfl (hb hby d17_56) rfl (by decide) (cap := 2) (by decide) (by decide) (by decide) (by decide) (ad := "[I") (by decide)
  obtain ⟨b26, g26⟩ : ∃ z, z = h2.size := ⟨_, rfl⟩
  rw [← g26] at A26 B26 st26
  have ne27 : t ≠ b26 := Nat.ne_of_lt (Nat.lt_of_lt_of_le f3.lt (Nat.le_of_eq g26.symm))
  have sz_b26 : h0.size ≤ b26 := Nat.le_trans K2.1 (Nat.le_of_eq g26.symm)
  have ge_b26 : n0 ≤ b26 := Nat.le_trans (old_le O2) (Nat.le_of_eq g26.symm)
  have f28 := f3.ext E26
  have f29 := Fw2.ext E26
  have f30 := f5.ext E26
  have K26 : Keep h0 h26 [t] := K2.ext E26
  have O26 := O2.ext E26
  have V26 : Arv Z h26 b26 k26 .int (2 : Int32) [(.int (0 : Int32)), (.int (0 : Int32))] (.int (0 : Int32)) := (Arv.new A26 (by decide)).pad (pad_rep [] (.int (0 : Int32)) 2)
  refine stp st26 ?_
  show Go p e below T26 (mkF m 58 #[(sR t), (sJ q), .second, (sI (((q.toUInt64 >>> ((32 : Int32) &&& 0x3f).toInt64.toUInt64).toInt64).toInt32))] [(.ref b26), (.ref t)]) _
  obtain ⟨T31, h31, X31, e31, W31, st31⟩ := putF X26 hx hZ hown (host := "") (Or.inl (w_ hw (i := 137) rfl)) Via.refl e26 f30 f28 (Or.inr ⟨(w_ hw (i := 138) rfl), rfl, hnm⟩) (w_ hw (i := 122) rfl) (ty := (.array .int)) (by decide) rfl rfl (g := (mkF m 58 #[(sR t), (sJ q), .second, (sI (((q.toUInt64 >>> ((32 : Int32) &&& 0x3f).toInt64.toUInt64).toInt64).toInt32))] [(.ref b26), (.ref t)])) rfl rfl (hb hby d17_58)
  have Fw31 := f30.same W31
  have f32 := f28.wr W31
  have f33 := f29.other W31 (Or.inr (slot_ne (Or.inr (w_ hw (i := 135) rfl)) (Or.inr (w_ hw (i := 138) rfl)) (by decide) (t := .int) (t' := (.array .int)) (by decide) (by decide)))
  have f35 := B26.wr W31
  have f36 := V26.other W31 (Ne.symm ne27)
  have K31 : Keep h0 h31 [t] := K26.wr W31 (Or.inl (List.mem_of_getElem? (i := 0) rfl))
  have O31 := O26.wr W31 ge_t
  have N31 := Fr.snoc X31 N2 ge_t
  refine stp st31 ?_
  refine stp (fun _ => XS.aloadN X31.here hx rfl (hb hby d17_61) rfl rfl) ?_
  obtain ⟨T37, X37, e37, st37⟩ := getF X31 hx hZ hown (host := "") (Or.inl (w_ hw (i := 137) rfl)) Via.refl e31 Fw31 (g := (mkF m 62 #[(sR t), (sJ q), .second, (sI (((q.toUInt64 >>> ((32 : Int32) &&& 0x3f).toInt64.toUInt64).toInt64).toInt32))] [(.ref t)])) rfl rfl (hb hby d17_62)
  refine stp st37 ?_
  refine stp (fun _ => XS.iconst X37.here hx rfl (hb hby d17_65)) ?_
  refine stp (fun _ => XS.iloadN X37.here hx rfl (hb hby d17_66) rfl) ?_
  show Go p e below T37 (mkF m 67 #[(sR t), (sJ q), .second, (sI (((q.toUInt64 >>> ((32 : Int32) &&& 0x3f).toInt64.toUInt64).toInt64).toInt32))] [(.int (((q.toUInt64 >>> ((32 : Int32) &&& 0x3f).toInt64.toUInt64).toInt64).toInt32)), (.int (0 : Int32)), (.ref b26)]) _
  obtain ⟨cl38, Ar38, q38, S38, M38, H38, G38⟩ := (id f36)
  have in38 : ¬ ((0 : Int32) < 0 ∨ cl38.slots.size ≤ ((0 : Int32)).toNatClampNeg) := inb_of S38 ⟨by decide, by decide⟩
  obtain ⟨T38, h38, X38, e38, W38, st38⟩ := stI X37 hx hZ e37 Ar38 (j := (0 : Int32)) in38 (g := (mkF m 67 #[(sR t), (sJ q), .second, (sI (((q.toUInt64 >>> ((32 : Int32) &&& 0x3f).toInt64.toUInt64).toInt64).toInt32))] [(.int (((q.toUInt64 >>> ((32 : Int32) &&& 0x3f).toInt64.toUInt64).toInt64).toInt32)), (.int (0 : Int32)), (.ref b26)])) rfl rfl (hb hby d17_67)
  have V38 : Arv Z h38 b26 k26 .int (2 : Int32) [(.int (((q.toUInt64 >>> ((32 : Int32) &&& 0x3f).toInt64.toUInt64).toInt64).toInt32)), (.int (0 : Int32))] (.int (0 : Int32)) := Arv.set Ar38 q38 S38 M38 H38 G38 rfl W38 0 rfl (Nat.le_of_ble_eq_true rfl)
  have f39 := f32.wr W38
  have f40 := f33.other W38 (Or.inl ne27)
  have f41 := Fw31.other W38 (Or.inl ne27)
  have f42 := f35.wr W38
  have K38 : Keep h0 h38 [t] := K31.wr W38 (Or.inr sz_b26)
  have O38 := O31.wr W38 ge_b26
  have N38 := Fr.snoc X38 N31 ge_b26
  refine stp st38 ?_
  refine stp (fun _ => XS.aloadN X38.here hx rfl (hb hby d17_68) rfl rfl) ?_
  obtain ⟨T44, X44, e44, st44⟩ := getF X38 hx hZ hown (host := "") (Or.inl (w_ hw (i := 137) rfl)) Via.refl e38 f41 (g := (mkF m 69 #[(sR t), (sJ q), .second, (sI (((q.toUInt64 >>> ((32 : Int32) &&& 0x3f).toInt64.toUInt64).toInt64).toInt32))] [(.ref t)])) rfl rfl (hb hby d17_69)
  refine stp st44 ?_
  refine stp (fun _ => XS.iconst X44.here hx rfl (hb hby d17_72)) ?_
  refine stp (fun _ => XS.lloadN X44.here hx rfl (hb hby d17_73) rfl) ?_
  show Go p e below T44 (mkF m 74 #[(sR t), (sJ q), .second, (sI (((q.toUInt64 >>> ((32 : Int32) &&& 0x3f).toInt64.toUInt64).toInt64).toInt32))] [(.long q), (.int (1 : Int32)), (.ref b26)]) _
  refine stp (fun _ => XS.l2i X44.here hx rfl (hb hby d17_74) rfl) ?_
  obtain ⟨cl45, Ar45, q45, S45, M45, H45, G45⟩ := (id V38)
  have in45 : ¬ ((1 : Int32) < 0 ∨ cl45.slots.size ≤ ((1 : Int32)).toNatClampNeg) := inb_of S45 ⟨by decide, by decide⟩
  obtain ⟨T45, h45, X45, e45, W45, st45⟩ := stI X44 hx hZ e44 Ar45 (j := (1 : Int32)) in45 (g := (mkF m 75 #[(sR t), (sJ q), .second, (sI (((q.toUInt64 >>> ((32 : Int32) &&& 0x3f).toInt64.toUInt64).toInt64).toInt32))] [(.int (q.toInt32)), (.int (1 : Int32)), (.ref b26)])) rfl rfl (hb hby d17_75)
  have V45 : Arv Z h45 b26 k26 .int (2 : Int32) [(.int (((q.toUInt64 >>> ((32 : Int32) &&& 0x3f).toInt64.toUInt64).toInt64).toInt32)), (.int (q.toInt32))] (.int (0 : Int32)) := Arv.set Ar45 q45 S45 M45 H45 G45 rfl W45 1 rfl (Nat.le_of_ble_eq_true rfl)
  have f46 := f39.wr W45
  have f47 := f40.other W45 (Or.inl ne27)
  have f48 := f41.other W45 (Or.inl ne27)
  have f49 := f42.wr W45
  have K45 : Keep h0 h45 [t] := K38.wr W45 (Or.inr sz_b26)
  have O45 := O38.wr W45 ge_b26
  have N45 := Fr.snoc X45 N38 ge_b26
  refine stp st45 ?_
  show Go p e below T45 (mkF m 76 #[(sR t), (sJ q), .second, (sI (((q.toUInt64 >>> ((32 : Int32) &&& 0x3f).toInt64.toUInt64).toInt64).toInt32))] []) _
  obtain ⟨gb, Gb⟩ := (Arv.arf (n := 2) V45 (by decide)).ints
  have Q51 : BigOk Z h45 t 2 := ⟨b26, k26, 2, gb, _, f46, f47, f48, Gb, by decide, by decide, Or.inr ⟨rfl, by decide⟩⟩
  refine outV X45 hx hret (hb hby d17_76) hlk (by decide) (by decide) ?_
  rw [e45]
  exact ⟨rfl, N45, K45, Q51⟩
abbrev B22 : ByteArray := jdk_33_method_49_code
theorem d22_0 : Dc B22 0 (.iload_n 0) 1 := by decide +kernel
theorem d22_1 : Dc B22 1 (.iload_n 0) 1 := by decide +kernel
theorem d22_2 : Dc B22 2 (.iconst 1) 1 := by decide +kernel
theorem d22_3 : Dc B22 3 (.iushr) 1 := by decide +kernel
theorem d22_4 : Dc B22 4 (.ldc_w 265) 3 := by decide +kernel
theorem d22_7 : Dc B22 7 (.iand) 1 := by decide +kernel
theorem d22_8 : Dc B22 8 (.isub) 1 := by decide +kernel
theorem d22_9 : Dc B22 9 (.istore_n 0) 1 := by decide +kernel
theorem d22_10 : Dc B22 10 (.iload_n 0) 1 := by decide +kernel
theorem d22_11 : Dc B22 11 (.ldc_w 266) 3 := by decide +kernel
theorem d22_14 : Dc B22 14 (.iand) 1 := by decide +kernel
theorem d22_15 : Dc B22 15 (.iload_n 0) 1 := by decide +kernel
theorem d22_16 : Dc B22 16 (.iconst 2) 1 := by decide +kernel
theorem d22_17 : Dc B22 17 (.iushr) 1 := by decide +kernel
theorem d22_18 : Dc B22 18 (.ldc_w 266) 3 := by decide +kernel
theorem d22_21 : Dc B22 21 (.iand) 1 := by decide +kernel
theorem d22_22 : Dc B22 22 (.iadd) 1 := by decide +kernel
theorem d22_23 : Dc B22 23 (.istore_n 0) 1 := by decide +kernel
theorem d22_24 : Dc B22 24 (.iload_n 0) 1 := by decide +kernel
theorem d22_25 : Dc B22 25 (.iload_n 0) 1 := by decide +kernel
theorem d22_26 : Dc B22 26 (.iconst 4) 1 := by decide +kernel
theorem d22_27 : Dc B22 27 (.iushr) 1 := by decide +kernel
theorem d22_28 : Dc B22 28 (.iadd) 1 := by decide +kernel
theorem d22_29 : Dc B22 29 (.ldc_w 267) 3 := by decide +kernel
theorem d22_32 : Dc B22 32 (.iand) 1 := by decide +kernel
theorem d22_33 : Dc B22 33 (.istore_n 0) 1 := by decide +kernel
theorem d22_34 : Dc B22 34 (.iload_n 0) 1 := by decide +kernel
theorem d22_35 : Dc B22 35 (.iload_n 0) 1 := by decide +kernel
theorem d22_36 : Dc B22 36 (.bipush 8) 2 := by decide +kernel
theorem d22_38 : Dc B22 38 (.iushr) 1 := by decide +kernel
theorem d22_39 : Dc B22 39 (.iadd) 1 := by decide +kernel
theorem d22_40 : Dc B22 40 (.istore_n 0) 1 := by decide +kernel
theorem d22_41 : Dc B22 41 (.iload_n 0) 1 := by decide +kernel
theorem d22_42 : Dc B22 42 (.iload_n 0) 1 := by decide +kernel
theorem d22_43 : Dc B22 43 (.bipush 16) 2 := by decide +kernel
theorem d22_45 : Dc B22 45 (.iushr) 1 := by decide +kernel
theorem d22_46 : Dc B22 46 (.iadd) 1 := by decide +kernel
theorem d22_47 : Dc B22 47 (.istore_n 0) 1 := by decide +kernel
theorem d22_48 : Dc B22 48 (.iload_n 0) 1 := by decide +kernel
theorem d22_49 : Dc B22 49 (.bipush 63) 2 := by decide +kernel
theorem d22_51 : Dc B22 51 (.iand) 1 := by decide +kernel
theorem d22_52 : Dc B22 52 (.ireturn) 1 := by decide +kernel
theorem ef_rm_bc (m : MethodId) (i : Int32)  : entryFrame m #[(.int i)] 1 = mkF m 0 #[(sI i)] [] := by first | (simp [entryFrame, mkF, argsToLocals, Value.category]; done) | rfl
def Q_rm_bc (Z : State) (i : Int32)  (h0 : Heap) (n0 : Nat) (v : Option Value) (h : Heap) (L : List Loc) : Prop := v = some (.int (own_bc i)) ∧ Fr n0 L ∧ h = h0
theorem pn_3_ : plainName "java/lang/Integer" = true := by first | (simp [plainName, overriddenIn]; done) | decide +kernel
theorem pn_3 : plainFor (⟨"java/lang/Integer", "bitCount", "(I)I"⟩ : MethodName) = true := plainFor_of_name pn_3_
set_option maxRecDepth 65536 in
set_option maxHeartbeats 40000000 in
theorem rm_bc (l : Launch) (Z : State) (a0 : Array Value) (hw : ∀ d ∈ tables_1, d.before a0 Z = true) (ws : List Jvm.Cond) (i : Int32)  (h0 : Heap) (n0 : Nat) (O0 : Old Z n0 h0)  :
    MetFree l (⟨"java/lang/Integer", "bitCount", "(I)I"⟩ : MethodName) (head1 (Jvm.Cond.code (⟨"java/lang/Integer", "bitCount", "(I)I"⟩ : MethodName) jdk_33_method_49_code 1 (some .int) :: ws) ({ frames := 0, cells := 0, slots := 0, locals := 0 } : Room)) (fun args_ U => args_ = #[(.int i)] ∧ Z.Warmed39 U.vm ∧ U.heap = h0) (fun _ _ _ _ _ => True) (fun _ U out_ U' => ∃ val_ loc_, out_ = .returned val_ ∧ (Q_rm_bc Z i h0 n0) val_ U'.heap loc_ ∧ FrameEnd U out_ U' loc_ ({ frames := 0, cells := 0, slots := 0, locals := 0 } : Room).cells ({ frames := 0, cells := 0, slots := 0, locals := 0 } : Room).slots) := by
  refine start (Q := (Q_rm_bc Z i h0 n0)) pn_3 ?_
  intro p e s m below meth c T0 X0 hx hby hml hown hnm hret hlk hZ e0
  replace hown : s.vm.findClass "java/lang/Integer" = some m.cls := hown
  replace hml : c.maxLocals = 1 := hml
  refine goAt (ef_rm_bc m i ) ?_
  have N0 := Fr.nil n0
  refine stp (fun _ => XS.iloadN X0.here hx rfl (hb hby d22_0) rfl) ?_
  refine stp (fun _ => XS.iloadN X0.here hx rfl (hb hby d22_1) rfl) ?_
  refine stp (fun _ => XS.iconst X0.here hx rfl (hb hby d22_2)) ?_
  refine stp (fun _ => XS.iushr X0.here hx rfl (hb hby d22_3) rfl) ?_
  show Go p e below T0 (mkF m 4 #[(sI i)] [(.int ((i.toUInt32 >>> ((1 : Int32) &&& 31).toUInt32).toInt32)), (.int i)]) _
  refine stp (fun _ => X0.ldcwInt hx hown (mvT hZ (w_ hw (i := 158) rfl)) (g := (mkF m 4 #[(sI i)] [(.int ((i.toUInt32 >>> ((1 : Int32) &&& 31).toUInt32).toInt32)), (.int i)])) rfl (hb hby d22_4) _) ?_
  refine stp (fun _ => XS.iand X0.here hx rfl (hb hby d22_7) rfl) ?_
  refine stp (fun _ => XS.isub X0.here hx rfl (hb hby d22_8) rfl) ?_
  refine stp (fun _ => XS.istoreN X0.here hx rfl (hb hby d22_9) rfl (l' := #[(sI (i - (((i.toUInt32 >>> ((1 : Int32) &&& 31).toUInt32).toInt32) &&& (1431655765 : Int32))))]) rfl) ?_
  refine stp (fun _ => XS.iloadN X0.here hx rfl (hb hby d22_10) rfl) ?_
  show Go p e below T0 (mkF m 11 #[(sI (i - (((i.toUInt32 >>> ((1 : Int32) &&& 31).toUInt32).toInt32) &&& (1431655765 : Int32))))] [(.int (i - (((i.toUInt32 >>> ((1 : Int32) &&& 31).toUInt32).toInt32) &&& (1431655765 : Int32))))]) _
  refine stp (fun _ => X0.ldcwInt hx hown (mvT hZ (w_ hw (i := 159) rfl)) (g := (mkF m 11 #[(sI (i - (((i.toUInt32 >>> ((1 : Int32) &&& 31).toUInt32).toInt32) &&& (1431655765 : Int32))))] [(.int (i - (((i.toUInt32 >>> ((1 : Int32) &&& 31).toUInt32).toInt32) &&& (1431655765 : Int32))))])) rfl (hb hby d22_11) _) ?_
  refine stp (fun _ => XS.iand X0.here hx rfl (hb hby d22_14) rfl) ?_
  refine stp (fun _ => XS.iloadN X0.here hx rfl (hb hby d22_15) rfl) ?_
  refine stp (fun _ => XS.iconst X0.here hx rfl (hb hby d22_16)) ?_
  refine stp (fun _ => XS.iushr X0.here hx rfl (hb hby d22_17) rfl) ?_
  show Go p e below T0 (mkF m 18 #[(sI (i - (((i.toUInt32 >>> ((1 : Int32) &&& 31).toUInt32).toInt32) &&& (1431655765 : Int32))))] [(.int (((i - (((i.toUInt32 >>> ((1 : Int32) &&& 31).toUInt32).toInt32) &&& (1431655765 : Int32))).toUInt32 >>> ((2 : Int32) &&& 31).toUInt32).toInt32)), (.int ((i - (((i.toUInt32 >>> ((1 : Int32) &&& 31).toUInt32).toInt32) &&& (1431655765 : Int32))) &&& (858993459 : Int32)))]) _
  refine stp (fun _ => X0.ldcwInt hx hown (mvT hZ (w_ hw (i := 159) rfl)) (g := (mkF m 18 #[(sI (i - (((i.toUInt32 >>> ((1 : Int32) &&& 31).toUInt32).toInt32) &&& (1431655765 : Int32))))] [(.int (((i - (((i.toUInt32 >>> ((1 : Int32) &&& 31).toUInt32).toInt32) &&& (1431655765 : Int32))).toUInt32 >>> ((2 : Int32) &&& 31).toUInt32).toInt32)), (.int ((i - (((i.toUInt32 >>> ((1 : Int32) &&& 31).toUInt32).toInt32) &&& (1431655765 : Int32))) &&& (858993459 : Int32)))])) rfl (hb hby d22_18) _) ?_
  refine stp (fun _ => XS.iand X0.here hx rfl (hb hby d22_21) rfl) ?_
  refine stp (fun _ => XS.iadd X0.here hx rfl (hb hby d22_22) rfl) ?_
  refine stp (fun _ => XS.istoreN X0.here hx rfl (hb hby d22_23) rfl (l' := #[(sI (((i - (((i.toUInt32 >>> ((1 : Int32) &&& 31).toUInt32).toInt32) &&& (1431655765 : Int32))) &&& (858993459 : Int32)) + ((((i - (((i.toUInt32 >>> ((1 : Int32) &&& 31).toUInt32).toInt32) &&& (1431655765 : Int32))).toUInt32 >>> ((2 : Int32) &&& 31).toUInt32).toInt32) &&& (858993459 : Int32))))]) rfl) ?_
  refine stp (fun _ => XS.iloadN X0.here hx rfl (hb hby d22_24) rfl) ?_
  show Go p e below T0 (mkF m 25 #[(sI (((i - (((i.toUInt32 >>> ((1 : Int32) &&& 31).toUInt32).toInt32) &&& (1431655765 : Int32))) &&& (858993459 : Int32)) + ((((i - (((i.toUInt32 >>> ((1 : Int32) &&& 31).toUInt32).toInt32) &&& (1431655765 : Int32))).toUInt32 >>> ((2 : Int32) &&& 31).toUInt32).toInt32) &&& (858993459 : Int32))))] [(.int (((i - (((i.toUInt32 >>> ((1 : Int32) &&& 31).toUInt32).toInt32) &&& (1431655765 : Int32))) &&& (858993459 : Int32)) + ((((i - (((i.toUInt32 >>> ((1 : Int32) &&& 31).toUInt32).toInt32) &&& (1431655765 : Int32))).toUInt32 >>> ((2 : Int32) &&& 31).toUInt32).toInt32) &&& (858993459 : Int32))))]) _
  refine stp (fun _ => XS.iloadN X0.here hx rfl (hb hby d22_25) rfl) ?_
  refine stp (fun _ => XS.iconst X0.here hx rfl (hb hby d22_26)) ?_
  refine stp (fun _ => XS.iushr X0.here hx rfl (hb hby d22_27) rfl) ?_
  refine stp (fun _ => XS.iadd X0.here hx rfl (hb hby d22_28) rfl) ?_
  refine stp (fun _ => X0.ldcwInt hx hown (mvT hZ (w_ hw (i := 160) rfl)) (g := (mkF m 29 #[(sI (((i - (((i.toUInt32 >>> ((1 : Int32) &&& 31).toUInt32).toInt32) &&& (1431655765 : Int32))) &&& (858993459 : Int32)) + ((((i - (((i.toUInt32 >>> ((1 : Int32) &&& 31).toUInt32).toInt32) &&& (1431655765 : Int32))).toUInt32 >>> ((2 : Int32) &&& 31).toUInt32).toInt32) &&& (858993459 : Int32))))] [(.int ((((i - (((i.toUInt32 >>> ((1 : Int32) &&& 31).toUInt32).toInt32) &&& (1431655765 : Int32))) &&& (858993459 : Int32)) + ((((i - (((i.toUInt32 >>> ((1 : Int32) &&& 31).toUInt32).toInt32) &&& (1431655765 : Int32))).toUInt32 >>> ((2 : Int32) &&& 31).toUInt32).toInt32) &&& (858993459 : Int32))) + (((((i - (((i.toUInt32 >>> ((1 : Int32) &&& 31).toUInt32).toInt32) &&& (1431655765 : Int32))) &&& (858993459 : Int32)) + ((((i - (((i.toUInt32 >>> ((1 : Int32) &&& 31).toUInt32).toInt32) &&& (1431655765 : Int32))).toUInt32 >>> ((2 : Int32) &&& 31).toUInt32).toInt32) &&& (858993459 : Int32))).toUInt32 >>> ((4 : Int32) &&& 31).toUInt32).toInt32)))])) rfl (hb hby d22_29) _) ?_
  show Go p e below T0 (mkF m 32 #[(sI (((i - (((i.toUInt32 >>> ((1 : Int32) &&& 31).toUInt32).toInt32) &&& (1431655765 : Int32))) &&& (858993459 : Int32)) + ((((i - (((i.toUInt32 >>> ((1 : Int32) &&& 31).toUInt32).toInt32) &&& (1431655765 : Int32))).toUInt32 >>> ((2 : Int32) &&& 31).toUInt32).toInt32) &&& (858993459 : Int32))))] [(.int (252645135 : Int32)), (.int ((((i - (((i.toUInt32 >>> ((1 : Int32) &&& 31).toUInt32).toInt32) &&& (1431655765 : Int32))) &&& (858993459 : Int32)) + ((((i - (((i.toUInt32 >>> ((1 : Int32) &&& 31).toUInt32).toInt32) &&& (1431655765 : Int32))).toUInt32 >>> ((2 : Int32) &&& 31).toUInt32).toInt32) &&& (858993459 : Int32))) + (((((i - (((i.toUInt32 >>> ((1 : Int32) &&& 31).toUInt32).toInt32) &&& (1431655765 : Int32))) &&& (858993459 : Int32)) + ((((i - (((i.toUInt32 >>> ((1 : Int32) &&& 31).toUInt32).toInt32) &&& (1431655765 : Int32))).toUInt32 >>> ((2 : Int32) &&& 31).toUInt32).toInt32) &&& (858993459 : Int32))).toUInt32 >>> ((4 : Int32) &&& 31).toUInt32).toInt32)))]) _
  refine stp (fun _ => XS.iand X0.here hx rfl (hb hby d22_32) rfl) ?_
  refine stp (fun _ => XS.istoreN X0.here hx rfl (hb hby d22_33) rfl (l' := #[(sI (((((i - (((i.toUInt32 >>> ((1 : Int32) &&& 31).toUInt32).toInt32) &&& (1431655765 : Int32))) &&& (858993459 : Int32)) + ((((i - (((i.toUInt32 >>> ((1 : Int32) &&& 31).toUInt32).toInt32) &&& (1431655765 : Int32))).toUInt32 >>> ((2 : Int32) &&& 31).toUInt32).toInt32) &&& (858993459 : Int32))) + (((((i - (((i.toUInt32 >>> ((1 : Int32) &&& 31).toUInt32).toInt32) &&& (1431655765 : Int32))) &&& (858993459 : Int32)) + ((((i - (((i.toUInt32 >>> ((1 : Int32) &&& 31).toUInt32).toInt32) &&& (1431655765 : Int32))).toUInt32 >>> ((2 : Int32) &&& 31).toUInt32).toInt32) &&& (858993459 : Int32))).toUInt32 >>> ((4 : Int32) &&& 31).toUInt32).toInt32)) &&& (252645135 : Int32)))]) rfl) ?_
  refine stp (fun _ => XS.iloadN X0.here hx rfl (hb hby d22_34) rfl) ?_
  refine stp (fun _ => XS.iloadN X0.here hx rfl (hb hby d22_35) rfl) ?_
  refine stp (fun _ => XS.bipush X0.here hx rfl (hb hby d22_36)) ?_
  show Go p e below T0 (mkF m 38 #[(sI (((((i - (((i.toUInt32 >>> ((1 : Int32) &&& 31).toUInt32).toInt32) &&& (1431655765 : Int32))) &&& (858993459 : Int32)) + ((((i - (((i.toUInt32 >>> ((1 : Int32) &&& 31).toUInt32).toInt32) &&& (1431655765 : Int32))).toUInt32 >>> ((2 : Int32) &&& 31).toUInt32).toInt32) &&& (858993459 : Int32))) + (((((i - (((i.toUInt32 >>> ((1 : Int32) &&& 31).toUInt32).toInt32) &&& (1431655765 : Int32))) &&& (858993459 : Int32)) + ((((i - (((i.toUInt32 >>> ((1 : Int32) &&& 31).toUInt32).toInt32) &&& (1431655765 : Int32))).toUInt32 >>> ((2 : Int32) &&& 31).toUInt32).toInt32) &&& (858993459 : Int32))).toUInt32 >>> ((4 : Int32) &&& 31).toUInt32).toInt32)) &&& (252645135 : Int32)))] [(.int (8 : Int32)), (.int (((((i - (((i.toUInt32 >>> ((1 : Int32) &&& 31).toUInt32).toInt32) &&& (1431655765 : Int32))) &&& (858993459 : Int32)) + ((((i - (((i.toUInt32 >>> ((1 : Int32) &&& 31).toUInt32).toInt32) &&& (1431655765 : Int32))).toUInt32 >>> ((2 : Int32) &&& 31).toUInt32).toInt32) &&& (858993459 : Int32))) + (((((i - (((i.toUInt32 >>> ((1 : Int32) &&& 31).toUInt32).toInt32) &&& (1431655765 : Int32))) &&& (858993459 : Int32)) + ((((i - (((i.toUInt32 >>> ((1 : Int32) &&& 31).toUInt32).toInt32) &&& (1431655765 : Int32))).toUInt32 >>> ((2 : Int32) &&& 31).toUInt32).toInt32) &&& (858993459 : Int32))).toUInt32 >>> ((4 : Int32) &&& 31).toUInt32).toInt32)) &&& (252645135 : Int32))), (.int (((((i - (((i.toUInt32 >>> ((1 : Int32) &&& 31).toUInt32).toInt32) &&& (1431655765 : Int32))) &&& (858993459 : Int32)) + ((((i - (((i.toUInt32 >>> ((1 : Int32) &&& 31).toUInt32).toInt32) &&& (1431655765 : Int32))).toUInt32 >>> ((2 : Int32) &&& 31).toUInt32).toInt32) &&& (858993459 : Int32))) + (((((i - (((i.toUInt32 >>> ((1 : Int32) &&& 31).toUInt32).toInt32) &&& (1431655765 : Int32))) &&& (858993459 : Int32)) + ((((i - (((i.toUInt32 >>> ((1 : Int32) &&& 31).toUInt32).toInt32) &&& (1431655765 : Int32))).toUInt32 >>> ((2 : Int32) &&& 31).toUInt32).toInt32) &&& (858993459 : Int32))).toUInt32 >>> ((4 : Int32) &&& 31).toUInt32).toInt32)) &&& (252645135 : Int32)))]) _
  refine stp (fun _ => XS.iushr X0.here hx rfl (hb hby d22_38) rfl) ?_
  refine stp (fun _ => XS.iadd X0.here hx rfl (hb hby d22_39) rfl) ?_
  refine stp (fun _ => XS.istoreN X0.here hx rfl (hb hby d22_40) rfl (l' := #[(sI ((((((i - (((i.toUInt32 >>> ((1 : Int32) &&& 31).toUInt32).toInt32) &&& (1431655765 : Int32))) &&& (858993459 : Int32)) + ((((i - (((i.toUInt32 >>> ((1 : Int32) &&& 31).toUInt32).toInt32) &&& (1431655765 : Int32))).toUInt32 >>> ((2 : Int32) &&& 31).toUInt32).toInt32) &&& (858993459 : Int32))) + (((((i - (((i.toUInt32 >>> ((1 : Int32) &&& 31).toUInt32).toInt32) &&& (1431655765 : Int32))) &&& (858993459 : Int32)) + ((((i - (((i.toUInt32 >>> ((1 : Int32) &&& 31).toUInt32).toInt32) &&& (1431655765 : Int32))).toUInt32 >>> ((2 : Int32) &&& 31).toUInt32).toInt32) &&& (858993459 : Int32))).toUInt32 >>> ((4 : Int32) &&& 31).toUInt32).toInt32)) &&& (252645135 : Int32)) + (((((((i - (((i.toUInt32 >>> ((1 : Int32) &&& 31).toUInt32).toInt32) &&& (1431655765 : Int32))) &&& (858993459 : Int32)) + ((((i - (((i.toUInt32 >>> ((1 : Int32) &&& 31).toUInt32).toInt32) &&& (1431655765 : Int32))).toUInt32 >>> ((2 : Int32) &&& 31).toUInt32).toInt32) &&& (858993459 : Int32))) + (((((i - (((i.toUInt32 >>> ((1 : Int32) &&& 31).toUInt32).toInt32) &&& (1431655765 : Int32))) &&& (858993459 : Int32)) + ((((i - (((i.toUInt32 >>> ((1 : Int32) &&& 31).toUInt32).toInt32) &&& (1431655765 : Int32))).toUInt32 >>> ((2 : Int32) &&& 31).toUInt32).toInt32) &&& (858993459 : Int32))).toUInt32 >>> ((4 : Int32) &&& 31).toUInt32).toInt32)) &&& (252645135 : Int32)).toUInt32 >>> ((8 : Int32) &&& 31).toUInt32).toInt32)))]) rfl) ?_
  refine stp (fun _ => XS.iloadN X0.here hx rfl (hb hby d22_41) rfl) ?_
  refine stp (fun _ => XS.iloadN X0.here hx rfl (hb hby d22_42) rfl) ?_
  show Go p e below T0 (mkF m 43 #[(sI ((((((i - (((i.toUInt32 >>> ((1 : Int32) &&& 31).toUInt32).toInt32) &&& (1431655765 : Int32))) &&& (858993459 : Int32)) + ((((i - (((i.toUInt32 >>> ((1 : Int32) &&& 31).toUInt32).toInt32) &&& (1431655765 : Int32))).toUInt32 >>> ((2 : Int32) &&& 31).toUInt32).toInt32) &&& (858993459 : Int32))) + (((((i - (((i.toUInt32 >>> ((1 : Int32) &&& 31).toUInt32).toInt32) &&& (1431655765 : Int32))) &&& (858993459 : Int32)) + ((((i - (((i.toUInt32 >>> ((1 : Int32) &&& 31).toUInt32).toInt32) &&& (1431655765 : Int32))).toUInt32 >>> ((2 : Int32) &&& 31).toUInt32).toInt32) &&& (858993459 : Int32))).toUInt32 >>> ((4 : Int32) &&& 31).toUInt32).toInt32)) &&& (252645135 : Int32)) + (((((((i - (((i.toUInt32 >>> ((1 : Int32) &&& 31).toUInt32).toInt32) &&& (1431655765 : Int32))) &&& (858993459 : Int32)) + ((((i - (((i.toUInt32 >>> ((1 : Int32) &&& 31).toUInt32).toInt32) &&& (1431655765 : Int32))).toUInt32 >>> ((2 : Int32) &&& 31).toUInt32).toInt32) &&& (858993459 : Int32))) + (((((i - (((i.toUInt32 >>> ((1 : Int32) &&& 31).toUInt32).toInt32) &&& (1431655765 : Int32))) &&& (858993459 : Int32)) + ((((i - (((i.toUInt32 >>> ((1 : Int32) &&& 31).toUInt32).toInt32) &&& (1431655765 : Int32))).toUInt32 >>> ((2 : Int32) &&& 31).toUInt32).toInt32) &&& (858993459 : Int32))).toUInt32 >>> ((4 : Int32) &&& 31).toUInt32).toInt32)) &&& (252645135 : Int32)).toUInt32 >>> ((8 : Int32) &&& 31).toUInt32).toInt32)))] [(.int ((((((i - (((i.toUInt32 >>> ((1 : Int32) &&& 31).toUInt32).toInt32) &&& (1431655765 : Int32))) &&& (858993459 : Int32)) + ((((i - (((i.toUInt32 >>> ((1 : Int32) &&& 31).toUInt32).toInt32) &&& (1431655765 : Int32))).toUInt32 >>> ((2 : Int32) &&& 31).toUInt32).toInt32) &&& (858993459 : Int32))) + (((((i - (((i.toUInt32 >>> ((1 : Int32) &&& 31).toUInt32).toInt32) &&& (1431655765 : Int32))) &&& (858993459 : Int32)) + ((((i - (((i.toUInt32 >>> ((1 : Int32) &&& 31).toUInt32).toInt32) &&& (1431655765 : Int32))).toUInt32 >>> ((2 : Int32) &&& 31).toUInt32).toInt32) &&& (858993459 : Int32))).toUInt32 >>> ((4 : Int32) &&& 31).toUInt32).toInt32)) &&& (252645135 : Int32)) + (((((((i - (((i.toUInt32 >>> ((1 : Int32) &&& 31).toUInt32).toInt32) &&& (1431655765 : Int32))) &&& (858993459 : Int32)) + ((((i - (((i.toUInt32 >>> ((1 : Int32) &&& 31).toUInt32).toInt32) &&& (1431655765 : Int32))).toUInt32 >>> ((2 : Int32) &&& 31).toUInt32).toInt32) &&& (858993459 : Int32))) + (((((i - (((i.toUInt32 >>> ((1 : Int32) &&& 31).toUInt32).toInt32) &&& (1431655765 : Int32))) &&& (858993459 : Int32)) + ((((i - (((i.toUInt32 >>> ((1 : Int32) &&& 31).toUInt32).toInt32) &&& (1431655765 : Int32))).toUInt32 >>> ((2 : Int32) &&& 31).toUInt32).toInt32) &&& (858993459 : Int32))).toUInt32 >>> ((4 : Int32) &&& 31).toUInt32).toInt32)) &&& (252645135 : Int32)).toUInt32 >>> ((8 : Int32) &&& 31).toUInt32).toInt32))), (.int ((((((i - (((i.toUInt32 >>> ((1 : Int32) &&& 31).toUInt32).toInt32) &&& (1431655765 : Int32))) &&& (858993459 : Int32)) + ((((i - (((i.toUInt32 >>> ((1 : Int32) &&& 31).toUInt32).toInt32) &&& (1431655765 : Int32))).toUInt32 >>> ((2 : Int32) &&& 31).toUInt32).toInt32) &&& (858993459 : Int32))) + (((((i - (((i.toUInt32 >>> ((1 : Int32) &&& 31).toUInt32).toInt32) &&& (1431655765 : Int32))) &&& (858993459 : Int32)) + ((((i - (((i.toUInt32 >>> ((1 : Int32) &&& 31).toUInt32).toInt32) &&& (1431655765 : Int32))).toUInt32 >>> ((2 : Int32) &&& 31).toUInt32).toInt32) &&& (858993459 : Int32))).toUInt32 >>> ((4 : Int32) &&& 31).toUInt32).toInt32)) &&& (252645135 : Int32)) + (((((((i - (((i.toUInt32 >>> ((1 : Int32) &&& 31).toUInt32).toInt32) &&& (1431655765 : Int32))) &&& (858993459 : Int32)) + ((((i - (((i.toUInt32 >>> ((1 : Int32) &&& 31).toUInt32).toInt32) &&& (1431655765 : Int32))).toUInt32 >>> ((2 : Int32) &&& 31).toUInt32).toInt32) &&& (858993459 : Int32))) + (((((i - (((i.toUInt32 >>> ((1 : Int32) &&& 31).toUInt32).toInt32) &&& (1431655765 : Int32))) &&& (858993459 : Int32)) + ((((i - (((i.toUInt32 >>> ((1 : Int32) &&& 31).toUInt32).toInt32) &&& (1431655765 : Int32))).toUInt32 >>> ((2 : Int32) &&& 31).toUInt32).toInt32) &&& (858993459 : Int32))).toUInt32 >>> ((4 : Int32) &&& 31).toUInt32).toInt32)) &&& (252645135 : Int32)).toUInt32 >>> ((8 : Int32) &&& 31).toUInt32).toInt32)))]) _
  refine stp (fun _ => XS.bipush X0.here hx rfl (hb hby d22_43)) ?_
  refine stp (fun _ => XS.iushr X0.here hx rfl (hb hby d22_45) rfl) ?_
  refine stp (fun _ => XS.iadd X0.here hx rfl (hb hby d22_46) rfl) ?_
  refine stp (fun _ => XS.istoreN X0.here hx rfl (hb hby d22_47) rfl (l' := #[(sI (((((((i - (((i.toUInt32 >>> ((1 : Int32) &&& 31).toUInt32).toInt32) &&& (1431655765 : Int32))) &&& (858993459 : Int32)) + ((((i - (((i.toUInt32 >>> ((1 : Int32) &&& 31).toUInt32).toInt32) &&& (1431655765 : Int32))).toUInt32 >>> ((2 : Int32) &&& 31).toUInt32).toInt32) &&& (858993459 : Int32))) + (((((i - (((i.toUInt32 >>> ((1 : Int32) &&& 31).toUInt32).toInt32) &&& (1431655765 : Int32))) &&& (858993459 : Int32)) + ((((i - (((i.toUInt32 >>> ((1 : Int32) &&& 31).toUInt32).toInt32) &&& (1431655765 : Int32))).toUInt32 >>> ((2 : Int32) &&& 31).toUInt32).toInt32) &&& (858993459 : Int32))).toUInt32 >>> ((4 : Int32) &&& 31).toUInt32).toInt32)) &&& (252645135 : Int32)) + (((((((i - (((i.toUInt32 >>> ((1 : Int32) &&& 31).toUInt32).toInt32) &&& (1431655765 : Int32))) &&& (858993459 : Int32)) + ((((i - (((i.toUInt32 >>> ((1 : Int32) &&& 31).toUInt32).toInt32) &&& (1431655765 : Int32))).toUInt32 >>> ((2 : Int32) &&& 31).toUInt32).toInt32) &&& (858993459 : Int32))) + (((((i - (((i.toUInt32 >>> ((1 : Int32) &&& 31).toUInt32).toInt32) &&& (1431655765 : Int32))) &&& (858993459 : Int32)) + ((((i - (((i.toUInt32 >>> ((1 : Int32) &&& 31).toUInt32).toInt32) &&& (1431655765 : Int32))).toUInt32 >>> ((2 : Int32) &&& 31).toUInt32).toInt32) &&& (858993459 : Int32))).toUInt32 >>> ((4 : Int32) &&& 31).toUInt32).toInt32)) &&& (252645135 : Int32)).toUInt32 >>> ((8 : Int32) &&& 31).toUInt32).toInt32)) + ((((((((i - (((i.toUInt32 >>> ((1 : Int32) &&& 31).toUInt32).toInt32) &&& (1431655765 : Int32))) &&& (858993459 : Int32)) + ((((i - (((i.toUInt32 >>> ((1 : Int32) &&& 31).toUInt32).toInt32) &&& (1431655765 : Int32))).toUInt32 >>> ((2 : Int32) &&& 31).toUInt32).toInt32) &&& (858993459 : Int32))) + (((((i - (((i.toUInt32 >>> ((1 : Int32) &&& 31).toUInt32).toInt32) &&& (1431655765 : Int32))) &&& (858993459 : Int32)) + ((((i - (((i.toUInt32 >>> ((1 : Int32) &&& 31).toUInt32).toInt32) &&& (1431655765 : Int32))).toUInt32 >>> ((2 : Int32) &&& 31).toUInt32).toInt32) &&& (858993459 : Int32))).toUInt32 >>> ((4 : Int32) &&& 31).toUInt32).toInt32)) &&& (252645135 : Int32)) + (((((((i - (((i.toUInt32 >>> ((1 : Int32) &&& 31).toUInt32).toInt32) &&& (1431655765 : Int32))) &&& (858993459 : Int32)) + ((((i - (((i.toUInt32 >>> ((1 : Int32) &&& 31).toUInt32).toInt32) &&& (1431655765 : Int32))).toUInt32 >>> ((2 : Int32) &&& 31).toUInt32).toInt32) &&& (858993459 : Int32))) + (((((i - (((i.toUInt32 >>> ((1 : Int32) &&& 31).toUInt32).toInt32) &&& (1431655765 : Int32))) &&& (858993459 : Int32)) + ((((i - (((i.toUInt32 >>> ((1 : Int32) &&& 31).toUInt32).toInt32) &&& (1431655765 : Int32))).toUInt32 >>> ((2 : Int32) &&& 31).toUInt32).toInt32) &&& (858993459 : Int32))).toUInt32 >>> ((4 : Int32) &&& 31).toUInt32).toInt32)) &&& (252645135 : Int32)).toUInt32 >>> ((8 : Int32) &&& 31).toUInt32).toInt32)).toUInt32 >>> ((16 : Int32) &&& 31).toUInt32).toInt32)))]) rfl) ?_
  refine stp (fun _ => XS.iloadN X0.here hx rfl (hb hby d22_48) rfl) ?_
  show Go p e below T0 (mkF m 49 #[(sI (((((((i - (((i.toUInt32 >>> ((1 : Int32) &&& 31).toUInt32).toInt32) &&& (1431655765 : Int32))) &&& (858993459 : Int32)) + ((((i - (((i.toUInt32 >>> ((1 : Int32) &&& 31).toUInt32).toInt32) &&& (1431655765 : Int32))).toUInt32 >>> ((2 : Int32) &&& 31).toUInt32).toInt32) &&& (858993459 : Int32))) + (((((i - (((i.toUInt32 >>> ((1 : Int32) &&& 31).toUInt32).toInt32) &&& (1431655765 : Int32))) &&& (858993459 : Int32)) + ((((i - (((i.toUInt32 >>> ((1 : Int32) &&& 31).toUInt32).toInt32) &&& (1431655765 : Int32))).toUInt32 >>> ((2 : Int32) &&& 31).toUInt32).toInt32) &&& (858993459 : Int32))).toUInt32 >>> ((4 : Int32) &&& 31).toUInt32).toInt32)) &&& (252645135 : Int32)) + (((((((i - (((i.toUInt32 >>> ((1 : Int32) &&& 31).toUInt32).toInt32) &&& (1431655765 : Int32))) &&& (858993459 : Int32)) + ((((i - (((i.toUInt32 >>> ((1 : Int32) &&& 31).toUInt32).toInt32) &&& (1431655765 : Int32))).toUInt32 >>> ((2 : Int32) &&& 31).toUInt32).toInt32) &&& (858993459 : Int32))) + (((((i - (((i.toUInt32 >>> ((1 : Int32) &&& 31).toUInt32).toInt32) &&& (1431655765 : Int32))) &&& (858993459 : Int32)) + ((((i - (((i.toUInt32 >>> ((1 : Int32) &&& 31).toUInt32).toInt32) &&& (1431655765 : Int32))).toUInt32 >>> ((2 : Int32) &&& 31).toUInt32).toInt32) &&& (858993459 : Int32))).toUInt32 >>> ((4 : Int32) &&& 31).toUInt32).toInt32)) &&& (252645135 : Int32)).toUInt32 >>> ((8 : Int32) &&& 31).toUInt32).toInt32)) + ((((((((i - (((i.toUInt32 >>> ((1 : Int32) &&& 31).toUInt32).toInt32) &&& (1431655765 : Int32))) &&& (858993459 : Int32)) + ((((i - (((i.toUInt32 >>> ((1 : Int32) &&& 31).toUInt32).toInt32) &&& (1431655765 : Int32))).toUInt32 >>> ((2 : Int32) &&& 31).toUInt32).toInt32) &&& (858993459 : Int32))) + (((((i - (((i.toUInt32 >>> ((1 : Int32) &&& 31).toUInt32).toInt32) &&& (1431655765 : Int32))) &&& (858993459 : Int32)) + ((((i - (((i.toUInt32 >>> ((1 : Int32) &&& 31).toUInt32).toInt32) &&& (1431655765 : Int32))).toUInt32 >>> ((2 : Int32) &&& 31).toUInt32).toInt32) &&& (858993459 : Int32))).toUInt32 >>> ((4 : Int32) &&& 31).toUInt32).toInt32)) &&& (252645135 : Int32)) + (((((((i - (((i.toUInt32 >>> ((1 : Int32) &&& 31).toUInt32).toInt32) &&& (1431655765 : Int32))) &&& (858993459 : Int32)) + ((((i - (((i.toUInt32 >>> ((1 : Int32) &&& 31).toUInt32).toInt32) &&& (1431655765 : Int32))).toUInt32 >>> ((2 : Int32) &&& 31).toUInt32).toInt32) &&& (858993459 : Int32))) + (((((i - (((i.toUInt32 >>> ((1 : Int32) &&& 31).toUInt32).toInt32) &&& (1431655765 : Int32))) &&& (858993459 : Int32)) + ((((i - (((i.toUInt32 >>> ((1 : Int32) &&& 31).toUInt32).toInt32) &&& (1431655765 : Int32))).toUInt32 >>> ((2 : Int32) &&& 31).toUInt32).toInt32) &&& (858993459 : Int32))).toUInt32 >>> ((4 : Int32) &&& 31).toUInt32).toInt32)) &&& (252645135 : Int32)).toUInt32 >>> ((8 : Int32) &&& 31).toUInt32).toInt32)).toUInt32 >>> ((16 : Int32) &&& 31).toUInt32).toInt32)))] [(.int (((((((i - (((i.toUInt32 >>> ((1 : Int32) &&& 31).toUInt32).toInt32) &&& (1431655765 : Int32))) &&& (858993459 : Int32)) + ((((i - (((i.toUInt32 >>> ((1 : Int32) &&& 31).toUInt32).toInt32) &&& (1431655765 : Int32))).toUInt32 >>> ((2 : Int32) &&& 31).toUInt32).toInt32) &&& (858993459 : Int32))) + (((((i - (((i.toUInt32 >>> ((1 : Int32) &&& 31).toUInt32).toInt32) &&& (1431655765 : Int32))) &&& (858993459 : Int32)) + ((((i - (((i.toUInt32 >>> ((1 : Int32) &&& 31).toUInt32).toInt32) &&& (1431655765 : Int32))).toUInt32 >>> ((2 : Int32) &&& 31).toUInt32).toInt32) &&& (858993459 : Int32))).toUInt32 >>> ((4 : Int32) &&& 31).toUInt32).toInt32)) &&& (252645135 : Int32)) + (((((((i - (((i.toUInt32 >>> ((1 : Int32) &&& 31).toUInt32).toInt32) &&& (1431655765 : Int32))) &&& (858993459 : Int32)) + ((((i - (((i.toUInt32 >>> ((1 : Int32) &&& 31).toUInt32).toInt32) &&& (1431655765 : Int32))).toUInt32 >>> ((2 : Int32) &&& 31).toUInt32).toInt32) &&& (858993459 : Int32))) + (((((i - (((i.toUInt32 >>> ((1 : Int32) &&& 31).toUInt32).toInt32) &&& (1431655765 : Int32))) &&& (858993459 : Int32)) + ((((i - (((i.toUInt32 >>> ((1 : Int32) &&& 31).toUInt32).toInt32) &&& (1431655765 : Int32))).toUInt32 >>> ((2 : Int32) &&& 31).toUInt32).toInt32) &&& (858993459 : Int32))).toUInt32 >>> ((4 : Int32) &&& 31).toUInt32).toInt32)) &&& (252645135 : Int32)).toUInt32 >>> ((8 : Int32) &&& 31).toUInt32).toInt32)) + ((((((((i - (((i.toUInt32 >>> ((1 : Int32) &&& 31).toUInt32).toInt32) &&& (1431655765 : Int32))) &&& (858993459 : Int32)) + ((((i - (((i.toUInt32 >>> ((1 : Int32) &&& 31).toUInt32).toInt32) &&& (1431655765 : Int32))).toUInt32 >>> ((2 : Int32) &&& 31).toUInt32).toInt32) &&& (858993459 : Int32))) + (((((i - (((i.toUInt32 >>> ((1 : Int32) &&& 31).toUInt32).toInt32) &&& (1431655765 : Int32))) &&& (858993459 : Int32)) + ((((i - (((i.toUInt32 >>> ((1 : Int32) &&& 31).toUInt32).toInt32) &&& (1431655765 : Int32))).toUInt32 >>> ((2 : Int32) &&& 31).toUInt32).toInt32) &&& (858993459 : Int32))).toUInt32 >>> ((4 : Int32) &&& 31).toUInt32).toInt32)) &&& (252645135 : Int32)) + (((((((i - (((i.toUInt32 >>> ((1 : Int32) &&& 31).toUInt32).toInt32) &&& (1431655765 : Int32))) &&& (858993459 : Int32)) + ((((i - (((i.toUInt32 >>> ((1 : Int32) &&& 31).toUInt32).toInt32) &&& (1431655765 : Int32))).toUInt32 >>> ((2 : Int32) &&& 31).toUInt32).toInt32) &&& (858993459 : Int32))) + (((((i - (((i.toUInt32 >>> ((1 : Int32) &&& 31).toUInt32).toInt32) &&& (1431655765 : Int32))) &&& (858993459 : Int32)) + ((((i - (((i.toUInt32 >>> ((1 : Int32) &&& 31).toUInt32).toInt32) &&& (1431655765 : Int32))).toUInt32 >>> ((2 : Int32) &&& 31).toUInt32).toInt32) &&& (858993459 : Int32))).toUInt32 >>> ((4 : Int32) &&& 31).toUInt32).toInt32)) &&& (252645135 : Int32)).toUInt32 >>> ((8 : Int32) &&& 31).toUInt32).toInt32)).toUInt32 >>> ((16 : Int32) &&& 31).toUInt32).toInt32)))]) _
  refine stp (fun _ => XS.bipush X0.here hx rfl (hb hby d22_49)) ?_
  refine stp (fun _ => XS.iand X0.here hx rfl (hb hby d22_51) rfl) ?_
  refine outI X0 hx hret (hb hby d22_52) hlk (by decide) (by decide) ?_
  exact ⟨rfl, N0, e0⟩
abbrev B35 : ByteArray := jdk_65_method_131_code
theorem d35_0 : Dc B35 0 (.iload_n 1) 1 := by decide +kernel
theorem d35_1 : Dc B35 1 (.iload_n 0) 1 := by decide +kernel
theorem d35_2 : Dc B35 2 (.if_icmp .ge 35) 3 := by decide +kernel
theorem d35_37 : Dc B35 37 (.return_) 1 := by decide +kernel
theorem ef_rm_cl (m : MethodId) (fr : Int32) (to_ : Int32)  : entryFrame m #[(.int fr), (.int to_)] 2 = mkF m 0 #[(sI fr), (sI to_)] [] := by first | (simp [entryFrame, mkF, argsToLocals, Value.category]; done) | rfl
def Q_rm_cl (Z : State) (fr : Int32) (to_ : Int32)  (h0 : Heap) (n0 : Nat) (v : Option Value) (h : Heap) (L : List Loc) : Prop := v = none ∧ Fr n0 L ∧ h = h0
theorem pn_4_ : plainName "java/util/Arrays" = true := by first | (simp [plainName, overriddenIn]; done) | decide +kernel
theorem pn_4 : plainFor (⟨"java/util/Arrays", "checkLength", "(II)V"⟩ : MethodName) = true := plainFor_of_name pn_4_
set_option maxRecDepth 65536 in
set_option maxHeartbeats 40000000 in
theorem rm_cl (l : Launch) (Z : State) (a0 : Array Value) (hw : ∀ d ∈ tables_1, d.before a0 Z = true) (ws : List Jvm.Cond) (fr : Int32) (to_ : Int32)  (h0 : Heap) (n0 : Nat) (O0 : Old Z n0 h0) (h : ¬ to_ < fr) :
    MetFree l (⟨"java/util/Arrays", "checkLength", "(II)V"⟩ : MethodName) (head1 (Jvm.Cond.code (⟨"java/util/Arrays", "checkLength", "(II)V"⟩ : MethodName) jdk_65_method_131_code 2 none :: ws) ({ frames := 0, cells := 0, slots := 0, locals := 0 } : Room)) (fun args_ U => args_ = #[(.int fr), (.int to_)] ∧ Z.Warmed39 U.vm ∧ U.heap = h0) (fun _ _ _ _ _ => True) (fun _ U out_ U' => ∃ val_ loc_, out_ = .returned val_ ∧ (Q_rm_cl Z fr to_ h0 n0) val_ U'.heap loc_ ∧ FrameEnd U out_ U' loc_ ({ frames := 0, cells := 0, slots := 0, locals := 0 } : Room).cells ({ frames := 0, cells := 0, slots := 0, locals := 0 } : Room).slots) := by
  refine start (Q := (Q_rm_cl Z fr to_ h0 n0)) pn_4 ?_
  intro p e s m below meth c T0 X0 hx hby hml hown hnm hret hlk hZ e0
  replace hown : s.vm.findClass "java/util/Arrays" = some m.cls := hown
  replace hml : c.maxLocals = 2 := hml
  refine goAt (ef_rm_cl m fr to_ ) ?_
  have N0 := Fr.nil n0
  refine stp (fun _ => XS.iloadN X0.here hx rfl (hb hby d35_0) rfl) ?_
  refine stp (fun _ => XS.iloadN X0.here hx rfl (hb hby d35_1) rfl) ?_
  refine stp (fun _ => XS.icmpYes X0.here hx rfl (pc0 := 2) (pc' := 37) rfl (hb hby d35_2) rfl (XT.ii_ge_t h) (by decide) (by decide)) ?_
  refine outV X0 hx hret (hb hby d35_37) hlk (by decide) (by decide) ?_
  exact ⟨rfl, N0, e0⟩
abbrev B36 : ByteArray := jdk_29_method_69_code
theorem d36_0 : Dc B36 0 (.iload_n 0) 1 := by decide +kernel
theorem d36_1 : Dc B36 1 (.iload_n 1) 1 := by decide +kernel
theorem d36_2 : Dc B36 2 (.if_icmp .gt 7) 3 := by decide +kernel
theorem d36_5 : Dc B36 5 (.iload_n 0) 1 := by decide +kernel
theorem d36_6 : Dc B36 6 (.goto 4) 3 := by decide +kernel
theorem d36_10 : Dc B36 10 (.ireturn) 1 := by decide +kernel
theorem ef_rm_min (m : MethodId) (a_ : Int32) (b_ : Int32)  : entryFrame m #[(.int a_), (.int b_)] 2 = mkF m 0 #[(sI a_), (sI b_)] [] := by first | (simp [entryFrame, mkF, argsToLocals, Value.category]; done) | rfl
def Q_rm_min (Z : State) (a_ : Int32) (b_ : Int32)  (h0 : Heap) (n0 : Nat) (v : Option Value) (h : Heap) (L : List Loc) : Prop := v = some (.int a_) ∧ Fr n0 L ∧ h = h0
set_option maxRecDepth 65536 in
set_option maxHeartbeats 40000000 in
theorem rm_min (l : Launch) (Z : State) (a0 : Array Value) (hw : ∀ d ∈ tables_1, d.before a0 Z = true) (ws : List Jvm.Cond) (a_ : Int32) (b_ : Int32)  (h0 : Heap) (n0 : Nat) (O0 : Old Z n0 h0) (h : ¬ b_ < a_) :
    MetFree l (⟨"java/lang/Math", "min", "(II)I"⟩ : MethodName) (head1 (Jvm.Cond.code (⟨"java/lang/Math", "min", "(II)I"⟩ : MethodName) jdk_29_method_69_code 2 (some .int) :: ws) ({ frames := 0, cells := 0, slots := 0, locals := 0 } : Room)) (fun args_ U => args_ = #[(.int a_), (.int b_)] ∧ Z.Warmed39 U.vm ∧ U.heap = h0) (fun _ _ _ _ _ => True) (fun _ U out_ U' => ∃ val_ loc_, out_ = .returned val_ ∧ (Q_rm_min Z a_ b_ h0 n0) val_ U'.heap loc_ ∧ FrameEnd U out_ U' loc_ ({ frames := 0, cells := 0, slots := 0, locals := 0 } : Room).cells ({ frames := 0, cells := 0, slots := 0, locals := 0 } : Room).slots) := by
  refine start (Q := (Q_rm_min Z a_ b_ h0 n0)) (Jvm.Free.JP.mathPlain rfl (by decide +kernel)) ?_
  intro p e s m below meth c T0 X0 hx hby hml hown hnm hret hlk hZ e0
  replace hown : s.vm.findClass "java/lang/Math" = some m.cls := hown
  replace hml : c.maxLocals = 2 := hml
  refine goAt (ef_rm_min m a_ b_ ) ?_
  have N0 := Fr.nil n0
  refine stp (fun _ => XS.iloadN X0.here hx rfl (hb hby d36_0) rfl) ?_
  refine stp (fun _ => XS.iloadN X0.here hx rfl (hb hby d36_1) rfl) ?_
  refine stp (fun _ => XS.icmpNo X0.here hx rfl (hb hby d36_2) rfl (XT.ii_gt_f h)) ?_
  refine stp (fun _ => XS.iloadN X0.here hx rfl (hb hby d36_5) rfl) ?_
  show Go p e below T0 (mkF m 6 #[(sI a_), (sI b_)] [(.int a_)]) _
  refine stp (fun _ => XS.goto X0.here hx rfl (pc0 := 6) (pc' := 10) rfl (hb hby d36_6) (by decide) (by decide)) ?_
  refine outI X0 hx hret (hb hby d36_10) hlk (by decide) (by decide) ?_
  exact ⟨rfl, N0, e0⟩
abbrev B34 : ByteArray := jdk_65_method_137_code
theorem d34_0 : Dc B34 0 (.iload_n 1) 1 := by decide +kernel
theorem d34_1 : Dc B34 1 (.iload_n 2) 1 := by decide +kernel
theorem d34_2 : Dc B34 2 (.invokestatic 343) 3 := by decide +kernel
theorem pd_1 : parseMethodDescriptor "(II)V" = some ⟨[.int, .int], none⟩ := by decide +kernel
theorem d34_5 : Dc B34 5 (.iload_n 2) 1 := by decide +kernel
theorem d34_6 : Dc B34 6 (.iload_n 1) 1 := by decide +kernel
theorem d34_7 : Dc B34 7 (.isub) 1 := by decide +kernel
theorem d34_8 : Dc B34 8 (.istore_n 3) 1 := by decide +kernel
theorem d34_9 : Dc B34 9 (.iload_n 3) 1 := by decide +kernel
theorem d34_10 : Dc B34 10 (.newarray .int) 2 := by decide +kernel
theorem d34_12 : Dc B34 12 (.astore 4) 2 := by decide +kernel
theorem d34_14 : Dc B34 14 (.aload_n 0) 1 := by decide +kernel
theorem d34_15 : Dc B34 15 (.iload_n 1) 1 := by decide +kernel
theorem d34_16 : Dc B34 16 (.aload 4) 2 := by decide +kernel
theorem d34_18 : Dc B34 18 (.iconst 0) 1 := by decide +kernel
theorem d34_19 : Dc B34 19 (.aload_n 0) 1 := by decide +kernel
theorem d34_20 : Dc B34 20 (.arraylength) 1 := by decide +kernel
theorem d34_21 : Dc B34 21 (.iload_n 1) 1 := by decide +kernel
theorem d34_22 : Dc B34 22 (.isub) 1 := by decide +kernel
theorem d34_23 : Dc B34 23 (.iload_n 3) 1 := by decide +kernel
theorem d34_24 : Dc B34 24 (.invokestatic 304) 3 := by decide +kernel
theorem pd_2 : parseMethodDescriptor "(II)I" = some ⟨[.int, .int], some .int⟩ := by decide +kernel
theorem d34_27 : Dc B34 27 (.invokestatic 150) 3 := by decide +kernel
theorem d34_30 : Dc B34 30 (.aload 4) 2 := by decide +kernel
theorem d34_32 : Dc B34 32 (.areturn) 1 := by decide +kernel
theorem ef_rm_cori (m : MethodId) (a : Addr) (fr : Int32) (to_ : Int32)  : entryFrame m #[(.ref a), (.int fr), (.int to_)] 5 = mkF m 0 #[(sR a), (sI fr), (sI to_), .unset, .unset] [] := by first | (simp [entryFrame, mkF, argsToLocals, Value.category]; done) | rfl
def Q_rm_cori (Z : State) (a : Addr) (fr : Int32) (to_ : Int32) (n : Nat) (f : Nat → Int32) (F : Nat) (k_a : ClassId) (h0 : Heap) (n0 : Nat) (v : Option Value) (h : Heap) (L : List Loc) : Prop := ∃ (r : Addr) (k_r : ClassId) (m : Nat) (g : Nat → Int32), v = some (.ref r) ∧ Fr n0 L ∧ Keep h0 h [] ∧ (n0 ≤ r ∧ h0.size ≤ r) ∧ Arf Z h r k_r .int m (fun i => (.int (g i))) ∧ (m = n - F)
theorem pn_5_ : plainName "java/util/Arrays" = true := by first | (simp [plainName, overriddenIn]; done) | decide +kernel
theorem pn_5 : plainFor (⟨"java/util/Arrays", "copyOfRangeInt", "([III)[I"⟩ : MethodName) = true := plainFor_of_name pn_5_
set_option maxRecDepth 65536 in
set_option maxHeartbeats 40000000 in
theorem rm_cori (l : Launch) (Z : State) (a0 : Array Value) (hw : ∀ d ∈ tables_1, d.before a0 Z = true) (ws : List Jvm.Cond) (a : Addr) (fr : Int32) (to_ : Int32) (n : Nat) (f : Nat → Int32) (F : Nat) (k_a : ClassId) (h0 : Heap) (n0 : Nat) (O0 : Old Z n0 h0) (V_a : Arf Z h0 a k_a .int n (fun i => (.int (f i)))) (hn : n ≤ 24) (hf : fr.toInt = (F : Int)) (ht : to_.toInt = (n : Int)) (hle : F ≤ n) :
    MetFree l (⟨"java/util/Arrays", "copyOfRangeInt", "([III)[I"⟩ : MethodName) (head1 (Jvm.Cond.code (⟨"java/util/Arrays", "copyOfRangeInt", "([III)[I"⟩ : MethodName) jdk_65_method_137_code 5 (some (.array .int)) :: ws) ({ frames := 1, cells := 1, slots := 24, locals := 18 } : Room)) (fun args_ U => args_ = #[(.ref a), (.int fr), (.int to_)] ∧ Z.Warmed39 U.vm ∧ U.heap = h0) (fun _ _ _ _ _ => True) (fun _ U out_ U' => ∃ val_ loc_, out_ = .returned val_ ∧ (Q_rm_cori Z a fr to_ n f F k_a h0 n0) val_ U'.heap loc_ ∧ FrameEnd U out_ U' loc_ ({ frames := 1, cells := 1, slots := 24, locals := 18 } : Room).cells ({ frames := 1, cells := 1, slots := 24, locals := 18 } : Room).slots) := by
  refine start (Q := (Q_rm_cori Z a fr to_ n f F k_a h0 n0)) pn_5 ?_
  intro p e s m below meth c T0 X0 hx hby hml hown hnm hret hlk hZ e0
  replace hown : s.vm.findClass "java/util/Arrays" = some m.cls := hown
  replace hml : c.maxLocals = 5 := hml
  refine goAt (ef_rm_cori m a fr to_ ) ?_
  have N0 := Fr.nil n0
  refine stp (fun _ => XS.iloadN X0.here hx rfl (hb hby d34_0) rfl) ?_
  refine stp (fun _ => XS.iloadN X0.here hx rfl (hb hby d34_1) rfl) ?_
  obtain ⟨_, _, ⟨T1, L1, k1, n1⟩, -, X1, ⟨Lc1, hQ1, l1, y1, z1⟩, st1⟩ := Jvm.LawKit.callS X0 hx (y := (⟨"java/util/Arrays", "checkLength", "(II)V"⟩ : MethodName)) hown (mvT hZ (w_ hw (i := 209) rfl)) (mvT hZ (w_ hw (i := 210) rfl)) (mvT hZ (w_ hw (i := 204) rfl)) (mvT hZ (w_ hw (i := 211) rfl)) (by decide) (backOf (W := 0) (rm_cl l Z a0 hw [] fr to_  h0 n0 O0 (own_geI ht hf hle)) hZ (w_ hw (i := 211) rfl) (w_ hw (i := 204) rfl) (by decide) (by decide)) (g := (mkF m 2 #[(sR a), (sI fr), (sI to_), .unset, .unset] [(.int to_), (.int fr)])) rfl (by rw [hml]; rfl) (argsL := [(.int fr), (.int to_)]) (rest := []) (lenOf pd_1 rfl) rfl (by show 2 * 0 + _ ≤ _; exact Nat.le_of_eq rfl) (hb hby d34_2) (fun _ _ => ⟨rfl, e0, (by decide : 0 + 0 ≤ _), (by decide : 0 + 0 ≤ _)⟩)
  dsimp only [Pt.U, Pt.locs, Pt.cells, Pt.slots] at X1 l1 y1 z1 st1 hQ1
  subst y1 z1
  obtain ⟨rfl, N1q, e1⟩ := hQ1
  have N1 : Fr n0 L1 := by rw [l1]; exact Fr.app N0 N1q
  refine stp st1 ?_
  refine stp (fun _ => XS.iloadN X1.here hx rfl (hb hby d34_5) rfl) ?_
  show Go p e below T1 (mkF m 6 #[(sR a), (sI fr), (sI to_), .unset, .unset] [(.int to_)]) _
  refine stp (fun _ => XS.iloadN X1.here hx rfl (hb hby d34_6) rfl) ?_
  refine stp (fun _ => XS.isub X1.here hx rfl (hb hby d34_7) rfl) ?_
  refine stp (fun _ => XS.istoreN X1.here hx rfl (hb hby d34_8) rfl (l' := #[(sR a), (sI fr), (sI to_), (sI (to_ - fr)), .unset]) rfl) ?_
  refine stp (fun _ => XS.iloadN X1.here hx rfl (hb hby d34_9) rfl) ?_
  obtain ⟨T2, h2, k2, X2, e2, E2, A2, B2, st2⟩ := newPE X1 hx hZ (w_ hw (i := 136) rfl) e1 (g := (mkF m 10 #[(sR a), (sI fr), (sI to_), (sI (to_ - fr)), .unset] [(.int (to_ - fr))])) rfl (hb hby d34_10) rfl (own_u0 (own_subN ht hf hle (by omega))) (cap := 24) (by rw [arf_ix (own_subN ht hf hle (by omega))]; omega) (by decide) (by decide) (by decide) (ad := "[I") (by decide)
  obtain ⟨b2, g2⟩ : ∃ z, z = h0.size := ⟨_, rfl⟩
  rw [← g2] at A2 B2 st2
  have ne3 : a ≠ b2 := Nat.ne_of_lt (Nat.lt_of_lt_of_le V_a.lt (Nat.le_of_eq g2.symm))
  have sz_b2 : h0.size ≤ b2 := Nat.le_trans (Keep.refl h0 []).1 (Nat.le_of_eq g2.symm)
  have ge_b2 : n0 ≤ b2 := Nat.le_trans (old_le O0) (Nat.le_of_eq g2.symm)
  have f4 := V_a.ext E2
  have K2 : Keep h0 h2 [] := (Keep.refl h0 []).ext E2
  have O2 := O0.ext E2
  have V2 : Arf Z h2 b2 k2 .int (n - F) (fun _ => (.int (0 : Int32))) := Arf.new A2 (own_u0 (own_subN ht hf hle (by omega))) (arf_ix (own_subN ht hf hle (by omega)))
  refine stp st2 ?_
  show Go p e below T2 (mkF m 12 #[(sR a), (sI fr), (sI to_), (sI (to_ - fr)), .unset] [(.ref b2)]) _
  refine stp (fun _ => XS.astore X2.here hx rfl (hb hby d34_12) rfl rfl (l' := #[(sR a), (sI fr), (sI to_), (sI (to_ - fr)), (sR b2)]) rfl) ?_
  refine stp (fun _ => XS.aloadN X2.here hx rfl (hb hby d34_14) rfl rfl) ?_
  refine stp (fun _ => XS.iloadN X2.here hx rfl (hb hby d34_15) rfl) ?_
  refine stp (fun _ => XS.aload X2.here hx rfl (hb hby d34_16) rfl rfl) ?_
  refine stp (fun _ => XS.iconst X2.here hx rfl (hb hby d34_18)) ?_
  show Go p e below T2 (mkF m 19 #[(sR a), (sI fr), (sI to_), (sI (to_ - fr)), (sR b2)] [(.int (0 : Int32)), (.ref b2), (.int fr), (.ref a)]) _
  refine stp (fun _ => XS.aloadN X2.here hx rfl (hb hby d34_19) rfl rfl) ?_
  obtain ⟨cl5, Ar5, -, S5, -, -⟩ := (id f4)
  refine stp (fun _ => X2.arraylength hx (by rw [e2]; exact Ar5.1) (State.isArrayOf_alike hZ.alike Ar5.2.1) (g := (mkF m 20 #[(sR a), (sI fr), (sI to_), (sI (to_ - fr)), (sR b2)] [(.ref a), (.int (0 : Int32)), (.ref b2), (.int fr), (.ref a)])) rfl rfl (hb hby d34_20) _) ?_
  rw [arf_len S5 (z := (Int32.ofNat n)) (own_nI (by omega))]
  refine stp (fun _ => XS.iloadN X2.here hx rfl (hb hby d34_21) rfl) ?_
  refine stp (fun _ => XS.isub X2.here hx rfl (hb hby d34_22) rfl) ?_
  refine stp (fun _ => XS.iloadN X2.here hx rfl (hb hby d34_23) rfl) ?_
  show Go p e below T2 (mkF m 24 #[(sR a), (sI fr), (sI to_), (sI (to_ - fr)), (sR b2)] [(.int (to_ - fr)), (.int ((Int32.ofNat n) - fr)), (.int (0 : Int32)), (.ref b2), (.int fr), (.ref a)]) _
  obtain ⟨_, _, ⟨T6, L6, k6, n6⟩, -, X6, ⟨Lc6, hQ6, l6, y6, z6⟩, st6⟩ := Jvm.LawKit.callS X2 hx (y := (⟨"java/lang/Math", "min", "(II)I"⟩ : MethodName)) hown (mvT hZ (w_ hw (i := 212) rfl)) (mvT hZ (w_ hw (i := 213) rfl)) (mvT hZ (w_ hw (i := 37) rfl)) (mvT hZ (w_ hw (i := 214) rfl)) (by decide) (backOf (W := 4) (rm_min l Z a0 hw [] ((Int32.ofNat n) - fr) (to_ - fr)  h2 n0 O2 (own_geI (own_subN ht hf hle (by omega)) (own_subN (own_nI (by omega)) hf hle (by omega)) (Nat.le_refl _))) hZ (w_ hw (i := 214) rfl) (w_ hw (i := 37) rfl) (by decide) (by decide)) (g := (mkF m 24 #[(sR a), (sI fr), (sI to_), (sI (to_ - fr)), (sR b2)] [(.int (to_ - fr)), (.int ((Int32.ofNat n) - fr)), (.int (0 : Int32)), (.ref b2), (.int fr), (.ref a)])) rfl (by rw [hml]; rfl) (argsL := [(.int ((Int32.ofNat n) - fr)), (.int (to_ - fr))]) (rest := [(.int (0 : Int32)), (.ref b2), (.int fr), (.ref a)]) (lenOf pd_2 rfl) rfl (by show 2 * 0 + _ ≤ _; exact Nat.le_of_eq rfl) (hb hby d34_24) (fun _ _ => ⟨rfl, e2, (by decide : 1 + 0 ≤ _), (by decide : 24 + 0 ≤ _)⟩)
  dsimp only [Pt.U, Pt.locs, Pt.cells, Pt.slots] at X6 l6 y6 z6 st6 hQ6
  subst y6 z6
  obtain ⟨rfl, N6q, e6⟩ := hQ6
  have N6 : Fr n0 L6 := by rw [l6]; exact Fr.app N1 N6q
  refine stp st6 ?_
  show Go p e below T6 (mkF m 27 #[(sR a), (sI fr), (sI to_), (sI (to_ - fr)), (sR b2)] [(.int ((Int32.ofNat n) - fr)), (.int (0 : Int32)), (.ref b2), (.int fr), (.ref a)]) _
  obtain ⟨T7, h7, L7, g7, X7, e7, N7, K7q, V7, st7⟩ := cpI X6 hx hZ hown (w_ hw (i := 215) rfl) (w_ hw (i := 201) rfl) (w_ hw (i := 199) rfl) (w_ hw (i := 200) rfl) e6 f4 V2 (by omega) (by omega) (sp := fr) (dp := (0 : Int32)) (nn := ((Int32.ofNat n) - fr)) (SP := F) (DP := 0) (NN := n - F) hf rfl (own_subN (own_nI (by omega)) hf hle (by omega)) (by omega) (by omega) N6 ge_b2 (g := (mkF m 27 #[(sR a), (sI fr), (sI to_), (sI (to_ - fr)), (sR b2)] [(.int ((Int32.ofNat n) - fr)), (.int (0 : Int32)), (.ref b2), (.int fr), (.ref a)])) rfl (by rw [hml]; rfl) rfl (hb hby d34_27) (by decide) (W := 0) (by show 2 * 0 + _ ≤ _; exact Nat.le_of_eq rfl) (by decide)
  have f8 := f4.keep K7q (ninS ne3 nin0)
  have f9 := B2.keep K7q
  have K7 : Keep h0 h7 [] := K2.trans K7q (allS (Or.inr sz_b2) all0)
  have O7 := O2.keep K7q (allS ge_b2 all0)
  refine stp st7 ?_
  refine stp (fun _ => XS.aload X7.here hx rfl (hb hby d34_30) rfl rfl) ?_
  refine outA X7 hx hret rfl rfl (hb hby d34_32) hlk (by decide) (by decide) ?_
  rw [e7]
  exact ⟨b2, k2, (n - F), (fun i => (g7 i)), rfl, N7, K7, ⟨ge_b2, sz_b2⟩, V7, rfl⟩
abbrev B33 : ByteArray := jdk_65_method_136_code
theorem d33_0 : Dc B33 0 (.iload_n 1) 1 := by decide +kernel
theorem d33_1 : Dc B33 1 (.ifCond .ne 9) 3 := by decide +kernel
theorem d33_10 : Dc B33 10 (.aload_n 0) 1 := by decide +kernel
theorem d33_11 : Dc B33 11 (.iload_n 1) 1 := by decide +kernel
theorem d33_12 : Dc B33 12 (.iload_n 2) 1 := by decide +kernel
theorem d33_13 : Dc B33 13 (.invokestatic 351) 3 := by decide +kernel
theorem pd_3 : parseMethodDescriptor "([III)[I" = some ⟨[(.array .int), .int, .int], some (.array .int)⟩ := by decide +kernel
theorem d33_16 : Dc B33 16 (.areturn) 1 := by decide +kernel
theorem ef_rm_cor (m : MethodId) (a : Addr) (fr : Int32) (to_ : Int32)  : entryFrame m #[(.ref a), (.int fr), (.int to_)] 3 = mkF m 0 #[(sR a), (sI fr), (sI to_)] [] := by first | (simp [entryFrame, mkF, argsToLocals, Value.category]; done) | rfl
def Q_rm_cor (Z : State) (a : Addr) (fr : Int32) (to_ : Int32) (n : Nat) (f : Nat → Int32) (F : Nat) (k_a : ClassId) (h0 : Heap) (n0 : Nat) (v : Option Value) (h : Heap) (L : List Loc) : Prop := ∃ (r : Addr) (k_r : ClassId) (m : Nat) (g : Nat → Int32), v = some (.ref r) ∧ Fr n0 L ∧ Keep h0 h [] ∧ (n0 ≤ r ∧ h0.size ≤ r) ∧ Arf Z h r k_r .int m (fun i => (.int (g i))) ∧ (m = n - F)
theorem pn_6_ : plainName "java/util/Arrays" = true := by first | (simp [plainName, overriddenIn]; done) | decide +kernel
theorem pn_6 : plainFor (⟨"java/util/Arrays", "copyOfRange", "([III)[I"⟩ : MethodName) = true := plainFor_of_name pn_6_
set_option maxRecDepth 65536 in
set_option maxHeartbeats 40000000 in
theorem rm_cor (l : Launch) (Z : State) (a0 : Array Value) (hw : ∀ d ∈ tables_1, d.before a0 Z = true) (ws : List Jvm.Cond) (a : Addr) (fr : Int32) (to_ : Int32) (n : Nat) (f : Nat → Int32) (F : Nat) (k_a : ClassId) (h0 : Heap) (n0 : Nat) (O0 : Old Z n0 h0) (V_a : Arf Z h0 a k_a .int n (fun i => (.int (f i)))) (hn : n ≤ 24) (hf : fr.toInt = (F : Int)) (ht : to_.toInt = (n : Int)) (hle : F ≤ n) (hF0 : 0 < F) :
    MetFree l (⟨"java/util/Arrays", "copyOfRange", "([III)[I"⟩ : MethodName) (head1 (Jvm.Cond.code (⟨"java/util/Arrays", "copyOfRange", "([III)[I"⟩ : MethodName) jdk_65_method_136_code 3 (some (.array .int)) :: ws) ({ frames := 2, cells := 1, slots := 24, locals := 34 } : Room)) (fun args_ U => args_ = #[(.ref a), (.int fr), (.int to_)] ∧ Z.Warmed39 U.vm ∧ U.heap = h0) (fun _ _ _ _ _ => True) (fun _ U out_ U' => ∃ val_ loc_, out_ = .returned val_ ∧ (Q_rm_cor Z a fr to_ n f F k_a h0 n0) val_ U'.heap loc_ ∧ FrameEnd U out_ U' loc_ ({ frames := 2, cells := 1, slots := 24, locals := 34 } : Room).cells ({ frames := 2, cells := 1, slots := 24, locals := 34 } : Room).slots) := by
  refine start (Q := (Q_rm_cor Z a fr to_ n f F k_a h0 n0)) pn_6 ?_
  intro p e s m below meth c T0 X0 hx hby hml hown hnm hret hlk hZ e0
  replace hown : s.vm.findClass "java/util/Arrays" = some m.cls := hown
  replace hml : c.maxLocals = 3 := hml
  refine goAt (ef_rm_cor m a fr to_ ) ?_
  have N0 := Fr.nil n0
  refine stp (fun _ => XS.iloadN X0.here hx rfl (hb hby d33_0) rfl) ?_
  refine stp (fun _ => XS.ifYes X0.here hx rfl (pc0 := 1) (pc' := 10) rfl (hb hby d33_1) rfl (XT.i0_ne_t (own_nz hf hF0)) (by decide) (by decide)) ?_
  refine stp (fun _ => XS.aloadN X0.here hx rfl (hb hby d33_10) rfl rfl) ?_
  refine stp (fun _ => XS.iloadN X0.here hx rfl (hb hby d33_11) rfl) ?_
  show Go p e below T0 (mkF m 12 #[(sR a), (sI fr), (sI to_)] [(.int fr), (.ref a)]) _
  refine stp (fun _ => XS.iloadN X0.here hx rfl (hb hby d33_12) rfl) ?_
  obtain ⟨_, _, ⟨T1, L1, k1, n1⟩, -, X1, ⟨Lc1, hQ1, l1, y1, z1⟩, st1⟩ := Jvm.LawKit.callS X0 hx (y := (⟨"java/util/Arrays", "copyOfRangeInt", "([III)[I"⟩ : MethodName)) hown (mvT hZ (w_ hw (i := 206) rfl)) (mvT hZ (w_ hw (i := 207) rfl)) (mvT hZ (w_ hw (i := 204) rfl)) (mvT hZ (w_ hw (i := 208) rfl)) (by decide) (backOf (W := 0) (rm_cori l Z a0 hw [] a fr to_ n f F k_a h0 n0 O0 V_a hn hf ht hle) hZ (w_ hw (i := 208) rfl) (w_ hw (i := 204) rfl) (by decide) (by decide)) (g := (mkF m 13 #[(sR a), (sI fr), (sI to_)] [(.int to_), (.int fr), (.ref a)])) rfl (by rw [hml]; rfl) (argsL := [(.ref a), (.int fr), (.int to_)]) (rest := []) (lenOf pd_3 rfl) rfl (by show 2 * 0 + _ ≤ _; exact Nat.le_of_eq rfl) (hb hby d33_13) (fun _ _ => ⟨rfl, e0, (by decide : 0 + 1 ≤ _), (by decide : 0 + 24 ≤ _)⟩)
  dsimp only [Pt.U, Pt.locs, Pt.cells, Pt.slots] at X1 l1 y1 z1 st1 hQ1
  subst y1 z1
  obtain ⟨r1, k_r1, m1, g1, rfl, N1q, K1q, ⟨ge_r1, sz1_r1⟩, r1_0, pq1_0⟩ := hQ1
  have N1 : Fr n0 L1 := by rw [l1]; exact Fr.app N0 N1q
  have ne2 : a ≠ r1 := Nat.ne_of_lt (Nat.lt_of_lt_of_le V_a.lt sz1_r1)
  have f3 := V_a.keep K1q nin0
  have sz_r1 : h0.size ≤ r1 := Nat.le_trans (Keep.refl h0 []).1 sz1_r1
  have K1 : Keep h0 T1.heap [] := (Keep.refl h0 []).trans K1q all0
  have O1 := O0.keep K1q all0
  refine stp st1 ?_
  refine outA X1 hx hret rfl rfl (hb hby d33_16) hlk (by decide) (by decide) ?_
  exact ⟨r1, k_r1, m1, (fun i => (g1 i)), rfl, N1, K1, ⟨ge_r1, sz_r1⟩, r1_0, pq1_0⟩
abbrev B30 : ByteArray := jdk_2097_method_140_code
theorem d30_0 : Dc B30 0 (.aload_n 0) 1 := by decide +kernel
theorem d30_1 : Dc B30 1 (.arraylength) 1 := by decide +kernel
theorem d30_2 : Dc B30 2 (.istore_n 1) 1 := by decide +kernel
theorem d30_3 : Dc B30 3 (.iconst 0) 1 := by decide +kernel
theorem d30_4 : Dc B30 4 (.istore_n 2) 1 := by decide +kernel
theorem d30_5 : Dc B30 5 (.iload_n 2) 1 := by decide +kernel
theorem d30_6 : Dc B30 6 (.iload_n 1) 1 := by decide +kernel
theorem d30_7 : Dc B30 7 (.if_icmp .ge 15) 3 := by decide +kernel
theorem d30_22 : Dc B30 22 (.iload_n 2) 1 := by decide +kernel
theorem d30_23 : Dc B30 23 (.ifCond .ne 7) 3 := by decide +kernel
theorem d30_26 : Dc B30 26 (.aload_n 0) 1 := by decide +kernel
theorem d30_27 : Dc B30 27 (.goto 9) 3 := by decide +kernel
theorem d30_36 : Dc B30 36 (.areturn) 1 := by decide +kernel
theorem d30_30 : Dc B30 30 (.aload_n 0) 1 := by decide +kernel
theorem d30_31 : Dc B30 31 (.iload_n 2) 1 := by decide +kernel
theorem d30_32 : Dc B30 32 (.iload_n 1) 1 := by decide +kernel
theorem d30_33 : Dc B30 33 (.invokestatic 433) 3 := by decide +kernel
theorem d30_10 : Dc B30 10 (.aload_n 0) 1 := by decide +kernel
theorem d30_11 : Dc B30 11 (.iload_n 2) 1 := by decide +kernel
theorem d30_12 : Dc B30 12 (.iaload) 1 := by decide +kernel
theorem d30_13 : Dc B30 13 (.ifCond .ne 9) 3 := by decide +kernel
theorem d30_16 : Dc B30 16 (.iinc 2 1) 3 := by decide +kernel
theorem d30_19 : Dc B30 19 (.goto (-14)) 3 := by decide +kernel
theorem ef_rm_strip (m : MethodId) (a : Addr)  : entryFrame m #[(.ref a)] 3 = mkF m 0 #[(sR a), .unset, .unset] [] := by first | (simp [entryFrame, mkF, argsToLocals, Value.category]; done) | rfl
def Q_rm_strip (Z : State) (a : Addr) (n : Nat) (f : Nat → Int32) (k_a : ClassId) (h0 : Heap) (n0 : Nat) (v : Option Value) (h : Heap) (L : List Loc) : Prop := ∃ (r : Addr) (k_r : ClassId) (m : Nat) (g : Nat → Int32), v = some (.ref r) ∧ Fr n0 L ∧ Keep h0 h [] ∧ Arf Z h r k_r .int m (fun i => (.int (g i))) ∧ (m ≤ n)
theorem pn_7_ : plainName "java/math/BigInteger" = true := by first | (simp [plainName, overriddenIn]; done) | decide +kernel
theorem pn_7 : plainFor (⟨"java/math/BigInteger", "trustedStripLeadingZeroInts", "([I)[I"⟩ : MethodName) = true := plainFor_of_name pn_7_
set_option maxRecDepth 65536 in
set_option maxHeartbeats 40000000 in
theorem rm_strip (l : Launch) (Z : State) (a0 : Array Value) (hw : ∀ d ∈ tables_1, d.before a0 Z = true) (ws : List Jvm.Cond) (a : Addr) (n : Nat) (f : Nat → Int32) (k_a : ClassId) (h0 : Heap) (n0 : Nat) (O0 : Old Z n0 h0) (V_a : Arf Z h0 a k_a .int n (fun i => (.int (f i)))) (hn : n ≤ 24) :
    MetFree l (⟨"java/math/BigInteger", "trustedStripLeadingZeroInts", "([I)[I"⟩ : MethodName) (head1 (Jvm.Cond.code (⟨"java/math/BigInteger", "trustedStripLeadingZeroInts", "([I)[I"⟩ : MethodName) jdk_2097_method_140_code 3 (some (.array .int)) :: ws) ({ frames := 3, cells := 1, slots := 24, locals := 48 } : Room)) (fun args_ U => args_ = #[(.ref a)] ∧ Z.Warmed39 U.vm ∧ U.heap = h0) (fun _ _ _ _ _ => True) (fun _ U out_ U' => ∃ val_ loc_, out_ = .returned val_ ∧ (Q_rm_strip Z a n f k_a h0 n0) val_ U'.heap loc_ ∧ FrameEnd U out_ U' loc_ ({ frames := 3, cells := 1, slots := 24, locals := 48 } : Room).cells ({ frames := 3, cells := 1, slots := 24, locals := 48 } : Room).slots) := by
  refine start (Q := (Q_rm_strip Z a n f k_a h0 n0)) pn_7 ?_
  intro p e s m below meth c T0 X0 hx hby hml hown hnm hret hlk hZ e0
  replace hown : s.vm.findClass "java/math/BigInteger" = some m.cls := hown
  replace hml : c.maxLocals = 3 := hml
  refine goAt (ef_rm_strip m a ) ?_
  have N0 := Fr.nil n0
  refine stp (fun _ => XS.aloadN X0.here hx rfl (hb hby d30_0) rfl rfl) ?_
  obtain ⟨cl1, Ar1, -, S1, -, -⟩ := (id V_a)
  refine stp (fun _ => X0.arraylength hx (by rw [e0]; exact Ar1.1) (State.isArrayOf_alike hZ.alike Ar1.2.1) (g := (mkF m 1 #[(sR a), .unset, .unset] [(.ref a)])) rfl rfl (hb hby d30_1) _) ?_
  rw [arf_len S1 (z := (Int32.ofNat n)) (own_nI (by omega))]
  refine stp (fun _ => XS.istoreN X0.here hx rfl (hb hby d30_2) rfl (l' := #[(sR a), (sI (Int32.ofNat n)), .unset]) rfl) ?_
  refine stp (fun _ => XS.iconst X0.here hx rfl (hb hby d30_3)) ?_
  show Go p e below T0 (mkF m 4 #[(sR a), (sI (Int32.ofNat n)), .unset] [(.int (0 : Int32))]) _
  refine stp (fun _ => XS.istoreN X0.here hx rfl (hb hby d30_4) rfl (l' := #[(sR a), (sI (Int32.ofNat n)), (sI (0 : Int32))]) rfl) ?_
  show Go p e below T0 (mkF m 5 #[(sR a), (sI (Int32.ofNat n)), (sI (0 : Int32))] []) _
  have loop5 : ∀ (d : Nat), ∀ (j : Nat) (i2 : Int32), j + d = n → ∀ (T : State) (locs : List Loc) (hA : Heap) (X : Stand p l e ({ frames := 3, cells := 1, slots := 24, locals := 48 } : Room) s m #[(.ref a)] below meth c T locs 0 0) (eA : T.heap = hA) (NA : Fr n0 locs) (OA : Old Z n0 hA) (KA : Keep h0 hA []) (FA0 : Arf Z hA a k_a .int n (fun i => (.int (f i)))), i2.toInt = (j : Int) → Go p e below T (mkF m 5 #[(sR a), (sI (Int32.ofNat n)), (sI i2)] []) (Po s (Q_rm_strip Z a n f k_a h0 n0) ({ frames := 3, cells := 1, slots := 24, locals := 48 } : Room).cells ({ frames := 3, cells := 1, slots := 24, locals := 48 } : Room).slots) := by
    intro d
    induction d with
    | zero =>
      intro j i2 hd_ T locs hA X eA NA OA KA FA0 hi2
      have hjn : j ≤ n := by omega
      refine stp (fun _ => XS.iloadN X.here hx rfl (hb hby d30_5) rfl) ?_
      refine stp (fun _ => XS.iloadN X.here hx rfl (hb hby d30_6) rfl) ?_
      refine stp (fun _ => XS.icmpYes X.here hx rfl (pc0 := 7) (pc' := 22) rfl (hb hby d30_7) rfl (XT.ii_ge_t (own_geI hi2 (own_nI (by omega)) (by omega))) (by decide) (by decide)) ?_
      refine stp (fun _ => XS.iloadN X.here hx rfl (hb hby d30_22) rfl) ?_
      show Go p e below T (mkF m 23 #[(sR a), (sI (Int32.ofNat n)), (sI i2)] [(.int i2)]) _
      by_cases q23_2 : i2 = 0
      · refine stp (fun _ => XS.ifNo X.here hx rfl (hb hby d30_23) rfl (XT.i0_ne_f q23_2)) ?_
        refine stp (fun _ => XS.aloadN X.here hx rfl (hb hby d30_26) rfl rfl) ?_
        refine stp (fun _ => XS.goto X.here hx rfl (pc0 := 27) (pc' := 36) rfl (hb hby d30_27) (by decide) (by decide)) ?_
        refine outA X hx hret rfl rfl (hb hby d30_36) hlk (by decide) (by decide) ?_
        rw [eA]
        exact ⟨a, k_a, n, (fun i => (f i)), rfl, NA, KA, FA0, (Nat.le_refl _)⟩
      refine stp (fun _ => XS.ifYes X.here hx rfl (pc0 := 23) (pc' := 30) rfl (hb hby d30_23) rfl (XT.i0_ne_t q23_2) (by decide) (by decide)) ?_
      refine stp (fun _ => XS.aloadN X.here hx rfl (hb hby d30_30) rfl rfl) ?_
      refine stp (fun _ => XS.iloadN X.here hx rfl (hb hby d30_31) rfl) ?_
      refine stp (fun _ => XS.iloadN X.here hx rfl (hb hby d30_32) rfl) ?_
      obtain ⟨_, _, ⟨T3, L3, k3, n3⟩, -, X3, ⟨Lc3, hQ3, l3, y3, z3⟩, st3⟩ := Jvm.LawKit.callS X hx (y := (⟨"java/util/Arrays", "copyOfRange", "([III)[I"⟩ : MethodName)) hown (mvT hZ (w_ hw (i := 202) rfl)) (mvT hZ (w_ hw (i := 203) rfl)) (mvT hZ (w_ hw (i := 204) rfl)) (mvT hZ (w_ hw (i := 205) rfl)) (by decide) (backOf (W := 0) (rm_cor l Z a0 hw [] a i2 (Int32.ofNat n) n f j k_a hA n0 OA FA0 hn hi2 (own_nI (by omega)) hjn (own_pj hi2 q23_2)) hZ (w_ hw (i := 205) rfl) (w_ hw (i := 204) rfl) (by decide) (by decide)) (g := (mkF m 33 #[(sR a), (sI (Int32.ofNat n)), (sI i2)] [(.int (Int32.ofNat n)), (.int i2), (.ref a)])) rfl (by rw [hml]; rfl) (argsL := [(.ref a), (.int i2), (.int (Int32.ofNat n))]) (rest := []) (lenOf pd_3 rfl) rfl (by show 2 * 0 + _ ≤ _; exact Nat.le_of_eq rfl) (hb hby d30_33) (fun _ _ => ⟨rfl, eA, (by decide : 0 + 1 ≤ _), (by decide : 0 + 24 ≤ _)⟩)
      dsimp only [Pt.U, Pt.locs, Pt.cells, Pt.slots] at X3 l3 y3 z3 st3 hQ3
      subst y3 z3
      obtain ⟨r3, k_r3, m3, g3, rfl, N3q, K3q, ⟨ge_r3, sz3_r3⟩, r3_0, pq3_0⟩ := hQ3
      have N3 : Fr n0 L3 := by rw [l3]; exact Fr.app NA N3q
      have ne4 : a ≠ r3 := Nat.ne_of_lt (Nat.lt_of_lt_of_le FA0.lt sz3_r3)
      have f5 := FA0.keep K3q nin0
      have sz_r3 : h0.size ≤ r3 := Nat.le_trans KA.1 sz3_r3
      have K3 : Keep h0 T3.heap [] := KA.trans K3q all0
      have O3 := OA.keep K3q all0
      refine stp st3 ?_
      show Go p e below T3 (mkF m 36 #[(sR a), (sI (Int32.ofNat n)), (sI i2)] [(.ref r3)]) _
      refine outA X3 hx hret rfl rfl (hb hby d30_36) hlk (by decide) (by decide) ?_
      exact ⟨r3, k_r3, m3, (fun i => (g3 i)), rfl, N3, K3, r3_0, (by rw [pq3_0]; exact Nat.sub_le _ _)⟩
    | succ d ih =>
      intro j i2 hd_ T locs hA X eA NA OA KA FA0 hi2
      have hjn : j ≤ n := by omega
      have hjl : j < n := by omega
      refine stp (fun _ => XS.iloadN X.here hx rfl (hb hby d30_5) rfl) ?_
      refine stp (fun _ => XS.iloadN X.here hx rfl (hb hby d30_6) rfl) ?_
      refine stp (fun _ => XS.icmpNo X.here hx rfl (hb hby d30_7) rfl (XT.ii_ge_f (own_ltI hi2 (own_nI (by omega)) hjl))) ?_
      refine stp (fun _ => XS.aloadN X.here hx rfl (hb hby d30_10) rfl rfl) ?_
      show Go p e below T (mkF m 11 #[(sR a), (sI (Int32.ofNat n)), (sI i2)] [(.ref a)]) _
      refine stp (fun _ => XS.iloadN X.here hx rfl (hb hby d30_11) rfl) ?_
      obtain ⟨cl6, Ar6, q6, S6, H6, G6⟩ := (id FA0)
      have in6 : ¬ (i2 < 0 ∨ cl6.slots.size ≤ (i2).toNatClampNeg) := arf_in S6 hi2 hjl
      have at6 : cl6.slots[(i2).toNatClampNeg]? = some (.int (f j)) := arf_at H6 hi2 hjl
      refine stp (fun _ => X.iaload hx (j := i2) (v := (.int (f j))) (by rw [eA]; exact Ar6.1) (State.isArrayOf_alike hZ.alike Ar6.2.1) Ar6.2.2 in6 at6 (g := (mkF m 12 #[(sR a), (sI (Int32.ofNat n)), (sI i2)] [(.int i2), (.ref a)])) rfl rfl (hb hby d30_12) _) ?_
      by_cases q13_7 : (f j) = 0
      · refine stp (fun _ => XS.ifNo X.here hx rfl (hb hby d30_13) rfl (XT.i0_ne_f q13_7)) ?_
        refine stp (fun _ => XS.iinc X.here hx rfl (hb hby d30_16) rfl (l' := #[(sR a), (sI (Int32.ofNat n)), (sI (i2 + (1 : Int32)))]) rfl) ?_
        refine stp (fun _ => XS.goto X.here hx rfl (pc0 := 19) (pc' := 5) rfl (hb hby d30_19) (by decide) (by decide)) ?_
        show Go p e below T (mkF m 5 #[(sR a), (sI (Int32.ofNat n)), (sI (i2 + (1 : Int32)))] []) _
        exact ih (j + 1) (i2 + (1 : Int32)) (by omega) T _ hA X eA NA OA KA FA0 (own_incI hi2 (by omega))
      refine stp (fun _ => XS.ifYes X.here hx rfl (pc0 := 13) (pc' := 22) rfl (hb hby d30_13) rfl (XT.i0_ne_t q13_7) (by decide) (by decide)) ?_
      refine stp (fun _ => XS.iloadN X.here hx rfl (hb hby d30_22) rfl) ?_
      by_cases q23_8 : i2 = 0
      · refine stp (fun _ => XS.ifNo X.here hx rfl (hb hby d30_23) rfl (XT.i0_ne_f q23_8)) ?_
        show Go p e below T (mkF m 26 #[(sR a), (sI (Int32.ofNat n)), (sI i2)] []) _
        refine stp (fun _ => XS.aloadN X.here hx rfl (hb hby d30_26) rfl rfl) ?_
        refine stp (fun _ => XS.goto X.here hx rfl (pc0 := 27) (pc' := 36) rfl (hb hby d30_27) (by decide) (by decide)) ?_
        refine outA X hx hret rfl rfl (hb hby d30_36) hlk (by decide) (by decide) ?_
        rw [eA]
        exact ⟨a, k_a, n, (fun i => (f i)), rfl, NA, KA, FA0, (Nat.le_refl _)⟩
      refine stp (fun _ => XS.ifYes X.here hx rfl (pc0 := 23) (pc' := 30) rfl (hb hby d30_23) rfl (XT.i0_ne_t q23_8) (by decide) (by decide)) ?_
      show Go p e below T (mkF m 30 #[(sR a), (sI (Int32.ofNat n)), (sI i2)] []) _
      refine stp (fun _ => XS.aloadN X.here hx rfl (hb hby d30_30) rfl rfl) ?_
      refine stp (fun _ => XS.iloadN X.here hx rfl (hb hby d30_31) rfl) ?_
      refine stp (fun _ => XS.iloadN X.here hx rfl (hb hby d30_32) rfl) ?_
      obtain ⟨_, _, ⟨T9, L9, k9, n9⟩, -, X9, ⟨Lc9, hQ9, l9, y9, z9⟩, st9⟩ := Jvm.LawKit.callS X hx (y := (⟨"java/util/Arrays", "copyOfRange", "([III)[I"⟩ : MethodName)) hown (mvT hZ (w_ hw (i := 202) rfl)) (mvT hZ (w_ hw (i := 203) rfl)) (mvT hZ (w_ hw (i := 204) rfl)) (mvT hZ (w_ hw (i := 205) rfl)) (by decide) (backOf (W := 0) (rm_cor l Z a0 hw [] a i2 (Int32.ofNat n) n f j k_a hA n0 OA FA0 hn hi2 (own_nI (by omega)) hjn (own_pj hi2 q23_8)) hZ (w_ hw (i := 205) rfl) (w_ hw (i := 204) rfl) (by decide) (by decide)) (g := (mkF m 33 #[(sR a), (sI (Int32.ofNat n)), (sI i2)] [(.int (Int32.ofNat n)), (.int i2), (.ref a)])) rfl (by rw [hml]; rfl) (argsL := [(.ref a), (.int i2), (.int (Int32.ofNat n))]) (rest := []) (lenOf pd_3 rfl) rfl (by show 2 * 0 + _ ≤ _; exact Nat.le_of_eq rfl) (hb hby d30_33) (fun _ _ => ⟨rfl, eA, (by decide : 0 + 1 ≤ _), (by decide : 0 + 24 ≤ _)⟩)
      dsimp only [Pt.U, Pt.locs, Pt.cells, Pt.slots] at X9 l9 y9 z9 st9 hQ9
      subst y9 z9
      obtain ⟨r9, k_r9, m9, g9, rfl, N9q, K9q, ⟨ge_r9, sz9_r9⟩, r9_0, pq9_0⟩ := hQ9
      have N9 : Fr n0 L9 := by rw [l9]; exact Fr.app NA N9q
      have ne10 : a ≠ r9 := Nat.ne_of_lt (Nat.lt_of_lt_of_le FA0.lt sz9_r9)
      have f11 := FA0.keep K9q nin0
      have sz_r9 : h0.size ≤ r9 := Nat.le_trans KA.1 sz9_r9
      have K9 : Keep h0 T9.heap [] := KA.trans K9q all0
      have O9 := OA.keep K9q all0
      refine stp st9 ?_
      refine outA X9 hx hret rfl rfl (hb hby d30_36) hlk (by decide) (by decide) ?_
      exact ⟨r9, k_r9, m9, (fun i => (g9 i)), rfl, N9, K9, r9_0, (by rw [pq9_0]; exact Nat.sub_le _ _)⟩
  exact loop5 _ 0 (0 : Int32) (Nat.zero_add _) T0 _ h0 X0 e0 N0 O0 (Keep.refl h0 []) V_a rfl
abbrev B28 : ByteArray := jdk_31_method_10_code
theorem d28_0 : Dc B28 0 (.aload_n 0) 1 := by decide +kernel
theorem d28_1 : Dc B28 1 (.ifnonnull 11) 3 := by decide +kernel
theorem d28_12 : Dc B28 12 (.aload_n 0) 1 := by decide +kernel
theorem d28_13 : Dc B28 13 (.areturn) 1 := by decide +kernel
theorem ef_rm_rnn (m : MethodId) (o : Addr)  : entryFrame m #[(.ref o)] 1 = mkF m 0 #[(sR o)] [] := by first | (simp [entryFrame, mkF, argsToLocals, Value.category]; done) | rfl
def Q_rm_rnn (Z : State) (o : Addr)  (h0 : Heap) (n0 : Nat) (v : Option Value) (h : Heap) (L : List Loc) : Prop := v = some (.ref o) ∧ Fr n0 L ∧ h = h0
theorem pn_8_ : plainName "java/util/Objects" = true := by first | (simp [plainName, overriddenIn]; done) | decide +kernel
theorem pn_8 : plainFor (⟨"java/util/Objects", "requireNonNull", "(Ljava/lang/Object;)Ljava/lang/Object;"⟩ : MethodName) = true := plainFor_of_name pn_8_
set_option maxRecDepth 65536 in
set_option maxHeartbeats 40000000 in
theorem rm_rnn (l : Launch) (Z : State) (a0 : Array Value) (hw : ∀ d ∈ tables_1, d.before a0 Z = true) (ws : List Jvm.Cond) (o : Addr)  (h0 : Heap) (n0 : Nat) (O0 : Old Z n0 h0)  :
    MetFree l (⟨"java/util/Objects", "requireNonNull", "(Ljava/lang/Object;)Ljava/lang/Object;"⟩ : MethodName) (head1 (Jvm.Cond.code (⟨"java/util/Objects", "requireNonNull", "(Ljava/lang/Object;)Ljava/lang/Object;"⟩ : MethodName) jdk_31_method_10_code 1 (some (.object "java/lang/Object")) :: ws) ({ frames := 0, cells := 0, slots := 0, locals := 0 } : Room)) (fun args_ U => args_ = #[(.ref o)] ∧ Z.Warmed39 U.vm ∧ U.heap = h0) (fun _ _ _ _ _ => True) (fun _ U out_ U' => ∃ val_ loc_, out_ = .returned val_ ∧ (Q_rm_rnn Z o h0 n0) val_ U'.heap loc_ ∧ FrameEnd U out_ U' loc_ ({ frames := 0, cells := 0, slots := 0, locals := 0 } : Room).cells ({ frames := 0, cells := 0, slots := 0, locals := 0 } : Room).slots) := by
  refine start (Q := (Q_rm_rnn Z o h0 n0)) pn_8 ?_
  intro p e s m below meth c T0 X0 hx hby hml hown hnm hret hlk hZ e0
  replace hown : s.vm.findClass "java/util/Objects" = some m.cls := hown
  replace hml : c.maxLocals = 1 := hml
  refine goAt (ef_rm_rnn m o ) ?_
  have N0 := Fr.nil n0
  refine stp (fun _ => XS.aloadN X0.here hx rfl (hb hby d28_0) rfl rfl) ?_
  refine stp (fun _ => XS.ifnonnullYes X0.here hx rfl (pc0 := 1) (pc' := 12) rfl (hb hby d28_1) rfl (by decide) (by decide)) ?_
  refine stp (fun _ => XS.aloadN X0.here hx rfl (hb hby d28_12) rfl rfl) ?_
  refine outA X0 hx hret rfl rfl (hb hby d28_13) hlk (by decide) (by decide) ?_
  exact ⟨rfl, N0, e0⟩
abbrev B27 : ByteArray := jdk_2097_method_47_code
theorem d27_0 : Dc B27 0 (.iload_n 1) 1 := by decide +kernel
theorem d27_1 : Dc B27 1 (.ifCond .gt 4) 3 := by decide +kernel
theorem d27_5 : Dc B27 5 (.aload_n 0) 1 := by decide +kernel
theorem d27_6 : Dc B27 6 (.invokestatic 447) 3 := by decide +kernel
theorem pd_4 : parseMethodDescriptor "(Ljava/lang/Object;)Ljava/lang/Object;" = some ⟨[(.object "java/lang/Object")], some (.object "java/lang/Object")⟩ := by decide +kernel
theorem d27_9 : Dc B27 9 (.pop) 1 := by decide +kernel
theorem d27_10 : Dc B27 10 (.iload_n 1) 1 := by decide +kernel
theorem d27_11 : Dc B27 11 (.aload_n 0) 1 := by decide +kernel
theorem d27_12 : Dc B27 12 (.arraylength) 1 := by decide +kernel
theorem d27_13 : Dc B27 13 (.if_icmp .le 14) 3 := by decide +kernel
theorem d27_27 : Dc B27 27 (.return_) 1 := by decide +kernel
theorem ef_rm_mtc (m : MethodId) (a : Addr) (ln : Int32)  : entryFrame m #[(.ref a), (.int ln)] 2 = mkF m 0 #[(sR a), (sI ln)] [] := by first | (simp [entryFrame, mkF, argsToLocals, Value.category]; done) | rfl
def Q_rm_mtc (Z : State) (a : Addr) (ln : Int32) (n : Nat) (f : Nat → Int32) (k_a : ClassId) (h0 : Heap) (n0 : Nat) (v : Option Value) (h : Heap) (L : List Loc) : Prop := v = none ∧ Fr n0 L ∧ h = h0
theorem pn_9_ : plainName "java/math/BigInteger" = true := by first | (simp [plainName, overriddenIn]; done) | decide +kernel
theorem pn_9 : plainFor (⟨"java/math/BigInteger", "multiplyToLenCheck", "([II)V"⟩ : MethodName) = true := plainFor_of_name pn_9_
set_option maxRecDepth 65536 in
set_option maxHeartbeats 40000000 in
theorem rm_mtc (l : Launch) (Z : State) (a0 : Array Value) (hw : ∀ d ∈ tables_1, d.before a0 Z = true) (ws : List Jvm.Cond) (a : Addr) (ln : Int32) (n : Nat) (f : Nat → Int32) (k_a : ClassId) (h0 : Heap) (n0 : Nat) (O0 : Old Z n0 h0) (V_a : Arf Z h0 a k_a .int n (fun i => (.int (f i)))) (hn : n ≤ 24) (hl : ln.toInt = (n : Int)) (hp : 0 < n) :
    MetFree l (⟨"java/math/BigInteger", "multiplyToLenCheck", "([II)V"⟩ : MethodName) (head1 (Jvm.Cond.code (⟨"java/math/BigInteger", "multiplyToLenCheck", "([II)V"⟩ : MethodName) jdk_2097_method_47_code 2 none :: ws) ({ frames := 1, cells := 0, slots := 0, locals := 12 } : Room)) (fun args_ U => args_ = #[(.ref a), (.int ln)] ∧ Z.Warmed39 U.vm ∧ U.heap = h0) (fun _ _ _ _ _ => True) (fun _ U out_ U' => ∃ val_ loc_, out_ = .returned val_ ∧ (Q_rm_mtc Z a ln n f k_a h0 n0) val_ U'.heap loc_ ∧ FrameEnd U out_ U' loc_ ({ frames := 1, cells := 0, slots := 0, locals := 12 } : Room).cells ({ frames := 1, cells := 0, slots := 0, locals := 12 } : Room).slots) := by
  refine start (Q := (Q_rm_mtc Z a ln n f k_a h0 n0)) pn_9 ?_
  intro p e s m below meth c T0 X0 hx hby hml hown hnm hret hlk hZ e0
  replace hown : s.vm.findClass "java/math/BigInteger" = some m.cls := hown
  replace hml : c.maxLocals = 2 := hml
  refine goAt (ef_rm_mtc m a ln ) ?_
  have N0 := Fr.nil n0
  refine stp (fun _ => XS.iloadN X0.here hx rfl (hb hby d27_0) rfl) ?_
  refine stp (fun _ => XS.ifYes X0.here hx rfl (pc0 := 1) (pc' := 5) rfl (hb hby d27_1) rfl (XT.i0_gt_t (own_ltI rfl hl hp)) (by decide) (by decide)) ?_
  refine stp (fun _ => XS.aloadN X0.here hx rfl (hb hby d27_5) rfl rfl) ?_
  obtain ⟨_, _, ⟨T1, L1, k1, n1⟩, -, X1, ⟨Lc1, hQ1, l1, y1, z1⟩, st1⟩ := Jvm.LawKit.callS X0 hx (y := (⟨"java/util/Objects", "requireNonNull", "(Ljava/lang/Object;)Ljava/lang/Object;"⟩ : MethodName)) hown (mvT hZ (w_ hw (i := 182) rfl)) (mvT hZ (w_ hw (i := 183) rfl)) (mvT hZ (w_ hw (i := 184) rfl)) (mvT hZ (w_ hw (i := 185) rfl)) (by decide) (backOf (W := 0) (rm_rnn l Z a0 hw [] a  h0 n0 O0 ) hZ (w_ hw (i := 185) rfl) (w_ hw (i := 184) rfl) (by decide) (by decide)) (g := (mkF m 6 #[(sR a), (sI ln)] [(.ref a)])) rfl (by rw [hml]; rfl) (argsL := [(.ref a)]) (rest := []) (lenOf pd_4 rfl) rfl (by show 2 * 0 + _ ≤ _; exact Nat.le_of_eq rfl) (hb hby d27_6) (fun _ _ => ⟨rfl, e0, (by decide : 0 + 0 ≤ _), (by decide : 0 + 0 ≤ _)⟩)
  dsimp only [Pt.U, Pt.locs, Pt.cells, Pt.slots] at X1 l1 y1 z1 st1 hQ1
  subst y1 z1
  obtain ⟨rfl, N1q, e1⟩ := hQ1
  have N1 : Fr n0 L1 := by rw [l1]; exact Fr.app N0 N1q
  refine stp st1 ?_
  show Go p e below T1 (mkF m 9 #[(sR a), (sI ln)] [(.ref a)]) _
  refine stp (fun _ => XS.pop X1.here hx rfl (hb hby d27_9) rfl rfl) ?_
  refine stp (fun _ => XS.iloadN X1.here hx rfl (hb hby d27_10) rfl) ?_
  refine stp (fun _ => XS.aloadN X1.here hx rfl (hb hby d27_11) rfl rfl) ?_
  obtain ⟨cl2, Ar2, -, S2, -, -⟩ := (id V_a)
  refine stp (fun _ => X1.arraylength hx (by rw [e1]; exact Ar2.1) (State.isArrayOf_alike hZ.alike Ar2.2.1) (g := (mkF m 12 #[(sR a), (sI ln)] [(.ref a), (.int ln)])) rfl rfl (hb hby d27_12) _) ?_
  rw [arf_len S2 (z := (Int32.ofNat n)) (own_nI (by omega))]
  refine stp (fun _ => XS.icmpYes X1.here hx rfl (pc0 := 13) (pc' := 27) rfl (hb hby d27_13) rfl (XT.ii_le_t (own_geI (own_nI (by omega)) hl (Nat.le_refl _))) (by decide) (by decide)) ?_
  show Go p e below T1 (mkF m 27 #[(sR a), (sI ln)] []) _
  refine outV X1 hx hret (hb hby d27_27) hlk (by decide) (by decide) ?_
  exact ⟨rfl, N1, e1⟩
abbrev B29 : ByteArray := jdk_2097_method_46_code
theorem d29_0 : Dc B29 0 (.iload_n 1) 1 := by decide +kernel
theorem d29_1 : Dc B29 1 (.iconst 1) 1 := by decide +kernel
theorem d29_2 : Dc B29 2 (.isub) 1 := by decide +kernel
theorem d29_3 : Dc B29 3 (.istore 5) 2 := by decide +kernel
theorem d29_5 : Dc B29 5 (.iload_n 3) 1 := by decide +kernel
theorem d29_6 : Dc B29 6 (.iconst 1) 1 := by decide +kernel
theorem d29_7 : Dc B29 7 (.isub) 1 := by decide +kernel
theorem d29_8 : Dc B29 8 (.istore 6) 2 := by decide +kernel
theorem d29_10 : Dc B29 10 (.aload 4) 2 := by decide +kernel
theorem d29_12 : Dc B29 12 (.ifnull 12) 3 := by decide +kernel
theorem d29_24 : Dc B29 24 (.iload_n 1) 1 := by decide +kernel
theorem d29_25 : Dc B29 25 (.iload_n 3) 1 := by decide +kernel
theorem d29_26 : Dc B29 26 (.iadd) 1 := by decide +kernel
theorem d29_27 : Dc B29 27 (.newarray .int) 2 := by decide +kernel
theorem d29_29 : Dc B29 29 (.astore 4) 2 := by decide +kernel
theorem d29_31 : Dc B29 31 (.lconst 0) 1 := by decide +kernel
theorem d29_32 : Dc B29 32 (.lstore 7) 2 := by decide +kernel
theorem d29_34 : Dc B29 34 (.iload 6) 2 := by decide +kernel
theorem d29_36 : Dc B29 36 (.istore 9) 2 := by decide +kernel
theorem d29_38 : Dc B29 38 (.iload 6) 2 := by decide +kernel
theorem d29_40 : Dc B29 40 (.iconst 1) 1 := by decide +kernel
theorem d29_41 : Dc B29 41 (.iadd) 1 := by decide +kernel
theorem d29_42 : Dc B29 42 (.iload 5) 2 := by decide +kernel
theorem d29_44 : Dc B29 44 (.iadd) 1 := by decide +kernel
theorem d29_45 : Dc B29 45 (.istore 10) 2 := by decide +kernel
theorem d29_47 : Dc B29 47 (.iload 9) 2 := by decide +kernel
theorem d29_49 : Dc B29 49 (.ifCond .lt 51) 3 := by decide +kernel
theorem d29_100 : Dc B29 100 (.aload 4) 2 := by decide +kernel
theorem d29_102 : Dc B29 102 (.iload 5) 2 := by decide +kernel
theorem d29_104 : Dc B29 104 (.lload 7) 2 := by decide +kernel
theorem d29_106 : Dc B29 106 (.l2i) 1 := by decide +kernel
theorem d29_107 : Dc B29 107 (.iastore) 1 := by decide +kernel
theorem d29_108 : Dc B29 108 (.iload 5) 2 := by decide +kernel
theorem d29_110 : Dc B29 110 (.iconst 1) 1 := by decide +kernel
theorem d29_111 : Dc B29 111 (.isub) 1 := by decide +kernel
theorem d29_112 : Dc B29 112 (.istore 9) 2 := by decide +kernel
theorem d29_114 : Dc B29 114 (.iload 9) 2 := by decide +kernel
theorem d29_116 : Dc B29 116 (.ifCond .lt 97) 3 := by decide +kernel
theorem d29_213 : Dc B29 213 (.aload 4) 2 := by decide +kernel
theorem d29_215 : Dc B29 215 (.areturn) 1 := by decide +kernel
theorem d29_119 : Dc B29 119 (.lconst 0) 1 := by decide +kernel
theorem d29_120 : Dc B29 120 (.lstore 7) 2 := by decide +kernel
theorem d29_122 : Dc B29 122 (.iload 6) 2 := by decide +kernel
theorem d29_124 : Dc B29 124 (.istore 10) 2 := by decide +kernel
theorem d29_126 : Dc B29 126 (.iload 6) 2 := by decide +kernel
theorem d29_128 : Dc B29 128 (.iconst 1) 1 := by decide +kernel
theorem d29_129 : Dc B29 129 (.iadd) 1 := by decide +kernel
theorem d29_130 : Dc B29 130 (.iload 9) 2 := by decide +kernel
theorem d29_132 : Dc B29 132 (.iadd) 1 := by decide +kernel
theorem d29_133 : Dc B29 133 (.istore 11) 2 := by decide +kernel
theorem d29_135 : Dc B29 135 (.iload 10) 2 := by decide +kernel
theorem d29_137 : Dc B29 137 (.ifCond .lt 62) 3 := by decide +kernel
theorem d29_199 : Dc B29 199 (.aload 4) 2 := by decide +kernel
theorem d29_201 : Dc B29 201 (.iload 9) 2 := by decide +kernel
theorem d29_203 : Dc B29 203 (.lload 7) 2 := by decide +kernel
theorem d29_205 : Dc B29 205 (.l2i) 1 := by decide +kernel
theorem d29_206 : Dc B29 206 (.iastore) 1 := by decide +kernel
theorem d29_207 : Dc B29 207 (.iinc 9 (-1)) 3 := by decide +kernel
theorem d29_210 : Dc B29 210 (.goto (-96)) 3 := by decide +kernel
theorem d29_140 : Dc B29 140 (.aload_n 2) 1 := by decide +kernel
theorem d29_141 : Dc B29 141 (.iload 10) 2 := by decide +kernel
theorem d29_143 : Dc B29 143 (.iaload) 1 := by decide +kernel
theorem d29_144 : Dc B29 144 (.i2l) 1 := by decide +kernel
theorem d29_145 : Dc B29 145 (.ldc2_w 130) 3 := by decide +kernel
theorem d29_148 : Dc B29 148 (.land) 1 := by decide +kernel
theorem d29_149 : Dc B29 149 (.aload_n 0) 1 := by decide +kernel
theorem d29_150 : Dc B29 150 (.iload 9) 2 := by decide +kernel
theorem d29_152 : Dc B29 152 (.iaload) 1 := by decide +kernel
theorem d29_153 : Dc B29 153 (.i2l) 1 := by decide +kernel
theorem d29_154 : Dc B29 154 (.ldc2_w 130) 3 := by decide +kernel
theorem d29_157 : Dc B29 157 (.land) 1 := by decide +kernel
theorem d29_158 : Dc B29 158 (.lmul) 1 := by decide +kernel
theorem d29_159 : Dc B29 159 (.aload 4) 2 := by decide +kernel
theorem d29_161 : Dc B29 161 (.iload 11) 2 := by decide +kernel
theorem d29_163 : Dc B29 163 (.iaload) 1 := by decide +kernel
theorem d29_164 : Dc B29 164 (.i2l) 1 := by decide +kernel
theorem d29_165 : Dc B29 165 (.ldc2_w 130) 3 := by decide +kernel
theorem d29_168 : Dc B29 168 (.land) 1 := by decide +kernel
theorem d29_169 : Dc B29 169 (.ladd) 1 := by decide +kernel
theorem d29_170 : Dc B29 170 (.lload 7) 2 := by decide +kernel
theorem d29_172 : Dc B29 172 (.ladd) 1 := by decide +kernel
theorem d29_173 : Dc B29 173 (.lstore 12) 2 := by decide +kernel
theorem d29_175 : Dc B29 175 (.aload 4) 2 := by decide +kernel
theorem d29_177 : Dc B29 177 (.iload 11) 2 := by decide +kernel
theorem d29_179 : Dc B29 179 (.lload 12) 2 := by decide +kernel
theorem d29_181 : Dc B29 181 (.l2i) 1 := by decide +kernel
theorem d29_182 : Dc B29 182 (.iastore) 1 := by decide +kernel
theorem d29_183 : Dc B29 183 (.lload 12) 2 := by decide +kernel
theorem d29_185 : Dc B29 185 (.bipush 32) 2 := by decide +kernel
theorem d29_187 : Dc B29 187 (.lushr) 1 := by decide +kernel
theorem d29_188 : Dc B29 188 (.lstore 7) 2 := by decide +kernel
theorem d29_190 : Dc B29 190 (.iinc 10 (-1)) 3 := by decide +kernel
theorem d29_193 : Dc B29 193 (.iinc 11 (-1)) 3 := by decide +kernel
theorem d29_196 : Dc B29 196 (.goto (-61)) 3 := by decide +kernel
theorem d29_52 : Dc B29 52 (.aload_n 2) 1 := by decide +kernel
theorem d29_53 : Dc B29 53 (.iload 9) 2 := by decide +kernel
theorem d29_55 : Dc B29 55 (.iaload) 1 := by decide +kernel
theorem d29_56 : Dc B29 56 (.i2l) 1 := by decide +kernel
theorem d29_57 : Dc B29 57 (.ldc2_w 130) 3 := by decide +kernel
theorem d29_60 : Dc B29 60 (.land) 1 := by decide +kernel
theorem d29_61 : Dc B29 61 (.aload_n 0) 1 := by decide +kernel
theorem d29_62 : Dc B29 62 (.iload 5) 2 := by decide +kernel
theorem d29_64 : Dc B29 64 (.iaload) 1 := by decide +kernel
theorem d29_65 : Dc B29 65 (.i2l) 1 := by decide +kernel
theorem d29_66 : Dc B29 66 (.ldc2_w 130) 3 := by decide +kernel
theorem d29_69 : Dc B29 69 (.land) 1 := by decide +kernel
theorem d29_70 : Dc B29 70 (.lmul) 1 := by decide +kernel
theorem d29_71 : Dc B29 71 (.lload 7) 2 := by decide +kernel
theorem d29_73 : Dc B29 73 (.ladd) 1 := by decide +kernel
theorem d29_74 : Dc B29 74 (.lstore 11) 2 := by decide +kernel
theorem d29_76 : Dc B29 76 (.aload 4) 2 := by decide +kernel
theorem d29_78 : Dc B29 78 (.iload 10) 2 := by decide +kernel
theorem d29_80 : Dc B29 80 (.lload 11) 2 := by decide +kernel
theorem d29_82 : Dc B29 82 (.l2i) 1 := by decide +kernel
theorem d29_83 : Dc B29 83 (.iastore) 1 := by decide +kernel
theorem d29_84 : Dc B29 84 (.lload 11) 2 := by decide +kernel
theorem d29_86 : Dc B29 86 (.bipush 32) 2 := by decide +kernel
theorem d29_88 : Dc B29 88 (.lushr) 1 := by decide +kernel
theorem d29_89 : Dc B29 89 (.lstore 7) 2 := by decide +kernel
theorem d29_91 : Dc B29 91 (.iinc 9 (-1)) 3 := by decide +kernel
theorem d29_94 : Dc B29 94 (.iinc 10 (-1)) 3 := by decide +kernel
theorem d29_97 : Dc B29 97 (.goto (-50)) 3 := by decide +kernel
theorem ef_rm_impl (m : MethodId) (xa : Addr) (xl : Int32) (ya : Addr) (yl : Int32)  : entryFrame m #[(.ref xa), (.int xl), (.ref ya), (.int yl), .null] 14 = mkF m 0 #[(sR xa), (sI xl), (sR ya), (sI yl), .val .null, .unset, .unset, .unset, .unset, .unset, .unset, .unset, .unset, .unset] [] := by first | (simp [entryFrame, mkF, argsToLocals, Value.category]; done) | rfl
def Q_rm_impl (Z : State) (xa : Addr) (xl : Int32) (ya : Addr) (yl : Int32) (nx : Nat) (fx : Nat → Int32) (ny : Nat) (fy : Nat → Int32) (k_xa : ClassId) (k_ya : ClassId) (h0 : Heap) (n0 : Nat) (v : Option Value) (h : Heap) (L : List Loc) : Prop := ∃ (r : Addr) (k_r : ClassId) (m : Nat) (g : Nat → Int32), v = some (.ref r) ∧ Fr n0 L ∧ Keep h0 h [] ∧ (n0 ≤ r ∧ h0.size ≤ r) ∧ Arf Z h r k_r .int m (fun i => (.int (g i))) ∧ (m = nx + ny)
theorem pn_10_ : plainName "java/math/BigInteger" = true := by first | (simp [plainName, overriddenIn]; done) | decide +kernel
theorem pn_10 : plainFor (⟨"java/math/BigInteger", "implMultiplyToLen", "([II[II[I)[I"⟩ : MethodName) = true := plainFor_of_name pn_10_
set_option maxRecDepth 65536 in
set_option maxHeartbeats 40000000 in
theorem rm_impl (l : Launch) (Z : State) (a0 : Array Value) (hw : ∀ d ∈ tables_1, d.before a0 Z = true) (ws : List Jvm.Cond) (xa : Addr) (xl : Int32) (ya : Addr) (yl : Int32) (nx : Nat) (fx : Nat → Int32) (ny : Nat) (fy : Nat → Int32) (k_xa : ClassId) (k_ya : ClassId) (h0 : Heap) (n0 : Nat) (O0 : Old Z n0 h0) (V_xa : Arf Z h0 xa k_xa .int nx (fun i => (.int (fx i)))) (V_ya : Arf Z h0 ya k_ya .int ny (fun i => (.int (fy i)))) (hxl : xl.toInt = (nx : Int)) (hyl : yl.toInt = (ny : Int)) (hx0 : 0 < nx) (hy0 : 0 < ny) (hxy : nx + ny ≤ 24) :
    MetFree l (⟨"java/math/BigInteger", "implMultiplyToLen", "([II[II[I)[I"⟩ : MethodName) (head1 (Jvm.Cond.code (⟨"java/math/BigInteger", "implMultiplyToLen", "([II[II[I)[I"⟩ : MethodName) jdk_2097_method_46_code 14 (some (.array .int)) :: ws) ({ frames := 0, cells := 1, slots := 24, locals := 0 } : Room)) (fun args_ U => args_ = #[(.ref xa), (.int xl), (.ref ya), (.int yl), .null] ∧ Z.Warmed39 U.vm ∧ U.heap = h0) (fun _ _ _ _ _ => True) (fun _ U out_ U' => ∃ val_ loc_, out_ = .returned val_ ∧ (Q_rm_impl Z xa xl ya yl nx fx ny fy k_xa k_ya h0 n0) val_ U'.heap loc_ ∧ FrameEnd U out_ U' loc_ ({ frames := 0, cells := 1, slots := 24, locals := 0 } : Room).cells ({ frames := 0, cells := 1, slots := 24, locals := 0 } : Room).slots) := by
  refine start (Q := (Q_rm_impl Z xa xl ya yl nx fx ny fy k_xa k_ya h0 n0)) pn_10 ?_
  intro p e s m below meth c T0 X0 hx hby hml hown hnm hret hlk hZ e0
  replace hown : s.vm.findClass "java/math/BigInteger" = some m.cls := hown
  replace hml : c.maxLocals = 14 := hml
  refine goAt (ef_rm_impl m xa xl ya yl ) ?_
  have N0 := Fr.nil n0
  refine stp (fun _ => XS.iloadN X0.here hx rfl (hb hby d29_0) rfl) ?_
  refine stp (fun _ => XS.iconst X0.here hx rfl (hb hby d29_1)) ?_
  refine stp (fun _ => XS.isub X0.here hx rfl (hb hby d29_2) rfl) ?_
  refine stp (fun _ => XS.istore X0.here hx rfl (hb hby d29_3) rfl (l' := #[(sR xa), (sI xl), (sR ya), (sI yl), .val .null, (sI (xl - (1 : Int32))), .unset, .unset, .unset, .unset, .unset, .unset, .unset, .unset]) rfl) ?_
  show Go p e below T0 (mkF m 5 #[(sR xa), (sI xl), (sR ya), (sI yl), .val .null, (sI (xl - (1 : Int32))), .unset, .unset, .unset, .unset, .unset, .unset, .unset, .unset] []) _
  refine stp (fun _ => XS.iloadN X0.here hx rfl (hb hby d29_5) rfl) ?_
  refine stp (fun _ => XS.iconst X0.here hx rfl (hb hby d29_6)) ?_
  refine stp (fun _ => XS.isub X0.here hx rfl (hb hby d29_7) rfl) ?_
  refine stp (fun _ => XS.istore X0.here hx rfl (hb hby d29_8) rfl (l' := #[(sR xa), (sI xl), (sR ya), (sI yl), .val .null, (sI (xl - (1 : Int32))), (sI (yl - (1 : Int32))), .unset, .unset, .unset, .unset, .unset, .unset, .unset]) rfl) ?_
  refine stp (fun _ => XS.aload X0.here hx rfl (hb hby d29_10) rfl rfl) ?_
  show Go p e below T0 (mkF m 12 #[(sR xa), (sI xl), (sR ya), (sI yl), .val .null, (sI (xl - (1 : Int32))), (sI (yl - (1 : Int32))), .unset, .unset, .unset, .unset, .unset, .unset, .unset] [.null]) _
  refine stp (fun _ => XS.ifnullYes X0.here hx rfl (pc0 := 12) (pc' := 24) rfl (hb hby d29_12) rfl (by decide) (by decide)) ?_
  refine stp (fun _ => XS.iloadN X0.here hx rfl (hb hby d29_24) rfl) ?_
  refine stp (fun _ => XS.iloadN X0.here hx rfl (hb hby d29_25) rfl) ?_
  refine stp (fun _ => XS.iadd X0.here hx rfl (hb hby d29_26) rfl) ?_
  obtain ⟨T1, h1, k1, X1, e1, E1, A1, B1, st1⟩ := newPE X0 hx hZ (w_ hw (i := 136) rfl) e0 (g := (mkF m 27 #[(sR xa), (sI xl), (sR ya), (sI yl), .val .null, (sI (xl - (1 : Int32))), (sI (yl - (1 : Int32))), .unset, .unset, .unset, .unset, .unset, .unset, .unset] [(.int (xl + yl))])) rfl (hb hby d29_27) rfl (own_u0 (own_addN hxl hyl (by omega))) (cap := 24) (by rw [arf_ix (own_addN hxl hyl (by omega))]; omega) (by decide) (by decide) (by decide) (ad := "[I") (by decide)
  obtain ⟨b1, g1⟩ : ∃ z, z = h0.size := ⟨_, rfl⟩
  rw [← g1] at A1 B1 st1
  have ne2 : xa ≠ b1 := Nat.ne_of_lt (Nat.lt_of_lt_of_le V_xa.lt (Nat.le_of_eq g1.symm))
  have ne3 : ya ≠ b1 := Nat.ne_of_lt (Nat.lt_of_lt_of_le V_ya.lt (Nat.le_of_eq g1.symm))
  have sz_b1 : h0.size ≤ b1 := Nat.le_trans (Keep.refl h0 []).1 (Nat.le_of_eq g1.symm)
  have ge_b1 : n0 ≤ b1 := Nat.le_trans (old_le O0) (Nat.le_of_eq g1.symm)
  have f4 := V_xa.ext E1
  have f5 := V_ya.ext E1
  have K1 : Keep h0 h1 [] := (Keep.refl h0 []).ext E1
  have O1 := O0.ext E1
  have V1 : Arf Z h1 b1 k1 .int (nx + ny) (fun _ => (.int (0 : Int32))) := Arf.new A1 (own_u0 (own_addN hxl hyl (by omega))) (arf_ix (own_addN hxl hyl (by omega)))
  refine stp st1 ?_
  show Go p e below T1 (mkF m 29 #[(sR xa), (sI xl), (sR ya), (sI yl), .val .null, (sI (xl - (1 : Int32))), (sI (yl - (1 : Int32))), .unset, .unset, .unset, .unset, .unset, .unset, .unset] [(.ref b1)]) _
  refine stp (fun _ => XS.astore X1.here hx rfl (hb hby d29_29) rfl rfl (l' := #[(sR xa), (sI xl), (sR ya), (sI yl), (sR b1), (sI (xl - (1 : Int32))), (sI (yl - (1 : Int32))), .unset, .unset, .unset, .unset, .unset, .unset, .unset]) rfl) ?_
  refine stp (fun _ => XS.lconst X1.here hx rfl (hb hby d29_31)) ?_
  refine stp (fun _ => XS.lstore X1.here hx rfl (hb hby d29_32) rfl (l' := #[(sR xa), (sI xl), (sR ya), (sI yl), (sR b1), (sI (xl - (1 : Int32))), (sI (yl - (1 : Int32))), (sJ (0 : Int64)), .second, .unset, .unset, .unset, .unset, .unset]) rfl) ?_
  refine stp (fun _ => XS.iload X1.here hx rfl (hb hby d29_34) rfl) ?_
  refine stp (fun _ => XS.istore X1.here hx rfl (hb hby d29_36) rfl (l' := #[(sR xa), (sI xl), (sR ya), (sI yl), (sR b1), (sI (xl - (1 : Int32))), (sI (yl - (1 : Int32))), (sJ (0 : Int64)), .second, (sI (yl - (1 : Int32))), .unset, .unset, .unset, .unset]) rfl) ?_
  show Go p e below T1 (mkF m 38 #[(sR xa), (sI xl), (sR ya), (sI yl), (sR b1), (sI (xl - (1 : Int32))), (sI (yl - (1 : Int32))), (sJ (0 : Int64)), .second, (sI (yl - (1 : Int32))), .unset, .unset, .unset, .unset] []) _
  refine stp (fun _ => XS.iload X1.here hx rfl (hb hby d29_38) rfl) ?_
  refine stp (fun _ => XS.iconst X1.here hx rfl (hb hby d29_40)) ?_
  refine stp (fun _ => XS.iadd X1.here hx rfl (hb hby d29_41) rfl) ?_
  refine stp (fun _ => XS.iload X1.here hx rfl (hb hby d29_42) rfl) ?_
  refine stp (fun _ => XS.iadd X1.here hx rfl (hb hby d29_44) rfl) ?_
  show Go p e below T1 (mkF m 45 #[(sR xa), (sI xl), (sR ya), (sI yl), (sR b1), (sI (xl - (1 : Int32))), (sI (yl - (1 : Int32))), (sJ (0 : Int64)), .second, (sI (yl - (1 : Int32))), .unset, .unset, .unset, .unset] [(.int (((yl - (1 : Int32)) + (1 : Int32)) + (xl - (1 : Int32))))]) _
  refine stp (fun _ => XS.istore X1.here hx rfl (hb hby d29_45) rfl (l' := #[(sR xa), (sI xl), (sR ya), (sI yl), (sR b1), (sI (xl - (1 : Int32))), (sI (yl - (1 : Int32))), (sJ (0 : Int64)), .second, (sI (yl - (1 : Int32))), (sI (((yl - (1 : Int32)) + (1 : Int32)) + (xl - (1 : Int32)))), .unset, .unset, .unset]) rfl) ?_
  show Go p e below T1 (mkF m 47 #[(sR xa), (sI xl), (sR ya), (sI yl), (sR b1), (sI (xl - (1 : Int32))), (sI (yl - (1 : Int32))), (sJ (0 : Int64)), .second, (sI (yl - (1 : Int32))), (sI (((yl - (1 : Int32)) + (1 : Int32)) + (xl - (1 : Int32)))), .unset, .unset, .unset] []) _
  have loop47 : ∀ (d : Nat), ∀ (i9 : Int32) (i10 : Int32) (cy : Int64) (gg : Nat → Int32) (s11 : Slot) (s12 : Slot), (d ≤ ny ∧ i9.toInt = (d : Int) - 1 ∧ i10.toInt = (d : Int) - 1 + nx) → ∀ (T : State) (locs : List Loc) (hA : Heap) (X : Stand p l e ({ frames := 0, cells := 1, slots := 24, locals := 0 } : Room) s m #[(.ref xa), (.int xl), (.ref ya), (.int yl), .null] below meth c T locs 1 24) (eA : T.heap = hA) (NA : Fr n0 locs) (OA : Old Z n0 hA) (KA : Keep h0 hA []) (FA0 : Arf Z hA xa k_xa .int nx (fun i => (.int (fx i)))) (FA1 : Arf Z hA ya k_ya .int ny (fun i => (.int (fy i)))) (FA2 : Arf Z hA b1 k1 .int (nx + ny) (fun x => (.int (gg x)))), ((s11 = .unset ∧ s12 = .unset ∧ d = ny) ∨ (∃ v, s11 = .val (.long v) ∧ s12 = .second)) → Go p e below T (mkF m 47 #[(sR xa), (sI xl), (sR ya), (sI yl), (sR b1), (sI (xl - (1 : Int32))), (sI (yl - (1 : Int32))), (sJ cy), .second, (sI i9), (sI i10), s11, s12, .unset] []) (Po s (Q_rm_impl Z xa xl ya yl nx fx ny fy k_xa k_ya h0 n0) ({ frames := 0, cells := 1, slots := 24, locals := 0 } : Room).cells ({ frames := 0, cells := 1, slots := 24, locals := 0 } : Room).slots) := by
    intro d
    induction d with
    | zero =>
      intro i9 i10 cy gg s11 s12 hd_ T locs hA X eA NA OA KA FA0 FA1 FA2 hs
      obtain ⟨m1, m2, m3⟩ := hd_
      rcases hs with ⟨-, -, e3⟩ | ⟨v11, e1, e2⟩
      · exact absurd e3 (by omega)
      subst e1 e2
      refine stp (fun _ => XS.iload X.here hx rfl (hb hby d29_47) rfl) ?_
      refine stp (fun _ => XS.ifYes X.here hx rfl (pc0 := 49) (pc' := 100) rfl (hb hby d29_49) rfl (XT.i0_lt_t (own_neg1 (by omega))) (by decide) (by decide)) ?_
      refine stp (fun _ => XS.aload X.here hx rfl (hb hby d29_100) rfl rfl) ?_
      refine stp (fun _ => XS.iload X.here hx rfl (hb hby d29_102) rfl) ?_
      show Go p e below T (mkF m 104 #[(sR xa), (sI xl), (sR ya), (sI yl), (sR b1), (sI (xl - (1 : Int32))), (sI (yl - (1 : Int32))), (sJ cy), .second, (sI i9), (sI i10), (sJ v11), .second, .unset] [(.int (xl - (1 : Int32))), (.ref b1)]) _
      refine stp (fun _ => XS.lload X.here hx rfl (hb hby d29_104) rfl) ?_
      refine stp (fun _ => XS.l2i X.here hx rfl (hb hby d29_106) rfl) ?_
      obtain ⟨cl6, Ar6, q6, S6, H6, G6⟩ := (id FA2)
      have in6 : ¬ ((xl - (1 : Int32)) < 0 ∨ cl6.slots.size ≤ ((xl - (1 : Int32))).toNatClampNeg) := arf_in S6 (own_xs hxl hx0 (by omega)) (by omega)
      obtain ⟨T6, h6, X6, e6, W6, st6⟩ := stI X hx hZ eA Ar6 (j := (xl - (1 : Int32))) in6 (g := (mkF m 107 #[(sR xa), (sI xl), (sR ya), (sI yl), (sR b1), (sI (xl - (1 : Int32))), (sI (yl - (1 : Int32))), (sJ cy), .second, (sI i9), (sI i10), (sJ v11), .second, .unset] [(.int (cy.toInt32)), (.int (xl - (1 : Int32))), (.ref b1)])) rfl rfl (hb hby d29_107)
      have V6 := Arf.set Ar6 q6 S6 H6 G6 rfl (arf_ix (own_xs hxl hx0 (by omega)) ▸ W6) (by omega)
      replace V6 : Arf Z h6 b1 k1 .int (nx + ny) (fun x => (.int (if x = (nx - 1) then (cy.toInt32) else (gg x)))) := V6.congr (fun x _ => by split <;> rfl)
      have f7 := FA0.other W6 ne2
      have f8 := FA1.other W6 ne3
      have K6 : Keep h0 h6 [] := KA.wr W6 (Or.inr sz_b1)
      have O6 := OA.wr W6 ge_b1
      have N6 := Fr.snoc X6 NA ge_b1
      refine stp st6 ?_
      refine stp (fun _ => XS.iload X6.here hx rfl (hb hby d29_108) rfl) ?_
      refine stp (fun _ => XS.iconst X6.here hx rfl (hb hby d29_110)) ?_
      show Go p e below T6 (mkF m 111 #[(sR xa), (sI xl), (sR ya), (sI yl), (sR b1), (sI (xl - (1 : Int32))), (sI (yl - (1 : Int32))), (sJ cy), .second, (sI i9), (sI i10), (sJ v11), .second, .unset] [(.int (1 : Int32)), (.int (xl - (1 : Int32)))]) _
      refine stp (fun _ => XS.isub X6.here hx rfl (hb hby d29_111) rfl) ?_
      refine stp (fun _ => XS.istore X6.here hx rfl (hb hby d29_112) rfl (l' := #[(sR xa), (sI xl), (sR ya), (sI yl), (sR b1), (sI (xl - (1 : Int32))), (sI (yl - (1 : Int32))), (sJ cy), .second, (sI ((xl - (1 : Int32)) - (1 : Int32))), (sI i10), (sJ v11), .second, .unset]) rfl) ?_
      show Go p e below T6 (mkF m 114 #[(sR xa), (sI xl), (sR ya), (sI yl), (sR b1), (sI (xl - (1 : Int32))), (sI (yl - (1 : Int32))), (sJ cy), .second, (sI ((xl - (1 : Int32)) - (1 : Int32))), (sI i10), (sJ v11), .second, .unset] []) _
      have loop114 : ∀ (d2 : Nat), ∀ (i9 : Int32) (i10 : Int32) (cy : Int64) (gg : Nat → Int32) (t11 : Slot) (t12 : Slot) (t13 : Slot), (d2 + 1 ≤ nx ∧ i9.toInt = (d2 : Int) - 1) → ∀ (T : State) (locs : List Loc) (hA : Heap) (X : Stand p l e ({ frames := 0, cells := 1, slots := 24, locals := 0 } : Room) s m #[(.ref xa), (.int xl), (.ref ya), (.int yl), .null] below meth c T locs 1 24) (eA : T.heap = hA) (NA : Fr n0 locs) (OA : Old Z n0 hA) (KA : Keep h0 hA []) (FA0 : Arf Z hA xa k_xa .int nx (fun i => (.int (fx i)))) (FA1 : Arf Z hA ya k_ya .int ny (fun i => (.int (fy i)))) (FA2 : Arf Z hA b1 k1 .int (nx + ny) (fun x => (.int (gg x)))), ((∃ v, t11 = .val (.long v) ∧ t12 = .second ∧ t13 = .unset) ∨ (∃ x v, t11 = .val (.int x) ∧ t12 = .val (.long v) ∧ t13 = .second)) → Go p e below T (mkF m 114 #[(sR xa), (sI xl), (sR ya), (sI yl), (sR b1), (sI (xl - (1 : Int32))), (sI (yl - (1 : Int32))), (sJ cy), .second, (sI i9), (sI i10), t11, t12, t13] []) (Po s (Q_rm_impl Z xa xl ya yl nx fx ny fy k_xa k_ya h0 n0) ({ frames := 0, cells := 1, slots := 24, locals := 0 } : Room).cells ({ frames := 0, cells := 1, slots := 24, locals := 0 } : Room).slots) := by
        intro d2
        induction d2 with
        | zero =>
          intro i9 i10 cy gg t11 t12 t13 hd_ T locs hA X eA NA OA KA FA0 FA1 FA2 ht
          refine stp (fun _ => XS.iload X.here hx rfl (hb hby d29_114) rfl) ?_
          show Go p e below T (mkF m 116 #[(sR xa), (sI xl), (sR ya), (sI yl), (sR b1), (sI (xl - (1 : Int32))), (sI (yl - (1 : Int32))), (sJ cy), .second, (sI i9), (sI i10), t11, t12, t13] [(.int i9)]) _
          refine stp (fun _ => XS.ifYes X.here hx rfl (pc0 := 116) (pc' := 213) rfl (hb hby d29_116) rfl (XT.i0_lt_t (own_neg1 (by omega))) (by decide) (by decide)) ?_
          refine stp (fun _ => XS.aload X.here hx rfl (hb hby d29_213) rfl rfl) ?_
          refine outA X hx hret rfl rfl (hb hby d29_215) hlk (by decide) (by decide) ?_
          rw [eA]
          exact ⟨b1, k1, (nx + ny), (fun x => (gg x)), rfl, NA, KA, ⟨ge_b1, sz_b1⟩, FA2, rfl⟩
        | succ d2 ih2 =>
          intro i9 i10 cy gg t11 t12 t13 hd_ T locs hA X eA NA OA KA FA0 FA1 FA2 ht
          refine stp (fun _ => XS.iload X.here hx rfl (hb hby d29_114) rfl) ?_
          show Go p e below T (mkF m 116 #[(sR xa), (sI xl), (sR ya), (sI yl), (sR b1), (sI (xl - (1 : Int32))), (sI (yl - (1 : Int32))), (sJ cy), .second, (sI i9), (sI i10), t11, t12, t13] [(.int i9)]) _
          obtain ⟨m1, m2⟩ := hd_
          have ji : i9.toInt = ((d2 : Nat) : Int) := by omega
          rcases ht with ⟨v11, e1, e2, e3⟩ | ⟨x11, v12, e1, e2, e3⟩
          · subst e1 e2 e3
            refine stp (fun _ => XS.ifNo X.here hx rfl (hb hby d29_116) rfl (XT.i0_lt_f (own_u0 ji))) ?_
            refine stp (fun _ => XS.lconst X.here hx rfl (hb hby d29_119)) ?_
            refine stp (fun _ => XS.lstore X.here hx rfl (hb hby d29_120) rfl (l' := #[(sR xa), (sI xl), (sR ya), (sI yl), (sR b1), (sI (xl - (1 : Int32))), (sI (yl - (1 : Int32))), (sJ (0 : Int64)), .second, (sI i9), (sI i10), (sJ v11), .second, .unset]) rfl) ?_
            refine stp (fun _ => XS.iload X.here hx rfl (hb hby d29_122) rfl) ?_
            show Go p e below T (mkF m 124 #[(sR xa), (sI xl), (sR ya), (sI yl), (sR b1), (sI (xl - (1 : Int32))), (sI (yl - (1 : Int32))), (sJ (0 : Int64)), .second, (sI i9), (sI i10), (sJ v11), .second, .unset] [(.int (yl - (1 : Int32)))]) _
            refine stp (fun _ => XS.istore X.here hx rfl (hb hby d29_124) rfl (l' := #[(sR xa), (sI xl), (sR ya), (sI yl), (sR b1), (sI (xl - (1 : Int32))), (sI (yl - (1 : Int32))), (sJ (0 : Int64)), .second, (sI i9), (sI (yl - (1 : Int32))), (sJ v11), .second, .unset]) rfl) ?_
            refine stp (fun _ => XS.iload X.here hx rfl (hb hby d29_126) rfl) ?_
            refine stp (fun _ => XS.iconst X.here hx rfl (hb hby d29_128)) ?_
            refine stp (fun _ => XS.iadd X.here hx rfl (hb hby d29_129) rfl) ?_
            refine stp (fun _ => XS.iload X.here hx rfl (hb hby d29_130) rfl) ?_
            show Go p e below T (mkF m 132 #[(sR xa), (sI xl), (sR ya), (sI yl), (sR b1), (sI (xl - (1 : Int32))), (sI (yl - (1 : Int32))), (sJ (0 : Int64)), .second, (sI i9), (sI (yl - (1 : Int32))), (sJ v11), .second, .unset] [(.int i9), (.int ((yl - (1 : Int32)) + (1 : Int32)))]) _
            refine stp (fun _ => XS.iadd X.here hx rfl (hb hby d29_132) rfl) ?_
            refine stp (fun _ => XS.istore X.here hx rfl (hb hby d29_133) rfl (l' := #[(sR xa), (sI xl), (sR ya), (sI yl), (sR b1), (sI (xl - (1 : Int32))), (sI (yl - (1 : Int32))), (sJ (0 : Int64)), .second, (sI i9), (sI (yl - (1 : Int32))), (sI (((yl - (1 : Int32)) + (1 : Int32)) + i9)), .unset, .unset]) rfl) ?_
            show Go p e below T (mkF m 135 #[(sR xa), (sI xl), (sR ya), (sI yl), (sR b1), (sI (xl - (1 : Int32))), (sI (yl - (1 : Int32))), (sJ (0 : Int64)), .second, (sI i9), (sI (yl - (1 : Int32))), (sI (((yl - (1 : Int32)) + (1 : Int32)) + i9)), .unset, .unset] []) _
            have loop135 : ∀ (d3 : Nat), ∀ (i10 : Int32) (i11 : Int32) (cy : Int64) (gg : Nat → Int32) (s12 : Slot) (s13 : Slot), (d3 ≤ ny ∧ i10.toInt = (d3 : Int) - 1 ∧ i11.toInt = (d3 : Int) - 1 + (d2 + 1)) → ∀ (T : State) (locs : List Loc) (hA : Heap) (X : Stand p l e ({ frames := 0, cells := 1, slots := 24, locals := 0 } : Room) s m #[(.ref xa), (.int xl), (.ref ya), (.int yl), .null] below meth c T locs 1 24) (eA : T.heap = hA) (NA : Fr n0 locs) (OA : Old Z n0 hA) (KA : Keep h0 hA []) (FA0 : Arf Z hA xa k_xa .int nx (fun i => (.int (fx i)))) (FA1 : Arf Z hA ya k_ya .int ny (fun i => (.int (fy i)))) (FA2 : Arf Z hA b1 k1 .int (nx + ny) (fun x => (.int (gg x)))), ((s12 = .unset ∧ s13 = .unset ∧ d3 = ny) ∨ (∃ v, s12 = .val (.long v) ∧ s13 = .second)) → Go p e below T (mkF m 135 #[(sR xa), (sI xl), (sR ya), (sI yl), (sR b1), (sI (xl - (1 : Int32))), (sI (yl - (1 : Int32))), (sJ cy), .second, (sI i9), (sI i10), (sI i11), s12, s13] []) (Po s (Q_rm_impl Z xa xl ya yl nx fx ny fy k_xa k_ya h0 n0) ({ frames := 0, cells := 1, slots := 24, locals := 0 } : Room).cells ({ frames := 0, cells := 1, slots := 24, locals := 0 } : Room).slots) := by
              intro d3
              induction d3 with
              | zero =>
                intro i10 i11 cy gg s12 s13 hd_ T locs hA X eA NA OA KA FA0 FA1 FA2 hs
                obtain ⟨m3, m4, m5⟩ := hd_
                rcases hs with ⟨-, -, e3⟩ | ⟨v12, e1, e2⟩
                · exact absurd e3 (by omega)
                subst e1 e2
                refine stp (fun _ => XS.iload X.here hx rfl (hb hby d29_135) rfl) ?_
                refine stp (fun _ => XS.ifYes X.here hx rfl (pc0 := 137) (pc' := 199) rfl (hb hby d29_137) rfl (XT.i0_lt_t (own_neg1 (by omega))) (by decide) (by decide)) ?_
                refine stp (fun _ => XS.aload X.here hx rfl (hb hby d29_199) rfl rfl) ?_
                refine stp (fun _ => XS.iload X.here hx rfl (hb hby d29_201) rfl) ?_
                show Go p e below T (mkF m 203 #[(sR xa), (sI xl), (sR ya), (sI yl), (sR b1), (sI (xl - (1 : Int32))), (sI (yl - (1 : Int32))), (sJ cy), .second, (sI i9), (sI i10), (sI i11), (sJ v12), .second] [(.int i9), (.ref b1)]) _
                refine stp (fun _ => XS.lload X.here hx rfl (hb hby d29_203) rfl) ?_
                refine stp (fun _ => XS.l2i X.here hx rfl (hb hby d29_205) rfl) ?_
                obtain ⟨cl10, Ar10, q10, S10, H10, G10⟩ := (id FA2)
                have in10 : ¬ (i9 < 0 ∨ cl10.slots.size ≤ (i9).toNatClampNeg) := arf_in S10 ji (by omega)
                obtain ⟨T10, h10, X10, e10, W10, st10⟩ := stI X hx hZ eA Ar10 (j := i9) in10 (g := (mkF m 206 #[(sR xa), (sI xl), (sR ya), (sI yl), (sR b1), (sI (xl - (1 : Int32))), (sI (yl - (1 : Int32))), (sJ cy), .second, (sI i9), (sI i10), (sI i11), (sJ v12), .second] [(.int (cy.toInt32)), (.int i9), (.ref b1)])) rfl rfl (hb hby d29_206)
                have V10 := Arf.set Ar10 q10 S10 H10 G10 rfl (arf_ix ji ▸ W10) (by omega)
                replace V10 : Arf Z h10 b1 k1 .int (nx + ny) (fun x => (.int (if x = d2 then (cy.toInt32) else (gg x)))) := V10.congr (fun x _ => by split <;> rfl)
                have f11 := FA0.other W10 ne2
                have f12 := FA1.other W10 ne3
                have K10 : Keep h0 h10 [] := KA.wr W10 (Or.inr sz_b1)
                have O10 := OA.wr W10 ge_b1
                have N10 := Fr.snoc X10 NA ge_b1
                refine stp st10 ?_
                refine stp (fun _ => XS.iinc X10.here hx rfl (hb hby d29_207) rfl (l' := #[(sR xa), (sI xl), (sR ya), (sI yl), (sR b1), (sI (xl - (1 : Int32))), (sI (yl - (1 : Int32))), (sJ cy), .second, (sI (i9 + (-1 : Int32))), (sI i10), (sI i11), (sJ v12), .second]) rfl) ?_
                refine stp (fun _ => XS.goto X10.here hx rfl (pc0 := 210) (pc' := 114) rfl (hb hby d29_210) (by decide) (by decide)) ?_
                show Go p e below T10 (mkF m 114 #[(sR xa), (sI xl), (sR ya), (sI yl), (sR b1), (sI (xl - (1 : Int32))), (sI (yl - (1 : Int32))), (sJ cy), .second, (sI (i9 + (-1 : Int32))), (sI i10), (sI i11), (sJ v12), .second] []) _
                exact ih2 (i9 + (-1 : Int32)) i10 cy _ ((sI i11)) ((sJ v12)) (.second) ⟨by omega, own_dec ji (by omega)⟩ T10 _ h10 X10 e10 N10 O10 K10 f11 f12 V10 (Or.inr ⟨_, _, rfl, rfl, rfl⟩)
              | succ d3 ih3 =>
                intro i10 i11 cy gg s12 s13 hd_ T locs hA X eA NA OA KA FA0 FA1 FA2 hs
                obtain ⟨m3, m4, m5⟩ := hd_
                have jy : i10.toInt = ((d3 : Nat) : Int) := by omega
                have jz : i11.toInt = ((d3 + d2 + 1 : Nat) : Int) := by omega
                refine stp (fun _ => XS.iload X.here hx rfl (hb hby d29_135) rfl) ?_
                refine stp (fun _ => XS.ifNo X.here hx rfl (hb hby d29_137) rfl (XT.i0_lt_f (own_u0 jy))) ?_
                refine stp (fun _ => XS.aloadN X.here hx rfl (hb hby d29_140) rfl rfl) ?_
                refine stp (fun _ => XS.iload X.here hx rfl (hb hby d29_141) rfl) ?_
                show Go p e below T (mkF m 143 #[(sR xa), (sI xl), (sR ya), (sI yl), (sR b1), (sI (xl - (1 : Int32))), (sI (yl - (1 : Int32))), (sJ cy), .second, (sI i9), (sI i10), (sI i11), s12, s13] [(.int i10), (.ref ya)]) _
                obtain ⟨cl14, Ar14, q14, S14, H14, G14⟩ := (id FA1)
                have in14 : ¬ (i10 < 0 ∨ cl14.slots.size ≤ (i10).toNatClampNeg) := arf_in S14 jy (by omega)
                have at14 : cl14.slots[(i10).toNatClampNeg]? = some (.int (fy d3)) := arf_at H14 jy (by omega)
                refine stp (fun _ => X.iaload hx (j := i10) (v := (.int (fy d3))) (by rw [eA]; exact Ar14.1) (State.isArrayOf_alike hZ.alike Ar14.2.1) Ar14.2.2 in14 at14 (g := (mkF m 143 #[(sR xa), (sI xl), (sR ya), (sI yl), (sR b1), (sI (xl - (1 : Int32))), (sI (yl - (1 : Int32))), (sJ cy), .second, (sI i9), (sI i10), (sI i11), s12, s13] [(.int i10), (.ref ya)])) rfl rfl (hb hby d29_143) _) ?_
                refine stp (fun _ => XS.i2l X.here hx rfl (hb hby d29_144) rfl) ?_
                refine stp (fun _ => X.ldc2Long hx hown (mvT hZ (w_ hw (i := 161) rfl)) (g := (mkF m 145 #[(sR xa), (sI xl), (sR ya), (sI yl), (sR b1), (sI (xl - (1 : Int32))), (sI (yl - (1 : Int32))), (sJ cy), .second, (sI i9), (sI i10), (sI i11), s12, s13] [(.long ((fy d3).toInt64))])) rfl (hb hby d29_145) _) ?_
                refine stp (fun _ => XS.land X.here hx rfl (hb hby d29_148) rfl) ?_
                refine stp (fun _ => XS.aloadN X.here hx rfl (hb hby d29_149) rfl rfl) ?_
                show Go p e below T (mkF m 150 #[(sR xa), (sI xl), (sR ya), (sI yl), (sR b1), (sI (xl - (1 : Int32))), (sI (yl - (1 : Int32))), (sJ cy), .second, (sI i9), (sI i10), (sI i11), s12, s13] [(.ref xa), (.long (((fy d3).toInt64) &&& (4294967295 : Int64)))]) _
                refine stp (fun _ => XS.iload X.here hx rfl (hb hby d29_150) rfl) ?_
                obtain ⟨cl15, Ar15, q15, S15, H15, G15⟩ := (id FA0)
                have in15 : ¬ (i9 < 0 ∨ cl15.slots.size ≤ (i9).toNatClampNeg) := arf_in S15 ji (by omega)
                have at15 : cl15.slots[(i9).toNatClampNeg]? = some (.int (fx d2)) := arf_at H15 ji (by omega)
                refine stp (fun _ => X.iaload hx (j := i9) (v := (.int (fx d2))) (by rw [eA]; exact Ar15.1) (State.isArrayOf_alike hZ.alike Ar15.2.1) Ar15.2.2 in15 at15 (g := (mkF m 152 #[(sR xa), (sI xl), (sR ya), (sI yl), (sR b1), (sI (xl - (1 : Int32))), (sI (yl - (1 : Int32))), (sJ cy), .second, (sI i9), (sI i10), (sI i11), s12, s13] [(.int i9), (.ref xa), (.long (((fy d3).toInt64) &&& (4294967295 : Int64)))])) rfl rfl (hb hby d29_152) _) ?_
                refine stp (fun _ => XS.i2l X.here hx rfl (hb hby d29_153) rfl) ?_
                refine stp (fun _ => X.ldc2Long hx hown (mvT hZ (w_ hw (i := 161) rfl)) (g := (mkF m 154 #[(sR xa), (sI xl), (sR ya), (sI yl), (sR b1), (sI (xl - (1 : Int32))), (sI (yl - (1 : Int32))), (sJ cy), .second, (sI i9), (sI i10), (sI i11), s12, s13] [(.long ((fx d2).toInt64)), (.long (((fy d3).toInt64) &&& (4294967295 : Int64)))])) rfl (hb hby d29_154) _) ?_
                refine stp (fun _ => XS.land X.here hx rfl (hb hby d29_157) rfl) ?_
                show Go p e below T (mkF m 158 #[(sR xa), (sI xl), (sR ya), (sI yl), (sR b1), (sI (xl - (1 : Int32))), (sI (yl - (1 : Int32))), (sJ cy), .second, (sI i9), (sI i10), (sI i11), s12, s13] [(.long (((fx d2).toInt64) &&& (4294967295 : Int64))), (.long (((fy d3).toInt64) &&& (4294967295 : Int64)))]) _
                refine stp (fun _ => XS.lmul X.here hx rfl (hb hby d29_158) rfl) ?_
                refine stp (fun _ => XS.aload X.here hx rfl (hb hby d29_159) rfl rfl) ?_
                refine stp (fun _ => XS.iload X.here hx rfl (hb hby d29_161) rfl) ?_
                obtain ⟨cl16, Ar16, q16, S16, H16, G16⟩ := (id FA2)
                have in16 : ¬ (i11 < 0 ∨ cl16.slots.size ≤ (i11).toNatClampNeg) := arf_in S16 jz (by omega)
                have at16 : cl16.slots[(i11).toNatClampNeg]? = some (.int (gg (d3 + d2 + 1))) := arf_at H16 jz (by omega)
                refine stp (fun _ => X.iaload hx (j := i11) (v := (.int (gg (d3 + d2 + 1)))) (by rw [eA]; exact Ar16.1) (State.isArrayOf_alike hZ.alike Ar16.2.1) Ar16.2.2 in16 at16 (g := (mkF m 163 #[(sR xa), (sI xl), (sR ya), (sI yl), (sR b1), (sI (xl - (1 : Int32))), (sI (yl - (1 : Int32))), (sJ cy), .second, (sI i9), (sI i10), (sI i11), s12, s13] [(.int i11), (.ref b1), (.long ((((fy d3).toInt64) &&& (4294967295 : Int64)) * (((fx d2).toInt64) &&& (4294967295 : Int64))))])) rfl rfl (hb hby d29_163) _) ?_
                refine stp (fun _ => XS.i2l X.here hx rfl (hb hby d29_164) rfl) ?_
                show Go p e below T (mkF m 165 #[(sR xa), (sI xl), (sR ya), (sI yl), (sR b1), (sI (xl - (1 : Int32))), (sI (yl - (1 : Int32))), (sJ cy), .second, (sI i9), (sI i10), (sI i11), s12, s13] [(.long ((gg (d3 + d2 + 1)).toInt64)), (.long ((((fy d3).toInt64) &&& (4294967295 : Int64)) * (((fx d2).toInt64) &&& (4294967295 : Int64))))]) _
                refine stp (fun _ => X.ldc2Long hx hown (mvT hZ (w_ hw (i := 161) rfl)) (g := (mkF m 165 #[(sR xa), (sI xl), (sR ya), (sI yl), (sR b1), (sI (xl - (1 : Int32))), (sI (yl - (1 : Int32))), (sJ cy), .second, (sI i9), (sI i10), (sI i11), s12, s13] [(.long ((gg (d3 + d2 + 1)).toInt64)), (.long ((((fy d3).toInt64) &&& (4294967295 : Int64)) * (((fx d2).toInt64) &&& (4294967295 : Int64))))])) rfl (hb hby d29_165) _) ?_
                refine stp (fun _ => XS.land X.here hx rfl (hb hby d29_168) rfl) ?_
                refine stp (fun _ => XS.ladd X.here hx rfl (hb hby d29_169) rfl) ?_
                refine stp (fun _ => XS.lload X.here hx rfl (hb hby d29_170) rfl) ?_
                refine stp (fun _ => XS.ladd X.here hx rfl (hb hby d29_172) rfl) ?_
                show Go p e below T (mkF m 173 #[(sR xa), (sI xl), (sR ya), (sI yl), (sR b1), (sI (xl - (1 : Int32))), (sI (yl - (1 : Int32))), (sJ cy), .second, (sI i9), (sI i10), (sI i11), s12, s13] [(.long ((((((fy d3).toInt64) &&& (4294967295 : Int64)) * (((fx d2).toInt64) &&& (4294967295 : Int64))) + (((gg (d3 + d2 + 1)).toInt64) &&& (4294967295 : Int64))) + cy))]) _
                refine stp (fun _ => XS.lstore X.here hx rfl (hb hby d29_173) rfl (l' := #[(sR xa), (sI xl), (sR ya), (sI yl), (sR b1), (sI (xl - (1 : Int32))), (sI (yl - (1 : Int32))), (sJ cy), .second, (sI i9), (sI i10), (sI i11), (sJ ((((((fy d3).toInt64) &&& (4294967295 : Int64)) * (((fx d2).toInt64) &&& (4294967295 : Int64))) + (((gg (d3 + d2 + 1)).toInt64) &&& (4294967295 : Int64))) + cy)), .second]) (by rcases hs with ⟨e1, e2, -⟩ | ⟨v, e1, e2⟩ <;> subst e1 e2 <;> rfl)) ?_
                refine stp (fun _ => XS.aload X.here hx rfl (hb hby d29_175) rfl rfl) ?_
                refine stp (fun _ => XS.iload X.here hx rfl (hb hby d29_177) rfl) ?_
                refine stp (fun _ => XS.lload X.here hx rfl (hb hby d29_179) rfl) ?_
                refine stp (fun _ => XS.l2i X.here hx rfl (hb hby d29_181) rfl) ?_
                show Go p e below T (mkF m 182 #[(sR xa), (sI xl), (sR ya), (sI yl), (sR b1), (sI (xl - (1 : Int32))), (sI (yl - (1 : Int32))), (sJ cy), .second, (sI i9), (sI i10), (sI i11), (sJ ((((((fy d3).toInt64) &&& (4294967295 : Int64)) * (((fx d2).toInt64) &&& (4294967295 : Int64))) + (((gg (d3 + d2 + 1)).toInt64) &&& (4294967295 : Int64))) + cy)), .second] [(.int (((((((fy d3).toInt64) &&& (4294967295 : Int64)) * (((fx d2).toInt64) &&& (4294967295 : Int64))) + (((gg (d3 + d2 + 1)).toInt64) &&& (4294967295 : Int64))) + cy).toInt32)), (.int i11), (.ref b1)]) _
                obtain ⟨cl17, Ar17, q17, S17, H17, G17⟩ := (id FA2)
                have in17 : ¬ (i11 < 0 ∨ cl17.slots.size ≤ (i11).toNatClampNeg) := arf_in S17 jz (by omega)
                obtain ⟨T17, h17, X17, e17, W17, st17⟩ := stI X hx hZ eA Ar17 (j := i11) in17 (g := (mkF m 182 #[(sR xa), (sI xl), (sR ya), (sI yl), (sR b1), (sI (xl - (1 : Int32))), (sI (yl - (1 : Int32))), (sJ cy), .second, (sI i9), (sI i10), (sI i11), (sJ ((((((fy d3).toInt64) &&& (4294967295 : Int64)) * (((fx d2).toInt64) &&& (4294967295 : Int64))) + (((gg (d3 + d2 + 1)).toInt64) &&& (4294967295 : Int64))) + cy)), .second] [(.int (((((((fy d3).toInt64) &&& (4294967295 : Int64)) * (((fx d2).toInt64) &&& (4294967295 : Int64))) + (((gg (d3 + d2 + 1)).toInt64) &&& (4294967295 : Int64))) + cy).toInt32)), (.int i11), (.ref b1)])) rfl rfl (hb hby d29_182)
                have V17 := Arf.set Ar17 q17 S17 H17 G17 rfl (arf_ix jz ▸ W17) (by omega)
                replace V17 : Arf Z h17 b1 k1 .int (nx + ny) (fun x => (.int (if x = (d3 + d2 + 1) then (((((((fy d3).toInt64) &&& (4294967295 : Int64)) * (((fx d2).toInt64) &&& (4294967295 : Int64))) + (((gg (d3 + d2 + 1)).toInt64) &&& (4294967295 : Int64))) + cy).toInt32) else (gg x)))) := V17.congr (fun x _ => by split <;> rfl)
                have f18 := FA0.other W17 ne2
                have f19 := FA1.other W17 ne3
                have K17 : Keep h0 h17 [] := KA.wr W17 (Or.inr sz_b1)
                have O17 := OA.wr W17 ge_b1
                have N17 := Fr.snoc X17 NA ge_b1
                refine stp st17 ?_
                refine stp (fun _ => XS.lload X17.here hx rfl (hb hby d29_183) rfl) ?_
                refine stp (fun _ => XS.bipush X17.here hx rfl (hb hby d29_185)) ?_
                refine stp (fun _ => XS.lushr X17.here hx rfl (hb hby d29_187) rfl) ?_
                refine stp (fun _ => XS.lstore X17.here hx rfl (hb hby d29_188) rfl (l' := #[(sR xa), (sI xl), (sR ya), (sI yl), (sR b1), (sI (xl - (1 : Int32))), (sI (yl - (1 : Int32))), (sJ ((((((((fy d3).toInt64) &&& (4294967295 : Int64)) * (((fx d2).toInt64) &&& (4294967295 : Int64))) + (((gg (d3 + d2 + 1)).toInt64) &&& (4294967295 : Int64))) + cy).toUInt64 >>> ((32 : Int32) &&& 0x3f).toInt64.toUInt64).toInt64)), .second, (sI i9), (sI i10), (sI i11), (sJ ((((((fy d3).toInt64) &&& (4294967295 : Int64)) * (((fx d2).toInt64) &&& (4294967295 : Int64))) + (((gg (d3 + d2 + 1)).toInt64) &&& (4294967295 : Int64))) + cy)), .second]) rfl) ?_
                show Go p e below T17 (mkF m 190 #[(sR xa), (sI xl), (sR ya), (sI yl), (sR b1), (sI (xl - (1 : Int32))), (sI (yl - (1 : Int32))), (sJ ((((((((fy d3).toInt64) &&& (4294967295 : Int64)) * (((fx d2).toInt64) &&& (4294967295 : Int64))) + (((gg (d3 + d2 + 1)).toInt64) &&& (4294967295 : Int64))) + cy).toUInt64 >>> ((32 : Int32) &&& 0x3f).toInt64.toUInt64).toInt64)), .second, (sI i9), (sI i10), (sI i11), (sJ ((((((fy d3).toInt64) &&& (4294967295 : Int64)) * (((fx d2).toInt64) &&& (4294967295 : Int64))) + (((gg (d3 + d2 + 1)).toInt64) &&& (4294967295 : Int64))) + cy)), .second] []) _
                refine stp (fun _ => XS.iinc X17.here hx rfl (hb hby d29_190) rfl (l' := #[(sR xa), (sI xl), (sR ya), (sI yl), (sR b1), (sI (xl - (1 : Int32))), (sI (yl - (1 : Int32))), (sJ ((((((((fy d3).toInt64) &&& (4294967295 : Int64)) * (((fx d2).toInt64) &&& (4294967295 : Int64))) + (((gg (d3 + d2 + 1)).toInt64) &&& (4294967295 : Int64))) + cy).toUInt64 >>> ((32 : Int32) &&& 0x3f).toInt64.toUInt64).toInt64)), .second, (sI i9), (sI (i10 + (-1 : Int32))), (sI i11), (sJ ((((((fy d3).toInt64) &&& (4294967295 : Int64)) * (((fx d2).toInt64) &&& (4294967295 : Int64))) + (((gg (d3 + d2 + 1)).toInt64) &&& (4294967295 : Int64))) + cy)), .second]) rfl) ?_
                refine stp (fun _ => XS.iinc X17.here hx rfl (hb hby d29_193) rfl (l' := #[(sR xa), (sI xl), (sR ya), (sI yl), (sR b1), (sI (xl - (1 : Int32))), (sI (yl - (1 : Int32))), (sJ ((((((((fy d3).toInt64) &&& (4294967295 : Int64)) * (((fx d2).toInt64) &&& (4294967295 : Int64))) + (((gg (d3 + d2 + 1)).toInt64) &&& (4294967295 : Int64))) + cy).toUInt64 >>> ((32 : Int32) &&& 0x3f).toInt64.toUInt64).toInt64)), .second, (sI i9), (sI (i10 + (-1 : Int32))), (sI (i11 + (-1 : Int32))), (sJ ((((((fy d3).toInt64) &&& (4294967295 : Int64)) * (((fx d2).toInt64) &&& (4294967295 : Int64))) + (((gg (d3 + d2 + 1)).toInt64) &&& (4294967295 : Int64))) + cy)), .second]) rfl) ?_
                refine stp (fun _ => XS.goto X17.here hx rfl (pc0 := 196) (pc' := 135) rfl (hb hby d29_196) (by decide) (by decide)) ?_
                show Go p e below T17 (mkF m 135 #[(sR xa), (sI xl), (sR ya), (sI yl), (sR b1), (sI (xl - (1 : Int32))), (sI (yl - (1 : Int32))), (sJ ((((((((fy d3).toInt64) &&& (4294967295 : Int64)) * (((fx d2).toInt64) &&& (4294967295 : Int64))) + (((gg (d3 + d2 + 1)).toInt64) &&& (4294967295 : Int64))) + cy).toUInt64 >>> ((32 : Int32) &&& 0x3f).toInt64.toUInt64).toInt64)), .second, (sI i9), (sI (i10 + (-1 : Int32))), (sI (i11 + (-1 : Int32))), (sJ ((((((fy d3).toInt64) &&& (4294967295 : Int64)) * (((fx d2).toInt64) &&& (4294967295 : Int64))) + (((gg (d3 + d2 + 1)).toInt64) &&& (4294967295 : Int64))) + cy)), .second] []) _
                exact ih3 (i10 + (-1 : Int32)) (i11 + (-1 : Int32)) ((((((((fy d3).toInt64) &&& (4294967295 : Int64)) * (((fx d2).toInt64) &&& (4294967295 : Int64))) + (((gg (d3 + d2 + 1)).toInt64) &&& (4294967295 : Int64))) + cy).toUInt64 >>> ((32 : Int32) &&& 0x3f).toInt64.toUInt64).toInt64) _ ((sJ ((((((fy d3).toInt64) &&& (4294967295 : Int64)) * (((fx d2).toInt64) &&& (4294967295 : Int64))) + (((gg (d3 + d2 + 1)).toInt64) &&& (4294967295 : Int64))) + cy))) (.second) ⟨by omega, own_dec jy (by omega), own_decy jz (by omega)⟩ T17 _ h17 X17 e17 N17 O17 K17 f18 f19 V17 (Or.inr ⟨_, rfl, rfl⟩)
            exact loop135 ny (yl - (1 : Int32)) (((yl - (1 : Int32)) + (1 : Int32)) + i9) (0 : Int64) (fun x => (gg x)) (.unset) (.unset) ⟨Nat.le_refl _, own_i9 hyl hy0 (by omega), own_i11 hyl ji hy0 (by omega) (by omega)⟩ T _ hA X eA NA OA KA FA0 FA1 FA2 (Or.inl ⟨rfl, rfl, rfl⟩)
          · subst e1 e2 e3
            refine stp (fun _ => XS.ifNo X.here hx rfl (hb hby d29_116) rfl (XT.i0_lt_f (own_u0 ji))) ?_
            refine stp (fun _ => XS.lconst X.here hx rfl (hb hby d29_119)) ?_
            refine stp (fun _ => XS.lstore X.here hx rfl (hb hby d29_120) rfl (l' := #[(sR xa), (sI xl), (sR ya), (sI yl), (sR b1), (sI (xl - (1 : Int32))), (sI (yl - (1 : Int32))), (sJ (0 : Int64)), .second, (sI i9), (sI i10), (sI x11), (sJ v12), .second]) rfl) ?_
            refine stp (fun _ => XS.iload X.here hx rfl (hb hby d29_122) rfl) ?_
            show Go p e below T (mkF m 124 #[(sR xa), (sI xl), (sR ya), (sI yl), (sR b1), (sI (xl - (1 : Int32))), (sI (yl - (1 : Int32))), (sJ (0 : Int64)), .second, (sI i9), (sI i10), (sI x11), (sJ v12), .second] [(.int (yl - (1 : Int32)))]) _
            refine stp (fun _ => XS.istore X.here hx rfl (hb hby d29_124) rfl (l' := #[(sR xa), (sI xl), (sR ya), (sI yl), (sR b1), (sI (xl - (1 : Int32))), (sI (yl - (1 : Int32))), (sJ (0 : Int64)), .second, (sI i9), (sI (yl - (1 : Int32))), (sI x11), (sJ v12), .second]) rfl) ?_
            refine stp (fun _ => XS.iload X.here hx rfl (hb hby d29_126) rfl) ?_
            refine stp (fun _ => XS.iconst X.here hx rfl (hb hby d29_128)) ?_
            refine stp (fun _ => XS.iadd X.here hx rfl (hb hby d29_129) rfl) ?_
            refine stp (fun _ => XS.iload X.here hx rfl (hb hby d29_130) rfl) ?_
            show Go p e below T (mkF m 132 #[(sR xa), (sI xl), (sR ya), (sI yl), (sR b1), (sI (xl - (1 : Int32))), (sI (yl - (1 : Int32))), (sJ (0 : Int64)), .second, (sI i9), (sI (yl - (1 : Int32))), (sI x11), (sJ v12), .second] [(.int i9), (.int ((yl - (1 : Int32)) + (1 : Int32)))]) _
            refine stp (fun _ => XS.iadd X.here hx rfl (hb hby d29_132) rfl) ?_
            refine stp (fun _ => XS.istore X.here hx rfl (hb hby d29_133) rfl (l' := #[(sR xa), (sI xl), (sR ya), (sI yl), (sR b1), (sI (xl - (1 : Int32))), (sI (yl - (1 : Int32))), (sJ (0 : Int64)), .second, (sI i9), (sI (yl - (1 : Int32))), (sI (((yl - (1 : Int32)) + (1 : Int32)) + i9)), (sJ v12), .second]) rfl) ?_
            show Go p e below T (mkF m 135 #[(sR xa), (sI xl), (sR ya), (sI yl), (sR b1), (sI (xl - (1 : Int32))), (sI (yl - (1 : Int32))), (sJ (0 : Int64)), .second, (sI i9), (sI (yl - (1 : Int32))), (sI (((yl - (1 : Int32)) + (1 : Int32)) + i9)), (sJ v12), .second] []) _
            have loop135 : ∀ (d3 : Nat), ∀ (i10 : Int32) (i11 : Int32) (cy : Int64) (gg : Nat → Int32) (s12 : Slot) (s13 : Slot), (d3 ≤ ny ∧ i10.toInt = (d3 : Int) - 1 ∧ i11.toInt = (d3 : Int) - 1 + (d2 + 1)) → ∀ (T : State) (locs : List Loc) (hA : Heap) (X : Stand p l e ({ frames := 0, cells := 1, slots := 24, locals := 0 } : Room) s m #[(.ref xa), (.int xl), (.ref ya), (.int yl), .null] below meth c T locs 1 24) (eA : T.heap = hA) (NA : Fr n0 locs) (OA : Old Z n0 hA) (KA : Keep h0 hA []) (FA0 : Arf Z hA xa k_xa .int nx (fun i => (.int (fx i)))) (FA1 : Arf Z hA ya k_ya .int ny (fun i => (.int (fy i)))) (FA2 : Arf Z hA b1 k1 .int (nx + ny) (fun x => (.int (gg x)))), ((s12 = .unset ∧ s13 = .unset ∧ d3 = ny) ∨ (∃ v, s12 = .val (.long v) ∧ s13 = .second)) → Go p e below T (mkF m 135 #[(sR xa), (sI xl), (sR ya), (sI yl), (sR b1), (sI (xl - (1 : Int32))), (sI (yl - (1 : Int32))), (sJ cy), .second, (sI i9), (sI i10), (sI i11), s12, s13] []) (Po s (Q_rm_impl Z xa xl ya yl nx fx ny fy k_xa k_ya h0 n0) ({ frames := 0, cells := 1, slots := 24, locals := 0 } : Room).cells ({ frames := 0, cells := 1, slots := 24, locals := 0 } : Room).slots) := by
              intro d3
              induction d3 with
              | zero =>
                intro i10 i11 cy gg s12 s13 hd_ T locs hA X eA NA OA KA FA0 FA1 FA2 hs
                obtain ⟨m3, m4, m5⟩ := hd_
                rcases hs with ⟨-, -, e3⟩ | ⟨v12, e1, e2⟩
                · exact absurd e3 (by omega)
                subst e1 e2
                refine stp (fun _ => XS.iload X.here hx rfl (hb hby d29_135) rfl) ?_
                refine stp (fun _ => XS.ifYes X.here hx rfl (pc0 := 137) (pc' := 199) rfl (hb hby d29_137) rfl (XT.i0_lt_t (own_neg1 (by omega))) (by decide) (by decide)) ?_
                refine stp (fun _ => XS.aload X.here hx rfl (hb hby d29_199) rfl rfl) ?_
                refine stp (fun _ => XS.iload X.here hx rfl (hb hby d29_201) rfl) ?_
                show Go p e below T (mkF m 203 #[(sR xa), (sI xl), (sR ya), (sI yl), (sR b1), (sI (xl - (1 : Int32))), (sI (yl - (1 : Int32))), (sJ cy), .second, (sI i9), (sI i10), (sI i11), (sJ v12), .second] [(.int i9), (.ref b1)]) _
                refine stp (fun _ => XS.lload X.here hx rfl (hb hby d29_203) rfl) ?_
                refine stp (fun _ => XS.l2i X.here hx rfl (hb hby d29_205) rfl) ?_
                obtain ⟨cl21, Ar21, q21, S21, H21, G21⟩ := (id FA2)
                have in21 : ¬ (i9 < 0 ∨ cl21.slots.size ≤ (i9).toNatClampNeg) := arf_in S21 ji (by omega)
                obtain ⟨T21, h21, X21, e21, W21, st21⟩ := stI X hx hZ eA Ar21 (j := i9) in21 (g := (mkF m 206 #[(sR xa), (sI xl), (sR ya), (sI yl), (sR b1), (sI (xl - (1 : Int32))), (sI (yl - (1 : Int32))), (sJ cy), .second, (sI i9), (sI i10), (sI i11), (sJ v12), .second] [(.int (cy.toInt32)), (.int i9), (.ref b1)])) rfl rfl (hb hby d29_206)
                have V21 := Arf.set Ar21 q21 S21 H21 G21 rfl (arf_ix ji ▸ W21) (by omega)
                replace V21 : Arf Z h21 b1 k1 .int (nx + ny) (fun x => (.int (if x = d2 then (cy.toInt32) else (gg x)))) := V21.congr (fun x _ => by split <;> rfl)
                have f22 := FA0.other W21 ne2
                have f23 := FA1.other W21 ne3
                have K21 : Keep h0 h21 [] := KA.wr W21 (Or.inr sz_b1)
                have O21 := OA.wr W21 ge_b1
                have N21 := Fr.snoc X21 NA ge_b1
                refine stp st21 ?_
                refine stp (fun _ => XS.iinc X21.here hx rfl (hb hby d29_207) rfl (l' := #[(sR xa), (sI xl), (sR ya), (sI yl), (sR b1), (sI (xl - (1 : Int32))), (sI (yl - (1 : Int32))), (sJ cy), .second, (sI (i9 + (-1 : Int32))), (sI i10), (sI i11), (sJ v12), .second]) rfl) ?_
                refine stp (fun _ => XS.goto X21.here hx rfl (pc0 := 210) (pc' := 114) rfl (hb hby d29_210) (by decide) (by decide)) ?_
                show Go p e below T21 (mkF m 114 #[(sR xa), (sI xl), (sR ya), (sI yl), (sR b1), (sI (xl - (1 : Int32))), (sI (yl - (1 : Int32))), (sJ cy), .second, (sI (i9 + (-1 : Int32))), (sI i10), (sI i11), (sJ v12), .second] []) _
                exact ih2 (i9 + (-1 : Int32)) i10 cy _ ((sI i11)) ((sJ v12)) (.second) ⟨by omega, own_dec ji (by omega)⟩ T21 _ h21 X21 e21 N21 O21 K21 f22 f23 V21 (Or.inr ⟨_, _, rfl, rfl, rfl⟩)
              | succ d3 ih3 =>
                intro i10 i11 cy gg s12 s13 hd_ T locs hA X eA NA OA KA FA0 FA1 FA2 hs
                obtain ⟨m3, m4, m5⟩ := hd_
                have jy : i10.toInt = ((d3 : Nat) : Int) := by omega
                have jz : i11.toInt = ((d3 + d2 + 1 : Nat) : Int) := by omega
                refine stp (fun _ => XS.iload X.here hx rfl (hb hby d29_135) rfl) ?_
                refine stp (fun _ => XS.ifNo X.here hx rfl (hb hby d29_137) rfl (XT.i0_lt_f (own_u0 jy))) ?_
                refine stp (fun _ => XS.aloadN X.here hx rfl (hb hby d29_140) rfl rfl) ?_
                refine stp (fun _ => XS.iload X.here hx rfl (hb hby d29_141) rfl) ?_
                show Go p e below T (mkF m 143 #[(sR xa), (sI xl), (sR ya), (sI yl), (sR b1), (sI (xl - (1 : Int32))), (sI (yl - (1 : Int32))), (sJ cy), .second, (sI i9), (sI i10), (sI i11), s12, s13] [(.int i10), (.ref ya)]) _
                obtain ⟨cl25, Ar25, q25, S25, H25, G25⟩ := (id FA1)
                have in25 : ¬ (i10 < 0 ∨ cl25.slots.size ≤ (i10).toNatClampNeg) := arf_in S25 jy (by omega)
                have at25 : cl25.slots[(i10).toNatClampNeg]? = some (.int (fy d3)) := arf_at H25 jy (by omega)
                refine stp (fun _ => X.iaload hx (j := i10) (v := (.int (fy d3))) (by rw [eA]; exact Ar25.1) (State.isArrayOf_alike hZ.alike Ar25.2.1) Ar25.2.2 in25 at25 (g := (mkF m 143 #[(sR xa), (sI xl), (sR ya), (sI yl), (sR b1), (sI (xl - (1 : Int32))), (sI (yl - (1 : Int32))), (sJ cy), .second, (sI i9), (sI i10), (sI i11), s12, s13] [(.int i10), (.ref ya)])) rfl rfl (hb hby d29_143) _) ?_
                refine stp (fun _ => XS.i2l X.here hx rfl (hb hby d29_144) rfl) ?_
                refine stp (fun _ => X.ldc2Long hx hown (mvT hZ (w_ hw (i := 161) rfl)) (g := (mkF m 145 #[(sR xa), (sI xl), (sR ya), (sI yl), (sR b1), (sI (xl - (1 : Int32))), (sI (yl - (1 : Int32))), (sJ cy), .second, (sI i9), (sI i10), (sI i11), s12, s13] [(.long ((fy d3).toInt64))])) rfl (hb hby d29_145) _) ?_
                refine stp (fun _ => XS.land X.here hx rfl (hb hby d29_148) rfl) ?_
                refine stp (fun _ => XS.aloadN X.here hx rfl (hb hby d29_149) rfl rfl) ?_
                show Go p e below T (mkF m 150 #[(sR xa), (sI xl), (sR ya), (sI yl), (sR b1), (sI (xl - (1 : Int32))), (sI (yl - (1 : Int32))), (sJ cy), .second, (sI i9), (sI i10), (sI i11), s12, s13] [(.ref xa), (.long (((fy d3).toInt64) &&& (4294967295 : Int64)))]) _
                refine stp (fun _ => XS.iload X.here hx rfl (hb hby d29_150) rfl) ?_
                obtain ⟨cl26, Ar26, q26, S26, H26, G26⟩ := (id FA0)
                have in26 : ¬ (i9 < 0 ∨ cl26.slots.size ≤ (i9).toNatClampNeg) := arf_in S26 ji (by omega)
                have at26 : cl26.slots[(i9).toNatClampNeg]? = some (.int (fx d2)) := arf_at H26 ji (by omega)
                refine stp (fun _ => X.iaload hx (j := i9) (v := (.int (fx d2))) (by rw [eA]; exact Ar26.1) (State.isArrayOf_alike hZ.alike Ar26.2.1) Ar26.2.2 in26 at26 (g := (mkF m 152 #[(sR xa), (sI xl), (sR ya), (sI yl), (sR b1), (sI (xl - (1 : Int32))), (sI (yl - (1 : Int32))), (sJ cy), .second, (sI i9), (sI i10), (sI i11), s12, s13] [(.int i9), (.ref xa), (.long (((fy d3).toInt64) &&& (4294967295 : Int64)))])) rfl rfl (hb hby d29_152) _) ?_
                refine stp (fun _ => XS.i2l X.here hx rfl (hb hby d29_153) rfl) ?_
                refine stp (fun _ => X.ldc2Long hx hown (mvT hZ (w_ hw (i := 161) rfl)) (g := (mkF m 154 #[(sR xa), (sI xl), (sR ya), (sI yl), (sR b1), (sI (xl - (1 : Int32))), (sI (yl - (1 : Int32))), (sJ cy), .second, (sI i9), (sI i10), (sI i11), s12, s13] [(.long ((fx d2).toInt64)), (.long (((fy d3).toInt64) &&& (4294967295 : Int64)))])) rfl (hb hby d29_154) _) ?_
                refine stp (fun _ => XS.land X.here hx rfl (hb hby d29_157) rfl) ?_
                show Go p e below T (mkF m 158 #[(sR xa), (sI xl), (sR ya), (sI yl), (sR b1), (sI (xl - (1 : Int32))), (sI (yl - (1 : Int32))), (sJ cy), .second, (sI i9), (sI i10), (sI i11), s12, s13] [(.long (((fx d2).toInt64) &&& (4294967295 : Int64))), (.long (((fy d3).toInt64) &&& (4294967295 : Int64)))]) _
                refine stp (fun _ => XS.lmul X.here hx rfl (hb hby d29_158) rfl) ?_
                refine stp (fun _ => XS.aload X.here hx rfl (hb hby d29_159) rfl rfl) ?_
                refine stp (fun _ => XS.iload X.here hx rfl (hb hby d29_161) rfl) ?_
                obtain ⟨cl27, Ar27, q27, S27, H27, G27⟩ := (id FA2)
                have in27 : ¬ (i11 < 0 ∨ cl27.slots.size ≤ (i11).toNatClampNeg) := arf_in S27 jz (by omega)
                have at27 : cl27.slots[(i11).toNatClampNeg]? = some (.int (gg (d3 + d2 + 1))) := arf_at H27 jz (by omega)
                refine stp (fun _ => X.iaload hx (j := i11) (v := (.int (gg (d3 + d2 + 1)))) (by rw [eA]; exact Ar27.1) (State.isArrayOf_alike hZ.alike Ar27.2.1) Ar27.2.2 in27 at27 (g := (mkF m 163 #[(sR xa), (sI xl), (sR ya), (sI yl), (sR b1), (sI (xl - (1 : Int32))), (sI (yl - (1 : Int32))), (sJ cy), .second, (sI i9), (sI i10), (sI i11), s12, s13] [(.int i11), (.ref b1), (.long ((((fy d3).toInt64) &&& (4294967295 : Int64)) * (((fx d2).toInt64) &&& (4294967295 : Int64))))])) rfl rfl (hb hby d29_163) _) ?_
                refine stp (fun _ => XS.i2l X.here hx rfl (hb hby d29_164) rfl) ?_
                show Go p e below T (mkF m 165 #[(sR xa), (sI xl), (sR ya), (sI yl), (sR b1), (sI (xl - (1 : Int32))), (sI (yl - (1 : Int32))), (sJ cy), .second, (sI i9), (sI i10), (sI i11), s12, s13] [(.long ((gg (d3 + d2 + 1)).toInt64)), (.long ((((fy d3).toInt64) &&& (4294967295 : Int64)) * (((fx d2).toInt64) &&& (4294967295 : Int64))))]) _
                refine stp (fun _ => X.ldc2Long hx hown (mvT hZ (w_ hw (i := 161) rfl)) (g := (mkF m 165 #[(sR xa), (sI xl), (sR ya), (sI yl), (sR b1), (sI (xl - (1 : Int32))), (sI (yl - (1 : Int32))), (sJ cy), .second, (sI i9), (sI i10), (sI i11), s12, s13] [(.long ((gg (d3 + d2 + 1)).toInt64)), (.long ((((fy d3).toInt64) &&& (4294967295 : Int64)) * (((fx d2).toInt64) &&& (4294967295 : Int64))))])) rfl (hb hby d29_165) _) ?_
                refine stp (fun _ => XS.land X.here hx rfl (hb hby d29_168) rfl) ?_
                refine stp (fun _ => XS.ladd X.here hx rfl (hb hby d29_169) rfl) ?_
                refine stp (fun _ => XS.lload X.here hx rfl (hb hby d29_170) rfl) ?_
                refine stp (fun _ => XS.ladd X.here hx rfl (hb hby d29_172) rfl) ?_
                show Go p e below T (mkF m 173 #[(sR xa), (sI xl), (sR ya), (sI yl), (sR b1), (sI (xl - (1 : Int32))), (sI (yl - (1 : Int32))), (sJ cy), .second, (sI i9), (sI i10), (sI i11), s12, s13] [(.long ((((((fy d3).toInt64) &&& (4294967295 : Int64)) * (((fx d2).toInt64) &&& (4294967295 : Int64))) + (((gg (d3 + d2 + 1)).toInt64) &&& (4294967295 : Int64))) + cy))]) _
                refine stp (fun _ => XS.lstore X.here hx rfl (hb hby d29_173) rfl (l' := #[(sR xa), (sI xl), (sR ya), (sI yl), (sR b1), (sI (xl - (1 : Int32))), (sI (yl - (1 : Int32))), (sJ cy), .second, (sI i9), (sI i10), (sI i11), (sJ ((((((fy d3).toInt64) &&& (4294967295 : Int64)) * (((fx d2).toInt64) &&& (4294967295 : Int64))) + (((gg (d3 + d2 + 1)).toInt64) &&& (4294967295 : Int64))) + cy)), .second]) (by rcases hs with ⟨e1, e2, -⟩ | ⟨v, e1, e2⟩ <;> subst e1 e2 <;> rfl)) ?_
                refine stp (fun _ => XS.aload X.here hx rfl (hb hby d29_175) rfl rfl) ?_
                refine stp (fun _ => XS.iload X.here hx rfl (hb hby d29_177) rfl) ?_
                refine stp (fun _ => XS.lload X.here hx rfl (hb hby d29_179) rfl) ?_
                refine stp (fun _ => XS.l2i X.here hx rfl (hb hby d29_181) rfl) ?_
                show Go p e below T (mkF m 182 #[(sR xa), (sI xl), (sR ya), (sI yl), (sR b1), (sI (xl - (1 : Int32))), (sI (yl - (1 : Int32))), (sJ cy), .second, (sI i9), (sI i10), (sI i11), (sJ ((((((fy d3).toInt64) &&& (4294967295 : Int64)) * (((fx d2).toInt64) &&& (4294967295 : Int64))) + (((gg (d3 + d2 + 1)).toInt64) &&& (4294967295 : Int64))) + cy)), .second] [(.int (((((((fy d3).toInt64) &&& (4294967295 : Int64)) * (((fx d2).toInt64) &&& (4294967295 : Int64))) + (((gg (d3 + d2 + 1)).toInt64) &&& (4294967295 : Int64))) + cy).toInt32)), (.int i11), (.ref b1)]) _
                obtain ⟨cl28, Ar28, q28, S28, H28, G28⟩ := (id FA2)
                have in28 : ¬ (i11 < 0 ∨ cl28.slots.size ≤ (i11).toNatClampNeg) := arf_in S28 jz (by omega)
                obtain ⟨T28, h28, X28, e28, W28, st28⟩ := stI X hx hZ eA Ar28 (j := i11) in28 (g := (mkF m 182 #[(sR xa), (sI xl), (sR ya), (sI yl), (sR b1), (sI (xl - (1 : Int32))), (sI (yl - (1 : Int32))), (sJ cy), .second, (sI i9), (sI i10), (sI i11), (sJ ((((((fy d3).toInt64) &&& (4294967295 : Int64)) * (((fx d2).toInt64) &&& (4294967295 : Int64))) + (((gg (d3 + d2 + 1)).toInt64) &&& (4294967295 : Int64))) + cy)), .second] [(.int (((((((fy d3).toInt64) &&& (4294967295 : Int64)) * (((fx d2).toInt64) &&& (4294967295 : Int64))) + (((gg (d3 + d2 + 1)).toInt64) &&& (4294967295 : Int64))) + cy).toInt32)), (.int i11), (.ref b1)])) rfl rfl (hb hby d29_182)
                have V28 := Arf.set Ar28 q28 S28 H28 G28 rfl (arf_ix jz ▸ W28) (by omega)
                replace V28 : Arf Z h28 b1 k1 .int (nx + ny) (fun x => (.int (if x = (d3 + d2 + 1) then (((((((fy d3).toInt64) &&& (4294967295 : Int64)) * (((fx d2).toInt64) &&& (4294967295 : Int64))) + (((gg (d3 + d2 + 1)).toInt64) &&& (4294967295 : Int64))) + cy).toInt32) else (gg x)))) := V28.congr (fun x _ => by split <;> rfl)
                have f29 := FA0.other W28 ne2
                have f30 := FA1.other W28 ne3
                have K28 : Keep h0 h28 [] := KA.wr W28 (Or.inr sz_b1)
                have O28 := OA.wr W28 ge_b1
                have N28 := Fr.snoc X28 NA ge_b1
                refine stp st28 ?_
                refine stp (fun _ => XS.lload X28.here hx rfl (hb hby d29_183) rfl) ?_
                refine stp (fun _ => XS.bipush X28.here hx rfl (hb hby d29_185)) ?_
                refine stp (fun _ => XS.lushr X28.here hx rfl (hb hby d29_187) rfl) ?_
                refine stp (fun _ => XS.lstore X28.here hx rfl (hb hby d29_188) rfl (l' := #[(sR xa), (sI xl), (sR ya), (sI yl), (sR b1), (sI (xl - (1 : Int32))), (sI (yl - (1 : Int32))), (sJ ((((((((fy d3).toInt64) &&& (4294967295 : Int64)) * (((fx d2).toInt64) &&& (4294967295 : Int64))) + (((gg (d3 + d2 + 1)).toInt64) &&& (4294967295 : Int64))) + cy).toUInt64 >>> ((32 : Int32) &&& 0x3f).toInt64.toUInt64).toInt64)), .second, (sI i9), (sI i10), (sI i11), (sJ ((((((fy d3).toInt64) &&& (4294967295 : Int64)) * (((fx d2).toInt64) &&& (4294967295 : Int64))) + (((gg (d3 + d2 + 1)).toInt64) &&& (4294967295 : Int64))) + cy)), .second]) rfl) ?_
                show Go p e below T28 (mkF m 190 #[(sR xa), (sI xl), (sR ya), (sI yl), (sR b1), (sI (xl - (1 : Int32))), (sI (yl - (1 : Int32))), (sJ ((((((((fy d3).toInt64) &&& (4294967295 : Int64)) * (((fx d2).toInt64) &&& (4294967295 : Int64))) + (((gg (d3 + d2 + 1)).toInt64) &&& (4294967295 : Int64))) + cy).toUInt64 >>> ((32 : Int32) &&& 0x3f).toInt64.toUInt64).toInt64)), .second, (sI i9), (sI i10), (sI i11), (sJ ((((((fy d3).toInt64) &&& (4294967295 : Int64)) * (((fx d2).toInt64) &&& (4294967295 : Int64))) + (((gg (d3 + d2 + 1)).toInt64) &&& (4294967295 : Int64))) + cy)), .second] []) _
                refine stp (fun _ => XS.iinc X28.here hx rfl (hb hby d29_190) rfl (l' := #[(sR xa), (sI xl), (sR ya), (sI yl), (sR b1), (sI (xl - (1 : Int32))), (sI (yl - (1 : Int32))), (sJ ((((((((fy d3).toInt64) &&& (4294967295 : Int64)) * (((fx d2).toInt64) &&& (4294967295 : Int64))) + (((gg (d3 + d2 + 1)).toInt64) &&& (4294967295 : Int64))) + cy).toUInt64 >>> ((32 : Int32) &&& 0x3f).toInt64.toUInt64).toInt64)), .second, (sI i9), (sI (i10 + (-1 : Int32))), (sI i11), (sJ ((((((fy d3).toInt64) &&& (4294967295 : Int64)) * (((fx d2).toInt64) &&& (4294967295 : Int64))) + (((gg (d3 + d2 + 1)).toInt64) &&& (4294967295 : Int64))) + cy)), .second]) rfl) ?_
                refine stp (fun _ => XS.iinc X28.here hx rfl (hb hby d29_193) rfl (l' := #[(sR xa), (sI xl), (sR ya), (sI yl), (sR b1), (sI (xl - (1 : Int32))), (sI (yl - (1 : Int32))), (sJ ((((((((fy d3).toInt64) &&& (4294967295 : Int64)) * (((fx d2).toInt64) &&& (4294967295 : Int64))) + (((gg (d3 + d2 + 1)).toInt64) &&& (4294967295 : Int64))) + cy).toUInt64 >>> ((32 : Int32) &&& 0x3f).toInt64.toUInt64).toInt64)), .second, (sI i9), (sI (i10 + (-1 : Int32))), (sI (i11 + (-1 : Int32))), (sJ ((((((fy d3).toInt64) &&& (4294967295 : Int64)) * (((fx d2).toInt64) &&& (4294967295 : Int64))) + (((gg (d3 + d2 + 1)).toInt64) &&& (4294967295 : Int64))) + cy)), .second]) rfl) ?_
                refine stp (fun _ => XS.goto X28.here hx rfl (pc0 := 196) (pc' := 135) rfl (hb hby d29_196) (by decide) (by decide)) ?_
                show Go p e below T28 (mkF m 135 #[(sR xa), (sI xl), (sR ya), (sI yl), (sR b1), (sI (xl - (1 : Int32))), (sI (yl - (1 : Int32))), (sJ ((((((((fy d3).toInt64) &&& (4294967295 : Int64)) * (((fx d2).toInt64) &&& (4294967295 : Int64))) + (((gg (d3 + d2 + 1)).toInt64) &&& (4294967295 : Int64))) + cy).toUInt64 >>> ((32 : Int32) &&& 0x3f).toInt64.toUInt64).toInt64)), .second, (sI i9), (sI (i10 + (-1 : Int32))), (sI (i11 + (-1 : Int32))), (sJ ((((((fy d3).toInt64) &&& (4294967295 : Int64)) * (((fx d2).toInt64) &&& (4294967295 : Int64))) + (((gg (d3 + d2 + 1)).toInt64) &&& (4294967295 : Int64))) + cy)), .second] []) _
                exact ih3 (i10 + (-1 : Int32)) (i11 + (-1 : Int32)) ((((((((fy d3).toInt64) &&& (4294967295 : Int64)) * (((fx d2).toInt64) &&& (4294967295 : Int64))) + (((gg (d3 + d2 + 1)).toInt64) &&& (4294967295 : Int64))) + cy).toUInt64 >>> ((32 : Int32) &&& 0x3f).toInt64.toUInt64).toInt64) _ ((sJ ((((((fy d3).toInt64) &&& (4294967295 : Int64)) * (((fx d2).toInt64) &&& (4294967295 : Int64))) + (((gg (d3 + d2 + 1)).toInt64) &&& (4294967295 : Int64))) + cy))) (.second) ⟨by omega, own_dec jy (by omega), own_decy jz (by omega)⟩ T28 _ h28 X28 e28 N28 O28 K28 f29 f30 V28 (Or.inr ⟨_, rfl, rfl⟩)
            exact loop135 ny (yl - (1 : Int32)) (((yl - (1 : Int32)) + (1 : Int32)) + i9) (0 : Int64) (fun x => (gg x)) ((sJ v12)) (.second) ⟨Nat.le_refl _, own_i9 hyl hy0 (by omega), own_i11 hyl ji hy0 (by omega) (by omega)⟩ T _ hA X eA NA OA KA FA0 FA1 FA2 (Or.inr ⟨_, rfl, rfl⟩)
      exact loop114 (nx - 1) ((xl - (1 : Int32)) - (1 : Int32)) i10 cy (fun x => (if x = (nx - 1) then (cy.toInt32) else (gg x))) ((sJ v11)) (.second) (.unset) ⟨by omega, own_i9b hxl hx0 (by omega)⟩ T6 _ h6 X6 e6 N6 O6 K6 f7 f8 V6 (Or.inl ⟨_, rfl, rfl, rfl⟩)
    | succ d ih =>
      intro i9 i10 cy gg s11 s12 hd_ T locs hA X eA NA OA KA FA0 FA1 FA2 hs
      obtain ⟨m1, m2, m3⟩ := hd_
      have jy : i9.toInt = ((d : Nat) : Int) := by omega
      have jz : i10.toInt = ((d + nx : Nat) : Int) := by omega
      refine stp (fun _ => XS.iload X.here hx rfl (hb hby d29_47) rfl) ?_
      refine stp (fun _ => XS.ifNo X.here hx rfl (hb hby d29_49) rfl (XT.i0_lt_f (own_u0 jy))) ?_
      refine stp (fun _ => XS.aloadN X.here hx rfl (hb hby d29_52) rfl rfl) ?_
      refine stp (fun _ => XS.iload X.here hx rfl (hb hby d29_53) rfl) ?_
      show Go p e below T (mkF m 55 #[(sR xa), (sI xl), (sR ya), (sI yl), (sR b1), (sI (xl - (1 : Int32))), (sI (yl - (1 : Int32))), (sJ cy), .second, (sI i9), (sI i10), s11, s12, .unset] [(.int i9), (.ref ya)]) _
      obtain ⟨cl32, Ar32, q32, S32, H32, G32⟩ := (id FA1)
      have in32 : ¬ (i9 < 0 ∨ cl32.slots.size ≤ (i9).toNatClampNeg) := arf_in S32 jy (by omega)
      have at32 : cl32.slots[(i9).toNatClampNeg]? = some (.int (fy d)) := arf_at H32 jy (by omega)
      refine stp (fun _ => X.iaload hx (j := i9) (v := (.int (fy d))) (by rw [eA]; exact Ar32.1) (State.isArrayOf_alike hZ.alike Ar32.2.1) Ar32.2.2 in32 at32 (g := (mkF m 55 #[(sR xa), (sI xl), (sR ya), (sI yl), (sR b1), (sI (xl - (1 : Int32))), (sI (yl - (1 : Int32))), (sJ cy), .second, (sI i9), (sI i10), s11, s12, .unset] [(.int i9), (.ref ya)])) rfl rfl (hb hby d29_55) _) ?_
      refine stp (fun _ => XS.i2l X.here hx rfl (hb hby d29_56) rfl) ?_
      refine stp (fun _ => X.ldc2Long hx hown (mvT hZ (w_ hw (i := 161) rfl)) (g := (mkF m 57 #[(sR xa), (sI xl), (sR ya), (sI yl), (sR b1), (sI (xl - (1 : Int32))), (sI (yl - (1 : Int32))), (sJ cy), .second, (sI i9), (sI i10), s11, s12, .unset] [(.long ((fy d).toInt64))])) rfl (hb hby d29_57) _) ?_
      refine stp (fun _ => XS.land X.here hx rfl (hb hby d29_60) rfl) ?_
      refine stp (fun _ => XS.aloadN X.here hx rfl (hb hby d29_61) rfl rfl) ?_
      show Go p e below T (mkF m 62 #[(sR xa), (sI xl), (sR ya), (sI yl), (sR b1), (sI (xl - (1 : Int32))), (sI (yl - (1 : Int32))), (sJ cy), .second, (sI i9), (sI i10), s11, s12, .unset] [(.ref xa), (.long (((fy d).toInt64) &&& (4294967295 : Int64)))]) _
      refine stp (fun _ => XS.iload X.here hx rfl (hb hby d29_62) rfl) ?_
      obtain ⟨cl33, Ar33, q33, S33, H33, G33⟩ := (id FA0)
      have in33 : ¬ ((xl - (1 : Int32)) < 0 ∨ cl33.slots.size ≤ ((xl - (1 : Int32))).toNatClampNeg) := arf_in S33 (own_xs hxl hx0 (by omega)) (by omega)
      have at33 : cl33.slots[((xl - (1 : Int32))).toNatClampNeg]? = some (.int (fx (nx - 1))) := arf_at H33 (own_xs hxl hx0 (by omega)) (by omega)
      refine stp (fun _ => X.iaload hx (j := (xl - (1 : Int32))) (v := (.int (fx (nx - 1)))) (by rw [eA]; exact Ar33.1) (State.isArrayOf_alike hZ.alike Ar33.2.1) Ar33.2.2 in33 at33 (g := (mkF m 64 #[(sR xa), (sI xl), (sR ya), (sI yl), (sR b1), (sI (xl - (1 : Int32))), (sI (yl - (1 : Int32))), (sJ cy), .second, (sI i9), (sI i10), s11, s12, .unset] [(.int (xl - (1 : Int32))), (.ref xa), (.long (((fy d).toInt64) &&& (4294967295 : Int64)))])) rfl rfl (hb hby d29_64) _) ?_
      refine stp (fun _ => XS.i2l X.here hx rfl (hb hby d29_65) rfl) ?_
      refine stp (fun _ => X.ldc2Long hx hown (mvT hZ (w_ hw (i := 161) rfl)) (g := (mkF m 66 #[(sR xa), (sI xl), (sR ya), (sI yl), (sR b1), (sI (xl - (1 : Int32))), (sI (yl - (1 : Int32))), (sJ cy), .second, (sI i9), (sI i10), s11, s12, .unset] [(.long ((fx (nx - 1)).toInt64)), (.long (((fy d).toInt64) &&& (4294967295 : Int64)))])) rfl (hb hby d29_66) _) ?_
      refine stp (fun _ => XS.land X.here hx rfl (hb hby d29_69) rfl) ?_
      show Go p e below T (mkF m 70 #[(sR xa), (sI xl), (sR ya), (sI yl), (sR b1), (sI (xl - (1 : Int32))), (sI (yl - (1 : Int32))), (sJ cy), .second, (sI i9), (sI i10), s11, s12, .unset] [(.long (((fx (nx - 1)).toInt64) &&& (4294967295 : Int64))), (.long (((fy d).toInt64) &&& (4294967295 : Int64)))]) _
      refine stp (fun _ => XS.lmul X.here hx rfl (hb hby d29_70) rfl) ?_
      refine stp (fun _ => XS.lload X.here hx rfl (hb hby d29_71) rfl) ?_
      refine stp (fun _ => XS.ladd X.here hx rfl (hb hby d29_73) rfl) ?_
      refine stp (fun _ => XS.lstore X.here hx rfl (hb hby d29_74) rfl (l' := #[(sR xa), (sI xl), (sR ya), (sI yl), (sR b1), (sI (xl - (1 : Int32))), (sI (yl - (1 : Int32))), (sJ cy), .second, (sI i9), (sI i10), (sJ (((((fy d).toInt64) &&& (4294967295 : Int64)) * (((fx (nx - 1)).toInt64) &&& (4294967295 : Int64))) + cy)), .second, .unset]) (by rcases hs with ⟨e1, e2, -⟩ | ⟨v, e1, e2⟩ <;> subst e1 e2 <;> rfl)) ?_
      refine stp (fun _ => XS.aload X.here hx rfl (hb hby d29_76) rfl rfl) ?_
      show Go p e below T (mkF m 78 #[(sR xa), (sI xl), (sR ya), (sI yl), (sR b1), (sI (xl - (1 : Int32))), (sI (yl - (1 : Int32))), (sJ cy), .second, (sI i9), (sI i10), (sJ (((((fy d).toInt64) &&& (4294967295 : Int64)) * (((fx (nx - 1)).toInt64) &&& (4294967295 : Int64))) + cy)), .second, .unset] [(.ref b1)]) _
      refine stp (fun _ => XS.iload X.here hx rfl (hb hby d29_78) rfl) ?_
      refine stp (fun _ => XS.lload X.here hx rfl (hb hby d29_80) rfl) ?_
      refine stp (fun _ => XS.l2i X.here hx rfl (hb hby d29_82) rfl) ?_
      obtain ⟨cl34, Ar34, q34, S34, H34, G34⟩ := (id FA2)
      have in34 : ¬ (i10 < 0 ∨ cl34.slots.size ≤ (i10).toNatClampNeg) := arf_in S34 jz (by omega)
      obtain ⟨T34, h34, X34, e34, W34, st34⟩ := stI X hx hZ eA Ar34 (j := i10) in34 (g := (mkF m 83 #[(sR xa), (sI xl), (sR ya), (sI yl), (sR b1), (sI (xl - (1 : Int32))), (sI (yl - (1 : Int32))), (sJ cy), .second, (sI i9), (sI i10), (sJ (((((fy d).toInt64) &&& (4294967295 : Int64)) * (((fx (nx - 1)).toInt64) &&& (4294967295 : Int64))) + cy)), .second, .unset] [(.int ((((((fy d).toInt64) &&& (4294967295 : Int64)) * (((fx (nx - 1)).toInt64) &&& (4294967295 : Int64))) + cy).toInt32)), (.int i10), (.ref b1)])) rfl rfl (hb hby d29_83)
      have V34 := Arf.set Ar34 q34 S34 H34 G34 rfl (arf_ix jz ▸ W34) (by omega)
      replace V34 : Arf Z h34 b1 k1 .int (nx + ny) (fun x => (.int (if x = (d + nx) then ((((((fy d).toInt64) &&& (4294967295 : Int64)) * (((fx (nx - 1)).toInt64) &&& (4294967295 : Int64))) + cy).toInt32) else (gg x)))) := V34.congr (fun x _ => by split <;> rfl)
      have f35 := FA0.other W34 ne2
      have f36 := FA1.other W34 ne3
      have K34 : Keep h0 h34 [] := KA.wr W34 (Or.inr sz_b1)
      have O34 := OA.wr W34 ge_b1
      have N34 := Fr.snoc X34 NA ge_b1
      refine stp st34 ?_
      refine stp (fun _ => XS.lload X34.here hx rfl (hb hby d29_84) rfl) ?_
      show Go p e below T34 (mkF m 86 #[(sR xa), (sI xl), (sR ya), (sI yl), (sR b1), (sI (xl - (1 : Int32))), (sI (yl - (1 : Int32))), (sJ cy), .second, (sI i9), (sI i10), (sJ (((((fy d).toInt64) &&& (4294967295 : Int64)) * (((fx (nx - 1)).toInt64) &&& (4294967295 : Int64))) + cy)), .second, .unset] [(.long (((((fy d).toInt64) &&& (4294967295 : Int64)) * (((fx (nx - 1)).toInt64) &&& (4294967295 : Int64))) + cy))]) _
      refine stp (fun _ => XS.bipush X34.here hx rfl (hb hby d29_86)) ?_
      refine stp (fun _ => XS.lushr X34.here hx rfl (hb hby d29_88) rfl) ?_
      refine stp (fun _ => XS.lstore X34.here hx rfl (hb hby d29_89) rfl (l' := #[(sR xa), (sI xl), (sR ya), (sI yl), (sR b1), (sI (xl - (1 : Int32))), (sI (yl - (1 : Int32))), (sJ (((((((fy d).toInt64) &&& (4294967295 : Int64)) * (((fx (nx - 1)).toInt64) &&& (4294967295 : Int64))) + cy).toUInt64 >>> ((32 : Int32) &&& 0x3f).toInt64.toUInt64).toInt64)), .second, (sI i9), (sI i10), (sJ (((((fy d).toInt64) &&& (4294967295 : Int64)) * (((fx (nx - 1)).toInt64) &&& (4294967295 : Int64))) + cy)), .second, .unset]) rfl) ?_
      refine stp (fun _ => XS.iinc X34.here hx rfl (hb hby d29_91) rfl (l' := #[(sR xa), (sI xl), (sR ya), (sI yl), (sR b1), (sI (xl - (1 : Int32))), (sI (yl - (1 : Int32))), (sJ (((((((fy d).toInt64) &&& (4294967295 : Int64)) * (((fx (nx - 1)).toInt64) &&& (4294967295 : Int64))) + cy).toUInt64 >>> ((32 : Int32) &&& 0x3f).toInt64.toUInt64).toInt64)), .second, (sI (i9 + (-1 : Int32))), (sI i10), (sJ (((((fy d).toInt64) &&& (4294967295 : Int64)) * (((fx (nx - 1)).toInt64) &&& (4294967295 : Int64))) + cy)), .second, .unset]) rfl) ?_
      refine stp (fun _ => XS.iinc X34.here hx rfl (hb hby d29_94) rfl (l' := #[(sR xa), (sI xl), (sR ya), (sI yl), (sR b1), (sI (xl - (1 : Int32))), (sI (yl - (1 : Int32))), (sJ (((((((fy d).toInt64) &&& (4294967295 : Int64)) * (((fx (nx - 1)).toInt64) &&& (4294967295 : Int64))) + cy).toUInt64 >>> ((32 : Int32) &&& 0x3f).toInt64.toUInt64).toInt64)), .second, (sI (i9 + (-1 : Int32))), (sI (i10 + (-1 : Int32))), (sJ (((((fy d).toInt64) &&& (4294967295 : Int64)) * (((fx (nx - 1)).toInt64) &&& (4294967295 : Int64))) + cy)), .second, .unset]) rfl) ?_
      show Go p e below T34 (mkF m 97 #[(sR xa), (sI xl), (sR ya), (sI yl), (sR b1), (sI (xl - (1 : Int32))), (sI (yl - (1 : Int32))), (sJ (((((((fy d).toInt64) &&& (4294967295 : Int64)) * (((fx (nx - 1)).toInt64) &&& (4294967295 : Int64))) + cy).toUInt64 >>> ((32 : Int32) &&& 0x3f).toInt64.toUInt64).toInt64)), .second, (sI (i9 + (-1 : Int32))), (sI (i10 + (-1 : Int32))), (sJ (((((fy d).toInt64) &&& (4294967295 : Int64)) * (((fx (nx - 1)).toInt64) &&& (4294967295 : Int64))) + cy)), .second, .unset] []) _
      refine stp (fun _ => XS.goto X34.here hx rfl (pc0 := 97) (pc' := 47) rfl (hb hby d29_97) (by decide) (by decide)) ?_
      show Go p e below T34 (mkF m 47 #[(sR xa), (sI xl), (sR ya), (sI yl), (sR b1), (sI (xl - (1 : Int32))), (sI (yl - (1 : Int32))), (sJ (((((((fy d).toInt64) &&& (4294967295 : Int64)) * (((fx (nx - 1)).toInt64) &&& (4294967295 : Int64))) + cy).toUInt64 >>> ((32 : Int32) &&& 0x3f).toInt64.toUInt64).toInt64)), .second, (sI (i9 + (-1 : Int32))), (sI (i10 + (-1 : Int32))), (sJ (((((fy d).toInt64) &&& (4294967295 : Int64)) * (((fx (nx - 1)).toInt64) &&& (4294967295 : Int64))) + cy)), .second, .unset] []) _
      exact ih (i9 + (-1 : Int32)) (i10 + (-1 : Int32)) (((((((fy d).toInt64) &&& (4294967295 : Int64)) * (((fx (nx - 1)).toInt64) &&& (4294967295 : Int64))) + cy).toUInt64 >>> ((32 : Int32) &&& 0x3f).toInt64.toUInt64).toInt64) _ ((sJ (((((fy d).toInt64) &&& (4294967295 : Int64)) * (((fx (nx - 1)).toInt64) &&& (4294967295 : Int64))) + cy))) (.second) ⟨by omega, own_dec jy (by omega), own_decz jz (by omega)⟩ T34 _ h34 X34 e34 N34 O34 K34 f35 f36 V34 (Or.inr ⟨_, rfl, rfl⟩)
  exact loop47 ny (yl - (1 : Int32)) (((yl - (1 : Int32)) + (1 : Int32)) + (xl - (1 : Int32))) (0 : Int64) (fun _ => (0 : Int32)) .unset .unset ⟨Nat.le_refl _, own_i9 hyl hy0 (by omega), own_i10 hxl hyl hx0 hy0 (by omega)⟩ T1 _ h1 X1 e1 N0 O1 K1 f4 f5 (V1.congr (fun _ _ => rfl)) (Or.inl ⟨rfl, rfl, rfl⟩)
abbrev B31 : ByteArray := jdk_33_method_48_code
theorem d31_0 : Dc B31 0 (.iload_n 0) 1 := by decide +kernel
theorem d31_1 : Dc B31 1 (.iconst (-1)) 1 := by decide +kernel
theorem d31_2 : Dc B31 2 (.ixor) 1 := by decide +kernel
theorem d31_3 : Dc B31 3 (.iload_n 0) 1 := by decide +kernel
theorem d31_4 : Dc B31 4 (.iconst 1) 1 := by decide +kernel
theorem d31_5 : Dc B31 5 (.isub) 1 := by decide +kernel
theorem d31_6 : Dc B31 6 (.iand) 1 := by decide +kernel
theorem d31_7 : Dc B31 7 (.istore_n 0) 1 := by decide +kernel
theorem d31_8 : Dc B31 8 (.iload_n 0) 1 := by decide +kernel
theorem d31_9 : Dc B31 9 (.ifCond .gt 8) 3 := by decide +kernel
theorem d31_17 : Dc B31 17 (.iconst 1) 1 := by decide +kernel
theorem d31_18 : Dc B31 18 (.istore_n 1) 1 := by decide +kernel
theorem d31_19 : Dc B31 19 (.iload_n 0) 1 := by decide +kernel
theorem d31_34 : Dc B31 34 (.iload_n 0) 1 := by decide +kernel
theorem d31_49 : Dc B31 49 (.iload_n 0) 1 := by decide +kernel
theorem d31_62 : Dc B31 62 (.iload_n 0) 1 := by decide +kernel
theorem d31_74 : Dc B31 74 (.iload_n 1) 1 := by decide +kernel
theorem d31_75 : Dc B31 75 (.iload_n 0) 1 := by decide +kernel
theorem d31_76 : Dc B31 76 (.iconst 1) 1 := by decide +kernel
theorem d31_77 : Dc B31 77 (.iushr) 1 := by decide +kernel
theorem d31_78 : Dc B31 78 (.iadd) 1 := by decide +kernel
theorem d31_79 : Dc B31 79 (.ireturn) 1 := by decide +kernel
theorem d31_63 : Dc B31 63 (.iconst 4) 1 := by decide +kernel
theorem d31_64 : Dc B31 64 (.if_icmp .le 10) 3 := by decide +kernel
theorem d31_67 : Dc B31 67 (.iinc 1 2) 3 := by decide +kernel
theorem d31_70 : Dc B31 70 (.iload_n 0) 1 := by decide +kernel
theorem d31_71 : Dc B31 71 (.iconst 2) 1 := by decide +kernel
theorem d31_72 : Dc B31 72 (.iushr) 1 := by decide +kernel
theorem d31_73 : Dc B31 73 (.istore_n 0) 1 := by decide +kernel
theorem d31_50 : Dc B31 50 (.bipush 16) 2 := by decide +kernel
theorem d31_52 : Dc B31 52 (.if_icmp .le 10) 3 := by decide +kernel
theorem d31_55 : Dc B31 55 (.iinc 1 4) 3 := by decide +kernel
theorem d31_58 : Dc B31 58 (.iload_n 0) 1 := by decide +kernel
theorem d31_59 : Dc B31 59 (.iconst 4) 1 := by decide +kernel
theorem d31_60 : Dc B31 60 (.iushr) 1 := by decide +kernel
theorem d31_61 : Dc B31 61 (.istore_n 0) 1 := by decide +kernel
theorem d31_35 : Dc B31 35 (.sipush 256) 3 := by decide +kernel
theorem d31_38 : Dc B31 38 (.if_icmp .le 11) 3 := by decide +kernel
theorem d31_41 : Dc B31 41 (.iinc 1 8) 3 := by decide +kernel
theorem d31_44 : Dc B31 44 (.iload_n 0) 1 := by decide +kernel
theorem d31_45 : Dc B31 45 (.bipush 8) 2 := by decide +kernel
theorem d31_47 : Dc B31 47 (.iushr) 1 := by decide +kernel
theorem d31_48 : Dc B31 48 (.istore_n 0) 1 := by decide +kernel
theorem d31_20 : Dc B31 20 (.ldc_w 264) 3 := by decide +kernel
theorem d31_23 : Dc B31 23 (.if_icmp .le 11) 3 := by decide +kernel
theorem d31_26 : Dc B31 26 (.iinc 1 16) 3 := by decide +kernel
theorem d31_29 : Dc B31 29 (.iload_n 0) 1 := by decide +kernel
theorem d31_30 : Dc B31 30 (.bipush 16) 2 := by decide +kernel
theorem d31_32 : Dc B31 32 (.iushr) 1 := by decide +kernel
theorem d31_33 : Dc B31 33 (.istore_n 0) 1 := by decide +kernel
theorem d31_12 : Dc B31 12 (.iload_n 0) 1 := by decide +kernel
theorem d31_13 : Dc B31 13 (.bipush 32) 2 := by decide +kernel
theorem d31_15 : Dc B31 15 (.iand) 1 := by decide +kernel
theorem d31_16 : Dc B31 16 (.ireturn) 1 := by decide +kernel
theorem ef_rm_ntz (m : MethodId) (i : Int32)  : entryFrame m #[(.int i)] 2 = mkF m 0 #[(sI i), .unset] [] := by first | (simp [entryFrame, mkF, argsToLocals, Value.category]; done) | rfl
def Q_rm_ntz (Z : State) (i : Int32)  (h0 : Heap) (n0 : Nat) (v : Option Value) (h : Heap) (L : List Loc) : Prop := ∃ (z : Int32), v = some (.int z) ∧ Fr n0 L ∧ Keep h0 h [] ∧ (0 ≤ z.toInt ∧ z.toInt ≤ 63)
theorem pn_11_ : plainName "java/lang/Integer" = true := by first | (simp [plainName, overriddenIn]; done) | decide +kernel
theorem pn_11 : plainFor (⟨"java/lang/Integer", "numberOfTrailingZeros", "(I)I"⟩ : MethodName) = true := plainFor_of_name pn_11_
set_option maxRecDepth 65536 in
set_option maxHeartbeats 40000000 in
theorem rm_ntz (l : Launch) (Z : State) (a0 : Array Value) (hw : ∀ d ∈ tables_1, d.before a0 Z = true) (ws : List Jvm.Cond) (i : Int32)  (h0 : Heap) (n0 : Nat) (O0 : Old Z n0 h0)  :
    MetFree l (⟨"java/lang/Integer", "numberOfTrailingZeros", "(I)I"⟩ : MethodName) (head1 (Jvm.Cond.code (⟨"java/lang/Integer", "numberOfTrailingZeros", "(I)I"⟩ : MethodName) jdk_33_method_48_code 2 (some .int) :: ws) ({ frames := 0, cells := 0, slots := 0, locals := 0 } : Room)) (fun args_ U => args_ = #[(.int i)] ∧ Z.Warmed39 U.vm ∧ U.heap = h0) (fun _ _ _ _ _ => True) (fun _ U out_ U' => ∃ val_ loc_, out_ = .returned val_ ∧ (Q_rm_ntz Z i h0 n0) val_ U'.heap loc_ ∧ FrameEnd U out_ U' loc_ ({ frames := 0, cells := 0, slots := 0, locals := 0 } : Room).cells ({ frames := 0, cells := 0, slots := 0, locals := 0 } : Room).slots) := by
  refine start (Q := (Q_rm_ntz Z i h0 n0)) pn_11 ?_
  intro p e s m below meth c T0 X0 hx hby hml hown hnm hret hlk hZ e0
  replace hown : s.vm.findClass "java/lang/Integer" = some m.cls := hown
  replace hml : c.maxLocals = 2 := hml
  refine goAt (ef_rm_ntz m i ) ?_
  have N0 := Fr.nil n0
  refine stp (fun _ => XS.iloadN X0.here hx rfl (hb hby d31_0) rfl) ?_
  refine stp (fun _ => XS.iconst X0.here hx rfl (hb hby d31_1)) ?_
  refine stp (fun _ => XS.ixor X0.here hx rfl (hb hby d31_2) rfl) ?_
  refine stp (fun _ => XS.iloadN X0.here hx rfl (hb hby d31_3) rfl) ?_
  show Go p e below T0 (mkF m 4 #[(sI i), .unset] [(.int i), (.int (i ^^^ (-1 : Int32)))]) _
  refine stp (fun _ => XS.iconst X0.here hx rfl (hb hby d31_4)) ?_
  refine stp (fun _ => XS.isub X0.here hx rfl (hb hby d31_5) rfl) ?_
  refine stp (fun _ => XS.iand X0.here hx rfl (hb hby d31_6) rfl) ?_
  refine stp (fun _ => XS.istoreN X0.here hx rfl (hb hby d31_7) rfl (l' := #[(sI ((i ^^^ (-1 : Int32)) &&& (i - (1 : Int32)))), .unset]) rfl) ?_
  refine stp (fun _ => XS.iloadN X0.here hx rfl (hb hby d31_8) rfl) ?_
  show Go p e below T0 (mkF m 9 #[(sI ((i ^^^ (-1 : Int32)) &&& (i - (1 : Int32)))), .unset] [(.int ((i ^^^ (-1 : Int32)) &&& (i - (1 : Int32))))]) _
  by_cases q9_1 : 0 < ((i ^^^ (-1 : Int32)) &&& (i - (1 : Int32)))
  rotate_left
  · refine stp (fun _ => XS.ifNo X0.here hx rfl (hb hby d31_9) rfl (XT.i0_gt_f q9_1)) ?_
    refine stp (fun _ => XS.iloadN X0.here hx rfl (hb hby d31_12) rfl) ?_
    refine stp (fun _ => XS.bipush X0.here hx rfl (hb hby d31_13)) ?_
    refine stp (fun _ => XS.iand X0.here hx rfl (hb hby d31_15) rfl) ?_
    refine outI X0 hx hret (hb hby d31_16) hlk (by decide) (by decide) ?_
    rw [e0]
    exact ⟨(((i ^^^ (-1 : Int32)) &&& (i - (1 : Int32))) &&& (32 : Int32)), rfl, N0, (Keep.refl h0 []), (own_and32 _)⟩
  refine stp (fun _ => XS.ifYes X0.here hx rfl (pc0 := 9) (pc' := 17) rfl (hb hby d31_9) rfl (XT.i0_gt_t q9_1) (by decide) (by decide)) ?_
  refine stp (fun _ => XS.iconst X0.here hx rfl (hb hby d31_17)) ?_
  refine stp (fun _ => XS.istoreN X0.here hx rfl (hb hby d31_18) rfl (l' := #[(sI ((i ^^^ (-1 : Int32)) &&& (i - (1 : Int32)))), (sI (1 : Int32))]) rfl) ?_
  refine stp (fun _ => XS.iloadN X0.here hx rfl (hb hby d31_19) rfl) ?_
  show Go p e below T0 (mkF m 20 #[(sI ((i ^^^ (-1 : Int32)) &&& (i - (1 : Int32)))), (sI (1 : Int32))] [(.int ((i ^^^ (-1 : Int32)) &&& (i - (1 : Int32))))]) _
  have J34 : ∀ (i1 : Int32) (n1 : Int32), (0 < i1.toInt ∧ i1.toInt ≤ 65536 ∧ 1 ≤ n1.toInt ∧ n1.toInt ≤ 17) → Go p e below T0 (mkF m 34 #[(sI i1), (sI n1)] []) (Po s (Q_rm_ntz Z i h0 n0) ({ frames := 0, cells := 0, slots := 0, locals := 0 } : Room).cells ({ frames := 0, cells := 0, slots := 0, locals := 0 } : Room).slots) := by
    intro i1 n1 hj
    refine stp (fun _ => XS.iloadN X0.here hx rfl (hb hby d31_34) rfl) ?_
    show Go p e below T0 (mkF m 35 #[(sI i1), (sI n1)] [(.int i1)]) _
    have J49 : ∀ (i1 : Int32) (n1 : Int32), (0 < i1.toInt ∧ i1.toInt ≤ 256 ∧ 1 ≤ n1.toInt ∧ n1.toInt ≤ 25) → Go p e below T0 (mkF m 49 #[(sI i1), (sI n1)] []) (Po s (Q_rm_ntz Z i h0 n0) ({ frames := 0, cells := 0, slots := 0, locals := 0 } : Room).cells ({ frames := 0, cells := 0, slots := 0, locals := 0 } : Room).slots) := by
      intro i1 n1 hj
      refine stp (fun _ => XS.iloadN X0.here hx rfl (hb hby d31_49) rfl) ?_
      show Go p e below T0 (mkF m 50 #[(sI i1), (sI n1)] [(.int i1)]) _
      have J62 : ∀ (i1 : Int32) (n1 : Int32), (0 < i1.toInt ∧ i1.toInt ≤ 16 ∧ 1 ≤ n1.toInt ∧ n1.toInt ≤ 29) → Go p e below T0 (mkF m 62 #[(sI i1), (sI n1)] []) (Po s (Q_rm_ntz Z i h0 n0) ({ frames := 0, cells := 0, slots := 0, locals := 0 } : Room).cells ({ frames := 0, cells := 0, slots := 0, locals := 0 } : Room).slots) := by
        intro i1 n1 hj
        refine stp (fun _ => XS.iloadN X0.here hx rfl (hb hby d31_62) rfl) ?_
        show Go p e below T0 (mkF m 63 #[(sI i1), (sI n1)] [(.int i1)]) _
        have J74 : ∀ (i1 : Int32) (n1 : Int32), (0 < i1.toInt ∧ i1.toInt ≤ 4 ∧ 1 ≤ n1.toInt ∧ n1.toInt ≤ 31) → Go p e below T0 (mkF m 74 #[(sI i1), (sI n1)] []) (Po s (Q_rm_ntz Z i h0 n0) ({ frames := 0, cells := 0, slots := 0, locals := 0 } : Room).cells ({ frames := 0, cells := 0, slots := 0, locals := 0 } : Room).slots) := by
          intro i1 n1 hj
          refine stp (fun _ => XS.iloadN X0.here hx rfl (hb hby d31_74) rfl) ?_
          refine stp (fun _ => XS.iloadN X0.here hx rfl (hb hby d31_75) rfl) ?_
          refine stp (fun _ => XS.iconst X0.here hx rfl (hb hby d31_76)) ?_
          refine stp (fun _ => XS.iushr X0.here hx rfl (hb hby d31_77) rfl) ?_
          show Go p e below T0 (mkF m 78 #[(sI i1), (sI n1)] [(.int ((i1.toUInt32 >>> ((1 : Int32) &&& 31).toUInt32).toInt32)), (.int n1)]) _
          refine stp (fun _ => XS.iadd X0.here hx rfl (hb hby d31_78) rfl) ?_
          refine outI X0 hx hret (hb hby d31_79) hlk (by decide) (by decide) ?_
          rw [e0]
          exact ⟨(n1 + ((i1.toUInt32 >>> ((1 : Int32) &&& 31).toUInt32).toInt32)), rfl, N0, (Keep.refl h0 []), (own_ntzEnd hj)⟩
        refine stp (fun _ => XS.iconst X0.here hx rfl (hb hby d31_63)) ?_
        by_cases q64_2 : (4 : Int32) < i1
        rotate_left
        · refine stp (fun _ => XS.icmpYes X0.here hx rfl (pc0 := 64) (pc' := 74) rfl (hb hby d31_64) rfl (XT.ii_le_t q64_2) (by decide) (by decide)) ?_
          show Go p e below T0 (mkF m 74 #[(sI i1), (sI n1)] []) _
          exact J74 i1 n1 (own_ntz3F hj q64_2)
        refine stp (fun _ => XS.icmpNo X0.here hx rfl (hb hby d31_64) rfl (XT.ii_le_f q64_2)) ?_
        refine stp (fun _ => XS.iinc X0.here hx rfl (hb hby d31_67) rfl (l' := #[(sI i1), (sI (n1 + (2 : Int32)))]) rfl) ?_
        refine stp (fun _ => XS.iloadN X0.here hx rfl (hb hby d31_70) rfl) ?_
        refine stp (fun _ => XS.iconst X0.here hx rfl (hb hby d31_71)) ?_
        show Go p e below T0 (mkF m 72 #[(sI i1), (sI (n1 + (2 : Int32)))] [(.int (2 : Int32)), (.int i1)]) _
        refine stp (fun _ => XS.iushr X0.here hx rfl (hb hby d31_72) rfl) ?_
        refine stp (fun _ => XS.istoreN X0.here hx rfl (hb hby d31_73) rfl (l' := #[(sI ((i1.toUInt32 >>> ((2 : Int32) &&& 31).toUInt32).toInt32)), (sI (n1 + (2 : Int32)))]) rfl) ?_
        show Go p e below T0 (mkF m 74 #[(sI ((i1.toUInt32 >>> ((2 : Int32) &&& 31).toUInt32).toInt32)), (sI (n1 + (2 : Int32)))] []) _
        exact J74 ((i1.toUInt32 >>> ((2 : Int32) &&& 31).toUInt32).toInt32) (n1 + (2 : Int32)) (own_ntz3T hj q64_2)
      refine stp (fun _ => XS.bipush X0.here hx rfl (hb hby d31_50)) ?_
      by_cases q52_3 : (16 : Int32) < i1
      rotate_left
      · refine stp (fun _ => XS.icmpYes X0.here hx rfl (pc0 := 52) (pc' := 62) rfl (hb hby d31_52) rfl (XT.ii_le_t q52_3) (by decide) (by decide)) ?_
        show Go p e below T0 (mkF m 62 #[(sI i1), (sI n1)] []) _
        exact J62 i1 n1 (own_ntz2F hj q52_3)
      refine stp (fun _ => XS.icmpNo X0.here hx rfl (hb hby d31_52) rfl (XT.ii_le_f q52_3)) ?_
      refine stp (fun _ => XS.iinc X0.here hx rfl (hb hby d31_55) rfl (l' := #[(sI i1), (sI (n1 + (4 : Int32)))]) rfl) ?_
      refine stp (fun _ => XS.iloadN X0.here hx rfl (hb hby d31_58) rfl) ?_
      refine stp (fun _ => XS.iconst X0.here hx rfl (hb hby d31_59)) ?_
      show Go p e below T0 (mkF m 60 #[(sI i1), (sI (n1 + (4 : Int32)))] [(.int (4 : Int32)), (.int i1)]) _
      refine stp (fun _ => XS.iushr X0.here hx rfl (hb hby d31_60) rfl) ?_
      refine stp (fun _ => XS.istoreN X0.here hx rfl (hb hby d31_61) rfl (l' := #[(sI ((i1.toUInt32 >>> ((4 : Int32) &&& 31).toUInt32).toInt32)), (sI (n1 + (4 : Int32)))]) rfl) ?_
      show Go p e below T0 (mkF m 62 #[(sI ((i1.toUInt32 >>> ((4 : Int32) &&& 31).toUInt32).toInt32)), (sI (n1 + (4 : Int32)))] []) _
      exact J62 ((i1.toUInt32 >>> ((4 : Int32) &&& 31).toUInt32).toInt32) (n1 + (4 : Int32)) (own_ntz2T hj q52_3)
    refine stp (fun _ => XS.sipush X0.here hx rfl (hb hby d31_35)) ?_
    by_cases q38_4 : (256 : Int32) < i1
    rotate_left
    · refine stp (fun _ => XS.icmpYes X0.here hx rfl (pc0 := 38) (pc' := 49) rfl (hb hby d31_38) rfl (XT.ii_le_t q38_4) (by decide) (by decide)) ?_
      show Go p e below T0 (mkF m 49 #[(sI i1), (sI n1)] []) _
      exact J49 i1 n1 (own_ntz1F hj q38_4)
    refine stp (fun _ => XS.icmpNo X0.here hx rfl (hb hby d31_38) rfl (XT.ii_le_f q38_4)) ?_
    refine stp (fun _ => XS.iinc X0.here hx rfl (hb hby d31_41) rfl (l' := #[(sI i1), (sI (n1 + (8 : Int32)))]) rfl) ?_
    refine stp (fun _ => XS.iloadN X0.here hx rfl (hb hby d31_44) rfl) ?_
    refine stp (fun _ => XS.bipush X0.here hx rfl (hb hby d31_45)) ?_
    show Go p e below T0 (mkF m 47 #[(sI i1), (sI (n1 + (8 : Int32)))] [(.int (8 : Int32)), (.int i1)]) _
    refine stp (fun _ => XS.iushr X0.here hx rfl (hb hby d31_47) rfl) ?_
    refine stp (fun _ => XS.istoreN X0.here hx rfl (hb hby d31_48) rfl (l' := #[(sI ((i1.toUInt32 >>> ((8 : Int32) &&& 31).toUInt32).toInt32)), (sI (n1 + (8 : Int32)))]) rfl) ?_
    show Go p e below T0 (mkF m 49 #[(sI ((i1.toUInt32 >>> ((8 : Int32) &&& 31).toUInt32).toInt32)), (sI (n1 + (8 : Int32)))] []) _
    exact J49 ((i1.toUInt32 >>> ((8 : Int32) &&& 31).toUInt32).toInt32) (n1 + (8 : Int32)) (own_ntz1T hj q38_4)
  refine stp (fun _ => X0.ldcwInt hx hown (mvT hZ (w_ hw (i := 216) rfl)) (g := (mkF m 20 #[(sI ((i ^^^ (-1 : Int32)) &&& (i - (1 : Int32)))), (sI (1 : Int32))] [(.int ((i ^^^ (-1 : Int32)) &&& (i - (1 : Int32))))])) rfl (hb hby d31_20) _) ?_
  by_cases q23_5 : (65536 : Int32) < ((i ^^^ (-1 : Int32)) &&& (i - (1 : Int32)))
  rotate_left
  · refine stp (fun _ => XS.icmpYes X0.here hx rfl (pc0 := 23) (pc' := 34) rfl (hb hby d31_23) rfl (XT.ii_le_t q23_5) (by decide) (by decide)) ?_
    show Go p e below T0 (mkF m 34 #[(sI ((i ^^^ (-1 : Int32)) &&& (i - (1 : Int32)))), (sI (1 : Int32))] []) _
    exact J34 ((i ^^^ (-1 : Int32)) &&& (i - (1 : Int32))) (1 : Int32) (own_ntz0F (own_pos0 q9_1) q23_5)
  refine stp (fun _ => XS.icmpNo X0.here hx rfl (hb hby d31_23) rfl (XT.ii_le_f q23_5)) ?_
  refine stp (fun _ => XS.iinc X0.here hx rfl (hb hby d31_26) rfl (l' := #[(sI ((i ^^^ (-1 : Int32)) &&& (i - (1 : Int32)))), (sI (17 : Int32))]) rfl) ?_
  refine stp (fun _ => XS.iloadN X0.here hx rfl (hb hby d31_29) rfl) ?_
  refine stp (fun _ => XS.bipush X0.here hx rfl (hb hby d31_30)) ?_
  show Go p e below T0 (mkF m 32 #[(sI ((i ^^^ (-1 : Int32)) &&& (i - (1 : Int32)))), (sI (17 : Int32))] [(.int (16 : Int32)), (.int ((i ^^^ (-1 : Int32)) &&& (i - (1 : Int32))))]) _
  refine stp (fun _ => XS.iushr X0.here hx rfl (hb hby d31_32) rfl) ?_
  refine stp (fun _ => XS.istoreN X0.here hx rfl (hb hby d31_33) rfl (l' := #[(sI ((((i ^^^ (-1 : Int32)) &&& (i - (1 : Int32))).toUInt32 >>> ((16 : Int32) &&& 31).toUInt32).toInt32)), (sI (17 : Int32))]) rfl) ?_
  show Go p e below T0 (mkF m 34 #[(sI ((((i ^^^ (-1 : Int32)) &&& (i - (1 : Int32))).toUInt32 >>> ((16 : Int32) &&& 31).toUInt32).toInt32)), (sI (17 : Int32))] []) _
  exact J34 ((((i ^^^ (-1 : Int32)) &&& (i - (1 : Int32))).toUInt32 >>> ((16 : Int32) &&& 31).toUInt32).toInt32) (17 : Int32) (own_ntz0T (own_pos0 q9_1) q23_5)
abbrev B38 : ByteArray := jdk_41_method_12_code
theorem d38_0 : Dc B38 0 (.iload_n 0) 1 := by decide +kernel
theorem d38_1 : Dc B38 1 (.ifCond .lt 13) 3 := by decide +kernel
theorem d38_4 : Dc B38 4 (.iload_n 0) 1 := by decide +kernel
theorem d38_5 : Dc B38 5 (.iload_n 1) 1 := by decide +kernel
theorem d38_6 : Dc B38 6 (.if_icmp .gt 8) 3 := by decide +kernel
theorem d38_9 : Dc B38 9 (.iload_n 1) 1 := by decide +kernel
theorem d38_10 : Dc B38 10 (.iload_n 2) 1 := by decide +kernel
theorem d38_11 : Dc B38 11 (.if_icmp .le 11) 3 := by decide +kernel
theorem d38_22 : Dc B38 22 (.iload_n 0) 1 := by decide +kernel
theorem d38_23 : Dc B38 23 (.ireturn) 1 := by decide +kernel
theorem ef_rm_c4 (m : MethodId) (fr : Int32) (to_ : Int32) (ln : Int32)  : entryFrame m #[(.int fr), (.int to_), (.int ln), .null] 4 = mkF m 0 #[(sI fr), (sI to_), (sI ln), .val .null] [] := by first | (simp [entryFrame, mkF, argsToLocals, Value.category]; done) | rfl
def Q_rm_c4 (Z : State) (fr : Int32) (to_ : Int32) (ln : Int32)  (h0 : Heap) (n0 : Nat) (v : Option Value) (h : Heap) (L : List Loc) : Prop := v = some (.int fr) ∧ Fr n0 L ∧ h = h0
theorem pn_12_ : plainName "jdk/internal/util/Preconditions" = true := by first | (simp [plainName, overriddenIn]; done) | decide +kernel
theorem pn_12 : plainFor (⟨"jdk/internal/util/Preconditions", "checkFromToIndex", "(IIILjava/util/function/BiFunction;)I"⟩ : MethodName) = true := plainFor_of_name pn_12_
set_option maxRecDepth 65536 in
set_option maxHeartbeats 40000000 in
theorem rm_c4 (l : Launch) (Z : State) (a0 : Array Value) (hw : ∀ d ∈ tables_1, d.before a0 Z = true) (ws : List Jvm.Cond) (fr : Int32) (to_ : Int32) (ln : Int32)  (h0 : Heap) (n0 : Nat) (O0 : Old Z n0 h0) (h1 : ¬ fr < 0) (h2 : ¬ to_ < fr) (h3 : ¬ ln < to_) :
    MetFree l (⟨"jdk/internal/util/Preconditions", "checkFromToIndex", "(IIILjava/util/function/BiFunction;)I"⟩ : MethodName) (head1 (Jvm.Cond.code (⟨"jdk/internal/util/Preconditions", "checkFromToIndex", "(IIILjava/util/function/BiFunction;)I"⟩ : MethodName) jdk_41_method_12_code 4 (some .int) :: ws) ({ frames := 0, cells := 0, slots := 0, locals := 0 } : Room)) (fun args_ U => args_ = #[(.int fr), (.int to_), (.int ln), .null] ∧ Z.Warmed39 U.vm ∧ U.heap = h0) (fun _ _ _ _ _ => True) (fun _ U out_ U' => ∃ val_ loc_, out_ = .returned val_ ∧ (Q_rm_c4 Z fr to_ ln h0 n0) val_ U'.heap loc_ ∧ FrameEnd U out_ U' loc_ ({ frames := 0, cells := 0, slots := 0, locals := 0 } : Room).cells ({ frames := 0, cells := 0, slots := 0, locals := 0 } : Room).slots) := by
  refine start (Q := (Q_rm_c4 Z fr to_ ln h0 n0)) pn_12 ?_
  intro p e s m below meth c T0 X0 hx hby hml hown hnm hret hlk hZ e0
  replace hown : s.vm.findClass "jdk/internal/util/Preconditions" = some m.cls := hown
  replace hml : c.maxLocals = 4 := hml
  refine goAt (ef_rm_c4 m fr to_ ln ) ?_
  have N0 := Fr.nil n0
  refine stp (fun _ => XS.iloadN X0.here hx rfl (hb hby d38_0) rfl) ?_
  refine stp (fun _ => XS.ifNo X0.here hx rfl (hb hby d38_1) rfl (XT.i0_lt_f h1)) ?_
  refine stp (fun _ => XS.iloadN X0.here hx rfl (hb hby d38_4) rfl) ?_
  refine stp (fun _ => XS.iloadN X0.here hx rfl (hb hby d38_5) rfl) ?_
  show Go p e below T0 (mkF m 6 #[(sI fr), (sI to_), (sI ln), .val .null] [(.int to_), (.int fr)]) _
  refine stp (fun _ => XS.icmpNo X0.here hx rfl (hb hby d38_6) rfl (XT.ii_gt_f h2)) ?_
  refine stp (fun _ => XS.iloadN X0.here hx rfl (hb hby d38_9) rfl) ?_
  refine stp (fun _ => XS.iloadN X0.here hx rfl (hb hby d38_10) rfl) ?_
  refine stp (fun _ => XS.icmpYes X0.here hx rfl (pc0 := 11) (pc' := 22) rfl (hb hby d38_11) rfl (XT.ii_le_t h3) (by decide) (by decide)) ?_
  refine stp (fun _ => XS.iloadN X0.here hx rfl (hb hby d38_22) rfl) ?_
  show Go p e below T0 (mkF m 23 #[(sI fr), (sI to_), (sI ln), .val .null] [(.int fr)]) _
  refine outI X0 hx hret (hb hby d38_23) hlk (by decide) (by decide) ?_
  exact ⟨rfl, N0, e0⟩
abbrev B37 : ByteArray := jdk_31_method_18_code
theorem d37_0 : Dc B37 0 (.iload_n 0) 1 := by decide +kernel
theorem d37_1 : Dc B37 1 (.iload_n 1) 1 := by decide +kernel
theorem d37_2 : Dc B37 2 (.iload_n 2) 1 := by decide +kernel
theorem d37_3 : Dc B37 3 (.aconst_null) 1 := by decide +kernel
theorem d37_4 : Dc B37 4 (.invokestatic 111) 3 := by decide +kernel
theorem pd_5 : parseMethodDescriptor "(IIILjava/util/function/BiFunction;)I" = some ⟨[.int, .int, .int, (.object "java/util/function/BiFunction")], some .int⟩ := by decide +kernel
theorem d37_7 : Dc B37 7 (.ireturn) 1 := by decide +kernel
theorem ef_rm_c3 (m : MethodId) (fr : Int32) (to_ : Int32) (ln : Int32)  : entryFrame m #[(.int fr), (.int to_), (.int ln)] 3 = mkF m 0 #[(sI fr), (sI to_), (sI ln)] [] := by first | (simp [entryFrame, mkF, argsToLocals, Value.category]; done) | rfl
def Q_rm_c3 (Z : State) (fr : Int32) (to_ : Int32) (ln : Int32)  (h0 : Heap) (n0 : Nat) (v : Option Value) (h : Heap) (L : List Loc) : Prop := v = some (.int fr) ∧ Fr n0 L ∧ h = h0
theorem pn_13_ : plainName "java/util/Objects" = true := by first | (simp [plainName, overriddenIn]; done) | decide +kernel
theorem pn_13 : plainFor (⟨"java/util/Objects", "checkFromToIndex", "(III)I"⟩ : MethodName) = true := plainFor_of_name pn_13_
set_option maxRecDepth 65536 in
set_option maxHeartbeats 40000000 in
theorem rm_c3 (l : Launch) (Z : State) (a0 : Array Value) (hw : ∀ d ∈ tables_1, d.before a0 Z = true) (ws : List Jvm.Cond) (fr : Int32) (to_ : Int32) (ln : Int32)  (h0 : Heap) (n0 : Nat) (O0 : Old Z n0 h0) (h1 : ¬ fr < 0) (h2 : ¬ to_ < fr) (h3 : ¬ ln < to_) :
    MetFree l (⟨"java/util/Objects", "checkFromToIndex", "(III)I"⟩ : MethodName) (head1 (Jvm.Cond.code (⟨"java/util/Objects", "checkFromToIndex", "(III)I"⟩ : MethodName) jdk_31_method_18_code 3 (some .int) :: ws) ({ frames := 1, cells := 0, slots := 0, locals := 15 } : Room)) (fun args_ U => args_ = #[(.int fr), (.int to_), (.int ln)] ∧ Z.Warmed39 U.vm ∧ U.heap = h0) (fun _ _ _ _ _ => True) (fun _ U out_ U' => ∃ val_ loc_, out_ = .returned val_ ∧ (Q_rm_c3 Z fr to_ ln h0 n0) val_ U'.heap loc_ ∧ FrameEnd U out_ U' loc_ ({ frames := 1, cells := 0, slots := 0, locals := 15 } : Room).cells ({ frames := 1, cells := 0, slots := 0, locals := 15 } : Room).slots) := by
  refine start (Q := (Q_rm_c3 Z fr to_ ln h0 n0)) pn_13 ?_
  intro p e s m below meth c T0 X0 hx hby hml hown hnm hret hlk hZ e0
  replace hown : s.vm.findClass "java/util/Objects" = some m.cls := hown
  replace hml : c.maxLocals = 3 := hml
  refine goAt (ef_rm_c3 m fr to_ ln ) ?_
  have N0 := Fr.nil n0
  refine stp (fun _ => XS.iloadN X0.here hx rfl (hb hby d37_0) rfl) ?_
  refine stp (fun _ => XS.iloadN X0.here hx rfl (hb hby d37_1) rfl) ?_
  refine stp (fun _ => XS.iloadN X0.here hx rfl (hb hby d37_2) rfl) ?_
  refine stp (fun _ => XS.aconstNull X0.here hx rfl (hb hby d37_3)) ?_
  show Go p e below T0 (mkF m 4 #[(sI fr), (sI to_), (sI ln)] [.null, (.int ln), (.int to_), (.int fr)]) _
  obtain ⟨_, _, ⟨T1, L1, k1, n1⟩, -, X1, ⟨Lc1, hQ1, l1, y1, z1⟩, st1⟩ := Jvm.LawKit.callS X0 hx (y := (⟨"jdk/internal/util/Preconditions", "checkFromToIndex", "(IIILjava/util/function/BiFunction;)I"⟩ : MethodName)) hown (mvT hZ (w_ hw (i := 220) rfl)) (mvT hZ (w_ hw (i := 221) rfl)) (mvT hZ (w_ hw (i := 222) rfl)) (mvT hZ (w_ hw (i := 223) rfl)) (by decide) (backOf (W := 0) (rm_c4 l Z a0 hw [] fr to_ ln  h0 n0 O0 h1 h2 h3) hZ (w_ hw (i := 223) rfl) (w_ hw (i := 222) rfl) (by decide) (by decide)) (g := (mkF m 4 #[(sI fr), (sI to_), (sI ln)] [.null, (.int ln), (.int to_), (.int fr)])) rfl (by rw [hml]; rfl) (argsL := [(.int fr), (.int to_), (.int ln), .null]) (rest := []) (lenOf pd_5 rfl) rfl (by show 2 * 0 + _ ≤ _; exact Nat.le_of_eq rfl) (hb hby d37_4) (fun _ _ => ⟨rfl, e0, (by decide : 0 + 0 ≤ _), (by decide : 0 + 0 ≤ _)⟩)
  dsimp only [Pt.U, Pt.locs, Pt.cells, Pt.slots] at X1 l1 y1 z1 st1 hQ1
  subst y1 z1
  obtain ⟨rfl, N1q, e1⟩ := hQ1
  have N1 : Fr n0 L1 := by rw [l1]; exact Fr.app N0 N1q
  refine stp st1 ?_
  refine outI X1 hx hret (hb hby d37_7) hlk (by decide) (by decide) ?_
  exact ⟨rfl, N1, e1⟩
abbrev B39 : ByteArray := jdk_2097_method_103_code
theorem d39_0 : Dc B39 0 (.bipush 32) 2 := by decide +kernel
theorem d39_2 : Dc B39 2 (.iload_n 3) 1 := by decide +kernel
theorem d39_3 : Dc B39 3 (.isub) 1 := by decide +kernel
theorem d39_4 : Dc B39 4 (.istore 5) 2 := by decide +kernel
theorem d39_6 : Dc B39 6 (.iconst 0) 1 := by decide +kernel
theorem d39_7 : Dc B39 7 (.istore 6) 2 := by decide +kernel
theorem d39_9 : Dc B39 9 (.iload 6) 2 := by decide +kernel
theorem d39_11 : Dc B39 11 (.iload 4) 2 := by decide +kernel
theorem d39_13 : Dc B39 13 (.if_icmp .ge 29) 3 := by decide +kernel
theorem d39_42 : Dc B39 42 (.return_) 1 := by decide +kernel
theorem d39_16 : Dc B39 16 (.aload_n 0) 1 := by decide +kernel
theorem d39_17 : Dc B39 17 (.iload_n 2) 1 := by decide +kernel
theorem d39_18 : Dc B39 18 (.iinc 2 1) 3 := by decide +kernel
theorem d39_21 : Dc B39 21 (.aload_n 1) 1 := by decide +kernel
theorem d39_22 : Dc B39 22 (.iload 6) 2 := by decide +kernel
theorem d39_24 : Dc B39 24 (.iinc 6 1) 3 := by decide +kernel
theorem d39_27 : Dc B39 27 (.iaload) 1 := by decide +kernel
theorem d39_28 : Dc B39 28 (.iload_n 3) 1 := by decide +kernel
theorem d39_29 : Dc B39 29 (.ishl) 1 := by decide +kernel
theorem d39_30 : Dc B39 30 (.aload_n 1) 1 := by decide +kernel
theorem d39_31 : Dc B39 31 (.iload 6) 2 := by decide +kernel
theorem d39_33 : Dc B39 33 (.iaload) 1 := by decide +kernel
theorem d39_34 : Dc B39 34 (.iload 5) 2 := by decide +kernel
theorem d39_36 : Dc B39 36 (.iushr) 1 := by decide +kernel
theorem d39_37 : Dc B39 37 (.ior) 1 := by decide +kernel
theorem d39_38 : Dc B39 38 (.iastore) 1 := by decide +kernel
theorem d39_39 : Dc B39 39 (.goto (-30)) 3 := by decide +kernel
theorem ef_rm_wk (m : MethodId) (ra : Addr) (a : Addr) (ni : Int32) (sc : Int32) (it : Int32)  : entryFrame m #[(.ref ra), (.ref a), (.int ni), (.int sc), (.int it)] 7 = mkF m 0 #[(sR ra), (sR a), (sI ni), (sI sc), (sI it), .unset, .unset] [] := by first | (simp [entryFrame, mkF, argsToLocals, Value.category]; done) | rfl
def Q_rm_wk (Z : State) (ra : Addr) (a : Addr) (ni : Int32) (sc : Int32) (it : Int32) (n : Nat) (f : Nat → Int32) (nr : Nat) (fr : Nat → Int32) (NI : Nat) (IT : Nat) (k_ra : ClassId) (k_a : ClassId) (h0 : Heap) (n0 : Nat) (v : Option Value) (h : Heap) (L : List Loc) : Prop := ∃ (g : Nat → Int32), v = none ∧ Fr n0 L ∧ Keep h0 h [ra] ∧ Arf Z h ra k_ra .int nr (fun i => (.int (g i)))
theorem pn_14_ : plainName "java/math/BigInteger" = true := by first | (simp [plainName, overriddenIn]; done) | decide +kernel
theorem pn_14 : plainFor (⟨"java/math/BigInteger", "shiftLeftImplWorker", "([I[IIII)V"⟩ : MethodName) = true := plainFor_of_name pn_14_
set_option maxRecDepth 65536 in
set_option maxHeartbeats 40000000 in
theorem rm_wk (l : Launch) (Z : State) (a0 : Array Value) (hw : ∀ d ∈ tables_1, d.before a0 Z = true) (ws : List Jvm.Cond) (ra : Addr) (a : Addr) (ni : Int32) (sc : Int32) (it : Int32) (n : Nat) (f : Nat → Int32) (nr : Nat) (fr : Nat → Int32) (NI : Nat) (IT : Nat) (k_ra : ClassId) (k_a : ClassId) (h0 : Heap) (n0 : Nat) (O0 : Old Z n0 h0) (V_ra : Arf Z h0 ra k_ra .int nr (fun i => (.int (fr i)))) (V_a : Arf Z h0 a k_a .int n (fun i => (.int (f i)))) (ge_ra : n0 ≤ ra) (ne_a_ra : a ≠ ra) (hn : n ≤ 24) (hr : nr ≤ 30) (hni : ni.toInt = (NI : Int)) (hit : it.toInt = (IT : Int)) (h1 : IT + 1 = n) (h2 : NI + IT ≤ nr) :
    MetFree l (⟨"java/math/BigInteger", "shiftLeftImplWorker", "([I[IIII)V"⟩ : MethodName) (head1 (Jvm.Cond.code (⟨"java/math/BigInteger", "shiftLeftImplWorker", "([I[IIII)V"⟩ : MethodName) jdk_2097_method_103_code 7 none :: ws) ({ frames := 0, cells := 0, slots := 0, locals := 0 } : Room)) (fun args_ U => args_ = #[(.ref ra), (.ref a), (.int ni), (.int sc), (.int it)] ∧ Z.Warmed39 U.vm ∧ U.heap = h0) (fun _ _ _ _ _ => True) (fun _ U out_ U' => ∃ val_ loc_, out_ = .returned val_ ∧ (Q_rm_wk Z ra a ni sc it n f nr fr NI IT k_ra k_a h0 n0) val_ U'.heap loc_ ∧ FrameEnd U out_ U' loc_ ({ frames := 0, cells := 0, slots := 0, locals := 0 } : Room).cells ({ frames := 0, cells := 0, slots := 0, locals := 0 } : Room).slots) := by
  refine start (Q := (Q_rm_wk Z ra a ni sc it n f nr fr NI IT k_ra k_a h0 n0)) pn_14 ?_
  intro p e s m below meth c T0 X0 hx hby hml hown hnm hret hlk hZ e0
  replace hown : s.vm.findClass "java/math/BigInteger" = some m.cls := hown
  replace hml : c.maxLocals = 7 := hml
  refine goAt (ef_rm_wk m ra a ni sc it ) ?_
  have N0 := Fr.nil n0
  refine stp (fun _ => XS.bipush X0.here hx rfl (hb hby d39_0)) ?_
  refine stp (fun _ => XS.iloadN X0.here hx rfl (hb hby d39_2) rfl) ?_
  refine stp (fun _ => XS.isub X0.here hx rfl (hb hby d39_3) rfl) ?_
  refine stp (fun _ => XS.istore X0.here hx rfl (hb hby d39_4) rfl (l' := #[(sR ra), (sR a), (sI ni), (sI sc), (sI it), (sI ((32 : Int32) - sc)), .unset]) rfl) ?_
  show Go p e below T0 (mkF m 6 #[(sR ra), (sR a), (sI ni), (sI sc), (sI it), (sI ((32 : Int32) - sc)), .unset] []) _
  refine stp (fun _ => XS.iconst X0.here hx rfl (hb hby d39_6)) ?_
  refine stp (fun _ => XS.istore X0.here hx rfl (hb hby d39_7) rfl (l' := #[(sR ra), (sR a), (sI ni), (sI sc), (sI it), (sI ((32 : Int32) - sc)), (sI (0 : Int32))]) rfl) ?_
  show Go p e below T0 (mkF m 9 #[(sR ra), (sR a), (sI ni), (sI sc), (sI it), (sI ((32 : Int32) - sc)), (sI (0 : Int32))] []) _
  have loop9 : ∀ (d : Nat), ∀ (j : Nat) (i6 : Int32) (i2 : Int32) (gg : Nat → Int32), j + d = IT → ∀ (T : State) (locs : List Loc) (hA : Heap) (X : Stand p l e ({ frames := 0, cells := 0, slots := 0, locals := 0 } : Room) s m #[(.ref ra), (.ref a), (.int ni), (.int sc), (.int it)] below meth c T locs 0 0) (eA : T.heap = hA) (NA : Fr n0 locs) (OA : Old Z n0 hA) (KA : Keep h0 hA [ra]) (FA0 : Arf Z hA ra k_ra .int nr (fun x => (.int (gg x)))) (FA1 : Arf Z hA a k_a .int n (fun i => (.int (f i)))), i6.toInt = (j : Int) → i2.toInt = ((NI + j : Nat) : Int) → Go p e below T (mkF m 9 #[(sR ra), (sR a), (sI i2), (sI sc), (sI it), (sI ((32 : Int32) - sc)), (sI i6)] []) (Po s (Q_rm_wk Z ra a ni sc it n f nr fr NI IT k_ra k_a h0 n0) ({ frames := 0, cells := 0, slots := 0, locals := 0 } : Room).cells ({ frames := 0, cells := 0, slots := 0, locals := 0 } : Room).slots) := by
    intro d
    induction d with
    | zero =>
      intro j i6 i2 gg hd_ T locs hA X eA NA OA KA FA0 FA1 hi6 hi2
      refine stp (fun _ => XS.iload X.here hx rfl (hb hby d39_9) rfl) ?_
      refine stp (fun _ => XS.iload X.here hx rfl (hb hby d39_11) rfl) ?_
      refine stp (fun _ => XS.icmpYes X.here hx rfl (pc0 := 13) (pc' := 42) rfl (hb hby d39_13) rfl (XT.ii_ge_t (own_geI hi6 hit (by omega))) (by decide) (by decide)) ?_
      refine outV X hx hret (hb hby d39_42) hlk (by decide) (by decide) ?_
      rw [eA]
      exact ⟨(fun x => (gg x)), rfl, NA, KA, FA0⟩
    | succ d ih =>
      intro j i6 i2 gg hd_ T locs hA X eA NA OA KA FA0 FA1 hi6 hi2
      have hjl : j < IT := by omega
      refine stp (fun _ => XS.iload X.here hx rfl (hb hby d39_9) rfl) ?_
      refine stp (fun _ => XS.iload X.here hx rfl (hb hby d39_11) rfl) ?_
      refine stp (fun _ => XS.icmpNo X.here hx rfl (hb hby d39_13) rfl (XT.ii_ge_f (own_ltI hi6 hit hjl))) ?_
      refine stp (fun _ => XS.aloadN X.here hx rfl (hb hby d39_16) rfl rfl) ?_
      show Go p e below T (mkF m 17 #[(sR ra), (sR a), (sI i2), (sI sc), (sI it), (sI ((32 : Int32) - sc)), (sI i6)] [(.ref ra)]) _
      refine stp (fun _ => XS.iloadN X.here hx rfl (hb hby d39_17) rfl) ?_
      refine stp (fun _ => XS.iinc X.here hx rfl (hb hby d39_18) rfl (l' := #[(sR ra), (sR a), (sI (i2 + (1 : Int32))), (sI sc), (sI it), (sI ((32 : Int32) - sc)), (sI i6)]) rfl) ?_
      refine stp (fun _ => XS.aloadN X.here hx rfl (hb hby d39_21) rfl rfl) ?_
      refine stp (fun _ => XS.iload X.here hx rfl (hb hby d39_22) rfl) ?_
      refine stp (fun _ => XS.iinc X.here hx rfl (hb hby d39_24) rfl (l' := #[(sR ra), (sR a), (sI (i2 + (1 : Int32))), (sI sc), (sI it), (sI ((32 : Int32) - sc)), (sI (i6 + (1 : Int32)))]) rfl) ?_
      show Go p e below T (mkF m 27 #[(sR ra), (sR a), (sI (i2 + (1 : Int32))), (sI sc), (sI it), (sI ((32 : Int32) - sc)), (sI (i6 + (1 : Int32)))] [(.int i6), (.ref a), (.int i2), (.ref ra)]) _
      obtain ⟨cl1, Ar1, q1, S1, H1, G1⟩ := (id FA1)
      have in1 : ¬ (i6 < 0 ∨ cl1.slots.size ≤ (i6).toNatClampNeg) := arf_in S1 hi6 (by omega)
      have at1 : cl1.slots[(i6).toNatClampNeg]? = some (.int (f j)) := arf_at H1 hi6 (by omega)
      refine stp (fun _ => X.iaload hx (j := i6) (v := (.int (f j))) (by rw [eA]; exact Ar1.1) (State.isArrayOf_alike hZ.alike Ar1.2.1) Ar1.2.2 in1 at1 (g := (mkF m 27 #[(sR ra), (sR a), (sI (i2 + (1 : Int32))), (sI sc), (sI it), (sI ((32 : Int32) - sc)), (sI (i6 + (1 : Int32)))] [(.int i6), (.ref a), (.int i2), (.ref ra)])) rfl rfl (hb hby d39_27) _) ?_
      refine stp (fun _ => XS.iloadN X.here hx rfl (hb hby d39_28) rfl) ?_
      refine stp (fun _ => XS.ishl X.here hx rfl (hb hby d39_29) rfl) ?_
      refine stp (fun _ => XS.aloadN X.here hx rfl (hb hby d39_30) rfl rfl) ?_
      refine stp (fun _ => XS.iload X.here hx rfl (hb hby d39_31) rfl) ?_
      show Go p e below T (mkF m 33 #[(sR ra), (sR a), (sI (i2 + (1 : Int32))), (sI sc), (sI it), (sI ((32 : Int32) - sc)), (sI (i6 + (1 : Int32)))] [(.int (i6 + (1 : Int32))), (.ref a), (.int ((f j) <<< (sc &&& 31))), (.int i2), (.ref ra)]) _
      obtain ⟨cl2, Ar2, q2, S2, H2, G2⟩ := (id FA1)
      have in2 : ¬ ((i6 + (1 : Int32)) < 0 ∨ cl2.slots.size ≤ ((i6 + (1 : Int32))).toNatClampNeg) := arf_in S2 (own_incI hi6 (by omega)) (by omega)
      have at2 : cl2.slots[((i6 + (1 : Int32))).toNatClampNeg]? = some (.int (f (j + 1))) := arf_at H2 (own_incI hi6 (by omega)) (by omega)
      refine stp (fun _ => X.iaload hx (j := (i6 + (1 : Int32))) (v := (.int (f (j + 1)))) (by rw [eA]; exact Ar2.1) (State.isArrayOf_alike hZ.alike Ar2.2.1) Ar2.2.2 in2 at2 (g := (mkF m 33 #[(sR ra), (sR a), (sI (i2 + (1 : Int32))), (sI sc), (sI it), (sI ((32 : Int32) - sc)), (sI (i6 + (1 : Int32)))] [(.int (i6 + (1 : Int32))), (.ref a), (.int ((f j) <<< (sc &&& 31))), (.int i2), (.ref ra)])) rfl rfl (hb hby d39_33) _) ?_
      refine stp (fun _ => XS.iload X.here hx rfl (hb hby d39_34) rfl) ?_
      refine stp (fun _ => XS.iushr X.here hx rfl (hb hby d39_36) rfl) ?_
      refine stp (fun _ => XS.ior X.here hx rfl (hb hby d39_37) rfl) ?_
      obtain ⟨cl3, Ar3, q3, S3, H3, G3⟩ := (id FA0)
      have in3 : ¬ (i2 < 0 ∨ cl3.slots.size ≤ (i2).toNatClampNeg) := arf_in S3 hi2 (by omega)
      obtain ⟨T3, h3, X3, e3, W3, st3⟩ := stI X hx hZ eA Ar3 (j := i2) in3 (g := (mkF m 38 #[(sR ra), (sR a), (sI (i2 + (1 : Int32))), (sI sc), (sI it), (sI ((32 : Int32) - sc)), (sI (i6 + (1 : Int32)))] [(.int (((f j) <<< (sc &&& 31)) ||| (((f (j + 1)).toUInt32 >>> (((32 : Int32) - sc) &&& 31).toUInt32).toInt32))), (.int i2), (.ref ra)])) rfl rfl (hb hby d39_38)
      have V3 := Arf.set Ar3 q3 S3 H3 G3 rfl (arf_ix hi2 ▸ W3) (by omega)
      replace V3 : Arf Z h3 ra k_ra .int nr (fun x => (.int (if x = (NI + j) then (((f j) <<< (sc &&& 31)) ||| (((f (j + 1)).toUInt32 >>> (((32 : Int32) - sc) &&& 31).toUInt32).toInt32)) else (gg x)))) := V3.congr (fun x _ => by split <;> rfl)
      have f5 := FA1.other W3 ne_a_ra
      have K3 : Keep h0 h3 [ra] := KA.wr W3 (Or.inl (List.mem_of_getElem? (i := 0) rfl))
      have O3 := OA.wr W3 ge_ra
      have N3 := Fr.snoc X3 NA ge_ra
      refine stp st3 ?_
      show Go p e below T3 (mkF m 39 #[(sR ra), (sR a), (sI (i2 + (1 : Int32))), (sI sc), (sI it), (sI ((32 : Int32) - sc)), (sI (i6 + (1 : Int32)))] []) _
      refine stp (fun _ => XS.goto X3.here hx rfl (pc0 := 39) (pc' := 9) rfl (hb hby d39_39) (by decide) (by decide)) ?_
      show Go p e below T3 (mkF m 9 #[(sR ra), (sR a), (sI (i2 + (1 : Int32))), (sI sc), (sI it), (sI ((32 : Int32) - sc)), (sI (i6 + (1 : Int32)))] []) _
      exact ih (j + 1) (i6 + (1 : Int32)) (i2 + (1 : Int32)) _ (by omega) T3 _ h3 X3 e3 N3 O3 K3 V3 f5 (own_incI hi6 (by omega)) (own_incI (j := NI + j) hi2 (by omega))
  exact loop9 _ 0 (0 : Int32) ni fr (Nat.zero_add _) T0 _ h0 X0 e0 N0 O0 (Keep.refl h0 [ra]) V_ra V_a rfl hni
abbrev B32 : ByteArray := jdk_2097_method_102_code
theorem d32_0 : Dc B32 0 (.iload_n 1) 1 := by decide +kernel
theorem d32_1 : Dc B32 1 (.iconst 5) 1 := by decide +kernel
theorem d32_2 : Dc B32 2 (.iushr) 1 := by decide +kernel
theorem d32_3 : Dc B32 3 (.istore_n 2) 1 := by decide +kernel
theorem d32_4 : Dc B32 4 (.iload_n 1) 1 := by decide +kernel
theorem d32_5 : Dc B32 5 (.bipush 31) 2 := by decide +kernel
theorem d32_7 : Dc B32 7 (.iand) 1 := by decide +kernel
theorem d32_8 : Dc B32 8 (.istore_n 3) 1 := by decide +kernel
theorem d32_9 : Dc B32 9 (.aload_n 0) 1 := by decide +kernel
theorem d32_10 : Dc B32 10 (.arraylength) 1 := by decide +kernel
theorem d32_11 : Dc B32 11 (.istore 4) 2 := by decide +kernel
theorem d32_13 : Dc B32 13 (.aconst_null) 1 := by decide +kernel
theorem d32_14 : Dc B32 14 (.astore 5) 2 := by decide +kernel
theorem d32_16 : Dc B32 16 (.iload_n 3) 1 := by decide +kernel
theorem d32_17 : Dc B32 17 (.ifCond .ne 24) 3 := by decide +kernel
theorem d32_20 : Dc B32 20 (.iload 4) 2 := by decide +kernel
theorem d32_22 : Dc B32 22 (.iload_n 2) 1 := by decide +kernel
theorem d32_23 : Dc B32 23 (.iadd) 1 := by decide +kernel
theorem d32_24 : Dc B32 24 (.newarray .int) 2 := by decide +kernel
theorem d32_26 : Dc B32 26 (.astore 5) 2 := by decide +kernel
theorem d32_28 : Dc B32 28 (.aload_n 0) 1 := by decide +kernel
theorem d32_29 : Dc B32 29 (.iconst 0) 1 := by decide +kernel
theorem d32_30 : Dc B32 30 (.aload 5) 2 := by decide +kernel
theorem d32_32 : Dc B32 32 (.iconst 0) 1 := by decide +kernel
theorem d32_33 : Dc B32 33 (.iload 4) 2 := by decide +kernel
theorem d32_35 : Dc B32 35 (.invokestatic 388) 3 := by decide +kernel
theorem d32_38 : Dc B32 38 (.goto 114) 3 := by decide +kernel
theorem d32_152 : Dc B32 152 (.aload 5) 2 := by decide +kernel
theorem d32_154 : Dc B32 154 (.areturn) 1 := by decide +kernel
theorem d32_41 : Dc B32 41 (.iconst 0) 1 := by decide +kernel
theorem d32_42 : Dc B32 42 (.istore 6) 2 := by decide +kernel
theorem d32_44 : Dc B32 44 (.bipush 32) 2 := by decide +kernel
theorem d32_46 : Dc B32 46 (.iload_n 3) 1 := by decide +kernel
theorem d32_47 : Dc B32 47 (.isub) 1 := by decide +kernel
theorem d32_48 : Dc B32 48 (.istore 7) 2 := by decide +kernel
theorem d32_50 : Dc B32 50 (.aload_n 0) 1 := by decide +kernel
theorem d32_51 : Dc B32 51 (.iconst 0) 1 := by decide +kernel
theorem d32_52 : Dc B32 52 (.iaload) 1 := by decide +kernel
theorem d32_53 : Dc B32 53 (.iload 7) 2 := by decide +kernel
theorem d32_55 : Dc B32 55 (.iushr) 1 := by decide +kernel
theorem d32_56 : Dc B32 56 (.istore 8) 2 := by decide +kernel
theorem d32_58 : Dc B32 58 (.iload 8) 2 := by decide +kernel
theorem d32_60 : Dc B32 60 (.ifCond .eq 26) 3 := by decide +kernel
theorem d32_86 : Dc B32 86 (.iload 4) 2 := by decide +kernel
theorem d32_88 : Dc B32 88 (.iload_n 2) 1 := by decide +kernel
theorem d32_89 : Dc B32 89 (.iadd) 1 := by decide +kernel
theorem d32_90 : Dc B32 90 (.newarray .int) 2 := by decide +kernel
theorem d32_92 : Dc B32 92 (.astore 5) 2 := by decide +kernel
theorem d32_94 : Dc B32 94 (.iload 4) 2 := by decide +kernel
theorem d32_96 : Dc B32 96 (.iconst 1) 1 := by decide +kernel
theorem d32_97 : Dc B32 97 (.isub) 1 := by decide +kernel
theorem d32_98 : Dc B32 98 (.istore 9) 2 := by decide +kernel
theorem d32_100 : Dc B32 100 (.iconst 0) 1 := by decide +kernel
theorem d32_101 : Dc B32 101 (.iload 9) 2 := by decide +kernel
theorem d32_103 : Dc B32 103 (.iconst 1) 1 := by decide +kernel
theorem d32_104 : Dc B32 104 (.iadd) 1 := by decide +kernel
theorem d32_105 : Dc B32 105 (.aload_n 0) 1 := by decide +kernel
theorem d32_106 : Dc B32 106 (.arraylength) 1 := by decide +kernel
theorem d32_107 : Dc B32 107 (.invokestatic 611) 3 := by decide +kernel
theorem pd_6 : parseMethodDescriptor "(III)I" = some ⟨[.int, .int, .int], some .int⟩ := by decide +kernel
theorem d32_110 : Dc B32 110 (.pop) 1 := by decide +kernel
theorem d32_111 : Dc B32 111 (.iload 6) 2 := by decide +kernel
theorem d32_113 : Dc B32 113 (.iload 9) 2 := by decide +kernel
theorem d32_115 : Dc B32 115 (.iload 6) 2 := by decide +kernel
theorem d32_117 : Dc B32 117 (.iadd) 1 := by decide +kernel
theorem d32_118 : Dc B32 118 (.iconst 1) 1 := by decide +kernel
theorem d32_119 : Dc B32 119 (.iadd) 1 := by decide +kernel
theorem d32_120 : Dc B32 120 (.aload 5) 2 := by decide +kernel
theorem d32_122 : Dc B32 122 (.arraylength) 1 := by decide +kernel
theorem d32_123 : Dc B32 123 (.invokestatic 611) 3 := by decide +kernel
theorem d32_126 : Dc B32 126 (.pop) 1 := by decide +kernel
theorem d32_127 : Dc B32 127 (.aload 5) 2 := by decide +kernel
theorem d32_129 : Dc B32 129 (.aload_n 0) 1 := by decide +kernel
theorem d32_130 : Dc B32 130 (.iload 6) 2 := by decide +kernel
theorem d32_132 : Dc B32 132 (.iload_n 3) 1 := by decide +kernel
theorem d32_133 : Dc B32 133 (.iload 9) 2 := by decide +kernel
theorem d32_135 : Dc B32 135 (.invokestatic 618) 3 := by decide +kernel
theorem pd_7 : parseMethodDescriptor "([I[IIII)V" = some ⟨[(.array .int), (.array .int), .int, .int, .int], none⟩ := by decide +kernel
theorem d32_138 : Dc B32 138 (.aload 5) 2 := by decide +kernel
theorem d32_140 : Dc B32 140 (.iload 9) 2 := by decide +kernel
theorem d32_142 : Dc B32 142 (.iload 6) 2 := by decide +kernel
theorem d32_144 : Dc B32 144 (.iadd) 1 := by decide +kernel
theorem d32_145 : Dc B32 145 (.aload_n 0) 1 := by decide +kernel
theorem d32_146 : Dc B32 146 (.iload 9) 2 := by decide +kernel
theorem d32_148 : Dc B32 148 (.iaload) 1 := by decide +kernel
theorem d32_149 : Dc B32 149 (.iload_n 3) 1 := by decide +kernel
theorem d32_150 : Dc B32 150 (.ishl) 1 := by decide +kernel
theorem d32_151 : Dc B32 151 (.iastore) 1 := by decide +kernel
theorem d32_63 : Dc B32 63 (.iload 4) 2 := by decide +kernel
theorem d32_65 : Dc B32 65 (.iload_n 2) 1 := by decide +kernel
theorem d32_66 : Dc B32 66 (.iadd) 1 := by decide +kernel
theorem d32_67 : Dc B32 67 (.iconst 1) 1 := by decide +kernel
theorem d32_68 : Dc B32 68 (.iadd) 1 := by decide +kernel
theorem d32_69 : Dc B32 69 (.newarray .int) 2 := by decide +kernel
theorem d32_71 : Dc B32 71 (.astore 5) 2 := by decide +kernel
theorem d32_73 : Dc B32 73 (.aload 5) 2 := by decide +kernel
theorem d32_75 : Dc B32 75 (.iload 6) 2 := by decide +kernel
theorem d32_77 : Dc B32 77 (.iinc 6 1) 3 := by decide +kernel
theorem d32_80 : Dc B32 80 (.iload 8) 2 := by decide +kernel
theorem d32_82 : Dc B32 82 (.iastore) 1 := by decide +kernel
theorem d32_83 : Dc B32 83 (.goto 11) 3 := by decide +kernel
theorem ef_rm_shl (m : MethodId) (a : Addr) (sh : Int32)  : entryFrame m #[(.ref a), (.int sh)] 10 = mkF m 0 #[(sR a), (sI sh), .unset, .unset, .unset, .unset, .unset, .unset, .unset, .unset] [] := by first | (simp [entryFrame, mkF, argsToLocals, Value.category]; done) | rfl
def Q_rm_shl (Z : State) (a : Addr) (sh : Int32) (n : Nat) (f : Nat → Int32) (k_a : ClassId) (h0 : Heap) (n0 : Nat) (v : Option Value) (h : Heap) (L : List Loc) : Prop := ∃ (r : Addr) (k_r : ClassId) (m : Nat) (g : Nat → Int32), v = some (.ref r) ∧ Fr n0 L ∧ Keep h0 h [] ∧ (n0 ≤ r ∧ h0.size ≤ r) ∧ Arf Z h r k_r .int m (fun i => (.int (g i))) ∧ (0 < m ∧ m ≤ n + 2)
theorem pn_15_ : plainName "java/math/BigInteger" = true := by first | (simp [plainName, overriddenIn]; done) | decide +kernel
theorem pn_15 : plainFor (⟨"java/math/BigInteger", "shiftLeft", "([II)[I"⟩ : MethodName) = true := plainFor_of_name pn_15_
set_option maxRecDepth 65536 in
set_option maxHeartbeats 40000000 in
theorem rm_shl (l : Launch) (Z : State) (a0 : Array Value) (hw : ∀ d ∈ tables_1, d.before a0 Z = true) (ws : List Jvm.Cond) (a : Addr) (sh : Int32) (n : Nat) (f : Nat → Int32) (k_a : ClassId) (h0 : Heap) (n0 : Nat) (O0 : Old Z n0 h0) (V_a : Arf Z h0 a k_a .int n (fun i => (.int (f i)))) (hn : n ≤ 22) (hp : 0 < n) (hsh : 0 ≤ sh.toInt ∧ sh.toInt ≤ 63) :
    MetFree l (⟨"java/math/BigInteger", "shiftLeft", "([II)[I"⟩ : MethodName) (head1 (Jvm.Cond.code (⟨"java/math/BigInteger", "shiftLeft", "([II)[I"⟩ : MethodName) jdk_2097_method_102_code 10 (some (.array .int)) :: ws) ({ frames := 2, cells := 1, slots := 25, locals := 29 } : Room)) (fun args_ U => args_ = #[(.ref a), (.int sh)] ∧ Z.Warmed39 U.vm ∧ U.heap = h0) (fun _ _ _ _ _ => True) (fun _ U out_ U' => ∃ val_ loc_, out_ = .returned val_ ∧ (Q_rm_shl Z a sh n f k_a h0 n0) val_ U'.heap loc_ ∧ FrameEnd U out_ U' loc_ ({ frames := 2, cells := 1, slots := 25, locals := 29 } : Room).cells ({ frames := 2, cells := 1, slots := 25, locals := 29 } : Room).slots) := by
  refine start (Q := (Q_rm_shl Z a sh n f k_a h0 n0)) pn_15 ?_
  intro p e s m below meth c T0 X0 hx hby hml hown hnm hret hlk hZ e0
  replace hown : s.vm.findClass "java/math/BigInteger" = some m.cls := hown
  replace hml : c.maxLocals = 10 := hml
  refine goAt (ef_rm_shl m a sh ) ?_
  have N0 := Fr.nil n0
  refine stp (fun _ => XS.iloadN X0.here hx rfl (hb hby d32_0) rfl) ?_
  refine stp (fun _ => XS.iconst X0.here hx rfl (hb hby d32_1)) ?_
  refine stp (fun _ => XS.iushr X0.here hx rfl (hb hby d32_2) rfl) ?_
  refine stp (fun _ => XS.istoreN X0.here hx rfl (hb hby d32_3) rfl (l' := #[(sR a), (sI sh), (sI ((sh.toUInt32 >>> ((5 : Int32) &&& 31).toUInt32).toInt32)), .unset, .unset, .unset, .unset, .unset, .unset, .unset]) rfl) ?_
  show Go p e below T0 (mkF m 4 #[(sR a), (sI sh), (sI ((sh.toUInt32 >>> ((5 : Int32) &&& 31).toUInt32).toInt32)), .unset, .unset, .unset, .unset, .unset, .unset, .unset] []) _
  obtain ⟨kq2, hkq2⟩ : ∃ z : Int32, z = ((sh.toUInt32 >>> ((5 : Int32) &&& 31).toUInt32).toInt32) := ⟨_, rfl⟩
  rw [← hkq2]
  obtain ⟨K2, hK2, hK2b⟩ := own_k2 hsh hkq2
  refine stp (fun _ => XS.iloadN X0.here hx rfl (hb hby d32_4) rfl) ?_
  refine stp (fun _ => XS.bipush X0.here hx rfl (hb hby d32_5)) ?_
  refine stp (fun _ => XS.iand X0.here hx rfl (hb hby d32_7) rfl) ?_
  refine stp (fun _ => XS.istoreN X0.here hx rfl (hb hby d32_8) rfl (l' := #[(sR a), (sI sh), (sI kq2), (sI (sh &&& (31 : Int32))), .unset, .unset, .unset, .unset, .unset, .unset]) rfl) ?_
  show Go p e below T0 (mkF m 9 #[(sR a), (sI sh), (sI kq2), (sI (sh &&& (31 : Int32))), .unset, .unset, .unset, .unset, .unset, .unset] []) _
  obtain ⟨bq3, hbq3⟩ : ∃ z : Int32, z = (sh &&& (31 : Int32)) := ⟨_, rfl⟩
  rw [← hbq3]
  have hbq3 := own_b3 hbq3
  refine stp (fun _ => XS.aloadN X0.here hx rfl (hb hby d32_9) rfl rfl) ?_
  obtain ⟨cl1, Ar1, -, S1, -, -⟩ := (id V_a)
  refine stp (fun _ => X0.arraylength hx (by rw [e0]; exact Ar1.1) (State.isArrayOf_alike hZ.alike Ar1.2.1) (g := (mkF m 10 #[(sR a), (sI sh), (sI kq2), (sI bq3), .unset, .unset, .unset, .unset, .unset, .unset] [(.ref a)])) rfl rfl (hb hby d32_10) _) ?_
  rw [arf_len S1 (z := (Int32.ofNat n)) (own_nI (by omega))]
  refine stp (fun _ => XS.istore X0.here hx rfl (hb hby d32_11) rfl (l' := #[(sR a), (sI sh), (sI kq2), (sI bq3), (sI (Int32.ofNat n)), .unset, .unset, .unset, .unset, .unset]) rfl) ?_
  refine stp (fun _ => XS.aconstNull X0.here hx rfl (hb hby d32_13)) ?_
  show Go p e below T0 (mkF m 14 #[(sR a), (sI sh), (sI kq2), (sI bq3), (sI (Int32.ofNat n)), .unset, .unset, .unset, .unset, .unset] [.null]) _
  refine stp (fun _ => XS.astore X0.here hx rfl (hb hby d32_14) rfl rfl (l' := #[(sR a), (sI sh), (sI kq2), (sI bq3), (sI (Int32.ofNat n)), .val .null, .unset, .unset, .unset, .unset]) rfl) ?_
  refine stp (fun _ => XS.iloadN X0.here hx rfl (hb hby d32_16) rfl) ?_
  by_cases q17_2 : bq3 = 0
  · refine stp (fun _ => XS.ifNo X0.here hx rfl (hb hby d32_17) rfl (XT.i0_ne_f q17_2)) ?_
    refine stp (fun _ => XS.iload X0.here hx rfl (hb hby d32_20) rfl) ?_
    refine stp (fun _ => XS.iloadN X0.here hx rfl (hb hby d32_22) rfl) ?_
    show Go p e below T0 (mkF m 23 #[(sR a), (sI sh), (sI kq2), (sI bq3), (sI (Int32.ofNat n)), .val .null, .unset, .unset, .unset, .unset] [(.int kq2), (.int (Int32.ofNat n))]) _
    refine stp (fun _ => XS.iadd X0.here hx rfl (hb hby d32_23) rfl) ?_
    obtain ⟨T3, h3, k3, X3, e3, E3, A3, B3, st3⟩ := newPE X0 hx hZ (w_ hw (i := 136) rfl) e0 (g := (mkF m 24 #[(sR a), (sI sh), (sI kq2), (sI bq3), (sI (Int32.ofNat n)), .val .null, .unset, .unset, .unset, .unset] [(.int ((Int32.ofNat n) + kq2))])) rfl (hb hby d32_24) rfl (own_u0 (own_addN (own_nI (k := n) (by omega)) hK2 (by omega))) (cap := 25) (by rw [arf_ix (own_addN (own_nI (k := n) (by omega)) hK2 (by omega))]; omega) (by decide) (by decide) (by decide) (ad := "[I") (by decide)
    obtain ⟨b3, g3⟩ : ∃ z, z = h0.size := ⟨_, rfl⟩
    rw [← g3] at A3 B3 st3
    have ne4 : a ≠ b3 := Nat.ne_of_lt (Nat.lt_of_lt_of_le V_a.lt (Nat.le_of_eq g3.symm))
    have sz_b3 : h0.size ≤ b3 := Nat.le_trans (Keep.refl h0 []).1 (Nat.le_of_eq g3.symm)
    have ge_b3 : n0 ≤ b3 := Nat.le_trans (old_le O0) (Nat.le_of_eq g3.symm)
    have f5 := V_a.ext E3
    have K3 : Keep h0 h3 [] := (Keep.refl h0 []).ext E3
    have O3 := O0.ext E3
    have V3 : Arf Z h3 b3 k3 .int (n + K2) (fun _ => (.int (0 : Int32))) := Arf.new A3 (own_u0 (own_addN (own_nI (k := n) (by omega)) hK2 (by omega))) (arf_ix (own_addN (own_nI (k := n) (by omega)) hK2 (by omega)))
    refine stp st3 ?_
    refine stp (fun _ => XS.astore X3.here hx rfl (hb hby d32_26) rfl rfl (l' := #[(sR a), (sI sh), (sI kq2), (sI bq3), (sI (Int32.ofNat n)), (sR b3), .unset, .unset, .unset, .unset]) rfl) ?_
    refine stp (fun _ => XS.aloadN X3.here hx rfl (hb hby d32_28) rfl rfl) ?_
    refine stp (fun _ => XS.iconst X3.here hx rfl (hb hby d32_29)) ?_
    show Go p e below T3 (mkF m 30 #[(sR a), (sI sh), (sI kq2), (sI bq3), (sI (Int32.ofNat n)), (sR b3), .unset, .unset, .unset, .unset] [(.int (0 : Int32)), (.ref a)]) _
    refine stp (fun _ => XS.aload X3.here hx rfl (hb hby d32_30) rfl rfl) ?_
    refine stp (fun _ => XS.iconst X3.here hx rfl (hb hby d32_32)) ?_
    refine stp (fun _ => XS.iload X3.here hx rfl (hb hby d32_33) rfl) ?_
    show Go p e below T3 (mkF m 35 #[(sR a), (sI sh), (sI kq2), (sI bq3), (sI (Int32.ofNat n)), (sR b3), .unset, .unset, .unset, .unset] [(.int (Int32.ofNat n)), (.int (0 : Int32)), (.ref b3), (.int (0 : Int32)), (.ref a)]) _
    obtain ⟨T6, h6, L6, g6, X6, e6, N6, K6q, V6, st6⟩ := cpI X3 hx hZ hown (w_ hw (i := 198) rfl) (w_ hw (i := 201) rfl) (w_ hw (i := 199) rfl) (w_ hw (i := 200) rfl) e3 f5 V3 (by omega) (by omega) (sp := (0 : Int32)) (dp := (0 : Int32)) (nn := (Int32.ofNat n)) (SP := 0) (DP := 0) (NN := n) rfl rfl (own_nI (k := n) (by omega)) (by omega) (by omega) N0 ge_b3 (g := (mkF m 35 #[(sR a), (sI sh), (sI kq2), (sI bq3), (sI (Int32.ofNat n)), (sR b3), .unset, .unset, .unset, .unset] [(.int (Int32.ofNat n)), (.int (0 : Int32)), (.ref b3), (.int (0 : Int32)), (.ref a)])) rfl (by rw [hml]; rfl) rfl (hb hby d32_35) (by decide) (W := 0) (by show 2 * 0 + _ ≤ _; exact Nat.le_of_eq rfl) (by decide)
    have f7 := f5.keep K6q (ninS ne4 nin0)
    have f8 := B3.keep K6q
    have K6 : Keep h0 h6 [] := K3.trans K6q (allS (Or.inr sz_b3) all0)
    have O6 := O3.keep K6q (allS ge_b3 all0)
    refine stp st6 ?_
    refine stp (fun _ => XS.goto X6.here hx rfl (pc0 := 38) (pc' := 152) rfl (hb hby d32_38) (by decide) (by decide)) ?_
    refine stp (fun _ => XS.aload X6.here hx rfl (hb hby d32_152) rfl rfl) ?_
    refine outA X6 hx hret rfl rfl (hb hby d32_154) hlk (by decide) (by decide) ?_
    rw [e6]
    exact ⟨b3, k3, (n + K2), (fun i => (g6 i)), rfl, N6, K6, ⟨ge_b3, sz_b3⟩, V6, ⟨by omega, by omega⟩⟩
  refine stp (fun _ => XS.ifYes X0.here hx rfl (pc0 := 17) (pc' := 41) rfl (hb hby d32_17) rfl (XT.i0_ne_t q17_2) (by decide) (by decide)) ?_
  refine stp (fun _ => XS.iconst X0.here hx rfl (hb hby d32_41)) ?_
  refine stp (fun _ => XS.istore X0.here hx rfl (hb hby d32_42) rfl (l' := #[(sR a), (sI sh), (sI kq2), (sI bq3), (sI (Int32.ofNat n)), .val .null, (sI (0 : Int32)), .unset, .unset, .unset]) rfl) ?_
  show Go p e below T0 (mkF m 44 #[(sR a), (sI sh), (sI kq2), (sI bq3), (sI (Int32.ofNat n)), .val .null, (sI (0 : Int32)), .unset, .unset, .unset] []) _
  refine stp (fun _ => XS.bipush X0.here hx rfl (hb hby d32_44)) ?_
  refine stp (fun _ => XS.iloadN X0.here hx rfl (hb hby d32_46) rfl) ?_
  refine stp (fun _ => XS.isub X0.here hx rfl (hb hby d32_47) rfl) ?_
  refine stp (fun _ => XS.istore X0.here hx rfl (hb hby d32_48) rfl (l' := #[(sR a), (sI sh), (sI kq2), (sI bq3), (sI (Int32.ofNat n)), .val .null, (sI (0 : Int32)), (sI ((32 : Int32) - bq3)), .unset, .unset]) rfl) ?_
  refine stp (fun _ => XS.aloadN X0.here hx rfl (hb hby d32_50) rfl rfl) ?_
  show Go p e below T0 (mkF m 51 #[(sR a), (sI sh), (sI kq2), (sI bq3), (sI (Int32.ofNat n)), .val .null, (sI (0 : Int32)), (sI ((32 : Int32) - bq3)), .unset, .unset] [(.ref a)]) _
  refine stp (fun _ => XS.iconst X0.here hx rfl (hb hby d32_51)) ?_
  obtain ⟨cl9, Ar9, q9, S9, H9, G9⟩ := (id V_a)
  have in9 : ¬ ((0 : Int32) < 0 ∨ cl9.slots.size ≤ ((0 : Int32)).toNatClampNeg) := arf_in S9 (show (0 : Int32).toInt = ((0 : Nat) : Int) from rfl) hp
  have at9 : cl9.slots[((0 : Int32)).toNatClampNeg]? = some (.int (f 0)) := arf_at H9 (show (0 : Int32).toInt = ((0 : Nat) : Int) from rfl) hp
  refine stp (fun _ => X0.iaload hx (j := (0 : Int32)) (v := (.int (f 0))) (by rw [e0]; exact Ar9.1) (State.isArrayOf_alike hZ.alike Ar9.2.1) Ar9.2.2 in9 at9 (g := (mkF m 52 #[(sR a), (sI sh), (sI kq2), (sI bq3), (sI (Int32.ofNat n)), .val .null, (sI (0 : Int32)), (sI ((32 : Int32) - bq3)), .unset, .unset] [(.int (0 : Int32)), (.ref a)])) rfl rfl (hb hby d32_52) _) ?_
  refine stp (fun _ => XS.iload X0.here hx rfl (hb hby d32_53) rfl) ?_
  refine stp (fun _ => XS.iushr X0.here hx rfl (hb hby d32_55) rfl) ?_
  refine stp (fun _ => XS.istore X0.here hx rfl (hb hby d32_56) rfl (l' := #[(sR a), (sI sh), (sI kq2), (sI bq3), (sI (Int32.ofNat n)), .val .null, (sI (0 : Int32)), (sI ((32 : Int32) - bq3)), (sI (((f 0).toUInt32 >>> (((32 : Int32) - bq3) &&& 31).toUInt32).toInt32)), .unset]) rfl) ?_
  show Go p e below T0 (mkF m 58 #[(sR a), (sI sh), (sI kq2), (sI bq3), (sI (Int32.ofNat n)), .val .null, (sI (0 : Int32)), (sI ((32 : Int32) - bq3)), (sI (((f 0).toUInt32 >>> (((32 : Int32) - bq3) &&& 31).toUInt32).toInt32)), .unset] []) _
  refine stp (fun _ => XS.iload X0.here hx rfl (hb hby d32_58) rfl) ?_
  by_cases q60_10 : (((f 0).toUInt32 >>> (((32 : Int32) - bq3) &&& 31).toUInt32).toInt32) = 0
  · refine stp (fun _ => XS.ifYes X0.here hx rfl (pc0 := 60) (pc' := 86) rfl (hb hby d32_60) rfl (XT.i0_eq_t q60_10) (by decide) (by decide)) ?_
    refine stp (fun _ => XS.iload X0.here hx rfl (hb hby d32_86) rfl) ?_
    refine stp (fun _ => XS.iloadN X0.here hx rfl (hb hby d32_88) rfl) ?_
    refine stp (fun _ => XS.iadd X0.here hx rfl (hb hby d32_89) rfl) ?_
    show Go p e below T0 (mkF m 90 #[(sR a), (sI sh), (sI kq2), (sI bq3), (sI (Int32.ofNat n)), .val .null, (sI (0 : Int32)), (sI ((32 : Int32) - bq3)), (sI (((f 0).toUInt32 >>> (((32 : Int32) - bq3) &&& 31).toUInt32).toInt32)), .unset] [(.int ((Int32.ofNat n) + kq2))]) _
    obtain ⟨T11, h11, k11, X11, e11, E11, A11, B11, st11⟩ := newPE X0 hx hZ (w_ hw (i := 136) rfl) e0 (g := (mkF m 90 #[(sR a), (sI sh), (sI kq2), (sI bq3), (sI (Int32.ofNat n)), .val .null, (sI (0 : Int32)), (sI ((32 : Int32) - bq3)), (sI (((f 0).toUInt32 >>> (((32 : Int32) - bq3) &&& 31).toUInt32).toInt32)), .unset] [(.int ((Int32.ofNat n) + kq2))])) rfl (hb hby d32_90) rfl (own_u0 (own_addN (own_nI (k := n) (by omega)) hK2 (by omega))) (cap := 25) (by rw [arf_ix (own_addN (own_nI (k := n) (by omega)) hK2 (by omega))]; omega) (by decide) (by decide) (by decide) (ad := "[I") (by decide)
    obtain ⟨b11, g11⟩ : ∃ z, z = h0.size := ⟨_, rfl⟩
    rw [← g11] at A11 B11 st11
    have ne12 : a ≠ b11 := Nat.ne_of_lt (Nat.lt_of_lt_of_le V_a.lt (Nat.le_of_eq g11.symm))
    have sz_b11 : h0.size ≤ b11 := Nat.le_trans (Keep.refl h0 []).1 (Nat.le_of_eq g11.symm)
    have ge_b11 : n0 ≤ b11 := Nat.le_trans (old_le O0) (Nat.le_of_eq g11.symm)
    have f13 := V_a.ext E11
    have K11 : Keep h0 h11 [] := (Keep.refl h0 []).ext E11
    have O11 := O0.ext E11
    have V11 : Arf Z h11 b11 k11 .int (n + K2) (fun _ => (.int (0 : Int32))) := Arf.new A11 (own_u0 (own_addN (own_nI (k := n) (by omega)) hK2 (by omega))) (arf_ix (own_addN (own_nI (k := n) (by omega)) hK2 (by omega)))
    refine stp st11 ?_
    refine stp (fun _ => XS.astore X11.here hx rfl (hb hby d32_92) rfl rfl (l' := #[(sR a), (sI sh), (sI kq2), (sI bq3), (sI (Int32.ofNat n)), (sR b11), (sI (0 : Int32)), (sI ((32 : Int32) - bq3)), (sI (((f 0).toUInt32 >>> (((32 : Int32) - bq3) &&& 31).toUInt32).toInt32)), .unset]) rfl) ?_
    show Go p e below T11 (mkF m 94 #[(sR a), (sI sh), (sI kq2), (sI bq3), (sI (Int32.ofNat n)), (sR b11), (sI (0 : Int32)), (sI ((32 : Int32) - bq3)), (sI (((f 0).toUInt32 >>> (((32 : Int32) - bq3) &&& 31).toUInt32).toInt32)), .unset] []) _
    refine stp (fun _ => XS.iload X11.here hx rfl (hb hby d32_94) rfl) ?_
    refine stp (fun _ => XS.iconst X11.here hx rfl (hb hby d32_96)) ?_
    refine stp (fun _ => XS.isub X11.here hx rfl (hb hby d32_97) rfl) ?_
    refine stp (fun _ => XS.istore X11.here hx rfl (hb hby d32_98) rfl (l' := #[(sR a), (sI sh), (sI kq2), (sI bq3), (sI (Int32.ofNat n)), (sR b11), (sI (0 : Int32)), (sI ((32 : Int32) - bq3)), (sI (((f 0).toUInt32 >>> (((32 : Int32) - bq3) &&& 31).toUInt32).toInt32)), (sI ((Int32.ofNat n) - (1 : Int32)))]) rfl) ?_
    refine stp (fun _ => XS.iconst X11.here hx rfl (hb hby d32_100)) ?_
    show Go p e below T11 (mkF m 101 #[(sR a), (sI sh), (sI kq2), (sI bq3), (sI (Int32.ofNat n)), (sR b11), (sI (0 : Int32)), (sI ((32 : Int32) - bq3)), (sI (((f 0).toUInt32 >>> (((32 : Int32) - bq3) &&& 31).toUInt32).toInt32)), (sI ((Int32.ofNat n) - (1 : Int32)))] [(.int (0 : Int32))]) _
    refine stp (fun _ => XS.iload X11.here hx rfl (hb hby d32_101) rfl) ?_
    refine stp (fun _ => XS.iconst X11.here hx rfl (hb hby d32_103)) ?_
    refine stp (fun _ => XS.iadd X11.here hx rfl (hb hby d32_104) rfl) ?_
    refine stp (fun _ => XS.aloadN X11.here hx rfl (hb hby d32_105) rfl rfl) ?_
    obtain ⟨cl14, Ar14, -, S14, -, -⟩ := (id f13)
    refine stp (fun _ => X11.arraylength hx (by rw [e11]; exact Ar14.1) (State.isArrayOf_alike hZ.alike Ar14.2.1) (g := (mkF m 106 #[(sR a), (sI sh), (sI kq2), (sI bq3), (sI (Int32.ofNat n)), (sR b11), (sI (0 : Int32)), (sI ((32 : Int32) - bq3)), (sI (((f 0).toUInt32 >>> (((32 : Int32) - bq3) &&& 31).toUInt32).toInt32)), (sI ((Int32.ofNat n) - (1 : Int32)))] [(.ref a), (.int (((Int32.ofNat n) - (1 : Int32)) + (1 : Int32))), (.int (0 : Int32))])) rfl rfl (hb hby d32_106) _) ?_
    rw [arf_len S14 (z := (Int32.ofNat n)) (own_nI (by omega))]
    show Go p e below T11 (mkF m 107 #[(sR a), (sI sh), (sI kq2), (sI bq3), (sI (Int32.ofNat n)), (sR b11), (sI (0 : Int32)), (sI ((32 : Int32) - bq3)), (sI (((f 0).toUInt32 >>> (((32 : Int32) - bq3) &&& 31).toUInt32).toInt32)), (sI ((Int32.ofNat n) - (1 : Int32)))] [(.int (Int32.ofNat n)), (.int (((Int32.ofNat n) - (1 : Int32)) + (1 : Int32))), (.int (0 : Int32))]) _
    obtain ⟨_, _, ⟨T15, L15, k15, n15⟩, -, X15, ⟨Lc15, hQ15, l15, y15, z15⟩, st15⟩ := Jvm.LawKit.callS X11 hx (y := (⟨"java/util/Objects", "checkFromToIndex", "(III)I"⟩ : MethodName)) hown (mvT hZ (w_ hw (i := 217) rfl)) (mvT hZ (w_ hw (i := 218) rfl)) (mvT hZ (w_ hw (i := 184) rfl)) (mvT hZ (w_ hw (i := 219) rfl)) (by decide) (backOf (W := 0) (rm_c3 l Z a0 hw [] (0 : Int32) (((Int32.ofNat n) - (1 : Int32)) + (1 : Int32)) (Int32.ofNat n)  h11 n0 O11 (by decide) (own_geI (own_xsp (own_nI (k := n) (by omega)) hp (by omega)) (show (0 : Int32).toInt = ((0 : Nat) : Int) from rfl) (Nat.zero_le _)) (own_geI (own_nI (k := n) (by omega)) (own_xsp (own_nI (k := n) (by omega)) hp (by omega)) (Nat.le_refl _))) hZ (w_ hw (i := 219) rfl) (w_ hw (i := 184) rfl) (by decide) (by decide)) (g := (mkF m 107 #[(sR a), (sI sh), (sI kq2), (sI bq3), (sI (Int32.ofNat n)), (sR b11), (sI (0 : Int32)), (sI ((32 : Int32) - bq3)), (sI (((f 0).toUInt32 >>> (((32 : Int32) - bq3) &&& 31).toUInt32).toInt32)), (sI ((Int32.ofNat n) - (1 : Int32)))] [(.int (Int32.ofNat n)), (.int (((Int32.ofNat n) - (1 : Int32)) + (1 : Int32))), (.int (0 : Int32))])) rfl (by rw [hml]; rfl) (argsL := [(.int (0 : Int32)), (.int (((Int32.ofNat n) - (1 : Int32)) + (1 : Int32))), (.int (Int32.ofNat n))]) (rest := []) (lenOf pd_6 rfl) rfl (by show 2 * 0 + _ ≤ _; exact Nat.le_of_eq rfl) (hb hby d32_107) (fun _ _ => ⟨rfl, e11, (by decide : 1 + 0 ≤ _), (by decide : 25 + 0 ≤ _)⟩)
    dsimp only [Pt.U, Pt.locs, Pt.cells, Pt.slots] at X15 l15 y15 z15 st15 hQ15
    subst y15 z15
    obtain ⟨rfl, N15q, e15⟩ := hQ15
    have N15 : Fr n0 L15 := by rw [l15]; exact Fr.app N0 N15q
    refine stp st15 ?_
    refine stp (fun _ => XS.pop X15.here hx rfl (hb hby d32_110) rfl rfl) ?_
    refine stp (fun _ => XS.iload X15.here hx rfl (hb hby d32_111) rfl) ?_
    refine stp (fun _ => XS.iload X15.here hx rfl (hb hby d32_113) rfl) ?_
    refine stp (fun _ => XS.iload X15.here hx rfl (hb hby d32_115) rfl) ?_
    show Go p e below T15 (mkF m 117 #[(sR a), (sI sh), (sI kq2), (sI bq3), (sI (Int32.ofNat n)), (sR b11), (sI (0 : Int32)), (sI ((32 : Int32) - bq3)), (sI (((f 0).toUInt32 >>> (((32 : Int32) - bq3) &&& 31).toUInt32).toInt32)), (sI ((Int32.ofNat n) - (1 : Int32)))] [(.int (0 : Int32)), (.int ((Int32.ofNat n) - (1 : Int32))), (.int (0 : Int32))]) _
    refine stp (fun _ => XS.iadd X15.here hx rfl (hb hby d32_117) rfl) ?_
    refine stp (fun _ => XS.iconst X15.here hx rfl (hb hby d32_118)) ?_
    refine stp (fun _ => XS.iadd X15.here hx rfl (hb hby d32_119) rfl) ?_
    refine stp (fun _ => XS.aload X15.here hx rfl (hb hby d32_120) rfl rfl) ?_
    obtain ⟨cl16, Ar16, -, S16, -, -⟩ := (id V11)
    refine stp (fun _ => X15.arraylength hx (by rw [e15]; exact Ar16.1) (State.isArrayOf_alike hZ.alike Ar16.2.1) (g := (mkF m 122 #[(sR a), (sI sh), (sI kq2), (sI bq3), (sI (Int32.ofNat n)), (sR b11), (sI (0 : Int32)), (sI ((32 : Int32) - bq3)), (sI (((f 0).toUInt32 >>> (((32 : Int32) - bq3) &&& 31).toUInt32).toInt32)), (sI ((Int32.ofNat n) - (1 : Int32)))] [(.ref b11), (.int ((((Int32.ofNat n) - (1 : Int32)) + (0 : Int32)) + (1 : Int32))), (.int (0 : Int32))])) rfl rfl (hb hby d32_122) _) ?_
    rw [arf_len S16 (z := (Int32.ofNat (n + K2))) (own_nI (by omega))]
    show Go p e below T15 (mkF m 123 #[(sR a), (sI sh), (sI kq2), (sI bq3), (sI (Int32.ofNat n)), (sR b11), (sI (0 : Int32)), (sI ((32 : Int32) - bq3)), (sI (((f 0).toUInt32 >>> (((32 : Int32) - bq3) &&& 31).toUInt32).toInt32)), (sI ((Int32.ofNat n) - (1 : Int32)))] [(.int (Int32.ofNat (n + K2))), (.int ((((Int32.ofNat n) - (1 : Int32)) + (0 : Int32)) + (1 : Int32))), (.int (0 : Int32))]) _
    obtain ⟨_, _, ⟨T17, L17, k17, n17⟩, -, X17, ⟨Lc17, hQ17, l17, y17, z17⟩, st17⟩ := Jvm.LawKit.callS X15 hx (y := (⟨"java/util/Objects", "checkFromToIndex", "(III)I"⟩ : MethodName)) hown (mvT hZ (w_ hw (i := 217) rfl)) (mvT hZ (w_ hw (i := 218) rfl)) (mvT hZ (w_ hw (i := 184) rfl)) (mvT hZ (w_ hw (i := 219) rfl)) (by decide) (backOf (W := 0) (rm_c3 l Z a0 hw [] (0 : Int32) ((((Int32.ofNat n) - (1 : Int32)) + (0 : Int32)) + (1 : Int32)) (Int32.ofNat (n + K2))  h11 n0 O11 (by decide) (own_geI (own_incI (own_addN (own_xs (own_nI (k := n) (by omega)) hp (by omega)) (show (0 : Int32).toInt = ((0 : Nat) : Int) from rfl) (by omega)) (by omega)) (show (0 : Int32).toInt = ((0 : Nat) : Int) from rfl) (by omega)) (own_geI (own_nI (k := (n + K2)) (by omega)) (own_incI (own_addN (own_xs (own_nI (k := n) (by omega)) hp (by omega)) (show (0 : Int32).toInt = ((0 : Nat) : Int) from rfl) (by omega)) (by omega)) (by omega))) hZ (w_ hw (i := 219) rfl) (w_ hw (i := 184) rfl) (by decide) (by decide)) (g := (mkF m 123 #[(sR a), (sI sh), (sI kq2), (sI bq3), (sI (Int32.ofNat n)), (sR b11), (sI (0 : Int32)), (sI ((32 : Int32) - bq3)), (sI (((f 0).toUInt32 >>> (((32 : Int32) - bq3) &&& 31).toUInt32).toInt32)), (sI ((Int32.ofNat n) - (1 : Int32)))] [(.int (Int32.ofNat (n + K2))), (.int ((((Int32.ofNat n) - (1 : Int32)) + (0 : Int32)) + (1 : Int32))), (.int (0 : Int32))])) rfl (by rw [hml]; rfl) (argsL := [(.int (0 : Int32)), (.int ((((Int32.ofNat n) - (1 : Int32)) + (0 : Int32)) + (1 : Int32))), (.int (Int32.ofNat (n + K2)))]) (rest := []) (lenOf pd_6 rfl) rfl (by show 2 * 0 + _ ≤ _; exact Nat.le_of_eq rfl) (hb hby d32_123) (fun _ _ => ⟨rfl, e15, (by decide : 1 + 0 ≤ _), (by decide : 25 + 0 ≤ _)⟩)
    dsimp only [Pt.U, Pt.locs, Pt.cells, Pt.slots] at X17 l17 y17 z17 st17 hQ17
    subst y17 z17
    obtain ⟨rfl, N17q, e17⟩ := hQ17
    have N17 : Fr n0 L17 := by rw [l17]; exact Fr.app N15 N17q
    refine stp st17 ?_
    refine stp (fun _ => XS.pop X17.here hx rfl (hb hby d32_126) rfl rfl) ?_
    refine stp (fun _ => XS.aload X17.here hx rfl (hb hby d32_127) rfl rfl) ?_
    refine stp (fun _ => XS.aloadN X17.here hx rfl (hb hby d32_129) rfl rfl) ?_
    refine stp (fun _ => XS.iload X17.here hx rfl (hb hby d32_130) rfl) ?_
    show Go p e below T17 (mkF m 132 #[(sR a), (sI sh), (sI kq2), (sI bq3), (sI (Int32.ofNat n)), (sR b11), (sI (0 : Int32)), (sI ((32 : Int32) - bq3)), (sI (((f 0).toUInt32 >>> (((32 : Int32) - bq3) &&& 31).toUInt32).toInt32)), (sI ((Int32.ofNat n) - (1 : Int32)))] [(.int (0 : Int32)), (.ref a), (.ref b11)]) _
    refine stp (fun _ => XS.iloadN X17.here hx rfl (hb hby d32_132) rfl) ?_
    refine stp (fun _ => XS.iload X17.here hx rfl (hb hby d32_133) rfl) ?_
    obtain ⟨_, _, ⟨T18, L18, k18, n18⟩, -, X18, ⟨Lc18, hQ18, l18, y18, z18⟩, st18⟩ := Jvm.LawKit.callS X17 hx (y := (⟨"java/math/BigInteger", "shiftLeftImplWorker", "([I[IIII)V"⟩ : MethodName)) hown (mvT hZ (w_ hw (i := 224) rfl)) (mvT hZ (w_ hw (i := 225) rfl)) (mvT hZ (w_ hw (i := 118) rfl)) (mvT hZ (w_ hw (i := 226) rfl)) (by decide) (backOf (W := 0) (rm_wk l Z a0 hw [] b11 a (0 : Int32) bq3 ((Int32.ofNat n) - (1 : Int32)) n f (n + K2) (fun _ => (0 : Int32)) 0 (n - 1) k11 k_a h11 n0 O11 V11 f13 ge_b11 ne12 (by omega) (by omega) (show (0 : Int32).toInt = ((0 : Nat) : Int) from rfl) (own_xs (own_nI (k := n) (by omega)) hp (by omega)) (by omega) (by omega)) hZ (w_ hw (i := 226) rfl) (w_ hw (i := 118) rfl) (by decide) (by decide)) (g := (mkF m 135 #[(sR a), (sI sh), (sI kq2), (sI bq3), (sI (Int32.ofNat n)), (sR b11), (sI (0 : Int32)), (sI ((32 : Int32) - bq3)), (sI (((f 0).toUInt32 >>> (((32 : Int32) - bq3) &&& 31).toUInt32).toInt32)), (sI ((Int32.ofNat n) - (1 : Int32)))] [(.int ((Int32.ofNat n) - (1 : Int32))), (.int bq3), (.int (0 : Int32)), (.ref a), (.ref b11)])) rfl (by rw [hml]; rfl) (argsL := [(.ref b11), (.ref a), (.int (0 : Int32)), (.int bq3), (.int ((Int32.ofNat n) - (1 : Int32)))]) (rest := []) (lenOf pd_7 rfl) rfl (by show 2 * 0 + _ ≤ _; exact Nat.le_of_eq rfl) (hb hby d32_135) (fun _ _ => ⟨rfl, e17, (by decide : 1 + 0 ≤ _), (by decide : 25 + 0 ≤ _)⟩)
    dsimp only [Pt.U, Pt.locs, Pt.cells, Pt.slots] at X18 l18 y18 z18 st18 hQ18
    subst y18 z18
    obtain ⟨g18, rfl, N18q, K18q, r18_0⟩ := hQ18
    have N18 : Fr n0 L18 := by rw [l18]; exact Fr.app N17 N18q
    have f19 := f13.keep K18q (ninS ne12 nin0)
    have f20 := B11.keep K18q
    have K18 : Keep h0 T18.heap [] := K11.trans K18q (allS (Or.inr sz_b11) all0)
    have O18 := O11.keep K18q (allS ge_b11 all0)
    refine stp st18 ?_
    refine stp (fun _ => XS.aload X18.here hx rfl (hb hby d32_138) rfl rfl) ?_
    refine stp (fun _ => XS.iload X18.here hx rfl (hb hby d32_140) rfl) ?_
    show Go p e below T18 (mkF m 142 #[(sR a), (sI sh), (sI kq2), (sI bq3), (sI (Int32.ofNat n)), (sR b11), (sI (0 : Int32)), (sI ((32 : Int32) - bq3)), (sI (((f 0).toUInt32 >>> (((32 : Int32) - bq3) &&& 31).toUInt32).toInt32)), (sI ((Int32.ofNat n) - (1 : Int32)))] [(.int ((Int32.ofNat n) - (1 : Int32))), (.ref b11)]) _
    refine stp (fun _ => XS.iload X18.here hx rfl (hb hby d32_142) rfl) ?_
    refine stp (fun _ => XS.iadd X18.here hx rfl (hb hby d32_144) rfl) ?_
    refine stp (fun _ => XS.aloadN X18.here hx rfl (hb hby d32_145) rfl rfl) ?_
    refine stp (fun _ => XS.iload X18.here hx rfl (hb hby d32_146) rfl) ?_
    obtain ⟨cl21, Ar21, q21, S21, H21, G21⟩ := (id f19)
    have in21 : ¬ (((Int32.ofNat n) - (1 : Int32)) < 0 ∨ cl21.slots.size ≤ (((Int32.ofNat n) - (1 : Int32))).toNatClampNeg) := arf_in S21 (own_xs (own_nI (k := n) (by omega)) hp (by omega)) (by omega)
    have at21 : cl21.slots[(((Int32.ofNat n) - (1 : Int32))).toNatClampNeg]? = some (.int (f (n - 1))) := arf_at H21 (own_xs (own_nI (k := n) (by omega)) hp (by omega)) (by omega)
    refine stp (fun _ => X18.iaload hx (j := ((Int32.ofNat n) - (1 : Int32))) (v := (.int (f (n - 1)))) Ar21.1 (State.isArrayOf_alike hZ.alike Ar21.2.1) Ar21.2.2 in21 at21 (g := (mkF m 148 #[(sR a), (sI sh), (sI kq2), (sI bq3), (sI (Int32.ofNat n)), (sR b11), (sI (0 : Int32)), (sI ((32 : Int32) - bq3)), (sI (((f 0).toUInt32 >>> (((32 : Int32) - bq3) &&& 31).toUInt32).toInt32)), (sI ((Int32.ofNat n) - (1 : Int32)))] [(.int ((Int32.ofNat n) - (1 : Int32))), (.ref a), (.int (((Int32.ofNat n) - (1 : Int32)) + (0 : Int32))), (.ref b11)])) rfl rfl (hb hby d32_148) _) ?_
    show Go p e below T18 (mkF m 149 #[(sR a), (sI sh), (sI kq2), (sI bq3), (sI (Int32.ofNat n)), (sR b11), (sI (0 : Int32)), (sI ((32 : Int32) - bq3)), (sI (((f 0).toUInt32 >>> (((32 : Int32) - bq3) &&& 31).toUInt32).toInt32)), (sI ((Int32.ofNat n) - (1 : Int32)))] [(.int (f (n - 1))), (.int (((Int32.ofNat n) - (1 : Int32)) + (0 : Int32))), (.ref b11)]) _
    refine stp (fun _ => XS.iloadN X18.here hx rfl (hb hby d32_149) rfl) ?_
    refine stp (fun _ => XS.ishl X18.here hx rfl (hb hby d32_150) rfl) ?_
    obtain ⟨cl22, Ar22, q22, S22, H22, G22⟩ := (id r18_0)
    have in22 : ¬ ((((Int32.ofNat n) - (1 : Int32)) + (0 : Int32)) < 0 ∨ cl22.slots.size ≤ ((((Int32.ofNat n) - (1 : Int32)) + (0 : Int32))).toNatClampNeg) := arf_in S22 (own_addN (own_xs (own_nI (k := n) (by omega)) hp (by omega)) (show (0 : Int32).toInt = ((0 : Nat) : Int) from rfl) (by omega)) (by omega)
    obtain ⟨T22, h22, X22, e22, W22, st22⟩ := stI X18 hx hZ rfl Ar22 (j := (((Int32.ofNat n) - (1 : Int32)) + (0 : Int32))) in22 (g := (mkF m 151 #[(sR a), (sI sh), (sI kq2), (sI bq3), (sI (Int32.ofNat n)), (sR b11), (sI (0 : Int32)), (sI ((32 : Int32) - bq3)), (sI (((f 0).toUInt32 >>> (((32 : Int32) - bq3) &&& 31).toUInt32).toInt32)), (sI ((Int32.ofNat n) - (1 : Int32)))] [(.int ((f (n - 1)) <<< (bq3 &&& 31))), (.int (((Int32.ofNat n) - (1 : Int32)) + (0 : Int32))), (.ref b11)])) rfl rfl (hb hby d32_151)
    have V22 := Arf.set Ar22 q22 S22 H22 G22 rfl (arf_ix (own_addN (own_xs (own_nI (k := n) (by omega)) hp (by omega)) (show (0 : Int32).toInt = ((0 : Nat) : Int) from rfl) (by omega)) ▸ W22) (by omega)
    replace V22 : Arf Z h22 b11 k11 .int (n + K2) (fun x => (.int (if x = (n - 1 + 0) then ((f (n - 1)) <<< (bq3 &&& 31)) else (g18 x)))) := V22.congr (fun x _ => by split <;> rfl)
    have f23 := f19.other W22 ne12
    have f24 := f20.wr W22
    have K22 : Keep h0 h22 [] := K18.wr W22 (Or.inr sz_b11)
    have O22 := O18.wr W22 ge_b11
    have N22 := Fr.snoc X22 N18 ge_b11
    refine stp st22 ?_
    refine stp (fun _ => XS.aload X22.here hx rfl (hb hby d32_152) rfl rfl) ?_
    refine outA X22 hx hret rfl rfl (hb hby d32_154) hlk (by decide) (by decide) ?_
    rw [e22]
    exact ⟨b11, k11, (n + K2), (fun x => (if x = (n - 1 + 0) then ((f (n - 1)) <<< (bq3 &&& 31)) else (g18 x))), rfl, N22, K22, ⟨ge_b11, sz_b11⟩, V22, ⟨by omega, by omega⟩⟩
  refine stp (fun _ => XS.ifNo X0.here hx rfl (hb hby d32_60) rfl (XT.i0_eq_f q60_10)) ?_
  refine stp (fun _ => XS.iload X0.here hx rfl (hb hby d32_63) rfl) ?_
  refine stp (fun _ => XS.iloadN X0.here hx rfl (hb hby d32_65) rfl) ?_
  refine stp (fun _ => XS.iadd X0.here hx rfl (hb hby d32_66) rfl) ?_
  show Go p e below T0 (mkF m 67 #[(sR a), (sI sh), (sI kq2), (sI bq3), (sI (Int32.ofNat n)), .val .null, (sI (0 : Int32)), (sI ((32 : Int32) - bq3)), (sI (((f 0).toUInt32 >>> (((32 : Int32) - bq3) &&& 31).toUInt32).toInt32)), .unset] [(.int ((Int32.ofNat n) + kq2))]) _
  refine stp (fun _ => XS.iconst X0.here hx rfl (hb hby d32_67)) ?_
  refine stp (fun _ => XS.iadd X0.here hx rfl (hb hby d32_68) rfl) ?_
  obtain ⟨T26, h26, k26, X26, e26, E26, A26, B26, st26⟩ := newPE X0 hx hZ (w_ hw (i := 136) rfl) e0 (g := (mkF m 69 #[(sR a), (sI sh), (sI kq2), (sI bq3), (sI (Int32.ofNat n)), .val .null, (sI (0 : Int32)), (sI ((32 : Int32) - bq3)), (sI (((f 0).toUInt32 >>> (((32 : Int32) - bq3) &&& 31).toUInt32).toInt32)), .unset] [(.int (((Int32.ofNat n) + kq2) + (1 : Int32)))])) rfl (hb hby d32_69) rfl (own_u0 (own_incI (own_addN (own_nI (k := n) (by omega)) hK2 (by omega)) (by omega))) (cap := 25) (by rw [arf_ix (own_incI (own_addN (own_nI (k := n) (by omega)) hK2 (by omega)) (by omega))]; omega) (by decide) (by decide) (by decide) (ad := "[I") (by decide)
  obtain ⟨b26, g26⟩ : ∃ z, z = h0.size := ⟨_, rfl⟩
  rw [← g26] at A26 B26 st26
  have ne27 : a ≠ b26 := Nat.ne_of_lt (Nat.lt_of_lt_of_le V_a.lt (Nat.le_of_eq g26.symm))
  have sz_b26 : h0.size ≤ b26 := Nat.le_trans (Keep.refl h0 []).1 (Nat.le_of_eq g26.symm)
  have ge_b26 : n0 ≤ b26 := Nat.le_trans (old_le O0) (Nat.le_of_eq g26.symm)
  have f28 := V_a.ext E26
  have K26 : Keep h0 h26 [] := (Keep.refl h0 []).ext E26
  have O26 := O0.ext E26
  have V26 : Arf Z h26 b26 k26 .int (n + K2 + 1) (fun _ => (.int (0 : Int32))) := Arf.new A26 (own_u0 (own_incI (own_addN (own_nI (k := n) (by omega)) hK2 (by omega)) (by omega))) (arf_ix (own_incI (own_addN (own_nI (k := n) (by omega)) hK2 (by omega)) (by omega)))
  refine stp st26 ?_
  refine stp (fun _ => XS.astore X26.here hx rfl (hb hby d32_71) rfl rfl (l' := #[(sR a), (sI sh), (sI kq2), (sI bq3), (sI (Int32.ofNat n)), (sR b26), (sI (0 : Int32)), (sI ((32 : Int32) - bq3)), (sI (((f 0).toUInt32 >>> (((32 : Int32) - bq3) &&& 31).toUInt32).toInt32)), .unset]) rfl) ?_
  refine stp (fun _ => XS.aload X26.here hx rfl (hb hby d32_73) rfl rfl) ?_
  show Go p e below T26 (mkF m 75 #[(sR a), (sI sh), (sI kq2), (sI bq3), (sI (Int32.ofNat n)), (sR b26), (sI (0 : Int32)), (sI ((32 : Int32) - bq3)), (sI (((f 0).toUInt32 >>> (((32 : Int32) - bq3) &&& 31).toUInt32).toInt32)), .unset] [(.ref b26)]) _
  refine stp (fun _ => XS.iload X26.here hx rfl (hb hby d32_75) rfl) ?_
  refine stp (fun _ => XS.iinc X26.here hx rfl (hb hby d32_77) rfl (l' := #[(sR a), (sI sh), (sI kq2), (sI bq3), (sI (Int32.ofNat n)), (sR b26), (sI (1 : Int32)), (sI ((32 : Int32) - bq3)), (sI (((f 0).toUInt32 >>> (((32 : Int32) - bq3) &&& 31).toUInt32).toInt32)), .unset]) rfl) ?_
  refine stp (fun _ => XS.iload X26.here hx rfl (hb hby d32_80) rfl) ?_
  obtain ⟨cl29, Ar29, q29, S29, H29, G29⟩ := (id V26)
  have in29 : ¬ ((0 : Int32) < 0 ∨ cl29.slots.size ≤ ((0 : Int32)).toNatClampNeg) := arf_in S29 (show (0 : Int32).toInt = ((0 : Nat) : Int) from rfl) (by omega)
  obtain ⟨T29, h29, X29, e29, W29, st29⟩ := stI X26 hx hZ e26 Ar29 (j := (0 : Int32)) in29 (g := (mkF m 82 #[(sR a), (sI sh), (sI kq2), (sI bq3), (sI (Int32.ofNat n)), (sR b26), (sI (1 : Int32)), (sI ((32 : Int32) - bq3)), (sI (((f 0).toUInt32 >>> (((32 : Int32) - bq3) &&& 31).toUInt32).toInt32)), .unset] [(.int (((f 0).toUInt32 >>> (((32 : Int32) - bq3) &&& 31).toUInt32).toInt32)), (.int (0 : Int32)), (.ref b26)])) rfl rfl (hb hby d32_82)
  have V29 := Arf.set Ar29 q29 S29 H29 G29 rfl (arf_ix (show (0 : Int32).toInt = ((0 : Nat) : Int) from rfl) ▸ W29) (by omega)
  replace V29 : Arf Z h29 b26 k26 .int (n + K2 + 1) (fun x => (.int (if x = 0 then (((f 0).toUInt32 >>> (((32 : Int32) - bq3) &&& 31).toUInt32).toInt32) else (0 : Int32)))) := V29.congr (fun x _ => by split <;> rfl)
  have f30 := f28.other W29 ne27
  have f31 := B26.wr W29
  have K29 : Keep h0 h29 [] := K26.wr W29 (Or.inr sz_b26)
  have O29 := O26.wr W29 ge_b26
  have N29 := Fr.snoc X29 N0 ge_b26
  refine stp st29 ?_
  refine stp (fun _ => XS.goto X29.here hx rfl (pc0 := 83) (pc' := 94) rfl (hb hby d32_83) (by decide) (by decide)) ?_
  show Go p e below T29 (mkF m 94 #[(sR a), (sI sh), (sI kq2), (sI bq3), (sI (Int32.ofNat n)), (sR b26), (sI (1 : Int32)), (sI ((32 : Int32) - bq3)), (sI (((f 0).toUInt32 >>> (((32 : Int32) - bq3) &&& 31).toUInt32).toInt32)), .unset] []) _
  refine stp (fun _ => XS.iload X29.here hx rfl (hb hby d32_94) rfl) ?_
  refine stp (fun _ => XS.iconst X29.here hx rfl (hb hby d32_96)) ?_
  refine stp (fun _ => XS.isub X29.here hx rfl (hb hby d32_97) rfl) ?_
  refine stp (fun _ => XS.istore X29.here hx rfl (hb hby d32_98) rfl (l' := #[(sR a), (sI sh), (sI kq2), (sI bq3), (sI (Int32.ofNat n)), (sR b26), (sI (1 : Int32)), (sI ((32 : Int32) - bq3)), (sI (((f 0).toUInt32 >>> (((32 : Int32) - bq3) &&& 31).toUInt32).toInt32)), (sI ((Int32.ofNat n) - (1 : Int32)))]) rfl) ?_
  refine stp (fun _ => XS.iconst X29.here hx rfl (hb hby d32_100)) ?_
  show Go p e below T29 (mkF m 101 #[(sR a), (sI sh), (sI kq2), (sI bq3), (sI (Int32.ofNat n)), (sR b26), (sI (1 : Int32)), (sI ((32 : Int32) - bq3)), (sI (((f 0).toUInt32 >>> (((32 : Int32) - bq3) &&& 31).toUInt32).toInt32)), (sI ((Int32.ofNat n) - (1 : Int32)))] [(.int (0 : Int32))]) _
  refine stp (fun _ => XS.iload X29.here hx rfl (hb hby d32_101) rfl) ?_
  refine stp (fun _ => XS.iconst X29.here hx rfl (hb hby d32_103)) ?_
  refine stp (fun _ => XS.iadd X29.here hx rfl (hb hby d32_104) rfl) ?_
  refine stp (fun _ => XS.aloadN X29.here hx rfl (hb hby d32_105) rfl rfl) ?_
  obtain ⟨cl33, Ar33, -, S33, -, -⟩ := (id f30)
  refine stp (fun _ => X29.arraylength hx (by rw [e29]; exact Ar33.1) (State.isArrayOf_alike hZ.alike Ar33.2.1) (g := (mkF m 106 #[(sR a), (sI sh), (sI kq2), (sI bq3), (sI (Int32.ofNat n)), (sR b26), (sI (1 : Int32)), (sI ((32 : Int32) - bq3)), (sI (((f 0).toUInt32 >>> (((32 : Int32) - bq3) &&& 31).toUInt32).toInt32)), (sI ((Int32.ofNat n) - (1 : Int32)))] [(.ref a), (.int (((Int32.ofNat n) - (1 : Int32)) + (1 : Int32))), (.int (0 : Int32))])) rfl rfl (hb hby d32_106) _) ?_
  rw [arf_len S33 (z := (Int32.ofNat n)) (own_nI (by omega))]
  show Go p e below T29 (mkF m 107 #[(sR a), (sI sh), (sI kq2), (sI bq3), (sI (Int32.ofNat n)), (sR b26), (sI (1 : Int32)), (sI ((32 : Int32) - bq3)), (sI (((f 0).toUInt32 >>> (((32 : Int32) - bq3) &&& 31).toUInt32).toInt32)), (sI ((Int32.ofNat n) - (1 : Int32)))] [(.int (Int32.ofNat n)), (.int (((Int32.ofNat n) - (1 : Int32)) + (1 : Int32))), (.int (0 : Int32))]) _
  obtain ⟨_, _, ⟨T34, L34, k34, n34⟩, -, X34, ⟨Lc34, hQ34, l34, y34, z34⟩, st34⟩ := Jvm.LawKit.callS X29 hx (y := (⟨"java/util/Objects", "checkFromToIndex", "(III)I"⟩ : MethodName)) hown (mvT hZ (w_ hw (i := 217) rfl)) (mvT hZ (w_ hw (i := 218) rfl)) (mvT hZ (w_ hw (i := 184) rfl)) (mvT hZ (w_ hw (i := 219) rfl)) (by decide) (backOf (W := 0) (rm_c3 l Z a0 hw [] (0 : Int32) (((Int32.ofNat n) - (1 : Int32)) + (1 : Int32)) (Int32.ofNat n)  h29 n0 O29 (by decide) (own_geI (own_xsp (own_nI (k := n) (by omega)) hp (by omega)) (show (0 : Int32).toInt = ((0 : Nat) : Int) from rfl) (Nat.zero_le _)) (own_geI (own_nI (k := n) (by omega)) (own_xsp (own_nI (k := n) (by omega)) hp (by omega)) (Nat.le_refl _))) hZ (w_ hw (i := 219) rfl) (w_ hw (i := 184) rfl) (by decide) (by decide)) (g := (mkF m 107 #[(sR a), (sI sh), (sI kq2), (sI bq3), (sI (Int32.ofNat n)), (sR b26), (sI (1 : Int32)), (sI ((32 : Int32) - bq3)), (sI (((f 0).toUInt32 >>> (((32 : Int32) - bq3) &&& 31).toUInt32).toInt32)), (sI ((Int32.ofNat n) - (1 : Int32)))] [(.int (Int32.ofNat n)), (.int (((Int32.ofNat n) - (1 : Int32)) + (1 : Int32))), (.int (0 : Int32))])) rfl (by rw [hml]; rfl) (argsL := [(.int (0 : Int32)), (.int (((Int32.ofNat n) - (1 : Int32)) + (1 : Int32))), (.int (Int32.ofNat n))]) (rest := []) (lenOf pd_6 rfl) rfl (by show 2 * 0 + _ ≤ _; exact Nat.le_of_eq rfl) (hb hby d32_107) (fun _ _ => ⟨rfl, e29, (by decide : 1 + 0 ≤ _), (by decide : 25 + 0 ≤ _)⟩)
  dsimp only [Pt.U, Pt.locs, Pt.cells, Pt.slots] at X34 l34 y34 z34 st34 hQ34
  subst y34 z34
  obtain ⟨rfl, N34q, e34⟩ := hQ34
  have N34 : Fr n0 L34 := by rw [l34]; exact Fr.app N29 N34q
  refine stp st34 ?_
  refine stp (fun _ => XS.pop X34.here hx rfl (hb hby d32_110) rfl rfl) ?_
  refine stp (fun _ => XS.iload X34.here hx rfl (hb hby d32_111) rfl) ?_
  refine stp (fun _ => XS.iload X34.here hx rfl (hb hby d32_113) rfl) ?_
  refine stp (fun _ => XS.iload X34.here hx rfl (hb hby d32_115) rfl) ?_
  show Go p e below T34 (mkF m 117 #[(sR a), (sI sh), (sI kq2), (sI bq3), (sI (Int32.ofNat n)), (sR b26), (sI (1 : Int32)), (sI ((32 : Int32) - bq3)), (sI (((f 0).toUInt32 >>> (((32 : Int32) - bq3) &&& 31).toUInt32).toInt32)), (sI ((Int32.ofNat n) - (1 : Int32)))] [(.int (1 : Int32)), (.int ((Int32.ofNat n) - (1 : Int32))), (.int (1 : Int32))]) _
  refine stp (fun _ => XS.iadd X34.here hx rfl (hb hby d32_117) rfl) ?_
  refine stp (fun _ => XS.iconst X34.here hx rfl (hb hby d32_118)) ?_
  refine stp (fun _ => XS.iadd X34.here hx rfl (hb hby d32_119) rfl) ?_
  refine stp (fun _ => XS.aload X34.here hx rfl (hb hby d32_120) rfl rfl) ?_
  obtain ⟨cl35, Ar35, -, S35, -, -⟩ := (id V29)
  refine stp (fun _ => X34.arraylength hx (by rw [e34]; exact Ar35.1) (State.isArrayOf_alike hZ.alike Ar35.2.1) (g := (mkF m 122 #[(sR a), (sI sh), (sI kq2), (sI bq3), (sI (Int32.ofNat n)), (sR b26), (sI (1 : Int32)), (sI ((32 : Int32) - bq3)), (sI (((f 0).toUInt32 >>> (((32 : Int32) - bq3) &&& 31).toUInt32).toInt32)), (sI ((Int32.ofNat n) - (1 : Int32)))] [(.ref b26), (.int ((((Int32.ofNat n) - (1 : Int32)) + (1 : Int32)) + (1 : Int32))), (.int (1 : Int32))])) rfl rfl (hb hby d32_122) _) ?_
  rw [arf_len S35 (z := (Int32.ofNat (n + K2 + 1))) (own_nI (by omega))]
  show Go p e below T34 (mkF m 123 #[(sR a), (sI sh), (sI kq2), (sI bq3), (sI (Int32.ofNat n)), (sR b26), (sI (1 : Int32)), (sI ((32 : Int32) - bq3)), (sI (((f 0).toUInt32 >>> (((32 : Int32) - bq3) &&& 31).toUInt32).toInt32)), (sI ((Int32.ofNat n) - (1 : Int32)))] [(.int (Int32.ofNat (n + K2 + 1))), (.int ((((Int32.ofNat n) - (1 : Int32)) + (1 : Int32)) + (1 : Int32))), (.int (1 : Int32))]) _
  obtain ⟨_, _, ⟨T36, L36, k36, n36⟩, -, X36, ⟨Lc36, hQ36, l36, y36, z36⟩, st36⟩ := Jvm.LawKit.callS X34 hx (y := (⟨"java/util/Objects", "checkFromToIndex", "(III)I"⟩ : MethodName)) hown (mvT hZ (w_ hw (i := 217) rfl)) (mvT hZ (w_ hw (i := 218) rfl)) (mvT hZ (w_ hw (i := 184) rfl)) (mvT hZ (w_ hw (i := 219) rfl)) (by decide) (backOf (W := 0) (rm_c3 l Z a0 hw [] (1 : Int32) ((((Int32.ofNat n) - (1 : Int32)) + (1 : Int32)) + (1 : Int32)) (Int32.ofNat (n + K2 + 1))  h29 n0 O29 (by decide) (own_geI (own_incI (own_addN (own_xs (own_nI (k := n) (by omega)) hp (by omega)) (show (1 : Int32).toInt = ((1 : Nat) : Int) from rfl) (by omega)) (by omega)) (show (1 : Int32).toInt = ((1 : Nat) : Int) from rfl) (by omega)) (own_geI (own_nI (k := (n + K2 + 1)) (by omega)) (own_incI (own_addN (own_xs (own_nI (k := n) (by omega)) hp (by omega)) (show (1 : Int32).toInt = ((1 : Nat) : Int) from rfl) (by omega)) (by omega)) (by omega))) hZ (w_ hw (i := 219) rfl) (w_ hw (i := 184) rfl) (by decide) (by decide)) (g := (mkF m 123 #[(sR a), (sI sh), (sI kq2), (sI bq3), (sI (Int32.ofNat n)), (sR b26), (sI (1 : Int32)), (sI ((32 : Int32) - bq3)), (sI (((f 0).toUInt32 >>> (((32 : Int32) - bq3) &&& 31).toUInt32).toInt32)), (sI ((Int32.ofNat n) - (1 : Int32)))] [(.int (Int32.ofNat (n + K2 + 1))), (.int ((((Int32.ofNat n) - (1 : Int32)) + (1 : Int32)) + (1 : Int32))), (.int (1 : Int32))])) rfl (by rw [hml]; rfl) (argsL := [(.int (1 : Int32)), (.int ((((Int32.ofNat n) - (1 : Int32)) + (1 : Int32)) + (1 : Int32))), (.int (Int32.ofNat (n + K2 + 1)))]) (rest := []) (lenOf pd_6 rfl) rfl (by show 2 * 0 + _ ≤ _; exact Nat.le_of_eq rfl) (hb hby d32_123) (fun _ _ => ⟨rfl, e34, (by decide : 1 + 0 ≤ _), (by decide : 25 + 0 ≤ _)⟩)
  dsimp only [Pt.U, Pt.locs, Pt.cells, Pt.slots] at X36 l36 y36 z36 st36 hQ36
  subst y36 z36
  obtain ⟨rfl, N36q, e36⟩ := hQ36
  have N36 : Fr n0 L36 := by rw [l36]; exact Fr.app N34 N36q
  refine stp st36 ?_
  refine stp (fun _ => XS.pop X36.here hx rfl (hb hby d32_126) rfl rfl) ?_
  refine stp (fun _ => XS.aload X36.here hx rfl (hb hby d32_127) rfl rfl) ?_
  refine stp (fun _ => XS.aloadN X36.here hx rfl (hb hby d32_129) rfl rfl) ?_
  refine stp (fun _ => XS.iload X36.here hx rfl (hb hby d32_130) rfl) ?_
  show Go p e below T36 (mkF m 132 #[(sR a), (sI sh), (sI kq2), (sI bq3), (sI (Int32.ofNat n)), (sR b26), (sI (1 : Int32)), (sI ((32 : Int32) - bq3)), (sI (((f 0).toUInt32 >>> (((32 : Int32) - bq3) &&& 31).toUInt32).toInt32)), (sI ((Int32.ofNat n) - (1 : Int32)))] [(.int (1 : Int32)), (.ref a), (.ref b26)]) _
  refine stp (fun _ => XS.iloadN X36.here hx rfl (hb hby d32_132) rfl) ?_
  refine stp (fun _ => XS.iload X36.here hx rfl (hb hby d32_133) rfl) ?_
  obtain ⟨_, _, ⟨T37, L37, k37, n37⟩, -, X37, ⟨Lc37, hQ37, l37, y37, z37⟩, st37⟩ := Jvm.LawKit.callS X36 hx (y := (⟨"java/math/BigInteger", "shiftLeftImplWorker", "([I[IIII)V"⟩ : MethodName)) hown (mvT hZ (w_ hw (i := 224) rfl)) (mvT hZ (w_ hw (i := 225) rfl)) (mvT hZ (w_ hw (i := 118) rfl)) (mvT hZ (w_ hw (i := 226) rfl)) (by decide) (backOf (W := 0) (rm_wk l Z a0 hw [] b26 a (1 : Int32) bq3 ((Int32.ofNat n) - (1 : Int32)) n f (n + K2 + 1) (fun x => (if x = 0 then (((f 0).toUInt32 >>> (((32 : Int32) - bq3) &&& 31).toUInt32).toInt32) else (0 : Int32))) 1 (n - 1) k26 k_a h29 n0 O29 V29 f30 ge_b26 ne27 (by omega) (by omega) (show (1 : Int32).toInt = ((1 : Nat) : Int) from rfl) (own_xs (own_nI (k := n) (by omega)) hp (by omega)) (by omega) (by omega)) hZ (w_ hw (i := 226) rfl) (w_ hw (i := 118) rfl) (by decide) (by decide)) (g := (mkF m 135 #[(sR a), (sI sh), (sI kq2), (sI bq3), (sI (Int32.ofNat n)), (sR b26), (sI (1 : Int32)), (sI ((32 : Int32) - bq3)), (sI (((f 0).toUInt32 >>> (((32 : Int32) - bq3) &&& 31).toUInt32).toInt32)), (sI ((Int32.ofNat n) - (1 : Int32)))] [(.int ((Int32.ofNat n) - (1 : Int32))), (.int bq3), (.int (1 : Int32)), (.ref a), (.ref b26)])) rfl (by rw [hml]; rfl) (argsL := [(.ref b26), (.ref a), (.int (1 : Int32)), (.int bq3), (.int ((Int32.ofNat n) - (1 : Int32)))]) (rest := []) (lenOf pd_7 rfl) rfl (by show 2 * 0 + _ ≤ _; exact Nat.le_of_eq rfl) (hb hby d32_135) (fun _ _ => ⟨rfl, e36, (by decide : 1 + 0 ≤ _), (by decide : 25 + 0 ≤ _)⟩)
  dsimp only [Pt.U, Pt.locs, Pt.cells, Pt.slots] at X37 l37 y37 z37 st37 hQ37
  subst y37 z37
  obtain ⟨g37, rfl, N37q, K37q, r37_0⟩ := hQ37
  have N37 : Fr n0 L37 := by rw [l37]; exact Fr.app N36 N37q
  have f38 := f30.keep K37q (ninS ne27 nin0)
  have f39 := f31.keep K37q
  have K37 : Keep h0 T37.heap [] := K29.trans K37q (allS (Or.inr sz_b26) all0)
  have O37 := O29.keep K37q (allS ge_b26 all0)
  refine stp st37 ?_
  refine stp (fun _ => XS.aload X37.here hx rfl (hb hby d32_138) rfl rfl) ?_
  refine stp (fun _ => XS.iload X37.here hx rfl (hb hby d32_140) rfl) ?_
  show Go p e below T37 (mkF m 142 #[(sR a), (sI sh), (sI kq2), (sI bq3), (sI (Int32.ofNat n)), (sR b26), (sI (1 : Int32)), (sI ((32 : Int32) - bq3)), (sI (((f 0).toUInt32 >>> (((32 : Int32) - bq3) &&& 31).toUInt32).toInt32)), (sI ((Int32.ofNat n) - (1 : Int32)))] [(.int ((Int32.ofNat n) - (1 : Int32))), (.ref b26)]) _
  refine stp (fun _ => XS.iload X37.here hx rfl (hb hby d32_142) rfl) ?_
  refine stp (fun _ => XS.iadd X37.here hx rfl (hb hby d32_144) rfl) ?_
  refine stp (fun _ => XS.aloadN X37.here hx rfl (hb hby d32_145) rfl rfl) ?_
  refine stp (fun _ => XS.iload X37.here hx rfl (hb hby d32_146) rfl) ?_
  obtain ⟨cl40, Ar40, q40, S40, H40, G40⟩ := (id f38)
  have in40 : ¬ (((Int32.ofNat n) - (1 : Int32)) < 0 ∨ cl40.slots.size ≤ (((Int32.ofNat n) - (1 : Int32))).toNatClampNeg) := arf_in S40 (own_xs (own_nI (k := n) (by omega)) hp (by omega)) (by omega)
  have at40 : cl40.slots[(((Int32.ofNat n) - (1 : Int32))).toNatClampNeg]? = some (.int (f (n - 1))) := arf_at H40 (own_xs (own_nI (k := n) (by omega)) hp (by omega)) (by omega)
  refine stp (fun _ => X37.iaload hx (j := ((Int32.ofNat n) - (1 : Int32))) (v := (.int (f (n - 1)))) Ar40.1 (State.isArrayOf_alike hZ.alike Ar40.2.1) Ar40.2.2 in40 at40 (g := (mkF m 148 #[(sR a), (sI sh), (sI kq2), (sI bq3), (sI (Int32.ofNat n)), (sR b26), (sI (1 : Int32)), (sI ((32 : Int32) - bq3)), (sI (((f 0).toUInt32 >>> (((32 : Int32) - bq3) &&& 31).toUInt32).toInt32)), (sI ((Int32.ofNat n) - (1 : Int32)))] [(.int ((Int32.ofNat n) - (1 : Int32))), (.ref a), (.int (((Int32.ofNat n) - (1 : Int32)) + (1 : Int32))), (.ref b26)])) rfl rfl (hb hby d32_148) _) ?_
  show Go p e below T37 (mkF m 149 #[(sR a), (sI sh), (sI kq2), (sI bq3), (sI (Int32.ofNat n)), (sR b26), (sI (1 : Int32)), (sI ((32 : Int32) - bq3)), (sI (((f 0).toUInt32 >>> (((32 : Int32) - bq3) &&& 31).toUInt32).toInt32)), (sI ((Int32.ofNat n) - (1 : Int32)))] [(.int (f (n - 1))), (.int (((Int32.ofNat n) - (1 : Int32)) + (1 : Int32))), (.ref b26)]) _
  refine stp (fun _ => XS.iloadN X37.here hx rfl (hb hby d32_149) rfl) ?_
  refine stp (fun _ => XS.ishl X37.here hx rfl (hb hby d32_150) rfl) ?_
  obtain ⟨cl41, Ar41, q41, S41, H41, G41⟩ := (id r37_0)
  have in41 : ¬ ((((Int32.ofNat n) - (1 : Int32)) + (1 : Int32)) < 0 ∨ cl41.slots.size ≤ ((((Int32.ofNat n) - (1 : Int32)) + (1 : Int32))).toNatClampNeg) := arf_in S41 (own_addN (own_xs (own_nI (k := n) (by omega)) hp (by omega)) (show (1 : Int32).toInt = ((1 : Nat) : Int) from rfl) (by omega)) (by omega)
  obtain ⟨T41, h41, X41, e41, W41, st41⟩ := stI X37 hx hZ rfl Ar41 (j := (((Int32.ofNat n) - (1 : Int32)) + (1 : Int32))) in41 (g := (mkF m 151 #[(sR a), (sI sh), (sI kq2), (sI bq3), (sI (Int32.ofNat n)), (sR b26), (sI (1 : Int32)), (sI ((32 : Int32) - bq3)), (sI (((f 0).toUInt32 >>> (((32 : Int32) - bq3) &&& 31).toUInt32).toInt32)), (sI ((Int32.ofNat n) - (1 : Int32)))] [(.int ((f (n - 1)) <<< (bq3 &&& 31))), (.int (((Int32.ofNat n) - (1 : Int32)) + (1 : Int32))), (.ref b26)])) rfl rfl (hb hby d32_151)
  have V41 := Arf.set Ar41 q41 S41 H41 G41 rfl (arf_ix (own_addN (own_xs (own_nI (k := n) (by omega)) hp (by omega)) (show (1 : Int32).toInt = ((1 : Nat) : Int) from rfl) (by omega)) ▸ W41) (by omega)
  replace V41 : Arf Z h41 b26 k26 .int (n + K2 + 1) (fun x => (.int (if x = (n - 1 + 1) then ((f (n - 1)) <<< (bq3 &&& 31)) else (g37 x)))) := V41.congr (fun x _ => by split <;> rfl)
  have f42 := f38.other W41 ne27
  have f43 := f39.wr W41
  have K41 : Keep h0 h41 [] := K37.wr W41 (Or.inr sz_b26)
  have O41 := O37.wr W41 ge_b26
  have N41 := Fr.snoc X41 N37 ge_b26
  refine stp st41 ?_
  refine stp (fun _ => XS.aload X41.here hx rfl (hb hby d32_152) rfl rfl) ?_
  refine outA X41 hx hret rfl rfl (hb hby d32_154) hlk (by decide) (by decide) ?_
  rw [e41]
  exact ⟨b26, k26, (n + K2 + 1), (fun x => (if x = (n - 1 + 1) then ((f (n - 1)) <<< (bq3 &&& 31)) else (g37 x))), rfl, N41, K41, ⟨ge_b26, sz_b26⟩, V41, ⟨by omega, by omega⟩⟩
abbrev B26 : ByteArray := jdk_2097_method_45_code
theorem d26_0 : Dc B26 0 (.aload_n 0) 1 := by decide +kernel
theorem d26_1 : Dc B26 1 (.iload_n 1) 1 := by decide +kernel
theorem d26_2 : Dc B26 2 (.invokestatic 441) 3 := by decide +kernel
theorem pd_8 : parseMethodDescriptor "([II)V" = some ⟨[(.array .int), .int], none⟩ := by decide +kernel
theorem d26_5 : Dc B26 5 (.aload_n 2) 1 := by decide +kernel
theorem d26_6 : Dc B26 6 (.iload_n 3) 1 := by decide +kernel
theorem d26_7 : Dc B26 7 (.invokestatic 441) 3 := by decide +kernel
theorem d26_10 : Dc B26 10 (.aload_n 0) 1 := by decide +kernel
theorem d26_11 : Dc B26 11 (.iload_n 1) 1 := by decide +kernel
theorem d26_12 : Dc B26 12 (.aload_n 2) 1 := by decide +kernel
theorem d26_13 : Dc B26 13 (.iload_n 3) 1 := by decide +kernel
theorem d26_14 : Dc B26 14 (.aload 4) 2 := by decide +kernel
theorem d26_16 : Dc B26 16 (.invokestatic 444) 3 := by decide +kernel
theorem pd_9 : parseMethodDescriptor "([II[II[I)[I" = some ⟨[(.array .int), .int, (.array .int), .int, (.array .int)], some (.array .int)⟩ := by decide +kernel
theorem d26_19 : Dc B26 19 (.areturn) 1 := by decide +kernel
theorem ef_rm_mtl (m : MethodId) (xa : Addr) (xl : Int32) (ya : Addr) (yl : Int32)  : entryFrame m #[(.ref xa), (.int xl), (.ref ya), (.int yl), .null] 5 = mkF m 0 #[(sR xa), (sI xl), (sR ya), (sI yl), .val .null] [] := by first | (simp [entryFrame, mkF, argsToLocals, Value.category]; done) | rfl
def Q_rm_mtl (Z : State) (xa : Addr) (xl : Int32) (ya : Addr) (yl : Int32) (nx : Nat) (fx : Nat → Int32) (ny : Nat) (fy : Nat → Int32) (k_xa : ClassId) (k_ya : ClassId) (h0 : Heap) (n0 : Nat) (v : Option Value) (h : Heap) (L : List Loc) : Prop := ∃ (r : Addr) (k_r : ClassId) (m : Nat) (g : Nat → Int32), v = some (.ref r) ∧ Fr n0 L ∧ Keep h0 h [] ∧ (n0 ≤ r ∧ h0.size ≤ r) ∧ Arf Z h r k_r .int m (fun i => (.int (g i))) ∧ (m = nx + ny)
theorem pn_16_ : plainName "java/math/BigInteger" = true := by first | (simp [plainName, overriddenIn]; done) | decide +kernel
theorem pn_16 : plainFor (⟨"java/math/BigInteger", "multiplyToLen", "([II[II[I)[I"⟩ : MethodName) = true := plainFor_of_name pn_16_
set_option maxRecDepth 65536 in
set_option maxHeartbeats 40000000 in
theorem rm_mtl (l : Launch) (Z : State) (a0 : Array Value) (hw : ∀ d ∈ tables_1, d.before a0 Z = true) (ws : List Jvm.Cond) (xa : Addr) (xl : Int32) (ya : Addr) (yl : Int32) (nx : Nat) (fx : Nat → Int32) (ny : Nat) (fy : Nat → Int32) (k_xa : ClassId) (k_ya : ClassId) (h0 : Heap) (n0 : Nat) (O0 : Old Z n0 h0) (V_xa : Arf Z h0 xa k_xa .int nx (fun i => (.int (fx i)))) (V_ya : Arf Z h0 ya k_ya .int ny (fun i => (.int (fy i)))) (hxl : xl.toInt = (nx : Int)) (hyl : yl.toInt = (ny : Int)) (hx0 : 0 < nx) (hy0 : 0 < ny) (hxy : nx + ny ≤ 24) :
    MetFree l (⟨"java/math/BigInteger", "multiplyToLen", "([II[II[I)[I"⟩ : MethodName) (head1 (Jvm.Cond.code (⟨"java/math/BigInteger", "multiplyToLen", "([II[II[I)[I"⟩ : MethodName) jdk_2097_method_45_code 5 (some (.array .int)) :: ws) ({ frames := 2, cells := 1, slots := 24, locals := 25 } : Room)) (fun args_ U => args_ = #[(.ref xa), (.int xl), (.ref ya), (.int yl), .null] ∧ Z.Warmed39 U.vm ∧ U.heap = h0) (fun _ _ _ _ _ => True) (fun _ U out_ U' => ∃ val_ loc_, out_ = .returned val_ ∧ (Q_rm_mtl Z xa xl ya yl nx fx ny fy k_xa k_ya h0 n0) val_ U'.heap loc_ ∧ FrameEnd U out_ U' loc_ ({ frames := 2, cells := 1, slots := 24, locals := 25 } : Room).cells ({ frames := 2, cells := 1, slots := 24, locals := 25 } : Room).slots) := by
  refine start (Q := (Q_rm_mtl Z xa xl ya yl nx fx ny fy k_xa k_ya h0 n0)) pn_16 ?_
  intro p e s m below meth c T0 X0 hx hby hml hown hnm hret hlk hZ e0
  replace hown : s.vm.findClass "java/math/BigInteger" = some m.cls := hown
  replace hml : c.maxLocals = 5 := hml
  refine goAt (ef_rm_mtl m xa xl ya yl ) ?_
  have N0 := Fr.nil n0
  refine stp (fun _ => XS.aloadN X0.here hx rfl (hb hby d26_0) rfl rfl) ?_
  refine stp (fun _ => XS.iloadN X0.here hx rfl (hb hby d26_1) rfl) ?_
  obtain ⟨_, _, ⟨T1, L1, k1, n1⟩, -, X1, ⟨Lc1, hQ1, l1, y1, z1⟩, st1⟩ := Jvm.LawKit.callS X0 hx (y := (⟨"java/math/BigInteger", "multiplyToLenCheck", "([II)V"⟩ : MethodName)) hown (mvT hZ (w_ hw (i := 179) rfl)) (mvT hZ (w_ hw (i := 180) rfl)) (mvT hZ (w_ hw (i := 118) rfl)) (mvT hZ (w_ hw (i := 181) rfl)) (by decide) (backOf (W := 0) (rm_mtc l Z a0 hw [] xa xl nx fx k_xa h0 n0 O0 V_xa (by omega) hxl hx0) hZ (w_ hw (i := 181) rfl) (w_ hw (i := 118) rfl) (by decide) (by decide)) (g := (mkF m 2 #[(sR xa), (sI xl), (sR ya), (sI yl), .val .null] [(.int xl), (.ref xa)])) rfl (by rw [hml]; rfl) (argsL := [(.ref xa), (.int xl)]) (rest := []) (lenOf pd_8 rfl) rfl (by show 2 * 0 + _ ≤ _; exact Nat.le_of_eq rfl) (hb hby d26_2) (fun _ _ => ⟨rfl, e0, (by decide : 0 + 0 ≤ _), (by decide : 0 + 0 ≤ _)⟩)
  dsimp only [Pt.U, Pt.locs, Pt.cells, Pt.slots] at X1 l1 y1 z1 st1 hQ1
  subst y1 z1
  obtain ⟨rfl, N1q, e1⟩ := hQ1
  have N1 : Fr n0 L1 := by rw [l1]; exact Fr.app N0 N1q
  refine stp st1 ?_
  refine stp (fun _ => XS.aloadN X1.here hx rfl (hb hby d26_5) rfl rfl) ?_
  show Go p e below T1 (mkF m 6 #[(sR xa), (sI xl), (sR ya), (sI yl), .val .null] [(.ref ya)]) _
  refine stp (fun _ => XS.iloadN X1.here hx rfl (hb hby d26_6) rfl) ?_
  obtain ⟨_, _, ⟨T2, L2, k2, n2⟩, -, X2, ⟨Lc2, hQ2, l2, y2, z2⟩, st2⟩ := Jvm.LawKit.callS X1 hx (y := (⟨"java/math/BigInteger", "multiplyToLenCheck", "([II)V"⟩ : MethodName)) hown (mvT hZ (w_ hw (i := 179) rfl)) (mvT hZ (w_ hw (i := 180) rfl)) (mvT hZ (w_ hw (i := 118) rfl)) (mvT hZ (w_ hw (i := 181) rfl)) (by decide) (backOf (W := 0) (rm_mtc l Z a0 hw [] ya yl ny fy k_ya h0 n0 O0 V_ya (by omega) hyl hy0) hZ (w_ hw (i := 181) rfl) (w_ hw (i := 118) rfl) (by decide) (by decide)) (g := (mkF m 7 #[(sR xa), (sI xl), (sR ya), (sI yl), .val .null] [(.int yl), (.ref ya)])) rfl (by rw [hml]; rfl) (argsL := [(.ref ya), (.int yl)]) (rest := []) (lenOf pd_8 rfl) rfl (by show 2 * 0 + _ ≤ _; exact Nat.le_of_eq rfl) (hb hby d26_7) (fun _ _ => ⟨rfl, e1, (by decide : 0 + 0 ≤ _), (by decide : 0 + 0 ≤ _)⟩)
  dsimp only [Pt.U, Pt.locs, Pt.cells, Pt.slots] at X2 l2 y2 z2 st2 hQ2
  subst y2 z2
  obtain ⟨rfl, N2q, e2⟩ := hQ2
  have N2 : Fr n0 L2 := by rw [l2]; exact Fr.app N1 N2q
  refine stp st2 ?_
  refine stp (fun _ => XS.aloadN X2.here hx rfl (hb hby d26_10) rfl rfl) ?_
  refine stp (fun _ => XS.iloadN X2.here hx rfl (hb hby d26_11) rfl) ?_
  refine stp (fun _ => XS.aloadN X2.here hx rfl (hb hby d26_12) rfl rfl) ?_
  show Go p e below T2 (mkF m 13 #[(sR xa), (sI xl), (sR ya), (sI yl), .val .null] [(.ref ya), (.int xl), (.ref xa)]) _
  refine stp (fun _ => XS.iloadN X2.here hx rfl (hb hby d26_13) rfl) ?_
  refine stp (fun _ => XS.aload X2.here hx rfl (hb hby d26_14) rfl rfl) ?_
  obtain ⟨_, _, ⟨T3, L3, k3, n3⟩, -, X3, ⟨Lc3, hQ3, l3, y3, z3⟩, st3⟩ := Jvm.LawKit.callS X2 hx (y := (⟨"java/math/BigInteger", "implMultiplyToLen", "([II[II[I)[I"⟩ : MethodName)) hown (mvT hZ (w_ hw (i := 186) rfl)) (mvT hZ (w_ hw (i := 187) rfl)) (mvT hZ (w_ hw (i := 118) rfl)) (mvT hZ (w_ hw (i := 188) rfl)) (by decide) (backOf (W := 0) (rm_impl l Z a0 hw [] xa xl ya yl nx fx ny fy k_xa k_ya h0 n0 O0 V_xa V_ya hxl hyl hx0 hy0 hxy) hZ (w_ hw (i := 188) rfl) (w_ hw (i := 118) rfl) (by decide) (by decide)) (g := (mkF m 16 #[(sR xa), (sI xl), (sR ya), (sI yl), .val .null] [.null, (.int yl), (.ref ya), (.int xl), (.ref xa)])) rfl (by rw [hml]; rfl) (argsL := [(.ref xa), (.int xl), (.ref ya), (.int yl), .null]) (rest := []) (lenOf pd_9 rfl) rfl (by show 2 * 0 + _ ≤ _; exact Nat.le_of_eq rfl) (hb hby d26_16) (fun _ _ => ⟨rfl, e2, (by decide : 0 + 1 ≤ _), (by decide : 0 + 24 ≤ _)⟩)
  dsimp only [Pt.U, Pt.locs, Pt.cells, Pt.slots] at X3 l3 y3 z3 st3 hQ3
  subst y3 z3
  obtain ⟨r3, k_r3, m3, g3, rfl, N3q, K3q, ⟨ge_r3, sz3_r3⟩, r3_0, pq3_0⟩ := hQ3
  have N3 : Fr n0 L3 := by rw [l3]; exact Fr.app N2 N3q
  have ne4 : xa ≠ r3 := Nat.ne_of_lt (Nat.lt_of_lt_of_le V_xa.lt sz3_r3)
  have ne5 : ya ≠ r3 := Nat.ne_of_lt (Nat.lt_of_lt_of_le V_ya.lt sz3_r3)
  have f6 := V_xa.keep K3q nin0
  have f7 := V_ya.keep K3q nin0
  have sz_r3 : h0.size ≤ r3 := Nat.le_trans (Keep.refl h0 []).1 sz3_r3
  have K3 : Keep h0 T3.heap [] := (Keep.refl h0 []).trans K3q all0
  have O3 := O0.keep K3q all0
  refine stp st3 ?_
  refine outA X3 hx hret rfl rfl (hb hby d26_19) hlk (by decide) (by decide) ?_
  exact ⟨r3, k_r3, m3, (fun i => (g3 i)), rfl, N3, K3, ⟨ge_r3, sz_r3⟩, r3_0, pq3_0⟩
abbrev B21 : ByteArray := jdk_2097_method_43_code
theorem d21_0 : Dc B21 0 (.iload_n 1) 1 := by decide +kernel
theorem d21_1 : Dc B21 1 (.invokestatic 423) 3 := by decide +kernel
theorem pd_10 : parseMethodDescriptor "(I)I" = some ⟨[.int], some .int⟩ := by decide +kernel
theorem d21_4 : Dc B21 4 (.iconst 1) 1 := by decide +kernel
theorem d21_5 : Dc B21 5 (.if_icmp .ne 20) 3 := by decide +kernel
theorem d21_8 : Dc B21 8 (.new 23) 3 := by decide +kernel
theorem d21_11 : Dc B21 11 (.dup) 1 := by decide +kernel
theorem d21_12 : Dc B21 12 (.aload_n 0) 1 := by decide +kernel
theorem d21_13 : Dc B21 13 (.iload_n 1) 1 := by decide +kernel
theorem d21_14 : Dc B21 14 (.invokestatic 426) 3 := by decide +kernel
theorem d21_17 : Dc B21 17 (.invokestatic 429) 3 := by decide +kernel
theorem pd_11 : parseMethodDescriptor "([II)[I" = some ⟨[(.array .int), .int], some (.array .int)⟩ := by decide +kernel
theorem d21_20 : Dc B21 20 (.iload_n 2) 1 := by decide +kernel
theorem d21_21 : Dc B21 21 (.invokespecial 175) 3 := by decide +kernel
theorem d21_24 : Dc B21 24 (.areturn) 1 := by decide +kernel
theorem d21_25 : Dc B21 25 (.aload_n 0) 1 := by decide +kernel
theorem d21_26 : Dc B21 26 (.arraylength) 1 := by decide +kernel
theorem d21_27 : Dc B21 27 (.istore_n 3) 1 := by decide +kernel
theorem d21_28 : Dc B21 28 (.iload_n 3) 1 := by decide +kernel
theorem d21_29 : Dc B21 29 (.iconst 1) 1 := by decide +kernel
theorem d21_30 : Dc B21 30 (.iadd) 1 := by decide +kernel
theorem d21_31 : Dc B21 31 (.newarray .int) 2 := by decide +kernel
theorem d21_33 : Dc B21 33 (.astore 4) 2 := by decide +kernel
theorem d21_35 : Dc B21 35 (.lconst 0) 1 := by decide +kernel
theorem d21_36 : Dc B21 36 (.lstore 5) 2 := by decide +kernel
theorem d21_38 : Dc B21 38 (.iload_n 1) 1 := by decide +kernel
theorem d21_39 : Dc B21 39 (.i2l) 1 := by decide +kernel
theorem d21_40 : Dc B21 40 (.ldc2_w 130) 3 := by decide +kernel
theorem d21_43 : Dc B21 43 (.land) 1 := by decide +kernel
theorem d21_44 : Dc B21 44 (.lstore 7) 2 := by decide +kernel
theorem d21_46 : Dc B21 46 (.aload 4) 2 := by decide +kernel
theorem d21_48 : Dc B21 48 (.arraylength) 1 := by decide +kernel
theorem d21_49 : Dc B21 49 (.iconst 1) 1 := by decide +kernel
theorem d21_50 : Dc B21 50 (.isub) 1 := by decide +kernel
theorem d21_51 : Dc B21 51 (.istore 9) 2 := by decide +kernel
theorem d21_53 : Dc B21 53 (.iload_n 3) 1 := by decide +kernel
theorem d21_54 : Dc B21 54 (.iconst 1) 1 := by decide +kernel
theorem d21_55 : Dc B21 55 (.isub) 1 := by decide +kernel
theorem d21_56 : Dc B21 56 (.istore 10) 2 := by decide +kernel
theorem d21_58 : Dc B21 58 (.iload 10) 2 := by decide +kernel
theorem d21_60 : Dc B21 60 (.ifCond .lt 44) 3 := by decide +kernel
theorem d21_104 : Dc B21 104 (.lload 5) 2 := by decide +kernel
theorem d21_106 : Dc B21 106 (.lconst 0) 1 := by decide +kernel
theorem d21_107 : Dc B21 107 (.lcmp) 1 := by decide +kernel
theorem d21_108 : Dc B21 108 (.ifCond .ne 17) 3 := by decide +kernel
theorem d21_111 : Dc B21 111 (.aload 4) 2 := by decide +kernel
theorem d21_113 : Dc B21 113 (.iconst 1) 1 := by decide +kernel
theorem d21_114 : Dc B21 114 (.aload 4) 2 := by decide +kernel
theorem d21_116 : Dc B21 116 (.arraylength) 1 := by decide +kernel
theorem d21_117 : Dc B21 117 (.invokestatic 433) 3 := by decide +kernel
theorem d21_120 : Dc B21 120 (.astore 4) 2 := by decide +kernel
theorem d21_122 : Dc B21 122 (.goto 11) 3 := by decide +kernel
theorem d21_133 : Dc B21 133 (.new 23) 3 := by decide +kernel
theorem d21_136 : Dc B21 136 (.dup) 1 := by decide +kernel
theorem d21_137 : Dc B21 137 (.aload 4) 2 := by decide +kernel
theorem d21_139 : Dc B21 139 (.iload_n 2) 1 := by decide +kernel
theorem d21_140 : Dc B21 140 (.invokespecial 175) 3 := by decide +kernel
theorem d21_143 : Dc B21 143 (.areturn) 1 := by decide +kernel
theorem d21_125 : Dc B21 125 (.aload 4) 2 := by decide +kernel
theorem d21_127 : Dc B21 127 (.iload 9) 2 := by decide +kernel
theorem d21_129 : Dc B21 129 (.lload 5) 2 := by decide +kernel
theorem d21_131 : Dc B21 131 (.l2i) 1 := by decide +kernel
theorem d21_132 : Dc B21 132 (.iastore) 1 := by decide +kernel
theorem d21_63 : Dc B21 63 (.aload_n 0) 1 := by decide +kernel
theorem d21_64 : Dc B21 64 (.iload 10) 2 := by decide +kernel
theorem d21_66 : Dc B21 66 (.iaload) 1 := by decide +kernel
theorem d21_67 : Dc B21 67 (.i2l) 1 := by decide +kernel
theorem d21_68 : Dc B21 68 (.ldc2_w 130) 3 := by decide +kernel
theorem d21_71 : Dc B21 71 (.land) 1 := by decide +kernel
theorem d21_72 : Dc B21 72 (.lload 7) 2 := by decide +kernel
theorem d21_74 : Dc B21 74 (.lmul) 1 := by decide +kernel
theorem d21_75 : Dc B21 75 (.lload 5) 2 := by decide +kernel
theorem d21_77 : Dc B21 77 (.ladd) 1 := by decide +kernel
theorem d21_78 : Dc B21 78 (.lstore 11) 2 := by decide +kernel
theorem d21_80 : Dc B21 80 (.aload 4) 2 := by decide +kernel
theorem d21_82 : Dc B21 82 (.iload 9) 2 := by decide +kernel
theorem d21_84 : Dc B21 84 (.iinc 9 (-1)) 3 := by decide +kernel
theorem d21_87 : Dc B21 87 (.lload 11) 2 := by decide +kernel
theorem d21_89 : Dc B21 89 (.l2i) 1 := by decide +kernel
theorem d21_90 : Dc B21 90 (.iastore) 1 := by decide +kernel
theorem d21_91 : Dc B21 91 (.lload 11) 2 := by decide +kernel
theorem d21_93 : Dc B21 93 (.bipush 32) 2 := by decide +kernel
theorem d21_95 : Dc B21 95 (.lushr) 1 := by decide +kernel
theorem d21_96 : Dc B21 96 (.lstore 5) 2 := by decide +kernel
theorem d21_98 : Dc B21 98 (.iinc 10 (-1)) 3 := by decide +kernel
theorem d21_101 : Dc B21 101 (.goto (-43)) 3 := by decide +kernel
theorem ef_rm_mbi (m : MethodId) (a : Addr) (y : Int32)  : entryFrame m #[(.ref a), (.int y), (.int (1 : Int32))] 13 = mkF m 0 #[(sR a), (sI y), (sI (1 : Int32)), .unset, .unset, .unset, .unset, .unset, .unset, .unset, .unset, .unset, .unset] [] := by first | (simp [entryFrame, mkF, argsToLocals, Value.category]; done) | rfl
def Q_rm_mbi (Z : State) (a : Addr) (y : Int32) (n : Nat) (f : Nat → Int32) (k_a : ClassId) (h0 : Heap) (n0 : Nat) (v : Option Value) (h : Heap) (L : List Loc) : Prop := ∃ (r : Addr), v = some (.ref r) ∧ Fr n0 L ∧ Keep h0 h [] ∧ (n0 ≤ r ∧ h0.size ≤ r) ∧ BigOk Z h r (n + 2)
theorem pn_17_ : plainName "java/math/BigInteger" = true := by first | (simp [plainName, overriddenIn]; done) | decide +kernel
theorem pn_17 : plainFor (⟨"java/math/BigInteger", "multiplyByInt", "([III)Ljava/math/BigInteger;"⟩ : MethodName) = true := plainFor_of_name pn_17_
set_option maxRecDepth 65536 in
set_option maxHeartbeats 40000000 in
theorem rm_mbi (l : Launch) (Z : State) (a0 : Array Value) (hw : ∀ d ∈ tables_1, d.before a0 Z = true) (ws : List Jvm.Cond) (a : Addr) (y : Int32) (n : Nat) (f : Nat → Int32) (k_a : ClassId) (h0 : Heap) (n0 : Nat) (O0 : Old Z n0 h0) (V_a : Arf Z h0 a k_a .int n (fun i => (.int (f i)))) (hn : n ≤ 22) (hp : 0 < n) :
    MetFree l (⟨"java/math/BigInteger", "multiplyByInt", "([III)Ljava/math/BigInteger;"⟩ : MethodName) (head1 (Jvm.Cond.code (⟨"java/math/BigInteger", "multiplyByInt", "([III)Ljava/math/BigInteger;"⟩ : MethodName) jdk_2097_method_43_code 13 (some (.object "java/math/BigInteger")) :: ws) ({ frames := 3, cells := 3, slots := 55, locals := 52 } : Room)) (fun args_ U => args_ = #[(.ref a), (.int y), (.int (1 : Int32))] ∧ Z.Warmed39 U.vm ∧ U.heap = h0) (fun _ _ _ _ _ => True) (fun _ U out_ U' => ∃ val_ loc_, out_ = .returned val_ ∧ (Q_rm_mbi Z a y n f k_a h0 n0) val_ U'.heap loc_ ∧ FrameEnd U out_ U' loc_ ({ frames := 3, cells := 3, slots := 55, locals := 52 } : Room).cells ({ frames := 3, cells := 3, slots := 55, locals := 52 } : Room).slots) := by
  refine start (Q := (Q_rm_mbi Z a y n f k_a h0 n0)) pn_17 ?_
  intro p e s m below meth c T0 X0 hx hby hml hown hnm hret hlk hZ e0
  replace hown : s.vm.findClass "java/math/BigInteger" = some m.cls := hown
  replace hml : c.maxLocals = 13 := hml
  refine goAt (ef_rm_mbi m a y ) ?_
  have N0 := Fr.nil n0
  refine stp (fun _ => XS.iloadN X0.here hx rfl (hb hby d21_0) rfl) ?_
  obtain ⟨_, _, ⟨T1, L1, k1, n1⟩, -, X1, ⟨Lc1, hQ1, l1, y1, z1⟩, st1⟩ := Jvm.LawKit.callS X0 hx (y := (⟨"java/lang/Integer", "bitCount", "(I)I"⟩ : MethodName)) hown (mvT hZ (w_ hw (i := 154) rfl)) (mvT hZ (w_ hw (i := 155) rfl)) (mvT hZ (w_ hw (i := 156) rfl)) (mvT hZ (w_ hw (i := 157) rfl)) (by decide) (backOf (W := 0) (rm_bc l Z a0 hw [] y  h0 n0 O0 ) hZ (w_ hw (i := 157) rfl) (w_ hw (i := 156) rfl) (by decide) (by decide)) (g := (mkF m 1 #[(sR a), (sI y), (sI (1 : Int32)), .unset, .unset, .unset, .unset, .unset, .unset, .unset, .unset, .unset, .unset] [(.int y)])) rfl (by rw [hml]; rfl) (argsL := [(.int y)]) (rest := []) (lenOf pd_10 rfl) rfl (by show 2 * 0 + _ ≤ _; exact Nat.le_of_eq rfl) (hb hby d21_1) (fun _ _ => ⟨rfl, e0, (by decide : 0 + 0 ≤ _), (by decide : 0 + 0 ≤ _)⟩)
  dsimp only [Pt.U, Pt.locs, Pt.cells, Pt.slots] at X1 l1 y1 z1 st1 hQ1
  subst y1 z1
  obtain ⟨rfl, N1q, e1⟩ := hQ1
  have N1 : Fr n0 L1 := by rw [l1]; exact Fr.app N0 N1q
  refine stp st1 ?_
  refine stp (fun _ => XS.iconst X1.here hx rfl (hb hby d21_4)) ?_
  by_cases q5_2 : (own_bc y) = (1 : Int32)
  · refine stp (fun _ => XS.icmpNo X1.here hx rfl (hb hby d21_5) rfl (XT.ii_ne_f q5_2)) ?_
    show Go p e below T1 (mkF m 8 #[(sR a), (sI y), (sI (1 : Int32)), .unset, .unset, .unset, .unset, .unset, .unset, .unset, .unset, .unset, .unset] []) _
    obtain ⟨T3, h3, X3, e3, E3, A3, D3, U3, st3⟩ := newO X1 hx hZ hown (w_ hw (i := 121) rfl) (w_ hw (i := 122) rfl) (w_ hw (i := 118) rfl) e1 (g := (mkF m 8 #[(sR a), (sI y), (sI (1 : Int32)), .unset, .unset, .unset, .unset, .unset, .unset, .unset, .unset, .unset, .unset] [])) rfl (hb hby d21_8) (by decide) (by decide)
    obtain ⟨b3, g3⟩ : ∃ z, z = h0.size := ⟨_, rfl⟩
    rw [← g3] at A3 D3 st3
    have ne4 : a ≠ b3 := Nat.ne_of_lt (Nat.lt_of_lt_of_le V_a.lt (Nat.le_of_eq g3.symm))
    have sz_b3 : h0.size ≤ b3 := Nat.le_trans (Keep.refl h0 []).1 (Nat.le_of_eq g3.symm)
    have ge_b3 : n0 ≤ b3 := Nat.le_trans (old_le O0) (Nat.le_of_eq g3.symm)
    have f5 := V_a.ext E3
    have K3 : Keep h0 h3 [] := (Keep.refl h0 []).ext E3
    have O3 := O0.ext E3
    have F6 : Fld Z h3 b3 "java/math/BigInteger" "signum" "I" (.int (0 : Int32)) := D3 (Or.inr (w_ hw (i := 135) rfl)) (ty := .int) (by decide)
    have F7 : Fld Z h3 b3 "java/math/BigInteger" "mag" "[I" .null := D3 (Or.inr (w_ hw (i := 138) rfl)) (ty := (.array .int)) (by decide)
    refine stp st3 ?_
    refine stp (fun _ => XS.dup X3.here hx rfl (hb hby d21_11) rfl rfl) ?_
    refine stp (fun _ => XS.aloadN X3.here hx rfl (hb hby d21_12) rfl rfl) ?_
    refine stp (fun _ => XS.iloadN X3.here hx rfl (hb hby d21_13) rfl) ?_
    obtain ⟨_, _, ⟨T8, L8, k8, n8⟩, -, X8, ⟨Lc8, hQ8, l8, y8, z8⟩, st8⟩ := Jvm.LawKit.callS X3 hx (y := (⟨"java/lang/Integer", "numberOfTrailingZeros", "(I)I"⟩ : MethodName)) hown (mvT hZ (w_ hw (i := 192) rfl)) (mvT hZ (w_ hw (i := 193) rfl)) (mvT hZ (w_ hw (i := 156) rfl)) (mvT hZ (w_ hw (i := 194) rfl)) (by decide) (backOf (W := 3) (rm_ntz l Z a0 hw [] y  h3 n0 O3 ) hZ (w_ hw (i := 194) rfl) (w_ hw (i := 156) rfl) (by decide) (by decide)) (g := (mkF m 14 #[(sR a), (sI y), (sI (1 : Int32)), .unset, .unset, .unset, .unset, .unset, .unset, .unset, .unset, .unset, .unset] [(.int y), (.ref a), (.ref b3), (.ref b3)])) rfl (by rw [hml]; rfl) (argsL := [(.int y)]) (rest := [(.ref a), (.ref b3), (.ref b3)]) (lenOf pd_10 rfl) rfl (by show 2 * 0 + _ ≤ _; exact Nat.le_of_eq rfl) (hb hby d21_14) (fun _ _ => ⟨rfl, e3, (by decide : 1 + 0 ≤ _), (by decide : 6 + 0 ≤ _)⟩)
    dsimp only [Pt.U, Pt.locs, Pt.cells, Pt.slots] at X8 l8 y8 z8 st8 hQ8
    subst y8 z8
    obtain ⟨z8, rfl, N8q, K8q, pq8_0⟩ := hQ8
    have N8 : Fr n0 L8 := by rw [l8]; exact Fr.app N1 N8q
    have f9 := f5.keep K8q nin0
    have f10 := A3.keep K8q
    have f11 := F6.keep K8q nin0
    have f12 := F7.keep K8q nin0
    have K8 : Keep h0 T8.heap [] := K3.trans K8q all0
    have O8 := O3.keep K8q all0
    refine stp st8 ?_
    show Go p e below T8 (mkF m 17 #[(sR a), (sI y), (sI (1 : Int32)), .unset, .unset, .unset, .unset, .unset, .unset, .unset, .unset, .unset, .unset] [(.int z8), (.ref a), (.ref b3), (.ref b3)]) _
    obtain ⟨_, _, ⟨T13, L13, k13, n13⟩, -, X13, ⟨Lc13, hQ13, l13, y13, z13⟩, st13⟩ := Jvm.LawKit.callS X8 hx (y := (⟨"java/math/BigInteger", "shiftLeft", "([II)[I"⟩ : MethodName)) hown (mvT hZ (w_ hw (i := 195) rfl)) (mvT hZ (w_ hw (i := 196) rfl)) (mvT hZ (w_ hw (i := 118) rfl)) (mvT hZ (w_ hw (i := 197) rfl)) (by decide) (backOf (W := 2) (rm_shl l Z a0 hw [] a z8 n f k_a T8.heap n0 O8 f9 hn hp pq8_0) hZ (w_ hw (i := 197) rfl) (w_ hw (i := 118) rfl) (by decide) (by decide)) (g := (mkF m 17 #[(sR a), (sI y), (sI (1 : Int32)), .unset, .unset, .unset, .unset, .unset, .unset, .unset, .unset, .unset, .unset] [(.int z8), (.ref a), (.ref b3), (.ref b3)])) rfl (by rw [hml]; rfl) (argsL := [(.ref a), (.int z8)]) (rest := [(.ref b3), (.ref b3)]) (lenOf pd_11 rfl) rfl (by show 2 * 0 + _ ≤ _; exact Nat.le_of_eq rfl) (hb hby d21_17) (fun _ _ => ⟨rfl, rfl, (by decide : 1 + 1 ≤ _), (by decide : 6 + 25 ≤ _)⟩)
    dsimp only [Pt.U, Pt.locs, Pt.cells, Pt.slots] at X13 l13 y13 z13 st13 hQ13
    subst y13 z13
    obtain ⟨r13, k_r13, m13, g13, rfl, N13q, K13q, ⟨ge_r13, sz13_r13⟩, r13_0, pq13_0⟩ := hQ13
    have N13 : Fr n0 L13 := by rw [l13]; exact Fr.app N8 N13q
    have ne14 : a ≠ r13 := Nat.ne_of_lt (Nat.lt_of_lt_of_le f9.lt sz13_r13)
    have ne15 : b3 ≠ r13 := Nat.ne_of_lt (Nat.lt_of_lt_of_le f10.lt sz13_r13)
    have f16 := f9.keep K13q nin0
    have f17 := f10.keep K13q
    have f18 := f11.keep K13q nin0
    have f19 := f12.keep K13q nin0
    have sz_r13 : h0.size ≤ r13 := Nat.le_trans K8.1 sz13_r13
    have K13 : Keep h0 T13.heap [] := K8.trans K13q all0
    have O13 := O8.keep K13q all0
    refine stp st13 ?_
    refine stp (fun _ => XS.iloadN X13.here hx rfl (hb hby d21_20) rfl) ?_
    obtain ⟨_, _, ⟨T20, L20, k20, n20⟩, -, X20, ⟨Lc20, hQ20, l20, y20, z20⟩, st20⟩ := X13.specialBack hx (y := (⟨"java/math/BigInteger", "<init>", "([II)V"⟩ : MethodName)) rfl hown (mvT hZ (w_ hw (i := 162) rfl)) (mvT hZ (w_ hw (i := 163) rfl)) (mvT hZ (w_ hw (i := 164) rfl)) (by decide) (backOf (W := 1) (rm_bia l Z a0 hw [] b3 r13 m13 g13 (n + 2) k_r13 T13.heap n0 O13 f17 f18 f19 r13_0 ge_b3 (Ne.symm ne15) (by omega) (by omega)) hZ (w_ hw (i := 164) rfl) (w_ hw (i := 118) rfl) (by decide) (by decide)) (g := (mkF m 21 #[(sR a), (sI y), (sI (1 : Int32)), .unset, .unset, .unset, .unset, .unset, .unset, .unset, .unset, .unset, .unset] [(.int (1 : Int32)), (.ref r13), (.ref b3), (.ref b3)])) rfl (by rw [hml]; rfl) (Steps.refl _) (a := b3) (argsL := [(.ref r13), (.int (1 : Int32))]) (rest := [(.ref b3)]) (lenOf pd_8 rfl) rfl (by show 2 * 0 + _ ≤ _; exact Nat.le_of_eq rfl) (hb hby d21_21) (fun _ _ => ⟨rfl, rfl, (by decide : 2 + 0 ≤ _), (by decide : 31 + 0 ≤ _)⟩)
    dsimp only [Pt.U, Pt.locs, Pt.cells, Pt.slots] at X20 l20 y20 z20 st20 hQ20
    subst y20 z20
    obtain ⟨rfl, N20q, K20q, r20_0⟩ := hQ20
    have N20 : Fr n0 L20 := by rw [l20]; exact Fr.app N13 N20q
    have f21 := f16.keep K20q (ninS ne4 nin0)
    have f22 := f17.keep K20q
    have f23 := r13_0.keep K20q (ninS (Ne.symm ne15) nin0)
    have K20 : Keep h0 T20.heap [] := K13.trans K20q (allS (Or.inr sz_b3) all0)
    have O20 := O13.keep K20q (allS ge_b3 all0)
    refine stt st20 ?_
    refine outA X20 hx hret rfl rfl (hb hby d21_24) hlk (by decide) (by decide) ?_
    exact ⟨b3, rfl, N20, K20, ⟨ge_b3, sz_b3⟩, r20_0⟩
  refine stp (fun _ => XS.icmpYes X1.here hx rfl (pc0 := 5) (pc' := 25) rfl (hb hby d21_5) rfl (XT.ii_ne_t q5_2) (by decide) (by decide)) ?_
  show Go p e below T1 (mkF m 25 #[(sR a), (sI y), (sI (1 : Int32)), .unset, .unset, .unset, .unset, .unset, .unset, .unset, .unset, .unset, .unset] []) _
  refine stp (fun _ => XS.aloadN X1.here hx rfl (hb hby d21_25) rfl rfl) ?_
  obtain ⟨cl24, Ar24, -, S24, -, -⟩ := (id V_a)
  refine stp (fun _ => X1.arraylength hx (by rw [e1]; exact Ar24.1) (State.isArrayOf_alike hZ.alike Ar24.2.1) (g := (mkF m 26 #[(sR a), (sI y), (sI (1 : Int32)), .unset, .unset, .unset, .unset, .unset, .unset, .unset, .unset, .unset, .unset] [(.ref a)])) rfl rfl (hb hby d21_26) _) ?_
  rw [arf_len S24 (z := (Int32.ofNat n)) (own_nI (by omega))]
  refine stp (fun _ => XS.istoreN X1.here hx rfl (hb hby d21_27) rfl (l' := #[(sR a), (sI y), (sI (1 : Int32)), (sI (Int32.ofNat n)), .unset, .unset, .unset, .unset, .unset, .unset, .unset, .unset, .unset]) rfl) ?_
  refine stp (fun _ => XS.iloadN X1.here hx rfl (hb hby d21_28) rfl) ?_
  refine stp (fun _ => XS.iconst X1.here hx rfl (hb hby d21_29)) ?_
  show Go p e below T1 (mkF m 30 #[(sR a), (sI y), (sI (1 : Int32)), (sI (Int32.ofNat n)), .unset, .unset, .unset, .unset, .unset, .unset, .unset, .unset, .unset] [(.int (1 : Int32)), (.int (Int32.ofNat n))]) _
  refine stp (fun _ => XS.iadd X1.here hx rfl (hb hby d21_30) rfl) ?_
  obtain ⟨T25, h25, k25, X25, e25, E25, A25, B25, st25⟩ := newPE X1 hx hZ (w_ hw (i := 136) rfl) e1 (g := (mkF m 31 #[(sR a), (sI y), (sI (1 : Int32)), (sI (Int32.ofNat n)), .unset, .unset, .unset, .unset, .unset, .unset, .unset, .unset, .unset] [(.int ((Int32.ofNat n) + (1 : Int32)))])) rfl (hb hby d21_31) rfl (own_u0 (own_incI (own_nI (k := n) (by omega)) (by omega))) (cap := 25) (by rw [arf_ix (own_incI (own_nI (k := n) (by omega)) (by omega))]; omega) (by decide) (by decide) (by decide) (ad := "[I") (by decide)
  obtain ⟨b25, g25⟩ : ∃ z, z = h0.size := ⟨_, rfl⟩
  rw [← g25] at A25 B25 st25
  have ne26 : a ≠ b25 := Nat.ne_of_lt (Nat.lt_of_lt_of_le V_a.lt (Nat.le_of_eq g25.symm))
  have sz_b25 : h0.size ≤ b25 := Nat.le_trans (Keep.refl h0 []).1 (Nat.le_of_eq g25.symm)
  have ge_b25 : n0 ≤ b25 := Nat.le_trans (old_le O0) (Nat.le_of_eq g25.symm)
  have f27 := V_a.ext E25
  have K25 : Keep h0 h25 [] := (Keep.refl h0 []).ext E25
  have O25 := O0.ext E25
  have V25 : Arf Z h25 b25 k25 .int (n + 1) (fun _ => (.int (0 : Int32))) := Arf.new A25 (own_u0 (own_incI (own_nI (k := n) (by omega)) (by omega))) (arf_ix (own_incI (own_nI (k := n) (by omega)) (by omega)))
  refine stp st25 ?_
  refine stp (fun _ => XS.astore X25.here hx rfl (hb hby d21_33) rfl rfl (l' := #[(sR a), (sI y), (sI (1 : Int32)), (sI (Int32.ofNat n)), (sR b25), .unset, .unset, .unset, .unset, .unset, .unset, .unset, .unset]) rfl) ?_
  show Go p e below T25 (mkF m 35 #[(sR a), (sI y), (sI (1 : Int32)), (sI (Int32.ofNat n)), (sR b25), .unset, .unset, .unset, .unset, .unset, .unset, .unset, .unset] []) _
  refine stp (fun _ => XS.lconst X25.here hx rfl (hb hby d21_35)) ?_
  refine stp (fun _ => XS.lstore X25.here hx rfl (hb hby d21_36) rfl (l' := #[(sR a), (sI y), (sI (1 : Int32)), (sI (Int32.ofNat n)), (sR b25), (sJ (0 : Int64)), .second, .unset, .unset, .unset, .unset, .unset, .unset]) rfl) ?_
  refine stp (fun _ => XS.iloadN X25.here hx rfl (hb hby d21_38) rfl) ?_
  refine stp (fun _ => XS.i2l X25.here hx rfl (hb hby d21_39) rfl) ?_
  refine stp (fun _ => X25.ldc2Long hx hown (mvT hZ (w_ hw (i := 161) rfl)) (g := (mkF m 40 #[(sR a), (sI y), (sI (1 : Int32)), (sI (Int32.ofNat n)), (sR b25), (sJ (0 : Int64)), .second, .unset, .unset, .unset, .unset, .unset, .unset] [(.long (y.toInt64))])) rfl (hb hby d21_40) _) ?_
  show Go p e below T25 (mkF m 43 #[(sR a), (sI y), (sI (1 : Int32)), (sI (Int32.ofNat n)), (sR b25), (sJ (0 : Int64)), .second, .unset, .unset, .unset, .unset, .unset, .unset] [(.long (4294967295 : Int64)), (.long (y.toInt64))]) _
  refine stp (fun _ => XS.land X25.here hx rfl (hb hby d21_43) rfl) ?_
  refine stp (fun _ => XS.lstore X25.here hx rfl (hb hby d21_44) rfl (l' := #[(sR a), (sI y), (sI (1 : Int32)), (sI (Int32.ofNat n)), (sR b25), (sJ (0 : Int64)), .second, (sJ ((y.toInt64) &&& (4294967295 : Int64))), .second, .unset, .unset, .unset, .unset]) rfl) ?_
  refine stp (fun _ => XS.aload X25.here hx rfl (hb hby d21_46) rfl rfl) ?_
  obtain ⟨cl28, Ar28, -, S28, -, -⟩ := (id V25)
  refine stp (fun _ => X25.arraylength hx (by rw [e25]; exact Ar28.1) (State.isArrayOf_alike hZ.alike Ar28.2.1) (g := (mkF m 48 #[(sR a), (sI y), (sI (1 : Int32)), (sI (Int32.ofNat n)), (sR b25), (sJ (0 : Int64)), .second, (sJ ((y.toInt64) &&& (4294967295 : Int64))), .second, .unset, .unset, .unset, .unset] [(.ref b25)])) rfl rfl (hb hby d21_48) _) ?_
  rw [arf_len S28 (z := (Int32.ofNat (n + 1))) (own_nI (by omega))]
  refine stp (fun _ => XS.iconst X25.here hx rfl (hb hby d21_49)) ?_
  show Go p e below T25 (mkF m 50 #[(sR a), (sI y), (sI (1 : Int32)), (sI (Int32.ofNat n)), (sR b25), (sJ (0 : Int64)), .second, (sJ ((y.toInt64) &&& (4294967295 : Int64))), .second, .unset, .unset, .unset, .unset] [(.int (1 : Int32)), (.int (Int32.ofNat (n + 1)))]) _
  refine stp (fun _ => XS.isub X25.here hx rfl (hb hby d21_50) rfl) ?_
  refine stp (fun _ => XS.istore X25.here hx rfl (hb hby d21_51) rfl (l' := #[(sR a), (sI y), (sI (1 : Int32)), (sI (Int32.ofNat n)), (sR b25), (sJ (0 : Int64)), .second, (sJ ((y.toInt64) &&& (4294967295 : Int64))), .second, (sI ((Int32.ofNat (n + 1)) - (1 : Int32))), .unset, .unset, .unset]) rfl) ?_
  refine stp (fun _ => XS.iloadN X25.here hx rfl (hb hby d21_53) rfl) ?_
  refine stp (fun _ => XS.iconst X25.here hx rfl (hb hby d21_54)) ?_
  refine stp (fun _ => XS.isub X25.here hx rfl (hb hby d21_55) rfl) ?_
  show Go p e below T25 (mkF m 56 #[(sR a), (sI y), (sI (1 : Int32)), (sI (Int32.ofNat n)), (sR b25), (sJ (0 : Int64)), .second, (sJ ((y.toInt64) &&& (4294967295 : Int64))), .second, (sI ((Int32.ofNat (n + 1)) - (1 : Int32))), .unset, .unset, .unset] [(.int ((Int32.ofNat n) - (1 : Int32)))]) _
  refine stp (fun _ => XS.istore X25.here hx rfl (hb hby d21_56) rfl (l' := #[(sR a), (sI y), (sI (1 : Int32)), (sI (Int32.ofNat n)), (sR b25), (sJ (0 : Int64)), .second, (sJ ((y.toInt64) &&& (4294967295 : Int64))), .second, (sI ((Int32.ofNat (n + 1)) - (1 : Int32))), (sI ((Int32.ofNat n) - (1 : Int32))), .unset, .unset]) rfl) ?_
  show Go p e below T25 (mkF m 58 #[(sR a), (sI y), (sI (1 : Int32)), (sI (Int32.ofNat n)), (sR b25), (sJ (0 : Int64)), .second, (sJ ((y.toInt64) &&& (4294967295 : Int64))), .second, (sI ((Int32.ofNat (n + 1)) - (1 : Int32))), (sI ((Int32.ofNat n) - (1 : Int32))), .unset, .unset] []) _
  have loop58 : ∀ (d : Nat), ∀ (i10 : Int32) (i9 : Int32) (cy : Int64) (gg : Nat → Int32) (s11 : Slot) (s12 : Slot), (d ≤ n ∧ i10.toInt = (d : Int) - 1 ∧ i9.toInt = (d : Int)) → ∀ (T : State) (locs : List Loc) (hA : Heap) (X : Stand p l e ({ frames := 3, cells := 3, slots := 55, locals := 52 } : Room) s m #[(.ref a), (.int y), (.int (1 : Int32))] below meth c T locs 1 25) (eA : T.heap = hA) (NA : Fr n0 locs) (OA : Old Z n0 hA) (KA : Keep h0 hA []) (FA0 : Arf Z hA a k_a .int n (fun i => (.int (f i)))) (FA1 : Arf Z hA b25 k25 .int (n + 1) (fun x => (.int (gg x)))), ((s11 = .unset ∧ s12 = .unset ∧ d = n) ∨ (∃ v, s11 = .val (.long v) ∧ s12 = .second)) → Go p e below T (mkF m 58 #[(sR a), (sI y), (sI (1 : Int32)), (sI (Int32.ofNat n)), (sR b25), (sJ cy), .second, (sJ ((y.toInt64) &&& (4294967295 : Int64))), .second, (sI i9), (sI i10), s11, s12] []) (Po s (Q_rm_mbi Z a y n f k_a h0 n0) ({ frames := 3, cells := 3, slots := 55, locals := 52 } : Room).cells ({ frames := 3, cells := 3, slots := 55, locals := 52 } : Room).slots) := by
    intro d
    induction d with
    | zero =>
      intro i10 i9 cy gg s11 s12 hd_ T locs hA X eA NA OA KA FA0 FA1 hs
      obtain ⟨m1, m2, m3⟩ := hd_
      rcases hs with ⟨-, -, e3⟩ | ⟨v11, e1, e2⟩
      · exact absurd e3 (by omega)
      subst e1 e2
      have jr : i9.toInt = ((0 : Nat) : Int) := by omega
      refine stp (fun _ => XS.iload X.here hx rfl (hb hby d21_58) rfl) ?_
      refine stp (fun _ => XS.ifYes X.here hx rfl (pc0 := 60) (pc' := 104) rfl (hb hby d21_60) rfl (XT.i0_lt_t (own_neg1 (by omega))) (by decide) (by decide)) ?_
      show Go p e below T (mkF m 104 #[(sR a), (sI y), (sI (1 : Int32)), (sI (Int32.ofNat n)), (sR b25), (sJ cy), .second, (sJ ((y.toInt64) &&& (4294967295 : Int64))), .second, (sI i9), (sI i10), (sJ v11), .second] []) _
      refine stp (fun _ => XS.lload X.here hx rfl (hb hby d21_104) rfl) ?_
      refine stp (fun _ => XS.lconst X.here hx rfl (hb hby d21_106)) ?_
      refine stp (fun _ => XS.lcmp X.here hx rfl (hb hby d21_107) rfl) ?_
      by_cases q108_29 : cy = (0 : Int64)
      rotate_left
      · refine stp (fun _ => XS.ifYes X.here hx rfl (pc0 := 108) (pc' := 125) rfl (hb hby d21_108) rfl (XT.ll_ne_t q108_29) (by decide) (by decide)) ?_
        refine stp (fun _ => XS.aload X.here hx rfl (hb hby d21_125) rfl rfl) ?_
        show Go p e below T (mkF m 127 #[(sR a), (sI y), (sI (1 : Int32)), (sI (Int32.ofNat n)), (sR b25), (sJ cy), .second, (sJ ((y.toInt64) &&& (4294967295 : Int64))), .second, (sI i9), (sI i10), (sJ v11), .second] [(.ref b25)]) _
        refine stp (fun _ => XS.iload X.here hx rfl (hb hby d21_127) rfl) ?_
        refine stp (fun _ => XS.lload X.here hx rfl (hb hby d21_129) rfl) ?_
        refine stp (fun _ => XS.l2i X.here hx rfl (hb hby d21_131) rfl) ?_
        obtain ⟨cl50, Ar50, q50, S50, H50, G50⟩ := (id FA1)
        have in50 : ¬ (i9 < 0 ∨ cl50.slots.size ≤ (i9).toNatClampNeg) := arf_in S50 jr (by omega)
        obtain ⟨T50, h50, X50, e50, W50, st50⟩ := stI X hx hZ eA Ar50 (j := i9) in50 (g := (mkF m 132 #[(sR a), (sI y), (sI (1 : Int32)), (sI (Int32.ofNat n)), (sR b25), (sJ cy), .second, (sJ ((y.toInt64) &&& (4294967295 : Int64))), .second, (sI i9), (sI i10), (sJ v11), .second] [(.int (cy.toInt32)), (.int i9), (.ref b25)])) rfl rfl (hb hby d21_132)
        have V50 := Arf.set Ar50 q50 S50 H50 G50 rfl (arf_ix jr ▸ W50) (by omega)
        replace V50 : Arf Z h50 b25 k25 .int (n + 1) (fun x => (.int (if x = 0 then (cy.toInt32) else (gg x)))) := V50.congr (fun x _ => by split <;> rfl)
        have f51 := FA0.other W50 ne26
        have K50 : Keep h0 h50 [] := KA.wr W50 (Or.inr sz_b25)
        have O50 := OA.wr W50 ge_b25
        have N50 := Fr.snoc X50 NA ge_b25
        refine stp st50 ?_
        obtain ⟨T53, h53, X53, e53, E53, A53, D53, U53, st53⟩ := newO X50 hx hZ hown (w_ hw (i := 121) rfl) (w_ hw (i := 122) rfl) (w_ hw (i := 118) rfl) e50 (g := (mkF m 133 #[(sR a), (sI y), (sI (1 : Int32)), (sI (Int32.ofNat n)), (sR b25), (sJ cy), .second, (sJ ((y.toInt64) &&& (4294967295 : Int64))), .second, (sI i9), (sI i10), (sJ v11), .second] [])) rfl (hb hby d21_133) (by decide) (by decide)
        obtain ⟨b53, g53⟩ : ∃ z, z = h50.size := ⟨_, rfl⟩
        rw [← g53] at A53 D53 st53
        have ne54 : a ≠ b53 := Nat.ne_of_lt (Nat.lt_of_lt_of_le f51.lt (Nat.le_of_eq g53.symm))
        have ne55 : b25 ≠ b53 := Nat.ne_of_lt (Nat.lt_of_lt_of_le V50.lt (Nat.le_of_eq g53.symm))
        have sz_b53 : h0.size ≤ b53 := Nat.le_trans K50.1 (Nat.le_of_eq g53.symm)
        have ge_b53 : n0 ≤ b53 := Nat.le_trans (old_le O50) (Nat.le_of_eq g53.symm)
        have f56 := f51.ext E53
        have f57 := V50.ext E53
        have K53 : Keep h0 h53 [] := K50.ext E53
        have O53 := O50.ext E53
        have F58 : Fld Z h53 b53 "java/math/BigInteger" "signum" "I" (.int (0 : Int32)) := D53 (Or.inr (w_ hw (i := 135) rfl)) (ty := .int) (by decide)
        have F59 : Fld Z h53 b53 "java/math/BigInteger" "mag" "[I" .null := D53 (Or.inr (w_ hw (i := 138) rfl)) (ty := (.array .int)) (by decide)
        refine stp st53 ?_
        show Go p e below T53 (mkF m 136 #[(sR a), (sI y), (sI (1 : Int32)), (sI (Int32.ofNat n)), (sR b25), (sJ cy), .second, (sJ ((y.toInt64) &&& (4294967295 : Int64))), .second, (sI i9), (sI i10), (sJ v11), .second] [(.ref b53)]) _
        refine stp (fun _ => XS.dup X53.here hx rfl (hb hby d21_136) rfl rfl) ?_
        refine stp (fun _ => XS.aload X53.here hx rfl (hb hby d21_137) rfl rfl) ?_
        refine stp (fun _ => XS.iloadN X53.here hx rfl (hb hby d21_139) rfl) ?_
        obtain ⟨_, _, ⟨T60, L60, k60, n60⟩, -, X60, ⟨Lc60, hQ60, l60, y60, z60⟩, st60⟩ := X53.specialBack hx (y := (⟨"java/math/BigInteger", "<init>", "([II)V"⟩ : MethodName)) rfl hown (mvT hZ (w_ hw (i := 162) rfl)) (mvT hZ (w_ hw (i := 163) rfl)) (mvT hZ (w_ hw (i := 164) rfl)) (by decide) (backOf (W := 1) (rm_bia l Z a0 hw [] b53 b25 (n + 1) (fun x => (if x = 0 then (cy.toInt32) else (gg x))) (n + 2) k25 h53 n0 O53 A53 F58 F59 f57 ge_b53 ne55 (by omega) (by omega)) hZ (w_ hw (i := 164) rfl) (w_ hw (i := 118) rfl) (by decide) (by decide)) (g := (mkF m 140 #[(sR a), (sI y), (sI (1 : Int32)), (sI (Int32.ofNat n)), (sR b25), (sJ cy), .second, (sJ ((y.toInt64) &&& (4294967295 : Int64))), .second, (sI i9), (sI i10), (sJ v11), .second] [(.int (1 : Int32)), (.ref b25), (.ref b53), (.ref b53)])) rfl (by rw [hml]; rfl) (Steps.refl _) (a := b53) (argsL := [(.ref b25), (.int (1 : Int32))]) (rest := [(.ref b53)]) (lenOf pd_8 rfl) rfl (by show 2 * 0 + _ ≤ _; exact Nat.le_of_eq rfl) (hb hby d21_140) (fun _ _ => ⟨rfl, e53, (by decide : 2 + 0 ≤ _), (by decide : 31 + 0 ≤ _)⟩)
        dsimp only [Pt.U, Pt.locs, Pt.cells, Pt.slots] at X60 l60 y60 z60 st60 hQ60
        subst y60 z60
        obtain ⟨rfl, N60q, K60q, r60_0⟩ := hQ60
        have N60 : Fr n0 L60 := by rw [l60]; exact Fr.app N50 N60q
        have f61 := f56.keep K60q (ninS ne54 nin0)
        have f62 := f57.keep K60q (ninS ne55 nin0)
        have f63 := A53.keep K60q
        have K60 : Keep h0 T60.heap [] := K53.trans K60q (allS (Or.inr sz_b53) all0)
        have O60 := O53.keep K60q (allS ge_b53 all0)
        refine stt st60 ?_
        refine outA X60 hx hret rfl rfl (hb hby d21_143) hlk (by decide) (by decide) ?_
        exact ⟨b53, rfl, N60, K60, ⟨ge_b53, sz_b53⟩, r60_0⟩
      refine stp (fun _ => XS.ifNo X.here hx rfl (hb hby d21_108) rfl (XT.ll_ne_f q108_29)) ?_
      refine stp (fun _ => XS.aload X.here hx rfl (hb hby d21_111) rfl rfl) ?_
      show Go p e below T (mkF m 113 #[(sR a), (sI y), (sI (1 : Int32)), (sI (Int32.ofNat n)), (sR b25), (sJ cy), .second, (sJ ((y.toInt64) &&& (4294967295 : Int64))), .second, (sI i9), (sI i10), (sJ v11), .second] [(.ref b25)]) _
      refine stp (fun _ => XS.iconst X.here hx rfl (hb hby d21_113)) ?_
      refine stp (fun _ => XS.aload X.here hx rfl (hb hby d21_114) rfl rfl) ?_
      obtain ⟨cl30, Ar30, -, S30, -, -⟩ := (id FA1)
      refine stp (fun _ => X.arraylength hx (by rw [eA]; exact Ar30.1) (State.isArrayOf_alike hZ.alike Ar30.2.1) (g := (mkF m 116 #[(sR a), (sI y), (sI (1 : Int32)), (sI (Int32.ofNat n)), (sR b25), (sJ cy), .second, (sJ ((y.toInt64) &&& (4294967295 : Int64))), .second, (sI i9), (sI i10), (sJ v11), .second] [(.ref b25), (.int (1 : Int32)), (.ref b25)])) rfl rfl (hb hby d21_116) _) ?_
      rw [arf_len S30 (z := (Int32.ofNat (n + 1))) (own_nI (by omega))]
      obtain ⟨_, _, ⟨T31, L31, k31, n31⟩, -, X31, ⟨Lc31, hQ31, l31, y31, z31⟩, st31⟩ := Jvm.LawKit.callS X hx (y := (⟨"java/util/Arrays", "copyOfRange", "([III)[I"⟩ : MethodName)) hown (mvT hZ (w_ hw (i := 202) rfl)) (mvT hZ (w_ hw (i := 203) rfl)) (mvT hZ (w_ hw (i := 204) rfl)) (mvT hZ (w_ hw (i := 205) rfl)) (by decide) (backOf (W := 0) (rm_cor l Z a0 hw [] b25 (1 : Int32) (Int32.ofNat (n + 1)) (n + 1) gg 1 k25 hA n0 OA FA1 (by omega) (show (1 : Int32).toInt = ((1 : Nat) : Int) from rfl) (own_nI (by omega)) (by omega) (by decide)) hZ (w_ hw (i := 205) rfl) (w_ hw (i := 204) rfl) (by decide) (by decide)) (g := (mkF m 117 #[(sR a), (sI y), (sI (1 : Int32)), (sI (Int32.ofNat n)), (sR b25), (sJ cy), .second, (sJ ((y.toInt64) &&& (4294967295 : Int64))), .second, (sI i9), (sI i10), (sJ v11), .second] [(.int (Int32.ofNat (n + 1))), (.int (1 : Int32)), (.ref b25)])) rfl (by rw [hml]; rfl) (argsL := [(.ref b25), (.int (1 : Int32)), (.int (Int32.ofNat (n + 1)))]) (rest := []) (lenOf pd_3 rfl) rfl (by show 2 * 0 + _ ≤ _; exact Nat.le_of_eq rfl) (hb hby d21_117) (fun _ _ => ⟨rfl, eA, (by decide : 1 + 1 ≤ _), (by decide : 25 + 24 ≤ _)⟩)
      dsimp only [Pt.U, Pt.locs, Pt.cells, Pt.slots] at X31 l31 y31 z31 st31 hQ31
      subst y31 z31
      obtain ⟨r31, k_r31, m31, g31, rfl, N31q, K31q, ⟨ge_r31, sz31_r31⟩, r31_0, pq31_0⟩ := hQ31
      have N31 : Fr n0 L31 := by rw [l31]; exact Fr.app NA N31q
      have ne32 : a ≠ r31 := Nat.ne_of_lt (Nat.lt_of_lt_of_le FA0.lt sz31_r31)
      have ne33 : b25 ≠ r31 := Nat.ne_of_lt (Nat.lt_of_lt_of_le FA1.lt sz31_r31)
      have f34 := FA0.keep K31q nin0
      have f35 := FA1.keep K31q nin0
      have sz_r31 : h0.size ≤ r31 := Nat.le_trans KA.1 sz31_r31
      have K31 : Keep h0 T31.heap [] := KA.trans K31q all0
      have O31 := OA.keep K31q all0
      refine stp st31 ?_
      refine stp (fun _ => XS.astore X31.here hx rfl (hb hby d21_120) rfl rfl (l' := #[(sR a), (sI y), (sI (1 : Int32)), (sI (Int32.ofNat n)), (sR r31), (sJ cy), .second, (sJ ((y.toInt64) &&& (4294967295 : Int64))), .second, (sI i9), (sI i10), (sJ v11), .second]) rfl) ?_
      show Go p e below T31 (mkF m 122 #[(sR a), (sI y), (sI (1 : Int32)), (sI (Int32.ofNat n)), (sR r31), (sJ cy), .second, (sJ ((y.toInt64) &&& (4294967295 : Int64))), .second, (sI i9), (sI i10), (sJ v11), .second] []) _
      refine stp (fun _ => XS.goto X31.here hx rfl (pc0 := 122) (pc' := 133) rfl (hb hby d21_122) (by decide) (by decide)) ?_
      obtain ⟨T36, h36, X36, e36, E36, A36, D36, U36, st36⟩ := newO X31 hx hZ hown (w_ hw (i := 121) rfl) (w_ hw (i := 122) rfl) (w_ hw (i := 118) rfl) rfl (g := (mkF m 133 #[(sR a), (sI y), (sI (1 : Int32)), (sI (Int32.ofNat n)), (sR r31), (sJ cy), .second, (sJ ((y.toInt64) &&& (4294967295 : Int64))), .second, (sI i9), (sI i10), (sJ v11), .second] [])) rfl (hb hby d21_133) (by decide) (by decide)
      obtain ⟨b36, g36⟩ : ∃ z, z = T31.heap.size := ⟨_, rfl⟩
      rw [← g36] at A36 D36 st36
      have ne37 : a ≠ b36 := Nat.ne_of_lt (Nat.lt_of_lt_of_le f34.lt (Nat.le_of_eq g36.symm))
      have ne38 : b25 ≠ b36 := Nat.ne_of_lt (Nat.lt_of_lt_of_le f35.lt (Nat.le_of_eq g36.symm))
      have ne39 : r31 ≠ b36 := Nat.ne_of_lt (Nat.lt_of_lt_of_le r31_0.lt (Nat.le_of_eq g36.symm))
      have sz_b36 : h0.size ≤ b36 := Nat.le_trans K31.1 (Nat.le_of_eq g36.symm)
      have ge_b36 : n0 ≤ b36 := Nat.le_trans (old_le O31) (Nat.le_of_eq g36.symm)
      have f40 := f34.ext E36
      have f41 := f35.ext E36
      have f42 := r31_0.ext E36
      have K36 : Keep h0 h36 [] := K31.ext E36
      have O36 := O31.ext E36
      have F43 : Fld Z h36 b36 "java/math/BigInteger" "signum" "I" (.int (0 : Int32)) := D36 (Or.inr (w_ hw (i := 135) rfl)) (ty := .int) (by decide)
      have F44 : Fld Z h36 b36 "java/math/BigInteger" "mag" "[I" .null := D36 (Or.inr (w_ hw (i := 138) rfl)) (ty := (.array .int)) (by decide)
      refine stp st36 ?_
      refine stp (fun _ => XS.dup X36.here hx rfl (hb hby d21_136) rfl rfl) ?_
      refine stp (fun _ => XS.aload X36.here hx rfl (hb hby d21_137) rfl rfl) ?_
      refine stp (fun _ => XS.iloadN X36.here hx rfl (hb hby d21_139) rfl) ?_
      show Go p e below T36 (mkF m 140 #[(sR a), (sI y), (sI (1 : Int32)), (sI (Int32.ofNat n)), (sR r31), (sJ cy), .second, (sJ ((y.toInt64) &&& (4294967295 : Int64))), .second, (sI i9), (sI i10), (sJ v11), .second] [(.int (1 : Int32)), (.ref r31), (.ref b36), (.ref b36)]) _
      obtain ⟨_, _, ⟨T45, L45, k45, n45⟩, -, X45, ⟨Lc45, hQ45, l45, y45, z45⟩, st45⟩ := X36.specialBack hx (y := (⟨"java/math/BigInteger", "<init>", "([II)V"⟩ : MethodName)) rfl hown (mvT hZ (w_ hw (i := 162) rfl)) (mvT hZ (w_ hw (i := 163) rfl)) (mvT hZ (w_ hw (i := 164) rfl)) (by decide) (backOf (W := 1) (rm_bia l Z a0 hw [] b36 r31 m31 g31 (n + 2) k_r31 h36 n0 O36 A36 F43 F44 f42 ge_b36 ne39 (by omega) (by omega)) hZ (w_ hw (i := 164) rfl) (w_ hw (i := 118) rfl) (by decide) (by decide)) (g := (mkF m 140 #[(sR a), (sI y), (sI (1 : Int32)), (sI (Int32.ofNat n)), (sR r31), (sJ cy), .second, (sJ ((y.toInt64) &&& (4294967295 : Int64))), .second, (sI i9), (sI i10), (sJ v11), .second] [(.int (1 : Int32)), (.ref r31), (.ref b36), (.ref b36)])) rfl (by rw [hml]; rfl) (Steps.refl _) (a := b36) (argsL := [(.ref r31), (.int (1 : Int32))]) (rest := [(.ref b36)]) (lenOf pd_8 rfl) rfl (by show 2 * 0 + _ ≤ _; exact Nat.le_of_eq rfl) (hb hby d21_140) (fun _ _ => ⟨rfl, e36, (by decide : 3 + 0 ≤ _), (by decide : 55 + 0 ≤ _)⟩)
      dsimp only [Pt.U, Pt.locs, Pt.cells, Pt.slots] at X45 l45 y45 z45 st45 hQ45
      subst y45 z45
      obtain ⟨rfl, N45q, K45q, r45_0⟩ := hQ45
      have N45 : Fr n0 L45 := by rw [l45]; exact Fr.app N31 N45q
      have f46 := f40.keep K45q (ninS ne37 nin0)
      have f47 := f41.keep K45q (ninS ne38 nin0)
      have f48 := f42.keep K45q (ninS ne39 nin0)
      have f49 := A36.keep K45q
      have K45 : Keep h0 T45.heap [] := K36.trans K45q (allS (Or.inr sz_b36) all0)
      have O45 := O36.keep K45q (allS ge_b36 all0)
      refine stt st45 ?_
      refine outA X45 hx hret rfl rfl (hb hby d21_143) hlk (by decide) (by decide) ?_
      exact ⟨b36, rfl, N45, K45, ⟨ge_b36, sz_b36⟩, r45_0⟩
    | succ d ih =>
      intro i10 i9 cy gg s11 s12 hd_ T locs hA X eA NA OA KA FA0 FA1 hs
      obtain ⟨m1, m2, m3⟩ := hd_
      have ja : i10.toInt = ((d : Nat) : Int) := by omega
      have jr : i9.toInt = ((d + 1 : Nat) : Int) := by omega
      refine stp (fun _ => XS.iload X.here hx rfl (hb hby d21_58) rfl) ?_
      refine stp (fun _ => XS.ifNo X.here hx rfl (hb hby d21_60) rfl (XT.i0_lt_f (own_u0 ja))) ?_
      refine stp (fun _ => XS.aloadN X.here hx rfl (hb hby d21_63) rfl rfl) ?_
      refine stp (fun _ => XS.iload X.here hx rfl (hb hby d21_64) rfl) ?_
      show Go p e below T (mkF m 66 #[(sR a), (sI y), (sI (1 : Int32)), (sI (Int32.ofNat n)), (sR b25), (sJ cy), .second, (sJ ((y.toInt64) &&& (4294967295 : Int64))), .second, (sI i9), (sI i10), s11, s12] [(.int i10), (.ref a)]) _
      obtain ⟨cl64, Ar64, q64, S64, H64, G64⟩ := (id FA0)
      have in64 : ¬ (i10 < 0 ∨ cl64.slots.size ≤ (i10).toNatClampNeg) := arf_in S64 ja (by omega)
      have at64 : cl64.slots[(i10).toNatClampNeg]? = some (.int (f d)) := arf_at H64 ja (by omega)
      refine stp (fun _ => X.iaload hx (j := i10) (v := (.int (f d))) (by rw [eA]; exact Ar64.1) (State.isArrayOf_alike hZ.alike Ar64.2.1) Ar64.2.2 in64 at64 (g := (mkF m 66 #[(sR a), (sI y), (sI (1 : Int32)), (sI (Int32.ofNat n)), (sR b25), (sJ cy), .second, (sJ ((y.toInt64) &&& (4294967295 : Int64))), .second, (sI i9), (sI i10), s11, s12] [(.int i10), (.ref a)])) rfl rfl (hb hby d21_66) _) ?_
      refine stp (fun _ => XS.i2l X.here hx rfl (hb hby d21_67) rfl) ?_
      refine stp (fun _ => X.ldc2Long hx hown (mvT hZ (w_ hw (i := 161) rfl)) (g := (mkF m 68 #[(sR a), (sI y), (sI (1 : Int32)), (sI (Int32.ofNat n)), (sR b25), (sJ cy), .second, (sJ ((y.toInt64) &&& (4294967295 : Int64))), .second, (sI i9), (sI i10), s11, s12] [(.long ((f d).toInt64))])) rfl (hb hby d21_68) _) ?_
      refine stp (fun _ => XS.land X.here hx rfl (hb hby d21_71) rfl) ?_
      refine stp (fun _ => XS.lload X.here hx rfl (hb hby d21_72) rfl) ?_
      show Go p e below T (mkF m 74 #[(sR a), (sI y), (sI (1 : Int32)), (sI (Int32.ofNat n)), (sR b25), (sJ cy), .second, (sJ ((y.toInt64) &&& (4294967295 : Int64))), .second, (sI i9), (sI i10), s11, s12] [(.long ((y.toInt64) &&& (4294967295 : Int64))), (.long (((f d).toInt64) &&& (4294967295 : Int64)))]) _
      refine stp (fun _ => XS.lmul X.here hx rfl (hb hby d21_74) rfl) ?_
      refine stp (fun _ => XS.lload X.here hx rfl (hb hby d21_75) rfl) ?_
      refine stp (fun _ => XS.ladd X.here hx rfl (hb hby d21_77) rfl) ?_
      refine stp (fun _ => XS.lstore X.here hx rfl (hb hby d21_78) rfl (l' := #[(sR a), (sI y), (sI (1 : Int32)), (sI (Int32.ofNat n)), (sR b25), (sJ cy), .second, (sJ ((y.toInt64) &&& (4294967295 : Int64))), .second, (sI i9), (sI i10), (sJ (((((f d).toInt64) &&& (4294967295 : Int64)) * ((y.toInt64) &&& (4294967295 : Int64))) + cy)), .second]) (by rcases hs with ⟨e1, e2, -⟩ | ⟨v, e1, e2⟩ <;> subst e1 e2 <;> rfl)) ?_
      refine stp (fun _ => XS.aload X.here hx rfl (hb hby d21_80) rfl rfl) ?_
      show Go p e below T (mkF m 82 #[(sR a), (sI y), (sI (1 : Int32)), (sI (Int32.ofNat n)), (sR b25), (sJ cy), .second, (sJ ((y.toInt64) &&& (4294967295 : Int64))), .second, (sI i9), (sI i10), (sJ (((((f d).toInt64) &&& (4294967295 : Int64)) * ((y.toInt64) &&& (4294967295 : Int64))) + cy)), .second] [(.ref b25)]) _
      refine stp (fun _ => XS.iload X.here hx rfl (hb hby d21_82) rfl) ?_
      refine stp (fun _ => XS.iinc X.here hx rfl (hb hby d21_84) rfl (l' := #[(sR a), (sI y), (sI (1 : Int32)), (sI (Int32.ofNat n)), (sR b25), (sJ cy), .second, (sJ ((y.toInt64) &&& (4294967295 : Int64))), .second, (sI (i9 + (-1 : Int32))), (sI i10), (sJ (((((f d).toInt64) &&& (4294967295 : Int64)) * ((y.toInt64) &&& (4294967295 : Int64))) + cy)), .second]) rfl) ?_
      refine stp (fun _ => XS.lload X.here hx rfl (hb hby d21_87) rfl) ?_
      refine stp (fun _ => XS.l2i X.here hx rfl (hb hby d21_89) rfl) ?_
      obtain ⟨cl65, Ar65, q65, S65, H65, G65⟩ := (id FA1)
      have in65 : ¬ (i9 < 0 ∨ cl65.slots.size ≤ (i9).toNatClampNeg) := arf_in S65 jr (by omega)
      obtain ⟨T65, h65, X65, e65, W65, st65⟩ := stI X hx hZ eA Ar65 (j := i9) in65 (g := (mkF m 90 #[(sR a), (sI y), (sI (1 : Int32)), (sI (Int32.ofNat n)), (sR b25), (sJ cy), .second, (sJ ((y.toInt64) &&& (4294967295 : Int64))), .second, (sI (i9 + (-1 : Int32))), (sI i10), (sJ (((((f d).toInt64) &&& (4294967295 : Int64)) * ((y.toInt64) &&& (4294967295 : Int64))) + cy)), .second] [(.int ((((((f d).toInt64) &&& (4294967295 : Int64)) * ((y.toInt64) &&& (4294967295 : Int64))) + cy).toInt32)), (.int i9), (.ref b25)])) rfl rfl (hb hby d21_90)
      have V65 := Arf.set Ar65 q65 S65 H65 G65 rfl (arf_ix jr ▸ W65) (by omega)
      replace V65 : Arf Z h65 b25 k25 .int (n + 1) (fun x => (.int (if x = (d + 1) then ((((((f d).toInt64) &&& (4294967295 : Int64)) * ((y.toInt64) &&& (4294967295 : Int64))) + cy).toInt32) else (gg x)))) := V65.congr (fun x _ => by split <;> rfl)
      have f66 := FA0.other W65 ne26
      have K65 : Keep h0 h65 [] := KA.wr W65 (Or.inr sz_b25)
      have O65 := OA.wr W65 ge_b25
      have N65 := Fr.snoc X65 NA ge_b25
      refine stp st65 ?_
      show Go p e below T65 (mkF m 91 #[(sR a), (sI y), (sI (1 : Int32)), (sI (Int32.ofNat n)), (sR b25), (sJ cy), .second, (sJ ((y.toInt64) &&& (4294967295 : Int64))), .second, (sI (i9 + (-1 : Int32))), (sI i10), (sJ (((((f d).toInt64) &&& (4294967295 : Int64)) * ((y.toInt64) &&& (4294967295 : Int64))) + cy)), .second] []) _
      refine stp (fun _ => XS.lload X65.here hx rfl (hb hby d21_91) rfl) ?_
      refine stp (fun _ => XS.bipush X65.here hx rfl (hb hby d21_93)) ?_
      refine stp (fun _ => XS.lushr X65.here hx rfl (hb hby d21_95) rfl) ?_
      refine stp (fun _ => XS.lstore X65.here hx rfl (hb hby d21_96) rfl (l' := #[(sR a), (sI y), (sI (1 : Int32)), (sI (Int32.ofNat n)), (sR b25), (sJ (((((((f d).toInt64) &&& (4294967295 : Int64)) * ((y.toInt64) &&& (4294967295 : Int64))) + cy).toUInt64 >>> ((32 : Int32) &&& 0x3f).toInt64.toUInt64).toInt64)), .second, (sJ ((y.toInt64) &&& (4294967295 : Int64))), .second, (sI (i9 + (-1 : Int32))), (sI i10), (sJ (((((f d).toInt64) &&& (4294967295 : Int64)) * ((y.toInt64) &&& (4294967295 : Int64))) + cy)), .second]) rfl) ?_
      refine stp (fun _ => XS.iinc X65.here hx rfl (hb hby d21_98) rfl (l' := #[(sR a), (sI y), (sI (1 : Int32)), (sI (Int32.ofNat n)), (sR b25), (sJ (((((((f d).toInt64) &&& (4294967295 : Int64)) * ((y.toInt64) &&& (4294967295 : Int64))) + cy).toUInt64 >>> ((32 : Int32) &&& 0x3f).toInt64.toUInt64).toInt64)), .second, (sJ ((y.toInt64) &&& (4294967295 : Int64))), .second, (sI (i9 + (-1 : Int32))), (sI (i10 + (-1 : Int32))), (sJ (((((f d).toInt64) &&& (4294967295 : Int64)) * ((y.toInt64) &&& (4294967295 : Int64))) + cy)), .second]) rfl) ?_
      show Go p e below T65 (mkF m 101 #[(sR a), (sI y), (sI (1 : Int32)), (sI (Int32.ofNat n)), (sR b25), (sJ (((((((f d).toInt64) &&& (4294967295 : Int64)) * ((y.toInt64) &&& (4294967295 : Int64))) + cy).toUInt64 >>> ((32 : Int32) &&& 0x3f).toInt64.toUInt64).toInt64)), .second, (sJ ((y.toInt64) &&& (4294967295 : Int64))), .second, (sI (i9 + (-1 : Int32))), (sI (i10 + (-1 : Int32))), (sJ (((((f d).toInt64) &&& (4294967295 : Int64)) * ((y.toInt64) &&& (4294967295 : Int64))) + cy)), .second] []) _
      refine stp (fun _ => XS.goto X65.here hx rfl (pc0 := 101) (pc' := 58) rfl (hb hby d21_101) (by decide) (by decide)) ?_
      show Go p e below T65 (mkF m 58 #[(sR a), (sI y), (sI (1 : Int32)), (sI (Int32.ofNat n)), (sR b25), (sJ (((((((f d).toInt64) &&& (4294967295 : Int64)) * ((y.toInt64) &&& (4294967295 : Int64))) + cy).toUInt64 >>> ((32 : Int32) &&& 0x3f).toInt64.toUInt64).toInt64)), .second, (sJ ((y.toInt64) &&& (4294967295 : Int64))), .second, (sI (i9 + (-1 : Int32))), (sI (i10 + (-1 : Int32))), (sJ (((((f d).toInt64) &&& (4294967295 : Int64)) * ((y.toInt64) &&& (4294967295 : Int64))) + cy)), .second] []) _
      exact ih (i10 + (-1 : Int32)) (i9 + (-1 : Int32)) (((((((f d).toInt64) &&& (4294967295 : Int64)) * ((y.toInt64) &&& (4294967295 : Int64))) + cy).toUInt64 >>> ((32 : Int32) &&& 0x3f).toInt64.toUInt64).toInt64) _ ((sJ (((((f d).toInt64) &&& (4294967295 : Int64)) * ((y.toInt64) &&& (4294967295 : Int64))) + cy))) (.second) ⟨by omega, own_dec ja (by omega), own_dec1 jr (by omega)⟩ T65 _ h65 X65 e65 N65 O65 K65 f66 V65 (Or.inr ⟨_, rfl, rfl⟩)
  exact loop58 n ((Int32.ofNat n) - (1 : Int32)) ((Int32.ofNat (n + 1)) - (1 : Int32)) (0 : Int64) (fun _ => (0 : Int32)) .unset .unset ⟨Nat.le_refl _, own_i9 (own_nI (k := n) (by omega)) hp (by omega), own_np1 (by omega)⟩ T25 _ h25 X25 e25 N1 O25 K25 f27 V25 (Or.inl ⟨rfl, rfl, rfl⟩)
abbrev B20 : ByteArray := jdk_2097_method_42_code
theorem d20_0 : Dc B20 0 (.aload_n 1) 1 := by decide +kernel
theorem d20_1 : Dc B20 1 (.getfield 32) 3 := by decide +kernel
theorem d20_4 : Dc B20 4 (.ifCond .eq 10) 3 := by decide +kernel
theorem d20_14 : Dc B20 14 (.getstatic 22) 3 := by decide +kernel
theorem d20_17 : Dc B20 17 (.areturn) 1 := by decide +kernel
theorem d20_7 : Dc B20 7 (.aload_n 0) 1 := by decide +kernel
theorem d20_8 : Dc B20 8 (.getfield 32) 3 := by decide +kernel
theorem d20_11 : Dc B20 11 (.ifCond .ne 7) 3 := by decide +kernel
theorem d20_18 : Dc B20 18 (.aload_n 0) 1 := by decide +kernel
theorem d20_19 : Dc B20 19 (.getfield 28) 3 := by decide +kernel
theorem d20_22 : Dc B20 22 (.arraylength) 1 := by decide +kernel
theorem d20_23 : Dc B20 23 (.istore 5) 2 := by decide +kernel
theorem d20_46 : Dc B20 46 (.aload_n 1) 1 := by decide +kernel
theorem d20_47 : Dc B20 47 (.getfield 28) 3 := by decide +kernel
theorem d20_50 : Dc B20 50 (.arraylength) 1 := by decide +kernel
theorem d20_51 : Dc B20 51 (.istore 6) 2 := by decide +kernel
theorem d20_53 : Dc B20 53 (.iload 5) 2 := by decide +kernel
theorem d20_55 : Dc B20 55 (.bipush 80) 2 := by decide +kernel
theorem d20_57 : Dc B20 57 (.if_icmp .lt 10) 3 := by decide +kernel
theorem d20_67 : Dc B20 67 (.aload_n 0) 1 := by decide +kernel
theorem d20_68 : Dc B20 68 (.getfield 32) 3 := by decide +kernel
theorem d20_71 : Dc B20 71 (.aload_n 1) 1 := by decide +kernel
theorem d20_72 : Dc B20 72 (.getfield 32) 3 := by decide +kernel
theorem d20_75 : Dc B20 75 (.if_icmp .ne 7) 3 := by decide +kernel
theorem d20_78 : Dc B20 78 (.iconst 1) 1 := by decide +kernel
theorem d20_79 : Dc B20 79 (.goto 4) 3 := by decide +kernel
theorem d20_83 : Dc B20 83 (.istore 7) 2 := by decide +kernel
theorem d20_85 : Dc B20 85 (.aload_n 1) 1 := by decide +kernel
theorem d20_86 : Dc B20 86 (.getfield 28) 3 := by decide +kernel
theorem d20_89 : Dc B20 89 (.arraylength) 1 := by decide +kernel
theorem d20_90 : Dc B20 90 (.iconst 1) 1 := by decide +kernel
theorem d20_91 : Dc B20 91 (.if_icmp .ne 19) 3 := by decide +kernel
theorem d20_94 : Dc B20 94 (.aload_n 0) 1 := by decide +kernel
theorem d20_95 : Dc B20 95 (.getfield 28) 3 := by decide +kernel
theorem d20_98 : Dc B20 98 (.aload_n 1) 1 := by decide +kernel
theorem d20_99 : Dc B20 99 (.getfield 28) 3 := by decide +kernel
theorem d20_102 : Dc B20 102 (.iconst 0) 1 := by decide +kernel
theorem d20_103 : Dc B20 103 (.iaload) 1 := by decide +kernel
theorem d20_104 : Dc B20 104 (.iload 7) 2 := by decide +kernel
theorem d20_106 : Dc B20 106 (.invokestatic 403) 3 := by decide +kernel
theorem pd_12 : parseMethodDescriptor "([III)Ljava/math/BigInteger;" = some ⟨[(.array .int), .int, .int], some (.object "java/math/BigInteger")⟩ := by decide +kernel
theorem d20_109 : Dc B20 109 (.areturn) 1 := by decide +kernel
theorem d20_110 : Dc B20 110 (.aload_n 0) 1 := by decide +kernel
theorem d20_111 : Dc B20 111 (.getfield 28) 3 := by decide +kernel
theorem d20_114 : Dc B20 114 (.arraylength) 1 := by decide +kernel
theorem d20_115 : Dc B20 115 (.iconst 1) 1 := by decide +kernel
theorem d20_116 : Dc B20 116 (.if_icmp .ne 19) 3 := by decide +kernel
theorem d20_119 : Dc B20 119 (.aload_n 1) 1 := by decide +kernel
theorem d20_120 : Dc B20 120 (.getfield 28) 3 := by decide +kernel
theorem d20_123 : Dc B20 123 (.aload_n 0) 1 := by decide +kernel
theorem d20_124 : Dc B20 124 (.getfield 28) 3 := by decide +kernel
theorem d20_127 : Dc B20 127 (.iconst 0) 1 := by decide +kernel
theorem d20_128 : Dc B20 128 (.iaload) 1 := by decide +kernel
theorem d20_129 : Dc B20 129 (.iload 7) 2 := by decide +kernel
theorem d20_131 : Dc B20 131 (.invokestatic 403) 3 := by decide +kernel
theorem d20_134 : Dc B20 134 (.areturn) 1 := by decide +kernel
theorem d20_135 : Dc B20 135 (.aload_n 0) 1 := by decide +kernel
theorem d20_136 : Dc B20 136 (.getfield 28) 3 := by decide +kernel
theorem d20_139 : Dc B20 139 (.iload 5) 2 := by decide +kernel
theorem d20_141 : Dc B20 141 (.aload_n 1) 1 := by decide +kernel
theorem d20_142 : Dc B20 142 (.getfield 28) 3 := by decide +kernel
theorem d20_145 : Dc B20 145 (.iload 6) 2 := by decide +kernel
theorem d20_147 : Dc B20 147 (.aconst_null) 1 := by decide +kernel
theorem d20_148 : Dc B20 148 (.invokestatic 407) 3 := by decide +kernel
theorem d20_151 : Dc B20 151 (.astore 8) 2 := by decide +kernel
theorem d20_153 : Dc B20 153 (.aload 8) 2 := by decide +kernel
theorem d20_155 : Dc B20 155 (.invokestatic 53) 3 := by decide +kernel
theorem pd_13 : parseMethodDescriptor "([I)[I" = some ⟨[(.array .int)], some (.array .int)⟩ := by decide +kernel
theorem d20_158 : Dc B20 158 (.astore 8) 2 := by decide +kernel
theorem d20_160 : Dc B20 160 (.new 23) 3 := by decide +kernel
theorem d20_163 : Dc B20 163 (.dup) 1 := by decide +kernel
theorem d20_164 : Dc B20 164 (.aload 8) 2 := by decide +kernel
theorem d20_166 : Dc B20 166 (.iload 7) 2 := by decide +kernel
theorem d20_168 : Dc B20 168 (.invokespecial 175) 3 := by decide +kernel
theorem d20_171 : Dc B20 171 (.areturn) 1 := by decide +kernel
theorem d20_25 : Dc B20 25 (.aload_n 1) 1 := by decide +kernel
theorem d20_26 : Dc B20 26 (.aload_n 0) 1 := by decide +kernel
theorem d20_27 : Dc B20 27 (.if_acmp .ne 19) 3 := by decide +kernel
theorem d20_30 : Dc B20 30 (.iload 5) 2 := by decide +kernel
theorem d20_32 : Dc B20 32 (.bipush 20) 2 := by decide +kernel
theorem d20_34 : Dc B20 34 (.if_icmp .le 12) 3 := by decide +kernel
theorem ef_rm_mul5 (m : MethodId) (t : Addr) (v : Addr)  : entryFrame m #[(.ref t), (.ref v), (.int (0 : Int32)), (.int (0 : Int32)), (.int (0 : Int32))] 9 = mkF m 0 #[(sR t), (sR v), (sI (0 : Int32)), (sI (0 : Int32)), (sI (0 : Int32)), .unset, .unset, .unset, .unset] [] := by first | (simp [entryFrame, mkF, argsToLocals, Value.category]; done) | rfl
def Q_rm_mul5 (Z : State) (t : Addr) (v : Addr) (N1 : Nat) (N2 : Nat) (z0 : Addr) (h0 : Heap) (n0 : Nat) (v : Option Value) (h : Heap) (L : List Loc) : Prop := ∃ (r : Addr), v = some (.ref r) ∧ Fr n0 L ∧ Keep h0 h [] ∧ BigOk Z h r (N1 + N2 + 1)
theorem pn_18_ : plainName "java/math/BigInteger" = true := by first | (simp [plainName, overriddenIn]; done) | decide +kernel
theorem pn_18 : plainFor (⟨"java/math/BigInteger", "multiply", "(Ljava/math/BigInteger;ZZI)Ljava/math/BigInteger;"⟩ : MethodName) = true := plainFor_of_name pn_18_
set_option maxRecDepth 65536 in
set_option maxHeartbeats 40000000 in
theorem rm_mul5 (l : Launch) (Z : State) (a0 : Array Value) (hw : ∀ d ∈ tables_1, d.before a0 Z = true) (ws : List Jvm.Cond) (t : Addr) (v : Addr) (N1 : Nat) (N2 : Nat) (z0 : Addr) (h0 : Heap) (n0 : Nat) (O0 : Old Z n0 h0) (Q_t : BigOk Z h0 t N1) (Q_v : BigOk Z h0 v N2) (S_ZERO : Sta Z Z.heap "java/math/BigInteger" "ZERO" "Ljava/math/BigInteger;" (.ref z0)) (Q_z0 : BigOk Z Z.heap z0 0) (hNN : N1 + N2 ≤ 20) :
    MetFree l (⟨"java/math/BigInteger", "multiply", "(Ljava/math/BigInteger;ZZI)Ljava/math/BigInteger;"⟩ : MethodName) (head1 (Jvm.Cond.code (⟨"java/math/BigInteger", "multiply", "(Ljava/math/BigInteger;ZZI)Ljava/math/BigInteger;"⟩ : MethodName) jdk_2097_method_42_code 9 (some (.object "java/math/BigInteger")) :: ws) ({ frames := 4, cells := 3, slots := 55, locals := 76 } : Room)) (fun args_ U => args_ = #[(.ref t), (.ref v), (.int (0 : Int32)), (.int (0 : Int32)), (.int (0 : Int32))] ∧ Z.Warmed39 U.vm ∧ U.heap = h0) (fun _ _ _ _ _ => True) (fun _ U out_ U' => ∃ val_ loc_, out_ = .returned val_ ∧ (Q_rm_mul5 Z t v N1 N2 z0 h0 n0) val_ U'.heap loc_ ∧ FrameEnd U out_ U' loc_ ({ frames := 4, cells := 3, slots := 55, locals := 76 } : Room).cells ({ frames := 4, cells := 3, slots := 55, locals := 76 } : Room).slots) := by
  refine start (Q := (Q_rm_mul5 Z t v N1 N2 z0 h0 n0)) pn_18 ?_
  intro p e s m below meth c T0 X0 hx hby hml hown hnm hret hlk hZ e0
  replace hown : s.vm.findClass "java/math/BigInteger" = some m.cls := hown
  replace hml : c.maxLocals = 9 := hml
  refine goAt (ef_rm_mul5 m t v ) ?_
  have N0 := Fr.nil n0
  obtain ⟨ta, tk, tn, tf, ts, E_t, Fs_t, Fm_t, V_t, hN_t, hH_t, hc_t⟩ := (id Q_t)
  obtain ⟨va, vk, vn, vf, vs, E_v, Fs_v, Fm_v, V_v, hN_v, hH_v, hc_v⟩ := (id Q_v)
  show Go p e below T0 (mkF m 0 #[(sR t), (sR v), (sI (0 : Int32)), (sI (0 : Int32)), (sI (0 : Int32)), .unset, .unset, .unset, .unset] []) _
  rcases hc_v with ⟨e1, e2⟩ | ⟨e1, hp_v⟩
  · subst e1
    rcases hc_t with ⟨e1, e2⟩ | ⟨e1, hp_t⟩
    · subst e1
      refine stp (fun _ => XS.aloadN X0.here hx rfl (hb hby d20_0) rfl rfl) ?_
      obtain ⟨T1, X1, e1, st1⟩ := getF X0 hx hZ hown (host := "") (Or.inl (w_ hw (i := 134) rfl)) Via.refl e0 Fs_v (g := (mkF m 1 #[(sR t), (sR v), (sI (0 : Int32)), (sI (0 : Int32)), (sI (0 : Int32)), .unset, .unset, .unset, .unset] [(.ref v)])) rfl rfl (hb hby d20_1)
      refine stp st1 ?_
      refine stp (fun _ => XS.ifYes X1.here hx rfl (pc0 := 4) (pc' := 14) rfl (hb hby d20_4) rfl (by decide) (by decide) (by decide)) ?_
      obtain ⟨T2, X2, e2, st2⟩ := getS2 X1 hx hZ hown (host := "") (Or.inl (w_ hw (i := 174) rfl)) Via.refl e1 (S_ZERO.ext O0.2) (g := (mkF m 14 #[(sR t), (sR v), (sI (0 : Int32)), (sI (0 : Int32)), (sI (0 : Int32)), .unset, .unset, .unset, .unset] [])) rfl (hb hby d20_14)
      refine stp st2 ?_
      show Go p e below T2 (mkF m 17 #[(sR t), (sR v), (sI (0 : Int32)), (sI (0 : Int32)), (sI (0 : Int32)), .unset, .unset, .unset, .unset] [(.ref z0)]) _
      refine outA X2 hx hret rfl rfl (hb hby d20_17) hlk (by decide) (by decide) ?_
      rw [e2]
      exact ⟨z0, rfl, N0, (Keep.refl h0 []), (BigOk.mono (Q_z0.ext O0.2) (by omega))⟩
    · subst e1
      refine stp (fun _ => XS.aloadN X0.here hx rfl (hb hby d20_0) rfl rfl) ?_
      obtain ⟨T3, X3, e3, st3⟩ := getF X0 hx hZ hown (host := "") (Or.inl (w_ hw (i := 134) rfl)) Via.refl e0 Fs_v (g := (mkF m 1 #[(sR t), (sR v), (sI (0 : Int32)), (sI (0 : Int32)), (sI (0 : Int32)), .unset, .unset, .unset, .unset] [(.ref v)])) rfl rfl (hb hby d20_1)
      refine stp st3 ?_
      refine stp (fun _ => XS.ifYes X3.here hx rfl (pc0 := 4) (pc' := 14) rfl (hb hby d20_4) rfl (by decide) (by decide) (by decide)) ?_
      obtain ⟨T4, X4, e4, st4⟩ := getS2 X3 hx hZ hown (host := "") (Or.inl (w_ hw (i := 174) rfl)) Via.refl e3 (S_ZERO.ext O0.2) (g := (mkF m 14 #[(sR t), (sR v), (sI (0 : Int32)), (sI (0 : Int32)), (sI (0 : Int32)), .unset, .unset, .unset, .unset] [])) rfl (hb hby d20_14)
      refine stp st4 ?_
      show Go p e below T4 (mkF m 17 #[(sR t), (sR v), (sI (0 : Int32)), (sI (0 : Int32)), (sI (0 : Int32)), .unset, .unset, .unset, .unset] [(.ref z0)]) _
      refine outA X4 hx hret rfl rfl (hb hby d20_17) hlk (by decide) (by decide) ?_
      rw [e4]
      exact ⟨z0, rfl, N0, (Keep.refl h0 []), (BigOk.mono (Q_z0.ext O0.2) (by omega))⟩
  · subst e1
    rcases hc_t with ⟨e1, e2⟩ | ⟨e1, hp_t⟩
    · subst e1
      refine stp (fun _ => XS.aloadN X0.here hx rfl (hb hby d20_0) rfl rfl) ?_
      obtain ⟨T5, X5, e5, st5⟩ := getF X0 hx hZ hown (host := "") (Or.inl (w_ hw (i := 134) rfl)) Via.refl e0 Fs_v (g := (mkF m 1 #[(sR t), (sR v), (sI (0 : Int32)), (sI (0 : Int32)), (sI (0 : Int32)), .unset, .unset, .unset, .unset] [(.ref v)])) rfl rfl (hb hby d20_1)
      refine stp st5 ?_
      refine stp (fun _ => XS.ifNo X5.here hx rfl (hb hby d20_4) rfl (by decide)) ?_
      refine stp (fun _ => XS.aloadN X5.here hx rfl (hb hby d20_7) rfl rfl) ?_
      show Go p e below T5 (mkF m 8 #[(sR t), (sR v), (sI (0 : Int32)), (sI (0 : Int32)), (sI (0 : Int32)), .unset, .unset, .unset, .unset] [(.ref t)]) _
      obtain ⟨T6, X6, e6, st6⟩ := getF X5 hx hZ hown (host := "") (Or.inl (w_ hw (i := 134) rfl)) Via.refl e5 Fs_t (g := (mkF m 8 #[(sR t), (sR v), (sI (0 : Int32)), (sI (0 : Int32)), (sI (0 : Int32)), .unset, .unset, .unset, .unset] [(.ref t)])) rfl rfl (hb hby d20_8)
      refine stp st6 ?_
      refine stp (fun _ => XS.ifNo X6.here hx rfl (hb hby d20_11) rfl (by decide)) ?_
      obtain ⟨T7, X7, e7, st7⟩ := getS2 X6 hx hZ hown (host := "") (Or.inl (w_ hw (i := 174) rfl)) Via.refl e6 (S_ZERO.ext O0.2) (g := (mkF m 14 #[(sR t), (sR v), (sI (0 : Int32)), (sI (0 : Int32)), (sI (0 : Int32)), .unset, .unset, .unset, .unset] [])) rfl (hb hby d20_14)
      refine stp st7 ?_
      refine outA X7 hx hret rfl rfl (hb hby d20_17) hlk (by decide) (by decide) ?_
      rw [e7]
      exact ⟨z0, rfl, N0, (Keep.refl h0 []), (BigOk.mono (Q_z0.ext O0.2) (by omega))⟩
    · subst e1
      refine stp (fun _ => XS.aloadN X0.here hx rfl (hb hby d20_0) rfl rfl) ?_
      obtain ⟨T8, X8, e8, st8⟩ := getF X0 hx hZ hown (host := "") (Or.inl (w_ hw (i := 134) rfl)) Via.refl e0 Fs_v (g := (mkF m 1 #[(sR t), (sR v), (sI (0 : Int32)), (sI (0 : Int32)), (sI (0 : Int32)), .unset, .unset, .unset, .unset] [(.ref v)])) rfl rfl (hb hby d20_1)
      refine stp st8 ?_
      refine stp (fun _ => XS.ifNo X8.here hx rfl (hb hby d20_4) rfl (by decide)) ?_
      refine stp (fun _ => XS.aloadN X8.here hx rfl (hb hby d20_7) rfl rfl) ?_
      show Go p e below T8 (mkF m 8 #[(sR t), (sR v), (sI (0 : Int32)), (sI (0 : Int32)), (sI (0 : Int32)), .unset, .unset, .unset, .unset] [(.ref t)]) _
      obtain ⟨T9, X9, e9, st9⟩ := getF X8 hx hZ hown (host := "") (Or.inl (w_ hw (i := 134) rfl)) Via.refl e8 Fs_t (g := (mkF m 8 #[(sR t), (sR v), (sI (0 : Int32)), (sI (0 : Int32)), (sI (0 : Int32)), .unset, .unset, .unset, .unset] [(.ref t)])) rfl rfl (hb hby d20_8)
      refine stp st9 ?_
      refine stp (fun _ => XS.ifYes X9.here hx rfl (pc0 := 11) (pc' := 18) rfl (hb hby d20_11) rfl (by decide) (by decide) (by decide)) ?_
      refine stp (fun _ => XS.aloadN X9.here hx rfl (hb hby d20_18) rfl rfl) ?_
      obtain ⟨T10, X10, e10, st10⟩ := getF X9 hx hZ hown (host := "") (Or.inl (w_ hw (i := 137) rfl)) Via.refl e9 Fm_t (g := (mkF m 19 #[(sR t), (sR v), (sI (0 : Int32)), (sI (0 : Int32)), (sI (0 : Int32)), .unset, .unset, .unset, .unset] [(.ref t)])) rfl rfl (hb hby d20_19)
      refine stp st10 ?_
      obtain ⟨cl11, Ar11, -, S11, -, -⟩ := (id V_t)
      refine stp (fun _ => X10.arraylength hx (by rw [e10]; exact Ar11.1) (State.isArrayOf_alike hZ.alike Ar11.2.1) (g := (mkF m 22 #[(sR t), (sR v), (sI (0 : Int32)), (sI (0 : Int32)), (sI (0 : Int32)), .unset, .unset, .unset, .unset] [(.ref ta)])) rfl rfl (hb hby d20_22) _) ?_
      rw [arf_len S11 (z := (Int32.ofNat tn)) (own_nI hH_t)]
      show Go p e below T10 (mkF m 23 #[(sR t), (sR v), (sI (0 : Int32)), (sI (0 : Int32)), (sI (0 : Int32)), .unset, .unset, .unset, .unset] [(.int (Int32.ofNat tn))]) _
      refine stp (fun _ => XS.istore X10.here hx rfl (hb hby d20_23) rfl (l' := #[(sR t), (sR v), (sI (0 : Int32)), (sI (0 : Int32)), (sI (0 : Int32)), (sI (Int32.ofNat tn)), .unset, .unset, .unset]) rfl) ?_
      show Go p e below T10 (mkF m 25 #[(sR t), (sR v), (sI (0 : Int32)), (sI (0 : Int32)), (sI (0 : Int32)), (sI (Int32.ofNat tn)), .unset, .unset, .unset] []) _
      have J46 : True → Go p e below T10 (mkF m 46 #[(sR t), (sR v), (sI (0 : Int32)), (sI (0 : Int32)), (sI (0 : Int32)), (sI (Int32.ofNat tn)), .unset, .unset, .unset] []) (Po s (Q_rm_mul5 Z t v N1 N2 z0 h0 n0) ({ frames := 4, cells := 3, slots := 55, locals := 76 } : Room).cells ({ frames := 4, cells := 3, slots := 55, locals := 76 } : Room).slots) := by
        intro  hj
        refine stp (fun _ => XS.aloadN X10.here hx rfl (hb hby d20_46) rfl rfl) ?_
        obtain ⟨T12, X12, e12, st12⟩ := getF X10 hx hZ hown (host := "") (Or.inl (w_ hw (i := 137) rfl)) Via.refl e10 Fm_v (g := (mkF m 47 #[(sR t), (sR v), (sI (0 : Int32)), (sI (0 : Int32)), (sI (0 : Int32)), (sI (Int32.ofNat tn)), .unset, .unset, .unset] [(.ref v)])) rfl rfl (hb hby d20_47)
        refine stp st12 ?_
        obtain ⟨cl13, Ar13, -, S13, -, -⟩ := (id V_v)
        refine stp (fun _ => X12.arraylength hx (by rw [e12]; exact Ar13.1) (State.isArrayOf_alike hZ.alike Ar13.2.1) (g := (mkF m 50 #[(sR t), (sR v), (sI (0 : Int32)), (sI (0 : Int32)), (sI (0 : Int32)), (sI (Int32.ofNat tn)), .unset, .unset, .unset] [(.ref va)])) rfl rfl (hb hby d20_50) _) ?_
        rw [arf_len S13 (z := (Int32.ofNat vn)) (own_nI hH_v)]
        refine stp (fun _ => XS.istore X12.here hx rfl (hb hby d20_51) rfl (l' := #[(sR t), (sR v), (sI (0 : Int32)), (sI (0 : Int32)), (sI (0 : Int32)), (sI (Int32.ofNat tn)), (sI (Int32.ofNat vn)), .unset, .unset]) rfl) ?_
        show Go p e below T12 (mkF m 53 #[(sR t), (sR v), (sI (0 : Int32)), (sI (0 : Int32)), (sI (0 : Int32)), (sI (Int32.ofNat tn)), (sI (Int32.ofNat vn)), .unset, .unset] []) _
        refine stp (fun _ => XS.iload X12.here hx rfl (hb hby d20_53) rfl) ?_
        refine stp (fun _ => XS.bipush X12.here hx rfl (hb hby d20_55)) ?_
        refine stp (fun _ => XS.icmpYes X12.here hx rfl (pc0 := 57) (pc' := 67) rfl (hb hby d20_57) rfl (XT.ii_lt_t (own_lt80 (by omega))) (by decide) (by decide)) ?_
        refine stp (fun _ => XS.aloadN X12.here hx rfl (hb hby d20_67) rfl rfl) ?_
        obtain ⟨T14, X14, e14, st14⟩ := getF X12 hx hZ hown (host := "") (Or.inl (w_ hw (i := 134) rfl)) Via.refl e12 Fs_t (g := (mkF m 68 #[(sR t), (sR v), (sI (0 : Int32)), (sI (0 : Int32)), (sI (0 : Int32)), (sI (Int32.ofNat tn)), (sI (Int32.ofNat vn)), .unset, .unset] [(.ref t)])) rfl rfl (hb hby d20_68)
        refine stp st14 ?_
        show Go p e below T14 (mkF m 71 #[(sR t), (sR v), (sI (0 : Int32)), (sI (0 : Int32)), (sI (0 : Int32)), (sI (Int32.ofNat tn)), (sI (Int32.ofNat vn)), .unset, .unset] [(.int (1 : Int32))]) _
        refine stp (fun _ => XS.aloadN X14.here hx rfl (hb hby d20_71) rfl rfl) ?_
        obtain ⟨T15, X15, e15, st15⟩ := getF X14 hx hZ hown (host := "") (Or.inl (w_ hw (i := 134) rfl)) Via.refl e14 Fs_v (g := (mkF m 72 #[(sR t), (sR v), (sI (0 : Int32)), (sI (0 : Int32)), (sI (0 : Int32)), (sI (Int32.ofNat tn)), (sI (Int32.ofNat vn)), .unset, .unset] [(.ref v), (.int (1 : Int32))])) rfl rfl (hb hby d20_72)
        refine stp st15 ?_
        refine stp (fun _ => XS.icmpNo X15.here hx rfl (hb hby d20_75) rfl (by decide)) ?_
        refine stp (fun _ => XS.iconst X15.here hx rfl (hb hby d20_78)) ?_
        refine stp (fun _ => XS.goto X15.here hx rfl (pc0 := 79) (pc' := 83) rfl (hb hby d20_79) (by decide) (by decide)) ?_
        show Go p e below T15 (mkF m 83 #[(sR t), (sR v), (sI (0 : Int32)), (sI (0 : Int32)), (sI (0 : Int32)), (sI (Int32.ofNat tn)), (sI (Int32.ofNat vn)), .unset, .unset] [(.int (1 : Int32))]) _
        refine stp (fun _ => XS.istore X15.here hx rfl (hb hby d20_83) rfl (l' := #[(sR t), (sR v), (sI (0 : Int32)), (sI (0 : Int32)), (sI (0 : Int32)), (sI (Int32.ofNat tn)), (sI (Int32.ofNat vn)), (sI (1 : Int32)), .unset]) rfl) ?_
        refine stp (fun _ => XS.aloadN X15.here hx rfl (hb hby d20_85) rfl rfl) ?_
        obtain ⟨T16, X16, e16, st16⟩ := getF X15 hx hZ hown (host := "") (Or.inl (w_ hw (i := 137) rfl)) Via.refl e15 Fm_v (g := (mkF m 86 #[(sR t), (sR v), (sI (0 : Int32)), (sI (0 : Int32)), (sI (0 : Int32)), (sI (Int32.ofNat tn)), (sI (Int32.ofNat vn)), (sI (1 : Int32)), .unset] [(.ref v)])) rfl rfl (hb hby d20_86)
        refine stp st16 ?_
        obtain ⟨cl17, Ar17, -, S17, -, -⟩ := (id V_v)
        refine stp (fun _ => X16.arraylength hx (by rw [e16]; exact Ar17.1) (State.isArrayOf_alike hZ.alike Ar17.2.1) (g := (mkF m 89 #[(sR t), (sR v), (sI (0 : Int32)), (sI (0 : Int32)), (sI (0 : Int32)), (sI (Int32.ofNat tn)), (sI (Int32.ofNat vn)), (sI (1 : Int32)), .unset] [(.ref va)])) rfl rfl (hb hby d20_89) _) ?_
        rw [arf_len S17 (z := (Int32.ofNat vn)) (own_nI hH_v)]
        refine stp (fun _ => XS.iconst X16.here hx rfl (hb hby d20_90)) ?_
        show Go p e below T16 (mkF m 91 #[(sR t), (sR v), (sI (0 : Int32)), (sI (0 : Int32)), (sI (0 : Int32)), (sI (Int32.ofNat tn)), (sI (Int32.ofNat vn)), (sI (1 : Int32)), .unset] [(.int (1 : Int32)), (.int (Int32.ofNat vn))]) _
        by_cases q91_18 : (Int32.ofNat vn) = (1 : Int32)
        · refine stp (fun _ => XS.icmpNo X16.here hx rfl (hb hby d20_91) rfl (XT.ii_ne_f q91_18)) ?_
          refine stp (fun _ => XS.aloadN X16.here hx rfl (hb hby d20_94) rfl rfl) ?_
          obtain ⟨T19, X19, e19, st19⟩ := getF X16 hx hZ hown (host := "") (Or.inl (w_ hw (i := 137) rfl)) Via.refl e16 Fm_t (g := (mkF m 95 #[(sR t), (sR v), (sI (0 : Int32)), (sI (0 : Int32)), (sI (0 : Int32)), (sI (Int32.ofNat tn)), (sI (Int32.ofNat vn)), (sI (1 : Int32)), .unset] [(.ref t)])) rfl rfl (hb hby d20_95)
          refine stp st19 ?_
          refine stp (fun _ => XS.aloadN X19.here hx rfl (hb hby d20_98) rfl rfl) ?_
          obtain ⟨T20, X20, e20, st20⟩ := getF X19 hx hZ hown (host := "") (Or.inl (w_ hw (i := 137) rfl)) Via.refl e19 Fm_v (g := (mkF m 99 #[(sR t), (sR v), (sI (0 : Int32)), (sI (0 : Int32)), (sI (0 : Int32)), (sI (Int32.ofNat tn)), (sI (Int32.ofNat vn)), (sI (1 : Int32)), .unset] [(.ref v), (.ref ta)])) rfl rfl (hb hby d20_99)
          refine stp st20 ?_
          show Go p e below T20 (mkF m 102 #[(sR t), (sR v), (sI (0 : Int32)), (sI (0 : Int32)), (sI (0 : Int32)), (sI (Int32.ofNat tn)), (sI (Int32.ofNat vn)), (sI (1 : Int32)), .unset] [(.ref va), (.ref ta)]) _
          refine stp (fun _ => XS.iconst X20.here hx rfl (hb hby d20_102)) ?_
          obtain ⟨cl21, Ar21, q21, S21, H21, G21⟩ := (id V_v)
          have in21 : ¬ ((0 : Int32) < 0 ∨ cl21.slots.size ≤ ((0 : Int32)).toNatClampNeg) := arf_in S21 (show (0 : Int32).toInt = ((0 : Nat) : Int) from rfl) hp_v
          have at21 : cl21.slots[((0 : Int32)).toNatClampNeg]? = some (.int (vf 0)) := arf_at H21 (show (0 : Int32).toInt = ((0 : Nat) : Int) from rfl) hp_v
          refine stp (fun _ => X20.iaload hx (j := (0 : Int32)) (v := (.int (vf 0))) (by rw [e20]; exact Ar21.1) (State.isArrayOf_alike hZ.alike Ar21.2.1) Ar21.2.2 in21 at21 (g := (mkF m 103 #[(sR t), (sR v), (sI (0 : Int32)), (sI (0 : Int32)), (sI (0 : Int32)), (sI (Int32.ofNat tn)), (sI (Int32.ofNat vn)), (sI (1 : Int32)), .unset] [(.int (0 : Int32)), (.ref va), (.ref ta)])) rfl rfl (hb hby d20_103) _) ?_
          refine stp (fun _ => XS.iload X20.here hx rfl (hb hby d20_104) rfl) ?_
          obtain ⟨_, _, ⟨T22, L22, k22, n22⟩, -, X22, ⟨Lc22, hQ22, l22, y22, z22⟩, st22⟩ := Jvm.LawKit.callS X20 hx (y := (⟨"java/math/BigInteger", "multiplyByInt", "([III)Ljava/math/BigInteger;"⟩ : MethodName)) hown (mvT hZ (w_ hw (i := 151) rfl)) (mvT hZ (w_ hw (i := 152) rfl)) (mvT hZ (w_ hw (i := 118) rfl)) (mvT hZ (w_ hw (i := 153) rfl)) (by decide) (backOf (W := 0) (rm_mbi l Z a0 hw [] ta (vf 0) tn tf tk h0 n0 O0 V_t (by omega) hp_t) hZ (w_ hw (i := 153) rfl) (w_ hw (i := 118) rfl) (by decide) (by decide)) (g := (mkF m 106 #[(sR t), (sR v), (sI (0 : Int32)), (sI (0 : Int32)), (sI (0 : Int32)), (sI (Int32.ofNat tn)), (sI (Int32.ofNat vn)), (sI (1 : Int32)), .unset] [(.int (1 : Int32)), (.int (vf 0)), (.ref ta)])) rfl (by rw [hml]; rfl) (argsL := [(.ref ta), (.int (vf 0)), (.int (1 : Int32))]) (rest := []) (lenOf pd_12 rfl) rfl (by show 2 * 0 + _ ≤ _; exact Nat.le_of_eq rfl) (hb hby d20_106) (fun _ _ => ⟨rfl, e20, (by decide : 0 + 3 ≤ _), (by decide : 0 + 55 ≤ _)⟩)
          dsimp only [Pt.U, Pt.locs, Pt.cells, Pt.slots] at X22 l22 y22 z22 st22 hQ22
          subst y22 z22
          obtain ⟨r22, rfl, N22q, K22q, ⟨ge_r22, sz22_r22⟩, r22_0⟩ := hQ22
          have N22 : Fr n0 L22 := by rw [l22]; exact Fr.app N0 N22q
          have ne23 : t ≠ r22 := Nat.ne_of_lt (Nat.lt_of_lt_of_le Q_t.lt sz22_r22)
          have ne24 : ta ≠ r22 := Nat.ne_of_lt (Nat.lt_of_lt_of_le V_t.lt sz22_r22)
          have ne25 : v ≠ r22 := Nat.ne_of_lt (Nat.lt_of_lt_of_le Q_v.lt sz22_r22)
          have ne26 : va ≠ r22 := Nat.ne_of_lt (Nat.lt_of_lt_of_le V_v.lt sz22_r22)
          have ne27 : z0 ≠ r22 := O0.ne Q_z0.lt ge_r22
          have f28 := Q_t.keep K22q nin0 apart0
          have f29 := Q_v.keep K22q nin0 apart0
          have f30 := E_t.keep K22q
          have f31 := Fs_t.keep K22q nin0
          have f32 := Fm_t.keep K22q nin0
          have f33 := V_t.keep K22q nin0
          have f34 := E_v.keep K22q
          have f35 := Fs_v.keep K22q nin0
          have f36 := Fm_v.keep K22q nin0
          have f37 := V_v.keep K22q nin0
          have sz_r22 : h0.size ≤ r22 := Nat.le_trans (Keep.refl h0 []).1 sz22_r22
          have K22 : Keep h0 T22.heap [] := (Keep.refl h0 []).trans K22q all0
          have O22 := O0.keep K22q all0
          refine stp st22 ?_
          refine outA X22 hx hret rfl rfl (hb hby d20_109) hlk (by decide) (by decide) ?_
          exact ⟨r22, rfl, N22, K22, (BigOk.mono r22_0 (by omega))⟩
        refine stp (fun _ => XS.icmpYes X16.here hx rfl (pc0 := 91) (pc' := 110) rfl (hb hby d20_91) rfl (XT.ii_ne_t q91_18) (by decide) (by decide)) ?_
        refine stp (fun _ => XS.aloadN X16.here hx rfl (hb hby d20_110) rfl rfl) ?_
        obtain ⟨T38, X38, e38, st38⟩ := getF X16 hx hZ hown (host := "") (Or.inl (w_ hw (i := 137) rfl)) Via.refl e16 Fm_t (g := (mkF m 111 #[(sR t), (sR v), (sI (0 : Int32)), (sI (0 : Int32)), (sI (0 : Int32)), (sI (Int32.ofNat tn)), (sI (Int32.ofNat vn)), (sI (1 : Int32)), .unset] [(.ref t)])) rfl rfl (hb hby d20_111)
        refine stp st38 ?_
        obtain ⟨cl39, Ar39, -, S39, -, -⟩ := (id V_t)
        refine stp (fun _ => X38.arraylength hx (by rw [e38]; exact Ar39.1) (State.isArrayOf_alike hZ.alike Ar39.2.1) (g := (mkF m 114 #[(sR t), (sR v), (sI (0 : Int32)), (sI (0 : Int32)), (sI (0 : Int32)), (sI (Int32.ofNat tn)), (sI (Int32.ofNat vn)), (sI (1 : Int32)), .unset] [(.ref ta)])) rfl rfl (hb hby d20_114) _) ?_
        rw [arf_len S39 (z := (Int32.ofNat tn)) (own_nI hH_t)]
        refine stp (fun _ => XS.iconst X38.here hx rfl (hb hby d20_115)) ?_
        show Go p e below T38 (mkF m 116 #[(sR t), (sR v), (sI (0 : Int32)), (sI (0 : Int32)), (sI (0 : Int32)), (sI (Int32.ofNat tn)), (sI (Int32.ofNat vn)), (sI (1 : Int32)), .unset] [(.int (1 : Int32)), (.int (Int32.ofNat tn))]) _
        by_cases q116_40 : (Int32.ofNat tn) = (1 : Int32)
        · refine stp (fun _ => XS.icmpNo X38.here hx rfl (hb hby d20_116) rfl (XT.ii_ne_f q116_40)) ?_
          refine stp (fun _ => XS.aloadN X38.here hx rfl (hb hby d20_119) rfl rfl) ?_
          obtain ⟨T41, X41, e41, st41⟩ := getF X38 hx hZ hown (host := "") (Or.inl (w_ hw (i := 137) rfl)) Via.refl e38 Fm_v (g := (mkF m 120 #[(sR t), (sR v), (sI (0 : Int32)), (sI (0 : Int32)), (sI (0 : Int32)), (sI (Int32.ofNat tn)), (sI (Int32.ofNat vn)), (sI (1 : Int32)), .unset] [(.ref v)])) rfl rfl (hb hby d20_120)
          refine stp st41 ?_
          refine stp (fun _ => XS.aloadN X41.here hx rfl (hb hby d20_123) rfl rfl) ?_
          obtain ⟨T42, X42, e42, st42⟩ := getF X41 hx hZ hown (host := "") (Or.inl (w_ hw (i := 137) rfl)) Via.refl e41 Fm_t (g := (mkF m 124 #[(sR t), (sR v), (sI (0 : Int32)), (sI (0 : Int32)), (sI (0 : Int32)), (sI (Int32.ofNat tn)), (sI (Int32.ofNat vn)), (sI (1 : Int32)), .unset] [(.ref t), (.ref va)])) rfl rfl (hb hby d20_124)
          refine stp st42 ?_
          show Go p e below T42 (mkF m 127 #[(sR t), (sR v), (sI (0 : Int32)), (sI (0 : Int32)), (sI (0 : Int32)), (sI (Int32.ofNat tn)), (sI (Int32.ofNat vn)), (sI (1 : Int32)), .unset] [(.ref ta), (.ref va)]) _
          refine stp (fun _ => XS.iconst X42.here hx rfl (hb hby d20_127)) ?_
          obtain ⟨cl43, Ar43, q43, S43, H43, G43⟩ := (id V_t)
          have in43 : ¬ ((0 : Int32) < 0 ∨ cl43.slots.size ≤ ((0 : Int32)).toNatClampNeg) := arf_in S43 (show (0 : Int32).toInt = ((0 : Nat) : Int) from rfl) hp_t
          have at43 : cl43.slots[((0 : Int32)).toNatClampNeg]? = some (.int (tf 0)) := arf_at H43 (show (0 : Int32).toInt = ((0 : Nat) : Int) from rfl) hp_t
          refine stp (fun _ => X42.iaload hx (j := (0 : Int32)) (v := (.int (tf 0))) (by rw [e42]; exact Ar43.1) (State.isArrayOf_alike hZ.alike Ar43.2.1) Ar43.2.2 in43 at43 (g := (mkF m 128 #[(sR t), (sR v), (sI (0 : Int32)), (sI (0 : Int32)), (sI (0 : Int32)), (sI (Int32.ofNat tn)), (sI (Int32.ofNat vn)), (sI (1 : Int32)), .unset] [(.int (0 : Int32)), (.ref ta), (.ref va)])) rfl rfl (hb hby d20_128) _) ?_
          refine stp (fun _ => XS.iload X42.here hx rfl (hb hby d20_129) rfl) ?_
          obtain ⟨_, _, ⟨T44, L44, k44, n44⟩, -, X44, ⟨Lc44, hQ44, l44, y44, z44⟩, st44⟩ := Jvm.LawKit.callS X42 hx (y := (⟨"java/math/BigInteger", "multiplyByInt", "([III)Ljava/math/BigInteger;"⟩ : MethodName)) hown (mvT hZ (w_ hw (i := 151) rfl)) (mvT hZ (w_ hw (i := 152) rfl)) (mvT hZ (w_ hw (i := 118) rfl)) (mvT hZ (w_ hw (i := 153) rfl)) (by decide) (backOf (W := 0) (rm_mbi l Z a0 hw [] va (tf 0) vn vf vk h0 n0 O0 V_v (by omega) hp_v) hZ (w_ hw (i := 153) rfl) (w_ hw (i := 118) rfl) (by decide) (by decide)) (g := (mkF m 131 #[(sR t), (sR v), (sI (0 : Int32)), (sI (0 : Int32)), (sI (0 : Int32)), (sI (Int32.ofNat tn)), (sI (Int32.ofNat vn)), (sI (1 : Int32)), .unset] [(.int (1 : Int32)), (.int (tf 0)), (.ref va)])) rfl (by rw [hml]; rfl) (argsL := [(.ref va), (.int (tf 0)), (.int (1 : Int32))]) (rest := []) (lenOf pd_12 rfl) rfl (by show 2 * 0 + _ ≤ _; exact Nat.le_of_eq rfl) (hb hby d20_131) (fun _ _ => ⟨rfl, e42, (by decide : 0 + 3 ≤ _), (by decide : 0 + 55 ≤ _)⟩)
          dsimp only [Pt.U, Pt.locs, Pt.cells, Pt.slots] at X44 l44 y44 z44 st44 hQ44
          subst y44 z44
          obtain ⟨r44, rfl, N44q, K44q, ⟨ge_r44, sz44_r44⟩, r44_0⟩ := hQ44
          have N44 : Fr n0 L44 := by rw [l44]; exact Fr.app N0 N44q
          have ne45 : t ≠ r44 := Nat.ne_of_lt (Nat.lt_of_lt_of_le Q_t.lt sz44_r44)
          have ne46 : ta ≠ r44 := Nat.ne_of_lt (Nat.lt_of_lt_of_le V_t.lt sz44_r44)
          have ne47 : v ≠ r44 := Nat.ne_of_lt (Nat.lt_of_lt_of_le Q_v.lt sz44_r44)
          have ne48 : va ≠ r44 := Nat.ne_of_lt (Nat.lt_of_lt_of_le V_v.lt sz44_r44)
          have ne49 : z0 ≠ r44 := O0.ne Q_z0.lt ge_r44
          have f50 := Q_t.keep K44q nin0 apart0
          have f51 := Q_v.keep K44q nin0 apart0
          have f52 := E_t.keep K44q
          have f53 := Fs_t.keep K44q nin0
          have f54 := Fm_t.keep K44q nin0
          have f55 := V_t.keep K44q nin0
          have f56 := E_v.keep K44q
          have f57 := Fs_v.keep K44q nin0
          have f58 := Fm_v.keep K44q nin0
          have f59 := V_v.keep K44q nin0
          have sz_r44 : h0.size ≤ r44 := Nat.le_trans (Keep.refl h0 []).1 sz44_r44
          have K44 : Keep h0 T44.heap [] := (Keep.refl h0 []).trans K44q all0
          have O44 := O0.keep K44q all0
          refine stp st44 ?_
          refine outA X44 hx hret rfl rfl (hb hby d20_134) hlk (by decide) (by decide) ?_
          exact ⟨r44, rfl, N44, K44, (BigOk.mono r44_0 (by omega))⟩
        refine stp (fun _ => XS.icmpYes X38.here hx rfl (pc0 := 116) (pc' := 135) rfl (hb hby d20_116) rfl (XT.ii_ne_t q116_40) (by decide) (by decide)) ?_
        refine stp (fun _ => XS.aloadN X38.here hx rfl (hb hby d20_135) rfl rfl) ?_
        obtain ⟨T60, X60, e60, st60⟩ := getF X38 hx hZ hown (host := "") (Or.inl (w_ hw (i := 137) rfl)) Via.refl e38 Fm_t (g := (mkF m 136 #[(sR t), (sR v), (sI (0 : Int32)), (sI (0 : Int32)), (sI (0 : Int32)), (sI (Int32.ofNat tn)), (sI (Int32.ofNat vn)), (sI (1 : Int32)), .unset] [(.ref t)])) rfl rfl (hb hby d20_136)
        refine stp st60 ?_
        refine stp (fun _ => XS.iload X60.here hx rfl (hb hby d20_139) rfl) ?_
        refine stp (fun _ => XS.aloadN X60.here hx rfl (hb hby d20_141) rfl rfl) ?_
        show Go p e below T60 (mkF m 142 #[(sR t), (sR v), (sI (0 : Int32)), (sI (0 : Int32)), (sI (0 : Int32)), (sI (Int32.ofNat tn)), (sI (Int32.ofNat vn)), (sI (1 : Int32)), .unset] [(.ref v), (.int (Int32.ofNat tn)), (.ref ta)]) _
        obtain ⟨T61, X61, e61, st61⟩ := getF X60 hx hZ hown (host := "") (Or.inl (w_ hw (i := 137) rfl)) Via.refl e60 Fm_v (g := (mkF m 142 #[(sR t), (sR v), (sI (0 : Int32)), (sI (0 : Int32)), (sI (0 : Int32)), (sI (Int32.ofNat tn)), (sI (Int32.ofNat vn)), (sI (1 : Int32)), .unset] [(.ref v), (.int (Int32.ofNat tn)), (.ref ta)])) rfl rfl (hb hby d20_142)
        refine stp st61 ?_
        refine stp (fun _ => XS.iload X61.here hx rfl (hb hby d20_145) rfl) ?_
        refine stp (fun _ => XS.aconstNull X61.here hx rfl (hb hby d20_147)) ?_
        obtain ⟨_, _, ⟨T62, L62, k62, n62⟩, -, X62, ⟨Lc62, hQ62, l62, y62, z62⟩, st62⟩ := Jvm.LawKit.callS X61 hx (y := (⟨"java/math/BigInteger", "multiplyToLen", "([II[II[I)[I"⟩ : MethodName)) hown (mvT hZ (w_ hw (i := 176) rfl)) (mvT hZ (w_ hw (i := 177) rfl)) (mvT hZ (w_ hw (i := 118) rfl)) (mvT hZ (w_ hw (i := 178) rfl)) (by decide) (backOf (W := 0) (rm_mtl l Z a0 hw [] ta (Int32.ofNat tn) va (Int32.ofNat vn) tn tf vn vf tk vk h0 n0 O0 V_t V_v (own_nI hH_t) (own_nI hH_v) hp_t hp_v (by omega)) hZ (w_ hw (i := 178) rfl) (w_ hw (i := 118) rfl) (by decide) (by decide)) (g := (mkF m 148 #[(sR t), (sR v), (sI (0 : Int32)), (sI (0 : Int32)), (sI (0 : Int32)), (sI (Int32.ofNat tn)), (sI (Int32.ofNat vn)), (sI (1 : Int32)), .unset] [.null, (.int (Int32.ofNat vn)), (.ref va), (.int (Int32.ofNat tn)), (.ref ta)])) rfl (by rw [hml]; rfl) (argsL := [(.ref ta), (.int (Int32.ofNat tn)), (.ref va), (.int (Int32.ofNat vn)), .null]) (rest := []) (lenOf pd_9 rfl) rfl (by show 2 * 0 + _ ≤ _; exact Nat.le_of_eq rfl) (hb hby d20_148) (fun _ _ => ⟨rfl, e61, (by decide : 0 + 1 ≤ _), (by decide : 0 + 24 ≤ _)⟩)
        dsimp only [Pt.U, Pt.locs, Pt.cells, Pt.slots] at X62 l62 y62 z62 st62 hQ62
        subst y62 z62
        obtain ⟨r62, k_r62, m62, g62, rfl, N62q, K62q, ⟨ge_r62, sz62_r62⟩, r62_0, pq62_0⟩ := hQ62
        have N62 : Fr n0 L62 := by rw [l62]; exact Fr.app N0 N62q
        have ne63 : t ≠ r62 := Nat.ne_of_lt (Nat.lt_of_lt_of_le Q_t.lt sz62_r62)
        have ne64 : ta ≠ r62 := Nat.ne_of_lt (Nat.lt_of_lt_of_le V_t.lt sz62_r62)
        have ne65 : v ≠ r62 := Nat.ne_of_lt (Nat.lt_of_lt_of_le Q_v.lt sz62_r62)
        have ne66 : va ≠ r62 := Nat.ne_of_lt (Nat.lt_of_lt_of_le V_v.lt sz62_r62)
        have ne67 : z0 ≠ r62 := O0.ne Q_z0.lt ge_r62
        have f68 := Q_t.keep K62q nin0 apart0
        have f69 := Q_v.keep K62q nin0 apart0
        have f70 := E_t.keep K62q
        have f71 := Fs_t.keep K62q nin0
        have f72 := Fm_t.keep K62q nin0
        have f73 := V_t.keep K62q nin0
        have f74 := E_v.keep K62q
        have f75 := Fs_v.keep K62q nin0
        have f76 := Fm_v.keep K62q nin0
        have f77 := V_v.keep K62q nin0
        have sz_r62 : h0.size ≤ r62 := Nat.le_trans (Keep.refl h0 []).1 sz62_r62
        have K62 : Keep h0 T62.heap [] := (Keep.refl h0 []).trans K62q all0
        have O62 := O0.keep K62q all0
        refine stp st62 ?_
        refine stp (fun _ => XS.astore X62.here hx rfl (hb hby d20_151) rfl rfl (l' := #[(sR t), (sR v), (sI (0 : Int32)), (sI (0 : Int32)), (sI (0 : Int32)), (sI (Int32.ofNat tn)), (sI (Int32.ofNat vn)), (sI (1 : Int32)), (sR r62)]) rfl) ?_
        show Go p e below T62 (mkF m 153 #[(sR t), (sR v), (sI (0 : Int32)), (sI (0 : Int32)), (sI (0 : Int32)), (sI (Int32.ofNat tn)), (sI (Int32.ofNat vn)), (sI (1 : Int32)), (sR r62)] []) _
        refine stp (fun _ => XS.aload X62.here hx rfl (hb hby d20_153) rfl rfl) ?_
        obtain ⟨_, _, ⟨T78, L78, k78, n78⟩, -, X78, ⟨Lc78, hQ78, l78, y78, z78⟩, st78⟩ := Jvm.LawKit.callS X62 hx (y := (⟨"java/math/BigInteger", "trustedStripLeadingZeroInts", "([I)[I"⟩ : MethodName)) hown (mvT hZ (w_ hw (i := 189) rfl)) (mvT hZ (w_ hw (i := 190) rfl)) (mvT hZ (w_ hw (i := 118) rfl)) (mvT hZ (w_ hw (i := 191) rfl)) (by decide) (backOf (W := 0) (rm_strip l Z a0 hw [] r62 m62 g62 k_r62 T62.heap n0 O62 r62_0 (by omega)) hZ (w_ hw (i := 191) rfl) (w_ hw (i := 118) rfl) (by decide) (by decide)) (g := (mkF m 155 #[(sR t), (sR v), (sI (0 : Int32)), (sI (0 : Int32)), (sI (0 : Int32)), (sI (Int32.ofNat tn)), (sI (Int32.ofNat vn)), (sI (1 : Int32)), (sR r62)] [(.ref r62)])) rfl (by rw [hml]; rfl) (argsL := [(.ref r62)]) (rest := []) (lenOf pd_13 rfl) rfl (by show 2 * 0 + _ ≤ _; exact Nat.le_of_eq rfl) (hb hby d20_155) (fun _ _ => ⟨rfl, rfl, (by decide : 1 + 1 ≤ _), (by decide : 24 + 24 ≤ _)⟩)
        dsimp only [Pt.U, Pt.locs, Pt.cells, Pt.slots] at X78 l78 y78 z78 st78 hQ78
        subst y78 z78
        obtain ⟨r78, k_r78, m78, g78, rfl, N78q, K78q, r78_0, pq78_0⟩ := hQ78
        have N78 : Fr n0 L78 := by rw [l78]; exact Fr.app N62 N78q
        have f79 := f68.keep K78q nin0 apart0
        have f80 := f69.keep K78q nin0 apart0
        have f81 := f70.keep K78q
        have f82 := f71.keep K78q nin0
        have f83 := f72.keep K78q nin0
        have f84 := f73.keep K78q nin0
        have f85 := f74.keep K78q
        have f86 := f75.keep K78q nin0
        have f87 := f76.keep K78q nin0
        have f88 := f77.keep K78q nin0
        have f89 := r62_0.keep K78q nin0
        have K78 : Keep h0 T78.heap [] := K62.trans K78q all0
        have O78 := O62.keep K78q all0
        refine stp st78 ?_
        refine stp (fun _ => XS.astore X78.here hx rfl (hb hby d20_158) rfl rfl (l' := #[(sR t), (sR v), (sI (0 : Int32)), (sI (0 : Int32)), (sI (0 : Int32)), (sI (Int32.ofNat tn)), (sI (Int32.ofNat vn)), (sI (1 : Int32)), (sR r78)]) rfl) ?_
        obtain ⟨T90, h90, X90, e90, E90, A90, D90, U90, st90⟩ := newO X78 hx hZ hown (w_ hw (i := 121) rfl) (w_ hw (i := 122) rfl) (w_ hw (i := 118) rfl) rfl (g := (mkF m 160 #[(sR t), (sR v), (sI (0 : Int32)), (sI (0 : Int32)), (sI (0 : Int32)), (sI (Int32.ofNat tn)), (sI (Int32.ofNat vn)), (sI (1 : Int32)), (sR r78)] [])) rfl (hb hby d20_160) (by decide) (by decide)
        obtain ⟨b90, g90⟩ : ∃ z, z = T78.heap.size := ⟨_, rfl⟩
        rw [← g90] at A90 D90 st90
        have ne91 : r62 ≠ b90 := Nat.ne_of_lt (Nat.lt_of_lt_of_le f89.lt (Nat.le_of_eq g90.symm))
        have ne92 : r78 ≠ b90 := Nat.ne_of_lt (Nat.lt_of_lt_of_le r78_0.lt (Nat.le_of_eq g90.symm))
        have ne93 : t ≠ b90 := Nat.ne_of_lt (Nat.lt_of_lt_of_le f79.lt (Nat.le_of_eq g90.symm))
        have ne94 : ta ≠ b90 := Nat.ne_of_lt (Nat.lt_of_lt_of_le f84.lt (Nat.le_of_eq g90.symm))
        have ne95 : v ≠ b90 := Nat.ne_of_lt (Nat.lt_of_lt_of_le f80.lt (Nat.le_of_eq g90.symm))
        have ne96 : va ≠ b90 := Nat.ne_of_lt (Nat.lt_of_lt_of_le f88.lt (Nat.le_of_eq g90.symm))
        have ne97 : z0 ≠ b90 := O78.ne Q_z0.lt (Nat.le_trans (old_le O78) (Nat.le_of_eq g90.symm))
        have sz_b90 : h0.size ≤ b90 := Nat.le_trans K78.1 (Nat.le_of_eq g90.symm)
        have ge_b90 : n0 ≤ b90 := Nat.le_trans (old_le O78) (Nat.le_of_eq g90.symm)
        have f98 := f79.ext E90
        have f99 := f80.ext E90
        have f100 := f81.ext E90
        have f101 := f82.ext E90
        have f102 := f83.ext E90
        have f103 := f84.ext E90
        have f104 := f85.ext E90
        have f105 := f86.ext E90
        have f106 := f87.ext E90
        have f107 := f88.ext E90
        have f108 := f89.ext E90
        have f109 := r78_0.ext E90
        have K90 : Keep h0 h90 [] := K78.ext E90
        have O90 := O78.ext E90
        have F110 : Fld Z h90 b90 "java/math/BigInteger" "signum" "I" (.int (0 : Int32)) := D90 (Or.inr (w_ hw (i := 135) rfl)) (ty := .int) (by decide)
        have F111 : Fld Z h90 b90 "java/math/BigInteger" "mag" "[I" .null := D90 (Or.inr (w_ hw (i := 138) rfl)) (ty := (.array .int)) (by decide)
        refine stp st90 ?_
        refine stp (fun _ => XS.dup X90.here hx rfl (hb hby d20_163) rfl rfl) ?_
        show Go p e below T90 (mkF m 164 #[(sR t), (sR v), (sI (0 : Int32)), (sI (0 : Int32)), (sI (0 : Int32)), (sI (Int32.ofNat tn)), (sI (Int32.ofNat vn)), (sI (1 : Int32)), (sR r78)] [(.ref b90), (.ref b90)]) _
        refine stp (fun _ => XS.aload X90.here hx rfl (hb hby d20_164) rfl rfl) ?_
        refine stp (fun _ => XS.iload X90.here hx rfl (hb hby d20_166) rfl) ?_
        obtain ⟨_, _, ⟨T112, L112, k112, n112⟩, -, X112, ⟨Lc112, hQ112, l112, y112, z112⟩, st112⟩ := X90.specialBack hx (y := (⟨"java/math/BigInteger", "<init>", "([II)V"⟩ : MethodName)) rfl hown (mvT hZ (w_ hw (i := 162) rfl)) (mvT hZ (w_ hw (i := 163) rfl)) (mvT hZ (w_ hw (i := 164) rfl)) (by decide) (backOf (W := 1) (rm_bia l Z a0 hw [] b90 r78 m78 g78 (N1 + N2 + 1) k_r78 h90 n0 O90 A90 F110 F111 f109 ge_b90 ne92 (by omega) (by omega)) hZ (w_ hw (i := 164) rfl) (w_ hw (i := 118) rfl) (by decide) (by decide)) (g := (mkF m 168 #[(sR t), (sR v), (sI (0 : Int32)), (sI (0 : Int32)), (sI (0 : Int32)), (sI (Int32.ofNat tn)), (sI (Int32.ofNat vn)), (sI (1 : Int32)), (sR r78)] [(.int (1 : Int32)), (.ref r78), (.ref b90), (.ref b90)])) rfl (by rw [hml]; rfl) (Steps.refl _) (a := b90) (argsL := [(.ref r78), (.int (1 : Int32))]) (rest := [(.ref b90)]) (lenOf pd_8 rfl) rfl (by show 2 * 0 + _ ≤ _; exact Nat.le_of_eq rfl) (hb hby d20_168) (fun _ _ => ⟨rfl, e90, (by decide : 3 + 0 ≤ _), (by decide : 54 + 0 ≤ _)⟩)
        dsimp only [Pt.U, Pt.locs, Pt.cells, Pt.slots] at X112 l112 y112 z112 st112 hQ112
        subst y112 z112
        obtain ⟨rfl, N112q, K112q, r112_0⟩ := hQ112
        have N112 : Fr n0 L112 := by rw [l112]; exact Fr.app N78 N112q
        have f113 := f98.keep K112q (ninS ne93 nin0) (apartS (Apart.exa A90 (w_ hw (i := 122) rfl)) apart0)
        have f114 := f99.keep K112q (ninS ne95 nin0) (apartS (Apart.exa A90 (w_ hw (i := 122) rfl)) apart0)
        have f115 := f100.keep K112q
        have f116 := f101.keep K112q (ninS ne93 nin0)
        have f117 := f102.keep K112q (ninS ne93 nin0)
        have f118 := f103.keep K112q (ninS ne94 nin0)
        have f119 := f104.keep K112q
        have f120 := f105.keep K112q (ninS ne95 nin0)
        have f121 := f106.keep K112q (ninS ne95 nin0)
        have f122 := f107.keep K112q (ninS ne96 nin0)
        have f123 := f108.keep K112q (ninS ne91 nin0)
        have f124 := f109.keep K112q (ninS ne92 nin0)
        have f125 := A90.keep K112q
        have K112 : Keep h0 T112.heap [] := K90.trans K112q (allS (Or.inr sz_b90) all0)
        have O112 := O90.keep K112q (allS ge_b90 all0)
        refine stt st112 ?_
        refine outA X112 hx hret rfl rfl (hb hby d20_171) hlk (by decide) (by decide) ?_
        exact ⟨b90, rfl, N112, K112, (BigOk.mono r112_0 (by omega))⟩
      refine stp (fun _ => XS.aloadN X10.here hx rfl (hb hby d20_25) rfl rfl) ?_
      refine stp (fun _ => XS.aloadN X10.here hx rfl (hb hby d20_26) rfl rfl) ?_
      by_cases q27_126 : v = t
      · refine stp (fun _ => Jvm.RoadKit.acmp (g := (mkF m 27 #[(sR t), (sR v), (sI (0 : Int32)), (sI (0 : Int32)), (sI (0 : Int32)), (sI (Int32.ofNat tn)), .unset, .unset, .unset] [(.ref t), (.ref v)])) X10 hx rfl rfl rfl (pc0 := 27) (pc' := 30) (same := true) rfl (hb hby d20_27) rfl (decide_eq_true (congrArg Value.ref q27_126)) (by decide) (by decide)) ?_
        refine stp (fun _ => XS.iload X10.here hx rfl (hb hby d20_30) rfl) ?_
        refine stp (fun _ => XS.bipush X10.here hx rfl (hb hby d20_32)) ?_
        show Go p e below T10 (mkF m 34 #[(sR t), (sR v), (sI (0 : Int32)), (sI (0 : Int32)), (sI (0 : Int32)), (sI (Int32.ofNat tn)), .unset, .unset, .unset] [(.int (20 : Int32)), (.int (Int32.ofNat tn))]) _
        refine stp (fun _ => XS.icmpYes X10.here hx rfl (pc0 := 34) (pc' := 46) rfl (hb hby d20_34) rfl (XT.ii_le_t (own_le20 (by omega))) (by decide) (by decide)) ?_
        show Go p e below T10 (mkF m 46 #[(sR t), (sR v), (sI (0 : Int32)), (sI (0 : Int32)), (sI (0 : Int32)), (sI (Int32.ofNat tn)), .unset, .unset, .unset] []) _
        exact J46  trivial
      · refine stp (fun _ => Jvm.RoadKit.acmp (g := (mkF m 27 #[(sR t), (sR v), (sI (0 : Int32)), (sI (0 : Int32)), (sI (0 : Int32)), (sI (Int32.ofNat tn)), .unset, .unset, .unset] [(.ref t), (.ref v)])) X10 hx rfl rfl rfl (pc0 := 27) (pc' := 46) (same := false) rfl (hb hby d20_27) rfl (decide_eq_false (fun z => q27_126 (Value.ref.inj z))) (by decide) (by decide)) ?_
        show Go p e below T10 (mkF m 46 #[(sR t), (sR v), (sI (0 : Int32)), (sI (0 : Int32)), (sI (0 : Int32)), (sI (Int32.ofNat tn)), .unset, .unset, .unset] []) _
        exact J46  trivial
abbrev B19 : ByteArray := jdk_2097_method_40_code
theorem d19_0 : Dc B19 0 (.aload_n 0) 1 := by decide +kernel
theorem d19_1 : Dc B19 1 (.aload_n 1) 1 := by decide +kernel
theorem d19_2 : Dc B19 2 (.iconst 0) 1 := by decide +kernel
theorem d19_3 : Dc B19 3 (.iconst 0) 1 := by decide +kernel
theorem d19_4 : Dc B19 4 (.iconst 0) 1 := by decide +kernel
theorem d19_5 : Dc B19 5 (.invokevirtual 397) 3 := by decide +kernel
theorem pd_14 : parseMethodDescriptor "(Ljava/math/BigInteger;ZZI)Ljava/math/BigInteger;" = some ⟨[(.object "java/math/BigInteger"), .boolean, .boolean, .int], some (.object "java/math/BigInteger")⟩ := by decide +kernel
theorem d19_8 : Dc B19 8 (.areturn) 1 := by decide +kernel
theorem ef_rm_mul (m : MethodId) (t : Addr) (v : Addr)  : entryFrame m #[(.ref t), (.ref v)] 2 = mkF m 0 #[(sR t), (sR v)] [] := by first | (simp [entryFrame, mkF, argsToLocals, Value.category]; done) | rfl
def Q_rm_mul (Z : State) (t : Addr) (v : Addr) (N1 : Nat) (N2 : Nat) (z0 : Addr) (h0 : Heap) (n0 : Nat) (v : Option Value) (h : Heap) (L : List Loc) : Prop := ∃ (r : Addr), v = some (.ref r) ∧ Fr n0 L ∧ Keep h0 h [] ∧ BigOk Z h r (N1 + N2 + 1)
theorem pn_19_ : plainName "java/math/BigInteger" = true := by first | (simp [plainName, overriddenIn]; done) | decide +kernel
theorem pn_19 : plainFor (⟨"java/math/BigInteger", "multiply", "(Ljava/math/BigInteger;)Ljava/math/BigInteger;"⟩ : MethodName) = true := plainFor_of_name pn_19_
set_option maxRecDepth 65536 in
set_option maxHeartbeats 40000000 in
theorem rm_mul (l : Launch) (Z : State) (a0 : Array Value) (hw : ∀ d ∈ tables_1, d.before a0 Z = true) (ws : List Jvm.Cond) (t : Addr) (v : Addr) (N1 : Nat) (N2 : Nat) (z0 : Addr) (h0 : Heap) (n0 : Nat) (O0 : Old Z n0 h0) (Q_t : BigOk Z h0 t N1) (Q_v : BigOk Z h0 v N2) (S_ZERO : Sta Z Z.heap "java/math/BigInteger" "ZERO" "Ljava/math/BigInteger;" (.ref z0)) (Q_z0 : BigOk Z Z.heap z0 0) (hNN : N1 + N2 ≤ 20) :
    MetFree l (⟨"java/math/BigInteger", "multiply", "(Ljava/math/BigInteger;)Ljava/math/BigInteger;"⟩ : MethodName) (head1 (Jvm.Cond.code (⟨"java/math/BigInteger", "multiply", "(Ljava/math/BigInteger;)Ljava/math/BigInteger;"⟩ : MethodName) jdk_2097_method_40_code 2 (some (.object "java/math/BigInteger")) :: ws) ({ frames := 5, cells := 3, slots := 55, locals := 96 } : Room)) (fun args_ U => args_ = #[(.ref t), (.ref v)] ∧ Z.Warmed39 U.vm ∧ U.heap = h0) (fun _ _ _ _ _ => True) (fun _ U out_ U' => ∃ val_ loc_, out_ = .returned val_ ∧ (Q_rm_mul Z t v N1 N2 z0 h0 n0) val_ U'.heap loc_ ∧ FrameEnd U out_ U' loc_ ({ frames := 5, cells := 3, slots := 55, locals := 96 } : Room).cells ({ frames := 5, cells := 3, slots := 55, locals := 96 } : Room).slots) := by
  refine start (Q := (Q_rm_mul Z t v N1 N2 z0 h0 n0)) pn_19 ?_
  intro p e s m below meth c T0 X0 hx hby hml hown hnm hret hlk hZ e0
  replace hown : s.vm.findClass "java/math/BigInteger" = some m.cls := hown
  replace hml : c.maxLocals = 2 := hml
  refine goAt (ef_rm_mul m t v ) ?_
  have N0 := Fr.nil n0
  refine stp (fun _ => XS.aloadN X0.here hx rfl (hb hby d19_0) rfl rfl) ?_
  refine stp (fun _ => XS.aloadN X0.here hx rfl (hb hby d19_1) rfl rfl) ?_
  refine stp (fun _ => XS.iconst X0.here hx rfl (hb hby d19_2)) ?_
  refine stp (fun _ => XS.iconst X0.here hx rfl (hb hby d19_3)) ?_
  show Go p e below T0 (mkF m 4 #[(sR t), (sR v)] [(.int (0 : Int32)), (.int (0 : Int32)), (.ref v), (.ref t)]) _
  refine stp (fun _ => XS.iconst X0.here hx rfl (hb hby d19_4)) ?_
  obtain ⟨cq1, q1, q1'⟩ := Q_t.exa.cell
  obtain ⟨_, _, ⟨T1, L1, k1, n1⟩, -, X1, ⟨Lc1, hQ1, l1, y1, z1⟩, st1⟩ := X0.privateBack hx (y := (⟨"java/math/BigInteger", "multiply", "(Ljava/math/BigInteger;ZZI)Ljava/math/BigInteger;"⟩ : MethodName)) hown (mvT hZ (w_ hw (i := 146) rfl)) (mvT hZ (w_ hw (i := 147) rfl)) (mvT hZ (w_ hw (i := 149) rfl)) (Cond.privateMethod_at (mvP hZ (w_ hw (i := 148) rfl) (args := #[]))) (mvT hZ (w_ hw (i := 150) rfl)) (by decide) (backOf (W := 0) (rm_mul5 l Z a0 hw [] t v N1 N2 z0 h0 n0 O0 Q_t Q_v S_ZERO Q_z0 hNN) hZ (w_ hw (i := 150) rfl) (w_ hw (i := 118) rfl) (by decide) (by decide)) (g := (mkF m 5 #[(sR t), (sR v)] [(.int (0 : Int32)), (.int (0 : Int32)), (.int (0 : Int32)), (.ref v), (.ref t)])) rfl (by rw [hml]; rfl) (Steps.refl _) (a := t) (by rw [e0]; exact q1) q1' (argsL := [(.ref v), (.int (0 : Int32)), (.int (0 : Int32)), (.int (0 : Int32))]) (rest := []) (lenOf pd_14 rfl) rfl (by show 2 * 0 + _ ≤ _; exact Nat.le_of_eq rfl) (hb hby d19_5) (fun _ _ => ⟨rfl, e0, (by decide : 0 + 3 ≤ _), (by decide : 0 + 55 ≤ _)⟩)
  dsimp only [Pt.U, Pt.locs, Pt.cells, Pt.slots] at X1 l1 y1 z1 st1 hQ1
  subst y1 z1
  obtain ⟨r1, rfl, N1q, K1q, r1_0⟩ := hQ1
  have N1 : Fr n0 L1 := by rw [l1]; exact Fr.app N0 N1q
  have f2 := Q_t.keep K1q nin0 apart0
  have f3 := Q_v.keep K1q nin0 apart0
  have f4 := Q_t.exa.keep K1q
  have K1 : Keep h0 T1.heap [] := (Keep.refl h0 []).trans K1q all0
  have O1 := O0.keep K1q all0
  refine stt st1 ?_
  refine outA X1 hx hret rfl rfl (hb hby d19_8) hlk (by decide) (by decide) ?_
  exact ⟨r1, rfl, N1, K1, r1_0⟩
abbrev B25 : ByteArray := jdk_2097_method_35_code
theorem d25_13 : Dc B25 13 (.aload_n 0) 1 := by decide +kernel
theorem d25_14 : Dc B25 14 (.arraylength) 1 := by decide +kernel
theorem d25_15 : Dc B25 15 (.istore_n 2) 1 := by decide +kernel
theorem d25_16 : Dc B25 16 (.aload_n 1) 1 := by decide +kernel
theorem d25_17 : Dc B25 17 (.arraylength) 1 := by decide +kernel
theorem d25_18 : Dc B25 18 (.istore_n 3) 1 := by decide +kernel
theorem d25_19 : Dc B25 19 (.iload_n 2) 1 := by decide +kernel
theorem d25_20 : Dc B25 20 (.newarray .int) 2 := by decide +kernel
theorem d25_22 : Dc B25 22 (.astore 4) 2 := by decide +kernel
theorem d25_24 : Dc B25 24 (.lconst 0) 1 := by decide +kernel
theorem d25_25 : Dc B25 25 (.lstore 5) 2 := by decide +kernel
theorem d25_109 : Dc B25 109 (.lload 5) 2 := by decide +kernel
theorem d25_124 : Dc B25 124 (.istore 7) 2 := by decide +kernel
theorem d25_126 : Dc B25 126 (.iload_n 2) 1 := by decide +kernel
theorem d25_127 : Dc B25 127 (.ifCond .le 34) 3 := by decide +kernel
theorem d25_161 : Dc B25 161 (.iload_n 2) 1 := by decide +kernel
theorem d25_162 : Dc B25 162 (.ifCond .le 16) 3 := by decide +kernel
theorem d25_178 : Dc B25 178 (.iload 7) 2 := by decide +kernel
theorem d25_180 : Dc B25 180 (.ifCond .eq 32) 3 := by decide +kernel
theorem d25_212 : Dc B25 212 (.aload 4) 2 := by decide +kernel
theorem d25_214 : Dc B25 214 (.areturn) 1 := by decide +kernel
theorem d25_183 : Dc B25 183 (.aload 4) 2 := by decide +kernel
theorem d25_185 : Dc B25 185 (.arraylength) 1 := by decide +kernel
theorem d25_186 : Dc B25 186 (.iconst 1) 1 := by decide +kernel
theorem d25_187 : Dc B25 187 (.iadd) 1 := by decide +kernel
theorem d25_188 : Dc B25 188 (.newarray .int) 2 := by decide +kernel
theorem d25_190 : Dc B25 190 (.astore 8) 2 := by decide +kernel
theorem d25_192 : Dc B25 192 (.aload 4) 2 := by decide +kernel
theorem d25_194 : Dc B25 194 (.iconst 0) 1 := by decide +kernel
theorem d25_195 : Dc B25 195 (.aload 8) 2 := by decide +kernel
theorem d25_197 : Dc B25 197 (.iconst 1) 1 := by decide +kernel
theorem d25_198 : Dc B25 198 (.aload 4) 2 := by decide +kernel
theorem d25_200 : Dc B25 200 (.arraylength) 1 := by decide +kernel
theorem d25_201 : Dc B25 201 (.invokestatic 388) 3 := by decide +kernel
theorem d25_204 : Dc B25 204 (.aload 8) 2 := by decide +kernel
theorem d25_206 : Dc B25 206 (.iconst 0) 1 := by decide +kernel
theorem d25_207 : Dc B25 207 (.iconst 1) 1 := by decide +kernel
theorem d25_208 : Dc B25 208 (.iastore) 1 := by decide +kernel
theorem d25_209 : Dc B25 209 (.aload 8) 2 := by decide +kernel
theorem d25_211 : Dc B25 211 (.areturn) 1 := by decide +kernel
theorem d25_130 : Dc B25 130 (.iload 7) 2 := by decide +kernel
theorem d25_132 : Dc B25 132 (.ifCond .eq 29) 3 := by decide +kernel
theorem d25_165 : Dc B25 165 (.aload 4) 2 := by decide +kernel
theorem d25_167 : Dc B25 167 (.iinc 2 (-1)) 3 := by decide +kernel
theorem d25_170 : Dc B25 170 (.iload_n 2) 1 := by decide +kernel
theorem d25_171 : Dc B25 171 (.aload_n 0) 1 := by decide +kernel
theorem d25_172 : Dc B25 172 (.iload_n 2) 1 := by decide +kernel
theorem d25_173 : Dc B25 173 (.iaload) 1 := by decide +kernel
theorem d25_174 : Dc B25 174 (.iastore) 1 := by decide +kernel
theorem d25_175 : Dc B25 175 (.goto (-14)) 3 := by decide +kernel
theorem d25_135 : Dc B25 135 (.aload 4) 2 := by decide +kernel
theorem d25_137 : Dc B25 137 (.iinc 2 (-1)) 3 := by decide +kernel
theorem d25_140 : Dc B25 140 (.iload_n 2) 1 := by decide +kernel
theorem d25_141 : Dc B25 141 (.aload_n 0) 1 := by decide +kernel
theorem d25_142 : Dc B25 142 (.iload_n 2) 1 := by decide +kernel
theorem d25_143 : Dc B25 143 (.iaload) 1 := by decide +kernel
theorem d25_144 : Dc B25 144 (.iconst 1) 1 := by decide +kernel
theorem d25_145 : Dc B25 145 (.iadd) 1 := by decide +kernel
theorem d25_146 : Dc B25 146 (.dup_x2) 1 := by decide +kernel
theorem d25_147 : Dc B25 147 (.iastore) 1 := by decide +kernel
theorem d25_156 : Dc B25 156 (.istore 7) 2 := by decide +kernel
theorem d25_158 : Dc B25 158 (.goto (-32)) 3 := by decide +kernel
theorem d25_148 : Dc B25 148 (.ifCond .ne 7) 3 := by decide +kernel
theorem d25_151 : Dc B25 151 (.iconst 1) 1 := by decide +kernel
theorem d25_152 : Dc B25 152 (.goto 4) 3 := by decide +kernel
theorem d25_155 : Dc B25 155 (.iconst 0) 1 := by decide +kernel
theorem d25_111 : Dc B25 111 (.bipush 32) 2 := by decide +kernel
theorem d25_113 : Dc B25 113 (.lushr) 1 := by decide +kernel
theorem d25_114 : Dc B25 114 (.lconst 0) 1 := by decide +kernel
theorem d25_115 : Dc B25 115 (.lcmp) 1 := by decide +kernel
theorem d25_116 : Dc B25 116 (.ifCond .eq 7) 3 := by decide +kernel
theorem d25_123 : Dc B25 123 (.iconst 0) 1 := by decide +kernel
theorem d25_119 : Dc B25 119 (.iconst 1) 1 := by decide +kernel
theorem d25_120 : Dc B25 120 (.goto 4) 3 := by decide +kernel
theorem d25_27 : Dc B25 27 (.iload_n 3) 1 := by decide +kernel
theorem d25_28 : Dc B25 28 (.iconst 1) 1 := by decide +kernel
theorem d25_29 : Dc B25 29 (.if_icmp .ne 35) 3 := by decide +kernel
theorem d25_32 : Dc B25 32 (.aload_n 0) 1 := by decide +kernel
theorem d25_33 : Dc B25 33 (.iinc 2 (-1)) 3 := by decide +kernel
theorem d25_36 : Dc B25 36 (.iload_n 2) 1 := by decide +kernel
theorem d25_37 : Dc B25 37 (.iaload) 1 := by decide +kernel
theorem d25_38 : Dc B25 38 (.i2l) 1 := by decide +kernel
theorem d25_39 : Dc B25 39 (.ldc2_w 130) 3 := by decide +kernel
theorem d25_42 : Dc B25 42 (.land) 1 := by decide +kernel
theorem d25_43 : Dc B25 43 (.aload_n 1) 1 := by decide +kernel
theorem d25_44 : Dc B25 44 (.iconst 0) 1 := by decide +kernel
theorem d25_45 : Dc B25 45 (.iaload) 1 := by decide +kernel
theorem d25_46 : Dc B25 46 (.i2l) 1 := by decide +kernel
theorem d25_47 : Dc B25 47 (.ldc2_w 130) 3 := by decide +kernel
theorem d25_50 : Dc B25 50 (.land) 1 := by decide +kernel
theorem d25_51 : Dc B25 51 (.ladd) 1 := by decide +kernel
theorem d25_52 : Dc B25 52 (.lstore 5) 2 := by decide +kernel
theorem d25_54 : Dc B25 54 (.aload 4) 2 := by decide +kernel
theorem d25_56 : Dc B25 56 (.iload_n 2) 1 := by decide +kernel
theorem d25_57 : Dc B25 57 (.lload 5) 2 := by decide +kernel
theorem d25_59 : Dc B25 59 (.l2i) 1 := by decide +kernel
theorem d25_60 : Dc B25 60 (.iastore) 1 := by decide +kernel
theorem d25_61 : Dc B25 61 (.goto 48) 3 := by decide +kernel
theorem d25_64 : Dc B25 64 (.iload_n 3) 1 := by decide +kernel
theorem d25_65 : Dc B25 65 (.ifCond .le 44) 3 := by decide +kernel
theorem d25_68 : Dc B25 68 (.aload_n 0) 1 := by decide +kernel
theorem d25_69 : Dc B25 69 (.iinc 2 (-1)) 3 := by decide +kernel
theorem d25_72 : Dc B25 72 (.iload_n 2) 1 := by decide +kernel
theorem d25_73 : Dc B25 73 (.iaload) 1 := by decide +kernel
theorem d25_74 : Dc B25 74 (.i2l) 1 := by decide +kernel
theorem d25_75 : Dc B25 75 (.ldc2_w 130) 3 := by decide +kernel
theorem d25_78 : Dc B25 78 (.land) 1 := by decide +kernel
theorem d25_79 : Dc B25 79 (.aload_n 1) 1 := by decide +kernel
theorem d25_80 : Dc B25 80 (.iinc 3 (-1)) 3 := by decide +kernel
theorem d25_83 : Dc B25 83 (.iload_n 3) 1 := by decide +kernel
theorem d25_84 : Dc B25 84 (.iaload) 1 := by decide +kernel
theorem d25_85 : Dc B25 85 (.i2l) 1 := by decide +kernel
theorem d25_86 : Dc B25 86 (.ldc2_w 130) 3 := by decide +kernel
theorem d25_89 : Dc B25 89 (.land) 1 := by decide +kernel
theorem d25_90 : Dc B25 90 (.ladd) 1 := by decide +kernel
theorem d25_91 : Dc B25 91 (.lload 5) 2 := by decide +kernel
theorem d25_93 : Dc B25 93 (.bipush 32) 2 := by decide +kernel
theorem d25_95 : Dc B25 95 (.lushr) 1 := by decide +kernel
theorem d25_96 : Dc B25 96 (.ladd) 1 := by decide +kernel
theorem d25_97 : Dc B25 97 (.lstore 5) 2 := by decide +kernel
theorem d25_99 : Dc B25 99 (.aload 4) 2 := by decide +kernel
theorem d25_101 : Dc B25 101 (.iload_n 2) 1 := by decide +kernel
theorem d25_102 : Dc B25 102 (.lload 5) 2 := by decide +kernel
theorem d25_104 : Dc B25 104 (.l2i) 1 := by decide +kernel
theorem d25_105 : Dc B25 105 (.iastore) 1 := by decide +kernel
theorem d25_106 : Dc B25 106 (.goto (-42)) 3 := by decide +kernel
theorem d25_0 : Dc B25 0 (.aload_n 0) 1 := by decide +kernel
theorem d25_1 : Dc B25 1 (.arraylength) 1 := by decide +kernel
theorem d25_2 : Dc B25 2 (.aload_n 1) 1 := by decide +kernel
theorem d25_3 : Dc B25 3 (.arraylength) 1 := by decide +kernel
theorem d25_4 : Dc B25 4 (.if_icmp .ge 9) 3 := by decide +kernel
theorem d25_7 : Dc B25 7 (.aload_n 0) 1 := by decide +kernel
theorem d25_8 : Dc B25 8 (.astore_n 2) 1 := by decide +kernel
theorem d25_9 : Dc B25 9 (.aload_n 1) 1 := by decide +kernel
theorem d25_10 : Dc B25 10 (.astore_n 0) 1 := by decide +kernel
theorem d25_11 : Dc B25 11 (.aload_n 2) 1 := by decide +kernel
theorem d25_12 : Dc B25 12 (.astore_n 1) 1 := by decide +kernel
theorem ef_rm_addm (m : MethodId) (xa : Addr) (ya : Addr)  : entryFrame m #[(.ref xa), (.ref ya)] 9 = mkF m 0 #[(sR xa), (sR ya), .unset, .unset, .unset, .unset, .unset, .unset, .unset] [] := by first | (simp [entryFrame, mkF, argsToLocals, Value.category]; done) | rfl
def Q_rm_addm (Z : State) (xa : Addr) (ya : Addr) (nx : Nat) (fx : Nat → Int32) (ny : Nat) (fy : Nat → Int32) (k_xa : ClassId) (k_ya : ClassId) (h0 : Heap) (n0 : Nat) (v : Option Value) (h : Heap) (L : List Loc) : Prop := ∃ (r : Addr) (k_r : ClassId) (m : Nat) (g : Nat → Int32), v = some (.ref r) ∧ Fr n0 L ∧ Keep h0 h [] ∧ (n0 ≤ r ∧ h0.size ≤ r) ∧ Arf Z h r k_r .int m (fun i => (.int (g i))) ∧ (0 < m ∧ (m ≤ nx + 1 ∨ m ≤ ny + 1))
theorem pn_20_ : plainName "java/math/BigInteger" = true := by first | (simp [plainName, overriddenIn]; done) | decide +kernel
theorem pn_20 : plainFor (⟨"java/math/BigInteger", "add", "([I[I)[I"⟩ : MethodName) = true := plainFor_of_name pn_20_
set_option maxRecDepth 65536 in
set_option maxHeartbeats 40000000 in
theorem rm_addm (l : Launch) (Z : State) (a0 : Array Value) (hw : ∀ d ∈ tables_1, d.before a0 Z = true) (ws : List Jvm.Cond) (xa : Addr) (ya : Addr) (nx : Nat) (fx : Nat → Int32) (ny : Nat) (fy : Nat → Int32) (k_xa : ClassId) (k_ya : ClassId) (h0 : Heap) (n0 : Nat) (O0 : Old Z n0 h0) (V_xa : Arf Z h0 xa k_xa .int nx (fun i => (.int (fx i)))) (V_ya : Arf Z h0 ya k_ya .int ny (fun i => (.int (fy i)))) (hx0 : 0 < nx) (hy0 : 0 < ny) (hxy : nx + ny ≤ 24) :
    MetFree l (⟨"java/math/BigInteger", "add", "([I[I)[I"⟩ : MethodName) (head1 (Jvm.Cond.code (⟨"java/math/BigInteger", "add", "([I[I)[I"⟩ : MethodName) jdk_2097_method_35_code 9 (some (.array .int)) :: ws) ({ frames := 1, cells := 2, slots := 49, locals := 18 } : Room)) (fun args_ U => args_ = #[(.ref xa), (.ref ya)] ∧ Z.Warmed39 U.vm ∧ U.heap = h0) (fun _ _ _ _ _ => True) (fun _ U out_ U' => ∃ val_ loc_, out_ = .returned val_ ∧ (Q_rm_addm Z xa ya nx fx ny fy k_xa k_ya h0 n0) val_ U'.heap loc_ ∧ FrameEnd U out_ U' loc_ ({ frames := 1, cells := 2, slots := 49, locals := 18 } : Room).cells ({ frames := 1, cells := 2, slots := 49, locals := 18 } : Room).slots) := by
  refine start (Q := (Q_rm_addm Z xa ya nx fx ny fy k_xa k_ya h0 n0)) pn_20 ?_
  intro p e s m below meth c T0 X0 hx hby hml hown hnm hret hlk hZ e0
  replace hown : s.vm.findClass "java/math/BigInteger" = some m.cls := hown
  replace hml : c.maxLocals = 9 := hml
  refine goAt (ef_rm_addm m xa ya ) ?_
  have N0 := Fr.nil n0
  show Go p e below T0 (mkF m 0 #[(sR xa), (sR ya), .unset, .unset, .unset, .unset, .unset, .unset, .unset] []) _
  have J13 : ∀ (xv yv : Addr) (kx ky : ClassId) (nX nY : Nat) (fX fY : Nat → Int32) (s2 : Slot), Arf Z h0 xv kx .int nX (fun i => (.int (fX i))) → Arf Z h0 yv ky .int nY (fun i => (.int (fY i))) → (0 < nY ∧ nY ≤ nX ∧ nX + nY = nx + ny ∧ (nX = nx ∨ nX = ny)) → (s2 = .unset ∨ ∃ u, s2 = .val (.ref u)) → Go p e below T0 (mkF m 13 #[(sR xv), (sR yv), s2, .unset, .unset, .unset, .unset, .unset, .unset] []) (Po s (Q_rm_addm Z xa ya nx fx ny fy k_xa k_ya h0 n0) ({ frames := 1, cells := 2, slots := 49, locals := 18 } : Room).cells ({ frames := 1, cells := 2, slots := 49, locals := 18 } : Room).slots) := by
    intro xv yv kx ky nX nY fX fY s2 VX VY hXY hs2
    obtain ⟨hY0, hle, hsum, hmx⟩ := hXY
    have hX4 : nX ≤ 4000 := by omega
    have hX5 : id (nX ≤ nx + 1 ∨ nX ≤ ny + 1) := by show _ ∨ _; omega
    have hX6 : id (nX + 1 ≤ nx + 1 ∨ nX + 1 ≤ ny + 1) := by show _ ∨ _; omega
    have hX7 : 0 < nX := by omega
    have hXl : nX ≤ 100 := by omega
    have hYl : nY ≤ 100 := by omega
    have hY4 : nY ≤ 4000 := by omega
    have hX24 : nX ≤ 24 := by omega
    have hXd : nX - 1 < nX := by omega
    have hXd2 : nX - 1 ≤ nX := by omega
    have hX25 : nX + 1 ≤ 25 := by omega
    have hX1l : nX + 1 ≤ 100 := by omega
    have hsub : nX - nY ≤ nX := by omega
    clear hmx
    replace hs2 : id (s2 = .unset ∨ ∃ u, s2 = .val (.ref u)) := hs2
    refine stp (fun _ => XS.aloadN X0.here hx rfl (hb hby d25_13) rfl rfl) ?_
    obtain ⟨cl1, Ar1, -, S1, -, -⟩ := (id VX)
    refine stp (fun _ => X0.arraylength hx (by rw [e0]; exact Ar1.1) (State.isArrayOf_alike hZ.alike Ar1.2.1) (g := (mkF m 14 #[(sR xv), (sR yv), s2, .unset, .unset, .unset, .unset, .unset, .unset] [(.ref xv)])) rfl rfl (hb hby d25_14) _) ?_
    rw [arf_len S1 (z := (Int32.ofNat nX)) (own_nI hXl)]
    refine stp (fun _ => XS.istoreN X0.here hx rfl (hb hby d25_15) rfl (l' := #[(sR xv), (sR yv), (sI (Int32.ofNat nX)), .unset, .unset, .unset, .unset, .unset, .unset]) (by rcases hs2 with e1 | ⟨u, e1⟩ <;> subst e1 <;> rfl)) ?_
    refine stp (fun _ => XS.aloadN X0.here hx rfl (hb hby d25_16) rfl rfl) ?_
    show Go p e below T0 (mkF m 17 #[(sR xv), (sR yv), (sI (Int32.ofNat nX)), .unset, .unset, .unset, .unset, .unset, .unset] [(.ref yv)]) _
    obtain ⟨cl2, Ar2, -, S2, -, -⟩ := (id VY)
    refine stp (fun _ => X0.arraylength hx (by rw [e0]; exact Ar2.1) (State.isArrayOf_alike hZ.alike Ar2.2.1) (g := (mkF m 17 #[(sR xv), (sR yv), (sI (Int32.ofNat nX)), .unset, .unset, .unset, .unset, .unset, .unset] [(.ref yv)])) rfl rfl (hb hby d25_17) _) ?_
    rw [arf_len S2 (z := (Int32.ofNat nY)) (own_nI hYl)]
    refine stp (fun _ => XS.istoreN X0.here hx rfl (hb hby d25_18) rfl (l' := #[(sR xv), (sR yv), (sI (Int32.ofNat nX)), (sI (Int32.ofNat nY)), .unset, .unset, .unset, .unset, .unset]) rfl) ?_
    refine stp (fun _ => XS.iloadN X0.here hx rfl (hb hby d25_19) rfl) ?_
    obtain ⟨T3, h3, k3, X3, e3, E3, A3, B3, st3⟩ := newPE X0 hx hZ (w_ hw (i := 136) rfl) e0 (g := (mkF m 20 #[(sR xv), (sR yv), (sI (Int32.ofNat nX)), (sI (Int32.ofNat nY)), .unset, .unset, .unset, .unset, .unset] [(.int (Int32.ofNat nX))])) rfl (hb hby d25_20) rfl (own_u0 (own_nI (k := nX) hXl)) (cap := 24) (by rw [arf_ix (own_nI (k := nX) hXl)]; exact hX24) (by decide) (by decide) (by decide) (ad := "[I") (by decide)
    obtain ⟨b3, g3⟩ : ∃ z, z = h0.size := ⟨_, rfl⟩
    rw [← g3] at A3 B3 st3
    have ne4 : xv ≠ b3 := Nat.ne_of_lt (Nat.lt_of_lt_of_le VX.lt (Nat.le_of_eq g3.symm))
    have ne5 : yv ≠ b3 := Nat.ne_of_lt (Nat.lt_of_lt_of_le VY.lt (Nat.le_of_eq g3.symm))
    have sz_b3 : h0.size ≤ b3 := Nat.le_trans (Keep.refl h0 []).1 (Nat.le_of_eq g3.symm)
    have ge_b3 : n0 ≤ b3 := Nat.le_trans (old_le O0) (Nat.le_of_eq g3.symm)
    have f6 := VX.ext E3
    have f7 := VY.ext E3
    have K3 : Keep h0 h3 [] := (Keep.refl h0 []).ext E3
    have O3 := O0.ext E3
    have V3 : Arf Z h3 b3 k3 .int nX (fun _ => (.int (0 : Int32))) := Arf.new A3 (own_u0 (own_nI (k := nX) hXl)) (arf_ix (own_nI (k := nX) hXl))
    refine stp st3 ?_
    refine stp (fun _ => XS.astore X3.here hx rfl (hb hby d25_22) rfl rfl (l' := #[(sR xv), (sR yv), (sI (Int32.ofNat nX)), (sI (Int32.ofNat nY)), (sR b3), .unset, .unset, .unset, .unset]) rfl) ?_
    show Go p e below T3 (mkF m 24 #[(sR xv), (sR yv), (sI (Int32.ofNat nX)), (sI (Int32.ofNat nY)), (sR b3), .unset, .unset, .unset, .unset] []) _
    refine stp (fun _ => XS.lconst X3.here hx rfl (hb hby d25_24)) ?_
    refine stp (fun _ => XS.lstore X3.here hx rfl (hb hby d25_25) rfl (l' := #[(sR xv), (sR yv), (sI (Int32.ofNat nX)), (sI (Int32.ofNat nY)), (sR b3), (sJ (0 : Int64)), .second, .unset, .unset]) rfl) ?_
    show Go p e below T3 (mkF m 27 #[(sR xv), (sR yv), (sI (Int32.ofNat nX)), (sI (Int32.ofNat nY)), (sR b3), (sJ (0 : Int64)), .second, .unset, .unset] []) _
    have J109 : ∀ (i2 : Int32) (i3 : Int32) (cy : Int64) (gg : Nat → Int32) (e0 : Nat), (e0 ≤ nX ∧ i2.toInt = (e0 : Int)) → ∀ (T : State) (locs : List Loc) (hA : Heap) (X : Stand p l e ({ frames := 1, cells := 2, slots := 49, locals := 18 } : Room) s m #[(.ref xa), (.ref ya)] below meth c T locs 1 24) (eA : T.heap = hA) (NA : Fr n0 locs) (OA : Old Z n0 hA) (KA : Keep h0 hA []) (FA0 : Arf Z hA xv kx .int nX (fun i => (.int (fX i)))) (FA1 : Arf Z hA yv ky .int nY (fun i => (.int (fY i)))) (FA2 : Arf Z hA b3 k3 .int nX (fun x => (.int (gg x)))), Go p e below T (mkF m 109 #[(sR xv), (sR yv), (sI i2), (sI i3), (sR b3), (sJ cy), .second, .unset, .unset] []) (Po s (Q_rm_addm Z xa ya nx fx ny fy k_xa k_ya h0 n0) ({ frames := 1, cells := 2, slots := 49, locals := 18 } : Room).cells ({ frames := 1, cells := 2, slots := 49, locals := 18 } : Room).slots) := by
      intro i2 i3 cy gg e0 hj T locs hA X eA NA OA KA FA0 FA1 FA2
      obtain ⟨hj1, hi2⟩ := hj
      refine stp (fun _ => XS.lload X.here hx rfl (hb hby d25_109) rfl) ?_
      show Go p e below T (mkF m 111 #[(sR xv), (sR yv), (sI i2), (sI i3), (sR b3), (sJ cy), .second, .unset, .unset] [(.long cy)]) _
      have J124 : ∀ (cr : Int32), True → Go p e below T (mkF m 124 #[(sR xv), (sR yv), (sI i2), (sI i3), (sR b3), (sJ cy), .second, .unset, .unset] [(.int cr)]) (Po s (Q_rm_addm Z xa ya nx fx ny fy k_xa k_ya h0 n0) ({ frames := 1, cells := 2, slots := 49, locals := 18 } : Room).cells ({ frames := 1, cells := 2, slots := 49, locals := 18 } : Room).slots) := by
        intro cr hj
        refine stp (fun _ => XS.istore X.here hx rfl (hb hby d25_124) rfl (l' := #[(sR xv), (sR yv), (sI i2), (sI i3), (sR b3), (sJ cy), .second, (sI cr), .unset]) rfl) ?_
        show Go p e below T (mkF m 126 #[(sR xv), (sR yv), (sI i2), (sI i3), (sR b3), (sJ cy), .second, (sI cr), .unset] []) _
        have loop126 : ∀ (d4 : Nat), ∀ (ie : Int32) (cr : Int32) (gg : Nat → Int32), (d4 ≤ nX ∧ ie.toInt = (d4 : Int)) → ∀ (T : State) (locs : List Loc) (hA : Heap) (X : Stand p l e ({ frames := 1, cells := 2, slots := 49, locals := 18 } : Room) s m #[(.ref xa), (.ref ya)] below meth c T locs 1 24) (eA : T.heap = hA) (NA : Fr n0 locs) (OA : Old Z n0 hA) (KA : Keep h0 hA []) (FA0 : Arf Z hA xv kx .int nX (fun i => (.int (fX i)))) (FA1 : Arf Z hA yv ky .int nY (fun i => (.int (fY i)))) (FA2 : Arf Z hA b3 k3 .int nX (fun x => (.int (gg x)))), Go p e below T (mkF m 126 #[(sR xv), (sR yv), (sI ie), (sI i3), (sR b3), (sJ cy), .second, (sI cr), .unset] []) (Po s (Q_rm_addm Z xa ya nx fx ny fy k_xa k_ya h0 n0) ({ frames := 1, cells := 2, slots := 49, locals := 18 } : Room).cells ({ frames := 1, cells := 2, slots := 49, locals := 18 } : Room).slots) := by
          intro d4
          induction d4 with
          | zero =>
            intro ie cr gg hd_ T locs hA X eA NA OA KA FA0 FA1 FA2 
            obtain ⟨m4, m5⟩ := hd_
            refine stp (fun _ => XS.iloadN X.here hx rfl (hb hby d25_126) rfl) ?_
            refine stp (fun _ => XS.ifYes X.here hx rfl (pc0 := 127) (pc' := 161) rfl (hb hby d25_127) rfl (XT.i0_le_t (own_geI rfl m5 (Nat.le_refl _))) (by decide) (by decide)) ?_
            show Go p e below T (mkF m 161 #[(sR xv), (sR yv), (sI ie), (sI i3), (sR b3), (sJ cy), .second, (sI cr), .unset] []) _
            refine stp (fun _ => XS.iloadN X.here hx rfl (hb hby d25_161) rfl) ?_
            refine stp (fun _ => XS.ifYes X.here hx rfl (pc0 := 162) (pc' := 178) rfl (hb hby d25_162) rfl (XT.i0_le_t (own_geI rfl m5 (Nat.le_refl _))) (by decide) (by decide)) ?_
            show Go p e below T (mkF m 178 #[(sR xv), (sR yv), (sI ie), (sI i3), (sR b3), (sJ cy), .second, (sI cr), .unset] []) _
            refine stp (fun _ => XS.iload X.here hx rfl (hb hby d25_178) rfl) ?_
            by_cases q180_8 : cr = 0
            · refine stp (fun _ => XS.ifYes X.here hx rfl (pc0 := 180) (pc' := 212) rfl (hb hby d25_180) rfl (XT.i0_eq_t q180_8) (by decide) (by decide)) ?_
              refine stp (fun _ => XS.aload X.here hx rfl (hb hby d25_212) rfl rfl) ?_
              refine outA X hx hret rfl rfl (hb hby d25_214) hlk (by decide) (by decide) ?_
              rw [eA]
              exact ⟨b3, k3, nX, (fun x => (gg x)), rfl, NA, KA, ⟨ge_b3, sz_b3⟩, FA2, ⟨hX7, hX5⟩⟩
            refine stp (fun _ => XS.ifNo X.here hx rfl (hb hby d25_180) rfl (XT.i0_eq_f q180_8)) ?_
            refine stp (fun _ => XS.aload X.here hx rfl (hb hby d25_183) rfl rfl) ?_
            obtain ⟨cl9, Ar9, -, S9, -, -⟩ := (id FA2)
            refine stp (fun _ => X.arraylength hx (by rw [eA]; exact Ar9.1) (State.isArrayOf_alike hZ.alike Ar9.2.1) (g := (mkF m 185 #[(sR xv), (sR yv), (sI ie), (sI i3), (sR b3), (sJ cy), .second, (sI cr), .unset] [(.ref b3)])) rfl rfl (hb hby d25_185) _) ?_
            rw [arf_len S9 (z := (Int32.ofNat nX)) (own_nI hXl)]
            refine stp (fun _ => XS.iconst X.here hx rfl (hb hby d25_186)) ?_
            show Go p e below T (mkF m 187 #[(sR xv), (sR yv), (sI ie), (sI i3), (sR b3), (sJ cy), .second, (sI cr), .unset] [(.int (1 : Int32)), (.int (Int32.ofNat nX))]) _
            refine stp (fun _ => XS.iadd X.here hx rfl (hb hby d25_187) rfl) ?_
            obtain ⟨T10, h10, k10, X10, e10, E10, A10, B10, st10⟩ := newPE X hx hZ (w_ hw (i := 136) rfl) eA (g := (mkF m 188 #[(sR xv), (sR yv), (sI ie), (sI i3), (sR b3), (sJ cy), .second, (sI cr), .unset] [(.int ((Int32.ofNat nX) + (1 : Int32)))])) rfl (hb hby d25_188) rfl (own_u0 (own_incI (own_nI (k := nX) hXl) hX4)) (cap := 25) (by rw [arf_ix (own_incI (own_nI (k := nX) hXl) hX4)]; exact hX25) (by decide) (by decide) (by decide) (ad := "[I") (by decide)
            obtain ⟨b10, g10⟩ : ∃ z, z = hA.size := ⟨_, rfl⟩
            rw [← g10] at A10 B10 st10
            have ne11 : b3 ≠ b10 := Nat.ne_of_lt (Nat.lt_of_lt_of_le FA2.lt (Nat.le_of_eq g10.symm))
            have ne12 : xv ≠ b10 := Nat.ne_of_lt (Nat.lt_of_lt_of_le FA0.lt (Nat.le_of_eq g10.symm))
            have ne13 : yv ≠ b10 := Nat.ne_of_lt (Nat.lt_of_lt_of_le FA1.lt (Nat.le_of_eq g10.symm))
            have sz_b10 : h0.size ≤ b10 := Nat.le_trans KA.1 (Nat.le_of_eq g10.symm)
            have ge_b10 : n0 ≤ b10 := Nat.le_trans (old_le OA) (Nat.le_of_eq g10.symm)
            have f14 := FA0.ext E10
            have f15 := FA1.ext E10
            have f16 := FA2.ext E10
            have K10 : Keep h0 h10 [] := KA.ext E10
            have O10 := OA.ext E10
            have V10 : Arf Z h10 b10 k10 .int (nX + 1) (fun _ => (.int (0 : Int32))) := Arf.new A10 (own_u0 (own_incI (own_nI (k := nX) hXl) hX4)) (arf_ix (own_incI (own_nI (k := nX) hXl) hX4))
            refine stp st10 ?_
            refine stp (fun _ => XS.astore X10.here hx rfl (hb hby d25_190) rfl rfl (l' := #[(sR xv), (sR yv), (sI ie), (sI i3), (sR b3), (sJ cy), .second, (sI cr), (sR b10)]) rfl) ?_
            refine stp (fun _ => XS.aload X10.here hx rfl (hb hby d25_192) rfl rfl) ?_
            refine stp (fun _ => XS.iconst X10.here hx rfl (hb hby d25_194)) ?_
            show Go p e below T10 (mkF m 195 #[(sR xv), (sR yv), (sI ie), (sI i3), (sR b3), (sJ cy), .second, (sI cr), (sR b10)] [(.int (0 : Int32)), (.ref b3)]) _
            refine stp (fun _ => XS.aload X10.here hx rfl (hb hby d25_195) rfl rfl) ?_
            refine stp (fun _ => XS.iconst X10.here hx rfl (hb hby d25_197)) ?_
            refine stp (fun _ => XS.aload X10.here hx rfl (hb hby d25_198) rfl rfl) ?_
            obtain ⟨cl17, Ar17, -, S17, -, -⟩ := (id f16)
            refine stp (fun _ => X10.arraylength hx (by rw [e10]; exact Ar17.1) (State.isArrayOf_alike hZ.alike Ar17.2.1) (g := (mkF m 200 #[(sR xv), (sR yv), (sI ie), (sI i3), (sR b3), (sJ cy), .second, (sI cr), (sR b10)] [(.ref b3), (.int (1 : Int32)), (.ref b10), (.int (0 : Int32)), (.ref b3)])) rfl rfl (hb hby d25_200) _) ?_
            rw [arf_len S17 (z := (Int32.ofNat nX)) (own_nI hXl)]
            show Go p e below T10 (mkF m 201 #[(sR xv), (sR yv), (sI ie), (sI i3), (sR b3), (sJ cy), .second, (sI cr), (sR b10)] [(.int (Int32.ofNat nX)), (.int (1 : Int32)), (.ref b10), (.int (0 : Int32)), (.ref b3)]) _
            obtain ⟨T18, h18, L18, g18, X18, e18, N18, K18q, V18, st18⟩ := cpI X10 hx hZ hown (w_ hw (i := 198) rfl) (w_ hw (i := 201) rfl) (w_ hw (i := 199) rfl) (w_ hw (i := 200) rfl) e10 f16 V10 hXl hX1l (sp := (0 : Int32)) (dp := (1 : Int32)) (nn := (Int32.ofNat nX)) (SP := 0) (DP := 1) (NN := nX) rfl rfl (own_nI (k := nX) hXl) (Nat.le_of_eq (Nat.zero_add _)) (Nat.le_of_eq (Nat.add_comm _ _)) NA ge_b10 (g := (mkF m 201 #[(sR xv), (sR yv), (sI ie), (sI i3), (sR b3), (sJ cy), .second, (sI cr), (sR b10)] [(.int (Int32.ofNat nX)), (.int (1 : Int32)), (.ref b10), (.int (0 : Int32)), (.ref b3)])) rfl (by rw [hml]; rfl) rfl (hb hby d25_201) (by decide) (W := 0) (by show 2 * 0 + _ ≤ _; exact Nat.le_of_eq rfl) (by decide)
            have f19 := f14.keep K18q (ninS ne12 nin0)
            have f20 := f15.keep K18q (ninS ne13 nin0)
            have f21 := f16.keep K18q (ninS ne11 nin0)
            have f22 := B10.keep K18q
            have K18 : Keep h0 h18 [] := K10.trans K18q (allS (Or.inr sz_b10) all0)
            have O18 := O10.keep K18q (allS ge_b10 all0)
            refine stp st18 ?_
            refine stp (fun _ => XS.aload X18.here hx rfl (hb hby d25_204) rfl rfl) ?_
            refine stp (fun _ => XS.iconst X18.here hx rfl (hb hby d25_206)) ?_
            refine stp (fun _ => XS.iconst X18.here hx rfl (hb hby d25_207)) ?_
            obtain ⟨cl23, Ar23, q23, S23, H23, G23⟩ := (id V18)
            have in23 : ¬ ((0 : Int32) < 0 ∨ cl23.slots.size ≤ ((0 : Int32)).toNatClampNeg) := arf_in S23 (show (0 : Int32).toInt = ((0 : Nat) : Int) from rfl) (Nat.succ_pos _)
            obtain ⟨T23, h23, X23, e23, W23, st23⟩ := stI X18 hx hZ e18 Ar23 (j := (0 : Int32)) in23 (g := (mkF m 208 #[(sR xv), (sR yv), (sI ie), (sI i3), (sR b3), (sJ cy), .second, (sI cr), (sR b10)] [(.int (1 : Int32)), (.int (0 : Int32)), (.ref b10)])) rfl rfl (hb hby d25_208)
            have V23 := Arf.set Ar23 q23 S23 H23 G23 rfl (arf_ix (show (0 : Int32).toInt = ((0 : Nat) : Int) from rfl) ▸ W23) (Nat.succ_pos _)
            replace V23 : Arf Z h23 b10 k10 .int (nX + 1) (fun x => (.int (if x = 0 then (1 : Int32) else (g18 x)))) := V23.congr (fun x _ => by split <;> rfl)
            have f24 := f19.other W23 ne12
            have f25 := f20.other W23 ne13
            have f26 := f21.other W23 ne11
            have f27 := f22.wr W23
            have K23 : Keep h0 h23 [] := K18.wr W23 (Or.inr sz_b10)
            have O23 := O18.wr W23 ge_b10
            have N23 := Fr.snoc X23 N18 ge_b10
            refine stp st23 ?_
            show Go p e below T23 (mkF m 209 #[(sR xv), (sR yv), (sI ie), (sI i3), (sR b3), (sJ cy), .second, (sI cr), (sR b10)] []) _
            refine stp (fun _ => XS.aload X23.here hx rfl (hb hby d25_209) rfl rfl) ?_
            refine outA X23 hx hret rfl rfl (hb hby d25_211) hlk (by decide) (by decide) ?_
            rw [e23]
            exact ⟨b10, k10, (nX + 1), (fun x => (if x = 0 then (1 : Int32) else (g18 x))), rfl, N23, K23, ⟨ge_b10, sz_b10⟩, V23, ⟨Nat.succ_pos _, hX6⟩⟩
          | succ d4 ih4 =>
            intro ie cr gg hd_ T locs hA X eA NA OA KA FA0 FA1 FA2 
            obtain ⟨m4, m5⟩ := hd_
            have je : (ie + (-1 : Int32)).toInt = ((d4 : Nat) : Int) := own_decN (j := d4 + 1) m5 (Nat.succ_pos _) (Nat.le_trans m4 hX4)
            refine stp (fun _ => XS.iloadN X.here hx rfl (hb hby d25_126) rfl) ?_
            refine stp (fun _ => XS.ifNo X.here hx rfl (hb hby d25_127) rfl (XT.i0_le_f (own_ltI rfl m5 (Nat.succ_pos _)))) ?_
            refine stp (fun _ => XS.iload X.here hx rfl (hb hby d25_130) rfl) ?_
            by_cases q132_29 : cr = 0
            rotate_left
            · refine stp (fun _ => XS.ifNo X.here hx rfl (hb hby d25_132) rfl (XT.i0_eq_f q132_29)) ?_
              show Go p e below T (mkF m 135 #[(sR xv), (sR yv), (sI ie), (sI i3), (sR b3), (sJ cy), .second, (sI cr), .unset] []) _
              refine stp (fun _ => XS.aload X.here hx rfl (hb hby d25_135) rfl rfl) ?_
              refine stp (fun _ => XS.iinc X.here hx rfl (hb hby d25_137) rfl (l' := #[(sR xv), (sR yv), (sI (ie + (-1 : Int32))), (sI i3), (sR b3), (sJ cy), .second, (sI cr), .unset]) rfl) ?_
              refine stp (fun _ => XS.iloadN X.here hx rfl (hb hby d25_140) rfl) ?_
              refine stp (fun _ => XS.aloadN X.here hx rfl (hb hby d25_141) rfl rfl) ?_
              refine stp (fun _ => XS.iloadN X.here hx rfl (hb hby d25_142) rfl) ?_
              show Go p e below T (mkF m 143 #[(sR xv), (sR yv), (sI (ie + (-1 : Int32))), (sI i3), (sR b3), (sJ cy), .second, (sI cr), .unset] [(.int (ie + (-1 : Int32))), (.ref xv), (.int (ie + (-1 : Int32))), (.ref b3)]) _
              obtain ⟨cl56, Ar56, q56, S56, H56, G56⟩ := (id FA0)
              have in56 : ¬ ((ie + (-1 : Int32)) < 0 ∨ cl56.slots.size ≤ ((ie + (-1 : Int32))).toNatClampNeg) := arf_in S56 je m4
              have at56 : cl56.slots[((ie + (-1 : Int32))).toNatClampNeg]? = some (.int (fX d4)) := arf_at H56 je m4
              refine stp (fun _ => X.iaload hx (j := (ie + (-1 : Int32))) (v := (.int (fX d4))) (by rw [eA]; exact Ar56.1) (State.isArrayOf_alike hZ.alike Ar56.2.1) Ar56.2.2 in56 at56 (g := (mkF m 143 #[(sR xv), (sR yv), (sI (ie + (-1 : Int32))), (sI i3), (sR b3), (sJ cy), .second, (sI cr), .unset] [(.int (ie + (-1 : Int32))), (.ref xv), (.int (ie + (-1 : Int32))), (.ref b3)])) rfl rfl (hb hby d25_143) _) ?_
              refine stp (fun _ => XS.iconst X.here hx rfl (hb hby d25_144)) ?_
              refine stp (fun _ => XS.iadd X.here hx rfl (hb hby d25_145) rfl) ?_
              refine stp (fun _ => own_dupX2 X.here hx rfl (hb hby d25_146) rfl rfl rfl rfl) ?_
              obtain ⟨cl57, Ar57, q57, S57, H57, G57⟩ := (id FA2)
              have in57 : ¬ ((ie + (-1 : Int32)) < 0 ∨ cl57.slots.size ≤ ((ie + (-1 : Int32))).toNatClampNeg) := arf_in S57 je m4
              obtain ⟨T57, h57, X57, e57, W57, st57⟩ := stI X hx hZ eA Ar57 (j := (ie + (-1 : Int32))) in57 (g := (mkF m 147 #[(sR xv), (sR yv), (sI (ie + (-1 : Int32))), (sI i3), (sR b3), (sJ cy), .second, (sI cr), .unset] [(.int ((fX d4) + (1 : Int32))), (.int (ie + (-1 : Int32))), (.ref b3), (.int ((fX d4) + (1 : Int32)))])) rfl rfl (hb hby d25_147)
              have V57 := Arf.set Ar57 q57 S57 H57 G57 rfl (arf_ix je ▸ W57) m4
              replace V57 : Arf Z h57 b3 k3 .int nX (fun x => (.int (if x = d4 then ((fX d4) + (1 : Int32)) else (gg x)))) := V57.congr (fun x _ => by split <;> rfl)
              have f58 := FA0.other W57 ne4
              have f59 := FA1.other W57 ne5
              have K57 : Keep h0 h57 [] := KA.wr W57 (Or.inr sz_b3)
              have O57 := OA.wr W57 ge_b3
              have N57 := Fr.snoc X57 NA ge_b3
              refine stp st57 ?_
              show Go p e below T57 (mkF m 148 #[(sR xv), (sR yv), (sI (ie + (-1 : Int32))), (sI i3), (sR b3), (sJ cy), .second, (sI cr), .unset] [(.int ((fX d4) + (1 : Int32)))]) _
              have J156 : ∀ (c2 : Int32), True → Go p e below T57 (mkF m 156 #[(sR xv), (sR yv), (sI (ie + (-1 : Int32))), (sI i3), (sR b3), (sJ cy), .second, (sI cr), .unset] [(.int c2)]) (Po s (Q_rm_addm Z xa ya nx fx ny fy k_xa k_ya h0 n0) ({ frames := 1, cells := 2, slots := 49, locals := 18 } : Room).cells ({ frames := 1, cells := 2, slots := 49, locals := 18 } : Room).slots) := by
                intro c2 hj
                refine stp (fun _ => XS.istore X57.here hx rfl (hb hby d25_156) rfl (l' := #[(sR xv), (sR yv), (sI (ie + (-1 : Int32))), (sI i3), (sR b3), (sJ cy), .second, (sI c2), .unset]) rfl) ?_
                refine stp (fun _ => XS.goto X57.here hx rfl (pc0 := 158) (pc' := 126) rfl (hb hby d25_158) (by decide) (by decide)) ?_
                show Go p e below T57 (mkF m 126 #[(sR xv), (sR yv), (sI (ie + (-1 : Int32))), (sI i3), (sR b3), (sJ cy), .second, (sI c2), .unset] []) _
                exact ih4 (ie + (-1 : Int32)) c2 _ ⟨Nat.le_of_succ_le m4, je⟩ T57 _ h57 X57 e57 N57 O57 K57 f58 f59 V57 
              by_cases q148_61 : ((fX d4) + (1 : Int32)) = 0
              rotate_left
              · refine stp (fun _ => XS.ifYes X57.here hx rfl (pc0 := 148) (pc' := 155) rfl (hb hby d25_148) rfl (XT.i0_ne_t q148_61) (by decide) (by decide)) ?_
                refine stp (fun _ => XS.iconst X57.here hx rfl (hb hby d25_155)) ?_
                show Go p e below T57 (mkF m 156 #[(sR xv), (sR yv), (sI (ie + (-1 : Int32))), (sI i3), (sR b3), (sJ cy), .second, (sI cr), .unset] [(.int (0 : Int32))]) _
                exact J156 (0 : Int32) trivial
              refine stp (fun _ => XS.ifNo X57.here hx rfl (hb hby d25_148) rfl (XT.i0_ne_f q148_61)) ?_
              refine stp (fun _ => XS.iconst X57.here hx rfl (hb hby d25_151)) ?_
              refine stp (fun _ => XS.goto X57.here hx rfl (pc0 := 152) (pc' := 156) rfl (hb hby d25_152) (by decide) (by decide)) ?_
              show Go p e below T57 (mkF m 156 #[(sR xv), (sR yv), (sI (ie + (-1 : Int32))), (sI i3), (sR b3), (sJ cy), .second, (sI cr), .unset] [(.int (1 : Int32))]) _
              exact J156 (1 : Int32) trivial
            refine stp (fun _ => XS.ifYes X.here hx rfl (pc0 := 132) (pc' := 161) rfl (hb hby d25_132) rfl (XT.i0_eq_t q132_29) (by decide) (by decide)) ?_
            show Go p e below T (mkF m 161 #[(sR xv), (sR yv), (sI ie), (sI i3), (sR b3), (sJ cy), .second, (sI cr), .unset] []) _
            have loop161 : ∀ (d5 : Nat), ∀ (ie : Int32) (gg : Nat → Int32), (d5 ≤ nX ∧ ie.toInt = (d5 : Int)) → ∀ (T : State) (locs : List Loc) (hA : Heap) (X : Stand p l e ({ frames := 1, cells := 2, slots := 49, locals := 18 } : Room) s m #[(.ref xa), (.ref ya)] below meth c T locs 1 24) (eA : T.heap = hA) (NA : Fr n0 locs) (OA : Old Z n0 hA) (KA : Keep h0 hA []) (FA0 : Arf Z hA xv kx .int nX (fun i => (.int (fX i)))) (FA1 : Arf Z hA yv ky .int nY (fun i => (.int (fY i)))) (FA2 : Arf Z hA b3 k3 .int nX (fun x => (.int (gg x)))), Go p e below T (mkF m 161 #[(sR xv), (sR yv), (sI ie), (sI i3), (sR b3), (sJ cy), .second, (sI cr), .unset] []) (Po s (Q_rm_addm Z xa ya nx fx ny fy k_xa k_ya h0 n0) ({ frames := 1, cells := 2, slots := 49, locals := 18 } : Room).cells ({ frames := 1, cells := 2, slots := 49, locals := 18 } : Room).slots) := by
              intro d5
              induction d5 with
              | zero =>
                intro ie gg hd_ T locs hA X eA NA OA KA FA0 FA1 FA2 
                obtain ⟨m4, m5⟩ := hd_
                refine stp (fun _ => XS.iloadN X.here hx rfl (hb hby d25_161) rfl) ?_
                refine stp (fun _ => XS.ifYes X.here hx rfl (pc0 := 162) (pc' := 178) rfl (hb hby d25_162) rfl (XT.i0_le_t (own_geI rfl m5 (Nat.le_refl _))) (by decide) (by decide)) ?_
                show Go p e below T (mkF m 178 #[(sR xv), (sR yv), (sI ie), (sI i3), (sR b3), (sJ cy), .second, (sI cr), .unset] []) _
                refine stp (fun _ => XS.iload X.here hx rfl (hb hby d25_178) rfl) ?_
                by_cases q180_30 : cr = 0
                · refine stp (fun _ => XS.ifYes X.here hx rfl (pc0 := 180) (pc' := 212) rfl (hb hby d25_180) rfl (XT.i0_eq_t q180_30) (by decide) (by decide)) ?_
                  refine stp (fun _ => XS.aload X.here hx rfl (hb hby d25_212) rfl rfl) ?_
                  refine outA X hx hret rfl rfl (hb hby d25_214) hlk (by decide) (by decide) ?_
                  rw [eA]
                  exact ⟨b3, k3, nX, (fun x => (gg x)), rfl, NA, KA, ⟨ge_b3, sz_b3⟩, FA2, ⟨hX7, hX5⟩⟩
                refine stp (fun _ => XS.ifNo X.here hx rfl (hb hby d25_180) rfl (XT.i0_eq_f q180_30)) ?_
                refine stp (fun _ => XS.aload X.here hx rfl (hb hby d25_183) rfl rfl) ?_
                obtain ⟨cl31, Ar31, -, S31, -, -⟩ := (id FA2)
                refine stp (fun _ => X.arraylength hx (by rw [eA]; exact Ar31.1) (State.isArrayOf_alike hZ.alike Ar31.2.1) (g := (mkF m 185 #[(sR xv), (sR yv), (sI ie), (sI i3), (sR b3), (sJ cy), .second, (sI cr), .unset] [(.ref b3)])) rfl rfl (hb hby d25_185) _) ?_
                rw [arf_len S31 (z := (Int32.ofNat nX)) (own_nI hXl)]
                refine stp (fun _ => XS.iconst X.here hx rfl (hb hby d25_186)) ?_
                show Go p e below T (mkF m 187 #[(sR xv), (sR yv), (sI ie), (sI i3), (sR b3), (sJ cy), .second, (sI cr), .unset] [(.int (1 : Int32)), (.int (Int32.ofNat nX))]) _
                refine stp (fun _ => XS.iadd X.here hx rfl (hb hby d25_187) rfl) ?_
                obtain ⟨T32, h32, k32, X32, e32, E32, A32, B32, st32⟩ := newPE X hx hZ (w_ hw (i := 136) rfl) eA (g := (mkF m 188 #[(sR xv), (sR yv), (sI ie), (sI i3), (sR b3), (sJ cy), .second, (sI cr), .unset] [(.int ((Int32.ofNat nX) + (1 : Int32)))])) rfl (hb hby d25_188) rfl (own_u0 (own_incI (own_nI (k := nX) hXl) hX4)) (cap := 25) (by rw [arf_ix (own_incI (own_nI (k := nX) hXl) hX4)]; exact hX25) (by decide) (by decide) (by decide) (ad := "[I") (by decide)
                obtain ⟨b32, g32⟩ : ∃ z, z = hA.size := ⟨_, rfl⟩
                rw [← g32] at A32 B32 st32
                have ne33 : b3 ≠ b32 := Nat.ne_of_lt (Nat.lt_of_lt_of_le FA2.lt (Nat.le_of_eq g32.symm))
                have ne34 : xv ≠ b32 := Nat.ne_of_lt (Nat.lt_of_lt_of_le FA0.lt (Nat.le_of_eq g32.symm))
                have ne35 : yv ≠ b32 := Nat.ne_of_lt (Nat.lt_of_lt_of_le FA1.lt (Nat.le_of_eq g32.symm))
                have sz_b32 : h0.size ≤ b32 := Nat.le_trans KA.1 (Nat.le_of_eq g32.symm)
                have ge_b32 : n0 ≤ b32 := Nat.le_trans (old_le OA) (Nat.le_of_eq g32.symm)
                have f36 := FA0.ext E32
                have f37 := FA1.ext E32
                have f38 := FA2.ext E32
                have K32 : Keep h0 h32 [] := KA.ext E32
                have O32 := OA.ext E32
                have V32 : Arf Z h32 b32 k32 .int (nX + 1) (fun _ => (.int (0 : Int32))) := Arf.new A32 (own_u0 (own_incI (own_nI (k := nX) hXl) hX4)) (arf_ix (own_incI (own_nI (k := nX) hXl) hX4))
                refine stp st32 ?_
                refine stp (fun _ => XS.astore X32.here hx rfl (hb hby d25_190) rfl rfl (l' := #[(sR xv), (sR yv), (sI ie), (sI i3), (sR b3), (sJ cy), .second, (sI cr), (sR b32)]) rfl) ?_
                refine stp (fun _ => XS.aload X32.here hx rfl (hb hby d25_192) rfl rfl) ?_
                refine stp (fun _ => XS.iconst X32.here hx rfl (hb hby d25_194)) ?_
                show Go p e below T32 (mkF m 195 #[(sR xv), (sR yv), (sI ie), (sI i3), (sR b3), (sJ cy), .second, (sI cr), (sR b32)] [(.int (0 : Int32)), (.ref b3)]) _
                refine stp (fun _ => XS.aload X32.here hx rfl (hb hby d25_195) rfl rfl) ?_
                refine stp (fun _ => XS.iconst X32.here hx rfl (hb hby d25_197)) ?_
                refine stp (fun _ => XS.aload X32.here hx rfl (hb hby d25_198) rfl rfl) ?_
                obtain ⟨cl39, Ar39, -, S39, -, -⟩ := (id f38)
                refine stp (fun _ => X32.arraylength hx (by rw [e32]; exact Ar39.1) (State.isArrayOf_alike hZ.alike Ar39.2.1) (g := (mkF m 200 #[(sR xv), (sR yv), (sI ie), (sI i3), (sR b3), (sJ cy), .second, (sI cr), (sR b32)] [(.ref b3), (.int (1 : Int32)), (.ref b32), (.int (0 : Int32)), (.ref b3)])) rfl rfl (hb hby d25_200) _) ?_
                rw [arf_len S39 (z := (Int32.ofNat nX)) (own_nI hXl)]
                show Go p e below T32 (mkF m 201 #[(sR xv), (sR yv), (sI ie), (sI i3), (sR b3), (sJ cy), .second, (sI cr), (sR b32)] [(.int (Int32.ofNat nX)), (.int (1 : Int32)), (.ref b32), (.int (0 : Int32)), (.ref b3)]) _
                obtain ⟨T40, h40, L40, g40, X40, e40, N40, K40q, V40, st40⟩ := cpI X32 hx hZ hown (w_ hw (i := 198) rfl) (w_ hw (i := 201) rfl) (w_ hw (i := 199) rfl) (w_ hw (i := 200) rfl) e32 f38 V32 hXl hX1l (sp := (0 : Int32)) (dp := (1 : Int32)) (nn := (Int32.ofNat nX)) (SP := 0) (DP := 1) (NN := nX) rfl rfl (own_nI (k := nX) hXl) (Nat.le_of_eq (Nat.zero_add _)) (Nat.le_of_eq (Nat.add_comm _ _)) NA ge_b32 (g := (mkF m 201 #[(sR xv), (sR yv), (sI ie), (sI i3), (sR b3), (sJ cy), .second, (sI cr), (sR b32)] [(.int (Int32.ofNat nX)), (.int (1 : Int32)), (.ref b32), (.int (0 : Int32)), (.ref b3)])) rfl (by rw [hml]; rfl) rfl (hb hby d25_201) (by decide) (W := 0) (by show 2 * 0 + _ ≤ _; exact Nat.le_of_eq rfl) (by decide)
                have f41 := f36.keep K40q (ninS ne34 nin0)
                have f42 := f37.keep K40q (ninS ne35 nin0)
                have f43 := f38.keep K40q (ninS ne33 nin0)
                have f44 := B32.keep K40q
                have K40 : Keep h0 h40 [] := K32.trans K40q (allS (Or.inr sz_b32) all0)
                have O40 := O32.keep K40q (allS ge_b32 all0)
                refine stp st40 ?_
                refine stp (fun _ => XS.aload X40.here hx rfl (hb hby d25_204) rfl rfl) ?_
                refine stp (fun _ => XS.iconst X40.here hx rfl (hb hby d25_206)) ?_
                refine stp (fun _ => XS.iconst X40.here hx rfl (hb hby d25_207)) ?_
                obtain ⟨cl45, Ar45, q45, S45, H45, G45⟩ := (id V40)
                have in45 : ¬ ((0 : Int32) < 0 ∨ cl45.slots.size ≤ ((0 : Int32)).toNatClampNeg) := arf_in S45 (show (0 : Int32).toInt = ((0 : Nat) : Int) from rfl) (Nat.succ_pos _)
                obtain ⟨T45, h45, X45, e45, W45, st45⟩ := stI X40 hx hZ e40 Ar45 (j := (0 : Int32)) in45 (g := (mkF m 208 #[(sR xv), (sR yv), (sI ie), (sI i3), (sR b3), (sJ cy), .second, (sI cr), (sR b32)] [(.int (1 : Int32)), (.int (0 : Int32)), (.ref b32)])) rfl rfl (hb hby d25_208)
                have V45 := Arf.set Ar45 q45 S45 H45 G45 rfl (arf_ix (show (0 : Int32).toInt = ((0 : Nat) : Int) from rfl) ▸ W45) (Nat.succ_pos _)
                replace V45 : Arf Z h45 b32 k32 .int (nX + 1) (fun x => (.int (if x = 0 then (1 : Int32) else (g40 x)))) := V45.congr (fun x _ => by split <;> rfl)
                have f46 := f41.other W45 ne34
                have f47 := f42.other W45 ne35
                have f48 := f43.other W45 ne33
                have f49 := f44.wr W45
                have K45 : Keep h0 h45 [] := K40.wr W45 (Or.inr sz_b32)
                have O45 := O40.wr W45 ge_b32
                have N45 := Fr.snoc X45 N40 ge_b32
                refine stp st45 ?_
                show Go p e below T45 (mkF m 209 #[(sR xv), (sR yv), (sI ie), (sI i3), (sR b3), (sJ cy), .second, (sI cr), (sR b32)] []) _
                refine stp (fun _ => XS.aload X45.here hx rfl (hb hby d25_209) rfl rfl) ?_
                refine outA X45 hx hret rfl rfl (hb hby d25_211) hlk (by decide) (by decide) ?_
                rw [e45]
                exact ⟨b32, k32, (nX + 1), (fun x => (if x = 0 then (1 : Int32) else (g40 x))), rfl, N45, K45, ⟨ge_b32, sz_b32⟩, V45, ⟨Nat.succ_pos _, hX6⟩⟩
              | succ d5 ih5 =>
                intro ie gg hd_ T locs hA X eA NA OA KA FA0 FA1 FA2 
                obtain ⟨m4, m5⟩ := hd_
                have je : (ie + (-1 : Int32)).toInt = ((d5 : Nat) : Int) := own_decN (j := d5 + 1) m5 (Nat.succ_pos _) (Nat.le_trans m4 hX4)
                refine stp (fun _ => XS.iloadN X.here hx rfl (hb hby d25_161) rfl) ?_
                refine stp (fun _ => XS.ifNo X.here hx rfl (hb hby d25_162) rfl (XT.i0_le_f (own_ltI rfl m5 (Nat.succ_pos _)))) ?_
                refine stp (fun _ => XS.aload X.here hx rfl (hb hby d25_165) rfl rfl) ?_
                refine stp (fun _ => XS.iinc X.here hx rfl (hb hby d25_167) rfl (l' := #[(sR xv), (sR yv), (sI (ie + (-1 : Int32))), (sI i3), (sR b3), (sJ cy), .second, (sI cr), .unset]) rfl) ?_
                show Go p e below T (mkF m 170 #[(sR xv), (sR yv), (sI (ie + (-1 : Int32))), (sI i3), (sR b3), (sJ cy), .second, (sI cr), .unset] [(.ref b3)]) _
                refine stp (fun _ => XS.iloadN X.here hx rfl (hb hby d25_170) rfl) ?_
                refine stp (fun _ => XS.aloadN X.here hx rfl (hb hby d25_171) rfl rfl) ?_
                refine stp (fun _ => XS.iloadN X.here hx rfl (hb hby d25_172) rfl) ?_
                obtain ⟨cl51, Ar51, q51, S51, H51, G51⟩ := (id FA0)
                have in51 : ¬ ((ie + (-1 : Int32)) < 0 ∨ cl51.slots.size ≤ ((ie + (-1 : Int32))).toNatClampNeg) := arf_in S51 je m4
                have at51 : cl51.slots[((ie + (-1 : Int32))).toNatClampNeg]? = some (.int (fX d5)) := arf_at H51 je m4
                refine stp (fun _ => X.iaload hx (j := (ie + (-1 : Int32))) (v := (.int (fX d5))) (by rw [eA]; exact Ar51.1) (State.isArrayOf_alike hZ.alike Ar51.2.1) Ar51.2.2 in51 at51 (g := (mkF m 173 #[(sR xv), (sR yv), (sI (ie + (-1 : Int32))), (sI i3), (sR b3), (sJ cy), .second, (sI cr), .unset] [(.int (ie + (-1 : Int32))), (.ref xv), (.int (ie + (-1 : Int32))), (.ref b3)])) rfl rfl (hb hby d25_173) _) ?_
                obtain ⟨cl52, Ar52, q52, S52, H52, G52⟩ := (id FA2)
                have in52 : ¬ ((ie + (-1 : Int32)) < 0 ∨ cl52.slots.size ≤ ((ie + (-1 : Int32))).toNatClampNeg) := arf_in S52 je m4
                obtain ⟨T52, h52, X52, e52, W52, st52⟩ := stI X hx hZ eA Ar52 (j := (ie + (-1 : Int32))) in52 (g := (mkF m 174 #[(sR xv), (sR yv), (sI (ie + (-1 : Int32))), (sI i3), (sR b3), (sJ cy), .second, (sI cr), .unset] [(.int (fX d5)), (.int (ie + (-1 : Int32))), (.ref b3)])) rfl rfl (hb hby d25_174)
                have V52 := Arf.set Ar52 q52 S52 H52 G52 rfl (arf_ix je ▸ W52) m4
                replace V52 : Arf Z h52 b3 k3 .int nX (fun x => (.int (if x = d5 then (fX d5) else (gg x)))) := V52.congr (fun x _ => by split <;> rfl)
                have f53 := FA0.other W52 ne4
                have f54 := FA1.other W52 ne5
                have K52 : Keep h0 h52 [] := KA.wr W52 (Or.inr sz_b3)
                have O52 := OA.wr W52 ge_b3
                have N52 := Fr.snoc X52 NA ge_b3
                refine stp st52 ?_
                show Go p e below T52 (mkF m 175 #[(sR xv), (sR yv), (sI (ie + (-1 : Int32))), (sI i3), (sR b3), (sJ cy), .second, (sI cr), .unset] []) _
                refine stp (fun _ => XS.goto X52.here hx rfl (pc0 := 175) (pc' := 161) rfl (hb hby d25_175) (by decide) (by decide)) ?_
                show Go p e below T52 (mkF m 161 #[(sR xv), (sR yv), (sI (ie + (-1 : Int32))), (sI i3), (sR b3), (sJ cy), .second, (sI cr), .unset] []) _
                exact ih5 (ie + (-1 : Int32)) _ ⟨Nat.le_of_succ_le m4, je⟩ T52 _ h52 X52 e52 N52 O52 K52 f53 f54 V52 
            exact loop161 _ ie (fun x => (gg x)) ⟨m4, m5⟩ T _ hA X eA NA OA KA FA0 FA1 FA2 
        exact loop126 _ i2 cr (fun x => (gg x)) ⟨hj1, hi2⟩ T _ hA X eA NA OA KA FA0 FA1 FA2 
      refine stp (fun _ => XS.bipush X.here hx rfl (hb hby d25_111)) ?_
      refine stp (fun _ => XS.lushr X.here hx rfl (hb hby d25_113) rfl) ?_
      refine stp (fun _ => XS.lconst X.here hx rfl (hb hby d25_114)) ?_
      refine stp (fun _ => XS.lcmp X.here hx rfl (hb hby d25_115) rfl) ?_
      by_cases q116_62 : ((cy.toUInt64 >>> ((32 : Int32) &&& 0x3f).toInt64.toUInt64).toInt64) = (0 : Int64)
      · refine stp (fun _ => XS.ifYes X.here hx rfl (pc0 := 116) (pc' := 123) rfl (hb hby d25_116) rfl (XT.ll_eq_t q116_62) (by decide) (by decide)) ?_
        show Go p e below T (mkF m 123 #[(sR xv), (sR yv), (sI i2), (sI i3), (sR b3), (sJ cy), .second, .unset, .unset] []) _
        refine stp (fun _ => XS.iconst X.here hx rfl (hb hby d25_123)) ?_
        show Go p e below T (mkF m 124 #[(sR xv), (sR yv), (sI i2), (sI i3), (sR b3), (sJ cy), .second, .unset, .unset] [(.int (0 : Int32))]) _
        exact J124 (0 : Int32) trivial
      refine stp (fun _ => XS.ifNo X.here hx rfl (hb hby d25_116) rfl (XT.ll_eq_f q116_62)) ?_
      show Go p e below T (mkF m 119 #[(sR xv), (sR yv), (sI i2), (sI i3), (sR b3), (sJ cy), .second, .unset, .unset] []) _
      refine stp (fun _ => XS.iconst X.here hx rfl (hb hby d25_119)) ?_
      refine stp (fun _ => XS.goto X.here hx rfl (pc0 := 120) (pc' := 124) rfl (hb hby d25_120) (by decide) (by decide)) ?_
      show Go p e below T (mkF m 124 #[(sR xv), (sR yv), (sI i2), (sI i3), (sR b3), (sJ cy), .second, .unset, .unset] [(.int (1 : Int32))]) _
      exact J124 (1 : Int32) trivial
    refine stp (fun _ => XS.iloadN X3.here hx rfl (hb hby d25_27) rfl) ?_
    refine stp (fun _ => XS.iconst X3.here hx rfl (hb hby d25_28)) ?_
    by_cases q29_63 : (Int32.ofNat nY) = (1 : Int32)
    · refine stp (fun _ => XS.icmpNo X3.here hx rfl (hb hby d25_29) rfl (XT.ii_ne_f q29_63)) ?_
      refine stp (fun _ => XS.aloadN X3.here hx rfl (hb hby d25_32) rfl rfl) ?_
      refine stp (fun _ => XS.iinc X3.here hx rfl (hb hby d25_33) rfl (l' := #[(sR xv), (sR yv), (sI ((Int32.ofNat nX) + (-1 : Int32))), (sI (Int32.ofNat nY)), (sR b3), (sJ (0 : Int64)), .second, .unset, .unset]) rfl) ?_
      show Go p e below T3 (mkF m 36 #[(sR xv), (sR yv), (sI ((Int32.ofNat nX) + (-1 : Int32))), (sI (Int32.ofNat nY)), (sR b3), (sJ (0 : Int64)), .second, .unset, .unset] [(.ref xv)]) _
      refine stp (fun _ => XS.iloadN X3.here hx rfl (hb hby d25_36) rfl) ?_
      obtain ⟨cl64, Ar64, q64, S64, H64, G64⟩ := (id f6)
      have in64 : ¬ (((Int32.ofNat nX) + (-1 : Int32)) < 0 ∨ cl64.slots.size ≤ (((Int32.ofNat nX) + (-1 : Int32))).toNatClampNeg) := arf_in S64 (own_decN (own_nI (k := nX) hXl) hX7 hX4) hXd
      have at64 : cl64.slots[(((Int32.ofNat nX) + (-1 : Int32))).toNatClampNeg]? = some (.int (fX (nX - 1))) := arf_at H64 (own_decN (own_nI (k := nX) hXl) hX7 hX4) hXd
      refine stp (fun _ => X3.iaload hx (j := ((Int32.ofNat nX) + (-1 : Int32))) (v := (.int (fX (nX - 1)))) (by rw [e3]; exact Ar64.1) (State.isArrayOf_alike hZ.alike Ar64.2.1) Ar64.2.2 in64 at64 (g := (mkF m 37 #[(sR xv), (sR yv), (sI ((Int32.ofNat nX) + (-1 : Int32))), (sI (Int32.ofNat nY)), (sR b3), (sJ (0 : Int64)), .second, .unset, .unset] [(.int ((Int32.ofNat nX) + (-1 : Int32))), (.ref xv)])) rfl rfl (hb hby d25_37) _) ?_
      refine stp (fun _ => XS.i2l X3.here hx rfl (hb hby d25_38) rfl) ?_
      refine stp (fun _ => X3.ldc2Long hx hown (mvT hZ (w_ hw (i := 161) rfl)) (g := (mkF m 39 #[(sR xv), (sR yv), (sI ((Int32.ofNat nX) + (-1 : Int32))), (sI (Int32.ofNat nY)), (sR b3), (sJ (0 : Int64)), .second, .unset, .unset] [(.long ((fX (nX - 1)).toInt64))])) rfl (hb hby d25_39) _) ?_
      refine stp (fun _ => XS.land X3.here hx rfl (hb hby d25_42) rfl) ?_
      show Go p e below T3 (mkF m 43 #[(sR xv), (sR yv), (sI ((Int32.ofNat nX) + (-1 : Int32))), (sI (Int32.ofNat nY)), (sR b3), (sJ (0 : Int64)), .second, .unset, .unset] [(.long (((fX (nX - 1)).toInt64) &&& (4294967295 : Int64)))]) _
      refine stp (fun _ => XS.aloadN X3.here hx rfl (hb hby d25_43) rfl rfl) ?_
      refine stp (fun _ => XS.iconst X3.here hx rfl (hb hby d25_44)) ?_
      obtain ⟨cl65, Ar65, q65, S65, H65, G65⟩ := (id f7)
      have in65 : ¬ ((0 : Int32) < 0 ∨ cl65.slots.size ≤ ((0 : Int32)).toNatClampNeg) := arf_in S65 (show (0 : Int32).toInt = ((0 : Nat) : Int) from rfl) hY0
      have at65 : cl65.slots[((0 : Int32)).toNatClampNeg]? = some (.int (fY 0)) := arf_at H65 (show (0 : Int32).toInt = ((0 : Nat) : Int) from rfl) hY0
      refine stp (fun _ => X3.iaload hx (j := (0 : Int32)) (v := (.int (fY 0))) (by rw [e3]; exact Ar65.1) (State.isArrayOf_alike hZ.alike Ar65.2.1) Ar65.2.2 in65 at65 (g := (mkF m 45 #[(sR xv), (sR yv), (sI ((Int32.ofNat nX) + (-1 : Int32))), (sI (Int32.ofNat nY)), (sR b3), (sJ (0 : Int64)), .second, .unset, .unset] [(.int (0 : Int32)), (.ref yv), (.long (((fX (nX - 1)).toInt64) &&& (4294967295 : Int64)))])) rfl rfl (hb hby d25_45) _) ?_
      refine stp (fun _ => XS.i2l X3.here hx rfl (hb hby d25_46) rfl) ?_
      refine stp (fun _ => X3.ldc2Long hx hown (mvT hZ (w_ hw (i := 161) rfl)) (g := (mkF m 47 #[(sR xv), (sR yv), (sI ((Int32.ofNat nX) + (-1 : Int32))), (sI (Int32.ofNat nY)), (sR b3), (sJ (0 : Int64)), .second, .unset, .unset] [(.long ((fY 0).toInt64)), (.long (((fX (nX - 1)).toInt64) &&& (4294967295 : Int64)))])) rfl (hb hby d25_47) _) ?_
      show Go p e below T3 (mkF m 50 #[(sR xv), (sR yv), (sI ((Int32.ofNat nX) + (-1 : Int32))), (sI (Int32.ofNat nY)), (sR b3), (sJ (0 : Int64)), .second, .unset, .unset] [(.long (4294967295 : Int64)), (.long ((fY 0).toInt64)), (.long (((fX (nX - 1)).toInt64) &&& (4294967295 : Int64)))]) _
      refine stp (fun _ => XS.land X3.here hx rfl (hb hby d25_50) rfl) ?_
      refine stp (fun _ => XS.ladd X3.here hx rfl (hb hby d25_51) rfl) ?_
      refine stp (fun _ => XS.lstore X3.here hx rfl (hb hby d25_52) rfl (l' := #[(sR xv), (sR yv), (sI ((Int32.ofNat nX) + (-1 : Int32))), (sI (Int32.ofNat nY)), (sR b3), (sJ ((((fX (nX - 1)).toInt64) &&& (4294967295 : Int64)) + (((fY 0).toInt64) &&& (4294967295 : Int64)))), .second, .unset, .unset]) rfl) ?_
      refine stp (fun _ => XS.aload X3.here hx rfl (hb hby d25_54) rfl rfl) ?_
      refine stp (fun _ => XS.iloadN X3.here hx rfl (hb hby d25_56) rfl) ?_
      show Go p e below T3 (mkF m 57 #[(sR xv), (sR yv), (sI ((Int32.ofNat nX) + (-1 : Int32))), (sI (Int32.ofNat nY)), (sR b3), (sJ ((((fX (nX - 1)).toInt64) &&& (4294967295 : Int64)) + (((fY 0).toInt64) &&& (4294967295 : Int64)))), .second, .unset, .unset] [(.int ((Int32.ofNat nX) + (-1 : Int32))), (.ref b3)]) _
      refine stp (fun _ => XS.lload X3.here hx rfl (hb hby d25_57) rfl) ?_
      refine stp (fun _ => XS.l2i X3.here hx rfl (hb hby d25_59) rfl) ?_
      obtain ⟨cl66, Ar66, q66, S66, H66, G66⟩ := (id V3)
      have in66 : ¬ (((Int32.ofNat nX) + (-1 : Int32)) < 0 ∨ cl66.slots.size ≤ (((Int32.ofNat nX) + (-1 : Int32))).toNatClampNeg) := arf_in S66 (own_decN (own_nI (k := nX) hXl) hX7 hX4) hXd
      obtain ⟨T66, h66, X66, e66, W66, st66⟩ := stI X3 hx hZ e3 Ar66 (j := ((Int32.ofNat nX) + (-1 : Int32))) in66 (g := (mkF m 60 #[(sR xv), (sR yv), (sI ((Int32.ofNat nX) + (-1 : Int32))), (sI (Int32.ofNat nY)), (sR b3), (sJ ((((fX (nX - 1)).toInt64) &&& (4294967295 : Int64)) + (((fY 0).toInt64) &&& (4294967295 : Int64)))), .second, .unset, .unset] [(.int (((((fX (nX - 1)).toInt64) &&& (4294967295 : Int64)) + (((fY 0).toInt64) &&& (4294967295 : Int64))).toInt32)), (.int ((Int32.ofNat nX) + (-1 : Int32))), (.ref b3)])) rfl rfl (hb hby d25_60)
      have V66 := Arf.set Ar66 q66 S66 H66 G66 rfl (arf_ix (own_decN (own_nI (k := nX) hXl) hX7 hX4) ▸ W66) hXd
      replace V66 : Arf Z h66 b3 k3 .int nX (fun x => (.int (if x = (nX - 1) then (((((fX (nX - 1)).toInt64) &&& (4294967295 : Int64)) + (((fY 0).toInt64) &&& (4294967295 : Int64))).toInt32) else (0 : Int32)))) := V66.congr (fun x _ => by split <;> rfl)
      have f67 := f6.other W66 ne4
      have f68 := f7.other W66 ne5
      have f69 := B3.wr W66
      have K66 : Keep h0 h66 [] := K3.wr W66 (Or.inr sz_b3)
      have O66 := O3.wr W66 ge_b3
      have N66 := Fr.snoc X66 N0 ge_b3
      refine stp st66 ?_
      refine stp (fun _ => XS.goto X66.here hx rfl (pc0 := 61) (pc' := 109) rfl (hb hby d25_61) (by decide) (by decide)) ?_
      show Go p e below T66 (mkF m 109 #[(sR xv), (sR yv), (sI ((Int32.ofNat nX) + (-1 : Int32))), (sI (Int32.ofNat nY)), (sR b3), (sJ ((((fX (nX - 1)).toInt64) &&& (4294967295 : Int64)) + (((fY 0).toInt64) &&& (4294967295 : Int64)))), .second, .unset, .unset] []) _
      exact J109 ((Int32.ofNat nX) + (-1 : Int32)) (Int32.ofNat nY) ((((fX (nX - 1)).toInt64) &&& (4294967295 : Int64)) + (((fY 0).toInt64) &&& (4294967295 : Int64))) (fun x => (if x = (nX - 1) then (((((fX (nX - 1)).toInt64) &&& (4294967295 : Int64)) + (((fY 0).toInt64) &&& (4294967295 : Int64))).toInt32) else (0 : Int32))) _ ⟨hXd2, (own_decN (own_nI (k := nX) hXl) hX7 hX4)⟩ T66 _ h66 X66 e66 N66 O66 K66 f67 f68 V66
    refine stp (fun _ => XS.icmpYes X3.here hx rfl (pc0 := 29) (pc' := 64) rfl (hb hby d25_29) rfl (XT.ii_ne_t q29_63) (by decide) (by decide)) ?_
    show Go p e below T3 (mkF m 64 #[(sR xv), (sR yv), (sI (Int32.ofNat nX)), (sI (Int32.ofNat nY)), (sR b3), (sJ (0 : Int64)), .second, .unset, .unset] []) _
    have loop64 : ∀ (d : Nat), ∀ (i2 : Int32) (i3 : Int32) (cy : Int64) (gg : Nat → Int32), (d ≤ nY ∧ i3.toInt = (d : Int) ∧ i2.toInt = ((d + (nX - nY) : Nat) : Int)) → ∀ (T : State) (locs : List Loc) (hA : Heap) (X : Stand p l e ({ frames := 1, cells := 2, slots := 49, locals := 18 } : Room) s m #[(.ref xa), (.ref ya)] below meth c T locs 1 24) (eA : T.heap = hA) (NA : Fr n0 locs) (OA : Old Z n0 hA) (KA : Keep h0 hA []) (FA0 : Arf Z hA xv kx .int nX (fun i => (.int (fX i)))) (FA1 : Arf Z hA yv ky .int nY (fun i => (.int (fY i)))) (FA2 : Arf Z hA b3 k3 .int nX (fun x => (.int (gg x)))), Go p e below T (mkF m 64 #[(sR xv), (sR yv), (sI i2), (sI i3), (sR b3), (sJ cy), .second, .unset, .unset] []) (Po s (Q_rm_addm Z xa ya nx fx ny fy k_xa k_ya h0 n0) ({ frames := 1, cells := 2, slots := 49, locals := 18 } : Room).cells ({ frames := 1, cells := 2, slots := 49, locals := 18 } : Room).slots) := by
      intro d
      induction d with
      | zero =>
        intro i2 i3 cy gg hd_ T locs hA X eA NA OA KA FA0 FA1 FA2 
        obtain ⟨m1, m2, m3⟩ := hd_
        have m3x : i2.toInt = ((nX - nY : Nat) : Int) := by rw [Nat.zero_add] at m3; exact m3
        refine stp (fun _ => XS.iloadN X.here hx rfl (hb hby d25_64) rfl) ?_
        refine stp (fun _ => XS.ifYes X.here hx rfl (pc0 := 65) (pc' := 109) rfl (hb hby d25_65) rfl (XT.i0_le_t (own_geI rfl m2 (Nat.le_refl _))) (by decide) (by decide)) ?_
        show Go p e below T (mkF m 109 #[(sR xv), (sR yv), (sI i2), (sI i3), (sR b3), (sJ cy), .second, .unset, .unset] []) _
        exact J109 i2 i3 cy (fun x => (gg x)) _ ⟨hsub, m3x⟩ T _ hA X eA NA OA KA FA0 FA1 FA2
      | succ d ih =>
        intro i2 i3 cy gg hd_ T locs hA X eA NA OA KA FA0 FA1 FA2 
        obtain ⟨m1, m2, m3⟩ := hd_
        have jy : (i3 + (-1 : Int32)).toInt = ((d : Nat) : Int) := own_decN (j := d + 1) m2 (Nat.succ_pos _) (Nat.le_trans m1 hY4)
        have jx : (i2 + (-1 : Int32)).toInt = ((d + (nX - nY) : Nat) : Int) := own_jx m3 (own_jb m1 hle hX4)
        refine stp (fun _ => XS.iloadN X.here hx rfl (hb hby d25_64) rfl) ?_
        refine stp (fun _ => XS.ifNo X.here hx rfl (hb hby d25_65) rfl (XT.i0_le_f (own_ltI rfl m2 (Nat.succ_pos _)))) ?_
        refine stp (fun _ => XS.aloadN X.here hx rfl (hb hby d25_68) rfl rfl) ?_
        refine stp (fun _ => XS.iinc X.here hx rfl (hb hby d25_69) rfl (l' := #[(sR xv), (sR yv), (sI (i2 + (-1 : Int32))), (sI i3), (sR b3), (sJ cy), .second, .unset, .unset]) rfl) ?_
        show Go p e below T (mkF m 72 #[(sR xv), (sR yv), (sI (i2 + (-1 : Int32))), (sI i3), (sR b3), (sJ cy), .second, .unset, .unset] [(.ref xv)]) _
        refine stp (fun _ => XS.iloadN X.here hx rfl (hb hby d25_72) rfl) ?_
        obtain ⟨cl71, Ar71, q71, S71, H71, G71⟩ := (id FA0)
        have in71 : ¬ ((i2 + (-1 : Int32)) < 0 ∨ cl71.slots.size ≤ ((i2 + (-1 : Int32))).toNatClampNeg) := arf_in S71 jx (own_j1 m1 hle)
        have at71 : cl71.slots[((i2 + (-1 : Int32))).toNatClampNeg]? = some (.int (fX (d + (nX - nY)))) := arf_at H71 jx (own_j1 m1 hle)
        refine stp (fun _ => X.iaload hx (j := (i2 + (-1 : Int32))) (v := (.int (fX (d + (nX - nY))))) (by rw [eA]; exact Ar71.1) (State.isArrayOf_alike hZ.alike Ar71.2.1) Ar71.2.2 in71 at71 (g := (mkF m 73 #[(sR xv), (sR yv), (sI (i2 + (-1 : Int32))), (sI i3), (sR b3), (sJ cy), .second, .unset, .unset] [(.int (i2 + (-1 : Int32))), (.ref xv)])) rfl rfl (hb hby d25_73) _) ?_
        refine stp (fun _ => XS.i2l X.here hx rfl (hb hby d25_74) rfl) ?_
        refine stp (fun _ => X.ldc2Long hx hown (mvT hZ (w_ hw (i := 161) rfl)) (g := (mkF m 75 #[(sR xv), (sR yv), (sI (i2 + (-1 : Int32))), (sI i3), (sR b3), (sJ cy), .second, .unset, .unset] [(.long ((fX (d + (nX - nY))).toInt64))])) rfl (hb hby d25_75) _) ?_
        refine stp (fun _ => XS.land X.here hx rfl (hb hby d25_78) rfl) ?_
        show Go p e below T (mkF m 79 #[(sR xv), (sR yv), (sI (i2 + (-1 : Int32))), (sI i3), (sR b3), (sJ cy), .second, .unset, .unset] [(.long (((fX (d + (nX - nY))).toInt64) &&& (4294967295 : Int64)))]) _
        refine stp (fun _ => XS.aloadN X.here hx rfl (hb hby d25_79) rfl rfl) ?_
        refine stp (fun _ => XS.iinc X.here hx rfl (hb hby d25_80) rfl (l' := #[(sR xv), (sR yv), (sI (i2 + (-1 : Int32))), (sI (i3 + (-1 : Int32))), (sR b3), (sJ cy), .second, .unset, .unset]) rfl) ?_
        refine stp (fun _ => XS.iloadN X.here hx rfl (hb hby d25_83) rfl) ?_
        obtain ⟨cl72, Ar72, q72, S72, H72, G72⟩ := (id FA1)
        have in72 : ¬ ((i3 + (-1 : Int32)) < 0 ∨ cl72.slots.size ≤ ((i3 + (-1 : Int32))).toNatClampNeg) := arf_in S72 jy m1
        have at72 : cl72.slots[((i3 + (-1 : Int32))).toNatClampNeg]? = some (.int (fY d)) := arf_at H72 jy m1
        refine stp (fun _ => X.iaload hx (j := (i3 + (-1 : Int32))) (v := (.int (fY d))) (by rw [eA]; exact Ar72.1) (State.isArrayOf_alike hZ.alike Ar72.2.1) Ar72.2.2 in72 at72 (g := (mkF m 84 #[(sR xv), (sR yv), (sI (i2 + (-1 : Int32))), (sI (i3 + (-1 : Int32))), (sR b3), (sJ cy), .second, .unset, .unset] [(.int (i3 + (-1 : Int32))), (.ref yv), (.long (((fX (d + (nX - nY))).toInt64) &&& (4294967295 : Int64)))])) rfl rfl (hb hby d25_84) _) ?_
        refine stp (fun _ => XS.i2l X.here hx rfl (hb hby d25_85) rfl) ?_
        show Go p e below T (mkF m 86 #[(sR xv), (sR yv), (sI (i2 + (-1 : Int32))), (sI (i3 + (-1 : Int32))), (sR b3), (sJ cy), .second, .unset, .unset] [(.long ((fY d).toInt64)), (.long (((fX (d + (nX - nY))).toInt64) &&& (4294967295 : Int64)))]) _
        refine stp (fun _ => X.ldc2Long hx hown (mvT hZ (w_ hw (i := 161) rfl)) (g := (mkF m 86 #[(sR xv), (sR yv), (sI (i2 + (-1 : Int32))), (sI (i3 + (-1 : Int32))), (sR b3), (sJ cy), .second, .unset, .unset] [(.long ((fY d).toInt64)), (.long (((fX (d + (nX - nY))).toInt64) &&& (4294967295 : Int64)))])) rfl (hb hby d25_86) _) ?_
        refine stp (fun _ => XS.land X.here hx rfl (hb hby d25_89) rfl) ?_
        refine stp (fun _ => XS.ladd X.here hx rfl (hb hby d25_90) rfl) ?_
        refine stp (fun _ => XS.lload X.here hx rfl (hb hby d25_91) rfl) ?_
        refine stp (fun _ => XS.bipush X.here hx rfl (hb hby d25_93)) ?_
        show Go p e below T (mkF m 95 #[(sR xv), (sR yv), (sI (i2 + (-1 : Int32))), (sI (i3 + (-1 : Int32))), (sR b3), (sJ cy), .second, .unset, .unset] [(.int (32 : Int32)), (.long cy), (.long ((((fX (d + (nX - nY))).toInt64) &&& (4294967295 : Int64)) + (((fY d).toInt64) &&& (4294967295 : Int64))))]) _
        refine stp (fun _ => XS.lushr X.here hx rfl (hb hby d25_95) rfl) ?_
        refine stp (fun _ => XS.ladd X.here hx rfl (hb hby d25_96) rfl) ?_
        refine stp (fun _ => XS.lstore X.here hx rfl (hb hby d25_97) rfl (l' := #[(sR xv), (sR yv), (sI (i2 + (-1 : Int32))), (sI (i3 + (-1 : Int32))), (sR b3), (sJ (((((fX (d + (nX - nY))).toInt64) &&& (4294967295 : Int64)) + (((fY d).toInt64) &&& (4294967295 : Int64))) + ((cy.toUInt64 >>> ((32 : Int32) &&& 0x3f).toInt64.toUInt64).toInt64))), .second, .unset, .unset]) rfl) ?_
        refine stp (fun _ => XS.aload X.here hx rfl (hb hby d25_99) rfl rfl) ?_
        refine stp (fun _ => XS.iloadN X.here hx rfl (hb hby d25_101) rfl) ?_
        show Go p e below T (mkF m 102 #[(sR xv), (sR yv), (sI (i2 + (-1 : Int32))), (sI (i3 + (-1 : Int32))), (sR b3), (sJ (((((fX (d + (nX - nY))).toInt64) &&& (4294967295 : Int64)) + (((fY d).toInt64) &&& (4294967295 : Int64))) + ((cy.toUInt64 >>> ((32 : Int32) &&& 0x3f).toInt64.toUInt64).toInt64))), .second, .unset, .unset] [(.int (i2 + (-1 : Int32))), (.ref b3)]) _
        refine stp (fun _ => XS.lload X.here hx rfl (hb hby d25_102) rfl) ?_
        refine stp (fun _ => XS.l2i X.here hx rfl (hb hby d25_104) rfl) ?_
        obtain ⟨cl73, Ar73, q73, S73, H73, G73⟩ := (id FA2)
        have in73 : ¬ ((i2 + (-1 : Int32)) < 0 ∨ cl73.slots.size ≤ ((i2 + (-1 : Int32))).toNatClampNeg) := arf_in S73 jx (own_j1 m1 hle)
        obtain ⟨T73, h73, X73, e73, W73, st73⟩ := stI X hx hZ eA Ar73 (j := (i2 + (-1 : Int32))) in73 (g := (mkF m 105 #[(sR xv), (sR yv), (sI (i2 + (-1 : Int32))), (sI (i3 + (-1 : Int32))), (sR b3), (sJ (((((fX (d + (nX - nY))).toInt64) &&& (4294967295 : Int64)) + (((fY d).toInt64) &&& (4294967295 : Int64))) + ((cy.toUInt64 >>> ((32 : Int32) &&& 0x3f).toInt64.toUInt64).toInt64))), .second, .unset, .unset] [(.int ((((((fX (d + (nX - nY))).toInt64) &&& (4294967295 : Int64)) + (((fY d).toInt64) &&& (4294967295 : Int64))) + ((cy.toUInt64 >>> ((32 : Int32) &&& 0x3f).toInt64.toUInt64).toInt64)).toInt32)), (.int (i2 + (-1 : Int32))), (.ref b3)])) rfl rfl (hb hby d25_105)
        have V73 := Arf.set Ar73 q73 S73 H73 G73 rfl (arf_ix jx ▸ W73) (own_j1 m1 hle)
        replace V73 : Arf Z h73 b3 k3 .int nX (fun x => (.int (if x = (d + (nX - nY)) then ((((((fX (d + (nX - nY))).toInt64) &&& (4294967295 : Int64)) + (((fY d).toInt64) &&& (4294967295 : Int64))) + ((cy.toUInt64 >>> ((32 : Int32) &&& 0x3f).toInt64.toUInt64).toInt64)).toInt32) else (gg x)))) := V73.congr (fun x _ => by split <;> rfl)
        have f74 := FA0.other W73 ne4
        have f75 := FA1.other W73 ne5
        have K73 : Keep h0 h73 [] := KA.wr W73 (Or.inr sz_b3)
        have O73 := OA.wr W73 ge_b3
        have N73 := Fr.snoc X73 NA ge_b3
        refine stp st73 ?_
        refine stp (fun _ => XS.goto X73.here hx rfl (pc0 := 106) (pc' := 64) rfl (hb hby d25_106) (by decide) (by decide)) ?_
        show Go p e below T73 (mkF m 64 #[(sR xv), (sR yv), (sI (i2 + (-1 : Int32))), (sI (i3 + (-1 : Int32))), (sR b3), (sJ (((((fX (d + (nX - nY))).toInt64) &&& (4294967295 : Int64)) + (((fY d).toInt64) &&& (4294967295 : Int64))) + ((cy.toUInt64 >>> ((32 : Int32) &&& 0x3f).toInt64.toUInt64).toInt64))), .second, .unset, .unset] []) _
        exact ih (i2 + (-1 : Int32)) (i3 + (-1 : Int32)) (((((fX (d + (nX - nY))).toInt64) &&& (4294967295 : Int64)) + (((fY d).toInt64) &&& (4294967295 : Int64))) + ((cy.toUInt64 >>> ((32 : Int32) &&& 0x3f).toInt64.toUInt64).toInt64)) _ ⟨Nat.le_of_succ_le m1, jy, jx⟩ T73 _ h73 X73 e73 N73 O73 K73 f74 f75 V73 
    exact loop64 nY (Int32.ofNat nX) (Int32.ofNat nY) (0 : Int64) (fun _ => (0 : Int32)) ⟨Nat.le_refl _, (own_nI (k := nY) hYl), by rw [(own_nI (k := nX) hXl), Nat.add_sub_cancel' hle]⟩ T3 _ h3 X3 e3 N0 O3 K3 f6 f7 V3 
  refine stp (fun _ => XS.aloadN X0.here hx rfl (hb hby d25_0) rfl rfl) ?_
  obtain ⟨cl77, Ar77, -, S77, -, -⟩ := (id V_xa)
  refine stp (fun _ => X0.arraylength hx (by rw [e0]; exact Ar77.1) (State.isArrayOf_alike hZ.alike Ar77.2.1) (g := (mkF m 1 #[(sR xa), (sR ya), .unset, .unset, .unset, .unset, .unset, .unset, .unset] [(.ref xa)])) rfl rfl (hb hby d25_1) _) ?_
  rw [arf_len S77 (z := (Int32.ofNat nx)) (own_nI (by omega))]
  refine stp (fun _ => XS.aloadN X0.here hx rfl (hb hby d25_2) rfl rfl) ?_
  obtain ⟨cl78, Ar78, -, S78, -, -⟩ := (id V_ya)
  refine stp (fun _ => X0.arraylength hx (by rw [e0]; exact Ar78.1) (State.isArrayOf_alike hZ.alike Ar78.2.1) (g := (mkF m 3 #[(sR xa), (sR ya), .unset, .unset, .unset, .unset, .unset, .unset, .unset] [(.ref ya), (.int (Int32.ofNat nx))])) rfl rfl (hb hby d25_3) _) ?_
  rw [arf_len S78 (z := (Int32.ofNat ny)) (own_nI (by omega))]
  by_cases q4_79 : (Int32.ofNat nx) < (Int32.ofNat ny)
  rotate_left
  · refine stp (fun _ => XS.icmpYes X0.here hx rfl (pc0 := 4) (pc' := 13) rfl (hb hby d25_4) rfl (XT.ii_ge_t q4_79) (by decide) (by decide)) ?_
    show Go p e below T0 (mkF m 13 #[(sR xa), (sR ya), .unset, .unset, .unset, .unset, .unset, .unset, .unset] []) _
    exact J13 _ _ _ _ _ _ _ _ _ V_xa V_ya (own_sw0 q4_79 hy0 (by omega)) (Or.inl rfl)
  refine stp (fun _ => XS.icmpNo X0.here hx rfl (hb hby d25_4) rfl (XT.ii_ge_f q4_79)) ?_
  show Go p e below T0 (mkF m 7 #[(sR xa), (sR ya), .unset, .unset, .unset, .unset, .unset, .unset, .unset] []) _
  refine stp (fun _ => XS.aloadN X0.here hx rfl (hb hby d25_7) rfl rfl) ?_
  refine stp (fun _ => XS.astoreN X0.here hx rfl (hb hby d25_8) rfl rfl (l' := #[(sR xa), (sR ya), (sR xa), .unset, .unset, .unset, .unset, .unset, .unset]) rfl) ?_
  refine stp (fun _ => XS.aloadN X0.here hx rfl (hb hby d25_9) rfl rfl) ?_
  refine stp (fun _ => XS.astoreN X0.here hx rfl (hb hby d25_10) rfl rfl (l' := #[(sR ya), (sR ya), (sR xa), .unset, .unset, .unset, .unset, .unset, .unset]) rfl) ?_
  refine stp (fun _ => XS.aloadN X0.here hx rfl (hb hby d25_11) rfl rfl) ?_
  show Go p e below T0 (mkF m 12 #[(sR ya), (sR ya), (sR xa), .unset, .unset, .unset, .unset, .unset, .unset] [(.ref xa)]) _
  refine stp (fun _ => XS.astoreN X0.here hx rfl (hb hby d25_12) rfl rfl (l' := #[(sR ya), (sR xa), (sR xa), .unset, .unset, .unset, .unset, .unset, .unset]) rfl) ?_
  show Go p e below T0 (mkF m 13 #[(sR ya), (sR xa), (sR xa), .unset, .unset, .unset, .unset, .unset, .unset] []) _
  exact J13 _ _ _ _ _ _ _ _ _ V_ya V_xa (own_sw1 q4_79 hx0 (by omega)) (Or.inr ⟨_, rfl⟩)
abbrev B24 : ByteArray := jdk_2097_method_32_code
theorem d24_0 : Dc B24 0 (.aload_n 1) 1 := by decide +kernel
theorem d24_1 : Dc B24 1 (.getfield 32) 3 := by decide +kernel
theorem d24_4 : Dc B24 4 (.ifCond .ne 5) 3 := by decide +kernel
theorem d24_7 : Dc B24 7 (.aload_n 0) 1 := by decide +kernel
theorem d24_8 : Dc B24 8 (.areturn) 1 := by decide +kernel
theorem d24_9 : Dc B24 9 (.aload_n 0) 1 := by decide +kernel
theorem d24_10 : Dc B24 10 (.getfield 32) 3 := by decide +kernel
theorem d24_13 : Dc B24 13 (.ifCond .ne 5) 3 := by decide +kernel
theorem d24_16 : Dc B24 16 (.aload_n 1) 1 := by decide +kernel
theorem d24_17 : Dc B24 17 (.areturn) 1 := by decide +kernel
theorem d24_18 : Dc B24 18 (.aload_n 1) 1 := by decide +kernel
theorem d24_19 : Dc B24 19 (.getfield 32) 3 := by decide +kernel
theorem d24_22 : Dc B24 22 (.aload_n 0) 1 := by decide +kernel
theorem d24_23 : Dc B24 23 (.getfield 32) 3 := by decide +kernel
theorem d24_26 : Dc B24 26 (.if_icmp .ne 26) 3 := by decide +kernel
theorem d24_29 : Dc B24 29 (.new 23) 3 := by decide +kernel
theorem d24_32 : Dc B24 32 (.dup) 1 := by decide +kernel
theorem d24_33 : Dc B24 33 (.aload_n 0) 1 := by decide +kernel
theorem d24_34 : Dc B24 34 (.getfield 28) 3 := by decide +kernel
theorem d24_37 : Dc B24 37 (.aload_n 1) 1 := by decide +kernel
theorem d24_38 : Dc B24 38 (.getfield 28) 3 := by decide +kernel
theorem d24_41 : Dc B24 41 (.invokestatic 362) 3 := by decide +kernel
theorem pd_15 : parseMethodDescriptor "([I[I)[I" = some ⟨[(.array .int), (.array .int)], some (.array .int)⟩ := by decide +kernel
theorem d24_44 : Dc B24 44 (.aload_n 0) 1 := by decide +kernel
theorem d24_45 : Dc B24 45 (.getfield 32) 3 := by decide +kernel
theorem d24_48 : Dc B24 48 (.invokespecial 175) 3 := by decide +kernel
theorem d24_51 : Dc B24 51 (.areturn) 1 := by decide +kernel
theorem ef_rm_add (m : MethodId) (t : Addr) (v : Addr)  : entryFrame m #[(.ref t), (.ref v)] 4 = mkF m 0 #[(sR t), (sR v), .unset, .unset] [] := by first | (simp [entryFrame, mkF, argsToLocals, Value.category]; done) | rfl
def Q_rm_add (Z : State) (t : Addr) (v : Addr) (N1 : Nat) (N2 : Nat) (N3 : Nat) (h0 : Heap) (n0 : Nat) (v : Option Value) (h : Heap) (L : List Loc) : Prop := ∃ (r : Addr), v = some (.ref r) ∧ Fr n0 L ∧ Keep h0 h [] ∧ BigOk Z h r N3
theorem pn_21_ : plainName "java/math/BigInteger" = true := by first | (simp [plainName, overriddenIn]; done) | decide +kernel
theorem pn_21 : plainFor (⟨"java/math/BigInteger", "add", "(Ljava/math/BigInteger;)Ljava/math/BigInteger;"⟩ : MethodName) = true := plainFor_of_name pn_21_
set_option maxRecDepth 65536 in
set_option maxHeartbeats 40000000 in
theorem rm_add (l : Launch) (Z : State) (a0 : Array Value) (hw : ∀ d ∈ tables_1, d.before a0 Z = true) (ws : List Jvm.Cond) (t : Addr) (v : Addr) (N1 : Nat) (N2 : Nat) (N3 : Nat) (h0 : Heap) (n0 : Nat) (O0 : Old Z n0 h0) (Q_t : BigOk Z h0 t N1) (Q_v : BigOk Z h0 v N2) (hNN : N1 + N2 ≤ 24) (h13 : N1 + 1 ≤ N3) (h23 : N2 + 1 ≤ N3) :
    MetFree l (⟨"java/math/BigInteger", "add", "(Ljava/math/BigInteger;)Ljava/math/BigInteger;"⟩ : MethodName) (head1 (Jvm.Cond.code (⟨"java/math/BigInteger", "add", "(Ljava/math/BigInteger;)Ljava/math/BigInteger;"⟩ : MethodName) jdk_2097_method_32_code 4 (some (.object "java/math/BigInteger")) :: ws) ({ frames := 3, cells := 3, slots := 55, locals := 40 } : Room)) (fun args_ U => args_ = #[(.ref t), (.ref v)] ∧ Z.Warmed39 U.vm ∧ U.heap = h0) (fun _ _ _ _ _ => True) (fun _ U out_ U' => ∃ val_ loc_, out_ = .returned val_ ∧ (Q_rm_add Z t v N1 N2 N3 h0 n0) val_ U'.heap loc_ ∧ FrameEnd U out_ U' loc_ ({ frames := 3, cells := 3, slots := 55, locals := 40 } : Room).cells ({ frames := 3, cells := 3, slots := 55, locals := 40 } : Room).slots) := by
  refine start (Q := (Q_rm_add Z t v N1 N2 N3 h0 n0)) pn_21 ?_
  intro p e s m below meth c T0 X0 hx hby hml hown hnm hret hlk hZ e0
  replace hown : s.vm.findClass "java/math/BigInteger" = some m.cls := hown
  replace hml : c.maxLocals = 4 := hml
  refine goAt (ef_rm_add m t v ) ?_
  have N0 := Fr.nil n0
  obtain ⟨ta, tk, tn, tf, ts, E_t, Fs_t, Fm_t, V_t, hN_t, hH_t, hc_t⟩ := (id Q_t)
  obtain ⟨va, vk, vn, vf, vs, E_v, Fs_v, Fm_v, V_v, hN_v, hH_v, hc_v⟩ := (id Q_v)
  show Go p e below T0 (mkF m 0 #[(sR t), (sR v), .unset, .unset] []) _
  rcases hc_v with ⟨e1, e2⟩ | ⟨e1, hp_v⟩
  · subst e1
    rcases hc_t with ⟨e1, e2⟩ | ⟨e1, hp_t⟩
    · subst e1
      refine stp (fun _ => XS.aloadN X0.here hx rfl (hb hby d24_0) rfl rfl) ?_
      obtain ⟨T1, X1, e1, st1⟩ := getF X0 hx hZ hown (host := "") (Or.inl (w_ hw (i := 134) rfl)) Via.refl e0 Fs_v (g := (mkF m 1 #[(sR t), (sR v), .unset, .unset] [(.ref v)])) rfl rfl (hb hby d24_1)
      refine stp st1 ?_
      refine stp (fun _ => XS.ifNo X1.here hx rfl (hb hby d24_4) rfl (by decide)) ?_
      refine stp (fun _ => XS.aloadN X1.here hx rfl (hb hby d24_7) rfl rfl) ?_
      show Go p e below T1 (mkF m 8 #[(sR t), (sR v), .unset, .unset] [(.ref t)]) _
      refine outA X1 hx hret rfl rfl (hb hby d24_8) hlk (by decide) (by decide) ?_
      rw [e1]
      exact ⟨t, rfl, N0, (Keep.refl h0 []), (BigOk.mono Q_t (by omega))⟩
    · subst e1
      refine stp (fun _ => XS.aloadN X0.here hx rfl (hb hby d24_0) rfl rfl) ?_
      obtain ⟨T2, X2, e2, st2⟩ := getF X0 hx hZ hown (host := "") (Or.inl (w_ hw (i := 134) rfl)) Via.refl e0 Fs_v (g := (mkF m 1 #[(sR t), (sR v), .unset, .unset] [(.ref v)])) rfl rfl (hb hby d24_1)
      refine stp st2 ?_
      refine stp (fun _ => XS.ifNo X2.here hx rfl (hb hby d24_4) rfl (by decide)) ?_
      refine stp (fun _ => XS.aloadN X2.here hx rfl (hb hby d24_7) rfl rfl) ?_
      show Go p e below T2 (mkF m 8 #[(sR t), (sR v), .unset, .unset] [(.ref t)]) _
      refine outA X2 hx hret rfl rfl (hb hby d24_8) hlk (by decide) (by decide) ?_
      rw [e2]
      exact ⟨t, rfl, N0, (Keep.refl h0 []), (BigOk.mono Q_t (by omega))⟩
  · subst e1
    rcases hc_t with ⟨e1, e2⟩ | ⟨e1, hp_t⟩
    · subst e1
      refine stp (fun _ => XS.aloadN X0.here hx rfl (hb hby d24_0) rfl rfl) ?_
      obtain ⟨T3, X3, e3, st3⟩ := getF X0 hx hZ hown (host := "") (Or.inl (w_ hw (i := 134) rfl)) Via.refl e0 Fs_v (g := (mkF m 1 #[(sR t), (sR v), .unset, .unset] [(.ref v)])) rfl rfl (hb hby d24_1)
      refine stp st3 ?_
      refine stp (fun _ => XS.ifYes X3.here hx rfl (pc0 := 4) (pc' := 9) rfl (hb hby d24_4) rfl (by decide) (by decide) (by decide)) ?_
      refine stp (fun _ => XS.aloadN X3.here hx rfl (hb hby d24_9) rfl rfl) ?_
      show Go p e below T3 (mkF m 10 #[(sR t), (sR v), .unset, .unset] [(.ref t)]) _
      obtain ⟨T4, X4, e4, st4⟩ := getF X3 hx hZ hown (host := "") (Or.inl (w_ hw (i := 134) rfl)) Via.refl e3 Fs_t (g := (mkF m 10 #[(sR t), (sR v), .unset, .unset] [(.ref t)])) rfl rfl (hb hby d24_10)
      refine stp st4 ?_
      refine stp (fun _ => XS.ifNo X4.here hx rfl (hb hby d24_13) rfl (by decide)) ?_
      refine stp (fun _ => XS.aloadN X4.here hx rfl (hb hby d24_16) rfl rfl) ?_
      refine outA X4 hx hret rfl rfl (hb hby d24_17) hlk (by decide) (by decide) ?_
      rw [e4]
      exact ⟨v, rfl, N0, (Keep.refl h0 []), (BigOk.mono Q_v (by omega))⟩
    · subst e1
      refine stp (fun _ => XS.aloadN X0.here hx rfl (hb hby d24_0) rfl rfl) ?_
      obtain ⟨T5, X5, e5, st5⟩ := getF X0 hx hZ hown (host := "") (Or.inl (w_ hw (i := 134) rfl)) Via.refl e0 Fs_v (g := (mkF m 1 #[(sR t), (sR v), .unset, .unset] [(.ref v)])) rfl rfl (hb hby d24_1)
      refine stp st5 ?_
      refine stp (fun _ => XS.ifYes X5.here hx rfl (pc0 := 4) (pc' := 9) rfl (hb hby d24_4) rfl (by decide) (by decide) (by decide)) ?_
      refine stp (fun _ => XS.aloadN X5.here hx rfl (hb hby d24_9) rfl rfl) ?_
      show Go p e below T5 (mkF m 10 #[(sR t), (sR v), .unset, .unset] [(.ref t)]) _
      obtain ⟨T6, X6, e6, st6⟩ := getF X5 hx hZ hown (host := "") (Or.inl (w_ hw (i := 134) rfl)) Via.refl e5 Fs_t (g := (mkF m 10 #[(sR t), (sR v), .unset, .unset] [(.ref t)])) rfl rfl (hb hby d24_10)
      refine stp st6 ?_
      refine stp (fun _ => XS.ifYes X6.here hx rfl (pc0 := 13) (pc' := 18) rfl (hb hby d24_13) rfl (by decide) (by decide) (by decide)) ?_
      refine stp (fun _ => XS.aloadN X6.here hx rfl (hb hby d24_18) rfl rfl) ?_
      obtain ⟨T7, X7, e7, st7⟩ := getF X6 hx hZ hown (host := "") (Or.inl (w_ hw (i := 134) rfl)) Via.refl e6 Fs_v (g := (mkF m 19 #[(sR t), (sR v), .unset, .unset] [(.ref v)])) rfl rfl (hb hby d24_19)
      refine stp st7 ?_
      refine stp (fun _ => XS.aloadN X7.here hx rfl (hb hby d24_22) rfl rfl) ?_
      show Go p e below T7 (mkF m 23 #[(sR t), (sR v), .unset, .unset] [(.ref t), (.int (1 : Int32))]) _
      obtain ⟨T8, X8, e8, st8⟩ := getF X7 hx hZ hown (host := "") (Or.inl (w_ hw (i := 134) rfl)) Via.refl e7 Fs_t (g := (mkF m 23 #[(sR t), (sR v), .unset, .unset] [(.ref t), (.int (1 : Int32))])) rfl rfl (hb hby d24_23)
      refine stp st8 ?_
      refine stp (fun _ => XS.icmpNo X8.here hx rfl (hb hby d24_26) rfl (by decide)) ?_
      obtain ⟨T9, h9, X9, e9, E9, A9, D9, U9, st9⟩ := newO X8 hx hZ hown (w_ hw (i := 121) rfl) (w_ hw (i := 122) rfl) (w_ hw (i := 118) rfl) e8 (g := (mkF m 29 #[(sR t), (sR v), .unset, .unset] [])) rfl (hb hby d24_29) (by decide) (by decide)
      obtain ⟨b9, g9⟩ : ∃ z, z = h0.size := ⟨_, rfl⟩
      rw [← g9] at A9 D9 st9
      have ne10 : t ≠ b9 := Nat.ne_of_lt (Nat.lt_of_lt_of_le Q_t.lt (Nat.le_of_eq g9.symm))
      have ne11 : ta ≠ b9 := Nat.ne_of_lt (Nat.lt_of_lt_of_le V_t.lt (Nat.le_of_eq g9.symm))
      have ne12 : v ≠ b9 := Nat.ne_of_lt (Nat.lt_of_lt_of_le Q_v.lt (Nat.le_of_eq g9.symm))
      have ne13 : va ≠ b9 := Nat.ne_of_lt (Nat.lt_of_lt_of_le V_v.lt (Nat.le_of_eq g9.symm))
      have sz_b9 : h0.size ≤ b9 := Nat.le_trans (Keep.refl h0 []).1 (Nat.le_of_eq g9.symm)
      have ge_b9 : n0 ≤ b9 := Nat.le_trans (old_le O0) (Nat.le_of_eq g9.symm)
      have f14 := Q_t.ext E9
      have f15 := Q_v.ext E9
      have f16 := E_t.ext E9
      have f17 := Fs_t.ext E9
      have f18 := Fm_t.ext E9
      have f19 := V_t.ext E9
      have f20 := E_v.ext E9
      have f21 := Fs_v.ext E9
      have f22 := Fm_v.ext E9
      have f23 := V_v.ext E9
      have K9 : Keep h0 h9 [] := (Keep.refl h0 []).ext E9
      have O9 := O0.ext E9
      have F24 : Fld Z h9 b9 "java/math/BigInteger" "signum" "I" (.int (0 : Int32)) := D9 (Or.inr (w_ hw (i := 135) rfl)) (ty := .int) (by decide)
      have F25 : Fld Z h9 b9 "java/math/BigInteger" "mag" "[I" .null := D9 (Or.inr (w_ hw (i := 138) rfl)) (ty := (.array .int)) (by decide)
      refine stp st9 ?_
      refine stp (fun _ => XS.dup X9.here hx rfl (hb hby d24_32) rfl rfl) ?_
      refine stp (fun _ => XS.aloadN X9.here hx rfl (hb hby d24_33) rfl rfl) ?_
      show Go p e below T9 (mkF m 34 #[(sR t), (sR v), .unset, .unset] [(.ref t), (.ref b9), (.ref b9)]) _
      obtain ⟨T26, X26, e26, st26⟩ := getF X9 hx hZ hown (host := "") (Or.inl (w_ hw (i := 137) rfl)) Via.refl e9 f18 (g := (mkF m 34 #[(sR t), (sR v), .unset, .unset] [(.ref t), (.ref b9), (.ref b9)])) rfl rfl (hb hby d24_34)
      refine stp st26 ?_
      refine stp (fun _ => XS.aloadN X26.here hx rfl (hb hby d24_37) rfl rfl) ?_
      obtain ⟨T27, X27, e27, st27⟩ := getF X26 hx hZ hown (host := "") (Or.inl (w_ hw (i := 137) rfl)) Via.refl e26 f22 (g := (mkF m 38 #[(sR t), (sR v), .unset, .unset] [(.ref v), (.ref ta), (.ref b9), (.ref b9)])) rfl rfl (hb hby d24_38)
      refine stp st27 ?_
      obtain ⟨_, _, ⟨T28, L28, k28, n28⟩, -, X28, ⟨Lc28, hQ28, l28, y28, z28⟩, st28⟩ := Jvm.LawKit.callS X27 hx (y := (⟨"java/math/BigInteger", "add", "([I[I)[I"⟩ : MethodName)) hown (mvT hZ (w_ hw (i := 171) rfl)) (mvT hZ (w_ hw (i := 172) rfl)) (mvT hZ (w_ hw (i := 118) rfl)) (mvT hZ (w_ hw (i := 173) rfl)) (by decide) (backOf (W := 2) (rm_addm l Z a0 hw [] ta va tn tf vn vf tk vk h9 n0 O9 f19 f23 hp_t hp_v (by omega)) hZ (w_ hw (i := 173) rfl) (w_ hw (i := 118) rfl) (by decide) (by decide)) (g := (mkF m 41 #[(sR t), (sR v), .unset, .unset] [(.ref va), (.ref ta), (.ref b9), (.ref b9)])) rfl (by rw [hml]; rfl) (argsL := [(.ref ta), (.ref va)]) (rest := [(.ref b9), (.ref b9)]) (lenOf pd_15 rfl) rfl (by show 2 * 0 + _ ≤ _; exact Nat.le_of_eq rfl) (hb hby d24_41) (fun _ _ => ⟨rfl, e27, (by decide : 1 + 2 ≤ _), (by decide : 6 + 49 ≤ _)⟩)
      dsimp only [Pt.U, Pt.locs, Pt.cells, Pt.slots] at X28 l28 y28 z28 st28 hQ28
      subst y28 z28
      obtain ⟨r28, k_r28, m28, g28, rfl, N28q, K28q, ⟨ge_r28, sz28_r28⟩, r28_0, pq28_0⟩ := hQ28
      have N28 : Fr n0 L28 := by rw [l28]; exact Fr.app N0 N28q
      have ne29 : b9 ≠ r28 := Nat.ne_of_lt (Nat.lt_of_lt_of_le A9.lt sz28_r28)
      have ne30 : t ≠ r28 := Nat.ne_of_lt (Nat.lt_of_lt_of_le f14.lt sz28_r28)
      have ne31 : ta ≠ r28 := Nat.ne_of_lt (Nat.lt_of_lt_of_le f19.lt sz28_r28)
      have ne32 : v ≠ r28 := Nat.ne_of_lt (Nat.lt_of_lt_of_le f15.lt sz28_r28)
      have ne33 : va ≠ r28 := Nat.ne_of_lt (Nat.lt_of_lt_of_le f23.lt sz28_r28)
      have f34 := f14.keep K28q nin0 apart0
      have f35 := f15.keep K28q nin0 apart0
      have f36 := f16.keep K28q
      have f37 := f17.keep K28q nin0
      have f38 := f18.keep K28q nin0
      have f39 := f19.keep K28q nin0
      have f40 := f20.keep K28q
      have f41 := f21.keep K28q nin0
      have f42 := f22.keep K28q nin0
      have f43 := f23.keep K28q nin0
      have f44 := A9.keep K28q
      have f45 := F24.keep K28q nin0
      have f46 := F25.keep K28q nin0
      have sz_r28 : h0.size ≤ r28 := Nat.le_trans K9.1 sz28_r28
      have K28 : Keep h0 T28.heap [] := K9.trans K28q all0
      have O28 := O9.keep K28q all0
      refine stp st28 ?_
      refine stp (fun _ => XS.aloadN X28.here hx rfl (hb hby d24_44) rfl rfl) ?_
      show Go p e below T28 (mkF m 45 #[(sR t), (sR v), .unset, .unset] [(.ref t), (.ref r28), (.ref b9), (.ref b9)]) _
      obtain ⟨T47, X47, e47, st47⟩ := getF X28 hx hZ hown (host := "") (Or.inl (w_ hw (i := 134) rfl)) Via.refl rfl f37 (g := (mkF m 45 #[(sR t), (sR v), .unset, .unset] [(.ref t), (.ref r28), (.ref b9), (.ref b9)])) rfl rfl (hb hby d24_45)
      refine stp st47 ?_
      obtain ⟨_, _, ⟨T48, L48, k48, n48⟩, -, X48, ⟨Lc48, hQ48, l48, y48, z48⟩, st48⟩ := X47.specialBack hx (y := (⟨"java/math/BigInteger", "<init>", "([II)V"⟩ : MethodName)) rfl hown (mvT hZ (w_ hw (i := 162) rfl)) (mvT hZ (w_ hw (i := 163) rfl)) (mvT hZ (w_ hw (i := 164) rfl)) (by decide) (backOf (W := 1) (rm_bia l Z a0 hw [] b9 r28 m28 g28 N3 k_r28 T28.heap n0 O28 f44 f45 f46 r28_0 ge_b9 (Ne.symm ne29) (by omega) (by omega)) hZ (w_ hw (i := 164) rfl) (w_ hw (i := 118) rfl) (by decide) (by decide)) (g := (mkF m 48 #[(sR t), (sR v), .unset, .unset] [(.int (1 : Int32)), (.ref r28), (.ref b9), (.ref b9)])) rfl (by rw [hml]; rfl) (Steps.refl _) (a := b9) (argsL := [(.ref r28), (.int (1 : Int32))]) (rest := [(.ref b9)]) (lenOf pd_8 rfl) rfl (by show 2 * 0 + _ ≤ _; exact Nat.le_of_eq rfl) (hb hby d24_48) (fun _ _ => ⟨rfl, e47, (by decide : 3 + 0 ≤ _), (by decide : 55 + 0 ≤ _)⟩)
      dsimp only [Pt.U, Pt.locs, Pt.cells, Pt.slots] at X48 l48 y48 z48 st48 hQ48
      subst y48 z48
      obtain ⟨rfl, N48q, K48q, r48_0⟩ := hQ48
      have N48 : Fr n0 L48 := by rw [l48]; exact Fr.app N28 N48q
      have f49 := f34.keep K48q (ninS ne10 nin0) (apartS (Apart.exa f44 (w_ hw (i := 122) rfl)) apart0)
      have f50 := f35.keep K48q (ninS ne12 nin0) (apartS (Apart.exa f44 (w_ hw (i := 122) rfl)) apart0)
      have f51 := f36.keep K48q
      have f52 := f37.keep K48q (ninS ne10 nin0)
      have f53 := f38.keep K48q (ninS ne10 nin0)
      have f54 := f39.keep K48q (ninS ne11 nin0)
      have f55 := f40.keep K48q
      have f56 := f41.keep K48q (ninS ne12 nin0)
      have f57 := f42.keep K48q (ninS ne12 nin0)
      have f58 := f43.keep K48q (ninS ne13 nin0)
      have f59 := f44.keep K48q
      have f60 := r28_0.keep K48q (ninS (Ne.symm ne29) nin0)
      have K48 : Keep h0 T48.heap [] := K28.trans K48q (allS (Or.inr sz_b9) all0)
      have O48 := O28.keep K48q (allS ge_b9 all0)
      refine stt st48 ?_
      refine outA X48 hx hret rfl rfl (hb hby d24_51) hlk (by decide) (by decide) ?_
      exact ⟨b9, rfl, N48, K48, (BigOk.mono r48_0 (by omega))⟩
abbrev B16 : ByteArray := jdk_2097_method_29_code
theorem d16_0 : Dc B16 0 (.lload_n 0) 1 := by decide +kernel
theorem d16_1 : Dc B16 1 (.lconst 0) 1 := by decide +kernel
theorem d16_2 : Dc B16 2 (.lcmp) 1 := by decide +kernel
theorem d16_3 : Dc B16 3 (.ifCond .ne 7) 3 := by decide +kernel
theorem d16_6 : Dc B16 6 (.getstatic 22) 3 := by decide +kernel
theorem d16_9 : Dc B16 9 (.areturn) 1 := by decide +kernel
theorem d16_10 : Dc B16 10 (.lload_n 0) 1 := by decide +kernel
theorem d16_11 : Dc B16 11 (.lconst 0) 1 := by decide +kernel
theorem d16_12 : Dc B16 12 (.lcmp) 1 := by decide +kernel
theorem d16_13 : Dc B16 13 (.ifCond .le 18) 3 := by decide +kernel
theorem d16_16 : Dc B16 16 (.lload_n 0) 1 := by decide +kernel
theorem d16_17 : Dc B16 17 (.ldc2_w 345) 3 := by decide +kernel
theorem d16_20 : Dc B16 20 (.lcmp) 1 := by decide +kernel
theorem d16_21 : Dc B16 21 (.ifCond .gt 10) 3 := by decide +kernel
theorem d16_31 : Dc B16 31 (.lload_n 0) 1 := by decide +kernel
theorem d16_32 : Dc B16 32 (.lconst 0) 1 := by decide +kernel
theorem d16_33 : Dc B16 33 (.lcmp) 1 := by decide +kernel
theorem d16_34 : Dc B16 34 (.ifCond .ge 19) 3 := by decide +kernel
theorem d16_53 : Dc B16 53 (.new 23) 3 := by decide +kernel
theorem d16_56 : Dc B16 56 (.dup) 1 := by decide +kernel
theorem d16_57 : Dc B16 57 (.lload_n 0) 1 := by decide +kernel
theorem d16_58 : Dc B16 58 (.invokespecial 356) 3 := by decide +kernel
theorem pd_16 : parseMethodDescriptor "(J)V" = some ⟨[.long], none⟩ := by decide +kernel
theorem d16_61 : Dc B16 61 (.areturn) 1 := by decide +kernel
theorem d16_24 : Dc B16 24 (.getstatic 347) 3 := by decide +kernel
theorem d16_27 : Dc B16 27 (.lload_n 0) 1 := by decide +kernel
theorem d16_28 : Dc B16 28 (.l2i) 1 := by decide +kernel
theorem d16_29 : Dc B16 29 (.aaload) 1 := by decide +kernel
theorem d16_30 : Dc B16 30 (.areturn) 1 := by decide +kernel
theorem ef_rm_vo (m : MethodId) (q : Int64)  : entryFrame m #[(.long q)] 2 = mkF m 0 #[(sJ q), .second] [] := by first | (simp [entryFrame, mkF, argsToLocals, Value.category]; done) | rfl
def Q_rm_vo (Z : State) (q : Int64) (z0 : Addr) (h0 : Heap) (n0 : Nat) (v : Option Value) (h : Heap) (L : List Loc) : Prop := ∃ (r : Addr), v = some (.ref r) ∧ Fr n0 L ∧ Keep h0 h [] ∧ BigOk Z h r 2
theorem pn_22_ : plainName "java/math/BigInteger" = true := by first | (simp [plainName, overriddenIn]; done) | decide +kernel
theorem pn_22 : plainFor (⟨"java/math/BigInteger", "valueOf", "(J)Ljava/math/BigInteger;"⟩ : MethodName) = true := plainFor_of_name pn_22_
set_option maxRecDepth 65536 in
set_option maxHeartbeats 40000000 in
theorem rm_vo (l : Launch) (Z : State) (a0 : Array Value) (hw : ∀ d ∈ tables_1, d.before a0 Z = true) (ws : List Jvm.Cond) (q : Int64) (z0 : Addr) (h0 : Heap) (n0 : Nat) (O0 : Old Z n0 h0) (S_ZERO : Sta Z Z.heap "java/math/BigInteger" "ZERO" "Ljava/math/BigInteger;" (.ref z0)) (Q_z0 : BigOk Z Z.heap z0 0) (hq : ¬ q < (0 : Int64)) (hPC : PosOk Z) :
    MetFree l (⟨"java/math/BigInteger", "valueOf", "(J)Ljava/math/BigInteger;"⟩ : MethodName) (head1 (Jvm.Cond.code (⟨"java/math/BigInteger", "valueOf", "(J)Ljava/math/BigInteger;"⟩ : MethodName) jdk_2097_method_29_code 2 (some (.object "java/math/BigInteger")) :: ws) ({ frames := 3, cells := 2, slots := 8, locals := 40 } : Room)) (fun args_ U => args_ = #[(.long q)] ∧ Z.Warmed39 U.vm ∧ U.heap = h0) (fun _ _ _ _ _ => True) (fun _ U out_ U' => ∃ val_ loc_, out_ = .returned val_ ∧ (Q_rm_vo Z q z0 h0 n0) val_ U'.heap loc_ ∧ FrameEnd U out_ U' loc_ ({ frames := 3, cells := 2, slots := 8, locals := 40 } : Room).cells ({ frames := 3, cells := 2, slots := 8, locals := 40 } : Room).slots) := by
  refine start (Q := (Q_rm_vo Z q z0 h0 n0)) pn_22 ?_
  intro p e s m below meth c T0 X0 hx hby hml hown hnm hret hlk hZ e0
  replace hown : s.vm.findClass "java/math/BigInteger" = some m.cls := hown
  replace hml : c.maxLocals = 2 := hml
  refine goAt (ef_rm_vo m q ) ?_
  have N0 := Fr.nil n0
  obtain ⟨p0, clp, Sp, Ap, np, hpc⟩ := (id hPC)
  refine stp (fun _ => XS.lloadN X0.here hx rfl (hb hby d16_0) rfl) ?_
  refine stp (fun _ => XS.lconst X0.here hx rfl (hb hby d16_1)) ?_
  refine stp (fun _ => XS.lcmp X0.here hx rfl (hb hby d16_2) rfl) ?_
  by_cases q3_1 : q = (0 : Int64)
  · refine stp (fun _ => XS.ifNo X0.here hx rfl (hb hby d16_3) rfl (XT.ll_ne_f q3_1)) ?_
    show Go p e below T0 (mkF m 6 #[(sJ q), .second] []) _
    obtain ⟨T2, X2, e2, st2⟩ := getS2 X0 hx hZ hown (host := "") (Or.inl (w_ hw (i := 174) rfl)) Via.refl e0 (S_ZERO.ext O0.2) (g := (mkF m 6 #[(sJ q), .second] [])) rfl (hb hby d16_6)
    refine stp st2 ?_
    refine outA X2 hx hret rfl rfl (hb hby d16_9) hlk (by decide) (by decide) ?_
    rw [e2]
    exact ⟨z0, rfl, N0, (Keep.refl h0 []), (BigOk.mono (Q_z0.ext O0.2) (by omega))⟩
  refine stp (fun _ => XS.ifYes X0.here hx rfl (pc0 := 3) (pc' := 10) rfl (hb hby d16_3) rfl (XT.ll_ne_t q3_1) (by decide) (by decide)) ?_
  show Go p e below T0 (mkF m 10 #[(sJ q), .second] []) _
  refine stp (fun _ => XS.lloadN X0.here hx rfl (hb hby d16_10) rfl) ?_
  refine stp (fun _ => XS.lconst X0.here hx rfl (hb hby d16_11)) ?_
  refine stp (fun _ => XS.lcmp X0.here hx rfl (hb hby d16_12) rfl) ?_
  refine stp (fun _ => XS.ifNo X0.here hx rfl (hb hby d16_13) rfl (XT.ll_le_f (own_gt0 hq q3_1))) ?_
  refine stp (fun _ => XS.lloadN X0.here hx rfl (hb hby d16_16) rfl) ?_
  show Go p e below T0 (mkF m 17 #[(sJ q), .second] [(.long q)]) _
  refine stp (fun _ => X0.ldc2Long hx hown (mvT hZ (w_ hw (i := 120) rfl)) (g := (mkF m 17 #[(sJ q), .second] [(.long q)])) rfl (hb hby d16_17) _) ?_
  refine stp (fun _ => XS.lcmp X0.here hx rfl (hb hby d16_20) rfl) ?_
  by_cases q21_3 : (16 : Int64) < q
  rotate_left
  · refine stp (fun _ => XS.ifNo X0.here hx rfl (hb hby d16_21) rfl (XT.ll_gt_f q21_3)) ?_
    obtain ⟨T10, X10, e10, st10⟩ := getS2 X0 hx hZ hown (host := "") (Or.inl (w_ hw (i := 175) rfl)) Via.refl e0 (Sp.ext O0.2) (g := (mkF m 24 #[(sJ q), .second] [])) rfl (hb hby d16_24)
    refine stp st10 ?_
    refine stp (fun _ => XS.lloadN X10.here hx rfl (hb hby d16_27) rfl) ?_
    show Go p e below T10 (mkF m 28 #[(sJ q), .second] [(.long q), (.ref p0)]) _
    refine stp (fun _ => XS.l2i X10.here hx rfl (hb hby d16_28) rfl) ?_
    show Go p e below T10 (mkF m 29 #[(sJ q), .second] [(.int (q.toInt32)), (.ref p0)]) _
    obtain ⟨iq, hi1, hi2, hi3⟩ := own_ix hq q3_1 q21_3
    obtain ⟨cq, hat, Bq⟩ := hpc iq hi2 hi3
    refine stp (fun _ => X10.aaload hx (j := (q.toInt32)) (v := (.ref cq)) (by rw [e10]; exact O0.2.2 _ _ Ap.1) (State.isArrayOf_alike hZ.alike Ap.2.1) rfl Ap.2.2 (arf_in np hi1 (by omega)) (by rw [arf_ix hi1]; exact hat) (g := (mkF m 29 #[(sJ q), .second] [(.int (q.toInt32)), (.ref p0)])) rfl rfl (hb hby d16_29) _) ?_
    refine outA X10 hx hret rfl rfl (hb hby d16_30) hlk (by decide) (by decide) ?_
    rw [e10]
    exact ⟨cq, rfl, N0, (Keep.refl h0 []), (BigOk.mono (Bq.ext O0.2) (by omega))⟩
  refine stp (fun _ => XS.ifYes X0.here hx rfl (pc0 := 21) (pc' := 31) rfl (hb hby d16_21) rfl (XT.ll_gt_t q21_3) (by decide) (by decide)) ?_
  refine stp (fun _ => XS.lloadN X0.here hx rfl (hb hby d16_31) rfl) ?_
  refine stp (fun _ => XS.lconst X0.here hx rfl (hb hby d16_32)) ?_
  show Go p e below T0 (mkF m 33 #[(sJ q), .second] [(.long (0 : Int64)), (.long q)]) _
  refine stp (fun _ => XS.lcmp X0.here hx rfl (hb hby d16_33) rfl) ?_
  refine stp (fun _ => XS.ifYes X0.here hx rfl (pc0 := 34) (pc' := 53) rfl (hb hby d16_34) rfl (XT.ll_ge_t hq) (by decide) (by decide)) ?_
  obtain ⟨T4, h4, X4, e4, E4, A4, D4, U4, st4⟩ := newO X0 hx hZ hown (w_ hw (i := 121) rfl) (w_ hw (i := 122) rfl) (w_ hw (i := 118) rfl) e0 (g := (mkF m 53 #[(sJ q), .second] [])) rfl (hb hby d16_53) (by decide) (by decide)
  obtain ⟨b4, g4⟩ : ∃ z, z = h0.size := ⟨_, rfl⟩
  rw [← g4] at A4 D4 st4
  have ne5 : z0 ≠ b4 := O0.ne Q_z0.lt (Nat.le_trans (old_le O0) (Nat.le_of_eq g4.symm))
  have sz_b4 : h0.size ≤ b4 := Nat.le_trans (Keep.refl h0 []).1 (Nat.le_of_eq g4.symm)
  have ge_b4 : n0 ≤ b4 := Nat.le_trans (old_le O0) (Nat.le_of_eq g4.symm)
  have K4 : Keep h0 h4 [] := (Keep.refl h0 []).ext E4
  have O4 := O0.ext E4
  have F6 : Fld Z h4 b4 "java/math/BigInteger" "signum" "I" (.int (0 : Int32)) := D4 (Or.inr (w_ hw (i := 135) rfl)) (ty := .int) (by decide)
  have F7 : Fld Z h4 b4 "java/math/BigInteger" "mag" "[I" .null := D4 (Or.inr (w_ hw (i := 138) rfl)) (ty := (.array .int)) (by decide)
  refine stp st4 ?_
  refine stp (fun _ => XS.dup X4.here hx rfl (hb hby d16_56) rfl rfl) ?_
  refine stp (fun _ => XS.lloadN X4.here hx rfl (hb hby d16_57) rfl) ?_
  show Go p e below T4 (mkF m 58 #[(sJ q), .second] [(.long q), (.ref b4), (.ref b4)]) _
  obtain ⟨_, _, ⟨T8, L8, k8, n8⟩, -, X8, ⟨Lc8, hQ8, l8, y8, z8⟩, st8⟩ := X4.specialBack hx (y := (⟨"java/math/BigInteger", "<init>", "(J)V"⟩ : MethodName)) rfl hown (mvT hZ (w_ hw (i := 123) rfl)) (mvT hZ (w_ hw (i := 124) rfl)) (mvT hZ (w_ hw (i := 126) rfl)) (by decide) (backOf (W := 1) (rm_bil l Z a0 hw [] b4 q  h4 n0 O4 A4 F6 F7 ge_b4 hq) hZ (w_ hw (i := 126) rfl) (w_ hw (i := 118) rfl) (by decide) (by decide)) (g := (mkF m 58 #[(sJ q), .second] [(.long q), (.ref b4), (.ref b4)])) rfl (by rw [hml]; rfl) (Steps.refl _) (a := b4) (argsL := [(.long q)]) (rest := [(.ref b4)]) (lenOf pd_16 rfl) rfl (by show 2 * 0 + _ ≤ _; exact Nat.le_of_eq rfl) (hb hby d16_58) (fun _ _ => ⟨rfl, e4, (by decide : 1 + 1 ≤ _), (by decide : 6 + 2 ≤ _)⟩)
  dsimp only [Pt.U, Pt.locs, Pt.cells, Pt.slots] at X8 l8 y8 z8 st8 hQ8
  subst y8 z8
  obtain ⟨rfl, N8q, K8q, r8_0⟩ := hQ8
  have N8 : Fr n0 L8 := by rw [l8]; exact Fr.app N0 N8q
  have f9 := A4.keep K8q
  have K8 : Keep h0 T8.heap [] := K4.trans K8q (allS (Or.inr sz_b4) all0)
  have O8 := O4.keep K8q (allS ge_b4 all0)
  refine stt st8 ?_
  refine outA X8 hx hret rfl rfl (hb hby d16_61) hlk (by decide) (by decide) ?_
  exact ⟨b4, rfl, N8, K8, (BigOk.mono r8_0 (by omega))⟩
abbrev B8 : ByteArray := jdk_29_method_61_code
theorem d8_0 : Dc B8 0 (.lload_n 0) 1 := by decide +kernel
theorem d8_1 : Dc B8 1 (.lconst 0) 1 := by decide +kernel
theorem d8_2 : Dc B8 2 (.lcmp) 1 := by decide +kernel
theorem d8_3 : Dc B8 3 (.ifCond .ge 8) 3 := by decide +kernel
theorem d8_11 : Dc B8 11 (.lload_n 0) 1 := by decide +kernel
theorem d8_12 : Dc B8 12 (.lreturn) 1 := by decide +kernel
theorem ef_rm_abs (m : MethodId) (q : Int64)  : entryFrame m #[(.long q)] 2 = mkF m 0 #[(sJ q), .second] [] := by first | (simp [entryFrame, mkF, argsToLocals, Value.category]; done) | rfl
def Q_rm_abs (Z : State) (q : Int64)  (h0 : Heap) (n0 : Nat) (v : Option Value) (h : Heap) (L : List Loc) : Prop := v = some (.long q) ∧ Fr n0 L ∧ h = h0
set_option maxRecDepth 65536 in
set_option maxHeartbeats 40000000 in
theorem rm_abs (l : Launch) (Z : State) (a0 : Array Value) (hw : ∀ d ∈ tables_1, d.before a0 Z = true) (ws : List Jvm.Cond) (q : Int64)  (h0 : Heap) (n0 : Nat) (O0 : Old Z n0 h0) (hq : ¬ q < (0 : Int64)) :
    MetFree l (⟨"java/lang/Math", "abs", "(J)J"⟩ : MethodName) (head1 (Jvm.Cond.code (⟨"java/lang/Math", "abs", "(J)J"⟩ : MethodName) jdk_29_method_61_code 2 (some .long) :: ws) ({ frames := 0, cells := 0, slots := 0, locals := 0 } : Room)) (fun args_ U => args_ = #[(.long q)] ∧ Z.Warmed39 U.vm ∧ U.heap = h0) (fun _ _ _ _ _ => True) (fun _ U out_ U' => ∃ val_ loc_, out_ = .returned val_ ∧ (Q_rm_abs Z q h0 n0) val_ U'.heap loc_ ∧ FrameEnd U out_ U' loc_ ({ frames := 0, cells := 0, slots := 0, locals := 0 } : Room).cells ({ frames := 0, cells := 0, slots := 0, locals := 0 } : Room).slots) := by
  refine start (Q := (Q_rm_abs Z q h0 n0)) (Jvm.Free.JP.mathPlain rfl (by decide +kernel)) ?_
  intro p e s m below meth c T0 X0 hx hby hml hown hnm hret hlk hZ e0
  replace hown : s.vm.findClass "java/lang/Math" = some m.cls := hown
  replace hml : c.maxLocals = 2 := hml
  refine goAt (ef_rm_abs m q ) ?_
  have N0 := Fr.nil n0
  refine stp (fun _ => XS.lloadN X0.here hx rfl (hb hby d8_0) rfl) ?_
  refine stp (fun _ => XS.lconst X0.here hx rfl (hb hby d8_1)) ?_
  refine stp (fun _ => XS.lcmp X0.here hx rfl (hb hby d8_2) rfl) ?_
  refine stp (fun _ => XS.ifYes X0.here hx rfl (pc0 := 3) (pc' := 11) rfl (hb hby d8_3) rfl (XT.ll_ge_t hq) (by decide) (by decide)) ?_
  show Go p e below T0 (mkF m 11 #[(sJ q), .second] []) _
  refine stp (fun _ => XS.lloadN X0.here hx rfl (hb hby d8_11) rfl) ?_
  refine outJ X0 hx hret (hb hby d8_12) hlk (by decide) (by decide) ?_
  exact ⟨rfl, N0, e0⟩
abbrev B13 : ByteArray := jdk_78_method_2_code
theorem d13_0 : Dc B13 0 (.aload_n 0) 1 := by decide +kernel
theorem d13_1 : Dc B13 1 (.invokespecial 1) 3 := by decide +kernel
theorem d13_4 : Dc B13 4 (.aload_n 0) 1 := by decide +kernel
theorem d13_5 : Dc B13 5 (.aload_n 0) 1 := by decide +kernel
theorem d13_6 : Dc B13 6 (.putfield 7) 3 := by decide +kernel
theorem d13_9 : Dc B13 9 (.aload_n 0) 1 := by decide +kernel
theorem d13_10 : Dc B13 10 (.getstatic 13) 3 := by decide +kernel
theorem d13_13 : Dc B13 13 (.putfield 17) 3 := by decide +kernel
theorem d13_16 : Dc B13 16 (.aload_n 0) 1 := by decide +kernel
theorem d13_17 : Dc B13 17 (.getstatic 20) 3 := by decide +kernel
theorem d13_20 : Dc B13 20 (.putfield 24) 3 := by decide +kernel
theorem d13_23 : Dc B13 23 (.aload_n 0) 1 := by decide +kernel
theorem d13_24 : Dc B13 24 (.invokevirtual 27) 3 := by decide +kernel
theorem d13_27 : Dc B13 27 (.pop) 1 := by decide +kernel
theorem d13_28 : Dc B13 28 (.aload_n 0) 1 := by decide +kernel
theorem d13_29 : Dc B13 29 (.aload_n 1) 1 := by decide +kernel
theorem d13_30 : Dc B13 30 (.putfield 31) 3 := by decide +kernel
theorem d13_33 : Dc B13 33 (.return_) 1 := by decide +kernel
theorem ef_rm_ti (m : MethodId) (t : Addr) (msg : Addr)  : entryFrame m #[(.ref t), (.ref msg)] 2 = mkF m 0 #[(sR t), (sR msg)] [] := by first | (simp [entryFrame, mkF, argsToLocals, Value.category]; done) | rfl
def Q_rm_ti (Z : State) (t : Addr) (msg : Addr) (u : Value) (sen : Value) (h0 : Heap) (n0 : Nat) (v : Option Value) (h : Heap) (L : List Loc) : Prop := v = none ∧ Fr n0 L ∧ Keep h0 h [t] ∧ Exa Z h t "java/lang/ArithmeticException"
theorem pn_23_ : plainName "java/lang/Throwable" = true := by first | (simp [plainName, overriddenIn]; done) | decide +kernel
theorem pn_23 : plainFor (⟨"java/lang/Throwable", "<init>", "(Ljava/lang/String;)V"⟩ : MethodName) = true := plainFor_of_name pn_23_
set_option maxRecDepth 65536 in
set_option maxHeartbeats 40000000 in
theorem rm_ti (l : Launch) (Z : State) (a0 : Array Value) (hw : ∀ d ∈ tables_1, d.before a0 Z = true) (ws : List Jvm.Cond) (t : Addr) (msg : Addr) (u : Value) (sen : Value) (h0 : Heap) (n0 : Nat) (O0 : Old Z n0 h0) (hEL : EW Z a0 consts_1) (E_t : Exa Z h0 t "java/lang/ArithmeticException") (F_t_cause : Fld Z h0 t "java/lang/Throwable" "cause" "Ljava/lang/Throwable;" .null) (F_t_stackTrace : Fld Z h0 t "java/lang/Throwable" "stackTrace" "[Ljava/lang/StackTraceElement;" .null) (F_t_suppressedExceptions : Fld Z h0 t "java/lang/Throwable" "suppressedExceptions" "Ljava/util/List;" .null) (F_t_backtrace : Fld Z h0 t "java/lang/Throwable" "backtrace" "Ljava/lang/Object;" .null) (F_t_detailMessage : Fld Z h0 t "java/lang/Throwable" "detailMessage" "Ljava/lang/String;" .null) (S_UNASSIGNED_STACK : Sta Z Z.heap "java/lang/Throwable" "UNASSIGNED_STACK" "[Ljava/lang/StackTraceElement;" u) (S_SUPPRESSED_SENTINEL : Sta Z Z.heap "java/lang/Throwable" "SUPPRESSED_SENTINEL" "Ljava/util/List;" sen) (ge_t : n0 ≤ t) (hU : Unt h0 t) (hl : l.stackTraces = true) (hu : u.isRef = true) (hsen : sen.isRef = true) :
    MetFree l (⟨"java/lang/Throwable", "<init>", "(Ljava/lang/String;)V"⟩ : MethodName) (head1 (Jvm.Cond.code (⟨"java/lang/Throwable", "<init>", "(Ljava/lang/String;)V"⟩ : MethodName) jdk_78_method_2_code 2 none :: ws) ({ frames := 3, cells := 1, slots := 2752, locals := 42 } : Room)) (fun args_ U => args_ = #[(.ref t), (.ref msg)] ∧ Z.Warmed39 U.vm ∧ U.heap = h0 ∧ CHv Z consts_1 U.vm h0) Knows (fun _ s out_ U' => (PoW s Z consts_1 (Q_rm_ti Z t msg u sen h0 n0) ({ frames := 3, cells := 1, slots := 2752, locals := 42 } : Room).cells ({ frames := 3, cells := 1, slots := 2752, locals := 42 } : Room).slots) out_ U') := by
  refine startT (P := fun s => (PoW s Z consts_1 (Q_rm_ti Z t msg u sen h0 n0) ({ frames := 3, cells := 1, slots := 2752, locals := 42 } : Room).cells ({ frames := 3, cells := 1, slots := 2752, locals := 42 } : Room).slots)) pn_23 ?_
  intro p e s m below meth c T0 X0 hx hby hml hown hnm hret hlk hZ e0 hS CR hKn
  obtain ⟨hs0, hnh, hKn⟩ := hKn
  have CR0 := CR
  have hk : 0 ≤ h0.size := Nat.zero_le _
  have wS : ∀ a ∈ Bundle.stringAtoms, a.before a0 Z = true := own_wS hw
  replace hown : s.vm.findClass "java/lang/Throwable" = some m.cls := hown
  replace hml : c.maxLocals = 2 := hml
  refine goAt (ef_rm_ti m t msg ) ?_
  have N0 := Fr.nil n0
  refine stp (fun _ => XS.aloadN X0.here hx rfl (hb hby d13_0) rfl rfl) ?_
  obtain ⟨T1, X1, e1, st1⟩ := initO X0 hx hZ hown (w_ hw (i := 79) rfl) (w_ hw (i := 15) rfl) (w_ hw (i := 16) rfl) e0 (g := (mkF m 1 #[(sR t), (sR msg)] [(.ref t)])) rfl (by rw [hml]; rfl) rfl (hb hby d13_1) (by decide) (W := 0) (by show 2 * 0 + _ ≤ _; exact Nat.le_of_eq rfl) (by decide)
  refine stp st1 ?_
  refine stp (fun _ => XS.aloadN X1.here hx rfl (hb hby d13_4) rfl rfl) ?_
  refine stp (fun _ => XS.aloadN X1.here hx rfl (hb hby d13_5) rfl rfl) ?_
  show Go p e below T1 (mkF m 6 #[(sR t), (sR msg)] [(.ref t), (.ref t)]) _
  obtain ⟨T2, h2, X2, e2, W2, st2⟩ := putF X1 hx hZ hown (host := "") (Or.inl (w_ hw (i := 80) rfl)) Via.refl e1 F_t_cause E_t (Or.inl (w_ hw (i := 81) rfl)) (w_ hw (i := 47) rfl) (ty := (.object "java/lang/Throwable")) (by decide) rfl rfl (g := (mkF m 6 #[(sR t), (sR msg)] [(.ref t), (.ref t)])) rfl rfl (hb hby d13_6)
  have Fw2 := F_t_cause.same W2
  have f3 := E_t.wr W2
  have f5 := F_t_stackTrace.other W2 (Or.inr (slot_ne (Or.inl (w_ hw (i := 84) rfl)) (Or.inl (w_ hw (i := 81) rfl)) (by decide) (t := (.array (.object "java/lang/StackTraceElement"))) (t' := (.object "java/lang/Throwable")) (by decide) (by decide)))
  have f6 := F_t_suppressedExceptions.other W2 (Or.inr (slot_ne (Or.inl (w_ hw (i := 87) rfl)) (Or.inl (w_ hw (i := 81) rfl)) (by decide) (t := (.object "java/util/List")) (t' := (.object "java/lang/Throwable")) (by decide) (by decide)))
  have f7 := F_t_backtrace.other W2 (Or.inr (slot_ne (Or.inl (w_ hw (i := 112) rfl)) (Or.inl (w_ hw (i := 81) rfl)) (by decide) (t := (.object "java/lang/Object")) (t' := (.object "java/lang/Throwable")) (by decide) (by decide)))
  have f8 := F_t_detailMessage.other W2 (Or.inr (slot_ne (Or.inl (w_ hw (i := 111) rfl)) (Or.inl (w_ hw (i := 81) rfl)) (by decide) (t := (.object "java/lang/String")) (t' := (.object "java/lang/Throwable")) (by decide) (by decide)))
  have f9 := Unt.wr W2 hU
  have hk := Nat.le_trans hk (Keep.of_wr W2).1
  have CR := CR.trans (CHr.wr W2 (Safe.exa hZ.alike E_t (by decide) (by decide)) CR.1)
  have K2 : Keep h0 h2 [t] := (Keep.refl h0 [t]).wr W2 (Or.inl (List.mem_of_getElem? (i := 0) rfl))
  have O2 := O0.wr W2 ge_t
  have N2 := Fr.snoc X2 N0 ge_t
  refine stp st2 ?_
  refine stp (fun _ => XS.aloadN X2.here hx rfl (hb hby d13_9) rfl rfl) ?_
  obtain ⟨T10, X10, e10, st10⟩ := getS2 X2 hx hZ hown (host := "") (Or.inl (w_ hw (i := 82) rfl)) Via.refl e2 (S_UNASSIGNED_STACK.ext O2.2) (g := (mkF m 10 #[(sR t), (sR msg)] [(.ref t)])) rfl (hb hby d13_10)
  refine stp st10 ?_
  obtain ⟨T11, h11, X11, e11, W11, st11⟩ := putF X10 hx hZ hown (host := "") (Or.inl (w_ hw (i := 83) rfl)) Via.refl e10 f5 f3 (Or.inl (w_ hw (i := 84) rfl)) (w_ hw (i := 47) rfl) (ty := (.array (.object "java/lang/StackTraceElement"))) (by decide) (narrow_isRef _ hu) (fits_refV_array _ ⟨_, hu⟩) (g := (mkF m 13 #[(sR t), (sR msg)] [u, (.ref t)])) rfl rfl (hb hby d13_13)
  have Fw11 := f5.same W11
  have f12 := f3.wr W11
  have f13 := Fw2.other W11 (Or.inr (slot_ne (Or.inl (w_ hw (i := 81) rfl)) (Or.inl (w_ hw (i := 84) rfl)) (by decide) (t := (.object "java/lang/Throwable")) (t' := (.array (.object "java/lang/StackTraceElement"))) (by decide) (by decide)))
  have f15 := f6.other W11 (Or.inr (slot_ne (Or.inl (w_ hw (i := 87) rfl)) (Or.inl (w_ hw (i := 84) rfl)) (by decide) (t := (.object "java/util/List")) (t' := (.array (.object "java/lang/StackTraceElement"))) (by decide) (by decide)))
  have f16 := f7.other W11 (Or.inr (slot_ne (Or.inl (w_ hw (i := 112) rfl)) (Or.inl (w_ hw (i := 84) rfl)) (by decide) (t := (.object "java/lang/Object")) (t' := (.array (.object "java/lang/StackTraceElement"))) (by decide) (by decide)))
  have f17 := f8.other W11 (Or.inr (slot_ne (Or.inl (w_ hw (i := 111) rfl)) (Or.inl (w_ hw (i := 84) rfl)) (by decide) (t := (.object "java/lang/String")) (t' := (.array (.object "java/lang/StackTraceElement"))) (by decide) (by decide)))
  have f18 := Unt.wr W11 f9
  have hk := Nat.le_trans hk (Keep.of_wr W11).1
  have CR := CR.trans (CHr.wr W11 (Safe.exa hZ.alike f3 (by decide) (by decide)) CR.1)
  have K11 : Keep h0 h11 [t] := K2.wr W11 (Or.inl (List.mem_of_getElem? (i := 0) rfl))
  have O11 := O2.wr W11 ge_t
  have N11 := Fr.snoc X11 N2 ge_t
  refine stp st11 ?_
  refine stp (fun _ => XS.aloadN X11.here hx rfl (hb hby d13_16) rfl rfl) ?_
  show Go p e below T11 (mkF m 17 #[(sR t), (sR msg)] [(.ref t)]) _
  obtain ⟨T19, X19, e19, st19⟩ := getS2 X11 hx hZ hown (host := "") (Or.inl (w_ hw (i := 85) rfl)) Via.refl e11 (S_SUPPRESSED_SENTINEL.ext O11.2) (g := (mkF m 17 #[(sR t), (sR msg)] [(.ref t)])) rfl (hb hby d13_17)
  refine stp st19 ?_
  obtain ⟨T20, h20, X20, e20, W20, st20⟩ := putF X19 hx hZ hown (host := "") (Or.inl (w_ hw (i := 86) rfl)) Via.refl e19 f15 f12 (Or.inl (w_ hw (i := 87) rfl)) (w_ hw (i := 47) rfl) (ty := (.object "java/util/List")) (by decide) (narrow_isRef _ hsen) (fits_refV_object _ ⟨_, hsen⟩) (g := (mkF m 20 #[(sR t), (sR msg)] [sen, (.ref t)])) rfl rfl (hb hby d13_20)
  have Fw20 := f15.same W20
  have f21 := f12.wr W20
  have f22 := f13.other W20 (Or.inr (slot_ne (Or.inl (w_ hw (i := 81) rfl)) (Or.inl (w_ hw (i := 87) rfl)) (by decide) (t := (.object "java/lang/Throwable")) (t' := (.object "java/util/List")) (by decide) (by decide)))
  have f23 := Fw11.other W20 (Or.inr (slot_ne (Or.inl (w_ hw (i := 84) rfl)) (Or.inl (w_ hw (i := 87) rfl)) (by decide) (t := (.array (.object "java/lang/StackTraceElement"))) (t' := (.object "java/util/List")) (by decide) (by decide)))
  have f25 := f16.other W20 (Or.inr (slot_ne (Or.inl (w_ hw (i := 112) rfl)) (Or.inl (w_ hw (i := 87) rfl)) (by decide) (t := (.object "java/lang/Object")) (t' := (.object "java/util/List")) (by decide) (by decide)))
  have f26 := f17.other W20 (Or.inr (slot_ne (Or.inl (w_ hw (i := 111) rfl)) (Or.inl (w_ hw (i := 87) rfl)) (by decide) (t := (.object "java/lang/String")) (t' := (.object "java/util/List")) (by decide) (by decide)))
  have f27 := Unt.wr W20 f18
  have hk := Nat.le_trans hk (Keep.of_wr W20).1
  have CR := CR.trans (CHr.wr W20 (Safe.exa hZ.alike f12 (by decide) (by decide)) CR.1)
  have K20 : Keep h0 h20 [t] := K11.wr W20 (Or.inl (List.mem_of_getElem? (i := 0) rfl))
  have O20 := O11.wr W20 ge_t
  have N20 := Fr.snoc X20 N11 ge_t
  refine stp st20 ?_
  refine stp (fun _ => XS.aloadN X20.here hx rfl (hb hby d13_23) rfl rfl) ?_
  show Go p e below T20 (mkF m 24 #[(sR t), (sR msg)] [(.ref t)]) _
  obtain ⟨T28, h28, L28, X28, e28, N28q, K28, D28, st28⟩ := own_fillAt (rc := "java/lang/ArithmeticException") (by decide) (a := t) (k := 6) X20 hx hl hZ (own_exw hw) hown hs0 O0 (knows_since hS hKn).1 (knows_since hS hKn).2 (fun y hy => by simp at hy; rcases hy with rfl | rfl | rfl <;> rfl) ge_t e20 O20 (w_ hw (i := 47) rfl) f21 f27 hu S_UNASSIGNED_STACK f23 f25 f26 E_t (g := (mkF m 24 #[(sR t), (sR msg)] [(.ref t)])) rfl (by rw [hml]; rfl) (rest := []) rfl (hb hby d13_24) (by decide) (by show 2 * 0 + 0 + 42 ≤ _; decide) (by decide) (by decide)
  have E28 := E_t.keep K28
  have O28 := O0.keep K28 (allS ge_t all0)
  have N28 := Fr.app N20 N28q
  have hk : 0 ≤ h28.size := Nat.zero_le _
  have CR : CHr Z consts_1 s.vm s.heap s.vm h28 := own_cr (by rw [hs0]; exact K28.1)
  refine stp st28 ?_
  refine stp (fun _ => XS.pop X28.here hx rfl (hb hby d13_27) rfl rfl) ?_
  refine stp (fun _ => XS.aloadN X28.here hx rfl (hb hby d13_28) rfl rfl) ?_
  refine stp (fun _ => XS.aloadN X28.here hx rfl (hb hby d13_29) rfl rfl) ?_
  obtain ⟨T29, h29, X29, e29, W29, st29⟩ := putF X28 hx hZ hown (host := "") (Or.inl (w_ hw (i := 114) rfl)) Via.refl e28 D28 E28 (Or.inl (w_ hw (i := 111) rfl)) (w_ hw (i := 47) rfl) (ty := (.object "java/lang/String")) (by decide) rfl rfl (g := (mkF m 30 #[(sR t), (sR msg)] [(.ref msg), (.ref t)])) rfl rfl (hb hby d13_30)
  have Fw29 := D28.same W29
  have f30 := E28.wr W29
  have hk := Nat.le_trans hk (Keep.of_wr W29).1
  have CR := CR.trans (CHr.wr W29 (Safe.exa hZ.alike E28 (by decide) (by decide)) CR.1)
  have K29 : Keep h0 h29 [t] := K28.wr W29 (Or.inl (List.mem_of_getElem? (i := 0) rfl))
  have O29 := O28.wr W29 ge_t
  have N29 := Fr.snoc X29 N28 ge_t
  refine stp st29 ?_
  show Go p e below T29 (mkF m 33 #[(sR t), (sR msg)] []) _
  refine outVW X29 hx hZ hEL e29 hS hk CR hret (hb hby d13_33) hlk (by decide) (by decide) ?_
  rw [e29]
  exact ⟨rfl, N29, K29, f30⟩
abbrev B12 : ByteArray := jdk_59_method_2_code
theorem d12_0 : Dc B12 0 (.aload_n 0) 1 := by decide +kernel
theorem d12_1 : Dc B12 1 (.aload_n 1) 1 := by decide +kernel
theorem d12_2 : Dc B12 2 (.invokespecial 7) 3 := by decide +kernel
theorem pd_17 : parseMethodDescriptor "(Ljava/lang/String;)V" = some ⟨[(.object "java/lang/String")], none⟩ := by decide +kernel
theorem d12_5 : Dc B12 5 (.return_) 1 := by decide +kernel
theorem ef_rm_exi (m : MethodId) (t : Addr) (msg : Addr)  : entryFrame m #[(.ref t), (.ref msg)] 2 = mkF m 0 #[(sR t), (sR msg)] [] := by first | (simp [entryFrame, mkF, argsToLocals, Value.category]; done) | rfl
def Q_rm_exi (Z : State) (t : Addr) (msg : Addr) (u : Value) (sen : Value) (h0 : Heap) (n0 : Nat) (v : Option Value) (h : Heap) (L : List Loc) : Prop := v = none ∧ Fr n0 L ∧ Keep h0 h [t] ∧ Exa Z h t "java/lang/ArithmeticException"
theorem pn_24_ : plainName "java/lang/Exception" = true := by first | (simp [plainName, overriddenIn]; done) | decide +kernel
theorem pn_24 : plainFor (⟨"java/lang/Exception", "<init>", "(Ljava/lang/String;)V"⟩ : MethodName) = true := plainFor_of_name pn_24_
set_option maxRecDepth 65536 in
set_option maxHeartbeats 40000000 in
theorem rm_exi (l : Launch) (Z : State) (a0 : Array Value) (hw : ∀ d ∈ tables_1, d.before a0 Z = true) (ws : List Jvm.Cond) (t : Addr) (msg : Addr) (u : Value) (sen : Value) (h0 : Heap) (n0 : Nat) (O0 : Old Z n0 h0) (hEL : EW Z a0 consts_1) (E_t : Exa Z h0 t "java/lang/ArithmeticException") (F_t_cause : Fld Z h0 t "java/lang/Throwable" "cause" "Ljava/lang/Throwable;" .null) (F_t_stackTrace : Fld Z h0 t "java/lang/Throwable" "stackTrace" "[Ljava/lang/StackTraceElement;" .null) (F_t_suppressedExceptions : Fld Z h0 t "java/lang/Throwable" "suppressedExceptions" "Ljava/util/List;" .null) (F_t_backtrace : Fld Z h0 t "java/lang/Throwable" "backtrace" "Ljava/lang/Object;" .null) (F_t_detailMessage : Fld Z h0 t "java/lang/Throwable" "detailMessage" "Ljava/lang/String;" .null) (S_UNASSIGNED_STACK : Sta Z Z.heap "java/lang/Throwable" "UNASSIGNED_STACK" "[Ljava/lang/StackTraceElement;" u) (S_SUPPRESSED_SENTINEL : Sta Z Z.heap "java/lang/Throwable" "SUPPRESSED_SENTINEL" "Ljava/util/List;" sen) (ge_t : n0 ≤ t) (hU : Unt h0 t) (hl : l.stackTraces = true) (hu : u.isRef = true) (hsen : sen.isRef = true) :
    MetFree l (⟨"java/lang/Exception", "<init>", "(Ljava/lang/String;)V"⟩ : MethodName) (head1 (Jvm.Cond.code (⟨"java/lang/Exception", "<init>", "(Ljava/lang/String;)V"⟩ : MethodName) jdk_59_method_2_code 2 none :: ws) ({ frames := 4, cells := 1, slots := 2752, locals := 55 } : Room)) (fun args_ U => args_ = #[(.ref t), (.ref msg)] ∧ Z.Warmed39 U.vm ∧ U.heap = h0 ∧ CHv Z consts_1 U.vm h0) Knows (fun _ s out_ U' => (PoW s Z consts_1 (Q_rm_exi Z t msg u sen h0 n0) ({ frames := 4, cells := 1, slots := 2752, locals := 55 } : Room).cells ({ frames := 4, cells := 1, slots := 2752, locals := 55 } : Room).slots) out_ U') := by
  refine startT (P := fun s => (PoW s Z consts_1 (Q_rm_exi Z t msg u sen h0 n0) ({ frames := 4, cells := 1, slots := 2752, locals := 55 } : Room).cells ({ frames := 4, cells := 1, slots := 2752, locals := 55 } : Room).slots)) pn_24 ?_
  intro p e s m below meth c T0 X0 hx hby hml hown hnm hret hlk hZ e0 hS CR hKn
  obtain ⟨hs0, hnh, hKn⟩ := hKn
  have CR0 := CR
  have hk : 0 ≤ h0.size := Nat.zero_le _
  have wS : ∀ a ∈ Bundle.stringAtoms, a.before a0 Z = true := own_wS hw
  replace hown : s.vm.findClass "java/lang/Exception" = some m.cls := hown
  replace hml : c.maxLocals = 2 := hml
  refine goAt (ef_rm_exi m t msg ) ?_
  have N0 := Fr.nil n0
  refine stp (fun _ => XS.aloadN X0.here hx rfl (hb hby d12_0) rfl rfl) ?_
  refine stp (fun _ => XS.aloadN X0.here hx rfl (hb hby d12_1) rfl rfl) ?_
  obtain ⟨_, _, ⟨T1, L1, k1, n1⟩, -, X1, hS1, gg1, ⟨Lc1, hQ1, l1, y1, z1, CRn1⟩, st1⟩ := X0.specialBackS hx (y := (⟨"java/lang/Throwable", "<init>", "(Ljava/lang/String;)V"⟩ : MethodName)) rfl hown (mvT hZ (w_ hw (i := 73) rfl)) (mvT hZ (w_ hw (i := 74) rfl)) (mvT hZ (w_ hw (i := 78) rfl)) (by decide) (backOfK (W := 0) (rm_ti l Z a0 hw [] t msg u sen h0 n0 O0 hEL E_t F_t_cause F_t_stackTrace F_t_suppressedExceptions F_t_backtrace F_t_detailMessage S_UNASSIGNED_STACK S_SUPPRESSED_SENTINEL ge_t hU hl hu hsen) hZ (w_ hw (i := 78) rfl) (w_ hw (i := 77) rfl) (by decide) (by decide) hEL CR.1 (knows_since hS hKn).1 (knows_since hS hKn).2) (g := (mkF m 2 #[(sR t), (sR msg)] [(.ref msg), (.ref t)])) rfl (by rw [hml]; rfl) (Steps.refl _) (a := t) (argsL := [(.ref msg)]) (rest := []) (lenOf pd_17 rfl) rfl (by show 2 * 0 + _ ≤ _; exact Nat.le_of_eq rfl) (hb hby d12_2) (fun _ _ => ⟨rfl, e0, (by decide : 0 + 1 ≤ _), (by decide : 0 + 2752 ≤ _)⟩)
  dsimp only [Pt.U, Pt.locs, Pt.cells, Pt.slots] at X1 hS1 gg1 l1 y1 z1 st1 hQ1 CRn1
  subst y1 z1
  obtain ⟨X1, hS, hZ, hown⟩ := rebS hS (by rw [e0]; exact hk) X1 hS1 gg1 hZ hown
  obtain ⟨rfl, N1q, K1q, r1_0⟩ := hQ1
  have N1 : Fr n0 L1 := by rw [l1]; exact Fr.app N0 N1q
  have f2 := E_t.keep K1q
  have K1 : Keep h0 T1.heap [t] := (Keep.refl h0 [t]).trans K1q (allS (Or.inl (List.mem_of_getElem? (i := 0) rfl)) all0)
  have O1 := O0.keep K1q (allS ge_t all0)
  have hk : T1.heap.size ≤ T1.heap.size := Nat.le_refl _
  have CR := CR.trans CRn1
  refine stt st1 ?_
  refine outVW X1 hx hZ hEL rfl hS hk CR hret (hb hby d12_5) hlk (by decide) (by decide) ?_
  exact ⟨rfl, N1, K1, r1_0⟩
abbrev B11 : ByteArray := jdk_58_method_2_code
theorem d11_0 : Dc B11 0 (.aload_n 0) 1 := by decide +kernel
theorem d11_1 : Dc B11 1 (.aload_n 1) 1 := by decide +kernel
theorem d11_2 : Dc B11 2 (.invokespecial 7) 3 := by decide +kernel
theorem d11_5 : Dc B11 5 (.return_) 1 := by decide +kernel
theorem ef_rm_rti (m : MethodId) (t : Addr) (msg : Addr)  : entryFrame m #[(.ref t), (.ref msg)] 2 = mkF m 0 #[(sR t), (sR msg)] [] := by first | (simp [entryFrame, mkF, argsToLocals, Value.category]; done) | rfl
def Q_rm_rti (Z : State) (t : Addr) (msg : Addr) (u : Value) (sen : Value) (h0 : Heap) (n0 : Nat) (v : Option Value) (h : Heap) (L : List Loc) : Prop := v = none ∧ Fr n0 L ∧ Keep h0 h [t] ∧ Exa Z h t "java/lang/ArithmeticException"
theorem pn_25_ : plainName "java/lang/RuntimeException" = true := by first | (simp [plainName, overriddenIn]; done) | decide +kernel
theorem pn_25 : plainFor (⟨"java/lang/RuntimeException", "<init>", "(Ljava/lang/String;)V"⟩ : MethodName) = true := plainFor_of_name pn_25_
set_option maxRecDepth 65536 in
set_option maxHeartbeats 40000000 in
theorem rm_rti (l : Launch) (Z : State) (a0 : Array Value) (hw : ∀ d ∈ tables_1, d.before a0 Z = true) (ws : List Jvm.Cond) (t : Addr) (msg : Addr) (u : Value) (sen : Value) (h0 : Heap) (n0 : Nat) (O0 : Old Z n0 h0) (hEL : EW Z a0 consts_1) (E_t : Exa Z h0 t "java/lang/ArithmeticException") (F_t_cause : Fld Z h0 t "java/lang/Throwable" "cause" "Ljava/lang/Throwable;" .null) (F_t_stackTrace : Fld Z h0 t "java/lang/Throwable" "stackTrace" "[Ljava/lang/StackTraceElement;" .null) (F_t_suppressedExceptions : Fld Z h0 t "java/lang/Throwable" "suppressedExceptions" "Ljava/util/List;" .null) (F_t_backtrace : Fld Z h0 t "java/lang/Throwable" "backtrace" "Ljava/lang/Object;" .null) (F_t_detailMessage : Fld Z h0 t "java/lang/Throwable" "detailMessage" "Ljava/lang/String;" .null) (S_UNASSIGNED_STACK : Sta Z Z.heap "java/lang/Throwable" "UNASSIGNED_STACK" "[Ljava/lang/StackTraceElement;" u) (S_SUPPRESSED_SENTINEL : Sta Z Z.heap "java/lang/Throwable" "SUPPRESSED_SENTINEL" "Ljava/util/List;" sen) (ge_t : n0 ≤ t) (hU : Unt h0 t) (hl : l.stackTraces = true) (hu : u.isRef = true) (hsen : sen.isRef = true) :
    MetFree l (⟨"java/lang/RuntimeException", "<init>", "(Ljava/lang/String;)V"⟩ : MethodName) (head1 (Jvm.Cond.code (⟨"java/lang/RuntimeException", "<init>", "(Ljava/lang/String;)V"⟩ : MethodName) jdk_58_method_2_code 2 none :: ws) ({ frames := 5, cells := 1, slots := 2752, locals := 68 } : Room)) (fun args_ U => args_ = #[(.ref t), (.ref msg)] ∧ Z.Warmed39 U.vm ∧ U.heap = h0 ∧ CHv Z consts_1 U.vm h0) Knows (fun _ s out_ U' => (PoW s Z consts_1 (Q_rm_rti Z t msg u sen h0 n0) ({ frames := 5, cells := 1, slots := 2752, locals := 68 } : Room).cells ({ frames := 5, cells := 1, slots := 2752, locals := 68 } : Room).slots) out_ U') := by
  refine startT (P := fun s => (PoW s Z consts_1 (Q_rm_rti Z t msg u sen h0 n0) ({ frames := 5, cells := 1, slots := 2752, locals := 68 } : Room).cells ({ frames := 5, cells := 1, slots := 2752, locals := 68 } : Room).slots)) pn_25 ?_
  intro p e s m below meth c T0 X0 hx hby hml hown hnm hret hlk hZ e0 hS CR hKn
  obtain ⟨hs0, hnh, hKn⟩ := hKn
  have CR0 := CR
  have hk : 0 ≤ h0.size := Nat.zero_le _
  have wS : ∀ a ∈ Bundle.stringAtoms, a.before a0 Z = true := own_wS hw
  replace hown : s.vm.findClass "java/lang/RuntimeException" = some m.cls := hown
  replace hml : c.maxLocals = 2 := hml
  refine goAt (ef_rm_rti m t msg ) ?_
  have N0 := Fr.nil n0
  refine stp (fun _ => XS.aloadN X0.here hx rfl (hb hby d11_0) rfl rfl) ?_
  refine stp (fun _ => XS.aloadN X0.here hx rfl (hb hby d11_1) rfl rfl) ?_
  obtain ⟨_, _, ⟨T1, L1, k1, n1⟩, -, X1, hS1, gg1, ⟨Lc1, hQ1, l1, y1, z1, CRn1⟩, st1⟩ := X0.specialBackS hx (y := (⟨"java/lang/Exception", "<init>", "(Ljava/lang/String;)V"⟩ : MethodName)) rfl hown (mvT hZ (w_ hw (i := 67) rfl)) (mvT hZ (w_ hw (i := 68) rfl)) (mvT hZ (w_ hw (i := 72) rfl)) (by decide) (backOfK (W := 0) (rm_exi l Z a0 hw [] t msg u sen h0 n0 O0 hEL E_t F_t_cause F_t_stackTrace F_t_suppressedExceptions F_t_backtrace F_t_detailMessage S_UNASSIGNED_STACK S_SUPPRESSED_SENTINEL ge_t hU hl hu hsen) hZ (w_ hw (i := 72) rfl) (w_ hw (i := 71) rfl) (by decide) (by decide) hEL CR.1 (knows_since hS hKn).1 (knows_since hS hKn).2) (g := (mkF m 2 #[(sR t), (sR msg)] [(.ref msg), (.ref t)])) rfl (by rw [hml]; rfl) (Steps.refl _) (a := t) (argsL := [(.ref msg)]) (rest := []) (lenOf pd_17 rfl) rfl (by show 2 * 0 + _ ≤ _; exact Nat.le_of_eq rfl) (hb hby d11_2) (fun _ _ => ⟨rfl, e0, (by decide : 0 + 1 ≤ _), (by decide : 0 + 2752 ≤ _)⟩)
  dsimp only [Pt.U, Pt.locs, Pt.cells, Pt.slots] at X1 hS1 gg1 l1 y1 z1 st1 hQ1 CRn1
  subst y1 z1
  obtain ⟨X1, hS, hZ, hown⟩ := rebS hS (by rw [e0]; exact hk) X1 hS1 gg1 hZ hown
  obtain ⟨rfl, N1q, K1q, r1_0⟩ := hQ1
  have N1 : Fr n0 L1 := by rw [l1]; exact Fr.app N0 N1q
  have f2 := E_t.keep K1q
  have K1 : Keep h0 T1.heap [t] := (Keep.refl h0 [t]).trans K1q (allS (Or.inl (List.mem_of_getElem? (i := 0) rfl)) all0)
  have O1 := O0.keep K1q (allS ge_t all0)
  have hk : T1.heap.size ≤ T1.heap.size := Nat.le_refl _
  have CR := CR.trans CRn1
  refine stt st1 ?_
  refine outVW X1 hx hZ hEL rfl hS hk CR hret (hb hby d11_5) hlk (by decide) (by decide) ?_
  exact ⟨rfl, N1, K1, r1_0⟩
abbrev B10 : ByteArray := jdk_84_method_2_code
theorem d10_0 : Dc B10 0 (.aload_n 0) 1 := by decide +kernel
theorem d10_1 : Dc B10 1 (.aload_n 1) 1 := by decide +kernel
theorem d10_2 : Dc B10 2 (.invokespecial 7) 3 := by decide +kernel
theorem d10_5 : Dc B10 5 (.return_) 1 := by decide +kernel
theorem ef_rm_aei (m : MethodId) (t : Addr) (msg : Addr)  : entryFrame m #[(.ref t), (.ref msg)] 2 = mkF m 0 #[(sR t), (sR msg)] [] := by first | (simp [entryFrame, mkF, argsToLocals, Value.category]; done) | rfl
def Q_rm_aei (Z : State) (t : Addr) (msg : Addr) (u : Value) (sen : Value) (h0 : Heap) (n0 : Nat) (v : Option Value) (h : Heap) (L : List Loc) : Prop := v = none ∧ Fr n0 L ∧ Keep h0 h [t] ∧ Exa Z h t "java/lang/ArithmeticException"
theorem pn_26_ : plainName "java/lang/ArithmeticException" = true := by first | (simp [plainName, overriddenIn]; done) | decide +kernel
theorem pn_26 : plainFor (⟨"java/lang/ArithmeticException", "<init>", "(Ljava/lang/String;)V"⟩ : MethodName) = true := plainFor_of_name pn_26_
set_option maxRecDepth 65536 in
set_option maxHeartbeats 40000000 in
theorem rm_aei (l : Launch) (Z : State) (a0 : Array Value) (hw : ∀ d ∈ tables_1, d.before a0 Z = true) (ws : List Jvm.Cond) (t : Addr) (msg : Addr) (u : Value) (sen : Value) (h0 : Heap) (n0 : Nat) (O0 : Old Z n0 h0) (hEL : EW Z a0 consts_1) (E_t : Exa Z h0 t "java/lang/ArithmeticException") (F_t_cause : Fld Z h0 t "java/lang/Throwable" "cause" "Ljava/lang/Throwable;" .null) (F_t_stackTrace : Fld Z h0 t "java/lang/Throwable" "stackTrace" "[Ljava/lang/StackTraceElement;" .null) (F_t_suppressedExceptions : Fld Z h0 t "java/lang/Throwable" "suppressedExceptions" "Ljava/util/List;" .null) (F_t_backtrace : Fld Z h0 t "java/lang/Throwable" "backtrace" "Ljava/lang/Object;" .null) (F_t_detailMessage : Fld Z h0 t "java/lang/Throwable" "detailMessage" "Ljava/lang/String;" .null) (S_UNASSIGNED_STACK : Sta Z Z.heap "java/lang/Throwable" "UNASSIGNED_STACK" "[Ljava/lang/StackTraceElement;" u) (S_SUPPRESSED_SENTINEL : Sta Z Z.heap "java/lang/Throwable" "SUPPRESSED_SENTINEL" "Ljava/util/List;" sen) (ge_t : n0 ≤ t) (hU : Unt h0 t) (hl : l.stackTraces = true) (hu : u.isRef = true) (hsen : sen.isRef = true) :
    MetFree l (⟨"java/lang/ArithmeticException", "<init>", "(Ljava/lang/String;)V"⟩ : MethodName) (head1 (Jvm.Cond.code (⟨"java/lang/ArithmeticException", "<init>", "(Ljava/lang/String;)V"⟩ : MethodName) jdk_84_method_2_code 2 none :: ws) ({ frames := 6, cells := 1, slots := 2752, locals := 81 } : Room)) (fun args_ U => args_ = #[(.ref t), (.ref msg)] ∧ Z.Warmed39 U.vm ∧ U.heap = h0 ∧ CHv Z consts_1 U.vm h0) Knows (fun _ s out_ U' => (PoW s Z consts_1 (Q_rm_aei Z t msg u sen h0 n0) ({ frames := 6, cells := 1, slots := 2752, locals := 81 } : Room).cells ({ frames := 6, cells := 1, slots := 2752, locals := 81 } : Room).slots) out_ U') := by
  refine startT (P := fun s => (PoW s Z consts_1 (Q_rm_aei Z t msg u sen h0 n0) ({ frames := 6, cells := 1, slots := 2752, locals := 81 } : Room).cells ({ frames := 6, cells := 1, slots := 2752, locals := 81 } : Room).slots)) pn_26 ?_
  intro p e s m below meth c T0 X0 hx hby hml hown hnm hret hlk hZ e0 hS CR hKn
  obtain ⟨hs0, hnh, hKn⟩ := hKn
  have CR0 := CR
  have hk : 0 ≤ h0.size := Nat.zero_le _
  have wS : ∀ a ∈ Bundle.stringAtoms, a.before a0 Z = true := own_wS hw
  replace hown : s.vm.findClass "java/lang/ArithmeticException" = some m.cls := hown
  replace hml : c.maxLocals = 2 := hml
  refine goAt (ef_rm_aei m t msg ) ?_
  have N0 := Fr.nil n0
  refine stp (fun _ => XS.aloadN X0.here hx rfl (hb hby d10_0) rfl rfl) ?_
  refine stp (fun _ => XS.aloadN X0.here hx rfl (hb hby d10_1) rfl rfl) ?_
  obtain ⟨_, _, ⟨T1, L1, k1, n1⟩, -, X1, hS1, gg1, ⟨Lc1, hQ1, l1, y1, z1, CRn1⟩, st1⟩ := X0.specialBackS hx (y := (⟨"java/lang/RuntimeException", "<init>", "(Ljava/lang/String;)V"⟩ : MethodName)) rfl hown (mvT hZ (w_ hw (i := 61) rfl)) (mvT hZ (w_ hw (i := 62) rfl)) (mvT hZ (w_ hw (i := 66) rfl)) (by decide) (backOfK (W := 0) (rm_rti l Z a0 hw [] t msg u sen h0 n0 O0 hEL E_t F_t_cause F_t_stackTrace F_t_suppressedExceptions F_t_backtrace F_t_detailMessage S_UNASSIGNED_STACK S_SUPPRESSED_SENTINEL ge_t hU hl hu hsen) hZ (w_ hw (i := 66) rfl) (w_ hw (i := 65) rfl) (by decide) (by decide) hEL CR.1 (knows_since hS hKn).1 (knows_since hS hKn).2) (g := (mkF m 2 #[(sR t), (sR msg)] [(.ref msg), (.ref t)])) rfl (by rw [hml]; rfl) (Steps.refl _) (a := t) (argsL := [(.ref msg)]) (rest := []) (lenOf pd_17 rfl) rfl (by show 2 * 0 + _ ≤ _; exact Nat.le_of_eq rfl) (hb hby d10_2) (fun _ _ => ⟨rfl, e0, (by decide : 0 + 1 ≤ _), (by decide : 0 + 2752 ≤ _)⟩)
  dsimp only [Pt.U, Pt.locs, Pt.cells, Pt.slots] at X1 hS1 gg1 l1 y1 z1 st1 hQ1 CRn1
  subst y1 z1
  obtain ⟨X1, hS, hZ, hown⟩ := rebS hS (by rw [e0]; exact hk) X1 hS1 gg1 hZ hown
  obtain ⟨rfl, N1q, K1q, r1_0⟩ := hQ1
  have N1 : Fr n0 L1 := by rw [l1]; exact Fr.app N0 N1q
  have f2 := E_t.keep K1q
  have K1 : Keep h0 T1.heap [t] := (Keep.refl h0 [t]).trans K1q (allS (Or.inl (List.mem_of_getElem? (i := 0) rfl)) all0)
  have O1 := O0.keep K1q (allS ge_t all0)
  have hk : T1.heap.size ≤ T1.heap.size := Nat.le_refl _
  have CR := CR.trans CRn1
  refine stt st1 ?_
  refine outVW X1 hx hZ hEL rfl hS hk CR hret (hb hby d10_5) hlk (by decide) (by decide) ?_
  exact ⟨rfl, N1, K1, r1_0⟩
abbrev B7 : ByteArray := jdk_29_method_30_code
theorem d7_0 : Dc B7 0 (.lload_n 0) 1 := by decide +kernel
theorem d7_1 : Dc B7 1 (.lload_n 2) 1 := by decide +kernel
theorem d7_2 : Dc B7 2 (.lmul) 1 := by decide +kernel
theorem d7_3 : Dc B7 3 (.lstore 4) 2 := by decide +kernel
theorem d7_5 : Dc B7 5 (.lload_n 0) 1 := by decide +kernel
theorem d7_6 : Dc B7 6 (.invokestatic 122) 3 := by decide +kernel
theorem pd_18 : parseMethodDescriptor "(J)J" = some ⟨[.long], some .long⟩ := by decide +kernel
theorem d7_9 : Dc B7 9 (.lstore 6) 2 := by decide +kernel
theorem d7_11 : Dc B7 11 (.lload_n 2) 1 := by decide +kernel
theorem d7_12 : Dc B7 12 (.invokestatic 122) 3 := by decide +kernel
theorem d7_15 : Dc B7 15 (.lstore 8) 2 := by decide +kernel
theorem d7_17 : Dc B7 17 (.lload 6) 2 := by decide +kernel
theorem d7_19 : Dc B7 19 (.lload 8) 2 := by decide +kernel
theorem d7_21 : Dc B7 21 (.lor) 1 := by decide +kernel
theorem d7_22 : Dc B7 22 (.bipush 31) 2 := by decide +kernel
theorem d7_24 : Dc B7 24 (.lushr) 1 := by decide +kernel
theorem d7_25 : Dc B7 25 (.lconst 0) 1 := by decide +kernel
theorem d7_26 : Dc B7 26 (.lcmp) 1 := by decide +kernel
theorem d7_27 : Dc B7 27 (.ifCond .eq 44) 3 := by decide +kernel
theorem d7_71 : Dc B7 71 (.lload 4) 2 := by decide +kernel
theorem d7_73 : Dc B7 73 (.lreturn) 1 := by decide +kernel
theorem d7_30 : Dc B7 30 (.lload_n 2) 1 := by decide +kernel
theorem d7_31 : Dc B7 31 (.lconst 0) 1 := by decide +kernel
theorem d7_32 : Dc B7 32 (.lcmp) 1 := by decide +kernel
theorem d7_33 : Dc B7 33 (.ifCond .eq 12) 3 := by decide +kernel
theorem d7_45 : Dc B7 45 (.lload_n 0) 1 := by decide +kernel
theorem d7_46 : Dc B7 46 (.ldc2_w 128) 3 := by decide +kernel
theorem d7_49 : Dc B7 49 (.lcmp) 1 := by decide +kernel
theorem d7_50 : Dc B7 50 (.ifCond .ne 21) 3 := by decide +kernel
theorem d7_36 : Dc B7 36 (.lload 4) 2 := by decide +kernel
theorem d7_38 : Dc B7 38 (.lload_n 2) 1 := by decide +kernel
theorem d7_39 : Dc B7 39 (.ldiv) 1 := by decide +kernel
theorem d7_40 : Dc B7 40 (.lload_n 0) 1 := by decide +kernel
theorem d7_41 : Dc B7 41 (.lcmp) 1 := by decide +kernel
theorem d7_42 : Dc B7 42 (.ifCond .ne 19) 3 := by decide +kernel
theorem d7_61 : Dc B7 61 (.new 109) 3 := by decide +kernel
theorem d7_64 : Dc B7 64 (.dup) 1 := by decide +kernel
theorem d7_65 : Dc B7 65 (.ldc 116) 2 := by decide +kernel
theorem d7_67 : Dc B7 67 (.invokespecial 113) 3 := by decide +kernel
theorem d7_70 : Dc B7 70 (.athrow) 1 := by decide +kernel
theorem ef_rm_mx (m : MethodId) (xq : Int64) (yq : Int64)  : entryFrame m #[(.long xq), (.long yq)] 10 = mkF m 0 #[(sJ xq), .second, (sJ yq), .second, .unset, .unset, .unset, .unset, .unset, .unset] [] := by first | (simp [entryFrame, mkF, argsToLocals, Value.category]; done) | rfl
def Q_rm_mx (Z : State) (xq : Int64) (yq : Int64) (u : Value) (sen : Value) (h0 : Heap) (n0 : Nat) (v : Option Value) (h : Heap) (L : List Loc) : Prop := ∃ (zq : Int64), v = some (.long zq) ∧ Fr n0 L ∧ h = h0 ∧ (¬ zq < (0 : Int64))
def Q_rm_mx1 (Z : State) (xq : Int64) (yq : Int64) (u : Value) (sen : Value) (h0 : Heap) (n0 : Nat) (v : Option Value) (h : Heap) (L : List Loc) : Prop := ∃ (r : Addr), v = some (.ref r) ∧ Fr n0 L ∧ Keep h0 h [] ∧ (n0 ≤ r ∧ h0.size ≤ r) ∧ Exa Z h r "java/lang/ArithmeticException"
set_option maxRecDepth 65536 in
set_option maxHeartbeats 40000000 in
theorem rm_mx (l : Launch) (Z : State) (a0 : Array Value) (hw : ∀ d ∈ tables_1, d.before a0 Z = true) (ws : List Jvm.Cond) (xq : Int64) (yq : Int64) (u : Value) (sen : Value) (h0 : Heap) (n0 : Nat) (O0 : Old Z n0 h0) (hEL : EW Z a0 consts_1) (S_UNASSIGNED_STACK : Sta Z Z.heap "java/lang/Throwable" "UNASSIGNED_STACK" "[Ljava/lang/StackTraceElement;" u) (S_SUPPRESSED_SENTINEL : Sta Z Z.heap "java/lang/Throwable" "SUPPRESSED_SENTINEL" "Ljava/util/List;" sen) (hx0 : ¬ xq < (0 : Int64)) (hy0 : ¬ yq < (0 : Int64)) (hl : l.stackTraces = true) (hu : u.isRef = true) (hsen : sen.isRef = true) :
    MetFree l (⟨"java/lang/Math", "multiplyExact", "(JJ)J"⟩ : MethodName) (head1 (Jvm.Cond.code (⟨"java/lang/Math", "multiplyExact", "(JJ)J"⟩ : MethodName) jdk_29_method_30_code 10 (some .long) :: ws) ({ frames := 7, cells := 4, slots := 2814, locals := 95 } : Room)) (fun args_ U => args_ = #[(.long xq), (.long yq)] ∧ Z.Warmed39 U.vm ∧ U.heap = h0 ∧ CHv Z consts_1 U.vm h0) Knows (fun _ s out_ U' => (PoWT s Z consts_1 (Q_rm_mx Z xq yq u sen h0 n0) 0 0 (Q_rm_mx1 Z xq yq u sen h0 n0) 4 2814) out_ U') := by
  refine startT (P := fun s => (PoWT s Z consts_1 (Q_rm_mx Z xq yq u sen h0 n0) 0 0 (Q_rm_mx1 Z xq yq u sen h0 n0) 4 2814)) (Jvm.Free.JP.mathPlain rfl (by decide +kernel)) ?_
  intro p e s m below meth c T0 X0 hx hby hml hown hnm hret hlk hZ e0 hS CR hKn
  obtain ⟨hs0, hnh, hKn⟩ := hKn
  have CR0 := CR
  have hk : 0 ≤ h0.size := Nat.zero_le _
  have wS : ∀ a ∈ Bundle.stringAtoms, a.before a0 Z = true := own_wS hw
  replace hown : s.vm.findClass "java/lang/Math" = some m.cls := hown
  replace hml : c.maxLocals = 10 := hml
  refine goAt (ef_rm_mx m xq yq ) ?_
  have N0 := Fr.nil n0
  refine stp (fun _ => XS.lloadN X0.here hx rfl (hb hby d7_0) rfl) ?_
  refine stp (fun _ => XS.lloadN X0.here hx rfl (hb hby d7_1) rfl) ?_
  refine stp (fun _ => XS.lmul X0.here hx rfl (hb hby d7_2) rfl) ?_
  refine stp (fun _ => XS.lstore X0.here hx rfl (hb hby d7_3) rfl (l' := #[(sJ xq), .second, (sJ yq), .second, (sJ (xq * yq)), .second, .unset, .unset, .unset, .unset]) rfl) ?_
  show Go p e below T0 (mkF m 5 #[(sJ xq), .second, (sJ yq), .second, (sJ (xq * yq)), .second, .unset, .unset, .unset, .unset] []) _
  refine stp (fun _ => XS.lloadN X0.here hx rfl (hb hby d7_5) rfl) ?_
  obtain ⟨_, _, ⟨T1, L1, k1, n1⟩, -, X1, ⟨Lc1, hQ1, l1, y1, z1⟩, st1⟩ := Jvm.LawKit.callS X0 hx (y := (⟨"java/lang/Math", "abs", "(J)J"⟩ : MethodName)) hown (mvT hZ (w_ hw (i := 39) rfl)) (mvT hZ (w_ hw (i := 40) rfl)) (mvT hZ (w_ hw (i := 37) rfl)) (mvT hZ (w_ hw (i := 41) rfl)) (by decide) (backOf (W := 0) (rm_abs l Z a0 hw [] xq  h0 n0 O0 hx0) hZ (w_ hw (i := 41) rfl) (w_ hw (i := 37) rfl) (by decide) (by decide)) (g := (mkF m 6 #[(sJ xq), .second, (sJ yq), .second, (sJ (xq * yq)), .second, .unset, .unset, .unset, .unset] [(.long xq)])) rfl (by rw [hml]; rfl) (argsL := [(.long xq)]) (rest := []) (lenOf pd_18 rfl) rfl (by show 2 * 0 + _ ≤ _; exact Nat.le_of_eq rfl) (hb hby d7_6) (fun _ _ => ⟨rfl, e0, (by decide : 0 + 0 ≤ _), (by decide : 0 + 0 ≤ _)⟩)
  dsimp only [Pt.U, Pt.locs, Pt.cells, Pt.slots] at X1 l1 y1 z1 st1 hQ1
  subst y1 z1
  obtain ⟨rfl, N1q, e1⟩ := hQ1
  have N1 : Fr n0 L1 := by rw [l1]; exact Fr.app N0 N1q
  refine stp st1 ?_
  refine stp (fun _ => XS.lstore X1.here hx rfl (hb hby d7_9) rfl (l' := #[(sJ xq), .second, (sJ yq), .second, (sJ (xq * yq)), .second, (sJ xq), .second, .unset, .unset]) rfl) ?_
  refine stp (fun _ => XS.lloadN X1.here hx rfl (hb hby d7_11) rfl) ?_
  obtain ⟨_, _, ⟨T2, L2, k2, n2⟩, -, X2, ⟨Lc2, hQ2, l2, y2, z2⟩, st2⟩ := Jvm.LawKit.callS X1 hx (y := (⟨"java/lang/Math", "abs", "(J)J"⟩ : MethodName)) hown (mvT hZ (w_ hw (i := 39) rfl)) (mvT hZ (w_ hw (i := 40) rfl)) (mvT hZ (w_ hw (i := 37) rfl)) (mvT hZ (w_ hw (i := 41) rfl)) (by decide) (backOf (W := 0) (rm_abs l Z a0 hw [] yq  h0 n0 O0 hy0) hZ (w_ hw (i := 41) rfl) (w_ hw (i := 37) rfl) (by decide) (by decide)) (g := (mkF m 12 #[(sJ xq), .second, (sJ yq), .second, (sJ (xq * yq)), .second, (sJ xq), .second, .unset, .unset] [(.long yq)])) rfl (by rw [hml]; rfl) (argsL := [(.long yq)]) (rest := []) (lenOf pd_18 rfl) rfl (by show 2 * 0 + _ ≤ _; exact Nat.le_of_eq rfl) (hb hby d7_12) (fun _ _ => ⟨rfl, e1, (by decide : 0 + 0 ≤ _), (by decide : 0 + 0 ≤ _)⟩)
  dsimp only [Pt.U, Pt.locs, Pt.cells, Pt.slots] at X2 l2 y2 z2 st2 hQ2
  subst y2 z2
  obtain ⟨rfl, N2q, e2⟩ := hQ2
  have N2 : Fr n0 L2 := by rw [l2]; exact Fr.app N1 N2q
  refine stp st2 ?_
  show Go p e below T2 (mkF m 15 #[(sJ xq), .second, (sJ yq), .second, (sJ (xq * yq)), .second, (sJ xq), .second, .unset, .unset] [(.long yq)]) _
  refine stp (fun _ => XS.lstore X2.here hx rfl (hb hby d7_15) rfl (l' := #[(sJ xq), .second, (sJ yq), .second, (sJ (xq * yq)), .second, (sJ xq), .second, (sJ yq), .second]) rfl) ?_
  refine stp (fun _ => XS.lload X2.here hx rfl (hb hby d7_17) rfl) ?_
  refine stp (fun _ => XS.lload X2.here hx rfl (hb hby d7_19) rfl) ?_
  refine stp (fun _ => XS.lor X2.here hx rfl (hb hby d7_21) rfl) ?_
  refine stp (fun _ => XS.bipush X2.here hx rfl (hb hby d7_22)) ?_
  show Go p e below T2 (mkF m 24 #[(sJ xq), .second, (sJ yq), .second, (sJ (xq * yq)), .second, (sJ xq), .second, (sJ yq), .second] [(.int (31 : Int32)), (.long (xq ||| yq))]) _
  refine stp (fun _ => XS.lushr X2.here hx rfl (hb hby d7_24) rfl) ?_
  refine stp (fun _ => XS.lconst X2.here hx rfl (hb hby d7_25)) ?_
  refine stp (fun _ => XS.lcmp X2.here hx rfl (hb hby d7_26) rfl) ?_
  by_cases q27_3 : (((xq ||| yq).toUInt64 >>> ((31 : Int32) &&& 0x3f).toInt64.toUInt64).toInt64) = (0 : Int64)
  · refine stp (fun _ => XS.ifYes X2.here hx rfl (pc0 := 27) (pc' := 71) rfl (hb hby d7_27) rfl (XT.ll_eq_t q27_3) (by decide) (by decide)) ?_
    refine stp (fun _ => XS.lload X2.here hx rfl (hb hby d7_71) rfl) ?_
    show Go p e below T2 (mkF m 73 #[(sJ xq), .second, (sJ yq), .second, (sJ (xq * yq)), .second, (sJ xq), .second, (sJ yq), .second] [(.long (xq * yq))]) _
    refine Go.imp (P := (PoW s Z consts_1 (Q_rm_mx Z xq yq u sen h0 n0) 0 0)) ?_ (fun _ _ q => Or.inl q)
    refine outJW X2 hx hZ hEL e2 hS hk CR hret (hb hby d7_73) hlk (by decide) (by decide) ?_
    exact ⟨(xq * yq), rfl, N2, e2, (own_mulpos hx0 hy0 (Or.inl q27_3))⟩
  refine stp (fun _ => XS.ifNo X2.here hx rfl (hb hby d7_27) rfl (XT.ll_eq_f q27_3)) ?_
  refine stp (fun _ => XS.lloadN X2.here hx rfl (hb hby d7_30) rfl) ?_
  show Go p e below T2 (mkF m 31 #[(sJ xq), .second, (sJ yq), .second, (sJ (xq * yq)), .second, (sJ xq), .second, (sJ yq), .second] [(.long yq)]) _
  refine stp (fun _ => XS.lconst X2.here hx rfl (hb hby d7_31)) ?_
  refine stp (fun _ => XS.lcmp X2.here hx rfl (hb hby d7_32) rfl) ?_
  by_cases q33_4 : yq = (0 : Int64)
  · refine stp (fun _ => XS.ifYes X2.here hx rfl (pc0 := 33) (pc' := 45) rfl (hb hby d7_33) rfl (XT.ll_eq_t q33_4) (by decide) (by decide)) ?_
    refine stp (fun _ => XS.lloadN X2.here hx rfl (hb hby d7_45) rfl) ?_
    refine stp (fun _ => X2.ldc2Long hx hown (mvT hZ (w_ hw (i := 42) rfl)) (g := (mkF m 46 #[(sJ xq), .second, (sJ yq), .second, (sJ (xq * yq)), .second, (sJ xq), .second, (sJ yq), .second] [(.long xq)])) rfl (hb hby d7_46) _) ?_
    show Go p e below T2 (mkF m 49 #[(sJ xq), .second, (sJ yq), .second, (sJ (xq * yq)), .second, (sJ xq), .second, (sJ yq), .second] [(.long (-9223372036854775808 : Int64)), (.long xq)]) _
    refine stp (fun _ => XS.lcmp X2.here hx rfl (hb hby d7_49) rfl) ?_
    refine stp (fun _ => XS.ifYes X2.here hx rfl (pc0 := 50) (pc' := 71) rfl (hb hby d7_50) rfl (XT.ll_ne_t (own_nemin hx0)) (by decide) (by decide)) ?_
    refine stp (fun _ => XS.lload X2.here hx rfl (hb hby d7_71) rfl) ?_
    refine Go.imp (P := (PoW s Z consts_1 (Q_rm_mx Z xq yq u sen h0 n0) 0 0)) ?_ (fun _ _ q => Or.inl q)
    refine outJW X2 hx hZ hEL e2 hS hk CR hret (hb hby d7_73) hlk (by decide) (by decide) ?_
    exact ⟨(xq * yq), rfl, N2, e2, (own_mulpos hx0 hy0 (Or.inr (Or.inl q33_4)))⟩
  refine stp (fun _ => XS.ifNo X2.here hx rfl (hb hby d7_33) rfl (XT.ll_eq_f q33_4)) ?_
  refine stp (fun _ => XS.lload X2.here hx rfl (hb hby d7_36) rfl) ?_
  refine stp (fun _ => XS.lloadN X2.here hx rfl (hb hby d7_38) rfl) ?_
  show Go p e below T2 (mkF m 39 #[(sJ xq), .second, (sJ yq), .second, (sJ (xq * yq)), .second, (sJ xq), .second, (sJ yq), .second] [(.long yq), (.long (xq * yq))]) _
  refine stp (fun _ => XS.ldiv X2.here hx rfl (hb hby d7_39) rfl q33_4) ?_
  refine stp (fun _ => XS.lloadN X2.here hx rfl (hb hby d7_40) rfl) ?_
  refine stp (fun _ => XS.lcmp X2.here hx rfl (hb hby d7_41) rfl) ?_
  by_cases q42_5 : ((xq * yq) / yq) = xq
  · refine stp (fun _ => XS.ifNo X2.here hx rfl (hb hby d7_42) rfl (XT.ll_ne_f q42_5)) ?_
    refine stp (fun _ => XS.lloadN X2.here hx rfl (hb hby d7_45) rfl) ?_
    show Go p e below T2 (mkF m 46 #[(sJ xq), .second, (sJ yq), .second, (sJ (xq * yq)), .second, (sJ xq), .second, (sJ yq), .second] [(.long xq)]) _
    refine stp (fun _ => X2.ldc2Long hx hown (mvT hZ (w_ hw (i := 42) rfl)) (g := (mkF m 46 #[(sJ xq), .second, (sJ yq), .second, (sJ (xq * yq)), .second, (sJ xq), .second, (sJ yq), .second] [(.long xq)])) rfl (hb hby d7_46) _) ?_
    refine stp (fun _ => XS.lcmp X2.here hx rfl (hb hby d7_49) rfl) ?_
    refine stp (fun _ => XS.ifYes X2.here hx rfl (pc0 := 50) (pc' := 71) rfl (hb hby d7_50) rfl (XT.ll_ne_t (own_nemin hx0)) (by decide) (by decide)) ?_
    refine stp (fun _ => XS.lload X2.here hx rfl (hb hby d7_71) rfl) ?_
    refine Go.imp (P := (PoW s Z consts_1 (Q_rm_mx Z xq yq u sen h0 n0) 0 0)) ?_ (fun _ _ q => Or.inl q)
    refine outJW X2 hx hZ hEL e2 hS hk CR hret (hb hby d7_73) hlk (by decide) (by decide) ?_
    exact ⟨(xq * yq), rfl, N2, e2, (own_mulpos hx0 hy0 (Or.inr (Or.inr q42_5)))⟩
  refine stp (fun _ => XS.ifYes X2.here hx rfl (pc0 := 42) (pc' := 61) rfl (hb hby d7_42) rfl (XT.ll_ne_t q42_5) (by decide) (by decide)) ?_
  obtain ⟨T6, h6, X6, e6, E6, A6, D6, U6, st6⟩ := newO X2 hx hZ hown (w_ hw (i := 46) rfl) (w_ hw (i := 47) rfl) (w_ hw (i := 48) rfl) e2 (g := (mkF m 61 #[(sJ xq), .second, (sJ yq), .second, (sJ (xq * yq)), .second, (sJ xq), .second, (sJ yq), .second] [])) rfl (hb hby d7_61) (by decide) (by decide)
  obtain ⟨b6, g6⟩ : ∃ z, z = h0.size := ⟨_, rfl⟩
  rw [← g6] at A6 D6 U6 st6
  have sz_b6 : h0.size ≤ b6 := Nat.le_trans (Keep.refl h0 []).1 (Nat.le_of_eq g6.symm)
  have ge_b6 : n0 ≤ b6 := Nat.le_trans (old_le O0) (Nat.le_of_eq g6.symm)
  have hk := Nat.le_trans hk E6.1
  have CR := CR.trans (CHr.ext E6 CR.1)
  have K6 : Keep h0 h6 [] := (Keep.refl h0 []).ext E6
  have O6 := O0.ext E6
  have F7 : Fld Z h6 b6 "java/lang/Throwable" "cause" "Ljava/lang/Throwable;" .null := D6 (Or.inl (w_ hw (i := 81) rfl)) (ty := (.object "java/lang/Throwable")) (by decide)
  have F8 : Fld Z h6 b6 "java/lang/Throwable" "stackTrace" "[Ljava/lang/StackTraceElement;" .null := D6 (Or.inl (w_ hw (i := 84) rfl)) (ty := (.array (.object "java/lang/StackTraceElement"))) (by decide)
  have F9 : Fld Z h6 b6 "java/lang/Throwable" "suppressedExceptions" "Ljava/util/List;" .null := D6 (Or.inl (w_ hw (i := 87) rfl)) (ty := (.object "java/util/List")) (by decide)
  have F10 : Fld Z h6 b6 "java/lang/Throwable" "detailMessage" "Ljava/lang/String;" .null := D6 (Or.inl (w_ hw (i := 111) rfl)) (ty := (.object "java/lang/String")) (by decide)
  have F11 : Fld Z h6 b6 "java/lang/Throwable" "backtrace" "Ljava/lang/Object;" .null := D6 (Or.inl (w_ hw (i := 112) rfl)) (ty := (.object "java/lang/Object")) (by decide)
  have F12 : Fld Z h6 b6 "java/lang/Throwable" "depth" "I" (.int (0 : Int32)) := D6 (Or.inl (w_ hw (i := 113) rfl)) (ty := .int) (by decide)
  refine stp st6 ?_
  show Go p e below T6 (mkF m 64 #[(sJ xq), .second, (sJ yq), .second, (sJ (xq * yq)), .second, (sJ xq), .second, (sJ yq), .second] [(.ref b6)]) _
  refine stp (fun _ => XS.dup X6.here hx rfl (hb hby d7_64) rfl rfl) ?_
  obtain ⟨la13, T13, h13, k1_13, X13, e13, E13, hS, hk', hZ, hown, CRn13, Li13, st13⟩ := ldcOH X6 hx hZ hown (w_ hw (i := 49) rfl) wS e6 hS hk hEL CR.1 (g := (mkF m 65 #[(sJ xq), .second, (sJ yq), .second, (sJ (xq * yq)), .second, (sJ xq), .second, (sJ yq), .second] [(.ref b6), (.ref b6)])) rfl (hb hby d7_65) (n := 52) (by decide +kernel) (by decide) (by decide) (by decide)
  have f14 := A6.ext E13
  have f15 := Unt.ext E13 U6
  have f16 := F7.ext E13
  have f17 := F8.ext E13
  have f18 := F9.ext E13
  have f19 := F10.ext E13
  have f20 := F11.ext E13
  have f21 := F12.ext E13
  have hk := hk'
  have CR := CR.trans CRn13
  have K13 : Keep h0 h13 [] := K6.ext E13
  have O13 := O6.ext E13
  refine stp st13 ?_
  obtain ⟨_, _, ⟨T22, L22, k22, n22⟩, -, X22, hS22, gg22, ⟨Lc22, hQ22, l22, y22, z22, CRn22⟩, st22⟩ := X13.specialBackS hx (y := (⟨"java/lang/ArithmeticException", "<init>", "(Ljava/lang/String;)V"⟩ : MethodName)) rfl hown (mvT hZ (w_ hw (i := 57) rfl)) (mvT hZ (w_ hw (i := 58) rfl)) (mvT hZ (w_ hw (i := 60) rfl)) (by decide) (backOfK (W := 1) (rm_aei l Z a0 hw [] b6 la13 u sen h13 n0 O13 hEL f14 f16 f17 f18 f20 f19 S_UNASSIGNED_STACK S_SUPPRESSED_SENTINEL ge_b6 f15 hl hu hsen) hZ (w_ hw (i := 60) rfl) (w_ hw (i := 48) rfl) (by decide) (by decide) hEL CR.1 (knows_since hS hKn).1 (knows_since hS hKn).2) (g := (mkF m 67 #[(sJ xq), .second, (sJ yq), .second, (sJ (xq * yq)), .second, (sJ xq), .second, (sJ yq), .second] [(.ref la13), (.ref b6), (.ref b6)])) rfl (by rw [hml]; rfl) (Steps.refl _) (a := b6) (argsL := [(.ref la13)]) (rest := [(.ref b6)]) (lenOf pd_17 rfl) rfl (by show 2 * 0 + _ ≤ _; exact Nat.le_of_eq rfl) (hb hby d7_67) (fun _ _ => ⟨rfl, e13, (by decide : 3 + 1 ≤ _), (by decide : 62 + 2752 ≤ _)⟩)
  dsimp only [Pt.U, Pt.locs, Pt.cells, Pt.slots] at X22 hS22 gg22 l22 y22 z22 st22 hQ22 CRn22
  subst y22 z22
  obtain ⟨X22, hS, hZ, hown⟩ := rebS hS (by rw [e13]; exact hk) X22 hS22 gg22 hZ hown
  obtain ⟨rfl, N22q, K22q, r22_0⟩ := hQ22
  have N22 : Fr n0 L22 := by rw [l22]; exact Fr.app N2 N22q
  have f23 := f14.keep K22q
  have K22 : Keep h0 T22.heap [] := K13.trans K22q (allS (Or.inr sz_b6) all0)
  have O22 := O13.keep K22q (allS ge_b6 all0)
  have hk : T22.heap.size ≤ T22.heap.size := Nat.le_refl _
  have CR := CR.trans CRn22
  refine stt st22 ?_
  refine Go.imp (P := (PoT s Z consts_1 (Q_rm_mx1 Z xq yq u sen h0 n0) 4 2814)) ?_ (fun _ _ q => Or.inr q)
  refine outT X22 hx hZ hEL rfl hS hk CR hnh (hb hby d7_70) hlk (by decide) (by decide) ?_
  exact ⟨b6, rfl, N22, K22, ⟨ge_b6, sz_b6⟩, r22_0⟩
abbrev B9 : ByteArray := jdk_29_method_25_code
theorem d9_0 : Dc B9 0 (.lload_n 0) 1 := by decide +kernel
theorem d9_1 : Dc B9 1 (.lload_n 2) 1 := by decide +kernel
theorem d9_2 : Dc B9 2 (.ladd) 1 := by decide +kernel
theorem d9_3 : Dc B9 3 (.lstore 4) 2 := by decide +kernel
theorem d9_5 : Dc B9 5 (.lload_n 0) 1 := by decide +kernel
theorem d9_6 : Dc B9 6 (.lload 4) 2 := by decide +kernel
theorem d9_8 : Dc B9 8 (.lxor) 1 := by decide +kernel
theorem d9_9 : Dc B9 9 (.lload_n 2) 1 := by decide +kernel
theorem d9_10 : Dc B9 10 (.lload 4) 2 := by decide +kernel
theorem d9_12 : Dc B9 12 (.lxor) 1 := by decide +kernel
theorem d9_13 : Dc B9 13 (.land) 1 := by decide +kernel
theorem d9_14 : Dc B9 14 (.lconst 0) 1 := by decide +kernel
theorem d9_15 : Dc B9 15 (.lcmp) 1 := by decide +kernel
theorem d9_16 : Dc B9 16 (.ifCond .ge 13) 3 := by decide +kernel
theorem d9_19 : Dc B9 19 (.new 109) 3 := by decide +kernel
theorem d9_22 : Dc B9 22 (.dup) 1 := by decide +kernel
theorem d9_23 : Dc B9 23 (.ldc 116) 2 := by decide +kernel
theorem d9_25 : Dc B9 25 (.invokespecial 113) 3 := by decide +kernel
theorem d9_28 : Dc B9 28 (.athrow) 1 := by decide +kernel
theorem d9_29 : Dc B9 29 (.lload 4) 2 := by decide +kernel
theorem d9_31 : Dc B9 31 (.lreturn) 1 := by decide +kernel
theorem ef_rm_ax (m : MethodId) (xq : Int64) (yq : Int64)  : entryFrame m #[(.long xq), (.long yq)] 6 = mkF m 0 #[(sJ xq), .second, (sJ yq), .second, .unset, .unset] [] := by first | (simp [entryFrame, mkF, argsToLocals, Value.category]; done) | rfl
def Q_rm_ax (Z : State) (xq : Int64) (yq : Int64) (u : Value) (sen : Value) (h0 : Heap) (n0 : Nat) (v : Option Value) (h : Heap) (L : List Loc) : Prop := ∃ (zq : Int64), v = some (.long zq) ∧ Fr n0 L ∧ h = h0 ∧ (¬ zq < (0 : Int64))
def Q_rm_ax1 (Z : State) (xq : Int64) (yq : Int64) (u : Value) (sen : Value) (h0 : Heap) (n0 : Nat) (v : Option Value) (h : Heap) (L : List Loc) : Prop := ∃ (r : Addr), v = some (.ref r) ∧ Fr n0 L ∧ Keep h0 h [] ∧ (n0 ≤ r ∧ h0.size ≤ r) ∧ Exa Z h r "java/lang/ArithmeticException"
set_option maxRecDepth 65536 in
set_option maxHeartbeats 40000000 in
theorem rm_ax (l : Launch) (Z : State) (a0 : Array Value) (hw : ∀ d ∈ tables_1, d.before a0 Z = true) (ws : List Jvm.Cond) (xq : Int64) (yq : Int64) (u : Value) (sen : Value) (h0 : Heap) (n0 : Nat) (O0 : Old Z n0 h0) (hEL : EW Z a0 consts_1) (S_UNASSIGNED_STACK : Sta Z Z.heap "java/lang/Throwable" "UNASSIGNED_STACK" "[Ljava/lang/StackTraceElement;" u) (S_SUPPRESSED_SENTINEL : Sta Z Z.heap "java/lang/Throwable" "SUPPRESSED_SENTINEL" "Ljava/util/List;" sen) (hx0 : ¬ xq < (0 : Int64)) (hy0 : ¬ yq < (0 : Int64)) (hl : l.stackTraces = true) (hu : u.isRef = true) (hsen : sen.isRef = true) :
    MetFree l (⟨"java/lang/Math", "addExact", "(JJ)J"⟩ : MethodName) (head1 (Jvm.Cond.code (⟨"java/lang/Math", "addExact", "(JJ)J"⟩ : MethodName) jdk_29_method_25_code 6 (some .long) :: ws) ({ frames := 7, cells := 4, slots := 2814, locals := 95 } : Room)) (fun args_ U => args_ = #[(.long xq), (.long yq)] ∧ Z.Warmed39 U.vm ∧ U.heap = h0 ∧ CHv Z consts_1 U.vm h0) Knows (fun _ s out_ U' => (PoWT s Z consts_1 (Q_rm_ax Z xq yq u sen h0 n0) 0 0 (Q_rm_ax1 Z xq yq u sen h0 n0) 4 2814) out_ U') := by
  refine startT (P := fun s => (PoWT s Z consts_1 (Q_rm_ax Z xq yq u sen h0 n0) 0 0 (Q_rm_ax1 Z xq yq u sen h0 n0) 4 2814)) (Jvm.Free.JP.mathPlain rfl (by decide +kernel)) ?_
  intro p e s m below meth c T0 X0 hx hby hml hown hnm hret hlk hZ e0 hS CR hKn
  obtain ⟨hs0, hnh, hKn⟩ := hKn
  have CR0 := CR
  have hk : 0 ≤ h0.size := Nat.zero_le _
  have wS : ∀ a ∈ Bundle.stringAtoms, a.before a0 Z = true := own_wS hw
  replace hown : s.vm.findClass "java/lang/Math" = some m.cls := hown
  replace hml : c.maxLocals = 6 := hml
  refine goAt (ef_rm_ax m xq yq ) ?_
  have N0 := Fr.nil n0
  refine stp (fun _ => XS.lloadN X0.here hx rfl (hb hby d9_0) rfl) ?_
  refine stp (fun _ => XS.lloadN X0.here hx rfl (hb hby d9_1) rfl) ?_
  refine stp (fun _ => XS.ladd X0.here hx rfl (hb hby d9_2) rfl) ?_
  refine stp (fun _ => XS.lstore X0.here hx rfl (hb hby d9_3) rfl (l' := #[(sJ xq), .second, (sJ yq), .second, (sJ (xq + yq)), .second]) rfl) ?_
  show Go p e below T0 (mkF m 5 #[(sJ xq), .second, (sJ yq), .second, (sJ (xq + yq)), .second] []) _
  refine stp (fun _ => XS.lloadN X0.here hx rfl (hb hby d9_5) rfl) ?_
  refine stp (fun _ => XS.lload X0.here hx rfl (hb hby d9_6) rfl) ?_
  refine stp (fun _ => XS.lxor X0.here hx rfl (hb hby d9_8) rfl) ?_
  refine stp (fun _ => XS.lloadN X0.here hx rfl (hb hby d9_9) rfl) ?_
  refine stp (fun _ => XS.lload X0.here hx rfl (hb hby d9_10) rfl) ?_
  show Go p e below T0 (mkF m 12 #[(sJ xq), .second, (sJ yq), .second, (sJ (xq + yq)), .second] [(.long (xq + yq)), (.long yq), (.long (xq ^^^ (xq + yq)))]) _
  refine stp (fun _ => XS.lxor X0.here hx rfl (hb hby d9_12) rfl) ?_
  refine stp (fun _ => XS.land X0.here hx rfl (hb hby d9_13) rfl) ?_
  refine stp (fun _ => XS.lconst X0.here hx rfl (hb hby d9_14)) ?_
  refine stp (fun _ => XS.lcmp X0.here hx rfl (hb hby d9_15) rfl) ?_
  by_cases q16_1 : ((xq ^^^ (xq + yq)) &&& (yq ^^^ (xq + yq))) < (0 : Int64)
  rotate_left
  · refine stp (fun _ => XS.ifYes X0.here hx rfl (pc0 := 16) (pc' := 29) rfl (hb hby d9_16) rfl (XT.ll_ge_t q16_1) (by decide) (by decide)) ?_
    show Go p e below T0 (mkF m 29 #[(sJ xq), .second, (sJ yq), .second, (sJ (xq + yq)), .second] []) _
    refine stp (fun _ => XS.lload X0.here hx rfl (hb hby d9_29) rfl) ?_
    refine Go.imp (P := (PoW s Z consts_1 (Q_rm_ax Z xq yq u sen h0 n0) 0 0)) ?_ (fun _ _ q => Or.inl q)
    refine outJW X0 hx hZ hEL e0 hS hk CR hret (hb hby d9_31) hlk (by decide) (by decide) ?_
    exact ⟨(xq + yq), rfl, N0, e0, (own_addpos hx0 hy0 q16_1)⟩
  refine stp (fun _ => XS.ifNo X0.here hx rfl (hb hby d9_16) rfl (XT.ll_ge_f q16_1)) ?_
  show Go p e below T0 (mkF m 19 #[(sJ xq), .second, (sJ yq), .second, (sJ (xq + yq)), .second] []) _
  obtain ⟨T2, h2, X2, e2, E2, A2, D2, U2, st2⟩ := newO X0 hx hZ hown (w_ hw (i := 46) rfl) (w_ hw (i := 47) rfl) (w_ hw (i := 48) rfl) e0 (g := (mkF m 19 #[(sJ xq), .second, (sJ yq), .second, (sJ (xq + yq)), .second] [])) rfl (hb hby d9_19) (by decide) (by decide)
  obtain ⟨b2, g2⟩ : ∃ z, z = h0.size := ⟨_, rfl⟩
  rw [← g2] at A2 D2 U2 st2
  have sz_b2 : h0.size ≤ b2 := Nat.le_trans (Keep.refl h0 []).1 (Nat.le_of_eq g2.symm)
  have ge_b2 : n0 ≤ b2 := Nat.le_trans (old_le O0) (Nat.le_of_eq g2.symm)
  have hk := Nat.le_trans hk E2.1
  have CR := CR.trans (CHr.ext E2 CR.1)
  have K2 : Keep h0 h2 [] := (Keep.refl h0 []).ext E2
  have O2 := O0.ext E2
  have F3 : Fld Z h2 b2 "java/lang/Throwable" "cause" "Ljava/lang/Throwable;" .null := D2 (Or.inl (w_ hw (i := 81) rfl)) (ty := (.object "java/lang/Throwable")) (by decide)
  have F4 : Fld Z h2 b2 "java/lang/Throwable" "stackTrace" "[Ljava/lang/StackTraceElement;" .null := D2 (Or.inl (w_ hw (i := 84) rfl)) (ty := (.array (.object "java/lang/StackTraceElement"))) (by decide)
  have F5 : Fld Z h2 b2 "java/lang/Throwable" "suppressedExceptions" "Ljava/util/List;" .null := D2 (Or.inl (w_ hw (i := 87) rfl)) (ty := (.object "java/util/List")) (by decide)
  have F6 : Fld Z h2 b2 "java/lang/Throwable" "detailMessage" "Ljava/lang/String;" .null := D2 (Or.inl (w_ hw (i := 111) rfl)) (ty := (.object "java/lang/String")) (by decide)
  have F7 : Fld Z h2 b2 "java/lang/Throwable" "backtrace" "Ljava/lang/Object;" .null := D2 (Or.inl (w_ hw (i := 112) rfl)) (ty := (.object "java/lang/Object")) (by decide)
  have F8 : Fld Z h2 b2 "java/lang/Throwable" "depth" "I" (.int (0 : Int32)) := D2 (Or.inl (w_ hw (i := 113) rfl)) (ty := .int) (by decide)
  refine stp st2 ?_
  refine stp (fun _ => XS.dup X2.here hx rfl (hb hby d9_22) rfl rfl) ?_
  obtain ⟨la9, T9, h9, k1_9, X9, e9, E9, hS, hk', hZ, hown, CRn9, Li9, st9⟩ := ldcOH X2 hx hZ hown (w_ hw (i := 49) rfl) wS e2 hS hk hEL CR.1 (g := (mkF m 23 #[(sJ xq), .second, (sJ yq), .second, (sJ (xq + yq)), .second] [(.ref b2), (.ref b2)])) rfl (hb hby d9_23) (n := 52) (by decide +kernel) (by decide) (by decide) (by decide)
  have f10 := A2.ext E9
  have f11 := Unt.ext E9 U2
  have f12 := F3.ext E9
  have f13 := F4.ext E9
  have f14 := F5.ext E9
  have f15 := F6.ext E9
  have f16 := F7.ext E9
  have f17 := F8.ext E9
  have hk := hk'
  have CR := CR.trans CRn9
  have K9 : Keep h0 h9 [] := K2.ext E9
  have O9 := O2.ext E9
  refine stp st9 ?_
  obtain ⟨_, _, ⟨T18, L18, k18, n18⟩, -, X18, hS18, gg18, ⟨Lc18, hQ18, l18, y18, z18, CRn18⟩, st18⟩ := X9.specialBackS hx (y := (⟨"java/lang/ArithmeticException", "<init>", "(Ljava/lang/String;)V"⟩ : MethodName)) rfl hown (mvT hZ (w_ hw (i := 57) rfl)) (mvT hZ (w_ hw (i := 58) rfl)) (mvT hZ (w_ hw (i := 60) rfl)) (by decide) (backOfK (W := 1) (rm_aei l Z a0 hw [] b2 la9 u sen h9 n0 O9 hEL f10 f12 f13 f14 f16 f15 S_UNASSIGNED_STACK S_SUPPRESSED_SENTINEL ge_b2 f11 hl hu hsen) hZ (w_ hw (i := 60) rfl) (w_ hw (i := 48) rfl) (by decide) (by decide) hEL CR.1 (knows_since hS hKn).1 (knows_since hS hKn).2) (g := (mkF m 25 #[(sJ xq), .second, (sJ yq), .second, (sJ (xq + yq)), .second] [(.ref la9), (.ref b2), (.ref b2)])) rfl (by rw [hml]; rfl) (Steps.refl _) (a := b2) (argsL := [(.ref la9)]) (rest := [(.ref b2)]) (lenOf pd_17 rfl) rfl (by show 2 * 0 + _ ≤ _; exact Nat.le_of_eq rfl) (hb hby d9_25) (fun _ _ => ⟨rfl, e9, (by decide : 3 + 1 ≤ _), (by decide : 62 + 2752 ≤ _)⟩)
  dsimp only [Pt.U, Pt.locs, Pt.cells, Pt.slots] at X18 hS18 gg18 l18 y18 z18 st18 hQ18 CRn18
  subst y18 z18
  obtain ⟨X18, hS, hZ, hown⟩ := rebS hS (by rw [e9]; exact hk) X18 hS18 gg18 hZ hown
  obtain ⟨rfl, N18q, K18q, r18_0⟩ := hQ18
  have N18 : Fr n0 L18 := by rw [l18]; exact Fr.app N0 N18q
  have f19 := f10.keep K18q
  have K18 : Keep h0 T18.heap [] := K9.trans K18q (allS (Or.inr sz_b2) all0)
  have O18 := O9.keep K18q (allS ge_b2 all0)
  have hk : T18.heap.size ≤ T18.heap.size := Nat.le_refl _
  have CR := CR.trans CRn18
  refine stt st18 ?_
  refine Go.imp (P := (PoT s Z consts_1 (Q_rm_ax1 Z xq yq u sen h0 n0) 4 2814)) ?_ (fun _ _ q => Or.inr q)
  refine outT X18 hx hZ hEL rfl hS hk CR hnh (hb hby d9_28) hlk (by decide) (by decide) ?_
  exact ⟨b2, rfl, N18, K18, ⟨ge_b2, sz_b2⟩, r18_0⟩
abbrev B1 : ByteArray := method_2_code
theorem d1_0 : Dc B1 0 (.lload_n 0) 1 := by decide +kernel
theorem d1_1 : Dc B1 1 (.ldc2_w 9) 3 := by decide +kernel
theorem d1_4 : Dc B1 4 (.land) 1 := by decide +kernel
theorem d1_5 : Dc B1 5 (.lstore_n 2) 1 := by decide +kernel
theorem d1_6 : Dc B1 6 (.lload_n 2) 1 := by decide +kernel
theorem d1_7 : Dc B1 7 (.lconst 0) 1 := by decide +kernel
theorem d1_8 : Dc B1 8 (.lcmp) 1 := by decide +kernel
theorem d1_9 : Dc B1 9 (.ifCond .ne 7) 3 := by decide +kernel
theorem d1_12 : Dc B1 12 (.lconst 1) 1 := by decide +kernel
theorem d1_13 : Dc B1 13 (.goto 4) 3 := by decide +kernel
theorem d1_17 : Dc B1 17 (.lreturn) 1 := by decide +kernel
theorem d1_16 : Dc B1 16 (.lload_n 2) 1 := by decide +kernel
theorem ef_rm_den (m : MethodId) (x : Int64)  : entryFrame m #[(.long x)] 4 = mkF m 0 #[(sJ x), .second, .unset, .unset] [] := by first | (simp [entryFrame, mkF, argsToLocals, Value.category]; done) | rfl
def Q_rm_den (Z : State) (x : Int64)  (h0 : Heap) (n0 : Nat) (v : Option Value) (h : Heap) (L : List Loc) : Prop := ∃ (zq : Int64), v = some (.long zq) ∧ Fr n0 L ∧ h = h0 ∧ (¬ zq < (0 : Int64) ∧ ¬ zq = (0 : Int64))
theorem pn_27_ : plainName "com/example/brisk_dedup/briskdedup/engine/FractionMeanIsEmptyPinLaw" = true := by first | (simp [plainName, overriddenIn]; done) | decide +kernel
theorem pn_27 : plainFor (⟨"com/example/brisk_dedup/briskdedup/engine/FractionMeanIsEmptyPinLaw", "den", "(J)J"⟩ : MethodName) = true := plainFor_of_name pn_27_
set_option maxRecDepth 65536 in
set_option maxHeartbeats 40000000 in
theorem rm_den (l : Launch) (Z : State) (a0 : Array Value) (hw : ∀ d ∈ tables_1, d.before a0 Z = true) (ws : List Jvm.Cond) (x : Int64)  (h0 : Heap) (n0 : Nat) (O0 : Old Z n0 h0)  :
    MetFree l (⟨"com/example/brisk_dedup/briskdedup/engine/FractionMeanIsEmptyPinLaw", "den", "(J)J"⟩ : MethodName) (head1 (Jvm.Cond.code (⟨"com/example/brisk_dedup/briskdedup/engine/FractionMeanIsEmptyPinLaw", "den", "(J)J"⟩ : MethodName) method_2_code 4 (some .long) :: ws) ({ frames := 0, cells := 0, slots := 0, locals := 0 } : Room)) (fun args_ U => args_ = #[(.long x)] ∧ Z.Warmed39 U.vm ∧ U.heap = h0) (fun _ _ _ _ _ => True) (fun _ U out_ U' => ∃ val_ loc_, out_ = .returned val_ ∧ (Q_rm_den Z x h0 n0) val_ U'.heap loc_ ∧ FrameEnd U out_ U' loc_ ({ frames := 0, cells := 0, slots := 0, locals := 0 } : Room).cells ({ frames := 0, cells := 0, slots := 0, locals := 0 } : Room).slots) := by
  refine start (Q := (Q_rm_den Z x h0 n0)) pn_27 ?_
  intro p e s m below meth c T0 X0 hx hby hml hown hnm hret hlk hZ e0
  replace hown : s.vm.findClass "com/example/brisk_dedup/briskdedup/engine/FractionMeanIsEmptyPinLaw" = some m.cls := hown
  replace hml : c.maxLocals = 4 := hml
  refine goAt (ef_rm_den m x ) ?_
  have N0 := Fr.nil n0
  refine stp (fun _ => XS.lloadN X0.here hx rfl (hb hby d1_0) rfl) ?_
  refine stp (fun _ => X0.ldc2Long hx hown (mvT hZ (w_ hw (i := 4) rfl)) (g := (mkF m 1 #[(sJ x), .second, .unset, .unset] [(.long x)])) rfl (hb hby d1_1) _) ?_
  refine stp (fun _ => XS.land X0.here hx rfl (hb hby d1_4) rfl) ?_
  refine stp (fun _ => XS.lstoreN X0.here hx rfl (hb hby d1_5) rfl (l' := #[(sJ x), .second, (sJ (x &&& (9223372036854775807 : Int64))), .second]) rfl) ?_
  show Go p e below T0 (mkF m 6 #[(sJ x), .second, (sJ (x &&& (9223372036854775807 : Int64))), .second] []) _
  refine stp (fun _ => XS.lloadN X0.here hx rfl (hb hby d1_6) rfl) ?_
  refine stp (fun _ => XS.lconst X0.here hx rfl (hb hby d1_7)) ?_
  refine stp (fun _ => XS.lcmp X0.here hx rfl (hb hby d1_8) rfl) ?_
  by_cases q9_1 : (x &&& (9223372036854775807 : Int64)) = (0 : Int64)
  rotate_left
  · refine stp (fun _ => XS.ifYes X0.here hx rfl (pc0 := 9) (pc' := 16) rfl (hb hby d1_9) rfl (XT.ll_ne_t q9_1) (by decide) (by decide)) ?_
    refine stp (fun _ => XS.lloadN X0.here hx rfl (hb hby d1_16) rfl) ?_
    show Go p e below T0 (mkF m 17 #[(sJ x), .second, (sJ (x &&& (9223372036854775807 : Int64))), .second] [(.long (x &&& (9223372036854775807 : Int64)))]) _
    refine outJ X0 hx hret (hb hby d1_17) hlk (by decide) (by decide) ?_
    exact ⟨(x &&& (9223372036854775807 : Int64)), rfl, N0, e0, ⟨own_denpos, q9_1⟩⟩
  refine stp (fun _ => XS.ifNo X0.here hx rfl (hb hby d1_9) rfl (XT.ll_ne_f q9_1)) ?_
  refine stp (fun _ => XS.lconst X0.here hx rfl (hb hby d1_12)) ?_
  show Go p e below T0 (mkF m 13 #[(sJ x), .second, (sJ (x &&& (9223372036854775807 : Int64))), .second] [(.long (1 : Int64))]) _
  refine stp (fun _ => XS.goto X0.here hx rfl (pc0 := 13) (pc' := 17) rfl (hb hby d1_13) (by decide) (by decide)) ?_
  refine outJ X0 hx hret (hb hby d1_17) hlk (by decide) (by decide) ?_
  exact ⟨(1 : Int64), rfl, N0, e0, ⟨by decide, by decide⟩⟩
abbrev B2 : ByteArray := method_3_code
theorem d2_0 : Dc B2 0 (.iload 4) 2 := by decide +kernel
theorem d2_2 : Dc B2 2 (.ifCond .eq 5) 3 := by decide +kernel
theorem d2_7 : Dc B2 7 (.lload_n 0) 1 := by decide +kernel
theorem d2_8 : Dc B2 8 (.ldc2_w 9) 3 := by decide +kernel
theorem d2_11 : Dc B2 11 (.land) 1 := by decide +kernel
theorem d2_12 : Dc B2 12 (.lload_n 2) 1 := by decide +kernel
theorem d2_13 : Dc B2 13 (.lrem) 1 := by decide +kernel
theorem d2_14 : Dc B2 14 (.lreturn) 1 := by decide +kernel
theorem d2_5 : Dc B2 5 (.lload_n 2) 1 := by decide +kernel
theorem d2_6 : Dc B2 6 (.lreturn) 1 := by decide +kernel
theorem ef_rm_nm (m : MethodId) (x : Int64) (dq : Int64) (w : Int32)  : entryFrame m #[(.long x), (.long dq), (.int w)] 5 = mkF m 0 #[(sJ x), .second, (sJ dq), .second, (sI w)] [] := by first | (simp [entryFrame, mkF, argsToLocals, Value.category]; done) | rfl
def Q_rm_nm (Z : State) (x : Int64) (dq : Int64) (w : Int32)  (h0 : Heap) (n0 : Nat) (v : Option Value) (h : Heap) (L : List Loc) : Prop := ∃ (zq : Int64), v = some (.long zq) ∧ Fr n0 L ∧ h = h0 ∧ (¬ zq < (0 : Int64))
theorem pn_28_ : plainName "com/example/brisk_dedup/briskdedup/engine/FractionMeanIsEmptyPinLaw" = true := by first | (simp [plainName, overriddenIn]; done) | decide +kernel
theorem pn_28 : plainFor (⟨"com/example/brisk_dedup/briskdedup/engine/FractionMeanIsEmptyPinLaw", "num", "(JJZ)J"⟩ : MethodName) = true := plainFor_of_name pn_28_
set_option maxRecDepth 65536 in
set_option maxHeartbeats 40000000 in
theorem rm_nm (l : Launch) (Z : State) (a0 : Array Value) (hw : ∀ d ∈ tables_1, d.before a0 Z = true) (ws : List Jvm.Cond) (x : Int64) (dq : Int64) (w : Int32)  (h0 : Heap) (n0 : Nat) (O0 : Old Z n0 h0) (hd : ¬ dq < (0 : Int64) ∧ ¬ dq = (0 : Int64)) :
    MetFree l (⟨"com/example/brisk_dedup/briskdedup/engine/FractionMeanIsEmptyPinLaw", "num", "(JJZ)J"⟩ : MethodName) (head1 (Jvm.Cond.code (⟨"com/example/brisk_dedup/briskdedup/engine/FractionMeanIsEmptyPinLaw", "num", "(JJZ)J"⟩ : MethodName) method_3_code 5 (some .long) :: ws) ({ frames := 0, cells := 0, slots := 0, locals := 0 } : Room)) (fun args_ U => args_ = #[(.long x), (.long dq), (.int w)] ∧ Z.Warmed39 U.vm ∧ U.heap = h0) (fun _ _ _ _ _ => True) (fun _ U out_ U' => ∃ val_ loc_, out_ = .returned val_ ∧ (Q_rm_nm Z x dq w h0 n0) val_ U'.heap loc_ ∧ FrameEnd U out_ U' loc_ ({ frames := 0, cells := 0, slots := 0, locals := 0 } : Room).cells ({ frames := 0, cells := 0, slots := 0, locals := 0 } : Room).slots) := by
  refine start (Q := (Q_rm_nm Z x dq w h0 n0)) pn_28 ?_
  intro p e s m below meth c T0 X0 hx hby hml hown hnm hret hlk hZ e0
  replace hown : s.vm.findClass "com/example/brisk_dedup/briskdedup/engine/FractionMeanIsEmptyPinLaw" = some m.cls := hown
  replace hml : c.maxLocals = 5 := hml
  refine goAt (ef_rm_nm m x dq w ) ?_
  have N0 := Fr.nil n0
  refine stp (fun _ => XS.iload X0.here hx rfl (hb hby d2_0) rfl) ?_
  by_cases q2_1 : w = 0
  rotate_left
  · refine stp (fun _ => XS.ifNo X0.here hx rfl (hb hby d2_2) rfl (XT.i0_eq_f q2_1)) ?_
    refine stp (fun _ => XS.lloadN X0.here hx rfl (hb hby d2_5) rfl) ?_
    refine outJ X0 hx hret (hb hby d2_6) hlk (by decide) (by decide) ?_
    exact ⟨dq, rfl, N0, e0, hd.1⟩
  refine stp (fun _ => XS.ifYes X0.here hx rfl (pc0 := 2) (pc' := 7) rfl (hb hby d2_2) rfl (XT.i0_eq_t q2_1) (by decide) (by decide)) ?_
  refine stp (fun _ => XS.lloadN X0.here hx rfl (hb hby d2_7) rfl) ?_
  refine stp (fun _ => X0.ldc2Long hx hown (mvT hZ (w_ hw (i := 4) rfl)) (g := (mkF m 8 #[(sJ x), .second, (sJ dq), .second, (sI w)] [(.long x)])) rfl (hb hby d2_8) _) ?_
  show Go p e below T0 (mkF m 11 #[(sJ x), .second, (sJ dq), .second, (sI w)] [(.long (9223372036854775807 : Int64)), (.long x)]) _
  refine stp (fun _ => XS.land X0.here hx rfl (hb hby d2_11) rfl) ?_
  refine stp (fun _ => XS.lloadN X0.here hx rfl (hb hby d2_12) rfl) ?_
  refine stp (fun _ => XS.lrem X0.here hx rfl (hb hby d2_13) rfl hd.2) ?_
  refine outJ X0 hx hret (hb hby d2_14) hlk (by decide) (by decide) ?_
  exact ⟨((x &&& (9223372036854775807 : Int64)) - ((x &&& (9223372036854775807 : Int64)) / dq) * dq), rfl, N0, e0, (own_rempos own_denpos hd.1 hd.2)⟩
abbrev B3 : ByteArray := prog_36_method_1_code
theorem d3_0 : Dc B3 0 (.aload_n 0) 1 := by decide +kernel
theorem d3_1 : Dc B3 1 (.invokespecial 1) 3 := by decide +kernel
theorem d3_4 : Dc B3 4 (.aload_n 0) 1 := by decide +kernel
theorem d3_5 : Dc B3 5 (.lconst 1) 1 := by decide +kernel
theorem d3_6 : Dc B3 6 (.putfield 7) 3 := by decide +kernel
theorem d3_9 : Dc B3 9 (.return_) 1 := by decide +kernel
theorem ef_rm_fi (m : MethodId) (t : Addr)  : entryFrame m #[(.ref t)] 1 = mkF m 0 #[(sR t)] [] := by first | (simp [entryFrame, mkF, argsToLocals, Value.category]; done) | rfl
def Q_rm_fi (Z : State) (t : Addr)  (h0 : Heap) (n0 : Nat) (v : Option Value) (h : Heap) (L : List Loc) : Prop := v = none ∧ Fr n0 L ∧ Keep h0 h [t] ∧ Fld Z h t "com/example/brisk_dedup/briskdedup/engine/FractionMean" "denominator" "J" (.long (1 : Int64)) ∧ Fld Z h t "com/example/brisk_dedup/briskdedup/engine/FractionMean" "numerator" "J" (.long (0 : Int64)) ∧ Fld Z h t "com/example/brisk_dedup/briskdedup/engine/FractionMean" "bigNumerator" "Ljava/math/BigInteger;" .null ∧ Fld Z h t "com/example/brisk_dedup/briskdedup/engine/FractionMean" "bigDenominator" "Ljava/math/BigInteger;" .null ∧ Fld Z h t "com/example/brisk_dedup/briskdedup/engine/FractionMean" "count" "I" (.int (0 : Int32))
theorem pn_29_ : plainName "com/example/brisk_dedup/briskdedup/engine/FractionMean" = true := by first | (simp [plainName, overriddenIn]; done) | decide +kernel
theorem pn_29 : plainFor (⟨"com/example/brisk_dedup/briskdedup/engine/FractionMean", "<init>", "()V"⟩ : MethodName) = true := plainFor_of_name pn_29_
set_option maxRecDepth 65536 in
set_option maxHeartbeats 40000000 in
theorem rm_fi (l : Launch) (Z : State) (a0 : Array Value) (hw : ∀ d ∈ tables_1, d.before a0 Z = true) (ws : List Jvm.Cond) (t : Addr)  (h0 : Heap) (n0 : Nat) (O0 : Old Z n0 h0) (E_t : Exa Z h0 t "com/example/brisk_dedup/briskdedup/engine/FractionMean") (F_t_denominator : Fld Z h0 t "com/example/brisk_dedup/briskdedup/engine/FractionMean" "denominator" "J" (.long (0 : Int64))) (F_t_numerator : Fld Z h0 t "com/example/brisk_dedup/briskdedup/engine/FractionMean" "numerator" "J" (.long (0 : Int64))) (F_t_bigNumerator : Fld Z h0 t "com/example/brisk_dedup/briskdedup/engine/FractionMean" "bigNumerator" "Ljava/math/BigInteger;" .null) (F_t_bigDenominator : Fld Z h0 t "com/example/brisk_dedup/briskdedup/engine/FractionMean" "bigDenominator" "Ljava/math/BigInteger;" .null) (F_t_count : Fld Z h0 t "com/example/brisk_dedup/briskdedup/engine/FractionMean" "count" "I" (.int (0 : Int32))) (ge_t : n0 ≤ t) :
    MetFree l (⟨"com/example/brisk_dedup/briskdedup/engine/FractionMean", "<init>", "()V"⟩ : MethodName) (head1 (Jvm.Cond.code (⟨"com/example/brisk_dedup/briskdedup/engine/FractionMean", "<init>", "()V"⟩ : MethodName) prog_36_method_1_code 1 none :: ws) ({ frames := 1, cells := 0, slots := 0, locals := 12 } : Room)) (fun args_ U => args_ = #[(.ref t)] ∧ Z.Warmed39 U.vm ∧ U.heap = h0) (fun _ _ _ _ _ => True) (fun _ U out_ U' => ∃ val_ loc_, out_ = .returned val_ ∧ (Q_rm_fi Z t h0 n0) val_ U'.heap loc_ ∧ FrameEnd U out_ U' loc_ ({ frames := 1, cells := 0, slots := 0, locals := 12 } : Room).cells ({ frames := 1, cells := 0, slots := 0, locals := 12 } : Room).slots) := by
  refine start (Q := (Q_rm_fi Z t h0 n0)) pn_29 ?_
  intro p e s m below meth c T0 X0 hx hby hml hown hnm hret hlk hZ e0
  replace hown : s.vm.findClass "com/example/brisk_dedup/briskdedup/engine/FractionMean" = some m.cls := hown
  replace hml : c.maxLocals = 1 := hml
  refine goAt (ef_rm_fi m t ) ?_
  have N0 := Fr.nil n0
  refine stp (fun _ => XS.aloadN X0.here hx rfl (hb hby d3_0) rfl rfl) ?_
  obtain ⟨T1, X1, e1, st1⟩ := initO X0 hx hZ hown (w_ hw (i := 14) rfl) (w_ hw (i := 15) rfl) (w_ hw (i := 16) rfl) e0 (g := (mkF m 1 #[(sR t)] [(.ref t)])) rfl (by rw [hml]; rfl) rfl (hb hby d3_1) (by decide) (W := 0) (by show 2 * 0 + _ ≤ _; exact Nat.le_of_eq rfl) (by decide)
  refine stp st1 ?_
  refine stp (fun _ => XS.aloadN X1.here hx rfl (hb hby d3_4) rfl rfl) ?_
  refine stp (fun _ => XS.lconst X1.here hx rfl (hb hby d3_5)) ?_
  show Go p e below T1 (mkF m 6 #[(sR t)] [(.long (1 : Int64)), (.ref t)]) _
  obtain ⟨T2, h2, X2, e2, W2, st2⟩ := putF X1 hx hZ hown (host := "") (Or.inl (w_ hw (i := 17) rfl)) Via.refl e1 F_t_denominator E_t (Or.inl (w_ hw (i := 18) rfl)) (w_ hw (i := 9) rfl) (ty := .long) (by decide) rfl rfl (g := (mkF m 6 #[(sR t)] [(.long (1 : Int64)), (.ref t)])) rfl rfl (hb hby d3_6)
  have Fw2 := F_t_denominator.same W2
  have f3 := E_t.wr W2
  have f5 := F_t_numerator.other W2 (Or.inr (slot_ne (Or.inl (w_ hw (i := 34) rfl)) (Or.inl (w_ hw (i := 18) rfl)) (by decide) (t := .long) (t' := .long) (by decide) (by decide)))
  have f6 := F_t_bigNumerator.other W2 (Or.inr (slot_ne (Or.inl (w_ hw (i := 32) rfl)) (Or.inl (w_ hw (i := 18) rfl)) (by decide) (t := (.object "java/math/BigInteger")) (t' := .long) (by decide) (by decide)))
  have f7 := F_t_bigDenominator.other W2 (Or.inr (slot_ne (Or.inl (w_ hw (i := 140) rfl)) (Or.inl (w_ hw (i := 18) rfl)) (by decide) (t := (.object "java/math/BigInteger")) (t' := .long) (by decide) (by decide)))
  have f8 := F_t_count.other W2 (Or.inr (slot_ne (Or.inl (w_ hw (i := 25) rfl)) (Or.inl (w_ hw (i := 18) rfl)) (by decide) (t := .int) (t' := .long) (by decide) (by decide)))
  have K2 : Keep h0 h2 [t] := (Keep.refl h0 [t]).wr W2 (Or.inl (List.mem_of_getElem? (i := 0) rfl))
  have O2 := O0.wr W2 ge_t
  have N2 := Fr.snoc X2 N0 ge_t
  refine stp st2 ?_
  refine outV X2 hx hret (hb hby d3_9) hlk (by decide) (by decide) ?_
  rw [e2]
  exact ⟨rfl, N2, K2, Fw2, f5, f6, f7, f8⟩
abbrev B5 : ByteArray := prog_36_method_3_code
theorem d5_0 : Dc B5 0 (.aload_n 0) 1 := by decide +kernel
theorem d5_1 : Dc B5 1 (.getfield 13) 3 := by decide +kernel
theorem d5_4 : Dc B5 4 (.ifCond .ne 7) 3 := by decide +kernel
theorem d5_7 : Dc B5 7 (.iconst 1) 1 := by decide +kernel
theorem d5_8 : Dc B5 8 (.goto 4) 3 := by decide +kernel
theorem d5_12 : Dc B5 12 (.ireturn) 1 := by decide +kernel
theorem ef_rm_ie0 (m : MethodId) (t : Addr)  : entryFrame m #[(.ref t)] 1 = mkF m 0 #[(sR t)] [] := by first | (simp [entryFrame, mkF, argsToLocals, Value.category]; done) | rfl
def Q_rm_ie0 (Z : State) (t : Addr)  (h0 : Heap) (n0 : Nat) (v : Option Value) (h : Heap) (L : List Loc) : Prop := v = some (.int (1 : Int32)) ∧ Fr n0 L ∧ h = h0
theorem pn_30_ : plainName "com/example/brisk_dedup/briskdedup/engine/FractionMean" = true := by first | (simp [plainName, overriddenIn]; done) | decide +kernel
theorem pn_30 : plainFor (⟨"com/example/brisk_dedup/briskdedup/engine/FractionMean", "isEmpty", "()Z"⟩ : MethodName) = true := plainFor_of_name pn_30_
set_option maxRecDepth 65536 in
set_option maxHeartbeats 40000000 in
theorem rm_ie0 (l : Launch) (Z : State) (a0 : Array Value) (hw : ∀ d ∈ tables_1, d.before a0 Z = true) (ws : List Jvm.Cond) (t : Addr)  (h0 : Heap) (n0 : Nat) (O0 : Old Z n0 h0) (E_t : Exa Z h0 t "com/example/brisk_dedup/briskdedup/engine/FractionMean") (F_t_count : Fld Z h0 t "com/example/brisk_dedup/briskdedup/engine/FractionMean" "count" "I" (.int (0 : Int32))) :
    MetFree l (⟨"com/example/brisk_dedup/briskdedup/engine/FractionMean", "isEmpty", "()Z"⟩ : MethodName) (head1 (Jvm.Cond.code (⟨"com/example/brisk_dedup/briskdedup/engine/FractionMean", "isEmpty", "()Z"⟩ : MethodName) prog_36_method_3_code 1 (some .boolean) :: ws) ({ frames := 0, cells := 0, slots := 0, locals := 0 } : Room)) (fun args_ U => args_ = #[(.ref t)] ∧ Z.Warmed39 U.vm ∧ U.heap = h0) (fun _ _ _ _ _ => True) (fun _ U out_ U' => ∃ val_ loc_, out_ = .returned val_ ∧ (Q_rm_ie0 Z t h0 n0) val_ U'.heap loc_ ∧ FrameEnd U out_ U' loc_ ({ frames := 0, cells := 0, slots := 0, locals := 0 } : Room).cells ({ frames := 0, cells := 0, slots := 0, locals := 0 } : Room).slots) := by
  refine start (Q := (Q_rm_ie0 Z t h0 n0)) pn_30 ?_
  intro p e s m below meth c T0 X0 hx hby hml hown hnm hret hlk hZ e0
  replace hown : s.vm.findClass "com/example/brisk_dedup/briskdedup/engine/FractionMean" = some m.cls := hown
  replace hml : c.maxLocals = 1 := hml
  refine goAt (ef_rm_ie0 m t ) ?_
  have N0 := Fr.nil n0
  refine stp (fun _ => XS.aloadN X0.here hx rfl (hb hby d5_0) rfl rfl) ?_
  obtain ⟨T1, X1, e1, st1⟩ := getF X0 hx hZ hown (host := "") (Or.inl (w_ hw (i := 24) rfl)) Via.refl e0 F_t_count (g := (mkF m 1 #[(sR t)] [(.ref t)])) rfl rfl (hb hby d5_1)
  refine stp st1 ?_
  refine stp (fun _ => XS.ifNo X1.here hx rfl (hb hby d5_4) rfl (by decide)) ?_
  refine stp (fun _ => XS.iconst X1.here hx rfl (hb hby d5_7)) ?_
  show Go p e below T1 (mkF m 8 #[(sR t)] [(.int (1 : Int32))]) _
  refine stp (fun _ => XS.goto X1.here hx rfl (pc0 := 8) (pc' := 12) rfl (hb hby d5_8) (by decide) (by decide)) ?_
  refine outN X1 hx (t := .boolean) hret (by simp) (hb hby d5_12) hlk (by decide) (by decide) ?_
  exact ⟨rfl, N0, e1⟩
theorem d5_11 : Dc B5 11 (.iconst 0) 1 := by decide +kernel
theorem ef_rm_ie1 (m : MethodId) (t : Addr)  : entryFrame m #[(.ref t)] 1 = mkF m 0 #[(sR t)] [] := by first | (simp [entryFrame, mkF, argsToLocals, Value.category]; done) | rfl
def Q_rm_ie1 (Z : State) (t : Addr) (cnt : Int32) (h0 : Heap) (n0 : Nat) (v : Option Value) (h : Heap) (L : List Loc) : Prop := v = some (.int (0 : Int32)) ∧ Fr n0 L ∧ h = h0
set_option maxRecDepth 65536 in
set_option maxHeartbeats 40000000 in
theorem rm_ie1 (l : Launch) (Z : State) (a0 : Array Value) (hw : ∀ d ∈ tables_1, d.before a0 Z = true) (ws : List Jvm.Cond) (t : Addr) (cnt : Int32) (h0 : Heap) (n0 : Nat) (O0 : Old Z n0 h0) (E_t : Exa Z h0 t "com/example/brisk_dedup/briskdedup/engine/FractionMean") (F_t_count : Fld Z h0 t "com/example/brisk_dedup/briskdedup/engine/FractionMean" "count" "I" (.int cnt)) (hc : ¬ cnt = (0 : Int32)) :
    MetFree l (⟨"com/example/brisk_dedup/briskdedup/engine/FractionMean", "isEmpty", "()Z"⟩ : MethodName) (head1 (Jvm.Cond.code (⟨"com/example/brisk_dedup/briskdedup/engine/FractionMean", "isEmpty", "()Z"⟩ : MethodName) prog_36_method_3_code 1 (some .boolean) :: ws) ({ frames := 0, cells := 0, slots := 0, locals := 0 } : Room)) (fun args_ U => args_ = #[(.ref t)] ∧ Z.Warmed39 U.vm ∧ U.heap = h0) (fun _ _ _ _ _ => True) (fun _ U out_ U' => ∃ val_ loc_, out_ = .returned val_ ∧ (Q_rm_ie1 Z t cnt h0 n0) val_ U'.heap loc_ ∧ FrameEnd U out_ U' loc_ ({ frames := 0, cells := 0, slots := 0, locals := 0 } : Room).cells ({ frames := 0, cells := 0, slots := 0, locals := 0 } : Room).slots) := by
  refine start (Q := (Q_rm_ie1 Z t cnt h0 n0)) pn_30 ?_
  intro p e s m below meth c T0 X0 hx hby hml hown hnm hret hlk hZ e0
  replace hown : s.vm.findClass "com/example/brisk_dedup/briskdedup/engine/FractionMean" = some m.cls := hown
  replace hml : c.maxLocals = 1 := hml
  refine goAt (ef_rm_ie1 m t ) ?_
  have N0 := Fr.nil n0
  refine stp (fun _ => XS.aloadN X0.here hx rfl (hb hby d5_0) rfl rfl) ?_
  obtain ⟨T1, X1, e1, st1⟩ := getF X0 hx hZ hown (host := "") (Or.inl (w_ hw (i := 24) rfl)) Via.refl e0 F_t_count (g := (mkF m 1 #[(sR t)] [(.ref t)])) rfl rfl (hb hby d5_1)
  refine stp st1 ?_
  refine stp (fun _ => XS.ifYes X1.here hx rfl (pc0 := 4) (pc' := 11) rfl (hb hby d5_4) rfl (XT.i0_ne_t hc) (by decide) (by decide)) ?_
  refine stp (fun _ => XS.iconst X1.here hx rfl (hb hby d5_11)) ?_
  show Go p e below T1 (mkF m 12 #[(sR t)] [(.int (0 : Int32))]) _
  refine outN X1 hx (t := .boolean) hret (by simp) (hb hby d5_12) hlk (by decide) (by decide) ?_
  exact ⟨rfl, N0, e1⟩
abbrev B6 : ByteArray := prog_36_method_2_code
theorem d6_0 : Dc B6 0 (.aload_n 0) 1 := by decide +kernel
theorem d6_1 : Dc B6 1 (.dup) 1 := by decide +kernel
theorem d6_2 : Dc B6 2 (.getfield 13) 3 := by decide +kernel
theorem d6_5 : Dc B6 5 (.iconst 1) 1 := by decide +kernel
theorem d6_6 : Dc B6 6 (.iadd) 1 := by decide +kernel
theorem d6_7 : Dc B6 7 (.putfield 13) 3 := by decide +kernel
theorem d6_10 : Dc B6 10 (.aload_n 0) 1 := by decide +kernel
theorem d6_11 : Dc B6 11 (.getfield 17) 3 := by decide +kernel
theorem d6_14 : Dc B6 14 (.ifnonnull 67) 3 := by decide +kernel
theorem d6_81 : Dc B6 81 (.lload_n 3) 1 := by decide +kernel
theorem d6_82 : Dc B6 82 (.invokestatic 35) 3 := by decide +kernel
theorem pd_19 : parseMethodDescriptor "(J)Ljava/math/BigInteger;" = some ⟨[.long], some (.object "java/math/BigInteger")⟩ := by decide +kernel
theorem d6_85 : Dc B6 85 (.astore 5) 2 := by decide +kernel
theorem d6_87 : Dc B6 87 (.aload_n 0) 1 := by decide +kernel
theorem d6_88 : Dc B6 88 (.aload_n 0) 1 := by decide +kernel
theorem d6_89 : Dc B6 89 (.getfield 17) 3 := by decide +kernel
theorem d6_92 : Dc B6 92 (.aload 5) 2 := by decide +kernel
theorem d6_94 : Dc B6 94 (.invokevirtual 44) 3 := by decide +kernel
theorem pd_20 : parseMethodDescriptor "(Ljava/math/BigInteger;)Ljava/math/BigInteger;" = some ⟨[(.object "java/math/BigInteger")], some (.object "java/math/BigInteger")⟩ := by decide +kernel
theorem d6_97 : Dc B6 97 (.lload_n 1) 1 := by decide +kernel
theorem d6_98 : Dc B6 98 (.invokestatic 35) 3 := by decide +kernel
theorem d6_101 : Dc B6 101 (.aload_n 0) 1 := by decide +kernel
theorem d6_102 : Dc B6 102 (.getfield 41) 3 := by decide +kernel
theorem d6_105 : Dc B6 105 (.invokevirtual 44) 3 := by decide +kernel
theorem d6_108 : Dc B6 108 (.invokevirtual 48) 3 := by decide +kernel
theorem d6_111 : Dc B6 111 (.putfield 17) 3 := by decide +kernel
theorem d6_114 : Dc B6 114 (.aload_n 0) 1 := by decide +kernel
theorem d6_115 : Dc B6 115 (.aload_n 0) 1 := by decide +kernel
theorem d6_116 : Dc B6 116 (.getfield 41) 3 := by decide +kernel
theorem d6_119 : Dc B6 119 (.aload 5) 2 := by decide +kernel
theorem d6_121 : Dc B6 121 (.invokevirtual 44) 3 := by decide +kernel
theorem d6_124 : Dc B6 124 (.putfield 41) 3 := by decide +kernel
theorem d6_127 : Dc B6 127 (.return_) 1 := by decide +kernel
theorem ef_rm_bg (m : MethodId) (t : Addr) (na : Int64) (db : Int64)  : entryFrame m #[(.ref t), (.long na), (.long db)] 7 = mkF m 0 #[(sR t), (sJ na), .second, (sJ db), .second, .unset, .unset] [] := by first | (simp [entryFrame, mkF, argsToLocals, Value.category]; done) | rfl
def Q_rm_bg (Z : State) (t : Addr) (na : Int64) (db : Int64) (cnt : Int32) (r1 : Addr) (r2 : Addr) (M1 : Nat) (M2 : Nat) (M3 : Nat) (z0 : Addr) (h0 : Heap) (n0 : Nat) (v : Option Value) (h : Heap) (L : List Loc) : Prop := ∃ (s1 : Addr) (s2 : Addr), v = none ∧ Fr n0 L ∧ Keep h0 h [t] ∧ Fld Z h t "com/example/brisk_dedup/briskdedup/engine/FractionMean" "count" "I" (.int (cnt + (1 : Int32))) ∧ Fld Z h t "com/example/brisk_dedup/briskdedup/engine/FractionMean" "bigNumerator" "Ljava/math/BigInteger;" (.ref s1) ∧ Fld Z h t "com/example/brisk_dedup/briskdedup/engine/FractionMean" "bigDenominator" "Ljava/math/BigInteger;" (.ref s2) ∧ BigOk Z h s1 M3 ∧ BigOk Z h s2 (M2 + 2 + 1)
theorem pn_31_ : plainName "com/example/brisk_dedup/briskdedup/engine/FractionMean" = true := by first | (simp [plainName, overriddenIn]; done) | decide +kernel
theorem pn_31 : plainFor (⟨"com/example/brisk_dedup/briskdedup/engine/FractionMean", "add", "(JJ)V"⟩ : MethodName) = true := plainFor_of_name pn_31_
set_option maxRecDepth 65536 in
set_option maxHeartbeats 40000000 in
theorem rm_bg (l : Launch) (Z : State) (a0 : Array Value) (hw : ∀ d ∈ tables_1, d.before a0 Z = true) (ws : List Jvm.Cond) (t : Addr) (na : Int64) (db : Int64) (cnt : Int32) (r1 : Addr) (r2 : Addr) (M1 : Nat) (M2 : Nat) (M3 : Nat) (z0 : Addr) (h0 : Heap) (n0 : Nat) (O0 : Old Z n0 h0) (hEL : EW Z a0 consts_1) (E_t : Exa Z h0 t "com/example/brisk_dedup/briskdedup/engine/FractionMean") (F_t_count : Fld Z h0 t "com/example/brisk_dedup/briskdedup/engine/FractionMean" "count" "I" (.int cnt)) (F_t_bigNumerator : Fld Z h0 t "com/example/brisk_dedup/briskdedup/engine/FractionMean" "bigNumerator" "Ljava/math/BigInteger;" (.ref r1)) (F_t_bigDenominator : Fld Z h0 t "com/example/brisk_dedup/briskdedup/engine/FractionMean" "bigDenominator" "Ljava/math/BigInteger;" (.ref r2)) (Q_r1 : BigOk Z h0 r1 M1) (Q_r2 : BigOk Z h0 r2 M2) (S_ZERO : Sta Z Z.heap "java/math/BigInteger" "ZERO" "Ljava/math/BigInteger;" (.ref z0)) (Q_z0 : BigOk Z Z.heap z0 0) (ge_t : n0 ≤ t) (ne_r1_t : r1 ≠ t) (ne_r2_t : r2 ≠ t) (hna : ¬ na < (0 : Int64)) (hdb : ¬ db < (0 : Int64)) (hPC : PosOk Z) (hN : M1 ≤ 18 ∧ M1 + 4 ≤ M3 ∧ M2 + 4 ≤ M3 ∧ M1 + M2 + 6 ≤ 24) :
    MetFree l (⟨"com/example/brisk_dedup/briskdedup/engine/FractionMean", "add", "(JJ)V"⟩ : MethodName) (head1 (Jvm.Cond.codeWith (⟨"com/example/brisk_dedup/briskdedup/engine/FractionMean", "add", "(JJ)V"⟩ : MethodName) prog_36_method_2_code 7 none [((17 : Nat), (56 : Nat), (57 : Nat), (33 : Nat))] :: ws) ({ frames := 6, cells := 16, slots := 236, locals := 111 } : Room)) (fun args_ U => args_ = #[(.ref t), (.long na), (.long db)] ∧ Z.Warmed39 U.vm ∧ U.heap = h0 ∧ CHv Z consts_1 U.vm h0) Knows (fun _ s out_ U' => (PoW s Z consts_1 (Q_rm_bg Z t na db cnt r1 r2 M1 M2 M3 z0 h0 n0) ({ frames := 6, cells := 16, slots := 236, locals := 111 } : Room).cells ({ frames := 6, cells := 16, slots := 236, locals := 111 } : Room).slots) out_ U') := by
  refine startH (P := fun s => (PoW s Z consts_1 (Q_rm_bg Z t na db cnt r1 r2 M1 M2 M3 z0 h0 n0) ({ frames := 6, cells := 16, slots := 236, locals := 111 } : Room).cells ({ frames := 6, cells := 16, slots := 236, locals := 111 } : Room).slots)) pn_31 ?_
  intro p e s m below meth c T0 X0 hx hby hml hown hnm hret hlk hZ e0 hS CR hKn
  obtain ⟨hs0, hnh, hKn⟩ := hKn
  have CR0 := CR
  have hk : 0 ≤ h0.size := Nat.zero_le _
  have wS : ∀ a ∈ Bundle.stringAtoms, a.before a0 Z = true := own_wS hw
  replace hown : s.vm.findClass "com/example/brisk_dedup/briskdedup/engine/FractionMean" = some m.cls := hown
  replace hml : c.maxLocals = 7 := hml
  refine goAt (ef_rm_bg m t na db ) ?_
  have N0 := Fr.nil n0
  obtain ⟨hM1, hM2, hM3, hM4⟩ := hN
  refine stp (fun _ => XS.aloadN X0.here hx rfl (hb hby d6_0) rfl rfl) ?_
  refine stp (fun _ => XS.dup X0.here hx rfl (hb hby d6_1) rfl rfl) ?_
  obtain ⟨T1, X1, e1, st1⟩ := getF X0 hx hZ hown (host := "") (Or.inl (w_ hw (i := 24) rfl)) Via.refl e0 F_t_count (g := (mkF m 2 #[(sR t), (sJ na), .second, (sJ db), .second, .unset, .unset] [(.ref t), (.ref t)])) rfl rfl (hb hby d6_2)
  refine stp st1 ?_
  refine stp (fun _ => XS.iconst X1.here hx rfl (hb hby d6_5)) ?_
  show Go p e below T1 (mkF m 6 #[(sR t), (sJ na), .second, (sJ db), .second, .unset, .unset] [(.int (1 : Int32)), (.int cnt), (.ref t)]) _
  refine stp (fun _ => XS.iadd X1.here hx rfl (hb hby d6_6) rfl) ?_
  obtain ⟨T2, h2, X2, e2, W2, st2⟩ := putF X1 hx hZ hown (host := "") (Or.inl (w_ hw (i := 24) rfl)) Via.refl e1 F_t_count E_t (Or.inl (w_ hw (i := 25) rfl)) (w_ hw (i := 9) rfl) (ty := .int) (by decide) rfl rfl (g := (mkF m 7 #[(sR t), (sJ na), .second, (sJ db), .second, .unset, .unset] [(.int (cnt + (1 : Int32))), (.ref t)])) rfl rfl (hb hby d6_7)
  have Fw2 := F_t_count.same W2
  have f3 := E_t.wr W2
  have f5 := F_t_bigNumerator.other W2 (Or.inr (slot_ne (Or.inl (w_ hw (i := 32) rfl)) (Or.inl (w_ hw (i := 25) rfl)) (by decide) (t := (.object "java/math/BigInteger")) (t' := .int) (by decide) (by decide)))
  have f6 := F_t_bigDenominator.other W2 (Or.inr (slot_ne (Or.inl (w_ hw (i := 140) rfl)) (Or.inl (w_ hw (i := 25) rfl)) (by decide) (t := (.object "java/math/BigInteger")) (t' := .int) (by decide) (by decide)))
  have f7 := Q_r1.wr W2 ne_r1_t (Apart.exa E_t (w_ hw (i := 9) rfl))
  have f8 := Q_r2.wr W2 ne_r2_t (Apart.exa E_t (w_ hw (i := 9) rfl))
  have f9 := Q_r1.exa.wr W2
  have f10 := Q_r2.exa.wr W2
  have hk := Nat.le_trans hk (Keep.of_wr W2).1
  have CR := CR.trans (CHr.wr W2 (Safe.exa hZ.alike E_t (by decide) (by decide)) CR.1)
  have K2 : Keep h0 h2 [t] := (Keep.refl h0 [t]).wr W2 (Or.inl (List.mem_of_getElem? (i := 0) rfl))
  have O2 := O0.wr W2 ge_t
  have N2 := Fr.snoc X2 N0 ge_t
  refine stp st2 ?_
  refine stp (fun _ => XS.aloadN X2.here hx rfl (hb hby d6_10) rfl rfl) ?_
  obtain ⟨T11, X11, e11, st11⟩ := getF X2 hx hZ hown (host := "") (Or.inl (w_ hw (i := 31) rfl)) Via.refl e2 f5 (g := (mkF m 11 #[(sR t), (sJ na), .second, (sJ db), .second, .unset, .unset] [(.ref t)])) rfl rfl (hb hby d6_11)
  refine stp st11 ?_
  refine stp (fun _ => XS.ifnonnullYes X11.here hx rfl (pc0 := 14) (pc' := 81) rfl (hb hby d6_14) rfl (by decide) (by decide)) ?_
  show Go p e below T11 (mkF m 81 #[(sR t), (sJ na), .second, (sJ db), .second, .unset, .unset] []) _
  refine stp (fun _ => XS.lloadN X11.here hx rfl (hb hby d6_81) rfl) ?_
  obtain ⟨_, _, ⟨T12, L12, k12, n12⟩, -, X12, ⟨Lc12, hQ12, l12, y12, z12⟩, st12⟩ := Jvm.LawKit.callS X11 hx (y := (⟨"java/math/BigInteger", "valueOf", "(J)Ljava/math/BigInteger;"⟩ : MethodName)) hown (mvT hZ (w_ hw (i := 116) rfl)) (mvT hZ (w_ hw (i := 117) rfl)) (mvT hZ (w_ hw (i := 118) rfl)) (mvT hZ (w_ hw (i := 119) rfl)) (by decide) (backOf (W := 0) (rm_vo l Z a0 hw [] db z0 h2 n0 O2 S_ZERO Q_z0 hdb hPC) hZ (w_ hw (i := 119) rfl) (w_ hw (i := 118) rfl) (by decide) (by decide)) (g := (mkF m 82 #[(sR t), (sJ na), .second, (sJ db), .second, .unset, .unset] [(.long db)])) rfl (by rw [hml]; rfl) (argsL := [(.long db)]) (rest := []) (lenOf pd_19 rfl) rfl (by show 2 * 0 + _ ≤ _; exact Nat.le_of_eq rfl) (hb hby d6_82) (fun _ _ => ⟨rfl, e11, (by decide : 0 + 2 ≤ _), (by decide : 0 + 8 ≤ _)⟩)
  dsimp only [Pt.U, Pt.locs, Pt.cells, Pt.slots] at X12 l12 y12 z12 st12 hQ12
  subst y12 z12
  obtain ⟨r12, rfl, N12q, K12q, r12_0⟩ := hQ12
  have N12 : Fr n0 L12 := by rw [l12]; exact Fr.app N2 N12q
  have f13 := f3.keep K12q
  have f14 := Fw2.keep K12q nin0
  have f15 := f5.keep K12q nin0
  have f16 := f6.keep K12q nin0
  have f17 := f7.keep K12q nin0 apart0
  have f18 := f8.keep K12q nin0 apart0
  have f19 := f9.keep K12q
  have f20 := f10.keep K12q
  have hk := Nat.le_trans hk K12q.1
  have CR := CR.trans (CHr.keep K12q sf0 CR.1)
  have K12 : Keep h0 T12.heap [t] := K2.trans K12q all0
  have O12 := O2.keep K12q all0
  refine stp st12 ?_
  refine stp (fun _ => XS.astore X12.here hx rfl (hb hby d6_85) rfl rfl (l' := #[(sR t), (sJ na), .second, (sJ db), .second, (sR r12), .unset]) rfl) ?_
  refine stp (fun _ => XS.aloadN X12.here hx rfl (hb hby d6_87) rfl rfl) ?_
  refine stp (fun _ => XS.aloadN X12.here hx rfl (hb hby d6_88) rfl rfl) ?_
  show Go p e below T12 (mkF m 89 #[(sR t), (sJ na), .second, (sJ db), .second, (sR r12), .unset] [(.ref t), (.ref t)]) _
  obtain ⟨T21, X21, e21, st21⟩ := getF X12 hx hZ hown (host := "") (Or.inl (w_ hw (i := 31) rfl)) Via.refl rfl f15 (g := (mkF m 89 #[(sR t), (sJ na), .second, (sJ db), .second, (sR r12), .unset] [(.ref t), (.ref t)])) rfl rfl (hb hby d6_89)
  refine stp st21 ?_
  refine stp (fun _ => XS.aload X21.here hx rfl (hb hby d6_92) rfl rfl) ?_
  obtain ⟨cq22, kq22, q22a, q22b, q22c⟩ := isOf hZ e21 f19
  obtain ⟨_, _, ⟨T22, L22, k22, n22⟩, -, X22, ⟨Lc22, hQ22, l22, y22, z22⟩, st22⟩ := X21.virtualBack hx (y := (⟨"java/math/BigInteger", "multiply", "(Ljava/math/BigInteger;)Ljava/math/BigInteger;"⟩ : MethodName)) (z := (⟨"java/math/BigInteger", "multiply", "(Ljava/math/BigInteger;)Ljava/math/BigInteger;"⟩ : MethodName)) hown (mvT hZ (w_ hw (i := 141) rfl)) (mvT hZ (w_ hw (i := 142) rfl)) (notFace_of_selects (args := #[]) (mvT hZ (w_ hw (i := 144) rfl))) (mvT hZ (w_ hw (i := 144) rfl)) (mvT hZ (w_ hw (i := 143) rfl)) (by decide) (backOf (W := 1) (rm_mul l Z a0 hw [] r1 r12 M1 2 z0 T12.heap n0 O12 f17 r12_0 S_ZERO Q_z0 (by omega)) hZ (w_ hw (i := 145) rfl) (w_ hw (i := 118) rfl) (by decide) (by decide)) q22a q22c (g := (mkF m 94 #[(sR t), (sJ na), .second, (sJ db), .second, (sR r12), .unset] [(.ref r12), (.ref r1), (.ref t)])) rfl (by rw [hml]; rfl) (Steps.refl _) (argsL := [(.ref r12)]) (rest := [(.ref t)]) (lenOf pd_20 rfl) rfl (by show 2 * 0 + _ ≤ _; exact Nat.le_of_eq rfl) (hb hby d6_94) (fun _ _ => ⟨rfl, e21, (by decide : 2 + 3 ≤ _), (by decide : 8 + 55 ≤ _)⟩)
  dsimp only [Pt.U, Pt.locs, Pt.cells, Pt.slots] at X22 l22 y22 z22 st22 hQ22
  subst y22 z22
  obtain ⟨r22, rfl, N22q, K22q, r22_0⟩ := hQ22
  have N22 : Fr n0 L22 := by rw [l22]; exact Fr.app N12 N22q
  have f23 := f13.keep K22q
  have f24 := f14.keep K22q nin0
  have f25 := f15.keep K22q nin0
  have f26 := f16.keep K22q nin0
  have f27 := f17.keep K22q nin0 apart0
  have f28 := f18.keep K22q nin0 apart0
  have f29 := f19.keep K22q
  have f30 := f20.keep K22q
  have f31 := r12_0.keep K22q nin0 apart0
  have f32 := r12_0.exa.keep K22q
  have hk := Nat.le_trans hk K22q.1
  have CR := CR.trans (CHr.keep K22q sf0 CR.1)
  have K22 : Keep h0 T22.heap [t] := K12.trans K22q all0
  have O22 := O12.keep K22q all0
  refine stt st22 ?_
  refine stp (fun _ => XS.lloadN X22.here hx rfl (hb hby d6_97) rfl) ?_
  obtain ⟨_, _, ⟨T33, L33, k33, n33⟩, -, X33, ⟨Lc33, hQ33, l33, y33, z33⟩, st33⟩ := Jvm.LawKit.callS X22 hx (y := (⟨"java/math/BigInteger", "valueOf", "(J)Ljava/math/BigInteger;"⟩ : MethodName)) hown (mvT hZ (w_ hw (i := 116) rfl)) (mvT hZ (w_ hw (i := 117) rfl)) (mvT hZ (w_ hw (i := 118) rfl)) (mvT hZ (w_ hw (i := 119) rfl)) (by decide) (backOf (W := 2) (rm_vo l Z a0 hw [] na z0 T22.heap n0 O22 S_ZERO Q_z0 hna hPC) hZ (w_ hw (i := 119) rfl) (w_ hw (i := 118) rfl) (by decide) (by decide)) (g := (mkF m 98 #[(sR t), (sJ na), .second, (sJ db), .second, (sR r12), .unset] [(.long na), (.ref r22), (.ref t)])) rfl (by rw [hml]; rfl) (argsL := [(.long na)]) (rest := [(.ref r22), (.ref t)]) (lenOf pd_19 rfl) rfl (by show 2 * 0 + _ ≤ _; exact Nat.le_of_eq rfl) (hb hby d6_98) (fun _ _ => ⟨rfl, rfl, (by decide : 5 + 2 ≤ _), (by decide : 63 + 8 ≤ _)⟩)
  dsimp only [Pt.U, Pt.locs, Pt.cells, Pt.slots] at X33 l33 y33 z33 st33 hQ33
  subst y33 z33
  obtain ⟨r33, rfl, N33q, K33q, r33_0⟩ := hQ33
  have N33 : Fr n0 L33 := by rw [l33]; exact Fr.app N22 N33q
  have f34 := f23.keep K33q
  have f35 := f24.keep K33q nin0
  have f36 := f25.keep K33q nin0
  have f37 := f26.keep K33q nin0
  have f38 := f27.keep K33q nin0 apart0
  have f39 := f28.keep K33q nin0 apart0
  have f40 := f29.keep K33q
  have f41 := f30.keep K33q
  have f42 := f31.keep K33q nin0 apart0
  have f43 := f32.keep K33q
  have f44 := r22_0.keep K33q nin0 apart0
  have f45 := r22_0.exa.keep K33q
  have hk := Nat.le_trans hk K33q.1
  have CR := CR.trans (CHr.keep K33q sf0 CR.1)
  have K33 : Keep h0 T33.heap [t] := K22.trans K33q all0
  have O33 := O22.keep K33q all0
  refine stp st33 ?_
  show Go p e below T33 (mkF m 101 #[(sR t), (sJ na), .second, (sJ db), .second, (sR r12), .unset] [(.ref r33), (.ref r22), (.ref t)]) _
  refine stp (fun _ => XS.aloadN X33.here hx rfl (hb hby d6_101) rfl rfl) ?_
  obtain ⟨T46, X46, e46, st46⟩ := getF X33 hx hZ hown (host := "") (Or.inl (w_ hw (i := 139) rfl)) Via.refl rfl f37 (g := (mkF m 102 #[(sR t), (sJ na), .second, (sJ db), .second, (sR r12), .unset] [(.ref t), (.ref r33), (.ref r22), (.ref t)])) rfl rfl (hb hby d6_102)
  refine stp st46 ?_
  obtain ⟨cq47, kq47, q47a, q47b, q47c⟩ := isOf hZ e46 r33_0.exa
  obtain ⟨_, _, ⟨T47, L47, k47, n47⟩, -, X47, ⟨Lc47, hQ47, l47, y47, z47⟩, st47⟩ := X46.virtualBack hx (y := (⟨"java/math/BigInteger", "multiply", "(Ljava/math/BigInteger;)Ljava/math/BigInteger;"⟩ : MethodName)) (z := (⟨"java/math/BigInteger", "multiply", "(Ljava/math/BigInteger;)Ljava/math/BigInteger;"⟩ : MethodName)) hown (mvT hZ (w_ hw (i := 141) rfl)) (mvT hZ (w_ hw (i := 142) rfl)) (notFace_of_selects (args := #[]) (mvT hZ (w_ hw (i := 144) rfl))) (mvT hZ (w_ hw (i := 144) rfl)) (mvT hZ (w_ hw (i := 143) rfl)) (by decide) (backOf (W := 2) (rm_mul l Z a0 hw [] r33 r2 2 M2 z0 T33.heap n0 O33 r33_0 f39 S_ZERO Q_z0 (by omega)) hZ (w_ hw (i := 145) rfl) (w_ hw (i := 118) rfl) (by decide) (by decide)) q47a q47c (g := (mkF m 105 #[(sR t), (sJ na), .second, (sJ db), .second, (sR r12), .unset] [(.ref r2), (.ref r33), (.ref r22), (.ref t)])) rfl (by rw [hml]; rfl) (Steps.refl _) (argsL := [(.ref r2)]) (rest := [(.ref r22), (.ref t)]) (lenOf pd_20 rfl) rfl (by show 2 * 0 + _ ≤ _; exact Nat.le_of_eq rfl) (hb hby d6_105) (fun _ _ => ⟨rfl, e46, (by decide : 7 + 3 ≤ _), (by decide : 71 + 55 ≤ _)⟩)
  dsimp only [Pt.U, Pt.locs, Pt.cells, Pt.slots] at X47 l47 y47 z47 st47 hQ47
  subst y47 z47
  obtain ⟨r47, rfl, N47q, K47q, r47_0⟩ := hQ47
  have N47 : Fr n0 L47 := by rw [l47]; exact Fr.app N33 N47q
  have f48 := f34.keep K47q
  have f49 := f35.keep K47q nin0
  have f50 := f36.keep K47q nin0
  have f51 := f37.keep K47q nin0
  have f52 := f38.keep K47q nin0 apart0
  have f53 := f39.keep K47q nin0 apart0
  have f54 := f40.keep K47q
  have f55 := f41.keep K47q
  have f56 := f42.keep K47q nin0 apart0
  have f57 := f43.keep K47q
  have f58 := f44.keep K47q nin0 apart0
  have f59 := f45.keep K47q
  have f60 := r33_0.keep K47q nin0 apart0
  have f61 := r33_0.exa.keep K47q
  have hk := Nat.le_trans hk K47q.1
  have CR := CR.trans (CHr.keep K47q sf0 CR.1)
  have K47 : Keep h0 T47.heap [t] := K33.trans K47q all0
  have O47 := O33.keep K47q all0
  refine stt st47 ?_
  obtain ⟨cq62, kq62, q62a, q62b, q62c⟩ := isOf hZ rfl f59
  obtain ⟨_, _, ⟨T62, L62, k62, n62⟩, -, X62, ⟨Lc62, hQ62, l62, y62, z62⟩, st62⟩ := X47.virtualBack hx (y := (⟨"java/math/BigInteger", "add", "(Ljava/math/BigInteger;)Ljava/math/BigInteger;"⟩ : MethodName)) (z := (⟨"java/math/BigInteger", "add", "(Ljava/math/BigInteger;)Ljava/math/BigInteger;"⟩ : MethodName)) hown (mvT hZ (w_ hw (i := 166) rfl)) (mvT hZ (w_ hw (i := 167) rfl)) (notFace_of_selects (args := #[]) (mvT hZ (w_ hw (i := 169) rfl))) (mvT hZ (w_ hw (i := 169) rfl)) (mvT hZ (w_ hw (i := 168) rfl)) (by decide) (backOf (W := 1) (rm_add l Z a0 hw [] r22 r47 (M1 + 2 + 1) (2 + M2 + 1) M3 T47.heap n0 O47 f58 r47_0 (by omega) (by omega) (by omega)) hZ (w_ hw (i := 170) rfl) (w_ hw (i := 118) rfl) (by decide) (by decide)) q62a q62c (g := (mkF m 108 #[(sR t), (sJ na), .second, (sJ db), .second, (sR r12), .unset] [(.ref r47), (.ref r22), (.ref t)])) rfl (by rw [hml]; rfl) (Steps.refl _) (argsL := [(.ref r47)]) (rest := [(.ref t)]) (lenOf pd_20 rfl) rfl (by show 2 * 0 + _ ≤ _; exact Nat.le_of_eq rfl) (hb hby d6_108) (fun _ _ => ⟨rfl, rfl, (by decide : 10 + 3 ≤ _), (by decide : 126 + 55 ≤ _)⟩)
  dsimp only [Pt.U, Pt.locs, Pt.cells, Pt.slots] at X62 l62 y62 z62 st62 hQ62
  subst y62 z62
  obtain ⟨r62, rfl, N62q, K62q, r62_0⟩ := hQ62
  have N62 : Fr n0 L62 := by rw [l62]; exact Fr.app N47 N62q
  have f63 := f48.keep K62q
  have f64 := f49.keep K62q nin0
  have f65 := f50.keep K62q nin0
  have f66 := f51.keep K62q nin0
  have f67 := f52.keep K62q nin0 apart0
  have f68 := f53.keep K62q nin0 apart0
  have f69 := f54.keep K62q
  have f70 := f55.keep K62q
  have f71 := f56.keep K62q nin0 apart0
  have f72 := f57.keep K62q
  have f73 := f58.keep K62q nin0 apart0
  have f74 := f59.keep K62q
  have f75 := f60.keep K62q nin0 apart0
  have f76 := f61.keep K62q
  have f77 := r47_0.keep K62q nin0 apart0
  have f78 := r47_0.exa.keep K62q
  have hk := Nat.le_trans hk K62q.1
  have CR := CR.trans (CHr.keep K62q sf0 CR.1)
  have K62 : Keep h0 T62.heap [t] := K47.trans K62q all0
  have O62 := O47.keep K62q all0
  refine stt st62 ?_
  obtain ⟨T79, h79, X79, e79, W79, st79⟩ := putF X62 hx hZ hown (host := "") (Or.inl (w_ hw (i := 31) rfl)) Via.refl rfl f65 f63 (Or.inl (w_ hw (i := 32) rfl)) (w_ hw (i := 9) rfl) (ty := (.object "java/math/BigInteger")) (by decide) rfl rfl (g := (mkF m 111 #[(sR t), (sJ na), .second, (sJ db), .second, (sR r12), .unset] [(.ref r62), (.ref t)])) rfl rfl (hb hby d6_111)
  have Fw79 := f65.same W79
  have ne80 : r12 ≠ t := Exa.ne f72 f63 (by decide)
  have ne81 : r22 ≠ t := Exa.ne f74 f63 (by decide)
  have ne82 : r33 ≠ t := Exa.ne f76 f63 (by decide)
  have ne83 : r47 ≠ t := Exa.ne f78 f63 (by decide)
  have ne84 : r62 ≠ t := Exa.ne r62_0.exa f63 (by decide)
  have f85 := f63.wr W79
  have f86 := f64.other W79 (Or.inr (slot_ne (Or.inl (w_ hw (i := 25) rfl)) (Or.inl (w_ hw (i := 32) rfl)) (by decide) (t := .int) (t' := (.object "java/math/BigInteger")) (by decide) (by decide)))
  have f88 := f66.other W79 (Or.inr (slot_ne (Or.inl (w_ hw (i := 140) rfl)) (Or.inl (w_ hw (i := 32) rfl)) (by decide) (t := (.object "java/math/BigInteger")) (t' := (.object "java/math/BigInteger")) (by decide) (by decide)))
  have f89 := f67.wr W79 ne_r1_t (Apart.exa f63 (w_ hw (i := 9) rfl))
  have f90 := f68.wr W79 ne_r2_t (Apart.exa f63 (w_ hw (i := 9) rfl))
  have f91 := f69.wr W79
  have f92 := f70.wr W79
  have f93 := f71.wr W79 ne80 (Apart.exa f63 (w_ hw (i := 9) rfl))
  have f94 := f72.wr W79
  have f95 := f73.wr W79 ne81 (Apart.exa f63 (w_ hw (i := 9) rfl))
  have f96 := f74.wr W79
  have f97 := f75.wr W79 ne82 (Apart.exa f63 (w_ hw (i := 9) rfl))
  have f98 := f76.wr W79
  have f99 := f77.wr W79 ne83 (Apart.exa f63 (w_ hw (i := 9) rfl))
  have f100 := f78.wr W79
  have f101 := r62_0.wr W79 ne84 (Apart.exa f63 (w_ hw (i := 9) rfl))
  have f102 := r62_0.exa.wr W79
  have hk := Nat.le_trans hk (Keep.of_wr W79).1
  have CR := CR.trans (CHr.wr W79 (Safe.exa hZ.alike f63 (by decide) (by decide)) CR.1)
  have K79 : Keep h0 h79 [t] := K62.wr W79 (Or.inl (List.mem_of_getElem? (i := 0) rfl))
  have O79 := O62.wr W79 ge_t
  have N79 := Fr.snoc X79 N62 ge_t
  refine stp st79 ?_
  show Go p e below T79 (mkF m 114 #[(sR t), (sJ na), .second, (sJ db), .second, (sR r12), .unset] []) _
  refine stp (fun _ => XS.aloadN X79.here hx rfl (hb hby d6_114) rfl rfl) ?_
  refine stp (fun _ => XS.aloadN X79.here hx rfl (hb hby d6_115) rfl rfl) ?_
  obtain ⟨T103, X103, e103, st103⟩ := getF X79 hx hZ hown (host := "") (Or.inl (w_ hw (i := 139) rfl)) Via.refl e79 f88 (g := (mkF m 116 #[(sR t), (sJ na), .second, (sJ db), .second, (sR r12), .unset] [(.ref t), (.ref t)])) rfl rfl (hb hby d6_116)
  refine stp st103 ?_
  refine stp (fun _ => XS.aload X103.here hx rfl (hb hby d6_119) rfl rfl) ?_
  obtain ⟨cq104, kq104, q104a, q104b, q104c⟩ := isOf hZ e103 f92
  obtain ⟨_, _, ⟨T104, L104, k104, n104⟩, -, X104, ⟨Lc104, hQ104, l104, y104, z104⟩, st104⟩ := X103.virtualBack hx (y := (⟨"java/math/BigInteger", "multiply", "(Ljava/math/BigInteger;)Ljava/math/BigInteger;"⟩ : MethodName)) (z := (⟨"java/math/BigInteger", "multiply", "(Ljava/math/BigInteger;)Ljava/math/BigInteger;"⟩ : MethodName)) hown (mvT hZ (w_ hw (i := 141) rfl)) (mvT hZ (w_ hw (i := 142) rfl)) (notFace_of_selects (args := #[]) (mvT hZ (w_ hw (i := 144) rfl))) (mvT hZ (w_ hw (i := 144) rfl)) (mvT hZ (w_ hw (i := 143) rfl)) (by decide) (backOf (W := 1) (rm_mul l Z a0 hw [] r2 r12 M2 2 z0 h79 n0 O79 f90 f93 S_ZERO Q_z0 (by omega)) hZ (w_ hw (i := 145) rfl) (w_ hw (i := 118) rfl) (by decide) (by decide)) q104a q104c (g := (mkF m 121 #[(sR t), (sJ na), .second, (sJ db), .second, (sR r12), .unset] [(.ref r12), (.ref r2), (.ref t)])) rfl (by rw [hml]; rfl) (Steps.refl _) (argsL := [(.ref r12)]) (rest := [(.ref t)]) (lenOf pd_20 rfl) rfl (by show 2 * 0 + _ ≤ _; exact Nat.le_of_eq rfl) (hb hby d6_121) (fun _ _ => ⟨rfl, e103, (by decide : 13 + 3 ≤ _), (by decide : 181 + 55 ≤ _)⟩)
  dsimp only [Pt.U, Pt.locs, Pt.cells, Pt.slots] at X104 l104 y104 z104 st104 hQ104
  subst y104 z104
  obtain ⟨r104, rfl, N104q, K104q, r104_0⟩ := hQ104
  have N104 : Fr n0 L104 := by rw [l104]; exact Fr.app N79 N104q
  have f105 := f85.keep K104q
  have f106 := f86.keep K104q nin0
  have f107 := Fw79.keep K104q nin0
  have f108 := f88.keep K104q nin0
  have f109 := f89.keep K104q nin0 apart0
  have f110 := f90.keep K104q nin0 apart0
  have f111 := f91.keep K104q
  have f112 := f92.keep K104q
  have f113 := f93.keep K104q nin0 apart0
  have f114 := f94.keep K104q
  have f115 := f95.keep K104q nin0 apart0
  have f116 := f96.keep K104q
  have f117 := f97.keep K104q nin0 apart0
  have f118 := f98.keep K104q
  have f119 := f99.keep K104q nin0 apart0
  have f120 := f100.keep K104q
  have f121 := f101.keep K104q nin0 apart0
  have f122 := f102.keep K104q
  have hk := Nat.le_trans hk K104q.1
  have CR := CR.trans (CHr.keep K104q sf0 CR.1)
  have K104 : Keep h0 T104.heap [t] := K79.trans K104q all0
  have O104 := O79.keep K104q all0
  refine stt st104 ?_
  show Go p e below T104 (mkF m 124 #[(sR t), (sJ na), .second, (sJ db), .second, (sR r12), .unset] [(.ref r104), (.ref t)]) _
  obtain ⟨T123, h123, X123, e123, W123, st123⟩ := putF X104 hx hZ hown (host := "") (Or.inl (w_ hw (i := 139) rfl)) Via.refl rfl f108 f105 (Or.inl (w_ hw (i := 140) rfl)) (w_ hw (i := 9) rfl) (ty := (.object "java/math/BigInteger")) (by decide) rfl rfl (g := (mkF m 124 #[(sR t), (sJ na), .second, (sJ db), .second, (sR r12), .unset] [(.ref r104), (.ref t)])) rfl rfl (hb hby d6_124)
  have Fw123 := f108.same W123
  have ne124 : r104 ≠ t := Exa.ne r104_0.exa f105 (by decide)
  have f125 := f105.wr W123
  have f126 := f106.other W123 (Or.inr (slot_ne (Or.inl (w_ hw (i := 25) rfl)) (Or.inl (w_ hw (i := 140) rfl)) (by decide) (t := .int) (t' := (.object "java/math/BigInteger")) (by decide) (by decide)))
  have f127 := f107.other W123 (Or.inr (slot_ne (Or.inl (w_ hw (i := 32) rfl)) (Or.inl (w_ hw (i := 140) rfl)) (by decide) (t := (.object "java/math/BigInteger")) (t' := (.object "java/math/BigInteger")) (by decide) (by decide)))
  have f129 := f109.wr W123 ne_r1_t (Apart.exa f105 (w_ hw (i := 9) rfl))
  have f130 := f110.wr W123 ne_r2_t (Apart.exa f105 (w_ hw (i := 9) rfl))
  have f131 := f111.wr W123
  have f132 := f112.wr W123
  have f133 := f113.wr W123 ne80 (Apart.exa f105 (w_ hw (i := 9) rfl))
  have f134 := f114.wr W123
  have f135 := f115.wr W123 ne81 (Apart.exa f105 (w_ hw (i := 9) rfl))
  have f136 := f116.wr W123
  have f137 := f117.wr W123 ne82 (Apart.exa f105 (w_ hw (i := 9) rfl))
  have f138 := f118.wr W123
  have f139 := f119.wr W123 ne83 (Apart.exa f105 (w_ hw (i := 9) rfl))
  have f140 := f120.wr W123
  have f141 := f121.wr W123 ne84 (Apart.exa f105 (w_ hw (i := 9) rfl))
  have f142 := f122.wr W123
  have f143 := r104_0.wr W123 ne124 (Apart.exa f105 (w_ hw (i := 9) rfl))
  have f144 := r104_0.exa.wr W123
  have hk := Nat.le_trans hk (Keep.of_wr W123).1
  have CR := CR.trans (CHr.wr W123 (Safe.exa hZ.alike f105 (by decide) (by decide)) CR.1)
  have K123 : Keep h0 h123 [t] := K104.wr W123 (Or.inl (List.mem_of_getElem? (i := 0) rfl))
  have O123 := O104.wr W123 ge_t
  have N123 := Fr.snoc X123 N104 ge_t
  refine stp st123 ?_
  refine outVW X123 hx hZ hEL e123 hS hk CR hret (hb hby d6_127) hlk (by decide) (by decide) ?_
  rw [e123]
  exact ⟨r62, r104, rfl, N123, K123, f126, f127, Fw123, f141, f143⟩
theorem d6_57 : Dc B6 57 (.astore 5) 2 := by decide +kernel
theorem d6_59 : Dc B6 59 (.aload_n 0) 1 := by decide +kernel
theorem d6_60 : Dc B6 60 (.aload_n 0) 1 := by decide +kernel
theorem d6_61 : Dc B6 61 (.getfield 21) 3 := by decide +kernel
theorem d6_64 : Dc B6 64 (.invokestatic 35) 3 := by decide +kernel
theorem d6_67 : Dc B6 67 (.putfield 17) 3 := by decide +kernel
theorem d6_70 : Dc B6 70 (.aload_n 0) 1 := by decide +kernel
theorem d6_71 : Dc B6 71 (.aload_n 0) 1 := by decide +kernel
theorem d6_72 : Dc B6 72 (.getfield 7) 3 := by decide +kernel
theorem d6_75 : Dc B6 75 (.invokestatic 35) 3 := by decide +kernel
theorem d6_78 : Dc B6 78 (.putfield 41) 3 := by decide +kernel
theorem d6_17 : Dc B6 17 (.aload_n 0) 1 := by decide +kernel
theorem d6_18 : Dc B6 18 (.getfield 21) 3 := by decide +kernel
theorem d6_21 : Dc B6 21 (.lload_n 3) 1 := by decide +kernel
theorem d6_22 : Dc B6 22 (.invokestatic 24) 3 := by decide +kernel
theorem pd_21 : parseMethodDescriptor "(JJ)J" = some ⟨[.long, .long], some .long⟩ := by decide +kernel
theorem d6_25 : Dc B6 25 (.lload_n 1) 1 := by decide +kernel
theorem d6_26 : Dc B6 26 (.aload_n 0) 1 := by decide +kernel
theorem d6_27 : Dc B6 27 (.getfield 7) 3 := by decide +kernel
theorem d6_30 : Dc B6 30 (.invokestatic 24) 3 := by decide +kernel
theorem d6_33 : Dc B6 33 (.invokestatic 30) 3 := by decide +kernel
theorem d6_36 : Dc B6 36 (.lstore 5) 2 := by decide +kernel
theorem d6_38 : Dc B6 38 (.aload_n 0) 1 := by decide +kernel
theorem d6_39 : Dc B6 39 (.aload_n 0) 1 := by decide +kernel
theorem d6_40 : Dc B6 40 (.getfield 7) 3 := by decide +kernel
theorem d6_43 : Dc B6 43 (.lload_n 3) 1 := by decide +kernel
theorem d6_44 : Dc B6 44 (.invokestatic 24) 3 := by decide +kernel
theorem d6_47 : Dc B6 47 (.putfield 7) 3 := by decide +kernel
theorem d6_50 : Dc B6 50 (.aload_n 0) 1 := by decide +kernel
theorem d6_51 : Dc B6 51 (.lload 5) 2 := by decide +kernel
theorem d6_53 : Dc B6 53 (.putfield 21) 3 := by decide +kernel
theorem d6_56 : Dc B6 56 (.return_) 1 := by decide +kernel
theorem ef_rm_al (m : MethodId) (t : Addr) (na : Int64) (db : Int64)  : entryFrame m #[(.ref t), (.long na), (.long db)] 7 = mkF m 0 #[(sR t), (sJ na), .second, (sJ db), .second, .unset, .unset] [] := by first | (simp [entryFrame, mkF, argsToLocals, Value.category]; done) | rfl
def Q_rm_al (Z : State) (t : Addr) (na : Int64) (db : Int64) (cnt : Int32) (qn : Int64) (qd : Int64) (z0 : Addr) (u : Value) (sen : Value) (h0 : Heap) (n0 : Nat) (v : Option Value) (h : Heap) (L : List Loc) : Prop := ∃ (q3 : Int64) (q4 : Int64), v = none ∧ Fr n0 L ∧ Keep h0 h [t] ∧ Fld Z h t "com/example/brisk_dedup/briskdedup/engine/FractionMean" "count" "I" (.int (cnt + (1 : Int32))) ∧ Fld Z h t "com/example/brisk_dedup/briskdedup/engine/FractionMean" "numerator" "J" (.long q3) ∧ Fld Z h t "com/example/brisk_dedup/briskdedup/engine/FractionMean" "denominator" "J" (.long q4) ∧ Fld Z h t "com/example/brisk_dedup/briskdedup/engine/FractionMean" "bigNumerator" "Ljava/math/BigInteger;" .null ∧ Fld Z h t "com/example/brisk_dedup/briskdedup/engine/FractionMean" "bigDenominator" "Ljava/math/BigInteger;" .null ∧ (¬ q3 < (0 : Int64) ∧ ¬ q4 < (0 : Int64))
def Q_rm_al1 (Z : State) (t : Addr) (na : Int64) (db : Int64) (cnt : Int32) (qn : Int64) (qd : Int64) (z0 : Addr) (u : Value) (sen : Value) (h0 : Heap) (n0 : Nat) (v : Option Value) (h : Heap) (L : List Loc) : Prop := ∃ (s1 : Addr) (s2 : Addr), v = none ∧ Fr n0 L ∧ Keep h0 h [t] ∧ Fld Z h t "com/example/brisk_dedup/briskdedup/engine/FractionMean" "count" "I" (.int (cnt + (1 : Int32))) ∧ Fld Z h t "com/example/brisk_dedup/briskdedup/engine/FractionMean" "bigNumerator" "Ljava/math/BigInteger;" (.ref s1) ∧ Fld Z h t "com/example/brisk_dedup/briskdedup/engine/FractionMean" "bigDenominator" "Ljava/math/BigInteger;" (.ref s2) ∧ BigOk Z h s1 6 ∧ BigOk Z h s2 (2 + 2 + 1)
set_option maxRecDepth 65536 in
set_option maxHeartbeats 40000000 in
theorem rm_al (l : Launch) (Z : State) (a0 : Array Value) (hw : ∀ d ∈ tables_1, d.before a0 Z = true) (ws : List Jvm.Cond) (t : Addr) (na : Int64) (db : Int64) (cnt : Int32) (qn : Int64) (qd : Int64) (z0 : Addr) (u : Value) (sen : Value) (h0 : Heap) (n0 : Nat) (O0 : Old Z n0 h0) (hEL : EW Z a0 consts_1) (E_t : Exa Z h0 t "com/example/brisk_dedup/briskdedup/engine/FractionMean") (F_t_count : Fld Z h0 t "com/example/brisk_dedup/briskdedup/engine/FractionMean" "count" "I" (.int cnt)) (F_t_numerator : Fld Z h0 t "com/example/brisk_dedup/briskdedup/engine/FractionMean" "numerator" "J" (.long qn)) (F_t_denominator : Fld Z h0 t "com/example/brisk_dedup/briskdedup/engine/FractionMean" "denominator" "J" (.long qd)) (F_t_bigNumerator : Fld Z h0 t "com/example/brisk_dedup/briskdedup/engine/FractionMean" "bigNumerator" "Ljava/math/BigInteger;" .null) (F_t_bigDenominator : Fld Z h0 t "com/example/brisk_dedup/briskdedup/engine/FractionMean" "bigDenominator" "Ljava/math/BigInteger;" .null) (S_ZERO : Sta Z Z.heap "java/math/BigInteger" "ZERO" "Ljava/math/BigInteger;" (.ref z0)) (Q_z0 : BigOk Z Z.heap z0 0) (S_UNASSIGNED_STACK : Sta Z Z.heap "java/lang/Throwable" "UNASSIGNED_STACK" "[Ljava/lang/StackTraceElement;" u) (S_SUPPRESSED_SENTINEL : Sta Z Z.heap "java/lang/Throwable" "SUPPRESSED_SENTINEL" "Ljava/util/List;" sen) (ge_t : n0 ≤ t) (hqn : ¬ qn < (0 : Int64)) (hqd : ¬ qd < (0 : Int64)) (hna : ¬ na < (0 : Int64)) (hdb : ¬ db < (0 : Int64)) (hPC : PosOk Z) (hl : l.stackTraces = true) (hu : u.isRef = true) (hsen : sen.isRef = true) :
    MetFree l (⟨"com/example/brisk_dedup/briskdedup/engine/FractionMean", "add", "(JJ)V"⟩ : MethodName) (head1 (Jvm.Cond.codeWith (⟨"com/example/brisk_dedup/briskdedup/engine/FractionMean", "add", "(JJ)V"⟩ : MethodName) prog_36_method_2_code 7 none [((17 : Nat), (56 : Nat), (57 : Nat), (33 : Nat))] :: ws) ({ frames := 8, cells := 24, slots := 3066, locals := 118 } : Room)) (fun args_ U => args_ = #[(.ref t), (.long na), (.long db)] ∧ Z.Warmed39 U.vm ∧ U.heap = h0 ∧ CHv Z consts_1 U.vm h0) Knows (fun _ s out_ U' => (PoWW s Z consts_1 (Q_rm_al Z t na db cnt qn qd z0 u sen h0 n0) 0 0 (Q_rm_al1 Z t na db cnt qn qd z0 u sen h0 n0) 24 3066) out_ U') := by
  refine startH (P := fun s => (PoWW s Z consts_1 (Q_rm_al Z t na db cnt qn qd z0 u sen h0 n0) 0 0 (Q_rm_al1 Z t na db cnt qn qd z0 u sen h0 n0) 24 3066)) pn_31 ?_
  intro p e s m below meth c T0 X0 hx hby hml hown hnm hret hlk hZ e0 hS CR hKn
  obtain ⟨hs0, hnh, hKn⟩ := hKn
  have CR0 := CR
  have hk : 0 ≤ h0.size := Nat.zero_le _
  have wS : ∀ a ∈ Bundle.stringAtoms, a.before a0 Z = true := own_wS hw
  replace hown : s.vm.findClass "com/example/brisk_dedup/briskdedup/engine/FractionMean" = some m.cls := hown
  replace hml : c.maxLocals = 7 := hml
  refine goAt (ef_rm_al m t na db ) ?_
  have N0 := Fr.nil n0
  refine stp (fun _ => XS.aloadN X0.here hx rfl (hb hby d6_0) rfl rfl) ?_
  refine stp (fun _ => XS.dup X0.here hx rfl (hb hby d6_1) rfl rfl) ?_
  obtain ⟨T1, X1, e1, st1⟩ := getF X0 hx hZ hown (host := "") (Or.inl (w_ hw (i := 24) rfl)) Via.refl e0 F_t_count (g := (mkF m 2 #[(sR t), (sJ na), .second, (sJ db), .second, .unset, .unset] [(.ref t), (.ref t)])) rfl rfl (hb hby d6_2)
  refine stp st1 ?_
  refine stp (fun _ => XS.iconst X1.here hx rfl (hb hby d6_5)) ?_
  show Go p e below T1 (mkF m 6 #[(sR t), (sJ na), .second, (sJ db), .second, .unset, .unset] [(.int (1 : Int32)), (.int cnt), (.ref t)]) _
  refine stp (fun _ => XS.iadd X1.here hx rfl (hb hby d6_6) rfl) ?_
  obtain ⟨T2, h2, X2, e2, W2, st2⟩ := putF X1 hx hZ hown (host := "") (Or.inl (w_ hw (i := 24) rfl)) Via.refl e1 F_t_count E_t (Or.inl (w_ hw (i := 25) rfl)) (w_ hw (i := 9) rfl) (ty := .int) (by decide) rfl rfl (g := (mkF m 7 #[(sR t), (sJ na), .second, (sJ db), .second, .unset, .unset] [(.int (cnt + (1 : Int32))), (.ref t)])) rfl rfl (hb hby d6_7)
  have Fw2 := F_t_count.same W2
  have f3 := E_t.wr W2
  have f5 := F_t_numerator.other W2 (Or.inr (slot_ne (Or.inl (w_ hw (i := 34) rfl)) (Or.inl (w_ hw (i := 25) rfl)) (by decide) (t := .long) (t' := .int) (by decide) (by decide)))
  have f6 := F_t_denominator.other W2 (Or.inr (slot_ne (Or.inl (w_ hw (i := 18) rfl)) (Or.inl (w_ hw (i := 25) rfl)) (by decide) (t := .long) (t' := .int) (by decide) (by decide)))
  have f7 := F_t_bigNumerator.other W2 (Or.inr (slot_ne (Or.inl (w_ hw (i := 32) rfl)) (Or.inl (w_ hw (i := 25) rfl)) (by decide) (t := (.object "java/math/BigInteger")) (t' := .int) (by decide) (by decide)))
  have f8 := F_t_bigDenominator.other W2 (Or.inr (slot_ne (Or.inl (w_ hw (i := 140) rfl)) (Or.inl (w_ hw (i := 25) rfl)) (by decide) (t := (.object "java/math/BigInteger")) (t' := .int) (by decide) (by decide)))
  have hk := Nat.le_trans hk (Keep.of_wr W2).1
  have CR := CR.trans (CHr.wr W2 (Safe.exa hZ.alike E_t (by decide) (by decide)) CR.1)
  have K2 : Keep h0 h2 [t] := (Keep.refl h0 [t]).wr W2 (Or.inl (List.mem_of_getElem? (i := 0) rfl))
  have O2 := O0.wr W2 ge_t
  have N2 := Fr.snoc X2 N0 ge_t
  refine stp st2 ?_
  refine stp (fun _ => XS.aloadN X2.here hx rfl (hb hby d6_10) rfl rfl) ?_
  obtain ⟨T9, X9, e9, st9⟩ := getF X2 hx hZ hown (host := "") (Or.inl (w_ hw (i := 31) rfl)) Via.refl e2 f7 (g := (mkF m 11 #[(sR t), (sJ na), .second, (sJ db), .second, .unset, .unset] [(.ref t)])) rfl rfl (hb hby d6_11)
  refine stp st9 ?_
  refine stp (fun _ => XS.ifnonnullNo X9.here hx rfl (hb hby d6_14) rfl) ?_
  show Go p e below T9 (mkF m 17 #[(sR t), (sJ na), .second, (sJ db), .second, .unset, .unset] []) _
  have J57 : ∀ (xe : Addr) (s5 s6 : Slot) (vm0 : Vm) (k0 : Nat) (T : State) (locs : List Loc) (hA : Heap) (X : Stand p l e ({ frames := 8, cells := 24, slots := 3066, locals := 118 } : Room) (s.setVm vm0) m #[(.ref t), (.long na), (.long db)] below meth c T locs 4 2814) (hS : s.Since vm0 k0) (hk : k0 ≤ hA.size) (hZ : Z.Warmed39 (s.setVm vm0).vm) (hown : (s.setVm vm0).vm.findClass "com/example/brisk_dedup/briskdedup/engine/FractionMean" = some m.cls) (eA : T.heap = hA) (NA : Fr n0 locs) (OA : Old Z n0 hA) (KA : Keep h0 hA [t]) (CR : CHr Z consts_1 s.vm s.heap vm0 hA) (FA0 : Exa Z hA t "com/example/brisk_dedup/briskdedup/engine/FractionMean") (FA1 : Fld Z hA t "com/example/brisk_dedup/briskdedup/engine/FractionMean" "count" "I" (.int (cnt + (1 : Int32)))) (FA2 : Fld Z hA t "com/example/brisk_dedup/briskdedup/engine/FractionMean" "numerator" "J" (.long qn)) (FA3 : Fld Z hA t "com/example/brisk_dedup/briskdedup/engine/FractionMean" "denominator" "J" (.long qd)) (FA4 : Fld Z hA t "com/example/brisk_dedup/briskdedup/engine/FractionMean" "bigNumerator" "Ljava/math/BigInteger;" .null) (FA5 : Fld Z hA t "com/example/brisk_dedup/briskdedup/engine/FractionMean" "bigDenominator" "Ljava/math/BigInteger;" .null) (hs5 : (s5 = .unset ∧ s6 = .unset) ∨ ∃ v, s5 = .val (.long v) ∧ s6 = .second), Go p e below T (mkF m 57 #[(sR t), (sJ na), .second, (sJ db), .second, s5, s6] [(.ref xe)]) (PoWW s Z consts_1 (Q_rm_al Z t na db cnt qn qd z0 u sen h0 n0) 0 0 (Q_rm_al1 Z t na db cnt qn qd z0 u sen h0 n0) 24 3066) := by
    intro xe s5 s6 vm0 k0 T locs hA X hS hk hZ hown eA NA OA KA CR FA0 FA1 FA2 FA3 FA4 FA5 hs5
    refine stp (fun _ => XS.astore X.here hx rfl (hb hby d6_57) rfl rfl (l' := #[(sR t), (sJ na), .second, (sJ db), .second, (sR xe), .unset]) (by rcases hs5 with ⟨e1, e2⟩ | ⟨v, e1, e2⟩ <;> subst e1 e2 <;> rfl)) ?_
    refine stp (fun _ => XS.aloadN X.here hx rfl (hb hby d6_59) rfl rfl) ?_
    refine stp (fun _ => XS.aloadN X.here hx rfl (hb hby d6_60) rfl rfl) ?_
    obtain ⟨T10, X10, e10, st10⟩ := getF X hx hZ hown (host := "") (Or.inl (w_ hw (i := 33) rfl)) Via.refl eA FA2 (g := (mkF m 61 #[(sR t), (sJ na), .second, (sJ db), .second, (sR xe), .unset] [(.ref t), (.ref t)])) rfl rfl (hb hby d6_61)
    refine stp st10 ?_
    show Go p e below T10 (mkF m 64 #[(sR t), (sJ na), .second, (sJ db), .second, (sR xe), .unset] [(.long qn), (.ref t)]) _
    obtain ⟨_, _, ⟨T11, L11, k11, n11⟩, -, X11, ⟨Lc11, hQ11, l11, y11, z11⟩, st11⟩ := Jvm.LawKit.callS X10 hx (y := (⟨"java/math/BigInteger", "valueOf", "(J)Ljava/math/BigInteger;"⟩ : MethodName)) hown (mvT hZ (w_ hw (i := 116) rfl)) (mvT hZ (w_ hw (i := 117) rfl)) (mvT hZ (w_ hw (i := 118) rfl)) (mvT hZ (w_ hw (i := 119) rfl)) (by decide) (backOf (W := 1) (rm_vo l Z a0 hw [] qn z0 hA n0 OA S_ZERO Q_z0 hqn hPC) hZ (w_ hw (i := 119) rfl) (w_ hw (i := 118) rfl) (by decide) (by decide)) (g := (mkF m 64 #[(sR t), (sJ na), .second, (sJ db), .second, (sR xe), .unset] [(.long qn), (.ref t)])) rfl (by rw [hml]; rfl) (argsL := [(.long qn)]) (rest := [(.ref t)]) (lenOf pd_19 rfl) rfl (by show 2 * 0 + _ ≤ _; exact Nat.le_of_eq rfl) (hb hby d6_64) (fun _ _ => ⟨rfl, e10, (by decide : 4 + 2 ≤ _), (by decide : 2814 + 8 ≤ _)⟩)
    dsimp only [Pt.U, Pt.locs, Pt.cells, Pt.slots] at X11 l11 y11 z11 st11 hQ11
    subst y11 z11
    obtain ⟨r11, rfl, N11q, K11q, r11_0⟩ := hQ11
    have N11 : Fr n0 L11 := by rw [l11]; exact Fr.app NA N11q
    have f12 := FA0.keep K11q
    have f13 := FA1.keep K11q nin0
    have f14 := FA2.keep K11q nin0
    have f15 := FA3.keep K11q nin0
    have f16 := FA4.keep K11q nin0
    have f17 := FA5.keep K11q nin0
    have hk := Nat.le_trans hk K11q.1
    have CR := CR.trans (CHr.keep K11q sf0 CR.1)
    have K11 : Keep h0 T11.heap [t] := KA.trans K11q all0
    have O11 := OA.keep K11q all0
    refine stp st11 ?_
    obtain ⟨T18, h18, X18, e18, W18, st18⟩ := putF X11 hx hZ hown (host := "") (Or.inl (w_ hw (i := 31) rfl)) Via.refl rfl f16 f12 (Or.inl (w_ hw (i := 32) rfl)) (w_ hw (i := 9) rfl) (ty := (.object "java/math/BigInteger")) (by decide) rfl rfl (g := (mkF m 67 #[(sR t), (sJ na), .second, (sJ db), .second, (sR xe), .unset] [(.ref r11), (.ref t)])) rfl rfl (hb hby d6_67)
    have Fw18 := f16.same W18
    have ne19 : r11 ≠ t := Exa.ne r11_0.exa f12 (by decide)
    have f20 := f12.wr W18
    have f21 := f13.other W18 (Or.inr (slot_ne (Or.inl (w_ hw (i := 25) rfl)) (Or.inl (w_ hw (i := 32) rfl)) (by decide) (t := .int) (t' := (.object "java/math/BigInteger")) (by decide) (by decide)))
    have f22 := f14.other W18 (Or.inr (slot_ne (Or.inl (w_ hw (i := 34) rfl)) (Or.inl (w_ hw (i := 32) rfl)) (by decide) (t := .long) (t' := (.object "java/math/BigInteger")) (by decide) (by decide)))
    have f23 := f15.other W18 (Or.inr (slot_ne (Or.inl (w_ hw (i := 18) rfl)) (Or.inl (w_ hw (i := 32) rfl)) (by decide) (t := .long) (t' := (.object "java/math/BigInteger")) (by decide) (by decide)))
    have f25 := f17.other W18 (Or.inr (slot_ne (Or.inl (w_ hw (i := 140) rfl)) (Or.inl (w_ hw (i := 32) rfl)) (by decide) (t := (.object "java/math/BigInteger")) (t' := (.object "java/math/BigInteger")) (by decide) (by decide)))
    have f26 := r11_0.wr W18 ne19 (Apart.exa f12 (w_ hw (i := 9) rfl))
    have f27 := r11_0.exa.wr W18
    have hk := Nat.le_trans hk (Keep.of_wr W18).1
    have CR := CR.trans (CHr.wr W18 (Safe.exa hZ.alike f12 (by decide) (by decide)) CR.1)
    have K18 : Keep h0 h18 [t] := K11.wr W18 (Or.inl (List.mem_of_getElem? (i := 0) rfl))
    have O18 := O11.wr W18 ge_t
    have N18 := Fr.snoc X18 N11 ge_t
    refine stp st18 ?_
    refine stp (fun _ => XS.aloadN X18.here hx rfl (hb hby d6_70) rfl rfl) ?_
    refine stp (fun _ => XS.aloadN X18.here hx rfl (hb hby d6_71) rfl rfl) ?_
    obtain ⟨T28, X28, e28, st28⟩ := getF X18 hx hZ hown (host := "") (Or.inl (w_ hw (i := 17) rfl)) Via.refl e18 f23 (g := (mkF m 72 #[(sR t), (sJ na), .second, (sJ db), .second, (sR xe), .unset] [(.ref t), (.ref t)])) rfl rfl (hb hby d6_72)
    refine stp st28 ?_
    show Go p e below T28 (mkF m 75 #[(sR t), (sJ na), .second, (sJ db), .second, (sR xe), .unset] [(.long qd), (.ref t)]) _
    obtain ⟨_, _, ⟨T29, L29, k29, n29⟩, -, X29, ⟨Lc29, hQ29, l29, y29, z29⟩, st29⟩ := Jvm.LawKit.callS X28 hx (y := (⟨"java/math/BigInteger", "valueOf", "(J)Ljava/math/BigInteger;"⟩ : MethodName)) hown (mvT hZ (w_ hw (i := 116) rfl)) (mvT hZ (w_ hw (i := 117) rfl)) (mvT hZ (w_ hw (i := 118) rfl)) (mvT hZ (w_ hw (i := 119) rfl)) (by decide) (backOf (W := 1) (rm_vo l Z a0 hw [] qd z0 h18 n0 O18 S_ZERO Q_z0 hqd hPC) hZ (w_ hw (i := 119) rfl) (w_ hw (i := 118) rfl) (by decide) (by decide)) (g := (mkF m 75 #[(sR t), (sJ na), .second, (sJ db), .second, (sR xe), .unset] [(.long qd), (.ref t)])) rfl (by rw [hml]; rfl) (argsL := [(.long qd)]) (rest := [(.ref t)]) (lenOf pd_19 rfl) rfl (by show 2 * 0 + _ ≤ _; exact Nat.le_of_eq rfl) (hb hby d6_75) (fun _ _ => ⟨rfl, e28, (by decide : 6 + 2 ≤ _), (by decide : 2822 + 8 ≤ _)⟩)
    dsimp only [Pt.U, Pt.locs, Pt.cells, Pt.slots] at X29 l29 y29 z29 st29 hQ29
    subst y29 z29
    obtain ⟨r29, rfl, N29q, K29q, r29_0⟩ := hQ29
    have N29 : Fr n0 L29 := by rw [l29]; exact Fr.app N18 N29q
    have f30 := f20.keep K29q
    have f31 := f21.keep K29q nin0
    have f32 := f22.keep K29q nin0
    have f33 := f23.keep K29q nin0
    have f34 := Fw18.keep K29q nin0
    have f35 := f25.keep K29q nin0
    have f36 := f26.keep K29q nin0 apart0
    have f37 := f27.keep K29q
    have hk := Nat.le_trans hk K29q.1
    have CR := CR.trans (CHr.keep K29q sf0 CR.1)
    have K29 : Keep h0 T29.heap [t] := K18.trans K29q all0
    have O29 := O18.keep K29q all0
    refine stp st29 ?_
    obtain ⟨T38, h38, X38, e38, W38, st38⟩ := putF X29 hx hZ hown (host := "") (Or.inl (w_ hw (i := 139) rfl)) Via.refl rfl f35 f30 (Or.inl (w_ hw (i := 140) rfl)) (w_ hw (i := 9) rfl) (ty := (.object "java/math/BigInteger")) (by decide) rfl rfl (g := (mkF m 78 #[(sR t), (sJ na), .second, (sJ db), .second, (sR xe), .unset] [(.ref r29), (.ref t)])) rfl rfl (hb hby d6_78)
    have Fw38 := f35.same W38
    have ne39 : r29 ≠ t := Exa.ne r29_0.exa f30 (by decide)
    have f40 := f30.wr W38
    have f41 := f31.other W38 (Or.inr (slot_ne (Or.inl (w_ hw (i := 25) rfl)) (Or.inl (w_ hw (i := 140) rfl)) (by decide) (t := .int) (t' := (.object "java/math/BigInteger")) (by decide) (by decide)))
    have f42 := f32.other W38 (Or.inr (slot_ne (Or.inl (w_ hw (i := 34) rfl)) (Or.inl (w_ hw (i := 140) rfl)) (by decide) (t := .long) (t' := (.object "java/math/BigInteger")) (by decide) (by decide)))
    have f43 := f33.other W38 (Or.inr (slot_ne (Or.inl (w_ hw (i := 18) rfl)) (Or.inl (w_ hw (i := 140) rfl)) (by decide) (t := .long) (t' := (.object "java/math/BigInteger")) (by decide) (by decide)))
    have f44 := f34.other W38 (Or.inr (slot_ne (Or.inl (w_ hw (i := 32) rfl)) (Or.inl (w_ hw (i := 140) rfl)) (by decide) (t := (.object "java/math/BigInteger")) (t' := (.object "java/math/BigInteger")) (by decide) (by decide)))
    have f46 := f36.wr W38 ne19 (Apart.exa f30 (w_ hw (i := 9) rfl))
    have f47 := f37.wr W38
    have f48 := r29_0.wr W38 ne39 (Apart.exa f30 (w_ hw (i := 9) rfl))
    have f49 := r29_0.exa.wr W38
    have hk := Nat.le_trans hk (Keep.of_wr W38).1
    have CR := CR.trans (CHr.wr W38 (Safe.exa hZ.alike f30 (by decide) (by decide)) CR.1)
    have K38 : Keep h0 h38 [t] := K29.wr W38 (Or.inl (List.mem_of_getElem? (i := 0) rfl))
    have O38 := O29.wr W38 ge_t
    have N38 := Fr.snoc X38 N29 ge_t
    refine stp st38 ?_
    refine stp (fun _ => XS.lloadN X38.here hx rfl (hb hby d6_81) rfl) ?_
    obtain ⟨_, _, ⟨T50, L50, k50, n50⟩, -, X50, ⟨Lc50, hQ50, l50, y50, z50⟩, st50⟩ := Jvm.LawKit.callS X38 hx (y := (⟨"java/math/BigInteger", "valueOf", "(J)Ljava/math/BigInteger;"⟩ : MethodName)) hown (mvT hZ (w_ hw (i := 116) rfl)) (mvT hZ (w_ hw (i := 117) rfl)) (mvT hZ (w_ hw (i := 118) rfl)) (mvT hZ (w_ hw (i := 119) rfl)) (by decide) (backOf (W := 0) (rm_vo l Z a0 hw [] db z0 h38 n0 O38 S_ZERO Q_z0 hdb hPC) hZ (w_ hw (i := 119) rfl) (w_ hw (i := 118) rfl) (by decide) (by decide)) (g := (mkF m 82 #[(sR t), (sJ na), .second, (sJ db), .second, (sR xe), .unset] [(.long db)])) rfl (by rw [hml]; rfl) (argsL := [(.long db)]) (rest := []) (lenOf pd_19 rfl) rfl (by show 2 * 0 + _ ≤ _; exact Nat.le_of_eq rfl) (hb hby d6_82) (fun _ _ => ⟨rfl, e38, (by decide : 8 + 2 ≤ _), (by decide : 2830 + 8 ≤ _)⟩)
    dsimp only [Pt.U, Pt.locs, Pt.cells, Pt.slots] at X50 l50 y50 z50 st50 hQ50
    subst y50 z50
    obtain ⟨r50, rfl, N50q, K50q, r50_0⟩ := hQ50
    have N50 : Fr n0 L50 := by rw [l50]; exact Fr.app N38 N50q
    have f51 := f40.keep K50q
    have f52 := f41.keep K50q nin0
    have f53 := f42.keep K50q nin0
    have f54 := f43.keep K50q nin0
    have f55 := f44.keep K50q nin0
    have f56 := Fw38.keep K50q nin0
    have f57 := f46.keep K50q nin0 apart0
    have f58 := f47.keep K50q
    have f59 := f48.keep K50q nin0 apart0
    have f60 := f49.keep K50q
    have hk := Nat.le_trans hk K50q.1
    have CR := CR.trans (CHr.keep K50q sf0 CR.1)
    have K50 : Keep h0 T50.heap [t] := K38.trans K50q all0
    have O50 := O38.keep K50q all0
    refine stp st50 ?_
    refine stp (fun _ => XS.astore X50.here hx rfl (hb hby d6_85) rfl rfl (l' := #[(sR t), (sJ na), .second, (sJ db), .second, (sR r50), .unset]) rfl) ?_
    show Go p e below T50 (mkF m 87 #[(sR t), (sJ na), .second, (sJ db), .second, (sR r50), .unset] []) _
    refine stp (fun _ => XS.aloadN X50.here hx rfl (hb hby d6_87) rfl rfl) ?_
    refine stp (fun _ => XS.aloadN X50.here hx rfl (hb hby d6_88) rfl rfl) ?_
    obtain ⟨T61, X61, e61, st61⟩ := getF X50 hx hZ hown (host := "") (Or.inl (w_ hw (i := 31) rfl)) Via.refl rfl f55 (g := (mkF m 89 #[(sR t), (sJ na), .second, (sJ db), .second, (sR r50), .unset] [(.ref t), (.ref t)])) rfl rfl (hb hby d6_89)
    refine stp st61 ?_
    refine stp (fun _ => XS.aload X61.here hx rfl (hb hby d6_92) rfl rfl) ?_
    obtain ⟨cq62, kq62, q62a, q62b, q62c⟩ := isOf hZ e61 f58
    obtain ⟨_, _, ⟨T62, L62, k62, n62⟩, -, X62, ⟨Lc62, hQ62, l62, y62, z62⟩, st62⟩ := X61.virtualBack hx (y := (⟨"java/math/BigInteger", "multiply", "(Ljava/math/BigInteger;)Ljava/math/BigInteger;"⟩ : MethodName)) (z := (⟨"java/math/BigInteger", "multiply", "(Ljava/math/BigInteger;)Ljava/math/BigInteger;"⟩ : MethodName)) hown (mvT hZ (w_ hw (i := 141) rfl)) (mvT hZ (w_ hw (i := 142) rfl)) (notFace_of_selects (args := #[]) (mvT hZ (w_ hw (i := 144) rfl))) (mvT hZ (w_ hw (i := 144) rfl)) (mvT hZ (w_ hw (i := 143) rfl)) (by decide) (backOf (W := 1) (rm_mul l Z a0 hw [] r11 r50 2 2 z0 T50.heap n0 O50 f57 r50_0 S_ZERO Q_z0 (by decide)) hZ (w_ hw (i := 145) rfl) (w_ hw (i := 118) rfl) (by decide) (by decide)) q62a q62c (g := (mkF m 94 #[(sR t), (sJ na), .second, (sJ db), .second, (sR r50), .unset] [(.ref r50), (.ref r11), (.ref t)])) rfl (by rw [hml]; rfl) (Steps.refl _) (argsL := [(.ref r50)]) (rest := [(.ref t)]) (lenOf pd_20 rfl) rfl (by show 2 * 0 + _ ≤ _; exact Nat.le_of_eq rfl) (hb hby d6_94) (fun _ _ => ⟨rfl, e61, (by decide : 10 + 3 ≤ _), (by decide : 2838 + 55 ≤ _)⟩)
    dsimp only [Pt.U, Pt.locs, Pt.cells, Pt.slots] at X62 l62 y62 z62 st62 hQ62
    subst y62 z62
    obtain ⟨r62, rfl, N62q, K62q, r62_0⟩ := hQ62
    have N62 : Fr n0 L62 := by rw [l62]; exact Fr.app N50 N62q
    have f63 := f51.keep K62q
    have f64 := f52.keep K62q nin0
    have f65 := f53.keep K62q nin0
    have f66 := f54.keep K62q nin0
    have f67 := f55.keep K62q nin0
    have f68 := f56.keep K62q nin0
    have f69 := f57.keep K62q nin0 apart0
    have f70 := f58.keep K62q
    have f71 := f59.keep K62q nin0 apart0
    have f72 := f60.keep K62q
    have f73 := r50_0.keep K62q nin0 apart0
    have f74 := r50_0.exa.keep K62q
    have hk := Nat.le_trans hk K62q.1
    have CR := CR.trans (CHr.keep K62q sf0 CR.1)
    have K62 : Keep h0 T62.heap [t] := K50.trans K62q all0
    have O62 := O50.keep K62q all0
    refine stt st62 ?_
    show Go p e below T62 (mkF m 97 #[(sR t), (sJ na), .second, (sJ db), .second, (sR r50), .unset] [(.ref r62), (.ref t)]) _
    refine stp (fun _ => XS.lloadN X62.here hx rfl (hb hby d6_97) rfl) ?_
    obtain ⟨_, _, ⟨T75, L75, k75, n75⟩, -, X75, ⟨Lc75, hQ75, l75, y75, z75⟩, st75⟩ := Jvm.LawKit.callS X62 hx (y := (⟨"java/math/BigInteger", "valueOf", "(J)Ljava/math/BigInteger;"⟩ : MethodName)) hown (mvT hZ (w_ hw (i := 116) rfl)) (mvT hZ (w_ hw (i := 117) rfl)) (mvT hZ (w_ hw (i := 118) rfl)) (mvT hZ (w_ hw (i := 119) rfl)) (by decide) (backOf (W := 2) (rm_vo l Z a0 hw [] na z0 T62.heap n0 O62 S_ZERO Q_z0 hna hPC) hZ (w_ hw (i := 119) rfl) (w_ hw (i := 118) rfl) (by decide) (by decide)) (g := (mkF m 98 #[(sR t), (sJ na), .second, (sJ db), .second, (sR r50), .unset] [(.long na), (.ref r62), (.ref t)])) rfl (by rw [hml]; rfl) (argsL := [(.long na)]) (rest := [(.ref r62), (.ref t)]) (lenOf pd_19 rfl) rfl (by show 2 * 0 + _ ≤ _; exact Nat.le_of_eq rfl) (hb hby d6_98) (fun _ _ => ⟨rfl, rfl, (by decide : 13 + 2 ≤ _), (by decide : 2893 + 8 ≤ _)⟩)
    dsimp only [Pt.U, Pt.locs, Pt.cells, Pt.slots] at X75 l75 y75 z75 st75 hQ75
    subst y75 z75
    obtain ⟨r75, rfl, N75q, K75q, r75_0⟩ := hQ75
    have N75 : Fr n0 L75 := by rw [l75]; exact Fr.app N62 N75q
    have f76 := f63.keep K75q
    have f77 := f64.keep K75q nin0
    have f78 := f65.keep K75q nin0
    have f79 := f66.keep K75q nin0
    have f80 := f67.keep K75q nin0
    have f81 := f68.keep K75q nin0
    have f82 := f69.keep K75q nin0 apart0
    have f83 := f70.keep K75q
    have f84 := f71.keep K75q nin0 apart0
    have f85 := f72.keep K75q
    have f86 := f73.keep K75q nin0 apart0
    have f87 := f74.keep K75q
    have f88 := r62_0.keep K75q nin0 apart0
    have f89 := r62_0.exa.keep K75q
    have hk := Nat.le_trans hk K75q.1
    have CR := CR.trans (CHr.keep K75q sf0 CR.1)
    have K75 : Keep h0 T75.heap [t] := K62.trans K75q all0
    have O75 := O62.keep K75q all0
    refine stp st75 ?_
    refine stp (fun _ => XS.aloadN X75.here hx rfl (hb hby d6_101) rfl rfl) ?_
    obtain ⟨T90, X90, e90, st90⟩ := getF X75 hx hZ hown (host := "") (Or.inl (w_ hw (i := 139) rfl)) Via.refl rfl f81 (g := (mkF m 102 #[(sR t), (sJ na), .second, (sJ db), .second, (sR r50), .unset] [(.ref t), (.ref r75), (.ref r62), (.ref t)])) rfl rfl (hb hby d6_102)
    refine stp st90 ?_
    obtain ⟨cq91, kq91, q91a, q91b, q91c⟩ := isOf hZ e90 r75_0.exa
    obtain ⟨_, _, ⟨T91, L91, k91, n91⟩, -, X91, ⟨Lc91, hQ91, l91, y91, z91⟩, st91⟩ := X90.virtualBack hx (y := (⟨"java/math/BigInteger", "multiply", "(Ljava/math/BigInteger;)Ljava/math/BigInteger;"⟩ : MethodName)) (z := (⟨"java/math/BigInteger", "multiply", "(Ljava/math/BigInteger;)Ljava/math/BigInteger;"⟩ : MethodName)) hown (mvT hZ (w_ hw (i := 141) rfl)) (mvT hZ (w_ hw (i := 142) rfl)) (notFace_of_selects (args := #[]) (mvT hZ (w_ hw (i := 144) rfl))) (mvT hZ (w_ hw (i := 144) rfl)) (mvT hZ (w_ hw (i := 143) rfl)) (by decide) (backOf (W := 2) (rm_mul l Z a0 hw [] r75 r29 2 2 z0 T75.heap n0 O75 r75_0 f84 S_ZERO Q_z0 (by decide)) hZ (w_ hw (i := 145) rfl) (w_ hw (i := 118) rfl) (by decide) (by decide)) q91a q91c (g := (mkF m 105 #[(sR t), (sJ na), .second, (sJ db), .second, (sR r50), .unset] [(.ref r29), (.ref r75), (.ref r62), (.ref t)])) rfl (by rw [hml]; rfl) (Steps.refl _) (argsL := [(.ref r29)]) (rest := [(.ref r62), (.ref t)]) (lenOf pd_20 rfl) rfl (by show 2 * 0 + _ ≤ _; exact Nat.le_of_eq rfl) (hb hby d6_105) (fun _ _ => ⟨rfl, e90, (by decide : 15 + 3 ≤ _), (by decide : 2901 + 55 ≤ _)⟩)
    dsimp only [Pt.U, Pt.locs, Pt.cells, Pt.slots] at X91 l91 y91 z91 st91 hQ91
    subst y91 z91
    obtain ⟨r91, rfl, N91q, K91q, r91_0⟩ := hQ91
    have N91 : Fr n0 L91 := by rw [l91]; exact Fr.app N75 N91q
    have f92 := f76.keep K91q
    have f93 := f77.keep K91q nin0
    have f94 := f78.keep K91q nin0
    have f95 := f79.keep K91q nin0
    have f96 := f80.keep K91q nin0
    have f97 := f81.keep K91q nin0
    have f98 := f82.keep K91q nin0 apart0
    have f99 := f83.keep K91q
    have f100 := f84.keep K91q nin0 apart0
    have f101 := f85.keep K91q
    have f102 := f86.keep K91q nin0 apart0
    have f103 := f87.keep K91q
    have f104 := f88.keep K91q nin0 apart0
    have f105 := f89.keep K91q
    have f106 := r75_0.keep K91q nin0 apart0
    have f107 := r75_0.exa.keep K91q
    have hk := Nat.le_trans hk K91q.1
    have CR := CR.trans (CHr.keep K91q sf0 CR.1)
    have K91 : Keep h0 T91.heap [t] := K75.trans K91q all0
    have O91 := O75.keep K91q all0
    refine stt st91 ?_
    show Go p e below T91 (mkF m 108 #[(sR t), (sJ na), .second, (sJ db), .second, (sR r50), .unset] [(.ref r91), (.ref r62), (.ref t)]) _
    obtain ⟨cq108, kq108, q108a, q108b, q108c⟩ := isOf hZ rfl f105
    obtain ⟨_, _, ⟨T108, L108, k108, n108⟩, -, X108, ⟨Lc108, hQ108, l108, y108, z108⟩, st108⟩ := X91.virtualBack hx (y := (⟨"java/math/BigInteger", "add", "(Ljava/math/BigInteger;)Ljava/math/BigInteger;"⟩ : MethodName)) (z := (⟨"java/math/BigInteger", "add", "(Ljava/math/BigInteger;)Ljava/math/BigInteger;"⟩ : MethodName)) hown (mvT hZ (w_ hw (i := 166) rfl)) (mvT hZ (w_ hw (i := 167) rfl)) (notFace_of_selects (args := #[]) (mvT hZ (w_ hw (i := 169) rfl))) (mvT hZ (w_ hw (i := 169) rfl)) (mvT hZ (w_ hw (i := 168) rfl)) (by decide) (backOf (W := 1) (rm_add l Z a0 hw [] r62 r91 (2 + 2 + 1) (2 + 2 + 1) 6 T91.heap n0 O91 f104 r91_0 (by decide) (by decide) (by decide)) hZ (w_ hw (i := 170) rfl) (w_ hw (i := 118) rfl) (by decide) (by decide)) q108a q108c (g := (mkF m 108 #[(sR t), (sJ na), .second, (sJ db), .second, (sR r50), .unset] [(.ref r91), (.ref r62), (.ref t)])) rfl (by rw [hml]; rfl) (Steps.refl _) (argsL := [(.ref r91)]) (rest := [(.ref t)]) (lenOf pd_20 rfl) rfl (by show 2 * 0 + _ ≤ _; exact Nat.le_of_eq rfl) (hb hby d6_108) (fun _ _ => ⟨rfl, rfl, (by decide : 18 + 3 ≤ _), (by decide : 2956 + 55 ≤ _)⟩)
    dsimp only [Pt.U, Pt.locs, Pt.cells, Pt.slots] at X108 l108 y108 z108 st108 hQ108
    subst y108 z108
    obtain ⟨r108, rfl, N108q, K108q, r108_0⟩ := hQ108
    have N108 : Fr n0 L108 := by rw [l108]; exact Fr.app N91 N108q
    have f109 := f92.keep K108q
    have f110 := f93.keep K108q nin0
    have f111 := f94.keep K108q nin0
    have f112 := f95.keep K108q nin0
    have f113 := f96.keep K108q nin0
    have f114 := f97.keep K108q nin0
    have f115 := f98.keep K108q nin0 apart0
    have f116 := f99.keep K108q
    have f117 := f100.keep K108q nin0 apart0
    have f118 := f101.keep K108q
    have f119 := f102.keep K108q nin0 apart0
    have f120 := f103.keep K108q
    have f121 := f104.keep K108q nin0 apart0
    have f122 := f105.keep K108q
    have f123 := f106.keep K108q nin0 apart0
    have f124 := f107.keep K108q
    have f125 := r91_0.keep K108q nin0 apart0
    have f126 := r91_0.exa.keep K108q
    have hk := Nat.le_trans hk K108q.1
    have CR := CR.trans (CHr.keep K108q sf0 CR.1)
    have K108 : Keep h0 T108.heap [t] := K91.trans K108q all0
    have O108 := O91.keep K108q all0
    refine stt st108 ?_
    obtain ⟨T127, h127, X127, e127, W127, st127⟩ := putF X108 hx hZ hown (host := "") (Or.inl (w_ hw (i := 31) rfl)) Via.refl rfl f113 f109 (Or.inl (w_ hw (i := 32) rfl)) (w_ hw (i := 9) rfl) (ty := (.object "java/math/BigInteger")) (by decide) rfl rfl (g := (mkF m 111 #[(sR t), (sJ na), .second, (sJ db), .second, (sR r50), .unset] [(.ref r108), (.ref t)])) rfl rfl (hb hby d6_111)
    have Fw127 := f113.same W127
    have ne128 : r50 ≠ t := Exa.ne f120 f109 (by decide)
    have ne129 : r62 ≠ t := Exa.ne f122 f109 (by decide)
    have ne130 : r75 ≠ t := Exa.ne f124 f109 (by decide)
    have ne131 : r91 ≠ t := Exa.ne f126 f109 (by decide)
    have ne132 : r108 ≠ t := Exa.ne r108_0.exa f109 (by decide)
    have f133 := f109.wr W127
    have f134 := f110.other W127 (Or.inr (slot_ne (Or.inl (w_ hw (i := 25) rfl)) (Or.inl (w_ hw (i := 32) rfl)) (by decide) (t := .int) (t' := (.object "java/math/BigInteger")) (by decide) (by decide)))
    have f135 := f111.other W127 (Or.inr (slot_ne (Or.inl (w_ hw (i := 34) rfl)) (Or.inl (w_ hw (i := 32) rfl)) (by decide) (t := .long) (t' := (.object "java/math/BigInteger")) (by decide) (by decide)))
    have f136 := f112.other W127 (Or.inr (slot_ne (Or.inl (w_ hw (i := 18) rfl)) (Or.inl (w_ hw (i := 32) rfl)) (by decide) (t := .long) (t' := (.object "java/math/BigInteger")) (by decide) (by decide)))
    have f138 := f114.other W127 (Or.inr (slot_ne (Or.inl (w_ hw (i := 140) rfl)) (Or.inl (w_ hw (i := 32) rfl)) (by decide) (t := (.object "java/math/BigInteger")) (t' := (.object "java/math/BigInteger")) (by decide) (by decide)))
    have f139 := f115.wr W127 ne19 (Apart.exa f109 (w_ hw (i := 9) rfl))
    have f140 := f116.wr W127
    have f141 := f117.wr W127 ne39 (Apart.exa f109 (w_ hw (i := 9) rfl))
    have f142 := f118.wr W127
    have f143 := f119.wr W127 ne128 (Apart.exa f109 (w_ hw (i := 9) rfl))
    have f144 := f120.wr W127
    have f145 := f121.wr W127 ne129 (Apart.exa f109 (w_ hw (i := 9) rfl))
    have f146 := f122.wr W127
    have f147 := f123.wr W127 ne130 (Apart.exa f109 (w_ hw (i := 9) rfl))
    have f148 := f124.wr W127
    have f149 := f125.wr W127 ne131 (Apart.exa f109 (w_ hw (i := 9) rfl))
    have f150 := f126.wr W127
    have f151 := r108_0.wr W127 ne132 (Apart.exa f109 (w_ hw (i := 9) rfl))
    have f152 := r108_0.exa.wr W127
    have hk := Nat.le_trans hk (Keep.of_wr W127).1
    have CR := CR.trans (CHr.wr W127 (Safe.exa hZ.alike f109 (by decide) (by decide)) CR.1)
    have K127 : Keep h0 h127 [t] := K108.wr W127 (Or.inl (List.mem_of_getElem? (i := 0) rfl))
    have O127 := O108.wr W127 ge_t
    have N127 := Fr.snoc X127 N108 ge_t
    refine stp st127 ?_
    refine stp (fun _ => XS.aloadN X127.here hx rfl (hb hby d6_114) rfl rfl) ?_
    refine stp (fun _ => XS.aloadN X127.here hx rfl (hb hby d6_115) rfl rfl) ?_
    obtain ⟨T153, X153, e153, st153⟩ := getF X127 hx hZ hown (host := "") (Or.inl (w_ hw (i := 139) rfl)) Via.refl e127 f138 (g := (mkF m 116 #[(sR t), (sJ na), .second, (sJ db), .second, (sR r50), .unset] [(.ref t), (.ref t)])) rfl rfl (hb hby d6_116)
    refine stp st153 ?_
    show Go p e below T153 (mkF m 119 #[(sR t), (sJ na), .second, (sJ db), .second, (sR r50), .unset] [(.ref r29), (.ref t)]) _
    refine stp (fun _ => XS.aload X153.here hx rfl (hb hby d6_119) rfl rfl) ?_
    obtain ⟨cq154, kq154, q154a, q154b, q154c⟩ := isOf hZ e153 f142
    obtain ⟨_, _, ⟨T154, L154, k154, n154⟩, -, X154, ⟨Lc154, hQ154, l154, y154, z154⟩, st154⟩ := X153.virtualBack hx (y := (⟨"java/math/BigInteger", "multiply", "(Ljava/math/BigInteger;)Ljava/math/BigInteger;"⟩ : MethodName)) (z := (⟨"java/math/BigInteger", "multiply", "(Ljava/math/BigInteger;)Ljava/math/BigInteger;"⟩ : MethodName)) hown (mvT hZ (w_ hw (i := 141) rfl)) (mvT hZ (w_ hw (i := 142) rfl)) (notFace_of_selects (args := #[]) (mvT hZ (w_ hw (i := 144) rfl))) (mvT hZ (w_ hw (i := 144) rfl)) (mvT hZ (w_ hw (i := 143) rfl)) (by decide) (backOf (W := 1) (rm_mul l Z a0 hw [] r29 r50 2 2 z0 h127 n0 O127 f141 f143 S_ZERO Q_z0 (by decide)) hZ (w_ hw (i := 145) rfl) (w_ hw (i := 118) rfl) (by decide) (by decide)) q154a q154c (g := (mkF m 121 #[(sR t), (sJ na), .second, (sJ db), .second, (sR r50), .unset] [(.ref r50), (.ref r29), (.ref t)])) rfl (by rw [hml]; rfl) (Steps.refl _) (argsL := [(.ref r50)]) (rest := [(.ref t)]) (lenOf pd_20 rfl) rfl (by show 2 * 0 + _ ≤ _; exact Nat.le_of_eq rfl) (hb hby d6_121) (fun _ _ => ⟨rfl, e153, (by decide : 21 + 3 ≤ _), (by decide : 3011 + 55 ≤ _)⟩)
    dsimp only [Pt.U, Pt.locs, Pt.cells, Pt.slots] at X154 l154 y154 z154 st154 hQ154
    subst y154 z154
    obtain ⟨r154, rfl, N154q, K154q, r154_0⟩ := hQ154
    have N154 : Fr n0 L154 := by rw [l154]; exact Fr.app N127 N154q
    have f155 := f133.keep K154q
    have f156 := f134.keep K154q nin0
    have f157 := f135.keep K154q nin0
    have f158 := f136.keep K154q nin0
    have f159 := Fw127.keep K154q nin0
    have f160 := f138.keep K154q nin0
    have f161 := f139.keep K154q nin0 apart0
    have f162 := f140.keep K154q
    have f163 := f141.keep K154q nin0 apart0
    have f164 := f142.keep K154q
    have f165 := f143.keep K154q nin0 apart0
    have f166 := f144.keep K154q
    have f167 := f145.keep K154q nin0 apart0
    have f168 := f146.keep K154q
    have f169 := f147.keep K154q nin0 apart0
    have f170 := f148.keep K154q
    have f171 := f149.keep K154q nin0 apart0
    have f172 := f150.keep K154q
    have f173 := f151.keep K154q nin0 apart0
    have f174 := f152.keep K154q
    have hk := Nat.le_trans hk K154q.1
    have CR := CR.trans (CHr.keep K154q sf0 CR.1)
    have K154 : Keep h0 T154.heap [t] := K127.trans K154q all0
    have O154 := O127.keep K154q all0
    refine stt st154 ?_
    obtain ⟨T175, h175, X175, e175, W175, st175⟩ := putF X154 hx hZ hown (host := "") (Or.inl (w_ hw (i := 139) rfl)) Via.refl rfl f160 f155 (Or.inl (w_ hw (i := 140) rfl)) (w_ hw (i := 9) rfl) (ty := (.object "java/math/BigInteger")) (by decide) rfl rfl (g := (mkF m 124 #[(sR t), (sJ na), .second, (sJ db), .second, (sR r50), .unset] [(.ref r154), (.ref t)])) rfl rfl (hb hby d6_124)
    have Fw175 := f160.same W175
    have ne176 : r154 ≠ t := Exa.ne r154_0.exa f155 (by decide)
    have f177 := f155.wr W175
    have f178 := f156.other W175 (Or.inr (slot_ne (Or.inl (w_ hw (i := 25) rfl)) (Or.inl (w_ hw (i := 140) rfl)) (by decide) (t := .int) (t' := (.object "java/math/BigInteger")) (by decide) (by decide)))
    have f179 := f157.other W175 (Or.inr (slot_ne (Or.inl (w_ hw (i := 34) rfl)) (Or.inl (w_ hw (i := 140) rfl)) (by decide) (t := .long) (t' := (.object "java/math/BigInteger")) (by decide) (by decide)))
    have f180 := f158.other W175 (Or.inr (slot_ne (Or.inl (w_ hw (i := 18) rfl)) (Or.inl (w_ hw (i := 140) rfl)) (by decide) (t := .long) (t' := (.object "java/math/BigInteger")) (by decide) (by decide)))
    have f181 := f159.other W175 (Or.inr (slot_ne (Or.inl (w_ hw (i := 32) rfl)) (Or.inl (w_ hw (i := 140) rfl)) (by decide) (t := (.object "java/math/BigInteger")) (t' := (.object "java/math/BigInteger")) (by decide) (by decide)))
    have f183 := f161.wr W175 ne19 (Apart.exa f155 (w_ hw (i := 9) rfl))
    have f184 := f162.wr W175
    have f185 := f163.wr W175 ne39 (Apart.exa f155 (w_ hw (i := 9) rfl))
    have f186 := f164.wr W175
    have f187 := f165.wr W175 ne128 (Apart.exa f155 (w_ hw (i := 9) rfl))
    have f188 := f166.wr W175
    have f189 := f167.wr W175 ne129 (Apart.exa f155 (w_ hw (i := 9) rfl))
    have f190 := f168.wr W175
    have f191 := f169.wr W175 ne130 (Apart.exa f155 (w_ hw (i := 9) rfl))
    have f192 := f170.wr W175
    have f193 := f171.wr W175 ne131 (Apart.exa f155 (w_ hw (i := 9) rfl))
    have f194 := f172.wr W175
    have f195 := f173.wr W175 ne132 (Apart.exa f155 (w_ hw (i := 9) rfl))
    have f196 := f174.wr W175
    have f197 := r154_0.wr W175 ne176 (Apart.exa f155 (w_ hw (i := 9) rfl))
    have f198 := r154_0.exa.wr W175
    have hk := Nat.le_trans hk (Keep.of_wr W175).1
    have CR := CR.trans (CHr.wr W175 (Safe.exa hZ.alike f155 (by decide) (by decide)) CR.1)
    have K175 : Keep h0 h175 [t] := K154.wr W175 (Or.inl (List.mem_of_getElem? (i := 0) rfl))
    have O175 := O154.wr W175 ge_t
    have N175 := Fr.snoc X175 N154 ge_t
    refine stp st175 ?_
    refine Go.imp (P := (PoW s Z consts_1 (Q_rm_al1 Z t na db cnt qn qd z0 u sen h0 n0) 24 3066)) ?_ (fun _ _ q => Or.inr q)
    refine outVW X175 hx hZ hEL e175 hS hk CR hret (hb hby d6_127) hlk (by decide) (by decide) ?_
    rw [e175]
    exact ⟨r108, r154, rfl, N175, K175, f178, f181, Fw175, f195, f197⟩
  refine stp (fun _ => XS.aloadN X9.here hx rfl (hb hby d6_17) rfl rfl) ?_
  obtain ⟨T199, X199, e199, st199⟩ := getF X9 hx hZ hown (host := "") (Or.inl (w_ hw (i := 33) rfl)) Via.refl e9 f5 (g := (mkF m 18 #[(sR t), (sJ na), .second, (sJ db), .second, .unset, .unset] [(.ref t)])) rfl rfl (hb hby d6_18)
  refine stp st199 ?_
  refine stp (fun _ => XS.lloadN X199.here hx rfl (hb hby d6_21) rfl) ?_
  rcases callM X199 hx hZ (y := (⟨"java/lang/Math", "multiplyExact", "(JJ)J"⟩ : MethodName)) hown (w_ hw (i := 35) rfl) (w_ hw (i := 36) rfl) (w_ hw (i := 37) rfl) (w_ hw (i := 38) rfl) (by decide) (rm_mx l Z a0 hw [] qn db u sen h2 n0 O2 hEL S_UNASSIGNED_STACK S_SUPPRESSED_SENTINEL hqn hdb hl hu hsen) hEL CR.1 (knows_since hS hKn).1 (knows_since hS hKn).2 e199 (g := (mkF m 22 #[(sR t), (sJ na), .second, (sJ db), .second, .unset, .unset] [(.long db), (.long qn)])) rfl (by rw [hml]; rfl) (argsL := [(.long qn), (.long db)]) (rest := []) (lenOf pd_21 rfl) rfl rfl (hb hby d6_22) (by decide) (by show 2 * 0 + 0 + (10 + 11) + 95 ≤ _; decide) (by decide : 0 + _ ≤ _) (by decide : 0 + _ ≤ _) with ⟨_, T200, Lc200, X200, hS200, gg200, hQ200, CRn200, st200⟩ | ⟨x200, T200, Lc200, X200, hS200, gg200, hQ200, CRn200, st200⟩
  · obtain ⟨zq200, rfl, N200q, e200, pq200_0⟩ := hQ200
    have N200 := Fr.app N2 N200q
    rw [e200] at hS200 gg200 CRn200
    obtain ⟨X200, hS, hZ, hown⟩ := rebS hS hk X200 hS200 gg200 hZ hown
    have hk := Nat.le_refl h2.size
    have CR := CR.trans CRn200
    refine stt st200 ?_
    refine stp (fun _ => XS.lloadN X200.here hx rfl (hb hby d6_25) rfl) ?_
    show Go p e below T200 (mkF m 26 #[(sR t), (sJ na), .second, (sJ db), .second, .unset, .unset] [(.long na), (.long zq200)]) _
    refine stp (fun _ => XS.aloadN X200.here hx rfl (hb hby d6_26) rfl rfl) ?_
    obtain ⟨T201, X201, e201, st201⟩ := getF X200 hx hZ hown (host := "") (Or.inl (w_ hw (i := 17) rfl)) Via.refl e200 f6 (g := (mkF m 27 #[(sR t), (sJ na), .second, (sJ db), .second, .unset, .unset] [(.ref t), (.long na), (.long zq200)])) rfl rfl (hb hby d6_27)
    refine stp st201 ?_
    rcases callM X201 hx hZ (y := (⟨"java/lang/Math", "multiplyExact", "(JJ)J"⟩ : MethodName)) hown (w_ hw (i := 35) rfl) (w_ hw (i := 36) rfl) (w_ hw (i := 37) rfl) (w_ hw (i := 38) rfl) (by decide) (rm_mx l Z a0 hw [] na qd u sen h2 n0 O2 hEL S_UNASSIGNED_STACK S_SUPPRESSED_SENTINEL hna hqd hl hu hsen) hEL CR.1 (knows_since hS hKn).1 (knows_since hS hKn).2 e201 (g := (mkF m 30 #[(sR t), (sJ na), .second, (sJ db), .second, .unset, .unset] [(.long qd), (.long na), (.long zq200)])) rfl (by rw [hml]; rfl) (argsL := [(.long na), (.long qd)]) (rest := [(.long zq200)]) (lenOf pd_21 rfl) rfl rfl (hb hby d6_30) (by decide) (by show 2 * 0 + 2 + (10 + 11) + 95 ≤ _; decide) (by decide : 0 + _ ≤ _) (by decide : 0 + _ ≤ _) with ⟨_, T202, Lc202, X202, hS202, gg202, hQ202, CRn202, st202⟩ | ⟨x202, T202, Lc202, X202, hS202, gg202, hQ202, CRn202, st202⟩
    · obtain ⟨zq202, rfl, N202q, e202, pq202_0⟩ := hQ202
      have N202 := Fr.app N200 N202q
      rw [e202] at hS202 gg202 CRn202
      obtain ⟨X202, hS, hZ, hown⟩ := rebS hS hk X202 hS202 gg202 hZ hown
      have hk := Nat.le_refl h2.size
      have CR := CR.trans CRn202
      refine stt st202 ?_
      rcases callM X202 hx hZ (y := (⟨"java/lang/Math", "addExact", "(JJ)J"⟩ : MethodName)) hown (w_ hw (i := 43) rfl) (w_ hw (i := 44) rfl) (w_ hw (i := 37) rfl) (w_ hw (i := 45) rfl) (by decide) (rm_ax l Z a0 hw [] zq200 zq202 u sen h2 n0 O2 hEL S_UNASSIGNED_STACK S_SUPPRESSED_SENTINEL pq200_0 pq202_0 hl hu hsen) hEL CR.1 (knows_since hS hKn).1 (knows_since hS hKn).2 e202 (g := (mkF m 33 #[(sR t), (sJ na), .second, (sJ db), .second, .unset, .unset] [(.long zq202), (.long zq200)])) rfl (by rw [hml]; rfl) (argsL := [(.long zq200), (.long zq202)]) (rest := []) (lenOf pd_21 rfl) rfl rfl (hb hby d6_33) (by decide) (by show 2 * 0 + 0 + (6 + 11) + 95 ≤ _; decide) (by decide : 0 + _ ≤ _) (by decide : 0 + _ ≤ _) with ⟨_, T203, Lc203, X203, hS203, gg203, hQ203, CRn203, st203⟩ | ⟨x203, T203, Lc203, X203, hS203, gg203, hQ203, CRn203, st203⟩
      · obtain ⟨zq203, rfl, N203q, e203, pq203_0⟩ := hQ203
        have N203 := Fr.app N202 N203q
        rw [e203] at hS203 gg203 CRn203
        obtain ⟨X203, hS, hZ, hown⟩ := rebS hS hk X203 hS203 gg203 hZ hown
        have hk := Nat.le_refl h2.size
        have CR := CR.trans CRn203
        refine stt st203 ?_
        refine stp (fun _ => XS.lstore X203.here hx rfl (hb hby d6_36) rfl (l' := #[(sR t), (sJ na), .second, (sJ db), .second, (sJ zq203), .second]) rfl) ?_
        show Go p e below T203 (mkF m 38 #[(sR t), (sJ na), .second, (sJ db), .second, (sJ zq203), .second] []) _
        refine stp (fun _ => XS.aloadN X203.here hx rfl (hb hby d6_38) rfl rfl) ?_
        refine stp (fun _ => XS.aloadN X203.here hx rfl (hb hby d6_39) rfl rfl) ?_
        obtain ⟨T204, X204, e204, st204⟩ := getF X203 hx hZ hown (host := "") (Or.inl (w_ hw (i := 17) rfl)) Via.refl e203 f6 (g := (mkF m 40 #[(sR t), (sJ na), .second, (sJ db), .second, (sJ zq203), .second] [(.ref t), (.ref t)])) rfl rfl (hb hby d6_40)
        refine stp st204 ?_
        refine stp (fun _ => XS.lloadN X204.here hx rfl (hb hby d6_43) rfl) ?_
        rcases callM X204 hx hZ (y := (⟨"java/lang/Math", "multiplyExact", "(JJ)J"⟩ : MethodName)) hown (w_ hw (i := 35) rfl) (w_ hw (i := 36) rfl) (w_ hw (i := 37) rfl) (w_ hw (i := 38) rfl) (by decide) (rm_mx l Z a0 hw [] qd db u sen h2 n0 O2 hEL S_UNASSIGNED_STACK S_SUPPRESSED_SENTINEL hqd hdb hl hu hsen) hEL CR.1 (knows_since hS hKn).1 (knows_since hS hKn).2 e204 (g := (mkF m 44 #[(sR t), (sJ na), .second, (sJ db), .second, (sJ zq203), .second] [(.long db), (.long qd), (.ref t)])) rfl (by rw [hml]; rfl) (argsL := [(.long qd), (.long db)]) (rest := [(.ref t)]) (lenOf pd_21 rfl) rfl rfl (hb hby d6_44) (by decide) (by show 2 * 0 + 1 + (10 + 11) + 95 ≤ _; decide) (by decide : 0 + _ ≤ _) (by decide : 0 + _ ≤ _) with ⟨_, T205, Lc205, X205, hS205, gg205, hQ205, CRn205, st205⟩ | ⟨x205, T205, Lc205, X205, hS205, gg205, hQ205, CRn205, st205⟩
        · obtain ⟨zq205, rfl, N205q, e205, pq205_0⟩ := hQ205
          have N205 := Fr.app N203 N205q
          rw [e205] at hS205 gg205 CRn205
          obtain ⟨X205, hS, hZ, hown⟩ := rebS hS hk X205 hS205 gg205 hZ hown
          have hk := Nat.le_refl h2.size
          have CR := CR.trans CRn205
          refine stt st205 ?_
          show Go p e below T205 (mkF m 47 #[(sR t), (sJ na), .second, (sJ db), .second, (sJ zq203), .second] [(.long zq205), (.ref t)]) _
          obtain ⟨T206, h206, X206, e206, W206, st206⟩ := putF X205 hx hZ hown (host := "") (Or.inl (w_ hw (i := 17) rfl)) Via.refl e205 f6 f3 (Or.inl (w_ hw (i := 18) rfl)) (w_ hw (i := 9) rfl) (ty := .long) (by decide) rfl rfl (g := (mkF m 47 #[(sR t), (sJ na), .second, (sJ db), .second, (sJ zq203), .second] [(.long zq205), (.ref t)])) rfl rfl (hb hby d6_47)
          have Fw206 := f6.same W206
          have f207 := f3.wr W206
          have f208 := Fw2.other W206 (Or.inr (slot_ne (Or.inl (w_ hw (i := 25) rfl)) (Or.inl (w_ hw (i := 18) rfl)) (by decide) (t := .int) (t' := .long) (by decide) (by decide)))
          have f209 := f5.other W206 (Or.inr (slot_ne (Or.inl (w_ hw (i := 34) rfl)) (Or.inl (w_ hw (i := 18) rfl)) (by decide) (t := .long) (t' := .long) (by decide) (by decide)))
          have f211 := f7.other W206 (Or.inr (slot_ne (Or.inl (w_ hw (i := 32) rfl)) (Or.inl (w_ hw (i := 18) rfl)) (by decide) (t := (.object "java/math/BigInteger")) (t' := .long) (by decide) (by decide)))
          have f212 := f8.other W206 (Or.inr (slot_ne (Or.inl (w_ hw (i := 140) rfl)) (Or.inl (w_ hw (i := 18) rfl)) (by decide) (t := (.object "java/math/BigInteger")) (t' := .long) (by decide) (by decide)))
          have hk := Nat.le_trans hk (Keep.of_wr W206).1
          have CR := CR.trans (CHr.wr W206 (Safe.exa hZ.alike f3 (by decide) (by decide)) CR.1)
          have K206 : Keep h0 h206 [t] := K2.wr W206 (Or.inl (List.mem_of_getElem? (i := 0) rfl))
          have O206 := O2.wr W206 ge_t
          have N206 := Fr.snoc X206 N205 ge_t
          refine stp st206 ?_
          refine stp (fun _ => XS.aloadN X206.here hx rfl (hb hby d6_50) rfl rfl) ?_
          refine stp (fun _ => XS.lload X206.here hx rfl (hb hby d6_51) rfl) ?_
          obtain ⟨T213, h213, X213, e213, W213, st213⟩ := putF X206 hx hZ hown (host := "") (Or.inl (w_ hw (i := 33) rfl)) Via.refl e206 f209 f207 (Or.inl (w_ hw (i := 34) rfl)) (w_ hw (i := 9) rfl) (ty := .long) (by decide) rfl rfl (g := (mkF m 53 #[(sR t), (sJ na), .second, (sJ db), .second, (sJ zq203), .second] [(.long zq203), (.ref t)])) rfl rfl (hb hby d6_53)
          have Fw213 := f209.same W213
          have f214 := f207.wr W213
          have f215 := f208.other W213 (Or.inr (slot_ne (Or.inl (w_ hw (i := 25) rfl)) (Or.inl (w_ hw (i := 34) rfl)) (by decide) (t := .int) (t' := .long) (by decide) (by decide)))
          have f217 := Fw206.other W213 (Or.inr (slot_ne (Or.inl (w_ hw (i := 18) rfl)) (Or.inl (w_ hw (i := 34) rfl)) (by decide) (t := .long) (t' := .long) (by decide) (by decide)))
          have f218 := f211.other W213 (Or.inr (slot_ne (Or.inl (w_ hw (i := 32) rfl)) (Or.inl (w_ hw (i := 34) rfl)) (by decide) (t := (.object "java/math/BigInteger")) (t' := .long) (by decide) (by decide)))
          have f219 := f212.other W213 (Or.inr (slot_ne (Or.inl (w_ hw (i := 140) rfl)) (Or.inl (w_ hw (i := 34) rfl)) (by decide) (t := (.object "java/math/BigInteger")) (t' := .long) (by decide) (by decide)))
          have hk := Nat.le_trans hk (Keep.of_wr W213).1
          have CR := CR.trans (CHr.wr W213 (Safe.exa hZ.alike f207 (by decide) (by decide)) CR.1)
          have K213 : Keep h0 h213 [t] := K206.wr W213 (Or.inl (List.mem_of_getElem? (i := 0) rfl))
          have O213 := O206.wr W213 ge_t
          have N213 := Fr.snoc X213 N206 ge_t
          refine stp st213 ?_
          refine Go.imp (P := (PoW s Z consts_1 (Q_rm_al Z t na db cnt qn qd z0 u sen h0 n0) 0 0)) ?_ (fun _ _ q => Or.inl q)
          refine outVW X213 hx hZ hEL e213 hS hk CR hret (hb hby d6_56) hlk (by decide) (by decide) ?_
          rw [e213]
          exact ⟨zq203, zq205, rfl, N213, K213, f215, Fw213, f217, f218, f219, ⟨pq203_0, pq205_0⟩⟩
        · obtain ⟨X205, hS, hZ, hown⟩ := rebS hS hk X205 hS205 gg205 hZ hown
          obtain ⟨r205, hv205, N205q, K205q, ⟨ge_r205, sz205_r205⟩, r205_0⟩ := hQ205
          obtain rfl : r205 = x205 := by cases hv205; rfl
          have N205 := Fr.app N203 N205q
          have ne220 : t ≠ r205 := Nat.ne_of_lt (Nat.lt_of_lt_of_le f3.lt sz205_r205)
          have ne221 : z0 ≠ r205 := O2.ne Q_z0.lt ge_r205
          have f222 := f3.keep K205q
          have f223 := Fw2.keep K205q nin0
          have f224 := f5.keep K205q nin0
          have f225 := f6.keep K205q nin0
          have f226 := f7.keep K205q nin0
          have f227 := f8.keep K205q nin0
          have sz_r205 : h0.size ≤ r205 := Nat.le_trans K2.1 sz205_r205
          have K205 : Keep h0 T205.heap [t] := K2.trans K205q all0
          have O205 := O2.keep K205q all0
          have hk : T205.heap.size ≤ T205.heap.size := Nat.le_refl _
          have CR := CR.trans CRn205
          obtain ⟨Tc205, Xc205, ec205, sc205⟩ := own_catch (pc := 44) (Ls := #[(sR t), (sJ na), .second, (sJ db), .second, (sJ zq203), .second]) (rest := [(.ref t)]) X205 hZ hown hnh (by decide) (by decide) (w_ hw (i := 115) rfl) (w_ hw (i := 59) rfl) rfl r205_0
          refine stp (fun _ q => st205.trans (sc205 _ q)) ?_
          show Go p e below Tc205 (mkF m 57 #[(sR t), (sJ na), .second, (sJ db), .second, (sJ zq203), .second] [(.ref r205)]) _
          exact J57 r205 ((sJ zq203)) (.second) _ _ Tc205 _ T205.heap Xc205 hS hk hZ hown ec205 N205 O205 K205 CR f222 f223 f224 f225 f226 f227 (Or.inr ⟨_, rfl, rfl⟩)
      · obtain ⟨X203, hS, hZ, hown⟩ := rebS hS hk X203 hS203 gg203 hZ hown
        obtain ⟨r203, hv203, N203q, K203q, ⟨ge_r203, sz203_r203⟩, r203_0⟩ := hQ203
        obtain rfl : r203 = x203 := by cases hv203; rfl
        have N203 := Fr.app N202 N203q
        have ne228 : t ≠ r203 := Nat.ne_of_lt (Nat.lt_of_lt_of_le f3.lt sz203_r203)
        have ne229 : z0 ≠ r203 := O2.ne Q_z0.lt ge_r203
        have f230 := f3.keep K203q
        have f231 := Fw2.keep K203q nin0
        have f232 := f5.keep K203q nin0
        have f233 := f6.keep K203q nin0
        have f234 := f7.keep K203q nin0
        have f235 := f8.keep K203q nin0
        have sz_r203 : h0.size ≤ r203 := Nat.le_trans K2.1 sz203_r203
        have K203 : Keep h0 T203.heap [t] := K2.trans K203q all0
        have O203 := O2.keep K203q all0
        have hk : T203.heap.size ≤ T203.heap.size := Nat.le_refl _
        have CR := CR.trans CRn203
        obtain ⟨Tc203, Xc203, ec203, sc203⟩ := own_catch (pc := 33) (Ls := #[(sR t), (sJ na), .second, (sJ db), .second, .unset, .unset]) (rest := []) X203 hZ hown hnh (by decide) (by decide) (w_ hw (i := 115) rfl) (w_ hw (i := 59) rfl) rfl r203_0
        refine stp (fun _ q => st203.trans (sc203 _ q)) ?_
        show Go p e below Tc203 (mkF m 57 #[(sR t), (sJ na), .second, (sJ db), .second, .unset, .unset] [(.ref r203)]) _
        exact J57 r203 (.unset) (.unset) _ _ Tc203 _ T203.heap Xc203 hS hk hZ hown ec203 N203 O203 K203 CR f230 f231 f232 f233 f234 f235 (Or.inl ⟨rfl, rfl⟩)
    · obtain ⟨X202, hS, hZ, hown⟩ := rebS hS hk X202 hS202 gg202 hZ hown
      obtain ⟨r202, hv202, N202q, K202q, ⟨ge_r202, sz202_r202⟩, r202_0⟩ := hQ202
      obtain rfl : r202 = x202 := by cases hv202; rfl
      have N202 := Fr.app N200 N202q
      have ne236 : t ≠ r202 := Nat.ne_of_lt (Nat.lt_of_lt_of_le f3.lt sz202_r202)
      have ne237 : z0 ≠ r202 := O2.ne Q_z0.lt ge_r202
      have f238 := f3.keep K202q
      have f239 := Fw2.keep K202q nin0
      have f240 := f5.keep K202q nin0
      have f241 := f6.keep K202q nin0
      have f242 := f7.keep K202q nin0
      have f243 := f8.keep K202q nin0
      have sz_r202 : h0.size ≤ r202 := Nat.le_trans K2.1 sz202_r202
      have K202 : Keep h0 T202.heap [t] := K2.trans K202q all0
      have O202 := O2.keep K202q all0
      have hk : T202.heap.size ≤ T202.heap.size := Nat.le_refl _
      have CR := CR.trans CRn202
      obtain ⟨Tc202, Xc202, ec202, sc202⟩ := own_catch (pc := 30) (Ls := #[(sR t), (sJ na), .second, (sJ db), .second, .unset, .unset]) (rest := [(.long zq200)]) X202 hZ hown hnh (by decide) (by decide) (w_ hw (i := 115) rfl) (w_ hw (i := 59) rfl) rfl r202_0
      refine stp (fun _ q => st202.trans (sc202 _ q)) ?_
      show Go p e below Tc202 (mkF m 57 #[(sR t), (sJ na), .second, (sJ db), .second, .unset, .unset] [(.ref r202)]) _
      exact J57 r202 (.unset) (.unset) _ _ Tc202 _ T202.heap Xc202 hS hk hZ hown ec202 N202 O202 K202 CR f238 f239 f240 f241 f242 f243 (Or.inl ⟨rfl, rfl⟩)
  · obtain ⟨X200, hS, hZ, hown⟩ := rebS hS hk X200 hS200 gg200 hZ hown
    obtain ⟨r200, hv200, N200q, K200q, ⟨ge_r200, sz200_r200⟩, r200_0⟩ := hQ200
    obtain rfl : r200 = x200 := by cases hv200; rfl
    have N200 := Fr.app N2 N200q
    have ne244 : t ≠ r200 := Nat.ne_of_lt (Nat.lt_of_lt_of_le f3.lt sz200_r200)
    have ne245 : z0 ≠ r200 := O2.ne Q_z0.lt ge_r200
    have f246 := f3.keep K200q
    have f247 := Fw2.keep K200q nin0
    have f248 := f5.keep K200q nin0
    have f249 := f6.keep K200q nin0
    have f250 := f7.keep K200q nin0
    have f251 := f8.keep K200q nin0
    have sz_r200 : h0.size ≤ r200 := Nat.le_trans K2.1 sz200_r200
    have K200 : Keep h0 T200.heap [t] := K2.trans K200q all0
    have O200 := O2.keep K200q all0
    have hk : T200.heap.size ≤ T200.heap.size := Nat.le_refl _
    have CR := CR.trans CRn200
    obtain ⟨Tc200, Xc200, ec200, sc200⟩ := own_catch (pc := 22) (Ls := #[(sR t), (sJ na), .second, (sJ db), .second, .unset, .unset]) (rest := []) X200 hZ hown hnh (by decide) (by decide) (w_ hw (i := 115) rfl) (w_ hw (i := 59) rfl) rfl r200_0
    refine stp (fun _ q => st200.trans (sc200 _ q)) ?_
    show Go p e below Tc200 (mkF m 57 #[(sR t), (sJ na), .second, (sJ db), .second, .unset, .unset] [(.ref r200)]) _
    exact J57 r200 (.unset) (.unset) _ _ Tc200 _ T200.heap Xc200 hS hk hZ hown ec200 N200 O200 K200 CR f246 f247 f248 f249 f250 f251 (Or.inl ⟨rfl, rfl⟩)
theorem pd_22 : parseMethodDescriptor "(JJZ)J" = some ⟨[.long, .long, .boolean], some .long⟩ := by decide +kernel
theorem pd_23 : parseMethodDescriptor "()Z" = some ⟨[], some .boolean⟩ := by decide +kernel
theorem pd_24 : parseMethodDescriptor "(JJ)V" = some ⟨[.long, .long], none⟩ := by decide +kernel
theorem ef_rm0 (m : MethodId) (k : Int32) (n1_ : Int64) (d1_ : Int64) (n2_ : Int64) (d2_ : Int64)  : entryFrame m #[(.int k), (.long n1_), (.long d1_), (.long n2_), (.long d2_)] maxLocals = mkF m 0 #[(sI k), (sJ n1_), .second, (sJ d1_), .second, (sJ n2_), .second, (sJ d2_), .second, .unset, .unset, .unset, .unset, .unset, .unset, .unset, .unset, .unset, .unset, .unset, .unset, .unset, .unset, .unset] [] := by first | (simp [entryFrame, mkF, argsToLocals, Value.category, maxLocals]; done) | rfl
def Q_rm0 (Z : State) (k : Int32) (n1_ : Int64) (d1_ : Int64) (n2_ : Int64) (d2_ : Int64) (z0 : Addr) (u sen : Value) (h0 : Heap) (n0 : Nat) (v : Option Value) (h : Heap) (L : List Loc) : Prop := v = some (.int 1) ∧ Fr n0 L
theorem pn_32_ : plainName "com/example/brisk_dedup/briskdedup/engine/FractionMeanIsEmptyPinLaw" = true := by first | (simp [plainName, overriddenIn]; done) | decide +kernel
theorem pn_32 : plainFor (⟨"com/example/brisk_dedup/briskdedup/engine/FractionMeanIsEmptyPinLaw", "law", "(IJJJJ)Z"⟩ : MethodName) = true := plainFor_of_name pn_32_
set_option maxRecDepth 65536 in
set_option maxHeartbeats 40000000 in
theorem rm0 (l : Launch) (Z : State) (a0 : Array Value) (hw : ∀ d ∈ tables_1, d.before a0 Z = true) (ws : List Jvm.Cond) (k : Int32) (n1_ : Int64) (d1_ : Int64) (n2_ : Int64) (d2_ : Int64) (z0 : Addr) (u sen : Value) (h0 : Heap) (n0 : Nat) (O0 : Old Z n0 h0) (hEL : EW Z a0 consts_1) (S_ZERO : Sta Z Z.heap "java/math/BigInteger" "ZERO" "Ljava/math/BigInteger;" (.ref z0)) (Q_z0 : BigOk Z Z.heap z0 0) (S_UNASSIGNED_STACK : Sta Z Z.heap "java/lang/Throwable" "UNASSIGNED_STACK" "[Ljava/lang/StackTraceElement;" u) (S_SUPPRESSED_SENTINEL : Sta Z Z.heap "java/lang/Throwable" "SUPPRESSED_SENTINEL" "Ljava/util/List;" sen) (hPC : PosOk Z) (hl : l.stackTraces = true) (hu : u.isRef = true) (hsen : sen.isRef = true) :
    MetFree l x (head1 (Jvm.Cond.code x code maxLocals ret :: ws) room_1) (fun args_ U => args_ = #[(.int k), (.long n1_), (.long d1_), (.long n2_), (.long d2_)] ∧ Z.Warmed39 U.vm ∧ U.heap = h0 ∧ CHv Z consts_1 U.vm h0) Knows (fun _ s out_ U' => (PoW s Z consts_1 (Q_rm0 Z k n1_ d1_ n2_ d2_ z0 u sen h0 n0) 57 3543) out_ U') := by
  refine startT (P := fun s => (PoW s Z consts_1 (Q_rm0 Z k n1_ d1_ n2_ d2_ z0 u sen h0 n0) 57 3543)) (show plainFor x = true from pn_32) ?_
  intro p e s m below meth c T0 X0 hx hby hml hown hnm hret hlk hZ e0 hS CR hKn
  obtain ⟨hs0, hnh, hKn⟩ := hKn
  have CR0 := CR
  have hk : 0 ≤ h0.size := Nat.zero_le _
  have wS : ∀ a ∈ Bundle.stringAtoms, a.before a0 Z = true := own_wS hw
  replace hown : s.vm.findClass "com/example/brisk_dedup/briskdedup/engine/FractionMeanIsEmptyPinLaw" = some m.cls := hown
  replace hml : c.maxLocals = 24 := hml
  refine goAt (ef_rm0 m k n1_ d1_ n2_ d2_ ) ?_
  have N0 := Fr.nil n0
  refine stp (fun _ => XS.iloadN X0.here hx rfl (hb hby at_0) rfl) ?_
  refine stp (fun _ => XS.iconst X0.here hx rfl (hb hby at_1)) ?_
  refine stp (fun _ => XS.iand X0.here hx rfl (hb hby at_2) rfl) ?_
  refine stp (fun _ => XS.istore X0.here hx rfl (hb hby at_3) rfl (l' := #[(sI k), (sJ n1_), .second, (sJ d1_), .second, (sJ n2_), .second, (sJ d2_), .second, (sI (k &&& (3 : Int32))), .unset, .unset, .unset, .unset, .unset, .unset, .unset, .unset, .unset, .unset, .unset, .unset, .unset, .unset]) rfl) ?_
  show Go p e below T0 (mkF m 5 #[(sI k), (sJ n1_), .second, (sJ d1_), .second, (sJ n2_), .second, (sJ d2_), .second, (sI (k &&& (3 : Int32))), .unset, .unset, .unset, .unset, .unset, .unset, .unset, .unset, .unset, .unset, .unset, .unset, .unset, .unset] []) _
  refine stp (fun _ => XS.iloadN X0.here hx rfl (hb hby at_5) rfl) ?_
  refine stp (fun _ => XS.iconst X0.here hx rfl (hb hby at_6)) ?_
  refine stp (fun _ => XS.ishr X0.here hx rfl (hb hby at_7) rfl) ?_
  refine stp (fun _ => XS.iconst X0.here hx rfl (hb hby at_8)) ?_
  refine stp (fun _ => XS.iand X0.here hx rfl (hb hby at_9) rfl) ?_
  show Go p e below T0 (mkF m 10 #[(sI k), (sJ n1_), .second, (sJ d1_), .second, (sJ n2_), .second, (sJ d2_), .second, (sI (k &&& (3 : Int32))), .unset, .unset, .unset, .unset, .unset, .unset, .unset, .unset, .unset, .unset, .unset, .unset, .unset, .unset] [(.int ((k >>> ((2 : Int32) &&& 31)) &&& (1 : Int32)))]) _
  have J18 : ∀ (w1 : Int32), True → Go p e below T0 (mkF m 18 #[(sI k), (sJ n1_), .second, (sJ d1_), .second, (sJ n2_), .second, (sJ d2_), .second, (sI (k &&& (3 : Int32))), .unset, .unset, .unset, .unset, .unset, .unset, .unset, .unset, .unset, .unset, .unset, .unset, .unset, .unset] [(.int w1)]) (PoW s Z consts_1 (Q_rm0 Z k n1_ d1_ n2_ d2_ z0 u sen h0 n0) 57 3543) := by
    intro w1 hj
    refine stp (fun _ => XS.istore X0.here hx rfl (hb hby at_18) rfl (l' := #[(sI k), (sJ n1_), .second, (sJ d1_), .second, (sJ n2_), .second, (sJ d2_), .second, (sI (k &&& (3 : Int32))), (sI w1), .unset, .unset, .unset, .unset, .unset, .unset, .unset, .unset, .unset, .unset, .unset, .unset, .unset]) rfl) ?_
    refine stp (fun _ => XS.iloadN X0.here hx rfl (hb hby at_20) rfl) ?_
    refine stp (fun _ => XS.iconst X0.here hx rfl (hb hby at_21)) ?_
    refine stp (fun _ => XS.ishr X0.here hx rfl (hb hby at_22) rfl) ?_
    show Go p e below T0 (mkF m 23 #[(sI k), (sJ n1_), .second, (sJ d1_), .second, (sJ n2_), .second, (sJ d2_), .second, (sI (k &&& (3 : Int32))), (sI w1), .unset, .unset, .unset, .unset, .unset, .unset, .unset, .unset, .unset, .unset, .unset, .unset, .unset] [(.int (k >>> ((3 : Int32) &&& 31)))]) _
    refine stp (fun _ => XS.iconst X0.here hx rfl (hb hby at_23)) ?_
    refine stp (fun _ => XS.iand X0.here hx rfl (hb hby at_24) rfl) ?_
    show Go p e below T0 (mkF m 25 #[(sI k), (sJ n1_), .second, (sJ d1_), .second, (sJ n2_), .second, (sJ d2_), .second, (sI (k &&& (3 : Int32))), (sI w1), .unset, .unset, .unset, .unset, .unset, .unset, .unset, .unset, .unset, .unset, .unset, .unset, .unset] [(.int ((k >>> ((3 : Int32) &&& 31)) &&& (1 : Int32)))]) _
    have J33 : ∀ (w2 : Int32), True → Go p e below T0 (mkF m 33 #[(sI k), (sJ n1_), .second, (sJ d1_), .second, (sJ n2_), .second, (sJ d2_), .second, (sI (k &&& (3 : Int32))), (sI w1), .unset, .unset, .unset, .unset, .unset, .unset, .unset, .unset, .unset, .unset, .unset, .unset, .unset] [(.int w2)]) (PoW s Z consts_1 (Q_rm0 Z k n1_ d1_ n2_ d2_ z0 u sen h0 n0) 57 3543) := by
      intro w2 hj
      refine stp (fun _ => XS.istore X0.here hx rfl (hb hby at_33) rfl (l' := #[(sI k), (sJ n1_), .second, (sJ d1_), .second, (sJ n2_), .second, (sJ d2_), .second, (sI (k &&& (3 : Int32))), (sI w1), (sI w2), .unset, .unset, .unset, .unset, .unset, .unset, .unset, .unset, .unset, .unset, .unset, .unset]) rfl) ?_
      refine stp (fun _ => XS.lloadN X0.here hx rfl (hb hby at_35) rfl) ?_
      obtain ⟨_, _, ⟨T1, L1, k1, n1⟩, -, X1, ⟨Lc1, hQ1, l1, y1, z1⟩, st1⟩ := Jvm.LawKit.callS X0 hx (y := (⟨"com/example/brisk_dedup/briskdedup/engine/FractionMeanIsEmptyPinLaw", "den", "(J)J"⟩ : MethodName)) hown (mvT hZ (w_ hw (i := 0) rfl)) (mvT hZ (w_ hw (i := 1) rfl)) (mvT hZ (w_ hw (i := 2) rfl)) (mvT hZ (w_ hw (i := 3) rfl)) (by decide) (backOf (W := 0) (rm_den l Z a0 hw [] d1_  h0 n0 O0 ) hZ (w_ hw (i := 3) rfl) (w_ hw (i := 2) rfl) (by decide) (by decide)) (g := (mkF m 36 #[(sI k), (sJ n1_), .second, (sJ d1_), .second, (sJ n2_), .second, (sJ d2_), .second, (sI (k &&& (3 : Int32))), (sI w1), (sI w2), .unset, .unset, .unset, .unset, .unset, .unset, .unset, .unset, .unset, .unset, .unset, .unset] [(.long d1_)])) rfl (by rw [hml]; rfl) (argsL := [(.long d1_)]) (rest := []) (lenOf pd_18 rfl) rfl (by show 2 * 0 + _ ≤ _; exact Nat.le_of_eq rfl) (hb hby at_36) (fun _ _ => ⟨rfl, e0, (by decide : 0 + 0 ≤ _), (by decide : 0 + 0 ≤ _)⟩)
      dsimp only [Pt.U, Pt.locs, Pt.cells, Pt.slots] at X1 l1 y1 z1 st1 hQ1
      subst y1 z1
      obtain ⟨zq1, rfl, N1q, e1, pq1_0⟩ := hQ1
      have N1 : Fr n0 L1 := by rw [l1]; exact Fr.app N0 N1q
      refine stp st1 ?_
      refine stp (fun _ => XS.lstore X1.here hx rfl (hb hby at_39) rfl (l' := #[(sI k), (sJ n1_), .second, (sJ d1_), .second, (sJ n2_), .second, (sJ d2_), .second, (sI (k &&& (3 : Int32))), (sI w1), (sI w2), (sJ zq1), .second, .unset, .unset, .unset, .unset, .unset, .unset, .unset, .unset, .unset, .unset]) rfl) ?_
      show Go p e below T1 (mkF m 41 #[(sI k), (sJ n1_), .second, (sJ d1_), .second, (sJ n2_), .second, (sJ d2_), .second, (sI (k &&& (3 : Int32))), (sI w1), (sI w2), (sJ zq1), .second, .unset, .unset, .unset, .unset, .unset, .unset, .unset, .unset, .unset, .unset] []) _
      refine stp (fun _ => XS.lloadN X1.here hx rfl (hb hby at_41) rfl) ?_
      refine stp (fun _ => XS.lload X1.here hx rfl (hb hby at_42) rfl) ?_
      refine stp (fun _ => XS.iload X1.here hx rfl (hb hby at_44) rfl) ?_
      obtain ⟨_, _, ⟨T2, L2, k2, n2⟩, -, X2, ⟨Lc2, hQ2, l2, y2, z2⟩, st2⟩ := Jvm.LawKit.callS X1 hx (y := (⟨"com/example/brisk_dedup/briskdedup/engine/FractionMeanIsEmptyPinLaw", "num", "(JJZ)J"⟩ : MethodName)) hown (mvT hZ (w_ hw (i := 5) rfl)) (mvT hZ (w_ hw (i := 6) rfl)) (mvT hZ (w_ hw (i := 2) rfl)) (mvT hZ (w_ hw (i := 7) rfl)) (by decide) (backOf (W := 0) (rm_nm l Z a0 hw [] n1_ zq1 w1  h0 n0 O0 pq1_0) hZ (w_ hw (i := 7) rfl) (w_ hw (i := 2) rfl) (by decide) (by decide)) (g := (mkF m 46 #[(sI k), (sJ n1_), .second, (sJ d1_), .second, (sJ n2_), .second, (sJ d2_), .second, (sI (k &&& (3 : Int32))), (sI w1), (sI w2), (sJ zq1), .second, .unset, .unset, .unset, .unset, .unset, .unset, .unset, .unset, .unset, .unset] [(.int w1), (.long zq1), (.long n1_)])) rfl (by rw [hml]; rfl) (argsL := [(.long n1_), (.long zq1), (.int w1)]) (rest := []) (lenOf pd_22 rfl) rfl (by show 2 * 0 + _ ≤ _; exact Nat.le_of_eq rfl) (hb hby at_46) (fun _ _ => ⟨rfl, e1, (by decide : 0 + 0 ≤ _), (by decide : 0 + 0 ≤ _)⟩)
      dsimp only [Pt.U, Pt.locs, Pt.cells, Pt.slots] at X2 l2 y2 z2 st2 hQ2
      subst y2 z2
      obtain ⟨zq2, rfl, N2q, e2, pq2_0⟩ := hQ2
      have N2 : Fr n0 L2 := by rw [l2]; exact Fr.app N1 N2q
      refine stp st2 ?_
      refine stp (fun _ => XS.lstore X2.here hx rfl (hb hby at_49) rfl (l' := #[(sI k), (sJ n1_), .second, (sJ d1_), .second, (sJ n2_), .second, (sJ d2_), .second, (sI (k &&& (3 : Int32))), (sI w1), (sI w2), (sJ zq1), .second, (sJ zq2), .second, .unset, .unset, .unset, .unset, .unset, .unset, .unset, .unset]) rfl) ?_
      show Go p e below T2 (mkF m 51 #[(sI k), (sJ n1_), .second, (sJ d1_), .second, (sJ n2_), .second, (sJ d2_), .second, (sI (k &&& (3 : Int32))), (sI w1), (sI w2), (sJ zq1), .second, (sJ zq2), .second, .unset, .unset, .unset, .unset, .unset, .unset, .unset, .unset] []) _
      refine stp (fun _ => XS.lload X2.here hx rfl (hb hby at_51) rfl) ?_
      obtain ⟨_, _, ⟨T3, L3, k3, n3⟩, -, X3, ⟨Lc3, hQ3, l3, y3, z3⟩, st3⟩ := Jvm.LawKit.callS X2 hx (y := (⟨"com/example/brisk_dedup/briskdedup/engine/FractionMeanIsEmptyPinLaw", "den", "(J)J"⟩ : MethodName)) hown (mvT hZ (w_ hw (i := 0) rfl)) (mvT hZ (w_ hw (i := 1) rfl)) (mvT hZ (w_ hw (i := 2) rfl)) (mvT hZ (w_ hw (i := 3) rfl)) (by decide) (backOf (W := 0) (rm_den l Z a0 hw [] d2_  h0 n0 O0 ) hZ (w_ hw (i := 3) rfl) (w_ hw (i := 2) rfl) (by decide) (by decide)) (g := (mkF m 53 #[(sI k), (sJ n1_), .second, (sJ d1_), .second, (sJ n2_), .second, (sJ d2_), .second, (sI (k &&& (3 : Int32))), (sI w1), (sI w2), (sJ zq1), .second, (sJ zq2), .second, .unset, .unset, .unset, .unset, .unset, .unset, .unset, .unset] [(.long d2_)])) rfl (by rw [hml]; rfl) (argsL := [(.long d2_)]) (rest := []) (lenOf pd_18 rfl) rfl (by show 2 * 0 + _ ≤ _; exact Nat.le_of_eq rfl) (hb hby at_53) (fun _ _ => ⟨rfl, e2, (by decide : 0 + 0 ≤ _), (by decide : 0 + 0 ≤ _)⟩)
      dsimp only [Pt.U, Pt.locs, Pt.cells, Pt.slots] at X3 l3 y3 z3 st3 hQ3
      subst y3 z3
      obtain ⟨zq3, rfl, N3q, e3, pq3_0⟩ := hQ3
      have N3 : Fr n0 L3 := by rw [l3]; exact Fr.app N2 N3q
      refine stp st3 ?_
      refine stp (fun _ => XS.lstore X3.here hx rfl (hb hby at_56) rfl (l' := #[(sI k), (sJ n1_), .second, (sJ d1_), .second, (sJ n2_), .second, (sJ d2_), .second, (sI (k &&& (3 : Int32))), (sI w1), (sI w2), (sJ zq1), .second, (sJ zq2), .second, (sJ zq3), .second, .unset, .unset, .unset, .unset, .unset, .unset]) rfl) ?_
      refine stp (fun _ => XS.lload X3.here hx rfl (hb hby at_58) rfl) ?_
      refine stp (fun _ => XS.lload X3.here hx rfl (hb hby at_60) rfl) ?_
      show Go p e below T3 (mkF m 62 #[(sI k), (sJ n1_), .second, (sJ d1_), .second, (sJ n2_), .second, (sJ d2_), .second, (sI (k &&& (3 : Int32))), (sI w1), (sI w2), (sJ zq1), .second, (sJ zq2), .second, (sJ zq3), .second, .unset, .unset, .unset, .unset, .unset, .unset] [(.long zq3), (.long n2_)]) _
      refine stp (fun _ => XS.iload X3.here hx rfl (hb hby at_62) rfl) ?_
      obtain ⟨_, _, ⟨T4, L4, k4, n4⟩, -, X4, ⟨Lc4, hQ4, l4, y4, z4⟩, st4⟩ := Jvm.LawKit.callS X3 hx (y := (⟨"com/example/brisk_dedup/briskdedup/engine/FractionMeanIsEmptyPinLaw", "num", "(JJZ)J"⟩ : MethodName)) hown (mvT hZ (w_ hw (i := 5) rfl)) (mvT hZ (w_ hw (i := 6) rfl)) (mvT hZ (w_ hw (i := 2) rfl)) (mvT hZ (w_ hw (i := 7) rfl)) (by decide) (backOf (W := 0) (rm_nm l Z a0 hw [] n2_ zq3 w2  h0 n0 O0 pq3_0) hZ (w_ hw (i := 7) rfl) (w_ hw (i := 2) rfl) (by decide) (by decide)) (g := (mkF m 64 #[(sI k), (sJ n1_), .second, (sJ d1_), .second, (sJ n2_), .second, (sJ d2_), .second, (sI (k &&& (3 : Int32))), (sI w1), (sI w2), (sJ zq1), .second, (sJ zq2), .second, (sJ zq3), .second, .unset, .unset, .unset, .unset, .unset, .unset] [(.int w2), (.long zq3), (.long n2_)])) rfl (by rw [hml]; rfl) (argsL := [(.long n2_), (.long zq3), (.int w2)]) (rest := []) (lenOf pd_22 rfl) rfl (by show 2 * 0 + _ ≤ _; exact Nat.le_of_eq rfl) (hb hby at_64) (fun _ _ => ⟨rfl, e3, (by decide : 0 + 0 ≤ _), (by decide : 0 + 0 ≤ _)⟩)
      dsimp only [Pt.U, Pt.locs, Pt.cells, Pt.slots] at X4 l4 y4 z4 st4 hQ4
      subst y4 z4
      obtain ⟨zq4, rfl, N4q, e4, pq4_0⟩ := hQ4
      have N4 : Fr n0 L4 := by rw [l4]; exact Fr.app N3 N4q
      refine stp st4 ?_
      refine stp (fun _ => XS.lstore X4.here hx rfl (hb hby at_67) rfl (l' := #[(sI k), (sJ n1_), .second, (sJ d1_), .second, (sJ n2_), .second, (sJ d2_), .second, (sI (k &&& (3 : Int32))), (sI w1), (sI w2), (sJ zq1), .second, (sJ zq2), .second, (sJ zq3), .second, (sJ zq4), .second, .unset, .unset, .unset, .unset]) rfl) ?_
      refine stp (fun _ => XS.lloadN X4.here hx rfl (hb hby at_69) rfl) ?_
      refine stp (fun _ => XS.lload X4.here hx rfl (hb hby at_70) rfl) ?_
      show Go p e below T4 (mkF m 72 #[(sI k), (sJ n1_), .second, (sJ d1_), .second, (sJ n2_), .second, (sJ d2_), .second, (sI (k &&& (3 : Int32))), (sI w1), (sI w2), (sJ zq1), .second, (sJ zq2), .second, (sJ zq3), .second, (sJ zq4), .second, .unset, .unset, .unset, .unset] [(.long zq3), (.long n1_)]) _
      refine stp (fun _ => XS.iload X4.here hx rfl (hb hby at_72) rfl) ?_
      obtain ⟨_, _, ⟨T5, L5, k5, n5⟩, -, X5, ⟨Lc5, hQ5, l5, y5, z5⟩, st5⟩ := Jvm.LawKit.callS X4 hx (y := (⟨"com/example/brisk_dedup/briskdedup/engine/FractionMeanIsEmptyPinLaw", "num", "(JJZ)J"⟩ : MethodName)) hown (mvT hZ (w_ hw (i := 5) rfl)) (mvT hZ (w_ hw (i := 6) rfl)) (mvT hZ (w_ hw (i := 2) rfl)) (mvT hZ (w_ hw (i := 7) rfl)) (by decide) (backOf (W := 0) (rm_nm l Z a0 hw [] n1_ zq3 w1  h0 n0 O0 pq3_0) hZ (w_ hw (i := 7) rfl) (w_ hw (i := 2) rfl) (by decide) (by decide)) (g := (mkF m 74 #[(sI k), (sJ n1_), .second, (sJ d1_), .second, (sJ n2_), .second, (sJ d2_), .second, (sI (k &&& (3 : Int32))), (sI w1), (sI w2), (sJ zq1), .second, (sJ zq2), .second, (sJ zq3), .second, (sJ zq4), .second, .unset, .unset, .unset, .unset] [(.int w1), (.long zq3), (.long n1_)])) rfl (by rw [hml]; rfl) (argsL := [(.long n1_), (.long zq3), (.int w1)]) (rest := []) (lenOf pd_22 rfl) rfl (by show 2 * 0 + _ ≤ _; exact Nat.le_of_eq rfl) (hb hby at_74) (fun _ _ => ⟨rfl, e4, (by decide : 0 + 0 ≤ _), (by decide : 0 + 0 ≤ _)⟩)
      dsimp only [Pt.U, Pt.locs, Pt.cells, Pt.slots] at X5 l5 y5 z5 st5 hQ5
      subst y5 z5
      obtain ⟨zq5, rfl, N5q, e5, pq5_0⟩ := hQ5
      have N5 : Fr n0 L5 := by rw [l5]; exact Fr.app N4 N5q
      refine stp st5 ?_
      refine stp (fun _ => XS.lstore X5.here hx rfl (hb hby at_77) rfl (l' := #[(sI k), (sJ n1_), .second, (sJ d1_), .second, (sJ n2_), .second, (sJ d2_), .second, (sI (k &&& (3 : Int32))), (sI w1), (sI w2), (sJ zq1), .second, (sJ zq2), .second, (sJ zq3), .second, (sJ zq4), .second, (sJ zq5), .second, .unset, .unset]) rfl) ?_
      obtain ⟨T6, h6, X6, e6, E6, A6, D6, U6, st6⟩ := newO X5 hx hZ hown (w_ hw (i := 8) rfl) (w_ hw (i := 9) rfl) (w_ hw (i := 10) rfl) e5 (g := (mkF m 79 #[(sI k), (sJ n1_), .second, (sJ d1_), .second, (sJ n2_), .second, (sJ d2_), .second, (sI (k &&& (3 : Int32))), (sI w1), (sI w2), (sJ zq1), .second, (sJ zq2), .second, (sJ zq3), .second, (sJ zq4), .second, (sJ zq5), .second, .unset, .unset] [])) rfl (hb hby at_79) (by decide) (by decide)
      obtain ⟨b6, g6⟩ : ∃ z, z = h0.size := ⟨_, rfl⟩
      rw [← g6] at A6 D6 st6
      have ne7 : z0 ≠ b6 := O0.ne Q_z0.lt (Nat.le_trans (old_le O0) (Nat.le_of_eq g6.symm))
      have sz_b6 : h0.size ≤ b6 := Nat.le_trans (Keep.refl h0 []).1 (Nat.le_of_eq g6.symm)
      have ge_b6 : n0 ≤ b6 := Nat.le_trans (old_le O0) (Nat.le_of_eq g6.symm)
      have hk := Nat.le_trans hk E6.1
      have CR := CR.trans (CHr.ext E6 CR.1)
      have K6 : Keep h0 h6 [] := (Keep.refl h0 []).ext E6
      have O6 := O0.ext E6
      have F8 : Fld Z h6 b6 "com/example/brisk_dedup/briskdedup/engine/FractionMean" "denominator" "J" (.long (0 : Int64)) := D6 (Or.inl (w_ hw (i := 18) rfl)) (ty := .long) (by decide)
      have F9 : Fld Z h6 b6 "com/example/brisk_dedup/briskdedup/engine/FractionMean" "count" "I" (.int (0 : Int32)) := D6 (Or.inl (w_ hw (i := 25) rfl)) (ty := .int) (by decide)
      have F10 : Fld Z h6 b6 "com/example/brisk_dedup/briskdedup/engine/FractionMean" "bigNumerator" "Ljava/math/BigInteger;" .null := D6 (Or.inl (w_ hw (i := 32) rfl)) (ty := (.object "java/math/BigInteger")) (by decide)
      have F11 : Fld Z h6 b6 "com/example/brisk_dedup/briskdedup/engine/FractionMean" "numerator" "J" (.long (0 : Int64)) := D6 (Or.inl (w_ hw (i := 34) rfl)) (ty := .long) (by decide)
      have F12 : Fld Z h6 b6 "com/example/brisk_dedup/briskdedup/engine/FractionMean" "bigDenominator" "Ljava/math/BigInteger;" .null := D6 (Or.inl (w_ hw (i := 140) rfl)) (ty := (.object "java/math/BigInteger")) (by decide)
      refine stp st6 ?_
      refine stp (fun _ => XS.dup X6.here hx rfl (hb hby at_82) rfl rfl) ?_
      show Go p e below T6 (mkF m 83 #[(sI k), (sJ n1_), .second, (sJ d1_), .second, (sJ n2_), .second, (sJ d2_), .second, (sI (k &&& (3 : Int32))), (sI w1), (sI w2), (sJ zq1), .second, (sJ zq2), .second, (sJ zq3), .second, (sJ zq4), .second, (sJ zq5), .second, .unset, .unset] [(.ref b6), (.ref b6)]) _
      obtain ⟨_, _, ⟨T13, L13, k13, n13⟩, -, X13, ⟨Lc13, hQ13, l13, y13, z13⟩, st13⟩ := X6.specialBack hx (y := (⟨"com/example/brisk_dedup/briskdedup/engine/FractionMean", "<init>", "()V"⟩ : MethodName)) rfl hown (mvT hZ (w_ hw (i := 11) rfl)) (mvT hZ (w_ hw (i := 12) rfl)) (mvT hZ (w_ hw (i := 13) rfl)) (by decide) (backOf (W := 1) (rm_fi l Z a0 hw [] b6  h6 n0 O6 A6 F8 F11 F10 F12 F9 ge_b6) hZ (w_ hw (i := 13) rfl) (w_ hw (i := 10) rfl) (by decide) (by decide)) (g := (mkF m 83 #[(sI k), (sJ n1_), .second, (sJ d1_), .second, (sJ n2_), .second, (sJ d2_), .second, (sI (k &&& (3 : Int32))), (sI w1), (sI w2), (sJ zq1), .second, (sJ zq2), .second, (sJ zq3), .second, (sJ zq4), .second, (sJ zq5), .second, .unset, .unset] [(.ref b6), (.ref b6)])) rfl (by rw [hml]; rfl) (Steps.refl _) (a := b6) (argsL := []) (rest := [(.ref b6)]) (lenOf pd_0 rfl) rfl (by show 2 * 0 + _ ≤ _; exact Nat.le_of_eq rfl) (hb hby at_83) (fun _ _ => ⟨rfl, e6, (by decide : 1 + 0 ≤ _), (by decide : 5 + 0 ≤ _)⟩)
      dsimp only [Pt.U, Pt.locs, Pt.cells, Pt.slots] at X13 l13 y13 z13 st13 hQ13
      subst y13 z13
      obtain ⟨rfl, N13q, K13q, r13_0, r13_1, r13_2, r13_3, r13_4⟩ := hQ13
      have N13 : Fr n0 L13 := by rw [l13]; exact Fr.app N5 N13q
      have f14 := A6.keep K13q
      have hk := Nat.le_trans hk K13q.1
      have CR := CR.trans (CHr.keep K13q (sfS (Safe.exa hZ.alike A6 (by decide) (by decide)) sf0) CR.1)
      have K13 : Keep h0 T13.heap [] := K6.trans K13q (allS (Or.inr sz_b6) all0)
      have O13 := O6.keep K13q (allS ge_b6 all0)
      refine stt st13 ?_
      refine stp (fun _ => XS.astore X13.here hx rfl (hb hby at_86) rfl rfl (l' := #[(sI k), (sJ n1_), .second, (sJ d1_), .second, (sJ n2_), .second, (sJ d2_), .second, (sI (k &&& (3 : Int32))), (sI w1), (sI w2), (sJ zq1), .second, (sJ zq2), .second, (sJ zq3), .second, (sJ zq4), .second, (sJ zq5), .second, (sR b6), .unset]) rfl) ?_
      refine stp (fun _ => XS.aload X13.here hx rfl (hb hby at_88) rfl rfl) ?_
      obtain ⟨cq15, kq15, q15a, q15b, q15c⟩ := isOf hZ rfl f14
      obtain ⟨_, _, ⟨T15, L15, k15, n15⟩, -, X15, ⟨Lc15, hQ15, l15, y15, z15⟩, st15⟩ := X13.virtualBack hx (y := (⟨"com/example/brisk_dedup/briskdedup/engine/FractionMean", "isEmpty", "()Z"⟩ : MethodName)) (z := (⟨"com/example/brisk_dedup/briskdedup/engine/FractionMean", "isEmpty", "()Z"⟩ : MethodName)) hown (mvT hZ (w_ hw (i := 19) rfl)) (mvT hZ (w_ hw (i := 20) rfl)) (notFace_of_selects (args := #[]) (mvT hZ (w_ hw (i := 22) rfl))) (mvT hZ (w_ hw (i := 22) rfl)) (mvT hZ (w_ hw (i := 21) rfl)) (by decide) (backOf (W := 0) (rm_ie0 l Z a0 hw [] b6  T13.heap n0 O13 f14 r13_4) hZ (w_ hw (i := 23) rfl) (w_ hw (i := 10) rfl) (by decide) (by decide)) q15a q15c (g := (mkF m 90 #[(sI k), (sJ n1_), .second, (sJ d1_), .second, (sJ n2_), .second, (sJ d2_), .second, (sI (k &&& (3 : Int32))), (sI w1), (sI w2), (sJ zq1), .second, (sJ zq2), .second, (sJ zq3), .second, (sJ zq4), .second, (sJ zq5), .second, (sR b6), .unset] [(.ref b6)])) rfl (by rw [hml]; rfl) (Steps.refl _) (argsL := []) (rest := []) (lenOf pd_23 rfl) rfl (by show 2 * 0 + _ ≤ _; exact Nat.le_of_eq rfl) (hb hby at_90) (fun _ _ => ⟨rfl, rfl, (by decide : 1 + 0 ≤ _), (by decide : 5 + 0 ≤ _)⟩)
      dsimp only [Pt.U, Pt.locs, Pt.cells, Pt.slots] at X15 l15 y15 z15 st15 hQ15
      subst y15 z15
      obtain ⟨rfl, N15q, e15⟩ := hQ15
      have N15 : Fr n0 L15 := by rw [l15]; exact Fr.app N13 N15q
      refine stt st15 ?_
      refine stp (fun _ => XS.istore X15.here hx rfl (hb hby at_93) rfl (l' := #[(sI k), (sJ n1_), .second, (sJ d1_), .second, (sJ n2_), .second, (sJ d2_), .second, (sI (k &&& (3 : Int32))), (sI w1), (sI w2), (sJ zq1), .second, (sJ zq2), .second, (sJ zq3), .second, (sJ zq4), .second, (sJ zq5), .second, (sR b6), (sI (1 : Int32))]) rfl) ?_
      show Go p e below T15 (mkF m 95 #[(sI k), (sJ n1_), .second, (sJ d1_), .second, (sJ n2_), .second, (sJ d2_), .second, (sI (k &&& (3 : Int32))), (sI w1), (sI w2), (sJ zq1), .second, (sJ zq2), .second, (sJ zq3), .second, (sJ zq4), .second, (sJ zq5), .second, (sR b6), (sI (1 : Int32))] []) _
      refine stp (fun _ => XS.iload X15.here hx rfl (hb hby at_95) rfl) ?_
      refine stp (fun _ => XS.iconst X15.here hx rfl (hb hby at_97)) ?_
      by_cases q98_16 : (k &&& (3 : Int32)) < (1 : Int32)
      · refine stp (fun _ => XS.icmpYes X15.here hx rfl (pc0 := 98) (pc' := 130) rfl (hb hby at_98) rfl (XT.ii_lt_t q98_16) (by decide) (by decide)) ?_
        refine stp (fun _ => XS.iload X15.here hx rfl (hb hby at_130) rfl) ?_
        refine stp (fun _ => XS.iconst X15.here hx rfl (hb hby at_132)) ?_
        show Go p e below T15 (mkF m 133 #[(sI k), (sJ n1_), .second, (sJ d1_), .second, (sJ n2_), .second, (sJ d2_), .second, (sI (k &&& (3 : Int32))), (sI w1), (sI w2), (sJ zq1), .second, (sJ zq2), .second, (sJ zq3), .second, (sJ zq4), .second, (sJ zq5), .second, (sR b6), (sI (1 : Int32))] [(.int (2 : Int32)), (.int (k &&& (3 : Int32)))]) _
        refine stp (fun _ => XS.icmpYes X15.here hx rfl (pc0 := 133) (pc' := 165) rfl (hb hby at_133) rfl (XT.ii_lt_t (own_c12 q98_16)) (by decide) (by decide)) ?_
        refine stp (fun _ => XS.iload X15.here hx rfl (hb hby at_165) rfl) ?_
        refine stp (fun _ => XS.iconst X15.here hx rfl (hb hby at_167)) ?_
        refine stp (fun _ => XS.icmpYes X15.here hx rfl (pc0 := 168) (pc' := 200) rfl (hb hby at_168) rfl (XT.ii_lt_t (own_c13 q98_16)) (by decide) (by decide)) ?_
        refine stp (fun _ => XS.iload X15.here hx rfl (hb hby at_200) rfl) ?_
        show Go p e below T15 (mkF m 202 #[(sI k), (sJ n1_), .second, (sJ d1_), .second, (sJ n2_), .second, (sJ d2_), .second, (sI (k &&& (3 : Int32))), (sI w1), (sI w2), (sJ zq1), .second, (sJ zq2), .second, (sJ zq3), .second, (sJ zq4), .second, (sJ zq5), .second, (sR b6), (sI (1 : Int32))] [(.int (k &&& (3 : Int32)))]) _
        by_cases q202_17 : (k &&& (3 : Int32)) = 0
        rotate_left
        · refine stp (fun _ => XS.ifYes X15.here hx rfl (pc0 := 202) (pc' := 225) rfl (hb hby at_202) rfl (XT.i0_ne_t q202_17) (by decide) (by decide)) ?_
          refine stp (fun _ => XS.iload X15.here hx rfl (hb hby at_225) rfl) ?_
          refine outNW X15 hx hZ hEL e15 hS hk CR (t := .boolean) hret (by simp) (hb hby at_227) hlk (by decide) (by decide) ?_
          exact ⟨rfl, N15⟩
        refine stp (fun _ => XS.ifNo X15.here hx rfl (hb hby at_202) rfl (XT.i0_ne_f q202_17)) ?_
        refine stp (fun _ => XS.iload X15.here hx rfl (hb hby at_205) rfl) ?_
        refine stp (fun _ => XS.ifNo X15.here hx rfl (hb hby at_207) rfl (by decide)) ?_
        refine stp (fun _ => XS.aload X15.here hx rfl (hb hby at_210) rfl rfl) ?_
        obtain ⟨cq18, kq18, q18a, q18b, q18c⟩ := isOf hZ e15 f14
        obtain ⟨_, _, ⟨T18, L18, k18, n18⟩, -, X18, ⟨Lc18, hQ18, l18, y18, z18⟩, st18⟩ := X15.virtualBack hx (y := (⟨"com/example/brisk_dedup/briskdedup/engine/FractionMean", "isEmpty", "()Z"⟩ : MethodName)) (z := (⟨"com/example/brisk_dedup/briskdedup/engine/FractionMean", "isEmpty", "()Z"⟩ : MethodName)) hown (mvT hZ (w_ hw (i := 19) rfl)) (mvT hZ (w_ hw (i := 20) rfl)) (notFace_of_selects (args := #[]) (mvT hZ (w_ hw (i := 22) rfl))) (mvT hZ (w_ hw (i := 22) rfl)) (mvT hZ (w_ hw (i := 21) rfl)) (by decide) (backOf (W := 0) (rm_ie0 l Z a0 hw [] b6  T13.heap n0 O13 f14 r13_4) hZ (w_ hw (i := 23) rfl) (w_ hw (i := 10) rfl) (by decide) (by decide)) q18a q18c (g := (mkF m 212 #[(sI k), (sJ n1_), .second, (sJ d1_), .second, (sJ n2_), .second, (sJ d2_), .second, (sI (k &&& (3 : Int32))), (sI w1), (sI w2), (sJ zq1), .second, (sJ zq2), .second, (sJ zq3), .second, (sJ zq4), .second, (sJ zq5), .second, (sR b6), (sI (1 : Int32))] [(.ref b6)])) rfl (by rw [hml]; rfl) (Steps.refl _) (argsL := []) (rest := []) (lenOf pd_23 rfl) rfl (by show 2 * 0 + _ ≤ _; exact Nat.le_of_eq rfl) (hb hby at_212) (fun _ _ => ⟨rfl, e15, (by decide : 1 + 0 ≤ _), (by decide : 5 + 0 ≤ _)⟩)
        dsimp only [Pt.U, Pt.locs, Pt.cells, Pt.slots] at X18 l18 y18 z18 st18 hQ18
        subst y18 z18
        obtain ⟨rfl, N18q, e18⟩ := hQ18
        have N18 : Fr n0 L18 := by rw [l18]; exact Fr.app N15 N18q
        refine stt st18 ?_
        show Go p e below T18 (mkF m 215 #[(sI k), (sJ n1_), .second, (sJ d1_), .second, (sJ n2_), .second, (sJ d2_), .second, (sI (k &&& (3 : Int32))), (sI w1), (sI w2), (sJ zq1), .second, (sJ zq2), .second, (sJ zq3), .second, (sJ zq4), .second, (sJ zq5), .second, (sR b6), (sI (1 : Int32))] [(.int (1 : Int32))]) _
        refine stp (fun _ => XS.ifNo X18.here hx rfl (hb hby at_215) rfl (by decide)) ?_
        refine stp (fun _ => XS.iconst X18.here hx rfl (hb hby at_218)) ?_
        refine stp (fun _ => XS.goto X18.here hx rfl (pc0 := 219) (pc' := 223) rfl (hb hby at_219) (by decide) (by decide)) ?_
        refine stp (fun _ => XS.istore X18.here hx rfl (hb hby at_223) rfl (l' := #[(sI k), (sJ n1_), .second, (sJ d1_), .second, (sJ n2_), .second, (sJ d2_), .second, (sI (k &&& (3 : Int32))), (sI w1), (sI w2), (sJ zq1), .second, (sJ zq2), .second, (sJ zq3), .second, (sJ zq4), .second, (sJ zq5), .second, (sR b6), (sI (1 : Int32))]) rfl) ?_
        refine stp (fun _ => XS.iload X18.here hx rfl (hb hby at_225) rfl) ?_
        show Go p e below T18 (mkF m 227 #[(sI k), (sJ n1_), .second, (sJ d1_), .second, (sJ n2_), .second, (sJ d2_), .second, (sI (k &&& (3 : Int32))), (sI w1), (sI w2), (sJ zq1), .second, (sJ zq2), .second, (sJ zq3), .second, (sJ zq4), .second, (sJ zq5), .second, (sR b6), (sI (1 : Int32))] [(.int (1 : Int32))]) _
        refine outNW X18 hx hZ hEL e18 hS hk CR (t := .boolean) hret (by simp) (hb hby at_227) hlk (by decide) (by decide) ?_
        exact ⟨rfl, N18⟩
      refine stp (fun _ => XS.icmpNo X15.here hx rfl (hb hby at_98) rfl (XT.ii_lt_f q98_16)) ?_
      refine stp (fun _ => XS.aload X15.here hx rfl (hb hby at_101) rfl rfl) ?_
      refine stp (fun _ => XS.lload X15.here hx rfl (hb hby at_103) rfl) ?_
      show Go p e below T15 (mkF m 105 #[(sI k), (sJ n1_), .second, (sJ d1_), .second, (sJ n2_), .second, (sJ d2_), .second, (sI (k &&& (3 : Int32))), (sI w1), (sI w2), (sJ zq1), .second, (sJ zq2), .second, (sJ zq3), .second, (sJ zq4), .second, (sJ zq5), .second, (sR b6), (sI (1 : Int32))] [(.long zq2), (.ref b6)]) _
      refine stp (fun _ => XS.lload X15.here hx rfl (hb hby at_105) rfl) ?_
      obtain ⟨cq19, kq19, q19a, q19b, q19c⟩ := isOf hZ e15 f14
      obtain ⟨_, _, ⟨T19, L19, k19, n19⟩, -, X19, hS19, gg19, hO19, st19⟩ := X15.virtualBackS hx (y := (⟨"com/example/brisk_dedup/briskdedup/engine/FractionMean", "add", "(JJ)V"⟩ : MethodName)) (z := (⟨"com/example/brisk_dedup/briskdedup/engine/FractionMean", "add", "(JJ)V"⟩ : MethodName)) hown (mvT hZ (w_ hw (i := 26) rfl)) (mvT hZ (w_ hw (i := 27) rfl)) (notFace_of_selects (args := #[]) (mvT hZ (w_ hw (i := 29) rfl))) (mvT hZ (w_ hw (i := 29) rfl)) (mvT hZ (w_ hw (i := 28) rfl)) (by decide) (backOfH2 (W := 0) (rm_al l Z a0 hw [] b6 zq2 zq1 (0 : Int32) (0 : Int64) (1 : Int64) z0 u sen T13.heap n0 O13 hEL f14 r13_4 r13_1 r13_0 r13_2 r13_3 S_ZERO Q_z0 S_UNASSIGNED_STACK S_SUPPRESSED_SENTINEL ge_b6 (by decide) (by decide) pq2_0 pq1_0.1 hPC hl hu hsen) hZ (w_ hw (i := 30) rfl) (w_ hw (i := 10) rfl) (by decide) (by decide) hEL CR.1 (knows_since hS hKn).1 (knows_since hS hKn).2) q19a q19c (g := (mkF m 107 #[(sI k), (sJ n1_), .second, (sJ d1_), .second, (sJ n2_), .second, (sJ d2_), .second, (sI (k &&& (3 : Int32))), (sI w1), (sI w2), (sJ zq1), .second, (sJ zq2), .second, (sJ zq3), .second, (sJ zq4), .second, (sJ zq5), .second, (sR b6), (sI (1 : Int32))] [(.long zq1), (.long zq2), (.ref b6)])) rfl (by rw [hml]; rfl) (Steps.refl _) (argsL := [(.long zq2), (.long zq1)]) (rest := []) (lenOf pd_24 rfl) rfl (by show 2 * 0 + _ ≤ _; exact Nat.le_of_eq rfl) (hb hby at_107) (fun _ _ => ⟨rfl, e15, (by decide : 1 + 24 ≤ _), (by decide : 5 + 3066 ≤ _)⟩)
      dsimp only [Pt.U, Pt.locs, Pt.cells, Pt.slots] at X19 hS19 gg19 hO19 st19
      rcases hO19 with ⟨Lc19, hQ19, l19, y19, z19, CRn19⟩ | ⟨Lc19, hQ19, l19, y19, z19, CRn19⟩
      · subst y19 z19
        obtain ⟨X19, hS, hZ, hown⟩ := rebS hS (by rw [e15]; exact hk) X19 hS19 gg19 hZ hown
        obtain ⟨q319, q419, rfl, N19q, K19q, r19_0, r19_1, r19_2, r19_3, r19_4, pq19_0⟩ := hQ19
        have N19 : Fr n0 L19 := by rw [l19]; exact Fr.app N15 N19q
        have f20 := f14.keep K19q
        have K19 : Keep h0 T19.heap [] := K13.trans K19q (allS (Or.inr sz_b6) all0)
        have O19 := O13.keep K19q (allS ge_b6 all0)
        have hk : T19.heap.size ≤ T19.heap.size := Nat.le_refl _
        have CR := CR.trans CRn19
        refine stt st19 ?_
        refine stp (fun _ => XS.iload X19.here hx rfl (hb hby at_110) rfl) ?_
        refine stp (fun _ => XS.ifNo X19.here hx rfl (hb hby at_112) rfl (by decide)) ?_
        refine stp (fun _ => XS.aload X19.here hx rfl (hb hby at_115) rfl rfl) ?_
        show Go p e below T19 (mkF m 117 #[(sI k), (sJ n1_), .second, (sJ d1_), .second, (sJ n2_), .second, (sJ d2_), .second, (sI (k &&& (3 : Int32))), (sI w1), (sI w2), (sJ zq1), .second, (sJ zq2), .second, (sJ zq3), .second, (sJ zq4), .second, (sJ zq5), .second, (sR b6), (sI (1 : Int32))] [(.ref b6)]) _
        obtain ⟨cq21, kq21, q21a, q21b, q21c⟩ := isOf hZ rfl f20
        obtain ⟨_, _, ⟨T21, L21, k21, n21⟩, -, X21, ⟨Lc21, hQ21, l21, y21, z21⟩, st21⟩ := X19.virtualBack hx (y := (⟨"com/example/brisk_dedup/briskdedup/engine/FractionMean", "isEmpty", "()Z"⟩ : MethodName)) (z := (⟨"com/example/brisk_dedup/briskdedup/engine/FractionMean", "isEmpty", "()Z"⟩ : MethodName)) hown (mvT hZ (w_ hw (i := 19) rfl)) (mvT hZ (w_ hw (i := 20) rfl)) (notFace_of_selects (args := #[]) (mvT hZ (w_ hw (i := 22) rfl))) (mvT hZ (w_ hw (i := 22) rfl)) (mvT hZ (w_ hw (i := 21) rfl)) (by decide) (backOf (W := 0) (rm_ie1 l Z a0 hw [] b6 ((0 : Int32) + (1 : Int32)) T19.heap n0 O19 f20 r19_0 (by decide)) hZ (w_ hw (i := 23) rfl) (w_ hw (i := 10) rfl) (by decide) (by decide)) q21a q21c (g := (mkF m 117 #[(sI k), (sJ n1_), .second, (sJ d1_), .second, (sJ n2_), .second, (sJ d2_), .second, (sI (k &&& (3 : Int32))), (sI w1), (sI w2), (sJ zq1), .second, (sJ zq2), .second, (sJ zq3), .second, (sJ zq4), .second, (sJ zq5), .second, (sR b6), (sI (1 : Int32))] [(.ref b6)])) rfl (by rw [hml]; rfl) (Steps.refl _) (argsL := []) (rest := []) (lenOf pd_23 rfl) rfl (by show 2 * 0 + _ ≤ _; exact Nat.le_of_eq rfl) (hb hby at_117) (fun _ _ => ⟨rfl, rfl, (by decide : 1 + 0 ≤ _), (by decide : 5 + 0 ≤ _)⟩)
        dsimp only [Pt.U, Pt.locs, Pt.cells, Pt.slots] at X21 l21 y21 z21 st21 hQ21
        subst y21 z21
        obtain ⟨rfl, N21q, e21⟩ := hQ21
        have N21 : Fr n0 L21 := by rw [l21]; exact Fr.app N19 N21q
        refine stt st21 ?_
        refine stp (fun _ => XS.ifNo X21.here hx rfl (hb hby at_120) rfl (by decide)) ?_
        refine stp (fun _ => XS.iconst X21.here hx rfl (hb hby at_123)) ?_
        refine stp (fun _ => XS.goto X21.here hx rfl (pc0 := 124) (pc' := 128) rfl (hb hby at_124) (by decide) (by decide)) ?_
        refine stp (fun _ => XS.istore X21.here hx rfl (hb hby at_128) rfl (l' := #[(sI k), (sJ n1_), .second, (sJ d1_), .second, (sJ n2_), .second, (sJ d2_), .second, (sI (k &&& (3 : Int32))), (sI w1), (sI w2), (sJ zq1), .second, (sJ zq2), .second, (sJ zq3), .second, (sJ zq4), .second, (sJ zq5), .second, (sR b6), (sI (1 : Int32))]) rfl) ?_
        show Go p e below T21 (mkF m 130 #[(sI k), (sJ n1_), .second, (sJ d1_), .second, (sJ n2_), .second, (sJ d2_), .second, (sI (k &&& (3 : Int32))), (sI w1), (sI w2), (sJ zq1), .second, (sJ zq2), .second, (sJ zq3), .second, (sJ zq4), .second, (sJ zq5), .second, (sR b6), (sI (1 : Int32))] []) _
        refine stp (fun _ => XS.iload X21.here hx rfl (hb hby at_130) rfl) ?_
        refine stp (fun _ => XS.iconst X21.here hx rfl (hb hby at_132)) ?_
        by_cases q133_22 : (k &&& (3 : Int32)) < (2 : Int32)
        · refine stp (fun _ => XS.icmpYes X21.here hx rfl (pc0 := 133) (pc' := 165) rfl (hb hby at_133) rfl (XT.ii_lt_t q133_22) (by decide) (by decide)) ?_
          refine stp (fun _ => XS.iload X21.here hx rfl (hb hby at_165) rfl) ?_
          refine stp (fun _ => XS.iconst X21.here hx rfl (hb hby at_167)) ?_
          show Go p e below T21 (mkF m 168 #[(sI k), (sJ n1_), .second, (sJ d1_), .second, (sJ n2_), .second, (sJ d2_), .second, (sI (k &&& (3 : Int32))), (sI w1), (sI w2), (sJ zq1), .second, (sJ zq2), .second, (sJ zq3), .second, (sJ zq4), .second, (sJ zq5), .second, (sR b6), (sI (1 : Int32))] [(.int (3 : Int32)), (.int (k &&& (3 : Int32)))]) _
          refine stp (fun _ => XS.icmpYes X21.here hx rfl (pc0 := 168) (pc' := 200) rfl (hb hby at_168) rfl (XT.ii_lt_t (own_c23 q133_22)) (by decide) (by decide)) ?_
          refine stp (fun _ => XS.iload X21.here hx rfl (hb hby at_200) rfl) ?_
          refine stp (fun _ => XS.ifYes X21.here hx rfl (pc0 := 202) (pc' := 225) rfl (hb hby at_202) rfl (XT.i0_ne_t (own_c0 q98_16)) (by decide) (by decide)) ?_
          refine stp (fun _ => XS.iload X21.here hx rfl (hb hby at_225) rfl) ?_
          refine outNW X21 hx hZ hEL e21 hS hk CR (t := .boolean) hret (by simp) (hb hby at_227) hlk (by decide) (by decide) ?_
          exact ⟨rfl, N21⟩
        refine stp (fun _ => XS.icmpNo X21.here hx rfl (hb hby at_133) rfl (XT.ii_lt_f q133_22)) ?_
        refine stp (fun _ => XS.aload X21.here hx rfl (hb hby at_136) rfl rfl) ?_
        refine stp (fun _ => XS.lload X21.here hx rfl (hb hby at_138) rfl) ?_
        show Go p e below T21 (mkF m 140 #[(sI k), (sJ n1_), .second, (sJ d1_), .second, (sJ n2_), .second, (sJ d2_), .second, (sI (k &&& (3 : Int32))), (sI w1), (sI w2), (sJ zq1), .second, (sJ zq2), .second, (sJ zq3), .second, (sJ zq4), .second, (sJ zq5), .second, (sR b6), (sI (1 : Int32))] [(.long zq4), (.ref b6)]) _
        refine stp (fun _ => XS.lload X21.here hx rfl (hb hby at_140) rfl) ?_
        obtain ⟨cq23, kq23, q23a, q23b, q23c⟩ := isOf hZ e21 f20
        obtain ⟨_, _, ⟨T23, L23, k23, n23⟩, -, X23, hS23, gg23, hO23, st23⟩ := X21.virtualBackS hx (y := (⟨"com/example/brisk_dedup/briskdedup/engine/FractionMean", "add", "(JJ)V"⟩ : MethodName)) (z := (⟨"com/example/brisk_dedup/briskdedup/engine/FractionMean", "add", "(JJ)V"⟩ : MethodName)) hown (mvT hZ (w_ hw (i := 26) rfl)) (mvT hZ (w_ hw (i := 27) rfl)) (notFace_of_selects (args := #[]) (mvT hZ (w_ hw (i := 29) rfl))) (mvT hZ (w_ hw (i := 29) rfl)) (mvT hZ (w_ hw (i := 28) rfl)) (by decide) (backOfH2 (W := 0) (rm_al l Z a0 hw [] b6 zq4 zq3 ((0 : Int32) + (1 : Int32)) q319 q419 z0 u sen T19.heap n0 O19 hEL f20 r19_0 r19_1 r19_2 r19_3 r19_4 S_ZERO Q_z0 S_UNASSIGNED_STACK S_SUPPRESSED_SENTINEL ge_b6 pq19_0.1 pq19_0.2 pq4_0 pq3_0.1 hPC hl hu hsen) hZ (w_ hw (i := 30) rfl) (w_ hw (i := 10) rfl) (by decide) (by decide) hEL CR.1 (knows_since hS hKn).1 (knows_since hS hKn).2) q23a q23c (g := (mkF m 142 #[(sI k), (sJ n1_), .second, (sJ d1_), .second, (sJ n2_), .second, (sJ d2_), .second, (sI (k &&& (3 : Int32))), (sI w1), (sI w2), (sJ zq1), .second, (sJ zq2), .second, (sJ zq3), .second, (sJ zq4), .second, (sJ zq5), .second, (sR b6), (sI (1 : Int32))] [(.long zq3), (.long zq4), (.ref b6)])) rfl (by rw [hml]; rfl) (Steps.refl _) (argsL := [(.long zq4), (.long zq3)]) (rest := []) (lenOf pd_24 rfl) rfl (by show 2 * 0 + _ ≤ _; exact Nat.le_of_eq rfl) (hb hby at_142) (fun _ _ => ⟨rfl, e21, (by decide : 1 + 24 ≤ _), (by decide : 5 + 3066 ≤ _)⟩)
        dsimp only [Pt.U, Pt.locs, Pt.cells, Pt.slots] at X23 hS23 gg23 hO23 st23
        rcases hO23 with ⟨Lc23, hQ23, l23, y23, z23, CRn23⟩ | ⟨Lc23, hQ23, l23, y23, z23, CRn23⟩
        · subst y23 z23
          obtain ⟨X23, hS, hZ, hown⟩ := rebS hS (by rw [e21]; exact hk) X23 hS23 gg23 hZ hown
          obtain ⟨q323, q423, rfl, N23q, K23q, r23_0, r23_1, r23_2, r23_3, r23_4, pq23_0⟩ := hQ23
          have N23 : Fr n0 L23 := by rw [l23]; exact Fr.app N21 N23q
          have f24 := f20.keep K23q
          have K23 : Keep h0 T23.heap [] := K19.trans K23q (allS (Or.inr sz_b6) all0)
          have O23 := O19.keep K23q (allS ge_b6 all0)
          have hk : T23.heap.size ≤ T23.heap.size := Nat.le_refl _
          have CR := CR.trans CRn23
          refine stt st23 ?_
          refine stp (fun _ => XS.iload X23.here hx rfl (hb hby at_145) rfl) ?_
          refine stp (fun _ => XS.ifNo X23.here hx rfl (hb hby at_147) rfl (by decide)) ?_
          refine stp (fun _ => XS.aload X23.here hx rfl (hb hby at_150) rfl rfl) ?_
          show Go p e below T23 (mkF m 152 #[(sI k), (sJ n1_), .second, (sJ d1_), .second, (sJ n2_), .second, (sJ d2_), .second, (sI (k &&& (3 : Int32))), (sI w1), (sI w2), (sJ zq1), .second, (sJ zq2), .second, (sJ zq3), .second, (sJ zq4), .second, (sJ zq5), .second, (sR b6), (sI (1 : Int32))] [(.ref b6)]) _
          obtain ⟨cq25, kq25, q25a, q25b, q25c⟩ := isOf hZ rfl f24
          obtain ⟨_, _, ⟨T25, L25, k25, n25⟩, -, X25, ⟨Lc25, hQ25, l25, y25, z25⟩, st25⟩ := X23.virtualBack hx (y := (⟨"com/example/brisk_dedup/briskdedup/engine/FractionMean", "isEmpty", "()Z"⟩ : MethodName)) (z := (⟨"com/example/brisk_dedup/briskdedup/engine/FractionMean", "isEmpty", "()Z"⟩ : MethodName)) hown (mvT hZ (w_ hw (i := 19) rfl)) (mvT hZ (w_ hw (i := 20) rfl)) (notFace_of_selects (args := #[]) (mvT hZ (w_ hw (i := 22) rfl))) (mvT hZ (w_ hw (i := 22) rfl)) (mvT hZ (w_ hw (i := 21) rfl)) (by decide) (backOf (W := 0) (rm_ie1 l Z a0 hw [] b6 (((0 : Int32) + (1 : Int32)) + (1 : Int32)) T23.heap n0 O23 f24 r23_0 (by decide)) hZ (w_ hw (i := 23) rfl) (w_ hw (i := 10) rfl) (by decide) (by decide)) q25a q25c (g := (mkF m 152 #[(sI k), (sJ n1_), .second, (sJ d1_), .second, (sJ n2_), .second, (sJ d2_), .second, (sI (k &&& (3 : Int32))), (sI w1), (sI w2), (sJ zq1), .second, (sJ zq2), .second, (sJ zq3), .second, (sJ zq4), .second, (sJ zq5), .second, (sR b6), (sI (1 : Int32))] [(.ref b6)])) rfl (by rw [hml]; rfl) (Steps.refl _) (argsL := []) (rest := []) (lenOf pd_23 rfl) rfl (by show 2 * 0 + _ ≤ _; exact Nat.le_of_eq rfl) (hb hby at_152) (fun _ _ => ⟨rfl, rfl, (by decide : 1 + 0 ≤ _), (by decide : 5 + 0 ≤ _)⟩)
          dsimp only [Pt.U, Pt.locs, Pt.cells, Pt.slots] at X25 l25 y25 z25 st25 hQ25
          subst y25 z25
          obtain ⟨rfl, N25q, e25⟩ := hQ25
          have N25 : Fr n0 L25 := by rw [l25]; exact Fr.app N23 N25q
          refine stt st25 ?_
          refine stp (fun _ => XS.ifNo X25.here hx rfl (hb hby at_155) rfl (by decide)) ?_
          refine stp (fun _ => XS.iconst X25.here hx rfl (hb hby at_158)) ?_
          refine stp (fun _ => XS.goto X25.here hx rfl (pc0 := 159) (pc' := 163) rfl (hb hby at_159) (by decide) (by decide)) ?_
          refine stp (fun _ => XS.istore X25.here hx rfl (hb hby at_163) rfl (l' := #[(sI k), (sJ n1_), .second, (sJ d1_), .second, (sJ n2_), .second, (sJ d2_), .second, (sI (k &&& (3 : Int32))), (sI w1), (sI w2), (sJ zq1), .second, (sJ zq2), .second, (sJ zq3), .second, (sJ zq4), .second, (sJ zq5), .second, (sR b6), (sI (1 : Int32))]) rfl) ?_
          show Go p e below T25 (mkF m 165 #[(sI k), (sJ n1_), .second, (sJ d1_), .second, (sJ n2_), .second, (sJ d2_), .second, (sI (k &&& (3 : Int32))), (sI w1), (sI w2), (sJ zq1), .second, (sJ zq2), .second, (sJ zq3), .second, (sJ zq4), .second, (sJ zq5), .second, (sR b6), (sI (1 : Int32))] []) _
          refine stp (fun _ => XS.iload X25.here hx rfl (hb hby at_165) rfl) ?_
          refine stp (fun _ => XS.iconst X25.here hx rfl (hb hby at_167)) ?_
          by_cases q168_26 : (k &&& (3 : Int32)) < (3 : Int32)
          · refine stp (fun _ => XS.icmpYes X25.here hx rfl (pc0 := 168) (pc' := 200) rfl (hb hby at_168) rfl (XT.ii_lt_t q168_26) (by decide) (by decide)) ?_
            refine stp (fun _ => XS.iload X25.here hx rfl (hb hby at_200) rfl) ?_
            refine stp (fun _ => XS.ifYes X25.here hx rfl (pc0 := 202) (pc' := 225) rfl (hb hby at_202) rfl (XT.i0_ne_t (own_c0 q98_16)) (by decide) (by decide)) ?_
            show Go p e below T25 (mkF m 225 #[(sI k), (sJ n1_), .second, (sJ d1_), .second, (sJ n2_), .second, (sJ d2_), .second, (sI (k &&& (3 : Int32))), (sI w1), (sI w2), (sJ zq1), .second, (sJ zq2), .second, (sJ zq3), .second, (sJ zq4), .second, (sJ zq5), .second, (sR b6), (sI (1 : Int32))] []) _
            refine stp (fun _ => XS.iload X25.here hx rfl (hb hby at_225) rfl) ?_
            refine outNW X25 hx hZ hEL e25 hS hk CR (t := .boolean) hret (by simp) (hb hby at_227) hlk (by decide) (by decide) ?_
            exact ⟨rfl, N25⟩
          refine stp (fun _ => XS.icmpNo X25.here hx rfl (hb hby at_168) rfl (XT.ii_lt_f q168_26)) ?_
          refine stp (fun _ => XS.aload X25.here hx rfl (hb hby at_171) rfl rfl) ?_
          refine stp (fun _ => XS.lload X25.here hx rfl (hb hby at_173) rfl) ?_
          show Go p e below T25 (mkF m 175 #[(sI k), (sJ n1_), .second, (sJ d1_), .second, (sJ n2_), .second, (sJ d2_), .second, (sI (k &&& (3 : Int32))), (sI w1), (sI w2), (sJ zq1), .second, (sJ zq2), .second, (sJ zq3), .second, (sJ zq4), .second, (sJ zq5), .second, (sR b6), (sI (1 : Int32))] [(.long zq5), (.ref b6)]) _
          refine stp (fun _ => XS.lload X25.here hx rfl (hb hby at_175) rfl) ?_
          obtain ⟨cq27, kq27, q27a, q27b, q27c⟩ := isOf hZ e25 f24
          obtain ⟨_, _, ⟨T27, L27, k27, n27⟩, -, X27, hS27, gg27, hO27, st27⟩ := X25.virtualBackS hx (y := (⟨"com/example/brisk_dedup/briskdedup/engine/FractionMean", "add", "(JJ)V"⟩ : MethodName)) (z := (⟨"com/example/brisk_dedup/briskdedup/engine/FractionMean", "add", "(JJ)V"⟩ : MethodName)) hown (mvT hZ (w_ hw (i := 26) rfl)) (mvT hZ (w_ hw (i := 27) rfl)) (notFace_of_selects (args := #[]) (mvT hZ (w_ hw (i := 29) rfl))) (mvT hZ (w_ hw (i := 29) rfl)) (mvT hZ (w_ hw (i := 28) rfl)) (by decide) (backOfH2 (W := 0) (rm_al l Z a0 hw [] b6 zq5 zq3 (((0 : Int32) + (1 : Int32)) + (1 : Int32)) q323 q423 z0 u sen T23.heap n0 O23 hEL f24 r23_0 r23_1 r23_2 r23_3 r23_4 S_ZERO Q_z0 S_UNASSIGNED_STACK S_SUPPRESSED_SENTINEL ge_b6 pq23_0.1 pq23_0.2 pq5_0 pq3_0.1 hPC hl hu hsen) hZ (w_ hw (i := 30) rfl) (w_ hw (i := 10) rfl) (by decide) (by decide) hEL CR.1 (knows_since hS hKn).1 (knows_since hS hKn).2) q27a q27c (g := (mkF m 177 #[(sI k), (sJ n1_), .second, (sJ d1_), .second, (sJ n2_), .second, (sJ d2_), .second, (sI (k &&& (3 : Int32))), (sI w1), (sI w2), (sJ zq1), .second, (sJ zq2), .second, (sJ zq3), .second, (sJ zq4), .second, (sJ zq5), .second, (sR b6), (sI (1 : Int32))] [(.long zq3), (.long zq5), (.ref b6)])) rfl (by rw [hml]; rfl) (Steps.refl _) (argsL := [(.long zq5), (.long zq3)]) (rest := []) (lenOf pd_24 rfl) rfl (by show 2 * 0 + _ ≤ _; exact Nat.le_of_eq rfl) (hb hby at_177) (fun _ _ => ⟨rfl, e25, (by decide : 1 + 24 ≤ _), (by decide : 5 + 3066 ≤ _)⟩)
          dsimp only [Pt.U, Pt.locs, Pt.cells, Pt.slots] at X27 hS27 gg27 hO27 st27
          rcases hO27 with ⟨Lc27, hQ27, l27, y27, z27, CRn27⟩ | ⟨Lc27, hQ27, l27, y27, z27, CRn27⟩
          · subst y27 z27
            obtain ⟨X27, hS, hZ, hown⟩ := rebS hS (by rw [e25]; exact hk) X27 hS27 gg27 hZ hown
            obtain ⟨q327, q427, rfl, N27q, K27q, r27_0, r27_1, r27_2, r27_3, r27_4, pq27_0⟩ := hQ27
            have N27 : Fr n0 L27 := by rw [l27]; exact Fr.app N25 N27q
            have f28 := f24.keep K27q
            have K27 : Keep h0 T27.heap [] := K23.trans K27q (allS (Or.inr sz_b6) all0)
            have O27 := O23.keep K27q (allS ge_b6 all0)
            have hk : T27.heap.size ≤ T27.heap.size := Nat.le_refl _
            have CR := CR.trans CRn27
            refine stt st27 ?_
            refine stp (fun _ => XS.iload X27.here hx rfl (hb hby at_180) rfl) ?_
            refine stp (fun _ => XS.ifNo X27.here hx rfl (hb hby at_182) rfl (by decide)) ?_
            refine stp (fun _ => XS.aload X27.here hx rfl (hb hby at_185) rfl rfl) ?_
            show Go p e below T27 (mkF m 187 #[(sI k), (sJ n1_), .second, (sJ d1_), .second, (sJ n2_), .second, (sJ d2_), .second, (sI (k &&& (3 : Int32))), (sI w1), (sI w2), (sJ zq1), .second, (sJ zq2), .second, (sJ zq3), .second, (sJ zq4), .second, (sJ zq5), .second, (sR b6), (sI (1 : Int32))] [(.ref b6)]) _
            obtain ⟨cq29, kq29, q29a, q29b, q29c⟩ := isOf hZ rfl f28
            obtain ⟨_, _, ⟨T29, L29, k29, n29⟩, -, X29, ⟨Lc29, hQ29, l29, y29, z29⟩, st29⟩ := X27.virtualBack hx (y := (⟨"com/example/brisk_dedup/briskdedup/engine/FractionMean", "isEmpty", "()Z"⟩ : MethodName)) (z := (⟨"com/example/brisk_dedup/briskdedup/engine/FractionMean", "isEmpty", "()Z"⟩ : MethodName)) hown (mvT hZ (w_ hw (i := 19) rfl)) (mvT hZ (w_ hw (i := 20) rfl)) (notFace_of_selects (args := #[]) (mvT hZ (w_ hw (i := 22) rfl))) (mvT hZ (w_ hw (i := 22) rfl)) (mvT hZ (w_ hw (i := 21) rfl)) (by decide) (backOf (W := 0) (rm_ie1 l Z a0 hw [] b6 ((((0 : Int32) + (1 : Int32)) + (1 : Int32)) + (1 : Int32)) T27.heap n0 O27 f28 r27_0 (by decide)) hZ (w_ hw (i := 23) rfl) (w_ hw (i := 10) rfl) (by decide) (by decide)) q29a q29c (g := (mkF m 187 #[(sI k), (sJ n1_), .second, (sJ d1_), .second, (sJ n2_), .second, (sJ d2_), .second, (sI (k &&& (3 : Int32))), (sI w1), (sI w2), (sJ zq1), .second, (sJ zq2), .second, (sJ zq3), .second, (sJ zq4), .second, (sJ zq5), .second, (sR b6), (sI (1 : Int32))] [(.ref b6)])) rfl (by rw [hml]; rfl) (Steps.refl _) (argsL := []) (rest := []) (lenOf pd_23 rfl) rfl (by show 2 * 0 + _ ≤ _; exact Nat.le_of_eq rfl) (hb hby at_187) (fun _ _ => ⟨rfl, rfl, (by decide : 1 + 0 ≤ _), (by decide : 5 + 0 ≤ _)⟩)
            dsimp only [Pt.U, Pt.locs, Pt.cells, Pt.slots] at X29 l29 y29 z29 st29 hQ29
            subst y29 z29
            obtain ⟨rfl, N29q, e29⟩ := hQ29
            have N29 : Fr n0 L29 := by rw [l29]; exact Fr.app N27 N29q
            refine stt st29 ?_
            refine stp (fun _ => XS.ifNo X29.here hx rfl (hb hby at_190) rfl (by decide)) ?_
            refine stp (fun _ => XS.iconst X29.here hx rfl (hb hby at_193)) ?_
            refine stp (fun _ => XS.goto X29.here hx rfl (pc0 := 194) (pc' := 198) rfl (hb hby at_194) (by decide) (by decide)) ?_
            refine stp (fun _ => XS.istore X29.here hx rfl (hb hby at_198) rfl (l' := #[(sI k), (sJ n1_), .second, (sJ d1_), .second, (sJ n2_), .second, (sJ d2_), .second, (sI (k &&& (3 : Int32))), (sI w1), (sI w2), (sJ zq1), .second, (sJ zq2), .second, (sJ zq3), .second, (sJ zq4), .second, (sJ zq5), .second, (sR b6), (sI (1 : Int32))]) rfl) ?_
            show Go p e below T29 (mkF m 200 #[(sI k), (sJ n1_), .second, (sJ d1_), .second, (sJ n2_), .second, (sJ d2_), .second, (sI (k &&& (3 : Int32))), (sI w1), (sI w2), (sJ zq1), .second, (sJ zq2), .second, (sJ zq3), .second, (sJ zq4), .second, (sJ zq5), .second, (sR b6), (sI (1 : Int32))] []) _
            refine stp (fun _ => XS.iload X29.here hx rfl (hb hby at_200) rfl) ?_
            refine stp (fun _ => XS.ifYes X29.here hx rfl (pc0 := 202) (pc' := 225) rfl (hb hby at_202) rfl (XT.i0_ne_t (own_c0 q98_16)) (by decide) (by decide)) ?_
            refine stp (fun _ => XS.iload X29.here hx rfl (hb hby at_225) rfl) ?_
            refine outNW X29 hx hZ hEL e29 hS hk CR (t := .boolean) hret (by simp) (hb hby at_227) hlk (by decide) (by decide) ?_
            exact ⟨rfl, N29⟩
          · subst y27 z27
            obtain ⟨X27, hS, hZ, hown⟩ := rebS hS (by rw [e25]; exact hk) X27 hS27 gg27 hZ hown
            obtain ⟨s127, s227, rfl, N27q, K27q, r27_0, r27_1, r27_2, r27_3, r27_4⟩ := hQ27
            have N27 : Fr n0 L27 := by rw [l27]; exact Fr.app N25 N27q
            have f30 := f24.keep K27q
            have K27 : Keep h0 T27.heap [] := K23.trans K27q (allS (Or.inr sz_b6) all0)
            have O27 := O23.keep K27q (allS ge_b6 all0)
            have hk : T27.heap.size ≤ T27.heap.size := Nat.le_refl _
            have CR := CR.trans CRn27
            refine stt st27 ?_
            refine stp (fun _ => XS.iload X27.here hx rfl (hb hby at_180) rfl) ?_
            refine stp (fun _ => XS.ifNo X27.here hx rfl (hb hby at_182) rfl (by decide)) ?_
            refine stp (fun _ => XS.aload X27.here hx rfl (hb hby at_185) rfl rfl) ?_
            show Go p e below T27 (mkF m 187 #[(sI k), (sJ n1_), .second, (sJ d1_), .second, (sJ n2_), .second, (sJ d2_), .second, (sI (k &&& (3 : Int32))), (sI w1), (sI w2), (sJ zq1), .second, (sJ zq2), .second, (sJ zq3), .second, (sJ zq4), .second, (sJ zq5), .second, (sR b6), (sI (1 : Int32))] [(.ref b6)]) _
            obtain ⟨cq31, kq31, q31a, q31b, q31c⟩ := isOf hZ rfl f30
            obtain ⟨_, _, ⟨T31, L31, k31, n31⟩, -, X31, ⟨Lc31, hQ31, l31, y31, z31⟩, st31⟩ := X27.virtualBack hx (y := (⟨"com/example/brisk_dedup/briskdedup/engine/FractionMean", "isEmpty", "()Z"⟩ : MethodName)) (z := (⟨"com/example/brisk_dedup/briskdedup/engine/FractionMean", "isEmpty", "()Z"⟩ : MethodName)) hown (mvT hZ (w_ hw (i := 19) rfl)) (mvT hZ (w_ hw (i := 20) rfl)) (notFace_of_selects (args := #[]) (mvT hZ (w_ hw (i := 22) rfl))) (mvT hZ (w_ hw (i := 22) rfl)) (mvT hZ (w_ hw (i := 21) rfl)) (by decide) (backOf (W := 0) (rm_ie1 l Z a0 hw [] b6 ((((0 : Int32) + (1 : Int32)) + (1 : Int32)) + (1 : Int32)) T27.heap n0 O27 f30 r27_0 (by decide)) hZ (w_ hw (i := 23) rfl) (w_ hw (i := 10) rfl) (by decide) (by decide)) q31a q31c (g := (mkF m 187 #[(sI k), (sJ n1_), .second, (sJ d1_), .second, (sJ n2_), .second, (sJ d2_), .second, (sI (k &&& (3 : Int32))), (sI w1), (sI w2), (sJ zq1), .second, (sJ zq2), .second, (sJ zq3), .second, (sJ zq4), .second, (sJ zq5), .second, (sR b6), (sI (1 : Int32))] [(.ref b6)])) rfl (by rw [hml]; rfl) (Steps.refl _) (argsL := []) (rest := []) (lenOf pd_23 rfl) rfl (by show 2 * 0 + _ ≤ _; exact Nat.le_of_eq rfl) (hb hby at_187) (fun _ _ => ⟨rfl, rfl, (by decide : 25 + 0 ≤ _), (by decide : 3071 + 0 ≤ _)⟩)
            dsimp only [Pt.U, Pt.locs, Pt.cells, Pt.slots] at X31 l31 y31 z31 st31 hQ31
            subst y31 z31
            obtain ⟨rfl, N31q, e31⟩ := hQ31
            have N31 : Fr n0 L31 := by rw [l31]; exact Fr.app N27 N31q
            refine stt st31 ?_
            refine stp (fun _ => XS.ifNo X31.here hx rfl (hb hby at_190) rfl (by decide)) ?_
            refine stp (fun _ => XS.iconst X31.here hx rfl (hb hby at_193)) ?_
            refine stp (fun _ => XS.goto X31.here hx rfl (pc0 := 194) (pc' := 198) rfl (hb hby at_194) (by decide) (by decide)) ?_
            refine stp (fun _ => XS.istore X31.here hx rfl (hb hby at_198) rfl (l' := #[(sI k), (sJ n1_), .second, (sJ d1_), .second, (sJ n2_), .second, (sJ d2_), .second, (sI (k &&& (3 : Int32))), (sI w1), (sI w2), (sJ zq1), .second, (sJ zq2), .second, (sJ zq3), .second, (sJ zq4), .second, (sJ zq5), .second, (sR b6), (sI (1 : Int32))]) rfl) ?_
            show Go p e below T31 (mkF m 200 #[(sI k), (sJ n1_), .second, (sJ d1_), .second, (sJ n2_), .second, (sJ d2_), .second, (sI (k &&& (3 : Int32))), (sI w1), (sI w2), (sJ zq1), .second, (sJ zq2), .second, (sJ zq3), .second, (sJ zq4), .second, (sJ zq5), .second, (sR b6), (sI (1 : Int32))] []) _
            refine stp (fun _ => XS.iload X31.here hx rfl (hb hby at_200) rfl) ?_
            refine stp (fun _ => XS.ifYes X31.here hx rfl (pc0 := 202) (pc' := 225) rfl (hb hby at_202) rfl (XT.i0_ne_t (own_c0 q98_16)) (by decide) (by decide)) ?_
            refine stp (fun _ => XS.iload X31.here hx rfl (hb hby at_225) rfl) ?_
            refine outNW X31 hx hZ hEL e31 hS hk CR (t := .boolean) hret (by simp) (hb hby at_227) hlk (by decide) (by decide) ?_
            exact ⟨rfl, N31⟩
        · subst y23 z23
          obtain ⟨X23, hS, hZ, hown⟩ := rebS hS (by rw [e21]; exact hk) X23 hS23 gg23 hZ hown
          obtain ⟨s123, s223, rfl, N23q, K23q, r23_0, r23_1, r23_2, r23_3, r23_4⟩ := hQ23
          have N23 : Fr n0 L23 := by rw [l23]; exact Fr.app N21 N23q
          have f32 := f20.keep K23q
          have K23 : Keep h0 T23.heap [] := K19.trans K23q (allS (Or.inr sz_b6) all0)
          have O23 := O19.keep K23q (allS ge_b6 all0)
          have hk : T23.heap.size ≤ T23.heap.size := Nat.le_refl _
          have CR := CR.trans CRn23
          refine stt st23 ?_
          refine stp (fun _ => XS.iload X23.here hx rfl (hb hby at_145) rfl) ?_
          refine stp (fun _ => XS.ifNo X23.here hx rfl (hb hby at_147) rfl (by decide)) ?_
          refine stp (fun _ => XS.aload X23.here hx rfl (hb hby at_150) rfl rfl) ?_
          show Go p e below T23 (mkF m 152 #[(sI k), (sJ n1_), .second, (sJ d1_), .second, (sJ n2_), .second, (sJ d2_), .second, (sI (k &&& (3 : Int32))), (sI w1), (sI w2), (sJ zq1), .second, (sJ zq2), .second, (sJ zq3), .second, (sJ zq4), .second, (sJ zq5), .second, (sR b6), (sI (1 : Int32))] [(.ref b6)]) _
          obtain ⟨cq33, kq33, q33a, q33b, q33c⟩ := isOf hZ rfl f32
          obtain ⟨_, _, ⟨T33, L33, k33, n33⟩, -, X33, ⟨Lc33, hQ33, l33, y33, z33⟩, st33⟩ := X23.virtualBack hx (y := (⟨"com/example/brisk_dedup/briskdedup/engine/FractionMean", "isEmpty", "()Z"⟩ : MethodName)) (z := (⟨"com/example/brisk_dedup/briskdedup/engine/FractionMean", "isEmpty", "()Z"⟩ : MethodName)) hown (mvT hZ (w_ hw (i := 19) rfl)) (mvT hZ (w_ hw (i := 20) rfl)) (notFace_of_selects (args := #[]) (mvT hZ (w_ hw (i := 22) rfl))) (mvT hZ (w_ hw (i := 22) rfl)) (mvT hZ (w_ hw (i := 21) rfl)) (by decide) (backOf (W := 0) (rm_ie1 l Z a0 hw [] b6 (((0 : Int32) + (1 : Int32)) + (1 : Int32)) T23.heap n0 O23 f32 r23_0 (by decide)) hZ (w_ hw (i := 23) rfl) (w_ hw (i := 10) rfl) (by decide) (by decide)) q33a q33c (g := (mkF m 152 #[(sI k), (sJ n1_), .second, (sJ d1_), .second, (sJ n2_), .second, (sJ d2_), .second, (sI (k &&& (3 : Int32))), (sI w1), (sI w2), (sJ zq1), .second, (sJ zq2), .second, (sJ zq3), .second, (sJ zq4), .second, (sJ zq5), .second, (sR b6), (sI (1 : Int32))] [(.ref b6)])) rfl (by rw [hml]; rfl) (Steps.refl _) (argsL := []) (rest := []) (lenOf pd_23 rfl) rfl (by show 2 * 0 + _ ≤ _; exact Nat.le_of_eq rfl) (hb hby at_152) (fun _ _ => ⟨rfl, rfl, (by decide : 25 + 0 ≤ _), (by decide : 3071 + 0 ≤ _)⟩)
          dsimp only [Pt.U, Pt.locs, Pt.cells, Pt.slots] at X33 l33 y33 z33 st33 hQ33
          subst y33 z33
          obtain ⟨rfl, N33q, e33⟩ := hQ33
          have N33 : Fr n0 L33 := by rw [l33]; exact Fr.app N23 N33q
          refine stt st33 ?_
          refine stp (fun _ => XS.ifNo X33.here hx rfl (hb hby at_155) rfl (by decide)) ?_
          refine stp (fun _ => XS.iconst X33.here hx rfl (hb hby at_158)) ?_
          refine stp (fun _ => XS.goto X33.here hx rfl (pc0 := 159) (pc' := 163) rfl (hb hby at_159) (by decide) (by decide)) ?_
          refine stp (fun _ => XS.istore X33.here hx rfl (hb hby at_163) rfl (l' := #[(sI k), (sJ n1_), .second, (sJ d1_), .second, (sJ n2_), .second, (sJ d2_), .second, (sI (k &&& (3 : Int32))), (sI w1), (sI w2), (sJ zq1), .second, (sJ zq2), .second, (sJ zq3), .second, (sJ zq4), .second, (sJ zq5), .second, (sR b6), (sI (1 : Int32))]) rfl) ?_
          show Go p e below T33 (mkF m 165 #[(sI k), (sJ n1_), .second, (sJ d1_), .second, (sJ n2_), .second, (sJ d2_), .second, (sI (k &&& (3 : Int32))), (sI w1), (sI w2), (sJ zq1), .second, (sJ zq2), .second, (sJ zq3), .second, (sJ zq4), .second, (sJ zq5), .second, (sR b6), (sI (1 : Int32))] []) _
          refine stp (fun _ => XS.iload X33.here hx rfl (hb hby at_165) rfl) ?_
          refine stp (fun _ => XS.iconst X33.here hx rfl (hb hby at_167)) ?_
          by_cases q168_34 : (k &&& (3 : Int32)) < (3 : Int32)
          · refine stp (fun _ => XS.icmpYes X33.here hx rfl (pc0 := 168) (pc' := 200) rfl (hb hby at_168) rfl (XT.ii_lt_t q168_34) (by decide) (by decide)) ?_
            refine stp (fun _ => XS.iload X33.here hx rfl (hb hby at_200) rfl) ?_
            refine stp (fun _ => XS.ifYes X33.here hx rfl (pc0 := 202) (pc' := 225) rfl (hb hby at_202) rfl (XT.i0_ne_t (own_c0 q98_16)) (by decide) (by decide)) ?_
            show Go p e below T33 (mkF m 225 #[(sI k), (sJ n1_), .second, (sJ d1_), .second, (sJ n2_), .second, (sJ d2_), .second, (sI (k &&& (3 : Int32))), (sI w1), (sI w2), (sJ zq1), .second, (sJ zq2), .second, (sJ zq3), .second, (sJ zq4), .second, (sJ zq5), .second, (sR b6), (sI (1 : Int32))] []) _
            refine stp (fun _ => XS.iload X33.here hx rfl (hb hby at_225) rfl) ?_
            refine outNW X33 hx hZ hEL e33 hS hk CR (t := .boolean) hret (by simp) (hb hby at_227) hlk (by decide) (by decide) ?_
            exact ⟨rfl, N33⟩
          refine stp (fun _ => XS.icmpNo X33.here hx rfl (hb hby at_168) rfl (XT.ii_lt_f q168_34)) ?_
          refine stp (fun _ => XS.aload X33.here hx rfl (hb hby at_171) rfl rfl) ?_
          refine stp (fun _ => XS.lload X33.here hx rfl (hb hby at_173) rfl) ?_
          show Go p e below T33 (mkF m 175 #[(sI k), (sJ n1_), .second, (sJ d1_), .second, (sJ n2_), .second, (sJ d2_), .second, (sI (k &&& (3 : Int32))), (sI w1), (sI w2), (sJ zq1), .second, (sJ zq2), .second, (sJ zq3), .second, (sJ zq4), .second, (sJ zq5), .second, (sR b6), (sI (1 : Int32))] [(.long zq5), (.ref b6)]) _
          refine stp (fun _ => XS.lload X33.here hx rfl (hb hby at_175) rfl) ?_
          have ne35 : s123 ≠ b6 := Exa.ne r23_3.exa f32 (by decide)
          have ne36 : s223 ≠ b6 := Exa.ne r23_4.exa f32 (by decide)
          obtain ⟨cq37, kq37, q37a, q37b, q37c⟩ := isOf hZ e33 f32
          obtain ⟨_, _, ⟨T37, L37, k37, n37⟩, -, X37, hS37, gg37, ⟨Lc37, hQ37, l37, y37, z37, CRn37⟩, st37⟩ := X33.virtualBackS hx (y := (⟨"com/example/brisk_dedup/briskdedup/engine/FractionMean", "add", "(JJ)V"⟩ : MethodName)) (z := (⟨"com/example/brisk_dedup/briskdedup/engine/FractionMean", "add", "(JJ)V"⟩ : MethodName)) hown (mvT hZ (w_ hw (i := 26) rfl)) (mvT hZ (w_ hw (i := 27) rfl)) (notFace_of_selects (args := #[]) (mvT hZ (w_ hw (i := 29) rfl))) (mvT hZ (w_ hw (i := 29) rfl)) (mvT hZ (w_ hw (i := 28) rfl)) (by decide) (backOfH (W := 0) (rm_bg l Z a0 hw [] b6 zq5 zq3 (((0 : Int32) + (1 : Int32)) + (1 : Int32)) s123 s223 6 (2 + 2 + 1) 10 z0 T23.heap n0 O23 hEL f32 r23_0 r23_1 r23_2 r23_3 r23_4 S_ZERO Q_z0 ge_b6 ne35 ne36 pq5_0 pq3_0.1 hPC (by decide)) hZ (w_ hw (i := 30) rfl) (w_ hw (i := 10) rfl) (by decide) (by decide) hEL CR.1 (knows_since hS hKn).1 (knows_since hS hKn).2) q37a q37c (g := (mkF m 177 #[(sI k), (sJ n1_), .second, (sJ d1_), .second, (sJ n2_), .second, (sJ d2_), .second, (sI (k &&& (3 : Int32))), (sI w1), (sI w2), (sJ zq1), .second, (sJ zq2), .second, (sJ zq3), .second, (sJ zq4), .second, (sJ zq5), .second, (sR b6), (sI (1 : Int32))] [(.long zq3), (.long zq5), (.ref b6)])) rfl (by rw [hml]; rfl) (Steps.refl _) (argsL := [(.long zq5), (.long zq3)]) (rest := []) (lenOf pd_24 rfl) rfl (by show 2 * 0 + _ ≤ _; exact Nat.le_of_eq rfl) (hb hby at_177) (fun _ _ => ⟨rfl, e33, (by decide : 25 + 16 ≤ _), (by decide : 3071 + 236 ≤ _)⟩)
          dsimp only [Pt.U, Pt.locs, Pt.cells, Pt.slots] at X37 hS37 gg37 l37 y37 z37 st37 hQ37 CRn37
          subst y37 z37
          obtain ⟨X37, hS, hZ, hown⟩ := rebS hS (by rw [e33]; exact hk) X37 hS37 gg37 hZ hown
          obtain ⟨s137, s237, rfl, N37q, K37q, r37_0, r37_1, r37_2, r37_3, r37_4⟩ := hQ37
          have N37 : Fr n0 L37 := by rw [l37]; exact Fr.app N33 N37q
          have f38 := f32.keep K37q
          have f39 := r23_3.keep K37q (ninS ne35 nin0) (apartS (Apart.exa f32 (w_ hw (i := 9) rfl)) apart0)
          have f40 := r23_3.exa.keep K37q
          have f41 := r23_4.keep K37q (ninS ne36 nin0) (apartS (Apart.exa f32 (w_ hw (i := 9) rfl)) apart0)
          have f42 := r23_4.exa.keep K37q
          have K37 : Keep h0 T37.heap [] := K23.trans K37q (allS (Or.inr sz_b6) all0)
          have O37 := O23.keep K37q (allS ge_b6 all0)
          have hk : T37.heap.size ≤ T37.heap.size := Nat.le_refl _
          have CR := CR.trans CRn37
          refine stt st37 ?_
          refine stp (fun _ => XS.iload X37.here hx rfl (hb hby at_180) rfl) ?_
          refine stp (fun _ => XS.ifNo X37.here hx rfl (hb hby at_182) rfl (by decide)) ?_
          refine stp (fun _ => XS.aload X37.here hx rfl (hb hby at_185) rfl rfl) ?_
          show Go p e below T37 (mkF m 187 #[(sI k), (sJ n1_), .second, (sJ d1_), .second, (sJ n2_), .second, (sJ d2_), .second, (sI (k &&& (3 : Int32))), (sI w1), (sI w2), (sJ zq1), .second, (sJ zq2), .second, (sJ zq3), .second, (sJ zq4), .second, (sJ zq5), .second, (sR b6), (sI (1 : Int32))] [(.ref b6)]) _
          obtain ⟨cq43, kq43, q43a, q43b, q43c⟩ := isOf hZ rfl f38
          obtain ⟨_, _, ⟨T43, L43, k43, n43⟩, -, X43, ⟨Lc43, hQ43, l43, y43, z43⟩, st43⟩ := X37.virtualBack hx (y := (⟨"com/example/brisk_dedup/briskdedup/engine/FractionMean", "isEmpty", "()Z"⟩ : MethodName)) (z := (⟨"com/example/brisk_dedup/briskdedup/engine/FractionMean", "isEmpty", "()Z"⟩ : MethodName)) hown (mvT hZ (w_ hw (i := 19) rfl)) (mvT hZ (w_ hw (i := 20) rfl)) (notFace_of_selects (args := #[]) (mvT hZ (w_ hw (i := 22) rfl))) (mvT hZ (w_ hw (i := 22) rfl)) (mvT hZ (w_ hw (i := 21) rfl)) (by decide) (backOf (W := 0) (rm_ie1 l Z a0 hw [] b6 ((((0 : Int32) + (1 : Int32)) + (1 : Int32)) + (1 : Int32)) T37.heap n0 O37 f38 r37_0 (by decide)) hZ (w_ hw (i := 23) rfl) (w_ hw (i := 10) rfl) (by decide) (by decide)) q43a q43c (g := (mkF m 187 #[(sI k), (sJ n1_), .second, (sJ d1_), .second, (sJ n2_), .second, (sJ d2_), .second, (sI (k &&& (3 : Int32))), (sI w1), (sI w2), (sJ zq1), .second, (sJ zq2), .second, (sJ zq3), .second, (sJ zq4), .second, (sJ zq5), .second, (sR b6), (sI (1 : Int32))] [(.ref b6)])) rfl (by rw [hml]; rfl) (Steps.refl _) (argsL := []) (rest := []) (lenOf pd_23 rfl) rfl (by show 2 * 0 + _ ≤ _; exact Nat.le_of_eq rfl) (hb hby at_187) (fun _ _ => ⟨rfl, rfl, (by decide : 41 + 0 ≤ _), (by decide : 3307 + 0 ≤ _)⟩)
          dsimp only [Pt.U, Pt.locs, Pt.cells, Pt.slots] at X43 l43 y43 z43 st43 hQ43
          subst y43 z43
          obtain ⟨rfl, N43q, e43⟩ := hQ43
          have N43 : Fr n0 L43 := by rw [l43]; exact Fr.app N37 N43q
          refine stt st43 ?_
          refine stp (fun _ => XS.ifNo X43.here hx rfl (hb hby at_190) rfl (by decide)) ?_
          refine stp (fun _ => XS.iconst X43.here hx rfl (hb hby at_193)) ?_
          refine stp (fun _ => XS.goto X43.here hx rfl (pc0 := 194) (pc' := 198) rfl (hb hby at_194) (by decide) (by decide)) ?_
          refine stp (fun _ => XS.istore X43.here hx rfl (hb hby at_198) rfl (l' := #[(sI k), (sJ n1_), .second, (sJ d1_), .second, (sJ n2_), .second, (sJ d2_), .second, (sI (k &&& (3 : Int32))), (sI w1), (sI w2), (sJ zq1), .second, (sJ zq2), .second, (sJ zq3), .second, (sJ zq4), .second, (sJ zq5), .second, (sR b6), (sI (1 : Int32))]) rfl) ?_
          show Go p e below T43 (mkF m 200 #[(sI k), (sJ n1_), .second, (sJ d1_), .second, (sJ n2_), .second, (sJ d2_), .second, (sI (k &&& (3 : Int32))), (sI w1), (sI w2), (sJ zq1), .second, (sJ zq2), .second, (sJ zq3), .second, (sJ zq4), .second, (sJ zq5), .second, (sR b6), (sI (1 : Int32))] []) _
          refine stp (fun _ => XS.iload X43.here hx rfl (hb hby at_200) rfl) ?_
          refine stp (fun _ => XS.ifYes X43.here hx rfl (pc0 := 202) (pc' := 225) rfl (hb hby at_202) rfl (XT.i0_ne_t (own_c0 q98_16)) (by decide) (by decide)) ?_
          refine stp (fun _ => XS.iload X43.here hx rfl (hb hby at_225) rfl) ?_
          refine outNW X43 hx hZ hEL e43 hS hk CR (t := .boolean) hret (by simp) (hb hby at_227) hlk (by decide) (by decide) ?_
          exact ⟨rfl, N43⟩
      · subst y19 z19
        obtain ⟨X19, hS, hZ, hown⟩ := rebS hS (by rw [e15]; exact hk) X19 hS19 gg19 hZ hown
        obtain ⟨s119, s219, rfl, N19q, K19q, r19_0, r19_1, r19_2, r19_3, r19_4⟩ := hQ19
        have N19 : Fr n0 L19 := by rw [l19]; exact Fr.app N15 N19q
        have f44 := f14.keep K19q
        have K19 : Keep h0 T19.heap [] := K13.trans K19q (allS (Or.inr sz_b6) all0)
        have O19 := O13.keep K19q (allS ge_b6 all0)
        have hk : T19.heap.size ≤ T19.heap.size := Nat.le_refl _
        have CR := CR.trans CRn19
        refine stt st19 ?_
        refine stp (fun _ => XS.iload X19.here hx rfl (hb hby at_110) rfl) ?_
        refine stp (fun _ => XS.ifNo X19.here hx rfl (hb hby at_112) rfl (by decide)) ?_
        refine stp (fun _ => XS.aload X19.here hx rfl (hb hby at_115) rfl rfl) ?_
        show Go p e below T19 (mkF m 117 #[(sI k), (sJ n1_), .second, (sJ d1_), .second, (sJ n2_), .second, (sJ d2_), .second, (sI (k &&& (3 : Int32))), (sI w1), (sI w2), (sJ zq1), .second, (sJ zq2), .second, (sJ zq3), .second, (sJ zq4), .second, (sJ zq5), .second, (sR b6), (sI (1 : Int32))] [(.ref b6)]) _
        obtain ⟨cq45, kq45, q45a, q45b, q45c⟩ := isOf hZ rfl f44
        obtain ⟨_, _, ⟨T45, L45, k45, n45⟩, -, X45, ⟨Lc45, hQ45, l45, y45, z45⟩, st45⟩ := X19.virtualBack hx (y := (⟨"com/example/brisk_dedup/briskdedup/engine/FractionMean", "isEmpty", "()Z"⟩ : MethodName)) (z := (⟨"com/example/brisk_dedup/briskdedup/engine/FractionMean", "isEmpty", "()Z"⟩ : MethodName)) hown (mvT hZ (w_ hw (i := 19) rfl)) (mvT hZ (w_ hw (i := 20) rfl)) (notFace_of_selects (args := #[]) (mvT hZ (w_ hw (i := 22) rfl))) (mvT hZ (w_ hw (i := 22) rfl)) (mvT hZ (w_ hw (i := 21) rfl)) (by decide) (backOf (W := 0) (rm_ie1 l Z a0 hw [] b6 ((0 : Int32) + (1 : Int32)) T19.heap n0 O19 f44 r19_0 (by decide)) hZ (w_ hw (i := 23) rfl) (w_ hw (i := 10) rfl) (by decide) (by decide)) q45a q45c (g := (mkF m 117 #[(sI k), (sJ n1_), .second, (sJ d1_), .second, (sJ n2_), .second, (sJ d2_), .second, (sI (k &&& (3 : Int32))), (sI w1), (sI w2), (sJ zq1), .second, (sJ zq2), .second, (sJ zq3), .second, (sJ zq4), .second, (sJ zq5), .second, (sR b6), (sI (1 : Int32))] [(.ref b6)])) rfl (by rw [hml]; rfl) (Steps.refl _) (argsL := []) (rest := []) (lenOf pd_23 rfl) rfl (by show 2 * 0 + _ ≤ _; exact Nat.le_of_eq rfl) (hb hby at_117) (fun _ _ => ⟨rfl, rfl, (by decide : 25 + 0 ≤ _), (by decide : 3071 + 0 ≤ _)⟩)
        dsimp only [Pt.U, Pt.locs, Pt.cells, Pt.slots] at X45 l45 y45 z45 st45 hQ45
        subst y45 z45
        obtain ⟨rfl, N45q, e45⟩ := hQ45
        have N45 : Fr n0 L45 := by rw [l45]; exact Fr.app N19 N45q
        refine stt st45 ?_
        refine stp (fun _ => XS.ifNo X45.here hx rfl (hb hby at_120) rfl (by decide)) ?_
        refine stp (fun _ => XS.iconst X45.here hx rfl (hb hby at_123)) ?_
        refine stp (fun _ => XS.goto X45.here hx rfl (pc0 := 124) (pc' := 128) rfl (hb hby at_124) (by decide) (by decide)) ?_
        refine stp (fun _ => XS.istore X45.here hx rfl (hb hby at_128) rfl (l' := #[(sI k), (sJ n1_), .second, (sJ d1_), .second, (sJ n2_), .second, (sJ d2_), .second, (sI (k &&& (3 : Int32))), (sI w1), (sI w2), (sJ zq1), .second, (sJ zq2), .second, (sJ zq3), .second, (sJ zq4), .second, (sJ zq5), .second, (sR b6), (sI (1 : Int32))]) rfl) ?_
        show Go p e below T45 (mkF m 130 #[(sI k), (sJ n1_), .second, (sJ d1_), .second, (sJ n2_), .second, (sJ d2_), .second, (sI (k &&& (3 : Int32))), (sI w1), (sI w2), (sJ zq1), .second, (sJ zq2), .second, (sJ zq3), .second, (sJ zq4), .second, (sJ zq5), .second, (sR b6), (sI (1 : Int32))] []) _
        refine stp (fun _ => XS.iload X45.here hx rfl (hb hby at_130) rfl) ?_
        refine stp (fun _ => XS.iconst X45.here hx rfl (hb hby at_132)) ?_
        by_cases q133_46 : (k &&& (3 : Int32)) < (2 : Int32)
        · refine stp (fun _ => XS.icmpYes X45.here hx rfl (pc0 := 133) (pc' := 165) rfl (hb hby at_133) rfl (XT.ii_lt_t q133_46) (by decide) (by decide)) ?_
          refine stp (fun _ => XS.iload X45.here hx rfl (hb hby at_165) rfl) ?_
          refine stp (fun _ => XS.iconst X45.here hx rfl (hb hby at_167)) ?_
          show Go p e below T45 (mkF m 168 #[(sI k), (sJ n1_), .second, (sJ d1_), .second, (sJ n2_), .second, (sJ d2_), .second, (sI (k &&& (3 : Int32))), (sI w1), (sI w2), (sJ zq1), .second, (sJ zq2), .second, (sJ zq3), .second, (sJ zq4), .second, (sJ zq5), .second, (sR b6), (sI (1 : Int32))] [(.int (3 : Int32)), (.int (k &&& (3 : Int32)))]) _
          refine stp (fun _ => XS.icmpYes X45.here hx rfl (pc0 := 168) (pc' := 200) rfl (hb hby at_168) rfl (XT.ii_lt_t (own_c23 q133_46)) (by decide) (by decide)) ?_
          refine stp (fun _ => XS.iload X45.here hx rfl (hb hby at_200) rfl) ?_
          refine stp (fun _ => XS.ifYes X45.here hx rfl (pc0 := 202) (pc' := 225) rfl (hb hby at_202) rfl (XT.i0_ne_t (own_c0 q98_16)) (by decide) (by decide)) ?_
          refine stp (fun _ => XS.iload X45.here hx rfl (hb hby at_225) rfl) ?_
          refine outNW X45 hx hZ hEL e45 hS hk CR (t := .boolean) hret (by simp) (hb hby at_227) hlk (by decide) (by decide) ?_
          exact ⟨rfl, N45⟩
        refine stp (fun _ => XS.icmpNo X45.here hx rfl (hb hby at_133) rfl (XT.ii_lt_f q133_46)) ?_
        refine stp (fun _ => XS.aload X45.here hx rfl (hb hby at_136) rfl rfl) ?_
        refine stp (fun _ => XS.lload X45.here hx rfl (hb hby at_138) rfl) ?_
        show Go p e below T45 (mkF m 140 #[(sI k), (sJ n1_), .second, (sJ d1_), .second, (sJ n2_), .second, (sJ d2_), .second, (sI (k &&& (3 : Int32))), (sI w1), (sI w2), (sJ zq1), .second, (sJ zq2), .second, (sJ zq3), .second, (sJ zq4), .second, (sJ zq5), .second, (sR b6), (sI (1 : Int32))] [(.long zq4), (.ref b6)]) _
        refine stp (fun _ => XS.lload X45.here hx rfl (hb hby at_140) rfl) ?_
        have ne47 : s119 ≠ b6 := Exa.ne r19_3.exa f44 (by decide)
        have ne48 : s219 ≠ b6 := Exa.ne r19_4.exa f44 (by decide)
        obtain ⟨cq49, kq49, q49a, q49b, q49c⟩ := isOf hZ e45 f44
        obtain ⟨_, _, ⟨T49, L49, k49, n49⟩, -, X49, hS49, gg49, ⟨Lc49, hQ49, l49, y49, z49, CRn49⟩, st49⟩ := X45.virtualBackS hx (y := (⟨"com/example/brisk_dedup/briskdedup/engine/FractionMean", "add", "(JJ)V"⟩ : MethodName)) (z := (⟨"com/example/brisk_dedup/briskdedup/engine/FractionMean", "add", "(JJ)V"⟩ : MethodName)) hown (mvT hZ (w_ hw (i := 26) rfl)) (mvT hZ (w_ hw (i := 27) rfl)) (notFace_of_selects (args := #[]) (mvT hZ (w_ hw (i := 29) rfl))) (mvT hZ (w_ hw (i := 29) rfl)) (mvT hZ (w_ hw (i := 28) rfl)) (by decide) (backOfH (W := 0) (rm_bg l Z a0 hw [] b6 zq4 zq3 ((0 : Int32) + (1 : Int32)) s119 s219 6 (2 + 2 + 1) 10 z0 T19.heap n0 O19 hEL f44 r19_0 r19_1 r19_2 r19_3 r19_4 S_ZERO Q_z0 ge_b6 ne47 ne48 pq4_0 pq3_0.1 hPC (by decide)) hZ (w_ hw (i := 30) rfl) (w_ hw (i := 10) rfl) (by decide) (by decide) hEL CR.1 (knows_since hS hKn).1 (knows_since hS hKn).2) q49a q49c (g := (mkF m 142 #[(sI k), (sJ n1_), .second, (sJ d1_), .second, (sJ n2_), .second, (sJ d2_), .second, (sI (k &&& (3 : Int32))), (sI w1), (sI w2), (sJ zq1), .second, (sJ zq2), .second, (sJ zq3), .second, (sJ zq4), .second, (sJ zq5), .second, (sR b6), (sI (1 : Int32))] [(.long zq3), (.long zq4), (.ref b6)])) rfl (by rw [hml]; rfl) (Steps.refl _) (argsL := [(.long zq4), (.long zq3)]) (rest := []) (lenOf pd_24 rfl) rfl (by show 2 * 0 + _ ≤ _; exact Nat.le_of_eq rfl) (hb hby at_142) (fun _ _ => ⟨rfl, e45, (by decide : 25 + 16 ≤ _), (by decide : 3071 + 236 ≤ _)⟩)
        dsimp only [Pt.U, Pt.locs, Pt.cells, Pt.slots] at X49 hS49 gg49 l49 y49 z49 st49 hQ49 CRn49
        subst y49 z49
        obtain ⟨X49, hS, hZ, hown⟩ := rebS hS (by rw [e45]; exact hk) X49 hS49 gg49 hZ hown
        obtain ⟨s149, s249, rfl, N49q, K49q, r49_0, r49_1, r49_2, r49_3, r49_4⟩ := hQ49
        have N49 : Fr n0 L49 := by rw [l49]; exact Fr.app N45 N49q
        have f50 := f44.keep K49q
        have f51 := r19_3.keep K49q (ninS ne47 nin0) (apartS (Apart.exa f44 (w_ hw (i := 9) rfl)) apart0)
        have f52 := r19_3.exa.keep K49q
        have f53 := r19_4.keep K49q (ninS ne48 nin0) (apartS (Apart.exa f44 (w_ hw (i := 9) rfl)) apart0)
        have f54 := r19_4.exa.keep K49q
        have K49 : Keep h0 T49.heap [] := K19.trans K49q (allS (Or.inr sz_b6) all0)
        have O49 := O19.keep K49q (allS ge_b6 all0)
        have hk : T49.heap.size ≤ T49.heap.size := Nat.le_refl _
        have CR := CR.trans CRn49
        refine stt st49 ?_
        refine stp (fun _ => XS.iload X49.here hx rfl (hb hby at_145) rfl) ?_
        refine stp (fun _ => XS.ifNo X49.here hx rfl (hb hby at_147) rfl (by decide)) ?_
        refine stp (fun _ => XS.aload X49.here hx rfl (hb hby at_150) rfl rfl) ?_
        show Go p e below T49 (mkF m 152 #[(sI k), (sJ n1_), .second, (sJ d1_), .second, (sJ n2_), .second, (sJ d2_), .second, (sI (k &&& (3 : Int32))), (sI w1), (sI w2), (sJ zq1), .second, (sJ zq2), .second, (sJ zq3), .second, (sJ zq4), .second, (sJ zq5), .second, (sR b6), (sI (1 : Int32))] [(.ref b6)]) _
        obtain ⟨cq55, kq55, q55a, q55b, q55c⟩ := isOf hZ rfl f50
        obtain ⟨_, _, ⟨T55, L55, k55, n55⟩, -, X55, ⟨Lc55, hQ55, l55, y55, z55⟩, st55⟩ := X49.virtualBack hx (y := (⟨"com/example/brisk_dedup/briskdedup/engine/FractionMean", "isEmpty", "()Z"⟩ : MethodName)) (z := (⟨"com/example/brisk_dedup/briskdedup/engine/FractionMean", "isEmpty", "()Z"⟩ : MethodName)) hown (mvT hZ (w_ hw (i := 19) rfl)) (mvT hZ (w_ hw (i := 20) rfl)) (notFace_of_selects (args := #[]) (mvT hZ (w_ hw (i := 22) rfl))) (mvT hZ (w_ hw (i := 22) rfl)) (mvT hZ (w_ hw (i := 21) rfl)) (by decide) (backOf (W := 0) (rm_ie1 l Z a0 hw [] b6 (((0 : Int32) + (1 : Int32)) + (1 : Int32)) T49.heap n0 O49 f50 r49_0 (by decide)) hZ (w_ hw (i := 23) rfl) (w_ hw (i := 10) rfl) (by decide) (by decide)) q55a q55c (g := (mkF m 152 #[(sI k), (sJ n1_), .second, (sJ d1_), .second, (sJ n2_), .second, (sJ d2_), .second, (sI (k &&& (3 : Int32))), (sI w1), (sI w2), (sJ zq1), .second, (sJ zq2), .second, (sJ zq3), .second, (sJ zq4), .second, (sJ zq5), .second, (sR b6), (sI (1 : Int32))] [(.ref b6)])) rfl (by rw [hml]; rfl) (Steps.refl _) (argsL := []) (rest := []) (lenOf pd_23 rfl) rfl (by show 2 * 0 + _ ≤ _; exact Nat.le_of_eq rfl) (hb hby at_152) (fun _ _ => ⟨rfl, rfl, (by decide : 41 + 0 ≤ _), (by decide : 3307 + 0 ≤ _)⟩)
        dsimp only [Pt.U, Pt.locs, Pt.cells, Pt.slots] at X55 l55 y55 z55 st55 hQ55
        subst y55 z55
        obtain ⟨rfl, N55q, e55⟩ := hQ55
        have N55 : Fr n0 L55 := by rw [l55]; exact Fr.app N49 N55q
        refine stt st55 ?_
        refine stp (fun _ => XS.ifNo X55.here hx rfl (hb hby at_155) rfl (by decide)) ?_
        refine stp (fun _ => XS.iconst X55.here hx rfl (hb hby at_158)) ?_
        refine stp (fun _ => XS.goto X55.here hx rfl (pc0 := 159) (pc' := 163) rfl (hb hby at_159) (by decide) (by decide)) ?_
        refine stp (fun _ => XS.istore X55.here hx rfl (hb hby at_163) rfl (l' := #[(sI k), (sJ n1_), .second, (sJ d1_), .second, (sJ n2_), .second, (sJ d2_), .second, (sI (k &&& (3 : Int32))), (sI w1), (sI w2), (sJ zq1), .second, (sJ zq2), .second, (sJ zq3), .second, (sJ zq4), .second, (sJ zq5), .second, (sR b6), (sI (1 : Int32))]) rfl) ?_
        show Go p e below T55 (mkF m 165 #[(sI k), (sJ n1_), .second, (sJ d1_), .second, (sJ n2_), .second, (sJ d2_), .second, (sI (k &&& (3 : Int32))), (sI w1), (sI w2), (sJ zq1), .second, (sJ zq2), .second, (sJ zq3), .second, (sJ zq4), .second, (sJ zq5), .second, (sR b6), (sI (1 : Int32))] []) _
        refine stp (fun _ => XS.iload X55.here hx rfl (hb hby at_165) rfl) ?_
        refine stp (fun _ => XS.iconst X55.here hx rfl (hb hby at_167)) ?_
        by_cases q168_56 : (k &&& (3 : Int32)) < (3 : Int32)
        · refine stp (fun _ => XS.icmpYes X55.here hx rfl (pc0 := 168) (pc' := 200) rfl (hb hby at_168) rfl (XT.ii_lt_t q168_56) (by decide) (by decide)) ?_
          refine stp (fun _ => XS.iload X55.here hx rfl (hb hby at_200) rfl) ?_
          refine stp (fun _ => XS.ifYes X55.here hx rfl (pc0 := 202) (pc' := 225) rfl (hb hby at_202) rfl (XT.i0_ne_t (own_c0 q98_16)) (by decide) (by decide)) ?_
          show Go p e below T55 (mkF m 225 #[(sI k), (sJ n1_), .second, (sJ d1_), .second, (sJ n2_), .second, (sJ d2_), .second, (sI (k &&& (3 : Int32))), (sI w1), (sI w2), (sJ zq1), .second, (sJ zq2), .second, (sJ zq3), .second, (sJ zq4), .second, (sJ zq5), .second, (sR b6), (sI (1 : Int32))] []) _
          refine stp (fun _ => XS.iload X55.here hx rfl (hb hby at_225) rfl) ?_
          refine outNW X55 hx hZ hEL e55 hS hk CR (t := .boolean) hret (by simp) (hb hby at_227) hlk (by decide) (by decide) ?_
          exact ⟨rfl, N55⟩
        refine stp (fun _ => XS.icmpNo X55.here hx rfl (hb hby at_168) rfl (XT.ii_lt_f q168_56)) ?_
        refine stp (fun _ => XS.aload X55.here hx rfl (hb hby at_171) rfl rfl) ?_
        refine stp (fun _ => XS.lload X55.here hx rfl (hb hby at_173) rfl) ?_
        show Go p e below T55 (mkF m 175 #[(sI k), (sJ n1_), .second, (sJ d1_), .second, (sJ n2_), .second, (sJ d2_), .second, (sI (k &&& (3 : Int32))), (sI w1), (sI w2), (sJ zq1), .second, (sJ zq2), .second, (sJ zq3), .second, (sJ zq4), .second, (sJ zq5), .second, (sR b6), (sI (1 : Int32))] [(.long zq5), (.ref b6)]) _
        refine stp (fun _ => XS.lload X55.here hx rfl (hb hby at_175) rfl) ?_
        have ne57 : s149 ≠ b6 := Exa.ne r49_3.exa f50 (by decide)
        have ne58 : s249 ≠ b6 := Exa.ne r49_4.exa f50 (by decide)
        obtain ⟨cq59, kq59, q59a, q59b, q59c⟩ := isOf hZ e55 f50
        obtain ⟨_, _, ⟨T59, L59, k59, n59⟩, -, X59, hS59, gg59, ⟨Lc59, hQ59, l59, y59, z59, CRn59⟩, st59⟩ := X55.virtualBackS hx (y := (⟨"com/example/brisk_dedup/briskdedup/engine/FractionMean", "add", "(JJ)V"⟩ : MethodName)) (z := (⟨"com/example/brisk_dedup/briskdedup/engine/FractionMean", "add", "(JJ)V"⟩ : MethodName)) hown (mvT hZ (w_ hw (i := 26) rfl)) (mvT hZ (w_ hw (i := 27) rfl)) (notFace_of_selects (args := #[]) (mvT hZ (w_ hw (i := 29) rfl))) (mvT hZ (w_ hw (i := 29) rfl)) (mvT hZ (w_ hw (i := 28) rfl)) (by decide) (backOfH (W := 0) (rm_bg l Z a0 hw [] b6 zq5 zq3 (((0 : Int32) + (1 : Int32)) + (1 : Int32)) s149 s249 10 ((2 + 2 + 1) + 2 + 1) 14 z0 T49.heap n0 O49 hEL f50 r49_0 r49_1 r49_2 r49_3 r49_4 S_ZERO Q_z0 ge_b6 ne57 ne58 pq5_0 pq3_0.1 hPC (by decide)) hZ (w_ hw (i := 30) rfl) (w_ hw (i := 10) rfl) (by decide) (by decide) hEL CR.1 (knows_since hS hKn).1 (knows_since hS hKn).2) q59a q59c (g := (mkF m 177 #[(sI k), (sJ n1_), .second, (sJ d1_), .second, (sJ n2_), .second, (sJ d2_), .second, (sI (k &&& (3 : Int32))), (sI w1), (sI w2), (sJ zq1), .second, (sJ zq2), .second, (sJ zq3), .second, (sJ zq4), .second, (sJ zq5), .second, (sR b6), (sI (1 : Int32))] [(.long zq3), (.long zq5), (.ref b6)])) rfl (by rw [hml]; rfl) (Steps.refl _) (argsL := [(.long zq5), (.long zq3)]) (rest := []) (lenOf pd_24 rfl) rfl (by show 2 * 0 + _ ≤ _; exact Nat.le_of_eq rfl) (hb hby at_177) (fun _ _ => ⟨rfl, e55, (by decide : 41 + 16 ≤ _), (by decide : 3307 + 236 ≤ _)⟩)
        dsimp only [Pt.U, Pt.locs, Pt.cells, Pt.slots] at X59 hS59 gg59 l59 y59 z59 st59 hQ59 CRn59
        subst y59 z59
        obtain ⟨X59, hS, hZ, hown⟩ := rebS hS (by rw [e55]; exact hk) X59 hS59 gg59 hZ hown
        obtain ⟨s159, s259, rfl, N59q, K59q, r59_0, r59_1, r59_2, r59_3, r59_4⟩ := hQ59
        have N59 : Fr n0 L59 := by rw [l59]; exact Fr.app N55 N59q
        have f60 := f50.keep K59q
        have f61 := f51.keep K59q (ninS ne47 nin0) (apartS (Apart.exa f50 (w_ hw (i := 9) rfl)) apart0)
        have f62 := f52.keep K59q
        have f63 := f53.keep K59q (ninS ne48 nin0) (apartS (Apart.exa f50 (w_ hw (i := 9) rfl)) apart0)
        have f64 := f54.keep K59q
        have f65 := r49_3.keep K59q (ninS ne57 nin0) (apartS (Apart.exa f50 (w_ hw (i := 9) rfl)) apart0)
        have f66 := r49_3.exa.keep K59q
        have f67 := r49_4.keep K59q (ninS ne58 nin0) (apartS (Apart.exa f50 (w_ hw (i := 9) rfl)) apart0)
        have f68 := r49_4.exa.keep K59q
        have K59 : Keep h0 T59.heap [] := K49.trans K59q (allS (Or.inr sz_b6) all0)
        have O59 := O49.keep K59q (allS ge_b6 all0)
        have hk : T59.heap.size ≤ T59.heap.size := Nat.le_refl _
        have CR := CR.trans CRn59
        refine stt st59 ?_
        refine stp (fun _ => XS.iload X59.here hx rfl (hb hby at_180) rfl) ?_
        refine stp (fun _ => XS.ifNo X59.here hx rfl (hb hby at_182) rfl (by decide)) ?_
        refine stp (fun _ => XS.aload X59.here hx rfl (hb hby at_185) rfl rfl) ?_
        show Go p e below T59 (mkF m 187 #[(sI k), (sJ n1_), .second, (sJ d1_), .second, (sJ n2_), .second, (sJ d2_), .second, (sI (k &&& (3 : Int32))), (sI w1), (sI w2), (sJ zq1), .second, (sJ zq2), .second, (sJ zq3), .second, (sJ zq4), .second, (sJ zq5), .second, (sR b6), (sI (1 : Int32))] [(.ref b6)]) _
        obtain ⟨cq69, kq69, q69a, q69b, q69c⟩ := isOf hZ rfl f60
        obtain ⟨_, _, ⟨T69, L69, k69, n69⟩, -, X69, ⟨Lc69, hQ69, l69, y69, z69⟩, st69⟩ := X59.virtualBack hx (y := (⟨"com/example/brisk_dedup/briskdedup/engine/FractionMean", "isEmpty", "()Z"⟩ : MethodName)) (z := (⟨"com/example/brisk_dedup/briskdedup/engine/FractionMean", "isEmpty", "()Z"⟩ : MethodName)) hown (mvT hZ (w_ hw (i := 19) rfl)) (mvT hZ (w_ hw (i := 20) rfl)) (notFace_of_selects (args := #[]) (mvT hZ (w_ hw (i := 22) rfl))) (mvT hZ (w_ hw (i := 22) rfl)) (mvT hZ (w_ hw (i := 21) rfl)) (by decide) (backOf (W := 0) (rm_ie1 l Z a0 hw [] b6 ((((0 : Int32) + (1 : Int32)) + (1 : Int32)) + (1 : Int32)) T59.heap n0 O59 f60 r59_0 (by decide)) hZ (w_ hw (i := 23) rfl) (w_ hw (i := 10) rfl) (by decide) (by decide)) q69a q69c (g := (mkF m 187 #[(sI k), (sJ n1_), .second, (sJ d1_), .second, (sJ n2_), .second, (sJ d2_), .second, (sI (k &&& (3 : Int32))), (sI w1), (sI w2), (sJ zq1), .second, (sJ zq2), .second, (sJ zq3), .second, (sJ zq4), .second, (sJ zq5), .second, (sR b6), (sI (1 : Int32))] [(.ref b6)])) rfl (by rw [hml]; rfl) (Steps.refl _) (argsL := []) (rest := []) (lenOf pd_23 rfl) rfl (by show 2 * 0 + _ ≤ _; exact Nat.le_of_eq rfl) (hb hby at_187) (fun _ _ => ⟨rfl, rfl, (by decide : 57 + 0 ≤ _), (by decide : 3543 + 0 ≤ _)⟩)
        dsimp only [Pt.U, Pt.locs, Pt.cells, Pt.slots] at X69 l69 y69 z69 st69 hQ69
        subst y69 z69
        obtain ⟨rfl, N69q, e69⟩ := hQ69
        have N69 : Fr n0 L69 := by rw [l69]; exact Fr.app N59 N69q
        refine stt st69 ?_
        refine stp (fun _ => XS.ifNo X69.here hx rfl (hb hby at_190) rfl (by decide)) ?_
        refine stp (fun _ => XS.iconst X69.here hx rfl (hb hby at_193)) ?_
        refine stp (fun _ => XS.goto X69.here hx rfl (pc0 := 194) (pc' := 198) rfl (hb hby at_194) (by decide) (by decide)) ?_
        refine stp (fun _ => XS.istore X69.here hx rfl (hb hby at_198) rfl (l' := #[(sI k), (sJ n1_), .second, (sJ d1_), .second, (sJ n2_), .second, (sJ d2_), .second, (sI (k &&& (3 : Int32))), (sI w1), (sI w2), (sJ zq1), .second, (sJ zq2), .second, (sJ zq3), .second, (sJ zq4), .second, (sJ zq5), .second, (sR b6), (sI (1 : Int32))]) rfl) ?_
        show Go p e below T69 (mkF m 200 #[(sI k), (sJ n1_), .second, (sJ d1_), .second, (sJ n2_), .second, (sJ d2_), .second, (sI (k &&& (3 : Int32))), (sI w1), (sI w2), (sJ zq1), .second, (sJ zq2), .second, (sJ zq3), .second, (sJ zq4), .second, (sJ zq5), .second, (sR b6), (sI (1 : Int32))] []) _
        refine stp (fun _ => XS.iload X69.here hx rfl (hb hby at_200) rfl) ?_
        refine stp (fun _ => XS.ifYes X69.here hx rfl (pc0 := 202) (pc' := 225) rfl (hb hby at_202) rfl (XT.i0_ne_t (own_c0 q98_16)) (by decide) (by decide)) ?_
        refine stp (fun _ => XS.iload X69.here hx rfl (hb hby at_225) rfl) ?_
        refine outNW X69 hx hZ hEL e69 hS hk CR (t := .boolean) hret (by simp) (hb hby at_227) hlk (by decide) (by decide) ?_
        exact ⟨rfl, N69⟩
    by_cases q25_70 : ((k >>> ((3 : Int32) &&& 31)) &&& (1 : Int32)) = 0
    · refine stp (fun _ => XS.ifYes X0.here hx rfl (pc0 := 25) (pc' := 32) rfl (hb hby at_25) rfl (XT.i0_eq_t q25_70) (by decide) (by decide)) ?_
      refine stp (fun _ => XS.iconst X0.here hx rfl (hb hby at_32)) ?_
      show Go p e below T0 (mkF m 33 #[(sI k), (sJ n1_), .second, (sJ d1_), .second, (sJ n2_), .second, (sJ d2_), .second, (sI (k &&& (3 : Int32))), (sI w1), .unset, .unset, .unset, .unset, .unset, .unset, .unset, .unset, .unset, .unset, .unset, .unset, .unset] [(.int (0 : Int32))]) _
      exact J33 (0 : Int32) trivial
    refine stp (fun _ => XS.ifNo X0.here hx rfl (hb hby at_25) rfl (XT.i0_eq_f q25_70)) ?_
    refine stp (fun _ => XS.iconst X0.here hx rfl (hb hby at_28)) ?_
    refine stp (fun _ => XS.goto X0.here hx rfl (pc0 := 29) (pc' := 33) rfl (hb hby at_29) (by decide) (by decide)) ?_
    show Go p e below T0 (mkF m 33 #[(sI k), (sJ n1_), .second, (sJ d1_), .second, (sJ n2_), .second, (sJ d2_), .second, (sI (k &&& (3 : Int32))), (sI w1), .unset, .unset, .unset, .unset, .unset, .unset, .unset, .unset, .unset, .unset, .unset, .unset, .unset] [(.int (1 : Int32))]) _
    exact J33 (1 : Int32) trivial
  by_cases q10_71 : ((k >>> ((2 : Int32) &&& 31)) &&& (1 : Int32)) = 0
  · refine stp (fun _ => XS.ifYes X0.here hx rfl (pc0 := 10) (pc' := 17) rfl (hb hby at_10) rfl (XT.i0_eq_t q10_71) (by decide) (by decide)) ?_
    refine stp (fun _ => XS.iconst X0.here hx rfl (hb hby at_17)) ?_
    show Go p e below T0 (mkF m 18 #[(sI k), (sJ n1_), .second, (sJ d1_), .second, (sJ n2_), .second, (sJ d2_), .second, (sI (k &&& (3 : Int32))), .unset, .unset, .unset, .unset, .unset, .unset, .unset, .unset, .unset, .unset, .unset, .unset, .unset, .unset] [(.int (0 : Int32))]) _
    exact J18 (0 : Int32) trivial
  refine stp (fun _ => XS.ifNo X0.here hx rfl (hb hby at_10) rfl (XT.i0_eq_f q10_71)) ?_
  refine stp (fun _ => XS.iconst X0.here hx rfl (hb hby at_13)) ?_
  refine stp (fun _ => XS.goto X0.here hx rfl (pc0 := 14) (pc' := 18) rfl (hb hby at_14) (by decide) (by decide)) ?_
  show Go p e below T0 (mkF m 18 #[(sI k), (sJ n1_), .second, (sJ d1_), .second, (sJ n2_), .second, (sJ d2_), .second, (sI (k &&& (3 : Int32))), .unset, .unset, .unset, .unset, .unset, .unset, .unset, .unset, .unset, .unset, .unset, .unset, .unset, .unset] [(.int (1 : Int32))]) _
  exact J18 (1 : Int32) trivial
set_option maxRecDepth 65536 in
set_option maxHeartbeats 40000000 in
theorem comes_1 {Post : Tables → Env → Array Value → State → Outcome → State → Prop} (hpost : ∀ tb e args s v u, (limb_1_1.after args s (.returned v) u = true ∧ limb_1_2.after args s (.returned v) u = true ∧ True) → Jvm.D.FramedW s (.returned v) u (Jvm.fieldLocs frame_1_writes args s ++ Jvm.arrayLocs frame_1_arrays args s ++ Jvm.staticLocs frame_1_statics s) 80 6912 → Post tb e args s (.returned v) u) :
    ArmFor flags0 classFile x code maxLocals ret World_1 tables_1 room_1 Calls_1 rest_1 Pre_1 Post := by
  intro l hfl _ _ p e ha hc hk s m args below hf hA hF happ hP
  obtain ⟨hcalls, hrest, hpre⟩ := hP
  obtain ⟨-, -, -, hnamed, -, -, -, hat⟩ := (Spec.applies_iff hf).mp happ
  obtain ⟨hg, hn⟩ := and_e (Cond.before_iff.mp (show (Jvm.Cond.and given_1 narrow_1).before args s = true from hpre))
  obtain ⟨g1, g2⟩ := and_e hg
  obtain ⟨g3, g4⟩ := and_e g2
  obtain ⟨g5, g6⟩ := and_e g4
  obtain ⟨g7, g8⟩ := and_e g6
  obtain ⟨g9, g10⟩ := and_e g8
  obtain ⟨w0, w1, w2, w3, w4, rfl⟩ : ∃ w0 w1 w2 w3 w4 : Value, args = #[w0, w1, w2, w3, w4] := by
    have hs : args.size = 5 := by simpa [Cond.value, given_1] using g1
    obtain ⟨L⟩ := args
    match L, hs with
    | [w0, w1, w2, w3, w4], _ => exact ⟨w0, w1, w2, w3, w4, rfl⟩
  have hw := fun d (hd : d ∈ tables_1) => atoms_spec (ws := Jvm.Cond.code x code maxLocals ret :: tables_1) hat d (List.mem_cons_of_mem _ hd)
  have hfit : Fit s := fun {y c} hc i hi => by
    obtain ⟨ha, rfl⟩ := Array.getElem?_eq_some_iff.mp hc
    have q := List.all_eq_true.mp ((Array.all_eq_true_iff_forall_mem.mp hF) _ (Array.getElem_mem ha)) i (List.mem_range.mpr hi)
    simpa [Array.getElem?_eq_getElem hi] using q
  obtain ⟨i0, ei0⟩ := is_v g3
  obtain rfl : w0 = (.int i0) := Option.some.inj ei0
  obtain ⟨i1, ei1⟩ := isL_v g5
  obtain rfl : w1 = (.long i1) := Option.some.inj ei1
  obtain ⟨i2, ei2⟩ := isL_v g7
  obtain rfl : w2 = (.long i2) := Option.some.inj ei2
  obtain ⟨i3, ei3⟩ := isL_v g9
  obtain rfl : w3 = (.long i3) := Option.some.inj ei3
  obtain ⟨i4, ei4⟩ := isL_v g10
  obtain rfl : w4 = (.long i4) := Option.some.inj ei4
  obtain ⟨hsets, hown0⟩ := atoms_of _ (rest_1_c_eq ▸ (show rest_1_c.before _ s = true from hrest))
  have hr0 := Cond.before_iff.mp hown0
  have S_j__assertionsDisabled := Sta.start (eqint_v (Cond.before_iff.mp (hsets _ (List.mem_of_getElem? (i := 4) rfl)))) (Or.inl (hsets _ (List.mem_of_getElem? (i := 3) rfl)))
  obtain ⟨v_UNASSIGNED_STACK, ez_UNASSIGNED_STACK, r_UNASSIGNED_STACK⟩ := isR_v (Cond.before_iff.mp (hsets _ (List.mem_of_getElem? (i := 7) rfl)))
  have S_v_UNASSIGNED_STACK := Sta.start ez_UNASSIGNED_STACK (Or.inl (hsets _ (List.mem_of_getElem? (i := 6) rfl)))
  obtain ⟨v_SUPPRESSED_SENTINEL, ez_SUPPRESSED_SENTINEL, r_SUPPRESSED_SENTINEL⟩ := isR_v (Cond.before_iff.mp (hsets _ (List.mem_of_getElem? (i := 12) rfl)))
  have S_v_SUPPRESSED_SENTINEL := Sta.start ez_SUPPRESSED_SENTINEL (Or.inl (hsets _ (List.mem_of_getElem? (i := 11) rfl)))
  obtain ⟨a_SUPPRESSED_SENTINEL, ev_a_SUPPRESSED_SENTINEL⟩ := exa_v (Cond.before_iff.mp (hsets _ (List.mem_of_getElem? (i := 13) rfl)))
  have S_a_SUPPRESSED_SENTINEL := Sta.start ev_a_SUPPRESSED_SENTINEL (Or.inl (hsets _ (List.mem_of_getElem? (i := 11) rfl)))
  have E_a_SUPPRESSED_SENTINEL := Exa.start ev_a_SUPPRESSED_SENTINEL (Cond.before_iff.mp (hsets _ (List.mem_of_getElem? (i := 13) rfl)))
  obtain ⟨v_EMPTY_THROWABLE_ARRAY, ez_EMPTY_THROWABLE_ARRAY, r_EMPTY_THROWABLE_ARRAY⟩ := isR_v (Cond.before_iff.mp (hsets _ (List.mem_of_getElem? (i := 17) rfl)))
  have S_v_EMPTY_THROWABLE_ARRAY := Sta.start ez_EMPTY_THROWABLE_ARRAY (Or.inl (hsets _ (List.mem_of_getElem? (i := 16) rfl)))
  obtain ⟨a_ZERO, ev_a_ZERO⟩ := exa_v (Cond.before_iff.mp (hsets _ (List.mem_of_getElem? (i := 22) rfl)))
  have S_a_ZERO := Sta.start ev_a_ZERO (Or.inl (hsets _ (List.mem_of_getElem? (i := 21) rfl)))
  have E_a_ZERO := Exa.start ev_a_ZERO (Cond.before_iff.mp (hsets _ (List.mem_of_getElem? (i := 22) rfl)))
  obtain ⟨a_posConst, ev_a_posConst⟩ := exa_v (Cond.before_iff.mp (hsets _ (List.mem_of_getElem? (i := 36) rfl)))
  have S_a_posConst := Sta.start ev_a_posConst (Or.inl (hsets _ (List.mem_of_getElem? (i := 28) rfl)))
  have E_a_posConst := Exa.start ev_a_posConst (Cond.before_iff.mp (hsets _ (List.mem_of_getElem? (i := 36) rfl)))
  have hl : l.stackTraces = true := by unfold Launch.stackTraces; rw [hfl]; decide
  have hz0 : BigOk s s.heap a_ZERO 0 := own_bigpin (n := 0) (v := 0) ev_a_ZERO (Cond.before_iff.mp (hsets _ (List.mem_of_getElem? (i := 22) rfl))) (Cond.before_iff.mp (hsets _ (List.mem_of_getElem? (i := 23) rfl))) (Cond.before_iff.mp (hsets _ (List.mem_of_getElem? (i := 24) rfl))) (Cond.before_iff.mp (hsets _ (List.mem_of_getElem? (i := 26) rfl))) rfl (fun i hi => absurd hi (Nat.not_lt_zero _)) (by decide) (Or.inl ⟨rfl, rfl⟩)
  obtain ⟨c_pc, A_pc⟩ := Arr.start ev_a_posConst (Cond.before_iff.mp (hsets _ (List.mem_of_getElem? (i := 35) rfl)))
  obtain ⟨z_pc, -⟩ := pin_len ev_a_posConst A_pc (Cond.before_iff.mp (hsets _ (List.mem_of_getElem? (i := 37) rfl)))
  have hPC : PosOk s := by
    refine ⟨a_posConst, c_pc, S_a_posConst, A_pc, z_pc, fun i h1 h2 => ?_⟩
    match i, h1, h2 with
    | 0, q, _ => exact absurd q (by decide)
    | 1, _, _ => exact own_posat (v := 1) ev_a_posConst A_pc (j := 1) rfl (Cond.before_iff.mp (hsets _ (List.mem_of_getElem? (i := 39) rfl))) (Cond.before_iff.mp (hsets _ (List.mem_of_getElem? (i := 40) rfl))) (Cond.before_iff.mp (hsets _ (List.mem_of_getElem? (i := 41) rfl))) (Cond.before_iff.mp (hsets _ (List.mem_of_getElem? (i := 43) rfl))) (Cond.before_iff.mp (hsets _ (List.mem_of_getElem? (i := 44) rfl)))
    | 2, _, _ => exact own_posat (v := 2) ev_a_posConst A_pc (j := 2) rfl (Cond.before_iff.mp (hsets _ (List.mem_of_getElem? (i := 46) rfl))) (Cond.before_iff.mp (hsets _ (List.mem_of_getElem? (i := 47) rfl))) (Cond.before_iff.mp (hsets _ (List.mem_of_getElem? (i := 48) rfl))) (Cond.before_iff.mp (hsets _ (List.mem_of_getElem? (i := 50) rfl))) (Cond.before_iff.mp (hsets _ (List.mem_of_getElem? (i := 51) rfl)))
    | 3, _, _ => exact own_posat (v := 3) ev_a_posConst A_pc (j := 3) rfl (Cond.before_iff.mp (hsets _ (List.mem_of_getElem? (i := 52) rfl))) (Cond.before_iff.mp (hsets _ (List.mem_of_getElem? (i := 53) rfl))) (Cond.before_iff.mp (hsets _ (List.mem_of_getElem? (i := 54) rfl))) (Cond.before_iff.mp (hsets _ (List.mem_of_getElem? (i := 56) rfl))) (Cond.before_iff.mp (hsets _ (List.mem_of_getElem? (i := 57) rfl)))
    | 4, _, _ => exact own_posat (v := 4) ev_a_posConst A_pc (j := 4) rfl (Cond.before_iff.mp (hsets _ (List.mem_of_getElem? (i := 58) rfl))) (Cond.before_iff.mp (hsets _ (List.mem_of_getElem? (i := 59) rfl))) (Cond.before_iff.mp (hsets _ (List.mem_of_getElem? (i := 60) rfl))) (Cond.before_iff.mp (hsets _ (List.mem_of_getElem? (i := 62) rfl))) (Cond.before_iff.mp (hsets _ (List.mem_of_getElem? (i := 63) rfl)))
    | 5, _, _ => exact own_posat (v := 5) ev_a_posConst A_pc (j := 5) rfl (Cond.before_iff.mp (hsets _ (List.mem_of_getElem? (i := 64) rfl))) (Cond.before_iff.mp (hsets _ (List.mem_of_getElem? (i := 65) rfl))) (Cond.before_iff.mp (hsets _ (List.mem_of_getElem? (i := 66) rfl))) (Cond.before_iff.mp (hsets _ (List.mem_of_getElem? (i := 68) rfl))) (Cond.before_iff.mp (hsets _ (List.mem_of_getElem? (i := 69) rfl)))
    | 6, _, _ => exact own_posat (v := 6) ev_a_posConst A_pc (j := 6) rfl (Cond.before_iff.mp (hsets _ (List.mem_of_getElem? (i := 70) rfl))) (Cond.before_iff.mp (hsets _ (List.mem_of_getElem? (i := 71) rfl))) (Cond.before_iff.mp (hsets _ (List.mem_of_getElem? (i := 72) rfl))) (Cond.before_iff.mp (hsets _ (List.mem_of_getElem? (i := 74) rfl))) (Cond.before_iff.mp (hsets _ (List.mem_of_getElem? (i := 75) rfl)))
    | 7, _, _ => exact own_posat (v := 7) ev_a_posConst A_pc (j := 7) rfl (Cond.before_iff.mp (hsets _ (List.mem_of_getElem? (i := 76) rfl))) (Cond.before_iff.mp (hsets _ (List.mem_of_getElem? (i := 77) rfl))) (Cond.before_iff.mp (hsets _ (List.mem_of_getElem? (i := 78) rfl))) (Cond.before_iff.mp (hsets _ (List.mem_of_getElem? (i := 80) rfl))) (Cond.before_iff.mp (hsets _ (List.mem_of_getElem? (i := 81) rfl)))
    | 8, _, _ => exact own_posat (v := 8) ev_a_posConst A_pc (j := 8) rfl (Cond.before_iff.mp (hsets _ (List.mem_of_getElem? (i := 82) rfl))) (Cond.before_iff.mp (hsets _ (List.mem_of_getElem? (i := 83) rfl))) (Cond.before_iff.mp (hsets _ (List.mem_of_getElem? (i := 84) rfl))) (Cond.before_iff.mp (hsets _ (List.mem_of_getElem? (i := 86) rfl))) (Cond.before_iff.mp (hsets _ (List.mem_of_getElem? (i := 87) rfl)))
    | 9, _, _ => exact own_posat (v := 9) ev_a_posConst A_pc (j := 9) rfl (Cond.before_iff.mp (hsets _ (List.mem_of_getElem? (i := 88) rfl))) (Cond.before_iff.mp (hsets _ (List.mem_of_getElem? (i := 89) rfl))) (Cond.before_iff.mp (hsets _ (List.mem_of_getElem? (i := 90) rfl))) (Cond.before_iff.mp (hsets _ (List.mem_of_getElem? (i := 92) rfl))) (Cond.before_iff.mp (hsets _ (List.mem_of_getElem? (i := 93) rfl)))
    | 10, _, _ => exact own_posat (v := 10) ev_a_posConst A_pc (j := 10) rfl (Cond.before_iff.mp (hsets _ (List.mem_of_getElem? (i := 95) rfl))) (Cond.before_iff.mp (hsets _ (List.mem_of_getElem? (i := 96) rfl))) (Cond.before_iff.mp (hsets _ (List.mem_of_getElem? (i := 97) rfl))) (Cond.before_iff.mp (hsets _ (List.mem_of_getElem? (i := 99) rfl))) (Cond.before_iff.mp (hsets _ (List.mem_of_getElem? (i := 100) rfl)))
    | 11, _, _ => exact own_posat (v := 11) ev_a_posConst A_pc (j := 11) rfl (Cond.before_iff.mp (hsets _ (List.mem_of_getElem? (i := 101) rfl))) (Cond.before_iff.mp (hsets _ (List.mem_of_getElem? (i := 102) rfl))) (Cond.before_iff.mp (hsets _ (List.mem_of_getElem? (i := 103) rfl))) (Cond.before_iff.mp (hsets _ (List.mem_of_getElem? (i := 105) rfl))) (Cond.before_iff.mp (hsets _ (List.mem_of_getElem? (i := 106) rfl)))
    | 12, _, _ => exact own_posat (v := 12) ev_a_posConst A_pc (j := 12) rfl (Cond.before_iff.mp (hsets _ (List.mem_of_getElem? (i := 107) rfl))) (Cond.before_iff.mp (hsets _ (List.mem_of_getElem? (i := 108) rfl))) (Cond.before_iff.mp (hsets _ (List.mem_of_getElem? (i := 109) rfl))) (Cond.before_iff.mp (hsets _ (List.mem_of_getElem? (i := 111) rfl))) (Cond.before_iff.mp (hsets _ (List.mem_of_getElem? (i := 112) rfl)))
    | 13, _, _ => exact own_posat (v := 13) ev_a_posConst A_pc (j := 13) rfl (Cond.before_iff.mp (hsets _ (List.mem_of_getElem? (i := 113) rfl))) (Cond.before_iff.mp (hsets _ (List.mem_of_getElem? (i := 114) rfl))) (Cond.before_iff.mp (hsets _ (List.mem_of_getElem? (i := 115) rfl))) (Cond.before_iff.mp (hsets _ (List.mem_of_getElem? (i := 117) rfl))) (Cond.before_iff.mp (hsets _ (List.mem_of_getElem? (i := 118) rfl)))
    | 14, _, _ => exact own_posat (v := 14) ev_a_posConst A_pc (j := 14) rfl (Cond.before_iff.mp (hsets _ (List.mem_of_getElem? (i := 119) rfl))) (Cond.before_iff.mp (hsets _ (List.mem_of_getElem? (i := 120) rfl))) (Cond.before_iff.mp (hsets _ (List.mem_of_getElem? (i := 121) rfl))) (Cond.before_iff.mp (hsets _ (List.mem_of_getElem? (i := 123) rfl))) (Cond.before_iff.mp (hsets _ (List.mem_of_getElem? (i := 124) rfl)))
    | 15, _, _ => exact own_posat (v := 15) ev_a_posConst A_pc (j := 15) rfl (Cond.before_iff.mp (hsets _ (List.mem_of_getElem? (i := 125) rfl))) (Cond.before_iff.mp (hsets _ (List.mem_of_getElem? (i := 126) rfl))) (Cond.before_iff.mp (hsets _ (List.mem_of_getElem? (i := 127) rfl))) (Cond.before_iff.mp (hsets _ (List.mem_of_getElem? (i := 129) rfl))) (Cond.before_iff.mp (hsets _ (List.mem_of_getElem? (i := 130) rfl)))
    | 16, _, _ => exact own_posat (v := 16) ev_a_posConst A_pc (j := 16) rfl (Cond.before_iff.mp (hsets _ (List.mem_of_getElem? (i := 131) rfl))) (Cond.before_iff.mp (hsets _ (List.mem_of_getElem? (i := 132) rfl))) (Cond.before_iff.mp (hsets _ (List.mem_of_getElem? (i := 133) rfl))) (Cond.before_iff.mp (hsets _ (List.mem_of_getElem? (i := 135) rfl))) (Cond.before_iff.mp (hsets _ (List.mem_of_getElem? (i := 136) rfl)))
    | n + 17, _, q => exact absurd q (by omega)
  have hEL : EW s #[] consts_1 := EW.nil
  have hCH : CHv s consts_1 s.vm s.heap := fun _ hp => nomatch hp
  obtain ⟨n, o, h1, h2, h3, _, L, rfl, ⟨rfl, N⟩, -, hq⟩ := rm0 l s _ hw tables_1 i0 i1 i2 i3 i4 a_ZERO v_UNASSIGNED_STACK v_SUPPRESSED_SENTINEL s.heap s.heap.size (Old.start s) hEL S_a_ZERO hz0 S_v_UNASSIGNED_STACK S_v_SUPPRESSED_SENTINEL hPC hl r_UNASSIGNED_STACK r_SUPPRESSED_SENTINEL p e ha hc hk s m _ below hf ((Spec.applies_iff_loose hf).mp happ).1 ⟨rfl, State.Warmed39.refl s, rfl, hCH⟩ (own_knows hf hcalls)
  refine ⟨n, _, h1, h2, h3, hpost _ _ _ _ _ _ ⟨Cond.after_iff.mpr rfl, Cond.after_iff.mpr (eq_i res_at (Term.int_eval (1)) rfl), trivial⟩ ⟨hq.1, hq.2.1, hq.2.2.1, (hq.2.2.2.sift fun y hy => Or.inr (N y hy)).mono (by decide) (by decide)⟩⟩
theorem main_1_1 : Claimed_1_1 := comes_1 fun _ _ _ _ _ _ h hF => ⟨h.1, hF⟩
theorem main_1_2 : Claimed_1_2 := comes_1 fun _ _ _ _ _ _ h hF => ⟨h.2.1, hF⟩
end Jvm.Pilot.@@N@@
namespace Jvm.Pilot.@@N@@
open Jvm Jvm.ClassFile Sem Op Lib Jvm.Free Jvm.Stand Jvm.Pilot.@@N@@.Jvm.D
/-! MADE BY PROGRAM (witnessworld.py) out of the Statement's table words and the real class files: 40 classes; the members and pool entries that the words name. The judged class is class 1, her method 3. -/
namespace start1
open Jvm.ClassFile
def u (s : String) : CpInfo := .utf8 (stringToUtf16 s)
/-- a pool by its gaps: so many unusable entries, then the entry; so many at the end -/
def gap : Nat → List CpInfo → List CpInfo
  | 0, r => r
  | n + 1, r => .unusable :: gap n r
def poolList (es : List (Nat × CpInfo)) (last : Nat) : List CpInfo := es.foldr (fun e r => gap e.1 (e.2 :: r)) (gap last [])
def pool (es : List (Nat × CpInfo)) (last : Nat) : Array CpInfo := ⟨poolList es last⟩
def fileOf (pool : Array CpInfo) (this : Nat) (attrs : Array Attribute := #[]) (ms : Array MethodInfo := #[]) (fl : Nat := 33) (sup : Nat := 0) (ifs : Array Nat := #[]) (fds : Array FieldInfo := #[]) : ClassFile where
  minorVersion := 0
  majorVersion := 65
  constantPool := pool
  accessFlags := fl
  thisClass := this
  superClass := sup
  interfaces := ifs
  fields := fds
  methods := ms
  attributes := attrs
def plain (name : String) (sup : Option ClassId) : Class where
  name := name
  kind := .ordinary
  loader := none
  accessFlags := 33
  super := sup
  interfaces := #[]
  cf := none
  fields := #[]
  methods := #[]
  instanceTypes := #[]
  staticTypes := #[]
  resolved := #[]
  callSites := []
  init := .initialized
  statics := none
  mirror := none

def pool0 : Array CpInfo := pool [(5, u "<init>"), (0, u "()V"), (1, .class_ 10), (1, u "java/lang/Object")] 113

def k0c0 : Code := { maxStack := 0, maxLocals := 1, code := object_method_1_code, exceptionTable := #[], attributes := #[] }
def k0m0 : Method := { name := "<init>", desc := "()V", sig := { parameters := [], returnType := none }, accessFlags := 1, code := some k0c0 }
/-- java/lang/Object -/
def k0 : Class := { plain "java/lang/Object" none with
  accessFlags := 33
  interfaces := #[]
  cf := some (fileOf pool0 8 #[] #[{ accessFlags := 1, nameIndex := 5, descriptorIndex := 6, attributes := #[] }] 33 0 #[] #[])
  fields := #[]
  methods := #[k0m0]
  instanceTypes := #[]
  staticTypes := #[]
  resolved := Array.replicate 124 none
  statics := none }

def pool1 : Array CpInfo := pool [(2, .class_ 4), (0, .nameAndType 5 6), (0, u "java/lang/Object"), (0, u "<init>"), (0, u "()V"), (2, .long 9223372036854775807), (1, .methodref 12 13), (0, .class_ 14), (0, .nameAndType 15 16), (0, u "com/example/brisk_dedup/briskdedup/engine/FractionMeanIsEmptyPinLaw"), (0, u "den"), (0, u "(J)J"), (0, .methodref 12 18), (0, .nameAndType 19 20), (0, u "num"), (0, u "(JJZ)J"), (0, .class_ 22), (0, u "com/example/brisk_dedup/briskdedup/engine/FractionMean"), (0, .methodref 21 3), (0, .methodref 21 25), (0, .nameAndType 26 27), (0, u "isEmpty"), (0, u "()Z"), (0, .methodref 21 29), (0, .nameAndType 30 31), (0, u "add"), (0, u "(JJ)V"), (3, u "law"), (0, u "(IJJJJ)Z")] 2

def k1m0 : Method := { name := "<init>", desc := "()V", sig := { parameters := [], returnType := none }, accessFlags := 1, code := none }
def k1c1 : Code := { maxStack := 4, maxLocals := 4, code := method_2_code, exceptionTable := #[], attributes := #[] }
def k1m1 : Method := { name := "den", desc := "(J)J", sig := { parameters := [.long], returnType := some .long }, accessFlags := 10, code := some k1c1 }
def k1c2 : Code := { maxStack := 4, maxLocals := 5, code := method_3_code, exceptionTable := #[], attributes := #[] }
def k1m2 : Method := { name := "num", desc := "(JJZ)J", sig := { parameters := [.long, .long, .boolean], returnType := some .long }, accessFlags := 10, code := some k1c2 }
def k1c3 : Code := { maxStack := 5, maxLocals := 24, code := code, exceptionTable := #[], attributes := #[] }
def k1m3 : Method := { name := "law", desc := "(IJJJJ)Z", sig := { parameters := [.int, .long, .long, .long, .long], returnType := some .boolean }, accessFlags := 9, code := some k1c3 }
/-- com/example/brisk_dedup/briskdedup/engine/FractionMeanIsEmptyPinLaw -/
def k1 : Class := { plain "com/example/brisk_dedup/briskdedup/engine/FractionMeanIsEmptyPinLaw" (some 0) with
  accessFlags := 49
  interfaces := #[]
  cf := some (fileOf pool1 12 #[] #[{ accessFlags := 1, nameIndex := 5, descriptorIndex := 6, attributes := #[] }, { accessFlags := 10, nameIndex := 15, descriptorIndex := 16, attributes := #[] }, { accessFlags := 10, nameIndex := 19, descriptorIndex := 20, attributes := #[] }, { accessFlags := 9, nameIndex := 35, descriptorIndex := 36, attributes := #[] }] 49 2 #[] #[])
  fields := #[]
  methods := #[k1m0, k1m1, k1m2, k1m3]
  instanceTypes := #[]
  staticTypes := #[]
  resolved := Array.replicate 39 none
  statics := none }

def pool2 : Array CpInfo := pool [(1, .methodref 2 3), (0, .class_ 4), (0, .nameAndType 5 6), (0, u "java/lang/Object"), (0, u "<init>"), (0, u "()V"), (0, .fieldref 8 9), (0, .class_ 10), (0, .nameAndType 11 12), (0, u "com/example/brisk_dedup/briskdedup/engine/FractionMean"), (0, u "denominator"), (0, u "J"), (0, .fieldref 8 14), (0, .nameAndType 15 16), (0, u "count"), (0, u "I"), (0, .fieldref 8 18), (0, .nameAndType 19 20), (0, u "bigNumerator"), (0, u "Ljava/math/BigInteger;"), (0, .fieldref 8 22), (0, .nameAndType 23 12), (0, u "numerator"), (0, .methodref 25 26), (0, .class_ 27), (0, .nameAndType 28 29), (0, u "java/lang/Math"), (0, u "multiplyExact"), (0, u "(JJ)J"), (0, .methodref 25 31), (0, .nameAndType 32 29), (0, u "addExact"), (0, .class_ 34), (0, u "java/lang/ArithmeticException"), (0, .methodref 36 37), (0, .class_ 38), (0, .nameAndType 39 40), (0, u "java/math/BigInteger"), (0, u "valueOf"), (0, u "(J)Ljava/math/BigInteger;"), (0, .fieldref 8 42), (0, .nameAndType 43 20), (0, u "bigDenominator"), (0, .methodref 36 45), (0, .nameAndType 46 47), (0, u "multiply"), (0, u "(Ljava/math/BigInteger;)Ljava/math/BigInteger;"), (0, .methodref 36 49), (0, .nameAndType 50 47), (0, u "add"), (3, u "()Z"), (30, u "(JJ)V"), (1, u "isEmpty")] 6

def k2c0 : Code := { maxStack := 3, maxLocals := 1, code := prog_36_method_1_code, exceptionTable := #[], attributes := #[] }
def k2m0 : Method := { name := "<init>", desc := "()V", sig := { parameters := [], returnType := none }, accessFlags := 0, code := some k2c0 }
def k2c1 : Code := { maxStack := 6, maxLocals := 7, code := prog_36_method_2_code, exceptionTable := #[{ startPc := 17, endPc := 56, handlerPc := 57, catchType := 33 }], attributes := #[] }
def k2m1 : Method := { name := "add", desc := "(JJ)V", sig := { parameters := [.long, .long], returnType := none }, accessFlags := 0, code := some k2c1 }
def k2c2 : Code := { maxStack := 1, maxLocals := 1, code := prog_36_method_3_code, exceptionTable := #[], attributes := #[] }
def k2m2 : Method := { name := "isEmpty", desc := "()Z", sig := { parameters := [], returnType := some .boolean }, accessFlags := 0, code := some k2c2 }
/-- com/example/brisk_dedup/briskdedup/engine/FractionMean -/
def k2 : Class := { plain "com/example/brisk_dedup/briskdedup/engine/FractionMean" (some 0) with
  accessFlags := 32
  interfaces := #[]
  cf := some (fileOf pool2 8 #[] #[{ accessFlags := 0, nameIndex := 5, descriptorIndex := 6, attributes := #[] }, { accessFlags := 0, nameIndex := 50, descriptorIndex := 85, attributes := #[] }, { accessFlags := 0, nameIndex := 87, descriptorIndex := 54, attributes := #[] }] 32 2 #[] #[{ accessFlags := 2, nameIndex := 23, descriptorIndex := 12, attributes := #[] }, { accessFlags := 2, nameIndex := 11, descriptorIndex := 12, attributes := #[] }, { accessFlags := 2, nameIndex := 19, descriptorIndex := 20, attributes := #[] }, { accessFlags := 2, nameIndex := 43, descriptorIndex := 20, attributes := #[] }, { accessFlags := 2, nameIndex := 15, descriptorIndex := 16, attributes := #[] }])
  fields := #[{ name := "numerator", type := .long, accessFlags := 2, slot := 0, constantValue := 0 }, { name := "denominator", type := .long, accessFlags := 2, slot := 1, constantValue := 0 }, { name := "bigNumerator", type := (.object "java/math/BigInteger"), accessFlags := 2, slot := 2, constantValue := 0 }, { name := "bigDenominator", type := (.object "java/math/BigInteger"), accessFlags := 2, slot := 3, constantValue := 0 }, { name := "count", type := .int, accessFlags := 2, slot := 4, constantValue := 0 }]
  methods := #[k2m0, k2m1, k2m2]
  instanceTypes := #[.long, .long, (.object "java/math/BigInteger"), (.object "java/math/BigInteger"), .int]
  staticTypes := #[]
  resolved := Array.replicate 94 none
  statics := none }

def pool3 : Array CpInfo := pool [(1, .class_ 2), (0, u "java/lang/Math"), (1, .class_ 6), (1, u "java/lang/Object"), (0, u "<init>"), (0, u "()V"), (89, .class_ 100), (1, u "java/lang/Math$RandomNumberGeneratorHolder"), (8, .class_ 110), (0, u "java/lang/ArithmeticException"), (2, .methodref 109 114), (0, .nameAndType 7 115), (0, u "(Ljava/lang/String;)V"), (0, .string 117), (0, u "long overflow"), (2, u "multiplyExact"), (0, u "(JJ)J"), (0, .methodref 1 123), (0, .nameAndType 124 125), (0, u "abs"), (0, u "(J)J"), (2, .long 9223372036854775808), (43, u "negativeZeroFloatBits"), (0, u "J"), (2, u "negativeZeroDoubleBits"), (24, u "min"), (43, u "$assertionsDisabled"), (0, u "Z"), (88, u "(II)I"), (2, u "twoToTheDoubleScaleDown"), (0, u "D"), (4, u "twoToTheDoubleScaleUp"), (9, u "E"), (3, u "PI"), (2, u "TAU"), (2, u "DEGREES_TO_RADIANS"), (0, u "RADIANS_TO_DEGREES"), (27, u "addExact")] 66

def k3m0 : Method := { name := "<init>", desc := "()V", sig := { parameters := [], returnType := none }, accessFlags := 2, code := none }
def k3c1 : Code := { maxStack := 6, maxLocals := 6, code := jdk_29_method_25_code, exceptionTable := #[], attributes := #[] }
def k3m1 : Method := { name := "addExact", desc := "(JJ)J", sig := { parameters := [.long, .long], returnType := some .long }, accessFlags := 9, code := some k3c1 }
def k3c2 : Code := { maxStack := 4, maxLocals := 10, code := jdk_29_method_30_code, exceptionTable := #[], attributes := #[] }
def k3m2 : Method := { name := "multiplyExact", desc := "(JJ)J", sig := { parameters := [.long, .long], returnType := some .long }, accessFlags := 9, code := some k3c2 }
def k3c3 : Code := { maxStack := 4, maxLocals := 2, code := jdk_29_method_61_code, exceptionTable := #[], attributes := #[] }
def k3m3 : Method := { name := "abs", desc := "(J)J", sig := { parameters := [.long], returnType := some .long }, accessFlags := 9, code := some k3c3 }
def k3c4 : Code := { maxStack := 2, maxLocals := 2, code := jdk_29_method_69_code, exceptionTable := #[], attributes := #[] }
def k3m4 : Method := { name := "min", desc := "(II)I", sig := { parameters := [.int, .int], returnType := some .int }, accessFlags := 9, code := some k3c4 }
/-- java/lang/Math -/
def k3 : Class := { plain "java/lang/Math" (some 0) with
  accessFlags := 49
  interfaces := #[]
  cf := some (fileOf pool3 1 #[.nestMembers #[98]] #[{ accessFlags := 2, nameIndex := 7, descriptorIndex := 8, attributes := #[] }, { accessFlags := 9, nameIndex := 393, descriptorIndex := 121, attributes := #[] }, { accessFlags := 9, nameIndex := 120, descriptorIndex := 121, attributes := #[] }, { accessFlags := 9, nameIndex := 124, descriptorIndex := 125, attributes := #[] }, { accessFlags := 9, nameIndex := 201, descriptorIndex := 335, attributes := #[] }] 49 4 #[] #[{ accessFlags := 25, nameIndex := 354, descriptorIndex := 339, attributes := #[] }, { accessFlags := 25, nameIndex := 358, descriptorIndex := 339, attributes := #[] }, { accessFlags := 25, nameIndex := 361, descriptorIndex := 339, attributes := #[] }, { accessFlags := 26, nameIndex := 364, descriptorIndex := 339, attributes := #[] }, { accessFlags := 26, nameIndex := 365, descriptorIndex := 339, attributes := #[] }, { accessFlags := 26, nameIndex := 172, descriptorIndex := 173, attributes := #[] }, { accessFlags := 26, nameIndex := 176, descriptorIndex := 173, attributes := #[] }, { accessFlags := 8, nameIndex := 344, descriptorIndex := 339, attributes := #[] }, { accessFlags := 8, nameIndex := 338, descriptorIndex := 339, attributes := #[] }, { accessFlags := 4120, nameIndex := 245, descriptorIndex := 246, attributes := #[] }])
  fields := #[{ name := "E", type := .double, accessFlags := 25, slot := 0, constantValue := 0 }, { name := "PI", type := .double, accessFlags := 25, slot := 1, constantValue := 0 }, { name := "TAU", type := .double, accessFlags := 25, slot := 2, constantValue := 0 }, { name := "DEGREES_TO_RADIANS", type := .double, accessFlags := 26, slot := 3, constantValue := 0 }, { name := "RADIANS_TO_DEGREES", type := .double, accessFlags := 26, slot := 4, constantValue := 0 }, { name := "negativeZeroFloatBits", type := .long, accessFlags := 26, slot := 5, constantValue := 0 }, { name := "negativeZeroDoubleBits", type := .long, accessFlags := 26, slot := 6, constantValue := 0 }, { name := "twoToTheDoubleScaleUp", type := .double, accessFlags := 8, slot := 7, constantValue := 0 }, { name := "twoToTheDoubleScaleDown", type := .double, accessFlags := 8, slot := 8, constantValue := 0 }, { name := "$assertionsDisabled", type := .boolean, accessFlags := 4120, slot := 9, constantValue := 0 }]
  methods := #[k3m0, k3m1, k3m2, k3m3, k3m4]
  instanceTypes := #[]
  staticTypes := #[.double, .double, .double, .double, .double, .long, .long, .double, .double, .boolean]
  resolved := Array.replicate 460 none
  statics := none }

def pool4 : Array CpInfo := pool [(1, .class_ 2), (0, u "java/io/Serializable"), (0, .class_ 4), (0, u "java/lang/Object")] 2

/-- java/io/Serializable -/
def k4 : Class := { plain "java/io/Serializable" (some 0) with
  accessFlags := 1537
  interfaces := #[]
  cf := some (fileOf pool4 1 #[] #[] 1537 3 #[] #[])
  fields := #[]
  methods := #[]
  instanceTypes := #[]
  staticTypes := #[]
  resolved := Array.replicate 7 none
  statics := none }

def pool5 : Array CpInfo := pool [(1, .methodref 2 3), (0, .class_ 4), (0, .nameAndType 5 6), (0, u "java/lang/Object"), (0, u "<init>"), (0, u "()V"), (0, .fieldref 8 9), (0, .class_ 10), (0, .nameAndType 11 12), (0, u "java/lang/Throwable"), (0, u "cause"), (0, u "Ljava/lang/Throwable;"), (0, .fieldref 8 14), (0, .nameAndType 15 16), (0, u "UNASSIGNED_STACK"), (0, u "[Ljava/lang/StackTraceElement;"), (0, .fieldref 8 18), (0, .nameAndType 19 16), (0, u "stackTrace"), (0, .fieldref 8 21), (0, .nameAndType 22 23), (0, u "SUPPRESSED_SENTINEL"), (0, u "Ljava/util/List;"), (0, .fieldref 8 25), (0, .nameAndType 26 23), (0, u "suppressedExceptions"), (0, .methodref 8 28), (0, .nameAndType 29 30), (0, u "fillInStackTrace"), (0, u "()Ljava/lang/Throwable;"), (0, .fieldref 8 32), (0, .nameAndType 33 34), (0, u "detailMessage"), (0, u "Ljava/lang/String;"), (58, .class_ 94), (0, u "java/lang/Throwable$WrappedPrintStream"), (6, .class_ 103), (1, u "java/lang/Throwable$PrintStreamOrWriter"), (61, u "$assertionsDisabled"), (0, u "Z"), (26, .class_ 194), (0, u "java/lang/Throwable$WrappedPrintWriter"), (3, .fieldref 8 199), (0, .nameAndType 200 201), (0, u "backtrace"), (0, u "Ljava/lang/Object;"), (0, .methodref 8 203), (0, .nameAndType 29 204), (0, u "(I)Ljava/lang/Throwable;"), (6, u "depth"), (0, u "I"), (10, u "(Ljava/lang/String;)V"), (45, .class_ 271), (1, u "java/lang/Throwable$SentinelHolder"), (32, u "EMPTY_THROWABLE_ARRAY"), (0, u "[Ljava/lang/Throwable;"), (12, .class_ 319), (0, u "java/io/Serializable"), (0, u "serialVersionUID"), (0, u "J"), (5, u "NULL_CAUSE_MESSAGE"), (0, u "SELF_SUPPRESSION_MESSAGE"), (0, u "CAUSE_CAPTION"), (0, u "SUPPRESSED_CAPTION")] 73

def k5c0 : Code := { maxStack := 2, maxLocals := 1, code := jdk_78_method_1_code, exceptionTable := #[], attributes := #[] }
def k5m0 : Method := { name := "<init>", desc := "()V", sig := { parameters := [], returnType := none }, accessFlags := 1, code := some k5c0 }
def k5c1 : Code := { maxStack := 2, maxLocals := 2, code := jdk_78_method_2_code, exceptionTable := #[], attributes := #[] }
def k5m1 : Method := { name := "<init>", desc := "(Ljava/lang/String;)V", sig := { parameters := [(.object "java/lang/String")], returnType := none }, accessFlags := 1, code := some k5c1 }
def k5c2 : Code := { maxStack := 2, maxLocals := 1, code := ⟨#[0x2a, 0xb4, 0x00, 0x11, 0xc7, 0x00, 0x0a, 0x2a, 0xb4, 0x00, 0xc6, 0xc6, 0x00, 0x10, 0x2a, 0x03, 0xb6, 0x00, 0xca, 0x57, 0x2a, 0xb2, 0x00, 0x0d, 0xb5, 0x00, 0x11, 0x2a, 0xb0]⟩, exceptionTable := #[], attributes := #[] }
def k5m2 : Method := { name := "fillInStackTrace", desc := "()Ljava/lang/Throwable;", sig := { parameters := [], returnType := some (.object "java/lang/Throwable") }, accessFlags := 33, code := some k5c2 }
def k5m3 : Method := { name := "fillInStackTrace", desc := "(I)Ljava/lang/Throwable;", sig := { parameters := [.int], returnType := some (.object "java/lang/Throwable") }, accessFlags := 258, code := none }
/-- java/lang/Throwable -/
def k5 : Class := { plain "java/lang/Throwable" (some 0) with
  accessFlags := 33
  interfaces := #[4]
  cf := some (fileOf pool5 8 #[.nestMembers #[193, 93, 101, 269]] #[{ accessFlags := 1, nameIndex := 5, descriptorIndex := 6, attributes := #[] }, { accessFlags := 1, nameIndex := 5, descriptorIndex := 223, attributes := #[] }, { accessFlags := 33, nameIndex := 29, descriptorIndex := 30, attributes := #[] }, { accessFlags := 258, nameIndex := 29, descriptorIndex := 204, attributes := #[] }] 33 2 #[318] #[{ accessFlags := 26, nameIndex := 320, descriptorIndex := 321, attributes := #[] }, { accessFlags := 130, nameIndex := 200, descriptorIndex := 201, attributes := #[] }, { accessFlags := 2, nameIndex := 33, descriptorIndex := 34, attributes := #[] }, { accessFlags := 26, nameIndex := 15, descriptorIndex := 16, attributes := #[] }, { accessFlags := 2, nameIndex := 11, descriptorIndex := 12, attributes := #[] }, { accessFlags := 2, nameIndex := 19, descriptorIndex := 16, attributes := #[] }, { accessFlags := 130, nameIndex := 211, descriptorIndex := 212, attributes := #[] }, { accessFlags := 26, nameIndex := 22, descriptorIndex := 23, attributes := #[] }, { accessFlags := 2, nameIndex := 26, descriptorIndex := 23, attributes := #[] }, { accessFlags := 26, nameIndex := 327, descriptorIndex := 34, attributes := #[] }, { accessFlags := 26, nameIndex := 328, descriptorIndex := 34, attributes := #[] }, { accessFlags := 26, nameIndex := 329, descriptorIndex := 34, attributes := #[] }, { accessFlags := 26, nameIndex := 330, descriptorIndex := 34, attributes := #[] }, { accessFlags := 26, nameIndex := 304, descriptorIndex := 305, attributes := #[] }, { accessFlags := 4120, nameIndex := 165, descriptorIndex := 166, attributes := #[] }])
  fields := #[{ name := "serialVersionUID", type := .long, accessFlags := 26, slot := 0, constantValue := 0 }, { name := "backtrace", type := (.object "java/lang/Object"), accessFlags := 130, slot := 0, constantValue := 0 }, { name := "detailMessage", type := (.object "java/lang/String"), accessFlags := 2, slot := 1, constantValue := 0 }, { name := "UNASSIGNED_STACK", type := (.array (.object "java/lang/StackTraceElement")), accessFlags := 26, slot := 1, constantValue := 0 }, { name := "cause", type := (.object "java/lang/Throwable"), accessFlags := 2, slot := 2, constantValue := 0 }, { name := "stackTrace", type := (.array (.object "java/lang/StackTraceElement")), accessFlags := 2, slot := 3, constantValue := 0 }, { name := "depth", type := .int, accessFlags := 130, slot := 4, constantValue := 0 }, { name := "SUPPRESSED_SENTINEL", type := (.object "java/util/List"), accessFlags := 26, slot := 2, constantValue := 0 }, { name := "suppressedExceptions", type := (.object "java/util/List"), accessFlags := 2, slot := 5, constantValue := 0 }, { name := "NULL_CAUSE_MESSAGE", type := (.object "java/lang/String"), accessFlags := 26, slot := 3, constantValue := 0 }, { name := "SELF_SUPPRESSION_MESSAGE", type := (.object "java/lang/String"), accessFlags := 26, slot := 4, constantValue := 0 }, { name := "CAUSE_CAPTION", type := (.object "java/lang/String"), accessFlags := 26, slot := 5, constantValue := 0 }, { name := "SUPPRESSED_CAPTION", type := (.object "java/lang/String"), accessFlags := 26, slot := 6, constantValue := 0 }, { name := "EMPTY_THROWABLE_ARRAY", type := (.array (.object "java/lang/Throwable")), accessFlags := 26, slot := 7, constantValue := 0 }, { name := "$assertionsDisabled", type := .boolean, accessFlags := 4120, slot := 8, constantValue := 0 }]
  methods := #[k5m0, k5m1, k5m2, k5m3]
  instanceTypes := #[(.object "java/lang/Object"), (.object "java/lang/String"), (.object "java/lang/Throwable"), (.array (.object "java/lang/StackTraceElement")), .int, (.object "java/util/List")]
  staticTypes := #[.long, (.array (.object "java/lang/StackTraceElement")), (.object "java/util/List"), (.object "java/lang/String"), (.object "java/lang/String"), (.object "java/lang/String"), (.object "java/lang/String"), (.array (.object "java/lang/Throwable")), .boolean]
  resolved := Array.replicate 404 none
  statics := some 0 }

def pool6 : Array CpInfo := pool [(2, .class_ 4), (1, u "java/lang/Throwable"), (0, u "<init>"), (0, u "()V"), (0, .methodref 2 8), (0, .nameAndType 5 9), (0, u "(Ljava/lang/String;)V"), (9, .class_ 20), (0, u "java/lang/Exception"), (0, u "serialVersionUID"), (0, u "J")] 17

def k6m0 : Method := { name := "<init>", desc := "()V", sig := { parameters := [], returnType := none }, accessFlags := 1, code := none }
def k6c1 : Code := { maxStack := 2, maxLocals := 2, code := jdk_59_method_2_code, exceptionTable := #[], attributes := #[] }
def k6m1 : Method := { name := "<init>", desc := "(Ljava/lang/String;)V", sig := { parameters := [(.object "java/lang/String")], returnType := none }, accessFlags := 1, code := some k6c1 }
/-- java/lang/Exception -/
def k6 : Class := { plain "java/lang/Exception" (some 5) with
  accessFlags := 33
  interfaces := #[]
  cf := some (fileOf pool6 19 #[] #[{ accessFlags := 1, nameIndex := 5, descriptorIndex := 6, attributes := #[] }, { accessFlags := 1, nameIndex := 5, descriptorIndex := 9, attributes := #[] }] 33 2 #[] #[{ accessFlags := 24, nameIndex := 21, descriptorIndex := 22, attributes := #[] }])
  fields := #[{ name := "serialVersionUID", type := .long, accessFlags := 24, slot := 0, constantValue := 0 }]
  methods := #[k6m0, k6m1]
  instanceTypes := #[(.object "java/lang/Object"), (.object "java/lang/String"), (.object "java/lang/Throwable"), (.array (.object "java/lang/StackTraceElement")), .int, (.object "java/util/List")]
  staticTypes := #[.long]
  resolved := Array.replicate 40 none
  statics := none }

def pool7 : Array CpInfo := pool [(2, .class_ 4), (1, u "java/lang/Exception"), (0, u "<init>"), (0, u "()V"), (0, .methodref 2 8), (0, .nameAndType 5 9), (0, u "(Ljava/lang/String;)V"), (9, .class_ 20), (0, u "java/lang/RuntimeException"), (0, u "serialVersionUID"), (0, u "J")] 17

def k7m0 : Method := { name := "<init>", desc := "()V", sig := { parameters := [], returnType := none }, accessFlags := 1, code := none }
def k7c1 : Code := { maxStack := 2, maxLocals := 2, code := jdk_58_method_2_code, exceptionTable := #[], attributes := #[] }
def k7m1 : Method := { name := "<init>", desc := "(Ljava/lang/String;)V", sig := { parameters := [(.object "java/lang/String")], returnType := none }, accessFlags := 1, code := some k7c1 }
/-- java/lang/RuntimeException -/
def k7 : Class := { plain "java/lang/RuntimeException" (some 6) with
  accessFlags := 33
  interfaces := #[]
  cf := some (fileOf pool7 19 #[] #[{ accessFlags := 1, nameIndex := 5, descriptorIndex := 6, attributes := #[] }, { accessFlags := 1, nameIndex := 5, descriptorIndex := 9, attributes := #[] }] 33 2 #[] #[{ accessFlags := 24, nameIndex := 21, descriptorIndex := 22, attributes := #[] }])
  fields := #[{ name := "serialVersionUID", type := .long, accessFlags := 24, slot := 0, constantValue := 0 }]
  methods := #[k7m0, k7m1]
  instanceTypes := #[(.object "java/lang/Object"), (.object "java/lang/String"), (.object "java/lang/Throwable"), (.array (.object "java/lang/StackTraceElement")), .int, (.object "java/util/List")]
  staticTypes := #[.long]
  resolved := Array.replicate 40 none
  statics := none }

def pool8 : Array CpInfo := pool [(2, .class_ 4), (1, u "java/lang/RuntimeException"), (0, u "<init>"), (0, u "()V"), (0, .methodref 2 8), (0, .nameAndType 5 9), (0, u "(Ljava/lang/String;)V"), (0, .class_ 11), (0, u "java/lang/ArithmeticException"), (0, u "serialVersionUID"), (0, u "J")] 12

def k8m0 : Method := { name := "<init>", desc := "()V", sig := { parameters := [], returnType := none }, accessFlags := 1, code := none }
def k8c1 : Code := { maxStack := 2, maxLocals := 2, code := jdk_84_method_2_code, exceptionTable := #[], attributes := #[] }
def k8m1 : Method := { name := "<init>", desc := "(Ljava/lang/String;)V", sig := { parameters := [(.object "java/lang/String")], returnType := none }, accessFlags := 1, code := some k8c1 }
/-- java/lang/ArithmeticException -/
def k8 : Class := { plain "java/lang/ArithmeticException" (some 7) with
  accessFlags := 33
  interfaces := #[]
  cf := some (fileOf pool8 10 #[] #[{ accessFlags := 1, nameIndex := 5, descriptorIndex := 6, attributes := #[] }, { accessFlags := 1, nameIndex := 5, descriptorIndex := 9, attributes := #[] }] 33 2 #[] #[{ accessFlags := 26, nameIndex := 12, descriptorIndex := 13, attributes := #[] }])
  fields := #[{ name := "serialVersionUID", type := .long, accessFlags := 26, slot := 0, constantValue := 0 }]
  methods := #[k8m0, k8m1]
  instanceTypes := #[(.object "java/lang/Object"), (.object "java/lang/String"), (.object "java/lang/Throwable"), (.array (.object "java/lang/StackTraceElement")), .int, (.object "java/util/List")]
  staticTypes := #[.long]
  resolved := Array.replicate 26 none
  statics := none }

def pool9 : Array CpInfo := pool [(1, .class_ 2), (0, u "java/lang/Comparable"), (0, .class_ 4), (0, u "java/lang/Object")] 7

/-- java/lang/Comparable -/
def k9 : Class := { plain "java/lang/Comparable" (some 0) with
  accessFlags := 1537
  interfaces := #[]
  cf := some (fileOf pool9 1 #[] #[] 1537 3 #[] #[])
  fields := #[]
  methods := #[]
  instanceTypes := #[]
  staticTypes := #[]
  resolved := Array.replicate 12 none
  statics := none }

def pool10 : Array CpInfo := pool [(2, .class_ 4), (1, u "java/lang/CharSequence"), (42, .class_ 48), (0, u "java/lang/CharSequence$1CodePointIterator"), (10, .class_ 60), (0, u "java/lang/CharSequence$1CharIterator"), (5, .class_ 67), (0, u "java/lang/Object")] 63

/-- java/lang/CharSequence -/
def k10 : Class := { plain "java/lang/CharSequence" (some 0) with
  accessFlags := 1537
  interfaces := #[]
  cf := some (fileOf pool10 2 #[.nestMembers #[47, 59]] #[] 1537 66 #[] #[])
  fields := #[]
  methods := #[]
  instanceTypes := #[]
  staticTypes := #[]
  resolved := Array.replicate 131 none
  statics := none }

def pool11 : Array CpInfo := pool [(1, .class_ 2), (0, u "java/lang/constant/Constable"), (0, .class_ 4), (0, u "java/lang/Object")] 6

/-- java/lang/constant/Constable -/
def k11 : Class := { plain "java/lang/constant/Constable" (some 0) with
  accessFlags := 1537
  interfaces := #[]
  cf := some (fileOf pool11 1 #[] #[] 1537 3 #[] #[])
  fields := #[]
  methods := #[]
  instanceTypes := #[]
  staticTypes := #[]
  resolved := Array.replicate 11 none
  statics := none }

def pool12 : Array CpInfo := pool [(1, .class_ 2), (0, u "java/lang/constant/ConstantDesc"), (0, .class_ 4), (0, u "java/lang/Object")] 32

/-- java/lang/constant/ConstantDesc -/
def k12 : Class := { plain "java/lang/constant/ConstantDesc" (some 0) with
  accessFlags := 1537
  interfaces := #[]
  cf := some (fileOf pool12 1 #[] #[] 1537 3 #[] #[])
  fields := #[]
  methods := #[]
  instanceTypes := #[]
  staticTypes := #[]
  resolved := Array.replicate 37 none
  statics := none }

def pool13 : Array CpInfo := pool [(2, .class_ 4), (1, u "java/lang/Object"), (0, u "<init>"), (0, u "()V"), (3, .class_ 12), (1, u "java/lang/String"), (0, u "value"), (0, u "[B"), (2, u "coder"), (0, u "B"), (2, u "hash"), (0, u "I"), (2, u "hashIsZero"), (0, u "Z"), (13, u "COMPACT_STRINGS"), (534, .class_ 576), (0, u "java/lang/CharSequence"), (22, u "CASE_INSENSITIVE_ORDER"), (0, u "Ljava/util/Comparator;"), (500, u "serialPersistentFields"), (0, u "[Ljava/io/ObjectStreamField;"), (0, .class_ 1104), (0, u "java/lang/String$CaseInsensitiveComparator"), (1, .class_ 1107), (0, u "java/io/Serializable"), (0, .class_ 1109), (0, u "java/lang/Comparable"), (0, .class_ 1111), (0, u "java/lang/constant/Constable"), (0, .class_ 1113), (0, u "java/lang/constant/ConstantDesc"), (2, u "serialVersionUID"), (0, u "J"), (3, u "REPL"), (0, u "C"), (2, u "LATIN1"), (1, u "UTF16")] 323

def k13m0 : Method := { name := "<init>", desc := "()V", sig := { parameters := [], returnType := none }, accessFlags := 1, code := none }
/-- java/lang/String -/
def k13 : Class := { plain "java/lang/String" (some 0) with
  accessFlags := 49
  interfaces := #[4, 9, 10, 11, 12]
  cf := some (fileOf pool13 10 #[.nestMembers #[1103]] #[{ accessFlags := 1, nameIndex := 5, descriptorIndex := 6, attributes := #[] }] 49 2 #[1106, 1108, 575, 1110, 1112] #[{ accessFlags := 18, nameIndex := 13, descriptorIndex := 14, attributes := #[] }, { accessFlags := 18, nameIndex := 17, descriptorIndex := 18, attributes := #[] }, { accessFlags := 2, nameIndex := 21, descriptorIndex := 22, attributes := #[] }, { accessFlags := 2, nameIndex := 25, descriptorIndex := 26, attributes := #[] }, { accessFlags := 26, nameIndex := 1116, descriptorIndex := 1117, attributes := #[] }, { accessFlags := 24, nameIndex := 40, descriptorIndex := 26, attributes := #[] }, { accessFlags := 26, nameIndex := 1101, descriptorIndex := 1102, attributes := #[] }, { accessFlags := 26, nameIndex := 1121, descriptorIndex := 1122, attributes := #[] }, { accessFlags := 25, nameIndex := 599, descriptorIndex := 600, attributes := #[] }, { accessFlags := 24, nameIndex := 1125, descriptorIndex := 18, attributes := #[] }, { accessFlags := 24, nameIndex := 1127, descriptorIndex := 18, attributes := #[] }])
  fields := #[{ name := "value", type := (.array .byte), accessFlags := 18, slot := 0, constantValue := 0 }, { name := "coder", type := .byte, accessFlags := 18, slot := 1, constantValue := 0 }, { name := "hash", type := .int, accessFlags := 2, slot := 2, constantValue := 0 }, { name := "hashIsZero", type := .boolean, accessFlags := 2, slot := 3, constantValue := 0 }, { name := "serialVersionUID", type := .long, accessFlags := 26, slot := 0, constantValue := 0 }, { name := "COMPACT_STRINGS", type := .boolean, accessFlags := 24, slot := 1, constantValue := 0 }, { name := "serialPersistentFields", type := (.array (.object "java/io/ObjectStreamField")), accessFlags := 26, slot := 2, constantValue := 0 }, { name := "REPL", type := .char, accessFlags := 26, slot := 3, constantValue := 0 }, { name := "CASE_INSENSITIVE_ORDER", type := (.object "java/util/Comparator"), accessFlags := 25, slot := 4, constantValue := 0 }, { name := "LATIN1", type := .byte, accessFlags := 24, slot := 5, constantValue := 0 }, { name := "UTF16", type := .byte, accessFlags := 24, slot := 6, constantValue := 0 }]
  methods := #[k13m0]
  instanceTypes := #[(.array .byte), .byte, .int, .boolean]
  staticTypes := #[.long, .boolean, (.array (.object "java/io/ObjectStreamField")), .char, (.object "java/util/Comparator"), .byte, .byte]
  resolved := Array.replicate 1451 none
  statics := none }

def pool14 : Array CpInfo := pool [(1, .methodref 2 3), (0, .class_ 4), (0, .nameAndType 5 6), (0, u "java/lang/Object"), (0, u "<init>"), (0, u "()V"), (1, .class_ 10), (1, u "java/lang/Number"), (2, .class_ 14), (0, u "java/io/Serializable"), (0, u "serialVersionUID"), (0, u "J")] 20

def k14c0 : Code := { maxStack := 1, maxLocals := 1, code := jdk_18_method_1_code, exceptionTable := #[], attributes := #[] }
def k14m0 : Method := { name := "<init>", desc := "()V", sig := { parameters := [], returnType := none }, accessFlags := 1, code := some k14c0 }
/-- java/lang/Number -/
def k14 : Class := { plain "java/lang/Number" (some 0) with
  accessFlags := 1057
  interfaces := #[4]
  cf := some (fileOf pool14 8 #[] #[{ accessFlags := 1, nameIndex := 5, descriptorIndex := 6, attributes := #[] }] 1057 2 #[13] #[{ accessFlags := 26, nameIndex := 15, descriptorIndex := 16, attributes := #[] }])
  fields := #[{ name := "serialVersionUID", type := .long, accessFlags := 26, slot := 0, constantValue := 0 }]
  methods := #[k14m0]
  instanceTypes := #[]
  staticTypes := #[.long]
  resolved := Array.replicate 37 none
  statics := none }

def pool15 : Array CpInfo := pool [(1, .class_ 2), (0, u "java/lang/Integer"), (0, .methodref 4 5), (0, .class_ 6), (0, .nameAndType 7 8), (0, u "java/lang/Number"), (0, u "<init>"), (0, u "()V"), (8, .class_ 19), (1, u "java/util/Objects"), (1, u "(III)I"), (0, .fieldref 23 24), (0, .class_ 25), (0, .nameAndType 26 27), (0, u "java/math/BigInteger"), (0, u "ZERO"), (0, u "Ljava/math/BigInteger;"), (0, .fieldref 23 29), (0, .nameAndType 30 31), (0, u "mag"), (0, u "[I"), (0, .fieldref 23 33), (0, .nameAndType 34 35), (0, u "signum"), (0, u "I"), (7, .integer 67108864), (8, u "([I)[I"), (0, .methodref 23 54), (0, .nameAndType 55 52), (0, u "trustedStripLeadingZeroInts"), (26, u "(I)I"), (12, u "bitsPerDigit"), (0, u "[J"), (9, u "digitsPerInt"), (12, u "intRadix"), (10, .long 4294967295), (9, .class_ 142), (1, u "java/util/Arrays"), (32, .methodref 23 176), (0, .nameAndType 7 177), (0, u "([II)V"), (2, u "SMALL_PRIME_PRODUCT"), (3, u "(Ljava/math/BigInteger;)Ljava/math/BigInteger;"), (52, u "valueOf"), (0, u "(J)Ljava/math/BigInteger;"), (2, u "add"), (18, u "ONE"), (6, u "TWO"), (43, u "$assertionsDisabled"), (0, u "Z"), (5, u "multiply"), (26, .long 16), (1, .fieldref 23 348), (0, .nameAndType 349 350), (0, u "posConst"), (0, u "[Ljava/math/BigInteger;"), (4, u "negConst"), (0, .methodref 23 357), (0, .nameAndType 7 358), (0, u "(J)V"), (3, .methodref 23 363), (0, .nameAndType 241 364), (0, u "([I[I)[I"), (23, .methodref 389 390), (0, .class_ 391), (0, .nameAndType 392 393), (0, u "java/lang/System"), (0, u "arraycopy"), (0, u "(Ljava/lang/Object;ILjava/lang/Object;II)V"), (3, .methodref 23 398), (0, .nameAndType 318 399), (0, u "(Ljava/math/BigInteger;ZZI)Ljava/math/BigInteger;"), (3, .methodref 23 404), (0, .nameAndType 405 406), (0, u "multiplyByInt"), (0, u "([III)Ljava/math/BigInteger;"), (0, .methodref 23 408), (0, .nameAndType 409 410), (0, u "multiplyToLen"), (0, u "([II[II[I)[I"), (12, .methodref 1 424), (0, .nameAndType 425 82), (0, u "bitCount"), (0, .methodref 1 427), (0, .nameAndType 428 82), (0, u "numberOfTrailingZeros"), (0, .methodref 23 430), (0, .nameAndType 431 432), (0, u "shiftLeft"), (0, u "([II)[I"), (0, .methodref 140 434), (0, .nameAndType 435 436), (0, u "copyOfRange"), (0, u "([III)[I"), (4, .methodref 23 442), (0, .nameAndType 443 177), (0, u "multiplyToLenCheck"), (0, .methodref 23 445), (0, .nameAndType 446 410), (0, u "implMultiplyToLen"), (0, .methodref 17 448), (0, .nameAndType 449 450), (0, u "requireNonNull"), (0, u "(Ljava/lang/Object;)Ljava/lang/Object;"), (21, .class_ 474), (1, u "java/math/BigInteger$RecursiveOp"), (106, u "NEGATIVE_ONE"), (29, .methodref 17 612), (0, .nameAndType 613 21), (0, u "checkFromToIndex"), (3, u "([I[IIII)V"), (0, .methodref 23 619), (0, .nameAndType 620 617), (0, u "shiftLeftImplWorker"), (52, u "bnExpModThreshTable"), (72, u "lowestSetBitPlusTwo"), (2, u "bitLengthPlusOne"), (2, u "bitCountPlusOne"), (6, u "LOG_TWO"), (0, u "D"), (2, u "logCache"), (0, u "[D"), (13, u "NUM_ZEROS"), (2, u "ZEROS"), (0, u "Ljava/lang/String;"), (9, u "longRadix"), (5, u "digitsPerLong"), (22, u "powerCache"), (0, u "[[Ljava/math/BigInteger;"), (45, u "firstNonzeroIntNumPlusTwo"), (38, .class_ 909), (1, u "java/math/BigInteger$UnsafeHolder"), (141, u "TEN"), (106, u "serialPersistentFields"), (0, u "[Ljava/io/ObjectStreamField;"), (0, .class_ 1161), (0, u "java/lang/Comparable"), (0, u "LONG_MASK"), (0, u "J"), (1, u "MAX_MAG_LENGTH"), (0, u "PRIME_SEARCH_BIT_LENGTH_LIMIT"), (1, u "KARATSUBA_THRESHOLD"), (1, u "TOOM_COOK_THRESHOLD"), (1, u "KARATSUBA_SQUARE_THRESHOLD"), (1, u "TOOM_COOK_SQUARE_THRESHOLD"), (1, u "BURNIKEL_ZIEGLER_THRESHOLD"), (0, u "BURNIKEL_ZIEGLER_OFFSET"), (1, u "SCHOENHAGE_BASE_CONVERSION_THRESHOLD"), (1, u "MULTIPLY_SQUARE_THRESHOLD"), (0, u "MONTGOMERY_INTRINSIC_THRESHOLD"), (1, u "SMALL_PRIME_THRESHOLD"), (1, u "DEFAULT_PRIME_CERTAINTY"), (1, u "MAX_CONSTANT"), (3, u "serialVersionUID"), (338, .class_ 1532), (0, u "java/math/BigInteger$RecursiveOp$RecursiveSquare"), (0, .class_ 1534), (0, u "java/math/BigInteger$RecursiveOp$RecursiveMultiply")] 7

def k15c0 : Code := { maxStack := 2, maxLocals := 3, code := jdk_2097_method_25_code, exceptionTable := #[], attributes := #[] }
def k15m0 : Method := { name := "<init>", desc := "([II)V", sig := { parameters := [(.array .int), .int], returnType := none }, accessFlags := 0, code := some k15c0 }
def k15c1 : Code := { maxStack := 4, maxLocals := 2, code := jdk_2097_method_29_code, exceptionTable := #[], attributes := #[] }
def k15m1 : Method := { name := "valueOf", desc := "(J)Ljava/math/BigInteger;", sig := { parameters := [.long], returnType := some (.object "java/math/BigInteger") }, accessFlags := 9, code := some k15c1 }
def k15c2 : Code := { maxStack := 4, maxLocals := 4, code := jdk_2097_method_30_code, exceptionTable := #[], attributes := #[] }
def k15m2 : Method := { name := "<init>", desc := "(J)V", sig := { parameters := [.long], returnType := none }, accessFlags := 2, code := some k15c2 }
def k15c3 : Code := { maxStack := 5, maxLocals := 4, code := jdk_2097_method_32_code, exceptionTable := #[], attributes := #[] }
def k15m3 : Method := { name := "add", desc := "(Ljava/math/BigInteger;)Ljava/math/BigInteger;", sig := { parameters := [(.object "java/math/BigInteger")], returnType := some (.object "java/math/BigInteger") }, accessFlags := 1, code := some k15c3 }
def k15c4 : Code := { maxStack := 6, maxLocals := 9, code := jdk_2097_method_35_code, exceptionTable := #[], attributes := #[] }
def k15m4 : Method := { name := "add", desc := "([I[I)[I", sig := { parameters := [(.array .int), (.array .int)], returnType := some (.array .int) }, accessFlags := 10, code := some k15c4 }
def k15c5 : Code := { maxStack := 5, maxLocals := 2, code := jdk_2097_method_40_code, exceptionTable := #[], attributes := #[] }
def k15m5 : Method := { name := "multiply", desc := "(Ljava/math/BigInteger;)Ljava/math/BigInteger;", sig := { parameters := [(.object "java/math/BigInteger")], returnType := some (.object "java/math/BigInteger") }, accessFlags := 1, code := some k15c5 }
def k15c6 : Code := { maxStack := 5, maxLocals := 9, code := jdk_2097_method_42_code, exceptionTable := #[], attributes := #[] }
def k15m6 : Method := { name := "multiply", desc := "(Ljava/math/BigInteger;ZZI)Ljava/math/BigInteger;", sig := { parameters := [(.object "java/math/BigInteger"), .boolean, .boolean, .int], returnType := some (.object "java/math/BigInteger") }, accessFlags := 2, code := some k15c6 }
def k15c7 : Code := { maxStack := 4, maxLocals := 13, code := jdk_2097_method_43_code, exceptionTable := #[], attributes := #[] }
def k15m7 : Method := { name := "multiplyByInt", desc := "([III)Ljava/math/BigInteger;", sig := { parameters := [(.array .int), .int, .int], returnType := some (.object "java/math/BigInteger") }, accessFlags := 10, code := some k15c7 }
def k15c8 : Code := { maxStack := 5, maxLocals := 5, code := jdk_2097_method_45_code, exceptionTable := #[], attributes := #[] }
def k15m8 : Method := { name := "multiplyToLen", desc := "([II[II[I)[I", sig := { parameters := [(.array .int), .int, (.array .int), .int, (.array .int)], returnType := some (.array .int) }, accessFlags := 10, code := some k15c8 }
def k15c9 : Code := { maxStack := 6, maxLocals := 14, code := jdk_2097_method_46_code, exceptionTable := #[], attributes := #[] }
def k15m9 : Method := { name := "implMultiplyToLen", desc := "([II[II[I)[I", sig := { parameters := [(.array .int), .int, (.array .int), .int, (.array .int)], returnType := some (.array .int) }, accessFlags := 10, code := some k15c9 }
def k15c10 : Code := { maxStack := 4, maxLocals := 2, code := jdk_2097_method_47_code, exceptionTable := #[], attributes := #[] }
def k15m10 : Method := { name := "multiplyToLenCheck", desc := "([II)V", sig := { parameters := [(.array .int), .int], returnType := none }, accessFlags := 10, code := some k15c10 }
def k15c11 : Code := { maxStack := 5, maxLocals := 10, code := jdk_2097_method_102_code, exceptionTable := #[], attributes := #[] }
def k15m11 : Method := { name := "shiftLeft", desc := "([II)[I", sig := { parameters := [(.array .int), .int], returnType := some (.array .int) }, accessFlags := 10, code := some k15c11 }
def k15c12 : Code := { maxStack := 5, maxLocals := 7, code := jdk_2097_method_103_code, exceptionTable := #[], attributes := #[] }
def k15m12 : Method := { name := "shiftLeftImplWorker", desc := "([I[IIII)V", sig := { parameters := [(.array .int), (.array .int), .int, .int, .int], returnType := none }, accessFlags := 10, code := some k15c12 }
def k15c13 : Code := { maxStack := 3, maxLocals := 3, code := jdk_2097_method_140_code, exceptionTable := #[], attributes := #[] }
def k15m13 : Method := { name := "trustedStripLeadingZeroInts", desc := "([I)[I", sig := { parameters := [(.array .int)], returnType := some (.array .int) }, accessFlags := 10, code := some k15c13 }
/-- java/math/BigInteger -/
def k15 : Class := { plain "java/math/BigInteger" (some 14) with
  accessFlags := 33
  interfaces := #[9]
  cf := some (fileOf pool15 23 #[.nestMembers #[907, 472, 1531, 1533]] #[{ accessFlags := 0, nameIndex := 7, descriptorIndex := 177, attributes := #[] }, { accessFlags := 9, nameIndex := 237, descriptorIndex := 238, attributes := #[] }, { accessFlags := 2, nameIndex := 7, descriptorIndex := 358, attributes := #[] }, { accessFlags := 1, nameIndex := 241, descriptorIndex := 184, attributes := #[] }, { accessFlags := 10, nameIndex := 241, descriptorIndex := 364, attributes := #[] }, { accessFlags := 1, nameIndex := 318, descriptorIndex := 184, attributes := #[] }, { accessFlags := 2, nameIndex := 318, descriptorIndex := 399, attributes := #[] }, { accessFlags := 10, nameIndex := 405, descriptorIndex := 406, attributes := #[] }, { accessFlags := 10, nameIndex := 409, descriptorIndex := 410, attributes := #[] }, { accessFlags := 10, nameIndex := 446, descriptorIndex := 410, attributes := #[] }, { accessFlags := 10, nameIndex := 443, descriptorIndex := 177, attributes := #[] }, { accessFlags := 10, nameIndex := 431, descriptorIndex := 432, attributes := #[] }, { accessFlags := 10, nameIndex := 620, descriptorIndex := 617, attributes := #[] }, { accessFlags := 10, nameIndex := 55, descriptorIndex := 52, attributes := #[] }] 33 4 #[1160] #[{ accessFlags := 16, nameIndex := 34, descriptorIndex := 35, attributes := #[] }, { accessFlags := 16, nameIndex := 30, descriptorIndex := 31, attributes := #[] }, { accessFlags := 2, nameIndex := 752, descriptorIndex := 35, attributes := #[] }, { accessFlags := 2, nameIndex := 749, descriptorIndex := 35, attributes := #[] }, { accessFlags := 2, nameIndex := 746, descriptorIndex := 35, attributes := #[] }, { accessFlags := 2, nameIndex := 868, descriptorIndex := 35, attributes := #[] }, { accessFlags := 24, nameIndex := 1162, descriptorIndex := 1163, attributes := #[] }, { accessFlags := 26, nameIndex := 1165, descriptorIndex := 35, attributes := #[] }, { accessFlags := 26, nameIndex := 1166, descriptorIndex := 35, attributes := #[] }, { accessFlags := 26, nameIndex := 1168, descriptorIndex := 35, attributes := #[] }, { accessFlags := 26, nameIndex := 1170, descriptorIndex := 35, attributes := #[] }, { accessFlags := 26, nameIndex := 1172, descriptorIndex := 35, attributes := #[] }, { accessFlags := 26, nameIndex := 1174, descriptorIndex := 35, attributes := #[] }, { accessFlags := 24, nameIndex := 1176, descriptorIndex := 35, attributes := #[] }, { accessFlags := 24, nameIndex := 1177, descriptorIndex := 35, attributes := #[] }, { accessFlags := 26, nameIndex := 1179, descriptorIndex := 35, attributes := #[] }, { accessFlags := 26, nameIndex := 1181, descriptorIndex := 35, attributes := #[] }, { accessFlags := 26, nameIndex := 1182, descriptorIndex := 35, attributes := #[] }, { accessFlags := 10, nameIndex := 95, descriptorIndex := 96, attributes := #[] }, { accessFlags := 26, nameIndex := 1184, descriptorIndex := 35, attributes := #[] }, { accessFlags := 26, nameIndex := 1186, descriptorIndex := 35, attributes := #[] }, { accessFlags := 26, nameIndex := 180, descriptorIndex := 27, attributes := #[] }, { accessFlags := 26, nameIndex := 1188, descriptorIndex := 35, attributes := #[] }, { accessFlags := 26, nameIndex := 349, descriptorIndex := 350, attributes := #[] }, { accessFlags := 26, nameIndex := 355, descriptorIndex := 350, attributes := #[] }, { accessFlags := 74, nameIndex := 821, descriptorIndex := 822, attributes := #[] }, { accessFlags := 26, nameIndex := 763, descriptorIndex := 764, attributes := #[] }, { accessFlags := 26, nameIndex := 759, descriptorIndex := 760, attributes := #[] }, { accessFlags := 25, nameIndex := 26, descriptorIndex := 27, attributes := #[] }, { accessFlags := 25, nameIndex := 260, descriptorIndex := 27, attributes := #[] }, { accessFlags := 25, nameIndex := 267, descriptorIndex := 27, attributes := #[] }, { accessFlags := 26, nameIndex := 581, descriptorIndex := 27, attributes := #[] }, { accessFlags := 25, nameIndex := 1051, descriptorIndex := 27, attributes := #[] }, { accessFlags := 8, nameIndex := 673, descriptorIndex := 31, attributes := #[] }, { accessFlags := 10, nameIndex := 778, descriptorIndex := 35, attributes := #[] }, { accessFlags := 26, nameIndex := 781, descriptorIndex := 782, attributes := #[] }, { accessFlags := 10, nameIndex := 798, descriptorIndex := 31, attributes := #[] }, { accessFlags := 10, nameIndex := 792, descriptorIndex := 350, attributes := #[] }, { accessFlags := 10, nameIndex := 106, descriptorIndex := 31, attributes := #[] }, { accessFlags := 10, nameIndex := 119, descriptorIndex := 31, attributes := #[] }, { accessFlags := 26, nameIndex := 1192, descriptorIndex := 1163, attributes := #[] }, { accessFlags := 26, nameIndex := 1158, descriptorIndex := 1159, attributes := #[] }, { accessFlags := 4120, nameIndex := 311, descriptorIndex := 312, attributes := #[] }])
  fields := #[{ name := "signum", type := .int, accessFlags := 16, slot := 0, constantValue := 0 }, { name := "mag", type := (.array .int), accessFlags := 16, slot := 1, constantValue := 0 }, { name := "bitCountPlusOne", type := .int, accessFlags := 2, slot := 2, constantValue := 0 }, { name := "bitLengthPlusOne", type := .int, accessFlags := 2, slot := 3, constantValue := 0 }, { name := "lowestSetBitPlusTwo", type := .int, accessFlags := 2, slot := 4, constantValue := 0 }, { name := "firstNonzeroIntNumPlusTwo", type := .int, accessFlags := 2, slot := 5, constantValue := 0 }, { name := "LONG_MASK", type := .long, accessFlags := 24, slot := 0, constantValue := 0 }, { name := "MAX_MAG_LENGTH", type := .int, accessFlags := 26, slot := 1, constantValue := 0 }, { name := "PRIME_SEARCH_BIT_LENGTH_LIMIT", type := .int, accessFlags := 26, slot := 2, constantValue := 0 }, { name := "KARATSUBA_THRESHOLD", type := .int, accessFlags := 26, slot := 3, constantValue := 0 }, { name := "TOOM_COOK_THRESHOLD", type := .int, accessFlags := 26, slot := 4, constantValue := 0 }, { name := "KARATSUBA_SQUARE_THRESHOLD", type := .int, accessFlags := 26, slot := 5, constantValue := 0 }, { name := "TOOM_COOK_SQUARE_THRESHOLD", type := .int, accessFlags := 26, slot := 6, constantValue := 0 }, { name := "BURNIKEL_ZIEGLER_THRESHOLD", type := .int, accessFlags := 24, slot := 7, constantValue := 0 }, { name := "BURNIKEL_ZIEGLER_OFFSET", type := .int, accessFlags := 24, slot := 8, constantValue := 0 }, { name := "SCHOENHAGE_BASE_CONVERSION_THRESHOLD", type := .int, accessFlags := 26, slot := 9, constantValue := 0 }, { name := "MULTIPLY_SQUARE_THRESHOLD", type := .int, accessFlags := 26, slot := 10, constantValue := 0 }, { name := "MONTGOMERY_INTRINSIC_THRESHOLD", type := .int, accessFlags := 26, slot := 11, constantValue := 0 }, { name := "bitsPerDigit", type := (.array .long), accessFlags := 10, slot := 12, constantValue := 0 }, { name := "SMALL_PRIME_THRESHOLD", type := .int, accessFlags := 26, slot := 13, constantValue := 0 }, { name := "DEFAULT_PRIME_CERTAINTY", type := .int, accessFlags := 26, slot := 14, constantValue := 0 }, { name := "SMALL_PRIME_PRODUCT", type := (.object "java/math/BigInteger"), accessFlags := 26, slot := 15, constantValue := 0 }, { name := "MAX_CONSTANT", type := .int, accessFlags := 26, slot := 16, constantValue := 0 }, { name := "posConst", type := (.array (.object "java/math/BigInteger")), accessFlags := 26, slot := 17, constantValue := 0 }, { name := "negConst", type := (.array (.object "java/math/BigInteger")), accessFlags := 26, slot := 18, constantValue := 0 }, { name := "powerCache", type := (.array (.array (.object "java/math/BigInteger"))), accessFlags := 74, slot := 19, constantValue := 0 }, { name := "logCache", type := (.array .double), accessFlags := 26, slot := 20, constantValue := 0 }, { name := "LOG_TWO", type := .double, accessFlags := 26, slot := 21, constantValue := 0 }, { name := "ZERO", type := (.object "java/math/BigInteger"), accessFlags := 25, slot := 22, constantValue := 0 }, { name := "ONE", type := (.object "java/math/BigInteger"), accessFlags := 25, slot := 23, constantValue := 0 }, { name := "TWO", type := (.object "java/math/BigInteger"), accessFlags := 25, slot := 24, constantValue := 0 }, { name := "NEGATIVE_ONE", type := (.object "java/math/BigInteger"), accessFlags := 26, slot := 25, constantValue := 0 }, { name := "TEN", type := (.object "java/math/BigInteger"), accessFlags := 25, slot := 26, constantValue := 0 }, { name := "bnExpModThreshTable", type := (.array .int), accessFlags := 8, slot := 27, constantValue := 0 }, { name := "NUM_ZEROS", type := .int, accessFlags := 10, slot := 28, constantValue := 0 }, { name := "ZEROS", type := (.object "java/lang/String"), accessFlags := 26, slot := 29, constantValue := 0 }, { name := "digitsPerLong", type := (.array .int), accessFlags := 10, slot := 30, constantValue := 0 }, { name := "longRadix", type := (.array (.object "java/math/BigInteger")), accessFlags := 10, slot := 31, constantValue := 0 }, { name := "digitsPerInt", type := (.array .int), accessFlags := 10, slot := 32, constantValue := 0 }, { name := "intRadix", type := (.array .int), accessFlags := 10, slot := 33, constantValue := 0 }, { name := "serialVersionUID", type := .long, accessFlags := 26, slot := 34, constantValue := 0 }, { name := "serialPersistentFields", type := (.array (.object "java/io/ObjectStreamField")), accessFlags := 26, slot := 35, constantValue := 0 }, { name := "$assertionsDisabled", type := .boolean, accessFlags := 4120, slot := 36, constantValue := 0 }]
  methods := #[k15m0, k15m1, k15m2, k15m3, k15m4, k15m5, k15m6, k15m7, k15m8, k15m9, k15m10, k15m11, k15m12, k15m13]
  instanceTypes := #[.int, (.array .int), .int, .int, .int, .int]
  staticTypes := #[.long, .int, .int, .int, .int, .int, .int, .int, .int, .int, .int, .int, (.array .long), .int, .int, (.object "java/math/BigInteger"), .int, (.array (.object "java/math/BigInteger")), (.array (.object "java/math/BigInteger")), (.array (.array (.object "java/math/BigInteger"))), (.array .double), .double, (.object "java/math/BigInteger"), (.object "java/math/BigInteger"), (.object "java/math/BigInteger"), (.object "java/math/BigInteger"), (.object "java/math/BigInteger"), (.array .int), .int, (.object "java/lang/String"), (.array .int), (.array (.object "java/math/BigInteger")), (.array .int), (.array .int), .long, (.array (.object "java/io/ObjectStreamField")), .boolean]
  resolved := Array.replicate 1542 none
  statics := some 1 }

def pool16 : Array CpInfo := pool [(1, .class_ 2), (0, u "java/lang/Integer"), (16, u "digits"), (0, u "[C"), (33, u "(I)I"), (30, u "DigitOnes"), (0, u "[B"), (2, u "DigitTens"), (99, .class_ 190), (0, u "java/lang/Integer$IntegerCache"), (3, u "I"), (8, .class_ 204), (0, u "java/lang/Number"), (2, u "value"), (56, .integer 65536), (0, .integer 1431655765), (0, .integer 858993459), (0, .integer 252645135), (34, u "TYPE"), (0, u "Ljava/lang/Class;"), (0, .class_ 305), (0, u "java/lang/Comparable"), (0, .class_ 307), (0, u "java/lang/constant/Constable"), (0, .class_ 309), (0, u "java/lang/constant/ConstantDesc"), (0, u "MIN_VALUE"), (1, u "MAX_VALUE"), (3, u "SIZE"), (1, u "BYTES"), (1, u "serialVersionUID"), (0, u "J"), (84, u "numberOfTrailingZeros"), (0, u "bitCount")] 45

def k16c0 : Code := { maxStack := 3, maxLocals := 2, code := jdk_33_method_48_code, exceptionTable := #[], attributes := #[] }
def k16m0 : Method := { name := "numberOfTrailingZeros", desc := "(I)I", sig := { parameters := [.int], returnType := some .int }, accessFlags := 9, code := some k16c0 }
def k16c1 : Code := { maxStack := 3, maxLocals := 1, code := jdk_33_method_49_code, exceptionTable := #[], attributes := #[] }
def k16m1 : Method := { name := "bitCount", desc := "(I)I", sig := { parameters := [.int], returnType := some .int }, accessFlags := 9, code := some k16c1 }
/-- java/lang/Integer -/
def k16 : Class := { plain "java/lang/Integer" (some 14) with
  accessFlags := 49
  interfaces := #[9, 11, 12]
  cf := some (fileOf pool16 1 #[.nestMembers #[189]] #[{ accessFlags := 9, nameIndex := 406, descriptorIndex := 54, attributes := #[] }, { accessFlags := 9, nameIndex := 407, descriptorIndex := 54, attributes := #[] }] 49 203 #[304, 306, 308] #[{ accessFlags := 25, nameIndex := 310, descriptorIndex := 194, attributes := #[] }, { accessFlags := 25, nameIndex := 312, descriptorIndex := 194, attributes := #[] }, { accessFlags := 25, nameIndex := 302, descriptorIndex := 303, attributes := #[] }, { accessFlags := 24, nameIndex := 19, descriptorIndex := 20, attributes := #[] }, { accessFlags := 24, nameIndex := 89, descriptorIndex := 86, attributes := #[] }, { accessFlags := 24, nameIndex := 85, descriptorIndex := 86, attributes := #[] }, { accessFlags := 18, nameIndex := 207, descriptorIndex := 194, attributes := #[] }, { accessFlags := 25, nameIndex := 316, descriptorIndex := 194, attributes := #[] }, { accessFlags := 25, nameIndex := 318, descriptorIndex := 194, attributes := #[] }, { accessFlags := 26, nameIndex := 320, descriptorIndex := 321, attributes := #[] }])
  fields := #[{ name := "MIN_VALUE", type := .int, accessFlags := 25, slot := 0, constantValue := 0 }, { name := "MAX_VALUE", type := .int, accessFlags := 25, slot := 1, constantValue := 0 }, { name := "TYPE", type := (.object "java/lang/Class"), accessFlags := 25, slot := 2, constantValue := 0 }, { name := "digits", type := (.array .char), accessFlags := 24, slot := 3, constantValue := 0 }, { name := "DigitTens", type := (.array .byte), accessFlags := 24, slot := 4, constantValue := 0 }, { name := "DigitOnes", type := (.array .byte), accessFlags := 24, slot := 5, constantValue := 0 }, { name := "value", type := .int, accessFlags := 18, slot := 0, constantValue := 0 }, { name := "SIZE", type := .int, accessFlags := 25, slot := 6, constantValue := 0 }, { name := "BYTES", type := .int, accessFlags := 25, slot := 7, constantValue := 0 }, { name := "serialVersionUID", type := .long, accessFlags := 26, slot := 8, constantValue := 0 }]
  methods := #[k16m0, k16m1]
  instanceTypes := #[.int]
  staticTypes := #[.int, .int, (.object "java/lang/Class"), (.array .char), (.array .byte), (.array .byte), .int, .int, .long]
  resolved := Array.replicate 453 none
  statics := none }

def pool17 : Array CpInfo := pool [(2, .class_ 4), (1, u "java/lang/Object"), (0, u "<init>"), (0, u "()V"), (35, .class_ 44), (1, u "java/util/Objects"), (0, u "requireNonNull"), (0, u "(Ljava/lang/Object;)Ljava/lang/Object;"), (59, .class_ 108), (1, u "jdk/internal/util/Preconditions"), (2, .methodref 106 112), (0, .nameAndType 113 114), (0, u "checkFromToIndex"), (0, u "(IIILjava/util/function/BiFunction;)I"), (60, u "(III)I")] 8

def k17m0 : Method := { name := "<init>", desc := "()V", sig := { parameters := [], returnType := none }, accessFlags := 2, code := none }
def k17c1 : Code := { maxStack := 2, maxLocals := 1, code := jdk_31_method_10_code, exceptionTable := #[], attributes := #[] }
def k17m1 : Method := { name := "requireNonNull", desc := "(Ljava/lang/Object;)Ljava/lang/Object;", sig := { parameters := [(.object "java/lang/Object")], returnType := some (.object "java/lang/Object") }, accessFlags := 9, code := some k17c1 }
def k17c2 : Code := { maxStack := 4, maxLocals := 3, code := jdk_31_method_18_code, exceptionTable := #[], attributes := #[] }
def k17m2 : Method := { name := "checkFromToIndex", desc := "(III)I", sig := { parameters := [.int, .int, .int], returnType := some .int }, accessFlags := 9, code := some k17c2 }
/-- java/util/Objects -/
def k17 : Class := { plain "java/util/Objects" (some 0) with
  accessFlags := 49
  interfaces := #[]
  cf := some (fileOf pool17 42 #[] #[{ accessFlags := 2, nameIndex := 5, descriptorIndex := 6, attributes := #[] }, { accessFlags := 9, nameIndex := 45, descriptorIndex := 46, attributes := #[] }, { accessFlags := 9, nameIndex := 113, descriptorIndex := 175, attributes := #[] }] 49 2 #[] #[])
  fields := #[]
  methods := #[k17m0, k17m1, k17m2]
  instanceTypes := #[]
  staticTypes := #[]
  resolved := Array.replicate 184 none
  statics := none }

def pool18 : Array CpInfo := pool [(2, .class_ 4), (1, u "java/lang/Object"), (0, u "<init>"), (0, u "()V"), (1, .class_ 10), (1, u "java/lang/System"), (0, u "allowSecurityManager"), (0, u "I"), (16, u "cons"), (0, u "Ljava/io/Console;"), (77, .class_ 110), (1, u "java/lang/System$CallersHolder"), (43, u "initialErrStream"), (0, u "Ljava/io/PrintStream;"), (19, u "security"), (0, u "Ljava/lang/SecurityManager;"), (31, .class_ 209), (0, u "java/lang/System$1"), (7, u "props"), (0, u "Ljava/util/Properties;"), (2, u "lineSeparator"), (0, u "Ljava/lang/String;"), (96, .class_ 321), (1, u "java/lang/System$LoggerFinder"), (5, .class_ 328), (0, u "java/lang/System$Logger"), (67, u "err"), (2, u "out"), (91, u "notSupportedJnuEncoding"), (15, u "in"), (17, u "initialIn"), (0, u "Ljava/io/InputStream;"), (35, u "bootLayer"), (0, u "Ljava/lang/ModuleLayer;"), (99, .class_ 664), (0, u "java/lang/System$2"), (9, u "NEVER"), (2, u "MAYBE"), (49, u "arraycopy"), (0, u "(Ljava/lang/Object;ILjava/lang/Object;II)V"), (72, .class_ 802), (0, u "java/lang/System$Logger$Level")] 31

def k18m0 : Method := { name := "<init>", desc := "()V", sig := { parameters := [], returnType := none }, accessFlags := 2, code := none }
def k18m1 : Method := { name := "arraycopy", desc := "(Ljava/lang/Object;ILjava/lang/Object;II)V", sig := { parameters := [(.object "java/lang/Object"), .int, (.object "java/lang/Object"), .int, .int], returnType := none }, accessFlags := 265, code := none }
/-- java/lang/System -/
def k18 : Class := { plain "java/lang/System" (some 0) with
  accessFlags := 49
  interfaces := #[]
  cf := some (fileOf pool18 8 #[.nestMembers #[319, 327, 801, 108, 663, 208]] #[{ accessFlags := 2, nameIndex := 5, descriptorIndex := 6, attributes := #[] }, { accessFlags := 265, nameIndex := 727, descriptorIndex := 728, attributes := #[] }] 49 2 #[] #[{ accessFlags := 25, nameIndex := 507, descriptorIndex := 526, attributes := #[] }, { accessFlags := 25, nameIndex := 399, descriptorIndex := 155, attributes := #[] }, { accessFlags := 25, nameIndex := 396, descriptorIndex := 155, attributes := #[] }, { accessFlags := 10, nameIndex := 525, descriptorIndex := 526, attributes := #[] }, { accessFlags := 26, nameIndex := 674, descriptorIndex := 12, attributes := #[] }, { accessFlags := 26, nameIndex := 677, descriptorIndex := 12, attributes := #[] }, { accessFlags := 10, nameIndex := 11, descriptorIndex := 12, attributes := #[] }, { accessFlags := 74, nameIndex := 175, descriptorIndex := 176, attributes := #[] }, { accessFlags := 10, nameIndex := 491, descriptorIndex := 222, attributes := #[] }, { accessFlags := 74, nameIndex := 29, descriptorIndex := 30, attributes := #[] }, { accessFlags := 74, nameIndex := 154, descriptorIndex := 155, attributes := #[] }, { accessFlags := 10, nameIndex := 217, descriptorIndex := 218, attributes := #[] }, { accessFlags := 10, nameIndex := 221, descriptorIndex := 222, attributes := #[] }, { accessFlags := 8, nameIndex := 562, descriptorIndex := 563, attributes := #[] }])
  fields := #[{ name := "in", type := (.object "java/io/InputStream"), accessFlags := 25, slot := 0, constantValue := 0 }, { name := "out", type := (.object "java/io/PrintStream"), accessFlags := 25, slot := 1, constantValue := 0 }, { name := "err", type := (.object "java/io/PrintStream"), accessFlags := 25, slot := 2, constantValue := 0 }, { name := "initialIn", type := (.object "java/io/InputStream"), accessFlags := 10, slot := 3, constantValue := 0 }, { name := "NEVER", type := .int, accessFlags := 26, slot := 4, constantValue := 0 }, { name := "MAYBE", type := .int, accessFlags := 26, slot := 5, constantValue := 0 }, { name := "allowSecurityManager", type := .int, accessFlags := 10, slot := 6, constantValue := 0 }, { name := "security", type := (.object "java/lang/SecurityManager"), accessFlags := 74, slot := 7, constantValue := 0 }, { name := "notSupportedJnuEncoding", type := (.object "java/lang/String"), accessFlags := 10, slot := 8, constantValue := 0 }, { name := "cons", type := (.object "java/io/Console"), accessFlags := 74, slot := 9, constantValue := 0 }, { name := "initialErrStream", type := (.object "java/io/PrintStream"), accessFlags := 74, slot := 10, constantValue := 0 }, { name := "props", type := (.object "java/util/Properties"), accessFlags := 10, slot := 11, constantValue := 0 }, { name := "lineSeparator", type := (.object "java/lang/String"), accessFlags := 10, slot := 12, constantValue := 0 }, { name := "bootLayer", type := (.object "java/lang/ModuleLayer"), accessFlags := 8, slot := 13, constantValue := 0 }]
  methods := #[k18m0, k18m1]
  instanceTypes := #[]
  staticTypes := #[(.object "java/io/InputStream"), (.object "java/io/PrintStream"), (.object "java/io/PrintStream"), (.object "java/io/InputStream"), .int, .int, .int, (.object "java/lang/SecurityManager"), (.object "java/lang/String"), (.object "java/io/Console"), (.object "java/io/PrintStream"), (.object "java/util/Properties"), (.object "java/lang/String"), (.object "java/lang/ModuleLayer")]
  resolved := Array.replicate 834 none
  statics := none }

def pool19 : Array CpInfo := pool [(2, .class_ 4), (1, u "java/lang/Object"), (0, u "<init>"), (0, u "()V"), (7, .class_ 16), (1, u "java/util/Arrays"), (57, .class_ 76), (1, u "java/util/Arrays$NaturalOrder"), (36, .class_ 115), (1, u "java/util/Arrays$LegacyMergeSort"), (1, u "Z"), (21, u "copyOfRange"), (10, .methodref 151 152), (0, .class_ 153), (0, .nameAndType 154 155), (0, u "java/lang/System"), (0, u "arraycopy"), (0, u "(Ljava/lang/Object;ILjava/lang/Object;II)V"), (148, .methodref 305 306), (0, .class_ 307), (0, .nameAndType 308 309), (0, u "java/lang/Math"), (0, u "min"), (0, u "(II)I"), (33, .methodref 14 344), (0, .nameAndType 345 346), (0, u "checkLength"), (0, u "(II)V"), (4, .methodref 14 352), (0, .nameAndType 353 354), (0, u "copyOfRangeInt"), (0, u "([III)[I"), (20, .class_ 376), (0, u "java/util/Arrays$ArrayList"), (68, u "$assertionsDisabled"), (269, u "MIN_ARRAY_SORT_GRAN"), (0, u "I"), (2, u "INSERTIONSORT_THRESHOLD"), (255, .class_ 976), (0, u "java/util/Arrays$ArrayItr")] 52

def k19m0 : Method := { name := "<init>", desc := "()V", sig := { parameters := [], returnType := none }, accessFlags := 2, code := none }
def k19c1 : Code := { maxStack := 4, maxLocals := 2, code := jdk_65_method_131_code, exceptionTable := #[], attributes := #[] }
def k19m1 : Method := { name := "checkLength", desc := "(II)V", sig := { parameters := [.int, .int], returnType := none }, accessFlags := 10, code := some k19c1 }
def k19c2 : Code := { maxStack := 3, maxLocals := 3, code := jdk_65_method_136_code, exceptionTable := #[], attributes := #[] }
def k19m2 : Method := { name := "copyOfRange", desc := "([III)[I", sig := { parameters := [(.array .int), .int, .int], returnType := some (.array .int) }, accessFlags := 9, code := some k19c2 }
def k19c3 : Code := { maxStack := 6, maxLocals := 5, code := jdk_65_method_137_code, exceptionTable := #[], attributes := #[] }
def k19m3 : Method := { name := "copyOfRangeInt", desc := "([III)[I", sig := { parameters := [(.array .int), .int, .int], returnType := some (.array .int) }, accessFlags := 10, code := some k19c3 }
/-- java/util/Arrays -/
def k19 : Class := { plain "java/util/Arrays" (some 0) with
  accessFlags := 49
  interfaces := #[]
  cf := some (fileOf pool19 14 #[.nestMembers #[975, 375, 113, 74]] #[{ accessFlags := 2, nameIndex := 5, descriptorIndex := 6, attributes := #[] }, { accessFlags := 10, nameIndex := 345, descriptorIndex := 346, attributes := #[] }, { accessFlags := 9, nameIndex := 139, descriptorIndex := 354, attributes := #[] }, { accessFlags := 10, nameIndex := 353, descriptorIndex := 354, attributes := #[] }] 49 2 #[] #[{ accessFlags := 26, nameIndex := 715, descriptorIndex := 716, attributes := #[] }, { accessFlags := 26, nameIndex := 719, descriptorIndex := 716, attributes := #[] }, { accessFlags := 4120, nameIndex := 445, descriptorIndex := 117, attributes := #[] }])
  fields := #[{ name := "MIN_ARRAY_SORT_GRAN", type := .int, accessFlags := 26, slot := 0, constantValue := 0 }, { name := "INSERTIONSORT_THRESHOLD", type := .int, accessFlags := 26, slot := 1, constantValue := 0 }, { name := "$assertionsDisabled", type := .boolean, accessFlags := 4120, slot := 2, constantValue := 0 }]
  methods := #[k19m0, k19m1, k19m2, k19m3]
  instanceTypes := #[]
  staticTypes := #[.int, .int, .boolean]
  resolved := Array.replicate 1029 none
  statics := none }

def pool20 : Array CpInfo := pool [(2, .class_ 4), (1, u "java/lang/Object"), (0, u "<init>"), (0, u "()V"), (17, .class_ 26), (1, u "jdk/internal/util/Preconditions"), (20, u "checkFromToIndex"), (7, .class_ 56), (0, u "jdk/internal/util/Preconditions$4"), (57, .class_ 115), (0, u "jdk/internal/util/Preconditions$1"), (7, u "SIOOBE_FORMATTER"), (0, u "Ljava/util/function/BiFunction;"), (0, .class_ 126), (0, u "jdk/internal/util/Preconditions$2"), (3, u "AIOOBE_FORMATTER"), (0, .class_ 132), (0, u "jdk/internal/util/Preconditions$3"), (3, u "IOOBE_FORMATTER"), (46, u "(IIILjava/util/function/BiFunction;)I")] 10

def k20m0 : Method := { name := "<init>", desc := "()V", sig := { parameters := [], returnType := none }, accessFlags := 1, code := none }
def k20c1 : Code := { maxStack := 4, maxLocals := 4, code := jdk_41_method_12_code, exceptionTable := #[], attributes := #[] }
def k20m1 : Method := { name := "checkFromToIndex", desc := "(IIILjava/util/function/BiFunction;)I", sig := { parameters := [.int, .int, .int, (.object "java/util/function/BiFunction")], returnType := some .int }, accessFlags := 9, code := some k20c1 }
/-- jdk/internal/util/Preconditions -/
def k20 : Class := { plain "jdk/internal/util/Preconditions" (some 0) with
  accessFlags := 33
  interfaces := #[]
  cf := some (fileOf pool20 24 #[.nestMembers #[55, 131, 125, 114]] #[{ accessFlags := 1, nameIndex := 5, descriptorIndex := 6, attributes := #[] }, { accessFlags := 9, nameIndex := 47, descriptorIndex := 183, attributes := #[] }] 33 2 #[] #[{ accessFlags := 25, nameIndex := 123, descriptorIndex := 124, attributes := #[] }, { accessFlags := 25, nameIndex := 130, descriptorIndex := 124, attributes := #[] }, { accessFlags := 25, nameIndex := 136, descriptorIndex := 124, attributes := #[] }])
  fields := #[{ name := "SIOOBE_FORMATTER", type := (.object "java/util/function/BiFunction"), accessFlags := 25, slot := 0, constantValue := 0 }, { name := "AIOOBE_FORMATTER", type := (.object "java/util/function/BiFunction"), accessFlags := 25, slot := 1, constantValue := 0 }, { name := "IOOBE_FORMATTER", type := (.object "java/util/function/BiFunction"), accessFlags := 25, slot := 2, constantValue := 0 }]
  methods := #[k20m0, k20m1]
  instanceTypes := #[]
  staticTypes := #[(.object "java/util/function/BiFunction"), (.object "java/util/function/BiFunction"), (.object "java/util/function/BiFunction")]
  resolved := Array.replicate 194 none
  statics := none }

def pool21 : Array CpInfo := pool [(2, .class_ 4), (1, u "java/lang/Object"), (0, u "<init>"), (0, u "()V"), (12, .class_ 20), (0, u "java/util/Collections"), (63, u "r"), (0, u "Ljava/util/Random;"), (80, .class_ 167), (0, u "java/util/Collections$UnmodifiableCollection"), (6, .class_ 175), (0, u "java/util/Collections$UnmodifiableSequencedCollection"), (6, .class_ 183), (0, u "java/util/Collections$UnmodifiableSet"), (6, .class_ 191), (0, u "java/util/Collections$UnmodifiableSequencedSet"), (6, .class_ 199), (0, u "java/util/Collections$UnmodifiableSortedSet"), (6, .class_ 207), (0, u "java/util/Collections$UnmodifiableNavigableSet"), (4, .class_ 213), (0, u "java/util/Collections$UnmodifiableList"), (1, .class_ 216), (0, u "java/util/Collections$UnmodifiableRandomAccessList"), (6, .class_ 224), (0, u "java/util/Collections$UnmodifiableMap"), (6, .class_ 232), (0, u "java/util/Collections$UnmodifiableSequencedMap"), (4, .class_ 238), (0, u "java/util/Collections$UnmodifiableSortedMap"), (6, .class_ 246), (0, u "java/util/Collections$UnmodifiableNavigableMap"), (3, .class_ 251), (0, u "java/util/Collections$SynchronizedCollection"), (4, .class_ 257), (0, u "java/util/Collections$SynchronizedSet"), (4, .class_ 263), (0, u "java/util/Collections$SynchronizedSortedSet"), (1, .class_ 266), (0, u "java/util/Collections$SynchronizedNavigableSet"), (1, .class_ 269), (0, u "java/util/Collections$SynchronizedRandomAccessList"), (1, .class_ 272), (0, u "java/util/Collections$SynchronizedList"), (5, .class_ 279), (0, u "java/util/Collections$SynchronizedMap"), (1, .class_ 282), (0, u "java/util/Collections$SynchronizedSortedMap"), (1, .class_ 285), (0, u "java/util/Collections$SynchronizedNavigableMap"), (1, .class_ 288), (0, u "java/util/Collections$CheckedCollection"), (11, .class_ 301), (0, u "java/util/Collections$CheckedQueue"), (3, .class_ 306), (0, u "java/util/Collections$CheckedSet"), (3, .class_ 311), (0, u "java/util/Collections$CheckedSortedSet"), (3, .class_ 316), (0, u "java/util/Collections$CheckedNavigableSet"), (3, .class_ 321), (0, u "java/util/Collections$CheckedRandomAccessList"), (3, .class_ 326), (0, u "java/util/Collections$CheckedList"), (1, .class_ 329), (0, u "java/util/Collections$CheckedMap"), (3, .class_ 334), (0, u "java/util/Collections$CheckedSortedMap"), (3, .class_ 339), (0, u "java/util/Collections$CheckedNavigableMap"), (4, .class_ 346), (1, u "java/util/Collections$EmptyIterator"), (3, .class_ 352), (1, u "java/util/Collections$EmptyListIterator"), (2, .class_ 357), (1, u "java/util/Collections$EmptyEnumeration"), (4, u "EMPTY_SET"), (0, u "Ljava/util/Set;"), (6, u "EMPTY_LIST"), (0, u "Ljava/util/List;"), (2, u "EMPTY_MAP"), (0, u "Ljava/util/Map;"), (4, .class_ 381), (0, u "java/util/Collections$SingletonSet"), (2, .class_ 385), (0, u "java/util/Collections$1"), (1, .class_ 388), (0, u "java/util/Collections$2"), (1, .class_ 391), (0, u "java/util/Collections$SingletonList"), (1, .class_ 394), (0, u "java/util/Collections$SingletonMap"), (22, .class_ 418), (0, u "java/util/Collections$CopiesList"), (4, .class_ 425), (1, u "java/util/Collections$ReverseComparator"), (8, .class_ 435), (0, u "java/util/Collections$ReverseComparator2"), (6, .class_ 443), (0, u "java/util/Collections$3"), (25, .class_ 470), (0, u "java/util/Collections$SetFromMap"), (2, .class_ 474), (0, u "java/util/Collections$SequencedSetFromMap"), (3, .class_ 479), (0, u "java/util/Collections$AsLIFOQueue"), (11, .class_ 492), (0, u "java/util/Collections$EmptySet"), (1, .class_ 495), (0, u "java/util/Collections$EmptyList"), (1, .class_ 498), (0, u "java/util/Collections$EmptyMap"), (1, u "BINARYSEARCH_THRESHOLD"), (0, u "I"), (2, u "REVERSE_THRESHOLD"), (1, u "SHUFFLE_THRESHOLD"), (1, u "FILL_THRESHOLD"), (1, u "ROTATE_THRESHOLD"), (1, u "COPY_THRESHOLD"), (1, u "REPLACEALL_THRESHOLD"), (1, u "INDEXOFSUBLIST_THRESHOLD"), (333, .class_ 851), (0, u "java/util/Collections$CheckedMap$CheckedEntrySet"), (0, .class_ 853), (0, u "java/util/Collections$CheckedMap$CheckedEntrySet$CheckedEntry"), (0, .class_ 855), (0, u "java/util/Collections$CheckedMap$CheckedEntrySet$1"), (0, .class_ 857), (0, u "java/util/Collections$CheckedList$1"), (0, .class_ 859), (0, u "java/util/Collections$CheckedCollection$1"), (0, .class_ 861), (0, u "java/util/Collections$UnmodifiableNavigableMap$EmptyNavigableMap"), (0, .class_ 863), (0, u "java/util/Collections$UnmodifiableMap$UnmodifiableEntrySet"), (0, .class_ 865), (0, u "java/util/Collections$UnmodifiableMap$UnmodifiableEntrySet$UnmodifiableEntry"), (0, .class_ 867), (0, u "java/util/Collections$UnmodifiableMap$UnmodifiableEntrySet$UnmodifiableEntrySetSpliterator"), (0, .class_ 869), (0, u "java/util/Collections$UnmodifiableMap$UnmodifiableEntrySet$1"), (0, .class_ 871), (0, u "java/util/Collections$UnmodifiableList$1"), (0, .class_ 873), (0, u "java/util/Collections$UnmodifiableNavigableSet$EmptyNavigableSet"), (0, .class_ 875), (0, u "java/util/Collections$UnmodifiableCollection$1")] 57

def k21m0 : Method := { name := "<init>", desc := "()V", sig := { parameters := [], returnType := none }, accessFlags := 2, code := none }
/-- java/util/Collections -/
def k21 : Class := { plain "java/util/Collections" (some 0) with
  accessFlags := 33
  interfaces := #[]
  cf := some (fileOf pool21 19 #[.nestMembers #[478, 473, 469, 434, 423, 417, 393, 390, 380, 497, 494, 491, 355, 350, 344, 338, 333, 328, 850, 852, 854, 320, 325, 856, 315, 310, 305, 300, 287, 858, 284, 281, 278, 268, 271, 265, 262, 256, 250, 245, 860, 237, 231, 223, 862, 864, 866, 868, 215, 212, 870, 206, 872, 198, 190, 182, 174, 166, 874, 442, 387, 384]] #[{ accessFlags := 2, nameIndex := 5, descriptorIndex := 6, attributes := #[] }] 33 2 #[] #[{ accessFlags := 26, nameIndex := 500, descriptorIndex := 501, attributes := #[] }, { accessFlags := 26, nameIndex := 504, descriptorIndex := 501, attributes := #[] }, { accessFlags := 26, nameIndex := 506, descriptorIndex := 501, attributes := #[] }, { accessFlags := 26, nameIndex := 508, descriptorIndex := 501, attributes := #[] }, { accessFlags := 26, nameIndex := 510, descriptorIndex := 501, attributes := #[] }, { accessFlags := 26, nameIndex := 512, descriptorIndex := 501, attributes := #[] }, { accessFlags := 26, nameIndex := 514, descriptorIndex := 501, attributes := #[] }, { accessFlags := 26, nameIndex := 516, descriptorIndex := 501, attributes := #[] }, { accessFlags := 10, nameIndex := 84, descriptorIndex := 85, attributes := #[] }, { accessFlags := 25, nameIndex := 362, descriptorIndex := 363, attributes := #[] }, { accessFlags := 25, nameIndex := 370, descriptorIndex := 371, attributes := #[] }, { accessFlags := 25, nameIndex := 374, descriptorIndex := 375, attributes := #[] }])
  fields := #[{ name := "BINARYSEARCH_THRESHOLD", type := .int, accessFlags := 26, slot := 0, constantValue := 0 }, { name := "REVERSE_THRESHOLD", type := .int, accessFlags := 26, slot := 1, constantValue := 0 }, { name := "SHUFFLE_THRESHOLD", type := .int, accessFlags := 26, slot := 2, constantValue := 0 }, { name := "FILL_THRESHOLD", type := .int, accessFlags := 26, slot := 3, constantValue := 0 }, { name := "ROTATE_THRESHOLD", type := .int, accessFlags := 26, slot := 4, constantValue := 0 }, { name := "COPY_THRESHOLD", type := .int, accessFlags := 26, slot := 5, constantValue := 0 }, { name := "REPLACEALL_THRESHOLD", type := .int, accessFlags := 26, slot := 6, constantValue := 0 }, { name := "INDEXOFSUBLIST_THRESHOLD", type := .int, accessFlags := 26, slot := 7, constantValue := 0 }, { name := "r", type := (.object "java/util/Random"), accessFlags := 10, slot := 8, constantValue := 0 }, { name := "EMPTY_SET", type := (.object "java/util/Set"), accessFlags := 25, slot := 9, constantValue := 0 }, { name := "EMPTY_LIST", type := (.object "java/util/List"), accessFlags := 25, slot := 10, constantValue := 0 }, { name := "EMPTY_MAP", type := (.object "java/util/Map"), accessFlags := 25, slot := 11, constantValue := 0 }]
  methods := #[k21m0]
  instanceTypes := #[]
  staticTypes := #[.int, .int, .int, .int, .int, .int, .int, .int, (.object "java/util/Random"), (.object "java/util/Set"), (.object "java/util/List"), (.object "java/util/Map")]
  resolved := Array.replicate 933 none
  statics := some 2 }

def pool22 : Array CpInfo := pool [(8, .class_ 10), (1, u "java/lang/Iterable"), (24, .class_ 36), (0, u "java/lang/Object")] 25

/-- java/lang/Iterable -/
def k22 : Class := { plain "java/lang/Iterable" (some 0) with
  accessFlags := 1537
  interfaces := #[]
  cf := some (fileOf pool22 8 #[] #[] 1537 35 #[] #[])
  fields := #[]
  methods := #[]
  instanceTypes := #[]
  staticTypes := #[]
  resolved := Array.replicate 62 none
  statics := none }

def pool23 : Array CpInfo := pool [(10, .class_ 12), (1, u "java/util/Collection"), (47, .class_ 61), (0, u "java/lang/Object"), (0, .class_ 63), (0, u "java/lang/Iterable")] 51

/-- java/util/Collection -/
def k23 : Class := { plain "java/util/Collection" (some 0) with
  accessFlags := 1537
  interfaces := #[22]
  cf := some (fileOf pool23 10 #[] #[] 1537 60 #[62] #[])
  fields := #[]
  methods := #[]
  instanceTypes := #[]
  staticTypes := #[]
  resolved := Array.replicate 115 none
  statics := none }

def pool24 : Array CpInfo := pool [(2, .class_ 4), (1, u "java/lang/Object"), (0, u "<init>"), (0, u "()V"), (1, .class_ 10), (1, u "java/util/AbstractCollection"), (66, .class_ 78), (0, u "java/util/Collection")] 81

def k24m0 : Method := { name := "<init>", desc := "()V", sig := { parameters := [], returnType := none }, accessFlags := 4, code := none }
/-- java/util/AbstractCollection -/
def k24 : Class := { plain "java/util/AbstractCollection" (some 0) with
  accessFlags := 1057
  interfaces := #[23]
  cf := some (fileOf pool24 8 #[] #[{ accessFlags := 4, nameIndex := 5, descriptorIndex := 6, attributes := #[] }] 1057 2 #[77] #[])
  fields := #[]
  methods := #[k24m0]
  instanceTypes := #[]
  staticTypes := #[]
  resolved := Array.replicate 160 none
  statics := none }

def pool25 : Array CpInfo := pool [(8, .class_ 10), (1, u "java/util/SequencedCollection"), (15, .class_ 27), (0, u "java/lang/Object"), (0, .class_ 29), (0, u "java/util/Collection")] 27

/-- java/util/SequencedCollection -/
def k25 : Class := { plain "java/util/SequencedCollection" (some 0) with
  accessFlags := 1537
  interfaces := #[23]
  cf := some (fileOf pool25 8 #[] #[] 1537 26 #[28] #[])
  fields := #[]
  methods := #[]
  instanceTypes := #[]
  staticTypes := #[]
  resolved := Array.replicate 57 none
  statics := none }

def pool26 : Array CpInfo := pool [(8, .class_ 10), (1, u "java/util/List"), (92, .class_ 104), (0, u "java/lang/Object"), (15, .class_ 121), (0, u "java/util/SequencedCollection")] 129

/-- java/util/List -/
def k26 : Class := { plain "java/util/List" (some 0) with
  accessFlags := 1537
  interfaces := #[25]
  cf := some (fileOf pool26 8 #[] #[] 1537 103 #[120] #[])
  fields := #[]
  methods := #[]
  instanceTypes := #[]
  staticTypes := #[]
  resolved := Array.replicate 251 none
  statics := none }

def pool27 : Array CpInfo := pool [(2, .class_ 4), (1, u "java/util/AbstractCollection"), (0, u "<init>"), (0, u "()V"), (1, .class_ 10), (1, u "java/util/AbstractList"), (0, u "modCount"), (0, u "I"), (64, .class_ 78), (0, u "java/util/AbstractList$Itr"), (3, .class_ 83), (0, u "java/util/AbstractList$ListItr"), (9, .class_ 94), (0, u "java/util/AbstractList$RandomAccessSubList"), (3, .class_ 99), (0, u "java/util/AbstractList$SubList"), (33, .class_ 134), (0, u "java/util/List"), (73, .class_ 209), (0, u "java/util/AbstractList$SubList$1"), (0, .class_ 211), (0, u "java/util/AbstractList$RandomAccessSpliterator")] 6

def k27m0 : Method := { name := "<init>", desc := "()V", sig := { parameters := [], returnType := none }, accessFlags := 4, code := none }
/-- java/util/AbstractList -/
def k27 : Class := { plain "java/util/AbstractList" (some 24) with
  accessFlags := 1057
  interfaces := #[26]
  cf := some (fileOf pool27 8 #[.nestMembers #[93, 98, 208, 210, 82, 77]] #[{ accessFlags := 4, nameIndex := 5, descriptorIndex := 6, attributes := #[] }] 1057 2 #[133] #[{ accessFlags := 132, nameIndex := 11, descriptorIndex := 12, attributes := #[] }])
  fields := #[{ name := "modCount", type := .int, accessFlags := 132, slot := 0, constantValue := 0 }]
  methods := #[k27m0]
  instanceTypes := #[.int]
  staticTypes := #[]
  resolved := Array.replicate 218 none
  statics := none }

def pool28 : Array CpInfo := pool [(1, .class_ 2), (0, u "java/util/RandomAccess"), (0, .class_ 4), (0, u "java/lang/Object")] 2

/-- java/util/RandomAccess -/
def k28 : Class := { plain "java/util/RandomAccess" (some 0) with
  accessFlags := 1537
  interfaces := #[]
  cf := some (fileOf pool28 1 #[] #[] 1537 3 #[] #[])
  fields := #[]
  methods := #[]
  instanceTypes := #[]
  staticTypes := #[]
  resolved := Array.replicate 7 none
  statics := none }

def pool29 : Array CpInfo := pool [(2, .class_ 4), (1, u "java/util/AbstractList"), (0, u "<init>"), (0, u "()V"), (1, .class_ 10), (1, u "java/util/Collections"), (54, .class_ 66), (0, u "java/util/Collections$EmptyList"), (0, .class_ 68), (0, u "java/util/RandomAccess"), (0, .class_ 70), (0, u "java/io/Serializable"), (0, u "serialVersionUID"), (0, u "J")] 77

def k29m0 : Method := { name := "<init>", desc := "()V", sig := { parameters := [], returnType := none }, accessFlags := 2, code := none }
/-- java/util/Collections$EmptyList -/
def k29 : Class := { plain "java/util/Collections$EmptyList" (some 27) with
  accessFlags := 32
  interfaces := #[28, 4]
  cf := some (fileOf pool29 65 #[.nestHost 8] #[{ accessFlags := 2, nameIndex := 5, descriptorIndex := 6, attributes := #[] }] 32 2 #[67, 69] #[{ accessFlags := 26, nameIndex := 71, descriptorIndex := 72, attributes := #[] }])
  fields := #[{ name := "serialVersionUID", type := .long, accessFlags := 26, slot := 0, constantValue := 0 }]
  methods := #[k29m0]
  instanceTypes := #[.int]
  staticTypes := #[.long]
  resolved := Array.replicate 150 none
  statics := none }

def pool30 : Array CpInfo := pool [(2, .class_ 4), (1, u "java/lang/StackTraceElement"), (0, u "<init>"), (2, .class_ 10), (1, u "java/lang/Object"), (0, u "()V"), (2, u "format"), (0, u "B"), (2, u "classLoaderName"), (0, u "Ljava/lang/String;"), (2, u "moduleName"), (2, u "moduleVersion"), (12, u "declaringClass"), (4, u "methodName"), (2, u "fileName"), (2, u "lineNumber"), (0, u "I"), (65, u "declaringClassObject"), (0, u "Ljava/lang/Class;"), (33, .class_ 153), (1, u "java/lang/StackTraceElement$HashedModules"), (17, .class_ 172), (0, u "java/io/Serializable"), (0, u "NATIVE_METHOD"), (1, u "UNKNOWN_SOURCE"), (2, u "BUILTIN_CLASS_LOADER"), (1, u "JDK_NON_UPGRADEABLE_MODULE"), (1, u "serialVersionUID"), (0, u "J")] 51

def k30m0 : Method := { name := "<init>", desc := "()V", sig := { parameters := [], returnType := none }, accessFlags := 2, code := none }
/-- java/lang/StackTraceElement -/
def k30 : Class := { plain "java/lang/StackTraceElement" (some 0) with
  accessFlags := 49
  interfaces := #[4]
  cf := some (fileOf pool30 2 #[.nestMembers #[151]] #[{ accessFlags := 2, nameIndex := 5, descriptorIndex := 11, attributes := #[] }] 49 8 #[171] #[{ accessFlags := 26, nameIndex := 173, descriptorIndex := 19, attributes := #[] }, { accessFlags := 26, nameIndex := 175, descriptorIndex := 19, attributes := #[] }, { accessFlags := 130, nameIndex := 116, descriptorIndex := 117, attributes := #[] }, { accessFlags := 2, nameIndex := 18, descriptorIndex := 19, attributes := #[] }, { accessFlags := 2, nameIndex := 22, descriptorIndex := 19, attributes := #[] }, { accessFlags := 2, nameIndex := 25, descriptorIndex := 19, attributes := #[] }, { accessFlags := 2, nameIndex := 38, descriptorIndex := 19, attributes := #[] }, { accessFlags := 2, nameIndex := 43, descriptorIndex := 19, attributes := #[] }, { accessFlags := 2, nameIndex := 46, descriptorIndex := 19, attributes := #[] }, { accessFlags := 2, nameIndex := 49, descriptorIndex := 50, attributes := #[] }, { accessFlags := 2, nameIndex := 14, descriptorIndex := 15, attributes := #[] }, { accessFlags := 26, nameIndex := 178, descriptorIndex := 15, attributes := #[] }, { accessFlags := 26, nameIndex := 180, descriptorIndex := 15, attributes := #[] }, { accessFlags := 26, nameIndex := 182, descriptorIndex := 183, attributes := #[] }])
  fields := #[{ name := "NATIVE_METHOD", type := (.object "java/lang/String"), accessFlags := 26, slot := 0, constantValue := 0 }, { name := "UNKNOWN_SOURCE", type := (.object "java/lang/String"), accessFlags := 26, slot := 1, constantValue := 0 }, { name := "declaringClassObject", type := (.object "java/lang/Class"), accessFlags := 130, slot := 0, constantValue := 0 }, { name := "classLoaderName", type := (.object "java/lang/String"), accessFlags := 2, slot := 1, constantValue := 0 }, { name := "moduleName", type := (.object "java/lang/String"), accessFlags := 2, slot := 2, constantValue := 0 }, { name := "moduleVersion", type := (.object "java/lang/String"), accessFlags := 2, slot := 3, constantValue := 0 }, { name := "declaringClass", type := (.object "java/lang/String"), accessFlags := 2, slot := 4, constantValue := 0 }, { name := "methodName", type := (.object "java/lang/String"), accessFlags := 2, slot := 5, constantValue := 0 }, { name := "fileName", type := (.object "java/lang/String"), accessFlags := 2, slot := 6, constantValue := 0 }, { name := "lineNumber", type := .int, accessFlags := 2, slot := 7, constantValue := 0 }, { name := "format", type := .byte, accessFlags := 2, slot := 8, constantValue := 0 }, { name := "BUILTIN_CLASS_LOADER", type := .byte, accessFlags := 26, slot := 2, constantValue := 0 }, { name := "JDK_NON_UPGRADEABLE_MODULE", type := .byte, accessFlags := 26, slot := 3, constantValue := 0 }, { name := "serialVersionUID", type := .long, accessFlags := 26, slot := 4, constantValue := 0 }]
  methods := #[k30m0]
  instanceTypes := #[(.object "java/lang/Class"), (.object "java/lang/String"), (.object "java/lang/String"), (.object "java/lang/String"), (.object "java/lang/String"), (.object "java/lang/String"), (.object "java/lang/String"), .int, .byte]
  staticTypes := #[(.object "java/lang/String"), (.object "java/lang/String"), .byte, .byte, .long]
  resolved := Array.replicate 235 none
  statics := none }

def pool31 : Array CpInfo := pool [(1, u "java/lang/Cloneable"), (0, .class_ 1), (0, u "java/lang/Object"), (0, .class_ 3)] 3

/-- java/lang/Cloneable -/
def k31 : Class := { plain "java/lang/Cloneable" (some 0) with
  accessFlags := 1537
  interfaces := #[]
  cf := some (fileOf pool31 2 #[] #[] 1537 4 #[] #[])
  fields := #[]
  methods := #[]
  instanceTypes := #[]
  staticTypes := #[]
  resolved := Array.replicate 8 none
  statics := none }

/-- the primitive byte -/
def k32 : Class := { plain "byte" none with kind := .primitive 'B', accessFlags := 0x411 }
/-- [B -/
def k33 : Class := { plain "[B" (some 0) with kind := .array 32 .byte, interfaces := #[31, 4], accessFlags := 1041 }

/-- the primitive int -/
def k34 : Class := { plain "int" none with kind := .primitive 'I', accessFlags := 0x411 }
/-- [I -/
def k35 : Class := { plain "[I" (some 0) with kind := .array 34 .int, interfaces := #[31, 4], accessFlags := 1041 }

/-- [Ljava/lang/Object; -/
def k36 : Class := { plain "[Ljava/lang/Object;" (some 0) with kind := .array 0 (.object "java/lang/Object"), interfaces := #[31, 4], accessFlags := 1041 }

/-- [Ljava/lang/StackTraceElement; -/
def k37 : Class := { plain "[Ljava/lang/StackTraceElement;" (some 0) with kind := .array 30 (.object "java/lang/StackTraceElement"), interfaces := #[31, 4], accessFlags := 1041 }

/-- [Ljava/lang/Throwable; -/
def k38 : Class := { plain "[Ljava/lang/Throwable;" (some 0) with kind := .array 5 (.object "java/lang/Throwable"), interfaces := #[31, 4], accessFlags := 1041 }

/-- [Ljava/math/BigInteger; -/
def k39 : Class := { plain "[Ljava/math/BigInteger;" (some 0) with kind := .array 15 (.object "java/math/BigInteger"), interfaces := #[31, 4], accessFlags := 1041 }

def heap : Heap := #[{ cls := 5, slots := #[.long 0, .ref 38, .ref 39, .null, .null, .null, .null, .ref 40, .int 1], vm := .statics 5 },
  { cls := 15, slots := #[.long 0, .int 0, .int 0, .int 0, .int 0, .int 0, .int 0, .int 0, .int 0, .int 0, .int 0, .int 0, .null, .int 0, .int 0, .null, .int 0, .ref 37, .null, .null, .null, .double 0, .ref 4, .ref 6, .ref 8, .null, .ref 24, .null, .int 0, .null, .null, .null, .null, .null, .long 0, .null, .int 0], vm := .statics 15 },
  { cls := 21, slots := #[.int 0, .int 0, .int 0, .int 0, .int 0, .int 0, .int 0, .int 0, .null, .null, .ref 39, .null], vm := .statics 21 },
  { cls := 35, slots := #[], vm := .none },
  { cls := 15, slots := #[.int 0, .ref 3, .int 0, .int 0, .int 0, .int 0], vm := .none },
  { cls := 35, slots := #[.int 1], vm := .none },
  { cls := 15, slots := #[.int 1, .ref 5, .int 0, .int 0, .int 0, .int 0], vm := .none },
  { cls := 35, slots := #[.int 2], vm := .none },
  { cls := 15, slots := #[.int 1, .ref 7, .int 0, .int 0, .int 0, .int 0], vm := .none },
  { cls := 35, slots := #[.int 3], vm := .none },
  { cls := 15, slots := #[.int 1, .ref 9, .int 0, .int 0, .int 0, .int 0], vm := .none },
  { cls := 35, slots := #[.int 4], vm := .none },
  { cls := 15, slots := #[.int 1, .ref 11, .int 0, .int 0, .int 0, .int 0], vm := .none },
  { cls := 35, slots := #[.int 5], vm := .none },
  { cls := 15, slots := #[.int 1, .ref 13, .int 0, .int 0, .int 0, .int 0], vm := .none },
  { cls := 35, slots := #[.int 6], vm := .none },
  { cls := 15, slots := #[.int 1, .ref 15, .int 0, .int 0, .int 0, .int 0], vm := .none },
  { cls := 35, slots := #[.int 7], vm := .none },
  { cls := 15, slots := #[.int 1, .ref 17, .int 0, .int 0, .int 0, .int 0], vm := .none },
  { cls := 35, slots := #[.int 8], vm := .none },
  { cls := 15, slots := #[.int 1, .ref 19, .int 0, .int 0, .int 0, .int 0], vm := .none },
  { cls := 35, slots := #[.int 9], vm := .none },
  { cls := 15, slots := #[.int 1, .ref 21, .int 0, .int 0, .int 0, .int 0], vm := .none },
  { cls := 35, slots := #[.int 10], vm := .none },
  { cls := 15, slots := #[.int 1, .ref 23, .int 0, .int 0, .int 0, .int 0], vm := .none },
  { cls := 35, slots := #[.int 11], vm := .none },
  { cls := 15, slots := #[.int 1, .ref 25, .int 0, .int 0, .int 0, .int 0], vm := .none },
  { cls := 35, slots := #[.int 12], vm := .none },
  { cls := 15, slots := #[.int 1, .ref 27, .int 0, .int 0, .int 0, .int 0], vm := .none },
  { cls := 35, slots := #[.int 13], vm := .none },
  { cls := 15, slots := #[.int 1, .ref 29, .int 0, .int 0, .int 0, .int 0], vm := .none },
  { cls := 35, slots := #[.int 14], vm := .none },
  { cls := 15, slots := #[.int 1, .ref 31, .int 0, .int 0, .int 0, .int 0], vm := .none },
  { cls := 35, slots := #[.int 15], vm := .none },
  { cls := 15, slots := #[.int 1, .ref 33, .int 0, .int 0, .int 0, .int 0], vm := .none },
  { cls := 35, slots := #[.int 16], vm := .none },
  { cls := 15, slots := #[.int 1, .ref 35, .int 0, .int 0, .int 0, .int 0], vm := .none },
  { cls := 39, slots := #[.null, .ref 6, .ref 8, .ref 10, .ref 12, .ref 14, .ref 16, .ref 18, .ref 20, .ref 22, .ref 24, .ref 26, .ref 28, .ref 30, .ref 32, .ref 34, .ref 36], vm := .none },
  { cls := 37, slots := #[], vm := .none },
  { cls := 29, slots := #[.int 0], vm := .none },
  { cls := 38, slots := #[], vm := .none }]
def classes : Array Class := #[k0, k1, k2, k3, k4, k5, k6, k7, k8, k9, k10, k11, k12, k13, k14, k15, k16, k17, k18, k19, k20, k21, k22, k23, k24, k25, k26, k27, k28, k29, k30, k31, k32, k33, k34, k35, k36, k37, k38, k39]
def interned : List (Array UInt16 × Addr) := []
def slotsUsed : Nat := 194
def theMethod : MethodId := ⟨1, 3⟩
def args0 : Array Value := #[.int 3, .long 1, .long 2, .long 1, .long 2]
def aboutOver (below : List Frame) : State where
  vm := { classes := classes, interned := interned.toArray }
  heap := heap
  slotsUsed := slotsUsed
  threads := #[{ frames := .invoking theMethod args0 :: below }]
def below0 : List Frame := [.native { method := ⟨0, 0⟩, args := #[] }]
def about1 : State := aboutOver below0
def p0 : Program := .bare "" "" ""
def e0 : Env := launch0.env 0 0 0
theorem w_frames : about1.frames = Frame.invoking theMethod args0 :: below0 := rfl
set_option maxRecDepth 65536 in
theorem w_args : argsFit about1.vm theMethod args0 = true := by decide +kernel
set_option maxRecDepth 65536 in
theorem w_heap : heapFits about1 = true := by decide +kernel
set_option maxRecDepth 65536 in
theorem w_runnable : about1.curStatus? = some .runnable := by decide +kernel
set_option maxRecDepth 65536 in
theorem w_alone : about1.alone = true := by decide +kernel
set_option maxRecDepth 65536 in
theorem w_named : about1.methodNamed? x = some theMethod := by decide +kernel
set_option maxRecDepth 65536 in
theorem w_hears : about1.hears theMethod below0 = true := by decide +kernel
set_option maxRecDepth 65536 in
theorem w_ripe : about1.ripe theMethod args0 below0 = true := by decide +kernel
theorem w_running : about1.status = .running := rfl
set_option maxRecDepth 65536 in
theorem w_room : about1.hasRoom e0.platform room_1 = true :=
  launch0.hasRoom_least _ room_1 (by decide +kernel) (by decide +kernel) (by decide +kernel) (by decide +kernel) (by decide +kernel) (by decide +kernel)
theorem allAtoms_all (ts : List Jvm.Cond) (a : Array Jvm.Value) (st : Jvm.State) : (allAtoms ts).before a st = ts.all (fun c => c.before a st) := by
  induction ts with
  | nil => rfl
  | cons c t ih =>
    show (Jvm.Cond.and c (allAtoms t)).before a st = _
    rw [Jvm.Cond.before_and, ih, List.all_cons]
def words1 : List Jvm.Cond := Jvm.Cond.code x code maxLocals ret :: tables_1
/-- a 'code' word, met by the world's own term for the bytes: nothing is compared byte by byte -/
theorem code_word {y : MethodName} {bytes : ByteArray} {mx : Nat} {rt : Option FieldType} {a : Array Value} {s : State} {m : MethodId} {meth : Method} {c : Code} (h1 : s.methodNamed? y = some m) (h2 : s.vm.method? m = some meth) (h3 : meth.code = some c) (h4 : c.code = bytes)
    (h5 : (c.maxLocals == mx && c.exceptionTable.isEmpty && decide (c.maxStack ≤ mostOperands) && decide (meth.sig.returnType = rt) && !meth.locks && decide (parseMethodDescriptor y.desc = some meth.sig)) = true) : (Jvm.Cond.code y bytes mx rt).before a s = true := by
  simp only [Bool.and_eq_true, beq_iff_eq, Bool.not_eq_true', decide_eq_true_eq] at h5
  obtain ⟨⟨⟨⟨⟨g1, g2⟩, g3⟩, g4⟩, g5⟩, g6⟩ := h5
  simp [Cond.before, Cond.holds, Cond.value, h1, h2, h3, h4, g1, g2, g3, g4, g5, g6]
def isCode : Jvm.Cond → Bool
  | .code _ _ _ _ => true
  | _ => false
theorem all_split {L : List Jvm.Cond} {P : Jvm.Cond → Bool} (h1 : L.all (fun c => isCode c || P c) = true) (h2 : ∀ c ∈ L.filter isCode, P c = true) : L.all P = true := by
  refine List.all_eq_true.mpr fun c hc => ?_
  have h := List.all_eq_true.mp h1 c hc
  rcases Bool.eq_false_or_eq_true (isCode c) with hi | hi
  · exact h2 c (List.mem_filter.mpr ⟨hc, hi⟩)
  · simpa [hi] using h
set_option maxRecDepth 65536 in
theorem w_c0 : (Jvm.Cond.code x code maxLocals ret).before args0 about1 = true := code_word (m := ⟨1, 3⟩) (meth := k1m3) (c := k1c3) (by decide +kernel) rfl rfl rfl (by decide +kernel)
set_option maxRecDepth 65536 in
theorem w_c1 : (Jvm.Cond.code ({ cls := "com/example/brisk_dedup/briskdedup/engine/FractionMeanIsEmptyPinLaw", name := "den", desc := "(J)J" } : Jvm.MethodName) method_2_code (4 : Nat) (Option.some Jvm.ClassFile.FieldType.long)).before args0 about1 = true := code_word (m := ⟨1, 1⟩) (meth := k1m1) (c := k1c1) (by decide +kernel) rfl rfl rfl (by decide +kernel)
set_option maxRecDepth 65536 in
theorem w_c2 : (Jvm.Cond.code ({ cls := "com/example/brisk_dedup/briskdedup/engine/FractionMeanIsEmptyPinLaw", name := "num", desc := "(JJZ)J" } : Jvm.MethodName) method_3_code (5 : Nat) (Option.some Jvm.ClassFile.FieldType.long)).before args0 about1 = true := code_word (m := ⟨1, 2⟩) (meth := k1m2) (c := k1c2) (by decide +kernel) rfl rfl rfl (by decide +kernel)
set_option maxRecDepth 65536 in
theorem w_c3 : (Jvm.Cond.code ({ cls := "com/example/brisk_dedup/briskdedup/engine/FractionMean", name := "<init>", desc := "()V" } : Jvm.MethodName) prog_36_method_1_code (1 : Nat) (Option.none : Option Jvm.ClassFile.FieldType)).before args0 about1 = true := code_word (m := ⟨2, 0⟩) (meth := k2m0) (c := k2c0) (by decide +kernel) rfl rfl rfl (by decide +kernel)
set_option maxRecDepth 65536 in
theorem w_c4 : (Jvm.Cond.code ({ cls := "java/lang/Object", name := "<init>", desc := "()V" } : Jvm.MethodName) object_method_1_code (1 : Nat) (Option.none : Option Jvm.ClassFile.FieldType)).before args0 about1 = true := code_word (m := ⟨0, 0⟩) (meth := k0m0) (c := k0c0) (by decide +kernel) rfl rfl rfl (by decide +kernel)
set_option maxRecDepth 65536 in
theorem w_c5 : (Jvm.Cond.code ({ cls := "com/example/brisk_dedup/briskdedup/engine/FractionMean", name := "isEmpty", desc := "()Z" } : Jvm.MethodName) prog_36_method_3_code (1 : Nat) (Option.some Jvm.ClassFile.FieldType.boolean)).before args0 about1 = true := code_word (m := ⟨2, 2⟩) (meth := k2m2) (c := k2c2) (by decide +kernel) rfl rfl rfl (by decide +kernel)
set_option maxRecDepth 65536 in
theorem w_c6 : (Jvm.Cond.code ({ cls := "java/lang/Math", name := "multiplyExact", desc := "(JJ)J" } : Jvm.MethodName) jdk_29_method_30_code (10 : Nat) (Option.some Jvm.ClassFile.FieldType.long)).before args0 about1 = true := code_word (m := ⟨3, 2⟩) (meth := k3m2) (c := k3c2) (by decide +kernel) rfl rfl rfl (by decide +kernel)
set_option maxRecDepth 65536 in
theorem w_c7 : (Jvm.Cond.code ({ cls := "java/lang/Math", name := "abs", desc := "(J)J" } : Jvm.MethodName) jdk_29_method_61_code (2 : Nat) (Option.some Jvm.ClassFile.FieldType.long)).before args0 about1 = true := code_word (m := ⟨3, 3⟩) (meth := k3m3) (c := k3c3) (by decide +kernel) rfl rfl rfl (by decide +kernel)
set_option maxRecDepth 65536 in
theorem w_c8 : (Jvm.Cond.code ({ cls := "java/lang/Math", name := "addExact", desc := "(JJ)J" } : Jvm.MethodName) jdk_29_method_25_code (6 : Nat) (Option.some Jvm.ClassFile.FieldType.long)).before args0 about1 = true := code_word (m := ⟨3, 1⟩) (meth := k3m1) (c := k3c1) (by decide +kernel) rfl rfl rfl (by decide +kernel)
set_option maxRecDepth 65536 in
theorem w_c9 : (Jvm.Cond.code ({ cls := "java/lang/ArithmeticException", name := "<init>", desc := "(Ljava/lang/String;)V" } : Jvm.MethodName) jdk_84_method_2_code (2 : Nat) (Option.none : Option Jvm.ClassFile.FieldType)).before args0 about1 = true := code_word (m := ⟨8, 1⟩) (meth := k8m1) (c := k8c1) (by decide +kernel) rfl rfl rfl (by decide +kernel)
set_option maxRecDepth 65536 in
theorem w_c10 : (Jvm.Cond.code ({ cls := "java/lang/RuntimeException", name := "<init>", desc := "(Ljava/lang/String;)V" } : Jvm.MethodName) jdk_58_method_2_code (2 : Nat) (Option.none : Option Jvm.ClassFile.FieldType)).before args0 about1 = true := code_word (m := ⟨7, 1⟩) (meth := k7m1) (c := k7c1) (by decide +kernel) rfl rfl rfl (by decide +kernel)
set_option maxRecDepth 65536 in
theorem w_c11 : (Jvm.Cond.code ({ cls := "java/lang/Exception", name := "<init>", desc := "(Ljava/lang/String;)V" } : Jvm.MethodName) jdk_59_method_2_code (2 : Nat) (Option.none : Option Jvm.ClassFile.FieldType)).before args0 about1 = true := code_word (m := ⟨6, 1⟩) (meth := k6m1) (c := k6c1) (by decide +kernel) rfl rfl rfl (by decide +kernel)
set_option maxRecDepth 65536 in
theorem w_c12 : (Jvm.Cond.code ({ cls := "java/lang/Throwable", name := "<init>", desc := "(Ljava/lang/String;)V" } : Jvm.MethodName) jdk_78_method_2_code (2 : Nat) (Option.none : Option Jvm.ClassFile.FieldType)).before args0 about1 = true := code_word (m := ⟨5, 1⟩) (meth := k5m1) (c := k5c1) (by decide +kernel) rfl rfl rfl (by decide +kernel)
set_option maxRecDepth 65536 in
theorem w_c13 : (Jvm.Cond.code ({ cls := "java/lang/Throwable", name := "<init>", desc := "()V" } : Jvm.MethodName) jdk_78_method_1_code (1 : Nat) (Option.none : Option Jvm.ClassFile.FieldType)).before args0 about1 = true := code_word (m := ⟨5, 0⟩) (meth := k5m0) (c := k5c0) (by decide +kernel) rfl rfl rfl (by decide +kernel)
set_option maxRecDepth 65536 in
theorem w_c14 : (Jvm.Cond.code ({ cls := "java/math/BigInteger", name := "valueOf", desc := "(J)Ljava/math/BigInteger;" } : Jvm.MethodName) jdk_2097_method_29_code (2 : Nat) (Option.some (Jvm.ClassFile.FieldType.object "java/math/BigInteger"))).before args0 about1 = true := code_word (m := ⟨15, 1⟩) (meth := k15m1) (c := k15c1) (by decide +kernel) rfl rfl rfl (by decide +kernel)
set_option maxRecDepth 65536 in
theorem w_c15 : (Jvm.Cond.code ({ cls := "java/math/BigInteger", name := "<init>", desc := "(J)V" } : Jvm.MethodName) jdk_2097_method_30_code (4 : Nat) (Option.none : Option Jvm.ClassFile.FieldType)).before args0 about1 = true := code_word (m := ⟨15, 2⟩) (meth := k15m2) (c := k15c2) (by decide +kernel) rfl rfl rfl (by decide +kernel)
set_option maxRecDepth 65536 in
theorem w_c16 : (Jvm.Cond.code ({ cls := "java/lang/Number", name := "<init>", desc := "()V" } : Jvm.MethodName) jdk_18_method_1_code (1 : Nat) (Option.none : Option Jvm.ClassFile.FieldType)).before args0 about1 = true := code_word (m := ⟨14, 0⟩) (meth := k14m0) (c := k14c0) (by decide +kernel) rfl rfl rfl (by decide +kernel)
set_option maxRecDepth 65536 in
theorem w_c17 : (Jvm.Cond.code ({ cls := "java/math/BigInteger", name := "multiply", desc := "(Ljava/math/BigInteger;)Ljava/math/BigInteger;" } : Jvm.MethodName) jdk_2097_method_40_code (2 : Nat) (Option.some (Jvm.ClassFile.FieldType.object "java/math/BigInteger"))).before args0 about1 = true := code_word (m := ⟨15, 5⟩) (meth := k15m5) (c := k15c5) (by decide +kernel) rfl rfl rfl (by decide +kernel)
set_option maxRecDepth 65536 in
theorem w_c18 : (Jvm.Cond.code ({ cls := "java/math/BigInteger", name := "multiply", desc := "(Ljava/math/BigInteger;ZZI)Ljava/math/BigInteger;" } : Jvm.MethodName) jdk_2097_method_42_code (9 : Nat) (Option.some (Jvm.ClassFile.FieldType.object "java/math/BigInteger"))).before args0 about1 = true := code_word (m := ⟨15, 6⟩) (meth := k15m6) (c := k15c6) (by decide +kernel) rfl rfl rfl (by decide +kernel)
set_option maxRecDepth 65536 in
theorem w_c19 : (Jvm.Cond.code ({ cls := "java/math/BigInteger", name := "multiplyByInt", desc := "([III)Ljava/math/BigInteger;" } : Jvm.MethodName) jdk_2097_method_43_code (13 : Nat) (Option.some (Jvm.ClassFile.FieldType.object "java/math/BigInteger"))).before args0 about1 = true := code_word (m := ⟨15, 7⟩) (meth := k15m7) (c := k15c7) (by decide +kernel) rfl rfl rfl (by decide +kernel)
set_option maxRecDepth 65536 in
theorem w_c20 : (Jvm.Cond.code ({ cls := "java/lang/Integer", name := "bitCount", desc := "(I)I" } : Jvm.MethodName) jdk_33_method_49_code (1 : Nat) (Option.some Jvm.ClassFile.FieldType.int)).before args0 about1 = true := code_word (m := ⟨16, 1⟩) (meth := k16m1) (c := k16c1) (by decide +kernel) rfl rfl rfl (by decide +kernel)
set_option maxRecDepth 65536 in
theorem w_c21 : (Jvm.Cond.code ({ cls := "java/math/BigInteger", name := "<init>", desc := "([II)V" } : Jvm.MethodName) jdk_2097_method_25_code (3 : Nat) (Option.none : Option Jvm.ClassFile.FieldType)).before args0 about1 = true := code_word (m := ⟨15, 0⟩) (meth := k15m0) (c := k15c0) (by decide +kernel) rfl rfl rfl (by decide +kernel)
set_option maxRecDepth 65536 in
theorem w_c22 : (Jvm.Cond.code ({ cls := "java/math/BigInteger", name := "add", desc := "(Ljava/math/BigInteger;)Ljava/math/BigInteger;" } : Jvm.MethodName) jdk_2097_method_32_code (4 : Nat) (Option.some (Jvm.ClassFile.FieldType.object "java/math/BigInteger"))).before args0 about1 = true := code_word (m := ⟨15, 3⟩) (meth := k15m3) (c := k15c3) (by decide +kernel) rfl rfl rfl (by decide +kernel)
set_option maxRecDepth 65536 in
theorem w_c23 : (Jvm.Cond.code ({ cls := "java/math/BigInteger", name := "add", desc := "([I[I)[I" } : Jvm.MethodName) jdk_2097_method_35_code (9 : Nat) (Option.some (Jvm.ClassFile.FieldType.array Jvm.ClassFile.FieldType.int))).before args0 about1 = true := code_word (m := ⟨15, 4⟩) (meth := k15m4) (c := k15c4) (by decide +kernel) rfl rfl rfl (by decide +kernel)
set_option maxRecDepth 65536 in
theorem w_c24 : (Jvm.Cond.code ({ cls := "java/math/BigInteger", name := "multiplyToLen", desc := "([II[II[I)[I" } : Jvm.MethodName) jdk_2097_method_45_code (5 : Nat) (Option.some (Jvm.ClassFile.FieldType.array Jvm.ClassFile.FieldType.int))).before args0 about1 = true := code_word (m := ⟨15, 8⟩) (meth := k15m8) (c := k15c8) (by decide +kernel) rfl rfl rfl (by decide +kernel)
set_option maxRecDepth 65536 in
theorem w_c25 : (Jvm.Cond.code ({ cls := "java/math/BigInteger", name := "multiplyToLenCheck", desc := "([II)V" } : Jvm.MethodName) jdk_2097_method_47_code (2 : Nat) (Option.none : Option Jvm.ClassFile.FieldType)).before args0 about1 = true := code_word (m := ⟨15, 10⟩) (meth := k15m10) (c := k15c10) (by decide +kernel) rfl rfl rfl (by decide +kernel)
set_option maxRecDepth 65536 in
theorem w_c26 : (Jvm.Cond.code ({ cls := "java/util/Objects", name := "requireNonNull", desc := "(Ljava/lang/Object;)Ljava/lang/Object;" } : Jvm.MethodName) jdk_31_method_10_code (1 : Nat) (Option.some (Jvm.ClassFile.FieldType.object "java/lang/Object"))).before args0 about1 = true := code_word (m := ⟨17, 1⟩) (meth := k17m1) (c := k17c1) (by decide +kernel) rfl rfl rfl (by decide +kernel)
set_option maxRecDepth 65536 in
theorem w_c27 : (Jvm.Cond.code ({ cls := "java/math/BigInteger", name := "implMultiplyToLen", desc := "([II[II[I)[I" } : Jvm.MethodName) jdk_2097_method_46_code (14 : Nat) (Option.some (Jvm.ClassFile.FieldType.array Jvm.ClassFile.FieldType.int))).before args0 about1 = true := code_word (m := ⟨15, 9⟩) (meth := k15m9) (c := k15c9) (by decide +kernel) rfl rfl rfl (by decide +kernel)
set_option maxRecDepth 65536 in
theorem w_c28 : (Jvm.Cond.code ({ cls := "java/math/BigInteger", name := "trustedStripLeadingZeroInts", desc := "([I)[I" } : Jvm.MethodName) jdk_2097_method_140_code (3 : Nat) (Option.some (Jvm.ClassFile.FieldType.array Jvm.ClassFile.FieldType.int))).before args0 about1 = true := code_word (m := ⟨15, 13⟩) (meth := k15m13) (c := k15c13) (by decide +kernel) rfl rfl rfl (by decide +kernel)
set_option maxRecDepth 65536 in
theorem w_c29 : (Jvm.Cond.code ({ cls := "java/lang/Integer", name := "numberOfTrailingZeros", desc := "(I)I" } : Jvm.MethodName) jdk_33_method_48_code (2 : Nat) (Option.some Jvm.ClassFile.FieldType.int)).before args0 about1 = true := code_word (m := ⟨16, 0⟩) (meth := k16m0) (c := k16c0) (by decide +kernel) rfl rfl rfl (by decide +kernel)
set_option maxRecDepth 65536 in
theorem w_c30 : (Jvm.Cond.code ({ cls := "java/math/BigInteger", name := "shiftLeft", desc := "([II)[I" } : Jvm.MethodName) jdk_2097_method_102_code (10 : Nat) (Option.some (Jvm.ClassFile.FieldType.array Jvm.ClassFile.FieldType.int))).before args0 about1 = true := code_word (m := ⟨15, 11⟩) (meth := k15m11) (c := k15c11) (by decide +kernel) rfl rfl rfl (by decide +kernel)
set_option maxRecDepth 65536 in
theorem w_c31 : (Jvm.Cond.code ({ cls := "java/util/Arrays", name := "copyOfRange", desc := "([III)[I" } : Jvm.MethodName) jdk_65_method_136_code (3 : Nat) (Option.some (Jvm.ClassFile.FieldType.array Jvm.ClassFile.FieldType.int))).before args0 about1 = true := code_word (m := ⟨19, 2⟩) (meth := k19m2) (c := k19c2) (by decide +kernel) rfl rfl rfl (by decide +kernel)
set_option maxRecDepth 65536 in
theorem w_c32 : (Jvm.Cond.code ({ cls := "java/util/Arrays", name := "copyOfRangeInt", desc := "([III)[I" } : Jvm.MethodName) jdk_65_method_137_code (5 : Nat) (Option.some (Jvm.ClassFile.FieldType.array Jvm.ClassFile.FieldType.int))).before args0 about1 = true := code_word (m := ⟨19, 3⟩) (meth := k19m3) (c := k19c3) (by decide +kernel) rfl rfl rfl (by decide +kernel)
set_option maxRecDepth 65536 in
theorem w_c33 : (Jvm.Cond.code ({ cls := "java/util/Arrays", name := "checkLength", desc := "(II)V" } : Jvm.MethodName) jdk_65_method_131_code (2 : Nat) (Option.none : Option Jvm.ClassFile.FieldType)).before args0 about1 = true := code_word (m := ⟨19, 1⟩) (meth := k19m1) (c := k19c1) (by decide +kernel) rfl rfl rfl (by decide +kernel)
set_option maxRecDepth 65536 in
theorem w_c34 : (Jvm.Cond.code ({ cls := "java/lang/Math", name := "min", desc := "(II)I" } : Jvm.MethodName) jdk_29_method_69_code (2 : Nat) (Option.some Jvm.ClassFile.FieldType.int)).before args0 about1 = true := code_word (m := ⟨3, 4⟩) (meth := k3m4) (c := k3c4) (by decide +kernel) rfl rfl rfl (by decide +kernel)
set_option maxRecDepth 65536 in
theorem w_c35 : (Jvm.Cond.code ({ cls := "java/util/Objects", name := "checkFromToIndex", desc := "(III)I" } : Jvm.MethodName) jdk_31_method_18_code (3 : Nat) (Option.some Jvm.ClassFile.FieldType.int)).before args0 about1 = true := code_word (m := ⟨17, 2⟩) (meth := k17m2) (c := k17c2) (by decide +kernel) rfl rfl rfl (by decide +kernel)
set_option maxRecDepth 65536 in
theorem w_c36 : (Jvm.Cond.code ({ cls := "jdk/internal/util/Preconditions", name := "checkFromToIndex", desc := "(IIILjava/util/function/BiFunction;)I" } : Jvm.MethodName) jdk_41_method_12_code (4 : Nat) (Option.some Jvm.ClassFile.FieldType.int)).before args0 about1 = true := code_word (m := ⟨20, 1⟩) (meth := k20m1) (c := k20c1) (by decide +kernel) rfl rfl rfl (by decide +kernel)
set_option maxRecDepth 65536 in
theorem w_c37 : (Jvm.Cond.code ({ cls := "java/math/BigInteger", name := "shiftLeftImplWorker", desc := "([I[IIII)V" } : Jvm.MethodName) jdk_2097_method_103_code (7 : Nat) (Option.none : Option Jvm.ClassFile.FieldType)).before args0 about1 = true := code_word (m := ⟨15, 12⟩) (meth := k15m12) (c := k15c12) (by decide +kernel) rfl rfl rfl (by decide +kernel)
def codes1 : List Jvm.Cond := [Jvm.Cond.code x code maxLocals ret, Jvm.Cond.code ({ cls := "com/example/brisk_dedup/briskdedup/engine/FractionMeanIsEmptyPinLaw", name := "den", desc := "(J)J" } : Jvm.MethodName) method_2_code (4 : Nat) (Option.some Jvm.ClassFile.FieldType.long), Jvm.Cond.code ({ cls := "com/example/brisk_dedup/briskdedup/engine/FractionMeanIsEmptyPinLaw", name := "num", desc := "(JJZ)J" } : Jvm.MethodName) method_3_code (5 : Nat) (Option.some Jvm.ClassFile.FieldType.long), Jvm.Cond.code ({ cls := "com/example/brisk_dedup/briskdedup/engine/FractionMean", name := "<init>", desc := "()V" } : Jvm.MethodName) prog_36_method_1_code (1 : Nat) (Option.none : Option Jvm.ClassFile.FieldType), Jvm.Cond.code ({ cls := "java/lang/Object", name := "<init>", desc := "()V" } : Jvm.MethodName) object_method_1_code (1 : Nat) (Option.none : Option Jvm.ClassFile.FieldType), Jvm.Cond.code ({ cls := "com/example/brisk_dedup/briskdedup/engine/FractionMean", name := "isEmpty", desc := "()Z" } : Jvm.MethodName) prog_36_method_3_code (1 : Nat) (Option.some Jvm.ClassFile.FieldType.boolean), Jvm.Cond.code ({ cls := "java/lang/Math", name := "multiplyExact", desc := "(JJ)J" } : Jvm.MethodName) jdk_29_method_30_code (10 : Nat) (Option.some Jvm.ClassFile.FieldType.long), Jvm.Cond.code ({ cls := "java/lang/Math", name := "abs", desc := "(J)J" } : Jvm.MethodName) jdk_29_method_61_code (2 : Nat) (Option.some Jvm.ClassFile.FieldType.long), Jvm.Cond.code ({ cls := "java/lang/Math", name := "addExact", desc := "(JJ)J" } : Jvm.MethodName) jdk_29_method_25_code (6 : Nat) (Option.some Jvm.ClassFile.FieldType.long), Jvm.Cond.code ({ cls := "java/lang/ArithmeticException", name := "<init>", desc := "(Ljava/lang/String;)V" } : Jvm.MethodName) jdk_84_method_2_code (2 : Nat) (Option.none : Option Jvm.ClassFile.FieldType), Jvm.Cond.code ({ cls := "java/lang/RuntimeException", name := "<init>", desc := "(Ljava/lang/String;)V" } : Jvm.MethodName) jdk_58_method_2_code (2 : Nat) (Option.none : Option Jvm.ClassFile.FieldType), Jvm.Cond.code ({ cls := "java/lang/Exception", name := "<init>", desc := "(Ljava/lang/String;)V" } : Jvm.MethodName) jdk_59_method_2_code (2 : Nat) (Option.none : Option Jvm.ClassFile.FieldType), Jvm.Cond.code ({ cls := "java/lang/Throwable", name := "<init>", desc := "(Ljava/lang/String;)V" } : Jvm.MethodName) jdk_78_method_2_code (2 : Nat) (Option.none : Option Jvm.ClassFile.FieldType), Jvm.Cond.code ({ cls := "java/lang/Throwable", name := "<init>", desc := "()V" } : Jvm.MethodName) jdk_78_method_1_code (1 : Nat) (Option.none : Option Jvm.ClassFile.FieldType), Jvm.Cond.code ({ cls := "java/math/BigInteger", name := "valueOf", desc := "(J)Ljava/math/BigInteger;" } : Jvm.MethodName) jdk_2097_method_29_code (2 : Nat) (Option.some (Jvm.ClassFile.FieldType.object "java/math/BigInteger")), Jvm.Cond.code ({ cls := "java/math/BigInteger", name := "<init>", desc := "(J)V" } : Jvm.MethodName) jdk_2097_method_30_code (4 : Nat) (Option.none : Option Jvm.ClassFile.FieldType), Jvm.Cond.code ({ cls := "java/lang/Number", name := "<init>", desc := "()V" } : Jvm.MethodName) jdk_18_method_1_code (1 : Nat) (Option.none : Option Jvm.ClassFile.FieldType), Jvm.Cond.code ({ cls := "java/math/BigInteger", name := "multiply", desc := "(Ljava/math/BigInteger;)Ljava/math/BigInteger;" } : Jvm.MethodName) jdk_2097_method_40_code (2 : Nat) (Option.some (Jvm.ClassFile.FieldType.object "java/math/BigInteger")), Jvm.Cond.code ({ cls := "java/math/BigInteger", name := "multiply", desc := "(Ljava/math/BigInteger;ZZI)Ljava/math/BigInteger;" } : Jvm.MethodName) jdk_2097_method_42_code (9 : Nat) (Option.some (Jvm.ClassFile.FieldType.object "java/math/BigInteger")), Jvm.Cond.code ({ cls := "java/math/BigInteger", name := "multiplyByInt", desc := "([III)Ljava/math/BigInteger;" } : Jvm.MethodName) jdk_2097_method_43_code (13 : Nat) (Option.some (Jvm.ClassFile.FieldType.object "java/math/BigInteger")), Jvm.Cond.code ({ cls := "java/lang/Integer", name := "bitCount", desc := "(I)I" } : Jvm.MethodName) jdk_33_method_49_code (1 : Nat) (Option.some Jvm.ClassFile.FieldType.int), Jvm.Cond.code ({ cls := "java/math/BigInteger", name := "<init>", desc := "([II)V" } : Jvm.MethodName) jdk_2097_method_25_code (3 : Nat) (Option.none : Option Jvm.ClassFile.FieldType), Jvm.Cond.code ({ cls := "java/math/BigInteger", name := "add", desc := "(Ljava/math/BigInteger;)Ljava/math/BigInteger;" } : Jvm.MethodName) jdk_2097_method_32_code (4 : Nat) (Option.some (Jvm.ClassFile.FieldType.object "java/math/BigInteger")), Jvm.Cond.code ({ cls := "java/math/BigInteger", name := "add", desc := "([I[I)[I" } : Jvm.MethodName) jdk_2097_method_35_code (9 : Nat) (Option.some (Jvm.ClassFile.FieldType.array Jvm.ClassFile.FieldType.int)), Jvm.Cond.code ({ cls := "java/math/BigInteger", name := "multiplyToLen", desc := "([II[II[I)[I" } : Jvm.MethodName) jdk_2097_method_45_code (5 : Nat) (Option.some (Jvm.ClassFile.FieldType.array Jvm.ClassFile.FieldType.int)), Jvm.Cond.code ({ cls := "java/math/BigInteger", name := "multiplyToLenCheck", desc := "([II)V" } : Jvm.MethodName) jdk_2097_method_47_code (2 : Nat) (Option.none : Option Jvm.ClassFile.FieldType), Jvm.Cond.code ({ cls := "java/util/Objects", name := "requireNonNull", desc := "(Ljava/lang/Object;)Ljava/lang/Object;" } : Jvm.MethodName) jdk_31_method_10_code (1 : Nat) (Option.some (Jvm.ClassFile.FieldType.object "java/lang/Object")), Jvm.Cond.code ({ cls := "java/math/BigInteger", name := "implMultiplyToLen", desc := "([II[II[I)[I" } : Jvm.MethodName) jdk_2097_method_46_code (14 : Nat) (Option.some (Jvm.ClassFile.FieldType.array Jvm.ClassFile.FieldType.int)), Jvm.Cond.code ({ cls := "java/math/BigInteger", name := "trustedStripLeadingZeroInts", desc := "([I)[I" } : Jvm.MethodName) jdk_2097_method_140_code (3 : Nat) (Option.some (Jvm.ClassFile.FieldType.array Jvm.ClassFile.FieldType.int)), Jvm.Cond.code ({ cls := "java/lang/Integer", name := "numberOfTrailingZeros", desc := "(I)I" } : Jvm.MethodName) jdk_33_method_48_code (2 : Nat) (Option.some Jvm.ClassFile.FieldType.int), Jvm.Cond.code ({ cls := "java/math/BigInteger", name := "shiftLeft", desc := "([II)[I" } : Jvm.MethodName) jdk_2097_method_102_code (10 : Nat) (Option.some (Jvm.ClassFile.FieldType.array Jvm.ClassFile.FieldType.int)), Jvm.Cond.code ({ cls := "java/util/Arrays", name := "copyOfRange", desc := "([III)[I" } : Jvm.MethodName) jdk_65_method_136_code (3 : Nat) (Option.some (Jvm.ClassFile.FieldType.array Jvm.ClassFile.FieldType.int)), Jvm.Cond.code ({ cls := "java/util/Arrays", name := "copyOfRangeInt", desc := "([III)[I" } : Jvm.MethodName) jdk_65_method_137_code (5 : Nat) (Option.some (Jvm.ClassFile.FieldType.array Jvm.ClassFile.FieldType.int)), Jvm.Cond.code ({ cls := "java/util/Arrays", name := "checkLength", desc := "(II)V" } : Jvm.MethodName) jdk_65_method_131_code (2 : Nat) (Option.none : Option Jvm.ClassFile.FieldType), Jvm.Cond.code ({ cls := "java/lang/Math", name := "min", desc := "(II)I" } : Jvm.MethodName) jdk_29_method_69_code (2 : Nat) (Option.some Jvm.ClassFile.FieldType.int), Jvm.Cond.code ({ cls := "java/util/Objects", name := "checkFromToIndex", desc := "(III)I" } : Jvm.MethodName) jdk_31_method_18_code (3 : Nat) (Option.some Jvm.ClassFile.FieldType.int), Jvm.Cond.code ({ cls := "jdk/internal/util/Preconditions", name := "checkFromToIndex", desc := "(IIILjava/util/function/BiFunction;)I" } : Jvm.MethodName) jdk_41_method_12_code (4 : Nat) (Option.some Jvm.ClassFile.FieldType.int), Jvm.Cond.code ({ cls := "java/math/BigInteger", name := "shiftLeftImplWorker", desc := "([I[IIII)V" } : Jvm.MethodName) jdk_2097_method_103_code (7 : Nat) (Option.none : Option Jvm.ClassFile.FieldType)]
set_option maxRecDepth 65536 in
theorem codes_eq : words1.filter isCode = codes1 := rfl
theorem w_codes : ∀ c ∈ words1.filter isCode, c.before args0 about1 = true := by
  rw [codes_eq]
  intro c hc
  simp only [codes1, List.mem_cons, List.not_mem_nil, or_false] at hc
  rcases hc with rfl | rfl | rfl | rfl | rfl | rfl | rfl | rfl | rfl | rfl | rfl | rfl | rfl | rfl | rfl | rfl | rfl | rfl | rfl | rfl | rfl | rfl | rfl | rfl | rfl | rfl | rfl | rfl | rfl | rfl | rfl | rfl | rfl | rfl | rfl | rfl | rfl | rfl
  · exact w_c0
  · exact w_c1
  · exact w_c2
  · exact w_c3
  · exact w_c4
  · exact w_c5
  · exact w_c6
  · exact w_c7
  · exact w_c8
  · exact w_c9
  · exact w_c10
  · exact w_c11
  · exact w_c12
  · exact w_c13
  · exact w_c14
  · exact w_c15
  · exact w_c16
  · exact w_c17
  · exact w_c18
  · exact w_c19
  · exact w_c20
  · exact w_c21
  · exact w_c22
  · exact w_c23
  · exact w_c24
  · exact w_c25
  · exact w_c26
  · exact w_c27
  · exact w_c28
  · exact w_c29
  · exact w_c30
  · exact w_c31
  · exact w_c32
  · exact w_c33
  · exact w_c34
  · exact w_c35
  · exact w_c36
  · exact w_c37
set_option maxRecDepth 65536 in
theorem w_t1 : (words1.take 24).all (fun c => isCode c || c.before args0 about1) = true := by decide +kernel
set_option maxRecDepth 65536 in
theorem w_t2 : ((words1.drop 24).take 24).all (fun c => isCode c || c.before args0 about1) = true := by decide +kernel
set_option maxRecDepth 65536 in
theorem w_t3 : (((words1.drop 24).drop 24).take 24).all (fun c => isCode c || c.before args0 about1) = true := by decide +kernel
set_option maxRecDepth 65536 in
theorem w_t4 : ((((words1.drop 24).drop 24).drop 24).take 24).all (fun c => isCode c || c.before args0 about1) = true := by decide +kernel
set_option maxRecDepth 65536 in
theorem w_t5 : (((((words1.drop 24).drop 24).drop 24).drop 24).take 24).all (fun c => isCode c || c.before args0 about1) = true := by decide +kernel
set_option maxRecDepth 65536 in
theorem w_t6 : ((((((words1.drop 24).drop 24).drop 24).drop 24).drop 24).take 24).all (fun c => isCode c || c.before args0 about1) = true := by decide +kernel
set_option maxRecDepth 65536 in
theorem w_t7 : (((((((words1.drop 24).drop 24).drop 24).drop 24).drop 24).drop 24).take 24).all (fun c => isCode c || c.before args0 about1) = true := by decide +kernel
set_option maxRecDepth 65536 in
theorem w_t8 : ((((((((words1.drop 24).drop 24).drop 24).drop 24).drop 24).drop 24).drop 24).take 24).all (fun c => isCode c || c.before args0 about1) = true := by decide +kernel
set_option maxRecDepth 65536 in
theorem w_t9 : (((((((((words1.drop 24).drop 24).drop 24).drop 24).drop 24).drop 24).drop 24).drop 24).take 24).all (fun c => isCode c || c.before args0 about1) = true := by decide +kernel
set_option maxRecDepth 65536 in
theorem w_t10 : (((((((((words1.drop 24).drop 24).drop 24).drop 24).drop 24).drop 24).drop 24).drop 24).drop 24).all (fun c => isCode c || c.before args0 about1) = true := by decide +kernel
theorem w_tables : (allAtoms (Jvm.Cond.code x code maxLocals ret :: tables_1)).before args0 about1 = true := by
  rw [allAtoms_all]
  show words1.all (fun c => c.before args0 about1) = true
  refine all_split ?_ w_codes
  rw [← List.take_append_drop 24 words1, List.all_append, w_t1, ← List.take_append_drop 24 (words1.drop 24), List.all_append, w_t2, ← List.take_append_drop 24 ((words1.drop 24).drop 24), List.all_append, w_t3, ← List.take_append_drop 24 (((words1.drop 24).drop 24).drop 24), List.all_append, w_t4, ← List.take_append_drop 24 ((((words1.drop 24).drop 24).drop 24).drop 24), List.all_append, w_t5, ← List.take_append_drop 24 (((((words1.drop 24).drop 24).drop 24).drop 24).drop 24), List.all_append, w_t6, ← List.take_append_drop 24 ((((((words1.drop 24).drop 24).drop 24).drop 24).drop 24).drop 24), List.all_append, w_t7, ← List.take_append_drop 24 (((((((words1.drop 24).drop 24).drop 24).drop 24).drop 24).drop 24).drop 24), List.all_append, w_t8, ← List.take_append_drop 24 ((((((((words1.drop 24).drop 24).drop 24).drop 24).drop 24).drop 24).drop 24).drop 24), List.all_append, w_t9, w_t10]
  rfl
set_option maxRecDepth 65536 in
theorem w_rest : rest_1_c.before args0 about1 = true := by decide +kernel
set_option maxRecDepth 65536 in
theorem w_case : (Jvm.Cond.and given_1 narrow_1).before args0 about1 = true := by decide +kernel
theorem w_applies : (headSpec (Jvm.Cond.code x code maxLocals ret :: tables_1) room_1).applies x e0.platform about1 = true :=
  (Spec.applies_iff w_frames).mpr ⟨w_running, w_runnable, w_alone, w_named, w_hears, w_ripe, w_room, w_tables⟩
theorem atStart : AtStart classFile x code maxLocals ret World_1 tables_1 room_1 Calls_1 rest_1 Pre_1 launch0 p0 e0 about1 theMethod args0 below0 :=
  ⟨lists_1, trivial, launch0.admits_env _ _ _, launch0.least_env, fairChoices_fair.cas, fairChoices_fair.clock, w_frames, w_args, w_heap, w_applies, ⟨(by decide +kernel : framesKnown about1 = true), ⟨(by decide +kernel : tablesKnown about1 = true), trivial⟩⟩, w_rest, w_case⟩
end start1
theorem witness_1 : WitnessClaimed_1 := ⟨start1.p0, start1.e0, start1.about1, start1.theMethod, start1.args0, start1.below0, start1.atStart⟩
end Jvm.Pilot.@@N@@
